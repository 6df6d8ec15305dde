import PyProof.Rows.All
import Wide.All
import OpenK.AllK
import Wide.FinOn
import Lean
import PySem.Challenge.RW_xl0032_01
open PySem PySem.W PyProof.Rows
set_option Elab.async false
set_option maxRecDepth 100000
set_option maxHeartbeats 8000000
set_option compiler.extract_closed false
set_option linter.unusedVariables false
set_option rowWalk.seconds 0
namespace Mine
section
open PySem PySem.W PyProof.Rows
set_option maxRecDepth 100000
set_option maxHeartbeats 8000000
set_option compiler.extract_closed false
noncomputable def topRunT (tb : String → Option Builtin) (p : Program) (w : World) (n₀ : Nat) (ann : Option Value) : Nat → SharedT → Thread → Option SharedT
  | 0, _, _ => none
  | n + 1, s, t => match through t with
    | true => some s
    | false => match stepOk n₀ ann t with
      | false => none
      | true => match stepT (denote tb) p w s t with
        | some (s', t') => topRunT tb p w n₀ ann n s' t'
        | none => none
theorem topRun_of {tb : String → Option Builtin} {p : Program} {w : World} {n₀ : Nat} {ann : Option Value} : ∀ {n : Nat} {s s' : SharedT} {t : Thread}, topRunT tb p w n₀ ann n s t = some s' → topRun tb p w n₀ ann n s.abs t = some s'.abs
  | 0, _, _, _, h => by cases h
  | n + 1, s, s', t, h => by
    unfold topRunT at h
    unfold topRun
    cases ht : through t with
    | true => rw [ht] at h; cases h; rfl
    | false =>
      rw [ht] at h
      cases hk : stepOk n₀ ann t with
      | false => rw [hk] at h; cases h
      | true =>
        rw [hk] at h
        cases hs : stepT (denote tb) p w s t with
        | none => rw [hs] at h; cases h
        | some r => obtain ⟨s₂, t₂⟩ := r; rw [hs] at h; dsimp only; rw [stepT_spec hs]; exact topRun_of h
noncomputable def treeOf : Nat → BT → List Obj → Option BT
  | _, t, [] => some t
  | n, t, o :: r => match (t.ins n o).get n with
    | some _ => treeOf (n + 1) (t.ins n o) r
    | none => none
theorem treeOf_abs {life : Life} : ∀ {l : List Obj} {n : Nat} {t t' : BT}, treeOf n t l = some t' → (absHeap t' (n + l.length) life).objs.toList = (absHeap t n life).objs.toList ++ l
  | [], n, t, t', h => by cases h; simp
  | o :: r, n, t, t', h => by
    unfold treeOf at h
    cases hg : (t.ins n o).get n with
    | none => rw [hg] at h; cases h
    | some x =>
      rw [hg] at h
      have e := treeOf_abs (life := life) h
      rw [List.length_cons, show n + (r.length + 1) = n + 1 + r.length by omega, e, absHeap_ins (by rw [hg]; rfl)]
      show ((absHeap t n life).objs.push o).toList ++ r = _
      simp
theorem heap_abs {h : Heap} {t : BT} (e : treeOf 0 .nil h.objs.toList = some t) : absHeap t h.objs.size h.life = h := by
  have a := treeOf_abs (life := h.life) e
  obtain ⟨o, l⟩ := h
  have b : (absHeap BT.nil 0 l).objs.toList = [] := rfl
  rw [b, List.nil_append, Nat.zero_add] at a
  show absHeap t o.size l = ⟨o, l⟩
  have c : (absHeap t o.size l).objs = o := Array.toList_inj.mp (by rw [← Array.length_toList]; exact a)
  have d : (absHeap t o.size l).life = l := rfl
  calc absHeap t o.size l = ⟨(absHeap t o.size l).objs, (absHeap t o.size l).life⟩ := rfl
    _ = ⟨o, l⟩ := by rw [c, d]
noncomputable abbrev S (x : String) : Str := Str.ofString x
noncomputable abbrev V (x : String) (t : Nat) : Value := .str (Str.ofString x) t
noncomputable abbrev R (a : Addr) : Value := .ref a
noncomputable def E (P : Params) (x : String) (t : Nat) (v : Value) : DictEntry := ⟨PyData.keyHash P (Str.ofString x), .str (Str.ofString x) t, v⟩
noncomputable def st (i : Nat) : Stmt := PySem.Challenge.pw_xl0032_01.main.body.getD i default
noncomputable def sc (i j : Nat) : Stmt := match st i with
  | .ClassDef _ _ _ body _ _ _ _ _ _ _ => body.getD j default
  | x => x
noncomputable def fnD (s : Stmt) (ps : Option Arguments) (qn : Str) (gl : Addr) (cl : List (Str × Addr)) (df kw doc pm : Value) (an : Option Addr) (cd ct : Value) (bl : Addr) : FuncData := match s with
  | .FunctionDef name args body _ _ _ scope _ _ _ => { name := name, qualname := qn, params := ps.getD args, body := .stmts body, scope := scope, globals := gl, closure := cl, defaults := df, kwdefaults := kw, doc := doc, pyModule := pm, annotations := an, code := cd, closureTuple := ct, builtins := bl }
  | _ => default
noncomputable def impT (tb : String → Option Builtin) (p : Program) (w : World) : Nat → SharedT → Thread → Option SharedT
  | 0, _, _ => none
  | n + 1, s, t => match t.atExitBegin with
    | some [] => some s
    | some (_ :: _) => none
    | none => match stepT (denote tb) p w s t with
      | some (s', t') => impT tb p w n s' t'
      | none => none
theorem imp_of {tb : String → Option Builtin} {p : Program} {w : World} : ∀ {n : Nat} {s s' : SharedT} {t : Thread}, impT tb p w n s t = some s' → importEnds tb p w n s.abs t = some s'.abs
  | 0, _, _, _, h => by cases h
  | n + 1, s, s', t, h => by
    unfold impT at h
    unfold importEnds
    cases ht : t.atExitBegin with
    | some l =>
      rw [ht] at h
      cases l with
      | nil => cases h; rfl
      | cons a r => cases h
    | none =>
      rw [ht] at h
      cases hs : stepT (denote tb) p w s t with
      | none => rw [hs] at h; cases h
      | some r => obtain ⟨s₂, t₂⟩ := r; rw [hs] at h; dsimp only; rw [stepT_spec hs]; exact imp_of h
noncomputable def opT (p : Program) (N : Nat) (w : World) : Option Shared :=
  match treeOf 0 .nil (start (opening p)).1.heap.objs.toList with
  | some t => (impT treeTable (opening p) w N ⟨t, (start (opening p)).1.heap.objs.size, (start (opening p)).1.heap.life, (start (opening p)).1.gens, (start (opening p)).1.drawn, (start (opening p)).1.toks, (start (opening p)).1.os⟩ (start (opening p)).2).bind fun (s : SharedT) => fenceModules? p s.abs
  | none => none
theorem op_of {p : Program} {N : Nat} {w : World} {s : Shared} (h : opT p N w = some s) : fencedOpening treeTable p w N = some s := by
  unfold opT at h
  cases ht : treeOf 0 .nil (start (opening p)).1.heap.objs.toList with
  | none => rw [ht] at h; cases h
  | some t =>
    rw [ht] at h
    obtain ⟨s1, h1, h2⟩ := Option.bind_eq_some_iff.mp h
    have r := imp_of h1
    have ea : (SharedT.abs ⟨t, (start (opening p)).1.heap.objs.size, (start (opening p)).1.heap.life, (start (opening p)).1.gens, (start (opening p)).1.drawn, (start (opening p)).1.toks, (start (opening p)).1.os⟩) = (start (opening p)).1 := by
      unfold SharedT.abs
      dsimp only
      rw [heap_abs ht]
    rw [ea] at r
    unfold fencedOpening
    rw [r]
    exact h2
noncomputable def x18 (w : World) : Obj := ((opT PySem.Challenge.pw_xl0032_01 4408 w).map fun s => s.heap.objs.getD 18 default).getD default
noncomputable def L0 (w : World) : List Obj := [
  boot_o_0 w.params,
  (Obj.mk (Value.type "dict") none (Data.dict #[(E w.params "builtins" 162 (R 4)), (E w.params "__main__" 163 (R 5)), (E w.params "_sre" 244 (R 12))] 3) #[]),
  (Obj.mk Value.none none (Data.dict #[(E w.params "\x69mport.loaded._sre" 183 (Value.bool true)), (E w.params "class._frozen_importlib.BuiltinImporter" 185 (R 14)), (E w.params "watched.\x69mport" 206 (R 18)), (E w.params "class._frozen_importlib.ModuleSpec" 216 (R 22)), (E w.params "sys.modules.booked-epoch" 245 (Value.int 3 0)), (E w.params "\x69mport.later-laid._sre" 270 (Value.bool true)), (E w.params "watched.library" 272 (R 27)), (E w.params "watched.library-objects" 0 (V "\x0c" 0)), (E w.params "watched.library-deep._sre" 273 (V "\x04\x00\x00\x0b\x04\x00\x00\x0b\x04\x00\x00\x03\x04\x00\x00\x0b\x08\x04dict\x02" 0))] 9) #[]),
  (Obj.mk (Value.type "dict") none (Data.dict #[(E w.params "__name__" 165 (V "__main__" 164)), (E w.params "__doc__" 166 Value.none), (E w.params "__package__" 167 Value.none), (E w.params "__loader__" 168 (Value.builtin "__main__.__loader__#opaque")), (E w.params "__spec__" 169 Value.none), (E w.params "__annotations__" 170 (R 6)), (E w.params "__builtins__" 171 (R 4)), (E w.params "__file__" 173 (V "/claim/cut.py" 172)), (E w.params "__cached__" 174 Value.none), (E w.params "_sre" 275 (R 12))] 10) #[]),
  boot_o_4 w.params,
  boot_o_5 w.params,
  boot_o_6 w.params,
  boot_o_7 w.params,
  boot_o_8 w.params,
  boot_o_9 w.params,
  boot_o_10 w.params,
  (Obj.mk (Value.type "dict") none (Data.dict #[(E w.params "__name__" 247 (V "_sre" 246)), (E w.params "__doc__" 248 Value.none), (E w.params "__package__" 250 (V "" 249)), (E w.params "__loader__" 251 (Value.builtin "off-the-table:_sre.__loader__:shared#opaque")), (E w.params "__spec__" 252 (Value.builtin "off-the-table:_sre.__spec__:shared#opaque")), (E w.params "compile" 253 (Value.builtin "_sre.compile")), (E w.params "template" 254 (Value.builtin "off-the-table:_sre.template:shared#opaque")), (E w.params "getcodesize" 255 (Value.builtin "off-the-table:_sre.getcodesize:shared#opaque")), (E w.params "ascii_iscased" 256 (Value.builtin "off-the-table:_sre.ascii_iscased:shared#opaque")), (E w.params "unicode_iscased" 257 (Value.builtin "off-the-table:_sre.unicode_iscased:shared#opaque")), (E w.params "ascii_tolower" 258 (Value.builtin "off-the-table:_sre.ascii_tolower:shared#opaque")), (E w.params "unicode_tolower" 259 (Value.builtin "off-the-table:_sre.unicode_tolower:shared#opaque")), (E w.params "MAGIC" 261 (Value.int 20230612 260)), (E w.params "CODESIZE" 263 (Value.int 4 262)), (E w.params "MAXREPEAT" 265 (Value.int 4294967295 264)), (E w.params "MAXGROUPS" 267 (Value.int 1073741823 266)), (E w.params "copyright" 269 (V " SRE 2.2.2 Copyright (c) 1997-2002 by Secret Labs AB " 268))] 17) #[]),
  (Obj.mk (Value.type "module") (some 11) Data.plain #[]),
  (Obj.mk (Value.type "dict") none (Data.dict #[(E w.params "__module__" 189 (V "_frozen_importlib" 186)), (E w.params "__firstlineno__" 190 (Value.int 971 187)), (E w.params "__doc__" 191 (Value.builtin "_frozen_importlib.BuiltinImporter.__doc__:str#opaque")), (E w.params "_ORIGIN" 192 (V "built-in" 188)), (E w.params "find_spec" 193 (Value.builtin "_frozen_importlib.BuiltinImporter.find_spec#opaque")), (E w.params "create_module" 194 (Value.builtin "_frozen_importlib.BuiltinImporter.create_module#opaque")), (E w.params "exec_module" 195 (Value.builtin "_frozen_importlib.BuiltinImporter.exec_module#opaque")), (E w.params "get_code" 196 (Value.builtin "_frozen_importlib.BuiltinImporter.get_code#opaque")), (E w.params "get_source" 197 (Value.builtin "_frozen_importlib.BuiltinImporter.get_source#opaque")), (E w.params "is_package" 198 (Value.builtin "_frozen_importlib.BuiltinImporter.is_package#opaque")), (E w.params "load_module" 199 (Value.builtin "_frozen_importlib.BuiltinImporter.load_module#opaque")), (E w.params "__static_attributes__" 200 (R 15)), (E w.params "__dict__" 202 (R 16)), (E w.params "__weakref__" 204 (R 17))] 14) #[]),
  (Obj.mk (Value.type "type") none (Data.cls (ClassData.mk (S "BuiltinImporter") [(Value.type "object")] [(R 14), (Value.type "object")] 13 (S "BuiltinImporter") true [] [] false none false)) #[]),
  (Obj.mk (Value.type "tuple") none (Data.seq #[] 0) #[]),
  (Obj.mk (Value.type "getset_descriptor") none (Data.fields #[(V "__dict__" 201), (R 14), (Value.builtin "function.__dict__"), (Value.builtin "function.__dict__#set")]) #[]),
  (Obj.mk (Value.type "getset_descriptor") none (Data.fields #[(V "__weakref__" 203), (R 14), (Value.builtin "ExceptionGroup.__weakref__"), Value.none]) #[]),
  x18 w,
  (Obj.mk (Value.type "list") none (Data.seq #[] 0) #[]),
  (Obj.mk (Value.type "dict") none (Data.dict #[(E w.params "name" 208 (V "_sre" 207)), (E w.params "loader" 209 (R 14)), (E w.params "origin" 210 (V "built-in" 184)), (E w.params "loader_state" 211 Value.none), (E w.params "submodule_search_locations" 212 Value.none), (E w.params "_uninitialized_submodules" 213 (R 19)), (E w.params "_set_fileattr" 214 (Value.bool false)), (E w.params "_cached" 215 Value.none), (E w.params "_initializing" 243 (Value.bool false))] 9) #[]),
  (Obj.mk (Value.type "dict") none (Data.dict #[(E w.params "__module__" 227 (V "_frozen_importlib" 217)), (E w.params "__firstlineno__" 228 (Value.int 562 218)), (E w.params "__doc__" 229 (Value.builtin "_frozen_importlib.ModuleSpec.__doc__:str#opaque")), (E w.params "__init__" 230 (Value.builtin "_frozen_importlib.ModuleSpec.__init__#opaque")), (E w.params "__repr__" 231 (Value.builtin "_frozen_importlib.ModuleSpec.__repr__#opaque")), (E w.params "__eq__" 232 (Value.builtin "_frozen_importlib.ModuleSpec.__eq__#opaque")), (E w.params "cached" 233 (Value.builtin "_frozen_importlib.ModuleSpec.cached#opaque")), (E w.params "parent" 234 (Value.builtin "_frozen_importlib.ModuleSpec.parent#opaque")), (E w.params "has_location" 235 (Value.builtin "_frozen_importlib.ModuleSpec.has_location#opaque")), (E w.params "__static_attributes__" 236 (R 23)), (E w.params "__dict__" 238 (R 24)), (E w.params "__weakref__" 240 (R 25)), (E w.params "__hash__" 241 Value.none)] 13) #[]),
  (Obj.mk (Value.type "type") none (Data.cls (ClassData.mk (S "ModuleSpec") [(Value.type "object")] [(R 22), (Value.type "object")] 21 (S "ModuleSpec") true [] [] false none false)) #[]),
  (Obj.mk (Value.type "tuple") none (Data.seq #[(V "_cached" 219), (V "_set_fileattr" 220), (V "_uninitialized_submodules" 221), (V "loader" 222), (V "loader_state" 223), (V "name" 224), (V "origin" 225), (V "submodule_search_locations" 226)] 0) #[]),
  (Obj.mk (Value.type "getset_descriptor") none (Data.fields #[(V "__dict__" 237), (R 22), (Value.builtin "function.__dict__"), (Value.builtin "function.__dict__#set")]) #[]),
  (Obj.mk (Value.type "getset_descriptor") none (Data.fields #[(V "__weakref__" 239), (R 22), (Value.builtin "ExceptionGroup.__weakref__"), Value.none]) #[]),
  (Obj.mk (R 22) (some 20) Data.plain #[]),
  (Obj.mk Value.none none (Data.seq #[(Value.int 11 0), (Value.str (Str.mk #[6, 247, 8, 95, 95, 110, 97, 109, 101, 95, 95, 6, 246, 4, 95, 115, 114, 101, 6, 248, 7, 95, 95, 100, 111, 99, 95, 95, 0, 6, 250, 11, 95, 95, 112, 97, 99, 107, 97, 103, 101, 95, 95, 6, 249, 0, 6, 251, 10, 95, 95, 108, 111, 97, 100, 101, 114, 95, 95, 4, 0, 0, 14, 6, 252, 8, 95, 95, 115, 112, 101, 99, 95, 95, 4, 0, 0, 26, 6, 253, 7, 99, 111, 109, 112, 105, 108, 101, 9, 12, 95, 115, 114, 101, 46, 99, 111, 109, 112, 105, 108, 101, 6, 254, 8, 116, 101, 109, 112, 108, 97, 116, 101, 9, 13, 95, 115, 114, 101, 46, 116, 101, 109, 112, 108, 97, 116, 101, 6, 255, 11, 103, 101, 116, 99, 111, 100, 101, 115, 105, 122, 101, 9, 16, 95, 115, 114, 101, 46, 103, 101, 116, 99, 111, 100, 101, 115, 105, 122, 101, 6, 256, 13, 97, 115, 99, 105, 105, 95, 105, 115, 99, 97, 115, 101, 100, 9, 18, 95, 115, 114, 101, 46, 97, 115, 99, 105, 105, 95, 105, 115, 99, 97, 115, 101, 100, 6, 257, 15, 117, 110, 105, 99, 111, 100, 101, 95, 105, 115, 99, 97, 115, 101, 100, 9, 20, 95, 115, 114, 101, 46, 117, 110, 105, 99, 111, 100, 101, 95, 105, 115, 99, 97, 115, 101, 100, 6, 258, 13, 97, 115, 99, 105, 105, 95, 116, 111, 108, 111, 119, 101, 114, 9, 18, 95, 115, 114, 101, 46, 97, 115, 99, 105, 105, 95, 116, 111, 108, 111, 119, 101, 114, 6, 259, 15, 117, 110, 105, 99, 111, 100, 101, 95, 116, 111, 108, 111, 119, 101, 114, 9, 20, 95, 115, 114, 101, 46, 117, 110, 105, 99, 111, 100, 101, 95, 116, 111, 108, 111, 119, 101, 114, 6, 261, 5, 77, 65, 71, 73, 67, 4, 260, 0, 20230612, 6, 263, 8, 67, 79, 68, 69, 83, 73, 90, 69, 4, 262, 0, 4, 6, 265, 9, 77, 65, 88, 82, 69, 80, 69, 65, 84, 4, 264, 0, 4294967295, 6, 267, 9, 77, 65, 88, 71, 82, 79, 85, 80, 83, 4, 266, 0, 1073741823, 6, 269, 9, 99, 111, 112, 121, 114, 105, 103, 104, 116, 6, 268, 53, 32, 83, 82, 69, 32, 50, 46, 50, 46, 50, 32, 67, 111, 112, 121, 114, 105, 103, 104, 116, 32, 40, 99, 41, 32, 49, 57, 57, 55, 45, 50, 48, 48, 50, 32, 98, 121, 32, 83, 101, 99, 114, 101, 116, 32, 76, 97, 98, 115, 32, 65, 66, 32]) 0), (Value.bool true), (Value.bool false), (V "_sre" 271)] 0) #[])]
noncomputable def g0 (w : World) (i : Nat) : Obj := (L0 w).getD i default
noncomputable def L1 (w : World) : List Obj := [
  g0 w 0,
  g0 w 1,
  g0 w 2,
  (Obj.mk (Value.type "dict") none (Data.dict #[(E w.params "__name__" 165 (V "law_xl0032_01" 729)), (E w.params "__doc__" 166 Value.none), (E w.params "__package__" 167 Value.none), (E w.params "__loader__" 168 (Value.builtin "__main__.__loader__#opaque")), (E w.params "__spec__" 169 Value.none), (E w.params "__annotations__" 170 (R 6)), (E w.params "__builtins__" 171 (R 4)), (E w.params "__file__" 173 (V "/claim/cut.py" 172)), (E w.params "__cached__" 174 Value.none), (E w.params "_sre" 275 (R 12)), (E w.params "_wall" 288 (R 38)), (E w.params "lt" 298 (R 45)), (E w.params "eq" 306 (R 52)), (E w.params "sub" 314 (R 59)), (E w.params "xor" 322 (R 66)), (E w.params "contains" 330 (R 73)), (E w.params "countOf" 340 (R 80)), (E w.params "getitem" 348 (R 87)), (E w.params "setitem" 357 (R 94)), (E w.params "call" 366 (R 101)), (E w.params "iadd" 374 (R 108)), (E w.params "_name_disallowed_re" 402 (R 113)), (E w.params "_value_disallowed_re" 436 (R 118)), (E w.params "Headers" 593 (R 241)), (E w.params "QName" 686 (R 319)), (E w.params "_raise_serialization_error" 693 (R 330)), (E w.params "_escape_cdata" 700 (R 337)), (E w.params "_escape_attrib" 707 (R 344)), (E w.params "_escape_attrib_html" 714 (R 351)), (E w.params "_escape_cdata_c14n" 721 (R 358)), (E w.params "_escape_attrib_c14n" 728 (R 365)), (E w.params "_law_hand" 737 (R 372)), (E w.params "_law_cells" 747 (R 379)), (E w.params "_law_masks" 754 (R 386)), (E w.params "_law_signs_of" 760 (R 391)), (E w.params "_law_spelled" 766 (R 396)), (E w.params "_law_each_for_itself" 772 (R 401)), (E w.params "_law_height" 778 (R 406)), (E w.params "_law_one_slope" 784 (R 411)), (E w.params "law" 790 (R 416))] 40) #[]),
  g0 w 4,
  g0 w 5,
  g0 w 6,
  g0 w 7,
  g0 w 8,
  g0 w 9,
  g0 w 10,
  g0 w 11,
  g0 w 12,
  g0 w 13,
  g0 w 14,
  g0 w 15,
  g0 w 16,
  g0 w 17,
  x18 w,
  g0 w 19,
  g0 w 20,
  g0 w 21,
  g0 w 22,
  g0 w 23,
  g0 w 24,
  g0 w 25,
  g0 w 26,
  g0 w 27,
  (Obj.mk (Value.type "tuple") none (Data.seq #[] 0) #[]),
  (Obj.mk Value.none none (Data.fields #[(Value.int 2 0), (Value.int 0 0), (R 37), (Value.int 6 0), (Value.int 0 0), (R 44), (Value.int 8 0), (Value.int 0 0), (R 51), (Value.int 10 0), (Value.int 0 0), (R 58), (Value.int 12 0), (Value.int 0 0), (R 65), (Value.int 14 0), (Value.int 0 0), (R 72), (Value.int 16 0), (Value.int 0 0), (R 79), (Value.int 22 0), (Value.int 0 0), (R 86), (Value.int 24 0), (Value.int 0 0), (R 93), (Value.int 26 0), (Value.int 0 0), (R 100), (Value.int 28 0), (Value.int 0 0), (R 107), (Value.int 34 0), (Value.int 0 0), (R 124), (Value.int 110 0), (Value.int 0 0), (R 251), (Value.int 150 0), (Value.int 0 0), (R 329), (Value.int 152 0), (Value.int 0 0), (R 336), (Value.int 163 0), (Value.int 0 0), (R 343), (Value.int 182 0), (Value.int 0 0), (R 350), (Value.int 193 0), (Value.int 0 0), (R 357), (Value.int 206 0), (Value.int 0 0), (R 364), (Value.int 224 0), (Value.int 0 0), (R 371), (Value.int 226 0), (Value.int 0 0), (R 378), (Value.int 231 0), (Value.int 0 0), (R 385), (Value.int 233 0), (Value.int 0 0), (R 390), (Value.int 235 0), (Value.int 0 0), (R 395), (Value.int 244 0), (Value.int 0 0), (R 400), (Value.int 270 0), (Value.int 0 0), (R 405), (Value.int 276 0), (Value.int 0 0), (R 410), (Value.int 292 0), (Value.int 0 0), (R 415)]) #[]),
  (Obj.mk (Value.type "code") none (Data.fields #[(V "<module>" 277), (V "<module>" 278), (V "/claim/cut.py" 279), (Value.int 1 0), (Value.int 0 0), (Value.int 0 0), (Value.int 0 0), (Value.int 0 0), (R 28), (Value.bool false), (Value.int 276 0), (R 29), Value.none, Value.none, Value.none, Value.none, (Value.int 280 0), (Value.int 1 0), (V "/claim/cut.py" 281)]) #[]),
  (Obj.mk (Value.type "frame") none Data.plain #[(some (R 30)), (some (R 3)), (some (R 3)), none, (some (V "__main__" 164)), none, (some (R 0))]),
  (Obj.mk (Value.type "tuple") none (Data.seq #[] 0) #[]),
  (Obj.mk Value.none none (Data.fields #[]) #[]),
  (Obj.mk (Value.type "tuple") none (Data.seq #[(V "k" 285)] 0) #[]),
  (Obj.mk (Value.type "tuple") none (Data.seq #[] 0) #[]),
  (Obj.mk Value.none none (Data.func (fnD (st 1) none (S "_wall") 0 [] Value.none Value.none Value.none Value.none none Value.none Value.none 0)) #[]),
  (Obj.mk (Value.type "code") none (Data.fields #[(V "_wall" 282), (V "_wall" 283), (V "/claim/cut.py" 284), (Value.int 2 0), (Value.int 1 0), (Value.int 0 0), (Value.int 0 0), (Value.int 3 0), (R 32), (Value.bool true), (Value.int 276 0), (R 33), Value.none, (R 34), (R 35), (R 36), (Value.int 286 0), (Value.int 2 0), (V "/claim/cut.py" 287)]) #[]),
  (Obj.mk (Value.type "function") none (Data.func (fnD (st 1) none (S "_wall") 3 [] Value.none Value.none Value.none (V "__main__" 164) none (R 37) Value.none 0)) #[]),
  (Obj.mk (Value.type "tuple") none (Data.seq #[] 0) #[]),
  (Obj.mk Value.none none (Data.fields #[]) #[]),
  (Obj.mk (Value.type "tuple") none (Data.seq #[(V "a" 294), (V "b" 295)] 0) #[]),
  (Obj.mk (Value.type "tuple") none (Data.seq #[] 0) #[]),
  (Obj.mk Value.none none (Data.func (fnD (st 3) none (S "lt") 0 [] Value.none Value.none Value.none Value.none none Value.none Value.none 0)) #[]),
  (Obj.mk (Value.type "code") none (Data.fields #[(V "lt" 291), (V "lt" 292), (V "/claim/cut.py" 293), (Value.int 6 0), (Value.int 2 0), (Value.int 0 0), (Value.int 0 0), (Value.int 3 0), (R 39), (Value.bool true), (Value.int 276 0), (R 40), Value.none, (R 41), (R 42), (R 43), (Value.int 296 0), (Value.int 6 0), (V "/claim/cut.py" 297)]) #[]),
  (Obj.mk (Value.type "function") none (Data.func (fnD (st 3) none (S "lt") 3 [] Value.none Value.none Value.none (V "cpy313.operator" 289) none (R 44) Value.none 0)) #[]),
  (Obj.mk (Value.type "tuple") none (Data.seq #[] 0) #[]),
  (Obj.mk Value.none none (Data.fields #[]) #[]),
  (Obj.mk (Value.type "tuple") none (Data.seq #[(V "a" 302), (V "b" 303)] 0) #[]),
  (Obj.mk (Value.type "tuple") none (Data.seq #[] 0) #[]),
  (Obj.mk Value.none none (Data.func (fnD (st 4) none (S "eq") 0 [] Value.none Value.none Value.none Value.none none Value.none Value.none 0)) #[]),
  (Obj.mk (Value.type "code") none (Data.fields #[(V "eq" 299), (V "eq" 300), (V "/claim/cut.py" 301), (Value.int 8 0), (Value.int 2 0), (Value.int 0 0), (Value.int 0 0), (Value.int 3 0), (R 46), (Value.bool true), (Value.int 276 0), (R 47), Value.none, (R 48), (R 49), (R 50), (Value.int 304 0), (Value.int 8 0), (V "/claim/cut.py" 305)]) #[]),
  (Obj.mk (Value.type "function") none (Data.func (fnD (st 4) none (S "eq") 3 [] Value.none Value.none Value.none (V "cpy313.operator" 289) none (R 51) Value.none 0)) #[]),
  (Obj.mk (Value.type "tuple") none (Data.seq #[] 0) #[]),
  (Obj.mk Value.none none (Data.fields #[]) #[]),
  (Obj.mk (Value.type "tuple") none (Data.seq #[(V "a" 310), (V "b" 311)] 0) #[]),
  (Obj.mk (Value.type "tuple") none (Data.seq #[] 0) #[]),
  (Obj.mk Value.none none (Data.func (fnD (st 5) none (S "sub") 0 [] Value.none Value.none Value.none Value.none none Value.none Value.none 0)) #[]),
  (Obj.mk (Value.type "code") none (Data.fields #[(V "sub" 307), (V "sub" 308), (V "/claim/cut.py" 309), (Value.int 10 0), (Value.int 2 0), (Value.int 0 0), (Value.int 0 0), (Value.int 3 0), (R 53), (Value.bool true), (Value.int 276 0), (R 54), Value.none, (R 55), (R 56), (R 57), (Value.int 312 0), (Value.int 10 0), (V "/claim/cut.py" 313)]) #[]),
  (Obj.mk (Value.type "function") none (Data.func (fnD (st 5) none (S "sub") 3 [] Value.none Value.none Value.none (V "cpy313.operator" 289) none (R 58) Value.none 0)) #[]),
  (Obj.mk (Value.type "tuple") none (Data.seq #[] 0) #[]),
  (Obj.mk Value.none none (Data.fields #[]) #[]),
  (Obj.mk (Value.type "tuple") none (Data.seq #[(V "a" 318), (V "b" 319)] 0) #[]),
  (Obj.mk (Value.type "tuple") none (Data.seq #[] 0) #[]),
  (Obj.mk Value.none none (Data.func (fnD (st 6) none (S "xor") 0 [] Value.none Value.none Value.none Value.none none Value.none Value.none 0)) #[]),
  (Obj.mk (Value.type "code") none (Data.fields #[(V "xor" 315), (V "xor" 316), (V "/claim/cut.py" 317), (Value.int 12 0), (Value.int 2 0), (Value.int 0 0), (Value.int 0 0), (Value.int 3 0), (R 60), (Value.bool true), (Value.int 276 0), (R 61), Value.none, (R 62), (R 63), (R 64), (Value.int 320 0), (Value.int 12 0), (V "/claim/cut.py" 321)]) #[]),
  (Obj.mk (Value.type "function") none (Data.func (fnD (st 6) none (S "xor") 3 [] Value.none Value.none Value.none (V "cpy313.operator" 289) none (R 65) Value.none 0)) #[]),
  (Obj.mk (Value.type "tuple") none (Data.seq #[] 0) #[]),
  (Obj.mk Value.none none (Data.fields #[]) #[]),
  (Obj.mk (Value.type "tuple") none (Data.seq #[(V "a" 326), (V "b" 327)] 0) #[]),
  (Obj.mk (Value.type "tuple") none (Data.seq #[] 0) #[]),
  (Obj.mk Value.none none (Data.func (fnD (st 7) none (S "contains") 0 [] Value.none Value.none Value.none Value.none none Value.none Value.none 0)) #[]),
  (Obj.mk (Value.type "code") none (Data.fields #[(V "contains" 323), (V "contains" 324), (V "/claim/cut.py" 325), (Value.int 14 0), (Value.int 2 0), (Value.int 0 0), (Value.int 0 0), (Value.int 3 0), (R 67), (Value.bool true), (Value.int 276 0), (R 68), Value.none, (R 69), (R 70), (R 71), (Value.int 328 0), (Value.int 14 0), (V "/claim/cut.py" 329)]) #[]),
  (Obj.mk (Value.type "function") none (Data.func (fnD (st 7) none (S "contains") 3 [] Value.none Value.none Value.none (V "cpy313.operator" 289) none (R 72) Value.none 0)) #[]),
  (Obj.mk (Value.type "tuple") none (Data.seq #[] 0) #[]),
  (Obj.mk Value.none none (Data.fields #[]) #[]),
  (Obj.mk (Value.type "tuple") none (Data.seq #[(V "a" 334), (V "b" 335), (V "count" 336), (V "i" 337)] 0) #[]),
  (Obj.mk (Value.type "tuple") none (Data.seq #[] 0) #[]),
  (Obj.mk Value.none none (Data.func (fnD (st 8) none (S "countOf") 0 [] Value.none Value.none Value.none Value.none none Value.none Value.none 0)) #[]),
  (Obj.mk (Value.type "code") none (Data.fields #[(V "countOf" 331), (V "countOf" 332), (V "/claim/cut.py" 333), (Value.int 16 0), (Value.int 2 0), (Value.int 0 0), (Value.int 0 0), (Value.int 3 0), (R 74), (Value.bool true), (Value.int 276 0), (R 75), Value.none, (R 76), (R 77), (R 78), (Value.int 338 0), (Value.int 16 0), (V "/claim/cut.py" 339)]) #[]),
  (Obj.mk (Value.type "function") none (Data.func (fnD (st 8) none (S "countOf") 3 [] Value.none Value.none Value.none (V "cpy313.operator" 289) none (R 79) Value.none 0)) #[]),
  (Obj.mk (Value.type "tuple") none (Data.seq #[] 0) #[]),
  (Obj.mk Value.none none (Data.fields #[]) #[]),
  (Obj.mk (Value.type "tuple") none (Data.seq #[(V "a" 344), (V "b" 345)] 0) #[]),
  (Obj.mk (Value.type "tuple") none (Data.seq #[] 0) #[]),
  (Obj.mk Value.none none (Data.func (fnD (st 9) none (S "getitem") 0 [] Value.none Value.none Value.none Value.none none Value.none Value.none 0)) #[]),
  (Obj.mk (Value.type "code") none (Data.fields #[(V "getitem" 341), (V "getitem" 342), (V "/claim/cut.py" 343), (Value.int 22 0), (Value.int 2 0), (Value.int 0 0), (Value.int 0 0), (Value.int 3 0), (R 81), (Value.bool true), (Value.int 276 0), (R 82), Value.none, (R 83), (R 84), (R 85), (Value.int 346 0), (Value.int 22 0), (V "/claim/cut.py" 347)]) #[]),
  (Obj.mk (Value.type "function") none (Data.func (fnD (st 9) none (S "getitem") 3 [] Value.none Value.none Value.none (V "cpy313.operator" 289) none (R 86) Value.none 0)) #[]),
  (Obj.mk (Value.type "tuple") none (Data.seq #[] 0) #[]),
  (Obj.mk Value.none none (Data.fields #[]) #[]),
  (Obj.mk (Value.type "tuple") none (Data.seq #[(V "a" 352), (V "b" 353), (V "c" 354)] 0) #[]),
  (Obj.mk (Value.type "tuple") none (Data.seq #[] 0) #[]),
  (Obj.mk Value.none none (Data.func (fnD (st 10) none (S "setitem") 0 [] Value.none Value.none Value.none Value.none none Value.none Value.none 0)) #[]),
  (Obj.mk (Value.type "code") none (Data.fields #[(V "setitem" 349), (V "setitem" 350), (V "/claim/cut.py" 351), (Value.int 24 0), (Value.int 3 0), (Value.int 0 0), (Value.int 0 0), (Value.int 3 0), (R 88), (Value.bool true), (Value.int 276 0), (R 89), Value.none, (R 90), (R 91), (R 92), (Value.int 355 0), (Value.int 24 0), (V "/claim/cut.py" 356)]) #[]),
  (Obj.mk (Value.type "function") none (Data.func (fnD (st 10) none (S "setitem") 3 [] Value.none Value.none Value.none (V "cpy313.operator" 289) none (R 93) Value.none 0)) #[]),
  (Obj.mk (Value.type "tuple") none (Data.seq #[] 0) #[]),
  (Obj.mk Value.none none (Data.fields #[]) #[]),
  (Obj.mk (Value.type "tuple") none (Data.seq #[(V "obj" 361), (V "args" 362), (V "kwargs" 363)] 0) #[]),
  (Obj.mk (Value.type "tuple") none (Data.seq #[] 0) #[]),
  (Obj.mk Value.none none (Data.func (fnD (st 11) none (S "call") 0 [] Value.none Value.none Value.none Value.none none Value.none Value.none 0)) #[]),
  (Obj.mk (Value.type "code") none (Data.fields #[(V "call" 358), (V "call" 359), (V "/claim/cut.py" 360), (Value.int 26 0), (Value.int 1 0), (Value.int 1 0), (Value.int 0 0), (Value.int 15 0), (R 95), (Value.bool true), (Value.int 276 0), (R 96), Value.none, (R 97), (R 98), (R 99), (Value.int 364 0), (Value.int 26 0), (V "/claim/cut.py" 365)]) #[]),
  (Obj.mk (Value.type "function") none (Data.func (fnD (st 11) none (S "call") 3 [] Value.none Value.none Value.none (V "cpy313.operator" 289) none (R 100) Value.none 0)) #[]),
  (Obj.mk (Value.type "tuple") none (Data.seq #[] 0) #[]),
  (Obj.mk Value.none none (Data.fields #[]) #[]),
  (Obj.mk (Value.type "tuple") none (Data.seq #[(V "a" 370), (V "b" 371)] 0) #[]),
  (Obj.mk (Value.type "tuple") none (Data.seq #[] 0) #[]),
  (Obj.mk Value.none none (Data.func (fnD (st 12) none (S "iadd") 0 [] Value.none Value.none Value.none Value.none none Value.none Value.none 0)) #[]),
  (Obj.mk (Value.type "code") none (Data.fields #[(V "iadd" 367), (V "iadd" 368), (V "/claim/cut.py" 369), (Value.int 28 0), (Value.int 2 0), (Value.int 0 0), (Value.int 0 0), (Value.int 3 0), (R 102), (Value.bool true), (Value.int 276 0), (R 103), Value.none, (R 104), (R 105), (R 106), (Value.int 372 0), (Value.int 28 0), (V "/claim/cut.py" 373)]) #[]),
  (Obj.mk (Value.type "function") none (Data.func (fnD (st 12) none (S "iadd") 3 [] Value.none Value.none Value.none (V "cpy313.operator" 289) none (R 107) Value.none 0)) #[]),
  (Obj.mk (Value.type "list") none (Data.seq #[(Value.int 14 380), (Value.int 10 381), (Value.int 4 382), (Value.int 1 383), (Value.int 1 384), (Value.int 22 385), (Value.int 0 386), (Value.int 31 387), (Value.int 16 388), (Value.int 127 389), (Value.int 0 390), (Value.int 13 391), (Value.int 7 392), (Value.int 22 393), (Value.int 0 394), (Value.int 31 395), (Value.int 16 396), (Value.int 127 397), (Value.int 0 398), (Value.int 1 399)] 0) #[]),
  (Obj.mk (Value.type "dict") none (Data.dict #[] 0) #[]),
  (Obj.mk (Value.type "tuple") none (Data.seq #[Value.none] 0) #[]),
  (Obj.mk (Value.type "tuple") none (Data.seq #[(Value.int 14 0), (Value.int 10 0), (Value.int 4 0), (Value.int 1 0), (Value.int 1 0), (Value.int 22 0), (Value.int 0 0), (Value.int 31 0), (Value.int 16 0), (Value.int 127 0), (Value.int 0 0), (Value.int 13 0), (Value.int 7 0), (Value.int 22 0), (Value.int 0 0), (Value.int 31 0), (Value.int 16 0), (Value.int 127 0), (Value.int 0 0), (Value.int 1 0)] 0) #[]),
  (Obj.mk (Value.type "re.Pattern") none (Data.fields #[(V "[\\x00-\\x1F\\x7F]" 378), (Value.int 32 401), (Value.int 0 0), Value.none, Value.none, (R 112), (Value.int 0 0)]) #[]),
  (Obj.mk (Value.type "list") none (Data.seq #[(Value.int 14 406), (Value.int 14 407), (Value.int 4 408), (Value.int 1 409), (Value.int 1 410), (Value.int 9 411), (Value.int 4294966783 412), (Value.int 0 413), (Value.int 0 414), (Value.int 2147483648 415), (Value.int 0 416), (Value.int 0 417), (Value.int 0 418), (Value.int 0 419), (Value.int 0 420), (Value.int 13 421), (Value.int 11 422), (Value.int 9 423), (Value.int 4294966783 424), (Value.int 0 425), (Value.int 0 426), (Value.int 2147483648 427), (Value.int 0 428), (Value.int 0 429), (Value.int 0 430), (Value.int 0 431), (Value.int 0 432), (Value.int 1 433)] 0) #[]),
  (Obj.mk (Value.type "dict") none (Data.dict #[] 0) #[]),
  (Obj.mk (Value.type "tuple") none (Data.seq #[Value.none] 0) #[]),
  (Obj.mk (Value.type "tuple") none (Data.seq #[(Value.int 14 0), (Value.int 14 0), (Value.int 4 0), (Value.int 1 0), (Value.int 1 0), (Value.int 9 0), (Value.int 4294966783 0), (Value.int 0 0), (Value.int 0 0), (Value.int 2147483648 0), (Value.int 0 0), (Value.int 0 0), (Value.int 0 0), (Value.int 0 0), (Value.int 0 0), (Value.int 13 0), (Value.int 11 0), (Value.int 9 0), (Value.int 4294966783 0), (Value.int 0 0), (Value.int 0 0), (Value.int 2147483648 0), (Value.int 0 0), (Value.int 0 0), (Value.int 0 0), (Value.int 0 0), (Value.int 0 0), (Value.int 1 0)] 0) #[]),
  (Obj.mk (Value.type "re.Pattern") none (Data.fields #[(V "[\\x00-\\x08\\x0A-\\x1F\\x7F]" 404), (Value.int 32 435), (Value.int 0 0), Value.none, Value.none, (R 117), (Value.int 0 0)]) #[]),
  (Obj.mk (Value.type "tuple") none (Data.seq #[] 0) #[]),
  (Obj.mk (Value.type "builtin_function_or_method") none (Data.fields #[(Value.builtin "type.__prepare__"), (Value.type "type")]) #[]),
  (Obj.mk (Value.type "dict") none (Data.dict #[(E w.params "__module__" 444 (V "cpy313.wsgiref.headers" 375)), (E w.params "__qualname__" 446 (V "Headers" 445)), (E w.params "__firstlineno__" 448 (Value.int 34 447)), (E w.params "__init__" 458 (R 133)), (E w.params "_convert_string_type" 468 (R 140)), (E w.params "__len__" 475 (R 147)), (E w.params "__setitem__" 484 (R 154)), (E w.params "__delitem__" 490 (R 159)), (E w.params "__getitem__" 498 (R 166)), (E w.params "__contains__" 506 (R 173)), (E w.params "get_all" 514 (R 180)), (E w.params "get" 525 (R 188)), (E w.params "keys" 531 (R 193)), (E w.params "values" 537 (R 198)), (E w.params "items" 544 (R 205)), (E w.params "__repr__" 551 (R 212)), (E w.params "__str__" 557 (R 217)), (E w.params "__bytes__" 564 (R 224)), (E w.params "setdefault" 574 (R 231)), (E w.params "add_header" 584 (R 238)), (E w.params "__static_attributes__" 586 (R 239))] 21) #[]),
  (Obj.mk (Value.type "tuple") none (Data.seq #[] 0) #[]),
  (Obj.mk Value.none none (Data.fields #[(Value.int 36 0), (Value.int 4 0), (R 132), (Value.int 46 0), (Value.int 4 0), (R 139), (Value.int 54 0), (Value.int 4 0), (R 146), (Value.int 57 0), (Value.int 4 0), (R 153), (Value.int 61 0), (Value.int 4 0), (R 158), (Value.int 65 0), (Value.int 4 0), (R 165), (Value.int 68 0), (Value.int 4 0), (R 172), (Value.int 71 0), (Value.int 4 0), (R 179), (Value.int 74 0), (Value.int 4 0), (R 187), (Value.int 81 0), (Value.int 4 0), (R 192), (Value.int 84 0), (Value.int 4 0), (R 197), (Value.int 87 0), (Value.int 4 0), (R 204), (Value.int 90 0), (Value.int 4 0), (R 211), (Value.int 93 0), (Value.int 4 0), (R 216), (Value.int 96 0), (Value.int 4 0), (R 223), (Value.int 99 0), (Value.int 4 0), (R 230), (Value.int 107 0), (Value.int 4 0), (R 237)]) #[]),
  (Obj.mk (Value.type "code") none (Data.fields #[(V "Headers" 439), (V "Headers" 440), (V "/claim/cut.py" 441), (Value.int 34 0), (Value.int 0 0), (Value.int 0 0), (Value.int 0 0), (Value.int 0 0), (R 122), (Value.bool false), (Value.int 276 0), (R 123), Value.none, Value.none, Value.none, Value.none, (Value.int 442 0), (Value.int 34 0), (V "/claim/cut.py" 443)]) #[]),
  (Obj.mk (Value.type "frame") none Data.plain #[(some (R 124)), (some (R 3)), (some (R 121)), none, (some (V "cpy313.wsgiref.headers" 375)), none, (some (R 0))]),
  (Obj.mk (Value.type "tuple") none (Data.seq #[Value.none] 0) #[]),
  (Obj.mk (Value.type "tuple") none (Data.seq #[] 0) #[]),
  (Obj.mk Value.none none (Data.fields #[]) #[]),
  (Obj.mk (Value.type "tuple") none (Data.seq #[(V "self" 452), (V "headers" 453), (V "k" 454), (V "v" 455)] 0) #[]),
  (Obj.mk (Value.type "tuple") none (Data.seq #[] 0) #[]),
  (Obj.mk Value.none none (Data.func (fnD (sc 16 0) none (S "Headers.__init__") 0 [] Value.none Value.none Value.none Value.none none Value.none Value.none 0)) #[]),
  (Obj.mk (Value.type "code") none (Data.fields #[(V "__init__" 449), (V "Headers.__init__" 450), (V "/claim/cut.py" 451), (Value.int 36 0), (Value.int 2 0), (Value.int 0 0), (Value.int 0 0), (Value.int 3 0), (R 127), (Value.bool true), (Value.int 276 0), (R 128), Value.none, (R 129), (R 130), (R 131), (Value.int 456 0), (Value.int 36 0), (V "/claim/cut.py" 457)]) #[]),
  (Obj.mk (Value.type "function") none (Data.func (fnD (sc 16 0) none (S "Headers.__init__") 3 [] (R 126) Value.none Value.none (V "cpy313.wsgiref.headers" 375) none (R 132) Value.none 0)) #[]),
  (Obj.mk (Value.type "tuple") none (Data.seq #[] 0) #[]),
  (Obj.mk Value.none none (Data.fields #[]) #[]),
  (Obj.mk (Value.type "tuple") none (Data.seq #[(V "self" 462), (V "value" 463), (V "name" 464), (V "regex" 465)] 0) #[]),
  (Obj.mk (Value.type "tuple") none (Data.seq #[] 0) #[]),
  (Obj.mk Value.none none (Data.func (fnD (sc 16 1) none (S "Headers._convert_string_type") 0 [] Value.none Value.none Value.none Value.none none Value.none Value.none 0)) #[]),
  (Obj.mk (Value.type "code") none (Data.fields #[(V "_convert_string_type" 459), (V "Headers._convert_string_type" 460), (V "/claim/cut.py" 461), (Value.int 46 0), (Value.int 2 0), (Value.int 0 0), (Value.int 1 0), (Value.int 3 0), (R 134), (Value.bool true), (Value.int 276 0), (R 135), Value.none, (R 136), (R 137), (R 138), (Value.int 466 0), (Value.int 46 0), (V "/claim/cut.py" 467)]) #[]),
  (Obj.mk (Value.type "function") none (Data.func (fnD (sc 16 1) none (S "Headers._convert_string_type") 3 [] Value.none Value.none Value.none (V "cpy313.wsgiref.headers" 375) none (R 139) Value.none 0)) #[]),
  (Obj.mk (Value.type "tuple") none (Data.seq #[] 0) #[]),
  (Obj.mk Value.none none (Data.fields #[]) #[]),
  (Obj.mk (Value.type "tuple") none (Data.seq #[(V "self" 472)] 0) #[]),
  (Obj.mk (Value.type "tuple") none (Data.seq #[] 0) #[]),
  (Obj.mk Value.none none (Data.func (fnD (sc 16 2) none (S "Headers.__len__") 0 [] Value.none Value.none Value.none Value.none none Value.none Value.none 0)) #[]),
  (Obj.mk (Value.type "code") none (Data.fields #[(V "__len__" 469), (V "Headers.__len__" 470), (V "/claim/cut.py" 471), (Value.int 54 0), (Value.int 1 0), (Value.int 0 0), (Value.int 0 0), (Value.int 3 0), (R 141), (Value.bool true), (Value.int 276 0), (R 142), Value.none, (R 143), (R 144), (R 145), (Value.int 473 0), (Value.int 54 0), (V "/claim/cut.py" 474)]) #[]),
  (Obj.mk (Value.type "function") none (Data.func (fnD (sc 16 2) none (S "Headers.__len__") 3 [] Value.none Value.none Value.none (V "cpy313.wsgiref.headers" 375) none (R 146) Value.none 0)) #[]),
  (Obj.mk (Value.type "tuple") none (Data.seq #[] 0) #[]),
  (Obj.mk Value.none none (Data.fields #[]) #[]),
  (Obj.mk (Value.type "tuple") none (Data.seq #[(V "self" 479), (V "name" 480), (V "val" 481)] 0) #[]),
  (Obj.mk (Value.type "tuple") none (Data.seq #[] 0) #[]),
  (Obj.mk Value.none none (Data.func (fnD (sc 16 3) none (S "Headers.__setitem__") 0 [] Value.none Value.none Value.none Value.none none Value.none Value.none 0)) #[]),
  (Obj.mk (Value.type "code") none (Data.fields #[(V "__setitem__" 476), (V "Headers.__setitem__" 477), (V "/claim/cut.py" 478), (Value.int 57 0), (Value.int 3 0), (Value.int 0 0), (Value.int 0 0), (Value.int 3 0), (R 148), (Value.bool true), (Value.int 276 0), (R 149), Value.none, (R 150), (R 151), (R 152), (Value.int 482 0), (Value.int 57 0), (V "/claim/cut.py" 483)]) #[]),
  (Obj.mk (Value.type "function") none (Data.func (fnD (sc 16 3) none (S "Headers.__setitem__") 3 [] Value.none Value.none Value.none (V "cpy313.wsgiref.headers" 375) none (R 153) Value.none 0)) #[]),
  (Obj.mk (Value.type "tuple") none (Data.seq #[] 0) #[]),
  (Obj.mk Value.none none (Data.fields #[]) #[]),
  (Obj.mk Value.none none (Data.func (fnD (sc 16 4) none (S "Headers.__delitem__") 0 [] Value.none Value.none Value.none Value.none none Value.none Value.none 0)) #[]),
  (Obj.mk (Value.type "code") none (Data.fields #[(V "__delitem__" 485), (V "Headers.__delitem__" 486), (V "/claim/cut.py" 487), (Value.int 61 0), (Value.int 2 0), (Value.int 0 0), (Value.int 0 0), (Value.int 3 0), (R 155), (Value.bool true), (Value.int 276 0), (R 156), Value.none, Value.none, Value.none, (R 157), (Value.int 488 0), (Value.int 61 0), (V "/claim/cut.py" 489)]) #[]),
  (Obj.mk (Value.type "function") none (Data.func (fnD (sc 16 4) none (S "Headers.__delitem__") 3 [] Value.none Value.none Value.none (V "cpy313.wsgiref.headers" 375) none (R 158) Value.none 0)) #[]),
  (Obj.mk (Value.type "tuple") none (Data.seq #[] 0) #[]),
  (Obj.mk Value.none none (Data.fields #[]) #[]),
  (Obj.mk (Value.type "tuple") none (Data.seq #[(V "self" 494), (V "name" 495)] 0) #[]),
  (Obj.mk (Value.type "tuple") none (Data.seq #[] 0) #[]),
  (Obj.mk Value.none none (Data.func (fnD (sc 16 5) none (S "Headers.__getitem__") 0 [] Value.none Value.none Value.none Value.none none Value.none Value.none 0)) #[]),
  (Obj.mk (Value.type "code") none (Data.fields #[(V "__getitem__" 491), (V "Headers.__getitem__" 492), (V "/claim/cut.py" 493), (Value.int 65 0), (Value.int 2 0), (Value.int 0 0), (Value.int 0 0), (Value.int 3 0), (R 160), (Value.bool true), (Value.int 276 0), (R 161), Value.none, (R 162), (R 163), (R 164), (Value.int 496 0), (Value.int 65 0), (V "/claim/cut.py" 497)]) #[]),
  (Obj.mk (Value.type "function") none (Data.func (fnD (sc 16 5) none (S "Headers.__getitem__") 3 [] Value.none Value.none Value.none (V "cpy313.wsgiref.headers" 375) none (R 165) Value.none 0)) #[]),
  (Obj.mk (Value.type "tuple") none (Data.seq #[] 0) #[]),
  (Obj.mk Value.none none (Data.fields #[]) #[]),
  (Obj.mk (Value.type "tuple") none (Data.seq #[(V "self" 502), (V "name" 503)] 0) #[]),
  (Obj.mk (Value.type "tuple") none (Data.seq #[] 0) #[]),
  (Obj.mk Value.none none (Data.func (fnD (sc 16 6) none (S "Headers.__contains__") 0 [] Value.none Value.none Value.none Value.none none Value.none Value.none 0)) #[]),
  (Obj.mk (Value.type "code") none (Data.fields #[(V "__contains__" 499), (V "Headers.__contains__" 500), (V "/claim/cut.py" 501), (Value.int 68 0), (Value.int 2 0), (Value.int 0 0), (Value.int 0 0), (Value.int 3 0), (R 167), (Value.bool true), (Value.int 276 0), (R 168), Value.none, (R 169), (R 170), (R 171), (Value.int 504 0), (Value.int 68 0), (V "/claim/cut.py" 505)]) #[]),
  (Obj.mk (Value.type "function") none (Data.func (fnD (sc 16 6) none (S "Headers.__contains__") 3 [] Value.none Value.none Value.none (V "cpy313.wsgiref.headers" 375) none (R 172) Value.none 0)) #[]),
  (Obj.mk (Value.type "tuple") none (Data.seq #[] 0) #[]),
  (Obj.mk Value.none none (Data.fields #[]) #[]),
  (Obj.mk (Value.type "tuple") none (Data.seq #[(V "self" 510), (V "name" 511)] 0) #[]),
  (Obj.mk (Value.type "tuple") none (Data.seq #[] 0) #[]),
  (Obj.mk Value.none none (Data.func (fnD (sc 16 7) none (S "Headers.get_all") 0 [] Value.none Value.none Value.none Value.none none Value.none Value.none 0)) #[]),
  (Obj.mk (Value.type "code") none (Data.fields #[(V "get_all" 507), (V "Headers.get_all" 508), (V "/claim/cut.py" 509), (Value.int 71 0), (Value.int 2 0), (Value.int 0 0), (Value.int 0 0), (Value.int 3 0), (R 174), (Value.bool true), (Value.int 276 0), (R 175), Value.none, (R 176), (R 177), (R 178), (Value.int 512 0), (Value.int 71 0), (V "/claim/cut.py" 513)]) #[]),
  (Obj.mk (Value.type "function") none (Data.func (fnD (sc 16 7) none (S "Headers.get_all") 3 [] Value.none Value.none Value.none (V "cpy313.wsgiref.headers" 375) none (R 179) Value.none 0)) #[]),
  (Obj.mk (Value.type "tuple") none (Data.seq #[Value.none] 0) #[]),
  (Obj.mk (Value.type "tuple") none (Data.seq #[] 0) #[]),
  (Obj.mk Value.none none (Data.fields #[]) #[]),
  (Obj.mk (Value.type "tuple") none (Data.seq #[(V "self" 518), (V "name" 519), (V "default" 520), (V "k" 521), (V "v" 522)] 0) #[]),
  (Obj.mk (Value.type "tuple") none (Data.seq #[] 0) #[]),
  (Obj.mk Value.none none (Data.func (fnD (sc 16 8) none (S "Headers.get") 0 [] Value.none Value.none Value.none Value.none none Value.none Value.none 0)) #[]),
  (Obj.mk (Value.type "code") none (Data.fields #[(V "get" 515), (V "Headers.get" 516), (V "/claim/cut.py" 517), (Value.int 74 0), (Value.int 3 0), (Value.int 0 0), (Value.int 0 0), (Value.int 3 0), (R 182), (Value.bool true), (Value.int 276 0), (R 183), Value.none, (R 184), (R 185), (R 186), (Value.int 523 0), (Value.int 74 0), (V "/claim/cut.py" 524)]) #[]),
  (Obj.mk (Value.type "function") none (Data.func (fnD (sc 16 8) none (S "Headers.get") 3 [] (R 181) Value.none Value.none (V "cpy313.wsgiref.headers" 375) none (R 187) Value.none 0)) #[]),
  (Obj.mk (Value.type "tuple") none (Data.seq #[] 0) #[]),
  (Obj.mk Value.none none (Data.fields #[]) #[]),
  (Obj.mk Value.none none (Data.func (fnD (sc 16 9) none (S "Headers.keys") 0 [] Value.none Value.none Value.none Value.none none Value.none Value.none 0)) #[]),
  (Obj.mk (Value.type "code") none (Data.fields #[(V "keys" 526), (V "Headers.keys" 527), (V "/claim/cut.py" 528), (Value.int 81 0), (Value.int 1 0), (Value.int 0 0), (Value.int 0 0), (Value.int 3 0), (R 189), (Value.bool true), (Value.int 276 0), (R 190), Value.none, Value.none, Value.none, (R 191), (Value.int 529 0), (Value.int 81 0), (V "/claim/cut.py" 530)]) #[]),
  (Obj.mk (Value.type "function") none (Data.func (fnD (sc 16 9) none (S "Headers.keys") 3 [] Value.none Value.none Value.none (V "cpy313.wsgiref.headers" 375) none (R 192) Value.none 0)) #[]),
  (Obj.mk (Value.type "tuple") none (Data.seq #[] 0) #[]),
  (Obj.mk Value.none none (Data.fields #[]) #[]),
  (Obj.mk Value.none none (Data.func (fnD (sc 16 10) none (S "Headers.values") 0 [] Value.none Value.none Value.none Value.none none Value.none Value.none 0)) #[]),
  (Obj.mk (Value.type "code") none (Data.fields #[(V "values" 532), (V "Headers.values" 533), (V "/claim/cut.py" 534), (Value.int 84 0), (Value.int 1 0), (Value.int 0 0), (Value.int 0 0), (Value.int 3 0), (R 194), (Value.bool true), (Value.int 276 0), (R 195), Value.none, Value.none, Value.none, (R 196), (Value.int 535 0), (Value.int 84 0), (V "/claim/cut.py" 536)]) #[]),
  (Obj.mk (Value.type "function") none (Data.func (fnD (sc 16 10) none (S "Headers.values") 3 [] Value.none Value.none Value.none (V "cpy313.wsgiref.headers" 375) none (R 197) Value.none 0)) #[]),
  (Obj.mk (Value.type "tuple") none (Data.seq #[] 0) #[]),
  (Obj.mk Value.none none (Data.fields #[]) #[]),
  (Obj.mk (Value.type "tuple") none (Data.seq #[(V "self" 541)] 0) #[]),
  (Obj.mk (Value.type "tuple") none (Data.seq #[] 0) #[]),
  (Obj.mk Value.none none (Data.func (fnD (sc 16 11) none (S "Headers.items") 0 [] Value.none Value.none Value.none Value.none none Value.none Value.none 0)) #[]),
  (Obj.mk (Value.type "code") none (Data.fields #[(V "items" 538), (V "Headers.items" 539), (V "/claim/cut.py" 540), (Value.int 87 0), (Value.int 1 0), (Value.int 0 0), (Value.int 0 0), (Value.int 3 0), (R 199), (Value.bool true), (Value.int 276 0), (R 200), Value.none, (R 201), (R 202), (R 203), (Value.int 542 0), (Value.int 87 0), (V "/claim/cut.py" 543)]) #[]),
  (Obj.mk (Value.type "function") none (Data.func (fnD (sc 16 11) none (S "Headers.items") 3 [] Value.none Value.none Value.none (V "cpy313.wsgiref.headers" 375) none (R 204) Value.none 0)) #[]),
  (Obj.mk (Value.type "tuple") none (Data.seq #[] 0) #[]),
  (Obj.mk Value.none none (Data.fields #[]) #[]),
  (Obj.mk (Value.type "tuple") none (Data.seq #[(V "self" 548)] 0) #[]),
  (Obj.mk (Value.type "tuple") none (Data.seq #[] 0) #[]),
  (Obj.mk Value.none none (Data.func (fnD (sc 16 12) none (S "Headers.__repr__") 0 [] Value.none Value.none Value.none Value.none none Value.none Value.none 0)) #[]),
  (Obj.mk (Value.type "code") none (Data.fields #[(V "__repr__" 545), (V "Headers.__repr__" 546), (V "/claim/cut.py" 547), (Value.int 90 0), (Value.int 1 0), (Value.int 0 0), (Value.int 0 0), (Value.int 3 0), (R 206), (Value.bool true), (Value.int 276 0), (R 207), Value.none, (R 208), (R 209), (R 210), (Value.int 549 0), (Value.int 90 0), (V "/claim/cut.py" 550)]) #[]),
  (Obj.mk (Value.type "function") none (Data.func (fnD (sc 16 12) none (S "Headers.__repr__") 3 [] Value.none Value.none Value.none (V "cpy313.wsgiref.headers" 375) none (R 211) Value.none 0)) #[]),
  (Obj.mk (Value.type "tuple") none (Data.seq #[] 0) #[]),
  (Obj.mk Value.none none (Data.fields #[]) #[]),
  (Obj.mk Value.none none (Data.func (fnD (sc 16 13) none (S "Headers.__str__") 0 [] Value.none Value.none Value.none Value.none none Value.none Value.none 0)) #[]),
  (Obj.mk (Value.type "code") none (Data.fields #[(V "__str__" 552), (V "Headers.__str__" 553), (V "/claim/cut.py" 554), (Value.int 93 0), (Value.int 1 0), (Value.int 0 0), (Value.int 0 0), (Value.int 3 0), (R 213), (Value.bool true), (Value.int 276 0), (R 214), Value.none, Value.none, Value.none, (R 215), (Value.int 555 0), (Value.int 93 0), (V "/claim/cut.py" 556)]) #[]),
  (Obj.mk (Value.type "function") none (Data.func (fnD (sc 16 13) none (S "Headers.__str__") 3 [] Value.none Value.none Value.none (V "cpy313.wsgiref.headers" 375) none (R 216) Value.none 0)) #[]),
  (Obj.mk (Value.type "tuple") none (Data.seq #[] 0) #[]),
  (Obj.mk Value.none none (Data.fields #[]) #[]),
  (Obj.mk (Value.type "tuple") none (Data.seq #[(V "self" 561)] 0) #[]),
  (Obj.mk (Value.type "tuple") none (Data.seq #[] 0) #[]),
  (Obj.mk Value.none none (Data.func (fnD (sc 16 14) none (S "Headers.__bytes__") 0 [] Value.none Value.none Value.none Value.none none Value.none Value.none 0)) #[]),
  (Obj.mk (Value.type "code") none (Data.fields #[(V "__bytes__" 558), (V "Headers.__bytes__" 559), (V "/claim/cut.py" 560), (Value.int 96 0), (Value.int 1 0), (Value.int 0 0), (Value.int 0 0), (Value.int 3 0), (R 218), (Value.bool true), (Value.int 276 0), (R 219), Value.none, (R 220), (R 221), (R 222), (Value.int 562 0), (Value.int 96 0), (V "/claim/cut.py" 563)]) #[]),
  (Obj.mk (Value.type "function") none (Data.func (fnD (sc 16 14) none (S "Headers.__bytes__") 3 [] Value.none Value.none Value.none (V "cpy313.wsgiref.headers" 375) none (R 223) Value.none 0)) #[]),
  (Obj.mk (Value.type "tuple") none (Data.seq #[] 0) #[]),
  (Obj.mk Value.none none (Data.fields #[]) #[]),
  (Obj.mk (Value.type "tuple") none (Data.seq #[(V "self" 568), (V "name" 569), (V "value" 570), (V "result" 571)] 0) #[]),
  (Obj.mk (Value.type "tuple") none (Data.seq #[] 0) #[]),
  (Obj.mk Value.none none (Data.func (fnD (sc 16 15) none (S "Headers.setdefault") 0 [] Value.none Value.none Value.none Value.none none Value.none Value.none 0)) #[]),
  (Obj.mk (Value.type "code") none (Data.fields #[(V "setdefault" 565), (V "Headers.setdefault" 566), (V "/claim/cut.py" 567), (Value.int 99 0), (Value.int 3 0), (Value.int 0 0), (Value.int 0 0), (Value.int 3 0), (R 225), (Value.bool true), (Value.int 276 0), (R 226), Value.none, (R 227), (R 228), (R 229), (Value.int 572 0), (Value.int 99 0), (V "/claim/cut.py" 573)]) #[]),
  (Obj.mk (Value.type "function") none (Data.func (fnD (sc 16 15) none (S "Headers.setdefault") 3 [] Value.none Value.none Value.none (V "cpy313.wsgiref.headers" 375) none (R 230) Value.none 0)) #[]),
  (Obj.mk (Value.type "tuple") none (Data.seq #[] 0) #[]),
  (Obj.mk Value.none none (Data.fields #[]) #[]),
  (Obj.mk (Value.type "tuple") none (Data.seq #[(V "self" 578), (V "_name" 579), (V "_value" 580), (V "_params" 581)] 0) #[]),
  (Obj.mk (Value.type "tuple") none (Data.seq #[] 0) #[]),
  (Obj.mk Value.none none (Data.func (fnD (sc 16 16) none (S "Headers.add_header") 0 [] Value.none Value.none Value.none Value.none none Value.none Value.none 0)) #[]),
  (Obj.mk (Value.type "code") none (Data.fields #[(V "add_header" 575), (V "Headers.add_header" 576), (V "/claim/cut.py" 577), (Value.int 107 0), (Value.int 3 0), (Value.int 0 0), (Value.int 0 0), (Value.int 11 0), (R 232), (Value.bool true), (Value.int 276 0), (R 233), Value.none, (R 234), (R 235), (R 236), (Value.int 582 0), (Value.int 107 0), (V "/claim/cut.py" 583)]) #[]),
  (Obj.mk (Value.type "function") none (Data.func (fnD (sc 16 16) none (S "Headers.add_header") 3 [] Value.none Value.none Value.none (V "cpy313.wsgiref.headers" 375) none (R 237) Value.none 0)) #[]),
  (Obj.mk (Value.type "tuple") none (Data.seq #[(V "_headers" 585)] 0) #[]),
  (Obj.mk (Value.type "dict") none (Data.dict #[(E w.params "__module__" 444 (V "cpy313.wsgiref.headers" 375)), (E w.params "__firstlineno__" 448 (Value.int 34 447)), (E w.params "__init__" 458 (R 133)), (E w.params "_convert_string_type" 468 (R 140)), (E w.params "__len__" 475 (R 147)), (E w.params "__setitem__" 484 (R 154)), (E w.params "__delitem__" 490 (R 159)), (E w.params "__getitem__" 498 (R 166)), (E w.params "__contains__" 506 (R 173)), (E w.params "get_all" 514 (R 180)), (E w.params "get" 525 (R 188)), (E w.params "keys" 531 (R 193)), (E w.params "values" 537 (R 198)), (E w.params "items" 544 (R 205)), (E w.params "__repr__" 551 (R 212)), (E w.params "__str__" 557 (R 217)), (E w.params "__bytes__" 564 (R 224)), (E w.params "setdefault" 574 (R 231)), (E w.params "add_header" 584 (R 238)), (E w.params "__static_attributes__" 586 (R 239)), (E w.params "__dict__" 588 (R 242)), (E w.params "__weakref__" 590 (R 243)), (E w.params "__doc__" 591 Value.none)] 4) #[]),
  (Obj.mk (Value.type "type") none (Data.cls (ClassData.mk (S "Headers") [(Value.type "object")] [(R 241), (Value.type "object")] 240 (S "Headers") true [] [] false none false)) #[none, none, (some (V "Headers" 437)), (some (V "Headers" 445)), (some (Value.builtin "object.__new__")), (some (Value.bool true))]),
  (Obj.mk (Value.type "getset_descriptor") none (Data.fields #[(V "__dict__" 587), (R 241), (Value.builtin "function.__dict__"), (Value.builtin "function.__dict__#set")]) #[]),
  (Obj.mk (Value.type "getset_descriptor") none (Data.fields #[(V "__weakref__" 589), (R 241), (Value.builtin "ExceptionGroup.__weakref__"), Value.none]) #[]),
  (Obj.mk (Value.type "super") none (Data.fields #[(R 241), (R 241), (R 241)]) #[]),
  (Obj.mk (Value.type "builtin_function_or_method") none (Data.fields #[(Value.builtin "object.__init_subclass__"), (R 241)]) #[]),
  (Obj.mk (Value.type "tuple") none (Data.seq #[] 0) #[]),
  (Obj.mk (Value.type "builtin_function_or_method") none (Data.fields #[(Value.builtin "type.__prepare__"), (Value.type "type")]) #[]),
  (Obj.mk (Value.type "dict") none (Data.dict #[(E w.params "__module__" 603 (V "cpy313.xml.etree.ElementTree" 594)), (E w.params "__qualname__" 605 (V "QName" 604)), (E w.params "__firstlineno__" 607 (Value.int 110 606)), (E w.params "__init__" 616 (R 260)), (E w.params "__str__" 623 (R 267)), (E w.params "__repr__" 630 (R 274)), (E w.params "__hash__" 637 (R 281)), (E w.params "__le__" 645 (R 288)), (E w.params "__lt__" 653 (R 295)), (E w.params "__ge__" 661 (R 302)), (E w.params "__gt__" 669 (R 309)), (E w.params "__eq__" 677 (R 316)), (E w.params "__static_attributes__" 679 (R 317))] 13) #[]),
  (Obj.mk (Value.type "tuple") none (Data.seq #[] 0) #[]),
  (Obj.mk Value.none none (Data.fields #[(Value.int 112 0), (Value.int 4 0), (R 259), (Value.int 117 0), (Value.int 4 0), (R 266), (Value.int 120 0), (Value.int 4 0), (R 273), (Value.int 123 0), (Value.int 4 0), (R 280), (Value.int 126 0), (Value.int 4 0), (R 287), (Value.int 131 0), (Value.int 4 0), (R 294), (Value.int 136 0), (Value.int 4 0), (R 301), (Value.int 141 0), (Value.int 4 0), (R 308), (Value.int 146 0), (Value.int 4 0), (R 315)]) #[]),
  (Obj.mk (Value.type "code") none (Data.fields #[(V "QName" 598), (V "QName" 599), (V "/claim/cut.py" 600), (Value.int 110 0), (Value.int 0 0), (Value.int 0 0), (Value.int 0 0), (Value.int 0 0), (R 249), (Value.bool false), (Value.int 276 0), (R 250), Value.none, Value.none, Value.none, Value.none, (Value.int 601 0), (Value.int 110 0), (V "/claim/cut.py" 602)]) #[]),
  (Obj.mk (Value.type "frame") none Data.plain #[(some (R 251)), (some (R 3)), (some (R 248)), none, (some (V "cpy313.xml.etree.ElementTree" 594)), none, (some (R 0))]),
  (Obj.mk (Value.type "tuple") none (Data.seq #[Value.none] 0) #[]),
  (Obj.mk (Value.type "tuple") none (Data.seq #[] 0) #[]),
  (Obj.mk Value.none none (Data.fields #[]) #[]),
  (Obj.mk (Value.type "tuple") none (Data.seq #[(V "self" 611), (V "text_or_uri" 612), (V "tag" 613)] 0) #[]),
  (Obj.mk (Value.type "tuple") none (Data.seq #[] 0) #[]),
  (Obj.mk Value.none none (Data.func (fnD (sc 18 0) none (S "QName.__init__") 0 [] Value.none Value.none Value.none Value.none none Value.none Value.none 0)) #[]),
  (Obj.mk (Value.type "code") none (Data.fields #[(V "__init__" 608), (V "QName.__init__" 609), (V "/claim/cut.py" 610), (Value.int 112 0), (Value.int 3 0), (Value.int 0 0), (Value.int 0 0), (Value.int 3 0), (R 254), (Value.bool true), (Value.int 276 0), (R 255), Value.none, (R 256), (R 257), (R 258), (Value.int 614 0), (Value.int 112 0), (V "/claim/cut.py" 615)]) #[]),
  (Obj.mk (Value.type "function") none (Data.func (fnD (sc 18 0) none (S "QName.__init__") 3 [] (R 253) Value.none Value.none (V "cpy313.xml.etree.ElementTree" 594) none (R 259) Value.none 0)) #[]),
  (Obj.mk (Value.type "tuple") none (Data.seq #[] 0) #[]),
  (Obj.mk Value.none none (Data.fields #[]) #[]),
  (Obj.mk (Value.type "tuple") none (Data.seq #[(V "self" 620)] 0) #[]),
  (Obj.mk (Value.type "tuple") none (Data.seq #[] 0) #[]),
  (Obj.mk Value.none none (Data.func (fnD (sc 18 1) none (S "QName.__str__") 0 [] Value.none Value.none Value.none Value.none none Value.none Value.none 0)) #[]),
  (Obj.mk (Value.type "code") none (Data.fields #[(V "__str__" 617), (V "QName.__str__" 618), (V "/claim/cut.py" 619), (Value.int 117 0), (Value.int 1 0), (Value.int 0 0), (Value.int 0 0), (Value.int 3 0), (R 261), (Value.bool true), (Value.int 276 0), (R 262), Value.none, (R 263), (R 264), (R 265), (Value.int 621 0), (Value.int 117 0), (V "/claim/cut.py" 622)]) #[]),
  (Obj.mk (Value.type "function") none (Data.func (fnD (sc 18 1) none (S "QName.__str__") 3 [] Value.none Value.none Value.none (V "cpy313.xml.etree.ElementTree" 594) none (R 266) Value.none 0)) #[]),
  (Obj.mk (Value.type "tuple") none (Data.seq #[] 0) #[]),
  (Obj.mk Value.none none (Data.fields #[]) #[]),
  (Obj.mk (Value.type "tuple") none (Data.seq #[(V "self" 627)] 0) #[]),
  (Obj.mk (Value.type "tuple") none (Data.seq #[] 0) #[]),
  (Obj.mk Value.none none (Data.func (fnD (sc 18 2) none (S "QName.__repr__") 0 [] Value.none Value.none Value.none Value.none none Value.none Value.none 0)) #[]),
  (Obj.mk (Value.type "code") none (Data.fields #[(V "__repr__" 624), (V "QName.__repr__" 625), (V "/claim/cut.py" 626), (Value.int 120 0), (Value.int 1 0), (Value.int 0 0), (Value.int 0 0), (Value.int 3 0), (R 268), (Value.bool true), (Value.int 276 0), (R 269), Value.none, (R 270), (R 271), (R 272), (Value.int 628 0), (Value.int 120 0), (V "/claim/cut.py" 629)]) #[]),
  (Obj.mk (Value.type "function") none (Data.func (fnD (sc 18 2) none (S "QName.__repr__") 3 [] Value.none Value.none Value.none (V "cpy313.xml.etree.ElementTree" 594) none (R 273) Value.none 0)) #[]),
  (Obj.mk (Value.type "tuple") none (Data.seq #[] 0) #[]),
  (Obj.mk Value.none none (Data.fields #[]) #[]),
  (Obj.mk (Value.type "tuple") none (Data.seq #[(V "self" 634)] 0) #[]),
  (Obj.mk (Value.type "tuple") none (Data.seq #[] 0) #[]),
  (Obj.mk Value.none none (Data.func (fnD (sc 18 3) none (S "QName.__hash__") 0 [] Value.none Value.none Value.none Value.none none Value.none Value.none 0)) #[]),
  (Obj.mk (Value.type "code") none (Data.fields #[(V "__hash__" 631), (V "QName.__hash__" 632), (V "/claim/cut.py" 633), (Value.int 123 0), (Value.int 1 0), (Value.int 0 0), (Value.int 0 0), (Value.int 3 0), (R 275), (Value.bool true), (Value.int 276 0), (R 276), Value.none, (R 277), (R 278), (R 279), (Value.int 635 0), (Value.int 123 0), (V "/claim/cut.py" 636)]) #[]),
  (Obj.mk (Value.type "function") none (Data.func (fnD (sc 18 3) none (S "QName.__hash__") 3 [] Value.none Value.none Value.none (V "cpy313.xml.etree.ElementTree" 594) none (R 280) Value.none 0)) #[]),
  (Obj.mk (Value.type "tuple") none (Data.seq #[] 0) #[]),
  (Obj.mk Value.none none (Data.fields #[]) #[]),
  (Obj.mk (Value.type "tuple") none (Data.seq #[(V "self" 641), (V "other" 642)] 0) #[]),
  (Obj.mk (Value.type "tuple") none (Data.seq #[] 0) #[]),
  (Obj.mk Value.none none (Data.func (fnD (sc 18 4) none (S "QName.__le__") 0 [] Value.none Value.none Value.none Value.none none Value.none Value.none 0)) #[]),
  (Obj.mk (Value.type "code") none (Data.fields #[(V "__le__" 638), (V "QName.__le__" 639), (V "/claim/cut.py" 640), (Value.int 126 0), (Value.int 2 0), (Value.int 0 0), (Value.int 0 0), (Value.int 3 0), (R 282), (Value.bool true), (Value.int 276 0), (R 283), Value.none, (R 284), (R 285), (R 286), (Value.int 643 0), (Value.int 126 0), (V "/claim/cut.py" 644)]) #[]),
  (Obj.mk (Value.type "function") none (Data.func (fnD (sc 18 4) none (S "QName.__le__") 3 [] Value.none Value.none Value.none (V "cpy313.xml.etree.ElementTree" 594) none (R 287) Value.none 0)) #[]),
  (Obj.mk (Value.type "tuple") none (Data.seq #[] 0) #[]),
  (Obj.mk Value.none none (Data.fields #[]) #[]),
  (Obj.mk (Value.type "tuple") none (Data.seq #[(V "self" 649), (V "other" 650)] 0) #[]),
  (Obj.mk (Value.type "tuple") none (Data.seq #[] 0) #[]),
  (Obj.mk Value.none none (Data.func (fnD (sc 18 5) none (S "QName.__lt__") 0 [] Value.none Value.none Value.none Value.none none Value.none Value.none 0)) #[]),
  (Obj.mk (Value.type "code") none (Data.fields #[(V "__lt__" 646), (V "QName.__lt__" 647), (V "/claim/cut.py" 648), (Value.int 131 0), (Value.int 2 0), (Value.int 0 0), (Value.int 0 0), (Value.int 3 0), (R 289), (Value.bool true), (Value.int 276 0), (R 290), Value.none, (R 291), (R 292), (R 293), (Value.int 651 0), (Value.int 131 0), (V "/claim/cut.py" 652)]) #[]),
  (Obj.mk (Value.type "function") none (Data.func (fnD (sc 18 5) none (S "QName.__lt__") 3 [] Value.none Value.none Value.none (V "cpy313.xml.etree.ElementTree" 594) none (R 294) Value.none 0)) #[]),
  (Obj.mk (Value.type "tuple") none (Data.seq #[] 0) #[]),
  (Obj.mk Value.none none (Data.fields #[]) #[]),
  (Obj.mk (Value.type "tuple") none (Data.seq #[(V "self" 657), (V "other" 658)] 0) #[]),
  (Obj.mk (Value.type "tuple") none (Data.seq #[] 0) #[]),
  (Obj.mk Value.none none (Data.func (fnD (sc 18 6) none (S "QName.__ge__") 0 [] Value.none Value.none Value.none Value.none none Value.none Value.none 0)) #[]),
  (Obj.mk (Value.type "code") none (Data.fields #[(V "__ge__" 654), (V "QName.__ge__" 655), (V "/claim/cut.py" 656), (Value.int 136 0), (Value.int 2 0), (Value.int 0 0), (Value.int 0 0), (Value.int 3 0), (R 296), (Value.bool true), (Value.int 276 0), (R 297), Value.none, (R 298), (R 299), (R 300), (Value.int 659 0), (Value.int 136 0), (V "/claim/cut.py" 660)]) #[]),
  (Obj.mk (Value.type "function") none (Data.func (fnD (sc 18 6) none (S "QName.__ge__") 3 [] Value.none Value.none Value.none (V "cpy313.xml.etree.ElementTree" 594) none (R 301) Value.none 0)) #[]),
  (Obj.mk (Value.type "tuple") none (Data.seq #[] 0) #[]),
  (Obj.mk Value.none none (Data.fields #[]) #[]),
  (Obj.mk (Value.type "tuple") none (Data.seq #[(V "self" 665), (V "other" 666)] 0) #[]),
  (Obj.mk (Value.type "tuple") none (Data.seq #[] 0) #[]),
  (Obj.mk Value.none none (Data.func (fnD (sc 18 7) none (S "QName.__gt__") 0 [] Value.none Value.none Value.none Value.none none Value.none Value.none 0)) #[]),
  (Obj.mk (Value.type "code") none (Data.fields #[(V "__gt__" 662), (V "QName.__gt__" 663), (V "/claim/cut.py" 664), (Value.int 141 0), (Value.int 2 0), (Value.int 0 0), (Value.int 0 0), (Value.int 3 0), (R 303), (Value.bool true), (Value.int 276 0), (R 304), Value.none, (R 305), (R 306), (R 307), (Value.int 667 0), (Value.int 141 0), (V "/claim/cut.py" 668)]) #[]),
  (Obj.mk (Value.type "function") none (Data.func (fnD (sc 18 7) none (S "QName.__gt__") 3 [] Value.none Value.none Value.none (V "cpy313.xml.etree.ElementTree" 594) none (R 308) Value.none 0)) #[]),
  (Obj.mk (Value.type "tuple") none (Data.seq #[] 0) #[]),
  (Obj.mk Value.none none (Data.fields #[]) #[]),
  (Obj.mk (Value.type "tuple") none (Data.seq #[(V "self" 673), (V "other" 674)] 0) #[]),
  (Obj.mk (Value.type "tuple") none (Data.seq #[] 0) #[]),
  (Obj.mk Value.none none (Data.func (fnD (sc 18 8) none (S "QName.__eq__") 0 [] Value.none Value.none Value.none Value.none none Value.none Value.none 0)) #[]),
  (Obj.mk (Value.type "code") none (Data.fields #[(V "__eq__" 670), (V "QName.__eq__" 671), (V "/claim/cut.py" 672), (Value.int 146 0), (Value.int 2 0), (Value.int 0 0), (Value.int 0 0), (Value.int 3 0), (R 310), (Value.bool true), (Value.int 276 0), (R 311), Value.none, (R 312), (R 313), (R 314), (Value.int 675 0), (Value.int 146 0), (V "/claim/cut.py" 676)]) #[]),
  (Obj.mk (Value.type "function") none (Data.func (fnD (sc 18 8) none (S "QName.__eq__") 3 [] Value.none Value.none Value.none (V "cpy313.xml.etree.ElementTree" 594) none (R 315) Value.none 0)) #[]),
  (Obj.mk (Value.type "tuple") none (Data.seq #[(V "text" 678)] 0) #[]),
  (Obj.mk (Value.type "dict") none (Data.dict #[(E w.params "__module__" 603 (V "cpy313.xml.etree.ElementTree" 594)), (E w.params "__firstlineno__" 607 (Value.int 110 606)), (E w.params "__init__" 616 (R 260)), (E w.params "__str__" 623 (R 267)), (E w.params "__repr__" 630 (R 274)), (E w.params "__hash__" 637 (R 281)), (E w.params "__le__" 645 (R 288)), (E w.params "__lt__" 653 (R 295)), (E w.params "__ge__" 661 (R 302)), (E w.params "__gt__" 669 (R 309)), (E w.params "__eq__" 677 (R 316)), (E w.params "__static_attributes__" 679 (R 317)), (E w.params "__dict__" 681 (R 320)), (E w.params "__weakref__" 683 (R 321)), (E w.params "__doc__" 684 Value.none)] 4) #[]),
  (Obj.mk (Value.type "type") none (Data.cls (ClassData.mk (S "QName") [(Value.type "object")] [(R 319), (Value.type "object")] 318 (S "QName") true [] [] false none false)) #[none, none, (some (V "QName" 596)), (some (V "QName" 604)), (some (Value.builtin "object.__new__")), (some (Value.bool true))]),
  (Obj.mk (Value.type "getset_descriptor") none (Data.fields #[(V "__dict__" 680), (R 319), (Value.builtin "function.__dict__"), (Value.builtin "function.__dict__#set")]) #[]),
  (Obj.mk (Value.type "getset_descriptor") none (Data.fields #[(V "__weakref__" 682), (R 319), (Value.builtin "ExceptionGroup.__weakref__"), Value.none]) #[]),
  (Obj.mk (Value.type "super") none (Data.fields #[(R 319), (R 319), (R 319)]) #[]),
  (Obj.mk (Value.type "builtin_function_or_method") none (Data.fields #[(Value.builtin "object.__init_subclass__"), (R 319)]) #[]),
  (Obj.mk (Value.type "tuple") none (Data.seq #[] 0) #[]),
  (Obj.mk Value.none none (Data.fields #[]) #[]),
  (Obj.mk (Value.type "tuple") none (Data.seq #[(V "text" 690)] 0) #[]),
  (Obj.mk (Value.type "tuple") none (Data.seq #[] 0) #[]),
  (Obj.mk Value.none none (Data.func (fnD (st 19) none (S "_raise_serialization_error") 0 [] Value.none Value.none Value.none Value.none none Value.none Value.none 0)) #[]),
  (Obj.mk (Value.type "code") none (Data.fields #[(V "_raise_serialization_error" 687), (V "_raise_serialization_error" 688), (V "/claim/cut.py" 689), (Value.int 150 0), (Value.int 1 0), (Value.int 0 0), (Value.int 0 0), (Value.int 3 0), (R 324), (Value.bool true), (Value.int 276 0), (R 325), Value.none, (R 326), (R 327), (R 328), (Value.int 691 0), (Value.int 150 0), (V "/claim/cut.py" 692)]) #[]),
  (Obj.mk (Value.type "function") none (Data.func (fnD (st 19) none (S "_raise_serialization_error") 3 [] Value.none Value.none Value.none (V "cpy313.xml.etree.ElementTree" 594) none (R 329) Value.none 0)) #[]),
  (Obj.mk (Value.type "tuple") none (Data.seq #[] 0) #[]),
  (Obj.mk Value.none none (Data.fields #[]) #[]),
  (Obj.mk (Value.type "tuple") none (Data.seq #[(V "text" 697)] 0) #[]),
  (Obj.mk (Value.type "tuple") none (Data.seq #[] 0) #[]),
  (Obj.mk Value.none none (Data.func (fnD (st 20) none (S "_escape_cdata") 0 [] Value.none Value.none Value.none Value.none none Value.none Value.none 0)) #[]),
  (Obj.mk (Value.type "code") none (Data.fields #[(V "_escape_cdata" 694), (V "_escape_cdata" 695), (V "/claim/cut.py" 696), (Value.int 152 0), (Value.int 1 0), (Value.int 0 0), (Value.int 0 0), (Value.int 3 0), (R 331), (Value.bool true), (Value.int 276 0), (R 332), Value.none, (R 333), (R 334), (R 335), (Value.int 698 0), (Value.int 152 0), (V "/claim/cut.py" 699)]) #[]),
  (Obj.mk (Value.type "function") none (Data.func (fnD (st 20) none (S "_escape_cdata") 3 [] Value.none Value.none Value.none (V "cpy313.xml.etree.ElementTree" 594) none (R 336) Value.none 0)) #[]),
  (Obj.mk (Value.type "tuple") none (Data.seq #[] 0) #[]),
  (Obj.mk Value.none none (Data.fields #[]) #[]),
  (Obj.mk (Value.type "tuple") none (Data.seq #[(V "text" 704)] 0) #[]),
  (Obj.mk (Value.type "tuple") none (Data.seq #[] 0) #[]),
  (Obj.mk Value.none none (Data.func (fnD (st 21) none (S "_escape_attrib") 0 [] Value.none Value.none Value.none Value.none none Value.none Value.none 0)) #[]),
  (Obj.mk (Value.type "code") none (Data.fields #[(V "_escape_attrib" 701), (V "_escape_attrib" 702), (V "/claim/cut.py" 703), (Value.int 163 0), (Value.int 1 0), (Value.int 0 0), (Value.int 0 0), (Value.int 3 0), (R 338), (Value.bool true), (Value.int 276 0), (R 339), Value.none, (R 340), (R 341), (R 342), (Value.int 705 0), (Value.int 163 0), (V "/claim/cut.py" 706)]) #[]),
  (Obj.mk (Value.type "function") none (Data.func (fnD (st 21) none (S "_escape_attrib") 3 [] Value.none Value.none Value.none (V "cpy313.xml.etree.ElementTree" 594) none (R 343) Value.none 0)) #[]),
  (Obj.mk (Value.type "tuple") none (Data.seq #[] 0) #[]),
  (Obj.mk Value.none none (Data.fields #[]) #[]),
  (Obj.mk (Value.type "tuple") none (Data.seq #[(V "text" 711)] 0) #[]),
  (Obj.mk (Value.type "tuple") none (Data.seq #[] 0) #[]),
  (Obj.mk Value.none none (Data.func (fnD (st 22) none (S "_escape_attrib_html") 0 [] Value.none Value.none Value.none Value.none none Value.none Value.none 0)) #[]),
  (Obj.mk (Value.type "code") none (Data.fields #[(V "_escape_attrib_html" 708), (V "_escape_attrib_html" 709), (V "/claim/cut.py" 710), (Value.int 182 0), (Value.int 1 0), (Value.int 0 0), (Value.int 0 0), (Value.int 3 0), (R 345), (Value.bool true), (Value.int 276 0), (R 346), Value.none, (R 347), (R 348), (R 349), (Value.int 712 0), (Value.int 182 0), (V "/claim/cut.py" 713)]) #[]),
  (Obj.mk (Value.type "function") none (Data.func (fnD (st 22) none (S "_escape_attrib_html") 3 [] Value.none Value.none Value.none (V "cpy313.xml.etree.ElementTree" 594) none (R 350) Value.none 0)) #[]),
  (Obj.mk (Value.type "tuple") none (Data.seq #[] 0) #[]),
  (Obj.mk Value.none none (Data.fields #[]) #[]),
  (Obj.mk (Value.type "tuple") none (Data.seq #[(V "text" 718)] 0) #[]),
  (Obj.mk (Value.type "tuple") none (Data.seq #[] 0) #[]),
  (Obj.mk Value.none none (Data.func (fnD (st 23) none (S "_escape_cdata_c14n") 0 [] Value.none Value.none Value.none Value.none none Value.none Value.none 0)) #[]),
  (Obj.mk (Value.type "code") none (Data.fields #[(V "_escape_cdata_c14n" 715), (V "_escape_cdata_c14n" 716), (V "/claim/cut.py" 717), (Value.int 193 0), (Value.int 1 0), (Value.int 0 0), (Value.int 0 0), (Value.int 3 0), (R 352), (Value.bool true), (Value.int 276 0), (R 353), Value.none, (R 354), (R 355), (R 356), (Value.int 719 0), (Value.int 193 0), (V "/claim/cut.py" 720)]) #[]),
  (Obj.mk (Value.type "function") none (Data.func (fnD (st 23) none (S "_escape_cdata_c14n") 3 [] Value.none Value.none Value.none (V "cpy313.xml.etree.ElementTree" 594) none (R 357) Value.none 0)) #[]),
  (Obj.mk (Value.type "tuple") none (Data.seq #[] 0) #[]),
  (Obj.mk Value.none none (Data.fields #[]) #[]),
  (Obj.mk (Value.type "tuple") none (Data.seq #[(V "text" 725)] 0) #[]),
  (Obj.mk (Value.type "tuple") none (Data.seq #[] 0) #[]),
  (Obj.mk Value.none none (Data.func (fnD (st 24) none (S "_escape_attrib_c14n") 0 [] Value.none Value.none Value.none Value.none none Value.none Value.none 0)) #[]),
  (Obj.mk (Value.type "code") none (Data.fields #[(V "_escape_attrib_c14n" 722), (V "_escape_attrib_c14n" 723), (V "/claim/cut.py" 724), (Value.int 206 0), (Value.int 1 0), (Value.int 0 0), (Value.int 0 0), (Value.int 3 0), (R 359), (Value.bool true), (Value.int 276 0), (R 360), Value.none, (R 361), (R 362), (R 363), (Value.int 726 0), (Value.int 206 0), (V "/claim/cut.py" 727)]) #[]),
  (Obj.mk (Value.type "function") none (Data.func (fnD (st 24) none (S "_escape_attrib_c14n") 3 [] Value.none Value.none Value.none (V "cpy313.xml.etree.ElementTree" 594) none (R 364) Value.none 0)) #[]),
  (Obj.mk (Value.type "tuple") none (Data.seq #[] 0) #[]),
  (Obj.mk Value.none none (Data.fields #[]) #[]),
  (Obj.mk (Value.type "tuple") none (Data.seq #[(V "kind" 734)] 0) #[]),
  (Obj.mk (Value.type "tuple") none (Data.seq #[] 0) #[]),
  (Obj.mk Value.none none (Data.func (fnD (st 26) none (S "_law_hand") 0 [] Value.none Value.none Value.none Value.none none Value.none Value.none 0)) #[]),
  (Obj.mk (Value.type "code") none (Data.fields #[(V "_law_hand" 731), (V "_law_hand" 732), (V "/claim/cut.py" 733), (Value.int 224 0), (Value.int 1 0), (Value.int 0 0), (Value.int 0 0), (Value.int 3 0), (R 366), (Value.bool true), (Value.int 276 0), (R 367), Value.none, (R 368), (R 369), (R 370), (Value.int 735 0), (Value.int 224 0), (V "/claim/cut.py" 736)]) #[]),
  (Obj.mk (Value.type "function") none (Data.func (fnD (st 26) none (S "_law_hand") 3 [] Value.none Value.none Value.none (V "law_xl0032_01" 729) none (R 371) Value.none 0)) #[]),
  (Obj.mk (Value.type "tuple") none (Data.seq #[] 0) #[]),
  (Obj.mk Value.none none (Data.fields #[]) #[]),
  (Obj.mk (Value.type "tuple") none (Data.seq #[(V "script" 741), (V "cells" 742), (V "place" 743), (V "number" 744)] 0) #[]),
  (Obj.mk (Value.type "tuple") none (Data.seq #[] 0) #[]),
  (Obj.mk Value.none none (Data.func (fnD (st 27) none (S "_law_cells") 0 [] Value.none Value.none Value.none Value.none none Value.none Value.none 0)) #[]),
  (Obj.mk (Value.type "code") none (Data.fields #[(V "_law_cells" 738), (V "_law_cells" 739), (V "/claim/cut.py" 740), (Value.int 226 0), (Value.int 1 0), (Value.int 0 0), (Value.int 0 0), (Value.int 3 0), (R 373), (Value.bool true), (Value.int 276 0), (R 374), Value.none, (R 375), (R 376), (R 377), (Value.int 745 0), (Value.int 226 0), (V "/claim/cut.py" 746)]) #[]),
  (Obj.mk (Value.type "function") none (Data.func (fnD (st 27) none (S "_law_cells") 3 [] Value.none Value.none Value.none (V "law_xl0032_01" 729) none (R 378) Value.none 0)) #[]),
  (Obj.mk (Value.type "tuple") none (Data.seq #[] 0) #[]),
  (Obj.mk Value.none none (Data.fields #[]) #[]),
  (Obj.mk (Value.type "tuple") none (Data.seq #[(V "number" 751)] 0) #[]),
  (Obj.mk (Value.type "tuple") none (Data.seq #[] 0) #[]),
  (Obj.mk Value.none none (Data.func (fnD (st 28) none (S "_law_masks") 0 [] Value.none Value.none Value.none Value.none none Value.none Value.none 0)) #[]),
  (Obj.mk (Value.type "code") none (Data.fields #[(V "_law_masks" 748), (V "_law_masks" 749), (V "/claim/cut.py" 750), (Value.int 231 0), (Value.int 1 0), (Value.int 0 0), (Value.int 0 0), (Value.int 3 0), (R 380), (Value.bool true), (Value.int 276 0), (R 381), Value.none, (R 382), (R 383), (R 384), (Value.int 752 0), (Value.int 231 0), (V "/claim/cut.py" 753)]) #[]),
  (Obj.mk (Value.type "function") none (Data.func (fnD (st 28) none (S "_law_masks") 3 [] Value.none Value.none Value.none (V "law_xl0032_01" 729) none (R 385) Value.none 0)) #[]),
  (Obj.mk (Value.type "tuple") none (Data.seq #[] 0) #[]),
  (Obj.mk Value.none none (Data.fields #[]) #[]),
  (Obj.mk Value.none none (Data.func (fnD (st 29) none (S "_law_signs_of") 0 [] Value.none Value.none Value.none Value.none none Value.none Value.none 0)) #[]),
  (Obj.mk (Value.type "code") none (Data.fields #[(V "_law_signs_of" 755), (V "_law_signs_of" 756), (V "/claim/cut.py" 757), (Value.int 233 0), (Value.int 2 0), (Value.int 0 0), (Value.int 0 0), (Value.int 3 0), (R 387), (Value.bool true), (Value.int 276 0), (R 388), Value.none, Value.none, Value.none, (R 389), (Value.int 758 0), (Value.int 233 0), (V "/claim/cut.py" 759)]) #[]),
  (Obj.mk (Value.type "function") none (Data.func (fnD (st 29) none (S "_law_signs_of") 3 [] Value.none Value.none Value.none (V "law_xl0032_01" 729) none (R 390) Value.none 0)) #[]),
  (Obj.mk (Value.type "tuple") none (Data.seq #[] 0) #[]),
  (Obj.mk Value.none none (Data.fields #[]) #[]),
  (Obj.mk Value.none none (Data.func (fnD (st 30) none (S "_law_spelled") 0 [] Value.none Value.none Value.none Value.none none Value.none Value.none 0)) #[]),
  (Obj.mk (Value.type "code") none (Data.fields #[(V "_law_spelled" 761), (V "_law_spelled" 762), (V "/claim/cut.py" 763), (Value.int 235 0), (Value.int 2 0), (Value.int 0 0), (Value.int 0 0), (Value.int 3 0), (R 392), (Value.bool true), (Value.int 276 0), (R 393), Value.none, Value.none, Value.none, (R 394), (Value.int 764 0), (Value.int 235 0), (V "/claim/cut.py" 765)]) #[]),
  (Obj.mk (Value.type "function") none (Data.func (fnD (st 30) none (S "_law_spelled") 3 [] Value.none Value.none Value.none (V "law_xl0032_01" 729) none (R 395) Value.none 0)) #[]),
  (Obj.mk (Value.type "tuple") none (Data.seq #[] 0) #[]),
  (Obj.mk Value.none none (Data.fields #[]) #[]),
  (Obj.mk Value.none none (Data.func (fnD (st 31) none (S "_law_each_for_itself") 0 [] Value.none Value.none Value.none Value.none none Value.none Value.none 0)) #[]),
  (Obj.mk (Value.type "code") none (Data.fields #[(V "_law_each_for_itself" 767), (V "_law_each_for_itself" 768), (V "/claim/cut.py" 769), (Value.int 244 0), (Value.int 4 0), (Value.int 0 0), (Value.int 0 0), (Value.int 3 0), (R 397), (Value.bool true), (Value.int 276 0), (R 398), Value.none, Value.none, Value.none, (R 399), (Value.int 770 0), (Value.int 244 0), (V "/claim/cut.py" 771)]) #[]),
  (Obj.mk (Value.type "function") none (Data.func (fnD (st 31) none (S "_law_each_for_itself") 3 [] Value.none Value.none Value.none (V "law_xl0032_01" 729) none (R 400) Value.none 0)) #[]),
  (Obj.mk (Value.type "tuple") none (Data.seq #[] 0) #[]),
  (Obj.mk Value.none none (Data.fields #[]) #[]),
  (Obj.mk Value.none none (Data.func (fnD (st 32) none (S "_law_height") 0 [] Value.none Value.none Value.none Value.none none Value.none Value.none 0)) #[]),
  (Obj.mk (Value.type "code") none (Data.fields #[(V "_law_height" 773), (V "_law_height" 774), (V "/claim/cut.py" 775), (Value.int 270 0), (Value.int 2 0), (Value.int 0 0), (Value.int 0 0), (Value.int 3 0), (R 402), (Value.bool true), (Value.int 276 0), (R 403), Value.none, Value.none, Value.none, (R 404), (Value.int 776 0), (Value.int 270 0), (V "/claim/cut.py" 777)]) #[]),
  (Obj.mk (Value.type "function") none (Data.func (fnD (st 32) none (S "_law_height") 3 [] Value.none Value.none Value.none (V "law_xl0032_01" 729) none (R 405) Value.none 0)) #[]),
  (Obj.mk (Value.type "tuple") none (Data.seq #[] 0) #[]),
  (Obj.mk Value.none none (Data.fields #[]) #[]),
  (Obj.mk Value.none none (Data.func (fnD (st 33) none (S "_law_one_slope") 0 [] Value.none Value.none Value.none Value.none none Value.none Value.none 0)) #[]),
  (Obj.mk (Value.type "code") none (Data.fields #[(V "_law_one_slope" 779), (V "_law_one_slope" 780), (V "/claim/cut.py" 781), (Value.int 276 0), (Value.int 4 0), (Value.int 0 0), (Value.int 0 0), (Value.int 3 0), (R 407), (Value.bool true), (Value.int 276 0), (R 408), Value.none, Value.none, Value.none, (R 409), (Value.int 782 0), (Value.int 276 0), (V "/claim/cut.py" 783)]) #[]),
  (Obj.mk (Value.type "function") none (Data.func (fnD (st 33) none (S "_law_one_slope") 3 [] Value.none Value.none Value.none (V "law_xl0032_01" 729) none (R 410) Value.none 0)) #[]),
  (Obj.mk (Value.type "tuple") none (Data.seq #[] 0) #[]),
  (Obj.mk Value.none none (Data.fields #[]) #[]),
  (Obj.mk Value.none none (Data.func (fnD (st 34) none (S "law") 0 [] Value.none Value.none Value.none Value.none none Value.none Value.none 0)) #[]),
  (Obj.mk (Value.type "code") none (Data.fields #[(V "law" 785), (V "law" 786), (V "/claim/cut.py" 787), (Value.int 292 0), (Value.int 1 0), (Value.int 0 0), (Value.int 0 0), (Value.int 3 0), (R 412), (Value.bool true), (Value.int 276 0), (R 413), Value.none, Value.none, Value.none, (R 414), (Value.int 788 0), (Value.int 292 0), (V "/claim/cut.py" 789)]) #[]),
  (Obj.mk (Value.type "function") none (Data.func (fnD (st 34) none (S "law") 3 [] Value.none Value.none Value.none (V "law_xl0032_01" 729) none (R 415) Value.none 0)) #[])]
noncomputable def H0 (w : World) : Heap := ⟨⟨L0 w⟩, {}⟩
noncomputable def H1 (w : World) : Heap := ⟨⟨L1 w⟩, {}⟩
noncomputable def T0 (w : World) : BT := (treeOf 0 .nil (L0 w)).getD .nil
noncomputable def T1 (w : World) : BT := (treeOf 0 .nil (L1 w)).getD .nil
theorem t0_is : ∀ w, treeOf 0 .nil (L0 w) = some (T0 w) := by intro w; kernel_rfl
theorem t1_is : ∀ w, treeOf 0 .nil (L1 w) = some (T1 w) := by intro w; kernel_rfl
theorem opT_is : ∀ w : World, (opT PySem.Challenge.pw_xl0032_01 4408 w).map (fun s => (s.heap, s.gens, s.drawn, s.toks)) = some (H0 w, #[], {}, 276) := by intro w; kernel_rfl
theorem run_is : ∀ (w : World) (os : OsState), topRunT treeTable PySem.Challenge.pw_xl0032_01 w 28 (some (.ref 6)) 4408 ⟨T0 w, 28, {}, #[], {}, 276, os⟩ (topStub PySem.Challenge.pw_xl0032_01) = some ⟨T1 w, 417, {}, #[], {}, 791, os⟩ := by intro w os; kernel_rfl
end
section
open PySem PySem.W PyProof.Rows
set_option maxRecDepth 100000
set_option maxHeartbeats 8000000
set_option compiler.extract_closed false
noncomputable abbrev pw := PySem.Challenge.pw_xl0032_01
noncomputable def keepL : List Nat := [0,1,3,4,5,6,7,8,9,10,11,12,14,15,16,18,19,20,21,22,23,24,26,27,28,29,30,31,32,33,34]
noncomputable def q : Program := view PySem.Challenge.pw_xl0032_01 keepL
noncomputable def loose : List Str := ["_name_disallowed_re", "_value_disallowed_re"]
noncomputable abbrev s1 (w : World) (os : OsState) : Shared := ⟨H1 w, #[], {}, 791, os⟩
theorem c0 : ∀ w os, (staticsOk (importedModules pw.main.body) (H0 w) (H1 w) && namesBound pw (H1 w) && gensDone (s1 w os) && laidKept (H0 w) (H1 w)) = true := by intro w os; kernel_rfl
theorem c1 : ∀ w os, seen ((recsOf q).map (·.name)) (ownsOf q) [] { s1 w os with gens := #[] } = expectedOf q := by intro w os; kernel_rfl
theorem c2 : ∀ w : World, (H1 w).bltView = bltViewBooted := by intro w; kernel_rfl
theorem c3a : ∀ w : World, (H1 w).keysOk (looseW q loose) ((recsOf q).map (·.name)) ((litsOf q).map (·.1)) ((clssOf q (looseW q loose)).map (·.name)) = true := by intro w; kernel_rfl
theorem c3b : ∀ w : World, (H1 w).accountedOkI (importedModules pw.main.body) = true := by intro w; kernel_rfl
theorem c3c : ∀ w : World, (H1 w).isNs mainGlobals = true := by intro w; kernel_rfl
theorem c3d : ∀ w : World, (H1 w).isNs builtinsNs = true := by intro w; kernel_rfl
theorem c3e : ∀ w : World, tablesOk q (H1 w) = true := by intro w; kernel_rfl
theorem c3f : ∀ w os, (xlAt q [] (s1 w os) && recOk (RowW.records PySem.Challenge.rw_xl0032_01.row.toRowW) (s1 w os)) = true := by intro w os; kernel_rfl
theorem c4 : ∀ w os, tabsOk q (s1 w os) = true := by intro w os; kernel_rfl
theorem c5 : ∀ w os, pinSeenD q (drecsOf q) (s1 w os) = pinGoodD (drecsOf q) := by intro w os; kernel_rfl
theorem c6 : ∀ w os, plainSeenE q (looseW q loose) (s1 w os) = plainGoodE q (looseW q loose) := by intro w os; kernel_rfl
theorem c7 : ∀ w os, plainSeenD q loose (s1 w os) = plainGoodD q loose := by intro w os; kernel_rfl
theorem c8 : ∀ w os, wideSeen q (s1 w os) = wideGood q := by intro w os; kernel_rfl
theorem c9 : ∀ w os, clsSeenW q loose (s1 w os) = clsGoodW q loose := by intro w os; kernel_rfl
noncomputable def xt (s : Shared) : Bool := xlAt q [] s && recOk (RowW.records PySem.Challenge.rw_xl0032_01.row.toRowW) s
theorem seen_is (w : World) (os : OsState) : openSeen q loose (importedModules pw.main.body) xt true (s1 w os) = openGood q loose :=
  looks_pair (c1 w os) (looks_pair (c2 w) (looks_pair (look_both (look_both (look_both (look_both (look_both (look_both (c3a w) (c3b w)) (c3c w)) (c3d w)) (c3e w)) (c3f w os)) rfl)
    (looks_pair (c4 w os) (looks_pair (c5 w os) (looks_pair (c6 w os) (looks_pair (c7 w os) (looks_pair (c8 w os) (c9 w os))))))))
theorem left_gen {p q : Program} {loose : List Str} {Xt : Shared → Bool} {α : Type} {Yf : Shared → α} {Ya : World → α} {N n0 n1 k0 k1 : Nat} {ann : Option Value} {h0 h1 : World → Heap} {t0 t1 : World → BT}
    (ho : ∀ w, (opT p N w).map (fun s => (s.heap, s.gens, s.drawn, s.toks)) = some (h0 w, #[], {}, k0)) (hr : ∀ w os, topRunT treeTable p w n0 ann N ⟨t0 w, n0, {}, #[], {}, k0, os⟩ (topStub p) = some ⟨t1 w, n1, {}, #[], {}, k1, os⟩)
    (e0 : ∀ w, absHeap (t0 w) n0 {} = h0 w) (e1 : ∀ w, absHeap (t1 w) n1 {} = h1 w)
    (y1 : ∀ w, (h0 w).isNs mainGlobals = true) (y2 : ∀ w, (h0 w).objs.size = n0) (y3 : ∀ w, (h0 w).nsMap mainGlobals "__annotations__" = ann)
    (hc : ∀ w os, (staticsOk (importedModules p.main.body) (h0 w) (h1 w) && namesBound p (h1 w) && gensDone ⟨h1 w, #[], {}, k1, os⟩ && laidKept (h0 w) (h1 w)) = true)
    (hs : ∀ w os, openSeen q loose (importedModules p.main.body) Xt true ⟨h1 w, #[], {}, k1, os⟩ = openGood q loose) (hy : ∀ w os, Yf ⟨h1 w, #[], {}, k1, os⟩ = Ya w) : LeftO p q loose Xt Yf Ya N := fun w => by
  obtain ⟨s, g1, g2⟩ := Option.map_eq_some_iff.mp (ho w)
  obtain ⟨h, gs, d, k, os⟩ := s
  obtain ⟨rfl, rfl, rfl, rfl⟩ : h = h0 w ∧ gs = #[] ∧ d = {} ∧ k = k0 := by simpa using g2
  have r := topRun_of (hr w os)
  unfold SharedT.abs at r
  dsimp only at r
  rw [e0, e1] at r
  unfold openEnds
  rw [op_of g1]
  show (topFrom treeTable p w N _).map _ = _
  have t : topFrom treeTable p w N ⟨h0 w, #[], {}, k, os⟩ = some ⟨h1 w, #[], {}, k1, os⟩ := by
    unfold topFrom
    show (match (h0 w).isNs mainGlobals && true with | true => (topRun treeTable p w (h0 w).objs.size ((h0 w).nsMap mainGlobals "__annotations__") N _ (topStub p)).bind _ | false => none) = _
    rw [y1, y2, y3, r]
    show (match staticsOk (importedModules p.main.body) (h0 w) (h1 w) && namesBound p (h1 w) && gensDone ⟨h1 w, #[], {}, k1, os⟩ && laidKept (h0 w) (h1 w) with | true => _ | false => _) = _
    rw [hc w os]
  rw [t]
  exact congrArg some (Prod.ext (hs w os) (hy w os))
theorem abs_of {t : World → BT} {l : World → List Obj} {n : Nat} (e : ∀ w, treeOf 0 .nil (l w) = some (t w)) (hn : ∀ w, (l w).length = n) (w : World) : absHeap (t w) n {} = ⟨⟨l w⟩, {}⟩ := by
  have h := heap_abs (h := ⟨⟨l w⟩, {}⟩) (e w)
  rw [show (Heap.mk ⟨l w⟩ {}).objs.size = n from hn w] at h
  exact h
theorem n0_is : ∀ w, (L0 w).length = 28 := by intro w; kernel_rfl
theorem n1_is : ∀ w, (L1 w).length = 417 := by intro w; kernel_rfl
theorem y1_is : ∀ w, (H0 w).isNs mainGlobals = true := by intro w; kernel_rfl
theorem y3_is : ∀ w, (H0 w).nsMap mainGlobals "__annotations__" = some (.ref 6) := by intro w; kernel_rfl
theorem left_is {α : Type} {Yf : Shared → α} {Ya : World → α} (hy : ∀ w os, Yf (s1 w os) = Ya w) : LeftO pw q loose xt Yf Ya 4408 :=
  left_gen (h0 := H0) (h1 := H1) (t0 := T0) (t1 := T1) opT_is run_is (abs_of t0_is n0_is) (abs_of t1_is n1_is) y1_is n0_is y3_is c0 seen_is hy
end
section
open PySem PySem.W PyProof.Rows
set_option maxRecDepth 100000
set_option maxHeartbeats 8000000
set_option compiler.extract_closed false
noncomputable abbrev lw := PySem.Challenge.rw_xl0032_01
noncomputable abbrev pr := lw.row.prog
theorem a1 : sreFenced pr.main = true := by kernel_rfl
theorem a2 : ((moduleNames pr.main.body).isEmpty || lookedIntoSs (moduleNames pr.main.body) pr.main.body) = true := by kernel_rfl
theorem a3 : namesResolve pr = true := by kernel_rfl
theorem a4 : pr.boundNames.all (fun n => !worldNames.contains n) = true := by kernel_rfl
theorem a5 : noRoadLSs { strict := !(importedModules pr.main.body).all cThrough.contains, foot := none, bare := (["vars", "dir", "locals"] : List Str).filter (readsOut pr pr.main.body) } pr.main.body = true := by kernel_rfl
theorem a6 : (namesMeet pr pr.main.body fun _ n => attrL n) = true := by kernel_rfl
theorem a11 : noRoadLSs { strict := true, foot := some lw.bound', writes := lw.writes, may := lw.may } lw.footing = true := by kernel_rfl
theorem a13 : (namesMeet lw.prog lw.above (fun _ n => !lw.own.contains n)) = true := by kernel_rfl
theorem a14 : (namesMeet lw.prog lw.footing fun sc n => sc.kind == .module || sc.names.lookup n != some .globalExplicit) = true := by kernel_rfl
theorem look_is : looksOpen pr = true := look_both (look_both (look_both (look_both (look_both a1 a2) a3) a4) a5) a6
theorem ws : lw.wellSaid = true := by
  unfold OpenLaw.wellSaid OpenRow.wellSaid OpenRow.partSaid
  repeat' (with_reducible refine look_both ?_ ?_)
  all_goals first | with_reducible exact look_is | with_reducible exact a11 | with_reducible exact a13 | with_reducible exact a14 | kernel_rfl
local macro_rules | `(tactic| o_law) => `(tactic| refine holds_law ws fun said => ?_)
local macro_rules | `(tactic| o_head $H) => `(tactic| (
  refine holds_open (q := q) (loose := loose) (Xt := xt) (XP := XL q []) (Yf := Hook.obs $H) (Ya := Hook.val $H) (YP := Hook.says $H) (N := 4408) (left_is (by intro w os; kernel_rfl)) (Hook.of $H) (Hook.keeps $H) (fun s e => xl_of s (Bool.and_eq_true_iff.mp e).1) XL.keeps (by rfl) (by rfl) (by rfl) (fun s e => recFacts_of (Bool.and_eq_true_iff.mp e).2) (by rfl) (by assumption) (by decide +kernel) ⟨rfl, rfl, rfl, rfl, rfl, by decide +kernel⟩ ?hw ?hc))
open_top hd for PySem.Challenge.rw_xl0032_01
end
theorem topOff : True := by
  w_top off
  trivial
section
open PySem PySem.W PyProof.Rows
set_option maxRecDepth 100000
set_option maxHeartbeats 8000000
noncomputable abbrev Led := List (Addr × Obj)
noncomputable abbrev mdl (w : World) : Model := model PySem.Challenge.rw_xl0032_01.row.prog w
/-- where a def of the text is called from: a frame of another def -/
structure Cx (w : World) (mean : ExcName → Option Value) (mg mb : Str → Option Value) (dp un : Nat) (A₀ : Around) (base : Heap) (outer : List Env) (h₀ : Heap) (L : Addr) (m : Str → Option Value) (s : Shared) (news : Led) (k : Nat) : Prop where
  B : Below A₀ base outer h₀
  F : Fr h₀ L s.heap m
  X : (Mine.hd.heap_1 w.params).In h₀
  N : News h₀ L s.heap news
  T : Top q (looseW q loose) mean mg mb h₀
  hd : dp + k < recursionLimit
  hu : un + 8 * k < cLine
noncomputable abbrev tp (dp un : Nat) (gd : Option (List Code)) (cn : Str) (nms : List (Str × NameKind)) (ig ic : Bool) (mo : List (Str × Const)) (L a : Addr) (ccd : Value) (cl : List (Str × Addr)) (outer : List Env) : Around :=
  ktrTop dp un gd cn { kind := .function, names := nms, isGenerator := ig, isCoroutine := ic, more := mo } L a ccd cl outer

/-- all that stood ahead, but for the named objects, stands -/
noncomputable def Keep (led : Led) (h h' : Heap) : Prop := ∀ b o, (∀ p ∈ led, p.1 ≠ b) → h.get? b = some o → h'.get? b = some o
theorem Keep.of {led : Led} {h g h' : Heap} {L : Addr} {m : Str → Option Value} (k : Keep led h g) (F : Fr g L h' m) : Keep led h h' := fun b o hb e => F.keep b o (k b o hb e)
theorem Keep.news {led led' others : Led} {h₀ h h' : Heap} {L : Addr} (k : Keep led h h') (N : News h₀ L h others) (N' : News h₀ L h' led') (ho : ∀ p ∈ others, ∀ q ∈ led, q.1 ≠ p.1) : News h₀ L h' (led' ++ others) := fun p hp => by
  rcases List.mem_append.mp hp with hp | hp
  · exact N' p hp
  · exact ⟨k p.1 p.2 (ho p hp) (N p hp).1, (N p hp).2⟩
theorem Keep.all {others : Led} {h₀ h h' : Heap} {L : Addr} (k : Keep [] h h') (N : News h₀ L h others) : News h₀ L h' others := fun p hp => ⟨k p.1 p.2 (fun _ hq => nomatch hq) (N p hp).1, (N p hp).2⟩
theorem Keep.back {led led' : Led} {h h' h₀ h₂ : Heap} {L L₂ : Addr} (k : Keep led h h') (Nl : News h₀ L h led) (N' : News h₂ L₂ h' led') (hs : ∀ p ∈ led, p ∈ led') : Keep [] h h' := fun b o _ e => by
  by_cases hb : ∃ q ∈ led, q.1 = b
  · obtain ⟨q, hq, rfl⟩ := hb
    have e' := (Nl q hq).1
    rw [e] at e'
    cases e'
    exact (N' q (hs q hq)).1
  · exact k b o (fun q hq e' => hb ⟨q, hq, e'⟩) e
noncomputable def AllNe (D : Addr) : Led → Prop
  | [] => True
  | [p] => p.1 ≠ D
  | p :: q :: r => p.1 ≠ D ∧ AllNe D (q :: r)
theorem AllNe.all {D : Addr} : ∀ {l : Led}, AllNe D l → ∀ p ∈ l, p.1 ≠ D
  | [], _, _, h => nomatch h
  | [p], h, q, hq => by cases List.mem_singleton.mp hq; exact h
  | p :: q :: r, h, x, hx => by
    rcases List.mem_cons.mp hx with rfl | hx
    · exact h.1
    · exact AllNe.all h.2 x hx
theorem Keep.fresh {led : Led} {h g h' : Heap} {L D : Addr} {o : Obj} {r : Led} (k : Keep led h g) (N : News g L h' ((D, o) :: r)) (off : ∀ p ∈ led, p.1 ≠ D) : h.get? D = none := by
  cases e : h.get? D with
  | none => rfl
  | some o' =>
    have z := (N _ (.head _)).2.2
    rw [k D o' off e] at z
    cases z
theorem Keep.backX {led led' : Led} {h h' h₀ h₂ : Heap} {L L₂ : Addr} {chg : Led} (k : Keep led h h') (Nl : News h₀ L h led) (N' : News h₂ L₂ h' led') (hs : ∀ p ∈ led, p ∈ led' ∨ ∃ q ∈ chg, q.1 = p.1) : Keep chg h h' := fun b o hc e => by
  by_cases hb : ∃ q ∈ led, q.1 = b
  · obtain ⟨q, hq, rfl⟩ := hb
    have e' := (Nl q hq).1
    rw [e] at e'
    cases e'
    rcases hs q hq with hm | ⟨c, hcm, hce⟩
    · exact (N' q hm).1
    · exact absurd hce (hc c hcm)
  · exact k b o (fun q hq e' => hb ⟨q, hq, e'⟩) e
theorem news_ne {h₀ h : Heap} {L a b : Addr} {o o' : Obj} {led : Led} (N : News h₀ L h led) (h1 : (a, o) ∈ led) (h2 : (b, o') ∈ led) (hne : o.cls ≠ o'.cls) : a ≠ b := by
  rintro rfl
  have e1 := (N _ h1).1
  have e2 := (N _ h2).1
  dsimp only at e1 e2
  rw [e1] at e2
  exact hne (congrArg Obj.cls (Option.some.inj e2))
theorem News.sub {h₀ h : Heap} {L : Addr} {led others : Led} (N : News h₀ L h others) (hs : ∀ p ∈ led, p ∈ others) : News h₀ L h led := fun p hp => N p (hs p hp)
section
open PySem.Spec PySem.Calls
variable {prog : Program} {w : World} {A A₀ : Around} {s : Shared} {K : Frag} {L : Addr} {h₀ base : Heap} {m mg mb : Str → Option Value} {news : List (Addr × Obj)} {p : Program} {loose : List Str} {mean : ExcName → Option Value}
theorem code_defM {env : Env} {outer : List Env} {R : Result → Shared → Prop} {name qual : Str} {params : Arguments} {body : List Stmt} {scope : Scope} {dV kV doc pm cdv ct oc : Value} {an od : Option Addr} {osl : Array (Option Value)} {f : Addr} {args : Args} {binds : List (Str × Value)}
    (B : Below A₀ base outer h₀) (F : Fr h₀ L s.heap m) (X₀ : K.In h₀) (N : News h₀ L s.heap news) (T : Top p loose mean mg mb h₀) (hA : A.frames = some (env :: outer)) (hf : env.frame = some L) (hke : env.scope.kind = .function)
    (ho : K.lookup f = some ⟨oc, od, .func (fnOf name qual params body scope dV kV doc pm an cdv ct), osl⟩) (hcd : codeIn K cdv qual = true) (hroom : A.depth < recursionLimit)
    (hbind : BindsTo s (fnOf name qual params body scope dV kV doc pm an cdv ct) args binds) (hloc : ∀ y ∈ binds, scope.names.lookup y.1 = some .local)
    (h : ∀ g L' h₁, Keep news s.heap g → Fr h₀ L g m → Fr g L' h₁ (fun y => binds.reverse.lookup y) → News g L' h₁ news → Below A base (env :: outer) g → K.In g → Top p loose mean mg mb g →
      wpAny (model prog w) (A.deeper (envOf qual scope L' f cdv)) (execs body (envOf qual scope L' f cdv))
        (fun fl s' => LeaveK h₀ L m g R (match fl with | .ret v => v | _ => .none) s')
        (fun e s' => wpAny (model prog w) (A.deeper (envOf qual scope L' f cdv)) (leaving (envOf qual scope L' f cdv) e) (fun _ s'' => R (.error e) s'') (fun e' s'' => R (.error e') s'') s')
        { s with heap := h₁, toks := s.toks + binds.length })
    (hco : scope.isCoroutine = false) (hgen : scope.isGenerator = false) (hk : scope.kind = .function)
    (hcell : ∀ x ∈ scope.names, x.2 ≠ .cell) : codeAny (model prog w) A (.call (.ref f) args) R s := by
  obtain ⟨FG, BG, st, lv⟩ := groundX (R := R) B F N hA hf hke
  refine codeAny_call_def (fd := fnOf name qual params body scope dV kV doc pm an cdv ct) (body := body) (binds := binds) hroom ((X₀.keeps F.keep) _ _ ho) rfl (T.nolimit.keeps F.keep) (codeRec_of (X₀.keeps F.keep) hcd) rfl hbind hcell hloc (fun h₁ hns hk₁ => ?_) hco hgen hk
  exact wpAny_mono (h _ s.heap.objs.size h₁ (fun b o hb e => hideAll_get _ e (fun q => by obtain ⟨p, hp, e'⟩ := List.mem_map.mp q; exact hb p hp e')) FG ⟨hns, fun b o e => hk₁ b o (of_hideAll _ e), Nat.le_of_eq (hideAll_size _ _)⟩
    (fun p hp => ⟨hk₁ _ _ (N p hp).1, Nat.ne_of_lt (Heap.lt_size (N p hp).1), hideAll_none _ (List.mem_map_of_mem hp)⟩) BG (X₀.keeps st) (T.keeps st)) (fun fl s' hl => lv _ _ hl) fun _ _ y => y
end
end
section
open PySem PySem.W PyProof.Rows
set_option maxRecDepth 100000
set_option maxHeartbeats 4000000
open PySem.Sre
noncomputable def codeN : Array Nat := #[14, 10, 4, 1, 1, 22, 0, 31, 16, 127, 0, 13, 7, 22, 0, 31, 16, 127, 0, 1]
noncomputable def codeV : Array Nat := #[14, 14, 4, 1, 1, 9, 4294966783, 0, 0, 2147483648, 0, 0, 0, 0, 0, 13, 11, 9, 4294966783, 0, 0, 2147483648, 0, 0, 0, 0, 0, 1]
theorem inSetN (c : Nat) (h1 : 32 ≤ c) (h2 : c < 127) (seen : Sre.Seen) : ∃ seen', inSet codeN c codeN.size 5 true seen = .ok (false, seen') := by
  have e0 : codeN.size = 17 + 1 + 1 + 1 := rfl
  have n1 : ¬ c ≤ 31 := by omega
  have n2 : (c == 127) = false := by simp; omega
  rw [e0, inSet]
  simp only [show codeN.getD (5 + 0) 0 = 22 from rfl, show codeN.getD (5 + 1) 0 = 0 from rfl, show codeN.getD (5 + 2) 0 = 31 from rfl, show ops[22]? = some .RANGE from rfl]
  simp only [Nat.zero_le, decide_true, Bool.true_and, decide_eq_true_eq, n1, if_false]
  rw [inSet]
  simp only [show codeN.getD (5 + 3 + 0) 0 = 16 from rfl, show codeN.getD (5 + 3 + 1) 0 = 127 from rfl, show ops[16]? = some .LITERAL from rfl, n2, Bool.false_eq_true, if_false]
  rw [inSet]
  simp only [show codeN.getD (5 + 3 + 2 + 0) 0 = 0 from rfl, show ops[0]? = some .FAILURE from rfl]
  exact ⟨_, rfl⟩
theorem bitV : ∀ c : Fin 127, 32 ≤ c.val → (codeV.getD (5 + (1 + c.val / 32)) 0).testBit (c.val % 32) = false := by decide +kernel
theorem inSetV (c : Nat) (h1 : 32 ≤ c) (h2 : c < 127) (seen : Sre.Seen) : ∃ seen', inSet codeV c codeV.size 5 true seen = .ok (false, seen') := by
  have e0 : codeV.size = 26 + 1 + 1 := rfl
  have hb := bitV ⟨c, h2⟩ h1
  dsimp only at hb
  rw [e0, inSet]
  simp only [show codeV.getD (5 + 0) 0 = 9 from rfl, show ops[9]? = some .CHARSET from rfl, hb, Bool.and_false, Bool.false_eq_true, if_false]
  rw [inSet]
  simp only [show codeV.getD (5 + 9 + 0) 0 = 0 from rfl, show ops[0]? = some .FAILURE from rfl]
  exact ⟨_, rfl⟩
/-- no sign of the text is in the first set: the search goes from place to place and finds none -/
theorem admitted_none (m : M) (hc : ∀ c seen, 32 ≤ c → c < 127 → ∃ seen', inSet m.code c m.code.size 5 true seen = .ok (false, seen')) (ht : ∀ i, i < m.lim → 32 ≤ m.text.getD i 0 ∧ m.text.getD i 0 < 127) :
    ∀ fuel s seen, ∃ seen', M.admitted m fuel s seen = .ok (none, seen')
  | 0, s, seen => ⟨_, rfl⟩
  | fuel + 1, s, seen => by
    rw [M.admitted]
    by_cases h : s ≥ m.lim
    · rw [if_pos h]; exact ⟨_, rfl⟩
    · rw [if_neg h]
      obtain ⟨a, b⟩ := ht s (by omega)
      obtain ⟨seen', e⟩ := hc _ seen a b
      rw [e]
      exact admitted_none m hc ht fuel (s + 1) seen'
theorem forSearch_fails (code text : Array Nat) (hh : header code = (1, code.getD 1 0 + 1)) (hf : code.getD 2 0 = 4) (h0 : ops[code.getD 0 0]? = some .INFO) (lim : Nat) (hl : lim ≤ text.size)
    (hc : ∀ c seen, 32 ≤ c → c < 127 → ∃ seen', inSet code c code.size 5 true seen = .ok (false, seen')) (ht : ∀ i, i < text.size → 32 ≤ text.getD i 0 ∧ text.getD i 0 < 127) :
    ∃ m : M, (forSearch code text 0 0 lim false).runFor 4 = m ∧ m.outcome.isSome = true ∧ (match m.outcome with | some .failed => True | _ => False) := by
  have key : ∃ m0 : M, forSearch code text 0 0 lim false = m0.say false ∧ m0.outcome = none ∧ m0.frames = [] := by
    unfold forSearch
    dsimp only
    rw [hh]
    split
    · exact ⟨_, rfl, rfl, rfl⟩
    · unfold M.attemptFrom
      have hs : ∀ m : M, m.code = code → m.hasFirstSet = true := by
        intro m e
        unfold M.hasFirstSet
        rw [e, h0, hf]; rfl
      rw [hs _ rfl]
      simp only [Bool.not_true, Bool.false_eq_true, if_false]
      split
      · rename_i e
        exact absurd (e.symm.trans (admitted_none _ (by exact hc) (by exact fun i hi => ht i (Nat.lt_of_lt_of_le hi hl)) _ _ _).choose_spec) (by intro q; cases q)
      · exact ⟨_, rfl, rfl, rfl⟩
      · rename_i e
        exact absurd (e.symm.trans (admitted_none _ (by exact hc) (by exact fun i hi => ht i (Nat.lt_of_lt_of_le hi hl)) _ _ _).choose_spec) (by intro q; cases q)
  obtain ⟨m0, e, e1, e2⟩ := key
  refine ⟨_, rfl, ?_⟩
  have st : (m0.say false).step = { (m0.say false) with outcome := some .failed } := by
    unfold M.step M.say
    simp only [e1, Option.isSome_none, Bool.false_eq_true, if_false, e2]
  have r : (forSearch code text 0 0 lim false).runFor 4 = { (m0.say false) with outcome := some .failed } := by
    rw [e]
    show M.runFor (3 + 1) _ = _
    rw [M.runFor]
    have : (m0.say false).outcome.isSome = false := by unfold M.say; simp [e1]
    rw [if_neg (by rw [this]; exact Bool.false_ne_true), st]
    rfl
  rw [r]
  exact ⟨rfl, trivial⟩
end
section
open PySem PySem.W PyProof.Rows
set_option maxRecDepth 100000
set_option maxHeartbeats 4000000
open PySem.Builtin PySem.Builtin.Re
theorem slot_search : Slot "re.Pattern" "search" "re.Pattern.search" :=
  .of (owner := "re.Pattern") (n := "search") (by rw [typeLookup_type, builtinLookup_eq_fast]; kernel_rfl) (by decide +kernel) (by decide +kernel) (by decide +kernel)
    (by first | exact .inl (by decide +kernel) | exact .inr (by decide +kernel)) (by rw [isSubtype_type]; kernel_rfl)
theorem type_search : typeOf (.builtin "re.Pattern.search") = pure (.type "method_descriptor") := by show builtinType _ = _; rw [builtinType_eq_fast]; kernel_rfl
theorem entry_search : entryFor table "re.Pattern.search" = some Builtin.«re.Pattern.search» := entryFor_of_tree (by kernel_rfl)
theorem args_search (a b : Value) : argsOk "re.Pattern.search" ⟨[a, b], []⟩ := by unfold argsOk; kernel_rfl
theorem plainAttrs_pat : PlainAttrs "re.Pattern" := ⟨⟨"object.__getattribute__", by rw [typeLookup_type, builtinLookup_eq_fast]; kernel_rfl, by decide +kernel⟩, by rw [typeLookup_type, builtinLookup_eq_fast]; kernel_rfl⟩
theorem named_search (x : Value) : reNamed "re.Pattern.search" "search" ["string", "pos", "endpos"] 1 [x] [] = pure [some x, none, none] := rfl
theorem for_quiet {M : Model} {A : Around} {E : Value → Shared → Prop} {s : Shared} {α : Type} {f : α → PUnit → Sem (ForInStep PUnit)} (hf : ∀ a (Q : ForInStep PUnit → Shared → Prop), Q (.yield ⟨⟩) s → wpAny M A (f a ⟨⟩) Q E s) :
    ∀ (l : List α) {Q : PUnit → Shared → Prop}, Q ⟨⟩ s → wpAny M A (forIn l PUnit.unit f) Q E s
  | [], Q, h => by simp only [List.forIn_nil]; exact wpAny_pure h
  | i :: l, Q, h => by
    simp only [List.forIn_cons]
    exact wpAny_bind (hf i _ (for_quiet hf l h))
theorem runToEnd_none {M : Model} {A : Around} {E : Value → Shared → Prop} {s : Shared} {m : Sre.M} {Q : Option Sre.M → Shared → Prop} (h1 : (m.runFor 4).outcome.isSome = true) (h2 : match (m.runFor 4).outcome with | some .failed => True | _ => False) (h : Q none s) :
    wpAny M A (reRunToEnd m) Q E s := by
  unfold reRunToEnd
  have e : reDrive (2 ^ 64) m = pure (m.runFor 4) := by
    show reDrive (18446744073709551615 + 1) m = _
    rw [reDrive]
    show (if (m.runFor 4).outcome.isSome = true then _ else _) = _
    rw [if_pos h1]; rfl
  rw [e]
  refine wpAny_bind (wpAny_pure ?_)
  refine wpAny_bind (for_quiet (fun i Q hq => ?_) _ ?_)
  · split
    · exact wpAny_bind (wpAny_rule (wpAny_pure hq))
    · exact wpAny_pure hq
  generalize (m.runFor 4).outcome = o at h2
  match o, h2 with
  | some .failed, _ => exact wpAny_pure h
theorem getD_bounds (x : Str) (hx : ∀ c ∈ x.cps, 32 ≤ c ∧ c < 127) : ∀ i, i < x.cps.size → 32 ≤ x.cps.getD i 0 ∧ x.cps.getD i 0 < 127 := by
  intro i hi
  rw [Array.getD_eq_getD_getElem?, Array.getElem?_eq_getElem hi]
  exact hx _ (Array.getElem_mem hi)
theorem search_none {prog : Program} {w : World} {A : Around} {E : Value → Shared → Prop} {s : Shared} {p t : Addr} {x : Str} {tx : Tok} {fs : Array Value} {xs : Array Value} {n : Nat} {cd : Option Addr} {sl sl' : Array (Option Value)} {cc : Value} {code : Array Nat} {Q : Value → Shared → Prop}
    (hp : s.heap.get? p = some ⟨.type "re.Pattern", none, .fields fs, sl⟩) (h5 : fs.getD 5 .none = .ref t) (h6 : reRawNat (fs.getD 6 .none) = 0) (h2 : reRawNat (fs.getD 2 .none) = 0)
    (ht : s.heap.get? t = some ⟨cc, cd, .seq xs n, sl'⟩) (hcode : (xs.map reRawOf).map (·.toNat) = code) (hh : Sre.header code = (1, code.getD 1 0 + 1)) (hf : code.getD 2 0 = 4) (h0 : Sre.ops[code.getD 0 0]? = some .INFO)
    (hc : ∀ c seen, 32 ≤ c → c < 127 → ∃ seen', Sre.inSet code c code.size 5 true seen = .ok (false, seen')) (hx : ∀ c ∈ x.cps, 32 ≤ c ∧ c < 127) (h : Q .none s) :
    wpAny (model prog w) A (call (.builtin "re.Pattern.search") [.ref p, .str x tx]) Q E s := by
  refine wpAny_call (codeAny_call_builtin slot_search.plain entry_search (slot_search.check _ _ _ _ _ _ _ _ ⟨_, hp, rfl⟩ (args_search _ _) ?_))
  unfold Builtin.«re.Pattern.search»
  unfold reTarget
  dsimp only
  rw [named_search]
  refine wpAny_bind ?_
  refine wpAny_bind (wpAny_pure ?_)
  dsimp only
  refine wpAny_bind (wpAny_pure ?_)
  refine wpAny_bind (wpAny_pure ?_)
  refine wpAny_bind (wpAny_bind (wpAny_load hp (wpAny_pure ?_)))
  unfold reTextOf
  refine wpAny_bind (wpAny_bind (wpAny_pure ?_))
  dsimp only
  refine wpAny_pure ?_
  dsimp only
  rw [h6]
  simp only [beq_self_eq_true, Bool.true_and, show ((0 : Nat) == 1) = false from rfl, Bool.false_and, Bool.false_eq_true, if_false]
  unfold reNoCollectionInside
  simp only [show ((0 : Nat) == 1) = false from rfl, Bool.false_eq_true, if_false]
  refine wpAny_bind (wpAny_pure ?_)
  rw [h5]
  unfold reRawItems seqItems?
  refine wpAny_bind (wpAny_bind (wpAny_bind (wpAny_load ht (wpAny_pure (wpAny_pure ?_)))))
  refine wpAny_pure ?_
  simp only [Option.getD_some, hcode, h2]
  have hb := getD_bounds x hx
  obtain ⟨m, e, m1, m2⟩ := forSearch_fails code x.cps hh hf h0 (min (2 ^ 63 - 1 : Int).toNat x.cps.size) (Nat.min_le_right _ _) hc hb
  unfold reAnswer
  refine wpAny_bind (runToEnd_none (m := Sre.forSearch code x.cps 0 (min (0 : Int).toNat x.cps.size) (min (2 ^ 63 - 1 : Int).toNat x.cps.size) false) ?_ ?_ ?_)
  · rw [show min (0 : Int).toNat x.cps.size = 0 from Nat.zero_min _, e]; exact m1
  · rw [show min (0 : Int).toNat x.cps.size = 0 from Nat.zero_min _, e]; exact m2
  exact wpAny_pure h
end
section
open PySem PySem.W PyProof.Rows
set_option maxRecDepth 100000
set_option maxHeartbeats 8000000
section
variable {w : World} {A : Around} {E : Value → Shared → Prop} {s : Shared} {h₀ : Heap} {L : Addr} {m : Str → Option Value} {x : Str} {tx : Tok}
noncomputable def okText (x : Str) : Prop := ∀ c ∈ x.cps, 32 ≤ c ∧ c < 127
theorem meth_search113 {pl : Sem Bool} {Q : Value × List Value → Shared → Prop} (F : Fr h₀ L s.heap m) (X : (Mine.hd.heap_1 w.params).In h₀) (h : Q (.builtin "re.Pattern.search", [.ref 113]) s) :
    wpAny (mdl w) A (getMethod (.ref 113) "search" pl) Q E s := by
  have hfill : (PySem.Challenge.rw_xl0032_01 = PySem.Challenge.rw_xl0032_01 ∧ Mine.hd.heap_1 = Mine.hd.heap_1) := by (k_fill; exact ⟨rfl, rfl⟩)
  have hp := X.keeps F.keep 113 _ (by k_is)
  exact getMethod_builtin ⟨_, hp, rfl⟩ plainAttrs_pat slot_search type_search (fun a e => by cases e; exact ⟨_, hp, rfl⟩) h
theorem meth_search118 {pl : Sem Bool} {Q : Value × List Value → Shared → Prop} (F : Fr h₀ L s.heap m) (X : (Mine.hd.heap_1 w.params).In h₀) (h : Q (.builtin "re.Pattern.search", [.ref 118]) s) :
    wpAny (mdl w) A (getMethod (.ref 118) "search" pl) Q E s := by
  have hfill : (PySem.Challenge.rw_xl0032_01 = PySem.Challenge.rw_xl0032_01 ∧ Mine.hd.heap_1 = Mine.hd.heap_1) := by (k_fill; exact ⟨rfl, rfl⟩)
  have hp := X.keeps F.keep 118 _ (by k_is)
  exact getMethod_builtin ⟨_, hp, rfl⟩ plainAttrs_pat slot_search type_search (fun a e => by cases e; exact ⟨_, hp, rfl⟩) h
theorem call_search113 {Q : Value → Shared → Prop} (F : Fr h₀ L s.heap m) (X : (Mine.hd.heap_1 w.params).In h₀) (hx : okText x) (h : Q .none s) :
    wpAny (mdl w) A (call (.builtin "re.Pattern.search") [.ref 113, .str x tx]) Q E s := by
  have hfill : (PySem.Challenge.rw_xl0032_01 = PySem.Challenge.rw_xl0032_01 ∧ Mine.hd.heap_1 = Mine.hd.heap_1) := by (k_fill; exact ⟨rfl, rfl⟩)
  have hp := X.keeps F.keep 113 _ (by k_is)
  have ht := X.keeps F.keep 112 _ (by k_is)
  exact search_none hp rfl rfl rfl ht (code := codeN) (by decide +kernel) (by rfl) (by rfl) (by rfl) (fun c seen a b => inSetN c a b seen) hx h
theorem call_search118 {Q : Value → Shared → Prop} (F : Fr h₀ L s.heap m) (X : (Mine.hd.heap_1 w.params).In h₀) (hx : okText x) (h : Q .none s) :
    wpAny (mdl w) A (call (.builtin "re.Pattern.search") [.ref 118, .str x tx]) Q E s := by
  have hfill : (PySem.Challenge.rw_xl0032_01 = PySem.Challenge.rw_xl0032_01 ∧ Mine.hd.heap_1 = Mine.hd.heap_1) := by (k_fill; exact ⟨rfl, rfl⟩)
  have hp := X.keeps F.keep 118 _ (by k_is)
  have ht := X.keeps F.keep 117 _ (by k_is)
  exact search_none hp rfl rfl rfl ht (code := codeV) (by decide +kernel) (by rfl) (by rfl) (by rfl) (fun c seen a b => inSetV c a b seen) hx h
end
structure Nm (x : Str) : Prop where
  ok : okText x
  low : okText (Txt.lower x)
  len : x.length ≤ 100
theorem Nm.fit {x : Str} (h : Nm x) : x.length ≤ 5592405 := Nat.le_trans h.len (by decide)
theorem strEq (x y : Str) : (x.cps.toList == y.cps.toList) = (x == y) := by
  by_cases h : x = y
  · subst h; simp
  · have h' : x.cps.toList ≠ y.cps.toList := fun e => h (by cases x; cases y; congr; exact Array.toList_inj.mp e)
    rw [beq_eq_false_iff_ne.mpr h', beq_eq_false_iff_ne.mpr h]
section
variable {prog : Program} {w : World} {A : Around} {E : Value → Shared → Prop} {s : Shared} {x y : Str} {t u : Tok} {r : Bool} {Q : Value → Shared → Prop}
theorem eqs_is (h : (x == y) = r) (q : Q (.bool r) s) : wpAny (model prog w) A (compareOp .Eq (.str x t) (.str y u)) Q E s := PySem.P.eq_str (by rw [strEq, h]; exact q)
theorem nes_is (h : (x == y) = r) (q : Q (.bool (!r)) s) : wpAny (model prog w) A (compareOp .NotEq (.str x t) (.str y u)) Q E s := PySem.P.ne_str (by rw [bne, strEq, h]; exact q)
end
section
variable {M : Model} {A : Around} {E : Value → Shared → Prop} {s : Shared} {K : Frag} {x C L f : Addr} {h₀ : Heap} {m : Str → Option Value} {ox : Obj} {od : Option Obj} {i v : Value}
theorem del_inst {Q : Unit → Shared → Prop} (F : Fr h₀ L s.heap m) (X₀ : K.In h₀) (I : InstAt s.heap x ox C od) (hq : noSeq K C = true) (hs : findIn K (.ref C) "__delitem__" = some (some (.ref f))) (hf : isFn K (.ref f) = true)
    (h : wpAny M A (call (.ref f) [.ref x, i]) (fun _ s' => Q () s') E s) : wpAny M A (delItem (.ref x) i) Q E s := by
  have X := X₀.keeps F.keep
  unfold delItem sequenceKey
  refine wpAny_holding (wpAny_bind (wpAny_bind (I.type.here ?_)))
  refine wpAny_bind ((anyM_none X hq).here ?_)
  rw [if_pos (show (!false) = true from rfl)]
  exact wpAny_pure (wpAny_bind (special_fn X I hs (beq_iff_eq.mp hf) (wpAny_mono h (fun _ _ z => wpAny_pure z) fun _ _ z => z)))
end
end
section
open PySem PySem.W PyProof.Rows
set_option maxRecDepth 100000
set_option maxHeartbeats 4000000
noncomputable abbrev LedX := List (Addr × Obj)
open PySem.Builtin PySem.Builtin.List
section
variable {prog : Program} {w : World} {A : Around} {E : Value → Shared → Prop} {s : Shared}
/-- xs[:] = ys, ys a list -/
theorem setItem_all {l D sl : Addr} {ol oD os : Obj} {items new : Array Value} {n k : Nat} {Q : Unit → Shared → Prop} (hl : s.heap.get? l = some ol) (hc : ol.cls = .type "list") (hd : ol.data = .seq items n) (hD : s.heap.get? D = some oD) (hcD : oD.cls = .type "list") (hdD : oD.data = .seq new k)
    (hs : s.heap.get? sl = some os) (hcs : os.cls = .type "slice") (hds : os.data = .fields #[.none, .none, .none]) (hz : items.size ≤ 1000) (hz2 : new.size ≤ 1000)
    (h : ∀ h', Heap.SameBut l s.heap h' → h'.get? l = some { ol with data := .seq new (if new.size == items.size then n else n + 1) } → Q () { s with heap := h' }) : wpAny (model prog w) A (setItem (.ref l) (.ref sl) (.ref D)) Q E s := by
  have hT : s.TypeIs (.ref l) "list" := ⟨ol, hl, hc⟩
  have hTs : s.TypeIs (.ref sl) "slice" := ⟨os, hs, hcs⟩
  have hTD : s.TypeIs (.ref D) "list" := ⟨oD, hD, hcD⟩
  have z1 : items.size ≤ sizeLine := Nat.le_trans hz (by decide)
  unfold setItem
  refine wpAny_holding ?_
  refine wpAny_bind (wpAny_sequenceKey hT (by decide) ?_)
  refine wpAny_bind (wpAny_callSpecial?_slot (name := Str.ofString "__setitem__") hT PySem.F.slot_list_setitem
    (wpAny_call_entry PySem.F.slot_list_setitem hT PySem.F.entry_list_setitem ?_ (PySem.F.args_list_setitem_3 _ _ _)))
  show wpAny _ _ (listSubscript? (.ref sl) >>= _) _ _ s
  refine wpAny_bind ?_
  unfold listSubscript?
  refine wpAny_bind (wpAny_specialOf hTs slice_no_index ?_)
  simp only [Option.isNone_none, if_true]
  refine wpAny_pure ?_
  show wpAny _ _ (typeOf (.ref sl) >>= _) _ _ s
  refine wpAny_bind (wpAny_typeOf hTs ?_)
  rw [if_neg (by decide)]
  rw [listSliceParts_eq]
  have ps : IsPart Value.none none := .none
  refine wpAny_bind (wpAny_bind (wpAny_field hs hds (x := .none) rfl (wpAny_bind (wpAny_listPart ps ?_))))
  rw [if_neg (by exact Bool.false_ne_true)]
  refine wpAny_bind (wpAny_field hs hds (x := .none) rfl (wpAny_bind (wpAny_listPart ps ?_)))
  refine wpAny_bind (wpAny_field hs hds (x := .none) rfl (wpAny_bind (wpAny_listPart ps (wpAny_pure ?_))))
  have all : ∀ (Q' : Array Value → Shared → Prop), Q' new s → wpAny (model prog w) A.in1 (listAllItems (.ref D) "must assign iterable to extended slice") Q' E s := by
    intro Q' hq
    unfold listAllItems
    refine wpAny_bind (wpAny_typeOf hTD ?_)
    rw [if_pos (by decide)]
    exact listItems_at hD hdD hq
  have eb : sliceBounds none none none items.size = (((0 : Nat) : Int), (items.size : Int), 1) := by simp [sliceBounds]
  have ef : items.extract 0 (((0 : Nat) : Int).toNat) ++ new ++ items.extract (max ((0 : Nat) : Int) (items.size : Int)).toNat items.size = new := by
    have : (max ((0 : Nat) : Int) (items.size : Int)).toNat = items.size := by omega
    rw [this]
    simp
  dsimp only
  split
  · refine wpAny_bind (listItems_at hD hdD ?_)
    refine wpAny_bind (listItems_at hl hd ?_)
    refine wpAny_bind (wpAny_of_eq (sliceIndices_raw none none none items.size (by simp)) ?_)
    rw [eb]
    dsimp only
    rw [if_pos (by decide)]
    refine wpAny_bind (wpAny_rule ?_)
    rw [if_neg (by unfold listTooLong; rw [decide_eq_true_eq, PySem.sizeLine_eq]; omega)]
    refine wpAny_bind (listUpdate_at hl hd ?_ z1 ?_)
    · refine wpAny_bind (wpAny_letGo ?_)
      refine wpAny_pure ⟨_, rfl, wpAny_pure ?_⟩
      obtain ⟨c, d, dt, sls⟩ := ol
      dsimp only at hd hc
      subst hd
      refine h _ (Heap.SameBut.update ..) ?_
      have e : Obj.mapSeq (fun xs => xs.extract 0 (((0 : Nat) : Int).toNat) ++ new ++ xs.extract (max ((0 : Nat) : Int) (items.size : Int)).toNat xs.size) ⟨c, d, .seq items n, sls⟩ = ⟨c, d, .seq new (if new.size == items.size then n else n + 1), sls⟩ := by
        unfold Obj.mapSeq
        dsimp only
        rw [ef]
      rw [Heap.get?_update_self _ hl (by rw [e]; rfl), e]
    · rw [ef, PySem.sizeLine_eq]; omega
  · refine wpAny_bind (all _ ?_)
    refine wpAny_bind (listItems_at hl hd ?_)
    refine wpAny_bind (wpAny_of_eq (sliceIndices_raw none none none items.size (by simp)) ?_)
    rw [eb]
    dsimp only
    rw [if_pos (by decide)]
    refine wpAny_bind (wpAny_rule ?_)
    rw [if_neg (by unfold listTooLong; rw [decide_eq_true_eq, PySem.sizeLine_eq]; omega)]
    refine wpAny_bind (listUpdate_at hl hd ?_ z1 ?_)
    · refine wpAny_bind (wpAny_letGo ?_)
      refine wpAny_pure ⟨_, rfl, wpAny_pure ?_⟩
      obtain ⟨c, d, dt, sls⟩ := ol
      dsimp only at hd hc
      subst hd
      refine h _ (Heap.SameBut.update ..) ?_
      have e : Obj.mapSeq (fun xs => xs.extract 0 (((0 : Nat) : Int).toNat) ++ new ++ xs.extract (max ((0 : Nat) : Int) (items.size : Int)).toNat xs.size) ⟨c, d, .seq items n, sls⟩ = ⟨c, d, .seq new (if new.size == items.size then n else n + 1), sls⟩ := by
        unfold Obj.mapSeq
        dsimp only
        rw [ef]
      rw [Heap.get?_update_self _ hl (by rw [e]; rfl), e]
    · rw [ef, PySem.sizeLine_eq]; omega
end
section
variable {prog : Program} {w : World} {A : Around} {E : Value → Shared → Prop} {s : Shared} {h₀ h : Heap} {L D tl : Addr} {m : Str → Option Value} {news news' : LedX} {its new : Array Value} {n k : Nat}
theorem setSlice_K {Q : Unit → Shared → Prop} (e : s.heap = h.push { cls := .type "slice", data := .fields #[.none, .none, .none] }) (F : Fr h₀ L h m) (N : News h₀ L h news) (U : Upd tl (listOf its n) (listOf new (if new.size == its.size then n else n + 1)) news news') (hD : (D, listOf new k) ∈ news) (hz : its.size ≤ 1000) (hz2 : new.size ≤ 1000)
    (hQ : ∀ h', Fr h₀ L h' m → News h₀ L h' news' → Q () { s with heap := h' }) : wpAny (model prog w) A (setItem (.ref tl) (.ref h.objs.size) (.ref D)) Q E s := by
  obtain ⟨pre, post, rfl, rfl, a, b⟩ := U.split
  have z := N (tl, listOf its n) (List.mem_append.mpr (.inr (.head _)))
  have F' := F.push { cls := .type "slice", data := .fields #[.none, .none, .none] }
  have N' : News h₀ L s.heap (pre ++ (tl, listOf its n) :: post) := fun p hp => ⟨e ▸ Heap.get?_push_of_some _ (N p hp).1, (N p hp).2⟩
  rw [← e] at F'
  refine setItem_all (N' _ (List.mem_append.mpr (.inr (.head _)))).1 rfl rfl (N' _ hD).1 rfl rfl (sl := h.objs.size) (by rw [e]; exact Heap.get?_push_size _ rfl) rfl rfl hz hz2 fun h' hs hg => ?_
  exact hQ h' (F'.change hs z.2.1 z.2.2) (news_set N' a b hs hg)
end
end
section
open PySem PySem.W PyProof.Rows
set_option maxRecDepth 100000
set_option maxHeartbeats 8000000
noncomputable def AllL (d : Addr) : List (Addr × Obj) → Prop
  | [] => True
  | [p] => @LT.lt Nat _ p.1 d
  | p :: q :: r => @LT.lt Nat _ p.1 d ∧ AllL d (q :: r)
theorem allL_of {d : Addr} : ∀ {l : List (Addr × Obj)}, (∀ p ∈ l, p.1 < d) → AllL d l
  | [], _ => trivial
  | [p], h => h p (.head _)
  | p :: q :: r, h => ⟨h p (.head _), allL_of (l := q :: r) fun x hx => h x (.tail _ hx)⟩
-- cheap steps for ledgers
theorem sub_cons {a : Addr × Obj} {l R : Led} (h : a ∈ R) (t : ∀ p ∈ l, p ∈ R) : ∀ p ∈ a :: l, p ∈ R := fun p hp => by
  rcases List.mem_cons.mp hp with rfl | hp
  · exact h
  · exact t p hp
theorem sub_nil {R : Led} : ∀ p ∈ ([] : Led), p ∈ R := fun _ h => nomatch h
theorem sub_self {R : Led} : ∀ p ∈ R, p ∈ R := fun _ h => h
theorem sub_tail {a : Addr × Obj} {l R : Led} (t : ∀ p ∈ l, p ∈ R) : ∀ p ∈ l, p ∈ a :: R := fun p hp => .tail _ (t p hp)
theorem off_cons {a : Addr × Obj} {l : Led} {D : Addr} (h : a.1 ≠ D) (t : ∀ p ∈ l, p.1 ≠ D) : ∀ p ∈ a :: l, p.1 ≠ D := fun p hp => by
  rcases List.mem_cons.mp hp with rfl | hp
  · exact h
  · exact t p hp
theorem lt_off {R : Led} {D : Addr} (h : ∀ p ∈ R, p.1 < D) : ∀ p ∈ R, p.1 ≠ D := fun p hp => Nat.ne_of_lt (h p hp)
theorem lt_tl {a : Addr × Obj} {R : Led} {D : Addr} (h : ∀ p ∈ a :: R, p.1 < D) : ∀ p ∈ R, p.1 < D := fun p hp => h p (.tail _ hp)
theorem let_body {M : Model} {A : Around} {b : List Stmt} {env : Env} {Q : Flow → Shared → Prop} {E : Value → Shared → Prop} {s : Shared} (h : let A' := A; let env' := env; let Q' := Q; let E' := E; wpAny M A' (execs b env') Q' E' s) : wpAny M A (execs b env) Q E s := h
theorem mem_tl {a b : Addr × Obj} {l : Led} (h : a ∈ l) : a ∈ b :: l := .tail _ h
noncomputable def HaltG (P : Prop) : Prop := P
theorem HaltG.intro {P : Prop} (h : HaltG P) : P := h
theorem add_assoc_lt {u a b l : Nat} (h : u + (a + b) < l) : u + a + b < l := by rw [Nat.add_assoc]; exact h
theorem lt_le {d a b l : Nat} (hd : d + b < l) (h : a ≤ b) : d + a < l := Nat.lt_of_le_of_lt (Nat.add_le_add_left h d) hd
theorem lt_le0 {d b l : Nat} (hd : d + b < l) : d < l := Nat.lt_of_le_of_lt (Nat.le_add_right d b) hd
theorem let_cons {M : Model} {A : Around} {st : Stmt} {rest : List Stmt} {env : Env} {Q : Flow → Shared → Prop} {E : Value → Shared → Prop} {s : Shared} (h : let qN := (fun (f : Flow) (s' : Shared) => match f with | .next => wpAny M A (execs rest env) Q E s' | f => Q f s'); wpAny M A (exec st env) qN E s) : wpAny M A (execs (st :: rest) env) Q E s := wpAny_execs_cons h
-- enter a def by its contract's facts, and walk
-- all that stood stands
-- the caller's facts of a contract
end
local macro_rules | `(tactic| k_lt $h) => `(tactic| (replace $h := allL_of $h; dsimp only [AllL] at $h:ident))
local macro_rules | `(tactic| k_room) => `(tactic| ktr_room)
local macro_rules | `(tactic| k_units) => `(tactic| ktr_units)
local macro_rules | `(tactic| tb_rel) => `(tactic| exact Keep.back (Keep.of (by assumption) (by assumption)) (by assumption) (by assumption) (by with_unfolding_all k_allIn))
local macro_rules | `(tactic| ktr_unf) => `(tactic| (refine' Mine.Cx.mk ?k1 ?k2 ?k3 ?k4 ?k5 ?k6 ?k7; (case k1 => k_asm); (case k2 => k_asm); (case k3 => k_asm); (case k4 => first | exact News.nil | k_asm | (refine Mine.News.sub (by k_asm) ?_; with_unfolding_all lcg_sub)); (case k5 => k_asm); (case k6 => ktr_room); (case k7 => ktr_units)))
local macro_rules | `(tactic| walk_at "call builtin:str.lower") => `(tactic| (k_here; (refine SCL.lower (Nm.fit (by assumption)) ?_); intro _))
local macro_rules | `(tactic| walk_at "exec For Tuple Attribute") => `(tactic| (k_here; (rename Fr _ _ _ _ => lF'); (with_unfolding_all refine' For_turns lF' ?_; k_whole)))
local macro_rules | `(tactic| walk_at "compareOp Eq str str") => `(tactic| (k_here; refine eqs_is (by assumption) ?_))
local macro_rules | `(tactic| walk_at "compareOp NotEq str str") => `(tactic| (k_here; refine nes_is (by assumption) ?_))
local macro_rules | `(tactic| k_ne) => `(tactic| (refine neN ?_; (try dsimp only); first | assumption | exact Ne.symm (by assumption) | walk_at "ne" | exact Ne.symm (by walk_at "ne") | ((repeat (rename (_ ≠ _ ∧ _) => hc9; obtain ⟨_, _⟩ := hc9)); first | assumption | exact Ne.symm (by assumption) | ((repeat (rename ((_ ≠ _ ∧ _) ∧ _) => hc9; clear hc9)); (repeat (rename (_ ≠ _) => hc9; clear hc9)); omega))))
local macro_rules | `(tactic| walk_at "ne") => `(tactic| first | exact And.left (by assumption) | exact And.right (by assumption) | exact And.left (And.right (by assumption)) | exact And.right (And.right (by assumption)) | exact Nat.ne_of_lt (by first | assumption | exact And.left (by assumption) | exact And.left (And.right (by assumption)) | exact And.left (And.right (And.right (by assumption)))))
local macro_rules | `(tactic| lcg_off) => `(tactic| (first | assumption | (simp only [LCg.Off3, and_true]; done) | (simp only [LCg.Off3, and_true]; assumption) | (with_unfolding_all assumption)))
local macro_rules | `(tactic| k_mem) => `(tactic| first | exact List.Mem.head _ | assumption | (refine' Mine.mem_tl ?_; k_mem))
local macro_rules | `(tactic| lcg_sub) => `(tactic| first | exact Mine.sub_nil | assumption | exact Mine.sub_self | (refine Mine.sub_cons (by k_mem) ?_; lcg_sub) | (refine Mine.sub_tail ?_; lcg_sub))
local macro_rules | `(tactic| k_allIn) => `(tactic| lcg_sub)
local macro_rules | `(tactic| k_all) => `(tactic| first | exact List.forall_mem_nil _ | assumption | (refine Mine.off_cons ?k1 ?k2; (case k1 => k_ne); (case k2 => k_all)))
local macro_rules | `(tactic| walk_at "execs cons") => `(tactic| (k_here; (try (rename PySem.Flow → PySem.Shared → Prop => z9; clear z9)); refine Mine.let_cons ?_; intro qN'))
local macro_rules | `(tactic| walk_at "tb.let") => `(tactic| (refine Mine.let_body ?_; intro A1' env1' qk1' ek1'; (have hdA' : PySem.Around.depth A1' = _ + 1 := rfl); (have huA' : PySem.Around.units A1' = _ + 3 := rfl)))
local macro_rules | `(tactic| ktr_room) => `(tactic| ((rename (_ + _ < PySem.recursionLimit) => hr9); (repeat (refine Mine.add_assoc_lt ?_)); first | exact Mine.lt_le hr9 (Nat.le_of_ble_eq_true rfl) | exact Mine.lt_le0 hr9))
local macro_rules | `(tactic| ktr_units) => `(tactic| ((rename (_ + _ < PySem.cLine) => hr9); (repeat (refine Mine.add_assoc_lt ?_)); first | exact Mine.lt_le hr9 (Nat.le_of_ble_eq_true rfl) | exact Mine.lt_le0 hr9))
section
open PySem PySem.W PyProof.Rows
set_option maxRecDepth 100000
set_option maxHeartbeats 8000000
section
variable {w : World} {mean : ExcName → Option Value} {mg mb : Str → Option Value} {dp un : Nat} {gd : Option (List Code)} {cn : Str} {nms : List (Str × NameKind)} {ig ic : Bool} {mo : List (Str × Const)} {a : Addr} {ccd : Value} {cl : List (Str × Addr)} {outer : List Env} {A₀ : Around} {base h₀ : Heap} {L : Addr} {m : Str → Option Value} {s : Shared} {Q E : Value → Shared → Prop} {news : Led}
noncomputable abbrev tup2 (x : Str) (t : Tok) (y : Str) (u : Tok) : Obj := { cls := .type "tuple", data := .seq #[.str x t, .str y u] }
noncomputable abbrev ledT (ti td tl p0 p1 p2 : Addr) (hh : Int) (kt : Tok) (n nl : Nat) (n0 : Str) (t0 : Tok) (w0 : Str) (u0 : Tok) (n1 : Str) (t1 : Tok) (w1 : Str) (u1 : Tok) (n2 : Str) (t2 : Tok) (w2 : Str) (u2 : Tok) : Led :=
  [(ti, instObj 241 td), (td, dictOf [⟨hh, .str "_headers" kt, .ref tl⟩] n), (tl, listOf #[.ref p0, .ref p1, .ref p2] nl), (p0, tup2 n0 t0 w0 u0), (p1, tup2 n1 t1 w1 u1), (p2, tup2 n2 t2 w2 u2)]
local macro_rules | `(tactic| walk_at "getMethod ref") => `(tactic| (k_here; (with_reducible show wpAny _ _ (getMethod (Value.ref _) (Str.ofString "search") _) _ _ _); refine HaltG.intro ?_))
local macro_rules | `(tactic| walk_at "call builtin:re.Pattern.search") => `(tactic| (k_here; refine HaltG.intro ?_))
theorem conv_ok {x : Str} {tx : Tok} {ti : Addr} {b : Bool} (hx : okText x) (C : Cx w mean mg mb dp un A₀ base outer h₀ L m s [] 1)
   (ret : ∀ h' tk', Fr h₀ L h' m → Keep [] s.heap h' → Q (.str x tx) { s with heap := h', toks := tk' }) :
   wpAny (mdl w) (tp dp un gd cn nms ig ic mo L a ccd cl outer) (call (.ref 140) [.ref ti, .str x tx] [(Str.ofString "name", .bool b)]) Q E s := by
  cases b
  all_goals
    ((have hfill : (PySem.Challenge.rw_xl0032_01 = PySem.Challenge.rw_xl0032_01 ∧ Mine.hd.heap_1 = Mine.hd.heap_1) := by (k_fill; exact ⟨rfl, rfl⟩)); clear hfill; (rename Cx _ _ _ _ _ _ _ _ _ _ _ _ _ _ _ => Cz9); obtain ⟨Bz9, Fz9, Xz9, Nz9, Tz9, hdz9, huz9⟩ := Cz9; refine wpAny_call ?_; w_strict (k_dflt (refine' code_defM ?k1 ?k2 ?k3 ?k4 ?k5 ?kA ?kF ?kK ?k6 ?k7 ?k8 ?k9 ?kB ?_ ?c2 ?c3 ?c4 ?c5; (case kA => exact rfl); (case kF => exact rfl); (case kK => exact rfl); (case k1 => k_asm); (case k2 => k_asm); (case k3 => k_asm); (case k4 => k_asm); (case k5 => k_asm); (case k6 => k_is); (case k7 => k_is); (case k8 => ktr_room); (case k9 => first | exact BindsTo.of_eq rfl | exact binds_K (by k_in) rfl (by k_is) rfl rfl rfl); (case c5 => decide); (case kB => exact locs rfl); (case c2 => exact rfl); (case c3 => exact rfl); (case c4 => exact rfl); k_whole; intro gz9 Lz9 hz9 hGz9 FGz9 Fz8 Nz8 Bz8 Xz8 Tz8; (try dsimp only); (try k_lift Bz8); (try k_fold))))
    walk_at "tb.let"
    w_strict k_steps
    repeat (any_goals (unfold HaltG; (first | refine meth_search113 (by k_asm) (by k_asm) ?_ | refine meth_search118 (by k_asm) (by k_asm) ?_ | refine call_search113 (by k_asm) (by k_asm) (by first | assumption | exact Nm.ok (by assumption) | exact Nm.low (by assumption)) ?_ | refine call_search118 (by k_asm) (by k_asm) (by first | assumption | exact Nm.ok (by assumption) | exact Nm.low (by assumption)) ?_); w_strict k_steps))
    exact ret _ _ (by assumption) (by tb_rel)
local macro_rules | `(tactic| walk_at "call ref") => `(tactic| (k_here; (with_reducible show wpAny _ _ (call (Value.ref 140) _ _) _ _ _); refine HaltG.intro ?_))
theorem get_first {x n0 n1 n2 w0 w1 w2 : Str} {tx t0 t1 t2 u0 u1 u2 kt : Tok} {ti td tl p0 p1 p2 : Addr} {hh : Int} {n nl : Nat} (C : Cx w mean mg mb dp un A₀ base outer h₀ L m s (ledT ti td tl p0 p1 p2 hh kt n nl n0 t0 w0 u0 n1 t1 w1 u1 n2 t2 w2 u2) 3) (hx : Nm x) (hn0 : Nm n0) (e0 : (Txt.lower n0 == Txt.lower x) = true)
   (ret : ∀ h' tk', Fr h₀ L h' m → Keep [] s.heap h' → Q (.str w0 u0) { s with heap := h', toks := tk' }) :
   wpAny (mdl w) (tp dp un gd cn nms ig ic mo L a ccd cl outer) (call (.ref 188) [.ref ti, .str x tx]) Q E s := by
  ((have hfill : (PySem.Challenge.rw_xl0032_01 = PySem.Challenge.rw_xl0032_01 ∧ Mine.hd.heap_1 = Mine.hd.heap_1) := by (k_fill; exact ⟨rfl, rfl⟩)); clear hfill; (rename Cx _ _ _ _ _ _ _ _ _ _ _ _ _ _ _ => Cz9); obtain ⟨Bz9, Fz9, Xz9, Nz9, Tz9, hdz9, huz9⟩ := Cz9; refine wpAny_call ?_; w_strict (k_dflt (refine' code_defM ?k1 ?k2 ?k3 ?k4 ?k5 ?kA ?kF ?kK ?k6 ?k7 ?k8 ?k9 ?kB ?_ ?c2 ?c3 ?c4 ?c5; (case kA => exact rfl); (case kF => exact rfl); (case kK => exact rfl); (case k1 => k_asm); (case k2 => k_asm); (case k3 => k_asm); (case k4 => k_asm); (case k5 => k_asm); (case k6 => k_is); (case k7 => k_is); (case k8 => ktr_room); (case k9 => first | exact BindsTo.of_eq rfl | exact binds_K (by k_in) rfl (by k_is) rfl rfl rfl); (case c5 => decide); (case kB => exact locs rfl); (case c2 => exact rfl); (case c3 => exact rfl); (case c4 => exact rfl); k_whole; intro gz9 Lz9 hz9 hGz9 FGz9 Fz8 Nz8 Bz8 Xz8 Tz8; (try dsimp only); (try k_lift Bz8); (try k_fold))))
  walk_at "tb.let"
  w_strict k_steps
  unfold HaltG
  with_unfolding_all refine' conv_ok (b := true) hx.low ?kC ?_
  case kC =>
    refine' Cx.mk ?k1 ?k2 ?k3 ?k4 ?k5 ?k6 ?k7
    case k1 => k_asm
    case k2 => k_asm
    case k3 => k_asm
    case k4 => exact News.nil
    case k5 => k_asm
    case k6 => ktr_room
    case k7 => ktr_units
  intro h' tk' F' k'
  have N' := Keep.all k' (by assumption)
  k_sweep
  w_strict k_steps
  exact ret _ _ (by assumption) (by tb_rel)
local macro_rules | `(tactic| walk_at "call ref") => `(tactic| (k_here; (with_reducible show wpAny _ _ (call (Value.ref 188) _ _) _ _ _); refine HaltG.intro ?_))
theorem getitem_first {x n0 n1 n2 w0 w1 w2 : Str} {tx t0 t1 t2 u0 u1 u2 kt : Tok} {ti td tl p0 p1 p2 : Addr} {hh : Int} {n nl : Nat} (C : Cx w mean mg mb dp un A₀ base outer h₀ L m s (ledT ti td tl p0 p1 p2 hh kt n nl n0 t0 w0 u0 n1 t1 w1 u1 n2 t2 w2 u2) 5) (hx : Nm x) (hn0 : Nm n0) (e0 : (Txt.lower n0 == Txt.lower x) = true)
   (ret : ∀ h' tk', Fr h₀ L h' m → Keep [] s.heap h' → Q (.str w0 u0) { s with heap := h', toks := tk' }) :
   wpAny (mdl w) (tp dp un gd cn nms ig ic mo L a ccd cl outer) (call (.ref 87) [.ref ti, .str x tx]) Q E s := by
  ((have hfill : (PySem.Challenge.rw_xl0032_01 = PySem.Challenge.rw_xl0032_01 ∧ Mine.hd.heap_1 = Mine.hd.heap_1) := by (k_fill; exact ⟨rfl, rfl⟩)); clear hfill; (rename Cx _ _ _ _ _ _ _ _ _ _ _ _ _ _ _ => Cz9); obtain ⟨Bz9, Fz9, Xz9, Nz9, Tz9, hdz9, huz9⟩ := Cz9; refine wpAny_call ?_; w_strict (k_dflt (refine' code_defM ?k1 ?k2 ?k3 ?k4 ?k5 ?kA ?kF ?kK ?k6 ?k7 ?k8 ?k9 ?kB ?_ ?c2 ?c3 ?c4 ?c5; (case kA => exact rfl); (case kF => exact rfl); (case kK => exact rfl); (case k1 => k_asm); (case k2 => k_asm); (case k3 => k_asm); (case k4 => k_asm); (case k5 => k_asm); (case k6 => k_is); (case k7 => k_is); (case k8 => ktr_room); (case k9 => first | exact BindsTo.of_eq rfl | exact binds_K (by k_in) rfl (by k_is) rfl rfl rfl); (case c5 => decide); (case kB => exact locs rfl); (case c2 => exact rfl); (case c3 => exact rfl); (case c4 => exact rfl); k_whole; intro gz9 Lz9 hz9 hGz9 FGz9 Fz8 Nz8 Bz8 Xz8 Tz8; (try dsimp only); (try k_lift Bz8); (try k_fold))))
  walk_at "tb.let"
  w_strict k_steps
  unfold HaltG
  refine' get_first ?kC hx hn0 e0 ?_
  case kC =>
    refine' Cx.mk ?k1 ?k2 ?k3 ?k4 ?k5 ?k6 ?k7
    case k1 => k_asm
    case k2 => k_asm
    case k3 => k_asm
    case k4 => k_asm
    case k5 => k_asm
    case k6 => ktr_room
    case k7 => ktr_units
  intro h' tk' F' k'
  have N' := Keep.all k' (by assumption)
  k_sweep
  w_strict k_steps
  exact ret _ _ (by assumption) (by tb_rel)
end
end
section
open PySem PySem.W PyProof.Rows
set_option maxRecDepth 100000
set_option maxHeartbeats 8000000
section
variable {w : World} {mean : ExcName → Option Value} {mg mb : Str → Option Value} {dp un : Nat} {gd : Option (List Code)} {cn : Str} {nms : List (Str × NameKind)} {ig ic : Bool} {mo : List (Str × Const)} {a : Addr} {ccd : Value} {cl : List (Str × Addr)} {outer : List Env} {A₀ : Around} {base h₀ : Heap} {L : Addr} {m : Str → Option Value} {s : Shared} {Q E : Value → Shared → Prop} {news : Led}

open PySem.Calls in
theorem succP {prog : Program} {w : World} {A : Around} {s : Shared} {h₀ : Heap} {L : Addr} {m : Str → Option Value} {env : Env} {elt : PySem.Expr} {x x₂ : Str} {scope : Scope} {cl : List (Str × Addr)} {S : List (Addr × Obj) → Prop} {its : Array Value} {Fin : List Value → List (Addr × Obj) → Prop} {k i : Nat} {ys : List Value} {news : List (Addr × Obj)} {t : Addr} {ot : Obj} {v₁ v₂ : Value} {nt : Nat}
    (hi : its[i]? = some (.ref t)) (hm : (t, ot) ∈ news) (hc : ot.cls = .type "tuple") (hd : ot.data = .seq #[v₁, v₂] nt)
    (h : ∀ I oI C oC D m₂ h tk (E' : Value → Shared → Prop), LCg.NsObj oC m₂ → m₂ x = some v₁ → m₂ x₂ = some v₂ → Fr h₀ L h m → News h₀ L h ((I, oI) :: (C, oC) :: (D, LCg.lst ys) :: news) → LCg.Off3 I C D news → ((@Ne Nat I C) ∧ (@Ne Nat I D) ∧ (@Ne Nat C D)) →
      wpAny (model prog w) A (eval elt (compEnvC scope cl C env)) (LCg.CompEnd h₀ L m { s with heap := h, toks := tk } I oI C oC D (LCg.lst ys) S (fun y news' => LCp.CompRestP prog w A h₀ L m env elt x x₂ scope cl s S (fun i v => its[i]? = some v) Fin k (i + 1) (ys ++ [y]) news')) E' { s with heap := h, toks := tk }) :
    LCp.CompRestP prog w A h₀ L m env elt x x₂ scope cl s S (fun i v => its[i]? = some v) Fin (k + 1) i ys news :=
  LCp.CompRestP.succ fun v hv => ⟨t, ot, v₁, v₂, nt, Option.some.inj (hv.symm.trans hi), hm, hc, hd, h⟩
local macro_rules | `(tactic| walk_at "eval ListComp") => `(tactic| (k_here; refine HaltG.intro ?_))
local macro_rules | `(tactic| walk_at "CompRestP") => `(tactic| (refine HaltG.intro ?_))

theorem keys_ok {n0 n1 n2 w0 w1 w2 : Str} {t0 t1 t2 u0 u1 u2 kt : Tok} {ti td tl p0 p1 p2 : Addr} {hh : Int} {n nl : Nat} (C : Cx w mean mg mb dp un A₀ base outer h₀ L m s (ledT ti td tl p0 p1 p2 hh kt n nl n0 t0 w0 u0 n1 t1 w1 u1 n2 t2 w2 u2) 2)
   (ret : ∀ l h' tk', Fr h₀ L h' m → Keep [] s.heap h' → News h₀ L h' [(l, LCg.lst [.str n0 t0, .str n1 t1, .str n2 t2])] → s.heap.get? l = none → Q (.ref l) { s with heap := h', toks := tk' }) :
   wpAny (mdl w) (tp dp un gd cn nms ig ic mo L a ccd cl outer) (call (.ref 193) [.ref ti]) Q E s := by
  ((have hfill : (PySem.Challenge.rw_xl0032_01 = PySem.Challenge.rw_xl0032_01 ∧ Mine.hd.heap_1 = Mine.hd.heap_1) := by (k_fill; exact ⟨rfl, rfl⟩)); clear hfill; (rename Cx _ _ _ _ _ _ _ _ _ _ _ _ _ _ _ => Cz9); obtain ⟨Bz9, Fz9, Xz9, Nz9, Tz9, hdz9, huz9⟩ := Cz9; refine wpAny_call ?_; w_strict (k_dflt (refine' code_defM ?k1 ?k2 ?k3 ?k4 ?k5 ?kA ?kF ?kK ?k6 ?k7 ?k8 ?k9 ?kB ?_ ?c2 ?c3 ?c4 ?c5; (case kA => exact rfl); (case kF => exact rfl); (case kK => exact rfl); (case k1 => k_asm); (case k2 => k_asm); (case k3 => k_asm); (case k4 => k_asm); (case k5 => k_asm); (case k6 => k_is); (case k7 => k_is); (case k8 => ktr_room); (case k9 => first | exact BindsTo.of_eq rfl | exact binds_K (by k_in) rfl (by k_is) rfl rfl rfl); (case c5 => decide); (case kB => exact locs rfl); (case c2 => exact rfl); (case c3 => exact rfl); (case c4 => exact rfl); k_whole; intro gz9 Lz9 hz9 hGz9 FGz9 Fz8 Nz8 Bz8 Xz8 Tz8; (try dsimp only); (try k_lift Bz8); (try k_fold))))
  walk_at "tb.let"
  w_strict k_steps
  unfold HaltG
  w_strict (lcp_look; lcg_calm; k_dflt (refine LCp.ListComp_P (F₀ := by k_asm) (by with_unfolding_all rfl) (by decide) (by rfl) (by decide) (by rfl) (by rfl) (by decide) ?_); k_dflt lcp_toSrc)
  w_strict k_steps
  iterate 3
    unfold HaltG
    with_unfolding_all refine succP (by rfl) (by k_mem) rfl rfl ?_
    intro Iz oIz Cz oCz Dz mz hz tkz Ez hCz hxz hyz Fz Nz offz nez
    try simp only [LCg.Off3, and_true] at offz
    w_strict k_steps
  unfold HaltG
  with_unfolding_all refine LCp.CompRestP.zero ?_
  w_strict k_steps
  exact ret _ _ _ (by assumption) (by tb_rel) (News.sub (by assumption) (by with_unfolding_all k_allIn)) (Keep.fresh (by assumption) (by assumption) (AllNe.all (by with_unfolding_all assumption)))
theorem values_ok {n0 n1 n2 w0 w1 w2 : Str} {t0 t1 t2 u0 u1 u2 kt : Tok} {ti td tl p0 p1 p2 : Addr} {hh : Int} {n nl : Nat} (C : Cx w mean mg mb dp un A₀ base outer h₀ L m s (ledT ti td tl p0 p1 p2 hh kt n nl n0 t0 w0 u0 n1 t1 w1 u1 n2 t2 w2 u2) 2)
   (ret : ∀ l h' tk', Fr h₀ L h' m → Keep [] s.heap h' → News h₀ L h' [(l, LCg.lst [.str w0 u0, .str w1 u1, .str w2 u2])] → s.heap.get? l = none → Q (.ref l) { s with heap := h', toks := tk' }) :
   wpAny (mdl w) (tp dp un gd cn nms ig ic mo L a ccd cl outer) (call (.ref 198) [.ref ti]) Q E s := by
  ((have hfill : (PySem.Challenge.rw_xl0032_01 = PySem.Challenge.rw_xl0032_01 ∧ Mine.hd.heap_1 = Mine.hd.heap_1) := by (k_fill; exact ⟨rfl, rfl⟩)); clear hfill; (rename Cx _ _ _ _ _ _ _ _ _ _ _ _ _ _ _ => Cz9); obtain ⟨Bz9, Fz9, Xz9, Nz9, Tz9, hdz9, huz9⟩ := Cz9; refine wpAny_call ?_; w_strict (k_dflt (refine' code_defM ?k1 ?k2 ?k3 ?k4 ?k5 ?kA ?kF ?kK ?k6 ?k7 ?k8 ?k9 ?kB ?_ ?c2 ?c3 ?c4 ?c5; (case kA => exact rfl); (case kF => exact rfl); (case kK => exact rfl); (case k1 => k_asm); (case k2 => k_asm); (case k3 => k_asm); (case k4 => k_asm); (case k5 => k_asm); (case k6 => k_is); (case k7 => k_is); (case k8 => ktr_room); (case k9 => first | exact BindsTo.of_eq rfl | exact binds_K (by k_in) rfl (by k_is) rfl rfl rfl); (case c5 => decide); (case kB => exact locs rfl); (case c2 => exact rfl); (case c3 => exact rfl); (case c4 => exact rfl); k_whole; intro gz9 Lz9 hz9 hGz9 FGz9 Fz8 Nz8 Bz8 Xz8 Tz8; (try dsimp only); (try k_lift Bz8); (try k_fold))))
  walk_at "tb.let"
  w_strict k_steps
  unfold HaltG
  w_strict (lcp_look; lcg_calm; k_dflt (refine LCp.ListComp_P (F₀ := by k_asm) (by with_unfolding_all rfl) (by decide) (by rfl) (by decide) (by rfl) (by rfl) (by decide) ?_); k_dflt lcp_toSrc)
  w_strict k_steps
  iterate 3
    unfold HaltG
    with_unfolding_all refine succP (by rfl) (by k_mem) rfl rfl ?_
    intro Iz oIz Cz oCz Dz mz hz tkz Ez hCz hxz hyz Fz Nz offz nez
    try simp only [LCg.Off3, and_true] at offz
    w_strict k_steps
  unfold HaltG
  with_unfolding_all refine LCp.CompRestP.zero ?_
  w_strict k_steps
  exact ret _ _ _ (by assumption) (by tb_rel) (News.sub (by assumption) (by with_unfolding_all k_allIn)) (Keep.fresh (by assumption) (by assumption) (AllNe.all (by with_unfolding_all assumption)))
end
end
section
open PySem PySem.W PyProof.Rows
set_option maxRecDepth 100000
set_option maxHeartbeats 8000000
open Builtin Builtin.Str
noncomputable def hasT (x c : Str) : Bool := !(occurrences x c 0 x.length 1).isEmpty
noncomputable def rep1 (x c r : Str) : Str := if hasT x c then Txt.replace x c r else x
theorem repl_len {x y z : Str} (hz : z.length ≤ 6) : (Txt.replace x y z).length + 1 ≤ 7 * (x.length + 1) := by
  unfold Txt.replace
  split
  · omega
  · have h1 := StrLaws.occ_length_le x y 0 x.length (x.length + 1)
    have hy : (glued y (partsBetween x (occurrences x y 0 x.length (x.length + 1)) y.length)).length = x.length := by rw [StrLaws.glued_between_self]
    rw [size_glued, length_partsBetween, Nat.add_sub_cancel] at hy
    rw [size_glued, length_partsBetween, Nat.add_sub_cancel]
    have h2 : (occurrences x y 0 x.length (x.length + 1)).length * z.length ≤ (x.length + 1) * z.length := Nat.mul_le_mul_right _ h1
    have h3 : (x.length + 1) * z.length ≤ (x.length + 1) * 6 := Nat.mul_le_mul_left _ hz
    omega
theorem rep1_len {x c r : Str} (hr : r.length ≤ 6) : (rep1 x c r).length + 1 ≤ 7 * (x.length + 1) := by
  unfold rep1
  split
  · exact repl_len hr
  · omega
theorem replaceT {prog : Program} {w : World} {A : Around} {E : Value → Shared → Prop} {s : Shared} {x y z : Str} {t u v : Tok} {Q : Value → Shared → Prop} (hu : u ≠ 0) (hv : v ≠ 0) (huv : u ≠ v) (hyz : (y == z) = false) (hx : x.length ≤ 2000000) (hz : z.length ≤ 6) (hs : 0 < s.toks)
    (hq : ∀ t' k, 0 < k → Q (.str (Txt.replace x y z) t') { s with toks := k }) : wpAny (model prog w) A (call (.builtin "str.replace") [.str x t, .str y u, .str z v]) Q E s := by
  have h3 : (x.length + 1) * z.length ≤ (x.length + 1) * 6 := Nat.mul_le_mul_left _ hz
  have hb : x.length + (x.length + 1) * z.length ≤ 16777216 := by omega
  have hl : tooLong (x.length + (occurrences x y 0 x.length (x.length + 1)).length * z.length) = false := by
    have h1 := StrLaws.occ_length_le x y 0 x.length (x.length + 1)
    have h2 : (occurrences x y 0 x.length (x.length + 1)).length * z.length ≤ (x.length + 1) * z.length := Nat.mul_le_mul_right _ h1
    unfold tooLong sizeLine
    exact decide_eq_false (by omega)
  refine PySem.call_gives F.slot_str_replace (PySem.typeIs_str _ _ _) F.entry_str_replace (F.args_str_replace_3 _ _ _)
    (gives_str_replace x y z t u v fun _ => ⟨by simp [hu, hv], by simp [huv], hyz, hl⟩) ?_
  have hq' := hq
  unfold Txt.replace at hq'
  cases hc : ((occurrences x y 0 x.length (x.length + 1)).isEmpty || (y.length == 0 && z.length == 0))
  · rw [hc] at hq'
    simp only [Bool.false_eq_true, if_false] at hq' ⊢
    exact ⟨fits_replaced y hb, hq' _ _ (Nat.succ_pos _)⟩
  · rw [hc] at hq'
    simp only [if_true] at hq' ⊢
    exact hq' t s.toks hs
structure SJAt (h₀ : Heap) (L : Addr) (m : Str → Option Value) (news : List (Addr × Obj)) (s s' : Shared) : Prop where
  at_ : ∃ (h : Heap) (tk : Nat), 0 < tk ∧ s' = { s with heap := h, toks := tk } ∧ Fr h₀ L h m ∧ News h₀ L h news
structure SJC (c : Bool) (h₀ : Heap) (L : Addr) (m : Str → Option Value) (news : List (Addr × Obj)) (s : Shared) (k : Bool) (s' : Shared) : Prop where
  out : k = c
  here : SJAt h₀ L m news s s'
structure SJV (x : Str) (v : Str) (h₀ : Heap) (L : Addr) (m : Str → Option Value) (news : List (Addr × Obj)) (s : Shared) (f : Flow) (s' : Shared) : Prop where
  next : f = .next
  here : ∃ t : Tok, SJAt h₀ L (fun y => if y = x then some (.str v t) else m y) news s s'
noncomputable def SJB1 (P : Prop) : Prop := P
noncomputable def SJB2 (P : Prop) : Prop := P
section
variable {M : Model} {A : Around} {E : Value → Shared → Prop} {s : Shared} {env : Env} {h₀ : Heap} {L : Addr} {m : Str → Option Value} {news : List (Addr × Obj)}
theorem sj_if {test : Expr} {st : Stmt} {x : Str} {pos p1 p2 p3 p4 p5 p6 p7 p8 p9 p10 : Pos} {k1 k2 k3 : Nat} {a c r : Str} {t₀ : Tok} {Q : Flow → Shared → Prop} (_F : Fr h₀ L s.heap m) (_N : News h₀ L s.heap news)
    (_ht : test = .Compare (.Constant (.str c) k1 p1) [.In] [.Name x p2] p3) (_hst : st = .Assign [.Name x p4] (.Call (.Attribute (.Name x p5) (Str.ofString "replace") p6) [.Constant (.str c) k2 p7, .Constant (.str r) k3 p8] [] p9) p10)
    (hold : m x = some (.str a t₀))
    (hc : wpAny M A (isTrue test env (eval test env)) (fun k s₂ => SJC (hasT a c) h₀ L m news s k s₂) E s)
    (hv : SJB1 (∀ s₂, SJAt h₀ L m news s s₂ → wpAny M A (exec st env) (fun f s₃ => SJV x (Txt.replace a c r) h₀ L m news s f s₃) E s₂))
    (hr : r.length ≤ 6) (hk : SJB2 (∀ (t : Tok) (s₃ : Shared), (rep1 a c r).length + 1 ≤ 7 * (a.length + 1) → SJAt h₀ L (fun y => if y = x then some (.str (rep1 a c r) t) else m y) news s s₃ → Q .next s₃)) :
    wpAny M A (exec (.If test [st] [] pos) env) Q E s := by
  refine wpAny_If (wpAny_mono hc (fun k s₂ hkc => ?_) fun _ _ h => h)
  obtain ⟨hkc, hat⟩ := hkc
  subst hkc
  cases hh : hasT a c with
  | true =>
    show wpAny M A (execs [st] env) Q E s₂
    refine wpAny_execs_cons (wpAny_mono (hv s₂ hat) (fun f s₃ hf => ?_) fun _ _ h => h)
    obtain ⟨hf, t, ht⟩ := hf
    subst hf
    refine wpAny_execs_nil (hk t s₃ (rep1_len hr) ?_)
    have e : rep1 a c r = Txt.replace a c r := by unfold rep1; rw [hh]; rfl
    rw [e]; exact ht
  | false =>
    show wpAny M A (execs [] env) Q E s₂
    have e : rep1 a c r = a := by unfold rep1; rw [hh]; rfl
    refine wpAny_execs_nil (hk t₀ s₂ (rep1_len hr) ?_)
    have e : (fun y => if y = x then some (Value.str (rep1 a c r) t₀) else m y) = m := by
      funext y
      by_cases hy : y = x
      · rw [if_pos hy, hy, hold, e]
      · rw [if_neg hy]
    rw [e]
    exact hat
theorem tok_pos {α : Type} {t : Sem α} {h : Heap} {Q : α → Shared → Prop} {n : Nat} {gn dr os} (hn : 0 < n) (H : ∀ tk, 0 < tk → wpAny M A t Q E ⟨h, gn, dr, tk, os⟩) : wpAny M A t Q E ⟨h, gn, dr, n, os⟩ := H n hn
end

section
variable {w : World} {mean : ExcName → Option Value} {mg mb : Str → Option Value} {dp un : Nat} {gd : Option (List Code)} {cn : Str} {nms : List (Str × NameKind)} {ig ic : Bool} {mo : List (Str × Const)} {a : Addr} {ccd : Value} {cl : List (Str × Addr)} {outer : List Env} {A₀ : Around} {base h₀ : Heap} {L : Addr} {m : Str → Option Value} {s : Shared} {Q E : Value → Shared → Prop} {news : Led}
section
local macro_rules | `(tactic| walk_at "call builtin:str.replace") => `(tactic| (k_here; refine HaltG.intro ?_))
local macro_rules | `(tactic| walk_at "SJC") => `(tactic| exact ⟨rfl, ⟨⟨_, _, (by omega), rfl, by assumption, by assumption⟩⟩⟩)
local macro_rules | `(tactic| walk_at "SJV") => `(tactic| exact ⟨rfl, _, ⟨⟨_, _, (by omega), rfl, by assumption, by assumption⟩⟩⟩)
local macro_rules | `(tactic| walk_at "SJB1") => `(tactic| ((show ∀ _, _ → _); intro s' hJ'; obtain ⟨h', tk', pos', e', F'', N''⟩ := SJAt.at_ hJ'; clear hJ'; subst e'; k_sweep))
noncomputable abbrev scE : Scope := { kind := .function, names := [(Str.ofString "text", .local), (Str.ofString "TypeError", .globalImplicit), (Str.ofString "AttributeError", .globalImplicit), (Str.ofString "_raise_serialization_error", .globalImplicit)], isGenerator := false, isCoroutine := false, more := [] }
local macro_rules | `(tactic| walk_at "eval Name") => `(tactic| (k_here; (with_reducible show wpAny _ _ (eval (Expr.Name _ _) (envOf _ _ _ _ _)) _ _ _); (rename Fr _ _ _ _ => lF'); with_unfolding_all refine ld lF' (by assumption) ?_))
local macro_rules | `(tactic| walk_at "eval Call Attribute") => `(tactic| (k_here; refine MethodCall_ ?_ (by assumption)))
theorem esc_if {hx : Heap} {A : Around} {news : Led} {fn c r a : Str} {fa : Addr} {cd : Value} {t₀ : Tok} {k1 k2 k3 : Nat} {pos p1 p2 p3 p4 p5 p6 p7 p8 p9 p10 : Pos} {Q : Flow → Shared → Prop} (F : Fr h₀ L s.heap m) (N : News h₀ L s.heap news) (X : (Mine.hd.heap_1 w.params).In hx)
    (hold : m (Str.ofString "text") = some (.str a t₀)) (ha : a.length ≤ 2000000) (hcr : (c == r) = false) (hr : r.length ≤ 6) (hc1 : c.length = 1) (ht : 0 < s.toks)
    (he : ∃ pl, eval (.Call (.Attribute (.Name (Str.ofString "text") p5) (Str.ofString "replace") p6) [.Constant (.str c) k2 p7, .Constant (.str r) k3 p8] [] p9) (envOf fn scE L fa cd) = (do
      let ov ← eval (.Name (Str.ofString "text") p5) (envOf fn scE L fa cd)
      standAt p6.atName
      let (f, first) ← holding [ov] (getMethod ov (Str.ofString "replace") pl)
      callWith p9 f first (backTo p9 (starEach [.Constant (.str c) k2 p7, .Constant (.str r) k3 p8] (envOf fn scE L fa cd))) []))
    (hk : ∀ (t : Tok) (h : Heap) (tk : Nat), (rep1 a c r).length + 1 ≤ 7 * (a.length + 1) → 0 < tk → Fr h₀ L h (fun y => if y = Str.ofString "text" then some (.str (rep1 a c r) t) else m y) → News h₀ L h news → Q .next { s with heap := h, toks := tk }) :
    wpAny (mdl w) A (exec (.If (.Compare (.Constant (.str c) k1 p1) [.In] [.Name (Str.ofString "text") p2] p3) [.Assign [.Name (Str.ofString "text") p4] (.Call (.Attribute (.Name (Str.ofString "text") p5) (Str.ofString "replace") p6) [.Constant (.str c) k2 p7, .Constant (.str r) k3 p8] [] p9) p10] [] pos) (envOf fn scE L fa cd)) Q E s := by
  obtain ⟨pl, he⟩ := he
  refine sj_if F N rfl rfl hold ?hc ?hv hr ?hk
  case hk =>
    intro t s' hl hJ
    obtain ⟨h', tk', pos', e', F'', N''⟩ := SJAt.at_ hJ
    subst e'
    exact hk t h' tk' hl pos' F'' N''
  all_goals unfold scE at *
  all_goals w_strict k_steps
  unfold HaltG; refine replaceT (by first | omega | ((show @Ne Nat _ _); omega)) (by first | omega | ((show @Ne Nat _ _); omega)) (by first | omega | ((show @Ne Nat _ _); omega)) (by assumption) (by omega) (by assumption) (by first | omega | (dsimp only; omega)) ?_; intro _ _ _; w_strict k_steps
end
local macro_rules | `(tactic| walk_at "exec If") => `(tactic| (k_here; refine HaltG.intro ?_))
noncomputable def esc0 (x : Str) : Str := rep1 (rep1 (rep1 x (Str.ofString "&") (Str.ofString "&amp;")) (Str.ofString "<") (Str.ofString "&lt;")) (Str.ofString ">") (Str.ofString "&gt;")
noncomputable def esc1 (x : Str) : Str := rep1 (rep1 (rep1 (rep1 (rep1 (rep1 (rep1 x (Str.ofString "&") (Str.ofString "&amp;")) (Str.ofString "<") (Str.ofString "&lt;")) (Str.ofString ">") (Str.ofString "&gt;")) (Str.ofString "\"") (Str.ofString "&quot;")) (Str.ofString "\r") (Str.ofString "&#13;")) (Str.ofString "\n") (Str.ofString "&#10;")) (Str.ofString "\t") (Str.ofString "&#09;")
noncomputable def esc2 (x : Str) : Str := rep1 (rep1 (rep1 x (Str.ofString "&") (Str.ofString "&amp;")) (Str.ofString ">") (Str.ofString "&gt;")) (Str.ofString "\"") (Str.ofString "&quot;")
noncomputable def esc3 (x : Str) : Str := rep1 (rep1 (rep1 (rep1 x (Str.ofString "&") (Str.ofString "&amp;")) (Str.ofString "<") (Str.ofString "&lt;")) (Str.ofString ">") (Str.ofString "&gt;")) (Str.ofString "\r") (Str.ofString "&#xD;")
noncomputable def esc4 (x : Str) : Str := rep1 (rep1 (rep1 (rep1 (rep1 (rep1 x (Str.ofString "&") (Str.ofString "&amp;")) (Str.ofString "<") (Str.ofString "&lt;")) (Str.ofString "\"") (Str.ofString "&quot;")) (Str.ofString "\t") (Str.ofString "&#x9;")) (Str.ofString "\n") (Str.ofString "&#xA;")) (Str.ofString "\r") (Str.ofString "&#xD;")
noncomputable def escF (j : Nat) (x : Str) : Str := match j with | 0 => esc0 x | 1 => esc1 x | 2 => esc2 x | 3 => esc3 x | _ => esc4 x
theorem esc0_ok {x : Str} {tx : Tok} (C : Cx w mean mg mb dp un A₀ base outer h₀ L m s [] 2) (hx : x.length ≤ 3)
   (ret : ∀ t h' tk', Fr h₀ L h' m → Keep [] s.heap h' → Q (.str (esc0 x) t) { s with heap := h', toks := tk' }) :
   wpAny (mdl w) (tp dp un gd cn nms ig ic mo L a ccd cl outer) (call (.ref 337) [.str x tx]) Q E s := by
  ((have hfill : (PySem.Challenge.rw_xl0032_01 = PySem.Challenge.rw_xl0032_01 ∧ Mine.hd.heap_1 = Mine.hd.heap_1) := by (k_fill; exact ⟨rfl, rfl⟩)); clear hfill; (rename Cx _ _ _ _ _ _ _ _ _ _ _ _ _ _ _ => Cz9); obtain ⟨Bz9, Fz9, Xz9, Nz9, Tz9, hdz9, huz9⟩ := Cz9; refine wpAny_call ?_; w_strict (k_dflt (refine' code_defM ?k1 ?k2 ?k3 ?k4 ?k5 ?kA ?kF ?kK ?k6 ?k7 ?k8 ?k9 ?kB ?_ ?c2 ?c3 ?c4 ?c5; (case kA => exact rfl); (case kF => exact rfl); (case kK => exact rfl); (case k1 => k_asm); (case k2 => k_asm); (case k3 => k_asm); (case k4 => k_asm); (case k5 => k_asm); (case k6 => k_is); (case k7 => k_is); (case k8 => ktr_room); (case k9 => first | exact BindsTo.of_eq rfl | exact binds_K (by k_in) rfl (by k_is) rfl rfl rfl); (case c5 => decide); (case kB => exact locs rfl); (case c2 => exact rfl); (case c3 => exact rfl); (case c4 => exact rfl); k_whole; intro gz9 Lz9 hz9 hGz9 FGz9 Fz8 Nz8 Bz8 Xz8 Tz8; (try dsimp only); (try k_lift Bz8); (try k_fold))))
  walk_at "tb.let"
  refine tok_pos (Nat.lt_of_lt_of_le (by decide : 0 < 1) (Nat.le_add_left 1 s.toks)) ?_
  intro tk0 htk0
  w_strict k_steps
  repeat (any_goals (unfold HaltG; (rename Fr _ _ _ _ => F'); (rename News _ _ _ _ => N'); (rename Frag.In _ _ => X'); (refine' esc_if F' N' X' ?h1 ?h2 ?h3 ?h4 ?h5 ?h6 ⟨_, by rfl⟩ ?_); (case h1 => with_unfolding_all rfl); (case h2 => first | omega | (dsimp only; omega)); (case h3 => decide); (case h4 => decide); (case h5 => rfl); (case h6 => first | assumption | (dsimp only; omega)); intro t' h' tk' hl' pos' F'' N''; k_sweep; w_strict k_steps))
  exact ret _ _ _ (by assumption) (by tb_rel)
theorem esc1_ok {x : Str} {tx : Tok} (C : Cx w mean mg mb dp un A₀ base outer h₀ L m s [] 2) (hx : x.length ≤ 3)
   (ret : ∀ t h' tk', Fr h₀ L h' m → Keep [] s.heap h' → Q (.str (esc1 x) t) { s with heap := h', toks := tk' }) :
   wpAny (mdl w) (tp dp un gd cn nms ig ic mo L a ccd cl outer) (call (.ref 344) [.str x tx]) Q E s := by
  ((have hfill : (PySem.Challenge.rw_xl0032_01 = PySem.Challenge.rw_xl0032_01 ∧ Mine.hd.heap_1 = Mine.hd.heap_1) := by (k_fill; exact ⟨rfl, rfl⟩)); clear hfill; (rename Cx _ _ _ _ _ _ _ _ _ _ _ _ _ _ _ => Cz9); obtain ⟨Bz9, Fz9, Xz9, Nz9, Tz9, hdz9, huz9⟩ := Cz9; refine wpAny_call ?_; w_strict (k_dflt (refine' code_defM ?k1 ?k2 ?k3 ?k4 ?k5 ?kA ?kF ?kK ?k6 ?k7 ?k8 ?k9 ?kB ?_ ?c2 ?c3 ?c4 ?c5; (case kA => exact rfl); (case kF => exact rfl); (case kK => exact rfl); (case k1 => k_asm); (case k2 => k_asm); (case k3 => k_asm); (case k4 => k_asm); (case k5 => k_asm); (case k6 => k_is); (case k7 => k_is); (case k8 => ktr_room); (case k9 => first | exact BindsTo.of_eq rfl | exact binds_K (by k_in) rfl (by k_is) rfl rfl rfl); (case c5 => decide); (case kB => exact locs rfl); (case c2 => exact rfl); (case c3 => exact rfl); (case c4 => exact rfl); k_whole; intro gz9 Lz9 hz9 hGz9 FGz9 Fz8 Nz8 Bz8 Xz8 Tz8; (try dsimp only); (try k_lift Bz8); (try k_fold))))
  walk_at "tb.let"
  refine tok_pos (Nat.lt_of_lt_of_le (by decide : 0 < 1) (Nat.le_add_left 1 s.toks)) ?_
  intro tk0 htk0
  w_strict k_steps
  repeat (any_goals (unfold HaltG; (rename Fr _ _ _ _ => F'); (rename News _ _ _ _ => N'); (rename Frag.In _ _ => X'); (refine' esc_if F' N' X' ?h1 ?h2 ?h3 ?h4 ?h5 ?h6 ⟨_, by rfl⟩ ?_); (case h1 => with_unfolding_all rfl); (case h2 => first | omega | (dsimp only; omega)); (case h3 => decide); (case h4 => decide); (case h5 => rfl); (case h6 => first | assumption | (dsimp only; omega)); intro t' h' tk' hl' pos' F'' N''; k_sweep; w_strict k_steps))
  exact ret _ _ _ (by assumption) (by tb_rel)
theorem esc2_ok {x : Str} {tx : Tok} (C : Cx w mean mg mb dp un A₀ base outer h₀ L m s [] 2) (hx : x.length ≤ 3)
   (ret : ∀ t h' tk', Fr h₀ L h' m → Keep [] s.heap h' → Q (.str (esc2 x) t) { s with heap := h', toks := tk' }) :
   wpAny (mdl w) (tp dp un gd cn nms ig ic mo L a ccd cl outer) (call (.ref 351) [.str x tx]) Q E s := by
  ((have hfill : (PySem.Challenge.rw_xl0032_01 = PySem.Challenge.rw_xl0032_01 ∧ Mine.hd.heap_1 = Mine.hd.heap_1) := by (k_fill; exact ⟨rfl, rfl⟩)); clear hfill; (rename Cx _ _ _ _ _ _ _ _ _ _ _ _ _ _ _ => Cz9); obtain ⟨Bz9, Fz9, Xz9, Nz9, Tz9, hdz9, huz9⟩ := Cz9; refine wpAny_call ?_; w_strict (k_dflt (refine' code_defM ?k1 ?k2 ?k3 ?k4 ?k5 ?kA ?kF ?kK ?k6 ?k7 ?k8 ?k9 ?kB ?_ ?c2 ?c3 ?c4 ?c5; (case kA => exact rfl); (case kF => exact rfl); (case kK => exact rfl); (case k1 => k_asm); (case k2 => k_asm); (case k3 => k_asm); (case k4 => k_asm); (case k5 => k_asm); (case k6 => k_is); (case k7 => k_is); (case k8 => ktr_room); (case k9 => first | exact BindsTo.of_eq rfl | exact binds_K (by k_in) rfl (by k_is) rfl rfl rfl); (case c5 => decide); (case kB => exact locs rfl); (case c2 => exact rfl); (case c3 => exact rfl); (case c4 => exact rfl); k_whole; intro gz9 Lz9 hz9 hGz9 FGz9 Fz8 Nz8 Bz8 Xz8 Tz8; (try dsimp only); (try k_lift Bz8); (try k_fold))))
  walk_at "tb.let"
  refine tok_pos (Nat.lt_of_lt_of_le (by decide : 0 < 1) (Nat.le_add_left 1 s.toks)) ?_
  intro tk0 htk0
  w_strict k_steps
  repeat (any_goals (unfold HaltG; (rename Fr _ _ _ _ => F'); (rename News _ _ _ _ => N'); (rename Frag.In _ _ => X'); (refine' esc_if F' N' X' ?h1 ?h2 ?h3 ?h4 ?h5 ?h6 ⟨_, by rfl⟩ ?_); (case h1 => with_unfolding_all rfl); (case h2 => first | omega | (dsimp only; omega)); (case h3 => decide); (case h4 => decide); (case h5 => rfl); (case h6 => first | assumption | (dsimp only; omega)); intro t' h' tk' hl' pos' F'' N''; k_sweep; w_strict k_steps))
  exact ret _ _ _ (by assumption) (by tb_rel)
theorem esc3_ok {x : Str} {tx : Tok} (C : Cx w mean mg mb dp un A₀ base outer h₀ L m s [] 2) (hx : x.length ≤ 3)
   (ret : ∀ t h' tk', Fr h₀ L h' m → Keep [] s.heap h' → Q (.str (esc3 x) t) { s with heap := h', toks := tk' }) :
   wpAny (mdl w) (tp dp un gd cn nms ig ic mo L a ccd cl outer) (call (.ref 358) [.str x tx]) Q E s := by
  ((have hfill : (PySem.Challenge.rw_xl0032_01 = PySem.Challenge.rw_xl0032_01 ∧ Mine.hd.heap_1 = Mine.hd.heap_1) := by (k_fill; exact ⟨rfl, rfl⟩)); clear hfill; (rename Cx _ _ _ _ _ _ _ _ _ _ _ _ _ _ _ => Cz9); obtain ⟨Bz9, Fz9, Xz9, Nz9, Tz9, hdz9, huz9⟩ := Cz9; refine wpAny_call ?_; w_strict (k_dflt (refine' code_defM ?k1 ?k2 ?k3 ?k4 ?k5 ?kA ?kF ?kK ?k6 ?k7 ?k8 ?k9 ?kB ?_ ?c2 ?c3 ?c4 ?c5; (case kA => exact rfl); (case kF => exact rfl); (case kK => exact rfl); (case k1 => k_asm); (case k2 => k_asm); (case k3 => k_asm); (case k4 => k_asm); (case k5 => k_asm); (case k6 => k_is); (case k7 => k_is); (case k8 => ktr_room); (case k9 => first | exact BindsTo.of_eq rfl | exact binds_K (by k_in) rfl (by k_is) rfl rfl rfl); (case c5 => decide); (case kB => exact locs rfl); (case c2 => exact rfl); (case c3 => exact rfl); (case c4 => exact rfl); k_whole; intro gz9 Lz9 hz9 hGz9 FGz9 Fz8 Nz8 Bz8 Xz8 Tz8; (try dsimp only); (try k_lift Bz8); (try k_fold))))
  walk_at "tb.let"
  refine tok_pos (Nat.lt_of_lt_of_le (by decide : 0 < 1) (Nat.le_add_left 1 s.toks)) ?_
  intro tk0 htk0
  w_strict k_steps
  repeat (any_goals (unfold HaltG; (rename Fr _ _ _ _ => F'); (rename News _ _ _ _ => N'); (rename Frag.In _ _ => X'); (refine' esc_if F' N' X' ?h1 ?h2 ?h3 ?h4 ?h5 ?h6 ⟨_, by rfl⟩ ?_); (case h1 => with_unfolding_all rfl); (case h2 => first | omega | (dsimp only; omega)); (case h3 => decide); (case h4 => decide); (case h5 => rfl); (case h6 => first | assumption | (dsimp only; omega)); intro t' h' tk' hl' pos' F'' N''; k_sweep; w_strict k_steps))
  exact ret _ _ _ (by assumption) (by tb_rel)
theorem esc4_ok {x : Str} {tx : Tok} (C : Cx w mean mg mb dp un A₀ base outer h₀ L m s [] 2) (hx : x.length ≤ 3)
   (ret : ∀ t h' tk', Fr h₀ L h' m → Keep [] s.heap h' → Q (.str (esc4 x) t) { s with heap := h', toks := tk' }) :
   wpAny (mdl w) (tp dp un gd cn nms ig ic mo L a ccd cl outer) (call (.ref 365) [.str x tx]) Q E s := by
  ((have hfill : (PySem.Challenge.rw_xl0032_01 = PySem.Challenge.rw_xl0032_01 ∧ Mine.hd.heap_1 = Mine.hd.heap_1) := by (k_fill; exact ⟨rfl, rfl⟩)); clear hfill; (rename Cx _ _ _ _ _ _ _ _ _ _ _ _ _ _ _ => Cz9); obtain ⟨Bz9, Fz9, Xz9, Nz9, Tz9, hdz9, huz9⟩ := Cz9; refine wpAny_call ?_; w_strict (k_dflt (refine' code_defM ?k1 ?k2 ?k3 ?k4 ?k5 ?kA ?kF ?kK ?k6 ?k7 ?k8 ?k9 ?kB ?_ ?c2 ?c3 ?c4 ?c5; (case kA => exact rfl); (case kF => exact rfl); (case kK => exact rfl); (case k1 => k_asm); (case k2 => k_asm); (case k3 => k_asm); (case k4 => k_asm); (case k5 => k_asm); (case k6 => k_is); (case k7 => k_is); (case k8 => ktr_room); (case k9 => first | exact BindsTo.of_eq rfl | exact binds_K (by k_in) rfl (by k_is) rfl rfl rfl); (case c5 => decide); (case kB => exact locs rfl); (case c2 => exact rfl); (case c3 => exact rfl); (case c4 => exact rfl); k_whole; intro gz9 Lz9 hz9 hGz9 FGz9 Fz8 Nz8 Bz8 Xz8 Tz8; (try dsimp only); (try k_lift Bz8); (try k_fold))))
  walk_at "tb.let"
  refine tok_pos (Nat.lt_of_lt_of_le (by decide : 0 < 1) (Nat.le_add_left 1 s.toks)) ?_
  intro tk0 htk0
  w_strict k_steps
  repeat (any_goals (unfold HaltG; (rename Fr _ _ _ _ => F'); (rename News _ _ _ _ => N'); (rename Frag.In _ _ => X'); (refine' esc_if F' N' X' ?h1 ?h2 ?h3 ?h4 ?h5 ?h6 ⟨_, by rfl⟩ ?_); (case h1 => with_unfolding_all rfl); (case h2 => first | omega | (dsimp only; omega)); (case h3 => decide); (case h4 => decide); (case h5 => rfl); (case h6 => first | assumption | (dsimp only; omega)); intro t' h' tk' hl' pos' F'' N''; k_sweep; w_strict k_steps))
  exact ret _ _ _ (by assumption) (by tb_rel)
theorem esc_ok {x : Str} {tx : Tok} {j : Nat} (hj : j < 5) (C : Cx w mean mg mb dp un A₀ base outer h₀ L m s [] 2) (hx : x.length ≤ 3)
   (ret : ∀ t h' tk', Fr h₀ L h' m → Keep [] s.heap h' → Q (.str (escF j x) t) { s with heap := h', toks := tk' }) :
   wpAny (mdl w) (tp dp un gd cn nms ig ic mo L a ccd cl outer) (call (.ref (337 + 7 * j)) [.str x tx]) Q E s := by
  match j, hj with
  | 0, _ => exact esc0_ok C hx ret
  | 1, _ => exact esc1_ok C hx ret
  | 2, _ => exact esc2_ok C hx ret
  | 3, _ => exact esc3_ok C hx ret
  | 4, _ => exact esc4_ok C hx ret
end
end
section
open PySem PySem.W PyProof.Rows
set_option maxRecDepth 100000
set_option maxHeartbeats 8000000
section
variable {w : World} {mean : ExcName → Option Value} {mg mb : Str → Option Value} {dp un : Nat} {gd : Option (List Code)} {cn : Str} {nms : List (Str × NameKind)} {ig ic : Bool} {mo : List (Str × Const)} {a : Addr} {ccd : Value} {cl : List (Str × Addr)} {outer : List Env} {A₀ : Around} {base h₀ : Heap} {L : Addr} {m : Str → Option Value} {s : Shared} {Q E : Value → Shared → Prop} {news : Led}
noncomputable abbrev ledQ (qi qd : Addr) (hq : Int) (kq : Tok) (nq : Nat) (x : Str) (t : Tok) : Led := [(qi, instObj 319 qd), (qd, dictOf [⟨hq, .str (Str.ofString "text") kq, .str x t⟩] nq)]
theorem contains_ok {x y : Str} {tx ty : Tok} (C : Cx w mean mg mb dp un A₀ base outer h₀ L m s [] 1)
   (ret : ∀ h' tk', Fr h₀ L h' m → Keep [] s.heap h' → Q (.bool (hasT x y)) { s with heap := h', toks := tk' }) :
   wpAny (mdl w) (tp dp un gd cn nms ig ic mo L a ccd cl outer) (call (.ref 73) [.str x tx, .str y ty]) Q E s := by
  ((have hfill : (PySem.Challenge.rw_xl0032_01 = PySem.Challenge.rw_xl0032_01 ∧ Mine.hd.heap_1 = Mine.hd.heap_1) := by (k_fill; exact ⟨rfl, rfl⟩)); clear hfill; (rename Cx _ _ _ _ _ _ _ _ _ _ _ _ _ _ _ => Cz9); obtain ⟨Bz9, Fz9, Xz9, Nz9, Tz9, hdz9, huz9⟩ := Cz9; refine wpAny_call ?_; w_strict (k_dflt (refine' code_defM ?k1 ?k2 ?k3 ?k4 ?k5 ?kA ?kF ?kK ?k6 ?k7 ?k8 ?k9 ?kB ?_ ?c2 ?c3 ?c4 ?c5; (case kA => exact rfl); (case kF => exact rfl); (case kK => exact rfl); (case k1 => k_asm); (case k2 => k_asm); (case k3 => k_asm); (case k4 => k_asm); (case k5 => k_asm); (case k6 => k_is); (case k7 => k_is); (case k8 => ktr_room); (case k9 => first | exact BindsTo.of_eq rfl | exact binds_K (by k_in) rfl (by k_is) rfl rfl rfl); (case c5 => decide); (case kB => exact locs rfl); (case c2 => exact rfl); (case c3 => exact rfl); (case c4 => exact rfl); k_whole; intro gz9 Lz9 hz9 hGz9 FGz9 Fz8 Nz8 Bz8 Xz8 Tz8; (try dsimp only); (try k_lift Bz8); (try k_fold))))
  walk_at "tb.let"
  w_strict k_steps
  exact ret _ _ (by assumption) (by tb_rel)
theorem xor_ok {x y : Int} {tx ty : Tok} (C : Cx w mean mg mb dp un A₀ base outer h₀ L m s [] 1)
   (ret : ∀ t h' tk', Fr h₀ L h' m → Keep [] s.heap h' → Q (.int (Builtin.bitXor x y) t) { s with heap := h', toks := tk' }) :
   wpAny (mdl w) (tp dp un gd cn nms ig ic mo L a ccd cl outer) (call (.ref 66) [.int x tx, .int y ty]) Q E s := by
  ((have hfill : (PySem.Challenge.rw_xl0032_01 = PySem.Challenge.rw_xl0032_01 ∧ Mine.hd.heap_1 = Mine.hd.heap_1) := by (k_fill; exact ⟨rfl, rfl⟩)); clear hfill; (rename Cx _ _ _ _ _ _ _ _ _ _ _ _ _ _ _ => Cz9); obtain ⟨Bz9, Fz9, Xz9, Nz9, Tz9, hdz9, huz9⟩ := Cz9; refine wpAny_call ?_; w_strict (k_dflt (refine' code_defM ?k1 ?k2 ?k3 ?k4 ?k5 ?kA ?kF ?kK ?k6 ?k7 ?k8 ?k9 ?kB ?_ ?c2 ?c3 ?c4 ?c5; (case kA => exact rfl); (case kF => exact rfl); (case kK => exact rfl); (case k1 => k_asm); (case k2 => k_asm); (case k3 => k_asm); (case k4 => k_asm); (case k5 => k_asm); (case k6 => k_is); (case k7 => k_is); (case k8 => ktr_room); (case k9 => first | exact BindsTo.of_eq rfl | exact binds_K (by k_in) rfl (by k_is) rfl rfl rfl); (case c5 => decide); (case kB => exact locs rfl); (case c2 => exact rfl); (case c3 => exact rfl); (case c4 => exact rfl); k_whole; intro gz9 Lz9 hz9 hGz9 FGz9 Fz8 Nz8 Bz8 Xz8 Tz8; (try dsimp only); (try k_lift Bz8); (try k_fold))))
  walk_at "tb.let"
  w_strict k_steps
  exact ret _ _ _ (by assumption) (by tb_rel)
theorem sub_ok {x y : Int} {tx ty : Tok} (C : Cx w mean mg mb dp un A₀ base outer h₀ L m s [] 1)
   (ret : ∀ t h' tk', Fr h₀ L h' m → Keep [] s.heap h' → Q (.int (x - y) t) { s with heap := h', toks := tk' }) :
   wpAny (mdl w) (tp dp un gd cn nms ig ic mo L a ccd cl outer) (call (.ref 59) [.int x tx, .int y ty]) Q E s := by
  ((have hfill : (PySem.Challenge.rw_xl0032_01 = PySem.Challenge.rw_xl0032_01 ∧ Mine.hd.heap_1 = Mine.hd.heap_1) := by (k_fill; exact ⟨rfl, rfl⟩)); clear hfill; (rename Cx _ _ _ _ _ _ _ _ _ _ _ _ _ _ _ => Cz9); obtain ⟨Bz9, Fz9, Xz9, Nz9, Tz9, hdz9, huz9⟩ := Cz9; refine wpAny_call ?_; w_strict (k_dflt (refine' code_defM ?k1 ?k2 ?k3 ?k4 ?k5 ?kA ?kF ?kK ?k6 ?k7 ?k8 ?k9 ?kB ?_ ?c2 ?c3 ?c4 ?c5; (case kA => exact rfl); (case kF => exact rfl); (case kK => exact rfl); (case k1 => k_asm); (case k2 => k_asm); (case k3 => k_asm); (case k4 => k_asm); (case k5 => k_asm); (case k6 => k_is); (case k7 => k_is); (case k8 => ktr_room); (case k9 => first | exact BindsTo.of_eq rfl | exact binds_K (by k_in) rfl (by k_is) rfl rfl rfl); (case c5 => decide); (case kB => exact locs rfl); (case c2 => exact rfl); (case c3 => exact rfl); (case c4 => exact rfl); k_whole; intro gz9 Lz9 hz9 hGz9 FGz9 Fz8 Nz8 Bz8 Xz8 Tz8; (try dsimp only); (try k_lift Bz8); (try k_fold))))
  walk_at "tb.let"
  w_strict k_steps
  exact ret _ _ _ (by assumption) (by tb_rel)
theorem subB_ok {x : Int} {b : Bool} {tx : Tok} (C : Cx w mean mg mb dp un A₀ base outer h₀ L m s [] 1)
   (ret : ∀ t h' tk', Fr h₀ L h' m → Keep [] s.heap h' → Q (.int (x - (if b then 1 else 0)) t) { s with heap := h', toks := tk' }) :
   wpAny (mdl w) (tp dp un gd cn nms ig ic mo L a ccd cl outer) (call (.ref 59) [.int x tx, .bool b]) Q E s := by
  cases b
  all_goals (((have hfill : (PySem.Challenge.rw_xl0032_01 = PySem.Challenge.rw_xl0032_01 ∧ Mine.hd.heap_1 = Mine.hd.heap_1) := by (k_fill; exact ⟨rfl, rfl⟩)); clear hfill; (rename Cx _ _ _ _ _ _ _ _ _ _ _ _ _ _ _ => Cz9); obtain ⟨Bz9, Fz9, Xz9, Nz9, Tz9, hdz9, huz9⟩ := Cz9; refine wpAny_call ?_; w_strict (k_dflt (refine' code_defM ?k1 ?k2 ?k3 ?k4 ?k5 ?kA ?kF ?kK ?k6 ?k7 ?k8 ?k9 ?kB ?_ ?c2 ?c3 ?c4 ?c5; (case kA => exact rfl); (case kF => exact rfl); (case kK => exact rfl); (case k1 => k_asm); (case k2 => k_asm); (case k3 => k_asm); (case k4 => k_asm); (case k5 => k_asm); (case k6 => k_is); (case k7 => k_is); (case k8 => ktr_room); (case k9 => first | exact BindsTo.of_eq rfl | exact binds_K (by k_in) rfl (by k_is) rfl rfl rfl); (case c5 => decide); (case kB => exact locs rfl); (case c2 => exact rfl); (case c3 => exact rfl); (case c4 => exact rfl); k_whole; intro gz9 Lz9 hz9 hGz9 FGz9 Fz8 Nz8 Bz8 Xz8 Tz8; (try dsimp only); (try k_lift Bz8); (try k_fold)))); walk_at "tb.let"; w_strict k_steps; exact ret _ _ _ (by assumption) (by tb_rel))
theorem lt_ok {x y : Int} {tx ty : Tok} (C : Cx w mean mg mb dp un A₀ base outer h₀ L m s [] 1)
   (ret : ∀ h' tk', Fr h₀ L h' m → Keep [] s.heap h' → Q (.bool (decide (x < y))) { s with heap := h', toks := tk' }) :
   wpAny (mdl w) (tp dp un gd cn nms ig ic mo L a ccd cl outer) (call (.ref 45) [.int x tx, .int y ty]) Q E s := by
  ((have hfill : (PySem.Challenge.rw_xl0032_01 = PySem.Challenge.rw_xl0032_01 ∧ Mine.hd.heap_1 = Mine.hd.heap_1) := by (k_fill; exact ⟨rfl, rfl⟩)); clear hfill; (rename Cx _ _ _ _ _ _ _ _ _ _ _ _ _ _ _ => Cz9); obtain ⟨Bz9, Fz9, Xz9, Nz9, Tz9, hdz9, huz9⟩ := Cz9; refine wpAny_call ?_; w_strict (k_dflt (refine' code_defM ?k1 ?k2 ?k3 ?k4 ?k5 ?kA ?kF ?kK ?k6 ?k7 ?k8 ?k9 ?kB ?_ ?c2 ?c3 ?c4 ?c5; (case kA => exact rfl); (case kF => exact rfl); (case kK => exact rfl); (case k1 => k_asm); (case k2 => k_asm); (case k3 => k_asm); (case k4 => k_asm); (case k5 => k_asm); (case k6 => k_is); (case k7 => k_is); (case k8 => ktr_room); (case k9 => first | exact BindsTo.of_eq rfl | exact binds_K (by k_in) rfl (by k_is) rfl rfl rfl); (case c5 => decide); (case kB => exact locs rfl); (case c2 => exact rfl); (case c3 => exact rfl); (case c4 => exact rfl); k_whole; intro gz9 Lz9 hz9 hGz9 FGz9 Fz8 Nz8 Bz8 Xz8 Tz8; (try dsimp only); (try k_lift Bz8); (try k_fold))))
  walk_at "tb.let"
  w_strict k_steps
  exact ret _ _ (by assumption) (by tb_rel)
theorem eq_ok {x y : Int} {tx ty : Tok} (C : Cx w mean mg mb dp un A₀ base outer h₀ L m s [] 1)
   (ret : ∀ h' tk', Fr h₀ L h' m → Keep [] s.heap h' → Q (.bool (x == y)) { s with heap := h', toks := tk' }) :
   wpAny (mdl w) (tp dp un gd cn nms ig ic mo L a ccd cl outer) (call (.ref 52) [.int x tx, .int y ty]) Q E s := by
  ((have hfill : (PySem.Challenge.rw_xl0032_01 = PySem.Challenge.rw_xl0032_01 ∧ Mine.hd.heap_1 = Mine.hd.heap_1) := by (k_fill; exact ⟨rfl, rfl⟩)); clear hfill; (rename Cx _ _ _ _ _ _ _ _ _ _ _ _ _ _ _ => Cz9); obtain ⟨Bz9, Fz9, Xz9, Nz9, Tz9, hdz9, huz9⟩ := Cz9; refine wpAny_call ?_; w_strict (k_dflt (refine' code_defM ?k1 ?k2 ?k3 ?k4 ?k5 ?kA ?kF ?kK ?k6 ?k7 ?k8 ?k9 ?kB ?_ ?c2 ?c3 ?c4 ?c5; (case kA => exact rfl); (case kF => exact rfl); (case kK => exact rfl); (case k1 => k_asm); (case k2 => k_asm); (case k3 => k_asm); (case k4 => k_asm); (case k5 => k_asm); (case k6 => k_is); (case k7 => k_is); (case k8 => ktr_room); (case k9 => first | exact BindsTo.of_eq rfl | exact binds_K (by k_in) rfl (by k_is) rfl rfl rfl); (case c5 => decide); (case kB => exact locs rfl); (case c2 => exact rfl); (case c3 => exact rfl); (case c4 => exact rfl); k_whole; intro gz9 Lz9 hz9 hGz9 FGz9 Fz8 Nz8 Bz8 Xz8 Tz8; (try dsimp only); (try k_lift Bz8); (try k_fold))))
  walk_at "tb.let"
  w_strict k_steps
  exact ret _ _ (by assumption) (by tb_rel)
theorem iadd_ok {x y : Int} {tx ty : Tok} (C : Cx w mean mg mb dp un A₀ base outer h₀ L m s [] 1)
   (ret : ∀ t h' tk', Fr h₀ L h' m → Keep [] s.heap h' → Q (.int (x + y) t) { s with heap := h', toks := tk' }) :
   wpAny (mdl w) (tp dp un gd cn nms ig ic mo L a ccd cl outer) (call (.ref 108) [.int x tx, .int y ty]) Q E s := by
  ((have hfill : (PySem.Challenge.rw_xl0032_01 = PySem.Challenge.rw_xl0032_01 ∧ Mine.hd.heap_1 = Mine.hd.heap_1) := by (k_fill; exact ⟨rfl, rfl⟩)); clear hfill; (rename Cx _ _ _ _ _ _ _ _ _ _ _ _ _ _ _ => Cz9); obtain ⟨Bz9, Fz9, Xz9, Nz9, Tz9, hdz9, huz9⟩ := Cz9; refine wpAny_call ?_; w_strict (k_dflt (refine' code_defM ?k1 ?k2 ?k3 ?k4 ?k5 ?kA ?kF ?kK ?k6 ?k7 ?k8 ?k9 ?kB ?_ ?c2 ?c3 ?c4 ?c5; (case kA => exact rfl); (case kF => exact rfl); (case kK => exact rfl); (case k1 => k_asm); (case k2 => k_asm); (case k3 => k_asm); (case k4 => k_asm); (case k5 => k_asm); (case k6 => k_is); (case k7 => k_is); (case k8 => ktr_room); (case k9 => first | exact BindsTo.of_eq rfl | exact binds_K (by k_in) rfl (by k_is) rfl rfl rfl); (case c5 => decide); (case kB => exact locs rfl); (case c2 => exact rfl); (case c3 => exact rfl); (case c4 => exact rfl); k_whole; intro gz9 Lz9 hz9 hGz9 FGz9 Fz8 Nz8 Bz8 Xz8 Tz8; (try dsimp only); (try k_lift Bz8); (try k_fold))))
  walk_at "tb.let"
  w_strict k_steps
  exact ret _ _ _ (by assumption) (by tb_rel)
theorem eqQ_ok {qi qd : Addr} {hq : Int} {kq : Tok} {nq : Nat} {x y : Str} {tx ty : Tok} (C : Cx w mean mg mb dp un A₀ base outer h₀ L m s (ledQ qi qd hq kq nq x tx) 3)
   (ret : ∀ h' tk', Fr h₀ L h' m → Keep [] s.heap h' → Q (.bool (x == y)) { s with heap := h', toks := tk' }) :
   wpAny (mdl w) (tp dp un gd cn nms ig ic mo L a ccd cl outer) (call (.ref 52) [.ref qi, .str y ty]) Q E s := by
  ((have hfill : (PySem.Challenge.rw_xl0032_01 = PySem.Challenge.rw_xl0032_01 ∧ Mine.hd.heap_1 = Mine.hd.heap_1) := by (k_fill; exact ⟨rfl, rfl⟩)); clear hfill; (rename Cx _ _ _ _ _ _ _ _ _ _ _ _ _ _ _ => Cz9); obtain ⟨Bz9, Fz9, Xz9, Nz9, Tz9, hdz9, huz9⟩ := Cz9; refine wpAny_call ?_; w_strict (k_dflt (refine' code_defM ?k1 ?k2 ?k3 ?k4 ?k5 ?kA ?kF ?kK ?k6 ?k7 ?k8 ?k9 ?kB ?_ ?c2 ?c3 ?c4 ?c5; (case kA => exact rfl); (case kF => exact rfl); (case kK => exact rfl); (case k1 => k_asm); (case k2 => k_asm); (case k3 => k_asm); (case k4 => k_asm); (case k5 => k_asm); (case k6 => k_is); (case k7 => k_is); (case k8 => ktr_room); (case k9 => first | exact BindsTo.of_eq rfl | exact binds_K (by k_in) rfl (by k_is) rfl rfl rfl); (case c5 => decide); (case kB => exact locs rfl); (case c2 => exact rfl); (case c3 => exact rfl); (case c4 => exact rfl); k_whole; intro gz9 Lz9 hz9 hGz9 FGz9 Fz8 Nz8 Bz8 Xz8 Tz8; (try dsimp only); (try k_lift Bz8); (try k_fold))))
  walk_at "tb.let"
  w_strict k_steps
  exact ret _ _ (by assumption) (by tb_rel)
theorem ltQ_ok {qi qd : Addr} {hq : Int} {kq : Tok} {nq : Nat} {x y : Str} {tx ty : Tok} (C : Cx w mean mg mb dp un A₀ base outer h₀ L m s (ledQ qi qd hq kq nq x tx) 3)
   (ret : ∀ h' tk', Fr h₀ L h' m → Keep [] s.heap h' → Q (.bool (decide (x.cps.toList < y.cps.toList))) { s with heap := h', toks := tk' }) :
   wpAny (mdl w) (tp dp un gd cn nms ig ic mo L a ccd cl outer) (call (.ref 45) [.ref qi, .str y ty]) Q E s := by
  ((have hfill : (PySem.Challenge.rw_xl0032_01 = PySem.Challenge.rw_xl0032_01 ∧ Mine.hd.heap_1 = Mine.hd.heap_1) := by (k_fill; exact ⟨rfl, rfl⟩)); clear hfill; (rename Cx _ _ _ _ _ _ _ _ _ _ _ _ _ _ _ => Cz9); obtain ⟨Bz9, Fz9, Xz9, Nz9, Tz9, hdz9, huz9⟩ := Cz9; refine wpAny_call ?_; w_strict (k_dflt (refine' code_defM ?k1 ?k2 ?k3 ?k4 ?k5 ?kA ?kF ?kK ?k6 ?k7 ?k8 ?k9 ?kB ?_ ?c2 ?c3 ?c4 ?c5; (case kA => exact rfl); (case kF => exact rfl); (case kK => exact rfl); (case k1 => k_asm); (case k2 => k_asm); (case k3 => k_asm); (case k4 => k_asm); (case k5 => k_asm); (case k6 => k_is); (case k7 => k_is); (case k8 => ktr_room); (case k9 => first | exact BindsTo.of_eq rfl | exact binds_K (by k_in) rfl (by k_is) rfl rfl rfl); (case c5 => decide); (case kB => exact locs rfl); (case c2 => exact rfl); (case c3 => exact rfl); (case c4 => exact rfl); k_whole; intro gz9 Lz9 hz9 hGz9 FGz9 Fz8 Nz8 Bz8 Xz8 Tz8; (try dsimp only); (try k_lift Bz8); (try k_fold))))
  walk_at "tb.let"
  w_strict k_steps
  exact ret _ _ (by assumption) (by tb_rel)
end
end
section
open PySem PySem.W PyProof.Rows PySem.Spec PySem.Calls
set_option maxRecDepth 100000
set_option maxHeartbeats 8000000
section
variable {prog : Program} {w : World} {A A₀ : Around} {s : Shared} {K : Frag} {L : Addr} {h₀ base : Heap} {m mg mb : Str → Option Value} {news : List (Addr × Obj)} {p : Program} {loose : List Str} {mean : ExcName → Option Value}
/-- as code_defM, for a def some of whose names a block reads -/
theorem code_defCM {env : Env} {outer : List Env} {R : Result → Shared → Prop} {name qual : Str} {params : Arguments} {body : List Stmt} {scope : Scope} {dV kV doc pm cdv ct oc : Value} {an od : Option Addr} {osl : Array (Option Value)} {f : Addr} {args : Args} {binds : List (Str × Value)}
    (B : Below A₀ base outer h₀) (F : Fr h₀ L s.heap m) (X₀ : K.In h₀) (N : News h₀ L s.heap news) (T : Top p loose mean mg mb h₀) (hA : A.frames = some (env :: outer)) (hf : env.frame = some L) (hke : env.scope.kind = .function)
    (ho : K.lookup f = some ⟨oc, od, .func (fnOf name qual params body scope dV kV doc pm an cdv ct), osl⟩) (hcd : codeIn K cdv qual = true) (hroom : A.depth < recursionLimit)
    (hbind : BindsTo s (fnOf name qual params body scope dV kV doc pm an cdv ct) args binds) (hkind : (binds.all fun y => scope.names.lookup y.1 == some .local || scope.names.lookup y.1 == some .cell) = true)
    (hnd : ((cellsFrom 0 scope.names []).map (·.1)).Nodup)
    (h : ∀ g L' h₁ tk cells, Keep news s.heap g → Fr h₀ L g m → Fr g L' h₁ (bindL (envOfC qual scope L' f cdv).kindOf binds fun _ => none) → News g L' h₁ (cells ++ news) →
      CellsAre (bindC (envOfC qual scope L' f cdv).kindOf binds fun _ => none) (cellsFrom (L' + 1) scope.names []) cells → Below A base (env :: outer) g → K.In g → Top p loose mean mg mb g → (∀ p ∈ news, p.1 < L') →
      wpAny (model prog w) (A.deeper (envOfC qual scope L' f cdv)) (execs body (envOfC qual scope L' f cdv))
        (fun fl s' => LeaveK h₀ L m g R (match fl with | .ret v => v | _ => .none) s')
        (fun e s' => wpAny (model prog w) (A.deeper (envOfC qual scope L' f cdv)) (leaving (envOfC qual scope L' f cdv) e) (fun _ s'' => R (.error e) s'') (fun e' s'' => R (.error e') s'') s')
        { s with heap := h₁, toks := tk })
    (hco : scope.isCoroutine = false) (hgen : scope.isGenerator = false) (hk : scope.kind = .function) : codeAny (model prog w) A (.call (.ref f) args) R s := by
  obtain ⟨FG, BG, st, lv⟩ := groundX (R := R) B F N hA hf hke
  refine codeAny_call_function (fd := fnOf name qual params body scope dV kV doc pm an cdv ct) (body := body) hroom ((X₀.keeps F.keep) _ _ ho) rfl hco hgen rfl (codeRec_of (X₀.keeps F.keep) hcd) (hbind _ _ _ _ ?_)
  refine wpAny_newFunctionEnv_cells hk (kindsX hkind _) fun env' he s' x => ?_
  subst he
  refine ⟨((T.nolimit).keeps F.keep).keeps x.toInCall.keep, codeAny_func ?_⟩
  obtain ⟨h₁, tk, rfl, _⟩ := x.done
  have hk₁ := x.toInCall.keep
  obtain ⟨cells, NC, Y⟩ := Cl.news (h₀ := s.heap) (Nat.le_refl _) fun n c hm => ⟨x.cell n c (lookup_of_mem_nodup (cellsFrom_names scope.names 0 (s.heap.objs.size + 1) [] [] rfl ▸ hnd) hm), x.above n c hm⟩
  refine wpAny_mono (h _ s.heap.objs.size h₁ tk cells (fun b o hb e => hideAll_get _ e (fun q => by obtain ⟨p, hp, e'⟩ := List.mem_map.mp q; exact hb p hp e')) FG ⟨x.toInCall.ns, fun b o e => hk₁ b o (of_hideAll _ e), Nat.le_of_eq (hideAll_size _ _)⟩ (fun p hp => ?_) Y BG (X₀.keeps st) (T.keeps st) (fun p hp => Heap.lt_size (N p hp).1)) (fun fl s' hl => lv _ _ hl) fun _ _ y => y
  rcases List.mem_append.mp hp with hp | hp
  · refine ⟨(NC p hp).1, (NC p hp).2.1, ?_⟩
    cases q : (hideAll s.heap (news.map (·.1))).get? p.1 with
    | none => rfl
    | some o => have := of_hideAll _ q; rw [(NC p hp).2.2] at this; cases this
  · exact ⟨hk₁ _ _ (N p hp).1, Nat.ne_of_lt (Heap.lt_size (N p hp).1), hideAll_none _ (List.mem_map_of_mem hp)⟩
end
end
section
open PySem PySem.W PyProof.Rows PySem.Calls PyProof.Rows.LCg
set_option maxRecDepth 100000
set_option maxHeartbeats 8000000
set_option autoImplicit false
section
variable {prog : Program} {w : World} {A : Around} {env : Env} {E : Value → Shared → Prop} {s : Shared} {h₀ : Heap} {L : Addr} {m : Str → Option Value}
/-- the source of a list comprehension is a str of plain signs -/
noncomputable def SrcS (prog : Program) (w : World) (A : Around) (h₀ : Heap) (L : Addr) (m : Str → Option Value) (env : Env) (elt : Expr) (x : Str) (scope : Scope) (cl : List (Str × Addr)) (Fin : Shared → List Value → List (Addr × Obj) → Prop) (xv : Value) (s₁ : Shared) : Prop :=
  ∃ y t news, xv = .str y t ∧ A.handled = none ∧ Fr h₀ L s₁.heap m ∧ News h₀ L s₁.heap news ∧ y.cps.all (· < 128) = true ∧ y.cps.size ≤ sizeLine ∧
    ∀ s₂ : Shared, (∃ h, s₂ = { s₁ with heap := h }) → LCg.CompRest prog w A h₀ L m env elt x scope cl s₂ (fun _ => True) (SignAt y) (Fin s₂) y.cps.size 0 [] news
theorem SrcS.intro {elt : Expr} {x : Str} {scope : Scope} {cl : List (Str × Addr)} {Fin : Shared → List Value → List (Addr × Obj) → Prop} {y : Str} {t : Tok} {news : List (Addr × Obj)} {s₁ : Shared}
    (hh : A.handled = none) (F : Fr h₀ L s₁.heap m) (N : News h₀ L s₁.heap news) (ha : y.cps.all (· < 128) = true) (hsz : y.cps.size ≤ sizeLine)
    (h : ∀ g, LCg.CompRest prog w A h₀ L m env elt x scope cl { s₁ with heap := g } (fun _ => True) (SignAt y) (Fin { s₁ with heap := g }) y.cps.size 0 [] news) :
    SrcS prog w A h₀ L m env elt x scope cl Fin (.str y t) s₁ := ⟨y, t, news, rfl, hh, F, N, ha, hsz, fun _ ⟨g, e⟩ => e ▸ h g⟩
theorem ListComp_S {elt iter : Expr} {x : Str} {px : Pos} {scope : Scope} {cl : List (Str × Addr)} {pos : Pos} {Q : Value → Shared → Prop} (_F₀ : Fr h₀ L s.heap m)
    (hclos : closureFor scope env = pure cl) (hcell : ∀ y ∈ scope.names, y.2 ≠ .cell) (hkind : scope.kind = .function)
    (hnames : ∀ y ∈ scope.names, y.2 = .local → scope.names.lookup y.1 = some .local) (hx : scope.names.lookup x = some .local)
    (h : wpAny (model prog w) A (eval iter env) (SrcS prog w A h₀ L m env elt x scope cl (fun s₂ => LCg.FinE h₀ L m s₂ Q)) E s)
    (hs : ∀ x, foldedSetIterable iter env x = pure x := by intro _; rfl) :
    wpAny (model prog w) A (eval (.ListComp elt [⟨.Name x px, iter, [], 0⟩] scope pos) env) Q E s := by
  rw [eval_ListComp]
  refine wpAny_comprehension_free (use := none) rfl hs hclos hkind hnames (wpAny_mono h (fun xv s₁ h₁ => ?_) fun _ _ e => e)
  obtain ⟨y, t, news, rfl, hh, F, N, ha, hsz, R⟩ := h₁
  refine wpAny_pyIter_ascii ha ?_
  refine LCg.block_U (Walks.strAscii hh s₁.heap.objs.size y t) hsz (fun i h st => by obtain ⟨o, e, _⟩ := st; exact ⟨o, e⟩) (fun i h h' o nw st e e' _ _ _ => by obtain ⟨o', q, r⟩ := st; rw [e] at q; cases q; exact ⟨o, e', r⟩) hcell hkind hx ⟨_, Heap.get?_push_size _ rfl, rfl, rfl⟩ (fun b hb => ?_)
      (F.keeps fun _ _ e => Heap.get?_push_of_some _ e) (N.grown fun _ _ e => Heap.get?_push_of_some _ e) (Nat.ne_of_lt F.ns.lt) (next_is_new F) (fun p hp => Nat.ne_of_lt (Heap.lt_size (N p hp).1)) trivial (R _ ⟨_, rfl⟩) ?_
  · rw [List.mem_singleton.mp hb]
    show s₁.heap.objs.size < (s₁.heap.push _).objs.size
    rw [Heap.size_push]; exact Nat.lt_succ_self _
  · intro D C h tk m' ys news' F' N' o1 hn hC₀ hD₀ hCL hDL hCD offC fin
    refine ⟨m', hn, fun h'' hs'' => fin D h'' tk (F'.change hs'' hCL hC₀) (fun p hp => ?_) o1⟩
    refine ⟨hs''.extBut _ _ ?_ (N' p hp).1, (N' p hp).2⟩
    rcases List.mem_cons.mp hp with rfl | hp
    · exact Ne.symm hCD
    · exact offC p hp

noncomputable def Sg (c : Nat) : Prop := c = 38 ∨ c = 60 ∨ c = 62 ∨ c = 34
theorem compRest_ind {elt : Expr} {x : Str} {scope : Scope} {cl : List (Str × Addr)} {S : List (Addr × Obj) → Prop} {P : Nat → Value → Prop} {Fin : List Value → List (Addr × Obj) → Prop} {news : List (Addr × Obj)} {n : Nat} {G : Nat → List Value → Prop}
    (step : ∀ i ys v I oI C oC D m₂ h tk (E' : Value → Shared → Prop), i < n → G i ys → P i v → LCg.NsObj oC m₂ → m₂ x = some v → Fr h₀ L h m → News h₀ L h ((I, oI) :: (C, oC) :: (D, LCg.lst ys) :: news) → LCg.Off3 I C D news → ((@Ne Nat I C) ∧ (@Ne Nat I D) ∧ (@Ne Nat C D)) →
      wpAny (model prog w) A (eval elt (compEnvC scope cl C env)) (LCg.CompEnd h₀ L m { s with heap := h, toks := tk } I oI C oC D (LCg.lst ys) S (fun y news' => news' = news ∧ G (i + 1) (ys ++ [y]))) E' { s with heap := h, toks := tk })
    (fin : ∀ ys, G n ys → Fin ys news) : ∀ (k i : Nat) (ys : List Value), i + k = n → G i ys → LCg.CompRest prog w A h₀ L m env elt x scope cl s S P Fin k i ys news
  | 0, i, ys, e, g => by obtain rfl : i = n := e; exact fin ys g
  | k + 1, i, ys, e, g => by
    refine LCg.CompRest.succ fun v I oI C oC D m₂ h tk E' hP hC hx F N off ne => ?_
    refine wpAny_mono (step i ys v I oI C oC D m₂ h tk E' (by omega) g hP hC hx F N off ne) (fun y s' h' => ?_) fun _ _ z => z
    obtain ⟨h₂, tk₂, news₂, e₂, F₂, N₂, off₂, S₂, e₃, g₂⟩ := h'
    subst e₃
    exact ⟨h₂, tk₂, news₂, e₂, F₂, N₂, off₂, S₂, compRest_ind step fin k (i + 1) (ys ++ [y]) (by omega) g₂⟩
theorem strsAre_snoc : ∀ {ys : List Value} {zs : List Str} (z : Str) (t : Tok), StrsAre ys zs → StrsAre (ys ++ [.str z t]) (zs ++ [z])
  | _, _, z, t, .nil => .cons z t .nil
  | _, _, z, t, .cons y u r => .cons y u (strsAre_snoc z t r)
theorem SrcS.ind {elt : Expr} {x : Str} {scope : Scope} {cl : List (Str × Addr)} {Fin : Shared → List Value → List (Addr × Obj) → Prop} {y : Str} {t : Tok} {news : List (Addr × Obj)} {s₁ : Shared} (f : Nat → Str)
    (hh : A.handled = none) (F : Fr h₀ L s₁.heap m) (N : News h₀ L s₁.heap news) (hs : ∀ c ∈ y.cps.toList, Sg c) (hsz : y.length ≤ 3)
    (step : ∀ g ys v I oI C oC D m₂ h tk (E' : Value → Shared → Prop) c, Sg c → (∃ u, v = .str ⟨#[c]⟩ u) → LCg.NsObj oC m₂ → m₂ x = some v → Fr h₀ L h m → News h₀ L h ((I, oI) :: (C, oC) :: (D, LCg.lst ys) :: news) → LCg.Off3 I C D news → ((@Ne Nat I C) ∧ (@Ne Nat I D) ∧ (@Ne Nat C D)) →
      wpAny (model prog w) A (eval elt (compEnvC scope cl C env)) (LCg.CompEnd h₀ L m { { s₁ with heap := g } with heap := h, toks := tk } I oI C oC D (LCg.lst ys) (fun _ => True) (fun y news' => news' = news ∧ ∃ t, y = .str (f c) t)) E' { { s₁ with heap := g } with heap := h, toks := tk })
    (fin : ∀ g ys, StrsAre ys (y.cps.toList.map f) → Fin { s₁ with heap := g } ys news) :
    SrcS prog w A h₀ L m env elt x scope cl Fin (.str y t) s₁ := by
  refine SrcS.intro hh F N ?_ (Nat.le_trans hsz (by decide)) fun g => compRest_ind (n := y.cps.size) (G := fun i ys => StrsAre ys ((y.cps.toList.take i).map f)) ?_ ?_ y.cps.size 0 [] (by omega) .nil
  · rw [Array.all_eq_true']
    intro c hc
    have := hs c (by simpa using hc)
    rcases this with rfl | rfl | rfl | rfl <;> decide
  · intro i ys v I oI C oC D m₂ h tk E' hi hG hP hC hx F N off ne
    obtain ⟨c, u, hc, hv⟩ := hP
    have hcl : y.cps.toList[i]? = some c := by rw [← hc]; simp
    refine wpAny_mono (step g ys v I oI C oC D m₂ h tk E' c (hs c (List.mem_of_getElem? hcl)) ⟨u, hv⟩ hC hx F N off ne) (fun y' s' h' => ?_) fun _ _ z => z
    obtain ⟨h₂, tk₂, news₂, e₂, F₂, N₂, off₂, S₂, e₃, t₂, rfl⟩ := h'
    refine ⟨h₂, tk₂, news₂, e₂, F₂, N₂, off₂, S₂, e₃, ?_⟩
    rw [List.take_add_one, hcl]
    simp only [Option.toList_some, List.map_append, List.map_cons, List.map_nil]
    exact strsAre_snoc _ _ hG
  · intro ys hG
    refine fin g ys ?_
    rwa [List.take_of_length_le (by simp)] at hG
noncomputable def toldC (k : Nat) (c : Nat) : Str :=
  if c = 38 then Str.ofString "&amp;" else if c = 60 ∧ k ≠ 2 then Str.ofString "&lt;" else if c = 62 ∧ k ≠ 4 then Str.ofString "&gt;" else if c = 34 ∧ (k = 1 ∨ k = 2 ∨ k = 4) then Str.ofString "&quot;" else ⟨#[c]⟩
theorem toldC_len (k c : Nat) : (toldC k c).length ≤ 6 := by
  unfold toldC
  split
  · decide
  split
  · decide
  split
  · decide
  split
  · decide
  · show (#[c] : Array Nat).size ≤ 6; simp
theorem told_fit (k : Nat) {l : List Nat} (h : l.length ≤ 3) : (((l.map (toldC k))).map (·.length)).sum + (l.map (toldC k)).length ≤ 1048576 := by
  have key : ∀ l : List Nat, (((l.map (toldC k))).map (·.length)).sum ≤ 6 * l.length := by
    intro l
    induction l with
    | nil => simp
    | cons c r ih => have := toldC_len k c; simp only [List.map_cons, List.sum_cons, List.length_cons]; omega
  have := key l
  rw [List.length_map]; omega
theorem told_get {k : Nat} {D : List (PyData × PyData)} {v : Value} {c : Nat} (h : PyProof.V.Flat v ((Spec.lookup (PyData.str ⟨#[c]⟩) D).getD (PyData.str ⟨#[c]⟩))) (hc : Sg c)
    (h1 : (Spec.lookup (PyData.str ⟨#[38]⟩) D).getD (PyData.str ⟨#[38]⟩) = PyData.str (toldC k 38)) (h2 : (Spec.lookup (PyData.str ⟨#[60]⟩) D).getD (PyData.str ⟨#[60]⟩) = PyData.str (toldC k 60))
    (h3 : (Spec.lookup (PyData.str ⟨#[62]⟩) D).getD (PyData.str ⟨#[62]⟩) = PyData.str (toldC k 62)) (h4 : (Spec.lookup (PyData.str ⟨#[34]⟩) D).getD (PyData.str ⟨#[34]⟩) = PyData.str (toldC k 34)) : ∃ t, v = .str (toldC k c) t := by
  have e : (Spec.lookup (PyData.str ⟨#[c]⟩) D).getD (PyData.str ⟨#[c]⟩) = PyData.str (toldC k c) := by
    rcases hc with rfl | rfl | rfl | rfl <;> assumption
  rw [e] at h
  have h' := h {}
  cases h'
  exact ⟨_, rfl⟩
end
end
local macro_rules | `(tactic| tb_rel) => `(tactic| (refine Mine.Keep.back (Mine.Keep.of (by assumption) (by assumption)) (by assumption) (by assumption) ?_; first | exact List.forall_mem_nil _ | with_unfolding_all k_allIn))
section
open PySem PySem.W PyProof.Rows
set_option maxRecDepth 100000
set_option maxHeartbeats 3000000
section
variable {w : World} {mean : ExcName → Option Value} {mg mb : Str → Option Value} {dp un : Nat} {gd : Option (List Code)} {cn : Str} {nms : List (Str × NameKind)} {ig ic : Bool} {mo : List (Str × Const)} {a : Addr} {ccd : Value} {cl : List (Str × Addr)} {outer : List Env} {A₀ : Around} {base h₀ : Heap} {L : Addr} {m : Str → Option Value} {s : Shared} {Q E : Value → Shared → Prop} {news : Led}

theorem hand_ok {k : Int} {tk : Tok} (hk0 : 0 ≤ k) (hk : k < 5) (C : Cx w mean mg mb dp un A₀ base outer h₀ L m s [] 1)
   (ret : ∀ h' tk', Fr h₀ L h' m → Keep [] s.heap h' → Q (.ref (337 + 7 * k.toNat)) { s with heap := h', toks := tk' }) :
   wpAny (mdl w) (tp dp un gd cn nms ig ic mo L a ccd cl outer) (call (.ref 372) [.int k tk]) Q E s := by
  ((have hfill : (PySem.Challenge.rw_xl0032_01 = PySem.Challenge.rw_xl0032_01 ∧ Mine.hd.heap_1 = Mine.hd.heap_1) := by (k_fill; exact ⟨rfl, rfl⟩)); clear hfill; (rename Cx _ _ _ _ _ _ _ _ _ _ _ _ _ _ _ => Cz9); obtain ⟨Bz9, Fz9, Xz9, Nz9, Tz9, hdz9, huz9⟩ := Cz9; refine wpAny_call ?_; w_strict (k_dflt (refine' code_defM ?k1 ?k2 ?k3 ?k4 ?k5 ?kA ?kF ?kK ?k6 ?k7 ?k8 ?k9 ?kB ?_ ?c2 ?c3 ?c4 ?c5; (case kA => exact rfl); (case kF => exact rfl); (case kK => exact rfl); (case k1 => k_asm); (case k2 => k_asm); (case k3 => k_asm); (case k4 => k_asm); (case k5 => k_asm); (case k6 => k_is); (case k7 => k_is); (case k8 => ktr_room); (case k9 => first | exact BindsTo.of_eq rfl | exact binds_K (by k_in) rfl (by k_is) rfl rfl rfl); (case c5 => decide); (case kB => exact locs rfl); (case c2 => exact rfl); (case c3 => exact rfl); (case c4 => exact rfl); k_whole; intro gz9 Lz9 hz9 hGz9 FGz9 Fz8 Nz8 Bz8 Xz8 Tz8; (try dsimp only); (try k_lift Bz8); (try k_fold))))
  walk_at "tb.let"
  w_strict k_steps
  all_goals (rename k = _ => hk'; subst hk'; exact ret _ _ (by assumption) (by tb_rel))
theorem masks_ok {k : Int} {tk : Tok} (C : Cx w mean mg mb dp un A₀ base outer h₀ L m s [] 1)
   (ret : ∀ l t0 t1 t2 h' tk', Fr h₀ L h' m → Keep [] s.heap h' → News h₀ L h' [(l, listOf #[.int (1 + k.fmod 7) t0, .int (1 + (k.fdiv 7).fmod 7) t1, .int (1 + (k.fdiv 49).fmod 7) t2] 0)] → s.heap.get? l = none → Q (.ref l) { s with heap := h', toks := tk' }) :
   wpAny (mdl w) (tp dp un gd cn nms ig ic mo L a ccd cl outer) (call (.ref 386) [.int k tk]) Q E s := by
  ((have hfill : (PySem.Challenge.rw_xl0032_01 = PySem.Challenge.rw_xl0032_01 ∧ Mine.hd.heap_1 = Mine.hd.heap_1) := by (k_fill; exact ⟨rfl, rfl⟩)); clear hfill; (rename Cx _ _ _ _ _ _ _ _ _ _ _ _ _ _ _ => Cz9); obtain ⟨Bz9, Fz9, Xz9, Nz9, Tz9, hdz9, huz9⟩ := Cz9; refine wpAny_call ?_; w_strict (k_dflt (refine' code_defM ?k1 ?k2 ?k3 ?k4 ?k5 ?kA ?kF ?kK ?k6 ?k7 ?k8 ?k9 ?kB ?_ ?c2 ?c3 ?c4 ?c5; (case kA => exact rfl); (case kF => exact rfl); (case kK => exact rfl); (case k1 => k_asm); (case k2 => k_asm); (case k3 => k_asm); (case k4 => k_asm); (case k5 => k_asm); (case k6 => k_is); (case k7 => k_is); (case k8 => ktr_room); (case k9 => first | exact BindsTo.of_eq rfl | exact binds_K (by k_in) rfl (by k_is) rfl rfl rfl); (case c5 => decide); (case kB => exact locs rfl); (case c2 => exact rfl); (case c3 => exact rfl); (case c4 => exact rfl); k_whole; intro gz9 Lz9 hz9 hGz9 FGz9 Fz8 Nz8 Bz8 Xz8 Tz8; (try dsimp only); (try k_lift Bz8); (try k_fold))))
  walk_at "tb.let"
  w_strict k_steps
  exact ret _ _ _ _ _ _ (by assumption) (by tb_rel) (News.sub (by assumption) (by with_unfolding_all k_allIn)) (Keep.fresh (by assumption) (by assumption) (List.forall_mem_nil _))
noncomputable def bitP (k : Int) (i : Nat) : Bool := decide ((k.fdiv (2 ^ i)).fmod 2 = 1)
noncomputable def pickN (k : Int) (x0 x1 x2 : Str) : List Str := (if bitP k 0 then [x0] else []) ++ (if bitP k 1 then [x1] else []) ++ (if bitP k 2 then [x2] else [])
section
variable {prog : Program} {w : World} {A : Around} {env : Env} {E : Value → Shared → Prop} {s : Shared} {h₀ : Heap} {L : Addr} {m : Str → Option Value}
theorem compRestT_ind {ct elt : PySem.Expr} {x : Str} {scope : Scope} {cl : List (Str × Addr)} {S : List (Addr × Obj) → Prop} {P : Nat → Value → Prop} {Fin : List Value → List (Addr × Obj) → Prop} {news : List (Addr × Obj)} {n : Nat} {G : Nat → List Value → Prop}
    (step : ∀ i ys v I oI C oC D m₂ h tk (E' : Value → Shared → Prop), i < n → G i ys → P i v → LCg.NsObj oC m₂ → m₂ x = some v → Fr h₀ L h m → News h₀ L h ((I, oI) :: (C, oC) :: (D, LCg.lst ys) :: news) → LCg.Off3 I C D news → ((@Ne Nat I C) ∧ (@Ne Nat I D) ∧ (@Ne Nat C D)) →
      wpAny (model prog w) A (isTrue ct (compEnvC scope cl C env) (eval ct (compEnvC scope cl C env))) (fun ok s' => if ok = true then
        wpAny (model prog w) A (eval elt (compEnvC scope cl C env)) (LCg.CompEnd h₀ L m { s with heap := h, toks := tk } I oI C oC D (LCg.lst ys) S (fun y news' => news' = news ∧ G (i + 1) (ys ++ [y]))) E' s'
        else LCg.CompEnd h₀ L m { s with heap := h, toks := tk } I oI C oC D (LCg.lst ys) S (fun _ news' => news' = news ∧ G (i + 1) ys) Value.none s') E' { s with heap := h, toks := tk })
    (fin : ∀ ys, G n ys → Fin ys news) : ∀ (k i : Nat) (ys : List Value), i + k = n → G i ys → LCt.CompRestT prog w A h₀ L m env ct elt x scope cl s S P Fin k i ys news
  | 0, i, ys, e, g => by obtain rfl : i = n := e; exact fin ys g
  | k + 1, i, ys, e, g => by
    refine LCt.CompRestT.succ fun v I oI C oC D m₂ h tk E' hP hC hx F N off ne => ?_
    refine wpAny_mono (step i ys v I oI C oC D m₂ h tk E' (by omega) g hP hC hx F N off ne) (fun ok s' h' => ?_) fun _ _ z => z
    cases ok with
    | true =>
      rw [if_pos rfl] at h' ⊢
      refine wpAny_mono h' (fun y s' h' => ?_) fun _ _ z => z
      obtain ⟨h₂, tk₂, news₂, e₂, F₂, N₂, off₂, S₂, e₃, g₂⟩ := h'
      subst e₃
      exact ⟨h₂, tk₂, news₂, e₂, F₂, N₂, off₂, S₂, compRestT_ind step fin k (i + 1) (ys ++ [y]) (by omega) g₂⟩
    | false =>
      rw [if_neg Bool.false_ne_true] at h' ⊢
      obtain ⟨h₂, tk₂, news₂, e₂, F₂, N₂, off₂, S₂, e₃, g₂⟩ := h'
      subst e₃
      exact ⟨h₂, tk₂, news₂, e₂, F₂, N₂, off₂, S₂, compRestT_ind step fin k (i + 1) ys (by omega) g₂⟩
end
noncomputable def sg3 (i : Nat) (x0 x1 x2 : Str) : Str := match i with | 0 => x0 | 1 => x1 | _ => x2
noncomputable def pickTo (k : Int) (x0 x1 x2 : Str) : Nat → List Str
  | 0 => []
  | i + 1 => pickTo k x0 x1 x2 i ++ (if bitP k i then [sg3 i x0 x1 x2] else [])
theorem pick_fit {k : Int} {x0 x1 x2 : Str} (h0 : x0.length ≤ 1) (h1 : x1.length ≤ 1) (h2 : x2.length ≤ 1) : ((pickN k x0 x1 x2).map (·.length)).sum + (pickN k x0 x1 x2).length ≤ 1048576 := by
  unfold pickN
  cases bitP k 0 <;> cases bitP k 1 <;> cases bitP k 2 <;> simp <;> omega
theorem toNat_zadd (i : Nat) : (0 + (i : Int)).toNat = i := by omega
theorem opq3 {P : Prop} {h₀ h : Heap} {L : Addr} {a b c : Addr × Obj} (N : News h₀ L h [a, b, c]) (k : ∀ R : Led, News h₀ L h R → a ∈ R → b ∈ R → c ∈ R → P) : P := k _ N (.head _) (.tail _ (.head _)) (.tail _ (.tail _ (.head _)))
noncomputable def HaltS (P : Prop) : Prop := P
theorem HaltS.intro {P : Prop} (h : HaltS P) : P := h
local macro_rules | `(tactic| walk_at "CompSrcT") => `(tactic| (k_here; refine HaltS.intro ?_))
local macro_rules | `(tactic| walk_at "eval ListComp") => `(tactic| (k_here; lcg_calm; k_dflt (refine LCt.ListComp_T (F₀ := by k_asm) (by with_unfolding_all rfl) (by decide) (by rfl) (by decide) (by rfl) ?_)))
local macro_rules | `(tactic| walk_at "subscriptTail Name Name ref int") => `(tactic| (k_here; refine HaltS.intro ?_))
local macro_rules | `(tactic| walk_at "CompEnd") => `(tactic| (refine HaltS.intro ?_))
local macro_rules | `(tactic| walk_at "call builtin:str.join") => `(tactic| (k_here; k_dflt (refine join_listW (by is_list) (by assumption) (by decide) (by assumption) ?_); intro _ _))
theorem signs_of_ok {k : Int} {tk t0 t1 t2 : Tok} {x0 x1 x2 : Str} {l : Addr} (hx0 : x0.length ≤ 1) (hx1 : x1.length ≤ 1) (hx2 : x2.length ≤ 1) {nl : Nat} (C : Cx w mean mg mb dp un A₀ base outer h₀ L m s [(l, listOf #[.str x0 t0, .str x1 t1, .str x2 t2] nl)] 1)
   (ret : ∀ t h' tk', Fr h₀ L h' m → Keep [] s.heap h' → Q (.str (Txt.join (Str.ofString "") (pickN k x0 x1 x2)) t) { s with heap := h', toks := tk' }) :
   wpAny (mdl w) (tp dp un gd cn nms ig ic mo L a ccd cl outer) (call (.ref 391) [.int k tk, .ref l]) Q E s := by
  ((have hfill : (PySem.Challenge.rw_xl0032_01 = PySem.Challenge.rw_xl0032_01 ∧ Mine.hd.heap_1 = Mine.hd.heap_1) := by (k_fill; exact ⟨rfl, rfl⟩)); clear hfill; (rename Cx _ _ _ _ _ _ _ _ _ _ _ _ _ _ _ => Cz9); obtain ⟨Bz9, Fz9, Xz9, Nz9, Tz9, hdz9, huz9⟩ := Cz9; refine wpAny_call ?_; w_strict (k_dflt (refine' code_defCM ?k1 ?k2 ?k3 ?k4 ?k5 ?kA ?kF ?kK ?k6 ?k7 ?k8 ?k9 ?kB ?kD ?_ ?c2 ?c3 ?c4; (case kA => exact rfl); (case kF => exact rfl); (case kK => exact rfl); (case k1 => k_asm); (case k2 => k_asm); (case k3 => k_asm); (case k4 => k_asm); (case k5 => k_asm); (case k6 => k_is); (case k7 => k_is); (case k8 => ktr_room); (case k9 => first | exact BindsTo.of_eq rfl | exact binds_K (by k_in) rfl (by k_is) rfl rfl rfl); (case kB => exact rfl); (case kD => decide +kernel); (case c2 => exact rfl); (case c3 => exact rfl); (case c4 => exact rfl); k_whole; intro gz9 Lz9 hz9 tkz9 cellz9 hGz9 FGz9 Fz8 Nz8 Yz8 Bz8 Xz8 Tz8 lz9; (try k_lt lz9); k_cells Yz8; (try simp only [List.cons_append, List.nil_append] at Nz8); (try dsimp only); (try k_lift Bz8); (try k_fold))))
  walk_at "tb.let"
  w_strict k_steps
  unfold HaltS
  rename Fr _ _ _ _ => lF
  rename News _ _ _ _ => lN
  rename IsRange _ _ _ _ _ _ _ _ => lR
  refine opq3 lN fun R NR m1 m2 m3 => ?_
  clear lN
  refine LCt.CompSrcT.range (by rfl) lF NR lR (by decide) (by rfl) (by exact Nat.le_of_ble_eq_true rfl) ?_
  intro g9
  refine compRestT_ind (n := 3) (G := fun i ys => StrsAre ys (pickTo k x0 x1 x2 i)) ?_ ?_ 3 0 [] rfl .nil
  · clear lF lR NR
    intro i ys v I oI C oC D m₂ h9 tk9 E' hi hG hP hC hx F9 N9 off ne
    obtain ⟨t9, rfl⟩ := hP
    obtain ⟨ts, hsg⟩ : ∃ ts, (#[Value.str x0 t0, .str x1 t1, .str x2 t2] : Array Value)[(0 + (i : Int)).toNat]? = some (.str (sg3 i x0 x1 x2) ts) := by
      rcases (by omega : i = 0 ∨ i = 1 ∨ i = 2) with rfl | rfl | rfl <;> exact ⟨_, rfl⟩
    w_strict k_steps
    · unfold HaltS
      rename News _ _ _ _ => lN
      refine item_list (News.isList lN (by k_mem)) (by omega) (by omega) hsg ?_ (by with_unfolding_all rfl) (by intro _; with_unfolding_all rfl)
      w_strict k_steps
      unfold HaltS
      refine ⟨_, _, _, rfl, by assumption, by assumption, off, trivial, rfl, ?_⟩
      have e : bitP k i = true := decide_eq_true (by rw [← toNat_zadd i]; assumption)
      show StrsAre _ (_ ++ _)
      rw [e]
      exact strsAre_snoc _ _ hG
    · unfold HaltS
      refine ⟨_, _, _, rfl, by assumption, by assumption, off, trivial, rfl, ?_⟩
      have e : bitP k i = false := decide_eq_false (by rw [← toNat_zadd i]; assumption)
      show StrsAre _ (_ ++ _)
      rw [e]
      exact (List.append_nil _).symm ▸ hG
  intro ys hG
  have hl : StrsAre ys (pickN k x0 x1 x2) := hG
  have hjb := pick_fit (k := k) hx0 hx1 hx2
  w_strict k_steps
  exact ret _ _ _ (by assumption) (by tb_rel)
end
end
section
open PySem PySem.W PyProof.Rows
set_option maxRecDepth 100000
set_option maxHeartbeats 8000000
section
variable {w : World} {mean : ExcName → Option Value} {mg mb : Str → Option Value} {dp un : Nat} {gd : Option (List Code)} {cn : Str} {nms : List (Str × NameKind)} {ig ic : Bool} {mo : List (Str × Const)} {a : Addr} {ccd : Value} {cl : List (Str × Addr)} {outer : List Env} {A₀ : Around} {base h₀ : Heap} {L : Addr} {m : Str → Option Value} {s : Shared} {Q E : Value → Shared → Prop} {news : Led}
local macro_rules | `(tactic| walk_at "eval ListComp") => `(tactic| (k_here; lcg_calm; k_dflt (refine ListComp_S (_F₀ := by k_asm) (by with_unfolding_all rfl) (by decide) (by rfl) (by decide) (by rfl) ?_)))
local macro_rules | `(tactic| walk_at "call builtin:str.join") => `(tactic| (k_here; k_dflt (refine join_listW (by is_list) (by assumption) (by decide) (by assumption) ?_); intro _ _))
local macro_rules | `(tactic| walk_at "forall") => `(tactic| ((show ∀ (_ : Heap) (_ : List Value) (_ : Value), _); intro g' ys' v' I' oI' C' oC' D' m' h' tk' E' c' hc9' hv' hC' hx' F' N' off' ne'; obtain ⟨t9', hv9'⟩ := hv'; subst hv9'; (try simp only [LCg.Off3, and_true] at off')))
local macro_rules | `(tactic| walk_at "forall") => `(tactic| ((show ∀ (_ : Heap) (_ : List Value), (StrsAre _ _) → _); intro g' ys' hY'))
noncomputable def KD (_ : Nat) : Prop := True
noncomputable abbrev kdOf {k : Nat} (_ : KD k) : Nat := k
local macro_rules | `(tactic| walk_at "SrcS") => `(tactic| (k_here; (rename KD _ => hK'); k_dflt (refine SrcS.ind (toldC (kdOf hK')) (by rfl) (by k_asm) (by k_asm) (by assumption) (by assumption) ?_ ?_); (try dsimp only [kdOf])))
local macro_rules | `(tactic| walk_at "And") => `(tactic| ((rename PyProof.V.Flat _ _ => hv'); exact ⟨rfl, told_get hv' (by assumption) (by with_unfolding_all rfl) (by with_unfolding_all rfl) (by with_unfolding_all rfl) (by with_unfolding_all rfl)⟩))
theorem spelled0_ok {tk tx : Tok} {x : Str} (hs : ∀ c ∈ x.cps.toList, Sg c) (hx : x.length ≤ 3) (C : Cx w mean mg mb dp un A₀ base outer h₀ L m s [] 1)
   (ret : ∀ t h' tk', Fr h₀ L h' m → Keep [] s.heap h' → Q (.str (Txt.join (Str.ofString "") (x.cps.toList.map (toldC 0))) t) { s with heap := h', toks := tk' }) :
   wpAny (mdl w) (tp dp un gd cn nms ig ic mo L a ccd cl outer) (call (.ref 396) [.str x tx, .int 0 tk]) Q E s := by
  have hjb := told_fit 0 hx
  have hK : KD 0 := trivial
  ((have hfill : (PySem.Challenge.rw_xl0032_01 = PySem.Challenge.rw_xl0032_01 ∧ Mine.hd.heap_1 = Mine.hd.heap_1) := by (k_fill; exact ⟨rfl, rfl⟩)); clear hfill; (rename Cx _ _ _ _ _ _ _ _ _ _ _ _ _ _ _ => Cz9); obtain ⟨Bz9, Fz9, Xz9, Nz9, Tz9, hdz9, huz9⟩ := Cz9; refine wpAny_call ?_; w_strict (k_dflt (refine' code_defCM ?k1 ?k2 ?k3 ?k4 ?k5 ?kA ?kF ?kK ?k6 ?k7 ?k8 ?k9 ?kB ?kD ?_ ?c2 ?c3 ?c4; (case kA => exact rfl); (case kF => exact rfl); (case kK => exact rfl); (case k1 => k_asm); (case k2 => k_asm); (case k3 => k_asm); (case k4 => k_asm); (case k5 => k_asm); (case k6 => k_is); (case k7 => k_is); (case k8 => ktr_room); (case k9 => first | exact BindsTo.of_eq rfl | exact binds_K (by k_in) rfl (by k_is) rfl rfl rfl); (case kB => exact rfl); (case kD => decide +kernel); (case c2 => exact rfl); (case c3 => exact rfl); (case c4 => exact rfl); k_whole; intro gz9 Lz9 hz9 tkz9 cellz9 hGz9 FGz9 Fz8 Nz8 Yz8 Bz8 Xz8 Tz8 lz9; (try k_lt lz9); k_cells Yz8; (try simp only [List.cons_append, List.nil_append] at Nz8); (try dsimp only); (try k_lift Bz8); (try k_fold))))
  walk_at "tb.let"
  w_strict k_steps
  exact ret _ _ _ (by assumption) (by tb_rel)
theorem spelled1_ok {tk tx : Tok} {x : Str} (hs : ∀ c ∈ x.cps.toList, Sg c) (hx : x.length ≤ 3) (C : Cx w mean mg mb dp un A₀ base outer h₀ L m s [] 1)
   (ret : ∀ t h' tk', Fr h₀ L h' m → Keep [] s.heap h' → Q (.str (Txt.join (Str.ofString "") (x.cps.toList.map (toldC 1))) t) { s with heap := h', toks := tk' }) :
   wpAny (mdl w) (tp dp un gd cn nms ig ic mo L a ccd cl outer) (call (.ref 396) [.str x tx, .int 1 tk]) Q E s := by
  have hjb := told_fit 1 hx
  have hK : KD 1 := trivial
  ((have hfill : (PySem.Challenge.rw_xl0032_01 = PySem.Challenge.rw_xl0032_01 ∧ Mine.hd.heap_1 = Mine.hd.heap_1) := by (k_fill; exact ⟨rfl, rfl⟩)); clear hfill; (rename Cx _ _ _ _ _ _ _ _ _ _ _ _ _ _ _ => Cz9); obtain ⟨Bz9, Fz9, Xz9, Nz9, Tz9, hdz9, huz9⟩ := Cz9; refine wpAny_call ?_; w_strict (k_dflt (refine' code_defCM ?k1 ?k2 ?k3 ?k4 ?k5 ?kA ?kF ?kK ?k6 ?k7 ?k8 ?k9 ?kB ?kD ?_ ?c2 ?c3 ?c4; (case kA => exact rfl); (case kF => exact rfl); (case kK => exact rfl); (case k1 => k_asm); (case k2 => k_asm); (case k3 => k_asm); (case k4 => k_asm); (case k5 => k_asm); (case k6 => k_is); (case k7 => k_is); (case k8 => ktr_room); (case k9 => first | exact BindsTo.of_eq rfl | exact binds_K (by k_in) rfl (by k_is) rfl rfl rfl); (case kB => exact rfl); (case kD => decide +kernel); (case c2 => exact rfl); (case c3 => exact rfl); (case c4 => exact rfl); k_whole; intro gz9 Lz9 hz9 tkz9 cellz9 hGz9 FGz9 Fz8 Nz8 Yz8 Bz8 Xz8 Tz8 lz9; (try k_lt lz9); k_cells Yz8; (try simp only [List.cons_append, List.nil_append] at Nz8); (try dsimp only); (try k_lift Bz8); (try k_fold))))
  walk_at "tb.let"
  w_strict k_steps
  exact ret _ _ _ (by assumption) (by tb_rel)
theorem spelled2_ok {tk tx : Tok} {x : Str} (hs : ∀ c ∈ x.cps.toList, Sg c) (hx : x.length ≤ 3) (C : Cx w mean mg mb dp un A₀ base outer h₀ L m s [] 1)
   (ret : ∀ t h' tk', Fr h₀ L h' m → Keep [] s.heap h' → Q (.str (Txt.join (Str.ofString "") (x.cps.toList.map (toldC 2))) t) { s with heap := h', toks := tk' }) :
   wpAny (mdl w) (tp dp un gd cn nms ig ic mo L a ccd cl outer) (call (.ref 396) [.str x tx, .int 2 tk]) Q E s := by
  have hjb := told_fit 2 hx
  have hK : KD 2 := trivial
  ((have hfill : (PySem.Challenge.rw_xl0032_01 = PySem.Challenge.rw_xl0032_01 ∧ Mine.hd.heap_1 = Mine.hd.heap_1) := by (k_fill; exact ⟨rfl, rfl⟩)); clear hfill; (rename Cx _ _ _ _ _ _ _ _ _ _ _ _ _ _ _ => Cz9); obtain ⟨Bz9, Fz9, Xz9, Nz9, Tz9, hdz9, huz9⟩ := Cz9; refine wpAny_call ?_; w_strict (k_dflt (refine' code_defCM ?k1 ?k2 ?k3 ?k4 ?k5 ?kA ?kF ?kK ?k6 ?k7 ?k8 ?k9 ?kB ?kD ?_ ?c2 ?c3 ?c4; (case kA => exact rfl); (case kF => exact rfl); (case kK => exact rfl); (case k1 => k_asm); (case k2 => k_asm); (case k3 => k_asm); (case k4 => k_asm); (case k5 => k_asm); (case k6 => k_is); (case k7 => k_is); (case k8 => ktr_room); (case k9 => first | exact BindsTo.of_eq rfl | exact binds_K (by k_in) rfl (by k_is) rfl rfl rfl); (case kB => exact rfl); (case kD => decide +kernel); (case c2 => exact rfl); (case c3 => exact rfl); (case c4 => exact rfl); k_whole; intro gz9 Lz9 hz9 tkz9 cellz9 hGz9 FGz9 Fz8 Nz8 Yz8 Bz8 Xz8 Tz8 lz9; (try k_lt lz9); k_cells Yz8; (try simp only [List.cons_append, List.nil_append] at Nz8); (try dsimp only); (try k_lift Bz8); (try k_fold))))
  walk_at "tb.let"
  w_strict k_steps
  exact ret _ _ _ (by assumption) (by tb_rel)
theorem spelled3_ok {tk tx : Tok} {x : Str} (hs : ∀ c ∈ x.cps.toList, Sg c) (hx : x.length ≤ 3) (C : Cx w mean mg mb dp un A₀ base outer h₀ L m s [] 1)
   (ret : ∀ t h' tk', Fr h₀ L h' m → Keep [] s.heap h' → Q (.str (Txt.join (Str.ofString "") (x.cps.toList.map (toldC 3))) t) { s with heap := h', toks := tk' }) :
   wpAny (mdl w) (tp dp un gd cn nms ig ic mo L a ccd cl outer) (call (.ref 396) [.str x tx, .int 3 tk]) Q E s := by
  have hjb := told_fit 3 hx
  have hK : KD 3 := trivial
  ((have hfill : (PySem.Challenge.rw_xl0032_01 = PySem.Challenge.rw_xl0032_01 ∧ Mine.hd.heap_1 = Mine.hd.heap_1) := by (k_fill; exact ⟨rfl, rfl⟩)); clear hfill; (rename Cx _ _ _ _ _ _ _ _ _ _ _ _ _ _ _ => Cz9); obtain ⟨Bz9, Fz9, Xz9, Nz9, Tz9, hdz9, huz9⟩ := Cz9; refine wpAny_call ?_; w_strict (k_dflt (refine' code_defCM ?k1 ?k2 ?k3 ?k4 ?k5 ?kA ?kF ?kK ?k6 ?k7 ?k8 ?k9 ?kB ?kD ?_ ?c2 ?c3 ?c4; (case kA => exact rfl); (case kF => exact rfl); (case kK => exact rfl); (case k1 => k_asm); (case k2 => k_asm); (case k3 => k_asm); (case k4 => k_asm); (case k5 => k_asm); (case k6 => k_is); (case k7 => k_is); (case k8 => ktr_room); (case k9 => first | exact BindsTo.of_eq rfl | exact binds_K (by k_in) rfl (by k_is) rfl rfl rfl); (case kB => exact rfl); (case kD => decide +kernel); (case c2 => exact rfl); (case c3 => exact rfl); (case c4 => exact rfl); k_whole; intro gz9 Lz9 hz9 tkz9 cellz9 hGz9 FGz9 Fz8 Nz8 Yz8 Bz8 Xz8 Tz8 lz9; (try k_lt lz9); k_cells Yz8; (try simp only [List.cons_append, List.nil_append] at Nz8); (try dsimp only); (try k_lift Bz8); (try k_fold))))
  walk_at "tb.let"
  w_strict k_steps
  exact ret _ _ _ (by assumption) (by tb_rel)
theorem spelled4_ok {tk tx : Tok} {x : Str} (hs : ∀ c ∈ x.cps.toList, Sg c) (hx : x.length ≤ 3) (C : Cx w mean mg mb dp un A₀ base outer h₀ L m s [] 1)
   (ret : ∀ t h' tk', Fr h₀ L h' m → Keep [] s.heap h' → Q (.str (Txt.join (Str.ofString "") (x.cps.toList.map (toldC 4))) t) { s with heap := h', toks := tk' }) :
   wpAny (mdl w) (tp dp un gd cn nms ig ic mo L a ccd cl outer) (call (.ref 396) [.str x tx, .int 4 tk]) Q E s := by
  have hjb := told_fit 4 hx
  have hK : KD 4 := trivial
  ((have hfill : (PySem.Challenge.rw_xl0032_01 = PySem.Challenge.rw_xl0032_01 ∧ Mine.hd.heap_1 = Mine.hd.heap_1) := by (k_fill; exact ⟨rfl, rfl⟩)); clear hfill; (rename Cx _ _ _ _ _ _ _ _ _ _ _ _ _ _ _ => Cz9); obtain ⟨Bz9, Fz9, Xz9, Nz9, Tz9, hdz9, huz9⟩ := Cz9; refine wpAny_call ?_; w_strict (k_dflt (refine' code_defCM ?k1 ?k2 ?k3 ?k4 ?k5 ?kA ?kF ?kK ?k6 ?k7 ?k8 ?k9 ?kB ?kD ?_ ?c2 ?c3 ?c4; (case kA => exact rfl); (case kF => exact rfl); (case kK => exact rfl); (case k1 => k_asm); (case k2 => k_asm); (case k3 => k_asm); (case k4 => k_asm); (case k5 => k_asm); (case k6 => k_is); (case k7 => k_is); (case k8 => ktr_room); (case k9 => first | exact BindsTo.of_eq rfl | exact binds_K (by k_in) rfl (by k_is) rfl rfl rfl); (case kB => exact rfl); (case kD => decide +kernel); (case c2 => exact rfl); (case c3 => exact rfl); (case c4 => exact rfl); k_whole; intro gz9 Lz9 hz9 tkz9 cellz9 hGz9 FGz9 Fz8 Nz8 Yz8 Bz8 Xz8 Tz8 lz9; (try k_lt lz9); k_cells Yz8; (try simp only [List.cons_append, List.nil_append] at Nz8); (try dsimp only); (try k_lift Bz8); (try k_fold))))
  walk_at "tb.let"
  w_strict k_steps
  exact ret _ _ _ (by assumption) (by tb_rel)
theorem spelled_ok {tk tx : Tok} {x : Str} {k : Int} (hk0 : 0 ≤ k) (hk : k < 5) (hs : ∀ c ∈ x.cps.toList, Sg c) (hx : x.length ≤ 3) (C : Cx w mean mg mb dp un A₀ base outer h₀ L m s [] 1)
   (ret : ∀ t h' tk', Fr h₀ L h' m → Keep [] s.heap h' → Q (.str (Txt.join (Str.ofString "") (x.cps.toList.map (toldC k.toNat))) t) { s with heap := h', toks := tk' }) :
   wpAny (mdl w) (tp dp un gd cn nms ig ic mo L a ccd cl outer) (call (.ref 396) [.str x tx, .int k tk]) Q E s := by
  obtain rfl | rfl | rfl | rfl | rfl : k = 0 ∨ k = 1 ∨ k = 2 ∨ k = 3 ∨ k = 4 := by omega
  · exact spelled0_ok hs hx C ret
  · exact spelled1_ok hs hx C ret
  · exact spelled2_ok hs hx C ret
  · exact spelled3_ok hs hx C ret
  · exact spelled4_ok hs hx C ret
end
end
section
open PySem PySem.W PyProof.Rows PySem.Calls
set_option maxRecDepth 100000
set_option maxHeartbeats 8000000
set_option autoImplicit false
section
variable {prog : Program} {w : World} {A : Around} {E : Value → Shared → Prop} {s : Shared} {env : Env} {h₀ : Heap} {target : Expr} {body : List Stmt} {Q : Flow → Shared → Prop}
theorem letGo_range {I : Addr} {x left step : Int} {v : Value} {Q' : Unit → Shared → Prop} {s' : Shared} (hit : IsRangeIter s'.heap I x left step) (h : Q' () s') :
    wpAny (model prog w) A (letOwnedTupleGo target (.ref I) v) Q' E s' := by
  unfold letOwnedTupleGo
  cases target <;> first
    | exact wpAny_pure h
    | (cases v <;> first
        | exact wpAny_pure h
        | (refine wpAny_bind (wpAny_load hit ?_)
           exact wpAny_pure h))
noncomputable def tokInts (a : Int) : Nat → Nat → List Itm
  | _, 0 => []
  | i, n + 1 => .tok (fun t => .int (a + (i : Int)) t) :: tokInts a (i + 1) n
theorem tokInts_length (a : Int) : ∀ n i, (tokInts a i n).length = n
  | 0, _ => rfl
  | n + 1, i => by show (tokInts a (i + 1) n).length + 1 = n + 1; rw [tokInts_length a n]
theorem tokInts_get (a : Int) : ∀ n i j, j < n → (tokInts a i n)[j]? = some (.tok (fun t => .int (a + ((i + j : Nat) : Int)) t))
  | n + 1, i, 0, _ => rfl
  | n + 1, i, j + 1, h => by
    show (tokInts a (i + 1) n)[j]? = _
    rw [tokInts_get a n (i + 1) j (by omega)]
    congr 3; funext t; congr 2; omega
/-- a loop over a range, turn by turn -/
theorem iter_rangeTurns {r : Addr} {a b : Int} {t u v : Tok} {n : Nat} {m₀ : Str → Option Value} {news : List (Addr × Obj)}
    (hh : A.handled = none) (F : Fr h₀ env.locals s.heap m₀) (N : News h₀ env.locals s.heap news) (hr : IsRange s.heap r a b 1 t u v) (hsm : Builtin.Range.small a b 1 = true) (hn : Builtin.Range.rangeSize a b 1 = ((n : Nat) : Int))
    (rest₀ : ∀ I : Addr, (∀ p ∈ news, p.1 < I) → ItemsRest prog w A E h₀ env target body Q s [(I, "range_iterator")] [] (tokInts a 0 n) m₀ news) :
    wpAny (model prog w) A (pyIter (.ref r)) (fun it s₂ => TurnsAt prog w A h₀ env target body Q E it s₂) E s := by
  refine wpAny_pyIter_range hr hsm ?_
  refine ktu_core (tk0 := s.toks) (keep := []) (KTurns.ofWalks (Walks.range hh s.heap.objs.size a 1 n).bound fun i v s Q E st q => letGo_range st q) (tokInts_length a n 0).symm (fun i v h hp => ?_) (fun i h st => ?_) (fun b hb => ?_) (fun b hb => by simpa using hb) (fun b hb => ?_) ?_ (fun p hp hI => ?_) ?_ (F.push _) (fun p hp => ⟨Heap.get?_push_of_some _ (N p hp).1, (N p hp).2⟩) trivial (rest₀ _ fun p hp => Heap.lt_size (N p hp).1)
  · obtain ⟨hi, t, rfl⟩ := hp
    refine ⟨_, tokInts_get a n 0 i hi, t, ?_⟩
    rw [Int.mul_one, Nat.zero_add]
  · exact ⟨[(s.heap.objs.size, _)], ⟨⟨rfl, rfl⟩, trivial⟩, fun p hp => by rw [List.mem_singleton.mp hp]; exact st⟩
  · have hb' : b = s.heap.objs.size := by simpa using hb
    rw [hb']
    exact ⟨List.mem_cons_self .., next_is_new F⟩
  · exact .inl (by simpa using hb)
  · intro hI
    exact absurd F.ns.lt ((List.mem_singleton.mp hI) ▸ Nat.lt_irrefl _)
  · exact absurd (Heap.lt_size (N p hp).1) ((List.mem_singleton.mp hI) ▸ Nat.lt_irrefl _)
  · show IsRangeIter _ _ _ _ _
    rw [hn]; simpa using Heap.get?_push_size _ rfl
end
end
local macro_rules | `(tactic| walk_at "exec For Name Call cons nil") => `(tactic| (k_here; (with_reducible show wpAny _ _ (exec (Stmt.For _ (Expr.Call (Expr.Name _ _) [Expr.Constant _ _ _] _ _) _ _ _) _) _ _ _); (rename Fr _ _ _ _ => lF'); (with_unfolding_all refine' For_turns lF' ?_; k_whole)))
section
open PySem PySem.W PyProof.Rows PySem.Calls
set_option maxRecDepth 100000
set_option maxHeartbeats 8000000
set_option autoImplicit false
section
variable {prog : Program} {w : World} {A : Around} {E : Value → Shared → Prop} {s : Shared} {env : Env} {h₀ : Heap} {target : Expr} {body : List Stmt} {Q : Flow → Shared → Prop}
/-- items taken one by one, by what holds between the turns -/
theorem items_ind {ws : List (Addr × String)} {keep : List (Addr × Obj)} {xs : List Itm} (J : Nat → (Str → Option Value) → Led → Prop)
    (step : ∀ i a m news v h tk, xs[i]? = some a → J i m news → a.Is v h → Fr h₀ env.locals h m → AllObj ws (fun its => News h₀ env.locals h (its ++ news) →
      wpAny (model prog w) A (assign target env v) (fun _ s₂ => wpAny (model prog w) A (execs body env) (UnrPostW h₀ env.locals { s with heap := h, toks := tk } its (fun m' n' => SubL keep n' ∧ J (i + 1) m' n') Q) E s₂) E { s with heap := h, toks := tk }))
    (fin : ∀ m news h tk, J xs.length m news → Fr h₀ env.locals h m → News h₀ env.locals h news → Q .next { s with heap := h, toks := tk }) :
    ∀ (k i : Nat) (m : Str → Option Value) (news : Led), i + k = xs.length → J i m news → ItemsRest prog w A E h₀ env target body Q s ws keep (xs.drop i) m news
  | 0, i, m, news, e, hJ => by
    obtain rfl : i = xs.length := e
    rw [List.drop_length]
    exact fun h tk F N => fin m news h tk hJ F N
  | k + 1, i, m, news, e, hJ => by
    have hi : i < xs.length := by omega
    rw [List.drop_eq_getElem_cons hi]
    intro v h tk hv F
    have H := step i xs[i] m news v h tk (List.getElem?_eq_getElem hi) hJ hv F
    have up : ∀ its : List (Addr × Obj), (News h₀ env.locals h (its ++ news) →
      wpAny (model prog w) A (assign target env v) (fun _ s₂ => wpAny (model prog w) A (execs body env) (UnrPostW h₀ env.locals { s with heap := h, toks := tk } its (fun m' n' => SubL keep n' ∧ J (i + 1) m' n') Q) E s₂) E { s with heap := h, toks := tk }) →
      News h₀ env.locals h (its ++ news) → wpAny (model prog w) A (assign target env v) (fun _ s₂ => wpAny (model prog w) A (execs body env) (UnrPostW h₀ env.locals { s with heap := h, toks := tk } its (fun m' n' => SubL keep n' ∧ ItemsRest prog w A E h₀ env target body Q s ws keep (xs.drop (i + 1)) m' n') Q) E s₂) E { s with heap := h, toks := tk } := by
      intro its hs N
      refine wpAny_mono (hs N) (fun _ s₂ h₂ => wpAny_mono h₂ (fun f s₃ p => ?_) fun _ _ e => e) fun _ _ e => e
      have conv : UnrEndW h₀ env.locals { s with heap := h, toks := tk } its (fun m' n' => SubL keep n' ∧ J (i + 1) m' n') s₃ → UnrEndW h₀ env.locals { s with heap := h, toks := tk } its (fun m' n' => SubL keep n' ∧ ItemsRest prog w A E h₀ env target body Q s ws keep (xs.drop (i + 1)) m' n') s₃ := by
        rintro ⟨h', tk', m', news', e', F', N', off, hk, hJ'⟩
        exact ⟨h', tk', m', news', e', F', N', off, hk, items_ind J step fin k (i + 1) m' news' (by omega) hJ'⟩
      cases f with
      | ret v => exact p
      | brk => exact p
      | next => exact conv p
      | cont => exact conv p
    clear hv F hJ
    revert H
    have gen : ∀ (ws : List (Addr × String)) (k1 k2 : List (Addr × Obj) → Prop), (∀ its, k1 its → k2 its) → AllObj ws k1 → AllObj ws k2 := by
      intro ws
      induction ws with
      | nil => exact fun k1 k2 h x => h _ x
      | cons w r ih => exact fun k1 k2 h x o ho => ih _ _ (fun its y => h _ y) (x o ho)
    exact gen ws _ _ up
/-- `for i, x in enumerate(l)`, l a list of ints that stands below -/
theorem enum_inv {elts : List Expr} {k : Nat} {pos : Pos} {l : Addr} {vs : List Value} {ns : List Int} {m₀ : Str → Option Value} {news : Led} (J : Nat → (Str → Option Value) → Led → Prop)
    (hh : A.handled = none) (F : Fr h₀ env.locals s.heap m₀) (N : News h₀ env.locals s.heap news) (hl : h₀.IsList l vs.toArray) (hi : IntsAre vs ns) (hj : J 0 m₀ news)
    (turn : ∀ i n t u T m₁ news₁ (I : Addr) o1 o2 h tk, ns[i]? = some n → J i m₁ news₁ → o1.cls = .type "enumerate" → o2.cls = .type "list_iterator" → IsTup h T #[.int (i : Int) t, .int n u] → Fr h₀ env.locals h m₁ → News h₀ env.locals h ((I + 1, o1) :: (I, o2) :: news₁) →
      wpAny (model prog w) A (assign (.Tuple elts k pos) env (.ref T)) (fun _ s₂ => wpAny (model prog w) A (execs body env) (UnrPostW h₀ env.locals { s with heap := h, toks := tk } [(I + 1, o1), (I, o2)] (fun m' n' => J (i + 1) m' n') Q) E s₂) E { s with heap := h, toks := tk })
    (done : ∀ m₁ news₁ h tk, J ns.length m₁ news₁ → Fr h₀ env.locals h m₁ → News h₀ env.locals h news₁ → Q .next { s with heap := h, toks := tk }) :
    wpAny (model prog w) A (call (.type "enumerate") [.ref l]) (fun xv s₁ => wpAny (model prog w) A (pyIter xv) (fun it s₂ => TurnsAt prog w A h₀ env (.Tuple elts k pos) body Q E it s₂) E s₁) E s := by
  have hls : s.heap.IsList l vs.toArray := hl.at fun o e => F.keep l o e
  obtain ⟨ol, hol, _⟩ := id hl
  have hl0 : l < h₀.objs.size := Heap.lt_size hol
  have hlt : l < s.heap.objs.size := Nat.lt_trans (Nat.lt_of_lt_of_le hl0 F.above) F.ns.lt
  have hLs : env.locals < s.heap.objs.size := F.ns.lt
  have hlen : vs.length = ns.length := hi.length
  refine call_enumerate_list hls fun h' hE hI hsz hk => ?_
  refine wpAny_pyIter_enum hE ?_
  have n1 : ∀ b, b < s.heap.objs.size → b ∉ [s.heap.objs.size + 1, s.heap.objs.size] := by
    intro b hb hm
    rcases List.mem_cons.mp hm with e | hm
    · rw [e] at hb; omega
    · rw [List.mem_singleton.mp hm] at hb; omega
  refine ⟨s.heap.objs.size + 1, _, _, vs.toArray.size, _, _, _, m₀, news, fun i m' n' => J i m' n', rfl, KTurns.ofWalksU (WalksT.enumerate hh (s.heap.objs.size + 1) s.heap.objs.size l (Nat.succ_ne_self _) (ktu_ne 1 hlt) (Nat.ne_of_lt hlt) vs.toArray).toU, ?_, ?_, ?_, ⟨⟨.none, hE⟩, hI, hls.at fun o e => hk l o e⟩, F.keeps hk, N.grown hk, hj, ?_, ?_⟩
  · intro hm
    have hb' : env.locals = s.heap.objs.size + 1 ∨ env.locals = s.heap.objs.size ∨ env.locals = l := by simpa using hm
    rcases hb' with e | e | e
    · exact ktu_ne 1 hLs e
    · exact Nat.ne_of_lt hLs e
    · have := Nat.lt_of_lt_of_le hl0 F.above
      rw [e] at this; exact Nat.lt_irrefl _ this
  · intro b hb
    have hb' : b = s.heap.objs.size + 1 ∨ b = s.heap.objs.size := by simpa using hb
    rcases hb' with rfl | rfl
    · exact ktu_new F (Nat.le_add_right _ _)
    · exact ktu_new F (Nat.le_refl _)
  · exact fun p hp => n1 _ (Heap.lt_size (N p hp).1)
  · intro i v m₁ news₁ h₁ tk₁ own hin hP hJ hoff hown hget hall hst F₁ N₁
    obtain ⟨T, vals, rfl, ⟨t, x, hx, rfl⟩, hT⟩ := hP
    obtain ⟨⟨old, he⟩, ⟨oi, hoi, hic, _⟩, _⟩ := hst
    have hi' : i < ns.length := by simpa [hlen] using hin
    obtain ⟨u, hu⟩ := hi.get i ns[i] (by simp [hi'])
    have hxv : x = .int ns[i] u := by
      have : vs[i]? = some x := by simpa using hx
      rw [hu] at this; exact (Option.some.inj this).symm
    subst hxv
    obtain ⟨oe, h1, h2⟩ : ∃ oe : Obj, h₁.get? (s.heap.objs.size + 1) = some oe ∧ oe.cls = .type "enumerate" := ⟨_, he, rfl⟩
    have g1 : (s.heap.objs.size + 1, oe) ∈ own := hall _ (by simp) (ktu_new F (Nat.le_add_right _ _)) _ h1
    have g2 : (s.heap.objs.size, oi) ∈ own := hall _ (by simp) (ktu_new F (Nat.le_refl _)) _ hoi
    have N₂ : News h₀ env.locals h₁ ((s.heap.objs.size + 1, oe) :: (s.heap.objs.size, oi) :: news₁) := fun p hp => by
      rcases List.mem_cons.mp hp with rfl | hp
      · exact N₁ _ (List.mem_append_left _ g1)
      rcases List.mem_cons.mp hp with rfl | hp
      · exact N₁ _ (List.mem_append_left _ g2)
      exact N₁ _ (List.mem_append_right _ hp)
    refine wpAny_mono (turn i ns[i] t u T m₁ news₁ s.heap.objs.size oe oi h₁ tk₁ (by simp [hi']) hJ h2 hic hT F₁ N₂) (fun _ s₂ h₂ => wpAny_mono h₂ (fun f s₃ p => ?_) fun _ _ e => e) fun _ _ e => e
    have fin : UnrEndW h₀ env.locals { s with heap := h₁, toks := tk₁ } [(s.heap.objs.size + 1, oe), (s.heap.objs.size, oi)] (fun m' n' => J (i + 1) m' n') s₃ → LoopStepU h₀ env.locals [s.heap.objs.size + 1, s.heap.objs.size] own (J (i + 1)) { s with heap := h₁, toks := tk₁ } .next s₃ := by
      rintro ⟨h'', tk, m', news', e, F', N', ho, hJ'⟩
      refine ⟨rfl, h'', tk, m', news', e, F', ?_, ?_, hJ'⟩
      · rintro ⟨pa, po⟩ hp
        rcases List.mem_append.mp hp with hp | hp
        · have q1 : h₁.get? pa = some po := hget _ hp
          have q2 : pa = s.heap.objs.size + 1 ∨ pa = s.heap.objs.size ∨ pa = l := by simpa using hown _ hp
          rcases q2 with rfl | rfl | rfl
          · rw [h1] at q1; cases q1; exact N' _ (List.mem_append_left _ (.head _))
          · rw [hoi] at q1; cases q1; exact N' _ (List.mem_append_left _ (.tail _ (.head _)))
          · have q3 : h₀.get? pa = none := (N₁ (pa, po) (List.mem_append_left _ hp)).2.2
            rw [hol] at q3; cases q3
        · exact N' _ (List.mem_append_right _ hp)
      · intro p hp hI
        rcases List.mem_cons.mp hI with e | hI
        · exact ho p hp _ (.head _) e
        · exact ho p hp _ (.tail _ (.head _)) (List.mem_singleton.mp hI)
    cases f with
    | ret v => exact .ret p
    | brk => exact .brk p
    | next => exact .next (fin p)
    | cont => exact .cont (fin p)
  · intro h'' tk m' news' F' N' _ hJ
    have e : vs.toArray.size = ns.length := by simpa using hlen
    rw [e] at hJ
    exact done m' news' h'' tk hJ F' N'
end
theorem UnrEndW.of1 {h₀ : Heap} {L : Addr} {s₁ : Shared} {I : Addr} {oI : Obj} {rest : (Str → Option Value) → Led → Prop} {h' : Heap} {tk : Nat} {m' : Str → Option Value} {all news' : Led} (F : Fr h₀ L h' m') (N : News h₀ L h' all) (hI : (I, oI) ∈ all) (hs : ∀ p ∈ news', p ∈ all) (off : ∀ p ∈ news', p.1 ≠ I) (r : rest m' news') : UnrEndW h₀ L s₁ [(I, oI)] rest { s₁ with heap := h', toks := tk } :=
  ⟨h', tk, m', news', rfl, F, fun p hp => by
    rcases List.mem_append.mp hp with hp | hp
    · exact N p (List.mem_singleton.mp hp ▸ hI)
    · exact N p (hs p hp), fun p hp q hq e => off p hp (e.trans (congrArg Prod.fst (List.mem_singleton.mp hq))), r⟩
end
section
open PySem PySem.W PyProof.Rows PySem.Calls
set_option maxRecDepth 100000
set_option maxHeartbeats 8000000
set_option autoImplicit false
section
variable {prog : Program} {w : World} {A : Around} {env : Env} {E : Value → Shared → Prop} {s : Shared} {h₀ : Heap} {L : Addr} {m : Str → Option Value}
noncomputable def fltV (pz : Int → Bool) (l : List (Int × Tok)) : List Value := (l.filter (fun p => pz p.1)).map (fun p => .int p.1 p.2)
theorem fltV_snoc (pz : Int → Bool) (l : List (Int × Tok)) (p : Int × Tok) : fltV pz (l ++ [p]) = if pz p.1 then fltV pz l ++ [.int p.1 p.2] else fltV pz l := by
  unfold fltV
  cases h : pz p.1 <;> simp [List.filter_append, h]
theorem flt_at {pz : Int → Bool} {l : List (Int × Tok)} {its : Array Value} (hl : its.toList = l.map fun p => .int p.1 p.2) {i : Nat} {v : Value} (hP : its[i]? = some v) : ∃ k t, v = .int k t ∧ fltV pz (l.take (i + 1)) = if pz k then fltV pz (l.take i) ++ [.int k t] else fltV pz (l.take i) := by
  have h1 : its.toList[i]? = some v := by rw [← hP]; simp
  rw [hl, List.getElem?_map] at h1
  cases e : l[i]? with
  | none => rw [e] at h1; cases h1
  | some p =>
    rw [e] at h1
    refine ⟨p.1, p.2, (Option.some.inj h1).symm, ?_⟩
    rw [List.take_add_one, e]
    exact fltV_snoc pz _ p
end
end
section
local macro_rules | `(tactic| walk_at "none") => `(tactic| skip)
open PySem PySem.W PyProof.Rows
set_option maxRecDepth 100000
set_option maxHeartbeats 8000000
section
variable {w : World} {mean : ExcName → Option Value} {mg mb : Str → Option Value} {dp un : Nat} {gd : Option (List Code)} {cn : Str} {nms : List (Str × NameKind)} {ig ic : Bool} {mo : List (Str × Const)} {a : Addr} {ccd : Value} {cl : List (Str × Addr)} {outer : List Env} {A₀ : Around} {base h₀ : Heap} {L : Addr} {m : Str → Option Value} {s : Shared} {Q E : Value → Shared → Prop} {news : Led}
theorem fltV_len (pz : Int → Bool) (l : List (Int × Tok)) : (fltV pz l).length ≤ l.length := by
  unfold fltV; rw [List.length_map]; exact List.length_filter_le _ _
section
variable {prog : Program} {w : World} {A : Around} {env : Env} {E : Value → Shared → Prop} {s : Shared} {h₀ : Heap} {L : Addr} {m : Str → Option Value}
theorem lenF {D : Addr} {l : List (Int × Tok)} {pz : Int → Bool} {news : Led} {Q : Value → Shared → Prop} (N : News h₀ L s.heap news) (hm : (D, LCg.lst (fltV pz l)) ∈ news) (hl : l.length ≤ 3)
    (h : ∀ (n : Nat) (t : Tok) (tk : Nat), n = (fltV pz l).length → n ≤ 3 → Q (.int n t) { s with toks := tk }) : wpAny (model prog w) A (call (.builtin "len") [.ref D]) Q E s := by
  have h3 := fltV_len pz l
  refine len_list (items := (fltV pz l).toArray) (News.isList N hm) (by simp; omega) ?_
  have := h (fltV pz l).length (s.toks + 1) (s.toks + 1 + 1) rfl (by omega)
  simpa using this
end
theorem fltV_cnt (pz : Int → Bool) (l : List (Int × Tok)) : (fltV pz l).length = ((l.map (·.1)).filter pz).length := by
  unfold fltV
  rw [List.length_map, List.filter_map, List.length_map]; rfl
/-- how many take road r -/
noncomputable def cnt (ks : List Int) (r : Nat) : Nat := (ks.filter (fun k => bitP k r)).length
/-- the one number: over the roads, the sum of the first so many costs -/
noncomputable def hgt (ks cs : List Int) : Int := ((cs.drop 0).take (cnt ks 0)).sum + ((cs.drop 3).take (cnt ks 1)).sum + ((cs.drop 6).take (cnt ks 2)).sum
noncomputable def HaltH (P : Prop) : Prop := P
theorem HaltH.intro {P : Prop} (h : HaltH P) : P := h
local macro_rules | `(tactic| walk_at "eval Name") => `(tactic| (k_here; (rename Fr _ _ _ _ => kF); k_dflt (refine' nameX_L kF ?v ?_ ?a ?b; (case a => rfl); (case b => rfl); (case v => first | (with_unfolding_all rfl) | (with_unfolding_all assumption)); k_whole)))
local macro_rules | `(tactic| walk_at "eval ListComp") => `(tactic| (k_here; lcg_calm; k_dflt (refine LCt.ListComp_T (F₀ := by k_asm) (by with_unfolding_all rfl) (by decide) (by rfl) (by decide) (by rfl) ?_)))
local macro_rules | `(tactic| walk_at "CompSrcT") => `(tactic| (k_here; refine HaltH.intro ?_))
local macro_rules | `(tactic| walk_at "call builtin:len") => `(tactic| (k_here; (with_reducible show wpAny _ _ (call (Value.builtin "len") [Value.ref _]) _ _ _); k_dflt (refine lenF (by k_asm) (by k_mem) (by exact Nat.le_of_ble_eq_true rfl) ?_); intro n' t' tk' hn' hn3'))
noncomputable def hgtTo (ks cs : List Int) : Nat → Int
  | 0 => 0
  | r + 1 => hgtTo ks cs r + ((cs.drop (3 * r)).take (cnt ks r)).sum
theorem hgtTo3 (ks cs : List Int) : hgtTo ks cs 3 = hgt ks cs := by
  show 0 + _ + _ + _ = _
  rw [Int.zero_add]; rfl
noncomputable def hgF (vh vt : Option Value) (mB : Str → Option Value) : Str → Option Value := fun y => if y = Str.ofString "height" then vh else if y = Str.ofString "takers" then vt else mB y
theorem hg_m0 {vh : Option Value} {mB : Str → Option Value} : (fun y => if y = Str.ofString "height" then vh else mB y) = hgF vh (mB (Str.ofString "takers")) mB := by
  funext z
  by_cases h1 : z = Str.ofString "height"
  · subst h1; with_unfolding_all rfl
  by_cases h2 : z = Str.ofString "takers"
  · subst h2; with_unfolding_all rfl
  simp only [hgF, if_neg h1, if_neg h2]
theorem hg_m {vh vt v1 v2 : Option Value} {mB : Str → Option Value} : (fun y => if y = Str.ofString "height" then v1 else if y = Str.ofString "takers" then v2 else hgF vh vt mB y) = hgF v1 v2 mB := by
  funext z
  by_cases h1 : z = Str.ofString "height"
  · subst h1; with_unfolding_all rfl
  by_cases h2 : z = Str.ofString "takers"
  · subst h2; with_unfolding_all rfl
  simp only [hgF, if_neg h1, if_neg h2]
inductive HgJ (mB : Str → Option Value) (R : Led) (ca : Addr) (ks cs : List Int) (r : Nat) (m' : Str → Option Value) (n' : Led) : Prop
  | mk (t : Tok) (vt : Option Value) (oC : Obj) (x : Option Value) (hx : oC.data = .cell x) (hm : m' = hgF (some (.int (hgtTo ks cs r) t)) vt mB) (hn : n' = (ca, oC) :: R)
theorem hgt_step {k0 k1 k2 : Int} {t0 t1 t2 : Tok} {cs : List Int} {r n : Nat} (hr : r < 3) (hn : n = (fltV (fun k => decide ((k.fdiv (2 ^ (0 + ((0 + r : Nat) : Int)).toNat)).fmod 2 = 1)) [(k0, t0), (k1, t1), (k2, t2)]).length) :
    hgtTo [k0, k1, k2] cs r + (List.take (min (3 * (0 + ((0 + r : Nat) : Int)) + (n : Int)).toNat cs.length - (3 * (0 + ((0 + r : Nat) : Int))).toNat) (List.drop (3 * (0 + ((0 + r : Nat) : Int))).toNat cs)).sum = hgtTo [k0, k1, k2] cs (r + 1) := by
  have e : (0 + ((0 + r : Nat) : Int)).toNat = r := by omega
  rw [fltV_cnt, e] at hn
  have hc : n = cnt [k0, k1, k2] r := hn
  have e1 : (3 * (0 + ((0 + r : Nat) : Int))).toNat = 3 * r := by omega
  have e2 : (3 * (0 + ((0 + r : Nat) : Int)) + (n : Int)).toNat = 3 * r + n := by omega
  rw [e1, e2, hc]
  show _ = _ + ((cs.drop (3 * r)).take (cnt [k0, k1, k2] r)).sum
  congr 1
  by_cases hl : 3 * r + cnt [k0, k1, k2] r ≤ cs.length
  · rw [Nat.min_eq_left hl, Nat.add_sub_cancel_left]
  · rw [Nat.min_eq_right (by omega), List.take_of_length_le (by rw [List.length_drop]; omega), List.take_of_length_le (by rw [List.length_drop]; omega)]
theorem opqC {P : Prop} {h₀ h : Heap} {L : Addr} {c a b : Addr × Obj} (N : News h₀ L h [c, a, b]) (h1 : a.1 ≠ c.1) (h2 : b.1 ≠ c.1) (k : ∀ R : Led, News h₀ L h (c :: R) → a ∈ R → b ∈ R → (∀ p ∈ R, p.1 ≠ c.1) → P) : P :=
  k [a, b] N (.head _) (.tail _ (.head _)) (off_cons h1 (off_cons h2 (fun _ h => nomatch h)))
local macro_rules | `(tactic| walk_at "pyIter ref") => `(tactic| (k_here; refine HaltH.intro ?_))
local macro_rules | `(tactic| walk_at "CompEnd") => `(tactic| (refine HaltH.intro ?_))
local macro_rules | `(tactic| walk_at "UnrEndW") => `(tactic| (refine HaltH.intro ?_))
theorem height_ok {t0 t1 t2 : Tok} {k0 k1 k2 : Int} {c0 c1 c2 c3 c4 c5 c6 c7 c8 : Int} {s0 s1 s2 s3 s4 s5 s6 s7 s8 : Tok} {l lc : Addr} {nl nc : Nat} (C : Cx w mean mg mb dp un A₀ base outer h₀ L m s [(l, listOf #[.int k0 t0, .int k1 t1, .int k2 t2] nl), (lc, listOf #[.int c0 s0, .int c1 s1, .int c2 s2, .int c3 s3, .int c4 s4, .int c5 s5, .int c6 s6, .int c7 s7, .int c8 s8] nc)] 1)
   (ret : ∀ t h' tk', Fr h₀ L h' m → Keep [] s.heap h' → Q (.int (hgt [k0, k1, k2] [c0, c1, c2, c3, c4, c5, c6, c7, c8]) t) { s with heap := h', toks := tk' }) :
   wpAny (mdl w) (tp dp un gd cn nms ig ic mo L a ccd cl outer) (call (.ref 406) [.ref l, .ref lc]) Q E s := by
  ((have hfill : (PySem.Challenge.rw_xl0032_01 = PySem.Challenge.rw_xl0032_01 ∧ Mine.hd.heap_1 = Mine.hd.heap_1) := by (k_fill; exact ⟨rfl, rfl⟩)); clear hfill; (rename Cx _ _ _ _ _ _ _ _ _ _ _ _ _ _ _ => Cz9); obtain ⟨Bz9, Fz9, Xz9, Nz9, Tz9, hdz9, huz9⟩ := Cz9; refine wpAny_call ?_; w_strict (k_dflt (refine' code_defCM ?k1 ?k2 ?k3 ?k4 ?k5 ?kA ?kF ?kK ?k6 ?k7 ?k8 ?k9 ?kB ?kD ?_ ?c2 ?c3 ?c4; (case kA => exact rfl); (case kF => exact rfl); (case kK => exact rfl); (case k1 => k_asm); (case k2 => k_asm); (case k3 => k_asm); (case k4 => k_asm); (case k5 => k_asm); (case k6 => k_is); (case k7 => k_is); (case k8 => ktr_room); (case k9 => first | exact BindsTo.of_eq rfl | exact binds_K (by k_in) rfl (by k_is) rfl rfl rfl); (case kB => exact rfl); (case kD => decide +kernel); (case c2 => exact rfl); (case c3 => exact rfl); (case c4 => exact rfl); k_whole; intro gz9 Lz9 hz9 tkz9 cellz9 hGz9 FGz9 Fz8 Nz8 Yz8 Bz8 Xz8 Tz8 lz9; (try k_lt lz9); k_cells Yz8; (try simp only [List.cons_append, List.nil_append] at Nz8); (try dsimp only); (try k_lift Bz8); (try k_fold))))
  walk_at "tb.let"
  w_strict k_steps
  unfold HaltH
  rename Fr _ _ _ _ => lF
  rename News _ _ _ _ => lN
  rename IsRange _ _ _ _ _ _ _ _ => lR
  rename (_ < _ ∧ _) => hl
  rename (Obj.data _ = Data.cell _) => hd0
  refine opqC lN (Nat.ne_of_lt (Nat.lt_succ_of_lt hl.1)) (Nat.ne_of_lt (Nat.lt_succ_of_lt hl.2)) fun R NR ml mlc hRc => ?_
  obtain ⟨mB, F9, g1, g2⟩ : ∃ mB : Str → Option Value, Fr _ _ _ (fun y => if y = Str.ofString "height" then some (.int 0 _) else mB y) ∧ mB (Str.ofString "masks") = some (.ref l) ∧ mB (Str.ofString "costs") = some (.ref lc) := ⟨_, lF, by with_unfolding_all rfl, by with_unfolding_all rfl⟩
  rw [hg_m0] at F9
  clear lF lN hl
  refine iter_rangeTurns (n := 3) (by rfl) F9 NR lR (by decide) (by rfl) ?_
  clear NR lR F9
  intro I hI
  have hIc : I ≠ _ := (Nat.ne_of_lt (hI _ (.head _))).symm
  have hIR := lt_off (lt_tl hI)
  clear hI
  refine items_ind (xs := tokInts 0 0 3) (HgJ mB R _ [k0, k1, k2] [c0, c1, c2, c3, c4, c5, c6, c7, c8]) ?step ?fin 3 0 _ _ rfl ⟨_, _, _, _, hd0, rfl, rfl⟩
  case fin =>
    clear hd0
    intro m' news' h' tk' hJ F' N'
    rw [tokInts_length] at hJ
    obtain ⟨t, vt, oC, x, hx, rfl, rfl⟩ := hJ
    rw [hgtTo3] at F'
    w_strict k_steps
    exact ret _ _ _ (by assumption) (by tb_rel)
  case step =>
    clear hd0
    intro r itm m' news' v h' tk' hit hJ hv F'
    have hr : r < 3 := (List.getElem?_eq_some_iff.mp hit).1
    obtain rfl := Option.some.inj ((tokInts_get 0 3 0 r hr).symm.trans hit)
    obtain ⟨tv, rfl⟩ := hv
    obtain ⟨t, vt, oC, x, hx, rfl, rfl⟩ := hJ
    refine AllObj.cons fun oI hIc' => AllObj.nil fun N' => ?_
    simp only [List.cons_append, List.nil_append] at N'
    clear hit
    dsimp only
    dsimp only at hRc hIc
    w_strict k_steps
    unfold HaltH
    refine LCt.CompSrcT.ledger (by rfl) (by k_asm) (by k_asm) (by k_mem) (by exact Nat.le_of_ble_eq_true rfl) ?_
    intro g'
    refine compRestT_ind (n := 3) (G := fun i ys => ys = fltV (fun k => decide ((k.fdiv (2 ^ (0 + ((0 + r : Nat) : Int)).toNat)).fmod 2 = 1)) (List.take i [(k0, t0), (k1, t1), (k2, t2)])) ?_ ?_ 3 0 [] rfl rfl
    · intro i ys v I' oI' C' oC' D' m'' h' tk' E' hi' hG' hP' hC' hx' F' N' off' ne'
      obtain ⟨k', t', e', hsn⟩ := flt_at (l := [(k0, t0), (k1, t1), (k2, t2)]) (pz := fun k => decide ((k.fdiv (2 ^ (0 + ((0 + r : Nat) : Int)).toNat)).fmod 2 = 1)) rfl hP'
      clear hP'
      rw [e'] at hx'
      rw [← hG'] at hsn
      clear e' hG'
      w_strict k_steps
      · unfold HaltH
        exact ⟨_, _, _, rfl, by assumption, by assumption, off', .inr ⟨_, by k_mem, rfl, _, rfl⟩, rfl, (hsn.trans (if_pos (decide_eq_true (by assumption)))).symm⟩
      · unfold HaltH
        exact ⟨_, _, _, rfl, by assumption, by assumption, off', .inr ⟨_, by k_mem, rfl, _, rfl⟩, rfl, (hsn.trans (if_neg (Bool.eq_false_iff.mp (decide_eq_false (by assumption))))).symm⟩
    intro ys hG'
    rw [show ys = fltV (fun k => decide ((k.fdiv (2 ^ (0 + ((0 + r : Nat) : Int)).toNat)).fmod 2 = 1)) [(k0, t0), (k1, t1), (k2, t2)] from hG']
    w_strict k_steps
    unfold HaltH
    rename Fr _ _ _ _ => lF
    rename News _ _ _ _ => lN
    rename (_ = (fltV _ _).length) => hn
    rw [hg_m, hgt_step hr hn] at lF
    exact UnrEndW.of1 lF lN (by k_mem) (news' := (_, _) :: R) (by lcg_sub) (off_cons hIc.symm hIR) ⟨trivial, ⟨_, _, _, _, by assumption, rfl, rfl⟩⟩
end
end
section
open PySem PySem.W PyProof.Rows PySem.Calls
set_option maxRecDepth 100000
set_option maxHeartbeats 8000000
set_option autoImplicit false
/-- a tuple of a number, a text and a number -/
noncomputable def IsT3 (h : Heap) (a : Addr) (x : Int) (y : Str) (z : Int) : Prop := ∃ (o : Obj) (t u v : Tok) (n : Nat), h.get? a = some o ∧ o.cls = .type "tuple" ∧ o.data = .seq #[.int x t, .str y u, .int z v] n
noncomputable def lt3 (p q : Int × Str × Int) : Bool := if p.1 == q.1 then (if p.2.1 == q.2.1 then decide (p.2.2 < q.2.2) else decide (p.2.1.cps.toList < q.2.1.cps.toList)) else decide (p.1 < q.1)
section
variable {prog : Program} {w : World} {A : Around} {E : Value → Shared → Prop} {s : Shared}
theorem IsT3.typeIs {a : Addr} {x : Int} {y : Str} {z : Int} (h : IsT3 s.heap a x y z) : s.TypeIs (.ref a) "tuple" := by
  obtain ⟨o, t, u, v, n, ho, hc, hd⟩ := h
  exact ⟨o, ho, hc⟩
theorem tuple_lt_tree {a b : Addr} {p q : Int × Str × Int} {P : Fin → Shared → Prop} (hx : IsT3 s.heap a p.1 p.2.1 p.2.2) (hy : IsT3 s.heap b q.1 q.2.1 q.2.2) (h : P (.done (.ret (.bool (lt3 p q)))) s) :
    wpAny (model prog w) A (Builtin.«tuple.__lt__» ⟨[.ref a, .ref b], []⟩) P E s := by
  have hTb := hy.typeIs
  obtain ⟨oa, ta, ua, va, na, hoa, _, hda⟩ := hx
  obtain ⟨ob, tb, ub, vb, nb, hob, _, hdb⟩ := hy
  show wpAny _ _ (isInstance (.ref b) (.type "tuple") >>= _) _ _ s
  refine wpAny_bind (wpAny_isInstance hTb isSubtype_tuple_tuple ?_)
  simp only [Bool.not_true, Bool.false_eq_true, if_false]
  refine wpAny_bind (wpAny_tupleItemsOf hoa hda ?_)
  refine wpAny_bind (wpAny_tupleItemsOf hob hdb ?_)
  refine wpAny_bind ?_
  dsimp only [List.zip_cons_cons, List.zip_nil_left]
  show wpAny _ _ (forIn [((Value.int p.1 ta, Value.int q.1 tb) : Value × Value), (.str p.2.1 ua, .str q.2.1 ub), (.int p.2.2 va, .int q.2.2 vb)] _ _) _ _ s
  unfold lt3 at h
  rw [List.forIn_cons]
  refine wpAny_bind (wpAny_bind (wpAny_eqBool_int ?_))
  cases h1 : (p.1 == q.1) with
  | false =>
    rw [h1] at h
    simp only [Bool.not_false, if_true]
    simp only [Bool.false_eq_true, if_false] at h
    refine wpAny_bind (wpAny_rule (wpAny_bind (wpAny_lt_int ?_)))
    exact wpAny_bind (wpAny_pure (wpAny_pure (wpAny_pure (wpAny_pure h))))
  | true =>
    rw [h1] at h
    simp only [Bool.not_true, Bool.false_eq_true, if_false, if_true] at h ⊢
    refine wpAny_pure ?_
    dsimp only
    rw [List.forIn_cons]
    refine wpAny_bind (wpAny_bind (eqBool_str ?_))
    cases h2 : (p.2.1 == q.2.1) with
    | false =>
      rw [h2] at h
      simp only [Bool.not_false, if_true, Bool.false_eq_true, if_false] at h ⊢
      refine wpAny_bind (wpAny_rule (wpAny_bind (lt_str ?_)))
      exact wpAny_bind (wpAny_pure (wpAny_pure (wpAny_pure (wpAny_pure h))))
    | true =>
      rw [h2] at h
      simp only [Bool.not_true, Bool.false_eq_true, if_false, if_true] at h ⊢
      refine wpAny_pure ?_
      dsimp only
      rw [List.forIn_cons]
      refine wpAny_bind (wpAny_bind (wpAny_eqBool_int ?_))
      cases h3 : (p.2.2 == q.2.2) with
      | false =>
        simp only [Bool.not_false, if_true]
        refine wpAny_bind (wpAny_rule (wpAny_bind (wpAny_lt_int ?_)))
        exact wpAny_bind (wpAny_pure (wpAny_pure (wpAny_pure (wpAny_pure h))))
      | true =>
        have e3 : p.2.2 = q.2.2 := eq_of_beq h3
        simp only [Bool.not_true, Bool.false_eq_true, if_false]
        refine wpAny_pure ?_
        dsimp only
        rw [List.forIn_nil]
        refine wpAny_pure ?_
        have hd : decide (p.2.2 < q.2.2) = false := by rw [e3]; exact decide_eq_false (Int.lt_irrefl _)
        rw [hd] at h
        exact wpAny_pure h
theorem lt_t3 {a b : Addr} {p q : Int × Str × Int} {Q : Value → Shared → Prop} (hu : A.units < cLine) (hx : IsT3 s.heap a p.1 p.2.1 p.2.2) (hy : IsT3 s.heap b q.1 q.2.1 q.2.2) (h : Q (.bool (lt3 p q)) s) :
    wpAny (model prog w) A (richCompare .Lt (.ref a) (.ref b)) Q E s :=
  wpAny_richCompare_same_room (op := .Lt) hx.typeIs hy.typeIs F.slot_tuple_lt
    (wpAny_call_entry F.slot_tuple_lt hx.typeIs F.entry_tuple_lt (tuple_lt_tree hx hy ⟨_, rfl, (fun e => nomatch e), h⟩) (F.args_tuple_lt_2 _ _)) hu
end
section
variable {prog : Program} {w : World} {A : Around} {R : Result → Shared → Prop} {I : Addr} {fp wr : List Addr} {G : Array GenState → Array GenState → Prop} {n : Nat} {P : Nat → Value → Prop} {St : Nat → Shared → Prop}
theorem min_loopT (W : WalksS prog w A.in1 I fp wr G n P St) (bt : Nat → Nat → Bool) (hcmp : ∀ (k i j : Nat) (vi vj : Value) (s : Shared) (Q : Value → Shared → Prop) (E : Value → Shared → Prop), St k s → P i vi → P j vj → Q (.bool (bt i j)) s → wpAny (model prog w) A.in1 (richCompare .Lt vi vj) Q E s) (S : Addr) (hSf : S ∉ fp) :
    ∀ (k j : Nat) (s : Shared) (vb : Value) (c : Nat), n - (j + 1) = k → j + 1 ≤ n → St (j + 1) s → P (argBest bt j) vb →
    s.heap.get? S = some { cls := .type "list", dict := none, data := .seq #[vb, vb] c, slots := #[] } →
    (∀ v s', P (argBest bt (n - 1)) v → Moved (S :: wr) G s s' → R (.ok (.ret v)) s') → codeAny (model prog w) A (.builtin "min.loop" ⟨[.ref I, .none, .ref S], []⟩) R s := by
  have hSw : S ∉ wr := fun h => hSf (W.sub _ h)
  have hsub : ∀ b ∈ wr, b ∈ S :: wr := fun b hb => List.mem_cons_of_mem _ hb
  have hname : (toString "min" ++ toString ".loop" : String) = "min.loop" := by decide
  have notS : ∀ {b : Addr}, b ∉ S :: wr → S ≠ b := fun hb h => hb (by rw [h]; exact List.mem_cons_self)
  intro k
  induction k with
  | zero =>
    intro j s vb c hk hj hst hPb hS hR
    have hin : j + 1 = n := by omega
    refine codeAny_builtin F.entry_min_loop ?_
    rw [Around.under_plainId F.plain_min_loop _]
    show wpAny _ A.in1 (seqItems? (.ref S) >>= _) _ _ s
    refine wpAny_bind (wpAny_seqItems hS rfl ?_)
    show wpAny _ A.in1 (tryCatch (pyNext (.ref I)) _ >>= _) _ _ s
    refine wpAny_bind (wpAny_tryCatch (W.done s _ _ (hin ▸ hst) fun s' hm => ?_))
    have hS' := hm.heap S _ hSw hS
    show wpAny _ A.in1 (updateSeq S (fun _ => #[]) >>= _) _ _ _
    refine wpAny_bind ?_
    refine wpAny_updateSeq hS' rfl (wpAny_bind (wpAny_letGo (wpAny_pure ?_)))
    exact hR vb _ (by rw [← hin]; exact hPb) ((hm.mono hsub).then_heap (tk := s'.toks) (Nat.le_refl _) fun b o hb e => (Heap.get?_update_other _ _ (notS hb)).trans e)
  | succ k ih =>
    intro j s vb c hk hj hst hPb hS hR
    have hlt : j + 1 < n := by omega
    refine codeAny_builtin F.entry_min_loop ?_
    rw [Around.under_plainId F.plain_min_loop _]
    show wpAny _ A.in1 (seqItems? (.ref S) >>= _) _ _ s
    refine wpAny_bind (wpAny_seqItems hS rfl ?_)
    show wpAny _ A.in1 (tryCatch (pyNext (.ref I)) _ >>= _) _ _ s
    refine wpAny_bind (wpAny_tryCatch (W.item (j + 1) s _ _ hlt hst fun v s' hP hst' hm => ?_))
    have hS' := hm.heap S _ hSw hS
    show wpAny _ A.in1 (tryCatch (holding [v, v] (richCompare .Lt v vb >>= _)) _ >>= _) _ _ _
    refine wpAny_bind (wpAny_tryCatch (wpAny_holding (wpAny_bind (hcmp (j + 2) (j + 1) (argBest bt j) v vb _ _ _ hst' hP hPb ?_))))
    refine wpAny_bind (wpAny_holding (wpAny_truthy_bool ?_))
    refine wpAny_bind (wpAny_letGo (wpAny_pure ?_))
    cases hb : bt (j + 1) (argBest bt j) with
    | true =>
      simp only [if_true]
      refine wpAny_bind ?_
      refine wpAny_updateSeq hS' rfl (wpAny_bind (wpAny_letGo ?_))
      rw [hname]
      refine wpAny_pure ⟨plainId_quiet F.plain_min_loop _, ih (j + 1) _ v _ (by omega) hlt (W.frame _ s' _ s'.toks hst' (Nat.le_refl _) fun b hbf o e => ?_) (by simp only [argBest, hb, if_true]; exact hP) (Heap.get?_update_self _ hS' rfl)
        fun v' s'' hP' hm'' => ?_⟩
      · exact (Heap.get?_update_other _ _ (fun h : S = b => hSf (by rw [h]; exact hbf))).trans e
      · exact hR v' s'' hP' (Moved.trans W.gtrans ((hm.mono hsub).then_heap (by first | exact Nat.le_refl _ | exact Nat.le_succ _ | omega) fun b o hb e => (Heap.get?_update_other _ _ (notS hb)).trans e) hm'')
    | false =>
      simp only [Bool.false_eq_true, if_false]
      refine wpAny_bind (wpAny_letGo ?_)
      rw [hname]
      refine wpAny_pure ⟨plainId_quiet F.plain_min_loop _, ih (j + 1) _ vb c (by omega) hlt hst' (by simp only [argBest, hb, Bool.false_eq_true, if_false]; exact hPb) hS' fun v' s'' hP' hm'' => ?_⟩
      exact hR v' s'' hP' (Moved.trans W.gtrans (hm.mono hsub) hm'')

theorem min_loop_firstT (W : WalksS prog w A.in1 I fp wr G n P St) (bt : Nat → Nat → Bool) (hcmp : ∀ (k i j : Nat) (vi vj : Value) (s : Shared) (Q : Value → Shared → Prop) (E : Value → Shared → Prop), St k s → P i vi → P j vj → Q (.bool (bt i j)) s → wpAny (model prog w) A.in1 (richCompare .Lt vi vj) Q E s) (S : Addr) (hSf : S ∉ fp) (hn : 0 < n) {s : Shared} {c : Nat} (hst : St 0 s)
    (hS : s.heap.get? S = some { cls := .type "list", dict := none, data := .seq #[] c, slots := #[] })
    (hR : ∀ v s', P (argBest bt (n - 1)) v → Moved (S :: wr) G s s' → R (.ok (.ret v)) s') : codeAny (model prog w) A (.builtin "min.loop" ⟨[.ref I, .none, .ref S], []⟩) R s := by
  have hSw : S ∉ wr := fun h => hSf (W.sub _ h)
  have hsub : ∀ b ∈ wr, b ∈ S :: wr := fun b hb => List.mem_cons_of_mem _ hb
  have hname : (toString "min" ++ toString ".loop" : String) = "min.loop" := by decide
  have notS : ∀ {b : Addr}, b ∉ S :: wr → S ≠ b := fun hb h => hb (by rw [h]; exact List.mem_cons_self)
  refine codeAny_builtin F.entry_min_loop ?_
  rw [Around.under_plainId F.plain_min_loop _]
  show wpAny _ A.in1 (seqItems? (.ref S) >>= _) _ _ s
  refine wpAny_bind (wpAny_seqItems hS rfl ?_)
  show wpAny _ A.in1 (tryCatch (pyNext (.ref I)) _ >>= _) _ _ s
  refine wpAny_bind (wpAny_tryCatch (W.item 0 s _ _ hn hst fun v s' hP hst' hm => ?_))
  have hS' := hm.heap S _ hSw hS
  show wpAny _ A.in1 (updateSeq S (fun _ => #[v, v]) >>= _) _ _ _
  refine wpAny_bind ?_
  refine wpAny_updateSeq hS' rfl ?_
  rw [hname]
  refine wpAny_pure ⟨plainId_quiet F.plain_min_loop _, min_loopT W bt hcmp S hSf _ 0 _ v _ rfl hn (W.frame _ s' _ s'.toks hst' (Nat.le_refl _) fun b hbf o e => ?_) hP (Heap.get?_update_self _ hS' rfl) fun v' s'' hP' hm'' => ?_⟩
  · exact (Heap.get?_update_other _ _ (fun h : S = b => hSf (by rw [h]; exact hbf))).trans e
  · exact hR v' s'' hP' (Moved.trans W.gtrans ((hm.mono hsub).then_heap (by first | exact Nat.le_refl _ | exact Nat.le_succ _ | omega) fun b o hb e => (Heap.get?_update_other _ _ (notS hb)).trans e) hm'')
end
section
variable {prog : Program} {w : World} {A : Around} {E : Value → Shared → Prop} {s : Shared}
theorem call_minT {x : Value} {Q : Value → Shared → Prop}
    (h : wpAny (model prog w) A.in1 (pyIter x) (fun it s₂ => ∃ I fp wr G n P St bt, it = .ref I ∧ WalksS prog w A.in1 I fp wr G n P St ∧ St 0 s₂ ∧ (∀ b ∈ fp, b < s₂.heap.objs.size) ∧ 0 < n ∧ (∀ (k i j : Nat) (vi vj : Value) (s : Shared) (Q : Value → Shared → Prop) (E : Value → Shared → Prop), St k s → P i vi → P j vj → Q (.bool (bt i j)) s → wpAny (model prog w) A.in1 (richCompare .Lt vi vj) Q E s) ∧
      ∀ v s', P (argBest bt (n - 1)) v → Moved wr G s₂ s' → Q v s') E s) :
    wpAny (model prog w) A (call (.builtin "min") [x]) Q E s := by
  have hname : (toString "min" ++ toString ".loop" : String) = "min.loop" := by decide
  refine call_function_tree F.kind_min F.plain_min F.entry_min (F.args_min1 _) ?_
  show wpAny _ A.in1 (Builtin.Builtins.bindParams "min" ["key", "default"] 0 ⟨[], []⟩ >>= _) _ _ s
  refine wpAny_bind (wpAny_of_eq (show Builtin.Builtins.bindParams "min" ["key", "default"] 0 ⟨[], []⟩ = pure [none, none] from rfl) ?_)
  refine wpAny_bind (wpAny_pure ?_)
  refine wpAny_bind (wpAny_mono h (fun it s₂ h₂ => ?_) fun _ _ e => e)
  obtain ⟨I, fp, wr, G, n, P, St, bt, rfl, W, hst, hfp, hn, hcmp, hQ⟩ := h₂
  refine wpAny_bind (wpAny_newObj_type ?_)
  have hSf : s₂.heap.objs.size ∉ fp := fun hm => Nat.lt_irrefl _ (hfp _ hm)
  rw [hname]
  refine wpAny_pure ⟨plainId_quiet F.plain_min_loop _, min_loop_firstT W bt hcmp s₂.heap.objs.size hSf hn (W.frame 0 s₂ _ s₂.toks hst (Nat.le_refl _) fun b _ o e => Heap.get?_push_of_some _ e) (Heap.get?_push_size _ rfl) fun v s' hP hm => ?_⟩
  exact hQ v s' hP (Moved.drop_new (tk := s₂.toks) hm (Nat.le_refl _))
end
section
variable {prog : Program} {w : World} {A : Around} {E : Value → Shared → Prop} {s : Shared} {h₀ : Heap} {L : Addr} {m : Str → Option Value}
theorem withLed {I : Addr} {fp : List Addr} {n : Nat} {P : Nat → Value → Prop} {St : Nat → Heap → Prop} (W : Walks prog w A I fp [I] n P St) (led : Led) (hI : ∀ p ∈ led, p.1 ≠ I) :
    Walks prog w A I (fp ++ led.map (·.1)) [I] n P (fun i h => St i h ∧ ∀ p ∈ led, h.get? p.1 = some p.2) where
  sub := fun b hb => List.mem_append_left _ (W.sub b hb)
  frame := fun i h h' st hk => ⟨W.frame i h h' st.1 fun b hb o e => hk b (List.mem_append_left _ hb) o e, fun p hp => hk p.1 (List.mem_append_right _ (List.mem_map_of_mem hp)) p.2 (st.2 p hp)⟩
  item := fun i s Q E hi st hQ => W.item i s Q E hi st.1 fun v h' tk hP st' hk => hQ v h' tk hP ⟨st', fun p hp => hk p.1 p.2 (fun hm => hI p hp (List.mem_singleton.mp hm)) (st.2 p hp)⟩ hk
  done := fun s Q E st hQ => W.done s Q E st.1 hQ
  self := fun i s Q E st hQ => W.self i s Q E st.1 hQ
noncomputable abbrev tup3 (x : Int) (t : Tok) (y : Str) (u : Tok) (z : Int) (v : Tok) : Obj := { cls := .type "tuple", data := .seq #[.int x t, .str y u, .int z v] }
/-- which of three is least, the first of those as small -/
noncomputable def best3 (k0 k1 k2 : Int × Str × Int) : Nat :=
  if lt3 k1 k0 then (if lt3 k2 k1 then 2 else 1) else (if lt3 k2 k0 then 2 else 0)
theorem min_T3 {l T0 T1 T2 : Addr} {n : Nat} {x0 x1 x2 z0 z1 z2 : Int} {y0 y1 y2 : Str} {a0 a1 a2 b0 b1 b2 c0 c1 c2 : Tok} {news : Led} {Q : Value → Shared → Prop} (hh : A.handled = none) (hu : A.in1.units < cLine)
    (F : Fr h₀ L s.heap m) (N : News h₀ L s.heap news) (hl : (l, listOf #[.ref T0, .ref T1, .ref T2] n) ∈ news)
    (h0 : (T0, tup3 x0 a0 y0 b0 z0 c0) ∈ news) (h1 : (T1, tup3 x1 a1 y1 b1 z1 c1) ∈ news) (h2 : (T2, tup3 x2 a2 y2 b2 z2 c2) ∈ news)
    (q0 : best3 (x0, y0, z0) (x1, y1, z1) (x2, y2, z2) = 0 → ∀ h' tk, Fr h₀ L h' m → News h₀ L h' news → Q (.ref T0) { s with heap := h', toks := tk })
    (q1 : best3 (x0, y0, z0) (x1, y1, z1) (x2, y2, z2) = 1 → ∀ h' tk, Fr h₀ L h' m → News h₀ L h' news → Q (.ref T1) { s with heap := h', toks := tk })
    (q2 : best3 (x0, y0, z0) (x1, y1, z1) (x2, y2, z2) = 2 → ∀ h' tk, Fr h₀ L h' m → News h₀ L h' news → Q (.ref T2) { s with heap := h', toks := tk }) :
    wpAny (model prog w) A (call (.builtin "min") [.ref l]) Q E s := by
  refine call_minT ?_
  have hlist : s.heap.IsList l #[.ref T0, .ref T1, .ref T2] := News.isList N hl
  refine wpAny_pyIter_list hlist ?_
  have up : ∀ b o, s.heap.get? b = some o → (s.heap.push { cls := .type "list_iterator", data := .fields #[.ref l, .int 0 0] }).get? b = some o := fun b o e => Heap.get?_push_of_some _ e
  have lt : ∀ {b : Addr} {o : Obj}, (b, o) ∈ news → b < s.heap.objs.size := fun hm => Heap.lt_size (N _ hm).1
  let K : Nat → Int × Str × Int := fun i => match i with | 0 => (x0, y0, z0) | 1 => (x1, y1, z1) | _ => (x2, y2, z2)
  let led : Led := [(T0, tup3 x0 a0 y0 b0 z0 c0), (T1, tup3 x1 a1 y1 b1 z1 c1), (T2, tup3 x2 a2 y2 b2 z2 c2)]
  have hled : ∀ p ∈ led, p ∈ news := fun p hp => by
    rcases List.mem_cons.mp hp with rfl | hp
    · exact h0
    rcases List.mem_cons.mp hp with rfl | hp
    · exact h1
    rw [List.mem_singleton.mp hp]; exact h2
  have W := withLed (Walks.list (prog := prog) (w := w) (A := A.in1) hh s.heap.objs.size l (Nat.ne_of_lt (lt hl)) #[.ref T0, .ref T1, .ref T2]) led (fun p hp => Nat.ne_of_lt (lt (hled p hp)))
  have key : ∀ i v (h : Heap), (#[Value.ref T0, .ref T1, .ref T2] : Array Value)[i]? = some v → (∀ p ∈ led, h.get? p.1 = some p.2) → ∃ a, v = .ref a ∧ IsT3 h a (K i).1 (K i).2.1 (K i).2.2 := by
    intro i v h hv hg
    match i, hv with
    | 0, hv => cases hv; exact ⟨T0, rfl, _, _, _, _, _, hg _ (List.mem_cons_self ..), rfl, rfl⟩
    | 1, hv => cases hv; exact ⟨T1, rfl, _, _, _, _, _, hg _ (List.mem_cons_of_mem _ (List.mem_cons_self ..)), rfl, rfl⟩
    | 2, hv => cases hv; exact ⟨T2, rfl, _, _, _, _, _, hg _ (List.mem_cons_of_mem _ (List.mem_cons_of_mem _ (List.mem_cons_self ..))), rfl, rfl⟩
    | i + 3, hv => cases hv
  refine ⟨s.heap.objs.size, _, _, _, 3, _, _, fun i j => lt3 (K i) (K j), rfl, W.toS, ⟨⟨⟨_, Heap.get?_push_size _ rfl, rfl, rfl⟩, hlist.push _⟩, fun p hp => up _ _ (N _ (hled p hp)).1⟩, fun b hb => ?_, by decide, fun k i j vi vj s' Q' E' st hi hj hq => ?_, fun v s' hv hm => ?_⟩
  · show b < (s.heap.push _).objs.size
    rw [Heap.size_push]
    rcases List.mem_append.mp hb with hb | hb
    · rcases List.mem_cons.mp hb with rfl | hb
      · exact Nat.lt_succ_self _
      · rw [List.mem_singleton.mp hb]; exact Nat.lt_succ_of_lt (lt hl)
    · obtain ⟨p, hp, rfl⟩ := List.mem_map.mp hb
      exact Nat.lt_succ_of_lt (lt (hled p hp))
  · obtain ⟨a, rfl, ha⟩ := key i vi s'.heap hi st.2
    obtain ⟨b, rfl, hb⟩ := key j vj s'.heap hj st.2
    exact lt_t3 hu ha hb hq
  · have hk : ∀ b o, b ∉ [s.heap.objs.size] → (s.heap.push { cls := .type "list_iterator", data := .fields #[.ref l, .int 0 0] }).get? b = some o → s'.heap.get? b = some o := hm.heap
    have up' : ∀ b o, s.heap.get? b = some o → s'.heap.get? b = some o := fun b o e => hk b o (fun hb => Nat.lt_irrefl _ ((List.mem_singleton.mp hb) ▸ Heap.lt_size e)) (up b o e)
    have F' : Fr h₀ L s'.heap m := F.keeps up'
    have N' : News h₀ L s'.heap news := N.grown up'
    have es : s' = { s with heap := s'.heap, toks := s'.toks } := by
      have e1 := hm.gens; have e2 := hm.drawn; have e3 := hm.os
      obtain ⟨hp, gn, dr, tk, os⟩ := s'
      simp only at e1 e2 e3 ⊢
      rw [e1, e2, e3]
    rw [es]
    have hb : argBest (fun i j => lt3 (K i) (K j)) (3 - 1) = best3 (x0, y0, z0) (x1, y1, z1) (x2, y2, z2) := by
      show (if lt3 (K 2) (K (if lt3 (K 1) (K 0) then 1 else 0)) then 2 else (if lt3 (K 1) (K 0) then 1 else 0)) = best3 (K 0) (K 1) (K 2)
      unfold best3
      cases lt3 (K 1) (K 0)
      · simp only [Bool.false_eq_true, if_false]
      · simp only [if_true]
    rw [hb] at hv
    have h3 : best3 (x0, y0, z0) (x1, y1, z1) (x2, y2, z2) = 0 ∨ best3 (x0, y0, z0) (x1, y1, z1) (x2, y2, z2) = 1 ∨ best3 (x0, y0, z0) (x1, y1, z1) (x2, y2, z2) = 2 := by
      unfold best3; repeat' split
      all_goals simp
    rcases h3 with e | e | e
    · rw [e] at hv; cases hv; exact q0 e _ _ F' N'
    · rw [e] at hv; cases hv; exact q1 e _ _ F' N'
    · rw [e] at hv; cases hv; exact q2 e _ _ F' N'
end
end
section
open PySem PySem.W PyProof.Rows
set_option autoImplicit false
/-- where the reckoning by the one number stands -/
structure SlSt where
  k0 : Int
  k1 : Int
  k2 : Int
  kept : Nat
  steps : List Str
noncomputable def SlSt.mk' (σ : SlSt) (wh : Nat) (x : Int) : List Int := match wh with | 0 => [x, σ.k1, σ.k2] | 1 => [σ.k0, x, σ.k2] | _ => [σ.k0, σ.k1, x]
noncomputable def SlSt.at (σ : SlSt) (wh : Nat) : Int := match wh with | 0 => σ.k0 | 1 => σ.k1 | _ => σ.k2
/-- what a way is weighed by: the one number, the writing, the way -/
noncomputable def slKey (cs : List Int) (tell : Int → Str) (σ : SlSt) (wh : Nat) (x : Int) : Int × Str × Int := (hgt (σ.mk' wh x) cs, tell x, x)
noncomputable def slPick (cs : List Int) (tell : Int → Str) (ch : Nat → Nat → Int) (σ : SlSt) (wh : Nat) : Int :=
  ch wh (best3 (slKey cs tell σ wh (ch wh 0)) (slKey cs tell σ wh (ch wh 1)) (slKey cs tell σ wh (ch wh 2)))
noncomputable def slPut (σ : SlSt) (wh : Nat) (x : Int) (y : Str) : SlSt :=
  { k0 := if wh = 0 then x else σ.k0, k1 := if wh = 1 then x else σ.k1, k2 := if wh = 0 then σ.k2 else if wh = 1 then σ.k2 else x,
    kept := if x = σ.at wh then σ.kept + 1 else 0, steps := σ.steps ++ [y] }
/-- one turn -/
noncomputable def slTurn (cs : List Int) (tell : Int → Str) (ch : Nat → Nat → Int) (σ : SlSt) : SlSt :=
  slPut σ (σ.steps.length % 3) (slPick cs tell ch σ (σ.steps.length % 3)) (tell (slPick cs tell ch σ (σ.steps.length % 3)))
noncomputable def slIter (cs : List Int) (tell : Int → Str) (ch : Nat → Nat → Int) (σ : SlSt) : Nat → SlSt
  | 0 => σ
  | n + 1 => slTurn cs tell ch (slIter cs tell ch σ n)
theorem slIter_len (cs : List Int) (tell : Int → Str) (ch : Nat → Nat → Int) (σ : SlSt) : ∀ n, (slIter cs tell ch σ n).steps.length = σ.steps.length + n
  | 0 => rfl
  | n + 1 => by
    show ((slIter cs tell ch σ n).steps ++ [_]).length = _
    rw [List.length_append, slIter_len cs tell ch σ n]; rfl
end
section
open PySem PySem.W PyProof.Rows
set_option autoImplicit false
noncomputable abbrev sLt (x y : Str) : Prop := x.cps.toList < y.cps.toList
theorem sLt_irr (x : Str) : ¬ sLt x x := List.lt_irrefl _
theorem sLt_trans {x y z : Str} (h : sLt x y) (h' : sLt y z) : sLt x z := List.lt_trans h h'
theorem sLt_tri {x y : Str} (h : x ≠ y) : sLt x y ∨ sLt y x := by
  have h1 : x.cps.toList ≠ y.cps.toList := fun e => h (by cases x; cases y; congr; exact Array.toList_inj.mp e)
  by_cases a : sLt x y
  · exact .inl a
  · have b : y.cps.toList ≤ x.cps.toList := List.not_lt.mp a
    rcases List.le_iff_lt_or_eq.mp b with c | c
    · exact .inr c
    · exact absurd c.symm h1
/-- where the players' own reckoning stands: the table's ways in order, and the rest -/
structure EaSt where
  w0 : Str
  w1 : Str
  w2 : Str
  kept : Nat
  gained : Int
  steps : List Str
noncomputable def eaAdd (c : Int) (b : Bool) (x : Int) : Int := if b then c + x else c
noncomputable def oN (b1 b2 : Bool) : Nat := (if b1 then 1 else 0) + (if b2 then 1 else 0)
noncomputable def eaCost (cs : List Int) (h0 h1 h2 : Bool) (o0 o1 o2 : Nat) : Int := eaAdd (eaAdd (eaAdd 0 h0 (cs.getD (3 * 0 + o0) 0)) h1 (cs.getD (3 * 1 + o1) 0)) h2 (cs.getD (3 * 2 + o2) 0)
noncomputable def eaBest1 (b : Int × Str) (c : Int) (y : Str) : Int × Str := if c < b.1 ∨ (c = b.1 ∧ sLt y b.2) then (c, y) else b
noncomputable def eaBest (c0 c1 c2 : Int) (y0 y1 y2 : Str) : Int × Str := eaBest1 (eaBest1 (c0, y0) c1 y1) c2 y2
noncomputable def eaPaid1 (p : Int) (y now : Str) (c : Int) : Int := if y = now then c else p
noncomputable def eaPaid (c0 c1 c2 : Int) (y0 y1 y2 now : Str) : Int := eaPaid1 (eaPaid1 (eaPaid1 0 y0 now c0) y1 now c1) y2 now c2
noncomputable def EaSt.o (ms : Nat → Str) (e : EaSt) (r : Nat) : Nat := oN (hasT e.w1 (ms r)) (hasT e.w2 (ms r))
noncomputable def EaSt.c (cs : List Int) (ms : Nat → Str) (e : EaSt) (y : Str) : Int := eaCost cs (hasT y (ms 0)) (hasT y (ms 1)) (hasT y (ms 2)) (e.o ms 0) (e.o ms 1) (e.o ms 2)
noncomputable def eaPut (e : EaSt) (paid : Int) (b : Int × Str) : EaSt :=
  { w0 := e.w1, w1 := e.w2, w2 := b.2, kept := if e.w0 = b.2 then e.kept + 1 else 0, gained := e.gained + (paid - b.1), steps := e.steps ++ [b.2] }
noncomputable def eaTurn (cs : List Int) (ms : Nat → Str) (y0 y1 y2 : Str) (e : EaSt) : EaSt :=
  eaPut e (eaPaid (e.c cs ms y0) (e.c cs ms y1) (e.c cs ms y2) y0 y1 y2 e.w0) (eaBest (e.c cs ms y0) (e.c cs ms y1) (e.c cs ms y2) y0 y1 y2)
/-- the one number, road by road -/
theorem take_one (l : List Int) (n : Nat) (b : Bool) : (l.take ((if b then 1 else 0) + n)).sum = (l.take n).sum + (if b then l.getD n 0 else 0) := by
  cases b
  · simp
  · simp only [if_true]
    rw [Nat.add_comm, List.take_add_one, List.sum_append, List.getD_eq_getElem?_getD]
    cases l[n]? <;> simp
noncomputable def bN (k : Int) (r : Nat) : Nat := if bitP k r then 1 else 0
theorem cnt3 (a b c : Int) (r : Nat) : cnt [a, b, c] r = bN a r + (bN b r + bN c r) := by
  unfold cnt bN
  cases h1 : bitP a r <;> cases h2 : bitP b r <;> cases h3 : bitP c r <;> simp [List.filter_cons, h1, h2, h3]
noncomputable def eaC (cs : List Int) (a b x : Int) : Int := eaCost cs (bitP x 0) (bitP x 1) (bitP x 2) (oN (bitP a 0) (bitP b 0)) (oN (bitP a 1) (bitP b 1)) (oN (bitP a 2) (bitP b 2))
noncomputable def hgtB (cs : List Int) (a b : Int) : Int := ((cs.drop 0).take (bN a 0 + bN b 0)).sum + ((cs.drop 3).take (bN a 1 + bN b 1)).sum + ((cs.drop 6).take (bN a 2 + bN b 2)).sum
theorem drop_getD (l : List Int) (k n : Nat) : (l.drop k).getD n 0 = l.getD (k + n) 0 := by
  simp [List.getD_eq_getElem?_getD]
theorem hgt_of (cs : List Int) (l : List Int) (x a b : Int) (h : ∀ r, cnt l r = bN x r + (bN a r + bN b r)) : hgt l cs = hgtB cs a b + eaC cs a b x := by
  unfold hgt hgtB eaC eaCost
  rw [h 0, h 1, h 2]
  simp only [Nat.mul_zero, Nat.zero_add, Nat.mul_one, Nat.reduceMul]
  have e : ∀ r, bN x r = (if bitP x r then 1 else 0) := fun _ => rfl
  rw [e 0, e 1, e 2, take_one, take_one, take_one, drop_getD, drop_getD, drop_getD, Nat.zero_add]
  have e2 : ∀ r, oN (bitP a r) (bitP b r) = bN a r + bN b r := fun _ => rfl
  rw [e2 0, e2 1, e2 2]
  unfold eaAdd
  cases bitP x 0 <;> cases bitP x 1 <;> cases bitP x 2 <;> simp <;> omega
theorem hgt0 (cs : List Int) (x a b : Int) : hgt [x, a, b] cs = hgtB cs a b + eaC cs a b x := hgt_of cs _ x a b fun r => cnt3 ..
theorem hgt1 (cs : List Int) (x a b : Int) : hgt [b, x, a] cs = hgtB cs a b + eaC cs a b x := hgt_of cs _ x a b fun r => by rw [cnt3]; omega
theorem hgt2 (cs : List Int) (x a b : Int) : hgt [a, b, x] cs = hgtB cs a b + eaC cs a b x := hgt_of cs _ x a b fun r => by rw [cnt3]; omega
-- which of three is least
noncomputable def Lt3 (p q : Int × Str × Int) : Prop := p.1 < q.1 ∨ (p.1 = q.1 ∧ (sLt p.2.1 q.2.1 ∨ (p.2.1 = q.2.1 ∧ p.2.2 < q.2.2)))
theorem lt3_iff (p q : Int × Str × Int) : lt3 p q = true ↔ Lt3 p q := by
  unfold lt3 Lt3
  by_cases h1 : p.1 = q.1
  · by_cases h2 : p.2.1 = q.2.1
    · have hi : ¬ sLt p.2.1 q.2.1 := h2 ▸ sLt_irr _
      simp [h1, h2]
      exact fun h => absurd h (List.lt_irrefl _)
    · simp [h1, h2]
  · simp [h1]
theorem Lt3.irr {p : Int × Str × Int} : ¬ Lt3 p p := by
  rintro (h | ⟨_, h | ⟨_, h⟩⟩)
  · omega
  · exact sLt_irr _ h
  · omega
theorem Lt3.trans {p q r : Int × Str × Int} (h : Lt3 p q) (h' : Lt3 q r) : Lt3 p r := by
  rcases h with h | ⟨e, h⟩
  · rcases h' with h' | ⟨e', h'⟩
    · exact .inl (by omega)
    · exact .inl (by omega)
  · rcases h' with h' | ⟨e', h'⟩
    · exact .inl (by omega)
    · refine .inr ⟨by omega, ?_⟩
      rcases h with h | ⟨e2, h⟩
      · rcases h' with h' | ⟨e2', h'⟩
        · exact .inl (sLt_trans h h')
        · exact .inl (e2' ▸ h)
      · rcases h' with h' | ⟨e2', h'⟩
        · exact .inl (e2 ▸ h')
        · exact .inr ⟨e2.trans e2', by omega⟩
theorem Lt3.tri {p q : Int × Str × Int} (h : p ≠ q) : Lt3 p q ∨ Lt3 q p := by
  by_cases h1 : p.1 = q.1
  · by_cases h2 : p.2.1 = q.2.1
    · have h3 : p.2.2 ≠ q.2.2 := fun e => h (Prod.ext h1 (Prod.ext h2 e))
      rcases Int.lt_or_gt_of_ne h3 with x | x
      · exact .inl (.inr ⟨h1, .inr ⟨h2, x⟩⟩)
      · exact .inr (.inr ⟨h1.symm, .inr ⟨h2.symm, x⟩⟩)
    · rcases sLt_tri h2 with x | x
      · exact .inl (.inr ⟨h1, .inl x⟩)
      · exact .inr (.inr ⟨h1.symm, .inl x⟩)
  · rcases Int.lt_or_gt_of_ne h1 with x | x
    · exact .inl (.inl x)
    · exact .inr (.inl x)
noncomputable def sel3 {α : Type} (i : Nat) (a b c : α) : α := match i with | 0 => a | 1 => b | _ => c
theorem best3_le (k0 k1 k2 : Int × Str × Int) : ¬ Lt3 k0 (sel3 (best3 k0 k1 k2) k0 k1 k2) ∧ ¬ Lt3 k1 (sel3 (best3 k0 k1 k2) k0 k1 k2) ∧ ¬ Lt3 k2 (sel3 (best3 k0 k1 k2) k0 k1 k2) := by
  have e10 := lt3_iff k1 k0; have e21 := lt3_iff k2 k1; have e20 := lt3_iff k2 k0
  unfold best3
  by_cases h1 : lt3 k1 k0 = true
  · rw [if_pos h1]
    by_cases h2 : lt3 k2 k1 = true
    · rw [if_pos h2]
      exact ⟨fun x => Lt3.irr (x.trans ((e21.mp h2).trans (e10.mp h1))), fun x => Lt3.irr (x.trans (e21.mp h2)), Lt3.irr⟩
    · rw [if_neg h2]
      exact ⟨fun x => Lt3.irr (x.trans (e10.mp h1)), Lt3.irr, fun x => h2 (e21.mpr x)⟩
  · rw [if_neg h1]
    by_cases h2 : lt3 k2 k0 = true
    · rw [if_pos h2]
      exact ⟨fun x => Lt3.irr (x.trans (e20.mp h2)), fun x => h1 (e10.mpr (x.trans (e20.mp h2))), Lt3.irr⟩
    · rw [if_neg h2]
      exact ⟨Lt3.irr, fun x => h1 (e10.mpr x), fun x => h2 (e20.mpr x)⟩
theorem best3_lt (k0 k1 k2 : Int × Str × Int) : best3 k0 k1 k2 < 3 := by unfold best3; repeat' split
                                                                         all_goals decide
noncomputable def Msk (k : Int) : Prop := 1 ≤ k ∧ k ≤ 7
structure Ok (tell : Int → Str) (ch : Nat → Nat → Int) (ms : Nat → Str) : Prop where
  rng : ∀ p j, p < 3 → j < 3 → Msk (ch p j)
  inj : ∀ a b, Msk a → Msk b → tell a = tell b → a = b
  has : ∀ a r, Msk a → r < 3 → hasT (tell a) (ms r) = bitP a r
/-- the least by cost and writing is the least by the one number, the writing and the way -/
theorem best_same {tell : Int → Str} (inj : ∀ a b, Msk a → Msk b → tell a = tell b → a = b) {H c0 c1 c2 : Int} {d0 d1 d2 : Int} (m0 : Msk d0) (m1 : Msk d1) (m2 : Msk d2) :
    eaBest c0 c1 c2 (tell d0) (tell d1) (tell d2) = sel3 (best3 (H + c0, tell d0, d0) (H + c1, tell d1, d1) (H + c2, tell d2, d2)) (c0, tell d0) (c1, tell d1) (c2, tell d2) := by
  have key : ∀ c c' d d', Msk d → Msk d' → (lt3 (H + c, tell d, d) (H + c', tell d', d') = true ↔ (c < c' ∨ (c = c' ∧ sLt (tell d) (tell d')))) := by
    intro c c' d d' h h'
    rw [lt3_iff]
    unfold Lt3
    dsimp only
    constructor
    · rintro (x | ⟨e, x | ⟨e2, x⟩⟩)
      · exact .inl (by omega)
      · exact .inr ⟨by omega, x⟩
      · have := inj d d' h h' e2; omega
    · rintro (x | ⟨e, x⟩)
      · exact .inl (by omega)
      · exact .inr ⟨by omega, .inl x⟩
  unfold eaBest eaBest1 best3
  by_cases h1 : lt3 (H + c1, tell d1, d1) (H + c0, tell d0, d0) = true
  · rw [if_pos h1]
    simp only [if_pos ((key _ _ _ _ m1 m0).mp h1)]
    by_cases h2 : lt3 (H + c2, tell d2, d2) (H + c1, tell d1, d1) = true
    · rw [if_pos h2, if_pos ((key _ _ _ _ m2 m1).mp h2)]; rfl
    · rw [if_neg h2, if_neg (fun x => h2 ((key _ _ _ _ m2 m1).mpr x))]; rfl
  · rw [if_neg h1]
    simp only [if_neg (fun x => h1 ((key _ _ _ _ m1 m0).mpr x))]
    by_cases h2 : lt3 (H + c2, tell d2, d2) (H + c0, tell d0, d0) = true
    · rw [if_pos h2, if_pos ((key _ _ _ _ m2 m0).mp h2)]; rfl
    · rw [if_neg h2, if_neg (fun x => h2 ((key _ _ _ _ m2 m0).mpr x))]; rfl
theorem paid_same {tell : Int → Str} (inj : ∀ a b, Msk a → Msk b → tell a = tell b → a = b) (f : Int → Int) {d0 d1 d2 x : Int} (m0 : Msk d0) (m1 : Msk d1) (m2 : Msk d2) (mx : Msk x) (hx : x = d0 ∨ x = d1 ∨ x = d2) :
    eaPaid (f d0) (f d1) (f d2) (tell d0) (tell d1) (tell d2) (tell x) = f x := by
  have key : ∀ d, Msk d → (tell d = tell x ↔ d = x) := fun d hd => ⟨fun e => inj d x hd mx e, fun e => e ▸ rfl⟩
  unfold eaPaid eaPaid1
  simp only [key d0 m0, key d1 m1, key d2 m2]
  by_cases e2 : d2 = x
  · rw [if_pos e2, e2]
  · rw [if_neg e2]
    by_cases e1 : d1 = x
    · rw [if_pos e1, e1]
    · rw [if_neg e1]
      have e0 : d0 = x := by rcases hx with h | h | h
                             · exact h.symm
                             · exact absurd h.symm e1
                             · exact absurd h.symm e2
      rw [if_pos e0, e0]
/-- one player's turn, the other two's masks being a and b -/
theorem player {tell : Int → Str} {ch : Nat → Nat → Int} {ms : Nat → Str} (O : Ok tell ch ms) (cs : List Int) {p : Nat} (hp : p < 3) {x a b : Int} (hx : ∃ j, j < 3 ∧ x = ch p j) (ha : Msk a) (hb : Msk b) (e : EaSt) (h0 : e.w0 = tell x) (h1 : e.w1 = tell a) (h2 : e.w2 = tell b) (key : Int → Int × Str × Int) (hk : ∀ d, key d = (hgtB cs a b + eaC cs a b d, tell d, d)) :
    eaTurn cs ms (tell (ch p 0)) (tell (ch p 1)) (tell (ch p 2)) e = eaPut e (eaC cs a b x) (eaC cs a b (ch p (best3 (key (ch p 0)) (key (ch p 1)) (key (ch p 2)))), tell (ch p (best3 (key (ch p 0)) (key (ch p 1)) (key (ch p 2))))) := by
  have m : ∀ j, j < 3 → Msk (ch p j) := fun j hj => O.rng p j hp hj
  have mx : Msk x := by obtain ⟨j, hj, rfl⟩ := hx; exact m j hj
  have hx' : x = ch p 0 ∨ x = ch p 1 ∨ x = ch p 2 := by
    obtain ⟨j, hj, rfl⟩ := hx
    rcases (by omega : j = 0 ∨ j = 1 ∨ j = 2) with rfl | rfl | rfl
    · exact .inl rfl
    · exact .inr (.inl rfl)
    · exact .inr (.inr rfl)
  have hc : ∀ d, Msk d → e.c cs ms (tell d) = eaC cs a b d := by
    intro d hd
    unfold EaSt.c EaSt.o eaC
    rw [h1, h2, O.has d 0 hd (by decide), O.has d 1 hd (by decide), O.has d 2 hd (by decide), O.has a 0 ha (by decide), O.has a 1 ha (by decide), O.has a 2 ha (by decide), O.has b 0 hb (by decide), O.has b 1 hb (by decide), O.has b 2 hb (by decide)]
  unfold eaTurn
  rw [hc _ (m 0 (by decide)), hc _ (m 1 (by decide)), hc _ (m 2 (by decide)), h0, paid_same O.inj (eaC cs a b) (m 0 (by decide)) (m 1 (by decide)) (m 2 (by decide)) mx hx', best_same O.inj (H := hgtB cs a b) (m 0 (by decide)) (m 1 (by decide)) (m 2 (by decide)), hk, hk, hk]
  have hi := best3_lt (hgtB cs a b + eaC cs a b (ch p 0), tell (ch p 0), ch p 0) (hgtB cs a b + eaC cs a b (ch p 1), tell (ch p 1), ch p 1) (hgtB cs a b + eaC cs a b (ch p 2), tell (ch p 2), ch p 2)
  revert hi
  generalize best3 _ _ _ = i
  intro hi
  rcases (by omega : i = 0 ∨ i = 1 ∨ i = 2) with rfl | rfl | rfl <;> rfl
end
section
open PySem PySem.W PyProof.Rows
set_option autoImplicit false
section
variable {tell : Int → Str} {ch : Nat → Nat → Int} {ms : Nat → Str} {cs : List Int}
/-- each way of the state is one of the player's three -/
structure InCh (ch : Nat → Nat → Int) (σ : SlSt) : Prop where
  c0 : ∃ j, j < 3 ∧ σ.k0 = ch 0 j
  c1 : ∃ j, j < 3 ∧ σ.k1 = ch 1 j
  c2 : ∃ j, j < 3 ∧ σ.k2 = ch 2 j
structure Rel (cs : List Int) (tell : Int → Str) (ch : Nat → Nat → Int) (h0 : Int) (e : EaSt) (σ : SlSt) : Prop where
  kept : e.kept = σ.kept
  steps : e.steps = σ.steps
  gain : e.gained = h0 - hgt [σ.k0, σ.k1, σ.k2] cs
  ways0 : σ.steps.length % 3 = 0 → e.w0 = tell σ.k0 ∧ e.w1 = tell σ.k1 ∧ e.w2 = tell σ.k2
  ways1 : σ.steps.length % 3 = 1 → e.w0 = tell σ.k1 ∧ e.w1 = tell σ.k2 ∧ e.w2 = tell σ.k0
  ways2 : σ.steps.length % 3 = 2 → e.w0 = tell σ.k2 ∧ e.w1 = tell σ.k0 ∧ e.w2 = tell σ.k1
  inC : InCh ch σ
theorem InCh.m0 (O : Ok tell ch ms) {σ : SlSt} (h : InCh ch σ) : Msk σ.k0 := by obtain ⟨j, hj, e⟩ := h.c0; exact e ▸ O.rng 0 j (by decide) hj
theorem InCh.m1 (O : Ok tell ch ms) {σ : SlSt} (h : InCh ch σ) : Msk σ.k1 := by obtain ⟨j, hj, e⟩ := h.c1; exact e ▸ O.rng 1 j (by decide) hj
theorem InCh.m2 (O : Ok tell ch ms) {σ : SlSt} (h : InCh ch σ) : Msk σ.k2 := by obtain ⟨j, hj, e⟩ := h.c2; exact e ▸ O.rng 2 j (by decide) hj
theorem ite_kept {x y : Int} {a b : Str} {n n' : Nat} (h : (b = a) ↔ x = y) (hn : n' = n) : (if b = a then n' + 1 else 0) = (if x = y then n + 1 else 0) := by
  subst hn
  by_cases e : x = y
  · rw [if_pos e, if_pos (h.mpr e)]
  · rw [if_neg e, if_neg (fun q => e (h.mp q))]
theorem rel_step (O : Ok tell ch ms) {h0 : Int} {e : EaSt} {σ : SlSt} (R : Rel cs tell ch h0 e σ) {p : Nat} (hp : σ.steps.length % 3 = p) :
    Rel cs tell ch h0 (eaTurn cs ms (tell (ch p 0)) (tell (ch p 1)) (tell (ch p 2)) e) (slTurn cs tell ch σ) := by
  have hp3 : p < 3 := by omega
  have M0 := R.inC.m0 O; have M1 := R.inC.m1 O; have M2 := R.inC.m2 O
  unfold slTurn slPick
  rw [hp]
  rcases (by omega : p = 0 ∨ p = 1 ∨ p = 2) with rfl | rfl | rfl
  · obtain ⟨a0, a1, a2⟩ := R.ways0 hp
    rw [player O cs (by decide) R.inC.c0 M1 M2 e a0 a1 a2 (slKey cs tell σ 0) (fun d => congrArg (fun z => (z, tell d, d)) (hgt0 cs d σ.k1 σ.k2))]
    have hi := best3_lt (slKey cs tell σ 0 (ch 0 0)) (slKey cs tell σ 0 (ch 0 1)) (slKey cs tell σ 0 (ch 0 2))
    revert hi
    generalize best3 _ _ _ = i
    intro hi
    have hl : (σ.steps ++ [tell (ch 0 i)]).length % 3 = 1 := by rw [List.length_append, List.length_singleton]; omega
    refine ⟨ite_kept ⟨fun q => O.inj _ _ (O.rng 0 i (by decide) hi) M0 (q.symm.trans a0), fun q => by rw [a0]; exact congrArg tell q.symm⟩ R.kept, by show e.steps ++ _ = σ.steps ++ _; rw [R.steps], ?_, fun h => absurd (hl.symm.trans h) (by decide), fun _ => ⟨a1, a2, rfl⟩, fun h => absurd (hl.symm.trans h) (by decide), ⟨⟨i, hi, rfl⟩, R.inC.c1, R.inC.c2⟩⟩
    show e.gained + _ = h0 - hgt [ch 0 i, σ.k1, σ.k2] cs
    rw [R.gain, hgt0, hgt0]; omega
  · obtain ⟨a0, a1, a2⟩ := R.ways1 hp
    rw [player O cs (by decide) R.inC.c1 M2 M0 e a0 a1 a2 (slKey cs tell σ 1) (fun d => congrArg (fun z => (z, tell d, d)) (hgt1 cs d σ.k2 σ.k0))]
    have hi := best3_lt (slKey cs tell σ 1 (ch 1 0)) (slKey cs tell σ 1 (ch 1 1)) (slKey cs tell σ 1 (ch 1 2))
    revert hi
    generalize best3 _ _ _ = i
    intro hi
    have hl : (σ.steps ++ [tell (ch 1 i)]).length % 3 = 2 := by rw [List.length_append, List.length_singleton]; omega
    refine ⟨ite_kept ⟨fun q => O.inj _ _ (O.rng 1 i (by decide) hi) M1 (q.symm.trans a0), fun q => by rw [a0]; exact congrArg tell q.symm⟩ R.kept, by show e.steps ++ _ = σ.steps ++ _; rw [R.steps], ?_, fun h => absurd (hl.symm.trans h) (by decide), fun h => absurd (hl.symm.trans h) (by decide), fun _ => ⟨a1, a2, rfl⟩, ⟨R.inC.c0, ⟨i, hi, rfl⟩, R.inC.c2⟩⟩
    show e.gained + _ = h0 - hgt [σ.k0, ch 1 i, σ.k2] cs
    rw [R.gain, hgt1, hgt1]; omega
  · obtain ⟨a0, a1, a2⟩ := R.ways2 hp
    rw [player O cs (by decide) R.inC.c2 M0 M1 e a0 a1 a2 (slKey cs tell σ 2) (fun d => congrArg (fun z => (z, tell d, d)) (hgt2 cs d σ.k0 σ.k1))]
    have hi := best3_lt (slKey cs tell σ 2 (ch 2 0)) (slKey cs tell σ 2 (ch 2 1)) (slKey cs tell σ 2 (ch 2 2))
    revert hi
    generalize best3 _ _ _ = i
    intro hi
    have hl : (σ.steps ++ [tell (ch 2 i)]).length % 3 = 0 := by rw [List.length_append, List.length_singleton]; omega
    refine ⟨ite_kept ⟨fun q => O.inj _ _ (O.rng 2 i (by decide) hi) M2 (q.symm.trans a0), fun q => by rw [a0]; exact congrArg tell q.symm⟩ R.kept, by show e.steps ++ _ = σ.steps ++ _; rw [R.steps], ?_, fun _ => ⟨a1, a2, rfl⟩, fun h => absurd (hl.symm.trans h) (by decide), fun h => absurd (hl.symm.trans h) (by decide), ⟨R.inC.c0, R.inC.c1, ⟨i, hi, rfl⟩⟩⟩
    show e.gained + _ = h0 - hgt [σ.k0, σ.k1, ch 2 i] cs
    rw [R.gain, hgt2, hgt2]; omega
-- it comes to rest
noncomputable def trank (tell : Int → Str) (k : Int) : Nat := (([1, 2, 3, 4, 5, 6, 7] : List Int).filter (fun j => decide (sLt (tell j) (tell k)))).length
theorem filter_lt {α : Type} {p q : α → Bool} : ∀ {l : List α}, (∀ x, p x = true → q x = true) → (∃ x ∈ l, q x = true ∧ p x = false) → (l.filter p).length < (l.filter q).length
  | [], _, ⟨_, h, _⟩ => nomatch h
  | y :: l, hpq, ⟨x, hx, hq, hp⟩ => by
    have le : ∀ l : List α, (l.filter p).length ≤ (l.filter q).length := by
      intro l
      induction l with
      | nil => exact Nat.le_refl _
      | cons z r ih =>
        cases h1 : p z with
        | true => rw [List.filter_cons_of_pos h1, List.filter_cons_of_pos (hpq z h1)]; simp only [List.length_cons]; omega
        | false =>
          rw [List.filter_cons_of_neg (by rw [h1]; decide)]
          cases h2 : q z with
          | true => rw [List.filter_cons_of_pos h2]; simp only [List.length_cons]; omega
          | false => rw [List.filter_cons_of_neg (by rw [h2]; decide)]; exact ih
    rcases List.mem_cons.mp hx with rfl | hx
    · rw [List.filter_cons_of_pos hq, List.filter_cons_of_neg (by rw [hp]; decide)]
      have := le l
      simp only [List.length_cons]; omega
    · have ih := filter_lt (l := l) hpq ⟨x, hx, hq, hp⟩
      cases h1 : p y with
      | true => rw [List.filter_cons_of_pos h1, List.filter_cons_of_pos (hpq y h1)]; simp only [List.length_cons]; omega
      | false =>
        rw [List.filter_cons_of_neg (by rw [h1]; decide)]
        cases h2 : q y with
        | true => rw [List.filter_cons_of_pos h2]; simp only [List.length_cons]; omega
        | false => rw [List.filter_cons_of_neg (by rw [h2]; decide)]; exact ih
theorem filter_len {α : Type} {p : α → Bool} {l : List α} {x : α} (h : x ∈ l) (hp : p x = false) : (l.filter p).length < l.length := by
  have := filter_lt (p := p) (q := fun _ => true) (l := l) (fun _ _ => rfl) ⟨x, h, rfl, hp⟩
  rwa [List.filter_eq_self.mpr (fun _ _ => rfl)] at this
theorem trank_lt {a b : Int} (ha : Msk a) (h : sLt (tell a) (tell b)) : trank tell a < trank tell b := by
  unfold trank
  refine filter_lt (fun x hx => decide_eq_true (sLt_trans (of_decide_eq_true hx) h)) ⟨a, ?_, decide_eq_true h, decide_eq_false (sLt_irr _)⟩
  obtain ⟨h1, h2⟩ := ha
  rcases (by omega : a = 1 ∨ a = 2 ∨ a = 3 ∨ a = 4 ∨ a = 5 ∨ a = 6 ∨ a = 7) with rfl | rfl | rfl | rfl | rfl | rfl | rfl <;> decide
noncomputable abbrev T3 := Int × Int × Int
noncomputable def H3 (cs : List Int) (t : T3) : Int := hgt [t.1, t.2.1, t.2.2] cs
noncomputable def R3 (tell : Int → Str) (t : T3) : Nat := trank tell t.1 + trank tell t.2.1 + trank tell t.2.2
noncomputable abbrev Less (cs : List Int) (tell : Int → Str) (a b : T3) : Prop := H3 cs a < H3 cs b ∨ (H3 cs a = H3 cs b ∧ R3 tell a < R3 tell b)
noncomputable def all3 (ch : Nat → Nat → Int) : List T3 := (List.range 3).flatMap fun i => (List.range 3).flatMap fun j => (List.range 3).map fun l => (ch 0 i, ch 1 j, ch 2 l)
theorem all3_len (ch : Nat → Nat → Int) : (all3 ch).length = 27 := rfl
noncomputable def rank3 (cs : List Int) (tell : Int → Str) (ch : Nat → Nat → Int) (t : T3) : Nat := ((all3 ch).filter (fun u => decide (Less cs tell u t))).length
theorem Less.irr {a : T3} : ¬ Less cs tell a a := by rintro (h | ⟨_, h⟩) <;> omega
theorem Less.trans {a b c : T3} (h : Less cs tell a b) (h' : Less cs tell b c) : Less cs tell a c := by
  rcases h with h | ⟨e, h⟩ <;> rcases h' with h' | ⟨e', h'⟩
  · exact .inl (by omega)
  · exact .inl (by omega)
  · exact .inl (by omega)
  · exact .inr ⟨by omega, by omega⟩
theorem rank3_lt {a b : T3} (ha : a ∈ all3 ch) (h : Less cs tell a b) : rank3 cs tell ch a < rank3 cs tell ch b :=
  filter_lt (fun x hx => decide_eq_true ((of_decide_eq_true hx).trans h)) ⟨a, ha, decide_eq_true h, decide_eq_false Less.irr⟩
theorem rank3_le {a : T3} (ha : a ∈ all3 ch) : rank3 cs tell ch a ≤ 26 := by
  have := filter_len (p := fun u => decide (Less cs tell u a)) ha (decide_eq_false Less.irr)
  rw [all3_len] at this
  unfold rank3; omega
noncomputable def SlSt.t3 (σ : SlSt) : T3 := (σ.k0, σ.k1, σ.k2)
theorem InCh.mem {σ : SlSt} (h : InCh ch σ) : σ.t3 ∈ all3 ch := by
  obtain ⟨i, hi, e0⟩ := h.c0; obtain ⟨j, hj, e1⟩ := h.c1; obtain ⟨l, hl, e2⟩ := h.c2
  unfold SlSt.t3 all3
  rw [e0, e1, e2]
  exact List.mem_flatMap.mpr ⟨i, List.mem_range.mpr hi, List.mem_flatMap.mpr ⟨j, List.mem_range.mpr hj, List.mem_map.mpr ⟨l, List.mem_range.mpr hl, rfl⟩⟩⟩
/-- a turn keeps or goes down -/
theorem pick_down (O : Ok tell ch ms) {p : Nat} (hp : p < 3) {x : Int} (hx : ∃ j, j < 3 ∧ x = ch p j) (g : Int → Int) {y : Int} (hy : y = ch p (best3 (g (ch p 0), tell (ch p 0), ch p 0) (g (ch p 1), tell (ch p 1), ch p 1) (g (ch p 2), tell (ch p 2), ch p 2))) (hne : y ≠ x) :
    g y < g x ∨ (g y = g x ∧ trank tell y < trank tell x) := by
  have le := best3_le (g (ch p 0), tell (ch p 0), ch p 0) (g (ch p 1), tell (ch p 1), ch p 1) (g (ch p 2), tell (ch p 2), ch p 2)
  have hi := best3_lt (g (ch p 0), tell (ch p 0), ch p 0) (g (ch p 1), tell (ch p 1), ch p 1) (g (ch p 2), tell (ch p 2), ch p 2)
  have e : sel3 (best3 (g (ch p 0), tell (ch p 0), ch p 0) (g (ch p 1), tell (ch p 1), ch p 1) (g (ch p 2), tell (ch p 2), ch p 2)) (g (ch p 0), tell (ch p 0), ch p 0) (g (ch p 1), tell (ch p 1), ch p 1) (g (ch p 2), tell (ch p 2), ch p 2) = (g y, tell y, y) := by
    rw [hy]
    revert hi
    generalize best3 _ _ _ = i
    intro hi
    rcases (by omega : i = 0 ∨ i = 1 ∨ i = 2) with rfl | rfl | rfl <;> rfl
  rw [e] at le
  have my : Msk y := hy ▸ O.rng p _ hp hi
  have mx : Msk x := by obtain ⟨j, hj, rfl⟩ := hx; exact O.rng p j hp hj
  have nl : ¬ Lt3 (g x, tell x, x) (g y, tell y, y) := by
    obtain ⟨j, hj, rfl⟩ := hx
    rcases (by omega : j = 0 ∨ j = 1 ∨ j = 2) with rfl | rfl | rfl
    · exact le.1
    · exact le.2.1
    · exact le.2.2
  rcases Lt3.tri (p := (g y, tell y, y)) (q := (g x, tell x, x)) (fun q => hne (congrArg (fun z => z.2.2) q)) with h | h
  · rcases h with h | ⟨e1, h | ⟨e2, h⟩⟩
    · exact .inl h
    · exact .inr ⟨e1, trank_lt my h⟩
    · exact absurd (O.inj _ _ my mx e2) hne
  · exact absurd h nl
theorem turn_down (O : Ok tell ch ms) {σ : SlSt} (h : InCh ch σ) : InCh ch (slTurn cs tell ch σ) ∧ (((slTurn cs tell ch σ).t3 = σ.t3 ∧ (slTurn cs tell ch σ).kept = σ.kept + 1) ∨ (Less cs tell (slTurn cs tell ch σ).t3 σ.t3 ∧ (slTurn cs tell ch σ).kept = 0)) := by
  have hp3 : σ.steps.length % 3 < 3 := by omega
  unfold slTurn slPick
  generalize σ.steps.length % 3 = p at hp3
  rcases (by omega : p = 0 ∨ p = 1 ∨ p = 2) with rfl | rfl | rfl
  · have hd := pick_down O (by decide : 0 < 3) h.c0 (fun d => hgt [d, σ.k1, σ.k2] cs) (y := ch 0 (best3 (slKey cs tell σ 0 (ch 0 0)) (slKey cs tell σ 0 (ch 0 1)) (slKey cs tell σ 0 (ch 0 2)))) rfl
    have hi := best3_lt (slKey cs tell σ 0 (ch 0 0)) (slKey cs tell σ 0 (ch 0 1)) (slKey cs tell σ 0 (ch 0 2))
    revert hi hd
    generalize best3 _ _ _ = i
    intro hd hi
    refine ⟨⟨⟨i, hi, rfl⟩, h.c1, h.c2⟩, ?_⟩
    by_cases he : ch 0 i = σ.k0
    · exact .inl ⟨congrArg (fun z => (z, σ.k1, σ.k2)) he, if_pos he⟩
    · refine .inr ⟨?_, if_neg he⟩
      rcases hd he with q | ⟨q, q'⟩
      · exact .inl q
      · exact .inr ⟨q, by show trank tell (ch 0 i) + trank tell σ.k1 + trank tell σ.k2 < trank tell σ.k0 + trank tell σ.k1 + trank tell σ.k2; omega⟩
  · have hd := pick_down O (by decide : 1 < 3) h.c1 (fun d => hgt [σ.k0, d, σ.k2] cs) (y := ch 1 (best3 (slKey cs tell σ 1 (ch 1 0)) (slKey cs tell σ 1 (ch 1 1)) (slKey cs tell σ 1 (ch 1 2)))) rfl
    have hi := best3_lt (slKey cs tell σ 1 (ch 1 0)) (slKey cs tell σ 1 (ch 1 1)) (slKey cs tell σ 1 (ch 1 2))
    revert hi hd
    generalize best3 _ _ _ = i
    intro hd hi
    refine ⟨⟨h.c0, ⟨i, hi, rfl⟩, h.c2⟩, ?_⟩
    by_cases he : ch 1 i = σ.k1
    · exact .inl ⟨congrArg (fun z => (σ.k0, z, σ.k2)) he, if_pos he⟩
    · refine .inr ⟨?_, if_neg he⟩
      rcases hd he with q | ⟨q, q'⟩
      · exact .inl q
      · exact .inr ⟨q, by show trank tell σ.k0 + trank tell (ch 1 i) + trank tell σ.k2 < trank tell σ.k0 + trank tell σ.k1 + trank tell σ.k2; omega⟩
  · have hd := pick_down O (by decide : 2 < 3) h.c2 (fun d => hgt [σ.k0, σ.k1, d] cs) (y := ch 2 (best3 (slKey cs tell σ 2 (ch 2 0)) (slKey cs tell σ 2 (ch 2 1)) (slKey cs tell σ 2 (ch 2 2)))) rfl
    have hi := best3_lt (slKey cs tell σ 2 (ch 2 0)) (slKey cs tell σ 2 (ch 2 1)) (slKey cs tell σ 2 (ch 2 2))
    revert hi hd
    generalize best3 _ _ _ = i
    intro hd hi
    refine ⟨⟨h.c0, h.c1, ⟨i, hi, rfl⟩⟩, ?_⟩
    by_cases he : ch 2 i = σ.k2
    · exact .inl ⟨congrArg (fun z => (σ.k0, σ.k1, z)) he, if_pos he⟩
    · refine .inr ⟨?_, if_neg he⟩
      rcases hd he with q | ⟨q, q'⟩
      · exact .inl q
      · exact .inr ⟨q, by show trank tell σ.k0 + trank tell σ.k1 + trank tell (ch 2 i) < trank tell σ.k0 + trank tell σ.k1 + trank tell σ.k2; omega⟩
theorem iter_down (O : Ok tell ch ms) {σ : SlSt} (h : InCh ch σ) (hk : σ.kept = 0) : ∀ n, (∀ j, j < n → (slIter cs tell ch σ j).kept < 3) →
    InCh ch (slIter cs tell ch σ n) ∧ 3 * rank3 cs tell ch (slIter cs tell ch σ n).t3 + 3 + n ≤ 81 + (slIter cs tell ch σ n).kept ∧ (slIter cs tell ch σ n).kept ≤ 3
  | 0, _ => by
    have := rank3_le (cs := cs) (tell := tell) h.mem
    refine ⟨h, ?_, ?_⟩
    · show 3 * rank3 cs tell ch σ.t3 + 3 + 0 ≤ 81 + σ.kept
      omega
    · show σ.kept ≤ 3
      omega
  | n + 1, hj => by
    obtain ⟨i1, i2, i3⟩ := iter_down O h hk n fun j hj' => hj j (by omega)
    have k3 := hj n (by omega)
    obtain ⟨j1, j2⟩ := turn_down (cs := cs) O i1
    refine ⟨j1, ?_⟩
    show 3 * rank3 cs tell ch (slTurn cs tell ch (slIter cs tell ch σ n)).t3 + 3 + (n + 1) ≤ 81 + (slTurn cs tell ch (slIter cs tell ch σ n)).kept ∧ (slTurn cs tell ch (slIter cs tell ch σ n)).kept ≤ 3
    rcases j2 with ⟨e1, e2⟩ | ⟨e1, e2⟩
    · rw [e1, e2]; omega
    · have := rank3_lt j1.mem e1
      rw [e2]; omega
/-- it comes to rest, in 81 turns at most -/
theorem comes_to_rest (O : Ok tell ch ms) {σ : SlSt} (h : InCh ch σ) (hk : σ.kept = 0) : ∃ n, n ≤ 81 ∧ (slIter cs tell ch σ n).kept = 3 ∧ ∀ j, j < n → (slIter cs tell ch σ j).kept < 3 := by
  have key : ∀ k, (∀ j, j < k → (slIter cs tell ch σ j).kept < 3) ∨ ∃ n, n < k ∧ (slIter cs tell ch σ n).kept = 3 ∧ ∀ j, j < n → (slIter cs tell ch σ j).kept < 3 := by
    intro k
    induction k with
    | zero => exact .inl fun j hj => absurd hj (Nat.not_lt_zero j)
    | succ k ih =>
      rcases ih with ih | ⟨n, h1, h2, h3⟩
      · have := (iter_down (cs := cs) O h hk k ih).2.2
        by_cases h3 : (slIter cs tell ch σ k).kept = 3
        · exact .inr ⟨k, by omega, h3, ih⟩
        · refine .inl fun j hj => ?_
          by_cases hjk : j = k
          · subst hjk; omega
          · exact ih j (by omega)
      · exact .inr ⟨n, by omega, h2, h3⟩
  rcases key 82 with h1 | ⟨n, h1, h2, h3⟩
  · exfalso
    have := (iter_down (cs := cs) O h hk 81 fun j hj => h1 j (by omega)).2
    have := h1 81 (by omega)
    omega
  · exact ⟨n, by omega, h2, h3⟩
end
end
section
open PySem PySem.W PyProof.Rows
set_option maxRecDepth 100000
set_option maxHeartbeats 8000000
noncomputable def coF (v1 v2 : Option Value) (mB : Str → Option Value) : Str → Option Value := fun y => if y = Str.ofString "count" then v1 else if y = Str.ofString "i" then v2 else mB y
theorem co_m0 {v1 : Option Value} {mB : Str → Option Value} : (fun y => if y = Str.ofString "count" then v1 else mB y) = coF v1 (mB (Str.ofString "i")) mB := by
  funext z
  by_cases h1 : z = Str.ofString "count"
  · subst h1; with_unfolding_all rfl
  by_cases h2 : z = Str.ofString "i"
  · subst h2; with_unfolding_all rfl
  simp only [coF, if_neg h1, if_neg h2]
theorem co_m1 {v1 v2 a b : Option Value} {mB : Str → Option Value} : (fun y => if y = Str.ofString "count" then v1 else if y = Str.ofString "i" then v2 else coF a b mB y) = coF v1 v2 mB := by
  funext z
  by_cases h1 : z = Str.ofString "count"
  · subst h1; with_unfolding_all rfl
  by_cases h2 : z = Str.ofString "i"
  · subst h2; with_unfolding_all rfl
  simp only [coF, if_neg h1, if_neg h2]
theorem co_m2 {v2 a b : Option Value} {mB : Str → Option Value} : (fun y => if y = Str.ofString "i" then v2 else coF a b mB y) = coF a v2 mB := by
  funext z
  by_cases h2 : z = Str.ofString "i"
  · subst h2; with_unfolding_all rfl
  simp only [coF, if_neg h2]
noncomputable def cntB (l : List Bool) : Int := l.foldl (fun n b => n + if b then 1 else 0) 0
theorem cntB_snoc (l : List Bool) (b : Bool) : cntB (l ++ [b]) = cntB l + if b then 1 else 0 := by
  unfold cntB; rw [List.foldl_append]; rfl
inductive CoJ (mB : Str → Option Value) (R : Led) (bs : List Bool) (i : Nat) (m' : Str → Option Value) (n' : Led) : Prop
  | mk (t : Tok) (vi : Option Value) (hm : m' = coF (some (.int (cntB (bs.take i)) t)) vi mB) (hn : n' = R)
noncomputable def HaltO (P : Prop) : Prop := P
theorem HaltO.intro {P : Prop} (h : HaltO P) : P := h
section
variable {w : World} {mean : ExcName → Option Value} {mg mb : Str → Option Value} {dp un : Nat} {gd : Option (List Code)} {cn : Str} {nms : List (Str × NameKind)} {ig ic : Bool} {mo : List (Str × Const)} {a : Addr} {ccd : Value} {cl : List (Str × Addr)} {outer : List Env} {A₀ : Around} {base h₀ : Heap} {L : Addr} {m : Str → Option Value} {s : Shared} {Q E : Value → Shared → Prop} {news : Led}
local macro_rules | `(tactic| walk_at "eval Name") => `(tactic| (k_here; (rename Fr _ _ _ _ => lF'); with_unfolding_all refine ld lF' (by assumption) ?_))
local macro_rules | `(tactic| walk_at "exec For Name Name cons nil") => `(tactic| (k_here; (rename Fr _ _ _ _ => lF'); (with_unfolding_all refine' For_turns lF' ?_; k_whole)))
local macro_rules | `(tactic| walk_at "pyIter ref") => `(tactic| (k_here; refine HaltO.intro ?_))
local macro_rules | `(tactic| walk_at "UnrEndW") => `(tactic| (refine HaltO.intro ?_))
theorem countOf_ok {b0 b1 b2 : Bool} {l : Addr} (C : Cx w mean mg mb dp un A₀ base outer h₀ L m s [(l, LCg.lst [.bool b0, .bool b1, .bool b2])] 1)
   (ret : ∀ t h' tk', Fr h₀ L h' m → Keep [] s.heap h' → Q (.int ((if b0 then 1 else 0) + (if b1 then 1 else 0) + (if b2 then 1 else 0)) t) { s with heap := h', toks := tk' }) :
   wpAny (mdl w) (tp dp un gd cn nms ig ic mo L a ccd cl outer) (call (.ref 80) [.ref l, .bool true]) Q E s := by
  ((have hfill : (PySem.Challenge.rw_xl0032_01 = PySem.Challenge.rw_xl0032_01 ∧ Mine.hd.heap_1 = Mine.hd.heap_1) := by (k_fill; exact ⟨rfl, rfl⟩)); clear hfill; (rename Cx _ _ _ _ _ _ _ _ _ _ _ _ _ _ _ => Cz9); obtain ⟨Bz9, Fz9, Xz9, Nz9, Tz9, hdz9, huz9⟩ := Cz9; refine wpAny_call ?_; w_strict (k_dflt (refine' code_defM ?k1 ?k2 ?k3 ?k4 ?k5 ?kA ?kF ?kK ?k6 ?k7 ?k8 ?k9 ?kB ?_ ?c2 ?c3 ?c4 ?c5; (case kA => exact rfl); (case kF => exact rfl); (case kK => exact rfl); (case k1 => k_asm); (case k2 => k_asm); (case k3 => k_asm); (case k4 => k_asm); (case k5 => k_asm); (case k6 => k_is); (case k7 => k_is); (case k8 => ktr_room); (case k9 => first | exact BindsTo.of_eq rfl | exact binds_K (by k_in) rfl (by k_is) rfl rfl rfl); (case c5 => decide); (case kB => exact locs rfl); (case c2 => exact rfl); (case c3 => exact rfl); (case c4 => exact rfl); k_whole; intro gz9 Lz9 hz9 hGz9 FGz9 Fz8 Nz8 Bz8 Xz8 Tz8; (try dsimp only); (try k_lift Bz8); (try k_fold))))
  walk_at "tb.let"
  w_strict k_steps
  unfold HaltO
  rename Fr _ _ _ _ => lF
  rename News _ _ _ _ => lN
  obtain ⟨mB, F9, g1, g2⟩ : ∃ mB : Str → Option Value, Fr _ _ _ (fun y => if y = Str.ofString "count" then some (.int 0 _) else mB y) ∧ mB (Str.ofString "a") = some (.ref l) ∧ mB (Str.ofString "b") = some (.bool true) := ⟨_, lF, by with_unfolding_all rfl, by with_unfolding_all rfl⟩
  rw [co_m0] at F9
  clear lF
  refine iter_listTurns (vs := [.bool b0, .bool b1, .bool b2]) (by rfl) F9 lN (.head _) rfl rfl fun I hI => ?_
  obtain ⟨R, eR⟩ : ∃ R : Led, R = [(l, LCg.lst [.bool b0, .bool b1, .bool b2])] := ⟨_, rfl⟩
  rw [← eR] at hI lN
  have ml : (l, LCg.lst [.bool b0, .bool b1, .bool b2]) ∈ R := eR ▸ .head _
  have hS : SubL R R := eR ▸ ⟨.head _, trivial⟩
  clear F9
  rw [← eR]
  refine items_ind (CoJ mB R [b0, b1, b2]) ?step ?fin 3 0 _ _ rfl ⟨_, _, rfl, rfl⟩
  case fin =>
    clear lN
    intro m' news' h' tk' hJ F' N'
    obtain ⟨t, vi, rfl, rfl⟩ := hJ
    w_strict k_steps
    show Q (.int (cntB ([b0, b1, b2].take 3)) t) _
    rw [show cntB ([b0, b1, b2].take 3) = (if b0 then 1 else 0) + (if b1 then 1 else 0) + (if b2 then 1 else 0) from by cases b0 <;> cases b1 <;> cases b2 <;> rfl]
    subst eR
    exact ret _ _ _ (by assumption) (by tb_rel)
  case step =>
    intro i itm m' news' v h' tk' hit hJ hv F'
    have hi : i < 3 := (List.getElem?_eq_some_iff.mp hit).1
    obtain ⟨b, rfl, hb⟩ : ∃ b, itm = .val (.bool b) ∧ [b0, b1, b2][i]? = some b := by
      rcases (by omega : i = 0 ∨ i = 1 ∨ i = 2) with rfl | rfl | rfl <;> exact ⟨_, (Option.some.inj hit).symm, rfl⟩
    obtain rfl : v = .bool b := hv
    obtain ⟨t, vi, rfl, rfl⟩ := hJ
    refine AllObj.cons fun oI hIc => AllObj.nil fun N' => ?_
    simp only [List.cons_append, List.nil_append] at N'
    clear hit lN eR
    have hb' : ([b0, b1, b2].take (i + 1)) = [b0, b1, b2].take i ++ [b] := by rw [List.take_add_one, hb]; rfl
    have hIR := lt_off hI
    cases b
    · w_strict k_steps
      unfold HaltO
      rename Fr _ _ _ _ => lF
      rw [co_m2] at lF
      exact UnrEndW.of1 lF (by assumption) (.head _) (sub_tail sub_self) hIR ⟨hS, ⟨t, _, by rw [hb', cntB_snoc]; exact congrArg (fun v => coF (some (Value.int v t)) _ mB) (Int.add_zero _).symm, rfl⟩⟩
    · w_strict k_steps
      unfold HaltO
      rename Fr _ _ _ _ => lF
      rw [co_m1] at lF
      exact UnrEndW.of1 lF (by assumption) (.head _) (sub_tail sub_self) hIR ⟨hS, ⟨_, _, by rw [hb', cntB_snoc]; rfl, rfl⟩⟩
end
end
section
local macro_rules | `(tactic| walk_at "none") => `(tactic| skip)
open PySem PySem.W PyProof.Rows
set_option maxRecDepth 100000
set_option maxHeartbeats 8000000
noncomputable def gnF (v1 v2 : Option Value) (mB : Str → Option Value) : Str → Option Value := fun y => if y = Str.ofString "v" then v1 else if y = Str.ofString "k" then v2 else mB y
theorem gn_m0 {mB : Str → Option Value} : mB = gnF (mB (Str.ofString "v")) (mB (Str.ofString "k")) mB := by
  funext z
  by_cases h1 : z = Str.ofString "v"
  · subst h1; with_unfolding_all rfl
  by_cases h2 : z = Str.ofString "k"
  · subst h2; with_unfolding_all rfl
  simp only [gnF, if_neg h1, if_neg h2]
theorem gn_m {v1 v2 a b : Option Value} {mB : Str → Option Value} : (fun y => if y = Str.ofString "v" then v1 else if y = Str.ofString "k" then v2 else gnF a b mB y) = gnF v1 v2 mB := by
  funext z
  by_cases h1 : z = Str.ofString "v"
  · subst h1; with_unfolding_all rfl
  by_cases h2 : z = Str.ofString "k"
  · subst h2; with_unfolding_all rfl
  simp only [gnF, if_neg h1, if_neg h2]
inductive GnJ (mB : Str → Option Value) (R : Led) (_ : Nat) (m' : Str → Option Value) (n' : Led) : Prop
  | mk (v1 v2 : Option Value) (hm : m' = gnF v1 v2 mB) (hn : n' = R)
/-- a table's pair that does not bear the name -/
inductive Off2 (x : Str) (R : Led) : Value → Prop
  | mk (p : Addr) (n : Str) (t : Tok) (y : Str) (u : Tok) (hp : (p, tup2 n t y u) ∈ R) (hn : Nm n) (he : (Txt.lower n == Txt.lower x) = false) : Off2 x R (.ref p)
theorem Off2.tail {x : Str} {R : Led} {q : Addr × Obj} {v : Value} (h : Off2 x R v) : Off2 x (q :: R) v := by
  cases h with
  | mk p n t y u hp hn he => exact .mk p n t y u (.tail _ hp) hn he
noncomputable def HaltD (P : Prop) : Prop := P
theorem HaltD.intro {P : Prop} (h : HaltD P) : P := h
section
variable {w : World} {mean : ExcName → Option Value} {mg mb : Str → Option Value} {dp un : Nat} {gd : Option (List Code)} {cn : Str} {nms : List (Str × NameKind)} {ig ic : Bool} {mo : List (Str × Const)} {a : Addr} {ccd : Value} {cl : List (Str × Addr)} {outer : List Env} {A₀ : Around} {base h₀ : Heap} {L : Addr} {m : Str → Option Value} {s : Shared} {Q E : Value → Shared → Prop} {news : Led}
local macro_rules | `(tactic| walk_at "eval Name") => `(tactic| (k_here; (rename Fr _ _ _ _ => lF'); with_unfolding_all refine ld lF' (by assumption) ?_))
local macro_rules | `(tactic| walk_at "pyIter ref") => `(tactic| (k_here; refine HaltD.intro ?_))
local macro_rules | `(tactic| walk_at "UnrEndW") => `(tactic| (refine HaltD.intro ?_))
local macro_rules | `(tactic| walk_at "call ref") => `(tactic| (k_here; refine HaltD.intro ?_))
theorem get_none {x : Str} {tx kt : Tok} {ti td tl : Addr} {hh : Int} {n nl : Nat} {vs : List Value} {R : Led} (C : Cx w mean mg mb dp un A₀ base outer h₀ L m s R 3) (hx : Nm x) (hi : (ti, instObj 241 td) ∈ R) (hd : (td, dictOf [⟨hh, .str "_headers" kt, .ref tl⟩] n) ∈ R) (hl : (tl, listOf vs.toArray nl) ∈ R) (hvs : ∀ v ∈ vs, Off2 x R v) (hlen : vs.length ≤ 3)
   (ret : ∀ h' tk', Fr h₀ L h' m → Keep [] s.heap h' → Q .none { s with heap := h', toks := tk' }) :
   wpAny (mdl w) (tp dp un gd cn nms ig ic mo L a ccd cl outer) (call (.ref 188) [.ref ti, .str x tx]) Q E s := by
  ((have hfill : (PySem.Challenge.rw_xl0032_01 = PySem.Challenge.rw_xl0032_01 ∧ Mine.hd.heap_1 = Mine.hd.heap_1) := by (k_fill; exact ⟨rfl, rfl⟩)); clear hfill; (rename Cx _ _ _ _ _ _ _ _ _ _ _ _ _ _ _ => Cz9); obtain ⟨Bz9, Fz9, Xz9, Nz9, Tz9, hdz9, huz9⟩ := Cz9; refine wpAny_call ?_; w_strict (k_dflt (refine' code_defM ?k1 ?k2 ?k3 ?k4 ?k5 ?kA ?kF ?kK ?k6 ?k7 ?k8 ?k9 ?kB ?_ ?c2 ?c3 ?c4 ?c5; (case kA => exact rfl); (case kF => exact rfl); (case kK => exact rfl); (case k1 => k_asm); (case k2 => k_asm); (case k3 => k_asm); (case k4 => k_asm); (case k5 => k_asm); (case k6 => k_is); (case k7 => k_is); (case k8 => ktr_room); (case k9 => first | exact BindsTo.of_eq rfl | exact binds_K (by k_in) rfl (by k_is) rfl rfl rfl); (case c5 => decide); (case kB => exact locs rfl); (case c2 => exact rfl); (case c3 => exact rfl); (case c4 => exact rfl); k_whole; intro gz9 Lz9 hz9 hGz9 FGz9 Fz8 Nz8 Bz8 Xz8 Tz8; (try dsimp only); (try k_lift Bz8); (try k_fold))))
  walk_at "tb.let"
  w_strict k_steps
  unfold HaltD
  with_unfolding_all refine' conv_ok (b := true) hx.low ?kC ?_
  case kC =>
    refine' Cx.mk ?k1 ?k2 ?k3 ?k4 ?k5 ?k6 ?k7
    case k1 => k_asm
    case k2 => k_asm
    case k3 => k_asm
    case k4 => exact News.nil
    case k5 => k_asm
    case k6 => ktr_room
    case k7 => ktr_units
  intro h' tk' F' k'
  have N' := Keep.all k' (by assumption)
  clear k'
  k_sweep
  w_strict k_steps
  unfold HaltD
  rename Fr _ _ _ _ => lF
  rename News _ _ _ _ => lN
  obtain ⟨mB, F9, g1, g2⟩ : ∃ mB : Str → Option Value, Fr _ _ _ mB ∧ mB (Str.ofString "name") = some (.str (Txt.lower x) _) ∧ mB (Str.ofString "default") = some .none := ⟨_, lF, by with_unfolding_all rfl, by with_unfolding_all rfl⟩
  clear lF
  refine iter_listTurns (vs := vs) (by rfl) F9 lN hl rfl rfl fun I hI => ?_
  clear F9 lN
  refine items_ind (GnJ mB R) ?step ?fin vs.length 0 _ _ (by rw [List.length_map, Nat.zero_add]) ⟨_, _, gn_m0, rfl⟩
  case fin =>
    intro m' news' h' tk' hJ F' N'
    obtain ⟨v1, v2, rfl, rfl⟩ := hJ
    w_strict k_steps
    exact ret _ _ (by assumption) (Keep.back (Keep.of (by assumption) (by assumption)) (by assumption) (by assumption) sub_self)
  case step =>
    intro i itm m' news' v h' tk' hit hJ hv F'
    obtain ⟨v0, hv0, rfl⟩ : ∃ v0 ∈ vs, itm = .val v0 := by
      rw [List.getElem?_map] at hit
      cases e : vs[i]? with
      | none => rw [e] at hit; cases hit
      | some v0 => rw [e] at hit; exact ⟨v0, List.mem_of_getElem? e, (Option.some.inj hit).symm⟩
    obtain rfl : v = v0 := hv
    obtain ⟨p, n', t', y', u', hp, hn, he⟩ := hvs v hv0
    obtain ⟨v1, v2, rfl, rfl⟩ := hJ
    refine AllObj.cons fun oI hIc => AllObj.nil fun N' => ?_
    simp only [List.cons_append, List.nil_append] at N'
    have hIR := lt_off hI
    clear hit hI
    w_strict k_steps
    unfold HaltD
    rename Fr _ _ _ _ => lF
    rw [gn_m] at lF
    exact UnrEndW.of1 lF (by assumption) (.head _) (sub_tail sub_self) hIR ⟨⟨hl, trivial⟩, ⟨_, _, rfl, rfl⟩⟩
end
end
section
open PySem PySem.W PyProof.Rows
set_option maxRecDepth 100000
set_option maxHeartbeats 8000000
noncomputable def HaltC (P : Prop) : Prop := P
theorem HaltC.intro {P : Prop} (h : HaltC P) : P := h
section
variable {w : World} {mean : ExcName → Option Value} {mg mb : Str → Option Value} {dp un : Nat} {gd : Option (List Code)} {cn : Str} {nms : List (Str × NameKind)} {ig ic : Bool} {mo : List (Str × Const)} {a : Addr} {ccd : Value} {cl : List (Str × Addr)} {outer : List Env} {A₀ : Around} {base h₀ : Heap} {L : Addr} {m : Str → Option Value} {s : Shared} {Q E : Value → Shared → Prop} {news : Led}
local macro_rules | `(tactic| walk_at "exec For Tuple Call cons nil") => `(tactic| (k_here; (with_reducible show wpAny _ _ (exec (Stmt.For (Expr.Tuple _ _ _) (Expr.Call _ _ _ _) _ _ _) _) _ _ _); (rename Fr _ _ _ _ => lF'); (with_unfolding_all refine' For_turns lF' ?_; k_whole)))
local macro_rules | `(tactic| walk_at "call type:enumerate") => `(tactic| (k_here; refine HaltC.intro ?_))
local macro_rules | `(tactic| walk_at "eval Name") => `(tactic| (k_here; (with_reducible show wpAny _ _ (eval (Expr.Name _ _) (envOf _ _ _ _ _)) _ _ _); (rename Fr _ _ _ _ => lF'); with_unfolding_all refine ld lF' (by assumption) ?_))
theorem cells_ok {sl : Addr} {vs : List Value} {ns : List Int} (hl : h₀.IsList sl vs.toArray) (hi : IntsAre vs ns) (C : Cx w mean mg mb dp un A₀ base outer h₀ L m s [] 1)
   (ret : ∀ (l : Addr) (cvs : List Value) (cs : List Int) (e : Nat) h' tk', IntsAre cvs cs → cs.length = 12 → Fr h₀ L h' m → Keep [] s.heap h' → News h₀ L h' [(l, listOf cvs.toArray e)] → s.heap.get? l = none → Q (.ref l) { s with heap := h', toks := tk' }) :
   wpAny (mdl w) (tp dp un gd cn nms ig ic mo L a ccd cl outer) (call (.ref 379) [.ref sl]) Q E s := by
  ((have hfill : (PySem.Challenge.rw_xl0032_01 = PySem.Challenge.rw_xl0032_01 ∧ Mine.hd.heap_1 = Mine.hd.heap_1) := by (k_fill; exact ⟨rfl, rfl⟩)); clear hfill; (rename Cx _ _ _ _ _ _ _ _ _ _ _ _ _ _ _ => Cz9); obtain ⟨Bz9, Fz9, Xz9, Nz9, Tz9, hdz9, huz9⟩ := Cz9; refine wpAny_call ?_; w_strict (k_dflt (refine' code_defM ?k1 ?k2 ?k3 ?k4 ?k5 ?kA ?kF ?kK ?k6 ?k7 ?k8 ?k9 ?kB ?_ ?c2 ?c3 ?c4 ?c5; (case kA => exact rfl); (case kF => exact rfl); (case kK => exact rfl); (case k1 => k_asm); (case k2 => k_asm); (case k3 => k_asm); (case k4 => k_asm); (case k5 => k_asm); (case k6 => k_is); (case k7 => k_is); (case k8 => ktr_room); (case k9 => first | exact BindsTo.of_eq rfl | exact binds_K (by k_in) rfl (by k_is) rfl rfl rfl); (case c5 => decide); (case kB => exact locs rfl); (case c2 => exact rfl); (case c3 => exact rfl); (case c4 => exact rfl); k_whole; intro gz9 Lz9 hz9 hGz9 FGz9 Fz8 Nz8 Bz8 Xz8 Tz8; (try dsimp only); (try k_lift Bz8); (try k_fold))))
  walk_at "tb.let"
  w_strict k_steps
  unfold HaltC
  rename Fr _ _ _ _ => lF
  rename News _ _ _ _ => lN
  rename Fr h₀ L _ _ => lF0
  refine enum_inv (fun _ m' news' => ∃ (c : Addr) (cvs : List Value) (cs : List Int) (e : Nat), IntsAre cvs cs ∧ cs.length = 12 ∧ m' (Str.ofString "cells") = some (.ref c) ∧ news' = [(c, listOf cvs.toArray e)]) (by rfl) lF lN (hl.at fun o e => lF0.keep _ o e) hi ?_ ?_ ?_
  · exact ⟨_, [.int 203 _, .int 266 _, .int 154 _, .int 9 _, .int 10 _, .int 12 _, .int 5 _, .int 6 _, .int 20 _, .int 3 _, .int 6 _, .int 1 _], [203, 266, 154, 9, 10, 12, 5, 6, 20, 3, 6, 1], 0, .cons _ _ (.cons _ _ (.cons _ _ (.cons _ _ (.cons _ _ (.cons _ _ (.cons _ _ (.cons _ _ (.cons _ _ (.cons _ _ (.cons _ _ (.cons _ _ .nil))))))))))), rfl, by with_unfolding_all rfl, rfl⟩
  · clear lF lN
    intro i n t u T m₁ news₁ I o1 o2 h2 tk2 hn hJ c1 c2 hT F' N'
    obtain ⟨c, cvs, cs, e, hcv, hc12, hm, rfl⟩ := hJ
    have hmod0 : 0 ≤ (i : Int).fmod 12 := Int.fmod_nonneg (Int.natCast_nonneg i) (by decide)
    have hmod1 : (i : Int).fmod 12 < (cs.length : Int) := by rw [hc12]; exact Int.fmod_lt_of_pos _ (by decide)
    have hI1 : I + 1 ≠ c := news_ne N' (.head _) (.tail _ (.tail _ (.head _))) (by rw [c1]; intro q; injection q with q; exact absurd q (by decide))
    have hI0 : I ≠ c := news_ne N' (.tail _ (.head _)) (.tail _ (.tail _ (.head _))) (by rw [c2]; intro q; injection q with q; exact absurd q (by decide))
    w_strict k_steps
    rename (List.length (List.set _ _ _) = _) => hl'
    rename (IntsAre (List.set _ _ _) _) => hi'
    rename Fr _ _ _ (fun _ => _) => F2
    exact ⟨_, _, _, [(c, _)], rfl, F2, by assumption, List.forall_mem_singleton.mpr (List.forall_mem_cons.mpr ⟨Ne.symm hI1, List.forall_mem_singleton.mpr (Ne.symm hI0)⟩), c, _, _, _, hi', hl'.trans hc12, by with_unfolding_all exact hm, rfl⟩
  · clear lF lN
    intro m₁ news₁ h2 tk2 hJ F' N'
    obtain ⟨c, cvs, cs, e, hcv, hc12, hm, rfl⟩ := hJ
    w_strict k_steps
    rename Keep _ s.heap _ => hG
    exact ret c cvs cs e _ _ hcv hc12 (by assumption) (by tb_rel) (by assumption) (Keep.fresh hG (by assumption) (List.forall_mem_nil _))
end
end
section
open PySem PySem.W PyProof.Rows
set_option maxRecDepth 100000
set_option maxHeartbeats 8000000
noncomputable def ncode (k : Nat) : Nat := if k / 3 % 2 = 0 then 97 + k % 3 else 65 + k % 3
noncomputable def nm (k : Nat) : Str := ⟨#[ncode k]⟩
theorem ncode_mod (k : Nat) : ncode k = ncode (k % 6) := by
  unfold ncode
  have h1 : k % 6 / 3 % 2 = k / 3 % 2 := by omega
  have h2 : k % 6 % 3 = k % 3 := by omega
  rw [h1, h2]
theorem nm_mod (k : Nat) : nm k = nm (k % 6) := by unfold nm; rw [ncode_mod k]
theorem six (k : Nat) : k % 6 = 0 ∨ k % 6 = 1 ∨ k % 6 = 2 ∨ k % 6 = 3 ∨ k % 6 = 4 ∨ k % 6 = 5 := by omega
theorem nm_fit (k : Nat) : Nm (nm k) := by
  rw [nm_mod]
  rcases six k with h | h | h | h | h | h <;> rw [h] <;> exact ⟨by unfold okText; decide +kernel, by unfold okText; decide +kernel, by decide⟩
theorem nm_lower (k : Nat) : Txt.lower (nm k) = ⟨#[97 + k % 3]⟩ := by
  have e : k % 3 = k % 6 % 3 := by omega
  rw [nm_mod, e]
  rcases six k with h | h | h | h | h | h <;> rw [h] <;> decide +kernel
theorem nm_low (k j : Nat) (h : j % 3 = k % 3) : (Txt.lower (nm k) == Txt.lower (nm j)) = true := by rw [nm_lower, nm_lower, h, beq_self_eq_true]
theorem nm_high (k j : Nat) (h : j % 3 ≠ k % 3) : (Txt.lower (nm k) == Txt.lower (nm j)) = false := by
  rw [nm_lower, nm_lower, beq_eq_false_iff_ne]
  intro e
  injection e with e
  have := congrArg (fun a => a.getD 0 0) e
  simp at this
  omega
theorem nm_xor (k : Nat) : Builtin.bitXor (ncode k : Int) 32 = (ncode (k + 3) : Int) := by
  rw [ncode_mod k, ncode_mod (k + 3)]
  have e : (k + 3) % 6 = (k % 6 + 3) % 6 := by omega
  rw [e]
  rcases six k with h | h | h | h | h | h <;> rw [h] <;> decide +kernel
theorem ncode_lt (k : Nat) : ncode k < 128 := by unfold ncode; split <;> omega
section
variable {prog : Program} {w : World} {A : Around} {E : Value → Shared → Prop} {s : Shared} {t : Tok} {Q : Value → Shared → Prop}
theorem ord_nm {k : Nat} (h : ∀ t tk, Q (.int (ncode k : Int) t) { s with toks := tk }) : wpAny (model prog w) A (call (.builtin "ord") [.str (nm k) t]) Q E s := P.ord_of_char (h _ _)
theorem ord_low {k : Nat} (h : ∀ t tk, Q (.int ((97 + k % 3 : Nat) : Int) t) { s with toks := tk }) : wpAny (model prog w) A (call (.builtin "ord") [.str (Txt.lower (nm k)) t]) Q E s := by
  rw [nm_lower]; exact P.ord_of_char (h _ _)
theorem chr_nm {k : Nat} (h : ∀ t tk, Q (.str (nm k) t) { s with toks := tk }) : wpAny (model prog w) A (call (.builtin "chr") [.int (ncode k : Int) t]) Q E s :=
  chr_of_range (Int.natCast_nonneg _) (by have := ncode_lt k; omega) (h _ _)
end
end
section
open PySem PySem.W PyProof.Rows
set_option maxRecDepth 100000
set_option maxHeartbeats 8000000
section
variable {w : World} {mean : ExcName → Option Value} {mg mb : Str → Option Value} {dp un : Nat} {gd : Option (List Code)} {cn : Str} {nms : List (Str × NameKind)} {ig ic : Bool} {mo : List (Str × Const)} {a : Addr} {ccd : Value} {cl : List (Str × Addr)} {outer : List Env} {A₀ : Around} {base h₀ : Heap} {L : Addr} {m : Str → Option Value} {s : Shared} {Q E : Value → Shared → Prop} {news : Led}
theorem getitemL_ok {x0 x1 x2 : Value} {l : Addr} {t : Tok} (C : Cx w mean mg mb dp un A₀ base outer h₀ L m s [(l, LCg.lst [x0, x1, x2])] 1)
   (ret : ∀ h' tk', Fr h₀ L h' m → Keep [] s.heap h' → Q x0 { s with heap := h', toks := tk' }) :
   wpAny (mdl w) (tp dp un gd cn nms ig ic mo L a ccd cl outer) (call (.ref 87) [.ref l, .int 0 t]) Q E s := by
  ((have hfill : (PySem.Challenge.rw_xl0032_01 = PySem.Challenge.rw_xl0032_01 ∧ Mine.hd.heap_1 = Mine.hd.heap_1) := by (k_fill; exact ⟨rfl, rfl⟩)); clear hfill; (rename Cx _ _ _ _ _ _ _ _ _ _ _ _ _ _ _ => Cz9); obtain ⟨Bz9, Fz9, Xz9, Nz9, Tz9, hdz9, huz9⟩ := Cz9; refine wpAny_call ?_; w_strict (k_dflt (refine' code_defM ?k1 ?k2 ?k3 ?k4 ?k5 ?kA ?kF ?kK ?k6 ?k7 ?k8 ?k9 ?kB ?_ ?c2 ?c3 ?c4 ?c5; (case kA => exact rfl); (case kF => exact rfl); (case kK => exact rfl); (case k1 => k_asm); (case k2 => k_asm); (case k3 => k_asm); (case k4 => k_asm); (case k5 => k_asm); (case k6 => k_is); (case k7 => k_is); (case k8 => ktr_room); (case k9 => first | exact BindsTo.of_eq rfl | exact binds_K (by k_in) rfl (by k_is) rfl rfl rfl); (case c5 => decide); (case kB => exact locs rfl); (case c2 => exact rfl); (case c3 => exact rfl); (case c4 => exact rfl); k_whole; intro gz9 Lz9 hz9 hGz9 FGz9 Fz8 Nz8 Bz8 Xz8 Tz8; (try dsimp only); (try k_lift Bz8); (try k_fold))))
  walk_at "tb.let"
  w_strict k_steps
  exact ret _ _ (by assumption) (by tb_rel)
theorem xor_nm_ok {k : Nat} {tx ty : Tok} (C : Cx w mean mg mb dp un A₀ base outer h₀ L m s [] 1)
   (ret : ∀ t h' tk', Fr h₀ L h' m → Keep [] s.heap h' → Q (.int (ncode (k + 3) : Int) t) { s with heap := h', toks := tk' }) :
   wpAny (mdl w) (tp dp un gd cn nms ig ic mo L a ccd cl outer) (call (.ref 66) [.int (ncode k : Int) tx, .int 32 ty]) Q E s :=
  xor_ok C fun t h' tk' F k' => by rw [nm_xor]; exact ret t h' tk' F k'
theorem qname_ok {y : Str} {t : Tok} (C : Cx w mean mg mb dp un A₀ base outer h₀ L m s news 2)
   (ret : ∀ qi qd hq kq nq h' tk', Fr h₀ L h' m → News h₀ L h' ((qi, instObj 319 qd) :: (qd, dictOf [⟨hq, .str (Str.ofString "text") kq, .str y t⟩] nq) :: news) → (∀ p ∈ news, p.1 < qd) → qd < qi → Q (.ref qi) { s with heap := h', toks := tk' }) :
   wpAny (mdl w) (tp dp un gd cn nms ig ic mo L a ccd cl outer) (call (.ref 319) [.str y t]) Q E s := by
  have hfill : (PySem.Challenge.rw_xl0032_01 = PySem.Challenge.rw_xl0032_01 ∧ Mine.hd.heap_1 = Mine.hd.heap_1) := by (k_fill; exact ⟨rfl, rfl⟩)
  clear hfill
  obtain ⟨B, F, X, N, T, hd, hu⟩ := C
  w_strict k_steps
  exact ret _ _ _ _ _ _ _ (by assumption) (by assumption) (by assumption) (by assumption)
end
end
section
open PySem PySem.W PyProof.Rows PySem.Calls
set_option maxRecDepth 100000
set_option maxHeartbeats 8000000
set_option autoImplicit false
noncomputable def OffL (l : Addr) : Led → Prop
  | [] => True
  | [p] => p.1 ≠ l
  | p :: q :: r => p.1 ≠ l ∧ OffL l (q :: r)
noncomputable abbrev cellObj : Obj := { cls := .type "cell", data := .cell none }
theorem newEnv_cell {M : Model} {A : Around} {E : Value → Shared → Prop} {s : Shared} {scope : Scope} {globals : Addr} {cl : List (Str × Addr)} {qual : Str} {env : Env} {x : Str} {Q : Env → Shared → Prop}
    (hcells : ∀ n, cellsFrom n scope.names cl = (x, n) :: cl) (hpush : ∀ h, pushCells h scope.names = h.push cellObj)
    (h : Q (newEnv scope s.heap.objs.size globals ((x, s.heap.objs.size + 1) :: cl) qual none .none (some env) builtinsNs) { s with heap := (s.heap.push { cls := .type "dict", data := .dict #[] }).push cellObj }) :
    wpAny M A (newFunctionEnv scope globals cl [] qual none .none (some env)) Q E s := by
  simp only [newFunctionEnv, Option.isSome_some, if_true]
  refine wpAny_bind (wpAny_alloc ?_)
  refine wpAny_bind (wpAny_layCells _ (fun name kind cells => by cases hkc : kind == NameKind.cell <;> simp [hkc]) _ _ _ _ ?_)
  rw [hcells, hpush]
  refine wpAny_bind (wpAny_pure (wpAny_pure ?_))
  have e : (s.heap.push { cls := .type "dict", data := .dict #[] }).objs.size = s.heap.objs.size + 1 := Heap.size_push ..
  rw [e]
  exact h
/-- what an item's turn must leave: all that stood ahead of it -/
noncomputable def CEndC (h₀ : Heap) (L : Addr) (m : Str → Option Value) (s₁ : Shared) (led : Led) (rest : Value → Prop) (y : Value) (s₂ : Shared) : Prop :=
  ∃ h' tk, s₂ = { s₁ with heap := h', toks := tk } ∧ Fr h₀ L h' m ∧ News h₀ L h' led ∧ rest y
noncomputable def Off4 (I C D Ce : Addr) : Led → Prop
  | [] => True
  | [p] => p.1 ≠ I ∧ p.1 ≠ C ∧ p.1 ≠ D ∧ p.1 ≠ Ce
  | p :: q :: r => (p.1 ≠ I ∧ p.1 ≠ C ∧ p.1 ≠ D ∧ p.1 ≠ Ce) ∧ Off4 I C D Ce (q :: r)
theorem Off4.of {I C D Ce : Addr} : ∀ {l : Led}, (∀ p ∈ l, p.1 ≠ I ∧ p.1 ≠ C ∧ p.1 ≠ D ∧ p.1 ≠ Ce) → Off4 I C D Ce l
  | [], _ => trivial
  | [p], h => h p (.head _)
  | p :: q :: r, h => ⟨h p (.head _), Off4.of fun x hx => h x (List.mem_cons_of_mem _ hx)⟩
noncomputable def RestC (prog : Program) (w : World) (A : Around) (h₀ : Heap) (L : Addr) (m : Str → Option Value) (env : Env) (elt : Expr) (x : Str) (scope : Scope) (cl : List (Str × Addr)) (s : Shared) (news : Led) (Fin : List Value → Prop) : List Value → List Value → Prop
  | [], ys => Fin ys
  | v :: r, ys => ∀ I oI C oC Ce oE D h tk (E' : Value → Shared → Prop), oE.data = Data.cell (some v) → Fr h₀ L h m → News h₀ L h ((I, oI) :: (C, oC) :: (Ce, oE) :: (D, LCg.lst ys) :: news) → Off4 I C D Ce news → (@Ne Nat I C ∧ @Ne Nat I D ∧ @Ne Nat I Ce ∧ @Ne Nat C D ∧ @Ne Nat C Ce ∧ @Ne Nat D Ce) →
      wpAny (model prog w) A (eval elt (compEnvC scope ((x, Ce) :: cl) C env)) (CEndC h₀ L m { s with heap := h, toks := tk } ((I, oI) :: (C, oC) :: (Ce, oE) :: (D, LCg.lst ys) :: news) (fun y => RestC prog w A h₀ L m env elt x scope cl s news Fin r (ys ++ [y]))) E' { s with heap := h, toks := tk }
noncomputable def FinAC (h₀ : Heap) (L : Addr) (m : Str → Option Value) (s : Shared) (y : Str) (news : Led) (Q : Flow → Shared → Prop) (ys : List Value) : Prop :=
  ∀ D h tk, Fr h₀ L h (fun z => if z = y then some (.ref D) else m z) → News h₀ L h ((D, LCg.lst ys) :: news) → OffL D news → Q .next { s with heap := h, toks := tk }
noncomputable def SrcC (prog : Program) (w : World) (A : Around) (h₀ : Heap) (L : Addr) (m : Str → Option Value) (env : Env) (elt : Expr) (x : Str) (scope : Scope) (cl : List (Str × Addr)) (Fin : Shared → Led → List Value → Prop) (xv : Value) (s₁ : Shared) : Prop :=
  ∃ ax its k news, xv = .ref ax ∧ A.handled = none ∧ Fr h₀ L s₁.heap m ∧ News h₀ L s₁.heap news ∧ (ax, listOf its k) ∈ news ∧ its.size ≤ 1000 ∧ ∀ s₂ : Shared, (∃ h, s₂ = { s₁ with heap := h }) → RestC prog w A h₀ L m env elt x scope cl s₂ news (Fin s₂ news) its.toList []
theorem SrcC.intro {prog : Program} {w : World} {A : Around} {h₀ : Heap} {L : Addr} {m : Str → Option Value} {env : Env} {elt : Expr} {x : Str} {scope : Scope} {cl : List (Str × Addr)} {Fin : Shared → Led → List Value → Prop} {s₁ : Shared} {ax : Addr} {its : Array Value} {k : Nat} {news : Led}
    (hh : A.handled = none) (F : Fr h₀ L s₁.heap m) (N : News h₀ L s₁.heap news) (hm : (ax, listOf its k) ∈ news) (hsz : its.size ≤ 1000)
    (h : ∀ g, RestC prog w A h₀ L m env elt x scope cl { s₁ with heap := g } news (Fin { s₁ with heap := g } news) its.toList []) : SrcC prog w A h₀ L m env elt x scope cl Fin (.ref ax) s₁ :=
  ⟨ax, its, k, news, rfl, hh, F, N, hm, hsz, fun _ ⟨g, e⟩ => e ▸ h g⟩
theorem OffL.of {l : Addr} : ∀ {news : Led}, (∀ p ∈ news, p.1 ≠ l) → OffL l news
  | [], _ => trivial
  | [_], h => h _ (.head _)
  | _ :: _ :: _, h => ⟨h _ (.head _), OffL.of fun x hx => h x (List.mem_cons_of_mem _ hx)⟩
inductive CInv (h₀ : Heap) (L : Addr) (m : Str → Option Value) (I ax : Addr) (its : Array Value) (news : Led) (s₁ : Shared) (R : Nat → List Value → Prop) (k : Nat) : Shared → Prop
  | mk (h' : Heap) (tk i : Nat) (ys : List Value) (x₀ : Option Value) (m' : Str → Option Value) (hi : i ≤ its.size) (hk : k = its.size + 1 - i) (hyl : ys.length = i) (hst : h'.IsListIter I ax i ∧ h'.IsList ax its) (F : Fr h₀ L h' m) (hn : h'.Ns (I + 2) m') (hc : h'.IsCell (I + 3) x₀) (N : News h₀ L h' ((I + 1, LCg.lst ys) :: news)) (r : R i ys) : CInv h₀ L m I ax its news s₁ R k { s₁ with heap := h', toks := tk }
section
variable {prog : Program} {w : World} {A : Around} {env : Env} {E : Value → Shared → Prop} {s : Shared} {h₀ : Heap} {L : Addr} {m : Str → Option Value}
theorem block_C {elt iter : Expr} {x : Str} {px : Pos} {scope : Scope} {cl : List (Str × Addr)} {pos : Pos} {s₁ : Shared} {ax : Addr} {its : Array Value} {k : Nat} {news : Led} {RR : Value → Addr → Result → Shared → Prop} {Fin : Shared → List Value → Prop}
    (hh : A.handled = none) (F : Fr h₀ L s₁.heap m) (N : News h₀ L s₁.heap news) (hm : (ax, listOf its k) ∈ news) (hsz : its.size ≤ 1000)
    (hcells : ∀ n, cellsFrom n scope.names cl = (x, n) :: cl) (hpush : ∀ h, pushCells h scope.names = h.push cellObj) (hkind : scope.kind = .function) (hx : (relabel scope env).names.lookup x = some .cell)
    (R : ∀ s₂ : Shared, (∃ h, s₂ = { s₁ with heap := h }) → RestC prog w A h₀ L m env elt x scope cl s₂ news (Fin s₂) its.toList [])
    (hRR : ∀ s₂ D C h tk m' ys, (∃ h, s₂ = { s₁ with heap := h }) → Fr h₀ L h m → News h₀ L h ((D, LCg.lst ys) :: news) → h.Ns C m' → h₀.get? C = none → h₀.get? D = none → C ≠ L → D ≠ L → C ≠ D → (∀ p ∈ news, p.1 ≠ C ∧ p.1 ≠ D) → Fin s₂ ys → RR (.ref D) C (.ok .next) { s₂ with heap := h, toks := tk }) :
    wpAny (model prog w) A (pyIter (.ref ax)) (fun it s₂ => wpAny (model prog w) A (newList []) (fun acc s₃ => wpAny (model prog w) A (newFunctionEnv scope env.globals cl [] env.qual none .none (some env)) (fun cenv s₄ =>
      codeAny (model prog w) A (.compStart (.ListComp elt [⟨.Name x px, iter, [], 0⟩] scope pos) 0 it acc { cenv with scope := relabel scope env }) (RR acc cenv.locals) s₄) E s₃) E s₂) E s₁ := by
  have hlist : s₁.heap.IsList ax its := News.isList N hm
  have haxlt : ax < s₁.heap.objs.size := Heap.lt_size (N _ hm).1
  refine wpAny_pyIter_list hlist ?_
  have W := Walks.list (prog := prog) (w := w) (A := A) hh s₁.heap.objs.size ax (Nat.ne_of_lt haxlt) its
  have R' := R { s₁ with heap := s₁.heap.push { cls := .type "list_iterator", data := .fields #[.ref ax, .int 0 0] } } ⟨_, rfl⟩
  have hLs : L < s₁.heap.objs.size := F.ns.lt
  generalize hI : s₁.heap.objs.size = I at W haxlt hLs ⊢
  refine wpAny_newObj_type (newEnv_cell hcells hpush ?_)
  -- the four new objects
  have eD : (s₁.heap.push { cls := .type "list_iterator", data := .fields #[.ref ax, .int 0 0] }).objs.size = I + 1 := by rw [Heap.size_push, hI]
  dsimp only
  generalize hH1 : s₁.heap.push { cls := .type "list_iterator", data := .fields #[.ref ax, .int 0 0] } = H1 at eD R' ⊢
  have eC : (H1.push { cls := .type "list", dict := none, data := .seq ([] : List Value).toArray }).objs.size = I + 2 := by rw [Heap.size_push, eD]
  generalize hH2 : H1.push { cls := .type "list", dict := none, data := .seq ([] : List Value).toArray } = H2 at eC ⊢
  rw [eD, eC]
  have eE : (H2.push { cls := .type "dict", data := .dict #[] }).objs.size = I + 3 := by rw [Heap.size_push, eC]
  generalize hH3 : H2.push { cls := .type "dict", data := .dict #[] } = H3 at eE ⊢
  have up : ∀ b o, s₁.heap.get? b = some o → (H3.push cellObj).get? b = some o := fun b o e => by
    refine Heap.get?_push_of_some _ ?_
    rw [← hH3]; refine Heap.get?_push_of_some _ ?_
    rw [← hH2]; refine Heap.get?_push_of_some _ ?_
    rw [← hH1]; exact Heap.get?_push_of_some _ e
  have gI : (H3.push cellObj).get? I = some { cls := .type "list_iterator", data := .fields #[.ref ax, .int 0 0] } := by
    refine Heap.get?_push_of_some _ ?_
    rw [← hH3]; refine Heap.get?_push_of_some _ ?_
    rw [← hH2]; refine Heap.get?_push_of_some _ ?_
    rw [← hH1, ← hI]; exact Heap.get?_push_size _ rfl
  have gD : (H3.push cellObj).get? (I + 1) = some (LCg.lst []) := by
    refine Heap.get?_push_of_some _ ?_
    rw [← hH3]; refine Heap.get?_push_of_some _ ?_
    rw [← hH2, ← eD]; exact Heap.get?_push_size _ rfl
  have gC : (H3.push cellObj).Ns (I + 2) (fun _ => none) := by
    have := (Heap.Ns.new H2 (.type "dict")).keeps (h' := H3.push cellObj) (fun b o e => Heap.get?_push_of_some _ (hH3 ▸ e))
    rwa [eC] at this
  have gE : (H3.push cellObj).IsCell (I + 3) none := ⟨cellObj, by rw [← eE]; exact Heap.get?_push_size _ rfl, rfl⟩
  have new₀ : ∀ b, I ≤ b → h₀.get? b = none := fun b hb => by
    cases e : h₀.get? b with
    | none => rfl
    | some o' => have := Heap.lt_size (F.keep b o' e); rw [hI] at this; exact absurd this (Nat.not_lt.mpr hb)
  have lt : ∀ p ∈ news, p.1 < I := fun p hp => hI ▸ Heap.lt_size (N p hp).1
  have offN : ∀ p ∈ news, p.1 ≠ I ∧ p.1 ≠ I + 2 ∧ p.1 ≠ I + 1 ∧ p.1 ≠ I + 3 := fun p hp => by
    have h := lt p hp
    exact ⟨Nat.ne_of_lt h, Nat.ne_of_lt (Nat.lt_add_right 2 h), Nat.ne_of_lt (Nat.lt_add_right 1 h), Nat.ne_of_lt (Nat.lt_add_right 3 h)⟩
  have nLI : L ≠ I := Nat.ne_of_lt hLs
  have nLC : L ≠ I + 2 := Nat.ne_of_lt (Nat.lt_add_right 2 hLs)
  have nLD : L ≠ I + 1 := Nat.ne_of_lt (Nat.lt_add_right 1 hLs)
  have nLE : L ≠ I + 3 := Nat.ne_of_lt (Nat.lt_add_right 3 hLs)
  have nID : @Ne Nat I (I + 1) := by omega
  have nIC : @Ne Nat I (I + 2) := by omega
  have nIE : @Ne Nat I (I + 3) := by omega
  have nCD : @Ne Nat (I + 2) (I + 1) := by omega
  have nCE : @Ne Nat (I + 2) (I + 3) := by omega
  have nDE : @Ne Nat (I + 1) (I + 3) := by omega
  have hIL : (H3.push cellObj).IsListIter I ax 0 := ⟨_, gI, rfl, rfl⟩
  have hal : (H3.push cellObj).IsList ax its := hlist.at fun o e => up _ o e
  have loop : ∀ s₃ : Shared, s₃ = { s₁ with heap := H3.push cellObj } →
      codeAny (model prog w) A (.compLoop (.ListComp elt [⟨.Name x px, iter, [], 0⟩] scope pos) 0 (.ref I) (.ref (I + 1)) (compEnvC scope ((x, I + 3) :: cl) (I + 2) env))
        (RR (.ref (I + 1)) (I + 2)) s₃ := by
    rintro s₃ rfl
    refine codeAny_compLoop_tests
      (CInv h₀ L m I ax its news s₁ (fun i ys => RestC prog w A h₀ L m env elt x scope cl { s₁ with heap := H1 } news (Fin { s₁ with heap := H1 }) (its.toList.drop i) ys)) ?_ (its.size + 1)
      ⟨_, _, 0, [], none, _, Nat.zero_le _, rfl, rfl, ⟨hIL, hal⟩, F.keeps up, gC, gE, fun p hp => ?_, R'⟩
    · rintro k' s' ⟨h', tk, i, ys, x₀, m', hi, rfl, hyl, hst', F', hn', hc', N', R'⟩
      by_cases hlt : i < its.size
      · refine W.item i _ _ _ hlt hst' fun v h₂ tk₂ hPv hst₂ hk₂ => ?_
        have hdrop : its.toList.drop i = v :: its.toList.drop (i + 1) := by
          have hl : i < its.toList.length := by simpa using hlt
          rw [List.drop_eq_getElem_cons hl]
          congr 1
          have : its.toList[i]? = some v := by rw [Array.getElem?_toList]; exact hPv
          exact Option.some.inj ((List.getElem?_eq_getElem hl).symm.trans this)
        rw [hdrop] at R'
        have keep2 : ∀ b, b ≠ I → ∀ o, h'.get? b = some o → h₂.get? b = some o := fun b hb o e => hk₂ b o (by simpa using hb) e
        have hc₂ : h₂.IsCell (I + 3) x₀ := by
          obtain ⟨o, e, d⟩ := hc'
          exact ⟨o, keep2 _ (Ne.symm nIE) o e, d⟩
        refine wpAny_assign_Name (wpAny_storeName_cell hkind hx (c := I + 3) (by simp [compEnvC, List.lookup_cons]) hc₂ fun h₃ hc₃ hs₃ => ?_)
        refine wpAny_tests_nil ?_
        simp only [if_true]
        have keep3 : ∀ b, b ≠ I → b ≠ I + 3 → ∀ o, h'.get? b = some o → h₃.get? b = some o := fun b hb hb' o e => hs₃.extBut b o hb' (keep2 b hb o e)
        have hst₃ : h₃.IsListIter I ax (i + 1) ∧ h₃.IsList ax its := W.frame _ _ _ hst₂ fun b hb o e => hs₃.extBut b o (fun q => by
          have : b = I ∨ b = ax := by simpa using hb
          rcases this with rfl | rfl
          · exact nIE q
          · exact Nat.ne_of_lt (Nat.lt_add_right 3 haxlt) q) e
        obtain ⟨oI, heI, _, _⟩ := id hst₃.1
        obtain ⟨oE, heE, hdE⟩ := hc₃
        obtain ⟨oC, heC, hoC⟩ := LCg.ns_obj (hn'.at' fun o e => keep3 (I + 2) (Ne.symm nIC) nCE o e)
        have F₃ : Fr h₀ L h₃ m := ⟨F'.ns.at' fun o e => keep3 L nLI nLE o e, fun b o e => keep3 b (fun q => by rw [q, new₀ I (Nat.le_refl _)] at e; cases e) (fun q => by rw [q, new₀ (I + 3) (Nat.le_add_right _ _)] at e; cases e) o (F'.keep b o e), F'.above⟩
        have N₃ : News h₀ L h₃ ((I, oI) :: (I + 2, oC) :: (I + 3, oE) :: (I + 1, LCg.lst ys) :: news) := fun p hp => by
          rcases List.mem_cons.mp hp with rfl | hp
          · exact ⟨heI, Ne.symm nLI, new₀ _ (Nat.le_refl _)⟩
          rcases List.mem_cons.mp hp with rfl | hp
          · exact ⟨heC, Ne.symm nLC, new₀ _ (Nat.le_add_right _ _)⟩
          rcases List.mem_cons.mp hp with rfl | hp
          · exact ⟨heE, Ne.symm nLE, new₀ _ (Nat.le_add_right _ _)⟩
          have z := N' p hp
          rcases List.mem_cons.mp hp with rfl | hp
          · exact ⟨keep3 _ (Ne.symm nID) nDE _ z.1, z.2⟩
          · exact ⟨keep3 _ (offN p hp).1 (offN p hp).2.2.2 _ z.1, z.2⟩
        refine wpAny_mono (R' I oI (I + 2) oC (I + 3) oE (I + 1) h₃ _ _ hdE F₃ N₃ (Off4.of offN) ⟨nIC, nID, nIE, nCD, nCE, nDE⟩) (fun y s₄ h₄ => ?_) fun _ _ e => e
        obtain ⟨h₄, tk₄, rfl, F₄, N₄, R₄⟩ := h₄
        have zI := (N₄ (I, oI) (.head _)).1
        have zC := (N₄ (I + 2, oC) (.tail _ (.head _))).1
        have zE := (N₄ (I + 3, oE) (.tail _ (.tail _ (.head _)))).1
        have zD := (N₄ (I + 1, LCg.lst ys) (.tail _ (.tail _ (.tail _ (.head _))))).1
        have zA := (N₄ (ax, listOf its k) (.tail _ (.tail _ (.tail _ (.tail _ hm))))).1
        refine append_at (hsz := by show ys.toArray.size ≤ sizeLine; rw [List.size_toArray, hyl]; exact Nat.le_trans (Nat.le_trans hi hsz) (by decide)) zD fun h₅ hs₅ hD₅ => ?_
        have hst₅ : h₅.IsListIter I ax (i + 1) ∧ h₅.IsList ax its := by
          obtain ⟨oI', e', q1, q2⟩ := hst₃.1
          rw [heI] at e'; cases e'
          exact ⟨⟨oI, hs₅.extBut _ _ nID zI, q1, q2⟩, ⟨_, hs₅.extBut _ _ (Nat.ne_of_lt (Nat.lt_add_right 1 haxlt)) zA, rfl, k, rfl⟩⟩
        refine ⟨its.size + 1 - (i + 1), by omega, .mk h₅ _ (i + 1) (ys ++ [y]) _ _ hlt rfl (by rw [List.length_append, List.length_singleton, hyl]) hst₅ (F₄.change hs₅ (Ne.symm nLD) (new₀ _ (Nat.le_add_right _ _)))
          ((hoC.ns zC).sameBut hs₅ nCD) ⟨oE, hs₅.extBut _ _ (Ne.symm nDE) zE, hdE⟩ (fun p hp => ?_) R₄⟩
        rcases List.mem_cons.mp hp with rfl | hp
        · exact ⟨hD₅.trans (congrArg some (LCg.lst_snoc ys y)), Ne.symm nLD, new₀ _ (Nat.le_add_right _ _)⟩
        · have z := N₄ p (.tail _ (.tail _ (.tail _ (.tail _ hp))))
          exact ⟨hs₅.extBut _ _ (offN p hp).2.2.1 z.1, z.2⟩
      · obtain rfl : i = its.size := Nat.le_antisymm hi (Nat.not_lt.mp hlt)
        have e0 : its.toList.drop its.size = [] := List.drop_eq_nil_of_le (by simp)
        rw [e0] at R'
        refine W.done _ _ _ hst' fun h₂ tk₂ hk₂ => ?_
        have keep2 : ∀ b, b ≠ I → ∀ o, h'.get? b = some o → h₂.get? b = some o := fun b hb o e => hk₂ b o (by simpa using hb) e
        refine hRR { s₁ with heap := H1 } (I + 1) (I + 2) h₂ tk₂ m' ys ⟨H1, rfl⟩ ⟨F'.ns.at' fun o e => keep2 L nLI o e, fun b o e => keep2 b (fun q => by rw [q, new₀ I (Nat.le_refl _)] at e; cases e) o (F'.keep b o e), F'.above⟩ (fun p hp => ?_) (hn'.at' fun o e => keep2 _ (Ne.symm nIC) o e) (new₀ _ (Nat.le_add_right _ _)) (new₀ _ (Nat.le_add_right _ _)) (Ne.symm nLC) (Ne.symm nLD) nCD (fun p hp => ⟨(offN p hp).2.1, (offN p hp).2.2.1⟩) R'
        have z := N' p hp
        rcases List.mem_cons.mp hp with rfl | hp
        · exact ⟨keep2 _ (Ne.symm nID) _ z.1, z.2⟩
        · exact ⟨keep2 _ (offN p hp).1 _ z.1, z.2⟩
    · rcases List.mem_cons.mp hp with rfl | hp
      · exact ⟨gD, Ne.symm nLD, new₀ _ (Nat.le_add_right _ _)⟩
      · exact ⟨up _ _ (N p hp).1, (N p hp).2⟩
  have henv : ({ (newEnv scope (I + 2) env.globals ((x, I + 2 + 1) :: cl) env.qual none .none (some env) builtinsNs) with scope := relabel scope env } : Env) = compEnvC scope ((x, I + 3) :: cl) (I + 2) env := by
    unfold newEnv compEnvC
    rfl
  rw [henv]
  exact codeAny_compStart_list (loop _ rfl) (W.self 0 _ _ _ ⟨hIL, hal⟩ (loop _ rfl))
theorem Assign_ListComp_C {elt iter : Expr} {x y : Str} {px py : Pos} {scope : Scope} {cl : List (Str × Addr)} {pos spos : Pos} {Q : Flow → Shared → Prop} (_F₀ : Fr h₀ L s.heap m) (hLe : env.locals = L)
    (hsw : swapsWith (.ListComp elt [⟨.Name x px, iter, [], 0⟩] scope pos) (some (.Name y py)) spos.line env = pure true)
    (hclos : closureFor scope env = pure cl) (hcells : ∀ n, cellsFrom n scope.names cl = (x, n) :: cl) (hpush : ∀ h, pushCells h scope.names = h.push cellObj) (hkind : scope.kind = .function)
    (hnames : ∀ y ∈ scope.names, y.2 = .local → scope.names.lookup y.1 = some .local) (hx : (relabel scope env).names.lookup x = some .cell)
    (hy : env.kindOf y = some .local) (hp : (env.scope.kind == .class || (env.scope.kind == .module && env.locals != env.globals)) = false)
    (h : wpAny (model prog w) A (eval iter env) (SrcC prog w A h₀ L m env elt x scope cl (fun s₂ news => FinAC h₀ L m s₂ y news Q)) E s)
    (hs : ∀ x, foldedSetIterable iter env x = pure x := by intro _; rfl) :
    wpAny (model prog w) A (exec (.Assign [.Name y py] (.ListComp elt [⟨.Name x px, iter, [], 0⟩] scope pos) spos) env) Q E s := by
  subst hLe
  rw [exec_Assign_Name_used _ _ _ _ hsw]
  refine wpAny_bind (wpAny_standAt (wpAny_bind ?_))
  show wpAny _ A (do let _ ← comprehension (.ListComp elt [⟨.Name x px, iter, [], 0⟩] scope pos) scope env _ (newList []) false (eval iter env) (some (assign (.Name y py) env))) _ _ s
  refine wpAny_bind (wpAny_mono (wpAny_comprehension_free (use := some (assign (.Name y py) env)) (Q := fun _ s' => Q .next s') rfl hs hclos hkind hnames
    (wpAny_mono h (fun xv s₁ h₁ => ?_) fun _ _ e => e)) (fun _ s' hq => wpAny_pure (wpAny_pure hq)) fun _ _ e => e)
  obtain ⟨ax, its, k, news, rfl, hh, F, N, hm, hsz, R⟩ := h₁
  refine block_C (Fin := fun s₂ => FinAC h₀ env.locals m s₂ y news Q) (RR := fun acc C => compPost (model prog w) A E (some (assign (.Name y py) env)) (fun _ s' => Q .next s') acc C) hh F N hm hsz hcells hpush hkind hx R ?_
  rintro s₂ D C h tk m' ys ⟨g, rfl⟩ F' N' hn hC₀ hD₀ hCL hDL hCD off fin
  show wpAny _ A (assign (.Name y py) env (.ref D)) _ _ _
  refine wpAny_assign_Name (wpAny_storeName_local hy F'.ns (fun h₂ hn₂ hs₂ => ?_) hp)
  have hL₀ : h₀.get? env.locals = none := Heap.get?_none_of_le F'.above
  have F₂ : Fr h₀ env.locals h₂ (fun z => if z = y then some (.ref D) else m z) := ⟨hn₂, fun b o e => hs₂.extBut b o (fun q => by rw [q, hL₀] at e; cases e) (F'.keep b o e), F'.above⟩
  refine ⟨m', hn.sameBut hs₂ hCL, fun h₃ hs₃ => fin D h₃ _ (F₂.change hs₃ hCL hC₀) (fun p hp => ?_) (OffL.of fun p hp => (off p hp).2)⟩
  have z := N' p hp
  refine ⟨hs₃.extBut _ _ ?_ (hs₂.extBut _ _ z.2.1 z.1), z.2⟩
  rcases List.mem_cons.mp hp with rfl | hp
  · exact Ne.symm hCD
  · exact (off p hp).1
end
end
section
open PySem PySem.W PyProof.Rows
set_option maxRecDepth 100000
set_option maxHeartbeats 8000000
noncomputable def HaltF (P : Prop) : Prop := P
theorem HaltF.intro {P : Prop} (h : HaltF P) : P := h
noncomputable def row3 (y00 y01 y02 y10 y11 y12 y20 y21 y22 : Str) (p j : Nat) : Str := sel3 p (sel3 j y00 y01 y02) (sel3 j y10 y11 y12) (sel3 j y20 y21 y22)
noncomputable def ms3 (x0 x1 x2 : Str) (r : Nat) : Str := sel3 r x0 x1 x2

inductive SIAt (h₀ : Heap) (L : Addr) (m : Str → Option Value) (news : Led) (s s' : Shared) : Prop
  | mk (h : Heap) (tk : Nat) (e : s' = { s with heap := h, toks := tk }) (F : Fr h₀ L h m) (N : News h₀ L h news) : SIAt h₀ L m news s s'
theorem SIAt.ind {h₀ : Heap} {L : Addr} {m : Str → Option Value} {news : Led} {s : Shared} {P : Shared → Prop} (k : ∀ h tk, Fr h₀ L h m → News h₀ L h news → P { s with heap := h, toks := tk }) (s' : Shared) (hs : SIAt h₀ L m news s s') : P s' := by
  cases hs with | mk h tk e F N => exact e ▸ k h tk F N
structure SIC (b : Bool) (h₀ : Heap) (L : Addr) (m : Str → Option Value) (news : Led) (s : Shared) (k : Bool) (s' : Shared) : Prop where
  out : k = b
  here : SIAt h₀ L m news s s'
structure SIV (x : Str) (v : Int) (h₀ : Heap) (L : Addr) (m : Str → Option Value) (news : Led) (s : Shared) (f : Flow) (s' : Shared) : Prop where
  next : f = .next
  here : ∃ t : Tok, SIAt h₀ L (fun y => if y = x then some (.int v t) else m y) news s s'
noncomputable abbrev tupB (c : Int) (t : Tok) (y : Str) (u : Tok) : Obj := { cls := .type "tuple", data := .seq #[.int c t, .str y u] }
structure SBV (c : Int) (y : Str) (h₀ : Heap) (L : Addr) (m : Str → Option Value) (news : Led) (s : Shared) (f : Flow) (s' : Shared) : Prop where
  next : f = .next
  here : ∃ (D : Addr) (t u : Tok), SIAt h₀ L (fun z => if z = Str.ofString "best" then some (.ref D) else m z) ((D, tupB c t y u) :: news) s s'
theorem SIC.intro {b k : Bool} {h₀ h : Heap} {L : Addr} {m : Str → Option Value} {news : Led} {s : Shared} {tk : Nat} (F : Fr h₀ L h m) (N : News h₀ L h news) (e : k = b) : SIC b h₀ L m news s k { s with heap := h, toks := tk } := ⟨e, h, tk, rfl, F, N⟩
theorem SIV.intro {x : Str} {v : Int} {h₀ h : Heap} {L : Addr} {m : Str → Option Value} {news : Led} {s : Shared} {t : Tok} {tk : Nat} (F : Fr h₀ L h (fun y => if y = x then some (.int v t) else m y)) (N : News h₀ L h news) : SIV x v h₀ L m news s .next { s with heap := h, toks := tk } := ⟨rfl, t, h, tk, rfl, F, N⟩
theorem SBV.intro {c : Int} {y : Str} {h₀ h : Heap} {L D : Addr} {m : Str → Option Value} {news : Led} {s : Shared} {t u : Tok} {tk : Nat} (F : Fr h₀ L h (fun z => if z = Str.ofString "best" then some (.ref D) else m z)) (N : News h₀ L h ((D, tupB c t y u) :: news)) : SBV c y h₀ L m news s .next { s with heap := h, toks := tk } := ⟨rfl, D, t, u, h, tk, rfl, F, N⟩
noncomputable def SIB1 (P : Prop) : Prop := P
noncomputable def SIB2 (P : Prop) : Prop := P
noncomputable def SBB2 (P : Prop) : Prop := P
noncomputable def bestB (b0 : Int) (y0 : Str) (c : Int) (y : Str) : Bool := decide (c < b0) || (c == b0 && decide (y.cps.toList < y0.cps.toList))
section
variable {M : Model} {A : Around} {E : Value → Shared → Prop} {s : Shared} {env : Env} {h₀ : Heap} {L : Addr} {m : Str → Option Value} {news : Led}
theorem si_if {test e : Expr} {st : Stmt} {x : Str} {pos p4 p10 : Pos} {c v : Int} {t₀ : Tok} {b : Bool} {Q : Flow → Shared → Prop} (_F : Fr h₀ L s.heap m) (_N : News h₀ L s.heap news) (_hst : st = .Assign [.Name x p4] e p10) (hold : m x = some (.int c t₀))
    (hc : wpAny M A (isTrue test env (eval test env)) (fun k s₂ => SIC b h₀ L m news s k s₂) E s)
    (hv : SIB1 (∀ s₂, SIAt h₀ L m news s s₂ → wpAny M A (exec st env) (fun f s₃ => SIV x v h₀ L m news s f s₃) E s₂))
    (hk : SIB2 (∀ (t : Tok) (s₃ : Shared), SIAt h₀ L (fun y => if y = x then some (.int (if b then v else c) t) else m y) news s s₃ → Q .next s₃)) :
    wpAny M A (exec (.If test [st] [] pos) env) Q E s := by
  refine wpAny_If (wpAny_mono hc (fun k s₂ hkc => ?_) fun _ _ h => h)
  obtain ⟨rfl, hat⟩ := hkc
  cases k with
  | true =>
    show wpAny M A (execs [st] env) Q E s₂
    refine wpAny_execs_cons (wpAny_mono (hv s₂ hat) (fun f s₃ hf => ?_) fun _ _ h => h)
    obtain ⟨rfl, t, ht⟩ := hf
    exact wpAny_execs_nil (hk t s₃ ht)
  | false =>
    show wpAny M A (execs [] env) Q E s₂
    refine wpAny_execs_nil (hk t₀ s₂ ?_)
    have e : (fun y => if y = x then some (Value.int (if false = true then v else c) t₀) else m y) = m := by
      funext y
      by_cases hy : y = x
      · rw [if_pos hy, hy, hold]; rfl
      · rw [if_neg hy]
    rw [e]
    exact hat
theorem best_if {test : Expr} {st : Stmt} {e : Expr} {pos p4 p10 : Pos} {c b0 : Int} {y y0 : Str} {D : Addr} {tb uy tc ty : Tok} {Q : Flow → Shared → Prop} (_F : Fr h₀ L s.heap m) (_N : News h₀ L s.heap news) (_hst : st = .Assign [.Name (Str.ofString "best") p4] e p10) (hb : m (Str.ofString "best") = some (.ref D)) (hD : (D, tupB b0 tb y0 uy) ∈ news) (_hcost : m (Str.ofString "cost") = some (.int c tc)) (_hway : m (Str.ofString "way") = some (.str y ty))
    (hc : wpAny M A (isTrue test env (eval test env)) (fun k s₂ => SIC (bestB b0 y0 c y) h₀ L m news s k s₂) E s)
    (hv : SIB1 (∀ s₂, SIAt h₀ L m news s s₂ → wpAny M A (exec st env) (fun f s₃ => SBV c y h₀ L m news s f s₃) E s₂))
    (hk : SBB2 (∀ (D' : Addr) (t u : Tok) (s₃ : Shared), SIAt h₀ L (fun z => if z = Str.ofString "best" then some (.ref D') else m z) ((D', tupB (eaBest1 (b0, y0) c y).1 t (eaBest1 (b0, y0) c y).2 u) :: news) s s₃ → Q .next s₃)) :
    wpAny M A (exec (.If test [st] [] pos) env) Q E s := by
  refine wpAny_If (wpAny_mono hc (fun k s₂ hkc => ?_) fun _ _ h => h)
  obtain ⟨hkb, hat⟩ := hkc
  have hiff : bestB b0 y0 c y = true ↔ (c < b0 ∨ (c = b0 ∧ sLt y y0)) := by
    unfold bestB
    simp
  cases k with
  | true =>
    show wpAny M A (execs [st] env) Q E s₂
    refine wpAny_execs_cons (wpAny_mono (hv s₂ hat) (fun f s₃ hf => ?_) fun _ _ h => h)
    obtain ⟨rfl, D', t, u, ht⟩ := hf
    have e : eaBest1 (b0, y0) c y = (c, y) := if_pos (hiff.mp hkb.symm)
    refine wpAny_execs_nil (hk D' t u s₃ ?_)
    rw [e]; exact ht
  | false =>
    show wpAny M A (execs [] env) Q E s₂
    have e : eaBest1 (b0, y0) c y = (b0, y0) := if_neg (fun q => by rw [hiff.mpr q] at hkb; cases hkb)
    refine wpAny_execs_nil (hk D tb uy s₂ ?_)
    rw [e]
    have e : (fun z => if z = Str.ofString "best" then some (Value.ref D) else m z) = m := by
      funext y
      by_cases hy : y = Str.ofString "best"
      · rw [if_pos hy, hy, hb]
      · rw [if_neg hy]
    rw [e]
    obtain ⟨h, tk, rfl, F, N⟩ := hat
    exact ⟨h, tk, rfl, F, fun p hp => by
      rcases List.mem_cons.mp hp with rfl | hp
      · exact N _ hD
      · exact N _ hp⟩
end
theorem row_at {q0 q1 q2 : Addr} {y00 y01 y02 y10 y11 y12 y20 y21 y22 : Str} {t00 t01 t02 t10 t11 t12 t20 t21 t22 : Tok} {j0 j1 j2 : Nat} {P : Prop} (n : Nat)
    (h : ∀ (q : Addr) (ta tb tc : Tok) (jj : Nat), ((q = q0 ∨ q = q1 ∨ q = q2) ∧ (∀ rest : Led, (q0, listOf #[.str y00 t00, .str y01 t01, .str y02 t02] j0) ∈ rest → (q1, listOf #[.str y10 t10, .str y11 t11, .str y12 t12] j1) ∈ rest → (q2, listOf #[.str y20 t20, .str y21 t21, .str y22 t22] j2) ∈ rest → (q, listOf #[.str (row3 y00 y01 y02 y10 y11 y12 y20 y21 y22 (n % 3) 0) ta, .str (row3 y00 y01 y02 y10 y11 y12 y20 y21 y22 (n % 3) 1) tb, .str (row3 y00 y01 y02 y10 y11 y12 y20 y21 y22 (n % 3) 2) tc] jj) ∈ rest)) → [Value.ref q0, .ref q1, .ref q2][(((97 + (n + 3) % 3 : Nat) : Int) - 97).toNat]? = some (.ref q) → P) : P := by
  have e : (((97 + (n + 3) % 3 : Nat) : Int) - 97).toNat = n % 3 := by omega
  rw [e] at h
  rcases (by omega : n % 3 = 0 ∨ n % 3 = 1 ∨ n % 3 = 2) with e | e | e
  · rw [e] at h; exact h q0 t00 t01 t02 j0 ⟨.inl rfl, fun _ a _ _ => a⟩ rfl
  · rw [e] at h; exact h q1 t10 t11 t12 j1 ⟨.inr (.inl rfl), fun _ _ a _ => a⟩ rfl
  · rw [e] at h; exact h q2 t20 t21 t22 j2 ⟨.inr (.inr rfl), fun _ _ _ a => a⟩ rfl

noncomputable def eaIter (cs : List Int) (ms : Nat → Str) (row : Nat → Nat → Str) (e : EaSt) : Nat → EaSt
  | 0 => e
  | n + 1 => eaTurn cs ms (row (n % 3) 0) (row (n % 3) 1) (row (n % 3) 2) (eaIter cs ms row e n)
structure EaFr (m' : Str → Option Value) (lw lm lk ls : Addr) (kept gained : Int) : Prop where
  wishes : m' (Str.ofString "wishes") = some (.ref lw)
  marks : m' (Str.ofString "marks") = some (.ref lm)
  costs : m' (Str.ofString "costs") = some (.ref lk)
  steps : m' (Str.ofString "steps") = some (.ref ls)
  kept : ∃ t, m' (Str.ofString "kept") = some (.int kept t)
  gained : ∃ t, m' (Str.ofString "gained") = some (.int gained t)
theorem eaLook_eq {m' : Str → Option Value} {lw lm lk ls : Addr} {kept gained : Int} {tk tg : Tok} (h1 : m' (Str.ofString "wishes") = some (.ref lw)) (h2 : m' (Str.ofString "marks") = some (.ref lm)) (h3 : m' (Str.ofString "costs") = some (.ref lk)) (h4 : m' (Str.ofString "steps") = some (.ref ls)) (h5 : m' (Str.ofString "kept") = some (.int kept tk)) (h6 : m' (Str.ofString "gained") = some (.int gained tg)) :
    m' = fun y => if y = Str.ofString "steps" then some (.ref ls) else if y = Str.ofString "gained" then some (.int gained tg) else if y = Str.ofString "kept" then some (.int kept tk) else if y = Str.ofString "wishes" then some (.ref lw) else if y = Str.ofString "marks" then some (.ref lm) else if y = Str.ofString "costs" then some (.ref lk) else m' y := by
  funext y
  by_cases e4 : y = Str.ofString "steps"
  · rw [if_pos e4, e4, h4]
  rw [if_neg e4]
  by_cases e6 : y = Str.ofString "gained"
  · rw [if_pos e6, e6, h6]
  rw [if_neg e6]
  by_cases e5 : y = Str.ofString "kept"
  · rw [if_pos e5, e5, h5]
  rw [if_neg e5]
  by_cases e1 : y = Str.ofString "wishes"
  · rw [if_pos e1, e1, h1]
  rw [if_neg e1]
  by_cases e2 : y = Str.ofString "marks"
  · rw [if_pos e2, e2, h2]
  rw [if_neg e2]
  by_cases e3 : y = Str.ofString "costs"
  · rw [if_pos e3, e3, h3]
  rw [if_neg e3]
theorem news_add {h h' h₀ : Heap} {L l : Addr} {o : Obj} {news : Led} (k : Keep [] h h') (N : News h₀ L h news) (N9 : News h₀ L h' [(l, o)]) (_hf : h.get? l = none) : News h₀ L h' ((l, o) :: news) := fun p hp => by
  rcases List.mem_cons.mp hp with rfl | hp
  · exact N9 _ (.head _)
  · exact Keep.all k N p hp
theorem news_off1 {h h₀ : Heap} {L l : Addr} {p : Addr × Obj} {news : Led} (hf : h.get? l = none) (N : News h₀ L h news) (hp : p ∈ news) : p.1 ≠ l := fun e => by
  have := (N p hp).1
  rw [e, hf] at this; cases this
theorem news_off {h h₀ : Heap} {L l : Addr} (hf : h.get? l = none) : ∀ {news : Led}, News h₀ L h news → OffL l news
  | [], _ => trivial
  | [_], N => news_off1 hf N (.head _)
  | _ :: _ :: _, N => ⟨news_off1 hf N (.head _), news_off hf (fun x hx => N x (List.mem_cons_of_mem _ hx))⟩
theorem ne_data {h₀ h : Heap} {L a b : Addr} {o o' : Obj} {led : Led} (N : News h₀ L h led) (h1 : (a, o) ∈ led) (h2 : (b, o') ∈ led) (hne : o.data ≠ o'.data) : a ≠ b := by
  rintro rfl
  have e1 := (N _ h1).1
  have e2 := (N _ h2).1
  dsimp only at e1 e2
  rw [e1] at e2
  exact hne (congrArg Obj.data (Option.some.inj e2))
noncomputable def MkP1 (_ : Nat) : Prop := True
noncomputable def MkP2 (_ : Nat) : Prop := True
noncomputable def MkP3 (_ : Nat) : Prop := True
theorem news_cons {h₀ h : Heap} {L : Addr} {led : Led} {p : Addr × Obj} (N : News h₀ L h led) (hp : p ∈ led) : News h₀ L h (p :: led) := fun x hx => by
  rcases List.mem_cons.mp hx with rfl | hx
  · exact N _ hp
  · exact N _ hx
theorem item_row {prog : Program} {w : World} {A : Around} {E : Value → Shared → Prop} {s : Shared} {h₀ : Heap} {L : Addr} {D : Addr} {vs : Array Value} {e : Nat} {news : Led} {value slice : PySem.Expr} {k : Int} {u : Tok} {x : Value} {Q : Value → Shared → Prop} (N : News h₀ L s.heap news) (hm : (D, listOf vs e) ∈ news) (h0 : 0 ≤ k) (hfit : k < 2 ^ 63) (hx : vs.toList[k.toNat]? = some x) (h : Q x s)
    (hs : subscripted slice false (.ref D) (.int k u) = operate [.ref D, .int k u] (getItem (.ref D) (.int k u)) := by with_unfolding_all rfl) (hg : ∀ r, letTemporaryGo value (.ref D) r = pure () := by intro _; with_unfolding_all rfl) : wpAny (model prog w) A (subscriptTail value slice (.ref D) (.int k u)) Q E s :=
  item_list (News.isList N hm) h0 hfit (by rwa [Array.getElem?_toList] at hx) h hs hg
theorem oth_eq (b0 b1 b2 : Bool) : (((if b0 = true then 1 else 0) + (if b1 = true then 1 else 0) + (if b2 = true then 1 else 0) - (if b0 = true then 1 else 0)) : Int) = (oN b1 b2 : Nat) := by
  cases b0 <;> cases b1 <;> cases b2 <;> decide
theorem oN_le (b1 b2 : Bool) : oN b1 b2 ≤ 2 := by cases b1 <;> cases b2 <;> decide
theorem named {P : Prop} {ls : Addr} {o : Obj} {r : Led} {h₀ h : Heap} {L : Addr} (_N : News h₀ L h ((ls, o) :: r)) (k : ∀ x, x = ls → P) : P := k _ rfl
inductive EaJ (g : Nat → EaSt) (ti td tl lw lm lk ls ca cb : Addr) (hh : Int) (kt : Tok) (nd : Nat) (rest : Led) (n : Nat) (m' : Str → Option Value) (news' : Led) : Prop
  | mk (e : EaSt) (p0 p1 p2 : Addr) (nl e1 : Nat) (t0 t1 t2 u0 u1 u2 : Tok) (vs : List Value) (oN oT : Obj) (xN : Option Value) (he : e = g n) (hn : n ≤ 81) (hlt : ∀ j, j < n → (g j).kept ≠ 3) (S : EaFr m' lw lm lk ls e.kept e.gained) (hvs : StrsAre vs e.steps) (hvl : vs.length = n)
    (z2 : oN.data = Data.cell xN) (z4 : oT.data = Data.cell (some (.ref ti)))
    (hw : news' = (ls, listOf vs.toArray e1) :: (ca, oN) :: (cb, oT) :: (ti, instObj 241 td) :: (td, dictOf [⟨hh, .str (Str.ofString "_headers") kt, .ref tl⟩] nd) :: (tl, listOf #[.ref p0, .ref p1, .ref p2] nl) :: (p0, tup2 (nm n) t0 e.w0 u0) :: (p1, tup2 (nm (n + 1)) t1 e.w1 u1) :: (p2, tup2 (nm (n + 2)) t2 e.w2 u2) :: rest) : EaJ g ti td tl lw lm lk ls ca cb hh kt nd rest n m' news'
-- the loop over a player's three ways
noncomputable abbrev wayF (vb vp vc vr vw : Option Value) (mB : Str → Option Value) : Str → Option Value := fun z => if z = Str.ofString "best" then vb else if z = Str.ofString "paid" then vp else if z = Str.ofString "cost" then vc else if z = Str.ofString "road" then vr else if z = Str.ofString "way" then vw else mB z
noncomputable def wBest (c : Nat → Int) (y : Nat → Str) : Nat → Int × Str
  | 0 => (c 0, y 0)
  | i + 1 => eaBest1 (wBest c y i) (c (i + 1)) (y (i + 1))
noncomputable def wPaid (c : Nat → Int) (y : Nat → Str) (now : Str) : Nat → Int
  | 0 => 0
  | i + 1 => eaPaid1 (wPaid c y now i) (y i) now (c i)
noncomputable def wCost (cs : List Int) (y : Str) (ms : Nat → Str) (o : Nat → Nat) : Nat → Int
  | 0 => 0
  | r + 1 => eaAdd (wCost cs y ms o r) (hasT y (ms r)) (cs.getD (3 * r + o r) 0)
inductive WayJ (mB : Str → Option Value) (base : Led) (c : Nat → Int) (y : Nat → Str) (now : Str) (i : Nat) (m' : Str → Option Value) (news' : Led) : Prop
  | mk (tp : Tok) (vc vr vw : Option Value) (vb : Value) (D : Addr) (oD : Obj) (e1 : m' = wayF (some vb) (some (.int (wPaid c y now i) tp)) vc vr vw mB) (e2 : news' = (D, oD) :: base)
    (hb : (i = 0 ∧ vb = .none ∧ (D, oD) ∈ base) ∨ (∃ j t u, i = j + 1 ∧ vb = .ref D ∧ oD = tupB (wBest c y j).1 t (wBest c y j).2 u)) : WayJ mB base c y now i m' news'
inductive WayEnd (h₀ : Heap) (L : Addr) (mB : Str → Option Value) (base : Led) (b : Int × Str) (p : Int) (s s' : Shared) : Prop
  | mk (h : Heap) (tk : Nat) (tp : Tok) (vc vr vw : Option Value) (D : Addr) (t u : Tok) (e : s' = { s with heap := h, toks := tk }) (F : Fr h₀ L h (wayF (some (.ref D)) (some (.int p tp)) vc vr vw mB)) (N : News h₀ L h ((D, tupB b.1 t b.2 u) :: base)) : WayEnd h₀ L mB base b p s s'
noncomputable def WayN (P : Shared → Prop) (f : Flow) (s' : Shared) : Prop := f = .next ∧ P s'
theorem way_cut {M : Model} {A : Around} {E : Value → Shared → Prop} {s : Shared} {env : Env} {h₀ : Heap} {L : Addr} {mB : Str → Option Value} {base : Led} {st : Stmt} {Q : Flow → Shared → Prop} (c : Nat → Int) (y : Nat → Str) (now : Str) (_F : Fr h₀ L s.heap mB) (_N : News h₀ L s.heap base)
    (h1 : wpAny M A (exec st env) (WayN (WayEnd h₀ L mB base (wBest c y 2) (wPaid c y now 3) s)) E s)
    (h2 : ∀ s', WayEnd h₀ L mB base (wBest c y 2) (wPaid c y now 3) s s' → Q .next s') : wpAny M A (exec st env) Q E s :=
  wpAny_mono h1 (fun f s' h => by obtain ⟨rfl, h⟩ := h; exact h2 s' h) fun _ _ h => h
noncomputable def RoadJ (vb vp : Option Value) (vw : Option Value) (mB : Str → Option Value) (led : Led) (cs : List Int) (y : Str) (ms : Nat → Str) (o : Nat → Nat) (r : Nat) (m' : Str → Option Value) (news' : Led) : Prop :=
  news' = led ∧ ∃ (t : Tok) (vr : Option Value), m' = wayF vb vp (some (.int (wCost cs y ms o r) t)) vr vw mB
theorem road_m {vb vp vc vw v' : Option Value} {vr vr' : Option Value} {mB : Str → Option Value} : (fun y => if y = Str.ofString "cost" then v' else (fun y => if y = Str.ofString "road" then vr' else wayF vb vp vc vr vw mB y) y) = wayF vb vp v' vr' vw mB := by
  funext z
  by_cases h1 : z = Str.ofString "cost"
  · subst h1; with_unfolding_all rfl
  by_cases h2 : z = Str.ofString "road"
  · subst h2; with_unfolding_all rfl
  simp only [wayF, if_neg h1, if_neg h2]
theorem fin3 {r : Nat} (h : r < 3) : r = 0 ∨ r = 1 ∨ r = 2 := by omega
theorem item9 {c0 c1 c2 c3 c4 c5 c6 c7 c8 : Int} {s0 s1 s2 s3 s4 s5 s6 s7 s8 : Tok} (k : Nat) (h9 : k < 9) : ∃ t, ([.int c0 s0, .int c1 s1, .int c2 s2, .int c3 s3, .int c4 s4, .int c5 s5, .int c6 s6, .int c7 s7, .int c8 s8] : List Value)[k]? = some (.int ([c0, c1, c2, c3, c4, c5, c6, c7, c8].getD k 0) t) := by
  rcases (by omega : k = 0 ∨ k = 1 ∨ k = 2 ∨ k = 3 ∨ k = 4 ∨ k = 5 ∨ k = 6 ∨ k = 7 ∨ k = 8) with rfl | rfl | rfl | rfl | rfl | rfl | rfl | rfl | rfl <;> exact ⟨_, rfl⟩
section
variable {prog : Program} {w : World} {A : Around} {E : Value → Shared → Prop} {s : Shared} {env : Env} {h₀ : Heap} {target : Expr} {body : List Stmt} {Q : Flow → Shared → Prop} {mB : Str → Option Value} {base : Led}
theorem way_m00 {vb vp : Option Value} (hb : mB (Str.ofString "best") = vb) (hp : mB (Str.ofString "paid") = vp) : mB = wayF vb vp (mB (Str.ofString "cost")) (mB (Str.ofString "road")) (mB (Str.ofString "way")) mB := by
  funext z
  by_cases h1 : z = Str.ofString "best"
  · subst h1; exact hb
  by_cases h2 : z = Str.ofString "paid"
  · subst h2; exact hp
  by_cases h3 : z = Str.ofString "cost"
  · subst h3; with_unfolding_all rfl
  by_cases h4 : z = Str.ofString "road"
  · subst h4; with_unfolding_all rfl
  by_cases h5 : z = Str.ofString "way"
  · subst h5; with_unfolding_all rfl
  simp only [wayF, if_neg h1, if_neg h2, if_neg h3, if_neg h4, if_neg h5]
theorem road_init {vb vp vc vr vw v' w' : Option Value} : (fun y => if y = Str.ofString "cost" then v' else if y = Str.ofString "way" then w' else wayF vb vp vc vr vw mB y) = wayF vb vp v' vr w' mB := by
  funext z
  by_cases h1 : z = Str.ofString "cost"
  · subst h1; with_unfolding_all rfl
  by_cases h2 : z = Str.ofString "way"
  · subst h2; with_unfolding_all rfl
  simp only [wayF, if_neg h1, if_neg h2]
theorem way_loop {q : Addr} {jj : Nat} {ta tb tc tp₀ : Tok} {c : Nat → Int} {y : Nat → Str} {now : Str} (hh : A.handled = none) (F : Fr h₀ env.locals s.heap mB) (N : News h₀ env.locals s.heap base) (hm : (q, listOf #[.str (y 0) ta, .str (y 1) tb, .str (y 2) tc] jj) ∈ base) (hb : mB (Str.ofString "best") = some .none) (hp : mB (Str.ofString "paid") = some (.int 0 tp₀))
    (step : ∀ (I : Addr) (i : Nat) (tw tp : Tok) (vc vr vw : Option Value) (vb : Value) (D : Addr) (oD oI : Obj) h tk, (∀ p ∈ base, p.1 < I) → i < 3 → oI.cls = .type "list_iterator" → ((i = 0 ∧ vb = .none ∧ (D, oD) ∈ base) ∨ (∃ j t u, i = j + 1 ∧ vb = .ref D ∧ oD = tupB (wBest c y j).1 t (wBest c y j).2 u)) →
      Fr h₀ env.locals h (wayF (some vb) (some (.int (wPaid c y now i) tp)) vc vr vw mB) → News h₀ env.locals h ((I, oI) :: (D, oD) :: base) →
      wpAny (model prog w) A (assign target env (.str (y i) tw)) (fun _ s₂ => wpAny (model prog w) A (execs body env) (UnrPostW h₀ env.locals { s with heap := h, toks := tk } [(I, oI)] (fun m' n' => SubL [(q, listOf #[.str (y 0) ta, .str (y 1) tb, .str (y 2) tc] jj)] n' ∧ WayJ mB base c y now (i + 1) m' n') Q) E s₂) E { s with heap := h, toks := tk })
    (fin : ∀ s', WayEnd h₀ env.locals mB base (wBest c y 2) (wPaid c y now 3) s s' → Q .next s') :
    wpAny (model prog w) A (pyIter (.ref q)) (fun it s₂ => TurnsAt prog w A h₀ env target body Q E it s₂) E s := by
  refine iter_listTurns (vs := [.str (y 0) ta, .str (y 1) tb, .str (y 2) tc]) hh F (news_cons N hm) (.head _) rfl rfl fun I hI => ?_
  refine items_ind (WayJ mB base c y now) ?step ?fin 3 0 _ _ rfl ⟨tp₀, _, _, _, .none, _, _, way_m00 hb hp, rfl, .inl ⟨rfl, rfl, hm⟩⟩
  case fin =>
    intro m' news' h' tk' hJ F' N'
    obtain ⟨tp, vc, vr, vw, vb, D, oD, rfl, rfl, hb⟩ := hJ
    rcases hb with ⟨hj, _⟩ | ⟨j, t, u, hj, rfl, rfl⟩
    · exact absurd (show 3 = 0 from hj) (by decide)
    · obtain rfl : j = 2 := by have : 3 = j + 1 := hj; omega
      exact fin _ ⟨h', tk', tp, vc, vr, vw, D, t, u, rfl, F', N'⟩
  case step =>
    intro i itm m' news' v h' tk' hit hJ hv F'
    have hi : i < 3 := (List.getElem?_eq_some_iff.mp hit).1
    obtain ⟨tw, rfl⟩ : ∃ t, itm = .val (.str (y i) t) := by
      rcases fin3 hi with rfl | rfl | rfl <;> exact ⟨_, (Option.some.inj hit).symm⟩
    obtain rfl : v = .str (y i) tw := hv
    obtain ⟨tp, vc, vr, vw, vb, D, oD, rfl, rfl, hb⟩ := hJ
    exact AllObj.cons fun oI hIc => AllObj.nil fun N' => step I i tw tp vc vr vw vb D oD oI h' tk' (fun p hp => hI p (.tail _ hp)) hi hIc hb F' N'
theorem road_loop {r₀ : Addr} {t₁ u₁ v₁ t₀ : Tok} {vb vp vr vw : Option Value} {m : Str → Option Value} (cs : List Int) (y : Str) (ms : Nat → Str) (o : Nat → Nat) (hh : A.handled = none) (F : Fr h₀ env.locals s.heap m) (N : News h₀ env.locals s.heap base) (hr : IsRange s.heap r₀ 0 3 1 t₁ u₁ v₁) (hm : m = wayF vb vp (some (.int 0 t₀)) vr vw mB)
    (step : ∀ (I : Addr) (r : Nat) (tr tc : Tok) (vr : Option Value) (oI : Obj) h tk, (∀ p ∈ base, p.1 < I) → r < 3 → Fr h₀ env.locals h (wayF vb vp (some (.int (wCost cs y ms o r) tc)) vr vw mB) → News h₀ env.locals h ((I, oI) :: base) →
      wpAny (model prog w) A (assign target env (.int (0 + ((0 + r : Nat) : Int)) tr)) (fun _ s₂ => wpAny (model prog w) A (execs body env) (UnrPostW h₀ env.locals { s with heap := h, toks := tk } [(I, oI)] (fun m' n' => SubL [] n' ∧ RoadJ vb vp vw mB base cs y ms o (r + 1) m' n') Q) E s₂) E { s with heap := h, toks := tk })
    (fin : ∀ (tc : Tok) (vr : Option Value) h tk, Fr h₀ env.locals h (wayF vb vp (some (.int (wCost cs y ms o 3) tc)) vr vw mB) → News h₀ env.locals h base → Q .next { s with heap := h, toks := tk }) :
    wpAny (model prog w) A (pyIter (.ref r₀)) (fun it s₂ => TurnsAt prog w A h₀ env target body Q E it s₂) E s := by
  subst hm
  refine iter_rangeTurns (n := 3) hh F N hr (by decide) (by rfl) fun I hI => ?_
  refine items_ind (RoadJ vb vp vw mB base cs y ms o) ?step ?fin 3 0 _ _ rfl ⟨rfl, _, _, rfl⟩
  case fin =>
    intro m' news' h' tk' hJ F' N'
    obtain ⟨rfl, t, vr, rfl⟩ := hJ
    exact fin t vr h' tk' F' N'
  case step =>
    intro r itm m' news' v h' tk' hit hJ hv F'
    have hr : r < 3 := (List.getElem?_eq_some_iff.mp hit).1
    obtain rfl := Option.some.inj ((tokInts_get 0 3 0 r hr).symm.trans hit)
    obtain ⟨tv, rfl⟩ := hv
    obtain ⟨rfl, t, vr, rfl⟩ := hJ
    exact AllObj.cons fun oI hIc => AllObj.nil fun N' => step I r tv t vr oI h' tk' hI hr F' N'
end
structure HC (P : Prop) : Prop where
  out : P
theorem bestB_t {c b0 : Int} {y y0 : Str} (h : c < b0) : true = bestB b0 y0 c y := by simp [bestB, h]
theorem bestB_f {c b0 : Int} {y y0 : Str} (h : ¬ c < b0) (h' : (c == b0) = false) : false = bestB b0 y0 c y := by simp only [bestB, h, h', decide_false, Bool.false_or, Bool.false_and]
theorem bestB_f2 {c b0 : Int} {y y0 : Str} (h : ¬ c < b0) (h' : ¬ c = b0) : false = bestB b0 y0 c y := bestB_f h (beq_eq_false_iff_ne.mpr h')
theorem bestB_q {c b0 : Int} {y y0 : Str} (h : ¬ c < b0) (h' : (c == b0) = true) : decide (y.cps.toList < y0.cps.toList) = bestB b0 y0 c y := by simp only [bestB, h, h', decide_false, Bool.false_or, Bool.true_and]
theorem bestB_q2 {c b0 : Int} {y y0 : Str} (h : ¬ c < b0) (h' : c = b0) : decide (y.cps.toList < y0.cps.toList) = bestB b0 y0 c y := bestB_q h (beq_iff_eq.mpr h')
theorem bestB_qt {c b0 : Int} {y y0 : Str} (h : ¬ c < b0) (h' : c = b0) (h'' : y.cps.toList < y0.cps.toList) : true = bestB b0 y0 c y := (decide_eq_true h'').symm.trans (bestB_q2 h h')
theorem bestB_qf {c b0 : Int} {y y0 : Str} (h : ¬ c < b0) (h' : c = b0) (h'' : ¬ y.cps.toList < y0.cps.toList) : false = bestB b0 y0 c y := (decide_eq_false h'').symm.trans (bestB_q2 h h')
theorem way_m5 {vb vp vc vr vw vb' vp' : Option Value} {mB : Str → Option Value} : (fun z => if z = Str.ofString "best" then vb' else if z = Str.ofString "paid" then vp' else wayF vb vp vc vr vw mB z) = wayF vb' vp' vc vr vw mB := by
  funext z
  by_cases h1 : z = Str.ofString "best"
  · subst h1; with_unfolding_all rfl
  by_cases h2 : z = Str.ofString "paid"
  · subst h2; with_unfolding_all rfl
  simp only [wayF, if_neg h1, if_neg h2]
theorem wCost3 (cs : List Int) (ms : Nat → Str) (e : EaSt) (x : Str) : wCost cs x ms (e.o ms) 3 = e.c cs ms x := rfl
theorem way_close {h₀ : Heap} {L : Addr} {s₁ : Shared} {I D' q : Addr} {oI row : Obj} {p : Addr × Obj} {mB m' : Str → Option Value} {base : Led} {c : Nat → Int} {y : Nat → Str} {now yy : Str} {i : Nat} {vc vr vw : Option Value} {bb cc : Int} {t u tp : Tok} {h' : Heap} {tk : Nat}
    (F : Fr h₀ L h' m') (N : News h₀ L h' ((D', tupB bb t yy u) :: (I, oI) :: p :: base)) (hIc : oI.cls = .type "list_iterator") (off : ∀ p ∈ base, p.1 < I) (hq : (q, row) ∈ base)
    (hm : m' = wayF (some (.ref D')) (some (.int (if (y i == now) = true then cc else wPaid c y now i) tp)) vc vr vw mB) (hc : cc = c i) (hb : (bb, yy) = wBest c y i) :
    UnrEndW h₀ L s₁ [(I, oI)] (fun m' n' => SubL [(q, row)] n' ∧ WayJ mB base c y now (i + 1) m' n') { s₁ with heap := h', toks := tk } := by
  have hDI : D' ≠ I := news_ne N (.head _) (.tail _ (.head _)) (by rw [hIc]; intro q; injection q with q; exact absurd (show "tuple" = "list_iterator" from q) (by decide))
  have hp : (if (y i == now) = true then cc else wPaid c y now i) = wPaid c y now (i + 1) := by
    show _ = eaPaid1 (wPaid c y now i) (y i) now (c i)
    unfold eaPaid1
    rw [hc]
    by_cases e : y i = now
    · rw [if_pos e, if_pos (beq_iff_eq.mpr e)]
    · rw [if_neg e, if_neg (fun q => e (beq_iff_eq.mp q))]
  rw [hp] at hm
  refine UnrEndW.of1 (news' := (D', tupB bb t yy u) :: base) F N (.tail _ (.head _)) (fun x hx => ?_) (fun x hx => ?_) ⟨⟨.tail _ hq, trivial⟩, tp, vc, vr, vw, .ref D', D', _, hm, rfl, .inr ⟨i, t, u, rfl, rfl, ?_⟩⟩
  · rcases List.mem_cons.mp hx with rfl | hx
    · exact .head _
    · exact .tail _ (.tail _ (.tail _ hx))
  · rcases List.mem_cons.mp hx with rfl | hx
    · exact hDI
    · exact Nat.ne_of_lt (off x hx)
  · rw [← hb]
theorem namedL {P : Prop} {h₀ h : Heap} {L : Addr} {m : Str → Option Value} (_F : Fr h₀ L h m) (k : ∀ x, x = L → P) : P := k _ rfl
theorem wBest_snd (c : Nat → Int) (y : Nat → Str) : ∀ i, ∃ j, (wBest c y i).2 = y j
  | 0 => ⟨0, rfl⟩
  | i + 1 => by
    show ∃ j, (eaBest1 (wBest c y i) (c (i + 1)) (y (i + 1))).2 = y j
    unfold eaBest1
    split
    · exact ⟨i + 1, rfl⟩
    · exact wBest_snd c y i
theorem ea_next {g : Nat → EaSt} {cs : List Int} {ms : Nat → Str} {row : Nat → Nat → Str} {e0 e : EaSt} {n : Nat} {y : Nat → Str} (hg : g = eaIter cs ms row e0) (he : e = g n) (hy : ∀ j, row (n % 3) j = y j) :
    g (n + 1) = eaPut e (wPaid (fun i => e.c cs ms (y i)) y e.w0 3) (wBest (fun i => e.c cs ms (y i)) y 2) := by
  subst hg
  subst he
  show eaTurn cs ms (row (n % 3) 0) (row (n % 3) 1) (row (n % 3) 2) (eaIter cs ms row e0 n) = _
  rw [hy, hy, hy]
  rfl
theorem namedO {P : Prop} {o : Obj} {d : Data} (_z : o.data = d) (k : ∀ x, x = o → P) : P := k _ rfl
theorem ea_close {g : Nat → EaSt} {ti td tl lw lm lk ls ca cb : Addr} {hh : Int} {kt : Tok} {nd : Nat} {rest : Led} {n : Nat} {h₀ : Heap} {L : Addr} {s₁ : Shared} {I : Addr} {oR oN oT : Obj} {xN : Option Value} {h' : Heap} {tk : Nat} {m' : Str → Option Value} {all : Led} {e : EaSt} {b : Int × Str} {pd k' g' : Int} {p1 p2 p3 : Addr} {nl' e1' : Nat} {t1 t2 t3 u1 u2 u3 tb : Tok} {vs : List Value}
    (F : Fr h₀ L h' m') (N : News h₀ L h' all) (hI : (I, oR) ∈ all) (hvs : StrsAre vs e.steps)
    (hs : ∀ p ∈ (ls, listOf (vs.toArray.push (.str b.2 tb)) e1') :: (ca, oN) :: (cb, oT) :: (ti, instObj 241 td) :: (td, dictOf [⟨hh, .str (Str.ofString "_headers") kt, .ref tl⟩] nd) :: (tl, listOf #[.ref p1, .ref p2, .ref p3] nl') :: (p1, tup2 (nm (n + 1)) t1 e.w1 u1) :: (p2, tup2 (nm (n + 2)) t2 e.w2 u2) :: (p3, tup2 (nm (n + 3)) t3 b.2 u3) :: rest, p ∈ all)
    (off : AllNe I ((ls, listOf (vs.toArray.push (.str b.2 tb)) e1') :: (ca, oN) :: (cb, oT) :: (ti, instObj 241 td) :: (td, dictOf [⟨hh, .str (Str.ofString "_headers") kt, .ref tl⟩] nd) :: (tl, listOf #[.ref p1, .ref p2, .ref p3] nl') :: (p1, tup2 (nm (n + 1)) t1 e.w1 u1) :: (p2, tup2 (nm (n + 2)) t2 e.w2 u2) :: (p3, tup2 (nm (n + 3)) t3 b.2 u3) :: rest))
    (hg : g (n + 1) = eaPut e pd b) (hn : n < 81) (hlt : ∀ j, j < n → (g j).kept ≠ 3) (he : e = g n) (hk : (e.kept : Int) ≠ 3) (S : EaFr m' lw lm lk ls k' g') (hk' : k' = ((eaPut e pd b).kept : Nat)) (hg' : g' = (eaPut e pd b).gained) (hvl : vs.length = n) (z2 : oN.data = Data.cell xN) (z4 : oT.data = Data.cell (some (.ref ti))) :
    UnrEndW h₀ L s₁ [(I, oR)] (fun m' n' => SubL [] n' ∧ EaJ g ti td tl lw lm lk ls ca cb hh kt nd rest (n + 1) m' n') { s₁ with heap := h', toks := tk } := by
  rw [List.push_toArray] at hs off
  subst hk'
  subst hg'
  refine UnrEndW.of1 F N hI hs (AllNe.all off) ⟨trivial, eaPut e pd b, p1, p2, p3, nl', e1', t1, t2, t3, u1, u2, u3, vs ++ [.str b.2 tb], oN, oT, xN, hg.symm, hn, fun j hj => ?_, S, strsAre_snoc _ _ hvs, by rw [List.length_append, hvl]; rfl, z2, z4, rfl⟩
  by_cases e' : j = n
  · rw [e', ← he]; omega
  · exact hlt j (by omega)
theorem off_one {tl : Addr} {o : Obj} {others : Led} (h : ∀ p ∈ others, p.1 ≠ tl) : ∀ p ∈ others, ∀ q ∈ [(tl, o)], q.1 ≠ p.1 := fun p hp q hq e => h p hp (e.symm.trans (congrArg Prod.fst (List.mem_singleton.mp hq)))
theorem WayEnd.toks {h₀ : Heap} {L : Addr} {mB : Str → Option Value} {base : Led} {b : Int × Str} {p : Int} {s s2 s' : Shared} (h : WayEnd h₀ L mB base b p s s')
    (hs : ∀ h tk, ({ s with heap := h, toks := tk } : Shared) = { s2 with heap := h, toks := tk }) : WayEnd h₀ L mB base b p s2 s' := by
  cases h with
  | mk h tk tp vc vr vw D t u e F N => exact .mk h tk tp vc vr vw D t u (e.trans (hs h tk)) F N
end
section
open PySem PySem.W PyProof.Rows PySem.Calls
set_option maxRecDepth 100000
set_option maxHeartbeats 8000000
set_option autoImplicit false
/-- two lists item by item -/
inductive Zip2 (f : Value → Value → Prop) : List Value → List Value → Prop
  | nil : Zip2 f [] []
  | cons {v y : Value} {r t : List Value} : f v y → Zip2 f r t → Zip2 f (v :: r) (y :: t)
theorem Zip2.snoc {f : Value → Value → Prop} {a b : List Value} {v y : Value} (z : Zip2 f a b) (h : f v y) : Zip2 f (a ++ [v]) (b ++ [y]) := by
  induction z with
  | nil => exact .cons h .nil
  | cons h' _ ih => exact .cons h' ih
theorem Zip2.inv {f : Value → Value → Prop} {v : Value} {r ys : List Value} (z : Zip2 f (v :: r) ys) {P : List Value → Prop} (k : ∀ y t, f v y → Zip2 f r t → P (y :: t)) : P ys := by
  cases z with | cons h z => exact k _ _ h z
theorem Zip2.k3 {f : Value → Value → Prop} {a b c : Value} {ys : List Value} (z : Zip2 f [a, b, c] ys) {P : List Value → Prop} (k : ∀ x y u, f a x → f b y → f c u → P [x, y, u]) : P ys :=
  z.inv (P := P) fun _ _ h1 z => z.inv (P := fun l => P (_ :: l)) fun _ _ h2 z => z.inv (P := fun l => P (_ :: _ :: l)) fun _ _ h3 z => by
    cases z with | nil => exact k _ _ _ h1 h2 h3
section
variable {prog : Program} {w : World} {A : Around} {env : Env} {E : Value → Shared → Prop} {s₁ : Shared} {h₀ : Heap} {L : Addr} {m : Str → Option Value}
/-- a comprehension over a list, its element walked once -/
theorem CompSrc_items {elt : Expr} {x : Str} {scope : Scope} {cl : List (Str × Addr)} {Fin : Shared → List Value → List (Addr × Obj) → Prop} {ax : Addr} {its : Array Value} {k : Nat} {R : Led} (f : Value → Value → Prop)
    (hh : A.handled = none) (F : Fr h₀ L s₁.heap m) (N : News h₀ L s₁.heap R) (hm : (ax, listOf its k) ∈ R) (hsz : its.size ≤ sizeLine)
    (step : ∀ v C oC m₂ R' h tk (Q' E' : Value → Shared → Prop), v ∈ its.toList → LCg.NsObj oC m₂ → m₂ x = some v → Fr h₀ L h m → News h₀ L h R' → (C, oC) ∈ R' → (∀ p ∈ R, p ∈ R') →
      (∀ y h' tk', f v y → Fr h₀ L h' m → News h₀ L h' R' → Q' y { s₁ with heap := h', toks := tk' }) → wpAny (model prog w) A (eval elt (compEnvC scope cl C env)) Q' E' { s₁ with heap := h, toks := tk })
    (fin : ∀ g ys, Zip2 f its.toList ys → Fin { s₁ with heap := g } ys R) : LCg.CompSrc prog w A h₀ L m env elt x scope cl Fin (.ref ax) s₁ := by
  refine LCg.CompSrc.ledger hh F N hm hsz fun g => compRest_ind (n := its.size) (G := fun i ys => Zip2 f (its.toList.take i) ys) ?_ ?_ its.size 0 [] (by omega) .nil
  · intro i ys v I oI C oC D m₂ h tk E' hi hG hP hC hx F N off ne
    refine step v C oC m₂ _ h tk _ E' (List.mem_of_getElem? (i := i) (by simpa using hP)) hC hx F N (.tail _ (.head _)) (fun p hp => .tail _ (.tail _ (.tail _ hp))) fun y h' tk' hf F' N' => ?_
    refine ⟨h', tk', R, rfl, F', N', off, Or.inr ⟨_, hm, rfl, k, rfl⟩, rfl, ?_⟩
    rw [List.take_add_one, show its.toList[i]? = some v from by simpa using hP]
    exact hG.snoc hf
  · intro ys hG
    refine fin g ys ?_
    rwa [List.take_of_length_le (by simp)] at hG
/-- the same, each element a new object -/
inductive Rows (R : Led) (f : Value → Obj → Prop) : List Value → List Value → Led → Prop
  | nil : Rows R f [] [] R
  | snoc {vs ys : List Value} {news : Led} {v : Value} {q : Addr} {o : Obj} : Rows R f vs ys news → f v o → Rows R f (vs ++ [v]) (ys ++ [.ref q]) ((q, o) :: news)
theorem Rows.sub {R : Led} {f : Value → Obj → Prop} {vs ys : List Value} {news : Led} (z : Rows R f vs ys news) : ∀ p ∈ R, p ∈ news := by
  induction z with
  | nil => exact fun _ h => h
  | snoc _ _ ih => exact fun p h => .tail _ (ih p h)
theorem Rows.inv {R : Led} {f : Value → Obj → Prop} {vs ys : List Value} {v : Value} {news : Led} (z : Rows R f (vs ++ [v]) ys news) {P : List Value → Led → Prop} (k : ∀ ys' q o news', f v o → Rows R f vs ys' news' → P (ys' ++ [.ref q]) ((q, o) :: news')) : P ys news := by
  generalize e : vs ++ [v] = l at z
  cases z with
  | nil => exact absurd (congrArg List.length e) (by simp)
  | snoc z h =>
    obtain ⟨e1, e2⟩ := List.append_inj' e rfl
    cases e2
    cases e1
    exact k _ _ _ _ h z
theorem Rows.k3 {R : Led} {f : Value → Obj → Prop} {a b c : Value} {ys : List Value} {news : Led} (z : Rows R f [a, b, c] ys news) {P : List Value → Led → Prop} (k : ∀ q0 q1 q2 o0 o1 o2, f a o0 → f b o1 → f c o2 → P [.ref q0, .ref q1, .ref q2] ((q2, o2) :: (q1, o1) :: (q0, o0) :: R)) : P ys news :=
  Rows.inv (vs := [a, b]) z fun _ q2 o2 _ h2 z => Rows.inv (vs := [a]) z (P := fun l n => P (l ++ [.ref q2]) ((q2, o2) :: n)) fun _ q1 o1 _ h1 z => Rows.inv (vs := []) z (P := fun l n => P (l ++ [.ref q1] ++ [.ref q2]) ((q2, o2) :: (q1, o1) :: n)) fun _ q0 o0 _ h0 z => by
    generalize e : [] = l at z
    cases z with
    | nil => exact k _ _ _ _ _ _ h0 h1 h2
    | snoc => exact absurd (congrArg List.length e) (by simp)
theorem Rows.three {R : Led} {f : Value → Obj → Prop} {a b c : Value} {ys : List Value} {news : Led} (z : Rows R f [a, b, c] ys news) : ∃ q0 q1 q2 o0 o1 o2, ys = [.ref q0, .ref q1, .ref q2] ∧ news = (q2, o2) :: (q1, o1) :: (q0, o0) :: R ∧ f a o0 ∧ f b o1 ∧ f c o2 :=
  z.k3 (P := fun ys news => ∃ q0 q1 q2 o0 o1 o2, ys = [.ref q0, .ref q1, .ref q2] ∧ news = (q2, o2) :: (q1, o1) :: (q0, o0) :: R ∧ f a o0 ∧ f b o1 ∧ f c o2) fun _ _ _ _ _ _ h0 h1 h2 => ⟨_, _, _, _, _, _, rfl, rfl, h0, h1, h2⟩
theorem Off3_cons {I C D q : Addr} {o : Obj} {news : Led} (h : LCg.Off3 I C D news) (hI : q ≠ I) (hC : q ≠ C) (hD : q ≠ D) : LCg.Off3 I C D ((q, o) :: news) := ⟨⟨hI, hC, hD⟩, h⟩
theorem compRest_rows {elt : Expr} {x : Str} {scope : Scope} {cl : List (Str × Addr)} {S : List (Addr × Obj) → Prop} {P : Nat → Value → Prop} {Fin : List Value → List (Addr × Obj) → Prop} {n : Nat} {G : Nat → List Value → Led → Prop} {s : Shared}
    (step : ∀ i ys news v I oI C oC D m₂ h tk (E' : Value → Shared → Prop), i < n → G i ys news → P i v → LCg.NsObj oC m₂ → m₂ x = some v → Fr h₀ L h m → News h₀ L h ((I, oI) :: (C, oC) :: (D, LCg.lst ys) :: news) → LCg.Off3 I C D news → ((@Ne Nat I C) ∧ (@Ne Nat I D) ∧ (@Ne Nat C D)) →
      wpAny (model prog w) A (eval elt (compEnvC scope cl C env)) (LCg.CompEnd h₀ L m { s with heap := h, toks := tk } I oI C oC D (LCg.lst ys) S (fun y news' => G (i + 1) (ys ++ [y]) news')) E' { s with heap := h, toks := tk })
    (fin : ∀ ys news, G n ys news → Fin ys news) : ∀ (k i : Nat) (ys : List Value) (news : Led), i + k = n → G i ys news → LCg.CompRest prog w A h₀ L m env elt x scope cl s S P Fin k i ys news
  | 0, i, ys, news, e, g => by obtain rfl : i = n := e; exact fin ys news g
  | k + 1, i, ys, news, e, g => by
    refine LCg.CompRest.succ fun v I oI C oC D m₂ h tk E' hP hC hx F N off ne => ?_
    refine wpAny_mono (step i ys news v I oI C oC D m₂ h tk E' (by omega) g hP hC hx F N off ne) (fun y s' h' => ?_) fun _ _ z => z
    obtain ⟨h₂, tk₂, news₂, e₂, F₂, N₂, off₂, S₂, g₂⟩ := h'
    exact ⟨h₂, tk₂, news₂, e₂, F₂, N₂, off₂, S₂, compRest_rows step fin k (i + 1) (ys ++ [y]) news₂ (by omega) g₂⟩
theorem CompSrc_rows {elt : Expr} {x : Str} {scope : Scope} {cl : List (Str × Addr)} {Fin : Shared → List Value → List (Addr × Obj) → Prop} {ax : Addr} {its : Array Value} {k : Nat} {R : Led} (f : Value → Obj → Prop)
    (hh : A.handled = none) (F : Fr h₀ L s₁.heap m) (N : News h₀ L s₁.heap R) (hm : (ax, listOf its k) ∈ R) (hsz : its.size ≤ sizeLine)
    (step : ∀ v C oC m₂ R' h tk (Q' E' : Value → Shared → Prop), v ∈ its.toList → LCg.NsObj oC m₂ → m₂ x = some v → Fr h₀ L h m → News h₀ L h R' → (C, oC) ∈ R' → (∀ p ∈ R, p ∈ R') →
      (∀ q o h' tk', f v o → (∀ p ∈ R', p.1 ≠ q) → Fr h₀ L h' m → News h₀ L h' ((q, o) :: R') → Q' (.ref q) { s₁ with heap := h', toks := tk' }) → wpAny (model prog w) A (eval elt (compEnvC scope cl C env)) Q' E' { s₁ with heap := h, toks := tk })
    (fin : ∀ g ys news, Rows R f its.toList ys news → Fin { s₁ with heap := g } ys news) : LCg.CompSrc prog w A h₀ L m env elt x scope cl Fin (.ref ax) s₁ := by
  refine LCg.CompSrc.ledger hh F N hm hsz fun g => compRest_rows (n := its.size) (G := fun i ys news => Rows R f (its.toList.take i) ys news) ?_ ?_ its.size 0 [] R (by omega) .nil
  · intro i ys news v I oI C oC D m₂ h tk E' hi hG hP hC hx F N off ne
    refine step v C oC m₂ _ h tk _ E' (List.mem_of_getElem? (i := i) (by simpa using hP)) hC hx F N (.tail _ (.head _)) (fun p hp => .tail _ (.tail _ (.tail _ (hG.sub p hp)))) fun q o h' tk' hf hq F' N' => ?_
    refine ⟨h', tk', (q, o) :: news, rfl, F', fun p hp => ?_, Off3_cons off (Ne.symm (hq _ (.head _))) (Ne.symm (hq _ (.tail _ (.head _)))) (Ne.symm (hq _ (.tail _ (.tail _ (.head _))))), Or.inr ⟨_, .tail _ (hG.sub _ hm), rfl, k, rfl⟩, ?_⟩
    · refine N' p ?_
      rcases List.mem_cons.mp hp with rfl | hp
      · exact .tail _ (.head _)
      rcases List.mem_cons.mp hp with rfl | hp
      · exact .tail _ (.tail _ (.head _))
      rcases List.mem_cons.mp hp with rfl | hp
      · exact .tail _ (.tail _ (.tail _ (.head _)))
      rcases List.mem_cons.mp hp with rfl | hp
      · exact .head _
      · exact .tail _ (.tail _ (.tail _ (.tail _ hp)))
    rw [List.take_add_one, show its.toList[i]? = some v from by simpa using hP]
    exact hG.snoc hf
  · intro ys news hG
    refine fin g ys news ?_
    rwa [List.take_of_length_le (by simp)] at hG
/-- the same, where the comprehension's own name is a cell -/
theorem RestC_ind {elt : Expr} {x : Str} {scope : Scope} {cl : List (Str × Addr)} {s : Shared} {news : Led} {Fin : List Value → Prop} (P : Value → Prop) (f : Value → Value → Prop)
    (step : ∀ v C oC Ce oE R' h tk (Q' E' : Value → Shared → Prop), P v → oE.data = Data.cell (some v) → Fr h₀ L h m → News h₀ L h R' → (C, oC) ∈ R' → (Ce, oE) ∈ R' → (∀ p ∈ news, p ∈ R') →
      (∀ y h' tk', f v y → Fr h₀ L h' m → News h₀ L h' R' → Q' y { s with heap := h', toks := tk' }) → wpAny (model prog w) A (eval elt (compEnvC scope ((x, Ce) :: cl) C env)) Q' E' { s with heap := h, toks := tk }) :
    ∀ (vs pre ys : List Value), (∀ v ∈ vs, P v) → (∀ zs, Zip2 f (pre ++ vs) zs → Fin zs) → Zip2 f pre ys → RestC prog w A h₀ L m env elt x scope cl s news Fin vs ys
  | [], pre, ys, _, fin, z => fin ys (by rwa [List.append_nil])
  | v :: r, pre, ys, hP, fin, z => fun I oI C oC Ce oE D h tk E' hE F N off ne =>
    step v C oC Ce oE _ h tk _ E' (hP v (.head _)) hE F N (.tail _ (.head _)) (.tail _ (.tail _ (.head _))) (fun p hp => .tail _ (.tail _ (.tail _ (.tail _ hp)))) fun y h' tk' hf F' N' =>
      ⟨h', tk', rfl, F', N', RestC_ind P f step r (pre ++ [v]) (ys ++ [y]) (fun v' hv => hP v' (.tail _ hv)) (by rw [List.append_assoc]; exact fin) (z.snoc hf)⟩
end
theorem tup_list_ne {h₀ h : Heap} {L a b : Addr} {led : Led} {x y : Str} {t u : Tok} {vs : Array Value} {e : Nat} (N : News h₀ L h led) (h1 : (a, tup2 x t y u) ∈ led) (h2 : (b, listOf vs e) ∈ led) : a ≠ b :=
  news_ne N h1 h2 (show Value.type "tuple" ≠ Value.type "list" from by intro q; injection q with q; exact absurd q (by decide))
theorem tup_iter_ne {h₀ h : Heap} {L a b : Addr} {led : Led} {x y : Str} {t u : Tok} {o : Obj} (N : News h₀ L h led) (h1 : (a, tup2 x t y u) ∈ led) (h2 : (b, o) ∈ led) (hc : o.cls = .type "range_iterator") : a ≠ b :=
  news_ne N h1 h2 (by show Value.type "tuple" ≠ _; rw [hc]; intro q; injection q with q; exact absurd q (by decide))
theorem inst_list_ne {h₀ h : Heap} {L a b d : Addr} {led : Led} {vs : Array Value} {e : Nat} (N : News h₀ L h led) (h1 : (a, instObj 241 d) ∈ led) (h2 : (b, listOf vs e) ∈ led) : a ≠ b :=
  news_ne N h1 h2 (show Value.ref 241 ≠ Value.type "list" from fun q => by cases q)
theorem dict_list_ne {h₀ h : Heap} {L a b : Addr} {led : Led} {es : List DictEntry} {n : Nat} {vs : Array Value} {e : Nat} (N : News h₀ L h led) (h1 : (a, dictOf es n) ∈ led) (h2 : (b, listOf vs e) ∈ led) : a ≠ b :=
  news_ne N h1 h2 (show Value.type "dict" ≠ Value.type "list" from by intro q; injection q with q; exact absurd q (by decide))
/-- the end of a ledger of fourteen kept as one name -/
theorem opqE {P : Prop} {h₀ h : Heap} {L : Addr} {c1 c2 a1 a2 a3 a4 a5 a6 b1 b2 b3 b4 b5 b6 : Addr × Obj} (N : News h₀ L h [c1, c2, a1, a2, a3, a4, a5, a6, b1, b2, b3, b4, b5, b6])
    (k : ∀ R : Led, R = [b1, b2, b3, b4, b5, b6] → News h₀ L h (c1 :: c2 :: a1 :: a2 :: a3 :: a4 :: a5 :: a6 :: R) → b1 ∈ R → b2 ∈ R → b3 ∈ R → b4 ∈ R → b5 ∈ R → b6 ∈ R → P) : P :=
  k _ rfl N (.head _) (.tail _ (.head _)) (.tail _ (.tail _ (.head _))) (.tail _ (.tail _ (.tail _ (.head _)))) (.tail _ (.tail _ (.tail _ (.tail _ (.head _))))) (.tail _ (.tail _ (.tail _ (.tail _ (.tail _ (.head _))))))
/-- the turn's ledger, the four things that change ahead -/
theorem opqT {P : Prop} {h₀ h : Heap} {L : Addr} {I ls cb cT ti td tl p0 p1 p2 : Addr × Obj} {r : Led} (N : News h₀ L h (I :: ls :: cb :: cT :: ti :: td :: tl :: p0 :: p1 :: p2 :: r))
    (k : ∀ R : Led, R = cT :: ti :: td :: p0 :: p1 :: p2 :: r → News h₀ L h (cb :: tl :: ls :: I :: R) → cT ∈ R → ti ∈ R → td ∈ R → p0 ∈ R → p1 ∈ R → p2 ∈ R → (∀ p ∈ r, p ∈ R) → P) : P := by
  refine k _ rfl (News.sub N (sub_cons ?_ (sub_cons ?_ (sub_cons ?_ (sub_cons ?_ (sub_cons ?_ (sub_cons ?_ (sub_cons ?_ (sub_cons ?_ (sub_cons ?_ (sub_cons ?_ fun p hp => ?_))))))))))) (.head _) (.tail _ (.head _)) (.tail _ (.tail _ (.head _))) (.tail _ (.tail _ (.tail _ (.head _)))) (.tail _ (.tail _ (.tail _ (.tail _ (.head _))))) (.tail _ (.tail _ (.tail _ (.tail _ (.tail _ (.head _)))))) fun p hp => .tail _ (.tail _ (.tail _ (.tail _ (.tail _ (.tail _ hp)))))
  · exact .tail _ (.tail _ (.head _))
  · exact .tail _ (.tail _ (.tail _ (.tail _ (.tail _ (.tail _ (.head _))))))
  · exact .tail _ (.head _)
  · exact .head _
  · exact .tail _ (.tail _ (.tail _ (.head _)))
  · exact .tail _ (.tail _ (.tail _ (.tail _ (.head _))))
  · exact .tail _ (.tail _ (.tail _ (.tail _ (.tail _ (.head _)))))
  · exact .tail _ (.tail _ (.tail _ (.tail _ (.tail _ (.tail _ (.tail _ (.head _)))))))
  · exact .tail _ (.tail _ (.tail _ (.tail _ (.tail _ (.tail _ (.tail _ (.tail _ (.head _))))))))
  · exact .tail _ (.tail _ (.tail _ (.tail _ (.tail _ (.tail _ (.tail _ (.tail _ (.tail _ (.head _)))))))))
  · exact .tail _ (.tail _ (.tail _ (.tail _ (.tail _ (.tail _ (.tail _ (.tail _ (.tail _ (.tail _ hp)))))))))
noncomputable def noCell (o : Obj) : Bool := match o.data with | .cell _ => false | _ => true
theorem noCell_ne {h₀ h : Heap} {L D a : Addr} {o oD : Obj} {x : Option Value} {R : Led} (N : News h₀ L h R) (hD : (D, oD) ∈ R) (hd : oD.data = .cell x) (ha : (a, o) ∈ R) (hn : noCell o = true) : a ≠ D := by
  rintro rfl
  have e1 := (N _ hD).1
  have e2 := (N _ ha).1
  dsimp only at e1 e2
  rw [e1] at e2
  cases e2
  unfold noCell at hn
  rw [hd] at hn
  exact absurd hn (by simp)
theorem off_cell {h₀ h : Heap} {L D : Addr} {oD : Obj} {x : Option Value} {R : Led} (N : News h₀ L h ((D, oD) :: R)) (hd : oD.data = .cell x) : ∀ l : Led, (∀ p ∈ l, p ∈ R) → (l.all fun p => noCell p.2) = true → ∀ p ∈ l, p.1 ≠ D
  | [], _, _, _, h => nomatch h
  | q :: r, hs, ha, p, hp => by
    simp only [List.all_cons, Bool.and_eq_true] at ha
    rcases List.mem_cons.mp hp with rfl | hp
    · exact noCell_ne N (.head _) hd (.tail _ (hs _ (.head _))) ha.1
    · exact off_cell N hd r (fun p hp => hs p (.tail _ hp)) ha.2 p hp
theorem news_tl {h₀ h : Heap} {L : Addr} {a : Addr × Obj} {R : Led} (N : News h₀ L h (a :: R)) : News h₀ L h R := fun p hp => N p (.tail _ hp)
theorem str3_mem {x0 x1 x2 : Str} {t0 t1 t2 : Tok} : ∀ v ∈ [Value.str x0 t0, .str x1 t1, .str x2 t2], ∃ x t, v = .str x t := fun v hv => by
  rcases List.mem_cons.mp hv with rfl | hv
  · exact ⟨_, _, rfl⟩
  rcases List.mem_cons.mp hv with rfl | hv
  · exact ⟨_, _, rfl⟩
  rw [List.mem_singleton.mp hv]
  exact ⟨_, _, rfl⟩
theorem AllNe.of {D : Addr} : ∀ {l : Led}, (∀ p ∈ l, p.1 ≠ D) → AllNe D l
  | [], _ => trivial
  | [_], h => h _ (.head _)
  | _ :: _ :: _, h => ⟨h _ (.head _), AllNe.of fun x hx => h x (.tail _ hx)⟩
/-- a statement whose ways meet: one int name stored -/
structure IntEnd (h₀ : Heap) (L : Addr) (mB : Str → Option Value) (base : Led) (x : Str) (K : Int) (s : Shared) (f : Flow) (s' : Shared) : Prop where
  out : f = .next ∧ ∃ h tk t, s' = { s with heap := h, toks := tk } ∧ Fr h₀ L h (fun z => if z = x then some (.int K t) else mB z) ∧ News h₀ L h base
theorem int_cut {M : Model} {A : Around} {E : Value → Shared → Prop} {s : Shared} {env : Env} {h₀ : Heap} {L : Addr} {mB : Str → Option Value} {base : Led} {st : Stmt} {Q : Flow → Shared → Prop} (x : Str) (K : Int) (_F : Fr h₀ L s.heap mB) (_N : News h₀ L s.heap base)
    (h1 : wpAny M A (exec st env) (IntEnd h₀ L mB base x K s) E s)
    (h2 : ∀ h tk t, Fr h₀ L h (fun z => if z = x then some (.int K t) else mB z) → News h₀ L h base → Q .next { s with heap := h, toks := tk }) : wpAny M A (exec st env) Q E s :=
  wpAny_mono h1 (fun f s' h => by obtain ⟨rfl, h', tk, t, rfl, F, N⟩ := h.out; exact h2 h' tk t F N) fun _ _ h => h
theorem IntEnd.intro {s₁ : Shared} {h₀ h : Heap} {L : Addr} {mB : Str → Option Value} {base all : Led} {x : Str} {K k' : Int} {t : Tok} {tk : Nat} (F : Fr h₀ L h (fun z => if z = x then some (.int k' t) else mB z)) (N : News h₀ L h all) (hs : ∀ p ∈ base, p ∈ all) (hk : k' = K) :
    IntEnd h₀ L mB base x K s₁ .next { s₁ with heap := h, toks := tk } := ⟨rfl, h, tk, t, rfl, hk ▸ F, fun p hp => N p (hs p hp)⟩
theorem opqN {P : Prop} {h₀ h : Heap} {L : Addr} {R : Led} (N : News h₀ L h R) (k : ∀ R', R' = R → News h₀ L h R' → P) : P := k _ rfl N
theorem news_drop {h₀ h : Heap} {L : Addr} {a b : Addr × Obj} {R : Led} (N : News h₀ L h (a :: b :: R)) : News h₀ L h (a :: R) := News.sub N (sub_cons (.head _) (sub_tail (sub_tail sub_self)))
theorem allL_at {d : Addr} : ∀ {l : Led}, AllL d l → ∀ p ∈ l, p.1 < d
  | [], _, p, h => nomatch h
  | [_], h, p, hp => by rw [List.mem_singleton.mp hp]; exact h
  | _ :: q :: r, h, p, hp => by
    rcases List.mem_cons.mp hp with e | e
    · rw [e]; exact h.1
    · exact allL_at (l := q :: r) h.2 p e
theorem opqH {P : Prop} {h₀ h : Heap} {L : Addr} {d b1 b2 b3 b4 b5 : Addr × Obj} (N : News h₀ L h [d, b1, b2, b3, b4, b5])
    (k : ∀ R : Led, R = [b1, b2, b3, b4, b5] → News h₀ L h (d :: R) → b1 ∈ R → b2 ∈ R → b3 ∈ R → b4 ∈ R → P) : P :=
  k _ rfl N (.head _) (.tail _ (.head _)) (.tail _ (.tail _ (.head _))) (.tail _ (.tail _ (.tail _ (.head _))))
theorem int3_mem {x0 x1 x2 : Int} {t0 t1 t2 : Tok} : ∀ v ∈ [Value.int x0 t0, .int x1 t1, .int x2 t2], ∃ x t, v = .int x t := fun v hv => by
  rcases List.mem_cons.mp hv with rfl | hv
  · exact ⟨_, _, rfl⟩
  rcases List.mem_cons.mp hv with rfl | hv
  · exact ⟨_, _, rfl⟩
  rw [List.mem_singleton.mp hv]
  exact ⟨_, _, rfl⟩
theorem str3_len {x0 x1 x2 : Str} {t0 t1 t2 : Tok} {n : Nat} (h0 : x0.length ≤ n) (h1 : x1.length ≤ n) (h2 : x2.length ≤ n) : ∀ v ∈ [Value.str x0 t0, .str x1 t1, .str x2 t2], ∃ x t, v = .str x t ∧ x.length ≤ n := fun v hv => by
  rcases List.mem_cons.mp hv with rfl | hv
  · exact ⟨_, _, rfl, h0⟩
  rcases List.mem_cons.mp hv with rfl | hv
  · exact ⟨_, _, rfl, h1⟩
  rw [List.mem_singleton.mp hv]
  exact ⟨_, _, rfl, h2⟩
theorem opq4 {P : Prop} {h₀ h : Heap} {L : Addr} {d b1 b2 b3 b4 : Addr × Obj} {r : Led} (N : News h₀ L h (d :: b1 :: b2 :: b3 :: b4 :: r))
    (k : ∀ R : Led, R = b1 :: b2 :: b3 :: b4 :: r → News h₀ L h (d :: R) → b1 ∈ R → b2 ∈ R → b3 ∈ R → b4 ∈ R → (∀ p ∈ r, p ∈ R) → P) : P :=
  k _ rfl N (.head _) (.tail _ (.head _)) (.tail _ (.tail _ (.head _))) (.tail _ (.tail _ (.tail _ (.head _)))) (fun p hp => .tail _ (.tail _ (.tail _ (.tail _ hp))))
theorem news_fun {h₀ h : Heap} {L a : Addr} {o o' : Obj} {R : Led} (N : News h₀ L h R) (h1 : (a, o) ∈ R) (h2 : (a, o') ∈ R) : o = o' := Option.some.inj ((N _ h1).1.symm.trans (N _ h2).1)
theorem opqF {P : Prop} {h₀ h : Heap} {L : Addr} {b1 b2 b3 b4 : Addr × Obj} {r : Led} (N : News h₀ L h (b1 :: b2 :: b3 :: b4 :: r))
    (k : ∀ R : Led, News h₀ L h R → b1 ∈ R → b2 ∈ R → b3 ∈ R → b4 ∈ R → (∀ p ∈ r, p ∈ R) → P) : P :=
  k _ N (.head _) (.tail _ (.head _)) (.tail _ (.tail _ (.head _))) (.tail _ (.tail _ (.tail _ (.head _)))) (fun p hp => .tail _ (.tail _ (.tail _ (.tail _ hp))))
inductive StrV : Value → Prop
  | mk (x : Str) (t : Tok) : StrV (.str x t)
inductive IntV : Value → Prop
  | mk (x : Int) (t : Tok) : IntV (.int x t)
inductive StrL (n : Nat) : Value → Prop
  | mk (x : Str) (t : Tok) (hl : x.length ≤ n) : StrL n (.str x t)
inductive Str3 (s0 s1 s2 : Str) : List Value → Prop
  | mk (n0 n1 n2 : Tok) : Str3 s0 s1 s2 [.str s0 n0, .str s1 n1, .str s2 n2]
inductive Int3 (s0 s1 s2 : Int) : List Value → Prop
  | mk (n0 n1 n2 : Tok) : Int3 s0 s1 s2 [.int s0 n0, .int s1 n1, .int s2 n2]
inductive Bool3 (s0 s1 s2 : Bool) : List Value → Prop
  | mk : Bool3 s0 s1 s2 [.bool s0, .bool s1, .bool s2]
theorem str3_is {x0 x1 x2 : Str} {t0 t1 t2 : Tok} {v : Value} (hv : v ∈ [Value.str x0 t0, .str x1 t1, .str x2 t2]) : StrV v := by
  obtain ⟨x, t, rfl⟩ := str3_mem v hv
  exact ⟨x, t⟩
theorem int3_is {x0 x1 x2 : Int} {t0 t1 t2 : Tok} {v : Value} (hv : v ∈ [Value.int x0 t0, .int x1 t1, .int x2 t2]) : IntV v := by
  obtain ⟨x, t, rfl⟩ := int3_mem v hv
  exact ⟨x, t⟩
theorem strL_is {x0 x1 x2 : Str} {t0 t1 t2 : Tok} {n : Nat} {v : Value} (h0 : x0.length ≤ n) (h1 : x1.length ≤ n) (h2 : x2.length ≤ n) (hv : v ∈ [Value.str x0 t0, .str x1 t1, .str x2 t2]) : StrL n v := by
  obtain ⟨x, t, rfl, hl⟩ := str3_len h0 h1 h2 v hv
  exact ⟨x, t, hl⟩
theorem Bool3.of {s0 s1 s2 : Bool} {a b c : Value} (h0 : a = .bool s0) (h1 : b = .bool s1) (h2 : c = .bool s2) : Bool3 s0 s1 s2 [a, b, c] := by rw [h0, h1, h2]; exact .mk
theorem Int3.of {s0 s1 s2 : Int} {a b c : Value} (h0 : ∃ u, a = .int s0 u) (h1 : ∃ u, b = .int s1 u) (h2 : ∃ u, c = .int s2 u) : Int3 s0 s1 s2 [a, b, c] := by
  cases h0 with | intro _ e0 => cases h1 with | intro _ e1 => cases h2 with | intro _ e2 => rw [e0, e1, e2]; exact .mk _ _ _
theorem Str3.of {s0 s1 s2 : Str} {a b c : Value} (h0 : ∃ u, a = .str s0 u) (h1 : ∃ u, b = .str s1 u) (h2 : ∃ u, c = .str s2 u) : Str3 s0 s1 s2 [a, b, c] := by
  cases h0 with | intro _ e0 => cases h1 with | intro _ e1 => cases h2 with | intro _ e2 => rw [e0, e1, e2]; exact .mk _ _ _
theorem zip_str_bool {g : Str → Bool} {x0 x1 x2 : Str} {t0 t1 t2 : Tok} {ys : List Value} (z : Zip2 (fun v y => ∃ x t, v = .str x t ∧ y = .bool (g x)) [.str x0 t0, .str x1 t1, .str x2 t2] ys) : Bool3 (g x0) (g x1) (g x2) ys :=
  have k : ∀ {x : Str} {t : Tok} {y : Value}, (∃ x' t', Value.str x t = .str x' t' ∧ y = .bool (g x')) → y = .bool (g x) := fun ⟨_, _, e, h⟩ => by cases e; exact h
  z.k3 fun _ _ _ h0 h1 h2 => .of (k h0) (k h1) (k h2)
theorem zip_str_int {g : Str → Int} {x0 x1 x2 : Str} {t0 t1 t2 : Tok} {ys : List Value} (z : Zip2 (fun v y => ∃ x t u, v = .str x t ∧ y = .int (g x) u) [.str x0 t0, .str x1 t1, .str x2 t2] ys) : Int3 (g x0) (g x1) (g x2) ys :=
  have k : ∀ {x : Str} {t : Tok} {y : Value}, (∃ x' t' u, Value.str x t = .str x' t' ∧ y = .int (g x') u) → ∃ u, y = .int (g x) u := fun ⟨_, _, u, e, h⟩ => by cases e; exact ⟨u, h⟩
  z.k3 fun _ _ _ h0 h1 h2 => .of (k h0) (k h1) (k h2)
end
section
open PySem PySem.W PyProof.Rows
set_option maxRecDepth 100000
set_option maxHeartbeats 0

theorem allLt_mem {d : Addr} : ∀ {l : Led}, AllLt d l → ∀ p ∈ l, p.1 < d
  | [], _, p, h => nomatch h
  | x :: r, h, p, hp => by
    rcases List.mem_cons.mp hp with e | e
    · rw [e]; exact h.1
    · exact allLt_mem h.2 p e
noncomputable def HaltM (P : Prop) : Prop := P
theorem HaltM.intro {P : Prop} (h : HaltM P) : P := h
section
local macro_rules | `(tactic| walk_at "eval Name") => `(tactic| (k_here; (with_reducible show wpAny _ _ (eval (Expr.Name _ _) (envOf _ _ _ _ _)) _ _ _); (rename Fr _ _ _ _ => lF'); first | refine ld lF' (by assumption) ?_ (by assumption) (by assumption) (by decide) | refine HaltM.intro ?_))
local macro_rules | `(tactic| walk_at "call ref") => `(tactic| (k_here; refine HaltM.intro ?_))
local macro_rules | `(tactic| walk_at "eval Call Attribute") => `(tactic| (k_here; refine MethodCall_ ?_ (by assumption)))
local macro_rules | `(tactic| k_mem) => `(tactic| assumption)
noncomputable abbrev apdA (p3 p4 p5 p6 p7 p8 p9 p10 p11 p12 p13 p14 p15 : Pos) (kk : Nat) : PySem.Expr := .Tuple [.Call (.Name (Str.ofString "_law_height") p3) [.Name (Str.ofString "moved") p4, .Name (Str.ofString "costs") p5] [] p6, .Call (.Name (Str.ofString "_law_spelled") p7) [.Call (.Name (Str.ofString "_law_signs_of") p8) [.Name (Str.ofString "mask") p9, .Name (Str.ofString "signs") p10] [] p11, .Name (Str.ofString "kind") p12] [] p13, .Name (Str.ofString "mask") p14] kk p15
theorem app_ok {w : World} {A : Around} {E : Value → Shared → Prop} {s : Shared} {h₀ : Heap} {L fa lh D lk lg : Addr} {m : Str → Option Value} {R : Led} {R2 : Addr → Led} {nm : Str} {sc : Scope} {cd : Value} {vs : Array Value} {e kk : Nat} {oD oK oG : Obj} {x kd H : Int} {W Y : Str} {tx tk : Tok} {p1 p2 p3 p4 p5 p6 p7 p8 p9 p10 p11 p12 p13 p14 p15 p16 p17 : Pos} {Q : Flow → Shared → Prop} (X : (Mine.hd.heap_1 w.params).In h₀) (F : Fr h₀ L s.heap m) (N : News h₀ L s.heap R) (hU : ∀ T : Addr, (∀ q ∈ R, q.1 < T) → Upd lh (listOf vs e) (listOf (vs.push (.ref T)) (e + 1)) R (R2 T))
    (mL : (lh, listOf vs e) ∈ R) (mD : (D, oD) ∈ R) (mK : (lk, oK) ∈ R) (mG : (lg, oG) ∈ R) (hv : vs.size ≤ 100)
    (hk : sc.kind = .function) (s1 : (envOf nm sc L fa cd).kindOf (Str.ofString "heights") = some .local) (s2 : (envOf nm sc L fa cd).kindOf (Str.ofString "moved") = some .local) (s3 : (envOf nm sc L fa cd).kindOf (Str.ofString "costs") = some .local) (s4 : (envOf nm sc L fa cd).kindOf (Str.ofString "mask") = some .local) (s5 : (envOf nm sc L fa cd).kindOf (Str.ofString "signs") = some .local) (s6 : (envOf nm sc L fa cd).kindOf (Str.ofString "kind") = some .local)
    (h1 : m (Str.ofString "heights") = some (.ref lh)) (h2 : m (Str.ofString "moved") = some (.ref D)) (h3 : m (Str.ofString "costs") = some (.ref lk)) (h4 : m (Str.ofString "mask") = some (.int x tx)) (h5 : m (Str.ofString "signs") = some (.ref lg)) (h6 : m (Str.ofString "kind") = some (.int kd tk))
    (g1 : ∀ (s' : Shared) (p : Pos) (Q' : Value → Shared → Prop), Fr h₀ L s'.heap m → Q' (.ref 406) s' → wpAny (mdl w) A (eval (.Name (Str.ofString "_law_height") p) (envOf nm sc L fa cd)) Q' E s')
    (g2 : ∀ (s' : Shared) (p : Pos) (Q' : Value → Shared → Prop), Fr h₀ L s'.heap m → Q' (.ref 396) s' → wpAny (mdl w) A (eval (.Name (Str.ofString "_law_spelled") p) (envOf nm sc L fa cd)) Q' E s')
    (g3 : ∀ (s' : Shared) (p : Pos) (Q' : Value → Shared → Prop), Fr h₀ L s'.heap m → Q' (.ref 391) s' → wpAny (mdl w) A (eval (.Name (Str.ofString "_law_signs_of") p) (envOf nm sc L fa cd)) Q' E s')
    (k1 : ∀ (s' : Shared) (Q' : Value → Shared → Prop), Fr h₀ L s'.heap m → News h₀ L s'.heap R → (∀ (t : Tok) (h : Heap) (tk' : Nat), Fr h₀ L h m → News h₀ L h R → Q' (.int H t) { s' with heap := h, toks := tk' }) → wpAny (mdl w) A (call (.ref 406) [.ref D, .ref lk]) Q' E s')
    (k2 : ∀ (s' : Shared) (Q' : Value → Shared → Prop), Fr h₀ L s'.heap m → News h₀ L s'.heap R → (∀ (t : Tok) (h : Heap) (tk' : Nat), Fr h₀ L h m → News h₀ L h R → Q' (.str W t) { s' with heap := h, toks := tk' }) → wpAny (mdl w) A (call (.ref 391) [.int x tx, .ref lg]) Q' E s')
    (k3 : ∀ (t₀ : Tok) (s' : Shared) (Q' : Value → Shared → Prop), Fr h₀ L s'.heap m → News h₀ L s'.heap R → (∀ (t : Tok) (h : Heap) (tk' : Nat), Fr h₀ L h m → News h₀ L h R → Q' (.str Y t) { s' with heap := h, toks := tk' }) → wpAny (mdl w) A (call (.ref 396) [.str W t₀, .int kd tk]) Q' E s')
    (hi : interactive (envOf nm sc L fa cd) = false) (hs : swapsWith (.Call (.Attribute (.Name (Str.ofString "heights") p1) (Str.ofString "append") p2) [apdA p3 p4 p5 p6 p7 p8 p9 p10 p11 p12 p13 p14 p15 kk] [] p16) none p17.line (envOf nm sc L fa cd) = pure false)
    (he : ∃ pl, eval (.Call (.Attribute (.Name (Str.ofString "heights") p1) (Str.ofString "append") p2) [apdA p3 p4 p5 p6 p7 p8 p9 p10 p11 p12 p13 p14 p15 kk] [] p16) (envOf nm sc L fa cd) = (do
      let ov ← eval (.Name (Str.ofString "heights") p1) (envOf nm sc L fa cd)
      standAt p2.atName
      let (f, first) ← holding [ov] (getMethod ov (Str.ofString "append") pl)
      callWith p16 f first (backTo p16 (starEach [apdA p3 p4 p5 p6 p7 p8 p9 p10 p11 p12 p13 p14 p15 kk] (envOf nm sc L fa cd))) []))
    (ret : ∀ (T : Addr) (t0 t1 : Tok) (h : Heap) (tk' : Nat), (∀ q ∈ R, q.1 < T) → Fr h₀ L h m → News h₀ L h ((T, tup3 H t0 Y t1 x tx) :: R2 T) → Q .next { s with heap := h, toks := tk' }) :
    wpAny (mdl w) A (exec (.Expr (.Call (.Attribute (.Name (Str.ofString "heights") p1) (Str.ofString "append") p2) [apdA p3 p4 p5 p6 p7 p8 p9 p10 p11 p12 p13 p14 p15 kk] [] p16) p17) (envOf nm sc L fa cd)) Q E s := by
  have hfill : (PySem.Challenge.rw_xl0032_01 = PySem.Challenge.rw_xl0032_01 ∧ Mine.hd.heap_1 = Mine.hd.heap_1) := by (k_fill; exact ⟨rfl, rfl⟩)
  clear hfill
  obtain ⟨pl, he⟩ := he
  refine wpAny_Expr_any ?_ hi hs
  w_strict k_steps
  unfold HaltM
  refine g1 _ _ _ (by assumption) ?_
  w_strict k_steps
  unfold HaltM
  refine k1 _ _ (by assumption) (by assumption) ?_
  intro t1 h1' tk1 F1 N1
  k_sweep
  w_strict k_steps
  unfold HaltM
  refine g2 _ _ _ (by assumption) ?_
  w_strict k_steps
  unfold HaltM
  refine g3 _ _ _ (by assumption) ?_
  w_strict k_steps
  unfold HaltM
  refine k2 _ _ (by assumption) (by assumption) ?_
  intro t2 h2' tk2 F2 N2
  k_sweep
  w_strict k_steps
  unfold HaltM
  refine k3 _ _ _ (by assumption) (by assumption) ?_
  intro t3 h3' tk3 F3 N3
  k_sweep
  w_strict k_steps
  rename Fr _ _ _ _ => F4
  rename News _ _ _ _ => N4
  rename (∀ p : Addr × Obj, p ∈ R → p.1 < _) => hl
  have hll : lh < _ := hl (lh, listOf vs e) mL
  refine append_K F4 N4 (.tail (Nat.ne_of_lt hll).symm (hU _ hl)) ?_ (Nat.le_trans hv (by decide))
  intro h9 F9 N9
  exact ret _ _ _ h9 _ hl F9 N9
end
theorem stK {M : Model} {A : Around} {E : Value → Shared → Prop} {s : Shared} {h₀ : Heap} {L fa : Addr} {m : Str → Option Value} {news : Led} {nm : Str} {sc : Scope} {cd v : Value} {x : Str} {Q : Unit → Shared → Prop} (F : Fr h₀ L s.heap m) (N : News h₀ L s.heap news) (hk : sc.kind = .function) (hx : (envOf nm sc L fa cd).kindOf x = some .local)
    (h : ∀ h', Fr h₀ L h' (fun y => if y = x then some v else m y) → News h₀ L h' news → Q () { s with heap := h', toks := s.toks + 1 }) : wpAny M A (storeName (envOf nm sc L fa cd) x v) Q E s :=
  wpAny_storeName_local hx F.ns (fun h' hn hs => h h' (F.set hn hs) (N.set hs)) (by show (sc.kind == .class || (sc.kind == .module && L != mainGlobals)) = false; rw [hk]; rfl)
section
local macro_rules | `(tactic| k_mem) => `(tactic| assumption)
local macro_rules | `(tactic| walk_at "eval Name") => `(tactic| (k_here; (with_reducible show wpAny _ _ (eval (Expr.Name _ _) (envOf _ _ _ _ _)) _ _ _); (rename Fr _ _ _ _ => lF'); refine ld lF' (by assumption) ?_ (by assumption) (by assumption) (by decide)))
theorem moved_ok {w : World} {A : Around} {E : Value → Shared → Prop} {s : Shared} {h₀ hx : Heap} {L lm fa : Addr} {m : Str → Option Value} {news : Led} {nm : Str} {sc : Scope} {cd : Value} {p e : Nat} {k0 k1 k2 x : Int} {t0 t1 t2 tw tx : Tok} {q1 q2 q3 q4 q5 q6 q7 q8 q9 q10 q11 q12 q13 q14 q15 q16 : Pos} {c1 : Nat} {Q : Flow → Shared → Prop} (X : (Mine.hd.heap_1 w.params).In hx) (F : Fr h₀ L s.heap m) (N : News h₀ L s.heap news)
    (hk : sc.kind = .function) (s1 : (envOf nm sc L fa cd).kindOf (Str.ofString "masks") = some .local) (s2 : (envOf nm sc L fa cd).kindOf (Str.ofString "who") = some .local) (s3 : (envOf nm sc L fa cd).kindOf (Str.ofString "mask") = some .local) (s4 : (envOf nm sc L fa cd).kindOf (Str.ofString "moved") = some .local)
    (h1 : m (Str.ofString "masks") = some (.ref lm)) (hl : (lm, listOf #[.int k0 t0, .int k1 t1, .int k2 t2] e) ∈ news) (h2 : m (Str.ofString "who") = some (.int (p : Int) tw)) (h3 : m (Str.ofString "mask") = some (.int x tx)) (hp : p < 3)
    (ret : ∀ (D : Addr) (u0 u1 u2 : Tok) (h : Heap) (tk : Nat), (∀ q ∈ news, q.1 < D) → Fr h₀ L h (fun y => if y = Str.ofString "moved" then some (.ref D) else m y) → News h₀ L h ((D, listOf #[.int (if p = 0 then x else k0) u0, .int (if p = 1 then x else k1) u1, .int (if p = 2 then x else k2) u2] 0) :: news) → Q .next { s with heap := h, toks := tk }) :
    wpAny (mdl w) A (exec (.Assign [.Name (Str.ofString "moved") q1] (.BinOp (.BinOp (.Subscript (.Name (Str.ofString "masks") q2) (.Slice none (some (.Name (Str.ofString "who") q3)) none q4) q5) .Add (.List [.Name (Str.ofString "mask") q6] q7) q8) .Add (.Subscript (.Name (Str.ofString "masks") q9) (.Slice (some (.BinOp (.Name (Str.ofString "who") q10) .Add (.Constant (.int 1) c1 q11) q12)) none none q13) q14) q15) q16) (envOf nm sc L fa cd)) Q E s := by
  rcases (by omega : p = 0 ∨ p = 1 ∨ p = 2) with rfl | rfl | rfl
  · replace h2 : m (Str.ofString "who") = some (.int 0 tw) := h2
    w_strict k_steps
    refine stK (by assumption) (by assumption) (by assumption) (by assumption) ?_
    intro h9 F9 N9
    rename (∀ p : Addr × Obj, p ∈ news → _) => g
    exact ret _ _ _ _ h9 _ (fun q hq => Nat.lt_trans (g q hq) (by omega)) F9 (News.sub N9 (List.forall_mem_cons.mpr ⟨.head _, fun q hq => .tail _ (.tail _ (.tail _ (.tail _ (.tail _ hq))))⟩))
  · replace h2 : m (Str.ofString "who") = some (.int 1 tw) := h2
    w_strict k_steps
    refine stK (by assumption) (by assumption) (by assumption) (by assumption) ?_
    intro h9 F9 N9
    rename (∀ p : Addr × Obj, p ∈ news → _) => g
    exact ret _ _ _ _ h9 _ (fun q hq => Nat.lt_trans (g q hq) (by omega)) F9 (News.sub N9 (List.forall_mem_cons.mpr ⟨.head _, fun q hq => .tail _ (.tail _ (.tail _ (.tail _ (.tail _ hq))))⟩))
  · replace h2 : m (Str.ofString "who") = some (.int 2 tw) := h2
    w_strict k_steps
    refine stK (by assumption) (by assumption) (by assumption) (by assumption) ?_
    intro h9 F9 N9
    rename (∀ p : Addr × Obj, p ∈ news → _) => g
    exact ret _ _ _ _ h9 _ (fun q hq => Nat.lt_trans (g q hq) (by omega)) F9 (News.sub N9 (List.forall_mem_cons.mpr ⟨.head _, fun q hq => .tail _ (.tail _ (.tail _ (.tail _ (.tail _ hq))))⟩))
end
section
variable {w : World} {mean : ExcName → Option Value} {mg mb : Str → Option Value} {dp un : Nat} {gd : Option (List Code)} {cn : Str} {nms : List (Str × NameKind)} {ig ic : Bool} {mo : List (Str × Const)} {a : Addr} {ccd : Value} {cl : List (Str × Addr)} {outer : List Env} {A₀ : Around} {base h₀ : Heap} {L : Addr} {m : Str → Option Value} {s : Shared} {Q E : Value → Shared → Prop} {news : Led}
/-- a text of at most three of the four signs -/
noncomputable def Fit (x : Str) : Prop := (∀ c ∈ x.cps.toList, Sg c) ∧ x.length ≤ 3
noncomputable abbrev way0 (k : Int) (x0 x1 x2 : Str) : Str := Txt.join (Str.ofString "") (pickN k x0 x1 x2)
noncomputable def tellK (kd : Nat) (k : Int) (x0 x1 x2 : Str) : Str := Txt.join (Str.ofString "") ((way0 k x0 x1 x2).cps.toList.map (toldC kd))
noncomputable def Halt (P : Prop) : Prop := P
theorem Halt.intro {P : Prop} (h : Halt P) : P := h
local macro_rules | `(tactic| walk_at "call ref") => `(tactic| (k_here; refine Halt.intro ?_))
structure SlFr (m' : Str → Option Value) (lc lg lk lm ls : Addr) (kd : Int) (tk : Tok) (top kept : Int) : Prop where
  choices : m' (Str.ofString "choices") = some (.ref lc)
  signs : m' (Str.ofString "signs") = some (.ref lg)
  kind : m' (Str.ofString "kind") = some (.int kd tk)
  costs : m' (Str.ofString "costs") = some (.ref lk)
  top : ∃ t, m' (Str.ofString "top") = some (.int top t)
  masks : m' (Str.ofString "masks") = some (.ref lm)
  steps : m' (Str.ofString "steps") = some (.ref ls)
  kept : ∃ t, m' (Str.ofString "kept") = some (.int kept t)
local macro_rules | `(tactic| walk_at "eval Name") => `(tactic| (k_here; (with_reducible show wpAny _ _ (eval (Expr.Name _ _) (envOf _ _ _ _ _)) _ _ _); (rename Fr _ _ _ _ => lF'); with_unfolding_all refine ld lF' (by assumption) ?_))
theorem mod_is {prog : Program} {w : World} {A : Around} {E : Value → Shared → Prop} {s : Shared} {a b r : Int} {t u : Tok} {Q : Value → Shared → Prop} (h : a.fmod b = r) (hb : b ≠ 0) (hq : ∀ t tk, Q (.int r t) { s with toks := tk }) : wpAny (model prog w) A (binaryOp .Mod (.int a t) (.int b u)) Q E s :=
  mod_int' hb (by rw [h]; exact hq _ _)
local macro_rules | `(tactic| walk_at "exec For") => `(tactic| (k_here; refine Halt.intro ?_))
theorem lenL {prog : Program} {w : World} {A : Around} {E : Value → Shared → Prop} {s : Shared} {h₀ : Heap} {L : Addr} {D : Addr} {vs : List Value} {e : Nat} {news : Led} {Q : Value → Shared → Prop} (N : News h₀ L s.heap news) (hm : (D, listOf vs.toArray e) ∈ news) (hl : vs.length ≤ 1000)
    (h : ∀ t tk, Q (.int (vs.length : Int) t) { s with toks := tk }) : wpAny (model prog w) A (call (.builtin "len") [.ref D]) Q E s :=
  len_list (items := vs.toArray) (News.isList N hm) (by simp; omega) (h _ _)
local macro_rules | `(tactic| walk_at "call builtin:len") => `(tactic| (k_here; refine Halt.intro ?_))
local macro_rules | `(tactic| walk_at "binaryOp Mod int int") => `(tactic| (k_here; refine mod_is (by with_unfolding_all assumption) (by decide) ?_; intro t' tk'))
theorem itemL {prog : Program} {w : World} {A : Around} {E : Value → Shared → Prop} {s : Shared} {h₀ : Heap} {L : Addr} {D : Addr} {vs : Array Value} {e : Nat} {news : Led} {value slice : PySem.Expr} {k : Int} {u : Tok} {x : Value} {Q : Value → Shared → Prop} (N : News h₀ L s.heap news) (hm : (D, listOf vs e) ∈ news) (h0 : 0 ≤ k) (hfit : k < 2 ^ 63) (hx : vs.toList[k.toNat]? = some x) (h : Q x s)
    (hs : subscripted slice false (.ref D) (.int k u) = operate [.ref D, .int k u] (getItem (.ref D) (.int k u)) := by with_unfolding_all rfl) (hg : ∀ r, letTemporaryGo value (.ref D) r = pure () := by intro _; with_unfolding_all rfl) : wpAny (model prog w) A (subscriptTail value slice (.ref D) (.int k u)) Q E s :=
  item_list (News.isList N hm) h0 hfit (by rwa [Array.getElem?_toList] at hx) h hs hg
local macro_rules | `(tactic| walk_at "subscriptTail Name Name ref int") => `(tactic| (k_here; refine Halt.intro ?_))
local macro_rules | `(tactic| walk_at "exec While Compare") => `(tactic| (k_here; refine Halt.intro ?_))
theorem min_T3J {prog : Program} {w : World} {A : Around} {E : Value → Shared → Prop} {s : Shared} {h₀ : Heap} {L : Addr} {m : Str → Option Value} {l T0 T1 T2 : Addr} {n : Nat} {x0 x1 x2 z0 z1 z2 : Int} {y0 y1 y2 : Str} {a0 a1 a2 b0 b1 b2 c0 c1 c2 : Tok} {news : Led} {Q : Value → Shared → Prop} (hh : A.handled = none) (hu : A.in1.units < cLine)
    (F : Fr h₀ L s.heap m) (N : News h₀ L s.heap news) (hl : (l, listOf #[.ref T0, .ref T1, .ref T2] n) ∈ news)
    (h0 : (T0, tup3 x0 a0 y0 b0 z0 c0) ∈ news) (h1 : (T1, tup3 x1 a1 y1 b1 z1 c1) ∈ news) (h2 : (T2, tup3 x2 a2 y2 b2 z2 c2) ∈ news)
    (q : ∀ T x a y b z c h' tk, (x, y, z) = sel3 (best3 (x0, y0, z0) (x1, y1, z1) (x2, y2, z2)) (x0, y0, z0) (x1, y1, z1) (x2, y2, z2) → (T, tup3 x a y b z c) ∈ news → Fr h₀ L h' m → News h₀ L h' news → Q (.ref T) { s with heap := h', toks := tk }) :
    wpAny (model prog w) A (call (.builtin "min") [.ref l]) Q E s :=
  min_T3 hh hu F N hl h0 h1 h2 (fun e h' tk F' N' => q T0 _ _ _ _ _ _ h' tk (by rw [e]; rfl) h0 F' N') (fun e h' tk F' N' => q T1 _ _ _ _ _ _ h' tk (by rw [e]; rfl) h1 F' N') (fun e h' tk F' N' => q T2 _ _ _ _ _ _ h' tk (by rw [e]; rfl) h2 F' N')
local macro_rules | `(tactic| walk_at "call builtin:min") => `(tactic| (k_here; refine Halt.intro ?_))
noncomputable abbrev ch9 (a00 a01 a02 a10 a11 a12 a20 a21 a22 : Int) (p j : Nat) : Int := sel3 p (sel3 j a00 a01 a02) (sel3 j a10 a11 a12) (sel3 j a20 a21 a22)
noncomputable abbrev slStart (ch : Nat → Nat → Int) : SlSt := ⟨ch 0 0, ch 1 0, ch 2 0, 0, []⟩

theorem sl_next {cs : List Int} {tell : Int → Str} {ch : Nat → Nat → Int} {σ : SlSt} {p : Nat} {k0 k1 k2 : Int × Str × Int} {x z : Int} {y : Str} (hp : σ.steps.length % 3 = p) (e0 : k0 = slKey cs tell σ p (ch p 0)) (e1 : k1 = slKey cs tell σ p (ch p 1)) (e2 : k2 = slKey cs tell σ p (ch p 2)) (hb : (x, y, z) = sel3 (best3 k0 k1 k2) k0 k1 k2) : slTurn cs tell ch σ = slPut σ p z y := by
  unfold slTurn slPick
  rw [hp, ← e0, ← e1, ← e2]
  have hi := best3_lt k0 k1 k2
  revert hb hi
  generalize best3 k0 k1 k2 = i
  intro hb hi
  rcases (by omega : i = 0 ∨ i = 1 ∨ i = 2) with rfl | rfl | rfl
  · have h := hb.trans e0; injection h with h1 h; injection h with h2 h; subst h2; subst h; rfl
  · have h := hb.trans e1; injection h with h1 h; injection h with h2 h; subst h2; subst h; rfl
  · have h := hb.trans e2; injection h with h1 h; injection h with h2 h; subst h2; subst h; rfl
theorem put_k {σ : SlSt} {p : Nat} {x : Int} {y : Str} (h : x = σ.at p) : slPut σ p x y = ⟨if p = 0 then x else σ.k0, if p = 1 then x else σ.k1, if p = 0 then σ.k2 else if p = 1 then σ.k2 else x, σ.kept + 1, σ.steps ++ [y]⟩ := by unfold slPut; rw [if_pos h]
theorem put_n {σ : SlSt} {p : Nat} {x : Int} {y : Str} (h : x ≠ σ.at p) : slPut σ p x y = ⟨if p = 0 then x else σ.k0, if p = 1 then x else σ.k1, if p = 0 then σ.k2 else if p = 1 then σ.k2 else x, 0, σ.steps ++ [y]⟩ := by unfold slPut; rw [if_neg h]

theorem off1_all {D : Addr} : ∀ {l : Led}, LCg.Off1 D l → ∀ p ∈ l, p.1 ≠ D
  | [], _, _, h => nomatch h
  | _ :: _, h, p, hp => by
    rcases List.mem_cons.mp hp with e | e
    · rw [e]; exact h.1
    · exact off1_all h.2 p e
theorem opqS {P : Prop} {h₀ h : Heap} {L : Addr} {a1 a2 a3 a4 a5 a6 : Addr × Obj} (N : News h₀ L h [a1, a2, a3, a4, a5, a6])
    (k : ∀ R : Led, News h₀ L h R → a1 ∈ R → a2 ∈ R → a3 ∈ R → a4 ∈ R → a5 ∈ R → a6 ∈ R → P) : P :=
  k _ N (.head _) (.tail _ (.head _)) (.tail _ (.tail _ (.head _))) (.tail _ (.tail _ (.tail _ (.head _)))) (.tail _ (.tail _ (.tail _ (.tail _ (.head _))))) (.tail _ (.tail _ (.tail _ (.tail _ (.tail _ (.head _))))))
noncomputable def htF (vm vk : Option Value) (mB : Str → Option Value) : Str → Option Value := fun y => if y = Str.ofString "moved" then vm else if y = Str.ofString "mask" then vk else mB y
theorem ht_m0 {mB : Str → Option Value} : mB = htF (mB (Str.ofString "moved")) (mB (Str.ofString "mask")) mB := by
  funext z
  by_cases h1 : z = Str.ofString "moved"
  · subst h1; with_unfolding_all rfl
  by_cases h2 : z = Str.ofString "mask"
  · subst h2; with_unfolding_all rfl
  simp only [htF, if_neg h1, if_neg h2]
theorem ht_m {vm vk v1 v2 : Option Value} {mB : Str → Option Value} : (fun y => if y = Str.ofString "moved" then v1 else if y = Str.ofString "mask" then v2 else htF vm vk mB y) = htF v1 v2 mB := by
  funext z
  by_cases h1 : z = Str.ofString "moved"
  · subst h1; with_unfolding_all rfl
  by_cases h2 : z = Str.ofString "mask"
  · subst h2; with_unfolding_all rfl
  simp only [htF, if_neg h1, if_neg h2]
/-- the heights so far -/
structure HtJ (mB : Str → Option Value) (B : Led) (f : Value → Obj → Prop) (src : List Value) (lh I : Addr) (i : Nat) (m' : Str → Option Value) (n' : Led) : Prop where
  out : ∃ (vm vk : Option Value) (ys : List Value) (news : Led) (e : Nat), m' = htF vm vk mB ∧ Rows B f (src.take i) ys news ∧ ys.length = i ∧ (∀ p ∈ news, p.1 ≠ lh) ∧ (∀ p ∈ news, p.1 ≠ I) ∧ n' = (lh, listOf ys.toArray e) :: news
section
variable {prog : Program} {w : World} {A : Around} {E : Value → Shared → Prop} {s : Shared} {env : Env} {h₀ : Heap} {target : PySem.Expr} {body : List Stmt} {Q : Flow → Shared → Prop} {mB : Str → Option Value} {B : Led}
theorem ht_loop {rw lh : Addr} {el nw : Nat} {b0 b1 b2 : Int} {y0 y1 y2 : Tok} (f : Value → Obj → Prop) (hh : A.handled = none) (F : Fr h₀ env.locals s.heap mB) (N : News h₀ env.locals s.heap ((lh, listOf #[] el) :: B)) (hm : (rw, listOf #[.int b0 y0, .int b1 y1, .int b2 y2] nw) ∈ B) (hlh : ∀ p ∈ B, p.1 ≠ lh)
    (step : ∀ (I : Addr) (oI : Obj) (b : Int) (t : Tok) (vm vk : Option Value) (ys : List Value) (news : Led) (e : Nat) h tk, (b = b0 ∨ b = b1 ∨ b = b2) → ys.length < 3 → (∀ p ∈ B, p ∈ news) → (∀ p ∈ news, p.1 ≠ lh) → (∀ p ∈ news, p.1 ≠ I) → lh ≠ I → oI.cls = .type "list_iterator" →
      (∀ (T : Addr) (o : Obj) (e' : Nat) (v1 v2 : Option Value) (h' : Heap) (tk' : Nat) (all : Led), f (.int b t) o → (∀ p ∈ (I, oI) :: (lh, listOf ys.toArray e) :: news, p.1 < T) → Fr h₀ env.locals h' (fun y => if y = Str.ofString "moved" then v1 else if y = Str.ofString "mask" then v2 else htF vm vk mB y) → News h₀ env.locals h' all → (∀ p ∈ (I, oI) :: (T, o) :: (lh, listOf (ys.toArray.push (.ref T)) e') :: news, p ∈ all) →
        UnrEndW h₀ env.locals { s with heap := h, toks := tk } [(I, oI)] (fun m' n' => SubL [(rw, listOf #[.int b0 y0, .int b1 y1, .int b2 y2] nw)] n' ∧ HtJ mB B f [.int b0 y0, .int b1 y1, .int b2 y2] lh I (ys.length + 1) m' n') { s with heap := h', toks := tk' }) →
      Fr h₀ env.locals h (htF vm vk mB) → News h₀ env.locals h ((I, oI) :: (lh, listOf ys.toArray e) :: news) →
      wpAny (model prog w) A (assign target env (.int b t)) (fun _ s₂ => wpAny (model prog w) A (execs body env) (UnrPostW h₀ env.locals { s with heap := h, toks := tk } [(I, oI)] (fun m' n' => SubL [(rw, listOf #[.int b0 y0, .int b1 y1, .int b2 y2] nw)] n' ∧ HtJ mB B f [.int b0 y0, .int b1 y1, .int b2 y2] lh I (ys.length + 1) m' n') Q) E s₂) E { s with heap := h, toks := tk })
    (fin : ∀ (vm vk : Option Value) (q0 q1 q2 : Addr) (o0 o1 o2 : Obj) (e : Nat) h tk, f (.int b0 y0) o0 → f (.int b1 y1) o1 → f (.int b2 y2) o2 → Fr h₀ env.locals h (htF vm vk mB) → News h₀ env.locals h ((lh, listOf #[.ref q0, .ref q1, .ref q2] e) :: (q2, o2) :: (q1, o1) :: (q0, o0) :: B) → Q .next { s with heap := h, toks := tk }) :
    wpAny (model prog w) A (pyIter (.ref rw)) (fun it s₂ => TurnsAt prog w A h₀ env target body Q E it s₂) E s := by
  refine iter_listTurns (vs := [.int b0 y0, .int b1 y1, .int b2 y2]) hh F N (.tail _ hm) rfl rfl fun I hI => ?_
  have hIl : lh ≠ I := Nat.ne_of_lt (hI _ (.head _))
  refine items_ind (HtJ mB B f [.int b0 y0, .int b1 y1, .int b2 y2] lh I) ?step ?fin 3 0 _ _ rfl ⟨_, _, [], B, el, ht_m0, .nil, rfl, hlh, fun p hp => Nat.ne_of_lt (hI p (.tail _ hp)), rfl⟩
  case fin =>
    intro m' news' h' tk' hJ F' N'
    obtain ⟨vm, vk, ys, news, e, rfl, hr, hl, h1, h2, rfl⟩ := hJ.out
    obtain ⟨q0, q1, q2, o0, o1, o2, rfl, rfl, f0, f1, f2⟩ := Rows.three hr
    exact fin vm vk q0 q1 q2 o0 o1 o2 e h' tk' f0 f1 f2 F' N'
  case step =>
    intro i itm m' news' v h' tk' hit hJ hv F'
    obtain ⟨vm, vk, ys, news, e, rfl, hr, hl, h1, h2, rfl⟩ := hJ.out
    subst hl
    have hi : ys.length < 3 := (List.getElem?_eq_some_iff.mp hit).1
    obtain ⟨b, t, hbm, hget, rfl⟩ : ∃ b t, (b = b0 ∨ b = b1 ∨ b = b2) ∧ [Value.int b0 y0, .int b1 y1, .int b2 y2][ys.length]? = some (.int b t) ∧ itm = .val (.int b t) := by
      rcases fin3 hi with hj | hj | hj <;> rw [hj] at hit <;> rw [hj]
      · exact ⟨_, _, .inl rfl, rfl, (Option.some.inj hit).symm⟩
      · exact ⟨_, _, .inr (.inl rfl), rfl, (Option.some.inj hit).symm⟩
      · exact ⟨_, _, .inr (.inr rfl), rfl, (Option.some.inj hit).symm⟩
    obtain rfl : v = .int b t := hv
    refine AllObj.cons fun oI hIc => AllObj.nil fun N' => step I oI b t vm vk ys news e h' tk' hbm hi hr.sub h1 h2 hIl hIc ?_ F' N'
    intro T o e' v1 v2 h9 tk9 all hf hT F9 N9 hs9
    have hTl : T ≠ lh := (Nat.ne_of_lt (hT _ (.tail _ (.head _)))).symm
    have hTI : T ≠ I := (Nat.ne_of_lt (hT _ (.head _))).symm
    rw [ht_m] at F9
    refine UnrEndW.of1 F9 N9 (hs9 _ (.head _)) (news' := (lh, listOf (ys ++ [Value.ref T]).toArray e') :: (T, o) :: news) ?_ (off_cons hIl (off_cons hTI h2)) ⟨⟨.tail _ (.tail _ (hr.sub _ hm)), trivial⟩, ⟨v1, v2, ys ++ [Value.ref T], (T, o) :: news, e', rfl, ?_, by rw [List.length_append]; rfl, off_cons hTl h1, off_cons hTI h2, rfl⟩⟩
    · rw [List.push_toArray] at hs9
      exact sub_cons (hs9 _ (.tail _ (.tail _ (.head _)))) (sub_cons (hs9 _ (.tail _ (.head _))) fun p hp => hs9 p (.tail _ (.tail _ (.tail _ hp))))
    · rw [List.take_add_one, hget]
      exact .snoc hr hf
end
theorem item_T3 {prog : Program} {w : World} {A : Around} {E : Value → Shared → Prop} {s : Shared} {h₀ : Heap} {L : Addr} {T : Addr} {x z : Int} {y : Str} {ta tb tc : Tok} {news : Led} {value slice : PySem.Expr} {k : Int} {u : Tok} {v : Value} {Q : Value → Shared → Prop} (N : News h₀ L s.heap news) (hm : (T, tup3 x ta y tb z tc) ∈ news) {j : Nat} (h0 : -(2 ^ 63) ≤ k) (hfit : k < 2 ^ 63) (hj : seqIndex? k 3 = some j) (hx : [Value.int x ta, .str y tb, .int z tc][j]? = some v) (h : Q v s)
    (hs : subscripted slice false (.ref T) (.int k u) = operate [.ref T, .int k u] (getItem (.ref T) (.int k u)) := by with_unfolding_all rfl) : wpAny (model prog w) A (subscriptTail value slice (.ref T) (.int k u)) Q E s :=
  item_tupleT ⟨_, (N _ hm).1, rfl, _, rfl⟩ h0 hfit hj hx h hs
noncomputable def MkT (_ : Addr) : Prop := True
local macro_rules | `(tactic| walk_at "subscriptTail Name Constant ref int") => `(tactic| (k_here; refine Halt.intro ?_))
theorem put_i {p : Nat} {σ : SlSt} {x : Int} {y : Str} (hp : p < 3) : slPut σ p x y = ⟨if (p : Int) = 0 then x else σ.k0, if (p : Int) = 1 then x else σ.k1, if (p : Int) = 2 then x else σ.k2, (slPut σ p x y).kept, σ.steps ++ [y]⟩ := by
  by_cases h : x = σ.at p <;> rcases (by omega : p = 0 ∨ p = 1 ∨ p = 2) with rfl | rfl | rfl <;> first | (rw [put_k h]; rfl) | (rw [put_n h]; rfl)
theorem put_k' {p : Nat} {σ : SlSt} {x : Int} {y : Str} (hp : p < 3) (h : x = [σ.k0, σ.k1, σ.k2].getD ((p : Nat) : Int).toNat 0) : slPut σ p x y = ⟨if (p : Int) = 0 then x else σ.k0, if (p : Int) = 1 then x else σ.k1, if (p : Int) = 2 then x else σ.k2, σ.kept + 1, σ.steps ++ [y]⟩ := by
  rcases (by omega : p = 0 ∨ p = 1 ∨ p = 2) with rfl | rfl | rfl <;> exact (put_k h).trans rfl
theorem put_n' {p : Nat} {σ : SlSt} {x : Int} {y : Str} (hp : p < 3) (h : x ≠ [σ.k0, σ.k1, σ.k2].getD ((p : Nat) : Int).toNat 0) : slPut σ p x y = ⟨if (p : Int) = 0 then x else σ.k0, if (p : Int) = 1 then x else σ.k1, if (p : Int) = 2 then x else σ.k2, 0, σ.steps ++ [y]⟩ := by
  rcases (by omega : p = 0 ∨ p = 1 ∨ p = 2) with rfl | rfl | rfl <;> exact (put_n h).trans rfl
theorem key_is {p : Nat} {σ : SlSt} {cs : List Int} {tell : Int → Str} {b c : Int} (hp : p < 3) (e : b = c) : (hgt [if p = 0 then b else σ.k0, if p = 1 then b else σ.k1, if p = 2 then b else σ.k2] cs, tell b, b) = slKey cs tell σ p c := by
  subst e
  rcases (by omega : p = 0 ∨ p = 1 ∨ p = 2) with rfl | rfl | rfl <;> rfl

inductive SlJ (f : Nat → SlSt) (lc lg lk : Addr) (kd : Int) (tkd : Tok) (top : Int) (R : Led) (n : Nat) (m' : Str → Option Value) (news' : Led) : Prop
  | mk (i : Nat) (σ : SlSt) (t0 t1 t2 : Tok) (vs : List Value) (e e' : Nat) (lm ls : Addr) (hn : n + i = 81) (hσ : σ = f i) (hlt : ∀ j, j < i → (f j).kept < 3)
      (S : SlFr m' lc lg lk lm ls kd tkd top σ.kept) (hvs : StrsAre vs σ.steps) (h1 : ∀ p ∈ R, p.1 ≠ lm) (h2 : ∀ p ∈ R, p.1 ≠ ls) (h3 : lm ≠ ls)
      (he : news' = (ls, listOf vs.toArray e) :: (lm, listOf #[.int σ.k0 t0, .int σ.k1 t1, .int σ.k2 t2] e') :: R)
theorem sl_close {f : Nat → SlSt} {lc lg lk lm ls : Addr} {kd : Int} {tkd : Tok} {top : Int} {R all : Led} {n i : Nat} {σ : SlSt} {vs : List Value} {g : Heap} {L : Addr} {m'' : Str → Option Value} {h'' : Heap} {tk : Nat} {s : Shared} {y : Str} {tb t0 t1 t2 : Tok} {e1 e2 kk : Nat} {k0 k1 k2 : Int} (hn : n + i = 81) (hσ : σ = f i) (hlt : ∀ j, j < i → (f j).kept < 3) (hk3 : (σ.kept : Int) < 3) (hnx : (f i).kept < 3 → ∃ n', n = n' + 1) (hvs : StrsAre vs σ.steps) (h1 : ∀ p ∈ R, p.1 ≠ lm) (h2 : ∀ p ∈ R, p.1 ≠ ls) (h3 : lm ≠ ls)
    (hf : f (i + 1) = ⟨k0, k1, k2, kk, σ.steps ++ [y]⟩) (F : Fr g L h'' m'') (N : News g L h'' all) (hs : ∀ p ∈ (ls, listOf (vs.toArray.push (.str y tb)) e1) :: (lm, listOf #[.int k0 t0, .int k1 t1, .int k2 t2] e2) :: R, p ∈ all) (S : SlFr m'' lc lg lk lm ls kd tkd top kk) :
    WhileStep g L s (SlJ f lc lg lk kd tkd top R) n .next { s with heap := h'', toks := tk } := by
  have hk3' : (f i).kept < 3 := by rw [← hσ]; omega
  obtain ⟨n', rfl⟩ := hnx hk3'
  rw [List.push_toArray] at hs
  refine WhileStep.intro F (fun p hp => N p (hs p hp)) (Nat.lt_succ_self n') ⟨i + 1, _, t0, t1, t2, vs ++ [.str y tb], e1, e2, lm, ls, by omega, hf.symm, fun j hj => ?_, S, strsAre_snoc y tb hvs, h1, h2, h3, rfl⟩
  by_cases e : j = i
  · rw [e]; exact hk3'
  · exact hlt j (by omega)
local macro_rules | `(tactic| walk_at "exec Assign cons BinOp") => `(tactic| (k_here; (with_reducible show wpAny _ _ (exec (Stmt.Assign [Expr.Name (Str.ofString "moved") _] _ _) _) _ _ _); refine Halt.intro ?_))
local macro_rules | `(tactic| walk_at "exec Expr") => `(tactic| (k_here; (with_reducible show wpAny _ _ (exec (Stmt.Expr (Expr.Call (Expr.Attribute (Expr.Name (Str.ofString "heights") _) _ _) _ _ _) _) _) _ _ _); refine Halt.intro ?_))
inductive MkS (n : Nat) : Prop
  | mk (out : n = n)
local macro_rules | `(tactic| walk_at "exec Assign") => `(tactic| (k_here; (rename MkS _ => hMk'); (with_reducible show wpAny _ _ (exec (Stmt.Assign [Expr.Name (Str.ofString "kept") _] (Expr.IfExp _ _ _ _) _) _) _ _ _); refine Halt.intro ?_))
local macro_rules | `(tactic| walk_at "CompSrc") => `(tactic| (refine Halt.intro ?_))
local macro_rules | `(tactic| walk_at "pyIter ref") => `(tactic| (k_here; (with_reducible show wpAny _ _ (pyIter (Value.ref _)) (fun it s₂ => TurnsAt _ _ _ _ _ _ _ _ _ it s₂) _ _); refine Halt.intro ?_))
local macro_rules | `(tactic| walk_at "UnrEndW") => `(tactic| (refine Halt.intro ?_))
/-- the first way of each row -/
theorem zip_fst {h₀ h : Heap} {L r0 r1 r2 : Addr} {R : Led} {a0 a1 a2 : Int} {u0 u1 u2 : Tok} {s0 s1 s2 : List Value} {n0 n1 n2 : Nat} {ys : List Value} (N : News h₀ L h R) (m0 : (r0, listOf (Value.int a0 u0 :: s0).toArray n0) ∈ R) (m1 : (r1, listOf (Value.int a1 u1 :: s1).toArray n1) ∈ R) (m2 : (r2, listOf (Value.int a2 u2 :: s2).toArray n2) ∈ R)
    (z : Zip2 (fun v y => ∃ q vs n, v = .ref q ∧ (q, listOf vs n) ∈ R ∧ vs.toList[0]? = some y) [.ref r0, .ref r1, .ref r2] ys) : ys = [.int a0 u0, .int a1 u1, .int a2 u2] := by
  have k : ∀ {r : Addr} {a : Int} {u : Tok} {s : List Value} {n : Nat} {y : Value}, (r, listOf (Value.int a u :: s).toArray n) ∈ R → (∃ q vs n, Value.ref r = .ref q ∧ (q, listOf vs n) ∈ R ∧ vs.toList[0]? = some y) → y = .int a u := fun m ⟨_, _, _, e, q, w⟩ => by
    cases e
    cases news_fun N m q
    exact (Option.some.inj w).symm
  exact z.k3 (P := fun ys => ys = _) fun _ _ _ h0 h1 h2 => by rw [k m0 h0, k m1 h1, k m2 h2]
inductive RowV (R : Led) : Value → Prop
  | mk (q : Addr) (b : Int) (t : Tok) (rest : List Value) (n : Nat) (mq : (q, listOf (Value.int b t :: rest).toArray n) ∈ R) : RowV R (.ref q)
theorem rowV {R : Led} {r0 r1 r2 : Addr} {a0 a1 a2 : Int} {u0 u1 u2 : Tok} {s0 s1 s2 : List Value} {n0 n1 n2 : Nat} {v : Value} (m0 : (r0, listOf (Value.int a0 u0 :: s0).toArray n0) ∈ R) (m1 : (r1, listOf (Value.int a1 u1 :: s1).toArray n1) ∈ R) (m2 : (r2, listOf (Value.int a2 u2 :: s2).toArray n2) ∈ R) (hv : v ∈ [Value.ref r0, .ref r1, .ref r2]) : RowV R v := by
  rcases List.mem_cons.mp hv with rfl | hv
  · exact ⟨_, _, _, _, _, m0⟩
  rcases List.mem_cons.mp hv with rfl | hv
  · exact ⟨_, _, _, _, _, m1⟩
  rw [List.mem_singleton.mp hv]
  exact ⟨_, _, _, _, _, m2⟩
inductive RowAt (R : Led) (r0 r1 r2 : Addr) (ch : Nat → Nat → Int) (p : Nat) : Prop
  | mk (rw : Addr) (nw : Nat) (b0 b1 b2 : Int) (y0 y1 y2 : Tok) (hrow : (#[Value.ref r0, .ref r1, .ref r2] : Array Value).toList[((p : Nat) : Int).toNat]? = some (.ref rw)) (hmem : (rw, listOf #[.int b0 y0, .int b1 y1, .int b2 y2] nw) ∈ R) (hb0 : b0 = ch p 0) (hb1 : b1 = ch p 1) (hb2 : b2 = ch p 2)
theorem rowAt {R : Led} {r0 r1 r2 : Addr} {n0 n1 n2 : Nat} {a00 a01 a02 a10 a11 a12 a20 a21 a22 : Int} {u00 u01 u02 u10 u11 u12 u20 u21 u22 : Tok} {p : Nat} (hp : p < 3) (m0 : (r0, listOf #[.int a00 u00, .int a01 u01, .int a02 u02] n0) ∈ R) (m1 : (r1, listOf #[.int a10 u10, .int a11 u11, .int a12 u12] n1) ∈ R) (m2 : (r2, listOf #[.int a20 u20, .int a21 u21, .int a22 u22] n2) ∈ R) : RowAt R r0 r1 r2 (ch9 a00 a01 a02 a10 a11 a12 a20 a21 a22) p := by
  rcases fin3 hp with rfl | rfl | rfl
  · exact ⟨r0, n0, _, _, _, _, _, _, rfl, m0, rfl, rfl, rfl⟩
  · exact ⟨r1, n1, _, _, _, _, _, _, rfl, m1, rfl, rfl, rfl⟩
  · exact ⟨r2, n2, _, _, _, _, _, _, rfl, m2, rfl, rfl, rfl⟩
inductive HtRow (p : Nat) (σ : SlSt) (cs : List Int) (tell : Int → Str) : Value → Obj → Prop
  | mk (b : Int) (t a u c : Tok) : HtRow p σ cs tell (.int b t) (tup3 (hgt [if p = 0 then b else σ.k0, if p = 1 then b else σ.k1, if p = 2 then b else σ.k2] cs) a (tell b) u b c)
theorem HtRow.get {p : Nat} {σ : SlSt} {cs : List Int} {tell : Int → Str} {b : Int} {t : Tok} {o : Obj} (h : HtRow p σ cs tell (.int b t) o) : ∃ a u c, o = tup3 (hgt [if p = 0 then b else σ.k0, if p = 1 then b else σ.k1, if p = 2 then b else σ.k2] cs) a (tell b) u b c := by
  cases h with
  | mk b t a u c => exact ⟨_, _, _, rfl⟩
/-- what stands of the turn's number -/
structure SlArith (f : Nat → SlSt) (σ : SlSt) (i n p : Nat) (vs : List Value) : Prop where
  vl : vs.length ≤ 1000
  nx : (f i).kept < 3 → ∃ n', n = n' + 1
  hp : p < 3
  hw : (vs.length : Int).fmod 3 = (p : Int)
  hw' : σ.steps.length % 3 = p
theorem slArith {f : Nat → SlSt} {σ : SlSt} {i n : Nat} {vs : List Value} (hn : n + i = 81) (hsl : σ.steps.length = i) (hvs : StrsAre vs σ.steps) (hlt : ∀ j, j < i → (f j).kept < 3) (hterm : ∃ j, j ≤ 81 ∧ 3 ≤ (f j).kept) : ∃ p, SlArith f σ i n p vs := by
  have hvl' : vs.length = i := by rw [hvs.length, hsl]
  refine ⟨i % 3, by omega, fun hk => ?_, by omega, by rw [Int.fmod_eq_emod_of_nonneg _ (by decide), hvl']; omega, by rw [hsl]⟩
  obtain ⟨j, hj, hj3⟩ := hterm
  have : i ≠ 81 := by
    rintro rfl
    by_cases e : j = 81
    · subst e; omega
    · have := hlt j (by omega); omega
  exact ⟨n - 1, by omega⟩
theorem names10 {P : Prop} {h₀ h : Heap} {L : Addr} {m : Str → Option Value} {x1 x2 x3 x4 x5 x6 x7 x8 x9 x10 : Str} {v1 v2 v3 v4 v5 v6 v7 v8 v9 v10 : Value} (F : Fr h₀ L h m) (e1 : m x1 = some v1) (e2 : m x2 = some v2) (e3 : m x3 = some v3) (e4 : m x4 = some v4) (e5 : m x5 = some v5) (e6 : m x6 = some v6) (e7 : m x7 = some v7) (e8 : m x8 = some v8) (e9 : m x9 = some v9) (e10 : m x10 = some v10)
    (k : ∀ M, Fr h₀ L h M → M x1 = some v1 → M x2 = some v2 → M x3 = some v3 → M x4 = some v4 → M x5 = some v5 → M x6 = some v6 → M x7 = some v7 → M x8 = some v8 → M x9 = some v9 → M x10 = some v10 → P) : P := k m F e1 e2 e3 e4 e5 e6 e7 e8 e9 e10
theorem slope_ok {lc r0 r1 r2 lg lk : Addr} {nc n0 n1 n2 ng nk : Nat} {a00 a01 a02 a10 a11 a12 a20 a21 a22 : Int} {u00 u01 u02 u10 u11 u12 u20 u21 u22 : Tok} {x0 x1 x2 : Str} {v0 v1 v2 : Tok} {c0 c1 c2 c3 c4 c5 c6 c7 c8 : Int} {s0 s1 s2 s3 s4 s5 s6 s7 s8 : Tok} {kd : Int} {tkd : Tok}
   (hk0 : 0 ≤ kd) (hk5 : kd < 5) (hx0 : x0.length ≤ 1) (hx1 : x1.length ≤ 1) (hx2 : x2.length ≤ 1) (hfit : ∀ k, Fit (way0 k x0 x1 x2))
   (C : Cx w mean mg mb dp un A₀ base outer h₀ L m s [(lc, listOf #[.ref r0, .ref r1, .ref r2] nc), (r0, listOf #[.int a00 u00, .int a01 u01, .int a02 u02] n0), (r1, listOf #[.int a10 u10, .int a11 u11, .int a12 u12] n1), (r2, listOf #[.int a20 u20, .int a21 u21, .int a22 u22] n2), (lg, listOf #[.str x0 v0, .str x1 v1, .str x2 v2] ng), (lk, listOf #[.int c0 s0, .int c1 s1, .int c2 s2, .int c3 s3, .int c4 s4, .int c5 s5, .int c6 s6, .int c7 s7, .int c8 s8] nk)] 3)
   (f : Nat → SlSt) (hf : f = slIter [c0, c1, c2, c3, c4, c5, c6, c7, c8] (fun k => tellK kd.toNat k x0 x1 x2) (ch9 a00 a01 a02 a10 a11 a12 a20 a21 a22) (slStart (ch9 a00 a01 a02 a10 a11 a12 a20 a21 a22)))
   (hterm : ∃ j, j ≤ 81 ∧ 3 ≤ (f j).kept)
   (ret : ∀ (i : Nat) (lt ls : Addr) (vs : List Value) (e : Nat) (t : Tok) h' tk', (∀ j, j < i → (f j).kept < 3) → 3 ≤ (f i).kept → StrsAre vs (f i).steps → Fr h₀ L h' m → Keep [] s.heap h' →
     News h₀ L h' [(lt, { cls := .type "tuple", data := .seq #[.ref ls, .int (hgt [a00, a10, a20] [c0, c1, c2, c3, c4, c5, c6, c7, c8] - hgt [(f i).k0, (f i).k1, (f i).k2] [c0, c1, c2, c3, c4, c5, c6, c7, c8]) t] }), (ls, listOf vs.toArray e)] → s.heap.get? lt = none → s.heap.get? ls = none → Q (.ref lt) { s with heap := h', toks := tk' }) :
   wpAny (mdl w) (tp dp un gd cn nms ig ic mo L a ccd cl outer) (call (.ref 411) [.ref lc, .ref lg, .int kd tkd, .ref lk]) Q E s := by
  ((have hfill : (PySem.Challenge.rw_xl0032_01 = PySem.Challenge.rw_xl0032_01 ∧ Mine.hd.heap_1 = Mine.hd.heap_1) := by (k_fill; exact ⟨rfl, rfl⟩)); clear hfill; (rename Cx _ _ _ _ _ _ _ _ _ _ _ _ _ _ _ => Cz9); obtain ⟨Bz9, Fz9, Xz9, Nz9, Tz9, hdz9, huz9⟩ := Cz9; refine wpAny_call ?_; w_strict (k_dflt (refine' code_defM ?k1 ?k2 ?k3 ?k4 ?k5 ?kA ?kF ?kK ?k6 ?k7 ?k8 ?k9 ?kB ?_ ?c2 ?c3 ?c4 ?c5; (case kA => exact rfl); (case kF => exact rfl); (case kK => exact rfl); (case k1 => k_asm); (case k2 => k_asm); (case k3 => k_asm); (case k4 => k_asm); (case k5 => k_asm); (case k6 => k_is); (case k7 => k_is); (case k8 => ktr_room); (case k9 => first | exact BindsTo.of_eq rfl | exact binds_K (by k_in) rfl (by k_is) rfl rfl rfl); (case c5 => decide); (case kB => exact locs rfl); (case c2 => exact rfl); (case c3 => exact rfl); (case c4 => exact rfl); k_whole; intro gz9 Lz9 hz9 hGz9 FGz9 Fz8 Nz8 Bz8 Xz8 Tz8; (try dsimp only); (try k_lift Bz8); (try k_fold))))
  walk_at "tb.let"
  rename News _ _ _ _ => lN
  refine opqS lN fun R N9 mlc mr0 mr1 mr2 mlg mlk => ?_
  clear lN
  w_strict k_steps
  repeat (any_goals (unfold Halt; (first | ((with_reducible show wpAny _ _ (call (Value.ref 406) _ _) _ _ _); refine' height_ok (by ktr_unf) ?_; intro tz9 hz9 tkz9 Fz9 kz9; (have Nz9 := Keep.all kz9 (by assumption)); k_sweep; (try dsimp only)) | ((with_reducible show wpAny _ _ (call (Value.builtin "len") [Value.ref _]) _ _ _); refine lenL (by k_asm) (by k_mem) (by assumption) ?_; intro tz9 tkz9) | ((with_reducible show wpAny _ _ (subscriptTail (Expr.Name _ _) (Expr.Name _ _) (Value.ref _) (Value.int _ _)) _ _ _); refine' itemL ?k1 ?k2 ?k3 ?k4 ?k5 ?_ ?k7 ?k8; (case k1 => k_asm); (case k2 => k_mem); (case k3 => omega); (case k4 => omega); (case k5 => assumption); (case k7 => with_unfolding_all rfl); (case k8 => (intro _; with_unfolding_all rfl))) | ((with_reducible show wpAny _ _ (subscriptTail _ _ (Value.ref _) (Value.int _ _)) _ _ _); (rename MkT _ => hMz9); refine' item_T3 ?k1 ?k2 ?k3 ?k4 ?k6 ?k5 ?_ ?k7; (case k1 => k_asm); (case k2 => k_mem); (case k3 => decide); (case k4 => decide); (case k6 => with_unfolding_all rfl); (case k5 => with_unfolding_all rfl); (case k7 => with_unfolding_all rfl)) | ((with_reducible show wpAny _ _ (exec (Stmt.For _ (Expr.Subscript _ _ _) _ _ _) _) _ _ _); (rename Fr _ _ _ _ => lFz9); (with_unfolding_all refine' For_turns lFz9 ?_); k_whole)); w_strict k_steps))
  unfold Halt
  rename News _ _ _ _ => lN
  refine CompSrc_items (fun v y => ∃ q vs n, v = .ref q ∧ (q, listOf vs n) ∈ R ∧ vs.toList[0]? = some y) (by rfl) (by k_asm) lN (by k_mem) (Nat.le_of_ble_eq_true rfl) ?_ ?_
  · intro v C2 oC2 m₂ R8 h8 tk8 Q8 E8 hv hC8 hx8 F8 N8 mC8 hs8 ret8
    obtain ⟨q, b, t, rest, n, mq⟩ := rowV mr0 mr1 mr2 hv
    have mq8 := hs8 _ mq
    have hz : (Value.int b t :: rest).toArray.toList[0]? = some (.int b t) := rfl
    clear lN
    k_sweep
    w_strict k_steps
    repeat (any_goals (unfold Halt; (first | ((with_reducible show wpAny _ _ (call (Value.ref 406) _ _) _ _ _); refine' height_ok (by ktr_unf) ?_; intro tz9 hz9 tkz9 Fz9 kz9; (have Nz9 := Keep.all kz9 (by assumption)); k_sweep; (try dsimp only)) | ((with_reducible show wpAny _ _ (call (Value.builtin "len") [Value.ref _]) _ _ _); refine lenL (by k_asm) (by k_mem) (by assumption) ?_; intro tz9 tkz9) | ((with_reducible show wpAny _ _ (subscriptTail (Expr.Name _ _) (Expr.Name _ _) (Value.ref _) (Value.int _ _)) _ _ _); refine' itemL ?k1 ?k2 ?k3 ?k4 ?k5 ?_ ?k7 ?k8; (case k1 => k_asm); (case k2 => k_mem); (case k3 => omega); (case k4 => omega); (case k5 => assumption); (case k7 => with_unfolding_all rfl); (case k8 => (intro _; with_unfolding_all rfl))) | ((with_reducible show wpAny _ _ (subscriptTail _ _ (Value.ref _) (Value.int _ _)) _ _ _); (rename MkT _ => hMz9); refine' item_T3 ?k1 ?k2 ?k3 ?k4 ?k6 ?k5 ?_ ?k7; (case k1 => k_asm); (case k2 => k_mem); (case k3 => decide); (case k4 => decide); (case k6 => with_unfolding_all rfl); (case k5 => with_unfolding_all rfl); (case k7 => with_unfolding_all rfl)) | ((with_reducible show wpAny _ _ (exec (Stmt.For _ (Expr.Subscript _ _ _) _ _ _) _) _ _ _); (rename Fr _ _ _ _ => lFz9); (with_unfolding_all refine' For_turns lFz9 ?_); k_whole)); w_strict k_steps))
    unfold Halt
    refine itemL (by k_asm) mq8 (by decide) (by decide) hz ?_ (by with_unfolding_all rfl) (by intro _; with_unfolding_all rfl)
    w_strict k_steps
    repeat (any_goals (unfold Halt; (first | ((with_reducible show wpAny _ _ (call (Value.ref 406) _ _) _ _ _); refine' height_ok (by ktr_unf) ?_; intro tz9 hz9 tkz9 Fz9 kz9; (have Nz9 := Keep.all kz9 (by assumption)); k_sweep; (try dsimp only)) | ((with_reducible show wpAny _ _ (call (Value.builtin "len") [Value.ref _]) _ _ _); refine lenL (by k_asm) (by k_mem) (by assumption) ?_; intro tz9 tkz9) | ((with_reducible show wpAny _ _ (subscriptTail (Expr.Name _ _) (Expr.Name _ _) (Value.ref _) (Value.int _ _)) _ _ _); refine' itemL ?k1 ?k2 ?k3 ?k4 ?k5 ?_ ?k7 ?k8; (case k1 => k_asm); (case k2 => k_mem); (case k3 => omega); (case k4 => omega); (case k5 => assumption); (case k7 => with_unfolding_all rfl); (case k8 => (intro _; with_unfolding_all rfl))) | ((with_reducible show wpAny _ _ (subscriptTail _ _ (Value.ref _) (Value.int _ _)) _ _ _); (rename MkT _ => hMz9); refine' item_T3 ?k1 ?k2 ?k3 ?k4 ?k6 ?k5 ?_ ?k7; (case k1 => k_asm); (case k2 => k_mem); (case k3 => decide); (case k4 => decide); (case k6 => with_unfolding_all rfl); (case k5 => with_unfolding_all rfl); (case k7 => with_unfolding_all rfl)) | ((with_reducible show wpAny _ _ (exec (Stmt.For _ (Expr.Subscript _ _ _) _ _ _) _) _ _ _); (rename Fr _ _ _ _ => lFz9); (with_unfolding_all refine' For_turns lFz9 ?_); k_whole)); w_strict k_steps))
    exact ret8 _ _ _ ⟨q, _, n, rfl, mq, hz⟩ (by assumption) (by assumption)
  intro g8 ys hz
  obtain rfl := zip_fst lN mr0 mr1 mr2 hz
  intro D8 h8 tk8 F8 N8 off8
  k_sweep
  w_strict k_steps
  repeat (any_goals (unfold Halt; (first | ((with_reducible show wpAny _ _ (call (Value.ref 406) _ _) _ _ _); refine' height_ok (by ktr_unf) ?_; intro tz9 hz9 tkz9 Fz9 kz9; (have Nz9 := Keep.all kz9 (by assumption)); k_sweep; (try dsimp only)) | ((with_reducible show wpAny _ _ (call (Value.builtin "len") [Value.ref _]) _ _ _); refine lenL (by k_asm) (by k_mem) (by assumption) ?_; intro tz9 tkz9) | ((with_reducible show wpAny _ _ (subscriptTail (Expr.Name _ _) (Expr.Name _ _) (Value.ref _) (Value.int _ _)) _ _ _); refine' itemL ?k1 ?k2 ?k3 ?k4 ?k5 ?_ ?k7 ?k8; (case k1 => k_asm); (case k2 => k_mem); (case k3 => omega); (case k4 => omega); (case k5 => assumption); (case k7 => with_unfolding_all rfl); (case k8 => (intro _; with_unfolding_all rfl))) | ((with_reducible show wpAny _ _ (subscriptTail _ _ (Value.ref _) (Value.int _ _)) _ _ _); (rename MkT _ => hMz9); refine' item_T3 ?k1 ?k2 ?k3 ?k4 ?k6 ?k5 ?_ ?k7; (case k1 => k_asm); (case k2 => k_mem); (case k3 => decide); (case k4 => decide); (case k6 => with_unfolding_all rfl); (case k5 => with_unfolding_all rfl); (case k7 => with_unfolding_all rfl)) | ((with_reducible show wpAny _ _ (exec (Stmt.For _ (Expr.Subscript _ _ _) _ _ _) _) _ _ _); (rename Fr _ _ _ _ => lFz9); (with_unfolding_all refine' For_turns lFz9 ?_); k_whole)); w_strict k_steps))
  unfold Halt
  rename Fr _ _ _ _ => lF
  rename News _ _ _ _ => lN
  rename (_ < _ ∧ _) => hl
  refine While_inv (J := SlJ f lc lg lk kd tkd (hgt [a00, a10, a20] [c0, c1, c2, c3, c4, c5, c6, c7, c8]) R) (n₀ := 81) lF lN ?init ?turn
  case init =>
    refine ⟨0, f 0, _, _, _, [], _, _, D8, _, rfl, rfl, fun j hj => absurd hj (Nat.not_lt_zero j), ?_, by rw [hf]; exact .nil, off1_all off8, lt_off (allLt_mem hl.2), Nat.ne_of_lt hl.1, by rw [hf]; rfl⟩
    rw [hf]
    exact ⟨by with_unfolding_all rfl, by with_unfolding_all rfl, by with_unfolding_all rfl, by with_unfolding_all rfl, ⟨_, by with_unfolding_all rfl⟩, by with_unfolding_all rfl, by with_unfolding_all rfl, ⟨_, by with_unfolding_all rfl⟩⟩
  case turn =>
    clear lF lN hl off8
    intro n m' news' h' tk' F' N' hJ
    obtain ⟨i, σ, t0, t1, t2, vs, e, e', lm, ls, hn, hσ, hlt, ⟨f1, f2, f3, f4, ⟨tt, f5⟩, f6, f7, ⟨tq, f8⟩⟩, hvs, hRm, hRs, hms, rfl⟩ := hJ
    have hsl : σ.steps.length = i := by rw [hσ, hf, slIter_len]; exact Nat.zero_add i
    obtain ⟨p, hvl, hnx, hp, hw, hw'⟩ := slArith hn hsl hvs hlt hterm
    have hfs : f (i + 1) = slTurn [c0, c1, c2, c3, c4, c5, c6, c7, c8] (fun k => tellK kd.toNat k x0 x1 x2) (ch9 a00 a01 a02 a10 a11 a12 a20 a21 a22) σ := by rw [hσ, hf]; rfl
    clear hsl
    obtain ⟨rw, nw, b0, b1, b2, y0, y1, y2, hrow, hmem, hb0, hb1, hb2⟩ := rowAt hp mr0 mr1 mr2
    w_strict k_steps
    repeat (any_goals (unfold Halt; (first | ((with_reducible show wpAny _ _ (call (Value.ref 406) _ _) _ _ _); refine' height_ok (by ktr_unf) ?_; intro tz9 hz9 tkz9 Fz9 kz9; (have Nz9 := Keep.all kz9 (by assumption)); k_sweep; (try dsimp only)) | ((with_reducible show wpAny _ _ (call (Value.builtin "len") [Value.ref _]) _ _ _); refine lenL (by k_asm) (by k_mem) (by assumption) ?_; intro tz9 tkz9) | ((with_reducible show wpAny _ _ (subscriptTail (Expr.Name _ _) (Expr.Name _ _) (Value.ref _) (Value.int _ _)) _ _ _); refine' itemL ?k1 ?k2 ?k3 ?k4 ?k5 ?_ ?k7 ?k8; (case k1 => k_asm); (case k2 => k_mem); (case k3 => omega); (case k4 => omega); (case k5 => assumption); (case k7 => with_unfolding_all rfl); (case k8 => (intro _; with_unfolding_all rfl))) | ((with_reducible show wpAny _ _ (subscriptTail _ _ (Value.ref _) (Value.int _ _)) _ _ _); (rename MkT _ => hMz9); refine' item_T3 ?k1 ?k2 ?k3 ?k4 ?k6 ?k5 ?_ ?k7; (case k1 => k_asm); (case k2 => k_mem); (case k3 => decide); (case k4 => decide); (case k6 => with_unfolding_all rfl); (case k5 => with_unfolding_all rfl); (case k7 => with_unfolding_all rfl)) | ((with_reducible show wpAny _ _ (exec (Stmt.For _ (Expr.Subscript _ _ _) _ _ _) _) _ _ _); (rename Fr _ _ _ _ => lFz9); (with_unfolding_all refine' For_turns lFz9 ?_); k_whole)); w_strict k_steps))
    rotate_left
    · w_strict k_steps
      repeat (any_goals (unfold Halt; (first | ((with_reducible show wpAny _ _ (call (Value.ref 406) _ _) _ _ _); refine' height_ok (by ktr_unf) ?_; intro tz9 hz9 tkz9 Fz9 kz9; (have Nz9 := Keep.all kz9 (by assumption)); k_sweep; (try dsimp only)) | ((with_reducible show wpAny _ _ (call (Value.builtin "len") [Value.ref _]) _ _ _); refine lenL (by k_asm) (by k_mem) (by assumption) ?_; intro tz9 tkz9) | ((with_reducible show wpAny _ _ (subscriptTail (Expr.Name _ _) (Expr.Name _ _) (Value.ref _) (Value.int _ _)) _ _ _); refine' itemL ?k1 ?k2 ?k3 ?k4 ?k5 ?_ ?k7 ?k8; (case k1 => k_asm); (case k2 => k_mem); (case k3 => omega); (case k4 => omega); (case k5 => assumption); (case k7 => with_unfolding_all rfl); (case k8 => (intro _; with_unfolding_all rfl))) | ((with_reducible show wpAny _ _ (subscriptTail _ _ (Value.ref _) (Value.int _ _)) _ _ _); (rename MkT _ => hMz9); refine' item_T3 ?k1 ?k2 ?k3 ?k4 ?k6 ?k5 ?_ ?k7; (case k1 => k_asm); (case k2 => k_mem); (case k3 => decide); (case k4 => decide); (case k6 => with_unfolding_all rfl); (case k5 => with_unfolding_all rfl); (case k7 => with_unfolding_all rfl)) | ((with_reducible show wpAny _ _ (exec (Stmt.For _ (Expr.Subscript _ _ _) _ _ _) _) _ _ _); (rename Fr _ _ _ _ => lFz9); (with_unfolding_all refine' For_turns lFz9 ?_); k_whole)); w_strict k_steps))
      rename Fr _ _ _ _ => lF
      rename News _ _ _ _ => lN
      rename (_ < _ ∧ _) => hl
      rename Keep _ s.heap _ => hG
      refine ret i _ ls vs e ?_ _ _ hlt (by rw [← hσ]; omega) (hσ ▸ hvs) lF ?_ ?_ ?_ ?_
      rotate_left
      · exact Keep.back (Keep.of hG (by assumption)) (by assumption) lN (by lcg_sub)
      · rw [← hσ]; exact News.sub lN (by lcg_sub)
      · refine Keep.fresh hG (by assumption) fun p hp => lt_off (allL_at hl.2) p ?_
        revert p hp
        lcg_sub
      · refine Keep.fresh hG (News.sub (led := [(ls, listOf vs.toArray e)]) (by assumption) (by lcg_sub)) fun p hp => hRs p ?_
        revert p hp
        lcg_sub
    unfold Halt
    rename Fr _ _ _ _ => lF
    rename News _ _ _ _ => lN
    rename (_ < _ ∧ _) => hl
    rename ((σ.kept : Int) < 3) => hk3
    refine names10 (x1 := Str.ofString "choices") (x2 := Str.ofString "signs") (x3 := Str.ofString "kind") (x4 := Str.ofString "costs") (x5 := Str.ofString "top") (x6 := Str.ofString "masks") (x7 := Str.ofString "steps") (x8 := Str.ofString "kept") (x9 := Str.ofString "who") (x10 := Str.ofString "heights") lF (by with_unfolding_all exact f1) (by with_unfolding_all exact f2) (by with_unfolding_all exact f3) (by with_unfolding_all exact f4) (by with_unfolding_all exact f5) (by with_unfolding_all exact f6) (by with_unfolding_all exact f7) (by with_unfolding_all exact f8) (by with_unfolding_all rfl) (by with_unfolding_all rfl) fun mB F9 g1 g2 g3 g4 g5 g6 g7 g8 g9 g10 => ?_
    have hBl : ∀ p ∈ (ls, listOf vs.toArray e) :: (lm, listOf #[.int σ.k0 t0, .int σ.k1 t1, .int σ.k2 t2] e') :: R, p.1 ≠ _ := off_cons (Nat.ne_of_lt hl.1) (lt_off (allL_at hl.2))
    clear lF hl f1 f2 f3 f4 f5 f6 f7 f8
    refine ht_loop (HtRow p σ [c0, c1, c2, c3, c4, c5, c6, c7, c8] (fun k => tellK kd.toNat k x0 x1 x2)) (by rfl) F9 lN (by k_mem) hBl ?_ ?_
    · clear lN F9 hBl mlc mr0 mr1 mr2 hmem
      intro I oI b t vm vk ys news e9 h9 tk9 hb hy hs hlh hIo hlI hIc close F9 N9
      have nlm := hs _ (.tail _ (.head _))
      have nlk := hs _ (.tail _ (.tail _ mlk))
      have nlg := hs _ (.tail _ (.tail _ mlg))
      clear hs
      w_strict k_steps
      repeat (any_goals (unfold Halt; (first | ((with_reducible show wpAny _ _ (call (Value.ref 406) _ _) _ _ _); refine' height_ok (by ktr_unf) ?_; intro tz9 hz9 tkz9 Fz9 kz9; (have Nz9 := Keep.all kz9 (by assumption)); k_sweep; (try dsimp only)) | ((with_reducible show wpAny _ _ (call (Value.builtin "len") [Value.ref _]) _ _ _); refine lenL (by k_asm) (by k_mem) (by assumption) ?_; intro tz9 tkz9) | ((with_reducible show wpAny _ _ (subscriptTail (Expr.Name _ _) (Expr.Name _ _) (Value.ref _) (Value.int _ _)) _ _ _); refine' itemL ?k1 ?k2 ?k3 ?k4 ?k5 ?_ ?k7 ?k8; (case k1 => k_asm); (case k2 => k_mem); (case k3 => omega); (case k4 => omega); (case k5 => assumption); (case k7 => with_unfolding_all rfl); (case k8 => (intro _; with_unfolding_all rfl))) | ((with_reducible show wpAny _ _ (subscriptTail _ _ (Value.ref _) (Value.int _ _)) _ _ _); (rename MkT _ => hMz9); refine' item_T3 ?k1 ?k2 ?k3 ?k4 ?k6 ?k5 ?_ ?k7; (case k1 => k_asm); (case k2 => k_mem); (case k3 => decide); (case k4 => decide); (case k6 => with_unfolding_all rfl); (case k5 => with_unfolding_all rfl); (case k7 => with_unfolding_all rfl)) | ((with_reducible show wpAny _ _ (exec (Stmt.For _ (Expr.Subscript _ _ _) _ _ _) _) _ _ _); (rename Fr _ _ _ _ => lFz9); (with_unfolding_all refine' For_turns lFz9 ?_); k_whole)); w_strict k_steps))
      unfold Halt
      rename Fr _ _ _ _ => F'
      rename News _ _ _ _ => N'
      rename (Frag.In _ _) => X'
      refine' moved_ok X' F' N' (by rfl) (by rfl) (by rfl) (by rfl) (by rfl) ?a ?b ?c ?d hp ?_
      case a => with_unfolding_all assumption
      case b => k_mem
      case c => with_unfolding_all assumption
      case d => with_unfolding_all rfl
      clear F' N'
      intro D' u0' u1' u2' h' tk' l1' F' N'
      have hD1 := Nat.ne_of_lt (l1' _ (.tail _ (.head _)))
      clear l1'
      k_sweep
      w_strict k_steps
      repeat (any_goals (unfold Halt; (first | ((with_reducible show wpAny _ _ (call (Value.ref 406) _ _) _ _ _); refine' height_ok (by ktr_unf) ?_; intro tz9 hz9 tkz9 Fz9 kz9; (have Nz9 := Keep.all kz9 (by assumption)); k_sweep; (try dsimp only)) | ((with_reducible show wpAny _ _ (call (Value.builtin "len") [Value.ref _]) _ _ _); refine lenL (by k_asm) (by k_mem) (by assumption) ?_; intro tz9 tkz9) | ((with_reducible show wpAny _ _ (subscriptTail (Expr.Name _ _) (Expr.Name _ _) (Value.ref _) (Value.int _ _)) _ _ _); refine' itemL ?k1 ?k2 ?k3 ?k4 ?k5 ?_ ?k7 ?k8; (case k1 => k_asm); (case k2 => k_mem); (case k3 => omega); (case k4 => omega); (case k5 => assumption); (case k7 => with_unfolding_all rfl); (case k8 => (intro _; with_unfolding_all rfl))) | ((with_reducible show wpAny _ _ (subscriptTail _ _ (Value.ref _) (Value.int _ _)) _ _ _); (rename MkT _ => hMz9); refine' item_T3 ?k1 ?k2 ?k3 ?k4 ?k6 ?k5 ?_ ?k7; (case k1 => k_asm); (case k2 => k_mem); (case k3 => decide); (case k4 => decide); (case k6 => with_unfolding_all rfl); (case k5 => with_unfolding_all rfl); (case k7 => with_unfolding_all rfl)) | ((with_reducible show wpAny _ _ (exec (Stmt.For _ (Expr.Subscript _ _ _) _ _ _) _) _ _ _); (rename Fr _ _ _ _ => lFz9); (with_unfolding_all refine' For_turns lFz9 ?_); k_whole)); w_strict k_steps))
      unfold Halt
      rename Fr _ _ _ _ => F'
      rename News _ _ _ _ => N'
      refine' app_ok X' F' N' ?hU ?mL ?mD ?mK ?mG ?hv (by rfl) (by rfl) (by rfl) (by rfl) (by rfl) (by rfl) (by rfl) ?n1 ?n2 ?n3 ?n4 ?n5 ?n6 ?g1 ?g2 ?g3 ?k1 ?k2 ?k3 (by rfl) (by rfl) ⟨_, by rfl⟩ ?_
      case n1 => with_unfolding_all assumption
      case n2 => with_unfolding_all rfl
      case n3 => with_unfolding_all assumption
      case n4 => with_unfolding_all rfl
      case n5 => with_unfolding_all assumption
      case n6 => with_unfolding_all assumption
      case mL => k_mem
      case mD => k_mem
      case mK => k_mem
      case mG => k_mem
      case hv => simp only [List.size_toArray]; omega
      case hU => (intro T hT; k_upd)
      case g1 => (intro s' p' Q' F9 q9; walk1; exact q9)
      case g2 => (intro s' p' Q' F9 q9; walk1; exact q9)
      case g3 => (intro s' p' Q' F9 q9; walk1; exact q9)
      case k1 => (intro s' Q' F9 N9 q9; refine' height_ok (by ktr_unf) ?_; intro t' h' tk' F8 k'; exact q9 t' h' tk' F8 (Keep.all k' N9))
      case k2 => (intro s' Q' F9 N9 q9; refine' signs_of_ok hx0 hx1 hx2 (by ktr_unf) ?_; intro t' h' tk' F8 k'; exact q9 t' h' tk' F8 (Keep.all k' N9))
      case k3 => (intro t₀ s' Q' F9 N9 q9; refine' spelled_ok hk0 hk5 (hfit _).1 (hfit _).2 (by ktr_unf) ?_; intro t' h' tk' F8 k'; exact q9 t' h' tk' F8 (Keep.all k' N9))
      clear F' N'
      intro T t0' t1' h' tk' l1' F' N'
      w_strict k_steps
      repeat (any_goals (unfold Halt; (first | ((with_reducible show wpAny _ _ (call (Value.ref 406) _ _) _ _ _); refine' height_ok (by ktr_unf) ?_; intro tz9 hz9 tkz9 Fz9 kz9; (have Nz9 := Keep.all kz9 (by assumption)); k_sweep; (try dsimp only)) | ((with_reducible show wpAny _ _ (call (Value.builtin "len") [Value.ref _]) _ _ _); refine lenL (by k_asm) (by k_mem) (by assumption) ?_; intro tz9 tkz9) | ((with_reducible show wpAny _ _ (subscriptTail (Expr.Name _ _) (Expr.Name _ _) (Value.ref _) (Value.int _ _)) _ _ _); refine' itemL ?k1 ?k2 ?k3 ?k4 ?k5 ?_ ?k7 ?k8; (case k1 => k_asm); (case k2 => k_mem); (case k3 => omega); (case k4 => omega); (case k5 => assumption); (case k7 => with_unfolding_all rfl); (case k8 => (intro _; with_unfolding_all rfl))) | ((with_reducible show wpAny _ _ (subscriptTail _ _ (Value.ref _) (Value.int _ _)) _ _ _); (rename MkT _ => hMz9); refine' item_T3 ?k1 ?k2 ?k3 ?k4 ?k6 ?k5 ?_ ?k7; (case k1 => k_asm); (case k2 => k_mem); (case k3 => decide); (case k4 => decide); (case k6 => with_unfolding_all rfl); (case k5 => with_unfolding_all rfl); (case k7 => with_unfolding_all rfl)) | ((with_reducible show wpAny _ _ (exec (Stmt.For _ (Expr.Subscript _ _ _) _ _ _) _) _ _ _); (rename Fr _ _ _ _ => lFz9); (with_unfolding_all refine' For_turns lFz9 ?_); k_whole)); w_strict k_steps))
      unfold Halt
      rename Fr _ _ _ _ => lF
      rename News _ _ _ _ => lN
      exact close T _ _ _ _ _ _ _ ⟨_, _, _, _, _⟩ (fun p hp => l1' p (.tail _ hp)) lF lN (by lcg_sub)
    · clear F9 lN hBl mlc mr0 mr1 mr2 hmem
      intro vm vk q0 q1 q2 o0 o1 o2 e9 h9 tk9 z0 z1 z2 F9 N9
      obtain ⟨ta0, tu0, tc0, rfl⟩ := z0.get
      obtain ⟨ta1, tu1, tc1, rfl⟩ := z1.get
      obtain ⟨ta2, tu2, tc2, rfl⟩ := z2.get
      clear z0 z1 z2
      w_strict k_steps
      repeat (any_goals (unfold Halt; (first | ((with_reducible show wpAny _ _ (call (Value.ref 406) _ _) _ _ _); refine' height_ok (by ktr_unf) ?_; intro tz9 hz9 tkz9 Fz9 kz9; (have Nz9 := Keep.all kz9 (by assumption)); k_sweep; (try dsimp only)) | ((with_reducible show wpAny _ _ (call (Value.builtin "len") [Value.ref _]) _ _ _); refine lenL (by k_asm) (by k_mem) (by assumption) ?_; intro tz9 tkz9) | ((with_reducible show wpAny _ _ (subscriptTail (Expr.Name _ _) (Expr.Name _ _) (Value.ref _) (Value.int _ _)) _ _ _); refine' itemL ?k1 ?k2 ?k3 ?k4 ?k5 ?_ ?k7 ?k8; (case k1 => k_asm); (case k2 => k_mem); (case k3 => omega); (case k4 => omega); (case k5 => assumption); (case k7 => with_unfolding_all rfl); (case k8 => (intro _; with_unfolding_all rfl))) | ((with_reducible show wpAny _ _ (subscriptTail _ _ (Value.ref _) (Value.int _ _)) _ _ _); (rename MkT _ => hMz9); refine' item_T3 ?k1 ?k2 ?k3 ?k4 ?k6 ?k5 ?_ ?k7; (case k1 => k_asm); (case k2 => k_mem); (case k3 => decide); (case k4 => decide); (case k6 => with_unfolding_all rfl); (case k5 => with_unfolding_all rfl); (case k7 => with_unfolding_all rfl)) | ((with_reducible show wpAny _ _ (exec (Stmt.For _ (Expr.Subscript _ _ _) _ _ _) _) _ _ _); (rename Fr _ _ _ _ => lFz9); (with_unfolding_all refine' For_turns lFz9 ?_); k_whole)); w_strict k_steps))
      unfold Halt
      rename Fr _ _ _ _ => lF
      rename News _ _ _ _ => lN
      refine min_T3J (by rfl) (by ktr_units) lF lN (by k_mem) (by k_mem) (by k_mem) (by k_mem) ?_
      clear lF
      intro T x ta y tb z tc h' tk' hb hT F' N'
      have N9 := News.sub (led := (T, tup3 x ta y tb z tc) :: (ls, listOf vs.toArray e) :: (lm, listOf #[.int σ.k0 t0, .int σ.k1 t1, .int σ.k2 t2] e') :: R) N' (sub_cons hT (by lcg_sub))
      have hsn := sl_next (cs := [c0, c1, c2, c3, c4, c5, c6, c7, c8]) (tell := (fun k => tellK kd.toNat k x0 x1 x2)) (ch := (ch9 a00 a01 a02 a10 a11 a12 a20 a21 a22)) hw' (key_is hp hb0) (key_is hp hb1) (key_is hp hb2) hb
      clear N' lN hT hb
      have hTm : T ≠ lm := news_ne N9 (.head _) (.tail _ (.tail _ (.head _))) (show Value.type "tuple" ≠ Value.type "list" from by intro q; injection q with q; exact absurd q (by decide))
      have hTs : T ≠ ls := news_ne N9 (.head _) (.tail _ (.head _)) (show Value.type "tuple" ≠ Value.type "list" from by intro q; injection q with q; exact absurd q (by decide))
      have hMT : MkT T := trivial
      have hMS : MkS 0 := ⟨rfl⟩
      k_sweep
      w_strict k_steps
      repeat (any_goals (unfold Halt; (first | ((with_reducible show wpAny _ _ (call (Value.ref 406) _ _) _ _ _); refine' height_ok (by ktr_unf) ?_; intro tz9 hz9 tkz9 Fz9 kz9; (have Nz9 := Keep.all kz9 (by assumption)); k_sweep; (try dsimp only)) | ((with_reducible show wpAny _ _ (call (Value.builtin "len") [Value.ref _]) _ _ _); refine lenL (by k_asm) (by k_mem) (by assumption) ?_; intro tz9 tkz9) | ((with_reducible show wpAny _ _ (subscriptTail (Expr.Name _ _) (Expr.Name _ _) (Value.ref _) (Value.int _ _)) _ _ _); refine' itemL ?k1 ?k2 ?k3 ?k4 ?k5 ?_ ?k7 ?k8; (case k1 => k_asm); (case k2 => k_mem); (case k3 => omega); (case k4 => omega); (case k5 => assumption); (case k7 => with_unfolding_all rfl); (case k8 => (intro _; with_unfolding_all rfl))) | ((with_reducible show wpAny _ _ (subscriptTail _ _ (Value.ref _) (Value.int _ _)) _ _ _); (rename MkT _ => hMz9); refine' item_T3 ?k1 ?k2 ?k3 ?k4 ?k6 ?k5 ?_ ?k7; (case k1 => k_asm); (case k2 => k_mem); (case k3 => decide); (case k4 => decide); (case k6 => with_unfolding_all rfl); (case k5 => with_unfolding_all rfl); (case k7 => with_unfolding_all rfl)) | ((with_reducible show wpAny _ _ (exec (Stmt.For _ (Expr.Subscript _ _ _) _ _ _) _) _ _ _); (rename Fr _ _ _ _ => lFz9); (with_unfolding_all refine' For_turns lFz9 ?_); k_whole)); w_strict k_steps))
      unfold Halt
      rename MkS _ => z9
      clear z9
      rename Fr _ _ _ _ => lF
      rename News _ _ _ _ => lN
      refine int_cut (Str.ofString "kept") ((slPut σ p z y).kept : Int) lF lN ?_ ?_
      · obtain ⟨tX, hxm⟩ : ∃ tX, (#[Value.int σ.k0 t0, .int σ.k1 t1, .int σ.k2 t2] : Array Value).toList[((p : Nat) : Int).toNat]? = some (.int ([σ.k0, σ.k1, σ.k2].getD ((p : Nat) : Int).toNat 0) tX) := by
          rcases (by omega : p = 0 ∨ p = 1 ∨ p = 2) with rfl | rfl | rfl <;> exact ⟨_, rfl⟩
        w_strict k_steps
        repeat (any_goals (unfold Halt; (first | ((with_reducible show wpAny _ _ (call (Value.ref 406) _ _) _ _ _); refine' height_ok (by ktr_unf) ?_; intro tz9 hz9 tkz9 Fz9 kz9; (have Nz9 := Keep.all kz9 (by assumption)); k_sweep; (try dsimp only)) | ((with_reducible show wpAny _ _ (call (Value.builtin "len") [Value.ref _]) _ _ _); refine lenL (by k_asm) (by k_mem) (by assumption) ?_; intro tz9 tkz9) | ((with_reducible show wpAny _ _ (subscriptTail (Expr.Name _ _) (Expr.Name _ _) (Value.ref _) (Value.int _ _)) _ _ _); refine' itemL ?k1 ?k2 ?k3 ?k4 ?k5 ?_ ?k7 ?k8; (case k1 => k_asm); (case k2 => k_mem); (case k3 => omega); (case k4 => omega); (case k5 => assumption); (case k7 => with_unfolding_all rfl); (case k8 => (intro _; with_unfolding_all rfl))) | ((with_reducible show wpAny _ _ (subscriptTail _ _ (Value.ref _) (Value.int _ _)) _ _ _); (rename MkT _ => hMz9); refine' item_T3 ?k1 ?k2 ?k3 ?k4 ?k6 ?k5 ?_ ?k7; (case k1 => k_asm); (case k2 => k_mem); (case k3 => decide); (case k4 => decide); (case k6 => with_unfolding_all rfl); (case k5 => with_unfolding_all rfl); (case k7 => with_unfolding_all rfl)) | ((with_reducible show wpAny _ _ (exec (Stmt.For _ (Expr.Subscript _ _ _) _ _ _) _) _ _ _); (rename Fr _ _ _ _ => lFz9); (with_unfolding_all refine' For_turns lFz9 ?_); k_whole)); w_strict k_steps))
        · refine IntEnd.intro (by assumption) (by assumption) sub_self ?_
          exact (congrArg (fun q : SlSt => (q.kept : Int)) (put_k' (σ := σ) (x := z) (y := y) hp (by assumption))).symm
        w_strict k_steps
        repeat (any_goals (unfold Halt; (first | ((with_reducible show wpAny _ _ (call (Value.ref 406) _ _) _ _ _); refine' height_ok (by ktr_unf) ?_; intro tz9 hz9 tkz9 Fz9 kz9; (have Nz9 := Keep.all kz9 (by assumption)); k_sweep; (try dsimp only)) | ((with_reducible show wpAny _ _ (call (Value.builtin "len") [Value.ref _]) _ _ _); refine lenL (by k_asm) (by k_mem) (by assumption) ?_; intro tz9 tkz9) | ((with_reducible show wpAny _ _ (subscriptTail (Expr.Name _ _) (Expr.Name _ _) (Value.ref _) (Value.int _ _)) _ _ _); refine' itemL ?k1 ?k2 ?k3 ?k4 ?k5 ?_ ?k7 ?k8; (case k1 => k_asm); (case k2 => k_mem); (case k3 => omega); (case k4 => omega); (case k5 => assumption); (case k7 => with_unfolding_all rfl); (case k8 => (intro _; with_unfolding_all rfl))) | ((with_reducible show wpAny _ _ (subscriptTail _ _ (Value.ref _) (Value.int _ _)) _ _ _); (rename MkT _ => hMz9); refine' item_T3 ?k1 ?k2 ?k3 ?k4 ?k6 ?k5 ?_ ?k7; (case k1 => k_asm); (case k2 => k_mem); (case k3 => decide); (case k4 => decide); (case k6 => with_unfolding_all rfl); (case k5 => with_unfolding_all rfl); (case k7 => with_unfolding_all rfl)) | ((with_reducible show wpAny _ _ (exec (Stmt.For _ (Expr.Subscript _ _ _) _ _ _) _) _ _ _); (rename Fr _ _ _ _ => lFz9); (with_unfolding_all refine' For_turns lFz9 ?_); k_whole)); w_strict k_steps))
        · refine IntEnd.intro (by assumption) (by assumption) sub_self ?_
          exact (congrArg (fun q : SlSt => (q.kept : Int)) (put_n' (σ := σ) (x := z) (y := y) hp (by assumption))).symm
      · clear lF lN
        intro h8 tk8 t8 F8 N8
        k_sweep
        w_strict k_steps
        repeat (any_goals (unfold Halt; (first | ((with_reducible show wpAny _ _ (call (Value.ref 406) _ _) _ _ _); refine' height_ok (by ktr_unf) ?_; intro tz9 hz9 tkz9 Fz9 kz9; (have Nz9 := Keep.all kz9 (by assumption)); k_sweep; (try dsimp only)) | ((with_reducible show wpAny _ _ (call (Value.builtin "len") [Value.ref _]) _ _ _); refine lenL (by k_asm) (by k_mem) (by assumption) ?_; intro tz9 tkz9) | ((with_reducible show wpAny _ _ (subscriptTail (Expr.Name _ _) (Expr.Name _ _) (Value.ref _) (Value.int _ _)) _ _ _); refine' itemL ?k1 ?k2 ?k3 ?k4 ?k5 ?_ ?k7 ?k8; (case k1 => k_asm); (case k2 => k_mem); (case k3 => omega); (case k4 => omega); (case k5 => assumption); (case k7 => with_unfolding_all rfl); (case k8 => (intro _; with_unfolding_all rfl))) | ((with_reducible show wpAny _ _ (subscriptTail _ _ (Value.ref _) (Value.int _ _)) _ _ _); (rename MkT _ => hMz9); refine' item_T3 ?k1 ?k2 ?k3 ?k4 ?k6 ?k5 ?_ ?k7; (case k1 => k_asm); (case k2 => k_mem); (case k3 => decide); (case k4 => decide); (case k6 => with_unfolding_all rfl); (case k5 => with_unfolding_all rfl); (case k7 => with_unfolding_all rfl)) | ((with_reducible show wpAny _ _ (exec (Stmt.For _ (Expr.Subscript _ _ _) _ _ _) _) _ _ _); (rename Fr _ _ _ _ => lFz9); (with_unfolding_all refine' For_turns lFz9 ?_); k_whole)); w_strict k_steps))
        refine' kif_setItem (l := [(σ.k0, t0), (σ.k1, t1), (σ.k2, t2)]) (ws := [Value.int (if (p : Int) = 0 then z else σ.k0) (if (p : Int) = 0 then tc else t0), Value.int (if (p : Int) = 1 then z else σ.k1) (if (p : Int) = 1 then tc else t1), Value.int (if (p : Int) = 2 then z else σ.k2) (if (p : Int) = 2 then tc else t2)]) (N := (3 : Int)) ?k1 ?k2 ?k3 ?k4 ?k5 ?k6 ?k7 ?k8 ?k9 ?_
        case k1 => k_asm
        case k2 => k_asm
        case k3 => k_upd
        case k4 => exact rfl
        case k5 => exact rfl
        case k6 => exact rfl
        case k7 => decide
        case k8 => omega
        case k9 => omega
        rename Fr _ _ _ _ => z9
        clear z9
        rename News _ _ _ _ => z9
        clear z9
        intro h7 F7 N7
        k_sweep
        w_strict k_steps
        repeat (any_goals (unfold Halt; (first | ((with_reducible show wpAny _ _ (call (Value.ref 406) _ _) _ _ _); refine' height_ok (by ktr_unf) ?_; intro tz9 hz9 tkz9 Fz9 kz9; (have Nz9 := Keep.all kz9 (by assumption)); k_sweep; (try dsimp only)) | ((with_reducible show wpAny _ _ (call (Value.builtin "len") [Value.ref _]) _ _ _); refine lenL (by k_asm) (by k_mem) (by assumption) ?_; intro tz9 tkz9) | ((with_reducible show wpAny _ _ (subscriptTail (Expr.Name _ _) (Expr.Name _ _) (Value.ref _) (Value.int _ _)) _ _ _); refine' itemL ?k1 ?k2 ?k3 ?k4 ?k5 ?_ ?k7 ?k8; (case k1 => k_asm); (case k2 => k_mem); (case k3 => omega); (case k4 => omega); (case k5 => assumption); (case k7 => with_unfolding_all rfl); (case k8 => (intro _; with_unfolding_all rfl))) | ((with_reducible show wpAny _ _ (subscriptTail _ _ (Value.ref _) (Value.int _ _)) _ _ _); (rename MkT _ => hMz9); refine' item_T3 ?k1 ?k2 ?k3 ?k4 ?k6 ?k5 ?_ ?k7; (case k1 => k_asm); (case k2 => k_mem); (case k3 => decide); (case k4 => decide); (case k6 => with_unfolding_all rfl); (case k5 => with_unfolding_all rfl); (case k7 => with_unfolding_all rfl)) | ((with_reducible show wpAny _ _ (exec (Stmt.For _ (Expr.Subscript _ _ _) _ _ _) _) _ _ _); (rename Fr _ _ _ _ => lFz9); (with_unfolding_all refine' For_turns lFz9 ?_); k_whole)); w_strict k_steps))
        rename Fr _ _ _ _ => lF
        rename News _ _ _ _ => lN
        refine sl_close hn hσ hlt hk3 hnx hvs hRm hRs hms (hfs.trans (hsn.trans (put_i hp))) lF lN (by with_unfolding_all lcg_sub) ?_
        exact ⟨by with_unfolding_all exact g1, by with_unfolding_all exact g2, by with_unfolding_all exact g3, by with_unfolding_all exact g4, ⟨tt, by with_unfolding_all exact g5⟩, by with_unfolding_all exact g6, by with_unfolding_all exact g7, ⟨_, by with_unfolding_all rfl⟩⟩
end
end
section
open PySem PySem.W PyProof.Rows
set_option maxRecDepth 100000
set_option maxHeartbeats 8000000
theorem intsInv {cvs : List Value} {x : Int} {xs : List Int} (h : IntsAre cvs (x :: xs)) : ∃ t vs, cvs = .int x t :: vs ∧ IntsAre vs xs := by
  cases h with
  | cons _ t h => exact ⟨t, _, rfl, h⟩
theorem intsNil {cvs : List Value} (h : IntsAre cvs []) : cvs = [] := by cases h; rfl
theorem list4 {α : Type} {n : Nat} {l : List α} (h : l.length = n + 4) : ∃ a b c d r, l = a :: b :: c :: d :: r ∧ r.length = n := by
  match l, h with
  | a :: b :: c :: d :: r, h => exact ⟨a, b, c, d, r, rfl, by simpa using h⟩
theorem ints4 {vs : List Value} {c0 c1 c2 c3 : Int} {cs : List Int} (h : IntsAre vs (c0 :: c1 :: c2 :: c3 :: cs)) : ∃ s0 s1 s2 s3 r, vs = .int c0 s0 :: .int c1 s1 :: .int c2 s2 :: .int c3 s3 :: r ∧ IntsAre r cs := by
  obtain ⟨s0, _, rfl, h0⟩ := intsInv h
  obtain ⟨s1, _, rfl, h1⟩ := intsInv h0
  obtain ⟨s2, _, rfl, h2⟩ := intsInv h1
  obtain ⟨s3, _, rfl, h3⟩ := intsInv h2
  exact ⟨s0, s1, s2, s3, _, rfl, h3⟩
inductive Twelve : List Value → List Int → Prop
  | mk (c0 c1 c2 c3 c4 c5 c6 c7 c8 c9 c10 c11 : Int) (s0 s1 s2 s3 s4 s5 s6 s7 s8 s9 s10 s11 : Tok) : Twelve [.int c0 s0, .int c1 s1, .int c2 s2, .int c3 s3, .int c4 s4, .int c5 s5, .int c6 s6, .int c7 s7, .int c8 s8, .int c9 s9, .int c10 s10, .int c11 s11] [c0, c1, c2, c3, c4, c5, c6, c7, c8, c9, c10, c11]
theorem twelve {cvs : List Value} {cs : List Int} (h : IntsAre cvs cs) (hl : cs.length = 12) : Twelve cvs cs := by
  obtain ⟨c0, c1, c2, c3, r, rfl, hl1⟩ := list4 (n := 8) hl
  obtain ⟨c4, c5, c6, c7, r, rfl, hl2⟩ := list4 (n := 4) hl1
  obtain ⟨c8, c9, c10, c11, r, rfl, hl3⟩ := list4 (n := 0) hl2
  obtain rfl := List.eq_nil_of_length_eq_zero hl3
  obtain ⟨_, _, _, _, _, rfl, h1⟩ := ints4 h
  obtain ⟨_, _, _, _, _, rfl, h2⟩ := ints4 h1
  obtain ⟨_, _, _, _, _, rfl, h3⟩ := ints4 h2
  have e := intsNil h3
  subst e
  exact .mk _ _ _ _ _ _ _ _ _ _ _ _ _ _ _ _ _ _ _ _ _ _ _ _
section
open PySem.Calls PyProof.Rows.LCg
variable {prog : Program} {w : World} {A : Around} {env : Env} {E : Value → Shared → Prop} {s : Shared} {h₀ : Heap} {L : Addr} {m : Str → Option Value}
noncomputable def EnT (b : Bool) (s₁ : Shared) (h : Heap) (okb : Bool) (s₃ : Shared) : Prop := okb = b ∧ ∃ tk', s₃ = { s₁ with heap := h, toks := tk' }
theorem EnT.intro {b k : Bool} {s₁ : Shared} {h : Heap} {tk : Nat} (e : k = b) : EnT b s₁ h k { s₁ with heap := h, toks := tk } := ⟨e, tk, rfl⟩
noncomputable def EnRest (prog : Program) (w : World) (A : Around) (h₀ : Heap) (L : Addr) (m : Str → Option Value) (env : Env) (c : Expr) (a b : Str) (scope : Scope) (cl : List (Str × Addr)) (x : Str) (tst : Nat → Bool) (s₁ : Shared) (led : Led) : Prop :=
  ∀ (i cp : Nat), x.cps[i]? = some cp → ∀ (t u : Tok) C oC m₂ h tk (E' : Value → Shared → Prop), NsObj oC m₂ → m₂ a = some (.int (i : Int) t) → m₂ b = some (.str ⟨#[cp]⟩ u) → Fr h₀ L h m → News h₀ L h ((C, oC) :: led) →
    wpAny (model prog w) A (isTrue c (compEnvC scope cl C env) (eval c (compEnvC scope cl C env))) (EnT (tst i) s₁ h) E' { s₁ with heap := h, toks := tk }
noncomputable def picked (x : Str) (tst : Nat → Bool) : Nat → List Str
  | 0 => []
  | i + 1 => picked x tst i ++ (if tst i then [⟨#[x.cps.getD i 0]⟩] else [])
inductive EnI (h₀ : Heap) (L : Addr) (m : Str → Option Value) (x : Str) (t₀ : Tok) (tst : Nat → Bool) (I it D C : Addr) (led : Led) (s₂ : Shared) (k : Nat) : Shared → Prop
  | mk (h' : Heap) (tk i : Nat) (ys : List Value) (m' : Str → Option Value) (hile : i ≤ x.cps.size) (hk : k = x.cps.size + 1 - i) (hyl : ys.length ≤ i) (hys : StrsAre ys (picked x tst i)) (hst : (∃ old, IsEnum h' I it i old) ∧ h'.IsStrIter it "str_ascii_iterator" x t₀ i) (F : Fr h₀ L h' m) (hn : h'.Ns C m') (N : News h₀ L h' ((D, lst ys) :: led)) : EnI h₀ L m x t₀ tst I it D C led s₂ k { s₂ with heap := h', toks := tk }
theorem signs_block {iter c : Expr} {a b : Str} {pa pb pe tp : Pos} {kk : Nat} {scope : Scope} {cl : List (Str × Addr)} {pos : Pos} {s₂ : Shared} {I it : Addr} {x : Str} {t₀ : Tok} {old : Value} {led : Led} {tst : Nat → Bool} {RR : Value → Addr → Result → Shared → Prop}
    (hh : A.handled = none) (hIit : I ≠ it) (he : IsEnum s₂.heap I it 0 old) (hi : s₂.heap.IsStrIter it "str_ascii_iterator" x t₀ 0)
    (hcell : ∀ y ∈ scope.names, y.2 ≠ .cell) (hkind : scope.kind = .function) (hxa : scope.names.lookup a = some .local) (hxb : scope.names.lookup b = some .local) (hab : ¬ a = b) (hdb : (b == ("__debug__" : Str)) = false) (hsz : x.cps.size ≤ sizeLine)
    (F : Fr h₀ L s₂.heap m) (N : News h₀ L s₂.heap led) (hIL : L ≠ I) (hitL : L ≠ it) (hI₀ : h₀.get? I = none) (hit₀ : h₀.get? it = none) (off : ∀ p ∈ led, p.1 ≠ I ∧ p.1 ≠ it)
    (R : EnRest prog w A h₀ L m env c a b scope cl x tst s₂ led)
    (hRR : ∀ D C h tk m' ys, Fr h₀ L h m → News h₀ L h ((D, lst ys) :: led) → StrsAre ys (picked x tst x.cps.size) → (∀ p ∈ led, p.1 ≠ D ∧ p.1 ≠ C) → h.Ns C m' → h₀.get? C = none → C ≠ L → C ≠ D → RR (.ref D) C (.ok .next) { s₂ with heap := h, toks := tk }) :
    wpAny (model prog w) A (newList []) (fun acc s₃ => wpAny (model prog w) A (newFunctionEnv scope env.globals cl [] env.qual none .none (some env)) (fun cenv s₄ =>
      codeAny (model prog w) A (.compStart (.ListComp (.Name b pe) [⟨.Tuple [.Name a pa, .Name b pb] kk tp, iter, [c], 0⟩] scope pos) 0 (.ref I) acc { cenv with scope := relabel scope env }) (RR acc cenv.locals) s₄) E s₃) E s₂ := by
  refine wpAny_newObj_type (wpAny_newFunctionEnv hcell (by intro y hy; simp at hy) (fun h₁ hns₁ hsb₁ => ?_) hkind)
  dsimp only at hns₁ hsb₁ ⊢
  generalize hH2 : s₂.heap.push { cls := .type "list", dict := none, data := .seq ([] : List Value).toArray } = H2 at hns₁ hsb₁ ⊢
  have hC : H2.objs.size = s₂.heap.objs.size + 1 := by rw [← hH2, Heap.size_push]
  have hDC : s₂.heap.objs.size ≠ H2.objs.size := by rw [hC]; exact Nat.ne_of_lt (Nat.lt_succ_self _)
  have below : ∀ b, b < s₂.heap.objs.size → b ≠ H2.objs.size ∧ b ≠ s₂.heap.objs.size := fun b hb => ⟨by rw [hC]; exact Nat.ne_of_lt (Nat.lt_succ_of_lt hb), Nat.ne_of_lt hb⟩
  have hIlt : I < s₂.heap.objs.size := Heap.lt_size he
  have hitlt : it < s₂.heap.objs.size := by obtain ⟨_, e, _⟩ := hi; exact Heap.lt_size e
  have old' : ∀ b o, s₂.heap.get? b = some o → h₁.get? b = some o := fun b o e => hsb₁.extBut b o (below b (Heap.lt_size e)).1 (Heap.get?_push_of_some _ (hH2 ▸ Heap.get?_push_of_some _ e))
  have hacc : h₁.get? s₂.heap.objs.size = some (lst []) := hsb₁.extBut _ _ hDC (Heap.get?_push_of_some _ (hH2 ▸ Heap.get?_push_size _ rfl))
  have he₁ : IsEnum h₁ I it 0 old := old' _ _ he
  have hi₁ : h₁.IsStrIter it "str_ascii_iterator" x t₀ 0 := by obtain ⟨o, e, r⟩ := hi; exact ⟨o, old' _ _ e, r⟩
  have fresh₀ : ∀ a, s₂.heap.objs.size ≤ a → h₀.get? a = none := fun a ha => by
    cases e : h₀.get? a with
    | none => rfl
    | some o' => exact absurd (Heap.lt_size (F.keep a o' e)) (Nat.not_lt.mpr ha)
  have hD₀ : h₀.get? s₂.heap.objs.size = none := fresh₀ _ (Nat.le_refl _)
  have hC₀ : h₀.get? H2.objs.size = none := fresh₀ _ (by rw [hC]; exact Nat.le_succ _)
  have hLlt : L < s₂.heap.objs.size := F.ns.lt
  have hDL : s₂.heap.objs.size ≠ L := Ne.symm (below L hLlt).2
  have hCL : H2.objs.size ≠ L := Ne.symm (below L hLlt).1
  have hCI : I ≠ H2.objs.size := (below I hIlt).1
  have hDI : I ≠ s₂.heap.objs.size := (below I hIlt).2
  have hCit : it ≠ H2.objs.size := (below it hitlt).1
  have hDit : it ≠ s₂.heap.objs.size := (below it hitlt).2
  have offC : ∀ p ∈ led, p.1 ≠ s₂.heap.objs.size ∧ p.1 ≠ H2.objs.size := fun p hp => ⟨(below _ (Heap.lt_size (N p hp).1)).2, (below _ (Heap.lt_size (N p hp).1)).1⟩
  have W := (WalksT.enumerateD (Draws.strAscii (prog := prog) (w := w) (A := A.in1) hh it x t₀) I hIit (by simpa using hIit) (by simp)).toU
  have loop : ∀ s₃ : Shared, s₃ = { s₂ with heap := h₁, toks := s₂.toks + ([] : List (Str × Value)).length } →
      codeAny (model prog w) A (.compLoop (.ListComp (.Name b pe) [⟨.Tuple [.Name a pa, .Name b pb] kk tp, iter, [c], 0⟩] scope pos) 0 (.ref I) (.ref s₂.heap.objs.size) (compEnvC scope cl H2.objs.size env))
        (RR (.ref s₂.heap.objs.size) H2.objs.size) s₃ := by
    rintro s₃ rfl
    refine kct_loop
      (EnI h₀ L m x t₀ tst I it s₂.heap.objs.size H2.objs.size led s₂) ?_ (x.cps.size + 1)
      ⟨h₁, _, 0, [], _, Nat.zero_le _, rfl, Nat.le_refl _, .nil, ⟨⟨_, he₁⟩, hi₁⟩, F.keeps old', hns₁, fun p hp => ?_⟩
    · rintro k s' ⟨h', tk, i, ys, m', hile, rfl, hyl, hys, hst', F', hn', N'⟩
      by_cases hlt : i < x.cps.size
      · refine W.item i _ _ _ hlt hst' fun T vals h₂ tk₂ hP hT₂ hMd hk₂ => ?_
        have hT₂' := W.apart i T _ hMd
        refine W.go _ _ _ i T _ _ _ hMd fun h₃ hst₃ hk₃ => ?_
        obtain ⟨tI, xv, ⟨cp, u, hcp, rfl⟩, rfl⟩ := hP
        have up₃ : ∀ c o, c ≠ I → c ≠ it → h'.get? c = some o → h₃.get? c = some o := fun c o h1 h2 e => hk₃ c o (by simp [h1, h2]) (hk₂ c o (by simp [h1, h2]) e)
        refine kcp_assign (env := compEnvC scope cl H2.objs.size env) hh (hT₂.at fun o e => hk₃ T o hT₂' e) (lookup_relabel_local hxa) (lookup_relabel_local hxb) (by simp [compEnvC, relabel, hkind]) (hn'.at' fun o e => up₃ _ o (Ne.symm hCI) (Ne.symm hCit) e) fun h₄ tk₄ hn₄ hs₄ => ?_
        have up : ∀ c o, c ≠ I → c ≠ it → c ≠ H2.objs.size → h'.get? c = some o → h₄.get? c = some o := fun c o h1 h2 h3 e => hs₄ c o h3 (up₃ c o h1 h2 e)
        have hst₄ : (∃ old, IsEnum h₄ I it (i + 1 : Nat) old) ∧ h₄.IsStrIter it "str_ascii_iterator" x t₀ (i + 1) := W.frame _ _ _ hst₃ fun b hb o e => hs₄ b o (fun q => by
          have : b = I ∨ b = it := by simpa using hb
          rcases this with rfl | rfl
          · exact hCI q
          · exact hCit q) e
        obtain ⟨oC, heC, hoC⟩ := ns_obj hn₄
        have F₄ : Fr h₀ L h₄ m := ⟨F'.ns.at' fun o e => up _ o hIL hitL (Ne.symm hCL) e, fun c o e => up c o (fun q => by rw [q, hI₀] at e; cases e) (fun q => by rw [q, hit₀] at e; cases e) (fun q => by rw [q, hC₀] at e; cases e) (F'.keep c o e), F'.above⟩
        have N₄ : News h₀ L h₄ ((H2.objs.size, oC) :: led) := fun q hq => by
          rcases List.mem_cons.mp hq with rfl | hq
          · exact ⟨heC, hCL, hC₀⟩
          · have z := N' q (.tail _ hq)
            exact ⟨up _ _ (off q hq).1 (off q hq).2 (offC q hq).2 z.1, z.2⟩
        have gD₄ : h₄.get? s₂.heap.objs.size = some (lst ys) := up _ _ (Ne.symm hDI) (Ne.symm hDit) hDC (N' _ (.head _)).1
        have gx : x.cps.getD i 0 = cp := by rw [Array.getD_eq_getD_getElem?, hcp]; rfl
        refine wpAny_mono (R i cp hcp tI u H2.objs.size oC _ h₄ _ _ hoC (by simp [hab]) (by simp) F₄ N₄) (fun okb s₅ h₅ => ?_) fun _ _ e => e
        obtain ⟨rfl, tk₅, rfl⟩ := h₅
        cases htst : tst i with
        | false =>
          simp only [Bool.false_eq_true, if_false]
          refine ⟨x.cps.size + 1 - (i + 1), by omega, .mk h₄ tk₅ (i + 1) ys _ hlt rfl (Nat.le_succ_of_le hyl) ?_ hst₄ F₄ (hoC.ns heC) fun q hq => ?_⟩
          · show StrsAre ys (picked x tst i ++ _)
            rw [htst, if_neg (by decide), List.append_nil]; exact hys
          · rcases List.mem_cons.mp hq with rfl | hq
            · exact ⟨gD₄, hDL, hD₀⟩
            · exact N₄ q (.tail _ hq)
        | true =>
          simp only [if_true]
          refine ldVarK (hoC.ns heC) (v := .str ⟨#[cp]⟩ u) (by simp) ?_ (by simp [compEnvC, relabel, hkind]) (lookup_relabel_local hxb) hdb
          refine append_at (hsz := by show ys.toArray.size ≤ sizeLine; rw [List.size_toArray]; exact Nat.le_trans hyl (Nat.le_trans hile hsz)) gD₄ fun h₆ hs₆ hD₆ => ?_
          refine ⟨x.cps.size + 1 - (i + 1), by omega, .mk h₆ _ (i + 1) (ys ++ [.str ⟨#[cp]⟩ u]) _ hlt rfl (by rw [List.length_append, List.length_singleton]; exact Nat.succ_le_succ hyl) ?_ (W.frame _ _ _ hst₄ fun b hb o e => hs₆.extBut b o (fun q => by
              have : b = I ∨ b = it := by simpa using hb
              rcases this with rfl | rfl
              · exact hDI q
              · exact hDit q) e) (F₄.change hs₆ hDL hD₀) ((hoC.ns heC).sameBut hs₆ (Ne.symm hDC)) fun q hq => ?_⟩
          · show StrsAre _ (picked x tst i ++ _)
            rw [htst, if_pos rfl, gx]; exact strsAre_snoc _ _ hys
          · rcases List.mem_cons.mp hq with rfl | hq
            · exact ⟨hD₆.trans (congrArg some (lst_snoc ys _)), hDL, hD₀⟩
            · exact ⟨hs₆.extBut _ _ (offC q hq).1 (N₄ q (.tail _ hq)).1, (N₄ q (.tail _ hq)).2⟩
      · have hin : i = x.cps.size := Nat.le_antisymm hile (Nat.not_lt.mp hlt)
        subst hin
        refine W.done _ _ _ hst' fun h₂ tk₂ hk₂ => ?_
        have k2 : ∀ c o, c ≠ I → c ≠ it → h'.get? c = some o → h₂.get? c = some o := fun c o h1 h2 e => hk₂ c o (by simp [h1, h2]) e
        refine hRR _ _ h₂ tk₂ _ ys ⟨F'.ns.at' fun o e => k2 _ o hIL hitL e, fun c o e => k2 c o (fun q => by rw [q, hI₀] at e; cases e) (fun q => by rw [q, hit₀] at e; cases e) (F'.keep c o e), F'.above⟩ (fun p hp => ?_) hys offC (hn'.at' fun o e => k2 _ o (Ne.symm hCI) (Ne.symm hCit) e) hC₀ hCL (Ne.symm hDC)
        have z := N' p hp
        rcases List.mem_cons.mp hp with rfl | hp
        · exact ⟨k2 _ _ (Ne.symm hDI) (Ne.symm hDit) z.1, z.2⟩
        · exact ⟨k2 _ _ (off p hp).1 (off p hp).2 z.1, z.2⟩
    · rcases List.mem_cons.mp hp with rfl | hp
      · exact ⟨hacc, hDL, hD₀⟩
      · exact ⟨old' _ _ (N p hp).1, (N p hp).2⟩
  exact codeAny_compStart_list (loop _ rfl) (wpAny_pyIter_enum he₁ (loop _ rfl))
end
section
open PySem.Calls PyProof.Rows.LCg
variable {prog : Program} {w : World} {A : Around} {env : Env} {E : Value → Shared → Prop} {s : Shared} {h₀ : Heap} {L : Addr} {m : Str → Option Value}
noncomputable def EnFin (h₀ : Heap) (L : Addr) (m : Str → Option Value) (cS : Addr) (rest : Led) (xs : List Str) (s₁ : Shared) (Q : Flow → Shared → Prop) : Prop :=
  ∀ D h tk ys oS', oS'.data = Data.cell (some (.ref D)) → StrsAre ys xs → Fr h₀ L h m → News h₀ L h ((D, lst ys) :: (cS, oS') :: rest) → D ≠ cS → (∀ p ∈ rest, p.1 ≠ D) → Q .next { s₁ with heap := h, toks := tk }
structure EnSrc (prog : Program) (w : World) (A : Around) (h₀ : Heap) (L : Addr) (m : Str → Option Value) (env : Env) (c : Expr) (a b : Str) (scope : Scope) (cl : List (Str × Addr)) (tst : Nat → Bool) (cS : Addr) (Q : Flow → Shared → Prop) (xv : Value) (s₁ : Shared) : Prop where
  ok : ∃ (I it : Addr) (x : Str) (t₀ : Tok) (old : Value) (oS : Obj) (x₀ : Option Value) (rest : Led), xv = .ref I ∧ A.handled = none ∧ I ≠ it ∧ IsEnum s₁.heap I it 0 old ∧ s₁.heap.IsStrIter it "str_ascii_iterator" x t₀ 0 ∧ x.cps.size ≤ sizeLine ∧
    Fr h₀ L s₁.heap m ∧ News h₀ L s₁.heap ((cS, oS) :: rest) ∧ oS.data = .cell x₀ ∧ L ≠ I ∧ L ≠ it ∧ h₀.get? I = none ∧ h₀.get? it = none ∧ (∀ p ∈ (cS, oS) :: rest, p.1 ≠ I ∧ p.1 ≠ it) ∧ (∀ p ∈ rest, p.1 ≠ cS) ∧
    EnRest prog w A h₀ L m env c a b scope cl x tst s₁ ((cS, oS) :: rest) ∧ EnFin h₀ L m cS rest (picked x tst x.cps.size) s₁ Q
theorem Assign_signs {iter c : Expr} {a b y : Str} {pa pb pe py tp : Pos} {kk : Nat} {scope : Scope} {cl : List (Str × Addr)} {pos spos : Pos} {tst : Nat → Bool} {cS : Addr} {Q : Flow → Shared → Prop} (_F₀ : Fr h₀ L s.heap m)
    (hsw : swapsWith (.ListComp (.Name b pe) [⟨.Tuple [.Name a pa, .Name b pb] kk tp, iter, [c], 0⟩] scope pos) (some (.Name y py)) spos.line env = pure false)
    (hclos : closureFor scope env = pure cl) (hcell : ∀ y ∈ scope.names, y.2 ≠ .cell) (hkind : scope.kind = .function)
    (hnames : ∀ y ∈ scope.names, y.2 = .local → scope.names.lookup y.1 = some .local) (hxa : scope.names.lookup a = some .local) (hxb : scope.names.lookup b = some .local) (hab : ¬ a = b) (hdb : (b == ("__debug__" : Str)) = false)
    (hy : env.kindOf y = some .cell) (hyc : env.cells.lookup y = some cS) (hek : env.scope.kind = .function)
    (h : wpAny (model prog w) A (eval iter env) (EnSrc prog w A h₀ L m env c a b scope cl tst cS Q) E s)
    (hs : ∀ x, foldedSetIterable iter env x = pure x := by intro _; rfl) :
    wpAny (model prog w) A (exec (.Assign [.Name y py] (.ListComp (.Name b pe) [⟨.Tuple [.Name a pa, .Name b pb] kk tp, iter, [c], 0⟩] scope pos) spos) env) Q E s := by
  refine wpAny_Assign_Name ?_ hsw
  rw [eval_ListComp]
  refine wpAny_comprehension_free (use := none) rfl hs hclos hkind hnames (wpAny_mono h (fun xv s₁ h₁ => ?_) fun _ _ e => e)
  obtain ⟨I, it, x, t₀, old, oS, x₀, rest, rfl, hh, hIit, he, hi, hsz, F, N, hS, hIL, hitL, hI₀, hit₀, off, offS, R, fin⟩ := h₁.ok
  refine wpAny_pyIter_enum he ?_
  refine signs_block (RR := fun acc C => compPost (model prog w) A E none (fun v s₁ => wpAny (model prog w) A (storeName env y v) (fun _ => Q .next) E s₁) acc C) hh hIit he hi hcell hkind hxa hxb hab hdb hsz F N hIL hitL hI₀ hit₀ off R ?_
  intro D C h tk m' ys F' N' hys offC hn hC₀ hCL hCD
  have zS := N' (cS, oS) (.tail _ (.head _))
  have hcL : cS ≠ L := zS.2.1
  have hcC : cS ≠ C := (offC (cS, oS) (.head _)).2
  have hcD : cS ≠ D := (offC (cS, oS) (.head _)).1
  refine ⟨m', hn, fun h₂ hs₂ => ?_⟩
  have N₂ : News h₀ L h₂ ((D, lst ys) :: (cS, oS) :: rest) := fun p hp => by
    refine ⟨hs₂.extBut _ _ ?_ (N' p hp).1, (N' p hp).2⟩
    rcases List.mem_cons.mp hp with rfl | hp
    · exact Ne.symm hCD
    · exact (offC p hp).2
  have F₂ := F'.change hs₂ hCL hC₀
  refine wpAny_storeName_cell hek hy hyc (v₀ := x₀) ⟨oS, (N₂ (cS, oS) (.tail _ (.head _))).1, hS⟩ fun h₃ hc₃ hs₃ => ?_
  obtain ⟨oS', eS', dS'⟩ := hc₃
  refine fin D h₃ tk ys oS' dS' hys (F₂.change hs₃ hcL zS.2.2) (fun p hp => ?_) (Ne.symm hcD) fun p hp => (offC p (.tail _ hp)).1
  rcases List.mem_cons.mp hp with rfl | hp
  · have z := N₂ _ (List.Mem.head _)
    exact ⟨hs₃.extBut _ _ (Ne.symm hcD) z.1, z.2⟩
  rcases List.mem_cons.mp hp with rfl | hp
  · exact ⟨eS', zS.2⟩
  · have z := N₂ p (.tail _ (.tail _ hp))
    exact ⟨hs₃.extBut _ _ (offS p hp) z.1, z.2⟩
end
theorem EnSrc.intro {prog : Program} {w : World} {A : Around} {env : Env} {h₀ : Heap} {L : Addr} {m : Str → Option Value} {c : Expr} {a b : Str} {scope : Scope} {cl : List (Str × Addr)} {tst : Nat → Bool} {cS : Addr} {Q : Flow → Shared → Prop} {s₁ : Shared} {h' : Heap} {x : Str} {t₀ : Tok} {led rest : Led} {oS : Obj} {x₀ : Option Value}
    (hh : A.handled = none) (F : Fr h₀ L s₁.heap m) (N : News h₀ L s₁.heap led) (he : IsEnum h' (s₁.heap.objs.size + 1) s₁.heap.objs.size 0 .none) (hi : h'.IsStrIter s₁.heap.objs.size (strIterType x) x t₀ 0) (hk : ∀ b o, s₁.heap.get? b = some o → h'.get? b = some o) (hx : strIterType x = "str_ascii_iterator") (hsz : x.cps.size ≤ sizeLine)
    (hsub : ∀ p ∈ (cS, oS) :: rest, p ∈ led) (hS : oS.data = .cell x₀) (offS : ∀ p ∈ rest, p.1 ≠ cS) (R : EnRest prog w A h₀ L m env c a b scope cl x tst { s₁ with heap := h' } ((cS, oS) :: rest)) (fin : EnFin h₀ L m cS rest (picked x tst x.cps.size) { s₁ with heap := h' } Q) :
    EnSrc prog w A h₀ L m env c a b scope cl tst cS Q (.ref (s₁.heap.objs.size + 1)) { s₁ with heap := h' } := by
  have hL : L < s₁.heap.objs.size := F.ns.lt
  refine ⟨_, _, x, t₀, _, oS, x₀, rest, rfl, hh, Nat.succ_ne_self _, he, hx ▸ hi, hsz, F.keeps hk, (News.sub N hsub).grown hk, hS, Nat.ne_of_lt (Nat.lt_succ_of_lt hL), Nat.ne_of_lt hL, ktu_new F (Nat.le_succ _), ktu_new F (Nat.le_refl _), fun p hp => ?_, offS, R, fin⟩
  have := Heap.lt_size (N p (hsub p hp)).1
  exact ⟨Nat.ne_of_lt (Nat.lt_succ_of_lt this), Nat.ne_of_lt this⟩
theorem EnSrc.intro4 {prog : Program} {w : World} {A : Around} {env : Env} {h₀ : Heap} {L : Addr} {m : Str → Option Value} {c : Expr} {a b : Str} {scope : Scope} {cl : List (Str × Addr)} {tst : Nat → Bool} {cS : Addr} {Q : Flow → Shared → Prop} {s₁ : Shared} {h' : Heap} {x : Str} {t₀ : Tok} {p1 p2 p3 : Addr × Obj} {r : Led} {oS : Obj} {x₀ : Option Value}
    (hh : A.handled = none) (F : Fr h₀ L s₁.heap m) (N : News h₀ L s₁.heap (p1 :: p2 :: p3 :: (cS, oS) :: r)) (he : IsEnum h' (s₁.heap.objs.size + 1) s₁.heap.objs.size 0 .none) (hi : h'.IsStrIter s₁.heap.objs.size (strIterType x) x t₀ 0) (hk : ∀ b o, s₁.heap.get? b = some o → h'.get? b = some o) (hx : strIterType x = "str_ascii_iterator") (hsz : x.cps.size ≤ sizeLine)
    (hS : oS.data = .cell x₀) (o1 : @Ne Nat p1.1 cS) (o2 : @Ne Nat p2.1 cS) (o3 : @Ne Nat p3.1 cS) (o4 : AllNe cS r) (R : EnRest prog w A h₀ L m env c a b scope cl x tst { s₁ with heap := h' } ((cS, oS) :: p1 :: p2 :: p3 :: r)) (fin : EnFin h₀ L m cS (p1 :: p2 :: p3 :: r) (picked x tst x.cps.size) { s₁ with heap := h' } Q) :
    EnSrc prog w A h₀ L m env c a b scope cl tst cS Q (.ref (s₁.heap.objs.size + 1)) { s₁ with heap := h' } := by
  refine EnSrc.intro hh F N he hi hk hx hsz (fun p hp => ?_) hS (fun p hp => ?_) R fin
  · simp only [List.mem_cons] at hp ⊢
    rcases hp with h | h | h | h | h
    · exact .inr (.inr (.inr (.inl h)))
    · exact .inl h
    · exact .inr (.inl h)
    · exact .inr (.inr (.inl h))
    · exact .inr (.inr (.inr (.inr h)))
  · simp only [List.mem_cons] at hp
    rcases hp with h | h | h | h
    · exact h ▸ o1
    · exact h ▸ o2
    · exact h ▸ o3
    · exact AllNe.all o4 p h
noncomputable def sgAt (r : Nat) : Str × Str × Str := match r with
  | 0 => (Str.ofString "&", Str.ofString "<", Str.ofString ">")
  | 1 => (Str.ofString "&", Str.ofString "<", Str.ofString "\"")
  | 2 => (Str.ofString "&", Str.ofString ">", Str.ofString "\"")
  | _ => (Str.ofString "<", Str.ofString ">", Str.ofString "\"")
noncomputable def SgOk (x0 x1 x2 : Str) : Prop := ∃ r, r < 4 ∧ sgAt r = (x0, x1, x2)
theorem picked4 {k : Int} (h : k = 0 ∨ k = 1 ∨ k = 2 ∨ k = 3) : ∃ x0 x1 x2, picked (Str.ofString "&<>\"") (fun i => ((i : Int) != 3 - k)) (Str.ofString "&<>\"").cps.size = [x0, x1, x2] ∧ SgOk x0 x1 x2 := by
  rcases h with rfl | rfl | rfl | rfl
  · exact ⟨_, _, _, by decide +kernel, 0, by decide, rfl⟩
  · exact ⟨_, _, _, by decide +kernel, 1, by decide, rfl⟩
  · exact ⟨_, _, _, by decide +kernel, 2, by decide, rfl⟩
  · exact ⟨_, _, _, by decide +kernel, 3, by decide, rfl⟩
theorem strsInv {vs : List Value} {x : Str} {xs : List Str} (h : StrsAre vs (x :: xs)) : ∃ t r, vs = .str x t :: r ∧ StrsAre r xs := by
  cases h with
  | cons _ t h => exact ⟨t, _, rfl, h⟩
theorem strs3 {vs : List Value} {x0 x1 x2 : Str} (h : StrsAre vs [x0, x1, x2]) : ∃ t0 t1 t2, vs = [.str x0 t0, .str x1 t1, .str x2 t2] := by
  obtain ⟨t0, _, e0, h0⟩ := strsInv h
  obtain ⟨t1, _, e1, h1⟩ := strsInv h0
  obtain ⟨t2, _, e2, h2⟩ := strsInv h1
  cases h2
  exact ⟨t0, t1, t2, by rw [e0, e1, e2]⟩
theorem sg_dec (P : Str → Str → Str → Prop) (h : ∀ r, r < 4 → P (sgAt r).1 (sgAt r).2.1 (sgAt r).2.2) {x0 x1 x2 : Str} (hs : SgOk x0 x1 x2) : P x0 x1 x2 := by
  obtain ⟨r, hr, e⟩ := hs
  have := h r hr
  rw [e] at this
  exact this
theorem sg_len0 {x0 x1 x2 : Str} (h : SgOk x0 x1 x2) : x0.length ≤ 1 := sg_dec (fun x _ _ => x.length ≤ 1) (by decide +kernel) h
theorem sg_len1 {x0 x1 x2 : Str} (h : SgOk x0 x1 x2) : x1.length ≤ 1 := sg_dec (fun _ x _ => x.length ≤ 1) (by decide +kernel) h
theorem sg_len2 {x0 x1 x2 : Str} (h : SgOk x0 x1 x2) : x2.length ≤ 1 := sg_dec (fun _ _ x => x.length ≤ 1) (by decide +kernel) h
theorem sg_fit {x0 x1 x2 : Str} (h : SgOk x0 x1 x2) (k : Int) : Fit (way0 k x0 x1 x2) :=
  sg_dec (fun x0 x1 x2 => ∀ b0 b1 b2 : Bool, Fit (Txt.join (Str.ofString "") ((if b0 then [x0] else []) ++ (if b1 then [x1] else []) ++ (if b2 then [x2] else [])))) (by unfold Fit Sg; decide +kernel) h (bitP k 0) (bitP k 1) (bitP k 2)
section
open PySem.Calls PySem.F
variable {prog : Program} {w : World} {A : Around} {E : Value → Shared → Prop} {s : Shared} {h₀ : Heap} {L : Addr} {m : Str → Option Value} {news : Led}
theorem merge_empty {d a : Addr} {nD nA : Nat} {oA : Obj} {es : Array DictEntry} {Q : Unit → Shared → Prop} (hd : s.heap.get? d = some { cls := .type "dict", data := .dict es nD }) (he : es = #[]) (ha : s.heap.get? a = some oA) (hc : oA.cls = .type "dict") (hda : oA.data = .dict #[] nA) (hs : (a == sysModules) = false) (h : Q () s) :
    wpAny (model prog w) A (mergeMapping d (.ref a) true) Q E s := by
  subst he
  have T : s.TypeIs (.ref a) "dict" := ⟨oA, ha, hc⟩
  unfold mergeMapping
  refine wpAny_bind (wpAny_isInstance T (b := true) (by rw [isSubtype_type]; kernel_rfl) ?_)
  simp only [if_true]
  refine wpAny_bind (wpAny_specialOf T slot_dict_iter.lookup ?_)
  refine wpAny_bind (wpAny_pure ?_)
  rw [show (some (Value.builtin "dict.__iter__") == some (Value.builtin "dict.__iter__")) = true from by decide]
  dsimp only
  rw [hs]
  simp only [Bool.false_eq_true, if_false]
  refine wpAny_bind (wpAny_dictEntries hd rfl ?_)
  rw [show (#[] : Array DictEntry).isEmpty = true from rfl]
  simp only [if_true]
  refine wpAny_bind (wpAny_dictEntries ha hda ?_)
  have e1 : ∀ (f : DictEntry → PUnit → Sem (ForInStep PUnit)), forIn (#[] : Array DictEntry) PUnit.unit f = pure PUnit.unit := fun f => by simp
  rw [e1]
  refine wpAny_bind (wpAny_pure ?_)
  refine wpAny_bind (wpAny_dictEntries ha hda ?_)
  refine wpAny_bind (wpAny_dictEpoch ha hda ?_)
  have e2 : ∀ (f : Nat → PUnit → Sem (ForInStep PUnit)), forIn (List.range (#[] : Array DictEntry).size) PUnit.unit f = pure PUnit.unit := fun f => by simp
  rw [e2]
  first
    | exact wpAny_bind (wpAny_pure (wpAny_pure h))
    | exact wpAny_pure h
theorem merged_one {f : Value} {k : Sem Value} {a : Addr} {nA : Nat} {oA : Obj} {Q : Addr → Shared → Prop} (ha : s.heap.get? a = some oA) (hc : oA.cls = .type "dict") (hda : oA.data = .dict #[] nA) (hs : (a == sysModules) = false)
    (hk : ∀ (s' : Shared) (Q' : Value → Shared → Prop) (E' : Value → Shared → Prop), s' = { s with heap := s.heap.push { cls := .type "dict", data := .dict #[] } } → Q' (.ref a) s' → wpAny (model prog w) A k Q' E' s')
    (h : Q s.heap.objs.size { s with heap := s.heap.push { cls := .type "dict", data := .dict #[] } }) :
    wpAny (model prog w) A (mergedKeywords f [(none, k)]) Q E s := by
  unfold mergedKeywords
  refine wpAny_bind (wpAny_alloc ?_)
  refine wpAny_bind (wpAny_holding ?_)
  refine wpAny_bind ?_
  rw [List.forIn_cons]
  refine wpAny_bind ?_
  dsimp only
  refine wpAny_bind ?_
  rw [if_pos (show ([] : List (Str × Sem Value)).isEmpty = true from rfl)]
  refine wpAny_pure ?_
  refine wpAny_bind (hk _ _ _ rfl ?_)
  have hd := Heap.get?_push_size s.heap (o := { cls := .type "dict", data := .dict #[] }) rfl
  refine wpAny_bind (wpAny_onRaise (wpAny_holding (wpAny_tryCatch (wpAny_onRaise (merge_empty hd rfl (Heap.get?_push_of_some _ ha) hc hda hs ?_)))))
  refine wpAny_pure ?_
  dsimp only
  rw [List.forIn_nil]
  refine wpAny_pure ?_
  rw [if_pos (show ([] : List (Str × Sem Value)).isEmpty = true from rfl)]
  exact wpAny_pure (wpAny_pure h)
theorem kwIn_empty {f : Value} {d : Addr} {nD : Nat} {Q : List (Str × Value) → Shared → Prop} (hd : s.heap.get? d = some { cls := .type "dict", data := .dict #[] nD }) (h : Q [] s) : wpAny (model prog w) A (keywordsIn f d) Q E s := by
  unfold keywordsIn
  refine wpAny_bind (wpAny_dictEntries hd rfl ?_)
  have e1 : ∀ (g : DictEntry → List (Str × Value) → Sem (ForInStep (List (Str × Value)))), forIn (#[] : Array DictEntry) [] g = pure [] := fun g => by simp
  rw [e1]
  exact wpAny_bind (wpAny_pure (wpAny_pure h))
theorem evalArgs_SK {f : Value} {x k : Sem Value} {pos p2 : Pos} {T D0 : Addr} {oT oD : Obj} {its : Array Value} {ws : List Value} {nT nD : Nat} {Q : Args → Shared → Prop} (F : Fr h₀ L s.heap m) (N : News h₀ L s.heap news) (hT : (T, oT) ∈ news) (hTc : oT.cls = .type "tuple") (hTd : oT.data = .seq its nT) (hw : its.toList = ws) (hz : its.size ≤ sizeLine)
    (hD : (D0, oD) ∈ news) (hDc : oD.cls = .type "dict") (hDd : oD.data = .dict #[] nD) (hsys : (D0 == sysModules) = false)
    (hx : ∀ (Q' : Value → Shared → Prop), Q' (.ref T) s → wpAny (model prog w) A x Q' E s) (hk : ∀ (s' : Shared) (Q' E' : Value → Shared → Prop), Fr h₀ L s'.heap m → Q' (.ref D0) s' → wpAny (model prog w) A k Q' E' s')
    (h : ∀ h', Fr h₀ L h' m → News h₀ L h' news → Q ⟨ws, []⟩ { s with heap := h' }) :
    wpAny (model prog w) A (evalArgs f true [(true, (do let v ← x; standAt pos; pure v))] [(none, (do let v ← k; standAt p2; pure v))]) Q E s := by
  unfold evalArgs
  refine wpAny_bind (wpAny_bind (hx _ (wpAny_bind (wpAny_standAt (wpAny_pure ?_)))))
  refine wpAny_bind (wpAny_pure ?_)
  refine wpAny_holding ?_
  dsimp only
  rw [show (([(none, (do let v ← k; standAt p2; pure v))] : List (Option Str × Sem Value)).all fun x => x.fst.isSome) = false from rfl]
  rw [if_neg (by decide)]
  refine wpAny_bind (merged_one (N _ hD).1 hDc hDd hsys (fun s' Q' E' e q => wpAny_bind (hk s' _ _ (by rw [e]; exact F.push _) (wpAny_bind (wpAny_standAt (wpAny_pure q))))) ?_)
  have N' : News h₀ L (s.heap.push { cls := .type "dict", data := .dict #[] }) ((s.heap.objs.size, { cls := .type "dict", data := .dict #[] }) :: news) := fun p hp => by
    rcases List.mem_cons.mp hp with rfl | hp
    · exact ⟨Heap.get?_push_size s.heap rfl, Ne.symm (Nat.ne_of_lt F.ns.lt), next_is_new F⟩
    · exact ⟨Heap.get?_push_of_some _ (N p hp).1, (N p hp).2⟩
  have S : StarOf (model prog w) A E (.ref T) (fun here s₂ => wpAny (model prog w) A (do let kw ← holding (Value.ref s.heap.objs.size :: here) (keywordsIn f s.heap.objs.size); pure (⟨here, kw⟩ : Args)) Q E s₂) { s with heap := s.heap.push { cls := .type "dict", data := .dict #[] } } := by
    refine star_seq (s := { s with heap := s.heap.push { cls := .type "dict", data := .dict #[] } }) (F.push _) N' (.tail _ hT) hTc hTd (.inr rfl) hw hz fun h' F'' N'' => ?_
    exact wpAny_bind (wpAny_holding (kwIn_empty (N'' _ (.head _)).1 (wpAny_pure (h h' F'' (fun p hp => N'' p (.tail _ hp))))))
  unfold StarOf at S
  refine wpAny_bind (wpAny_bind (wpAny_mono S (fun b s₂ h₂ => ?_) fun _ _ x => x))
  obtain ⟨hb, h₂⟩ := h₂
  subst hb
  rw [if_neg (by decide)]
  exact wpAny_holding (wpAny_mono h₂ (fun here s₃ h₃ => h₃) fun _ _ x => x)
theorem callK {f : Value} {first : List Value} {pos : Pos} {Q : Value → Shared → Prop} {P : Heap → Prop} {args : List (Bool × Sem Value)} {kws : List (Option Str × Sem Value)} (hst : args.any (·.1) = true)
    (hk : ∀ h, P h → ∃ k, (k = Keeper.frame ∨ k = Keeper.machine ∨ k = Keeper.boundFrame) ∧ Looks (model prog w) h (keeperOf f) k)
    (h : wpAny (model prog w) A (evalArgs f true args kws) (fun a s₁ => P s₁.heap ∧ wpAny (model prog w) A (call f (first ++ a.pos) a.kw) Q E s₁) E s) : wpAny (model prog w) A (callWith pos f first args kws) Q E s := by
  unfold callWith
  refine wpAny_bind (wpAny_holding (wpAny_mono h (fun a s₁ h₁ => wpAny_bind (wpAny_standAt ?_)) fun _ _ x => x))
  obtain ⟨k, hk', L⟩ := hk _ h₁.1
  simp only [hst, Bool.true_or]
  refine wpAny_bind (L.here ?_)
  have tail : ∀ {t : Sem Value}, wpAny (model prog w) A t Q E s₁ → wpAny (model prog w) A (t >>= fun r => holding [r] point >>= fun _ => pure r) Q E s₁ :=
    fun ht => wpAny_bind (wpAny_mono ht (fun r s₂ hr => wpAny_bind (wpAny_holding (wpAny_point (wpAny_pure hr)))) fun _ _ x => x)
  have marked (mk : Value) : wpAny (model prog w) A (callMarked mk f (first ++ a.pos) a.kw) Q E s₁ := by unfold callMarked; exact Calls.wpAny_keep h₁.2
  rcases hk' with rfl | rfl | rfl <;> dsimp only <;> first | exact tail (marked _) | exact tail (wpAny_operating h₁.2)
theorem callWith_SK {K : Frag} {env : Env} {pos p pk : Pos} {f : Value} {e k : Expr} {T D0 : Addr} {oT oD : Obj} {its : Array Value} {ws : List Value} {nT nD : Nat} {Q : Value → Shared → Prop} (X : K.In h₀) (hkf : keepIn K f = true) (F : Fr h₀ L s.heap m) (N : News h₀ L s.heap news) (hT : (T, oT) ∈ news) (hTc : oT.cls = .type "tuple") (hTd : oT.data = .seq its nT) (hw : its.toList = ws) (hz : its.size ≤ sizeLine)
    (hD : (D0, oD) ∈ news) (hDc : oD.cls = .type "dict") (hDd : oD.data = .dict #[] nD) (hsys : (D0 == sysModules) = false)
    (hx : ∀ (Q' : Value → Shared → Prop), Q' (.ref T) s → wpAny (model prog w) A (eval e env) Q' E s) (hk : ∀ (s' : Shared) (Q' E' : Value → Shared → Prop), Fr h₀ L s'.heap m → Q' (.ref D0) s' → wpAny (model prog w) A (eval k env) Q' E' s')
    (h : ∀ h', Fr h₀ L h' m → News h₀ L h' news → wpAny (model prog w) A (call f ws) Q E { s with heap := h' })
    (he : starEach [.Starred e p] env = [(true, eval e env)] := by rfl) :
    wpAny (model prog w) A (callWith pos f [] (backTo pos (starEach [.Starred e p] env)) (backToKw pos (keywordEach [⟨none, k, pk⟩] env))) Q E s := by
  rw [he]
  refine callK (P := K.In) rfl (keeps_K hkf) ?_
  exact evalArgs_SK F N hT hTc hTd hw hz hD hDc hDd hsys hx hk fun h' F' N' => ⟨X.keeps F'.keep, h h' F' N'⟩
theorem callWith_SM {K : Frag} {env : Env} {pos p pk : Pos} {q fa : Addr} {self : Value} {e k : Expr} {T D0 : Addr} {oT oD : Obj} {its : Array Value} {ws : List Value} {nT nD : Nat} {Q : Value → Shared → Prop} (hf : fnIn K fa = true) (F : Fr h₀ L s.heap m) (N : News h₀ L s.heap news) (hmp : ∀ h', Fr h₀ L h' m → News h₀ L h' news → MethP K q fa self h') (hT : (T, oT) ∈ news) (hTc : oT.cls = .type "tuple") (hTd : oT.data = .seq its nT) (hw : its.toList = ws) (hz : its.size ≤ sizeLine)
    (hD : (D0, oD) ∈ news) (hDc : oD.cls = .type "dict") (hDd : oD.data = .dict #[] nD) (hsys : (D0 == sysModules) = false)
    (hx : ∀ (Q' : Value → Shared → Prop), Q' (.ref T) s → wpAny (model prog w) A (eval e env) Q' E s) (hk : ∀ (s' : Shared) (Q' E' : Value → Shared → Prop), Fr h₀ L s'.heap m → Q' (.ref D0) s' → wpAny (model prog w) A (eval k env) Q' E' s')
    (h : ∀ h', Fr h₀ L h' m → News h₀ L h' news → wpAny (model prog w) A (call (.ref q) ws) Q E { s with heap := h' })
    (he : starEach [.Starred e p] env = [(true, eval e env)] := by rfl) :
    wpAny (model prog w) A (callWith pos (.ref q) [] (backTo pos (starEach [.Starred e p] env)) (backToKw pos (keywordEach [⟨none, k, pk⟩] env))) Q E s := by
  rw [he]
  refine callK (P := MethP K q fa self) rfl (keeps_M hf) ?_
  exact evalArgs_SK F N hT hTc hTd hw hz hD hDc hDd hsys hx hk fun h' F' N' => ⟨hmp h' F' N', h h' F' N'⟩
end
theorem dict_nil {prog : Program} {w : World} {K : Type} [DecidableEq K] {knd : KeyKind prog w K} {o : Obj} (h : o.IsDictOf knd []) : o.cls = .type "dict" ∧ ∃ n, o.data = .dict #[] n := by
  obtain ⟨es, ep, hx, hd, _, hp, _⟩ := h
  have e : es = #[] := by
    have : es.toList = [] := by cases hl : es.toList with
      | nil => rfl
      | cons a r => rw [hl] at hp; cases hp
    exact Array.toList_eq_nil_iff.mp this
  exact ⟨hx.1, ep, e ▸ hd⟩
section
variable {w : World} {mean : ExcName → Option Value} {mg mb : Str → Option Value} {dp un : Nat} {gd : Option (List Code)} {cn : Str} {nms : List (Str × NameKind)} {ig ic : Bool} {mo : List (Str × Const)} {a : Addr} {ccd : Value} {cl : List (Str × Addr)} {outer : List Env} {A₀ : Around} {base h₀ : Heap} {L : Addr} {m : Str → Option Value} {s : Shared} {Q E : Value → Shared → Prop} {news : Led}
local macro_rules | `(tactic| walk_at "callWith ref") => `(tactic| (k_here; refine HaltF.intro ?_))
theorem keep_hand {P : Params} {j : Nat} (hj : j < 5) : keepIn (Mine.hd.heap_1 P) (.ref (337 + 7 * j)) = true := by
  have hfill : (PySem.Challenge.rw_xl0032_01 = PySem.Challenge.rw_xl0032_01 ∧ Mine.hd.heap_1 = Mine.hd.heap_1) := by (k_fill; exact ⟨rfl, rfl⟩)
  match j, hj with
  | 0, _ => show keepIn (Mine.hd.heap_1 P) (.ref 337) = true; k_is
  | 1, _ => show keepIn (Mine.hd.heap_1 P) (.ref 344) = true; k_is
  | 2, _ => show keepIn (Mine.hd.heap_1 P) (.ref 351) = true; k_is
  | 3, _ => show keepIn (Mine.hd.heap_1 P) (.ref 358) = true; k_is
  | 4, _ => show keepIn (Mine.hd.heap_1 P) (.ref 365) = true; k_is
theorem call_ok {x : Str} {tx : Tok} {j : Nat} (hj : j < 5) (C : Cx w mean mg mb dp un A₀ base outer h₀ L m s news 4) (hx : x.length ≤ 3)
   (ret : ∀ t h' tk', Fr h₀ L h' m → News h₀ L h' news → Q (.str (escF j x) t) { s with heap := h', toks := tk' }) :
   wpAny (mdl w) (tp dp un gd cn nms ig ic mo L a ccd cl outer) (call (.ref 101) [.ref (337 + 7 * j), .str x tx]) Q E s := by
  have hfill : (PySem.Challenge.rw_xl0032_01 = PySem.Challenge.rw_xl0032_01 ∧ Mine.hd.heap_1 = Mine.hd.heap_1) := by (k_fill; exact ⟨rfl, rfl⟩)
  clear hfill
  obtain ⟨B, F, X, N, T, hd, hu⟩ := C
  w_strict k_steps
  unfold HaltF
  rename Fr _ _ _ _ => lF
  rename News _ _ _ _ => lN
  rename Frag.In _ _ => lX
  rename Obj.IsDictOf _ _ _ => hdn
  obtain ⟨dc, nn, dd⟩ := dict_nil hdn
  refine' callWith_SK lX ?hkf lF lN ?hT ?c ?d ?w ?z ?hD ?c2 ?d2 ?sys (fun Q' q => ld lF (by rfl) q) (fun s' Q' E' F' q => ld F' (by rfl) q) ?_
  case hkf => exact keep_hand hj
  case hT => k_mem
  case c => rfl
  case d => rfl
  case w => rfl
  case z => exact Nat.le_of_ble_eq_true rfl
  case hD => k_mem
  case c2 => exact dc
  case d2 => exact dd
  case sys => assumption
  intro h' F' N'
  refine' esc_ok hj ?kC hx ?_
  case kC => (refine' Cx.mk ?k1 ?k2 ?k3 ?k4 ?k5 ?k6 ?k7; (case k1 => k_asm); (case k2 => k_asm); (case k3 => k_asm); (case k4 => exact News.nil); (case k5 => k_asm); (case k6 => ktr_room); (case k7 => ktr_units))
  intro t' h' tk' F' k'
  have N' := Keep.all k' (by assumption)
  w_strict k_steps
  rename Fr h₀ L _ m => kF
  rename News h₀ L _ _ => kN
  exact ret _ _ _ kF (fun p hp => kN p (.tail _ (.tail _ hp)))
end
end
section
open PySem PySem.W PyProof.Rows
set_option maxRecDepth 100000
set_option maxHeartbeats 8000000
theorem news_get {h₀ h : Heap} {L a : Addr} {o : Obj} {led : Led} (N : News h₀ L h led) (hm : (a, o) ∈ led) : h.get? a = some o := (N _ hm).1
noncomputable abbrev itm (i : Nat) : Str := Txt.item (Str.ofString "abc") (0 + (i : Int))
theorem itm_nm (i : Nat) (h : i < 3) : itm i = nm i := by
  rcases (by omega : i = 0 ∨ i = 1 ∨ i = 2) with rfl | rfl | rfl <;> decide +kernel
theorem itm_fit (i : Nat) (h : i < 3) : Nm (itm i) := itm_nm i h ▸ nm_fit i
theorem itm_high (i j : Nat) (hi : i < 3) (hj : j < 3) (hij : i ≠ j) : (Txt.lower (itm i) == Txt.lower (itm j)) = false := by
  rw [itm_nm i hi, itm_nm j hj]; exact nm_high i j (by omega)
theorem esc_text {x0 x1 x2 : Str} (h : SgOk x0 x1 x2) {j : Nat} (hj : j < 5) (k : Int) : okText (escF j (way0 k x0 x1 x2)) :=
  sg_dec (fun x0 x1 x2 => ∀ j, j < 5 → ∀ b0 b1 b2 : Bool, okText (escF j (Txt.join (Str.ofString "") ((if b0 then [x0] else []) ++ (if b1 then [x1] else []) ++ (if b2 then [x2] else []))))) (by unfold okText; decide +kernel) h j hj (bitP k 0) (bitP k 1) (bitP k 2)
end
section
open PySem PySem.W PyProof.Rows
set_option maxRecDepth 100000
set_option maxHeartbeats 8000000
-- the plain law's two readings joined
noncomputable def chk (j : Nat) (s : Str × Str × Str) : Bool := (List.range 7).all fun a =>
  ((List.range 7).all fun b => (!(tellK j ((a : Int) + 1) s.1 s.2.1 s.2.2 == tellK j ((b : Int) + 1) s.1 s.2.1 s.2.2) || a == b)) &&
  ((List.range 3).all fun r => hasT (tellK j ((a : Int) + 1) s.1 s.2.1 s.2.2) (ms3 (escF j s.1) (escF j s.2.1) (escF j s.2.2) r) == bitP ((a : Int) + 1) r) &&
  (escF j (way0 ((a : Int) + 1) s.1 s.2.1 s.2.2) == tellK j ((a : Int) + 1) s.1 s.2.1 s.2.2)
theorem chk_all : (List.range 4).all (fun r => (List.range 5).all fun j => chk j (sgAt r)) = true := by decide +kernel
theorem chk_at {r j : Nat} (hr : r < 4) (hj : j < 5) : chk j (sgAt r) = true :=
  List.all_eq_true.mp (List.all_eq_true.mp chk_all r (List.mem_range.mpr hr)) j (List.mem_range.mpr hj)
theorem msk_nat {a : Int} (h : Msk a) : ∃ n : Nat, n < 7 ∧ a = (n : Int) + 1 := ⟨(a - 1).toNat, by have := h.1; have := h.2; omega, by have := h.1; omega⟩
section
variable {x0 x1 x2 : Str} {j : Nat}
theorem chk_of (h : SgOk x0 x1 x2) (hj : j < 5) : chk j (x0, x1, x2) = true := by
  obtain ⟨r, hr, e⟩ := h
  rw [← e]; exact chk_at hr hj
theorem esc_tell (h : SgOk x0 x1 x2) (hj : j < 5) {k : Int} (hk : Msk k) : escF j (way0 k x0 x1 x2) = tellK j k x0 x1 x2 := by
  obtain ⟨n, hn, rfl⟩ := msk_nat hk
  have z := List.all_eq_true.mp (chk_of h hj) n (List.mem_range.mpr hn)
  simp only [Bool.and_eq_true] at z
  exact beq_iff_eq.mp z.2
theorem ok_law (h : SgOk x0 x1 x2) (hj : j < 5) {ch : Nat → Nat → Int} (hch : ∀ p i, p < 3 → i < 3 → Msk (ch p i)) : Ok (fun k => tellK j k x0 x1 x2) ch (ms3 (escF j x0) (escF j x1) (escF j x2)) := by
  refine ⟨hch, fun a b ha hb e => ?_, fun a r ha hr => ?_⟩
  · obtain ⟨n, hn, rfl⟩ := msk_nat ha
    obtain ⟨m, hm, rfl⟩ := msk_nat hb
    have z := List.all_eq_true.mp (chk_of h hj) n (List.mem_range.mpr hn)
    simp only [Bool.and_eq_true] at z
    have y := List.all_eq_true.mp z.1.1 m (List.mem_range.mpr hm)
    rw [show (tellK j ((n : Int) + 1) x0 x1 x2 == tellK j ((m : Int) + 1) x0 x1 x2) = true from beq_iff_eq.mpr e] at y
    have : n = m := by simpa using y
    rw [this]
  · obtain ⟨n, hn, rfl⟩ := msk_nat ha
    have z := List.all_eq_true.mp (chk_of h hj) n (List.mem_range.mpr hn)
    simp only [Bool.and_eq_true] at z
    exact beq_iff_eq.mp (List.all_eq_true.mp z.1.2 r (List.mem_range.mpr hr))
end
theorem slIter_len' {cs : List Int} {tell : Int → Str} {ch : Nat → Nat → Int} (n : Nat) : (slIter cs tell ch (slStart ch) n).steps.length = n := by
  rw [slIter_len]; exact Nat.zero_add n
theorem sl_kept {cs : List Int} {tell : Int → Str} {ch : Nat → Nat → Int} : ∀ n, (slIter cs tell ch (slStart ch) n).kept ≤ n
  | 0 => Nat.le_refl _
  | n + 1 => by
    have ih := sl_kept (cs := cs) (tell := tell) (ch := ch) n
    show (slTurn cs tell ch (slIter cs tell ch (slStart ch) n)).kept ≤ n + 1
    unfold slTurn slPut
    dsimp only
    split
    · exact Nat.succ_le_succ ih
    · exact Nat.zero_le _
theorem rel_all {tell : Int → Str} {ch : Nat → Nat → Int} {ms : Nat → Str} (O : Ok tell ch ms) (cs : List Int) {row : Nat → Nat → Str} (hrow : ∀ p i, p < 3 → i < 3 → row p i = tell (ch p i)) :
    ∀ n, Rel cs tell ch (hgt [ch 0 0, ch 1 0, ch 2 0] cs) (eaIter cs ms row ⟨row 0 0, row 1 0, row 2 0, 0, 0, []⟩ n) (slIter cs tell ch (slStart ch) n)
  | 0 => by
    refine ⟨rfl, rfl, ?_, fun _ => ⟨hrow 0 0 (by decide) (by decide), hrow 1 0 (by decide) (by decide), hrow 2 0 (by decide) (by decide)⟩, fun h => absurd (show 0 % 3 = 1 from h) (by decide), fun h => absurd (show 0 % 3 = 2 from h) (by decide), ⟨⟨0, by decide, rfl⟩, ⟨0, by decide, rfl⟩, ⟨0, by decide, rfl⟩⟩⟩
    show (0 : Int) = hgt [ch 0 0, ch 1 0, ch 2 0] cs - hgt [ch 0 0, ch 1 0, ch 2 0] cs
    omega
  | n + 1 => by
    have ih := rel_all O cs hrow n
    have hp : (slIter cs tell ch (slStart ch) n).steps.length % 3 = n % 3 := by rw [slIter_len']
    have h3 : n % 3 < 3 := Nat.mod_lt _ (by decide)
    have z := rel_step O ih hp
    rw [← hrow _ 0 h3 (by decide), ← hrow _ 1 h3 (by decide), ← hrow _ 2 h3 (by decide)] at z
    exact z
theorem last3 {cs : List Int} {ms : Nat → Str} {row : Nat → Nat → Str} {e0 : EaSt} (n : Nat) : ∃ l, (eaIter cs ms row e0 (n + 3)).steps = l ++ [(eaIter cs ms row e0 (n + 3)).w0, (eaIter cs ms row e0 (n + 3)).w1, (eaIter cs ms row e0 (n + 3)).w2] := by
  refine ⟨(eaIter cs ms row e0 n).steps, ?_⟩
  show ((((eaIter cs ms row e0 n).steps ++ [_]) ++ [_]) ++ [_]) = _
  rw [List.append_assoc, List.append_assoc]
  rfl
/-- where both come to rest, and what is there -/
theorem rest_at {tell : Int → Str} {ch : Nat → Nat → Int} {ms : Nat → Str} (O : Ok tell ch ms) (cs : List Int) {row : Nat → Nat → Str} (hrow : ∀ p i, p < 3 → i < 3 → row p i = tell (ch p i)) {g : Nat → EaSt} {f : Nat → SlSt} (hg : g = eaIter cs ms row ⟨row 0 0, row 1 0, row 2 0, 0, 0, []⟩) (hf : f = slIter cs tell ch (slStart ch)) {n i : Nat}
    (hn81 : n ≤ 81) (hn : ∀ j, j < n → (g j).kept ≠ 3) (hn' : n = 81 ∨ (g n).kept = 3) (hi : ∀ j, j < i → (f j).kept < 3) (hi' : 3 ≤ (f i).kept) :
    n = i ∧ (g n).steps = (f i).steps ∧ (g n).gained = hgt [ch 0 0, ch 1 0, ch 2 0] cs - hgt [(f i).k0, (f i).k1, (f i).k2] cs ∧ 3 ≤ n ∧ (f i).steps.length = n ∧ ∃ l, (f i).steps = l ++ [(g n).w0, (g n).w1, (g n).w2] := by
  have R : ∀ n, Rel cs tell ch (hgt [ch 0 0, ch 1 0, ch 2 0] cs) (g n) (f n) := fun n => by rw [hg, hf]; exact rel_all O cs hrow n
  obtain ⟨N, hN81, hN3, hNlt⟩ := comes_to_rest (cs := cs) O (σ := slStart ch) ⟨⟨0, by decide, rfl⟩, ⟨0, by decide, rfl⟩, ⟨0, by decide, rfl⟩⟩ rfl
  rw [← hf] at hN3 hNlt
  have e1 : i = N := by
    rcases Nat.lt_trichotomy i N with h | h | h
    · have := hNlt i h; omega
    · exact h
    · have := hi N h; omega
  subst e1
  have e2 : n = i := by
    rcases Nat.lt_trichotomy n i with h | h | h
    · have h1 := hNlt n h
      rcases hn' with h2 | h2
      · omega
      · rw [(R n).kept] at h2; omega
    · exact h
    · have := hn i h
      rw [(R i).kept] at this; omega
  subst e2
  have hk := sl_kept (cs := cs) (tell := tell) (ch := ch) n
  rw [← hf] at hk
  have h3 : 3 ≤ n := by omega
  refine ⟨rfl, (R n).steps, (R n).gain, h3, by rw [hf]; exact slIter_len' n, ?_⟩
  obtain ⟨m, rfl⟩ : ∃ m, n = m + 3 := ⟨n - 3, by omega⟩
  rw [← (R (m + 3)).steps, hg]
  exact last3 m
end
section
open PySem PySem.W PyProof.Rows
set_option maxRecDepth 100000
set_option maxHeartbeats 8000000
section
variable {w : World} {mean : ExcName → Option Value} {mg mb : Str → Option Value} {dp un : Nat} {gd : Option (List Code)} {cn : Str} {nms : List (Str × NameKind)} {ig ic : Bool} {mo : List (Str × Const)} {a : Addr} {ccd : Value} {cl : List (Str × Addr)} {outer : List Env} {A₀ : Around} {base h₀ : Heap} {L : Addr} {m : Str → Option Value} {s : Shared} {Q E : Value → Shared → Prop} {news : Led}
local macro_rules | `(tactic| walk_at "newTuple") => `(tactic| (k_here; k_dflt (refine' kup_newTuple ?F ?N ?_ ?z; (case F => k_asm); (case N => k_asm); (case z => kmk_size)); intro D' h' F' N' l1; (try k_lt l1); (try k_sweep)))
local macro_rules | `(tactic| walk_at "call ref") => `(tactic| (k_here; refine HaltG.intro ?_))
theorem setd_ok {x y : Str} {tx ty kt : Tok} {ti td tl : Addr} {hh : Int} {n nl : Nat} {vs : List Value} {R : Led} (C : Cx w mean mg mb dp un A₀ base outer h₀ L m s ((tl, listOf vs.toArray nl) :: R) 4) (hi : (ti, instObj 241 td) ∈ R) (hd : (td, dictOf [⟨hh, .str (Str.ofString "_headers") kt, .ref tl⟩] n) ∈ R) (hvs : ∀ v ∈ vs, Off2 x R v) (hlen : vs.length ≤ 3) (hR : ∀ p ∈ R, p.1 ≠ tl) (hx : Nm x) (hy : okText y)
   (ret : ∀ p h' tk', Fr h₀ L h' m → Keep [(tl, listOf vs.toArray nl)] s.heap h' → News h₀ L h' [(tl, listOf (vs.toArray.push (.ref p)) (nl + 1)), (p, tup2 x tx y ty)] → Q (.str y ty) { s with heap := h', toks := tk' }) :
   codeAny (mdl w) (tp dp un gd cn nms ig ic mo L a ccd cl outer) (.call (.ref 231) ⟨[.ref ti, .str x tx, .str y ty], []⟩) (fun r s' => match r with | .ok (.ret v) => Q v s' | .ok _ => False | .error e => E e s') s := by
  ((have hfill : (PySem.Challenge.rw_xl0032_01 = PySem.Challenge.rw_xl0032_01 ∧ Mine.hd.heap_1 = Mine.hd.heap_1) := by (k_fill; exact ⟨rfl, rfl⟩)); clear hfill; (rename Cx _ _ _ _ _ _ _ _ _ _ _ _ _ _ _ => C); obtain ⟨B, F, X, N, T, hdz9, huz9⟩ := C; w_strict (k_dflt (refine' code_defM ?k1 ?k2 ?k3 ?k4 ?k5 ?kA ?kF ?kK ?k6 ?k7 ?k8 ?k9 ?kB ?_ ?c2 ?c3 ?c4 ?c5; (case kA => exact rfl); (case kF => exact rfl); (case kK => exact rfl); (case k1 => k_asm); (case k2 => k_asm); (case k3 => k_asm); (case k4 => k_asm); (case k5 => k_asm); (case k6 => k_is); (case k7 => k_is); (case k8 => ktr_room); (case k9 => first | exact BindsTo.of_eq rfl | exact binds_K (by k_in) rfl (by k_is) rfl rfl rfl | fail "k_enter: no rule for these arguments"); (case c5 => decide); (case kB => exact locs rfl); (case c2 => exact rfl); (case c3 => exact rfl); (case c4 => exact rfl); k_whole; intro g' L' h' hG FG' F' N' B' X' T'; (try dsimp only); (try k_lift B'); (try k_fold))))
  walk_at "tb.let"
  w_strict k_steps
  unfold HaltG
  refine' get_none (vs := vs) (R := (tl, listOf vs.toArray nl) :: R) ?kC hx (.tail _ hi) (.tail _ hd) (.head _) (fun v hv => (hvs v hv).tail) hlen ?_
  case kC => ktr_unf
  intro h' tk' F' k'
  have N' := Keep.all k' (by assumption)
  clear k'
  k_sweep
  w_strict k_steps
  unfold HaltG
  with_unfolding_all refine' conv_ok (b := true) hx.ok ?kC ?_
  case kC => ktr_unf
  intro h' tk' F' k'
  have N' := Keep.all k' (by assumption)
  clear k'
  k_sweep
  w_strict k_steps
  unfold HaltG
  with_unfolding_all refine' conv_ok (b := false) hy ?kC ?_
  case kC => ktr_unf
  intro h' tk' F' k'
  have N' := Keep.all k' (by assumption)
  clear k'
  k_sweep
  w_strict k_steps
  refine ret _ _ _ (by assumption) (Keep.backX (Keep.of (by assumption) (by assumption)) (by assumption) (by assumption) fun q hq => ?_) (News.sub (by assumption) (by lcg_sub))
  rcases List.mem_cons.mp hq with rfl | hq
  · exact .inr ⟨_, .head _, rfl⟩
  · exact .inl (.tail _ (.tail _ hq))
end
end
section
open PySem PySem.W PyProof.Rows
set_option maxRecDepth 100000
set_option maxHeartbeats 8000000
section
variable {w : World} {mean : ExcName → Option Value} {mg mb : Str → Option Value} {dp un : Nat} {gd : Option (List Code)} {cn : Str} {nms : List (Str × NameKind)} {ig ic : Bool} {mo : List (Str × Const)} {a : Addr} {ccd : Value} {cl : List (Str × Addr)} {outer : List Env} {A₀ : Around} {base h₀ : Heap} {L : Addr} {m : Str → Option Value} {s : Shared} {Q E : Value → Shared → Prop} {news : Led}
local macro_rules | `(tactic| walk_at "callWith ref") => `(tactic| (k_here; refine HaltF.intro ?_))
theorem Cx.sub {news led : Led} {k : Nat} (C : Cx w mean mg mb dp un A₀ base outer h₀ L m s news k) (hs : ∀ p ∈ led, p ∈ news) : Cx w mean mg mb dp un A₀ base outer h₀ L m s led k := ⟨C.B, C.F, C.X, News.sub C.N hs, C.T, C.hd, C.hu⟩
theorem csetd_ok {x y : Str} {tx ty kt : Tok} {ti td tl qm : Addr} {hh : Int} {n nl : Nat} {vs : List Value} {R : Led} (C : Cx w mean mg mb dp un A₀ base outer h₀ L m s ((qm, methodObj (.ref 231) (.ref ti)) :: (tl, listOf vs.toArray nl) :: R) 8) (hi : (ti, instObj 241 td) ∈ R) (hdd : (td, dictOf [⟨hh, .str (Str.ofString "_headers") kt, .ref tl⟩] n) ∈ R) (hvs : ∀ v ∈ vs, Off2 x R v) (hlen : vs.length ≤ 3) (hR : ∀ p ∈ R, p.1 ≠ tl) (hx : Nm x) (hy : okText y)
   (ret : ∀ p h' tk', Fr h₀ L h' m → News h₀ L h' ((tl, listOf (vs.toArray.push (.ref p)) (nl + 1)) :: (p, tup2 x tx y ty) :: R) → Q (.str y ty) { s with heap := h', toks := tk' }) :
   wpAny (mdl w) (tp dp un gd cn nms ig ic mo L a ccd cl outer) (call (.ref 101) [.ref qm, .str x tx, .str y ty]) Q E s := by
  have hfill : (PySem.Challenge.rw_xl0032_01 = PySem.Challenge.rw_xl0032_01 ∧ Mine.hd.heap_1 = Mine.hd.heap_1) := by (k_fill; exact ⟨rfl, rfl⟩)
  clear hfill
  obtain ⟨B, F, X, N, T, hd, hu⟩ := C
  (w_strict k_steps; unfold HaltF; (rename Fr _ _ _ _ => lF); (rename News _ _ _ _ => lN); (rename Frag.In _ _ => lX); (rename Obj.IsDictOf _ _ _ => hdn); obtain ⟨dc, nn, dd⟩ := dict_nil hdn; refine' callWith_SM ?hf lF lN ?hmp ?hT ?c ?d ?w ?z ?hD ?c2 ?d2 ?sys (fun Q' q => ld lF (by rfl) q) (fun s' Q' E' F' q => ld F' (by rfl) q) ?_; (case hmp => exact fun h' F' N' => ⟨news_get N' (by k_mem), Frag.In.keeps lX F'.keep⟩); (case hf => k_is); (case hT => k_mem); (case c => rfl); (case d => rfl); (case w => exact rfl); (case z => exact Nat.le_of_ble_eq_true rfl); (case hD => k_mem); (case c2 => exact dc); (case d2 => exact dd); (case sys => assumption); clear lF lN hdn; intro h' F' N'; (rename Fr _ _ _ _ => lF); (rename News _ _ _ _ => lN); refine call_meth lN (by k_mem) ?_)
  rename Fr _ _ _ _ => lF
  rename News _ _ _ _ => lN
  refine' setd_ok (td := td) (tl := tl) (hh := hh) (n := n) (nl := nl) (kt := kt) (vs := vs) (R := R) ?kC hi hdd hvs hlen hR hx hy ?_
  case kC => ktr_unf
  intro p h8 tk8 F8 k8 N8
  have N7 := Keep.news (others := R) k8 (News.sub lN (by lcg_sub)) N8 (off_one hR)
  simp only [List.cons_append, List.nil_append] at N7
  clear lF lN
  w_strict k_steps
  rename Fr h₀ L _ m => kF
  rename News h₀ L _ _ => kN
  exact ret _ _ _ kF (News.sub kN (by lcg_sub))
theorem csetd0_ok {x y : Str} {tx ty kt : Tok} {ti td tl qm : Addr} {hh : Int} {n nl : Nat} {oth : Led} (C : Cx w mean mg mb dp un A₀ base outer h₀ L m s ((qm, methodObj (.ref 231) (.ref ti)) :: (ti, instObj 241 td) :: (td, dictOf [⟨hh, .str (Str.ofString "_headers") kt, .ref tl⟩] n) :: (tl, listOf #[] nl) :: oth) 8) (hx : Nm x) (hy : okText y) (d1 : ti ≠ tl) (d2 : td ≠ tl) (ho : ∀ p ∈ oth, p.1 ≠ tl)
   (ret : ∀ p h' tk', Fr h₀ L h' m → News h₀ L h' ((tl, listOf #[.ref p] (nl + 1)) :: (p, tup2 x tx y ty) :: (ti, instObj 241 td) :: (td, dictOf [⟨hh, .str (Str.ofString "_headers") kt, .ref tl⟩] n) :: oth) → Q (.str y ty) { s with heap := h', toks := tk' }) :
   wpAny (mdl w) (tp dp un gd cn nms ig ic mo L a ccd cl outer) (call (.ref 101) [.ref qm, .str x tx, .str y ty]) Q E s :=
  csetd_ok (vs := []) (R := ((ti, instObj 241 td) :: (td, dictOf [⟨hh, .str (Str.ofString "_headers") kt, .ref tl⟩] n) :: oth)) (C.sub (sub_cons (.head _) (sub_cons (.tail _ (.tail _ (.tail _ (.head _)))) (sub_cons (.tail _ (.head _)) (sub_cons (.tail _ (.tail _ (.head _))) fun p hp => .tail _ (.tail _ (.tail _ (.tail _ hp)))))))) (.head _) (.tail _ (.head _)) (fun _ h => nomatch h) (by decide) (off_cons d1 (off_cons d2 ho)) hx hy ret
theorem csetd1_ok {x y : Str} {tx ty kt : Tok} {ti td tl qm : Addr} {hh : Int} {n nl : Nat} {oth : Led} {n0 y0 : Str} {t0 u0 : Tok} {p0 : Addr} (C : Cx w mean mg mb dp un A₀ base outer h₀ L m s ((qm, methodObj (.ref 231) (.ref ti)) :: (ti, instObj 241 td) :: (td, dictOf [⟨hh, .str (Str.ofString "_headers") kt, .ref tl⟩] n) :: (tl, listOf #[.ref p0] nl) :: (p0, tup2 n0 t0 y0 u0) :: oth) 8) (hx : Nm x) (hy : okText y) (hn0 : Nm n0) (e0 : (Txt.lower n0 == Txt.lower x) = false) (d1 : ti ≠ tl) (d2 : td ≠ tl) (dp0 : p0 ≠ tl) (ho : ∀ p ∈ oth, p.1 ≠ tl)
   (ret : ∀ p h' tk', Fr h₀ L h' m → News h₀ L h' ((tl, listOf #[.ref p0, .ref p] (nl + 1)) :: (p, tup2 x tx y ty) :: (ti, instObj 241 td) :: (td, dictOf [⟨hh, .str (Str.ofString "_headers") kt, .ref tl⟩] n) :: (p0, tup2 n0 t0 y0 u0) :: oth) → Q (.str y ty) { s with heap := h', toks := tk' }) :
   wpAny (mdl w) (tp dp un gd cn nms ig ic mo L a ccd cl outer) (call (.ref 101) [.ref qm, .str x tx, .str y ty]) Q E s :=
  csetd_ok (vs := [.ref p0]) (R := ((ti, instObj 241 td) :: (td, dictOf [⟨hh, .str (Str.ofString "_headers") kt, .ref tl⟩] n) :: (p0, tup2 n0 t0 y0 u0) :: oth)) (C.sub (sub_cons (.head _) (sub_cons (.tail _ (.tail _ (.tail _ (.head _)))) (sub_cons (.tail _ (.head _)) (sub_cons (.tail _ (.tail _ (.head _))) fun p hp => .tail _ (.tail _ (.tail _ (.tail _ hp)))))))) (.head _) (.tail _ (.head _)) (fun v hv => by rw [List.mem_singleton.mp hv]; exact .mk p0 n0 t0 y0 u0 (.tail _ (.tail _ (.head _))) hn0 e0) (Nat.le_of_ble_eq_true rfl) (off_cons d1 (off_cons d2 (off_cons dp0 ho))) hx hy ret
theorem csetd2_ok {x y : Str} {tx ty kt : Tok} {ti td tl qm : Addr} {hh : Int} {n nl : Nat} {oth : Led} {n0 y0 n1 y1 : Str} {t0 u0 t1 u1 : Tok} {p0 p1 : Addr} (C : Cx w mean mg mb dp un A₀ base outer h₀ L m s ((qm, methodObj (.ref 231) (.ref ti)) :: (ti, instObj 241 td) :: (td, dictOf [⟨hh, .str (Str.ofString "_headers") kt, .ref tl⟩] n) :: (tl, listOf #[.ref p0, .ref p1] nl) :: (p0, tup2 n0 t0 y0 u0) :: (p1, tup2 n1 t1 y1 u1) :: oth) 8) (hx : Nm x) (hy : okText y) (hn0 : Nm n0) (hn1 : Nm n1) (e0 : (Txt.lower n0 == Txt.lower x) = false) (e1 : (Txt.lower n1 == Txt.lower x) = false) (d1 : ti ≠ tl) (d2 : td ≠ tl) (dp0 : p0 ≠ tl) (dp1 : p1 ≠ tl) (ho : ∀ p ∈ oth, p.1 ≠ tl)
   (ret : ∀ p h' tk', Fr h₀ L h' m → News h₀ L h' ((tl, listOf #[.ref p0, .ref p1, .ref p] (nl + 1)) :: (p, tup2 x tx y ty) :: (ti, instObj 241 td) :: (td, dictOf [⟨hh, .str (Str.ofString "_headers") kt, .ref tl⟩] n) :: (p0, tup2 n0 t0 y0 u0) :: (p1, tup2 n1 t1 y1 u1) :: oth) → Q (.str y ty) { s with heap := h', toks := tk' }) :
   wpAny (mdl w) (tp dp un gd cn nms ig ic mo L a ccd cl outer) (call (.ref 101) [.ref qm, .str x tx, .str y ty]) Q E s :=
  csetd_ok (vs := [.ref p0, .ref p1]) (R := ((ti, instObj 241 td) :: (td, dictOf [⟨hh, .str (Str.ofString "_headers") kt, .ref tl⟩] n) :: (p0, tup2 n0 t0 y0 u0) :: (p1, tup2 n1 t1 y1 u1) :: oth)) (C.sub (sub_cons (.head _) (sub_cons (.tail _ (.tail _ (.tail _ (.head _)))) (sub_cons (.tail _ (.head _)) (sub_cons (.tail _ (.tail _ (.head _))) fun p hp => .tail _ (.tail _ (.tail _ (.tail _ hp)))))))) (.head _) (.tail _ (.head _)) (fun v hv => by
    rcases List.mem_cons.mp hv with rfl | hv
    · exact .mk p0 n0 t0 y0 u0 (.tail _ (.tail _ (.head _))) hn0 e0
    · rw [List.mem_singleton.mp hv]; exact .mk p1 n1 t1 y1 u1 (.tail _ (.tail _ (.tail _ (.head _)))) hn1 e1) (Nat.le_of_ble_eq_true rfl) (off_cons d1 (off_cons d2 (off_cons dp0 (off_cons dp1 ho)))) hx hy ret
end
end
section
open PySem PySem.W PyProof.Rows
set_option maxRecDepth 100000
set_option maxHeartbeats 8000000
/-- what one turn of the table's filter does with its pair -/
inductive FltE (x : Str) (R : Led) (ys ys' : List Value) : Value → Prop
  | mk (p : Addr) (n : Str) (t : Tok) (y : Str) (u : Tok) (b : Bool) (hp : (p, tup2 n t y u) ∈ R) (hn : Nm n) (he : (Txt.lower n == Txt.lower x) = b) (hy : ys' = if b then ys else ys ++ [.ref p]) : FltE x R ys ys' (.ref p)
theorem of_allLt {D : Addr} : ∀ {R : Led}, AllLt D R → ∀ p ∈ R, p.1 < D
  | [], _, _, h => nomatch h
  | _ :: _, h, _, .head _ => h.1
  | _ :: _, h, _, .tail _ hp => of_allLt h.2 _ hp
section
variable {w : World} {mean : ExcName → Option Value} {mg mb : Str → Option Value} {dp un : Nat} {gd : Option (List Code)} {cn : Str} {nms : List (Str × NameKind)} {ig ic : Bool} {mo : List (Str × Const)} {a : Addr} {ccd : Value} {cl : List (Str × Addr)} {outer : List Env} {A₀ : Around} {base h₀ : Heap} {L : Addr} {m : Str → Option Value} {s : Shared} {Q E : Value → Shared → Prop} {news : Led}
local macro_rules | `(tactic| walk_at "call ref") => `(tactic| (k_here; (with_reducible show wpAny _ _ (call (Value.ref 140) _ _) _ _ _); refine HaltG.intro ?_))
local macro_rules | `(tactic| walk_at "setItem ref") => `(tactic| (k_here; (with_reducible show wpAny _ _ (setItem (Value.ref _) (Value.ref _) (Value.ref _)) _ _ _); refine HaltG.intro ?_))
local macro_rules | `(tactic| walk_at "delItem ref") => `(tactic| (k_here; (with_reducible show wpAny _ _ (delItem (Value.ref _) _) _ _ _); refine HaltG.intro ?_))
local macro_rules | `(tactic| walk_at "CompSrcT") => `(tactic| (k_here; refine HaltG.intro ?_))
local macro_rules | `(tactic| walk_at "eval ListComp") => `(tactic| (k_here; lcg_calm; k_dflt (refine LCt.ListComp_T (F₀ := by k_asm) (by with_unfolding_all rfl) (by decide) (by rfl) (by decide) (by rfl) ?_)))
local macro_rules | `(tactic| walk_at "CompEnd") => `(tactic| (refine HaltG.intro ?_))
theorem setitem_c {x y : Str} {tx ty kt : Tok} {ti td tl p0 p1 p2 : Addr} {hh : Int} {n nl : Nat} {R : Led} (C : Cx w mean mg mb dp un A₀ base outer h₀ L m s ((tl, listOf #[.ref p0, .ref p1, .ref p2] nl) :: R) 5) (hi : (ti, instObj 241 td) ∈ R) (hd : (td, dictOf [⟨hh, .str (Str.ofString "_headers") kt, .ref tl⟩] n) ∈ R) (f0 : FltE x R [] [] (.ref p0)) (f1 : FltE x R [] [.ref p1] (.ref p1)) (f2 : FltE x R [.ref p1] [.ref p1, .ref p2] (.ref p2)) (hR : ∀ p ∈ R, p.1 ≠ tl) (hx : Nm x) (hy : okText y)
   (ret : ∀ p3 h' tk', Fr h₀ L h' m → Keep [(tl, listOf #[.ref p0, .ref p1, .ref p2] nl)] s.heap h' → News h₀ L h' [(tl, listOf #[.ref p1, .ref p2, .ref p3] (nl + 2)), (p3, tup2 x tx y ty)] → Q .none { s with heap := h', toks := tk' }) :
   wpAny (mdl w) (tp dp un gd cn nms ig ic mo L a ccd cl outer) (call (.ref 94) [.ref ti, .str x tx, .str y ty]) Q E s := by
  ((have hfill : (PySem.Challenge.rw_xl0032_01 = PySem.Challenge.rw_xl0032_01 ∧ Mine.hd.heap_1 = Mine.hd.heap_1) := by (k_fill; exact ⟨rfl, rfl⟩)); clear hfill; (rename Cx _ _ _ _ _ _ _ _ _ _ _ _ _ _ _ => Cz9); obtain ⟨Bz9, Fz9, Xz9, Nz9, Tz9, hdz9, huz9⟩ := Cz9; refine wpAny_call ?_; w_strict (k_dflt (refine' code_defM ?k1 ?k2 ?k3 ?k4 ?k5 ?kA ?kF ?kK ?k6 ?k7 ?k8 ?k9 ?kB ?_ ?c2 ?c3 ?c4 ?c5; (case kA => exact rfl); (case kF => exact rfl); (case kK => exact rfl); (case k1 => k_asm); (case k2 => k_asm); (case k3 => k_asm); (case k4 => k_asm); (case k5 => k_asm); (case k6 => k_is); (case k7 => k_is); (case k8 => ktr_room); (case k9 => first | exact BindsTo.of_eq rfl | exact binds_K (by k_in) rfl (by k_is) rfl rfl rfl); (case c5 => decide); (case kB => exact locs rfl); (case c2 => exact rfl); (case c3 => exact rfl); (case c4 => exact rfl); k_whole; intro gz9 Lz9 hz9 hGz9 FGz9 Fz8 Nz8 Bz8 Xz8 Tz8; (try dsimp only); (try k_lift Bz8); (try k_fold))))
  walk_at "tb.let"
  w_strict k_steps
  unfold HaltG
  refine' del_inst ?F ?X ?I ?hQ ?hS ?hF ?_
  case F => k_asm
  case X => k_asm
  case I => k_inst
  case hS => k_is
  case hF => k_is
  case hQ => k_is
  k_whole
  w_strict k_steps
  unfold HaltG
  with_unfolding_all refine' conv_ok (b := true) hx.low ?kC ?_
  case kC => ktr_unf
  intro h' tk' F' k'
  have N' := Keep.all k' (by assumption)
  clear k'
  k_sweep
  rename (_ < _ ∧ AllLt _ R) => lt9
  have ht9 : tl ≠ _ + 1 := Nat.ne_of_lt (Nat.lt_succ_of_lt lt9.1)
  have hR9 : ∀ p ∈ R, p.1 ≠ _ + 1 := fun p hp => Nat.ne_of_lt (Nat.lt_succ_of_lt (of_allLt lt9.2 p hp))
  w_strict k_steps
  unfold HaltG
  refine LCt.CompSrcT.ledger (by rfl) (by k_asm) (by k_asm) (by k_mem) (by exact Nat.le_of_ble_eq_true rfl) ?_
  intro g9
  refine compRestT_ind (n := 3) (G := fun i ys => ys = ([.ref p1, .ref p2] : List Value).take (i - 1)) ?_ ?_ 3 0 [] rfl rfl
  · intro i ys v I oI C oC D m₂ h9 tk9 E' hi9 hG hP hC hx9 F9 N9 off ne
    have hf : FltE x R ys (([.ref p1, .ref p2] : List Value).take (i + 1 - 1)) v := by
      subst hG
      rcases (by omega : i = 0 ∨ i = 1 ∨ i = 2) with rfl | rfl | rfl
      · exact Option.some.inj (show some (Value.ref p0) = _ from hP) ▸ f0
      · exact Option.some.inj (show some (Value.ref p1) = _ from hP) ▸ f1
      · exact Option.some.inj (show some (Value.ref p2) = _ from hP) ▸ f2
    clear hP hG
    obtain ⟨p, n', t', y', u', b, hp, hn, he, hy'⟩ := hf
    w_strict k_steps
    · unfold HaltG
      refine ⟨_, _, _, rfl, by assumption, by assumption, off, .inr ⟨_, by k_mem, rfl, _, rfl⟩, rfl, ?_⟩
      cases b with
      | true => exact hy'.symm
      | false => simp_all
    · unfold HaltG
      refine ⟨_, _, _, rfl, by assumption, by assumption, off, .inr ⟨_, by k_mem, rfl, _, rfl⟩, rfl, ?_⟩
      cases b with
      | true => simp_all
      | false => exact hy'.symm
  intro ys hG
  obtain rfl : ys = [.ref p1, .ref p2] := hG
  w_strict k_steps
  unfold HaltG
  refine' setSlice_K (by rfl) ?F ?N ?U ?D ?z1 ?z2 ?_
  case F => k_asm
  case N => k_asm
  case D => k_mem
  case U => k_upd
  case z1 => exact Nat.le_of_ble_eq_true rfl
  case z2 => exact Nat.le_of_ble_eq_true rfl
  try dsimp only
  intro hz7 Fz7 Nz7
  w_strict k_steps
  unfold HaltG
  with_unfolding_all refine' conv_ok (b := true) hx.ok ?kC ?_
  case kC => ktr_unf
  intro h' tk' F' k'
  have N' := Keep.all k' (by assumption)
  clear k'
  k_sweep
  w_strict k_steps
  unfold HaltG
  with_unfolding_all refine' conv_ok (b := false) hy ?kC ?_
  case kC => ktr_unf
  intro h' tk' F' k'
  have N' := Keep.all k' (by assumption)
  clear k'
  k_sweep
  w_strict k_steps
  refine ret _ _ _ (by assumption) (Keep.backX (Keep.of (by assumption) (by assumption)) (by assumption) (by assumption) fun q hq => ?_) (News.sub (by assumption) (by lcg_sub))
  rcases List.mem_cons.mp hq with rfl | hq
  · exact .inr ⟨_, .head _, rfl⟩
  · exact .inl (.tail _ (.tail _ (.tail _ (.tail _ hq))))
end
end
section
open PySem PySem.W PyProof.Rows
set_option maxRecDepth 100000
set_option maxHeartbeats 8000000
structure Stash (P : Prop) : Prop where
  out : P
section
local macro_rules | `(tactic| walk_at "exec For Name Call cons nil") => `(tactic| (k_here; (with_reducible show wpAny _ _ (exec (Stmt.For _ (Expr.Call (Expr.Name _ _) [Expr.Constant (Const.int 81) _ _] _ _) _ _ _) _) _ _ _); refine HaltF.intro ?_))
local macro_rules | `(tactic| walk_at "pyIter ref") => `(tactic| (k_here; refine HaltF.intro ?_))
local macro_rules | `(tactic| walk_at "call ref") => `(tactic| (k_here; refine HaltF.intro ?_))
local macro_rules | `(tactic| walk_at "call builtin:ord") => `(tactic| (k_here; first | (refine ord_nm ?_; intro t' tk') | (refine ord_low ?_; intro t' tk')))
local macro_rules | `(tactic| walk_at "call builtin:chr") => `(tactic| (k_here; refine chr_nm ?_; intro t' tk'))
local macro_rules | `(tactic| walk_at "exec If") => `(tactic| (k_here; (rename Fr _ _ _ _ => F'); (rename News _ _ _ _ => N'); (apply si_if F' N' rfl); (case hold => k_dflt (exact rfl)); (case' hc => k_fold)))
local macro_rules | `(tactic| walk_at "exec Assign cons ListComp") => `(tactic| (k_here; (with_reducible show wpAny _ _ (exec (Stmt.Assign [Expr.Name _ _] (Expr.ListComp _ _ _ _) _) _) _ _ _); refine HaltF.intro ?_))
local macro_rules | `(tactic| walk_at "eval ListComp") => `(tactic| (k_here; (with_reducible show wpAny _ _ (eval (Expr.ListComp _ _ _ _) (compEnvC _ _ _ _)) _ _ _); refine HaltF.intro ?_))
local macro_rules | `(tactic| walk_at "callWith ref") => `(tactic| (k_here; (with_reducible show wpAny _ _ (callWith _ (Value.ref _) _ (backTo _ (starEach [] _)) _) _ _ _); refine HaltF.intro ?_))
local macro_rules | `(tactic| walk_at "subscriptTail Name BinOp ref int") => `(tactic| (k_here; refine HaltF.intro ?_))
local macro_rules | `(tactic| walk_at "subscriptTail Name Name ref int") => `(tactic| (k_here; refine HaltF.intro ?_))
local macro_rules | `(tactic| walk_at "binaryOp Mult int int") => `(tactic| (k_here; k_dflt (refine mul_int ?_ (by first | exact IntMulOk.of_left (by decide +kernel) | mul_fits))))
local macro_rules | `(tactic| walk_at "SrcC") => `(tactic| (k_here; refine HaltF.intro ?_))
local macro_rules | `(tactic| walk_at "SIC") => `(tactic| (refine HaltF.intro ?_))
local macro_rules | `(tactic| walk_at "SIV") => `(tactic| (refine HaltF.intro ?_))
local macro_rules | `(tactic| walk_at "SBV") => `(tactic| (refine HaltF.intro ?_))
local macro_rules | `(tactic| walk_at "SIB1") => `(tactic| (refine HaltF.intro ?_))
local macro_rules | `(tactic| walk_at "SIB2") => `(tactic| (refine HaltF.intro ?_))
local macro_rules | `(tactic| walk_at "SBB2") => `(tactic| (refine HaltF.intro ?_))
local macro_rules | `(tactic| walk_at "exec For Name Subscript") => `(tactic| (k_here; (with_reducible show wpAny _ _ (exec (Stmt.For (Expr.Name (Str.ofString "way") _) _ _ _ _) _) _ _ _); refine HaltF.intro ?_))
local macro_rules | `(tactic| walk_at "exec If") => `(tactic| (k_here; (rename MkP1 _ => hMk'); (with_reducible show wpAny _ _ (exec (Stmt.If (Expr.BoolOp _ _ _) _ _ _) _) _ _ _); refine HaltF.intro ?_))
local macro_rules | `(tactic| walk_at "UnrEndW") => `(tactic| (refine HaltF.intro ?_))
local macro_rules | `(tactic| walk_at "RestC") => `(tactic| (refine HaltF.intro ?_))
local macro_rules | `(tactic| walk_at "CompSrc") => `(tactic| (refine HaltF.intro ?_))
local macro_rules | `(tactic| walk_at "exec Assign") => `(tactic| (k_here; (rename MkP2 _ => hMk'); (with_reducible show wpAny _ _ (exec (Stmt.Assign [Expr.Name (Str.ofString "kept") _] (Expr.IfExp _ _ _ _) _) _) _ _ _); refine HaltF.intro ?_))
noncomputable def each_s1 : (P : Prop) ×' (Stash P → ∀ {w : World} {mean : ExcName → Option Value} {mg mb : Str → Option Value} {dp un : Nat} {gd : Option (List Code)} {cn : Str} {nms : List (Str × NameKind)} {ig ic : Bool} {mo : List (Str × Const)} {a : Addr} {ccd : Value} {cl : List (Str × Addr)} {outer : List Env} {A₀ : Around} {base h₀ : Heap} {L : Addr} {m : Str → Option Value} {s : Shared} {Q E : Value → Shared → Prop}   {ti td tl i0 i1 i2 lw q0 q1 q2 lm lk : Addr} {hh : Int} {kt : Tok} {nd il nw j0 j1 j2 nq nk : Nat} {w0 w1 w2 : Str} {t0 t1 t2 u0 u1 u2 : Tok}
   {y00 y01 y02 y10 y11 y12 y20 y21 y22 : Str} {t00 t01 t02 t10 t11 t12 t20 t21 t22 : Tok} {x0 x1 x2 : Str} {v0 v1 v2 : Tok} {c0 c1 c2 c3 c4 c5 c6 c7 c8 : Int} {s0 s1 s2 s3 s4 s5 s6 s7 s8 : Tok}
   (hok : ∀ p j, okText (row3 y00 y01 y02 y10 y11 y12 y20 y21 y22 p j)) (hdl : tl ≠ lw ∧ tl ≠ q0 ∧ tl ≠ q1 ∧ tl ≠ q2 ∧ tl ≠ lm ∧ tl ≠ lk)
   (C : Cx w mean mg mb dp un A₀ base outer h₀ L m s [(ti, instObj 241 td), (td, dictOf [⟨hh, .str (Str.ofString "_headers") kt, .ref tl⟩] nd), (tl, listOf #[.ref i0, .ref i1, .ref i2] il), (i0, tup2 (nm 0) t0 w0 u0), (i1, tup2 (nm 1) t1 w1 u1), (i2, tup2 (nm 2) t2 w2 u2), (lw, listOf #[.ref q0, .ref q1, .ref q2] nw), (q0, listOf #[.str y00 t00, .str y01 t01, .str y02 t02] j0), (q1, listOf #[.str y10 t10, .str y11 t11, .str y12 t12] j1), (q2, listOf #[.str y20 t20, .str y21 t21, .str y22 t22] j2), (lm, listOf #[.str x0 v0, .str x1 v1, .str x2 v2] nq), (lk, listOf #[.int c0 s0, .int c1 s1, .int c2 s2, .int c3 s3, .int c4 s4, .int c5 s5, .int c6 s6, .int c7 s7, .int c8 s8] nk)] 7)
   (g : Nat → EaSt) (hg : g = eaIter [c0, c1, c2, c3, c4, c5, c6, c7, c8] (ms3 x0 x1 x2) (row3 y00 y01 y02 y10 y11 y12 y20 y21 y22) ⟨w0, w1, w2, 0, 0, []⟩)
   (ret : ∀ (n : Nat) (lt ls r0 r1 r2 : Addr) (rl e : Nat) (vs : List Value) (t a0 a1 a2 b0 b1 b2 : Tok) h' tk', n ≤ 81 → (∀ j, j < n → (g j).kept ≠ 3) → (n = 81 ∨ (g n).kept = 3) → StrsAre vs (g n).steps → Fr h₀ L h' m → Keep [(tl, listOf #[.ref i0, .ref i1, .ref i2] il), (i0, tup2 (nm 0) t0 w0 u0), (i1, tup2 (nm 1) t1 w1 u1), (i2, tup2 (nm 2) t2 w2 u2)] s.heap h' →
     News h₀ L h' [(lt, { cls := .type "tuple", data := .seq #[.ref ls, .int (g n).gained t] }), (ls, listOf vs.toArray e), (tl, listOf #[.ref r0, .ref r1, .ref r2] rl), (r0, tup2 (nm n) a0 (g n).w0 b0), (r1, tup2 (nm (n + 1)) a1 (g n).w1 b1), (r2, tup2 (nm (n + 2)) a2 (g n).w2 b2)] → Q (.ref lt) { s with heap := h', toks := tk' }), wpAny (mdl w) (tp dp un gd cn nms ig ic mo L a ccd cl outer) (call (.ref 401) [.ref ti, .ref lw, .ref lm, .ref lk]) Q E s) := by
  apply PSigma.mk
  intro hStash
  intro w mean mg mb dp un gd cn nms ig ic mo a ccd cl outer A₀ base h₀ L m s Q E ti td tl i0 i1 i2 lw q0 q1 q2 lm lk hh kt nd il nw j0 j1 j2 nq nk w0 w1 w2 t0 t1 t2 u0 u1 u2 y00 y01 y02 y10 y11 y12 y20 y21 y22 t00 t01 t02 t10 t11 t12 t20 t21 t22 x0 x1 x2 v0 v1 v2 c0 c1 c2 c3 c4 c5 c6 c7 c8 s0 s1 s2 s3 s4 s5 s6 s7 s8 hok hdl C g hg ret
  ((have hfill : (PySem.Challenge.rw_xl0032_01 = PySem.Challenge.rw_xl0032_01 ∧ Mine.hd.heap_1 = Mine.hd.heap_1) := by (k_fill; exact ⟨rfl, rfl⟩)); clear hfill; (rename Cx _ _ _ _ _ _ _ _ _ _ _ _ _ _ _ => Cz9); obtain ⟨Bz9, Fz9, Xz9, Nz9, Tz9, hdz9, huz9⟩ := Cz9; refine wpAny_call ?_; w_strict (k_dflt (refine' code_defCM ?k1 ?k2 ?k3 ?k4 ?k5 ?kA ?kF ?kK ?k6 ?k7 ?k8 ?k9 ?kB ?kD ?_ ?c2 ?c3 ?c4; (case kA => exact rfl); (case kF => exact rfl); (case kK => exact rfl); (case k1 => k_asm); (case k2 => k_asm); (case k3 => k_asm); (case k4 => k_asm); (case k5 => k_asm); (case k6 => k_is); (case k7 => k_is); (case k8 => ktr_room); (case k9 => first | exact BindsTo.of_eq rfl | exact binds_K (by k_in) rfl (by k_is) rfl rfl rfl); (case kB => exact rfl); (case kD => decide +kernel); (case c2 => exact rfl); (case c3 => exact rfl); (case c4 => exact rfl); k_whole; intro gz9 Lz9 hz9 tkz9 cellz9 hGz9 FGz9 Fz8 Nz8 Yz8 Bz8 Xz8 Tz8 lz9; (try k_lt lz9); k_cells Yz8; (try simp only [List.cons_append, List.nil_append] at Nz8); (try dsimp only); (try k_lift Bz8); (try k_fold))))
  refine let_body ?_
  intro A1 env1 qk1 ek1
  have hdA : A1.depth = dp + 1 := rfl
  have huA : A1.units = un + 3 := rfl
  rename News _ _ _ _ => lN
  refine opqE lN fun Rr eR N9 mlw mq0 mq1 mq2 mlm mlk => ?_
  have otR : ∀ p ∈ Rr, p.1 ≠ tl := by
    obtain ⟨d1, d2, d3, d4, d5, d6⟩ := hdl
    exact eR ▸ off_cons (Ne.symm d1) (off_cons (Ne.symm d2) (off_cons (Ne.symm d3) (off_cons (Ne.symm d4) (off_cons (Ne.symm d5) (off_cons (Ne.symm d6) (fun _ h => nomatch h))))))
  have oCR : (Rr.all fun p => noCell p.2) = true := eR ▸ rfl
  have iF0 : ∀ p ∈ Rr, p ∈ [(lw, listOf #[.ref q0, .ref q1, .ref q2] nw), (q0, listOf #[.str y00 t00, .str y01 t01, .str y02 t02] j0), (q1, listOf #[.str y10 t10, .str y11 t11, .str y12 t12] j1), (q2, listOf #[.str y20 t20, .str y21 t21, .str y22 t22] j2), (lm, listOf #[.str x0 v0, .str x1 v1, .str x2 v2] nq), (lk, listOf #[.int c0 s0, .int c1 s1, .int c2 s2, .int c3 s3, .int c4 s4, .int c5 s5, .int c6 s6, .int c7 s7, .int c8 s8] nk)] := eR ▸ sub_self
  clear lN hdl eR iF0
  have hrq : ∀ n, ∃ q ta tb tc jj, (q, listOf #[.str (row3 y00 y01 y02 y10 y11 y12 y20 y21 y22 (n % 3) 0) ta, .str (row3 y00 y01 y02 y10 y11 y12 y20 y21 y22 (n % 3) 1) tb, .str (row3 y00 y01 y02 y10 y11 y12 y20 y21 y22 (n % 3) 2) tc] jj) ∈ Rr ∧ [Value.ref q0, .ref q1, .ref q2][(((97 + (n + 3) % 3 : Nat) : Int) - 97).toNat]? = some (.ref q) := fun n => row_at (q0 := q0) (q1 := q1) (q2 := q2) (y00 := y00) (y01 := y01) (y02 := y02) (y10 := y10) (y11 := y11) (y12 := y12) (y20 := y20) (y21 := y21) (y22 := y22) (t00 := t00) (t01 := t01) (t02 := t02) (t10 := t10) (t11 := t11) (t12 := t12) (t20 := t20) (t21 := t21) (t22 := t22) (j0 := j0) (j1 := j1) (j2 := j2) n fun q ta tb tc jj hq hqi => ⟨q, ta, tb, tc, jj, hq.2 _ mq0 mq1 mq2, hqi⟩
  have hcr : ∀ k, k < 9 → ∃ t, ([.int c0 s0, .int c1 s1, .int c2 s2, .int c3 s3, .int c4 s4, .int c5 s5, .int c6 s6, .int c7 s7, .int c8 s8] : List Value)[k]? = some (.int ([c0, c1, c2, c3, c4, c5, c6, c7, c8].getD k 0) t) := item9
  obtain ⟨rwf, hrwf⟩ : ∃ f, f = row3 y00 y01 y02 y10 y11 y12 y20 y21 y22 := ⟨_, rfl⟩
  rw [← hrwf] at hok hg hrq
  obtain ⟨ms, hms⟩ : ∃ ms, ms = ms3 x0 x1 x2 := ⟨_, rfl⟩
  obtain ⟨cs, hcs⟩ : ∃ cs, cs = [c0, c1, c2, c3, c4, c5, c6, c7, c8] := ⟨_, rfl⟩
  rw [← hcs, ← hms] at hg
  rw [← hcs] at hcr
  obtain ⟨vK, hvK⟩ : ∃ vK : Array Value, vK = #[.int c0 s0, .int c1 s1, .int c2 s2, .int c3 s3, .int c4 s4, .int c5 s5, .int c6 s6, .int c7 s7, .int c8 s8] := ⟨_, rfl⟩
  rw [← hvK] at mlk
  replace hcr : ∀ k, k < 9 → ∃ t, vK.toList[k]? = some (.int (cs.getD k 0) t) := hvK ▸ hcr
  have hir : ∀ p ∈ [(ti, instObj 241 td), (td, dictOf [⟨hh, .str (Str.ofString "_headers") kt, .ref tl⟩] nd), (tl, listOf #[.ref i0, .ref i1, .ref i2] il), (i0, tup2 (nm 0) t0 w0 u0), (i1, tup2 (nm 1) t1 w1 u1), (i2, tup2 (nm 2) t2 w2 u2), (lw, listOf #[.ref q0, .ref q1, .ref q2] nw), (q0, listOf #[.str y00 t00, .str y01 t01, .str y02 t02] j0), (q1, listOf #[.str y10 t10, .str y11 t11, .str y12 t12] j1), (q2, listOf #[.str y20 t20, .str y21 t21, .str y22 t22] j2), (lm, listOf #[.str x0 v0, .str x1 v1, .str x2 v2] nq), (lk, listOf vK nk)], ∀ led' : Led, (∀ p ∈ Rr, p ∈ led') → (ti, instObj 241 td) ∈ led' → (td, dictOf [⟨hh, .str (Str.ofString "_headers") kt, .ref tl⟩] nd) ∈ led' → p ∈ led' ∨ ∃ c ∈ [(tl, listOf #[.ref i0, .ref i1, .ref i2] il), (i0, tup2 (nm 0) t0 w0 u0), (i1, tup2 (nm 1) t1 w1 u1), (i2, tup2 (nm 2) t2 w2 u2)], c.1 = p.1 := by
    refine List.forall_mem_cons.mpr ⟨fun l _ a _ => .inl a, List.forall_mem_cons.mpr ⟨fun l _ _ b => .inl b, List.forall_mem_cons.mpr ⟨fun l _ _ _ => .inr ⟨_, .head _, rfl⟩, List.forall_mem_cons.mpr ⟨fun l _ _ _ => .inr ⟨_, .tail _ (.head _), rfl⟩, List.forall_mem_cons.mpr ⟨fun l _ _ _ => .inr ⟨_, .tail _ (.tail _ (.head _)), rfl⟩, List.forall_mem_cons.mpr ⟨fun l _ _ _ => .inr ⟨_, .tail _ (.tail _ (.tail _ (.head _))), rfl⟩, ?_⟩⟩⟩⟩⟩⟩
    exact fun p hp l hl _ _ => .inl (hl p (sub_cons mlw (sub_cons mq0 (sub_cons mq1 (sub_cons mq2 (sub_cons mlm (sub_cons mlk sub_nil))))) p hp))
  rw [hvK] at hir
  clear hvK mq0 mq1 mq2
  w_strict k_steps
  repeat (any_goals (unfold HaltF; (first | ((with_reducible show wpAny _ _ (call (Value.ref _) _ _) _ _ _); (first | refine' xor_nm_ok ?kC ?_ | refine' contains_ok ?kC ?_ | refine' countOf_ok ?kC ?_ | refine' sub_ok ?kC ?_ | refine' subB_ok ?kC ?_ | refine' iadd_ok ?kC ?_ | refine' eq_ok ?kC ?_ | refine' eqQ_ok ?kC ?_ | refine' lt_ok ?kC ?_ | refine' ltQ_ok ?kC ?_); (case kC => ktr_unf); intros; (rename Keep [] _ _ => kz9); (have Nz9 := Keep.all kz9 (by assumption)); clear kz9; k_sweep; (try dsimp only)) | ((with_reducible show wpAny _ _ (call (Value.ref _) _ _) _ _ _); refine' getitem_first ?kC ?h1 ?h2 ?h3 ?_; (case kC => ktr_unf); (case h1 => assumption); (case h2 => assumption); (case h3 => assumption); intros; (rename Keep [] _ _ => kz9); (have Nz9 := Keep.all kz9 (by assumption)); clear kz9; k_sweep; (try dsimp only)) | ((with_reducible show wpAny _ _ (call (Value.ref _) _ _) _ _ _); refine' getitemL_ok ?kC ?_; (case kC => ktr_unf); intros; (rename Keep [] _ _ => kz9); (have Nz9 := news_tl (Keep.all kz9 (by assumption))); clear kz9; k_sweep; (try dsimp only)) | ((with_reducible show wpAny _ _ (call (Value.ref _) _ _) _ _ _); (first | refine' keys_ok ?kC ?_ | refine' values_ok ?kC ?_); (case kC => ktr_unf); intro lz9 hz9 tkz9 Fz9 kz9 N9z9 hfz9; (have Nz9 := news_add kz9 (by assumption) N9z9 hfz9); (have lz8 := news_off hfz9 (by assumption)); (try dsimp only [OffL] at lz8); (try simp only [List.cons_append, List.nil_append] at Nz9); clear N9z9 hfz9 kz9; (try k_sweep); (try dsimp only)) | ((with_reducible show wpAny _ _ (call (Value.ref _) _ _) _ _ _); refine' qname_ok ?kC ?_; (case kC => (refine' Cx.mk ?k1 ?k2 ?k3 ?k4 ?k5 ?k6 ?k7; (case k1 => k_asm); (case k2 => k_asm); (case k3 => k_asm); (case k4 => k_asm); (case k5 => k_asm); (case k6 => ktr_room); (case k7 => ktr_units))); intro qiz9 qdz9 hqz9 kqz9 nqz9 hz9 tkz9 Fz9 Nz9 lz8 lz9; (try k_lt lz8); (try k_sweep); (try dsimp only)) | ((with_reducible show wpAny _ _ (exec (Stmt.Assign [Expr.Name _ _] (Expr.ListComp _ _ _ _) _) _) _ _ _); refine' Assign_ListComp_C (by assumption) ?hLe ?hsw ?hclos ?hcells ?hpush ?hkind ?hnames ?hx ?hy ?hp ?_; (case hLe => rfl); (case hsw => with_unfolding_all rfl); (case hclos => with_unfolding_all rfl); (case hcells => (intro _; rfl)); (case hpush => (intro _; rfl)); (case hkind => rfl); (case hnames => decide); (case hx => rfl); (case hy => rfl); (case hp => rfl)) | ((with_reducible show wpAny _ _ (eval (Expr.ListComp _ _ _ _) _) _ _ _); refine LCg.ListComp_U (F₀ := by k_asm) (by with_unfolding_all rfl) (by decide) (by rfl) (by decide) (by rfl) ?_) | ((with_reducible show wpAny _ _ (callWith _ (Value.ref _) _ _ _) _ _ _); refine' callWith_K0 ?kk1 ?kk2 ?_; (case kk1 => exact Frag.In.keeps (by k_asm) (Fr.keep (by k_asm))); (case kk2 => k_is); k_whole) | ((with_reducible show wpAny _ _ (subscriptTail _ _ (Value.ref _) (Value.int _ _)) _ _ _); refine' item_row ?k1 ?k2 ?k3 ?k4 ?k5 ?_ ?k7 ?k8; (case k1 => k_asm); (case k2 => k_mem); (case k5 => first | (rename HC _ => hyz9; exact hyz9.out) | (rename _[_]? = some (Value.str _ _) => hyz9; exact hyz9) | (rename _[_]? = some (Value.int _ _) => hyz9; exact hyz9) | (rename _[_]? = some (Value.ref _) => hyz9; exact hyz9)); (case k3 => omega); (case k4 => omega); (case k7 => with_unfolding_all rfl); (case k8 => (intro _; with_unfolding_all rfl))) | (refine' SrcC.intro ?hh ?F ?N ?m ?z ?_; (case hh => rfl); (case F => k_asm); (case N => k_asm); (case m => k_mem); (case z => exact Nat.le_of_ble_eq_true rfl); intro gz9) | ((with_reducible show SIC _ _ _ _ _ _ _ _); (first | ((rename MkP3 _ => hMz9); refine' SIC.intro ?sf ?sn ?se; (case sf => k_asm); (case sn => (first | k_asm | (refine News.sub (by k_asm) ?_; lcg_sub))); (case se => first | exact bestB_t (by with_reducible assumption) | exact bestB_qt (by with_reducible assumption) (by with_reducible assumption) (by with_reducible assumption) | exact bestB_f2 (by with_reducible assumption) (by with_reducible assumption) | exact bestB_qf (by with_reducible assumption) (by with_reducible assumption) (by with_reducible assumption))) | (refine' SIC.intro ?sf ?sn ?se; (case sf => k_asm); (case sn => (first | k_asm | (refine News.sub (by k_asm) ?_; lcg_sub))); (case se => first | exact rfl | (unfold bestB; simp only [*, decide_true, decide_false, Bool.true_or, Bool.false_or, Bool.true_and, Bool.false_and, beq_self_eq_true]))))) | ((with_reducible show SIV _ _ _ _ _ _ _ _ _); refine' SIV.intro ?sf ?sn; (case sf => k_asm); (case sn => (first | k_asm | (refine News.sub (by k_asm) ?_; lcg_sub)))) | ((with_reducible show SBV _ _ _ _ _ _ _ _ _); refine' SBV.intro ?sf ?sn; (case sf => k_asm); (case sn => (first | k_asm | (refine News.sub (by k_asm) ?_; lcg_sub)))) | ((with_reducible show SIB1 _); (show ∀ _, _ → _); refine SIAt.ind ?_; intro hz9 tkz9 Fz9 Nz9; k_sweep; (try k_fold)) | ((with_reducible show SIB2 _); (show ∀ _ _, _ → _); intro tz9; refine SIAt.ind ?_; intro hz9 tkz9 Fz9 Nz9; k_sweep) | ((with_reducible show SBB2 _); (show ∀ _ _ _ _, _ → _); intro Dz9 tz9 uz9; refine SIAt.ind ?_; intro hz9 tkz9 Fz9 Nz9; k_sweep)); w_strict k_steps))
  unfold HaltF
  rename Fr _ _ _ _ => lF
  refine For_turns lF ?_
  w_strict k_steps
  repeat (any_goals (unfold HaltF; (first | ((with_reducible show wpAny _ _ (call (Value.ref _) _ _) _ _ _); (first | refine' xor_nm_ok ?kC ?_ | refine' contains_ok ?kC ?_ | refine' countOf_ok ?kC ?_ | refine' sub_ok ?kC ?_ | refine' subB_ok ?kC ?_ | refine' iadd_ok ?kC ?_ | refine' eq_ok ?kC ?_ | refine' eqQ_ok ?kC ?_ | refine' lt_ok ?kC ?_ | refine' ltQ_ok ?kC ?_); (case kC => ktr_unf); intros; (rename Keep [] _ _ => kz9); (have Nz9 := Keep.all kz9 (by assumption)); clear kz9; k_sweep; (try dsimp only)) | ((with_reducible show wpAny _ _ (call (Value.ref _) _ _) _ _ _); refine' getitem_first ?kC ?h1 ?h2 ?h3 ?_; (case kC => ktr_unf); (case h1 => assumption); (case h2 => assumption); (case h3 => assumption); intros; (rename Keep [] _ _ => kz9); (have Nz9 := Keep.all kz9 (by assumption)); clear kz9; k_sweep; (try dsimp only)) | ((with_reducible show wpAny _ _ (call (Value.ref _) _ _) _ _ _); refine' getitemL_ok ?kC ?_; (case kC => ktr_unf); intros; (rename Keep [] _ _ => kz9); (have Nz9 := news_tl (Keep.all kz9 (by assumption))); clear kz9; k_sweep; (try dsimp only)) | ((with_reducible show wpAny _ _ (call (Value.ref _) _ _) _ _ _); (first | refine' keys_ok ?kC ?_ | refine' values_ok ?kC ?_); (case kC => ktr_unf); intro lz9 hz9 tkz9 Fz9 kz9 N9z9 hfz9; (have Nz9 := news_add kz9 (by assumption) N9z9 hfz9); (have lz8 := news_off hfz9 (by assumption)); (try dsimp only [OffL] at lz8); (try simp only [List.cons_append, List.nil_append] at Nz9); clear N9z9 hfz9 kz9; (try k_sweep); (try dsimp only)) | ((with_reducible show wpAny _ _ (call (Value.ref _) _ _) _ _ _); refine' qname_ok ?kC ?_; (case kC => (refine' Cx.mk ?k1 ?k2 ?k3 ?k4 ?k5 ?k6 ?k7; (case k1 => k_asm); (case k2 => k_asm); (case k3 => k_asm); (case k4 => k_asm); (case k5 => k_asm); (case k6 => ktr_room); (case k7 => ktr_units))); intro qiz9 qdz9 hqz9 kqz9 nqz9 hz9 tkz9 Fz9 Nz9 lz8 lz9; (try k_lt lz8); (try k_sweep); (try dsimp only)) | ((with_reducible show wpAny _ _ (exec (Stmt.Assign [Expr.Name _ _] (Expr.ListComp _ _ _ _) _) _) _ _ _); refine' Assign_ListComp_C (by assumption) ?hLe ?hsw ?hclos ?hcells ?hpush ?hkind ?hnames ?hx ?hy ?hp ?_; (case hLe => rfl); (case hsw => with_unfolding_all rfl); (case hclos => with_unfolding_all rfl); (case hcells => (intro _; rfl)); (case hpush => (intro _; rfl)); (case hkind => rfl); (case hnames => decide); (case hx => rfl); (case hy => rfl); (case hp => rfl)) | ((with_reducible show wpAny _ _ (eval (Expr.ListComp _ _ _ _) _) _ _ _); refine LCg.ListComp_U (F₀ := by k_asm) (by with_unfolding_all rfl) (by decide) (by rfl) (by decide) (by rfl) ?_) | ((with_reducible show wpAny _ _ (callWith _ (Value.ref _) _ _ _) _ _ _); refine' callWith_K0 ?kk1 ?kk2 ?_; (case kk1 => exact Frag.In.keeps (by k_asm) (Fr.keep (by k_asm))); (case kk2 => k_is); k_whole) | ((with_reducible show wpAny _ _ (subscriptTail _ _ (Value.ref _) (Value.int _ _)) _ _ _); refine' item_row ?k1 ?k2 ?k3 ?k4 ?k5 ?_ ?k7 ?k8; (case k1 => k_asm); (case k2 => k_mem); (case k5 => first | (rename HC _ => hyz9; exact hyz9.out) | (rename _[_]? = some (Value.str _ _) => hyz9; exact hyz9) | (rename _[_]? = some (Value.int _ _) => hyz9; exact hyz9) | (rename _[_]? = some (Value.ref _) => hyz9; exact hyz9)); (case k3 => omega); (case k4 => omega); (case k7 => with_unfolding_all rfl); (case k8 => (intro _; with_unfolding_all rfl))) | (refine' SrcC.intro ?hh ?F ?N ?m ?z ?_; (case hh => rfl); (case F => k_asm); (case N => k_asm); (case m => k_mem); (case z => exact Nat.le_of_ble_eq_true rfl); intro gz9) | ((with_reducible show SIC _ _ _ _ _ _ _ _); (first | ((rename MkP3 _ => hMz9); refine' SIC.intro ?sf ?sn ?se; (case sf => k_asm); (case sn => (first | k_asm | (refine News.sub (by k_asm) ?_; lcg_sub))); (case se => first | exact bestB_t (by with_reducible assumption) | exact bestB_qt (by with_reducible assumption) (by with_reducible assumption) (by with_reducible assumption) | exact bestB_f2 (by with_reducible assumption) (by with_reducible assumption) | exact bestB_qf (by with_reducible assumption) (by with_reducible assumption) (by with_reducible assumption))) | (refine' SIC.intro ?sf ?sn ?se; (case sf => k_asm); (case sn => (first | k_asm | (refine News.sub (by k_asm) ?_; lcg_sub))); (case se => first | exact rfl | (unfold bestB; simp only [*, decide_true, decide_false, Bool.true_or, Bool.false_or, Bool.true_and, Bool.false_and, beq_self_eq_true]))))) | ((with_reducible show SIV _ _ _ _ _ _ _ _ _); refine' SIV.intro ?sf ?sn; (case sf => k_asm); (case sn => (first | k_asm | (refine News.sub (by k_asm) ?_; lcg_sub)))) | ((with_reducible show SBV _ _ _ _ _ _ _ _ _); refine' SBV.intro ?sf ?sn; (case sf => k_asm); (case sn => (first | k_asm | (refine News.sub (by k_asm) ?_; lcg_sub)))) | ((with_reducible show SIB1 _); (show ∀ _, _ → _); refine SIAt.ind ?_; intro hz9 tkz9 Fz9 Nz9; k_sweep; (try k_fold)) | ((with_reducible show SIB2 _); (show ∀ _ _, _ → _); intro tz9; refine SIAt.ind ?_; intro hz9 tkz9 Fz9 Nz9; k_sweep) | ((with_reducible show SBB2 _); (show ∀ _ _ _ _, _ → _); intro Dz9 tz9 uz9; refine SIAt.ind ?_; intro hz9 tkz9 Fz9 Nz9; k_sweep)); w_strict k_steps))
  unfold HaltF
  rename Fr _ _ _ _ => lF
  rename News _ _ _ _ => lN
  rename IsRange _ _ _ _ _ _ _ _ => lR
  refine named lN fun ls els => ?_
  subst els
  refine iter_rangeTurns (n := 81) (by rfl) lF lN lR (by decide) (by rfl) ?_
  clear lR
  rename (Obj.data _ = Data.cell (bindC _ _ _ (Str.ofString "table"))) => dT
  rename (Obj.data _ = Data.cell (bindC _ _ _ (Str.ofString "now"))) => dN
  intro I hI
  k_lt hI
  refine items_ind (xs := tokInts 0 0 81) (EaJ g ti td tl lw lm lk ?ls ?ca ?cb hh kt nd Rr) ?step ?fin 81 0 _ _ (tokInts_length 0 81 0).symm ?init
  case init =>
    refine ⟨g 0, i0, i1, i2, il, _, t0, t1, t2, u0, u1, u2, [], _, _, _, rfl, by decide, fun j hj => absurd hj (Nat.not_lt_zero j), ?_, by rw [hg]; exact .nil, rfl, dN, dT.trans (by with_unfolding_all rfl), by rw [hg]; rfl⟩
    rw [hg]
    exact ⟨by with_unfolding_all rfl, by with_unfolding_all rfl, by with_unfolding_all rfl, by with_unfolding_all rfl, ⟨_, by with_unfolding_all rfl⟩, ⟨_, by with_unfolding_all rfl⟩⟩
  case fin =>
    clear lF lN dT dN
    intro m' news' h' tk' hJ F' N'
    rw [tokInts_length] at hJ
    obtain ⟨e, p0, p1, p2, nl, e1, t0, t1, t2, u0, u1, u2, vs, oN, oT, xN, he, hn81, hlt, ⟨f1, f2, f3, f4, ⟨tk, f5⟩, ⟨tg, f6⟩⟩, hvs, hvl, z2, z4, rfl⟩ := hJ
    rw [eaLook_eq f1 f2 f3 f4 f5 f6] at F'
    refine opqN N' fun RB eB NB => ?_
    clear N'
    w_strict k_steps
    repeat (any_goals (unfold HaltF; (first | ((with_reducible show wpAny _ _ (call (Value.ref _) _ _) _ _ _); (first | refine' xor_nm_ok ?kC ?_ | refine' contains_ok ?kC ?_ | refine' countOf_ok ?kC ?_ | refine' sub_ok ?kC ?_ | refine' subB_ok ?kC ?_ | refine' iadd_ok ?kC ?_ | refine' eq_ok ?kC ?_ | refine' eqQ_ok ?kC ?_ | refine' lt_ok ?kC ?_ | refine' ltQ_ok ?kC ?_); (case kC => ktr_unf); intros; (rename Keep [] _ _ => kz9); (have Nz9 := Keep.all kz9 (by assumption)); clear kz9; k_sweep; (try dsimp only)) | ((with_reducible show wpAny _ _ (call (Value.ref _) _ _) _ _ _); refine' getitem_first ?kC ?h1 ?h2 ?h3 ?_; (case kC => ktr_unf); (case h1 => assumption); (case h2 => assumption); (case h3 => assumption); intros; (rename Keep [] _ _ => kz9); (have Nz9 := Keep.all kz9 (by assumption)); clear kz9; k_sweep; (try dsimp only)) | ((with_reducible show wpAny _ _ (call (Value.ref _) _ _) _ _ _); refine' getitemL_ok ?kC ?_; (case kC => ktr_unf); intros; (rename Keep [] _ _ => kz9); (have Nz9 := news_tl (Keep.all kz9 (by assumption))); clear kz9; k_sweep; (try dsimp only)) | ((with_reducible show wpAny _ _ (call (Value.ref _) _ _) _ _ _); (first | refine' keys_ok ?kC ?_ | refine' values_ok ?kC ?_); (case kC => ktr_unf); intro lz9 hz9 tkz9 Fz9 kz9 N9z9 hfz9; (have Nz9 := news_add kz9 (by assumption) N9z9 hfz9); (have lz8 := news_off hfz9 (by assumption)); (try dsimp only [OffL] at lz8); (try simp only [List.cons_append, List.nil_append] at Nz9); clear N9z9 hfz9 kz9; (try k_sweep); (try dsimp only)) | ((with_reducible show wpAny _ _ (call (Value.ref _) _ _) _ _ _); refine' qname_ok ?kC ?_; (case kC => (refine' Cx.mk ?k1 ?k2 ?k3 ?k4 ?k5 ?k6 ?k7; (case k1 => k_asm); (case k2 => k_asm); (case k3 => k_asm); (case k4 => k_asm); (case k5 => k_asm); (case k6 => ktr_room); (case k7 => ktr_units))); intro qiz9 qdz9 hqz9 kqz9 nqz9 hz9 tkz9 Fz9 Nz9 lz8 lz9; (try k_lt lz8); (try k_sweep); (try dsimp only)) | ((with_reducible show wpAny _ _ (exec (Stmt.Assign [Expr.Name _ _] (Expr.ListComp _ _ _ _) _) _) _ _ _); refine' Assign_ListComp_C (by assumption) ?hLe ?hsw ?hclos ?hcells ?hpush ?hkind ?hnames ?hx ?hy ?hp ?_; (case hLe => rfl); (case hsw => with_unfolding_all rfl); (case hclos => with_unfolding_all rfl); (case hcells => (intro _; rfl)); (case hpush => (intro _; rfl)); (case hkind => rfl); (case hnames => decide); (case hx => rfl); (case hy => rfl); (case hp => rfl)) | ((with_reducible show wpAny _ _ (eval (Expr.ListComp _ _ _ _) _) _ _ _); refine LCg.ListComp_U (F₀ := by k_asm) (by with_unfolding_all rfl) (by decide) (by rfl) (by decide) (by rfl) ?_) | ((with_reducible show wpAny _ _ (callWith _ (Value.ref _) _ _ _) _ _ _); refine' callWith_K0 ?kk1 ?kk2 ?_; (case kk1 => exact Frag.In.keeps (by k_asm) (Fr.keep (by k_asm))); (case kk2 => k_is); k_whole) | ((with_reducible show wpAny _ _ (subscriptTail _ _ (Value.ref _) (Value.int _ _)) _ _ _); refine' item_row ?k1 ?k2 ?k3 ?k4 ?k5 ?_ ?k7 ?k8; (case k1 => k_asm); (case k2 => k_mem); (case k5 => first | (rename HC _ => hyz9; exact hyz9.out) | (rename _[_]? = some (Value.str _ _) => hyz9; exact hyz9) | (rename _[_]? = some (Value.int _ _) => hyz9; exact hyz9) | (rename _[_]? = some (Value.ref _) => hyz9; exact hyz9)); (case k3 => omega); (case k4 => omega); (case k7 => with_unfolding_all rfl); (case k8 => (intro _; with_unfolding_all rfl))) | (refine' SrcC.intro ?hh ?F ?N ?m ?z ?_; (case hh => rfl); (case F => k_asm); (case N => k_asm); (case m => k_mem); (case z => exact Nat.le_of_ble_eq_true rfl); intro gz9) | ((with_reducible show SIC _ _ _ _ _ _ _ _); (first | ((rename MkP3 _ => hMz9); refine' SIC.intro ?sf ?sn ?se; (case sf => k_asm); (case sn => (first | k_asm | (refine News.sub (by k_asm) ?_; lcg_sub))); (case se => first | exact bestB_t (by with_reducible assumption) | exact bestB_qt (by with_reducible assumption) (by with_reducible assumption) (by with_reducible assumption) | exact bestB_f2 (by with_reducible assumption) (by with_reducible assumption) | exact bestB_qf (by with_reducible assumption) (by with_reducible assumption) (by with_reducible assumption))) | (refine' SIC.intro ?sf ?sn ?se; (case sf => k_asm); (case sn => (first | k_asm | (refine News.sub (by k_asm) ?_; lcg_sub))); (case se => first | exact rfl | (unfold bestB; simp only [*, decide_true, decide_false, Bool.true_or, Bool.false_or, Bool.true_and, Bool.false_and, beq_self_eq_true]))))) | ((with_reducible show SIV _ _ _ _ _ _ _ _ _); refine' SIV.intro ?sf ?sn; (case sf => k_asm); (case sn => (first | k_asm | (refine News.sub (by k_asm) ?_; lcg_sub)))) | ((with_reducible show SBV _ _ _ _ _ _ _ _ _); refine' SBV.intro ?sf ?sn; (case sf => k_asm); (case sn => (first | k_asm | (refine News.sub (by k_asm) ?_; lcg_sub)))) | ((with_reducible show SIB1 _); (show ∀ _, _ → _); refine SIAt.ind ?_; intro hz9 tkz9 Fz9 Nz9; k_sweep; (try k_fold)) | ((with_reducible show SIB2 _); (show ∀ _ _, _ → _); intro tz9; refine SIAt.ind ?_; intro hz9 tkz9 Fz9 Nz9; k_sweep) | ((with_reducible show SBB2 _); (show ∀ _ _ _ _, _ → _); intro Dz9 tz9 uz9; refine SIAt.ind ?_; intro hz9 tkz9 Fz9 Nz9; k_sweep)); w_strict k_steps))
    rename Fr h₀ L _ m => kF
    rename News h₀ L _ _ => kN
    rename Keep _ s.heap _ => hG
    subst eB
    refine ret 81 _ ls p0 p1 p2 nl e1 vs tg t0 t1 t2 u0 u1 u2 _ _ hn81 hlt (.inl rfl) (he ▸ hvs) kF ?_ ?_
    · exact Keep.backX (Keep.of hG (by assumption)) (by assumption) kN fun p hp => hir p hp _ (by lcg_sub) (by k_mem) (by k_mem)
    · rw [← he]; exact News.sub kN (by lcg_sub)
  case step =>
    clear lF lN dT dN
    intro n itm m' news' v h' tk' hit hJ hv F'
    obtain ⟨e, p0, p1, p2, nl, e1, t0, t1, t2, u0, u1, u2, vs, oN, oT, xN, he, hn81, hlt, ⟨f1, f2, f3, f4, ⟨tk, f5⟩, ⟨tg, f6⟩⟩, hvs, hvl, z2, z4, rfl⟩ := hJ
    have hnn : n < 81 := by
      have := (List.getElem?_eq_some_iff.mp hit).1
      rwa [tokInts_length] at this
    rw [tokInts_get 0 81 0 n hnn] at hit
    obtain rfl := Option.some.inj hit
    obtain ⟨tv, rfl⟩ := hv
    refine AllObj.cons fun oR hR => AllObj.nil fun N' => ?_
    simp only [List.cons_append, List.nil_append] at N'
    rw [eaLook_eq f1 f2 f3 f4 f5 f6] at F'
    have b1 := nm_fit n
    have b2 := nm_fit (n + 3)
    have b3 := nm_xor n
    have b4 := nm_low n (n + 3) (by omega)
    have b5 := nm_high (n + 1) (n + 3) (by omega)
    have b6 := nm_high (n + 2) (n + 3) (by omega)
    obtain ⟨q, ta, tb, tc, jj, mq, hqi⟩ := hrq n
    refine namedL F' fun L1 hL1 => ?_
    subst hL1
    rename (_ < ls ∧ _) => hls
    rename (ti < _ ∧ _) => hL
    refine opqT N' fun R e2 N8 mT mti mtd mp0 mp1 mp2 sRr => ?_
    clear N'
    replace mq := sRr _ mq
    have mlw' := sRr _ mlw
    have mlm' := sRr _ mlm
    have mlk' := sRr _ mlk
    have qtl : (tl, listOf #[.ref p0, .ref p1, .ref p2] nl) ∈ (L1 + 1 + 1, oN) :: (tl, listOf #[.ref p0, .ref p1, .ref p2] nl) :: (ls, listOf vs.toArray e1) :: (I, oR) :: R := .tail _ (.head _)
    have qls : (ls, listOf vs.toArray e1) ∈ (L1 + 1 + 1, oN) :: (tl, listOf #[.ref p0, .ref p1, .ref p2] nl) :: (ls, listOf vs.toArray e1) :: (I, oR) :: R := .tail _ (.tail _ (.head _))
    have qI : (I, oR) ∈ (L1 + 1 + 1, oN) :: (tl, listOf #[.ref p0, .ref p1, .ref p2] nl) :: (ls, listOf vs.toArray e1) :: (I, oR) :: R := .tail _ (.tail _ (.tail _ (.head _)))
    have sR : ∀ p ∈ R, p ∈ (L1 + 1 + 1, oN) :: (tl, listOf #[.ref p0, .ref p1, .ref p2] nl) :: (ls, listOf vs.toArray e1) :: (I, oR) :: R := fun p hp => .tail _ (.tail _ (.tail _ (.tail _ hp)))
    have P3 := tup_list_ne N8 (sR _ mp0) qls
    have P4 := tup_list_ne N8 (sR _ mp0) qtl
    have P5 := tup_iter_ne N8 (sR _ mp0) qI hR
    have P8 := tup_list_ne N8 (sR _ mp1) qls
    have P9 := tup_list_ne N8 (sR _ mp1) qtl
    have P10 := tup_iter_ne N8 (sR _ mp1) qI hR
    have P13 := tup_list_ne N8 (sR _ mp2) qls
    have P14 := tup_list_ne N8 (sR _ mp2) qtl
    have P15 := tup_iter_ne N8 (sR _ mp2) qI hR
    have hti := inst_list_ne N8 (sR _ mti) qtl
    have htd := dict_list_ne N8 (sR _ mtd) qtl
    have hI1 : I ≠ tl := Ne.symm (Nat.ne_of_lt hI.2.2.2.2.2.1)
    have hls1 : ls ≠ tl := Ne.symm (Nat.ne_of_lt hls.2.2.2.2.1)
    have hca1 : L1 + 1 + 1 ≠ tl := Ne.symm (Nat.ne_of_lt (Nat.lt_add_right 2 hL.2.2.1))
    have hcb1 : L1 + 1 ≠ tl := Ne.symm (Nat.ne_of_lt (Nat.lt_add_right 1 hL.2.2.1))
    have hls2 : L1 + 1 + 1 ≠ ls := Nat.ne_of_lt hls.1
    have oI : ∀ p ∈ R, p.1 ≠ I := e2 ▸ off_cons (Nat.ne_of_lt (hI.2.2.1)) (off_cons (Nat.ne_of_lt (hI.2.2.2.1)) (off_cons (Nat.ne_of_lt (hI.2.2.2.2.1)) (off_cons (P5) (off_cons (P10) (off_cons (P15) (lt_off (lt_tl (allL_at hI.2.2.2.2.2.2.2.2))))))))
    have ols : ∀ p ∈ R, p.1 ≠ ls := e2 ▸ off_cons (Nat.ne_of_lt (hls.2.1)) (off_cons (Nat.ne_of_lt (hls.2.2.1)) (off_cons (Nat.ne_of_lt (hls.2.2.2.1)) (off_cons (P3) (off_cons (P8) (off_cons (P13) (lt_off (lt_tl (allL_at hls.2.2.2.2.2.2.2))))))))
    have otl : ∀ p ∈ R, p.1 ≠ tl := e2 ▸ off_cons (hcb1) (off_cons (hti) (off_cons (htd) (off_cons (P4) (off_cons (P9) (off_cons (P14) (otR))))))
    have ocb : ∀ p ∈ R, p.1 ≠ L1 + 1 + 1 := by
      rw [e2]
      refine off_cons (Ne.symm (Nat.succ_ne_self (L1 + 1))) ?_
      refine off_cell N8 z2 _ ?_ (by simp only [List.all_cons, oCR]; rfl)
      rw [e2]
      exact sub_tail (sub_tail (sub_tail (sub_tail sub_self)))
    have hIn : ls ≠ I := Nat.ne_of_lt (hI.1)
    have hIc : L1 + 1 + 1 ≠ I := Nat.ne_of_lt (hI.2.1)
    clear P3 P4 P5 P8 P9 P10 P13 P14 P15 hI hls hL hti htd hcb1 qtl qls qI sR e2 mlw mlm mlk hrq
    (try dsimp only)
    (try k_unmd)
    k_fold
    iterate 60 (try (rename _ => zStash; revert zStash))
    iterate 60 (try (rename _ => zStash; revert zStash))
    iterate 60 (try (rename _ => zStash; revert zStash))
    iterate 60 (try (rename _ => zStash; revert zStash))
    iterate 60 (try (rename _ => zStash; revert zStash))
    iterate 60 (try (rename _ => zStash; revert zStash))
    iterate 60 (try (rename _ => zStash; revert zStash))
    iterate 60 (try (rename _ => zStash; revert zStash))
    iterate 60 (try (rename _ => zStash; revert zStash))
    iterate 60 (try (rename _ => zStash; revert zStash))
    iterate 60 (try (rename _ => zStash; revert zStash))
    iterate 60 (try (rename _ => zStash; revert zStash))
    intro hStash; first | exact @Stash.out _ hStash | (apply Stash.out; exact hStash)
noncomputable def each_s2 : (P : Prop) ×' (Stash P → each_s1.1) := by
  apply PSigma.mk
  case snd =>
    intro hStash
    intro w mean mg mb dp un gd cn nms ig ic mo a ccd cl outer A₀ base h₀ L m s Q E ti td tl i0 i1 i2 lw q0 q1 q2 lm lk hh kt nd il nw j0 j1 j2 nq nk w0 w1 w2 t0 t1 t2 u0 u1 u2 y00 y01 y02 y10 y11 y12 y20 y21 y22 t00 t01 t02 t10 t11 t12 t20 t21 t22 x0 x1 x2 v0 v1 v2 c0 c1 c2 c3 c4 c5 c6 c7 c8 s0 s1 s2 s3 s4 s5 s6 s7 s8 g ret _ _ _ _ _ _ _ _ _ _ _ _ _ _ _ _ _ qk1 Rr otR oCR rwf hok hrwf ms hms cs hg hcs vK hcr hir _ _ _ _ _ _ _ _ _ _ ls I n m' h' tk' e p0 p1 p2 nl e1 t0 t1 t2 u0 u1 u2 vs oN oT xN he hn81 hlt hvs hvl z2 z4 f1 f2 f3 f4 tk f5 tg f6 hnn hit tv oR hR b1 b2 b3 b4 b5 b6 q ta tb tc jj hqi L1 A1 env1 ek1 hdA huA _ _ _ F' R N8 mT mti mtd mp0 mp1 mp2 sRr mq mlw' mlm' mlk' hI1 hls1 hca1 hls2 oI ols otl ocb hIn hIc qk ek
    have hfill : (PySem.Challenge.rw_xl0032_01 = PySem.Challenge.rw_xl0032_01 ∧ Mine.hd.heap_1 = Mine.hd.heap_1) := by (k_fill; exact ⟨rfl, rfl⟩)
    clear hfill
    w_strict k_steps
    repeat (any_goals (unfold HaltF; (first | ((with_reducible show wpAny _ _ (call (Value.ref _) _ _) _ _ _); (first | refine' xor_nm_ok ?kC ?_ | refine' contains_ok ?kC ?_ | refine' countOf_ok ?kC ?_ | refine' sub_ok ?kC ?_ | refine' subB_ok ?kC ?_ | refine' iadd_ok ?kC ?_ | refine' eq_ok ?kC ?_ | refine' eqQ_ok ?kC ?_ | refine' lt_ok ?kC ?_ | refine' ltQ_ok ?kC ?_); (case kC => ktr_unf); intros; (rename Keep [] _ _ => kz9); (have Nz9 := Keep.all kz9 (by assumption)); clear kz9; k_sweep; (try dsimp only)) | ((with_reducible show wpAny _ _ (call (Value.ref _) _ _) _ _ _); refine' getitem_first ?kC ?h1 ?h2 ?h3 ?_; (case kC => ktr_unf); (case h1 => assumption); (case h2 => assumption); (case h3 => assumption); intros; (rename Keep [] _ _ => kz9); (have Nz9 := Keep.all kz9 (by assumption)); clear kz9; k_sweep; (try dsimp only)) | ((with_reducible show wpAny _ _ (call (Value.ref _) _ _) _ _ _); refine' getitemL_ok ?kC ?_; (case kC => ktr_unf); intros; (rename Keep [] _ _ => kz9); (have Nz9 := news_tl (Keep.all kz9 (by assumption))); clear kz9; k_sweep; (try dsimp only)) | ((with_reducible show wpAny _ _ (call (Value.ref _) _ _) _ _ _); (first | refine' keys_ok ?kC ?_ | refine' values_ok ?kC ?_); (case kC => ktr_unf); intro lz9 hz9 tkz9 Fz9 kz9 N9z9 hfz9; (have Nz9 := news_add kz9 (by assumption) N9z9 hfz9); (have lz8 := news_off hfz9 (by assumption)); (try dsimp only [OffL] at lz8); (try simp only [List.cons_append, List.nil_append] at Nz9); clear N9z9 hfz9 kz9; (try k_sweep); (try dsimp only)) | ((with_reducible show wpAny _ _ (call (Value.ref _) _ _) _ _ _); refine' qname_ok ?kC ?_; (case kC => (refine' Cx.mk ?k1 ?k2 ?k3 ?k4 ?k5 ?k6 ?k7; (case k1 => k_asm); (case k2 => k_asm); (case k3 => k_asm); (case k4 => k_asm); (case k5 => k_asm); (case k6 => ktr_room); (case k7 => ktr_units))); intro qiz9 qdz9 hqz9 kqz9 nqz9 hz9 tkz9 Fz9 Nz9 lz8 lz9; (try k_lt lz8); (try k_sweep); (try dsimp only)) | ((with_reducible show wpAny _ _ (exec (Stmt.Assign [Expr.Name _ _] (Expr.ListComp _ _ _ _) _) _) _ _ _); refine' Assign_ListComp_C (by assumption) ?hLe ?hsw ?hclos ?hcells ?hpush ?hkind ?hnames ?hx ?hy ?hp ?_; (case hLe => rfl); (case hsw => with_unfolding_all rfl); (case hclos => with_unfolding_all rfl); (case hcells => (intro _; rfl)); (case hpush => (intro _; rfl)); (case hkind => rfl); (case hnames => decide); (case hx => rfl); (case hy => rfl); (case hp => rfl)) | ((with_reducible show wpAny _ _ (eval (Expr.ListComp _ _ _ _) _) _ _ _); refine LCg.ListComp_U (F₀ := by k_asm) (by with_unfolding_all rfl) (by decide) (by rfl) (by decide) (by rfl) ?_) | ((with_reducible show wpAny _ _ (callWith _ (Value.ref _) _ _ _) _ _ _); refine' callWith_K0 ?kk1 ?kk2 ?_; (case kk1 => exact Frag.In.keeps (by k_asm) (Fr.keep (by k_asm))); (case kk2 => k_is); k_whole) | ((with_reducible show wpAny _ _ (subscriptTail _ _ (Value.ref _) (Value.int _ _)) _ _ _); refine' item_row ?k1 ?k2 ?k3 ?k4 ?k5 ?_ ?k7 ?k8; (case k1 => k_asm); (case k2 => k_mem); (case k5 => first | (rename HC _ => hyz9; exact hyz9.out) | (rename _[_]? = some (Value.str _ _) => hyz9; exact hyz9) | (rename _[_]? = some (Value.int _ _) => hyz9; exact hyz9) | (rename _[_]? = some (Value.ref _) => hyz9; exact hyz9)); (case k3 => omega); (case k4 => omega); (case k7 => with_unfolding_all rfl); (case k8 => (intro _; with_unfolding_all rfl))) | (refine' SrcC.intro ?hh ?F ?N ?m ?z ?_; (case hh => rfl); (case F => k_asm); (case N => k_asm); (case m => k_mem); (case z => exact Nat.le_of_ble_eq_true rfl); intro gz9) | ((with_reducible show SIC _ _ _ _ _ _ _ _); (first | ((rename MkP3 _ => hMz9); refine' SIC.intro ?sf ?sn ?se; (case sf => k_asm); (case sn => (first | k_asm | (refine News.sub (by k_asm) ?_; lcg_sub))); (case se => first | exact bestB_t (by with_reducible assumption) | exact bestB_qt (by with_reducible assumption) (by with_reducible assumption) (by with_reducible assumption) | exact bestB_f2 (by with_reducible assumption) (by with_reducible assumption) | exact bestB_qf (by with_reducible assumption) (by with_reducible assumption) (by with_reducible assumption))) | (refine' SIC.intro ?sf ?sn ?se; (case sf => k_asm); (case sn => (first | k_asm | (refine News.sub (by k_asm) ?_; lcg_sub))); (case se => first | exact rfl | (unfold bestB; simp only [*, decide_true, decide_false, Bool.true_or, Bool.false_or, Bool.true_and, Bool.false_and, beq_self_eq_true]))))) | ((with_reducible show SIV _ _ _ _ _ _ _ _ _); refine' SIV.intro ?sf ?sn; (case sf => k_asm); (case sn => (first | k_asm | (refine News.sub (by k_asm) ?_; lcg_sub)))) | ((with_reducible show SBV _ _ _ _ _ _ _ _ _); refine' SBV.intro ?sf ?sn; (case sf => k_asm); (case sn => (first | k_asm | (refine News.sub (by k_asm) ?_; lcg_sub)))) | ((with_reducible show SIB1 _); (show ∀ _, _ → _); refine SIAt.ind ?_; intro hz9 tkz9 Fz9 Nz9; k_sweep; (try k_fold)) | ((with_reducible show SIB2 _); (show ∀ _ _, _ → _); intro tz9; refine SIAt.ind ?_; intro hz9 tkz9 Fz9 Nz9; k_sweep) | ((with_reducible show SBB2 _); (show ∀ _ _ _ _, _ → _); intro Dz9 tz9 uz9; refine SIAt.ind ?_; intro hz9 tkz9 Fz9 Nz9; k_sweep)); w_strict k_steps))
    · rename Fr h₀ L _ m => kF
      rename News h₀ L _ _ => kN
      rename Keep _ s.heap _ => hG
      rename ((e.kept : Int) = 3) => hk3
      refine ret n _ ls p0 p1 p2 nl e1 vs tg t0 t1 t2 u0 u1 u2 _ _ hn81 hlt (.inr (by rw [← he]; omega)) (he ▸ hvs) kF ?_ ?_
      · exact Keep.backX (Keep.of hG (by assumption)) (by assumption) kN fun p hp => hir p hp _ (by lcg_sub) (by k_mem) (by k_mem)
      · rw [← he]; exact News.sub kN (by lcg_sub)
    unfold HaltF
    refine RestC_ind (fun v => ∃ x t, v = .str x t) (fun v y => ∃ x t u, v = .str x t ∧ y = .int ((if hasT e.w0 x = true then 1 else 0) + (if hasT e.w1 x = true then 1 else 0) + (if hasT e.w2 x = true then 1 else 0) - (if hasT e.w0 x = true then 1 else 0)) u) ?_ _ [] [] str3_mem ?_ .nil
    · rintro v C oC Ce oE R9 h tk Q9 E9 ⟨x, t, rfl⟩ hE F9 N9 mC9 mE9 hs9 ret9
      have nC9 := hs9 _ (.head _)
      have ntl9 := hs9 _ (.tail _ (.head _))
      have hsR : ∀ p ∈ R, p ∈ R9 := fun p hp => hs9 p (.tail _ (.tail _ (.tail _ (.tail _ hp))))
      have nT9 := hsR _ mT
      have nti9 := hsR _ mti
      have ntd9 := hsR _ mtd
      have np09 := hsR _ mp0
      have np19 := hsR _ mp1
      have np29 := hsR _ mp2
      clear hs9 hsR
      k_sweep
      w_strict k_steps
      repeat (any_goals (unfold HaltF; (first | ((with_reducible show wpAny _ _ (call (Value.ref _) _ _) _ _ _); (first | refine' xor_nm_ok ?kC ?_ | refine' contains_ok ?kC ?_ | refine' countOf_ok ?kC ?_ | refine' sub_ok ?kC ?_ | refine' subB_ok ?kC ?_ | refine' iadd_ok ?kC ?_ | refine' eq_ok ?kC ?_ | refine' eqQ_ok ?kC ?_ | refine' lt_ok ?kC ?_ | refine' ltQ_ok ?kC ?_); (case kC => ktr_unf); intros; (rename Keep [] _ _ => kz9); (have Nz9 := Keep.all kz9 (by assumption)); clear kz9; k_sweep; (try dsimp only)) | ((with_reducible show wpAny _ _ (call (Value.ref _) _ _) _ _ _); refine' getitem_first ?kC ?h1 ?h2 ?h3 ?_; (case kC => ktr_unf); (case h1 => assumption); (case h2 => assumption); (case h3 => assumption); intros; (rename Keep [] _ _ => kz9); (have Nz9 := Keep.all kz9 (by assumption)); clear kz9; k_sweep; (try dsimp only)) | ((with_reducible show wpAny _ _ (call (Value.ref _) _ _) _ _ _); refine' getitemL_ok ?kC ?_; (case kC => ktr_unf); intros; (rename Keep [] _ _ => kz9); (have Nz9 := news_tl (Keep.all kz9 (by assumption))); clear kz9; k_sweep; (try dsimp only)) | ((with_reducible show wpAny _ _ (call (Value.ref _) _ _) _ _ _); (first | refine' keys_ok ?kC ?_ | refine' values_ok ?kC ?_); (case kC => ktr_unf); intro lz9 hz9 tkz9 Fz9 kz9 N9z9 hfz9; (have Nz9 := news_add kz9 (by assumption) N9z9 hfz9); (have lz8 := news_off hfz9 (by assumption)); (try dsimp only [OffL] at lz8); (try simp only [List.cons_append, List.nil_append] at Nz9); clear N9z9 hfz9 kz9; (try k_sweep); (try dsimp only)) | ((with_reducible show wpAny _ _ (call (Value.ref _) _ _) _ _ _); refine' qname_ok ?kC ?_; (case kC => (refine' Cx.mk ?k1 ?k2 ?k3 ?k4 ?k5 ?k6 ?k7; (case k1 => k_asm); (case k2 => k_asm); (case k3 => k_asm); (case k4 => k_asm); (case k5 => k_asm); (case k6 => ktr_room); (case k7 => ktr_units))); intro qiz9 qdz9 hqz9 kqz9 nqz9 hz9 tkz9 Fz9 Nz9 lz8 lz9; (try k_lt lz8); (try k_sweep); (try dsimp only)) | ((with_reducible show wpAny _ _ (exec (Stmt.Assign [Expr.Name _ _] (Expr.ListComp _ _ _ _) _) _) _ _ _); refine' Assign_ListComp_C (by assumption) ?hLe ?hsw ?hclos ?hcells ?hpush ?hkind ?hnames ?hx ?hy ?hp ?_; (case hLe => rfl); (case hsw => with_unfolding_all rfl); (case hclos => with_unfolding_all rfl); (case hcells => (intro _; rfl)); (case hpush => (intro _; rfl)); (case hkind => rfl); (case hnames => decide); (case hx => rfl); (case hy => rfl); (case hp => rfl)) | ((with_reducible show wpAny _ _ (eval (Expr.ListComp _ _ _ _) _) _ _ _); refine LCg.ListComp_U (F₀ := by k_asm) (by with_unfolding_all rfl) (by decide) (by rfl) (by decide) (by rfl) ?_) | ((with_reducible show wpAny _ _ (callWith _ (Value.ref _) _ _ _) _ _ _); refine' callWith_K0 ?kk1 ?kk2 ?_; (case kk1 => exact Frag.In.keeps (by k_asm) (Fr.keep (by k_asm))); (case kk2 => k_is); k_whole) | ((with_reducible show wpAny _ _ (subscriptTail _ _ (Value.ref _) (Value.int _ _)) _ _ _); refine' item_row ?k1 ?k2 ?k3 ?k4 ?k5 ?_ ?k7 ?k8; (case k1 => k_asm); (case k2 => k_mem); (case k5 => first | (rename HC _ => hyz9; exact hyz9.out) | (rename _[_]? = some (Value.str _ _) => hyz9; exact hyz9) | (rename _[_]? = some (Value.int _ _) => hyz9; exact hyz9) | (rename _[_]? = some (Value.ref _) => hyz9; exact hyz9)); (case k3 => omega); (case k4 => omega); (case k7 => with_unfolding_all rfl); (case k8 => (intro _; with_unfolding_all rfl))) | (refine' SrcC.intro ?hh ?F ?N ?m ?z ?_; (case hh => rfl); (case F => k_asm); (case N => k_asm); (case m => k_mem); (case z => exact Nat.le_of_ble_eq_true rfl); intro gz9) | ((with_reducible show SIC _ _ _ _ _ _ _ _); (first | ((rename MkP3 _ => hMz9); refine' SIC.intro ?sf ?sn ?se; (case sf => k_asm); (case sn => (first | k_asm | (refine News.sub (by k_asm) ?_; lcg_sub))); (case se => first | exact bestB_t (by with_reducible assumption) | exact bestB_qt (by with_reducible assumption) (by with_reducible assumption) (by with_reducible assumption) | exact bestB_f2 (by with_reducible assumption) (by with_reducible assumption) | exact bestB_qf (by with_reducible assumption) (by with_reducible assumption) (by with_reducible assumption))) | (refine' SIC.intro ?sf ?sn ?se; (case sf => k_asm); (case sn => (first | k_asm | (refine News.sub (by k_asm) ?_; lcg_sub))); (case se => first | exact rfl | (unfold bestB; simp only [*, decide_true, decide_false, Bool.true_or, Bool.false_or, Bool.true_and, Bool.false_and, beq_self_eq_true]))))) | ((with_reducible show SIV _ _ _ _ _ _ _ _ _); refine' SIV.intro ?sf ?sn; (case sf => k_asm); (case sn => (first | k_asm | (refine News.sub (by k_asm) ?_; lcg_sub)))) | ((with_reducible show SBV _ _ _ _ _ _ _ _ _); refine' SBV.intro ?sf ?sn; (case sf => k_asm); (case sn => (first | k_asm | (refine News.sub (by k_asm) ?_; lcg_sub)))) | ((with_reducible show SIB1 _); (show ∀ _, _ → _); refine SIAt.ind ?_; intro hz9 tkz9 Fz9 Nz9; k_sweep; (try k_fold)) | ((with_reducible show SIB2 _); (show ∀ _ _, _ → _); intro tz9; refine SIAt.ind ?_; intro hz9 tkz9 Fz9 Nz9; k_sweep) | ((with_reducible show SBB2 _); (show ∀ _ _ _ _, _ → _); intro Dz9 tz9 uz9; refine SIAt.ind ?_; intro hz9 tkz9 Fz9 Nz9; k_sweep)); w_strict k_steps))
      unfold HaltF
      refine CompSrc_items (fun v y => ∃ x2 t2, v = .str x2 t2 ∧ y = .bool (hasT x2 x)) (by rfl) (by k_asm) (by k_asm) (by k_mem) (Nat.le_of_ble_eq_true rfl) ?_ ?_
      · intro v C2 oC2 m₂ R8 h8 tk8 Q8 E8 hv hC8 hx8 F8 N8 mC8 hs8 ret8
        obtain ⟨x2, t2⟩ := str3_is hv
        have nE8 := hs8 _ (.tail _ mE9)
        k_sweep
        w_strict k_steps
        repeat (any_goals (unfold HaltF; (first | ((with_reducible show wpAny _ _ (call (Value.ref _) _ _) _ _ _); (first | refine' xor_nm_ok ?kC ?_ | refine' contains_ok ?kC ?_ | refine' countOf_ok ?kC ?_ | refine' sub_ok ?kC ?_ | refine' subB_ok ?kC ?_ | refine' iadd_ok ?kC ?_ | refine' eq_ok ?kC ?_ | refine' eqQ_ok ?kC ?_ | refine' lt_ok ?kC ?_ | refine' ltQ_ok ?kC ?_); (case kC => ktr_unf); intros; (rename Keep [] _ _ => kz9); (have Nz9 := Keep.all kz9 (by assumption)); clear kz9; k_sweep; (try dsimp only)) | ((with_reducible show wpAny _ _ (call (Value.ref _) _ _) _ _ _); refine' getitem_first ?kC ?h1 ?h2 ?h3 ?_; (case kC => ktr_unf); (case h1 => assumption); (case h2 => assumption); (case h3 => assumption); intros; (rename Keep [] _ _ => kz9); (have Nz9 := Keep.all kz9 (by assumption)); clear kz9; k_sweep; (try dsimp only)) | ((with_reducible show wpAny _ _ (call (Value.ref _) _ _) _ _ _); refine' getitemL_ok ?kC ?_; (case kC => ktr_unf); intros; (rename Keep [] _ _ => kz9); (have Nz9 := news_tl (Keep.all kz9 (by assumption))); clear kz9; k_sweep; (try dsimp only)) | ((with_reducible show wpAny _ _ (call (Value.ref _) _ _) _ _ _); (first | refine' keys_ok ?kC ?_ | refine' values_ok ?kC ?_); (case kC => ktr_unf); intro lz9 hz9 tkz9 Fz9 kz9 N9z9 hfz9; (have Nz9 := news_add kz9 (by assumption) N9z9 hfz9); (have lz8 := news_off hfz9 (by assumption)); (try dsimp only [OffL] at lz8); (try simp only [List.cons_append, List.nil_append] at Nz9); clear N9z9 hfz9 kz9; (try k_sweep); (try dsimp only)) | ((with_reducible show wpAny _ _ (call (Value.ref _) _ _) _ _ _); refine' qname_ok ?kC ?_; (case kC => (refine' Cx.mk ?k1 ?k2 ?k3 ?k4 ?k5 ?k6 ?k7; (case k1 => k_asm); (case k2 => k_asm); (case k3 => k_asm); (case k4 => k_asm); (case k5 => k_asm); (case k6 => ktr_room); (case k7 => ktr_units))); intro qiz9 qdz9 hqz9 kqz9 nqz9 hz9 tkz9 Fz9 Nz9 lz8 lz9; (try k_lt lz8); (try k_sweep); (try dsimp only)) | ((with_reducible show wpAny _ _ (exec (Stmt.Assign [Expr.Name _ _] (Expr.ListComp _ _ _ _) _) _) _ _ _); refine' Assign_ListComp_C (by assumption) ?hLe ?hsw ?hclos ?hcells ?hpush ?hkind ?hnames ?hx ?hy ?hp ?_; (case hLe => rfl); (case hsw => with_unfolding_all rfl); (case hclos => with_unfolding_all rfl); (case hcells => (intro _; rfl)); (case hpush => (intro _; rfl)); (case hkind => rfl); (case hnames => decide); (case hx => rfl); (case hy => rfl); (case hp => rfl)) | ((with_reducible show wpAny _ _ (eval (Expr.ListComp _ _ _ _) _) _ _ _); refine LCg.ListComp_U (F₀ := by k_asm) (by with_unfolding_all rfl) (by decide) (by rfl) (by decide) (by rfl) ?_) | ((with_reducible show wpAny _ _ (callWith _ (Value.ref _) _ _ _) _ _ _); refine' callWith_K0 ?kk1 ?kk2 ?_; (case kk1 => exact Frag.In.keeps (by k_asm) (Fr.keep (by k_asm))); (case kk2 => k_is); k_whole) | ((with_reducible show wpAny _ _ (subscriptTail _ _ (Value.ref _) (Value.int _ _)) _ _ _); refine' item_row ?k1 ?k2 ?k3 ?k4 ?k5 ?_ ?k7 ?k8; (case k1 => k_asm); (case k2 => k_mem); (case k5 => first | (rename HC _ => hyz9; exact hyz9.out) | (rename _[_]? = some (Value.str _ _) => hyz9; exact hyz9) | (rename _[_]? = some (Value.int _ _) => hyz9; exact hyz9) | (rename _[_]? = some (Value.ref _) => hyz9; exact hyz9)); (case k3 => omega); (case k4 => omega); (case k7 => with_unfolding_all rfl); (case k8 => (intro _; with_unfolding_all rfl))) | (refine' SrcC.intro ?hh ?F ?N ?m ?z ?_; (case hh => rfl); (case F => k_asm); (case N => k_asm); (case m => k_mem); (case z => exact Nat.le_of_ble_eq_true rfl); intro gz9) | ((with_reducible show SIC _ _ _ _ _ _ _ _); (first | ((rename MkP3 _ => hMz9); refine' SIC.intro ?sf ?sn ?se; (case sf => k_asm); (case sn => (first | k_asm | (refine News.sub (by k_asm) ?_; lcg_sub))); (case se => first | exact bestB_t (by with_reducible assumption) | exact bestB_qt (by with_reducible assumption) (by with_reducible assumption) (by with_reducible assumption) | exact bestB_f2 (by with_reducible assumption) (by with_reducible assumption) | exact bestB_qf (by with_reducible assumption) (by with_reducible assumption) (by with_reducible assumption))) | (refine' SIC.intro ?sf ?sn ?se; (case sf => k_asm); (case sn => (first | k_asm | (refine News.sub (by k_asm) ?_; lcg_sub))); (case se => first | exact rfl | (unfold bestB; simp only [*, decide_true, decide_false, Bool.true_or, Bool.false_or, Bool.true_and, Bool.false_and, beq_self_eq_true]))))) | ((with_reducible show SIV _ _ _ _ _ _ _ _ _); refine' SIV.intro ?sf ?sn; (case sf => k_asm); (case sn => (first | k_asm | (refine News.sub (by k_asm) ?_; lcg_sub)))) | ((with_reducible show SBV _ _ _ _ _ _ _ _ _); refine' SBV.intro ?sf ?sn; (case sf => k_asm); (case sn => (first | k_asm | (refine News.sub (by k_asm) ?_; lcg_sub)))) | ((with_reducible show SIB1 _); (show ∀ _, _ → _); refine SIAt.ind ?_; intro hz9 tkz9 Fz9 Nz9; k_sweep; (try k_fold)) | ((with_reducible show SIB2 _); (show ∀ _ _, _ → _); intro tz9; refine SIAt.ind ?_; intro hz9 tkz9 Fz9 Nz9; k_sweep) | ((with_reducible show SBB2 _); (show ∀ _ _ _ _, _ → _); intro Dz9 tz9 uz9; refine SIAt.ind ?_; intro hz9 tkz9 Fz9 Nz9; k_sweep)); w_strict k_steps))
        exact ret8 _ _ _ ⟨x2, t2, rfl, rfl⟩ (by assumption) (by assumption)
      · intro g8 ys hz
        cases zip_str_bool hz
        intro D8 h8 tk8 F8 N8 off8
        clear off8
        k_sweep
        w_strict k_steps
        repeat (any_goals (unfold HaltF; (first | ((with_reducible show wpAny _ _ (call (Value.ref _) _ _) _ _ _); (first | refine' xor_nm_ok ?kC ?_ | refine' contains_ok ?kC ?_ | refine' countOf_ok ?kC ?_ | refine' sub_ok ?kC ?_ | refine' subB_ok ?kC ?_ | refine' iadd_ok ?kC ?_ | refine' eq_ok ?kC ?_ | refine' eqQ_ok ?kC ?_ | refine' lt_ok ?kC ?_ | refine' ltQ_ok ?kC ?_); (case kC => ktr_unf); intros; (rename Keep [] _ _ => kz9); (have Nz9 := Keep.all kz9 (by assumption)); clear kz9; k_sweep; (try dsimp only)) | ((with_reducible show wpAny _ _ (call (Value.ref _) _ _) _ _ _); refine' getitem_first ?kC ?h1 ?h2 ?h3 ?_; (case kC => ktr_unf); (case h1 => assumption); (case h2 => assumption); (case h3 => assumption); intros; (rename Keep [] _ _ => kz9); (have Nz9 := Keep.all kz9 (by assumption)); clear kz9; k_sweep; (try dsimp only)) | ((with_reducible show wpAny _ _ (call (Value.ref _) _ _) _ _ _); refine' getitemL_ok ?kC ?_; (case kC => ktr_unf); intros; (rename Keep [] _ _ => kz9); (have Nz9 := news_tl (Keep.all kz9 (by assumption))); clear kz9; k_sweep; (try dsimp only)) | ((with_reducible show wpAny _ _ (call (Value.ref _) _ _) _ _ _); (first | refine' keys_ok ?kC ?_ | refine' values_ok ?kC ?_); (case kC => ktr_unf); intro lz9 hz9 tkz9 Fz9 kz9 N9z9 hfz9; (have Nz9 := news_add kz9 (by assumption) N9z9 hfz9); (have lz8 := news_off hfz9 (by assumption)); (try dsimp only [OffL] at lz8); (try simp only [List.cons_append, List.nil_append] at Nz9); clear N9z9 hfz9 kz9; (try k_sweep); (try dsimp only)) | ((with_reducible show wpAny _ _ (call (Value.ref _) _ _) _ _ _); refine' qname_ok ?kC ?_; (case kC => (refine' Cx.mk ?k1 ?k2 ?k3 ?k4 ?k5 ?k6 ?k7; (case k1 => k_asm); (case k2 => k_asm); (case k3 => k_asm); (case k4 => k_asm); (case k5 => k_asm); (case k6 => ktr_room); (case k7 => ktr_units))); intro qiz9 qdz9 hqz9 kqz9 nqz9 hz9 tkz9 Fz9 Nz9 lz8 lz9; (try k_lt lz8); (try k_sweep); (try dsimp only)) | ((with_reducible show wpAny _ _ (exec (Stmt.Assign [Expr.Name _ _] (Expr.ListComp _ _ _ _) _) _) _ _ _); refine' Assign_ListComp_C (by assumption) ?hLe ?hsw ?hclos ?hcells ?hpush ?hkind ?hnames ?hx ?hy ?hp ?_; (case hLe => rfl); (case hsw => with_unfolding_all rfl); (case hclos => with_unfolding_all rfl); (case hcells => (intro _; rfl)); (case hpush => (intro _; rfl)); (case hkind => rfl); (case hnames => decide); (case hx => rfl); (case hy => rfl); (case hp => rfl)) | ((with_reducible show wpAny _ _ (eval (Expr.ListComp _ _ _ _) _) _ _ _); refine LCg.ListComp_U (F₀ := by k_asm) (by with_unfolding_all rfl) (by decide) (by rfl) (by decide) (by rfl) ?_) | ((with_reducible show wpAny _ _ (callWith _ (Value.ref _) _ _ _) _ _ _); refine' callWith_K0 ?kk1 ?kk2 ?_; (case kk1 => exact Frag.In.keeps (by k_asm) (Fr.keep (by k_asm))); (case kk2 => k_is); k_whole) | ((with_reducible show wpAny _ _ (subscriptTail _ _ (Value.ref _) (Value.int _ _)) _ _ _); refine' item_row ?k1 ?k2 ?k3 ?k4 ?k5 ?_ ?k7 ?k8; (case k1 => k_asm); (case k2 => k_mem); (case k5 => first | (rename HC _ => hyz9; exact hyz9.out) | (rename _[_]? = some (Value.str _ _) => hyz9; exact hyz9) | (rename _[_]? = some (Value.int _ _) => hyz9; exact hyz9) | (rename _[_]? = some (Value.ref _) => hyz9; exact hyz9)); (case k3 => omega); (case k4 => omega); (case k7 => with_unfolding_all rfl); (case k8 => (intro _; with_unfolding_all rfl))) | (refine' SrcC.intro ?hh ?F ?N ?m ?z ?_; (case hh => rfl); (case F => k_asm); (case N => k_asm); (case m => k_mem); (case z => exact Nat.le_of_ble_eq_true rfl); intro gz9) | ((with_reducible show SIC _ _ _ _ _ _ _ _); (first | ((rename MkP3 _ => hMz9); refine' SIC.intro ?sf ?sn ?se; (case sf => k_asm); (case sn => (first | k_asm | (refine News.sub (by k_asm) ?_; lcg_sub))); (case se => first | exact bestB_t (by with_reducible assumption) | exact bestB_qt (by with_reducible assumption) (by with_reducible assumption) (by with_reducible assumption) | exact bestB_f2 (by with_reducible assumption) (by with_reducible assumption) | exact bestB_qf (by with_reducible assumption) (by with_reducible assumption) (by with_reducible assumption))) | (refine' SIC.intro ?sf ?sn ?se; (case sf => k_asm); (case sn => (first | k_asm | (refine News.sub (by k_asm) ?_; lcg_sub))); (case se => first | exact rfl | (unfold bestB; simp only [*, decide_true, decide_false, Bool.true_or, Bool.false_or, Bool.true_and, Bool.false_and, beq_self_eq_true]))))) | ((with_reducible show SIV _ _ _ _ _ _ _ _ _); refine' SIV.intro ?sf ?sn; (case sf => k_asm); (case sn => (first | k_asm | (refine News.sub (by k_asm) ?_; lcg_sub)))) | ((with_reducible show SBV _ _ _ _ _ _ _ _ _); refine' SBV.intro ?sf ?sn; (case sf => k_asm); (case sn => (first | k_asm | (refine News.sub (by k_asm) ?_; lcg_sub)))) | ((with_reducible show SIB1 _); (show ∀ _, _ → _); refine SIAt.ind ?_; intro hz9 tkz9 Fz9 Nz9; k_sweep; (try k_fold)) | ((with_reducible show SIB2 _); (show ∀ _ _, _ → _); intro tz9; refine SIAt.ind ?_; intro hz9 tkz9 Fz9 Nz9; k_sweep) | ((with_reducible show SBB2 _); (show ∀ _ _ _ _, _ → _); intro Dz9 tz9 uz9; refine SIAt.ind ?_; intro hz9 tkz9 Fz9 Nz9; k_sweep)); w_strict k_steps))
        exact ret9 _ _ _ ⟨x, t, _, rfl, rfl⟩ (by assumption) (News.sub (by assumption) (sub_tail (sub_tail sub_self)))
    · intro zs hz
      obtain ⟨tz0, tz1, tz2⟩ := zip_str_int hz
      intro D0 h0 tk0 F0 N0 off0
      k_sweep
      w_strict k_steps
      repeat (any_goals (unfold HaltF; (first | ((with_reducible show wpAny _ _ (call (Value.ref _) _ _) _ _ _); (first | refine' xor_nm_ok ?kC ?_ | refine' contains_ok ?kC ?_ | refine' countOf_ok ?kC ?_ | refine' sub_ok ?kC ?_ | refine' subB_ok ?kC ?_ | refine' iadd_ok ?kC ?_ | refine' eq_ok ?kC ?_ | refine' eqQ_ok ?kC ?_ | refine' lt_ok ?kC ?_ | refine' ltQ_ok ?kC ?_); (case kC => ktr_unf); intros; (rename Keep [] _ _ => kz9); (have Nz9 := Keep.all kz9 (by assumption)); clear kz9; k_sweep; (try dsimp only)) | ((with_reducible show wpAny _ _ (call (Value.ref _) _ _) _ _ _); refine' getitem_first ?kC ?h1 ?h2 ?h3 ?_; (case kC => ktr_unf); (case h1 => assumption); (case h2 => assumption); (case h3 => assumption); intros; (rename Keep [] _ _ => kz9); (have Nz9 := Keep.all kz9 (by assumption)); clear kz9; k_sweep; (try dsimp only)) | ((with_reducible show wpAny _ _ (call (Value.ref _) _ _) _ _ _); refine' getitemL_ok ?kC ?_; (case kC => ktr_unf); intros; (rename Keep [] _ _ => kz9); (have Nz9 := news_tl (Keep.all kz9 (by assumption))); clear kz9; k_sweep; (try dsimp only)) | ((with_reducible show wpAny _ _ (call (Value.ref _) _ _) _ _ _); (first | refine' keys_ok ?kC ?_ | refine' values_ok ?kC ?_); (case kC => ktr_unf); intro lz9 hz9 tkz9 Fz9 kz9 N9z9 hfz9; (have Nz9 := news_add kz9 (by assumption) N9z9 hfz9); (have lz8 := news_off hfz9 (by assumption)); (try dsimp only [OffL] at lz8); (try simp only [List.cons_append, List.nil_append] at Nz9); clear N9z9 hfz9 kz9; (try k_sweep); (try dsimp only)) | ((with_reducible show wpAny _ _ (call (Value.ref _) _ _) _ _ _); refine' qname_ok ?kC ?_; (case kC => (refine' Cx.mk ?k1 ?k2 ?k3 ?k4 ?k5 ?k6 ?k7; (case k1 => k_asm); (case k2 => k_asm); (case k3 => k_asm); (case k4 => k_asm); (case k5 => k_asm); (case k6 => ktr_room); (case k7 => ktr_units))); intro qiz9 qdz9 hqz9 kqz9 nqz9 hz9 tkz9 Fz9 Nz9 lz8 lz9; (try k_lt lz8); (try k_sweep); (try dsimp only)) | ((with_reducible show wpAny _ _ (exec (Stmt.Assign [Expr.Name _ _] (Expr.ListComp _ _ _ _) _) _) _ _ _); refine' Assign_ListComp_C (by assumption) ?hLe ?hsw ?hclos ?hcells ?hpush ?hkind ?hnames ?hx ?hy ?hp ?_; (case hLe => rfl); (case hsw => with_unfolding_all rfl); (case hclos => with_unfolding_all rfl); (case hcells => (intro _; rfl)); (case hpush => (intro _; rfl)); (case hkind => rfl); (case hnames => decide); (case hx => rfl); (case hy => rfl); (case hp => rfl)) | ((with_reducible show wpAny _ _ (eval (Expr.ListComp _ _ _ _) _) _ _ _); refine LCg.ListComp_U (F₀ := by k_asm) (by with_unfolding_all rfl) (by decide) (by rfl) (by decide) (by rfl) ?_) | ((with_reducible show wpAny _ _ (callWith _ (Value.ref _) _ _ _) _ _ _); refine' callWith_K0 ?kk1 ?kk2 ?_; (case kk1 => exact Frag.In.keeps (by k_asm) (Fr.keep (by k_asm))); (case kk2 => k_is); k_whole) | ((with_reducible show wpAny _ _ (subscriptTail _ _ (Value.ref _) (Value.int _ _)) _ _ _); refine' item_row ?k1 ?k2 ?k3 ?k4 ?k5 ?_ ?k7 ?k8; (case k1 => k_asm); (case k2 => k_mem); (case k5 => first | (rename HC _ => hyz9; exact hyz9.out) | (rename _[_]? = some (Value.str _ _) => hyz9; exact hyz9) | (rename _[_]? = some (Value.int _ _) => hyz9; exact hyz9) | (rename _[_]? = some (Value.ref _) => hyz9; exact hyz9)); (case k3 => omega); (case k4 => omega); (case k7 => with_unfolding_all rfl); (case k8 => (intro _; with_unfolding_all rfl))) | (refine' SrcC.intro ?hh ?F ?N ?m ?z ?_; (case hh => rfl); (case F => k_asm); (case N => k_asm); (case m => k_mem); (case z => exact Nat.le_of_ble_eq_true rfl); intro gz9) | ((with_reducible show SIC _ _ _ _ _ _ _ _); (first | ((rename MkP3 _ => hMz9); refine' SIC.intro ?sf ?sn ?se; (case sf => k_asm); (case sn => (first | k_asm | (refine News.sub (by k_asm) ?_; lcg_sub))); (case se => first | exact bestB_t (by with_reducible assumption) | exact bestB_qt (by with_reducible assumption) (by with_reducible assumption) (by with_reducible assumption) | exact bestB_f2 (by with_reducible assumption) (by with_reducible assumption) | exact bestB_qf (by with_reducible assumption) (by with_reducible assumption) (by with_reducible assumption))) | (refine' SIC.intro ?sf ?sn ?se; (case sf => k_asm); (case sn => (first | k_asm | (refine News.sub (by k_asm) ?_; lcg_sub))); (case se => first | exact rfl | (unfold bestB; simp only [*, decide_true, decide_false, Bool.true_or, Bool.false_or, Bool.true_and, Bool.false_and, beq_self_eq_true]))))) | ((with_reducible show SIV _ _ _ _ _ _ _ _ _); refine' SIV.intro ?sf ?sn; (case sf => k_asm); (case sn => (first | k_asm | (refine News.sub (by k_asm) ?_; lcg_sub)))) | ((with_reducible show SBV _ _ _ _ _ _ _ _ _); refine' SBV.intro ?sf ?sn; (case sf => k_asm); (case sn => (first | k_asm | (refine News.sub (by k_asm) ?_; lcg_sub)))) | ((with_reducible show SIB1 _); (show ∀ _, _ → _); refine SIAt.ind ?_; intro hz9 tkz9 Fz9 Nz9; k_sweep; (try k_fold)) | ((with_reducible show SIB2 _); (show ∀ _ _, _ → _); intro tz9; refine SIAt.ind ?_; intro hz9 tkz9 Fz9 Nz9; k_sweep) | ((with_reducible show SBB2 _); (show ∀ _ _ _ _, _ → _); intro Dz9 tz9 uz9; refine SIAt.ind ?_; intro hz9 tkz9 Fz9 Nz9; k_sweep)); w_strict k_steps))
      unfold HaltF
      rename News _ _ _ _ => lN
      simp only [oth_eq] at lN
      rename (Obj.data _ = Data.cell (some (Value.str e.w0 _))) => dW
      refine namedO dW fun oW hoW => ?_
      subst hoW
      rename News _ _ _ _ => lN
      refine opqN lN fun RB eB N7 => ?_
      clear lN
      have mD0 : (D0, LCg.lst [Value.int ((Mine.oN (hasT e.w1 x0) (hasT e.w2 x0) : Nat) : Int) tz0, .int ((Mine.oN (hasT e.w1 x1) (hasT e.w2 x1) : Nat) : Int) tz1, .int ((Mine.oN (hasT e.w1 x2) (hasT e.w2 x2) : Nat) : Int) tz2]) ∈ RB := eB ▸ .head _
      have mcb : (L1 + 1 + 1, oW) ∈ RB := eB ▸ .tail _ (.head _)
      have sRB : ∀ p ∈ R, p ∈ RB := fun p hp => eB ▸ .tail _ (.tail _ (.tail _ (.tail _ (.tail _ hp))))
      iterate 60 (try (rename _ => zStash; revert zStash))
      iterate 60 (try (rename _ => zStash; revert zStash))
      iterate 60 (try (rename _ => zStash; revert zStash))
      iterate 60 (try (rename _ => zStash; revert zStash))
      iterate 60 (try (rename _ => zStash; revert zStash))
      iterate 60 (try (rename _ => zStash; revert zStash))
      iterate 60 (try (rename _ => zStash; revert zStash))
      iterate 60 (try (rename _ => zStash; revert zStash))
      iterate 60 (try (rename _ => zStash; revert zStash))
      iterate 60 (try (rename _ => zStash; revert zStash))
      iterate 60 (try (rename _ => zStash; revert zStash))
      iterate 60 (try (rename _ => zStash; revert zStash))
      intro hStash; first | exact @Stash.out _ hStash | (apply Stash.out; exact hStash)
noncomputable def each_s3 : (P : Prop) ×' (Stash P → each_s2.1) := by
  apply PSigma.mk
  case snd =>
    intro hStash
    intro w mean mg mb dp un gd cn nms ig ic mo a ccd cl outer A₀ base h₀ L m s Q E ti td tl i0 i1 i2 lw q0 q1 q2 lm lk hh kt nd il nw j0 j1 j2 nq nk w0 w1 w2 t0 t1 t2 u0 u1 u2 y00 y01 y02 y10 y11 y12 y20 y21 y22 t00 t01 t02 t10 t11 t12 t20 t21 t22 x0 x1 x2 v0 v1 v2 c0 c1 c2 c3 c4 c5 c6 c7 c8 s0 s1 s2 s3 s4 s5 s6 s7 s8 g ret _ _ _ _ _ _ _ _ _ _ _ _ _ _ _ _ _ qk1 Rr otR oCR rwf hok hrwf ms hms cs hg hcs vK hcr hir _ _ _ _ _ _ _ _ _ _ ls I n m' h' tk' e p0 p1 p2 nl e1 t0 t1 t2 u0 u1 u2 vs oN oT xN he hn81 hlt hvs hvl z2 z4 f1 f2 f3 f4 tk f5 tg f6 hnn hit tv oR hR b1 b2 b3 b4 b5 b6 q ta tb tc jj hqi L1 A1 env1 ek1 hdA huA _ F' R N8 mT mti mtd mp0 mp1 mp2 sRr mq mlw' mlm' mlk' hI1 hls1 hca1 hls2 oI ols otl ocb hIn hIc qk ek _ _ tk _ _ _ _ _ _ _ _ _ _ _ _ _ _ _ _ _ _ tz0 tz1 tz2 hz D0 h0 tk0 _ _ _ _ oW dW off0 RB eB N7 mD0 mcb sRB
    have hfill : (PySem.Challenge.rw_xl0032_01 = PySem.Challenge.rw_xl0032_01 ∧ Mine.hd.heap_1 = Mine.hd.heap_1) := by (k_fill; exact ⟨rfl, rfl⟩)
    clear hfill
    rename Fr _ _ _ _ => lF
    repeat (rename Value → Shared → Prop => z9; clear z9)
    obtain ⟨y, hy⟩ : ∃ y : Nat → Str, ∀ j, rwf (n % 3) j = y j := ⟨_, fun _ => rfl⟩
    have hyok : ∀ j, okText (y j) := fun j => hy j ▸ hok _ j
    have mqB := sRB _ mq
    have mlmB := sRB _ mlm'
    have mlkB := sRB _ mlk'
    have mlwB := sRB _ mlw'
    simp only [hy] at mqB
    refine way_cut (fun i => e.c cs ms (y i)) y e.w0 lF N7 ?_ ?_
    rotate_left
    · have hge := ea_next hg he hy
      have hyb : okText (wBest (fun i => e.c cs ms (y i)) y 2).2 := by
        obtain ⟨j, hj⟩ := wBest_snd (fun i => e.c cs ms (y i)) y 2
        rw [hj]; exact hyok j
      intro s' hW
      obtain ⟨h9, tk9, tp9, vc, vr, vw, D, tD, uD, hs', F7, N7⟩ := hW
      subst hs'
      generalize hb : wBest (fun i => e.c cs ms (y i)) y 2 = b at N7 hge hyb
      generalize hpd : wPaid (fun i => e.c cs ms (y i)) y e.w0 3 = pd at F7 hge
      clear lF
      rename ((e.kept : Int) ≠ 3) => hk3
      k_sweep
      have hM2 : MkP2 0 := trivial
      w_strict k_steps
      repeat (any_goals (unfold HaltF; (first | ((with_reducible show wpAny _ _ (call (Value.ref _) _ _) _ _ _); (first | refine' xor_nm_ok ?kC ?_ | refine' contains_ok ?kC ?_ | refine' countOf_ok ?kC ?_ | refine' sub_ok ?kC ?_ | refine' subB_ok ?kC ?_ | refine' iadd_ok ?kC ?_ | refine' eq_ok ?kC ?_ | refine' eqQ_ok ?kC ?_ | refine' lt_ok ?kC ?_ | refine' ltQ_ok ?kC ?_); (case kC => ktr_unf); intros; (rename Keep [] _ _ => kz9); (have Nz9 := Keep.all kz9 (by assumption)); clear kz9; k_sweep; (try dsimp only)) | ((with_reducible show wpAny _ _ (call (Value.ref _) _ _) _ _ _); refine' getitem_first ?kC ?h1 ?h2 ?h3 ?_; (case kC => ktr_unf); (case h1 => assumption); (case h2 => assumption); (case h3 => assumption); intros; (rename Keep [] _ _ => kz9); (have Nz9 := Keep.all kz9 (by assumption)); clear kz9; k_sweep; (try dsimp only)) | ((with_reducible show wpAny _ _ (call (Value.ref _) _ _) _ _ _); refine' getitemL_ok ?kC ?_; (case kC => ktr_unf); intros; (rename Keep [] _ _ => kz9); (have Nz9 := news_tl (Keep.all kz9 (by assumption))); clear kz9; k_sweep; (try dsimp only)) | ((with_reducible show wpAny _ _ (call (Value.ref _) _ _) _ _ _); (first | refine' keys_ok ?kC ?_ | refine' values_ok ?kC ?_); (case kC => ktr_unf); intro lz9 hz9 tkz9 Fz9 kz9 N9z9 hfz9; (have Nz9 := news_add kz9 (by assumption) N9z9 hfz9); (have lz8 := news_off hfz9 (by assumption)); (try dsimp only [OffL] at lz8); (try simp only [List.cons_append, List.nil_append] at Nz9); clear N9z9 hfz9 kz9; (try k_sweep); (try dsimp only)) | ((with_reducible show wpAny _ _ (call (Value.ref _) _ _) _ _ _); refine' qname_ok ?kC ?_; (case kC => (refine' Cx.mk ?k1 ?k2 ?k3 ?k4 ?k5 ?k6 ?k7; (case k1 => k_asm); (case k2 => k_asm); (case k3 => k_asm); (case k4 => k_asm); (case k5 => k_asm); (case k6 => ktr_room); (case k7 => ktr_units))); intro qiz9 qdz9 hqz9 kqz9 nqz9 hz9 tkz9 Fz9 Nz9 lz8 lz9; (try k_lt lz8); (try k_sweep); (try dsimp only)) | ((with_reducible show wpAny _ _ (exec (Stmt.Assign [Expr.Name _ _] (Expr.ListComp _ _ _ _) _) _) _ _ _); refine' Assign_ListComp_C (by assumption) ?hLe ?hsw ?hclos ?hcells ?hpush ?hkind ?hnames ?hx ?hy ?hp ?_; (case hLe => rfl); (case hsw => with_unfolding_all rfl); (case hclos => with_unfolding_all rfl); (case hcells => (intro _; rfl)); (case hpush => (intro _; rfl)); (case hkind => rfl); (case hnames => decide); (case hx => rfl); (case hy => rfl); (case hp => rfl)) | ((with_reducible show wpAny _ _ (eval (Expr.ListComp _ _ _ _) _) _ _ _); refine LCg.ListComp_U (F₀ := by k_asm) (by with_unfolding_all rfl) (by decide) (by rfl) (by decide) (by rfl) ?_) | ((with_reducible show wpAny _ _ (callWith _ (Value.ref _) _ _ _) _ _ _); refine' callWith_K0 ?kk1 ?kk2 ?_; (case kk1 => exact Frag.In.keeps (by k_asm) (Fr.keep (by k_asm))); (case kk2 => k_is); k_whole) | ((with_reducible show wpAny _ _ (subscriptTail _ _ (Value.ref _) (Value.int _ _)) _ _ _); refine' item_row ?k1 ?k2 ?k3 ?k4 ?k5 ?_ ?k7 ?k8; (case k1 => k_asm); (case k2 => k_mem); (case k5 => first | (rename HC _ => hyz9; exact hyz9.out) | (rename _[_]? = some (Value.str _ _) => hyz9; exact hyz9) | (rename _[_]? = some (Value.int _ _) => hyz9; exact hyz9) | (rename _[_]? = some (Value.ref _) => hyz9; exact hyz9)); (case k3 => omega); (case k4 => omega); (case k7 => with_unfolding_all rfl); (case k8 => (intro _; with_unfolding_all rfl))) | (refine' SrcC.intro ?hh ?F ?N ?m ?z ?_; (case hh => rfl); (case F => k_asm); (case N => k_asm); (case m => k_mem); (case z => exact Nat.le_of_ble_eq_true rfl); intro gz9) | ((with_reducible show SIC _ _ _ _ _ _ _ _); (first | ((rename MkP3 _ => hMz9); refine' SIC.intro ?sf ?sn ?se; (case sf => k_asm); (case sn => (first | k_asm | (refine News.sub (by k_asm) ?_; lcg_sub))); (case se => first | exact bestB_t (by with_reducible assumption) | exact bestB_qt (by with_reducible assumption) (by with_reducible assumption) (by with_reducible assumption) | exact bestB_f2 (by with_reducible assumption) (by with_reducible assumption) | exact bestB_qf (by with_reducible assumption) (by with_reducible assumption) (by with_reducible assumption))) | (refine' SIC.intro ?sf ?sn ?se; (case sf => k_asm); (case sn => (first | k_asm | (refine News.sub (by k_asm) ?_; lcg_sub))); (case se => first | exact rfl | (unfold bestB; simp only [*, decide_true, decide_false, Bool.true_or, Bool.false_or, Bool.true_and, Bool.false_and, beq_self_eq_true]))))) | ((with_reducible show SIV _ _ _ _ _ _ _ _ _); refine' SIV.intro ?sf ?sn; (case sf => k_asm); (case sn => (first | k_asm | (refine News.sub (by k_asm) ?_; lcg_sub)))) | ((with_reducible show SBV _ _ _ _ _ _ _ _ _); refine' SBV.intro ?sf ?sn; (case sf => k_asm); (case sn => (first | k_asm | (refine News.sub (by k_asm) ?_; lcg_sub)))) | ((with_reducible show SIB1 _); (show ∀ _, _ → _); refine SIAt.ind ?_; intro hz9 tkz9 Fz9 Nz9; k_sweep; (try k_fold)) | ((with_reducible show SIB2 _); (show ∀ _ _, _ → _); intro tz9; refine SIAt.ind ?_; intro hz9 tkz9 Fz9 Nz9; k_sweep) | ((with_reducible show SBB2 _); (show ∀ _ _ _ _, _ → _); intro Dz9 tz9 uz9; refine SIAt.ind ?_; intro hz9 tkz9 Fz9 Nz9; k_sweep)); w_strict k_steps))
      unfold HaltF
      rename MkP2 _ => z9
      clear z9
      rename Fr _ _ _ _ => lF
      rename News _ _ _ _ => lN
      refine int_cut (Str.ofString "kept") ((eaPut e pd b).kept : Int) lF lN ?_ ?_
      · w_strict k_steps
        repeat (any_goals (unfold HaltF; (first | ((with_reducible show wpAny _ _ (call (Value.ref _) _ _) _ _ _); (first | refine' xor_nm_ok ?kC ?_ | refine' contains_ok ?kC ?_ | refine' countOf_ok ?kC ?_ | refine' sub_ok ?kC ?_ | refine' subB_ok ?kC ?_ | refine' iadd_ok ?kC ?_ | refine' eq_ok ?kC ?_ | refine' eqQ_ok ?kC ?_ | refine' lt_ok ?kC ?_ | refine' ltQ_ok ?kC ?_); (case kC => ktr_unf); intros; (rename Keep [] _ _ => kz9); (have Nz9 := Keep.all kz9 (by assumption)); clear kz9; k_sweep; (try dsimp only)) | ((with_reducible show wpAny _ _ (call (Value.ref _) _ _) _ _ _); refine' getitem_first ?kC ?h1 ?h2 ?h3 ?_; (case kC => ktr_unf); (case h1 => assumption); (case h2 => assumption); (case h3 => assumption); intros; (rename Keep [] _ _ => kz9); (have Nz9 := Keep.all kz9 (by assumption)); clear kz9; k_sweep; (try dsimp only)) | ((with_reducible show wpAny _ _ (call (Value.ref _) _ _) _ _ _); refine' getitemL_ok ?kC ?_; (case kC => ktr_unf); intros; (rename Keep [] _ _ => kz9); (have Nz9 := news_tl (Keep.all kz9 (by assumption))); clear kz9; k_sweep; (try dsimp only)) | ((with_reducible show wpAny _ _ (call (Value.ref _) _ _) _ _ _); (first | refine' keys_ok ?kC ?_ | refine' values_ok ?kC ?_); (case kC => ktr_unf); intro lz9 hz9 tkz9 Fz9 kz9 N9z9 hfz9; (have Nz9 := news_add kz9 (by assumption) N9z9 hfz9); (have lz8 := news_off hfz9 (by assumption)); (try dsimp only [OffL] at lz8); (try simp only [List.cons_append, List.nil_append] at Nz9); clear N9z9 hfz9 kz9; (try k_sweep); (try dsimp only)) | ((with_reducible show wpAny _ _ (call (Value.ref _) _ _) _ _ _); refine' qname_ok ?kC ?_; (case kC => (refine' Cx.mk ?k1 ?k2 ?k3 ?k4 ?k5 ?k6 ?k7; (case k1 => k_asm); (case k2 => k_asm); (case k3 => k_asm); (case k4 => k_asm); (case k5 => k_asm); (case k6 => ktr_room); (case k7 => ktr_units))); intro qiz9 qdz9 hqz9 kqz9 nqz9 hz9 tkz9 Fz9 Nz9 lz8 lz9; (try k_lt lz8); (try k_sweep); (try dsimp only)) | ((with_reducible show wpAny _ _ (exec (Stmt.Assign [Expr.Name _ _] (Expr.ListComp _ _ _ _) _) _) _ _ _); refine' Assign_ListComp_C (by assumption) ?hLe ?hsw ?hclos ?hcells ?hpush ?hkind ?hnames ?hx ?hy ?hp ?_; (case hLe => rfl); (case hsw => with_unfolding_all rfl); (case hclos => with_unfolding_all rfl); (case hcells => (intro _; rfl)); (case hpush => (intro _; rfl)); (case hkind => rfl); (case hnames => decide); (case hx => rfl); (case hy => rfl); (case hp => rfl)) | ((with_reducible show wpAny _ _ (eval (Expr.ListComp _ _ _ _) _) _ _ _); refine LCg.ListComp_U (F₀ := by k_asm) (by with_unfolding_all rfl) (by decide) (by rfl) (by decide) (by rfl) ?_) | ((with_reducible show wpAny _ _ (callWith _ (Value.ref _) _ _ _) _ _ _); refine' callWith_K0 ?kk1 ?kk2 ?_; (case kk1 => exact Frag.In.keeps (by k_asm) (Fr.keep (by k_asm))); (case kk2 => k_is); k_whole) | ((with_reducible show wpAny _ _ (subscriptTail _ _ (Value.ref _) (Value.int _ _)) _ _ _); refine' item_row ?k1 ?k2 ?k3 ?k4 ?k5 ?_ ?k7 ?k8; (case k1 => k_asm); (case k2 => k_mem); (case k5 => first | (rename HC _ => hyz9; exact hyz9.out) | (rename _[_]? = some (Value.str _ _) => hyz9; exact hyz9) | (rename _[_]? = some (Value.int _ _) => hyz9; exact hyz9) | (rename _[_]? = some (Value.ref _) => hyz9; exact hyz9)); (case k3 => omega); (case k4 => omega); (case k7 => with_unfolding_all rfl); (case k8 => (intro _; with_unfolding_all rfl))) | (refine' SrcC.intro ?hh ?F ?N ?m ?z ?_; (case hh => rfl); (case F => k_asm); (case N => k_asm); (case m => k_mem); (case z => exact Nat.le_of_ble_eq_true rfl); intro gz9) | ((with_reducible show SIC _ _ _ _ _ _ _ _); (first | ((rename MkP3 _ => hMz9); refine' SIC.intro ?sf ?sn ?se; (case sf => k_asm); (case sn => (first | k_asm | (refine News.sub (by k_asm) ?_; lcg_sub))); (case se => first | exact bestB_t (by with_reducible assumption) | exact bestB_qt (by with_reducible assumption) (by with_reducible assumption) (by with_reducible assumption) | exact bestB_f2 (by with_reducible assumption) (by with_reducible assumption) | exact bestB_qf (by with_reducible assumption) (by with_reducible assumption) (by with_reducible assumption))) | (refine' SIC.intro ?sf ?sn ?se; (case sf => k_asm); (case sn => (first | k_asm | (refine News.sub (by k_asm) ?_; lcg_sub))); (case se => first | exact rfl | (unfold bestB; simp only [*, decide_true, decide_false, Bool.true_or, Bool.false_or, Bool.true_and, Bool.false_and, beq_self_eq_true]))))) | ((with_reducible show SIV _ _ _ _ _ _ _ _ _); refine' SIV.intro ?sf ?sn; (case sf => k_asm); (case sn => (first | k_asm | (refine News.sub (by k_asm) ?_; lcg_sub)))) | ((with_reducible show SBV _ _ _ _ _ _ _ _ _); refine' SBV.intro ?sf ?sn; (case sf => k_asm); (case sn => (first | k_asm | (refine News.sub (by k_asm) ?_; lcg_sub)))) | ((with_reducible show SIB1 _); (show ∀ _, _ → _); refine SIAt.ind ?_; intro hz9 tkz9 Fz9 Nz9; k_sweep; (try k_fold)) | ((with_reducible show SIB2 _); (show ∀ _ _, _ → _); intro tz9; refine SIAt.ind ?_; intro hz9 tkz9 Fz9 Nz9; k_sweep) | ((with_reducible show SBB2 _); (show ∀ _ _ _ _, _ → _); intro Dz9 tz9 uz9; refine SIAt.ind ?_; intro hz9 tkz9 Fz9 Nz9; k_sweep)); w_strict k_steps))
        · refine IntEnd.intro (by assumption) (by assumption) (sub_tail (sub_tail sub_self)) ?_
          rw [show (eaPut e pd b).kept = e.kept + 1 from if_pos (by first | assumption | exact beq_iff_eq.mp (by assumption))]; rfl
        · refine IntEnd.intro (by assumption) (by assumption) (sub_tail (sub_tail sub_self)) ?_
          rw [show (eaPut e pd b).kept = 0 from if_neg (by first | assumption | exact fun q => absurd (beq_iff_eq.mpr q) (by assumption) | exact beq_eq_false_iff_ne.mp (by assumption) | exact fun q => absurd (beq_iff_eq.mpr q) (ne_true_of_eq_false (by assumption)))]; rfl
      · clear lF lN
        intro h8 tk8 t8 F8 N8
        rw [eB] at N8
        replace N8 := news_drop N8
        clear mqB mlmB mlkB mlwB mD0 mcb sRB eB
        k_sweep
        w_strict k_steps
        repeat (any_goals (unfold HaltF; (first | ((with_reducible show wpAny _ _ (call (Value.ref _) _ _) _ _ _); (first | refine' xor_nm_ok ?kC ?_ | refine' contains_ok ?kC ?_ | refine' countOf_ok ?kC ?_ | refine' sub_ok ?kC ?_ | refine' subB_ok ?kC ?_ | refine' iadd_ok ?kC ?_ | refine' eq_ok ?kC ?_ | refine' eqQ_ok ?kC ?_ | refine' lt_ok ?kC ?_ | refine' ltQ_ok ?kC ?_); (case kC => ktr_unf); intros; (rename Keep [] _ _ => kz9); (have Nz9 := Keep.all kz9 (by assumption)); clear kz9; k_sweep; (try dsimp only)) | ((with_reducible show wpAny _ _ (call (Value.ref _) _ _) _ _ _); refine' getitem_first ?kC ?h1 ?h2 ?h3 ?_; (case kC => ktr_unf); (case h1 => assumption); (case h2 => assumption); (case h3 => assumption); intros; (rename Keep [] _ _ => kz9); (have Nz9 := Keep.all kz9 (by assumption)); clear kz9; k_sweep; (try dsimp only)) | ((with_reducible show wpAny _ _ (call (Value.ref _) _ _) _ _ _); refine' getitemL_ok ?kC ?_; (case kC => ktr_unf); intros; (rename Keep [] _ _ => kz9); (have Nz9 := news_tl (Keep.all kz9 (by assumption))); clear kz9; k_sweep; (try dsimp only)) | ((with_reducible show wpAny _ _ (call (Value.ref _) _ _) _ _ _); (first | refine' keys_ok ?kC ?_ | refine' values_ok ?kC ?_); (case kC => ktr_unf); intro lz9 hz9 tkz9 Fz9 kz9 N9z9 hfz9; (have Nz9 := news_add kz9 (by assumption) N9z9 hfz9); (have lz8 := news_off hfz9 (by assumption)); (try dsimp only [OffL] at lz8); (try simp only [List.cons_append, List.nil_append] at Nz9); clear N9z9 hfz9 kz9; (try k_sweep); (try dsimp only)) | ((with_reducible show wpAny _ _ (call (Value.ref _) _ _) _ _ _); refine' qname_ok ?kC ?_; (case kC => (refine' Cx.mk ?k1 ?k2 ?k3 ?k4 ?k5 ?k6 ?k7; (case k1 => k_asm); (case k2 => k_asm); (case k3 => k_asm); (case k4 => k_asm); (case k5 => k_asm); (case k6 => ktr_room); (case k7 => ktr_units))); intro qiz9 qdz9 hqz9 kqz9 nqz9 hz9 tkz9 Fz9 Nz9 lz8 lz9; (try k_lt lz8); (try k_sweep); (try dsimp only)) | ((with_reducible show wpAny _ _ (exec (Stmt.Assign [Expr.Name _ _] (Expr.ListComp _ _ _ _) _) _) _ _ _); refine' Assign_ListComp_C (by assumption) ?hLe ?hsw ?hclos ?hcells ?hpush ?hkind ?hnames ?hx ?hy ?hp ?_; (case hLe => rfl); (case hsw => with_unfolding_all rfl); (case hclos => with_unfolding_all rfl); (case hcells => (intro _; rfl)); (case hpush => (intro _; rfl)); (case hkind => rfl); (case hnames => decide); (case hx => rfl); (case hy => rfl); (case hp => rfl)) | ((with_reducible show wpAny _ _ (eval (Expr.ListComp _ _ _ _) _) _ _ _); refine LCg.ListComp_U (F₀ := by k_asm) (by with_unfolding_all rfl) (by decide) (by rfl) (by decide) (by rfl) ?_) | ((with_reducible show wpAny _ _ (callWith _ (Value.ref _) _ _ _) _ _ _); refine' callWith_K0 ?kk1 ?kk2 ?_; (case kk1 => exact Frag.In.keeps (by k_asm) (Fr.keep (by k_asm))); (case kk2 => k_is); k_whole) | ((with_reducible show wpAny _ _ (subscriptTail _ _ (Value.ref _) (Value.int _ _)) _ _ _); refine' item_row ?k1 ?k2 ?k3 ?k4 ?k5 ?_ ?k7 ?k8; (case k1 => k_asm); (case k2 => k_mem); (case k5 => first | (rename HC _ => hyz9; exact hyz9.out) | (rename _[_]? = some (Value.str _ _) => hyz9; exact hyz9) | (rename _[_]? = some (Value.int _ _) => hyz9; exact hyz9) | (rename _[_]? = some (Value.ref _) => hyz9; exact hyz9)); (case k3 => omega); (case k4 => omega); (case k7 => with_unfolding_all rfl); (case k8 => (intro _; with_unfolding_all rfl))) | (refine' SrcC.intro ?hh ?F ?N ?m ?z ?_; (case hh => rfl); (case F => k_asm); (case N => k_asm); (case m => k_mem); (case z => exact Nat.le_of_ble_eq_true rfl); intro gz9) | ((with_reducible show SIC _ _ _ _ _ _ _ _); (first | ((rename MkP3 _ => hMz9); refine' SIC.intro ?sf ?sn ?se; (case sf => k_asm); (case sn => (first | k_asm | (refine News.sub (by k_asm) ?_; lcg_sub))); (case se => first | exact bestB_t (by with_reducible assumption) | exact bestB_qt (by with_reducible assumption) (by with_reducible assumption) (by with_reducible assumption) | exact bestB_f2 (by with_reducible assumption) (by with_reducible assumption) | exact bestB_qf (by with_reducible assumption) (by with_reducible assumption) (by with_reducible assumption))) | (refine' SIC.intro ?sf ?sn ?se; (case sf => k_asm); (case sn => (first | k_asm | (refine News.sub (by k_asm) ?_; lcg_sub))); (case se => first | exact rfl | (unfold bestB; simp only [*, decide_true, decide_false, Bool.true_or, Bool.false_or, Bool.true_and, Bool.false_and, beq_self_eq_true]))))) | ((with_reducible show SIV _ _ _ _ _ _ _ _ _); refine' SIV.intro ?sf ?sn; (case sf => k_asm); (case sn => (first | k_asm | (refine News.sub (by k_asm) ?_; lcg_sub)))) | ((with_reducible show SBV _ _ _ _ _ _ _ _ _); refine' SBV.intro ?sf ?sn; (case sf => k_asm); (case sn => (first | k_asm | (refine News.sub (by k_asm) ?_; lcg_sub)))) | ((with_reducible show SIB1 _); (show ∀ _, _ → _); refine SIAt.ind ?_; intro hz9 tkz9 Fz9 Nz9; k_sweep; (try k_fold)) | ((with_reducible show SIB2 _); (show ∀ _ _, _ → _); intro tz9; refine SIAt.ind ?_; intro hz9 tkz9 Fz9 Nz9; k_sweep) | ((with_reducible show SBB2 _); (show ∀ _ _ _ _, _ → _); intro Dz9 tz9 uz9; refine SIAt.ind ?_; intro hz9 tkz9 Fz9 Nz9; k_sweep)); w_strict k_steps))
        unfold HaltF
        rename Fr _ _ _ _ => lF
        rename News _ _ _ _ => lN
        have hDtl : D ≠ tl := news_ne lN (by k_mem) (by k_mem) (show Value.type "tuple" ≠ Value.type "list" from by intro q; injection q with q; exact absurd q (by decide))
        have hDls : D ≠ ls := news_ne lN (by k_mem) (by k_mem) (show Value.type "tuple" ≠ Value.type "list" from by intro q; injection q with q; exact absurd q (by decide))
        refine' setitem_c (R := R) (td := td) (tl := tl) (p0 := p0) (p1 := p1) (p2 := p2) (hh := hh) (n := nd) (nl := nl) (kt := kt) (x := nm (n + 3)) ?kC mti mtd (.mk _ _ _ _ _ true mp0 b1 b4 rfl) (.mk _ _ _ _ _ false mp1 (nm_fit (n + 1)) b5 rfl) (.mk _ _ _ _ _ false mp2 (nm_fit (n + 2)) b6 rfl) otl b2 hyb ?_
        case kC => ktr_unf
        intro p3 h8 tk8 F8 k8 N8
        have N7 := Keep.news (others := (D, tupB b.1 tD b.2 uD) :: (L1 + 1 + 1, oW) :: (ls, listOf vs.toArray e1) :: (I, oR) :: R) k8 (News.sub lN (by lcg_sub)) N8 (off_one (off_cons hDtl (off_cons hca1 (off_cons hls1 (off_cons hI1 otl)))))
        have r1 : p3 ≠ ls := news_ne N7 (.tail _ (.head _)) (by k_mem) (show Value.type "tuple" ≠ Value.type "list" from by intro q; injection q with q; exact absurd q (by decide))
        have r2 : p3 ≠ I := news_ne N7 (.tail _ (.head _)) (.tail _ (.tail _ (.tail _ (.tail _ (.tail _ (.head _)))))) (by show Value.type "tuple" ≠ _; rw [hR]; intro q; injection q with q; exact absurd (show "tuple" = "range_iterator" from q) (by decide))
        clear lF lN N8 k8
        simp only [List.cons_append, List.nil_append] at N7
        w_strict k_steps
        repeat (any_goals (unfold HaltF; (first | ((with_reducible show wpAny _ _ (call (Value.ref _) _ _) _ _ _); (first | refine' xor_nm_ok ?kC ?_ | refine' contains_ok ?kC ?_ | refine' countOf_ok ?kC ?_ | refine' sub_ok ?kC ?_ | refine' subB_ok ?kC ?_ | refine' iadd_ok ?kC ?_ | refine' eq_ok ?kC ?_ | refine' eqQ_ok ?kC ?_ | refine' lt_ok ?kC ?_ | refine' ltQ_ok ?kC ?_); (case kC => ktr_unf); intros; (rename Keep [] _ _ => kz9); (have Nz9 := Keep.all kz9 (by assumption)); clear kz9; k_sweep; (try dsimp only)) | ((with_reducible show wpAny _ _ (call (Value.ref _) _ _) _ _ _); refine' getitem_first ?kC ?h1 ?h2 ?h3 ?_; (case kC => ktr_unf); (case h1 => assumption); (case h2 => assumption); (case h3 => assumption); intros; (rename Keep [] _ _ => kz9); (have Nz9 := Keep.all kz9 (by assumption)); clear kz9; k_sweep; (try dsimp only)) | ((with_reducible show wpAny _ _ (call (Value.ref _) _ _) _ _ _); refine' getitemL_ok ?kC ?_; (case kC => ktr_unf); intros; (rename Keep [] _ _ => kz9); (have Nz9 := news_tl (Keep.all kz9 (by assumption))); clear kz9; k_sweep; (try dsimp only)) | ((with_reducible show wpAny _ _ (call (Value.ref _) _ _) _ _ _); (first | refine' keys_ok ?kC ?_ | refine' values_ok ?kC ?_); (case kC => ktr_unf); intro lz9 hz9 tkz9 Fz9 kz9 N9z9 hfz9; (have Nz9 := news_add kz9 (by assumption) N9z9 hfz9); (have lz8 := news_off hfz9 (by assumption)); (try dsimp only [OffL] at lz8); (try simp only [List.cons_append, List.nil_append] at Nz9); clear N9z9 hfz9 kz9; (try k_sweep); (try dsimp only)) | ((with_reducible show wpAny _ _ (call (Value.ref _) _ _) _ _ _); refine' qname_ok ?kC ?_; (case kC => (refine' Cx.mk ?k1 ?k2 ?k3 ?k4 ?k5 ?k6 ?k7; (case k1 => k_asm); (case k2 => k_asm); (case k3 => k_asm); (case k4 => k_asm); (case k5 => k_asm); (case k6 => ktr_room); (case k7 => ktr_units))); intro qiz9 qdz9 hqz9 kqz9 nqz9 hz9 tkz9 Fz9 Nz9 lz8 lz9; (try k_lt lz8); (try k_sweep); (try dsimp only)) | ((with_reducible show wpAny _ _ (exec (Stmt.Assign [Expr.Name _ _] (Expr.ListComp _ _ _ _) _) _) _ _ _); refine' Assign_ListComp_C (by assumption) ?hLe ?hsw ?hclos ?hcells ?hpush ?hkind ?hnames ?hx ?hy ?hp ?_; (case hLe => rfl); (case hsw => with_unfolding_all rfl); (case hclos => with_unfolding_all rfl); (case hcells => (intro _; rfl)); (case hpush => (intro _; rfl)); (case hkind => rfl); (case hnames => decide); (case hx => rfl); (case hy => rfl); (case hp => rfl)) | ((with_reducible show wpAny _ _ (eval (Expr.ListComp _ _ _ _) _) _ _ _); refine LCg.ListComp_U (F₀ := by k_asm) (by with_unfolding_all rfl) (by decide) (by rfl) (by decide) (by rfl) ?_) | ((with_reducible show wpAny _ _ (callWith _ (Value.ref _) _ _ _) _ _ _); refine' callWith_K0 ?kk1 ?kk2 ?_; (case kk1 => exact Frag.In.keeps (by k_asm) (Fr.keep (by k_asm))); (case kk2 => k_is); k_whole) | ((with_reducible show wpAny _ _ (subscriptTail _ _ (Value.ref _) (Value.int _ _)) _ _ _); refine' item_row ?k1 ?k2 ?k3 ?k4 ?k5 ?_ ?k7 ?k8; (case k1 => k_asm); (case k2 => k_mem); (case k5 => first | (rename HC _ => hyz9; exact hyz9.out) | (rename _[_]? = some (Value.str _ _) => hyz9; exact hyz9) | (rename _[_]? = some (Value.int _ _) => hyz9; exact hyz9) | (rename _[_]? = some (Value.ref _) => hyz9; exact hyz9)); (case k3 => omega); (case k4 => omega); (case k7 => with_unfolding_all rfl); (case k8 => (intro _; with_unfolding_all rfl))) | (refine' SrcC.intro ?hh ?F ?N ?m ?z ?_; (case hh => rfl); (case F => k_asm); (case N => k_asm); (case m => k_mem); (case z => exact Nat.le_of_ble_eq_true rfl); intro gz9) | ((with_reducible show SIC _ _ _ _ _ _ _ _); (first | ((rename MkP3 _ => hMz9); refine' SIC.intro ?sf ?sn ?se; (case sf => k_asm); (case sn => (first | k_asm | (refine News.sub (by k_asm) ?_; lcg_sub))); (case se => first | exact bestB_t (by with_reducible assumption) | exact bestB_qt (by with_reducible assumption) (by with_reducible assumption) (by with_reducible assumption) | exact bestB_f2 (by with_reducible assumption) (by with_reducible assumption) | exact bestB_qf (by with_reducible assumption) (by with_reducible assumption) (by with_reducible assumption))) | (refine' SIC.intro ?sf ?sn ?se; (case sf => k_asm); (case sn => (first | k_asm | (refine News.sub (by k_asm) ?_; lcg_sub))); (case se => first | exact rfl | (unfold bestB; simp only [*, decide_true, decide_false, Bool.true_or, Bool.false_or, Bool.true_and, Bool.false_and, beq_self_eq_true]))))) | ((with_reducible show SIV _ _ _ _ _ _ _ _ _); refine' SIV.intro ?sf ?sn; (case sf => k_asm); (case sn => (first | k_asm | (refine News.sub (by k_asm) ?_; lcg_sub)))) | ((with_reducible show SBV _ _ _ _ _ _ _ _ _); refine' SBV.intro ?sf ?sn; (case sf => k_asm); (case sn => (first | k_asm | (refine News.sub (by k_asm) ?_; lcg_sub)))) | ((with_reducible show SIB1 _); (show ∀ _, _ → _); refine SIAt.ind ?_; intro hz9 tkz9 Fz9 Nz9; k_sweep; (try k_fold)) | ((with_reducible show SIB2 _); (show ∀ _ _, _ → _); intro tz9; refine SIAt.ind ?_; intro hz9 tkz9 Fz9 Nz9; k_sweep) | ((with_reducible show SBB2 _); (show ∀ _ _ _ _, _ → _); intro Dz9 tz9 uz9; refine SIAt.ind ?_; intro hz9 tkz9 Fz9 Nz9; k_sweep)); w_strict k_steps))
        unfold HaltF
        rename Fr _ _ _ _ => lF
        rename News _ _ _ _ => lN
        refine ea_close (e := e) (b := b) (pd := pd) lF lN (by k_mem) hvs (by with_unfolding_all k_allIn) (AllNe.of (off_cons hIn (off_cons hIc (off_cons (oI _ mT) (off_cons (oI _ mti) (off_cons (oI _ mtd) (off_cons (Ne.symm hI1) (off_cons (oI _ mp1) (off_cons (oI _ mp2) (off_cons r2 (fun p hp => oI p (sRr p hp)))))))))))) hge hnn hlt he hk3 ⟨by with_unfolding_all rfl, by with_unfolding_all rfl, by with_unfolding_all rfl, by with_unfolding_all rfl, ⟨_, by with_unfolding_all rfl⟩, ⟨_, by with_unfolding_all rfl⟩⟩ rfl rfl hvl dW z4
    · skip
      iterate 60 (try (rename _ => zStash; revert zStash))
      iterate 60 (try (rename _ => zStash; revert zStash))
      iterate 60 (try (rename _ => zStash; revert zStash))
      iterate 60 (try (rename _ => zStash; revert zStash))
      iterate 60 (try (rename _ => zStash; revert zStash))
      iterate 60 (try (rename _ => zStash; revert zStash))
      iterate 60 (try (rename _ => zStash; revert zStash))
      iterate 60 (try (rename _ => zStash; revert zStash))
      iterate 60 (try (rename _ => zStash; revert zStash))
      iterate 60 (try (rename _ => zStash; revert zStash))
      iterate 60 (try (rename _ => zStash; revert zStash))
      iterate 60 (try (rename _ => zStash; revert zStash))
      intro hStash; first | exact @Stash.out _ hStash | (apply Stash.out; exact hStash)
theorem each_s4 : each_s3.1 := by
  intro w mean mg mb dp un gd cn nms ig ic mo a ccd cl outer A₀ base h₀ L m s Q E ti td tl i0 i1 i2 lw q0 q1 q2 lm lk hh kt nd il nw j0 j1 j2 nq nk w0 w1 w2 t0 t1 t2 u0 u1 u2 y00 y01 y02 y10 y11 y12 y20 y21 y22 t00 t01 t02 t10 t11 t12 t20 t21 t22 x0 x1 x2 v0 v1 v2 c0 c1 c2 c3 c4 c5 c6 c7 c8 s0 s1 s2 s3 s4 s5 s6 s7 s8 g ret _ _ _ _ _ _ _ _ _ _ _ _ _ _ _ _ _ qk1 Rr otR oCR rwf hok hrwf ms hms cs hg hcs vK hcr hir _ _ _ _ _ _ _ _ _ _ ls I n m' h' tk' e p0 p1 p2 nl e1 t0 t1 t2 u0 u1 u2 vs oN oT xN he hn81 hlt hvs hvl z2 z4 f1 f2 f3 f4 tk f5 tg f6 hnn hit tv oR hR b1 b2 b3 b4 b5 b6 q ta tb tc jj hqi L1 A1 env1 ek1 hdA huA _ F' R N8 mT mti mtd mp0 mp1 mp2 sRr mq mlw' mlm' mlk' hI1 hls1 hca1 hls2 oI ols otl ocb hIn hIc qk _ _ tk _ _ _ _ _ _ _ _ _ _ _ _ _ _ _ _ _ _ tz0 tz1 tz2 hz D0 h0 tk0 _ _ lF _ oW dW off0 RB eB N7 mD0 mcb sRB y hy hyok mlmB mlkB mlwB mqB
  have hfill : (PySem.Challenge.rw_xl0032_01 = PySem.Challenge.rw_xl0032_01 ∧ Mine.hd.heap_1 = Mine.hd.heap_1) := by (k_fill; exact ⟨rfl, rfl⟩)
  clear hfill
  have o0 : Mine.oN (hasT e.w1 x0) (hasT e.w2 x0) = e.o ms 0 := by rw [hms]; rfl
  have o1 : Mine.oN (hasT e.w1 x1) (hasT e.w2 x1) = e.o ms 1 := by rw [hms]; rfl
  have o2 : Mine.oN (hasT e.w1 x2) (hasT e.w2 x2) = e.o ms 2 := by rw [hms]; rfl
  simp only [o0, o1, o2] at mD0
  clear o0 o1 o2 eB sRB oI ols otl ocb
  have ole : ∀ r, e.o ms r ≤ 2 := fun r => oN_le _ _
  have hmr : ∀ r, r < 3 → ∃ t, [Value.str x0 v0, .str x1 v1, .str x2 v2][(0 + ((0 + r : Nat) : Int)).toNat]? = some (Value.str (ms r) t) := by
    intro r hr
    rcases fin3 hr with rfl | rfl | rfl <;> rw [hms] <;> exact ⟨_, rfl⟩
  have hor : ∀ r, r < 3 → ∃ t, [Value.int ((e.o ms 0 : Nat) : Int) tz0, .int ((e.o ms 1 : Nat) : Int) tz1, .int ((e.o ms 2 : Nat) : Int) tz2][(0 + ((0 + r : Nat) : Int)).toNat]? = some (Value.int ((e.o ms r : Nat) : Int) t) := by
    intro r hr
    rcases fin3 hr with rfl | rfl | rfl <;> exact ⟨_, rfl⟩
  have hcr : ∀ r, r < 3 → ∃ t, vK.toList[(3 * (0 + ((0 + r : Nat) : Int)) + ((e.o ms r : Nat) : Int)).toNat]? = some (Value.int (cs.getD (3 * r + e.o ms r) 0) t) := by
    intro r hr
    have h2 := ole r
    have e9 : (3 * (0 + ((0 + r : Nat) : Int)) + ((e.o ms r : Nat) : Int)).toNat = 3 * r + e.o ms r := by omega
    rw [e9]
    exact hcr _ (by omega)
  refine For_turns lF ?_
  have hM1 : MkP1 0 := trivial
  w_strict k_steps
  repeat (any_goals (unfold HaltF; (first | ((with_reducible show wpAny _ _ (call (Value.ref _) _ _) _ _ _); (first | refine' xor_nm_ok ?kC ?_ | refine' contains_ok ?kC ?_ | refine' countOf_ok ?kC ?_ | refine' sub_ok ?kC ?_ | refine' subB_ok ?kC ?_ | refine' iadd_ok ?kC ?_ | refine' eq_ok ?kC ?_ | refine' eqQ_ok ?kC ?_ | refine' lt_ok ?kC ?_ | refine' ltQ_ok ?kC ?_); (case kC => ktr_unf); intros; (rename Keep [] _ _ => kz9); (have Nz9 := Keep.all kz9 (by assumption)); clear kz9; k_sweep; (try dsimp only)) | ((with_reducible show wpAny _ _ (call (Value.ref _) _ _) _ _ _); refine' getitem_first ?kC ?h1 ?h2 ?h3 ?_; (case kC => ktr_unf); (case h1 => assumption); (case h2 => assumption); (case h3 => assumption); intros; (rename Keep [] _ _ => kz9); (have Nz9 := Keep.all kz9 (by assumption)); clear kz9; k_sweep; (try dsimp only)) | ((with_reducible show wpAny _ _ (call (Value.ref _) _ _) _ _ _); refine' getitemL_ok ?kC ?_; (case kC => ktr_unf); intros; (rename Keep [] _ _ => kz9); (have Nz9 := news_tl (Keep.all kz9 (by assumption))); clear kz9; k_sweep; (try dsimp only)) | ((with_reducible show wpAny _ _ (call (Value.ref _) _ _) _ _ _); (first | refine' keys_ok ?kC ?_ | refine' values_ok ?kC ?_); (case kC => ktr_unf); intro lz9 hz9 tkz9 Fz9 kz9 N9z9 hfz9; (have Nz9 := news_add kz9 (by assumption) N9z9 hfz9); (have lz8 := news_off hfz9 (by assumption)); (try dsimp only [OffL] at lz8); (try simp only [List.cons_append, List.nil_append] at Nz9); clear N9z9 hfz9 kz9; (try k_sweep); (try dsimp only)) | ((with_reducible show wpAny _ _ (call (Value.ref _) _ _) _ _ _); refine' qname_ok ?kC ?_; (case kC => (refine' Cx.mk ?k1 ?k2 ?k3 ?k4 ?k5 ?k6 ?k7; (case k1 => k_asm); (case k2 => k_asm); (case k3 => k_asm); (case k4 => k_asm); (case k5 => k_asm); (case k6 => ktr_room); (case k7 => ktr_units))); intro qiz9 qdz9 hqz9 kqz9 nqz9 hz9 tkz9 Fz9 Nz9 lz8 lz9; (try k_lt lz8); (try k_sweep); (try dsimp only)) | ((with_reducible show wpAny _ _ (exec (Stmt.Assign [Expr.Name _ _] (Expr.ListComp _ _ _ _) _) _) _ _ _); refine' Assign_ListComp_C (by assumption) ?hLe ?hsw ?hclos ?hcells ?hpush ?hkind ?hnames ?hx ?hy ?hp ?_; (case hLe => rfl); (case hsw => with_unfolding_all rfl); (case hclos => with_unfolding_all rfl); (case hcells => (intro _; rfl)); (case hpush => (intro _; rfl)); (case hkind => rfl); (case hnames => decide); (case hx => rfl); (case hy => rfl); (case hp => rfl)) | ((with_reducible show wpAny _ _ (eval (Expr.ListComp _ _ _ _) _) _ _ _); refine LCg.ListComp_U (F₀ := by k_asm) (by with_unfolding_all rfl) (by decide) (by rfl) (by decide) (by rfl) ?_) | ((with_reducible show wpAny _ _ (callWith _ (Value.ref _) _ _ _) _ _ _); refine' callWith_K0 ?kk1 ?kk2 ?_; (case kk1 => exact Frag.In.keeps (by k_asm) (Fr.keep (by k_asm))); (case kk2 => k_is); k_whole) | ((with_reducible show wpAny _ _ (subscriptTail _ _ (Value.ref _) (Value.int _ _)) _ _ _); refine' item_row ?k1 ?k2 ?k3 ?k4 ?k5 ?_ ?k7 ?k8; (case k1 => k_asm); (case k2 => k_mem); (case k5 => first | (rename HC _ => hyz9; exact hyz9.out) | (rename _[_]? = some (Value.str _ _) => hyz9; exact hyz9) | (rename _[_]? = some (Value.int _ _) => hyz9; exact hyz9) | (rename _[_]? = some (Value.ref _) => hyz9; exact hyz9)); (case k3 => omega); (case k4 => omega); (case k7 => with_unfolding_all rfl); (case k8 => (intro _; with_unfolding_all rfl))) | (refine' SrcC.intro ?hh ?F ?N ?m ?z ?_; (case hh => rfl); (case F => k_asm); (case N => k_asm); (case m => k_mem); (case z => exact Nat.le_of_ble_eq_true rfl); intro gz9) | ((with_reducible show SIC _ _ _ _ _ _ _ _); (first | ((rename MkP3 _ => hMz9); refine' SIC.intro ?sf ?sn ?se; (case sf => k_asm); (case sn => (first | k_asm | (refine News.sub (by k_asm) ?_; lcg_sub))); (case se => first | exact bestB_t (by with_reducible assumption) | exact bestB_qt (by with_reducible assumption) (by with_reducible assumption) (by with_reducible assumption) | exact bestB_f2 (by with_reducible assumption) (by with_reducible assumption) | exact bestB_qf (by with_reducible assumption) (by with_reducible assumption) (by with_reducible assumption))) | (refine' SIC.intro ?sf ?sn ?se; (case sf => k_asm); (case sn => (first | k_asm | (refine News.sub (by k_asm) ?_; lcg_sub))); (case se => first | exact rfl | (unfold bestB; simp only [*, decide_true, decide_false, Bool.true_or, Bool.false_or, Bool.true_and, Bool.false_and, beq_self_eq_true]))))) | ((with_reducible show SIV _ _ _ _ _ _ _ _ _); refine' SIV.intro ?sf ?sn; (case sf => k_asm); (case sn => (first | k_asm | (refine News.sub (by k_asm) ?_; lcg_sub)))) | ((with_reducible show SBV _ _ _ _ _ _ _ _ _); refine' SBV.intro ?sf ?sn; (case sf => k_asm); (case sn => (first | k_asm | (refine News.sub (by k_asm) ?_; lcg_sub)))) | ((with_reducible show SIB1 _); (show ∀ _, _ → _); refine SIAt.ind ?_; intro hz9 tkz9 Fz9 Nz9; k_sweep; (try k_fold)) | ((with_reducible show SIB2 _); (show ∀ _ _, _ → _); intro tz9; refine SIAt.ind ?_; intro hz9 tkz9 Fz9 Nz9; k_sweep) | ((with_reducible show SBB2 _); (show ∀ _ _ _ _, _ → _); intro Dz9 tz9 uz9; refine SIAt.ind ?_; intro hz9 tkz9 Fz9 Nz9; k_sweep)); w_strict k_steps))
  unfold HaltF
  rename Fr _ _ _ _ => lF
  rename News _ _ _ _ => lN
  clear hM1
  (try dsimp only)
  refine way_loop (c := fun i => e.c cs ms (y i)) (y := y) (now := e.w0) (by rfl) lF lN (by k_mem) (by with_unfolding_all rfl) (by with_unfolding_all rfl) ?_ fun s' h => ⟨rfl, WayEnd.toks h (fun _ _ => rfl)⟩
  clear lF lN
  intro I2 i tw tp vc vr vw vb D oD oI h' tk' hI2 hi hIcc hb F' N'
  have hM1 : MkP1 0 := trivial
  w_strict k_steps
  repeat (any_goals (unfold HaltF; (first | ((with_reducible show wpAny _ _ (call (Value.ref _) _ _) _ _ _); (first | refine' xor_nm_ok ?kC ?_ | refine' contains_ok ?kC ?_ | refine' countOf_ok ?kC ?_ | refine' sub_ok ?kC ?_ | refine' subB_ok ?kC ?_ | refine' iadd_ok ?kC ?_ | refine' eq_ok ?kC ?_ | refine' eqQ_ok ?kC ?_ | refine' lt_ok ?kC ?_ | refine' ltQ_ok ?kC ?_); (case kC => ktr_unf); intros; (rename Keep [] _ _ => kz9); (have Nz9 := Keep.all kz9 (by assumption)); clear kz9; k_sweep; (try dsimp only)) | ((with_reducible show wpAny _ _ (call (Value.ref _) _ _) _ _ _); refine' getitem_first ?kC ?h1 ?h2 ?h3 ?_; (case kC => ktr_unf); (case h1 => assumption); (case h2 => assumption); (case h3 => assumption); intros; (rename Keep [] _ _ => kz9); (have Nz9 := Keep.all kz9 (by assumption)); clear kz9; k_sweep; (try dsimp only)) | ((with_reducible show wpAny _ _ (call (Value.ref _) _ _) _ _ _); refine' getitemL_ok ?kC ?_; (case kC => ktr_unf); intros; (rename Keep [] _ _ => kz9); (have Nz9 := news_tl (Keep.all kz9 (by assumption))); clear kz9; k_sweep; (try dsimp only)) | ((with_reducible show wpAny _ _ (call (Value.ref _) _ _) _ _ _); (first | refine' keys_ok ?kC ?_ | refine' values_ok ?kC ?_); (case kC => ktr_unf); intro lz9 hz9 tkz9 Fz9 kz9 N9z9 hfz9; (have Nz9 := news_add kz9 (by assumption) N9z9 hfz9); (have lz8 := news_off hfz9 (by assumption)); (try dsimp only [OffL] at lz8); (try simp only [List.cons_append, List.nil_append] at Nz9); clear N9z9 hfz9 kz9; (try k_sweep); (try dsimp only)) | ((with_reducible show wpAny _ _ (call (Value.ref _) _ _) _ _ _); refine' qname_ok ?kC ?_; (case kC => (refine' Cx.mk ?k1 ?k2 ?k3 ?k4 ?k5 ?k6 ?k7; (case k1 => k_asm); (case k2 => k_asm); (case k3 => k_asm); (case k4 => k_asm); (case k5 => k_asm); (case k6 => ktr_room); (case k7 => ktr_units))); intro qiz9 qdz9 hqz9 kqz9 nqz9 hz9 tkz9 Fz9 Nz9 lz8 lz9; (try k_lt lz8); (try k_sweep); (try dsimp only)) | ((with_reducible show wpAny _ _ (exec (Stmt.Assign [Expr.Name _ _] (Expr.ListComp _ _ _ _) _) _) _ _ _); refine' Assign_ListComp_C (by assumption) ?hLe ?hsw ?hclos ?hcells ?hpush ?hkind ?hnames ?hx ?hy ?hp ?_; (case hLe => rfl); (case hsw => with_unfolding_all rfl); (case hclos => with_unfolding_all rfl); (case hcells => (intro _; rfl)); (case hpush => (intro _; rfl)); (case hkind => rfl); (case hnames => decide); (case hx => rfl); (case hy => rfl); (case hp => rfl)) | ((with_reducible show wpAny _ _ (eval (Expr.ListComp _ _ _ _) _) _ _ _); refine LCg.ListComp_U (F₀ := by k_asm) (by with_unfolding_all rfl) (by decide) (by rfl) (by decide) (by rfl) ?_) | ((with_reducible show wpAny _ _ (callWith _ (Value.ref _) _ _ _) _ _ _); refine' callWith_K0 ?kk1 ?kk2 ?_; (case kk1 => exact Frag.In.keeps (by k_asm) (Fr.keep (by k_asm))); (case kk2 => k_is); k_whole) | ((with_reducible show wpAny _ _ (subscriptTail _ _ (Value.ref _) (Value.int _ _)) _ _ _); refine' item_row ?k1 ?k2 ?k3 ?k4 ?k5 ?_ ?k7 ?k8; (case k1 => k_asm); (case k2 => k_mem); (case k5 => first | (rename HC _ => hyz9; exact hyz9.out) | (rename _[_]? = some (Value.str _ _) => hyz9; exact hyz9) | (rename _[_]? = some (Value.int _ _) => hyz9; exact hyz9) | (rename _[_]? = some (Value.ref _) => hyz9; exact hyz9)); (case k3 => omega); (case k4 => omega); (case k7 => with_unfolding_all rfl); (case k8 => (intro _; with_unfolding_all rfl))) | (refine' SrcC.intro ?hh ?F ?N ?m ?z ?_; (case hh => rfl); (case F => k_asm); (case N => k_asm); (case m => k_mem); (case z => exact Nat.le_of_ble_eq_true rfl); intro gz9) | ((with_reducible show SIC _ _ _ _ _ _ _ _); (first | ((rename MkP3 _ => hMz9); refine' SIC.intro ?sf ?sn ?se; (case sf => k_asm); (case sn => (first | k_asm | (refine News.sub (by k_asm) ?_; lcg_sub))); (case se => first | exact bestB_t (by with_reducible assumption) | exact bestB_qt (by with_reducible assumption) (by with_reducible assumption) (by with_reducible assumption) | exact bestB_f2 (by with_reducible assumption) (by with_reducible assumption) | exact bestB_qf (by with_reducible assumption) (by with_reducible assumption) (by with_reducible assumption))) | (refine' SIC.intro ?sf ?sn ?se; (case sf => k_asm); (case sn => (first | k_asm | (refine News.sub (by k_asm) ?_; lcg_sub))); (case se => first | exact rfl | (unfold bestB; simp only [*, decide_true, decide_false, Bool.true_or, Bool.false_or, Bool.true_and, Bool.false_and, beq_self_eq_true]))))) | ((with_reducible show SIV _ _ _ _ _ _ _ _ _); refine' SIV.intro ?sf ?sn; (case sf => k_asm); (case sn => (first | k_asm | (refine News.sub (by k_asm) ?_; lcg_sub)))) | ((with_reducible show SBV _ _ _ _ _ _ _ _ _); refine' SBV.intro ?sf ?sn; (case sf => k_asm); (case sn => (first | k_asm | (refine News.sub (by k_asm) ?_; lcg_sub)))) | ((with_reducible show SIB1 _); (show ∀ _, _ → _); refine SIAt.ind ?_; intro hz9 tkz9 Fz9 Nz9; k_sweep; (try k_fold)) | ((with_reducible show SIB2 _); (show ∀ _ _, _ → _); intro tz9; refine SIAt.ind ?_; intro hz9 tkz9 Fz9 Nz9; k_sweep) | ((with_reducible show SBB2 _); (show ∀ _ _ _ _, _ → _); intro Dz9 tz9 uz9; refine SIAt.ind ?_; intro hz9 tkz9 Fz9 Nz9; k_sweep)); w_strict k_steps))
  unfold HaltF
  rename Fr _ _ _ _ => lF
  rename News _ _ _ _ => lN
  rename IsRange _ _ _ _ _ _ _ _ => lR
  refine road_loop cs (y i) ms (e.o ms) (by rfl) lF lN lR road_init ?_ ?_
  · clear lF lN lR hM1
    intro I3 r tr tc vr oI3 h' tk' hI3 hr F' N'
    obtain ⟨tm, hm⟩ := hmr r hr
    obtain ⟨tcc, hc⟩ := hcr r hr
    replace hc : HC _ := ⟨hc⟩
    have hro := ole r
    obtain ⟨tov, hov⟩ := hor r hr
    w_strict k_steps
    repeat (any_goals (unfold HaltF; (first | ((with_reducible show wpAny _ _ (call (Value.ref _) _ _) _ _ _); (first | refine' xor_nm_ok ?kC ?_ | refine' contains_ok ?kC ?_ | refine' countOf_ok ?kC ?_ | refine' sub_ok ?kC ?_ | refine' subB_ok ?kC ?_ | refine' iadd_ok ?kC ?_ | refine' eq_ok ?kC ?_ | refine' eqQ_ok ?kC ?_ | refine' lt_ok ?kC ?_ | refine' ltQ_ok ?kC ?_); (case kC => ktr_unf); intros; (rename Keep [] _ _ => kz9); (have Nz9 := Keep.all kz9 (by assumption)); clear kz9; k_sweep; (try dsimp only)) | ((with_reducible show wpAny _ _ (call (Value.ref _) _ _) _ _ _); refine' getitem_first ?kC ?h1 ?h2 ?h3 ?_; (case kC => ktr_unf); (case h1 => assumption); (case h2 => assumption); (case h3 => assumption); intros; (rename Keep [] _ _ => kz9); (have Nz9 := Keep.all kz9 (by assumption)); clear kz9; k_sweep; (try dsimp only)) | ((with_reducible show wpAny _ _ (call (Value.ref _) _ _) _ _ _); refine' getitemL_ok ?kC ?_; (case kC => ktr_unf); intros; (rename Keep [] _ _ => kz9); (have Nz9 := news_tl (Keep.all kz9 (by assumption))); clear kz9; k_sweep; (try dsimp only)) | ((with_reducible show wpAny _ _ (call (Value.ref _) _ _) _ _ _); (first | refine' keys_ok ?kC ?_ | refine' values_ok ?kC ?_); (case kC => ktr_unf); intro lz9 hz9 tkz9 Fz9 kz9 N9z9 hfz9; (have Nz9 := news_add kz9 (by assumption) N9z9 hfz9); (have lz8 := news_off hfz9 (by assumption)); (try dsimp only [OffL] at lz8); (try simp only [List.cons_append, List.nil_append] at Nz9); clear N9z9 hfz9 kz9; (try k_sweep); (try dsimp only)) | ((with_reducible show wpAny _ _ (call (Value.ref _) _ _) _ _ _); refine' qname_ok ?kC ?_; (case kC => (refine' Cx.mk ?k1 ?k2 ?k3 ?k4 ?k5 ?k6 ?k7; (case k1 => k_asm); (case k2 => k_asm); (case k3 => k_asm); (case k4 => k_asm); (case k5 => k_asm); (case k6 => ktr_room); (case k7 => ktr_units))); intro qiz9 qdz9 hqz9 kqz9 nqz9 hz9 tkz9 Fz9 Nz9 lz8 lz9; (try k_lt lz8); (try k_sweep); (try dsimp only)) | ((with_reducible show wpAny _ _ (exec (Stmt.Assign [Expr.Name _ _] (Expr.ListComp _ _ _ _) _) _) _ _ _); refine' Assign_ListComp_C (by assumption) ?hLe ?hsw ?hclos ?hcells ?hpush ?hkind ?hnames ?hx ?hy ?hp ?_; (case hLe => rfl); (case hsw => with_unfolding_all rfl); (case hclos => with_unfolding_all rfl); (case hcells => (intro _; rfl)); (case hpush => (intro _; rfl)); (case hkind => rfl); (case hnames => decide); (case hx => rfl); (case hy => rfl); (case hp => rfl)) | ((with_reducible show wpAny _ _ (eval (Expr.ListComp _ _ _ _) _) _ _ _); refine LCg.ListComp_U (F₀ := by k_asm) (by with_unfolding_all rfl) (by decide) (by rfl) (by decide) (by rfl) ?_) | ((with_reducible show wpAny _ _ (callWith _ (Value.ref _) _ _ _) _ _ _); refine' callWith_K0 ?kk1 ?kk2 ?_; (case kk1 => exact Frag.In.keeps (by k_asm) (Fr.keep (by k_asm))); (case kk2 => k_is); k_whole) | ((with_reducible show wpAny _ _ (subscriptTail _ _ (Value.ref _) (Value.int _ _)) _ _ _); refine' item_row ?k1 ?k2 ?k3 ?k4 ?k5 ?_ ?k7 ?k8; (case k1 => k_asm); (case k2 => k_mem); (case k5 => first | (rename HC _ => hyz9; exact hyz9.out) | (rename _[_]? = some (Value.str _ _) => hyz9; exact hyz9) | (rename _[_]? = some (Value.int _ _) => hyz9; exact hyz9) | (rename _[_]? = some (Value.ref _) => hyz9; exact hyz9)); (case k3 => omega); (case k4 => omega); (case k7 => with_unfolding_all rfl); (case k8 => (intro _; with_unfolding_all rfl))) | (refine' SrcC.intro ?hh ?F ?N ?m ?z ?_; (case hh => rfl); (case F => k_asm); (case N => k_asm); (case m => k_mem); (case z => exact Nat.le_of_ble_eq_true rfl); intro gz9) | ((with_reducible show SIC _ _ _ _ _ _ _ _); (first | ((rename MkP3 _ => hMz9); refine' SIC.intro ?sf ?sn ?se; (case sf => k_asm); (case sn => (first | k_asm | (refine News.sub (by k_asm) ?_; lcg_sub))); (case se => first | exact bestB_t (by with_reducible assumption) | exact bestB_qt (by with_reducible assumption) (by with_reducible assumption) (by with_reducible assumption) | exact bestB_f2 (by with_reducible assumption) (by with_reducible assumption) | exact bestB_qf (by with_reducible assumption) (by with_reducible assumption) (by with_reducible assumption))) | (refine' SIC.intro ?sf ?sn ?se; (case sf => k_asm); (case sn => (first | k_asm | (refine News.sub (by k_asm) ?_; lcg_sub))); (case se => first | exact rfl | (unfold bestB; simp only [*, decide_true, decide_false, Bool.true_or, Bool.false_or, Bool.true_and, Bool.false_and, beq_self_eq_true]))))) | ((with_reducible show SIV _ _ _ _ _ _ _ _ _); refine' SIV.intro ?sf ?sn; (case sf => k_asm); (case sn => (first | k_asm | (refine News.sub (by k_asm) ?_; lcg_sub)))) | ((with_reducible show SBV _ _ _ _ _ _ _ _ _); refine' SBV.intro ?sf ?sn; (case sf => k_asm); (case sn => (first | k_asm | (refine News.sub (by k_asm) ?_; lcg_sub)))) | ((with_reducible show SIB1 _); (show ∀ _, _ → _); refine SIAt.ind ?_; intro hz9 tkz9 Fz9 Nz9; k_sweep; (try k_fold)) | ((with_reducible show SIB2 _); (show ∀ _ _, _ → _); intro tz9; refine SIAt.ind ?_; intro hz9 tkz9 Fz9 Nz9; k_sweep) | ((with_reducible show SBB2 _); (show ∀ _ _ _ _, _ → _); intro Dz9 tz9 uz9; refine SIAt.ind ?_; intro hz9 tkz9 Fz9 Nz9; k_sweep)); w_strict k_steps))
    unfold HaltF
    rename Fr _ _ _ _ => lF
    rename News _ _ _ _ => lN
    exact UnrEndW.of1 lF lN (by k_mem) (fun p hp => .tail _ hp) (fun p hp => Nat.ne_of_lt (hI3 p hp)) ⟨trivial, rfl, _, _, road_m⟩
  clear lF lN lR
  intro tc vr h' tk' F' N'
  w_strict k_steps
  repeat (any_goals (unfold HaltF; (first | ((with_reducible show wpAny _ _ (call (Value.ref _) _ _) _ _ _); (first | refine' xor_nm_ok ?kC ?_ | refine' contains_ok ?kC ?_ | refine' countOf_ok ?kC ?_ | refine' sub_ok ?kC ?_ | refine' subB_ok ?kC ?_ | refine' iadd_ok ?kC ?_ | refine' eq_ok ?kC ?_ | refine' eqQ_ok ?kC ?_ | refine' lt_ok ?kC ?_ | refine' ltQ_ok ?kC ?_); (case kC => ktr_unf); intros; (rename Keep [] _ _ => kz9); (have Nz9 := Keep.all kz9 (by assumption)); clear kz9; k_sweep; (try dsimp only)) | ((with_reducible show wpAny _ _ (call (Value.ref _) _ _) _ _ _); refine' getitem_first ?kC ?h1 ?h2 ?h3 ?_; (case kC => ktr_unf); (case h1 => assumption); (case h2 => assumption); (case h3 => assumption); intros; (rename Keep [] _ _ => kz9); (have Nz9 := Keep.all kz9 (by assumption)); clear kz9; k_sweep; (try dsimp only)) | ((with_reducible show wpAny _ _ (call (Value.ref _) _ _) _ _ _); refine' getitemL_ok ?kC ?_; (case kC => ktr_unf); intros; (rename Keep [] _ _ => kz9); (have Nz9 := news_tl (Keep.all kz9 (by assumption))); clear kz9; k_sweep; (try dsimp only)) | ((with_reducible show wpAny _ _ (call (Value.ref _) _ _) _ _ _); (first | refine' keys_ok ?kC ?_ | refine' values_ok ?kC ?_); (case kC => ktr_unf); intro lz9 hz9 tkz9 Fz9 kz9 N9z9 hfz9; (have Nz9 := news_add kz9 (by assumption) N9z9 hfz9); (have lz8 := news_off hfz9 (by assumption)); (try dsimp only [OffL] at lz8); (try simp only [List.cons_append, List.nil_append] at Nz9); clear N9z9 hfz9 kz9; (try k_sweep); (try dsimp only)) | ((with_reducible show wpAny _ _ (call (Value.ref _) _ _) _ _ _); refine' qname_ok ?kC ?_; (case kC => (refine' Cx.mk ?k1 ?k2 ?k3 ?k4 ?k5 ?k6 ?k7; (case k1 => k_asm); (case k2 => k_asm); (case k3 => k_asm); (case k4 => k_asm); (case k5 => k_asm); (case k6 => ktr_room); (case k7 => ktr_units))); intro qiz9 qdz9 hqz9 kqz9 nqz9 hz9 tkz9 Fz9 Nz9 lz8 lz9; (try k_lt lz8); (try k_sweep); (try dsimp only)) | ((with_reducible show wpAny _ _ (exec (Stmt.Assign [Expr.Name _ _] (Expr.ListComp _ _ _ _) _) _) _ _ _); refine' Assign_ListComp_C (by assumption) ?hLe ?hsw ?hclos ?hcells ?hpush ?hkind ?hnames ?hx ?hy ?hp ?_; (case hLe => rfl); (case hsw => with_unfolding_all rfl); (case hclos => with_unfolding_all rfl); (case hcells => (intro _; rfl)); (case hpush => (intro _; rfl)); (case hkind => rfl); (case hnames => decide); (case hx => rfl); (case hy => rfl); (case hp => rfl)) | ((with_reducible show wpAny _ _ (eval (Expr.ListComp _ _ _ _) _) _ _ _); refine LCg.ListComp_U (F₀ := by k_asm) (by with_unfolding_all rfl) (by decide) (by rfl) (by decide) (by rfl) ?_) | ((with_reducible show wpAny _ _ (callWith _ (Value.ref _) _ _ _) _ _ _); refine' callWith_K0 ?kk1 ?kk2 ?_; (case kk1 => exact Frag.In.keeps (by k_asm) (Fr.keep (by k_asm))); (case kk2 => k_is); k_whole) | ((with_reducible show wpAny _ _ (subscriptTail _ _ (Value.ref _) (Value.int _ _)) _ _ _); refine' item_row ?k1 ?k2 ?k3 ?k4 ?k5 ?_ ?k7 ?k8; (case k1 => k_asm); (case k2 => k_mem); (case k5 => first | (rename HC _ => hyz9; exact hyz9.out) | (rename _[_]? = some (Value.str _ _) => hyz9; exact hyz9) | (rename _[_]? = some (Value.int _ _) => hyz9; exact hyz9) | (rename _[_]? = some (Value.ref _) => hyz9; exact hyz9)); (case k3 => omega); (case k4 => omega); (case k7 => with_unfolding_all rfl); (case k8 => (intro _; with_unfolding_all rfl))) | (refine' SrcC.intro ?hh ?F ?N ?m ?z ?_; (case hh => rfl); (case F => k_asm); (case N => k_asm); (case m => k_mem); (case z => exact Nat.le_of_ble_eq_true rfl); intro gz9) | ((with_reducible show SIC _ _ _ _ _ _ _ _); (first | ((rename MkP3 _ => hMz9); refine' SIC.intro ?sf ?sn ?se; (case sf => k_asm); (case sn => (first | k_asm | (refine News.sub (by k_asm) ?_; lcg_sub))); (case se => first | exact bestB_t (by with_reducible assumption) | exact bestB_qt (by with_reducible assumption) (by with_reducible assumption) (by with_reducible assumption) | exact bestB_f2 (by with_reducible assumption) (by with_reducible assumption) | exact bestB_qf (by with_reducible assumption) (by with_reducible assumption) (by with_reducible assumption))) | (refine' SIC.intro ?sf ?sn ?se; (case sf => k_asm); (case sn => (first | k_asm | (refine News.sub (by k_asm) ?_; lcg_sub))); (case se => first | exact rfl | (unfold bestB; simp only [*, decide_true, decide_false, Bool.true_or, Bool.false_or, Bool.true_and, Bool.false_and, beq_self_eq_true]))))) | ((with_reducible show SIV _ _ _ _ _ _ _ _ _); refine' SIV.intro ?sf ?sn; (case sf => k_asm); (case sn => (first | k_asm | (refine News.sub (by k_asm) ?_; lcg_sub)))) | ((with_reducible show SBV _ _ _ _ _ _ _ _ _); refine' SBV.intro ?sf ?sn; (case sf => k_asm); (case sn => (first | k_asm | (refine News.sub (by k_asm) ?_; lcg_sub)))) | ((with_reducible show SIB1 _); (show ∀ _, _ → _); refine SIAt.ind ?_; intro hz9 tkz9 Fz9 Nz9; k_sweep; (try k_fold)) | ((with_reducible show SIB2 _); (show ∀ _ _, _ → _); intro tz9; refine SIAt.ind ?_; intro hz9 tkz9 Fz9 Nz9; k_sweep) | ((with_reducible show SBB2 _); (show ∀ _ _ _ _, _ → _); intro Dz9 tz9 uz9; refine SIAt.ind ?_; intro hz9 tkz9 Fz9 Nz9; k_sweep)); w_strict k_steps))
  unfold HaltF
  rename MkP1 _ => z9
  clear z9
  rcases hb with ⟨rfl, rfl, hDm⟩ | ⟨j, tj, uj, rfl, rfl, rfl⟩
  · w_strict k_steps
    repeat (any_goals (unfold HaltF; (first | ((with_reducible show wpAny _ _ (call (Value.ref _) _ _) _ _ _); (first | refine' xor_nm_ok ?kC ?_ | refine' contains_ok ?kC ?_ | refine' countOf_ok ?kC ?_ | refine' sub_ok ?kC ?_ | refine' subB_ok ?kC ?_ | refine' iadd_ok ?kC ?_ | refine' eq_ok ?kC ?_ | refine' eqQ_ok ?kC ?_ | refine' lt_ok ?kC ?_ | refine' ltQ_ok ?kC ?_); (case kC => ktr_unf); intros; (rename Keep [] _ _ => kz9); (have Nz9 := Keep.all kz9 (by assumption)); clear kz9; k_sweep; (try dsimp only)) | ((with_reducible show wpAny _ _ (call (Value.ref _) _ _) _ _ _); refine' getitem_first ?kC ?h1 ?h2 ?h3 ?_; (case kC => ktr_unf); (case h1 => assumption); (case h2 => assumption); (case h3 => assumption); intros; (rename Keep [] _ _ => kz9); (have Nz9 := Keep.all kz9 (by assumption)); clear kz9; k_sweep; (try dsimp only)) | ((with_reducible show wpAny _ _ (call (Value.ref _) _ _) _ _ _); refine' getitemL_ok ?kC ?_; (case kC => ktr_unf); intros; (rename Keep [] _ _ => kz9); (have Nz9 := news_tl (Keep.all kz9 (by assumption))); clear kz9; k_sweep; (try dsimp only)) | ((with_reducible show wpAny _ _ (call (Value.ref _) _ _) _ _ _); (first | refine' keys_ok ?kC ?_ | refine' values_ok ?kC ?_); (case kC => ktr_unf); intro lz9 hz9 tkz9 Fz9 kz9 N9z9 hfz9; (have Nz9 := news_add kz9 (by assumption) N9z9 hfz9); (have lz8 := news_off hfz9 (by assumption)); (try dsimp only [OffL] at lz8); (try simp only [List.cons_append, List.nil_append] at Nz9); clear N9z9 hfz9 kz9; (try k_sweep); (try dsimp only)) | ((with_reducible show wpAny _ _ (call (Value.ref _) _ _) _ _ _); refine' qname_ok ?kC ?_; (case kC => (refine' Cx.mk ?k1 ?k2 ?k3 ?k4 ?k5 ?k6 ?k7; (case k1 => k_asm); (case k2 => k_asm); (case k3 => k_asm); (case k4 => k_asm); (case k5 => k_asm); (case k6 => ktr_room); (case k7 => ktr_units))); intro qiz9 qdz9 hqz9 kqz9 nqz9 hz9 tkz9 Fz9 Nz9 lz8 lz9; (try k_lt lz8); (try k_sweep); (try dsimp only)) | ((with_reducible show wpAny _ _ (exec (Stmt.Assign [Expr.Name _ _] (Expr.ListComp _ _ _ _) _) _) _ _ _); refine' Assign_ListComp_C (by assumption) ?hLe ?hsw ?hclos ?hcells ?hpush ?hkind ?hnames ?hx ?hy ?hp ?_; (case hLe => rfl); (case hsw => with_unfolding_all rfl); (case hclos => with_unfolding_all rfl); (case hcells => (intro _; rfl)); (case hpush => (intro _; rfl)); (case hkind => rfl); (case hnames => decide); (case hx => rfl); (case hy => rfl); (case hp => rfl)) | ((with_reducible show wpAny _ _ (eval (Expr.ListComp _ _ _ _) _) _ _ _); refine LCg.ListComp_U (F₀ := by k_asm) (by with_unfolding_all rfl) (by decide) (by rfl) (by decide) (by rfl) ?_) | ((with_reducible show wpAny _ _ (callWith _ (Value.ref _) _ _ _) _ _ _); refine' callWith_K0 ?kk1 ?kk2 ?_; (case kk1 => exact Frag.In.keeps (by k_asm) (Fr.keep (by k_asm))); (case kk2 => k_is); k_whole) | ((with_reducible show wpAny _ _ (subscriptTail _ _ (Value.ref _) (Value.int _ _)) _ _ _); refine' item_row ?k1 ?k2 ?k3 ?k4 ?k5 ?_ ?k7 ?k8; (case k1 => k_asm); (case k2 => k_mem); (case k5 => first | (rename HC _ => hyz9; exact hyz9.out) | (rename _[_]? = some (Value.str _ _) => hyz9; exact hyz9) | (rename _[_]? = some (Value.int _ _) => hyz9; exact hyz9) | (rename _[_]? = some (Value.ref _) => hyz9; exact hyz9)); (case k3 => omega); (case k4 => omega); (case k7 => with_unfolding_all rfl); (case k8 => (intro _; with_unfolding_all rfl))) | (refine' SrcC.intro ?hh ?F ?N ?m ?z ?_; (case hh => rfl); (case F => k_asm); (case N => k_asm); (case m => k_mem); (case z => exact Nat.le_of_ble_eq_true rfl); intro gz9) | ((with_reducible show SIC _ _ _ _ _ _ _ _); (first | ((rename MkP3 _ => hMz9); refine' SIC.intro ?sf ?sn ?se; (case sf => k_asm); (case sn => (first | k_asm | (refine News.sub (by k_asm) ?_; lcg_sub))); (case se => first | exact bestB_t (by with_reducible assumption) | exact bestB_qt (by with_reducible assumption) (by with_reducible assumption) (by with_reducible assumption) | exact bestB_f2 (by with_reducible assumption) (by with_reducible assumption) | exact bestB_qf (by with_reducible assumption) (by with_reducible assumption) (by with_reducible assumption))) | (refine' SIC.intro ?sf ?sn ?se; (case sf => k_asm); (case sn => (first | k_asm | (refine News.sub (by k_asm) ?_; lcg_sub))); (case se => first | exact rfl | (unfold bestB; simp only [*, decide_true, decide_false, Bool.true_or, Bool.false_or, Bool.true_and, Bool.false_and, beq_self_eq_true]))))) | ((with_reducible show SIV _ _ _ _ _ _ _ _ _); refine' SIV.intro ?sf ?sn; (case sf => k_asm); (case sn => (first | k_asm | (refine News.sub (by k_asm) ?_; lcg_sub)))) | ((with_reducible show SBV _ _ _ _ _ _ _ _ _); refine' SBV.intro ?sf ?sn; (case sf => k_asm); (case sn => (first | k_asm | (refine News.sub (by k_asm) ?_; lcg_sub)))) | ((with_reducible show SIB1 _); (show ∀ _, _ → _); refine SIAt.ind ?_; intro hz9 tkz9 Fz9 Nz9; k_sweep; (try k_fold)) | ((with_reducible show SIB2 _); (show ∀ _ _, _ → _); intro tz9; refine SIAt.ind ?_; intro hz9 tkz9 Fz9 Nz9; k_sweep) | ((with_reducible show SBB2 _); (show ∀ _ _ _ _, _ → _); intro Dz9 tz9 uz9; refine SIAt.ind ?_; intro hz9 tkz9 Fz9 Nz9; k_sweep)); w_strict k_steps))
    unfold HaltF
    rename Fr _ _ _ _ => lF
    rename News _ _ _ _ => lN
    exact way_close lF lN hIcc hI2 (by k_mem) way_m5 (wCost3 ..) rfl
  · rename Fr _ _ _ _ => F'
    rename News _ _ _ _ => N'
    apply best_if F' N' rfl
    case hb => k_dflt (exact rfl)
    case hD => k_mem
    case _hcost => k_dflt (exact rfl)
    case _hway => k_dflt (exact rfl)
    have hM3 : MkP3 0 := trivial
    w_strict k_steps
    repeat (any_goals (unfold HaltF; (first | ((with_reducible show wpAny _ _ (call (Value.ref _) _ _) _ _ _); (first | refine' xor_nm_ok ?kC ?_ | refine' contains_ok ?kC ?_ | refine' countOf_ok ?kC ?_ | refine' sub_ok ?kC ?_ | refine' subB_ok ?kC ?_ | refine' iadd_ok ?kC ?_ | refine' eq_ok ?kC ?_ | refine' eqQ_ok ?kC ?_ | refine' lt_ok ?kC ?_ | refine' ltQ_ok ?kC ?_); (case kC => ktr_unf); intros; (rename Keep [] _ _ => kz9); (have Nz9 := Keep.all kz9 (by assumption)); clear kz9; k_sweep; (try dsimp only)) | ((with_reducible show wpAny _ _ (call (Value.ref _) _ _) _ _ _); refine' getitem_first ?kC ?h1 ?h2 ?h3 ?_; (case kC => ktr_unf); (case h1 => assumption); (case h2 => assumption); (case h3 => assumption); intros; (rename Keep [] _ _ => kz9); (have Nz9 := Keep.all kz9 (by assumption)); clear kz9; k_sweep; (try dsimp only)) | ((with_reducible show wpAny _ _ (call (Value.ref _) _ _) _ _ _); refine' getitemL_ok ?kC ?_; (case kC => ktr_unf); intros; (rename Keep [] _ _ => kz9); (have Nz9 := news_tl (Keep.all kz9 (by assumption))); clear kz9; k_sweep; (try dsimp only)) | ((with_reducible show wpAny _ _ (call (Value.ref _) _ _) _ _ _); (first | refine' keys_ok ?kC ?_ | refine' values_ok ?kC ?_); (case kC => ktr_unf); intro lz9 hz9 tkz9 Fz9 kz9 N9z9 hfz9; (have Nz9 := news_add kz9 (by assumption) N9z9 hfz9); (have lz8 := news_off hfz9 (by assumption)); (try dsimp only [OffL] at lz8); (try simp only [List.cons_append, List.nil_append] at Nz9); clear N9z9 hfz9 kz9; (try k_sweep); (try dsimp only)) | ((with_reducible show wpAny _ _ (call (Value.ref _) _ _) _ _ _); refine' qname_ok ?kC ?_; (case kC => (refine' Cx.mk ?k1 ?k2 ?k3 ?k4 ?k5 ?k6 ?k7; (case k1 => k_asm); (case k2 => k_asm); (case k3 => k_asm); (case k4 => k_asm); (case k5 => k_asm); (case k6 => ktr_room); (case k7 => ktr_units))); intro qiz9 qdz9 hqz9 kqz9 nqz9 hz9 tkz9 Fz9 Nz9 lz8 lz9; (try k_lt lz8); (try k_sweep); (try dsimp only)) | ((with_reducible show wpAny _ _ (exec (Stmt.Assign [Expr.Name _ _] (Expr.ListComp _ _ _ _) _) _) _ _ _); refine' Assign_ListComp_C (by assumption) ?hLe ?hsw ?hclos ?hcells ?hpush ?hkind ?hnames ?hx ?hy ?hp ?_; (case hLe => rfl); (case hsw => with_unfolding_all rfl); (case hclos => with_unfolding_all rfl); (case hcells => (intro _; rfl)); (case hpush => (intro _; rfl)); (case hkind => rfl); (case hnames => decide); (case hx => rfl); (case hy => rfl); (case hp => rfl)) | ((with_reducible show wpAny _ _ (eval (Expr.ListComp _ _ _ _) _) _ _ _); refine LCg.ListComp_U (F₀ := by k_asm) (by with_unfolding_all rfl) (by decide) (by rfl) (by decide) (by rfl) ?_) | ((with_reducible show wpAny _ _ (callWith _ (Value.ref _) _ _ _) _ _ _); refine' callWith_K0 ?kk1 ?kk2 ?_; (case kk1 => exact Frag.In.keeps (by k_asm) (Fr.keep (by k_asm))); (case kk2 => k_is); k_whole) | ((with_reducible show wpAny _ _ (subscriptTail _ _ (Value.ref _) (Value.int _ _)) _ _ _); refine' item_row ?k1 ?k2 ?k3 ?k4 ?k5 ?_ ?k7 ?k8; (case k1 => k_asm); (case k2 => k_mem); (case k5 => first | (rename HC _ => hyz9; exact hyz9.out) | (rename _[_]? = some (Value.str _ _) => hyz9; exact hyz9) | (rename _[_]? = some (Value.int _ _) => hyz9; exact hyz9) | (rename _[_]? = some (Value.ref _) => hyz9; exact hyz9)); (case k3 => omega); (case k4 => omega); (case k7 => with_unfolding_all rfl); (case k8 => (intro _; with_unfolding_all rfl))) | (refine' SrcC.intro ?hh ?F ?N ?m ?z ?_; (case hh => rfl); (case F => k_asm); (case N => k_asm); (case m => k_mem); (case z => exact Nat.le_of_ble_eq_true rfl); intro gz9) | ((with_reducible show SIC _ _ _ _ _ _ _ _); (first | ((rename MkP3 _ => hMz9); refine' SIC.intro ?sf ?sn ?se; (case sf => k_asm); (case sn => (first | k_asm | (refine News.sub (by k_asm) ?_; lcg_sub))); (case se => first | exact bestB_t (by with_reducible assumption) | exact bestB_qt (by with_reducible assumption) (by with_reducible assumption) (by with_reducible assumption) | exact bestB_f2 (by with_reducible assumption) (by with_reducible assumption) | exact bestB_qf (by with_reducible assumption) (by with_reducible assumption) (by with_reducible assumption))) | (refine' SIC.intro ?sf ?sn ?se; (case sf => k_asm); (case sn => (first | k_asm | (refine News.sub (by k_asm) ?_; lcg_sub))); (case se => first | exact rfl | (unfold bestB; simp only [*, decide_true, decide_false, Bool.true_or, Bool.false_or, Bool.true_and, Bool.false_and, beq_self_eq_true]))))) | ((with_reducible show SIV _ _ _ _ _ _ _ _ _); refine' SIV.intro ?sf ?sn; (case sf => k_asm); (case sn => (first | k_asm | (refine News.sub (by k_asm) ?_; lcg_sub)))) | ((with_reducible show SBV _ _ _ _ _ _ _ _ _); refine' SBV.intro ?sf ?sn; (case sf => k_asm); (case sn => (first | k_asm | (refine News.sub (by k_asm) ?_; lcg_sub)))) | ((with_reducible show SIB1 _); (show ∀ _, _ → _); refine SIAt.ind ?_; intro hz9 tkz9 Fz9 Nz9; k_sweep; (try k_fold)) | ((with_reducible show SIB2 _); (show ∀ _ _, _ → _); intro tz9; refine SIAt.ind ?_; intro hz9 tkz9 Fz9 Nz9; k_sweep) | ((with_reducible show SBB2 _); (show ∀ _ _ _ _, _ → _); intro Dz9 tz9 uz9; refine SIAt.ind ?_; intro hz9 tkz9 Fz9 Nz9; k_sweep)); w_strict k_steps))
    unfold HaltF
    rename Fr _ _ _ _ => lF
    rename News _ _ _ _ => lN
    exact way_close lF lN hIcc hI2 (by k_mem) way_m5 (wCost3 ..) rfl
theorem each_ok {w : World} {mean : ExcName → Option Value} {mg mb : Str → Option Value} {dp un : Nat} {gd : Option (List Code)} {cn : Str} {nms : List (Str × NameKind)} {ig ic : Bool} {mo : List (Str × Const)} {a : Addr} {ccd : Value} {cl : List (Str × Addr)} {outer : List Env} {A₀ : Around} {base h₀ : Heap} {L : Addr} {m : Str → Option Value} {s : Shared} {Q E : Value → Shared → Prop}   {ti td tl i0 i1 i2 lw q0 q1 q2 lm lk : Addr} {hh : Int} {kt : Tok} {nd il nw j0 j1 j2 nq nk : Nat} {w0 w1 w2 : Str} {t0 t1 t2 u0 u1 u2 : Tok}
   {y00 y01 y02 y10 y11 y12 y20 y21 y22 : Str} {t00 t01 t02 t10 t11 t12 t20 t21 t22 : Tok} {x0 x1 x2 : Str} {v0 v1 v2 : Tok} {c0 c1 c2 c3 c4 c5 c6 c7 c8 : Int} {s0 s1 s2 s3 s4 s5 s6 s7 s8 : Tok}
   (hok : ∀ p j, okText (row3 y00 y01 y02 y10 y11 y12 y20 y21 y22 p j)) (hdl : tl ≠ lw ∧ tl ≠ q0 ∧ tl ≠ q1 ∧ tl ≠ q2 ∧ tl ≠ lm ∧ tl ≠ lk)
   (C : Cx w mean mg mb dp un A₀ base outer h₀ L m s [(ti, instObj 241 td), (td, dictOf [⟨hh, .str (Str.ofString "_headers") kt, .ref tl⟩] nd), (tl, listOf #[.ref i0, .ref i1, .ref i2] il), (i0, tup2 (nm 0) t0 w0 u0), (i1, tup2 (nm 1) t1 w1 u1), (i2, tup2 (nm 2) t2 w2 u2), (lw, listOf #[.ref q0, .ref q1, .ref q2] nw), (q0, listOf #[.str y00 t00, .str y01 t01, .str y02 t02] j0), (q1, listOf #[.str y10 t10, .str y11 t11, .str y12 t12] j1), (q2, listOf #[.str y20 t20, .str y21 t21, .str y22 t22] j2), (lm, listOf #[.str x0 v0, .str x1 v1, .str x2 v2] nq), (lk, listOf #[.int c0 s0, .int c1 s1, .int c2 s2, .int c3 s3, .int c4 s4, .int c5 s5, .int c6 s6, .int c7 s7, .int c8 s8] nk)] 7)
   (g : Nat → EaSt) (hg : g = eaIter [c0, c1, c2, c3, c4, c5, c6, c7, c8] (ms3 x0 x1 x2) (row3 y00 y01 y02 y10 y11 y12 y20 y21 y22) ⟨w0, w1, w2, 0, 0, []⟩)
   (ret : ∀ (n : Nat) (lt ls r0 r1 r2 : Addr) (rl e : Nat) (vs : List Value) (t a0 a1 a2 b0 b1 b2 : Tok) h' tk', n ≤ 81 → (∀ j, j < n → (g j).kept ≠ 3) → (n = 81 ∨ (g n).kept = 3) → StrsAre vs (g n).steps → Fr h₀ L h' m → Keep [(tl, listOf #[.ref i0, .ref i1, .ref i2] il), (i0, tup2 (nm 0) t0 w0 u0), (i1, tup2 (nm 1) t1 w1 u1), (i2, tup2 (nm 2) t2 w2 u2)] s.heap h' →
     News h₀ L h' [(lt, { cls := .type "tuple", data := .seq #[.ref ls, .int (g n).gained t] }), (ls, listOf vs.toArray e), (tl, listOf #[.ref r0, .ref r1, .ref r2] rl), (r0, tup2 (nm n) a0 (g n).w0 b0), (r1, tup2 (nm (n + 1)) a1 (g n).w1 b1), (r2, tup2 (nm (n + 2)) a2 (g n).w2 b2)] → Q (.ref lt) { s with heap := h', toks := tk' }) :
   wpAny (mdl w) (tp dp un gd cn nms ig ic mo L a ccd cl outer) (call (.ref 401) [.ref ti, .ref lw, .ref lm, .ref lk]) Q E s := by
  exact each_s1.2 ⟨each_s2.2 ⟨each_s3.2 ⟨each_s4⟩⟩⟩ hok hdl C g hg ret
end
end
section
open PySem PySem.W PyProof.Rows
set_option maxRecDepth 100000
set_option maxHeartbeats 8000000
theorem msk_mod (z : Int) : Msk (1 + z.fmod 7) := by
  have a := Int.fmod_nonneg_of_pos z (by decide : (0:Int) < 7)
  have b := Int.fmod_lt_of_pos z (by decide : (0:Int) < 7)
  exact ⟨by omega, by omega⟩

/-- a row of masks, as a list -/
noncomputable abbrev mrow (a0 a1 a2 : Int) (u0 u1 u2 : Tok) : Obj := listOf #[.int a0 u0, .int a1 u1, .int a2 u2] 0
theorem mrow_inj {a0 a1 a2 b0 b1 b2 : Int} {u0 u1 u2 v0 v1 v2 : Tok} (h : mrow a0 a1 a2 u0 u1 u2 = mrow b0 b1 b2 v0 v1 v2) : a0 = b0 ∧ a1 = b1 ∧ a2 = b2 := by
  injection h with _ _ h
  injection h with h
  injection h with h
  injection h with h1 h
  injection h with h2 h
  injection h with h3 _
  injection h1 with h1
  injection h2 with h2
  injection h3 with h3
  exact ⟨h1, h2, h3⟩
theorem names_tb {P : Prop} {h₀ h : Heap} {L qm it tl ti td : Addr} {fm : Value} {oi : Obj} {hh : Int} {kt : Tok} {nd nl : Nat} {rest : Led} (_N : News h₀ L h ((qm, methodObj fm (.ref ti)) :: (it, oi) :: (tl, listOf #[] nl) :: (ti, instObj 241 td) :: (td, dictOf [⟨hh, .str (Str.ofString "_headers") kt, .ref tl⟩] nd) :: rest))
   (k : ∀ it' tl' ti' td' oi' hh' kt', it' = it → tl' = tl → ti' = ti → td' = td → oi' = oi → hh' = hh → kt' = kt → P) : P := k _ _ _ _ _ _ _ rfl rfl rfl rfl rfl rfl rfl
theorem names_itr {P : Prop} {h₀ h : Heap} {L qm : Addr} {om : Obj} {p : Addr × Obj} {it : Addr} {oi : Obj} {rest : Led} (_N : News h₀ L h ((qm, om) :: (it, oi) :: p :: rest)) (k : ∀ oi', oi' = oi → P) : P := k _ rfl


noncomputable def NoTupR (o : Obj) : Prop := o.cls ≠ .type "tuple" ∨ ∃ v, o.data = Data.cell v
theorem noTup_list {its : Array Value} {n : Nat} : NoTupR (listOf its n) := .inl (by intro q; injection q with q; exact absurd (show "list" = "tuple" from q) (by decide))
theorem noTup_dict {es : List DictEntry} {n : Nat} : NoTupR (dictOf es n) := .inl (by intro q; injection q with q; exact absurd (show "dict" = "tuple" from q) (by decide))
theorem noTup_inst {d : Addr} : NoTupR (instObj 241 d) := .inl (fun q => by cases q)
theorem ne_tupR {h₀ h : Heap} {L p D : Addr} {led : Led} {x y : Str} {t u : Tok} {o : Obj} (N : News h₀ L h led) (hp : (p, tup2 x t y u) ∈ led) (hD : (D, o) ∈ led) (hc : NoTupR o) : p ≠ D := by
  rcases hc with hc | ⟨v, hv⟩
  · exact news_ne N hp hD fun q => hc q.symm
  · exact ne_data N hp hD (by rw [hv]; exact fun q => by cases q)
theorem off4R {h₀ h : Heap} {L tl p0 p1 p2 : Addr} {all others : Led} {o : Obj} {n0 n1 n2 y0 y1 y2 : Str} {t0 t1 t2 u0 u1 u2 : Tok} (N : News h₀ L h all) (hs : ∀ p ∈ others, p ∈ all) (hc : ∀ p ∈ others, NoTupR p.2) (ht : ∀ p ∈ others, p.1 ≠ tl) (h0 : (p0, tup2 n0 t0 y0 u0) ∈ all) (h1 : (p1, tup2 n1 t1 y1 u1) ∈ all) (h2 : (p2, tup2 n2 t2 y2 u2) ∈ all) :
    ∀ p ∈ others, ∀ q ∈ [(tl, o), (p0, tup2 n0 t0 y0 u0), (p1, tup2 n1 t1 y1 u1), (p2, tup2 n2 t2 y2 u2)], q.1 ≠ p.1 := fun p hp q hq => by
  simp only [List.mem_cons, List.not_mem_nil, or_false] at hq
  rcases hq with rfl | rfl | rfl | rfl
  · exact Ne.symm (ht p hp)
  · exact ne_tupR N h0 (hs p hp) (hc p hp)
  · exact ne_tupR N h1 (hs p hp) (hc p hp)
  · exact ne_tupR N h2 (hs p hp) (hc p hp)
theorem row3_allR {P : Str → Prop} {y00 y01 y02 y10 y11 y12 y20 y21 y22 : Str} (h0 : P y00) (h1 : P y01) (h2 : P y02) (h3 : P y10) (h4 : P y11) (h5 : P y12) (h6 : P y20) (h7 : P y21) (h8 : P y22) (p j : Nat) : P (row3 y00 y01 y02 y10 y11 y12 y20 y21 y22 p j) := by
  unfold row3 sel3
  split <;> split <;> assumption

theorem ch9_allR {P : Int → Prop} {a00 a01 a02 a10 a11 a12 a20 a21 a22 : Int} (h0 : P a00) (h1 : P a01) (h2 : P a02) (h3 : P a10) (h4 : P a11) (h5 : P a12) (h6 : P a20) (h7 : P a21) (h8 : P a22) (p j : Nat) : P (ch9 a00 a01 a02 a10 a11 a12 a20 a21 a22 p j) := by
  unfold ch9 sel3
  split <;> split <;> assumption
theorem keep_all_newsR {h₀ h h' : Heap} {L : Addr} {a b : Led} (k : Keep [] h h') (Na : News h₀ L h' a) (N : News h₀ L h b) : News h₀ L h' (a ++ b) := fun p hp => by
  rcases List.mem_append.mp hp with hp | hp
  · exact Na p hp
  · exact Keep.all k N p hp

theorem all_cons {a : Addr × Obj} {l : Led} {P : Obj → Prop} (h : P a.2) (t : ∀ p ∈ l, P p.2) : ∀ p ∈ a :: l, P p.2 := fun p hp => by
  rcases List.mem_cons.mp hp with rfl | hp
  · exact h
  · exact t p hp
theorem zip_str_str {g : Str → Str} {x0 x1 x2 : Str} {t0 t1 t2 : Tok} {ys : List Value} (z : Zip2 (fun v y => ∃ x t u, v = .str x t ∧ y = .str (g x) u) [.str x0 t0, .str x1 t1, .str x2 t2] ys) : Str3 (g x0) (g x1) (g x2) ys :=
  have k : ∀ {x : Str} {t : Tok} {y : Value}, (∃ x' t' u, Value.str x t = .str x' t' ∧ y = .str (g x') u) → ∃ u, y = .str (g x) u := fun ⟨_, _, u, e, h⟩ => by cases e; exact ⟨u, h⟩
  z.k3 fun _ _ _ h0 h1 h2 => .of (k h0) (k h1) (k h2)
theorem zip_int_str {g : Int → Str} {x0 x1 x2 : Int} {t0 t1 t2 : Tok} {ys : List Value} (z : Zip2 (fun v y => ∃ x t u, v = .int x t ∧ y = .str (g x) u) [.int x0 t0, .int x1 t1, .int x2 t2] ys) : Str3 (g x0) (g x1) (g x2) ys :=
  have k : ∀ {x : Int} {t : Tok} {y : Value}, (∃ x' t' u, Value.int x t = .int x' t' ∧ y = .str (g x') u) → ∃ u, y = .str (g x) u := fun ⟨_, _, u, e, h⟩ => by cases e; exact ⟨u, h⟩
  z.k3 fun _ _ _ h0 h1 h2 => .of (k h0) (k h1) (k h2)
inductive MaskRow : Value → Obj → Prop
  | mk {v : Value} {a0 a1 a2 : Int} {u0 u1 u2 : Tok} (h0 : Msk a0) (h1 : Msk a1) (h2 : Msk a2) : MaskRow v (listOf #[.int a0 u0, .int a1 u1, .int a2 u2] 0)
inductive Masks3 (R : Led) : List Value → Led → Prop
  | mk (r0 r1 r2 : Addr) (a00 a01 a02 a10 a11 a12 a20 a21 a22 : Int) (u00 u01 u02 u10 u11 u12 u20 u21 u22 : Tok) (h00 : Msk a00) (h01 : Msk a01) (h02 : Msk a02) (h10 : Msk a10) (h11 : Msk a11) (h12 : Msk a12) (h20 : Msk a20) (h21 : Msk a21) (h22 : Msk a22) :
      Masks3 R [.ref r0, .ref r1, .ref r2] ((r2, mrow a20 a21 a22 u20 u21 u22) :: (r1, mrow a10 a11 a12 u10 u11 u12) :: (r0, mrow a00 a01 a02 u00 u01 u02) :: R)
theorem rows_masks {R : Led} {a b c : Value} {ys : List Value} {news : Led} (z : Rows R MaskRow [a, b, c] ys news) : Masks3 R ys news := by
  refine z.k3 (P := fun ys news => Masks3 R ys news) fun _ _ _ _ _ _ h0 h1 h2 => ?_
  cases h0 with | mk h00 h01 h02 => cases h1 with | mk h10 h11 h12 => cases h2 with | mk h20 h21 h22 => exact ⟨_, _, _, _, _, _, _, _, _, _, _, _, _, _, _, _, _, _, _, _, _, h00, h01, h02, h10, h11, h12, h20, h21, h22⟩
inductive WishRow (R : Led) (g : Int → Str) : Value → Obj → Prop
  | mk (r : Addr) (a0 a1 a2 : Int) (u0 u1 u2 t0 t1 t2 : Tok) (hm : (r, mrow a0 a1 a2 u0 u1 u2) ∈ R) : WishRow R g (.ref r) (LCg.lst [.str (g a0) t0, .str (g a1) t1, .str (g a2) t2])
theorem wish_is {h₀ h : Heap} {L : Addr} {R : Led} {g : Int → Str} {r : Addr} {a0 a1 a2 : Int} {u0 u1 u2 : Tok} {o : Obj} (N : News h₀ L h R) (hm : (r, mrow a0 a1 a2 u0 u1 u2) ∈ R) (w : WishRow R g (.ref r) o) : ∃ t0 t1 t2, o = LCg.lst [.str (g a0) t0, .str (g a1) t1, .str (g a2) t2] := by
  cases w with
  | mk r b0 b1 b2 v0 v1 v2 t0 t1 t2 hm' =>
    obtain ⟨rfl, rfl, rfl⟩ := mrow_inj (news_fun N hm' hm)
    exact ⟨_, _, _, rfl⟩
inductive Wish3 (R : Led) (s00 s01 s02 s10 s11 s12 s20 s21 s22 : Str) : List Value → Led → Prop
  | mk (q0 q1 q2 : Addr) (t00 t01 t02 t10 t11 t12 t20 t21 t22 : Tok) : Wish3 R s00 s01 s02 s10 s11 s12 s20 s21 s22 [.ref q0, .ref q1, .ref q2] ((q2, LCg.lst [.str s20 t20, .str s21 t21, .str s22 t22]) :: (q1, LCg.lst [.str s10 t10, .str s11 t11, .str s12 t12]) :: (q0, LCg.lst [.str s00 t00, .str s01 t01, .str s02 t02]) :: R)
theorem rows_wish {h₀ h : Heap} {L : Addr} {R : Led} {g : Int → Str} {r0 r1 r2 : Addr} {a00 a01 a02 a10 a11 a12 a20 a21 a22 : Int} {u00 u01 u02 u10 u11 u12 u20 u21 u22 : Tok} {ys : List Value} {news : Led} (N : News h₀ L h R)
    (m0 : (r0, mrow a00 a01 a02 u00 u01 u02) ∈ R) (m1 : (r1, mrow a10 a11 a12 u10 u11 u12) ∈ R) (m2 : (r2, mrow a20 a21 a22 u20 u21 u22) ∈ R) (z : Rows R (WishRow R g) [.ref r0, .ref r1, .ref r2] ys news) : Wish3 R (g a00) (g a01) (g a02) (g a10) (g a11) (g a12) (g a20) (g a21) (g a22) ys news := by
  refine z.k3 (P := fun ys news => Wish3 R _ _ _ _ _ _ _ _ _ ys news) fun q0 q1 q2 o0 o1 o2 w0 w1 w2 => ?_
  cases wish_is N m0 w0 with | intro _ e0 => cases e0 with | intro _ e0 => cases e0 with | intro _ e0 => cases wish_is N m1 w1 with | intro _ e1 => cases e1 with | intro _ e1 => cases e1 with | intro _ e1 => cases wish_is N m2 w2 with | intro _ e2 => cases e2 with | intro _ e2 => cases e2 with | intro _ e2 => rw [e0, e1, e2]; exact ⟨_, _, _, _, _, _, _, _, _, _, _, _⟩
inductive RefM (R : Led) : Value → Prop
  | mk (r : Addr) (a0 a1 a2 : Int) (u0 u1 u2 : Tok) (h : (r, mrow a0 a1 a2 u0 u1 u2) ∈ R) : RefM R (.ref r)
theorem ref3_is {R : Led} {r0 r1 r2 : Addr} {a00 a01 a02 a10 a11 a12 a20 a21 a22 : Int} {u00 u01 u02 u10 u11 u12 u20 u21 u22 : Tok} {v : Value}
    (m0 : (r0, mrow a00 a01 a02 u00 u01 u02) ∈ R) (m1 : (r1, mrow a10 a11 a12 u10 u11 u12) ∈ R) (m2 : (r2, mrow a20 a21 a22 u20 u21 u22) ∈ R) (hv : v ∈ [Value.ref r0, .ref r1, .ref r2]) : RefM R v := by
  rcases List.mem_cons.mp hv with rfl | hv
  · exact ⟨_, _, _, _, _, _, _, m0⟩
  rcases List.mem_cons.mp hv with rfl | hv
  · exact ⟨_, _, _, _, _, _, _, m1⟩
  rw [List.mem_singleton.mp hv]
  exact ⟨_, _, _, _, _, _, _, m2⟩
section
variable {P : Prop} {h₀ h : Heap} {L : Addr} {m : Str → Option Value} {x1 x2 x3 x4 x5 : Str} {v1 v2 v3 v4 v5 : Value} {i : Int}
theorem names3T (F : Fr h₀ L h m) (e1 : ∃ t, m x1 = some (.int i t)) (e2 : m x2 = some v2) (e3 : m x3 = some v3) (k : ∀ M t, Fr h₀ L h M → M x1 = some (.int i t) → M x2 = some v2 → M x3 = some v3 → P) : P := by
  obtain ⟨t, e1⟩ := e1
  exact k m t F e1 e2 e3
theorem names3 (F : Fr h₀ L h m) (e1 : m x1 = some v1) (e2 : m x2 = some v2) (e3 : m x3 = some v3) (k : ∀ M, Fr h₀ L h M → M x1 = some v1 → M x2 = some v2 → M x3 = some v3 → P) : P := k m F e1 e2 e3
theorem names4 (F : Fr h₀ L h m) (e1 : m x1 = some v1) (e2 : m x2 = some v2) (e3 : m x3 = some v3) (e4 : m x4 = some v4) (k : ∀ M, Fr h₀ L h M → M x1 = some v1 → M x2 = some v2 → M x3 = some v3 → M x4 = some v4 → P) : P := k m F e1 e2 e3 e4
theorem names5 (F : Fr h₀ L h m) (e1 : m x1 = some v1) (e2 : m x2 = some v2) (e3 : m x3 = some v3) (e4 : m x4 = some v4) (e5 : m x5 = some v5) (k : ∀ M, Fr h₀ L h M → M x1 = some v1 → M x2 = some v2 → M x3 = some v3 → M x4 = some v4 → M x5 = some v5 → P) : P := k m F e1 e2 e3 e4 e5
end
theorem nine {P : Prop} {α : Type} (a b c d e f g h i : α) (k : ∀ a' b' c' d' e' f' g' h' i', a' = a → b' = b → c' = c → d' = d → e' = e → f' = f → g' = g → h' = h → i' = i → P) : P := k _ _ _ _ _ _ _ _ _ rfl rfl rfl rfl rfl rfl rfl rfl rfl
theorem three {P : Prop} {α : Type} (a b c : α) (k : ∀ a' b' c', a' = a → b' = b → c' = c → P) : P := k _ _ _ rfl rfl rfl
end
section
open PySem PySem.W PyProof.Rows
set_option maxRecDepth 100000
set_option maxHeartbeats 8000000
section
open PySem.Spec PyProof.V PySem.Calls
theorem ks_canLay : ∀ ns : List Str, (∀ x ∈ ns, PyData.strOk x = true) → PyData.canLayAll0 (ns.map PyData.str) = true
  | [], _ => rfl
  | a :: r, h => by simp [PyData.canLayAll0, PyData.canLay0, ks_canLay r (fun x hx => h x (.tail _ hx)), h a (.head _)]
theorem ks_depth : ∀ ns : List Str, PyData.depthAll (ns.map PyData.str) = 0
  | [] => rfl
  | _ :: r => by simp [PyData.depthAll, PyData.depth, ks_depth r]
theorem ks_shaped (ns : List Str) (h : ∀ x ∈ ns, PyData.strOk x = true) : SeqAt.shaped (.list (ns.map PyData.str)) = true := by
  simp [SeqAt.shaped, PyData.canLay0, PyData.depth, ks_canLay ns h, ks_depth]
theorem ks_sameAll : ∀ ns : List Str, PySem.Spec.sameAll (ns.map PyData.str) (ns.map PyData.str) = true
  | [] => by simp [PySem.Spec.sameAll]
  | a :: r => by simp only [List.map_cons, PySem.Spec.sameAll, PySem.Spec.same, ks_sameAll r]; simp
theorem ks_carried : ∀ {vs : List Value} {ns : List Str}, StrsAre vs ns → CarriedAll vs (ns.map PyData.str)
  | _, _, .nil => .nil
  | _, _, .cons _ t r => .cons (.str _ t) (ks_carried r)
theorem ks_ne {prog : Program} {w : World} {A : Around} {E : Value → Shared → Prop} {s : Shared} {a b : Addr} {xs ys : List Value} {ns : List Str} {Q : Value → Shared → Prop} (ha : s.heap.IsList a xs.toArray) (hb : s.heap.IsList b ys.toArray) (hi : StrsAre xs ns) (hj : StrsAre ys ns) (ho : ∀ x ∈ ns, PyData.strOk x = true) (hu : A.units + 64 < cLine) (h : Q (.bool false) s) :
    wpAny (model prog w) A (compareOp .NotEq (.ref a) (.ref b)) Q E s :=
  ne_dataH_same (reads_newData ha (ks_carried hi)) (reads_newData hb (ks_carried hj)) (ks_shaped _ ho) (ks_shaped _ ho) hu (SeqAt.noMix_of_shape (.list .str) rfl _ _ (list_map_has fun _ => rfl) (list_map_has fun _ => rfl)) (by
    have e : PySem.Spec.same (.list (ns.map PyData.str)) (.list (ns.map PyData.str)) = true := by simp only [PySem.Spec.same]; exact ks_sameAll ns
    rw [e]; exact h)
end
theorem strOk_of {x : Str} (h : okText x) : PyData.strOk x = true := by
  unfold PyData.strOk
  rw [Array.all_eq_true_iff_forall_mem]
  intro c hc
  have := h c hc
  exact decide_eq_true (by omega)
theorem sl_steps {cs : List Int} {tell : Int → Str} {ch : Nat → Nat → Int} {P : Str → Prop} (h : ∀ p i, p < 3 → i < 3 → P (tell (ch p i))) : ∀ n, ∀ x ∈ (slIter cs tell ch (slStart ch) n).steps, P x
  | 0, x, hx => nomatch hx
  | n + 1, x, hx => by
    have ih := sl_steps (cs := cs) h n
    generalize hσ : slIter cs tell ch (slStart ch) n = σ at ih
    have e : ∃ i, i < 3 ∧ (slIter cs tell ch (slStart ch) (n + 1)).steps = σ.steps ++ [tell (ch (σ.steps.length % 3) i)] := by
      refine ⟨best3 (slKey cs tell σ (σ.steps.length % 3) (ch (σ.steps.length % 3) 0)) (slKey cs tell σ (σ.steps.length % 3) (ch (σ.steps.length % 3) 1)) (slKey cs tell σ (σ.steps.length % 3) (ch (σ.steps.length % 3) 2)), best3_lt _ _ _, ?_⟩
      show (slTurn cs tell ch (slIter cs tell ch (slStart ch) n)).steps = _
      rw [hσ]; rfl
    obtain ⟨i, hi, e⟩ := e
    rw [e] at hx
    rcases List.mem_append.mp hx with hx | hx
    · exact ih x hx
    · rw [List.mem_singleton.mp hx]
      exact h _ i (Nat.mod_lt _ (by decide)) hi
theorem lenS {prog : Program} {w : World} {A : Around} {E : Value → Shared → Prop} {s : Shared} {h₀ : Heap} {L : Addr} {D : Addr} {vs : List Value} {e n : Nat} {news : Led} {Q : Value → Shared → Prop} (N : News h₀ L s.heap news) (hm : (D, listOf vs.toArray e) ∈ news) (hl : vs.length = n) (hn : n ≤ 81)
    (h : ∀ t tk, Q (.int (n : Int) t) { s with toks := tk }) : wpAny (model prog w) A (call (.builtin "len") [.ref D]) Q E s :=
  len_list (items := vs.toArray) (News.isList N hm) (by simp; omega) (by rw [show ((vs.toArray.size : Nat) : Int) = (n : Int) from by simp [hl]]; exact h _ _)
theorem sz3 (m : Nat) (h : m + 3 ≤ 81) : Builtin.Range.small (((m + 3 : Nat) : Int) - 3) ((m + 3 : Nat) : Int) 1 = true ∧ Builtin.Range.rangeSize (((m + 3 : Nat) : Int) - 3) ((m + 3 : Nat) : Int) 1 = ((3 : Nat) : Int) := by
  refine ⟨PySem.small_one (by omega) (by omega) (by omega) (by omega), ?_⟩
  unfold Builtin.Range.rangeSize
  rw [if_pos (by decide), if_pos (by omega), Int.ediv_one]
  omega
noncomputable abbrev turnI (m i : Nat) : Int := (((m + 3 : Nat) : Int) - 3) + (i : Int)
noncomputable abbrev bigB (m i : Nat) : Bool := ((turnI m i).fdiv 3).fmod 2 == 0
theorem turn_nat (m i : Nat) : (turnI m i).toNat = m + i := by unfold turnI; omega
theorem big_nm (m i : Nat) : Txt.item (if bigB m i then Str.ofString "ABC" else Str.ofString "abc") ((turnI m i).fmod 3) = nm (m + 3 + i) ∧ 0 ≤ (turnI m i).fmod 3 ∧ (turnI m i).fmod 3 < 3 := by
  have e : turnI m i = ((m + i : Nat) : Int) := by unfold turnI; omega
  have e3 : (turnI m i).fmod 3 = ((((m + i) % 6) % 3 : Nat) : Int) := by rw [e, Int.fmod_eq_emod_of_nonneg _ (by decide)]; omega
  have e2 : ((turnI m i).fdiv 3).fmod 2 = ((((m + i) % 6) / 3 : Nat) : Int) := by rw [e, Int.fdiv_eq_ediv_of_nonneg _ (by decide), Int.fmod_eq_emod_of_nonneg _ (by decide)]; omega
  have en : nm (m + 3 + i) = nm (((m + i) % 6 + 3) % 6) := by rw [nm_mod, show (m + 3 + i) % 6 = ((m + i) % 6 + 3) % 6 by omega]
  unfold bigB
  rw [e2, e3, en]
  refine ⟨?_, by omega, by omega⟩
  rcases six (m + i) with h | h | h | h | h | h <;> rw [h] <;> decide +kernel
theorem strs_end {vs : List Value} {l : List Str} {a b c : Str} (h : StrsAre vs (l ++ [a, b, c])) : ∃ t0 t1 t2, vs[l.length]? = some (.str a t0) ∧ vs[l.length + 1]? = some (.str b t1) ∧ vs[l.length + 2]? = some (.str c t2) := by
  induction l generalizing vs with
  | nil => cases h with | cons x t r => cases r with | cons y u r => cases r with | cons z v r => exact ⟨_, _, _, rfl, rfl, rfl⟩
  | cons x l ih => cases h with | cons y u r => exact ih r
theorem if_join {M : Model} {A : Around} {E : Value → Shared → Prop} {s : Shared} {env : Env} {h₀ : Heap} {L : Addr} {m : Str → Option Value} {news : Led} {test : PySem.Expr} {x y : Str} {k1 k2 : Nat} {p p1 p2 : Pos} {k : Int} {t : Tok} {Q : Value → Shared → Prop} (_F : Fr h₀ L s.heap m) (_N : News h₀ L s.heap news) (_ht : m (Str.ofString "turn") = some (.int k t))
    (hc : wpAny M A (isTrue test env (eval test env)) (fun c s₂ => SIC ((k.fdiv 3).fmod 2 == 0) h₀ L m news s c s₂) E s)
    (hk : ∀ (t tk : Nat) (h : Heap), Fr h₀ L h m → News h₀ L h news → Q (.str (if (k.fdiv 3).fmod 2 == 0 then x else y) t) { s with heap := h, toks := tk }) :
    wpAny M A (eval (.IfExp test (.Constant (.str x) k1 p1) (.Constant (.str y) k2 p2) p) env) Q E s := by
  refine IfExp_ (wpAny_mono hc (fun c s₂ hkc => ?_) fun _ _ h => h)
  obtain ⟨rfl, h, tk, rfl, F, N⟩ := hkc
  cases hb : ((k.fdiv 3).fmod 2 == 0) with
  | true => rw [hb] at hk; exact PySem.Calls.Constant_str (hk _ _ _ F N)
  | false => rw [hb] at hk; exact PySem.Calls.Constant_str (hk _ _ _ F N)
theorem letter_row {prog : Program} {w : World} {A : Around} {E : Value → Shared → Prop} {s : Shared} {m i : Nat} {value slice : PySem.Expr} {u u' : Tok} {Q : Value → Shared → Prop} (h : ∀ t tk, Q (.str (nm (m + 3 + i)) t) { s with toks := tk })
    (hs : ∀ x k, subscripted slice false (.str x u) (.int k u') = operate [.str x u, .int k u'] (getItem (.str x u) (.int k u'))) (hg : ∀ x r, letTemporaryGo value (.str x u) r = pure ()) :
    wpAny (model prog w) A (subscriptTail value slice (.str (if ((turnI m i).fdiv 3).fmod 2 == 0 then Str.ofString "ABC" else Str.ofString "abc") u) (.int ((turnI m i).fmod 3) u')) Q E s := by
  have e := big_nm m i
  have hl : (if bigB m i then Str.ofString "ABC" else Str.ofString "abc").length = 3 := by cases bigB m i <;> rfl
  refine KXi.item hl (by omega) (by omega) (by decide) (fun _ => ?_) (hs _ _) (hg _)
  have z : Txt.item (if ((turnI m i).fdiv 3).fmod 2 == 0 then Str.ofString "ABC" else Str.ofString "abc") ((turnI m i).fmod 3) = nm (m + 3 + i) := e.1
  rw [z]
  exact h _ _
open Classical in
theorem rows_eq {prog : Program} {w : World} {A : Around} {E : Value → Shared → Prop} {s : Shared} {h₀ : Heap} {L a b p0 p1 p2 z0 z1 z2 : Addr} {news : Led} {ka kb : Nat} {n0 n1 n2 w0 w1 w2 : Str} {t0 t1 t2 u0 u1 u2 t0' t1' t2' u0' u1' u2' : Tok} {Q : Value → Shared → Prop} (N : News h₀ L s.heap news)
    (ma : (a, listOf #[.ref p0, .ref p1, .ref p2] ka) ∈ news) (mb : (b, listOf #[.ref z0, .ref z1, .ref z2] kb) ∈ news)
    (P0 : (p0, tup2 n0 t0 w0 u0) ∈ news) (P1 : (p1, tup2 n1 t1 w1 u1) ∈ news) (P2 : (p2, tup2 n2 t2 w2 u2) ∈ news) (Z0 : (z0, tup2 n0 t0' w0 u0') ∈ news) (Z1 : (z1, tup2 n1 t1' w1 u1') ∈ news) (Z2 : (z2, tup2 n2 t2' w2 u2') ∈ news)
    (on : PyData.strOk n0 = true ∧ PyData.strOk n1 = true ∧ PyData.strOk n2 = true) (ow : PyData.strOk w0 = true ∧ PyData.strOk w1 = true ∧ PyData.strOk w2 = true) (hu : A.units + 64 < cLine) (h : Q (.bool true) s) :
    wpAny (model prog w) A (compareOp .Eq (.ref a) (.ref b)) Q E s := by
  obtain ⟨o0, o1, o2⟩ := on
  obtain ⟨q0, q1, q2⟩ := ow
  have hk : ∀ d ∈ [Dat.tuple [.str n0, .str w0], .tuple [.str n1, .str w1], .tuple [.str n2, .str w2]], kqdOk 8 d = true := by simp [kqdOk, o0, o1, o2, q0, q1, q2]
  have row : ∀ {x y : Str} {t u : Tok} {p : Addr}, (p, tup2 x t y u) ∈ news → DatIn news (.ref p) (.tuple [.str x, .str y]) := fun m => .tuple m (.cons (.str _ _) (.cons (.str _ _) .nil))
  refine kqd_eq (ds := [.tuple [.str n0, .str w0], .tuple [.str n1, .str w1], .tuple [.str n2, .str w2]]) (xs := [.ref p0, .ref p1, .ref p2]) (ys := [.ref z0, .ref z1, .ref z2]) (n₁ := news) (n₂ := news) N ma rfl rfl (.cons (row P0) (.cons (row P1) (.cons (row P2) .nil))) (fun _ q => q) mb rfl rfl (.cons (row Z0) (.cons (row Z1) (.cons (row Z2) .nil))) (fun _ q => q) hk hk hu ?_
  rw [decide_eq_true rfl]
  exact h
theorem opq10 {P : Prop} {h₀ h : Heap} {L : Addr} {b0 b1 b2 b3 b4 b5 b6 b7 b8 b9 : Addr × Obj} (N : News h₀ L h [b0, b1, b2, b3, b4, b5, b6, b7, b8, b9])
    (k : ∀ R : Led, News h₀ L h R → b0 ∈ R → b1 ∈ R → b2 ∈ R → b3 ∈ R → b4 ∈ R → b5 ∈ R → b6 ∈ R → b7 ∈ R → b8 ∈ R → b9 ∈ R → P) : P := k _ N (.head _) (.tail _ (.head _)) (.tail _ (.tail _ (.head _))) (.tail _ (.tail _ (.tail _ (.head _)))) (.tail _ (.tail _ (.tail _ (.tail _ (.head _))))) (.tail _ (.tail _ (.tail _ (.tail _ (.tail _ (.head _)))))) (.tail _ (.tail _ (.tail _ (.tail _ (.tail _ (.tail _ (.head _))))))) (.tail _ (.tail _ (.tail _ (.tail _ (.tail _ (.tail _ (.tail _ (.head _)))))))) (.tail _ (.tail _ (.tail _ (.tail _ (.tail _ (.tail _ (.tail _ (.tail _ (.head _))))))))) (.tail _ (.tail _ (.tail _ (.tail _ (.tail _ (.tail _ (.tail _ (.tail _ (.tail _ (.head _))))))))))
theorem unr_d2 {h₀ : Heap} {L : Addr} {s₁ : Shared} {I : Addr} {oI : Obj} {rest : (Str → Option Value) → Led → Prop} {h' : Heap} {tk : Nat} {m' : Str → Option Value} {a : Addr × Obj} {r : Led} (F : Fr h₀ L h' m') (N : News h₀ L h' (a :: (I, oI) :: r)) (ha : a.1 ≠ I) (off : ∀ p ∈ r, p.1 ≠ I) (k : rest m' (a :: r)) : UnrEndW h₀ L s₁ [(I, oI)] rest { s₁ with heap := h', toks := tk } :=
  UnrEndW.of1 F N (.tail _ (.head _)) (sub_cons (.head _) (sub_tail (sub_tail sub_self))) (off_cons ha off) k
end
section
open PySem PySem.W PyProof.Rows
set_option maxRecDepth 100000
set_option maxHeartbeats 8000000
section
local macro_rules | `(tactic| walk_at "subscriptTail Subscript Name Name Constant ref int") => `(tactic| (k_here; refine HaltF.intro ?_))
local macro_rules | `(tactic| walk_at "subscriptTail Name Constant ref int") => `(tactic| (k_here; refine HaltF.intro ?_))
local macro_rules | `(tactic| walk_at "subscriptTail Name Name ref int") => `(tactic| (k_here; refine HaltF.intro ?_))
local macro_rules | `(tactic| walk_at "exec Assign cons ListComp") => `(tactic| (k_here; refine HaltF.intro ?_))
local macro_rules | `(tactic| walk_at "eval ListComp") => `(tactic| (k_here; (with_reducible show wpAny _ _ (eval (Expr.ListComp _ _ _ _) (compEnvC _ _ _ _)) _ _ _); refine HaltF.intro ?_))
local macro_rules | `(tactic| walk_at "call type:enumerate") => `(tactic| (k_here; refine HaltF.intro ?_))
local macro_rules | `(tactic| walk_at "EnT") => `(tactic| (refine HaltF.intro ?_))
local macro_rules | `(tactic| walk_at "newTuple") => `(tactic| (k_here; refine HaltF.intro ?_))
local macro_rules | `(tactic| walk_at "CompSrc") => `(tactic| (refine HaltF.intro ?_))
local macro_rules | `(tactic| walk_at "eval Name") => `(tactic| (k_here; (rename Fr _ _ _ _ => kF); k_dflt (refine' nameX_L kF ?v ?_ ?a ?b; (case a => rfl); (case b => rfl); (case v => first | (with_unfolding_all rfl) | (with_unfolding_all assumption)); k_whole)))
local macro_rules | `(tactic| k_room) => `(tactic| exact Nat.le_of_ble_eq_true rfl)
local macro_rules | `(tactic| walk_at "exec For Tuple Name cons nil") => `(tactic| (refine HaltF.intro ?_))
local macro_rules | `(tactic| walk_at "call builtin:len") => `(tactic| (k_here; (with_reducible show wpAny _ _ (call (Value.builtin "len") [Value.ref _]) _ _ _); refine HaltF.intro ?_))
local macro_rules | `(tactic| walk_at "pyIter ref") => `(tactic| (k_here; refine HaltF.intro ?_))
local macro_rules | `(tactic| walk_at "compareOp NotEq ref ref") => `(tactic| (k_here; refine HaltF.intro ?_))
local macro_rules | `(tactic| walk_at "exec For Name Call cons nil") => `(tactic| (k_here; refine HaltF.intro ?_))
local macro_rules | `(tactic| walk_at "eval IfExp") => `(tactic| (k_here; (with_reducible show wpAny _ _ (eval (Expr.IfExp _ (Expr.Constant _ _ _) (Expr.Constant _ _ _) _) _) _ _ _); refine HaltF.intro ?_))
local macro_rules | `(tactic| walk_at "SIC") => `(tactic| (refine HaltF.intro ?_))
local macro_rules | `(tactic| walk_at "subscriptTail Name BinOp str int") => `(tactic| (k_here; refine HaltF.intro ?_))
local macro_rules | `(tactic| walk_at "compareOp Eq ref ref") => `(tactic| (k_here; refine HaltF.intro ?_))
local macro_rules | `(tactic| walk_at "UnrEndW") => `(tactic| (refine HaltF.intro ?_))
local macro_rules | `(tactic| k_lt $h) => `(tactic| (replace $h := allLt_of $h; simp only [AllLt, and_true] at $h:ident))
local macro_rules | `(tactic| walk_at "call ref") => `(tactic| (k_here; (with_reducible show wpAny _ _ (call (Value.ref _) (_ :: _) _) _ _ _); refine HaltF.intro ?_))
local macro_rules | `(tactic| k_qdec) => `(tactic| kernel_rfl)
noncomputable def law_s1 : (P : Prop) ×' (Stash P → PySem.Challenge.rw_xl0032_01.Holds) := by
  apply PSigma.mk
  intro hStash
  refine Mine.hd (by
    k_go0
    all_goals try k_fold
    refine let_body ?_
    intro A1 env1 qk1 ek1
    have hfl : (PySem.Challenge.rw_xl0032_01 = PySem.Challenge.rw_xl0032_01 ∧ Mine.hd.heap_1 = Mine.hd.heap_1) := by (k_fill; exact ⟨rfl, rfl⟩)
    clear hfl
    w_strict k_steps
    repeat (any_goals (unfold HaltF; (first | ((with_reducible show wpAny _ _ (subscriptTail (Expr.Subscript _ _ _) _ _ _) _ _ _); refine kba_turn (value' := PySem.Expr.Name (PySem.Str.ofString "_") ⟨0, 0, 0, 0⟩) (fun _ => rfl) ?_) | ((with_reducible show wpAny _ _ (subscriptTail _ _ (Value.ref _) (Value.int _ _)) _ _ _); refine' item_row ?k1 ?k2 ?k3 ?k4 ?k5 ?_ ?k7 ?k8; (case k1 => k_asm); (case k2 => k_mem); (case k3 => first | decide | omega); (case k4 => first | decide | omega); (case k5 => first | with_unfolding_all assumption | with_unfolding_all rfl); (case k7 => with_unfolding_all rfl); (case k8 => (intro _; with_unfolding_all rfl))) | ((with_reducible show wpAny _ _ (exec (Stmt.Assign [Expr.Name _ _] (Expr.ListComp _ _ _ _) _) _) _ _ _); (fail_if_success (with_reducible show wpAny _ _ (exec (Stmt.Assign [Expr.Name (Str.ofString "signs") _] _ _) _) _ _ _)); refine LCg.Assign_ListComp_U (F₀ := by k_asm) (by rfl) (by with_unfolding_all rfl) (by with_unfolding_all rfl) (by decide) (by rfl) (by decide) (by rfl) (by rfl) (by rfl) ?_) | ((with_reducible show wpAny _ _ (eval (Expr.ListComp _ _ _ _) _) _ _ _); refine LCg.ListComp_U (F₀ := by k_asm) (by with_unfolding_all rfl) (by decide) (by rfl) (by decide) (by rfl) ?_) | ((with_reducible show wpAny _ _ (call (Value.builtin "len") [Value.ref _]) _ _ _); refine lenS (by k_asm) (by k_mem) (by with_reducible assumption) (by with_reducible assumption) ?_; intro tz9 tkz9) | ((with_reducible show wpAny _ _ (exec (Stmt.For _ (Expr.Call _ _ _ _) _ _ _) _) _ _ _); (rename Fr _ _ _ _ => lFz9); (with_unfolding_all refine' For_turns lFz9 ?_); k_whole) | ((with_reducible show wpAny _ _ (eval (Expr.IfExp _ _ _ _) _) _ _ _); (rename Fr _ _ _ _ => lFz9); (rename News _ _ _ _ => lNz9); with_unfolding_all refine if_join lFz9 lNz9 (by rfl) ?_ ?_) | ((with_reducible show wpAny _ _ (subscriptTail _ _ (Value.str _ _) (Value.int _ _)) _ _ _); refine' letter_row ?_ ?k1 ?k2; (case k1 => (intro _ _; with_unfolding_all rfl)); (case k2 => (intro _ _; with_unfolding_all rfl))) | ((with_reducible show wpAny _ _ (newTuple _) _ _ _); refine' kup_newTuple ?F ?N ?_ ?z; (case F => k_asm); (case N => k_asm); (case z => kmk_size); intro Dz9 hz9 Fz9 Nz9 lz9; (try k_lt lz9); (try k_sweep)) | ((with_reducible show wpAny _ _ (pyIter (Value.ref _)) _ _ _); (fail_if_success (with_reducible (rename MkP1 _ => hMz9))); (rename IsRange _ _ _ _ _ _ _ _ => lRz9); (rename Fr _ _ _ _ => lFz9); (rename News _ _ _ _ => lNz9); (with_unfolding_all refine iter_rangeTurns (n := 3) (by rfl) lFz9 lNz9 lRz9 (by decide) (by rfl) ?_); clear lFz9 lRz9; intro iz9 lz9; (try k_lt lz9); dsimp only [tokInts]) | ((with_reducible show SIC _ _ _ _ _ _ _ _); refine' SIC.intro ?sf ?sn ?se; (case sf => k_asm); (case sn => k_asm); (case se => exact rfl))); w_strict k_steps))
    unfold HaltF
    rename Fr _ _ _ _ => lF
    rename News _ _ _ _ => lN
    refine' cells_ok (by assumption) (by assumption) ?kC ?_
    case kC => ktr_unf
    intro lc cvs cs0 e0 h' tk' hcv hcl F' k' N9 hf
    have N' := news_add k' lN N9 hf
    have l1 := news_off hf lN
    dsimp only [OffL] at l1
    obtain ⟨c0, c1, c2, c3, c4, c5, c6, c7, c8, c9, c10, c11, s0, s1, s2, s3, s4, s5, s6, s7, s8, s9, s10, s11⟩ := twelve hcv hcl
    clear lF lN k' N9
    w_strict k_steps
    repeat (any_goals (unfold HaltF; (first | ((with_reducible show wpAny _ _ (subscriptTail (Expr.Subscript _ _ _) _ _ _) _ _ _); refine kba_turn (value' := PySem.Expr.Name (PySem.Str.ofString "_") ⟨0, 0, 0, 0⟩) (fun _ => rfl) ?_) | ((with_reducible show wpAny _ _ (subscriptTail _ _ (Value.ref _) (Value.int _ _)) _ _ _); refine' item_row ?k1 ?k2 ?k3 ?k4 ?k5 ?_ ?k7 ?k8; (case k1 => k_asm); (case k2 => k_mem); (case k3 => first | decide | omega); (case k4 => first | decide | omega); (case k5 => first | with_unfolding_all assumption | with_unfolding_all rfl); (case k7 => with_unfolding_all rfl); (case k8 => (intro _; with_unfolding_all rfl))) | ((with_reducible show wpAny _ _ (exec (Stmt.Assign [Expr.Name _ _] (Expr.ListComp _ _ _ _) _) _) _ _ _); (fail_if_success (with_reducible show wpAny _ _ (exec (Stmt.Assign [Expr.Name (Str.ofString "signs") _] _ _) _) _ _ _)); refine LCg.Assign_ListComp_U (F₀ := by k_asm) (by rfl) (by with_unfolding_all rfl) (by with_unfolding_all rfl) (by decide) (by rfl) (by decide) (by rfl) (by rfl) (by rfl) ?_) | ((with_reducible show wpAny _ _ (eval (Expr.ListComp _ _ _ _) _) _ _ _); refine LCg.ListComp_U (F₀ := by k_asm) (by with_unfolding_all rfl) (by decide) (by rfl) (by decide) (by rfl) ?_) | ((with_reducible show wpAny _ _ (call (Value.builtin "len") [Value.ref _]) _ _ _); refine lenS (by k_asm) (by k_mem) (by with_reducible assumption) (by with_reducible assumption) ?_; intro tz9 tkz9) | ((with_reducible show wpAny _ _ (exec (Stmt.For _ (Expr.Call _ _ _ _) _ _ _) _) _ _ _); (rename Fr _ _ _ _ => lFz9); (with_unfolding_all refine' For_turns lFz9 ?_); k_whole) | ((with_reducible show wpAny _ _ (eval (Expr.IfExp _ _ _ _) _) _ _ _); (rename Fr _ _ _ _ => lFz9); (rename News _ _ _ _ => lNz9); with_unfolding_all refine if_join lFz9 lNz9 (by rfl) ?_ ?_) | ((with_reducible show wpAny _ _ (subscriptTail _ _ (Value.str _ _) (Value.int _ _)) _ _ _); refine' letter_row ?_ ?k1 ?k2; (case k1 => (intro _ _; with_unfolding_all rfl)); (case k2 => (intro _ _; with_unfolding_all rfl))) | ((with_reducible show wpAny _ _ (newTuple _) _ _ _); refine' kup_newTuple ?F ?N ?_ ?z; (case F => k_asm); (case N => k_asm); (case z => kmk_size); intro Dz9 hz9 Fz9 Nz9 lz9; (try k_lt lz9); (try k_sweep)) | ((with_reducible show wpAny _ _ (pyIter (Value.ref _)) _ _ _); (fail_if_success (with_reducible (rename MkP1 _ => hMz9))); (rename IsRange _ _ _ _ _ _ _ _ => lRz9); (rename Fr _ _ _ _ => lFz9); (rename News _ _ _ _ => lNz9); (with_unfolding_all refine iter_rangeTurns (n := 3) (by rfl) lFz9 lNz9 lRz9 (by decide) (by rfl) ?_); clear lFz9 lRz9; intro iz9 lz9; (try k_lt lz9); dsimp only [tokInts]) | ((with_reducible show SIC _ _ _ _ _ _ _ _); refine' SIC.intro ?sf ?sn ?se; (case sf => k_asm); (case sn => k_asm); (case se => exact rfl))); w_strict k_steps))
    unfold HaltF
    rename (List Int) => scr
    have h4 : scr.sum.fmod 4 = 0 ∨ scr.sum.fmod 4 = 1 ∨ scr.sum.fmod 4 = 2 ∨ scr.sum.fmod 4 = 3 := by
      have a := Int.fmod_nonneg_of_pos scr.sum (by decide : (0:Int) < 4)
      have b := Int.fmod_lt_of_pos scr.sum (by decide : (0:Int) < 4)
      omega
    iterate 60 (try (rename _ => zStash; revert zStash))
    iterate 60 (try (rename _ => zStash; revert zStash))
    iterate 60 (try (rename _ => zStash; revert zStash))
    iterate 60 (try (rename _ => zStash; revert zStash))
    iterate 60 (try (rename _ => zStash; revert zStash))
    iterate 60 (try (rename _ => zStash; revert zStash))
    iterate 60 (try (rename _ => zStash; revert zStash))
    iterate 60 (try (rename _ => zStash; revert zStash))
    iterate 60 (try (rename _ => zStash; revert zStash))
    iterate 60 (try (rename _ => zStash; revert zStash))
    iterate 60 (try (rename _ => zStash; revert zStash))
    iterate 60 (try (rename _ => zStash; revert zStash))
    intro hStash; exact hStash.out)
noncomputable def law_s2 : (P : Prop) ×' (Stash P → law_s1.1) := by
  apply PSigma.mk
  intro hStash
  intro _ _ _ _ _ _ _ _ _ _ _ _ _ _ _ _ _ _ _ _ _ _ _ _ _ _ _ scr _ _ _ _ _ _ _ _ _ _ _ _ _ _ _ _ _ _ _ _ _ _ _ _ _ _ _ _ _ qk ek A1 env1 qk1 ek1 lc e0 h' tk' hf l1 c0 c1 c2 c3 c4 c5 c6 c7 c8 c9 c10 c11 s0 s1 s2 s3 s4 s5 s6 s7 s8 s9 s10 s11 hcl hcv _ _ _ _ _ _ _ _ _ _ _ _ _ _ _ h4
  have hfill : (PySem.Challenge.rw_xl0032_01 = PySem.Challenge.rw_xl0032_01 ∧ Mine.hd.heap_1 = Mine.hd.heap_1) := by (k_fill; exact ⟨rfl, rfl⟩)
  clear hfill
  rename Shared => s₁
  rename Fr _ _ _ _ => lF
  rename News _ _ _ _ => lN
  refine named lN fun co hco => ?_
  subst hco
  obtain ⟨kd, hkd⟩ : ∃ kd, kd = (scr.sum.fdiv 4).fmod 5 := ⟨_, rfl⟩
  have hkd0 : 0 ≤ kd := hkd ▸ Int.fmod_nonneg_of_pos _ (by decide)
  have hkd5 : kd < 5 := hkd ▸ Int.fmod_lt_of_pos _ (by decide)
  have hkn : kd.toNat < 5 := by omega
  rw [← hkd] at lF
  refine names3T (x1 := Str.ofString "kind") (x2 := Str.ofString "costs") (x3 := Str.ofString "cells") (i := kd) (v2 := .ref co) (v3 := .ref lc) lF ⟨_, by with_unfolding_all rfl⟩ (by with_unfolding_all rfl) (by with_unfolding_all rfl) fun M tkd lF' f1 f2 f3 => ?_
  clear lF
  rename (Obj.data _ = Data.cell (bindC _ _ _ (Str.ofString "signs"))) => dS
  rename (Obj.data _ = Data.cell (bindC _ _ _ (Str.ofString "hand"))) => dH
  refine namedO dS fun oS hoS => ?_
  subst hoS
  refine namedO dH fun oH hoH => ?_
  subst hoH
  refine' Assign_signs (tst := fun i => ((i : Int) != 3 - scr.sum.fmod 4)) lF' ?hsw ?hclos ?hcell ?hkind ?hnames ?hxa ?hxb ?hab ?hdb ?hy ?hyc ?hek ?_
  case hsw => with_unfolding_all rfl
  case hclos => with_unfolding_all rfl
  case hcell => decide
  case hkind => rfl
  case hnames => decide
  case hxa => rfl
  case hxb => rfl
  case hab => decide
  case hdb => decide
  case hy => rfl
  case hyc => rfl
  case hek => rfl
  w_strict k_steps
  repeat (any_goals (unfold HaltF; (first | ((with_reducible show wpAny _ _ (subscriptTail (Expr.Subscript _ _ _) _ _ _) _ _ _); refine kba_turn (value' := PySem.Expr.Name (PySem.Str.ofString "_") ⟨0, 0, 0, 0⟩) (fun _ => rfl) ?_) | ((with_reducible show wpAny _ _ (subscriptTail _ _ (Value.ref _) (Value.int _ _)) _ _ _); refine' item_row ?k1 ?k2 ?k3 ?k4 ?k5 ?_ ?k7 ?k8; (case k1 => k_asm); (case k2 => k_mem); (case k3 => first | decide | omega); (case k4 => first | decide | omega); (case k5 => first | with_unfolding_all assumption | with_unfolding_all rfl); (case k7 => with_unfolding_all rfl); (case k8 => (intro _; with_unfolding_all rfl))) | ((with_reducible show wpAny _ _ (exec (Stmt.Assign [Expr.Name _ _] (Expr.ListComp _ _ _ _) _) _) _ _ _); (fail_if_success (with_reducible show wpAny _ _ (exec (Stmt.Assign [Expr.Name (Str.ofString "signs") _] _ _) _) _ _ _)); refine LCg.Assign_ListComp_U (F₀ := by k_asm) (by rfl) (by with_unfolding_all rfl) (by with_unfolding_all rfl) (by decide) (by rfl) (by decide) (by rfl) (by rfl) (by rfl) ?_) | ((with_reducible show wpAny _ _ (eval (Expr.ListComp _ _ _ _) _) _ _ _); refine LCg.ListComp_U (F₀ := by k_asm) (by with_unfolding_all rfl) (by decide) (by rfl) (by decide) (by rfl) ?_) | ((with_reducible show wpAny _ _ (call (Value.builtin "len") [Value.ref _]) _ _ _); refine lenS (by k_asm) (by k_mem) (by with_reducible assumption) (by with_reducible assumption) ?_; intro tz9 tkz9) | ((with_reducible show wpAny _ _ (exec (Stmt.For _ (Expr.Call _ _ _ _) _ _ _) _) _ _ _); (rename Fr _ _ _ _ => lFz9); (with_unfolding_all refine' For_turns lFz9 ?_); k_whole) | ((with_reducible show wpAny _ _ (eval (Expr.IfExp _ _ _ _) _) _ _ _); (rename Fr _ _ _ _ => lFz9); (rename News _ _ _ _ => lNz9); with_unfolding_all refine if_join lFz9 lNz9 (by rfl) ?_ ?_) | ((with_reducible show wpAny _ _ (subscriptTail _ _ (Value.str _ _) (Value.int _ _)) _ _ _); refine' letter_row ?_ ?k1 ?k2; (case k1 => (intro _ _; with_unfolding_all rfl)); (case k2 => (intro _ _; with_unfolding_all rfl))) | ((with_reducible show wpAny _ _ (newTuple _) _ _ _); refine' kup_newTuple ?F ?N ?_ ?z; (case F => k_asm); (case N => k_asm); (case z => kmk_size); intro Dz9 hz9 Fz9 Nz9 lz9; (try k_lt lz9); (try k_sweep)) | ((with_reducible show wpAny _ _ (pyIter (Value.ref _)) _ _ _); (fail_if_success (with_reducible (rename MkP1 _ => hMz9))); (rename IsRange _ _ _ _ _ _ _ _ => lRz9); (rename Fr _ _ _ _ => lFz9); (rename News _ _ _ _ => lNz9); (with_unfolding_all refine iter_rangeTurns (n := 3) (by rfl) lFz9 lNz9 lRz9 (by decide) (by rfl) ?_); clear lFz9 lRz9; intro iz9 lz9; (try k_lt lz9); dsimp only [tokInts]) | ((with_reducible show SIC _ _ _ _ _ _ _ _); refine' SIC.intro ?sf ?sn ?se; (case sf => k_asm); (case sn => k_asm); (case se => exact rfl))); w_strict k_steps))
  unfold HaltF
  refine call_enumerate_str ?_
  intro h9 he hi hz hk
  rename Fr _ _ _ _ => lF
  rename News _ _ _ _ => lN
  refine' EnSrc.intro4 (by rfl) lF lN he hi hk (by decide +kernel) ?hsz dS ?o1 ?o2 ?o3 ?o4 ?R ?fin
  case hsz => exact Nat.le_of_ble_eq_true rfl
  case o1 => k_ne
  case o2 => k_ne
  case o3 => k_ne
  case o4 => k_ne
  case R =>
    clear lF lN he hi hz hk
    intro i cp hcp t u C oC m₂ h' tk E' hoC ha hb F' N'
    w_strict k_steps
    repeat (any_goals (unfold HaltF; (first | ((with_reducible show wpAny _ _ (subscriptTail (Expr.Subscript _ _ _) _ _ _) _ _ _); refine kba_turn (value' := PySem.Expr.Name (PySem.Str.ofString "_") ⟨0, 0, 0, 0⟩) (fun _ => rfl) ?_) | ((with_reducible show wpAny _ _ (subscriptTail _ _ (Value.ref _) (Value.int _ _)) _ _ _); refine' item_row ?k1 ?k2 ?k3 ?k4 ?k5 ?_ ?k7 ?k8; (case k1 => k_asm); (case k2 => k_mem); (case k3 => first | decide | omega); (case k4 => first | decide | omega); (case k5 => first | with_unfolding_all assumption | with_unfolding_all rfl); (case k7 => with_unfolding_all rfl); (case k8 => (intro _; with_unfolding_all rfl))) | ((with_reducible show wpAny _ _ (exec (Stmt.Assign [Expr.Name _ _] (Expr.ListComp _ _ _ _) _) _) _ _ _); (fail_if_success (with_reducible show wpAny _ _ (exec (Stmt.Assign [Expr.Name (Str.ofString "signs") _] _ _) _) _ _ _)); refine LCg.Assign_ListComp_U (F₀ := by k_asm) (by rfl) (by with_unfolding_all rfl) (by with_unfolding_all rfl) (by decide) (by rfl) (by decide) (by rfl) (by rfl) (by rfl) ?_) | ((with_reducible show wpAny _ _ (eval (Expr.ListComp _ _ _ _) _) _ _ _); refine LCg.ListComp_U (F₀ := by k_asm) (by with_unfolding_all rfl) (by decide) (by rfl) (by decide) (by rfl) ?_) | ((with_reducible show wpAny _ _ (call (Value.builtin "len") [Value.ref _]) _ _ _); refine lenS (by k_asm) (by k_mem) (by with_reducible assumption) (by with_reducible assumption) ?_; intro tz9 tkz9) | ((with_reducible show wpAny _ _ (exec (Stmt.For _ (Expr.Call _ _ _ _) _ _ _) _) _ _ _); (rename Fr _ _ _ _ => lFz9); (with_unfolding_all refine' For_turns lFz9 ?_); k_whole) | ((with_reducible show wpAny _ _ (eval (Expr.IfExp _ _ _ _) _) _ _ _); (rename Fr _ _ _ _ => lFz9); (rename News _ _ _ _ => lNz9); with_unfolding_all refine if_join lFz9 lNz9 (by rfl) ?_ ?_) | ((with_reducible show wpAny _ _ (subscriptTail _ _ (Value.str _ _) (Value.int _ _)) _ _ _); refine' letter_row ?_ ?k1 ?k2; (case k1 => (intro _ _; with_unfolding_all rfl)); (case k2 => (intro _ _; with_unfolding_all rfl))) | ((with_reducible show wpAny _ _ (newTuple _) _ _ _); refine' kup_newTuple ?F ?N ?_ ?z; (case F => k_asm); (case N => k_asm); (case z => kmk_size); intro Dz9 hz9 Fz9 Nz9 lz9; (try k_lt lz9); (try k_sweep)) | ((with_reducible show wpAny _ _ (pyIter (Value.ref _)) _ _ _); (fail_if_success (with_reducible (rename MkP1 _ => hMz9))); (rename IsRange _ _ _ _ _ _ _ _ => lRz9); (rename Fr _ _ _ _ => lFz9); (rename News _ _ _ _ => lNz9); (with_unfolding_all refine iter_rangeTurns (n := 3) (by rfl) lFz9 lNz9 lRz9 (by decide) (by rfl) ?_); clear lFz9 lRz9; intro iz9 lz9; (try k_lt lz9); dsimp only [tokInts]) | ((with_reducible show SIC _ _ _ _ _ _ _ _); refine' SIC.intro ?sf ?sn ?se; (case sf => k_asm); (case sn => k_asm); (case se => exact rfl))); w_strict k_steps))
    unfold HaltF
    exact EnT.intro rfl
  case fin =>
    clear he hi hz hk
    intro sg h' tk' ys oS' dS' hys F' N' hDS offD
    obtain ⟨x0, x1, x2, hpk, hsg⟩ := picked4 h4
    rw [hpk] at hys
    obtain ⟨v0, v1, v2, hys'⟩ := strs3 hys
    subst hys'
    clear hys hpk dS lF lN
    have hx0 : x0.length ≤ 1 := sg_len0 hsg
    have hx1 : x1.length ≤ 1 := sg_len1 hsg
    have hx2 : x2.length ≤ 1 := sg_len2 hsg
    have N8 := News.sub N' (sub_cons (.tail _ (.tail _ (.tail _ (.tail _ (.head _))))) (sub_cons (.head _) (sub_cons (.tail _ (.head _)) (sub_cons (.tail _ (.tail _ (.head _))) (sub_cons (.tail _ (.tail _ (.tail _ (.head _)))) (sub_cons (.tail _ (.tail _ (.tail _ (.tail _ (.tail _ (.head _)))))) sub_nil))))))
    clear N'
    refine opqH N8 fun R eR N7 msg mcS mco mlc => ?_
    have oH1 : ∀ p ∈ R, p.1 ≠ s₁.heap.objs.size + 1 + 1 + 1 := by
      rw [eR]
      refine off_cons (noCell_ne N8 (.head _) dH (.tail _ (.head _)) rfl) (off_cons ?_ (off_cons (noCell_ne N8 (.head _) dH (.tail _ (.tail _ (.tail _ (.head _)))) rfl) (off_cons (noCell_ne N8 (.head _) dH (.tail _ (.tail _ (.tail _ (.tail _ (.head _))))) rfl) (off_cons ?_ (fun _ h => nomatch h)))))
      · exact Ne.symm (Nat.succ_ne_self _)
      · exact Nat.ne_of_lt (Nat.lt_succ_of_lt (Nat.lt_succ_self _))
    clear N8 eR
    dsimp only
    w_strict k_steps
    repeat (any_goals (unfold HaltF; (first | ((with_reducible show wpAny _ _ (subscriptTail (Expr.Subscript _ _ _) _ _ _) _ _ _); refine kba_turn (value' := PySem.Expr.Name (PySem.Str.ofString "_") ⟨0, 0, 0, 0⟩) (fun _ => rfl) ?_) | ((with_reducible show wpAny _ _ (subscriptTail _ _ (Value.ref _) (Value.int _ _)) _ _ _); refine' item_row ?k1 ?k2 ?k3 ?k4 ?k5 ?_ ?k7 ?k8; (case k1 => k_asm); (case k2 => k_mem); (case k3 => first | decide | omega); (case k4 => first | decide | omega); (case k5 => first | with_unfolding_all assumption | with_unfolding_all rfl); (case k7 => with_unfolding_all rfl); (case k8 => (intro _; with_unfolding_all rfl))) | ((with_reducible show wpAny _ _ (exec (Stmt.Assign [Expr.Name _ _] (Expr.ListComp _ _ _ _) _) _) _ _ _); (fail_if_success (with_reducible show wpAny _ _ (exec (Stmt.Assign [Expr.Name (Str.ofString "signs") _] _ _) _) _ _ _)); refine LCg.Assign_ListComp_U (F₀ := by k_asm) (by rfl) (by with_unfolding_all rfl) (by with_unfolding_all rfl) (by decide) (by rfl) (by decide) (by rfl) (by rfl) (by rfl) ?_) | ((with_reducible show wpAny _ _ (eval (Expr.ListComp _ _ _ _) _) _ _ _); refine LCg.ListComp_U (F₀ := by k_asm) (by with_unfolding_all rfl) (by decide) (by rfl) (by decide) (by rfl) ?_) | ((with_reducible show wpAny _ _ (call (Value.builtin "len") [Value.ref _]) _ _ _); refine lenS (by k_asm) (by k_mem) (by with_reducible assumption) (by with_reducible assumption) ?_; intro tz9 tkz9) | ((with_reducible show wpAny _ _ (exec (Stmt.For _ (Expr.Call _ _ _ _) _ _ _) _) _ _ _); (rename Fr _ _ _ _ => lFz9); (with_unfolding_all refine' For_turns lFz9 ?_); k_whole) | ((with_reducible show wpAny _ _ (eval (Expr.IfExp _ _ _ _) _) _ _ _); (rename Fr _ _ _ _ => lFz9); (rename News _ _ _ _ => lNz9); with_unfolding_all refine if_join lFz9 lNz9 (by rfl) ?_ ?_) | ((with_reducible show wpAny _ _ (subscriptTail _ _ (Value.str _ _) (Value.int _ _)) _ _ _); refine' letter_row ?_ ?k1 ?k2; (case k1 => (intro _ _; with_unfolding_all rfl)); (case k2 => (intro _ _; with_unfolding_all rfl))) | ((with_reducible show wpAny _ _ (newTuple _) _ _ _); refine' kup_newTuple ?F ?N ?_ ?z; (case F => k_asm); (case N => k_asm); (case z => kmk_size); intro Dz9 hz9 Fz9 Nz9 lz9; (try k_lt lz9); (try k_sweep)) | ((with_reducible show wpAny _ _ (pyIter (Value.ref _)) _ _ _); (fail_if_success (with_reducible (rename MkP1 _ => hMz9))); (rename IsRange _ _ _ _ _ _ _ _ => lRz9); (rename Fr _ _ _ _ => lFz9); (rename News _ _ _ _ => lNz9); (with_unfolding_all refine iter_rangeTurns (n := 3) (by rfl) lFz9 lNz9 lRz9 (by decide) (by rfl) ?_); clear lFz9 lRz9; intro iz9 lz9; (try k_lt lz9); dsimp only [tokInts]) | ((with_reducible show SIC _ _ _ _ _ _ _ _); refine' SIC.intro ?sf ?sn ?se; (case sf => k_asm); (case sn => k_asm); (case se => exact rfl))); w_strict k_steps))
    unfold HaltF
    refine CompSrc_rows MaskRow (by rfl) (by k_asm) (by k_asm) (.head _) (Nat.le_of_ble_eq_true rfl) ?_ ?_
    · intro v C oC m₂ R9 h9 tk9 Q9 E9 hv hC hx F9 N9 mC9 hs9 ret9
      obtain ⟨c, t⟩ := int3_is hv
      k_sweep
      w_strict k_steps
      repeat (any_goals (unfold HaltF; (first | ((with_reducible show wpAny _ _ (subscriptTail (Expr.Subscript _ _ _) _ _ _) _ _ _); refine kba_turn (value' := PySem.Expr.Name (PySem.Str.ofString "_") ⟨0, 0, 0, 0⟩) (fun _ => rfl) ?_) | ((with_reducible show wpAny _ _ (subscriptTail _ _ (Value.ref _) (Value.int _ _)) _ _ _); refine' item_row ?k1 ?k2 ?k3 ?k4 ?k5 ?_ ?k7 ?k8; (case k1 => k_asm); (case k2 => k_mem); (case k3 => first | decide | omega); (case k4 => first | decide | omega); (case k5 => first | with_unfolding_all assumption | with_unfolding_all rfl); (case k7 => with_unfolding_all rfl); (case k8 => (intro _; with_unfolding_all rfl))) | ((with_reducible show wpAny _ _ (exec (Stmt.Assign [Expr.Name _ _] (Expr.ListComp _ _ _ _) _) _) _ _ _); (fail_if_success (with_reducible show wpAny _ _ (exec (Stmt.Assign [Expr.Name (Str.ofString "signs") _] _ _) _) _ _ _)); refine LCg.Assign_ListComp_U (F₀ := by k_asm) (by rfl) (by with_unfolding_all rfl) (by with_unfolding_all rfl) (by decide) (by rfl) (by decide) (by rfl) (by rfl) (by rfl) ?_) | ((with_reducible show wpAny _ _ (eval (Expr.ListComp _ _ _ _) _) _ _ _); refine LCg.ListComp_U (F₀ := by k_asm) (by with_unfolding_all rfl) (by decide) (by rfl) (by decide) (by rfl) ?_) | ((with_reducible show wpAny _ _ (call (Value.builtin "len") [Value.ref _]) _ _ _); refine lenS (by k_asm) (by k_mem) (by with_reducible assumption) (by with_reducible assumption) ?_; intro tz9 tkz9) | ((with_reducible show wpAny _ _ (exec (Stmt.For _ (Expr.Call _ _ _ _) _ _ _) _) _ _ _); (rename Fr _ _ _ _ => lFz9); (with_unfolding_all refine' For_turns lFz9 ?_); k_whole) | ((with_reducible show wpAny _ _ (eval (Expr.IfExp _ _ _ _) _) _ _ _); (rename Fr _ _ _ _ => lFz9); (rename News _ _ _ _ => lNz9); with_unfolding_all refine if_join lFz9 lNz9 (by rfl) ?_ ?_) | ((with_reducible show wpAny _ _ (subscriptTail _ _ (Value.str _ _) (Value.int _ _)) _ _ _); refine' letter_row ?_ ?k1 ?k2; (case k1 => (intro _ _; with_unfolding_all rfl)); (case k2 => (intro _ _; with_unfolding_all rfl))) | ((with_reducible show wpAny _ _ (newTuple _) _ _ _); refine' kup_newTuple ?F ?N ?_ ?z; (case F => k_asm); (case N => k_asm); (case z => kmk_size); intro Dz9 hz9 Fz9 Nz9 lz9; (try k_lt lz9); (try k_sweep)) | ((with_reducible show wpAny _ _ (pyIter (Value.ref _)) _ _ _); (fail_if_success (with_reducible (rename MkP1 _ => hMz9))); (rename IsRange _ _ _ _ _ _ _ _ => lRz9); (rename Fr _ _ _ _ => lFz9); (rename News _ _ _ _ => lNz9); (with_unfolding_all refine iter_rangeTurns (n := 3) (by rfl) lFz9 lNz9 lRz9 (by decide) (by rfl) ?_); clear lFz9 lRz9; intro iz9 lz9; (try k_lt lz9); dsimp only [tokInts]) | ((with_reducible show SIC _ _ _ _ _ _ _ _); refine' SIC.intro ?sf ?sn ?se; (case sf => k_asm); (case sn => k_asm); (case se => exact rfl))); w_strict k_steps))
      unfold HaltF
      refine' masks_ok ?kC ?_
      case kC => ktr_unf
      intro l' t0' t1' t2' h' tk' F' k' N9' hf'
      exact ret9 _ _ _ _ ⟨msk_mod _, msk_mod _, msk_mod _⟩ (fun p hp => news_off1 hf' (by assumption) hp) F' (news_add k' (by assumption) N9' hf')
    intro g9 ys news hz
    obtain ⟨r0, r1, r2, a00, a01, a02, a10, a11, a12, a20, a21, a22, u00, u01, u02, u10, u11, u12, u20, u21, u22, k00, k01, k02, k10, k11, k12, k20, k21, k22⟩ := rows_masks hz
    clear hz
    intro ch h1 tk1 F1 N1 off1
    have N2 := News.sub N1 (sub_cons (.tail _ (.tail _ (.tail _ (.tail _ (.tail _ (.head _)))))) (sub_cons (.head _) (sub_cons (.tail _ (.tail _ (.tail _ (.head _)))) (sub_cons (.tail _ (.tail _ (.head _))) (sub_cons (.tail _ (.head _)) (fun p hp => .tail _ (.tail _ (.tail _ (.tail _ (.tail _ (.tail _ (hp))))))))))))
    clear N1 off1
    refine opq4 N2 fun R1 eR1 N3 mch mr0 mr1 mr2 sR1 => ?_
    have oH3 : ∀ p ∈ R1, p.1 ≠ s₁.heap.objs.size + 1 + 1 + 1 := eR1 ▸ off_cons (noCell_ne N3 (.head _) dH (.tail _ mch) rfl) (off_cons (noCell_ne N3 (.head _) dH (.tail _ mr0) rfl) (off_cons (noCell_ne N3 (.head _) dH (.tail _ mr1) rfl) (off_cons (noCell_ne N3 (.head _) dH (.tail _ mr2) rfl) oH1)))
    replace msg := sR1 _ msg
    replace mcS := sR1 _ mcS
    replace mco := sR1 _ mco
    clear N2 oH1 eR1 sR1 mlc
    refine names3 (x1 := Str.ofString "kind") (x2 := Str.ofString "costs") (x3 := Str.ofString "choices") (v1 := .int kd tkd) (v2 := .ref co) (v3 := .ref ch) F1 (by with_unfolding_all exact f1) (by with_unfolding_all exact f2) (by with_unfolding_all rfl) fun M1 F2 g1 g2 g3 => ?_
    clear F1 f1 f2 f3
    dsimp only
    w_strict k_steps
    repeat (any_goals (unfold HaltF; (first | ((with_reducible show wpAny _ _ (subscriptTail (Expr.Subscript _ _ _) _ _ _) _ _ _); refine kba_turn (value' := PySem.Expr.Name (PySem.Str.ofString "_") ⟨0, 0, 0, 0⟩) (fun _ => rfl) ?_) | ((with_reducible show wpAny _ _ (subscriptTail _ _ (Value.ref _) (Value.int _ _)) _ _ _); refine' item_row ?k1 ?k2 ?k3 ?k4 ?k5 ?_ ?k7 ?k8; (case k1 => k_asm); (case k2 => k_mem); (case k3 => first | decide | omega); (case k4 => first | decide | omega); (case k5 => first | with_unfolding_all assumption | with_unfolding_all rfl); (case k7 => with_unfolding_all rfl); (case k8 => (intro _; with_unfolding_all rfl))) | ((with_reducible show wpAny _ _ (exec (Stmt.Assign [Expr.Name _ _] (Expr.ListComp _ _ _ _) _) _) _ _ _); (fail_if_success (with_reducible show wpAny _ _ (exec (Stmt.Assign [Expr.Name (Str.ofString "signs") _] _ _) _) _ _ _)); refine LCg.Assign_ListComp_U (F₀ := by k_asm) (by rfl) (by with_unfolding_all rfl) (by with_unfolding_all rfl) (by decide) (by rfl) (by decide) (by rfl) (by rfl) (by rfl) ?_) | ((with_reducible show wpAny _ _ (eval (Expr.ListComp _ _ _ _) _) _ _ _); refine LCg.ListComp_U (F₀ := by k_asm) (by with_unfolding_all rfl) (by decide) (by rfl) (by decide) (by rfl) ?_) | ((with_reducible show wpAny _ _ (call (Value.builtin "len") [Value.ref _]) _ _ _); refine lenS (by k_asm) (by k_mem) (by with_reducible assumption) (by with_reducible assumption) ?_; intro tz9 tkz9) | ((with_reducible show wpAny _ _ (exec (Stmt.For _ (Expr.Call _ _ _ _) _ _ _) _) _ _ _); (rename Fr _ _ _ _ => lFz9); (with_unfolding_all refine' For_turns lFz9 ?_); k_whole) | ((with_reducible show wpAny _ _ (eval (Expr.IfExp _ _ _ _) _) _ _ _); (rename Fr _ _ _ _ => lFz9); (rename News _ _ _ _ => lNz9); with_unfolding_all refine if_join lFz9 lNz9 (by rfl) ?_ ?_) | ((with_reducible show wpAny _ _ (subscriptTail _ _ (Value.str _ _) (Value.int _ _)) _ _ _); refine' letter_row ?_ ?k1 ?k2; (case k1 => (intro _ _; with_unfolding_all rfl)); (case k2 => (intro _ _; with_unfolding_all rfl))) | ((with_reducible show wpAny _ _ (newTuple _) _ _ _); refine' kup_newTuple ?F ?N ?_ ?z; (case F => k_asm); (case N => k_asm); (case z => kmk_size); intro Dz9 hz9 Fz9 Nz9 lz9; (try k_lt lz9); (try k_sweep)) | ((with_reducible show wpAny _ _ (pyIter (Value.ref _)) _ _ _); (fail_if_success (with_reducible (rename MkP1 _ => hMz9))); (rename IsRange _ _ _ _ _ _ _ _ => lRz9); (rename Fr _ _ _ _ => lFz9); (rename News _ _ _ _ => lNz9); (with_unfolding_all refine iter_rangeTurns (n := 3) (by rfl) lFz9 lNz9 lRz9 (by decide) (by rfl) ?_); clear lFz9 lRz9; intro iz9 lz9; (try k_lt lz9); dsimp only [tokInts]) | ((with_reducible show SIC _ _ _ _ _ _ _ _); refine' SIC.intro ?sf ?sn ?se; (case sf => k_asm); (case sn => k_asm); (case se => exact rfl))); w_strict k_steps))
    unfold HaltF
    rename Fr _ _ _ _ => lF
    refine' hand_ok hkd0 hkd5 ?kC ?_
    case kC => ktr_unf
    intro h' tk' F' k'
    have N' := Keep.all k' N3
    clear k' N3 lF
    k_sweep
    w_strict k_steps
    repeat (any_goals (unfold HaltF; (first | ((with_reducible show wpAny _ _ (subscriptTail (Expr.Subscript _ _ _) _ _ _) _ _ _); refine kba_turn (value' := PySem.Expr.Name (PySem.Str.ofString "_") ⟨0, 0, 0, 0⟩) (fun _ => rfl) ?_) | ((with_reducible show wpAny _ _ (subscriptTail _ _ (Value.ref _) (Value.int _ _)) _ _ _); refine' item_row ?k1 ?k2 ?k3 ?k4 ?k5 ?_ ?k7 ?k8; (case k1 => k_asm); (case k2 => k_mem); (case k3 => first | decide | omega); (case k4 => first | decide | omega); (case k5 => first | with_unfolding_all assumption | with_unfolding_all rfl); (case k7 => with_unfolding_all rfl); (case k8 => (intro _; with_unfolding_all rfl))) | ((with_reducible show wpAny _ _ (exec (Stmt.Assign [Expr.Name _ _] (Expr.ListComp _ _ _ _) _) _) _ _ _); (fail_if_success (with_reducible show wpAny _ _ (exec (Stmt.Assign [Expr.Name (Str.ofString "signs") _] _ _) _) _ _ _)); refine LCg.Assign_ListComp_U (F₀ := by k_asm) (by rfl) (by with_unfolding_all rfl) (by with_unfolding_all rfl) (by decide) (by rfl) (by decide) (by rfl) (by rfl) (by rfl) ?_) | ((with_reducible show wpAny _ _ (eval (Expr.ListComp _ _ _ _) _) _ _ _); refine LCg.ListComp_U (F₀ := by k_asm) (by with_unfolding_all rfl) (by decide) (by rfl) (by decide) (by rfl) ?_) | ((with_reducible show wpAny _ _ (call (Value.builtin "len") [Value.ref _]) _ _ _); refine lenS (by k_asm) (by k_mem) (by with_reducible assumption) (by with_reducible assumption) ?_; intro tz9 tkz9) | ((with_reducible show wpAny _ _ (exec (Stmt.For _ (Expr.Call _ _ _ _) _ _ _) _) _ _ _); (rename Fr _ _ _ _ => lFz9); (with_unfolding_all refine' For_turns lFz9 ?_); k_whole) | ((with_reducible show wpAny _ _ (eval (Expr.IfExp _ _ _ _) _) _ _ _); (rename Fr _ _ _ _ => lFz9); (rename News _ _ _ _ => lNz9); with_unfolding_all refine if_join lFz9 lNz9 (by rfl) ?_ ?_) | ((with_reducible show wpAny _ _ (subscriptTail _ _ (Value.str _ _) (Value.int _ _)) _ _ _); refine' letter_row ?_ ?k1 ?k2; (case k1 => (intro _ _; with_unfolding_all rfl)); (case k2 => (intro _ _; with_unfolding_all rfl))) | ((with_reducible show wpAny _ _ (newTuple _) _ _ _); refine' kup_newTuple ?F ?N ?_ ?z; (case F => k_asm); (case N => k_asm); (case z => kmk_size); intro Dz9 hz9 Fz9 Nz9 lz9; (try k_lt lz9); (try k_sweep)) | ((with_reducible show wpAny _ _ (pyIter (Value.ref _)) _ _ _); (fail_if_success (with_reducible (rename MkP1 _ => hMz9))); (rename IsRange _ _ _ _ _ _ _ _ => lRz9); (rename Fr _ _ _ _ => lFz9); (rename News _ _ _ _ => lNz9); (with_unfolding_all refine iter_rangeTurns (n := 3) (by rfl) lFz9 lNz9 lRz9 (by decide) (by rfl) ?_); clear lFz9 lRz9; intro iz9 lz9; (try k_lt lz9); dsimp only [tokInts]) | ((with_reducible show SIC _ _ _ _ _ _ _ _); refine' SIC.intro ?sf ?sn ?se; (case sf => k_asm); (case sn => k_asm); (case se => exact rfl))); w_strict k_steps))
    unfold HaltF
    rename (Obj.data _ = Data.cell (some (Value.ref (337 + 7 * Int.toNat kd)))) => dHd
    refine namedO dHd fun oHd hoHd => ?_
    subst hoHd
    rename News _ _ _ _ => lN
    refine opqN lN fun R2 eR2 N4 => ?_
    have mcH : (s₁.heap.objs.size + 1 + 1 + 1, oHd) ∈ R2 := eR2 ▸ .head _
    have sR2 : ∀ p ∈ R1, p ∈ R2 := fun p hp => eR2 ▸ .tail _ hp
    replace msg := sR2 _ msg
    replace mcS := sR2 _ mcS
    replace mco := sR2 _ mco
    replace mch := sR2 _ mch
    replace mr0 := sR2 _ mr0
    replace mr1 := sR2 _ mr1
    replace mr2 := sR2 _ mr2
    clear lN eR2 sR2 oH3 dH
    refine CompSrc_items (fun v y => ∃ x t u, v = .str x t ∧ y = .str (escF kd.toNat x) u) (by rfl) (by k_asm) N4 msg (Nat.le_of_ble_eq_true rfl) ?_ ?_
    · intro v C oC m₂ R9 h9 tk9 Q9 E9 hv hC hx F9 N9 mC9 hs9 ret9
      obtain ⟨x, t, hl⟩ := strL_is hx0 hx1 hx2 hv
      have nH := hs9 _ mcH
      k_sweep
      w_strict k_steps
      repeat (any_goals (unfold HaltF; (first | ((with_reducible show wpAny _ _ (subscriptTail (Expr.Subscript _ _ _) _ _ _) _ _ _); refine kba_turn (value' := PySem.Expr.Name (PySem.Str.ofString "_") ⟨0, 0, 0, 0⟩) (fun _ => rfl) ?_) | ((with_reducible show wpAny _ _ (subscriptTail _ _ (Value.ref _) (Value.int _ _)) _ _ _); refine' item_row ?k1 ?k2 ?k3 ?k4 ?k5 ?_ ?k7 ?k8; (case k1 => k_asm); (case k2 => k_mem); (case k3 => first | decide | omega); (case k4 => first | decide | omega); (case k5 => first | with_unfolding_all assumption | with_unfolding_all rfl); (case k7 => with_unfolding_all rfl); (case k8 => (intro _; with_unfolding_all rfl))) | ((with_reducible show wpAny _ _ (exec (Stmt.Assign [Expr.Name _ _] (Expr.ListComp _ _ _ _) _) _) _ _ _); (fail_if_success (with_reducible show wpAny _ _ (exec (Stmt.Assign [Expr.Name (Str.ofString "signs") _] _ _) _) _ _ _)); refine LCg.Assign_ListComp_U (F₀ := by k_asm) (by rfl) (by with_unfolding_all rfl) (by with_unfolding_all rfl) (by decide) (by rfl) (by decide) (by rfl) (by rfl) (by rfl) ?_) | ((with_reducible show wpAny _ _ (eval (Expr.ListComp _ _ _ _) _) _ _ _); refine LCg.ListComp_U (F₀ := by k_asm) (by with_unfolding_all rfl) (by decide) (by rfl) (by decide) (by rfl) ?_) | ((with_reducible show wpAny _ _ (call (Value.builtin "len") [Value.ref _]) _ _ _); refine lenS (by k_asm) (by k_mem) (by with_reducible assumption) (by with_reducible assumption) ?_; intro tz9 tkz9) | ((with_reducible show wpAny _ _ (exec (Stmt.For _ (Expr.Call _ _ _ _) _ _ _) _) _ _ _); (rename Fr _ _ _ _ => lFz9); (with_unfolding_all refine' For_turns lFz9 ?_); k_whole) | ((with_reducible show wpAny _ _ (eval (Expr.IfExp _ _ _ _) _) _ _ _); (rename Fr _ _ _ _ => lFz9); (rename News _ _ _ _ => lNz9); with_unfolding_all refine if_join lFz9 lNz9 (by rfl) ?_ ?_) | ((with_reducible show wpAny _ _ (subscriptTail _ _ (Value.str _ _) (Value.int _ _)) _ _ _); refine' letter_row ?_ ?k1 ?k2; (case k1 => (intro _ _; with_unfolding_all rfl)); (case k2 => (intro _ _; with_unfolding_all rfl))) | ((with_reducible show wpAny _ _ (newTuple _) _ _ _); refine' kup_newTuple ?F ?N ?_ ?z; (case F => k_asm); (case N => k_asm); (case z => kmk_size); intro Dz9 hz9 Fz9 Nz9 lz9; (try k_lt lz9); (try k_sweep)) | ((with_reducible show wpAny _ _ (pyIter (Value.ref _)) _ _ _); (fail_if_success (with_reducible (rename MkP1 _ => hMz9))); (rename IsRange _ _ _ _ _ _ _ _ => lRz9); (rename Fr _ _ _ _ => lFz9); (rename News _ _ _ _ => lNz9); (with_unfolding_all refine iter_rangeTurns (n := 3) (by rfl) lFz9 lNz9 lRz9 (by decide) (by rfl) ?_); clear lFz9 lRz9; intro iz9 lz9; (try k_lt lz9); dsimp only [tokInts]) | ((with_reducible show SIC _ _ _ _ _ _ _ _); refine' SIC.intro ?sf ?sn ?se; (case sf => k_asm); (case sn => k_asm); (case se => exact rfl))); w_strict k_steps))
      unfold HaltF
      refine' call_ok hkn ?kC (Nat.le_trans hl (by decide)) ?_
      case kC => (refine' Cx.mk ?k1 ?k2 ?k3 ?k4 ?k5 ?k6 ?k7; (case k1 => k_asm); (case k2 => k_asm); (case k3 => k_asm); (case k4 => k_asm); (case k5 => k_asm); (case k6 => ktr_room); (case k7 => ktr_units))
      intro t' h' tk' F' N'
      exact ret9 _ _ _ ⟨x, t, _, rfl, rfl⟩ F' N'
    intro g9 ys hz
    obtain ⟨n0, n1, n2⟩ := zip_str_str hz
    clear hz
    intro mk h1 tk1 F1 N1 off1
    refine opqN N1 fun R3 eR3 N5 => ?_
    have mmk : (mk, LCg.lst [.str (escF kd.toNat x0) n0, .str (escF kd.toNat x1) n1, .str (escF kd.toNat x2) n2]) ∈ R3 := eR3 ▸ .head _
    have sR3 : ∀ p ∈ R2, p ∈ R3 := fun p hp => eR3 ▸ .tail _ hp
    replace msg := sR3 _ msg
    replace mcS := sR3 _ mcS
    replace mcH := sR3 _ mcH
    replace mco := sR3 _ mco
    replace mch := sR3 _ mch
    replace mr0 := sR3 _ mr0
    replace mr1 := sR3 _ mr1
    replace mr2 := sR3 _ mr2
    clear N1 off1 N4 eR3 sR3
    refine names4 (x1 := Str.ofString "kind") (x2 := Str.ofString "costs") (x3 := Str.ofString "choices") (x4 := Str.ofString "marks") (v1 := .int kd tkd) (v2 := .ref co) (v3 := .ref ch) (v4 := .ref mk) F1 (by with_unfolding_all exact g1) (by with_unfolding_all exact g2) (by with_unfolding_all exact g3) (by with_unfolding_all rfl) fun M2 F2' j1 j2 j3 j4 => ?_
    clear F1 g1 g2 g3
    dsimp only
    w_strict k_steps
    repeat (any_goals (unfold HaltF; (first | ((with_reducible show wpAny _ _ (subscriptTail (Expr.Subscript _ _ _) _ _ _) _ _ _); refine kba_turn (value' := PySem.Expr.Name (PySem.Str.ofString "_") ⟨0, 0, 0, 0⟩) (fun _ => rfl) ?_) | ((with_reducible show wpAny _ _ (subscriptTail _ _ (Value.ref _) (Value.int _ _)) _ _ _); refine' item_row ?k1 ?k2 ?k3 ?k4 ?k5 ?_ ?k7 ?k8; (case k1 => k_asm); (case k2 => k_mem); (case k3 => first | decide | omega); (case k4 => first | decide | omega); (case k5 => first | with_unfolding_all assumption | with_unfolding_all rfl); (case k7 => with_unfolding_all rfl); (case k8 => (intro _; with_unfolding_all rfl))) | ((with_reducible show wpAny _ _ (exec (Stmt.Assign [Expr.Name _ _] (Expr.ListComp _ _ _ _) _) _) _ _ _); (fail_if_success (with_reducible show wpAny _ _ (exec (Stmt.Assign [Expr.Name (Str.ofString "signs") _] _ _) _) _ _ _)); refine LCg.Assign_ListComp_U (F₀ := by k_asm) (by rfl) (by with_unfolding_all rfl) (by with_unfolding_all rfl) (by decide) (by rfl) (by decide) (by rfl) (by rfl) (by rfl) ?_) | ((with_reducible show wpAny _ _ (eval (Expr.ListComp _ _ _ _) _) _ _ _); refine LCg.ListComp_U (F₀ := by k_asm) (by with_unfolding_all rfl) (by decide) (by rfl) (by decide) (by rfl) ?_) | ((with_reducible show wpAny _ _ (call (Value.builtin "len") [Value.ref _]) _ _ _); refine lenS (by k_asm) (by k_mem) (by with_reducible assumption) (by with_reducible assumption) ?_; intro tz9 tkz9) | ((with_reducible show wpAny _ _ (exec (Stmt.For _ (Expr.Call _ _ _ _) _ _ _) _) _ _ _); (rename Fr _ _ _ _ => lFz9); (with_unfolding_all refine' For_turns lFz9 ?_); k_whole) | ((with_reducible show wpAny _ _ (eval (Expr.IfExp _ _ _ _) _) _ _ _); (rename Fr _ _ _ _ => lFz9); (rename News _ _ _ _ => lNz9); with_unfolding_all refine if_join lFz9 lNz9 (by rfl) ?_ ?_) | ((with_reducible show wpAny _ _ (subscriptTail _ _ (Value.str _ _) (Value.int _ _)) _ _ _); refine' letter_row ?_ ?k1 ?k2; (case k1 => (intro _ _; with_unfolding_all rfl)); (case k2 => (intro _ _; with_unfolding_all rfl))) | ((with_reducible show wpAny _ _ (newTuple _) _ _ _); refine' kup_newTuple ?F ?N ?_ ?z; (case F => k_asm); (case N => k_asm); (case z => kmk_size); intro Dz9 hz9 Fz9 Nz9 lz9; (try k_lt lz9); (try k_sweep)) | ((with_reducible show wpAny _ _ (pyIter (Value.ref _)) _ _ _); (fail_if_success (with_reducible (rename MkP1 _ => hMz9))); (rename IsRange _ _ _ _ _ _ _ _ => lRz9); (rename Fr _ _ _ _ => lFz9); (rename News _ _ _ _ => lNz9); (with_unfolding_all refine iter_rangeTurns (n := 3) (by rfl) lFz9 lNz9 lRz9 (by decide) (by rfl) ?_); clear lFz9 lRz9; intro iz9 lz9; (try k_lt lz9); dsimp only [tokInts]) | ((with_reducible show SIC _ _ _ _ _ _ _ _); refine' SIC.intro ?sf ?sn ?se; (case sf => k_asm); (case sn => k_asm); (case se => exact rfl))); w_strict k_steps))
    unfold HaltF
    refine CompSrc_rows (WishRow R3 (fun a => escF kd.toNat (way0 a x0 x1 x2))) (by rfl) (by k_asm) N5 mch (Nat.le_of_ble_eq_true rfl) ?_ ?_
    · intro v C oC m₂ R9 h9 tk9 Q9 E9 hv hC hx F9 N9 mC9 hs9 ret9
      obtain ⟨r, a0, a1, a2, u0, u1, u2, mr⟩ := ref3_is mr0 mr1 mr2 hv
      have nH := hs9 _ mcH
      have nS := hs9 _ mcS
      have ng := hs9 _ msg
      have nr := hs9 _ mr
      k_sweep
      w_strict k_steps
      repeat (any_goals (unfold HaltF; (first | ((with_reducible show wpAny _ _ (subscriptTail (Expr.Subscript _ _ _) _ _ _) _ _ _); refine kba_turn (value' := PySem.Expr.Name (PySem.Str.ofString "_") ⟨0, 0, 0, 0⟩) (fun _ => rfl) ?_) | ((with_reducible show wpAny _ _ (subscriptTail _ _ (Value.ref _) (Value.int _ _)) _ _ _); refine' item_row ?k1 ?k2 ?k3 ?k4 ?k5 ?_ ?k7 ?k8; (case k1 => k_asm); (case k2 => k_mem); (case k3 => first | decide | omega); (case k4 => first | decide | omega); (case k5 => first | with_unfolding_all assumption | with_unfolding_all rfl); (case k7 => with_unfolding_all rfl); (case k8 => (intro _; with_unfolding_all rfl))) | ((with_reducible show wpAny _ _ (exec (Stmt.Assign [Expr.Name _ _] (Expr.ListComp _ _ _ _) _) _) _ _ _); (fail_if_success (with_reducible show wpAny _ _ (exec (Stmt.Assign [Expr.Name (Str.ofString "signs") _] _ _) _) _ _ _)); refine LCg.Assign_ListComp_U (F₀ := by k_asm) (by rfl) (by with_unfolding_all rfl) (by with_unfolding_all rfl) (by decide) (by rfl) (by decide) (by rfl) (by rfl) (by rfl) ?_) | ((with_reducible show wpAny _ _ (eval (Expr.ListComp _ _ _ _) _) _ _ _); refine LCg.ListComp_U (F₀ := by k_asm) (by with_unfolding_all rfl) (by decide) (by rfl) (by decide) (by rfl) ?_) | ((with_reducible show wpAny _ _ (call (Value.builtin "len") [Value.ref _]) _ _ _); refine lenS (by k_asm) (by k_mem) (by with_reducible assumption) (by with_reducible assumption) ?_; intro tz9 tkz9) | ((with_reducible show wpAny _ _ (exec (Stmt.For _ (Expr.Call _ _ _ _) _ _ _) _) _ _ _); (rename Fr _ _ _ _ => lFz9); (with_unfolding_all refine' For_turns lFz9 ?_); k_whole) | ((with_reducible show wpAny _ _ (eval (Expr.IfExp _ _ _ _) _) _ _ _); (rename Fr _ _ _ _ => lFz9); (rename News _ _ _ _ => lNz9); with_unfolding_all refine if_join lFz9 lNz9 (by rfl) ?_ ?_) | ((with_reducible show wpAny _ _ (subscriptTail _ _ (Value.str _ _) (Value.int _ _)) _ _ _); refine' letter_row ?_ ?k1 ?k2; (case k1 => (intro _ _; with_unfolding_all rfl)); (case k2 => (intro _ _; with_unfolding_all rfl))) | ((with_reducible show wpAny _ _ (newTuple _) _ _ _); refine' kup_newTuple ?F ?N ?_ ?z; (case F => k_asm); (case N => k_asm); (case z => kmk_size); intro Dz9 hz9 Fz9 Nz9 lz9; (try k_lt lz9); (try k_sweep)) | ((with_reducible show wpAny _ _ (pyIter (Value.ref _)) _ _ _); (fail_if_success (with_reducible (rename MkP1 _ => hMz9))); (rename IsRange _ _ _ _ _ _ _ _ => lRz9); (rename Fr _ _ _ _ => lFz9); (rename News _ _ _ _ => lNz9); (with_unfolding_all refine iter_rangeTurns (n := 3) (by rfl) lFz9 lNz9 lRz9 (by decide) (by rfl) ?_); clear lFz9 lRz9; intro iz9 lz9; (try k_lt lz9); dsimp only [tokInts]) | ((with_reducible show SIC _ _ _ _ _ _ _ _); refine' SIC.intro ?sf ?sn ?se; (case sf => k_asm); (case sn => k_asm); (case se => exact rfl))); w_strict k_steps))
      unfold HaltF
      refine CompSrc_items (fun v y => ∃ a t u, v = .int a t ∧ y = .str (escF kd.toNat (way0 a x0 x1 x2)) u) (by rfl) (by k_asm) (by k_asm) nr (Nat.le_of_ble_eq_true rfl) ?_ ?_
      · intro v C8 oC8 m₈ R8 h8 tk8 Q8 E8 hv8 hC8 hx8 F8 N8 mC8 hs8 ret8
        obtain ⟨a, t⟩ := int3_is hv8
        have nH8 := hs8 _ nH
        have nS8 := hs8 _ nS
        have ng8 := hs8 _ ng
        k_sweep
        w_strict k_steps
        repeat (any_goals (unfold HaltF; (first | ((with_reducible show wpAny _ _ (subscriptTail (Expr.Subscript _ _ _) _ _ _) _ _ _); refine kba_turn (value' := PySem.Expr.Name (PySem.Str.ofString "_") ⟨0, 0, 0, 0⟩) (fun _ => rfl) ?_) | ((with_reducible show wpAny _ _ (subscriptTail _ _ (Value.ref _) (Value.int _ _)) _ _ _); refine' item_row ?k1 ?k2 ?k3 ?k4 ?k5 ?_ ?k7 ?k8; (case k1 => k_asm); (case k2 => k_mem); (case k3 => first | decide | omega); (case k4 => first | decide | omega); (case k5 => first | with_unfolding_all assumption | with_unfolding_all rfl); (case k7 => with_unfolding_all rfl); (case k8 => (intro _; with_unfolding_all rfl))) | ((with_reducible show wpAny _ _ (exec (Stmt.Assign [Expr.Name _ _] (Expr.ListComp _ _ _ _) _) _) _ _ _); (fail_if_success (with_reducible show wpAny _ _ (exec (Stmt.Assign [Expr.Name (Str.ofString "signs") _] _ _) _) _ _ _)); refine LCg.Assign_ListComp_U (F₀ := by k_asm) (by rfl) (by with_unfolding_all rfl) (by with_unfolding_all rfl) (by decide) (by rfl) (by decide) (by rfl) (by rfl) (by rfl) ?_) | ((with_reducible show wpAny _ _ (eval (Expr.ListComp _ _ _ _) _) _ _ _); refine LCg.ListComp_U (F₀ := by k_asm) (by with_unfolding_all rfl) (by decide) (by rfl) (by decide) (by rfl) ?_) | ((with_reducible show wpAny _ _ (call (Value.builtin "len") [Value.ref _]) _ _ _); refine lenS (by k_asm) (by k_mem) (by with_reducible assumption) (by with_reducible assumption) ?_; intro tz9 tkz9) | ((with_reducible show wpAny _ _ (exec (Stmt.For _ (Expr.Call _ _ _ _) _ _ _) _) _ _ _); (rename Fr _ _ _ _ => lFz9); (with_unfolding_all refine' For_turns lFz9 ?_); k_whole) | ((with_reducible show wpAny _ _ (eval (Expr.IfExp _ _ _ _) _) _ _ _); (rename Fr _ _ _ _ => lFz9); (rename News _ _ _ _ => lNz9); with_unfolding_all refine if_join lFz9 lNz9 (by rfl) ?_ ?_) | ((with_reducible show wpAny _ _ (subscriptTail _ _ (Value.str _ _) (Value.int _ _)) _ _ _); refine' letter_row ?_ ?k1 ?k2; (case k1 => (intro _ _; with_unfolding_all rfl)); (case k2 => (intro _ _; with_unfolding_all rfl))) | ((with_reducible show wpAny _ _ (newTuple _) _ _ _); refine' kup_newTuple ?F ?N ?_ ?z; (case F => k_asm); (case N => k_asm); (case z => kmk_size); intro Dz9 hz9 Fz9 Nz9 lz9; (try k_lt lz9); (try k_sweep)) | ((with_reducible show wpAny _ _ (pyIter (Value.ref _)) _ _ _); (fail_if_success (with_reducible (rename MkP1 _ => hMz9))); (rename IsRange _ _ _ _ _ _ _ _ => lRz9); (rename Fr _ _ _ _ => lFz9); (rename News _ _ _ _ => lNz9); (with_unfolding_all refine iter_rangeTurns (n := 3) (by rfl) lFz9 lNz9 lRz9 (by decide) (by rfl) ?_); clear lFz9 lRz9; intro iz9 lz9; (try k_lt lz9); dsimp only [tokInts]) | ((with_reducible show SIC _ _ _ _ _ _ _ _); refine' SIC.intro ?sf ?sn ?se; (case sf => k_asm); (case sn => k_asm); (case se => exact rfl))); w_strict k_steps))
        unfold HaltF
        refine' signs_of_ok hx0 hx1 hx2 ?kC ?_
        case kC => ktr_unf
        intro t' h' tk' F' k'
        have N' := Keep.all k' N8
        clear k'
        k_sweep
        w_strict k_steps
        repeat (any_goals (unfold HaltF; (first | ((with_reducible show wpAny _ _ (subscriptTail (Expr.Subscript _ _ _) _ _ _) _ _ _); refine kba_turn (value' := PySem.Expr.Name (PySem.Str.ofString "_") ⟨0, 0, 0, 0⟩) (fun _ => rfl) ?_) | ((with_reducible show wpAny _ _ (subscriptTail _ _ (Value.ref _) (Value.int _ _)) _ _ _); refine' item_row ?k1 ?k2 ?k3 ?k4 ?k5 ?_ ?k7 ?k8; (case k1 => k_asm); (case k2 => k_mem); (case k3 => first | decide | omega); (case k4 => first | decide | omega); (case k5 => first | with_unfolding_all assumption | with_unfolding_all rfl); (case k7 => with_unfolding_all rfl); (case k8 => (intro _; with_unfolding_all rfl))) | ((with_reducible show wpAny _ _ (exec (Stmt.Assign [Expr.Name _ _] (Expr.ListComp _ _ _ _) _) _) _ _ _); (fail_if_success (with_reducible show wpAny _ _ (exec (Stmt.Assign [Expr.Name (Str.ofString "signs") _] _ _) _) _ _ _)); refine LCg.Assign_ListComp_U (F₀ := by k_asm) (by rfl) (by with_unfolding_all rfl) (by with_unfolding_all rfl) (by decide) (by rfl) (by decide) (by rfl) (by rfl) (by rfl) ?_) | ((with_reducible show wpAny _ _ (eval (Expr.ListComp _ _ _ _) _) _ _ _); refine LCg.ListComp_U (F₀ := by k_asm) (by with_unfolding_all rfl) (by decide) (by rfl) (by decide) (by rfl) ?_) | ((with_reducible show wpAny _ _ (call (Value.builtin "len") [Value.ref _]) _ _ _); refine lenS (by k_asm) (by k_mem) (by with_reducible assumption) (by with_reducible assumption) ?_; intro tz9 tkz9) | ((with_reducible show wpAny _ _ (exec (Stmt.For _ (Expr.Call _ _ _ _) _ _ _) _) _ _ _); (rename Fr _ _ _ _ => lFz9); (with_unfolding_all refine' For_turns lFz9 ?_); k_whole) | ((with_reducible show wpAny _ _ (eval (Expr.IfExp _ _ _ _) _) _ _ _); (rename Fr _ _ _ _ => lFz9); (rename News _ _ _ _ => lNz9); with_unfolding_all refine if_join lFz9 lNz9 (by rfl) ?_ ?_) | ((with_reducible show wpAny _ _ (subscriptTail _ _ (Value.str _ _) (Value.int _ _)) _ _ _); refine' letter_row ?_ ?k1 ?k2; (case k1 => (intro _ _; with_unfolding_all rfl)); (case k2 => (intro _ _; with_unfolding_all rfl))) | ((with_reducible show wpAny _ _ (newTuple _) _ _ _); refine' kup_newTuple ?F ?N ?_ ?z; (case F => k_asm); (case N => k_asm); (case z => kmk_size); intro Dz9 hz9 Fz9 Nz9 lz9; (try k_lt lz9); (try k_sweep)) | ((with_reducible show wpAny _ _ (pyIter (Value.ref _)) _ _ _); (fail_if_success (with_reducible (rename MkP1 _ => hMz9))); (rename IsRange _ _ _ _ _ _ _ _ => lRz9); (rename Fr _ _ _ _ => lFz9); (rename News _ _ _ _ => lNz9); (with_unfolding_all refine iter_rangeTurns (n := 3) (by rfl) lFz9 lNz9 lRz9 (by decide) (by rfl) ?_); clear lFz9 lRz9; intro iz9 lz9; (try k_lt lz9); dsimp only [tokInts]) | ((with_reducible show SIC _ _ _ _ _ _ _ _); refine' SIC.intro ?sf ?sn ?se; (case sf => k_asm); (case sn => k_asm); (case se => exact rfl))); w_strict k_steps))
        unfold HaltF
        refine' call_ok hkn ?kC (sg_fit hsg _).2 ?_
        case kC => (refine' Cx.mk ?k1 ?k2 ?k3 ?k4 ?k5 ?k6 ?k7; (case k1 => k_asm); (case k2 => k_asm); (case k3 => k_asm); (case k4 => k_asm); (case k5 => k_asm); (case k6 => ktr_room); (case k7 => ktr_units))
        intro t' h' tk' F' N'
        exact ret8 _ _ _ ⟨a, t, _, rfl, rfl⟩ F' N'
      intro g8 ys8 hz8
      obtain ⟨e0, e1, e2⟩ := zip_int_str hz8
      intro D8 h8 tk8 F8 N8 off8
      exact ret9 _ _ _ _ (.mk r a0 a1 a2 u0 u1 u2 e0 e1 e2 mr) (off1_all off8) F8 N8
    intro g9 ys news hz
    obtain ⟨q0, q1, q2, t00, t01, t02, t10, t11, t12, t20, t21, t22⟩ := rows_wish N5 mr0 mr1 mr2 hz
    clear hz
    intro aw h1 tk1 F1 N1 off1
    refine nine (escF kd.toNat (way0 a00 x0 x1 x2)) (escF kd.toNat (way0 a01 x0 x1 x2)) (escF kd.toNat (way0 a02 x0 x1 x2)) (escF kd.toNat (way0 a10 x0 x1 x2)) (escF kd.toNat (way0 a11 x0 x1 x2)) (escF kd.toNat (way0 a12 x0 x1 x2)) (escF kd.toNat (way0 a20 x0 x1 x2)) (escF kd.toNat (way0 a21 x0 x1 x2)) (escF kd.toNat (way0 a22 x0 x1 x2)) fun y00 y01 y02 y10 y11 y12 y20 y21 y22 e00 e01 e02 e10 e11 e12 e20 e21 e22 => ?_
    rw [← e00, ← e01, ← e02, ← e10, ← e11, ← e12, ← e20, ← e21, ← e22] at N1
    refine three (escF kd.toNat x0) (escF kd.toNat x1) (escF kd.toNat x2) fun z0 z1 z2 ez0 ez1 ez2 => ?_
    rw [← ez0, ← ez1, ← ez2] at mmk
    refine opqF N1 fun R4 N6 maw mq2 mq1 mq0 sR4 => ?_
    replace msg := sR4 _ msg
    replace mco := sR4 _ mco
    replace mch := sR4 _ mch
    replace mr0 := sR4 _ mr0
    replace mr1 := sR4 _ mr1
    replace mr2 := sR4 _ mr2
    replace mmk := sR4 _ mmk
    replace mcS := sR4 _ mcS
    refine names5 (x1 := Str.ofString "kind") (x2 := Str.ofString "costs") (x3 := Str.ofString "choices") (x4 := Str.ofString "marks") (x5 := Str.ofString "wishes") (v1 := .int kd tkd) (v2 := .ref co) (v3 := .ref ch) (v4 := .ref mk) (v5 := .ref aw) F1 (by with_unfolding_all exact j1) (by with_unfolding_all exact j2) (by with_unfolding_all exact j3) (by with_unfolding_all exact j4) (by with_unfolding_all rfl) fun M3 F3 g1 g2 g3 g4 g5 => ?_
    clear N1 off1 N5 sR4 mcH dHd F1 j1 j2 j3 j4 hx0 hx1 hx2
    dsimp only
    iterate 60 (try (rename _ => zStash; revert zStash))
    iterate 60 (try (rename _ => zStash; revert zStash))
    iterate 60 (try (rename _ => zStash; revert zStash))
    iterate 60 (try (rename _ => zStash; revert zStash))
    iterate 60 (try (rename _ => zStash; revert zStash))
    iterate 60 (try (rename _ => zStash; revert zStash))
    iterate 60 (try (rename _ => zStash; revert zStash))
    iterate 60 (try (rename _ => zStash; revert zStash))
    iterate 60 (try (rename _ => zStash; revert zStash))
    iterate 60 (try (rename _ => zStash; revert zStash))
    iterate 60 (try (rename _ => zStash; revert zStash))
    iterate 60 (try (rename _ => zStash; revert zStash))
    intro hStash; exact hStash.out
noncomputable def law_s3 : (P : Prop) ×' (Stash P → law_s2.1) := by
  apply PSigma.mk
  intro hStash
  intro _ _ s₁ _ _ _ _ _ _ _ _ _ _ _ _ _ _ _ _ _ _ _ _ _ _ _ _ scr _ _ _ _ _ _ _ _ _ _ _ _ _ _ _ _ _ _ _ _ _ _ _ _ qk ek A1 env1 qk1 ek1 lc e0 h' tk' hf l1 c0 c1 c2 c3 c4 c5 c6 c7 c8 c9 c10 c11 s0 s1 s2 s3 s4 s5 s6 s7 s8 s9 s10 s11 hcl hcv _ _ _ _ _ _ _ _ _ _ _ h4 co _ kd hkd hkd0 hkd5 hkn M tkd oS oH _ h9 sg h' tk' oS' dS' hDS offD x0 x1 x2 hsg v0 v1 v2 R _ _ _ _ _ _ g9 r0 r1 r2 a00 a01 a02 a10 a11 a12 a20 a21 a22 u00 u01 u02 u10 u11 u12 u20 u21 u22 k00 k01 k02 k10 k11 k12 k20 k21 k22 ch h1 tk1 R1 M1 h' tk' N' _ _ _ oHd R2 g9 n0 n1 n2 mk h1 tk1 R3 M2 _ _ g9 q0 q1 q2 t00 t01 t02 t10 t11 t12 t20 t21 t22 aw h1 tk1 y00 y01 y02 y10 y11 y12 y20 y21 y22 e00 e01 e02 e10 e11 e12 e20 e21 e22 z0 z1 z2 ez0 ez1 ez2 R4 N6 maw mq2 mq1 mq0 msg mco mch mr0 mr1 mr2 mmk mcS M3 F3 g1 g2 g3 g4 g5
  have hfill : (PySem.Challenge.rw_xl0032_01 = PySem.Challenge.rw_xl0032_01 ∧ Mine.hd.heap_1 = Mine.hd.heap_1) := by (k_fill; exact ⟨rfl, rfl⟩)
  clear hfill
  w_strict k_steps
  repeat (any_goals (unfold HaltF; (first | ((with_reducible show wpAny _ _ (subscriptTail (Expr.Subscript _ _ _) _ _ _) _ _ _); refine kba_turn (value' := PySem.Expr.Name (PySem.Str.ofString "_") ⟨0, 0, 0, 0⟩) (fun _ => rfl) ?_) | ((with_reducible show wpAny _ _ (subscriptTail _ _ (Value.ref _) (Value.int _ _)) _ _ _); refine' item_row ?k1 ?k2 ?k3 ?k4 ?k5 ?_ ?k7 ?k8; (case k1 => k_asm); (case k2 => k_mem); (case k3 => first | decide | omega); (case k4 => first | decide | omega); (case k5 => first | with_unfolding_all assumption | with_unfolding_all rfl); (case k7 => with_unfolding_all rfl); (case k8 => (intro _; with_unfolding_all rfl))) | ((with_reducible show wpAny _ _ (exec (Stmt.Assign [Expr.Name _ _] (Expr.ListComp _ _ _ _) _) _) _ _ _); (fail_if_success (with_reducible show wpAny _ _ (exec (Stmt.Assign [Expr.Name (Str.ofString "signs") _] _ _) _) _ _ _)); refine LCg.Assign_ListComp_U (F₀ := by k_asm) (by rfl) (by with_unfolding_all rfl) (by with_unfolding_all rfl) (by decide) (by rfl) (by decide) (by rfl) (by rfl) (by rfl) ?_) | ((with_reducible show wpAny _ _ (eval (Expr.ListComp _ _ _ _) _) _ _ _); refine LCg.ListComp_U (F₀ := by k_asm) (by with_unfolding_all rfl) (by decide) (by rfl) (by decide) (by rfl) ?_) | ((with_reducible show wpAny _ _ (call (Value.builtin "len") [Value.ref _]) _ _ _); refine lenS (by k_asm) (by k_mem) (by with_reducible assumption) (by with_reducible assumption) ?_; intro tz9 tkz9) | ((with_reducible show wpAny _ _ (exec (Stmt.For _ (Expr.Call _ _ _ _) _ _ _) _) _ _ _); (rename Fr _ _ _ _ => lFz9); (with_unfolding_all refine' For_turns lFz9 ?_); k_whole) | ((with_reducible show wpAny _ _ (eval (Expr.IfExp _ _ _ _) _) _ _ _); (rename Fr _ _ _ _ => lFz9); (rename News _ _ _ _ => lNz9); with_unfolding_all refine if_join lFz9 lNz9 (by rfl) ?_ ?_) | ((with_reducible show wpAny _ _ (subscriptTail _ _ (Value.str _ _) (Value.int _ _)) _ _ _); refine' letter_row ?_ ?k1 ?k2; (case k1 => (intro _ _; with_unfolding_all rfl)); (case k2 => (intro _ _; with_unfolding_all rfl))) | ((with_reducible show wpAny _ _ (newTuple _) _ _ _); refine' kup_newTuple ?F ?N ?_ ?z; (case F => k_asm); (case N => k_asm); (case z => kmk_size); intro Dz9 hz9 Fz9 Nz9 lz9; (try k_lt lz9); (try k_sweep)) | ((with_reducible show wpAny _ _ (pyIter (Value.ref _)) _ _ _); (fail_if_success (with_reducible (rename MkP1 _ => hMz9))); (rename IsRange _ _ _ _ _ _ _ _ => lRz9); (rename Fr _ _ _ _ => lFz9); (rename News _ _ _ _ => lNz9); (with_unfolding_all refine iter_rangeTurns (n := 3) (by rfl) lFz9 lNz9 lRz9 (by decide) (by rfl) ?_); clear lFz9 lRz9; intro iz9 lz9; (try k_lt lz9); dsimp only [tokInts]) | ((with_reducible show SIC _ _ _ _ _ _ _ _); refine' SIC.intro ?sf ?sn ?se; (case sf => k_asm); (case sn => k_asm); (case se => exact rfl))); w_strict k_steps))
  unfold HaltF
  rename Fr _ _ _ _ => lF
  refine For_turns lF ?_
  w_strict walk1
  rename Fr _ _ _ _ => lF
  rename News _ _ _ _ => lN
  refine iter_listTurns (vs := []) (by rfl) lF lN (by k_mem) rfl rfl fun I hI => ItemsRest.zero fun h9 tk9 F9 N9 => ?_
  clear lF lN hI
  w_strict k_steps
  repeat (any_goals (unfold HaltF; (first | ((with_reducible show wpAny _ _ (subscriptTail (Expr.Subscript _ _ _) _ _ _) _ _ _); refine kba_turn (value' := PySem.Expr.Name (PySem.Str.ofString "_") ⟨0, 0, 0, 0⟩) (fun _ => rfl) ?_) | ((with_reducible show wpAny _ _ (subscriptTail _ _ (Value.ref _) (Value.int _ _)) _ _ _); refine' item_row ?k1 ?k2 ?k3 ?k4 ?k5 ?_ ?k7 ?k8; (case k1 => k_asm); (case k2 => k_mem); (case k3 => first | decide | omega); (case k4 => first | decide | omega); (case k5 => first | with_unfolding_all assumption | with_unfolding_all rfl); (case k7 => with_unfolding_all rfl); (case k8 => (intro _; with_unfolding_all rfl))) | ((with_reducible show wpAny _ _ (exec (Stmt.Assign [Expr.Name _ _] (Expr.ListComp _ _ _ _) _) _) _ _ _); (fail_if_success (with_reducible show wpAny _ _ (exec (Stmt.Assign [Expr.Name (Str.ofString "signs") _] _ _) _) _ _ _)); refine LCg.Assign_ListComp_U (F₀ := by k_asm) (by rfl) (by with_unfolding_all rfl) (by with_unfolding_all rfl) (by decide) (by rfl) (by decide) (by rfl) (by rfl) (by rfl) ?_) | ((with_reducible show wpAny _ _ (eval (Expr.ListComp _ _ _ _) _) _ _ _); refine LCg.ListComp_U (F₀ := by k_asm) (by with_unfolding_all rfl) (by decide) (by rfl) (by decide) (by rfl) ?_) | ((with_reducible show wpAny _ _ (call (Value.builtin "len") [Value.ref _]) _ _ _); refine lenS (by k_asm) (by k_mem) (by with_reducible assumption) (by with_reducible assumption) ?_; intro tz9 tkz9) | ((with_reducible show wpAny _ _ (exec (Stmt.For _ (Expr.Call _ _ _ _) _ _ _) _) _ _ _); (rename Fr _ _ _ _ => lFz9); (with_unfolding_all refine' For_turns lFz9 ?_); k_whole) | ((with_reducible show wpAny _ _ (eval (Expr.IfExp _ _ _ _) _) _ _ _); (rename Fr _ _ _ _ => lFz9); (rename News _ _ _ _ => lNz9); with_unfolding_all refine if_join lFz9 lNz9 (by rfl) ?_ ?_) | ((with_reducible show wpAny _ _ (subscriptTail _ _ (Value.str _ _) (Value.int _ _)) _ _ _); refine' letter_row ?_ ?k1 ?k2; (case k1 => (intro _ _; with_unfolding_all rfl)); (case k2 => (intro _ _; with_unfolding_all rfl))) | ((with_reducible show wpAny _ _ (newTuple _) _ _ _); refine' kup_newTuple ?F ?N ?_ ?z; (case F => k_asm); (case N => k_asm); (case z => kmk_size); intro Dz9 hz9 Fz9 Nz9 lz9; (try k_lt lz9); (try k_sweep)) | ((with_reducible show wpAny _ _ (pyIter (Value.ref _)) _ _ _); (fail_if_success (with_reducible (rename MkP1 _ => hMz9))); (rename IsRange _ _ _ _ _ _ _ _ => lRz9); (rename Fr _ _ _ _ => lFz9); (rename News _ _ _ _ => lNz9); (with_unfolding_all refine iter_rangeTurns (n := 3) (by rfl) lFz9 lNz9 lRz9 (by decide) (by rfl) ?_); clear lFz9 lRz9; intro iz9 lz9; (try k_lt lz9); dsimp only [tokInts]) | ((with_reducible show SIC _ _ _ _ _ _ _ _); refine' SIC.intro ?sf ?sn ?se; (case sf => k_asm); (case sn => k_asm); (case se => exact rfl))); w_strict k_steps))
  unfold HaltF
  rename Fr _ _ _ _ => lF
  rename News _ _ _ _ => lN
  refine names_tb lN fun it tl ti td oi hh kt ea eb ec ed ee ef eg => ?_
  subst ea eb ec ed ee
  rename News _ _ _ _ => lN
  rw [← ef, ← eg] at lN
  have hti : ti ≠ tl := inst_list_ne lN (by k_mem) (by k_mem)
  have htd : td ≠ tl := dict_list_ne lN (by k_mem) (by k_mem)
  rename (_ < tl ∧ _) => htl
  have otl : ∀ p ∈ R4, p.1 ≠ tl := lt_off (allLt_mem htl.2.2)
  have hit : it ≠ tl := by k_ne
  have i0 : Nm (Txt.item (Str.ofString "abc") (0 + ((0 : Nat) : Int))) := itm_fit 0 (by decide)
  have i1 : Nm (Txt.item (Str.ofString "abc") (0 + ((1 : Nat) : Int))) := itm_fit 1 (by decide)
  have i2 : Nm (Txt.item (Str.ofString "abc") (0 + ((2 : Nat) : Int))) := itm_fit 2 (by decide)
  have j1 : (Txt.lower (Txt.item (Str.ofString "abc") (0 + ((0 : Nat) : Int))) == Txt.lower (Txt.item (Str.ofString "abc") (0 + ((1 : Nat) : Int)))) = false := itm_high 0 1 (by decide) (by decide) (by decide)
  have j2 : (Txt.lower (Txt.item (Str.ofString "abc") (0 + ((0 : Nat) : Int))) == Txt.lower (Txt.item (Str.ofString "abc") (0 + ((2 : Nat) : Int)))) = false := itm_high 0 2 (by decide) (by decide) (by decide)
  have j3 : (Txt.lower (Txt.item (Str.ofString "abc") (0 + ((1 : Nat) : Int))) == Txt.lower (Txt.item (Str.ofString "abc") (0 + ((2 : Nat) : Int)))) = false := itm_high 1 2 (by decide) (by decide) (by decide)
  refine' csetd0_ok (td := td) (tl := tl) (hh := hh) (n := 1) (nl := 0) (kt := kt) (oth := (it, oi) :: R4) ?kC i0 (e00 ▸ esc_text hsg hkn _) hti htd (off_cons hit otl) ?_
  case kC => (refine' Cx.mk ?k1 ?k2 ?k3 ?k4 ?k5 ?k6 ?k7; (case k1 => k_asm); (case k2 => k_asm); (case k3 => k_asm); (case k4 => refine News.sub (by k_asm) ?_; lcg_sub); (case k5 => k_asm); (case k6 => ktr_room); (case k7 => ktr_units))
  intro p0 h8 tk8 F8 N8
  clear lF lN
  w_strict k_steps
  repeat (any_goals (unfold HaltF; (first | ((with_reducible show wpAny _ _ (subscriptTail (Expr.Subscript _ _ _) _ _ _) _ _ _); refine kba_turn (value' := PySem.Expr.Name (PySem.Str.ofString "_") ⟨0, 0, 0, 0⟩) (fun _ => rfl) ?_) | ((with_reducible show wpAny _ _ (subscriptTail _ _ (Value.ref _) (Value.int _ _)) _ _ _); refine' item_row ?k1 ?k2 ?k3 ?k4 ?k5 ?_ ?k7 ?k8; (case k1 => k_asm); (case k2 => k_mem); (case k3 => first | decide | omega); (case k4 => first | decide | omega); (case k5 => first | with_unfolding_all assumption | with_unfolding_all rfl); (case k7 => with_unfolding_all rfl); (case k8 => (intro _; with_unfolding_all rfl))) | ((with_reducible show wpAny _ _ (exec (Stmt.Assign [Expr.Name _ _] (Expr.ListComp _ _ _ _) _) _) _ _ _); (fail_if_success (with_reducible show wpAny _ _ (exec (Stmt.Assign [Expr.Name (Str.ofString "signs") _] _ _) _) _ _ _)); refine LCg.Assign_ListComp_U (F₀ := by k_asm) (by rfl) (by with_unfolding_all rfl) (by with_unfolding_all rfl) (by decide) (by rfl) (by decide) (by rfl) (by rfl) (by rfl) ?_) | ((with_reducible show wpAny _ _ (eval (Expr.ListComp _ _ _ _) _) _ _ _); refine LCg.ListComp_U (F₀ := by k_asm) (by with_unfolding_all rfl) (by decide) (by rfl) (by decide) (by rfl) ?_) | ((with_reducible show wpAny _ _ (call (Value.builtin "len") [Value.ref _]) _ _ _); refine lenS (by k_asm) (by k_mem) (by with_reducible assumption) (by with_reducible assumption) ?_; intro tz9 tkz9) | ((with_reducible show wpAny _ _ (exec (Stmt.For _ (Expr.Call _ _ _ _) _ _ _) _) _ _ _); (rename Fr _ _ _ _ => lFz9); (with_unfolding_all refine' For_turns lFz9 ?_); k_whole) | ((with_reducible show wpAny _ _ (eval (Expr.IfExp _ _ _ _) _) _ _ _); (rename Fr _ _ _ _ => lFz9); (rename News _ _ _ _ => lNz9); with_unfolding_all refine if_join lFz9 lNz9 (by rfl) ?_ ?_) | ((with_reducible show wpAny _ _ (subscriptTail _ _ (Value.str _ _) (Value.int _ _)) _ _ _); refine' letter_row ?_ ?k1 ?k2; (case k1 => (intro _ _; with_unfolding_all rfl)); (case k2 => (intro _ _; with_unfolding_all rfl))) | ((with_reducible show wpAny _ _ (newTuple _) _ _ _); refine' kup_newTuple ?F ?N ?_ ?z; (case F => k_asm); (case N => k_asm); (case z => kmk_size); intro Dz9 hz9 Fz9 Nz9 lz9; (try k_lt lz9); (try k_sweep)) | ((with_reducible show wpAny _ _ (pyIter (Value.ref _)) _ _ _); (fail_if_success (with_reducible (rename MkP1 _ => hMz9))); (rename IsRange _ _ _ _ _ _ _ _ => lRz9); (rename Fr _ _ _ _ => lFz9); (rename News _ _ _ _ => lNz9); (with_unfolding_all refine iter_rangeTurns (n := 3) (by rfl) lFz9 lNz9 lRz9 (by decide) (by rfl) ?_); clear lFz9 lRz9; intro iz9 lz9; (try k_lt lz9); dsimp only [tokInts]) | ((with_reducible show SIC _ _ _ _ _ _ _ _); refine' SIC.intro ?sf ?sn ?se; (case sf => k_asm); (case sn => k_asm); (case se => exact rfl))); w_strict k_steps))
  unfold HaltF
  rename Fr _ _ _ _ => lF
  rename News _ _ _ _ => lN
  rename (Obj.cls _ = Value.type "range_iterator") => hoi
  rename (_ < it ∧ _) => hlit
  have oit : ∀ p ∈ R4, p.1 ≠ it := lt_off (allLt_mem hlit.2.2.2)
  have oti : ti ≠ it := Nat.ne_of_lt hlit.2.1
  have otd : td ≠ it := Nat.ne_of_lt hlit.2.2.1
  have dp0 : p0 ≠ tl := tup_list_ne lN (.tail _ (.head _)) (.head _)
  refine UnrEndW.of1 (news' := (tl, listOf #[.ref p0] (0 + 1)) :: (p0, tup2 (Txt.item (Str.ofString "abc") (0 + ((0 : Nat) : Int))) _ y00 t00) :: (ti, instObj 241 td) :: (td, dictOf [⟨hh, .str (Str.ofString "_headers") kt, .ref tl⟩] 1) :: R4) lF lN (by k_mem) (by lcg_sub) (off_cons (Ne.symm hit) (off_cons (tup_iter_ne lN (.tail _ (.head _)) (by k_mem) hoi) (off_cons oti (off_cons otd oit)))) ⟨trivial, ?_⟩
  clear lF lN hoi htl hlit
  w_strict k_steps
  repeat (any_goals (unfold HaltF; (first | ((with_reducible show wpAny _ _ (subscriptTail (Expr.Subscript _ _ _) _ _ _) _ _ _); refine kba_turn (value' := PySem.Expr.Name (PySem.Str.ofString "_") ⟨0, 0, 0, 0⟩) (fun _ => rfl) ?_) | ((with_reducible show wpAny _ _ (subscriptTail _ _ (Value.ref _) (Value.int _ _)) _ _ _); refine' item_row ?k1 ?k2 ?k3 ?k4 ?k5 ?_ ?k7 ?k8; (case k1 => k_asm); (case k2 => k_mem); (case k3 => first | decide | omega); (case k4 => first | decide | omega); (case k5 => first | with_unfolding_all assumption | with_unfolding_all rfl); (case k7 => with_unfolding_all rfl); (case k8 => (intro _; with_unfolding_all rfl))) | ((with_reducible show wpAny _ _ (exec (Stmt.Assign [Expr.Name _ _] (Expr.ListComp _ _ _ _) _) _) _ _ _); (fail_if_success (with_reducible show wpAny _ _ (exec (Stmt.Assign [Expr.Name (Str.ofString "signs") _] _ _) _) _ _ _)); refine LCg.Assign_ListComp_U (F₀ := by k_asm) (by rfl) (by with_unfolding_all rfl) (by with_unfolding_all rfl) (by decide) (by rfl) (by decide) (by rfl) (by rfl) (by rfl) ?_) | ((with_reducible show wpAny _ _ (eval (Expr.ListComp _ _ _ _) _) _ _ _); refine LCg.ListComp_U (F₀ := by k_asm) (by with_unfolding_all rfl) (by decide) (by rfl) (by decide) (by rfl) ?_) | ((with_reducible show wpAny _ _ (call (Value.builtin "len") [Value.ref _]) _ _ _); refine lenS (by k_asm) (by k_mem) (by with_reducible assumption) (by with_reducible assumption) ?_; intro tz9 tkz9) | ((with_reducible show wpAny _ _ (exec (Stmt.For _ (Expr.Call _ _ _ _) _ _ _) _) _ _ _); (rename Fr _ _ _ _ => lFz9); (with_unfolding_all refine' For_turns lFz9 ?_); k_whole) | ((with_reducible show wpAny _ _ (eval (Expr.IfExp _ _ _ _) _) _ _ _); (rename Fr _ _ _ _ => lFz9); (rename News _ _ _ _ => lNz9); with_unfolding_all refine if_join lFz9 lNz9 (by rfl) ?_ ?_) | ((with_reducible show wpAny _ _ (subscriptTail _ _ (Value.str _ _) (Value.int _ _)) _ _ _); refine' letter_row ?_ ?k1 ?k2; (case k1 => (intro _ _; with_unfolding_all rfl)); (case k2 => (intro _ _; with_unfolding_all rfl))) | ((with_reducible show wpAny _ _ (newTuple _) _ _ _); refine' kup_newTuple ?F ?N ?_ ?z; (case F => k_asm); (case N => k_asm); (case z => kmk_size); intro Dz9 hz9 Fz9 Nz9 lz9; (try k_lt lz9); (try k_sweep)) | ((with_reducible show wpAny _ _ (pyIter (Value.ref _)) _ _ _); (fail_if_success (with_reducible (rename MkP1 _ => hMz9))); (rename IsRange _ _ _ _ _ _ _ _ => lRz9); (rename Fr _ _ _ _ => lFz9); (rename News _ _ _ _ => lNz9); (with_unfolding_all refine iter_rangeTurns (n := 3) (by rfl) lFz9 lNz9 lRz9 (by decide) (by rfl) ?_); clear lFz9 lRz9; intro iz9 lz9; (try k_lt lz9); dsimp only [tokInts]) | ((with_reducible show SIC _ _ _ _ _ _ _ _); refine' SIC.intro ?sf ?sn ?se; (case sf => k_asm); (case sn => k_asm); (case se => exact rfl))); w_strict k_steps))
  unfold HaltF
  rename Fr _ _ _ _ => lF
  rename News _ _ _ _ => lN
  refine names_itr lN fun oi2 eo => ?_
  subst eo
  rename News _ _ _ _ => lN
  refine' csetd1_ok (td := td) (tl := tl) (hh := hh) (n := 1) (nl := 1) (kt := kt) (p0 := p0) (oth := (it, oi2) :: R4) ?kC i1 (e10 ▸ esc_text hsg hkn _) i0 j1 hti htd dp0 (off_cons hit otl) ?_
  case kC => (refine' Cx.mk ?k1 ?k2 ?k3 ?k4 ?k5 ?k6 ?k7; (case k1 => k_asm); (case k2 => k_asm); (case k3 => k_asm); (case k4 => refine News.sub (by k_asm) ?_; lcg_sub); (case k5 => k_asm); (case k6 => ktr_room); (case k7 => ktr_units))
  intro p1 h8 tk8 F8 N8
  clear lF lN
  w_strict k_steps
  repeat (any_goals (unfold HaltF; (first | ((with_reducible show wpAny _ _ (subscriptTail (Expr.Subscript _ _ _) _ _ _) _ _ _); refine kba_turn (value' := PySem.Expr.Name (PySem.Str.ofString "_") ⟨0, 0, 0, 0⟩) (fun _ => rfl) ?_) | ((with_reducible show wpAny _ _ (subscriptTail _ _ (Value.ref _) (Value.int _ _)) _ _ _); refine' item_row ?k1 ?k2 ?k3 ?k4 ?k5 ?_ ?k7 ?k8; (case k1 => k_asm); (case k2 => k_mem); (case k3 => first | decide | omega); (case k4 => first | decide | omega); (case k5 => first | with_unfolding_all assumption | with_unfolding_all rfl); (case k7 => with_unfolding_all rfl); (case k8 => (intro _; with_unfolding_all rfl))) | ((with_reducible show wpAny _ _ (exec (Stmt.Assign [Expr.Name _ _] (Expr.ListComp _ _ _ _) _) _) _ _ _); (fail_if_success (with_reducible show wpAny _ _ (exec (Stmt.Assign [Expr.Name (Str.ofString "signs") _] _ _) _) _ _ _)); refine LCg.Assign_ListComp_U (F₀ := by k_asm) (by rfl) (by with_unfolding_all rfl) (by with_unfolding_all rfl) (by decide) (by rfl) (by decide) (by rfl) (by rfl) (by rfl) ?_) | ((with_reducible show wpAny _ _ (eval (Expr.ListComp _ _ _ _) _) _ _ _); refine LCg.ListComp_U (F₀ := by k_asm) (by with_unfolding_all rfl) (by decide) (by rfl) (by decide) (by rfl) ?_) | ((with_reducible show wpAny _ _ (call (Value.builtin "len") [Value.ref _]) _ _ _); refine lenS (by k_asm) (by k_mem) (by with_reducible assumption) (by with_reducible assumption) ?_; intro tz9 tkz9) | ((with_reducible show wpAny _ _ (exec (Stmt.For _ (Expr.Call _ _ _ _) _ _ _) _) _ _ _); (rename Fr _ _ _ _ => lFz9); (with_unfolding_all refine' For_turns lFz9 ?_); k_whole) | ((with_reducible show wpAny _ _ (eval (Expr.IfExp _ _ _ _) _) _ _ _); (rename Fr _ _ _ _ => lFz9); (rename News _ _ _ _ => lNz9); with_unfolding_all refine if_join lFz9 lNz9 (by rfl) ?_ ?_) | ((with_reducible show wpAny _ _ (subscriptTail _ _ (Value.str _ _) (Value.int _ _)) _ _ _); refine' letter_row ?_ ?k1 ?k2; (case k1 => (intro _ _; with_unfolding_all rfl)); (case k2 => (intro _ _; with_unfolding_all rfl))) | ((with_reducible show wpAny _ _ (newTuple _) _ _ _); refine' kup_newTuple ?F ?N ?_ ?z; (case F => k_asm); (case N => k_asm); (case z => kmk_size); intro Dz9 hz9 Fz9 Nz9 lz9; (try k_lt lz9); (try k_sweep)) | ((with_reducible show wpAny _ _ (pyIter (Value.ref _)) _ _ _); (fail_if_success (with_reducible (rename MkP1 _ => hMz9))); (rename IsRange _ _ _ _ _ _ _ _ => lRz9); (rename Fr _ _ _ _ => lFz9); (rename News _ _ _ _ => lNz9); (with_unfolding_all refine iter_rangeTurns (n := 3) (by rfl) lFz9 lNz9 lRz9 (by decide) (by rfl) ?_); clear lFz9 lRz9; intro iz9 lz9; (try k_lt lz9); dsimp only [tokInts]) | ((with_reducible show SIC _ _ _ _ _ _ _ _); refine' SIC.intro ?sf ?sn ?se; (case sf => k_asm); (case sn => k_asm); (case se => exact rfl))); w_strict k_steps))
  unfold HaltF
  rename Fr _ _ _ _ => lF
  rename News _ _ _ _ => lN
  rename (Obj.cls _ = Value.type "range_iterator") => hoi
  rename (it < _ ∧ _) => z9
  clear z9
  have dp1 : p1 ≠ tl := tup_list_ne lN (.tail _ (.head _)) (.head _)
  have hp0 : p0 ≠ it := tup_iter_ne lN (by k_mem) (by k_mem) hoi
  refine UnrEndW.of1 (news' := (tl, listOf #[.ref p0, .ref p1] (1 + 1)) :: (p0, tup2 (Txt.item (Str.ofString "abc") (0 + ((0 : Nat) : Int))) _ y00 t00) :: (p1, tup2 (Txt.item (Str.ofString "abc") (0 + ((1 : Nat) : Int))) _ y10 t10) :: (ti, instObj 241 td) :: (td, dictOf [⟨hh, .str (Str.ofString "_headers") kt, .ref tl⟩] 1) :: R4) lF lN (by k_mem) (by lcg_sub) (off_cons (Ne.symm hit) (off_cons hp0 (off_cons (tup_iter_ne lN (.tail _ (.head _)) (by k_mem) hoi) (off_cons oti (off_cons otd oit))))) ⟨trivial, ?_⟩
  clear lF lN hoi
  w_strict k_steps
  repeat (any_goals (unfold HaltF; (first | ((with_reducible show wpAny _ _ (subscriptTail (Expr.Subscript _ _ _) _ _ _) _ _ _); refine kba_turn (value' := PySem.Expr.Name (PySem.Str.ofString "_") ⟨0, 0, 0, 0⟩) (fun _ => rfl) ?_) | ((with_reducible show wpAny _ _ (subscriptTail _ _ (Value.ref _) (Value.int _ _)) _ _ _); refine' item_row ?k1 ?k2 ?k3 ?k4 ?k5 ?_ ?k7 ?k8; (case k1 => k_asm); (case k2 => k_mem); (case k3 => first | decide | omega); (case k4 => first | decide | omega); (case k5 => first | with_unfolding_all assumption | with_unfolding_all rfl); (case k7 => with_unfolding_all rfl); (case k8 => (intro _; with_unfolding_all rfl))) | ((with_reducible show wpAny _ _ (exec (Stmt.Assign [Expr.Name _ _] (Expr.ListComp _ _ _ _) _) _) _ _ _); (fail_if_success (with_reducible show wpAny _ _ (exec (Stmt.Assign [Expr.Name (Str.ofString "signs") _] _ _) _) _ _ _)); refine LCg.Assign_ListComp_U (F₀ := by k_asm) (by rfl) (by with_unfolding_all rfl) (by with_unfolding_all rfl) (by decide) (by rfl) (by decide) (by rfl) (by rfl) (by rfl) ?_) | ((with_reducible show wpAny _ _ (eval (Expr.ListComp _ _ _ _) _) _ _ _); refine LCg.ListComp_U (F₀ := by k_asm) (by with_unfolding_all rfl) (by decide) (by rfl) (by decide) (by rfl) ?_) | ((with_reducible show wpAny _ _ (call (Value.builtin "len") [Value.ref _]) _ _ _); refine lenS (by k_asm) (by k_mem) (by with_reducible assumption) (by with_reducible assumption) ?_; intro tz9 tkz9) | ((with_reducible show wpAny _ _ (exec (Stmt.For _ (Expr.Call _ _ _ _) _ _ _) _) _ _ _); (rename Fr _ _ _ _ => lFz9); (with_unfolding_all refine' For_turns lFz9 ?_); k_whole) | ((with_reducible show wpAny _ _ (eval (Expr.IfExp _ _ _ _) _) _ _ _); (rename Fr _ _ _ _ => lFz9); (rename News _ _ _ _ => lNz9); with_unfolding_all refine if_join lFz9 lNz9 (by rfl) ?_ ?_) | ((with_reducible show wpAny _ _ (subscriptTail _ _ (Value.str _ _) (Value.int _ _)) _ _ _); refine' letter_row ?_ ?k1 ?k2; (case k1 => (intro _ _; with_unfolding_all rfl)); (case k2 => (intro _ _; with_unfolding_all rfl))) | ((with_reducible show wpAny _ _ (newTuple _) _ _ _); refine' kup_newTuple ?F ?N ?_ ?z; (case F => k_asm); (case N => k_asm); (case z => kmk_size); intro Dz9 hz9 Fz9 Nz9 lz9; (try k_lt lz9); (try k_sweep)) | ((with_reducible show wpAny _ _ (pyIter (Value.ref _)) _ _ _); (fail_if_success (with_reducible (rename MkP1 _ => hMz9))); (rename IsRange _ _ _ _ _ _ _ _ => lRz9); (rename Fr _ _ _ _ => lFz9); (rename News _ _ _ _ => lNz9); (with_unfolding_all refine iter_rangeTurns (n := 3) (by rfl) lFz9 lNz9 lRz9 (by decide) (by rfl) ?_); clear lFz9 lRz9; intro iz9 lz9; (try k_lt lz9); dsimp only [tokInts]) | ((with_reducible show SIC _ _ _ _ _ _ _ _); refine' SIC.intro ?sf ?sn ?se; (case sf => k_asm); (case sn => k_asm); (case se => exact rfl))); w_strict k_steps))
  unfold HaltF
  rename Fr _ _ _ _ => lF
  rename News _ _ _ _ => lN
  refine names_itr lN fun oi3 eo => ?_
  subst eo
  rename News _ _ _ _ => lN
  refine' csetd2_ok (td := td) (tl := tl) (hh := hh) (n := 1) (nl := 2) (kt := kt) (p0 := p0) (p1 := p1) (oth := (it, oi3) :: R4) ?kC i2 (e20 ▸ esc_text hsg hkn _) i0 i1 j2 j3 hti htd dp0 dp1 (off_cons hit otl) ?_
  case kC => (refine' Cx.mk ?k1 ?k2 ?k3 ?k4 ?k5 ?k6 ?k7; (case k1 => k_asm); (case k2 => k_asm); (case k3 => k_asm); (case k4 => refine News.sub (by k_asm) ?_; lcg_sub); (case k5 => k_asm); (case k6 => ktr_room); (case k7 => ktr_units))
  intro p2 h8 tk8 F8 N8
  clear lF lN
  w_strict k_steps
  repeat (any_goals (unfold HaltF; (first | ((with_reducible show wpAny _ _ (subscriptTail (Expr.Subscript _ _ _) _ _ _) _ _ _); refine kba_turn (value' := PySem.Expr.Name (PySem.Str.ofString "_") ⟨0, 0, 0, 0⟩) (fun _ => rfl) ?_) | ((with_reducible show wpAny _ _ (subscriptTail _ _ (Value.ref _) (Value.int _ _)) _ _ _); refine' item_row ?k1 ?k2 ?k3 ?k4 ?k5 ?_ ?k7 ?k8; (case k1 => k_asm); (case k2 => k_mem); (case k3 => first | decide | omega); (case k4 => first | decide | omega); (case k5 => first | with_unfolding_all assumption | with_unfolding_all rfl); (case k7 => with_unfolding_all rfl); (case k8 => (intro _; with_unfolding_all rfl))) | ((with_reducible show wpAny _ _ (exec (Stmt.Assign [Expr.Name _ _] (Expr.ListComp _ _ _ _) _) _) _ _ _); (fail_if_success (with_reducible show wpAny _ _ (exec (Stmt.Assign [Expr.Name (Str.ofString "signs") _] _ _) _) _ _ _)); refine LCg.Assign_ListComp_U (F₀ := by k_asm) (by rfl) (by with_unfolding_all rfl) (by with_unfolding_all rfl) (by decide) (by rfl) (by decide) (by rfl) (by rfl) (by rfl) ?_) | ((with_reducible show wpAny _ _ (eval (Expr.ListComp _ _ _ _) _) _ _ _); refine LCg.ListComp_U (F₀ := by k_asm) (by with_unfolding_all rfl) (by decide) (by rfl) (by decide) (by rfl) ?_) | ((with_reducible show wpAny _ _ (call (Value.builtin "len") [Value.ref _]) _ _ _); refine lenS (by k_asm) (by k_mem) (by with_reducible assumption) (by with_reducible assumption) ?_; intro tz9 tkz9) | ((with_reducible show wpAny _ _ (exec (Stmt.For _ (Expr.Call _ _ _ _) _ _ _) _) _ _ _); (rename Fr _ _ _ _ => lFz9); (with_unfolding_all refine' For_turns lFz9 ?_); k_whole) | ((with_reducible show wpAny _ _ (eval (Expr.IfExp _ _ _ _) _) _ _ _); (rename Fr _ _ _ _ => lFz9); (rename News _ _ _ _ => lNz9); with_unfolding_all refine if_join lFz9 lNz9 (by rfl) ?_ ?_) | ((with_reducible show wpAny _ _ (subscriptTail _ _ (Value.str _ _) (Value.int _ _)) _ _ _); refine' letter_row ?_ ?k1 ?k2; (case k1 => (intro _ _; with_unfolding_all rfl)); (case k2 => (intro _ _; with_unfolding_all rfl))) | ((with_reducible show wpAny _ _ (newTuple _) _ _ _); refine' kup_newTuple ?F ?N ?_ ?z; (case F => k_asm); (case N => k_asm); (case z => kmk_size); intro Dz9 hz9 Fz9 Nz9 lz9; (try k_lt lz9); (try k_sweep)) | ((with_reducible show wpAny _ _ (pyIter (Value.ref _)) _ _ _); (fail_if_success (with_reducible (rename MkP1 _ => hMz9))); (rename IsRange _ _ _ _ _ _ _ _ => lRz9); (rename Fr _ _ _ _ => lFz9); (rename News _ _ _ _ => lNz9); (with_unfolding_all refine iter_rangeTurns (n := 3) (by rfl) lFz9 lNz9 lRz9 (by decide) (by rfl) ?_); clear lFz9 lRz9; intro iz9 lz9; (try k_lt lz9); dsimp only [tokInts]) | ((with_reducible show SIC _ _ _ _ _ _ _ _); refine' SIC.intro ?sf ?sn ?se; (case sf => k_asm); (case sn => k_asm); (case se => exact rfl))); w_strict k_steps))
  unfold HaltF
  rename Fr _ _ _ _ => lF
  rename News _ _ _ _ => lN
  rename (Obj.cls _ = Value.type "range_iterator") => hoi
  have dp2 : p2 ≠ tl := tup_list_ne lN (.tail _ (.head _)) (.head _)
  have hp1 : p1 ≠ it := tup_iter_ne lN (by k_mem) (by k_mem) hoi
  refine UnrEndW.of1 (news' := (tl, listOf #[.ref p0, .ref p1, .ref p2] (2 + 1)) :: (p0, tup2 (Txt.item (Str.ofString "abc") (0 + ((0 : Nat) : Int))) _ y00 t00) :: (p1, tup2 (Txt.item (Str.ofString "abc") (0 + ((1 : Nat) : Int))) _ y10 t10) :: (p2, tup2 (Txt.item (Str.ofString "abc") (0 + ((2 : Nat) : Int))) _ y20 t20) :: (ti, instObj 241 td) :: (td, dictOf [⟨hh, .str (Str.ofString "_headers") kt, .ref tl⟩] 1) :: R4) lF lN (by k_mem) (by lcg_sub) (off_cons (Ne.symm hit) (off_cons hp0 (off_cons hp1 (off_cons (tup_iter_ne lN (.tail _ (.head _)) (by k_mem) hoi) (off_cons oti (off_cons otd oit)))))) ⟨trivial, ?_⟩
  clear lF lN hoi
  w_strict k_steps
  repeat (any_goals (unfold HaltF; (first | ((with_reducible show wpAny _ _ (subscriptTail (Expr.Subscript _ _ _) _ _ _) _ _ _); refine kba_turn (value' := PySem.Expr.Name (PySem.Str.ofString "_") ⟨0, 0, 0, 0⟩) (fun _ => rfl) ?_) | ((with_reducible show wpAny _ _ (subscriptTail _ _ (Value.ref _) (Value.int _ _)) _ _ _); refine' item_row ?k1 ?k2 ?k3 ?k4 ?k5 ?_ ?k7 ?k8; (case k1 => k_asm); (case k2 => k_mem); (case k3 => first | decide | omega); (case k4 => first | decide | omega); (case k5 => first | with_unfolding_all assumption | with_unfolding_all rfl); (case k7 => with_unfolding_all rfl); (case k8 => (intro _; with_unfolding_all rfl))) | ((with_reducible show wpAny _ _ (exec (Stmt.Assign [Expr.Name _ _] (Expr.ListComp _ _ _ _) _) _) _ _ _); (fail_if_success (with_reducible show wpAny _ _ (exec (Stmt.Assign [Expr.Name (Str.ofString "signs") _] _ _) _) _ _ _)); refine LCg.Assign_ListComp_U (F₀ := by k_asm) (by rfl) (by with_unfolding_all rfl) (by with_unfolding_all rfl) (by decide) (by rfl) (by decide) (by rfl) (by rfl) (by rfl) ?_) | ((with_reducible show wpAny _ _ (eval (Expr.ListComp _ _ _ _) _) _ _ _); refine LCg.ListComp_U (F₀ := by k_asm) (by with_unfolding_all rfl) (by decide) (by rfl) (by decide) (by rfl) ?_) | ((with_reducible show wpAny _ _ (call (Value.builtin "len") [Value.ref _]) _ _ _); refine lenS (by k_asm) (by k_mem) (by with_reducible assumption) (by with_reducible assumption) ?_; intro tz9 tkz9) | ((with_reducible show wpAny _ _ (exec (Stmt.For _ (Expr.Call _ _ _ _) _ _ _) _) _ _ _); (rename Fr _ _ _ _ => lFz9); (with_unfolding_all refine' For_turns lFz9 ?_); k_whole) | ((with_reducible show wpAny _ _ (eval (Expr.IfExp _ _ _ _) _) _ _ _); (rename Fr _ _ _ _ => lFz9); (rename News _ _ _ _ => lNz9); with_unfolding_all refine if_join lFz9 lNz9 (by rfl) ?_ ?_) | ((with_reducible show wpAny _ _ (subscriptTail _ _ (Value.str _ _) (Value.int _ _)) _ _ _); refine' letter_row ?_ ?k1 ?k2; (case k1 => (intro _ _; with_unfolding_all rfl)); (case k2 => (intro _ _; with_unfolding_all rfl))) | ((with_reducible show wpAny _ _ (newTuple _) _ _ _); refine' kup_newTuple ?F ?N ?_ ?z; (case F => k_asm); (case N => k_asm); (case z => kmk_size); intro Dz9 hz9 Fz9 Nz9 lz9; (try k_lt lz9); (try k_sweep)) | ((with_reducible show wpAny _ _ (pyIter (Value.ref _)) _ _ _); (fail_if_success (with_reducible (rename MkP1 _ => hMz9))); (rename IsRange _ _ _ _ _ _ _ _ => lRz9); (rename Fr _ _ _ _ => lFz9); (rename News _ _ _ _ => lNz9); (with_unfolding_all refine iter_rangeTurns (n := 3) (by rfl) lFz9 lNz9 lRz9 (by decide) (by rfl) ?_); clear lFz9 lRz9; intro iz9 lz9; (try k_lt lz9); dsimp only [tokInts]) | ((with_reducible show SIC _ _ _ _ _ _ _ _); refine' SIC.intro ?sf ?sn ?se; (case sf => k_asm); (case sn => k_asm); (case se => exact rfl))); w_strict k_steps))
  iterate 60 (try (rename _ => zStash; revert zStash))
  iterate 60 (try (rename _ => zStash; revert zStash))
  iterate 60 (try (rename _ => zStash; revert zStash))
  iterate 60 (try (rename _ => zStash; revert zStash))
  iterate 60 (try (rename _ => zStash; revert zStash))
  iterate 60 (try (rename _ => zStash; revert zStash))
  iterate 60 (try (rename _ => zStash; revert zStash))
  iterate 60 (try (rename _ => zStash; revert zStash))
  iterate 60 (try (rename _ => zStash; revert zStash))
  iterate 60 (try (rename _ => zStash; revert zStash))
  iterate 60 (try (rename _ => zStash; revert zStash))
  iterate 60 (try (rename _ => zStash; revert zStash))
  intro hStash; exact hStash.out
noncomputable def law_s4 : (P : Prop) ×' (Stash P → law_s3.1) := by
  apply PSigma.mk
  intro hStash
  intro _ _ s₁ _ _ _ _ _ _ _ _ _ _ _ _ _ _ _ _ _ _ _ _ _ _ _ _ scr _ _ _ _ _ _ _ _ _ _ _ _ _ _ _ _ _ _ _ _ _ _ _ _ qk ek A1 env1 qk1 ek1 lc e0 h' tk' hf l1 c0 c1 c2 c3 c4 c5 c6 c7 c8 c9 c10 c11 s0 s1 s2 s3 s4 s5 s6 s7 s8 s9 s10 s11 hcl hcv _ _ _ _ _ _ _ _ _ _ _ h4 co _ kd hkd hkd0 hkd5 hkn M tkd oS oH _ h9 sg h' tk' oS' dS' hDS offD x0 x1 x2 hsg v0 v1 v2 R _ _ _ _ _ _ g9 r0 r1 r2 a00 a01 a02 a10 a11 a12 a20 a21 a22 u00 u01 u02 u10 u11 u12 u20 u21 u22 k00 k01 k02 k10 k11 k12 k20 k21 k22 ch h1 tk1 R1 M1 h' tk' N' _ _ oHd R2 g9 n0 n1 n2 mk h1 tk1 R3 M2 _ g9 q0 q1 q2 t00 t01 t02 t10 t11 t12 t20 t21 t22 aw h1 tk1 y00 y01 y02 y10 y11 y12 y20 y21 y22 e00 e01 e02 e10 e11 e12 e20 e21 e22 z0 z1 z2 ez0 ez1 ez2 R4 maw mq2 mq1 mq0 msg mco mch mr0 mr1 mr2 mmk mcS M3 g1 g2 g3 g4 g5 _ _ _ _ _ _ _ _ lifted lifted lifted lifted _ _ tk _ I h9 tk9 _ _ _ _ _ _ _ _ _ _ _ _ _ _ _ _ _ it tl ti td oi hh kt ef eg qk ek _ _ F9 _ _ N9 _ _ hti htd otl hit i0 i1 i2 j1 j2 j3 p0 h8 tk8 oit oti otd dp0 _ _ _ _ _ _ _ _ oi2 _ p1 h8 tk8 dp1 hp0 _ _ _ _ _ _ _ _ _ oi3 _ p2 h8 tk8 dp2 hp1 _ _ _ _ _
  have hfill : (PySem.Challenge.rw_xl0032_01 = PySem.Challenge.rw_xl0032_01 ∧ Mine.hd.heap_1 = Mine.hd.heap_1) := by (k_fill; exact ⟨rfl, rfl⟩)
  clear hfill
  unfold HaltF
  clear i0 i1 i2 j1 j2 j3 oit oti otd hp0 hp1 hit
  repeat (rename (_ < _ ∧ _) => z9; clear z9)
  rename Fr _ _ _ _ => lF
  rename News _ _ _ _ => lN
  k_sweep
  have n0' : Txt.item (Str.ofString "abc") (0 + ((0 : Nat) : Int)) = nm 0 := itm_nm 0 (by decide)
  have n1' : Txt.item (Str.ofString "abc") (0 + ((1 : Nat) : Int)) = nm 1 := itm_nm 1 (by decide)
  have n2' : Txt.item (Str.ofString "abc") (0 + ((2 : Nat) : Int)) = nm 2 := itm_nm 2 (by decide)
  rw [n0', n1', n2'] at lN
  obtain ⟨rwf, hrwf⟩ : ∃ f, f = row3 y00 y01 y02 y10 y11 y12 y20 y21 y22 := ⟨_, rfl⟩
  refine' each_ok ?hok ?hdl ?kC _ rfl ?_
  case kC => (refine' Cx.mk ?k1 ?k2 ?k3 ?k4 ?k5 ?k6 ?k7; (case k1 => k_asm); (case k2 => k_asm); (case k3 => k_asm); (case k4 => refine News.sub (by k_asm) ?_; lcg_sub); (case k5 => k_asm); (case k6 => ktr_room); (case k7 => ktr_units))
  case hok => rw [e00, e01, e02, e10, e11, e12, e20, e21, e22]; exact row3_allR (esc_text hsg hkn _) (esc_text hsg hkn _) (esc_text hsg hkn _) (esc_text hsg hkn _) (esc_text hsg hkn _) (esc_text hsg hkn _) (esc_text hsg hkn _) (esc_text hsg hkn _) (esc_text hsg hkn _)
  case hdl => exact ⟨Ne.symm (otl _ maw), Ne.symm (otl _ mq0), Ne.symm (otl _ mq1), Ne.symm (otl _ mq2), Ne.symm (otl _ mmk), Ne.symm (otl _ mco)⟩
  intro n lt ls z9 z8 z7 rl e vs t g0' g1' g2' b0 b1 b2 h8 tk8 hn81 hnk hn' hvs F8 k8 N8
  have N7 := Keep.news (others := [(ti, instObj 241 td), (td, dictOf [⟨hh, .str (Str.ofString "_headers") kt, .ref tl⟩] 1), (ch, LCg.lst [.ref r0, .ref r1, .ref r2]), (r0, mrow a00 a01 a02 u00 u01 u02), (r1, mrow a10 a11 a12 u10 u11 u12), (r2, mrow a20 a21 a22 u20 u21 u22), (sg, LCg.lst [.str x0 v0, .str x1 v1, .str x2 v2]), (co, listOf #[.int c3 s3, .int c4 s4, .int c5 s5, .int c6 s6, .int c7 s7, .int c8 s8, .int c9 s9, .int c10 s10, .int c11 s11] 0), (s₁.heap.objs.size + 1 + 1, oS')]) k8 (News.sub lN (by lcg_sub)) N8 (off4R lN (by lcg_sub) (all_cons noTup_inst (all_cons noTup_dict (all_cons noTup_list (all_cons noTup_list (all_cons noTup_list (all_cons noTup_list (all_cons noTup_list (all_cons noTup_list (all_cons (.inr ⟨_, dS'⟩) (fun _ h => nomatch h)))))))))) (off_cons hti (off_cons htd (off_cons (otl _ mch) (off_cons (otl _ mr0) (off_cons (otl _ mr1) (off_cons (otl _ mr2) (off_cons (otl _ msg) (off_cons (otl _ mco) (off_cons (otl _ mcS) (fun _ h => nomatch h)))))))))) (by k_mem) (by k_mem) (by k_mem))
  simp only [List.cons_append, List.nil_append] at N7
  clear lN lF N8 k8
  generalize hg : eaIter _ _ _ _ = g at hnk hn' hvs N7
  w_strict k_steps
  repeat (any_goals (unfold HaltF; (first | ((with_reducible show wpAny _ _ (subscriptTail (Expr.Subscript _ _ _) _ _ _) _ _ _); refine kba_turn (value' := PySem.Expr.Name (PySem.Str.ofString "_") ⟨0, 0, 0, 0⟩) (fun _ => rfl) ?_) | ((with_reducible show wpAny _ _ (subscriptTail _ _ (Value.ref _) (Value.int _ _)) _ _ _); refine' item_row ?k1 ?k2 ?k3 ?k4 ?k5 ?_ ?k7 ?k8; (case k1 => k_asm); (case k2 => k_mem); (case k3 => first | decide | omega); (case k4 => first | decide | omega); (case k5 => first | with_unfolding_all assumption | with_unfolding_all rfl); (case k7 => with_unfolding_all rfl); (case k8 => (intro _; with_unfolding_all rfl))) | ((with_reducible show wpAny _ _ (exec (Stmt.Assign [Expr.Name _ _] (Expr.ListComp _ _ _ _) _) _) _ _ _); (fail_if_success (with_reducible show wpAny _ _ (exec (Stmt.Assign [Expr.Name (Str.ofString "signs") _] _ _) _) _ _ _)); refine LCg.Assign_ListComp_U (F₀ := by k_asm) (by rfl) (by with_unfolding_all rfl) (by with_unfolding_all rfl) (by decide) (by rfl) (by decide) (by rfl) (by rfl) (by rfl) ?_) | ((with_reducible show wpAny _ _ (eval (Expr.ListComp _ _ _ _) _) _ _ _); refine LCg.ListComp_U (F₀ := by k_asm) (by with_unfolding_all rfl) (by decide) (by rfl) (by decide) (by rfl) ?_) | ((with_reducible show wpAny _ _ (call (Value.builtin "len") [Value.ref _]) _ _ _); refine lenS (by k_asm) (by k_mem) (by with_reducible assumption) (by with_reducible assumption) ?_; intro tz9 tkz9) | ((with_reducible show wpAny _ _ (exec (Stmt.For _ (Expr.Call _ _ _ _) _ _ _) _) _ _ _); (rename Fr _ _ _ _ => lFz9); (with_unfolding_all refine' For_turns lFz9 ?_); k_whole) | ((with_reducible show wpAny _ _ (eval (Expr.IfExp _ _ _ _) _) _ _ _); (rename Fr _ _ _ _ => lFz9); (rename News _ _ _ _ => lNz9); with_unfolding_all refine if_join lFz9 lNz9 (by rfl) ?_ ?_) | ((with_reducible show wpAny _ _ (subscriptTail _ _ (Value.str _ _) (Value.int _ _)) _ _ _); refine' letter_row ?_ ?k1 ?k2; (case k1 => (intro _ _; with_unfolding_all rfl)); (case k2 => (intro _ _; with_unfolding_all rfl))) | ((with_reducible show wpAny _ _ (newTuple _) _ _ _); refine' kup_newTuple ?F ?N ?_ ?z; (case F => k_asm); (case N => k_asm); (case z => kmk_size); intro Dz9 hz9 Fz9 Nz9 lz9; (try k_lt lz9); (try k_sweep)) | ((with_reducible show wpAny _ _ (pyIter (Value.ref _)) _ _ _); (fail_if_success (with_reducible (rename MkP1 _ => hMz9))); (rename IsRange _ _ _ _ _ _ _ _ => lRz9); (rename Fr _ _ _ _ => lFz9); (rename News _ _ _ _ => lNz9); (with_unfolding_all refine iter_rangeTurns (n := 3) (by rfl) lFz9 lNz9 lRz9 (by decide) (by rfl) ?_); clear lFz9 lRz9; intro iz9 lz9; (try k_lt lz9); dsimp only [tokInts]) | ((with_reducible show SIC _ _ _ _ _ _ _ _); refine' SIC.intro ?sf ?sn ?se; (case sf => k_asm); (case sn => k_asm); (case se => exact rfl))); w_strict k_steps))
  iterate 60 (try (rename _ => zStash; revert zStash))
  iterate 60 (try (rename _ => zStash; revert zStash))
  iterate 60 (try (rename _ => zStash; revert zStash))
  iterate 60 (try (rename _ => zStash; revert zStash))
  iterate 60 (try (rename _ => zStash; revert zStash))
  iterate 60 (try (rename _ => zStash; revert zStash))
  iterate 60 (try (rename _ => zStash; revert zStash))
  iterate 60 (try (rename _ => zStash; revert zStash))
  iterate 60 (try (rename _ => zStash; revert zStash))
  iterate 60 (try (rename _ => zStash; revert zStash))
  iterate 60 (try (rename _ => zStash; revert zStash))
  iterate 60 (try (rename _ => zStash; revert zStash))
  intro hStash; exact hStash.out
noncomputable def law_s5 : (P : Prop) ×' (Stash P → law_s4.1) := by
  apply PSigma.mk
  intro hStash
  intro _ _ s₁ _ _ _ _ _ _ _ _ _ _ _ _ _ _ _ _ _ _ _ _ _ _ _ _ scr _ _ _ _ _ _ _ _ _ _ _ _ _ _ _ _ _ _ _ _ _ _ _ _ qk ek A1 env1 qk1 ek1 lc e0 h' tk' hf l1 c0 c1 c2 c3 c4 c5 c6 c7 c8 c9 c10 c11 s0 s1 s2 s3 s4 s5 s6 s7 s8 s9 s10 s11 hcl hcv _ _ _ _ _ _ _ _ _ _ _ h4 co kd hkd hkd0 hkd5 hkn M tkd oS oH _ h9 sg h' tk' oS' dS' hDS offD x0 x1 x2 hsg v0 v1 v2 R _ _ _ _ _ g9 r0 r1 r2 a00 a01 a02 a10 a11 a12 a20 a21 a22 u00 u01 u02 u10 u11 u12 u20 u21 u22 k00 k01 k02 k10 k11 k12 k20 k21 k22 ch h1 tk1 R1 M1 h' tk' N' _ _ oHd R2 g9 n0 n1 n2 mk h1 tk1 R3 M2 _ g9 q0 q1 q2 t00 t01 t02 t10 t11 t12 t20 t21 t22 aw h1 tk1 y00 y01 y02 y10 y11 y12 y20 y21 y22 e00 e01 e02 e10 e11 e12 e20 e21 e22 z0 z1 z2 ez0 ez1 ez2 R4 maw mq2 mq1 mq0 msg mco mch mr0 mr1 mr2 mmk mcS M3 g1 g2 g3 g4 g5 _ _ _ _ _ _ _ _ lifted lifted lifted lifted _ _ tk _ I h9 tk9 _ _ _ _ _ _ _ _ _ _ _ _ _ _ _ _ _ it tl ti td oi hh kt ef eg qk ek _ F9 _ _ N9 hti htd otl p0 h8 tk8 dp0 _ _ _ _ _ _ _ oi2 p1 h8 tk8 dp1 _ _ _ _ _ _ _ oi3 p2 h8 tk8 dp2 _ _ n0' n1' n2' rwf hrwf n lt ls z9 z8 z7 rl e vs t g0' g1' g2' b0 b1 b2 h8 tk8 hn81 g hg hnk hn' hvs N7 _ _ _ _ _ _
  have hfill : (PySem.Challenge.rw_xl0032_01 = PySem.Challenge.rw_xl0032_01 ∧ Mine.hd.heap_1 = Mine.hd.heap_1) := by (k_fill; exact ⟨rfl, rfl⟩)
  clear hfill
  unfold HaltF
  rename Fr _ _ _ _ => lF
  rename News _ _ _ _ => lN
  have O := ok_law hsg hkn (fun p i _ _ => ch9_allR (P := Msk) k00 k01 k02 k10 k11 k12 k20 k21 k22 p i)
  have hrow : ∀ p i, p < 3 → i < 3 → row3 y00 y01 y02 y10 y11 y12 y20 y21 y22 p i = tellK kd.toNat (ch9 a00 a01 a02 a10 a11 a12 a20 a21 a22 p i) x0 x1 x2 := by
    intro p i hp hi
    rcases fin3 hp with rfl | rfl | rfl <;> rcases fin3 hi with rfl | rfl | rfl
    · exact e00 ▸ esc_tell hsg hkn k00
    · exact e01 ▸ esc_tell hsg hkn k01
    · exact e02 ▸ esc_tell hsg hkn k02
    · exact e10 ▸ esc_tell hsg hkn k10
    · exact e11 ▸ esc_tell hsg hkn k11
    · exact e12 ▸ esc_tell hsg hkn k12
    · exact e20 ▸ esc_tell hsg hkn k20
    · exact e21 ▸ esc_tell hsg hkn k21
    · exact e22 ▸ esc_tell hsg hkn k22
  obtain ⟨N3, hN81, hN3, _⟩ := comes_to_rest (cs := [c3, c4, c5, c6, c7, c8, c9, c10, c11]) O (σ := slStart (ch9 a00 a01 a02 a10 a11 a12 a20 a21 a22)) ⟨⟨0, by decide, rfl⟩, ⟨0, by decide, rfl⟩, ⟨0, by decide, rfl⟩⟩ rfl
  refine' slope_ok hkd0 hkd5 (sg_len0 hsg) (sg_len1 hsg) (sg_len2 hsg) (fun k => sg_fit hsg k) ?kC _ rfl ?ht ?_
  case kC => (refine' Cx.mk ?k1 ?k2 ?k3 ?k4 ?k5 ?k6 ?k7; (case k1 => k_asm); (case k2 => k_asm); (case k3 => k_asm); (case k4 => refine News.sub (by k_asm) ?_; lcg_sub); (case k5 => k_asm); (case k6 => ktr_room); (case k7 => ktr_units))
  case ht => exact ⟨N3, hN81, Nat.le_of_eq hN3.symm⟩
  intro i lt2 ls2 vs2 e2 t2 h9 tk9 hi hi' hvs2 F9 k9 N9 _ _
  have N8 := keep_all_newsR k9 N9 lN
  simp only [List.cons_append, List.nil_append] at N8
  clear lN lF N9 k9
  generalize hf : slIter _ _ _ _ = f at hi hi' hvs2 N8
  rw [ez0, ez1, ez2] at hg
  obtain ⟨hni, hst, hgn, h3n, hsl, l0, hl0⟩ := rest_at O _ hrow hg.symm hf.symm hn81 hnk hn' hi hi'
  subst hni
  have hko : ∀ x ∈ (f n).steps, PyData.strOk x = true := by
    rw [← hf]
    exact sl_steps (P := fun x => PyData.strOk x = true) (fun p i hp hi => by
      show PyData.strOk (tellK _ _ _ _ _) = true
      rw [← esc_tell hsg hkn (ch9_allR (P := Msk) k00 k01 k02 k10 k11 k12 k20 k21 k22 p i)]
      exact strOk_of (esc_text hsg hkn _)) n
  rw [hst] at hvs
  replace hgn : (g n).gained = hgt [a00, a10, a20] [c3, c4, c5, c6, c7, c8, c9, c10, c11] - hgt [(f n).k0, (f n).k1, (f n).k2] [c3, c4, c5, c6, c7, c8, c9, c10, c11] := hgn
  rw [← hgn] at N8
  have N9 := News.sub (led := [(lt2, { cls := .type "tuple", data := .seq #[.ref ls2, .int (g n).gained t2] }), (ls2, W.listOf vs2.toArray e2), (lt, { cls := .type "tuple", data := .seq #[.ref ls, .int (g n).gained t] }), (ls, W.listOf vs.toArray e), (tl, W.listOf #[.ref z9, .ref z8, .ref z7] rl), (z9, tup2 (nm n) g0' (g n).w0 b0), (z8, tup2 (nm (n + 1)) g1' (g n).w1 b1), (z7, tup2 (nm (n + 2)) g2' (g n).w2 b2), (ti, instObj 241 td), (td, dictOf [{ hash := hh, key := .str (Str.ofString "_headers") kt, val := .ref tl }] 1)]) N8 (by lcg_sub)
  clear N8 hgn hi' hi hf hrow O hn' hnk hg hst hN3 hN81
  generalize (g n).w0 = w0 at N9 hl0
  generalize (g n).w1 = w1 at N9 hl0
  generalize (g n).w2 = w2 at N9 hl0
  generalize (g n).gained = gg at N9 F9
  generalize (f n).steps = told at hvs hvs2 hsl hko hl0
  iterate 60 (try (rename _ => zStash; revert zStash))
  iterate 60 (try (rename _ => zStash; revert zStash))
  iterate 60 (try (rename _ => zStash; revert zStash))
  iterate 60 (try (rename _ => zStash; revert zStash))
  iterate 60 (try (rename _ => zStash; revert zStash))
  iterate 60 (try (rename _ => zStash; revert zStash))
  iterate 60 (try (rename _ => zStash; revert zStash))
  iterate 60 (try (rename _ => zStash; revert zStash))
  iterate 60 (try (rename _ => zStash; revert zStash))
  iterate 60 (try (rename _ => zStash; revert zStash))
  iterate 60 (try (rename _ => zStash; revert zStash))
  iterate 60 (try (rename _ => zStash; revert zStash))
  intro hStash; exact hStash.out
noncomputable def law_s6 : (P : Prop) ×' (Stash P → law_s5.1) := by
  apply PSigma.mk
  intro hStash
  intro _ _ s₁ _ _ _ _ _ _ _ _ _ _ _ _ _ _ _ _ _ _ _ _ _ _ _ _ scr _ _ _ _ _ _ _ _ _ _ _ _ _ _ _ _ _ _ _ _ _ _ _ _ qk ek A1 env1 qk1 ek1 lc e0 h' tk' hf l1 c0 c1 c2 c3 c4 c5 c6 c7 c8 c9 c10 c11 s0 s1 s2 s3 s4 s5 s6 s7 s8 s9 s10 s11 hcl hcv _ _ _ _ _ _ _ _ _ _ _ h4 co kd hkd hkd0 hkd5 hkn M tkd oS oH _ h9 sg h' tk' oS' dS' hDS offD x0 x1 x2 hsg v0 v1 v2 R _ _ _ _ _ g9 r0 r1 r2 a00 a01 a02 a10 a11 a12 a20 a21 a22 u00 u01 u02 u10 u11 u12 u20 u21 u22 k00 k01 k02 k10 k11 k12 k20 k21 k22 ch h1 tk1 R1 M1 h' tk' N' _ _ oHd R2 g9 n0 n1 n2 mk h1 tk1 R3 M2 _ g9 q0 q1 q2 t00 t01 t02 t10 t11 t12 t20 t21 t22 aw h1 tk1 y00 y01 y02 y10 y11 y12 y20 y21 y22 e00 e01 e02 e10 e11 e12 e20 e21 e22 z0 z1 z2 ez0 ez1 ez2 R4 maw mq2 mq1 mq0 msg mco mch mr0 mr1 mr2 mmk mcS M3 g1 g2 g3 g4 g5 _ _ _ _ _ _ _ _ lifted lifted lifted lifted _ _ tk _ I h9 tk9 _ _ _ _ _ _ _ _ _ _ _ _ _ _ _ _ _ it tl ti td oi hh kt ef eg qk ek _ F9 _ _ N9 hti htd otl p0 h8 tk8 dp0 _ _ _ _ _ _ _ oi2 p1 h8 tk8 dp1 _ _ _ _ _ _ _ oi3 p2 h8 tk8 dp2 _ _ n0' n1' n2' rwf hrwf n lt ls z9 z8 z7 rl e vs t g0' g1' g2' b0 b1 b2 h8 tk8 hn81 g N7 _ _ _ _ N3 _ lt2 ls2 vs2 e2 t2 h9 tk9 _ _ f h3n l0 w0 w1 w2 gg N9 F9 told hvs hvs2 hsl hko hl0
  have hfill : (PySem.Challenge.rw_xl0032_01 = PySem.Challenge.rw_xl0032_01 ∧ Mine.hd.heap_1 = Mine.hd.heap_1) := by (k_fill; exact ⟨rfl, rfl⟩)
  clear hfill
  refine opq10 N9 fun R5 N5 mlt2 mls2 mlt mls mtl mz9 mz8 mz7 mti mtd => ?_
  clear N9
  w_strict k_steps
  repeat (any_goals (unfold HaltF; (first | ((with_reducible show wpAny _ _ (subscriptTail (Expr.Subscript _ _ _) _ _ _) _ _ _); refine kba_turn (value' := PySem.Expr.Name (PySem.Str.ofString "_") ⟨0, 0, 0, 0⟩) (fun _ => rfl) ?_) | ((with_reducible show wpAny _ _ (subscriptTail _ _ (Value.ref _) (Value.int _ _)) _ _ _); refine' item_row ?k1 ?k2 ?k3 ?k4 ?k5 ?_ ?k7 ?k8; (case k1 => k_asm); (case k2 => k_mem); (case k3 => first | decide | omega); (case k4 => first | decide | omega); (case k5 => first | with_unfolding_all assumption | with_unfolding_all rfl); (case k7 => with_unfolding_all rfl); (case k8 => (intro _; with_unfolding_all rfl))) | ((with_reducible show wpAny _ _ (exec (Stmt.Assign [Expr.Name _ _] (Expr.ListComp _ _ _ _) _) _) _ _ _); (fail_if_success (with_reducible show wpAny _ _ (exec (Stmt.Assign [Expr.Name (Str.ofString "signs") _] _ _) _) _ _ _)); refine LCg.Assign_ListComp_U (F₀ := by k_asm) (by rfl) (by with_unfolding_all rfl) (by with_unfolding_all rfl) (by decide) (by rfl) (by decide) (by rfl) (by rfl) (by rfl) ?_) | ((with_reducible show wpAny _ _ (eval (Expr.ListComp _ _ _ _) _) _ _ _); refine LCg.ListComp_U (F₀ := by k_asm) (by with_unfolding_all rfl) (by decide) (by rfl) (by decide) (by rfl) ?_) | ((with_reducible show wpAny _ _ (call (Value.builtin "len") [Value.ref _]) _ _ _); refine lenS (by k_asm) (by k_mem) (by with_reducible assumption) (by with_reducible assumption) ?_; intro tz9 tkz9) | ((with_reducible show wpAny _ _ (exec (Stmt.For _ (Expr.Call _ _ _ _) _ _ _) _) _ _ _); (rename Fr _ _ _ _ => lFz9); (with_unfolding_all refine' For_turns lFz9 ?_); k_whole) | ((with_reducible show wpAny _ _ (eval (Expr.IfExp _ _ _ _) _) _ _ _); (rename Fr _ _ _ _ => lFz9); (rename News _ _ _ _ => lNz9); with_unfolding_all refine if_join lFz9 lNz9 (by rfl) ?_ ?_) | ((with_reducible show wpAny _ _ (subscriptTail _ _ (Value.str _ _) (Value.int _ _)) _ _ _); refine' letter_row ?_ ?k1 ?k2; (case k1 => (intro _ _; with_unfolding_all rfl)); (case k2 => (intro _ _; with_unfolding_all rfl))) | ((with_reducible show wpAny _ _ (newTuple _) _ _ _); refine' kup_newTuple ?F ?N ?_ ?z; (case F => k_asm); (case N => k_asm); (case z => kmk_size); intro Dz9 hz9 Fz9 Nz9 lz9; (try k_lt lz9); (try k_sweep)) | ((with_reducible show wpAny _ _ (pyIter (Value.ref _)) _ _ _); (fail_if_success (with_reducible (rename MkP1 _ => hMz9))); (rename IsRange _ _ _ _ _ _ _ _ => lRz9); (rename Fr _ _ _ _ => lFz9); (rename News _ _ _ _ => lNz9); (with_unfolding_all refine iter_rangeTurns (n := 3) (by rfl) lFz9 lNz9 lRz9 (by decide) (by rfl) ?_); clear lFz9 lRz9; intro iz9 lz9; (try k_lt lz9); dsimp only [tokInts]) | ((with_reducible show SIC _ _ _ _ _ _ _ _); refine' SIC.intro ?sf ?sn ?se; (case sf => k_asm); (case sn => k_asm); (case se => exact rfl))); w_strict k_steps))
  unfold HaltF
  rename Fr _ _ _ _ => lF
  rename News _ _ _ _ => lN
  refine' ks_ne ?a ?b hvs hvs2 hko ?u ?_
  case a => exact lN.isList (by k_mem)
  case b => exact lN.isList (by k_mem)
  case u => ke_room
  obtain ⟨m, rfl⟩ : ∃ m, n = m + 3 := ⟨n - 3, by omega⟩
  have hl2 : vs2.length = m + 3 := hvs2.length.trans hsl
  have hl0' : l0.length = m := by have e := congrArg List.length hl0; rw [List.length_append, hsl] at e; simp only [List.length_cons, List.length_nil] at e; omega
  obtain ⟨t0, t1, t2', hg0, hg1, hg2⟩ := strs_end (hl0 ▸ hvs2)
  rw [hl0'] at hg0 hg1 hg2
  have hg0' : vs2.toArray.toList[(turnI m 0).toNat]? = some (.str w0 t0) := by rw [turn_nat]; exact hg0
  have hg1' : vs2.toArray.toList[(turnI m 1).toNat]? = some (.str w1 t1) := by rw [turn_nat]; exact hg1
  have hg2' : vs2.toArray.toList[(turnI m 2).toNat]? = some (.str w2 t2') := by rw [turn_nat]; exact hg2
  have hw : PyData.strOk w0 = true ∧ PyData.strOk w1 = true ∧ PyData.strOk w2 = true := by
    refine ⟨hko _ ?_, hko _ ?_, hko _ ?_⟩ <;> rw [hl0] <;> simp
  clear hg0 hg1 hg2 hko hl0 hl0' hvs hvs2 hsl
  have hM1 : MkP1 0 := trivial
  w_strict k_steps
  repeat (any_goals (unfold HaltF; (first | ((with_reducible show wpAny _ _ (subscriptTail (Expr.Subscript _ _ _) _ _ _) _ _ _); refine kba_turn (value' := PySem.Expr.Name (PySem.Str.ofString "_") ⟨0, 0, 0, 0⟩) (fun _ => rfl) ?_) | ((with_reducible show wpAny _ _ (subscriptTail _ _ (Value.ref _) (Value.int _ _)) _ _ _); refine' item_row ?k1 ?k2 ?k3 ?k4 ?k5 ?_ ?k7 ?k8; (case k1 => k_asm); (case k2 => k_mem); (case k3 => first | decide | omega); (case k4 => first | decide | omega); (case k5 => first | with_unfolding_all assumption | with_unfolding_all rfl); (case k7 => with_unfolding_all rfl); (case k8 => (intro _; with_unfolding_all rfl))) | ((with_reducible show wpAny _ _ (exec (Stmt.Assign [Expr.Name _ _] (Expr.ListComp _ _ _ _) _) _) _ _ _); (fail_if_success (with_reducible show wpAny _ _ (exec (Stmt.Assign [Expr.Name (Str.ofString "signs") _] _ _) _) _ _ _)); refine LCg.Assign_ListComp_U (F₀ := by k_asm) (by rfl) (by with_unfolding_all rfl) (by with_unfolding_all rfl) (by decide) (by rfl) (by decide) (by rfl) (by rfl) (by rfl) ?_) | ((with_reducible show wpAny _ _ (eval (Expr.ListComp _ _ _ _) _) _ _ _); refine LCg.ListComp_U (F₀ := by k_asm) (by with_unfolding_all rfl) (by decide) (by rfl) (by decide) (by rfl) ?_) | ((with_reducible show wpAny _ _ (call (Value.builtin "len") [Value.ref _]) _ _ _); refine lenS (by k_asm) (by k_mem) (by with_reducible assumption) (by with_reducible assumption) ?_; intro tz9 tkz9) | ((with_reducible show wpAny _ _ (exec (Stmt.For _ (Expr.Call _ _ _ _) _ _ _) _) _ _ _); (rename Fr _ _ _ _ => lFz9); (with_unfolding_all refine' For_turns lFz9 ?_); k_whole) | ((with_reducible show wpAny _ _ (eval (Expr.IfExp _ _ _ _) _) _ _ _); (rename Fr _ _ _ _ => lFz9); (rename News _ _ _ _ => lNz9); with_unfolding_all refine if_join lFz9 lNz9 (by rfl) ?_ ?_) | ((with_reducible show wpAny _ _ (subscriptTail _ _ (Value.str _ _) (Value.int _ _)) _ _ _); refine' letter_row ?_ ?k1 ?k2; (case k1 => (intro _ _; with_unfolding_all rfl)); (case k2 => (intro _ _; with_unfolding_all rfl))) | ((with_reducible show wpAny _ _ (newTuple _) _ _ _); refine' kup_newTuple ?F ?N ?_ ?z; (case F => k_asm); (case N => k_asm); (case z => kmk_size); intro Dz9 hz9 Fz9 Nz9 lz9; (try k_lt lz9); (try k_sweep)) | ((with_reducible show wpAny _ _ (pyIter (Value.ref _)) _ _ _); (fail_if_success (with_reducible (rename MkP1 _ => hMz9))); (rename IsRange _ _ _ _ _ _ _ _ => lRz9); (rename Fr _ _ _ _ => lFz9); (rename News _ _ _ _ => lNz9); (with_unfolding_all refine iter_rangeTurns (n := 3) (by rfl) lFz9 lNz9 lRz9 (by decide) (by rfl) ?_); clear lFz9 lRz9; intro iz9 lz9; (try k_lt lz9); dsimp only [tokInts]) | ((with_reducible show SIC _ _ _ _ _ _ _ _); refine' SIC.intro ?sf ?sn ?se; (case sf => k_asm); (case sn => k_asm); (case se => exact rfl))); w_strict k_steps))
  unfold HaltF
  rename MkP1 _ => z9
  clear z9
  rename Fr _ _ _ _ => lF
  rename News _ _ _ _ => lN
  rename IsRange _ _ _ _ _ _ _ _ => lR
  have hz := sz3 m hn81
  with_unfolding_all refine iter_rangeTurns (n := 3) (by rfl) lF lN lR hz.1 hz.2 ?_
  clear hz lR
  intro it l1
  refine named lN fun rw erw => ?_
  subst erw
  have hrw : rw ≠ it := Nat.ne_of_lt (l1 _ (.head _))
  have oit : ∀ p ∈ R5, p.1 ≠ it := lt_off (lt_tl l1)
  clear l1 lF lN
  dsimp only [tokInts]
  iterate 60 (try (rename _ => zStash; revert zStash))
  iterate 60 (try (rename _ => zStash; revert zStash))
  iterate 60 (try (rename _ => zStash; revert zStash))
  iterate 60 (try (rename _ => zStash; revert zStash))
  iterate 60 (try (rename _ => zStash; revert zStash))
  iterate 60 (try (rename _ => zStash; revert zStash))
  iterate 60 (try (rename _ => zStash; revert zStash))
  iterate 60 (try (rename _ => zStash; revert zStash))
  iterate 60 (try (rename _ => zStash; revert zStash))
  iterate 60 (try (rename _ => zStash; revert zStash))
  iterate 60 (try (rename _ => zStash; revert zStash))
  iterate 60 (try (rename _ => zStash; revert zStash))
  intro hStash; exact hStash.out
theorem law_s7 : law_s6.1 := by
  intro _ _ s₁ _ _ _ _ _ _ _ _ _ _ _ _ _ _ _ _ _ _ _ _ _ _ _ _ scr _ _ _ _ _ _ _ _ _ _ _ _ _ _ _ _ _ _ _ _ _ _ _ _ qk ek A1 env1 qk1 ek1 lc e0 h' tk' hf l1 c0 c1 c2 c3 c4 c5 c6 c7 c8 c9 c10 c11 s0 s1 s2 s3 s4 s5 s6 s7 s8 s9 s10 s11 hcl hcv _ _ _ _ _ _ _ _ _ _ _ h4 co kd hkd hkd0 hkd5 hkn M tkd oS oH _ h9 sg h' tk' oS' dS' hDS offD x0 x1 x2 hsg v0 v1 v2 R _ _ _ _ _ g9 r0 r1 r2 a00 a01 a02 a10 a11 a12 a20 a21 a22 u00 u01 u02 u10 u11 u12 u20 u21 u22 k00 k01 k02 k10 k11 k12 k20 k21 k22 ch h1 tk1 R1 M1 h' tk' N' _ _ oHd R2 g9 n0 n1 n2 mk h1 tk1 R3 M2 _ g9 q0 q1 q2 t00 t01 t02 t10 t11 t12 t20 t21 t22 aw h1 tk1 y00 y01 y02 y10 y11 y12 y20 y21 y22 e00 e01 e02 e10 e11 e12 e20 e21 e22 z0 z1 z2 ez0 ez1 ez2 R4 maw mq2 mq1 mq0 msg mco mch mr0 mr1 mr2 mmk mcS M3 g1 g2 g3 g4 g5 _ _ _ _ _ _ _ _ lifted lifted lifted lifted _ _ tk _ I h9 tk9 _ _ _ _ _ _ _ _ _ _ _ _ _ _ _ _ _ it tl ti td oi hh kt ef eg qk ek _ F9 _ _ N9 hti htd otl p0 h8 tk8 dp0 _ _ _ _ _ _ _ oi2 p1 h8 tk8 dp1 _ _ _ _ _ _ _ oi3 p2 h8 tk8 dp2 _ _ n0' n1' n2' rwf hrwf lt ls z9 z8 z7 rl e vs t g0' g1' g2' b0 b1 b2 h8 tk8 g _ _ _ N3 _ lt2 ls2 vs2 e2 t2 h9 tk9 _ _ f l0 w0 w1 w2 gg told R5 mlt2 mls2 mlt mls mtl mti mtd _ _ _ m hn81 N7 h3n mz9 mz8 mz7 hl2 t0 t1 t2' hg0' hg1' hg2' hw _ tk _ _ _ _ _ _ _ _ _ _ _ _ _ it rw _ _ _ hrw oit
  have hfill : (PySem.Challenge.rw_xl0032_01 = PySem.Challenge.rw_xl0032_01 ∧ Mine.hd.heap_1 = Mine.hd.heap_1) := by (k_fill; exact ⟨rfl, rfl⟩)
  clear hfill
  have orw : ∀ p ∈ R5, p.1 ≠ rw := lt_off (by assumption)
  clear N7
  w_strict k_steps
  repeat (any_goals (unfold HaltF; (first | ((with_reducible show wpAny _ _ (subscriptTail (Expr.Subscript _ _ _) _ _ _) _ _ _); refine kba_turn (value' := PySem.Expr.Name (PySem.Str.ofString "_") ⟨0, 0, 0, 0⟩) (fun _ => rfl) ?_) | ((with_reducible show wpAny _ _ (subscriptTail _ _ (Value.ref _) (Value.int _ _)) _ _ _); refine' item_row ?k1 ?k2 ?k3 ?k4 ?k5 ?_ ?k7 ?k8; (case k1 => k_asm); (case k2 => k_mem); (case k3 => first | decide | omega); (case k4 => first | decide | omega); (case k5 => first | with_unfolding_all assumption | with_unfolding_all rfl); (case k7 => with_unfolding_all rfl); (case k8 => (intro _; with_unfolding_all rfl))) | ((with_reducible show wpAny _ _ (exec (Stmt.Assign [Expr.Name _ _] (Expr.ListComp _ _ _ _) _) _) _ _ _); (fail_if_success (with_reducible show wpAny _ _ (exec (Stmt.Assign [Expr.Name (Str.ofString "signs") _] _ _) _) _ _ _)); refine LCg.Assign_ListComp_U (F₀ := by k_asm) (by rfl) (by with_unfolding_all rfl) (by with_unfolding_all rfl) (by decide) (by rfl) (by decide) (by rfl) (by rfl) (by rfl) ?_) | ((with_reducible show wpAny _ _ (eval (Expr.ListComp _ _ _ _) _) _ _ _); refine LCg.ListComp_U (F₀ := by k_asm) (by with_unfolding_all rfl) (by decide) (by rfl) (by decide) (by rfl) ?_) | ((with_reducible show wpAny _ _ (call (Value.builtin "len") [Value.ref _]) _ _ _); refine lenS (by k_asm) (by k_mem) (by with_reducible assumption) (by with_reducible assumption) ?_; intro tz9 tkz9) | ((with_reducible show wpAny _ _ (exec (Stmt.For _ (Expr.Call _ _ _ _) _ _ _) _) _ _ _); (rename Fr _ _ _ _ => lFz9); (with_unfolding_all refine' For_turns lFz9 ?_); k_whole) | ((with_reducible show wpAny _ _ (eval (Expr.IfExp _ _ _ _) _) _ _ _); (rename Fr _ _ _ _ => lFz9); (rename News _ _ _ _ => lNz9); with_unfolding_all refine if_join lFz9 lNz9 (by rfl) ?_ ?_) | ((with_reducible show wpAny _ _ (subscriptTail _ _ (Value.str _ _) (Value.int _ _)) _ _ _); refine' letter_row ?_ ?k1 ?k2; (case k1 => (intro _ _; with_unfolding_all rfl)); (case k2 => (intro _ _; with_unfolding_all rfl))) | ((with_reducible show wpAny _ _ (newTuple _) _ _ _); refine' kup_newTuple ?F ?N ?_ ?z; (case F => k_asm); (case N => k_asm); (case z => kmk_size); intro Dz9 hz9 Fz9 Nz9 lz9; (try k_lt lz9); (try k_sweep)) | ((with_reducible show wpAny _ _ (pyIter (Value.ref _)) _ _ _); (fail_if_success (with_reducible (rename MkP1 _ => hMz9))); (rename IsRange _ _ _ _ _ _ _ _ => lRz9); (rename Fr _ _ _ _ => lFz9); (rename News _ _ _ _ => lNz9); (with_unfolding_all refine iter_rangeTurns (n := 3) (by rfl) lFz9 lNz9 lRz9 (by decide) (by rfl) ?_); clear lFz9 lRz9; intro iz9 lz9; (try k_lt lz9); dsimp only [tokInts]) | ((with_reducible show SIC _ _ _ _ _ _ _ _); refine' SIC.intro ?sf ?sn ?se; (case sf => k_asm); (case sn => k_asm); (case se => exact rfl))); w_strict k_steps))
  unfold HaltF
  rename Fr _ _ _ _ => lF
  rename News _ _ _ _ => lN
  rename (it < _ ∧ _) => l1'
  have hd0 := Ne.symm (Nat.ne_of_lt l1'.1)
  have hr0 := Ne.symm (Nat.ne_of_lt l1'.2.1)
  refine unr_d2 lF lN hd0 (off_cons hrw oit) ⟨trivial, ?_⟩
  clear lF lN l1'
  w_strict k_steps
  repeat (any_goals (unfold HaltF; (first | ((with_reducible show wpAny _ _ (subscriptTail (Expr.Subscript _ _ _) _ _ _) _ _ _); refine kba_turn (value' := PySem.Expr.Name (PySem.Str.ofString "_") ⟨0, 0, 0, 0⟩) (fun _ => rfl) ?_) | ((with_reducible show wpAny _ _ (subscriptTail _ _ (Value.ref _) (Value.int _ _)) _ _ _); refine' item_row ?k1 ?k2 ?k3 ?k4 ?k5 ?_ ?k7 ?k8; (case k1 => k_asm); (case k2 => k_mem); (case k3 => first | decide | omega); (case k4 => first | decide | omega); (case k5 => first | with_unfolding_all assumption | with_unfolding_all rfl); (case k7 => with_unfolding_all rfl); (case k8 => (intro _; with_unfolding_all rfl))) | ((with_reducible show wpAny _ _ (exec (Stmt.Assign [Expr.Name _ _] (Expr.ListComp _ _ _ _) _) _) _ _ _); (fail_if_success (with_reducible show wpAny _ _ (exec (Stmt.Assign [Expr.Name (Str.ofString "signs") _] _ _) _) _ _ _)); refine LCg.Assign_ListComp_U (F₀ := by k_asm) (by rfl) (by with_unfolding_all rfl) (by with_unfolding_all rfl) (by decide) (by rfl) (by decide) (by rfl) (by rfl) (by rfl) ?_) | ((with_reducible show wpAny _ _ (eval (Expr.ListComp _ _ _ _) _) _ _ _); refine LCg.ListComp_U (F₀ := by k_asm) (by with_unfolding_all rfl) (by decide) (by rfl) (by decide) (by rfl) ?_) | ((with_reducible show wpAny _ _ (call (Value.builtin "len") [Value.ref _]) _ _ _); refine lenS (by k_asm) (by k_mem) (by with_reducible assumption) (by with_reducible assumption) ?_; intro tz9 tkz9) | ((with_reducible show wpAny _ _ (exec (Stmt.For _ (Expr.Call _ _ _ _) _ _ _) _) _ _ _); (rename Fr _ _ _ _ => lFz9); (with_unfolding_all refine' For_turns lFz9 ?_); k_whole) | ((with_reducible show wpAny _ _ (eval (Expr.IfExp _ _ _ _) _) _ _ _); (rename Fr _ _ _ _ => lFz9); (rename News _ _ _ _ => lNz9); with_unfolding_all refine if_join lFz9 lNz9 (by rfl) ?_ ?_) | ((with_reducible show wpAny _ _ (subscriptTail _ _ (Value.str _ _) (Value.int _ _)) _ _ _); refine' letter_row ?_ ?k1 ?k2; (case k1 => (intro _ _; with_unfolding_all rfl)); (case k2 => (intro _ _; with_unfolding_all rfl))) | ((with_reducible show wpAny _ _ (newTuple _) _ _ _); refine' kup_newTuple ?F ?N ?_ ?z; (case F => k_asm); (case N => k_asm); (case z => kmk_size); intro Dz9 hz9 Fz9 Nz9 lz9; (try k_lt lz9); (try k_sweep)) | ((with_reducible show wpAny _ _ (pyIter (Value.ref _)) _ _ _); (fail_if_success (with_reducible (rename MkP1 _ => hMz9))); (rename IsRange _ _ _ _ _ _ _ _ => lRz9); (rename Fr _ _ _ _ => lFz9); (rename News _ _ _ _ => lNz9); (with_unfolding_all refine iter_rangeTurns (n := 3) (by rfl) lFz9 lNz9 lRz9 (by decide) (by rfl) ?_); clear lFz9 lRz9; intro iz9 lz9; (try k_lt lz9); dsimp only [tokInts]) | ((with_reducible show SIC _ _ _ _ _ _ _ _); refine' SIC.intro ?sf ?sn ?se; (case sf => k_asm); (case sn => k_asm); (case se => exact rfl))); w_strict k_steps))
  unfold HaltF
  rename Fr _ _ _ _ => lF
  rename News _ _ _ _ => lN
  rename (it < _ ∧ _) => l1'
  have hd1 := Ne.symm (Nat.ne_of_lt l1'.1)
  have hr1 := Ne.symm (Nat.ne_of_lt l1'.2.2.1)
  refine unr_d2 lF lN hd1 (off_cons hd0 (off_cons hrw oit)) ⟨trivial, ?_⟩
  clear lF lN l1'
  w_strict k_steps
  repeat (any_goals (unfold HaltF; (first | ((with_reducible show wpAny _ _ (subscriptTail (Expr.Subscript _ _ _) _ _ _) _ _ _); refine kba_turn (value' := PySem.Expr.Name (PySem.Str.ofString "_") ⟨0, 0, 0, 0⟩) (fun _ => rfl) ?_) | ((with_reducible show wpAny _ _ (subscriptTail _ _ (Value.ref _) (Value.int _ _)) _ _ _); refine' item_row ?k1 ?k2 ?k3 ?k4 ?k5 ?_ ?k7 ?k8; (case k1 => k_asm); (case k2 => k_mem); (case k3 => first | decide | omega); (case k4 => first | decide | omega); (case k5 => first | with_unfolding_all assumption | with_unfolding_all rfl); (case k7 => with_unfolding_all rfl); (case k8 => (intro _; with_unfolding_all rfl))) | ((with_reducible show wpAny _ _ (exec (Stmt.Assign [Expr.Name _ _] (Expr.ListComp _ _ _ _) _) _) _ _ _); (fail_if_success (with_reducible show wpAny _ _ (exec (Stmt.Assign [Expr.Name (Str.ofString "signs") _] _ _) _) _ _ _)); refine LCg.Assign_ListComp_U (F₀ := by k_asm) (by rfl) (by with_unfolding_all rfl) (by with_unfolding_all rfl) (by decide) (by rfl) (by decide) (by rfl) (by rfl) (by rfl) ?_) | ((with_reducible show wpAny _ _ (eval (Expr.ListComp _ _ _ _) _) _ _ _); refine LCg.ListComp_U (F₀ := by k_asm) (by with_unfolding_all rfl) (by decide) (by rfl) (by decide) (by rfl) ?_) | ((with_reducible show wpAny _ _ (call (Value.builtin "len") [Value.ref _]) _ _ _); refine lenS (by k_asm) (by k_mem) (by with_reducible assumption) (by with_reducible assumption) ?_; intro tz9 tkz9) | ((with_reducible show wpAny _ _ (exec (Stmt.For _ (Expr.Call _ _ _ _) _ _ _) _) _ _ _); (rename Fr _ _ _ _ => lFz9); (with_unfolding_all refine' For_turns lFz9 ?_); k_whole) | ((with_reducible show wpAny _ _ (eval (Expr.IfExp _ _ _ _) _) _ _ _); (rename Fr _ _ _ _ => lFz9); (rename News _ _ _ _ => lNz9); with_unfolding_all refine if_join lFz9 lNz9 (by rfl) ?_ ?_) | ((with_reducible show wpAny _ _ (subscriptTail _ _ (Value.str _ _) (Value.int _ _)) _ _ _); refine' letter_row ?_ ?k1 ?k2; (case k1 => (intro _ _; with_unfolding_all rfl)); (case k2 => (intro _ _; with_unfolding_all rfl))) | ((with_reducible show wpAny _ _ (newTuple _) _ _ _); refine' kup_newTuple ?F ?N ?_ ?z; (case F => k_asm); (case N => k_asm); (case z => kmk_size); intro Dz9 hz9 Fz9 Nz9 lz9; (try k_lt lz9); (try k_sweep)) | ((with_reducible show wpAny _ _ (pyIter (Value.ref _)) _ _ _); (fail_if_success (with_reducible (rename MkP1 _ => hMz9))); (rename IsRange _ _ _ _ _ _ _ _ => lRz9); (rename Fr _ _ _ _ => lFz9); (rename News _ _ _ _ => lNz9); (with_unfolding_all refine iter_rangeTurns (n := 3) (by rfl) lFz9 lNz9 lRz9 (by decide) (by rfl) ?_); clear lFz9 lRz9; intro iz9 lz9; (try k_lt lz9); dsimp only [tokInts]) | ((with_reducible show SIC _ _ _ _ _ _ _ _); refine' SIC.intro ?sf ?sn ?se; (case sf => k_asm); (case sn => k_asm); (case se => exact rfl))); w_strict k_steps))
  unfold HaltF
  rename Fr _ _ _ _ => lF
  rename News _ _ _ _ => lN
  rename (it < _ ∧ _) => l1'
  have hd2 := Ne.symm (Nat.ne_of_lt l1'.1)
  have hr2 := Ne.symm (Nat.ne_of_lt l1'.2.2.2.1)
  refine unr_d2 lF lN hd2 (off_cons hd1 (off_cons hd0 (off_cons hrw oit))) ⟨trivial, ?_⟩
  clear lF lN l1'
  w_strict k_steps
  repeat (any_goals (unfold HaltF; (first | ((with_reducible show wpAny _ _ (subscriptTail (Expr.Subscript _ _ _) _ _ _) _ _ _); refine kba_turn (value' := PySem.Expr.Name (PySem.Str.ofString "_") ⟨0, 0, 0, 0⟩) (fun _ => rfl) ?_) | ((with_reducible show wpAny _ _ (subscriptTail _ _ (Value.ref _) (Value.int _ _)) _ _ _); refine' item_row ?k1 ?k2 ?k3 ?k4 ?k5 ?_ ?k7 ?k8; (case k1 => k_asm); (case k2 => k_mem); (case k3 => first | decide | omega); (case k4 => first | decide | omega); (case k5 => first | with_unfolding_all assumption | with_unfolding_all rfl); (case k7 => with_unfolding_all rfl); (case k8 => (intro _; with_unfolding_all rfl))) | ((with_reducible show wpAny _ _ (exec (Stmt.Assign [Expr.Name _ _] (Expr.ListComp _ _ _ _) _) _) _ _ _); (fail_if_success (with_reducible show wpAny _ _ (exec (Stmt.Assign [Expr.Name (Str.ofString "signs") _] _ _) _) _ _ _)); refine LCg.Assign_ListComp_U (F₀ := by k_asm) (by rfl) (by with_unfolding_all rfl) (by with_unfolding_all rfl) (by decide) (by rfl) (by decide) (by rfl) (by rfl) (by rfl) ?_) | ((with_reducible show wpAny _ _ (eval (Expr.ListComp _ _ _ _) _) _ _ _); refine LCg.ListComp_U (F₀ := by k_asm) (by with_unfolding_all rfl) (by decide) (by rfl) (by decide) (by rfl) ?_) | ((with_reducible show wpAny _ _ (call (Value.builtin "len") [Value.ref _]) _ _ _); refine lenS (by k_asm) (by k_mem) (by with_reducible assumption) (by with_reducible assumption) ?_; intro tz9 tkz9) | ((with_reducible show wpAny _ _ (exec (Stmt.For _ (Expr.Call _ _ _ _) _ _ _) _) _ _ _); (rename Fr _ _ _ _ => lFz9); (with_unfolding_all refine' For_turns lFz9 ?_); k_whole) | ((with_reducible show wpAny _ _ (eval (Expr.IfExp _ _ _ _) _) _ _ _); (rename Fr _ _ _ _ => lFz9); (rename News _ _ _ _ => lNz9); with_unfolding_all refine if_join lFz9 lNz9 (by rfl) ?_ ?_) | ((with_reducible show wpAny _ _ (subscriptTail _ _ (Value.str _ _) (Value.int _ _)) _ _ _); refine' letter_row ?_ ?k1 ?k2; (case k1 => (intro _ _; with_unfolding_all rfl)); (case k2 => (intro _ _; with_unfolding_all rfl))) | ((with_reducible show wpAny _ _ (newTuple _) _ _ _); refine' kup_newTuple ?F ?N ?_ ?z; (case F => k_asm); (case N => k_asm); (case z => kmk_size); intro Dz9 hz9 Fz9 Nz9 lz9; (try k_lt lz9); (try k_sweep)) | ((with_reducible show wpAny _ _ (pyIter (Value.ref _)) _ _ _); (fail_if_success (with_reducible (rename MkP1 _ => hMz9))); (rename IsRange _ _ _ _ _ _ _ _ => lRz9); (rename Fr _ _ _ _ => lFz9); (rename News _ _ _ _ => lNz9); (with_unfolding_all refine iter_rangeTurns (n := 3) (by rfl) lFz9 lNz9 lRz9 (by decide) (by rfl) ?_); clear lFz9 lRz9; intro iz9 lz9; (try k_lt lz9); dsimp only [tokInts]) | ((with_reducible show SIC _ _ _ _ _ _ _ _); refine' SIC.intro ?sf ?sn ?se; (case sf => k_asm); (case sn => k_asm); (case se => exact rfl))); w_strict k_steps))
  unfold HaltF
  rename Fr _ _ _ _ => lF
  rename News _ _ _ _ => lN
  refine' rows_eq (n0 := nm (m + 3)) (n1 := nm (m + 3 + 1)) (n2 := nm (m + 3 + 2)) (w0 := w0) (w1 := w1) (w2 := w2) lN ?a ?b ?p0 ?p1 ?p2 ?z0 ?z1 ?z2 ⟨strOk_of (nm_fit _).1, strOk_of (nm_fit _).1, strOk_of (nm_fit _).1⟩ hw ?u ?_
  case u => ke_room
  case a => with_unfolding_all k_mem
  case b => with_unfolding_all k_mem
  case p0 => with_unfolding_all k_mem
  case p1 => with_unfolding_all k_mem
  case p2 => with_unfolding_all k_mem
  case z0 => with_unfolding_all k_mem
  case z1 => with_unfolding_all k_mem
  case z2 => with_unfolding_all k_mem
  w_strict k_steps
  repeat (any_goals (unfold HaltF; (first | ((with_reducible show wpAny _ _ (subscriptTail (Expr.Subscript _ _ _) _ _ _) _ _ _); refine kba_turn (value' := PySem.Expr.Name (PySem.Str.ofString "_") ⟨0, 0, 0, 0⟩) (fun _ => rfl) ?_) | ((with_reducible show wpAny _ _ (subscriptTail _ _ (Value.ref _) (Value.int _ _)) _ _ _); refine' item_row ?k1 ?k2 ?k3 ?k4 ?k5 ?_ ?k7 ?k8; (case k1 => k_asm); (case k2 => k_mem); (case k3 => first | decide | omega); (case k4 => first | decide | omega); (case k5 => first | with_unfolding_all assumption | with_unfolding_all rfl); (case k7 => with_unfolding_all rfl); (case k8 => (intro _; with_unfolding_all rfl))) | ((with_reducible show wpAny _ _ (exec (Stmt.Assign [Expr.Name _ _] (Expr.ListComp _ _ _ _) _) _) _ _ _); (fail_if_success (with_reducible show wpAny _ _ (exec (Stmt.Assign [Expr.Name (Str.ofString "signs") _] _ _) _) _ _ _)); refine LCg.Assign_ListComp_U (F₀ := by k_asm) (by rfl) (by with_unfolding_all rfl) (by with_unfolding_all rfl) (by decide) (by rfl) (by decide) (by rfl) (by rfl) (by rfl) ?_) | ((with_reducible show wpAny _ _ (eval (Expr.ListComp _ _ _ _) _) _ _ _); refine LCg.ListComp_U (F₀ := by k_asm) (by with_unfolding_all rfl) (by decide) (by rfl) (by decide) (by rfl) ?_) | ((with_reducible show wpAny _ _ (call (Value.builtin "len") [Value.ref _]) _ _ _); refine lenS (by k_asm) (by k_mem) (by with_reducible assumption) (by with_reducible assumption) ?_; intro tz9 tkz9) | ((with_reducible show wpAny _ _ (exec (Stmt.For _ (Expr.Call _ _ _ _) _ _ _) _) _ _ _); (rename Fr _ _ _ _ => lFz9); (with_unfolding_all refine' For_turns lFz9 ?_); k_whole) | ((with_reducible show wpAny _ _ (eval (Expr.IfExp _ _ _ _) _) _ _ _); (rename Fr _ _ _ _ => lFz9); (rename News _ _ _ _ => lNz9); with_unfolding_all refine if_join lFz9 lNz9 (by rfl) ?_ ?_) | ((with_reducible show wpAny _ _ (subscriptTail _ _ (Value.str _ _) (Value.int _ _)) _ _ _); refine' letter_row ?_ ?k1 ?k2; (case k1 => (intro _ _; with_unfolding_all rfl)); (case k2 => (intro _ _; with_unfolding_all rfl))) | ((with_reducible show wpAny _ _ (newTuple _) _ _ _); refine' kup_newTuple ?F ?N ?_ ?z; (case F => k_asm); (case N => k_asm); (case z => kmk_size); intro Dz9 hz9 Fz9 Nz9 lz9; (try k_lt lz9); (try k_sweep)) | ((with_reducible show wpAny _ _ (pyIter (Value.ref _)) _ _ _); (fail_if_success (with_reducible (rename MkP1 _ => hMz9))); (rename IsRange _ _ _ _ _ _ _ _ => lRz9); (rename Fr _ _ _ _ => lFz9); (rename News _ _ _ _ => lNz9); (with_unfolding_all refine iter_rangeTurns (n := 3) (by rfl) lFz9 lNz9 lRz9 (by decide) (by rfl) ?_); clear lFz9 lRz9; intro iz9 lz9; (try k_lt lz9); dsimp only [tokInts]) | ((with_reducible show SIC _ _ _ _ _ _ _ _); refine' SIC.intro ?sf ?sn ?se; (case sf => k_asm); (case sn => k_asm); (case se => exact rfl))); w_strict k_steps))
theorem law_walk : PySem.Challenge.rw_xl0032_01.Holds := law_s1.2 ⟨law_s2.2 ⟨law_s3.2 ⟨law_s4.2 ⟨law_s5.2 ⟨law_s6.2 ⟨law_s7⟩⟩⟩⟩⟩⟩
end
end
end Mine
theorem PySem.Challenge.cw_xl0032_01_holds : PySem.Challenge.rw_xl0032_01.Holds := by
  exact Mine.law_walk
