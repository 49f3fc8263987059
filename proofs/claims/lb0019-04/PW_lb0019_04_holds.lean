import PyProof.Rows.All
import Wide.All
import OpenK.AllK
import Wide.FinOn
import PySem.Challenge.RW_lb0019_04
set_option Elab.async false
set_option maxRecDepth 100000
namespace Mine
section
open PySem PySem.W PyProof.Rows
set_option maxHeartbeats 0
theorem look_names : namesResolve PySem.Challenge.rw_lb0019_04.row.prog = true := by
  rw [Fast.te8377067652309620493]; kernel_rfl
theorem look_attrs : (namesMeet PySem.Challenge.rw_lb0019_04.row.prog PySem.Challenge.rw_lb0019_04.row.prog.main.body fun _ n => attrL n) = true := by
  rw [Fast.te17119622794617984870, Fast.te17868728402115742887]; kernel_rfl
theorem look_strict : (!(importedModules PySem.Challenge.rw_lb0019_04.row.prog.main.body).all cThrough.contains) = false := by
  kernel_rfl
theorem reads_vars : readsOut PySem.Challenge.rw_lb0019_04.row.prog PySem.Challenge.rw_lb0019_04.row.prog.main.body "vars" = false := by
  rw [Fast.te13343964577679436407]; kernel_rfl
theorem reads_dir : readsOut PySem.Challenge.rw_lb0019_04.row.prog PySem.Challenge.rw_lb0019_04.row.prog.main.body "dir" = false := by
  rw [Fast.te13343964577679436407]; kernel_rfl
theorem reads_locals : readsOut PySem.Challenge.rw_lb0019_04.row.prog PySem.Challenge.rw_lb0019_04.row.prog.main.body "locals" = false := by
  rw [Fast.te13343964577679436407]; kernel_rfl
theorem filter3 {α : Type} {f : α → Bool} {a b c : α} (x : f a = false) (y : f b = false) (z : f c = false) : [a, b, c].filter f = [] := by
  simp only [List.filter, x, y, z]
theorem look_bare : (["vars", "dir", "locals"] : List Str).filter (readsOut PySem.Challenge.rw_lb0019_04.row.prog PySem.Challenge.rw_lb0019_04.row.prog.main.body) = [] :=
  filter3 reads_vars reads_dir reads_locals
theorem look_roads : noRoadLSs { strict := !(importedModules PySem.Challenge.rw_lb0019_04.row.prog.main.body).all cThrough.contains, foot := none, bare := (["vars", "dir", "locals"] : List Str).filter (readsOut PySem.Challenge.rw_lb0019_04.row.prog PySem.Challenge.rw_lb0019_04.row.prog.main.body) } PySem.Challenge.rw_lb0019_04.row.prog.main.body = true := by
  rw [look_strict, look_bare, Fast.te8326940854005059898]
  kernel_rfl
theorem look_looks : looksOpen PySem.Challenge.rw_lb0019_04.row.prog = true := by
  delta looksOpen
  (repeat' with_reducible refine look_both ?_ ?_) <;> first | with_reducible exact look_names | with_reducible exact look_attrs | with_reducible exact look_roads | kernel_rfl
theorem look_part : OpenRow.partSaid PySem.Challenge.rw_lb0019_04.row = true := by
  delta OpenRow.partSaid
  (repeat' with_reducible refine look_both ?_ ?_) <;> first | with_reducible exact look_looks | kernel_rfl
theorem look_row : OpenRow.wellSaid PySem.Challenge.rw_lb0019_04.row = true := by
  delta OpenRow.wellSaid
  (repeat' with_reducible refine look_both ?_ ?_) <;> first | with_reducible exact look_part | kernel_rfl
theorem look_law : PySem.Challenge.rw_lb0019_04.wellSaid = true := by
  delta OpenLaw.wellSaid
  (repeat' with_reducible refine look_both ?_ ?_) <;> first | with_reducible exact look_row | decide +kernel
end
end Mine
namespace Mine
section
open PySem PySem.W PyProof.Rows
set_option maxHeartbeats 0
theorem tab_cons (a : Bool) (l : List Bool) : TablesWhole.holds.all (a :: l) = (a && TablesWhole.holds.all l) := rfl
theorem tab_mod {m : Module} {told : List Str} (h0 : TablesWhole.wSs TablesWhole.gather m.scope ⟨m.scope, [], [], [], none⟩ m.scope m.body = told) (h1 : TablesWhole.noTwice m.scope = true)
    (h2 : TablesWhole.wSs TablesWhole.holds m.scope ⟨m.scope, [], told, [], none⟩ m.scope m.body = true) : TablesWhole.wModule TablesWhole.holds m = true := by
  subst h0
  have h : (true && (TablesWhole.noTwice m.scope && (TablesWhole.wSs TablesWhole.holds m.scope ⟨m.scope, [], TablesWhole.wSs TablesWhole.gather m.scope ⟨m.scope, [], [], [], none⟩ m.scope m.body, [], none⟩ m.scope m.body && true))) = true :=
    look_both rfl (look_both h1 (look_both h2 rfl))
  exact h
theorem tab_take (top : Scope) (cx : TablesWhole.Ctx) (sc : Scope) : ∀ (n : Nat) (l : List Stmt),
    TablesWhole.wSs TablesWhole.holds top cx sc (l.take n) = true → TablesWhole.wSs TablesWhole.holds top cx sc (l.drop n) = true → TablesWhole.wSs TablesWhole.holds top cx sc l = true
  | 0, _, _, h => h
  | _ + 1, [], h, _ => h
  | n + 1, s :: r, h, k => by
    have h : (TablesWhole.wS TablesWhole.holds top cx sc s && TablesWhole.wSs TablesWhole.holds top cx sc (r.take n)) = true := h
    show (TablesWhole.wS TablesWhole.holds top cx sc s && TablesWhole.wSs TablesWhole.holds top cx sc r) = true
    obtain ⟨h1, h2⟩ := Bool.and_eq_true_iff.mp h
    exact look_both h1 (tab_take top cx sc n r h2 k)
abbrev tabM : Module := PySem.Challenge.pw_lb0019_04.main
theorem tab_told : TablesWhole.wSs TablesWhole.gather tabM.scope ⟨tabM.scope, [], [], [], none⟩ tabM.scope tabM.body = [] := by kernel_rfl
abbrev TabIs (l : List Stmt) : Prop := TablesWhole.wSs TablesWhole.holds tabM.scope ⟨tabM.scope, [], [], [], none⟩ tabM.scope l = true
theorem tab_1 : TabIs (tabM.body.take 15) := by kernel_rfl
theorem tab_2 : TabIs ((tabM.body.drop 15).take 20) := by kernel_rfl
theorem tab_3 : TabIs (((tabM.body.drop 15).drop 20).take 20) := by kernel_rfl
theorem tab_4 : TabIs ((((tabM.body.drop 15).drop 20).drop 20).take 6) := by kernel_rfl
theorem tab_5 : TabIs ((((tabM.body.drop 15).drop 20).drop 20).drop 6) := by kernel_rfl
theorem tab_all : TabIs tabM.body := tab_take _ _ _ 15 _ tab_1 (tab_take _ _ _ 20 _ tab_2 (tab_take _ _ _ 20 _ tab_3 (tab_take _ _ _ 6 _ tab_4 tab_5)))
theorem tabs_ : PySem.Challenge.pw_lb0019_04.tablesWhole = true := by
  delta Program.tablesWhole TablesWhole.wProgram
  rw [tab_cons]
  exact look_both (tab_mod tab_told (by kernel_rfl) tab_all) (by kernel_rfl)
end
end Mine
namespace Mine
section
open PySem PySem.W PyProof.Rows
def pw : Program := PySem.Challenge.pw_lb0019_04
noncomputable def top : List Stmt := pw.main.body
noncomputable def nth : List Stmt → Nat → Stmt
  | [], _ => .Pass default
  | s :: r, i => match Nat.beq i 0 with | true => s | false => nth r (i - 1)
noncomputable def inner : Stmt → List Stmt
  | .ClassDef _ _ _ b .. => b
  | .FunctionDef _ _ b .. => b
  | _ => []
noncomputable def sIn : Stmt → List Nat → Stmt
  | s, [] => s
  | s, i :: r => sIn (nth (inner s) i) r
noncomputable def sAt : List Nat → Stmt
  | [] => .Pass default
  | i :: r => sIn (nth top i) r
noncomputable def fd (s : Stmt) (qual : Str) (g : Addr) (cl : List (Str × Addr)) (dV kV doc pm : Value) (an : Option Addr) (cd ct : Value) (bi : Addr) : Data := match s with
  | .FunctionDef n a b _ _ _ sc .. => .func ⟨n, qual, a, .stmts b, sc, g, cl, dV, kV, doc, pm, an, cd, ct, bi⟩
  | _ => .plain
noncomputable def en (P : Params) (x : Str) (t : Tok) (v : Value) : DictEntry := ⟨PyData.keyHash P x, .str x t, v⟩
noncomputable def L (o : Obj) : BT := .node o .nil .nil
noncomputable def sq (a : Array Value) : Obj := ⟨.type "tuple", none, .seq a 0, #[]⟩
noncomputable def fl (a : Array Value) : Obj := ⟨.none, none, .fields a, #[]⟩
noncomputable def cd (a : Array Value) : Obj := ⟨.type "code", none, .fields a, #[]⟩
noncomputable def fz (i : List Nat) (q : Str) : Obj := ⟨.none, none, fd (sAt i) q 0 [] .none .none .none .none none .none .none 0, #[]⟩
noncomputable def Y (o : Obj) (a b : BT) : BT := .node o a b
noncomputable def Z : BT := .nil
noncomputable def lf : Life := {}
noncomputable def dr : Drawn := {}
noncomputable def env : Env := { scope := pw.main.scope, locals := mainNs, globals := mainNs, cells := [], code := .ref 13, frame := some 14 }
noncomputable def cE : Code := .body top env
noncomputable def o0 (P : Params) : Obj := ⟨.type "dict",none,(.dict #[en P "__name__" 1 (.str "builtins" 160),en P "__doc__" 2 (.builtin "builtins.__doc__:str#opaque"),en P "__package__" 3 (.builtin "builtins.__package__:str#opaque"),en P "__loader__" 4 (.builtin "builtins.__loader__:shared#opaque"),en P "__spec__" 5 (.builtin "builtins.__spec__#opaque"),en P "__build_class__" 6 (.builtin "__build_class__"),en P "__import__" 7 (.builtin "__import__"),en P "abs" 8 (.builtin "abs"),en P "all" 9 (.builtin "all"),en P "any" 10 (.builtin "any"),en P "ascii" 11 (.builtin "ascii"),en P "bin" 12 (.builtin "bin"),en P "breakpoint" 13 (.builtin "breakpoint"),en P "callable" 14 (.builtin "callable"),en P "chr" 15 (.builtin "chr"),en P "compile" 16 (.builtin "compile"),en P "delattr" 17 (.builtin "delattr"),en P "dir" 18 (.builtin "dir"),en P "divmod" 19 (.builtin "divmod"),en P "eval" 20 (.builtin "eval"),en P "exec" 21 (.builtin "exec"),en P "format" 22 (.builtin "format"),en P "getattr" 23 (.builtin "getattr"),en P "globals" 24 (.builtin "globals"),en P "hasattr" 25 (.builtin "hasattr"),en P "hash" 26 (.builtin "hash"),en P "hex" 27 (.builtin "hex"),en P "id" 28 (.builtin "id"),en P "input" 29 (.builtin "input"),en P "isinstance" 30 (.builtin "isinstance"),en P "issubclass" 31 (.builtin "issubclass"),en P "iter" 32 (.builtin "iter"),en P "aiter" 33 (.builtin "aiter"),en P "len" 34 (.builtin "len"),en P "locals" 35 (.builtin "locals"),en P "max" 36 (.builtin "max"),en P "min" 37 (.builtin "min"),en P "next" 38 (.builtin "next"),en P "anext" 39 (.builtin "anext"),en P "oct" 40 (.builtin "oct"),en P "ord" 41 (.builtin "ord"),en P "pow" 42 (.builtin "pow"),en P "print" 43 (.builtin "print"),en P "repr" 44 (.builtin "repr"),en P "round" 45 (.builtin "round"),en P "setattr" 46 (.builtin "setattr"),en P "sorted" 47 (.builtin "sorted"),en P "sum" 48 (.builtin "sum"),en P "vars" 49 (.builtin "vars"),en P "None" 50 .none,en P "Ellipsis" 51 .ellipsis,en P "NotImplemented" 52 .notImplemented,en P "False" 53 (.bool false),en P "True" 54 (.bool true),en P "bool" 55 (.type "bool"),en P "memoryview" 56 (.type "memoryview"),en P "bytearray" 57 (.type "bytearray"),en P "bytes" 58 (.type "bytes"),en P "classmethod" 59 (.type "classmethod"),en P "complex" 60 (.type "complex"),en P "dict" 61 (.type "dict"),en P "enumerate" 62 (.type "enumerate"),en P "filter" 63 (.type "filter"),en P "float" 64 (.type "float"),en P "frozenset" 65 (.type "frozenset"),en P "property" 66 (.type "property"),en P "int" 67 (.type "int"),en P "list" 68 (.type "list"),en P "map" 69 (.type "map"),en P "object" 70 (.type "object"),en P "range" 71 (.type "range"),en P "reversed" 72 (.type "reversed"),en P "set" 73 (.type "set"),en P "slice" 74 (.type "slice"),en P "staticmethod" 75 (.type "staticmethod"),en P "str" 76 (.type "str"),en P "super" 77 (.type "super"),en P "tuple" 78 (.type "tuple"),en P "type" 79 (.type "type"),en P "zip" 80 (.type "zip"),en P "__debug__" 81 (.bool true),en P "BaseException" 82 (.type "BaseException"),en P "BaseExceptionGroup" 83 (.type "BaseExceptionGroup"),en P "Exception" 84 (.type "Exception"),en P "GeneratorExit" 85 (.type "GeneratorExit"),en P "KeyboardInterrupt" 86 (.type "KeyboardInterrupt"),en P "SystemExit" 87 (.type "SystemExit"),en P "ArithmeticError" 88 (.type "ArithmeticError"),en P "AssertionError" 89 (.type "AssertionError"),en P "AttributeError" 90 (.type "AttributeError"),en P "BufferError" 91 (.type "BufferError"),en P "EOFError" 92 (.type "EOFError"),en P "ImportError" 93 (.type "ImportError"),en P "LookupError" 94 (.type "LookupError"),en P "MemoryError" 95 (.type "MemoryError"),en P "NameError" 96 (.type "NameError"),en P "OSError" 97 (.type "OSError"),en P "ReferenceError" 98 (.type "ReferenceError"),en P "RuntimeError" 99 (.type "RuntimeError"),en P "StopAsyncIteration" 100 (.type "StopAsyncIteration"),en P "StopIteration" 101 (.type "StopIteration"),en P "SyntaxError" 102 (.type "SyntaxError"),en P "SystemError" 103 (.type "SystemError"),en P "TypeError" 104 (.type "TypeError"),en P "ValueError" 105 (.type "ValueError"),en P "Warning" 106 (.type "Warning"),en P "FloatingPointError" 107 (.type "FloatingPointError"),en P "OverflowError" 108 (.type "OverflowError"),en P "ZeroDivisionError" 109 (.type "ZeroDivisionError"),en P "BytesWarning" 110 (.type "BytesWarning"),en P "DeprecationWarning" 111 (.type "DeprecationWarning"),en P "EncodingWarning" 112 (.type "EncodingWarning"),en P "FutureWarning" 113 (.type "FutureWarning"),en P "ImportWarning" 114 (.type "ImportWarning"),en P "PendingDeprecationWarning" 115 (.type "PendingDeprecationWarning"),en P "ResourceWarning" 116 (.type "ResourceWarning"),en P "RuntimeWarning" 117 (.type "RuntimeWarning"),en P "SyntaxWarning" 118 (.type "SyntaxWarning"),en P "UnicodeWarning" 119 (.type "UnicodeWarning"),en P "UserWarning" 120 (.type "UserWarning"),en P "BlockingIOError" 121 (.type "BlockingIOError"),en P "ChildProcessError" 122 (.type "ChildProcessError"),en P "ConnectionError" 123 (.type "ConnectionError"),en P "FileExistsError" 124 (.type "FileExistsError"),en P "FileNotFoundError" 125 (.type "FileNotFoundError"),en P "InterruptedError" 126 (.type "InterruptedError"),en P "IsADirectoryError" 127 (.type "IsADirectoryError"),en P "NotADirectoryError" 128 (.type "NotADirectoryError"),en P "PermissionError" 129 (.type "PermissionError"),en P "ProcessLookupError" 130 (.type "ProcessLookupError"),en P "TimeoutError" 131 (.type "TimeoutError"),en P "IndentationError" 132 (.type "IndentationError"),en P "_IncompleteInputError" 133 (.type "_IncompleteInputError"),en P "IndexError" 134 (.type "IndexError"),en P "KeyError" 135 (.type "KeyError"),en P "ModuleNotFoundError" 136 (.type "ModuleNotFoundError"),en P "NotImplementedError" 137 (.type "NotImplementedError"),en P "PythonFinalizationError" 138 (.type "PythonFinalizationError"),en P "RecursionError" 139 (.type "RecursionError"),en P "UnboundLocalError" 140 (.type "UnboundLocalError"),en P "UnicodeError" 141 (.type "UnicodeError"),en P "BrokenPipeError" 142 (.type "BrokenPipeError"),en P "ConnectionAbortedError" 143 (.type "ConnectionAbortedError"),en P "ConnectionRefusedError" 144 (.type "ConnectionRefusedError"),en P "ConnectionResetError" 145 (.type "ConnectionResetError"),en P "TabError" 146 (.type "TabError"),en P "UnicodeDecodeError" 147 (.type "UnicodeDecodeError"),en P "UnicodeEncodeError" 148 (.type "UnicodeEncodeError"),en P "UnicodeTranslateError" 149 (.type "UnicodeTranslateError"),en P "ExceptionGroup" 150 (.type "ExceptionGroup"),en P "EnvironmentError" 151 (.type "OSError"),en P "IOError" 152 (.type "OSError"),en P "open" 153 (.builtin "open"),en P "quit" 154 (.builtin "builtins.quit#opaque"),en P "exit" 155 (.builtin "builtins.exit#opaque"),en P "copyright" 156 (.builtin "builtins.copyright#opaque"),en P "credits" 157 (.builtin "builtins.credits#opaque"),en P "license" 158 (.builtin "builtins.license#opaque"),en P "help" 159 (.builtin "builtins.help#opaque")] 159),#[]⟩
noncomputable def o1 (P : Params) : Obj := ⟨.type "dict",none,(.dict #[en P "builtins" 162 (.ref 4),en P "__main__" 163 (.ref 5)] 2),#[]⟩
noncomputable def o2 : Obj := ⟨.none,none,.dict #[] 0,#[]⟩
noncomputable def o3 (P : Params) : Obj := ⟨.type "dict",none,(.dict #[en P "__name__" 165 (.str "__main__" 164),en P "__doc__" 166 .none,en P "__package__" 167 .none,en P "__loader__" 168 (.builtin "__main__.__loader__#opaque"),en P "__spec__" 169 .none,en P "__annotations__" 170 (.ref 6),en P "__builtins__" 171 (.ref 4),en P "__file__" 173 (.str "/claim/cut.py" 172),en P "__cached__" 174 .none] 9),#[]⟩
noncomputable def o4 : Obj := ⟨.type "module",(some 0),.plain,#[]⟩
noncomputable def o5 : Obj := ⟨.type "module",(some 3),.plain,#[]⟩
noncomputable def o6 : Obj := ⟨.type "dict",none,.dict #[] 0,#[]⟩
noncomputable def o7 : Obj := sq #[]
noncomputable def o8 : Obj := fl #[]
noncomputable def o9 : Obj := cd #[.str "<module>" 176,.str "<module>" 177,.str "/claim/cut.py" 178,.int 1 0,.int 0 0,.int 0 0,.int 0 0,.int 0 0,.ref 7,.bool false,.int 175 0,.ref 8,.none,.none,.none,.none,.int 179 0,.int 1 0,.str "/claim/cut.py" 180]
noncomputable def o10 : Obj := ⟨.type "frame",none,.plain,#[(some (.ref 9)),(some (.ref 3)),(some (.ref 3)),none,(some (.str "__main__" 164)),none,(some (.ref 0))]⟩
noncomputable def o13 : Obj := cd #[.str "<module>" 182,.str "<module>" 183,.str "/claim/cut.py" 184,.int 1 0,.int 0 0,.int 0 0,.int 0 0,.int 0 0,.ref 11,.bool false,.int 181 0,.ref 12,.none,.none,.none,.none,.int 185 0,.int 1 0,.str "/claim/cut.py" 186]
noncomputable def o14 : Obj := ⟨.type "frame",none,.plain,#[(some (.ref 13)),(some (.ref 3)),(some (.ref 3)),none,(some (.str "__main__" 164)),none,(some (.ref 0))]⟩
noncomputable def t0 (P : Params) : BT := (Y (o0 P) (Y (o1 P) (Y (o3 P) (L o7) (L o7)) (Y o5 (L o9) (L o13))) (Y o2 (Y o4 (L o8) (L o8)) (Y o6 (L o10) (L o14))))
noncomputable def s0 (w : World) (os : OsState) : SharedT := ⟨t0 w.params, 15, lf, #[], dr, 187, os⟩
noncomputable def o2v1 (P : Params) : Obj := ⟨.none,none,(.dict #[en P "type.__subclasses__.Exception.0" 212 (.int 31 0),en P "type.__subclasses__.Exception.n" 213 (.int 1 0),en P "type.__subclasses__.EOFError.0" 248 (.int 56 0),en P "type.__subclasses__.EOFError.n" 249 (.int 1 0)] 4),#[]⟩
noncomputable def o3v1 (P : Params) : Obj := ⟨.type "dict",none,(.dict #[en P "__name__" 165 (.str "pdfminer.stand_ins" 252),en P "__doc__" 166 .none,en P "__package__" 167 .none,en P "__loader__" 168 (.builtin "__main__.__loader__#opaque"),en P "__spec__" 169 .none,en P "__annotations__" 170 (.ref 6),en P "__builtins__" 171 (.ref 4),en P "__file__" 173 (.str "/claim/cut.py" 172),en P "__cached__" 174 .none,en P "_wall" 193 (.ref 21),en P "PSException" 215 (.ref 31),en P "PDFException" 233 (.ref 44),en P "PDFEOFError" 251 (.ref 56),en P "Found" 308 (.ref 96),en P "Signs" 363 (.ref 137)] 15),#[]⟩
noncomputable def o12v1 : Obj := fl #[.int 1 0,.int 0 0,.ref 20,.int 5 0,.int 0 0,.ref 27,.int 8 0,.int 0 0,.ref 40,.int 10 0,.int 0 0,.ref 52,.int 13 0,.int 0 0,.ref 64,.int 26 0,.int 0 0,.ref 106]
noncomputable def o17 : Obj := sq #[.str "k" 190]
noncomputable def o19 : Obj := fz [0] "_wall"
noncomputable def o20 : Obj := cd #[.str "_wall" 187,.str "_wall" 188,.str "/claim/cut.py" 189,.int 1 0,.int 1 0,.int 0 0,.int 0 0,.int 3 0,.ref 15,.bool true,.int 181 0,.ref 16,.none,.ref 17,.ref 18,.ref 19,.int 191 0,.int 1 0,.str "/claim/cut.py" 192]
noncomputable def o21 : Obj := ⟨.type "function",none,(fd (sAt [0]) "_wall" 3 [] .none .none .none (.str "__main__" 164) none (.ref 20) .none 0),#[]⟩
noncomputable def o22 : Obj := sq #[.type "Exception"]
noncomputable def o23 : Obj := ⟨.type "builtin_function_or_method",none,.fields #[.builtin "type.__prepare__",.type "type"],#[]⟩
noncomputable def o24 (P : Params) : Obj := ⟨.type "dict",none,(.dict #[en P "__module__" 203 (.str "pdfminer.psexceptions" 194),en P "__qualname__" 205 (.str "PSException" 204),en P "__firstlineno__" 207 (.int 5 206),en P "__static_attributes__" 208 (.ref 29)] 4),#[]⟩
noncomputable def o27 : Obj := cd #[.str "PSException" 198,.str "PSException" 199,.str "/claim/cut.py" 200,.int 5 0,.int 0 0,.int 0 0,.int 0 0,.int 0 0,.ref 25,.bool false,.int 181 0,.ref 26,.none,.none,.none,.none,.int 201 0,.int 5 0,.str "/claim/cut.py" 202]
noncomputable def o28 : Obj := ⟨.type "frame",none,.plain,#[(some (.ref 27)),(some (.ref 3)),(some (.ref 24)),none,(some (.str "pdfminer.psexceptions" 194)),none,(some (.ref 0))]⟩
noncomputable def o29 : Obj := ⟨.type "tuple",none,.seq #[] 0,#[]⟩
noncomputable def o30 (P : Params) : Obj := ⟨.type "dict",none,(.dict #[en P "__module__" 203 (.str "pdfminer.psexceptions" 194),en P "__firstlineno__" 207 (.int 5 206),en P "__static_attributes__" 208 (.ref 29),en P "__weakref__" 210 (.ref 32),en P "__doc__" 211 .none] 3),#[]⟩
noncomputable def o31 : Obj := ⟨.type "type",none,.cls ⟨"PSException",[.type "Exception"],[.ref 31,.type "Exception",.type "BaseException",.type "object"],30,"PSException",true,[],[.ref 44],false,none,false⟩,#[(some (.ref 22)),none,(some (.str "PSException" 196)),(some (.str "PSException" 204)),(some (.builtin "Exception.__new__")),(some (.bool true))]⟩
noncomputable def o32 : Obj := ⟨.type "getset_descriptor",none,.fields #[.str "__weakref__" 209,.ref 31,.builtin "ExceptionGroup.__weakref__",.none],#[]⟩
noncomputable def o33 : Obj := ⟨.type "super",none,.fields #[.ref 31,.ref 31,.ref 31],#[]⟩
noncomputable def o34 : Obj := ⟨.type "builtin_function_or_method",none,.fields #[.builtin "object.__init_subclass__",.ref 31],#[]⟩
noncomputable def o35 : Obj := sq #[.ref 31]
noncomputable def o37 (P : Params) : Obj := ⟨.type "dict",none,(.dict #[en P "__module__" 225 (.str "pdfminer.pdfexceptions" 216),en P "__qualname__" 227 (.str "PDFException" 226),en P "__firstlineno__" 229 (.int 8 228),en P "__static_attributes__" 230 (.ref 42)] 4),#[]⟩
noncomputable def o40 : Obj := cd #[.str "PDFException" 220,.str "PDFException" 221,.str "/claim/cut.py" 222,.int 8 0,.int 0 0,.int 0 0,.int 0 0,.int 0 0,.ref 38,.bool false,.int 181 0,.ref 39,.none,.none,.none,.none,.int 223 0,.int 8 0,.str "/claim/cut.py" 224]
noncomputable def o41 : Obj := ⟨.type "frame",none,.plain,#[(some (.ref 40)),(some (.ref 3)),(some (.ref 37)),none,(some (.str "pdfminer.pdfexceptions" 216)),none,(some (.ref 0))]⟩
noncomputable def o42 : Obj := ⟨.type "tuple",none,.seq #[] 0,#[]⟩
noncomputable def o43 (P : Params) : Obj := ⟨.type "dict",none,(.dict #[en P "__module__" 225 (.str "pdfminer.pdfexceptions" 216),en P "__firstlineno__" 229 (.int 8 228),en P "__static_attributes__" 230 (.ref 42),en P "__doc__" 231 .none] 2),#[]⟩
noncomputable def o44 : Obj := ⟨.type "type",none,.cls ⟨"PDFException",[.ref 31],[.ref 44,.ref 31,.type "Exception",.type "BaseException",.type "object"],43,"PDFException",true,[],[.ref 56],false,none,false⟩,#[(some (.ref 35)),none,(some (.str "PDFException" 218)),(some (.str "PDFException" 226)),(some (.builtin "Exception.__new__")),(some (.bool true))]⟩
noncomputable def o45 : Obj := ⟨.type "super",none,.fields #[.ref 44,.ref 44,.ref 44],#[]⟩
noncomputable def o46 : Obj := ⟨.type "builtin_function_or_method",none,.fields #[.builtin "object.__init_subclass__",.ref 44],#[]⟩
noncomputable def o47 : Obj := sq #[.ref 44,.type "EOFError"]
noncomputable def o49 (P : Params) : Obj := ⟨.type "dict",none,(.dict #[en P "__module__" 241 (.str "pdfminer.pdfexceptions" 216),en P "__qualname__" 243 (.str "PDFEOFError" 242),en P "__firstlineno__" 245 (.int 10 244),en P "__static_attributes__" 246 (.ref 54)] 4),#[]⟩
noncomputable def o52 : Obj := cd #[.str "PDFEOFError" 236,.str "PDFEOFError" 237,.str "/claim/cut.py" 238,.int 10 0,.int 0 0,.int 0 0,.int 0 0,.int 0 0,.ref 50,.bool false,.int 181 0,.ref 51,.none,.none,.none,.none,.int 239 0,.int 10 0,.str "/claim/cut.py" 240]
noncomputable def o53 : Obj := ⟨.type "frame",none,.plain,#[(some (.ref 52)),(some (.ref 3)),(some (.ref 49)),none,(some (.str "pdfminer.pdfexceptions" 216)),none,(some (.ref 0))]⟩
noncomputable def o54 : Obj := ⟨.type "tuple",none,.seq #[] 0,#[]⟩
noncomputable def o55 (P : Params) : Obj := ⟨.type "dict",none,(.dict #[en P "__module__" 241 (.str "pdfminer.pdfexceptions" 216),en P "__firstlineno__" 245 (.int 10 244),en P "__static_attributes__" 246 (.ref 54),en P "__doc__" 247 .none] 2),#[]⟩
noncomputable def o56 : Obj := ⟨.type "type",none,.cls ⟨"PDFEOFError",[.ref 44,.type "EOFError"],[.ref 56,.ref 44,.ref 31,.type "EOFError",.type "Exception",.type "BaseException",.type "object"],55,"PDFEOFError",true,[],[],false,none,false⟩,#[(some (.ref 47)),none,(some (.str "PDFEOFError" 234)),(some (.str "PDFEOFError" 242)),(some (.builtin "Exception.__new__")),(some (.bool true))]⟩
noncomputable def o57 : Obj := ⟨.type "super",none,.fields #[.ref 56,.ref 56,.ref 56],#[]⟩
noncomputable def o58 : Obj := ⟨.type "builtin_function_or_method",none,.fields #[.builtin "object.__init_subclass__",.ref 56],#[]⟩
noncomputable def o61 (P : Params) : Obj := ⟨.type "dict",none,(.dict #[en P "__module__" 261 (.str "pdfminer.stand_ins" 252),en P "__qualname__" 263 (.str "Found" 262),en P "__firstlineno__" 265 (.int 13 264),en P "__init__" 274 (.ref 72),en P "start" 282 (.ref 79),en P "end" 290 (.ref 86),en P "group" 298 (.ref 93),en P "__static_attributes__" 301 (.ref 94)] 8),#[]⟩
noncomputable def o63 : Obj := fl #[.int 15 0,.int 4 0,.ref 71,.int 18 0,.int 4 0,.ref 78,.int 21 0,.int 4 0,.ref 85,.int 24 0,.int 4 0,.ref 92]
noncomputable def o64 : Obj := cd #[.str "Found" 256,.str "Found" 257,.str "/claim/cut.py" 258,.int 13 0,.int 0 0,.int 0 0,.int 0 0,.int 0 0,.ref 62,.bool false,.int 181 0,.ref 63,.none,.none,.none,.none,.int 259 0,.int 13 0,.str "/claim/cut.py" 260]
noncomputable def o65 : Obj := ⟨.type "frame",none,.plain,#[(some (.ref 64)),(some (.ref 3)),(some (.ref 61)),none,(some (.str "pdfminer.stand_ins" 252)),none,(some (.ref 0))]⟩
noncomputable def o68 : Obj := sq #[.str "self" 269,.str "place" 270,.str "text" 271]
noncomputable def o70 : Obj := fz [7,0] "Found.__init__"
noncomputable def o71 : Obj := cd #[.str "__init__" 266,.str "Found.__init__" 267,.str "/claim/cut.py" 268,.int 15 0,.int 3 0,.int 0 0,.int 0 0,.int 3 0,.ref 66,.bool true,.int 181 0,.ref 67,.none,.ref 68,.ref 69,.ref 70,.int 272 0,.int 15 0,.str "/claim/cut.py" 273]
noncomputable def o72 : Obj := ⟨.type "function",none,(fd (sAt [7,0]) "Found.__init__" 3 [] .none .none .none (.str "pdfminer.stand_ins" 252) none (.ref 71) .none 0),#[]⟩
noncomputable def o75 : Obj := sq #[.str "self" 278,.str "group" 279]
noncomputable def o77 : Obj := fz [7,1] "Found.start"
noncomputable def o78 : Obj := cd #[.str "start" 275,.str "Found.start" 276,.str "/claim/cut.py" 277,.int 18 0,.int 2 0,.int 0 0,.int 0 0,.int 3 0,.ref 73,.bool true,.int 181 0,.ref 74,.none,.ref 75,.ref 76,.ref 77,.int 280 0,.int 18 0,.str "/claim/cut.py" 281]
noncomputable def o79 : Obj := ⟨.type "function",none,(fd (sAt [7,1]) "Found.start" 3 [] .none .none .none (.str "pdfminer.stand_ins" 252) none (.ref 78) .none 0),#[]⟩
noncomputable def o82 : Obj := sq #[.str "self" 286,.str "group" 287]
noncomputable def o84 : Obj := fz [7,2] "Found.end"
noncomputable def o85 : Obj := cd #[.str "end" 283,.str "Found.end" 284,.str "/claim/cut.py" 285,.int 21 0,.int 2 0,.int 0 0,.int 0 0,.int 3 0,.ref 80,.bool true,.int 181 0,.ref 81,.none,.ref 82,.ref 83,.ref 84,.int 288 0,.int 21 0,.str "/claim/cut.py" 289]
noncomputable def o86 : Obj := ⟨.type "function",none,(fd (sAt [7,2]) "Found.end" 3 [] .none .none .none (.str "pdfminer.stand_ins" 252) none (.ref 85) .none 0),#[]⟩
noncomputable def o89 : Obj := sq #[.str "self" 294,.str "group" 295]
noncomputable def o91 : Obj := fz [7,3] "Found.group"
noncomputable def o92 : Obj := cd #[.str "group" 291,.str "Found.group" 292,.str "/claim/cut.py" 293,.int 24 0,.int 2 0,.int 0 0,.int 0 0,.int 3 0,.ref 87,.bool true,.int 181 0,.ref 88,.none,.ref 89,.ref 90,.ref 91,.int 296 0,.int 24 0,.str "/claim/cut.py" 297]
noncomputable def o93 : Obj := ⟨.type "function",none,(fd (sAt [7,3]) "Found.group" 3 [] .none .none .none (.str "pdfminer.stand_ins" 252) none (.ref 92) .none 0),#[]⟩
noncomputable def o94 : Obj := sq #[.str "place" 299,.str "text" 300]
noncomputable def o95 (P : Params) : Obj := ⟨.type "dict",none,(.dict #[en P "__module__" 261 (.str "pdfminer.stand_ins" 252),en P "__firstlineno__" 265 (.int 13 264),en P "__init__" 274 (.ref 72),en P "start" 282 (.ref 79),en P "end" 290 (.ref 86),en P "group" 298 (.ref 93),en P "__static_attributes__" 301 (.ref 94),en P "__dict__" 303 (.ref 97),en P "__weakref__" 305 (.ref 98),en P "__doc__" 306 .none] 4),#[]⟩
noncomputable def o96 : Obj := ⟨.type "type",none,.cls ⟨"Found",[.type "object"],[.ref 96,.type "object"],95,"Found",true,[],[],false,none,false⟩,#[none,none,(some (.str "Found" 254)),(some (.str "Found" 262)),(some (.builtin "object.__new__")),(some (.bool true))]⟩
noncomputable def o97 : Obj := ⟨.type "getset_descriptor",none,.fields #[.str "__dict__" 302,.ref 96,.builtin "function.__dict__",.builtin "function.__dict__#set"],#[]⟩
noncomputable def o98 : Obj := ⟨.type "getset_descriptor",none,.fields #[.str "__weakref__" 304,.ref 96,.builtin "ExceptionGroup.__weakref__",.none],#[]⟩
noncomputable def o99 : Obj := ⟨.type "super",none,.fields #[.ref 96,.ref 96,.ref 96],#[]⟩
noncomputable def o100 : Obj := ⟨.type "builtin_function_or_method",none,.fields #[.builtin "object.__init_subclass__",.ref 96],#[]⟩
noncomputable def o103 (P : Params) : Obj := ⟨.type "dict",none,(.dict #[en P "__module__" 316 (.str "pdfminer.stand_ins" 252),en P "__qualname__" 318 (.str "Signs" 317),en P "__firstlineno__" 320 (.int 26 319),en P "__init__" 329 (.ref 115),en P "search" 339 (.ref 122),en P "match" 347 (.ref 129),en P "sub" 353 (.ref 134),en P "__static_attributes__" 356 (.ref 135)] 8),#[]⟩
noncomputable def o105 : Obj := fl #[.int 28 0,.int 4 0,.ref 114,.int 31 0,.int 4 0,.ref 121,.int 36 0,.int 4 0,.ref 128,.int 39 0,.int 4 0,.ref 133]
noncomputable def o106 : Obj := cd #[.str "Signs" 311,.str "Signs" 312,.str "/claim/cut.py" 313,.int 26 0,.int 0 0,.int 0 0,.int 0 0,.int 0 0,.ref 104,.bool false,.int 181 0,.ref 105,.none,.none,.none,.none,.int 314 0,.int 26 0,.str "/claim/cut.py" 315]
noncomputable def o107 : Obj := ⟨.type "frame",none,.plain,#[(some (.ref 106)),(some (.ref 3)),(some (.ref 103)),none,(some (.str "pdfminer.stand_ins" 252)),none,(some (.ref 0))]⟩
noncomputable def o108 : Obj := sq #[.bool true]
noncomputable def o111 : Obj := sq #[.str "self" 324,.str "octets" 325,.str "among" 326]
noncomputable def o113 : Obj := fz [8,0] "Signs.__init__"
noncomputable def o114 : Obj := cd #[.str "__init__" 321,.str "Signs.__init__" 322,.str "/claim/cut.py" 323,.int 28 0,.int 3 0,.int 0 0,.int 0 0,.int 3 0,.ref 109,.bool true,.int 181 0,.ref 110,.none,.ref 111,.ref 112,.ref 113,.int 327 0,.int 28 0,.str "/claim/cut.py" 328]
noncomputable def o115 : Obj := ⟨.type "function",none,(fd (sAt [8,0]) "Signs.__init__" 3 [] (.ref 108) .none .none (.str "pdfminer.stand_ins" 252) none (.ref 114) .none 0),#[]⟩
noncomputable def o118 : Obj := sq #[.str "self" 333,.str "text" 334,.str "place" 335,.str "k" 336]
noncomputable def o120 : Obj := fz [8,1] "Signs.search"
noncomputable def o121 : Obj := cd #[.str "search" 330,.str "Signs.search" 331,.str "/claim/cut.py" 332,.int 31 0,.int 3 0,.int 0 0,.int 0 0,.int 3 0,.ref 116,.bool true,.int 181 0,.ref 117,.none,.ref 118,.ref 119,.ref 120,.int 337 0,.int 31 0,.str "/claim/cut.py" 338]
noncomputable def o122 : Obj := ⟨.type "function",none,(fd (sAt [8,1]) "Signs.search" 3 [] .none .none .none (.str "pdfminer.stand_ins" 252) none (.ref 121) .none 0),#[]⟩
noncomputable def o125 : Obj := sq #[.str "self" 343,.str "text" 344]
noncomputable def o127 : Obj := fz [8,2] "Signs.match"
noncomputable def o128 : Obj := cd #[.str "match" 340,.str "Signs.match" 341,.str "/claim/cut.py" 342,.int 36 0,.int 2 0,.int 0 0,.int 0 0,.int 3 0,.ref 123,.bool true,.int 181 0,.ref 124,.none,.ref 125,.ref 126,.ref 127,.int 345 0,.int 36 0,.str "/claim/cut.py" 346]
noncomputable def o129 : Obj := ⟨.type "function",none,(fd (sAt [8,2]) "Signs.match" 3 [] .none .none .none (.str "pdfminer.stand_ins" 252) none (.ref 128) .none 0),#[]⟩
noncomputable def o132 : Obj := fz [8,3] "Signs.sub"
noncomputable def o133 : Obj := cd #[.str "sub" 348,.str "Signs.sub" 349,.str "/claim/cut.py" 350,.int 39 0,.int 3 0,.int 0 0,.int 0 0,.int 3 0,.ref 130,.bool true,.int 181 0,.ref 131,.none,.none,.none,.ref 132,.int 351 0,.int 39 0,.str "/claim/cut.py" 352]
noncomputable def o134 : Obj := ⟨.type "function",none,(fd (sAt [8,3]) "Signs.sub" 3 [] .none .none .none (.str "pdfminer.stand_ins" 252) none (.ref 133) .none 0),#[]⟩
noncomputable def o135 : Obj := sq #[.str "among" 354,.str "octets" 355]
noncomputable def o136 (P : Params) : Obj := ⟨.type "dict",none,(.dict #[en P "__module__" 316 (.str "pdfminer.stand_ins" 252),en P "__firstlineno__" 320 (.int 26 319),en P "__init__" 329 (.ref 115),en P "search" 339 (.ref 122),en P "match" 347 (.ref 129),en P "sub" 353 (.ref 134),en P "__static_attributes__" 356 (.ref 135),en P "__dict__" 358 (.ref 138),en P "__weakref__" 360 (.ref 139),en P "__doc__" 361 .none] 4),#[]⟩
noncomputable def o137 : Obj := ⟨.type "type",none,.cls ⟨"Signs",[.type "object"],[.ref 137,.type "object"],136,"Signs",true,[],[],false,none,false⟩,#[none,none,(some (.str "Signs" 309)),(some (.str "Signs" 317)),(some (.builtin "object.__new__")),(some (.bool true))]⟩
noncomputable def o138 : Obj := ⟨.type "getset_descriptor",none,.fields #[.str "__dict__" 357,.ref 137,.builtin "function.__dict__",.builtin "function.__dict__#set"],#[]⟩
noncomputable def o139 : Obj := ⟨.type "getset_descriptor",none,.fields #[.str "__weakref__" 359,.ref 137,.builtin "ExceptionGroup.__weakref__",.none],#[]⟩
noncomputable def o140 : Obj := ⟨.type "super",none,.fields #[.ref 137,.ref 137,.ref 137],#[]⟩
noncomputable def o141 : Obj := ⟨.type "builtin_function_or_method",none,.fields #[.builtin "object.__init_subclass__",.ref 137],#[]⟩
noncomputable def t9 (P : Params) : BT := (Y (o0 P) (Y (o1 P) (Y (o3v1 P) (Y o7 (Y o7 (Y o31 (Y o63 (L o127) Z) (L (o95 P))) (Y o47 (L o79) (L o111))) (Y o23 (Y o8 (Y o71 (L o135) Z) (L (o103 P))) (Y (o55 P) (L o7) (L o7)))) (Y o7 (Y o19 (Y o35 (Y o8 (L o8) Z) (L o99)) (Y o8 (L o7) (L o115))) (Y o27 (Y (o43 P) (Y o75 (L o139) Z) (L o107)) (Y o7 (L o91) (L o7))))) (Y o5 (Y o9 (Y o17 (Y o33 (Y o65 (L o129) Z) (L o97)) (Y (o49 P) (L o8) (L o113))) (Y o7 (Y o41 (Y o7 (L o137) Z) (L o105)) (Y o57 (L o89) (L o121)))) (Y o13 (Y o21 (Y (o37 P) (Y o7 (L o133) Z) (L o7)) (Y o53 (L o85) (L o8))) (Y o29 (Y o45 (Y o77 (L o141) Z) (L o7)) (Y (o61 P) (L o93) (L o125)))))) (Y (o2v1 P) (Y o4 (Y o8 (Y o8 (Y o32 (Y o64 (L o128) Z) (L o96)) (Y o23 (L o7) (L o7))) (Y (o24 P) (Y o40 (Y o72 (L (o136 P)) Z) (L o7)) (Y o56 (L o8) (L o120)))) (Y o12v1 (Y o20 (Y o23 (Y o68 (L o132) Z) (L o100)) (Y o52 (L o84) (L o7))) (Y o28 (Y o44 (Y o7 (L o140) Z) (L o108)) (Y o23 (L o92) (L o8))))) (Y o6 (Y o10 (Y o7 (Y o34 (Y o7 (L o7) Z) (L o98)) (Y o7 (L o82) (L o114))) (Y o8 (Y o42 (Y o8 (L o138) Z) (L o106)) (Y o58 (L o7) (L o122)))) (Y o14 (Y o22 (Y o7 (Y o70 (L o134) Z) (L o23)) (Y o54 (L o86) (L o118))) (Y (o30 P) (Y o46 (L o78) (L o8)) (Y o7 (L o94) (L o7)))))))
noncomputable def s9 (w : World) (os : OsState) : SharedT := ⟨t9 w.params, 142, lf, #[], dr, 364, os⟩
noncomputable def o2v2 (P : Params) : Obj := ⟨.none,none,(.dict #[en P "type.__subclasses__.Exception.0" 212 (.int 31 0),en P "type.__subclasses__.Exception.n" 213 (.int 1 0),en P "type.__subclasses__.EOFError.0" 248 (.int 56 0),en P "type.__subclasses__.EOFError.n" 249 (.int 1 0),en P "type.__subclasses__.OSError.0" 541 (.int 264 0),en P "type.__subclasses__.OSError.n" 542 (.int 1 0)] 6),#[]⟩
noncomputable def o3v2 (P : Params) : Obj := ⟨.type "dict",none,(.dict #[en P "__name__" 165 (.str "io" 505),en P "__doc__" 166 .none,en P "__package__" 167 .none,en P "__loader__" 168 (.builtin "__main__.__loader__#opaque"),en P "__spec__" 169 .none,en P "__annotations__" 170 (.ref 6),en P "__builtins__" 171 (.ref 4),en P "__file__" 173 (.str "/claim/cut.py" 172),en P "__cached__" 174 .none,en P "_wall" 193 (.ref 21),en P "PSException" 215 (.ref 31),en P "PDFException" 233 (.ref 44),en P "PDFEOFError" 251 (.ref 56),en P "Found" 308 (.ref 96),en P "Signs" 363 (.ref 137),en P "HexPairs" 389 (.ref 156),en P "Real" 420 (.ref 177),en P "cast" 428 (.ref 188),en P "CorruptDataError" 446 (.ref 198),en P "LZWDecoder" 504 (.ref 236),en P "_whence" 514 (.ref 247),en P "_index" 522 (.ref 254),en P "UnsupportedOperation" 544 (.ref 264)] 23),#[]⟩
noncomputable def o12v2 : Obj := fl #[.int 1 0,.int 0 0,.ref 20,.int 5 0,.int 0 0,.ref 27,.int 8 0,.int 0 0,.ref 40,.int 10 0,.int 0 0,.ref 52,.int 13 0,.int 0 0,.ref 64,.int 26 0,.int 0 0,.ref 106,.int 41 0,.int 0 0,.ref 147,.int 45 0,.int 0 0,.ref 166,.int 50 0,.int 0 0,.ref 187,.int 53 0,.int 0 0,.ref 194,.int 55 0,.int 0 0,.ref 206,.int 117 0,.int 0 0,.ref 246,.int 122 0,.int 0 0,.ref 253,.int 129 0,.int 0 0,.ref 260]
noncomputable def o44v1 : Obj := ⟨.type "type",none,.cls ⟨"PDFException",[.ref 31],[.ref 44,.ref 31,.type "Exception",.type "BaseException",.type "object"],43,"PDFException",true,[],[.ref 56,.ref 198],false,none,false⟩,#[(some (.ref 35)),none,(some (.str "PDFException" 218)),(some (.str "PDFException" 226)),(some (.builtin "Exception.__new__")),(some (.bool true))]⟩
noncomputable def o144 (P : Params) : Obj := ⟨.type "dict",none,(.dict #[en P "__module__" 371 (.str "pdfminer.stand_ins" 252),en P "__qualname__" 373 (.str "HexPairs" 372),en P "__firstlineno__" 375 (.int 41 374),en P "sub" 381 (.ref 153),en P "__static_attributes__" 382 (.ref 154)] 5),#[]⟩
noncomputable def o146 : Obj := fl #[.int 43 0,.int 4 0,.ref 152]
noncomputable def o147 : Obj := cd #[.str "HexPairs" 366,.str "HexPairs" 367,.str "/claim/cut.py" 368,.int 41 0,.int 0 0,.int 0 0,.int 0 0,.int 0 0,.ref 145,.bool false,.int 181 0,.ref 146,.none,.none,.none,.none,.int 369 0,.int 41 0,.str "/claim/cut.py" 370]
noncomputable def o148 : Obj := ⟨.type "frame",none,.plain,#[(some (.ref 147)),(some (.ref 3)),(some (.ref 144)),none,(some (.str "pdfminer.stand_ins" 252)),none,(some (.ref 0))]⟩
noncomputable def o151 : Obj := fz [9,0] "HexPairs.sub"
noncomputable def o152 : Obj := cd #[.str "sub" 376,.str "HexPairs.sub" 377,.str "/claim/cut.py" 378,.int 43 0,.int 3 0,.int 0 0,.int 0 0,.int 3 0,.ref 149,.bool true,.int 181 0,.ref 150,.none,.none,.none,.ref 151,.int 379 0,.int 43 0,.str "/claim/cut.py" 380]
noncomputable def o153 : Obj := ⟨.type "function",none,(fd (sAt [9,0]) "HexPairs.sub" 3 [] .none .none .none (.str "pdfminer.stand_ins" 252) none (.ref 152) .none 0),#[]⟩
noncomputable def o155 (P : Params) : Obj := ⟨.type "dict",none,(.dict #[en P "__module__" 371 (.str "pdfminer.stand_ins" 252),en P "__firstlineno__" 375 (.int 41 374),en P "sub" 381 (.ref 153),en P "__static_attributes__" 382 (.ref 154),en P "__dict__" 384 (.ref 157),en P "__weakref__" 386 (.ref 158),en P "__doc__" 387 .none] 4),#[]⟩
noncomputable def o156 : Obj := ⟨.type "type",none,.cls ⟨"HexPairs",[.type "object"],[.ref 156,.type "object"],155,"HexPairs",true,[],[],false,none,false⟩,#[none,none,(some (.str "HexPairs" 364)),(some (.str "HexPairs" 372)),(some (.builtin "object.__new__")),(some (.bool true))]⟩
noncomputable def o157 : Obj := ⟨.type "getset_descriptor",none,.fields #[.str "__dict__" 383,.ref 156,.builtin "function.__dict__",.builtin "function.__dict__#set"],#[]⟩
noncomputable def o158 : Obj := ⟨.type "getset_descriptor",none,.fields #[.str "__weakref__" 385,.ref 156,.builtin "ExceptionGroup.__weakref__",.none],#[]⟩
noncomputable def o159 : Obj := ⟨.type "super",none,.fields #[.ref 156,.ref 156,.ref 156],#[]⟩
noncomputable def o160 : Obj := ⟨.type "builtin_function_or_method",none,.fields #[.builtin "object.__init_subclass__",.ref 156],#[]⟩
noncomputable def o163 (P : Params) : Obj := ⟨.type "dict",none,(.dict #[en P "__module__" 397 (.str "pdfminer.stand_ins" 252),en P "__qualname__" 399 (.str "Real" 398),en P "__firstlineno__" 401 (.int 45 400),en P "__init__" 410 (.ref 174),en P "__static_attributes__" 413 (.ref 175)] 5),#[]⟩
noncomputable def o165 : Obj := fl #[.int 47 0,.int 4 0,.ref 173]
noncomputable def o166 : Obj := cd #[.str "Real" 392,.str "Real" 393,.str "/claim/cut.py" 394,.int 45 0,.int 0 0,.int 0 0,.int 0 0,.int 0 0,.ref 164,.bool false,.int 181 0,.ref 165,.none,.none,.none,.none,.int 395 0,.int 45 0,.str "/claim/cut.py" 396]
noncomputable def o167 : Obj := ⟨.type "frame",none,.plain,#[(some (.ref 166)),(some (.ref 3)),(some (.ref 163)),none,(some (.str "pdfminer.stand_ins" 252)),none,(some (.ref 0))]⟩
noncomputable def o170 : Obj := sq #[.str "self" 405,.str "text" 406,.str "dot" 407]
noncomputable def o172 : Obj := fz [10,0] "Real.__init__"
noncomputable def o173 : Obj := cd #[.str "__init__" 402,.str "Real.__init__" 403,.str "/claim/cut.py" 404,.int 47 0,.int 2 0,.int 0 0,.int 0 0,.int 3 0,.ref 168,.bool true,.int 181 0,.ref 169,.none,.ref 170,.ref 171,.ref 172,.int 408 0,.int 47 0,.str "/claim/cut.py" 409]
noncomputable def o174 : Obj := ⟨.type "function",none,(fd (sAt [10,0]) "Real.__init__" 3 [] .none .none .none (.str "pdfminer.stand_ins" 252) none (.ref 173) .none 0),#[]⟩
noncomputable def o175 : Obj := sq #[.str "number" 411,.str "places" 412]
noncomputable def o176 (P : Params) : Obj := ⟨.type "dict",none,(.dict #[en P "__module__" 397 (.str "pdfminer.stand_ins" 252),en P "__firstlineno__" 401 (.int 45 400),en P "__init__" 410 (.ref 174),en P "__static_attributes__" 413 (.ref 175),en P "__dict__" 415 (.ref 178),en P "__weakref__" 417 (.ref 179),en P "__doc__" 418 .none] 4),#[]⟩
noncomputable def o177 : Obj := ⟨.type "type",none,.cls ⟨"Real",[.type "object"],[.ref 177,.type "object"],176,"Real",true,[],[],false,none,false⟩,#[none,none,(some (.str "Real" 390)),(some (.str "Real" 398)),(some (.builtin "object.__new__")),(some (.bool true))]⟩
noncomputable def o178 : Obj := ⟨.type "getset_descriptor",none,.fields #[.str "__dict__" 414,.ref 177,.builtin "function.__dict__",.builtin "function.__dict__#set"],#[]⟩
noncomputable def o179 : Obj := ⟨.type "getset_descriptor",none,.fields #[.str "__weakref__" 416,.ref 177,.builtin "ExceptionGroup.__weakref__",.none],#[]⟩
noncomputable def o180 : Obj := ⟨.type "super",none,.fields #[.ref 177,.ref 177,.ref 177],#[]⟩
noncomputable def o181 : Obj := ⟨.type "builtin_function_or_method",none,.fields #[.builtin "object.__init_subclass__",.ref 177],#[]⟩
noncomputable def o184 : Obj := sq #[.str "kind" 424,.str "value" 425]
noncomputable def o186 : Obj := fz [11] "cast"
noncomputable def o187 : Obj := ⟨.type "code",none,.fields #[.str "cast" 421,.str "cast" 422,.str "/claim/cut.py" 423,.int 50 0,.int 2 0,.int 0 0,.int 0 0,.int 3 0,.ref 182,.bool true,.int 181 0,.ref 183,.none,.ref 184,.ref 185,.ref 186,.int 426 0,.int 50 0,.str "/claim/cut.py" 427],#[]⟩
noncomputable def o188 : Obj := ⟨.type "function",none,(fd (sAt [11]) "cast" 3 [] .none .none .none (.str "pdfminer.stand_ins" 252) none (.ref 187) .none 0),#[]⟩
noncomputable def o189 : Obj := sq #[.ref 44]
noncomputable def o191 (P : Params) : Obj := ⟨.type "dict",none,(.dict #[en P "__module__" 438 (.str "pdfminer.lzw" 429),en P "__qualname__" 440 (.str "CorruptDataError" 439),en P "__firstlineno__" 442 (.int 53 441),en P "__static_attributes__" 443 (.ref 196)] 4),#[]⟩
noncomputable def o194 : Obj := cd #[.str "CorruptDataError" 433,.str "CorruptDataError" 434,.str "/claim/cut.py" 435,.int 53 0,.int 0 0,.int 0 0,.int 0 0,.int 0 0,.ref 192,.bool false,.int 181 0,.ref 193,.none,.none,.none,.none,.int 436 0,.int 53 0,.str "/claim/cut.py" 437]
noncomputable def o195 : Obj := ⟨.type "frame",none,.plain,#[(some (.ref 194)),(some (.ref 3)),(some (.ref 191)),none,(some (.str "pdfminer.lzw" 429)),none,(some (.ref 0))]⟩
noncomputable def o196 : Obj := ⟨.type "tuple",none,.seq #[] 0,#[]⟩
noncomputable def o197 (P : Params) : Obj := ⟨.type "dict",none,(.dict #[en P "__module__" 438 (.str "pdfminer.lzw" 429),en P "__firstlineno__" 442 (.int 53 441),en P "__static_attributes__" 443 (.ref 196),en P "__doc__" 444 .none] 2),#[]⟩
noncomputable def o198 : Obj := ⟨.type "type",none,.cls ⟨"CorruptDataError",[.ref 44],[.ref 198,.ref 44,.ref 31,.type "Exception",.type "BaseException",.type "object"],197,"CorruptDataError",true,[],[],false,none,false⟩,#[(some (.ref 189)),none,(some (.str "CorruptDataError" 431)),(some (.str "CorruptDataError" 439)),(some (.builtin "Exception.__new__")),(some (.bool true))]⟩
noncomputable def o199 : Obj := ⟨.type "super",none,.fields #[.ref 198,.ref 198,.ref 198],#[]⟩
noncomputable def o200 : Obj := ⟨.type "builtin_function_or_method",none,.fields #[.builtin "object.__init_subclass__",.ref 198],#[]⟩
noncomputable def o203 (P : Params) : Obj := ⟨.type "dict",none,(.dict #[en P "__module__" 454 (.str "pdfminer.lzw" 429),en P "__qualname__" 456 (.str "LZWDecoder" 455),en P "__firstlineno__" 458 (.int 55 457),en P "__init__" 466 (.ref 214),en P "readbits" 477 (.ref 221),en P "feed" 483 (.ref 226),en P "run" 490 (.ref 233),en P "__static_attributes__" 497 (.ref 234)] 8),#[]⟩
noncomputable def o205 : Obj := fl #[.int 57 0,.int 4 0,.ref 213,.int 65 0,.int 4 0,.ref 220,.int 83 0,.int 4 0,.ref 225,.int 114 0,.int 4 0,.ref 232]
noncomputable def o206 : Obj := cd #[.str "LZWDecoder" 449,.str "LZWDecoder" 450,.str "/claim/cut.py" 451,.int 55 0,.int 0 0,.int 0 0,.int 0 0,.int 0 0,.ref 204,.bool false,.int 181 0,.ref 205,.none,.none,.none,.none,.int 452 0,.int 55 0,.str "/claim/cut.py" 453]
noncomputable def o207 : Obj := ⟨.type "frame",none,.plain,#[(some (.ref 206)),(some (.ref 3)),(some (.ref 203)),none,(some (.str "pdfminer.lzw" 429)),none,(some (.ref 0))]⟩
noncomputable def o210 : Obj := sq #[.str "self" 462,.str "fp" 463]
noncomputable def o212 : Obj := fz [14,0] "LZWDecoder.__init__"
noncomputable def o213 : Obj := ⟨.type "code",none,.fields #[.str "__init__" 459,.str "LZWDecoder.__init__" 460,.str "/claim/cut.py" 461,.int 57 0,.int 2 0,.int 0 0,.int 0 0,.int 3 0,.ref 208,.bool true,.int 181 0,.ref 209,.none,.ref 210,.ref 211,.ref 212,.int 464 0,.int 57 0,.str "/claim/cut.py" 465],#[]⟩
noncomputable def o214 : Obj := ⟨.type "function",none,(fd (sAt [14,0]) "LZWDecoder.__init__" 3 [] .none .none .none (.str "pdfminer.lzw" 429) none (.ref 213) .none 0),#[]⟩
noncomputable def o217 : Obj := sq #[.str "self" 470,.str "bits" 471,.str "v" 472,.str "r" 473,.str "x" 474]
noncomputable def o219 : Obj := fz [14,1] "LZWDecoder.readbits"
noncomputable def o220 : Obj := ⟨.type "code",none,.fields #[.str "readbits" 467,.str "LZWDecoder.readbits" 468,.str "/claim/cut.py" 469,.int 65 0,.int 2 0,.int 0 0,.int 0 0,.int 3 0,.ref 215,.bool true,.int 181 0,.ref 216,.none,.ref 217,.ref 218,.ref 219,.int 475 0,.int 65 0,.str "/claim/cut.py" 476],#[]⟩
noncomputable def o221 : Obj := ⟨.type "function",none,(fd (sAt [14,1]) "LZWDecoder.readbits" 3 [] .none .none .none (.str "pdfminer.lzw" 429) none (.ref 220) .none 0),#[]⟩
noncomputable def o224 : Obj := fz [14,2] "LZWDecoder.feed"
noncomputable def o225 : Obj := ⟨.type "code",none,.fields #[.str "feed" 478,.str "LZWDecoder.feed" 479,.str "/claim/cut.py" 480,.int 83 0,.int 2 0,.int 0 0,.int 0 0,.int 3 0,.ref 222,.bool true,.int 181 0,.ref 223,.none,.none,.none,.ref 224,.int 481 0,.int 83 0,.str "/claim/cut.py" 482],#[]⟩
noncomputable def o226 : Obj := ⟨.type "function",none,(fd (sAt [14,2]) "LZWDecoder.feed" 3 [] .none .none .none (.str "pdfminer.lzw" 429) none (.ref 225) .none 0),#[]⟩
noncomputable def o229 : Obj := sq #[.str "self" 487]
noncomputable def o231 : Obj := fz [14,3] "LZWDecoder.run"
noncomputable def o232 : Obj := ⟨.type "code",none,.fields #[.str "run" 484,.str "LZWDecoder.run" 485,.str "/claim/cut.py" 486,.int 114 0,.int 1 0,.int 0 0,.int 0 0,.int 3 0,.ref 227,.bool true,.int 181 0,.ref 228,.none,.ref 229,.ref 230,.ref 231,.int 488 0,.int 114 0,.str "/claim/cut.py" 489],#[]⟩
noncomputable def o233 : Obj := ⟨.type "function",none,(fd (sAt [14,3]) "LZWDecoder.run" 3 [] .none .none .none (.str "pdfminer.lzw" 429) none (.ref 232) .none 0),#[]⟩
noncomputable def o234 : Obj := ⟨.type "tuple",none,.seq #[.str "bpos" 491,.str "buff" 492,.str "fp" 493,.str "nbits" 494,.str "prevbuf" 495,.str "table" 496] 0,#[]⟩
noncomputable def o235 (P : Params) : Obj := ⟨.type "dict",none,(.dict #[en P "__module__" 454 (.str "pdfminer.lzw" 429),en P "__firstlineno__" 458 (.int 55 457),en P "__init__" 466 (.ref 214),en P "readbits" 477 (.ref 221),en P "feed" 483 (.ref 226),en P "run" 490 (.ref 233),en P "__static_attributes__" 497 (.ref 234),en P "__dict__" 499 (.ref 237),en P "__weakref__" 501 (.ref 238),en P "__doc__" 502 .none] 4),#[]⟩
noncomputable def o236 : Obj := ⟨.type "type",none,.cls ⟨"LZWDecoder",[.type "object"],[.ref 236,.type "object"],235,"LZWDecoder",true,[],[],false,none,false⟩,#[none,none,(some (.str "LZWDecoder" 447)),(some (.str "LZWDecoder" 455)),(some (.builtin "object.__new__")),(some (.bool true))]⟩
noncomputable def o237 : Obj := ⟨.type "getset_descriptor",none,.fields #[.str "__dict__" 498,.ref 236,.builtin "function.__dict__",.builtin "function.__dict__#set"],#[]⟩
noncomputable def o238 : Obj := ⟨.type "getset_descriptor",none,.fields #[.str "__weakref__" 500,.ref 236,.builtin "ExceptionGroup.__weakref__",.none],#[]⟩
noncomputable def o239 : Obj := ⟨.type "super",none,.fields #[.ref 236,.ref 236,.ref 236],#[]⟩
noncomputable def o240 : Obj := ⟨.type "builtin_function_or_method",none,.fields #[.builtin "object.__init_subclass__",.ref 236],#[]⟩
noncomputable def o243 : Obj := sq #[.str "n" 510,.str "what" 511]
noncomputable def o245 : Obj := fz [16] "_whence"
noncomputable def o246 : Obj := ⟨.type "code",none,.fields #[.str "_whence" 507,.str "_whence" 508,.str "/claim/cut.py" 509,.int 117 0,.int 2 0,.int 0 0,.int 0 0,.int 3 0,.ref 241,.bool true,.int 181 0,.ref 242,.none,.ref 243,.ref 244,.ref 245,.int 512 0,.int 117 0,.str "/claim/cut.py" 513],#[]⟩
noncomputable def o247 : Obj := ⟨.type "function",none,(fd (sAt [16]) "_whence" 3 [] .none .none .none (.str "io" 505) none (.ref 246) .none 0),#[]⟩
noncomputable def o250 : Obj := sq #[.str "n" 518,.str "what" 519]
noncomputable def o252 : Obj := fz [17] "_index"
noncomputable def o253 : Obj := ⟨.type "code",none,.fields #[.str "_index" 515,.str "_index" 516,.str "/claim/cut.py" 517,.int 122 0,.int 2 0,.int 0 0,.int 0 0,.int 3 0,.ref 248,.bool true,.int 181 0,.ref 249,.none,.ref 250,.ref 251,.ref 252,.int 520 0,.int 122 0,.str "/claim/cut.py" 521],#[]⟩
noncomputable def o254 : Obj := ⟨.type "function",none,(fd (sAt [17]) "_index" 3 [] .none .none .none (.str "io" 505) none (.ref 253) .none 0),#[]⟩
noncomputable def o255 : Obj := sq #[.type "OSError",.type "ValueError"]
noncomputable def o257 (P : Params) : Obj := ⟨.type "dict",none,(.dict #[en P "__module__" 530 (.str "io" 535),en P "__qualname__" 532 (.str "UnsupportedOperation" 531),en P "__firstlineno__" 534 (.int 129 533),en P "__static_attributes__" 537 (.ref 262)] 4),#[]⟩
noncomputable def o260 : Obj := cd #[.str "UnsupportedOperation" 525,.str "UnsupportedOperation" 526,.str "/claim/cut.py" 527,.int 129 0,.int 0 0,.int 0 0,.int 0 0,.int 0 0,.ref 258,.bool false,.int 181 0,.ref 259,.none,.none,.none,.none,.int 528 0,.int 129 0,.str "/claim/cut.py" 529]
noncomputable def o261 : Obj := ⟨.type "frame",none,.plain,#[(some (.ref 260)),(some (.ref 3)),(some (.ref 257)),none,(some (.str "io" 505)),none,(some (.ref 0))]⟩
noncomputable def o263 (P : Params) : Obj := ⟨.type "dict",none,(.dict #[en P "__module__" 530 (.str "io" 535),en P "__firstlineno__" 534 (.int 129 533),en P "__static_attributes__" 537 (.ref 262),en P "__weakref__" 539 (.ref 265),en P "__doc__" 540 .none] 3),#[]⟩
noncomputable def o264 : Obj := ⟨.type "type",none,.cls ⟨"UnsupportedOperation",[.type "OSError",.type "ValueError"],[.ref 264,.type "OSError",.type "ValueError",.type "Exception",.type "BaseException",.type "object"],263,"UnsupportedOperation",true,[],[],false,none,false⟩,#[(some (.ref 255)),none,(some (.str "UnsupportedOperation" 523)),(some (.str "UnsupportedOperation" 531)),(some (.builtin "OSError.__new__")),(some (.bool true))]⟩
noncomputable def o265 : Obj := ⟨.type "getset_descriptor",none,.fields #[.str "__weakref__" 538,.ref 264,.builtin "ExceptionGroup.__weakref__",.none],#[]⟩
noncomputable def o266 : Obj := ⟨.type "super",none,.fields #[.ref 264,.ref 264,.ref 264],#[]⟩
noncomputable def o267 : Obj := ⟨.type "builtin_function_or_method",none,.fields #[.builtin "object.__init_subclass__",.ref 264],#[]⟩
noncomputable def t19 (P : Params) : BT := (Y (o0 P) (Y (o1 P) (Y (o3v2 P) (Y o7 (Y o7 (Y o31 (Y o63 (Y o127 (L o255) Z) (L (o191 P))) (Y (o95 P) (L o159) (L o8))) (Y o47 (Y o79 (L o23) (L o207)) (Y o111 (L o175) (L o239)))) (Y o23 (Y o8 (Y o71 (Y o135 (L (o263 P)) Z) (L o199)) (Y (o103 P) (L o167) (L o231))) (Y (o55 P) (Y o7 (L o151) (L o7)) (Y o7 (L o8) (L o247))))) (Y o7 (Y o19 (Y o35 (Y o8 (Y o8 (L o8) Z) (L o195)) (Y o99 (L (o163 P)) (L o7))) (Y o8 (Y o7 (L o147) (L o7)) (Y o115 (L o179) (L o243)))) (Y o27 (Y (o43 P) (Y o75 (Y o139 (L o267) Z) (L (o203 P))) (Y o107 (L o7) (L (o235 P)))) (Y o7 (Y o91 (L (o155 P)) (L o219)) (Y o7 (L o187) (L o7)))))) (Y o5 (Y o9 (Y o17 (Y o33 (Y o65 (Y o129 (L (o257 P)) Z) (L o8)) (Y o97 (L o7) (L o225))) (Y (o49 P) (Y o8 (L o7) (L o8)) (Y o113 (L o177) (L o7)))) (Y o7 (Y o41 (Y o7 (Y o137 (L o265) Z) (L o7)) (Y o105 (L o8) (L o233))) (Y o57 (Y o89 (L o153) (L o217)) (Y o121 (L o7) (L o8))))) (Y o13 (Y o21 (Y (o37 P) (Y o7 (Y o133 (L o261) Z) (L (o197 P))) (Y o7 (L o165) (L o229))) (Y o53 (Y o85 (L o7) (L o213)) (Y o8 (L o181) (L o245)))) (Y o29 (Y o45 (Y o77 (L o141) (L o205)) (Y o7 (L o173) (L o237))) (Y (o61 P) (Y o93 (L o157) (L o221)) (Y o125 (L o189) (L o253))))))) (Y (o2v2 P) (Y o4 (Y o8 (Y o8 (Y o32 (Y o64 (Y o128 (L o23) Z) (L o7)) (Y o96 (L o160) (L o224))) (Y o23 (Y o7 (L (o144 P)) (L o7)) (Y o7 (L (o176 P)) (L o240)))) (Y (o24 P) (Y o40 (Y o72 (Y (o136 P) (L o264) Z) (L o200)) (Y o7 (L o7) (L o232))) (Y o56 (Y o8 (L o152) (L o8)) (Y o120 (L o184) (L o7))))) (Y o12v2 (Y o20 (Y o23 (Y o68 (Y o132 (L o260) Z) (L o196)) (Y o100 (L o7) (L o8))) (Y o52 (Y o84 (L o148) (L o212)) (Y o7 (L o180) (L o7)))) (Y o28 (Y o44v1 (Y o7 (L o140) (L o7)) (Y o108 (L o172) (L o236))) (Y o23 (Y o92 (L o156) (L o220)) (Y o8 (L o188) (L o252)))))) (Y o6 (Y o10 (Y o7 (Y o34 (Y o7 (Y o7 (L o7) Z) (L o194)) (Y o98 (L o23) (L o226))) (Y o7 (Y o82 (L o146) (L o210)) (Y o114 (L o178) (L o8)))) (Y o8 (Y o42 (Y o8 (Y o138 (L o266) Z) (L o23)) (Y o106 (L o170) (L o234))) (Y o58 (Y o7 (L o7) (L o7)) (Y o122 (L o186) (L o250))))) (Y o14 (Y o22 (Y o7 (Y o70 (Y o134 (L o7) Z) (L o198)) (Y o23 (L o166) (L o7))) (Y o54 (Y o86 (L o8) (L o214)) (Y o118 (L o7) (L o246)))) (Y (o30 P) (Y o46 (Y o78 (L o7) (L o206)) (Y o8 (L o174) (L o238))) (Y o7 (Y o94 (L o158) (L o7)) (Y o7 (L o23) (L o254))))))))
noncomputable def s19 (w : World) (os : OsState) : SharedT := ⟨t19 w.params, 268, lf, #[], dr, 545, os⟩
noncomputable def o3v3 (P : Params) : Obj := ⟨.type "dict",none,(.dict #[en P "__name__" 165 (.str "io" 505),en P "__doc__" 166 .none,en P "__package__" 167 .none,en P "__loader__" 168 (.builtin "__main__.__loader__#opaque"),en P "__spec__" 169 .none,en P "__annotations__" 170 (.ref 6),en P "__builtins__" 171 (.ref 4),en P "__file__" 173 (.str "/claim/cut.py" 172),en P "__cached__" 174 .none,en P "_wall" 193 (.ref 21),en P "PSException" 215 (.ref 31),en P "PDFException" 233 (.ref 44),en P "PDFEOFError" 251 (.ref 56),en P "Found" 308 (.ref 96),en P "Signs" 363 (.ref 137),en P "HexPairs" 389 (.ref 156),en P "Real" 420 (.ref 177),en P "cast" 428 (.ref 188),en P "CorruptDataError" 446 (.ref 198),en P "LZWDecoder" 504 (.ref 236),en P "_whence" 514 (.ref 247),en P "_index" 522 (.ref 254),en P "UnsupportedOperation" 544 (.ref 264),en P "IOBase" 576 (.ref 284),en P "BufferedIOBase" 594 (.ref 299),en P "TextIOBase" 612 (.ref 311)] 26),#[]⟩
noncomputable def o12v3 : Obj := fl #[.int 1 0,.int 0 0,.ref 20,.int 5 0,.int 0 0,.ref 27,.int 8 0,.int 0 0,.ref 40,.int 10 0,.int 0 0,.ref 52,.int 13 0,.int 0 0,.ref 64,.int 26 0,.int 0 0,.ref 106,.int 41 0,.int 0 0,.ref 147,.int 45 0,.int 0 0,.ref 166,.int 50 0,.int 0 0,.ref 187,.int 53 0,.int 0 0,.ref 194,.int 55 0,.int 0 0,.ref 206,.int 117 0,.int 0 0,.ref 246,.int 122 0,.int 0 0,.ref 253,.int 129 0,.int 0 0,.ref 260,.int 131 0,.int 0 0,.ref 273,.int 138 0,.int 0 0,.ref 295,.int 140 0,.int 0 0,.ref 307]
noncomputable def o270 (P : Params) : Obj := ⟨.type "dict",none,(.dict #[en P "__module__" 552 (.str "io" 557),en P "__qualname__" 554 (.str "IOBase" 553),en P "__firstlineno__" 556 (.int 131 555),en P "__new__" 567 (.ref 281),en P "__static_attributes__" 568 (.ref 282)] 5),#[]⟩
noncomputable def o272 : Obj := fl #[.int 134 0,.int 4 0,.ref 280]
noncomputable def o273 : Obj := cd #[.str "IOBase" 547,.str "IOBase" 548,.str "/claim/cut.py" 549,.int 131 0,.int 0 0,.int 0 0,.int 0 0,.int 0 0,.ref 271,.bool false,.int 181 0,.ref 272,.none,.none,.none,.none,.int 550 0,.int 131 0,.str "/claim/cut.py" 551]
noncomputable def o274 : Obj := ⟨.type "frame",none,.plain,#[(some (.ref 273)),(some (.ref 3)),(some (.ref 270)),none,(some (.str "io" 505)),none,(some (.ref 0))]⟩
noncomputable def o277 : Obj := sq #[.str "cls" 562,.str "args" 563,.str "kwargs" 564]
noncomputable def o279 : Obj := fz [19,1] "IOBase.__new__"
noncomputable def o280 : Obj := ⟨.type "code",none,.fields #[.str "__new__" 559,.str "IOBase.__new__" 560,.str "/claim/cut.py" 561,.int 134 0,.int 1 0,.int 1 0,.int 0 0,.int 15 0,.ref 275,.bool true,.int 181 0,.ref 276,.none,.ref 277,.ref 278,.ref 279,.int 565 0,.int 134 0,.str "/claim/cut.py" 566],#[]⟩
noncomputable def o281 : Obj := ⟨.type "function",none,(fd (sAt [19,1]) "IOBase.__new__" 3 [] .none .none .none (.str "io" 505) none (.ref 280) .none 0),#[]⟩
noncomputable def o282 : Obj := ⟨.type "tuple",none,.seq #[] 0,#[]⟩
noncomputable def o283 (P : Params) : Obj := ⟨.type "dict",none,(.dict #[en P "__module__" 552 (.str "io" 557),en P "__firstlineno__" 556 (.int 131 555),en P "__new__" 567 (.ref 285),en P "__static_attributes__" 568 (.ref 282),en P "__dict__" 571 (.ref 286),en P "__weakref__" 573 (.ref 287),en P "__doc__" 574 .none] 4),#[]⟩
noncomputable def o284 : Obj := ⟨.type "type",none,.cls ⟨"IOBase",[.type "object"],[.ref 284,.type "object"],283,"IOBase",true,[],[.ref 299,.ref 311],false,none,false⟩,#[none,none,(some (.str "IOBase" 545)),(some (.str "IOBase" 553)),(some .none),(some (.bool true))]⟩
noncomputable def o285 : Obj := ⟨.type "staticmethod",none,.fields #[.ref 281],#[]⟩
noncomputable def o286 : Obj := ⟨.type "getset_descriptor",none,.fields #[.str "__dict__" 570,.ref 284,.builtin "function.__dict__",.builtin "function.__dict__#set"],#[]⟩
noncomputable def o287 : Obj := ⟨.type "getset_descriptor",none,.fields #[.str "__weakref__" 572,.ref 284,.builtin "ExceptionGroup.__weakref__",.none],#[]⟩
noncomputable def o288 : Obj := ⟨.type "super",none,.fields #[.ref 284,.ref 284,.ref 284],#[]⟩
noncomputable def o289 : Obj := ⟨.type "builtin_function_or_method",none,.fields #[.builtin "object.__init_subclass__",.ref 284],#[]⟩
noncomputable def o290 : Obj := sq #[.ref 284]
noncomputable def o292 (P : Params) : Obj := ⟨.type "dict",none,(.dict #[en P "__module__" 584 (.str "io" 589),en P "__qualname__" 586 (.str "BufferedIOBase" 585),en P "__firstlineno__" 588 (.int 138 587),en P "__static_attributes__" 591 (.ref 297)] 4),#[]⟩
noncomputable def o295 : Obj := cd #[.str "BufferedIOBase" 579,.str "BufferedIOBase" 580,.str "/claim/cut.py" 581,.int 138 0,.int 0 0,.int 0 0,.int 0 0,.int 0 0,.ref 293,.bool false,.int 181 0,.ref 294,.none,.none,.none,.none,.int 582 0,.int 138 0,.str "/claim/cut.py" 583]
noncomputable def o296 : Obj := ⟨.type "frame",none,.plain,#[(some (.ref 295)),(some (.ref 3)),(some (.ref 292)),none,(some (.str "io" 505)),none,(some (.ref 0))]⟩
noncomputable def o297 : Obj := ⟨.type "tuple",none,.seq #[] 0,#[]⟩
noncomputable def o298 (P : Params) : Obj := ⟨.type "dict",none,(.dict #[en P "__module__" 584 (.str "io" 589),en P "__firstlineno__" 588 (.int 138 587),en P "__static_attributes__" 591 (.ref 297),en P "__doc__" 592 .none] 2),#[]⟩
noncomputable def o299 : Obj := ⟨.type "type",none,.cls ⟨"BufferedIOBase",[.ref 284],[.ref 299,.ref 284,.type "object"],298,"BufferedIOBase",true,[],[],false,none,false⟩,#[(some (.ref 290)),none,(some (.str "BufferedIOBase" 577)),(some (.str "BufferedIOBase" 585)),(some .none),(some (.bool true))]⟩
noncomputable def o300 : Obj := ⟨.type "super",none,.fields #[.ref 299,.ref 299,.ref 299],#[]⟩
noncomputable def o301 : Obj := ⟨.type "builtin_function_or_method",none,.fields #[.builtin "object.__init_subclass__",.ref 299],#[]⟩
noncomputable def o304 (P : Params) : Obj := ⟨.type "dict",none,(.dict #[en P "__module__" 602 (.str "io" 607),en P "__qualname__" 604 (.str "TextIOBase" 603),en P "__firstlineno__" 606 (.int 140 605),en P "__static_attributes__" 609 (.ref 309)] 4),#[]⟩
noncomputable def o307 : Obj := cd #[.str "TextIOBase" 597,.str "TextIOBase" 598,.str "/claim/cut.py" 599,.int 140 0,.int 0 0,.int 0 0,.int 0 0,.int 0 0,.ref 305,.bool false,.int 181 0,.ref 306,.none,.none,.none,.none,.int 600 0,.int 140 0,.str "/claim/cut.py" 601]
noncomputable def o308 : Obj := ⟨.type "frame",none,.plain,#[(some (.ref 307)),(some (.ref 3)),(some (.ref 304)),none,(some (.str "io" 505)),none,(some (.ref 0))]⟩
noncomputable def o309 : Obj := ⟨.type "tuple",none,.seq #[] 0,#[]⟩
noncomputable def o310 (P : Params) : Obj := ⟨.type "dict",none,(.dict #[en P "__module__" 602 (.str "io" 607),en P "__firstlineno__" 606 (.int 140 605),en P "__static_attributes__" 609 (.ref 309),en P "__doc__" 610 .none] 2),#[]⟩
noncomputable def o311 : Obj := ⟨.type "type",none,.cls ⟨"TextIOBase",[.ref 284],[.ref 311,.ref 284,.type "object"],310,"TextIOBase",true,[],[],false,none,false⟩,#[(some (.ref 302)),none,(some (.str "TextIOBase" 595)),(some (.str "TextIOBase" 603)),(some .none),(some (.bool true))]⟩
noncomputable def o312 : Obj := ⟨.type "super",none,.fields #[.ref 311,.ref 311,.ref 311],#[]⟩
noncomputable def o313 : Obj := ⟨.type "builtin_function_or_method",none,.fields #[.builtin "object.__init_subclass__",.ref 311],#[]⟩
noncomputable def t22 (P : Params) : BT := (Y (o0 P) (Y (o1 P) (Y (o3v3 P) (Y o7 (Y o7 (Y o31 (Y o63 (Y o127 (L o255) Z) (L (o191 P))) (Y (o95 P) (Y o159 (L o287) Z) (L o8))) (Y o47 (Y o79 (Y o23 (L o7) Z) (L o207)) (Y o111 (Y o175 (L o23) Z) (L o239)))) (Y o23 (Y o8 (Y o71 (Y o135 (L (o263 P)) Z) (L o199)) (Y (o103 P) (Y o167 (L o295) Z) (L o231))) (Y (o55 P) (Y o7 (Y o151 (L o279) Z) (L o7)) (Y o7 (Y o8 (L o311) Z) (L o247))))) (Y o7 (Y o19 (Y o35 (Y o8 (Y o8 (L o8) Z) (L o195)) (Y o99 (Y (o163 P) (L o23) Z) (L o7))) (Y o8 (Y o7 (Y o147 (L o7) Z) (L o7)) (Y o115 (Y o179 (L o307) Z) (L o243)))) (Y o27 (Y (o43 P) (Y o75 (Y o139 (L o267) Z) (L (o203 P))) (Y o107 (Y o7 (L o299) Z) (L (o235 P)))) (Y o7 (Y o91 (Y (o155 P) (L (o283 P)) Z) (L o219)) (Y o7 (L o187) (L o7)))))) (Y o5 (Y o9 (Y o17 (Y o33 (Y o65 (Y o129 (L (o257 P)) Z) (L o8)) (Y o97 (Y o7 (L o289) Z) (L o225))) (Y (o49 P) (Y o8 (Y o7 (L o273) Z) (L o8)) (Y o113 (Y o177 (L o7) Z) (L o7)))) (Y o7 (Y o41 (Y o7 (Y o137 (L o265) Z) (L o7)) (Y o105 (Y o8 (L o297) Z) (L o233))) (Y o57 (Y o89 (Y o153 (L o281) Z) (L o217)) (Y o121 (Y o7 (L o313) Z) (L o8))))) (Y o13 (Y o21 (Y (o37 P) (Y o7 (Y o133 (L o261) Z) (L (o197 P))) (Y o7 (Y o165 (L o7) Z) (L o229))) (Y o53 (Y o85 (Y o7 (L o277) Z) (L o213)) (Y o8 (Y o181 (L o309) Z) (L o245)))) (Y o29 (Y o45 (Y o77 (Y o141 (L o23) Z) (L o205)) (Y o7 (Y o173 (L o301) Z) (L o237))) (Y (o61 P) (Y o93 (Y o157 (L o285) Z) (L o221)) (Y o125 (L o189) (L o253))))))) (Y (o2v2 P) (Y o4 (Y o8 (Y o8 (Y o32 (Y o64 (Y o128 (L o23) Z) (L o7)) (Y o96 (Y o160 (L o288) Z) (L o224))) (Y o23 (Y o7 (Y (o144 P) (L o272) Z) (L o7)) (Y o7 (Y (o176 P) (L (o304 P)) Z) (L o240)))) (Y (o24 P) (Y o40 (Y o72 (Y (o136 P) (L o264) Z) (L o200)) (Y o7 (Y o7 (L o296) Z) (L o232))) (Y o56 (Y o8 (Y o152 (L o280) Z) (L o8)) (Y o120 (Y o184 (L o312) Z) (L o7))))) (Y o12v3 (Y o20 (Y o23 (Y o68 (Y o132 (L o260) Z) (L o196)) (Y o100 (Y o7 (L (o292 P)) Z) (L o8))) (Y o52 (Y o84 (Y o148 (L o8) Z) (L o212)) (Y o7 (Y o180 (L o308) Z) (L o7)))) (Y o28 (Y o44v1 (Y o7 (Y o140 (L o7) Z) (L o7)) (Y o108 (Y o172 (L o300) Z) (L o236))) (Y o23 (Y o92 (Y o156 (L o284) Z) (L o220)) (Y o8 (L o188) (L o252)))))) (Y o6 (Y o10 (Y o7 (Y o34 (Y o7 (Y o7 (L o7) Z) (L o194)) (Y o98 (Y o23 (L o290) Z) (L o226))) (Y o7 (Y o82 (Y o146 (L o274) Z) (L o210)) (Y o114 (Y o178 (L o8) Z) (L o8)))) (Y o8 (Y o42 (Y o8 (Y o138 (L o266) Z) (L o23)) (Y o106 (Y o170 (L (o298 P)) Z) (L o234))) (Y o58 (Y o7 (Y o7 (L o282) Z) (L o7)) (Y o122 (L o186) (L o250))))) (Y o14 (Y o22 (Y o7 (Y o70 (Y o134 (L o7) Z) (L o198)) (Y o23 (Y o166 (L o8) Z) (L o7))) (Y o54 (Y o86 (Y o8 (L o7) Z) (L o214)) (Y o118 (Y o7 (L (o310 P)) Z) (L o246)))) (Y (o30 P) (Y o46 (Y o78 (Y o7 (L (o270 P)) Z) (L o206)) (Y o8 (Y o174 (L o290) Z) (L o238))) (Y o7 (Y o94 (Y o158 (L o286) Z) (L o7)) (Y o7 (L o23) (L o254))))))))
noncomputable def s22 (w : World) (os : OsState) : SharedT := ⟨t22 w.params, 314, lf, #[], dr, 613, os⟩
noncomputable def o3v4 (P : Params) : Obj := ⟨.type "dict",none,(.dict #[en P "__name__" 165 (.str "io" 505),en P "__doc__" 166 .none,en P "__package__" 167 .none,en P "__loader__" 168 (.builtin "__main__.__loader__#opaque"),en P "__spec__" 169 .none,en P "__annotations__" 170 (.ref 6),en P "__builtins__" 171 (.ref 4),en P "__file__" 173 (.str "/claim/cut.py" 172),en P "__cached__" 174 .none,en P "_wall" 193 (.ref 21),en P "PSException" 215 (.ref 31),en P "PDFException" 233 (.ref 44),en P "PDFEOFError" 251 (.ref 56),en P "Found" 308 (.ref 96),en P "Signs" 363 (.ref 137),en P "HexPairs" 389 (.ref 156),en P "Real" 420 (.ref 177),en P "cast" 428 (.ref 188),en P "CorruptDataError" 446 (.ref 198),en P "LZWDecoder" 504 (.ref 236),en P "_whence" 514 (.ref 247),en P "_index" 522 (.ref 254),en P "UnsupportedOperation" 544 (.ref 264),en P "IOBase" 576 (.ref 284),en P "BufferedIOBase" 594 (.ref 299),en P "TextIOBase" 612 (.ref 311),en P "BytesIO" 874 (.ref 541)] 27),#[]⟩
noncomputable def o12v4 : Obj := fl #[.int 1 0,.int 0 0,.ref 20,.int 5 0,.int 0 0,.ref 27,.int 8 0,.int 0 0,.ref 40,.int 10 0,.int 0 0,.ref 52,.int 13 0,.int 0 0,.ref 64,.int 26 0,.int 0 0,.ref 106,.int 41 0,.int 0 0,.ref 147,.int 45 0,.int 0 0,.ref 166,.int 50 0,.int 0 0,.ref 187,.int 53 0,.int 0 0,.ref 194,.int 55 0,.int 0 0,.ref 206,.int 117 0,.int 0 0,.ref 246,.int 122 0,.int 0 0,.ref 253,.int 129 0,.int 0 0,.ref 260,.int 131 0,.int 0 0,.ref 273,.int 138 0,.int 0 0,.ref 295,.int 140 0,.int 0 0,.ref 307,.int 142 0,.int 0 0,.ref 319]
noncomputable def o299v1 : Obj := ⟨.type "type",none,.cls ⟨"BufferedIOBase",[.ref 284],[.ref 299,.ref 284,.type "object"],298,"BufferedIOBase",true,[],[.ref 541],false,none,false⟩,#[(some (.ref 290)),none,(some (.str "BufferedIOBase" 577)),(some (.str "BufferedIOBase" 585)),(some .none),(some (.bool true))]⟩
noncomputable def o314 : Obj := sq #[.ref 299]
noncomputable def o316 (P : Params) : Obj := ⟨.type "dict",none,(.dict #[en P "__module__" 620 (.str "_io" 625),en P "__qualname__" 622 (.str "BytesIO" 621),en P "__firstlineno__" 624 (.int 142 623),en P "__init__" 634 (.ref 328),en P "_BytesIO__check" 641 (.ref 335),en P "_BytesIO__line" 652 (.ref 342),en P "closed" 660 (.ref 350),en P "close" 667 (.ref 357),en P "__enter__" 674 (.ref 364),en P "__exit__" 682 (.ref 371),en P "readable" 689 (.ref 378),en P "writable" 696 (.ref 385),en P "seekable" 703 (.ref 392),en P "isatty" 710 (.ref 399),en P "flush" 717 (.ref 406),en P "fileno" 724 (.ref 413),en P "detach" 731 (.ref 420),en P "getvalue" 738 (.ref 427),en P "getbuffer" 745 (.ref 434),en P "tell" 752 (.ref 441),en P "seek" 762 (.ref 449),en P "truncate" 770 (.ref 457),en P "read" 782 (.ref 465),en P "read1" 792 (.ref 473),en P "readinto" 802 (.ref 480),en P "readinto1" 810 (.ref 487),en P "readline" 820 (.ref 495),en P "readlines" 828 (.ref 503),en P "__iter__" 835 (.ref 510),en P "__next__" 843 (.ref 517),en P "write" 853 (.ref 524),en P "writelines" 861 (.ref 531),en P "__repr__" 868 (.ref 538),en P "__static_attributes__" 871 (.ref 539)] 34),#[]⟩
noncomputable def o318 : Obj := fl #[.int 145 0,.int 4 0,.ref 327,.int 151 0,.int 4 0,.ref 334,.int 155 0,.int 4 0,.ref 341,.int 169 0,.int 4 0,.ref 348,.int 172 0,.int 4 0,.ref 356,.int 175 0,.int 4 0,.ref 363,.int 179 0,.int 4 0,.ref 370,.int 182 0,.int 4 0,.ref 377,.int 186 0,.int 4 0,.ref 384,.int 190 0,.int 4 0,.ref 391,.int 194 0,.int 4 0,.ref 398,.int 198 0,.int 4 0,.ref 405,.int 201 0,.int 4 0,.ref 412,.int 204 0,.int 4 0,.ref 419,.int 207 0,.int 4 0,.ref 426,.int 210 0,.int 4 0,.ref 433,.int 213 0,.int 4 0,.ref 440,.int 217 0,.int 4 0,.ref 448,.int 234 0,.int 4 0,.ref 456,.int 237 0,.int 4 0,.ref 464,.int 251 0,.int 4 0,.ref 472,.int 254 0,.int 4 0,.ref 479,.int 268 0,.int 4 0,.ref 486,.int 271 0,.int 4 0,.ref 494,.int 278 0,.int 4 0,.ref 502,.int 281 0,.int 4 0,.ref 509,.int 284 0,.int 4 0,.ref 516,.int 291 0,.int 4 0,.ref 523,.int 307 0,.int 4 0,.ref 530,.int 310 0,.int 4 0,.ref 537]
noncomputable def o319 : Obj := cd #[.str "BytesIO" 615,.str "BytesIO" 616,.str "/claim/cut.py" 617,.int 142 0,.int 0 0,.int 0 0,.int 0 0,.int 0 0,.ref 317,.bool false,.int 181 0,.ref 318,.none,.none,.none,.none,.int 618 0,.int 142 0,.str "/claim/cut.py" 619]
noncomputable def o320 : Obj := ⟨.type "frame",none,.plain,#[(some (.ref 319)),(some (.ref 3)),(some (.ref 316)),none,(some (.str "io" 505)),none,(some (.ref 0))]⟩
noncomputable def o321 : Obj := ⟨.type "tuple",none,.seq #[.none] 0,#[]⟩
noncomputable def o324 : Obj := sq #[.str "self" 630,.str "initial_bytes" 631]
noncomputable def o326 : Obj := fz [22,1] "BytesIO.__init__"
noncomputable def o327 : Obj := ⟨.type "code",none,.fields #[.str "__init__" 627,.str "BytesIO.__init__" 628,.str "/claim/cut.py" 629,.int 145 0,.int 2 0,.int 0 0,.int 0 0,.int 3 0,.ref 322,.bool true,.int 181 0,.ref 323,.none,.ref 324,.ref 325,.ref 326,.int 632 0,.int 145 0,.str "/claim/cut.py" 633],#[]⟩
noncomputable def o328 : Obj := ⟨.type "function",none,(fd (sAt [22,1]) "BytesIO.__init__" 3 [] (.ref 321) .none .none (.str "io" 505) none (.ref 327) .none 0),#[]⟩
noncomputable def o331 : Obj := sq #[.str "self" 638]
noncomputable def o333 : Obj := fz [22,2] "BytesIO.__check"
noncomputable def o334 : Obj := ⟨.type "code",none,.fields #[.str "__check" 635,.str "BytesIO.__check" 636,.str "/claim/cut.py" 637,.int 151 0,.int 1 0,.int 0 0,.int 0 0,.int 3 0,.ref 329,.bool true,.int 181 0,.ref 330,.none,.ref 331,.ref 332,.ref 333,.int 639 0,.int 151 0,.str "/claim/cut.py" 640],#[]⟩
noncomputable def o335 : Obj := ⟨.type "function",none,(fd (sAt [22,2]) "BytesIO.__check" 3 [] .none .none .none (.str "io" 505) none (.ref 334) .none 0),#[]⟩
noncomputable def o338 : Obj := sq #[.str "self" 645,.str "limit" 646,.str "start" 647,.str "stop" 648,.str "i" 649]
noncomputable def o340 : Obj := fz [22,3] "BytesIO.__line"
noncomputable def o341 : Obj := ⟨.type "code",none,.fields #[.str "__line" 642,.str "BytesIO.__line" 643,.str "/claim/cut.py" 644,.int 155 0,.int 2 0,.int 0 0,.int 0 0,.int 3 0,.ref 336,.bool true,.int 181 0,.ref 337,.none,.ref 338,.ref 339,.ref 340,.int 650 0,.int 155 0,.str "/claim/cut.py" 651],#[]⟩
noncomputable def o342 : Obj := ⟨.type "function",none,(fd (sAt [22,3]) "BytesIO.__line" 3 [] .none .none .none (.str "io" 505) none (.ref 341) .none 0),#[]⟩
noncomputable def o345 : Obj := sq #[.str "self" 656]
noncomputable def o347 : Obj := fz [22,4] "BytesIO.closed"
noncomputable def o348 : Obj := cd #[.str "closed" 653,.str "BytesIO.closed" 654,.str "/claim/cut.py" 655,.int 168 0,.int 1 0,.int 0 0,.int 0 0,.int 3 0,.ref 343,.bool true,.int 181 0,.ref 344,.none,.ref 345,.ref 346,.ref 347,.int 657 0,.int 168 0,.str "/claim/cut.py" 658]
noncomputable def o349 : Obj := ⟨.type "function",none,(fd (sAt [22,4]) "BytesIO.closed" 3 [] .none .none .none (.str "io" 505) none (.ref 348) .none 0),#[]⟩
noncomputable def o350 : Obj := ⟨.type "property",none,.fields #[.ref 349,.none,.none,.none,.str "closed" 660,.bool false],#[]⟩
noncomputable def o353 : Obj := sq #[.str "self" 664]
noncomputable def o355 : Obj := fz [22,5] "BytesIO.close"
noncomputable def o356 : Obj := ⟨.type "code",none,.fields #[.str "close" 661,.str "BytesIO.close" 662,.str "/claim/cut.py" 663,.int 172 0,.int 1 0,.int 0 0,.int 0 0,.int 3 0,.ref 351,.bool true,.int 181 0,.ref 352,.none,.ref 353,.ref 354,.ref 355,.int 665 0,.int 172 0,.str "/claim/cut.py" 666],#[]⟩
noncomputable def o357 : Obj := ⟨.type "function",none,(fd (sAt [22,5]) "BytesIO.close" 3 [] .none .none .none (.str "io" 505) none (.ref 356) .none 0),#[]⟩
noncomputable def o360 : Obj := sq #[.str "self" 671]
noncomputable def o362 : Obj := fz [22,6] "BytesIO.__enter__"
noncomputable def o363 : Obj := ⟨.type "code",none,.fields #[.str "__enter__" 668,.str "BytesIO.__enter__" 669,.str "/claim/cut.py" 670,.int 175 0,.int 1 0,.int 0 0,.int 0 0,.int 3 0,.ref 358,.bool true,.int 181 0,.ref 359,.none,.ref 360,.ref 361,.ref 362,.int 672 0,.int 175 0,.str "/claim/cut.py" 673],#[]⟩
noncomputable def o364 : Obj := ⟨.type "function",none,(fd (sAt [22,6]) "BytesIO.__enter__" 3 [] .none .none .none (.str "io" 505) none (.ref 363) .none 0),#[]⟩
noncomputable def o367 : Obj := sq #[.str "self" 678,.str "args" 679]
noncomputable def o369 : Obj := fz [22,7] "BytesIO.__exit__"
noncomputable def o370 : Obj := ⟨.type "code",none,.fields #[.str "__exit__" 675,.str "BytesIO.__exit__" 676,.str "/claim/cut.py" 677,.int 179 0,.int 1 0,.int 0 0,.int 0 0,.int 7 0,.ref 365,.bool true,.int 181 0,.ref 366,.none,.ref 367,.ref 368,.ref 369,.int 680 0,.int 179 0,.str "/claim/cut.py" 681],#[]⟩
noncomputable def o371 : Obj := ⟨.type "function",none,(fd (sAt [22,7]) "BytesIO.__exit__" 3 [] .none .none .none (.str "io" 505) none (.ref 370) .none 0),#[]⟩
noncomputable def o374 : Obj := sq #[.str "self" 686]
noncomputable def o376 : Obj := fz [22,8] "BytesIO.readable"
noncomputable def o377 : Obj := ⟨.type "code",none,.fields #[.str "readable" 683,.str "BytesIO.readable" 684,.str "/claim/cut.py" 685,.int 182 0,.int 1 0,.int 0 0,.int 0 0,.int 3 0,.ref 372,.bool true,.int 181 0,.ref 373,.none,.ref 374,.ref 375,.ref 376,.int 687 0,.int 182 0,.str "/claim/cut.py" 688],#[]⟩
noncomputable def o378 : Obj := ⟨.type "function",none,(fd (sAt [22,8]) "BytesIO.readable" 3 [] .none .none .none (.str "io" 505) none (.ref 377) .none 0),#[]⟩
noncomputable def o381 : Obj := sq #[.str "self" 693]
noncomputable def o383 : Obj := fz [22,9] "BytesIO.writable"
noncomputable def o384 : Obj := ⟨.type "code",none,.fields #[.str "writable" 690,.str "BytesIO.writable" 691,.str "/claim/cut.py" 692,.int 186 0,.int 1 0,.int 0 0,.int 0 0,.int 3 0,.ref 379,.bool true,.int 181 0,.ref 380,.none,.ref 381,.ref 382,.ref 383,.int 694 0,.int 186 0,.str "/claim/cut.py" 695],#[]⟩
noncomputable def o385 : Obj := ⟨.type "function",none,(fd (sAt [22,9]) "BytesIO.writable" 3 [] .none .none .none (.str "io" 505) none (.ref 384) .none 0),#[]⟩
noncomputable def o388 : Obj := sq #[.str "self" 700]
noncomputable def o390 : Obj := fz [22,10] "BytesIO.seekable"
noncomputable def o391 : Obj := ⟨.type "code",none,.fields #[.str "seekable" 697,.str "BytesIO.seekable" 698,.str "/claim/cut.py" 699,.int 190 0,.int 1 0,.int 0 0,.int 0 0,.int 3 0,.ref 386,.bool true,.int 181 0,.ref 387,.none,.ref 388,.ref 389,.ref 390,.int 701 0,.int 190 0,.str "/claim/cut.py" 702],#[]⟩
noncomputable def o392 : Obj := ⟨.type "function",none,(fd (sAt [22,10]) "BytesIO.seekable" 3 [] .none .none .none (.str "io" 505) none (.ref 391) .none 0),#[]⟩
noncomputable def o395 : Obj := sq #[.str "self" 707]
noncomputable def o397 : Obj := fz [22,11] "BytesIO.isatty"
noncomputable def o398 : Obj := ⟨.type "code",none,.fields #[.str "isatty" 704,.str "BytesIO.isatty" 705,.str "/claim/cut.py" 706,.int 194 0,.int 1 0,.int 0 0,.int 0 0,.int 3 0,.ref 393,.bool true,.int 181 0,.ref 394,.none,.ref 395,.ref 396,.ref 397,.int 708 0,.int 194 0,.str "/claim/cut.py" 709],#[]⟩
noncomputable def o399 : Obj := ⟨.type "function",none,(fd (sAt [22,11]) "BytesIO.isatty" 3 [] .none .none .none (.str "io" 505) none (.ref 398) .none 0),#[]⟩
noncomputable def o402 : Obj := sq #[.str "self" 714]
noncomputable def o404 : Obj := fz [22,12] "BytesIO.flush"
noncomputable def o405 : Obj := ⟨.type "code",none,.fields #[.str "flush" 711,.str "BytesIO.flush" 712,.str "/claim/cut.py" 713,.int 198 0,.int 1 0,.int 0 0,.int 0 0,.int 3 0,.ref 400,.bool true,.int 181 0,.ref 401,.none,.ref 402,.ref 403,.ref 404,.int 715 0,.int 198 0,.str "/claim/cut.py" 716],#[]⟩
noncomputable def o406 : Obj := ⟨.type "function",none,(fd (sAt [22,12]) "BytesIO.flush" 3 [] .none .none .none (.str "io" 505) none (.ref 405) .none 0),#[]⟩
noncomputable def o409 : Obj := sq #[.str "self" 721]
noncomputable def o411 : Obj := fz [22,13] "BytesIO.fileno"
noncomputable def o412 : Obj := ⟨.type "code",none,.fields #[.str "fileno" 718,.str "BytesIO.fileno" 719,.str "/claim/cut.py" 720,.int 201 0,.int 1 0,.int 0 0,.int 0 0,.int 3 0,.ref 407,.bool true,.int 181 0,.ref 408,.none,.ref 409,.ref 410,.ref 411,.int 722 0,.int 201 0,.str "/claim/cut.py" 723],#[]⟩
noncomputable def o413 : Obj := ⟨.type "function",none,(fd (sAt [22,13]) "BytesIO.fileno" 3 [] .none .none .none (.str "io" 505) none (.ref 412) .none 0),#[]⟩
noncomputable def o416 : Obj := sq #[.str "self" 728]
noncomputable def o418 : Obj := fz [22,14] "BytesIO.detach"
noncomputable def o419 : Obj := ⟨.type "code",none,.fields #[.str "detach" 725,.str "BytesIO.detach" 726,.str "/claim/cut.py" 727,.int 204 0,.int 1 0,.int 0 0,.int 0 0,.int 3 0,.ref 414,.bool true,.int 181 0,.ref 415,.none,.ref 416,.ref 417,.ref 418,.int 729 0,.int 204 0,.str "/claim/cut.py" 730],#[]⟩
noncomputable def o420 : Obj := ⟨.type "function",none,(fd (sAt [22,14]) "BytesIO.detach" 3 [] .none .none .none (.str "io" 505) none (.ref 419) .none 0),#[]⟩
noncomputable def o423 : Obj := sq #[.str "self" 735]
noncomputable def o425 : Obj := fz [22,15] "BytesIO.getvalue"
noncomputable def o426 : Obj := ⟨.type "code",none,.fields #[.str "getvalue" 732,.str "BytesIO.getvalue" 733,.str "/claim/cut.py" 734,.int 207 0,.int 1 0,.int 0 0,.int 0 0,.int 3 0,.ref 421,.bool true,.int 181 0,.ref 422,.none,.ref 423,.ref 424,.ref 425,.int 736 0,.int 207 0,.str "/claim/cut.py" 737],#[]⟩
noncomputable def o427 : Obj := ⟨.type "function",none,(fd (sAt [22,15]) "BytesIO.getvalue" 3 [] .none .none .none (.str "io" 505) none (.ref 426) .none 0),#[]⟩
noncomputable def o430 : Obj := sq #[.str "self" 742]
noncomputable def o432 : Obj := fz [22,16] "BytesIO.getbuffer"
noncomputable def o433 : Obj := ⟨.type "code",none,.fields #[.str "getbuffer" 739,.str "BytesIO.getbuffer" 740,.str "/claim/cut.py" 741,.int 210 0,.int 1 0,.int 0 0,.int 0 0,.int 3 0,.ref 428,.bool true,.int 181 0,.ref 429,.none,.ref 430,.ref 431,.ref 432,.int 743 0,.int 210 0,.str "/claim/cut.py" 744],#[]⟩
noncomputable def o434 : Obj := ⟨.type "function",none,(fd (sAt [22,16]) "BytesIO.getbuffer" 3 [] .none .none .none (.str "io" 505) none (.ref 433) .none 0),#[]⟩
noncomputable def o437 : Obj := sq #[.str "self" 749]
noncomputable def o439 : Obj := fz [22,17] "BytesIO.tell"
noncomputable def o440 : Obj := ⟨.type "code",none,.fields #[.str "tell" 746,.str "BytesIO.tell" 747,.str "/claim/cut.py" 748,.int 213 0,.int 1 0,.int 0 0,.int 0 0,.int 3 0,.ref 435,.bool true,.int 181 0,.ref 436,.none,.ref 437,.ref 438,.ref 439,.int 750 0,.int 213 0,.str "/claim/cut.py" 751],#[]⟩
noncomputable def o441 : Obj := ⟨.type "function",none,(fd (sAt [22,17]) "BytesIO.tell" 3 [] .none .none .none (.str "io" 505) none (.ref 440) .none 0),#[]⟩
noncomputable def o442 : Obj := ⟨.type "tuple",none,.seq #[.int 0 753] 0,#[]⟩
noncomputable def o445 : Obj := sq #[.str "self" 757,.str "pos" 758,.str "whence" 759]
noncomputable def o447 : Obj := fz [22,18] "BytesIO.seek"
noncomputable def o448 : Obj := ⟨.type "code",none,.fields #[.str "seek" 754,.str "BytesIO.seek" 755,.str "/claim/cut.py" 756,.int 217 0,.int 3 0,.int 3 0,.int 0 0,.int 3 0,.ref 443,.bool true,.int 181 0,.ref 444,.none,.ref 445,.ref 446,.ref 447,.int 760 0,.int 217 0,.str "/claim/cut.py" 761],#[]⟩
noncomputable def o449 : Obj := ⟨.type "function",none,(fd (sAt [22,18]) "BytesIO.seek" 3 [] (.ref 442) .none .none (.str "io" 505) none (.ref 448) .none 0),#[]⟩
noncomputable def o450 : Obj := ⟨.type "tuple",none,.seq #[.none] 0,#[]⟩
noncomputable def o453 : Obj := sq #[.str "self" 766,.str "size" 767]
noncomputable def o455 : Obj := fz [22,19] "BytesIO.truncate"
noncomputable def o456 : Obj := ⟨.type "code",none,.fields #[.str "truncate" 763,.str "BytesIO.truncate" 764,.str "/claim/cut.py" 765,.int 234 0,.int 2 0,.int 2 0,.int 0 0,.int 3 0,.ref 451,.bool true,.int 181 0,.ref 452,.none,.ref 453,.ref 454,.ref 455,.int 768 0,.int 234 0,.str "/claim/cut.py" 769],#[]⟩
noncomputable def o457 : Obj := ⟨.type "function",none,(fd (sAt [22,19]) "BytesIO.truncate" 3 [] (.ref 450) .none .none (.str "io" 505) none (.ref 456) .none 0),#[]⟩
noncomputable def o458 : Obj := ⟨.type "tuple",none,(.seq #[(.int (-1) 772)] 0),#[]⟩
noncomputable def o461 : Obj := sq #[.str "self" 776,.str "size" 777,.str "start" 778,.str "stop" 779]
noncomputable def o463 : Obj := fz [22,20] "BytesIO.read"
noncomputable def o464 : Obj := ⟨.type "code",none,.fields #[.str "read" 773,.str "BytesIO.read" 774,.str "/claim/cut.py" 775,.int 237 0,.int 2 0,.int 2 0,.int 0 0,.int 3 0,.ref 459,.bool true,.int 181 0,.ref 460,.none,.ref 461,.ref 462,.ref 463,.int 780 0,.int 237 0,.str "/claim/cut.py" 781],#[]⟩
noncomputable def o465 : Obj := ⟨.type "function",none,(fd (sAt [22,20]) "BytesIO.read" 3 [] (.ref 458) .none .none (.str "io" 505) none (.ref 464) .none 0),#[]⟩
noncomputable def o466 : Obj := ⟨.type "tuple",none,(.seq #[(.int (-1) 784)] 0),#[]⟩
noncomputable def o469 : Obj := sq #[.str "self" 788,.str "size" 789]
noncomputable def o471 : Obj := fz [22,21] "BytesIO.read1"
noncomputable def o472 : Obj := ⟨.type "code",none,.fields #[.str "read1" 785,.str "BytesIO.read1" 786,.str "/claim/cut.py" 787,.int 251 0,.int 2 0,.int 2 0,.int 0 0,.int 3 0,.ref 467,.bool true,.int 181 0,.ref 468,.none,.ref 469,.ref 470,.ref 471,.int 790 0,.int 251 0,.str "/claim/cut.py" 791],#[]⟩
noncomputable def o473 : Obj := ⟨.type "function",none,(fd (sAt [22,21]) "BytesIO.read1" 3 [] (.ref 466) .none .none (.str "io" 505) none (.ref 472) .none 0),#[]⟩
noncomputable def o476 : Obj := sq #[.str "self" 796,.str "buffer" 797,.str "start" 798,.str "n" 799]
noncomputable def o478 : Obj := fz [22,22] "BytesIO.readinto"
noncomputable def o479 : Obj := ⟨.type "code",none,.fields #[.str "readinto" 793,.str "BytesIO.readinto" 794,.str "/claim/cut.py" 795,.int 254 0,.int 2 0,.int 2 0,.int 0 0,.int 3 0,.ref 474,.bool true,.int 181 0,.ref 475,.none,.ref 476,.ref 477,.ref 478,.int 800 0,.int 254 0,.str "/claim/cut.py" 801],#[]⟩
noncomputable def o480 : Obj := ⟨.type "function",none,(fd (sAt [22,22]) "BytesIO.readinto" 3 [] .none .none .none (.str "io" 505) none (.ref 479) .none 0),#[]⟩
noncomputable def o483 : Obj := sq #[.str "self" 806,.str "buffer" 807]
noncomputable def o485 : Obj := fz [22,23] "BytesIO.readinto1"
noncomputable def o486 : Obj := ⟨.type "code",none,.fields #[.str "readinto1" 803,.str "BytesIO.readinto1" 804,.str "/claim/cut.py" 805,.int 268 0,.int 2 0,.int 2 0,.int 0 0,.int 3 0,.ref 481,.bool true,.int 181 0,.ref 482,.none,.ref 483,.ref 484,.ref 485,.int 808 0,.int 268 0,.str "/claim/cut.py" 809],#[]⟩
noncomputable def o487 : Obj := ⟨.type "function",none,(fd (sAt [22,23]) "BytesIO.readinto1" 3 [] .none .none .none (.str "io" 505) none (.ref 486) .none 0),#[]⟩
noncomputable def o488 : Obj := ⟨.type "tuple",none,(.seq #[(.int (-1) 812)] 0),#[]⟩
noncomputable def o491 : Obj := sq #[.str "self" 816,.str "size" 817]
noncomputable def o493 : Obj := fz [22,24] "BytesIO.readline"
noncomputable def o494 : Obj := ⟨.type "code",none,.fields #[.str "readline" 813,.str "BytesIO.readline" 814,.str "/claim/cut.py" 815,.int 271 0,.int 2 0,.int 2 0,.int 0 0,.int 3 0,.ref 489,.bool true,.int 181 0,.ref 490,.none,.ref 491,.ref 492,.ref 493,.int 818 0,.int 271 0,.str "/claim/cut.py" 819],#[]⟩
noncomputable def o495 : Obj := ⟨.type "function",none,(fd (sAt [22,24]) "BytesIO.readline" 3 [] (.ref 488) .none .none (.str "io" 505) none (.ref 494) .none 0),#[]⟩
noncomputable def o496 : Obj := ⟨.type "tuple",none,.seq #[.none] 0,#[]⟩
noncomputable def o499 : Obj := sq #[.str "self" 824,.str "size" 825]
noncomputable def o501 : Obj := fz [22,25] "BytesIO.readlines"
noncomputable def o502 : Obj := ⟨.type "code",none,.fields #[.str "readlines" 821,.str "BytesIO.readlines" 822,.str "/claim/cut.py" 823,.int 278 0,.int 2 0,.int 2 0,.int 0 0,.int 3 0,.ref 497,.bool true,.int 181 0,.ref 498,.none,.ref 499,.ref 500,.ref 501,.int 826 0,.int 278 0,.str "/claim/cut.py" 827],#[]⟩
noncomputable def o503 : Obj := ⟨.type "function",none,(fd (sAt [22,25]) "BytesIO.readlines" 3 [] (.ref 496) .none .none (.str "io" 505) none (.ref 502) .none 0),#[]⟩
noncomputable def o506 : Obj := sq #[.str "self" 832]
noncomputable def o508 : Obj := fz [22,26] "BytesIO.__iter__"
noncomputable def o509 : Obj := ⟨.type "code",none,.fields #[.str "__iter__" 829,.str "BytesIO.__iter__" 830,.str "/claim/cut.py" 831,.int 281 0,.int 1 0,.int 0 0,.int 0 0,.int 3 0,.ref 504,.bool true,.int 181 0,.ref 505,.none,.ref 506,.ref 507,.ref 508,.int 833 0,.int 281 0,.str "/claim/cut.py" 834],#[]⟩
noncomputable def o510 : Obj := ⟨.type "function",none,(fd (sAt [22,26]) "BytesIO.__iter__" 3 [] .none .none .none (.str "io" 505) none (.ref 509) .none 0),#[]⟩
noncomputable def o513 : Obj := sq #[.str "self" 839,.str "line" 840]
noncomputable def o515 : Obj := fz [22,27] "BytesIO.__next__"
noncomputable def o516 : Obj := ⟨.type "code",none,.fields #[.str "__next__" 836,.str "BytesIO.__next__" 837,.str "/claim/cut.py" 838,.int 284 0,.int 1 0,.int 0 0,.int 0 0,.int 3 0,.ref 511,.bool true,.int 181 0,.ref 512,.none,.ref 513,.ref 514,.ref 515,.int 841 0,.int 284 0,.str "/claim/cut.py" 842],#[]⟩
noncomputable def o517 : Obj := ⟨.type "function",none,(fd (sAt [22,27]) "BytesIO.__next__" 3 [] .none .none .none (.str "io" 505) none (.ref 516) .none 0),#[]⟩
noncomputable def o520 : Obj := sq #[.str "self" 847,.str "b" 848,.str "n" 849,.str "start" 850]
noncomputable def o522 : Obj := fz [22,28] "BytesIO.write"
noncomputable def o523 : Obj := ⟨.type "code",none,.fields #[.str "write" 844,.str "BytesIO.write" 845,.str "/claim/cut.py" 846,.int 291 0,.int 2 0,.int 2 0,.int 0 0,.int 3 0,.ref 518,.bool true,.int 181 0,.ref 519,.none,.ref 520,.ref 521,.ref 522,.int 851 0,.int 291 0,.str "/claim/cut.py" 852],#[]⟩
noncomputable def o524 : Obj := ⟨.type "function",none,(fd (sAt [22,28]) "BytesIO.write" 3 [] .none .none .none (.str "io" 505) none (.ref 523) .none 0),#[]⟩
noncomputable def o527 : Obj := sq #[.str "self" 857,.str "lines" 858]
noncomputable def o529 : Obj := fz [22,29] "BytesIO.writelines"
noncomputable def o530 : Obj := ⟨.type "code",none,.fields #[.str "writelines" 854,.str "BytesIO.writelines" 855,.str "/claim/cut.py" 856,.int 307 0,.int 2 0,.int 2 0,.int 0 0,.int 3 0,.ref 525,.bool true,.int 181 0,.ref 526,.none,.ref 527,.ref 528,.ref 529,.int 859 0,.int 307 0,.str "/claim/cut.py" 860],#[]⟩
noncomputable def o531 : Obj := ⟨.type "function",none,(fd (sAt [22,29]) "BytesIO.writelines" 3 [] .none .none .none (.str "io" 505) none (.ref 530) .none 0),#[]⟩
noncomputable def o534 : Obj := sq #[.str "self" 865]
noncomputable def o536 : Obj := fz [22,30] "BytesIO.__repr__"
noncomputable def o537 : Obj := ⟨.type "code",none,.fields #[.str "__repr__" 862,.str "BytesIO.__repr__" 863,.str "/claim/cut.py" 864,.int 310 0,.int 1 0,.int 0 0,.int 0 0,.int 3 0,.ref 532,.bool true,.int 181 0,.ref 533,.none,.ref 534,.ref 535,.ref 536,.int 866 0,.int 310 0,.str "/claim/cut.py" 867],#[]⟩
noncomputable def o538 : Obj := ⟨.type "function",none,(fd (sAt [22,30]) "BytesIO.__repr__" 3 [] .none .none .none (.str "io" 505) none (.ref 537) .none 0),#[]⟩
noncomputable def o539 : Obj := ⟨.type "tuple",none,.seq #[.str "__buf" 869,.str "__pos" 870] 0,#[]⟩
noncomputable def o540 (P : Params) : Obj := ⟨.type "dict",none,(.dict #[en P "__module__" 620 (.str "_io" 625),en P "__firstlineno__" 624 (.int 142 623),en P "__init__" 634 (.ref 328),en P "_BytesIO__check" 641 (.ref 335),en P "_BytesIO__line" 652 (.ref 342),en P "closed" 660 (.ref 350),en P "close" 667 (.ref 357),en P "__enter__" 674 (.ref 364),en P "__exit__" 682 (.ref 371),en P "readable" 689 (.ref 378),en P "writable" 696 (.ref 385),en P "seekable" 703 (.ref 392),en P "isatty" 710 (.ref 399),en P "flush" 717 (.ref 406),en P "fileno" 724 (.ref 413),en P "detach" 731 (.ref 420),en P "getvalue" 738 (.ref 427),en P "getbuffer" 745 (.ref 434),en P "tell" 752 (.ref 441),en P "seek" 762 (.ref 449),en P "truncate" 770 (.ref 457),en P "read" 782 (.ref 465),en P "read1" 792 (.ref 473),en P "readinto" 802 (.ref 480),en P "readinto1" 810 (.ref 487),en P "readline" 820 (.ref 495),en P "readlines" 828 (.ref 503),en P "__iter__" 835 (.ref 510),en P "__next__" 843 (.ref 517),en P "write" 853 (.ref 524),en P "writelines" 861 (.ref 531),en P "__repr__" 868 (.ref 538),en P "__static_attributes__" 871 (.ref 539),en P "__doc__" 872 .none] 2),#[]⟩
noncomputable def o541 : Obj := ⟨.type "type",none,.cls ⟨"BytesIO",[.ref 299],[.ref 541,.ref 299,.ref 284,.type "object"],540,"BytesIO",true,[],[],false,none,false⟩,#[(some (.ref 314)),none,(some (.str "BytesIO" 613)),(some (.str "BytesIO" 621)),(some .none),(some (.bool true))]⟩
noncomputable def o542 : Obj := ⟨.type "super",none,.fields #[.ref 541,.ref 541,.ref 541],#[]⟩
noncomputable def o543 : Obj := ⟨.type "builtin_function_or_method",none,.fields #[.builtin "object.__init_subclass__",.ref 541],#[]⟩
noncomputable def t23 (P : Params) : BT := (Y (o0 P) (Y (o1 P) (Y (o3v4 P) (Y o7 (Y o7 (Y o31 (Y o63 (Y o127 (Y o255 (L o7) Z) (L o383)) (Y (o191 P) (L o319) (L o447))) (Y (o95 P) (Y o159 (Y o287 (L o543) Z) (L o8)) (Y o8 (L o7) (L o479)))) (Y o47 (Y o79 (Y o23 (Y o7 (L o527) Z) (L o399)) (Y o207 (L o335) (L o463))) (Y o111 (Y o175 (L o23) (L o7)) (Y o239 (L o367) (L o495))))) (Y o23 (Y o8 (Y o71 (Y o135 (Y (o263 P) (L o8) Z) (L o391)) (Y o199 (L o327) (L o455))) (Y (o103 P) (Y o167 (L o295) (L o423)) (Y o231 (L o8) (L o487)))) (Y (o55 P) (Y o7 (Y o151 (Y o279 (L o7) Z) (L o7)) (Y o7 (L o7) (L o471))) (Y o7 (Y o8 (L o311) (L o439)) (Y o247 (L o7) (L o503)))))) (Y o7 (Y o19 (Y o35 (Y o8 (Y o8 (Y o8 (L o515) Z) (L o8)) (Y o195 (L o8) (L o7))) (Y o99 (Y (o163 P) (L o23) (L o419)) (Y o7 (L o355) (L o483)))) (Y o8 (Y o7 (Y o147 (Y o7 (L o531) Z) (L o7)) (Y o7 (L o7) (L o7))) (Y o115 (Y o179 (L o307) (L o7)) (Y o243 (L o371) (L o499))))) (Y o27 (Y (o43 P) (Y o75 (Y o139 (Y o267 (L o523) Z) (L o395)) (Y (o203 P) (L o331) (L o7))) (Y o107 (Y o7 (L o299v1) (L o427)) (Y (o235 P) (L o363) (L o491)))) (Y o7 (Y o91 (Y (o155 P) (Y (o283 P) (L o539) Z) (L o411)) (Y o219 (L o347) (L o8))) (Y o7 (Y o187 (L o23) (L o7)) (Y o7 (L o7) (L o7))))))) (Y o5 (Y o9 (Y o17 (Y o33 (Y o65 (Y o129 (Y (o257 P) (L o513) Z) (L o385)) (Y o8 (L o321) (L o449))) (Y o97 (Y o7 (L o289) (L o7)) (Y o225 (L o353) (L o7)))) (Y (o49 P) (Y o8 (Y o7 (Y o273 (L o529) Z) (L o8)) (Y o8 (L o8) (L o465))) (Y o113 (Y o177 (L o7) (L o433)) (Y o7 (L o369) (L o7))))) (Y o7 (Y o41 (Y o7 (Y o137 (Y o265 (L o7) Z) (L o7)) (Y o7 (L o7) (L o457))) (Y o105 (Y o8 (L o297) (L o425)) (Y o233 (L o7) (L o7)))) (Y o57 (Y o89 (Y o153 (Y o281 (L o537) Z) (L o409)) (Y o217 (L o345) (L o473))) (Y o121 (Y o7 (L o313) (L o441)) (Y o8 (L o377) (L o8)))))) (Y o13 (Y o21 (Y (o37 P) (Y o7 (Y o133 (Y o261 (L o517) Z) (L o7)) (Y (o197 P) (L o7) (L o453))) (Y o7 (Y o165 (L o7) (L o7)) (Y o229 (L o357) (L o485)))) (Y o53 (Y o85 (Y o7 (Y o277 (L o8) Z) (L o405)) (Y o213 (L o341) (L o469))) (Y o8 (Y o181 (L o309) (L o437)) (Y o245 (L o8) (L o501))))) (Y o29 (Y o45 (Y o77 (Y o141 (Y o23 (L o7) Z) (L o397)) (Y o205 (L o333) (L o461))) (Y o7 (Y o173 (L o301) (L o8)) (Y o237 (L o7) (L o493)))) (Y (o61 P) (Y o93 (Y o157 (Y o285 (L o541) Z) (L o413)) (Y o221 (L o349) (L o7))) (Y o125 (Y o189 (L o7) (L o445)) (Y o253 (L o381) (L o509)))))))) (Y (o2v2 P) (Y o4 (Y o8 (Y o8 (Y o32 (Y o64 (Y o128 (Y o23 (L o8) Z) (L o384)) (Y o7 (L o320) (L o448))) (Y o96 (Y o160 (L o288) (L o416)) (Y o224 (L o8) (L o480)))) (Y o23 (Y o7 (Y (o144 P) (Y o272 (L o7) Z) (L o7)) (Y o7 (L o7) (L o464))) (Y o7 (Y (o176 P) (L (o304 P)) (L o432)) (Y o240 (L o7) (L o496))))) (Y (o24 P) (Y o40 (Y o72 (Y (o136 P) (Y o264 (L o520) Z) (L o392)) (Y o200 (L o328) (L o456))) (Y o7 (Y o7 (L o296) (L o7)) (Y o232 (L o360) (L o488)))) (Y o56 (Y o8 (Y o152 (Y o280 (L o536) Z) (L o8)) (Y o8 (L o8) (L o472))) (Y o120 (Y o184 (L o312) (L o440)) (Y o7 (L o376) (L o7)))))) (Y o12v4 (Y o20 (Y o23 (Y o68 (Y o132 (Y o260 (L o516) Z) (L o388)) (Y o196 (L o324) (L o8))) (Y o100 (Y o7 (L (o292 P)) (L o420)) (Y o8 (L o356) (L o7)))) (Y o52 (Y o84 (Y o148 (Y o8 (L o7) Z) (L o404)) (Y o212 (L o340) (L o8))) (Y o7 (Y o180 (L o308) (L o8)) (Y o7 (L o7) (L o7))))) (Y o28 (Y o44v1 (Y o7 (Y o140 (Y o7 (L o524) Z) (L o7)) (Y o7 (L o7) (L o8))) (Y o108 (Y o172 (L o300) (L o7)) (Y o236 (L o364) (L o7)))) (Y o23 (Y o92 (Y o156 (Y o284 (L (o540 P)) Z) (L o412)) (Y o220 (L o348) (L o476))) (Y o8 (Y o188 (L (o316 P)) (L o8)) (Y o252 (L o8) (L o508))))))) (Y o6 (Y o10 (Y o7 (Y o34 (Y o7 (Y o7 (Y o7 (L o7) Z) (L o7)) (Y o194 (L o7) (L o450))) (Y o98 (Y o23 (L o290) (L o418)) (Y o226 (L o7) (L o8)))) (Y o7 (Y o82 (Y o146 (Y o274 (L o530) Z) (L o402)) (Y o210 (L o338) (L o466))) (Y o114 (Y o178 (L o8) (L o434)) (Y o8 (L o370) (L o8))))) (Y o8 (Y o42 (Y o8 (Y o138 (Y o266 (L o522) Z) (L o8)) (Y o23 (L o8) (L o458))) (Y o106 (Y o170 (L (o298 P)) (L o426)) (Y o234 (L o362) (L o8)))) (Y o58 (Y o7 (Y o7 (Y o282 (L o538) Z) (L o7)) (Y o7 (L o7) (L o7))) (Y o122 (Y o186 (L o314) (L o442)) (Y o250 (L o378) (L o506)))))) (Y o14 (Y o22 (Y o7 (Y o70 (Y o134 (Y o7 (L o7) Z) (L o390)) (Y o198 (L o326) (L o7))) (Y o23 (Y o166 (L o8) (L o8)) (Y o7 (L o7) (L o486)))) (Y o54 (Y o86 (Y o8 (Y o7 (L o534) Z) (L o406)) (Y o214 (L o342) (L o7))) (Y o118 (Y o7 (L (o310 P)) (L o7)) (Y o246 (L o374) (L o502))))) (Y (o30 P) (Y o46 (Y o78 (Y o7 (Y (o270 P) (L o8) Z) (L o398)) (Y o206 (L o334) (L o7))) (Y o8 (Y o174 (L o290) (L o430)) (Y o238 (L o8) (L o494)))) (Y o7 (Y o94 (Y o158 (Y o286 (L o542) Z) (L o7)) (Y o7 (L o350) (L o478))) (Y o7 (Y o23 (L o318) (L o7)) (Y o254 (L o7) (L o510)))))))))
noncomputable def s23 (w : World) (os : OsState) : SharedT := ⟨t23 w.params, 544, lf, #[], dr, 875, os⟩
noncomputable def o3v5 (P : Params) : Obj := ⟨.type "dict",none,(.dict #[en P "__name__" 165 (.str "io" 505),en P "__doc__" 166 .none,en P "__package__" 167 .none,en P "__loader__" 168 (.builtin "__main__.__loader__#opaque"),en P "__spec__" 169 .none,en P "__annotations__" 170 (.ref 6),en P "__builtins__" 171 (.ref 4),en P "__file__" 173 (.str "/claim/cut.py" 172),en P "__cached__" 174 .none,en P "_wall" 193 (.ref 21),en P "PSException" 215 (.ref 31),en P "PDFException" 233 (.ref 44),en P "PDFEOFError" 251 (.ref 56),en P "Found" 308 (.ref 96),en P "Signs" 363 (.ref 137),en P "HexPairs" 389 (.ref 156),en P "Real" 420 (.ref 177),en P "cast" 428 (.ref 188),en P "CorruptDataError" 446 (.ref 198),en P "LZWDecoder" 504 (.ref 236),en P "_whence" 514 (.ref 247),en P "_index" 522 (.ref 254),en P "UnsupportedOperation" 544 (.ref 264),en P "IOBase" 576 (.ref 284),en P "BufferedIOBase" 594 (.ref 299),en P "TextIOBase" 612 (.ref 311),en P "BytesIO" 874 (.ref 541),en P "StringIO" 1161 (.ref 788)] 28),#[]⟩
noncomputable def o12v5 : Obj := fl #[.int 1 0,.int 0 0,.ref 20,.int 5 0,.int 0 0,.ref 27,.int 8 0,.int 0 0,.ref 40,.int 10 0,.int 0 0,.ref 52,.int 13 0,.int 0 0,.ref 64,.int 26 0,.int 0 0,.ref 106,.int 41 0,.int 0 0,.ref 147,.int 45 0,.int 0 0,.ref 166,.int 50 0,.int 0 0,.ref 187,.int 53 0,.int 0 0,.ref 194,.int 55 0,.int 0 0,.ref 206,.int 117 0,.int 0 0,.ref 246,.int 122 0,.int 0 0,.ref 253,.int 129 0,.int 0 0,.ref 260,.int 131 0,.int 0 0,.ref 273,.int 138 0,.int 0 0,.ref 295,.int 140 0,.int 0 0,.ref 307,.int 142 0,.int 0 0,.ref 319,.int 312 0,.int 0 0,.ref 549]
noncomputable def o311v1 : Obj := ⟨.type "type",none,.cls ⟨"TextIOBase",[.ref 284],[.ref 311,.ref 284,.type "object"],310,"TextIOBase",true,[],[.ref 788],false,none,false⟩,#[(some (.ref 302)),none,(some (.str "TextIOBase" 595)),(some (.str "TextIOBase" 603)),(some .none),(some (.bool true))]⟩
noncomputable def o544 : Obj := sq #[.ref 311]
noncomputable def o546 (P : Params) : Obj := ⟨.type "dict",none,(.dict #[en P "__module__" 882 (.str "_io" 887),en P "__qualname__" 884 (.str "StringIO" 883),en P "__firstlineno__" 886 (.int 312 885),en P "__init__" 899 (.ref 558),en P "_StringIO__translated" 908 (.ref 565),en P "_StringIO__check" 915 (.ref 572),en P "_StringIO__check_dot" 922 (.ref 579),en P "_StringIO__line" 937 (.ref 586),en P "closed" 945 (.ref 594),en P "line_buffering" 953 (.ref 602),en P "newlines" 961 (.ref 610),en P "encoding" 969 (.ref 618),en P "errors" 977 (.ref 626),en P "close" 984 (.ref 633),en P "__enter__" 991 (.ref 640),en P "__exit__" 999 (.ref 647),en P "readable" 1006 (.ref 654),en P "writable" 1013 (.ref 661),en P "seekable" 1020 (.ref 668),en P "isatty" 1027 (.ref 675),en P "flush" 1034 (.ref 682),en P "fileno" 1041 (.ref 689),en P "detach" 1048 (.ref 696),en P "getvalue" 1055 (.ref 703),en P "tell" 1062 (.ref 710),en P "seek" 1072 (.ref 718),en P "truncate" 1080 (.ref 726),en P "read" 1092 (.ref 734),en P "readline" 1102 (.ref 742),en P "readlines" 1112 (.ref 750),en P "__iter__" 1119 (.ref 757),en P "__next__" 1127 (.ref 764),en P "write" 1139 (.ref 771),en P "writelines" 1147 (.ref 778),en P "__repr__" 1154 (.ref 785),en P "__static_attributes__" 1158 (.ref 786)] 36),#[]⟩
noncomputable def o548 : Obj := fl #[.int 315 0,.int 4 0,.ref 557,.int 328 0,.int 4 0,.ref 564,.int 336 0,.int 4 0,.ref 571,.int 340 0,.int 4 0,.ref 578,.int 344 0,.int 4 0,.ref 585,.int 377 0,.int 4 0,.ref 592,.int 381 0,.int 4 0,.ref 600,.int 385 0,.int 4 0,.ref 608,.int 389 0,.int 4 0,.ref 616,.int 393 0,.int 4 0,.ref 624,.int 396 0,.int 4 0,.ref 632,.int 399 0,.int 4 0,.ref 639,.int 403 0,.int 4 0,.ref 646,.int 406 0,.int 4 0,.ref 653,.int 410 0,.int 4 0,.ref 660,.int 414 0,.int 4 0,.ref 667,.int 418 0,.int 4 0,.ref 674,.int 422 0,.int 4 0,.ref 681,.int 425 0,.int 4 0,.ref 688,.int 428 0,.int 4 0,.ref 695,.int 431 0,.int 4 0,.ref 702,.int 434 0,.int 4 0,.ref 709,.int 438 0,.int 4 0,.ref 717,.int 455 0,.int 4 0,.ref 725,.int 458 0,.int 4 0,.ref 733,.int 472 0,.int 4 0,.ref 741,.int 479 0,.int 4 0,.ref 749,.int 482 0,.int 4 0,.ref 756,.int 486 0,.int 4 0,.ref 763,.int 493 0,.int 4 0,.ref 770,.int 512 0,.int 4 0,.ref 777,.int 515 0,.int 4 0,.ref 784]
noncomputable def o549 : Obj := cd #[.str "StringIO" 877,.str "StringIO" 878,.str "/claim/cut.py" 879,.int 312 0,.int 0 0,.int 0 0,.int 0 0,.int 0 0,.ref 547,.bool false,.int 181 0,.ref 548,.none,.none,.none,.none,.int 880 0,.int 312 0,.str "/claim/cut.py" 881]
noncomputable def o550 : Obj := ⟨.type "frame",none,.plain,#[(some (.ref 549)),(some (.ref 3)),(some (.ref 546)),none,(some (.str "io" 505)),none,(some (.ref 0))]⟩
noncomputable def o551 : Obj := ⟨.type "tuple",none,.seq #[.str "" 889,.str "\n" 890] 0,#[]⟩
noncomputable def o554 : Obj := sq #[.str "self" 894,.str "initial_value" 895,.str "newline" 896]
noncomputable def o556 : Obj := fz [23,1] "StringIO.__init__"
noncomputable def o557 : Obj := ⟨.type "code",none,.fields #[.str "__init__" 891,.str "StringIO.__init__" 892,.str "/claim/cut.py" 893,.int 315 0,.int 3 0,.int 0 0,.int 0 0,.int 3 0,.ref 552,.bool true,.int 181 0,.ref 553,.none,.ref 554,.ref 555,.ref 556,.int 897 0,.int 315 0,.str "/claim/cut.py" 898],#[]⟩
noncomputable def o558 : Obj := ⟨.type "function",none,(fd (sAt [23,1]) "StringIO.__init__" 3 [] (.ref 551) .none .none (.str "io" 505) none (.ref 557) .none 0),#[]⟩
noncomputable def o561 : Obj := sq #[.str "self" 903,.str "s" 904,.str "newline" 905]
noncomputable def o563 : Obj := fz [23,2] "StringIO.__translated"
noncomputable def o564 : Obj := ⟨.type "code",none,.fields #[.str "__translated" 900,.str "StringIO.__translated" 901,.str "/claim/cut.py" 902,.int 328 0,.int 2 0,.int 0 0,.int 0 0,.int 3 0,.ref 559,.bool true,.int 181 0,.ref 560,.none,.ref 561,.ref 562,.ref 563,.int 906 0,.int 328 0,.str "/claim/cut.py" 907],#[]⟩
noncomputable def o565 : Obj := ⟨.type "function",none,(fd (sAt [23,2]) "StringIO.__translated" 3 [] .none .none .none (.str "io" 505) none (.ref 564) .none 0),#[]⟩
noncomputable def o568 : Obj := sq #[.str "self" 912]
noncomputable def o570 : Obj := fz [23,3] "StringIO.__check"
noncomputable def o571 : Obj := ⟨.type "code",none,.fields #[.str "__check" 909,.str "StringIO.__check" 910,.str "/claim/cut.py" 911,.int 336 0,.int 1 0,.int 0 0,.int 0 0,.int 3 0,.ref 566,.bool true,.int 181 0,.ref 567,.none,.ref 568,.ref 569,.ref 570,.int 913 0,.int 336 0,.str "/claim/cut.py" 914],#[]⟩
noncomputable def o572 : Obj := ⟨.type "function",none,(fd (sAt [23,3]) "StringIO.__check" 3 [] .none .none .none (.str "io" 505) none (.ref 571) .none 0),#[]⟩
noncomputable def o575 : Obj := sq #[.str "self" 919]
noncomputable def o577 : Obj := fz [23,4] "StringIO.__check_dot"
noncomputable def o578 : Obj := ⟨.type "code",none,.fields #[.str "__check_dot" 916,.str "StringIO.__check_dot" 917,.str "/claim/cut.py" 918,.int 340 0,.int 1 0,.int 0 0,.int 0 0,.int 3 0,.ref 573,.bool true,.int 181 0,.ref 574,.none,.ref 575,.ref 576,.ref 577,.int 920 0,.int 340 0,.str "/claim/cut.py" 921],#[]⟩
noncomputable def o579 : Obj := ⟨.type "function",none,(fd (sAt [23,4]) "StringIO.__check_dot" 3 [] .none .none .none (.str "io" 505) none (.ref 578) .none 0),#[]⟩
noncomputable def o582 : Obj := sq #[.str "self" 926,.str "limit" 927,.str "start" 928,.str "stop" 929,.str "cut" 930,.str "newline" 931,.str "i" 932,.str "j" 933,.str "end" 934]
noncomputable def o584 : Obj := fz [23,5] "StringIO.__line"
noncomputable def o585 : Obj := ⟨.type "code",none,.fields #[.str "__line" 923,.str "StringIO.__line" 924,.str "/claim/cut.py" 925,.int 344 0,.int 2 0,.int 0 0,.int 0 0,.int 3 0,.ref 580,.bool true,.int 181 0,.ref 581,.none,.ref 582,.ref 583,.ref 584,.int 935 0,.int 344 0,.str "/claim/cut.py" 936],#[]⟩
noncomputable def o586 : Obj := ⟨.type "function",none,(fd (sAt [23,5]) "StringIO.__line" 3 [] .none .none .none (.str "io" 505) none (.ref 585) .none 0),#[]⟩
noncomputable def o589 : Obj := sq #[.str "self" 941]
noncomputable def o591 : Obj := fz [23,6] "StringIO.closed"
noncomputable def o592 : Obj := cd #[.str "closed" 938,.str "StringIO.closed" 939,.str "/claim/cut.py" 940,.int 376 0,.int 1 0,.int 0 0,.int 0 0,.int 3 0,.ref 587,.bool true,.int 181 0,.ref 588,.none,.ref 589,.ref 590,.ref 591,.int 942 0,.int 376 0,.str "/claim/cut.py" 943]
noncomputable def o593 : Obj := ⟨.type "function",none,(fd (sAt [23,6]) "StringIO.closed" 3 [] .none .none .none (.str "io" 505) none (.ref 592) .none 0),#[]⟩
noncomputable def o594 : Obj := ⟨.type "property",none,.fields #[.ref 593,.none,.none,.none,.str "closed" 945,.bool false],#[]⟩
noncomputable def o597 : Obj := sq #[.str "self" 949]
noncomputable def o599 : Obj := fz [23,7] "StringIO.line_buffering"
noncomputable def o600 : Obj := cd #[.str "line_buffering" 946,.str "StringIO.line_buffering" 947,.str "/claim/cut.py" 948,.int 380 0,.int 1 0,.int 0 0,.int 0 0,.int 3 0,.ref 595,.bool true,.int 181 0,.ref 596,.none,.ref 597,.ref 598,.ref 599,.int 950 0,.int 380 0,.str "/claim/cut.py" 951]
noncomputable def o601 : Obj := ⟨.type "function",none,(fd (sAt [23,7]) "StringIO.line_buffering" 3 [] .none .none .none (.str "io" 505) none (.ref 600) .none 0),#[]⟩
noncomputable def o602 : Obj := ⟨.type "property",none,.fields #[.ref 601,.none,.none,.none,.str "line_buffering" 953,.bool false],#[]⟩
noncomputable def o605 : Obj := sq #[.str "self" 957]
noncomputable def o607 : Obj := fz [23,8] "StringIO.newlines"
noncomputable def o608 : Obj := cd #[.str "newlines" 954,.str "StringIO.newlines" 955,.str "/claim/cut.py" 956,.int 384 0,.int 1 0,.int 0 0,.int 0 0,.int 3 0,.ref 603,.bool true,.int 181 0,.ref 604,.none,.ref 605,.ref 606,.ref 607,.int 958 0,.int 384 0,.str "/claim/cut.py" 959]
noncomputable def o609 : Obj := ⟨.type "function",none,(fd (sAt [23,8]) "StringIO.newlines" 3 [] .none .none .none (.str "io" 505) none (.ref 608) .none 0),#[]⟩
noncomputable def o610 : Obj := ⟨.type "property",none,.fields #[.ref 609,.none,.none,.none,.str "newlines" 961,.bool false],#[]⟩
noncomputable def o613 : Obj := sq #[.str "self" 965]
noncomputable def o615 : Obj := fz [23,9] "StringIO.encoding"
noncomputable def o616 : Obj := cd #[.str "encoding" 962,.str "StringIO.encoding" 963,.str "/claim/cut.py" 964,.int 388 0,.int 1 0,.int 0 0,.int 0 0,.int 3 0,.ref 611,.bool true,.int 181 0,.ref 612,.none,.ref 613,.ref 614,.ref 615,.int 966 0,.int 388 0,.str "/claim/cut.py" 967]
noncomputable def o617 : Obj := ⟨.type "function",none,(fd (sAt [23,9]) "StringIO.encoding" 3 [] .none .none .none (.str "io" 505) none (.ref 616) .none 0),#[]⟩
noncomputable def o618 : Obj := ⟨.type "property",none,.fields #[.ref 617,.none,.none,.none,.str "encoding" 969,.bool false],#[]⟩
noncomputable def o621 : Obj := sq #[.str "self" 973]
noncomputable def o623 : Obj := fz [23,10] "StringIO.errors"
noncomputable def o624 : Obj := cd #[.str "errors" 970,.str "StringIO.errors" 971,.str "/claim/cut.py" 972,.int 392 0,.int 1 0,.int 0 0,.int 0 0,.int 3 0,.ref 619,.bool true,.int 181 0,.ref 620,.none,.ref 621,.ref 622,.ref 623,.int 974 0,.int 392 0,.str "/claim/cut.py" 975]
noncomputable def o625 : Obj := ⟨.type "function",none,(fd (sAt [23,10]) "StringIO.errors" 3 [] .none .none .none (.str "io" 505) none (.ref 624) .none 0),#[]⟩
noncomputable def o626 : Obj := ⟨.type "property",none,.fields #[.ref 625,.none,.none,.none,.str "errors" 977,.bool false],#[]⟩
noncomputable def o629 : Obj := sq #[.str "self" 981]
noncomputable def o631 : Obj := fz [23,11] "StringIO.close"
noncomputable def o632 : Obj := ⟨.type "code",none,.fields #[.str "close" 978,.str "StringIO.close" 979,.str "/claim/cut.py" 980,.int 396 0,.int 1 0,.int 0 0,.int 0 0,.int 3 0,.ref 627,.bool true,.int 181 0,.ref 628,.none,.ref 629,.ref 630,.ref 631,.int 982 0,.int 396 0,.str "/claim/cut.py" 983],#[]⟩
noncomputable def o633 : Obj := ⟨.type "function",none,(fd (sAt [23,11]) "StringIO.close" 3 [] .none .none .none (.str "io" 505) none (.ref 632) .none 0),#[]⟩
noncomputable def o636 : Obj := sq #[.str "self" 988]
noncomputable def o638 : Obj := fz [23,12] "StringIO.__enter__"
noncomputable def o639 : Obj := ⟨.type "code",none,.fields #[.str "__enter__" 985,.str "StringIO.__enter__" 986,.str "/claim/cut.py" 987,.int 399 0,.int 1 0,.int 0 0,.int 0 0,.int 3 0,.ref 634,.bool true,.int 181 0,.ref 635,.none,.ref 636,.ref 637,.ref 638,.int 989 0,.int 399 0,.str "/claim/cut.py" 990],#[]⟩
noncomputable def o640 : Obj := ⟨.type "function",none,(fd (sAt [23,12]) "StringIO.__enter__" 3 [] .none .none .none (.str "io" 505) none (.ref 639) .none 0),#[]⟩
noncomputable def o643 : Obj := sq #[.str "self" 995,.str "args" 996]
noncomputable def o645 : Obj := fz [23,13] "StringIO.__exit__"
noncomputable def o646 : Obj := ⟨.type "code",none,.fields #[.str "__exit__" 992,.str "StringIO.__exit__" 993,.str "/claim/cut.py" 994,.int 403 0,.int 1 0,.int 0 0,.int 0 0,.int 7 0,.ref 641,.bool true,.int 181 0,.ref 642,.none,.ref 643,.ref 644,.ref 645,.int 997 0,.int 403 0,.str "/claim/cut.py" 998],#[]⟩
noncomputable def o647 : Obj := ⟨.type "function",none,(fd (sAt [23,13]) "StringIO.__exit__" 3 [] .none .none .none (.str "io" 505) none (.ref 646) .none 0),#[]⟩
noncomputable def o650 : Obj := sq #[.str "self" 1003]
noncomputable def o652 : Obj := fz [23,14] "StringIO.readable"
noncomputable def o653 : Obj := ⟨.type "code",none,.fields #[.str "readable" 1000,.str "StringIO.readable" 1001,.str "/claim/cut.py" 1002,.int 406 0,.int 1 0,.int 0 0,.int 0 0,.int 3 0,.ref 648,.bool true,.int 181 0,.ref 649,.none,.ref 650,.ref 651,.ref 652,.int 1004 0,.int 406 0,.str "/claim/cut.py" 1005],#[]⟩
noncomputable def o654 : Obj := ⟨.type "function",none,(fd (sAt [23,14]) "StringIO.readable" 3 [] .none .none .none (.str "io" 505) none (.ref 653) .none 0),#[]⟩
noncomputable def o657 : Obj := sq #[.str "self" 1010]
noncomputable def o659 : Obj := fz [23,15] "StringIO.writable"
noncomputable def o660 : Obj := ⟨.type "code",none,.fields #[.str "writable" 1007,.str "StringIO.writable" 1008,.str "/claim/cut.py" 1009,.int 410 0,.int 1 0,.int 0 0,.int 0 0,.int 3 0,.ref 655,.bool true,.int 181 0,.ref 656,.none,.ref 657,.ref 658,.ref 659,.int 1011 0,.int 410 0,.str "/claim/cut.py" 1012],#[]⟩
noncomputable def o661 : Obj := ⟨.type "function",none,(fd (sAt [23,15]) "StringIO.writable" 3 [] .none .none .none (.str "io" 505) none (.ref 660) .none 0),#[]⟩
noncomputable def o664 : Obj := sq #[.str "self" 1017]
noncomputable def o666 : Obj := fz [23,16] "StringIO.seekable"
noncomputable def o667 : Obj := ⟨.type "code",none,.fields #[.str "seekable" 1014,.str "StringIO.seekable" 1015,.str "/claim/cut.py" 1016,.int 414 0,.int 1 0,.int 0 0,.int 0 0,.int 3 0,.ref 662,.bool true,.int 181 0,.ref 663,.none,.ref 664,.ref 665,.ref 666,.int 1018 0,.int 414 0,.str "/claim/cut.py" 1019],#[]⟩
noncomputable def o668 : Obj := ⟨.type "function",none,(fd (sAt [23,16]) "StringIO.seekable" 3 [] .none .none .none (.str "io" 505) none (.ref 667) .none 0),#[]⟩
noncomputable def o671 : Obj := sq #[.str "self" 1024]
noncomputable def o673 : Obj := fz [23,17] "StringIO.isatty"
noncomputable def o674 : Obj := ⟨.type "code",none,.fields #[.str "isatty" 1021,.str "StringIO.isatty" 1022,.str "/claim/cut.py" 1023,.int 418 0,.int 1 0,.int 0 0,.int 0 0,.int 3 0,.ref 669,.bool true,.int 181 0,.ref 670,.none,.ref 671,.ref 672,.ref 673,.int 1025 0,.int 418 0,.str "/claim/cut.py" 1026],#[]⟩
noncomputable def o675 : Obj := ⟨.type "function",none,(fd (sAt [23,17]) "StringIO.isatty" 3 [] .none .none .none (.str "io" 505) none (.ref 674) .none 0),#[]⟩
noncomputable def o678 : Obj := sq #[.str "self" 1031]
noncomputable def o680 : Obj := fz [23,18] "StringIO.flush"
noncomputable def o681 : Obj := ⟨.type "code",none,.fields #[.str "flush" 1028,.str "StringIO.flush" 1029,.str "/claim/cut.py" 1030,.int 422 0,.int 1 0,.int 0 0,.int 0 0,.int 3 0,.ref 676,.bool true,.int 181 0,.ref 677,.none,.ref 678,.ref 679,.ref 680,.int 1032 0,.int 422 0,.str "/claim/cut.py" 1033],#[]⟩
noncomputable def o682 : Obj := ⟨.type "function",none,(fd (sAt [23,18]) "StringIO.flush" 3 [] .none .none .none (.str "io" 505) none (.ref 681) .none 0),#[]⟩
noncomputable def o685 : Obj := sq #[.str "self" 1038]
noncomputable def o687 : Obj := fz [23,19] "StringIO.fileno"
noncomputable def o688 : Obj := ⟨.type "code",none,.fields #[.str "fileno" 1035,.str "StringIO.fileno" 1036,.str "/claim/cut.py" 1037,.int 425 0,.int 1 0,.int 0 0,.int 0 0,.int 3 0,.ref 683,.bool true,.int 181 0,.ref 684,.none,.ref 685,.ref 686,.ref 687,.int 1039 0,.int 425 0,.str "/claim/cut.py" 1040],#[]⟩
noncomputable def o689 : Obj := ⟨.type "function",none,(fd (sAt [23,19]) "StringIO.fileno" 3 [] .none .none .none (.str "io" 505) none (.ref 688) .none 0),#[]⟩
noncomputable def o692 : Obj := sq #[.str "self" 1045]
noncomputable def o694 : Obj := fz [23,20] "StringIO.detach"
noncomputable def o695 : Obj := ⟨.type "code",none,.fields #[.str "detach" 1042,.str "StringIO.detach" 1043,.str "/claim/cut.py" 1044,.int 428 0,.int 1 0,.int 0 0,.int 0 0,.int 3 0,.ref 690,.bool true,.int 181 0,.ref 691,.none,.ref 692,.ref 693,.ref 694,.int 1046 0,.int 428 0,.str "/claim/cut.py" 1047],#[]⟩
noncomputable def o696 : Obj := ⟨.type "function",none,(fd (sAt [23,20]) "StringIO.detach" 3 [] .none .none .none (.str "io" 505) none (.ref 695) .none 0),#[]⟩
noncomputable def o699 : Obj := sq #[.str "self" 1052]
noncomputable def o701 : Obj := fz [23,21] "StringIO.getvalue"
noncomputable def o702 : Obj := ⟨.type "code",none,.fields #[.str "getvalue" 1049,.str "StringIO.getvalue" 1050,.str "/claim/cut.py" 1051,.int 431 0,.int 1 0,.int 0 0,.int 0 0,.int 3 0,.ref 697,.bool true,.int 181 0,.ref 698,.none,.ref 699,.ref 700,.ref 701,.int 1053 0,.int 431 0,.str "/claim/cut.py" 1054],#[]⟩
noncomputable def o703 : Obj := ⟨.type "function",none,(fd (sAt [23,21]) "StringIO.getvalue" 3 [] .none .none .none (.str "io" 505) none (.ref 702) .none 0),#[]⟩
noncomputable def o706 : Obj := sq #[.str "self" 1059]
noncomputable def o708 : Obj := fz [23,22] "StringIO.tell"
noncomputable def o709 : Obj := ⟨.type "code",none,.fields #[.str "tell" 1056,.str "StringIO.tell" 1057,.str "/claim/cut.py" 1058,.int 434 0,.int 1 0,.int 0 0,.int 0 0,.int 3 0,.ref 704,.bool true,.int 181 0,.ref 705,.none,.ref 706,.ref 707,.ref 708,.int 1060 0,.int 434 0,.str "/claim/cut.py" 1061],#[]⟩
noncomputable def o710 : Obj := ⟨.type "function",none,(fd (sAt [23,22]) "StringIO.tell" 3 [] .none .none .none (.str "io" 505) none (.ref 709) .none 0),#[]⟩
noncomputable def o711 : Obj := ⟨.type "tuple",none,.seq #[.int 0 1063] 0,#[]⟩
noncomputable def o714 : Obj := sq #[.str "self" 1067,.str "pos" 1068,.str "whence" 1069]
noncomputable def o716 : Obj := fz [23,23] "StringIO.seek"
noncomputable def o717 : Obj := ⟨.type "code",none,.fields #[.str "seek" 1064,.str "StringIO.seek" 1065,.str "/claim/cut.py" 1066,.int 438 0,.int 3 0,.int 3 0,.int 0 0,.int 3 0,.ref 712,.bool true,.int 181 0,.ref 713,.none,.ref 714,.ref 715,.ref 716,.int 1070 0,.int 438 0,.str "/claim/cut.py" 1071],#[]⟩
noncomputable def o718 : Obj := ⟨.type "function",none,(fd (sAt [23,23]) "StringIO.seek" 3 [] (.ref 711) .none .none (.str "io" 505) none (.ref 717) .none 0),#[]⟩
noncomputable def o719 : Obj := ⟨.type "tuple",none,.seq #[.none] 0,#[]⟩
noncomputable def o722 : Obj := sq #[.str "self" 1076,.str "pos" 1077]
noncomputable def o724 : Obj := fz [23,24] "StringIO.truncate"
noncomputable def o725 : Obj := ⟨.type "code",none,.fields #[.str "truncate" 1073,.str "StringIO.truncate" 1074,.str "/claim/cut.py" 1075,.int 455 0,.int 2 0,.int 2 0,.int 0 0,.int 3 0,.ref 720,.bool true,.int 181 0,.ref 721,.none,.ref 722,.ref 723,.ref 724,.int 1078 0,.int 455 0,.str "/claim/cut.py" 1079],#[]⟩
noncomputable def o726 : Obj := ⟨.type "function",none,(fd (sAt [23,24]) "StringIO.truncate" 3 [] (.ref 719) .none .none (.str "io" 505) none (.ref 725) .none 0),#[]⟩
noncomputable def o727 : Obj := ⟨.type "tuple",none,(.seq #[(.int (-1) 1082)] 0),#[]⟩
noncomputable def o730 : Obj := sq #[.str "self" 1086,.str "size" 1087,.str "start" 1088,.str "stop" 1089]
noncomputable def o732 : Obj := fz [23,25] "StringIO.read"
noncomputable def o733 : Obj := ⟨.type "code",none,.fields #[.str "read" 1083,.str "StringIO.read" 1084,.str "/claim/cut.py" 1085,.int 458 0,.int 2 0,.int 2 0,.int 0 0,.int 3 0,.ref 728,.bool true,.int 181 0,.ref 729,.none,.ref 730,.ref 731,.ref 732,.int 1090 0,.int 458 0,.str "/claim/cut.py" 1091],#[]⟩
noncomputable def o734 : Obj := ⟨.type "function",none,(fd (sAt [23,25]) "StringIO.read" 3 [] (.ref 727) .none .none (.str "io" 505) none (.ref 733) .none 0),#[]⟩
noncomputable def o735 : Obj := ⟨.type "tuple",none,(.seq #[(.int (-1) 1094)] 0),#[]⟩
noncomputable def o738 : Obj := sq #[.str "self" 1098,.str "size" 1099]
noncomputable def o740 : Obj := fz [23,26] "StringIO.readline"
noncomputable def o741 : Obj := ⟨.type "code",none,.fields #[.str "readline" 1095,.str "StringIO.readline" 1096,.str "/claim/cut.py" 1097,.int 472 0,.int 2 0,.int 2 0,.int 0 0,.int 3 0,.ref 736,.bool true,.int 181 0,.ref 737,.none,.ref 738,.ref 739,.ref 740,.int 1100 0,.int 472 0,.str "/claim/cut.py" 1101],#[]⟩
noncomputable def o742 : Obj := ⟨.type "function",none,(fd (sAt [23,26]) "StringIO.readline" 3 [] (.ref 735) .none .none (.str "io" 505) none (.ref 741) .none 0),#[]⟩
noncomputable def o743 : Obj := ⟨.type "tuple",none,(.seq #[(.int (-1) 1104)] 0),#[]⟩
noncomputable def o746 : Obj := sq #[.str "self" 1108,.str "hint" 1109]
noncomputable def o748 : Obj := fz [23,27] "StringIO.readlines"
noncomputable def o749 : Obj := ⟨.type "code",none,.fields #[.str "readlines" 1105,.str "StringIO.readlines" 1106,.str "/claim/cut.py" 1107,.int 479 0,.int 2 0,.int 2 0,.int 0 0,.int 3 0,.ref 744,.bool true,.int 181 0,.ref 745,.none,.ref 746,.ref 747,.ref 748,.int 1110 0,.int 479 0,.str "/claim/cut.py" 1111],#[]⟩
noncomputable def o750 : Obj := ⟨.type "function",none,(fd (sAt [23,27]) "StringIO.readlines" 3 [] (.ref 743) .none .none (.str "io" 505) none (.ref 749) .none 0),#[]⟩
noncomputable def o753 : Obj := sq #[.str "self" 1116]
noncomputable def o755 : Obj := fz [23,28] "StringIO.__iter__"
noncomputable def o756 : Obj := ⟨.type "code",none,.fields #[.str "__iter__" 1113,.str "StringIO.__iter__" 1114,.str "/claim/cut.py" 1115,.int 482 0,.int 1 0,.int 0 0,.int 0 0,.int 3 0,.ref 751,.bool true,.int 181 0,.ref 752,.none,.ref 753,.ref 754,.ref 755,.int 1117 0,.int 482 0,.str "/claim/cut.py" 1118],#[]⟩
noncomputable def o757 : Obj := ⟨.type "function",none,(fd (sAt [23,28]) "StringIO.__iter__" 3 [] .none .none .none (.str "io" 505) none (.ref 756) .none 0),#[]⟩
noncomputable def o760 : Obj := sq #[.str "self" 1123,.str "line" 1124]
noncomputable def o762 : Obj := fz [23,29] "StringIO.__next__"
noncomputable def o763 : Obj := ⟨.type "code",none,.fields #[.str "__next__" 1120,.str "StringIO.__next__" 1121,.str "/claim/cut.py" 1122,.int 486 0,.int 1 0,.int 0 0,.int 0 0,.int 3 0,.ref 758,.bool true,.int 181 0,.ref 759,.none,.ref 760,.ref 761,.ref 762,.int 1125 0,.int 486 0,.str "/claim/cut.py" 1126],#[]⟩
noncomputable def o764 : Obj := ⟨.type "function",none,(fd (sAt [23,29]) "StringIO.__next__" 3 [] .none .none .none (.str "io" 505) none (.ref 763) .none 0),#[]⟩
noncomputable def o767 : Obj := sq #[.str "self" 1131,.str "s" 1132,.str "n" 1133,.str "m" 1134,.str "start" 1135,.str "buf" 1136]
noncomputable def o769 : Obj := fz [23,30] "StringIO.write"
noncomputable def o770 : Obj := ⟨.type "code",none,.fields #[.str "write" 1128,.str "StringIO.write" 1129,.str "/claim/cut.py" 1130,.int 493 0,.int 2 0,.int 2 0,.int 0 0,.int 3 0,.ref 765,.bool true,.int 181 0,.ref 766,.none,.ref 767,.ref 768,.ref 769,.int 1137 0,.int 493 0,.str "/claim/cut.py" 1138],#[]⟩
noncomputable def o771 : Obj := ⟨.type "function",none,(fd (sAt [23,30]) "StringIO.write" 3 [] .none .none .none (.str "io" 505) none (.ref 770) .none 0),#[]⟩
noncomputable def o774 : Obj := sq #[.str "self" 1143,.str "lines" 1144]
noncomputable def o776 : Obj := fz [23,31] "StringIO.writelines"
noncomputable def o777 : Obj := ⟨.type "code",none,.fields #[.str "writelines" 1140,.str "StringIO.writelines" 1141,.str "/claim/cut.py" 1142,.int 512 0,.int 2 0,.int 2 0,.int 0 0,.int 3 0,.ref 772,.bool true,.int 181 0,.ref 773,.none,.ref 774,.ref 775,.ref 776,.int 1145 0,.int 512 0,.str "/claim/cut.py" 1146],#[]⟩
noncomputable def o778 : Obj := ⟨.type "function",none,(fd (sAt [23,31]) "StringIO.writelines" 3 [] .none .none .none (.str "io" 505) none (.ref 777) .none 0),#[]⟩
noncomputable def o781 : Obj := sq #[.str "self" 1151]
noncomputable def o783 : Obj := fz [23,32] "StringIO.__repr__"
noncomputable def o784 : Obj := ⟨.type "code",none,.fields #[.str "__repr__" 1148,.str "StringIO.__repr__" 1149,.str "/claim/cut.py" 1150,.int 515 0,.int 1 0,.int 0 0,.int 0 0,.int 3 0,.ref 779,.bool true,.int 181 0,.ref 780,.none,.ref 781,.ref 782,.ref 783,.int 1152 0,.int 515 0,.str "/claim/cut.py" 1153],#[]⟩
noncomputable def o785 : Obj := ⟨.type "function",none,(fd (sAt [23,32]) "StringIO.__repr__" 3 [] .none .none .none (.str "io" 505) none (.ref 784) .none 0),#[]⟩
noncomputable def o786 : Obj := ⟨.type "tuple",none,.seq #[.str "__buf" 1155,.str "__newline" 1156,.str "__pos" 1157] 0,#[]⟩
noncomputable def o787 (P : Params) : Obj := ⟨.type "dict",none,(.dict #[en P "__module__" 882 (.str "_io" 887),en P "__firstlineno__" 886 (.int 312 885),en P "__init__" 899 (.ref 558),en P "_StringIO__translated" 908 (.ref 565),en P "_StringIO__check" 915 (.ref 572),en P "_StringIO__check_dot" 922 (.ref 579),en P "_StringIO__line" 937 (.ref 586),en P "closed" 945 (.ref 594),en P "line_buffering" 953 (.ref 602),en P "newlines" 961 (.ref 610),en P "encoding" 969 (.ref 618),en P "errors" 977 (.ref 626),en P "close" 984 (.ref 633),en P "__enter__" 991 (.ref 640),en P "__exit__" 999 (.ref 647),en P "readable" 1006 (.ref 654),en P "writable" 1013 (.ref 661),en P "seekable" 1020 (.ref 668),en P "isatty" 1027 (.ref 675),en P "flush" 1034 (.ref 682),en P "fileno" 1041 (.ref 689),en P "detach" 1048 (.ref 696),en P "getvalue" 1055 (.ref 703),en P "tell" 1062 (.ref 710),en P "seek" 1072 (.ref 718),en P "truncate" 1080 (.ref 726),en P "read" 1092 (.ref 734),en P "readline" 1102 (.ref 742),en P "readlines" 1112 (.ref 750),en P "__iter__" 1119 (.ref 757),en P "__next__" 1127 (.ref 764),en P "write" 1139 (.ref 771),en P "writelines" 1147 (.ref 778),en P "__repr__" 1154 (.ref 785),en P "__static_attributes__" 1158 (.ref 786),en P "__doc__" 1159 .none] 2),#[]⟩
noncomputable def o788 : Obj := ⟨.type "type",none,.cls ⟨"StringIO",[.ref 311],[.ref 788,.ref 311,.ref 284,.type "object"],787,"StringIO",true,[],[],false,none,false⟩,#[(some (.ref 544)),none,(some (.str "StringIO" 875)),(some (.str "StringIO" 883)),(some .none),(some (.bool true))]⟩
noncomputable def o789 : Obj := ⟨.type "super",none,.fields #[.ref 788,.ref 788,.ref 788],#[]⟩
noncomputable def o790 : Obj := ⟨.type "builtin_function_or_method",none,.fields #[.builtin "object.__init_subclass__",.ref 788],#[]⟩
noncomputable def t24 (P : Params) : BT := (Y (o0 P) (Y (o1 P) (Y (o3v5 P) (Y o7 (Y o7 (Y o31 (Y o63 (Y o127 (Y o255 (L o7) (L o767)) (Y o383 (L o639) Z)) (Y (o191 P) (Y o319 (L o575) Z) (Y o447 (L o703) Z))) (Y (o95 P) (Y o159 (Y o287 (L o543) Z) (Y o8 (L o671) Z)) (Y o8 (Y o7 (L o607) Z) (Y o479 (L o735) Z)))) (Y o47 (Y o79 (Y o23 (Y o7 (L o527) (L o783)) (Y o399 (L o7) Z)) (Y o207 (Y o335 (L o591) Z) (Y o463 (L o719) Z))) (Y o111 (Y o175 (Y o23 (L o7) Z) (Y o7 (L o687) Z)) (Y o239 (Y o367 (L o623) Z) (Y o495 (L o7) Z))))) (Y o23 (Y o8 (Y o71 (Y o135 (Y (o263 P) (L o8) (L o7)) (Y o391 (L o647) Z)) (Y o199 (Y o327 (L o7) Z) (Y o455 (L o711) Z))) (Y (o103 P) (Y o167 (Y o295 (L o551) Z) (Y o423 (L o7) Z)) (Y o231 (Y o8 (L o615) Z) (Y o487 (L o743) Z)))) (Y (o55 P) (Y o7 (Y o151 (Y o279 (L o7) Z) (Y o7 (L o8) Z)) (Y o7 (Y o7 (L o599) Z) (Y o471 (L o727) Z))) (Y o7 (Y o8 (Y o311v1 (L o8) Z) (Y o439 (L o695) Z)) (Y o247 (Y o7 (L o631) Z) (Y o503 (L o8) Z)))))) (Y o7 (Y o19 (Y o35 (Y o8 (Y o8 (Y o8 (L o515) (L o771)) (Y o8 (L o643) Z)) (Y o195 (Y o8 (L o579) Z) (Y o7 (L o7) Z))) (Y o99 (Y (o163 P) (Y o23 (L o7) Z) (Y o419 (L o675) Z)) (Y o7 (Y o355 (L o7) Z) (Y o483 (L o7) Z)))) (Y o8 (Y o7 (Y o147 (Y o7 (L o531) (L (o787 P))) (Y o7 (L o659) Z)) (Y o7 (Y o7 (L o7) Z) (Y o7 (L o7) Z))) (Y o115 (Y o179 (Y o307 (L o563) Z) (Y o7 (L o8) Z)) (Y o243 (Y o371 (L o7) Z) (Y o499 (L o755) Z))))) (Y o27 (Y (o43 P) (Y o75 (Y o139 (Y o267 (L o523) (L o7)) (Y o395 (L o7) Z)) (Y (o203 P) (Y o331 (L o7) Z) (Y o7 (L o7) Z))) (Y o107 (Y o7 (Y o299v1 (L o7) Z) (Y o427 (L o7) Z)) (Y (o235 P) (Y o363 (L o7) Z) (Y o491 (L o7) Z)))) (Y o7 (Y o91 (Y (o155 P) (Y (o283 P) (L o539) Z) (Y o411 (L o667) Z)) (Y o219 (Y o347 (L o7) Z) (Y o8 (L o7) Z))) (Y o7 (Y o187 (Y o23 (L o571) Z) (Y o7 (L o699) Z)) (Y o7 (Y o7 (L o8) Z) (Y o7 (L o763) Z))))))) (Y o5 (Y o9 (Y o17 (Y o33 (Y o65 (Y o129 (Y (o257 P) (L o513) (L o769)) (Y o385 (L o7) Z)) (Y o8 (Y o321 (L o577) Z) (Y o449 (L o8) Z))) (Y o97 (Y o7 (Y o289 (L o23) Z) (Y o7 (L o673) Z)) (Y o225 (Y o353 (L o609) Z) (Y o7 (L o8) Z)))) (Y (o49 P) (Y o8 (Y o7 (Y o273 (L o529) (L o785)) (Y o8 (L o657) Z)) (Y o8 (Y o8 (L o593) Z) (Y o465 (L o8) Z))) (Y o113 (Y o177 (Y o7 (L o561) Z) (Y o433 (L o689) Z)) (Y o7 (Y o369 (L o625) Z) (Y o7 (L o753) Z))))) (Y o7 (Y o41 (Y o7 (Y o137 (Y o265 (L o7) (L o777)) (Y o7 (L o8) Z)) (Y o7 (Y o7 (L o585) Z) (Y o457 (L o8) Z))) (Y o105 (Y o8 (Y o297 (L o8) Z) (Y o425 (L o681) Z)) (Y o233 (Y o7 (L o617) Z) (Y o7 (L o8) Z)))) (Y o57 (Y o89 (Y o153 (Y o281 (L o537) Z) (Y o409 (L o7) Z)) (Y o217 (Y o345 (L o601) Z) (Y o473 (L o8) Z))) (Y o121 (Y o7 (Y o313 (L o7) Z) (Y o441 (L o7) Z)) (Y o8 (Y o377 (L o633) Z) (Y o8 (L o7) Z)))))) (Y o13 (Y o21 (Y (o37 P) (Y o7 (Y o133 (Y o261 (L o517) (L o8)) (Y o7 (L o645) Z)) (Y (o197 P) (Y o7 (L o8) Z) (Y o453 (L o709) Z))) (Y o7 (Y o165 (Y o7 (L o549) Z) (Y o7 (L o8) Z)) (Y o229 (Y o357 (L o613) Z) (Y o485 (L o741) Z)))) (Y o53 (Y o85 (Y o7 (Y o277 (L o8) (L o789)) (Y o405 (L o661) Z)) (Y o213 (Y o341 (L o597) Z) (Y o469 (L o725) Z))) (Y o8 (Y o181 (Y o309 (L o565) Z) (Y o437 (L o7) Z)) (Y o245 (Y o8 (L o629) Z) (Y o501 (L o757) Z))))) (Y o29 (Y o45 (Y o77 (Y o141 (Y o23 (L o7) (L o781)) (Y o397 (L o653) Z)) (Y o205 (Y o333 (L o589) Z) (Y o461 (L o717) Z))) (Y o7 (Y o173 (Y o301 (L o557) Z) (Y o8 (L o685) Z)) (Y o237 (Y o7 (L o621) Z) (Y o493 (L o749) Z)))) (Y (o61 P) (Y o93 (Y o157 (Y o285 (L o541) Z) (Y o413 (L o7) Z)) (Y o221 (Y o349 (L o605) Z) (Y o7 (L o733) Z))) (Y o125 (Y o189 (Y o7 (L o7) Z) (Y o445 (L o701) Z)) (Y o253 (Y o381 (L o7) Z) (Y o509 (L o7) Z)))))))) (Y (o2v2 P) (Y o4 (Y o8 (Y o8 (Y o32 (Y o64 (Y o128 (Y o23 (L o8) (L o7)) (Y o384 (L o640) Z)) (Y o7 (Y o320 (L o7) Z) (Y o448 (L o7) Z))) (Y o96 (Y o160 (Y o288 (L o544) Z) (Y o416 (L o7) Z)) (Y o224 (Y o8 (L o608) Z) (Y o480 (L o7) Z)))) (Y o23 (Y o7 (Y (o144 P) (Y o272 (L o7) (L o784)) (Y o7 (L o8) Z)) (Y o7 (Y o7 (L o592) Z) (Y o464 (L o7) Z))) (Y o7 (Y (o176 P) (Y (o304 P) (L o8) Z) (Y o432 (L o688) Z)) (Y o240 (Y o7 (L o624) Z) (Y o496 (L o8) Z))))) (Y (o24 P) (Y o40 (Y o72 (Y (o136 P) (Y o264 (L o520) (L o776)) (Y o392 (L o7) Z)) (Y o200 (Y o328 (L o584) Z) (Y o456 (L o7) Z))) (Y o7 (Y o7 (Y o296 (L o7) Z) (Y o7 (L o680) Z)) (Y o232 (Y o360 (L o616) Z) (Y o488 (L o7) Z)))) (Y o56 (Y o8 (Y o152 (Y o280 (L o536) Z) (Y o8 (L o664) Z)) (Y o8 (Y o8 (L o600) Z) (Y o472 (L o7) Z))) (Y o120 (Y o184 (Y o312 (L o568) Z) (Y o440 (L o696) Z)) (Y o7 (Y o376 (L o632) Z) (Y o7 (L o760) Z)))))) (Y o12v5 (Y o20 (Y o23 (Y o68 (Y o132 (Y o260 (L o516) (L o7)) (Y o388 (L o7) Z)) (Y o196 (Y o324 (L o7) Z) (Y o8 (L o708) Z))) (Y o100 (Y o7 (Y (o292 P) (L o548) Z) (Y o420 (L o7) Z)) (Y o8 (Y o356 (L o8) Z) (Y o7 (L o740) Z)))) (Y o52 (Y o84 (Y o148 (Y o8 (L o7) (L o788)) (Y o404 (L o660) Z)) (Y o212 (Y o340 (L o8) Z) (Y o8 (L o724) Z))) (Y o7 (Y o180 (Y o308 (L o564) Z) (Y o8 (L o692) Z)) (Y o7 (Y o7 (L o8) Z) (Y o7 (L o756) Z))))) (Y o28 (Y o44v1 (Y o7 (Y o140 (Y o7 (L o524) (L o8)) (Y o7 (L o652) Z)) (Y o7 (Y o7 (L o8) Z) (Y o8 (L o716) Z))) (Y o108 (Y o172 (Y o300 (L o556) Z) (Y o7 (L o8) Z)) (Y o236 (Y o364 (L o8) Z) (Y o7 (L o748) Z)))) (Y o23 (Y o92 (Y o156 (Y o284 (L (o540 P)) Z) (Y o412 (L o668) Z)) (Y o220 (Y o348 (L o8) Z) (Y o476 (L o732) Z))) (Y o8 (Y o188 (Y (o316 P) (L o572) Z) (Y o8 (L o7) Z)) (Y o252 (Y o8 (L o636) Z) (Y o508 (L o764) Z))))))) (Y o6 (Y o10 (Y o7 (Y o34 (Y o7 (Y o7 (Y o7 (L o7) (L o770)) (Y o7 (L o8) Z)) (Y o194 (Y o7 (L o578) Z) (Y o450 (L o706) Z))) (Y o98 (Y o23 (Y o290 (L (o546 P)) Z) (Y o418 (L o674) Z)) (Y o226 (Y o7 (L o610) Z) (Y o8 (L o738) Z)))) (Y o7 (Y o82 (Y o146 (Y o274 (L o530) (L o786)) (Y o402 (L o7) Z)) (Y o210 (Y o338 (L o594) Z) (Y o466 (L o722) Z))) (Y o114 (Y o178 (Y o8 (L o7) Z) (Y o434 (L o7) Z)) (Y o8 (Y o370 (L o626) Z) (Y o8 (L o7) Z))))) (Y o8 (Y o42 (Y o8 (Y o138 (Y o266 (L o522) (L o778)) (Y o8 (L o650) Z)) (Y o23 (Y o8 (L o586) Z) (Y o458 (L o714) Z))) (Y o106 (Y o170 (Y (o298 P) (L o554) Z) (Y o426 (L o682) Z)) (Y o234 (Y o362 (L o618) Z) (Y o8 (L o746) Z)))) (Y o58 (Y o7 (Y o7 (Y o282 (L o538) Z) (Y o7 (L o666) Z)) (Y o7 (Y o7 (L o602) Z) (Y o7 (L o730) Z))) (Y o122 (Y o186 (Y o314 (L o570) Z) (Y o442 (L o8) Z)) (Y o250 (Y o378 (L o7) Z) (Y o506 (L o762) Z)))))) (Y o14 (Y o22 (Y o7 (Y o70 (Y o134 (Y o7 (L o7) (L o774)) (Y o390 (L o646) Z)) (Y o198 (Y o326 (L o582) Z) (Y o7 (L o710) Z))) (Y o23 (Y o166 (Y o8 (L o550) Z) (Y o8 (L o678) Z)) (Y o7 (Y o7 (L o7) Z) (Y o486 (L o742) Z)))) (Y o54 (Y o86 (Y o8 (Y o7 (L o534) (L o790)) (Y o406 (L o7) Z)) (Y o214 (Y o342 (L o7) Z) (Y o7 (L o726) Z))) (Y o118 (Y o7 (Y (o310 P) (L o7) Z) (Y o7 (L o694) Z)) (Y o246 (Y o374 (L o7) Z) (Y o502 (L o7) Z))))) (Y (o30 P) (Y o46 (Y o78 (Y o7 (Y (o270 P) (L o8) (L o7)) (Y o398 (L o654) Z)) (Y o206 (Y o334 (L o7) Z) (Y o7 (L o718) Z))) (Y o8 (Y o174 (Y o290 (L o558) Z) (Y o430 (L o7) Z)) (Y o238 (Y o8 (L o7) Z) (Y o494 (L o750) Z)))) (Y o7 (Y o94 (Y o158 (Y o286 (L o542) Z) (Y o7 (L o8) Z)) (Y o7 (Y o350 (L o7) Z) (Y o478 (L o734) Z))) (Y o7 (Y o23 (Y o318 (L o8) Z) (Y o7 (L o702) Z)) (Y o254 (Y o7 (L o638) Z) (Y o510 (L o8) Z)))))))))
noncomputable def s24 (w : World) (os : OsState) : SharedT := ⟨t24 w.params, 791, lf, #[], dr, 1162, os⟩
noncomputable def o3v6 (P : Params) : Obj := ⟨.type "dict",none,(.dict #[en P "__name__" 165 (.str "pdfminer.psparser" 1162),en P "__doc__" 166 .none,en P "__package__" 167 .none,en P "__loader__" 168 (.builtin "__main__.__loader__#opaque"),en P "__spec__" 169 .none,en P "__annotations__" 170 (.ref 6),en P "__builtins__" 171 (.ref 4),en P "__file__" 173 (.str "/claim/cut.py" 172),en P "__cached__" 174 .none,en P "_wall" 193 (.ref 21),en P "PSException" 215 (.ref 31),en P "PDFException" 233 (.ref 44),en P "PDFEOFError" 251 (.ref 56),en P "Found" 308 (.ref 96),en P "Signs" 363 (.ref 137),en P "HexPairs" 389 (.ref 156),en P "Real" 420 (.ref 177),en P "cast" 428 (.ref 188),en P "CorruptDataError" 446 (.ref 198),en P "LZWDecoder" 504 (.ref 236),en P "_whence" 514 (.ref 247),en P "_index" 522 (.ref 254),en P "UnsupportedOperation" 544 (.ref 264),en P "IOBase" 576 (.ref 284),en P "BufferedIOBase" 594 (.ref 299),en P "TextIOBase" 612 (.ref 311),en P "BytesIO" 874 (.ref 541),en P "StringIO" 1161 (.ref 788),en P "PSObject" 1183 (.ref 800),en P "PSLiteral" 1225 (.ref 835),en P "PSKeyword" 1267 (.ref 868),en P "PSSymbolTable" 1306 (.ref 894)] 32),#[]⟩
noncomputable def o12v6 : Obj := fl #[.int 1 0,.int 0 0,.ref 20,.int 5 0,.int 0 0,.ref 27,.int 8 0,.int 0 0,.ref 40,.int 10 0,.int 0 0,.ref 52,.int 13 0,.int 0 0,.ref 64,.int 26 0,.int 0 0,.ref 106,.int 41 0,.int 0 0,.ref 147,.int 45 0,.int 0 0,.ref 166,.int 50 0,.int 0 0,.ref 187,.int 53 0,.int 0 0,.ref 194,.int 55 0,.int 0 0,.ref 206,.int 117 0,.int 0 0,.ref 246,.int 122 0,.int 0 0,.ref 253,.int 129 0,.int 0 0,.ref 260,.int 131 0,.int 0 0,.ref 273,.int 138 0,.int 0 0,.ref 295,.int 140 0,.int 0 0,.ref 307,.int 142 0,.int 0 0,.ref 319,.int 312 0,.int 0 0,.ref 549,.int 518 0,.int 0 0,.ref 796,.int 520 0,.int 0 0,.ref 810,.int 531 0,.int 0 0,.ref 843,.int 542 0,.int 0 0,.ref 876]
noncomputable def o793 (P : Params) : Obj := ⟨.type "dict",none,(.dict #[en P "__module__" 1171 (.str "pdfminer.psparser" 1162),en P "__qualname__" 1173 (.str "PSObject" 1172),en P "__firstlineno__" 1175 (.int 518 1174),en P "__static_attributes__" 1176 (.ref 798)] 4),#[]⟩
noncomputable def o796 : Obj := cd #[.str "PSObject" 1166,.str "PSObject" 1167,.str "/claim/cut.py" 1168,.int 518 0,.int 0 0,.int 0 0,.int 0 0,.int 0 0,.ref 794,.bool false,.int 181 0,.ref 795,.none,.none,.none,.none,.int 1169 0,.int 518 0,.str "/claim/cut.py" 1170]
noncomputable def o797 : Obj := ⟨.type "frame",none,.plain,#[(some (.ref 796)),(some (.ref 3)),(some (.ref 793)),none,(some (.str "pdfminer.psparser" 1162)),none,(some (.ref 0))]⟩
noncomputable def o799 (P : Params) : Obj := ⟨.type "dict",none,(.dict #[en P "__module__" 1171 (.str "pdfminer.psparser" 1162),en P "__firstlineno__" 1175 (.int 518 1174),en P "__static_attributes__" 1176 (.ref 798),en P "__dict__" 1178 (.ref 801),en P "__weakref__" 1180 (.ref 802),en P "__doc__" 1181 .none] 4),#[]⟩
noncomputable def o800 : Obj := ⟨.type "type",none,.cls ⟨"PSObject",[.type "object"],[.ref 800,.type "object"],799,"PSObject",true,[],[.ref 835,.ref 868],false,none,false⟩,#[none,none,(some (.str "PSObject" 1164)),(some (.str "PSObject" 1172)),(some (.builtin "object.__new__")),(some (.bool true))]⟩
noncomputable def o801 : Obj := ⟨.type "getset_descriptor",none,.fields #[.str "__dict__" 1177,.ref 800,.builtin "function.__dict__",.builtin "function.__dict__#set"],#[]⟩
noncomputable def o802 : Obj := ⟨.type "getset_descriptor",none,.fields #[.str "__weakref__" 1179,.ref 800,.builtin "ExceptionGroup.__weakref__",.none],#[]⟩
noncomputable def o803 : Obj := ⟨.type "super",none,.fields #[.ref 800,.ref 800,.ref 800],#[]⟩
noncomputable def o804 : Obj := ⟨.type "builtin_function_or_method",none,.fields #[.builtin "object.__init_subclass__",.ref 800],#[]⟩
noncomputable def o805 : Obj := sq #[.ref 800]
noncomputable def o807 (P : Params) : Obj := ⟨.type "dict",none,(.dict #[en P "__module__" 1191 (.str "pdfminer.psparser" 1162),en P "__qualname__" 1193 (.str "PSLiteral" 1192),en P "__firstlineno__" 1195 (.int 520 1194),en P "__init__" 1203 (.ref 818),en P "__eq__" 1211 (.ref 825),en P "__repr__" 1219 (.ref 832),en P "__static_attributes__" 1221 (.ref 833)] 7),#[]⟩
noncomputable def o809 : Obj := fl #[.int 522 0,.int 4 0,.ref 817,.int 525 0,.int 4 0,.ref 824,.int 528 0,.int 4 0,.ref 831]
noncomputable def o810 : Obj := cd #[.str "PSLiteral" 1186,.str "PSLiteral" 1187,.str "/claim/cut.py" 1188,.int 520 0,.int 0 0,.int 0 0,.int 0 0,.int 0 0,.ref 808,.bool false,.int 181 0,.ref 809,.none,.none,.none,.none,.int 1189 0,.int 520 0,.str "/claim/cut.py" 1190]
noncomputable def o811 : Obj := ⟨.type "frame",none,.plain,#[(some (.ref 810)),(some (.ref 3)),(some (.ref 807)),none,(some (.str "pdfminer.psparser" 1162)),none,(some (.ref 0))]⟩
noncomputable def o814 : Obj := sq #[.str "self" 1199,.str "name" 1200]
noncomputable def o816 : Obj := fz [26,0] "PSLiteral.__init__"
noncomputable def o817 : Obj := cd #[.str "__init__" 1196,.str "PSLiteral.__init__" 1197,.str "/claim/cut.py" 1198,.int 522 0,.int 2 0,.int 0 0,.int 0 0,.int 3 0,.ref 812,.bool true,.int 181 0,.ref 813,.none,.ref 814,.ref 815,.ref 816,.int 1201 0,.int 522 0,.str "/claim/cut.py" 1202]
noncomputable def o818 : Obj := ⟨.type "function",none,(fd (sAt [26,0]) "PSLiteral.__init__" 3 [] .none .none .none (.str "pdfminer.psparser" 1162) none (.ref 817) .none 0),#[]⟩
noncomputable def o821 : Obj := sq #[.str "self" 1207,.str "other" 1208]
noncomputable def o823 : Obj := fz [26,1] "PSLiteral.__eq__"
noncomputable def o824 : Obj := cd #[.str "__eq__" 1204,.str "PSLiteral.__eq__" 1205,.str "/claim/cut.py" 1206,.int 525 0,.int 2 0,.int 0 0,.int 0 0,.int 3 0,.ref 819,.bool true,.int 181 0,.ref 820,.none,.ref 821,.ref 822,.ref 823,.int 1209 0,.int 525 0,.str "/claim/cut.py" 1210]
noncomputable def o825 : Obj := ⟨.type "function",none,(fd (sAt [26,1]) "PSLiteral.__eq__" 3 [] .none .none .none (.str "pdfminer.psparser" 1162) none (.ref 824) .none 0),#[]⟩
noncomputable def o828 : Obj := sq #[.str "self" 1215,.str "name" 1216]
noncomputable def o830 : Obj := fz [26,2] "PSLiteral.__repr__"
noncomputable def o831 : Obj := cd #[.str "__repr__" 1212,.str "PSLiteral.__repr__" 1213,.str "/claim/cut.py" 1214,.int 528 0,.int 1 0,.int 0 0,.int 0 0,.int 3 0,.ref 826,.bool true,.int 181 0,.ref 827,.none,.ref 828,.ref 829,.ref 830,.int 1217 0,.int 528 0,.str "/claim/cut.py" 1218]
noncomputable def o832 : Obj := ⟨.type "function",none,(fd (sAt [26,2]) "PSLiteral.__repr__" 3 [] .none .none .none (.str "pdfminer.psparser" 1162) none (.ref 831) .none 0),#[]⟩
noncomputable def o833 : Obj := sq #[.str "name" 1220]
noncomputable def o834 (P : Params) : Obj := ⟨.type "dict",none,(.dict #[en P "__module__" 1191 (.str "pdfminer.psparser" 1162),en P "__firstlineno__" 1195 (.int 520 1194),en P "__init__" 1203 (.ref 818),en P "__eq__" 1211 (.ref 825),en P "__repr__" 1219 (.ref 832),en P "__static_attributes__" 1221 (.ref 833),en P "__doc__" 1222 .none,en P "__hash__" 1223 .none] 3),#[]⟩
noncomputable def o835 : Obj := ⟨.type "type",none,.cls ⟨"PSLiteral",[.ref 800],[.ref 835,.ref 800,.type "object"],834,"PSLiteral",true,[],[],false,none,false⟩,#[(some (.ref 805)),none,(some (.str "PSLiteral" 1184)),(some (.str "PSLiteral" 1192)),(some (.builtin "object.__new__")),(some (.bool true))]⟩
noncomputable def o836 : Obj := ⟨.type "super",none,.fields #[.ref 835,.ref 835,.ref 835],#[]⟩
noncomputable def o837 : Obj := ⟨.type "builtin_function_or_method",none,.fields #[.builtin "object.__init_subclass__",.ref 835],#[]⟩
noncomputable def o840 (P : Params) : Obj := ⟨.type "dict",none,(.dict #[en P "__module__" 1233 (.str "pdfminer.psparser" 1162),en P "__qualname__" 1235 (.str "PSKeyword" 1234),en P "__firstlineno__" 1237 (.int 531 1236),en P "__init__" 1245 (.ref 851),en P "__eq__" 1253 (.ref 858),en P "__repr__" 1261 (.ref 865),en P "__static_attributes__" 1263 (.ref 866)] 7),#[]⟩
noncomputable def o842 : Obj := fl #[.int 533 0,.int 4 0,.ref 850,.int 536 0,.int 4 0,.ref 857,.int 539 0,.int 4 0,.ref 864]
noncomputable def o843 : Obj := cd #[.str "PSKeyword" 1228,.str "PSKeyword" 1229,.str "/claim/cut.py" 1230,.int 531 0,.int 0 0,.int 0 0,.int 0 0,.int 0 0,.ref 841,.bool false,.int 181 0,.ref 842,.none,.none,.none,.none,.int 1231 0,.int 531 0,.str "/claim/cut.py" 1232]
noncomputable def o844 : Obj := ⟨.type "frame",none,.plain,#[(some (.ref 843)),(some (.ref 3)),(some (.ref 840)),none,(some (.str "pdfminer.psparser" 1162)),none,(some (.ref 0))]⟩
noncomputable def o847 : Obj := sq #[.str "self" 1241,.str "name" 1242]
noncomputable def o849 : Obj := fz [27,0] "PSKeyword.__init__"
noncomputable def o850 : Obj := cd #[.str "__init__" 1238,.str "PSKeyword.__init__" 1239,.str "/claim/cut.py" 1240,.int 533 0,.int 2 0,.int 0 0,.int 0 0,.int 3 0,.ref 845,.bool true,.int 181 0,.ref 846,.none,.ref 847,.ref 848,.ref 849,.int 1243 0,.int 533 0,.str "/claim/cut.py" 1244]
noncomputable def o851 : Obj := ⟨.type "function",none,(fd (sAt [27,0]) "PSKeyword.__init__" 3 [] .none .none .none (.str "pdfminer.psparser" 1162) none (.ref 850) .none 0),#[]⟩
noncomputable def o854 : Obj := sq #[.str "self" 1249,.str "other" 1250]
noncomputable def o856 : Obj := fz [27,1] "PSKeyword.__eq__"
noncomputable def o857 : Obj := cd #[.str "__eq__" 1246,.str "PSKeyword.__eq__" 1247,.str "/claim/cut.py" 1248,.int 536 0,.int 2 0,.int 0 0,.int 0 0,.int 3 0,.ref 852,.bool true,.int 181 0,.ref 853,.none,.ref 854,.ref 855,.ref 856,.int 1251 0,.int 536 0,.str "/claim/cut.py" 1252]
noncomputable def o858 : Obj := ⟨.type "function",none,(fd (sAt [27,1]) "PSKeyword.__eq__" 3 [] .none .none .none (.str "pdfminer.psparser" 1162) none (.ref 857) .none 0),#[]⟩
noncomputable def o861 : Obj := sq #[.str "self" 1257,.str "name" 1258]
noncomputable def o863 : Obj := fz [27,2] "PSKeyword.__repr__"
noncomputable def o864 : Obj := cd #[.str "__repr__" 1254,.str "PSKeyword.__repr__" 1255,.str "/claim/cut.py" 1256,.int 539 0,.int 1 0,.int 0 0,.int 0 0,.int 3 0,.ref 859,.bool true,.int 181 0,.ref 860,.none,.ref 861,.ref 862,.ref 863,.int 1259 0,.int 539 0,.str "/claim/cut.py" 1260]
noncomputable def o865 : Obj := ⟨.type "function",none,(fd (sAt [27,2]) "PSKeyword.__repr__" 3 [] .none .none .none (.str "pdfminer.psparser" 1162) none (.ref 864) .none 0),#[]⟩
noncomputable def o866 : Obj := sq #[.str "name" 1262]
noncomputable def o867 (P : Params) : Obj := ⟨.type "dict",none,(.dict #[en P "__module__" 1233 (.str "pdfminer.psparser" 1162),en P "__firstlineno__" 1237 (.int 531 1236),en P "__init__" 1245 (.ref 851),en P "__eq__" 1253 (.ref 858),en P "__repr__" 1261 (.ref 865),en P "__static_attributes__" 1263 (.ref 866),en P "__doc__" 1264 .none,en P "__hash__" 1265 .none] 3),#[]⟩
noncomputable def o868 : Obj := ⟨.type "type",none,.cls ⟨"PSKeyword",[.ref 800],[.ref 868,.ref 800,.type "object"],867,"PSKeyword",true,[],[],false,none,false⟩,#[(some (.ref 838)),none,(some (.str "PSKeyword" 1226)),(some (.str "PSKeyword" 1234)),(some (.builtin "object.__new__")),(some (.bool true))]⟩
noncomputable def o869 : Obj := ⟨.type "super",none,.fields #[.ref 868,.ref 868,.ref 868],#[]⟩
noncomputable def o870 : Obj := ⟨.type "builtin_function_or_method",none,.fields #[.builtin "object.__init_subclass__",.ref 868],#[]⟩
noncomputable def o873 (P : Params) : Obj := ⟨.type "dict",none,(.dict #[en P "__module__" 1275 (.str "pdfminer.psparser" 1162),en P "__qualname__" 1277 (.str "PSSymbolTable" 1276),en P "__firstlineno__" 1279 (.int 542 1278),en P "__init__" 1287 (.ref 884),en P "intern" 1296 (.ref 891),en P "__static_attributes__" 1299 (.ref 892)] 6),#[]⟩
noncomputable def o875 : Obj := fl #[.int 544 0,.int 4 0,.ref 883,.int 548 0,.int 4 0,.ref 890]
noncomputable def o876 : Obj := cd #[.str "PSSymbolTable" 1270,.str "PSSymbolTable" 1271,.str "/claim/cut.py" 1272,.int 542 0,.int 0 0,.int 0 0,.int 0 0,.int 0 0,.ref 874,.bool false,.int 181 0,.ref 875,.none,.none,.none,.none,.int 1273 0,.int 542 0,.str "/claim/cut.py" 1274]
noncomputable def o877 : Obj := ⟨.type "frame",none,.plain,#[(some (.ref 876)),(some (.ref 3)),(some (.ref 873)),none,(some (.str "pdfminer.psparser" 1162)),none,(some (.ref 0))]⟩
noncomputable def o880 : Obj := sq #[.str "self" 1283,.str "klass" 1284]
noncomputable def o882 : Obj := fz [28,0] "PSSymbolTable.__init__"
noncomputable def o883 : Obj := cd #[.str "__init__" 1280,.str "PSSymbolTable.__init__" 1281,.str "/claim/cut.py" 1282,.int 544 0,.int 2 0,.int 0 0,.int 0 0,.int 3 0,.ref 878,.bool true,.int 181 0,.ref 879,.none,.ref 880,.ref 881,.ref 882,.int 1285 0,.int 544 0,.str "/claim/cut.py" 1286]
noncomputable def o884 : Obj := ⟨.type "function",none,(fd (sAt [28,0]) "PSSymbolTable.__init__" 3 [] .none .none .none (.str "pdfminer.psparser" 1162) none (.ref 883) .none 0),#[]⟩
noncomputable def o887 : Obj := sq #[.str "self" 1291,.str "name" 1292,.str "lit" 1293]
noncomputable def o889 : Obj := fz [28,1] "PSSymbolTable.intern"
noncomputable def o890 : Obj := cd #[.str "intern" 1288,.str "PSSymbolTable.intern" 1289,.str "/claim/cut.py" 1290,.int 548 0,.int 2 0,.int 0 0,.int 0 0,.int 3 0,.ref 885,.bool true,.int 181 0,.ref 886,.none,.ref 887,.ref 888,.ref 889,.int 1294 0,.int 548 0,.str "/claim/cut.py" 1295]
noncomputable def o891 : Obj := ⟨.type "function",none,(fd (sAt [28,1]) "PSSymbolTable.intern" 3 [] .none .none .none (.str "pdfminer.psparser" 1162) none (.ref 890) .none 0),#[]⟩
noncomputable def o892 : Obj := sq #[.str "dict" 1297,.str "klass" 1298]
noncomputable def o893 (P : Params) : Obj := ⟨.type "dict",none,(.dict #[en P "__module__" 1275 (.str "pdfminer.psparser" 1162),en P "__firstlineno__" 1279 (.int 542 1278),en P "__init__" 1287 (.ref 884),en P "intern" 1296 (.ref 891),en P "__static_attributes__" 1299 (.ref 892),en P "__dict__" 1301 (.ref 895),en P "__weakref__" 1303 (.ref 896),en P "__doc__" 1304 .none] 4),#[]⟩
noncomputable def o894 : Obj := ⟨.type "type",none,.cls ⟨"PSSymbolTable",[.type "object"],[.ref 894,.type "object"],893,"PSSymbolTable",true,[],[],false,none,false⟩,#[none,none,(some (.str "PSSymbolTable" 1268)),(some (.str "PSSymbolTable" 1276)),(some (.builtin "object.__new__")),(some (.bool true))]⟩
noncomputable def o895 : Obj := ⟨.type "getset_descriptor",none,.fields #[.str "__dict__" 1300,.ref 894,.builtin "function.__dict__",.builtin "function.__dict__#set"],#[]⟩
noncomputable def o896 : Obj := ⟨.type "getset_descriptor",none,.fields #[.str "__weakref__" 1302,.ref 894,.builtin "ExceptionGroup.__weakref__",.none],#[]⟩
noncomputable def o897 : Obj := ⟨.type "super",none,.fields #[.ref 894,.ref 894,.ref 894],#[]⟩
noncomputable def o898 : Obj := ⟨.type "builtin_function_or_method",none,.fields #[.builtin "object.__init_subclass__",.ref 894],#[]⟩
noncomputable def t29 (P : Params) : BT := (Y (o0 P) (Y (o1 P) (Y (o3v6 P) (Y o7 (Y o7 (Y o31 (Y o63 (Y o127 (Y o255 (L o7) (L o767)) (Y o383 (L o639) (L o895))) (Y (o191 P) (Y o319 (L o575) (L o831)) (Y o447 (L o703) Z))) (Y (o95 P) (Y o159 (Y o287 (L o543) (L (o799 P))) (Y o8 (L o671) Z)) (Y o8 (Y o7 (L o607) (L o863)) (Y o479 (L o735) Z)))) (Y o47 (Y o79 (Y o23 (Y o7 (L o527) (L o783)) (Y o399 (L o7) Z)) (Y o207 (Y o335 (L o591) (L o847)) (Y o463 (L o719) Z))) (Y o111 (Y o175 (Y o23 (L o7) (L o7)) (Y o7 (L o687) Z)) (Y o239 (Y o367 (L o623) (L o8)) (Y o495 (L o7) Z))))) (Y o23 (Y o8 (Y o71 (Y o135 (Y (o263 P) (L o8) (L o7)) (Y o391 (L o647) Z)) (Y o199 (Y o327 (L o7) (L o23)) (Y o455 (L o711) Z))) (Y (o103 P) (Y o167 (Y o295 (L o551) (L (o807 P))) (Y o423 (L o7) Z)) (Y o231 (Y o8 (L o615) (L o7)) (Y o487 (L o743) Z)))) (Y (o55 P) (Y o7 (Y o151 (Y o279 (L o7) (L o7)) (Y o7 (L o8) Z)) (Y o7 (Y o7 (L o599) (L o7)) (Y o471 (L o727) Z))) (Y o7 (Y o8 (Y o311v1 (L o8) (L o823)) (Y o439 (L o695) Z)) (Y o247 (Y o7 (L o631) (L o887)) (Y o503 (L o8) Z)))))) (Y o7 (Y o19 (Y o35 (Y o8 (Y o8 (Y o8 (L o515) (L o771)) (Y o8 (L o643) Z)) (Y o195 (Y o8 (L o579) (L o835)) (Y o7 (L o7) Z))) (Y o99 (Y (o163 P) (Y o23 (L o7) (L o803)) (Y o419 (L o675) Z)) (Y o7 (Y o355 (L o7) (L (o867 P))) (Y o483 (L o7) Z)))) (Y o8 (Y o7 (Y o147 (Y o7 (L o531) (L (o787 P))) (Y o7 (L o659) Z)) (Y o7 (Y o7 (L o7) (L o851)) (Y o7 (L o7) Z))) (Y o115 (Y o179 (Y o307 (L o563) (L o7)) (Y o7 (L o8) Z)) (Y o243 (Y o371 (L o7) (L o883)) (Y o499 (L o755) Z))))) (Y o27 (Y (o43 P) (Y o75 (Y o139 (Y o267 (L o523) (L o7)) (Y o395 (L o7) Z)) (Y (o203 P) (Y o331 (L o7) (L o843)) (Y o7 (L o7) Z))) (Y o107 (Y o7 (Y o299v1 (L o7) (L o811)) (Y o427 (L o7) Z)) (Y (o235 P) (Y o363 (L o7) (L o875)) (Y o491 (L o7) Z)))) (Y o7 (Y o91 (Y (o155 P) (Y (o283 P) (L o539) (L o8)) (Y o411 (L o667) Z)) (Y o219 (Y o347 (L o7) (L o7)) (Y o8 (L o7) Z))) (Y o7 (Y o187 (Y o23 (L o571) (L o8)) (Y o7 (L o699) Z)) (Y o7 (Y o7 (L o8) (L o891)) (Y o7 (L o763) Z))))))) (Y o5 (Y o9 (Y o17 (Y o33 (Y o65 (Y o129 (Y (o257 P) (L o513) (L o769)) (Y o385 (L o7) (L o897))) (Y o8 (Y o321 (L o577) (L o833)) (Y o449 (L o8) Z))) (Y o97 (Y o7 (Y o289 (L o23) (L o801)) (Y o7 (L o673) Z)) (Y o225 (Y o353 (L o609) (L o865)) (Y o7 (L o8) Z)))) (Y (o49 P) (Y o8 (Y o7 (Y o273 (L o529) (L o785)) (Y o8 (L o657) Z)) (Y o8 (Y o8 (L o593) (L o849)) (Y o465 (L o8) Z))) (Y o113 (Y o177 (Y o7 (L o561) (L o817)) (Y o433 (L o689) Z)) (Y o7 (Y o369 (L o625) (L o7)) (Y o7 (L o753) Z))))) (Y o7 (Y o41 (Y o7 (Y o137 (Y o265 (L o7) (L o777)) (Y o7 (L o8) Z)) (Y o7 (Y o7 (L o585) (L o7)) (Y o457 (L o8) Z))) (Y o105 (Y o8 (Y o297 (L o8) (L o809)) (Y o425 (L o681) Z)) (Y o233 (Y o7 (L o617) (L (o873 P))) (Y o7 (L o8) Z)))) (Y o57 (Y o89 (Y o153 (Y o281 (L o537) (L (o793 P))) (Y o409 (L o7) Z)) (Y o217 (Y o345 (L o601) (L o857)) (Y o473 (L o8) Z))) (Y o121 (Y o7 (Y o313 (L o7) (L o825)) (Y o441 (L o7) Z)) (Y o8 (Y o377 (L o633) (L o889)) (Y o8 (L o7) Z)))))) (Y o13 (Y o21 (Y (o37 P) (Y o7 (Y o133 (Y o261 (L o517) (L o8)) (Y o7 (L o645) Z)) (Y (o197 P) (Y o7 (L o8) (L o837)) (Y o453 (L o709) Z))) (Y o7 (Y o165 (Y o7 (L o549) (L o805)) (Y o7 (L o8) Z)) (Y o229 (Y o357 (L o613) (L o869)) (Y o485 (L o741) Z)))) (Y o53 (Y o85 (Y o7 (Y o277 (L o8) (L o789)) (Y o405 (L o661) Z)) (Y o213 (Y o341 (L o597) (L o8)) (Y o469 (L o725) Z))) (Y o8 (Y o181 (Y o309 (L o565) (L o821)) (Y o437 (L o7) Z)) (Y o245 (Y o8 (L o629) (L o7)) (Y o501 (L o757) Z))))) (Y o29 (Y o45 (Y o77 (Y o141 (Y o23 (L o7) (L o781)) (Y o397 (L o653) Z)) (Y o205 (Y o333 (L o589) (L o7)) (Y o461 (L o717) Z))) (Y o7 (Y o173 (Y o301 (L o557) (L o8)) (Y o8 (L o685) Z)) (Y o237 (Y o7 (L o621) (L o877)) (Y o493 (L o749) Z)))) (Y (o61 P) (Y o93 (Y o157 (Y o285 (L o541) (L o797)) (Y o413 (L o7) Z)) (Y o221 (Y o349 (L o605) (L o861)) (Y o7 (L o733) Z))) (Y o125 (Y o189 (Y o7 (L o7) (L o7)) (Y o445 (L o701) Z)) (Y o253 (Y o381 (L o7) (L (o893 P))) (Y o509 (L o7) Z)))))))) (Y (o2v2 P) (Y o4 (Y o8 (Y o8 (Y o32 (Y o64 (Y o128 (Y o23 (L o8) (L o7)) (Y o384 (L o640) (L o896))) (Y o7 (Y o320 (L o7) (L o832)) (Y o448 (L o7) Z))) (Y o96 (Y o160 (Y o288 (L o544) (L o800)) (Y o416 (L o7) Z)) (Y o224 (Y o8 (L o608) (L o864)) (Y o480 (L o7) Z)))) (Y o23 (Y o7 (Y (o144 P) (Y o272 (L o7) (L o784)) (Y o7 (L o8) Z)) (Y o7 (Y o7 (L o592) (L o7)) (Y o464 (L o7) Z))) (Y o7 (Y (o176 P) (Y (o304 P) (L o8) (L o816)) (Y o432 (L o688) Z)) (Y o240 (Y o7 (L o624) (L o880)) (Y o496 (L o8) Z))))) (Y (o24 P) (Y o40 (Y o72 (Y (o136 P) (Y o264 (L o520) (L o776)) (Y o392 (L o7) Z)) (Y o200 (Y o328 (L o584) (L (o840 P))) (Y o456 (L o7) Z))) (Y o7 (Y o7 (Y o296 (L o7) (L o7)) (Y o7 (L o680) Z)) (Y o232 (Y o360 (L o616) (L o23)) (Y o488 (L o7) Z)))) (Y o56 (Y o8 (Y o152 (Y o280 (L o536) (L o23)) (Y o8 (L o664) Z)) (Y o8 (Y o8 (L o600) (L o856)) (Y o472 (L o7) Z))) (Y o120 (Y o184 (Y o312 (L o568) (L o824)) (Y o440 (L o696) Z)) (Y o7 (Y o376 (L o632) (L o7)) (Y o7 (L o760) Z)))))) (Y o12v6 (Y o20 (Y o23 (Y o68 (Y o132 (Y o260 (L o516) (L o7)) (Y o388 (L o7) Z)) (Y o196 (Y o324 (L o7) (L o836)) (Y o8 (L o708) Z))) (Y o100 (Y o7 (Y (o292 P) (L o548) (L o804)) (Y o420 (L o7) Z)) (Y o8 (Y o356 (L o8) (L o868)) (Y o7 (L o740) Z)))) (Y o52 (Y o84 (Y o148 (Y o8 (L o7) (L o788)) (Y o404 (L o660) Z)) (Y o212 (Y o340 (L o8) (L o7)) (Y o8 (L o724) Z))) (Y o7 (Y o180 (Y o308 (L o564) (L o8)) (Y o8 (L o692) Z)) (Y o7 (Y o7 (L o8) (L o884)) (Y o7 (L o756) Z))))) (Y o28 (Y o44v1 (Y o7 (Y o140 (Y o7 (L o524) (L o8)) (Y o7 (L o652) Z)) (Y o7 (Y o7 (L o8) (L o844)) (Y o8 (L o716) Z))) (Y o108 (Y o172 (Y o300 (L o556) (L o7)) (Y o7 (L o8) Z)) (Y o236 (Y o364 (L o8) (L o876)) (Y o7 (L o748) Z)))) (Y o23 (Y o92 (Y o156 (Y o284 (L (o540 P)) (L o796)) (Y o412 (L o668) Z)) (Y o220 (Y o348 (L o8) (L o8)) (Y o476 (L o732) Z))) (Y o8 (Y o188 (Y (o316 P) (L o572) (L o828)) (Y o8 (L o7) Z)) (Y o252 (Y o8 (L o636) (L o892)) (Y o508 (L o764) Z))))))) (Y o6 (Y o10 (Y o7 (Y o34 (Y o7 (Y o7 (Y o7 (L o7) (L o770)) (Y o7 (L o8) (L o898))) (Y o194 (Y o7 (L o578) (L (o834 P))) (Y o450 (L o706) Z))) (Y o98 (Y o23 (Y o290 (L (o546 P)) (L o802)) (Y o418 (L o674) Z)) (Y o226 (Y o7 (L o610) (L o866)) (Y o8 (L o738) Z)))) (Y o7 (Y o82 (Y o146 (Y o274 (L o530) (L o786)) (Y o402 (L o7) Z)) (Y o210 (Y o338 (L o594) (L o850)) (Y o466 (L o722) Z))) (Y o114 (Y o178 (Y o8 (L o7) (L o818)) (Y o434 (L o7) Z)) (Y o8 (Y o370 (L o626) (L o882)) (Y o8 (L o7) Z))))) (Y o8 (Y o42 (Y o8 (Y o138 (Y o266 (L o522) (L o778)) (Y o8 (L o650) Z)) (Y o23 (Y o8 (L o586) (L o842)) (Y o458 (L o714) Z))) (Y o106 (Y o170 (Y (o298 P) (L o554) (L o810)) (Y o426 (L o682) Z)) (Y o234 (Y o362 (L o618) (L o7)) (Y o8 (L o746) Z)))) (Y o58 (Y o7 (Y o7 (Y o282 (L o538) (L o7)) (Y o7 (L o666) Z)) (Y o7 (Y o7 (L o602) (L o858)) (Y o7 (L o730) Z))) (Y o122 (Y o186 (Y o314 (L o570) (L o7)) (Y o442 (L o8) Z)) (Y o250 (Y o378 (L o7) (L o890)) (Y o506 (L o762) Z)))))) (Y o14 (Y o22 (Y o7 (Y o70 (Y o134 (Y o7 (L o7) (L o774)) (Y o390 (L o646) Z)) (Y o198 (Y o326 (L o582) (L o805)) (Y o7 (L o710) Z))) (Y o23 (Y o166 (Y o8 (L o550) (L o23)) (Y o8 (L o678) Z)) (Y o7 (Y o7 (L o7) (L o870)) (Y o486 (L o742) Z)))) (Y o54 (Y o86 (Y o8 (Y o7 (L o534) (L o790)) (Y o406 (L o7) Z)) (Y o214 (Y o342 (L o7) (L o854)) (Y o7 (L o726) Z))) (Y o118 (Y o7 (Y (o310 P) (L o7) (L o7)) (Y o7 (L o694) Z)) (Y o246 (Y o374 (L o7) (L o8)) (Y o502 (L o7) Z))))) (Y (o30 P) (Y o46 (Y o78 (Y o7 (Y (o270 P) (L o8) (L o7)) (Y o398 (L o654) Z)) (Y o206 (Y o334 (L o7) (L o8)) (Y o7 (L o718) Z))) (Y o8 (Y o174 (Y o290 (L o558) (L o814)) (Y o430 (L o7) Z)) (Y o238 (Y o8 (L o7) (L o7)) (Y o494 (L o750) Z)))) (Y o7 (Y o94 (Y o158 (Y o286 (L o542) (L o7)) (Y o7 (L o8) Z)) (Y o7 (Y o350 (L o7) (L o7)) (Y o478 (L o734) Z))) (Y o7 (Y o23 (Y o318 (L o8) (L o830)) (Y o7 (L o702) Z)) (Y o254 (Y o7 (L o638) (L o894)) (Y o510 (L o8) Z)))))))))
noncomputable def s29 (w : World) (os : OsState) : SharedT := ⟨t29 w.params, 899, lf, #[], dr, 1307, os⟩
noncomputable def o3v7 (P : Params) : Obj := ⟨.type "dict",none,(.dict #[en P "__name__" 165 (.str "pdfminer.psparser" 1162),en P "__doc__" 166 .none,en P "__package__" 167 .none,en P "__loader__" 168 (.builtin "__main__.__loader__#opaque"),en P "__spec__" 169 .none,en P "__annotations__" 170 (.ref 6),en P "__builtins__" 171 (.ref 4),en P "__file__" 173 (.str "/claim/cut.py" 172),en P "__cached__" 174 .none,en P "_wall" 193 (.ref 21),en P "PSException" 215 (.ref 31),en P "PDFException" 233 (.ref 44),en P "PDFEOFError" 251 (.ref 56),en P "Found" 308 (.ref 96),en P "Signs" 363 (.ref 137),en P "HexPairs" 389 (.ref 156),en P "Real" 420 (.ref 177),en P "cast" 428 (.ref 188),en P "CorruptDataError" 446 (.ref 198),en P "LZWDecoder" 504 (.ref 236),en P "_whence" 514 (.ref 247),en P "_index" 522 (.ref 254),en P "UnsupportedOperation" 544 (.ref 264),en P "IOBase" 576 (.ref 284),en P "BufferedIOBase" 594 (.ref 299),en P "TextIOBase" 612 (.ref 311),en P "BytesIO" 874 (.ref 541),en P "StringIO" 1161 (.ref 788),en P "PSObject" 1183 (.ref 800),en P "PSLiteral" 1225 (.ref 835),en P "PSKeyword" 1267 (.ref 868),en P "PSSymbolTable" 1306 (.ref 894),en P "PSLiteralTable" 1313 (.ref 900),en P "PSKeywordTable" 1320 (.ref 904),en P "LIT" 1322 (.ref 907),en P "KWD" 1324 (.ref 908),en P "KEYWORD_DICT_BEGIN" 1330 (.ref 910),en P "KEYWORD_DICT_END" 1336 (.ref 913)] 38),#[]⟩
noncomputable def o899 (P : Params) : Obj := ⟨.type "dict",none,(.dict #[en P "dict" 1310 (.ref 902),en P "klass" 1312 (.ref 835)] 2),#[]⟩
noncomputable def o900 : Obj := ⟨.ref 894,(some 899),.plain,#[]⟩
noncomputable def o901 (P : Params) : Obj := ⟨.type "frame",none,(.dict #[en P "self" 1307 (.ref 900),en P "klass" 1308 (.ref 835)] 2),#[]⟩
noncomputable def o903 (P : Params) : Obj := ⟨.type "dict",none,(.dict #[en P "dict" 1317 (.ref 906),en P "klass" 1319 (.ref 868)] 2),#[]⟩
noncomputable def o904 : Obj := ⟨.ref 894,(some 903),.plain,#[]⟩
noncomputable def o905 (P : Params) : Obj := ⟨.type "frame",none,(.dict #[en P "self" 1314 (.ref 904),en P "klass" 1315 (.ref 868)] 2),#[]⟩
noncomputable def o907 : Obj := ⟨.type "method",none,.fields #[.ref 891,.ref 900],#[]⟩
noncomputable def o908 : Obj := ⟨.type "method",none,.fields #[.ref 891,.ref 904],#[]⟩
noncomputable def o909 (P : Params) : Obj := ⟨.type "dict",none,(.dict #[en P "name" 1329 (.bytes #[60,60] 1325)] 1),#[]⟩
noncomputable def o910 : Obj := ⟨.ref 868,(some 909),.plain,#[]⟩
noncomputable def o911 (P : Params) : Obj := ⟨.type "frame",none,(.dict #[en P "self" 1326 (.ref 910),en P "name" 1327 (.bytes #[60,60] 1325)] 2),#[]⟩
noncomputable def o912 (P : Params) : Obj := ⟨.type "dict",none,(.dict #[en P "name" 1335 (.bytes #[62,62] 1331)] 1),#[]⟩
noncomputable def o913 : Obj := ⟨.ref 868,(some 912),.plain,#[]⟩
noncomputable def o914 (P : Params) : Obj := ⟨.type "frame",none,(.dict #[en P "self" 1332 (.ref 913),en P "name" 1333 (.bytes #[62,62] 1331)] 2),#[]⟩
noncomputable def t35 (P : Params) : BT := (Y (o0 P) (Y (o1 P) (Y (o3v7 P) (Y o7 (Y o7 (Y o31 (Y o63 (Y o127 (Y o255 (L o7) (L o767)) (Y o383 (L o639) (L o895))) (Y (o191 P) (Y o319 (L o575) (L o831)) (Y o447 (L o703) Z))) (Y (o95 P) (Y o159 (Y o287 (L o543) (L (o799 P))) (Y o8 (L o671) Z)) (Y o8 (Y o7 (L o607) (L o863)) (Y o479 (L o735) Z)))) (Y o47 (Y o79 (Y o23 (Y o7 (L o527) (L o783)) (Y o399 (L o7) (L (o911 P)))) (Y o207 (Y o335 (L o591) (L o847)) (Y o463 (L o719) Z))) (Y o111 (Y o175 (Y o23 (L o7) (L o7)) (Y o7 (L o687) Z)) (Y o239 (Y o367 (L o623) (L o8)) (Y o495 (L o7) Z))))) (Y o23 (Y o8 (Y o71 (Y o135 (Y (o263 P) (L o8) (L o7)) (Y o391 (L o647) (L (o903 P)))) (Y o199 (Y o327 (L o7) (L o23)) (Y o455 (L o711) Z))) (Y (o103 P) (Y o167 (Y o295 (L o551) (L (o807 P))) (Y o423 (L o7) Z)) (Y o231 (Y o8 (L o615) (L o7)) (Y o487 (L o743) Z)))) (Y (o55 P) (Y o7 (Y o151 (Y o279 (L o7) (L o7)) (Y o7 (L o8) Z)) (Y o7 (Y o7 (L o599) (L o7)) (Y o471 (L o727) Z))) (Y o7 (Y o8 (Y o311v1 (L o8) (L o823)) (Y o439 (L o695) Z)) (Y o247 (Y o7 (L o631) (L o887)) (Y o503 (L o8) Z)))))) (Y o7 (Y o19 (Y o35 (Y o8 (Y o8 (Y o8 (L o515) (L o771)) (Y o8 (L o643) (L (o899 P)))) (Y o195 (Y o8 (L o579) (L o835)) (Y o7 (L o7) Z))) (Y o99 (Y (o163 P) (Y o23 (L o7) (L o803)) (Y o419 (L o675) Z)) (Y o7 (Y o355 (L o7) (L (o867 P))) (Y o483 (L o7) Z)))) (Y o8 (Y o7 (Y o147 (Y o7 (L o531) (L (o787 P))) (Y o7 (L o659) Z)) (Y o7 (Y o7 (L o7) (L o851)) (Y o7 (L o7) Z))) (Y o115 (Y o179 (Y o307 (L o563) (L o7)) (Y o7 (L o8) Z)) (Y o243 (Y o371 (L o7) (L o883)) (Y o499 (L o755) Z))))) (Y o27 (Y (o43 P) (Y o75 (Y o139 (Y o267 (L o523) (L o7)) (Y o395 (L o7) (L o907))) (Y (o203 P) (Y o331 (L o7) (L o843)) (Y o7 (L o7) Z))) (Y o107 (Y o7 (Y o299v1 (L o7) (L o811)) (Y o427 (L o7) Z)) (Y (o235 P) (Y o363 (L o7) (L o875)) (Y o491 (L o7) Z)))) (Y o7 (Y o91 (Y (o155 P) (Y (o283 P) (L o539) (L o8)) (Y o411 (L o667) Z)) (Y o219 (Y o347 (L o7) (L o7)) (Y o8 (L o7) Z))) (Y o7 (Y o187 (Y o23 (L o571) (L o8)) (Y o7 (L o699) Z)) (Y o7 (Y o7 (L o8) (L o891)) (Y o7 (L o763) Z))))))) (Y o5 (Y o9 (Y o17 (Y o33 (Y o65 (Y o129 (Y (o257 P) (L o513) (L o769)) (Y o385 (L o7) (L o897))) (Y o8 (Y o321 (L o577) (L o833)) (Y o449 (L o8) Z))) (Y o97 (Y o7 (Y o289 (L o23) (L o801)) (Y o7 (L o673) Z)) (Y o225 (Y o353 (L o609) (L o865)) (Y o7 (L o8) Z)))) (Y (o49 P) (Y o8 (Y o7 (Y o273 (L o529) (L o785)) (Y o8 (L o657) (L o913))) (Y o8 (Y o8 (L o593) (L o849)) (Y o465 (L o8) Z))) (Y o113 (Y o177 (Y o7 (L o561) (L o817)) (Y o433 (L o689) Z)) (Y o7 (Y o369 (L o625) (L o7)) (Y o7 (L o753) Z))))) (Y o7 (Y o41 (Y o7 (Y o137 (Y o265 (L o7) (L o777)) (Y o7 (L o8) (L (o905 P)))) (Y o7 (Y o7 (L o585) (L o7)) (Y o457 (L o8) Z))) (Y o105 (Y o8 (Y o297 (L o8) (L o809)) (Y o425 (L o681) Z)) (Y o233 (Y o7 (L o617) (L (o873 P))) (Y o7 (L o8) Z)))) (Y o57 (Y o89 (Y o153 (Y o281 (L o537) (L (o793 P))) (Y o409 (L o7) Z)) (Y o217 (Y o345 (L o601) (L o857)) (Y o473 (L o8) Z))) (Y o121 (Y o7 (Y o313 (L o7) (L o825)) (Y o441 (L o7) Z)) (Y o8 (Y o377 (L o633) (L o889)) (Y o8 (L o7) Z)))))) (Y o13 (Y o21 (Y (o37 P) (Y o7 (Y o133 (Y o261 (L o517) (L o8)) (Y o7 (L o645) (L (o901 P)))) (Y (o197 P) (Y o7 (L o8) (L o837)) (Y o453 (L o709) Z))) (Y o7 (Y o165 (Y o7 (L o549) (L o805)) (Y o7 (L o8) Z)) (Y o229 (Y o357 (L o613) (L o869)) (Y o485 (L o741) Z)))) (Y o53 (Y o85 (Y o7 (Y o277 (L o8) (L o789)) (Y o405 (L o661) Z)) (Y o213 (Y o341 (L o597) (L o8)) (Y o469 (L o725) Z))) (Y o8 (Y o181 (Y o309 (L o565) (L o821)) (Y o437 (L o7) Z)) (Y o245 (Y o8 (L o629) (L o7)) (Y o501 (L o757) Z))))) (Y o29 (Y o45 (Y o77 (Y o141 (Y o23 (L o7) (L o781)) (Y o397 (L o653) (L (o909 P)))) (Y o205 (Y o333 (L o589) (L o7)) (Y o461 (L o717) Z))) (Y o7 (Y o173 (Y o301 (L o557) (L o8)) (Y o8 (L o685) Z)) (Y o237 (Y o7 (L o621) (L o877)) (Y o493 (L o749) Z)))) (Y (o61 P) (Y o93 (Y o157 (Y o285 (L o541) (L o797)) (Y o413 (L o7) Z)) (Y o221 (Y o349 (L o605) (L o861)) (Y o7 (L o733) Z))) (Y o125 (Y o189 (Y o7 (L o7) (L o7)) (Y o445 (L o701) Z)) (Y o253 (Y o381 (L o7) (L (o893 P))) (Y o509 (L o7) Z)))))))) (Y (o2v2 P) (Y o4 (Y o8 (Y o8 (Y o32 (Y o64 (Y o128 (Y o23 (L o8) (L o7)) (Y o384 (L o640) (L o896))) (Y o7 (Y o320 (L o7) (L o832)) (Y o448 (L o7) Z))) (Y o96 (Y o160 (Y o288 (L o544) (L o800)) (Y o416 (L o7) Z)) (Y o224 (Y o8 (L o608) (L o864)) (Y o480 (L o7) Z)))) (Y o23 (Y o7 (Y (o144 P) (Y o272 (L o7) (L o784)) (Y o7 (L o8) (L (o912 P)))) (Y o7 (Y o7 (L o592) (L o7)) (Y o464 (L o7) Z))) (Y o7 (Y (o176 P) (Y (o304 P) (L o8) (L o816)) (Y o432 (L o688) Z)) (Y o240 (Y o7 (L o624) (L o880)) (Y o496 (L o8) Z))))) (Y (o24 P) (Y o40 (Y o72 (Y (o136 P) (Y o264 (L o520) (L o776)) (Y o392 (L o7) (L o904))) (Y o200 (Y o328 (L o584) (L (o840 P))) (Y o456 (L o7) Z))) (Y o7 (Y o7 (Y o296 (L o7) (L o7)) (Y o7 (L o680) Z)) (Y o232 (Y o360 (L o616) (L o23)) (Y o488 (L o7) Z)))) (Y o56 (Y o8 (Y o152 (Y o280 (L o536) (L o23)) (Y o8 (L o664) Z)) (Y o8 (Y o8 (L o600) (L o856)) (Y o472 (L o7) Z))) (Y o120 (Y o184 (Y o312 (L o568) (L o824)) (Y o440 (L o696) Z)) (Y o7 (Y o376 (L o632) (L o7)) (Y o7 (L o760) Z)))))) (Y o12v6 (Y o20 (Y o23 (Y o68 (Y o132 (Y o260 (L o516) (L o7)) (Y o388 (L o7) (L o900))) (Y o196 (Y o324 (L o7) (L o836)) (Y o8 (L o708) Z))) (Y o100 (Y o7 (Y (o292 P) (L o548) (L o804)) (Y o420 (L o7) Z)) (Y o8 (Y o356 (L o8) (L o868)) (Y o7 (L o740) Z)))) (Y o52 (Y o84 (Y o148 (Y o8 (L o7) (L o788)) (Y o404 (L o660) Z)) (Y o212 (Y o340 (L o8) (L o7)) (Y o8 (L o724) Z))) (Y o7 (Y o180 (Y o308 (L o564) (L o8)) (Y o8 (L o692) Z)) (Y o7 (Y o7 (L o8) (L o884)) (Y o7 (L o756) Z))))) (Y o28 (Y o44v1 (Y o7 (Y o140 (Y o7 (L o524) (L o8)) (Y o7 (L o652) (L o908))) (Y o7 (Y o7 (L o8) (L o844)) (Y o8 (L o716) Z))) (Y o108 (Y o172 (Y o300 (L o556) (L o7)) (Y o7 (L o8) Z)) (Y o236 (Y o364 (L o8) (L o876)) (Y o7 (L o748) Z)))) (Y o23 (Y o92 (Y o156 (Y o284 (L (o540 P)) (L o796)) (Y o412 (L o668) Z)) (Y o220 (Y o348 (L o8) (L o8)) (Y o476 (L o732) Z))) (Y o8 (Y o188 (Y (o316 P) (L o572) (L o828)) (Y o8 (L o7) Z)) (Y o252 (Y o8 (L o636) (L o892)) (Y o508 (L o764) Z))))))) (Y o6 (Y o10 (Y o7 (Y o34 (Y o7 (Y o7 (Y o7 (L o7) (L o770)) (Y o7 (L o8) (L o898))) (Y o194 (Y o7 (L o578) (L (o834 P))) (Y o450 (L o706) Z))) (Y o98 (Y o23 (Y o290 (L (o546 P)) (L o802)) (Y o418 (L o674) Z)) (Y o226 (Y o7 (L o610) (L o866)) (Y o8 (L o738) Z)))) (Y o7 (Y o82 (Y o146 (Y o274 (L o530) (L o786)) (Y o402 (L o7) (L (o914 P)))) (Y o210 (Y o338 (L o594) (L o850)) (Y o466 (L o722) Z))) (Y o114 (Y o178 (Y o8 (L o7) (L o818)) (Y o434 (L o7) Z)) (Y o8 (Y o370 (L o626) (L o882)) (Y o8 (L o7) Z))))) (Y o8 (Y o42 (Y o8 (Y o138 (Y o266 (L o522) (L o778)) (Y o8 (L o650) (L o6))) (Y o23 (Y o8 (L o586) (L o842)) (Y o458 (L o714) Z))) (Y o106 (Y o170 (Y (o298 P) (L o554) (L o810)) (Y o426 (L o682) Z)) (Y o234 (Y o362 (L o618) (L o7)) (Y o8 (L o746) Z)))) (Y o58 (Y o7 (Y o7 (Y o282 (L o538) (L o7)) (Y o7 (L o666) Z)) (Y o7 (Y o7 (L o602) (L o858)) (Y o7 (L o730) Z))) (Y o122 (Y o186 (Y o314 (L o570) (L o7)) (Y o442 (L o8) Z)) (Y o250 (Y o378 (L o7) (L o890)) (Y o506 (L o762) Z)))))) (Y o14 (Y o22 (Y o7 (Y o70 (Y o134 (Y o7 (L o7) (L o774)) (Y o390 (L o646) (L o6))) (Y o198 (Y o326 (L o582) (L o805)) (Y o7 (L o710) Z))) (Y o23 (Y o166 (Y o8 (L o550) (L o23)) (Y o8 (L o678) Z)) (Y o7 (Y o7 (L o7) (L o870)) (Y o486 (L o742) Z)))) (Y o54 (Y o86 (Y o8 (Y o7 (L o534) (L o790)) (Y o406 (L o7) Z)) (Y o214 (Y o342 (L o7) (L o854)) (Y o7 (L o726) Z))) (Y o118 (Y o7 (Y (o310 P) (L o7) (L o7)) (Y o7 (L o694) Z)) (Y o246 (Y o374 (L o7) (L o8)) (Y o502 (L o7) Z))))) (Y (o30 P) (Y o46 (Y o78 (Y o7 (Y (o270 P) (L o8) (L o7)) (Y o398 (L o654) (L o910))) (Y o206 (Y o334 (L o7) (L o8)) (Y o7 (L o718) Z))) (Y o8 (Y o174 (Y o290 (L o558) (L o814)) (Y o430 (L o7) Z)) (Y o238 (Y o8 (L o7) (L o7)) (Y o494 (L o750) Z)))) (Y o7 (Y o94 (Y o158 (Y o286 (L o542) (L o7)) (Y o7 (L o8) Z)) (Y o7 (Y o350 (L o7) (L o7)) (Y o478 (L o734) Z))) (Y o7 (Y o23 (Y o318 (L o8) (L o830)) (Y o7 (L o702) Z)) (Y o254 (Y o7 (L o638) (L o894)) (Y o510 (L o8) Z)))))))))
noncomputable def s35 (w : World) (os : OsState) : SharedT := ⟨t35 w.params, 915, lf, #[], dr, 1337, os⟩
noncomputable def o3v8 (P : Params) : Obj := ⟨.type "dict",none,(.dict #[en P "__name__" 165 (.str "pdfminer.psparser" 1162),en P "__doc__" 166 .none,en P "__package__" 167 .none,en P "__loader__" 168 (.builtin "__main__.__loader__#opaque"),en P "__spec__" 169 .none,en P "__annotations__" 170 (.ref 6),en P "__builtins__" 171 (.ref 4),en P "__file__" 173 (.str "/claim/cut.py" 172),en P "__cached__" 174 .none,en P "_wall" 193 (.ref 21),en P "PSException" 215 (.ref 31),en P "PDFException" 233 (.ref 44),en P "PDFEOFError" 251 (.ref 56),en P "Found" 308 (.ref 96),en P "Signs" 363 (.ref 137),en P "HexPairs" 389 (.ref 156),en P "Real" 420 (.ref 177),en P "cast" 428 (.ref 188),en P "CorruptDataError" 446 (.ref 198),en P "LZWDecoder" 504 (.ref 236),en P "_whence" 514 (.ref 247),en P "_index" 522 (.ref 254),en P "UnsupportedOperation" 544 (.ref 264),en P "IOBase" 576 (.ref 284),en P "BufferedIOBase" 594 (.ref 299),en P "TextIOBase" 612 (.ref 311),en P "BytesIO" 874 (.ref 541),en P "StringIO" 1161 (.ref 788),en P "PSObject" 1183 (.ref 800),en P "PSLiteral" 1225 (.ref 835),en P "PSKeyword" 1267 (.ref 868),en P "PSSymbolTable" 1306 (.ref 894),en P "PSLiteralTable" 1313 (.ref 900),en P "PSKeywordTable" 1320 (.ref 904),en P "LIT" 1322 (.ref 907),en P "KWD" 1324 (.ref 908),en P "KEYWORD_DICT_BEGIN" 1330 (.ref 910),en P "KEYWORD_DICT_END" 1336 (.ref 913),en P "EOL" 1345 (.ref 916),en P "SPC" 1354 (.ref 923),en P "NONSPC" 1363 (.ref 930),en P "HEX" 1372 (.ref 937),en P "END_LITERAL" 1381 (.ref 944)] 43),#[]⟩
noncomputable def o915 (P : Params) : Obj := ⟨.type "dict",none,(.dict #[en P "octets" 1342 (.bytes #[13,10] 1337),en P "among" 1344 (.bool true)] 2),#[]⟩
noncomputable def o916 : Obj := ⟨.ref 137,(some 915),.plain,#[]⟩
noncomputable def o917 (P : Params) : Obj := ⟨.type "frame",none,(.dict #[en P "self" 1338 (.ref 916),en P "octets" 1339 (.bytes #[13,10] 1337),en P "among" 1340 (.bool true)] 3),#[]⟩
noncomputable def o918 : Obj := sq #[.bytes #[13,10] 1337,.bool true]
noncomputable def o919 : Obj := ⟨.type "tuple_iterator",none,.fields #[.none,.int 2 0],#[]⟩
noncomputable def o921 : Obj := ⟨.type "StopIteration",none,.fields #[.ref 920,.none,.none,.none,.bool false,.none],#[]⟩
noncomputable def o922 (P : Params) : Obj := ⟨.type "dict",none,(.dict #[en P "octets" 1351 (.bytes #[32,9,10,13,11,12] 1346),en P "among" 1353 (.bool true)] 2),#[]⟩
noncomputable def o923 : Obj := ⟨.ref 137,(some 922),.plain,#[]⟩
noncomputable def o924 (P : Params) : Obj := ⟨.type "frame",none,(.dict #[en P "self" 1347 (.ref 923),en P "octets" 1348 (.bytes #[32,9,10,13,11,12] 1346),en P "among" 1349 (.bool true)] 3),#[]⟩
noncomputable def o925 : Obj := sq #[.bytes #[32,9,10,13,11,12] 1346,.bool true]
noncomputable def o928 : Obj := ⟨.type "StopIteration",none,.fields #[.ref 927,.none,.none,.none,.bool false,.none],#[]⟩
noncomputable def o929 (P : Params) : Obj := ⟨.type "dict",none,(.dict #[en P "octets" 1360 (.bytes #[32,9,10,13,11,12] 1355),en P "among" 1362 (.bool false)] 2),#[]⟩
noncomputable def o930 : Obj := ⟨.ref 137,(some 929),.plain,#[]⟩
noncomputable def o931 (P : Params) : Obj := ⟨.type "frame",none,(.dict #[en P "self" 1356 (.ref 930),en P "octets" 1357 (.bytes #[32,9,10,13,11,12] 1355),en P "among" 1358 (.bool false)] 3),#[]⟩
noncomputable def o932 : Obj := sq #[.bytes #[32,9,10,13,11,12] 1355,.bool false]
noncomputable def o935 : Obj := ⟨.type "StopIteration",none,.fields #[.ref 934,.none,.none,.none,.bool false,.none],#[]⟩
noncomputable def o936 (P : Params) : Obj := ⟨.type "dict",none,(.dict #[en P "octets" 1369 (.bytes #[48,49,50,51,52,53,54,55,56,57,97,98,99,100,101,102,65,66,67,68,69,70] 1364),en P "among" 1371 (.bool true)] 2),#[]⟩
noncomputable def o937 : Obj := ⟨.ref 137,(some 936),.plain,#[]⟩
noncomputable def o938 (P : Params) : Obj := ⟨.type "frame",none,(.dict #[en P "self" 1365 (.ref 937),en P "octets" 1366 (.bytes #[48,49,50,51,52,53,54,55,56,57,97,98,99,100,101,102,65,66,67,68,69,70] 1364),en P "among" 1367 (.bool true)] 3),#[]⟩
noncomputable def o939 : Obj := sq #[.bytes #[48,49,50,51,52,53,54,55,56,57,97,98,99,100,101,102,65,66,67,68,69,70] 1364,.bool true]
noncomputable def o942 : Obj := ⟨.type "StopIteration",none,.fields #[.ref 941,.none,.none,.none,.bool false,.none],#[]⟩
noncomputable def o943 (P : Params) : Obj := ⟨.type "dict",none,(.dict #[en P "octets" 1378 (.bytes #[35,47,37,91,93,40,41,60,62,123,125,32,9,10,13,11,12] 1373),en P "among" 1380 (.bool true)] 2),#[]⟩
noncomputable def o944 : Obj := ⟨.ref 137,(some 943),.plain,#[]⟩
noncomputable def o945 (P : Params) : Obj := ⟨.type "frame",none,(.dict #[en P "self" 1374 (.ref 944),en P "octets" 1375 (.bytes #[35,47,37,91,93,40,41,60,62,123,125,32,9,10,13,11,12] 1373),en P "among" 1376 (.bool true)] 3),#[]⟩
noncomputable def o946 : Obj := sq #[.bytes #[35,47,37,91,93,40,41,60,62,123,125,32,9,10,13,11,12] 1373,.bool true]
noncomputable def o949 : Obj := ⟨.type "StopIteration",none,.fields #[.ref 948,.none,.none,.none,.bool false,.none],#[]⟩
noncomputable def t40 (P : Params) : BT := (Y (o0 P) (Y (o1 P) (Y (o3v8 P) (Y o7 (Y o7 (Y o31 (Y o63 (Y o127 (Y o255 (L o7) (L o767)) (Y o383 (L o639) (L o895))) (Y (o191 P) (Y o319 (L o575) (L o831)) (Y o447 (L o703) Z))) (Y (o95 P) (Y o159 (Y o287 (L o543) (L (o799 P))) (Y o8 (L o671) (L o7))) (Y o8 (Y o7 (L o607) (L o863)) (Y o479 (L o735) Z)))) (Y o47 (Y o79 (Y o23 (Y o7 (L o527) (L o783)) (Y o399 (L o7) (L (o911 P)))) (Y o207 (Y o335 (L o591) (L o847)) (Y o463 (L o719) Z))) (Y o111 (Y o175 (Y o23 (L o7) (L o7)) (Y o7 (L o687) (L (o943 P)))) (Y o239 (Y o367 (L o623) (L o8)) (Y o495 (L o7) Z))))) (Y o23 (Y o8 (Y o71 (Y o135 (Y (o263 P) (L o8) (L o7)) (Y o391 (L o647) (L (o903 P)))) (Y o199 (Y o327 (L o7) (L o23)) (Y o455 (L o711) Z))) (Y (o103 P) (Y o167 (Y o295 (L o551) (L (o807 P))) (Y o423 (L o7) (L o935))) (Y o231 (Y o8 (L o615) (L o7)) (Y o487 (L o743) Z)))) (Y (o55 P) (Y o7 (Y o151 (Y o279 (L o7) (L o7)) (Y o7 (L o8) (L o919))) (Y o7 (Y o7 (L o599) (L o7)) (Y o471 (L o727) Z))) (Y o7 (Y o8 (Y o311v1 (L o8) (L o823)) (Y o439 (L o695) Z)) (Y o247 (Y o7 (L o631) (L o887)) (Y o503 (L o8) Z)))))) (Y o7 (Y o19 (Y o35 (Y o8 (Y o8 (Y o8 (L o515) (L o771)) (Y o8 (L o643) (L (o899 P)))) (Y o195 (Y o8 (L o579) (L o835)) (Y o7 (L o7) Z))) (Y o99 (Y (o163 P) (Y o23 (L o7) (L o803)) (Y o419 (L o675) (L (o931 P)))) (Y o7 (Y o355 (L o7) (L (o867 P))) (Y o483 (L o7) Z)))) (Y o8 (Y o7 (Y o147 (Y o7 (L o531) (L (o787 P))) (Y o7 (L o659) (L (o915 P)))) (Y o7 (Y o7 (L o7) (L o851)) (Y o7 (L o7) Z))) (Y o115 (Y o179 (Y o307 (L o563) (L o7)) (Y o7 (L o8) (L o919))) (Y o243 (Y o371 (L o7) (L o883)) (Y o499 (L o755) Z))))) (Y o27 (Y (o43 P) (Y o75 (Y o139 (Y o267 (L o523) (L o7)) (Y o395 (L o7) (L o907))) (Y (o203 P) (Y o331 (L o7) (L o843)) (Y o7 (L o7) Z))) (Y o107 (Y o7 (Y o299v1 (L o7) (L o811)) (Y o427 (L o7) (L o939))) (Y (o235 P) (Y o363 (L o7) (L o875)) (Y o491 (L o7) Z)))) (Y o7 (Y o91 (Y (o155 P) (Y (o283 P) (L o539) (L o8)) (Y o411 (L o667) (L o923))) (Y o219 (Y o347 (L o7) (L o7)) (Y o8 (L o7) Z))) (Y o7 (Y o187 (Y o23 (L o571) (L o8)) (Y o7 (L o699) Z)) (Y o7 (Y o7 (L o8) (L o891)) (Y o7 (L o763) Z))))))) (Y o5 (Y o9 (Y o17 (Y o33 (Y o65 (Y o129 (Y (o257 P) (L o513) (L o769)) (Y o385 (L o7) (L o897))) (Y o8 (Y o321 (L o577) (L o833)) (Y o449 (L o8) Z))) (Y o97 (Y o7 (Y o289 (L o23) (L o801)) (Y o7 (L o673) (L (o929 P)))) (Y o225 (Y o353 (L o609) (L o865)) (Y o7 (L o8) Z)))) (Y (o49 P) (Y o8 (Y o7 (Y o273 (L o529) (L o785)) (Y o8 (L o657) (L o913))) (Y o8 (Y o8 (L o593) (L o849)) (Y o465 (L o8) Z))) (Y o113 (Y o177 (Y o7 (L o561) (L o817)) (Y o433 (L o689) (L (o945 P)))) (Y o7 (Y o369 (L o625) (L o7)) (Y o7 (L o753) Z))))) (Y o7 (Y o41 (Y o7 (Y o137 (Y o265 (L o7) (L o777)) (Y o7 (L o8) (L (o905 P)))) (Y o7 (Y o7 (L o585) (L o7)) (Y o457 (L o8) Z))) (Y o105 (Y o8 (Y o297 (L o8) (L o809)) (Y o425 (L o681) (L o937))) (Y o233 (Y o7 (L o617) (L (o873 P))) (Y o7 (L o8) Z)))) (Y o57 (Y o89 (Y o153 (Y o281 (L o537) (L (o793 P))) (Y o409 (L o7) (L o921))) (Y o217 (Y o345 (L o601) (L o857)) (Y o473 (L o8) Z))) (Y o121 (Y o7 (Y o313 (L o7) (L o825)) (Y o441 (L o7) Z)) (Y o8 (Y o377 (L o633) (L o889)) (Y o8 (L o7) Z)))))) (Y o13 (Y o21 (Y (o37 P) (Y o7 (Y o133 (Y o261 (L o517) (L o8)) (Y o7 (L o645) (L (o901 P)))) (Y (o197 P) (Y o7 (L o8) (L o837)) (Y o453 (L o709) Z))) (Y o7 (Y o165 (Y o7 (L o549) (L o805)) (Y o7 (L o8) (L o919))) (Y o229 (Y o357 (L o613) (L o869)) (Y o485 (L o741) Z)))) (Y o53 (Y o85 (Y o7 (Y o277 (L o8) (L o789)) (Y o405 (L o661) (L (o917 P)))) (Y o213 (Y o341 (L o597) (L o8)) (Y o469 (L o725) Z))) (Y o8 (Y o181 (Y o309 (L o565) (L o821)) (Y o437 (L o7) (L o949))) (Y o245 (Y o8 (L o629) (L o7)) (Y o501 (L o757) Z))))) (Y o29 (Y o45 (Y o77 (Y o141 (Y o23 (L o7) (L o781)) (Y o397 (L o653) (L (o909 P)))) (Y o205 (Y o333 (L o589) (L o7)) (Y o461 (L o717) Z))) (Y o7 (Y o173 (Y o301 (L o557) (L o8)) (Y o8 (L o685) (L o7))) (Y o237 (Y o7 (L o621) (L o877)) (Y o493 (L o749) Z)))) (Y (o61 P) (Y o93 (Y o157 (Y o285 (L o541) (L o797)) (Y o413 (L o7) (L o925))) (Y o221 (Y o349 (L o605) (L o861)) (Y o7 (L o733) Z))) (Y o125 (Y o189 (Y o7 (L o7) (L o7)) (Y o445 (L o701) Z)) (Y o253 (Y o381 (L o7) (L (o893 P))) (Y o509 (L o7) Z)))))))) (Y (o2v2 P) (Y o4 (Y o8 (Y o8 (Y o32 (Y o64 (Y o128 (Y o23 (L o8) (L o7)) (Y o384 (L o640) (L o896))) (Y o7 (Y o320 (L o7) (L o832)) (Y o448 (L o7) Z))) (Y o96 (Y o160 (Y o288 (L o544) (L o800)) (Y o416 (L o7) (L o928))) (Y o224 (Y o8 (L o608) (L o864)) (Y o480 (L o7) Z)))) (Y o23 (Y o7 (Y (o144 P) (Y o272 (L o7) (L o784)) (Y o7 (L o8) (L (o912 P)))) (Y o7 (Y o7 (L o592) (L o7)) (Y o464 (L o7) Z))) (Y o7 (Y (o176 P) (Y (o304 P) (L o8) (L o816)) (Y o432 (L o688) (L o944))) (Y o240 (Y o7 (L o624) (L o880)) (Y o496 (L o8) Z))))) (Y (o24 P) (Y o40 (Y o72 (Y (o136 P) (Y o264 (L o520) (L o776)) (Y o392 (L o7) (L o904))) (Y o200 (Y o328 (L o584) (L (o840 P))) (Y o456 (L o7) Z))) (Y o7 (Y o7 (Y o296 (L o7) (L o7)) (Y o7 (L o680) (L (o936 P)))) (Y o232 (Y o360 (L o616) (L o23)) (Y o488 (L o7) Z)))) (Y o56 (Y o8 (Y o152 (Y o280 (L o536) (L o23)) (Y o8 (L o664) (L o7))) (Y o8 (Y o8 (L o600) (L o856)) (Y o472 (L o7) Z))) (Y o120 (Y o184 (Y o312 (L o568) (L o824)) (Y o440 (L o696) Z)) (Y o7 (Y o376 (L o632) (L o7)) (Y o7 (L o760) Z)))))) (Y o12v6 (Y o20 (Y o23 (Y o68 (Y o132 (Y o260 (L o516) (L o7)) (Y o388 (L o7) (L o900))) (Y o196 (Y o324 (L o7) (L o836)) (Y o8 (L o708) Z))) (Y o100 (Y o7 (Y (o292 P) (L o548) (L o804)) (Y o420 (L o7) (L o932))) (Y o8 (Y o356 (L o8) (L o868)) (Y o7 (L o740) Z)))) (Y o52 (Y o84 (Y o148 (Y o8 (L o7) (L o788)) (Y o404 (L o660) (L o916))) (Y o212 (Y o340 (L o8) (L o7)) (Y o8 (L o724) Z))) (Y o7 (Y o180 (Y o308 (L o564) (L o8)) (Y o8 (L o692) (L o7))) (Y o7 (Y o7 (L o8) (L o884)) (Y o7 (L o756) Z))))) (Y o28 (Y o44v1 (Y o7 (Y o140 (Y o7 (L o524) (L o8)) (Y o7 (L o652) (L o908))) (Y o7 (Y o7 (L o8) (L o844)) (Y o8 (L o716) Z))) (Y o108 (Y o172 (Y o300 (L o556) (L o7)) (Y o7 (L o8) (L o919))) (Y o236 (Y o364 (L o8) (L o876)) (Y o7 (L o748) Z)))) (Y o23 (Y o92 (Y o156 (Y o284 (L (o540 P)) (L o796)) (Y o412 (L o668) (L (o924 P)))) (Y o220 (Y o348 (L o8) (L o8)) (Y o476 (L o732) Z))) (Y o8 (Y o188 (Y (o316 P) (L o572) (L o828)) (Y o8 (L o7) Z)) (Y o252 (Y o8 (L o636) (L o892)) (Y o508 (L o764) Z))))))) (Y o6 (Y o10 (Y o7 (Y o34 (Y o7 (Y o7 (Y o7 (L o7) (L o770)) (Y o7 (L o8) (L o898))) (Y o194 (Y o7 (L o578) (L (o834 P))) (Y o450 (L o706) Z))) (Y o98 (Y o23 (Y o290 (L (o546 P)) (L o802)) (Y o418 (L o674) (L o930))) (Y o226 (Y o7 (L o610) (L o866)) (Y o8 (L o738) Z)))) (Y o7 (Y o82 (Y o146 (Y o274 (L o530) (L o786)) (Y o402 (L o7) (L (o914 P)))) (Y o210 (Y o338 (L o594) (L o850)) (Y o466 (L o722) Z))) (Y o114 (Y o178 (Y o8 (L o7) (L o818)) (Y o434 (L o7) (L o946))) (Y o8 (Y o370 (L o626) (L o882)) (Y o8 (L o7) Z))))) (Y o8 (Y o42 (Y o8 (Y o138 (Y o266 (L o522) (L o778)) (Y o8 (L o650) (L o6))) (Y o23 (Y o8 (L o586) (L o842)) (Y o458 (L o714) Z))) (Y o106 (Y o170 (Y (o298 P) (L o554) (L o810)) (Y o426 (L o682) (L (o938 P)))) (Y o234 (Y o362 (L o618) (L o7)) (Y o8 (L o746) Z)))) (Y o58 (Y o7 (Y o7 (Y o282 (L o538) (L o7)) (Y o7 (L o666) (L (o922 P)))) (Y o7 (Y o7 (L o602) (L o858)) (Y o7 (L o730) Z))) (Y o122 (Y o186 (Y o314 (L o570) (L o7)) (Y o442 (L o8) Z)) (Y o250 (Y o378 (L o7) (L o890)) (Y o506 (L o762) Z)))))) (Y o14 (Y o22 (Y o7 (Y o70 (Y o134 (Y o7 (L o7) (L o774)) (Y o390 (L o646) (L o6))) (Y o198 (Y o326 (L o582) (L o805)) (Y o7 (L o710) Z))) (Y o23 (Y o166 (Y o8 (L o550) (L o23)) (Y o8 (L o678) (L o7))) (Y o7 (Y o7 (L o7) (L o870)) (Y o486 (L o742) Z)))) (Y o54 (Y o86 (Y o8 (Y o7 (L o534) (L o790)) (Y o406 (L o7) (L o918))) (Y o214 (Y o342 (L o7) (L o854)) (Y o7 (L o726) Z))) (Y o118 (Y o7 (Y (o310 P) (L o7) (L o7)) (Y o7 (L o694) Z)) (Y o246 (Y o374 (L o7) (L o8)) (Y o502 (L o7) Z))))) (Y (o30 P) (Y o46 (Y o78 (Y o7 (Y (o270 P) (L o8) (L o7)) (Y o398 (L o654) (L o910))) (Y o206 (Y o334 (L o7) (L o8)) (Y o7 (L o718) Z))) (Y o8 (Y o174 (Y o290 (L o558) (L o814)) (Y o430 (L o7) (L o942))) (Y o238 (Y o8 (L o7) (L o7)) (Y o494 (L o750) Z)))) (Y o7 (Y o94 (Y o158 (Y o286 (L o542) (L o7)) (Y o7 (L o8) (L o919))) (Y o7 (Y o350 (L o7) (L o7)) (Y o478 (L o734) Z))) (Y o7 (Y o23 (Y o318 (L o8) (L o830)) (Y o7 (L o702) Z)) (Y o254 (Y o7 (L o638) (L o894)) (Y o510 (L o8) Z)))))))))
noncomputable def s40 (w : World) (os : OsState) : SharedT := ⟨t40 w.params, 950, lf, #[], dr, 1382, os⟩
noncomputable def o3v9 (P : Params) : Obj := ⟨.type "dict",none,(.dict #[en P "__name__" 165 (.str "pdfminer.psparser" 1162),en P "__doc__" 166 .none,en P "__package__" 167 .none,en P "__loader__" 168 (.builtin "__main__.__loader__#opaque"),en P "__spec__" 169 .none,en P "__annotations__" 170 (.ref 6),en P "__builtins__" 171 (.ref 4),en P "__file__" 173 (.str "/claim/cut.py" 172),en P "__cached__" 174 .none,en P "_wall" 193 (.ref 21),en P "PSException" 215 (.ref 31),en P "PDFException" 233 (.ref 44),en P "PDFEOFError" 251 (.ref 56),en P "Found" 308 (.ref 96),en P "Signs" 363 (.ref 137),en P "HexPairs" 389 (.ref 156),en P "Real" 420 (.ref 177),en P "cast" 428 (.ref 188),en P "CorruptDataError" 446 (.ref 198),en P "LZWDecoder" 504 (.ref 236),en P "_whence" 514 (.ref 247),en P "_index" 522 (.ref 254),en P "UnsupportedOperation" 544 (.ref 264),en P "IOBase" 576 (.ref 284),en P "BufferedIOBase" 594 (.ref 299),en P "TextIOBase" 612 (.ref 311),en P "BytesIO" 874 (.ref 541),en P "StringIO" 1161 (.ref 788),en P "PSObject" 1183 (.ref 800),en P "PSLiteral" 1225 (.ref 835),en P "PSKeyword" 1267 (.ref 868),en P "PSSymbolTable" 1306 (.ref 894),en P "PSLiteralTable" 1313 (.ref 900),en P "PSKeywordTable" 1320 (.ref 904),en P "LIT" 1322 (.ref 907),en P "KWD" 1324 (.ref 908),en P "KEYWORD_DICT_BEGIN" 1330 (.ref 910),en P "KEYWORD_DICT_END" 1336 (.ref 913),en P "EOL" 1345 (.ref 916),en P "SPC" 1354 (.ref 923),en P "NONSPC" 1363 (.ref 930),en P "HEX" 1372 (.ref 937),en P "END_LITERAL" 1381 (.ref 944),en P "END_HEX_STRING" 1390 (.ref 951),en P "HEX_PAIR" 1391 (.ref 958),en P "END_NUMBER" 1400 (.ref 960),en P "END_KEYWORD" 1409 (.ref 967),en P "END_STRING" 1418 (.ref 974),en P "OCT_STRING" 1427 (.ref 981)] 49),#[]⟩
noncomputable def o950 (P : Params) : Obj := ⟨.type "dict",none,(.dict #[en P "octets" 1387 (.bytes #[32,9,10,13,11,12,48,49,50,51,52,53,54,55,56,57,97,98,99,100,101,102,65,66,67,68,69,70] 1382),en P "among" 1389 (.bool false)] 2),#[]⟩
noncomputable def o951 : Obj := ⟨.ref 137,(some 950),.plain,#[]⟩
noncomputable def o952 (P : Params) : Obj := ⟨.type "frame",none,(.dict #[en P "self" 1383 (.ref 951),en P "octets" 1384 (.bytes #[32,9,10,13,11,12,48,49,50,51,52,53,54,55,56,57,97,98,99,100,101,102,65,66,67,68,69,70] 1382),en P "among" 1385 (.bool false)] 3),#[]⟩
noncomputable def o953 : Obj := sq #[.bytes #[32,9,10,13,11,12,48,49,50,51,52,53,54,55,56,57,97,98,99,100,101,102,65,66,67,68,69,70] 1382,.bool false]
noncomputable def o956 : Obj := ⟨.type "StopIteration",none,.fields #[.ref 955,.none,.none,.none,.bool false,.none],#[]⟩
noncomputable def o958 : Obj := ⟨.ref 156,(some 957),.plain,#[]⟩
noncomputable def o959 (P : Params) : Obj := ⟨.type "dict",none,(.dict #[en P "octets" 1397 (.bytes #[48,49,50,51,52,53,54,55,56,57] 1392),en P "among" 1399 (.bool false)] 2),#[]⟩
noncomputable def o960 : Obj := ⟨.ref 137,(some 959),.plain,#[]⟩
noncomputable def o961 (P : Params) : Obj := ⟨.type "frame",none,(.dict #[en P "self" 1393 (.ref 960),en P "octets" 1394 (.bytes #[48,49,50,51,52,53,54,55,56,57] 1392),en P "among" 1395 (.bool false)] 3),#[]⟩
noncomputable def o962 : Obj := sq #[.bytes #[48,49,50,51,52,53,54,55,56,57] 1392,.bool false]
noncomputable def o965 : Obj := ⟨.type "StopIteration",none,.fields #[.ref 964,.none,.none,.none,.bool false,.none],#[]⟩
noncomputable def o966 (P : Params) : Obj := ⟨.type "dict",none,(.dict #[en P "octets" 1406 (.bytes #[35,47,37,91,93,40,41,60,62,123,125,32,9,10,13,11,12] 1401),en P "among" 1408 (.bool true)] 2),#[]⟩
noncomputable def o967 : Obj := ⟨.ref 137,(some 966),.plain,#[]⟩
noncomputable def o968 (P : Params) : Obj := ⟨.type "frame",none,(.dict #[en P "self" 1402 (.ref 967),en P "octets" 1403 (.bytes #[35,47,37,91,93,40,41,60,62,123,125,32,9,10,13,11,12] 1401),en P "among" 1404 (.bool true)] 3),#[]⟩
noncomputable def o969 : Obj := sq #[.bytes #[35,47,37,91,93,40,41,60,62,123,125,32,9,10,13,11,12] 1401,.bool true]
noncomputable def o972 : Obj := ⟨.type "StopIteration",none,.fields #[.ref 971,.none,.none,.none,.bool false,.none],#[]⟩
noncomputable def o973 (P : Params) : Obj := ⟨.type "dict",none,(.dict #[en P "octets" 1415 (.bytes #[40,41,92] 1410),en P "among" 1417 (.bool true)] 2),#[]⟩
noncomputable def o974 : Obj := ⟨.ref 137,(some 973),.plain,#[]⟩
noncomputable def o975 (P : Params) : Obj := ⟨.type "frame",none,(.dict #[en P "self" 1411 (.ref 974),en P "octets" 1412 (.bytes #[40,41,92] 1410),en P "among" 1413 (.bool true)] 3),#[]⟩
noncomputable def o976 : Obj := sq #[.bytes #[40,41,92] 1410,.bool true]
noncomputable def o979 : Obj := ⟨.type "StopIteration",none,.fields #[.ref 978,.none,.none,.none,.bool false,.none],#[]⟩
noncomputable def o980 (P : Params) : Obj := ⟨.type "dict",none,(.dict #[en P "octets" 1424 (.bytes #[48,49,50,51,52,53,54,55] 1419),en P "among" 1426 (.bool true)] 2),#[]⟩
noncomputable def o981 : Obj := ⟨.ref 137,(some 980),.plain,#[]⟩
noncomputable def o982 (P : Params) : Obj := ⟨.type "frame",none,(.dict #[en P "self" 1420 (.ref 981),en P "octets" 1421 (.bytes #[48,49,50,51,52,53,54,55] 1419),en P "among" 1422 (.bool true)] 3),#[]⟩
noncomputable def o983 : Obj := sq #[.bytes #[48,49,50,51,52,53,54,55] 1419,.bool true]
noncomputable def o986 : Obj := ⟨.type "StopIteration",none,.fields #[.ref 985,.none,.none,.none,.bool false,.none],#[]⟩
noncomputable def t46 (P : Params) : BT := (Y (o0 P) (Y (o1 P) (Y (o3v9 P) (Y o7 (Y o7 (Y o31 (Y o63 (Y o127 (Y o255 (L o7) (L o767)) (Y o383 (L o639) (L o895))) (Y (o191 P) (Y o319 (L o575) (L o831)) (Y o447 (L o703) (L (o959 P))))) (Y (o95 P) (Y o159 (Y o287 (L o543) (L (o799 P))) (Y o8 (L o671) (L o7))) (Y o8 (Y o7 (L o607) (L o863)) (Y o479 (L o735) Z)))) (Y o47 (Y o79 (Y o23 (Y o7 (L o527) (L o783)) (Y o399 (L o7) (L (o911 P)))) (Y o207 (Y o335 (L o591) (L o847)) (Y o463 (L o719) (L (o975 P))))) (Y o111 (Y o175 (Y o23 (L o7) (L o7)) (Y o7 (L o687) (L (o943 P)))) (Y o239 (Y o367 (L o623) (L o8)) (Y o495 (L o7) Z))))) (Y o23 (Y o8 (Y o71 (Y o135 (Y (o263 P) (L o8) (L o7)) (Y o391 (L o647) (L (o903 P)))) (Y o199 (Y o327 (L o7) (L o23)) (Y o455 (L o711) (L o967)))) (Y (o103 P) (Y o167 (Y o295 (L o551) (L (o807 P))) (Y o423 (L o7) (L o935))) (Y o231 (Y o8 (L o615) (L o7)) (Y o487 (L o743) Z)))) (Y (o55 P) (Y o7 (Y o151 (Y o279 (L o7) (L o7)) (Y o7 (L o8) (L o919))) (Y o7 (Y o7 (L o599) (L o7)) (Y o471 (L o727) (L o983)))) (Y o7 (Y o8 (Y o311v1 (L o8) (L o823)) (Y o439 (L o695) (L o951))) (Y o247 (Y o7 (L o631) (L o887)) (Y o503 (L o8) Z)))))) (Y o7 (Y o19 (Y o35 (Y o8 (Y o8 (Y o8 (L o515) (L o771)) (Y o8 (L o643) (L (o899 P)))) (Y o195 (Y o8 (L o579) (L o835)) (Y o7 (L o7) (L o919)))) (Y o99 (Y (o163 P) (Y o23 (L o7) (L o803)) (Y o419 (L o675) (L (o931 P)))) (Y o7 (Y o355 (L o7) (L (o867 P))) (Y o483 (L o7) Z)))) (Y o8 (Y o7 (Y o147 (Y o7 (L o531) (L (o787 P))) (Y o7 (L o659) (L (o915 P)))) (Y o7 (Y o7 (L o7) (L o851)) (Y o7 (L o7) (L o979)))) (Y o115 (Y o179 (Y o307 (L o563) (L o7)) (Y o7 (L o8) (L o919))) (Y o243 (Y o371 (L o7) (L o883)) (Y o499 (L o755) Z))))) (Y o27 (Y (o43 P) (Y o75 (Y o139 (Y o267 (L o523) (L o7)) (Y o395 (L o7) (L o907))) (Y (o203 P) (Y o331 (L o7) (L o843)) (Y o7 (L o7) (L o7)))) (Y o107 (Y o7 (Y o299v1 (L o7) (L o811)) (Y o427 (L o7) (L o939))) (Y (o235 P) (Y o363 (L o7) (L o875)) (Y o491 (L o7) Z)))) (Y o7 (Y o91 (Y (o155 P) (Y (o283 P) (L o539) (L o8)) (Y o411 (L o667) (L o923))) (Y o219 (Y o347 (L o7) (L o7)) (Y o8 (L o7) Z))) (Y o7 (Y o187 (Y o23 (L o571) (L o8)) (Y o7 (L o699) (L o7))) (Y o7 (Y o7 (L o8) (L o891)) (Y o7 (L o763) Z))))))) (Y o5 (Y o9 (Y o17 (Y o33 (Y o65 (Y o129 (Y (o257 P) (L o513) (L o769)) (Y o385 (L o7) (L o897))) (Y o8 (Y o321 (L o577) (L o833)) (Y o449 (L o8) (L (o961 P))))) (Y o97 (Y o7 (Y o289 (L o23) (L o801)) (Y o7 (L o673) (L (o929 P)))) (Y o225 (Y o353 (L o609) (L o865)) (Y o7 (L o8) Z)))) (Y (o49 P) (Y o8 (Y o7 (Y o273 (L o529) (L o785)) (Y o8 (L o657) (L o913))) (Y o8 (Y o8 (L o593) (L o849)) (Y o465 (L o8) (L o919)))) (Y o113 (Y o177 (Y o7 (L o561) (L o817)) (Y o433 (L o689) (L (o945 P)))) (Y o7 (Y o369 (L o625) (L o7)) (Y o7 (L o753) Z))))) (Y o7 (Y o41 (Y o7 (Y o137 (Y o265 (L o7) (L o777)) (Y o7 (L o8) (L (o905 P)))) (Y o7 (Y o7 (L o585) (L o7)) (Y o457 (L o8) (L o969)))) (Y o105 (Y o8 (Y o297 (L o8) (L o809)) (Y o425 (L o681) (L o937))) (Y o233 (Y o7 (L o617) (L (o873 P))) (Y o7 (L o8) Z)))) (Y o57 (Y o89 (Y o153 (Y o281 (L o537) (L (o793 P))) (Y o409 (L o7) (L o921))) (Y o217 (Y o345 (L o601) (L o857)) (Y o473 (L o8) (L o7)))) (Y o121 (Y o7 (Y o313 (L o7) (L o825)) (Y o441 (L o7) (L o953))) (Y o8 (Y o377 (L o633) (L o889)) (Y o8 (L o7) Z)))))) (Y o13 (Y o21 (Y (o37 P) (Y o7 (Y o133 (Y o261 (L o517) (L o8)) (Y o7 (L o645) (L (o901 P)))) (Y (o197 P) (Y o7 (L o8) (L o837)) (Y o453 (L o709) (L o965)))) (Y o7 (Y o165 (Y o7 (L o549) (L o805)) (Y o7 (L o8) (L o919))) (Y o229 (Y o357 (L o613) (L o869)) (Y o485 (L o741) Z)))) (Y o53 (Y o85 (Y o7 (Y o277 (L o8) (L o789)) (Y o405 (L o661) (L (o917 P)))) (Y o213 (Y o341 (L o597) (L o8)) (Y o469 (L o725) (L o981)))) (Y o8 (Y o181 (Y o309 (L o565) (L o821)) (Y o437 (L o7) (L o949))) (Y o245 (Y o8 (L o629) (L o7)) (Y o501 (L o757) Z))))) (Y o29 (Y o45 (Y o77 (Y o141 (Y o23 (L o7) (L o781)) (Y o397 (L o653) (L (o909 P)))) (Y o205 (Y o333 (L o589) (L o7)) (Y o461 (L o717) (L (o973 P))))) (Y o7 (Y o173 (Y o301 (L o557) (L o8)) (Y o8 (L o685) (L o7))) (Y o237 (Y o7 (L o621) (L o877)) (Y o493 (L o749) Z)))) (Y (o61 P) (Y o93 (Y o157 (Y o285 (L o541) (L o797)) (Y o413 (L o7) (L o925))) (Y o221 (Y o349 (L o605) (L o861)) (Y o7 (L o733) Z))) (Y o125 (Y o189 (Y o7 (L o7) (L o7)) (Y o445 (L o701) (L o6))) (Y o253 (Y o381 (L o7) (L (o893 P))) (Y o509 (L o7) Z)))))))) (Y (o2v2 P) (Y o4 (Y o8 (Y o8 (Y o32 (Y o64 (Y o128 (Y o23 (L o8) (L o7)) (Y o384 (L o640) (L o896))) (Y o7 (Y o320 (L o7) (L o832)) (Y o448 (L o7) (L o960)))) (Y o96 (Y o160 (Y o288 (L o544) (L o800)) (Y o416 (L o7) (L o928))) (Y o224 (Y o8 (L o608) (L o864)) (Y o480 (L o7) Z)))) (Y o23 (Y o7 (Y (o144 P) (Y o272 (L o7) (L o784)) (Y o7 (L o8) (L (o912 P)))) (Y o7 (Y o7 (L o592) (L o7)) (Y o464 (L o7) (L o976)))) (Y o7 (Y (o176 P) (Y (o304 P) (L o8) (L o816)) (Y o432 (L o688) (L o944))) (Y o240 (Y o7 (L o624) (L o880)) (Y o496 (L o8) Z))))) (Y (o24 P) (Y o40 (Y o72 (Y (o136 P) (Y o264 (L o520) (L o776)) (Y o392 (L o7) (L o904))) (Y o200 (Y o328 (L o584) (L (o840 P))) (Y o456 (L o7) (L (o968 P))))) (Y o7 (Y o7 (Y o296 (L o7) (L o7)) (Y o7 (L o680) (L (o936 P)))) (Y o232 (Y o360 (L o616) (L o23)) (Y o488 (L o7) Z)))) (Y o56 (Y o8 (Y o152 (Y o280 (L o536) (L o23)) (Y o8 (L o664) (L o7))) (Y o8 (Y o8 (L o600) (L o856)) (Y o472 (L o7) (L o919)))) (Y o120 (Y o184 (Y o312 (L o568) (L o824)) (Y o440 (L o696) (L (o952 P)))) (Y o7 (Y o376 (L o632) (L o7)) (Y o7 (L o760) Z)))))) (Y o12v6 (Y o20 (Y o23 (Y o68 (Y o132 (Y o260 (L o516) (L o7)) (Y o388 (L o7) (L o900))) (Y o196 (Y o324 (L o7) (L o836)) (Y o8 (L o708) (L o7)))) (Y o100 (Y o7 (Y (o292 P) (L o548) (L o804)) (Y o420 (L o7) (L o932))) (Y o8 (Y o356 (L o8) (L o868)) (Y o7 (L o740) Z)))) (Y o52 (Y o84 (Y o148 (Y o8 (L o7) (L o788)) (Y o404 (L o660) (L o916))) (Y o212 (Y o340 (L o8) (L o7)) (Y o8 (L o724) (L (o980 P))))) (Y o7 (Y o180 (Y o308 (L o564) (L o8)) (Y o8 (L o692) (L o7))) (Y o7 (Y o7 (L o8) (L o884)) (Y o7 (L o756) Z))))) (Y o28 (Y o44v1 (Y o7 (Y o140 (Y o7 (L o524) (L o8)) (Y o7 (L o652) (L o908))) (Y o7 (Y o7 (L o8) (L o844)) (Y o8 (L o716) (L o972)))) (Y o108 (Y o172 (Y o300 (L o556) (L o7)) (Y o7 (L o8) (L o919))) (Y o236 (Y o364 (L o8) (L o876)) (Y o7 (L o748) Z)))) (Y o23 (Y o92 (Y o156 (Y o284 (L (o540 P)) (L o796)) (Y o412 (L o668) (L (o924 P)))) (Y o220 (Y o348 (L o8) (L o8)) (Y o476 (L o732) Z))) (Y o8 (Y o188 (Y (o316 P) (L o572) (L o828)) (Y o8 (L o7) (L o956))) (Y o252 (Y o8 (L o636) (L o892)) (Y o508 (L o764) Z))))))) (Y o6 (Y o10 (Y o7 (Y o34 (Y o7 (Y o7 (Y o7 (L o7) (L o770)) (Y o7 (L o8) (L o898))) (Y o194 (Y o7 (L o578) (L (o834 P))) (Y o450 (L o706) (L o962)))) (Y o98 (Y o23 (Y o290 (L (o546 P)) (L o802)) (Y o418 (L o674) (L o930))) (Y o226 (Y o7 (L o610) (L o866)) (Y o8 (L o738) Z)))) (Y o7 (Y o82 (Y o146 (Y o274 (L o530) (L o786)) (Y o402 (L o7) (L (o914 P)))) (Y o210 (Y o338 (L o594) (L o850)) (Y o466 (L o722) (L o7)))) (Y o114 (Y o178 (Y o8 (L o7) (L o818)) (Y o434 (L o7) (L o946))) (Y o8 (Y o370 (L o626) (L o882)) (Y o8 (L o7) Z))))) (Y o8 (Y o42 (Y o8 (Y o138 (Y o266 (L o522) (L o778)) (Y o8 (L o650) (L o6))) (Y o23 (Y o8 (L o586) (L o842)) (Y o458 (L o714) (L o919)))) (Y o106 (Y o170 (Y (o298 P) (L o554) (L o810)) (Y o426 (L o682) (L (o938 P)))) (Y o234 (Y o362 (L o618) (L o7)) (Y o8 (L o746) Z)))) (Y o58 (Y o7 (Y o7 (Y o282 (L o538) (L o7)) (Y o7 (L o666) (L (o922 P)))) (Y o7 (Y o7 (L o602) (L o858)) (Y o7 (L o730) (L o986)))) (Y o122 (Y o186 (Y o314 (L o570) (L o7)) (Y o442 (L o8) (L o919))) (Y o250 (Y o378 (L o7) (L o890)) (Y o506 (L o762) Z)))))) (Y o14 (Y o22 (Y o7 (Y o70 (Y o134 (Y o7 (L o7) (L o774)) (Y o390 (L o646) (L o6))) (Y o198 (Y o326 (L o582) (L o805)) (Y o7 (L o710) (L (o966 P))))) (Y o23 (Y o166 (Y o8 (L o550) (L o23)) (Y o8 (L o678) (L o7))) (Y o7 (Y o7 (L o7) (L o870)) (Y o486 (L o742) Z)))) (Y o54 (Y o86 (Y o8 (Y o7 (L o534) (L o790)) (Y o406 (L o7) (L o918))) (Y o214 (Y o342 (L o7) (L o854)) (Y o7 (L o726) (L (o982 P))))) (Y o118 (Y o7 (Y (o310 P) (L o7) (L o7)) (Y o7 (L o694) (L (o950 P)))) (Y o246 (Y o374 (L o7) (L o8)) (Y o502 (L o7) Z))))) (Y (o30 P) (Y o46 (Y o78 (Y o7 (Y (o270 P) (L o8) (L o7)) (Y o398 (L o654) (L o910))) (Y o206 (Y o334 (L o7) (L o8)) (Y o7 (L o718) (L o974)))) (Y o8 (Y o174 (Y o290 (L o558) (L o814)) (Y o430 (L o7) (L o942))) (Y o238 (Y o8 (L o7) (L o7)) (Y o494 (L o750) Z)))) (Y o7 (Y o94 (Y o158 (Y o286 (L o542) (L o7)) (Y o7 (L o8) (L o919))) (Y o7 (Y o350 (L o7) (L o7)) (Y o478 (L o734) Z))) (Y o7 (Y o23 (Y o318 (L o8) (L o830)) (Y o7 (L o702) (L o958))) (Y o254 (Y o7 (L o638) (L o894)) (Y o510 (L o8) Z)))))))))
noncomputable def s46 (w : World) (os : OsState) : SharedT := ⟨t46 w.params, 987, lf, #[], dr, 1428, os⟩
noncomputable def o3v10 (P : Params) : Obj := ⟨.type "dict",none,(.dict #[en P "__name__" 165 (.str "pdfminer.psparser" 1162),en P "__doc__" 166 .none,en P "__package__" 167 .none,en P "__loader__" 168 (.builtin "__main__.__loader__#opaque"),en P "__spec__" 169 .none,en P "__annotations__" 170 (.ref 6),en P "__builtins__" 171 (.ref 4),en P "__file__" 173 (.str "/claim/cut.py" 172),en P "__cached__" 174 .none,en P "_wall" 193 (.ref 21),en P "PSException" 215 (.ref 31),en P "PDFException" 233 (.ref 44),en P "PDFEOFError" 251 (.ref 56),en P "Found" 308 (.ref 96),en P "Signs" 363 (.ref 137),en P "HexPairs" 389 (.ref 156),en P "Real" 420 (.ref 177),en P "cast" 428 (.ref 188),en P "CorruptDataError" 446 (.ref 198),en P "LZWDecoder" 504 (.ref 236),en P "_whence" 514 (.ref 247),en P "_index" 522 (.ref 254),en P "UnsupportedOperation" 544 (.ref 264),en P "IOBase" 576 (.ref 284),en P "BufferedIOBase" 594 (.ref 299),en P "TextIOBase" 612 (.ref 311),en P "BytesIO" 874 (.ref 541),en P "StringIO" 1161 (.ref 788),en P "PSObject" 1183 (.ref 800),en P "PSLiteral" 1225 (.ref 835),en P "PSKeyword" 1267 (.ref 868),en P "PSSymbolTable" 1306 (.ref 894),en P "PSLiteralTable" 1313 (.ref 900),en P "PSKeywordTable" 1320 (.ref 904),en P "LIT" 1322 (.ref 907),en P "KWD" 1324 (.ref 908),en P "KEYWORD_DICT_BEGIN" 1330 (.ref 910),en P "KEYWORD_DICT_END" 1336 (.ref 913),en P "EOL" 1345 (.ref 916),en P "SPC" 1354 (.ref 923),en P "NONSPC" 1363 (.ref 930),en P "HEX" 1372 (.ref 937),en P "END_LITERAL" 1381 (.ref 944),en P "END_HEX_STRING" 1390 (.ref 951),en P "HEX_PAIR" 1391 (.ref 958),en P "END_NUMBER" 1400 (.ref 960),en P "END_KEYWORD" 1409 (.ref 967),en P "END_STRING" 1418 (.ref 974),en P "OCT_STRING" 1427 (.ref 981),en P "ESC_STRING" 1452 (.ref 987)] 50),#[]⟩
noncomputable def t47 (P : Params) (x : Obj) : BT := (Y (o0 P) (Y (o1 P) (Y (o3v10 P) (Y o7 (Y o7 (Y o31 (Y o63 (Y o127 (Y o255 (L o7) (L o767)) (Y o383 (L o639) (L o895))) (Y (o191 P) (Y o319 (L o575) (L o831)) (Y o447 (L o703) (L (o959 P))))) (Y (o95 P) (Y o159 (Y o287 (L o543) (L (o799 P))) (Y o8 (L o671) (L o7))) (Y o8 (Y o7 (L o607) (L o863)) (Y o479 (L o735) Z)))) (Y o47 (Y o79 (Y o23 (Y o7 (L o527) (L o783)) (Y o399 (L o7) (L (o911 P)))) (Y o207 (Y o335 (L o591) (L o847)) (Y o463 (L o719) (L (o975 P))))) (Y o111 (Y o175 (Y o23 (L o7) (L o7)) (Y o7 (L o687) (L (o943 P)))) (Y o239 (Y o367 (L o623) (L o8)) (Y o495 (L o7) Z))))) (Y o23 (Y o8 (Y o71 (Y o135 (Y (o263 P) (L o8) (L o7)) (Y o391 (L o647) (L (o903 P)))) (Y o199 (Y o327 (L o7) (L o23)) (Y o455 (L o711) (L o967)))) (Y (o103 P) (Y o167 (Y o295 (L o551) (L (o807 P))) (Y o423 (L o7) (L o935))) (Y o231 (Y o8 (L o615) (L o7)) (Y o487 (L o743) Z)))) (Y (o55 P) (Y o7 (Y o151 (Y o279 (L o7) (L o7)) (Y o7 (L o8) (L o919))) (Y o7 (Y o7 (L o599) (L o7)) (Y o471 (L o727) (L o983)))) (Y o7 (Y o8 (Y o311v1 (L o8) (L o823)) (Y o439 (L o695) (L o951))) (Y o247 (Y o7 (L o631) (L o887)) (Y o503 (L o8) Z)))))) (Y o7 (Y o19 (Y o35 (Y o8 (Y o8 (Y o8 (L o515) (L o771)) (Y o8 (L o643) (L (o899 P)))) (Y o195 (Y o8 (L o579) (L o835)) (Y o7 (L o7) (L o919)))) (Y o99 (Y (o163 P) (Y o23 (L o7) (L o803)) (Y o419 (L o675) (L (o931 P)))) (Y o7 (Y o355 (L o7) (L (o867 P))) (Y o483 (L o7) Z)))) (Y o8 (Y o7 (Y o147 (Y o7 (L o531) (L (o787 P))) (Y o7 (L o659) (L (o915 P)))) (Y o7 (Y o7 (L o7) (L o851)) (Y o7 (L o7) (L o979)))) (Y o115 (Y o179 (Y o307 (L o563) (L o7)) (Y o7 (L o8) (L o919))) (Y o243 (Y o371 (L o7) (L o883)) (Y o499 (L o755) Z))))) (Y o27 (Y (o43 P) (Y o75 (Y o139 (Y o267 (L o523) (L o7)) (Y o395 (L o7) (L o907))) (Y (o203 P) (Y o331 (L o7) (L o843)) (Y o7 (L o7) (L o7)))) (Y o107 (Y o7 (Y o299v1 (L o7) (L o811)) (Y o427 (L o7) (L o939))) (Y (o235 P) (Y o363 (L o7) (L o875)) (Y o491 (L o7) Z)))) (Y o7 (Y o91 (Y (o155 P) (Y (o283 P) (L o539) (L o8)) (Y o411 (L o667) (L o923))) (Y o219 (Y o347 (L o7) (L o7)) (Y o8 (L o7) (L x)))) (Y o7 (Y o187 (Y o23 (L o571) (L o8)) (Y o7 (L o699) (L o7))) (Y o7 (Y o7 (L o8) (L o891)) (Y o7 (L o763) Z))))))) (Y o5 (Y o9 (Y o17 (Y o33 (Y o65 (Y o129 (Y (o257 P) (L o513) (L o769)) (Y o385 (L o7) (L o897))) (Y o8 (Y o321 (L o577) (L o833)) (Y o449 (L o8) (L (o961 P))))) (Y o97 (Y o7 (Y o289 (L o23) (L o801)) (Y o7 (L o673) (L (o929 P)))) (Y o225 (Y o353 (L o609) (L o865)) (Y o7 (L o8) Z)))) (Y (o49 P) (Y o8 (Y o7 (Y o273 (L o529) (L o785)) (Y o8 (L o657) (L o913))) (Y o8 (Y o8 (L o593) (L o849)) (Y o465 (L o8) (L o919)))) (Y o113 (Y o177 (Y o7 (L o561) (L o817)) (Y o433 (L o689) (L (o945 P)))) (Y o7 (Y o369 (L o625) (L o7)) (Y o7 (L o753) Z))))) (Y o7 (Y o41 (Y o7 (Y o137 (Y o265 (L o7) (L o777)) (Y o7 (L o8) (L (o905 P)))) (Y o7 (Y o7 (L o585) (L o7)) (Y o457 (L o8) (L o969)))) (Y o105 (Y o8 (Y o297 (L o8) (L o809)) (Y o425 (L o681) (L o937))) (Y o233 (Y o7 (L o617) (L (o873 P))) (Y o7 (L o8) Z)))) (Y o57 (Y o89 (Y o153 (Y o281 (L o537) (L (o793 P))) (Y o409 (L o7) (L o921))) (Y o217 (Y o345 (L o601) (L o857)) (Y o473 (L o8) (L o7)))) (Y o121 (Y o7 (Y o313 (L o7) (L o825)) (Y o441 (L o7) (L o953))) (Y o8 (Y o377 (L o633) (L o889)) (Y o8 (L o7) Z)))))) (Y o13 (Y o21 (Y (o37 P) (Y o7 (Y o133 (Y o261 (L o517) (L o8)) (Y o7 (L o645) (L (o901 P)))) (Y (o197 P) (Y o7 (L o8) (L o837)) (Y o453 (L o709) (L o965)))) (Y o7 (Y o165 (Y o7 (L o549) (L o805)) (Y o7 (L o8) (L o919))) (Y o229 (Y o357 (L o613) (L o869)) (Y o485 (L o741) Z)))) (Y o53 (Y o85 (Y o7 (Y o277 (L o8) (L o789)) (Y o405 (L o661) (L (o917 P)))) (Y o213 (Y o341 (L o597) (L o8)) (Y o469 (L o725) (L o981)))) (Y o8 (Y o181 (Y o309 (L o565) (L o821)) (Y o437 (L o7) (L o949))) (Y o245 (Y o8 (L o629) (L o7)) (Y o501 (L o757) Z))))) (Y o29 (Y o45 (Y o77 (Y o141 (Y o23 (L o7) (L o781)) (Y o397 (L o653) (L (o909 P)))) (Y o205 (Y o333 (L o589) (L o7)) (Y o461 (L o717) (L (o973 P))))) (Y o7 (Y o173 (Y o301 (L o557) (L o8)) (Y o8 (L o685) (L o7))) (Y o237 (Y o7 (L o621) (L o877)) (Y o493 (L o749) Z)))) (Y (o61 P) (Y o93 (Y o157 (Y o285 (L o541) (L o797)) (Y o413 (L o7) (L o925))) (Y o221 (Y o349 (L o605) (L o861)) (Y o7 (L o733) Z))) (Y o125 (Y o189 (Y o7 (L o7) (L o7)) (Y o445 (L o701) (L o6))) (Y o253 (Y o381 (L o7) (L (o893 P))) (Y o509 (L o7) Z)))))))) (Y (o2v2 P) (Y o4 (Y o8 (Y o8 (Y o32 (Y o64 (Y o128 (Y o23 (L o8) (L o7)) (Y o384 (L o640) (L o896))) (Y o7 (Y o320 (L o7) (L o832)) (Y o448 (L o7) (L o960)))) (Y o96 (Y o160 (Y o288 (L o544) (L o800)) (Y o416 (L o7) (L o928))) (Y o224 (Y o8 (L o608) (L o864)) (Y o480 (L o7) Z)))) (Y o23 (Y o7 (Y (o144 P) (Y o272 (L o7) (L o784)) (Y o7 (L o8) (L (o912 P)))) (Y o7 (Y o7 (L o592) (L o7)) (Y o464 (L o7) (L o976)))) (Y o7 (Y (o176 P) (Y (o304 P) (L o8) (L o816)) (Y o432 (L o688) (L o944))) (Y o240 (Y o7 (L o624) (L o880)) (Y o496 (L o8) Z))))) (Y (o24 P) (Y o40 (Y o72 (Y (o136 P) (Y o264 (L o520) (L o776)) (Y o392 (L o7) (L o904))) (Y o200 (Y o328 (L o584) (L (o840 P))) (Y o456 (L o7) (L (o968 P))))) (Y o7 (Y o7 (Y o296 (L o7) (L o7)) (Y o7 (L o680) (L (o936 P)))) (Y o232 (Y o360 (L o616) (L o23)) (Y o488 (L o7) Z)))) (Y o56 (Y o8 (Y o152 (Y o280 (L o536) (L o23)) (Y o8 (L o664) (L o7))) (Y o8 (Y o8 (L o600) (L o856)) (Y o472 (L o7) (L o919)))) (Y o120 (Y o184 (Y o312 (L o568) (L o824)) (Y o440 (L o696) (L (o952 P)))) (Y o7 (Y o376 (L o632) (L o7)) (Y o7 (L o760) Z)))))) (Y o12v6 (Y o20 (Y o23 (Y o68 (Y o132 (Y o260 (L o516) (L o7)) (Y o388 (L o7) (L o900))) (Y o196 (Y o324 (L o7) (L o836)) (Y o8 (L o708) (L o7)))) (Y o100 (Y o7 (Y (o292 P) (L o548) (L o804)) (Y o420 (L o7) (L o932))) (Y o8 (Y o356 (L o8) (L o868)) (Y o7 (L o740) Z)))) (Y o52 (Y o84 (Y o148 (Y o8 (L o7) (L o788)) (Y o404 (L o660) (L o916))) (Y o212 (Y o340 (L o8) (L o7)) (Y o8 (L o724) (L (o980 P))))) (Y o7 (Y o180 (Y o308 (L o564) (L o8)) (Y o8 (L o692) (L o7))) (Y o7 (Y o7 (L o8) (L o884)) (Y o7 (L o756) Z))))) (Y o28 (Y o44v1 (Y o7 (Y o140 (Y o7 (L o524) (L o8)) (Y o7 (L o652) (L o908))) (Y o7 (Y o7 (L o8) (L o844)) (Y o8 (L o716) (L o972)))) (Y o108 (Y o172 (Y o300 (L o556) (L o7)) (Y o7 (L o8) (L o919))) (Y o236 (Y o364 (L o8) (L o876)) (Y o7 (L o748) Z)))) (Y o23 (Y o92 (Y o156 (Y o284 (L (o540 P)) (L o796)) (Y o412 (L o668) (L (o924 P)))) (Y o220 (Y o348 (L o8) (L o8)) (Y o476 (L o732) Z))) (Y o8 (Y o188 (Y (o316 P) (L o572) (L o828)) (Y o8 (L o7) (L o956))) (Y o252 (Y o8 (L o636) (L o892)) (Y o508 (L o764) Z))))))) (Y o6 (Y o10 (Y o7 (Y o34 (Y o7 (Y o7 (Y o7 (L o7) (L o770)) (Y o7 (L o8) (L o898))) (Y o194 (Y o7 (L o578) (L (o834 P))) (Y o450 (L o706) (L o962)))) (Y o98 (Y o23 (Y o290 (L (o546 P)) (L o802)) (Y o418 (L o674) (L o930))) (Y o226 (Y o7 (L o610) (L o866)) (Y o8 (L o738) Z)))) (Y o7 (Y o82 (Y o146 (Y o274 (L o530) (L o786)) (Y o402 (L o7) (L (o914 P)))) (Y o210 (Y o338 (L o594) (L o850)) (Y o466 (L o722) (L o7)))) (Y o114 (Y o178 (Y o8 (L o7) (L o818)) (Y o434 (L o7) (L o946))) (Y o8 (Y o370 (L o626) (L o882)) (Y o8 (L o7) Z))))) (Y o8 (Y o42 (Y o8 (Y o138 (Y o266 (L o522) (L o778)) (Y o8 (L o650) (L o6))) (Y o23 (Y o8 (L o586) (L o842)) (Y o458 (L o714) (L o919)))) (Y o106 (Y o170 (Y (o298 P) (L o554) (L o810)) (Y o426 (L o682) (L (o938 P)))) (Y o234 (Y o362 (L o618) (L o7)) (Y o8 (L o746) Z)))) (Y o58 (Y o7 (Y o7 (Y o282 (L o538) (L o7)) (Y o7 (L o666) (L (o922 P)))) (Y o7 (Y o7 (L o602) (L o858)) (Y o7 (L o730) (L o986)))) (Y o122 (Y o186 (Y o314 (L o570) (L o7)) (Y o442 (L o8) (L o919))) (Y o250 (Y o378 (L o7) (L o890)) (Y o506 (L o762) Z)))))) (Y o14 (Y o22 (Y o7 (Y o70 (Y o134 (Y o7 (L o7) (L o774)) (Y o390 (L o646) (L o6))) (Y o198 (Y o326 (L o582) (L o805)) (Y o7 (L o710) (L (o966 P))))) (Y o23 (Y o166 (Y o8 (L o550) (L o23)) (Y o8 (L o678) (L o7))) (Y o7 (Y o7 (L o7) (L o870)) (Y o486 (L o742) Z)))) (Y o54 (Y o86 (Y o8 (Y o7 (L o534) (L o790)) (Y o406 (L o7) (L o918))) (Y o214 (Y o342 (L o7) (L o854)) (Y o7 (L o726) (L (o982 P))))) (Y o118 (Y o7 (Y (o310 P) (L o7) (L o7)) (Y o7 (L o694) (L (o950 P)))) (Y o246 (Y o374 (L o7) (L o8)) (Y o502 (L o7) Z))))) (Y (o30 P) (Y o46 (Y o78 (Y o7 (Y (o270 P) (L o8) (L o7)) (Y o398 (L o654) (L o910))) (Y o206 (Y o334 (L o7) (L o8)) (Y o7 (L o718) (L o974)))) (Y o8 (Y o174 (Y o290 (L o558) (L o814)) (Y o430 (L o7) (L o942))) (Y o238 (Y o8 (L o7) (L o7)) (Y o494 (L o750) Z)))) (Y o7 (Y o94 (Y o158 (Y o286 (L o542) (L o7)) (Y o7 (L o8) (L o919))) (Y o7 (Y o350 (L o7) (L o7)) (Y o478 (L o734) Z))) (Y o7 (Y o23 (Y o318 (L o8) (L o830)) (Y o7 (L o702) (L o958))) (Y o254 (Y o7 (L o638) (L o894)) (Y o510 (L o8) Z)))))))))
noncomputable def s47 (w : World) (x : Obj) (os : OsState) : SharedT := ⟨t47 w.params x, 988, lf, #[], dr, 1453, os⟩
noncomputable def o3v11 (P : Params) : Obj := ⟨.type "dict",none,(.dict #[en P "__name__" 165 (.str "pdfminer.psparser" 1585),en P "__doc__" 166 .none,en P "__package__" 167 .none,en P "__loader__" 168 (.builtin "__main__.__loader__#opaque"),en P "__spec__" 169 .none,en P "__annotations__" 170 (.ref 6),en P "__builtins__" 171 (.ref 4),en P "__file__" 173 (.str "/claim/cut.py" 172),en P "__cached__" 174 .none,en P "_wall" 193 (.ref 21),en P "PSException" 215 (.ref 31),en P "PDFException" 233 (.ref 44),en P "PDFEOFError" 251 (.ref 56),en P "Found" 308 (.ref 96),en P "Signs" 363 (.ref 137),en P "HexPairs" 389 (.ref 156),en P "Real" 420 (.ref 177),en P "cast" 428 (.ref 188),en P "CorruptDataError" 446 (.ref 198),en P "LZWDecoder" 504 (.ref 236),en P "_whence" 514 (.ref 247),en P "_index" 522 (.ref 254),en P "UnsupportedOperation" 544 (.ref 264),en P "IOBase" 576 (.ref 284),en P "BufferedIOBase" 594 (.ref 299),en P "TextIOBase" 612 (.ref 311),en P "BytesIO" 874 (.ref 541),en P "StringIO" 1161 (.ref 788),en P "PSObject" 1183 (.ref 800),en P "PSLiteral" 1225 (.ref 835),en P "PSKeyword" 1267 (.ref 868),en P "PSSymbolTable" 1306 (.ref 894),en P "PSLiteralTable" 1313 (.ref 900),en P "PSKeywordTable" 1320 (.ref 904),en P "LIT" 1322 (.ref 907),en P "KWD" 1324 (.ref 908),en P "KEYWORD_DICT_BEGIN" 1330 (.ref 910),en P "KEYWORD_DICT_END" 1336 (.ref 913),en P "EOL" 1345 (.ref 916),en P "SPC" 1354 (.ref 923),en P "NONSPC" 1363 (.ref 930),en P "HEX" 1372 (.ref 937),en P "END_LITERAL" 1381 (.ref 944),en P "END_HEX_STRING" 1390 (.ref 951),en P "HEX_PAIR" 1391 (.ref 958),en P "END_NUMBER" 1400 (.ref 960),en P "END_KEYWORD" 1409 (.ref 967),en P "END_STRING" 1418 (.ref 974),en P "OCT_STRING" 1427 (.ref 981),en P "ESC_STRING" 1452 (.ref 987),en P "ABCMeta" 1478 (.ref 1004),en P "ABC" 1495 (.ref 1018),en P "AbstractContextManager" 1531 (.ref 1046),en P "suppress" 1584 (.ref 1080)] 54),#[]⟩
noncomputable def o12v7 : Obj := fl #[.int 1 0,.int 0 0,.ref 20,.int 5 0,.int 0 0,.ref 27,.int 8 0,.int 0 0,.ref 40,.int 10 0,.int 0 0,.ref 52,.int 13 0,.int 0 0,.ref 64,.int 26 0,.int 0 0,.ref 106,.int 41 0,.int 0 0,.ref 147,.int 45 0,.int 0 0,.ref 166,.int 50 0,.int 0 0,.ref 187,.int 53 0,.int 0 0,.ref 194,.int 55 0,.int 0 0,.ref 206,.int 117 0,.int 0 0,.ref 246,.int 122 0,.int 0 0,.ref 253,.int 129 0,.int 0 0,.ref 260,.int 131 0,.int 0 0,.ref 273,.int 138 0,.int 0 0,.ref 295,.int 140 0,.int 0 0,.ref 307,.int 142 0,.int 0 0,.ref 319,.int 312 0,.int 0 0,.ref 549,.int 518 0,.int 0 0,.ref 796,.int 520 0,.int 0 0,.ref 810,.int 531 0,.int 0 0,.ref 843,.int 542 0,.int 0 0,.ref 876,.int 574 0,.int 0 0,.ref 993,.int 578 0,.int 0 0,.ref 1012,.int 581 0,.int 0 0,.ref 1026,.int 590 0,.int 0 0,.ref 1055]
noncomputable def o988 : Obj := sq #[.type "type"]
noncomputable def o990 (P : Params) : Obj := ⟨.type "dict",none,(.dict #[en P "__module__" 1462 (.str "abc" 1453),en P "__qualname__" 1464 (.str "ABCMeta" 1463),en P "__firstlineno__" 1466 (.int 574 1465),en P "register" 1474 (.ref 1001),en P "__static_attributes__" 1475 (.ref 1002)] 5),#[]⟩
noncomputable def o992 : Obj := fl #[.int 576 0,.int 4 0,.ref 1000]
noncomputable def o993 : Obj := cd #[.str "ABCMeta" 1457,.str "ABCMeta" 1458,.str "/claim/cut.py" 1459,.int 574 0,.int 0 0,.int 0 0,.int 0 0,.int 0 0,.ref 991,.bool false,.int 181 0,.ref 992,.none,.none,.none,.none,.int 1460 0,.int 574 0,.str "/claim/cut.py" 1461]
noncomputable def o994 : Obj := ⟨.type "frame",none,.plain,#[(some (.ref 993)),(some (.ref 3)),(some (.ref 990)),none,(some (.str "abc" 1453)),none,(some (.ref 0))]⟩
noncomputable def o997 : Obj := sq #[.str "cls" 1470,.str "subclass" 1471]
noncomputable def o999 : Obj := fz [48,0] "ABCMeta.register"
noncomputable def o1000 : Obj := cd #[.str "register" 1467,.str "ABCMeta.register" 1468,.str "/claim/cut.py" 1469,.int 576 0,.int 2 0,.int 0 0,.int 0 0,.int 3 0,.ref 995,.bool true,.int 181 0,.ref 996,.none,.ref 997,.ref 998,.ref 999,.int 1472 0,.int 576 0,.str "/claim/cut.py" 1473]
noncomputable def o1001 : Obj := ⟨.type "function",none,(fd (sAt [48,0]) "ABCMeta.register" 3 [] .none .none .none (.str "abc" 1453) none (.ref 1000) .none 0),#[]⟩
noncomputable def o1003 (P : Params) : Obj := ⟨.type "dict",none,(.dict #[en P "__module__" 1462 (.str "abc" 1453),en P "__firstlineno__" 1466 (.int 574 1465),en P "register" 1474 (.ref 1001),en P "__static_attributes__" 1475 (.ref 1002),en P "__doc__" 1476 .none] 2),#[]⟩
noncomputable def o1004 : Obj := ⟨.type "type",none,.cls ⟨"ABCMeta",[.type "type"],[.ref 1004,.type "type",.type "object"],1003,"ABCMeta",true,[],[],false,none,false⟩,#[(some (.ref 988)),none,(some (.str "ABCMeta" 1455)),(some (.str "ABCMeta" 1463)),(some (.builtin "type.__new__")),(some (.bool true))]⟩
noncomputable def o1005 : Obj := ⟨.type "super",none,.fields #[.ref 1004,.ref 1004,.ref 1004],#[]⟩
noncomputable def o1006 : Obj := ⟨.type "builtin_function_or_method",none,.fields #[.builtin "object.__init_subclass__",.ref 1004],#[]⟩
noncomputable def o1008 : Obj := ⟨.type "builtin_function_or_method",none,.fields #[.builtin "type.__prepare__",.ref 1004],#[]⟩
noncomputable def o1009 (P : Params) : Obj := ⟨.type "dict",none,(.dict #[en P "__module__" 1486 (.str "abc" 1453),en P "__qualname__" 1488 (.str "ABC" 1487),en P "__firstlineno__" 1490 (.int 578 1489),en P "__slots__" 1491 (.ref 1014),en P "__static_attributes__" 1492 (.ref 1015)] 5),#[]⟩
noncomputable def o1012 : Obj := cd #[.str "ABC" 1481,.str "ABC" 1482,.str "/claim/cut.py" 1483,.int 578 0,.int 0 0,.int 0 0,.int 0 0,.int 0 0,.ref 1010,.bool false,.int 181 0,.ref 1011,.none,.none,.none,.none,.int 1484 0,.int 578 0,.str "/claim/cut.py" 1485]
noncomputable def o1013 : Obj := ⟨.type "frame",none,.plain,#[(some (.ref 1012)),(some (.ref 3)),(some (.ref 1009)),none,(some (.str "abc" 1453)),none,(some (.ref 0))]⟩
noncomputable def o1016 : Obj := ⟨.type "list",none,.seq #[] 0,#[]⟩
noncomputable def o1017 (P : Params) : Obj := ⟨.type "dict",none,(.dict #[en P "__module__" 1486 (.str "abc" 1453),en P "__firstlineno__" 1490 (.int 578 1489),en P "__slots__" 1491 (.ref 1014),en P "__static_attributes__" 1492 (.ref 1015),en P "__doc__" 1493 .none] 2),#[]⟩
noncomputable def o1018 : Obj := ⟨.ref 1004,none,.cls ⟨"ABC",[.type "object"],[.ref 1018,.type "object"],1017,"ABC",false,[],[.ref 1046],false,none,false⟩,#[none,none,(some (.str "ABC" 1479)),(some (.str "ABC" 1487)),(some (.builtin "object.__new__")),(some (.bool false))]⟩
noncomputable def o1019 : Obj := ⟨.type "super",none,.fields #[.ref 1018,.ref 1018,.ref 1018],#[]⟩
noncomputable def o1020 : Obj := ⟨.type "builtin_function_or_method",none,.fields #[.builtin "object.__init_subclass__",.ref 1018],#[]⟩
noncomputable def o1021 : Obj := sq #[.ref 1018]
noncomputable def o1023 (P : Params) : Obj := ⟨.type "dict",none,(.dict #[en P "__module__" 1505 (.str "contextlib" 1496),en P "__qualname__" 1507 (.str "AbstractContextManager" 1506),en P "__firstlineno__" 1509 (.int 581 1508),en P "__slots__" 1510 (.ref 1028),en P "__enter__" 1517 (.ref 1035),en P "__exit__" 1527 (.ref 1042),en P "__static_attributes__" 1528 (.ref 1043)] 7),#[]⟩
noncomputable def o1025 : Obj := fl #[.int 584 0,.int 4 0,.ref 1034,.int 587 0,.int 4 0,.ref 1041]
noncomputable def o1026 : Obj := cd #[.str "AbstractContextManager" 1500,.str "AbstractContextManager" 1501,.str "/claim/cut.py" 1502,.int 581 0,.int 0 0,.int 0 0,.int 0 0,.int 0 0,.ref 1024,.bool false,.int 181 0,.ref 1025,.none,.none,.none,.none,.int 1503 0,.int 581 0,.str "/claim/cut.py" 1504]
noncomputable def o1027 : Obj := ⟨.type "frame",none,.plain,#[(some (.ref 1026)),(some (.ref 3)),(some (.ref 1023)),none,(some (.str "contextlib" 1496)),none,(some (.ref 0))]⟩
noncomputable def o1031 : Obj := sq #[.str "self" 1514]
noncomputable def o1033 : Obj := fz [51,1] "AbstractContextManager.__enter__"
noncomputable def o1034 : Obj := cd #[.str "__enter__" 1511,.str "AbstractContextManager.__enter__" 1512,.str "/claim/cut.py" 1513,.int 584 0,.int 1 0,.int 0 0,.int 0 0,.int 3 0,.ref 1029,.bool true,.int 181 0,.ref 1030,.none,.ref 1031,.ref 1032,.ref 1033,.int 1515 0,.int 584 0,.str "/claim/cut.py" 1516]
noncomputable def o1035 : Obj := ⟨.type "function",none,(fd (sAt [51,1]) "AbstractContextManager.__enter__" 3 [] .none .none .none (.str "contextlib" 1496) none (.ref 1034) .none 0),#[]⟩
noncomputable def o1038 : Obj := sq #[.str "self" 1521,.str "exc_type" 1522,.str "exc_value" 1523,.str "traceback" 1524]
noncomputable def o1040 : Obj := fz [51,2] "AbstractContextManager.__exit__"
noncomputable def o1041 : Obj := cd #[.str "__exit__" 1518,.str "AbstractContextManager.__exit__" 1519,.str "/claim/cut.py" 1520,.int 587 0,.int 4 0,.int 0 0,.int 0 0,.int 3 0,.ref 1036,.bool true,.int 181 0,.ref 1037,.none,.ref 1038,.ref 1039,.ref 1040,.int 1525 0,.int 587 0,.str "/claim/cut.py" 1526]
noncomputable def o1042 : Obj := ⟨.type "function",none,(fd (sAt [51,2]) "AbstractContextManager.__exit__" 3 [] .none .none .none (.str "contextlib" 1496) none (.ref 1041) .none 0),#[]⟩
noncomputable def o1045 (P : Params) : Obj := ⟨.type "dict",none,(.dict #[en P "__module__" 1505 (.str "contextlib" 1496),en P "__firstlineno__" 1509 (.int 581 1508),en P "__slots__" 1510 (.ref 1028),en P "__enter__" 1517 (.ref 1035),en P "__exit__" 1527 (.ref 1042),en P "__static_attributes__" 1528 (.ref 1043),en P "__doc__" 1529 .none,en P "__abstractmethods__" 1536 (.ref 1049)] 3),#[]⟩
noncomputable def o1046 : Obj := ⟨.ref 1004,none,.cls ⟨"AbstractContextManager",[.ref 1018],[.ref 1046,.ref 1018,.type "object"],1045,"AbstractContextManager",false,[],[.ref 1080],true,none,false⟩,#[(some (.ref 1021)),none,(some (.str "AbstractContextManager" 1498)),(some (.str "AbstractContextManager" 1506)),(some (.builtin "object.__new__")),(some (.bool false))]⟩
noncomputable def o1047 : Obj := ⟨.type "super",none,.fields #[.ref 1046,.ref 1046,.ref 1046],#[]⟩
noncomputable def o1048 : Obj := ⟨.type "builtin_function_or_method",none,.fields #[.builtin "object.__init_subclass__",.ref 1046],#[]⟩
noncomputable def o1049 : Obj := sq #[.str "__exit__" 1532]
noncomputable def o1050 : Obj := sq #[.ref 1046]
noncomputable def o1052 (P : Params) : Obj := ⟨.type "dict",none,(.dict #[en P "__module__" 1544 (.str "contextlib" 1496),en P "__qualname__" 1546 (.str "suppress" 1545),en P "__firstlineno__" 1548 (.int 590 1547),en P "__init__" 1556 (.ref 1063),en P "__enter__" 1563 (.ref 1070),en P "__exit__" 1575 (.ref 1077),en P "__static_attributes__" 1577 (.ref 1078)] 7),#[]⟩
noncomputable def o1054 : Obj := fl #[.int 592 0,.int 4 0,.ref 1062,.int 595 0,.int 4 0,.ref 1069,.int 598 0,.int 4 0,.ref 1076]
noncomputable def o1055 : Obj := cd #[.str "suppress" 1539,.str "suppress" 1540,.str "/claim/cut.py" 1541,.int 590 0,.int 0 0,.int 0 0,.int 0 0,.int 0 0,.ref 1053,.bool false,.int 181 0,.ref 1054,.none,.none,.none,.none,.int 1542 0,.int 590 0,.str "/claim/cut.py" 1543]
noncomputable def o1056 : Obj := ⟨.type "frame",none,.plain,#[(some (.ref 1055)),(some (.ref 3)),(some (.ref 1052)),none,(some (.str "contextlib" 1496)),none,(some (.ref 0))]⟩
noncomputable def o1059 : Obj := sq #[.str "self" 1552,.str "exceptions" 1553]
noncomputable def o1061 : Obj := fz [53,0] "suppress.__init__"
noncomputable def o1062 : Obj := cd #[.str "__init__" 1549,.str "suppress.__init__" 1550,.str "/claim/cut.py" 1551,.int 592 0,.int 1 0,.int 0 0,.int 0 0,.int 7 0,.ref 1057,.bool true,.int 181 0,.ref 1058,.none,.ref 1059,.ref 1060,.ref 1061,.int 1554 0,.int 592 0,.str "/claim/cut.py" 1555]
noncomputable def o1063 : Obj := ⟨.type "function",none,(fd (sAt [53,0]) "suppress.__init__" 3 [] .none .none .none (.str "contextlib" 1496) none (.ref 1062) .none 0),#[]⟩
noncomputable def o1066 : Obj := sq #[.str "self" 1560]
noncomputable def o1068 : Obj := fz [53,1] "suppress.__enter__"
noncomputable def o1069 : Obj := cd #[.str "__enter__" 1557,.str "suppress.__enter__" 1558,.str "/claim/cut.py" 1559,.int 595 0,.int 1 0,.int 0 0,.int 0 0,.int 3 0,.ref 1064,.bool true,.int 181 0,.ref 1065,.none,.ref 1066,.ref 1067,.ref 1068,.int 1561 0,.int 595 0,.str "/claim/cut.py" 1562]
noncomputable def o1070 : Obj := ⟨.type "function",none,(fd (sAt [53,1]) "suppress.__enter__" 3 [] .none .none .none (.str "contextlib" 1496) none (.ref 1069) .none 0),#[]⟩
noncomputable def o1073 : Obj := sq #[.str "self" 1567,.str "exctype" 1568,.str "excinst" 1569,.str "exctb" 1570,.str "match" 1571,.str "rest" 1572]
noncomputable def o1075 : Obj := fz [53,2] "suppress.__exit__"
noncomputable def o1076 : Obj := cd #[.str "__exit__" 1564,.str "suppress.__exit__" 1565,.str "/claim/cut.py" 1566,.int 598 0,.int 4 0,.int 0 0,.int 0 0,.int 3 0,.ref 1071,.bool true,.int 181 0,.ref 1072,.none,.ref 1073,.ref 1074,.ref 1075,.int 1573 0,.int 598 0,.str "/claim/cut.py" 1574]
noncomputable def o1077 : Obj := ⟨.type "function",none,(fd (sAt [53,2]) "suppress.__exit__" 3 [] .none .none .none (.str "contextlib" 1496) none (.ref 1076) .none 0),#[]⟩
noncomputable def o1078 : Obj := sq #[.str "_exceptions" 1576]
noncomputable def o1079 (P : Params) : Obj := ⟨.type "dict",none,(.dict #[en P "__module__" 1544 (.str "contextlib" 1496),en P "__firstlineno__" 1548 (.int 590 1547),en P "__init__" 1556 (.ref 1063),en P "__enter__" 1563 (.ref 1070),en P "__exit__" 1575 (.ref 1077),en P "__static_attributes__" 1577 (.ref 1078),en P "__dict__" 1579 (.ref 1081),en P "__weakref__" 1581 (.ref 1082),en P "__doc__" 1582 .none] 4),#[]⟩
noncomputable def o1080 : Obj := ⟨.ref 1004,none,.cls ⟨"suppress",[.ref 1046],[.ref 1080,.ref 1046,.ref 1018,.type "object"],1079,"suppress",true,[],[],false,none,false⟩,#[(some (.ref 1050)),none,(some (.str "suppress" 1537)),(some (.str "suppress" 1545)),(some (.builtin "object.__new__")),(some (.bool true))]⟩
noncomputable def o1081 : Obj := ⟨.type "getset_descriptor",none,.fields #[.str "__dict__" 1578,.ref 1080,.builtin "function.__dict__",.builtin "function.__dict__#set"],#[]⟩
noncomputable def o1082 : Obj := ⟨.type "getset_descriptor",none,.fields #[.str "__weakref__" 1580,.ref 1080,.builtin "ExceptionGroup.__weakref__",.none],#[]⟩
noncomputable def o1083 : Obj := ⟨.type "super",none,.fields #[.ref 1080,.ref 1080,.ref 1080],#[]⟩
noncomputable def o1084 : Obj := ⟨.type "builtin_function_or_method",none,.fields #[.builtin "object.__init_subclass__",.ref 1080],#[]⟩
noncomputable def t55 (P : Params) (x : Obj) : BT := (Y (o0 P) (Y (o1 P) (Y (o3v11 P) (Y o7 (Y o7 (Y o31 (Y o63 (Y o127 (Y o255 (Y o7 (L (o1023 P)) Z) (L o767)) (Y o383 (L o639) (L o895))) (Y (o191 P) (Y o319 (L o575) (L o831)) (Y o447 (L o703) (L (o959 P))))) (Y (o95 P) (Y o159 (Y o287 (Y o543 (L o1055) Z) (L (o799 P))) (Y o8 (L o671) (L o7))) (Y o8 (Y o7 (L o607) (L o863)) (Y o479 (L o735) (L o7))))) (Y o47 (Y o79 (Y o23 (Y o7 (Y o527 (L o7) Z) (L o783)) (Y o399 (L o7) (L (o911 P)))) (Y o207 (Y o335 (L o591) (L o847)) (Y o463 (L o719) (L (o975 P))))) (Y o111 (Y o175 (Y o23 (Y o7 (L o7) Z) (L o7)) (Y o7 (L o687) (L (o943 P)))) (Y o239 (Y o367 (L o623) (L o8)) (Y o495 (L o7) (L o7)))))) (Y o23 (Y o8 (Y o71 (Y o135 (Y (o263 P) (Y o8 (L o1031) Z) (L o7)) (Y o391 (L o647) (L (o903 P)))) (Y o199 (Y o327 (L o7) (L o23)) (Y o455 (L o711) (L o967)))) (Y (o103 P) (Y o167 (Y o295 (Y o551 (L o1063) Z) (L (o807 P))) (Y o423 (L o7) (L o935))) (Y o231 (Y o8 (L o615) (L o7)) (Y o487 (L o743) (L o999))))) (Y (o55 P) (Y o7 (Y o151 (Y o279 (Y o7 (L o1047) Z) (L o7)) (Y o7 (L o8) (L o919))) (Y o7 (Y o7 (L o599) (L o7)) (Y o471 (L o727) (L o983)))) (Y o7 (Y o8 (Y o311v1 (Y o8 (L (o1079 P)) Z) (L o823)) (Y o439 (L o695) (L o951))) (Y o247 (Y o7 (L o631) (L o887)) (Y o503 (L o8) (L o7))))))) (Y o7 (Y o19 (Y o35 (Y o8 (Y o8 (Y o8 (Y o515 (L o1027) Z) (L o771)) (Y o8 (L o643) (L (o899 P)))) (Y o195 (Y o8 (L o579) (L o835)) (Y o7 (L o7) (L o919)))) (Y o99 (Y (o163 P) (Y o23 (Y o7 (L o1059) Z) (L o803)) (Y o419 (L o675) (L (o931 P)))) (Y o7 (Y o355 (L o7) (L (o867 P))) (Y o483 (L o7) (L o7))))) (Y o8 (Y o7 (Y o147 (Y o7 (Y o531 (L o7) Z) (L (o787 P))) (Y o7 (L o659) (L (o915 P)))) (Y o7 (Y o7 (L o7) (L o851)) (Y o7 (L o7) (L o979)))) (Y o115 (Y o179 (Y o307 (Y o563 (L o1075) Z) (L o7)) (Y o7 (L o8) (L o919))) (Y o243 (Y o371 (L o7) (L o883)) (Y o499 (L o755) (L o8)))))) (Y o27 (Y (o43 P) (Y o75 (Y o139 (Y o267 (Y o523 (L o1035) Z) (L o7)) (Y o395 (L o7) (L o907))) (Y (o203 P) (Y o331 (L o7) (L o843)) (Y o7 (L o7) (L o7)))) (Y o107 (Y o7 (Y o299v1 (Y o7 (L o7) Z) (L o811)) (Y o427 (L o7) (L o939))) (Y (o235 P) (Y o363 (L o7) (L o875)) (Y o491 (L o7) (L (o1003 P)))))) (Y o7 (Y o91 (Y (o155 P) (Y (o283 P) (Y o539 (L o1008) Z) (L o8)) (Y o411 (L o667) (L o923))) (Y o219 (Y o347 (L o7) (L o7)) (Y o8 (L o7) (L x)))) (Y o7 (Y o187 (Y o23 (Y o571 (L o1083) Z) (L o8)) (Y o7 (L o699) (L o7))) (Y o7 (Y o7 (L o8) (L o891)) (Y o7 (L o763) (L o1019)))))))) (Y o5 (Y o9 (Y o17 (Y o33 (Y o65 (Y o129 (Y (o257 P) (Y o513 (L o1025) Z) (L o769)) (Y o385 (L o7) (L o897))) (Y o8 (Y o321 (L o577) (L o833)) (Y o449 (L o8) (L (o961 P))))) (Y o97 (Y o7 (Y o289 (Y o23 (L o7) Z) (L o801)) (Y o7 (L o673) (L (o929 P)))) (Y o225 (Y o353 (L o609) (L o865)) (Y o7 (L o8) (L o993))))) (Y (o49 P) (Y o8 (Y o7 (Y o273 (Y o529 (L o1041) Z) (L o785)) (Y o8 (L o657) (L o913))) (Y o8 (Y o8 (L o593) (L o849)) (Y o465 (L o8) (L o919)))) (Y o113 (Y o177 (Y o7 (Y o561 (L o1073) Z) (L o817)) (Y o433 (L o689) (L (o945 P)))) (Y o7 (Y o369 (L o625) (L o7)) (Y o7 (L o753) (L (o1009 P))))))) (Y o7 (Y o41 (Y o7 (Y o137 (Y o265 (Y o7 (L o1033) Z) (L o777)) (Y o7 (L o8) (L (o905 P)))) (Y o7 (Y o7 (L o585) (L o7)) (Y o457 (L o8) (L o969)))) (Y o105 (Y o8 (Y o297 (Y o8 (L o8) Z) (L o809)) (Y o425 (L o681) (L o937))) (Y o233 (Y o7 (L o617) (L (o873 P))) (Y o7 (L o8) (L o1001))))) (Y o57 (Y o89 (Y o153 (Y o281 (Y o537 (L o1049) Z) (L (o793 P))) (Y o409 (L o7) (L o921))) (Y o217 (Y o345 (L o601) (L o857)) (Y o473 (L o8) (L o7)))) (Y o121 (Y o7 (Y o313 (Y o7 (L o1081) Z) (L o825)) (Y o441 (L o7) (L o953))) (Y o8 (Y o377 (L o633) (L o889)) (Y o8 (L o7) (L (o1017 P)))))))) (Y o13 (Y o21 (Y (o37 P) (Y o7 (Y o133 (Y o261 (Y o517 (L o7) Z) (L o8)) (Y o7 (L o645) (L (o901 P)))) (Y (o197 P) (Y o7 (L o8) (L o837)) (Y o453 (L o709) (L o965)))) (Y o7 (Y o165 (Y o7 (Y o549 (L o1061) Z) (L o805)) (Y o7 (L o8) (L o919))) (Y o229 (Y o357 (L o613) (L o869)) (Y o485 (L o741) (L o997))))) (Y o53 (Y o85 (Y o7 (Y o277 (Y o8 (L (o1045 P)) Z) (L o789)) (Y o405 (L o661) (L (o917 P)))) (Y o213 (Y o341 (L o597) (L o8)) (Y o469 (L o725) (L o981)))) (Y o8 (Y o181 (Y o309 (Y o565 (L o1077) Z) (L o821)) (Y o437 (L o7) (L o949))) (Y o245 (Y o8 (L o629) (L o7)) (Y o501 (L o757) (L o1013)))))) (Y o29 (Y o45 (Y o77 (Y o141 (Y o23 (Y o7 (L o8) Z) (L o781)) (Y o397 (L o653) (L (o909 P)))) (Y o205 (Y o333 (L o589) (L o7)) (Y o461 (L o717) (L (o973 P))))) (Y o7 (Y o173 (Y o301 (Y o557 (L o1069) Z) (L o8)) (Y o8 (L o685) (L o7))) (Y o237 (Y o7 (L o621) (L o877)) (Y o493 (L o749) (L o1005))))) (Y (o61 P) (Y o93 (Y o157 (Y o285 (Y o541 (L o7) Z) (L o797)) (Y o413 (L o7) (L o925))) (Y o221 (Y o349 (L o605) (L o861)) (Y o7 (L o733) (L o23)))) (Y o125 (Y o189 (Y o7 (L o7) (L o7)) (Y o445 (L o701) (L o6))) (Y o253 (Y o381 (L o7) (L (o893 P))) (Y o509 (L o7) (L o1021))))))))) (Y (o2v2 P) (Y o4 (Y o8 (Y o8 (Y o32 (Y o64 (Y o128 (Y o23 (Y o8 (L o7) Z) (L o7)) (Y o384 (L o640) (L o896))) (Y o7 (Y o320 (L o7) (L o832)) (Y o448 (L o7) (L o960)))) (Y o96 (Y o160 (Y o288 (Y o544 (L o1056) Z) (L o800)) (Y o416 (L o7) (L o928))) (Y o224 (Y o8 (L o608) (L o864)) (Y o480 (L o7) (L o992))))) (Y o23 (Y o7 (Y (o144 P) (Y o272 (Y o7 (L o1040) Z) (L o784)) (Y o7 (L o8) (L (o912 P)))) (Y o7 (Y o7 (L o592) (L o7)) (Y o464 (L o7) (L o976)))) (Y o7 (Y (o176 P) (Y (o304 P) (Y o8 (L o8) Z) (L o816)) (Y o432 (L o688) (L o944))) (Y o240 (Y o7 (L o624) (L o880)) (Y o496 (L o8) (L o1008)))))) (Y (o24 P) (Y o40 (Y o72 (Y (o136 P) (Y o264 (Y o520 (L o7) Z) (L o776)) (Y o392 (L o7) (L o904))) (Y o200 (Y o328 (L o584) (L (o840 P))) (Y o456 (L o7) (L (o968 P))))) (Y o7 (Y o7 (Y o296 (Y o7 (L o7) Z) (L o7)) (Y o7 (L o680) (L (o936 P)))) (Y o232 (Y o360 (L o616) (L o23)) (Y o488 (L o7) (L o1000))))) (Y o56 (Y o8 (Y o152 (Y o280 (Y o536 (L o1048) Z) (L o23)) (Y o8 (L o664) (L o7))) (Y o8 (Y o8 (L o600) (L o856)) (Y o472 (L o7) (L o919)))) (Y o120 (Y o184 (Y o312 (Y o568 (L o1080) Z) (L o824)) (Y o440 (L o696) (L (o952 P)))) (Y o7 (Y o376 (L o632) (L o7)) (Y o7 (L o760) (L o1016))))))) (Y o12v7 (Y o20 (Y o23 (Y o68 (Y o132 (Y o260 (Y o516 (L o7) Z) (L o7)) (Y o388 (L o7) (L o900))) (Y o196 (Y o324 (L o7) (L o836)) (Y o8 (L o708) (L o7)))) (Y o100 (Y o7 (Y (o292 P) (Y o548 (L o7) Z) (L o804)) (Y o420 (L o7) (L o932))) (Y o8 (Y o356 (L o8) (L o868)) (Y o7 (L o740) (L o8))))) (Y o52 (Y o84 (Y o148 (Y o8 (Y o7 (L o1016) Z) (L o788)) (Y o404 (L o660) (L o916))) (Y o212 (Y o340 (L o8) (L o7)) (Y o8 (L o724) (L (o980 P))))) (Y o7 (Y o180 (Y o308 (Y o564 (L o1076) Z) (L o8)) (Y o8 (L o692) (L o7))) (Y o7 (Y o7 (L o8) (L o884)) (Y o7 (L o756) (L o1012)))))) (Y o28 (Y o44v1 (Y o7 (Y o140 (Y o7 (Y o524 (L o7) Z) (L o8)) (Y o7 (L o652) (L o908))) (Y o7 (Y o7 (L o8) (L o844)) (Y o8 (L o716) (L o972)))) (Y o108 (Y o172 (Y o300 (Y o556 (L o1068) Z) (L o7)) (Y o7 (L o8) (L o919))) (Y o236 (Y o364 (L o8) (L o876)) (Y o7 (L o748) (L o1004))))) (Y o23 (Y o92 (Y o156 (Y o284 (Y (o540 P) (L (o1052 P)) Z) (L o796)) (Y o412 (L o668) (L (o924 P)))) (Y o220 (Y o348 (L o8) (L o8)) (Y o476 (L o732) (L o988)))) (Y o8 (Y o188 (Y (o316 P) (Y o572 (L o1084) Z) (L o828)) (Y o8 (L o7) (L o956))) (Y o252 (Y o8 (L o636) (L o892)) (Y o508 (L o764) (L o1020)))))))) (Y o6 (Y o10 (Y o7 (Y o34 (Y o7 (Y o7 (Y o7 (Y o7 (L o1026) Z) (L o770)) (Y o7 (L o8) (L o898))) (Y o194 (Y o7 (L o578) (L (o834 P))) (Y o450 (L o706) (L o962)))) (Y o98 (Y o23 (Y o290 (Y (o546 P) (L o8) Z) (L o802)) (Y o418 (L o674) (L o930))) (Y o226 (Y o7 (L o610) (L o866)) (Y o8 (L o738) (L o994))))) (Y o7 (Y o82 (Y o146 (Y o274 (Y o530 (L o1042) Z) (L o786)) (Y o402 (L o7) (L (o914 P)))) (Y o210 (Y o338 (L o594) (L o850)) (Y o466 (L o722) (L o7)))) (Y o114 (Y o178 (Y o8 (Y o7 (L o7) Z) (L o818)) (Y o434 (L o7) (L o946))) (Y o8 (Y o370 (L o626) (L o882)) (Y o8 (L o7) (L o7)))))) (Y o8 (Y o42 (Y o8 (Y o138 (Y o266 (Y o522 (L o1034) Z) (L o778)) (Y o8 (L o650) (L o6))) (Y o23 (Y o8 (L o586) (L o842)) (Y o458 (L o714) (L o919)))) (Y o106 (Y o170 (Y (o298 P) (Y o554 (L o1066) Z) (L o810)) (Y o426 (L o682) (L (o938 P)))) (Y o234 (Y o362 (L o618) (L o7)) (Y o8 (L o746) (L o7))))) (Y o58 (Y o7 (Y o7 (Y o282 (Y o538 (L o1050) Z) (L o7)) (Y o7 (L o666) (L (o922 P)))) (Y o7 (Y o7 (L o602) (L o858)) (Y o7 (L o730) (L o986)))) (Y o122 (Y o186 (Y o314 (Y o570 (L o1082) Z) (L o7)) (Y o442 (L o8) (L o919))) (Y o250 (Y o378 (L o7) (L o890)) (Y o506 (L o762) (L o1018))))))) (Y o14 (Y o22 (Y o7 (Y o70 (Y o134 (Y o7 (Y o7 (L o8) Z) (L o774)) (Y o390 (L o646) (L o6))) (Y o198 (Y o326 (L o582) (L o805)) (Y o7 (L o710) (L (o966 P))))) (Y o23 (Y o166 (Y o8 (Y o550 (L o1062) Z) (L o23)) (Y o8 (L o678) (L o7))) (Y o7 (Y o7 (L o7) (L o870)) (Y o486 (L o742) (L o7))))) (Y o54 (Y o86 (Y o8 (Y o7 (Y o534 (L o1046) Z) (L o790)) (Y o406 (L o7) (L o918))) (Y o214 (Y o342 (L o7) (L o854)) (Y o7 (L o726) (L (o982 P))))) (Y o118 (Y o7 (Y (o310 P) (Y o7 (L o1078) Z) (L o7)) (Y o7 (L o694) (L (o950 P)))) (Y o246 (Y o374 (L o7) (L o8)) (Y o502 (L o7) (L o7)))))) (Y (o30 P) (Y o46 (Y o78 (Y o7 (Y (o270 P) (Y o8 (L o1038) Z) (L o7)) (Y o398 (L o654) (L o910))) (Y o206 (Y o334 (L o7) (L o8)) (Y o7 (L o718) (L o974)))) (Y o8 (Y o174 (Y o290 (Y o558 (L o1070) Z) (L o814)) (Y o430 (L o7) (L o942))) (Y o238 (Y o8 (L o7) (L o7)) (Y o494 (L o750) (L o1006))))) (Y o7 (Y o94 (Y o158 (Y o286 (Y o542 (L o1054) Z) (L o7)) (Y o7 (L o8) (L o919))) (Y o7 (Y o350 (L o7) (L o7)) (Y o478 (L o734) (L (o990 P))))) (Y o7 (Y o23 (Y o318 (L o8) (L o830)) (Y o7 (L o702) (L o958))) (Y o254 (Y o7 (L o638) (L o894)) (Y o510 (L o8) (L o1008))))))))))
noncomputable def s55 (w : World) (x : Obj) (os : OsState) : SharedT := ⟨t55 w.params x, 1085, lf, #[], dr, 1587, os⟩
noncomputable def o3v12 (P : Params) : Obj := ⟨.type "dict",none,(.dict #[en P "__name__" 165 (.str "pdfminer.psparser" 1585),en P "__doc__" 166 .none,en P "__package__" 167 .none,en P "__loader__" 168 (.builtin "__main__.__loader__#opaque"),en P "__spec__" 169 .none,en P "__annotations__" 170 (.ref 6),en P "__builtins__" 171 (.ref 4),en P "__file__" 173 (.str "/claim/cut.py" 172),en P "__cached__" 174 .none,en P "_wall" 193 (.ref 21),en P "PSException" 215 (.ref 31),en P "PDFException" 233 (.ref 44),en P "PDFEOFError" 251 (.ref 56),en P "Found" 308 (.ref 96),en P "Signs" 363 (.ref 137),en P "HexPairs" 389 (.ref 156),en P "Real" 420 (.ref 177),en P "cast" 428 (.ref 188),en P "CorruptDataError" 446 (.ref 198),en P "LZWDecoder" 504 (.ref 236),en P "_whence" 514 (.ref 247),en P "_index" 522 (.ref 254),en P "UnsupportedOperation" 544 (.ref 264),en P "IOBase" 576 (.ref 284),en P "BufferedIOBase" 594 (.ref 299),en P "TextIOBase" 612 (.ref 311),en P "BytesIO" 874 (.ref 541),en P "StringIO" 1161 (.ref 788),en P "PSObject" 1183 (.ref 800),en P "PSLiteral" 1225 (.ref 835),en P "PSKeyword" 1267 (.ref 868),en P "PSSymbolTable" 1306 (.ref 894),en P "PSLiteralTable" 1313 (.ref 900),en P "PSKeywordTable" 1320 (.ref 904),en P "LIT" 1322 (.ref 907),en P "KWD" 1324 (.ref 908),en P "KEYWORD_DICT_BEGIN" 1330 (.ref 910),en P "KEYWORD_DICT_END" 1336 (.ref 913),en P "EOL" 1345 (.ref 916),en P "SPC" 1354 (.ref 923),en P "NONSPC" 1363 (.ref 930),en P "HEX" 1372 (.ref 937),en P "END_LITERAL" 1381 (.ref 944),en P "END_HEX_STRING" 1390 (.ref 951),en P "HEX_PAIR" 1391 (.ref 958),en P "END_NUMBER" 1400 (.ref 960),en P "END_KEYWORD" 1409 (.ref 967),en P "END_STRING" 1418 (.ref 974),en P "OCT_STRING" 1427 (.ref 981),en P "ESC_STRING" 1452 (.ref 987),en P "ABCMeta" 1478 (.ref 1004),en P "ABC" 1495 (.ref 1018),en P "AbstractContextManager" 1531 (.ref 1046),en P "suppress" 1584 (.ref 1080),en P "PSBaseParser" 1822 (.ref 1241)] 55),#[]⟩
noncomputable def o12v8 : Obj := fl #[.int 1 0,.int 0 0,.ref 20,.int 5 0,.int 0 0,.ref 27,.int 8 0,.int 0 0,.ref 40,.int 10 0,.int 0 0,.ref 52,.int 13 0,.int 0 0,.ref 64,.int 26 0,.int 0 0,.ref 106,.int 41 0,.int 0 0,.ref 147,.int 45 0,.int 0 0,.ref 166,.int 50 0,.int 0 0,.ref 187,.int 53 0,.int 0 0,.ref 194,.int 55 0,.int 0 0,.ref 206,.int 117 0,.int 0 0,.ref 246,.int 122 0,.int 0 0,.ref 253,.int 129 0,.int 0 0,.ref 260,.int 131 0,.int 0 0,.ref 273,.int 138 0,.int 0 0,.ref 295,.int 140 0,.int 0 0,.ref 307,.int 142 0,.int 0 0,.ref 319,.int 312 0,.int 0 0,.ref 549,.int 518 0,.int 0 0,.ref 796,.int 520 0,.int 0 0,.ref 810,.int 531 0,.int 0 0,.ref 843,.int 542 0,.int 0 0,.ref 876,.int 574 0,.int 0 0,.ref 993,.int 578 0,.int 0 0,.ref 1012,.int 581 0,.int 0 0,.ref 1026,.int 590 0,.int 0 0,.ref 1055,.int 610 0,.int 0 0,.ref 1090]
noncomputable def o1087 (P : Params) : Obj := ⟨.type "dict",none,(.dict #[en P "__module__" 1594 (.str "pdfminer.psparser" 1585),en P "__qualname__" 1596 (.str "PSBaseParser" 1595),en P "__firstlineno__" 1598 (.int 610 1597),en P "BUFSIZ" 1600 (.int 4096 1599),en P "__init__" 1608 (.ref 1098),en P "__repr__" 1615 (.ref 1105),en P "flush" 1622 (.ref 1112),en P "seek" 1630 (.ref 1119),en P "fillbuf" 1637 (.ref 1126),en P "nextline" 1644 (.ref 1133),en P "revreadlines" 1651 (.ref 1140),en P "_parse_main" 1663 (.ref 1147),en P "_add_token" 1671 (.ref 1154),en P "_parse_comment" 1682 (.ref 1161),en P "_parse_literal" 1695 (.ref 1168),en P "_parse_literal_hex" 1705 (.ref 1175),en P "_parse_number" 1717 (.ref 1182),en P "_parse_float" 1728 (.ref 1189),en P "_parse_keyword" 1740 (.ref 1196),en P "_parse_string" 1752 (.ref 1203),en P "_parse_string_1" 1763 (.ref 1210),en P "_parse_wopen" 1773 (.ref 1217),en P "_parse_wclose" 1783 (.ref 1224),en P "_parse_hexstring" 1795 (.ref 1231),en P "nexttoken" 1802 (.ref 1238),en P "__static_attributes__" 1815 (.ref 1239)] 26),#[]⟩
noncomputable def o1089 : Obj := fl #[.int 613 0,.int 4 0,.ref 1097,.int 618 0,.int 4 0,.ref 1104,.int 621 0,.int 4 0,.ref 1111,.int 624 0,.int 4 0,.ref 1118,.int 635 0,.int 4 0,.ref 1125,.int 638 0,.int 4 0,.ref 1132,.int 641 0,.int 4 0,.ref 1139,.int 644 0,.int 4 0,.ref 1146,.int 690 0,.int 4 0,.ref 1153,.int 693 0,.int 4 0,.ref 1160,.int 703 0,.int 4 0,.ref 1167,.int 723 0,.int 4 0,.ref 1174,.int 733 0,.int 4 0,.ref 1181,.int 750 0,.int 4 0,.ref 1188,.int 762 0,.int 4 0,.ref 1195,.int 780 0,.int 4 0,.ref 1202,.int 805 0,.int 4 0,.ref 1209,.int 823 0,.int 4 0,.ref 1216,.int 833 0,.int 4 0,.ref 1223,.int 841 0,.int 4 0,.ref 1230,.int 853 0,.int 4 0,.ref 1237]
noncomputable def o1090 : Obj := cd #[.str "PSBaseParser" 1589,.str "PSBaseParser" 1590,.str "/claim/cut.py" 1591,.int 610 0,.int 0 0,.int 0 0,.int 0 0,.int 0 0,.ref 1088,.bool false,.int 181 0,.ref 1089,.none,.none,.none,.none,.int 1592 0,.int 610 0,.str "/claim/cut.py" 1593]
noncomputable def o1091 : Obj := ⟨.type "frame",none,.plain,#[(some (.ref 1090)),(some (.ref 3)),(some (.ref 1087)),none,(some (.str "pdfminer.psparser" 1585)),none,(some (.ref 0))]⟩
noncomputable def o1094 : Obj := sq #[.str "self" 1604,.str "fp" 1605]
noncomputable def o1096 : Obj := fz [55,1] "PSBaseParser.__init__"
noncomputable def o1097 : Obj := ⟨.type "code",none,.fields #[.str "__init__" 1601,.str "PSBaseParser.__init__" 1602,.str "/claim/cut.py" 1603,.int 613 0,.int 2 0,.int 0 0,.int 0 0,.int 3 0,.ref 1092,.bool true,.int 181 0,.ref 1093,.none,.ref 1094,.ref 1095,.ref 1096,.int 1606 0,.int 613 0,.str "/claim/cut.py" 1607],#[]⟩
noncomputable def o1098 : Obj := ⟨.type "function",none,(fd (sAt [55,1]) "PSBaseParser.__init__" 3 [] .none .none .none (.str "pdfminer.psparser" 1585) none (.ref 1097) .none 0),#[]⟩
noncomputable def o1101 : Obj := sq #[.str "self" 1612]
noncomputable def o1103 : Obj := fz [55,2] "PSBaseParser.__repr__"
noncomputable def o1104 : Obj := ⟨.type "code",none,.fields #[.str "__repr__" 1609,.str "PSBaseParser.__repr__" 1610,.str "/claim/cut.py" 1611,.int 618 0,.int 1 0,.int 0 0,.int 0 0,.int 3 0,.ref 1099,.bool true,.int 181 0,.ref 1100,.none,.ref 1101,.ref 1102,.ref 1103,.int 1613 0,.int 618 0,.str "/claim/cut.py" 1614],#[]⟩
noncomputable def o1105 : Obj := ⟨.type "function",none,(fd (sAt [55,2]) "PSBaseParser.__repr__" 3 [] .none .none .none (.str "pdfminer.psparser" 1585) none (.ref 1104) .none 0),#[]⟩
noncomputable def o1108 : Obj := sq #[.str "self" 1619]
noncomputable def o1110 : Obj := fz [55,3] "PSBaseParser.flush"
noncomputable def o1111 : Obj := ⟨.type "code",none,.fields #[.str "flush" 1616,.str "PSBaseParser.flush" 1617,.str "/claim/cut.py" 1618,.int 621 0,.int 1 0,.int 0 0,.int 0 0,.int 3 0,.ref 1106,.bool true,.int 181 0,.ref 1107,.none,.ref 1108,.ref 1109,.ref 1110,.int 1620 0,.int 621 0,.str "/claim/cut.py" 1621],#[]⟩
noncomputable def o1112 : Obj := ⟨.type "function",none,(fd (sAt [55,3]) "PSBaseParser.flush" 3 [] .none .none .none (.str "pdfminer.psparser" 1585) none (.ref 1111) .none 0),#[]⟩
noncomputable def o1115 : Obj := sq #[.str "self" 1626,.str "pos" 1627]
noncomputable def o1117 : Obj := fz [55,4] "PSBaseParser.seek"
noncomputable def o1118 : Obj := ⟨.type "code",none,.fields #[.str "seek" 1623,.str "PSBaseParser.seek" 1624,.str "/claim/cut.py" 1625,.int 624 0,.int 2 0,.int 0 0,.int 0 0,.int 3 0,.ref 1113,.bool true,.int 181 0,.ref 1114,.none,.ref 1115,.ref 1116,.ref 1117,.int 1628 0,.int 624 0,.str "/claim/cut.py" 1629],#[]⟩
noncomputable def o1119 : Obj := ⟨.type "function",none,(fd (sAt [55,4]) "PSBaseParser.seek" 3 [] .none .none .none (.str "pdfminer.psparser" 1585) none (.ref 1118) .none 0),#[]⟩
noncomputable def o1122 : Obj := sq #[.str "self" 1634]
noncomputable def o1124 : Obj := fz [55,5] "PSBaseParser.fillbuf"
noncomputable def o1125 : Obj := ⟨.type "code",none,.fields #[.str "fillbuf" 1631,.str "PSBaseParser.fillbuf" 1632,.str "/claim/cut.py" 1633,.int 635 0,.int 1 0,.int 0 0,.int 0 0,.int 3 0,.ref 1120,.bool true,.int 181 0,.ref 1121,.none,.ref 1122,.ref 1123,.ref 1124,.int 1635 0,.int 635 0,.str "/claim/cut.py" 1636],#[]⟩
noncomputable def o1126 : Obj := ⟨.type "function",none,(fd (sAt [55,5]) "PSBaseParser.fillbuf" 3 [] .none .none .none (.str "pdfminer.psparser" 1585) none (.ref 1125) .none 0),#[]⟩
noncomputable def o1129 : Obj := sq #[.str "self" 1641]
noncomputable def o1131 : Obj := fz [55,6] "PSBaseParser.nextline"
noncomputable def o1132 : Obj := ⟨.type "code",none,.fields #[.str "nextline" 1638,.str "PSBaseParser.nextline" 1639,.str "/claim/cut.py" 1640,.int 638 0,.int 1 0,.int 0 0,.int 0 0,.int 3 0,.ref 1127,.bool true,.int 181 0,.ref 1128,.none,.ref 1129,.ref 1130,.ref 1131,.int 1642 0,.int 638 0,.str "/claim/cut.py" 1643],#[]⟩
noncomputable def o1133 : Obj := ⟨.type "function",none,(fd (sAt [55,6]) "PSBaseParser.nextline" 3 [] .none .none .none (.str "pdfminer.psparser" 1585) none (.ref 1132) .none 0),#[]⟩
noncomputable def o1136 : Obj := sq #[.str "self" 1648]
noncomputable def o1138 : Obj := fz [55,7] "PSBaseParser.revreadlines"
noncomputable def o1139 : Obj := ⟨.type "code",none,.fields #[.str "revreadlines" 1645,.str "PSBaseParser.revreadlines" 1646,.str "/claim/cut.py" 1647,.int 641 0,.int 1 0,.int 0 0,.int 0 0,.int 3 0,.ref 1134,.bool true,.int 181 0,.ref 1135,.none,.ref 1136,.ref 1137,.ref 1138,.int 1649 0,.int 641 0,.str "/claim/cut.py" 1650],#[]⟩
noncomputable def o1140 : Obj := ⟨.type "function",none,(fd (sAt [55,7]) "PSBaseParser.revreadlines" 3 [] .none .none .none (.str "pdfminer.psparser" 1585) none (.ref 1139) .none 0),#[]⟩
noncomputable def o1143 : Obj := sq #[.str "self" 1655,.str "s" 1656,.str "i" 1657,.str "m" 1658,.str "j" 1659,.str "c" 1660]
noncomputable def o1145 : Obj := fz [55,8] "PSBaseParser._parse_main"
noncomputable def o1146 : Obj := ⟨.type "code",none,.fields #[.str "_parse_main" 1652,.str "PSBaseParser._parse_main" 1653,.str "/claim/cut.py" 1654,.int 644 0,.int 3 0,.int 0 0,.int 0 0,.int 3 0,.ref 1141,.bool true,.int 181 0,.ref 1142,.none,.ref 1143,.ref 1144,.ref 1145,.int 1661 0,.int 644 0,.str "/claim/cut.py" 1662],#[]⟩
noncomputable def o1147 : Obj := ⟨.type "function",none,(fd (sAt [55,8]) "PSBaseParser._parse_main" 3 [] .none .none .none (.str "pdfminer.psparser" 1585) none (.ref 1146) .none 0),#[]⟩
noncomputable def o1150 : Obj := sq #[.str "self" 1667,.str "obj" 1668]
noncomputable def o1152 : Obj := fz [55,9] "PSBaseParser._add_token"
noncomputable def o1153 : Obj := ⟨.type "code",none,.fields #[.str "_add_token" 1664,.str "PSBaseParser._add_token" 1665,.str "/claim/cut.py" 1666,.int 690 0,.int 2 0,.int 0 0,.int 0 0,.int 3 0,.ref 1148,.bool true,.int 181 0,.ref 1149,.none,.ref 1150,.ref 1151,.ref 1152,.int 1669 0,.int 690 0,.str "/claim/cut.py" 1670],#[]⟩
noncomputable def o1154 : Obj := ⟨.type "function",none,(fd (sAt [55,9]) "PSBaseParser._add_token" 3 [] .none .none .none (.str "pdfminer.psparser" 1585) none (.ref 1153) .none 0),#[]⟩
noncomputable def o1157 : Obj := sq #[.str "self" 1675,.str "s" 1676,.str "i" 1677,.str "m" 1678,.str "j" 1679]
noncomputable def o1159 : Obj := fz [55,10] "PSBaseParser._parse_comment"
noncomputable def o1160 : Obj := ⟨.type "code",none,.fields #[.str "_parse_comment" 1672,.str "PSBaseParser._parse_comment" 1673,.str "/claim/cut.py" 1674,.int 693 0,.int 3 0,.int 0 0,.int 0 0,.int 3 0,.ref 1155,.bool true,.int 181 0,.ref 1156,.none,.ref 1157,.ref 1158,.ref 1159,.int 1680 0,.int 693 0,.str "/claim/cut.py" 1681],#[]⟩
noncomputable def o1161 : Obj := ⟨.type "function",none,(fd (sAt [55,10]) "PSBaseParser._parse_comment" 3 [] .none .none .none (.str "pdfminer.psparser" 1585) none (.ref 1160) .none 0),#[]⟩
noncomputable def o1164 : Obj := sq #[.str "self" 1686,.str "s" 1687,.str "i" 1688,.str "m" 1689,.str "j" 1690,.str "c" 1691,.str "name" 1692]
noncomputable def o1166 : Obj := fz [55,11] "PSBaseParser._parse_literal"
noncomputable def o1167 : Obj := ⟨.type "code",none,.fields #[.str "_parse_literal" 1683,.str "PSBaseParser._parse_literal" 1684,.str "/claim/cut.py" 1685,.int 703 0,.int 3 0,.int 0 0,.int 0 0,.int 3 0,.ref 1162,.bool true,.int 181 0,.ref 1163,.none,.ref 1164,.ref 1165,.ref 1166,.int 1693 0,.int 703 0,.str "/claim/cut.py" 1694],#[]⟩
noncomputable def o1168 : Obj := ⟨.type "function",none,(fd (sAt [55,11]) "PSBaseParser._parse_literal" 3 [] .none .none .none (.str "pdfminer.psparser" 1585) none (.ref 1167) .none 0),#[]⟩
noncomputable def o1171 : Obj := sq #[.str "self" 1699,.str "s" 1700,.str "i" 1701,.str "c" 1702]
noncomputable def o1173 : Obj := fz [55,12] "PSBaseParser._parse_literal_hex"
noncomputable def o1174 : Obj := ⟨.type "code",none,.fields #[.str "_parse_literal_hex" 1696,.str "PSBaseParser._parse_literal_hex" 1697,.str "/claim/cut.py" 1698,.int 723 0,.int 3 0,.int 0 0,.int 0 0,.int 3 0,.ref 1169,.bool true,.int 181 0,.ref 1170,.none,.ref 1171,.ref 1172,.ref 1173,.int 1703 0,.int 723 0,.str "/claim/cut.py" 1704],#[]⟩
noncomputable def o1175 : Obj := ⟨.type "function",none,(fd (sAt [55,12]) "PSBaseParser._parse_literal_hex" 3 [] .none .none .none (.str "pdfminer.psparser" 1585) none (.ref 1174) .none 0),#[]⟩
noncomputable def o1178 : Obj := sq #[.str "self" 1709,.str "s" 1710,.str "i" 1711,.str "m" 1712,.str "j" 1713,.str "c" 1714]
noncomputable def o1180 : Obj := fz [55,13] "PSBaseParser._parse_number"
noncomputable def o1181 : Obj := ⟨.type "code",none,.fields #[.str "_parse_number" 1706,.str "PSBaseParser._parse_number" 1707,.str "/claim/cut.py" 1708,.int 733 0,.int 3 0,.int 0 0,.int 0 0,.int 3 0,.ref 1176,.bool true,.int 181 0,.ref 1177,.none,.ref 1178,.ref 1179,.ref 1180,.int 1715 0,.int 733 0,.str "/claim/cut.py" 1716],#[]⟩
noncomputable def o1182 : Obj := ⟨.type "function",none,(fd (sAt [55,13]) "PSBaseParser._parse_number" 3 [] .none .none .none (.str "pdfminer.psparser" 1585) none (.ref 1181) .none 0),#[]⟩
noncomputable def o1185 : Obj := sq #[.str "self" 1721,.str "s" 1722,.str "i" 1723,.str "m" 1724,.str "j" 1725]
noncomputable def o1187 : Obj := fz [55,14] "PSBaseParser._parse_float"
noncomputable def o1188 : Obj := ⟨.type "code",none,.fields #[.str "_parse_float" 1718,.str "PSBaseParser._parse_float" 1719,.str "/claim/cut.py" 1720,.int 750 0,.int 3 0,.int 0 0,.int 0 0,.int 3 0,.ref 1183,.bool true,.int 181 0,.ref 1184,.none,.ref 1185,.ref 1186,.ref 1187,.int 1726 0,.int 750 0,.str "/claim/cut.py" 1727],#[]⟩
noncomputable def o1189 : Obj := ⟨.type "function",none,(fd (sAt [55,14]) "PSBaseParser._parse_float" 3 [] .none .none .none (.str "pdfminer.psparser" 1585) none (.ref 1188) .none 0),#[]⟩
noncomputable def o1192 : Obj := sq #[.str "self" 1732,.str "s" 1733,.str "i" 1734,.str "m" 1735,.str "j" 1736,.str "token" 1737]
noncomputable def o1194 : Obj := fz [55,15] "PSBaseParser._parse_keyword"
noncomputable def o1195 : Obj := ⟨.type "code",none,.fields #[.str "_parse_keyword" 1729,.str "PSBaseParser._parse_keyword" 1730,.str "/claim/cut.py" 1731,.int 762 0,.int 3 0,.int 0 0,.int 0 0,.int 3 0,.ref 1190,.bool true,.int 181 0,.ref 1191,.none,.ref 1192,.ref 1193,.ref 1194,.int 1738 0,.int 762 0,.str "/claim/cut.py" 1739],#[]⟩
noncomputable def o1196 : Obj := ⟨.type "function",none,(fd (sAt [55,15]) "PSBaseParser._parse_keyword" 3 [] .none .none .none (.str "pdfminer.psparser" 1585) none (.ref 1195) .none 0),#[]⟩
noncomputable def o1199 : Obj := sq #[.str "self" 1744,.str "s" 1745,.str "i" 1746,.str "m" 1747,.str "j" 1748,.str "c" 1749]
noncomputable def o1201 : Obj := fz [55,16] "PSBaseParser._parse_string"
noncomputable def o1202 : Obj := ⟨.type "code",none,.fields #[.str "_parse_string" 1741,.str "PSBaseParser._parse_string" 1742,.str "/claim/cut.py" 1743,.int 780 0,.int 3 0,.int 0 0,.int 0 0,.int 3 0,.ref 1197,.bool true,.int 181 0,.ref 1198,.none,.ref 1199,.ref 1200,.ref 1201,.int 1750 0,.int 780 0,.str "/claim/cut.py" 1751],#[]⟩
noncomputable def o1203 : Obj := ⟨.type "function",none,(fd (sAt [55,16]) "PSBaseParser._parse_string" 3 [] .none .none .none (.str "pdfminer.psparser" 1585) none (.ref 1202) .none 0),#[]⟩
noncomputable def o1206 : Obj := sq #[.str "self" 1756,.str "s" 1757,.str "i" 1758,.str "c" 1759,.str "chrcode" 1760]
noncomputable def o1208 : Obj := fz [55,17] "PSBaseParser._parse_string_1"
noncomputable def o1209 : Obj := ⟨.type "code",none,.fields #[.str "_parse_string_1" 1753,.str "PSBaseParser._parse_string_1" 1754,.str "/claim/cut.py" 1755,.int 805 0,.int 3 0,.int 0 0,.int 0 0,.int 3 0,.ref 1204,.bool true,.int 181 0,.ref 1205,.none,.ref 1206,.ref 1207,.ref 1208,.int 1761 0,.int 805 0,.str "/claim/cut.py" 1762],#[]⟩
noncomputable def o1210 : Obj := ⟨.type "function",none,(fd (sAt [55,17]) "PSBaseParser._parse_string_1" 3 [] .none .none .none (.str "pdfminer.psparser" 1585) none (.ref 1209) .none 0),#[]⟩
noncomputable def o1213 : Obj := sq #[.str "self" 1767,.str "s" 1768,.str "i" 1769,.str "c" 1770]
noncomputable def o1215 : Obj := fz [55,18] "PSBaseParser._parse_wopen"
noncomputable def o1216 : Obj := ⟨.type "code",none,.fields #[.str "_parse_wopen" 1764,.str "PSBaseParser._parse_wopen" 1765,.str "/claim/cut.py" 1766,.int 823 0,.int 3 0,.int 0 0,.int 0 0,.int 3 0,.ref 1211,.bool true,.int 181 0,.ref 1212,.none,.ref 1213,.ref 1214,.ref 1215,.int 1771 0,.int 823 0,.str "/claim/cut.py" 1772],#[]⟩
noncomputable def o1217 : Obj := ⟨.type "function",none,(fd (sAt [55,18]) "PSBaseParser._parse_wopen" 3 [] .none .none .none (.str "pdfminer.psparser" 1585) none (.ref 1216) .none 0),#[]⟩
noncomputable def o1220 : Obj := sq #[.str "self" 1777,.str "s" 1778,.str "i" 1779,.str "c" 1780]
noncomputable def o1222 : Obj := fz [55,19] "PSBaseParser._parse_wclose"
noncomputable def o1223 : Obj := ⟨.type "code",none,.fields #[.str "_parse_wclose" 1774,.str "PSBaseParser._parse_wclose" 1775,.str "/claim/cut.py" 1776,.int 833 0,.int 3 0,.int 0 0,.int 0 0,.int 3 0,.ref 1218,.bool true,.int 181 0,.ref 1219,.none,.ref 1220,.ref 1221,.ref 1222,.int 1781 0,.int 833 0,.str "/claim/cut.py" 1782],#[]⟩
noncomputable def o1224 : Obj := ⟨.type "function",none,(fd (sAt [55,19]) "PSBaseParser._parse_wclose" 3 [] .none .none .none (.str "pdfminer.psparser" 1585) none (.ref 1223) .none 0),#[]⟩
noncomputable def o1227 : Obj := sq #[.str "self" 1787,.str "s" 1788,.str "i" 1789,.str "m" 1790,.str "j" 1791,.str "token" 1792]
noncomputable def o1229 : Obj := fz [55,20] "PSBaseParser._parse_hexstring"
noncomputable def o1230 : Obj := ⟨.type "code",none,.fields #[.str "_parse_hexstring" 1784,.str "PSBaseParser._parse_hexstring" 1785,.str "/claim/cut.py" 1786,.int 841 0,.int 3 0,.int 0 0,.int 0 0,.int 3 0,.ref 1225,.bool true,.int 181 0,.ref 1226,.none,.ref 1227,.ref 1228,.ref 1229,.int 1793 0,.int 841 0,.str "/claim/cut.py" 1794],#[]⟩
noncomputable def o1231 : Obj := ⟨.type "function",none,(fd (sAt [55,20]) "PSBaseParser._parse_hexstring" 3 [] .none .none .none (.str "pdfminer.psparser" 1585) none (.ref 1230) .none 0),#[]⟩
noncomputable def o1234 : Obj := sq #[.str "self" 1799]
noncomputable def o1236 : Obj := fz [55,21] "PSBaseParser.nexttoken"
noncomputable def o1237 : Obj := ⟨.type "code",none,.fields #[.str "nexttoken" 1796,.str "PSBaseParser.nexttoken" 1797,.str "/claim/cut.py" 1798,.int 853 0,.int 1 0,.int 0 0,.int 0 0,.int 3 0,.ref 1232,.bool true,.int 181 0,.ref 1233,.none,.ref 1234,.ref 1235,.ref 1236,.int 1800 0,.int 853 0,.str "/claim/cut.py" 1801],#[]⟩
noncomputable def o1238 : Obj := ⟨.type "function",none,(fd (sAt [55,21]) "PSBaseParser.nexttoken" 3 [] .none .none .none (.str "pdfminer.psparser" 1585) none (.ref 1237) .none 0),#[]⟩
noncomputable def o1239 : Obj := ⟨.type "tuple",none,.seq #[.str "_curtoken" 1803,.str "_curtokenpos" 1804,.str "_parse1" 1805,.str "_tokens" 1806,.str "buf" 1807,.str "bufpos" 1808,.str "charpos" 1809,.str "eof" 1810,.str "fp" 1811,.str "hex" 1812,.str "oct" 1813,.str "paren" 1814] 0,#[]⟩
noncomputable def o1240 (P : Params) : Obj := ⟨.type "dict",none,(.dict #[en P "__module__" 1594 (.str "pdfminer.psparser" 1585),en P "__firstlineno__" 1598 (.int 610 1597),en P "BUFSIZ" 1600 (.int 4096 1599),en P "__init__" 1608 (.ref 1098),en P "__repr__" 1615 (.ref 1105),en P "flush" 1622 (.ref 1112),en P "seek" 1630 (.ref 1119),en P "fillbuf" 1637 (.ref 1126),en P "nextline" 1644 (.ref 1133),en P "revreadlines" 1651 (.ref 1140),en P "_parse_main" 1663 (.ref 1147),en P "_add_token" 1671 (.ref 1154),en P "_parse_comment" 1682 (.ref 1161),en P "_parse_literal" 1695 (.ref 1168),en P "_parse_literal_hex" 1705 (.ref 1175),en P "_parse_number" 1717 (.ref 1182),en P "_parse_float" 1728 (.ref 1189),en P "_parse_keyword" 1740 (.ref 1196),en P "_parse_string" 1752 (.ref 1203),en P "_parse_string_1" 1763 (.ref 1210),en P "_parse_wopen" 1773 (.ref 1217),en P "_parse_wclose" 1783 (.ref 1224),en P "_parse_hexstring" 1795 (.ref 1231),en P "nexttoken" 1802 (.ref 1238),en P "__static_attributes__" 1815 (.ref 1239),en P "__dict__" 1817 (.ref 1242),en P "__weakref__" 1819 (.ref 1243),en P "__doc__" 1820 .none] 4),#[]⟩
noncomputable def o1241 : Obj := ⟨.type "type",none,.cls ⟨"PSBaseParser",[.type "object"],[.ref 1241,.type "object"],1240,"PSBaseParser",true,[],[],false,none,false⟩,#[none,none,(some (.str "PSBaseParser" 1587)),(some (.str "PSBaseParser" 1595)),(some (.builtin "object.__new__")),(some (.bool true))]⟩
noncomputable def o1242 : Obj := ⟨.type "getset_descriptor",none,.fields #[.str "__dict__" 1816,.ref 1241,.builtin "function.__dict__",.builtin "function.__dict__#set"],#[]⟩
noncomputable def o1243 : Obj := ⟨.type "getset_descriptor",none,.fields #[.str "__weakref__" 1818,.ref 1241,.builtin "ExceptionGroup.__weakref__",.none],#[]⟩
noncomputable def o1244 : Obj := ⟨.type "super",none,.fields #[.ref 1241,.ref 1241,.ref 1241],#[]⟩
noncomputable def o1245 : Obj := ⟨.type "builtin_function_or_method",none,.fields #[.builtin "object.__init_subclass__",.ref 1241],#[]⟩
noncomputable def t56 (P : Params) (x : Obj) : BT := (Y (o0 P) (Y (o1 P) (Y (o3v12 P) (Y o7 (Y o7 (Y o31 (Y o63 (Y o127 (Y o255 (Y o7 (L (o1023 P)) Z) (L o767)) (Y o383 (Y o639 (L o7) Z) (L o895))) (Y (o191 P) (Y o319 (Y o575 (L (o1087 P)) Z) (L o831)) (Y o447 (Y o703 (L o1215) Z) (L (o959 P))))) (Y (o95 P) (Y o159 (Y o287 (Y o543 (L o1055) Z) (L (o799 P))) (Y o8 (Y o671 (L o7) Z) (L o7))) (Y o8 (Y o7 (Y o607 (L o1119) Z) (L o863)) (Y o479 (L o735) (L o7))))) (Y o47 (Y o79 (Y o23 (Y o7 (Y o527 (L o7) Z) (L o783)) (Y o399 (Y o7 (L o1167) Z) (L (o911 P)))) (Y o207 (Y o335 (Y o591 (L o1103) Z) (L o847)) (Y o463 (Y o719 (L o1231) Z) (L (o975 P))))) (Y o111 (Y o175 (Y o23 (Y o7 (L o7) Z) (L o7)) (Y o7 (Y o687 (L o1199) Z) (L (o943 P)))) (Y o239 (Y o367 (Y o623 (L o8) Z) (L o8)) (Y o495 (L o7) (L o7)))))) (Y o23 (Y o8 (Y o71 (Y o135 (Y (o263 P) (Y o8 (L o1031) Z) (L o7)) (Y o391 (Y o647 (L o1159) Z) (L (o903 P)))) (Y o199 (Y o327 (Y o7 (L o7) Z) (L o23)) (Y o455 (Y o711 (L o1223) Z) (L o967)))) (Y (o103 P) (Y o167 (Y o295 (Y o551 (L o1063) Z) (L (o807 P))) (Y o423 (Y o7 (L o8) Z) (L o935))) (Y o231 (Y o8 (Y o615 (L o7) Z) (L o7)) (Y o487 (L o743) (L o999))))) (Y (o55 P) (Y o7 (Y o151 (Y o279 (Y o7 (L o1047) Z) (L o7)) (Y o7 (Y o8 (L o1175) Z) (L o919))) (Y o7 (Y o7 (Y o599 (L o1111) Z) (L o7)) (Y o471 (Y o727 (L o1239) Z) (L o983)))) (Y o7 (Y o8 (Y o311v1 (Y o8 (L (o1079 P)) Z) (L o823)) (Y o439 (Y o695 (L o7) Z) (L o951))) (Y o247 (Y o7 (Y o631 (L o1143) Z) (L o887)) (Y o503 (L o8) (L o7))))))) (Y o7 (Y o19 (Y o35 (Y o8 (Y o8 (Y o8 (Y o515 (L o1027) Z) (L o771)) (Y o8 (Y o643 (L o7) Z) (L (o899 P)))) (Y o195 (Y o8 (Y o579 (L o1091) Z) (L o835)) (Y o7 (Y o7 (L o8) Z) (L o919)))) (Y o99 (Y (o163 P) (Y o23 (Y o7 (L o1059) Z) (L o803)) (Y o419 (Y o675 (L o1187) Z) (L (o931 P)))) (Y o7 (Y o355 (Y o7 (L o7) Z) (L (o867 P))) (Y o483 (L o7) (L o7))))) (Y o8 (Y o7 (Y o147 (Y o7 (Y o531 (L o7) Z) (L (o787 P))) (Y o7 (Y o659 (L o1171) Z) (L (o915 P)))) (Y o7 (Y o7 (Y o7 (L o8) Z) (L o851)) (Y o7 (Y o7 (L o7) Z) (L o979)))) (Y o115 (Y o179 (Y o307 (Y o563 (L o1075) Z) (L o7)) (Y o7 (Y o8 (L o1203) Z) (L o919))) (Y o243 (Y o371 (Y o7 (L o1139) Z) (L o883)) (Y o499 (L o755) (L o8)))))) (Y o27 (Y (o43 P) (Y o75 (Y o139 (Y o267 (Y o523 (L o1035) Z) (L o7)) (Y o395 (Y o7 (L o8) Z) (L o907))) (Y (o203 P) (Y o331 (Y o7 (L o7) Z) (L o843)) (Y o7 (Y o7 (L o1227) Z) (L o7)))) (Y o107 (Y o7 (Y o299v1 (Y o7 (L o7) Z) (L o811)) (Y o427 (Y o7 (L o1195) Z) (L o939))) (Y (o235 P) (Y o363 (Y o7 (L o1131) Z) (L o875)) (Y o491 (L o7) (L (o1003 P)))))) (Y o7 (Y o91 (Y (o155 P) (Y (o283 P) (Y o539 (L o1008) Z) (L o8)) (Y o411 (Y o667 (L o7) Z) (L o923))) (Y o219 (Y o347 (Y o7 (L o1115) Z) (L o7)) (Y o8 (Y o7 (L o1243) Z) (L x)))) (Y o7 (Y o187 (Y o23 (Y o571 (L o1083) Z) (L o8)) (Y o7 (Y o699 (L o7) Z) (L o7))) (Y o7 (Y o7 (Y o8 (L o1147) Z) (L o891)) (Y o7 (L o763) (L o1019)))))))) (Y o5 (Y o9 (Y o17 (Y o33 (Y o65 (Y o129 (Y (o257 P) (Y o513 (L o1025) Z) (L o769)) (Y o385 (Y o7 (L o1153) Z) (L o897))) (Y o8 (Y o321 (Y o577 (L o1089) Z) (L o833)) (Y o449 (Y o8 (L o1217) Z) (L (o961 P))))) (Y o97 (Y o7 (Y o289 (Y o23 (L o7) Z) (L o801)) (Y o7 (Y o673 (L o1185) Z) (L (o929 P)))) (Y o225 (Y o353 (Y o609 (L o8) Z) (L o865)) (Y o7 (L o8) (L o993))))) (Y (o49 P) (Y o8 (Y o7 (Y o273 (Y o529 (L o1041) Z) (L o785)) (Y o8 (Y o657 (L o7) Z) (L o913))) (Y o8 (Y o8 (Y o593 (L o1105) Z) (L o849)) (Y o465 (Y o8 (L o8) Z) (L o919)))) (Y o113 (Y o177 (Y o7 (Y o561 (L o1073) Z) (L o817)) (Y o433 (Y o689 (L o1201) Z) (L (o945 P)))) (Y o7 (Y o369 (Y o625 (L o7) Z) (L o7)) (Y o7 (L o753) (L (o1009 P))))))) (Y o7 (Y o41 (Y o7 (Y o137 (Y o265 (Y o7 (L o1033) Z) (L o777)) (Y o7 (Y o8 (L o1161) Z) (L (o905 P)))) (Y o7 (Y o7 (Y o585 (L o1097) Z) (L o7)) (Y o457 (Y o8 (L o7) Z) (L o969)))) (Y o105 (Y o8 (Y o297 (Y o8 (L o8) Z) (L o809)) (Y o425 (Y o681 (L o7) Z) (L o937))) (Y o233 (Y o7 (Y o617 (L o1129) Z) (L (o873 P))) (Y o7 (L o8) (L o1001))))) (Y o57 (Y o89 (Y o153 (Y o281 (Y o537 (L o1049) Z) (L (o793 P))) (Y o409 (Y o7 (L o8) Z) (L o921))) (Y o217 (Y o345 (Y o601 (L o7) Z) (L o857)) (Y o473 (Y o8 (L o1241) Z) (L o7)))) (Y o121 (Y o7 (Y o313 (Y o7 (L o1081) Z) (L o825)) (Y o441 (Y o7 (L o1209) Z) (L o953))) (Y o8 (Y o377 (Y o633 (L o1145) Z) (L o889)) (Y o8 (L o7) (L (o1017 P)))))))) (Y o13 (Y o21 (Y (o37 P) (Y o7 (Y o133 (Y o261 (Y o517 (L o7) Z) (L o8)) (Y o7 (Y o645 (L o1157) Z) (L (o901 P)))) (Y (o197 P) (Y o7 (Y o8 (L o8) Z) (L o837)) (Y o453 (Y o709 (L o7) Z) (L o965)))) (Y o7 (Y o165 (Y o7 (Y o549 (L o1061) Z) (L o805)) (Y o7 (Y o8 (L o1189) Z) (L o919))) (Y o229 (Y o357 (Y o613 (L o1125) Z) (L o869)) (Y o485 (L o741) (L o997))))) (Y o53 (Y o85 (Y o7 (Y o277 (Y o8 (L (o1045 P)) Z) (L o789)) (Y o405 (Y o661 (L o1173) Z) (L (o917 P)))) (Y o213 (Y o341 (Y o597 (L o7) Z) (L o8)) (Y o469 (Y o725 (L o1237) Z) (L o981)))) (Y o8 (Y o181 (Y o309 (Y o565 (L o1077) Z) (L o821)) (Y o437 (Y o7 (L o8) Z) (L o949))) (Y o245 (Y o8 (Y o629 (L o7) Z) (L o7)) (Y o501 (L o757) (L o1013)))))) (Y o29 (Y o45 (Y o77 (Y o141 (Y o23 (Y o7 (L o8) Z) (L o781)) (Y o397 (Y o653 (L o7) Z) (L (o909 P)))) (Y o205 (Y o333 (Y o589 (L o1101) Z) (L o7)) (Y o461 (Y o717 (L o1229) Z) (L (o973 P))))) (Y o7 (Y o173 (Y o301 (Y o557 (L o1069) Z) (L o8)) (Y o8 (Y o685 (L o7) Z) (L o7))) (Y o237 (Y o7 (Y o621 (L o1133) Z) (L o877)) (Y o493 (L o749) (L o1005))))) (Y (o61 P) (Y o93 (Y o157 (Y o285 (Y o541 (L o7) Z) (L o797)) (Y o413 (Y o7 (L o1181) Z) (L o925))) (Y o221 (Y o349 (Y o605 (L o1117) Z) (L o861)) (Y o7 (Y o733 (L o1245) Z) (L o23)))) (Y o125 (Y o189 (Y o7 (Y o7 (L o7) Z) (L o7)) (Y o445 (Y o701 (L o1213) Z) (L o6))) (Y o253 (Y o381 (Y o7 (L o8) Z) (L (o893 P))) (Y o509 (L o7) (L o1021))))))))) (Y (o2v2 P) (Y o4 (Y o8 (Y o8 (Y o32 (Y o64 (Y o128 (Y o23 (Y o8 (L o7) Z) (L o7)) (Y o384 (Y o640 (L o1152) Z) (L o896))) (Y o7 (Y o320 (Y o7 (L o7) Z) (L o832)) (Y o448 (Y o7 (L o1216) Z) (L o960)))) (Y o96 (Y o160 (Y o288 (Y o544 (L o1056) Z) (L o800)) (Y o416 (Y o7 (L o8) Z) (L o928))) (Y o224 (Y o8 (Y o608 (L o7) Z) (L o864)) (Y o480 (L o7) (L o992))))) (Y o23 (Y o7 (Y (o144 P) (Y o272 (Y o7 (L o1040) Z) (L o784)) (Y o7 (Y o8 (L o1168) Z) (L (o912 P)))) (Y o7 (Y o7 (Y o592 (L o1104) Z) (L o7)) (Y o464 (Y o7 (L o7) Z) (L o976)))) (Y o7 (Y (o176 P) (Y (o304 P) (Y o8 (L o8) Z) (L o816)) (Y o432 (Y o688 (L o7) Z) (L o944))) (Y o240 (Y o7 (Y o624 (L o1136) Z) (L o880)) (Y o496 (L o8) (L o1008)))))) (Y (o24 P) (Y o40 (Y o72 (Y (o136 P) (Y o264 (Y o520 (L o7) Z) (L o776)) (Y o392 (Y o7 (L o1160) Z) (L o904))) (Y o200 (Y o328 (Y o584 (L o1096) Z) (L (o840 P))) (Y o456 (Y o7 (L o1224) Z) (L (o968 P))))) (Y o7 (Y o7 (Y o296 (Y o7 (L o7) Z) (L o7)) (Y o7 (Y o680 (L o1192) Z) (L (o936 P)))) (Y o232 (Y o360 (Y o616 (L o8) Z) (L o23)) (Y o488 (L o7) (L o1000))))) (Y o56 (Y o8 (Y o152 (Y o280 (Y o536 (L o1048) Z) (L o23)) (Y o8 (Y o664 (L o7) Z) (L o7))) (Y o8 (Y o8 (Y o600 (L o1112) Z) (L o856)) (Y o472 (Y o7 (L (o1240 P)) Z) (L o919)))) (Y o120 (Y o184 (Y o312 (Y o568 (L o1080) Z) (L o824)) (Y o440 (Y o696 (L o1208) Z) (L (o952 P)))) (Y o7 (Y o376 (Y o632 (L o7) Z) (L o7)) (Y o7 (L o760) (L o1016))))))) (Y o12v8 (Y o20 (Y o23 (Y o68 (Y o132 (Y o260 (Y o516 (L o7) Z) (L o7)) (Y o388 (Y o7 (L o8) Z) (L o900))) (Y o196 (Y o324 (Y o7 (L o7) Z) (L o836)) (Y o8 (Y o708 (L o1220) Z) (L o7)))) (Y o100 (Y o7 (Y (o292 P) (Y o548 (L o7) Z) (L o804)) (Y o420 (Y o7 (L o1188) Z) (L o932))) (Y o8 (Y o356 (Y o8 (L o1124) Z) (L o868)) (Y o7 (L o740) (L o8))))) (Y o52 (Y o84 (Y o148 (Y o8 (Y o7 (L o1016) Z) (L o788)) (Y o404 (Y o660 (L o7) Z) (L o916))) (Y o212 (Y o340 (Y o8 (L o1108) Z) (L o7)) (Y o8 (Y o724 (L o1236) Z) (L (o980 P))))) (Y o7 (Y o180 (Y o308 (Y o564 (L o1076) Z) (L o8)) (Y o8 (Y o692 (L o7) Z) (L o7))) (Y o7 (Y o7 (Y o8 (L o1140) Z) (L o884)) (Y o7 (L o756) (L o1012)))))) (Y o28 (Y o44v1 (Y o7 (Y o140 (Y o7 (Y o524 (L o7) Z) (L o8)) (Y o7 (Y o652 (L o1164) Z) (L o908))) (Y o7 (Y o7 (Y o8 (L o8) Z) (L o844)) (Y o8 (Y o716 (L o7) Z) (L o972)))) (Y o108 (Y o172 (Y o300 (Y o556 (L o1068) Z) (L o7)) (Y o7 (Y o8 (L o1196) Z) (L o919))) (Y o236 (Y o364 (Y o8 (L o1132) Z) (L o876)) (Y o7 (L o748) (L o1004))))) (Y o23 (Y o92 (Y o156 (Y o284 (Y (o540 P) (L (o1052 P)) Z) (L o796)) (Y o412 (Y o668 (L o1180) Z) (L (o924 P)))) (Y o220 (Y o348 (Y o8 (L o7) Z) (L o8)) (Y o476 (Y o732 (L o1244) Z) (L o988)))) (Y o8 (Y o188 (Y (o316 P) (Y o572 (L o1084) Z) (L o828)) (Y o8 (Y o7 (L o8) Z) (L o956))) (Y o252 (Y o8 (Y o636 (L o7) Z) (L o892)) (Y o508 (L o764) (L o1020)))))))) (Y o6 (Y o10 (Y o7 (Y o34 (Y o7 (Y o7 (Y o7 (Y o7 (L o1026) Z) (L o770)) (Y o7 (Y o8 (L o1154) Z) (L o898))) (Y o194 (Y o7 (Y o578 (L o1090) Z) (L (o834 P))) (Y o450 (Y o706 (L o7) Z) (L o962)))) (Y o98 (Y o23 (Y o290 (Y (o546 P) (L o8) Z) (L o802)) (Y o418 (Y o674 (L o7) Z) (L o930))) (Y o226 (Y o7 (Y o610 (L o1122) Z) (L o866)) (Y o8 (L o738) (L o994))))) (Y o7 (Y o82 (Y o146 (Y o274 (Y o530 (L o1042) Z) (L o786)) (Y o402 (Y o7 (L o8) Z) (L (o914 P)))) (Y o210 (Y o338 (Y o594 (L o7) Z) (L o850)) (Y o466 (Y o722 (L o1234) Z) (L o7)))) (Y o114 (Y o178 (Y o8 (Y o7 (L o7) Z) (L o818)) (Y o434 (Y o7 (L o1202) Z) (L o946))) (Y o8 (Y o370 (Y o626 (L o1138) Z) (L o882)) (Y o8 (L o7) (L o7)))))) (Y o8 (Y o42 (Y o8 (Y o138 (Y o266 (Y o522 (L o1034) Z) (L o778)) (Y o8 (Y o650 (L o7) Z) (L o6))) (Y o23 (Y o8 (Y o586 (L o1098) Z) (L o842)) (Y o458 (Y o714 (L o8) Z) (L o919)))) (Y o106 (Y o170 (Y (o298 P) (Y o554 (L o1066) Z) (L o810)) (Y o426 (Y o682 (L o1194) Z) (L (o938 P)))) (Y o234 (Y o362 (Y o618 (L o7) Z) (L o7)) (Y o8 (L o746) (L o7))))) (Y o58 (Y o7 (Y o7 (Y o282 (Y o538 (L o1050) Z) (L o7)) (Y o7 (Y o666 (L o1178) Z) (L (o922 P)))) (Y o7 (Y o7 (Y o602 (L o8) Z) (L o858)) (Y o7 (Y o730 (L o1242) Z) (L o986)))) (Y o122 (Y o186 (Y o314 (Y o570 (L o1082) Z) (L o7)) (Y o442 (Y o8 (L o1210) Z) (L o919))) (Y o250 (Y o378 (Y o7 (L o1146) Z) (L o890)) (Y o506 (L o762) (L o1018))))))) (Y o14 (Y o22 (Y o7 (Y o70 (Y o134 (Y o7 (Y o7 (L o8) Z) (L o774)) (Y o390 (Y o646 (L o7) Z) (L o6))) (Y o198 (Y o326 (Y o582 (L o1094) Z) (L o805)) (Y o7 (Y o710 (L o1222) Z) (L (o966 P))))) (Y o23 (Y o166 (Y o8 (Y o550 (L o1062) Z) (L o23)) (Y o8 (Y o678 (L o7) Z) (L o7))) (Y o7 (Y o7 (Y o7 (L o1126) Z) (L o870)) (Y o486 (L o742) (L o7))))) (Y o54 (Y o86 (Y o8 (Y o7 (Y o534 (L o1046) Z) (L o790)) (Y o406 (Y o7 (L o1174) Z) (L o918))) (Y o214 (Y o342 (Y o7 (L o1110) Z) (L o854)) (Y o7 (Y o726 (L o1238) Z) (L (o982 P))))) (Y o118 (Y o7 (Y (o310 P) (Y o7 (L o1078) Z) (L o7)) (Y o7 (Y o694 (L o1206) Z) (L (o950 P)))) (Y o246 (Y o374 (Y o7 (L o8) Z) (L o8)) (Y o502 (L o7) (L o7)))))) (Y (o30 P) (Y o46 (Y o78 (Y o7 (Y (o270 P) (Y o8 (L o1038) Z) (L o7)) (Y o398 (Y o654 (L o1166) Z) (L o910))) (Y o206 (Y o334 (Y o7 (L o7) Z) (L o8)) (Y o7 (Y o718 (L o1230) Z) (L o974)))) (Y o8 (Y o174 (Y o290 (Y o558 (L o1070) Z) (L o814)) (Y o430 (Y o7 (L o8) Z) (L o942))) (Y o238 (Y o8 (Y o7 (L o7) Z) (L o7)) (Y o494 (L o750) (L o1006))))) (Y o7 (Y o94 (Y o158 (Y o286 (Y o542 (L o1054) Z) (L o7)) (Y o7 (Y o8 (L o1182) Z) (L o919))) (Y o7 (Y o350 (Y o7 (L o1118) Z) (L o7)) (Y o478 (L o734) (L (o990 P))))) (Y o7 (Y o23 (Y o318 (Y o8 (L o23) Z) (L o830)) (Y o7 (Y o702 (L o7) Z) (L o958))) (Y o254 (Y o7 (Y o638 (L o1150) Z) (L o894)) (Y o510 (L o8) (L o1008))))))))))
noncomputable def s56 (w : World) (x : Obj) (os : OsState) : SharedT := ⟨t56 w.params x, 1246, lf, #[], dr, 1823, os⟩
noncomputable def o3v13 (P : Params) : Obj := ⟨.type "dict",none,(.dict #[en P "__name__" 165 (.str "pdfminer.pdfparser" 1931),en P "__doc__" 166 .none,en P "__package__" 167 .none,en P "__loader__" 168 (.builtin "__main__.__loader__#opaque"),en P "__spec__" 169 .none,en P "__annotations__" 170 (.ref 6),en P "__builtins__" 171 (.ref 4),en P "__file__" 173 (.str "/claim/cut.py" 172),en P "__cached__" 174 .none,en P "_wall" 193 (.ref 21),en P "PSException" 215 (.ref 31),en P "PDFException" 233 (.ref 44),en P "PDFEOFError" 251 (.ref 56),en P "Found" 308 (.ref 96),en P "Signs" 363 (.ref 137),en P "HexPairs" 389 (.ref 156),en P "Real" 420 (.ref 177),en P "cast" 428 (.ref 188),en P "CorruptDataError" 446 (.ref 198),en P "LZWDecoder" 504 (.ref 236),en P "_whence" 514 (.ref 247),en P "_index" 522 (.ref 254),en P "UnsupportedOperation" 544 (.ref 264),en P "IOBase" 576 (.ref 284),en P "BufferedIOBase" 594 (.ref 299),en P "TextIOBase" 612 (.ref 311),en P "BytesIO" 874 (.ref 541),en P "StringIO" 1161 (.ref 788),en P "PSObject" 1183 (.ref 800),en P "PSLiteral" 1225 (.ref 835),en P "PSKeyword" 1267 (.ref 868),en P "PSSymbolTable" 1306 (.ref 894),en P "PSLiteralTable" 1313 (.ref 900),en P "PSKeywordTable" 1320 (.ref 904),en P "LIT" 1322 (.ref 907),en P "KWD" 1324 (.ref 908),en P "KEYWORD_DICT_BEGIN" 1330 (.ref 910),en P "KEYWORD_DICT_END" 1336 (.ref 913),en P "EOL" 1345 (.ref 916),en P "SPC" 1354 (.ref 923),en P "NONSPC" 1363 (.ref 930),en P "HEX" 1372 (.ref 937),en P "END_LITERAL" 1381 (.ref 944),en P "END_HEX_STRING" 1390 (.ref 951),en P "HEX_PAIR" 1391 (.ref 958),en P "END_NUMBER" 1400 (.ref 960),en P "END_KEYWORD" 1409 (.ref 967),en P "END_STRING" 1418 (.ref 974),en P "OCT_STRING" 1427 (.ref 981),en P "ESC_STRING" 1452 (.ref 987),en P "ABCMeta" 1478 (.ref 1004),en P "ABC" 1495 (.ref 1018),en P "AbstractContextManager" 1531 (.ref 1046),en P "suppress" 1584 (.ref 1080),en P "PSBaseParser" 1822 (.ref 1241),en P "PSStackParser" 1930 (.ref 1332)] 56),#[]⟩
noncomputable def o12v9 : Obj := fl #[.int 1 0,.int 0 0,.ref 20,.int 5 0,.int 0 0,.ref 27,.int 8 0,.int 0 0,.ref 40,.int 10 0,.int 0 0,.ref 52,.int 13 0,.int 0 0,.ref 64,.int 26 0,.int 0 0,.ref 106,.int 41 0,.int 0 0,.ref 147,.int 45 0,.int 0 0,.ref 166,.int 50 0,.int 0 0,.ref 187,.int 53 0,.int 0 0,.ref 194,.int 55 0,.int 0 0,.ref 206,.int 117 0,.int 0 0,.ref 246,.int 122 0,.int 0 0,.ref 253,.int 129 0,.int 0 0,.ref 260,.int 131 0,.int 0 0,.ref 273,.int 138 0,.int 0 0,.ref 295,.int 140 0,.int 0 0,.ref 307,.int 142 0,.int 0 0,.ref 319,.int 312 0,.int 0 0,.ref 549,.int 518 0,.int 0 0,.ref 796,.int 520 0,.int 0 0,.ref 810,.int 531 0,.int 0 0,.ref 843,.int 542 0,.int 0 0,.ref 876,.int 574 0,.int 0 0,.ref 993,.int 578 0,.int 0 0,.ref 1012,.int 581 0,.int 0 0,.ref 1026,.int 590 0,.int 0 0,.ref 1055,.int 610 0,.int 0 0,.ref 1090,.int 855 0,.int 0 0,.ref 1251]
noncomputable def o1241v1 : Obj := ⟨.type "type",none,.cls ⟨"PSBaseParser",[.type "object"],[.ref 1241,.type "object"],1240,"PSBaseParser",true,[],[.ref 1332],false,none,false⟩,#[none,none,(some (.str "PSBaseParser" 1587)),(some (.str "PSBaseParser" 1595)),(some (.builtin "object.__new__")),(some (.bool true))]⟩
noncomputable def o1246 : Obj := sq #[.ref 1241]
noncomputable def o1248 (P : Params) : Obj := ⟨.type "dict",none,(.dict #[en P "__module__" 1830 (.str "pdfminer.psparser" 1585),en P "__qualname__" 1832 (.str "PSStackParser" 1831),en P "__firstlineno__" 1834 (.int 855 1833),en P "__init__" 1842 (.ref 1259),en P "reset" 1849 (.ref 1266),en P "seek" 1857 (.ref 1273),en P "push" 1865 (.ref 1280),en P "pop" 1873 (.ref 1287),en P "popall" 1881 (.ref 1294),en P "add_results" 1889 (.ref 1301),en P "start_type" 1898 (.ref 1308),en P "end_type" 1906 (.ref 1315),en P "do_keyword" 1915 (.ref 1322),en P "nextobject" 1922 (.ref 1329),en P "__static_attributes__" 1927 (.ref 1330)] 15),#[]⟩
noncomputable def o1250 : Obj := fl #[.int 857 0,.int 4 0,.ref 1258,.int 861 0,.int 4 0,.ref 1265,.int 867 0,.int 4 0,.ref 1272,.int 871 0,.int 4 0,.ref 1279,.int 874 0,.int 4 0,.ref 1286,.int 877 0,.int 4 0,.ref 1293,.int 882 0,.int 4 0,.ref 1300,.int 885 0,.int 4 0,.ref 1307,.int 888 0,.int 4 0,.ref 1314,.int 891 0,.int 4 0,.ref 1321,.int 894 0,.int 4 0,.ref 1328]
noncomputable def o1251 : Obj := cd #[.str "PSStackParser" 1825,.str "PSStackParser" 1826,.str "/claim/cut.py" 1827,.int 855 0,.int 0 0,.int 0 0,.int 0 0,.int 0 0,.ref 1249,.bool false,.int 181 0,.ref 1250,.none,.none,.none,.none,.int 1828 0,.int 855 0,.str "/claim/cut.py" 1829]
noncomputable def o1252 : Obj := ⟨.type "frame",none,.plain,#[(some (.ref 1251)),(some (.ref 3)),(some (.ref 1248)),none,(some (.str "pdfminer.psparser" 1585)),none,(some (.ref 0))]⟩
noncomputable def o1255 : Obj := sq #[.str "self" 1838,.str "fp" 1839]
noncomputable def o1257 : Obj := fz [56,0] "PSStackParser.__init__"
noncomputable def o1258 : Obj := ⟨.type "code",none,.fields #[.str "__init__" 1835,.str "PSStackParser.__init__" 1836,.str "/claim/cut.py" 1837,.int 857 0,.int 2 0,.int 0 0,.int 0 0,.int 3 0,.ref 1253,.bool true,.int 181 0,.ref 1254,.none,.ref 1255,.ref 1256,.ref 1257,.int 1840 0,.int 857 0,.str "/claim/cut.py" 1841],#[]⟩
noncomputable def o1259 : Obj := ⟨.type "function",none,(fd (sAt [56,0]) "PSStackParser.__init__" 3 [] .none .none .none (.str "pdfminer.psparser" 1585) none (.ref 1258) .none 0),#[]⟩
noncomputable def o1262 : Obj := sq #[.str "self" 1846]
noncomputable def o1264 : Obj := fz [56,1] "PSStackParser.reset"
noncomputable def o1265 : Obj := ⟨.type "code",none,.fields #[.str "reset" 1843,.str "PSStackParser.reset" 1844,.str "/claim/cut.py" 1845,.int 861 0,.int 1 0,.int 0 0,.int 0 0,.int 3 0,.ref 1260,.bool true,.int 181 0,.ref 1261,.none,.ref 1262,.ref 1263,.ref 1264,.int 1847 0,.int 861 0,.str "/claim/cut.py" 1848],#[]⟩
noncomputable def o1266 : Obj := ⟨.type "function",none,(fd (sAt [56,1]) "PSStackParser.reset" 3 [] .none .none .none (.str "pdfminer.psparser" 1585) none (.ref 1265) .none 0),#[]⟩
noncomputable def o1269 : Obj := sq #[.str "self" 1853,.str "pos" 1854]
noncomputable def o1271 : Obj := fz [56,2] "PSStackParser.seek"
noncomputable def o1272 : Obj := ⟨.type "code",none,.fields #[.str "seek" 1850,.str "PSStackParser.seek" 1851,.str "/claim/cut.py" 1852,.int 867 0,.int 2 0,.int 0 0,.int 0 0,.int 3 0,.ref 1267,.bool true,.int 181 0,.ref 1268,.none,.ref 1269,.ref 1270,.ref 1271,.int 1855 0,.int 867 0,.str "/claim/cut.py" 1856],#[]⟩
noncomputable def o1273 : Obj := ⟨.type "function",none,(fd (sAt [56,2]) "PSStackParser.seek" 3 [] .none .none .none (.str "pdfminer.psparser" 1585) none (.ref 1272) .none 0),#[]⟩
noncomputable def o1276 : Obj := sq #[.str "self" 1861,.str "objs" 1862]
noncomputable def o1278 : Obj := fz [56,3] "PSStackParser.push"
noncomputable def o1279 : Obj := ⟨.type "code",none,.fields #[.str "push" 1858,.str "PSStackParser.push" 1859,.str "/claim/cut.py" 1860,.int 871 0,.int 1 0,.int 0 0,.int 0 0,.int 7 0,.ref 1274,.bool true,.int 181 0,.ref 1275,.none,.ref 1276,.ref 1277,.ref 1278,.int 1863 0,.int 871 0,.str "/claim/cut.py" 1864],#[]⟩
noncomputable def o1280 : Obj := ⟨.type "function",none,(fd (sAt [56,3]) "PSStackParser.push" 3 [] .none .none .none (.str "pdfminer.psparser" 1585) none (.ref 1279) .none 0),#[]⟩
noncomputable def o1283 : Obj := sq #[.str "self" 1869,.str "n" 1870]
noncomputable def o1285 : Obj := fz [56,4] "PSStackParser.pop"
noncomputable def o1286 : Obj := ⟨.type "code",none,.fields #[.str "pop" 1866,.str "PSStackParser.pop" 1867,.str "/claim/cut.py" 1868,.int 874 0,.int 2 0,.int 0 0,.int 0 0,.int 3 0,.ref 1281,.bool true,.int 181 0,.ref 1282,.none,.ref 1283,.ref 1284,.ref 1285,.int 1871 0,.int 874 0,.str "/claim/cut.py" 1872],#[]⟩
noncomputable def o1287 : Obj := ⟨.type "function",none,(fd (sAt [56,4]) "PSStackParser.pop" 3 [] .none .none .none (.str "pdfminer.psparser" 1585) none (.ref 1286) .none 0),#[]⟩
noncomputable def o1290 : Obj := sq #[.str "self" 1877,.str "objs" 1878]
noncomputable def o1292 : Obj := fz [56,5] "PSStackParser.popall"
noncomputable def o1293 : Obj := ⟨.type "code",none,.fields #[.str "popall" 1874,.str "PSStackParser.popall" 1875,.str "/claim/cut.py" 1876,.int 877 0,.int 1 0,.int 0 0,.int 0 0,.int 3 0,.ref 1288,.bool true,.int 181 0,.ref 1289,.none,.ref 1290,.ref 1291,.ref 1292,.int 1879 0,.int 877 0,.str "/claim/cut.py" 1880],#[]⟩
noncomputable def o1294 : Obj := ⟨.type "function",none,(fd (sAt [56,5]) "PSStackParser.popall" 3 [] .none .none .none (.str "pdfminer.psparser" 1585) none (.ref 1293) .none 0),#[]⟩
noncomputable def o1297 : Obj := sq #[.str "self" 1885,.str "objs" 1886]
noncomputable def o1299 : Obj := fz [56,6] "PSStackParser.add_results"
noncomputable def o1300 : Obj := ⟨.type "code",none,.fields #[.str "add_results" 1882,.str "PSStackParser.add_results" 1883,.str "/claim/cut.py" 1884,.int 882 0,.int 1 0,.int 0 0,.int 0 0,.int 7 0,.ref 1295,.bool true,.int 181 0,.ref 1296,.none,.ref 1297,.ref 1298,.ref 1299,.int 1887 0,.int 882 0,.str "/claim/cut.py" 1888],#[]⟩
noncomputable def o1301 : Obj := ⟨.type "function",none,(fd (sAt [56,6]) "PSStackParser.add_results" 3 [] .none .none .none (.str "pdfminer.psparser" 1585) none (.ref 1300) .none 0),#[]⟩
noncomputable def o1304 : Obj := sq #[.str "self" 1893,.str "pos" 1894,.str "kind" 1895]
noncomputable def o1306 : Obj := fz [56,7] "PSStackParser.start_type"
noncomputable def o1307 : Obj := ⟨.type "code",none,.fields #[.str "start_type" 1890,.str "PSStackParser.start_type" 1891,.str "/claim/cut.py" 1892,.int 885 0,.int 3 0,.int 0 0,.int 0 0,.int 3 0,.ref 1302,.bool true,.int 181 0,.ref 1303,.none,.ref 1304,.ref 1305,.ref 1306,.int 1896 0,.int 885 0,.str "/claim/cut.py" 1897],#[]⟩
noncomputable def o1308 : Obj := ⟨.type "function",none,(fd (sAt [56,7]) "PSStackParser.start_type" 3 [] .none .none .none (.str "pdfminer.psparser" 1585) none (.ref 1307) .none 0),#[]⟩
noncomputable def o1311 : Obj := sq #[.str "self" 1902,.str "kind" 1903]
noncomputable def o1313 : Obj := fz [56,8] "PSStackParser.end_type"
noncomputable def o1314 : Obj := ⟨.type "code",none,.fields #[.str "end_type" 1899,.str "PSStackParser.end_type" 1900,.str "/claim/cut.py" 1901,.int 888 0,.int 2 0,.int 0 0,.int 0 0,.int 3 0,.ref 1309,.bool true,.int 181 0,.ref 1310,.none,.ref 1311,.ref 1312,.ref 1313,.int 1904 0,.int 888 0,.str "/claim/cut.py" 1905],#[]⟩
noncomputable def o1315 : Obj := ⟨.type "function",none,(fd (sAt [56,8]) "PSStackParser.end_type" 3 [] .none .none .none (.str "pdfminer.psparser" 1585) none (.ref 1314) .none 0),#[]⟩
noncomputable def o1318 : Obj := sq #[.str "self" 1910,.str "pos" 1911,.str "token" 1912]
noncomputable def o1320 : Obj := fz [56,9] "PSStackParser.do_keyword"
noncomputable def o1321 : Obj := ⟨.type "code",none,.fields #[.str "do_keyword" 1907,.str "PSStackParser.do_keyword" 1908,.str "/claim/cut.py" 1909,.int 891 0,.int 3 0,.int 0 0,.int 0 0,.int 3 0,.ref 1316,.bool true,.int 181 0,.ref 1317,.none,.ref 1318,.ref 1319,.ref 1320,.int 1913 0,.int 891 0,.str "/claim/cut.py" 1914],#[]⟩
noncomputable def o1322 : Obj := ⟨.type "function",none,(fd (sAt [56,9]) "PSStackParser.do_keyword" 3 [] .none .none .none (.str "pdfminer.psparser" 1585) none (.ref 1321) .none 0),#[]⟩
noncomputable def o1325 : Obj := sq #[.str "self" 1919]
noncomputable def o1327 : Obj := fz [56,10] "PSStackParser.nextobject"
noncomputable def o1328 : Obj := ⟨.type "code",none,.fields #[.str "nextobject" 1916,.str "PSStackParser.nextobject" 1917,.str "/claim/cut.py" 1918,.int 894 0,.int 1 0,.int 0 0,.int 0 0,.int 3 0,.ref 1323,.bool true,.int 181 0,.ref 1324,.none,.ref 1325,.ref 1326,.ref 1327,.int 1920 0,.int 894 0,.str "/claim/cut.py" 1921],#[]⟩
noncomputable def o1329 : Obj := ⟨.type "function",none,(fd (sAt [56,10]) "PSStackParser.nextobject" 3 [] .none .none .none (.str "pdfminer.psparser" 1585) none (.ref 1328) .none 0),#[]⟩
noncomputable def o1330 : Obj := ⟨.type "tuple",none,.seq #[.str "context" 1923,.str "curstack" 1924,.str "curtype" 1925,.str "results" 1926] 0,#[]⟩
noncomputable def o1331 (P : Params) : Obj := ⟨.type "dict",none,(.dict #[en P "__module__" 1830 (.str "pdfminer.psparser" 1585),en P "__firstlineno__" 1834 (.int 855 1833),en P "__init__" 1842 (.ref 1259),en P "reset" 1849 (.ref 1266),en P "seek" 1857 (.ref 1273),en P "push" 1865 (.ref 1280),en P "pop" 1873 (.ref 1287),en P "popall" 1881 (.ref 1294),en P "add_results" 1889 (.ref 1301),en P "start_type" 1898 (.ref 1308),en P "end_type" 1906 (.ref 1315),en P "do_keyword" 1915 (.ref 1322),en P "nextobject" 1922 (.ref 1329),en P "__static_attributes__" 1927 (.ref 1330),en P "__doc__" 1928 .none] 2),#[]⟩
noncomputable def o1332 : Obj := ⟨.type "type",none,.cls ⟨"PSStackParser",[.ref 1241],[.ref 1332,.ref 1241,.type "object"],1331,"PSStackParser",true,[],[],false,none,false⟩,#[(some (.ref 1246)),none,(some (.str "PSStackParser" 1823)),(some (.str "PSStackParser" 1831)),(some (.builtin "object.__new__")),(some (.bool true))]⟩
noncomputable def o1333 : Obj := ⟨.type "super",none,.fields #[.ref 1332,.ref 1332,.ref 1332],#[]⟩
noncomputable def o1334 : Obj := ⟨.type "builtin_function_or_method",none,.fields #[.builtin "object.__init_subclass__",.ref 1332],#[]⟩
noncomputable def t58 (P : Params) (x : Obj) : BT := (Y (o0 P) (Y (o1 P) (Y (o3v13 P) (Y o7 (Y o7 (Y o31 (Y o63 (Y o127 (Y o255 (Y o7 (L (o1023 P)) Z) (Y o767 (L o1279) Z)) (Y o383 (Y o639 (L o7) Z) (L o895))) (Y (o191 P) (Y o319 (Y o575 (L (o1087 P)) Z) (L o831)) (Y o447 (Y o703 (L o1215) Z) (L (o959 P))))) (Y (o95 P) (Y o159 (Y o287 (Y o543 (L o1055) Z) (Y (o799 P) (L o1311) Z)) (Y o8 (Y o671 (L o7) Z) (L o7))) (Y o8 (Y o7 (Y o607 (L o1119) Z) (L o863)) (Y o479 (Y o735 (L o23) Z) (L o7))))) (Y o47 (Y o79 (Y o23 (Y o7 (Y o527 (L o7) Z) (Y o783 (L o7) Z)) (Y o399 (Y o7 (L o1167) Z) (L (o911 P)))) (Y o207 (Y o335 (Y o591 (L o1103) Z) (L o847)) (Y o463 (Y o719 (L o1231) Z) (L (o975 P))))) (Y o111 (Y o175 (Y o23 (Y o7 (L o7) Z) (Y o7 (L o1327) Z)) (Y o7 (Y o687 (L o1199) Z) (L (o943 P)))) (Y o239 (Y o367 (Y o623 (L o8) Z) (L o8)) (Y o495 (Y o7 (L o7) Z) (L o7)))))) (Y o23 (Y o8 (Y o71 (Y o135 (Y (o263 P) (Y o8 (L o1031) Z) (Y o7 (L o1287) Z)) (Y o391 (Y o647 (L o1159) Z) (L (o903 P)))) (Y o199 (Y o327 (Y o7 (L o7) Z) (L o23)) (Y o455 (Y o711 (L o1223) Z) (L o967)))) (Y (o103 P) (Y o167 (Y o295 (Y o551 (L o1063) Z) (Y (o807 P) (L o7) Z)) (Y o423 (Y o7 (L o8) Z) (L o935))) (Y o231 (Y o8 (Y o615 (L o7) Z) (L o7)) (Y o487 (Y o743 (L o1255) Z) (L o999))))) (Y (o55 P) (Y o7 (Y o151 (Y o279 (Y o7 (L o1047) Z) (Y o7 (L o8) Z)) (Y o7 (Y o8 (L o1175) Z) (L o919))) (Y o7 (Y o7 (Y o599 (L o1111) Z) (L o7)) (Y o471 (Y o727 (L o1239) Z) (L o983)))) (Y o7 (Y o8 (Y o311v1 (Y o8 (L (o1079 P)) Z) (L o823)) (Y o439 (Y o695 (L o7) Z) (L o951))) (Y o247 (Y o7 (Y o631 (L o1143) Z) (L o887)) (Y o503 (Y o8 (L o1271) Z) (L o7))))))) (Y o7 (Y o19 (Y o35 (Y o8 (Y o8 (Y o8 (Y o515 (L o1027) Z) (Y o771 (L o1283) Z)) (Y o8 (Y o643 (L o7) Z) (L (o899 P)))) (Y o195 (Y o8 (Y o579 (L o1091) Z) (L o835)) (Y o7 (Y o7 (L o8) Z) (L o919)))) (Y o99 (Y (o163 P) (Y o23 (Y o7 (L o1059) Z) (Y o803 (L o1315) Z)) (Y o419 (Y o675 (L o1187) Z) (L (o931 P)))) (Y o7 (Y o355 (Y o7 (L o7) Z) (L (o867 P))) (Y o483 (Y o7 (L o1251) Z) (L o7))))) (Y o8 (Y o7 (Y o147 (Y o7 (Y o531 (L o7) Z) (Y (o787 P) (L o1299) Z)) (Y o7 (Y o659 (L o1171) Z) (L (o915 P)))) (Y o7 (Y o7 (Y o7 (L o8) Z) (L o851)) (Y o7 (Y o7 (L o7) Z) (L o979)))) (Y o115 (Y o179 (Y o307 (Y o563 (L o1075) Z) (Y o7 (L (o1331 P)) Z)) (Y o7 (Y o8 (L o1203) Z) (L o919))) (Y o243 (Y o371 (Y o7 (L o1139) Z) (L o883)) (Y o499 (Y o755 (L o7) Z) (L o8)))))) (Y o27 (Y (o43 P) (Y o75 (Y o139 (Y o267 (Y o523 (L o1035) Z) (Y o7 (L o7) Z)) (Y o395 (Y o7 (L o8) Z) (L o907))) (Y (o203 P) (Y o331 (Y o7 (L o7) Z) (L o843)) (Y o7 (Y o7 (L o1227) Z) (L o7)))) (Y o107 (Y o7 (Y o299v1 (Y o7 (L o7) Z) (Y o811 (L o7) Z)) (Y o427 (Y o7 (L o1195) Z) (L o939))) (Y (o235 P) (Y o363 (Y o7 (L o1131) Z) (L o875)) (Y o491 (Y o7 (L o1259) Z) (L (o1003 P)))))) (Y o7 (Y o91 (Y (o155 P) (Y (o283 P) (Y o539 (L o1008) Z) (Y o8 (L o1307) Z)) (Y o411 (Y o667 (L o7) Z) (L o923))) (Y o219 (Y o347 (Y o7 (L o1115) Z) (L o7)) (Y o8 (Y o7 (L o1243) Z) (L x)))) (Y o7 (Y o187 (Y o23 (Y o571 (L o1083) Z) (L o8)) (Y o7 (Y o699 (L o7) Z) (L o7))) (Y o7 (Y o7 (Y o8 (L o1147) Z) (L o891)) (Y o7 (Y o763 (L o8) Z) (L o1019)))))))) (Y o5 (Y o9 (Y o17 (Y o33 (Y o65 (Y o129 (Y (o257 P) (Y o513 (L o1025) Z) (Y o769 (L o7) Z)) (Y o385 (Y o7 (L o1153) Z) (L o897))) (Y o8 (Y o321 (Y o577 (L o1089) Z) (L o833)) (Y o449 (Y o8 (L o1217) Z) (L (o961 P))))) (Y o97 (Y o7 (Y o289 (Y o23 (L o7) Z) (Y o801 (L o1313) Z)) (Y o7 (Y o673 (L o1185) Z) (L (o929 P)))) (Y o225 (Y o353 (Y o609 (L o8) Z) (L o865)) (Y o7 (Y o8 (L o7) Z) (L o993))))) (Y (o49 P) (Y o8 (Y o7 (Y o273 (Y o529 (L o1041) Z) (Y o785 (L o1297) Z)) (Y o8 (Y o657 (L o7) Z) (L o913))) (Y o8 (Y o8 (Y o593 (L o1105) Z) (L o849)) (Y o465 (Y o8 (L o8) Z) (L o919)))) (Y o113 (Y o177 (Y o7 (Y o561 (L o1073) Z) (Y o817 (L o1329) Z)) (Y o433 (Y o689 (L o1201) Z) (L (o945 P)))) (Y o7 (Y o369 (Y o625 (L o7) Z) (L o7)) (Y o7 (Y o753 (L o1265) Z) (L (o1009 P))))))) (Y o7 (Y o41 (Y o7 (Y o137 (Y o265 (Y o7 (L o1033) Z) (Y o777 (L o8) Z)) (Y o7 (Y o8 (L o1161) Z) (L (o905 P)))) (Y o7 (Y o7 (Y o585 (L o1097) Z) (L o7)) (Y o457 (Y o8 (L o7) Z) (L o969)))) (Y o105 (Y o8 (Y o297 (Y o8 (L o8) Z) (Y o809 (L o1321) Z)) (Y o425 (Y o681 (L o7) Z) (L o937))) (Y o233 (Y o7 (Y o617 (L o1129) Z) (L (o873 P))) (Y o7 (Y o8 (L o1257) Z) (L o1001))))) (Y o57 (Y o89 (Y o153 (Y o281 (Y o537 (L o1049) Z) (Y (o793 P) (L o7) Z)) (Y o409 (Y o7 (L o8) Z) (L o921))) (Y o217 (Y o345 (Y o601 (L o7) Z) (L o857)) (Y o473 (Y o8 (L o1241v1) Z) (L o7)))) (Y o121 (Y o7 (Y o313 (Y o7 (L o1081) Z) (L o825)) (Y o441 (Y o7 (L o1209) Z) (L o953))) (Y o8 (Y o377 (Y o633 (L o1145) Z) (L o889)) (Y o8 (Y o7 (L o1273) Z) (L (o1017 P)))))))) (Y o13 (Y o21 (Y (o37 P) (Y o7 (Y o133 (Y o261 (Y o517 (L o7) Z) (Y o8 (L o1285) Z)) (Y o7 (Y o645 (L o1157) Z) (L (o901 P)))) (Y (o197 P) (Y o7 (Y o8 (L o8) Z) (L o837)) (Y o453 (Y o709 (L o7) Z) (L o965)))) (Y o7 (Y o165 (Y o7 (Y o549 (L o1061) Z) (Y o805 (L o8) Z)) (Y o7 (Y o8 (L o1189) Z) (L o919))) (Y o229 (Y o357 (Y o613 (L o1125) Z) (L o869)) (Y o485 (Y o741 (L o7) Z) (L o997))))) (Y o53 (Y o85 (Y o7 (Y o277 (Y o8 (L (o1045 P)) Z) (Y o789 (L o1301) Z)) (Y o405 (Y o661 (L o1173) Z) (L (o917 P)))) (Y o213 (Y o341 (Y o597 (L o7) Z) (L o8)) (Y o469 (Y o725 (L o1237) Z) (L o981)))) (Y o8 (Y o181 (Y o309 (Y o565 (L o1077) Z) (Y o821 (L o1333) Z)) (Y o437 (Y o7 (L o8) Z) (L o949))) (Y o245 (Y o8 (Y o629 (L o7) Z) (L o7)) (Y o501 (Y o757 (L o1269) Z) (L o1013)))))) (Y o29 (Y o45 (Y o77 (Y o141 (Y o23 (Y o7 (L o8) Z) (Y o781 (L o1293) Z)) (Y o397 (Y o653 (L o7) Z) (L (o909 P)))) (Y o205 (Y o333 (Y o589 (L o1101) Z) (L o7)) (Y o461 (Y o717 (L o1229) Z) (L (o973 P))))) (Y o7 (Y o173 (Y o301 (Y o557 (L o1069) Z) (Y o8 (L o1325) Z)) (Y o8 (Y o685 (L o7) Z) (L o7))) (Y o237 (Y o7 (Y o621 (L o1133) Z) (L o877)) (Y o493 (Y o749 (L o8) Z) (L o1005))))) (Y (o61 P) (Y o93 (Y o157 (Y o285 (Y o541 (L o7) Z) (Y o797 (L o7) Z)) (Y o413 (Y o7 (L o1181) Z) (L o925))) (Y o221 (Y o349 (Y o605 (L o1117) Z) (L o861)) (Y o7 (Y o733 (L o1245) Z) (L o23)))) (Y o125 (Y o189 (Y o7 (Y o7 (L o7) Z) (L o7)) (Y o445 (Y o701 (L o1213) Z) (L o6))) (Y o253 (Y o381 (Y o7 (L o8) Z) (L (o893 P))) (Y o509 (Y o7 (L o7) Z) (L o1021))))))))) (Y (o2v2 P) (Y o4 (Y o8 (Y o8 (Y o32 (Y o64 (Y o128 (Y o23 (Y o8 (L o7) Z) (Y o7 (L o1280) Z)) (Y o384 (Y o640 (L o1152) Z) (L o896))) (Y o7 (Y o320 (Y o7 (L o7) Z) (L o832)) (Y o448 (Y o7 (L o1216) Z) (L o960)))) (Y o96 (Y o160 (Y o288 (Y o544 (L o1056) Z) (Y o800 (L o7) Z)) (Y o416 (Y o7 (L o8) Z) (L o928))) (Y o224 (Y o8 (Y o608 (L o7) Z) (L o864)) (Y o480 (Y o7 (L (o1248 P)) Z) (L o992))))) (Y o23 (Y o7 (Y (o144 P) (Y o272 (Y o7 (L o1040) Z) (Y o784 (L o8) Z)) (Y o7 (Y o8 (L o1168) Z) (L (o912 P)))) (Y o7 (Y o7 (Y o592 (L o1104) Z) (L o7)) (Y o464 (Y o7 (L o7) Z) (L o976)))) (Y o7 (Y (o176 P) (Y (o304 P) (Y o8 (L o8) Z) (Y o816 (L o1328) Z)) (Y o432 (Y o688 (L o7) Z) (L o944))) (Y o240 (Y o7 (Y o624 (L o1136) Z) (L o880)) (Y o496 (Y o8 (L o1264) Z) (L o1008)))))) (Y (o24 P) (Y o40 (Y o72 (Y (o136 P) (Y o264 (Y o520 (L o7) Z) (Y o776 (L o7) Z)) (Y o392 (Y o7 (L o1160) Z) (L o904))) (Y o200 (Y o328 (Y o584 (L o1096) Z) (L (o840 P))) (Y o456 (Y o7 (L o1224) Z) (L (o968 P))))) (Y o7 (Y o7 (Y o296 (Y o7 (L o7) Z) (Y o7 (L o1320) Z)) (Y o7 (Y o680 (L o1192) Z) (L (o936 P)))) (Y o232 (Y o360 (Y o616 (L o8) Z) (L o23)) (Y o488 (Y o7 (L o7) Z) (L o1000))))) (Y o56 (Y o8 (Y o152 (Y o280 (Y o536 (L o1048) Z) (Y o23 (L o1304) Z)) (Y o8 (Y o664 (L o7) Z) (L o7))) (Y o8 (Y o8 (Y o600 (L o1112) Z) (L o856)) (Y o472 (Y o7 (L (o1240 P)) Z) (L o919)))) (Y o120 (Y o184 (Y o312 (Y o568 (L o1080) Z) (L o824)) (Y o440 (Y o696 (L o1208) Z) (L (o952 P)))) (Y o7 (Y o376 (Y o632 (L o7) Z) (L o7)) (Y o7 (Y o760 (L o1272) Z) (L o1016))))))) (Y o12v9 (Y o20 (Y o23 (Y o68 (Y o132 (Y o260 (Y o516 (L o7) Z) (Y o7 (L o7) Z)) (Y o388 (Y o7 (L o8) Z) (L o900))) (Y o196 (Y o324 (Y o7 (L o7) Z) (L o836)) (Y o8 (Y o708 (L o1220) Z) (L o7)))) (Y o100 (Y o7 (Y (o292 P) (Y o548 (L o7) Z) (Y o804 (L o7) Z)) (Y o420 (Y o7 (L o1188) Z) (L o932))) (Y o8 (Y o356 (Y o8 (L o1124) Z) (L o868)) (Y o7 (Y o740 (L o1252) Z) (L o8))))) (Y o52 (Y o84 (Y o148 (Y o8 (Y o7 (L o1016) Z) (Y o788 (L o1300) Z)) (Y o404 (Y o660 (L o7) Z) (L o916))) (Y o212 (Y o340 (Y o8 (L o1108) Z) (L o7)) (Y o8 (Y o724 (L o1236) Z) (L (o980 P))))) (Y o7 (Y o180 (Y o308 (Y o564 (L o1076) Z) (Y o8 (L o1332) Z)) (Y o8 (Y o692 (L o7) Z) (L o7))) (Y o7 (Y o7 (Y o8 (L o1140) Z) (L o884)) (Y o7 (Y o756 (L o8) Z) (L o1012)))))) (Y o28 (Y o44v1 (Y o7 (Y o140 (Y o7 (Y o524 (L o7) Z) (Y o8 (L o1292) Z)) (Y o7 (Y o652 (L o1164) Z) (L o908))) (Y o7 (Y o7 (Y o8 (L o8) Z) (L o844)) (Y o8 (Y o716 (L o7) Z) (L o972)))) (Y o108 (Y o172 (Y o300 (Y o556 (L o1068) Z) (Y o7 (L o8) Z)) (Y o7 (Y o8 (L o1196) Z) (L o919))) (Y o236 (Y o364 (Y o8 (L o1132) Z) (L o876)) (Y o7 (Y o748 (L o7) Z) (L o1004))))) (Y o23 (Y o92 (Y o156 (Y o284 (Y (o540 P) (L (o1052 P)) Z) (Y o796 (L o1308) Z)) (Y o412 (Y o668 (L o1180) Z) (L (o924 P)))) (Y o220 (Y o348 (Y o8 (L o7) Z) (L o8)) (Y o476 (Y o732 (L o1244) Z) (L o988)))) (Y o8 (Y o188 (Y (o316 P) (Y o572 (L o1084) Z) (L o828)) (Y o8 (Y o7 (L o8) Z) (L o956))) (Y o252 (Y o8 (Y o636 (L o7) Z) (L o892)) (Y o508 (Y o764 (L o1276) Z) (L o1020)))))))) (Y o6 (Y o10 (Y o7 (Y o34 (Y o7 (Y o7 (Y o7 (Y o7 (L o1026) Z) (Y o770 (L o8) Z)) (Y o7 (Y o8 (L o1154) Z) (L o898))) (Y o194 (Y o7 (Y o578 (L o1090) Z) (L (o834 P))) (Y o450 (Y o706 (L o7) Z) (L o962)))) (Y o98 (Y o23 (Y o290 (Y (o546 P) (L o8) Z) (Y o802 (L o1314) Z)) (Y o418 (Y o674 (L o7) Z) (L o930))) (Y o226 (Y o7 (Y o610 (L o1122) Z) (L o866)) (Y o8 (Y o738 (L o1250) Z) (L o994))))) (Y o7 (Y o82 (Y o146 (Y o274 (Y o530 (L o1042) Z) (Y o786 (L o7) Z)) (Y o402 (Y o7 (L o8) Z) (L (o914 P)))) (Y o210 (Y o338 (Y o594 (L o7) Z) (L o850)) (Y o466 (Y o722 (L o1234) Z) (L o7)))) (Y o114 (Y o178 (Y o8 (Y o7 (L o7) Z) (Y o818 (L o1330) Z)) (Y o434 (Y o7 (L o1202) Z) (L o946))) (Y o8 (Y o370 (Y o626 (L o1138) Z) (L o882)) (Y o8 (Y o7 (L o1266) Z) (L o7)))))) (Y o8 (Y o42 (Y o8 (Y o138 (Y o266 (Y o522 (L o1034) Z) (Y o778 (L o1290) Z)) (Y o8 (Y o650 (L o7) Z) (L o6))) (Y o23 (Y o8 (Y o586 (L o1098) Z) (L o842)) (Y o458 (Y o714 (L o8) Z) (L o919)))) (Y o106 (Y o170 (Y (o298 P) (Y o554 (L o1066) Z) (Y o810 (L o1322) Z)) (Y o426 (Y o682 (L o1194) Z) (L (o938 P)))) (Y o234 (Y o362 (Y o618 (L o7) Z) (L o7)) (Y o8 (Y o746 (L o1258) Z) (L o7))))) (Y o58 (Y o7 (Y o7 (Y o282 (Y o538 (L o1050) Z) (Y o7 (L o1306) Z)) (Y o7 (Y o666 (L o1178) Z) (L (o922 P)))) (Y o7 (Y o7 (Y o602 (L o8) Z) (L o858)) (Y o7 (Y o730 (L o1242) Z) (L o986)))) (Y o122 (Y o186 (Y o314 (Y o570 (L o1082) Z) (L o7)) (Y o442 (Y o8 (L o1210) Z) (L o919))) (Y o250 (Y o378 (Y o7 (L o1146) Z) (L o890)) (Y o506 (Y o762 (L o7) Z) (L o1018))))))) (Y o14 (Y o22 (Y o7 (Y o70 (Y o134 (Y o7 (Y o7 (L o8) Z) (Y o774 (L o1286) Z)) (Y o390 (Y o646 (L o7) Z) (L o6))) (Y o198 (Y o326 (Y o582 (L o1094) Z) (L o805)) (Y o7 (Y o710 (L o1222) Z) (L (o966 P))))) (Y o23 (Y o166 (Y o8 (Y o550 (L o1062) Z) (Y o23 (L o1318) Z)) (Y o8 (Y o678 (L o7) Z) (L o7))) (Y o7 (Y o7 (Y o7 (L o1126) Z) (L o870)) (Y o486 (Y o742 (L o8) Z) (L o7))))) (Y o54 (Y o86 (Y o8 (Y o7 (Y o534 (L o1046) Z) (Y o790 (L o7) Z)) (Y o406 (Y o7 (L o1174) Z) (L o918))) (Y o214 (Y o342 (Y o7 (L o1110) Z) (L o854)) (Y o7 (Y o726 (L o1238) Z) (L (o982 P))))) (Y o118 (Y o7 (Y (o310 P) (Y o7 (L o1078) Z) (Y o7 (L o1334) Z)) (Y o7 (Y o694 (L o1206) Z) (L (o950 P)))) (Y o246 (Y o374 (Y o7 (L o8) Z) (L o8)) (Y o502 (Y o7 (L o7) Z) (L o7)))))) (Y (o30 P) (Y o46 (Y o78 (Y o7 (Y (o270 P) (Y o8 (L o1038) Z) (Y o7 (L o1294) Z)) (Y o398 (Y o654 (L o1166) Z) (L o910))) (Y o206 (Y o334 (Y o7 (L o7) Z) (L o8)) (Y o7 (Y o718 (L o1230) Z) (L o974)))) (Y o8 (Y o174 (Y o290 (Y o558 (L o1070) Z) (Y o814 (L o7) Z)) (Y o430 (Y o7 (L o8) Z) (L o942))) (Y o238 (Y o8 (Y o7 (L o7) Z) (L o7)) (Y o494 (Y o750 (L o1262) Z) (L o1006))))) (Y o7 (Y o94 (Y o158 (Y o286 (Y o542 (L o1054) Z) (Y o7 (L o8) Z)) (Y o7 (Y o8 (L o1182) Z) (L o919))) (Y o7 (Y o350 (Y o7 (L o1118) Z) (L o7)) (Y o478 (Y o734 (L o1246) Z) (L (o990 P))))) (Y o7 (Y o23 (Y o318 (Y o8 (L o23) Z) (L o830)) (Y o7 (Y o702 (L o7) Z) (L o958))) (Y o254 (Y o7 (Y o638 (L o1150) Z) (L o894)) (Y o510 (Y o8 (L o1278) Z) (L o1008))))))))))
noncomputable def s58 (w : World) (x : Obj) (os : OsState) : SharedT := ⟨t58 w.params x, 1335, lf, #[], dr, 1933, os⟩
noncomputable def o3v14 (P : Params) : Obj := ⟨.type "dict",none,(.dict #[en P "__name__" 165 (.str "pdfminer.pdfparser" 1931),en P "__doc__" 166 .none,en P "__package__" 167 .none,en P "__loader__" 168 (.builtin "__main__.__loader__#opaque"),en P "__spec__" 169 .none,en P "__annotations__" 170 (.ref 6),en P "__builtins__" 171 (.ref 4),en P "__file__" 173 (.str "/claim/cut.py" 172),en P "__cached__" 174 .none,en P "_wall" 193 (.ref 21),en P "PSException" 215 (.ref 31),en P "PDFException" 233 (.ref 44),en P "PDFEOFError" 251 (.ref 56),en P "Found" 308 (.ref 96),en P "Signs" 363 (.ref 137),en P "HexPairs" 389 (.ref 156),en P "Real" 420 (.ref 177),en P "cast" 428 (.ref 188),en P "CorruptDataError" 446 (.ref 198),en P "LZWDecoder" 504 (.ref 236),en P "_whence" 514 (.ref 247),en P "_index" 522 (.ref 254),en P "UnsupportedOperation" 544 (.ref 264),en P "IOBase" 576 (.ref 284),en P "BufferedIOBase" 594 (.ref 299),en P "TextIOBase" 612 (.ref 311),en P "BytesIO" 874 (.ref 541),en P "StringIO" 1161 (.ref 788),en P "PSObject" 1183 (.ref 800),en P "PSLiteral" 1225 (.ref 835),en P "PSKeyword" 1267 (.ref 868),en P "PSSymbolTable" 1306 (.ref 894),en P "PSLiteralTable" 1313 (.ref 900),en P "PSKeywordTable" 1320 (.ref 904),en P "LIT" 1322 (.ref 907),en P "KWD" 1324 (.ref 908),en P "KEYWORD_DICT_BEGIN" 1330 (.ref 910),en P "KEYWORD_DICT_END" 1336 (.ref 913),en P "EOL" 1345 (.ref 916),en P "SPC" 1354 (.ref 923),en P "NONSPC" 1363 (.ref 930),en P "HEX" 1372 (.ref 937),en P "END_LITERAL" 1381 (.ref 944),en P "END_HEX_STRING" 1390 (.ref 951),en P "HEX_PAIR" 1391 (.ref 958),en P "END_NUMBER" 1400 (.ref 960),en P "END_KEYWORD" 1409 (.ref 967),en P "END_STRING" 1418 (.ref 974),en P "OCT_STRING" 1427 (.ref 981),en P "ESC_STRING" 1452 (.ref 987),en P "ABCMeta" 1478 (.ref 1004),en P "ABC" 1495 (.ref 1018),en P "AbstractContextManager" 1531 (.ref 1046),en P "suppress" 1584 (.ref 1080),en P "PSBaseParser" 1822 (.ref 1241),en P "PSStackParser" 1930 (.ref 1332),en P "PDFParser" 2011 (.ref 1383)] 57),#[]⟩
noncomputable def o12v10 : Obj := fl #[.int 1 0,.int 0 0,.ref 20,.int 5 0,.int 0 0,.ref 27,.int 8 0,.int 0 0,.ref 40,.int 10 0,.int 0 0,.ref 52,.int 13 0,.int 0 0,.ref 64,.int 26 0,.int 0 0,.ref 106,.int 41 0,.int 0 0,.ref 147,.int 45 0,.int 0 0,.ref 166,.int 50 0,.int 0 0,.ref 187,.int 53 0,.int 0 0,.ref 194,.int 55 0,.int 0 0,.ref 206,.int 117 0,.int 0 0,.ref 246,.int 122 0,.int 0 0,.ref 253,.int 129 0,.int 0 0,.ref 260,.int 131 0,.int 0 0,.ref 273,.int 138 0,.int 0 0,.ref 295,.int 140 0,.int 0 0,.ref 307,.int 142 0,.int 0 0,.ref 319,.int 312 0,.int 0 0,.ref 549,.int 518 0,.int 0 0,.ref 796,.int 520 0,.int 0 0,.ref 810,.int 531 0,.int 0 0,.ref 843,.int 542 0,.int 0 0,.ref 876,.int 574 0,.int 0 0,.ref 993,.int 578 0,.int 0 0,.ref 1012,.int 581 0,.int 0 0,.ref 1026,.int 590 0,.int 0 0,.ref 1055,.int 610 0,.int 0 0,.ref 1090,.int 855 0,.int 0 0,.ref 1251,.int 897 0,.int 0 0,.ref 1340]
noncomputable def o1332v1 : Obj := ⟨.type "type",none,.cls ⟨"PSStackParser",[.ref 1241],[.ref 1332,.ref 1241,.type "object"],1331,"PSStackParser",true,[],[.ref 1383],false,none,false⟩,#[(some (.ref 1246)),none,(some (.str "PSStackParser" 1823)),(some (.str "PSStackParser" 1831)),(some (.builtin "object.__new__")),(some (.bool true))]⟩
noncomputable def o1335 : Obj := sq #[.ref 1332]
noncomputable def o1337 (P : Params) : Obj := ⟨.type "dict",none,(.dict #[en P "__module__" 1940 (.str "pdfminer.pdfparser" 1931),en P "__qualname__" 1942 (.str "PDFParser" 1941),en P "__firstlineno__" 1944 (.int 897 1943),en P "__init__" 1952 (.ref 1348),en P "set_document" 1960 (.ref 1355),en P "KEYWORD_R" 1966 (.ref 1357),en P "KEYWORD_NULL" 1972 (.ref 1360),en P "KEYWORD_ENDOBJ" 1978 (.ref 1363),en P "KEYWORD_STREAM" 1984 (.ref 1366),en P "KEYWORD_XREF" 1990 (.ref 1369),en P "KEYWORD_STARTXREF" 1996 (.ref 1372),en P "do_keyword" 2005 (.ref 1380),en P "__static_attributes__" 2008 (.ref 1381)] 13),#[]⟩
noncomputable def o1339 : Obj := fl #[.int 899 0,.int 4 0,.ref 1347,.int 904 0,.int 4 0,.ref 1354,.int 913 0,.int 4 0,.ref 1379]
noncomputable def o1340 : Obj := cd #[.str "PDFParser" 1935,.str "PDFParser" 1936,.str "/claim/cut.py" 1937,.int 897 0,.int 0 0,.int 0 0,.int 0 0,.int 0 0,.ref 1338,.bool false,.int 181 0,.ref 1339,.none,.none,.none,.none,.int 1938 0,.int 897 0,.str "/claim/cut.py" 1939]
noncomputable def o1341 : Obj := ⟨.type "frame",none,.plain,#[(some (.ref 1340)),(some (.ref 3)),(some (.ref 1337)),none,(some (.str "pdfminer.pdfparser" 1931)),none,(some (.ref 0))]⟩
noncomputable def o1344 : Obj := sq #[.str "self" 1948,.str "fp" 1949]
noncomputable def o1346 : Obj := fz [58,0] "PDFParser.__init__"
noncomputable def o1347 : Obj := ⟨.type "code",none,.fields #[.str "__init__" 1945,.str "PDFParser.__init__" 1946,.str "/claim/cut.py" 1947,.int 899 0,.int 2 0,.int 0 0,.int 0 0,.int 3 0,.ref 1342,.bool true,.int 181 0,.ref 1343,.none,.ref 1344,.ref 1345,.ref 1346,.int 1950 0,.int 899 0,.str "/claim/cut.py" 1951],#[]⟩
noncomputable def o1348 : Obj := ⟨.type "function",none,(fd (sAt [58,0]) "PDFParser.__init__" 3 [] .none .none .none (.str "pdfminer.pdfparser" 1931) none (.ref 1347) .none 0),#[]⟩
noncomputable def o1351 : Obj := sq #[.str "self" 1956,.str "doc" 1957]
noncomputable def o1353 : Obj := fz [58,1] "PDFParser.set_document"
noncomputable def o1354 : Obj := ⟨.type "code",none,.fields #[.str "set_document" 1953,.str "PDFParser.set_document" 1954,.str "/claim/cut.py" 1955,.int 904 0,.int 2 0,.int 0 0,.int 0 0,.int 3 0,.ref 1349,.bool true,.int 181 0,.ref 1350,.none,.ref 1351,.ref 1352,.ref 1353,.int 1958 0,.int 904 0,.str "/claim/cut.py" 1959],#[]⟩
noncomputable def o1355 : Obj := ⟨.type "function",none,(fd (sAt [58,1]) "PDFParser.set_document" 3 [] .none .none .none (.str "pdfminer.pdfparser" 1931) none (.ref 1354) .none 0),#[]⟩
noncomputable def o1356 (P : Params) : Obj := ⟨.type "dict",none,(.dict #[en P "name" 1965 (.bytes #[82] 1961)] 1),#[]⟩
noncomputable def o1357 : Obj := ⟨.ref 868,(some 1356),.plain,#[]⟩
noncomputable def o1358 (P : Params) : Obj := ⟨.type "frame",none,(.dict #[en P "self" 1962 (.ref 1357),en P "name" 1963 (.bytes #[82] 1961)] 2),#[]⟩
noncomputable def o1359 (P : Params) : Obj := ⟨.type "dict",none,(.dict #[en P "name" 1971 (.bytes #[110,117,108,108] 1967)] 1),#[]⟩
noncomputable def o1360 : Obj := ⟨.ref 868,(some 1359),.plain,#[]⟩
noncomputable def o1361 (P : Params) : Obj := ⟨.type "frame",none,(.dict #[en P "self" 1968 (.ref 1360),en P "name" 1969 (.bytes #[110,117,108,108] 1967)] 2),#[]⟩
noncomputable def o1362 (P : Params) : Obj := ⟨.type "dict",none,(.dict #[en P "name" 1977 (.bytes #[101,110,100,111,98,106] 1973)] 1),#[]⟩
noncomputable def o1363 : Obj := ⟨.ref 868,(some 1362),.plain,#[]⟩
noncomputable def o1364 (P : Params) : Obj := ⟨.type "frame",none,(.dict #[en P "self" 1974 (.ref 1363),en P "name" 1975 (.bytes #[101,110,100,111,98,106] 1973)] 2),#[]⟩
noncomputable def o1365 (P : Params) : Obj := ⟨.type "dict",none,(.dict #[en P "name" 1983 (.bytes #[115,116,114,101,97,109] 1979)] 1),#[]⟩
noncomputable def o1366 : Obj := ⟨.ref 868,(some 1365),.plain,#[]⟩
noncomputable def o1367 (P : Params) : Obj := ⟨.type "frame",none,(.dict #[en P "self" 1980 (.ref 1366),en P "name" 1981 (.bytes #[115,116,114,101,97,109] 1979)] 2),#[]⟩
noncomputable def o1368 (P : Params) : Obj := ⟨.type "dict",none,(.dict #[en P "name" 1989 (.bytes #[120,114,101,102] 1985)] 1),#[]⟩
noncomputable def o1369 : Obj := ⟨.ref 868,(some 1368),.plain,#[]⟩
noncomputable def o1370 (P : Params) : Obj := ⟨.type "frame",none,(.dict #[en P "self" 1986 (.ref 1369),en P "name" 1987 (.bytes #[120,114,101,102] 1985)] 2),#[]⟩
noncomputable def o1371 (P : Params) : Obj := ⟨.type "dict",none,(.dict #[en P "name" 1995 (.bytes #[115,116,97,114,116,120,114,101,102] 1991)] 1),#[]⟩
noncomputable def o1372 : Obj := ⟨.ref 868,(some 1371),.plain,#[]⟩
noncomputable def o1373 (P : Params) : Obj := ⟨.type "frame",none,(.dict #[en P "self" 1992 (.ref 1372),en P "name" 1993 (.bytes #[115,116,97,114,116,120,114,101,102] 1991)] 2),#[]⟩
noncomputable def o1376 : Obj := sq #[.str "self" 2000,.str "pos" 2001,.str "token" 2002]
noncomputable def o1378 : Obj := fz [58,8] "PDFParser.do_keyword"
noncomputable def o1379 : Obj := ⟨.type "code",none,.fields #[.str "do_keyword" 1997,.str "PDFParser.do_keyword" 1998,.str "/claim/cut.py" 1999,.int 913 0,.int 3 0,.int 0 0,.int 0 0,.int 3 0,.ref 1374,.bool true,.int 181 0,.ref 1375,.none,.ref 1376,.ref 1377,.ref 1378,.int 2003 0,.int 913 0,.str "/claim/cut.py" 2004],#[]⟩
noncomputable def o1380 : Obj := ⟨.type "function",none,(fd (sAt [58,8]) "PDFParser.do_keyword" 3 [] .none .none .none (.str "pdfminer.pdfparser" 1931) none (.ref 1379) .none 0),#[]⟩
noncomputable def o1381 : Obj := ⟨.type "tuple",none,.seq #[.str "doc" 2006,.str "fallback" 2007] 0,#[]⟩
noncomputable def o1382 (P : Params) : Obj := ⟨.type "dict",none,(.dict #[en P "__module__" 1940 (.str "pdfminer.pdfparser" 1931),en P "__firstlineno__" 1944 (.int 897 1943),en P "__init__" 1952 (.ref 1348),en P "set_document" 1960 (.ref 1355),en P "KEYWORD_R" 1966 (.ref 1357),en P "KEYWORD_NULL" 1972 (.ref 1360),en P "KEYWORD_ENDOBJ" 1978 (.ref 1363),en P "KEYWORD_STREAM" 1984 (.ref 1366),en P "KEYWORD_XREF" 1990 (.ref 1369),en P "KEYWORD_STARTXREF" 1996 (.ref 1372),en P "do_keyword" 2005 (.ref 1380),en P "__static_attributes__" 2008 (.ref 1381),en P "__doc__" 2009 .none] 2),#[]⟩
noncomputable def o1383 : Obj := ⟨.type "type",none,.cls ⟨"PDFParser",[.ref 1332],[.ref 1383,.ref 1332,.ref 1241,.type "object"],1382,"PDFParser",true,[],[],false,none,false⟩,#[(some (.ref 1335)),none,(some (.str "PDFParser" 1933)),(some (.str "PDFParser" 1941)),(some (.builtin "object.__new__")),(some (.bool true))]⟩
noncomputable def o1384 : Obj := ⟨.type "super",none,.fields #[.ref 1383,.ref 1383,.ref 1383],#[]⟩
noncomputable def o1385 : Obj := ⟨.type "builtin_function_or_method",none,.fields #[.builtin "object.__init_subclass__",.ref 1383],#[]⟩
noncomputable def t59 (P : Params) (x : Obj) : BT := (Y (o0 P) (Y (o1 P) (Y (o3v14 P) (Y o7 (Y o7 (Y o31 (Y o63 (Y o127 (Y o255 (Y o7 (L (o1023 P)) Z) (Y o767 (L o1279) Z)) (Y o383 (Y o639 (L o7) Z) (L o895))) (Y (o191 P) (Y o319 (Y o575 (L (o1087 P)) Z) (Y o831 (L o8) Z)) (Y o447 (Y o703 (L o1215) Z) (L (o959 P))))) (Y (o95 P) (Y o159 (Y o287 (Y o543 (L o1055) Z) (Y (o799 P) (L o1311) Z)) (Y o8 (Y o671 (L o7) Z) (L o7))) (Y o8 (Y o7 (Y o607 (L o1119) Z) (Y o863 (L o8) Z)) (Y o479 (Y o735 (L o23) Z) (L o7))))) (Y o47 (Y o79 (Y o23 (Y o7 (Y o527 (L o7) Z) (Y o783 (L o7) Z)) (Y o399 (Y o7 (L o1167) Z) (L (o911 P)))) (Y o207 (Y o335 (Y o591 (L o1103) Z) (Y o847 (L (o1359 P)) Z)) (Y o463 (Y o719 (L o1231) Z) (L (o975 P))))) (Y o111 (Y o175 (Y o23 (Y o7 (L o7) Z) (Y o7 (L o1327) Z)) (Y o7 (Y o687 (L o1199) Z) (L (o943 P)))) (Y o239 (Y o367 (Y o623 (L o8) Z) (L o8)) (Y o495 (Y o7 (L o7) Z) (L o7)))))) (Y o23 (Y o8 (Y o71 (Y o135 (Y (o263 P) (Y o8 (L o1031) Z) (Y o7 (L o1287) Z)) (Y o391 (Y o647 (L o1159) Z) (L (o903 P)))) (Y o199 (Y o327 (Y o7 (L o7) Z) (Y o23 (L o1351) Z)) (Y o455 (Y o711 (L o1223) Z) (L o967)))) (Y (o103 P) (Y o167 (Y o295 (Y o551 (L o1063) Z) (Y (o807 P) (L o7) Z)) (Y o423 (Y o7 (L o8) Z) (L o935))) (Y o231 (Y o8 (Y o615 (L o7) Z) (Y o7 (L o1383) Z)) (Y o487 (Y o743 (L o1255) Z) (L o999))))) (Y (o55 P) (Y o7 (Y o151 (Y o279 (Y o7 (L o1047) Z) (Y o7 (L o8) Z)) (Y o7 (Y o8 (L o1175) Z) (L o919))) (Y o7 (Y o7 (Y o599 (L o1111) Z) (Y o7 (L (o1367 P)) Z)) (Y o471 (Y o727 (L o1239) Z) (L o983)))) (Y o7 (Y o8 (Y o311v1 (Y o8 (L (o1079 P)) Z) (Y o823 (L o1335) Z)) (Y o439 (Y o695 (L o7) Z) (L o951))) (Y o247 (Y o7 (Y o631 (L o1143) Z) (L o887)) (Y o503 (Y o8 (L o1271) Z) (L o7))))))) (Y o7 (Y o19 (Y o35 (Y o8 (Y o8 (Y o8 (Y o515 (L o1027) Z) (Y o771 (L o1283) Z)) (Y o8 (Y o643 (L o7) Z) (L (o899 P)))) (Y o195 (Y o8 (Y o579 (L o1091) Z) (Y o835 (L o1347) Z)) (Y o7 (Y o7 (L o8) Z) (L o919)))) (Y o99 (Y (o163 P) (Y o23 (Y o7 (L o1059) Z) (Y o803 (L o1315) Z)) (Y o419 (Y o675 (L o1187) Z) (L (o931 P)))) (Y o7 (Y o355 (Y o7 (L o7) Z) (Y (o867 P) (L o1379) Z)) (Y o483 (Y o7 (L o1251) Z) (L o7))))) (Y o8 (Y o7 (Y o147 (Y o7 (Y o531 (L o7) Z) (Y (o787 P) (L o1299) Z)) (Y o7 (Y o659 (L o1171) Z) (L (o915 P)))) (Y o7 (Y o7 (Y o7 (L o8) Z) (Y o851 (L o1363) Z)) (Y o7 (Y o7 (L o7) Z) (L o979)))) (Y o115 (Y o179 (Y o307 (Y o563 (L o1075) Z) (Y o7 (L (o1331 P)) Z)) (Y o7 (Y o8 (L o1203) Z) (L o919))) (Y o243 (Y o371 (Y o7 (L o1139) Z) (L o883)) (Y o499 (Y o755 (L o7) Z) (L o8)))))) (Y o27 (Y (o43 P) (Y o75 (Y o139 (Y o267 (Y o523 (L o1035) Z) (Y o7 (L o7) Z)) (Y o395 (Y o7 (L o8) Z) (L o907))) (Y (o203 P) (Y o331 (Y o7 (L o7) Z) (Y o843 (L o1355) Z)) (Y o7 (Y o7 (L o1227) Z) (L o7)))) (Y o107 (Y o7 (Y o299v1 (Y o7 (L o7) Z) (Y o811 (L o7) Z)) (Y o427 (Y o7 (L o1195) Z) (L o939))) (Y (o235 P) (Y o363 (Y o7 (L o1131) Z) (L o875)) (Y o491 (Y o7 (L o1259) Z) (L (o1003 P)))))) (Y o7 (Y o91 (Y (o155 P) (Y (o283 P) (Y o539 (L o1008) Z) (Y o8 (L o1307) Z)) (Y o411 (Y o667 (L o7) Z) (L o923))) (Y o219 (Y o347 (Y o7 (L o1115) Z) (Y o7 (L (o1371 P)) Z)) (Y o8 (Y o7 (L o1243) Z) (L x)))) (Y o7 (Y o187 (Y o23 (Y o571 (L o1083) Z) (Y o8 (L o1339) Z)) (Y o7 (Y o699 (L o7) Z) (L o7))) (Y o7 (Y o7 (Y o8 (L o1147) Z) (L o891)) (Y o7 (Y o763 (L o8) Z) (L o1019)))))))) (Y o5 (Y o9 (Y o17 (Y o33 (Y o65 (Y o129 (Y (o257 P) (Y o513 (L o1025) Z) (Y o769 (L o7) Z)) (Y o385 (Y o7 (L o1153) Z) (L o897))) (Y o8 (Y o321 (Y o577 (L o1089) Z) (Y o833 (L o7) Z)) (Y o449 (Y o8 (L o1217) Z) (L (o961 P))))) (Y o97 (Y o7 (Y o289 (Y o23 (L o7) Z) (Y o801 (L o1313) Z)) (Y o7 (Y o673 (L o1185) Z) (L (o929 P)))) (Y o225 (Y o353 (Y o609 (L o8) Z) (Y o865 (L o7) Z)) (Y o7 (Y o8 (L o7) Z) (L o993))))) (Y (o49 P) (Y o8 (Y o7 (Y o273 (Y o529 (L o1041) Z) (Y o785 (L o1297) Z)) (Y o8 (Y o657 (L o7) Z) (L o913))) (Y o8 (Y o8 (Y o593 (L o1105) Z) (Y o849 (L (o1361 P)) Z)) (Y o465 (Y o8 (L o8) Z) (L o919)))) (Y o113 (Y o177 (Y o7 (Y o561 (L o1073) Z) (Y o817 (L o1329) Z)) (Y o433 (Y o689 (L o1201) Z) (L (o945 P)))) (Y o7 (Y o369 (Y o625 (L o7) Z) (L o7)) (Y o7 (Y o753 (L o1265) Z) (L (o1009 P))))))) (Y o7 (Y o41 (Y o7 (Y o137 (Y o265 (Y o7 (L o1033) Z) (Y o777 (L o8) Z)) (Y o7 (Y o8 (L o1161) Z) (L (o905 P)))) (Y o7 (Y o7 (Y o585 (L o1097) Z) (Y o7 (L o1353) Z)) (Y o457 (Y o8 (L o7) Z) (L o969)))) (Y o105 (Y o8 (Y o297 (Y o8 (L o8) Z) (Y o809 (L o1321) Z)) (Y o425 (Y o681 (L o7) Z) (L o937))) (Y o233 (Y o7 (Y o617 (L o1129) Z) (Y (o873 P) (L o1385) Z)) (Y o7 (Y o8 (L o1257) Z) (L o1001))))) (Y o57 (Y o89 (Y o153 (Y o281 (Y o537 (L o1049) Z) (Y (o793 P) (L o7) Z)) (Y o409 (Y o7 (L o8) Z) (L o921))) (Y o217 (Y o345 (Y o601 (L o7) Z) (Y o857 (L o1369) Z)) (Y o473 (Y o8 (L o1241v1) Z) (L o7)))) (Y o121 (Y o7 (Y o313 (Y o7 (L o1081) Z) (Y o825 (L (o1337 P)) Z)) (Y o441 (Y o7 (L o1209) Z) (L o953))) (Y o8 (Y o377 (Y o633 (L o1145) Z) (L o889)) (Y o8 (Y o7 (L o1273) Z) (L (o1017 P)))))))) (Y o13 (Y o21 (Y (o37 P) (Y o7 (Y o133 (Y o261 (Y o517 (L o7) Z) (Y o8 (L o1285) Z)) (Y o7 (Y o645 (L o1157) Z) (L (o901 P)))) (Y (o197 P) (Y o7 (Y o8 (L o8) Z) (Y o837 (L o7) Z)) (Y o453 (Y o709 (L o7) Z) (L o965)))) (Y o7 (Y o165 (Y o7 (Y o549 (L o1061) Z) (Y o805 (L o8) Z)) (Y o7 (Y o8 (L o1189) Z) (L o919))) (Y o229 (Y o357 (Y o613 (L o1125) Z) (Y o869 (L o1381) Z)) (Y o485 (Y o741 (L o7) Z) (L o997))))) (Y o53 (Y o85 (Y o7 (Y o277 (Y o8 (L (o1045 P)) Z) (Y o789 (L o1301) Z)) (Y o405 (Y o661 (L o1173) Z) (L (o917 P)))) (Y o213 (Y o341 (Y o597 (L o7) Z) (Y o8 (L (o1365 P)) Z)) (Y o469 (Y o725 (L o1237) Z) (L o981)))) (Y o8 (Y o181 (Y o309 (Y o565 (L o1077) Z) (Y o821 (L o1333) Z)) (Y o437 (Y o7 (L o8) Z) (L o949))) (Y o245 (Y o8 (Y o629 (L o7) Z) (L o7)) (Y o501 (Y o757 (L o1269) Z) (L o1013)))))) (Y o29 (Y o45 (Y o77 (Y o141 (Y o23 (Y o7 (L o8) Z) (Y o781 (L o1293) Z)) (Y o397 (Y o653 (L o7) Z) (L (o909 P)))) (Y o205 (Y o333 (Y o589 (L o1101) Z) (Y o7 (L o1357) Z)) (Y o461 (Y o717 (L o1229) Z) (L (o973 P))))) (Y o7 (Y o173 (Y o301 (Y o557 (L o1069) Z) (Y o8 (L o1325) Z)) (Y o8 (Y o685 (L o7) Z) (L o7))) (Y o237 (Y o7 (Y o621 (L o1133) Z) (L o877)) (Y o493 (Y o749 (L o8) Z) (L o1005))))) (Y (o61 P) (Y o93 (Y o157 (Y o285 (Y o541 (L o7) Z) (Y o797 (L o7) Z)) (Y o413 (Y o7 (L o1181) Z) (L o925))) (Y o221 (Y o349 (Y o605 (L o1117) Z) (Y o861 (L (o1373 P)) Z)) (Y o7 (Y o733 (L o1245) Z) (L o23)))) (Y o125 (Y o189 (Y o7 (Y o7 (L o7) Z) (Y o7 (L o1341) Z)) (Y o445 (Y o701 (L o1213) Z) (L o6))) (Y o253 (Y o381 (Y o7 (L o8) Z) (L (o893 P))) (Y o509 (Y o7 (L o7) Z) (L o1021))))))))) (Y (o2v2 P) (Y o4 (Y o8 (Y o8 (Y o32 (Y o64 (Y o128 (Y o23 (Y o8 (L o7) Z) (Y o7 (L o1280) Z)) (Y o384 (Y o640 (L o1152) Z) (L o896))) (Y o7 (Y o320 (Y o7 (L o7) Z) (Y o832 (L o1344) Z)) (Y o448 (Y o7 (L o1216) Z) (L o960)))) (Y o96 (Y o160 (Y o288 (Y o544 (L o1056) Z) (Y o800 (L o7) Z)) (Y o416 (Y o7 (L o8) Z) (L o928))) (Y o224 (Y o8 (Y o608 (L o7) Z) (Y o864 (L o1376) Z)) (Y o480 (Y o7 (L (o1248 P)) Z) (L o992))))) (Y o23 (Y o7 (Y (o144 P) (Y o272 (Y o7 (L o1040) Z) (Y o784 (L o8) Z)) (Y o7 (Y o8 (L o1168) Z) (L (o912 P)))) (Y o7 (Y o7 (Y o592 (L o1104) Z) (Y o7 (L o1360) Z)) (Y o464 (Y o7 (L o7) Z) (L o976)))) (Y o7 (Y (o176 P) (Y (o304 P) (Y o8 (L o8) Z) (Y o816 (L o1328) Z)) (Y o432 (Y o688 (L o7) Z) (L o944))) (Y o240 (Y o7 (Y o624 (L o1136) Z) (L o880)) (Y o496 (Y o8 (L o1264) Z) (L o1008)))))) (Y (o24 P) (Y o40 (Y o72 (Y (o136 P) (Y o264 (Y o520 (L o7) Z) (Y o776 (L o7) Z)) (Y o392 (Y o7 (L o1160) Z) (L o904))) (Y o200 (Y o328 (Y o584 (L o1096) Z) (Y (o840 P) (L o7) Z)) (Y o456 (Y o7 (L o1224) Z) (L (o968 P))))) (Y o7 (Y o7 (Y o296 (Y o7 (L o7) Z) (Y o7 (L o1320) Z)) (Y o7 (Y o680 (L o1192) Z) (L (o936 P)))) (Y o232 (Y o360 (Y o616 (L o8) Z) (Y o23 (L o1384) Z)) (Y o488 (Y o7 (L o7) Z) (L o1000))))) (Y o56 (Y o8 (Y o152 (Y o280 (Y o536 (L o1048) Z) (Y o23 (L o1304) Z)) (Y o8 (Y o664 (L o7) Z) (L o7))) (Y o8 (Y o8 (Y o600 (L o1112) Z) (Y o856 (L (o1368 P)) Z)) (Y o472 (Y o7 (L (o1240 P)) Z) (L o919)))) (Y o120 (Y o184 (Y o312 (Y o568 (L o1080) Z) (Y o824 (L o23) Z)) (Y o440 (Y o696 (L o1208) Z) (L (o952 P)))) (Y o7 (Y o376 (Y o632 (L o7) Z) (L o7)) (Y o7 (Y o760 (L o1272) Z) (L o1016))))))) (Y o12v10 (Y o20 (Y o23 (Y o68 (Y o132 (Y o260 (Y o516 (L o7) Z) (Y o7 (L o7) Z)) (Y o388 (Y o7 (L o8) Z) (L o900))) (Y o196 (Y o324 (Y o7 (L o7) Z) (Y o836 (L o1348) Z)) (Y o8 (Y o708 (L o1220) Z) (L o7)))) (Y o100 (Y o7 (Y (o292 P) (Y o548 (L o7) Z) (Y o804 (L o7) Z)) (Y o420 (Y o7 (L o1188) Z) (L o932))) (Y o8 (Y o356 (Y o8 (L o1124) Z) (Y o868 (L o1380) Z)) (Y o7 (Y o740 (L o1252) Z) (L o8))))) (Y o52 (Y o84 (Y o148 (Y o8 (Y o7 (L o1016) Z) (Y o788 (L o1300) Z)) (Y o404 (Y o660 (L o7) Z) (L o916))) (Y o212 (Y o340 (Y o8 (L o1108) Z) (Y o7 (L (o1364 P)) Z)) (Y o8 (Y o724 (L o1236) Z) (L (o980 P))))) (Y o7 (Y o180 (Y o308 (Y o564 (L o1076) Z) (Y o8 (L o1332v1) Z)) (Y o8 (Y o692 (L o7) Z) (L o7))) (Y o7 (Y o7 (Y o8 (L o1140) Z) (L o884)) (Y o7 (Y o756 (L o8) Z) (L o1012)))))) (Y o28 (Y o44v1 (Y o7 (Y o140 (Y o7 (Y o524 (L o7) Z) (Y o8 (L o1292) Z)) (Y o7 (Y o652 (L o1164) Z) (L o908))) (Y o7 (Y o7 (Y o8 (L o8) Z) (Y o844 (L (o1356 P)) Z)) (Y o8 (Y o716 (L o7) Z) (L o972)))) (Y o108 (Y o172 (Y o300 (Y o556 (L o1068) Z) (Y o7 (L o8) Z)) (Y o7 (Y o8 (L o1196) Z) (L o919))) (Y o236 (Y o364 (Y o8 (L o1132) Z) (L o876)) (Y o7 (Y o748 (L o7) Z) (L o1004))))) (Y o23 (Y o92 (Y o156 (Y o284 (Y (o540 P) (L (o1052 P)) Z) (Y o796 (L o1308) Z)) (Y o412 (Y o668 (L o1180) Z) (L (o924 P)))) (Y o220 (Y o348 (Y o8 (L o7) Z) (Y o8 (L o1372) Z)) (Y o476 (Y o732 (L o1244) Z) (L o988)))) (Y o8 (Y o188 (Y (o316 P) (Y o572 (L o1084) Z) (Y o828 (L o1340) Z)) (Y o8 (Y o7 (L o8) Z) (L o956))) (Y o252 (Y o8 (Y o636 (L o7) Z) (L o892)) (Y o508 (Y o764 (L o1276) Z) (L o1020)))))))) (Y o6 (Y o10 (Y o7 (Y o34 (Y o7 (Y o7 (Y o7 (Y o7 (L o1026) Z) (Y o770 (L o8) Z)) (Y o7 (Y o8 (L o1154) Z) (L o898))) (Y o194 (Y o7 (Y o578 (L o1090) Z) (Y (o834 P) (L o1346) Z)) (Y o450 (Y o706 (L o7) Z) (L o962)))) (Y o98 (Y o23 (Y o290 (Y (o546 P) (L o8) Z) (Y o802 (L o1314) Z)) (Y o418 (Y o674 (L o7) Z) (L o930))) (Y o226 (Y o7 (Y o610 (L o1122) Z) (Y o866 (L o1378) Z)) (Y o8 (Y o738 (L o1250) Z) (L o994))))) (Y o7 (Y o82 (Y o146 (Y o274 (Y o530 (L o1042) Z) (Y o786 (L o7) Z)) (Y o402 (Y o7 (L o8) Z) (L (o914 P)))) (Y o210 (Y o338 (Y o594 (L o7) Z) (Y o850 (L (o1362 P)) Z)) (Y o466 (Y o722 (L o1234) Z) (L o7)))) (Y o114 (Y o178 (Y o8 (Y o7 (L o7) Z) (Y o818 (L o1330) Z)) (Y o434 (Y o7 (L o1202) Z) (L o946))) (Y o8 (Y o370 (Y o626 (L o1138) Z) (L o882)) (Y o8 (Y o7 (L o1266) Z) (L o7)))))) (Y o8 (Y o42 (Y o8 (Y o138 (Y o266 (Y o522 (L o1034) Z) (Y o778 (L o1290) Z)) (Y o8 (Y o650 (L o7) Z) (L o6))) (Y o23 (Y o8 (Y o586 (L o1098) Z) (Y o842 (L o1354) Z)) (Y o458 (Y o714 (L o8) Z) (L o919)))) (Y o106 (Y o170 (Y (o298 P) (Y o554 (L o1066) Z) (Y o810 (L o1322) Z)) (Y o426 (Y o682 (L o1194) Z) (L (o938 P)))) (Y o234 (Y o362 (Y o618 (L o7) Z) (L o7)) (Y o8 (Y o746 (L o1258) Z) (L o7))))) (Y o58 (Y o7 (Y o7 (Y o282 (Y o538 (L o1050) Z) (Y o7 (L o1306) Z)) (Y o7 (Y o666 (L o1178) Z) (L (o922 P)))) (Y o7 (Y o7 (Y o602 (L o8) Z) (Y o858 (L (o1370 P)) Z)) (Y o7 (Y o730 (L o1242) Z) (L o986)))) (Y o122 (Y o186 (Y o314 (Y o570 (L o1082) Z) (Y o7 (L o7) Z)) (Y o442 (Y o8 (L o1210) Z) (L o919))) (Y o250 (Y o378 (Y o7 (L o1146) Z) (L o890)) (Y o506 (Y o762 (L o7) Z) (L o1018))))))) (Y o14 (Y o22 (Y o7 (Y o70 (Y o134 (Y o7 (Y o7 (L o8) Z) (Y o774 (L o1286) Z)) (Y o390 (Y o646 (L o7) Z) (L o6))) (Y o198 (Y o326 (Y o582 (L o1094) Z) (Y o805 (L o8) Z)) (Y o7 (Y o710 (L o1222) Z) (L (o966 P))))) (Y o23 (Y o166 (Y o8 (Y o550 (L o1062) Z) (Y o23 (L o1318) Z)) (Y o8 (Y o678 (L o7) Z) (L o7))) (Y o7 (Y o7 (Y o7 (L o1126) Z) (Y o870 (L (o1382 P)) Z)) (Y o486 (Y o742 (L o8) Z) (L o7))))) (Y o54 (Y o86 (Y o8 (Y o7 (Y o534 (L o1046) Z) (Y o790 (L o7) Z)) (Y o406 (Y o7 (L o1174) Z) (L o918))) (Y o214 (Y o342 (Y o7 (L o1110) Z) (Y o854 (L o1366) Z)) (Y o7 (Y o726 (L o1238) Z) (L (o982 P))))) (Y o118 (Y o7 (Y (o310 P) (Y o7 (L o1078) Z) (Y o7 (L o1334) Z)) (Y o7 (Y o694 (L o1206) Z) (L (o950 P)))) (Y o246 (Y o374 (Y o7 (L o8) Z) (L o8)) (Y o502 (Y o7 (L o7) Z) (L o7)))))) (Y (o30 P) (Y o46 (Y o78 (Y o7 (Y (o270 P) (Y o8 (L o1038) Z) (Y o7 (L o1294) Z)) (Y o398 (Y o654 (L o1166) Z) (L o910))) (Y o206 (Y o334 (Y o7 (L o7) Z) (Y o8 (L (o1358 P)) Z)) (Y o7 (Y o718 (L o1230) Z) (L o974)))) (Y o8 (Y o174 (Y o290 (Y o558 (L o1070) Z) (Y o814 (L o7) Z)) (Y o430 (Y o7 (L o8) Z) (L o942))) (Y o238 (Y o8 (Y o7 (L o7) Z) (L o7)) (Y o494 (Y o750 (L o1262) Z) (L o1006))))) (Y o7 (Y o94 (Y o158 (Y o286 (Y o542 (L o1054) Z) (Y o7 (L o8) Z)) (Y o7 (Y o8 (L o1182) Z) (L o919))) (Y o7 (Y o350 (Y o7 (L o1118) Z) (Y o7 (L o7) Z)) (Y o478 (Y o734 (L o1246) Z) (L (o990 P))))) (Y o7 (Y o23 (Y o318 (Y o8 (L o23) Z) (Y o830 (L o7) Z)) (Y o7 (Y o702 (L o7) Z) (L o958))) (Y o254 (Y o7 (Y o638 (L o1150) Z) (L o894)) (Y o510 (Y o8 (L o1278) Z) (L o1008))))))))))
noncomputable def s59 (w : World) (x : Obj) (os : OsState) : SharedT := ⟨t59 w.params x, 1386, lf, #[], dr, 2012, os⟩
noncomputable def o3v15 (P : Params) : Obj := ⟨.type "dict",none,(.dict #[en P "__name__" 165 (.str "law_lb0019_04" 2058),en P "__doc__" 166 .none,en P "__package__" 167 .none,en P "__loader__" 168 (.builtin "__main__.__loader__#opaque"),en P "__spec__" 169 .none,en P "__annotations__" 170 (.ref 6),en P "__builtins__" 171 (.ref 4),en P "__file__" 173 (.str "/claim/cut.py" 172),en P "__cached__" 174 .none,en P "_wall" 193 (.ref 21),en P "PSException" 215 (.ref 31),en P "PDFException" 233 (.ref 44),en P "PDFEOFError" 251 (.ref 56),en P "Found" 308 (.ref 96),en P "Signs" 363 (.ref 137),en P "HexPairs" 389 (.ref 156),en P "Real" 420 (.ref 177),en P "cast" 428 (.ref 188),en P "CorruptDataError" 446 (.ref 198),en P "LZWDecoder" 504 (.ref 236),en P "_whence" 514 (.ref 247),en P "_index" 522 (.ref 254),en P "UnsupportedOperation" 544 (.ref 264),en P "IOBase" 576 (.ref 284),en P "BufferedIOBase" 594 (.ref 299),en P "TextIOBase" 612 (.ref 311),en P "BytesIO" 874 (.ref 541),en P "StringIO" 1161 (.ref 788),en P "PSObject" 1183 (.ref 800),en P "PSLiteral" 1225 (.ref 835),en P "PSKeyword" 1267 (.ref 868),en P "PSSymbolTable" 1306 (.ref 894),en P "PSLiteralTable" 1313 (.ref 900),en P "PSKeywordTable" 1320 (.ref 904),en P "LIT" 1322 (.ref 907),en P "KWD" 1324 (.ref 908),en P "KEYWORD_DICT_BEGIN" 1330 (.ref 910),en P "KEYWORD_DICT_END" 1336 (.ref 913),en P "EOL" 1345 (.ref 916),en P "SPC" 1354 (.ref 923),en P "NONSPC" 1363 (.ref 930),en P "HEX" 1372 (.ref 937),en P "END_LITERAL" 1381 (.ref 944),en P "END_HEX_STRING" 1390 (.ref 951),en P "HEX_PAIR" 1391 (.ref 958),en P "END_NUMBER" 1400 (.ref 960),en P "END_KEYWORD" 1409 (.ref 967),en P "END_STRING" 1418 (.ref 974),en P "OCT_STRING" 1427 (.ref 981),en P "ESC_STRING" 1452 (.ref 987),en P "ABCMeta" 1478 (.ref 1004),en P "ABC" 1495 (.ref 1018),en P "AbstractContextManager" 1531 (.ref 1046),en P "suppress" 1584 (.ref 1080),en P "PSBaseParser" 1822 (.ref 1241),en P "PSStackParser" 1930 (.ref 1332),en P "PDFParser" 2011 (.ref 1383),en P "PDFStreamParser" 2057 (.ref 1419),en P "_law_code" 2069 (.ref 1428),en P "_law_bits" 2075 (.ref 1433),en P "_law_number" 2084 (.ref 1440),en P "law" 2090 (.ref 1445)] 62),#[]⟩
noncomputable def o12v11 : Obj := fl #[.int 1 0,.int 0 0,.ref 20,.int 5 0,.int 0 0,.ref 27,.int 8 0,.int 0 0,.ref 40,.int 10 0,.int 0 0,.ref 52,.int 13 0,.int 0 0,.ref 64,.int 26 0,.int 0 0,.ref 106,.int 41 0,.int 0 0,.ref 147,.int 45 0,.int 0 0,.ref 166,.int 50 0,.int 0 0,.ref 187,.int 53 0,.int 0 0,.ref 194,.int 55 0,.int 0 0,.ref 206,.int 117 0,.int 0 0,.ref 246,.int 122 0,.int 0 0,.ref 253,.int 129 0,.int 0 0,.ref 260,.int 131 0,.int 0 0,.ref 273,.int 138 0,.int 0 0,.ref 295,.int 140 0,.int 0 0,.ref 307,.int 142 0,.int 0 0,.ref 319,.int 312 0,.int 0 0,.ref 549,.int 518 0,.int 0 0,.ref 796,.int 520 0,.int 0 0,.ref 810,.int 531 0,.int 0 0,.ref 843,.int 542 0,.int 0 0,.ref 876,.int 574 0,.int 0 0,.ref 993,.int 578 0,.int 0 0,.ref 1012,.int 581 0,.int 0 0,.ref 1026,.int 590 0,.int 0 0,.ref 1055,.int 610 0,.int 0 0,.ref 1090,.int 855 0,.int 0 0,.ref 1251,.int 897 0,.int 0 0,.ref 1340,.int 915 0,.int 0 0,.ref 1391,.int 927 0,.int 0 0,.ref 1427,.int 940 0,.int 0 0,.ref 1432,.int 942 0,.int 0 0,.ref 1439,.int 947 0,.int 0 0,.ref 1444]
noncomputable def o1383v1 : Obj := ⟨.type "type",none,.cls ⟨"PDFParser",[.ref 1332],[.ref 1383,.ref 1332,.ref 1241,.type "object"],1382,"PDFParser",true,[],[.ref 1419],false,none,false⟩,#[(some (.ref 1335)),none,(some (.str "PDFParser" 1933)),(some (.str "PDFParser" 1941)),(some (.builtin "object.__new__")),(some (.bool true))]⟩
noncomputable def o1386 : Obj := sq #[.ref 1383]
noncomputable def o1388 (P : Params) : Obj := ⟨.type "dict",none,(.dict #[en P "__module__" 2019 (.str "pdfminer.pdfparser" 1931),en P "__qualname__" 2021 (.str "PDFStreamParser" 2020),en P "__firstlineno__" 2023 (.int 915 2022),en P "__init__" 2031 (.ref 1399),en P "flush" 2038 (.ref 1406),en P "KEYWORD_OBJ" 2044 (.ref 1408),en P "do_keyword" 2053 (.ref 1416),en P "__static_attributes__" 2054 (.ref 1417)] 8),#[]⟩
noncomputable def o1390 : Obj := fl #[.int 917 0,.int 4 0,.ref 1398,.int 920 0,.int 4 0,.ref 1405,.int 924 0,.int 4 0,.ref 1415]
noncomputable def o1391 : Obj := cd #[.str "PDFStreamParser" 2014,.str "PDFStreamParser" 2015,.str "/claim/cut.py" 2016,.int 915 0,.int 0 0,.int 0 0,.int 0 0,.int 0 0,.ref 1389,.bool false,.int 181 0,.ref 1390,.none,.none,.none,.none,.int 2017 0,.int 915 0,.str "/claim/cut.py" 2018]
noncomputable def o1392 : Obj := ⟨.type "frame",none,.plain,#[(some (.ref 1391)),(some (.ref 3)),(some (.ref 1388)),none,(some (.str "pdfminer.pdfparser" 1931)),none,(some (.ref 0))]⟩
noncomputable def o1395 : Obj := sq #[.str "self" 2027,.str "data" 2028]
noncomputable def o1397 : Obj := fz [59,0] "PDFStreamParser.__init__"
noncomputable def o1398 : Obj := ⟨.type "code",none,.fields #[.str "__init__" 2024,.str "PDFStreamParser.__init__" 2025,.str "/claim/cut.py" 2026,.int 917 0,.int 2 0,.int 0 0,.int 0 0,.int 3 0,.ref 1393,.bool true,.int 181 0,.ref 1394,.none,.ref 1395,.ref 1396,.ref 1397,.int 2029 0,.int 917 0,.str "/claim/cut.py" 2030],#[]⟩
noncomputable def o1399 : Obj := ⟨.type "function",none,(fd (sAt [59,0]) "PDFStreamParser.__init__" 3 [] .none .none .none (.str "pdfminer.pdfparser" 1931) none (.ref 1398) .none 0),#[]⟩
noncomputable def o1402 : Obj := sq #[.str "self" 2035]
noncomputable def o1404 : Obj := fz [59,1] "PDFStreamParser.flush"
noncomputable def o1405 : Obj := ⟨.type "code",none,.fields #[.str "flush" 2032,.str "PDFStreamParser.flush" 2033,.str "/claim/cut.py" 2034,.int 920 0,.int 1 0,.int 0 0,.int 0 0,.int 3 0,.ref 1400,.bool true,.int 181 0,.ref 1401,.none,.ref 1402,.ref 1403,.ref 1404,.int 2036 0,.int 920 0,.str "/claim/cut.py" 2037],#[]⟩
noncomputable def o1406 : Obj := ⟨.type "function",none,(fd (sAt [59,1]) "PDFStreamParser.flush" 3 [] .none .none .none (.str "pdfminer.pdfparser" 1931) none (.ref 1405) .none 0),#[]⟩
noncomputable def o1407 (P : Params) : Obj := ⟨.type "dict",none,(.dict #[en P "name" 2043 (.bytes #[111,98,106] 2039)] 1),#[]⟩
noncomputable def o1408 : Obj := ⟨.ref 868,(some 1407),.plain,#[]⟩
noncomputable def o1409 (P : Params) : Obj := ⟨.type "frame",none,(.dict #[en P "self" 2040 (.ref 1408),en P "name" 2041 (.bytes #[111,98,106] 2039)] 2),#[]⟩
noncomputable def o1412 : Obj := sq #[.str "self" 2048,.str "pos" 2049,.str "token" 2050]
noncomputable def o1414 : Obj := fz [59,3] "PDFStreamParser.do_keyword"
noncomputable def o1415 : Obj := ⟨.type "code",none,.fields #[.str "do_keyword" 2045,.str "PDFStreamParser.do_keyword" 2046,.str "/claim/cut.py" 2047,.int 924 0,.int 3 0,.int 0 0,.int 0 0,.int 3 0,.ref 1410,.bool true,.int 181 0,.ref 1411,.none,.ref 1412,.ref 1413,.ref 1414,.int 2051 0,.int 924 0,.str "/claim/cut.py" 2052],#[]⟩
noncomputable def o1416 : Obj := ⟨.type "function",none,(fd (sAt [59,3]) "PDFStreamParser.do_keyword" 3 [] .none .none .none (.str "pdfminer.pdfparser" 1931) none (.ref 1415) .none 0),#[]⟩
noncomputable def o1417 : Obj := ⟨.type "tuple",none,.seq #[] 0,#[]⟩
noncomputable def o1418 (P : Params) : Obj := ⟨.type "dict",none,(.dict #[en P "__module__" 2019 (.str "pdfminer.pdfparser" 1931),en P "__firstlineno__" 2023 (.int 915 2022),en P "__init__" 2031 (.ref 1399),en P "flush" 2038 (.ref 1406),en P "KEYWORD_OBJ" 2044 (.ref 1408),en P "do_keyword" 2053 (.ref 1416),en P "__static_attributes__" 2054 (.ref 1417),en P "__doc__" 2055 .none] 2),#[]⟩
noncomputable def o1419 : Obj := ⟨.type "type",none,.cls ⟨"PDFStreamParser",[.ref 1383],[.ref 1419,.ref 1383,.ref 1332,.ref 1241,.type "object"],1418,"PDFStreamParser",true,[],[],false,none,false⟩,#[(some (.ref 1386)),none,(some (.str "PDFStreamParser" 2012)),(some (.str "PDFStreamParser" 2020)),(some (.builtin "object.__new__")),(some (.bool true))]⟩
noncomputable def o1420 : Obj := ⟨.type "super",none,.fields #[.ref 1419,.ref 1419,.ref 1419],#[]⟩
noncomputable def o1421 : Obj := ⟨.type "builtin_function_or_method",none,.fields #[.builtin "object.__init_subclass__",.ref 1419],#[]⟩
noncomputable def o1424 : Obj := sq #[.str "rest" 2063,.str "ends" 2064,.str "clears" 2065,.str "way" 2066]
noncomputable def o1426 : Obj := fz [61] "_law_code"
noncomputable def o1427 : Obj := ⟨.type "code",none,.fields #[.str "_law_code" 2060,.str "_law_code" 2061,.str "/claim/cut.py" 2062,.int 927 0,.int 3 0,.int 0 0,.int 0 0,.int 3 0,.ref 1422,.bool true,.int 181 0,.ref 1423,.none,.ref 1424,.ref 1425,.ref 1426,.int 2067 0,.int 927 0,.str "/claim/cut.py" 2068],#[]⟩
noncomputable def o1428 : Obj := ⟨.type "function",none,(fd (sAt [61]) "_law_code" 3 [] .none .none .none (.str "law_lb0019_04" 2058) none (.ref 1427) .none 0),#[]⟩
noncomputable def o1431 : Obj := fz [62] "_law_bits"
noncomputable def o1432 : Obj := ⟨.type "code",none,.fields #[.str "_law_bits" 2070,.str "_law_bits" 2071,.str "/claim/cut.py" 2072,.int 940 0,.int 2 0,.int 0 0,.int 0 0,.int 3 0,.ref 1429,.bool true,.int 181 0,.ref 1430,.none,.none,.none,.ref 1431,.int 2073 0,.int 940 0,.str "/claim/cut.py" 2074],#[]⟩
noncomputable def o1433 : Obj := ⟨.type "function",none,(fd (sAt [62]) "_law_bits" 3 [] .none .none .none (.str "law_lb0019_04" 2058) none (.ref 1432) .none 0),#[]⟩
noncomputable def o1436 : Obj := sq #[.str "bits" 2079,.str "number" 2080,.str "bit" 2081]
noncomputable def o1438 : Obj := fz [63] "_law_number"
noncomputable def o1439 : Obj := ⟨.type "code",none,.fields #[.str "_law_number" 2076,.str "_law_number" 2077,.str "/claim/cut.py" 2078,.int 942 0,.int 1 0,.int 0 0,.int 0 0,.int 3 0,.ref 1434,.bool true,.int 181 0,.ref 1435,.none,.ref 1436,.ref 1437,.ref 1438,.int 2082 0,.int 942 0,.str "/claim/cut.py" 2083],#[]⟩
noncomputable def o1440 : Obj := ⟨.type "function",none,(fd (sAt [63]) "_law_number" 3 [] .none .none .none (.str "law_lb0019_04" 2058) none (.ref 1439) .none 0),#[]⟩
noncomputable def o1443 : Obj := fz [64] "law"
noncomputable def o1444 : Obj := ⟨.type "code",none,.fields #[.str "law" 2085,.str "law" 2086,.str "/claim/cut.py" 2087,.int 947 0,.int 1 0,.int 0 0,.int 0 0,.int 3 0,.ref 1441,.bool true,.int 181 0,.ref 1442,.none,.none,.none,.ref 1443,.int 2088 0,.int 947 0,.str "/claim/cut.py" 2089],#[]⟩
noncomputable def o1445 : Obj := ⟨.type "function",none,(fd (sAt [64]) "law" 3 [] .none .none .none (.str "law_lb0019_04" 2058) none (.ref 1444) .none 0),#[]⟩
noncomputable def t65 (P : Params) (x : Obj) : BT := (Y (o0 P) (Y (o1 P) (Y (o3v15 P) (Y o7 (Y o7 (Y o31 (Y o63 (Y o127 (Y o255 (Y o7 (L (o1023 P)) Z) (Y o767 (L o1279) Z)) (Y o383 (Y o639 (L o7) Z) (Y o895 (L (o1407 P)) Z))) (Y (o191 P) (Y o319 (Y o575 (L (o1087 P)) Z) (Y o831 (L o8) Z)) (Y o447 (Y o703 (L o1215) Z) (L (o959 P))))) (Y (o95 P) (Y o159 (Y o287 (Y o543 (L o1055) Z) (Y (o799 P) (L o1311) Z)) (Y o8 (Y o671 (L o7) Z) (Y o7 (L o1439) Z))) (Y o8 (Y o7 (Y o607 (L o1119) Z) (Y o863 (L o8) Z)) (Y o479 (Y o735 (L o23) Z) (L o7))))) (Y o47 (Y o79 (Y o23 (Y o7 (Y o527 (L o7) Z) (Y o783 (L o7) Z)) (Y o399 (Y o7 (L o1167) Z) (Y (o911 P) (L o8) Z))) (Y o207 (Y o335 (Y o591 (L o1103) Z) (Y o847 (L (o1359 P)) Z)) (Y o463 (Y o719 (L o1231) Z) (L (o975 P))))) (Y o111 (Y o175 (Y o23 (Y o7 (L o7) Z) (Y o7 (L o1327) Z)) (Y o7 (Y o687 (L o1199) Z) (L (o943 P)))) (Y o239 (Y o367 (Y o623 (L o8) Z) (Y o8 (L o1391) Z)) (Y o495 (Y o7 (L o7) Z) (L o7)))))) (Y o23 (Y o8 (Y o71 (Y o135 (Y (o263 P) (Y o8 (L o1031) Z) (Y o7 (L o1287) Z)) (Y o391 (Y o647 (L o1159) Z) (Y (o903 P) (L o1415) Z))) (Y o199 (Y o327 (Y o7 (L o7) Z) (Y o23 (L o1351) Z)) (Y o455 (Y o711 (L o1223) Z) (L o967)))) (Y (o103 P) (Y o167 (Y o295 (Y o551 (L o1063) Z) (Y (o807 P) (L o7) Z)) (Y o423 (Y o7 (L o8) Z) (L o935))) (Y o231 (Y o8 (Y o615 (L o7) Z) (Y o7 (L o1383v1) Z)) (Y o487 (Y o743 (L o1255) Z) (L o999))))) (Y (o55 P) (Y o7 (Y o151 (Y o279 (Y o7 (L o1047) Z) (Y o7 (L o8) Z)) (Y o7 (Y o8 (L o1175) Z) (Y o919 (L o1431) Z))) (Y o7 (Y o7 (Y o599 (L o1111) Z) (Y o7 (L (o1367 P)) Z)) (Y o471 (Y o727 (L o1239) Z) (L o983)))) (Y o7 (Y o8 (Y o311v1 (Y o8 (L (o1079 P)) Z) (Y o823 (L o1335) Z)) (Y o439 (Y o695 (L o7) Z) (L o951))) (Y o247 (Y o7 (Y o631 (L o1143) Z) (Y o887 (L o1399) Z)) (Y o503 (Y o8 (L o1271) Z) (L o7))))))) (Y o7 (Y o19 (Y o35 (Y o8 (Y o8 (Y o8 (Y o515 (L o1027) Z) (Y o771 (L o1283) Z)) (Y o8 (Y o643 (L o7) Z) (Y (o899 P) (L o8) Z))) (Y o195 (Y o8 (Y o579 (L o1091) Z) (Y o835 (L o1347) Z)) (Y o7 (Y o7 (L o8) Z) (L o919)))) (Y o99 (Y (o163 P) (Y o23 (Y o7 (L o1059) Z) (Y o803 (L o1315) Z)) (Y o419 (Y o675 (L o1187) Z) (Y (o931 P) (L o1443) Z))) (Y o7 (Y o355 (Y o7 (L o7) Z) (Y (o867 P) (L o1379) Z)) (Y o483 (Y o7 (L o1251) Z) (L o7))))) (Y o8 (Y o7 (Y o147 (Y o7 (Y o531 (L o7) Z) (Y (o787 P) (L o1299) Z)) (Y o7 (Y o659 (L o1171) Z) (Y (o915 P) (L o1427) Z))) (Y o7 (Y o7 (Y o7 (L o8) Z) (Y o851 (L o1363) Z)) (Y o7 (Y o7 (L o7) Z) (L o979)))) (Y o115 (Y o179 (Y o307 (Y o563 (L o1075) Z) (Y o7 (L (o1331 P)) Z)) (Y o7 (Y o8 (L o1203) Z) (L o919))) (Y o243 (Y o371 (Y o7 (L o1139) Z) (Y o883 (L o1395) Z)) (Y o499 (Y o755 (L o7) Z) (L o8)))))) (Y o27 (Y (o43 P) (Y o75 (Y o139 (Y o267 (Y o523 (L o1035) Z) (Y o7 (L o7) Z)) (Y o395 (Y o7 (L o8) Z) (Y o907 (L o1419) Z))) (Y (o203 P) (Y o331 (Y o7 (L o7) Z) (Y o843 (L o1355) Z)) (Y o7 (Y o7 (L o1227) Z) (L o7)))) (Y o107 (Y o7 (Y o299v1 (Y o7 (L o7) Z) (Y o811 (L o7) Z)) (Y o427 (Y o7 (L o1195) Z) (L o939))) (Y (o235 P) (Y o363 (Y o7 (L o1131) Z) (Y o875 (L o23) Z)) (Y o491 (Y o7 (L o1259) Z) (L (o1003 P)))))) (Y o7 (Y o91 (Y (o155 P) (Y (o283 P) (Y o539 (L o1008) Z) (Y o8 (L o1307) Z)) (Y o411 (Y o667 (L o7) Z) (Y o923 (L o8) Z))) (Y o219 (Y o347 (Y o7 (L o1115) Z) (Y o7 (L (o1371 P)) Z)) (Y o8 (Y o7 (L o1243) Z) (L x)))) (Y o7 (Y o187 (Y o23 (Y o571 (L o1083) Z) (Y o8 (L o1339) Z)) (Y o7 (Y o699 (L o7) Z) (L o7))) (Y o7 (Y o7 (Y o8 (L o1147) Z) (Y o891 (L o7) Z)) (Y o7 (Y o763 (L o8) Z) (L o1019)))))))) (Y o5 (Y o9 (Y o17 (Y o33 (Y o65 (Y o129 (Y (o257 P) (Y o513 (L o1025) Z) (Y o769 (L o7) Z)) (Y o385 (Y o7 (L o1153) Z) (Y o897 (L (o1409 P)) Z))) (Y o8 (Y o321 (Y o577 (L o1089) Z) (Y o833 (L o7) Z)) (Y o449 (Y o8 (L o1217) Z) (L (o961 P))))) (Y o97 (Y o7 (Y o289 (Y o23 (L o7) Z) (Y o801 (L o1313) Z)) (Y o7 (Y o673 (L o1185) Z) (Y (o929 P) (L o7) Z))) (Y o225 (Y o353 (Y o609 (L o8) Z) (Y o865 (L o7) Z)) (Y o7 (Y o8 (L o7) Z) (L o993))))) (Y (o49 P) (Y o8 (Y o7 (Y o273 (Y o529 (L o1041) Z) (Y o785 (L o1297) Z)) (Y o8 (Y o657 (L o7) Z) (Y o913 (L o7) Z))) (Y o8 (Y o8 (Y o593 (L o1105) Z) (Y o849 (L (o1361 P)) Z)) (Y o465 (Y o8 (L o8) Z) (L o919)))) (Y o113 (Y o177 (Y o7 (Y o561 (L o1073) Z) (Y o817 (L o1329) Z)) (Y o433 (Y o689 (L o1201) Z) (L (o945 P)))) (Y o7 (Y o369 (Y o625 (L o7) Z) (Y o7 (L o7) Z)) (Y o7 (Y o753 (L o1265) Z) (L (o1009 P))))))) (Y o7 (Y o41 (Y o7 (Y o137 (Y o265 (Y o7 (L o1033) Z) (Y o777 (L o8) Z)) (Y o7 (Y o8 (L o1161) Z) (Y (o905 P) (L o1417) Z))) (Y o7 (Y o7 (Y o585 (L o1097) Z) (Y o7 (L o1353) Z)) (Y o457 (Y o8 (L o7) Z) (L o969)))) (Y o105 (Y o8 (Y o297 (Y o8 (L o8) Z) (Y o809 (L o1321) Z)) (Y o425 (Y o681 (L o7) Z) (L o937))) (Y o233 (Y o7 (Y o617 (L o1129) Z) (Y (o873 P) (L o1385) Z)) (Y o7 (Y o8 (L o1257) Z) (L o1001))))) (Y o57 (Y o89 (Y o153 (Y o281 (Y o537 (L o1049) Z) (Y (o793 P) (L o7) Z)) (Y o409 (Y o7 (L o8) Z) (Y o921 (L o1433) Z))) (Y o217 (Y o345 (Y o601 (L o7) Z) (Y o857 (L o1369) Z)) (Y o473 (Y o8 (L o1241v1) Z) (L o7)))) (Y o121 (Y o7 (Y o313 (Y o7 (L o1081) Z) (Y o825 (L (o1337 P)) Z)) (Y o441 (Y o7 (L o1209) Z) (L o953))) (Y o8 (Y o377 (Y o633 (L o1145) Z) (Y o889 (L o8) Z)) (Y o8 (Y o7 (L o1273) Z) (L (o1017 P)))))))) (Y o13 (Y o21 (Y (o37 P) (Y o7 (Y o133 (Y o261 (Y o517 (L o7) Z) (Y o8 (L o1285) Z)) (Y o7 (Y o645 (L o1157) Z) (Y (o901 P) (L o7) Z))) (Y (o197 P) (Y o7 (Y o8 (L o8) Z) (Y o837 (L o7) Z)) (Y o453 (Y o709 (L o7) Z) (L o965)))) (Y o7 (Y o165 (Y o7 (Y o549 (L o1061) Z) (Y o805 (L o8) Z)) (Y o7 (Y o8 (L o1189) Z) (Y o919 (L o1445) Z))) (Y o229 (Y o357 (Y o613 (L o1125) Z) (Y o869 (L o1381) Z)) (Y o485 (Y o741 (L o7) Z) (L o997))))) (Y o53 (Y o85 (Y o7 (Y o277 (Y o8 (L (o1045 P)) Z) (Y o789 (L o1301) Z)) (Y o405 (Y o661 (L o1173) Z) (Y (o917 P) (L o7) Z))) (Y o213 (Y o341 (Y o597 (L o7) Z) (Y o8 (L (o1365 P)) Z)) (Y o469 (Y o725 (L o1237) Z) (L o981)))) (Y o8 (Y o181 (Y o309 (Y o565 (L o1077) Z) (Y o821 (L o1333) Z)) (Y o437 (Y o7 (L o8) Z) (L o949))) (Y o245 (Y o8 (Y o629 (L o7) Z) (Y o7 (L o1397) Z)) (Y o501 (Y o757 (L o1269) Z) (L o1013)))))) (Y o29 (Y o45 (Y o77 (Y o141 (Y o23 (Y o7 (L o8) Z) (Y o781 (L o1293) Z)) (Y o397 (Y o653 (L o7) Z) (Y (o909 P) (L o1421) Z))) (Y o205 (Y o333 (Y o589 (L o1101) Z) (Y o7 (L o1357) Z)) (Y o461 (Y o717 (L o1229) Z) (L (o973 P))))) (Y o7 (Y o173 (Y o301 (Y o557 (L o1069) Z) (Y o8 (L o1325) Z)) (Y o8 (Y o685 (L o7) Z) (L o7))) (Y o237 (Y o7 (Y o621 (L o1133) Z) (Y o877 (L o7) Z)) (Y o493 (Y o749 (L o8) Z) (L o1005))))) (Y (o61 P) (Y o93 (Y o157 (Y o285 (Y o541 (L o7) Z) (Y o797 (L o7) Z)) (Y o413 (Y o7 (L o1181) Z) (Y o925 (L o7) Z))) (Y o221 (Y o349 (Y o605 (L o1117) Z) (Y o861 (L (o1373 P)) Z)) (Y o7 (Y o733 (L o1245) Z) (L o23)))) (Y o125 (Y o189 (Y o7 (Y o7 (L o7) Z) (Y o7 (L o1341) Z)) (Y o445 (Y o701 (L o1213) Z) (L o6))) (Y o253 (Y o381 (Y o7 (L o8) Z) (Y (o893 P) (L o1405) Z)) (Y o509 (Y o7 (L o7) Z) (L o1021))))))))) (Y (o2v2 P) (Y o4 (Y o8 (Y o8 (Y o32 (Y o64 (Y o128 (Y o23 (Y o8 (L o7) Z) (Y o7 (L o1280) Z)) (Y o384 (Y o640 (L o1152) Z) (Y o896 (L o1408) Z))) (Y o7 (Y o320 (Y o7 (L o7) Z) (Y o832 (L o1344) Z)) (Y o448 (Y o7 (L o1216) Z) (L o960)))) (Y o96 (Y o160 (Y o288 (Y o544 (L o1056) Z) (Y o800 (L o7) Z)) (Y o416 (Y o7 (L o8) Z) (Y o928 (L o1440) Z))) (Y o224 (Y o8 (Y o608 (L o7) Z) (Y o864 (L o1376) Z)) (Y o480 (Y o7 (L (o1248 P)) Z) (L o992))))) (Y o23 (Y o7 (Y (o144 P) (Y o272 (Y o7 (L o1040) Z) (Y o784 (L o8) Z)) (Y o7 (Y o8 (L o1168) Z) (Y (o912 P) (L o1424) Z))) (Y o7 (Y o7 (Y o592 (L o1104) Z) (Y o7 (L o1360) Z)) (Y o464 (Y o7 (L o7) Z) (L o976)))) (Y o7 (Y (o176 P) (Y (o304 P) (Y o8 (L o8) Z) (Y o816 (L o1328) Z)) (Y o432 (Y o688 (L o7) Z) (L o944))) (Y o240 (Y o7 (Y o624 (L o1136) Z) (Y o880 (L o1392) Z)) (Y o496 (Y o8 (L o1264) Z) (L o1008)))))) (Y (o24 P) (Y o40 (Y o72 (Y (o136 P) (Y o264 (Y o520 (L o7) Z) (Y o776 (L o7) Z)) (Y o392 (Y o7 (L o1160) Z) (Y o904 (L o1416) Z))) (Y o200 (Y o328 (Y o584 (L o1096) Z) (Y (o840 P) (L o7) Z)) (Y o456 (Y o7 (L o1224) Z) (L (o968 P))))) (Y o7 (Y o7 (Y o296 (Y o7 (L o7) Z) (Y o7 (L o1320) Z)) (Y o7 (Y o680 (L o1192) Z) (L (o936 P)))) (Y o232 (Y o360 (Y o616 (L o8) Z) (Y o23 (L o1384) Z)) (Y o488 (Y o7 (L o7) Z) (L o1000))))) (Y o56 (Y o8 (Y o152 (Y o280 (Y o536 (L o1048) Z) (Y o23 (L o1304) Z)) (Y o8 (Y o664 (L o7) Z) (Y o7 (L o1432) Z))) (Y o8 (Y o8 (Y o600 (L o1112) Z) (Y o856 (L (o1368 P)) Z)) (Y o472 (Y o7 (L (o1240 P)) Z) (L o919)))) (Y o120 (Y o184 (Y o312 (Y o568 (L o1080) Z) (Y o824 (L o23) Z)) (Y o440 (Y o696 (L o1208) Z) (L (o952 P)))) (Y o7 (Y o376 (Y o632 (L o7) Z) (Y o7 (L o7) Z)) (Y o7 (Y o760 (L o1272) Z) (L o1016))))))) (Y o12v11 (Y o20 (Y o23 (Y o68 (Y o132 (Y o260 (Y o516 (L o7) Z) (Y o7 (L o7) Z)) (Y o388 (Y o7 (L o8) Z) (Y o900 (L o1412) Z))) (Y o196 (Y o324 (Y o7 (L o7) Z) (Y o836 (L o1348) Z)) (Y o8 (Y o708 (L o1220) Z) (L o7)))) (Y o100 (Y o7 (Y (o292 P) (Y o548 (L o7) Z) (Y o804 (L o7) Z)) (Y o420 (Y o7 (L o1188) Z) (Y o932 (L o1444) Z))) (Y o8 (Y o356 (Y o8 (L o1124) Z) (Y o868 (L o1380) Z)) (Y o7 (Y o740 (L o1252) Z) (L o8))))) (Y o52 (Y o84 (Y o148 (Y o8 (Y o7 (L o1016) Z) (Y o788 (L o1300) Z)) (Y o404 (Y o660 (L o7) Z) (Y o916 (L o1428) Z))) (Y o212 (Y o340 (Y o8 (L o1108) Z) (Y o7 (L (o1364 P)) Z)) (Y o8 (Y o724 (L o1236) Z) (L (o980 P))))) (Y o7 (Y o180 (Y o308 (Y o564 (L o1076) Z) (Y o8 (L o1332v1) Z)) (Y o8 (Y o692 (L o7) Z) (L o7))) (Y o7 (Y o7 (Y o8 (L o1140) Z) (Y o884 (L o7) Z)) (Y o7 (Y o756 (L o8) Z) (L o1012)))))) (Y o28 (Y o44v1 (Y o7 (Y o140 (Y o7 (Y o524 (L o7) Z) (Y o8 (L o1292) Z)) (Y o7 (Y o652 (L o1164) Z) (Y o908 (L o1420) Z))) (Y o7 (Y o7 (Y o8 (L o8) Z) (Y o844 (L (o1356 P)) Z)) (Y o8 (Y o716 (L o7) Z) (L o972)))) (Y o108 (Y o172 (Y o300 (Y o556 (L o1068) Z) (Y o7 (L o8) Z)) (Y o7 (Y o8 (L o1196) Z) (L o919))) (Y o236 (Y o364 (Y o8 (L o1132) Z) (Y o876 (L (o1388 P)) Z)) (Y o7 (Y o748 (L o7) Z) (L o1004))))) (Y o23 (Y o92 (Y o156 (Y o284 (Y (o540 P) (L (o1052 P)) Z) (Y o796 (L o1308) Z)) (Y o412 (Y o668 (L o1180) Z) (Y (o924 P) (L o1436) Z))) (Y o220 (Y o348 (Y o8 (L o7) Z) (Y o8 (L o1372) Z)) (Y o476 (Y o732 (L o1244) Z) (L o988)))) (Y o8 (Y o188 (Y (o316 P) (Y o572 (L o1084) Z) (Y o828 (L o1340) Z)) (Y o8 (Y o7 (L o8) Z) (L o956))) (Y o252 (Y o8 (Y o636 (L o7) Z) (Y o892 (L o1404) Z)) (Y o508 (Y o764 (L o1276) Z) (L o1020)))))))) (Y o6 (Y o10 (Y o7 (Y o34 (Y o7 (Y o7 (Y o7 (Y o7 (L o1026) Z) (Y o770 (L o8) Z)) (Y o7 (Y o8 (L o1154) Z) (Y o898 (L o7) Z))) (Y o194 (Y o7 (Y o578 (L o1090) Z) (Y (o834 P) (L o1346) Z)) (Y o450 (Y o706 (L o7) Z) (L o962)))) (Y o98 (Y o23 (Y o290 (Y (o546 P) (L o8) Z) (Y o802 (L o1314) Z)) (Y o418 (Y o674 (L o7) Z) (Y o930 (L o8) Z))) (Y o226 (Y o7 (Y o610 (L o1122) Z) (Y o866 (L o1378) Z)) (Y o8 (Y o738 (L o1250) Z) (L o994))))) (Y o7 (Y o82 (Y o146 (Y o274 (Y o530 (L o1042) Z) (Y o786 (L o7) Z)) (Y o402 (Y o7 (L o8) Z) (Y (o914 P) (L o1426) Z))) (Y o210 (Y o338 (Y o594 (L o7) Z) (Y o850 (L (o1362 P)) Z)) (Y o466 (Y o722 (L o1234) Z) (L o7)))) (Y o114 (Y o178 (Y o8 (Y o7 (L o7) Z) (Y o818 (L o1330) Z)) (Y o434 (Y o7 (L o1202) Z) (L o946))) (Y o8 (Y o370 (Y o626 (L o1138) Z) (Y o882 (L o8) Z)) (Y o8 (Y o7 (L o1266) Z) (L o7)))))) (Y o8 (Y o42 (Y o8 (Y o138 (Y o266 (Y o522 (L o1034) Z) (Y o778 (L o1290) Z)) (Y o8 (Y o650 (L o7) Z) (Y o6 (L (o1418 P)) Z))) (Y o23 (Y o8 (Y o586 (L o1098) Z) (Y o842 (L o1354) Z)) (Y o458 (Y o714 (L o8) Z) (L o919)))) (Y o106 (Y o170 (Y (o298 P) (Y o554 (L o1066) Z) (Y o810 (L o1322) Z)) (Y o426 (Y o682 (L o1194) Z) (L (o938 P)))) (Y o234 (Y o362 (Y o618 (L o7) Z) (Y o7 (L o1386) Z)) (Y o8 (Y o746 (L o1258) Z) (L o7))))) (Y o58 (Y o7 (Y o7 (Y o282 (Y o538 (L o1050) Z) (Y o7 (L o1306) Z)) (Y o7 (Y o666 (L o1178) Z) (Y (o922 P) (L o7) Z))) (Y o7 (Y o7 (Y o602 (L o8) Z) (Y o858 (L (o1370 P)) Z)) (Y o7 (Y o730 (L o1242) Z) (L o986)))) (Y o122 (Y o186 (Y o314 (Y o570 (L o1082) Z) (Y o7 (L o7) Z)) (Y o442 (Y o8 (L o1210) Z) (L o919))) (Y o250 (Y o378 (Y o7 (L o1146) Z) (Y o890 (L o1402) Z)) (Y o506 (Y o762 (L o7) Z) (L o1018))))))) (Y o14 (Y o22 (Y o7 (Y o70 (Y o134 (Y o7 (Y o7 (L o8) Z) (Y o774 (L o1286) Z)) (Y o390 (Y o646 (L o7) Z) (Y o6 (L o1414) Z))) (Y o198 (Y o326 (Y o582 (L o1094) Z) (Y o805 (L o8) Z)) (Y o7 (Y o710 (L o1222) Z) (L (o966 P))))) (Y o23 (Y o166 (Y o8 (Y o550 (L o1062) Z) (Y o23 (L o1318) Z)) (Y o8 (Y o678 (L o7) Z) (L o7))) (Y o7 (Y o7 (Y o7 (L o1126) Z) (Y o870 (L (o1382 P)) Z)) (Y o486 (Y o742 (L o8) Z) (L o7))))) (Y o54 (Y o86 (Y o8 (Y o7 (Y o534 (L o1046) Z) (Y o790 (L o7) Z)) (Y o406 (Y o7 (L o1174) Z) (Y o918 (L o8) Z))) (Y o214 (Y o342 (Y o7 (L o1110) Z) (Y o854 (L o1366) Z)) (Y o7 (Y o726 (L o1238) Z) (L (o982 P))))) (Y o118 (Y o7 (Y (o310 P) (Y o7 (L o1078) Z) (Y o7 (L o1334) Z)) (Y o7 (Y o694 (L o1206) Z) (L (o950 P)))) (Y o246 (Y o374 (Y o7 (L o8) Z) (Y o8 (L o1398) Z)) (Y o502 (Y o7 (L o7) Z) (L o7)))))) (Y (o30 P) (Y o46 (Y o78 (Y o7 (Y (o270 P) (Y o8 (L o1038) Z) (Y o7 (L o1294) Z)) (Y o398 (Y o654 (L o1166) Z) (Y o910 (L o7) Z))) (Y o206 (Y o334 (Y o7 (L o7) Z) (Y o8 (L (o1358 P)) Z)) (Y o7 (Y o718 (L o1230) Z) (L o974)))) (Y o8 (Y o174 (Y o290 (Y o558 (L o1070) Z) (Y o814 (L o7) Z)) (Y o430 (Y o7 (L o8) Z) (L o942))) (Y o238 (Y o8 (Y o7 (L o7) Z) (Y o7 (L o1390) Z)) (Y o494 (Y o750 (L o1262) Z) (L o1006))))) (Y o7 (Y o94 (Y o158 (Y o286 (Y o542 (L o1054) Z) (Y o7 (L o8) Z)) (Y o7 (Y o8 (L o1182) Z) (Y o919 (L o1438) Z))) (Y o7 (Y o350 (Y o7 (L o1118) Z) (Y o7 (L o7) Z)) (Y o478 (Y o734 (L o1246) Z) (L (o990 P))))) (Y o7 (Y o23 (Y o318 (Y o8 (L o23) Z) (Y o830 (L o7) Z)) (Y o7 (Y o702 (L o7) Z) (L o958))) (Y o254 (Y o7 (Y o638 (L o1150) Z) (Y o894 (L o1406) Z)) (Y o510 (Y o8 (L o1278) Z) (L o1008))))))))))
noncomputable def s65 (w : World) (x : Obj) (os : OsState) : SharedT := ⟨t65 w.params x, 1446, lf, #[], dr, 2091, os⟩

end
end Mine
namespace Mine
section
open PySem PySem.W PyProof.Rows
set_option maxHeartbeats 0
noncomputable def sts0 : List Stmt := (top.drop 0).take 9
theorem g0 : ∀ (w : World) (os : OsState), Fast.tw10110043849684766642 Fast.tw14364793385576792824 pw w 11 (some (.ref 6)) 1 1345 (s0 w os) (piecesOf sts0 env cE ⟨0, 0, 0, 0⟩ [topFrame ⟨0, 0, 0, 0⟩]) = some (.next, s9 w os, cE, ⟨26, 0, 40, 96⟩) := by
  intros; kernel_rfl
noncomputable def sts9 : List Stmt := (top.drop 9).take 10
theorem g9 : ∀ (w : World) (os : OsState), Fast.tw10110043849684766642 Fast.tw14364793385576792824 pw w 11 (some (.ref 6)) 1 1306 (s9 w os) (piecesOf sts9 env cE ⟨26, 0, 40, 96⟩ [topFrame ⟨0, 0, 0, 0⟩]) = some (.next, s19 w os, cE, ⟨129, 0, 130, 21⟩) := by
  intros; kernel_rfl
noncomputable def sts19 : List Stmt := (top.drop 19).take 3
theorem g19 : ∀ (w : World) (os : OsState), Fast.tw10110043849684766642 Fast.tw14364793385576792824 pw w 11 (some (.ref 6)) 1 686 (s19 w os) (piecesOf sts19 env cE ⟨129, 0, 130, 21⟩ [topFrame ⟨0, 0, 0, 0⟩]) = some (.next, s22 w os, cE, ⟨140, 0, 141, 21⟩) := by
  intros; kernel_rfl
noncomputable def sts22 : List Stmt := (top.drop 22).take 1
theorem g22 : ∀ (w : World) (os : OsState), Fast.tw10110043849684766642 Fast.tw14364793385576792824 pw w 11 (some (.ref 6)) 1 1278 (s22 w os) (piecesOf sts22 env cE ⟨140, 0, 141, 21⟩ [topFrame ⟨0, 0, 0, 0⟩]) = some (.next, s23 w os, cE, ⟨142, 0, 311, 17⟩) := by
  intros; kernel_rfl
noncomputable def sts23 : List Stmt := (top.drop 23).take 1
theorem g23 : ∀ (w : World) (os : OsState), Fast.tw10110043849684766642 Fast.tw14364793385576792824 pw w 11 (some (.ref 6)) 1 1578 (s23 w os) (piecesOf sts23 env cE ⟨142, 0, 311, 17⟩ [topFrame ⟨0, 0, 0, 0⟩]) = some (.next, s24 w os, cE, ⟨312, 0, 516, 17⟩) := by
  intros; kernel_rfl
noncomputable def sts24 : List Stmt := (top.drop 24).take 5
theorem g24 : ∀ (w : World) (os : OsState), Fast.tw10110043849684766642 Fast.tw14364793385576792824 pw w 11 (some (.ref 6)) 1 1086 (s24 w os) (piecesOf sts24 env cE ⟨312, 0, 516, 17⟩ [topFrame ⟨0, 0, 0, 0⟩]) = some (.next, s29 w os, cE, ⟨542, 0, 554, 18⟩) := by
  intros; kernel_rfl
noncomputable def sts29 : List Stmt := (top.drop 29).take 6
theorem g29 : ∀ (w : World) (os : OsState), Fast.tw10110043849684766642 Fast.tw14364793385576792824 pw w 11 (some (.ref 6)) 1 561 (s29 w os) (piecesOf sts29 env cE ⟨542, 0, 554, 18⟩ [topFrame ⟨0, 0, 0, 0⟩]) = some (.next, s35 w os, cE, ⟨560, 0, 560, 16⟩) := by
  intros; kernel_rfl
noncomputable def sts35 : List Stmt := (top.drop 35).take 5
theorem g35f : ∀ (w : World) (os : OsState), Fast.tw10110043849684766642 Fast.tw14364793385576792824 pw (w.withFollow "special-get-raises" false) 11 (some (.ref 6)) 1 1521 (s35 (w.withFollow "special-get-raises" false) os) (piecesOf sts35 env cE ⟨560, 0, 560, 16⟩ [topFrame ⟨0, 0, 0, 0⟩]) = some (.next, s40 (w.withFollow "special-get-raises" false) os, cE, ⟨565, 0, 565, 11⟩) := by
  intros; kernel_rfl
theorem g35t : ∀ (w : World) (os : OsState), Fast.tw10110043849684766642 Fast.tw14364793385576792824 pw (w.withFollow "special-get-raises" true) 11 (some (.ref 6)) 1 1521 (s35 (w.withFollow "special-get-raises" true) os) (piecesOf sts35 env cE ⟨560, 0, 560, 16⟩ [topFrame ⟨0, 0, 0, 0⟩]) = some (.next, s40 (w.withFollow "special-get-raises" true) os, cE, ⟨565, 0, 565, 11⟩) := by
  intros; kernel_rfl
theorem g35 (w : World) (os : OsState) : Fast.tw10110043849684766642 Fast.tw14364793385576792824 pw w 11 (some (.ref 6)) 1 1521 (s35 w os) (piecesOf sts35 env cE ⟨560, 0, 560, 16⟩ [topFrame ⟨0, 0, 0, 0⟩]) = some (.next, s40 w os, cE, ⟨565, 0, 565, 11⟩) :=
  byRow2 "special-get-raises" (P := fun w => Fast.tw10110043849684766642 Fast.tw14364793385576792824 pw w 11 (some (.ref 6)) 1 1521 (s35 w os) (piecesOf sts35 env cE ⟨560, 0, 560, 16⟩ [topFrame ⟨0, 0, 0, 0⟩]) = some (.next, s40 w os, cE, ⟨565, 0, 565, 11⟩)) (fun w => g35f w os) (fun w => g35t w os) w
noncomputable def sts40 : List Stmt := (top.drop 40).take 6
theorem g40f : ∀ (w : World) (os : OsState), Fast.tw10110043849684766642 Fast.tw14364793385576792824 pw (w.withFollow "special-get-raises" false) 11 (some (.ref 6)) 1 1576 (s40 (w.withFollow "special-get-raises" false) os) (piecesOf sts40 env cE ⟨565, 0, 565, 11⟩ [topFrame ⟨0, 0, 0, 0⟩]) = some (.next, s46 (w.withFollow "special-get-raises" false) os, cE, ⟨571, 0, 571, 10⟩) := by
  intros; kernel_rfl
theorem g40t : ∀ (w : World) (os : OsState), Fast.tw10110043849684766642 Fast.tw14364793385576792824 pw (w.withFollow "special-get-raises" true) 11 (some (.ref 6)) 1 1576 (s40 (w.withFollow "special-get-raises" true) os) (piecesOf sts40 env cE ⟨565, 0, 565, 11⟩ [topFrame ⟨0, 0, 0, 0⟩]) = some (.next, s46 (w.withFollow "special-get-raises" true) os, cE, ⟨571, 0, 571, 10⟩) := by
  intros; kernel_rfl
theorem g40 (w : World) (os : OsState) : Fast.tw10110043849684766642 Fast.tw14364793385576792824 pw w 11 (some (.ref 6)) 1 1576 (s40 w os) (piecesOf sts40 env cE ⟨565, 0, 565, 11⟩ [topFrame ⟨0, 0, 0, 0⟩]) = some (.next, s46 w os, cE, ⟨571, 0, 571, 10⟩) :=
  byRow2 "special-get-raises" (P := fun w => Fast.tw10110043849684766642 Fast.tw14364793385576792824 pw w 11 (some (.ref 6)) 1 1576 (s40 w os) (piecesOf sts40 env cE ⟨565, 0, 565, 11⟩ [topFrame ⟨0, 0, 0, 0⟩]) = some (.next, s46 w os, cE, ⟨571, 0, 571, 10⟩)) (fun w => g40f w os) (fun w => g40t w os) w
noncomputable def sts47 : List Stmt := (top.drop 47).take 8
theorem g47 : ∀ (w : World) (x : Obj) (os : OsState), Fast.tw10110043849684766642 Fast.tw14364793385576792824 pw w 11 (some (.ref 6)) 1 1251 (s47 w x os) (piecesOf sts47 env cE ⟨572, 0, 572, 10⟩ [topFrame ⟨0, 0, 0, 0⟩]) = some (.next, s55 w x os, cE, ⟨609, 0, 609, 8⟩) := by
  intros; kernel_rfl
noncomputable def sts55 : List Stmt := (top.drop 55).take 1
theorem g55 : ∀ (w : World) (x : Obj) (os : OsState), Fast.tw10110043849684766642 Fast.tw14364793385576792824 pw w 11 (some (.ref 6)) 1 918 (s55 w x os) (piecesOf sts55 env cE ⟨609, 0, 609, 8⟩ [topFrame ⟨0, 0, 0, 0⟩]) = some (.next, s56 w x os, cE, ⟨610, 0, 854, 17⟩) := by
  intros; kernel_rfl
noncomputable def sts56 : List Stmt := (top.drop 56).take 2
theorem g56 : ∀ (w : World) (x : Obj) (os : OsState), Fast.tw10110043849684766642 Fast.tw14364793385576792824 pw w 11 (some (.ref 6)) 1 578 (s56 w x os) (piecesOf sts56 env cE ⟨610, 0, 854, 17⟩ [topFrame ⟨0, 0, 0, 0⟩]) = some (.next, s58 w x os, cE, ⟨896, 0, 896, 8⟩) := by
  intros; kernel_rfl
noncomputable def sts58 : List Stmt := (top.drop 58).take 1
theorem g58 : ∀ (w : World) (x : Obj) (os : OsState), Fast.tw10110043849684766642 Fast.tw14364793385576792824 pw w 11 (some (.ref 6)) 1 1022 (s58 w x os) (piecesOf sts58 env cE ⟨896, 0, 896, 8⟩ [topFrame ⟨0, 0, 0, 0⟩]) = some (.next, s59 w x os, cE, ⟨897, 0, 914, 17⟩) := by
  intros; kernel_rfl
noncomputable def sts59 : List Stmt := (top.drop 59).take 6
theorem g59 : ∀ (w : World) (x : Obj) (os : OsState), Fast.tw10110043849684766642 Fast.tw14364793385576792824 pw w 11 (some (.ref 6)) 1 577 (s59 w x os) (piecesOf sts59 env cE ⟨897, 0, 914, 17⟩ [topFrame ⟨0, 0, 0, 0⟩]) = some (.next, s65 w x os, cE, ⟨947, 0, 995, 15⟩) := by
  intros; kernel_rfl
end
end Mine
namespace Mine
section
open PySem PySem.W PyProof.Rows
noncomputable abbrev kAs : List Addr := [2, 3, 4, 5, 29, 30, 31, 32, 42, 43, 44, 54, 55, 56, 187, 188, 196, 197, 198, 213, 214, 220, 221, 225, 226, 232, 233, 234, 235, 236, 237, 238, 246, 247, 253, 254, 280, 281, 282, 283, 284, 285, 286, 287, 297, 298, 299, 309, 310, 311, 321, 327, 328, 334, 335, 341, 342, 350, 356, 357, 363, 364, 370, 371, 377, 378, 384, 385, 391, 392, 398, 399, 405, 406, 412, 413, 419, 420, 426, 427, 433, 434, 440, 441, 442, 448, 449, 450, 456, 457, 458, 464, 465, 466, 472, 473, 479, 480, 486, 487, 488, 494, 495, 496, 502, 503, 509, 510, 516, 517, 523, 524, 530, 531, 537, 538, 539, 540, 541, 551, 557, 558, 564, 565, 571, 572, 578, 579, 585, 586, 594, 602, 610, 618, 626, 632, 633, 639, 640, 646, 647, 653, 654, 660, 661, 667, 668, 674, 675, 681, 682, 688, 689, 695, 696, 702, 703, 709, 710, 711, 717, 718, 719, 725, 726, 727, 733, 734, 735, 741, 742, 743, 749, 750, 756, 757, 763, 764, 770, 771, 777, 778, 784, 785, 786, 787, 788, 1097, 1098, 1104, 1105, 1111, 1112, 1118, 1119, 1125, 1126, 1132, 1133, 1139, 1140, 1146, 1147, 1153, 1154, 1160, 1161, 1167, 1168, 1174, 1175, 1181, 1182, 1188, 1189, 1195, 1196, 1202, 1203, 1209, 1210, 1216, 1217, 1223, 1224, 1230, 1231, 1237, 1238, 1239, 1240, 1241, 1242, 1243, 1258, 1259, 1265, 1266, 1272, 1273, 1279, 1280, 1286, 1287, 1293, 1294, 1300, 1301, 1307, 1308, 1314, 1315, 1321, 1322, 1328, 1329, 1330, 1331, 1332, 1347, 1348, 1354, 1355, 1357, 1360, 1363, 1366, 1369, 1372, 1379, 1380, 1381, 1382, 1383, 1398, 1399, 1405, 1406, 1408, 1415, 1416, 1417, 1418, 1419, 1427, 1428, 1432, 1433, 1439, 1440, 1444, 1445]
noncomputable def KK (P : Params) : Frag := (nat_lit 2, o2v2 P) :: (nat_lit 3, o3v15 P) :: (nat_lit 4, o4) :: (nat_lit 5, o5) :: (nat_lit 29, o29) :: (nat_lit 30, o30 P) :: (nat_lit 31, o31) :: (nat_lit 32, o32) :: (nat_lit 42, o42) :: (nat_lit 43, o43 P) :: (nat_lit 44, o44v1) :: (nat_lit 54, o54) :: (nat_lit 55, o55 P) :: (nat_lit 56, o56) :: (nat_lit 187, o187) :: (nat_lit 188, o188) :: (nat_lit 196, o196) :: (nat_lit 197, o197 P) :: (nat_lit 198, o198) :: (nat_lit 213, o213) :: (nat_lit 214, o214) :: (nat_lit 220, o220) :: (nat_lit 221, o221) :: (nat_lit 225, o225) :: (nat_lit 226, o226) :: (nat_lit 232, o232) :: (nat_lit 233, o233) :: (nat_lit 234, o234) :: (nat_lit 235, o235 P) :: (nat_lit 236, o236) :: (nat_lit 237, o237) :: (nat_lit 238, o238) :: (nat_lit 246, o246) :: (nat_lit 247, o247) :: (nat_lit 253, o253) :: (nat_lit 254, o254) :: (nat_lit 280, o280) :: (nat_lit 281, o281) :: (nat_lit 282, o282) :: (nat_lit 283, o283 P) :: (nat_lit 284, o284) :: (nat_lit 285, o285) :: (nat_lit 286, o286) :: (nat_lit 287, o287) :: (nat_lit 297, o297) :: (nat_lit 298, o298 P) :: (nat_lit 299, o299v1) :: (nat_lit 309, o309) :: (nat_lit 310, o310 P) :: (nat_lit 311, o311v1) :: (nat_lit 321, o321) :: (nat_lit 327, o327) :: (nat_lit 328, o328) :: (nat_lit 334, o334) :: (nat_lit 335, o335) :: (nat_lit 341, o341) :: (nat_lit 342, o342) :: (nat_lit 350, o350) :: (nat_lit 356, o356) :: (nat_lit 357, o357) :: (nat_lit 363, o363) :: (nat_lit 364, o364) :: (nat_lit 370, o370) :: (nat_lit 371, o371) :: (nat_lit 377, o377) :: (nat_lit 378, o378) :: (nat_lit 384, o384) :: (nat_lit 385, o385) :: (nat_lit 391, o391) :: (nat_lit 392, o392) :: (nat_lit 398, o398) :: (nat_lit 399, o399) :: (nat_lit 405, o405) :: (nat_lit 406, o406) :: (nat_lit 412, o412) :: (nat_lit 413, o413) :: (nat_lit 419, o419) :: (nat_lit 420, o420) :: (nat_lit 426, o426) :: (nat_lit 427, o427) :: (nat_lit 433, o433) :: (nat_lit 434, o434) :: (nat_lit 440, o440) :: (nat_lit 441, o441) :: (nat_lit 442, o442) :: (nat_lit 448, o448) :: (nat_lit 449, o449) :: (nat_lit 450, o450) :: (nat_lit 456, o456) :: (nat_lit 457, o457) :: (nat_lit 458, o458) :: (nat_lit 464, o464) :: (nat_lit 465, o465) :: (nat_lit 466, o466) :: (nat_lit 472, o472) :: (nat_lit 473, o473) :: (nat_lit 479, o479) :: (nat_lit 480, o480) :: (nat_lit 486, o486) :: (nat_lit 487, o487) :: (nat_lit 488, o488) :: (nat_lit 494, o494) :: (nat_lit 495, o495) :: (nat_lit 496, o496) :: (nat_lit 502, o502) :: (nat_lit 503, o503) :: (nat_lit 509, o509) :: (nat_lit 510, o510) :: (nat_lit 516, o516) :: (nat_lit 517, o517) :: (nat_lit 523, o523) :: (nat_lit 524, o524) :: (nat_lit 530, o530) :: (nat_lit 531, o531) :: (nat_lit 537, o537) :: (nat_lit 538, o538) :: (nat_lit 539, o539) :: (nat_lit 540, o540 P) :: (nat_lit 541, o541) :: (nat_lit 551, o551) :: (nat_lit 557, o557) :: (nat_lit 558, o558) :: (nat_lit 564, o564) :: (nat_lit 565, o565) :: (nat_lit 571, o571) :: (nat_lit 572, o572) :: (nat_lit 578, o578) :: (nat_lit 579, o579) :: (nat_lit 585, o585) :: (nat_lit 586, o586) :: (nat_lit 594, o594) :: (nat_lit 602, o602) :: (nat_lit 610, o610) :: (nat_lit 618, o618) :: (nat_lit 626, o626) :: (nat_lit 632, o632) :: (nat_lit 633, o633) :: (nat_lit 639, o639) :: (nat_lit 640, o640) :: (nat_lit 646, o646) :: (nat_lit 647, o647) :: (nat_lit 653, o653) :: (nat_lit 654, o654) :: (nat_lit 660, o660) :: (nat_lit 661, o661) :: (nat_lit 667, o667) :: (nat_lit 668, o668) :: (nat_lit 674, o674) :: (nat_lit 675, o675) :: (nat_lit 681, o681) :: (nat_lit 682, o682) :: (nat_lit 688, o688) :: (nat_lit 689, o689) :: (nat_lit 695, o695) :: (nat_lit 696, o696) :: (nat_lit 702, o702) :: (nat_lit 703, o703) :: (nat_lit 709, o709) :: (nat_lit 710, o710) :: (nat_lit 711, o711) :: (nat_lit 717, o717) :: (nat_lit 718, o718) :: (nat_lit 719, o719) :: (nat_lit 725, o725) :: (nat_lit 726, o726) :: (nat_lit 727, o727) :: (nat_lit 733, o733) :: (nat_lit 734, o734) :: (nat_lit 735, o735) :: (nat_lit 741, o741) :: (nat_lit 742, o742) :: (nat_lit 743, o743) :: (nat_lit 749, o749) :: (nat_lit 750, o750) :: (nat_lit 756, o756) :: (nat_lit 757, o757) :: (nat_lit 763, o763) :: (nat_lit 764, o764) :: (nat_lit 770, o770) :: (nat_lit 771, o771) :: (nat_lit 777, o777) :: (nat_lit 778, o778) :: (nat_lit 784, o784) :: (nat_lit 785, o785) :: (nat_lit 786, o786) :: (nat_lit 787, o787 P) :: (nat_lit 788, o788) :: (nat_lit 1097, o1097) :: (nat_lit 1098, o1098) :: (nat_lit 1104, o1104) :: (nat_lit 1105, o1105) :: (nat_lit 1111, o1111) :: (nat_lit 1112, o1112) :: (nat_lit 1118, o1118) :: (nat_lit 1119, o1119) :: (nat_lit 1125, o1125) :: (nat_lit 1126, o1126) :: (nat_lit 1132, o1132) :: (nat_lit 1133, o1133) :: (nat_lit 1139, o1139) :: (nat_lit 1140, o1140) :: (nat_lit 1146, o1146) :: (nat_lit 1147, o1147) :: (nat_lit 1153, o1153) :: (nat_lit 1154, o1154) :: (nat_lit 1160, o1160) :: (nat_lit 1161, o1161) :: (nat_lit 1167, o1167) :: (nat_lit 1168, o1168) :: (nat_lit 1174, o1174) :: (nat_lit 1175, o1175) :: (nat_lit 1181, o1181) :: (nat_lit 1182, o1182) :: (nat_lit 1188, o1188) :: (nat_lit 1189, o1189) :: (nat_lit 1195, o1195) :: (nat_lit 1196, o1196) :: (nat_lit 1202, o1202) :: (nat_lit 1203, o1203) :: (nat_lit 1209, o1209) :: (nat_lit 1210, o1210) :: (nat_lit 1216, o1216) :: (nat_lit 1217, o1217) :: (nat_lit 1223, o1223) :: (nat_lit 1224, o1224) :: (nat_lit 1230, o1230) :: (nat_lit 1231, o1231) :: (nat_lit 1237, o1237) :: (nat_lit 1238, o1238) :: (nat_lit 1239, o1239) :: (nat_lit 1240, o1240 P) :: (nat_lit 1241, o1241v1) :: (nat_lit 1242, o1242) :: (nat_lit 1243, o1243) :: (nat_lit 1258, o1258) :: (nat_lit 1259, o1259) :: (nat_lit 1265, o1265) :: (nat_lit 1266, o1266) :: (nat_lit 1272, o1272) :: (nat_lit 1273, o1273) :: (nat_lit 1279, o1279) :: (nat_lit 1280, o1280) :: (nat_lit 1286, o1286) :: (nat_lit 1287, o1287) :: (nat_lit 1293, o1293) :: (nat_lit 1294, o1294) :: (nat_lit 1300, o1300) :: (nat_lit 1301, o1301) :: (nat_lit 1307, o1307) :: (nat_lit 1308, o1308) :: (nat_lit 1314, o1314) :: (nat_lit 1315, o1315) :: (nat_lit 1321, o1321) :: (nat_lit 1322, o1322) :: (nat_lit 1328, o1328) :: (nat_lit 1329, o1329) :: (nat_lit 1330, o1330) :: (nat_lit 1331, o1331 P) :: (nat_lit 1332, o1332v1) :: (nat_lit 1347, o1347) :: (nat_lit 1348, o1348) :: (nat_lit 1354, o1354) :: (nat_lit 1355, o1355) :: (nat_lit 1357, o1357) :: (nat_lit 1360, o1360) :: (nat_lit 1363, o1363) :: (nat_lit 1366, o1366) :: (nat_lit 1369, o1369) :: (nat_lit 1372, o1372) :: (nat_lit 1379, o1379) :: (nat_lit 1380, o1380) :: (nat_lit 1381, o1381) :: (nat_lit 1382, o1382 P) :: (nat_lit 1383, o1383v1) :: (nat_lit 1398, o1398) :: (nat_lit 1399, o1399) :: (nat_lit 1405, o1405) :: (nat_lit 1406, o1406) :: (nat_lit 1408, o1408) :: (nat_lit 1415, o1415) :: (nat_lit 1416, o1416) :: (nat_lit 1417, o1417) :: (nat_lit 1418, o1418 P) :: (nat_lit 1419, o1419) :: (nat_lit 1427, o1427) :: (nat_lit 1428, o1428) :: (nat_lit 1432, o1432) :: (nat_lit 1433, o1433) :: (nat_lit 1439, o1439) :: (nat_lit 1440, o1440) :: (nat_lit 1444, o1444) :: (nat_lit 1445, o1445) :: []
theorem kk_as (P : Params) : kAs = (KK P).map (·.1) := by kernel_rfl
theorem fill : (KK = KK) ∧ PySem.Challenge.rw_lb0019_04 = PySem.Challenge.rw_lb0019_04 := by
  k_fill
  exact ⟨rfl, rfl⟩
end
end Mine
namespace Mine
section
open PySem PySem.W PyProof.Rows
set_option maxHeartbeats 0
abbrev annV : Option Value := some (.ref 6)
abbrev BB : List Frame := [topFrame ⟨0, 0, 0, 0⟩]
abbrev tRun (w : World) := topRun treeTable pw w 11 annV
/-- a tree of the top's frame comes to a value, whatever stands behind it -/
noncomputable def Ev {α : Type} (w : World) (x : Sem α) (s : Shared) (p : Pos) (a : α) (s' : Shared) (p' : Pos) : Prop :=
  ∀ (K : α → Sem Fin) (H : Value → Sem Fin) (gd : Bool → Bool) (lv : List Value → List Value), ∃ n, ∀ N r, tRun w N s' ⟨K a, cE, p', BB⟩ = some r → tRun w (n + N) s ⟨x.wrap K H gd lv, cE, p, BB⟩ = some r
section
variable {w : World} {α β : Type} {s s₁ s₂ : Shared} {p p₁ p₂ : Pos}
theorem Ev.pure {a : α} : Ev w (Pure.pure a : Sem α) s p a s p := fun K H gd lv => ⟨0, fun N r h => by rw [Nat.zero_add]; exact h⟩
theorem Ev.bind {x : Sem α} {f : α → Sem β} {a : α} {b : β} (h : Ev w x s p a s₁ p₁) (k : Ev w (f a) s₁ p₁ b s₂ p₂) : Ev w (x >>= f) s p b s₂ p₂ := fun K H gd lv => by
  obtain ⟨m, hm⟩ := k K H gd lv
  obtain ⟨n, hn⟩ := h (fun a => (f a).wrap K H gd lv) H gd lv
  refine ⟨n + m, fun N r hr => ?_⟩
  rw [Nat.add_assoc, Sem.bind_eq_wrap', Sem.wrap_wrap]
  exact hn _ _ (hm _ _ hr)
theorem Ev.map {x : Sem α} {f : α → β} {a : α} (h : Ev w x s p a s₁ p₁) : Ev w (f <$> x) s p (f a) s₁ p₁ := Ev.bind (f := fun a => Pure.pure (f a)) h .pure
theorem Ev.keep {x : Sem α} {vs : List Value} {a : α} (h : Ev w x s p a s₁ p₁) : Ev w (holding vs x) s p a s₁ p₁ := fun K H gd lv => by
  rw [holding_eq_keep, Sem.keep_eq_wrap, Sem.wrap_wrap]
  exact h _ _ _ _
theorem Ev.one {x : Sem α} {y : Sem α} {a : α} (h : ∀ (K : α → Sem Fin) H gd lv, topGo treeTable pw w 11 annV 1 s ⟨x.wrap K H gd lv, cE, p, BB⟩ = some (s₁, ⟨y.wrap K H gd lv, cE, p₁, BB⟩)) (k : Ev w y s₁ p₁ a s₂ p₂) : Ev w x s p a s₂ p₂ := fun K H gd lv => by
  obtain ⟨m, hm⟩ := k K H gd lv
  refine ⟨1 + m, fun N r hr => ?_⟩
  rw [Nat.add_assoc]
  exact go_top (h K H gd lv) (hm N r hr)
theorem Ev.rule {t : String} : Ev w (rule t) s p () s p := Ev.one (y := Pure.pure ()) (fun _ _ _ _ => rfl) .pure
theorem Ev.stand {q : Pos} : Ev w (standAt q) s p () s q := Ev.one (y := Pure.pure ()) (fun _ _ _ _ => rfl) .pure
theorem Ev.point : Ev w point s p () s p := Ev.one (y := Pure.pure ()) (fun _ _ _ _ => rfl) .pure
theorem Ev.fresh : Ev w fresh s p s.toks { s with toks := s.toks + 1 } p := Ev.one (y := Pure.pure s.toks) (fun _ _ _ _ => rfl) .pure
theorem Ev.loadPart {a : Addr} {q : Option Value} {o : Obj} (h : s.heap.get? a = some o) : Ev w (loadPart a q) s p o s p := Ev.one (y := Pure.pure o) (fun K H gd lv => by
  show (match step (denote treeTable) pw w s ⟨.load a q _, cE, p, BB⟩ with | .go s' t' => some (s', t') | .halt _ _ => none) = _
  obtain ⟨hh, g, d, t, os⟩ := s
  simp only [step]
  rw [show hh.get? a = some o from h]
  rfl) .pure
theorem Ev.run {x : Sem α} {S S' : SharedT} {a : α} (res : α → Flow) (inj : ∀ b, res b = res a → b = a) (n : Nat)
    (h : ∀ gd lv, Fast.tw10110043849684766642 Fast.tw14364793385576792824 pw w 11 annV 1 n S ⟨x.wrap (fun a => .pure (.done (res a))) deadEnd gd lv, cE, p, BB⟩ = some (res a, S', cE, p₁)) : Ev w x S.abs p a S'.abs p₁ := fun K H gd lv => by
  have hs := h gd lv
  rw [← Fast.te10110043849684766642, ← Fast.te14364793385576792824] at hs
  obtain ⟨b, hb, k⟩ := seg_top (B := BB) (res := res) (K' := K) (H' := H) (gd := gd) (lv := lv) rfl n S.abs ⟨x.wrap (fun a => .pure (.done (res a))) deadEnd gd lv, cE, p, BB⟩ ⟨x.wrap K H gd lv, cE, p, BB⟩ _ _ _ _ ⟨rfl, rfl, .inl ⟨rfl, rfl, x, rfl, rfl⟩⟩ (segRun_of hs)
  exact ⟨n, fun N r hr => k N r (by rw [inj b hb]; exact hr)⟩
end
end
end Mine
namespace Mine
section
open PySem PySem.W PyProof.Rows
set_option maxHeartbeats 0
abbrev row1 : String := "special-get-raises"
noncomputable def by1 (c : UInt8) (t : Tok) : Value := .bytes #[c] t
noncomputable def noHash (v : Value) : Sem Value := do rule "hash.unhashable"; raiseError "TypeError" s!"unhashable type: '{← typeNameOf v}'"
noncomputable def opt1 : Option Value → Flow
  | none => .next
  | some v => .ret v
noncomputable def gS (T : BT) (n toks : Nat) (os : OsState) : SharedT := ⟨T, n, lf, #[], dr, toks, os⟩
theorem hash_f (w : World) (T : BT) (n toks : Nat) (os : OsState) (c : UInt8) (t : Tok) (p : Pos) : ∀ gd lv, Fast.tw10110043849684766642 Fast.tw14364793385576792824 pw (w.withFollow row1 false) 11 annV 1 200 (gS T n toks os) ⟨(callSpecialIfBoundUnlessNone? (by1 c t) "__hash__" (noHash (by1 c t))).wrap (fun a => .pure (.done (opt1 a))) deadEnd gd lv, cE, p, BB⟩ = some (opt1 (some (.int (PyData.keyHash w.params ⟨#[c.toNat]⟩) toks)), gS T n (toks + 1) os, cE, p) := by
  intros; kernel_rfl
theorem hash_t (w : World) (T : BT) (n toks : Nat) (os : OsState) (c : UInt8) (t : Tok) (p : Pos) : ∀ gd lv, Fast.tw10110043849684766642 Fast.tw14364793385576792824 pw (w.withFollow row1 true) 11 annV 1 200 (gS T n toks os) ⟨(callSpecialIfBoundUnlessNone? (by1 c t) "__hash__" (noHash (by1 c t))).wrap (fun a => .pure (.done (opt1 a))) deadEnd gd lv, cE, p, BB⟩ = some (opt1 (some (.int (PyData.keyHash w.params ⟨#[c.toNat]⟩) toks)), gS T n (toks + 1) os, cE, p) := by
  intros; kernel_rfl
theorem eq_f (w : World) (T : BT) (n toks : Nat) (os : OsState) (t t' : Tok) (p : Pos) : ∀ gd lv, Fast.tw10110043849684766642 Fast.tw14364793385576792824 pw (w.withFollow row1 false) 11 annV 1 200 (gS T n toks os) ⟨(eqBool (by1 98 t) (by1 116 t')).wrap (fun a => .pure (.done (.ret (.bool a)))) deadEnd gd lv, cE, p, BB⟩ = some (.ret (.bool false), gS T n toks os, cE, p) := by
  intros; kernel_rfl
end
end Mine
namespace Mine
section
open PySem PySem.W PyProof.Rows
set_option maxHeartbeats 0
theorem kh_range (P : Params) (x : PySem.Str) : -(2 ^ 63 : Int) ≤ PyData.keyHash P x ∧ PyData.keyHash P x < 2 ^ 63 ∧ PyData.keyHash P x ≠ -1 := by
  unfold PyData.keyHash
  split
  · decide
  · generalize P.strHash x.cps = i
    unfold reduceHash
    dsimp only
    by_cases h1 : -(2 ^ 63 : Int) ≤ i ∧ i < 2 ^ 63
    · have h1' : (decide (-(2 ^ 63 : Int) ≤ i) && decide (i < 2 ^ 63)) = true := by simp only [Bool.and_eq_true, decide_eq_true_eq]; exact h1
      rw [if_pos h1']
      by_cases h2 : i = -1
      · subst h2; decide
      · rw [if_neg (by simpa using h2)]; exact ⟨h1.1, h1.2, h2⟩
    · have h1' : ¬ (decide (-(2 ^ 63 : Int) ≤ i) && decide (i < 2 ^ 63)) = true := by simp only [Bool.and_eq_true, decide_eq_true_eq]; exact h1
      rw [if_neg h1']
      have hm0 : 0 ≤ (i.natAbs : Int) % (2 ^ 61 - 1) := Int.emod_nonneg _ (by decide)
      have hm1 : (i.natAbs : Int) % (2 ^ 61 - 1) < 2 ^ 61 - 1 := Int.emod_lt_of_pos _ (by decide)
      generalize (i.natAbs : Int) % (2 ^ 61 - 1) = m at hm0 hm1
      by_cases h3 : i < 0
      · rw [if_pos h3]
        by_cases h4 : -m = -1
        · rw [if_pos (by simpa using h4)]; decide
        · rw [if_neg (by simpa using h4)]; (first | lia | omega)
      · rw [if_neg h3]
        by_cases h4 : m = -1
        · rw [if_pos (by simpa using h4)]; decide
        · rw [if_neg (by simpa using h4)]; (first | lia | omega)
theorem opt1_inj (v : Value) : ∀ b, opt1 b = opt1 (some v) → b = some v
  | none, h => by cases h
  | some u, h => by cases h; rfl
theorem ev_call (w : World) (T : BT) (n toks : Nat) (os : OsState) (c : UInt8) (t : Tok) (p : Pos) :
    Ev w (callSpecialIfBoundUnlessNone? (by1 c t) "__hash__" (noHash (by1 c t))) (gS T n toks os).abs p (some (.int (PyData.keyHash w.params ⟨#[c.toNat]⟩) toks)) (gS T n (toks + 1) os).abs p :=
  byRow2 row1 (P := fun w => Ev w (callSpecialIfBoundUnlessNone? (by1 c t) "__hash__" (noHash (by1 c t))) (gS T n toks os).abs p (some (.int (PyData.keyHash w.params ⟨#[c.toNat]⟩) toks)) (gS T n (toks + 1) os).abs p)
    (fun w => Ev.run opt1 (opt1_inj _) 200 (hash_f w T n toks os c t p)) (fun w => Ev.run opt1 (opt1_inj _) 200 (hash_t w T n toks os c t p)) w
theorem spec_hash (c : UInt8) (t : Tok) : specialOf (by1 c t) "__hash__" = pure (some (.builtin "bytes.__hash__")) := by
  show typeLookup (.type "bytes") "__hash__" = _
  rw [typeLookup_type, builtinLookup_eq_fast]
  kernel_rfl
theorem ev_eq {w : World} {α : Type} {x : Sem α} {a : α} {s : Shared} {p : Pos} (h : x = pure a) : Ev w x s p a s p := h ▸ Ev.pure
theorem ev_hash (w : World) (T : BT) (n toks : Nat) (os : OsState) (c : UInt8) (t : Tok) (p : Pos) :
    Ev w (pyHash (by1 c t)) (gS T n toks os).abs p (PyData.keyHash w.params ⟨#[c.toNat]⟩) (gS T n (toks + 1) os).abs p := by
  show Ev w (pyHashByItsType (by1 c t)) _ _ _ _ _
  unfold pyHashByItsType
  refine Ev.bind (ev_eq (a := ()) rfl) ?_
  refine Ev.bind (ev_eq (spec_hash c t)) ?_
  refine Ev.bind (ev_eq (spec_hash c t)) ?_
  refine Ev.bind (ev_call w T n toks os c t p) ?_
  obtain ⟨h1, h2, h3⟩ := kh_range w.params ⟨#[c.toNat]⟩
  show Ev w (pyHashByItsType.reduced _) _ _ _ _ _
  generalize PyData.keyHash w.params ⟨#[c.toNat]⟩ = i at *
  refine ev_eq ?_
  unfold pyHashByItsType.reduced
  have hc : (decide (-(2 ^ 63 : Int) ≤ i) && decide (i < 2 ^ 63)) = true := by simp only [Bool.and_eq_true, decide_eq_true_eq]; exact ⟨h1, h2⟩
  rw [if_pos hc, if_neg (by simpa using h3)]

theorem ev_walk {w : World} {s : Shared} {p : Pos} {es : List DictEntry} {k : Nat} (key : Value) (h : Int) (ho : s.heap.get? 987 = some ⟨.type "dict", none, .dict es.toArray k, #[]⟩)
    (hne : ∀ e ∈ es, Ev w (eqBool e.key key) s p false s p) (pl : List Nat) : Ev w (dictWalkPlain 987 key h es.toArray pl) s p none s p := by
  unfold dictWalkPlain
  have ep : ∀ q, Ev w (dictEpoch 987 q) s p k s p := fun q => Ev.bind (Ev.loadPart ho) .pure
  refine Ev.bind (a := (none, PUnit.unit)) ?_ Ev.pure
  induction pl with
  | nil => exact Ev.pure
  | cons i r ih =>
    rw [List.forIn_cons]
    refine Ev.bind (a := .yield (none, PUnit.unit)) (s₁ := s) (p₁ := p) ?_ (by exact ih)
    have hcase : es.toArray[i]? = es[i]? := List.getElem?_toArray
    cases hi : es[i]? with
    | none => rw [hcase, hi]; exact Ev.pure
    | some e =>
      rw [hcase, hi]
      dsimp only
      split
      · refine Ev.bind (ep _) (Ev.bind (hne e (List.mem_of_getElem? hi)) (Ev.bind (ep _) ?_))
        simp only [bne_self_eq_false, Bool.false_eq_true, if_false]
        exact Ev.bind Ev.rule Ev.pure
      · exact Ev.pure
theorem Ev.ite_true {w : World} {α : Type} {s s' : Shared} {p p' : Pos} {a : α} {c : Prop} [Decidable c] {x y : Sem α} (hc : c) (h : Ev w x s p a s' p') : Ev w (if c then x else y) s p a s' p' := by
  rw [if_pos hc]; exact h
theorem ev_find {w : World} {s : Shared} {p : Pos} {es : List DictEntry} {k : Nat} (c : UInt8) (t : Tok) (h : Int) (ho : s.heap.get? 987 = some ⟨.type "dict", none, .dict es.toArray k, #[]⟩)
    (hb : ∀ e ∈ es, carriedByValue e.key = true) (hne : ∀ e ∈ es, Ev w (eqBool e.key (by1 c t)) s p false s p) :
    Ev w (dictFind 987 (by1 c t) h) s p none s p := by
  unfold dictFind
  refine Ev.keep ?_
  refine Ev.bind (a := es.toArray) (Ev.bind (Ev.loadPart ho) .pure) ?_
  generalize hp : placesWithHash es.toArray.size (fun i => Option.map (fun x => x.hash) es.toArray[i]?) h = pl
  have hall : (by1 c t :: List.filterMap (fun i => Option.map (fun x => x.key) es.toArray[i]?) pl).all carriedByValue = true := by
    rw [List.all_cons, Bool.and_eq_true]
    refine ⟨rfl, List.all_eq_true.mpr fun v hv => ?_⟩
    obtain ⟨i, _, hi⟩ := List.mem_filterMap.mp hv
    rw [List.getElem?_toArray] at hi
    obtain ⟨e, he, rfl⟩ := Option.map_eq_some_iff.mp hi
    exact hb e (List.mem_of_getElem? he)
  dsimp only [by1]
  dsimp only [by1] at hall
  exact Ev.ite_true hall (ev_walk _ _ ho hne pl)
end
end Mine
namespace Mine
section
open PySem PySem.W PyProof.Rows
set_option maxHeartbeats 0
noncomputable def en1 (P : Params) (c : UInt8) (t : Tok) (v : Value) : DictEntry := ⟨PyData.keyHash P ⟨#[c.toNat]⟩, by1 c t, v⟩
noncomputable def oD (es : List DictEntry) (n : Nat) : Obj := ⟨.type "dict", none, .dict es.toArray n, #[]⟩
noncomputable def sD (w : World) (es : List DictEntry) (n toks : Nat) (os : OsState) : SharedT := gS ((t46 w.params).ins 987 (oD es n)) 988 toks os
theorem sD_get (w : World) (es : List DictEntry) (n toks : Nat) (os : OsState) : (sD w es n toks os).abs.heap.get? 987 = some ⟨.type "dict", none, .dict es.toArray n, #[]⟩ := by
  have h : ((t46 w.params).ins 987 (oD es n)).get 987 = some (oD es n) := by kernel_rfl
  exact (abs_get (life := lf) (by decide : 987 < 988) h).trans rfl
noncomputable def pD : Pos := ⟨572, 13, 572, 92⟩
noncomputable def es0 (_P : Params) : List DictEntry := []
noncomputable def es1 (P : Params) : List DictEntry := [en1 P 98 1428 (.int 8 1429)]
noncomputable def es2 (P : Params) : List DictEntry := [en1 P 98 1428 (.int 8 1429), en1 P 116 1430 (.int 9 1431)]
noncomputable def es3 (P : Params) : List DictEntry := [en1 P 98 1428 (.int 8 1429), en1 P 116 1430 (.int 9 1431), en1 P 110 1432 (.int 10 1433)]
noncomputable def es4 (P : Params) : List DictEntry := [en1 P 98 1428 (.int 8 1429), en1 P 116 1430 (.int 9 1431), en1 P 110 1432 (.int 10 1433), en1 P 102 1434 (.int 12 1435)]
noncomputable def es5 (P : Params) : List DictEntry := [en1 P 98 1428 (.int 8 1429), en1 P 116 1430 (.int 9 1431), en1 P 110 1432 (.int 10 1433), en1 P 102 1434 (.int 12 1435), en1 P 114 1436 (.int 13 1437)]
noncomputable def es6 (P : Params) : List DictEntry := [en1 P 98 1428 (.int 8 1429), en1 P 116 1430 (.int 9 1431), en1 P 110 1432 (.int 10 1433), en1 P 102 1434 (.int 12 1435), en1 P 114 1436 (.int 13 1437), en1 P 40 1438 (.int 40 1439)]
noncomputable def es7 (P : Params) : List DictEntry := [en1 P 98 1428 (.int 8 1429), en1 P 116 1430 (.int 9 1431), en1 P 110 1432 (.int 10 1433), en1 P 102 1434 (.int 12 1435), en1 P 114 1436 (.int 13 1437), en1 P 40 1438 (.int 40 1439), en1 P 41 1440 (.int 41 1441)]
noncomputable def es8 (P : Params) : List DictEntry := [en1 P 98 1428 (.int 8 1429), en1 P 116 1430 (.int 9 1431), en1 P 110 1432 (.int 10 1433), en1 P 102 1434 (.int 12 1435), en1 P 114 1436 (.int 13 1437), en1 P 40 1438 (.int 40 1439), en1 P 41 1440 (.int 41 1441), en1 P 92 1442 (.int 92 1443)]
theorem q0x1f (w : World) (T : BT) (n toks : Nat) (os : OsState) (t t' : Tok) (p : Pos) : ∀ gd lv, Fast.tw10110043849684766642 Fast.tw14364793385576792824 pw (w.withFollow row1 false) 11 annV 1 200 (gS T n toks os) ⟨(eqBool (by1 98 t) (by1 116 t')).wrap (fun a => .pure (.done (.ret (.bool a)))) deadEnd gd lv, cE, p, BB⟩ = some (.ret (.bool false), gS T n toks os, cE, p) := by
  intros; kernel_rfl
theorem q0x1t (w : World) (T : BT) (n toks : Nat) (os : OsState) (t t' : Tok) (p : Pos) : ∀ gd lv, Fast.tw10110043849684766642 Fast.tw14364793385576792824 pw (w.withFollow row1 true) 11 annV 1 200 (gS T n toks os) ⟨(eqBool (by1 98 t) (by1 116 t')).wrap (fun a => .pure (.done (.ret (.bool a)))) deadEnd gd lv, cE, p, BB⟩ = some (.ret (.bool false), gS T n toks os, cE, p) := by
  intros; kernel_rfl
theorem e0x1 (w : World) (T : BT) (n toks : Nat) (os : OsState) (t t' : Tok) (p : Pos) : Ev w (eqBool (by1 98 t) (by1 116 t')) (gS T n toks os).abs p false (gS T n toks os).abs p :=
  byRow2 row1 (P := fun w => Ev w (eqBool (by1 98 t) (by1 116 t')) (gS T n toks os).abs p false (gS T n toks os).abs p) (fun w => Ev.run (fun a => .ret (.bool a)) (fun b h => by cases b <;> first | rfl | cases h) 200 (q0x1f w T n toks os t t' p)) (fun w => Ev.run (fun a => .ret (.bool a)) (fun b h => by cases b <;> first | rfl | cases h) 200 (q0x1t w T n toks os t t' p)) w
theorem q0x2f (w : World) (T : BT) (n toks : Nat) (os : OsState) (t t' : Tok) (p : Pos) : ∀ gd lv, Fast.tw10110043849684766642 Fast.tw14364793385576792824 pw (w.withFollow row1 false) 11 annV 1 200 (gS T n toks os) ⟨(eqBool (by1 98 t) (by1 110 t')).wrap (fun a => .pure (.done (.ret (.bool a)))) deadEnd gd lv, cE, p, BB⟩ = some (.ret (.bool false), gS T n toks os, cE, p) := by
  intros; kernel_rfl
theorem q0x2t (w : World) (T : BT) (n toks : Nat) (os : OsState) (t t' : Tok) (p : Pos) : ∀ gd lv, Fast.tw10110043849684766642 Fast.tw14364793385576792824 pw (w.withFollow row1 true) 11 annV 1 200 (gS T n toks os) ⟨(eqBool (by1 98 t) (by1 110 t')).wrap (fun a => .pure (.done (.ret (.bool a)))) deadEnd gd lv, cE, p, BB⟩ = some (.ret (.bool false), gS T n toks os, cE, p) := by
  intros; kernel_rfl
theorem e0x2 (w : World) (T : BT) (n toks : Nat) (os : OsState) (t t' : Tok) (p : Pos) : Ev w (eqBool (by1 98 t) (by1 110 t')) (gS T n toks os).abs p false (gS T n toks os).abs p :=
  byRow2 row1 (P := fun w => Ev w (eqBool (by1 98 t) (by1 110 t')) (gS T n toks os).abs p false (gS T n toks os).abs p) (fun w => Ev.run (fun a => .ret (.bool a)) (fun b h => by cases b <;> first | rfl | cases h) 200 (q0x2f w T n toks os t t' p)) (fun w => Ev.run (fun a => .ret (.bool a)) (fun b h => by cases b <;> first | rfl | cases h) 200 (q0x2t w T n toks os t t' p)) w
theorem q0x3f (w : World) (T : BT) (n toks : Nat) (os : OsState) (t t' : Tok) (p : Pos) : ∀ gd lv, Fast.tw10110043849684766642 Fast.tw14364793385576792824 pw (w.withFollow row1 false) 11 annV 1 200 (gS T n toks os) ⟨(eqBool (by1 98 t) (by1 102 t')).wrap (fun a => .pure (.done (.ret (.bool a)))) deadEnd gd lv, cE, p, BB⟩ = some (.ret (.bool false), gS T n toks os, cE, p) := by
  intros; kernel_rfl
theorem q0x3t (w : World) (T : BT) (n toks : Nat) (os : OsState) (t t' : Tok) (p : Pos) : ∀ gd lv, Fast.tw10110043849684766642 Fast.tw14364793385576792824 pw (w.withFollow row1 true) 11 annV 1 200 (gS T n toks os) ⟨(eqBool (by1 98 t) (by1 102 t')).wrap (fun a => .pure (.done (.ret (.bool a)))) deadEnd gd lv, cE, p, BB⟩ = some (.ret (.bool false), gS T n toks os, cE, p) := by
  intros; kernel_rfl
theorem e0x3 (w : World) (T : BT) (n toks : Nat) (os : OsState) (t t' : Tok) (p : Pos) : Ev w (eqBool (by1 98 t) (by1 102 t')) (gS T n toks os).abs p false (gS T n toks os).abs p :=
  byRow2 row1 (P := fun w => Ev w (eqBool (by1 98 t) (by1 102 t')) (gS T n toks os).abs p false (gS T n toks os).abs p) (fun w => Ev.run (fun a => .ret (.bool a)) (fun b h => by cases b <;> first | rfl | cases h) 200 (q0x3f w T n toks os t t' p)) (fun w => Ev.run (fun a => .ret (.bool a)) (fun b h => by cases b <;> first | rfl | cases h) 200 (q0x3t w T n toks os t t' p)) w
theorem q0x4f (w : World) (T : BT) (n toks : Nat) (os : OsState) (t t' : Tok) (p : Pos) : ∀ gd lv, Fast.tw10110043849684766642 Fast.tw14364793385576792824 pw (w.withFollow row1 false) 11 annV 1 200 (gS T n toks os) ⟨(eqBool (by1 98 t) (by1 114 t')).wrap (fun a => .pure (.done (.ret (.bool a)))) deadEnd gd lv, cE, p, BB⟩ = some (.ret (.bool false), gS T n toks os, cE, p) := by
  intros; kernel_rfl
theorem q0x4t (w : World) (T : BT) (n toks : Nat) (os : OsState) (t t' : Tok) (p : Pos) : ∀ gd lv, Fast.tw10110043849684766642 Fast.tw14364793385576792824 pw (w.withFollow row1 true) 11 annV 1 200 (gS T n toks os) ⟨(eqBool (by1 98 t) (by1 114 t')).wrap (fun a => .pure (.done (.ret (.bool a)))) deadEnd gd lv, cE, p, BB⟩ = some (.ret (.bool false), gS T n toks os, cE, p) := by
  intros; kernel_rfl
theorem e0x4 (w : World) (T : BT) (n toks : Nat) (os : OsState) (t t' : Tok) (p : Pos) : Ev w (eqBool (by1 98 t) (by1 114 t')) (gS T n toks os).abs p false (gS T n toks os).abs p :=
  byRow2 row1 (P := fun w => Ev w (eqBool (by1 98 t) (by1 114 t')) (gS T n toks os).abs p false (gS T n toks os).abs p) (fun w => Ev.run (fun a => .ret (.bool a)) (fun b h => by cases b <;> first | rfl | cases h) 200 (q0x4f w T n toks os t t' p)) (fun w => Ev.run (fun a => .ret (.bool a)) (fun b h => by cases b <;> first | rfl | cases h) 200 (q0x4t w T n toks os t t' p)) w
theorem q0x5f (w : World) (T : BT) (n toks : Nat) (os : OsState) (t t' : Tok) (p : Pos) : ∀ gd lv, Fast.tw10110043849684766642 Fast.tw14364793385576792824 pw (w.withFollow row1 false) 11 annV 1 200 (gS T n toks os) ⟨(eqBool (by1 98 t) (by1 40 t')).wrap (fun a => .pure (.done (.ret (.bool a)))) deadEnd gd lv, cE, p, BB⟩ = some (.ret (.bool false), gS T n toks os, cE, p) := by
  intros; kernel_rfl
theorem q0x5t (w : World) (T : BT) (n toks : Nat) (os : OsState) (t t' : Tok) (p : Pos) : ∀ gd lv, Fast.tw10110043849684766642 Fast.tw14364793385576792824 pw (w.withFollow row1 true) 11 annV 1 200 (gS T n toks os) ⟨(eqBool (by1 98 t) (by1 40 t')).wrap (fun a => .pure (.done (.ret (.bool a)))) deadEnd gd lv, cE, p, BB⟩ = some (.ret (.bool false), gS T n toks os, cE, p) := by
  intros; kernel_rfl
theorem e0x5 (w : World) (T : BT) (n toks : Nat) (os : OsState) (t t' : Tok) (p : Pos) : Ev w (eqBool (by1 98 t) (by1 40 t')) (gS T n toks os).abs p false (gS T n toks os).abs p :=
  byRow2 row1 (P := fun w => Ev w (eqBool (by1 98 t) (by1 40 t')) (gS T n toks os).abs p false (gS T n toks os).abs p) (fun w => Ev.run (fun a => .ret (.bool a)) (fun b h => by cases b <;> first | rfl | cases h) 200 (q0x5f w T n toks os t t' p)) (fun w => Ev.run (fun a => .ret (.bool a)) (fun b h => by cases b <;> first | rfl | cases h) 200 (q0x5t w T n toks os t t' p)) w
theorem q0x6f (w : World) (T : BT) (n toks : Nat) (os : OsState) (t t' : Tok) (p : Pos) : ∀ gd lv, Fast.tw10110043849684766642 Fast.tw14364793385576792824 pw (w.withFollow row1 false) 11 annV 1 200 (gS T n toks os) ⟨(eqBool (by1 98 t) (by1 41 t')).wrap (fun a => .pure (.done (.ret (.bool a)))) deadEnd gd lv, cE, p, BB⟩ = some (.ret (.bool false), gS T n toks os, cE, p) := by
  intros; kernel_rfl
theorem q0x6t (w : World) (T : BT) (n toks : Nat) (os : OsState) (t t' : Tok) (p : Pos) : ∀ gd lv, Fast.tw10110043849684766642 Fast.tw14364793385576792824 pw (w.withFollow row1 true) 11 annV 1 200 (gS T n toks os) ⟨(eqBool (by1 98 t) (by1 41 t')).wrap (fun a => .pure (.done (.ret (.bool a)))) deadEnd gd lv, cE, p, BB⟩ = some (.ret (.bool false), gS T n toks os, cE, p) := by
  intros; kernel_rfl
theorem e0x6 (w : World) (T : BT) (n toks : Nat) (os : OsState) (t t' : Tok) (p : Pos) : Ev w (eqBool (by1 98 t) (by1 41 t')) (gS T n toks os).abs p false (gS T n toks os).abs p :=
  byRow2 row1 (P := fun w => Ev w (eqBool (by1 98 t) (by1 41 t')) (gS T n toks os).abs p false (gS T n toks os).abs p) (fun w => Ev.run (fun a => .ret (.bool a)) (fun b h => by cases b <;> first | rfl | cases h) 200 (q0x6f w T n toks os t t' p)) (fun w => Ev.run (fun a => .ret (.bool a)) (fun b h => by cases b <;> first | rfl | cases h) 200 (q0x6t w T n toks os t t' p)) w
theorem q0x7f (w : World) (T : BT) (n toks : Nat) (os : OsState) (t t' : Tok) (p : Pos) : ∀ gd lv, Fast.tw10110043849684766642 Fast.tw14364793385576792824 pw (w.withFollow row1 false) 11 annV 1 200 (gS T n toks os) ⟨(eqBool (by1 98 t) (by1 92 t')).wrap (fun a => .pure (.done (.ret (.bool a)))) deadEnd gd lv, cE, p, BB⟩ = some (.ret (.bool false), gS T n toks os, cE, p) := by
  intros; kernel_rfl
theorem q0x7t (w : World) (T : BT) (n toks : Nat) (os : OsState) (t t' : Tok) (p : Pos) : ∀ gd lv, Fast.tw10110043849684766642 Fast.tw14364793385576792824 pw (w.withFollow row1 true) 11 annV 1 200 (gS T n toks os) ⟨(eqBool (by1 98 t) (by1 92 t')).wrap (fun a => .pure (.done (.ret (.bool a)))) deadEnd gd lv, cE, p, BB⟩ = some (.ret (.bool false), gS T n toks os, cE, p) := by
  intros; kernel_rfl
theorem e0x7 (w : World) (T : BT) (n toks : Nat) (os : OsState) (t t' : Tok) (p : Pos) : Ev w (eqBool (by1 98 t) (by1 92 t')) (gS T n toks os).abs p false (gS T n toks os).abs p :=
  byRow2 row1 (P := fun w => Ev w (eqBool (by1 98 t) (by1 92 t')) (gS T n toks os).abs p false (gS T n toks os).abs p) (fun w => Ev.run (fun a => .ret (.bool a)) (fun b h => by cases b <;> first | rfl | cases h) 200 (q0x7f w T n toks os t t' p)) (fun w => Ev.run (fun a => .ret (.bool a)) (fun b h => by cases b <;> first | rfl | cases h) 200 (q0x7t w T n toks os t t' p)) w
theorem q1x2f (w : World) (T : BT) (n toks : Nat) (os : OsState) (t t' : Tok) (p : Pos) : ∀ gd lv, Fast.tw10110043849684766642 Fast.tw14364793385576792824 pw (w.withFollow row1 false) 11 annV 1 200 (gS T n toks os) ⟨(eqBool (by1 116 t) (by1 110 t')).wrap (fun a => .pure (.done (.ret (.bool a)))) deadEnd gd lv, cE, p, BB⟩ = some (.ret (.bool false), gS T n toks os, cE, p) := by
  intros; kernel_rfl
theorem q1x2t (w : World) (T : BT) (n toks : Nat) (os : OsState) (t t' : Tok) (p : Pos) : ∀ gd lv, Fast.tw10110043849684766642 Fast.tw14364793385576792824 pw (w.withFollow row1 true) 11 annV 1 200 (gS T n toks os) ⟨(eqBool (by1 116 t) (by1 110 t')).wrap (fun a => .pure (.done (.ret (.bool a)))) deadEnd gd lv, cE, p, BB⟩ = some (.ret (.bool false), gS T n toks os, cE, p) := by
  intros; kernel_rfl
theorem e1x2 (w : World) (T : BT) (n toks : Nat) (os : OsState) (t t' : Tok) (p : Pos) : Ev w (eqBool (by1 116 t) (by1 110 t')) (gS T n toks os).abs p false (gS T n toks os).abs p :=
  byRow2 row1 (P := fun w => Ev w (eqBool (by1 116 t) (by1 110 t')) (gS T n toks os).abs p false (gS T n toks os).abs p) (fun w => Ev.run (fun a => .ret (.bool a)) (fun b h => by cases b <;> first | rfl | cases h) 200 (q1x2f w T n toks os t t' p)) (fun w => Ev.run (fun a => .ret (.bool a)) (fun b h => by cases b <;> first | rfl | cases h) 200 (q1x2t w T n toks os t t' p)) w
theorem q1x3f (w : World) (T : BT) (n toks : Nat) (os : OsState) (t t' : Tok) (p : Pos) : ∀ gd lv, Fast.tw10110043849684766642 Fast.tw14364793385576792824 pw (w.withFollow row1 false) 11 annV 1 200 (gS T n toks os) ⟨(eqBool (by1 116 t) (by1 102 t')).wrap (fun a => .pure (.done (.ret (.bool a)))) deadEnd gd lv, cE, p, BB⟩ = some (.ret (.bool false), gS T n toks os, cE, p) := by
  intros; kernel_rfl
theorem q1x3t (w : World) (T : BT) (n toks : Nat) (os : OsState) (t t' : Tok) (p : Pos) : ∀ gd lv, Fast.tw10110043849684766642 Fast.tw14364793385576792824 pw (w.withFollow row1 true) 11 annV 1 200 (gS T n toks os) ⟨(eqBool (by1 116 t) (by1 102 t')).wrap (fun a => .pure (.done (.ret (.bool a)))) deadEnd gd lv, cE, p, BB⟩ = some (.ret (.bool false), gS T n toks os, cE, p) := by
  intros; kernel_rfl
theorem e1x3 (w : World) (T : BT) (n toks : Nat) (os : OsState) (t t' : Tok) (p : Pos) : Ev w (eqBool (by1 116 t) (by1 102 t')) (gS T n toks os).abs p false (gS T n toks os).abs p :=
  byRow2 row1 (P := fun w => Ev w (eqBool (by1 116 t) (by1 102 t')) (gS T n toks os).abs p false (gS T n toks os).abs p) (fun w => Ev.run (fun a => .ret (.bool a)) (fun b h => by cases b <;> first | rfl | cases h) 200 (q1x3f w T n toks os t t' p)) (fun w => Ev.run (fun a => .ret (.bool a)) (fun b h => by cases b <;> first | rfl | cases h) 200 (q1x3t w T n toks os t t' p)) w
theorem q1x4f (w : World) (T : BT) (n toks : Nat) (os : OsState) (t t' : Tok) (p : Pos) : ∀ gd lv, Fast.tw10110043849684766642 Fast.tw14364793385576792824 pw (w.withFollow row1 false) 11 annV 1 200 (gS T n toks os) ⟨(eqBool (by1 116 t) (by1 114 t')).wrap (fun a => .pure (.done (.ret (.bool a)))) deadEnd gd lv, cE, p, BB⟩ = some (.ret (.bool false), gS T n toks os, cE, p) := by
  intros; kernel_rfl
theorem q1x4t (w : World) (T : BT) (n toks : Nat) (os : OsState) (t t' : Tok) (p : Pos) : ∀ gd lv, Fast.tw10110043849684766642 Fast.tw14364793385576792824 pw (w.withFollow row1 true) 11 annV 1 200 (gS T n toks os) ⟨(eqBool (by1 116 t) (by1 114 t')).wrap (fun a => .pure (.done (.ret (.bool a)))) deadEnd gd lv, cE, p, BB⟩ = some (.ret (.bool false), gS T n toks os, cE, p) := by
  intros; kernel_rfl
theorem e1x4 (w : World) (T : BT) (n toks : Nat) (os : OsState) (t t' : Tok) (p : Pos) : Ev w (eqBool (by1 116 t) (by1 114 t')) (gS T n toks os).abs p false (gS T n toks os).abs p :=
  byRow2 row1 (P := fun w => Ev w (eqBool (by1 116 t) (by1 114 t')) (gS T n toks os).abs p false (gS T n toks os).abs p) (fun w => Ev.run (fun a => .ret (.bool a)) (fun b h => by cases b <;> first | rfl | cases h) 200 (q1x4f w T n toks os t t' p)) (fun w => Ev.run (fun a => .ret (.bool a)) (fun b h => by cases b <;> first | rfl | cases h) 200 (q1x4t w T n toks os t t' p)) w
theorem q1x5f (w : World) (T : BT) (n toks : Nat) (os : OsState) (t t' : Tok) (p : Pos) : ∀ gd lv, Fast.tw10110043849684766642 Fast.tw14364793385576792824 pw (w.withFollow row1 false) 11 annV 1 200 (gS T n toks os) ⟨(eqBool (by1 116 t) (by1 40 t')).wrap (fun a => .pure (.done (.ret (.bool a)))) deadEnd gd lv, cE, p, BB⟩ = some (.ret (.bool false), gS T n toks os, cE, p) := by
  intros; kernel_rfl
theorem q1x5t (w : World) (T : BT) (n toks : Nat) (os : OsState) (t t' : Tok) (p : Pos) : ∀ gd lv, Fast.tw10110043849684766642 Fast.tw14364793385576792824 pw (w.withFollow row1 true) 11 annV 1 200 (gS T n toks os) ⟨(eqBool (by1 116 t) (by1 40 t')).wrap (fun a => .pure (.done (.ret (.bool a)))) deadEnd gd lv, cE, p, BB⟩ = some (.ret (.bool false), gS T n toks os, cE, p) := by
  intros; kernel_rfl
theorem e1x5 (w : World) (T : BT) (n toks : Nat) (os : OsState) (t t' : Tok) (p : Pos) : Ev w (eqBool (by1 116 t) (by1 40 t')) (gS T n toks os).abs p false (gS T n toks os).abs p :=
  byRow2 row1 (P := fun w => Ev w (eqBool (by1 116 t) (by1 40 t')) (gS T n toks os).abs p false (gS T n toks os).abs p) (fun w => Ev.run (fun a => .ret (.bool a)) (fun b h => by cases b <;> first | rfl | cases h) 200 (q1x5f w T n toks os t t' p)) (fun w => Ev.run (fun a => .ret (.bool a)) (fun b h => by cases b <;> first | rfl | cases h) 200 (q1x5t w T n toks os t t' p)) w
theorem q1x6f (w : World) (T : BT) (n toks : Nat) (os : OsState) (t t' : Tok) (p : Pos) : ∀ gd lv, Fast.tw10110043849684766642 Fast.tw14364793385576792824 pw (w.withFollow row1 false) 11 annV 1 200 (gS T n toks os) ⟨(eqBool (by1 116 t) (by1 41 t')).wrap (fun a => .pure (.done (.ret (.bool a)))) deadEnd gd lv, cE, p, BB⟩ = some (.ret (.bool false), gS T n toks os, cE, p) := by
  intros; kernel_rfl
theorem q1x6t (w : World) (T : BT) (n toks : Nat) (os : OsState) (t t' : Tok) (p : Pos) : ∀ gd lv, Fast.tw10110043849684766642 Fast.tw14364793385576792824 pw (w.withFollow row1 true) 11 annV 1 200 (gS T n toks os) ⟨(eqBool (by1 116 t) (by1 41 t')).wrap (fun a => .pure (.done (.ret (.bool a)))) deadEnd gd lv, cE, p, BB⟩ = some (.ret (.bool false), gS T n toks os, cE, p) := by
  intros; kernel_rfl
theorem e1x6 (w : World) (T : BT) (n toks : Nat) (os : OsState) (t t' : Tok) (p : Pos) : Ev w (eqBool (by1 116 t) (by1 41 t')) (gS T n toks os).abs p false (gS T n toks os).abs p :=
  byRow2 row1 (P := fun w => Ev w (eqBool (by1 116 t) (by1 41 t')) (gS T n toks os).abs p false (gS T n toks os).abs p) (fun w => Ev.run (fun a => .ret (.bool a)) (fun b h => by cases b <;> first | rfl | cases h) 200 (q1x6f w T n toks os t t' p)) (fun w => Ev.run (fun a => .ret (.bool a)) (fun b h => by cases b <;> first | rfl | cases h) 200 (q1x6t w T n toks os t t' p)) w
theorem q1x7f (w : World) (T : BT) (n toks : Nat) (os : OsState) (t t' : Tok) (p : Pos) : ∀ gd lv, Fast.tw10110043849684766642 Fast.tw14364793385576792824 pw (w.withFollow row1 false) 11 annV 1 200 (gS T n toks os) ⟨(eqBool (by1 116 t) (by1 92 t')).wrap (fun a => .pure (.done (.ret (.bool a)))) deadEnd gd lv, cE, p, BB⟩ = some (.ret (.bool false), gS T n toks os, cE, p) := by
  intros; kernel_rfl
theorem q1x7t (w : World) (T : BT) (n toks : Nat) (os : OsState) (t t' : Tok) (p : Pos) : ∀ gd lv, Fast.tw10110043849684766642 Fast.tw14364793385576792824 pw (w.withFollow row1 true) 11 annV 1 200 (gS T n toks os) ⟨(eqBool (by1 116 t) (by1 92 t')).wrap (fun a => .pure (.done (.ret (.bool a)))) deadEnd gd lv, cE, p, BB⟩ = some (.ret (.bool false), gS T n toks os, cE, p) := by
  intros; kernel_rfl
theorem e1x7 (w : World) (T : BT) (n toks : Nat) (os : OsState) (t t' : Tok) (p : Pos) : Ev w (eqBool (by1 116 t) (by1 92 t')) (gS T n toks os).abs p false (gS T n toks os).abs p :=
  byRow2 row1 (P := fun w => Ev w (eqBool (by1 116 t) (by1 92 t')) (gS T n toks os).abs p false (gS T n toks os).abs p) (fun w => Ev.run (fun a => .ret (.bool a)) (fun b h => by cases b <;> first | rfl | cases h) 200 (q1x7f w T n toks os t t' p)) (fun w => Ev.run (fun a => .ret (.bool a)) (fun b h => by cases b <;> first | rfl | cases h) 200 (q1x7t w T n toks os t t' p)) w
theorem q2x3f (w : World) (T : BT) (n toks : Nat) (os : OsState) (t t' : Tok) (p : Pos) : ∀ gd lv, Fast.tw10110043849684766642 Fast.tw14364793385576792824 pw (w.withFollow row1 false) 11 annV 1 200 (gS T n toks os) ⟨(eqBool (by1 110 t) (by1 102 t')).wrap (fun a => .pure (.done (.ret (.bool a)))) deadEnd gd lv, cE, p, BB⟩ = some (.ret (.bool false), gS T n toks os, cE, p) := by
  intros; kernel_rfl
theorem q2x3t (w : World) (T : BT) (n toks : Nat) (os : OsState) (t t' : Tok) (p : Pos) : ∀ gd lv, Fast.tw10110043849684766642 Fast.tw14364793385576792824 pw (w.withFollow row1 true) 11 annV 1 200 (gS T n toks os) ⟨(eqBool (by1 110 t) (by1 102 t')).wrap (fun a => .pure (.done (.ret (.bool a)))) deadEnd gd lv, cE, p, BB⟩ = some (.ret (.bool false), gS T n toks os, cE, p) := by
  intros; kernel_rfl
theorem e2x3 (w : World) (T : BT) (n toks : Nat) (os : OsState) (t t' : Tok) (p : Pos) : Ev w (eqBool (by1 110 t) (by1 102 t')) (gS T n toks os).abs p false (gS T n toks os).abs p :=
  byRow2 row1 (P := fun w => Ev w (eqBool (by1 110 t) (by1 102 t')) (gS T n toks os).abs p false (gS T n toks os).abs p) (fun w => Ev.run (fun a => .ret (.bool a)) (fun b h => by cases b <;> first | rfl | cases h) 200 (q2x3f w T n toks os t t' p)) (fun w => Ev.run (fun a => .ret (.bool a)) (fun b h => by cases b <;> first | rfl | cases h) 200 (q2x3t w T n toks os t t' p)) w
theorem q2x4f (w : World) (T : BT) (n toks : Nat) (os : OsState) (t t' : Tok) (p : Pos) : ∀ gd lv, Fast.tw10110043849684766642 Fast.tw14364793385576792824 pw (w.withFollow row1 false) 11 annV 1 200 (gS T n toks os) ⟨(eqBool (by1 110 t) (by1 114 t')).wrap (fun a => .pure (.done (.ret (.bool a)))) deadEnd gd lv, cE, p, BB⟩ = some (.ret (.bool false), gS T n toks os, cE, p) := by
  intros; kernel_rfl
theorem q2x4t (w : World) (T : BT) (n toks : Nat) (os : OsState) (t t' : Tok) (p : Pos) : ∀ gd lv, Fast.tw10110043849684766642 Fast.tw14364793385576792824 pw (w.withFollow row1 true) 11 annV 1 200 (gS T n toks os) ⟨(eqBool (by1 110 t) (by1 114 t')).wrap (fun a => .pure (.done (.ret (.bool a)))) deadEnd gd lv, cE, p, BB⟩ = some (.ret (.bool false), gS T n toks os, cE, p) := by
  intros; kernel_rfl
theorem e2x4 (w : World) (T : BT) (n toks : Nat) (os : OsState) (t t' : Tok) (p : Pos) : Ev w (eqBool (by1 110 t) (by1 114 t')) (gS T n toks os).abs p false (gS T n toks os).abs p :=
  byRow2 row1 (P := fun w => Ev w (eqBool (by1 110 t) (by1 114 t')) (gS T n toks os).abs p false (gS T n toks os).abs p) (fun w => Ev.run (fun a => .ret (.bool a)) (fun b h => by cases b <;> first | rfl | cases h) 200 (q2x4f w T n toks os t t' p)) (fun w => Ev.run (fun a => .ret (.bool a)) (fun b h => by cases b <;> first | rfl | cases h) 200 (q2x4t w T n toks os t t' p)) w
theorem q2x5f (w : World) (T : BT) (n toks : Nat) (os : OsState) (t t' : Tok) (p : Pos) : ∀ gd lv, Fast.tw10110043849684766642 Fast.tw14364793385576792824 pw (w.withFollow row1 false) 11 annV 1 200 (gS T n toks os) ⟨(eqBool (by1 110 t) (by1 40 t')).wrap (fun a => .pure (.done (.ret (.bool a)))) deadEnd gd lv, cE, p, BB⟩ = some (.ret (.bool false), gS T n toks os, cE, p) := by
  intros; kernel_rfl
theorem q2x5t (w : World) (T : BT) (n toks : Nat) (os : OsState) (t t' : Tok) (p : Pos) : ∀ gd lv, Fast.tw10110043849684766642 Fast.tw14364793385576792824 pw (w.withFollow row1 true) 11 annV 1 200 (gS T n toks os) ⟨(eqBool (by1 110 t) (by1 40 t')).wrap (fun a => .pure (.done (.ret (.bool a)))) deadEnd gd lv, cE, p, BB⟩ = some (.ret (.bool false), gS T n toks os, cE, p) := by
  intros; kernel_rfl
theorem e2x5 (w : World) (T : BT) (n toks : Nat) (os : OsState) (t t' : Tok) (p : Pos) : Ev w (eqBool (by1 110 t) (by1 40 t')) (gS T n toks os).abs p false (gS T n toks os).abs p :=
  byRow2 row1 (P := fun w => Ev w (eqBool (by1 110 t) (by1 40 t')) (gS T n toks os).abs p false (gS T n toks os).abs p) (fun w => Ev.run (fun a => .ret (.bool a)) (fun b h => by cases b <;> first | rfl | cases h) 200 (q2x5f w T n toks os t t' p)) (fun w => Ev.run (fun a => .ret (.bool a)) (fun b h => by cases b <;> first | rfl | cases h) 200 (q2x5t w T n toks os t t' p)) w
theorem q2x6f (w : World) (T : BT) (n toks : Nat) (os : OsState) (t t' : Tok) (p : Pos) : ∀ gd lv, Fast.tw10110043849684766642 Fast.tw14364793385576792824 pw (w.withFollow row1 false) 11 annV 1 200 (gS T n toks os) ⟨(eqBool (by1 110 t) (by1 41 t')).wrap (fun a => .pure (.done (.ret (.bool a)))) deadEnd gd lv, cE, p, BB⟩ = some (.ret (.bool false), gS T n toks os, cE, p) := by
  intros; kernel_rfl
theorem q2x6t (w : World) (T : BT) (n toks : Nat) (os : OsState) (t t' : Tok) (p : Pos) : ∀ gd lv, Fast.tw10110043849684766642 Fast.tw14364793385576792824 pw (w.withFollow row1 true) 11 annV 1 200 (gS T n toks os) ⟨(eqBool (by1 110 t) (by1 41 t')).wrap (fun a => .pure (.done (.ret (.bool a)))) deadEnd gd lv, cE, p, BB⟩ = some (.ret (.bool false), gS T n toks os, cE, p) := by
  intros; kernel_rfl
theorem e2x6 (w : World) (T : BT) (n toks : Nat) (os : OsState) (t t' : Tok) (p : Pos) : Ev w (eqBool (by1 110 t) (by1 41 t')) (gS T n toks os).abs p false (gS T n toks os).abs p :=
  byRow2 row1 (P := fun w => Ev w (eqBool (by1 110 t) (by1 41 t')) (gS T n toks os).abs p false (gS T n toks os).abs p) (fun w => Ev.run (fun a => .ret (.bool a)) (fun b h => by cases b <;> first | rfl | cases h) 200 (q2x6f w T n toks os t t' p)) (fun w => Ev.run (fun a => .ret (.bool a)) (fun b h => by cases b <;> first | rfl | cases h) 200 (q2x6t w T n toks os t t' p)) w
theorem q2x7f (w : World) (T : BT) (n toks : Nat) (os : OsState) (t t' : Tok) (p : Pos) : ∀ gd lv, Fast.tw10110043849684766642 Fast.tw14364793385576792824 pw (w.withFollow row1 false) 11 annV 1 200 (gS T n toks os) ⟨(eqBool (by1 110 t) (by1 92 t')).wrap (fun a => .pure (.done (.ret (.bool a)))) deadEnd gd lv, cE, p, BB⟩ = some (.ret (.bool false), gS T n toks os, cE, p) := by
  intros; kernel_rfl
theorem q2x7t (w : World) (T : BT) (n toks : Nat) (os : OsState) (t t' : Tok) (p : Pos) : ∀ gd lv, Fast.tw10110043849684766642 Fast.tw14364793385576792824 pw (w.withFollow row1 true) 11 annV 1 200 (gS T n toks os) ⟨(eqBool (by1 110 t) (by1 92 t')).wrap (fun a => .pure (.done (.ret (.bool a)))) deadEnd gd lv, cE, p, BB⟩ = some (.ret (.bool false), gS T n toks os, cE, p) := by
  intros; kernel_rfl
theorem e2x7 (w : World) (T : BT) (n toks : Nat) (os : OsState) (t t' : Tok) (p : Pos) : Ev w (eqBool (by1 110 t) (by1 92 t')) (gS T n toks os).abs p false (gS T n toks os).abs p :=
  byRow2 row1 (P := fun w => Ev w (eqBool (by1 110 t) (by1 92 t')) (gS T n toks os).abs p false (gS T n toks os).abs p) (fun w => Ev.run (fun a => .ret (.bool a)) (fun b h => by cases b <;> first | rfl | cases h) 200 (q2x7f w T n toks os t t' p)) (fun w => Ev.run (fun a => .ret (.bool a)) (fun b h => by cases b <;> first | rfl | cases h) 200 (q2x7t w T n toks os t t' p)) w
theorem q3x4f (w : World) (T : BT) (n toks : Nat) (os : OsState) (t t' : Tok) (p : Pos) : ∀ gd lv, Fast.tw10110043849684766642 Fast.tw14364793385576792824 pw (w.withFollow row1 false) 11 annV 1 200 (gS T n toks os) ⟨(eqBool (by1 102 t) (by1 114 t')).wrap (fun a => .pure (.done (.ret (.bool a)))) deadEnd gd lv, cE, p, BB⟩ = some (.ret (.bool false), gS T n toks os, cE, p) := by
  intros; kernel_rfl
theorem q3x4t (w : World) (T : BT) (n toks : Nat) (os : OsState) (t t' : Tok) (p : Pos) : ∀ gd lv, Fast.tw10110043849684766642 Fast.tw14364793385576792824 pw (w.withFollow row1 true) 11 annV 1 200 (gS T n toks os) ⟨(eqBool (by1 102 t) (by1 114 t')).wrap (fun a => .pure (.done (.ret (.bool a)))) deadEnd gd lv, cE, p, BB⟩ = some (.ret (.bool false), gS T n toks os, cE, p) := by
  intros; kernel_rfl
theorem e3x4 (w : World) (T : BT) (n toks : Nat) (os : OsState) (t t' : Tok) (p : Pos) : Ev w (eqBool (by1 102 t) (by1 114 t')) (gS T n toks os).abs p false (gS T n toks os).abs p :=
  byRow2 row1 (P := fun w => Ev w (eqBool (by1 102 t) (by1 114 t')) (gS T n toks os).abs p false (gS T n toks os).abs p) (fun w => Ev.run (fun a => .ret (.bool a)) (fun b h => by cases b <;> first | rfl | cases h) 200 (q3x4f w T n toks os t t' p)) (fun w => Ev.run (fun a => .ret (.bool a)) (fun b h => by cases b <;> first | rfl | cases h) 200 (q3x4t w T n toks os t t' p)) w
theorem q3x5f (w : World) (T : BT) (n toks : Nat) (os : OsState) (t t' : Tok) (p : Pos) : ∀ gd lv, Fast.tw10110043849684766642 Fast.tw14364793385576792824 pw (w.withFollow row1 false) 11 annV 1 200 (gS T n toks os) ⟨(eqBool (by1 102 t) (by1 40 t')).wrap (fun a => .pure (.done (.ret (.bool a)))) deadEnd gd lv, cE, p, BB⟩ = some (.ret (.bool false), gS T n toks os, cE, p) := by
  intros; kernel_rfl
theorem q3x5t (w : World) (T : BT) (n toks : Nat) (os : OsState) (t t' : Tok) (p : Pos) : ∀ gd lv, Fast.tw10110043849684766642 Fast.tw14364793385576792824 pw (w.withFollow row1 true) 11 annV 1 200 (gS T n toks os) ⟨(eqBool (by1 102 t) (by1 40 t')).wrap (fun a => .pure (.done (.ret (.bool a)))) deadEnd gd lv, cE, p, BB⟩ = some (.ret (.bool false), gS T n toks os, cE, p) := by
  intros; kernel_rfl
theorem e3x5 (w : World) (T : BT) (n toks : Nat) (os : OsState) (t t' : Tok) (p : Pos) : Ev w (eqBool (by1 102 t) (by1 40 t')) (gS T n toks os).abs p false (gS T n toks os).abs p :=
  byRow2 row1 (P := fun w => Ev w (eqBool (by1 102 t) (by1 40 t')) (gS T n toks os).abs p false (gS T n toks os).abs p) (fun w => Ev.run (fun a => .ret (.bool a)) (fun b h => by cases b <;> first | rfl | cases h) 200 (q3x5f w T n toks os t t' p)) (fun w => Ev.run (fun a => .ret (.bool a)) (fun b h => by cases b <;> first | rfl | cases h) 200 (q3x5t w T n toks os t t' p)) w
theorem q3x6f (w : World) (T : BT) (n toks : Nat) (os : OsState) (t t' : Tok) (p : Pos) : ∀ gd lv, Fast.tw10110043849684766642 Fast.tw14364793385576792824 pw (w.withFollow row1 false) 11 annV 1 200 (gS T n toks os) ⟨(eqBool (by1 102 t) (by1 41 t')).wrap (fun a => .pure (.done (.ret (.bool a)))) deadEnd gd lv, cE, p, BB⟩ = some (.ret (.bool false), gS T n toks os, cE, p) := by
  intros; kernel_rfl
theorem q3x6t (w : World) (T : BT) (n toks : Nat) (os : OsState) (t t' : Tok) (p : Pos) : ∀ gd lv, Fast.tw10110043849684766642 Fast.tw14364793385576792824 pw (w.withFollow row1 true) 11 annV 1 200 (gS T n toks os) ⟨(eqBool (by1 102 t) (by1 41 t')).wrap (fun a => .pure (.done (.ret (.bool a)))) deadEnd gd lv, cE, p, BB⟩ = some (.ret (.bool false), gS T n toks os, cE, p) := by
  intros; kernel_rfl
theorem e3x6 (w : World) (T : BT) (n toks : Nat) (os : OsState) (t t' : Tok) (p : Pos) : Ev w (eqBool (by1 102 t) (by1 41 t')) (gS T n toks os).abs p false (gS T n toks os).abs p :=
  byRow2 row1 (P := fun w => Ev w (eqBool (by1 102 t) (by1 41 t')) (gS T n toks os).abs p false (gS T n toks os).abs p) (fun w => Ev.run (fun a => .ret (.bool a)) (fun b h => by cases b <;> first | rfl | cases h) 200 (q3x6f w T n toks os t t' p)) (fun w => Ev.run (fun a => .ret (.bool a)) (fun b h => by cases b <;> first | rfl | cases h) 200 (q3x6t w T n toks os t t' p)) w
theorem q3x7f (w : World) (T : BT) (n toks : Nat) (os : OsState) (t t' : Tok) (p : Pos) : ∀ gd lv, Fast.tw10110043849684766642 Fast.tw14364793385576792824 pw (w.withFollow row1 false) 11 annV 1 200 (gS T n toks os) ⟨(eqBool (by1 102 t) (by1 92 t')).wrap (fun a => .pure (.done (.ret (.bool a)))) deadEnd gd lv, cE, p, BB⟩ = some (.ret (.bool false), gS T n toks os, cE, p) := by
  intros; kernel_rfl
theorem q3x7t (w : World) (T : BT) (n toks : Nat) (os : OsState) (t t' : Tok) (p : Pos) : ∀ gd lv, Fast.tw10110043849684766642 Fast.tw14364793385576792824 pw (w.withFollow row1 true) 11 annV 1 200 (gS T n toks os) ⟨(eqBool (by1 102 t) (by1 92 t')).wrap (fun a => .pure (.done (.ret (.bool a)))) deadEnd gd lv, cE, p, BB⟩ = some (.ret (.bool false), gS T n toks os, cE, p) := by
  intros; kernel_rfl
theorem e3x7 (w : World) (T : BT) (n toks : Nat) (os : OsState) (t t' : Tok) (p : Pos) : Ev w (eqBool (by1 102 t) (by1 92 t')) (gS T n toks os).abs p false (gS T n toks os).abs p :=
  byRow2 row1 (P := fun w => Ev w (eqBool (by1 102 t) (by1 92 t')) (gS T n toks os).abs p false (gS T n toks os).abs p) (fun w => Ev.run (fun a => .ret (.bool a)) (fun b h => by cases b <;> first | rfl | cases h) 200 (q3x7f w T n toks os t t' p)) (fun w => Ev.run (fun a => .ret (.bool a)) (fun b h => by cases b <;> first | rfl | cases h) 200 (q3x7t w T n toks os t t' p)) w
theorem q4x5f (w : World) (T : BT) (n toks : Nat) (os : OsState) (t t' : Tok) (p : Pos) : ∀ gd lv, Fast.tw10110043849684766642 Fast.tw14364793385576792824 pw (w.withFollow row1 false) 11 annV 1 200 (gS T n toks os) ⟨(eqBool (by1 114 t) (by1 40 t')).wrap (fun a => .pure (.done (.ret (.bool a)))) deadEnd gd lv, cE, p, BB⟩ = some (.ret (.bool false), gS T n toks os, cE, p) := by
  intros; kernel_rfl
theorem q4x5t (w : World) (T : BT) (n toks : Nat) (os : OsState) (t t' : Tok) (p : Pos) : ∀ gd lv, Fast.tw10110043849684766642 Fast.tw14364793385576792824 pw (w.withFollow row1 true) 11 annV 1 200 (gS T n toks os) ⟨(eqBool (by1 114 t) (by1 40 t')).wrap (fun a => .pure (.done (.ret (.bool a)))) deadEnd gd lv, cE, p, BB⟩ = some (.ret (.bool false), gS T n toks os, cE, p) := by
  intros; kernel_rfl
theorem e4x5 (w : World) (T : BT) (n toks : Nat) (os : OsState) (t t' : Tok) (p : Pos) : Ev w (eqBool (by1 114 t) (by1 40 t')) (gS T n toks os).abs p false (gS T n toks os).abs p :=
  byRow2 row1 (P := fun w => Ev w (eqBool (by1 114 t) (by1 40 t')) (gS T n toks os).abs p false (gS T n toks os).abs p) (fun w => Ev.run (fun a => .ret (.bool a)) (fun b h => by cases b <;> first | rfl | cases h) 200 (q4x5f w T n toks os t t' p)) (fun w => Ev.run (fun a => .ret (.bool a)) (fun b h => by cases b <;> first | rfl | cases h) 200 (q4x5t w T n toks os t t' p)) w
theorem q4x6f (w : World) (T : BT) (n toks : Nat) (os : OsState) (t t' : Tok) (p : Pos) : ∀ gd lv, Fast.tw10110043849684766642 Fast.tw14364793385576792824 pw (w.withFollow row1 false) 11 annV 1 200 (gS T n toks os) ⟨(eqBool (by1 114 t) (by1 41 t')).wrap (fun a => .pure (.done (.ret (.bool a)))) deadEnd gd lv, cE, p, BB⟩ = some (.ret (.bool false), gS T n toks os, cE, p) := by
  intros; kernel_rfl
theorem q4x6t (w : World) (T : BT) (n toks : Nat) (os : OsState) (t t' : Tok) (p : Pos) : ∀ gd lv, Fast.tw10110043849684766642 Fast.tw14364793385576792824 pw (w.withFollow row1 true) 11 annV 1 200 (gS T n toks os) ⟨(eqBool (by1 114 t) (by1 41 t')).wrap (fun a => .pure (.done (.ret (.bool a)))) deadEnd gd lv, cE, p, BB⟩ = some (.ret (.bool false), gS T n toks os, cE, p) := by
  intros; kernel_rfl
theorem e4x6 (w : World) (T : BT) (n toks : Nat) (os : OsState) (t t' : Tok) (p : Pos) : Ev w (eqBool (by1 114 t) (by1 41 t')) (gS T n toks os).abs p false (gS T n toks os).abs p :=
  byRow2 row1 (P := fun w => Ev w (eqBool (by1 114 t) (by1 41 t')) (gS T n toks os).abs p false (gS T n toks os).abs p) (fun w => Ev.run (fun a => .ret (.bool a)) (fun b h => by cases b <;> first | rfl | cases h) 200 (q4x6f w T n toks os t t' p)) (fun w => Ev.run (fun a => .ret (.bool a)) (fun b h => by cases b <;> first | rfl | cases h) 200 (q4x6t w T n toks os t t' p)) w
theorem q4x7f (w : World) (T : BT) (n toks : Nat) (os : OsState) (t t' : Tok) (p : Pos) : ∀ gd lv, Fast.tw10110043849684766642 Fast.tw14364793385576792824 pw (w.withFollow row1 false) 11 annV 1 200 (gS T n toks os) ⟨(eqBool (by1 114 t) (by1 92 t')).wrap (fun a => .pure (.done (.ret (.bool a)))) deadEnd gd lv, cE, p, BB⟩ = some (.ret (.bool false), gS T n toks os, cE, p) := by
  intros; kernel_rfl
theorem q4x7t (w : World) (T : BT) (n toks : Nat) (os : OsState) (t t' : Tok) (p : Pos) : ∀ gd lv, Fast.tw10110043849684766642 Fast.tw14364793385576792824 pw (w.withFollow row1 true) 11 annV 1 200 (gS T n toks os) ⟨(eqBool (by1 114 t) (by1 92 t')).wrap (fun a => .pure (.done (.ret (.bool a)))) deadEnd gd lv, cE, p, BB⟩ = some (.ret (.bool false), gS T n toks os, cE, p) := by
  intros; kernel_rfl
theorem e4x7 (w : World) (T : BT) (n toks : Nat) (os : OsState) (t t' : Tok) (p : Pos) : Ev w (eqBool (by1 114 t) (by1 92 t')) (gS T n toks os).abs p false (gS T n toks os).abs p :=
  byRow2 row1 (P := fun w => Ev w (eqBool (by1 114 t) (by1 92 t')) (gS T n toks os).abs p false (gS T n toks os).abs p) (fun w => Ev.run (fun a => .ret (.bool a)) (fun b h => by cases b <;> first | rfl | cases h) 200 (q4x7f w T n toks os t t' p)) (fun w => Ev.run (fun a => .ret (.bool a)) (fun b h => by cases b <;> first | rfl | cases h) 200 (q4x7t w T n toks os t t' p)) w
theorem q5x6f (w : World) (T : BT) (n toks : Nat) (os : OsState) (t t' : Tok) (p : Pos) : ∀ gd lv, Fast.tw10110043849684766642 Fast.tw14364793385576792824 pw (w.withFollow row1 false) 11 annV 1 200 (gS T n toks os) ⟨(eqBool (by1 40 t) (by1 41 t')).wrap (fun a => .pure (.done (.ret (.bool a)))) deadEnd gd lv, cE, p, BB⟩ = some (.ret (.bool false), gS T n toks os, cE, p) := by
  intros; kernel_rfl
theorem q5x6t (w : World) (T : BT) (n toks : Nat) (os : OsState) (t t' : Tok) (p : Pos) : ∀ gd lv, Fast.tw10110043849684766642 Fast.tw14364793385576792824 pw (w.withFollow row1 true) 11 annV 1 200 (gS T n toks os) ⟨(eqBool (by1 40 t) (by1 41 t')).wrap (fun a => .pure (.done (.ret (.bool a)))) deadEnd gd lv, cE, p, BB⟩ = some (.ret (.bool false), gS T n toks os, cE, p) := by
  intros; kernel_rfl
theorem e5x6 (w : World) (T : BT) (n toks : Nat) (os : OsState) (t t' : Tok) (p : Pos) : Ev w (eqBool (by1 40 t) (by1 41 t')) (gS T n toks os).abs p false (gS T n toks os).abs p :=
  byRow2 row1 (P := fun w => Ev w (eqBool (by1 40 t) (by1 41 t')) (gS T n toks os).abs p false (gS T n toks os).abs p) (fun w => Ev.run (fun a => .ret (.bool a)) (fun b h => by cases b <;> first | rfl | cases h) 200 (q5x6f w T n toks os t t' p)) (fun w => Ev.run (fun a => .ret (.bool a)) (fun b h => by cases b <;> first | rfl | cases h) 200 (q5x6t w T n toks os t t' p)) w
theorem q5x7f (w : World) (T : BT) (n toks : Nat) (os : OsState) (t t' : Tok) (p : Pos) : ∀ gd lv, Fast.tw10110043849684766642 Fast.tw14364793385576792824 pw (w.withFollow row1 false) 11 annV 1 200 (gS T n toks os) ⟨(eqBool (by1 40 t) (by1 92 t')).wrap (fun a => .pure (.done (.ret (.bool a)))) deadEnd gd lv, cE, p, BB⟩ = some (.ret (.bool false), gS T n toks os, cE, p) := by
  intros; kernel_rfl
theorem q5x7t (w : World) (T : BT) (n toks : Nat) (os : OsState) (t t' : Tok) (p : Pos) : ∀ gd lv, Fast.tw10110043849684766642 Fast.tw14364793385576792824 pw (w.withFollow row1 true) 11 annV 1 200 (gS T n toks os) ⟨(eqBool (by1 40 t) (by1 92 t')).wrap (fun a => .pure (.done (.ret (.bool a)))) deadEnd gd lv, cE, p, BB⟩ = some (.ret (.bool false), gS T n toks os, cE, p) := by
  intros; kernel_rfl
theorem e5x7 (w : World) (T : BT) (n toks : Nat) (os : OsState) (t t' : Tok) (p : Pos) : Ev w (eqBool (by1 40 t) (by1 92 t')) (gS T n toks os).abs p false (gS T n toks os).abs p :=
  byRow2 row1 (P := fun w => Ev w (eqBool (by1 40 t) (by1 92 t')) (gS T n toks os).abs p false (gS T n toks os).abs p) (fun w => Ev.run (fun a => .ret (.bool a)) (fun b h => by cases b <;> first | rfl | cases h) 200 (q5x7f w T n toks os t t' p)) (fun w => Ev.run (fun a => .ret (.bool a)) (fun b h => by cases b <;> first | rfl | cases h) 200 (q5x7t w T n toks os t t' p)) w
theorem q6x7f (w : World) (T : BT) (n toks : Nat) (os : OsState) (t t' : Tok) (p : Pos) : ∀ gd lv, Fast.tw10110043849684766642 Fast.tw14364793385576792824 pw (w.withFollow row1 false) 11 annV 1 200 (gS T n toks os) ⟨(eqBool (by1 41 t) (by1 92 t')).wrap (fun a => .pure (.done (.ret (.bool a)))) deadEnd gd lv, cE, p, BB⟩ = some (.ret (.bool false), gS T n toks os, cE, p) := by
  intros; kernel_rfl
theorem q6x7t (w : World) (T : BT) (n toks : Nat) (os : OsState) (t t' : Tok) (p : Pos) : ∀ gd lv, Fast.tw10110043849684766642 Fast.tw14364793385576792824 pw (w.withFollow row1 true) 11 annV 1 200 (gS T n toks os) ⟨(eqBool (by1 41 t) (by1 92 t')).wrap (fun a => .pure (.done (.ret (.bool a)))) deadEnd gd lv, cE, p, BB⟩ = some (.ret (.bool false), gS T n toks os, cE, p) := by
  intros; kernel_rfl
theorem e6x7 (w : World) (T : BT) (n toks : Nat) (os : OsState) (t t' : Tok) (p : Pos) : Ev w (eqBool (by1 41 t) (by1 92 t')) (gS T n toks os).abs p false (gS T n toks os).abs p :=
  byRow2 row1 (P := fun w => Ev w (eqBool (by1 41 t) (by1 92 t')) (gS T n toks os).abs p false (gS T n toks os).abs p) (fun w => Ev.run (fun a => .ret (.bool a)) (fun b h => by cases b <;> first | rfl | cases h) 200 (q6x7f w T n toks os t t' p)) (fun w => Ev.run (fun a => .ret (.bool a)) (fun b h => by cases b <;> first | rfl | cases h) 200 (q6x7t w T n toks os t t' p)) w
theorem u0 (w : World) (toks : Nat) (os : OsState) (p : Pos) : ∀ gd lv, Fast.tw10110043849684766642 Fast.tw14364793385576792824 pw w 11 annV 1 200 (sD w (es0 w.params) 0 toks os) ⟨(updateDictKeys 987 (fun a => a.push ⟨PyData.keyHash w.params ⟨#[(UInt8.toNat 98)]⟩, (by1 98 1428), (.int 8 1429)⟩) (keyPart (by1 98 1428))).wrap (fun _ => .pure (.done .next)) deadEnd gd lv, cE, p, BB⟩ = some (.next, sD w (es1 w.params) 1 toks os, cE, p) := by
  intros; kernel_rfl
theorem ev_u0 (w : World) (toks : Nat) (os : OsState) (p : Pos) : Ev w (updateDictKeys 987 (fun a => a.push ⟨PyData.keyHash w.params ⟨#[(UInt8.toNat 98)]⟩, (by1 98 1428), (.int 8 1429)⟩) (keyPart (by1 98 1428))) (sD w (es0 w.params) 0 toks os).abs p () (sD w (es1 w.params) 1 toks os).abs p := Ev.run (fun _ => .next) (fun _ _ => rfl) 200 (u0 w toks os p)
theorem ev_s0 (w : World) (toks : Nat) (os : OsState) (p : Pos) : Ev w (dictSet 987 (by1 98 1428) (.int 8 1429)) (sD w (es0 w.params) 0 toks os).abs p () (sD w (es1 w.params) 1 (toks + 1) os).abs p := by
  unfold dictSet dictSetHashed
  refine Ev.keep (Ev.bind (ev_hash w _ _ _ os _ _ p) (Ev.keep (Ev.bind (a := none) (s₁ := (sD w (es0 w.params) 0 (toks + 1) os).abs) (p₁ := p) ?_ (Ev.bind Ev.rule (ev_u0 w _ os p)))))
  refine ev_find (es := es0 w.params) (k := 0) _ _ _ (sD_get w _ _ _ os) ?_ ?_
  · intro e he
    simp [es0] at he
    skip
  · intro e he
    simp [es0] at he
    skip

theorem u1 (w : World) (toks : Nat) (os : OsState) (p : Pos) : ∀ gd lv, Fast.tw10110043849684766642 Fast.tw14364793385576792824 pw w 11 annV 1 200 (sD w (es1 w.params) 1 toks os) ⟨(updateDictKeys 987 (fun a => a.push ⟨PyData.keyHash w.params ⟨#[(UInt8.toNat 116)]⟩, (by1 116 1430), (.int 9 1431)⟩) (keyPart (by1 116 1430))).wrap (fun _ => .pure (.done .next)) deadEnd gd lv, cE, p, BB⟩ = some (.next, sD w (es2 w.params) 2 toks os, cE, p) := by
  intros; kernel_rfl
theorem ev_u1 (w : World) (toks : Nat) (os : OsState) (p : Pos) : Ev w (updateDictKeys 987 (fun a => a.push ⟨PyData.keyHash w.params ⟨#[(UInt8.toNat 116)]⟩, (by1 116 1430), (.int 9 1431)⟩) (keyPart (by1 116 1430))) (sD w (es1 w.params) 1 toks os).abs p () (sD w (es2 w.params) 2 toks os).abs p := Ev.run (fun _ => .next) (fun _ _ => rfl) 200 (u1 w toks os p)
theorem ev_s1 (w : World) (toks : Nat) (os : OsState) (p : Pos) : Ev w (dictSet 987 (by1 116 1430) (.int 9 1431)) (sD w (es1 w.params) 1 toks os).abs p () (sD w (es2 w.params) 2 (toks + 1) os).abs p := by
  unfold dictSet dictSetHashed
  refine Ev.keep (Ev.bind (ev_hash w _ _ _ os _ _ p) (Ev.keep (Ev.bind (a := none) (s₁ := (sD w (es1 w.params) 1 (toks + 1) os).abs) (p₁ := p) ?_ (Ev.bind Ev.rule (ev_u1 w _ os p)))))
  refine ev_find (es := es1 w.params) (k := 1) _ _ _ (sD_get w _ _ _ os) ?_ ?_
  · intro e he
    simp only [es1, List.mem_cons, List.not_mem_nil, or_false] at he
    rcases he with rfl <;> rfl
  · intro e he
    simp only [es1, List.mem_cons, List.not_mem_nil, or_false] at he
    rcases he with rfl
    · exact e0x1 w _ _ _ _ _ _ _
theorem u2 (w : World) (toks : Nat) (os : OsState) (p : Pos) : ∀ gd lv, Fast.tw10110043849684766642 Fast.tw14364793385576792824 pw w 11 annV 1 200 (sD w (es2 w.params) 2 toks os) ⟨(updateDictKeys 987 (fun a => a.push ⟨PyData.keyHash w.params ⟨#[(UInt8.toNat 110)]⟩, (by1 110 1432), (.int 10 1433)⟩) (keyPart (by1 110 1432))).wrap (fun _ => .pure (.done .next)) deadEnd gd lv, cE, p, BB⟩ = some (.next, sD w (es3 w.params) 3 toks os, cE, p) := by
  intros; kernel_rfl
theorem ev_u2 (w : World) (toks : Nat) (os : OsState) (p : Pos) : Ev w (updateDictKeys 987 (fun a => a.push ⟨PyData.keyHash w.params ⟨#[(UInt8.toNat 110)]⟩, (by1 110 1432), (.int 10 1433)⟩) (keyPart (by1 110 1432))) (sD w (es2 w.params) 2 toks os).abs p () (sD w (es3 w.params) 3 toks os).abs p := Ev.run (fun _ => .next) (fun _ _ => rfl) 200 (u2 w toks os p)
theorem ev_s2 (w : World) (toks : Nat) (os : OsState) (p : Pos) : Ev w (dictSet 987 (by1 110 1432) (.int 10 1433)) (sD w (es2 w.params) 2 toks os).abs p () (sD w (es3 w.params) 3 (toks + 1) os).abs p := by
  unfold dictSet dictSetHashed
  refine Ev.keep (Ev.bind (ev_hash w _ _ _ os _ _ p) (Ev.keep (Ev.bind (a := none) (s₁ := (sD w (es2 w.params) 2 (toks + 1) os).abs) (p₁ := p) ?_ (Ev.bind Ev.rule (ev_u2 w _ os p)))))
  refine ev_find (es := es2 w.params) (k := 2) _ _ _ (sD_get w _ _ _ os) ?_ ?_
  · intro e he
    simp only [es2, List.mem_cons, List.not_mem_nil, or_false] at he
    rcases he with rfl | rfl <;> rfl
  · intro e he
    simp only [es2, List.mem_cons, List.not_mem_nil, or_false] at he
    rcases he with rfl | rfl
    · exact e0x2 w _ _ _ _ _ _ _
    · exact e1x2 w _ _ _ _ _ _ _
theorem u3 (w : World) (toks : Nat) (os : OsState) (p : Pos) : ∀ gd lv, Fast.tw10110043849684766642 Fast.tw14364793385576792824 pw w 11 annV 1 200 (sD w (es3 w.params) 3 toks os) ⟨(updateDictKeys 987 (fun a => a.push ⟨PyData.keyHash w.params ⟨#[(UInt8.toNat 102)]⟩, (by1 102 1434), (.int 12 1435)⟩) (keyPart (by1 102 1434))).wrap (fun _ => .pure (.done .next)) deadEnd gd lv, cE, p, BB⟩ = some (.next, sD w (es4 w.params) 4 toks os, cE, p) := by
  intros; kernel_rfl
theorem ev_u3 (w : World) (toks : Nat) (os : OsState) (p : Pos) : Ev w (updateDictKeys 987 (fun a => a.push ⟨PyData.keyHash w.params ⟨#[(UInt8.toNat 102)]⟩, (by1 102 1434), (.int 12 1435)⟩) (keyPart (by1 102 1434))) (sD w (es3 w.params) 3 toks os).abs p () (sD w (es4 w.params) 4 toks os).abs p := Ev.run (fun _ => .next) (fun _ _ => rfl) 200 (u3 w toks os p)
theorem ev_s3 (w : World) (toks : Nat) (os : OsState) (p : Pos) : Ev w (dictSet 987 (by1 102 1434) (.int 12 1435)) (sD w (es3 w.params) 3 toks os).abs p () (sD w (es4 w.params) 4 (toks + 1) os).abs p := by
  unfold dictSet dictSetHashed
  refine Ev.keep (Ev.bind (ev_hash w _ _ _ os _ _ p) (Ev.keep (Ev.bind (a := none) (s₁ := (sD w (es3 w.params) 3 (toks + 1) os).abs) (p₁ := p) ?_ (Ev.bind Ev.rule (ev_u3 w _ os p)))))
  refine ev_find (es := es3 w.params) (k := 3) _ _ _ (sD_get w _ _ _ os) ?_ ?_
  · intro e he
    simp only [es3, List.mem_cons, List.not_mem_nil, or_false] at he
    rcases he with rfl | rfl | rfl <;> rfl
  · intro e he
    simp only [es3, List.mem_cons, List.not_mem_nil, or_false] at he
    rcases he with rfl | rfl | rfl
    · exact e0x3 w _ _ _ _ _ _ _
    · exact e1x3 w _ _ _ _ _ _ _
    · exact e2x3 w _ _ _ _ _ _ _
theorem u4 (w : World) (toks : Nat) (os : OsState) (p : Pos) : ∀ gd lv, Fast.tw10110043849684766642 Fast.tw14364793385576792824 pw w 11 annV 1 200 (sD w (es4 w.params) 4 toks os) ⟨(updateDictKeys 987 (fun a => a.push ⟨PyData.keyHash w.params ⟨#[(UInt8.toNat 114)]⟩, (by1 114 1436), (.int 13 1437)⟩) (keyPart (by1 114 1436))).wrap (fun _ => .pure (.done .next)) deadEnd gd lv, cE, p, BB⟩ = some (.next, sD w (es5 w.params) 5 toks os, cE, p) := by
  intros; kernel_rfl
theorem ev_u4 (w : World) (toks : Nat) (os : OsState) (p : Pos) : Ev w (updateDictKeys 987 (fun a => a.push ⟨PyData.keyHash w.params ⟨#[(UInt8.toNat 114)]⟩, (by1 114 1436), (.int 13 1437)⟩) (keyPart (by1 114 1436))) (sD w (es4 w.params) 4 toks os).abs p () (sD w (es5 w.params) 5 toks os).abs p := Ev.run (fun _ => .next) (fun _ _ => rfl) 200 (u4 w toks os p)
theorem ev_s4 (w : World) (toks : Nat) (os : OsState) (p : Pos) : Ev w (dictSet 987 (by1 114 1436) (.int 13 1437)) (sD w (es4 w.params) 4 toks os).abs p () (sD w (es5 w.params) 5 (toks + 1) os).abs p := by
  unfold dictSet dictSetHashed
  refine Ev.keep (Ev.bind (ev_hash w _ _ _ os _ _ p) (Ev.keep (Ev.bind (a := none) (s₁ := (sD w (es4 w.params) 4 (toks + 1) os).abs) (p₁ := p) ?_ (Ev.bind Ev.rule (ev_u4 w _ os p)))))
  refine ev_find (es := es4 w.params) (k := 4) _ _ _ (sD_get w _ _ _ os) ?_ ?_
  · intro e he
    simp only [es4, List.mem_cons, List.not_mem_nil, or_false] at he
    rcases he with rfl | rfl | rfl | rfl <;> rfl
  · intro e he
    simp only [es4, List.mem_cons, List.not_mem_nil, or_false] at he
    rcases he with rfl | rfl | rfl | rfl
    · exact e0x4 w _ _ _ _ _ _ _
    · exact e1x4 w _ _ _ _ _ _ _
    · exact e2x4 w _ _ _ _ _ _ _
    · exact e3x4 w _ _ _ _ _ _ _
theorem u5 (w : World) (toks : Nat) (os : OsState) (p : Pos) : ∀ gd lv, Fast.tw10110043849684766642 Fast.tw14364793385576792824 pw w 11 annV 1 200 (sD w (es5 w.params) 5 toks os) ⟨(updateDictKeys 987 (fun a => a.push ⟨PyData.keyHash w.params ⟨#[(UInt8.toNat 40)]⟩, (by1 40 1438), (.int 40 1439)⟩) (keyPart (by1 40 1438))).wrap (fun _ => .pure (.done .next)) deadEnd gd lv, cE, p, BB⟩ = some (.next, sD w (es6 w.params) 6 toks os, cE, p) := by
  intros; kernel_rfl
theorem ev_u5 (w : World) (toks : Nat) (os : OsState) (p : Pos) : Ev w (updateDictKeys 987 (fun a => a.push ⟨PyData.keyHash w.params ⟨#[(UInt8.toNat 40)]⟩, (by1 40 1438), (.int 40 1439)⟩) (keyPart (by1 40 1438))) (sD w (es5 w.params) 5 toks os).abs p () (sD w (es6 w.params) 6 toks os).abs p := Ev.run (fun _ => .next) (fun _ _ => rfl) 200 (u5 w toks os p)
theorem ev_s5 (w : World) (toks : Nat) (os : OsState) (p : Pos) : Ev w (dictSet 987 (by1 40 1438) (.int 40 1439)) (sD w (es5 w.params) 5 toks os).abs p () (sD w (es6 w.params) 6 (toks + 1) os).abs p := by
  unfold dictSet dictSetHashed
  refine Ev.keep (Ev.bind (ev_hash w _ _ _ os _ _ p) (Ev.keep (Ev.bind (a := none) (s₁ := (sD w (es5 w.params) 5 (toks + 1) os).abs) (p₁ := p) ?_ (Ev.bind Ev.rule (ev_u5 w _ os p)))))
  refine ev_find (es := es5 w.params) (k := 5) _ _ _ (sD_get w _ _ _ os) ?_ ?_
  · intro e he
    simp only [es5, List.mem_cons, List.not_mem_nil, or_false] at he
    rcases he with rfl | rfl | rfl | rfl | rfl <;> rfl
  · intro e he
    simp only [es5, List.mem_cons, List.not_mem_nil, or_false] at he
    rcases he with rfl | rfl | rfl | rfl | rfl
    · exact e0x5 w _ _ _ _ _ _ _
    · exact e1x5 w _ _ _ _ _ _ _
    · exact e2x5 w _ _ _ _ _ _ _
    · exact e3x5 w _ _ _ _ _ _ _
    · exact e4x5 w _ _ _ _ _ _ _
theorem u6 (w : World) (toks : Nat) (os : OsState) (p : Pos) : ∀ gd lv, Fast.tw10110043849684766642 Fast.tw14364793385576792824 pw w 11 annV 1 200 (sD w (es6 w.params) 6 toks os) ⟨(updateDictKeys 987 (fun a => a.push ⟨PyData.keyHash w.params ⟨#[(UInt8.toNat 41)]⟩, (by1 41 1440), (.int 41 1441)⟩) (keyPart (by1 41 1440))).wrap (fun _ => .pure (.done .next)) deadEnd gd lv, cE, p, BB⟩ = some (.next, sD w (es7 w.params) 7 toks os, cE, p) := by
  intros; kernel_rfl
theorem ev_u6 (w : World) (toks : Nat) (os : OsState) (p : Pos) : Ev w (updateDictKeys 987 (fun a => a.push ⟨PyData.keyHash w.params ⟨#[(UInt8.toNat 41)]⟩, (by1 41 1440), (.int 41 1441)⟩) (keyPart (by1 41 1440))) (sD w (es6 w.params) 6 toks os).abs p () (sD w (es7 w.params) 7 toks os).abs p := Ev.run (fun _ => .next) (fun _ _ => rfl) 200 (u6 w toks os p)
theorem ev_s6 (w : World) (toks : Nat) (os : OsState) (p : Pos) : Ev w (dictSet 987 (by1 41 1440) (.int 41 1441)) (sD w (es6 w.params) 6 toks os).abs p () (sD w (es7 w.params) 7 (toks + 1) os).abs p := by
  unfold dictSet dictSetHashed
  refine Ev.keep (Ev.bind (ev_hash w _ _ _ os _ _ p) (Ev.keep (Ev.bind (a := none) (s₁ := (sD w (es6 w.params) 6 (toks + 1) os).abs) (p₁ := p) ?_ (Ev.bind Ev.rule (ev_u6 w _ os p)))))
  refine ev_find (es := es6 w.params) (k := 6) _ _ _ (sD_get w _ _ _ os) ?_ ?_
  · intro e he
    simp only [es6, List.mem_cons, List.not_mem_nil, or_false] at he
    rcases he with rfl | rfl | rfl | rfl | rfl | rfl <;> rfl
  · intro e he
    simp only [es6, List.mem_cons, List.not_mem_nil, or_false] at he
    rcases he with rfl | rfl | rfl | rfl | rfl | rfl
    · exact e0x6 w _ _ _ _ _ _ _
    · exact e1x6 w _ _ _ _ _ _ _
    · exact e2x6 w _ _ _ _ _ _ _
    · exact e3x6 w _ _ _ _ _ _ _
    · exact e4x6 w _ _ _ _ _ _ _
    · exact e5x6 w _ _ _ _ _ _ _
theorem u7 (w : World) (toks : Nat) (os : OsState) (p : Pos) : ∀ gd lv, Fast.tw10110043849684766642 Fast.tw14364793385576792824 pw w 11 annV 1 200 (sD w (es7 w.params) 7 toks os) ⟨(updateDictKeys 987 (fun a => a.push ⟨PyData.keyHash w.params ⟨#[(UInt8.toNat 92)]⟩, (by1 92 1442), (.int 92 1443)⟩) (keyPart (by1 92 1442))).wrap (fun _ => .pure (.done .next)) deadEnd gd lv, cE, p, BB⟩ = some (.next, sD w (es8 w.params) 8 toks os, cE, p) := by
  intros; kernel_rfl
theorem ev_u7 (w : World) (toks : Nat) (os : OsState) (p : Pos) : Ev w (updateDictKeys 987 (fun a => a.push ⟨PyData.keyHash w.params ⟨#[(UInt8.toNat 92)]⟩, (by1 92 1442), (.int 92 1443)⟩) (keyPart (by1 92 1442))) (sD w (es7 w.params) 7 toks os).abs p () (sD w (es8 w.params) 8 toks os).abs p := Ev.run (fun _ => .next) (fun _ _ => rfl) 200 (u7 w toks os p)
theorem ev_s7 (w : World) (toks : Nat) (os : OsState) (p : Pos) : Ev w (dictSet 987 (by1 92 1442) (.int 92 1443)) (sD w (es7 w.params) 7 toks os).abs p () (sD w (es8 w.params) 8 (toks + 1) os).abs p := by
  unfold dictSet dictSetHashed
  refine Ev.keep (Ev.bind (ev_hash w _ _ _ os _ _ p) (Ev.keep (Ev.bind (a := none) (s₁ := (sD w (es7 w.params) 7 (toks + 1) os).abs) (p₁ := p) ?_ (Ev.bind Ev.rule (ev_u7 w _ os p)))))
  refine ev_find (es := es7 w.params) (k := 7) _ _ _ (sD_get w _ _ _ os) ?_ ?_
  · intro e he
    simp only [es7, List.mem_cons, List.not_mem_nil, or_false] at he
    rcases he with rfl | rfl | rfl | rfl | rfl | rfl | rfl <;> rfl
  · intro e he
    simp only [es7, List.mem_cons, List.not_mem_nil, or_false] at he
    rcases he with rfl | rfl | rfl | rfl | rfl | rfl | rfl
    · exact e0x7 w _ _ _ _ _ _ _
    · exact e1x7 w _ _ _ _ _ _ _
    · exact e2x7 w _ _ _ _ _ _ _
    · exact e3x7 w _ _ _ _ _ _ _
    · exact e4x7 w _ _ _ _ _ _ _
    · exact e5x7 w _ _ _ _ _ _ _
    · exact e6x7 w _ _ _ _ _ _ _
end
end Mine
namespace Mine
section
open PySem PySem.W PyProof.Rows
set_option maxHeartbeats 0
noncomputable def st46 : Stmt := nth top 46
noncomputable def tg46 : List Expr := match st46 with | .Assign t .. => t | _ => []
noncomputable def dk46 : List (Option Expr) := match st46 with | .Assign _ (.Dict k ..) _ => k | _ => []
noncomputable def dv46 : List Expr := match st46 with | .Assign _ (.Dict _ v _) _ => v | _ => []
noncomputable def ap46 : Pos := ⟨572, 0, 572, 92⟩
theorem st46_is : st46 = .Assign tg46 (.Dict dk46 dv46 pD) ap46 := by kernel_rfl
noncomputable def items46 : List (Option (Sem Value) × Sem Value) := (evalEachOpt dk46 env).zip ((evalEach dv46 env).map fun v => do let x ← v; standAt pD; pure x)
noncomputable def pairs46 : List (Sem Value × Sem Value) := items46.filterMap fun (k, v) => k.map (·, v)
noncomputable def behind46 : Option Addr → Sem Value
  | some d => pure (.ref d)
  | none => newDict
theorem disp46 : dictDisplay items46 = (subDict pairs46 >>= fun d => pure (some d)) >>= behind46 := by kernel_rfl
noncomputable def vs46 : List (Value × Value) := [(by1 98 1428, .int 8 1429), (by1 116 1430, .int 9 1431), (by1 110 1432, .int 10 1433), (by1 102 1434, .int 12 1435), (by1 114 1436, .int 13 1437), (by1 40 1438, .int 40 1439), (by1 41 1440, .int 41 1441), (by1 92 1442, .int 92 1443)]
noncomputable def isVs (l : List (Value × Value)) : Flow := if l = vs46 then .next else .brk
theorem isVs_inj : ∀ b, isVs b = isVs vs46 → b = vs46 := fun b h => by
  unfold isVs at h
  rw [if_pos (rfl : vs46 = vs46)] at h
  split at h
  · assumption
  · cases h
theorem pairs_run (w : World) (os : OsState) : ∀ gd lv, Fast.tw10110043849684766642 Fast.tw14364793385576792824 pw w 11 annV 1 400 (sD w [] 0 1428 os) ⟨(evalPairs pairs46).wrap (fun a => .pure (.done (isVs a))) deadEnd gd lv, cE, pD, BB⟩ = some (isVs vs46, sD w [] 0 1444 os, cE, pD) := by
  intros; kernel_rfl
theorem sub_run (w : World) (os : OsState) : Ev w (subDict pairs46) (s46 w os).abs pD 987 (sD w (es8 w.params) 8 1452 os).abs pD := by
  unfold subDict
  refine Ev.bind (a := 987) (s₁ := (sD w [] 0 1428 os).abs) (p₁ := pD) ?_ ?_
  · exact Ev.run (S := s46 w os) (S' := sD w [] 0 1428 os) (fun a => .ret (.ref a)) (fun b h => by cases h; rfl) 200 (by intros; kernel_rfl)
  · refine Ev.bind (a := ()) (s₁ := (sD w (es8 w.params) 8 1452 os).abs) (p₁ := pD) (Ev.keep ?_) Ev.pure
    rw [if_pos (by decide +kernel : pairs46.length ≤ 15)]
    refine Ev.bind (Ev.run (S := sD w [] 0 1428 os) (S' := sD w [] 0 1444 os) isVs isVs_inj 400 (pairs_run w os)) (Ev.keep ?_)
    unfold vs46
    refine Ev.bind (a := PUnit.unit) (s₁ := (sD w (es8 w.params) 8 1452 os).abs) (p₁ := pD) ?_ Ev.pure
    simp only [List.forIn_cons, List.forIn_nil]
    refine Ev.bind (a := .yield PUnit.unit) (Ev.bind (ev_s0 w 1444 os pD) Ev.pure) ?_
    refine Ev.bind (a := .yield PUnit.unit) (Ev.bind (ev_s1 w 1445 os pD) Ev.pure) ?_
    refine Ev.bind (a := .yield PUnit.unit) (Ev.bind (ev_s2 w 1446 os pD) Ev.pure) ?_
    refine Ev.bind (a := .yield PUnit.unit) (Ev.bind (ev_s3 w 1447 os pD) Ev.pure) ?_
    refine Ev.bind (a := .yield PUnit.unit) (Ev.bind (ev_s4 w 1448 os pD) Ev.pure) ?_
    refine Ev.bind (a := .yield PUnit.unit) (Ev.bind (ev_s5 w 1449 os pD) Ev.pure) ?_
    refine Ev.bind (a := .yield PUnit.unit) (Ev.bind (ev_s6 w 1450 os pD) Ev.pure) ?_
    refine Ev.bind (a := .yield PUnit.unit) (Ev.bind (ev_s7 w 1451 os pD) Ev.pure) ?_
    exact Ev.pure
noncomputable def oEsc (P : Params) : Obj := oD (es8 P) 8
theorem swaps_run (w : World) (os : OsState) : ∀ gd lv, Fast.tw10110043849684766642 Fast.tw14364793385576792824 pw w 11 annV 1 400 (s46 w os) ⟨(swapsWithSole tg46 (.Dict dk46 dv46 pD) ap46.line env).wrap (fun a => .pure (.done (.ret (.bool a)))) deadEnd gd lv, cE, ap46, BB⟩ = some (.ret (.bool false), s46 w os, cE, ap46) := by
  intros; kernel_rfl
theorem store_run (w : World) (x : Obj) (os : OsState) : ∀ gd lv, Fast.tw10110043849684766642 Fast.tw14364793385576792824 pw w 11 annV 1 400 (gS ((t46 w.params).ins 987 x) 988 1452 os) ⟨(do assignStores env (.ref 987) (← swappedStores tg46 (.Dict dk46 dv46 pD) env) (List.map Prod.snd (assignEach tg46 env))).wrap (fun a => .pure (.done a)) deadEnd gd lv, cE, pD, BB⟩ = some (.next, s47 w x os, cE, ⟨572, 0, 572, 10⟩) := by
  intros; kernel_rfl
theorem ev46 (w : World) (os : OsState) : Ev w (exec st46 env) (s46 w os).abs ⟨571, 0, 571, 10⟩ .next (s47 w (oEsc w.params) os).abs ⟨572, 0, 572, 10⟩ := by
  rw [st46_is]
  refine Ev.bind Ev.stand ?_
  refine Ev.bind (Ev.run (S := s46 w os) (S' := s46 w os) (fun a => .ret (.bool a)) (fun b h => by cases b <;> first | rfl | cases h) 400 (swaps_run w os)) ?_
  show Ev w (eval (.Dict dk46 dv46 pD) env >>= fun v => _) _ _ _ _ _
  refine Ev.bind (a := .ref 987) (s₁ := (sD w (es8 w.params) 8 1452 os).abs) (p₁ := pD) ?_ ?_
  · refine Ev.bind Ev.stand ?_
    show Ev w (dictDisplay items46) _ _ _ _ _
    rw [disp46]
    exact Ev.bind (Ev.bind (sub_run w os) Ev.pure) Ev.pure
  · exact Ev.run (S := gS ((t46 w.params).ins 987 (oEsc w.params)) 988 1452 os) (S' := s47 w (oEsc w.params) os) (fun a => a) (fun _ h => h) 400 (store_run w (oEsc w.params) os)
end
end Mine
namespace Mine
section
open PySem PySem.W PyProof.Rows
set_option maxHeartbeats 0
noncomputable def sts46 : List Stmt := (top.drop 46).take 1
noncomputable def bShared (w : World) (os : OsState) : Shared := ⟨boot_heap w.params, #[], boot_drawn, boot_toks, os⟩
theorem pre0 (w : World) (os : OsState) : topGo treeTable pw w 11 annV 12 (bShared w os) (topStub pw) = some ((s0 w os).abs, ⟨denote treeTable (.body top env), cE, ⟨0, 0, 0, 0⟩, BB⟩) := by kernel_rfl
theorem block0 (w : World) (os : OsState) : segRun treeTable pw w 11 annV 1 1 (s0 w os).abs (blockOf top env cE ⟨0, 0, 0, 0⟩ BB) = some (.next, (s0 w os).abs, cE, ⟨0, 0, 0, 0⟩) := by kernel_rfl
theorem fin0 (w : World) (x : Obj) (os : OsState) : topRun treeTable pw w 11 annV 2 (s65 w x os).abs ⟨doneF .next, cE, ⟨947, 0, 995, 15⟩, BB⟩ = some (s65 w x os).abs := by kernel_rfl
theorem of_tw {w : World} {n : Nat} {S S' : SharedT} {t : Thread} {f : Flow} {c : Code} {p : Pos} (h : Fast.tw10110043849684766642 Fast.tw14364793385576792824 pw w 11 annV 1 n S t = some (f, S', c, p)) : segRun treeTable pw w 11 annV 1 n S.abs t = some (f, S'.abs, c, p) := by
  rw [← Fast.te10110043849684766642, ← Fast.te14364793385576792824] at h
  exact segRun_of h
theorem piece46 {w : World} {os : OsState} {N : Nat} {r : Shared} {rest : List Stmt} (k : tRun w N (s47 w (oEsc w.params) os).abs (restOf rest env cE ⟨572, 0, 572, 10⟩ BB) = some r) : ∃ n, tRun w (n + N) (s46 w os).abs (restOf (sts46 ++ rest) env cE ⟨571, 0, 571, 10⟩ BB) = some r := by
  have e : sts46 = [st46] := by kernel_rfl
  rw [e, List.singleton_append]
  unfold restOf at k ⊢
  rw [execs_cons_wrap]
  obtain ⟨n, h⟩ := ev46 w os (fun f => match f with | .next => (execs rest env).wrap doneF (leaveH env) id id | f => doneF f) (leaveH env) id id
  exact ⟨n, h N r k⟩
theorem tops_cut : top = sts0 ++ (sts9 ++ (sts19 ++ (sts22 ++ (sts23 ++ (sts24 ++ (sts29 ++ (sts35 ++ (sts40 ++ (sts46 ++ (sts47 ++ (sts55 ++ (sts56 ++ (sts58 ++ (sts59 ++ [])))))))))))))) := by kernel_rfl
theorem whole (w : World) (os : OsState) : ∃ N, tRun w N (bShared w os) (topStub pw) = some (s65 w (oEsc w.params) os).abs := by
  have k65 := piece_nil (env := env) (fin0 w (oEsc w.params) os)
  have k59 := piece_app (of_tw (g59 w (oEsc w.params) os)) k65
  have k58 := piece_app (of_tw (g58 w (oEsc w.params) os)) k59
  have k56 := piece_app (of_tw (g56 w (oEsc w.params) os)) k58
  have k55 := piece_app (of_tw (g55 w (oEsc w.params) os)) k56
  have k47 := piece_app (of_tw (g47 w (oEsc w.params) os)) k55
  obtain ⟨n46, k46⟩ := piece46 k47
  have k40 := piece_app (of_tw (g40 w os)) k46
  have k35 := piece_app (of_tw (g35 w os)) k40
  have k29 := piece_app (of_tw (g29 w os)) k35
  have k24 := piece_app (of_tw (g24 w os)) k29
  have k23 := piece_app (of_tw (g23 w os)) k24
  have k22 := piece_app (of_tw (g22 w os)) k23
  have k19 := piece_app (of_tw (g19 w os)) k22
  have k9 := piece_app (of_tw (g9 w os)) k19
  have k0 := piece_app (of_tw (g0 w os)) k9
  rw [← tops_cut] at k0
  have kb := piece_block (block0 w os) k0
  exact ⟨_, go_top (pre0 w os) kb⟩
end
end Mine
namespace Mine
section
open PySem PySem.W PyProof.Rows
set_option maxHeartbeats 0
noncomputable def qv : Program := { pw with main := { pw.main with body := [nth top 2, nth top 4, nth top 13, nth top 64] } }
noncomputable def loose : List PySem.Str := (["_wall", "PDFEOFError", "Found", "Signs", "HexPairs", "Real", "cast", "LZWDecoder", "_whence", "_index", "UnsupportedOperation", "IOBase", "BufferedIOBase", "TextIOBase", "BytesIO", "StringIO"] : List PySem.Str) ++ (["PSObject", "PSLiteral", "PSKeyword", "PSSymbolTable", "PSLiteralTable", "PSKeywordTable", "LIT", "KWD", "KEYWORD_DICT_BEGIN", "KEYWORD_DICT_END", "EOL", "SPC", "NONSPC", "HEX", "END_LITERAL", "END_HEX_STRING"] : List PySem.Str) ++ (["HEX_PAIR", "END_NUMBER", "END_KEYWORD", "END_STRING", "OCT_STRING", "ESC_STRING", "ABCMeta", "ABC", "AbstractContextManager", "suppress", "PSBaseParser", "PSStackParser", "PDFParser", "PDFStreamParser", "_law_code", "_law_bits"] : List PySem.Str) ++ (["_law_number"] : List PySem.Str)
noncomputable def fin (w : World) (os : OsState) : Shared := (s65 w (oEsc w.params) os).abs
theorem statics1 (w : World) (os : OsState) : (staticsOk [] (bShared w os).heap (fin w os).heap && namesBound pw (fin w os).heap && gensDone (fin w os) && laidKept (bShared w os).heap (fin w os).heap) = true := by kernel_rfl
theorem chains1 : chainsOk qv = true := by decide +kernel
theorem seen1 (w : World) (os : OsState) : seen ((recsOf qv).map (·.name)) (ownsOf qv) [] { fin w os with gens := #[] } = expectedOf qv := by kernel_rfl
theorem blt1 (w : World) (os : OsState) : (fin w os).heap.bltView = bltViewBooted := by kernel_rfl
theorem keys1 (w : World) (os : OsState) : (fin w os).heap.keysOk (looseW qv loose) ((recsOf qv).map (·.name)) ((litsOf qv).map (·.1)) ((clssOf qv (looseW qv loose)).map (·.name)) = true := by kernel_rfl
theorem rest1 (w : World) (os : OsState) : ((fin w os).heap.accountedOkI [] && (fin w os).heap.isNs mainGlobals && (fin w os).heap.isNs builtinsNs && tablesOk qv (fin w os).heap && (fin w os).gens.size == 0) = true := by kernel_rfl
theorem tabs1 (w : World) (os : OsState) : tabsOk qv (fin w os) = true := by kernel_rfl
theorem pinsA (w : World) (os : OsState) : pinSeenD qv (drecsOf qv) (fin w os) = pinGoodD (drecsOf qv) := by kernel_rfl
theorem pinsB (w : World) (os : OsState) : plainSeenE qv (looseW qv loose) (fin w os) = plainGoodE qv (looseW qv loose) := by kernel_rfl
theorem pinsC (w : World) (os : OsState) : plainSeenD qv loose (fin w os) = plainGoodD qv loose := by kernel_rfl
theorem pinsD (w : World) (os : OsState) : wideSeen qv (fin w os) = wideGood qv := by kernel_rfl
theorem pinsE (w : World) (os : OsState) : clsSeenW qv loose (fin w os) = clsGoodW qv loose := by kernel_rfl
end
end Mine
namespace Mine
section
open PySem PySem.W PyProof.Rows PySem.Spec
set_option maxHeartbeats 0
theorem opening_is : opening pw = plainProg pw.main.scope.names := by kernel_rfl
theorem mods_is : importedModules pw.main.body = [] := by kernel_rfl
theorem size0 (w : World) : (boot_heap w.params).objs.size = 11 := by kernel_rfl
theorem main0 (w : World) : (boot_heap w.params).isNs mainGlobals = true := by kernel_rfl
theorem ann0 (w : World) : (boot_heap w.params).nsMap mainGlobals "__annotations__" = annV := by kernel_rfl
abbrev XPt : (Str → Option Value) → Heap → Prop := fun _ _ => True
theorem seen_all (w : World) (os : OsState) : openSeen qv loose [] (fun _ => true) true (fin w os) = openGood qv loose := by
  unfold openSeen openGood
  rw [seen1, blt1, keys1, tabs1, pinsA, pinsB, pinsC, pinsD, pinsE]
  have h := rest1 w os
  simp only [Bool.and_eq_true] at h
  obtain ⟨⟨⟨⟨a, b⟩, c⟩, d⟩, e⟩ := h
  rw [a, b, c, d]
  simp only [Bool.and_self, if_true, e]
theorem head (w : World) : (∃ s, AfterRun (opening pw) w s) ∧ ∀ s, AfterRun (opening pw) w s → ∃ os, fenceModules? pw s = some (bShared w os) ∧ TopRan pw w (bShared w os) (fin w os) ∧ (fin w os).asleep ∧
    Ground qv loose [] XPt w (fin w os) ((fin w os).heap.nsMap mainGlobals) ((fin w os).heap.nsMap builtinsNs) (fin w os).heap := by
  obtain ⟨s₀, h2, hv⟩ := Option.map_eq_some_iff.mp (boot_open (p := pw) (N := 600) opening_is rfl (fun s => rfl) w)
  rw [← table_eq_tree] at h2
  obtain ⟨s, h4, h5⟩ := Option.bind_eq_some_iff.mp h2
  have A := AfterImport.of_importEnds h4
  refine ⟨⟨s, A⟩, fun s' hs' => ?_⟩
  obtain rfl : s' = s := AfterImport.unique hs' A
  obtain ⟨hh, gg, dd, tt, os⟩ := s₀
  simp only [Prod.mk.injEq] at hv
  obtain ⟨rfl, rfl, rfl, rfl⟩ := hv
  refine ⟨os, h5, ?_⟩
  have z : (bShared w os).asleep := Shared.asleep_of_life (fence_lifeW h5) A.life
  obtain ⟨N, hr⟩ := whole w os
  unfold tRun at hr
  rw [← table_eq_tree] at hr
  obtain ⟨a, l, hos, fr⟩ := topRun_spec _ _ _ _ z hr
  have hs := statics1 w os
  obtain ⟨hs, hlk⟩ := Bool.and_eq_true_iff.mp hs
  obtain ⟨hs, hgd⟩ := Bool.and_eq_true_iff.mp hs
  obtain ⟨hs, hnb⟩ := Bool.and_eq_true_iff.mp hs
  obtain ⟨G, _, g1, g2, g3, g4, g5⟩ := ground_of_open (XP := XPt) (w := w) (mods := []) (fun _ _ => trivial) chains1 (seen_all w os)
  refine ⟨⟨a, l, Shared.rest_eq hos, fun b o hb hn => fr b o ?_ (fun q => hn (.inl q)) (fun q => hn (.inr (.inl q))) (fun q => hn (.inr (.inr ((Pin.globalOf_eq (main0 w) _).trans ((ann0 w).trans q))))) hb,
    mods_is ▸ g2, mods_is ▸ statics_of_ok hs, g3, g4, g5, gens_of_done hgd, names_of_bound hnb, laid_of_kept hlk⟩, Shared.asleep_of_life l z, G⟩
  have := Heap.lt_size hb
  exact (size0 w) ▸ this
end
end Mine
namespace Mine
section
open PySem PySem.W PyProof.Rows PySem.Spec
set_option maxHeartbeats 0
noncomputable def goodSt : List (Code × Pos) → Bool
  | [(.builtin id ⟨[], []⟩, _)] => id == "claim.caller"
  | _ => false
noncomputable def guarded (f : Value) (vs : List Value) : Sem Value := stack >>= fun st => if goodSt st = true then PySem.call f vs else pure (.bool true)
noncomputable def behindF (run : Value → Sem Value) : Option Value → Sem Fin
  | some f => run f >>= fun v => ret v
  | none => unsupported "claim.caller:no-such-global"
noncomputable def treeOf (run : Value → List Value → Sem Value) (vs : List Value) : Sem Fin := nsGet mainNs "law" >>= behindF fun f => run f vs
abbrev callerC : Code := .builtin "claim.caller" {}
noncomputable def stubOf (run : Value → List Value → Sem Value) (vs : List Value) : Thread := ⟨treeOf run vs, callerC, default, []⟩
theorem callStub_is (vs : List Value) : callStub "law" vs = stubOf (fun f vs => PySem.call f vs) vs := rfl
section
variable {w : World} {s : Shared} {m : PySem.Str → Option Value} {f : Value}
theorem step_ns (hz : s.asleep) (hg : s.heap.Ns mainGlobals m) (hf : m "law" = some f) (F : Option Value → Sem Fin) :
    sstep (denote table) pw w (.single s ⟨nsGet mainNs "law" >>= F, callerC, default, []⟩) = .go (.single s ⟨F (some f), callerC, default, []⟩) := by
  obtain ⟨o, es, ep, ho, hd, hk, hm⟩ := hg
  have hl : nsLook "law" o = pure (some f) := by
    rw [nsLook_eq]
    unfold nsLookByArray
    rw [hd]
    have := hm "law"
    rw [hf] at this
    unfold nsFind findBy at this
    cases q : es.find? (·.key.isStr "law") with
    | none => rw [q] at this; cases this
    | some e => rw [q] at this; cases this; simp only [q]
  have hs : step (denote table) pw w s ⟨nsGet mainNs "law" >>= F, callerC, default, []⟩ = .go s ⟨F (some f), callerC, default, []⟩ := by
    show step (denote table) pw w s ⟨.load mainNs _ (fun o => (nsLook "law" o).bind F), callerC, default, []⟩ = _
    obtain ⟨hh, g, d, t, os⟩ := s
    simp only [step]
    rw [show hh.get? mainNs = some o from ho]
    show Step.go _ ⟨(nsLook "law" o).bind F, callerC, default, []⟩ = _
    rw [hl]
    rfl
  rcases sstep_single (denote table) pw w s ⟨nsGet mainNs "law" >>= F, callerC, default, []⟩ rfl hz with e | e
  · rw [e, hs]; rfl
  · rw [hs] at e; cases e
theorem step_st (hz : s.asleep) (vs : List Value) :
    sstep (denote table) pw w (.single s ⟨behindF (fun f => guarded f vs) (some f), callerC, default, []⟩) = .go (.single s ⟨behindF (fun f => PySem.call f vs) (some f), callerC, default, []⟩) := by
  have hs : step (denote table) pw w s ⟨behindF (fun f => guarded f vs) (some f), callerC, default, []⟩ = .go s ⟨behindF (fun f => PySem.call f vs) (some f), callerC, default, []⟩ := rfl
  rcases sstep_single (denote table) pw w s ⟨behindF (fun f => guarded f vs) (some f), callerC, default, []⟩ rfl hz with e | e
  · rw [e, hs]; rfl
  · rw [hs] at e; cases e
theorem sched_guard (hz : s.asleep) (hg : s.heap.Ns mainGlobals m) (hf : m "law" = some f) {vs : List Value} {n : Nat} {o : Outcome} {s' : Shared}
    (h : schedN (denote table) pw w n (.single s (stubOf guarded vs)) = .halted o s') : ∃ n', schedN (denote table) pw w n' (.single s (stubOf (fun f vs => PySem.call f vs) vs)) = .halted o s' := by
  have e1 := step_ns (w := w) hz hg hf (behindF fun f => guarded f vs)
  have e2 := step_st (w := w) (f := f) hz vs
  have e3 := step_ns (w := w) hz hg hf (behindF fun f => PySem.call f vs)
  cases n with
  | zero => cases h
  | succ n =>
    unfold schedN stubOf treeOf at h
    rw [e1] at h
    cases n with
    | zero => cases h
    | succ n =>
      unfold schedN at h
      dsimp only at h
      rw [e2] at h
      refine ⟨n + 1, ?_⟩
      unfold schedN stubOf treeOf
      rw [e3]
      exact h
end
theorem callFrom_guard {c : ClaimW} (hp : c.prog = pw) {w : World} {free : Addr → Prop} {gens : Prop} {kept : Heap → Prop} {s : Shared} {m : PySem.Str → Option Value} {f : Value} (hz : s.asleep) (hg : s.heap.Ns mainGlobals m) (hf : m "law" = some f)
    (h : c.CallFrom (stubOf guarded) w free gens kept s) : c.CallFrom (callStub "law") w free gens kept s := by
  intro args hpre hlay ord hord
  obtain ⟨vs, s₁, hl, n, o, s', hr, rest⟩ := h args hpre hlay ord hord
  have hal := layAllW_rest _ _ _ hl
  have keeps := layAllW_keeps _ _ _ hl
  rw [hp] at hr
  obtain ⟨n', hr'⟩ := sched_guard (Shared.asleep_of_life hal.2.2.2 hz) (hg.keeps keeps) hf hr
  refine ⟨vs, s₁, hl, n', o, s', ?_, rest⟩
  rw [hp]
  exact hr'
end
end Mine
namespace Mine
section
open PySem PySem.W PyProof.Rows PySem.Spec
set_option maxHeartbeats 0
abbrev rw4 : RowW := PySem.Challenge.rw_lb0019_04.row.toRowW
noncomputable def Core : Prop := ∀ (w : World) (os : OsState) (s₁ : Shared) (fv : Value),
  Ground qv loose [] XPt w (fin w os) ((fin w os).heap.nsMap mainGlobals) ((fin w os).heap.nsMap builtinsNs) s₁.heap →
  (∀ b o, (fin w os).heap.get? b = some o → s₁.heap.get? b = some o) → (fin w os).heap.nsMap mainGlobals "law" = some fv → s₁.gens = #[] →
  ∀ (a : Addr) (items : Array Value) (ns : List Int), s₁.heap.IsList a items → IntsAre items.toList ns → ns.length ≤ 63 → (fin w os).heap.objs.size ≤ a →
  ∀ Γ p, Γ.In callerA → Γ.code = callerC → Γ.below = [] →
    Sem.wp (model pw w) Γ (PySem.call fv [.ref a]) (fun v _ s' => v = .bool true ∧ OldK s₁.heap s'.heap ∧ s'.os = s₁.os ∧ AllBare s'.gens) (fun _ _ _ => False) p s₁
theorem int_shape {R} : ∀ {d : WData}, WShape.has R d .int = true → ∃ n, d = .int n := by
  intro d h
  cases d <;> first | exact ⟨_, rfl⟩ | exact Bool.noConfusion (show false = true from h)
theorem list_shape {d : WData} : WShape.has [] d (.list .int) = true → ∃ xs, d = .list xs := by
  intro h
  cases d <;> first | exact ⟨_, rfl⟩ | exact Bool.noConfusion (show false = true from h)
theorem ints_of {R cl h} : ∀ {xs : List WData} {vs : List Value} {as : List Addr}, WShape.hasItems R xs .int = true → ReadsAllW R cl h vs xs as → ∃ ns, IntsAre vs ns ∧ ns.length = xs.length
  | [], _, _, _, hr => by cases hr; exact ⟨[], .nil, rfl⟩
  | d :: xs, _, _, hs, hr => by
    unfold WShape.hasItems at hs
    obtain ⟨h1, h2⟩ := Bool.and_eq_true_iff.mp hs
    cases hr with
    | cons hr rest =>
      obtain ⟨ns, e, l⟩ := ints_of h2 rest
      obtain ⟨n, rfl⟩ := int_shape h1
      cases hr
      exact ⟨_, .cons _ _ e, congrArg (· + 1) l⟩
theorem arg_list {w : World} {s₀ s₁ : Shared} {args : List WData} {vs : List Value} {as : List Addr} (hpre : rw4.claim.pre args = true) (L : Laid [] w s₀ s₁ args vs as) :
    ∃ a items ns, vs = [.ref a] ∧ s₁.heap.IsList a items ∧ IntsAre items.toList ns ∧ ns.length ≤ 63 ∧ s₀.heap.objs.size ≤ a := by
  obtain ⟨h1, h2⟩ := Bool.and_eq_true_iff.mp hpre
  have hrd := L.reads
  cases args with
  | nil => cases h1
  | cons d args =>
    cases args with
    | cons _ _ => exact absurd (Bool.and_eq_true_iff.mp (show (WShape.has [] d (.list .int) && false) = true from h1)).2 (by decide)
    | nil =>
      replace h1 : WShape.has [] d (.list .int) = true := by
        have : (WShape.has [] d (.list .int) && WShape.hasAll [] [] []) = true := h1
        exact (Bool.and_eq_true_iff.mp this).1
      clear hpre
      obtain ⟨xs, rfl⟩ := list_shape h1
      replace h1 : WShape.hasItems [] xs .int = true := (Bool.or_false _).symm.trans h1
      replace h2 : WTm.holds [] (.and (.not (.lt (.lit (.int 63)) (.len (.arg 0)))) (.lit (.bool true))) { args := [.list xs] } = true := h2
      have hlen : xs.length ≤ 63 := by
        simp [WTm.holds, WTm.value, PySem.W.less?] at h2
        revert h2
        split <;> intro h2 <;> first | (simp at h2; done) | skip
        rename_i q
        by_cases c : (63 : Int) < xs.length
        · simp [Num.less?, c] at q
        · omega
      cases hrd with
      | cons hr rest =>
        cases rest
        cases hr with
        | list e1 e2 e3 e4 =>
          obtain ⟨ns, i1, i2⟩ := ints_of h1 e4
          refine ⟨_, _, ns, rfl, ⟨_, e1, e2, _, e3⟩, i1, i2 ▸ hlen, ?_⟩
          exact (L.within.2.2 _ (by simp)).1
theorem true_good {args : List WData} {cl mean} {s₁ s' : Shared} (hpre : rw4.claim.pre args = true) (ho : OldK s₁.heap s'.heap) (hos : s'.os = s₁.os) (hb : AllBare s'.gens) : GoodWG rw4.claim cl mean args s₁ (.ok (.ret (.bool true))) s' := by
  refine ⟨.inl ⟨.bool true, .bool true, [], rfl, fun _ => rfl, .bool _, ?_, fun _ => ⟨.nil, fun _ h => (nomatch h)⟩⟩, ho, hos, hb⟩
  show (WShape.has [] (.bool true) .bool && WTm.holds [] (.eq .res (.lit (.bool true))) _) = true
  rw [show WShape.has [] (.bool true) .bool = true from rfl, Bool.true_and]
  simp [WTm.holds, WTm.value, PySem.W.same]
theorem guard_any {M : Model} {f : Value} {vs : List Value} {Q : Value → Shared → Prop} {E : Value → Shared → Prop} {s : Shared} (hB : Q (.bool true) s)
    (h : ∀ Γ p, Γ.In callerA → Γ.code = callerC → Γ.below = [] → Sem.wp M Γ (PySem.call f vs) (fun v _ s' => Q v s') (fun e _ s' => E e s') p s) : wpAny M callerA (guarded f vs) Q E s := by
  intro Γ p hΓ
  show Sem.wp M Γ (if goodSt ((Γ.code, p) :: Γ.below) = true then PySem.call f vs else pure (.bool true)) _ _ p s
  by_cases c : goodSt ((Γ.code, p) :: Γ.below) = true
  · rw [if_pos c]
    have : Γ.code = callerC ∧ Γ.below = [] := by
      unfold goodSt at c
      split at c
      · rename_i id p' he
        have he := List.cons.inj he
        have h1 := (Prod.mk.inj he.1).1
        rw [beq_iff_eq] at c
        subst c
        exact ⟨h1, he.2⟩
      · cases c
    exact h Γ p hΓ this.1 this.2
  · rw [if_neg c]; exact hB
theorem opens_well : opensWell pw = true := by decide +kernel
theorem bare_ : pw.bare := ⟨rfl, rfl, rfl, rfl, rfl, tabs_⟩
theorem keeps_none : rw4.claim.makers = [] := rfl
theorem gens0 (w : World) (os : OsState) : (fin w os).gens = #[] := rfl
theorem isNs0 (w : World) (os : OsState) : (fin w os).heap.isNs mainGlobals = true := by
  have h := rest1 w os
  simp only [Bool.and_eq_true] at h
  exact h.1.1.1.2
theorem law_def : (defOf qv "law").isSome = true := by decide +kernel
theorem law_same : ((defOf qv "law").map fun x => (x.1.params, x.1.body, x.1.scope)) = pw.theDef "law" := by kernel_rfl
theorem law_kw : ((defOf qv "law").bind fun x => kwWritten? x.1.params.kwonlyargs x.1.params.kw_defaults) = (defOf qv "law").map (·.2) := by kernel_rfl
theorem frees_ : (frees rw4 && rw4.within.isEmpty) = true := by decide +kernel
theorem row_holds (core : Core) (said : PySem.Challenge.rw_lb0019_04.row.wellSaid = true) (hw : rw4.promised) : PySem.Challenge.rw_lb0019_04.row.Holds := by
  obtain ⟨hsame, hu, ha, hap, hm⟩ := frees_parts (Bool.and_eq_true_iff.mp frees_).1
  have hwi : rw4.claim.within = [] := List.isEmpty_iff.mp (Bool.and_eq_true_iff.mp frees_).2
  refine ⟨said, hw, ⟨bare_, opens_well, keeps_none⟩, hw.witness, fun w => ⟨(head w).1, fun s' hs' => ?_⟩⟩
  obtain ⟨os, hf, hT, hz, G⟩ := (head w).2 s' hs'
  obtain ⟨⟨d, kwd⟩, hd⟩ := Option.isSome_iff_exists.mp law_def
  have hp := law_same
  have hk := law_kw
  rw [hd] at hp hk
  obtain ⟨fa, fo, pm, cd, doc, dV, kV, h1, h2, h3, h4, h5⟩ := G.fn hd
  have hn : d.name = "law" := defOf_name hd
  refine ⟨bShared w os, hf, rfl, fin w os, hT, fun n hn => ?_, fun x hx => (nomatch hx), fun x hx => (nomatch hx), ?_⟩
  · obtain rfl : n = "law" := List.mem_singleton.mp hn
    exact pinned_of_view (isNs0 w os) G hd hp.symm hk
  · refine callFrom_guard (c := rw4.claim) rfl hz G.T.g h1 (ClaimW.callFrom_of_specG (c := rw4.claim) (tree := treeOf guarded) hz (gens0 w os) fun args hpre hlay ord hord => ?_)
    obtain ⟨⟨vs, s₁⟩, hlaid⟩ := Option.isSome_iff_exists.mp (layAllW_isSome (P := w.params) (ord := ord) G.has args rw4.args (fin w os) (pre_splitW hpre).1)
    have keeps := layAllW_keeps _ _ _ hlaid
    have hal := layAllW_rest _ _ _ hlaid
    obtain ⟨as, hrd, hin, hold⟩ := reads_layAllW hord _ _ _ hlaid hlay s₁.heap (fun _ _ e => e)
    have L : Laid [] w (fin w os) s₁ args vs as := ⟨⟨ord, hord, hlaid⟩, hrd, hin, hold, keeps, hal.1.trans (gens0 w os), hal.2.2.1⟩
    have G₁ := G.keeps (fun _ _ _ _ _ => trivial) keeps
    have hi := ident_freeW hu ha hap
    refine ⟨vs, s₁, hlaid, ?_⟩
    have hw0 : PySem.Challenge.rw_lb0019_04.row.writes = true → False := by intro h; exact absurd h (by decide +kernel)
    show wpAny _ callerA (nsGet mainNs "law" >>= behindF fun f => guarded f vs) _ _ _
    refine wpAny_bind (wpAny_nsGet G₁.T.g ?_)
    rw [h1]
    show wpAny _ callerA (guarded (.ref fa) vs >>= fun v => ret v) _ _ _
    refine wpAny_bind (wpAny_mono (Q := fun v s' => GoodWG rw4.claim (classAt (fin w os).heap) (ExcName.means (fin w os).heap) args s₁ (.ok (.ret v)) s') (E := fun e s' => GoodWG rw4.claim (classAt (fin w os).heap) (ExcName.means (fin w os).heap) args s₁ (.error e) s') (guard_any ?_ fun Γ p hΓ c b => ?_) (fun v s' g => wpAny_pure ⟨_, rfl, have z := g.laid (c := rw4.claim) hsame hwi hi L; ⟨z.1, z.2.1, z.2.2, fun q => (hw0 q).elim⟩⟩) fun e s' g => have z := g.laid (c := rw4.claim) hsame hwi hi L; ⟨z.1, z.2.1, z.2.2, fun q => (hw0 q).elim⟩)
    · exact true_good hpre (.of_keep fun _ _ e => e) rfl (AllBare.of_eq L.gens)
    · obtain ⟨a, items, ns, rfl, hl, hi, hn, low⟩ := arg_list hpre L
      exact Sem.wp_mono (model pw w) Γ _ (fun v p s' (g : v = .bool true ∧ OldK s₁.heap s'.heap ∧ s'.os = s₁.os ∧ AllBare s'.gens) => by obtain ⟨rfl, g1, g2, g3⟩ := g; exact true_good hpre g1 g2 g3) (fun _ _ _ (g : False) => g.elim) _ _ (core w os s₁ (.ref fa) G₁ keeps h1 L.gens a items ns hl hi hn low Γ p hΓ c b)
end
end Mine
namespace Mine
section
open PySem PySem.W PyProof.Rows
theorem map_part {α β γ : Type} {f : α → γ} {g : β → γ} {l : List α} {m : List β} (i n : Nat) (h1 : ((l.drop i).take n).map f = ((m.drop i).take n).map g) (h2 : (l.drop (i + n)).map f = (m.drop (i + n)).map g) : (l.drop i).map f = (m.drop i).map g := by
  have a : (l.drop i).map f = ((l.drop i).take n).map f ++ (l.drop (i + n)).map f := by rw [← List.map_append, ← List.drop_drop, List.take_append_drop]
  have b : (m.drop i).map g = ((m.drop i).take n).map g ++ (m.drop (i + n)).map g := by rw [← List.map_append, ← List.drop_drop, List.take_append_drop]
  rw [a, b, h1, h2]
theorem kk_c0 (w : World) (os : OsState) : ((kAs.drop 0).take 30).map (fin w os).heap.get? = (((KK w.params).drop 0).take 30).map fun p => some p.2 := by kernel_rfl
theorem kk_c30 (w : World) (os : OsState) : ((kAs.drop 30).take 30).map (fin w os).heap.get? = (((KK w.params).drop 30).take 30).map fun p => some p.2 := by kernel_rfl
theorem kk_c60 (w : World) (os : OsState) : ((kAs.drop 60).take 30).map (fin w os).heap.get? = (((KK w.params).drop 60).take 30).map fun p => some p.2 := by kernel_rfl
theorem kk_c90 (w : World) (os : OsState) : ((kAs.drop 90).take 30).map (fin w os).heap.get? = (((KK w.params).drop 90).take 30).map fun p => some p.2 := by kernel_rfl
theorem kk_c120 (w : World) (os : OsState) : ((kAs.drop 120).take 30).map (fin w os).heap.get? = (((KK w.params).drop 120).take 30).map fun p => some p.2 := by kernel_rfl
theorem kk_c150 (w : World) (os : OsState) : ((kAs.drop 150).take 30).map (fin w os).heap.get? = (((KK w.params).drop 150).take 30).map fun p => some p.2 := by kernel_rfl
theorem kk_c180 (w : World) (os : OsState) : ((kAs.drop 180).take 30).map (fin w os).heap.get? = (((KK w.params).drop 180).take 30).map fun p => some p.2 := by kernel_rfl
theorem kk_c210 (w : World) (os : OsState) : ((kAs.drop 210).take 30).map (fin w os).heap.get? = (((KK w.params).drop 210).take 30).map fun p => some p.2 := by kernel_rfl
theorem kk_c240 (w : World) (os : OsState) : ((kAs.drop 240).take 30).map (fin w os).heap.get? = (((KK w.params).drop 240).take 30).map fun p => some p.2 := by kernel_rfl
theorem kk_c270 (w : World) (os : OsState) : ((kAs.drop 270).take 30).map (fin w os).heap.get? = (((KK w.params).drop 270).take 30).map fun p => some p.2 := by kernel_rfl
theorem kk_rest (w : World) (os : OsState) : (kAs.drop 300).map (fin w os).heap.get? = ((KK w.params).drop 300).map fun p => some p.2 := by kernel_rfl
theorem kk_get (w : World) (os : OsState) : kAs.map (fin w os).heap.get? = (KK w.params).map fun p => some p.2 :=
  show (kAs.drop 0).map _ = ((KK w.params).drop 0).map _ from map_part 0 30 (kk_c0 w os) (map_part 30 30 (kk_c30 w os) (map_part 60 30 (kk_c60 w os) (map_part 90 30 (kk_c90 w os) (map_part 120 30 (kk_c120 w os) (map_part 150 30 (kk_c150 w os) (map_part 180 30 (kk_c180 w os) (map_part 210 30 (kk_c210 w os) (map_part 240 30 (kk_c240 w os) (map_part 270 30 (kk_c270 w os) (kk_rest w os))))))))))
theorem kk_in (w : World) (os : OsState) : (KK w.params).In (fin w os).heap := Frag.in_of (kk_as _) (kk_get w os)
end
end Mine
namespace Mine
section
open PySem PySem.W PySem.Calls PyProof.Rows
set_option maxHeartbeats 8000000
theorem fr_know {h₀ h : Heap} {L : Addr} {m : PySem.Str → Option Value} {x : PySem.Str} {v : Value} (F : Fr h₀ L h m) (e : m x = some v) : Fr h₀ L h (fun y => if y = x then some v else m y) := by
  have : (fun y => if y = x then some v else m y) = m := by
    funext y
    split
    · rename_i q; rw [q, e]
    · rfl
  rw [this]; exact F
theorem news_sub {h₀ h : Heap} {L : Addr} {n n' : List (Addr × Obj)} (N : News h₀ L h n) (s : ∀ p ∈ n', p ∈ n) : News h₀ L h n' := fun p hp => N p (s p hp)
/-- a comprehension's source: a range of any step -/
def SrcC (prog : Program) (w : World) (A : Around) (h₀ : Heap) (L : Addr) (m : PySem.Str → Option Value) (env : Env) (elt : PySem.Expr) (x : PySem.Str) (scope : Scope) (cl : List (PySem.Str × Addr)) (Q : Value → Shared → Prop) (xv : Value) (s₁ : Shared) : Prop :=
  ∃ r a b c t u v n news, xv = .ref r ∧ A.handled = none ∧ Fr h₀ L s₁.heap m ∧ News h₀ L s₁.heap news ∧ IsRange s₁.heap r a b c t u v ∧ Builtin.Range.small a b c = true ∧ Builtin.Range.rangeSize a b c = ((n : Nat) : Int) ∧ n ≤ sizeLine ∧
    ∀ g, LCg.CompRest prog w A h₀ L m env elt x scope cl { s₁ with heap := g } (fun _ => True) (fun i v => i < n ∧ ∃ t, v = .int (a + (i : Int) * c) t) (LCg.FinE h₀ L m { s₁ with heap := g } Q) n 0 [] news
section
variable {prog : Program} {w : World} {A : Around} {E : Value → Shared → Prop} {s : Shared} {h₀ : Heap} {L : Addr} {m : PySem.Str → Option Value} {env : Env} {elt iter : PySem.Expr} {x : PySem.Str} {px : Pos} {scope : Scope} {cl : List (PySem.Str × Addr)} {pos : Pos} {Q : Value → Shared → Prop}
theorem SrcC.intro {r : Addr} {a b c : Int} {t u v : Tok} {news : List (Addr × Obj)} {s₁ : Shared} (n : Nat) (hh : A.handled = none) (F : Fr h₀ L s₁.heap m) (N : News h₀ L s₁.heap news) (hr : IsRange s₁.heap r a b c t u v) (hsm : Builtin.Range.small a b c = true) (hn : Builtin.Range.rangeSize a b c = ((n : Nat) : Int)) (hsz : n ≤ sizeLine)
    (h : ∀ g, LCg.CompRest prog w A h₀ L m env elt x scope cl { s₁ with heap := g } (fun _ => True) (fun i v => i < n ∧ ∃ t, v = .int (a + (i : Int) * c) t) (LCg.FinE h₀ L m { s₁ with heap := g } Q) n 0 [] news) :
    SrcC prog w A h₀ L m env elt x scope cl Q (.ref r) s₁ := ⟨r, a, b, c, t, u, v, n, news, rfl, hh, F, N, hr, hsm, hn, hsz, h⟩
theorem comp_rng (_F₀ : Fr h₀ L s.heap m)
    (hclos : closureFor scope env = pure cl) (hcell : ∀ y ∈ scope.names, y.2 ≠ .cell) (hkind : scope.kind = .function)
    (hnames : ∀ y ∈ scope.names, y.2 = .local → scope.names.lookup y.1 = some .local) (hx : scope.names.lookup x = some .local)
    (h : wpAny (model prog w) A (eval iter env) (SrcC prog w A h₀ L m env elt x scope cl Q) E s)
    (hs : ∀ x, foldedSetIterable iter env x = pure x := by intro _; rfl) :
    wpAny (model prog w) A (eval (.ListComp elt [⟨.Name x px, iter, [], 0⟩] scope pos) env) Q E s := by
  rw [eval_ListComp]
  refine wpAny_comprehension_free (use := none) rfl hs hclos hkind hnames (wpAny_mono h (fun xv s₁ h₁ => ?_) fun _ _ e => e)
  obtain ⟨r, a, b, c, t, u, v, n, news, rfl, hh, F, N, hr, hsm, hn, hsz, R⟩ := h₁
  refine wpAny_pyIter_range hr hsm ?_
  refine LCg.block_U (Walks.range hh s₁.heap.objs.size a c n).bound hsz (fun i h st => ⟨_, st⟩) (fun i h h' o nw st e e' _ _ _ => ?_) hcell hkind hx (by show IsRangeIter _ _ _ _ _; rw [hn]; simpa using Heap.get?_push_size _ rfl) (fun b hb => ?_)
    (F.keeps fun _ _ e => Heap.get?_push_of_some _ e) (N.grown fun _ _ e => Heap.get?_push_of_some _ e) (Nat.ne_of_lt F.ns.lt) (next_is_new F) (fun p hp => Nat.ne_of_lt (Heap.lt_size (N p hp).1)) trivial (R _) ?_
  · have st' : h.get? s₁.heap.objs.size = some _ := st
    show h'.get? s₁.heap.objs.size = some _
    rw [e', ← e]; exact st'
  · rw [List.mem_singleton.mp hb]
    show s₁.heap.objs.size < (s₁.heap.push _).objs.size
    rw [Heap.size_push]; exact Nat.lt_succ_self _
  · intro D C h tk m' ys news' F' N' o1 hn hC₀ hD₀ hCL hDL hCD offC fin
    refine ⟨m', hn, fun h'' hs'' => fin D h'' tk (F'.change hs'' hCL hC₀) (fun p hp => ?_) o1⟩
    refine ⟨hs''.extBut _ _ ?_ (N' p hp).1, (N' p hp).2⟩
    rcases List.mem_cons.mp hp with rfl | hp
    · exact Ne.symm hCD
    · exact offC p hp
end
end
end Mine
namespace Mine
section
open PySem PySem.W PySem.Calls PyProof.Rows
theorem sub_nil {α : Type} {l : List α} : ∀ q ∈ ([] : List α), q ∈ l := fun _ h => nomatch h
theorem sub_cons {α : Type} {a : α} {n l : List α} (h : a ∈ l) (t : ∀ q ∈ n, q ∈ l) : ∀ q ∈ a :: n, q ∈ l := fun q hq =>
  match q, hq with
  | _, .head _ => h
  | q, .tail _ hq => t q hq
theorem off_nil {b : List Addr} : OwnOff [] b := fun _ h => nomatch h
theorem off_cons {p : Addr × Obj} {own : List (Addr × Obj)} {b : List Addr} (h : ∀ x ∈ b, p.1 ≠ x) (t : OwnOff own b) : OwnOff (p :: own) b := fun q hq =>
  match q, hq with
  | _, .head _ => h
  | q, .tail _ hq => t q hq
theorem ne_nil {a : Addr} : ∀ x ∈ ([] : List Addr), a ≠ x := fun _ h => nomatch h
theorem ne_cons {a y : Addr} {b : List Addr} (h : @Ne Nat a y) (t : ∀ x ∈ b, a ≠ x) : ∀ x ∈ y :: b, a ≠ x := fun q hq =>
  match q, hq with
  | _, .head _ => h
  | q, .tail _ hq => t q hq
theorem off_sub {own : List (Addr × Obj)} {b b' : List Addr} (h : OwnOff own b) (s : ∀ x ∈ b', x ∈ b) : OwnOff own b' := fun p hp x hx => h p hp x (s x hx)
theorem off_mono {own own' : List (Addr × Obj)} {b b' : List Addr} (h : OwnOff own b) (s : ∀ q ∈ own', q ∈ own) (s' : ∀ x ∈ b', x ∈ b) : OwnOff own' b' := fun p hp x hx => h p (s p hp) x (s' x hx)
theorem off_add {own : List (Addr × Obj)} {b : Addr} {bs : List Addr} (h : ∀ p ∈ own, @Ne Nat p.1 b) (t : OwnOff own bs) : OwnOff own (b :: bs) := fun p hp x hx =>
  match x, hx with
  | _, .head _ => h p hp
  | x, .tail _ hx => t p hp x hx
theorem off_app {own own' : List (Addr × Obj)} {b : List Addr} (h : OwnOff own b) (h' : OwnOff own' b) : OwnOff (own ++ own') b := fun p hp x hx => (List.mem_append.mp hp).elim (fun q => h p q x hx) fun q => h' p q x hx
theorem off_join {own : List (Addr × Obj)} {a b : List Addr} (h : OwnOff own a) (h' : OwnOff own b) : OwnOff own (a ++ b) := fun p hp x hx => (List.mem_append.mp hx).elim (h p hp x) (h' p hp x)
theorem app_sub {α : Type} {a b c : List α} : ∀ q ∈ a ++ b, q ∈ a ++ (b ++ c) := fun _ hq => (List.mem_append.mp hq).elim (List.mem_append_left _) fun h => List.mem_append_right _ (List.mem_append_left _ h)
theorem off_lt {own : List (Addr × Obj)} {d : Nat} {bs : List Addr} (h : ∀ q ∈ own, @LT.lt Nat _ q.1 d) (t : ∀ x ∈ bs, @LE.le Nat _ d x) : OwnOff own bs := fun p hp x hx => Nat.ne_of_lt (Nat.lt_of_lt_of_le (h p hp) (t x hx))
theorem le_nil {d : Nat} : ∀ x ∈ ([] : List Addr), @LE.le Nat _ d x := fun _ h => nomatch h
theorem le_cons {d y : Nat} {b : List Addr} (h : d ≤ y) (t : ∀ x ∈ b, @LE.le Nat _ d x) : ∀ x ∈ (y : Addr) :: b, @LE.le Nat _ d x := fun q hq =>
  match q, hq with
  | _, .head _ => h
  | q, .tail _ hq => t q hq
inductive Stop (P : Prop) : Prop
  | mk (h : P) : Stop P
theorem Stop.out {P : Prop} : Stop P → P
  | .mk h => h
theorem tok_add {M : Model} {α : Type} {A : Around} {t : Sem α} {Q : α → Shared → Prop} {E : Value → Shared → Prop} {h : Heap} {g : Array GenState} {d : Drawn} {x y : Nat} {os : OsState} (H : ∀ k, wpAny M A t Q E ⟨h, g, d, k, os⟩) : wpAny M A t Q E ⟨h, g, d, x + y, os⟩ := H _
end
end Mine
namespace Mine
section
open PySem PySem.W PySem.Calls PyProof.Rows
set_option maxHeartbeats 8000000
abbrev baObj (b : Array UInt8) : Obj := { cls := .type "bytearray", data := .bytearray b 0 }
theorem slot_ba_len : Slot "bytearray" "__len__" "bytearray.__len__" :=
  .of (owner := "bytearray") (n := "__len__") (by rw [typeLookup_type, builtinLookup_eq_fast]; kernel_rfl) (by decide +kernel) (by decide +kernel) (by decide +kernel)
    (by first | exact .inl (by decide +kernel) | exact .inr (by decide +kernel)) (by rw [isSubtype_type]; kernel_rfl)
theorem entry_ba_len : entryFor table "bytearray.__len__" = some Builtin.«bytearray.__len__» := entryFor_of_fast (by kernel_rfl)
theorem args_ba_len (a : Value) : argsOk "bytearray.__len__" ⟨[a], []⟩ := by unfold argsOk; kernel_rfl
theorem slot_ba_item : Slot "bytearray" "__getitem__" "bytearray.__getitem__" :=
  .of (owner := "bytearray") (n := "__getitem__") (by rw [typeLookup_type, builtinLookup_eq_fast]; kernel_rfl) (by decide +kernel) (by decide +kernel) (by decide +kernel)
    (by first | exact .inl (by decide +kernel) | exact .inr (by decide +kernel)) (by rw [isSubtype_type]; kernel_rfl)
theorem entry_ba_item : entryFor table "bytearray.__getitem__" = some Builtin.«bytearray.__getitem__» := entryFor_of_fast (by kernel_rfl)
theorem args_ba_item (a b : Value) : argsOk "bytearray.__getitem__" ⟨[a, b], []⟩ := by unfold argsOk; kernel_rfl
section
variable {prog : Program} {w : World} {A : Around} {E : Value → Shared → Prop} {s : Shared}
theorem ba_type {a : Addr} {b : Array UInt8} (ho : s.heap.get? a = some (baObj b)) : s.TypeIs (.ref a) "bytearray" := ⟨_, ho, rfl⟩
theorem ba_payload {a : Addr} {b : Array UInt8} {Q : Array UInt8 → Shared → Prop} (ho : s.heap.get? a = some (baObj b)) (h : Q b s) : wpAny (model prog w) A (Builtin.Bytes.payload (.ref a)) Q E s := by
  unfold Builtin.Bytes.payload Builtin.Bytes.payload?
  refine wpAny_bind (wpAny_bind (wpAny_load ho ?_))
  exact wpAny_pure (wpAny_pure h)
theorem len_ba {a : Addr} {b : Array UInt8} {Q : Value → Shared → Prop} (ho : s.heap.get? a = some (baObj b)) (hfit : (b.size : Int) < 2 ^ 63)
    (h : Q (.int b.size (s.toks + 1)) { s with toks := s.toks + 1 + 1 }) : wpAny (model prog w) A (call (.builtin "len") [.ref a]) Q E s := by
  refine call_function_entry kind_len plain_len entry_len (args_len1 _) ?_
  unfold Builtin.«len»
  refine wpAny_bind (m := oneArg "len" _) (wpAny_pure ?_)
  refine wpAny_bind (m := callSpecial? (.ref a) (PySem.Str.ofString "__len__")) (wpAny_callSpecial?_slot (name := PySem.Str.ofString "__len__") (ba_type ho) slot_ba_len
    (wpAny_call_entry slot_ba_len (ba_type ho) entry_ba_len ?_ (args_ba_len _)))
  unfold Builtin.«bytearray.__len__»
  refine wpAny_bind (m := slotArgs "__len__" 0 _) (wpAny_pure ?_)
  refine wpAny_bind (ba_payload ho ?_)
  refine wpAny_bind (wpAny_mkInt (wpAny_pure ⟨_, rfl, ?_⟩))
  refine wpAny_bind (wpAny_holding (wpAny_pure ?_))
  refine wpAny_bind (wpAny_letGo ?_)
  show wpAny _ _ (if ((b.size : Nat) : Int) < 0 then _ else _) _ _ _
  rw [if_neg (by (first | lia | omega))]
  show wpAny _ _ (if ((b.size : Nat) : Int) ≥ 2 ^ 63 then _ else _) _ _ _
  rw [if_neg (by (first | lia | omega))]
  exact wpAny_bind (wpAny_mkInt (wpAny_pure ⟨_, rfl, h⟩))
theorem ba_meets_slice (b : Array UInt8) (r a : Addr) {l u : Value} {lo hi : Int} (hl : IsPart l (some lo)) (hu : IsPart u (some hi)) (hz : (KBy.picked b (some lo) (some hi)).size ≤ sizeLine) :
    Meets (Builtin.«bytearray.__getitem__» ⟨[.ref r, .ref a], []⟩) (fun _ R s => s.heap.IsSliceOf a l u .none ∧ s.heap.get? r = some (baObj b) ∧ R (.ok (.ret (.ref s.heap.objs.size))) { s with heap := s.heap.push (baObj (KBy.picked b (some lo) (some hi))) }) := by
  refine .of_wp fun prog w A R s hS => ?_
  obtain ⟨⟨o, ho, hc, hd⟩, hr, h⟩ := hS
  have hT : s.TypeIs (.ref a) "slice" := ⟨o, ho, hc⟩
  show wpAny _ _ (Builtin.Bytes.subscript? (.ref a) >>= fun r => _) _ _ s
  refine wpAny_bind ?_
  unfold Builtin.Bytes.subscript?
  refine wpAny_bind (wpAny_specialOf hT slice_no_index (wpAny_pure ?_))
  refine wpAny_bind (wpAny_typeOf hT ?_)
  show wpAny _ _ (Builtin.Bytes.sliceParts (.ref a) >>= fun r => _) _ _ s
  refine wpAny_bind ?_
  unfold Builtin.Bytes.sliceParts
  refine wpAny_bind (wpAny_field (x := .none) ho hd rfl ?_)
  kby_none
  refine wpAny_ite (KBy.ite_no (show ¬ ((Value.none == rawInt 0) = true) from Bool.false_ne_true) ?_)
  refine wpAny_bind (wpAny_field (x := l) ho hd rfl ?_)
  have go : wpAny (model prog w) A.in1 (sliceIndices (rawPart (some lo)) (rawPart (some hi)) (rawPart none) b.size) (fun r s' => r = sliceBounds (some lo) (some hi) none b.size ∧ s' = s) (fun _ _ => False) s :=
    wpAny_of_eq (sliceIndices_raw (some lo) (some hi) none b.size (fun e => nomatch e)) ⟨rfl, rfl⟩
  cases hl; cases hu
  kby_int
  refine wpAny_bind (wpAny_field (x := .int _ _) ho hd rfl ?_)
  kby_int
  refine wpAny_pure ?_
  refine wpAny_bind (ba_payload hr ?_)
  refine wpAny_bind (wpAny_mono go (fun r s' hr => ?_) fun _ _ e => e.elim)
  obtain ⟨hr1, hr2⟩ := hr
  subst hr1 hr2
  refine wpAny_bind ?_
  unfold Builtin.Bytes.newBytearray
  refine wpAny_newObj_type ?_ (show (KBy.picked b (some lo) (some hi)).size ≤ sizeLine from hz)
  exact wpAny_pure ⟨_, rfl, h⟩
theorem ba_look_buffer : typeLookup (.type "bytearray") "__buffer__" = pure (some (.builtin "bytearray.__buffer__")) := by rw [typeLookup_type, builtinLookup_eq_fast]; kernel_rfl
theorem ba_look_release : typeLookup (.type "bytearray") "__release_buffer__" = pure (some (.builtin "bytearray.__release_buffer__")) := by rw [typeLookup_type, builtinLookup_eq_fast]; kernel_rfl
theorem ba_no_bytes : typeLookup (.type "bytearray") "__bytes__" = pure none := by rw [typeLookup_type, builtinLookup_eq_fast]; kernel_rfl
theorem ba_no_index : typeLookup (.type "bytearray") "__index__" = pure none := by rw [typeLookup_type, builtinLookup_eq_fast]; kernel_rfl
theorem ba_sub : isSubtype (.type "bytearray") (.type "bytearray") = pure true := by rw [isSubtype_type]; kernel_rfl
theorem ba_owns {a : Addr} {b : Array UInt8} {x : String} {Q : Bool → Shared → Prop} {id : String} (ho : s.heap.get? a = some (baObj b)) (hl : typeLookup (.type "bytearray") (PySem.Str.ofString x) = pure (some (.builtin id)))
    (he : id.endsWith ("." ++ x) = true) (hd : id.dropRight (x.length + 1) = "bytearray") (h : Q true s) : wpAny (model prog w) A (Builtin.Bytes.slotIsOwn (.ref a) x) Q E s := by
  unfold Builtin.Bytes.slotIsOwn
  refine wpAny_bind (wpAny_specialOf (ba_type ho) hl ?_)
  dsimp only
  rw [he, hd]
  simp only [Bool.not_true, Bool.false_eq_true, if_false]
  exact wpAny_isInstance (ba_type ho) ba_sub h
theorem ba_ownRelease {a : Addr} {b : Array UInt8} {Q : Bool → Shared → Prop} (ho : s.heap.get? a = some (baObj b)) (h : Q false s) : wpAny (model prog w) A (Builtin.Bytes.ownRelease (.ref a)) Q E s := by
  unfold Builtin.Bytes.ownRelease
  exact wpAny_bind (ba_owns ho ba_look_release (by decide +kernel) (by decide +kernel) (wpAny_pure h))
theorem ba_buffer {a : Addr} {b : Array UInt8} {i : String} {f : Bool} {Q : Option (Array UInt8) → Shared → Prop} (ho : s.heap.get? a = some (baObj b)) (h : Q (some b) s) : wpAny (model prog w) A (Builtin.Bytes.buffer? i (.ref a) f) Q E s := by
  unfold Builtin.Bytes.buffer?
  refine wpAny_bind (wpAny_specialOf (ba_type ho) ba_look_buffer ?_)
  dsimp only
  refine wpAny_bind (ba_owns ho ba_look_buffer (by decide +kernel) (by decide +kernel) ?_)
  simp only [Bool.not_true, Bool.false_eq_true, if_false]
  refine wpAny_bind (wpAny_specialOf (ba_type ho) ba_look_buffer ?_)
  refine wpAny_bind (ba_ownRelease ho ?_)
  simp only [Bool.false_eq_true, if_false]
  exact wpAny_bind (ba_payload ho (wpAny_pure h))
theorem bytes_ba {a : Addr} {b : Array UInt8} {Q : Value → Shared → Prop} (ho : s.heap.get? a = some (baObj b)) (hz : b.size ≤ sizeLine)
    (hQ : ∀ t k, Q (.bytes b t) { s with toks := k }) : wpAny (model prog w) A (call (.type "bytes") [.ref a]) Q E s := by
  have hT := ba_type ho
  have new : codeAny (model prog w) A.in1 (.call (.builtin "bytes.__new__") ⟨[.type "bytes", .ref a], []⟩) (wants (fun obj s₁ => s₁.TypeIs obj "bytes" ∧ Q obj s₁) E) s := by
    refine codeAny_of_tree ?_
    show wpAny _ _ (do checkBuiltinCall "bytes.__new__" ⟨[.type "bytes", .ref a], []⟩; again (.builtin "bytes.__new__" ⟨[.type "bytes", .ref a], []⟩)) _ _ s
    refine wpAny_bind (wpAny_of_eq (F.bm_newCall _) (wpAny_pure ⟨plainId_quiet F.bm_plain _, codeAny_builtin F.bm_entry ?_⟩))
    unfold Builtin.«bytes.__new__»
    refine wpAny_bind (wpAny_of_eq (a := true) rfl ?_)
    refine bm_if_false rfl ?_
    refine wpAny_bind (wpAny_of_eq F.bm_sub ?_)
    refine bm_if_false rfl ?_
    refine wpAny_bind (wpAny_of_eq (F.bm_bind _) ?_)
    refine wpAny_bind (wpAny_of_eq (a := ()) rfl ?_)
    refine wpAny_bind (wpAny_of_eq (a := ()) rfl ?_)
    refine bm_if_false rfl ?_
    refine wpAny_bind (wpAny_specialOf hT ba_no_bytes ?_)
    refine wpAny_bind (wpAny_bind ?_)
    show wpAny _ _ (load a >>= _) _ _ _
    refine wpAny_bind (wpAny_load ho ?_)
    refine wpAny_pure (wpAny_pure ?_)
    refine bm_if_false rfl ?_
    refine wpAny_bind (wpAny_specialOf hT ba_no_index ?_)
    refine bm_if_true rfl ?_
    show wpAny _ _ (Builtin.Bytes.buffer? "bytes.__new__" (.ref a) true >>= _) _ _ _
    refine wpAny_bind (ba_buffer ho ?_)
    refine wpAny_bind (wpAny_rule ?_)
    refine wpAny_bind (wpAny_mkBytes ?_ hz)
    show wpAny _ _ (if (Value.type "bytes" == Value.type "bytes") = true then _ else _) _ _ _
    refine bm_if_true (by decide) ?_
    exact wpAny_pure ⟨PySem.W.typeIs_bytes _ _ _, hQ _ _⟩
  refine callType_codes (Q₁ := fun obj s₁ => s₁.TypeIs obj "bytes" ∧ Q obj s₁) F.bm_called (F.bm_typeCall _) F.entry_object_init new fun obj s₁ h₁ => ?_
  exact ⟨h₁.1, F.args_object_init_2 obj _, object_init_meets F.bm_called.init.lookup F.bm_called.made (by decide) prog w A.in1 _ s₁ ⟨h₁.1, rfl, h₁.2⟩⟩
theorem ba_slice_N {h₀ : Heap} {L r : Addr} {m : PySem.Str → Option Value} {news : List (Addr × Obj)} {value slice : PySem.Expr} {b : Array UInt8} {l u : Value} {lo hi : Int} {Q : Value → Shared → Prop}
    (hF : Fr h₀ L s.heap m) (hN : News h₀ L s.heap news) (hr : (r, baObj b) ∈ news) (hl : IsPart l (some lo)) (hu : IsPart u (some hi)) (hz : (KBy.picked b (some lo) (some hi)).size ≤ sizeLine)
    (h : ∀ h' q, Fr h₀ L h' m → News h₀ L h' ((q, baObj (KBy.picked b (some lo) (some hi))) :: news) → Q (.ref q) { s with heap := h' })
    (hs : subscripted slice false (.ref r) (.ref s.heap.objs.size) = operate [.ref s.heap.objs.size, .ref r] (getItem (.ref r) (.ref s.heap.objs.size)) := by with_unfolding_all rfl)
    (ht : ∀ x, letTemporaryGo value (.ref r) x = pure () := by intro _; with_unfolding_all rfl) :
    wpAny (model prog w) A (subscriptTail value slice (.ref r) (.ref s.heap.objs.size)) Q E { s with heap := s.heap.push { cls := .type "slice", data := .fields #[l, u, .none] } } := by
  have ho : (s.heap.push { cls := .type "slice", data := .fields #[l, u, .none] }).get? r = some (baObj b) := Heap.get?_push_of_some _ (hN _ hr).1
  have N1 := News.push (hF.push { cls := .type "slice", data := .fields #[l, u, .none] }) (hN.grown fun _ _ e => Heap.get?_push_of_some _ e) (baObj (KBy.picked b (some lo) (some hi)))
  exact tail_of_ItemOn ⟨"bytearray", _, slot_ba_item.lookup, ⟨_, ho, rfl⟩, getItem_meets ⟨_, ho, rfl⟩ (by decide) slot_ba_item entry_ba_item (args_ba_item _ _) (ba_meets_slice b r _ hl hu hz)
    ⟨Heap.IsSliceOf.new _ _ _ _, ho, h _ _ ((hF.push _).push _) N1⟩⟩ hs ht
end
end
end Mine
namespace Mine
section
open PySem PySem.W PySem.Calls PyProof.Rows
open Sem (wp)
set_option maxHeartbeats 4000000
/-- builtins that hold a bytearray while they stand on the stack -/
def badIds : List String := ["bytearray.__contains__", "bytearray.__mod__", "bytearray.__rmod__", "_struct.pack_into.held", "bytearray.find.held"] ++ Builtin.Bytes.decodersThatHold
def goodC : Code → Bool
  | .builtin id _ => !badIds.contains id
  | _ => true
def GoodL (l : List (Code × Pos)) : Prop := ∀ x ∈ l, goodC x.1 = true
def wpG {α : Type} (M : Model) (A : Around) (t : Sem α) (Q : α → Shared → Prop) (E : Value → Shared → Prop) (s : Shared) : Prop :=
  ∀ Γ p, Γ.In A → goodC Γ.code = true → GoodL Γ.below → wp M Γ t (fun a _ s' => Q a s') (fun e _ s' => E e s') p s
def codeG (M : Model) (A : Around) (c : Code) (R : Result → Shared → Prop) (s : Shared) : Prop :=
  ∀ Γ p, Γ.code = c → Γ.Below A → GoodL Γ.below → wpCode M Γ R p s
section
variable {α β : Type} {M : Model} {A : Around} {E : Value → Shared → Prop} {s : Shared} {env : Env}
theorem wpG_any {t : Sem α} {Q : α → Shared → Prop} (h : wpAny M A t Q E s) : wpG M A t Q E s := fun Γ p hΓ _ _ => h Γ p hΓ
theorem codeG_any {c : Code} {R : Result → Shared → Prop} (h : codeAny M A c R s) : codeG M A c R s := fun Γ p hc hΓ _ => h Γ p hc hΓ
theorem wpG_pure {a : α} {Q : α → Shared → Prop} (h : Q a s) : wpG M A (pure a) Q E s := fun _ _ _ _ _ => h
theorem wpG_mono {t : Sem α} {Q Q' : α → Shared → Prop} {E' : Value → Shared → Prop} (h : wpG M A t Q E s) (hQ : ∀ a s, Q a s → Q' a s) (hE : ∀ e s, E e s → E' e s) : wpG M A t Q' E' s :=
  fun Γ p hΓ g gl => Sem.wp_mono M Γ t (fun a _ s => hQ a s) (fun e _ s => hE e s) p s (h Γ p hΓ g gl)
theorem wpG_bind {m : Sem α} {f : α → Sem β} {Q : β → Shared → Prop} (h : wpG M A m (fun a s' => wpG M A (f a) Q E s') E s) : wpG M A (m >>= f) Q E s := fun Γ p hΓ g gl => by
  rw [Sem.wp_bind']
  exact Sem.wp_mono M Γ m (fun a p' s' h' => h' Γ p' hΓ g gl) (fun _ _ _ h' => h') p s (h Γ p hΓ g gl)
/-- a piece that asks for no good stack, ahead -/
theorem wpG_ahead {m : Sem α} {f : α → Sem β} {Q : β → Shared → Prop} (h : wpAny M A m (fun a s' => wpG M A (f a) Q E s') E s) : wpG M A (m >>= f) Q E s := wpG_bind (wpG_any h)
/-- the good piece first, the rest asks nothing -/
theorem wpG_first {m : Sem α} {f : α → Sem β} {Q : β → Shared → Prop} (h : wpG M A m (fun a s' => wpAny M A (f a) Q E s') E s) : wpG M A (m >>= f) Q E s := wpG_bind (wpG_mono h (fun _ _ h' => wpG_any h') fun _ _ h' => h')
theorem wpG_map {m : Sem α} {f : α → β} {Q : β → Shared → Prop} (h : wpG M A m (fun a s' => Q (f a) s') E s) : wpG M A (f <$> m) Q E s := fun Γ p hΓ g gl => by rw [Sem.wp_map]; exact h Γ p hΓ g gl
theorem wpG_holding {vs : List Value} {m : Sem α} {Q : α → Shared → Prop} (h : wpG M A m Q E s) : wpG M A (holding vs m) Q E s := fun Γ p hΓ g gl => by rw [Sem.wp_holding]; exact h Γ p hΓ g gl
theorem wpG_onRaise {m : Sem α} {k : Value → Sem Unit} {Q : α → Shared → Prop} (h : wpG M A m Q (fun e s' => wpAny M A (k e) (fun _ s'' => E e s'') E s') s) : wpG M A (m.onRaise k) Q E s := fun Γ p hΓ g gl => by
  rw [Sem.wp_onRaise]
  exact Sem.wp_mono M Γ m (fun _ _ _ h' => h') (fun e p' s' h' => h' Γ p' hΓ) p s (h Γ p hΓ g gl)
theorem wpG_keep {vs : List Value} {m : Sem α} {Q : α → Shared → Prop} (h : wpG M A m Q E s) : wpG M A (m.keep vs) Q E s := fun Γ p hΓ g gl => by rw [Sem.wp_keep]; exact h Γ p hΓ g gl
theorem codeG_mono {c : Code} {R R' : Result → Shared → Prop} (h : codeG M A c R s) (hR : ∀ r s, R r s → R' r s) : codeG M A c R' s := fun Γ p hc hΓ gl => wpCode_mono hR (h Γ p hc hΓ gl)
theorem wpG_runValue {c : Code} {Q : Value → Shared → Prop} (hc : codeG M A c (fun r s' => match r with | .ok (.ret v) => Q v s' | .ok _ => False | .error e => E e s') s) : wpG M A (runValue c) Q E s := fun Γ p hΓ g gl => by
  rw [Sem.wp_runValue]
  refine hc _ p rfl (hΓ.enter c none p (by intro x; cases x)) ?_
  intro x hx
  rcases List.mem_cons.mp hx with rfl | hx
  · exact g
  · exact gl x hx
theorem wpG_call {f : Value} {pos : List Value} {kw : List (PySem.Str × Value)} {Q : Value → Shared → Prop} (hc : codeG M A (.call f ⟨pos, kw⟩) (fun r s' => match r with | .ok (.ret v) => Q v s' | .ok _ => False | .error e => E e s') s) : wpG M A (call f pos kw) Q E s := wpG_runValue hc
theorem codeG_of_tree {c : Code} {R : Result → Shared → Prop} (hg : goodC c = true)
    (h : wpG M (A.under c) (M.den c) (fun fin s' => match fin with | .done f => R (.ok f) s' | .again c' => c'.quiet = true ∧ codeG M A c' R s') (fun e s' => R (.error e) s') s) : codeG M A c R s := fun Γ p hc hΓ gl => by
  rw [wpCode_iff_wp, hc]
  refine Sem.wp_mono M Γ _ (fun fin p' s' h' => ?_) (fun _ _ _ h' => h') p s (h Γ p (hc ▸ hΓ.in) (hc ▸ hg) gl)
  cases fin with
  | done f => exact h'
  | again c' => exact ⟨h'.1, h'.2 (Γ.goto c') p' rfl (hΓ.goto c') gl⟩
theorem codeG_tree_any {c : Code} {R : Result → Shared → Prop}
    (h : wpAny M (A.under c) (M.den c) (fun fin s' => match fin with | .done f => R (.ok f) s' | .again c' => c'.quiet = true ∧ codeG M A c' R s') (fun e s' => R (.error e) s') s) : codeG M A c R s := fun Γ p hc hΓ gl => by
  rw [wpCode_iff_wp, hc]
  refine Sem.wp_mono M Γ _ (fun fin p' s' h' => ?_) (fun _ _ _ h' => h') p s (h Γ p (hc ▸ hΓ.in))
  cases fin with
  | done f => exact h'
  | again c' => exact ⟨h'.1, h'.2 (Γ.goto c') p' rfl (hΓ.goto c') gl⟩
end
section
variable {prog : Program} {w : World} {M : Model} {A : Around} {E : Value → Shared → Prop} {s : Shared} {env : Env} {R : Result → Shared → Prop}
/-- a builtin, called: its arguments are looked at, then it stands on the stack -/
theorem codeG_builtin {id : String} {args : Args} {b : Builtin} (hg : goodC (.builtin id args) = true) (hb : entryFor table id = some b)
    (h : wpG (model prog w) (A.under (.builtin id args)) (b args) (fun fin s' => match fin with | .done f => R (.ok f) s' | .again c' => c'.quiet = true ∧ codeG (model prog w) A c' R s') (fun e s' => R (.error e) s') s) : codeG (model prog w) A (.builtin id args) R s := by
  refine codeG_of_tree hg ?_
  show wpG _ _ (match entryFor table id with | some b => b args | none => unsupported ((withoutEnding? id "#data").getD id)) _ _ s
  rw [hb]; exact h
theorem codeG_call_builtin {id : String} {args : Args} {b : Builtin} (hg : goodC (.builtin id args) = true) (hq : (Code.builtin id args).quiet = true) (hb : entryFor table id = some b)
    (h : wpAny (model prog w) A.in1 (checkBuiltinCall id args) (fun _ s₁ => wpG (model prog w) (A.under (.builtin id args)) (b args)
      (fun fin s' => match fin with | .done f => R (.ok f) s' | .again c' => c'.quiet = true ∧ codeG (model prog w) A c' R s') (fun e s' => R (.error e) s') s₁) (fun e s' => R (.error e) s') s) : codeG (model prog w) A (.call (.builtin id) args) R s := by
  refine codeG_tree_any ?_
  show wpAny _ A.in1 (do checkBuiltinCall id args; again (.builtin id args)) _ _ s
  exact wpAny_bind (wpAny_mono h (fun _ s₁ h₁ => wpAny_pure (And.intro hq (codeG_builtin hg hb h₁))) fun _ _ h' => h')
/-- the body of a def -/
theorem codeG_func {body : List Stmt}
    (h : wpG (model prog w) (A.deeper env) (execs body env) (fun f s' => R (.ok (.ret (match f with | .ret v => v | _ => .none))) s')
      (fun e s' => wpAny (model prog w) (A.deeper env) (leaving env e) (fun _ s'' => R (.error e) s'') (fun e' s'' => R (.error e') s'') s') s) : codeG (model prog w) A (.func body env) R s := by
  refine codeG_of_tree rfl ?_
  show wpG _ (A.deeper env) (do point; match ← (execs body env).onRaise (leaving env) with | .ret v => ret v | _ => ret .none) _ _ s
  refine wpG_ahead (wpAny_point (wpG_bind (wpG_onRaise (wpG_mono h (fun f s' h' => ?_) fun _ _ h' => h'))))
  cases f <;> exact wpG_pure h'
theorem codeG_call_function {a : Addr} {args : Args} {o : Obj} {fd : FuncData} {body : List Stmt} (hroom : A.depth < recursionLimit)
    (ho : s.heap.get? a = some o) (hd' : o.data = .func fd) (hco : fd.scope.isCoroutine = false) (hgen : fd.scope.isGenerator = false) (hbody : fd.body = .stmts body) (hcd : s.heap.CodeRec fd.code fd.qualname)
    (h : wpAny (model prog w) A.in1 (bindArgs fd args) (fun binds s₁ =>
      wpAny (model prog w) A.in1 (newFunctionEnv fd.scope fd.globals fd.closure binds (fd.qualname ++ ".<locals>.") (some a) fd.code none fd.builtins)
        (fun env s₂ => s₂.heap.NoLimit ∧ codeG (model prog w) A (.func body env) R s₂) (fun e s' => R (.error e) s') s₁) (fun e s' => R (.error e) s') s) :
    codeG (model prog w) A (.call (.ref a) args) R s := by
  refine codeG_tree_any ?_
  show wpAny _ A.in1 (callAny (.ref a) args) _ _ s
  simp only [callAny]
  refine wpAny_bind (wpAny_load ho ?_)
  obtain ⟨c, oc, vs, tq, hc, hoc, hdc, hq⟩ := hcd
  simp only [hd', callFunction, hco, hgen, hbody, hc]
  rw [hc] at h
  refine wpAny_bind (m := field (.ref c) 1) (wpAny_field hoc hdc hq (wpAny_bind (wpAny_pure ?_)))
  refine wpAny_bind (wpAny_mono h (fun binds s₁ h₁ => ?_) fun _ _ h' => h')
  refine wpAny_bind (wpAny_mono h₁ (fun env s₂ h₂ => ?_) fun _ _ h' => h')
  exact wpAny_bind (wpAny_enterFrame h₂.1 hroom (wpAny_pure (And.intro rfl h₂.2)))
-- statements
theorem execsG_cons {st : Stmt} {rest : List Stmt} {Q : Flow → Shared → Prop} (h : wpG M A (exec st env) (fun f s' => match f with | .next => wpG M A (execs rest env) Q E s' | f => Q f s') E s) : wpG M A (execs (st :: rest) env) Q E s := by
  rw [execs_cons]
  refine wpG_bind (wpG_mono h (fun f s' h' => ?_) fun _ _ h' => h')
  cases f <;> first | exact h' | exact wpG_pure h'
theorem execG_Expr {e : PySem.Expr} {pos : Pos} {Q : Flow → Shared → Prop} (h : wpG (model prog w) A (eval e env) (fun _ => Q .next) E s)
    (hi : interactive env = false := by rfl) (hs : swapsWith e none pos.line env = pure false := by rfl) : wpG (model prog w) A (exec (.Expr e pos) env) Q E s := by
  rw [exec_Expr env e pos hi hs]
  exact wpG_ahead (wpAny_standAt (wpG_first (wpG_mono h (fun v s' h' => wpAny_dropValue h') fun _ _ x => x)))
theorem execG_Name {x : PySem.Str} {pos' pos : Pos} {value : PySem.Expr} {Q : Flow → Shared → Prop} (h : wpG M A (eval value env) (fun v s₁ => wpAny M A (storeName env x v) (fun _ => Q .next) E s₁) E s)
    (hs : swapsWith value (some (.Name x pos')) pos.line env = pure false := by rfl) : wpG M A (exec (.Assign [.Name x pos'] value pos) env) Q E s := fun Γ p hΓ g gl => by
  simp only [exec_Assign_Name env x pos' value pos hs, Sem.wp_bind', Sem.wp_cmd_standAt, Sem.wp_bindName, Sem.wp_pure']
  exact Sem.wp_mono M Γ _ (fun v _ s₁ h₁ => h₁ Γ _ hΓ) (fun _ _ _ h' => h') _ _ (h Γ _ hΓ g gl)
theorem execG_Attr {o : PySem.Expr} {attr : PySem.Str} {pos' pos : Pos} {value : PySem.Expr} {Q : Flow → Shared → Prop}
    (h : wpG M A (eval value env) (fun v s₁ => wpAny M A (eval o env) (fun ov s₂ => wpAny M A (setAttr ov attr v) (fun _ => Q .next) E s₂) E s₁) E s)
    (hs : swapsWith value (some (.Attribute o attr pos')) pos.line env = pure false := by rfl) : wpG M A (exec (.Assign [.Attribute o attr pos'] value pos) env) Q E s := fun Γ p hΓ g gl => by
  simp only [plainObj_exec_Assign_Attribute o attr pos' value pos hs, assign_Attribute, Sem.wp_bind', Sem.wp_holding, Sem.wp_cmd_standAt, Sem.wp_release, Sem.wp_pure']
  exact Sem.wp_mono M Γ _ (fun v p₁ s₁ h₁ => Sem.wp_mono M Γ _ (fun ov _ s₂ h₂ => h₂ Γ _ hΓ) (fun _ _ _ h' => h') _ _ (h₁ Γ p₁ hΓ)) (fun _ _ _ h' => h') _ _ (h Γ _ hΓ g gl)
-- expressions
theorem G_IfExp {test body orelse pos} {Q : Value → Shared → Prop} (h : wpAny M A (isTrue test env (eval test env)) (fun c s₂ => if c then wpG M A (eval body env) Q E s₂ else wpG M A (eval orelse env) Q E s₂) E s) :
    wpG M A (eval (.IfExp test body orelse pos) env) Q E s := by
  rw [eval_IfExp]
  refine wpG_ahead (wpAny_mono h (fun c s₂ h₂ => ?_) fun _ _ x => x)
  cases c <;> exact h₂
theorem G_Attribute {value : PySem.Expr} {attr : PySem.Str} {pos : Pos} {Q : Value → Shared → Prop}
    (h : wpG (model prog w) A (eval value env) (fun o s₁ => wpAny (model prog w) A (getAttr o attr true) (fun r s₂ => wpAny (model prog w) A (letTemporaryGo value o r) (fun _ s₃ => Q r s₃) E s₂) E s₁) E s)
    (he : eval (.Attribute value attr pos) env = (do
      let o ← eval value env
      standAt pos.atName
      let r ← holding [o] (getAttr o attr true)
      letTemporaryGo value o r
      pure r) := by with_unfolding_all rfl) :
    wpG (model prog w) A (eval (.Attribute value attr pos) env) Q E s := by
  rw [he]
  refine wpG_first (wpG_mono h (fun o s₁ h₁ => ?_) fun _ _ x => x)
  refine wpAny_bind (wpAny_standAt (wpAny_bind (wpAny_holding (wpAny_mono h₁ (fun r s₂ h₂ => ?_) fun _ _ x => x))))
  exact wpAny_bind (wpAny_mono h₂ (fun _ s₃ h₃ => wpAny_pure h₃) fun _ _ x => x)
theorem G_Call {func : PySem.Expr} {args : List PySem.Expr} {pos : Pos} {Q : Value → Shared → Prop}
    (h : wpAny M A (eval func env) (fun f s₁ => wpG M A (callWith pos f [] (backTo pos (starEach args env)) []) Q E s₁) E s)
    (he : eval (.Call func args [] pos) env = (do callWith pos (← eval func env) [] (backTo pos (starEach args env)) (backToKw pos (keywordEach [] env))) := by rfl) :
    wpG M A (eval (.Call func args [] pos) env) Q E s := by
  rw [he]; exact wpG_ahead h
theorem G_MethodCall {o : PySem.Expr} {name : PySem.Str} {apos pos : Pos} {args : List PySem.Expr} {pl : Sem Bool} {Q : Value → Shared → Prop}
    (h : wpAny M A (attributeBase o name env (eval o env)) (fun ov s₁ => wpAny M A (getMethod ov name pl) (fun fx s₂ => wpG M A (callWith pos fx.1 fx.2 (backTo pos (starEach args env)) []) Q E s₂) E s₁) E s)
    (he : eval (.Call (.Attribute o name apos) args [] pos) env = (do
      let ov ← attributeBase o name env (eval o env)
      standAt apos.atName
      let (f, first) ← holding [ov] (getMethod ov name pl)
      callWith pos f first (backTo pos (starEach args env)) []) := by rfl) :
    wpG M A (eval (.Call (.Attribute o name apos) args [] pos) env) Q E s := by
  rw [he]
  refine wpG_ahead (wpAny_mono h (fun ov s₁ h₁ => wpG_ahead (wpAny_standAt (wpG_ahead (wpAny_holding (wpAny_mono h₁ (fun fx s₂ h₂ => ?_) fun _ _ x => x))))) fun _ _ x => x)
  exact h₂
-- arguments
theorem G_spliced {x : Sem Value} {rest : List (Bool × Sem Value)} {Q : List Value → Shared → Prop}
    (h : wpG M A x (fun v s₁ => wpG M A (spliced rest) (fun vs s₂ => Q (v :: vs) s₂) E s₁) E s) : wpG M A (spliced ((false, x) :: rest)) Q E s := by
  rw [spliced]
  refine wpG_bind (wpG_mono h (fun v s₁ h₁ => ?_) fun _ _ x => x)
  simp only [Bool.false_eq_true, if_false]
  exact wpG_ahead (wpAny_pure (wpG_bind (wpG_holding (wpG_mono h₁ (fun vs s₂ h₂ => wpG_pure h₂) fun _ _ x => x))))
theorem G_args {f : Value} {x : Sem Value} {rest : List (Bool × Sem Value)} {Q : Args → Shared → Prop}
    (h : wpG M A (spliced ((false, x) :: rest)) (fun vs s' => Q ⟨vs, []⟩ s') E s) : wpG M A (evalArgs f true ((false, x) :: rest) []) Q E s := by
  unfold evalArgs
  show wpG M A (spliced ((false, x) :: rest) >>= _) Q E s
  refine wpG_bind (wpG_mono h (fun vs s' h' => ?_) fun _ _ x => x)
  refine wpG_holding ?_
  exact wpG_ahead (wpAny_pure (wpG_ahead (wpAny_pure (wpG_pure h'))))
theorem G_callWith {pos : Pos} {f : Value} {first : List Value} {P : Heap → Prop} {args : List (Bool × Sem Value)} {Q : Value → Shared → Prop} (hplain : args.any (·.1) = false)
    (hk : ∀ h, P h → ∃ k, (k = Keeper.frame ∨ k = Keeper.machine ∨ k = Keeper.boundFrame) ∧ Looks M h (keeperOf f) k)
    (h : wpG M A (evalArgs f true args []) (fun a s₁ => P s₁.heap ∧ wpG M A (call f (first ++ a.pos) a.kw) Q E s₁) E s) : wpG M A (callWith pos f first args []) Q E s := by
  unfold callWith
  refine wpG_bind (wpG_holding (wpG_mono h (fun a s₁ h₁ => wpG_ahead (wpAny_standAt ?_)) fun _ _ x => x))
  obtain ⟨k, hk', L⟩ := hk _ h₁.1
  simp only [hplain, List.any_nil, Bool.or_false]
  refine wpG_ahead (L.here ?_)
  have tail : ∀ {t : Sem Value}, wpG M A t Q E s₁ → wpG M A (t >>= fun r => holding [r] point >>= fun _ => pure r) Q E s₁ :=
    fun ht => wpG_first (wpG_mono ht (fun r s₂ hr => wpAny_bind (wpAny_holding (wpAny_point (wpAny_pure hr)))) fun _ _ x => x)
  have marked (mk : Value) : wpG M A (callMarked mk f (first ++ a.pos) a.kw) Q E s₁ := by unfold callMarked; exact wpG_keep h₁.2
  rcases hk' with rfl | rfl | rfl <;> dsimp only <;> first | exact tail h₁.2 | (split <;> first | exact tail h₁.2 | exact tail (marked _))
end
end
end Mine
namespace Mine
section
open PySem PySem.W PySem.Calls PyProof.Rows
open Sem (wp)
set_option maxHeartbeats 4000000
section
variable {prog : Program} {w : World} {M : Model} {A : Around} {E : Value → Shared → Prop} {s : Shared} {env : Env} {R : Result → Shared → Prop}
theorem good_id {id : String} (args : Args) (h : (!badIds.contains id) = true) : goodC (.builtin id args) = true := h
theorem gif_false {α : Type} {c : Bool} {a b : Sem α} {Q : α → Shared → Prop} (hc : c = false) (h : wpG M A b Q E s) : wpG M A (if c = true then a else b) Q E s := by subst hc; exact h
theorem gif_true {α : Type} {c : Bool} {a b : Sem α} {Q : α → Shared → Prop} (hc : c = true) (h : wpG M A a Q E s) : wpG M A (if c = true then a else b) Q E s := by subst hc; exact h
theorem wpG_callType {T newId initId : String} {args : List Value} {Q Q₁ : Value → Shared → Prop} (ft : TypeCalled T newId initId)
    (hct : checkTypeCall T ⟨args, []⟩ = pure ())
    (hnew : codeAny (model prog w) A.in1 (.call (.builtin newId) ⟨.type T :: args, []⟩) (wants Q₁ E) s)
    (hnext : ∀ obj s₁, Q₁ obj s₁ → s₁.TypeIs obj T ∧ codeG (model prog w) A.in1 (.call (.builtin initId) ⟨obj :: args, []⟩) (wants (fun r s₂ => r = .none ∧ Q obj s₂) E) s₁) :
    wpG (model prog w) A (call (.type T) args) Q E s := by
  obtain ⟨c, tl, hmro⟩ := ft.mro
  have hmade := ft.made
  have hsub := ft.sub
  refine wpG_call (codeG_tree_any ?_)
  show wpAny _ _ (callAny (.type T) _) _ _ _
  refine wpAny_pure ⟨Code.quiet_builtin _ (by decide +kernel), codeG_builtin (good_id _ (by decide +kernel)) F.entry_type_call ?_⟩
  rw [Around.under_plain (weight_type_call_type T args []) rfl]
  have h1 := ft.notType
  have h2 := ft.canCreate
  unfold Builtin.«type.__call__»
  dsimp only
  refine gif_false h1 ?_
  refine gif_false h2 ?_
  refine wpG_ahead (wpAny_of_eq hct ?_)
  refine wpG_ahead (wpAny_of_eq hmro ?_)
  refine gif_false rfl ?_
  refine wpG_ahead (wpAny_of_eq hmade ?_)
  dsimp only
  refine wpG_ahead (wpAny_pure ?_)
  refine wpG_ahead (wpAny_holding (wpAny_call (codeAny_mono hnew fun r s₁ hr => ?_)))
  rcases r with e | fl
  · exact hr
  cases fl with
  | ret obj =>
    obtain ⟨hT, hI⟩ := hnext _ _ hr
    refine wpG_ahead (wpAny_isInstance hT hsub ?_)
    refine gif_false rfl ?_
    refine wpG_bind (wpG_holding ?_)
    unfold callSpecial?
    refine wpG_ahead (wpAny_specialOf hT ft.init.lookup ?_)
    dsimp only
    refine wpG_holding (wpG_ahead (wpAny_of_eq (ft.init.bind obj) ?_))
    dsimp only
    refine wpG_first (wpG_call (codeG_mono hI fun r s₂ hr2 => ?_))
    rcases r with e | fl
    · exact hr2
    cases fl with
    | ret v =>
      obtain ⟨rfl, hq⟩ := hr2
      refine wpAny_pure ?_
      refine gif_false rfl ?_
      exact wpG_pure hq
    | _ => exact hr2.elim
  | _ => exact hr.elim
theorem G_splicedE {e : PySem.Expr} {rest : List PySem.Expr} {pos : Pos} {Q : List Value → Shared → Prop}
    (h : wpG M A (eval e env) (fun v s₁ => wpG M A (spliced (backTo pos (starEach rest env))) (fun vs s₂ => Q (v :: vs) s₂) E s₁) E s)
    (he : starEach (e :: rest) env = (false, eval e env) :: starEach rest env := by rfl) : wpG M A (spliced (backTo pos (starEach (e :: rest) env))) Q E s := by
  rw [he]; exact G_spliced h
theorem G_callWithE {pos : Pos} {f : Value} {first : List Value} {P : Heap → Prop} {e : PySem.Expr} {rest : List PySem.Expr} {Q : Value → Shared → Prop}
    (hk : ∀ h, P h → ∃ k, (k = Keeper.frame ∨ k = Keeper.machine ∨ k = Keeper.boundFrame) ∧ Looks M h (keeperOf f) k)
    (h : wpG M A (spliced (backTo pos (starEach (e :: rest) env))) (fun vs s₁ => P s₁.heap ∧ wpG M A (call f (first ++ vs)) Q E s₁) E s)
    (he : starEach (e :: rest) env = (false, eval e env) :: starEach rest env := by rfl) (hplain : (backTo pos (starEach rest env)).any (·.1) = false := by rfl) :
    wpG M A (callWith pos f first (backTo pos (starEach (e :: rest) env)) []) Q E s := by
  rw [he] at h ⊢
  exact G_callWith (P := P) (by show (false || (backTo pos (starEach rest env)).any (·.1)) = false; rw [hplain]; rfl) hk (G_args h)
end
end
end Mine
namespace Mine
section
open PySem PySem.W PySem.Calls PyProof.Rows
open Sem (wp)
set_option maxHeartbeats 4000000
theorem ba_mro : mroOf (.type "bytearray") = pure [.type "bytearray", .type "object"] := by rw [mroOf_type]; kernel_rfl
theorem ba_lookup_new : typeLookup (.type "bytearray") "__new__" = pure (some (.builtin "bytearray.__new__")) := by rw [typeLookup_type, builtinLookup_eq_fast]; kernel_rfl
theorem slot_ba_init : Slot "bytearray" "__init__" "bytearray.__init__" :=
  .of (owner := "bytearray") (n := "__init__") (by rw [typeLookup_type, builtinLookup_eq_fast]; kernel_rfl) (by decide +kernel) (by decide +kernel) (by decide +kernel)
    (by first | exact .inl (by decide +kernel) | exact .inr (by decide +kernel)) (by rw [isSubtype_type]; kernel_rfl)
theorem ba_called : TypeCalled "bytearray" "bytearray.__new__" "bytearray.__init__" :=
  ⟨by decide +kernel, by decide +kernel, ⟨_, _, ba_mro⟩, madeBy_type ba_mro ba_lookup_new (by decide +kernel), by decide +kernel, by rw [isSubtype_type]; kernel_rfl, slot_ba_init⟩
theorem ba_typeCall (a : Value) : checkTypeCall "bytearray" ⟨[a], []⟩ = pure () := by kernel_rfl
theorem ba_newCall (a : Value) : checkBuiltinCall "bytearray.__new__" ⟨[.type "bytearray", a], []⟩ = pure () := by kernel_rfl
theorem entry_ba_new : entryFor table "bytearray.__new__" = some Builtin.«list.__new__» := entryFor_alias (id' := "list.__new__") (by rw [fastTable_eq_tree]; kernel_rfl) (by first | rfl | decide +kernel) (by decide +kernel) (by rw [fastTable_eq_tree]; kernel_rfl)
theorem entry_ba_init : entryFor table "bytearray.__init__" = some Builtin.«bytearray.__init__» := entryFor_of_tree (by kernel_rfl)
theorem args_ba_init (a b : Value) : argsOk "bytearray.__init__" ⟨[a, b], []⟩ := by unfold argsOk; kernel_rfl
theorem plain_ba_new : plainId "bytearray.__new__" = true := by decide +kernel
theorem plain_ba_init : plainId "bytearray.__init__" = true := by decide +kernel
theorem owner_ba_new : ("bytearray.__new__".splitOn ".__new__").headD "" = "bytearray" := by simp +decide [String.splitOn, String.splitOnAux]
theorem bytes_no_index : typeLookup (.type "bytes") "__index__" = pure none := by rw [typeLookup_type, builtinLookup_eq_fast]; kernel_rfl
theorem bytes_buffer : typeLookup (.type "bytes") "__buffer__" = pure (some (.builtin "bytes.__buffer__")) := by rw [typeLookup_type, builtinLookup_eq_fast]; kernel_rfl
theorem bytes_release : typeLookup (.type "bytes") "__release_buffer__" = pure none := by rw [typeLookup_type, builtinLookup_eq_fast]; kernel_rfl
theorem bytes_sub : isSubtype (.type "bytes") (.type "bytes") = pure true := by rw [isSubtype_type]; kernel_rfl
theorem ba_bind (v : Value) : Builtin.Bytes.bindOptional "bytearray.__init__" "bytearray" ["source", "encoding", "errors"] [v] [] = pure [some v, none, none] := by kernel_rfl
section
variable {prog : Program} {w : World} {A : Around} {E : Value → Shared → Prop} {s : Shared}
theorem code_ba_new (a : Value) {Q₁ : Value → Shared → Prop}
    (h : Q₁ (.ref s.heap.objs.size) { s with heap := s.heap.push (baObj #[]) }) : codeAny (model prog w) A (.call (.builtin "bytearray.__new__") ⟨[.type "bytearray", a], []⟩) (wants Q₁ E) s := by
  refine codeAny_of_tree ?_
  show wpAny _ A.in1 (do checkBuiltinCall "bytearray.__new__" ⟨[.type "bytearray", a], []⟩; again (.builtin "bytearray.__new__" ⟨[.type "bytearray", a], []⟩)) _ _ s
  refine wpAny_bind (wpAny_of_eq (ba_newCall a) (wpAny_pure ⟨plainId_quiet plain_ba_new _, codeAny_builtin_stack entry_ba_new rfl fun p st => ?_⟩))
  rw [Around.under_plainId plain_ba_new _]
  have hsub := ba_sub
  have hown := owner_ba_new
  obtain ⟨hp, g, d, tk, os⟩ := s
  simp only [hown]
  wp_walk
  exact h
theorem bytes_owns {b : Array UInt8} {t : Tok} {x : String} {Q : Bool → Shared → Prop} {id : String} (hl : typeLookup (.type "bytes") (PySem.Str.ofString x) = pure (some (.builtin id)))
    (he : id.endsWith ("." ++ x) = true) (hd : id.dropRight (x.length + 1) = "bytes") (h : Q true s) : wpAny (model prog w) A (Builtin.Bytes.slotIsOwn (.bytes b t) x) Q E s := by
  have hT := PySem.W.typeIs_bytes s b t
  unfold Builtin.Bytes.slotIsOwn
  refine wpAny_bind (wpAny_specialOf hT hl ?_)
  dsimp only
  rw [he, hd]
  simp only [Bool.not_true, Bool.false_eq_true, if_false]
  exact wpAny_isInstance hT bytes_sub h
/-- no good stack holds a bytearray -/
theorem exported_G {self : Value} {Q : Bool → Shared → Prop} (h : Q false s) : wpG (model prog w) A (Builtin.Bytes.exported self) Q E s := fun Γ p _ g gl => by
  have hl : GoodL ((Γ.code, p) :: Γ.below) := by
    intro x hx
    rcases List.mem_cons.mp hx with rfl | hx
    · exact g
    · exact gl x hx
  have e : ∀ y, y = false → Q y s := fun y hy => hy ▸ h
  refine e _ ?_
  rw [List.any_eq_false]
  rintro ⟨c, q⟩ hx
  have hg := hl _ hx
  revert hg
  dsimp only [goodC]
  split
  · intro hg
    simp only [badIds, List.cons_append, List.nil_append, List.contains_cons, Bool.not_or, Bool.and_eq_true, Bool.not_eq_true', beq_eq_false_iff_ne, ne_eq] at hg
    obtain ⟨h1, h2, h3, h4, h5, h6⟩ := hg
    split <;> simp_all
  · intro _
    split <;> simp_all
theorem ba_write {a : Addr} {b : Array UInt8} {f : Array UInt8 → Array UInt8} {Q : Unit → Shared → Prop} (ho : s.heap.get? a = some (baObj b)) (hz : (f b).size ≤ sizeLine)
    (h : ∀ h', h'.get? a = some (baObj (f b)) → Heap.SameBut a s.heap h' → Q () { s with heap := h' }) : wpAny (model prog w) A (Builtin.Bytes.write (.ref a) f) Q E s := by
  show wpAny _ _ (updateBytearray a f) _ _ _
  unfold updateBytearray
  refine wpAny_bind (wpAny_load ho ?_)
  show wpAny _ _ (update a (Obj.mapBytearray f) >>= fun _ => lookBehind a) _ _ _
  refine wpAny_bind (wpAny_update ho ?_)
  have h2 : (s.heap.update a (Obj.mapBytearray f)).get? a = some (baObj (f b)) := Heap.get?_update_self (Obj.mapBytearray f) ho rfl
  refine wpAny_lookBehind h2 ?_ (h _ h2 (Heap.SameBut.update ..))
  show (if (f b).size > sizeLine then some "bytearray:memory" else none) = none
  rw [if_neg (Nat.not_lt.mpr hz)]
theorem wif_false {M : Model} {α : Type} {A : Around} {c : Bool} {a b : Sem α} {Q : α → Shared → Prop} {E : Value → Shared → Prop} {s : Shared} (hc : c = false) (H : wpAny M A b Q E s) : wpAny M A (if c = true then a else b) Q E s := by rw [hc]; exact H
theorem code_ba_init {x : Addr} {b : Array UInt8} {t : Tok} {Q : Value → Shared → Prop} (ho : s.heap.get? x = some (baObj #[])) (hz : b.size ≤ sizeLine)
    (h : ∀ h', h'.get? x = some (baObj b) → Heap.SameBut x s.heap h' → Q .none { s with heap := h' }) :
    codeG (model prog w) A (.call (.builtin "bytearray.__init__") ⟨[.ref x, .bytes b t], []⟩) (wants Q E) s := by
  refine codeG_call_builtin (good_id _ (by decide +kernel)) (plainId_quiet plain_ba_init _) entry_ba_init (slot_ba_init.check _ _ _ _ _ _ _ _ (ba_type ho) (args_ba_init _ _) ?_)
  rw [Around.under_plainId plain_ba_init _]
  have hT := PySem.W.typeIs_bytes s b t
  delta Builtin.«bytearray.__init__»
  dsimp only
  refine wpG_ahead (ba_ownRelease ho ?_)
  refine gif_false rfl ?_
  refine wpG_ahead (wpAny_of_eq (ba_bind _) ?_)
  dsimp only
  refine wpG_ahead (wpAny_of_eq (a := ()) rfl ?_)
  refine wpG_ahead (wpAny_of_eq (a := ()) rfl ?_)
  refine wpG_bind (wpG_bind (exported_G ?_))
  show wpG _ _ (Builtin.Bytes.exportsOf (.ref x) >>= _) _ _ _
  delta Builtin.Bytes.exportsOf
  refine wpG_any (wpAny_bind (wpAny_bind (wpAny_load ho ?_)))
  refine wpAny_pure (wpAny_pure ?_)
  refine gif_false (by decide) ?_
  refine wpG_ahead (ba_write ho (by simp) fun h1 e1 k1 => ?_)
  refine wpG_any ?_
  refine wpAny_bind (wpAny_of_eq (a := none) rfl ?_)
  refine wif_false rfl ?_
  refine wpAny_bind (wpAny_pure ?_)
  refine wpAny_bind (wpAny_specialOf (PySem.W.typeIs_bytes _ b t) bytes_no_index ?_)
  refine wif_false rfl ?_
  refine wpAny_bind ?_
  delta Builtin.Bytes.buffer?
  refine wpAny_bind (wpAny_specialOf (PySem.W.typeIs_bytes _ b t) bytes_buffer ?_)
  (try dsimp only)
  refine wpAny_bind (bytes_owns bytes_buffer (by decide +kernel) (by decide +kernel) ?_)
  refine wif_false rfl ?_
  refine wpAny_bind (wpAny_specialOf (PySem.W.typeIs_bytes _ b t) bytes_buffer ?_)
  refine wpAny_bind ?_
  delta Builtin.Bytes.ownRelease
  refine wpAny_bind ?_
  delta Builtin.Bytes.slotIsOwn
  refine wpAny_bind (wpAny_specialOf (PySem.W.typeIs_bytes _ b t) bytes_release ?_)
  refine wpAny_pure (wpAny_pure ?_)
  refine wif_false rfl ?_
  refine wpAny_bind (wpAny_bind (wpAny_pure ?_))
  dsimp only
  refine wpAny_pure (wpAny_pure ?_)
  dsimp only
  refine wpAny_bind (wpAny_rule ?_)
  refine wpAny_bind (ba_write e1 hz fun h2 e2 k2 => ?_)
  exact wpAny_pure (h h2 e2 ⟨k2.1.trans k1.1, fun b hb => (k2.2 b hb).trans (k1.2 b hb)⟩)
end
end
end Mine
namespace Mine
section
open PySem PySem.W PySem.Calls PyProof.Rows
open Sem (wp)
set_option maxHeartbeats 4000000
section
variable {prog : Program} {w : World} {A A₀ : Around} {E : Value → Shared → Prop} {s : Shared} {h₀ base : Heap} {L : Addr} {m mg mb : PySem.Str → Option Value} {news : List (Addr × Obj)} {K : Frag} {p : Program} {loose : List PySem.Str} {mean : ExcName → Option Value} {R : Result → Shared → Prop}
/-- bytearray(b) -/
theorem ba_make {b : Array UInt8} {t : Tok} {Q : Value → Shared → Prop} (F : Fr h₀ L s.heap m) (N : News h₀ L s.heap news) (hz : b.size ≤ sizeLine)
    (h : ∀ x h', Fr h₀ L h' m → News h₀ L h' ((x, baObj b) :: news) → (∀ p ∈ news, p.1 < x) → Q (.ref x) { s with heap := h' }) : wpG (model prog w) A (call (.type "bytearray") [.bytes b t]) Q E s := by
  refine wpG_callType (Q₁ := fun obj s₁ => obj = .ref s.heap.objs.size ∧ s₁ = { s with heap := s.heap.push (baObj #[]) }) ba_called (ba_typeCall _) (code_ba_new _ ⟨rfl, rfl⟩) ?_
  rintro obj s₁ ⟨rfl, rfl⟩
  have ho : (s.heap.push (baObj #[])).get? s.heap.objs.size = some (baObj #[]) := Heap.get?_push_size _ rfl
  refine ⟨ba_type ho, code_ba_init ho hz fun h' e' k' => ⟨rfl, ?_⟩⟩
  have F1 := F.push (baObj #[])
  have N1 := N.push F (baObj #[])
  have z := N1 _ (.head _)
  exact h _ h' (F1.change k' z.2.1 z.2.2) (news_set (pre := []) N1 (fun _ h => nomatch h) (fun p hp => Nat.ne_of_lt (Heap.lt_size (N p hp).1)) k' e') fun p hp => Heap.lt_size (N p hp).1
theorem codeG_def {env : Env} {outer : List Env} {name qual : PySem.Str} {params : Arguments} {body : List Stmt} {scope : Scope} {dV kV doc pm cdv ct oc : Value} {an od : Option Addr} {osl : Array (Option Value)} {f : Addr} {args : Args} {binds : List (PySem.Str × Value)}
    (B : Below A₀ base outer h₀) (F : Fr h₀ L s.heap m) (X₀ : K.In h₀) (N : News h₀ L s.heap news) (T : Top p loose mean mg mb h₀) (hA : A.frames = some (env :: outer)) (hf : env.frame = some L) (hke : env.scope.kind = .function)
    (ho : K.lookup f = some ⟨oc, od, .func (fnOf name qual params body scope dV kV doc pm an cdv ct), osl⟩) (hcd : codeIn K cdv qual = true) (hroom : A.depth < recursionLimit)
    (hbind : BindsTo s (fnOf name qual params body scope dV kV doc pm an cdv ct) args binds) (hloc : ∀ y ∈ binds, scope.names.lookup y.1 = some .local)
    (h : ∀ g L' h₁, Fr h₀ L g m → Fr g L' h₁ (fun y => binds.reverse.lookup y) → News g L' h₁ news → Below A base (env :: outer) g → K.In g → Top p loose mean mg mb g →
      wpG (model prog w) (A.deeper (envOf qual scope L' f cdv)) (execs body (envOf qual scope L' f cdv))
        (fun fl s' => LeaveK h₀ L m g R (match fl with | .ret v => v | _ => .none) s')
        (fun e s' => wpAny (model prog w) (A.deeper (envOf qual scope L' f cdv)) (leaving (envOf qual scope L' f cdv) e) (fun _ s'' => R (.error e) s'') (fun e' s'' => R (.error e') s'') s')
        { s with heap := h₁, toks := s.toks + binds.length })
    (hco : scope.isCoroutine = false) (hgen : scope.isGenerator = false) (hk : scope.kind = .function) (hcell : ∀ x ∈ scope.names, x.2 ≠ .cell) : codeG (model prog w) A (.call (.ref f) args) R s := by
  obtain ⟨FG, BG, st, lv⟩ := groundX (R := R) B F N hA hf hke
  refine codeG_call_function (fd := fnOf name qual params body scope dV kV doc pm an cdv ct) (body := body) hroom ((X₀.keeps F.keep) _ _ ho) rfl hco hgen rfl (codeRec_of (X₀.keeps F.keep) hcd) (hbind _ _ _ _ ?_)
  refine wpAny_newFunctionEnv hcell hloc (fun h₁ hns hsb => ⟨(T.nolimit.keeps F.keep).fresh _ hsb, codeG_func ?_⟩) hk
  have hk₁ : ∀ b o, s.heap.get? b = some o → h₁.get? b = some o := fun b o e => hsb.extBut b o (Nat.ne_of_lt (Heap.lt_size e)) (Heap.get?_push_of_some _ e)
  exact wpG_mono (h _ s.heap.objs.size h₁ FG ⟨hns, fun b o e => hk₁ b o (of_hideAll _ e), Nat.le_of_eq (hideAll_size _ _)⟩
    (fun p hp => ⟨hk₁ _ _ (N p hp).1, Nat.ne_of_lt (Heap.lt_size (N p hp).1), hideAll_none _ (List.mem_map_of_mem hp)⟩) BG (X₀.keeps st) (T.keeps st)) (fun fl s' hl => lv _ _ hl) fun _ _ y => y
end
end
end Mine
namespace Mine
section
open PySem PySem.W PySem.Calls PyProof.Rows
open Sem (wp)
set_option maxHeartbeats 4000000
section
variable {prog : Program} {w : World} {A A₀ : Around} {E : Value → Shared → Prop} {s : Shared} {mg mb : PySem.Str → Option Value} {K : Frag} {p : Program} {loose : List PySem.Str} {mean : ExcName → Option Value} {R : Result → Shared → Prop}
/-- a def with cells, called from the claim's caller -/
theorem codeG_top {name qual : PySem.Str} {params : Arguments} {body : List Stmt} {scope : Scope} {dV kV doc pm cdv ct oc : Value} {an od : Option Addr} {osl : Array (Option Value)} {f : Addr} {args : Args} {binds : List (PySem.Str × Value)}
    (X : K.In s.heap) (T : Top p loose mean mg mb s.heap) (hA : A.frames = some [])
    (ho : K.lookup f = some ⟨oc, od, .func (fnOf name qual params body scope dV kV doc pm an cdv ct), osl⟩) (hcd : codeIn K cdv qual = true) (hroom : A.depth < recursionLimit)
    (hbind : BindsTo s (fnOf name qual params body scope dV kV doc pm an cdv ct) args binds) (hkind : (binds.all fun y => scope.names.lookup y.1 == some .local || scope.names.lookup y.1 == some .cell) = true)
    (hnd : ((cellsFrom 0 scope.names []).map (·.1)).Nodup)
    (h : ∀ L' h₁ tk cells, Fr s.heap L' h₁ (bindL (envOfC qual scope L' f cdv).kindOf binds fun _ => none) → News s.heap L' h₁ cells →
      CellsAre (bindC (envOfC qual scope L' f cdv).kindOf binds fun _ => none) (cellsFrom (L' + 1) scope.names []) cells →
      wpG (model prog w) (A.deeper (envOfC qual scope L' f cdv)) (execs body (envOfC qual scope L' f cdv))
        (fun fl s' => R (.ok (.ret (match fl with | .ret v => v | _ => .none))) s')
        (fun e s' => wpAny (model prog w) (A.deeper (envOfC qual scope L' f cdv)) (leaving (envOfC qual scope L' f cdv) e) (fun _ s'' => R (.error e) s'') (fun e' s'' => R (.error e') s'') s')
        { s with heap := h₁, toks := tk })
    (hco : scope.isCoroutine = false) (hgen : scope.isGenerator = false) (hk : scope.kind = .function) : codeG (model prog w) A (.call (.ref f) args) R s := by
  refine codeG_call_function (fd := fnOf name qual params body scope dV kV doc pm an cdv ct) (body := body) hroom (X _ _ ho) rfl hco hgen rfl (codeRec_of X hcd) (hbind _ _ _ _ ?_)
  refine wpAny_newFunctionEnv_cells hk (kindsX hkind _) fun env' he s' x => ?_
  subst he
  refine ⟨T.nolimit.keeps x.toInCall.keep, codeG_func ?_⟩
  obtain ⟨h₁, tk, rfl, _⟩ := x.done
  have hk₁ := x.toInCall.keep
  obtain ⟨cells, NC, Y⟩ := Cl.news (h₀ := s.heap) (Nat.le_refl _) fun n c hm => ⟨x.cell n c (lookup_of_mem_nodup (cellsFrom_names scope.names 0 (s.heap.objs.size + 1) [] [] rfl ▸ hnd) hm), x.above n c hm⟩
  exact h s.heap.objs.size h₁ tk cells ⟨x.toInCall.ns, fun b o e => hk₁ b o e, Nat.le_refl _⟩ NC Y
theorem wp_execs_split {M : Model} {env : Env} {Γ : Ctx} {Q : Flow → Pos → Shared → Prop} {E : Value → Pos → Shared → Prop} (post : List Stmt) : ∀ (pre : List Stmt) (p : Pos) (s : Shared),
    wp M Γ (execs pre env) (fun f p' s' => match f with | .next => wp M Γ (execs post env) Q E p' s' | f => Q f p' s') E p s → wp M Γ (execs (pre ++ post) env) Q E p s
  | [], _, _, h => h
  | st :: pre, p, s, h => by
    show wp M Γ (execs (st :: (pre ++ post)) env) Q E p s
    rw [execs_cons, Sem.wp_bind'] at h ⊢
    refine Sem.wp_mono M Γ _ (fun f p' s' h' => ?_) (fun _ _ _ h' => h') p s h
    cases f <;> first | exact wp_execs_split post pre p' s' h' | exact h'
theorem execsG_split {M : Model} {env : Env} {Q : Flow → Shared → Prop} (pre post : List Stmt) (h : wpAny M A (execs pre env) (fun f s' => match f with | .next => wpG M A (execs post env) Q E s' | f => Q f s') E s) : wpG M A (execs (pre ++ post) env) Q E s := fun Γ p hΓ g gl => by
  refine wp_execs_split post pre p s (Sem.wp_mono M Γ _ (fun f p' s' h' => ?_) (fun _ _ _ h' => h') p s (h Γ p hΓ))
  cases f <;> first | exact (show wpG M A (execs post env) Q E s' from h') Γ p' hΓ g gl | exact h'
theorem execs_split {M : Model} {env : Env} {Q : Flow → Shared → Prop} (pre post : List Stmt) (h : wpAny M A (execs pre env) (fun f s' => match f with | .next => wpAny M A (execs post env) Q E s' | f => Q f s') E s) : wpAny M A (execs (pre ++ post) env) Q E s := fun Γ p hΓ => by
  refine wp_execs_split post pre p s (Sem.wp_mono M Γ _ (fun f p' s' h' => ?_) (fun _ _ _ h' => h') p s (h Γ p hΓ))
  cases f <;> first | exact (show wpAny M A (execs post env) Q E s' from h') Γ p' hΓ | exact h'
end
end
end Mine
namespace Mine
section
open PySem PyProof.Rows
def numOf : List Int → Int := List.foldl (fun n b => 2 * n + b) 0
def bitsOf (v : Int) : Nat → List Int
  | 0 => []
  | w + 1 => v / 2 ^ w % 2 :: bitsOf v w
theorem bits_len (v : Int) : ∀ w, (bitsOf v w).length = w
  | 0 => rfl
  | w + 1 => by rw [bitsOf, List.length_cons, bits_len v w]
theorem num_acc : ∀ (l : List Int) (a : Int), l.foldl (fun n b => 2 * n + b) a = a * 2 ^ l.length + numOf l
  | [], a => by simp [numOf]
  | x :: r, a => by
    have h1 := num_acc r (2 * a + x)
    have h2 : numOf (x :: r) = (2 * 0 + x) * 2 ^ r.length + numOf r := num_acc r (2 * 0 + x)
    rw [List.foldl_cons, h1, h2, List.length_cons, Int.pow_succ, Int.add_mul, Int.mul_zero, Int.zero_add]
    rw [Int.mul_comm 2 a, Int.mul_assoc, Int.mul_comm 2]
    omega
theorem num_app (l r : List Int) : numOf (l ++ r) = numOf l * 2 ^ r.length + numOf r := by
  rw [numOf, List.foldl_append, num_acc]; rfl
theorem num_bits (v : Int) : ∀ w, numOf (bitsOf v w) = v % 2 ^ w
  | 0 => by simp [numOf, bitsOf, Int.emod_one]
  | w + 1 => by
    rw [bitsOf, numOf, List.foldl_cons, num_acc, num_bits v w, bits_len]
    have hp : (0 : Int) < 2 ^ w := Int.pow_pos (by decide)
    have e0 := Int.emod_add_mul_ediv v (2 ^ w)
    have e1 := Int.emod_add_mul_ediv (v / 2 ^ w) 2
    have r0 := Int.emod_nonneg v (Int.ne_of_gt hp)
    have r1 := Int.emod_lt_of_pos v hp
    have b0 := Int.emod_nonneg (v / 2 ^ w) (by decide : (2 : Int) ≠ 0)
    have b1 := Int.emod_lt_of_pos (v / 2 ^ w) (by decide : (0 : Int) < 2)
    have key : v = (v / 2 ^ w % 2 * 2 ^ w + v % 2 ^ w) + 2 ^ (w + 1) * (v / 2 ^ w / 2) := by
      have e2 : 2 ^ w * (v / 2 ^ w) = 2 ^ w * (v / 2 ^ w % 2 + 2 * (v / 2 ^ w / 2)) := by rw [e1]
      rw [Int.mul_add, ← Int.mul_assoc, ← Int.pow_succ, Int.mul_comm (2 ^ w) (v / 2 ^ w % 2)] at e2
      have e3 : (2 : Int) ^ w.succ * (v / 2 ^ w / 2) = 2 ^ (w + 1) * (v / 2 ^ w / 2) := rfl
      omega
    have lo : 0 ≤ v / 2 ^ w % 2 * 2 ^ w := Int.mul_nonneg b0 (Int.le_of_lt hp)
    have hi : v / 2 ^ w % 2 * 2 ^ w ≤ 1 * 2 ^ w := Int.mul_le_mul_of_nonneg_right (by (first | lia | omega)) (Int.le_of_lt hp)
    have hs : (2 : Int) ^ (w + 1) = 2 ^ w * 2 := Int.pow_succ ..
    have fin : (v / 2 ^ w % 2 * 2 ^ w + v % 2 ^ w) % 2 ^ (w + 1) = v / 2 ^ w % 2 * 2 ^ w + v % 2 ^ w := Int.emod_eq_of_lt (by (first | lia | omega)) (by (first | lia | omega))
    have : v % 2 ^ (w + 1) = v / 2 ^ w % 2 * 2 ^ w + v % 2 ^ w := by
      have := congrArg (· % (2 : Int) ^ (w + 1)) key
      simp only [Int.add_mul_emod_self_left] at this
      rw [this, fin]
    rw [this, Int.mul_zero, Int.zero_add]
theorem and_mask (x : Int) (n : Nat) (hx : 0 ≤ x) : Builtin.bitAnd x (1 * 2 ^ n - 1) = x % 2 ^ n := by
  have hp : (0 : Int) < 2 ^ n := Int.pow_pos (by decide)
  rw [bitAnd_pp hx (by (first | lia | omega))]
  have e : ((1 * 2 ^ n - 1 : Int)).toNat = 2 ^ n - 1 := by
    have : ((2 : Int) ^ n) = ((2 ^ n : Nat) : Int) := by rw [Int.natCast_pow]; rfl
    rw [this]; (first | lia | omega)
  rw [e, Nat.and_two_pow_sub_one_eq_mod]
  have : ((2 : Int) ^ n) = ((2 ^ n : Nat) : Int) := by rw [Int.natCast_pow]; rfl
  rw [Int.natCast_emod, this, Int.toNat_of_nonneg hx]
theorem or_low (v y : Int) (n : Nat) (hv : 0 ≤ v) (hy : 0 ≤ y) (hl : y < 2 ^ n) : Builtin.bitOr (v * 2 ^ n) y = v * 2 ^ n + y := by
  have hp : (0 : Int) < 2 ^ n := Int.pow_pos (by decide)
  have e2 : ((2 : Int) ^ n) = ((2 ^ n : Nat) : Int) := by rw [Int.natCast_pow]; rfl
  rw [bitOr_and, bitAnd_pp (Int.mul_nonneg hv (Int.le_of_lt hp)) hy]
  have e : (v * 2 ^ n).toNat = 2 ^ n * v.toNat := by
    rw [e2, Int.toNat_mul hv (by (first | lia | omega)), Int.toNat_natCast, Nat.mul_comm]
  have z : (2 ^ n * v.toNat) &&& y.toNat = 0 := by
    apply Nat.eq_of_testBit_eq
    intro i
    rw [Nat.testBit_and, Nat.zero_testBit, Nat.testBit_two_pow_mul]
    by_cases h : n ≤ i
    · have : y.toNat.testBit i = false := Nat.testBit_lt_two_pow (Nat.lt_of_lt_of_le (show y.toNat < 2 ^ n by (first | lia | omega)) (Nat.pow_le_pow_right (by decide) h))
      rw [this, Bool.and_false]
    · simp [h]
  rw [e, z]; simp
theorem bits_drop (v : Int) : ∀ (k w : Nat), k ≤ w → (bitsOf v w).drop k = bitsOf v (w - k)
  | 0, w, _ => rfl
  | k + 1, 0, h => absurd h (by (first | lia | omega))
  | k + 1, w + 1, h => by rw [bitsOf, List.drop_succ_cons, bits_drop v k w (by (first | lia | omega)), Nat.add_sub_add_right]
theorem bits_take (v : Int) (hv : 0 ≤ v) : ∀ (n w : Nat), n ≤ w → (bitsOf v w).take n = bitsOf (v / 2 ^ (w - n)) n
  | 0, w, _ => rfl
  | n + 1, 0, h => absurd h (by (first | lia | omega))
  | n + 1, w + 1, h => by
    rw [bitsOf, List.take_succ_cons, bits_take v hv n w (by (first | lia | omega)), bitsOf, Nat.add_sub_add_right]
    congr 1
    rw [Int.ediv_ediv_of_nonneg (Int.le_of_lt (Int.pow_pos (by decide))), ← Int.pow_add]
    congr 3
    omega
def dataBits (data : List UInt8) : List Int := data.flatMap fun x => bitsOf x.toNat 8
theorem data_len : ∀ d : List UInt8, (dataBits d).length = 8 * d.length
  | [] => rfl
  | x :: r => by rw [dataBits, List.flatMap_cons, List.length_append, bits_len, List.length_cons]; have := data_len r; rw [dataBits] at this; (first | lia | omega)
theorem data_drop : ∀ (d : List UInt8) (i : Nat), (dataBits d).drop (8 * i) = dataBits (d.drop i)
  | d, 0 => rfl
  | [], i + 1 => by simp [dataBits]
  | x :: r, i + 1 => by
    rw [List.drop_succ_cons, ← data_drop r i, dataBits, List.flatMap_cons, show 8 * (i + 1) = 8 + 8 * i by (first | lia | omega), ← List.drop_drop]
    have := List.drop_left' (l₁ := bitsOf x.toNat 8) (l₂ := dataBits r) (bits_len x.toNat 8)
    rw [dataBits] at this
    rw [this]; rfl
/-- n bits of the byte i, from its bit k on -/
theorem data_part (d : List UInt8) (i k n : Nat) (x : UInt8) (hx : d[i]? = some x) (h : k + n ≤ 8) : numOf (((dataBits d).drop (8 * i + k)).take n) = (x.toNat : Int) / 2 ^ (8 - k - n) % 2 ^ n := by
  obtain ⟨hi, rfl⟩ := List.getElem?_eq_some_iff.mp hx
  rw [← List.drop_drop, data_drop, List.drop_eq_getElem_cons hi, dataBits, List.flatMap_cons, List.drop_append_of_le_length (by rw [bits_len]; omega), List.take_append_of_le_length (by rw [List.length_drop, bits_len]; omega), bits_drop _ _ _ (by (first | lia | omega)), bits_take _ (by (first | lia | omega)) _ _ (by (first | lia | omega)), num_bits]
theorem take_more (l : List Int) (b j n : Nat) : (l.drop b).take (j + n) = (l.drop b).take j ++ (l.drop (b + j)).take n := by
  rw [List.take_add, List.drop_drop]
end
end Mine
namespace Mine
section
open PySem PySem.W PySem.Calls PyProof.Rows
set_option maxHeartbeats 8000000
theorem num_bound0 : ∀ (ns : List Int) (a : Int) (e : Nat), 0 ≤ a → a < 2 ^ e → (∀ x ∈ ns, 0 ≤ x ∧ x ≤ 1) → 0 ≤ ns.foldl (fun n b => 2 * n + b) a ∧ ns.foldl (fun n b => 2 * n + b) a < 2 ^ (e + ns.length)
  | [], a, e, h0, h1, _ => ⟨h0, h1⟩
  | x :: r, a, e, h0, h1, h => by
    have hx := h x (.head _)
    have := num_bound0 r (2 * a + x) (e + 1) (by (first | lia | omega)) (by rw [Int.pow_succ]; omega) (fun y hy => h y (.tail _ hy))
    rw [List.foldl_cons, List.length_cons, Nat.add_comm r.length 1, ← Nat.add_assoc]
    exact this
theorem num_bound (ns : List Int) (i : Nat) (h : ∀ x ∈ ns, 0 ≤ x ∧ x ≤ 1) (hi : i ≤ 40) : 0 ≤ numOf (ns.take i) ∧ numOf (ns.take i) < 2 ^ 41 := by
  obtain ⟨a, b⟩ := num_bound0 (ns.take i) 0 0 (by (first | lia | omega)) (by decide) (fun x hx => h x (List.mem_of_mem_take hx))
  refine ⟨a, Int.lt_of_lt_of_le b ?_⟩
  have hl : 0 + (ns.take i).length ≤ 41 := by rw [List.length_take]; (first | lia | omega)
  exact_mod_cast Nat.pow_le_pow_right (by decide) hl
theorem num_step (ns : List Int) (i : Nat) (h : i < ns.length) : numOf (ns.take (i + 1)) = 2 * numOf (ns.take i) + ns[i] := by
  rw [List.take_succ_eq_append_getElem h, numOf, List.foldl_append]; rfl
theorem number_spec {w : World} {p : Program} {loose : List PySem.Str} {mean : ExcName → Option Value} {mg mb : PySem.Str → Option Value} {dp un : Nat} {gd : Option (List Code)} {cn : PySem.Str} {cs : Scope} {a : Addr} {ccd : Value} {cl : List (PySem.Str × Addr)} {outer : List Env} {A₀ : Around} {base h₀ : Heap} {L : Addr} {m : PySem.Str → Option Value} {news : List (Addr × Obj)} {s : Shared}
    {Q E : Value → Shared → Prop} {b : Addr} {items : List Value} {ns : List Int} {n : Nat}
    (B : Below A₀ base outer h₀) (F : Fr h₀ L s.heap m) (X : (KK w.params).In h₀) (N : News h₀ L s.heap news) (T : Top p loose mean mg mb h₀) (hk : cs.kind = .function)
    (hb : (b, W.listOf items.toArray n) ∈ news) (hi : IntsAre items ns) (hbit : ∀ x ∈ ns, 0 ≤ x ∧ x ≤ 1) (hlen : ns.length ≤ 40) (hd : dp + 1 < recursionLimit) (hu : un + 8 < cLine)
    (ret : ∀ h' tk t, Fr h₀ L h' m → News h₀ L h' news → Q (.int (numOf ns) t) { s with heap := h', toks := tk }) :
    wpAny (model pw w) (ktrTop dp un gd cn cs L a ccd cl outer) (call (.ref 1440) [.ref b]) Q E s := by
  refine wpAny_call ?_
  k_dflt ktr_enter
  k_steps
  rename Fr _ _ _ _ => F2
  refine For_invVF F2 rfl rfl ?_
  k_steps
  rename News _ _ _ _ => N2
  refine kdl_iter (fun i m nx => nx = news ∧ ∃ t, m "number" = some (.int (numOf (ns.take i)) t)) rfl hb (by assumption) N2 ⟨rfl, _, rfl⟩ ?_ ?_
  · intro i v m₁ news₁ h tk own hv hoff hl hJ F3 N3
    obtain ⟨rfl, t, ht⟩ := hJ
    obtain ⟨hn, u, rfl⟩ : ∃ (hn : i < ns.length) (u : Tok), v = .int ns[i] u := by
      have hlt : i < items.length := by
        rcases Nat.lt_or_ge i items.length with h | h
        · exact h
        · rw [List.getElem?_eq_none h] at hv; cases hv
      have hn : i < ns.length := hi.length ▸ hlt
      obtain ⟨t, hx⟩ := hi.get i ns[i] (by simp [hn])
      rw [hx] at hv
      exact ⟨hn, t, (Option.some.inj hv).symm⟩
    have hb1 := hbit ns[i] (List.getElem_mem hn)
    have hb2 := num_bound ns i hbit (by (first | lia | omega))
    have hk3 := num_step ns i hn
    generalize hk1 : numOf (ns.take i) = k1 at *
    generalize hk2 : ns[i] = k2 at *
    dsimp only at F3 N3 ⊢
    replace F3 := fr_know (x := "number") F3 ((if_neg (by decide)).trans ht)
    k_steps
    refine InvEndG.intro (news' := news₁ ++ own) (nx := news₁) (by assumption) (by assumption) ⟨hb, rfl, by rw [hk3]; exact ⟨_, rfl⟩⟩ hoff (fun p hp => List.mem_append_left _ hp) (fun p hp => List.mem_append_right _ hp)
  · intro m₁ news₁ h tk hJ F3 N3
    obtain ⟨rfl, t, ht⟩ := hJ
    rw [List.take_of_length_le (by rw [hi.length]; exact Nat.le_refl _)] at ht
    generalize hk1 : numOf ns = k1 at *
    dsimp only at F3 N3 ⊢
    replace F3 := fr_know (x := "number") F3 ht
    k_steps
    exact ret _ _ _ (by assumption) (by assumption)
end
end Mine
namespace Mine
section
open PySem PySem.W PySem.Calls PyProof.Rows
set_option maxHeartbeats 8000000
set_option compiler.extract_closed false
local macro_rules | `(tactic| k_room) => `(tactic| ktr_room)
section
variable {w : World} {p : Program} {loose : List PySem.Str} {mean : ExcName → Option Value} {mg mb : PySem.Str → Option Value} {dp un : Nat} {gd : Option (List Code)} {cn : PySem.Str} {cs : Scope} {a : Addr} {ccd : Value} {cl : List (PySem.Str × Addr)} {outer : List Env} {A₀ : Around} {base h₀ : Heap} {L : Addr} {m : PySem.Str → Option Value} {news : List (Addr × Obj)} {s : Shared}
    {Q E : Value → Shared → Prop}
theorem index_spec {n : Int} {x : PySem.Str} {u v : Tok}
    (B : Below A₀ base outer h₀) (F : Fr h₀ L s.heap m) (X : (KK w.params).In h₀) (N : News h₀ L s.heap news) (T : Top p loose mean mg mb h₀) (hk : cs.kind = .function)
    (h0 : 0 ≤ n) (h1 : n ≤ 1000) (hd : dp + 2 < recursionLimit) (hu : un + 40 < cLine)
    (ret : ∀ h' tk t, Fr h₀ L h' m → News h₀ L h' news → Q (.int n t) { s with heap := h', toks := tk }) :
    wpAny (model pw w) (ktrTop dp un gd cn cs L a ccd cl outer) (call (.ref 254) [.int n u, .str x v]) Q E s := by
  refine wpAny_call ?_
  k_dflt ktr_enter
  k_steps
  exact ret _ _ _ (by assumption) (by assumption)
theorem whence_spec {n : Int} {x : PySem.Str} {u v : Tok}
    (B : Below A₀ base outer h₀) (F : Fr h₀ L s.heap m) (X : (KK w.params).In h₀) (N : News h₀ L s.heap news) (T : Top p loose mean mg mb h₀) (hk : cs.kind = .function)
    (h0 : 0 ≤ n) (h1 : n ≤ 1000) (hd : dp + 4 < recursionLimit) (hu : un + 80 < cLine)
    (ret : ∀ h' tk t, Fr h₀ L h' m → News h₀ L h' news → Q (.int n t) { s with heap := h', toks := tk }) :
    wpAny (model pw w) (ktrTop dp un gd cn cs L a ccd cl outer) (call (.ref 247) [.int n u, .str x v]) Q E s := by
  refine wpAny_call ?_
  k_dflt ktr_enter
  (repeat' (first | (k_unfold; (try dsimp only)) | (k_end; kc_close) | (k_here; (with_reducible show wpAny _ _ (call (Value.ref 254) _) _ _ _); k_dflt (refine' index_spec ?kB ?kF ?kX ?kN ?kT ?kk ?k0 ?k1 ?k4 ?k5 (fun h' tk' t' F' N' => ?_); (case kB => k_asm); (case kF => k_asm); (case kX => k_asm); (case kN => k_asm); (case kT => k_asm); (case kk => exact rfl); (case k0 => first | assumption | decide); (case k1 => first | assumption | decide); (case k4 => ktr_room); (case k5 => ktr_room))) | walk1 | (dsimp only; walk1) | (leave1; (try dsimp only)) | fail "no step"))
  exact ret _ _ _ (by assumption) (by assumption)
end
end
end Mine
namespace Mine
section
open PySem PySem.W PySem.Calls PyProof.Rows
set_option maxHeartbeats 8000000
set_option compiler.extract_closed false
theorem wReset27 : 1 = 1 := by walk1
local macro_rules | `(tactic| k_room) => `(tactic| ktr_room)
local macro_rules | `(tactic| walk_at "call ref") => `(tactic| (k_here; (with_reducible show wpAny _ _ (call (Value.ref 254) _) _ _ _); refine Stop.out ?_))
theorem news_tail {h₀ h : Heap} {L : Addr} {x : Addr × Obj} {n : List (Addr × Obj)} (N : News h₀ L h (x :: n)) : News h₀ L h n := fun p hp => N p (.tail _ hp)
abbrev instOf (C d : Addr) : Obj := ⟨.ref C, some d, .plain, #[]⟩
abbrev ioD (P : Params) (ba : Addr) (pos : Int) (k1 k2 t : Tok) : Obj := dictOf [⟨PyData.keyHash P "_BytesIO__buf", .str "_BytesIO__buf" k1, .ref ba⟩, ⟨PyData.keyHash P "_BytesIO__pos", .str "_BytesIO__pos" k2,   .int pos t⟩] 2
theorem picked_one (data : Array UInt8) (pos : Nat) (h : pos < data.size) : KBy.picked data (some (pos : Int)) (some ((pos : Int) + 1)) = #[data[pos]] := by
  have e : ((pos : Int) + 1) = ((pos + 1 : Nat) : Int) := by (first | lia | omega)
  rw [e, KBc.picked_eq]
  simp only [Option.elim, clipAt_nat]
  rw [Nat.min_eq_left (Nat.le_of_lt h), Nat.min_eq_left h, show pos.succ - pos = 1 by (first | lia | omega), List.drop_eq_getElem_cons (by simpa using h)]
  simp
section
variable {w : World} {p : Program} {loose : List PySem.Str} {mean : ExcName → Option Value} {mg mb : PySem.Str → Option Value} {dp un : Nat} {gd : Option (List Code)} {cn : PySem.Str} {cs : Scope} {a : Addr} {ccd : Value} {cl : List (PySem.Str × Addr)} {outer : List Env} {A₀ : Around} {base h₀ : Heap} {L : Addr} {m : PySem.Str → Option Value} {news : List (Addr × Obj)} {s : Shared}
    {Q E : Value → Shared → Prop}
theorem read_spec {f fd ba : Addr} {data : Array UInt8} {pos : Nat} {k1 k2 t u : Tok}
    (B : Below A₀ base outer h₀) (F : Fr h₀ L s.heap m) (X : (KK w.params).In h₀) (N : News h₀ L s.heap ((f, instOf 541 fd) :: (fd, ioD w.params ba pos k1 k2 t) :: (ba, baObj data) :: news)) (T : Top p loose mean mg mb h₀) (hk : cs.kind = .function)
    (off : OwnOff news [f, fd, ba]) (hne1 : @Ne Nat f fd) (hne2 : @Ne Nat fd ba) (hsz : data.size ≤ 1000) (hd : dp + 3 < recursionLimit) (hu : un + 80 < cLine)
    (ret1 : ∀ h' tk t' t'' (hp : pos < data.size), Fr h₀ L h' m → News h₀ L h' ((f, instOf 541 fd) :: (fd, ioD w.params ba (pos + 1) k1 k2 t') :: (ba, baObj data) :: news) → Q (.bytes #[data[pos]] t'') { s with heap := h', toks := tk })
    (ret0 : ∀ h' tk t', data.size ≤ pos → Fr h₀ L h' m → News h₀ L h' ((f, instOf 541 fd) :: (fd, ioD w.params ba pos k1 k2 t) :: (ba, baObj data) :: news) → Q (.bytes #[] t') { s with heap := h', toks := tk }) :
    wpAny (model pw w) (ktrTop dp un gd cn cs L a ccd cl outer) (call (.ref 465) [.ref f, .int 1 u]) Q E s := by
  refine wpAny_call ?_
  k_dflt (refine' code_def ?k1 ?k2 ?k3 ?k4 ?k5 ?kA ?kF ?kK ?k6 ?k7 ?k8 ?k9 ?kB ?_ ?c2 ?c3 ?c4 ?c5; (case kA => exact rfl); (case kF => exact rfl); (case kK => assumption); (case k1 => k_asm); (case k2 => k_asm); (case k3 => k_asm); (case k4 => k_asm); (case k5 => k_asm); (case k6 => k_is); (case k7 => k_is); (case k8 => ktr_room); (case k9 => first | exact BindsTo.of_eq rfl | exact binds_K (by k_in) rfl (by k_is) rfl rfl rfl); (case c5 => decide); (case kB => exact locs rfl); (case c2 => exact rfl); (case c3 => exact rfl); (case c4 => exact rfl); k_whole; intro g' L' h' FG' F' N' B' X' T'; (try dsimp only); (try k_fold))
  (repeat' (first | (k_unfold; (try dsimp only)) | (k_end; kc_close) | ((with_reducible show wpAny _ _ (call (Value.type "bytes") [_]) _ _ _); k_dflt (refine' bytes_ba (News.get (by k_asm) (by k_mem)) ?kf ?_; (case kf => (rw [sizeLine_eq]; refine Nat.le_trans (KBc.size_picked_le _ _ _) (by (first | lia | omega)))); k_whole); intro t' k') | (k_here; (with_reducible show wpAny _ _ (subscriptTail _ (Expr.Slice _ _ none _) (Value.ref _) (Value.ref _)) _ _ _); (with_reducible rename Fr _ _ _ _ => F'); (with_reducible rename News _ _ _ _ => N'); (refine' ba_slice_N (s := ⟨_, _, _, _, _⟩) F' N' ?km (by constructor) (by constructor) ?kz ?_; (case km => k_mem); (case kz => (rw [sizeLine_eq]; refine Nat.le_trans (KBc.size_picked_le _ _ _) (by (first | lia | omega))))); intro h' q' F' N') | (k_here; (with_reducible show wpAny _ _ (call (Value.builtin "len") [Value.ref _]) _ _ _); k_dflt (refine' len_ba (News.get (by k_asm) (by k_mem)) ?kf ?_; (case kf => omega); k_whole)) | walk1 | (dsimp only; walk1) | (leave1; (try dsimp only)) | fail "no step"))
  refine Stop.mk ?_
  k_dflt (refine' index_spec ?kB ?kF ?kX ?kN ?kT ?kk (by decide) (by decide) ?k4 ?k5 (fun h' tk' t' F' N' => ?_); (case kB => k_asm); (case kF => k_asm); (case kX => k_asm); (case kN => k_asm); (case kT => k_asm); (case kk => exact rfl); (case k4 => ktr_room); (case k5 => ktr_units))
  (repeat' (first | (k_unfold; (try dsimp only)) | (k_end; kc_close) | ((with_reducible show wpAny _ _ (call (Value.type "bytes") [_]) _ _ _); k_dflt (refine' bytes_ba (News.get (by k_asm) (by k_mem)) ?kf ?_; (case kf => (rw [sizeLine_eq]; refine Nat.le_trans (KBc.size_picked_le _ _ _) (by (first | lia | omega)))); k_whole); intro t' k') | (k_here; (with_reducible show wpAny _ _ (subscriptTail _ (Expr.Slice _ _ none _) (Value.ref _) (Value.ref _)) _ _ _); (with_reducible rename Fr _ _ _ _ => F'); (with_reducible rename News _ _ _ _ => N'); (refine' ba_slice_N (s := ⟨_, _, _, _, _⟩) F' N' ?km (by constructor) (by constructor) ?kz ?_; (case km => k_mem); (case kz => (rw [sizeLine_eq]; refine Nat.le_trans (KBc.size_picked_le _ _ _) (by (first | lia | omega))))); intro h' q' F' N') | (k_here; (with_reducible show wpAny _ _ (call (Value.builtin "len") [Value.ref _]) _ _ _); k_dflt (refine' len_ba (News.get (by k_asm) (by k_mem)) ?kf ?_; (case kf => omega); k_whole)) | walk1 | (dsimp only; walk1) | (leave1; (try dsimp only)) | fail "no step"))
  · exact ret0 _ _ _ (by (first | lia | omega)) (by assumption) (by assumption)
  · have hp : pos < data.size := by (first | lia | omega)
    rw [picked_one data pos hp]
    rename News h₀ _ _ _ => NN
    exact ret1 _ _ _ _ hp (by assumption) (news_tail NN)
  · have hp : pos < data.size := by (first | lia | omega)
    have e : (data.size : Int) = (pos : Int) + 1 := by (first | lia | omega)
    rename News h₀ _ _ _ => NN
    rw [e] at NN ⊢
    rw [picked_one data pos hp]
    exact ret1 _ _ _ _ hp (by assumption) (news_tail NN)
end
end
end Mine
namespace Mine
section
open PySem PySem.W PySem.Calls PyProof.Rows
theorem gives_ord_b (x : UInt8) (t : Tok) : Gives (Builtin.«ord» ⟨[.bytes #[x] t], []⟩) (.int x.toNat) := .of_eq rfl
theorem ord_b1 {prog : Program} {w : World} {A : Around} {E : Value → Shared → Prop} {s : Shared} {x : UInt8} {t : Tok} {Q : Value → Shared → Prop} (h : Q (.int x.toNat s.toks) { s with toks := s.toks + 1 }) : wpAny (model prog w) A (call (.builtin "ord") [.bytes #[x] t]) Q E s :=
  call_function_meets F.kind_ord F.plain_ord F.entry_ord (F.args_ord1 _) (gives_ord_b x t).meets h
end
end Mine
namespace Mine
section
open PySem PySem.W PySem.Calls PyProof.Rows
set_option maxHeartbeats 8000000
abbrev bmE : List Value := [.type "EOFError", .type "Exception", .type "BaseException", .type "object"]
theorem eof_mro : mroOf (.type "EOFError") = pure bmE := by rw [mroOf_type]; kernel_rfl
theorem eof_init : Slot "EOFError" "__init__" "EOFError.__init__" := .of (owner := "EOFError") (n := "__init__") (by rw [typeLookup_type, builtinLookup_eq_fast]; kernel_rfl) (by decide +kernel) (by decide +kernel) (by decide +kernel)
    (by first | exact .inl (by decide +kernel) | exact .inr (by decide +kernel)) (by rw [isSubtype_type]; kernel_rfl)
theorem eof_entry : entryFor table "EOFError.__init__" = some Builtin.«BaseException.__init__» := entryFor_alias (id' := "BaseException.__init__") (by rw [fastTable_eq_tree]; kernel_rfl) (by first | rfl | decide +kernel) (by decide +kernel) (by rw [fastTable_eq_tree]; kernel_rfl)
theorem eof_split : splitId "EOFError.__init__" = some ("EOFError", "__init__") := by kernel_rfl
theorem eof_kind : builtinKind "EOFError.__init__" = some .slot := by kernel_rfl
theorem eof_row : Manifest.signature? "EOFError.__init__" = some ⟨.positional, "*", "EOFError", .self, [⟨"args", .varPos, false⟩]⟩ := by kernel_rfl
section
variable {M : Model} {A : Around} {E : Value → Shared → Prop} {h : Heap} {g : Array GenState} {d : Drawn} {t : Nat} {os : OsState}
variable {nm q : PySem.Str} {C N : Addr} {bs bm : List Value} {hdct : Bool} {sn : List PySem.Str} {sub : List Value} {ab : Bool} {col : Option Bool} {dd : Option Addr} {k0 k1 k2 k3 k5 : Option Value}
theorem eof_check_new (T : OwnTail h bmE bm) {rest : List Value} {Q : Unit → Shared → Prop} (hC : h.get? C = some (excClassObj nm q C N bs bm hdct sn sub ab col dd k0 k1 k2 k3 k5 "Exception.__new__"))
    (hq : Q () ⟨h, g, d, t, os⟩) : wpAny M A (checkBuiltinCall "Exception.__new__" ⟨.ref C :: rest, []⟩) Q E ⟨h, g, d, t, os⟩ := by
  have F := PySem.F.excBase_Exception
  have hcont : (Value.ref C :: bm).contains (.type "Exception") = true := by rw [List.contains_cons, T.hasType (X := "Exception") (b := true) (by decide), Bool.or_true]
  have hstar := F.noStar
  simp only [checkBuiltinCall, F.newKind, F.newSplit, F.newRow]
  repeat (first | refine wpAny_loadPart_at hC ?_ | (refine wpAny_isSubtype_exc hC ?_; rw [hcont]) | refine wpAny_staticBase_exc hC ?_ | refine wpAny_madeBy_exc hC ?_ | simp only [bne_self_eq_false, Bool.false_eq_true, if_false] | wp_step)
  exact hq
theorem eof_check_init (T : OwnTail h bmE bm) {e : Addr} {oe : Obj} {rest : List Value} {Q : Unit → Shared → Prop}
    (hC : h.get? C = some (excClassObj nm q C N bs bm hdct sn sub ab col dd k0 k1 k2 k3 k5 "Exception.__new__")) (he : h.get? e = some oe) (hcls : oe.cls = .ref C) (hq : Q () ⟨h, g, d, t, os⟩) :
    wpAny M A (checkBuiltinCall "EOFError.__init__" ⟨.ref e :: rest, []⟩) Q E ⟨h, g, d, t, os⟩ := by
  have hcB : (Value.ref C :: bm).contains (.type "EOFError") = true := by rw [List.contains_cons, T.hasType (X := "EOFError") (b := true) (by decide), Bool.or_true]
  have hshort : ("EOFError" != "*") = true := by decide +kernel
  simp only [checkBuiltinCall, eof_kind, eof_split, eof_row]
  repeat (first | (with_reducible refine wpAny_loadPart_at he ?_; rw [hcls]) | with_reducible refine wpAny_loadPart_at hC ?_ | (with_reducible refine wpAny_isSubtype_exc hC ?_; rw [hcB]) | wp_step)
  refine wpAny_onRaise ?_
  rw [show ∀ (a b : String) (n : Nat), Bind.check ⟨.positional, "*", "EOFError", .self, [⟨"args", .varPos, false⟩]⟩ a b n (List.map (fun x => x.fst) ({ pos := Value.ref e :: rest } : Args).kw) = pure () from
    fun a b n => check_star_args _ _ _ _ _ _]
  exact wpAny_pure hq
end
section
variable {prog : Program} {w : World} {A : Around} {R : Result → Shared → Prop} {E : Value → Shared → Prop} {h : Heap} {g : Array GenState} {d : Drawn} {t : Nat} {os : OsState}
variable {nm q : PySem.Str} {C N : Addr} {bs bm : List Value} {hdct : Bool} {sn : List PySem.Str} {sub : List Value} {ab : Bool} {col : Option Bool} {dd : Option Addr} {k0 k1 k2 k3 k5 : Option Value}
theorem eof_new {B newId initId : String} {bmX : List Value} (F : ExcBaseFacts B newId initId bmX) {rest : List Value} (hC : h.get? C = some (excClassObj nm q C N bs bm hdct sn sub ab col dd k0 k1 k2 k3 k5 newId))
    (hcB : (Value.ref C :: bm).contains (.type B) = true) (hcA : (Value.ref C :: bm).contains (.type "AttributeError") = false) (hcN : (Value.ref C :: bm).contains (.type "NameError") = false)
    (hq : R (.ok (.ret (.ref (h.objs.size + 1)))) ⟨(h.push { cls := .type "tuple", data := .seq rest.toArray }).push
      { cls := .ref C, data := .fields #[.ref h.objs.size, .none, .none, .none, .bool false, .none] }, g, d, t, os⟩) (hrest : rest.length ≤ sizeLine) :
    codeAny (model prog w) A (.builtin newId ⟨.ref C :: rest, []⟩) R ⟨h, g, d, t, os⟩ := by
  have hends := F.ends
  refine codeAny_builtinAt F.entry ?_
  unfold Builtin.«BaseException.__new__»
  refine PySem.wpAt_bind ?_
  show PySem.wpAt _ _ _ (stack >>= _) _ _ _
  refine PySem.wpAt_bind (PySem.wpAt_stack fun p below => PySem.wpAt_of_wpAny ?_)
  wp_walk
  refine PySem.wpAt_of_wpAny ?_
  rw [F.owner]
  repeat (first | with_reducible refine wpAny_madeHere_exc F.canon hC ?_ | with_reducible refine wpAny_loadPart_at hC ?_ | (with_reducible refine wpAny_isSubtype_exc hC ?_; first | rw [hcB] | rw [hcA] | rw [hcN]) | wp_step)
  show R _ _
  rw [Heap.size_push]
  exact hq
theorem eof_type_call (T : OwnTail h bmE bm) {mN : PySem.Str → Option Value} {rest : List Value} {Q : Fin → Shared → Prop}
    (hC : h.get? C = some (excClassObj nm q C N bs bm hdct sn sub ab col dd k0 k1 k2 k3 k5 "Exception.__new__")) (hn : h.Ns N mN) (hni : mN "__init__" = none)
    (hq : ∀ h' e, Heap.MadeExcOf h h' e (.ref C) rest → Q (.done (.ret (.ref e))) ⟨h', g, d, t, os⟩) (hrest : rest.length ≤ sizeLine) :
    wpAny (model prog w) A (Builtin.«type.__call__» ⟨.ref C :: rest, []⟩) Q E ⟨h, g, d, t, os⟩ := by
  have F := PySem.F.excBase_Exception
  repeat (first | with_reducible refine wpAny_loadPart_at hC ?_ | with_reducible refine wpAny_madeBy_exc hC ?_ | wp_step)
  refine codeAny_call_builtin_code (Code.quiet_builtin _ F.quiet) (eof_check_new T hC ?_)
  refine eof_new F hC (by rw [List.contains_cons, T.hasType (X := "Exception") (b := true) (by decide), Bool.or_true]) (by rw [List.contains_cons, T.hasType (X := "AttributeError") (b := false) (by decide)]; rfl) (by rw [List.contains_cons, T.hasType (X := "NameError") (b := false) (by decide)]; rfl) ?_ hrest
  show wpAny _ _ _ _ _ _
  have hC₁ := Heap.get?_push_of_some { cls := .ref C, data := .fields #[.ref h.objs.size, .none, .none, .none, .bool false, .none] }
    (Heap.get?_push_of_some { cls := .type "tuple", data := .seq rest.toArray } hC)
  have hn₁ : ((h.push { cls := .type "tuple", data := .seq rest.toArray }).push { cls := .ref C, data := .fields #[.ref h.objs.size, .none, .none, .none, .bool false, .none] }).Ns N mN :=
    let ⟨o, es, ep, e, r⟩ := hn; ⟨o, es, ep, Heap.get?_push_of_some _ (Heap.get?_push_of_some _ e), r⟩
  have hget : ((h.push { cls := .type "tuple", data := .seq rest.toArray }).push
      { cls := .ref C, data := .fields #[.ref h.objs.size, .none, .none, .none, .bool false, .none] }).get? (h.objs.size + 1) = some
      { cls := .ref C, data := .fields #[.ref h.objs.size, .none, .none, .none, .bool false, .none] } := by heap_get
  have hcC : (Value.ref C :: bm).contains (.ref C) = true := by simp
  have T₁ := T.keeps (h' := (h.push { cls := .type "tuple", data := .seq rest.toArray }).push { cls := .ref C, data := .fields #[.ref h.objs.size, .none, .none, .none, .bool false, .none] })
    fun b o e => Heap.get?_push_of_some _ (Heap.get?_push_of_some _ e)
  unfold isInstance
  repeat (first | with_reducible refine wpAny_loadPart_at hget ?_ | (with_reducible refine wpAny_isSubtype_exc hC₁ ?_; rw [hcC]) | wp_step)
  show wpAny _ _ (typeLookup (.ref C) _) _ _ _
  refine wpAny_typeLookup_tail hC₁ hn₁ T₁ eof_mro eof_init.lookup ?_
  rw [hni]
  refine wpAny_holding (wpAny_bind (wpAny_of_eq (eof_init.bind _) ?_))
  refine wpAny_bind (wpAny_call (codeAny_call_builtin eof_init.plain eof_entry (eof_check_init T₁ hC₁ hget rfl ?_)))
  wp_walk
  refine hq _ _ ⟨fun b o hb => ?_, Heap.get?_none_of_le (Nat.le_succ _), h.objs.size + 2, ?_, Heap.get?_none_of_le (by (first | lia | omega)), ?_⟩
  · rw [Heap.get?_update_other _ _ (Nat.ne_of_gt (Nat.lt_succ_of_lt (Heap.lt_size hb)))]
    exact Heap.get?_push_of_some _ (Heap.get?_push_of_some _ (Heap.get?_push_of_some _ hb))
  · rw [Heap.get?_update_self _ (Heap.get?_push_of_some _ hget) rfl]
    simp only [Heap.size_push]
    rfl
  · rw [Heap.get?_update_other _ _ (show h.objs.size + 1 ≠ h.objs.size + 2 by (first | lia | omega))]
    exact Heap.get?_push_at (by simp only [Heap.size_push]) rfl
theorem eof_call (T : OwnTail h bmE bm) {mN : PySem.Str → Option Value} {rest : List Value} {Q : Value → Shared → Prop}
    (hC : h.get? C = some (excClassObj nm q C N bs bm hdct sn sub ab col dd k0 k1 k2 k3 k5 "Exception.__new__")) (hn : h.Ns N mN) (hni : mN "__init__" = none)
    (hq : ∀ h' e, Heap.MadeExcOf h h' e (.ref C) rest → Q (.ref e) ⟨h', g, d, t, os⟩) (hrest : rest.length ≤ sizeLine) :
    wpAny (model prog w) A (call (.ref C) rest) Q E ⟨h, g, d, t, os⟩ := by
  have f1 := tc_lookup
  have f2 := tc_bind (.ref C)
  have hT : (⟨h, g, d, t, os⟩ : Shared).TypeIs (.ref C) "type" := ⟨_, hC, rfl⟩
  refine wpAny_call (codeAny_of_tree ?_)
  show wpAny _ _ (callAny (.ref C) _) _ _ _
  repeat (any_goals (first | assumption | with_reducible refine wpAny_loadPart_at hC ?_ | wp_step))
  refine ⟨rfl, ?_⟩
  refine codeAny_call_builtin_at (Code.quiet_builtin _ (by decide +kernel)) entry_typeCall (wpAny_check_type_call_sub hC (eof_type_call T hC hn hni (fun h' e hm => ?_) hrest))
  exact hq h' e hm
end
end
end Mine
namespace Mine
section
open PySem PySem.W PySem.Calls PyProof.Rows
set_option maxHeartbeats 8000000
theorem issub_nested {prog : Program} {w : World} {A : Around} {E : Value → Shared → Prop} {h : Heap} {g : Array GenState} {d : Drawn} {t : Nat} {os : OsState} {nm q : PySem.Str} {C N : Addr} {bs bm : List Value} {hdct : Bool} {sn : List PySem.Str} {sub : List Value} {ab : Bool} {col : Option Bool} {dd : Option Addr} {k0 k1 k2 k3 k5 : Option Value} {newId : String}
    {k : Value} {dep : Int} {tk : Tok} {Q : PySem.Fin → Shared → Prop} (hk : k = .int dep tk) (hC : h.get? C = some (excClassObj nm q C N bs bm hdct sn sub ab col dd k0 k1 k2 k3 k5 newId)) (hq : Q (.done (.ret (.bool true))) ⟨h, g, d, t, os⟩) :
    wpAny (model prog w) A (Builtin.«issubclass.nested» ⟨[.ref C, .ref C, k], []⟩) Q E ⟨h, g, d, t, os⟩ := by
  subst hk
  have hcC : (Value.ref C :: bm).contains (.ref C) = true := by simp
  unfold Builtin.«issubclass.nested»
  repeat (first | with_reducible refine wpAny_loadPart_at hC ?_ | (with_reducible refine wpAny_isSubtype_exc hC ?_; rw [hcC]) | wp_step)
  exact hq
theorem issub_call {prog : Program} {w : World} {A : Around} {E : Value → Shared → Prop} {h : Heap} {g : Array GenState} {d : Drawn} {t : Nat} {os : OsState} {nm q : PySem.Str} {C N : Addr} {bs bm : List Value} {hdct : Bool} {sn : List PySem.Str} {sub : List Value} {ab : Bool} {col : Option Bool} {dd : Option Addr} {k0 k1 k2 k3 k5 : Option Value} {newId : String}
    {Q : Value → Shared → Prop} (hC : h.get? C = some (excClassObj nm q C N bs bm hdct sn sub ab col dd k0 k1 k2 k3 k5 newId)) (hq : Q (.bool true) ⟨h, g, d, t, os⟩) :
    wpAny (model prog w) A (call (.builtin "issubclass") [.ref C, .ref C]) Q E ⟨h, g, d, t, os⟩ :=
  call_issubclass (S := fun _ R s => (∃ g d t os, s = ⟨h, g, d, t, os⟩) ∧ R (.ok (.ret (.bool true))) s)
    (fun _ _ _ _ s hs => by
      obtain ⟨⟨g, d, t, os, rfl⟩, hR⟩ := hs
      exact issubclass_outer (issub_nested rfl hC hR)) ⟨⟨g, d, t, os, rfl⟩, hq⟩
theorem raise_bare {prog : Program} {w : World} {A : Around} {E : Value → Shared → Prop} {env : Env} {h : Heap} {g : Array GenState} {d : Drawn} {t : Nat} {os : OsState} {nm q : PySem.Str} {C N : Addr} {bs bm : List Value} {hdct : Bool} {sn : List PySem.Str} {sub : List Value} {ab : Bool} {col : Option Bool} {dd : Option Addr} {k0 k1 k2 k3 k5 : Option Value} {newId : String}
    {x : PySem.Str} {np pos : Pos} {Q : Flow → Shared → Prop} (hh : A.handled = none) (hC : h.get? C = some (excClassObj nm q C N bs bm hdct sn sub ab col dd k0 k1 k2 k3 k5 newId)) (hbase : bm.contains (.type "BaseException") = true)
    (hx : wpAny (model prog w) A (eval (.Name x np) env) (fun v s₁ => v = .ref C ∧ s₁ = ⟨h, g, d, t, os⟩) E ⟨h, g, d, t, os⟩)
    (hcall : ∀ Q : Value → Shared → Prop, (∀ h' e, Heap.MadeExcOf h h' e (.ref C) [] → Q (.ref e) ⟨h', g, d, t, os⟩) → wpAny (model prog w) A (call (.ref C) []) Q E ⟨h, g, d, t, os⟩)
    (hE : ∀ h' e, Heap.MadeExcOf h h' e (.ref C) [] → E (.ref e) ⟨h', g, d, t, os⟩) :
    wpAny (model prog w) A (exec (.Raise (some (.Name x np)) none pos) env) Q E ⟨h, g, d, t, os⟩ := by
  have hcB : (Value.ref C :: bm).contains (.type "BaseException") = true := by rw [List.contains_cons, hbase, Bool.or_true]
  show wpAny (model prog w) A (do standAt pos; raiseStmt env (some (do let v ← eval (.Name x np) env; standAt pos; pure v)) none) Q E _
  refine wpAny_bind (wpAny_standAt ?_)
  unfold raiseStmt
  dsimp only
  refine wpAny_bind (wpAny_bind (wpAny_mono hx (fun v s₁ h₁ => wpAny_bind (wpAny_standAt (wpAny_pure ?_))) fun _ _ e => e))
  obtain ⟨rfl, rfl⟩ := h₁
  refine wpAny_bind (wpAny_pure ?_)
  dsimp only
  refine wpAny_bind (wpAny_holding ?_)
  unfold excFromValue isExcClass
  repeat (first | with_reducible refine hcall _ ?_ | with_reducible refine wpAny_loadPart_at hC ?_ | (with_reducible refine wpAny_isSubtype_exc hC ?_; rw [hcB]) | wp_step)
  intro h' e hm
  obtain ⟨te, he, _, _⟩ := hm.there
  have hC' := hm.keeps _ _ hC
  unfold isInstance
  repeat (first | refine issub_call hC' ?_ | with_reducible refine wpAny_loadPart_at he ?_ | with_reducible refine wpAny_loadPart_at hC' ?_ | (with_reducible refine wpAny_isSubtype_exc hC' ?_; rw [hcB]) | wp_step)
  exact wpAny_raiseNew_none hh (hE _ _ hm)
end
end Mine
namespace Mine
section
open PySem PySem.W PySem.Calls PyProof.Rows
set_option maxHeartbeats 8000000
theorem kk56 (P : Params) : (KK P).lookup 56 = some o56 := by kernel_rfl
theorem kk198 (P : Params) : (KK P).lookup 198 = some o198 := by kernel_rfl
theorem tail56 (P : Params) : tailIn (KK P) bmE ([.ref 44, .ref 31] ++ bmE) = true := by kernel_rfl
theorem ok55 (P : Params) : nsOkIn (KK P) 55 = true := by kernel_rfl
theorem ni55 (P : Params) : nsIn (KK P) 55 "__init__" = some none := by kernel_rfl
theorem nm56 (P : Params) : nsIn (KK P) mainGlobals "PDFEOFError" = some (some (.ref 56)) := by kernel_rfl
section
variable {w : World} {p : Program} {loose : List PySem.Str} {mg mb : PySem.Str → Option Value} {cn : PySem.Str} {cs : Scope} {a : Addr} {cd : Value} {A : Around} {h₀ : Heap} {L : Addr} {m : PySem.Str → Option Value} {s : Shared} {E : Value → Shared → Prop} {np pos : Pos} {Q : Flow → Shared → Prop}
theorem raise_eof (F : Fr h₀ L s.heap m) (X : (KK w.params).In h₀) (T : TopRead p loose mg mb h₀) (hh : A.handled = none)
    (hE : ∀ h' e, Heap.MadeExcOf s.heap h' e (.ref 56) [] → E (.ref e) { s with heap := h' })
    (hk : cs.kind = .function := by rfl) (hx : (envOf cn cs L a cd).kindOf "PDFEOFError" = some .globalImplicit := by rfl) :
    wpAny (model pw w) A (exec (.Raise (some (.Name "PDFEOFError" np)) none pos) (envOf cn cs L a cd)) Q E s := by
  obtain ⟨h, g, d, t, os⟩ := s
  have X' : (KK w.params).In h := X.keeps F.keep
  have hC := X' _ _ (kk56 _)
  refine raise_bare (newId := "Exception.__new__") hh hC (by decide) (name_K F X T (nm56 _) ⟨rfl, rfl⟩ hk hx (by decide)) (fun Q hQ => ?_) hE
  exact eof_call (tail_of_in X' (tail56 _)) hC (.of_isNs (isNs_of_in X' (ok55 _))) (nsMap_none_of_in X' (ok55 _) (ni55 _)) hQ (Nat.zero_le _)
theorem raise_corrupt (F : Fr h₀ L s.heap m) (X : (KK w.params).In h₀) (T : TopRead p loose mg mb h₀) (hh : A.handled = none)
    (hE : ∀ h' e, Heap.MadeExcOf s.heap h' e (.ref 198) [] → E (.ref e) { s with heap := h' })
    (hk : cs.kind = .function := by rfl) (hx : (envOf cn cs L a cd).kindOf "CorruptDataError" = some .globalImplicit := by rfl) :
    wpAny (model pw w) A (exec (.Raise (some (.Name "CorruptDataError" np)) none pos) (envOf cn cs L a cd)) Q E s := by
  obtain ⟨h, g, d, t, os⟩ := s
  have X' : (KK w.params).In h := X.keeps F.keep
  have hC := X' _ _ (kk198 _)
  refine raise_bare (newId := "Exception.__new__") hh hC (by decide) (name_K F X T (by kernel_rfl) ⟨rfl, rfl⟩ hk hx (by decide)) (fun Q hQ => ?_) hE
  exact wpAny_call_exc_subT PySem.F.excBase_Exception (tail_of_in X' (show tailIn (KK w.params) _ [.ref 44, .ref 31, .type "Exception", .type "BaseException", .type "object"] = true by kernel_rfl)) hC (.of_isNs (isNs_of_in X' (show nsOkIn (KK w.params) 197 = true by kernel_rfl))) (nsMap_none_of_in X' (show nsOkIn (KK w.params) 197 = true by kernel_rfl) (by kernel_rfl)) hQ (Nat.zero_le _)
end
end
end Mine
namespace Mine
section
open PySem PyProof.Rows
structure Rd (data : Array UInt8) (pos bpos : Nat) (buff : Int) (b : Nat) : Prop where
  le : bpos ≤ 8
  pl : pos ≤ data.size
  eq : b + 8 = 8 * pos + bpos
  b0 : 0 ≤ buff
  b1 : buff < 256
  at_ : bpos < 8 → 1 ≤ pos ∧ data[pos - 1]?.map (fun x => (x.toNat : Int)) = some buff
/-- the next n bits lie in the byte at hand -/
theorem rd_part {data : Array UInt8} {pos bpos : Nat} {buff : Int} {b n : Nat} (h : Rd data pos bpos buff b) (h1 : 1 ≤ n) (hn : bpos + n ≤ 8) :
    numOf (((dataBits data.toList).drop b).take n) = buff / 2 ^ (8 - bpos - n) % 2 ^ n ∧ (((dataBits data.toList).drop b).take n).length = n := by
  obtain ⟨q1, q2, q3, q4, q5, q6⟩ := h
  obtain ⟨hp, hb⟩ := q6 (by (first | lia | omega))
  obtain ⟨x, hx, rfl⟩ := Option.map_eq_some_iff.mp hb
  have e : b = 8 * (pos - 1) + bpos := by (first | lia | omega)
  refine ⟨?_, ?_⟩
  · rw [e]
    exact data_part data.toList (pos - 1) bpos n x (by simpa using hx) hn
  · rw [List.length_take, List.length_drop, data_len, Array.length_toList]; (first | lia | omega)
theorem rd_value {data : Array UInt8} {pos bpos : Nat} {buff v : Int} {b j n : Nat} (h : Rd data pos bpos buff (b + j)) (h1 : 1 ≤ n) (hn : bpos + n ≤ 8) (hv0 : 0 ≤ v)
    (hv : v = numOf (((dataBits data.toList).drop b).take j)) :
    Builtin.bitOr (v * 2 ^ n) (Builtin.bitAnd (buff.fdiv (2 ^ (8 - bpos - n))) (1 * 2 ^ n - 1)) = numOf (((dataBits data.toList).drop b).take (j + n)) := by
  obtain ⟨p1, p2⟩ := rd_part h h1 hn
  have hp : (0 : Int) < 2 ^ n := Int.pow_pos (by decide)
  have hq : (0 : Int) < 2 ^ (8 - bpos - n) := Int.pow_pos (by decide)
  rw [take_more, num_app, p1, p2, ← hv, Int.fdiv_eq_ediv_of_nonneg _ (Int.le_of_lt hq), and_mask _ _ (Int.ediv_nonneg h.b0 (Int.le_of_lt hq))]
  exact or_low _ _ _ hv0 (Int.emod_nonneg _ (Int.ne_of_gt hp)) (Int.emod_lt_of_pos _ hp)
theorem rd_all {data : Array UInt8} {pos bpos : Nat} {buff v : Int} {b j n : Nat} (h : Rd data pos bpos buff (b + j)) (hn : n = 8 - bpos) (hv0 : 0 ≤ v)
    (hv : v = numOf (((dataBits data.toList).drop b).take j)) :
    Builtin.bitOr (v * 2 ^ n) (Builtin.bitAnd buff (1 * 2 ^ n - 1)) = numOf (((dataBits data.toList).drop b).take (j + n)) := by
  have hp : (0 : Int) < 2 ^ n := Int.pow_pos (by decide)
  rw [and_mask _ _ h.b0, or_low _ _ _ hv0 (Int.emod_nonneg _ (Int.ne_of_gt hp)) (Int.emod_lt_of_pos _ hp)]
  rcases Nat.eq_zero_or_pos n with e | e
  · rw [e, Nat.add_zero, ← hv]; simp [Int.emod_one]
  · obtain ⟨p1, p2⟩ := rd_part h e (by have := h.le; omega)
    rw [take_more, num_app, p1, p2, ← hv, show 8 - bpos - n = 0 by (first | lia | omega), Int.pow_zero, Int.ediv_one]
theorem rd_next {data : Array UInt8} {pos bpos : Nat} {buff : Int} {b : Nat} (h : Rd data pos bpos buff b) (hp : pos < data.size) : Rd data (pos + 1) 0 (data[pos].toNat : Int) (b + (8 - bpos)) := by
  refine ⟨by (first | lia | omega), by (first | lia | omega), by have := h.eq; have := h.le; omega, by (first | lia | omega), ?_, fun _ => ⟨by (first | lia | omega), ?_⟩⟩
  · have := data[pos].toNat_lt; (first | lia | omega)
  · rw [Nat.add_sub_cancel, Array.getElem?_eq_getElem hp]; rfl
theorem num_lt {l : List Int} (h : ∀ x ∈ l, 0 ≤ x ∧ x ≤ 1) : 0 ≤ numOf l ∧ numOf l < 2 ^ l.length := by
  induction l with
  | nil => exact ⟨by decide, by decide⟩
  | cons x r ih =>
    obtain ⟨a, b⟩ := ih fun y hy => h y (.tail _ hy)
    have hx := h x (.head _)
    have e : numOf (x :: r) = (2 * 0 + x) * 2 ^ r.length + numOf r := num_acc r (2 * 0 + x)
    have hp : (0 : Int) < 2 ^ r.length := Int.pow_pos (by decide)
    have lo : 0 ≤ x * 2 ^ r.length := Int.mul_nonneg hx.1 (Int.le_of_lt hp)
    have hi : x * 2 ^ r.length ≤ 1 * 2 ^ r.length := Int.mul_le_mul_of_nonneg_right hx.2 (Int.le_of_lt hp)
    rw [e, Int.mul_zero, Int.zero_add, List.length_cons, Int.pow_succ]
    omega
theorem bits_01 (v : Int) : ∀ (w : Nat) (x : Int), x ∈ bitsOf v w → 0 ≤ x ∧ x ≤ 1
  | 0, _, h => (nomatch h)
  | w + 1, x, h => by
    rcases List.mem_cons.mp h with rfl | h
    · omega
    · exact bits_01 v w x h
theorem data_01 (d : List UInt8) (x : Int) (h : x ∈ dataBits d) : 0 ≤ x ∧ x ≤ 1 := by
  obtain ⟨y, _, hy⟩ := List.mem_flatMap.mp h
  exact bits_01 _ _ _ hy
theorem part_lt (d : List UInt8) (b j : Nat) : 0 ≤ numOf (((dataBits d).drop b).take j) ∧ numOf (((dataBits d).drop b).take j) < 2 ^ j := by
  obtain ⟨a, c⟩ := num_lt fun x hx => data_01 d x (List.mem_of_mem_drop (List.mem_of_mem_take hx : x ∈ (dataBits d).drop b))
  refine ⟨a, Int.lt_of_lt_of_le c ?_⟩
  have h1 : 2 ^ (((dataBits d).drop b).take j).length ≤ 2 ^ j := Nat.pow_le_pow_right (by decide) (by rw [List.length_take]; omega)
  have h2 := Int.ofNat_le.mpr h1
  rw [Int.natCast_pow, Int.natCast_pow] at h2
  exact h2
end
end Mine
namespace Mine
section
open PySem PySem.W PySem.Calls PyProof.Rows
set_option maxHeartbeats 8000000
set_option compiler.extract_closed false
theorem wReset33 : 1 = 1 := by walk1
local macro_rules | `(tactic| k_room) => `(tactic| ktr_room)
def Hold (P : Prop) : Prop := P
theorem Hold.out {P : Prop} (h : Hold P) : P := h
local macro_rules | `(tactic| walk_at "exec While") => `(tactic| (k_here; refine Hold.out ?_))
local macro_rules | `(tactic| walk_at "exec While Constant int cons nil") => `(tactic| (k_here; refine Hold.out ?_))
abbrev ent (P : Params) (x : PySem.Str) (k : Tok) (v : Value) : DictEntry := ⟨PyData.keyHash P x, .str x k, v⟩
structure DT where
  (k1 k2 k3 k4 k5 k6 : Tok)
abbrev decD (P : Params) (q : DT) (f : Addr) (buff : Int) (t1 : Tok) (bpos : Int) (t2 : Tok) (nb : Value) (tb : Value) (pv : Value) : Obj :=
  dictOf [⟨PyData.keyHash P "fp", .str "fp" q.k1, .ref f⟩, ⟨PyData.keyHash P "buff", .str "buff" q.k2, .int buff t1⟩, ⟨PyData.keyHash P "bpos", .str "bpos" q.k3, .int bpos t2⟩, ⟨PyData.keyHash P "nbits", .str "nbits" q.k4, nb⟩, ⟨PyData.keyHash P "table", .str "table" q.k5, tb⟩, ⟨PyData.keyHash P "prevbuf", .str "prevbuf" q.k6, pv⟩] 6
section
variable {w : World} {p : Program} {loose : List PySem.Str} {mean : ExcName → Option Value} {mg mb : PySem.Str → Option Value} {dp un : Nat} {gd : Option (List Code)} {cn : PySem.Str} {cs : Scope} {a : Addr} {ccd : Value} {cl : List (PySem.Str × Addr)} {outer : List Env} {A₀ : Around} {base h₀ : Heap} {L : Addr} {m : PySem.Str → Option Value} {news : List (Addr × Obj)} {s : Shared}
    {Q E : Value → Shared → Prop}
theorem read_specD {a1 a2 : Addr} {o1 o2 : Obj} {f fd ba : Addr} {data : Array UInt8} {pos : Nat} {k1 k2 t u : Tok}
    (B : Below A₀ base outer h₀) (F : Fr h₀ L s.heap m) (X : (KK w.params).In h₀) (N : News h₀ L s.heap ((a1, o1) :: (a2, o2) :: (f, instOf 541 fd) :: (fd, ioD w.params ba pos k1 k2 t) :: (ba, baObj data) :: news)) (T : Top p loose mean mg mb h₀) (hk : cs.kind = .function)
    (off : OwnOff news [a1, a2, f, fd, ba]) (hne1 : @Ne Nat f fd) (hne2 : @Ne Nat fd ba) (m1 : @Ne Nat a1 f) (m2 : @Ne Nat a1 fd) (m3 : @Ne Nat a1 ba) (m4 : @Ne Nat a2 f) (m5 : @Ne Nat a2 fd) (m6 : @Ne Nat a2 ba) (hsz : data.size ≤ 1000) (hd : dp + 3 < recursionLimit) (hu : un + 80 < cLine)
    (ret1 : ∀ h' tk t' t'' (hp : pos < data.size), Fr h₀ L h' m → News h₀ L h' ((a1, o1) :: (a2, o2) :: (f, instOf 541 fd) :: (fd, ioD w.params ba (pos + 1) k1 k2 t') :: (ba, baObj data) :: news) → Q (.bytes #[data[pos]] t'') { s with heap := h', toks := tk })
    (ret0 : ∀ h' tk t', data.size ≤ pos → Fr h₀ L h' m → News h₀ L h' ((a1, o1) :: (a2, o2) :: (f, instOf 541 fd) :: (fd, ioD w.params ba pos k1 k2 t) :: (ba, baObj data) :: news) → Q (.bytes #[] t') { s with heap := h', toks := tk }) :
    wpAny (model pw w) (ktrTop dp un gd cn cs L a ccd cl outer) (call (.ref 465) [.ref f, .int 1 u]) Q E s := by
  refine read_spec (news := (a1, o1) :: (a2, o2) :: news) B F X (news_sub N (sub_cons (.tail _ (.tail _ (.head _))) (sub_cons (.tail _ (.tail _ (.tail _ (.head _)))) (sub_cons (.tail _ (.tail _ (.tail _ (.tail _ (.head _))))) (sub_cons (.head _) (sub_cons (.tail _ (.head _)) fun _ h => .tail _ (.tail _ (.tail _ (.tail _ (.tail _ h)))))))))) T hk
    (off_cons (ne_cons m1 (ne_cons m2 (ne_cons m3 ne_nil))) (off_cons (ne_cons m4 (ne_cons m5 (ne_cons m6 ne_nil))) (off_mono off (fun _ h => h) fun _ h => .tail _ (.tail _ h)))) hne1 hne2 hsz hd hu (fun h' tk t' t'' hp F' N' => ret1 h' tk t' t'' hp F' (news_sub N' ?_)) (fun h' tk t' hp F' N' => ret0 h' tk t' hp F' (news_sub N' ?_)) <;>
  exact sub_cons (.tail _ (.tail _ (.tail _ (.head _)))) (sub_cons (.tail _ (.tail _ (.tail _ (.tail _ (.head _))))) (sub_cons (.head _) (sub_cons (.tail _ (.head _)) (sub_cons (.tail _ (.tail _ (.head _))) fun _ h => .tail _ (.tail _ (.tail _ (.tail _ (.tail _ h))))))))
theorem truthy_b1 {prog : Program} {w : World} {A : Around} {E : Value → Shared → Prop} {s : Shared} {x : UInt8} {t : Tok} {Q : Bool → Shared → Prop} (h : Q true { s with toks := s.toks + 1 + 1 }) : wpAny (model prog w) A (truthy (.bytes #[x] t)) Q E s := truthy_bytes (show 1 ≤ 1099511627776 by decide) h
theorem truthy_b0 {prog : Program} {w : World} {A : Around} {E : Value → Shared → Prop} {s : Shared} {t : Tok} {Q : Bool → Shared → Prop} (h : Q false { s with toks := s.toks + 1 + 1 }) : wpAny (model prog w) A (truthy (.bytes #[] t)) Q E s := truthy_bytes (by decide) h
local macro_rules | `(tactic| walk_at "truthy bytes") => `(tactic| (k_here; first | with_reducible refine truthy_b1 ?_ | with_reducible refine truthy_b0 ?_))
local macro_rules | `(tactic| walk_at "call builtin:ord") => `(tactic| (k_here; with_reducible refine ord_b1 ?_))
theorem pow40 {e : Nat} (h : e ≤ 40) : (2 : Int) ^ e ≤ 1099511627776 := by
  have h1 : 2 ^ e ≤ 2 ^ 40 := Nat.pow_le_pow_right (by decide) h
  have h2 : ((2 ^ e : Nat) : Int) ≤ ((2 ^ 40 : Nat) : Int) := Int.ofNat_le.mpr h1
  rw [Int.natCast_pow] at h2
  exact h2
theorem own_sub {n : List (Addr × Obj)} {l l' : List Addr} (h : OwnOff n l) (s : ∀ b ∈ l', b ∈ l) : OwnOff n l' := fun p hp b hb => h p hp b (s b hb)
inductive RBJ (P : Params) (d dd f fd ba : Addr) (data : Array UInt8) (k b : Nat) (k1 k2 : Tok) (q : DT) (nb tb pv : Value) (news : List (Addr × Obj)) (n : Nat) (m₁ : PySem.Str → Option Value) (news₁ : List (Addr × Obj)) : Prop
  | mk (pos bpos rem : Nat) (buff v : Int) (t t1 t2 tv tr : Tok) (hn : n = 2 * rem + bpos / 8) (hw : news₁ = (d, instOf 236 dd) :: (dd, decD P q f buff t1 bpos t2 nb tb pv) :: (f, instOf 541 fd) :: (fd, ioD P ba pos k1 k2 t) :: (ba, baObj data) :: news)
      (hm1 : m₁ "self" = some (.ref d)) (hm2 : m₁ "v" = some (.int v tv)) (hm3 : m₁ "bits" = some (.int rem tr)) (hr1 : 1 ≤ rem) (hr2 : rem ≤ k) (hR : Rd data pos bpos buff (b + (k - rem))) (hv0 : 0 ≤ v) (hv1 : v < 2 ^ (k - rem)) (hv : v = numOf (((dataBits data.toList).drop b).take (k - rem))) : RBJ P d dd f fd ba data k b k1 k2 q nb tb pv news n m₁ news₁
theorem readbits_spec {d dd f fd ba : Addr} {data : Array UInt8} {pos bpos k b : Nat} {buff : Int} {k1 k2 t t1 t2 u : Tok} {q : DT} {nb tb pv : Value}
    (B : Below A₀ base outer h₀) (F : Fr h₀ L s.heap m) (X : (KK w.params).In h₀) (N : News h₀ L s.heap ((d, instOf 236 dd) :: (dd, decD w.params q f buff t1 bpos t2 nb tb pv) :: (f, instOf 541 fd) :: (fd, ioD w.params ba pos k1 k2 t) :: (ba, baObj data) :: news)) (T : Top p loose mean mg mb h₀) (hk : cs.kind = .function)
    (off : OwnOff news [d, dd, f, fd, ba]) (n1 : @Ne Nat d dd) (n2 : @Ne Nat d f) (n3 : @Ne Nat d fd) (n4 : @Ne Nat d ba) (n5 : @Ne Nat dd f) (n6 : @Ne Nat dd fd) (n7 : @Ne Nat dd ba) (n8 : @Ne Nat f fd) (n9 : @Ne Nat f ba) (n0 : @Ne Nat fd ba)
    (hsz : data.size ≤ 1000) (hk1 : 1 ≤ k) (hk2 : k ≤ 40) (hR : Rd data pos bpos buff b) (hd : dp + 5 < recursionLimit) (hu : un + 100 < cLine)
    (ret : b + k ≤ 8 * data.size → ∀ h' tk pos bpos buff tv t t1 t2, Rd data pos bpos buff (b + k) → Fr h₀ L h' m → News h₀ L h' ((d, instOf 236 dd) :: (dd, decD w.params q f buff t1 (bpos : Nat) t2 nb tb pv) :: (f, instOf 541 fd) :: (fd, ioD w.params ba (pos : Nat) k1 k2 t) :: (ba, baObj data) :: news) →
      Q (.int (numOf (((dataBits data.toList).drop b).take k)) tv) { s with heap := h', toks := tk })
    (eof : 8 * data.size < b + k → ∀ h' tk e t' o1 o2 g', RaisedK base (envX cn cs L a ccd cl :: outer) e (.ref 56) t' [] ((d, instOf 236 dd) :: (dd, o1) :: (f, instOf 541 fd) :: (fd, o2) :: (ba, baObj data) :: news) h' → Fr h₀ L g' m → g'.UpToSlots h' → E (.ref e) { s with heap := h', toks := tk }) :
    wpAny (model pw w) (ktrTop dp un gd cn cs L a ccd cl outer) (call (.ref 221) [.ref d, .int k u]) Q E s := by
  have n1' := n1.symm
  have n2' := n2.symm
  have n3' := n3.symm
  have n4' := n4.symm
  have n5' := n5.symm
  have n6' := n6.symm
  have n7' := n7.symm
  have n8' := n8.symm
  have n9' := n9.symm
  have n0' := n0.symm
  refine wpAny_call ?_
  k_dflt (refine' code_def ?k1 ?k2 ?k3 ?k4 ?k5 ?kA ?kF ?kK ?k6 ?k7 ?k8 ?k9 ?kB ?_ ?c2 ?c3 ?c4 ?c5; (case kA => exact rfl); (case kF => exact rfl); (case kK => assumption); (case k1 => k_asm); (case k2 => k_asm); (case k3 => k_asm); (case k4 => k_asm); (case k5 => k_asm); (case k6 => k_is); (case k7 => k_is); (case k8 => ktr_room); (case k9 => first | exact BindsTo.of_eq rfl | exact binds_K (by k_in) rfl (by k_is) rfl rfl rfl); (case c5 => decide); (case kB => exact locs rfl); (case c2 => exact rfl); (case c3 => exact rfl); (case c4 => exact rfl); k_whole; intro g' L' h' FG' F' N' B' X' T'; (try dsimp only); (try k_fold))
  (repeat' (first | (k_unfold; (try dsimp only)) | (k_end; kc_close) | (k_here; (with_reducible show wpAny _ _ (exec (Stmt.Raise (some (Expr.Name (PySem.Str.ofString "PDFEOFError") _)) none _) _) _ _ _); (with_reducible rename Fr _ _ _ _ => kF); k_dflt (refine' raise_eof kF ?k1 ?k2 ?hh ?_; (case k1 => k_asm); (case k2 => k_asm); (case hh => exact rfl); k_whole); intro h' e' hm') | (k_here; (with_reducible show wpAny _ _ (call (Value.ref 465) [_, _]) _ _ _); k_dflt (refine' read_specD ?kB ?kF ?kX ?kN ?kT ?kk ?ko ?k1 ?k2 ?m1 ?m2 ?m3 ?m4 ?m5 ?m6 ?k3 ?k4 ?k5 (fun h' tk' t' t'' hp' F' N' => ?_) (fun h' tk' t' hp' F' N' => ?_); (case kB => k_asm); (case kF => k_asm); (case kX => k_asm); (case kN => k_asm); (case kT => k_asm); (case kk => first | exact rfl | assumption); (case ko => assumption); (case k1 => assumption); (case k2 => assumption); (case m1 => assumption); (case m2 => assumption); (case m3 => assumption); (case m4 => assumption); (case m5 => assumption); (case m6 => assumption); (case k3 => assumption); (case k4 => ktr_room); (case k5 => ktr_units))) | walk1 | (dsimp only; walk1) | (leave1; (try dsimp only)) | fail "no step"))
  unfold Hold
  rename Fr _ _ _ _ => F2
  rename News _ _ _ _ => N2
  refine While_inv2 (RBJ w.params d dd f fd ba data k b k1 k2 q nb tb pv news) F2 N2 (n₀ := 2 * k + bpos / 8) ⟨pos, bpos, k, buff, 0, t, t1, t2, _, u, rfl, rfl, rfl, rfl, rfl, hk1, Nat.le_refl _, by rw [Nat.sub_self]; exact hR, by decide, by rw [Nat.sub_self]; decide, by rw [Nat.sub_self]; rfl⟩ ?_
  intro n m₁ news₁ h₁ tk₁ F₁ N₁ hJ
  obtain ⟨pos, bpos, rem, buff, v, t, t1, t2, tv, tr, hn, hw, hm1, hm2, hm3, hr1, hr2, hR, hv0, hv1, hv⟩ := hJ
  subst hw
  dsimp only at F₁ N₁ ⊢
  replace F₁ := fr_know (x := "self") (fr_know (x := "bits") (fr_know (x := "v") F₁ hm2) ((if_neg (by decide)).trans hm3)) ((if_neg (by decide)).trans ((if_neg (by decide)).trans hm1))
  obtain ⟨q1, q2, q3, q4, q5, q6⟩ := hR
  have hv2 : v < 1099511627776 := Int.lt_of_lt_of_le hv1 (pow40 (show k - rem ≤ 40 by (first | lia | omega)))
  have hr3 : (1 : Int) ≤ rem := by (first | lia | omega)
  have hr4 : (rem : Int) ≤ 40 := by (first | lia | omega)
  have hb3 : (0 : Int) ≤ bpos := by (first | lia | omega)
  have hb4 : (bpos : Int) ≤ 8 := by (first | lia | omega)
  (repeat' (first | (k_unfold; (try dsimp only)) | (k_end; kc_close) | (k_here; (with_reducible show wpAny _ _ (exec (Stmt.Raise (some (Expr.Name (PySem.Str.ofString "PDFEOFError") _)) none _) _) _ _ _); (with_reducible rename Fr _ _ _ _ => kF); k_dflt (refine' raise_eof kF ?k1 ?k2 ?hh ?_; (case k1 => k_asm); (case k2 => k_asm); (case hh => exact rfl); k_whole); intro h' e' hm') | (k_here; (with_reducible show wpAny _ _ (call (Value.ref 465) [_, _]) _ _ _); k_dflt (refine' read_specD ?kB ?kF ?kX ?kN ?kT ?kk ?ko ?k1 ?k2 ?m1 ?m2 ?m3 ?m4 ?m5 ?m6 ?k3 ?k4 ?k5 (fun h' tk' t' t'' hp' F' N' => ?_) (fun h' tk' t' hp' F' N' => ?_); (case kB => k_asm); (case kF => k_asm); (case kX => k_asm); (case kN => k_asm); (case kT => k_asm); (case kk => first | exact rfl | assumption); (case ko => assumption); (case k1 => assumption); (case k2 => assumption); (case m1 => assumption); (case m2 => assumption); (case m3 => assumption); (case m4 => assumption); (case m5 => assumption); (case m6 => assumption); (case k3 => assumption); (case k4 => ktr_room); (case k5 => ktr_units))) | walk1 | (dsimp only; walk1) | (leave1; (try dsimp only)) | fail "no step"))
  · dsimp only [WhileStep2]
    (repeat' (first | (k_unfold; (try dsimp only)) | (k_end; kc_close) | (k_here; (with_reducible show wpAny _ _ (exec (Stmt.Raise (some (Expr.Name (PySem.Str.ofString "PDFEOFError") _)) none _) _) _ _ _); (with_reducible rename Fr _ _ _ _ => kF); k_dflt (refine' raise_eof kF ?k1 ?k2 ?hh ?_; (case k1 => k_asm); (case k2 => k_asm); (case hh => exact rfl); k_whole); intro h' e' hm') | (k_here; (with_reducible show wpAny _ _ (call (Value.ref 465) [_, _]) _ _ _); k_dflt (refine' read_specD ?kB ?kF ?kX ?kN ?kT ?kk ?ko ?k1 ?k2 ?m1 ?m2 ?m3 ?m4 ?m5 ?m6 ?k3 ?k4 ?k5 (fun h' tk' t' t'' hp' F' N' => ?_) (fun h' tk' t' hp' F' N' => ?_); (case kB => k_asm); (case kF => k_asm); (case kX => k_asm); (case kN => k_asm); (case kT => k_asm); (case kk => first | exact rfl | assumption); (case ko => assumption); (case k1 => assumption); (case k2 => assumption); (case m1 => assumption); (case m2 => assumption); (case m3 => assumption); (case m4 => assumption); (case m5 => assumption); (case m6 => assumption); (case k3 => assumption); (case k4 => ktr_room); (case k5 => ktr_units))) | walk1 | (dsimp only; walk1) | (leave1; (try dsimp only)) | fail "no step"))
    have hrem : bpos + rem ≤ 8 := by (first | lia | omega)
    have e := rd_value (j := k - rem) (n := rem) ⟨q1, q2, q3, q4, q5, q6⟩ hr1 hrem hv0 hv
    rw [show k - rem + rem = k by (first | lia | omega)] at e
    have e' : Builtin.bitOr (v * 2 ^ (rem : Int).toNat) (Builtin.bitAnd (buff.fdiv (2 ^ (8 - (bpos : Int) - rem).toNat)) (1 * 2 ^ (rem : Int).toNat - 1)) = numOf (((dataBits data.toList).drop b).take k) := by
      rw [Int.toNat_natCast, show (8 - (bpos : Int) - rem).toNat = 8 - bpos - rem by (first | lia | omega)]; exact e
    rw [e']
    rename News h₀ _ _ _ => NN
    rw [← Int.natCast_add] at NN
    exact ret (by (first | lia | omega)) _ _ pos (bpos + rem) buff _ _ _ _ ⟨hrem, q2, by (first | lia | omega), q4, q5, fun h => q6 (by (first | lia | omega))⟩ (by assumption) NN
  · have hp : pos < data.size := by assumption
    have hrem : 8 - bpos < rem := by (first | lia | omega)
    have e := rd_all (n := 8 - bpos) ⟨q1, q2, q3, q4, q5, q6⟩ rfl hv0 hv
    have ekk : k - (rem - (8 - bpos)) = k - rem + (8 - bpos) := by (first | lia | omega)
    have e' : Builtin.bitOr (v * 2 ^ (8 - (bpos : Int)).toNat) (Builtin.bitAnd buff (1 * 2 ^ (8 - (bpos : Int)).toNat - 1)) = numOf (((dataBits data.toList).drop b).take (k - (rem - (8 - bpos)))) := by
      rw [show (8 - (bpos : Int)).toNat = 8 - bpos by (first | lia | omega), ekk]; exact e
    have hl := part_lt data.toList b (k - (rem - (8 - bpos)))
    have hx := rd_next ⟨q1, q2, q3, q4, q5, q6⟩ hp
    rename News _ _ _ _ => NN
    rename Fr _ _ _ _ => FF
    have eb : (rem : Int) - (8 - (bpos : Int)) = ((rem - (8 - bpos) : Nat) : Int) := by (first | lia | omega)
    rw [e', eb] at FF
    exact ⟨_, _, _, _, 2 * (rem - (8 - bpos)), rfl, FF, NN, by (first | lia | omega), pos + 1, 0, rem - (8 - bpos), (data[pos].toNat : Int), _, _, _, _, _, _, by simp, rfl, rfl, rfl, rfl, by (first | lia | omega), by (first | lia | omega), by rw [show b + (k - (rem - (8 - bpos))) = b + (k - rem) + (8 - bpos) by rw [ekk, Nat.add_assoc]]; exact hx, hl.1, hl.2, rfl⟩
  · refine eof (by (first | lia | omega)) _ _ _ _ _ _ _ (by assumption) (by assumption) (by assumption)
end
end
end Mine
namespace Mine
section
open PySem PySem.W PySem.Calls PyProof.Rows
set_option maxHeartbeats 8000000
noncomputable def lawScope : Scope := match sAt [64] with | .FunctionDef _ _ _ _ _ _ sc .. => sc | _ => default
noncomputable def lawBody : List Stmt := inner (sAt [64])
noncomputable def LB (i j : Nat) : List Stmt := (lawBody.drop i).take j
noncomputable abbrev lawEnv (L : Addr) : Env := envOfC "law" lawScope L 1445 (.ref 1444)
noncomputable abbrev LA (L : Addr) : Around := callerA.deeper (lawEnv L)
section
variable {w : World} {p : Program} {loose : List PySem.Str} {mean : ExcName → Option Value} {mg mb : PySem.Str → Option Value} {s : Shared} {Q : Flow → Shared → Prop} {E : Value → Shared → Prop} {h₀ : Heap} {L : Addr} {m : PySem.Str → Option Value}
theorem perm6 {h₀ h : Heap} {L : Addr} {t o e d c b a : Addr × Obj} (N : News h₀ L h [t, o, e, d, c, b, a]) : News h₀ L h [c, d, e, o, b, a] := news_sub N (by ((repeat (refine sub_cons (by repeat (first | exact List.Mem.head _ | refine List.Mem.tail _ ?_)) ?_)); first | exact sub_nil | (intro q hq; repeat (first | exact hq | refine List.Mem.tail _ ?_))))
theorem partA {sc : Addr} {items : Array Value} {ns : List Int} {cb ch : Obj} (X : (KK w.params).In h₀) (T : Top p loose mean mg mb h₀) (hl : h₀.IsList sc items) (hi : IntsAre items.toList ns) (hn : ns.length ≤ 63)
    (F : Fr h₀ L s.heap m) (hm : m "script" = some (.ref sc)) (N : News h₀ L s.heap [(L + 1 + 1, cb), (L + 1, ch)]) (hb : cb.data = .cell none) (hh : ch.data = .cell none)
    (ret : ∀ h' tk m' codes due ends octets ch' hd th t1 t2 t3, Fr h₀ L h' m' → m' "script" = some (.ref sc) → m' "codes" = some (.ref codes) → m' "due" = some (.ref due) → m' "ends" = some (.ref ends) → m' "octets" = some (.ref octets) → m' "clears" = some (.int 0 t3) →
      News h₀ L h' [(codes, W.listOf #[.int 256 t1] 0), (due, W.listOf #[.bytes #[] t2] 0), (ends, W.listOf #[] 0), (octets, W.listOf #[] 0), (L + 1 + 1, cb), (L + 1, ch')] → ch'.data = .cell (some (.int hd th)) → 0 ≤ hd → hd < 100000 →
      @LT.lt Nat _ (L + 1 + 1) codes → @LT.lt Nat _ codes due → @LT.lt Nat _ due ends → @LT.lt Nat _ ends octets → Q .next { s with heap := h', toks := tk }) :
    wpAny (model pw w) (LA L) (execs (LB 0 2) (lawEnv L)) Q E s := by
  replace F := fr_know F hm
  have hl' : h₀.IsList sc items.toList.toArray := by simpa using hl
  show wpAny _ _ (execs [_, _] _) _ _ _
  k_steps
  all_goals
    rename News _ _ _ _ => NN
    rename _ = Data.cell _ => hd
    rename _ ∧ _ ∧ _ ∧ _ ∧ _ ∧ _ => q1
    rename _ ∧ _ ∧ _ ∧ _ ∧ _ => q2
    rename _ ∧ _ ∧ _ ∧ _ => q3
    rename _ ∧ _ ∧ _ => q4
    refine ret _ _ _ _ _ _ _ _ _ _ _ _ _ (by assumption) rfl rfl rfl rfl rfl rfl (perm6 NN) hd ?_ ?_ ?_ ?_ ?_ ?_
    · first | exact Int.fmod_nonneg_of_pos _ (by decide) | decide
    · first | exact Int.fmod_lt_of_pos _ (by decide) | decide
    · omega
    · omega
    · omega
    · omega
end
end
end Mine
namespace Mine
section
open PySem PySem.W PySem.Calls PyProof.Rows
set_option maxHeartbeats 8000000
set_option compiler.extract_closed false
theorem fm (x b : Int) (h : 0 < b) : 0 ≤ x.fmod b ∧ x.fmod b < b := ⟨Int.fmod_nonneg_of_pos x h, Int.fmod_lt_of_pos x h⟩
theorem eq_nil {prog : Program} {w : World} {A : Around} {E : Value → Shared → Prop} {s : Shared} {l b : Addr} {items : Array Value} {Q : Value → Shared → Prop} (hl : s.heap.IsList l items) (hb : s.heap.IsList b #[]) (hu : A.units < cLine)
    (h0 : items.size = 0 → Q (.bool true) s) (h1 : items.size ≠ 0 → Q (.bool false) s) : wpAny (model prog w) A (compareOp .Eq (.ref l) (.ref b)) Q E s := by
  by_cases z : items.size = 0
  · refine SeqAt.eq_listAt (e := fun _ => true) hl hb (by rw [z]; rfl) hu (fun j h1 _ => absurd h1 (by (first | lia | omega))) ?_
    rw [z]; exact h0 z
  · exact SeqAt.eq_list_lengthsAt hl hb (by simpa using z) hu (h1 z)
theorem truthy_nil {prog : Program} {w : World} {A : Around} {E : Value → Shared → Prop} {s : Shared} {l : Addr} {items : Array Value} {Q : Bool → Shared → Prop} (hl : s.heap.IsList l items) (hfit : (items.size : Int) < 2 ^ 63)
    (h0 : items.size = 0 → Q false { s with toks := s.toks + 1 + 1 }) (h1 : items.size ≠ 0 → Q true { s with toks := s.toks + 1 + 1 }) : wpAny (model prog w) A (truthy (.ref l)) Q E s := by
  refine wpAny_truthy_list hl hfit ?_
  by_cases z : items.size = 0
  · have : items.isEmpty = true := by simpa using z
    rw [this]; exact h0 z
  · have : items.isEmpty = false := by simpa using z
    rw [this]; exact h1 z
section
variable {w : World} {p : Program} {loose : List PySem.Str} {mean : ExcName → Option Value} {mg mb : PySem.Str → Option Value} {dp un : Nat} {gd : Option (List Code)} {cn : PySem.Str} {cs : Scope} {a : Addr} {ccd : Value} {cl : List (PySem.Str × Addr)} {outer : List Env} {A₀ : Around} {base h₀ : Heap} {L : Addr} {m : PySem.Str → Option Value} {news : List (Addr × Obj)} {s : Shared}
    {Q E : Value → Shared → Prop}
theorem code_spec {r c : Int} {t u : Tok} {e : Addr} {es : List Value} {n : Nat}
    (B : Below A₀ base outer h₀) (F : Fr h₀ L s.heap m) (X : (KK w.params).In h₀) (N : News h₀ L s.heap ((e, W.listOf es.toArray n) :: news)) (T : Top p loose mean mg mb h₀) (hk : cs.kind = .function)
    (hn : es.length ≤ 18) (hr0 : 0 ≤ r) (hr1 : r < 100000) (hc0 : 0 ≤ c) (hc1 : c ≤ 20) (hd : dp + 1 < recursionLimit) (hu : un + 80 < cLine)
    (ret : ∀ h' tk code t, Fr h₀ L h' m → News h₀ L h' ((e, W.listOf es.toArray n) :: news) → 0 ≤ code → code < 512 → (es = [] → code ≤ 257) → Q (.int code t) { s with heap := h', toks := tk }) :
    wpAny (model pw w) (ktrTop dp un gd cn cs L a ccd cl outer) (call (.ref 1428) [.int r t, .ref e, .int c u]) Q E s := by
  refine wpAny_call ?_
  k_dflt ktr_enter
  (repeat' (first | (k_unfold; (try dsimp only)) | (k_end; kc_close) | ((with_reducible show wpAny _ _ (compareOp _ (Value.ref _) (Value.ref _)) _ _ _); k_dflt (refine' eq_nil (News.isList (by k_asm) (by k_mem)) (News.isList (by k_asm) (by k_mem)) ?ku ?_ ?_; (case ku => ktr_units); k_whole) <;> (simp only [List.size_toArray]; intro hz')) | ((with_reducible show wpAny _ _ (truthy (Value.ref _)) _ _ _); k_dflt (refine' truthy_nil (News.isList (by k_asm) (by k_mem)) ?kf ?_ ?_; (case kf => (simp only [List.size_toArray]; omega)); k_whole) <;> (simp only [List.size_toArray]; intro hz')) | (k_here; (with_reducible show wpAny _ _ (call (Value.builtin "len") [Value.ref _]) _ _ _); k_dflt (refine' len_list (News.isList (by k_asm) (by k_mem)) ?kf ?_; (case kf => (simp only [List.size_toArray]; omega)); k_whole)) | walk1 | (dsimp only; walk1) | (leave1; (try dsimp only)) | fail "no step"))
  all_goals (simp only [List.size_toArray, List.isEmpty_toArray, Int.fdiv_eq_ediv_of_nonneg _ (show (0:Int) ≤ 5 by decide), Int.fdiv_eq_ediv_of_nonneg _ (show (0:Int) ≤ 4 by decide), Int.fmod_eq_emod_of_nonneg _ (show (0:Int) ≤ 5 by decide), Int.fmod_eq_emod_of_nonneg _ (show (0:Int) ≤ 4 by decide), Int.fmod_eq_emod_of_nonneg _ (show (0:Int) ≤ 256 by decide)] at *)
  all_goals first
    | (refine ret _ _ _ _ (by assumption) (news_sub (by assumption) fun p hp => .tail _ hp) ?_ ?_ ?_)
    | (refine ret _ _ _ _ (by assumption) (news_sub (by assumption) fun p hp => .tail _ (.tail _ hp)) ?_ ?_ ?_)
    | skip
  all_goals try (intro hq; have hq' := congrArg List.length hq; simp only [List.length_nil] at hq'; clear hq)
  all_goals first
    | omega
    | (have := fm (r / 5) es.length (by (first | lia | omega)); omega)
    | (have := fm (r / 5 / 4) (253 - es.length) (by (first | lia | omega)); omega)
    | (exfalso; omega)
theorem code_specL {r c : Int} {t u : Tok} {e : Addr} {es : List Value} {n : Nat}
    (B : Below A₀ base outer h₀) (F : Fr h₀ L s.heap m) (X : (KK w.params).In h₀) (N : News h₀ L s.heap news) (T : Top p loose mean mg mb h₀) (hk : cs.kind = .function) (he : (e, W.listOf es.toArray n) ∈ news)
    (hn : es.length ≤ 18) (hr0 : 0 ≤ r) (hr1 : r < 100000) (hc0 : 0 ≤ c) (hc1 : c ≤ 20) (hd : dp + 1 < recursionLimit) (hu : un + 80 < cLine)
    (ret : ∀ h' tk code t, Fr h₀ L h' m → News h₀ L h' news → 0 ≤ code → code < 512 → (es = [] → code ≤ 257) → Q (.int code t) { s with heap := h', toks := tk }) :
    wpAny (model pw w) (ktrTop dp un gd cn cs L a ccd cl outer) (call (.ref 1428) [.int r t, .ref e, .int c u]) Q E s :=
  code_spec B F X (fun p hp => (List.mem_cons.mp hp).elim (fun q => q ▸ N _ he) fun q => N p q) T hk hn hr0 hr1 hc0 hc1 hd hu fun h' tk code t F' N' => ret h' tk code t F' (fun p hp => N' p (.tail _ hp))
end
end
end Mine
namespace Mine
section
open PySem PySem.W PySem.Calls PyProof.Rows
set_option maxHeartbeats 8000000
section
variable {prog : Program} {w : World} {A : Around} {E : Value → Shared → Prop} {s : Shared} {env : Env} {h₀ : Heap} {x : PySem.Str} {body : List Stmt} {Q : Flow → Shared → Prop}
/-- a loop over a range of any step, by an invariant over turn, frame and ledger -/
theorem rng_iter {r : Addr} {a b c : Int} {t₀ u₀ v₀ : Tok} {n : Nat} {m₀ : PySem.Str → Option Value} {news : List (Addr × Obj)} (J : Nat → (PySem.Str → Option Value) → List (Addr × Obj) → Prop)
    (hh : A.handled = none) (hr : IsRange s.heap r a b c t₀ u₀ v₀) (hsm : Builtin.Range.small a b c = true) (hsz : Builtin.Range.rangeSize a b c = (n : Int)) (F : Fr h₀ env.locals s.heap m₀) (N : News h₀ env.locals s.heap news) (hj : J 0 m₀ news)
    (turn : ∀ i t m₁ nx h tk own, i < n → OwnOff own (nx.map (·.1)) → J i m₁ nx → Fr h₀ env.locals h (fun y => if y = x then some (.int (a + (i : Int) * c) t) else m₁ y) → News h₀ env.locals h (nx ++ own) →
      wpAny (model prog w) A (execs body env) (InvPostG h₀ env.locals (J (i + 1)) own { s with heap := h, toks := tk } Q) E { s with heap := h, toks := tk })
    (done : ∀ m₁ nx h tk, J n m₁ nx → Fr h₀ env.locals h m₁ → News h₀ env.locals h nx → Q .next { s with heap := h, toks := tk }) :
    wpAny (model prog w) A (pyIter (.ref r)) (fun it s₂ => LoopAtV prog w A h₀ env x body Q E it s₂) E s := by
  refine wpAny_pyIter_range hr hsm ?_
  have W : Walks prog w A s.heap.objs.size [s.heap.objs.size] [s.heap.objs.size] n (fun i v => i < n ∧ ∃ t, v = .int (a + i * c) t)
      (fun i h => IsRangeIter h s.heap.objs.size (a + (i : Nat) * c) ((n : Int) - (i : Nat)) c) := (Walks.range hh _ a c n).bound
  refine kdr_loop J W (fun _ h => h) (fun _ h => h) ?_ ?_ ?_ ?_ (by show IsRangeIter _ _ _ _ _; rw [hsz]; simpa using Heap.get?_push_size _ rfl) (F.push _) (fun p hp => ⟨Heap.get?_push_of_some _ (N p hp).1, (N p hp).2⟩) hj ?_ done
  · intro i h hi b hb
    rw [List.mem_singleton.mp hb]
    exact ⟨_, hi⟩
  · intro hm
    exact absurd F.ns.lt ((List.mem_singleton.mp hm) ▸ Nat.lt_irrefl _)
  · intro b hb
    rw [List.mem_singleton.mp hb]
    exact next_is_new F
  · intro p hp hI
    exact absurd (Heap.lt_size (N p hp).1) ((List.mem_singleton.mp hI) ▸ Nat.lt_irrefl _)
  · rintro i v m₁ nx h tk own hi ⟨_, t, rfl⟩ hoff hJ F₁ N₁
    exact turn i t m₁ nx h tk own hi hoff hJ F₁ N₁
end
end
end Mine
namespace Mine
section
open PySem PySem.W PySem.Calls PyProof.Rows
abbrev Wd := List UInt8
def wordAt (W : List Wd) (j : Nat) : Wd := W.getD j []
def newWord (W : List Wd) (c : Nat) : Wd := if c < 256 then [UInt8.ofNat c] else wordAt W (c - 258) ++ [(W.getD (c - 258 + 1) (wordAt W (c - 258))).headD 0]
def stepW (W : List Wd) (c : Nat) : List Wd := if c = 256 then [] else if c = 257 then W else if c < 256 ∨ c < 258 + W.length then W ++ [newWord W c] else W
def outW (W : List Wd) (c : Nat) : Option Wd := if c = 256 ∨ c = 257 then some [] else if c < 256 ∨ c < 258 + W.length then some (newWord W c) else none
def octs (W : List Wd) : List Int := W.flatten.map fun b => (b.toNat : Int)
def wInts (x : Wd) : List Int := x.map fun b => (b.toNat : Int)
def begAt (W : List Wd) (j : Nat) : Nat := (W.take j).flatten.length
abbrev tup2 (a b : Value) : Obj := { cls := .type "tuple", data := .seq #[a, b] }
/-- the list `ends`: one pair a word -/
def EndsAre (tl : List (Addr × Obj)) (it : List Value) (W : List Wd) : Prop :=
  it.length = W.length ∧ ∀ j, j < W.length → ∃ t u v, it[j]? = some (.ref t) ∧ (t, tup2 (.int (begAt W j) u) (.int (begAt W (j + 1)) v)) ∈ tl
def DueIs (v : Value) : Option Wd → Prop
  | none => v = .none
  | some x => ∃ t, v = .bytes x.toArray t
theorem octs_append (W : List Wd) (x : Wd) : octs (W ++ [x]) = octs W ++ wInts x := by simp [octs, wInts]
theorem octs_length (W : List Wd) : (octs W).length = begAt W W.length := by unfold octs begAt; rw [List.length_map, List.take_length]
theorem begAt_append (W : List Wd) (x : Wd) {j : Nat} (h : j ≤ W.length) : begAt (W ++ [x]) j = begAt W j := by
  unfold begAt; rw [List.take_append_of_le_length h]
theorem begAt_succ (W : List Wd) (j : Nat) (h : j < W.length) : begAt W (j + 1) = begAt W j + W[j].length := by
  unfold begAt; rw [List.take_succ_eq_append_getElem h, List.flatten_append, List.length_append]; simp
theorem begAt_le (W : List Wd) {i j : Nat} (h : i ≤ j) : begAt W i ≤ begAt W j := by
  unfold begAt
  have : (W.take j) = W.take i ++ (W.take j).drop i := by
    have := (List.take_append_drop i (W.take j)).symm
    rwa [List.take_take, Nat.min_eq_left h] at this
  rw [this]; simp
theorem octs_at (W : List Wd) (j i : Nat) (h : j < W.length) (hi : i < W[j].length) : (octs W)[begAt W j + i]? = some ((W[j][i].toNat : Nat) : Int) := by
  have e : W.flatten = (W.take j).flatten ++ (W[j] ++ (W.drop (j + 1)).flatten) := by
    conv => lhs; rw [← List.take_append_drop j W, List.drop_eq_getElem_cons h]
    rw [List.flatten_append, List.flatten_cons]
  unfold octs begAt
  rw [List.getElem?_map, e, List.getElem?_append_right (by (first | lia | omega)), show (List.take j W).flatten.length + i - (List.take j W).flatten.length = i by (first | lia | omega), List.getElem?_append_left hi, List.getElem?_eq_getElem hi]
  rfl
theorem head_is (x : Wd) (h : 0 < x.length) : x[0] = x.headD 0 := by cases x with | nil => cases h | cons a r => rfl
/-- the octet that is copied in turn i -/
theorem copy_at (W : List Wd) (hne : ∀ x ∈ W, x ≠ []) (j i : Nat) (h : j < W.length) (hi : i ≤ W[j].length) :
    (octs W ++ (wInts (newWord W (258 + j))).take i)[begAt W j + i]? = (wInts (newWord W (258 + j)))[i]? := by
  have hw : newWord W (258 + j) = W[j] ++ [(W.getD (j + 1) W[j]).headD 0] := by
    unfold newWord wordAt
    rw [if_neg (by (first | lia | omega)), show 258 + j - 258 = j by (first | lia | omega)]
    simp [List.getD_eq_getElem?_getD, h]
  have hlen : (octs W).length = begAt W W.length := octs_length W
  have hj := begAt_succ W j h
  have hle := begAt_le W (show j + 1 ≤ W.length by (first | lia | omega))
  rcases Nat.lt_or_ge i W[j].length with hlt | hge
  · rw [List.getElem?_append_left (by (first | lia | omega)), octs_at W j i h hlt, hw]
    unfold wInts
    rw [List.getElem?_map, List.getElem?_append_left hlt, List.getElem?_eq_getElem hlt]
    rfl
  · have e : i = W[j].length := by (first | lia | omega)
    have hpos : 0 < W[j].length := List.length_pos_iff.mpr (hne _ (List.getElem_mem h))
    have hr : (wInts (newWord W (258 + j)))[i]? = some ((((W.getD (j + 1) W[j]).headD 0).toNat : Nat) : Int) := by
      rw [hw, e]; unfold wInts
      rw [List.getElem?_map, List.getElem?_append_right (by (first | lia | omega))]
      simp
    rw [hr]
    rcases Nat.lt_or_ge (j + 1) W.length with h1 | h1
    · have hp1 : 0 < W[j + 1].length := List.length_pos_iff.mpr (hne _ (List.getElem_mem h1))
      have hb := begAt_succ W (j + 1) h1
      have hle1 := begAt_le W (show j + 1 + 1 ≤ W.length by (first | lia | omega))
      have := octs_at W (j + 1) 0 h1 hp1
      rw [List.getElem?_append_left (by (first | lia | omega)), e, ← hj]
      rw [Nat.add_zero] at this
      rw [this]
      congr 3
      rw [List.getD_eq_getElem?_getD, List.getElem?_eq_getElem h1, Option.getD_some]
      exact head_is _ hp1
    · have e1 : W.length = j + 1 := by (first | lia | omega)
      rw [e1] at hlen
      rw [List.getElem?_append_right (by (first | lia | omega)), hlen, hj, e]
      rw [show begAt W j + W[j].length - (begAt W j + W[j].length) = 0 by (first | lia | omega)]
      rw [List.getElem?_take_of_lt (by (first | lia | omega)), hw]
      unfold wInts
      rw [List.getElem?_map, List.getElem?_append_left (by (first | lia | omega)), List.getElem?_eq_getElem hpos]
      rw [List.getD_eq_getElem?_getD, List.getElem?_eq_none (by (first | lia | omega)), Option.getD_none]
      rw [head_is _ hpos]
      rfl
theorem octs_in (ws : List Wd) : ∀ x ∈ octs ws, 0 ≤ x ∧ x < 256 := by
  intro x hx
  obtain ⟨b, _, rfl⟩ := List.mem_map.mp hx
  have := b.toNat_lt
  omega
theorem wInts_in (x : Wd) : ∀ y ∈ wInts x, 0 ≤ y ∧ y < 256 := by
  intro y hy
  obtain ⟨b, _, rfl⟩ := List.mem_map.mp hy
  have := b.toNat_lt
  omega
theorem wInts_one {c : Int} (h0 : 0 ≤ c) (h1 : c < 256) : wInts [UInt8.ofNat c.toNat] = [c] := by
  unfold wInts
  simp only [List.map_cons, List.map_nil, UInt8.toNat_ofNat']
  congr 1
  omega
theorem byteArr_wInts (x : Wd) : byteArr (wInts x) = x.toArray := by
  unfold byteArr wInts
  rw [List.map_map]
  congr 1
  conv => rhs; rw [← List.map_id x]
  refine List.map_congr_left fun b _ => ?_
  show (Int.toNat (b.toNat : Int)).toUInt8 = b
  rw [Int.toNat_natCast]
  exact UInt8.ofNat_toNat
theorem drop_word (ws : List Wd) (x : Wd) : (octs ws ++ wInts x).drop (octs ws).length = wInts x := List.drop_left
theorem begAt_append_len (ws : List Wd) (x : Wd) : begAt (ws ++ [x]) (ws.length + 1) = begAt ws ws.length + x.length := by
  have := begAt_succ (ws ++ [x]) ws.length (by simp)
  rw [this, begAt_append _ _ (Nat.le_refl _)]
  simp
theorem endsAre_snoc {tl : List (Addr × Obj)} {it : List Value} {ws : List Wd} {x : Wd} {t : Addr} {a b : Int} {u v : Tok} (h : EndsAre tl it ws) (ha : a = (begAt ws ws.length : Nat)) (hb : b = (begAt (ws ++ [x]) (ws.length + 1) : Nat)) :
    EndsAre ([(t, tup2 (.int a u) (.int b v))] ++ tl) (it ++ [.ref t]) (ws ++ [x]) := by
  obtain ⟨h1, h2⟩ := h
  refine ⟨by simp [h1], fun j hj => ?_⟩
  rw [List.length_append, List.length_singleton] at hj
  rcases Nat.lt_or_ge j ws.length with hl | hg
  · obtain ⟨t', u', v', e1, e2⟩ := h2 j hl
    refine ⟨t', u', v', by rw [List.getElem?_append_left (by (first | lia | omega))]; exact e1, List.mem_append_right _ ?_⟩
    rw [begAt_append _ _ (by (first | lia | omega)), begAt_append _ _ (by (first | lia | omega))]
    exact e2
  · obtain rfl : j = ws.length := by (first | lia | omega)
    refine ⟨t, u, v, by rw [List.getElem?_append_right (by (first | lia | omega)), h1]; simp, List.mem_append_left _ ?_⟩
    rw [begAt_append _ _ (Nat.le_refl _), ← ha, ← hb]
    exact .head _
theorem endsAre_nil (tl : List (Addr × Obj)) : EndsAre tl [] [] := ⟨rfl, fun j h => absurd h (by simp)⟩
theorem endsAre_sub {tl tl' : List (Addr × Obj)} {it : List Value} {ws : List Wd} (h : EndsAre tl it ws) (s : ∀ p ∈ tl, p ∈ tl') : EndsAre tl' it ws :=
  ⟨h.1, fun j hj => by obtain ⟨t, u, v, a, b⟩ := h.2 j hj; exact ⟨t, u, v, a, s _ b⟩⟩
theorem step_clear (ws : List Wd) : stepW ws (256 : Int).toNat = [] := by simp [stepW]
theorem out_clear (ws : List Wd) : outW ws (256 : Int).toNat = some [] := by simp [outW]
theorem step_end (ws : List Wd) : stepW ws (257 : Int).toNat = ws := by simp [stepW]
theorem out_end (ws : List Wd) : outW ws (257 : Int).toNat = some [] := by simp [outW]
theorem step_none {ws : List Wd} {c : Int} (h : 258 + (ws.length : Int) ≤ c) : stepW ws c.toNat = ws := by
  unfold stepW; rw [if_neg (by (first | lia | omega)), if_neg (by (first | lia | omega)), if_neg (by (first | lia | omega))]
theorem out_none {ws : List Wd} {c : Int} (h : 258 + (ws.length : Int) ≤ c) : outW ws c.toNat = none := by
  unfold outW; rw [if_neg (by (first | lia | omega)), if_neg (by (first | lia | omega))]
theorem step_word {ws : List Wd} {c : Int} (h0 : 0 ≤ c) (h6 : c ≠ 256) (h7 : c ≠ 257) (h : ¬ 258 + (ws.length : Int) ≤ c) : stepW ws c.toNat = ws ++ [newWord ws c.toNat] := by
  unfold stepW; rw [if_neg (by (first | lia | omega)), if_neg (by (first | lia | omega)), if_pos (by (first | lia | omega))]
theorem out_word {ws : List Wd} {c : Int} (h0 : 0 ≤ c) (h6 : c ≠ 256) (h7 : c ≠ 257) (h : ¬ 258 + (ws.length : Int) ≤ c) : outW ws c.toNat = some (newWord ws c.toNat) := by
  unfold outW; rw [if_neg (by (first | lia | omega)), if_pos (by (first | lia | omega))]
theorem new_small {ws : List Wd} {c : Int} (h0 : 0 ≤ c) (h : c < 256) : newWord ws c.toNat = [UInt8.ofNat c.toNat] := by
  unfold newWord; rw [if_pos (by (first | lia | omega))]
def runW (cs : List Nat) : List Wd := cs.foldl stepW []
def outsW : List Wd → List Nat → List (Option Wd)
  | _, [] => []
  | ws, c :: r => outW ws c :: outsW (stepW ws c) r
def Good : List Wd → List Nat → Prop
  | _, [] => True
  | ws, c :: r => c < 512 ∧ (ws = [] → c ≤ 257) ∧ Good (stepW ws c) r
theorem runW_snoc (cs : List Nat) (c : Nat) : runW (cs ++ [c]) = stepW (runW cs) c := by unfold runW; rw [List.foldl_append]; rfl
theorem outsW_snoc (c : Nat) : ∀ (cs : List Nat) (ws : List Wd), outsW ws (cs ++ [c]) = outsW ws cs ++ [outW (cs.foldl stepW ws) c]
  | [], _ => rfl
  | a :: r, ws => by show outW ws a :: outsW (stepW ws a) (r ++ [c]) = _; rw [outsW_snoc c r]; rfl
theorem good_snoc (c : Nat) : ∀ (cs : List Nat) (ws : List Wd), Good ws cs → c < 512 → (cs.foldl stepW ws = [] → c ≤ 257) → Good ws (cs ++ [c])
  | [], _, _, h1, h2 => ⟨h1, h2, trivial⟩
  | _ :: r, _, h, h1, h2 => ⟨h.1, h.2.1, good_snoc c r _ h.2.2 h1 h2⟩
def Bd (n : Nat) (ws : List Wd) : Prop := ws.length ≤ n ∧ ∀ x ∈ ws, x ≠ [] ∧ x.length ≤ n
theorem bd_step {n : Nat} {ws : List Wd} (h : Bd n ws) (c : Nat) : Bd (n + 1) (stepW ws c) := by
  have up : Bd (n + 1) ws := ⟨Nat.le_succ_of_le h.1, fun x hx => ⟨(h.2 x hx).1, Nat.le_succ_of_le (h.2 x hx).2⟩⟩
  unfold stepW
  split
  · exact ⟨Nat.zero_le _, fun x hx => by cases hx⟩
  split
  · exact up
  split
  · refine ⟨by rw [List.length_append]; exact Nat.succ_le_succ h.1, fun x hx => ?_⟩
    rcases List.mem_append.mp hx with hx | hx
    · exact up.2 x hx
    · obtain rfl := List.mem_singleton.mp hx
      unfold newWord
      split
      · exact ⟨by simp, by simp⟩
      · refine ⟨by simp, ?_⟩
        rw [List.length_append]
        refine Nat.succ_le_succ ?_
        unfold wordAt
        rw [List.getD_eq_getElem?_getD]
        rcases Nat.lt_or_ge (c - 258) ws.length with hl | hg
        · rw [List.getElem?_eq_getElem hl]; exact (h.2 _ (List.getElem_mem hl)).2
        · rw [List.getElem?_eq_none hg]; exact Nat.zero_le _
  · exact up
theorem bd_fold : ∀ (cs : List Nat) (ws : List Wd) (n : Nat), Bd n ws → Bd (n + cs.length) (cs.foldl stepW ws)
  | [], _, _, h => h
  | c :: r, ws, n, h => by
    have := bd_fold r _ _ (bd_step h c)
    rw [List.length_cons, show n + (r.length + 1) = n + 1 + r.length by (first | lia | omega)]
    exact this
theorem bd_run (cs : List Nat) : Bd cs.length (runW cs) := by
  have := bd_fold cs [] 0 ⟨Nat.le_refl _, fun x hx => by cases hx⟩
  rwa [Nat.zero_add] at this
theorem bd_len : ∀ {ws : List Wd} {n : Nat}, (∀ x ∈ ws, x.length ≤ n) → (octs ws).length ≤ ws.length * n
  | [], n, _ => by simp [octs]
  | a :: r, n, h => by
    have h1 := bd_len (ws := r) fun x hx => h x (.tail _ hx)
    have h2 := h a (.head _)
    unfold octs at h1 ⊢
    rw [List.length_map] at h1 ⊢
    rw [List.flatten_cons, List.length_append, List.length_cons, Nat.succ_mul]
    omega
theorem bd_octs {ws : List Wd} {n : Nat} (h : Bd n ws) (hn : n ≤ 19) : (octs ws).length ≤ 1000 := by
  have h1 := bd_len fun x hx => (h.2 x hx).2
  have h2 : ws.length * n ≤ 19 * 19 := Nat.mul_le_mul (Nat.le_trans h.1 hn) hn
  omega
inductive DuesAre : List Value → List (Option Wd) → Prop
  | nil : DuesAre [] []
  | cons {v : Value} {x : Option Wd} {vs : List Value} {xs : List (Option Wd)} : DueIs v x → DuesAre vs xs → DuesAre (v :: vs) (x :: xs)
theorem DuesAre.snoc {v : Value} {x : Option Wd} (h : DueIs v x) : ∀ {vs : List Value} {xs : List (Option Wd)}, DuesAre vs xs → DuesAre (vs ++ [v]) (xs ++ [x])
  | _, _, .nil => .cons h .nil
  | _, _, .cons a b => .cons a (DuesAre.snoc h b)
theorem DuesAre.length : ∀ {vs : List Value} {xs : List (Option Wd)}, DuesAre vs xs → vs.length = xs.length
  | _, _, .nil => rfl
  | _, _, .cons _ b => congrArg (· + 1) b.length
theorem DuesAre.get : ∀ {vs : List Value} {xs : List (Option Wd)}, DuesAre vs xs → ∀ (i : Nat) (x : Option Wd), xs[i]? = some x → ∃ v, vs[i]? = some v ∧ DueIs v x
  | _, _, .cons a _, 0, x, e => by simp at e; subst e; exact ⟨_, rfl, a⟩
  | _, _, .cons _ b, i + 1, x, e => by simpa using b.get i x (by simpa using e)
theorem outsW_length : ∀ (cs : List Nat) (ws : List Wd), (outsW ws cs).length = cs.length
  | [], _ => rfl
  | _ :: r, _ => congrArg (· + 1) (outsW_length r _)
def cInts (cs : List Nat) : List Int := cs.map fun (c : Nat) => (c : Int)
end
end Mine
namespace Mine
section
open PySem PySem.W PySem.Calls PyProof.Rows
set_option maxHeartbeats 8000000
set_option compiler.extract_closed false
theorem wReset38 : 1 = 1 := by walk1
noncomputable def forB (i : Nat) : List Stmt := match LB i 1 with | [.For _ _ b _ _] => b | _ => []
local macro_rules | `(tactic| k_room) => `(tactic| ktr_room)
local macro_rules | `(tactic| walk_at "exec For") => `(tactic| (k_here; refine Hold.out ?_))
local macro_rules | `(tactic| walk_at "exec For Name Name cons nil") => `(tactic| (k_here; refine Hold.out ?_))
theorem ints_push {vs : List Value} {ns : List Int} {n : Int} {t : Tok} (h : IntsAre vs ns) : IntsAre (vs.toArray.push (.int n t)).toList (ns ++ [n]) := by
  rw [List.push_toArray]
  show IntsAre (vs ++ [.int n t]) (ns ++ [n])
  induction h with
  | nil => exact .cons _ _ .nil
  | cons _ _ _ ih => exact .cons _ _ ih
theorem slice_from {prog : Program} {w : World} {A : Around} {E : Value → Shared → Prop} {s : Shared} {h₀ : Heap} {L l : Addr} {m : PySem.Str → Option Value} {news : List (Addr × Obj)} {value slice : PySem.Expr} {its : Array Value} {os : List Int} {n : Nat} {k : Int} {tk : Tok} {Q : Value → Shared → Prop}
    (F : Fr h₀ L s.heap m) (N : News h₀ L s.heap news) (hm : (l, PySem.W.listOf its n) ∈ news) (hi : IntsAre its.toList os) (h0 : 0 ≤ k) (hz : its.size ≤ 5000)
    (h : ∀ D ws h', Fr h₀ L h' m → News h₀ L h' ((D, PySem.W.listOf (List.toArray ws) 0) :: news) → (∀ p ∈ news, p.1 < D) → IntsAre ws (os.drop k.toNat) → Q (.ref D) { s with heap := h' })
    (hs : subscripted slice false (.ref l) (.ref s.heap.objs.size) = operate [.ref s.heap.objs.size, .ref l] (getItem (.ref l) (.ref s.heap.objs.size)) := by with_unfolding_all rfl) (ht : ∀ r, letTemporaryGo value (.ref l) r = pure () := by intro _; with_unfolding_all rfl) :
    wpAny (model prog w) A (subscriptTail value slice (.ref l) (.ref s.heap.objs.size)) Q E { s with heap := s.heap.push { cls := .type "slice", data := .fields #[.int k tk, .none, .none] } } := by
  have hl : s.heap.IsList l its.toList.toArray := by rw [Array.toArray_toList]; exact News.isList N hm
  exact kmk_slice_ints F N hl (IsPart.int _ _) IsPart.none hi (kmk_from hi h0) rfl (fun D ws h' F' N' l1 hi' _ _ => h D ws h' F' N' l1 hi') hs ht (by rw [Array.toArray_toList, sizeLine_eq]; omega)
theorem in_drop {os : List Int} {k : Nat} (h : ∀ x ∈ os, 0 ≤ x ∧ x < 256) : ∀ x ∈ os.drop k, 0 ≤ x ∧ x < 256 := fun x hx => h x (List.mem_of_mem_drop hx)
theorem in_snoc {os : List Int} {c : Int} (h : ∀ x ∈ os, 0 ≤ x ∧ x < 256) (h0 : 0 ≤ c) (h1 : c < 256) : ∀ x ∈ os ++ [c], 0 ≤ x ∧ x < 256 := fun x hx => by
  rcases List.mem_append.mp hx with h' | h'
  · exact h x h'
  · obtain rfl := List.mem_singleton.mp h'; exact ⟨h0, h1⟩
theorem passes_no {M : Model} {A : Around} {env : Env} : PassesOwn M A env (fun _ _ => False) := fun _ _ h => h.elim
theorem tup_item0 {prog : Program} {w : World} {A : Around} {E : Value → Shared → Prop} {s : Shared} {h₀ : Heap} {L : Addr} {news : List (Addr × Obj)} {value slice : PySem.Expr} {l : Addr} {a b : Value} {u : Tok} {Q : Value → Shared → Prop} (N : News h₀ L s.heap news) (hm : (l, tup2 a b) ∈ news) (h : Q a s)
    (hs : subscripted slice false (.ref l) (.int 0 u) = operate [.ref l, .int 0 u] (getItem (.ref l) (.int 0 u)) := by with_unfolding_all rfl) (hg : ∀ r, letTemporaryGo value (.ref l) r = pure () := by intro _; with_unfolding_all rfl) :
    wpAny (model prog w) A (subscriptTail value slice (.ref l) (.int 0 u)) Q E s := item_tuple (j := 0) ⟨_, N.get hm, rfl, _, rfl⟩ (by decide) (by decide) rfl rfl h hs hg
theorem tup_item1 {prog : Program} {w : World} {A : Around} {E : Value → Shared → Prop} {s : Shared} {h₀ : Heap} {L : Addr} {news : List (Addr × Obj)} {value slice : PySem.Expr} {l : Addr} {a b : Value} {u : Tok} {Q : Value → Shared → Prop} (N : News h₀ L s.heap news) (hm : (l, tup2 a b) ∈ news) (h : Q b s)
    (hs : subscripted slice false (.ref l) (.int 1 u) = operate [.ref l, .int 1 u] (getItem (.ref l) (.int 1 u)) := by with_unfolding_all rfl) (hg : ∀ r, letTemporaryGo value (.ref l) r = pure () := by intro _; with_unfolding_all rfl) :
    wpAny (model prog w) A (subscriptTail value slice (.ref l) (.int 1 u)) Q E s := item_tuple (j := 1) ⟨_, N.get hm, rfl, _, rfl⟩ (by decide) (by decide) rfl rfl h hs hg
theorem item_arrB {prog : Program} {w : World} {A : Around} {E : Value → Shared → Prop} {s : Shared} {h₀ : Heap} {L : Addr} {news : List (Addr × Obj)} {value slice : PySem.Expr} {l : Addr} {items : Array Value} {n : Nat} {k : Int} {u : Tok} {x : Value} {Q : Value → Shared → Prop} (N : News h₀ L s.heap news) (hm : (l, PySem.W.listOf items n) ∈ news)
    (h0 : 0 ≤ k) (hfit : k < 2 ^ 63) (hx : items[k.toNat]? = some x) (h : Q x s)
    (hs : subscripted slice false (.ref l) (.int k u) = operate [.ref l, .int k u] (getItem (.ref l) (.int k u)) := by with_unfolding_all rfl) (hg : ∀ r, letTemporaryGo value (.ref l) r = pure () := by intro _; with_unfolding_all rfl) :
    wpAny (model prog w) A (subscriptTail value slice (.ref l) (.int k u)) Q E s := item_list (News.isList N hm) h0 hfit hx h hs hg
local macro_rules | `(tactic| walk_at "pyIter ref") => `(tactic| (k_here; refine Hold.out ?_))
section
variable {w : World} {p : Program} {loose : List PySem.Str} {mean : ExcName → Option Value} {mg mb : PySem.Str → Option Value} {s : Shared} {Q : Flow → Shared → Prop} {E : Value → Shared → Prop} {h₀ : Heap} {L : Addr} {m : PySem.Str → Option Value}
theorem allLt_mem {d : Nat} {l : List (Addr × Obj)} (h : AllLt d l) : ∀ p ∈ l, @LT.lt Nat _ p.1 d := by
  induction l with
  | nil => intro p hp; cases hp
  | cons a r ih =>
    intro p hp
    rcases List.mem_cons.mp hp with e | hp
    · rw [e]; exact h.1
    · exact ih h.2 p hp
theorem own_two {tl : List (Addr × Obj)} {a b c d c' d' : Addr} (h : OwnOff tl [a, b, c, d]) (hc : AllLt c' tl) (hd : AllLt d' tl) : OwnOff tl [a, b, c', d'] := fun p hp x hx => by
  simp only [List.mem_cons, List.not_mem_nil, or_false] at hx
  rcases hx with rfl | rfl | rfl | rfl
  · exact h p hp _ (.head _)
  · exact h p hp _ (.tail _ (.head _))
  · exact Nat.ne_of_lt (allLt_mem hc p hp)
  · exact Nat.ne_of_lt (allLt_mem hd p hp)
theorem own_add {tl : List (Addr × Obj)} {a b c d t : Addr} {o : Obj} (h : OwnOff tl [a, b, c, d]) (h1 : @LT.lt Nat _ a t) (h2 : @LT.lt Nat _ b t) (h3 : @LT.lt Nat _ c t) (h4 : @LT.lt Nat _ d t) : OwnOff ([(t, o)] ++ tl) [a, b, c, d] := fun p hp x hx => by
  rcases List.mem_append.mp hp with hp | hp
  · obtain rfl := List.mem_singleton.mp hp
    simp only [List.mem_cons, List.not_mem_nil, or_false] at hx
    rcases hx with rfl | rfl | rfl | rfl <;> exact Nat.ne_of_gt (by assumption)
  · exact h p hp x hx
theorem permE {h₀ h : Heap} {L : Addr} {t c d e o : Addr × Obj} {tl : List (Addr × Obj)} (N : News h₀ L h (t :: c :: d :: e :: o :: tl)) : News h₀ L h (c :: d :: e :: o :: ([] ++ tl)) := fun q hq => N q (.tail _ hq)
theorem permC {h₀ h : Heap} {L : Addr} {t o' e' u c d e o : Addr × Obj} {tl : List (Addr × Obj)} (N : News h₀ L h (t :: o' :: e' :: u :: c :: d :: e :: o :: tl)) : News h₀ L h (c :: d :: e' :: o' :: ([] ++ tl)) := news_sub N (by ((repeat (refine sub_cons (by repeat (first | exact List.Mem.head _ | refine List.Mem.tail _ ?_)) ?_)); first | exact sub_nil | (intro q hq; repeat (first | exact hq | refine List.Mem.tail _ ?_))))
theorem permW {h₀ h : Heap} {L : Addr} {x t u c d e o : Addr × Obj} {tl : List (Addr × Obj)} (N : News h₀ L h (x :: t :: u :: c :: d :: e :: o :: tl)) : News h₀ L h (c :: d :: e :: o :: ([t] ++ tl)) := news_sub N (by ((repeat (refine sub_cons (by repeat (first | exact List.Mem.head _ | refine List.Mem.tail _ ?_)) ?_)); first | exact sub_nil | (intro q hq; repeat (first | exact hq | refine List.Mem.tail _ ?_))))
theorem own_nil {tl : List (Addr × Obj)} : OwnOff tl (([] : List (Addr × Obj)).map (·.1)) := fun _ _ _ h => nomatch h
theorem own_one {tl : List (Addr × Obj)} {t : Addr} {o : Obj} (h : AllLt t tl) : OwnOff tl ([(t, o)].map (·.1)) := fun p hp b hb => by
  obtain rfl := List.mem_singleton.mp hb
  exact Nat.ne_of_lt (allLt_mem h p hp)
def orelseOf : Stmt → List Stmt
  | .If _ _ o _ => o
  | _ => []
noncomputable def kBody : List Stmt := match nth (orelseOf (nth (orelseOf (nth (orelseOf (nth (orelseOf (nth (forB 2) 2)) 0)) 0)) 0)) 0 with | .For _ _ b _ _ => b | _ => []
theorem innerB {r octets : Addr} {j : Nat} {itO : List Value} {nO : Nat} {tl : List (Addr × Obj)} {pD pC pU pE : Addr × Obj} {ws : List Wd} {b : Int} {t1 t2 t3 : Tok}
    (F : Fr h₀ L s.heap m) (X : (KK w.params).In h₀) (T : Top p loose mean mg mb h₀) (N : News h₀ L s.heap (pD :: pC :: pU :: pE :: (octets, PySem.W.listOf itO.toArray nO) :: tl)) (hm : m "octets" = some (.ref octets))
    (o1 : @Ne Nat pD.1 octets) (o2 : @Ne Nat pC.1 octets) (o3 : @Ne Nat pU.1 octets) (o4 : @Ne Nat pE.1 octets) (off : OwnOff tl [octets]) (hO : itO.length ≤ 1000) (hiO : IntsAre itO (octs ws)) (hne : ∀ x ∈ ws, x ≠ []) (hj : j < ws.length) (hjl : ws[j].length ≤ 1000)
    (hb : b = (begAt ws (j + 1) : Nat) + 1) (hR : IsRange s.heap r (begAt ws j : Nat) b 1 t1 t2 t3)
    (done : ∀ m' itO' n' h tk, (∀ y : PySem.Str, y ≠ "k" → m' y = m y) → IntsAre itO' (octs ws ++ wInts (newWord ws (258 + j))) → Fr h₀ L h m' → News h₀ L h (pD :: pC :: pU :: pE :: (octets, PySem.W.listOf itO'.toArray n') :: tl) → Q .next { s with heap := h, toks := tk }) :
    wpAny (model pw w) (LA L) (pyIter (.ref r)) (fun it s₂ => LoopAtV pw w (LA L) h₀ (lawEnv L) "k" kBody Q (fun _ _ => False) it s₂) (fun _ _ => False) s := by
  have hlen : (newWord ws (258 + j)).length = ws[j].length + 1 := by
    unfold newWord wordAt
    rw [if_neg (by (first | lia | omega)), show 258 + j - 258 = j by (first | lia | omega)]
    simp [List.getD_eq_getElem?_getD, hj]
  have hbs := begAt_succ ws j hj
  subst hb
  refine rng_iter (n := ws[j].length + 1) (fun i m₁ nx => ∃ itO' n', IntsAre itO' (octs ws ++ (wInts (newWord ws (258 + j))).take i) ∧ nx = (pD :: pC :: pU :: pE :: (octets, PySem.W.listOf itO'.toArray n') :: tl) ∧ ∀ y : PySem.Str, y ≠ "k" → m₁ y = m y)
    rfl hR ?_ ?_ F N ⟨itO, nO, by simpa using hiO, rfl, fun _ _ => rfl⟩ ?_ ?_
  · have h1 : begAt ws (j + 1) ≤ begAt ws ws.length := begAt_le ws (by (first | lia | omega))
    have h2 : begAt ws ws.length ≤ 1000 := by rw [← octs_length, ← hiO.length]; exact hO
    exact small_one (by (first | lia | omega)) (by (first | lia | omega)) (by (first | lia | omega)) (by (first | lia | omega))
  · rw [rangeSize_nat]; (first | lia | omega)
  · intro i tk' m₁ nx h tk own hi ho hJ F3 N3
    obtain ⟨itO', n', hI, rfl, hy⟩ := hJ
    have hc := copy_at ws hne j i hj (by (first | lia | omega))
    have hx : ∃ x, (wInts (newWord ws (258 + j)))[i]? = some x := ⟨_, List.getElem?_eq_getElem (by unfold wInts; rw [List.length_map]; omega)⟩
    obtain ⟨x, hx⟩ := hx
    rw [hx] at hc
    obtain ⟨tx, hg⟩ := hI.get _ _ hc
    have hoct : m₁ "octets" = some (.ref octets) := (hy _ (by decide)).trans hm
    have hg3 : itO'.toArray[((begAt ws j : Nat) + (i : Int) * 1).toNat]? = some (.int x tx) := by
      rw [show ((begAt ws j : Nat) + (i : Int) * 1).toNat = begAt ws j + i by (first | lia | omega)]; simpa using hg
    have F4 := fr_know F3 (x := "octets") ((if_neg (by decide)).trans hoct)
    have hl2 : itO'.length ≤ 3000 := by rw [hI.length]; simp only [List.length_append, List.length_take]; have := hiO.length; (first | lia | omega)
    have hl3 : begAt ws j + i ≤ 5000 := by
      have := (List.getElem?_eq_some_iff.mp hg).1; (first | lia | omega)
    have off2 : OwnOff (tl ++ own) [octets] := fun p hp => (List.mem_append.mp hp).elim (off p) fun q b hb => by
      obtain rfl := List.mem_singleton.mp hb
      exact ho p q _ (by simp)
    have N4 : News h₀ L h (pD :: pC :: pU :: pE :: (octets, PySem.W.listOf itO'.toArray n') :: (tl ++ own)) := N3
    clear N3 F3 off
    show wpAny _ _ (execs [_] _) _ _ _
    (repeat' (first | (k_unfold; (try dsimp only)) | (k_end; kc_close) | (k_here; (with_reducible show wpAny _ _ (subscriptTail _ _ (Value.ref _) (Value.int _ _)) _ _ _); (with_unfolding_all refine' item_arrB ?k1 ?k2 ?k3 ?k4 ?k5 ?_; (case k1 => k_asm); (case k2 => k_mem); (case k3 => omega); (case k4 => omega); (case k5 => assumption); k_whole)) | (k_here; (with_reducible show wpAny _ _ (subscriptTail _ _ (Value.ref _) (Value.int 1 _)) _ _ _); (with_unfolding_all refine' tup_item1 ?k1 ?k2 ?_; (case k1 => k_asm); (case k2 => (repeat (first | assumption | refine List.Mem.tail _ ?_))); k_whole)) | (k_here; (with_reducible show wpAny _ _ (subscriptTail _ _ (Value.ref _) (Value.int 0 _)) _ _ _); (with_unfolding_all refine' tup_item0 ?k1 ?k2 ?_; (case k1 => k_asm); (case k2 => (repeat (first | assumption | refine List.Mem.tail _ ?_))); k_whole)) | (k_here; (with_reducible show wpAny _ _ (call (Value.type "bytes") [Value.ref _]) _ _ _); k_dflt (refine' KBa.make_K ?F ?N ?hh ?hl ?hi ?hr ?hn ?_; (case F => k_asm); (case N => k_asm); (case hh => rfl); (case hl => exact News.isList (by k_asm) (by k_mem)); (case hi => assumption); (case hr => first | exact in_drop (in_snoc (by assumption) (by omega) (by omega)) | exact in_drop (by assumption)); (case hn => (simp only [List.length_drop, List.length_append, List.length_cons, List.length_nil]; omega))); intro h' t' k' F' N' hin') | (k_here; (with_reducible show wpAny _ _ (subscriptTail _ (PySem.Expr.Slice (some _) none none _) (Value.ref _) (Value.ref _)) _ _ _); k_dflt (refine' slice_from (s := ⟨_, _, _, _, _⟩) ?F ?N ?hm ?hi ?h0 ?hz ?_; (case F => k_asm); (case N => k_asm); (case hm => k_mem); (case hi => first | assumption | exact ints_push (by assumption)); (case h0 => first | exact Int.natCast_nonneg _ | omega); (case hz => (simp only [Array.size_push, List.size_toArray]; omega))); intro D' ws' h' F' N' l1 hi'; (try k_lt l1)) | (k_here; (with_reducible show wpAny _ _ (call (Value.ref 1428) [_, _, _]) _ _ _); k_dflt (refine' code_specL ?kB ?kF ?kX ?kN ?kT ?kk ?ko ?kn ?r0 ?r1 ?c0 ?c1 ?k4 ?k5 (fun h' tk' code' t' F' N' hc0 hc1 hc2 => ?_); (case kB => k_asm); (case kF => k_asm); (case kX => k_asm); (case kN => k_asm); (case kT => k_asm); (case kk => exact rfl); (case ko => k_mem); (case kn => assumption); (case r0 => (first | omega | exact Int.fmod_nonneg_of_pos _ (by decide))); (case r1 => (first | omega | exact Int.fmod_lt_of_pos _ (by decide))); (case c0 => omega); (case c1 => omega); (case k4 => decide); (case k5 => decide))) | (k_here; (with_reducible show wpAny _ _ (call (Value.builtin "len") [Value.ref _]) _ _ _); k_dflt (refine' len_list (News.isList (by k_asm) (by k_mem)) ?kf ?_; (case kf => (simp only [Array.size_push, List.size_toArray, List.length_append, List.length_cons, List.length_nil]; omega)); k_whole)) | walk1 | (dsimp only; walk1) | (leave1; (try dsimp only)) | fail "no step"))
    rename News _ _ _ _ => NN
    (try rw [List.push_toArray] at NN)
    refine InvEndG.intro (news' := _) (nx := pD :: pC :: pU :: pE :: (octets, PySem.W.listOf (itO' ++ [Value.int x tx]).toArray (n' + 1)) :: tl) (by assumption) NN ⟨itO' ++ [Value.int x tx], n' + 1, ?_, rfl, ?_⟩ ho (fun q hq => ?_) (fun q hq => ?_)
    · rw [List.take_add_one, hx, ← List.append_assoc]
      exact IntsAre.append hI (.cons _ _ .nil)
    · intro y hy1
      by_cases y2 : y = PySem.Str.ofString "octets"
      · rw [if_pos y2, y2]; exact hm.symm
      · rw [if_neg y2, if_neg hy1]; exact hy y hy1
    · simp only [List.mem_cons, List.mem_append] at hq ⊢
      rcases hq with h | h | h | h | h | h <;> simp [h]
    · simp only [List.mem_cons, List.mem_append]
      simp [hq]
  · intro m₁ nx h tk hJ F3 N3
    obtain ⟨itO', n', hI, rfl, hy⟩ := hJ
    rw [List.take_of_length_le (by unfold wInts; rw [List.length_map]; omega)] at hI
    exact done m₁ itO' n' h tk hy hI F3 N3
end
open PySem PySem.W PySem.Calls PyProof.Rows
set_option maxHeartbeats 8000000
set_option compiler.extract_closed false
theorem wReset39 : 1 = 1 := by walk1
section
variable {w : World} {p : Program} {loose : List PySem.Str} {mean : ExcName → Option Value} {mg mb : PySem.Str → Option Value} {s : Shared} {Q : Flow → Shared → Prop} {E : Value → Shared → Prop} {h₀ : Heap} {L : Addr} {m : PySem.Str → Option Value}
def RetB (Q : Flow → Shared → Prop) (s : Shared) (h₀ : Heap) (L codes due : Addr) (itC itD : List Value) (nC nD : Nat) (tlE tl : List (Addr × Obj)) (clr : Int) (ws : List Wd) : Prop :=
  ∀ (h' : Heap) (tk : Nat) (m' : PySem.Str → Option Value) (c : Int) (tC : Tok) (dv : Value) (ends' octets' : Addr) (itE' : List Value) (nE' : Nat) (itO' : List Value) (nO' : Nat) (add : List (Addr × Obj)) (clr' : Int) (tcl' : Tok), Fr h₀ L h' m' →
    News h₀ L h' ((codes, PySem.W.listOf (itC ++ [Value.int c tC]).toArray (nC + 1)) :: (due, PySem.W.listOf (itD ++ [dv]).toArray (nD + 1)) :: (ends', PySem.W.listOf itE'.toArray nE') :: (octets', PySem.W.listOf itO'.toArray nO') :: (add ++ tl)) →
    m' "codes" = some (.ref codes) → m' "due" = some (.ref due) → m' "ends" = some (.ref ends') → m' "octets" = some (.ref octets') → m' "clears" = some (.int clr' tcl') →
    0 ≤ c → c < 512 → (ws = [] → c ≤ 257) → 0 ≤ clr' → clr' ≤ clr + 1 → DueIs dv (outW ws c.toNat) → EndsAre (add ++ tlE) itE' (stepW ws c.toNat) → IntsAre itO' (octs (stepW ws c.toNat)) →
    OwnOff (add ++ tl) [codes, due, ends', octets'] → OwnOff tl (add.map (·.1)) → @Ne Nat codes ends' → @Ne Nat codes octets' → @Ne Nat due ends' → @Ne Nat due octets' → @Ne Nat ends' octets' → Q .next { s with heap := h', toks := tk }
theorem turnB {codes due ends octets : Addr} {itC itD itE itO : List Value} {nC nD nE nO : Nat} {tlE tl : List (Addr × Obj)} {v clr : Int} {tv tc : Tok} {ws : List Wd}
    (X : (KK w.params).In h₀) (T : Top p loose mean mg mb h₀) (F : Fr h₀ L s.heap m) (m1 : m "number" = some (.int v tv)) (m2 : m "codes" = some (.ref codes)) (m3 : m "due" = some (.ref due)) (m4 : m "ends" = some (.ref ends)) (m5 : m "octets" = some (.ref octets)) (m6 : m "clears" = some (.int clr tc))
    (N : News h₀ L s.heap ((codes, W.listOf itC.toArray nC) :: (due, W.listOf itD.toArray nD) :: (ends, W.listOf itE.toArray nE) :: (octets, W.listOf itO.toArray nO) :: tl))
    (off : OwnOff tl [codes, due, ends, octets]) (n1 : @Ne Nat codes due) (n2 : @Ne Nat codes ends) (n3 : @Ne Nat codes octets) (n4 : @Ne Nat due ends) (n5 : @Ne Nat due octets) (n6 : @Ne Nat ends octets)
    (hC : itC.length ≤ 20) (hD : itD.length ≤ 20) (hE : itE.length ≤ 18) (hO : itO.length ≤ 1000) (hc0 : 0 ≤ clr) (hc1 : clr ≤ 20) (hiO : IntsAre itO (octs ws)) (hEn : EndsAre tlE itE ws) (hne : ∀ x ∈ ws, x ≠ [])
    (hsub : ∀ p ∈ tlE, p ∈ tl) (ret : RetB Q s h₀ L codes due itC itD nC nD tlE tl clr ws) :
    wpAny (model pw w) (LA L) (execs (forB 2) (lawEnv L)) Q (fun _ _ => False) s := by
  replace F := fr_know (fr_know (fr_know (fr_know (fr_know (fr_know F m6) ((if_neg (by decide)).trans m5)) ((if_neg (by decide)).trans ((if_neg (by decide)).trans m4))) ((if_neg (by decide)).trans ((if_neg (by decide)).trans ((if_neg (by decide)).trans m3)))) ((if_neg (by decide)).trans ((if_neg (by decide)).trans ((if_neg (by decide)).trans ((if_neg (by decide)).trans m2))))) ((if_neg (by decide)).trans ((if_neg (by decide)).trans ((if_neg (by decide)).trans ((if_neg (by decide)).trans ((if_neg (by decide)).trans m1)))))
  show wpAny _ _ (execs [_, _, _] _) _ _ _
  have B0 := below_caller h₀
  have n1' := n1.symm
  have n2' := n2.symm
  have n3' := n3.symm
  have n4' := n4.symm
  have n5' := n5.symm
  have n6' := n6.symm
  have hlo : (octs ws).length ≤ 1000 := hiO.length ▸ hO
  have hob := octs_in ws
  have hw : itE.length = ws.length := hEn.1
  (repeat' (first | (k_unfold; (try dsimp only)) | (k_end; kc_close) | (k_here; (with_reducible show wpAny _ _ (subscriptTail _ _ (Value.ref _) (Value.int _ _)) _ _ _); (with_unfolding_all refine' item_arrB ?k1 ?k2 ?k3 ?k4 ?k5 ?_; (case k1 => k_asm); (case k2 => k_mem); (case k3 => omega); (case k4 => omega); (case k5 => assumption); k_whole)) | (k_here; (with_reducible show wpAny _ _ (subscriptTail _ _ (Value.ref _) (Value.int 1 _)) _ _ _); (with_unfolding_all refine' tup_item1 ?k1 ?k2 ?_; (case k1 => k_asm); (case k2 => (repeat (first | assumption | refine List.Mem.tail _ ?_))); k_whole)) | (k_here; (with_reducible show wpAny _ _ (subscriptTail _ _ (Value.ref _) (Value.int 0 _)) _ _ _); (with_unfolding_all refine' tup_item0 ?k1 ?k2 ?_; (case k1 => k_asm); (case k2 => (repeat (first | assumption | refine List.Mem.tail _ ?_))); k_whole)) | (k_here; (with_reducible show wpAny _ _ (call (Value.type "bytes") [Value.ref _]) _ _ _); k_dflt (refine' KBa.make_K ?F ?N ?hh ?hl ?hi ?hr ?hn ?_; (case F => k_asm); (case N => k_asm); (case hh => rfl); (case hl => exact News.isList (by k_asm) (by k_mem)); (case hi => assumption); (case hr => first | exact in_drop (in_snoc (by assumption) (by omega) (by omega)) | exact in_drop (by assumption)); (case hn => (simp only [List.length_drop, List.length_append, List.length_cons, List.length_nil]; omega))); intro h' t' k' F' N' hin') | (k_here; (with_reducible show wpAny _ _ (subscriptTail _ (PySem.Expr.Slice (some _) none none _) (Value.ref _) (Value.ref _)) _ _ _); k_dflt (refine' slice_from (s := ⟨_, _, _, _, _⟩) ?F ?N ?hm ?hi ?h0 ?hz ?_; (case F => k_asm); (case N => k_asm); (case hm => k_mem); (case hi => first | assumption | exact ints_push (by assumption)); (case h0 => first | exact Int.natCast_nonneg _ | omega); (case hz => (simp only [Array.size_push, List.size_toArray]; omega))); intro D' ws' h' F' N' l1 hi'; (try k_lt l1)) | (k_here; (with_reducible show wpAny _ _ (call (Value.ref 1428) [_, _, _]) _ _ _); k_dflt (refine' code_specL ?kB ?kF ?kX ?kN ?kT ?kk ?ko ?kn ?r0 ?r1 ?c0 ?c1 ?k4 ?k5 (fun h' tk' code' t' F' N' hc0 hc1 hc2 => ?_); (case kB => k_asm); (case kF => k_asm); (case kX => k_asm); (case kN => k_asm); (case kT => k_asm); (case kk => exact rfl); (case ko => k_mem); (case kn => assumption); (case r0 => (first | omega | exact Int.fmod_nonneg_of_pos _ (by decide))); (case r1 => (first | omega | exact Int.fmod_lt_of_pos _ (by decide))); (case c0 => omega); (case c1 => omega); (case k4 => decide); (case k5 => decide))) | (k_here; (with_reducible show wpAny _ _ (call (Value.builtin "len") [Value.ref _]) _ _ _); k_dflt (refine' len_list (News.isList (by k_asm) (by k_mem)) ?kf ?_; (case kf => (simp only [Array.size_push, List.size_toArray, List.length_append, List.length_cons, List.length_nil]; omega)); k_whole)) | walk1 | (dsimp only; walk1) | (leave1; (try dsimp only)) | fail "no step"))
  · rename News _ _ _ _ => NN
    rename _ ∧ _ ∧ _ ∧ _ ∧ _ ∧ AllLt _ _ => q1
    rename _ ∧ _ ∧ _ ∧ _ ∧ _ ∧ _ ∧ AllLt _ _ => q2
    simp only [List.push_toArray] at NN
    obtain ⟨a1, a2, a3, a4, a5, a6⟩ := q1
    obtain ⟨b1, b2, b3, b4, b5, b6, b7⟩ := q2
    have ec : ‹Int› = 256 := by assumption
    refine' ret _ _ _ _ _ _ _ _ _ _ _ _ _ _ _ ?gF (permC NN) ?m2 ?m3 ?m4 ?m5 ?m6 ?c0 ?c1 ?c2 ?k0 ?k1 ?gd ?ge ?gi ?go ?gt ?_ ?_ ?_ ?_ ?_
    case gF => assumption
    case m2 => rfl
    case m3 => rfl
    case m4 => rfl
    case m5 => rfl
    case m6 => rfl
    case c0 => assumption
    case c1 => assumption
    case c2 => intro _; (first | lia | omega)
    case k0 => (first | lia | omega)
    case k1 => (first | lia | omega)
    case gd => rw [ec, out_clear]; exact ⟨_, rfl⟩
    case ge => rw [ec, step_clear]; exact endsAre_nil _
    case gi => rw [ec, step_clear]; exact .nil
    case go => exact own_two off a6 b7
    case gt => exact own_nil
    all_goals (first | assumption | lia | omega)
  · rename News _ _ _ _ => NN
    simp only [List.push_toArray] at NN
    have ec : ‹Int› = 257 := by assumption
    refine' ret _ _ _ _ _ _ _ _ _ _ _ _ _ _ _ ?gF (permE NN) ?m2 ?m3 ?m4 ?m5 ?m6 ?c0 ?c1 ?c2 ?k0 ?k1 ?gd ?ge ?gi ?go ?gt ?_ ?_ ?_ ?_ ?_
    case gF => assumption
    case m2 => rfl
    case m3 => rfl
    case m4 => rfl
    case m5 => rfl
    case m6 => rfl
    case c0 => assumption
    case c1 => assumption
    case c2 => intro _; (first | lia | omega)
    case k0 => (first | lia | omega)
    case k1 => (first | lia | omega)
    case gd => rw [ec, out_end]; exact ⟨_, rfl⟩
    case ge => rw [ec, step_end]; exact hEn
    case gi => rw [ec, step_end]; exact hiO
    case go => exact off
    case gt => exact own_nil
    all_goals assumption
  · rename News _ _ _ _ => NN
    simp only [List.push_toArray] at NN
    rename 258 + _ ≤ _ => ec
    rw [List.size_toArray, hw] at ec
    refine' ret _ _ _ _ _ _ _ _ _ _ _ _ _ _ _ ?gF (permE NN) ?m2 ?m3 ?m4 ?m5 ?m6 ?c0 ?c1 ?c2 ?k0 ?k1 ?gd ?ge ?gi ?go ?gt ?_ ?_ ?_ ?_ ?_
    case gF => assumption
    case m2 => rfl
    case m3 => rfl
    case m4 => rfl
    case m5 => rfl
    case m6 => rfl
    case c0 => assumption
    case c1 => assumption
    case c2 =>
      intro hz
      have : itE = [] := by rw [hz] at hw; exact List.length_eq_zero_iff.mp hw
      exact ‹itE = [] → _› this
    case k0 => (first | lia | omega)
    case k1 => (first | lia | omega)
    case gd => rw [out_none ec]; rfl
    case ge => rw [step_none ec]; exact hEn
    case gi => rw [step_none ec]; exact hiO
    case go => exact off
    case gt => exact own_nil
    all_goals assumption
  · rename News _ _ _ _ => NN
    simp only [List.push_toArray] at NN
    rename ¬ 258 + _ ≤ _ => ec
    rw [List.size_toArray, hw] at ec
    rename _ ∧ _ ∧ _ ∧ _ ∧ _ ∧ AllLt _ _ => q1
    obtain ⟨a1, a2, a3, a4, a5, a6⟩ := q1
    have hl := hiO.length
    rw [octs_length] at hl
    rename Int => c
    have c0 : 0 ≤ c := by assumption
    have c1 : c < 256 := by assumption
    have es := step_word (ws := ws) c0 (by assumption) (by assumption) ec
    have eo := out_word (ws := ws) c0 (by assumption) (by assumption) ec
    have eb : (octs ws ++ [c]).drop ((itO.toArray.size : Int)).toNat = wInts [UInt8.ofNat c.toNat] := by
      rw [wInts_one c0 c1, List.size_toArray, Int.toNat_natCast, hiO.length]; exact List.drop_left
    refine' ret _ _ _ c _ _ _ _ _ _ _ _ _ _ _ ?gF (permW NN) ?m2 ?m3 ?m4 ?m5 ?m6 c0 ?c1 ?c2 ?k0 ?k1 ?gd ?ge ?gi ?go ?gt ?_ ?_ ?_ ?_ ?_
    case gF => assumption
    case m2 => rfl
    case m3 => rfl
    case m4 => rfl
    case m5 => rfl
    case m6 => rfl
    case c1 => assumption
    case c2 => intro _; (first | lia | omega)
    case k0 => (first | lia | omega)
    case k1 => (first | lia | omega)
    case gd => rw [eo, new_small c0 c1, eb, byteArr_wInts]; exact ⟨_, rfl⟩
    case ge =>
      rw [es, new_small c0 c1]
      refine endsAre_snoc hEn ?_ ?_
      · rw [List.size_toArray, hl]
      · rw [begAt_append_len, ← hl]; simp
    case gi => rw [es, new_small c0 c1, octs_append, wInts_one c0 c1]; exact IntsAre.append hiO (.cons _ _ .nil)
    case go => exact own_add off a2 a3 a4 a5
    case gt => exact own_one a6
    all_goals assumption
  · rename Int => c
    rename ¬ 258 + _ ≤ _ => ec
    rename ¬ _ < 256 => ec2
    rw [List.size_toArray, hw] at ec
    have hj : (c - 258).toNat < ws.length := by (first | lia | omega)
    obtain ⟨t, u, v', g1, g2⟩ := hEn.2 (c - 258).toNat hj
    replace g2 := hsub _ g2
    have g3 : itE.toArray[(c - 258).toNat]? = some (.ref t) := by simpa using g1
    (repeat' (first | (k_unfold; (try dsimp only)) | (k_end; kc_close) | (k_here; (with_reducible show wpAny _ _ (subscriptTail _ _ (Value.ref _) (Value.int _ _)) _ _ _); (with_unfolding_all refine' item_arrB ?k1 ?k2 ?k3 ?k4 ?k5 ?_; (case k1 => k_asm); (case k2 => k_mem); (case k3 => omega); (case k4 => omega); (case k5 => assumption); k_whole)) | (k_here; (with_reducible show wpAny _ _ (subscriptTail _ _ (Value.ref _) (Value.int 1 _)) _ _ _); (with_unfolding_all refine' tup_item1 ?k1 ?k2 ?_; (case k1 => k_asm); (case k2 => (repeat (first | assumption | refine List.Mem.tail _ ?_))); k_whole)) | (k_here; (with_reducible show wpAny _ _ (subscriptTail _ _ (Value.ref _) (Value.int 0 _)) _ _ _); (with_unfolding_all refine' tup_item0 ?k1 ?k2 ?_; (case k1 => k_asm); (case k2 => (repeat (first | assumption | refine List.Mem.tail _ ?_))); k_whole)) | (k_here; (with_reducible show wpAny _ _ (call (Value.type "bytes") [Value.ref _]) _ _ _); k_dflt (refine' KBa.make_K ?F ?N ?hh ?hl ?hi ?hr ?hn ?_; (case F => k_asm); (case N => k_asm); (case hh => rfl); (case hl => exact News.isList (by k_asm) (by k_mem)); (case hi => assumption); (case hr => first | exact in_drop (in_snoc (by assumption) (by omega) (by omega)) | exact in_drop (by assumption)); (case hn => (simp only [List.length_drop, List.length_append, List.length_cons, List.length_nil]; omega))); intro h' t' k' F' N' hin') | (k_here; (with_reducible show wpAny _ _ (subscriptTail _ (PySem.Expr.Slice (some _) none none _) (Value.ref _) (Value.ref _)) _ _ _); k_dflt (refine' slice_from (s := ⟨_, _, _, _, _⟩) ?F ?N ?hm ?hi ?h0 ?hz ?_; (case F => k_asm); (case N => k_asm); (case hm => k_mem); (case hi => first | assumption | exact ints_push (by assumption)); (case h0 => first | exact Int.natCast_nonneg _ | omega); (case hz => (simp only [Array.size_push, List.size_toArray]; omega))); intro D' ws' h' F' N' l1 hi'; (try k_lt l1)) | (k_here; (with_reducible show wpAny _ _ (call (Value.ref 1428) [_, _, _]) _ _ _); k_dflt (refine' code_specL ?kB ?kF ?kX ?kN ?kT ?kk ?ko ?kn ?r0 ?r1 ?c0 ?c1 ?k4 ?k5 (fun h' tk' code' t' F' N' hc0 hc1 hc2 => ?_); (case kB => k_asm); (case kF => k_asm); (case kX => k_asm); (case kN => k_asm); (case kT => k_asm); (case kk => exact rfl); (case ko => k_mem); (case kn => assumption); (case r0 => (first | omega | exact Int.fmod_nonneg_of_pos _ (by decide))); (case r1 => (first | omega | exact Int.fmod_lt_of_pos _ (by decide))); (case c0 => omega); (case c1 => omega); (case k4 => decide); (case k5 => decide))) | (k_here; (with_reducible show wpAny _ _ (call (Value.builtin "len") [Value.ref _]) _ _ _); k_dflt (refine' len_list (News.isList (by k_asm) (by k_mem)) ?kf ?_; (case kf => (simp only [Array.size_push, List.size_toArray, List.length_append, List.length_cons, List.length_nil]; omega)); k_whole)) | walk1 | (dsimp only; walk1) | (leave1; (try dsimp only)) | fail "no step"))
    unfold Hold
    rename IsRange _ _ _ _ _ _ _ _ => hR
    rename News _ _ _ _ => N3
    rename Fr _ _ _ _ => F3
    have hl := hiO.length
    rw [octs_length] at hl
    have hjl : ws[(c - 258).toNat].length ≤ 1000 := by
      have h1 := begAt_succ ws _ hj
      have h2 := begAt_le ws (show (c - 258).toNat + 1 ≤ ws.length by (first | lia | omega))
      omega
    have ej : 258 + (c - 258).toNat = c.toNat := by (first | lia | omega)
    rename _ ∧ _ ∧ _ ∧ _ ∧ AllLt _ _ => q0
    obtain ⟨d1, d2, d3, d4, d5⟩ := q0
    refine innerB (octets := octets) F3 X T N3 rfl (Nat.ne_of_gt d4) n3 n5 n6 (own_sub off (by simp)) hO hiO hne hj hjl rfl hR ?_
    intro m' itO' n' h' tk' hy hI F' N'
    have e1 : m' "codes" = some (.ref codes) := (hy _ (by decide)).trans rfl
    have e2 : m' "due" = some (.ref due) := (hy _ (by decide)).trans rfl
    have e3 : m' "ends" = some (.ref ends) := (hy _ (by decide)).trans rfl
    have e4 : m' "octets" = some (.ref octets) := (hy _ (by decide)).trans rfl
    have e5 := (hy "clears" (by decide)).trans rfl
    have e6 := (hy "begin" (by decide)).trans rfl
    rw [ej] at hI
    have hnl : (newWord ws c.toNat).length ≤ 1001 := by
      unfold newWord wordAt
      rw [if_neg (by (first | lia | omega))]
      have : ws.getD (c.toNat - 258) [] = ws[(c - 258).toNat] := by
        rw [show c.toNat - 258 = (c - 258).toNat by (first | lia | omega)]
        simp [List.getD_eq_getElem?_getD, hj]
      rw [this]
      simp; (first | lia | omega)
    have hin : ∀ x ∈ octs ws ++ wInts (newWord ws c.toNat), 0 ≤ x ∧ x < 256 := fun x hx => (List.mem_append.mp hx).elim (octs_in ws x) (wInts_in _ x)
    have hwl : (wInts (newWord ws c.toNat)).length ≤ 1001 := by unfold wInts; rw [List.length_map]; exact hnl
    have hil : itO'.length = (octs ws).length + (wInts (newWord ws c.toNat)).length := by rw [hI.length, List.length_append]
    generalize hwi : wInts (newWord ws c.toNat) = wi at *
    clear F3 N3
    replace F' := fr_know (fr_know (fr_know (fr_know (fr_know (fr_know F' e6) ((if_neg (by decide)).trans e5)) ((if_neg (by decide)).trans ((if_neg (by decide)).trans e4))) ((if_neg (by decide)).trans ((if_neg (by decide)).trans ((if_neg (by decide)).trans e3)))) ((if_neg (by decide)).trans ((if_neg (by decide)).trans ((if_neg (by decide)).trans ((if_neg (by decide)).trans e2))))) ((if_neg (by decide)).trans ((if_neg (by decide)).trans ((if_neg (by decide)).trans ((if_neg (by decide)).trans ((if_neg (by decide)).trans e1)))))
    (repeat' (first | (k_unfold; (try dsimp only)) | (k_end; kc_close) | (k_here; (with_reducible show wpAny _ _ (subscriptTail _ _ (Value.ref _) (Value.int _ _)) _ _ _); (with_unfolding_all refine' item_arrB ?k1 ?k2 ?k3 ?k4 ?k5 ?_; (case k1 => k_asm); (case k2 => k_mem); (case k3 => omega); (case k4 => omega); (case k5 => assumption); k_whole)) | (k_here; (with_reducible show wpAny _ _ (subscriptTail _ _ (Value.ref _) (Value.int 1 _)) _ _ _); (with_unfolding_all refine' tup_item1 ?k1 ?k2 ?_; (case k1 => k_asm); (case k2 => (repeat (first | assumption | refine List.Mem.tail _ ?_))); k_whole)) | (k_here; (with_reducible show wpAny _ _ (subscriptTail _ _ (Value.ref _) (Value.int 0 _)) _ _ _); (with_unfolding_all refine' tup_item0 ?k1 ?k2 ?_; (case k1 => k_asm); (case k2 => (repeat (first | assumption | refine List.Mem.tail _ ?_))); k_whole)) | (k_here; (with_reducible show wpAny _ _ (call (Value.type "bytes") [Value.ref _]) _ _ _); k_dflt (refine' KBa.make_K ?F ?N ?hh ?hl ?hi ?hr ?hn ?_; (case F => k_asm); (case N => k_asm); (case hh => rfl); (case hl => exact News.isList (by k_asm) (by k_mem)); (case hi => assumption); (case hr => first | exact in_drop (in_snoc (by assumption) (by omega) (by omega)) | exact in_drop (by assumption)); (case hn => (simp only [List.length_drop, List.length_append, List.length_cons, List.length_nil]; omega))); intro h' t' k' F' N' hin') | (k_here; (with_reducible show wpAny _ _ (subscriptTail _ (PySem.Expr.Slice (some _) none none _) (Value.ref _) (Value.ref _)) _ _ _); k_dflt (refine' slice_from (s := ⟨_, _, _, _, _⟩) ?F ?N ?hm ?hi ?h0 ?hz ?_; (case F => k_asm); (case N => k_asm); (case hm => k_mem); (case hi => first | assumption | exact ints_push (by assumption)); (case h0 => first | exact Int.natCast_nonneg _ | omega); (case hz => (simp only [Array.size_push, List.size_toArray]; omega))); intro D' ws' h' F' N' l1 hi'; (try k_lt l1)) | (k_here; (with_reducible show wpAny _ _ (call (Value.ref 1428) [_, _, _]) _ _ _); k_dflt (refine' code_specL ?kB ?kF ?kX ?kN ?kT ?kk ?ko ?kn ?r0 ?r1 ?c0 ?c1 ?k4 ?k5 (fun h' tk' code' t' F' N' hc0 hc1 hc2 => ?_); (case kB => k_asm); (case kF => k_asm); (case kX => k_asm); (case kN => k_asm); (case kT => k_asm); (case kk => exact rfl); (case ko => k_mem); (case kn => assumption); (case r0 => (first | omega | exact Int.fmod_nonneg_of_pos _ (by decide))); (case r1 => (first | omega | exact Int.fmod_lt_of_pos _ (by decide))); (case c0 => omega); (case c1 => omega); (case k4 => decide); (case k5 => decide))) | (k_here; (with_reducible show wpAny _ _ (call (Value.builtin "len") [Value.ref _]) _ _ _); k_dflt (refine' len_list (News.isList (by k_asm) (by k_mem)) ?kf ?_; (case kf => (simp only [Array.size_push, List.size_toArray, List.length_append, List.length_cons, List.length_nil]; omega)); k_whole)) | walk1 | (dsimp only; walk1) | (leave1; (try dsimp only)) | fail "no step"))
    rename News _ _ _ _ => NN
    (try simp only [List.push_toArray] at NN)
    rename _ ∧ _ ∧ _ ∧ _ ∧ _ ∧ AllLt _ _ => q1
    obtain ⟨a1, a2, a3, a4, a5, a6⟩ := q1
    have c0 : 0 ≤ c := by (first | lia | omega)
    have es := step_word (ws := ws) c0 (by assumption) (by assumption) ec
    have eo := out_word (ws := ws) c0 (by assumption) (by assumption) ec
    have eb : (octs ws ++ wi).drop ((itO.toArray.size : Int)).toNat = wi := by
      rw [List.size_toArray, Int.toNat_natCast, hiO.length]; exact List.drop_left
    refine' ret _ _ _ c _ _ _ _ _ _ _ _ _ _ _ ?gF (permW NN) ?m2 ?m3 ?m4 ?m5 ?m6 c0 ?c1 ?c2 ?k0 ?k1 ?gd ?ge ?gi ?go ?gt ?_ ?_ ?_ ?_ ?_
    case gF => assumption
    case m2 => rfl
    case m3 => rfl
    case m4 => rfl
    case m5 => rfl
    case m6 => rfl
    case c1 => assumption
    case c2 =>
      intro hz
      rw [hz] at hj
      exact absurd hj (by simp)
    case k0 => (first | lia | omega)
    case k1 => (first | lia | omega)
    case gd => rw [eo, eb, ← hwi, byteArr_wInts]; exact ⟨_, rfl⟩
    case ge =>
      rw [es]
      refine endsAre_snoc hEn ?_ ?_
      · rw [List.size_toArray, hl]
      · rw [begAt_append_len, ← hl, List.size_toArray, hil, hiO.length, ← hwi]; unfold wInts; rw [List.length_map]
    case gi => rw [es, octs_append, hwi]; exact hI
    case go => exact own_add off a2 a3 a4 a5
    case gt => exact own_one a6
    all_goals assumption
end
end
end Mine
namespace Mine
section
open PySem PySem.W PySem.Calls PyProof.Rows
set_option maxHeartbeats 8000000
set_option compiler.extract_closed false
theorem wReset40 : 1 = 1 := by walk1
local macro_rules | `(tactic| walk_at "pyIter ref") => `(tactic| (k_here; refine Hold.out ?_))
local macro_rules | `(tactic| walk_at "exec For") => `(tactic| (k_here; refine Hold.out ?_))
local macro_rules | `(tactic| walk_at "exec For Name Subscript cons nil") => `(tactic| (k_here; refine Hold.out ?_))
local macro_rules | `(tactic| walk_at "exec For Name Call cons nil") => `(tactic| (k_here; refine Hold.out ?_))
local macro_rules | `(tactic| walk_at "exec For Name Name cons nil") => `(tactic| (k_here; refine Hold.out ?_))
inductive PBJ (codes due D : Addr) (vs : List Value) (cb ch : Addr × Obj) (i : Nat) (m' : PySem.Str → Option Value) (nx : List (Addr × Obj)) : Prop
  | mk (cs : List Nat) (itC itD itE itO : List Value) (nC nD nE nO : Nat) (ends octets : Addr) (tl : List (Addr × Obj)) (clr : Int) (tc : Tok) (hcl : cs.length = i)
      (hnx : nx = (codes, W.listOf itC.toArray nC) :: (due, W.listOf itD.toArray nD) :: (ends, W.listOf itE.toArray nE) :: (octets, W.listOf itO.toArray nO) :: tl) (q2 : m' "codes" = some (.ref codes)) (q3 : m' "due" = some (.ref due)) (q4 : m' "ends" = some (.ref ends)) (q5 : m' "octets" = some (.ref octets)) (q6 : m' "clears" = some (.int clr tc))
      (k0 : 0 ≤ clr) (k1 : clr ≤ i) (hG : Good [] cs) (hiC : IntsAre itC (256 :: cInts cs)) (hdD : DuesAre itD (some [] :: outsW [] cs)) (hEn : EndsAre tl itE (runW cs)) (hiO : IntsAre itO (octs (runW cs))) (off : OwnOff tl [codes, due, ends, octets]) (hD : (D, W.listOf vs.toArray 0) ∈ tl) (hcb : cb ∈ tl) (hch : ch ∈ tl)
      (x1 : @Ne Nat codes ends) (x2 : @Ne Nat codes octets) (x3 : @Ne Nat due ends) (x4 : @Ne Nat due octets) (x5 : @Ne Nat ends octets) : PBJ codes due D vs cb ch i m' nx
section
variable {w : World} {p : Program} {loose : List PySem.Str} {mean : ExcName → Option Value} {mg mb : PySem.Str → Option Value} {s : Shared} {Q : Flow → Shared → Prop} {h₀ : Heap} {L : Addr} {m : PySem.Str → Option Value}
theorem partB {sc codes due ends octets : Addr} {items : Array Value} {ns : List Int} {cb ch : Addr × Obj} {t1 t2 t3 : Tok} (X : (KK w.params).In h₀) (T : Top p loose mean mg mb h₀) (hl : h₀.IsList sc items) (hi : IntsAre items.toList ns) (hn : ns.length ≤ 63)
    (F : Fr h₀ L s.heap m) (m1 : m "script" = some (.ref sc)) (m2 : m "codes" = some (.ref codes)) (m3 : m "due" = some (.ref due)) (m4 : m "ends" = some (.ref ends)) (m5 : m "octets" = some (.ref octets)) (m6 : m "clears" = some (.int 0 t3))
    (N : News h₀ L s.heap [(codes, W.listOf #[.int 256 t1] 0), (due, W.listOf #[.bytes #[] t2] 0), (ends, W.listOf #[] 0), (octets, W.listOf #[] 0), cb, ch])
    (l1 : @LT.lt Nat _ cb.1 codes) (l2 : @LT.lt Nat _ ch.1 codes) (l3 : @LT.lt Nat _ codes due) (l4 : @LT.lt Nat _ due ends) (l5 : @LT.lt Nat _ ends octets)
    (ret : ∀ (h' : Heap) (tk : Nat) (m' : PySem.Str → Option Value) (cs : List Nat) (itC itD : List Value) (nC nD : Nat), Fr h₀ L h' m' → m' "codes" = some (.ref codes) → m' "due" = some (.ref due) →
      News h₀ L h' [(codes, W.listOf itC.toArray nC), (due, W.listOf itD.toArray nD), cb, ch] → cs.length ≤ 18 → Good [] cs → IntsAre itC (256 :: cInts cs) → DuesAre itD (some [] :: outsW [] cs) → Q .next { s with heap := h', toks := tk }) :
    wpAny (model pw w) (LA L) (execs (LB 2 1) (lawEnv L)) Q (fun _ _ => False) s := by
  have hl' : h₀.IsList sc items.toList.toArray := by simpa using hl
  replace F := fr_know F m1
  show wpAny _ _ (execs [_] _) _ _ _
  k_steps
  unfold Hold
  rename Fr _ _ _ _ => F2
  refine For_invVF (hE := passes_no) F2 rfl rfl ?_
  k_steps
  unfold Hold
  rename Fr _ _ _ _ => F3
  rename News _ _ _ _ => N3
  rename IntsAre _ (List.take _ _) => hI
  rename _ ∧ _ ∧ _ ∧ _ ∧ _ ∧ _ => q1
  obtain ⟨d1, d2, d3, d4, d5, d6⟩ := q1
  rename List Value => vs
  rename Addr => D
  have hvl : vs.length ≤ 18 := by rw [hI.length]; (first | lia | omega)
  have N5 : News h₀ L _ ((codes, W.listOf [Value.int 256 t1].toArray 0) :: (due, W.listOf [Value.bytes #[] t2].toArray 0) :: (ends, W.listOf ([] : List Value).toArray 0) :: (octets, W.listOf ([] : List Value).toArray 0) :: [(D, W.listOf vs.toArray 0), cb, ch]) := news_sub N3 (by ((repeat (refine sub_cons (by repeat (first | exact List.Mem.head _ | refine List.Mem.tail _ ?_)) ?_)); first | exact sub_nil | (intro q hq; repeat (first | exact hq | refine List.Mem.tail _ ?_))))
  refine kdl_iter (PBJ codes due D vs cb ch) rfl (.tail _ (.tail _ (.tail _ (.tail _ (.head _))))) F3 N5 ?_ ?_ ?_
  · refine ⟨[], [Value.int 256 t1], [Value.bytes #[] t2], [], [], 0, 0, 0, 0, ends, octets, _, 0, t3, rfl, rfl, (if_neg (by decide)).trans m2, (if_neg (by decide)).trans m3, (if_neg (by decide)).trans m4, (if_neg (by decide)).trans m5, (if_neg (by decide)).trans m6, Int.le_refl _, Int.le_refl _, trivial, .cons _ _ .nil, .cons ⟨_, rfl⟩ .nil, endsAre_nil _, .nil, ?_, .head _, .tail _ (.head _), .tail _ (.tail _ (.head _)), ?_, ?_, ?_, ?_, ?_⟩
    · refine off_cons ?_ (off_cons ?_ (off_cons ?_ off_nil)) <;> refine ne_cons ?_ (ne_cons ?_ (ne_cons ?_ (ne_cons ?_ ne_nil))) <;> first | exact Nat.ne_of_gt (by assumption) | exact Nat.ne_of_lt (by assumption) | exact Nat.ne_of_lt (by (first | lia | omega))
    all_goals (first | lia | omega)
  · intro i v m₁ nx h tk own hv ho hl2 hJ F4 N4
    obtain ⟨cs, itC, itD, itE, itO, nC, nD, nE, nO, ends', octets', tl, clr, tc, hcl, rfl, q2, q3, q4, q5, q6, k0, k1, hG, hiC, hdD, hEn, hiO, off, hD, hcb, hch, x1, x2, x3, x4, x5⟩ := hJ
    have hilt : i < vs.length := by
      rcases Nat.lt_or_ge i vs.length with h | h
      · exact h
      · rw [List.getElem?_eq_none h] at hv; cases hv
    obtain ⟨kv, kt, rfl, _⟩ := hI.at i v hv
    have hb := bd_run cs
    have hlC : itC.length = cs.length + 1 := by rw [hiC.length]; unfold cInts; simp
    have hlD : itD.length = cs.length + 1 := by rw [hdD.length]; simp [outsW_length]
    have hlO : itO.length ≤ 1000 := by rw [hiO.length]; exact bd_octs hb (by (first | lia | omega))
    have off2 : OwnOff (tl ++ own) [codes, due, ends', octets'] := off_app off (off_mono ho (fun _ h => h) fun x hx => List.mem_append_left (tl.map (fun (q : Addr × Obj) => q.1)) hx)
    refine turnB (ws := runW cs) X T F4 (if_pos rfl) ((if_neg (by decide)).trans q2) ((if_neg (by decide)).trans q3) ((if_neg (by decide)).trans q4) ((if_neg (by decide)).trans q5) ((if_neg (by decide)).trans q6) N4 off2 (Nat.ne_of_lt l3) x1 x2 x3 x4 x5 (by (first | lia | omega)) (by (first | lia | omega)) (by rw [hEn.1]; exact Nat.le_trans hb.1 (by (first | lia | omega))) hlO k0 (by (first | lia | omega)) hiO hEn (fun x hx => (hb.2 x hx).1) (fun p hp => List.mem_append_left _ hp) ?_
    intro h' tk' m' c tC dv ends2 octets2 itE' nE' itO' nO' add clr' tcl' F5 N6 p2 p3 p4 p5 p6 c0 c1 c2 g0 g1 hdv hEn' hiO' off3 off4 y1 y2 y3 y4 y5
    have hcc : ((c.toNat : Nat) : Int) = c := Int.toNat_of_nonneg c0
    refine (show InvEndG _ _ _ _ _ _ from InvEndG.intro (news' := _) (nx := (codes, W.listOf (itC ++ [Value.int c tC]).toArray (nC + 1)) :: (due, W.listOf (itD ++ [dv]).toArray (nD + 1)) :: (ends2, W.listOf itE'.toArray nE') :: (octets2, W.listOf itO'.toArray nO') :: (add ++ tl)) F5 N6 ⟨?_, cs ++ [c.toNat], itC ++ [Value.int c tC], itD ++ [dv], itE', itO', nC + 1, nD + 1, nE', nO', ends2, octets2, add ++ tl, clr', tcl', by simp [hcl], rfl, p2, p3, p4, p5, p6, g0, by (first | lia | omega), good_snoc _ _ _ hG (by (first | lia | omega)) (fun hz => by have := c2 hz; omega), ?_, ?_, ?_, ?_, ?_, List.mem_append_right _ hD, List.mem_append_right _ hcb, List.mem_append_right _ hch, y1, y2, y3, y4, y5⟩ ?_ ?_ ?_)
    · exact .tail _ (.tail _ (.tail _ (.tail _ (List.mem_append_right _ hD))))
    · have e : cInts (cs ++ [c.toNat]) = cInts cs ++ [c] := by unfold cInts; rw [List.map_append]; simp [hcc]
      rw [e]
      exact IntsAre.append hiC (.cons _ _ .nil)
    · rw [outsW_snoc]; exact DuesAre.snoc hdv hdD
    · rw [runW_snoc]; exact hEn'
    · rw [runW_snoc]; exact hiO'
    · exact off_mono off3 app_sub (fun _ h => h)
    · exact off_join (a := [codes, due, ends2, octets2]) (off_mono off3 (fun q hq => List.mem_append_right _ (List.mem_append_right _ hq)) (fun _ h => h)) (by rw [List.map_append]; exact off_join (off_mono off4 (fun q hq => List.mem_append_right _ hq) (fun _ h => h)) (off_mono ho (fun _ h => h) (fun x hx => List.mem_append_right [codes, due, ends', octets'] hx)))
    · exact sub_cons (.head _) (sub_cons (.tail _ (.head _)) (sub_cons (.tail _ (.tail _ (.head _))) (sub_cons (.tail _ (.tail _ (.tail _ (.head _)))) fun q hq => .tail _ (.tail _ (.tail _ (.tail _ (app_sub q hq)))))))
    · exact fun q hq => .tail _ (.tail _ (.tail _ (.tail _ (List.mem_append_right _ (List.mem_append_right _ hq)))))
  · intro m₁ nx h tk hJ F4 N4
    obtain ⟨cs, itC, itD, itE, itO, nC, nD, nE, nO, ends', octets', tl, clr, tc, hcl, rfl, q2, q3, q4, q5, q6, k0, k1, hG, hiC, hdD, hEn, hiO, off, hD, hcb, hch, x1, x2, x3, x4, x5⟩ := hJ
    show wpAny _ _ (execs [] _) _ _ _
    rw [execs_nil]
    refine wpAny_pure (ret _ _ _ cs itC itD nC nD F4 q2 q3 (news_sub N4 (sub_cons (.head _) (sub_cons (.tail _ (.head _)) (sub_cons (.tail _ (.tail _ (.tail _ (.tail _ hcb)))) (sub_cons (.tail _ (.tail _ (.tail _ (.tail _ hch)))) sub_nil))))) (by (first | lia | omega)) hG hiC hdD)
end
end
end Mine
namespace Mine
section
open PySem PySem.W PySem.Calls PyProof.Rows
set_option maxHeartbeats 8000000
set_option compiler.extract_closed false
theorem wReset41 : 1 = 1 := by walk1
local macro_rules | `(tactic| walk_at "eval ListComp") => `(tactic| (k_here; k_dflt (refine comp_rng (by k_asm) (by with_unfolding_all rfl) (by decide) (by rfl) (by decide) (by rfl) ?_)))
theorem off1_ownB {D : Addr} : ∀ {l : List (Addr × Obj)}, LCg.Off1 D l → OwnOff l [D]
  | [], _ => fun _ h => nomatch h
  | q :: r, x => fun p hp b hb => by
    obtain rfl := List.mem_singleton.mp hb
    rcases List.mem_cons.mp hp with rfl | hp
    · exact x.1
    · exact off1_ownB x.2 p hp b hb
section
variable {w : World} {p : Program} {loose : List PySem.Str} {mean : ExcName → Option Value} {mg mb : PySem.Str → Option Value} {dp un : Nat} {gd : Option (List Code)} {cn : PySem.Str} {cs : Scope} {a : Addr} {ccd : Value} {cl : List (PySem.Str × Addr)} {outer : List Env} {A₀ : Around} {base h₀ : Heap} {L : Addr} {m : PySem.Str → Option Value} {news : List (Addr × Obj)} {s : Shared}
    {Q E : Value → Shared → Prop}
theorem bits9_spec {v : Int} {t u : Tok}
    (B : Below A₀ base outer h₀) (F : Fr h₀ L s.heap m) (X : (KK w.params).In h₀) (N : News h₀ L s.heap news) (T : Top p loose mean mg mb h₀) (hk : cs.kind = .function)
    (hv0 : 0 ≤ v) (hv1 : v < 512) (hd : dp + 1 < recursionLimit) (hu : un + 8 < cLine)
    (ret : ∀ h' tk b ys, Fr h₀ L h' m → News h₀ L h' ((b, LCg.lst ys) :: news) → IntsAre ys (bitsOf v 9) → OwnOff news [b] → Q (.ref b) { s with heap := h', toks := tk }) :
    wpAny (model pw w) (ktrTop dp un gd cn cs L a ccd cl outer) (call (.ref 1433) [.int v t, .int 9 u]) Q E s := by
  refine wpAny_call ?_
  k_dflt (refine' code_defC ?k1 ?k2 ?k3 ?k4 ?k5 ?kA ?kF ?kK ?k6 ?k7 ?k8 ?k9 ?kB ?kD ?_ ?c2 ?c3 ?c4; (case kA => exact rfl); (case kF => exact rfl); (case kK => assumption); (case k1 => k_asm); (case k2 => k_asm); (case k3 => k_asm); (case k4 => k_asm); (case k5 => k_asm); (case k6 => k_is); (case k7 => k_is); (case k8 => ktr_room); (case k9 => exact BindsTo.of_eq rfl); (case kB => exact rfl); (case kD => decide +kernel); (case c2 => exact rfl); (case c3 => exact rfl); (case c4 => exact rfl); k_whole; intro g' L' h' tk' cells' FG' F' N' Y' B' X' T' l1; (try k_lt l1); k_cells Y'; (try simp only [List.cons_append, List.nil_append] at N'); (try dsimp only); (try k_fold))
  k_steps
  refine SrcC.intro 9 (by rfl) (by assumption) (by assumption) (by assumption) (by decide) (by decide) (by exact Nat.le_of_ble_eq_true rfl) fun g => ?_
  refine kcf_rest (ks := (List.range 9).map fun (i : Nat) => (8 - (i : Int) : Int)) (fun k => v / 2 ^ k.toNat % 2) (by simp) ?_ ?_ ?_
  · rintro i x hi ⟨_, t, rfl⟩
    exact ⟨9 - 1 + (i : Int) * -1, t, by rw [List.getElem?_map, List.getElem?_range hi]; show some (8 - (i : Int)) = _; congr 1; omega, rfl⟩
  · intro k t I oI C oC D m₂ ys h tk E' hk hC hx F N off ne hM
    obtain ⟨hk0, hk1⟩ : 0 ≤ k ∧ k < 9 := by simp at hk; (first | lia | omega)
    k_steps
    refine kcf_el ?_ rfl rfl
    rw [Int.fdiv_eq_ediv_of_nonneg _ (Int.le_of_lt (Int.pow_pos (by decide))), Int.fmod_eq_emod_of_nonneg _ (by decide)]
  · unfold KPfDone
    intro ys hy
    k_steps
    rename _ ∧ LCg.Off1 _ _ => o1
    refine ret _ _ _ ys (by assumption) (news_sub (by assumption) fun p hp => ?_) ?_ (off1_ownB o1.2)
    · rcases List.mem_cons.mp hp with rfl | hp
      · exact .head _
      · exact .tail _ (.tail _ hp)
    · exact hy
theorem bits8_spec {v : Int} {t u : Tok}
    (B : Below A₀ base outer h₀) (F : Fr h₀ L s.heap m) (X : (KK w.params).In h₀) (N : News h₀ L s.heap news) (T : Top p loose mean mg mb h₀) (hk : cs.kind = .function)
    (hv0 : 0 ≤ v) (hv1 : v < 256) (hd : dp + 1 < recursionLimit) (hu : un + 8 < cLine)
    (ret : ∀ h' tk b ys, Fr h₀ L h' m → News h₀ L h' ((b, LCg.lst ys) :: news) → IntsAre ys (bitsOf v 8) → OwnOff news [b] → Q (.ref b) { s with heap := h', toks := tk }) :
    wpAny (model pw w) (ktrTop dp un gd cn cs L a ccd cl outer) (call (.ref 1433) [.int v t, .int 8 u]) Q E s := by
  refine wpAny_call ?_
  k_dflt (refine' code_defC ?k1 ?k2 ?k3 ?k4 ?k5 ?kA ?kF ?kK ?k6 ?k7 ?k8 ?k9 ?kB ?kD ?_ ?c2 ?c3 ?c4; (case kA => exact rfl); (case kF => exact rfl); (case kK => assumption); (case k1 => k_asm); (case k2 => k_asm); (case k3 => k_asm); (case k4 => k_asm); (case k5 => k_asm); (case k6 => k_is); (case k7 => k_is); (case k8 => ktr_room); (case k9 => exact BindsTo.of_eq rfl); (case kB => exact rfl); (case kD => decide +kernel); (case c2 => exact rfl); (case c3 => exact rfl); (case c4 => exact rfl); k_whole; intro g' L' h' tk' cells' FG' F' N' Y' B' X' T' l1; (try k_lt l1); k_cells Y'; (try simp only [List.cons_append, List.nil_append] at N'); (try dsimp only); (try k_fold))
  k_steps
  refine SrcC.intro 8 (by rfl) (by assumption) (by assumption) (by assumption) (by decide) (by decide) (by exact Nat.le_of_ble_eq_true rfl) fun g => ?_
  refine kcf_rest (ks := (List.range 8).map fun (i : Nat) => (7 - (i : Int) : Int)) (fun k => v / 2 ^ k.toNat % 2) (by simp) ?_ ?_ ?_
  · rintro i x hi ⟨_, t, rfl⟩
    exact ⟨8 - 1 + (i : Int) * -1, t, by rw [List.getElem?_map, List.getElem?_range hi]; show some (7 - (i : Int)) = _; congr 1; omega, rfl⟩
  · intro k t I oI C oC D m₂ ys h tk E' hk hC hx F N off ne hM
    obtain ⟨hk0, hk1⟩ : 0 ≤ k ∧ k < 8 := by simp at hk; (first | lia | omega)
    k_steps
    refine kcf_el ?_ rfl rfl
    rw [Int.fdiv_eq_ediv_of_nonneg _ (Int.le_of_lt (Int.pow_pos (by decide))), Int.fmod_eq_emod_of_nonneg _ (by decide)]
  · unfold KPfDone
    intro ys hy
    k_steps
    rename _ ∧ LCg.Off1 _ _ => o1
    refine ret _ _ _ ys (by assumption) (news_sub (by assumption) fun p hp => ?_) ?_ (off1_ownB o1.2)
    · rcases List.mem_cons.mp hp with rfl | hp
      · exact .head _
      · exact .tail _ (.tail _ hp)
    · exact hy
end
end
end Mine
namespace Mine
section
open PySem PySem.W PySem.Calls PyProof.Rows
set_option maxHeartbeats 8000000
set_option compiler.extract_closed false
theorem wReset42 : 1 = 1 := by walk1
theorem add_arr {prog : Program} {w : World} {A : Around} {E : Value → Shared → Prop} {s : Shared} {h₀ : Heap} {L l b : Addr} {m : PySem.Str → Option Value} {news : List (Addr × Obj)} {va vb : List Value} {Q : Value → Shared → Prop} (F : Fr h₀ L s.heap m) (N : News h₀ L s.heap news) (hl : s.heap.IsList l va.toArray) (hb : s.heap.IsList b vb.toArray) (hz : va.length + vb.length ≤ 5000)
    (h : ∀ D h', Fr h₀ L h' m → News h₀ L h' ((D, W.listOf (va ++ vb).toArray 0) :: news) → (∀ p ∈ news, p.1 < D) → Q (.ref D) { s with heap := h' }) : wpAny (model prog w) A (binaryOp .Add (.ref l) (.ref b)) Q E s :=
  add_lists (vs := va) (ws := vb) (hsz := by rw [sizeLine_eq]; omega) F N hl hb fun h' F' N' => h _ h' F' N' fun p hp => Heap.lt_size (N p hp).1
local macro_rules | `(tactic| k_room) => `(tactic| ktr_room)
local macro_rules | `(tactic| walk_at "pyIter ref") => `(tactic| (k_here; refine Hold.out ?_))
local macro_rules | `(tactic| walk_at "exec For") => `(tactic| (k_here; refine Hold.out ?_))
local macro_rules | `(tactic| walk_at "exec For Name Subscript cons nil") => `(tactic| (k_here; refine Hold.out ?_))
local macro_rules | `(tactic| walk_at "exec For Name Call cons nil") => `(tactic| (k_here; refine Hold.out ?_))
local macro_rules | `(tactic| walk_at "exec For Name Name cons nil") => `(tactic| (k_here; refine Hold.out ?_))
theorem fr_back {h₀ h : Heap} {L : Addr} {m : PySem.Str → Option Value} {x : PySem.Str} {v : Value} (F : Fr h₀ L h (fun y => if y = x then some v else m y)) (e : m x = some v) : Fr h₀ L h m := by
  have : (fun y => if y = x then some v else m y) = m := by
    funext y
    split
    · rename_i q; rw [q, e]
    · rfl
  rwa [this] at F
theorem perm4 {h₀ h : Heap} {L : Addr} {a b c d : Addr × Obj} {n : List (Addr × Obj)} (N : News h₀ L h (a :: b :: c :: d :: n)) : News h₀ L h (c :: a :: n) := news_sub N (by ((repeat (refine sub_cons (by repeat (first | exact List.Mem.head _ | refine List.Mem.tail _ ?_)) ?_)); first | exact sub_nil | (intro q hq; repeat (first | exact hq | refine List.Mem.tail _ ?_))))
section
variable {w : World} {p : Program} {loose : List PySem.Str} {mean : ExcName → Option Value} {mg mb : PySem.Str → Option Value} {s : Shared} {Q : Flow → Shared → Prop} {h₀ : Heap} {L : Addr} {m : PySem.Str → Option Value}
theorem turnC1 {bl : Addr} {itB : List Value} {nB : Nat} {tl : List (Addr × Obj)} {cb : Obj} {v : Int} {tv : Tok} {bs : List Int} (X : (KK w.params).In h₀) (T : Top p loose mean mg mb h₀)
    (F : Fr h₀ L s.heap m) (m1 : m "code" = some (.int v tv)) (hv0 : 0 ≤ v) (hv1 : v < 512)
    (N : News h₀ L s.heap ((L + 1 + 1, cb) :: (bl, W.listOf itB.toArray nB) :: tl)) (hcb : cb.data = .cell (some (.ref bl))) (off : OwnOff tl [L + 1 + 1, bl]) (n1 : @Ne Nat (L + 1 + 1) bl) (hi : IntsAre itB bs) (hlen : bs.length ≤ 1000)
    (ret : ∀ (h' : Heap) (tk : Nat) (bl' : Addr) (itB' : List Value) (cb' : Obj), Fr h₀ L h' m → News h₀ L h' ((L + 1 + 1, cb') :: (bl', W.listOf itB'.toArray 0) :: tl) → cb'.data = .cell (some (.ref bl')) → OwnOff tl [L + 1 + 1, bl'] → @Ne Nat (L + 1 + 1) bl' → IntsAre itB' (bs ++ bitsOf v 9) → Q .next { s with heap := h', toks := tk }) :
    wpAny (model pw w) (LA L) (execs (forB 4) (lawEnv L)) Q (fun _ _ => False) s := by
  replace F := fr_know F m1
  have B0 := below_caller h₀
  have hil := hi.length
  show wpAny _ _ (execs [_] _) _ _ _
  (repeat' (first | (k_unfold; (try dsimp only)) | (k_end; kc_close) | ((with_reducible show wpAny _ _ (binaryOp _ (Value.ref _) (Value.ref _)) _ _ _); k_dflt (refine' add_arr ?F ?N ?hl ?hb ?hz ?_; (case F => k_asm); (case N => k_asm); (case hl => exact News.isList (by k_asm) (by k_mem)); (case hb => exact News.isList (by k_asm) (by k_mem)); (case hz => (first | omega | (have hq' := IntsAre.length (by assumption); omega)))); intro D' h' F' N' l1; (try k_lt l1)) | (k_here; (with_reducible show wpAny _ _ (call (Value.ref 1433) [_, Value.int 9 _]) _ _ _); k_dflt (refine' bits9_spec ?kB ?kF ?kX ?kN ?kT ?kk ?r0 ?r1 ?k4 ?k5 (fun h' tk' b' ys' F' N' hi' ho' => ?_); (case kB => k_asm); (case kF => k_asm); (case kX => k_asm); (case kN => k_asm); (case kT => k_asm); (case kk => exact rfl); (case r0 => omega); (case r1 => omega); (case k4 => decide); (case k5 => decide)); (have hq9' := IntsAre.length hi'); (rw [bits_len] at hq9')) | walk1 | (dsimp only; walk1) | (leave1; (try dsimp only)) | fail "no step"))
  rename OwnOff _ [_] => hoo
  have hox : @Ne Nat (L + 1 + 1) _ := hoo _ (.head _) _ (.head _)
  (repeat' (first | (k_unfold; (try dsimp only)) | (k_end; kc_close) | ((with_reducible show wpAny _ _ (binaryOp _ (Value.ref _) (Value.ref _)) _ _ _); k_dflt (refine' add_arr ?F ?N ?hl ?hb ?hz ?_; (case F => k_asm); (case N => k_asm); (case hl => exact News.isList (by k_asm) (by k_mem)); (case hb => exact News.isList (by k_asm) (by k_mem)); (case hz => (first | omega | (have hq' := IntsAre.length (by assumption); omega)))); intro D' h' F' N' l1; (try k_lt l1)) | (k_here; (with_reducible show wpAny _ _ (call (Value.ref 1433) [_, Value.int 9 _]) _ _ _); k_dflt (refine' bits9_spec ?kB ?kF ?kX ?kN ?kT ?kk ?r0 ?r1 ?k4 ?k5 (fun h' tk' b' ys' F' N' hi' ho' => ?_); (case kB => k_asm); (case kF => k_asm); (case kX => k_asm); (case kN => k_asm); (case kT => k_asm); (case kk => exact rfl); (case r0 => omega); (case r1 => omega); (case k4 => decide); (case k5 => decide)); (have hq9' := IntsAre.length hi'); (rw [bits_len] at hq9')) | walk1 | (dsimp only; walk1) | (leave1; (try dsimp only)) | fail "no step"))
  rename News _ _ _ _ => NN
  rename _ ∧ _ ∧ _ ∧ AllLt _ _ => q1
  obtain ⟨a1, a2, a3, a4⟩ := q1
  rename Fr _ _ _ _ => FF
  refine ret _ _ _ _ _ (fr_back FF m1) (perm4 NN) (by assumption) ?_ (Nat.ne_of_lt a2) (IntsAre.append hi (by assumption))
  intro q hq b hb
  simp only [List.mem_cons, List.not_mem_nil, or_false] at hb
  rcases hb with rfl | rfl
  · exact off q hq _ (.head _)
  · exact Nat.ne_of_lt (allLt_mem a4 q hq)
end
section
variable {w : World} {p : Program} {loose : List PySem.Str} {mean : ExcName → Option Value} {mg mb : PySem.Str → Option Value} {s : Shared} {Q : Flow → Shared → Prop} {h₀ : Heap} {L : Addr} {m : PySem.Str → Option Value}
def codeBits (cs : List Int) : List Int := cs.flatMap fun c => bitsOf c 9
theorem codeBits_snoc (cs : List Int) (c : Int) : codeBits (cs ++ [c]) = codeBits cs ++ bitsOf c 9 := by unfold codeBits; rw [List.flatMap_append]; simp
theorem codeBits_len : ∀ cs : List Int, (codeBits cs).length = 9 * cs.length
  | [] => rfl
  | c :: r => by
    have := codeBits_len r
    unfold codeBits at this ⊢
    rw [List.flatMap_cons, List.length_append, bits_len, this, List.length_cons]; (first | lia | omega)
theorem partC1 {codes : Addr} {itC : List Value} {nC : Nat} {tl : List (Addr × Obj)} {cb : Obj} {cs : List Int} (X : (KK w.params).In h₀) (T : Top p loose mean mg mb h₀)
    (F : Fr h₀ L s.heap m) (m1 : m "codes" = some (.ref codes)) (N : News h₀ L s.heap ((L + 1 + 1, cb) :: tl)) (hcb : cb.data = .cell none) (hC : (codes, W.listOf itC.toArray nC) ∈ tl) (hiC : IntsAre itC cs) (hcs : cs.length ≤ 19) (hcr : ∀ c ∈ cs, 0 ≤ c ∧ c < 512) (off : OwnOff tl [L + 1 + 1])
    (ret : ∀ (h' : Heap) (tk : Nat) (m' : PySem.Str → Option Value) (bl lf : Addr) (itB : List Value) (nB : Nat) (cb' : Obj), Fr h₀ L h' m' → (∀ y : PySem.Str, y ≠ "code" → y ≠ "left" → m' y = m y) → m' "left" = some (.ref lf) → News h₀ L h' ((L + 1 + 1, cb') :: (bl, W.listOf itB.toArray nB) :: (lf, W.listOf ([] : List Value).toArray 0) :: tl) → cb'.data = .cell (some (.ref bl)) →
      OwnOff tl [L + 1 + 1, bl, lf] → @Ne Nat (L + 1 + 1) bl → @Ne Nat (L + 1 + 1) lf → @Ne Nat bl lf → IntsAre itB (codeBits cs) → Q .next { s with heap := h', toks := tk }) :
    wpAny (model pw w) (LA L) (execs (LB 3 2) (lawEnv L)) Q (fun _ _ => False) s := by
  replace F := fr_know F m1
  show wpAny _ _ (execs [_, _] _) _ _ _
  (repeat' (first | (k_unfold; (try dsimp only)) | (k_end; kc_close) | ((with_reducible show wpAny _ _ (binaryOp _ (Value.ref _) (Value.ref _)) _ _ _); k_dflt (refine' add_arr ?F ?N ?hl ?hb ?hz ?_; (case F => k_asm); (case N => k_asm); (case hl => exact News.isList (by k_asm) (by k_mem)); (case hb => exact News.isList (by k_asm) (by k_mem)); (case hz => (first | omega | (have hq' := IntsAre.length (by assumption); omega)))); intro D' h' F' N' l1; (try k_lt l1)) | (k_here; (with_reducible show wpAny _ _ (call (Value.ref 1433) [_, Value.int 9 _]) _ _ _); k_dflt (refine' bits9_spec ?kB ?kF ?kX ?kN ?kT ?kk ?r0 ?r1 ?k4 ?k5 (fun h' tk' b' ys' F' N' hi' ho' => ?_); (case kB => k_asm); (case kF => k_asm); (case kX => k_asm); (case kN => k_asm); (case kT => k_asm); (case kk => exact rfl); (case r0 => omega); (case r1 => omega); (case k4 => decide); (case k5 => decide)); (have hq9' := IntsAre.length hi'); (rw [bits_len] at hq9')) | walk1 | (dsimp only; walk1) | (leave1; (try dsimp only)) | fail "no step"))
  unfold Hold
  rename_i bl _ q1 lf _ q2 D _ q3 _ _ ob hd hh FF NN
  obtain ⟨a1, a2⟩ := q1
  obtain ⟨b1, b2, b3⟩ := q2
  refine For_invVF (hE := passes_no) FF rfl rfl ?_
  (repeat' (first | (k_unfold; (try dsimp only)) | (k_end; kc_close) | ((with_reducible show wpAny _ _ (binaryOp _ (Value.ref _) (Value.ref _)) _ _ _); k_dflt (refine' add_arr ?F ?N ?hl ?hb ?hz ?_; (case F => k_asm); (case N => k_asm); (case hl => exact News.isList (by k_asm) (by k_mem)); (case hb => exact News.isList (by k_asm) (by k_mem)); (case hz => (first | omega | (have hq' := IntsAre.length (by assumption); omega)))); intro D' h' F' N' l1; (try k_lt l1)) | (k_here; (with_reducible show wpAny _ _ (call (Value.ref 1433) [_, Value.int 9 _]) _ _ _); k_dflt (refine' bits9_spec ?kB ?kF ?kX ?kN ?kT ?kk ?r0 ?r1 ?k4 ?k5 (fun h' tk' b' ys' F' N' hi' ho' => ?_); (case kB => k_asm); (case kF => k_asm); (case kX => k_asm); (case kN => k_asm); (case kT => k_asm); (case kk => exact rfl); (case r0 => omega); (case r1 => omega); (case k4 => decide); (case k5 => decide)); (have hq9' := IntsAre.length hi'); (rw [bits_len] at hq9')) | walk1 | (dsimp only; walk1) | (leave1; (try dsimp only)) | fail "no step"))
  unfold Hold
  rename Fr _ _ _ _ => F3
  have N5 : News h₀ L hh ((L + 1 + 1, ob) :: (bl, W.listOf ([] : List Value).toArray 0) :: (lf, W.listOf ([] : List Value).toArray 0) :: tl) := news_sub NN (by ((repeat (refine sub_cons (by repeat (first | exact List.Mem.head _ | refine List.Mem.tail _ ?_)) ?_)); first | exact sub_nil | (intro q hq; repeat (first | exact hq | refine List.Mem.tail _ ?_))))
  have hC5 : ∀ (x y z : Addr × Obj), (codes, W.listOf itC.toArray nC) ∈ x :: y :: z :: tl := fun _ _ _ => .tail _ (.tail _ (.tail _ hC))
  refine kdl_iter (fun i m' nx => ∃ (bl' : Addr) (itB : List Value) (nB : Nat) (cb' : Obj), nx = (L + 1 + 1, cb') :: (bl', W.listOf itB.toArray nB) :: (lf, W.listOf ([] : List Value).toArray 0) :: tl ∧ cb'.data = .cell (some (.ref bl')) ∧ IntsAre itB (codeBits (cs.take i)) ∧
      OwnOff tl [L + 1 + 1, bl', lf] ∧ @Ne Nat (L + 1 + 1) bl' ∧ @Ne Nat bl' lf ∧ (∀ y : PySem.Str, y ≠ "code" → y ≠ "left" → m' y = m y) ∧ m' "left" = some (.ref lf)) rfl (hC5 _ _ _) F3 N5 ?_ ?_ ?_
  · refine ⟨bl, [], 0, ob, rfl, hd, .nil, ?_, Nat.ne_of_lt a1, Nat.ne_of_lt b1, ?_, rfl⟩
    · exact off_add (fun q hq => off q hq _ (.head _)) (off_add (fun q hq => Nat.ne_of_lt (allLt_mem a2 q hq)) (off_add (fun q hq => Nat.ne_of_lt (allLt_mem b3 q hq)) (fun _ _ _ h => nomatch h)))
    · intro y y1 y2
      show (if y = _ then _ else if y = _ then _ else _) = _
      rw [if_neg y2]
      split
      · rename_i e; rw [e, m1]
      · rfl
  · intro i v m₁ nx h tk own hv ho hl2 hJ F4 N4
    obtain ⟨bl', itB, nB, cb', rfl, hcd, hib, of1, x1, x2, hy, hlf⟩ := hJ
    have hilt : i < itC.length := by
      rcases Nat.lt_or_ge i itC.length with h | h
      · exact h
      · rw [List.getElem?_eq_none h] at hv; cases hv
    obtain ⟨kv, kt, rfl, hk⟩ := hiC.at i v hv
    have hkr := hcr kv (List.mem_of_getElem? hk)
    have hic := hiC.length
    have of2 : OwnOff ((lf, W.listOf ([] : List Value).toArray 0) :: (tl ++ own)) [L + 1 + 1, bl'] :=
      off_cons (ne_cons (Nat.ne_of_gt b2) (ne_cons (fun e => x2 e.symm) ne_nil)) (off_app (off_mono of1 (fun _ h => h) (by ((repeat (refine sub_cons (by repeat (first | exact List.Mem.head _ | refine List.Mem.tail _ ?_)) ?_)); exact sub_nil))) (off_mono ho (fun _ h => h) fun x hx => List.mem_append_left (lf :: tl.map (fun (q : Addr × Obj) => q.1)) hx))
    refine turnC1 (tl := (lf, W.listOf ([] : List Value).toArray 0) :: (tl ++ own)) X T F4 (if_pos rfl) hkr.1 hkr.2 N4 hcd of2 x1 hib (by rw [codeBits_len, List.length_take]; omega) ?_
    intro h' tk' bl2 itB2 cb2 F5 N6 e5 of3 y1 hib2
    refine (show InvEndG _ _ _ _ _ _ from InvEndG.intro (news' := _) (nx := (L + 1 + 1, cb2) :: (bl2, W.listOf itB2.toArray 0) :: (lf, W.listOf ([] : List Value).toArray 0) :: tl) F5 N6 ⟨hC5 _ _ _, bl2, itB2, 0, cb2, rfl, e5, ?_, ?_, y1, ?_, ?_, ?_⟩ ?_ ?_ ?_)
    · rw [List.take_add_one, hk]
      exact (codeBits_snoc _ _).symm ▸ hib2
    · exact off_add (fun q hq => of3 q (.tail _ (List.mem_append_left _ hq)) _ (.head _)) (off_add (fun q hq => of3 q (.tail _ (List.mem_append_left _ hq)) _ (.tail _ (.head _))) (off_mono of1 (fun _ h => h) fun _ h => .tail _ (.tail _ h)))
    · exact fun e => of3 _ (.head _) _ (.tail _ (.head _)) e.symm
    · intro y y1 y2
      show (if y = _ then _ else _) = _
      rw [if_neg y1]; exact hy y y1 y2
    · show (if _ then _ else _) = _
      rw [if_neg (by decide)]; exact hlf
    · exact off_add (fun q hq => of3 q (.tail _ (List.mem_append_right _ hq)) _ (.head _)) (off_add (fun q hq => of3 q (.tail _ (List.mem_append_right _ hq)) _ (.tail _ (.head _))) (off_mono ho (fun _ h => h) fun _ h => .tail _ (.tail _ h)))
    · exact sub_cons (.head _) (sub_cons (.tail _ (.head _)) (sub_cons (.tail _ (.tail _ (.head _))) fun q hq => .tail _ (.tail _ (.tail _ (List.mem_append_left _ hq)))))
    · exact fun q hq => .tail _ (.tail _ (.tail _ (List.mem_append_right _ hq)))
  · intro m₁ nx h tk hJ F4 N4
    obtain ⟨bl', itB, nB, cb', rfl, hcd, hib, of1, x1, x2, hy, hlf⟩ := hJ
    rw [List.take_of_length_le (by rw [hiC.length]; exact Nat.le_refl _)] at hib
    show wpAny _ _ (execs [] _) _ _ _
    rw [execs_nil]
    exact wpAny_pure (ret _ _ _ bl' lf itB nB cb' F4 hy hlf N4 hcd of1 x1 (Nat.ne_of_lt b2) x2 hib)
end
end
end Mine
namespace Mine
section
open PySem PySem.W PySem.Calls PyProof.Rows
set_option maxHeartbeats 8000000
set_option compiler.extract_closed false
theorem wReset43 : 1 = 1 := by walk1
local macro_rules | `(tactic| k_room) => `(tactic| ktr_room)
local macro_rules | `(tactic| walk_at "pyIter ref") => `(tactic| (k_here; refine Hold.out ?_))
local macro_rules | `(tactic| walk_at "exec For") => `(tactic| (k_here; refine Hold.out ?_))
local macro_rules | `(tactic| walk_at "exec For Name Subscript cons nil") => `(tactic| (k_here; refine Hold.out ?_))
local macro_rules | `(tactic| walk_at "exec For Name Call cons nil") => `(tactic| (k_here; refine Hold.out ?_))
local macro_rules | `(tactic| walk_at "exec For Name Name cons nil") => `(tactic| (k_here; refine Hold.out ?_))
theorem perm4b {h₀ h : Heap} {L : Addr} {a b c d : Addr × Obj} {n : List (Addr × Obj)} (N : News h₀ L h (a :: b :: c :: d :: n)) : News h₀ L h (c :: a :: n) := news_sub N (by ((repeat (refine sub_cons (by repeat (first | exact List.Mem.head _ | refine List.Mem.tail _ ?_)) ?_)); first | exact sub_nil | (intro q hq; repeat (first | exact hq | refine List.Mem.tail _ ?_))))
theorem perm9 {h₀ h : Heap} {L : Addr} {a b c d e f g i j : Addr × Obj} {n : List (Addr × Obj)} (N : News h₀ L h (a :: b :: c :: d :: e :: f :: g :: i :: j :: n)) : News h₀ L h (f :: g :: a :: b :: n) := news_sub N (by ((repeat (refine sub_cons (by repeat (first | exact List.Mem.head _ | refine List.Mem.tail _ ?_)) ?_)); first | exact sub_nil | (intro q hq; repeat (first | exact hq | refine List.Mem.tail _ ?_))))
theorem flat_len (n : Nat) (x : Int) : (List.replicate n [x]).flatten.length = n := by
  induction n with
  | zero => rfl
  | succ n ih => rw [List.replicate_succ, List.flatten_cons, List.length_append, ih]; simp; (first | lia | omega)
inductive PCJ (L : Addr) (cb ch : Obj) (bl : Addr × Obj) (tl : List (Addr × Obj)) (m : PySem.Str → Option Value) (i : Nat) (m' : PySem.Str → Option Value) (nx : List (Addr × Obj)) : Prop
  | mk (lf' : Addr) (itF : List Value) (nF : Nat) (fs : List Int) (hnx : nx = (L + 1 + 1, cb) :: (L + 1, ch) :: bl :: (lf', W.listOf itF.toArray nF) :: tl) (hl : m' "left" = some (.ref lf')) (hiF : IntsAre itF fs) (hfl : fs.length = 8 * i) (h01 : ∀ x ∈ fs, 0 ≤ x ∧ x ≤ 1)
      (x1 : @Ne Nat (L + 1 + 1) lf') (x2 : @Ne Nat (L + 1) lf') (x3 : @Ne Nat bl.1 lf') (hot : OwnOff tl [lf']) (hy : ∀ y : PySem.Str, y ≠ "k" → y ≠ "left" → m' y = m y) : PCJ L cb ch bl tl m i m' nx
section
variable {w : World} {p : Program} {loose : List PySem.Str} {mean : ExcName → Option Value} {mg mb : PySem.Str → Option Value} {s : Shared} {Q : Flow → Shared → Prop} {h₀ : Heap} {L : Addr} {m : PySem.Str → Option Value}
theorem turnC2 {lf : Addr} {itF : List Value} {nF : Nat} {tl : List (Addr × Obj)} {ch : Obj} {k hd : Int} {tk th : Tok} {fs : List Int} (X : (KK w.params).In h₀) (T : Top p loose mean mg mb h₀)
    (F : Fr h₀ L s.heap m) (m1 : m "k" = some (.int k tk)) (m2 : m "left" = some (.ref lf)) (hk0 : 0 ≤ k) (hk1 : k < 5) (hd0 : 0 ≤ hd) (hd1 : hd < 100000)
    (N : News h₀ L s.heap ((L + 1, ch) :: (lf, W.listOf itF.toArray nF) :: tl)) (hch : ch.data = .cell (some (.int hd th))) (hi : IntsAre itF fs) (hlen : fs.length ≤ 100)
    (ret : ∀ (h' : Heap) (tk : Nat) (m' : PySem.Str → Option Value) (lf' : Addr) (itF' : List Value) (v : Int), Fr h₀ L h' m' → m' "left" = some (.ref lf') → (∀ y : PySem.Str, y ≠ "k" → y ≠ "left" → m' y = m y) → News h₀ L h' ((L + 1, ch) :: (lf', W.listOf itF'.toArray 0) :: tl) → OwnOff ((L + 1, ch) :: tl) [lf'] → IntsAre itF' (fs ++ bitsOf v 8) → Q .next { s with heap := h', toks := tk }) :
    wpAny (model pw w) (LA L) (execs (forB 5) (lawEnv L)) Q (fun _ _ => False) s := by
  replace F := fr_know (fr_know F m1) ((if_neg (by decide)).trans m2)
  have B0 := below_caller h₀
  have hil := hi.length
  show wpAny _ _ (execs [_] _) _ _ _
  (repeat' (first | (k_unfold; (try dsimp only)) | (k_end; kc_close) | ((with_reducible show wpAny _ _ (binaryOp _ (Value.ref _) (Value.ref _)) _ _ _); k_dflt (refine' add_arr ?F ?N ?hl ?hb ?hz ?_; (case F => k_asm); (case N => k_asm); (case hl => exact News.isList (by k_asm) (by k_mem)); (case hb => exact News.isList (by k_asm) (by k_mem)); (case hz => (first | omega | (have hq' := IntsAre.length (by assumption); omega)))); intro D' h' F' N' l1; (try k_lt l1)) | (k_here; (with_reducible show wpAny _ _ (call (Value.ref 1433) [_, Value.int 8 _]) _ _ _); k_dflt (refine' bits8_spec ?kB ?kF ?kX ?kN ?kT ?kk ?r0 ?r1 ?k4 ?k5 (fun h' tk' b' ys' F' N' hi' ho' => ?_); (case kB => k_asm); (case kF => k_asm); (case kX => k_asm); (case kN => k_asm); (case kT => k_asm); (case kk => exact rfl); (case r0 => exact Int.fmod_nonneg_of_pos _ (by decide)); (case r1 => exact Int.fmod_lt_of_pos _ (by decide)); (case k4 => decide); (case k5 => decide)); (have hq9' := IntsAre.length hi'); (rw [bits_len] at hq9')) | walk1 | (dsimp only; walk1) | (leave1; (try dsimp only)) | fail "no step"))
  rename News _ _ _ _ => NN
  rename _ ∧ _ ∧ _ ∧ AllLt _ _ => q1
  obtain ⟨a1, a2, a3, a4⟩ := q1
  rename Fr _ _ _ _ => FF
  refine ret _ _ _ _ _ _ FF rfl ?_ (perm4b NN) ?_ (IntsAre.append hi (by assumption))
  · intro y y1 y2
    show (if y = _ then _ else if y = _ then _ else if y = _ then _ else _) = _
    rw [if_neg y2]
    repeat (first | rw [if_neg y2] | rw [if_neg y1])
  · intro q hq b hb
    obtain rfl := List.mem_singleton.mp hb
    rcases List.mem_cons.mp hq with rfl | hq
    · exact Nat.ne_of_lt a2
    · exact Nat.ne_of_lt (allLt_mem a4 q hq)
theorem partC2 {bl lf : Addr} {itB : List Value} {nB : Nat} {tl : List (Addr × Obj)} {cb ch : Obj} {hd : Int} {th : Tok} {bs : List Int} (X : (KK w.params).In h₀) (T : Top p loose mean mg mb h₀)
    (F : Fr h₀ L s.heap m) (m1 : m "left" = some (.ref lf)) (N : News h₀ L s.heap ((L + 1 + 1, cb) :: (L + 1, ch) :: (bl, W.listOf itB.toArray nB) :: (lf, W.listOf ([] : List Value).toArray 0) :: tl)) (hcb : cb.data = .cell (some (.ref bl))) (hch : ch.data = .cell (some (.int hd th))) (hd0 : 0 ≤ hd) (hd1 : hd < 100000)
    (hiB : IntsAre itB bs) (hbl : bs.length ≤ 400) (off : OwnOff tl [L + 1 + 1, L + 1, bl, lf]) (n1 : @Ne Nat (L + 1 + 1) bl) (n2 : @Ne Nat (L + 1 + 1) lf) (n3 : @Ne Nat (L + 1) bl) (n4 : @Ne Nat (L + 1) lf) (n5 : @Ne Nat bl lf)
    (ret : ∀ (h' : Heap) (tk : Nat) (m' : PySem.Str → Option Value) (bl' lf' : Addr) (itB' itL : List Value) (cb' : Obj) (ls : List Int), Fr h₀ L h' m' → m' "left" = some (.ref lf') → (∀ y : PySem.Str, y ≠ "k" → y ≠ "left" → m' y = m y) →
      News h₀ L h' ((L + 1 + 1, cb') :: (L + 1, ch) :: (bl', W.listOf itB'.toArray 0) :: (lf', W.listOf itL.toArray 0) :: tl) → cb'.data = .cell (some (.ref bl')) → IntsAre itB' (bs ++ ls) → IntsAre itL ls → (∀ x ∈ ls, 0 ≤ x ∧ x ≤ 1) → ls.length ≤ 39 → (bs.length + ls.length) % 8 = 0 →
      @LT.lt Nat _ (L + 1 + 1) lf' → @LT.lt Nat _ lf' bl' → AllLt lf' tl → AllLt bl' tl → Q .next { s with heap := h', toks := tk }) :
    wpAny (model pw w) (LA L) (execs (LB 5 3) (lawEnv L)) Q (fun _ _ => False) s := by
  replace F := fr_know F m1
  show wpAny _ _ (execs [_, _, _] _) _ _ _
  (repeat' (first | (k_unfold; (try dsimp only)) | (k_end; kc_close) | ((with_reducible show wpAny _ _ (binaryOp _ (Value.ref _) (Value.ref _)) _ _ _); k_dflt (refine' add_arr ?F ?N ?hl ?hb ?hz ?_; (case F => k_asm); (case N => k_asm); (case hl => exact News.isList (by k_asm) (by k_mem)); (case hb => exact News.isList (by k_asm) (by k_mem)); (case hz => (first | omega | (have hq' := IntsAre.length (by assumption); omega)))); intro D' h' F' N' l1; (try k_lt l1)) | (k_here; (with_reducible show wpAny _ _ (call (Value.ref 1433) [_, Value.int 8 _]) _ _ _); k_dflt (refine' bits8_spec ?kB ?kF ?kX ?kN ?kT ?kk ?r0 ?r1 ?k4 ?k5 (fun h' tk' b' ys' F' N' hi' ho' => ?_); (case kB => k_asm); (case kF => k_asm); (case kX => k_asm); (case kN => k_asm); (case kT => k_asm); (case kk => exact rfl); (case r0 => exact Int.fmod_nonneg_of_pos _ (by decide)); (case r1 => exact Int.fmod_lt_of_pos _ (by decide)); (case k4 => decide); (case k5 => decide)); (have hq9' := IntsAre.length hi'); (rw [bits_len] at hq9')) | walk1 | (dsimp only; walk1) | (leave1; (try dsimp only)) | fail "no step"))
  unfold Hold
  rename Fr _ _ _ _ => FF
  refine For_invVF (hE := passes_no) FF rfl rfl ?_
  (repeat' (first | (k_unfold; (try dsimp only)) | (k_end; kc_close) | ((with_reducible show wpAny _ _ (binaryOp _ (Value.ref _) (Value.ref _)) _ _ _); k_dflt (refine' add_arr ?F ?N ?hl ?hb ?hz ?_; (case F => k_asm); (case N => k_asm); (case hl => exact News.isList (by k_asm) (by k_mem)); (case hb => exact News.isList (by k_asm) (by k_mem)); (case hz => (first | omega | (have hq' := IntsAre.length (by assumption); omega)))); intro D' h' F' N' l1; (try k_lt l1)) | (k_here; (with_reducible show wpAny _ _ (call (Value.ref 1433) [_, Value.int 8 _]) _ _ _); k_dflt (refine' bits8_spec ?kB ?kF ?kX ?kN ?kT ?kk ?r0 ?r1 ?k4 ?k5 (fun h' tk' b' ys' F' N' hi' ho' => ?_); (case kB => k_asm); (case kF => k_asm); (case kX => k_asm); (case kN => k_asm); (case kT => k_asm); (case kk => exact rfl); (case r0 => exact Int.fmod_nonneg_of_pos _ (by decide)); (case r1 => exact Int.fmod_lt_of_pos _ (by decide)); (case k4 => decide); (case k5 => decide)); (have hq9' := IntsAre.length hi'); (rw [bits_len] at hq9')) | walk1 | (dsimp only; walk1) | (leave1; (try dsimp only)) | fail "no step"))
  unfold Hold
  rename IsRange _ _ _ _ _ _ _ _ => hR
  rename News _ _ _ _ => N3
  rename Fr _ _ _ _ => F3
  have hm0 : 0 ≤ hd.fmod 5 := Int.fmod_nonneg_of_pos _ (by decide)
  have hm1 : hd.fmod 5 < 5 := Int.fmod_lt_of_pos _ (by decide)
  refine rng_iter (n := (hd.fmod 5).toNat) (PCJ L cb ch (bl, W.listOf itB.toArray nB) tl m) rfl hR ?_ ?_ F3 N3 ?_ ?_ ?_
  · exact small_one (by (first | lia | omega)) (by (first | lia | omega)) (by (first | lia | omega)) (by (first | lia | omega))
  · rw [rangeSize_nat]; (first | lia | omega)
  · refine ⟨lf, [], 0, [], rfl, rfl, .nil, rfl, (fun x hx => by cases hx), n2, n4, n5, own_sub off (by simp), ?_⟩
    intro y _ y2
    show (if y = _ then _ else _) = _
    rw [if_neg y2]
  · intro i t m₁ nx h tk own hin ho hJ F4 N4
    obtain ⟨lf', itF, nF, fs, rfl, hl, hiF, hfl, hf01, x1, x2, x3, hot, hy⟩ := hJ
    have N7 : News h₀ L h ((L + 1, ch) :: (lf', W.listOf itF.toArray nF) :: (L + 1 + 1, cb) :: (bl, W.listOf itB.toArray nB) :: (tl ++ own)) := news_sub N4 (by ((repeat (refine sub_cons (by repeat (first | exact List.Mem.head _ | refine List.Mem.tail _ ?_)) ?_)); first | exact sub_nil | (intro q hq; repeat (first | exact hq | refine List.Mem.tail _ ?_))))
    refine turnC2 (tl := (L + 1 + 1, cb) :: (bl, W.listOf itB.toArray nB) :: (tl ++ own)) X T F4 (if_pos rfl) ((if_neg (by decide)).trans hl) (by (first | lia | omega)) (by (first | lia | omega)) hd0 hd1 N7 hch hiF (by (first | lia | omega)) ?_
    intro h' tk' m' lf2 itF2 v F5 hl5 hy5 N6 of5 hi5
    refine (show InvEndG _ _ _ _ _ _ from InvEndG.intro (news' := _) (nx := (L + 1 + 1, cb) :: (L + 1, ch) :: (bl, W.listOf itB.toArray nB) :: (lf2, W.listOf itF2.toArray 0) :: tl) F5 N6 ⟨lf2, itF2, 0, fs ++ bitsOf v 8, rfl, hl5, hi5, ?_, ?_, ?_, ?_, ?_, ?_, ?_⟩ ?_ ?_ ?_)
    · rw [List.length_append, bits_len, hfl]; (first | lia | omega)
    · intro x hx
      exact (List.mem_append.mp hx).elim (hf01 x) (bits_01 _ _ x)
    · exact of5 _ (.tail _ (.head _)) _ (.head _)
    · exact of5 _ (.head _) _ (.head _)
    · exact of5 _ (.tail _ (.tail _ (.head _))) _ (.head _)
    · exact fun q hq => of5 q (.tail _ (.tail _ (.tail _ (List.mem_append_left _ hq))))
    · intro y y1 y2
      rw [hy5 y y1 y2]
      show (if y = _ then _ else _) = _
      rw [if_neg y1]; exact hy y y1 y2
    · exact off_join (a := [L + 1 + 1, L + 1, bl, lf2]) (off_join (a := [L + 1 + 1, L + 1, bl]) (off_mono ho (fun _ h => h) fun x hx => List.mem_append_left (lf' :: tl.map (fun (q : Addr × Obj) => q.1)) hx) (fun q hq x hx => of5 q (.tail _ (.tail _ (.tail _ (List.mem_append_right _ hq)))) x hx)) (off_mono ho (fun _ h => h) (fun x hx => .tail _ (.tail _ (.tail _ (.tail _ hx)))))
    · exact sub_cons (.tail _ (.tail _ (.head _))) (sub_cons (.head _) (sub_cons (.tail _ (.tail _ (.tail _ (.head _)))) (sub_cons (.tail _ (.head _)) fun q hq => .tail _ (.tail _ (.tail _ (.tail _ (List.mem_append_left _ hq)))))))
    · exact fun q hq => .tail _ (.tail _ (.tail _ (.tail _ (List.mem_append_right _ hq))))
  · intro m₁ nx h tk hJ F4 N4
    obtain ⟨lf', itF, nF, fs, rfl, hl, hiF, hfl, hf01, x1, x2, x3, hot, hy⟩ := hJ
    have hlB := hiB.length
    have hlF := hiF.length
    have hg2 : fs.length ≤ 32 := by (first | lia | omega)
    replace F4 := fr_know F4 hl
    clear F3 N3 hfl hm0 hm1
    (repeat' (first | (k_unfold; (try dsimp only)) | (k_end; kc_close) | ((with_reducible show wpAny _ _ (binaryOp _ (Value.ref _) (Value.ref _)) _ _ _); k_dflt (refine' add_arr ?F ?N ?hl ?hb ?hz ?_; (case F => k_asm); (case N => k_asm); (case hl => exact News.isList (by k_asm) (by k_mem)); (case hb => exact News.isList (by k_asm) (by k_mem)); (case hz => (first | omega | (have hq' := IntsAre.length (by assumption); omega)))); intro D' h' F' N' l1; (try k_lt l1)) | (k_here; (with_reducible show wpAny _ _ (call (Value.ref 1433) [_, Value.int 8 _]) _ _ _); k_dflt (refine' bits8_spec ?kB ?kF ?kX ?kN ?kT ?kk ?r0 ?r1 ?k4 ?k5 (fun h' tk' b' ys' F' N' hi' ho' => ?_); (case kB => k_asm); (case kF => k_asm); (case kX => k_asm); (case kN => k_asm); (case kT => k_asm); (case kk => exact rfl); (case r0 => exact Int.fmod_nonneg_of_pos _ (by decide)); (case r1 => exact Int.fmod_lt_of_pos _ (by decide)); (case k4 => decide); (case k5 => decide)); (have hq9' := IntsAre.length hi'); (rw [bits_len] at hq9')) | walk1 | (dsimp only; walk1) | (leave1; (try dsimp only)) | fail "no step"))
    rename _ ∧ _ ∧ _ ∧ _ ∧ _ ∧ _ ∧ _ ∧ _ ∧ AllLt _ _ => q1
    rename _ ∧ _ ∧ _ ∧ _ ∧ _ ∧ _ ∧ _ ∧ AllLt _ _ => q2
    obtain ⟨a1, a2, a3, a4, a5, a6, a7, a8, a9⟩ := q1
    obtain ⟨b1, b2, b3, b4, b5, b6, b7, b8⟩ := q2
    rename News _ _ _ _ => NN
    have N8 := perm9 NN
    clear NN
    rename 0 ≤ _ → _ => e3
    rename _ < 0 → _ => e2
    clear e2 e3
    have of8 : OwnOff tl [L + 1 + 1] := own_sub off (by simp)
    (repeat' (first | (k_unfold; (try dsimp only)) | (k_end; kc_close) | ((with_reducible show wpAny _ _ (binaryOp _ (Value.ref _) (Value.ref _)) _ _ _); k_dflt (refine' add_arr ?F ?N ?hl ?hb ?hz ?_; (case F => k_asm); (case N => k_asm); (case hl => exact News.isList (by k_asm) (by k_mem)); (case hb => exact News.isList (by k_asm) (by k_mem)); (case hz => (first | omega | (have hq' := IntsAre.length (by assumption); omega)))); intro D' h' F' N' l1; (try k_lt l1)) | (k_here; (with_reducible show wpAny _ _ (call (Value.ref 1433) [_, Value.int 8 _]) _ _ _); k_dflt (refine' bits8_spec ?kB ?kF ?kX ?kN ?kT ?kk ?r0 ?r1 ?k4 ?k5 (fun h' tk' b' ys' F' N' hi' ho' => ?_); (case kB => k_asm); (case kF => k_asm); (case kX => k_asm); (case kN => k_asm); (case kT => k_asm); (case kk => exact rfl); (case r0 => exact Int.fmod_nonneg_of_pos _ (by decide)); (case r1 => exact Int.fmod_lt_of_pos _ (by decide)); (case k4 => decide); (case k5 => decide)); (have hq9' := IntsAre.length hi'); (rw [bits_len] at hq9')) | walk1 | (dsimp only; walk1) | (leave1; (try dsimp only)) | fail "no step"))
    rename News _ _ _ _ => NN
    rename Fr _ _ _ _ => FF
    have hz0 : 0 ≤ (-((bs.length + fs.length : Nat) : Int)).fmod 8 := Int.fmod_nonneg_of_pos _ (by decide)
    have hz1 : (-((bs.length + fs.length : Nat) : Int)).fmod 8 < 8 := Int.fmod_lt_of_pos _ (by decide)
    have hz2 : (-((bs.length + fs.length : Nat) : Int)).fmod 8 = (-((bs.length + fs.length : Nat) : Int)) % 8 := Int.fmod_eq_emod_of_nonneg _ (by decide)
    refine ret _ _ _ _ _ _ _ _ (fs ++ (List.replicate ((-((bs.length + fs.length : Nat) : Int)).fmod 8).toNat [0]).flatten) FF rfl ?_ NN (by assumption) (by assumption) (by assumption) ?_ ?_ ?_ b4 a1 b8 a9
    · intro y y1 y2
      show (if y = _ then _ else _) = _
      rw [if_neg y2]
      repeat rw [if_neg y2]
      exact hy y y1 y2
    · intro x hx
      rcases List.mem_append.mp hx with hx | hx
      · exact hf01 x hx
      · obtain ⟨l, hl, hx⟩ := List.mem_flatten.mp hx
        rw [List.eq_of_mem_replicate hl] at hx
        obtain rfl := List.mem_singleton.mp hx
        decide
    · rw [List.length_append, flat_len]; (first | lia | omega)
    · rw [List.length_append, flat_len]; (first | lia | omega)
end
end
end Mine
namespace Mine
section
open PySem PySem.W PySem.Calls PyProof.Rows
open Sem (wp)
set_option maxHeartbeats 4000000
section
variable {prog : Program} {w : World} {A A₀ : Around} {K : Frag} {C : Addr} {R : Result → Shared → Prop} {h : Heap} {g : Array GenState} {d : Drawn} {t : Nat} {os : OsState}
theorem makeG_core {rest : List Value} {init : Value} (Y : Makes (model prog w) h C) (hi : Looks (model prog w) h (typeLookup (.ref C) "__init__") (some init))
    (hb : ∀ self, Looks (model prog w) h (bindSpecial init self) (init, [self])) (hne : (some init != some (Value.builtin "object.__init__")) = true)
    (hq : codeG (model prog w) (A.under (.builtin "type.__call__" ⟨.ref C :: rest, []⟩)) (.call init ⟨.ref (h.objs.size + 1) :: rest, []⟩) (InitBack (h.objs.size + 1) R) ⟨(h.push emptyDict).push (instObj C h.objs.size), g, d, t, os⟩) :
    codeG (model prog w) A (.call (.ref C) ⟨rest, []⟩) R ⟨h, g, d, t, os⟩ := by
  have Y' := Y
  obtain ⟨⟨oc, od, cd, sl, hC, e1, e2, e4⟩, made, base, self, top, call, typ⟩ := Y
  refine codeG_tree_any ?_
  show wpAny _ _ (callAny (.ref C) _) _ _ _
  refine nd_load hC ?_
  show wpAny _ _ (callAny.viaDunder (.ref C) _) _ _ _
  unfold callAny.viaDunder
  refine wpAny_bind (call.at ?_)
  dsimp only
  rw [tc_bind]
  refine wpAny_bind (wpAny_pure (wpAny_bind (wpAny_pure ?_)))
  refine wpAny_pure (a := Fin.again (.call (.builtin "type.__call__") ⟨.ref C :: rest, []⟩)) (And.intro rfl ?_)
  refine codeG_call_builtin (good_id _ (by decide +kernel)) (Code.quiet_builtin _ (by decide +kernel)) entry_typeCall (check_slot tc_kind tc_split typ (tc_args _ _ _) ?_)
  have hm : Looks (model prog w) h (mroOf (.ref C)) cd.mro := ((Looks.ld (part := none) hC).andThen .now).andThen .now
  unfold Builtin.«type.__call__»
  dsimp only
  refine gif_false rfl ?_
  refine wpG_ahead (hm.here ?_)
  refine gif_false e4 ?_
  refine wpG_ahead (made.here ?_)
  dsimp only
  refine wpG_ahead (wpAny_pure ?_)
  refine wpG_ahead (wpAny_holding (wpAny_call (new_K Y' hi (.inl hne) ?_)))
  have k : ∀ b o, h.get? b = some o → ((h.push emptyDict).push (instObj C h.objs.size)).get? b = some o := fun b o e => Heap.get?_push_of_some _ (Heap.get?_push_of_some _ e)
  have hx : ((h.push emptyDict).push (instObj C h.objs.size)).get? (h.objs.size + 1) = some (instObj C h.objs.size) := by heap_get
  have t1 : Looks (model prog w) ((h.push emptyDict).push (instObj C h.objs.size)) (typeOf (.ref (h.objs.size + 1))) (.ref C) := (Looks.ld hx).andThen .now
  have s1 := self.keeps k
  have i1 := hi.keeps k
  have b1 := (hb (.ref (h.objs.size + 1))).keeps k
  dsimp only
  refine wpG_ahead ?_
  unfold isInstance
  refine wpAny_bind (t1.here ?_)
  refine s1.here ?_
  refine gif_false rfl ?_
  refine wpG_bind (wpG_holding ?_)
  unfold callSpecial? specialOf
  refine wpG_ahead (wpAny_bind (t1.here (i1.here ?_)))
  dsimp only
  refine wpG_holding (wpG_ahead (b1.here ?_))
  dsimp only
  refine wpG_first (wpG_call (codeG_mono hq fun r s₂ hr2 => ?_))
  rcases r with e | fl
  · exact hr2
  cases fl with
  | ret v =>
    obtain ⟨rfl, hq⟩ := hr2
    refine wpAny_pure ?_
    refine gif_false rfl ?_
    exact wpG_pure hq
  | _ => exact hr2.elim
end
end
end Mine
namespace Mine
section
open PySem PySem.W PySem.Calls PyProof.Rows
set_option maxHeartbeats 4000000
theorem pk_check (P : Params) : peek (KK P) ⟨pw, P⟩ (checkBuiltinCall "object.__new__" ⟨[.ref 541], []⟩) = some () := by kernel_rfl
theorem pk_type (P : Params) : peek (KK P) ⟨pw, P⟩ (isType (.ref 541)) = some true := by kernel_rfl
theorem pk_made (P : Params) : peek (KK P) ⟨pw, P⟩ (Bind.madeHere "object.__new__" (.ref 541)) = some () := by kernel_rfl
theorem kk541 (P : Params) : (KK P).lookup 541 = some o541 := by kernel_rfl
section
variable {w : World} {A : Around} {R : Result → Shared → Prop} {h : Heap} {g : Array GenState} {d : Drawn} {t : Nat} {os : OsState}
theorem objnew_io (X : (KK w.params).In h) (hq : R (.ok (.ret (.ref (h.objs.size + 1)))) ⟨(h.push emptyDict).push (instObj 541 h.objs.size), g, d, t, os⟩) :
    codeAny (model pw w) A (.call (.builtin "object.__new__") ⟨[.ref 541], []⟩) R ⟨h, g, d, t, os⟩ := by
  have F := PySem.F.objNew
  have hC := X _ _ (kk541 _)
  refine codeAny_of_tree ?_
  show wpAny _ _ (do checkBuiltinCall "object.__new__" ⟨[.ref 541], []⟩; again (.builtin "object.__new__" ⟨[.ref 541], []⟩)) _ _ _
  refine wpAny_bind ((Looks.of_peek X (pk_check _)).here ?_)
  refine wpAny_pure ⟨Code.quiet_builtin _ F.quiet, codeAny_builtin F.entry ?_⟩
  unfold Builtin.«object.__new__»
  refine wpAny_bind ((Looks.of_peek X (pk_type _)).here ?_)
  refine bm_if_false rfl ?_
  refine wpAny_bind ((Looks.of_peek X (pk_made _)).here ?_)
  refine bm_if_false rfl ?_
  refine wpAny_bind (wpAny_bind (wpAny_load hC (wpAny_pure ?_)))
  refine bm_if_false rfl ?_
  show wpAny _ _ ((alloc emptyDict >>= fun x => pure (some x)) >>= _) _ _ _
  refine wpAny_bind (wpAny_bind (wpAny_alloc (wpAny_pure (wpAny_bind ?_))))
  show wpAny _ _ (newObjAsIs _ _ _) _ _ _
  unfold newObjAsIs classHasDel
  refine wpAny_bind (wpAny_alloc (wpAny_bind (wpAny_bind (wpAny_load (Heap.get?_push_of_some _ (Heap.get?_push_of_some _ hC)) (wpAny_pure ?_)))))
  refine wpAny_pure (wpAny_pure ?_)
  show R _ _
  rw [Heap.size_push]
  exact hq
end
end
end Mine
namespace Mine
section
open PySem PySem.W PySem.Calls PyProof.Rows
set_option maxHeartbeats 8000000
set_option compiler.extract_closed false
theorem objnew_K {w : World} {A : Around} {E : Value → Shared → Prop} {s : Shared} {h₀ : Heap} {L : Addr} {m : PySem.Str → Option Value} {news : List (Addr × Obj)} {Q : Value → Shared → Prop} (F : Fr h₀ L s.heap m) (X : (KK w.params).In h₀) (N : News h₀ L s.heap news)
    (h : ∀ x dx h', Fr h₀ L h' m → News h₀ L h' ((x, instObj 541 dx) :: (dx, emptyDict) :: news) → (∀ p ∈ news, p.1 < dx) → dx < x → Q (.ref x) { s with heap := h' }) : wpAny (model pw w) A (call (.builtin "object.__new__") [.ref 541]) Q E s := by
  refine wpAny_call ?_
  obtain ⟨hh, g, d, t, os⟩ := s
  refine objnew_io (X.keeps F.keep) (h _ hh.objs.size _ ((F.push _).push _) ?_ (fun p hp => Heap.lt_size (N p hp).1) (Nat.lt_succ_self _))
  have := (N.push F emptyDict).push (F.push _) (instObj 541 hh.objs.size)
  rw [Heap.size_push] at this
  exact this
section
variable {w : World} {p : Program} {loose : List PySem.Str} {mean : ExcName → Option Value} {mg mb : PySem.Str → Option Value} {cn : PySem.Str} {cs : Scope} {a : Addr} {ccd : Value} {cl : List (PySem.Str × Addr)} {outer : List Env} {A A₀ : Around} {base h₀ : Heap} {L : Addr} {m : PySem.Str → Option Value} {news : List (Addr × Obj)} {s : Shared}
    {Q E : Value → Shared → Prop}
theorem new_io {b : Array UInt8} {u : Tok} (hA : A.frames = some (envX cn cs L a ccd cl :: outer)) (hh : A.handled = none)
    (B : Below A₀ base outer h₀) (F : Fr h₀ L s.heap m) (X : (KK w.params).In h₀) (N : News h₀ L s.heap news) (T : Top p loose mean mg mb h₀) (hk : cs.kind = .function)
    (hd : A.depth < recursionLimit)
    (ret : ∀ h' tk x dx, Fr h₀ L h' m → News h₀ L h' ((x, instObj 541 dx) :: (dx, emptyDict) :: news) → (∀ p ∈ news, p.1 < dx) → dx < x → Q (.ref x) { s with heap := h', toks := tk }) :
    wpAny (model pw w) A (call (.ref 281) [.ref 541, .bytes b u]) Q E s := by
  refine wpAny_call ?_
  k_dflt (refine' kp_both ?k1 ?k2 ?k3 ?k4 ?k5 ?kA ?kF ?kK ?k6 ?k7 ?k8 ?kV ?kX ?kQ ?kM ?kN ?kD ?kR ?kP ?kS ?kT ?kB ?_ ?c2 ?c3 ?c4 ?c5; (case kA => exact hA); (case kF => exact rfl); (case kK => exact hk); (case k1 => k_asm); (case k2 => k_asm); (case k3 => k_asm); (case k4 => k_asm); (case k5 => k_asm); (case k6 => k_is); (case k7 => k_is); (case k8 => exact hd); (case kV => kp_lit); (case kX => kp_lit); (case kQ => exact rfl); (case kM => exact rfl); (case kN => exact rfl); (case kD => kp_flats); (case kR => exact rfl); (case kP => exact rfl); (case kS => exact fun _ => rfl); (case kT => exact fun _ _ => rfl); (case kB => exact fun _ _ => locs rfl); (case c5 => decide); (case c2 => exact rfl); (case c3 => exact rfl); (case c4 => exact rfl); k_whole; intro C' D' o' g' L' h' tk' l1 l2 lo' hs' fs' FG' F' N' B' X' T'; (try k_lt l1); (try dsimp only); (try k_fold))
  (repeat' (first | (k_unfold; (try dsimp only)) | (k_end; kc_close) | ((with_reducible show wpAny _ _ (call (Value.builtin "object.__new__") _) _ _ _); k_dflt (refine' objnew_K ?k1 ?k2 ?k3 ?_; (case k1 => k_asm); (case k2 => k_asm); (case k3 => k_asm); k_whole); intro x' d' h' F' N' l1 l2; (try k_lt l1); (try k_lt2 l2)) | walk1 | (dsimp only; walk1) | (leave1; (try dsimp only)) | fail "no step"))
  rename _ ∧ _ ∧ AllLt _ _ => q1
  rename News h₀ _ _ _ => NN
  refine ret _ _ _ _ (by assumption) (fun q hq => NN q ?_) (fun q hq => Nat.lt_trans (l1 q hq) q1.2.1) (by assumption)
  simp only [List.mem_cons] at hq ⊢
  rcases hq with h | h | h <;> simp [h]
end
end
end Mine
namespace Mine
section
open PySem PySem.W PySem.Calls PyProof.Rows
set_option maxHeartbeats 4000000
theorem io_call (P : Params) : peek (KK P) ⟨pw, P⟩ (specialOf (.ref 541) "__call__") = some (some (.builtin "type.__call__")) := by kernel_rfl
theorem io_typ (P : Params) : peek (KK P) ⟨pw, P⟩ (isInstance (.ref 541) (.type "type")) = some true := by kernel_rfl
theorem io_mro (P : Params) : peek (KK P) ⟨pw, P⟩ (mroOf (.ref 541)) = some [.ref 541, .ref 299, .ref 284, .type "object"] := by kernel_rfl
theorem io_madeBy (P : Params) : peek (KK P) ⟨pw, P⟩ (Bind.madeBy (.ref 541)) = some none := by kernel_rfl
theorem io_sub (P : Params) : peek (KK P) ⟨pw, P⟩ (isSubtype (.ref 541) (.ref 541)) = some true := by kernel_rfl
theorem io_init (P : Params) : peek (KK P) ⟨pw, P⟩ (typeLookup (.ref 541) "__init__") = some (some (.ref 328)) := by kernel_rfl
theorem io_bind (P : Params) : typeIn (KK P) (.ref 328) = some (.type "function") := by kernel_rfl
section
variable {w : World} {p : Program} {loose : List PySem.Str} {mean : ExcName → Option Value} {mg mb : PySem.Str → Option Value} {cn : PySem.Str} {cs : Scope} {a : Addr} {ccd : Value} {cl : List (PySem.Str × Addr)} {outer : List Env} {A A₀ : Around} {base h₀ : Heap} {L : Addr} {m : PySem.Str → Option Value} {news : List (Addr × Obj)} {s : Shared}
    {E : Value → Shared → Prop} {R : Result → Shared → Prop}
theorem io_get {Q : Value → Shared → Prop} (F : Fr h₀ L s.heap m) (X : (KK w.params).In h₀) (hh : A.handled = none) (h : Q (.ref 281) { s with toks := s.toks + 1 }) : wpAny (model pw w) A (getAttr (.ref 541) (PySem.Str.ofString "__new__")) Q E s := by
  k_dflt (refine' cls_sm ?k1 ?k2 ?k3 ?k4 ?k5 ?k6 ?k7 ?_; (case k1 => k_asm); (case k2 => k_asm); (case k3 => k_is); (case k4 => k_is); (case k5 => k_is); (case k6 => k_is); (case k7 => first | exact hh | k_handed); k_whole)
  exact h
theorem makeIO {b : Array UInt8} {u : Tok} (hA : A.frames = some (envX cn cs L a ccd cl :: outer)) (hh : A.handled = none)
    (B : Below A₀ base outer h₀) (F : Fr h₀ L s.heap m) (X : (KK w.params).In h₀) (N : News h₀ L s.heap news) (T : Top p loose mean mg mb h₀) (hk : cs.kind = .function) (hd : A.depth + 1 < recursionLimit)
    (hq : ∀ x dx h' tk, Fr h₀ L h' m → News h₀ L h' ((x, instObj 541 dx) :: (dx, emptyDict) :: news) → (∀ p ∈ news, p.1 < dx) → dx < x →
      codeG (model pw w) (A.under (.builtin "type.__call__" ⟨[.ref 541, .bytes b u], []⟩)) (.call (.ref 328) ⟨[.ref x, .bytes b u], []⟩) (InitBack x R) { s with heap := h', toks := tk }) :
    codeG (model pw w) A (.call (.ref 541) ⟨[.bytes b u], []⟩) R s := by
  obtain ⟨hp, gg, dd, tt, oo⟩ := s
  have Xs : (KK w.params).In hp := X.keeps F.keep
  refine codeG_tree_any ?_
  show wpAny _ _ (callAny (.ref 541) _) _ _ _
  refine nd_load (Xs _ _ (kk541 _)) ?_
  show wpAny _ _ (callAny.viaDunder (.ref 541) _) _ _ _
  unfold callAny.viaDunder
  refine wpAny_bind ((Looks.of_peek Xs (io_call _)).here ?_)
  dsimp only
  rw [tc_bind]
  refine wpAny_bind (wpAny_pure (wpAny_bind (wpAny_pure ?_)))
  refine wpAny_pure (a := PySem.Fin.again (.call (.builtin "type.__call__") ⟨[.ref 541, .bytes b u], []⟩)) (And.intro rfl ?_)
  refine codeG_call_builtin (good_id _ (by decide +kernel)) (Code.quiet_builtin _ (by decide +kernel)) entry_typeCall (check_slot tc_kind tc_split (Looks.of_peek Xs (io_typ _)) (tc_args _ _ _) ?_)
  unfold Builtin.«type.__call__»
  dsimp only
  refine gif_false rfl ?_
  refine wpG_ahead ((Looks.of_peek Xs (io_mro _)).here ?_)
  refine gif_false rfl ?_
  refine wpG_ahead ((Looks.of_peek Xs (io_madeBy _)).here ?_)
  dsimp only
  refine wpG_ahead (io_get F X hh ?_)
  refine wpG_ahead (wpAny_holding (new_io (hA := hA) hh B F X N T hk hd fun h' tk x dx F' N' l1 l2 => ?_))
  have Xn : (KK w.params).In h' := X.keeps F'.keep
  have hx := (N' _ (.head _)).1
  have t1 : Looks (model pw w) h' (typeOf (.ref x)) (.ref 541) := (Looks.ld hx).andThen .now
  have s1 := Looks.of_peek (M := model pw w) Xn (io_sub _)
  have i1 := Looks.of_peek (M := model pw w) Xn (io_init _)
  have b1 := bind_fn (M := model pw w) Xn (.ref x) (io_bind _)
  refine wpG_ahead ?_
  unfold isInstance
  refine wpAny_bind (t1.here ?_)
  refine s1.here ?_
  refine gif_false rfl ?_
  refine wpG_bind (wpG_holding ?_)
  unfold callSpecial? specialOf
  refine wpG_ahead (wpAny_bind (t1.here (i1.here ?_)))
  dsimp only
  refine wpG_holding (wpG_ahead (b1.here ?_))
  dsimp only
  refine wpG_first (wpG_call (codeG_mono (hq x dx h' tk F' N' l1 l2) fun r s₂ hr2 => ?_))
  rcases r with e | fl
  · exact hr2
  cases fl with
  | ret v =>
    obtain ⟨rfl, hq⟩ := hr2
    refine wpAny_pure ?_
    refine gif_false rfl ?_
    exact wpG_pure hq
  | _ => exact hr2.elim
end
end
end Mine
namespace Mine
section
open PySem PySem.W PySem.Calls PyProof.Rows
set_option maxHeartbeats 4000000
set_option compiler.extract_closed false
theorem rotN {h₀ h : Heap} {L : Addr} {x y z : Addr × Obj} {n : List (Addr × Obj)} (N : News h₀ L h (x :: y :: z :: n)) : News h₀ L h (y :: z :: x :: n) := fun p hp => N p (by
  simp only [List.mem_cons] at hp ⊢
  rcases hp with h | h | h | h <;> simp [h])
section
variable {w : World} {p : Program} {loose : List PySem.Str} {mean : ExcName → Option Value} {mg mb : PySem.Str → Option Value} {cn : PySem.Str} {cs : Scope} {a : Addr} {ccd : Value} {cl : List (PySem.Str × Addr)} {outer : List Env} {A A₀ : Around} {base h₀ : Heap} {L : Addr} {m : PySem.Str → Option Value} {news : List (Addr × Obj)} {s : Shared}
    {E : Value → Shared → Prop} {R : Result → Shared → Prop}
theorem initIO {x dx : Addr} {b : Array UInt8} {u : Tok} (hA : A.frames = some (envX cn cs L a ccd cl :: outer)) (hh : A.handled = none)
    (B : Below A₀ base outer h₀) (F : Fr h₀ L s.heap m) (X : (KK w.params).In h₀) (N : News h₀ L s.heap ((x, instObj 541 dx) :: (dx, emptyDict) :: news)) (T : Top p loose mean mg mb h₀) (hk : cs.kind = .function) (hd : A.depth + 5 < recursionLimit) (hu : A.units + 50 < cLine)
    (hz : b.size ≤ 1000) (off : OwnOff news [x, dx]) (hne : @Ne Nat x dx)
    (hq : ∀ ba h' tk k1 k2 t, Fr h₀ L h' m → News h₀ L h' ((x, instOf 541 dx) :: (dx, ioD w.params ba 0 k1 k2 t) :: (ba, baObj b) :: news) → (∀ p ∈ news, p.1 < ba) → @LT.lt Nat _ x ba → @LT.lt Nat _ dx ba → R (.ok (.ret (.ref x))) { s with heap := h', toks := tk }) :
    codeG (model pw w) A (.call (.ref 328) ⟨[.ref x, .bytes b u], []⟩) (InitBack x R) s := by
  k_dflt (refine' codeG_def ?k1 ?k2 ?k3 ?k4 ?k5 ?kA ?kF ?kK ?k6 ?k7 ?k8 ?k9 ?kB ?_ ?c2 ?c3 ?c4 ?c5; (case kA => exact hA); (case kF => exact rfl); (case kK => assumption); (case k1 => k_asm); (case k2 => k_asm); (case k3 => k_asm); (case k4 => k_asm); (case k5 => k_asm); (case k6 => k_is); (case k7 => k_is); (case k8 => omega); (case k9 => first | exact BindsTo.of_eq rfl | exact binds_K (by k_in) rfl (by k_is) rfl rfl rfl); (case c5 => decide); (case kB => exact locs rfl); (case c2 => exact rfl); (case c3 => exact rfl); (case c4 => exact rfl); k_whole; intro g' L' h' FG' F' N' B' X' T'; (try dsimp only); (try k_fold))
  refine execsG_cons (wpG_any ?_)
  (repeat' (first | (k_unfold; (try dsimp only)) | (k_end; kc_close) | (k_here; (with_reducible show wpAny _ _ (call (Value.type "type") [Value.bytes _ _]) _ _ _); refine call_type_of (PySem.W.typeIs_bytes _ _ _) (by decide) ?_) | walk1 | (dsimp only; walk1) | (leave1; (try dsimp only)) | fail "no step"))
  refine execsG_cons (execG_Attr (G_IfExp ?_))
  (repeat' (first | (k_unfold; (try dsimp only)) | (k_end; kc_close) | (k_here; (with_reducible show wpAny _ _ (call (Value.type "type") [Value.bytes _ _]) _ _ _); refine call_type_of (PySem.W.typeIs_bytes _ _ _) (by decide) ?_) | walk1 | (dsimp only; walk1) | (leave1; (try dsimp only)) | fail "no step"))
  refine G_Call ?_
  (repeat' (first | (k_unfold; (try dsimp only)) | (k_end; kc_close) | (k_here; (with_reducible show wpAny _ _ (call (Value.type "type") [Value.bytes _ _]) _ _ _); refine call_type_of (PySem.W.typeIs_bytes _ _ _) (by decide) ?_) | walk1 | (dsimp only; walk1) | (leave1; (try dsimp only)) | fail "no step"))
  refine G_callWithE (P := fun _ => True) (fun h _ => ⟨Keeper.machine, .inr (.inl rfl), Looks.of_pure rfl⟩) (wpG_any ?_)
  (repeat' (first | (k_unfold; (try dsimp only)) | (k_end; kc_close) | (k_here; (with_reducible show wpAny _ _ (call (Value.type "type") [Value.bytes _ _]) _ _ _); refine call_type_of (PySem.W.typeIs_bytes _ _ _) (by decide) ?_) | walk1 | (dsimp only; walk1) | (leave1; (try dsimp only)) | fail "no step"))
  · exact True.intro
  · refine ba_make (b := b) (by k_asm) (by k_asm) (Nat.le_trans hz (by rw [sizeLine_eq]; decide)) fun ba h' F' N' l1 => ?_
    have l0 := l1
    k_lt l1
    (repeat' (first | (k_unfold; (try dsimp only)) | (k_end; kc_close) | (k_here; (with_reducible show wpAny _ _ (call (Value.type "type") [Value.bytes _ _]) _ _ _); refine call_type_of (PySem.W.typeIs_bytes _ _ _) (by decide) ?_) | walk1 | (dsimp only; walk1) | (leave1; (try dsimp only)) | fail "no step"))
    refine wpG_any ?_
    (repeat' (first | (k_unfold; (try dsimp only)) | (k_end; kc_close) | (k_here; (with_reducible show wpAny _ _ (call (Value.type "type") [Value.bytes _ _]) _ _ _); refine call_type_of (PySem.W.typeIs_bytes _ _ _) (by decide) ?_) | walk1 | (dsimp only; walk1) | (leave1; (try dsimp only)) | fail "no step"))
    rename News h₀ _ _ _ => NN
    exact hq ba _ _ _ _ _ (by assumption) (rotN NN) (fun q hq => l0 q (.tail _ (.tail _ hq))) (l0 _ (.head _)) (l0 _ (.tail _ (.head _)))
end
end
end Mine
namespace Mine
section
open PySem PySem.W PySem.Calls PyProof.Rows
set_option maxHeartbeats 8000000
set_option compiler.extract_closed false
local macro_rules | `(tactic| k_room) => `(tactic| ktr_room)
section
variable {w : World} {p : Program} {loose : List PySem.Str} {mean : ExcName → Option Value} {mg mb : PySem.Str → Option Value} {dp un : Nat} {gd : Option (List Code)} {cn : PySem.Str} {cs : Scope} {a : Addr} {ccd : Value} {cl : List (PySem.Str × Addr)} {outer : List Env} {A₀ : Around} {base h₀ : Heap} {L : Addr} {m : PySem.Str → Option Value} {news : List (Addr × Obj)} {s : Shared}
    {Q E : Value → Shared → Prop}
theorem seek_spec {f fd ba : Addr} {pos : Int} {k1 k2 t u : Tok}
    (B : Below A₀ base outer h₀) (F : Fr h₀ L s.heap m) (X : (KK w.params).In h₀) (N : News h₀ L s.heap ((f, instOf 541 fd) :: (fd, ioD w.params ba pos k1 k2 t) :: news)) (T : Top p loose mean mg mb h₀) (hk : cs.kind = .function)
    (off : OwnOff news [f, fd]) (hne1 : @Ne Nat f fd) (hd : dp + 6 < recursionLimit) (hu : un + 120 < cLine)
    (ret : ∀ h' tk t1 t', Fr h₀ L h' m → News h₀ L h' ((f, instOf 541 fd) :: (fd, ioD w.params ba 0 k1 k2 t') :: news) → Q (.int 0 t1) { s with heap := h', toks := tk }) :
    wpAny (model pw w) (ktrTop dp un gd cn cs L a ccd cl outer) (call (.ref 449) [.ref f, .int 0 u]) Q E s := by
  refine wpAny_call ?_
  k_dflt (refine' code_def ?k1 ?k2 ?k3 ?k4 ?k5 ?kA ?kF ?kK ?k6 ?k7 ?k8 ?k9 ?kB ?_ ?c2 ?c3 ?c4 ?c5; (case kA => exact rfl); (case kF => exact rfl); (case kK => assumption); (case k1 => k_asm); (case k2 => k_asm); (case k3 => k_asm); (case k4 => k_asm); (case k5 => k_asm); (case k6 => k_is); (case k7 => k_is); (case k8 => ktr_room); (case k9 => first | exact BindsTo.of_eq rfl | exact binds_K (by k_in) rfl (by k_is) rfl rfl rfl); (case c5 => decide); (case kB => exact locs rfl); (case c2 => exact rfl); (case c3 => exact rfl); (case c4 => exact rfl); k_whole; intro g' L' h' FG' F' N' B' X' T'; (try dsimp only); (try k_fold))
  (repeat' (first | (k_unfold; (try dsimp only)) | (k_end; kc_close) | (k_here; (with_reducible show wpAny _ _ (call (Value.ref 247) _) _ _ _); k_dflt (refine' whence_spec ?kB ?kF ?kX ?kN ?kT ?kk ?k0 ?k1 ?k4 ?k5 (fun h' tk' t' F' N' => ?_); (case kB => k_asm); (case kF => k_asm); (case kX => k_asm); (case kN => k_asm); (case kT => k_asm); (case kk => exact rfl); (case k0 => decide); (case k1 => decide); (case k4 => ktr_room); (case k5 => ktr_room))) | (k_here; (with_reducible show wpAny _ _ (call (Value.ref 254) _) _ _ _); k_dflt (refine' index_spec ?kB ?kF ?kX ?kN ?kT ?kk ?k0 ?k1 ?k4 ?k5 (fun h' tk' t' F' N' => ?_); (case kB => k_asm); (case kF => k_asm); (case kX => k_asm); (case kN => k_asm); (case kT => k_asm); (case kk => exact rfl); (case k0 => decide); (case k1 => decide); (case k4 => ktr_room); (case k5 => ktr_room))) | walk1 | (dsimp only; walk1) | (leave1; (try dsimp only)) | fail "no step"))
  rename News h₀ _ _ _ => NN
  exact ret _ _ _ _ (by assumption) NN
end
end
end Mine
namespace Mine
section
open PySem PySem.W PySem.Calls PyProof.Rows
set_option maxHeartbeats 8000000
set_option compiler.extract_closed false
theorem wReset50 : 1 = 1 := by walk1
local macro_rules | `(tactic| k_room) => `(tactic| ktr_room)
local macro_rules | `(tactic| walk_at "call ref") => `(tactic| (k_here; refine Stop.out ?_))
theorem news_3412 {h₀ h : Heap} {L : Addr} {a b c d : Addr × Obj} {n : List (Addr × Obj)} (N : News h₀ L h (a :: b :: c :: d :: n)) : News h₀ L h (c :: d :: a :: b :: n) :=
  news_sub N (sub_cons (.tail _ (.tail _ (.head _))) (sub_cons (.tail _ (.tail _ (.tail _ (.head _)))) (sub_cons (.head _) (sub_cons (.tail _ (.head _)) fun _ h => .tail _ (.tail _ (.tail _ (.tail _ h)))))))
abbrev kv (P : Params) (x : PySem.Str) (k : Tok) (v : Value) : DictEntry := ⟨PyData.keyHash P x, .str x k, v⟩
abbrev d2 (P : Params) (x : Addr) (a1 a2 : Tok) : Obj := dictOf [kv P "fp" a1 (.ref x), kv P "eof" a2 (.bool false)] 2
abbrev d9 (P : Params) (x : Addr) (a1 a2 a3 b3 a4 b4 a5 b5 a6 : Tok) (q : Addr) (a7 b7 a8 b8 a9 : Tok) (l : Addr) : Obj := dictOf [kv P "fp" a1 (.ref x), kv P "eof" a2 (.bool false), kv P "bufpos" a3 (.int 0 b3), kv P "buf" a4 (.bytes #[] b4), kv P "charpos" a5 (.int 0 b5), kv P "_parse1" a6 (.ref q), kv P "_curtoken" a7 (.bytes #[] b7), kv P "_curtokenpos" a8 (.int 0 b8), kv P "_tokens" a9 (.ref l)] 9
abbrev d13 (P : Params) (x : Addr) (a1 a2 a3 b3 a4 b4 a5 b5 a6 : Tok) (q : Addr) (a7 b7 a8 b8 a9 : Tok) (l : Addr) (c1 c2 c3 c4 : Tok) (l1 l2 l3 : Addr) : Obj := dictOf [kv P "fp" a1 (.ref x), kv P "eof" a2 (.bool false), kv P "bufpos" a3 (.int 0 b3), kv P "buf" a4 (.bytes #[] b4), kv P "charpos" a5 (.int 0 b5), kv P "_parse1" a6 (.ref q), kv P "_curtoken" a7 (.bytes #[] b7), kv P "_curtokenpos" a8 (.int 0 b8), kv P "_tokens" a9 (.ref l), kv P "context" c1 (.ref l1), kv P "curtype" c2 .none, kv P "curstack" c3 (.ref l2), kv P "results" c4 (.ref l3)] 13
section
variable {w : World} {p : Program} {loose : List PySem.Str} {mean : ExcName → Option Value} {mg mb : PySem.Str → Option Value} {dp un : Nat} {gd : Option (List Code)} {cn : PySem.Str} {cs : Scope} {a : Addr} {ccd : Value} {cl : List (PySem.Str × Addr)} {outer : List Env} {A₀ : Around} {base h₀ : Heap} {L : Addr} {m : PySem.Str → Option Value} {news : List (Addr × Obj)} {s : Shared}
    {Q E : Value → Shared → Prop} {P dP x dx ba q l l1 l2 l3 : Addr} {a1 a2 a3 b3 a4 b4 a5 b5 a6 a7 b7 a8 b8 a9 c1 c2 c3 c4 k1 k2 t u : Tok}
theorem reset1_spec (B : Below A₀ base outer h₀) (F : Fr h₀ L s.heap m) (X : (KK w.params).In h₀) (N : News h₀ L s.heap ((P, instObj 1419 dP) :: (dP, d9 w.params x a1 a2 a3 b3 a4 b4 a5 b5 a6 q a7 b7 a8 b8 a9 l) :: news)) (T : Top p loose mean mg mb h₀) (hk : cs.kind = .function)
    (off : OwnOff news [P, dP]) (n1 : @Ne Nat P dP) (hd : dp + 3 < recursionLimit) (hu : un + 40 < cLine)
    (ret : ∀ h' tk c1 c2 c3 c4 l1 l2 l3, Fr h₀ L h' m → News h₀ L h' ((P, instObj 1419 dP) :: (dP, d13 w.params x a1 a2 a3 b3 a4 b4 a5 b5 a6 q a7 b7 a8 b8 a9 l c1 c2 c3 c4 l1 l2 l3) :: news) → Q .none { s with heap := h', toks := tk }) :
    wpAny (model pw w) (ktrTop dp un gd cn cs L a ccd cl outer) (call (.ref 1266) [.ref P]) Q E s := by
  have n1' := n1.symm
  refine wpAny_call ?_
  k_dflt ktr_enter
  (repeat' (first | (with_reducible refine tok_add ?_; intro _) | (k_unfold; (try dsimp only)) | (k_end; kc_close) | (walk1; (try (rename News _ _ _ _ => N9; dsimp only at N9))) | (dsimp only; walk1) | (leave1; (try dsimp only)) | fail "no step"))
  rename News h₀ _ _ _ => NN
  exact ret _ _ _ _ _ _ _ _ _ (by assumption) (news_sub NN (by ((repeat (refine sub_cons (by repeat (first | exact List.Mem.head _ | refine List.Mem.tail _ ?_)) ?_)); first | exact sub_nil | (intro q hq; repeat (first | exact hq | refine List.Mem.tail _ ?_)))))
theorem reset2_spec (B : Below A₀ base outer h₀) (F : Fr h₀ L s.heap m) (X : (KK w.params).In h₀) (N : News h₀ L s.heap ((P, instObj 1419 dP) :: (dP, d13 w.params x a1 a2 a3 b3 a4 b4 a5 b5 a6 q a7 b7 a8 b8 a9 l c1 c2 c3 c4 l1 l2 l3) :: news)) (T : Top p loose mean mg mb h₀) (hk : cs.kind = .function)
    (off : OwnOff news [P, dP]) (n1 : @Ne Nat P dP) (hd : dp + 3 < recursionLimit) (hu : un + 40 < cLine)
    (ret : ∀ h' tk c1' c2' c3' c4' l1' l2' l3', Fr h₀ L h' m → News h₀ L h' ((P, instObj 1419 dP) :: (dP, d13 w.params x a1 a2 a3 b3 a4 b4 a5 b5 a6 q a7 b7 a8 b8 a9 l c1' c2' c3' c4' l1' l2' l3') :: news) → Q .none { s with heap := h', toks := tk }) :
    wpAny (model pw w) (ktrTop dp un gd cn cs L a ccd cl outer) (call (.ref 1266) [.ref P]) Q E s := by
  have n1' := n1.symm
  refine wpAny_call ?_
  k_dflt ktr_enter
  (repeat' (first | (with_reducible refine tok_add ?_; intro _) | (k_unfold; (try dsimp only)) | (k_end; kc_close) | (walk1; (try (rename News _ _ _ _ => N9; dsimp only at N9))) | (dsimp only; walk1) | (leave1; (try dsimp only)) | fail "no step"))
  rename News h₀ _ _ _ => NN
  exact ret _ _ _ _ _ _ _ _ _ (by assumption) (news_sub NN (by ((repeat (refine sub_cons (by repeat (first | exact List.Mem.head _ | refine List.Mem.tail _ ?_)) ?_)); first | exact sub_nil | (intro q hq; repeat (first | exact hq | refine List.Mem.tail _ ?_)))))
theorem bseek_spec (B : Below A₀ base outer h₀) (F : Fr h₀ L s.heap m) (X : (KK w.params).In h₀) (N : News h₀ L s.heap ((P, instObj 1419 dP) :: (dP, d2 w.params x a1 a2) :: (x, instOf 541 dx) :: (dx, ioD w.params ba 0 k1 k2 t) :: news)) (T : Top p loose mean mg mb h₀) (hk : cs.kind = .function)
    (off : OwnOff news [P, dP, x, dx]) (y1 : @LT.lt Nat _ dP P) (y2 : @LT.lt Nat _ P dx) (y3 : @LT.lt Nat _ dx x) (hd : dp + 8 < recursionLimit) (hu : un + 140 < cLine)
    (ret : ∀ h' tk t' a3 b3 a4 b4 a5 b5 a6 q a7 b7 a8 b8 a9 l, Fr h₀ L h' m → News h₀ L h' ((P, instObj 1419 dP) :: (dP, d9 w.params x a1 a2 a3 b3 a4 b4 a5 b5 a6 q a7 b7 a8 b8 a9 l) :: (x, instOf 541 dx) :: (dx, ioD w.params ba 0 k1 k2 t') :: news) → Q .none { s with heap := h', toks := tk }) :
    wpAny (model pw w) (ktrTop dp un gd cn cs L a ccd cl outer) (call (.ref 1119) [.ref P, .int 0 u]) Q E s := by
  have n1 : @Ne Nat P dP := Nat.ne_of_gt y1
  have n2 : @Ne Nat P dx := Nat.ne_of_lt y2
  have n3 : @Ne Nat P x := Nat.ne_of_lt (Nat.lt_trans y2 y3)
  have n4 : @Ne Nat dP dx := Nat.ne_of_lt (Nat.lt_trans y1 y2)
  have n5 : @Ne Nat dP x := Nat.ne_of_lt (Nat.lt_trans y1 (Nat.lt_trans y2 y3))
  have n6 : @Ne Nat x dx := Nat.ne_of_gt y3
  have n1' := n1.symm
  have n2' := n2.symm
  have n3' := n3.symm
  have n4' := n4.symm
  have n5' := n5.symm
  have n6' := n6.symm
  refine wpAny_call ?_
  k_dflt ktr_enter
  k_steps
  refine Stop.mk ?_
  rename News _ _ _ _ => NN
  k_dflt (refine' seek_spec ?kB ?kF ?kX (news_3412 NN) ?kT ?kk ?ko n6 ?hd ?hu (fun h' tk' t1' t' F' N' => ?_); (case kB => k_asm); (case kF => k_asm); (case kX => k_asm); (case kT => k_asm); (case kk => exact rfl); (case hd => ktr_room); (case hu => ktr_units); (case ko => exact (off_cons (ne_cons n3 (ne_cons n2 ne_nil)) (off_cons (ne_cons n5 (ne_cons n4 ne_nil)) (off_sub off (sub_cons (.tail _ (.tail _ (.head _))) (sub_cons (.tail _ (.tail _ (.tail _ (.head _)))) sub_nil)))))))
  (repeat' (first | (with_reducible refine tok_add ?_; intro _) | (k_unfold; (try dsimp only)) | (k_end; kc_close) | (walk1; (try (rename News _ _ _ _ => N9; dsimp only at N9))) | (dsimp only; walk1) | (leave1; (try dsimp only)) | fail "no step"))
  rename News h₀ _ _ _ => NN
  exact ret _ _ _ _ _ _ _ _ _ _ _ _ _ _ _ _ _ (by assumption) (news_sub NN (by ((repeat (refine sub_cons (by repeat (first | exact List.Mem.head _ | refine List.Mem.tail _ ?_)) ?_)); first | exact sub_nil | (intro q hq; repeat (first | exact hq | refine List.Mem.tail _ ?_)))))
theorem sseek_spec (B : Below A₀ base outer h₀) (F : Fr h₀ L s.heap m) (X : (KK w.params).In h₀) (N : News h₀ L s.heap ((P, instObj 1419 dP) :: (dP, d2 w.params x a1 a2) :: (x, instOf 541 dx) :: (dx, ioD w.params ba 0 k1 k2 t) :: news)) (T : Top p loose mean mg mb h₀) (hk : cs.kind = .function)
    (off : OwnOff news [P, dP, x, dx]) (y1 : @LT.lt Nat _ dP P) (y2 : @LT.lt Nat _ P dx) (y3 : @LT.lt Nat _ dx x) (hd : dp + 10 < recursionLimit) (hu : un + 150 < cLine)
    (ret : ∀ h' tk t' a3 b3 a4 b4 a5 b5 a6 q a7 b7 a8 b8 a9 l c1 c2 c3 c4 l1 l2 l3, Fr h₀ L h' m → News h₀ L h' ((P, instObj 1419 dP) :: (dP, d13 w.params x a1 a2 a3 b3 a4 b4 a5 b5 a6 q a7 b7 a8 b8 a9 l c1 c2 c3 c4 l1 l2 l3) :: (x, instOf 541 dx) :: (dx, ioD w.params ba 0 k1 k2 t') :: news) → Q .none { s with heap := h', toks := tk }) :
    wpAny (model pw w) (ktrTop dp un gd cn cs L a ccd cl outer) (call (.ref 1273) [.ref P, .int 0 u]) Q E s := by
  have n1 : @Ne Nat P dP := Nat.ne_of_gt y1
  have n2 : @Ne Nat P dx := Nat.ne_of_lt y2
  have n3 : @Ne Nat P x := Nat.ne_of_lt (Nat.lt_trans y2 y3)
  have n4 : @Ne Nat dP dx := Nat.ne_of_lt (Nat.lt_trans y1 y2)
  have n5 : @Ne Nat dP x := Nat.ne_of_lt (Nat.lt_trans y1 (Nat.lt_trans y2 y3))
  have n6 : @Ne Nat x dx := Nat.ne_of_gt y3
  refine wpAny_call ?_
  k_dflt ktr_enter
  k_steps
  refine Stop.mk ?_
  rename News _ _ _ _ => NN
  k_dflt (refine' bseek_spec ?kB ?kF ?kX NN ?kT ?kk off y1 y2 y3 ?hd ?hu (fun h' tk' t1' a3 b3 a4 b4 a5 b5 a6 q a7 b7 a8 b8 a9 l F' N' => ?_); (case kB => k_asm); (case kF => k_asm); (case kX => k_asm); (case kT => k_asm); (case kk => exact rfl); (case hd => ktr_room); (case hu => ktr_units))
  k_steps
  refine Stop.mk ?_
  rename News _ _ _ _ => NN
  k_dflt (refine' reset1_spec ?kB ?kF ?kX NN ?kT ?kk (off_cons (ne_cons n3.symm (ne_cons n5.symm ne_nil)) (off_cons (ne_cons n2.symm (ne_cons n4.symm ne_nil)) (off_sub off (sub_cons (.head _) (sub_cons (.tail _ (.head _)) sub_nil))))) n1 ?hd ?hu (fun h' tk' c1 c2 c3 c4 l1 l2 l3 F' N' => ?_); (case kB => k_asm); (case kF => k_asm); (case kX => k_asm); (case kT => k_asm); (case kk => exact rfl); (case hd => ktr_room); (case hu => ktr_units))
  k_steps
  rename News h₀ _ _ _ => NN
  exact ret _ _ _ _ _ _ _ _ _ _ _ _ _ _ _ _ _ _ _ _ _ _ _ _ (by assumption) NN
theorem binit_spec (B : Below A₀ base outer h₀) (F : Fr h₀ L s.heap m) (X : (KK w.params).In h₀) (N : News h₀ L s.heap ((P, instObj 1419 dP) :: (dP, emptyDict) :: (x, instOf 541 dx) :: (dx, ioD w.params ba 0 k1 k2 t) :: news)) (T : Top p loose mean mg mb h₀) (hk : cs.kind = .function)
    (off : OwnOff news [P, dP, x, dx]) (y1 : @LT.lt Nat _ dP P) (y2 : @LT.lt Nat _ P dx) (y3 : @LT.lt Nat _ dx x) (hd : dp + 12 < recursionLimit) (hu : un + 165 < cLine)
    (ret : ∀ h' tk t' a1 a2 a3 b3 a4 b4 a5 b5 a6 q a7 b7 a8 b8 a9 l c1 c2 c3 c4 l1 l2 l3, Fr h₀ L h' m → News h₀ L h' ((P, instObj 1419 dP) :: (dP, d13 w.params x a1 a2 a3 b3 a4 b4 a5 b5 a6 q a7 b7 a8 b8 a9 l c1 c2 c3 c4 l1 l2 l3) :: (x, instOf 541 dx) :: (dx, ioD w.params ba 0 k1 k2 t') :: news) → Q .none { s with heap := h', toks := tk }) :
    wpAny (model pw w) (ktrTop dp un gd cn cs L a ccd cl outer) (call (.ref 1098) [.ref P, .ref x]) Q E s := by
  have n1 : @Ne Nat P dP := Nat.ne_of_gt y1
  have n2 : @Ne Nat P dx := Nat.ne_of_lt y2
  have n3 : @Ne Nat P x := Nat.ne_of_lt (Nat.lt_trans y2 y3)
  have n4 : @Ne Nat dP dx := Nat.ne_of_lt (Nat.lt_trans y1 y2)
  have n5 : @Ne Nat dP x := Nat.ne_of_lt (Nat.lt_trans y1 (Nat.lt_trans y2 y3))
  have n6 : @Ne Nat x dx := Nat.ne_of_gt y3
  have n1' := n1.symm
  have n2' := n2.symm
  have n3' := n3.symm
  have n4' := n4.symm
  have n5' := n5.symm
  have n6' := n6.symm
  refine wpAny_call ?_
  k_dflt ktr_enter
  k_steps
  refine Stop.mk ?_
  rename News _ _ _ _ => NN
  k_dflt (refine' sseek_spec ?kB ?kF ?kX NN ?kT ?kk off y1 y2 y3 ?hd ?hu (fun h' tk' t1' a3 b3 a4 b4 a5 b5 a6 q a7 b7 a8 b8 a9 l c1 c2 c3 c4 l1 l2 l3 F' N' => ?_); (case kB => k_asm); (case kF => k_asm); (case kX => k_asm); (case kT => k_asm); (case kk => exact rfl); (case hd => ktr_room); (case hu => ktr_units))
  k_steps
  rename News h₀ _ _ _ => NN
  exact ret _ _ _ _ _ _ _ _ _ _ _ _ _ _ _ _ _ _ _ _ _ _ _ _ _ _ (by assumption) NN
theorem sinit_spec (B : Below A₀ base outer h₀) (F : Fr h₀ L s.heap m) (X : (KK w.params).In h₀) (N : News h₀ L s.heap ((P, instObj 1419 dP) :: (dP, emptyDict) :: (x, instOf 541 dx) :: (dx, ioD w.params ba 0 k1 k2 t) :: news)) (T : Top p loose mean mg mb h₀) (hk : cs.kind = .function)
    (off : OwnOff news [P, dP, x, dx]) (y1 : @LT.lt Nat _ dP P) (y2 : @LT.lt Nat _ P dx) (y3 : @LT.lt Nat _ dx x) (hd : dp + 13 < recursionLimit) (hu : un + 175 < cLine)
    (ret : ∀ h' tk t' a1 a2 a3 b3 a4 b4 a5 b5 a6 q a7 b7 a8 b8 a9 l c1 c2 c3 c4 l1 l2 l3, Fr h₀ L h' m → News h₀ L h' ((P, instObj 1419 dP) :: (dP, d13 w.params x a1 a2 a3 b3 a4 b4 a5 b5 a6 q a7 b7 a8 b8 a9 l c1 c2 c3 c4 l1 l2 l3) :: (x, instOf 541 dx) :: (dx, ioD w.params ba 0 k1 k2 t') :: news) → Q .none { s with heap := h', toks := tk }) :
    wpAny (model pw w) (ktrTop dp un gd cn cs L a ccd cl outer) (call (.ref 1259) [.ref P, .ref x]) Q E s := by
  have n1 : @Ne Nat P dP := Nat.ne_of_gt y1
  have n2 : @Ne Nat P dx := Nat.ne_of_lt y2
  have n3 : @Ne Nat P x := Nat.ne_of_lt (Nat.lt_trans y2 y3)
  have n4 : @Ne Nat dP dx := Nat.ne_of_lt (Nat.lt_trans y1 y2)
  have n5 : @Ne Nat dP x := Nat.ne_of_lt (Nat.lt_trans y1 (Nat.lt_trans y2 y3))
  have n6 : @Ne Nat x dx := Nat.ne_of_gt y3
  refine wpAny_call ?_
  k_dflt ktr_enter
  k_steps
  refine Stop.mk ?_
  rename News _ _ _ _ => NN
  k_dflt (refine' binit_spec ?kB ?kF ?kX NN ?kT ?kk off y1 y2 y3 ?hd ?hu (fun h' tk' t1' a1 a2 a3 b3 a4 b4 a5 b5 a6 q a7 b7 a8 b8 a9 l c1 c2 c3 c4 l1 l2 l3 F' N' => ?_); (case kB => k_asm); (case kF => k_asm); (case kX => k_asm); (case kT => k_asm); (case kk => exact rfl); (case hd => ktr_room); (case hu => ktr_units))
  k_steps
  refine Stop.mk ?_
  rename News _ _ _ _ => NN
  k_dflt (refine' reset2_spec ?kB ?kF ?kX NN ?kT ?kk (off_cons (ne_cons n3.symm (ne_cons n5.symm ne_nil)) (off_cons (ne_cons n2.symm (ne_cons n4.symm ne_nil)) (off_sub off (sub_cons (.head _) (sub_cons (.tail _ (.head _)) sub_nil))))) n1 ?hd ?hu (fun h' tk' c1' c2' c3' c4' l1' l2' l3' F' N' => ?_); (case kB => k_asm); (case kF => k_asm); (case kX => k_asm); (case kT => k_asm); (case kk => exact rfl); (case hd => ktr_room); (case hu => ktr_units))
  k_steps
  rename News h₀ _ _ _ => NN
  exact ret _ _ _ _ _ _ _ _ _ _ _ _ _ _ _ _ _ _ _ _ _ _ _ _ _ _ (by assumption) NN
theorem pinit_spec (B : Below A₀ base outer h₀) (F : Fr h₀ L s.heap m) (X : (KK w.params).In h₀) (N : News h₀ L s.heap ((P, instObj 1419 dP) :: (dP, emptyDict) :: (x, instOf 541 dx) :: (dx, ioD w.params ba 0 k1 k2 t) :: news)) (T : Top p loose mean mg mb h₀) (hk : cs.kind = .function)
    (off : OwnOff news [P, dP, x, dx]) (y1 : @LT.lt Nat _ dP P) (y2 : @LT.lt Nat _ P dx) (y3 : @LT.lt Nat _ dx x) (hd : dp + 15 < recursionLimit) (hu : un + 190 < cLine)
    (ret : ∀ h' tk t' hf kf es n, Fr h₀ L h' m → News h₀ L h' ((P, instObj 1419 dP) :: (dP, dictOf (⟨hf, .str "fp" kf, .ref x⟩ :: es) n) :: (x, instOf 541 dx) :: (dx, ioD w.params ba 0 k1 k2 t') :: news) → Q .none { s with heap := h', toks := tk }) :
    wpAny (model pw w) (ktrTop dp un gd cn cs L a ccd cl outer) (call (.ref 1348) [.ref P, .ref x]) Q E s := by
  have n1 : @Ne Nat P dP := Nat.ne_of_gt y1
  have n2 : @Ne Nat P dx := Nat.ne_of_lt y2
  have n3 : @Ne Nat P x := Nat.ne_of_lt (Nat.lt_trans y2 y3)
  have n4 : @Ne Nat dP dx := Nat.ne_of_lt (Nat.lt_trans y1 y2)
  have n5 : @Ne Nat dP x := Nat.ne_of_lt (Nat.lt_trans y1 (Nat.lt_trans y2 y3))
  have n6 : @Ne Nat x dx := Nat.ne_of_gt y3
  have n1' := n1.symm
  have n2' := n2.symm
  have n3' := n3.symm
  have n4' := n4.symm
  have n5' := n5.symm
  have n6' := n6.symm
  refine wpAny_call ?_
  k_dflt ktr_enter
  k_steps
  refine Stop.mk ?_
  rename News _ _ _ _ => NN
  k_dflt (refine' sinit_spec ?kB ?kF ?kX NN ?kT ?kk off y1 y2 y3 ?hd ?hu (fun h' tk' t1' a1 a2 a3 b3 a4 b4 a5 b5 a6 q a7 b7 a8 b8 a9 l c1 c2 c3 c4 l1 l2 l3 F' N' => ?_); (case kB => k_asm); (case kF => k_asm); (case kX => k_asm); (case kT => k_asm); (case kk => exact rfl); (case hd => ktr_room); (case hu => ktr_units))
  (repeat' (first | (with_reducible refine tok_add ?_; intro _) | (k_unfold; (try dsimp only)) | (k_end; kc_close) | (walk1; (try (rename News _ _ _ _ => N9; dsimp only at N9))) | (dsimp only; walk1) | (leave1; (try dsimp only)) | fail "no step"))
  rename News h₀ _ _ _ => NN
  exact ret _ _ _ _ _ _ _ (by assumption) (news_sub NN (by ((repeat (refine sub_cons (by repeat (first | exact List.Mem.head _ | refine List.Mem.tail _ ?_)) ?_)); first | exact sub_nil | (intro q hq; repeat (first | exact hq | refine List.Mem.tail _ ?_)))))
end
end
end Mine
namespace Mine
section
open PySem PySem.W PySem.Calls PyProof.Rows
set_option maxHeartbeats 8000000
set_option compiler.extract_closed false
theorem wReset51 : 1 = 1 := by walk1
local macro_rules | `(tactic| k_room) => `(tactic| ktr_room)
local macro_rules | `(tactic| walk_at "call ref") => `(tactic| (k_here; (with_reducible show wpAny _ _ (call (Value.ref 1348) _) _ _ _); refine Stop.out ?_))
section
variable {w : World} {p : Program} {loose : List PySem.Str} {mean : ExcName → Option Value} {mg mb : PySem.Str → Option Value} {cn : PySem.Str} {cs : Scope} {a : Addr} {ccd : Value} {cl : List (PySem.Str × Addr)} {outer : List Env} {A A₀ : Around} {base h₀ : Heap} {L : Addr} {m : PySem.Str → Option Value} {news : List (Addr × Obj)} {s : Shared}
    {Q E : Value → Shared → Prop} {R : Result → Shared → Prop}
theorem io_G {b : Array UInt8} {u : Tok} (hA : A.frames = some (envX cn cs L a ccd cl :: outer)) (hh : A.handled = none)
    (B : Below A₀ base outer h₀) (F : Fr h₀ L s.heap m) (X : (KK w.params).In h₀) (N : News h₀ L s.heap news) (T : Top p loose mean mg mb h₀) (hk : cs.kind = .function) (hd : A.depth + 6 < recursionLimit) (hu : A.units + 51 < cLine) (hz : b.size ≤ 1000)
    (ret : ∀ x dx ba h' tk k1 k2 t, Fr h₀ L h' m → News h₀ L h' ((x, instOf 541 dx) :: (dx, ioD w.params ba 0 k1 k2 t) :: (ba, baObj b) :: news) → (∀ p ∈ news, p.1 < dx) → @LT.lt Nat _ dx x → @LT.lt Nat _ x ba → Q (.ref x) { s with heap := h', toks := tk }) :
    wpG (model pw w) A (call (.ref 541) [.bytes b u]) Q E s := by
  refine wpG_call (makeIO hA hh B F X N T hk (by (first | lia | omega)) fun x dx h' tk F' N' l1 l2 => ?_)
  refine initIO hA hh B F' X N' T hk (by rw [depth_under_make]; omega) (by rw [units_under_make]; omega) hz ?_ (Nat.ne_of_gt l2) fun ba h'' tk' k1 k2 t F'' N'' l3 l4 l5 => ret x dx ba h'' tk' k1 k2 t F'' N'' l1 l2 l4
  intro q hq b hb
  simp only [List.mem_cons, List.not_mem_nil, or_false] at hb
  rcases hb with rfl | rfl
  · exact Nat.ne_of_lt (Nat.lt_trans (l1 q hq) l2)
  · exact Nat.ne_of_lt (l1 q hq)
theorem news5 {h₀ h : Heap} {L : Addr} {a b c d e : Addr × Obj} {l n : List (Addr × Obj)} (N : News h₀ L h l) (h1 : a ∈ l) (h2 : b ∈ l) (h3 : c ∈ l) (h4 : d ∈ l) (h5 : e ∈ l) (h6 : ∀ q ∈ n, q ∈ l) : News h₀ L h (a :: b :: c :: d :: e :: n) := fun q hq => N q (by
  simp only [List.mem_cons] at hq
  rcases hq with rfl | rfl | rfl | rfl | rfl | hq <;> first | assumption | exact h6 q hq)
theorem psp_G {dp un : Nat} {gd : Option (List Code)} {b : Array UInt8} {u : Tok} 
    (B : Below A₀ base outer h₀) (F : Fr h₀ L s.heap m) (X : (KK w.params).In h₀) (N : News h₀ L s.heap news) (T : Top p loose mean mg mb h₀) (hk : cs.kind = .function) (hd : dp + 20 < recursionLimit) (hu : un + 200 < cLine) (hz : b.size ≤ 1000)
    (ret : ∀ P dP x dx ba h' tk k1 k2 t hf kf es n, Fr h₀ L h' m → News h₀ L h' ((P, instObj 1419 dP) :: (dP, dictOf (⟨hf, .str "fp" kf, .ref x⟩ :: es) n) :: (x, instOf 541 dx) :: (dx, ioD w.params ba 0 k1 k2 t) :: (ba, baObj b) :: news) → (∀ p ∈ news, p.1 < dP) → @LT.lt Nat _ dP P → @LT.lt Nat _ P dx → @LT.lt Nat _ dx x → @LT.lt Nat _ x ba → Q (.ref P) { s with heap := h', toks := tk }) :
    wpG (model pw w) (ktrTop dp un gd cn cs L a ccd cl outer) (call (.ref 1419) [.bytes b u]) Q E s := by
  refine wpG_call ?_
  obtain ⟨hh', g, d, t, os⟩ := s
  have Xs := X.keeps F.keep
  refine makeG_core (init := .ref 1399) (makes_of Xs (by k_is)) (looks_findIn Xs (by k_is)) (fun self => bind_fn Xs self (by k_is)) (by decide) ?_
  have N1 := (N.push F emptyDict).push (F.push _) (instObj 1419 hh'.objs.size)
  rw [Heap.size_push] at N1
  have F1 := (F.push emptyDict).push (instObj 1419 hh'.objs.size)
  have l1 : ∀ p ∈ news, p.1 < hh'.objs.size := fun p hp => Heap.lt_size (N p hp).1
  have l0 := l1
  have l2 : hh'.objs.size < hh'.objs.size + 1 := Nat.lt_succ_self hh'.objs.size
  generalize hP : hh'.objs.size + 1 = P at *
  generalize hdP : hh'.objs.size = dP at *
  generalize (hh'.push emptyDict).push (instObj 1419 dP) = hp at *
  clear hP hdP
  have off : OwnOff news [P, dP] := fun q hq b hb => by
    simp only [List.mem_cons, List.not_mem_nil, or_false] at hb
    rcases hb with rfl | rfl
    · exact Nat.ne_of_lt (Nat.lt_trans (l1 q hq) l2)
    · exact Nat.ne_of_lt (l1 q hq)
  have n1 : @Ne Nat P dP := Nat.ne_of_gt l2
  k_dflt (refine' codeG_def ?k1 ?k2 ?k3 ?k4 ?k5 ?kA ?kF ?kK ?k6 ?k7 ?k8 ?k9 ?kB ?_ ?c2 ?c3 ?c4 ?c5; (case kA => exact rfl); (case kF => exact rfl); (case kK => assumption); (case k1 => k_asm); (case k2 => k_asm); (case k3 => k_asm); (case k4 => k_asm); (case k5 => k_asm); (case k6 => k_is); (case k7 => k_is); (case k8 => (rw [depth_under_make]; show dp + 1 < _; omega)); (case k9 => first | exact BindsTo.of_eq rfl | exact binds_K (by k_in) rfl (by k_is) rfl rfl rfl); (case c5 => decide); (case kB => exact locs rfl); (case c2 => exact rfl); (case c3 => exact rfl); (case c4 => exact rfl); k_whole; intro g' L' h' FG' F' N' B' X' T'; (try dsimp only); (try k_fold))
  refine execsG_cons (execG_Expr (G_MethodCall (pl := _) ?_))
  show wpAny _ _ (eval (.Name _ _) _) _ _ _
  k_steps
  refine G_callWithE (P := fun h => (KK w.params).In h) (keeps_K (by k_is)) ?_
  refine G_splicedE (wpG_any ?_)
  k_steps
  refine G_splicedE (G_Call ?_)
  k_steps
  refine G_callWithE (P := fun h => (KK w.params).In h) (keeps_K (by k_is)) (wpG_any ?_)
  k_steps
  k_dflt (refine' io_G (cl := []) ?hA ?hh ?k1 ?k2 ?k3 ?k4 ?k5 ?hk ?hd ?hu hz (fun x dx ba h1 tk1 k1 k2 t1 F1 N1 l1 l2 l3 => ?_); (case hA => exact rfl); (case hh => exact rfl); (case k1 => k_asm); (case k2 => k_asm); (case k3 => k_asm); (case k4 => k_asm); (case k5 => k_asm); (case hk => exact rfl); (case hd => (show dp + 1 + 1 + 6 < _; omega)); (case hu => (show un + 1 + 3 + 51 < _; omega)))
  have l2' := ‹dP < P›
  k_lt l1
  refine wpG_any ?_
  k_steps
  refine wpG_any ?_
  k_steps
  refine Stop.mk ?_
  have NN : News g' L' h1 ((P, instObj 1419 dP) :: (dP, emptyDict) :: (x, instOf 541 dx) :: (dx, ioD w.params ba 0 k1 k2 t1) :: (ba, baObj b) :: news) := news_sub N1 (sub_cons (.tail _ (.tail _ (.tail _ (.head _)))) (sub_cons (.tail _ (.tail _ (.tail _ (.tail _ (.head _))))) (sub_cons (.head _) (sub_cons (.tail _ (.head _)) (sub_cons (.tail _ (.tail _ (.head _))) fun _ h => .tail _ (.tail _ (.tail _ (.tail _ (.tail _ h)))))))))
  have lb : dx < ba := Nat.lt_trans l2 l3
  have ob : OwnOff ((ba, baObj b) :: news) [P, dP, x, dx] := off_cons (ne_cons (Nat.ne_of_gt (Nat.lt_trans l1.1 lb)) (ne_cons (Nat.ne_of_gt (Nat.lt_trans l2' (Nat.lt_trans l1.1 lb))) (ne_cons (Nat.ne_of_gt l3) (ne_cons (Nat.ne_of_gt lb) ne_nil)))) (off_lt (d := dP) l0 (le_cons (Nat.le_of_lt l2') (le_cons (Nat.le_refl _) (le_cons (Nat.le_of_lt (Nat.lt_trans l2' (Nat.lt_trans l1.1 l2))) (le_cons (Nat.le_of_lt (Nat.lt_trans l2' l1.1)) le_nil)))))
  k_dflt (refine' pinit_spec ?kB ?kF ?kX NN ?kT ?kk ob l2' l1.1 l2 ?hd ?hu (fun h' tk' t' hf' kf' es' n' F' N' => ?_); (case kB => k_asm); (case kF => k_asm); (case kX => k_asm); (case kT => k_asm); (case kk => exact rfl); (case hd => (show dp + 1 + 1 + 15 < _; omega)); (case hu => (show un + 1 + 3 + 190 < _; omega)))
  clear N1 NN
  k_steps
  refine wpG_any ?_
  k_steps
  rename News h₀ _ _ _ => NN
  refine' ret P dP x dx ba _ _ _ _ _ _ _ _ _ ?ka (news5 NN ?h1 ?h2 ?h3 ?h4 ?h5 ?h6) l0 l2' l1.1 l2 l3
  case ka => assumption
  case h1 => k_mem
  case h2 => k_mem
  case h3 => k_mem
  case h4 => k_mem
  case h5 => k_mem
  case h6 =>
    intro q hq
    repeat (first | exact hq | refine List.Mem.tail _ ?_)
end
end
end Mine
namespace Mine
section
open PySem PySem.W PySem.Calls PyProof.Rows
theorem num_cons (x : Int) (r : List Int) : numOf (x :: r) = x * 2 ^ r.length + numOf r := by
  have := num_app [x] r
  have e : numOf [x] = x := by show 2 * 0 + x = x; (first | lia | omega)
  rw [e] at this
  exact this
theorem num_inj : ∀ (l l' : List Int), (∀ x ∈ l, 0 ≤ x ∧ x ≤ 1) → (∀ x ∈ l', 0 ≤ x ∧ x ≤ 1) → l.length = l'.length → numOf l = numOf l' → l = l'
  | [], [], _, _, _, _ => rfl
  | [], _ :: _, _, _, h, _ => by simp at h
  | _ :: _, [], _, _, h, _ => by simp at h
  | x :: r, y :: t, h1, h2, hl, hn => by
    have hl' : r.length = t.length := by simpa using hl
    rw [num_cons, num_cons, hl'] at hn
    have b1 := num_lt (l := r) fun z hz => h1 z (.tail _ hz)
    have b2 := num_lt (l := t) fun z hz => h2 z (.tail _ hz)
    rw [hl'] at b1
    have c1 := h1 x (.head _)
    have c2 := h2 y (.head _)
    generalize hp : (2 : Int) ^ t.length = p at *
    have hxy : x = y := by
      rcases (show x = 0 ∨ x = 1 by (first | lia | omega)) with rfl | rfl <;> rcases (show y = 0 ∨ y = 1 by (first | lia | omega)) with rfl | rfl <;> first | rfl | (exfalso; omega)
    subst hxy
    rw [num_inj r t (fun z hz => h1 z (.tail _ hz)) (fun z hz => h2 z (.tail _ hz)) hl' (by (first | lia | omega))]
theorem bits_num (l : List Int) (h : ∀ x ∈ l, 0 ≤ x ∧ x ≤ 1) : bitsOf (numOf l) l.length = l := by
  refine num_inj _ _ (bits_01 _ _) h (bits_len _ _) ?_
  have b := num_lt h
  rw [num_bits, Int.emod_eq_of_lt b.1 b.2]
theorem byte_chunk (l : List Int) (h : ∀ x ∈ l, 0 ≤ x ∧ x ≤ 1) (hl : l.length = 8) : bitsOf (((numOf l).toNat.toUInt8.toNat : Nat) : Int) 8 = l := by
  have b := num_lt h
  rw [hl] at b
  have e : (((numOf l).toNat.toUInt8.toNat : Nat) : Int) = numOf l := byte_back b.1 (by simpa using b.2)
  rw [e, ← hl]
  exact bits_num l h
def packed (bs : List Int) (n : Nat) : List UInt8 := (List.range n).map fun i => (numOf ((bs.drop (8 * i)).take 8)).toNat.toUInt8
theorem packed_bits : ∀ (n : Nat) (bs : List Int), (∀ x ∈ bs, 0 ≤ x ∧ x ≤ 1) → bs.length = 8 * n → dataBits (packed bs n) = bs
  | 0, bs, _, hl => by
    have : bs = [] := List.length_eq_zero_iff.mp (by (first | lia | omega))
    rw [this]; rfl
  | n + 1, bs, h, hl => by
    have ih := packed_bits n (bs.drop 8) (fun x hx => h x (List.mem_of_mem_drop hx)) (by rw [List.length_drop]; omega)
    have e : packed bs (n + 1) = (numOf (bs.take 8)).toNat.toUInt8 :: packed (bs.drop 8) n := by
      unfold packed
      rw [List.range_succ_eq_map, List.map_cons, List.map_map]
      congr 1
      refine List.map_congr_left fun i _ => ?_
      show (numOf ((bs.drop (8 * (i + 1))).take 8)).toNat.toUInt8 = (numOf (((bs.drop 8).drop (8 * i)).take 8)).toNat.toUInt8
      rw [List.drop_drop, show 8 + 8 * i = 8 * (i + 1) by (first | lia | omega)]
    rw [e]
    show bitsOf _ 8 ++ dataBits _ = _
    rw [ih, byte_chunk _ (fun x hx => h x (List.mem_of_mem_take hx)) (by rw [List.length_take]; omega)]
    exact List.take_append_drop 8 bs
theorem packed_len (bs : List Int) (n : Nat) : (packed bs n).length = n := by unfold packed; simp
end
end Mine
namespace Mine
section
open PySem PySem.W PySem.Calls PyProof.Rows
set_option maxHeartbeats 8000000
set_option compiler.extract_closed false
theorem wReset53 : 1 = 1 := by walk1
local macro_rules | `(tactic| k_room) => `(tactic| ktr_room)
local macro_rules | `(tactic| walk_at "eval ListComp") => `(tactic| (k_here; k_dflt (refine comp_rng (by k_asm) (by with_unfolding_all rfl) (by decide) (by rfl) (by decide) (by rfl) ?_)))
theorem slice_run {prog : Program} {w : World} {A : Around} {E : Value → Shared → Prop} {s : Shared} {h₀ : Heap} {L l : Addr} {m : PySem.Str → Option Value} {news : List (Addr × Obj)} {value slice : PySem.Expr} {its : List Value} {os : List Int} {n : Nat} {k j : Int} {tk tj : Tok} {Q : Value → Shared → Prop}
    (F : Fr h₀ L s.heap m) (N : News h₀ L s.heap news) (hm : (l, PySem.W.listOf its.toArray n) ∈ news) (hi : IntsAre its os) (h0 : 0 ≤ k) (hj : j = k + 8) (hkl : k.toNat + 8 ≤ os.length) (hz : os.length ≤ 5000)
    (h : ∀ D ws h', Fr h₀ L h' m → News h₀ L h' ((D, PySem.W.listOf (List.toArray ws) 0) :: news) → (∀ p ∈ news, p.1 < D) → IntsAre ws ((os.drop k.toNat).take 8) → Q (.ref D) { s with heap := h' })
    (hs : subscripted slice false (.ref l) (.ref s.heap.objs.size) = operate [.ref s.heap.objs.size, .ref l] (getItem (.ref l) (.ref s.heap.objs.size)) := by with_unfolding_all rfl) (ht : ∀ r, letTemporaryGo value (.ref l) r = pure () := by intro _; with_unfolding_all rfl) :
    wpAny (model prog w) A (subscriptTail value slice (.ref l) (.ref s.heap.objs.size)) Q E { s with heap := s.heap.push { cls := .type "slice", data := .fields #[.int k tk, .int j tj, .none] } } := by
  subst hj
  have hp := kmk_run (x := k) (y := k + 8) hi h0 (by (first | lia | omega))
  rw [show min (k + 8).toNat os.length - k.toNat = 8 by (first | lia | omega)] at hp
  exact kmk_slice_ints F N (News.isList N hm) (IsPart.int _ _) (IsPart.int _ _) hi hp rfl (fun D ws h' F' N' l1 hi' _ _ => h D ws h' F' N' l1 hi') hs ht (by rw [List.size_toArray, hi.length, sizeLine_eq]; omega)
theorem in_chunk {bs : List Int} {a b : Nat} (h : ∀ x ∈ bs, 0 ≤ x ∧ x ≤ 1) : ∀ x ∈ (bs.drop a).take b, 0 ≤ x ∧ x ≤ 1 := fun x hx => h x (List.mem_of_mem_drop (List.mem_of_mem_take hx))
theorem range8 (n : Nat) : Builtin.Range.rangeSize 0 ((8 * n : Nat) : Int) 8 = (n : Int) := by
  unfold Builtin.Range.rangeSize
  rw [if_pos (by decide)]
  split <;> omega
theorem small8 {n : Nat} (h : n ≤ 50) : Builtin.Range.small 0 ((8 * n : Nat) : Int) 8 = true :=
  (by decide : ∀ m : Fin 51, Builtin.Range.small 0 ((8 * m.val : Nat) : Int) 8 = true) ⟨n, by (first | lia | omega)⟩
noncomputable def assignVal (i : Nat) : PySem.Expr := match LB i 1 with | [.Assign _ e _] => e | _ => .Constant .none 0 default
noncomputable def callArg : PySem.Expr → PySem.Expr
  | .Call _ (e :: _) _ _ => e
  | e => e
noncomputable def attrBase : PySem.Expr → PySem.Expr
  | .Attribute e _ _ => e
  | e => e
/-- bytes([..]) of S9 -/
noncomputable def bytesE : PySem.Expr := callArg (attrBase (callArg (assignVal 8)))
section
variable {w : World} {p : Program} {loose : List PySem.Str} {mean : ExcName → Option Value} {mg mb : PySem.Str → Option Value} {s : Shared} {Q : Value → Shared → Prop} {h₀ : Heap} {L : Addr} {m : PySem.Str → Option Value}
theorem partD0 {bl : Addr} {itB : List Value} {nB n : Nat} {tl : List (Addr × Obj)} {cb : Obj} {bs : List Int} (X : (KK w.params).In h₀) (T : Top p loose mean mg mb h₀)
    (F : Fr h₀ L s.heap m) (N : News h₀ L s.heap ((L + 1 + 1, cb) :: (bl, W.listOf itB.toArray nB) :: tl)) (hcb : cb.data = .cell (some (.ref bl))) (hiB : IntsAre itB bs) (hb01 : ∀ x ∈ bs, 0 ≤ x ∧ x ≤ 1) (hbn : bs.length = 8 * n) (hn : n ≤ 50)
    (ret : ∀ (h' : Heap) (tk : Nat) (t : Tok), Fr h₀ L h' m → News h₀ L h' ((L + 1 + 1, cb) :: (bl, W.listOf itB.toArray nB) :: tl) → Q (.bytes (packed bs n).toArray t) { s with heap := h', toks := tk }) :
    wpAny (model pw w) (LA L) (eval bytesE (lawEnv L)) Q (fun _ _ => False) s := by
  have B0 := below_caller h₀
  have hlB := hiB.length
  show wpAny _ _ (eval (.Call _ _ _ _) _) _ _ _
  (repeat' (first | (k_unfold; (try dsimp only)) | (k_end; kc_close) | (k_here; (with_reducible show wpAny _ _ (call (Value.ref 1440) [_]) _ _ _); k_dflt (refine' number_spec ?kB ?kF ?kX ?kN ?kT ?kk ?hb ?hi ?h01 ?hl ?k4 ?k5 (fun h' tk' t' F' N' => ?_); (case kB => k_asm); (case kF => k_asm); (case kX => k_asm); (case kN => k_asm); (case kT => k_asm); (case kk => exact rfl); (case hb => k_mem); (case hi => assumption); (case h01 => exact in_chunk (by assumption)); (case hl => (rw [List.length_take]; omega)); (case k4 => decide); (case k5 => decide))) | (k_here; (with_reducible show wpAny _ _ (subscriptTail _ (PySem.Expr.Slice (some _) (some _) none _) (Value.ref _) (Value.ref _)) _ _ _); k_dflt (refine' slice_run (s := ⟨_, _, _, _, _⟩) ?F ?N ?hm ?hi ?h0 ?hj ?hl ?hz ?_; (case F => k_asm); (case N => k_asm); (case hm => k_mem); (case hi => assumption); (case h0 => omega); (case hj => rfl); (case hl => omega); (case hz => omega)); intro D' ws' h' F' N' l1 hi'; (try k_lt l1)) | (k_here; (with_reducible show wpAny _ _ (call (Value.builtin "len") [Value.ref _]) _ _ _); k_dflt (refine' len_list (News.isList (by k_asm) (by k_mem)) ?kf ?_; (case kf => (simp only [List.size_toArray]; omega)); k_whole)) | walk1 | (dsimp only; walk1) | (leave1; (try dsimp only)) | fail "no step"))
  refine SrcC.intro n (by rfl) (by assumption) (by assumption) (by assumption) ?_ ?_ ?_ fun g => ?_
  · rw [List.size_toArray, hlB, hbn]; exact small8 hn
  · rw [List.size_toArray, hlB, hbn]; exact range8 n
  · rw [sizeLine_eq]; (first | lia | omega)
  refine kcf_rest (ks := (List.range n).map fun (i : Nat) => (8 * i : Int)) (fun k => numOf ((bs.drop k.toNat).take 8)) (by simp) ?_ ?_ ?_
  · rintro i x hi ⟨_, t, rfl⟩
    exact ⟨0 + (i : Int) * 8, t, by rw [List.getElem?_map, List.getElem?_range hi]; show some (8 * (i : Int)) = _; congr 1; omega, rfl⟩
  · intro k t I oI C oC D m₂ ys h tk E' hk hC hx F N off ne hM
    obtain ⟨i, hi, rfl⟩ : ∃ i : Nat, i < n ∧ k = 8 * (i : Int) := by
      obtain ⟨i, hi, rfl⟩ := List.mem_map.mp hk
      exact ⟨i, List.mem_range.mp hi, rfl⟩
    (repeat' (first | (k_unfold; (try dsimp only)) | (k_end; kc_close) | (k_here; (with_reducible show wpAny _ _ (call (Value.ref 1440) [_]) _ _ _); k_dflt (refine' number_spec ?kB ?kF ?kX ?kN ?kT ?kk ?hb ?hi ?h01 ?hl ?k4 ?k5 (fun h' tk' t' F' N' => ?_); (case kB => k_asm); (case kF => k_asm); (case kX => k_asm); (case kN => k_asm); (case kT => k_asm); (case kk => exact rfl); (case hb => k_mem); (case hi => assumption); (case h01 => exact in_chunk (by assumption)); (case hl => (rw [List.length_take]; omega)); (case k4 => decide); (case k5 => decide))) | (k_here; (with_reducible show wpAny _ _ (subscriptTail _ (PySem.Expr.Slice (some _) (some _) none _) (Value.ref _) (Value.ref _)) _ _ _); k_dflt (refine' slice_run (s := ⟨_, _, _, _, _⟩) ?F ?N ?hm ?hi ?h0 ?hj ?hl ?hz ?_; (case F => k_asm); (case N => k_asm); (case hm => k_mem); (case hi => assumption); (case h0 => omega); (case hj => rfl); (case hl => omega); (case hz => omega)); intro D' ws' h' F' N' l1 hi'; (try k_lt l1)) | (k_here; (with_reducible show wpAny _ _ (call (Value.builtin "len") [Value.ref _]) _ _ _); k_dflt (refine' len_list (News.isList (by k_asm) (by k_mem)) ?kf ?_; (case kf => (simp only [List.size_toArray]; omega)); k_whole)) | walk1 | (dsimp only; walk1) | (leave1; (try dsimp only)) | fail "no step"))
  · unfold KPfDone
    intro ys hy
    (repeat' (first | (k_unfold; (try dsimp only)) | (k_end; kc_close) | (k_here; (with_reducible show wpAny _ _ (call (Value.ref 1440) [_]) _ _ _); k_dflt (refine' number_spec ?kB ?kF ?kX ?kN ?kT ?kk ?hb ?hi ?h01 ?hl ?k4 ?k5 (fun h' tk' t' F' N' => ?_); (case kB => k_asm); (case kF => k_asm); (case kX => k_asm); (case kN => k_asm); (case kT => k_asm); (case kk => exact rfl); (case hb => k_mem); (case hi => assumption); (case h01 => exact in_chunk (by assumption)); (case hl => (rw [List.length_take]; omega)); (case k4 => decide); (case k5 => decide))) | (k_here; (with_reducible show wpAny _ _ (subscriptTail _ (PySem.Expr.Slice (some _) (some _) none _) (Value.ref _) (Value.ref _)) _ _ _); k_dflt (refine' slice_run (s := ⟨_, _, _, _, _⟩) ?F ?N ?hm ?hi ?h0 ?hj ?hl ?hz ?_; (case F => k_asm); (case N => k_asm); (case hm => k_mem); (case hi => assumption); (case h0 => omega); (case hj => rfl); (case hl => omega); (case hz => omega)); intro D' ws' h' F' N' l1 hi'; (try k_lt l1)) | (k_here; (with_reducible show wpAny _ _ (call (Value.builtin "len") [Value.ref _]) _ _ _); k_dflt (refine' len_list (News.isList (by k_asm) (by k_mem)) ?kf ?_; (case kf => (simp only [List.size_toArray]; omega)); k_whole)) | walk1 | (dsimp only; walk1) | (leave1; (try dsimp only)) | fail "no step"))
    rename News _ _ _ _ => NN
    have eb : (((List.range n).map fun (i : Nat) => (8 * i : Int)).map fun k => numOf ((bs.drop k.toNat).take 8)) = (List.range n).map fun i => numOf ((bs.drop (8 * i)).take 8) := by
      rw [List.map_map]
      refine List.map_congr_left fun i _ => ?_
      show numOf ((bs.drop (8 * (i : Int)).toNat).take 8) = _
      rw [show (8 * (i : Int)).toNat = 8 * i by (first | lia | omega)]
    rw [eb] at hy
    have hin : KBa.In ((List.range n).map fun i => numOf ((bs.drop (8 * i)).take 8)) := by
      intro x hx
      obtain ⟨i, _, rfl⟩ := List.mem_map.mp hx
      have b := num_lt (l := (bs.drop (8 * i)).take 8) fun z hz => hb01 z (List.mem_of_mem_drop (List.mem_of_mem_take hz))
      have hle : ((bs.drop (8 * i)).take 8).length ≤ 8 := by rw [List.length_take]; (first | lia | omega)
      refine ⟨b.1, Int.lt_of_lt_of_le b.2 ?_⟩
      exact_mod_cast Nat.pow_le_pow_right (by decide) hle
    refine KBa.make_K (by assumption) NN rfl (News.isList NN (.head _)) hy hin (by simp; omega) fun h' t' k F' N' _ => ?_
    have ep : byteArr ((List.range n).map fun i => numOf ((bs.drop (8 * i)).take 8)) = (packed bs n).toArray := by
      unfold byteArr packed
      rw [List.map_map]; rfl
    rw [ep]
    exact ret h' k t' F' fun q hq => N' q (.tail _ hq)
end
end
end Mine
namespace Mine
section
open PySem PySem.W PySem.Calls PyProof.Rows
set_option maxHeartbeats 8000000
set_option compiler.extract_closed false
local macro_rules | `(tactic| k_room) => `(tactic| ktr_room)
theorem permD {h₀ h : Heap} {L : Addr} {tb d dd x dx ba c b : Addr × Obj} {n : List (Addr × Obj)} (N : News h₀ L h (tb :: d :: dd :: x :: dx :: ba :: c :: b :: n)) : News h₀ L h (d :: dd :: tb :: x :: dx :: ba :: c :: b :: n) := news_sub N (by ((repeat (refine sub_cons (by repeat (first | exact List.Mem.head _ | refine List.Mem.tail _ ?_)) ?_)); first | exact sub_nil | (intro q hq; repeat (first | exact hq | refine List.Mem.tail _ ?_))))
section
variable {w : World} {p : Program} {loose : List PySem.Str} {mean : ExcName → Option Value} {mg mb : PySem.Str → Option Value} {s : Shared} {Q : Flow → Shared → Prop} {h₀ : Heap} {L : Addr} {m : PySem.Str → Option Value}
theorem partD {bl : Addr} {itB : List Value} {nB n : Nat} {tl : List (Addr × Obj)} {cb : Obj} {bs : List Int} (X : (KK w.params).In h₀) (T : Top p loose mean mg mb h₀)
    (F : Fr h₀ L s.heap m) (N : News h₀ L s.heap ((L + 1 + 1, cb) :: (bl, W.listOf itB.toArray nB) :: tl)) (hcb : cb.data = .cell (some (.ref bl))) (hiB : IntsAre itB bs) (hb01 : ∀ x ∈ bs, 0 ≤ x ∧ x ≤ 1) (hbn : bs.length = 8 * n) (hn : n ≤ 50)
    (ret : ∀ (h' : Heap) (tk : Nat) (m' : PySem.Str → Option Value) (d dd tb x dx ba : Addr) (qt : DT) (t1 t2 t9 k1 k2 t : Tok), Fr h₀ L h' m' → m' "decoder" = some (.ref d) → (∀ y : PySem.Str, y ≠ "decoder" → m' y = m y) →
      News h₀ L h' ((d, instOf 236 dd) :: (dd, decD w.params qt x 0 t1 8 t2 (.int 9 t9) (.ref tb) .none) :: (tb, W.listOf ([] : List Value).toArray 0) :: (x, instOf 541 dx) :: (dx, ioD w.params ba 0 k1 k2 t) :: (ba, baObj (packed bs n).toArray) :: (L + 1 + 1, cb) :: (bl, W.listOf itB.toArray nB) :: tl) →
      (∀ p ∈ (L + 1 + 1, cb) :: (bl, W.listOf itB.toArray nB) :: tl, @LT.lt Nat _ p.1 dx) → @LT.lt Nat _ dx x → @LT.lt Nat _ x ba → @LT.lt Nat _ ba dd → @LT.lt Nat _ dd d → @LT.lt Nat _ d tb → Q .next { s with heap := h', toks := tk }) :
    wpG (model pw w) (LA L) (execs (LB 8 1) (lawEnv L)) Q (fun _ _ => False) s := by
  have B0 := below_caller h₀
  show wpG _ _ (execs [_] _) _ _ _
  refine execsG_cons (execG_Name (G_Call ?_))
  k_steps
  refine G_callWithE (P := fun h => (KK w.params).In h) (keeps_K (by k_is)) (G_splicedE (G_Attribute (G_Call ?_)))
  k_steps
  refine G_callWithE (P := fun h => (KK w.params).In h) (keeps_K (by k_is)) (wpG_any ?_)
  rename Fr _ _ _ _ => FF
  refine args_cons (partD0 X T FF N hcb hiB hb01 hbn hn fun h' tk t F' N' => args_nil ⟨X.keeps F'.keep, ?_⟩)
  k_dflt (refine' psp_G (cl := _) (outer := []) ?kB ?kF ?kX ?kN ?kT ?kk ?kd ?ku ?kz (fun P dP x dx ba h2 tk2 k1 k2 t2 hf kf es n2 F2 N2 l1 l2 l3 l4 l5 => ?_); (case kB => exact B0); (case kF => exact F'); (case kX => exact X); (case kN => exact N'); (case kT => exact T); (case kk => exact rfl); (case kd => decide); (case ku => decide); (case kz => (simp only [List.size_toArray, packed_len]; omega)))
  k_dflt (refine' get_own ?k1 ?k2 ?k3 ?k4 ?k5 ?k6 ?k7 ?k8 ?k9 ?_; (case k1 => exact F2); (case k2 => k_asm); (case k3 => k_inst); (case k4 => k_is); (case k5 => k_is); (case k6 => k_is); (case k7 => k_is); (case k8 => exact rfl); (case k9 => k_handed))
  refine wpAny_letTemporaryGo (wpG_any (args_nil ⟨X.keeps F2.keep, wpG_any ?_⟩))
  show wpAny _ _ (call (Value.ref 236) [Value.ref x]) _ _ _
  have N3 : News h₀ L h2 ((x, instOf 541 dx) :: (dx, ioD w.params ba 0 k1 k2 t2) :: (ba, baObj (packed bs n).toArray) :: (L + 1 + 1, cb) :: (bl, W.listOf itB.toArray nB) :: tl) := fun q hq => N2 q (.tail _ (.tail _ hq))
  clear N2
  k_steps
  refine wpG_any ?_
  k_steps
  rename News h₀ _ _ _ => NN
  rename Fr _ _ _ _ => F9
  refine' ret _ _ _ _ _ _ _ _ _ ⟨_, _, _, _, _, _⟩ _ _ _ _ _ _ F9 ?m1 ?m2 (permD NN) ?lt l4 l5 ?_ ?_ ?_
  case m1 => rfl
  case m2 =>
    intro y hy
    show (if y = _ then _ else _) = _
    rw [if_neg hy]
  case lt => exact fun q hq => Nat.lt_trans (l1 q hq) (Nat.lt_trans l2 l3)
  all_goals (first | lia | omega)
end
end
end Mine
namespace Mine
section
open PySem PySem.W PySem.Calls PyProof.Rows
set_option maxHeartbeats 8000000
set_option compiler.extract_closed false
theorem wReset55 : 1 = 1 := by walk1
local macro_rules | `(tactic| k_room) => `(tactic| ktr_room)
theorem truthy_bu {prog : Program} {w : World} {A : Around} {E : Value → Shared → Prop} {s : Shared} {b : Array UInt8} {t : Tok} {Q : Bool → Shared → Prop} (hz : b.size ≤ 1099511627776) (h0 : b.size = 0 → Q false { s with toks := s.toks + 1 + 1 }) (h1 : b.size ≠ 0 → Q true { s with toks := s.toks + 1 + 1 }) : wpAny (model prog w) A (truthy (.bytes b t)) Q E s := by
  refine truthy_bytes hz ?_
  by_cases z : b.size = 0
  · rw [z]; exact h0 z
  · have : ((b.size : Int) != 0) = true := by simpa using z
    rw [this]; exact h1 z
local macro_rules | `(tactic| walk_at "truthy bytes") => `(tactic| (k_here; k_dflt (refine' truthy_bu ?kz ?_ ?_; (case kz => omega); k_whole) <;> intro hz'))
local macro_rules | `(tactic| walk_at "truthy bytes") => `(tactic| (k_here; with_reducible refine truthy_b0 ?_))
theorem item_led {prog : Program} {w : World} {A : Around} {E : Value → Shared → Prop} {s : Shared} {h₀ : Heap} {L : Addr} {news : List (Addr × Obj)} {value slice : PySem.Expr} {l : Addr} {items : List Value} {n : Nat} {k : Int} {u : Tok} {x : Value} {Q : Value → Shared → Prop} (N : News h₀ L s.heap news) (hm : (l, W.listOf items.toArray n) ∈ news)
    (h0 : 0 ≤ k) (hfit : k < 2 ^ 63) (hx : items[k.toNat]? = some x) (h : Q x s)
    (hs : subscripted slice false (.ref l) (.int k u) = operate [.ref l, .int k u] (getItem (.ref l) (.int k u)) := by with_unfolding_all rfl) (hg : ∀ r, letTemporaryGo value (.ref l) r = pure () := by intro _; with_unfolding_all rfl) :
    wpAny (model prog w) A (subscriptTail value slice (.ref l) (.int k u)) Q E s := item_list (News.isList N hm) h0 hfit (by simpa using hx) h hs hg
section
variable {w : World} {p : Program} {loose : List PySem.Str} {mean : ExcName → Option Value} {mg mb : PySem.Str → Option Value} {dp un : Nat} {gd : Option (List Code)} {cn : PySem.Str} {cs : Scope} {a : Addr} {ccd : Value} {cl : List (PySem.Str × Addr)} {outer : List Env} {A₀ : Around} {base h₀ : Heap} {L : Addr} {m : PySem.Str → Option Value} {news : List (Addr × Obj)} {s : Shared}
    {Q E : Value → Shared → Prop}
/-- the first code behind a clear -/
theorem feed_first {d dd f tb : Addr} {buff bpos : Int} {c : Nat} {b : Array UInt8} {items : List Value} {t1 t2 t3 tb' u : Tok} {q : DT} {nb : Value} {n : Nat}
    (B : Below A₀ base outer h₀) (F : Fr h₀ L s.heap m) (X : (KK w.params).In h₀) (N : News h₀ L s.heap ((d, instOf 236 dd) :: (dd, decD w.params q f buff t1 bpos t2 nb (.ref tb) (.bytes #[] t3)) :: (tb, W.listOf items.toArray n) :: news)) (T : Top p loose mean mg mb h₀) (hk : cs.kind = .function)
    (off : OwnOff news [d, dd, tb]) (n1 : @Ne Nat d dd) (n2 : @Ne Nat d tb) (n3 : @Ne Nat dd tb)
    (hc : c < 256) (hi : items[((c : Nat) : Int).toNat]? = some (.bytes b tb')) (hd : dp + 5 < recursionLimit) (hu : un + 100 < cLine)
    (ret : ∀ h' tk t, Fr h₀ L h' m → News h₀ L h' ((d, instOf 236 dd) :: (dd, decD w.params q f buff t1 bpos t2 nb (.ref tb) (.bytes b tb')) :: (tb, W.listOf items.toArray n) :: news) → Q (.bytes b t) { s with heap := h', toks := tk }) :
    wpAny (model pw w) (ktrTop dp un gd cn cs L a ccd cl outer) (call (.ref 226) [.ref d, .int c u]) Q E s := by
  have hc' : (c : Int) < 256 := by (first | lia | omega)
  have e6 : ¬ (c : Int) = 256 := by (first | lia | omega)
  have e7 : ¬ (c : Int) = 257 := by (first | lia | omega)
  have n1' := n1.symm
  have n2' := n2.symm
  have n3' := n3.symm
  refine wpAny_call ?_
  k_dflt ktr_enter
  (repeat' (first | (k_unfold; (try dsimp only)) | (k_end; kc_close) | (k_here; (with_reducible show wpAny _ _ (subscriptTail _ _ (Value.ref _) (Value.int _ _)) _ _ _); (with_unfolding_all refine' item_led ?k1 ?k2 ?k3 ?k4 ?k5 ?_; (case k1 => k_asm); (case k2 => k_mem); (case k3 => omega); (case k4 => omega); (case k5 => assumption); k_whole)) | walk1 | (dsimp only; walk1) | (leave1; (try dsimp only)) | fail "no step"))
  all_goals try (exfalso; omega)
  rename News _ _ _ _ => NN
  exact ret _ _ _ (by assumption) NN
/-- the end's code -/
theorem feed_end {d : Addr} {u : Tok}
    (B : Below A₀ base outer h₀) (F : Fr h₀ L s.heap m) (X : (KK w.params).In h₀) (N : News h₀ L s.heap news) (T : Top p loose mean mg mb h₀) (hk : cs.kind = .function)
    (hd : dp + 5 < recursionLimit) (hu : un + 100 < cLine)
    (ret : ∀ h' tk t, Fr h₀ L h' m → News h₀ L h' news → Q (.bytes #[] t) { s with heap := h', toks := tk }) :
    wpAny (model pw w) (ktrTop dp un gd cn cs L a ccd cl outer) (call (.ref 226) [.ref d, .int 257 u]) Q E s := by
  refine wpAny_call ?_
  k_dflt ktr_enter
  (repeat' (first | (k_unfold; (try dsimp only)) | (k_end; kc_close) | (k_here; (with_reducible show wpAny _ _ (subscriptTail _ _ (Value.ref _) (Value.int _ _)) _ _ _); (with_unfolding_all refine' item_led ?k1 ?k2 ?k3 ?k4 ?k5 ?_; (case k1 => k_asm); (case k2 => k_mem); (case k3 => omega); (case k4 => omega); (case k5 => assumption); k_whole)) | walk1 | (dsimp only; walk1) | (leave1; (try dsimp only)) | fail "no step"))
  rename News _ _ _ _ => NN
  exact ret _ _ _ (by assumption) NN
end
open PySem PySem.W PySem.Calls PyProof.Rows
set_option maxHeartbeats 8000000
theorem tup_no_bytes : typeLookup (.type "tuple") "__bytes__" = pure none := by rw [typeLookup_type, builtinLookup_eq_fast]; kernel_rfl
theorem tup_no_index : typeLookup (.type "tuple") "__index__" = pure none := by rw [typeLookup_type, builtinLookup_eq_fast]; kernel_rfl
theorem tup_no_buffer : typeLookup (.type "tuple") "__buffer__" = pure none := by rw [typeLookup_type, builtinLookup_eq_fast]; kernel_rfl
theorem tup_split : splitId "tuple.__len__" = some ("tuple", "__len__") := by decide +kernel
theorem tup_sub : isSubtype (.type "tuple") (.type "list") = pure false := by rw [isSubtype_type]; kernel_rfl
theorem tup_subT : isSubtype (.type "tuple") (.type "tuple") = pure true := by rw [isSubtype_type]; kernel_rfl
section
variable {prog : Program} {w : World} {A : Around} {E : Value → Shared → Prop} {s : Shared}
theorem tup1_loop {R : Result → Shared → Prop} {l I S : Addr} {n : Int} {u : Tok} (hh : A.handled = none) (h0 : 0 ≤ n) (h1 : n < 256) (hIS : I ≠ S) (hlI : l ≠ I) (hlS : l ≠ S)
    (hl : s.heap.IsTuple l #[.int n u]) (hit : s.heap.IsTupleIter I l 0) (hS : s.heap.get? S = some { cls := .type "bytearray", data := .bytearray #[] })
    (hR : ∀ h' t k', (∀ b o, b ≠ I → b ≠ S → s.heap.get? b = some o → h'.get? b = some o) → R (.ok (.ret (.bytes #[n.toNat.toUInt8] t))) { s with heap := h', toks := k' }) :
    codeAny (model prog w) A (.builtin "bytes.__new__.loop" ⟨[.type "bytes", .ref I, .ref S], []⟩) R s := by
  refine codeAny_builtin F.bm_entry_loop ?_
  rw [Around.under_plainId F.bm_plain_loop _]
  show wpAny _ A.in1 (pyNext (.ref I) >>= _) _ _ s
  refine wpAny_bind (wpAny_pyNext_tuple_item (x := .int n u) hit hl rfl fun h' hit' hs => ?_)
  have hS' : h'.get? S = some { cls := .type "bytearray", data := .bytearray #[] } := (hs.2 S (Ne.symm hIS)).trans hS
  refine wpAny_bind (wpAny_holding (wpAny_of_eq (rfl : asIndex (.int n u) = pure n) ?_))
  refine wpAny_bind (wpAny_letGo ?_)
  refine bm_if_false (by simp only [Bool.or_eq_false_iff, decide_eq_false_iff_not]; omega) ?_
  refine wpAny_bind ?_
  show wpAny _ _ (updateBytearray S (·.push n.toNat.toUInt8)) _ _ _
  unfold updateBytearray
  refine wpAny_bind (wpAny_load hS' ?_)
  show wpAny _ _ (update S (Obj.mapBytearray (·.push n.toNat.toUInt8)) >>= fun _ => lookBehind S) _ _ _
  refine wpAny_bind (wpAny_update hS' ?_)
  have hS₂ : (h'.update S (Obj.mapBytearray (·.push n.toNat.toUInt8))).get? S = some { cls := .type "bytearray", data := .bytearray #[n.toNat.toUInt8] } :=
    Heap.get?_update_self (Obj.mapBytearray (·.push n.toNat.toUInt8)) hS' rfl
  refine wpAny_lookBehind hS₂ ?_ ?_
  · rfl
  have hl₂ := (hl.extBut hs.extBut hlI).extBut (Heap.SameBut.update (h := h') (a := S) (f := Obj.mapBytearray (·.push n.toNat.toUInt8))).extBut hlS
  have hit₂ := hit'.extBut (Heap.SameBut.update (h := h') (a := S) (f := Obj.mapBytearray (·.push n.toNat.toUInt8))).extBut hIS
  refine wpAny_pure ⟨plainId_quiet F.bm_plain_loop _, ?_⟩
  refine codeAny_builtin F.bm_entry_loop ?_
  rw [Around.under_plainId F.bm_plain_loop _]
  show wpAny _ A.in1 (pyNext (.ref I) >>= _) _ _ _
  refine wpAny_bind (wpAny_pyNext_tuple_end hh hit₂ hl₂ rfl fun h3 he => ?_)
  have hS3 : h3.get? S = some { cls := .type "bytearray", data := .bytearray #[n.toNat.toUInt8] } := he S _ (Ne.symm hIS) hS₂
  refine wpAny_bind ?_
  unfold Builtin.Bytes.payload Builtin.Bytes.payload?
  refine wpAny_bind (wpAny_bind (wpAny_load hS3 ?_))
  refine wpAny_pure (wpAny_pure ?_)
  refine wpAny_bind (wpAny_mkBytes ?_ (show 1 ≤ sizeLine by decide))
  show wpAny _ _ (if (Value.type "bytes" == Value.type "bytes") = true then _ else _) _ _ _
  refine bm_if_true (by decide) ?_
  have key : ∀ b o, b ≠ I → b ≠ S → s.heap.get? b = some o → h3.get? b = some o := fun b o hbI hbS e => he b o hbI ((Heap.get?_update_other _ _ (Ne.symm hbS)).trans (hs.extBut b o hbI e))
  first
    | exact wpAny_pure (hR h3 _ _ key)
    | exact wpAny_bind (wpAny_pure (wpAny_pure (hR h3 _ _ key)))
theorem tup1_new {l : Addr} {n : Int} {u : Tok} {Q : Value → Shared → Prop} (hh : A.handled = none) (hl : s.heap.IsTuple l #[.int n u]) (h0 : 0 ≤ n) (h1 : n < 256)
    (hQ : ∀ h' t k, (∀ b o, s.heap.get? b = some o → h'.get? b = some o) → Q (.bytes #[n.toNat.toUInt8] t) { s with heap := h', toks := k }) :
    codeAny (model prog w) A (.call (.builtin "bytes.__new__") ⟨[.type "bytes", .ref l], []⟩) (wants Q E) s := by
  refine codeAny_of_tree ?_
  show wpAny _ A.in1 (do checkBuiltinCall "bytes.__new__" ⟨[.type "bytes", .ref l], []⟩; again (.builtin "bytes.__new__" ⟨[.type "bytes", .ref l], []⟩)) _ _ s
  refine wpAny_bind (wpAny_of_eq (F.bm_newCall _) (wpAny_pure ⟨plainId_quiet F.bm_plain _, codeAny_builtin F.bm_entry ?_⟩))
  rw [Around.under_plainId F.bm_plain _]
  have hT : s.TypeIs (.ref l) "tuple" := hl.typeIs
  obtain ⟨ol, hol, hoc, nl, hod⟩ := id hl
  unfold Builtin.«bytes.__new__»
  refine wpAny_bind (wpAny_of_eq (a := true) rfl ?_)
  refine bm_if_false rfl ?_
  refine wpAny_bind (wpAny_of_eq F.bm_sub ?_)
  refine bm_if_false rfl ?_
  refine wpAny_bind (wpAny_of_eq (F.bm_bind _) ?_)
  refine wpAny_bind (wpAny_of_eq (a := ()) rfl ?_)
  refine wpAny_bind (wpAny_of_eq (a := ()) rfl ?_)
  refine bm_if_false rfl ?_
  refine wpAny_bind (wpAny_specialOf hT tup_no_bytes ?_)
  refine wpAny_bind (wpAny_bind ?_)
  show wpAny _ _ (load l >>= _) _ _ _
  refine wpAny_bind (wpAny_load hol ?_)
  rw [hod]
  refine wpAny_pure (wpAny_pure ?_)
  refine bm_if_false rfl ?_
  refine wpAny_bind (wpAny_specialOf hT tup_no_index ?_)
  refine bm_if_true rfl ?_
  first
    | show wpAny _ _ (Builtin.Bytes.buffer? "bytes.__new__" (.ref l) true >>= _) _ _ _
    | (refine wpAny_bind ?_; show wpAny _ _ (Builtin.Bytes.buffer? "bytes.__new__" (.ref l) true >>= _) _ _ _)
  refine wpAny_bind ?_
  unfold Builtin.Bytes.buffer?
  refine wpAny_bind (wpAny_specialOf hT tup_no_buffer ?_)
  refine wpAny_bind (wpAny_specialOf hT tup_no_buffer ?_)
  refine wpAny_pure ?_
  refine wpAny_bind (wpAny_tryCatch (wpAny_pyIter_tuple hl ?_))
  have hl₁ : (s.heap.push { cls := .type "tuple_iterator", data := .fields #[.ref l, .int 0 0] }).IsTuple l #[.int n u] := hl.push _
  have hT₁ : ({ s with heap := s.heap.push { cls := .type "tuple_iterator", data := .fields #[.ref l, .int 0 0] } } : Shared).TypeIs (.ref l) "tuple" := Heap.IsTuple.typeIs (s := { s with heap := s.heap.push { cls := .type "tuple_iterator", data := .fields #[.ref l, .int 0 0] } }) hl₁
  refine wpAny_bind (wpAny_holding ?_)
  unfold Builtin.Bytes.lengthHint
  refine wpAny_bind (wpAny_specialOf hT₁ PySem.F.slot_tuple_len.lookup ?_)
  dsimp only
  rw [tup_split]
  dsimp only
  refine wpAny_bind (wpAny_isInstance hT₁ tup_subT ?_)
  refine bm_if_false rfl ?_
  refine bm_if_true (by decide +kernel) ?_
  refine wpAny_pure ?_
  refine wpAny_bind ?_
  unfold Builtin.Bytes.newBytearray
  refine wpAny_newObj_type ?_ (Nat.zero_le _)
  have hI : ((s.heap.push { cls := .type "tuple_iterator", data := .fields #[.ref l, .int 0 0] }).push { cls := .type "bytearray", data := .bytearray #[] }).IsTupleIter s.heap.objs.size l 0 :=
    ⟨_, Heap.get?_push_of_some _ (Heap.get?_push_size _ rfl), rfl, rfl⟩
  have hlt : l < s.heap.objs.size := Heap.lt_size hol
  have hsz : (s.heap.push { cls := .type "tuple_iterator", data := .fields #[.ref l, .int 0 0] }).objs.size = s.heap.objs.size + 1 := Heap.size_push _ _
  have main := tup1_loop (prog := prog) (w := w) (A := A) (R := wants Q E) (l := l) (I := s.heap.objs.size) (S := (s.heap.push { cls := .type "tuple_iterator", data := .fields #[.ref l, .int 0 0] }).objs.size)
    (s := { s with heap := (s.heap.push { cls := .type "tuple_iterator", data := .fields #[.ref l, .int 0 0] }).push { cls := .type "bytearray", data := .bytearray #[] } }) hh h0 h1 (by rw [hsz]; exact Nat.ne_of_lt (Nat.lt_succ_self _)) (Nat.ne_of_lt hlt) (by rw [hsz]; exact Nat.ne_of_lt (Nat.lt_succ_of_lt hlt))
    (hl₁.push _) hI (Heap.get?_push_size _ rfl)
    fun h' t k hk => hQ h' t k fun b o e => hk b o (Nat.ne_of_lt (Heap.lt_size e)) (by rw [hsz]; exact Nat.ne_of_lt (Nat.lt_succ_of_lt (Heap.lt_size e))) (Heap.get?_push_of_some _ (Heap.get?_push_of_some _ e))
  first
    | exact wpAny_pure ⟨plainId_quiet F.bm_plain_loop _, main⟩
    | exact wpAny_pure (wpAny_pure ⟨plainId_quiet F.bm_plain_loop _, main⟩)
theorem bytes_tup1 {l : Addr} {n : Int} {u : Tok} {Q : Value → Shared → Prop} (hl : s.heap.IsTuple l #[.int n u]) (h0 : 0 ≤ n) (h1 : n < 256) (hh : A.handled = none)
    (hQ : ∀ h' t k, (∀ b o, s.heap.get? b = some o → h'.get? b = some o) → Q (.bytes #[n.toNat.toUInt8] t) { s with heap := h', toks := k }) : wpAny (model prog w) A (call (.type "bytes") [.ref l]) Q E s := by
  refine callType_codes (Q₁ := fun obj s₁ => s₁.TypeIs obj "bytes" ∧ Q obj s₁) F.bm_called (F.bm_typeCall _) F.entry_object_init
    (tup1_new hh hl h0 h1 fun h' t k hk => ⟨PySem.W.typeIs_bytes _ _ _, hQ h' t k hk⟩) fun obj s₁ h₁ => ?_
  exact ⟨h₁.1, F.args_object_init_2 obj _, object_init_meets F.bm_called.init.lookup F.bm_called.made (by decide) prog w A.in1 _ s₁ ⟨h₁.1, rfl, h₁.2⟩⟩
end
def ElR (R : Value → Prop) (news : List (Addr × Obj)) (y : Value) (news' : List (Addr × Obj)) : Prop := news' = news ∧ R y
section
variable {prog : Program} {w : World} {A : Around} {E : Value → Shared → Prop} {s : Shared} {h₀ : Heap} {L : Addr} {m : PySem.Str → Option Value} {env : Env} {elt : PySem.Expr} {x : PySem.Str} {scope : Scope} {cl : List (PySem.Str × Addr)} {S : List (Addr × Obj) → Prop} {news : List (Addr × Obj)} {Fin : List Value → List (Addr × Obj) → Prop}
/-- a comprehension over a range whose elements are told by a relation -/
theorem comp_vals {n : Nat} {a c : Int} (R : Nat → Value → Prop)
    (turn : ∀ i t I oI C oC D m₂ ys h tk (E' : Value → Shared → Prop), i < n → LCg.NsObj oC m₂ → m₂ x = some (.int (a + (i : Int) * c) t) → Fr h₀ L h m → News h₀ L h ((I, oI) :: (C, oC) :: (D, LCg.lst ys) :: news) → LCg.Off3 I C D news → ((@Ne Nat I C) ∧ (@Ne Nat I D) ∧ (@Ne Nat C D)) →
      wpAny (model prog w) A (eval elt (compEnvC scope cl C env)) (LCg.CompEnd h₀ L m { s with heap := h, toks := tk } I oI C oC D (LCg.lst ys) S (fun y news' => ElR (R i) news y news')) E' { s with heap := h, toks := tk })
    (fin : ∀ ys, ys.length = n → (∀ i v, ys[i]? = some v → R i v) → Fin ys news) : LCg.CompRest prog w A h₀ L m env elt x scope cl s S (fun i v => i < n ∧ ∃ t, v = .int (a + (i : Int) * c) t) Fin n 0 [] news := by
  have key : ∀ (j i : Nat) (ys : List Value), i + j = n → ys.length = i → (∀ i v, ys[i]? = some v → R i v) → LCg.CompRest prog w A h₀ L m env elt x scope cl s S (fun i v => i < n ∧ ∃ t, v = .int (a + (i : Int) * c) t) Fin j i ys news := by
    intro j
    induction j with
    | zero => exact fun i ys hi hl hy => LCg.CompRest.zero (fin ys (by (first | lia | omega)) hy)
    | succ j ih =>
      intro i ys hi hl hy
      refine LCg.CompRest.succ ?_
      rintro v I oI C oC D m₂ h tk E' ⟨hin, t, rfl⟩ hC hx F N off ne
      refine wpAny_mono (turn i t I oI C oC D m₂ ys h tk E' hin hC hx F N off ne) (fun y s₂ hq => ?_) fun _ _ e => e
      obtain ⟨h', tk', nw, e, F', N', off', hS, hn, hy'⟩ := hq
      subst hn
      refine ⟨h', tk', nw, e, F', N', off', hS, ih (i + 1) _ (by (first | lia | omega)) (by simp [hl]) fun k v hk => ?_⟩
      by_cases hki : k < ys.length
      · rw [List.getElem?_append_left hki] at hk; exact hy k v hk
      · rw [List.getElem?_append_right (by (first | lia | omega))] at hk
        have : k = ys.length := by
          rcases Nat.lt_or_ge (k - ys.length) 1 with h | h
          · omega
          · rw [List.getElem?_eq_none (by simpa using h)] at hk; cases hk
        subst this
        rw [Nat.sub_self] at hk
        cases hk
        exact hl ▸ hy'
  exact key n 0 [] (by (first | lia | omega)) rfl (by simp)
end
open PySem PySem.W PySem.Calls PyProof.Rows
set_option maxHeartbeats 8000000
set_option compiler.extract_closed false
theorem wReset57 : 1 = 1 := by walk1
theorem truthy_ne {prog : Program} {w : World} {A : Around} {E : Value → Shared → Prop} {s : Shared} {b : Array UInt8} {t : Tok} {Q : Bool → Shared → Prop} (hp : b.size ≠ 0) (hz : b.size ≤ 1000) (h : Q true { s with toks := s.toks + 1 + 1 }) : wpAny (model prog w) A (truthy (.bytes b t)) Q E s :=
  truthy_bu (by omega) (fun e => absurd e hp) fun _ => h
local macro_rules | `(tactic| walk_at "truthy bytes") => `(tactic| (k_here; first | with_reducible refine truthy_b0 ?_ | refine truthy_ne (by assumption) (by assumption) ?_))
theorem last_snoc {items : List Value} {x : Value} {c : Nat} (h : c = items.length) : (items ++ [x]).toArray[((c : Nat) : Int).toNat]? = some x := by subst h; simp
theorem slice1 {prog : Program} {w : World} {A : Around} {E : Value → Shared → Prop} {s : Shared} {value slice : PySem.Expr} {b : Array UInt8} {t t1 : Tok} {h₀ : Heap} {L : Addr} {m : PySem.Str → Option Value} {news : List (Addr × Obj)} {Q : Value → Shared → Prop}
    (hF : Fr h₀ L s.heap m) (hN : News h₀ L s.heap news) (hz : b.size ≤ 1000)
    (h : ∀ h' t' k, Fr h₀ L h' m → News h₀ L h' news → Q (.bytes (b.toList.take 1).toArray t') { s with heap := h', toks := k })
    (hs : subscripted slice false (.bytes b t) (.ref s.heap.objs.size) = operate [.ref s.heap.objs.size, .bytes b t] (getItem (.bytes b t) (.ref s.heap.objs.size)) := by with_unfolding_all rfl)
    (ht : ∀ r, letTemporaryGo value (.bytes b t) r = pure () := by intro _; with_unfolding_all rfl) :
    wpAny (model prog w) A (subscriptTail value slice (.bytes b t) (.ref s.heap.objs.size)) Q E { s with heap := s.heap.push { cls := .type "slice", data := .fields #[.none, .int 1 t1, .none] } } := by
  refine KBc.slice_K (lo := none) (hi := some 1) hF hN rfl (by constructor) (by constructor) (by rw [KBw.ints_length]; omega) (fun h' t' k F' N' _ => ?_) hs ht
  have e : KBy.picked b none (some 1) = (b.toList.take 1).toArray := by
    rw [KBc.picked_eq]
    simp only [Option.elim, List.drop_zero, Nat.sub_zero]
    rw [show ((1 : Int)) = ((1 : Nat) : Int) from rfl, clipAt_nat]
    congr 1
    rcases Nat.eq_zero_or_pos b.size with z | z
    · have : b.toList = [] := by simpa using Array.size_eq_zero_iff.mp z
      rw [this]; simp
    · rw [Nat.min_eq_left z]
  rw [e]
  exact h h' t' k F' N'
local macro_rules | `(tactic| walk_at "eval ListComp") => `(tactic| (k_here; k_dflt (refine comp_rng (by k_asm) (by with_unfolding_all rfl) (by decide) (by rfl) (by decide) (by rfl) ?_)))
theorem item_arr {prog : Program} {w : World} {A : Around} {E : Value → Shared → Prop} {s : Shared} {h₀ : Heap} {L : Addr} {news : List (Addr × Obj)} {value slice : PySem.Expr} {l : Addr} {items : Array Value} {n : Nat} {k : Int} {u : Tok} {x : Value} {Q : Value → Shared → Prop} (N : News h₀ L s.heap news) (hm : (l, W.listOf items n) ∈ news)
    (h0 : 0 ≤ k) (hfit : k < 2 ^ 63) (hx : items[k.toNat]? = some x) (h : Q x s)
    (hs : subscripted slice false (.ref l) (.int k u) = operate [.ref l, .int k u] (getItem (.ref l) (.int k u)) := by with_unfolding_all rfl) (hg : ∀ r, letTemporaryGo value (.ref l) r = pure () := by intro _; with_unfolding_all rfl) :
    wpAny (model prog w) A (subscriptTail value slice (.ref l) (.int k u)) Q E s := item_list (News.isList N hm) h0 hfit hx h hs hg
theorem last_push {items : List Value} {x : Value} {c : Nat} (h : c = items.length) : (items.toArray.push x)[((c : Nat) : Int).toNat]? = some x := by subst h; simp
theorem len_push {prog : Program} {w : World} {A : Around} {E : Value → Shared → Prop} {s : Shared} {l : Addr} {it : List Value} {v : Value} {Q : Value → Shared → Prop} (hl : s.heap.IsList l (it.toArray.push v)) (hz : it.length ≤ 5000) (h : Q (.int ((it.length + 1 : Nat) : Int) (s.toks + 1)) { s with toks := s.toks + 1 + 1 }) : wpAny (model prog w) A (call (.builtin "len") [.ref l]) Q E s := by
  have e : (it.toArray.push v).size = it.length + 1 := by rw [Array.size_push, List.size_toArray]
  refine len_list hl (by rw [e]; omega) ?_
  rw [e]; exact h
theorem len_app {prog : Program} {w : World} {A : Around} {E : Value → Shared → Prop} {s : Shared} {l : Addr} {it : List Value} {v : Value} {Q : Value → Shared → Prop} (hl : s.heap.IsList l (it ++ [v]).toArray) (hz : it.length ≤ 5000) (h : Q (.int ((it.length + 1 : Nat) : Int) (s.toks + 1)) { s with toks := s.toks + 1 + 1 }) : wpAny (model prog w) A (call (.builtin "len") [.ref l]) Q E s :=
  len_push (by rw [List.push_toArray]; exact hl) hz h
section
variable {w : World} {p : Program} {loose : List PySem.Str} {mean : ExcName → Option Value} {mg mb : PySem.Str → Option Value} {dp un : Nat} {gd : Option (List Code)} {cn : PySem.Str} {cs : Scope} {a : Addr} {ccd : Value} {cl : List (PySem.Str × Addr)} {outer : List Env} {A₀ : Around} {base h₀ : Heap} {L : Addr} {m : PySem.Str → Option Value} {news : List (Addr × Obj)} {s : Shared}
    {Q E : Value → Shared → Prop}
/-- a code that the table holds -/
theorem feed_known {d dd f tb : Addr} {buff bpos : Int} {c : Nat} {b pv : Array UInt8} {items : List Value} {t1 t2 t3 tb' u : Tok} {q : DT} {nb : Value} {n : Nat}
    (B : Below A₀ base outer h₀) (F : Fr h₀ L s.heap m) (X : (KK w.params).In h₀) (N : News h₀ L s.heap ((d, instOf 236 dd) :: (dd, decD w.params q f buff t1 bpos t2 nb (.ref tb) (.bytes pv t3)) :: (tb, W.listOf items.toArray n) :: news)) (T : Top p loose mean mg mb h₀) (hk : cs.kind = .function)
    (off : OwnOff news [d, dd, tb]) (n1 : @Ne Nat d dd) (n2 : @Ne Nat d tb) (n3 : @Ne Nat dd tb)
    (hc6 : c ≠ 256) (hc7 : c ≠ 257) (hp : pv.size ≠ 0) (hps : pv.size ≤ 1000) (hbs : b.size ≤ 1000) (hcl : c < items.length) (hil : items.length ≤ 300) (hi : items[((c : Nat) : Int).toNat]? = some (.bytes b tb')) (hd : dp + 5 < recursionLimit) (hu : un + 100 < cLine)
    (ret : ∀ h' tk t t' n', Fr h₀ L h' m → News h₀ L h' ((d, instOf 236 dd) :: (dd, decD w.params q f buff t1 bpos t2 nb (.ref tb) (.bytes b tb')) :: (tb, W.listOf (items ++ [Value.bytes (pv ++ (b.toList.take 1).toArray) t']).toArray n') :: news) → Q (.bytes b t) { s with heap := h', toks := tk }) :
    wpAny (model pw w) (ktrTop dp un gd cn cs L a ccd cl outer) (call (.ref 226) [.ref d, .int c u]) Q E s := by
  have n1' := n1.symm
  have n2' := n2.symm
  have n3' := n3.symm
  have i6 : ¬ ((c : Int) = 256) := by (first | lia | omega)
  have i7 : ¬ ((c : Int) = 257) := by (first | lia | omega)
  clear hc6 hc7
  have i6d : ((c : Int) == 256) = false := beq_eq_false_iff_ne.mpr i6
  have i7d : ((c : Int) == 257) = false := beq_eq_false_iff_ne.mpr i7
  have j5 : (((items.length + 1 : Nat) : Int) == 511) = false := beq_eq_false_iff_ne.mpr (by omega)
  have j6 : (((items.length + 1 : Nat) : Int) == 1023) = false := beq_eq_false_iff_ne.mpr (by omega)
  have j7 : (((items.length + 1 : Nat) : Int) == 2047) = false := beq_eq_false_iff_ne.mpr (by omega)
  refine wpAny_call ?_
  k_dflt ktr_enter
  (repeat' (first | (k_unfold; (try dsimp only)) | (k_end; kc_close) | ((with_reducible show wpAny _ _ (call (Value.type "bytes") [_]) _ _ _); k_dflt (refine' bytes_tup1 (l := _) (n := _) (u := _) ⟨_, News.get (by k_asm) (by k_mem), rfl, _, rfl⟩ ?k1 ?k2 rfl ?_; (case k1 => omega); (case k2 => omega); k_whole)) | (k_here; (with_reducible show wpAny _ _ (call (Value.builtin "len") [Value.ref _]) _ _ _); k_dflt (first | refine' len_push (News.isList (by k_asm) (by k_mem)) (by omega) ?_; k_whole | refine' len_app (News.isList (by k_asm) (by k_mem)) (by omega) ?_; k_whole)) | (k_here; (with_reducible show wpAny _ _ (call (Value.builtin "len") [Value.ref _]) _ _ _); k_dflt (refine' len_list (News.isList (by k_asm) (by k_mem)) ?kf ?_; (case kf => (simp only [Array.size_push, List.size_toArray, List.length_append, List.length_cons, List.length_nil]; omega)); k_whole)) | (k_here; (with_reducible show wpAny _ _ (subscriptTail _ _ (Value.ref _) (Value.int _ _)) _ _ _); (with_unfolding_all refine' item_arr ?k1 ?k2 ?k3 ?k4 ?k5 ?_; (case k1 => k_asm); (case k2 => k_mem); (case k3 => omega); (case k4 => omega); (case k5 => first | exact last_push (by assumption) | exact last_snoc (by assumption)); k_whole)) | (k_here; (with_reducible show wpAny _ _ (binaryOp Operator.Add (Value.bytes _ _) (Value.bytes _ _)) _ _ _); (refine KBy.add_bytes (by simp only [List.size_toArray, List.length_take, Array.length_toList]; omega) ?_); intro t' k') | (k_here; (with_reducible show wpAny _ _ (subscriptTail _ (Expr.Slice _ _ none _) (Value.bytes _ _) (Value.ref _)) _ _ _); (with_reducible rename Fr _ _ _ _ => F'); (with_reducible rename News _ _ _ _ => N'); (refine slice1 (s := ⟨_, _, _, _, _⟩) F' N' (by omega) ?_); intro h' t' k' F' N') | (k_here; (with_reducible show wpAny _ _ (exec (Stmt.Raise (some (Expr.Name (PySem.Str.ofString "CorruptDataError") _)) none _) _) _ _ _); (with_reducible rename Fr _ _ _ _ => kF); k_dflt (refine' raise_corrupt kF ?k1 ?k2 ?hh ?_; (case k1 => k_asm); (case k2 => k_asm); (case hh => exact rfl); k_whole); intro h' e' hm') | (k_here; (with_reducible show wpAny _ _ (subscriptTail _ _ (Value.ref _) (Value.int _ _)) _ _ _); (with_unfolding_all refine' item_led ?k1 ?k2 ?k3 ?k4 ?k5 ?_; (case k1 => k_asm); (case k2 => k_mem); (case k3 => omega); (case k4 => omega); (case k5 => assumption); k_whole)) | walk1 | (dsimp only; walk1) | (leave1; (try dsimp only)) | fail "no step"))
  all_goals first
    | exact absurd (by assumption) i6
    | exact absurd (by assumption) i7
    | exact absurd (by assumption) hp
    | (exfalso; omega)
    | (exfalso; simp only [Array.size_push, List.size_toArray, List.length_append, List.length_cons, List.length_nil] at *; omega)
    | (rename News h₀ _ _ _ => NN; (try rw [List.push_toArray] at NN); exact ret _ _ _ _ _ (by assumption) NN)
/-- the code that is just being made -/
theorem feed_next {d dd f tb : Addr} {buff bpos : Int} {c : Nat} {pv : Array UInt8} {items : List Value} {t1 t2 t3 u : Tok} {q : DT} {nb : Value} {n : Nat}
    (B : Below A₀ base outer h₀) (F : Fr h₀ L s.heap m) (X : (KK w.params).In h₀) (N : News h₀ L s.heap ((d, instOf 236 dd) :: (dd, decD w.params q f buff t1 bpos t2 nb (.ref tb) (.bytes pv t3)) :: (tb, W.listOf items.toArray n) :: news)) (T : Top p loose mean mg mb h₀) (hk : cs.kind = .function)
    (off : OwnOff news [d, dd, tb]) (n1 : @Ne Nat d dd) (n2 : @Ne Nat d tb) (n3 : @Ne Nat dd tb)
    (hc6 : c ≠ 256) (hc7 : c ≠ 257) (hp : pv.size ≠ 0) (hps : pv.size ≤ 1000) (hcl : c = items.length) (hil : items.length ≤ 300) (hd : dp + 5 < recursionLimit) (hu : un + 100 < cLine)
    (ret : ∀ h' tk t t' n', Fr h₀ L h' m → News h₀ L h' ((d, instOf 236 dd) :: (dd, decD w.params q f buff t1 bpos t2 nb (.ref tb) (.bytes (pv ++ (pv.toList.take 1).toArray) t')) :: (tb, W.listOf (items ++ [Value.bytes (pv ++ (pv.toList.take 1).toArray) t']).toArray n') :: news) → Q (.bytes (pv ++ (pv.toList.take 1).toArray) t) { s with heap := h', toks := tk }) :
    wpAny (model pw w) (ktrTop dp un gd cn cs L a ccd cl outer) (call (.ref 226) [.ref d, .int c u]) Q E s := by
  have n1' := n1.symm
  have n2' := n2.symm
  have n3' := n3.symm
  have i6 : ¬ ((c : Int) = 256) := by (first | lia | omega)
  have i7 : ¬ ((c : Int) = 257) := by (first | lia | omega)
  clear hc6 hc7
  have i6d : ((c : Int) == 256) = false := beq_eq_false_iff_ne.mpr i6
  have i7d : ((c : Int) == 257) = false := beq_eq_false_iff_ne.mpr i7
  have i8 : ((c : Int) == (items.toArray.size : Int)) = true := by rw [List.size_toArray, hcl]; exact beq_self_eq_true _
  have j5 : (((items.length + 1 : Nat) : Int) == 511) = false := beq_eq_false_iff_ne.mpr (by omega)
  have j6 : (((items.length + 1 : Nat) : Int) == 1023) = false := beq_eq_false_iff_ne.mpr (by omega)
  have j7 : (((items.length + 1 : Nat) : Int) == 2047) = false := beq_eq_false_iff_ne.mpr (by omega)
  refine wpAny_call ?_
  k_dflt ktr_enter
  (repeat' (first | (k_unfold; (try dsimp only)) | (k_end; kc_close) | ((with_reducible show wpAny _ _ (call (Value.type "bytes") [_]) _ _ _); k_dflt (refine' bytes_tup1 (l := _) (n := _) (u := _) ⟨_, News.get (by k_asm) (by k_mem), rfl, _, rfl⟩ ?k1 ?k2 rfl ?_; (case k1 => omega); (case k2 => omega); k_whole)) | (k_here; (with_reducible show wpAny _ _ (call (Value.builtin "len") [Value.ref _]) _ _ _); k_dflt (first | refine' len_push (News.isList (by k_asm) (by k_mem)) (by omega) ?_; k_whole | refine' len_app (News.isList (by k_asm) (by k_mem)) (by omega) ?_; k_whole)) | (k_here; (with_reducible show wpAny _ _ (call (Value.builtin "len") [Value.ref _]) _ _ _); k_dflt (refine' len_list (News.isList (by k_asm) (by k_mem)) ?kf ?_; (case kf => (simp only [Array.size_push, List.size_toArray, List.length_append, List.length_cons, List.length_nil]; omega)); k_whole)) | (k_here; (with_reducible show wpAny _ _ (subscriptTail _ _ (Value.ref _) (Value.int _ _)) _ _ _); (with_unfolding_all refine' item_arr ?k1 ?k2 ?k3 ?k4 ?k5 ?_; (case k1 => k_asm); (case k2 => k_mem); (case k3 => omega); (case k4 => omega); (case k5 => first | exact last_push (by assumption) | exact last_snoc (by assumption)); k_whole)) | (k_here; (with_reducible show wpAny _ _ (binaryOp Operator.Add (Value.bytes _ _) (Value.bytes _ _)) _ _ _); (refine KBy.add_bytes (by simp only [List.size_toArray, List.length_take, Array.length_toList]; omega) ?_); intro t' k') | (k_here; (with_reducible show wpAny _ _ (subscriptTail _ (Expr.Slice _ _ none _) (Value.bytes _ _) (Value.ref _)) _ _ _); (with_reducible rename Fr _ _ _ _ => F'); (with_reducible rename News _ _ _ _ => N'); (refine slice1 (s := ⟨_, _, _, _, _⟩) F' N' (by omega) ?_); intro h' t' k' F' N') | (k_here; (with_reducible show wpAny _ _ (exec (Stmt.Raise (some (Expr.Name (PySem.Str.ofString "CorruptDataError") _)) none _) _) _ _ _); (with_reducible rename Fr _ _ _ _ => kF); k_dflt (refine' raise_corrupt kF ?k1 ?k2 ?hh ?_; (case k1 => k_asm); (case k2 => k_asm); (case hh => exact rfl); k_whole); intro h' e' hm') | (k_here; (with_reducible show wpAny _ _ (subscriptTail _ _ (Value.ref _) (Value.int _ _)) _ _ _); (with_unfolding_all refine' item_led ?k1 ?k2 ?k3 ?k4 ?k5 ?_; (case k1 => k_asm); (case k2 => k_mem); (case k3 => omega); (case k4 => omega); (case k5 => assumption); k_whole)) | walk1 | (dsimp only; walk1) | (leave1; (try dsimp only)) | fail "no step"))
  all_goals first
    | exact absurd (by assumption) i6
    | exact absurd (by assumption) i7
    | exact absurd (by assumption) hp
    | (exfalso; omega)
    | (exfalso; simp only [Array.size_push, List.size_toArray, List.length_append, List.length_cons, List.length_nil] at *; omega)
    | (rename News h₀ _ _ _ => NN; (try rw [List.push_toArray] at NN); exact ret _ _ _ _ _ (by assumption) NN)
/-- a code that the table does not hold -/
theorem feed_unknown {d dd f tb : Addr} {buff bpos : Int} {c : Nat} {pv : Array UInt8} {items : List Value} {t1 t2 t3 u : Tok} {q : DT} {nb : Value} {n : Nat}
    (B : Below A₀ base outer h₀) (F : Fr h₀ L s.heap m) (X : (KK w.params).In h₀) (N : News h₀ L s.heap ((d, instOf 236 dd) :: (dd, decD w.params q f buff t1 bpos t2 nb (.ref tb) (.bytes pv t3)) :: (tb, W.listOf items.toArray n) :: news)) (T : Top p loose mean mg mb h₀) (hk : cs.kind = .function)
    (off : OwnOff news [d, dd, tb]) (n1 : @Ne Nat d dd) (n2 : @Ne Nat d tb) (n3 : @Ne Nat dd tb)
    (hc6 : c ≠ 256) (hc7 : c ≠ 257) (hp : pv.size ≠ 0) (hps : pv.size ≤ 1000) (hcl : items.length < c) (hcb : c < 1000) (hil : items.length ≤ 300) (hd : dp + 5 < recursionLimit) (hu : un + 100 < cLine)
    (bad : ∀ h' tk e t' g', RaisedK base (envX cn cs L a ccd cl :: outer) e (.ref 198) t' [] ((d, instOf 236 dd) :: (dd, decD w.params q f buff t1 bpos t2 nb (.ref tb) (.bytes pv t3)) :: (tb, W.listOf items.toArray n) :: news) h' → Fr h₀ L g' m → g'.UpToSlots h' → E (.ref e) { s with heap := h', toks := tk }) :
    wpAny (model pw w) (ktrTop dp un gd cn cs L a ccd cl outer) (call (.ref 226) [.ref d, .int c u]) Q E s := by
  have n1' := n1.symm
  have n2' := n2.symm
  have n3' := n3.symm
  have i6 : ¬ ((c : Int) = 256) := by (first | lia | omega)
  have i7 : ¬ ((c : Int) = 257) := by (first | lia | omega)
  clear hc6 hc7
  have i6d : ((c : Int) == 256) = false := beq_eq_false_iff_ne.mpr i6
  have i7d : ((c : Int) == 257) = false := beq_eq_false_iff_ne.mpr i7
  have i8 : ((c : Int) == (items.toArray.size : Int)) = false := beq_eq_false_iff_ne.mpr (by rw [List.size_toArray]; omega)
  have j5 : (((items.length + 1 : Nat) : Int) == 511) = false := beq_eq_false_iff_ne.mpr (by omega)
  have j6 : (((items.length + 1 : Nat) : Int) == 1023) = false := beq_eq_false_iff_ne.mpr (by omega)
  have j7 : (((items.length + 1 : Nat) : Int) == 2047) = false := beq_eq_false_iff_ne.mpr (by omega)
  refine wpAny_call ?_
  k_dflt ktr_enter
  (repeat' (first | (k_unfold; (try dsimp only)) | (k_end; kc_close) | ((with_reducible show wpAny _ _ (call (Value.type "bytes") [_]) _ _ _); k_dflt (refine' bytes_tup1 (l := _) (n := _) (u := _) ⟨_, News.get (by k_asm) (by k_mem), rfl, _, rfl⟩ ?k1 ?k2 rfl ?_; (case k1 => omega); (case k2 => omega); k_whole)) | (k_here; (with_reducible show wpAny _ _ (call (Value.builtin "len") [Value.ref _]) _ _ _); k_dflt (first | refine' len_push (News.isList (by k_asm) (by k_mem)) (by omega) ?_; k_whole | refine' len_app (News.isList (by k_asm) (by k_mem)) (by omega) ?_; k_whole)) | (k_here; (with_reducible show wpAny _ _ (call (Value.builtin "len") [Value.ref _]) _ _ _); k_dflt (refine' len_list (News.isList (by k_asm) (by k_mem)) ?kf ?_; (case kf => (simp only [Array.size_push, List.size_toArray, List.length_append, List.length_cons, List.length_nil]; omega)); k_whole)) | (k_here; (with_reducible show wpAny _ _ (subscriptTail _ _ (Value.ref _) (Value.int _ _)) _ _ _); (with_unfolding_all refine' item_arr ?k1 ?k2 ?k3 ?k4 ?k5 ?_; (case k1 => k_asm); (case k2 => k_mem); (case k3 => omega); (case k4 => omega); (case k5 => first | exact last_push (by assumption) | exact last_snoc (by assumption)); k_whole)) | (k_here; (with_reducible show wpAny _ _ (binaryOp Operator.Add (Value.bytes _ _) (Value.bytes _ _)) _ _ _); (refine KBy.add_bytes (by simp only [List.size_toArray, List.length_take, Array.length_toList]; omega) ?_); intro t' k') | (k_here; (with_reducible show wpAny _ _ (subscriptTail _ (Expr.Slice _ _ none _) (Value.bytes _ _) (Value.ref _)) _ _ _); (with_reducible rename Fr _ _ _ _ => F'); (with_reducible rename News _ _ _ _ => N'); (refine slice1 (s := ⟨_, _, _, _, _⟩) F' N' (by omega) ?_); intro h' t' k' F' N') | (k_here; (with_reducible show wpAny _ _ (exec (Stmt.Raise (some (Expr.Name (PySem.Str.ofString "CorruptDataError") _)) none _) _) _ _ _); (with_reducible rename Fr _ _ _ _ => kF); k_dflt (refine' raise_corrupt kF ?k1 ?k2 ?hh ?_; (case k1 => k_asm); (case k2 => k_asm); (case hh => exact rfl); k_whole); intro h' e' hm') | (k_here; (with_reducible show wpAny _ _ (subscriptTail _ _ (Value.ref _) (Value.int _ _)) _ _ _); (with_unfolding_all refine' item_led ?k1 ?k2 ?k3 ?k4 ?k5 ?_; (case k1 => k_asm); (case k2 => k_mem); (case k3 => omega); (case k4 => omega); (case k5 => assumption); k_whole)) | walk1 | (dsimp only; walk1) | (leave1; (try dsimp only)) | fail "no step"))
  all_goals first
    | exact absurd (by assumption) i6
    | exact absurd (by assumption) i7
    | exact absurd (by assumption) hp
    | (exfalso; omega)
    | (exfalso; simp only [Array.size_push, List.size_toArray, List.length_append, List.length_cons, List.length_nil] at *; omega)
    | exact bad _ _ _ _ _ (by assumption) (by assumption) (by assumption)
theorem rot3 {h₀ h : Heap} {L : Addr} {x y z : Addr × Obj} {n : List (Addr × Obj)} (N : News h₀ L h (x :: y :: z :: n)) : News h₀ L h (y :: z :: x :: n) := news_sub N (by ((repeat (refine sub_cons (by repeat (first | exact List.Mem.head _ | refine List.Mem.tail _ ?_)) ?_)); first | exact sub_nil | (intro q hq; repeat (first | exact hq | refine List.Mem.tail _ ?_))))
theorem off1_own {D : Addr} : ∀ {l : List (Addr × Obj)}, LCg.Off1 D l → OwnOff l [D]
  | [], _ => fun _ h => nomatch h
  | q :: r, x => fun p hp b hb => by
    obtain rfl := List.mem_singleton.mp hb
    rcases List.mem_cons.mp hp with rfl | hp
    · exact x.1
    · exact off1_own x.2 p hp b hb
/-- a clear code -/
theorem feed_clear {d dd f : Addr} {buff bpos : Int} {pv tv : Value} {t1 t2 u : Tok} {q : DT} {nb : Value}
    (B : Below A₀ base outer h₀) (F : Fr h₀ L s.heap m) (X : (KK w.params).In h₀) (N : News h₀ L s.heap ((d, instOf 236 dd) :: (dd, decD w.params q f buff t1 bpos t2 nb tv pv) :: news)) (T : Top p loose mean mg mb h₀) (hk : cs.kind = .function)
    (off : OwnOff news [d, dd]) (n1 : @Ne Nat d dd)
    (hd : dp + 5 < recursionLimit) (hu : un + 100 < cLine)
    (ret : ∀ h' tk t t' tn D ys n, Fr h₀ L h' m → News h₀ L h' ((d, instOf 236 dd) :: (dd, decD w.params q f buff t1 bpos t2 (.int 9 tn) (.ref D) (Value.bytes #[] t')) :: (D, W.listOf (ys ++ [Value.none, Value.none]).toArray n) :: news) → ys.length = 256 → (∀ i v, ys[i]? = some v → ∃ t, v = Value.bytes #[UInt8.ofNat i] t) →
      @Ne Nat d D → @Ne Nat dd D → OwnOff news [D] → Q (.bytes #[] t) { s with heap := h', toks := tk }) :
    wpAny (model pw w) (ktrTop dp un gd cn cs L a ccd cl outer) (call (.ref 226) [.ref d, .int 256 u]) Q E s := by
  have n1' := n1.symm
  refine wpAny_call ?_
  k_dflt ktr_enter
  (repeat' (first | (k_unfold; (try dsimp only)) | (k_end; kc_close) | ((with_reducible show wpAny _ _ (call (Value.type "bytes") [_]) _ _ _); k_dflt (refine' bytes_tup1 (l := _) (n := _) (u := _) ⟨_, News.get (by k_asm) (by k_mem), rfl, _, rfl⟩ ?k1 ?k2 rfl ?_; (case k1 => omega); (case k2 => omega); k_whole)) | (k_here; (with_reducible show wpAny _ _ (call (Value.builtin "len") [Value.ref _]) _ _ _); k_dflt (first | refine' len_push (News.isList (by k_asm) (by k_mem)) (by omega) ?_; k_whole | refine' len_app (News.isList (by k_asm) (by k_mem)) (by omega) ?_; k_whole)) | (k_here; (with_reducible show wpAny _ _ (call (Value.builtin "len") [Value.ref _]) _ _ _); k_dflt (refine' len_list (News.isList (by k_asm) (by k_mem)) ?kf ?_; (case kf => (simp only [Array.size_push, List.size_toArray, List.length_append, List.length_cons, List.length_nil]; omega)); k_whole)) | (k_here; (with_reducible show wpAny _ _ (subscriptTail _ _ (Value.ref _) (Value.int _ _)) _ _ _); (with_unfolding_all refine' item_arr ?k1 ?k2 ?k3 ?k4 ?k5 ?_; (case k1 => k_asm); (case k2 => k_mem); (case k3 => omega); (case k4 => omega); (case k5 => first | exact last_push (by assumption) | exact last_snoc (by assumption)); k_whole)) | (k_here; (with_reducible show wpAny _ _ (binaryOp Operator.Add (Value.bytes _ _) (Value.bytes _ _)) _ _ _); (refine KBy.add_bytes (by simp only [List.size_toArray, List.length_take, Array.length_toList]; omega) ?_); intro t' k') | (k_here; (with_reducible show wpAny _ _ (subscriptTail _ (Expr.Slice _ _ none _) (Value.bytes _ _) (Value.ref _)) _ _ _); (with_reducible rename Fr _ _ _ _ => F'); (with_reducible rename News _ _ _ _ => N'); (refine slice1 (s := ⟨_, _, _, _, _⟩) F' N' (by omega) ?_); intro h' t' k' F' N') | (k_here; (with_reducible show wpAny _ _ (exec (Stmt.Raise (some (Expr.Name (PySem.Str.ofString "CorruptDataError") _)) none _) _) _ _ _); (with_reducible rename Fr _ _ _ _ => kF); k_dflt (refine' raise_corrupt kF ?k1 ?k2 ?hh ?_; (case k1 => k_asm); (case k2 => k_asm); (case hh => exact rfl); k_whole); intro h' e' hm') | (k_here; (with_reducible show wpAny _ _ (subscriptTail _ _ (Value.ref _) (Value.int _ _)) _ _ _); (with_unfolding_all refine' item_led ?k1 ?k2 ?k3 ?k4 ?k5 ?_; (case k1 => k_asm); (case k2 => k_mem); (case k3 => omega); (case k4 => omega); (case k5 => assumption); k_whole)) | walk1 | (dsimp only; walk1) | (leave1; (try dsimp only)) | fail "no step"))
  refine SrcC.intro 256 (by rfl) (by assumption) (by assumption) (by assumption) (by decide) (by decide) (by exact Nat.le_of_ble_eq_true rfl) fun g => ?_
  refine comp_vals (fun i v => ∃ t, v = Value.bytes #[UInt8.ofNat i] t) ?_ ?_
  · intro i t I oI C oC D m₂ ys h tk E' hi hC hx F N off ne
    have h1 : (0 : Int) ≤ 0 + (i : Int) * 1 := by (first | lia | omega)
    have h2 : 0 + (i : Int) * 1 < 256 := by (first | lia | omega)
    (repeat' (first | (k_unfold; (try dsimp only)) | (k_end; kc_close) | ((with_reducible show wpAny _ _ (call (Value.type "bytes") [_]) _ _ _); k_dflt (refine' bytes_tup1 (l := _) (n := _) (u := _) ⟨_, News.get (by k_asm) (by k_mem), rfl, _, rfl⟩ ?k1 ?k2 rfl ?_; (case k1 => omega); (case k2 => omega); k_whole)) | (k_here; (with_reducible show wpAny _ _ (call (Value.builtin "len") [Value.ref _]) _ _ _); k_dflt (first | refine' len_push (News.isList (by k_asm) (by k_mem)) (by omega) ?_; k_whole | refine' len_app (News.isList (by k_asm) (by k_mem)) (by omega) ?_; k_whole)) | (k_here; (with_reducible show wpAny _ _ (call (Value.builtin "len") [Value.ref _]) _ _ _); k_dflt (refine' len_list (News.isList (by k_asm) (by k_mem)) ?kf ?_; (case kf => (simp only [Array.size_push, List.size_toArray, List.length_append, List.length_cons, List.length_nil]; omega)); k_whole)) | (k_here; (with_reducible show wpAny _ _ (subscriptTail _ _ (Value.ref _) (Value.int _ _)) _ _ _); (with_unfolding_all refine' item_arr ?k1 ?k2 ?k3 ?k4 ?k5 ?_; (case k1 => k_asm); (case k2 => k_mem); (case k3 => omega); (case k4 => omega); (case k5 => first | exact last_push (by assumption) | exact last_snoc (by assumption)); k_whole)) | (k_here; (with_reducible show wpAny _ _ (binaryOp Operator.Add (Value.bytes _ _) (Value.bytes _ _)) _ _ _); (refine KBy.add_bytes (by simp only [List.size_toArray, List.length_take, Array.length_toList]; omega) ?_); intro t' k') | (k_here; (with_reducible show wpAny _ _ (subscriptTail _ (Expr.Slice _ _ none _) (Value.bytes _ _) (Value.ref _)) _ _ _); (with_reducible rename Fr _ _ _ _ => F'); (with_reducible rename News _ _ _ _ => N'); (refine slice1 (s := ⟨_, _, _, _, _⟩) F' N' (by omega) ?_); intro h' t' k' F' N') | (k_here; (with_reducible show wpAny _ _ (exec (Stmt.Raise (some (Expr.Name (PySem.Str.ofString "CorruptDataError") _)) none _) _) _ _ _); (with_reducible rename Fr _ _ _ _ => kF); k_dflt (refine' raise_corrupt kF ?k1 ?k2 ?hh ?_; (case k1 => k_asm); (case k2 => k_asm); (case hh => exact rfl); k_whole); intro h' e' hm') | (k_here; (with_reducible show wpAny _ _ (subscriptTail _ _ (Value.ref _) (Value.int _ _)) _ _ _); (with_unfolding_all refine' item_led ?k1 ?k2 ?k3 ?k4 ?k5 ?_; (case k1 => k_asm); (case k2 => k_mem); (case k3 => omega); (case k4 => omega); (case k5 => assumption); k_whole)) | walk1 | (dsimp only; walk1) | (leave1; (try dsimp only)) | fail "no step"))
    rename ∀ _ _, _ → _ => keep
    rename Fr _ _ _ _ => FF
    rename News _ _ _ _ => NN
    refine LCg.CompEnd.intro (FF.keeps keep) (all := (I, oI) :: (C, oC) :: (D, LCg.lst ys) :: (d, instOf 236 dd) :: (dd, decD w.params q f buff t1 bpos t2 nb tv pv) :: news) (fun q hq => ⟨keep _ _ (NN q (.tail _ hq)).1, (NN q (.tail _ hq)).2⟩) _ (fun p hp => hp) off trivial ⟨rfl, ?_⟩
    rw [show (0 + (i : Int) * 1).toNat = i by (first | lia | omega)]
    exact ⟨_, rfl⟩
  · intro ys hl hy
    unfold LCg.FinE
    intro D h' tk' F' N' o1
    obtain ⟨o1, o2, o3⟩ := o1
    have o4 := off1_own o3
    have off' : OwnOff news [d, dd, D] := fun p hp b hb => by
      rcases List.mem_cons.mp hb with rfl | hb
      · exact off p hp _ (.head _)
      rcases List.mem_cons.mp hb with rfl | hb
      · exact off p hp _ (.tail _ (.head _))
      · exact o4 p hp b hb
    have N2 : News _ _ _ ((D, W.listOf ys.toArray ys.length) :: (d, instOf 236 dd) :: (dd, decD w.params q f buff t1 bpos t2 nb tv pv) :: news) := N'
    clear N'
    dsimp only at o1 o2
    (repeat' (first | (k_unfold; (try dsimp only)) | (k_end; kc_close) | ((with_reducible show wpAny _ _ (call (Value.type "bytes") [_]) _ _ _); k_dflt (refine' bytes_tup1 (l := _) (n := _) (u := _) ⟨_, News.get (by k_asm) (by k_mem), rfl, _, rfl⟩ ?k1 ?k2 rfl ?_; (case k1 => omega); (case k2 => omega); k_whole)) | (k_here; (with_reducible show wpAny _ _ (call (Value.builtin "len") [Value.ref _]) _ _ _); k_dflt (first | refine' len_push (News.isList (by k_asm) (by k_mem)) (by omega) ?_; k_whole | refine' len_app (News.isList (by k_asm) (by k_mem)) (by omega) ?_; k_whole)) | (k_here; (with_reducible show wpAny _ _ (call (Value.builtin "len") [Value.ref _]) _ _ _); k_dflt (refine' len_list (News.isList (by k_asm) (by k_mem)) ?kf ?_; (case kf => (simp only [Array.size_push, List.size_toArray, List.length_append, List.length_cons, List.length_nil]; omega)); k_whole)) | (k_here; (with_reducible show wpAny _ _ (subscriptTail _ _ (Value.ref _) (Value.int _ _)) _ _ _); (with_unfolding_all refine' item_arr ?k1 ?k2 ?k3 ?k4 ?k5 ?_; (case k1 => k_asm); (case k2 => k_mem); (case k3 => omega); (case k4 => omega); (case k5 => first | exact last_push (by assumption) | exact last_snoc (by assumption)); k_whole)) | (k_here; (with_reducible show wpAny _ _ (binaryOp Operator.Add (Value.bytes _ _) (Value.bytes _ _)) _ _ _); (refine KBy.add_bytes (by simp only [List.size_toArray, List.length_take, Array.length_toList]; omega) ?_); intro t' k') | (k_here; (with_reducible show wpAny _ _ (subscriptTail _ (Expr.Slice _ _ none _) (Value.bytes _ _) (Value.ref _)) _ _ _); (with_reducible rename Fr _ _ _ _ => F'); (with_reducible rename News _ _ _ _ => N'); (refine slice1 (s := ⟨_, _, _, _, _⟩) F' N' (by omega) ?_); intro h' t' k' F' N') | (k_here; (with_reducible show wpAny _ _ (exec (Stmt.Raise (some (Expr.Name (PySem.Str.ofString "CorruptDataError") _)) none _) _) _ _ _); (with_reducible rename Fr _ _ _ _ => kF); k_dflt (refine' raise_corrupt kF ?k1 ?k2 ?hh ?_; (case k1 => k_asm); (case k2 => k_asm); (case hh => exact rfl); k_whole); intro h' e' hm') | (k_here; (with_reducible show wpAny _ _ (subscriptTail _ _ (Value.ref _) (Value.int _ _)) _ _ _); (with_unfolding_all refine' item_led ?k1 ?k2 ?k3 ?k4 ?k5 ?_; (case k1 => k_asm); (case k2 => k_mem); (case k3 => omega); (case k4 => omega); (case k5 => assumption); k_whole)) | walk1 | (dsimp only; walk1) | (leave1; (try dsimp only)) | fail "no step"))
    rename News h₀ _ _ _ => NN
    simp only [List.push_toArray, List.append_assoc, List.cons_append, List.nil_append] at NN
    exact ret _ _ _ _ _ D ys _ (by assumption) (rot3 NN) hl hy o1 o2 o4
end
end
end Mine
namespace Mine
section
open PySem PySem.W PySem.Calls PyProof.Rows
set_option maxHeartbeats 8000000
def lastW (ws : List Wd) : Wd := (ws.getLast?).getD []
/-- the decoder's table -/
def TabAre (it : List Value) (ws : List Wd) : Prop :=
  it.length = 258 + (ws.length - 1) ∧ (∀ i, i < 256 → ∃ t, it[i]? = some (.bytes #[UInt8.ofNat i] t)) ∧ ∀ j, j + 1 < ws.length → ∃ t, it[258 + j]? = some (.bytes (wordAt ws j ++ [((ws.getD (j + 1) (wordAt ws j)).headD 0)]).toArray t)
theorem lastW_snoc (ws : List Wd) (x : Wd) : lastW (ws ++ [x]) = x := by unfold lastW; simp
theorem wordAt_append (ws : List Wd) (x : Wd) {j : Nat} (h : j < ws.length) : wordAt (ws ++ [x]) j = wordAt ws j := by
  unfold wordAt; rw [List.getD_eq_getElem?_getD, List.getD_eq_getElem?_getD, List.getElem?_append_left h]
theorem lastW_at (ws : List Wd) (h : ws ≠ []) : lastW ws = wordAt ws (ws.length - 1) := by
  unfold lastW wordAt
  rw [List.getLast?_eq_getElem?, List.getD_eq_getElem?_getD]
/-- the first word behind a clear code: the table stays -/
theorem tab_first {it : List Value} {x : Wd} (h : TabAre it []) : TabAre it [x] := ⟨h.1, h.2.1, fun j hj => by simp at hj⟩
/-- one more word: the last word and the new word's first octet -/
theorem tab_snoc {it : List Value} {ws : List Wd} {x : Wd} {t : Tok} (h : TabAre it ws) (hne : ws ≠ []) (hx : x ≠ []) : TabAre (it ++ [.bytes (lastW ws ++ x.take 1).toArray t]) (ws ++ [x]) := by
  obtain ⟨h1, h2, h3⟩ := h
  have hpos : 0 < ws.length := List.length_pos_iff.mpr hne
  refine ⟨by simp [h1]; omega, fun i hi => ?_, fun j hj => ?_⟩
  · obtain ⟨t, e⟩ := h2 i hi
    exact ⟨t, by rw [List.getElem?_append_left (by (first | lia | omega))]; exact e⟩
  · rw [List.length_append, List.length_singleton] at hj
    rcases Nat.lt_or_ge (j + 1) ws.length with hl | hg
    · obtain ⟨t, e⟩ := h3 j hl
      refine ⟨t, ?_⟩
      rw [List.getElem?_append_left (by (first | lia | omega)), e, wordAt_append _ _ (by (first | lia | omega)), List.getD_eq_getElem?_getD, List.getD_eq_getElem?_getD, List.getElem?_append_left hl]
    · have ej : j = ws.length - 1 := by (first | lia | omega)
      refine ⟨t, ?_⟩
      rw [List.getElem?_append_right (by (first | lia | omega)), show 258 + j - it.length = 0 by (first | lia | omega)]
      rw [wordAt_append _ _ (by (first | lia | omega)), ej, ← lastW_at ws hne]
      have e1 : (ws ++ [x]).getD (ws.length - 1 + 1) (lastW ws) = x := by
        rw [show ws.length - 1 + 1 = ws.length by (first | lia | omega), List.getD_eq_getElem?_getD, List.getElem?_append_right (Nat.le_refl _)]
        simp
      rw [e1]
      cases x with
      | nil => exact absurd rfl hx
      | cons a r => rfl
/-- what the table says to a code that it holds -/
theorem tab_at {it : List Value} {ws : List Wd} {c : Nat} (h : TabAre it ws) (h6 : c ≠ 256) (h7 : c ≠ 257) (hc : c < it.length) (hd : c < 256 ∨ c < 258 + ws.length) : ∃ t, it[c]? = some (.bytes (newWord ws c).toArray t) := by
  obtain ⟨h1, h2, h3⟩ := h
  unfold newWord
  split
  · rename_i hs
    obtain ⟨t, e⟩ := h2 c hs
    exact ⟨t, e⟩
  · obtain ⟨t, e⟩ := h3 (c - 258) (by (first | lia | omega))
    rw [show 258 + (c - 258) = c by (first | lia | omega)] at e
    exact ⟨t, e⟩
/-- the code that is just being made -/
theorem new_last {ws : List Wd} (h : ws ≠ []) : newWord ws (258 + (ws.length - 1)) = lastW ws ++ (lastW ws).take 1 ∨ lastW ws = [] := by
  have hpos : 0 < ws.length := List.length_pos_iff.mpr h
  unfold newWord
  rw [if_neg (by (first | lia | omega)), show 258 + (ws.length - 1) - 258 = ws.length - 1 by (first | lia | omega), ← lastW_at ws h, List.getD_eq_getElem?_getD, List.getElem?_eq_none (by (first | lia | omega)), Option.getD_none]
  cases q : lastW ws with
  | nil => exact .inr rfl
  | cons a r => exact .inl rfl
theorem take1_new (ws : List Wd) (c : Nat) (x : Wd) (h : newWord ws c = x) : x ≠ [] := by
  subst h
  unfold newWord
  split <;> simp
end
end Mine
namespace Mine
section
open PySem PySem.W PySem.Calls PyProof.Rows
set_option maxHeartbeats 8000000
theorem arr_take (x : Wd) : (x.toArray.toList.take 1).toArray = (x.take 1).toArray := rfl
theorem drop4 {h₀ h : Heap} {L : Addr} {a b c d : Addr × Obj} {n : List (Addr × Obj)} (N : News h₀ L h (a :: b :: c :: d :: n)) : News h₀ L h (a :: b :: c :: n) := news_sub N (by ((repeat (refine sub_cons (by repeat (first | exact List.Mem.head _ | refine List.Mem.tail _ ?_)) ?_)); first | exact sub_nil | (intro q hq; repeat (first | exact hq | refine List.Mem.tail _ ?_))))
section
variable {w : World} {p : Program} {loose : List PySem.Str} {mean : ExcName → Option Value} {mg mb : PySem.Str → Option Value} {dp un : Nat} {gd : Option (List Code)} {cn : PySem.Str} {cs : Scope} {a : Addr} {ccd : Value} {cl : List (PySem.Str × Addr)} {outer : List Env} {A₀ : Around} {base h₀ : Heap} {L : Addr} {m : PySem.Str → Option Value} {news : List (Addr × Obj)} {s : Shared}
    {Q E : Value → Shared → Prop}
theorem feed_all {d dd f tb : Addr} {buff bpos : Int} {c : Nat} {ws : List Wd} {items : List Value} {t1 t2 t3 u : Tok} {q : DT} {nb : Value} {n : Nat}
    (B : Below A₀ base outer h₀) (F : Fr h₀ L s.heap m) (X : (KK w.params).In h₀) (N : News h₀ L s.heap ((d, instOf 236 dd) :: (dd, decD w.params q f buff t1 bpos t2 nb (.ref tb) (.bytes (lastW ws).toArray t3)) :: (tb, W.listOf items.toArray n) :: news)) (T : Top p loose mean mg mb h₀) (hk : cs.kind = .function)
    (off : OwnOff news [d, dd, tb]) (n1 : @Ne Nat d dd) (n2 : @Ne Nat d tb) (n3 : @Ne Nat dd tb)
    (hT : TabAre items ws) (hb : Bd 19 ws) (hc : c < 512) (hc0 : ws = [] → c ≤ 257) (hd : dp + 5 < recursionLimit) (hu : un + 100 < cLine)
    (ret : ∀ (h' : Heap) (tk : Nat) (t : Tok) (tb' : Addr) (items' : List Value) (n' : Nat) (nb' : Value) (t3' : Tok) (r : Wd), outW ws c = some r → Fr h₀ L h' m → News h₀ L h' ((d, instOf 236 dd) :: (dd, decD w.params q f buff t1 bpos t2 nb' (.ref tb') (.bytes (lastW (stepW ws c)).toArray t3')) :: (tb', W.listOf items'.toArray n') :: news) →
      TabAre items' (stepW ws c) → @Ne Nat d tb' → @Ne Nat dd tb' → OwnOff news [d, dd, tb'] → Q (.bytes r.toArray t) { s with heap := h', toks := tk })
    (bad : outW ws c = none → ∀ h' tk e t' g', RaisedK base (envX cn cs L a ccd cl :: outer) e (.ref 198) t' [] ((d, instOf 236 dd) :: (dd, decD w.params q f buff t1 bpos t2 nb (.ref tb) (.bytes (lastW ws).toArray t3)) :: (tb, W.listOf items.toArray n) :: news) h' → Fr h₀ L g' m → g'.UpToSlots h' → E (.ref e) { s with heap := h', toks := tk }) :
    wpAny (model pw w) (ktrTop dp un gd cn cs L a ccd cl outer) (call (.ref 226) [.ref d, .int c u]) Q E s := by
  by_cases e6 : c = 256
  · subst e6
    refine feed_clear (news := (tb, W.listOf items.toArray n) :: news) B F X N T hk ?_ n1 hd hu ?_
    · exact off_cons (ne_cons n2.symm (ne_cons n3.symm ne_nil)) (off_mono off (fun _ h => h) (by ((repeat (refine sub_cons (by repeat (first | exact List.Mem.head _ | refine List.Mem.tail _ ?_)) ?_)); exact sub_nil)))
    · intro h' tk t t' tn D ys n' F' N' hl hy x1 x2 of
      have es : stepW ws 256 = [] := by simp [stepW]
      have el : (lastW (stepW ws 256)).toArray = #[] := by rw [es]; rfl
      refine ret h' tk t D (ys ++ [Value.none, Value.none]) n' (.int 9 tn) t' [] (by simp [outW]) F' (by rw [el]; exact drop4 N') ?_ x1 x2 ?_
      · rw [es]
        refine ⟨by simp [hl], fun i hi => ?_, fun j hj => by simp at hj⟩
        have hlt : i < ys.length := by (first | lia | omega)
        obtain ⟨t, e⟩ := hy i ys[i] (List.getElem?_eq_getElem hlt)
        exact ⟨t, by rw [List.getElem?_append_left hlt, List.getElem?_eq_getElem hlt, e]⟩
      · intro q hq b hb
        simp only [List.mem_cons, List.not_mem_nil, or_false] at hb
        rcases hb with rfl | rfl | rfl
        · exact off q hq _ (.head _)
        · exact off q hq _ (.tail _ (.head _))
        · exact of q (.tail _ hq) _ (.head _)
  by_cases e7 : c = 257
  · subst e7
    refine feed_end (d := d) B F X N T hk hd hu ?_
    intro h' tk t F' N'
    have es : stepW ws 257 = ws := by simp [stepW]
    refine ret h' tk t tb items n nb t3 [] (by simp [outW]) F' ?_ (by rw [es]; exact hT) n2 n3 off
    rw [es]; exact N'
  have hlen := hT.1
  by_cases ew : ws = []
  · subst ew
    have hc1 : c < 256 := by have := hc0 rfl; (first | lia | omega)
    obtain ⟨t, ht⟩ := hT.2.1 c hc1
    have en : newWord [] c = [UInt8.ofNat c] := by unfold newWord; rw [if_pos hc1]
    have es : stepW [] c = [[UInt8.ofNat c]] := by unfold stepW; rw [if_neg e6, if_neg e7, if_pos (.inl hc1), en]; rfl
    refine feed_first (b := #[UInt8.ofNat c]) B F X N T hk off n1 n2 n3 hc1 (by simpa using ht) hd hu ?_
    intro h' tk t' F' N'
    refine ret h' tk t' tb items n nb t [UInt8.ofNat c] (by unfold outW; rw [if_neg (by (first | lia | omega)), if_pos (.inl hc1), en]) F' ?_ (by rw [es]; exact tab_first hT) n2 n3 off
    rw [es]; exact N'
  have hpos : 0 < ws.length := List.length_pos_iff.mpr ew
  have hlw : lastW ws ≠ [] ∧ (lastW ws).length ≤ 19 := by
    rw [lastW_at ws ew]
    have : wordAt ws (ws.length - 1) = ws[ws.length - 1] := by unfold wordAt; rw [List.getD_eq_getElem?_getD, List.getElem?_eq_getElem (by (first | lia | omega))]; rfl
    rw [this]; exact hb.2 _ (List.getElem_mem _)
  have hps : (lastW ws).toArray.size ≠ 0 := by
    rw [List.size_toArray]; intro h; exact hlw.1 (List.length_eq_zero_iff.mp h)
  have hw19 := hb.1
  by_cases eh : c < items.length
  · have hd2 : c < 256 ∨ c < 258 + ws.length := by (first | lia | omega)
    obtain ⟨t, ht⟩ := tab_at hT e6 e7 eh hd2
    have es : stepW ws c = ws ++ [newWord ws c] := by unfold stepW; rw [if_neg e6, if_neg e7, if_pos hd2]
    have hbn := (bd_step hb c).2 (newWord ws c) (by rw [es]; simp)
    refine feed_known (b := (newWord ws c).toArray) B F X N T hk off n1 n2 n3 e6 e7 hps (by rw [List.size_toArray]; omega) (by rw [List.size_toArray]; omega) eh (by (first | lia | omega)) (by simpa using ht) hd hu ?_
    intro h' tk t5 t6 n' F' N'
    refine ret h' tk t5 tb (items ++ [Value.bytes (lastW ws ++ (newWord ws c).take 1).toArray t6]) n' nb t (newWord ws c) (by unfold outW; rw [if_neg (by (first | lia | omega)), if_pos hd2]) F' ?_ (by rw [es]; exact tab_snoc hT ew hbn.1) n2 n3 off
    rw [arr_take, List.append_toArray] at N'
    rw [es, lastW_snoc]
    exact N'
  by_cases en : c = items.length
  · have ec : c = 258 + (ws.length - 1) := by (first | lia | omega)
    have hd2 : c < 256 ∨ c < 258 + ws.length := by (first | lia | omega)
    have es : stepW ws c = ws ++ [newWord ws c] := by unfold stepW; rw [if_neg e6, if_neg e7, if_pos hd2]
    have ewd : newWord ws c = lastW ws ++ (lastW ws).take 1 := by
      rw [ec]; exact (new_last ew).resolve_right hlw.1
    refine feed_next B F X N T hk off n1 n2 n3 e6 e7 hps (by rw [List.size_toArray]; omega) en (by (first | lia | omega)) hd hu ?_
    intro h' tk t5 t6 n' F' N'
    have et : (newWord ws c).take 1 = (lastW ws).take 1 := by
      rw [ewd]
      cases q : lastW ws with
      | nil => exact absurd q hlw.1
      | cons a r => rfl
    have hbn := (bd_step hb c).2 (newWord ws c) (by rw [es]; simp)
    have er : (lastW ws).toArray ++ ((lastW ws).toArray.toList.take 1).toArray = (newWord ws c).toArray := by rw [ewd, ← List.append_toArray]
    rw [er] at N'
    rw [er]
    refine ret h' tk t5 tb (items ++ [Value.bytes (lastW ws ++ (newWord ws c).take 1).toArray t6]) n' nb t6 (newWord ws c) (by unfold outW; rw [if_neg (by (first | lia | omega)), if_pos hd2]) F' ?_ (by rw [es]; exact tab_snoc hT ew hbn.1) n2 n3 off
    rw [es, lastW_snoc, et, ← ewd]
    exact N'
  · refine feed_unknown B F X N T hk off n1 n2 n3 e6 e7 hps (by rw [List.size_toArray]; omega) (by (first | lia | omega)) (by (first | lia | omega)) (by (first | lia | omega)) hd hu ?_
    exact bad (by unfold outW; rw [if_neg (by (first | lia | omega)), if_neg (by (first | lia | omega))])
end
end
end Mine
namespace Mine
section
open PySem PySem.W PySem.Calls PyProof.Rows
set_option maxHeartbeats 8000000
set_option compiler.extract_closed false
local macro_rules | `(tactic| k_room) => `(tactic| ktr_room)
/-- the ledger of the decoding -/
abbrev Led (P : Params) (d dd tb x dx ba : Addr) (qt : DT) (buff : Int) (t1 : Tok) (bpos : Nat) (t2 : Tok) (nb pv : Value) (items : List Value) (n : Nat) (pos : Nat) (k1 k2 t : Tok) (data : Array UInt8) (tl : List (Addr × Obj)) : List (Addr × Obj) :=
  (d, instOf 236 dd) :: (dd, decD P qt x buff t1 bpos t2 nb (.ref tb) pv) :: (tb, PySem.W.listOf items.toArray n) :: (x, instOf 541 dx) :: (dx, ioD P ba pos k1 k2 t) :: (ba, baObj data) :: tl
section
variable {w : World} {p : Program} {loose : List PySem.Str} {mean : ExcName → Option Value} {mg mb : PySem.Str → Option Value} {dp un : Nat} {gd : Option (List Code)} {cn : PySem.Str} {cs : Scope} {a : Addr} {ccd : Value} {cl : List (PySem.Str × Addr)} {outer : List Env} {A₀ : Around} {base h₀ : Heap} {L : Addr} {m : PySem.Str → Option Value} {s : Shared}
    {Q E : Value → Shared → Prop} {d dd tb x dx ba : Addr} {qt : DT} {buff : Int} {t1 t2 k1 k2 t : Tok} {bpos pos n : Nat} {nb pv : Value} {items : List Value} {data : Array UInt8} {tl : List (Addr × Obj)}
/-- all six addresses apart, and apart from the tail -/
structure Six (d dd tb x dx ba : Addr) (tl : List (Addr × Obj)) : Prop where
  a1 : @Ne Nat d dd
  a2 : @Ne Nat d tb
  a3 : @Ne Nat d x
  a4 : @Ne Nat d dx
  a5 : @Ne Nat d ba
  b1 : @Ne Nat dd tb
  b2 : @Ne Nat dd x
  b3 : @Ne Nat dd dx
  b4 : @Ne Nat dd ba
  c1 : @Ne Nat tb x
  c2 : @Ne Nat tb dx
  c3 : @Ne Nat tb ba
  e1 : @Ne Nat x dx
  e2 : @Ne Nat x ba
  e3 : @Ne Nat dx ba
  off : OwnOff tl [d, dd, tb, x, dx, ba]
theorem readbits_L {k b : Nat} {u : Tok} (B : Below A₀ base outer h₀) (F : Fr h₀ L s.heap m) (X : (KK w.params).In h₀) (N : News h₀ L s.heap (Led w.params d dd tb x dx ba qt buff t1 bpos t2 nb pv items n pos k1 k2 t data tl)) (T : Top p loose mean mg mb h₀) (hk : cs.kind = .function)
    (S : Six d dd tb x dx ba tl) (hsz : data.size ≤ 1000) (hk1 : 1 ≤ k) (hk2 : k ≤ 40) (hR : Rd data pos bpos buff b) (hd : dp + 5 < recursionLimit) (hu : un + 100 < cLine)
    (ret : b + k ≤ 8 * data.size → ∀ h' tk (pos' bpos' : Nat) (buff' : Int) tv t' t1' t2', Rd data pos' bpos' buff' (b + k) → Fr h₀ L h' m → News h₀ L h' (Led w.params d dd tb x dx ba qt buff' t1' bpos' t2' nb pv items n pos' k1 k2 t' data tl) → Q (.int (numOf (((dataBits data.toList).drop b).take k)) tv) { s with heap := h', toks := tk })
    (eof : 8 * data.size < b + k → ∀ h' tk e t' lg g', RaisedK base (envX cn cs L a ccd cl :: outer) e (.ref 56) t' [] lg h' → Fr h₀ L g' m → g'.UpToSlots h' → E (.ref e) { s with heap := h', toks := tk }) :
    wpAny (model pw w) (ktrTop dp un gd cn cs L a ccd cl outer) (call (.ref 221) [.ref d, .int k u]) Q E s := by
  have N2 : News h₀ L s.heap ((d, instOf 236 dd) :: (dd, decD w.params qt x buff t1 bpos t2 nb (.ref tb) pv) :: (x, instOf 541 dx) :: (dx, ioD w.params ba pos k1 k2 t) :: (ba, baObj data) :: (tb, W.listOf items.toArray n) :: tl) := news_sub N (by ((repeat (refine sub_cons (by repeat (first | exact List.Mem.head _ | refine List.Mem.tail _ ?_)) ?_)); first | exact sub_nil | (intro q hq; repeat (first | exact hq | refine List.Mem.tail _ ?_))))
  refine readbits_spec B F X N2 T hk ?_ S.a1 S.a3 S.a4 S.a5 S.b2 S.b3 S.b4 S.e1 S.e2 S.e3 hsz hk1 hk2 hR hd hu ?_ ?_
  · exact off_cons (ne_cons S.a2.symm (ne_cons S.b1.symm (ne_cons S.c1 (ne_cons S.c2 (ne_cons S.c3 ne_nil))))) (off_mono S.off (fun _ h => h) (by ((repeat (refine sub_cons (by repeat (first | exact List.Mem.head _ | refine List.Mem.tail _ ?_)) ?_)); exact sub_nil)))
  · intro hle h' tk pos' bpos' buff' tv t' t1' t2' hR' F' N'
    exact ret hle h' tk pos' bpos' buff' tv t' t1' t2' hR' F' (news_sub N' (by ((repeat (refine sub_cons (by repeat (first | exact List.Mem.head _ | refine List.Mem.tail _ ?_)) ?_)); first | exact sub_nil | (intro q hq; repeat (first | exact hq | refine List.Mem.tail _ ?_)))))
  · intro hlt h' tk e t' o1 o2 g' R F' U
    exact eof hlt h' tk e t' _ g' R F' U
theorem feed_L {c : Nat} {ws : List Wd} {t3 u : Tok} (B : Below A₀ base outer h₀) (F : Fr h₀ L s.heap m) (X : (KK w.params).In h₀) (N : News h₀ L s.heap (Led w.params d dd tb x dx ba qt buff t1 bpos t2 nb (.bytes (lastW ws).toArray t3) items n pos k1 k2 t data tl)) (T : Top p loose mean mg mb h₀) (hk : cs.kind = .function)
    (S : Six d dd tb x dx ba tl) (hT : TabAre items ws) (hb : Bd 19 ws) (hc : c < 512) (hc0 : ws = [] → c ≤ 257) (hd : dp + 5 < recursionLimit) (hu : un + 100 < cLine)
    (ret : ∀ (h' : Heap) (tk : Nat) (tv : Tok) (tb' : Addr) (items' : List Value) (n' : Nat) (nb' : Value) (t3' : Tok) (r : Wd), outW ws c = some r → Fr h₀ L h' m → News h₀ L h' (Led w.params d dd tb' x dx ba qt buff t1 bpos t2 nb' (.bytes (lastW (stepW ws c)).toArray t3') items' n' pos k1 k2 t data tl) → TabAre items' (stepW ws c) → Six d dd tb' x dx ba tl → Q (.bytes r.toArray tv) { s with heap := h', toks := tk })
    (bad : outW ws c = none → ∀ h' tk e t' g', RaisedK base (envX cn cs L a ccd cl :: outer) e (.ref 198) t' [] (Led w.params d dd tb x dx ba qt buff t1 bpos t2 nb (.bytes (lastW ws).toArray t3) items n pos k1 k2 t data tl) h' → Fr h₀ L g' m → g'.UpToSlots h' → E (.ref e) { s with heap := h', toks := tk }) :
    wpAny (model pw w) (ktrTop dp un gd cn cs L a ccd cl outer) (call (.ref 226) [.ref d, .int c u]) Q E s := by
  refine feed_all (news := (x, instOf 541 dx) :: (dx, ioD w.params ba pos k1 k2 t) :: (ba, baObj data) :: tl) B F X N T hk ?_ S.a1 S.a2 S.b1 hT hb hc hc0 hd hu ?_ bad
  · exact off_cons (ne_cons S.a3.symm (ne_cons S.b2.symm (ne_cons S.c1.symm ne_nil))) (off_cons (ne_cons S.a4.symm (ne_cons S.b3.symm (ne_cons S.c2.symm ne_nil))) (off_cons (ne_cons S.a5.symm (ne_cons S.b4.symm (ne_cons S.c3.symm ne_nil))) (off_mono S.off (fun _ h => h) (by ((repeat (refine sub_cons (by repeat (first | exact List.Mem.head _ | refine List.Mem.tail _ ?_)) ?_)); exact sub_nil)))))
  · intro h' tk tv tb' items' n' nb' t3' r ho F' N' hT' y1 y2 of
    refine ret h' tk tv tb' items' n' nb' t3' r ho F' N' hT' ⟨S.a1, y1, S.a3, S.a4, S.a5, y2, S.b2, S.b3, S.b4, ?_, ?_, ?_, S.e1, S.e2, S.e3, ?_⟩
    · exact fun e => of _ (.head _) tb' (.tail _ (.tail _ (.head _))) e.symm
    · exact fun e => of _ (.tail _ (.head _)) tb' (.tail _ (.tail _ (.head _))) e.symm
    · exact fun e => of _ (.tail _ (.tail _ (.head _))) tb' (.tail _ (.tail _ (.head _))) e.symm
    · exact off_add (fun q hq => S.off q hq _ (.head _)) (off_add (fun q hq => S.off q hq _ (.tail _ (.head _))) (off_add (fun q hq => of q (.tail _ (.tail _ (.tail _ hq))) _ (.tail _ (.tail _ (.head _)))) (off_mono S.off (fun _ h => h) (by ((repeat (refine sub_cons (by repeat (first | exact List.Mem.head _ | refine List.Mem.tail _ ?_)) ?_)); exact sub_nil)))))
end
end
end Mine
namespace Mine
section
open PySem PySem.W PySem.Calls PyProof.Rows
set_option maxHeartbeats 4000000
theorem ex198 (P : Params) : excIn (KK P) 198 [.type "Exception", .type "BaseException", .type "object"] "Exception.__new__" = true := by kernel_rfl
theorem ex56 (P : Params) : nsIn (KK P) mainGlobals "PDFEOFError" = some (some (.ref 56)) := by kernel_rfl
theorem nm198 (P : Params) : nsIn (KK P) mainGlobals "CorruptDataError" = some (some (.ref 198)) := by kernel_rfl
section
variable {w : World} {A₀ : Around} {s' : Shared} {h₀ h : Heap} {outer : List Env} {L a e t : Addr} {m : PySem.Str → Option Value} {name : PySem.Str} {scope : Scope} {cd : Value} {cl : List (PySem.Str × Addr)}
  {b₀ : Stmt} {suite : List Stmt} {pos np : Pos} {rest : List ExceptHandler} {Q : Flow → Shared → Prop} {news : List (Addr × Obj)}
  {p : Program} {loose : List PySem.Str} {mg mb : PySem.Str → Option Value}
/-- a raised CorruptDataError is caught in a frame with cells -/
theorem caught_198 (F : Fr h₀ L h m) (hsm : h.UpToSlots s'.heap) (hA : A₀.frames = some outer) (R : RaisedK h₀ (envX name scope L a cd cl :: outer) e (.ref 198) t [] news s'.heap)
    (X : (KK w.params).In h₀) (T : TopRead p loose mg mb h₀)
    (k : ∀ h', Fr h₀ L h' m → News h₀ L h' news → wpAny (model pw w) ((A₀.deeper (envX name scope L a cd cl)).mark (some (.ref e))) (execs (b₀ :: suite) (envX name scope L a cd cl)) Q (fun _ _ => False) { s' with heap := h' })
    (hk : scope.kind = .function := by rfl) (hx : (envX name scope L a cd cl).kindOf "CorruptDataError" = some .globalImplicit := by rfl) :
    wpAny (model pw w) (A₀.deeper (envX name scope L a cd cl)) (noteFrame (.ref e) (envX name scope L a cd cl))
      (fun _ s₂ => wpAny (model pw w) (A₀.deeper (envX name scope L a cd cl)) (setFlight (.ref e) none) (fun _ s₃ =>
        wpAny (model pw w) (A₀.deeper (envX name scope L a cd cl)) (handleBy (.ref e) (envX name scope L a cd cl) (.ExceptHandler (some (.Name "CorruptDataError" np)) none (b₀ :: suite) pos :: rest)) Q (fun _ _ => False) s₃) (fun _ _ => False) s₂) (fun _ _ => False) s' := by
  obtain ⟨⟨B, hB, hl, hfl, hnew⟩, htup⟩ := R
  have hL : B.get? L = none := by
    obtain ⟨_, ⟨L', _, hf, hn', _⟩, _⟩ := hfl.2.2.1
    obtain rfl : L = L' := Option.some.inj hf
    exact hn'
  refine wpAny_looks_onW (Around.frames_deeper hA) rfl hfl fun h₄ hheld₄ hsm₄ => ?_
  refine wpAny_landsW hheld₄ fun h₅ hheld hsm₅' => ?_
  have hsm₅ := hsm₄.trans hsm₅'
  have hheld' := flyingW_base hB hheld
  have F₅ := F.of_stays hheld'.1 (hsm.trans hsm₅)
  obtain ⟨ob, hob, hobc⟩ := hheld'.there
  refine wpAny_handleBy_cons (codeAny_handlers_test (nameX_K F₅ X T (nm198 _) ?_ hk hx (by decide))) (by intro q; cases q)
  obtain ⟨bm, N, nm, qn, bs, hdct, sn, sub, ab, col, dd, k0, k1, k2, k3, k5, mN, hC, hN, hni, TL⟩ := ((own_of_in X T (nm198 _) (ex198 _)).keeps F₅.keep).obj
  refine wpAny_excMatches_sub_self hC hob hobc (TL.hasType (by decide)) (codeAny_handlers_suite ?_)
  refine lands_againW hheld fun h₆ hfl₆ hsm₆ => ?_
  have hfl₆' := flyingW_base hB hfl₆
  have F₆ := F.of_stays hfl₆'.1 ((hsm.trans hsm₅).trans hsm₆)
  refine wpAny_mono (k h₆ F₆ fun q hq => ⟨hfl₆.1 _ _ (hl q hq).1, (fun z => by have := (hl q hq).1; rw [z, hL] at this; cases this), (hl q hq).2⟩) (fun _ _ x => x) fun _ _ x => x.elim
end
end
end Mine
namespace Mine
section
open PySem PySem.W PySem.Calls PyProof.Rows
set_option maxHeartbeats 8000000
set_option compiler.extract_closed false
theorem wReset62 : 1 = 1 := by walk1
local macro_rules | `(tactic| k_room) => `(tactic| ktr_room)
local macro_rules | `(tactic| walk_at "exec Try cons cons nil nil") => `(tactic| (k_here; refine wpAny_Try_except ?_))
section
variable {w : World} {p : Program} {loose : List PySem.Str} {mean : ExcName → Option Value} {mg mb : PySem.Str → Option Value} {s : Shared} {Q : Flow → Shared → Prop} {h₀ : Heap} {L : Addr} {m : PySem.Str → Option Value}
theorem step_same {ws : List Wd} {c : Nat} (h : outW ws c = none) : stepW ws c = ws := by
  unfold outW at h
  unfold stepW
  split at h
  · cases h
  split at h
  · cases h
  · rename_i h1 h2
    rw [if_neg (by (first | lia | omega)), if_neg (by (first | lia | omega)), if_neg h2]
theorem told_back {m : PySem.Str → Option Value} {v k d c e : Value} (m1 : m "k" = some k) (m2 : m "decoder" = some d) (m3 : m "codes" = some c) (m4 : m "due" = some e) : ∀ y : PySem.Str, y ≠ "told" →
    (if y = "told" then some v else if y = "k" then some k else if y = "decoder" then some d else if y = "codes" then some c else if y = "due" then some e else m y) = m y := by
  intro y hy
  rw [if_neg hy]
  split
  · rename_i q; rw [q, m1]
  split
  · rename_i q; rw [q, m2]
  split
  · rename_i q; rw [q, m3]
  split
  · rename_i q; rw [q, m4]
  · rfl
theorem turnE {d dd tb x dx ba codes due : Addr} {qt : DT} {buff : Int} {t1 t2 k1 k2 t t3 tk tc : Tok} {bpos pos n i c b nC nD : Nat} {nb : Value} {items itC itD : List Value} {data : Array UInt8} {tl : List (Addr × Obj)} {ws : List Wd} {dv : Value}
    (X : (KK w.params).In h₀) (T : Top p loose mean mg mb h₀) (F : Fr h₀ L s.heap m) (m1 : m "k" = some (.int i tk)) (m2 : m "decoder" = some (.ref d)) (m3 : m "codes" = some (.ref codes)) (m4 : m "due" = some (.ref due))
    (N : News h₀ L s.heap (Led w.params d dd tb x dx ba qt buff t1 bpos t2 nb (.bytes (lastW ws).toArray t3) items n pos k1 k2 t data tl)) (S : Six d dd tb x dx ba tl) (hC : (codes, W.listOf itC.toArray nC) ∈ tl) (hD : (due, W.listOf itD.toArray nD) ∈ tl)
    (gC : itC.toArray[((i : Nat) : Int).toNat]? = some (.int c tc)) (gD : itD.toArray[((i : Nat) : Int).toNat]? = some dv) (hdv : DueIs dv (outW ws c)) (hi : i ≤ 100) (hsz : data.size ≤ 1000) (hR : Rd data pos bpos buff b) (hle : b + 9 ≤ 8 * data.size) (h9 : numOf (((dataBits data.toList).drop b).take 9) = c)
    (hT : TabAre items ws) (hb : Bd 19 ws) (hc : c < 512) (hc0 : ws = [] → c ≤ 257)
    (ret : ∀ (h' : Heap) (tk : Nat) (m' : PySem.Str → Option Value) (tb' : Addr) (buff' : Int) (t1' t2' t3' t' : Tok) (bpos' pos' n' : Nat) (nb' : Value) (items' : List Value), Fr h₀ L h' m' → (∀ y : PySem.Str, y ≠ "told" → m' y = m y) → Rd data pos' bpos' buff' (b + 9) → TabAre items' (stepW ws c) → Six d dd tb' x dx ba tl → News h₀ L h' (Led w.params d dd tb' x dx ba qt buff' t1' bpos' t2' nb' (.bytes (lastW (stepW ws c)).toArray t3') items' n' pos' k1 k2 t' data tl) → Q .next { s with heap := h', toks := tk }) :
    wpAny (model pw w) (LA L) (execs (forB 9) (lawEnv L)) Q (fun _ _ => False) s := by
  have B0 := below_caller h₀
  replace F := fr_know (fr_know (fr_know (fr_know F m4) ((if_neg (by decide)).trans m3)) ((if_neg (by decide)).trans ((if_neg (by decide)).trans m2))) ((if_neg (by decide)).trans ((if_neg (by decide)).trans ((if_neg (by decide)).trans m1)))
  have hcl : ∀ r, outW ws c = some r → ∃ td, dv = .bytes r.toArray td := fun r e => by rw [e] at hdv; exact hdv
  have hcn : outW ws c = none → dv = .none := fun e => by rw [e] at hdv; exact hdv
  show wpAny _ _ (execs [_, _, _] _) _ _ _
  cases qo : outW ws c with
  | none =>
    obtain rfl := hcn qo
    (repeat' (first | (k_unfold; (try dsimp only)) | (k_end; kc_close) | ((rename RaisedK _ _ _ _ _ _ _ _ => rkX); k_dflt (refine' caught_198 (A₀ := callerA) (outer := []) ?F ?U rfl rkX ?X ?T ?_; (case F => assumption); (case U => assumption); (case X => k_asm); (case T => exact topRead_of (by assumption))); intro h' F' N') | (k_here; (with_reducible show wpAny _ _ (call (Value.ref 226) [_, Value.int _ _]) _ _ _); k_dflt (refine' feed_L ?kB ?kF ?kX ?kN ?kT ?kk ?kS ?kT2 ?kb ?kc ?kc0 ?k4 ?k5 (fun h' tk' tv tb' items' n' nb' t3' r ho F' N' hT' S' => ?_) (fun ho h' tk' e t' g' R F' U => ?_); (case kB => k_asm); (case kF => k_asm); (case kX => k_asm); (case kN => k_asm); (case kT => k_asm); (case kk => exact rfl); (case kS => assumption); (case kT2 => assumption); (case kb => assumption); (case kc => assumption); (case kc0 => assumption); (case k4 => decide); (case k5 => decide))) | (k_here; (with_reducible show wpAny _ _ (call (Value.ref 221) [_, Value.int 9 _]) _ _ _); k_dflt (refine' readbits_L (k := 9) ?kB ?kF ?kX ?kN ?kT ?kk ?kS ?kz ?r0 ?r1 ?kR ?k4 ?k5 (fun hle h' tk' pos' bpos' buff' tv t' t1' t2' hR' F' N' => ?_) (fun hlt h' tk' e t' lg g' R F' U => ?_); (case kB => k_asm); (case kF => k_asm); (case kX => k_asm); (case kN => k_asm); (case kT => k_asm); (case kk => exact rfl); (case kS => assumption); (case kz => assumption); (case r0 => decide); (case r1 => decide); (case kR => assumption); (case k4 => decide); (case k5 => decide))) | (k_here; (with_reducible show wpAny _ _ (subscriptTail _ _ (Value.ref _) (Value.int _ _)) _ _ _); (with_unfolding_all refine' item_arrB ?k1 ?k2 ?k3 ?k4 ?k5 ?_; (case k1 => k_asm); (case k2 => (repeat (first | assumption | refine List.Mem.tail _ ?_))); (case k3 => omega); (case k4 => omega); (case k5 => assumption); k_whole)) | walk1 | (dsimp only; walk1) | (leave1; (try dsimp only)) | fail "no step"))
    · exact absurd h9 (by assumption)
    · rename outW ws c = some _ => hox
      rw [qo] at hox; cases hox
    · rename Fr _ _ _ _ => FF
      rename News _ _ _ _ => NN
      rw [step_same qo] at ret
      exact ret _ _ _ _ _ _ _ _ _ _ _ _ _ _ FF (told_back m1 m2 m3 m4) (by assumption) (by assumption) (by assumption) NN
  | some r0 =>
    obtain ⟨td, rfl⟩ := hcl r0 qo
    (repeat' (first | (k_unfold; (try dsimp only)) | (k_end; kc_close) | ((rename RaisedK _ _ _ _ _ _ _ _ => rkX); k_dflt (refine' caught_198 (A₀ := callerA) (outer := []) ?F ?U rfl rkX ?X ?T ?_; (case F => assumption); (case U => assumption); (case X => k_asm); (case T => exact topRead_of (by assumption))); intro h' F' N') | (k_here; (with_reducible show wpAny _ _ (call (Value.ref 226) [_, Value.int _ _]) _ _ _); k_dflt (refine' feed_L ?kB ?kF ?kX ?kN ?kT ?kk ?kS ?kT2 ?kb ?kc ?kc0 ?k4 ?k5 (fun h' tk' tv tb' items' n' nb' t3' r ho F' N' hT' S' => ?_) (fun ho h' tk' e t' g' R F' U => ?_); (case kB => k_asm); (case kF => k_asm); (case kX => k_asm); (case kN => k_asm); (case kT => k_asm); (case kk => exact rfl); (case kS => assumption); (case kT2 => assumption); (case kb => assumption); (case kc => assumption); (case kc0 => assumption); (case k4 => decide); (case k5 => decide))) | (k_here; (with_reducible show wpAny _ _ (call (Value.ref 221) [_, Value.int 9 _]) _ _ _); k_dflt (refine' readbits_L (k := 9) ?kB ?kF ?kX ?kN ?kT ?kk ?kS ?kz ?r0 ?r1 ?kR ?k4 ?k5 (fun hle h' tk' pos' bpos' buff' tv t' t1' t2' hR' F' N' => ?_) (fun hlt h' tk' e t' lg g' R F' U => ?_); (case kB => k_asm); (case kF => k_asm); (case kX => k_asm); (case kN => k_asm); (case kT => k_asm); (case kk => exact rfl); (case kS => assumption); (case kz => assumption); (case r0 => decide); (case r1 => decide); (case kR => assumption); (case k4 => decide); (case k5 => decide))) | (k_here; (with_reducible show wpAny _ _ (subscriptTail _ _ (Value.ref _) (Value.int _ _)) _ _ _); (with_unfolding_all refine' item_arrB ?k1 ?k2 ?k3 ?k4 ?k5 ?_; (case k1 => k_asm); (case k2 => (repeat (first | assumption | refine List.Mem.tail _ ?_))); (case k3 => omega); (case k4 => omega); (case k5 => assumption); k_whole)) | walk1 | (dsimp only; walk1) | (leave1; (try dsimp only)) | fail "no step"))
    · exact absurd h9 (by assumption)
    · rename outW ws c = some _ => hox
      rename _ = true => hne
      rw [qo] at hox
      obtain rfl := Option.some.inj hox
      simp at hne
    · rename Fr _ _ _ _ => FF
      rename News _ _ _ _ => NN
      exact ret _ _ _ _ _ _ _ _ _ _ _ _ _ _ FF (told_back m1 m2 m3 m4) (by assumption) (by assumption) (by assumption) NN
    · rename outW ws c = none => hox
      rw [qo] at hox; cases hox
end
open PySem PySem.W PySem.Calls PyProof.Rows
set_option maxHeartbeats 8000000
set_option compiler.extract_closed false
theorem wReset63 : 1 = 1 := by walk1
section
variable {w : World} {p : Program} {loose : List PySem.Str} {mean : ExcName → Option Value} {mg mb : PySem.Str → Option Value} {dp un : Nat} {gd : Option (List Code)} {cn : PySem.Str} {cs : Scope} {a : Addr} {ccd : Value} {cl : List (PySem.Str × Addr)} {outer : List Env} {A₀ : Around} {base h₀ : Heap} {L : Addr} {m : PySem.Str → Option Value} {s : Shared}
    {Q E : Value → Shared → Prop} {d dd tb x dx ba : Addr} {qt : DT} {buff : Int} {t1 t2 k1 k2 t : Tok} {bpos pos n : Nat} {nb pv : Value} {items : List Value} {data : Array UInt8} {tl : List (Addr × Obj)}
theorem feed_C {u : Tok} (B : Below A₀ base outer h₀) (F : Fr h₀ L s.heap m) (X : (KK w.params).In h₀) (N : News h₀ L s.heap (Led w.params d dd tb x dx ba qt buff t1 bpos t2 nb pv items n pos k1 k2 t data tl)) (T : Top p loose mean mg mb h₀) (hk : cs.kind = .function)
    (S : Six d dd tb x dx ba tl) (hd : dp + 5 < recursionLimit) (hu : un + 100 < cLine)
    (ret : ∀ (h' : Heap) (tk : Nat) (tv : Tok) (tb' : Addr) (items' : List Value) (n' : Nat) (nb' : Value) (t3' : Tok), Fr h₀ L h' m → News h₀ L h' (Led w.params d dd tb' x dx ba qt buff t1 bpos t2 nb' (.bytes #[] t3') items' n' pos k1 k2 t data tl) → TabAre items' [] → Six d dd tb' x dx ba tl → Q (.bytes #[] tv) { s with heap := h', toks := tk }) :
    wpAny (model pw w) (ktrTop dp un gd cn cs L a ccd cl outer) (call (.ref 226) [.ref d, .int 256 u]) Q E s := by
  refine feed_clear (news := (tb, W.listOf items.toArray n) :: (x, instOf 541 dx) :: (dx, ioD w.params ba pos k1 k2 t) :: (ba, baObj data) :: tl) B F X N T hk ?_ S.a1 hd hu ?_
  · exact off_cons (ne_cons S.a2.symm (ne_cons S.b1.symm ne_nil)) (off_cons (ne_cons S.a3.symm (ne_cons S.b2.symm ne_nil)) (off_cons (ne_cons S.a4.symm (ne_cons S.b3.symm ne_nil)) (off_cons (ne_cons S.a5.symm (ne_cons S.b4.symm ne_nil)) (off_mono S.off (fun _ h => h) (by ((repeat (refine sub_cons (by repeat (first | exact List.Mem.head _ | refine List.Mem.tail _ ?_)) ?_)); exact sub_nil))))))
  · intro h' tk tv t' tn D ys n' F' N' hl hy x1 x2 of
    refine ret h' tk tv D (ys ++ [Value.none, Value.none]) n' (.int 9 tn) t' F' (drop4 N') ?_ ⟨S.a1, x1, S.a3, S.a4, S.a5, x2, S.b2, S.b3, S.b4, ?_, ?_, ?_, S.e1, S.e2, S.e3, ?_⟩
    · refine ⟨by simp [hl], fun i hi => ?_, fun j hj => by simp at hj⟩
      have hlt : i < ys.length := by (first | lia | omega)
      obtain ⟨t, e⟩ := hy i ys[i] (List.getElem?_eq_getElem hlt)
      exact ⟨t, by rw [List.getElem?_append_left hlt, List.getElem?_eq_getElem hlt, e]⟩
    · exact fun e => of _ (.tail _ (.head _)) D (.head _) e.symm
    · exact fun e => of _ (.tail _ (.tail _ (.head _))) D (.head _) e.symm
    · exact fun e => of _ (.tail _ (.tail _ (.tail _ (.head _)))) D (.head _) e.symm
    · exact off_add (fun q hq => S.off q hq _ (.head _)) (off_add (fun q hq => S.off q hq _ (.tail _ (.head _))) (off_add (fun q hq => of q (.tail _ (.tail _ (.tail _ (.tail _ hq)))) _ (.head _)) (off_mono S.off (fun _ h => h) (by ((repeat (refine sub_cons (by repeat (first | exact List.Mem.head _ | refine List.Mem.tail _ ?_)) ?_)); exact sub_nil)))))
end
section
variable {w : World} {p : Program} {loose : List PySem.Str} {mean : ExcName → Option Value} {mg mb : PySem.Str → Option Value} {s : Shared} {Q : Flow → Shared → Prop} {h₀ : Heap} {L : Addr} {m : PySem.Str → Option Value}
theorem turnE0 {d dd tb x dx ba codes due : Addr} {qt : DT} {buff : Int} {t1 t2 k1 k2 t tk tc td : Tok} {bpos pos n i b nC nD : Nat} {nb pv : Value} {items itC itD : List Value} {data : Array UInt8} {tl : List (Addr × Obj)}
    (X : (KK w.params).In h₀) (T : Top p loose mean mg mb h₀) (F : Fr h₀ L s.heap m) (m1 : m "k" = some (.int i tk)) (m2 : m "decoder" = some (.ref d)) (m3 : m "codes" = some (.ref codes)) (m4 : m "due" = some (.ref due))
    (N : News h₀ L s.heap (Led w.params d dd tb x dx ba qt buff t1 bpos t2 nb pv items n pos k1 k2 t data tl)) (S : Six d dd tb x dx ba tl) (hC : (codes, W.listOf itC.toArray nC) ∈ tl) (hD : (due, W.listOf itD.toArray nD) ∈ tl)
    (gC : itC.toArray[((i : Nat) : Int).toNat]? = some (.int 256 tc)) (gD : itD.toArray[((i : Nat) : Int).toNat]? = some (.bytes #[] td)) (hi : i ≤ 100) (hsz : data.size ≤ 1000) (hR : Rd data pos bpos buff b) (hle : b + 9 ≤ 8 * data.size) (h9 : numOf (((dataBits data.toList).drop b).take 9) = 256)
    (ret : ∀ (h' : Heap) (tk : Nat) (m' : PySem.Str → Option Value) (tb' : Addr) (buff' : Int) (t1' t2' t3' t' : Tok) (bpos' pos' n' : Nat) (nb' : Value) (items' : List Value), Fr h₀ L h' m' → (∀ y : PySem.Str, y ≠ "told" → m' y = m y) → Rd data pos' bpos' buff' (b + 9) → TabAre items' [] → Six d dd tb' x dx ba tl → News h₀ L h' (Led w.params d dd tb' x dx ba qt buff' t1' bpos' t2' nb' (.bytes #[] t3') items' n' pos' k1 k2 t' data tl) → Q .next { s with heap := h', toks := tk }) :
    wpAny (model pw w) (LA L) (execs (forB 9) (lawEnv L)) Q (fun _ _ => False) s := by
  have B0 := below_caller h₀
  replace F := fr_know (fr_know (fr_know (fr_know F m4) ((if_neg (by decide)).trans m3)) ((if_neg (by decide)).trans ((if_neg (by decide)).trans m2))) ((if_neg (by decide)).trans ((if_neg (by decide)).trans ((if_neg (by decide)).trans m1)))
  show wpAny _ _ (execs [_, _, _] _) _ _ _
  (repeat' (first | (k_unfold; (try dsimp only)) | (k_end; kc_close) | ((rename RaisedK _ _ _ _ _ _ _ _ => rkX); k_dflt (refine' caught_198 (A₀ := callerA) (outer := []) ?F ?U rfl rkX ?X ?T ?_; (case F => assumption); (case U => assumption); (case X => k_asm); (case T => exact topRead_of (by assumption))); intro h' F' N') | (k_here; (with_reducible show wpAny _ _ (call (Value.ref 226) [_, Value.int 256 _]) _ _ _); k_dflt (refine' feed_C ?kB ?kF ?kX ?kN ?kT ?kk ?kS ?k4 ?k5 (fun h' tk' tv tb' items' n' nb' t3' F' N' hT' S' => ?_); (case kB => k_asm); (case kF => k_asm); (case kX => k_asm); (case kN => k_asm); (case kT => k_asm); (case kk => exact rfl); (case kS => assumption); (case k4 => decide); (case k5 => decide))) | (k_here; (with_reducible show wpAny _ _ (call (Value.ref 221) [_, Value.int 9 _]) _ _ _); k_dflt (refine' readbits_L (k := 9) ?kB ?kF ?kX ?kN ?kT ?kk ?kS ?kz ?r0 ?r1 ?kR ?k4 ?k5 (fun hle h' tk' pos' bpos' buff' tv t' t1' t2' hR' F' N' => ?_) (fun hlt h' tk' e t' lg g' R F' U => ?_); (case kB => k_asm); (case kF => k_asm); (case kX => k_asm); (case kN => k_asm); (case kT => k_asm); (case kk => exact rfl); (case kS => assumption); (case kz => assumption); (case r0 => decide); (case r1 => decide); (case kR => assumption); (case k4 => decide); (case k5 => decide))) | (k_here; (with_reducible show wpAny _ _ (subscriptTail _ _ (Value.ref _) (Value.int _ _)) _ _ _); (with_unfolding_all refine' item_arrB ?k1 ?k2 ?k3 ?k4 ?k5 ?_; (case k1 => k_asm); (case k2 => (repeat (first | assumption | refine List.Mem.tail _ ?_))); (case k3 => omega); (case k4 => omega); (case k5 => assumption); k_whole)) | walk1 | (dsimp only; walk1) | (leave1; (try dsimp only)) | fail "no step"))
  · exact absurd h9 (by assumption)
  · rename Fr _ _ _ _ => FF
    rename News _ _ _ _ => NN
    exact ret _ _ _ _ _ _ _ _ _ _ _ _ _ _ FF (told_back m1 m2 m3 m4) (by assumption) (by assumption) (by assumption) NN
end
end
end Mine
namespace Mine
section
open PySem PySem.W PySem.Calls PyProof.Rows
section
variable {P : Params} {d dd tb x dx ba : Addr} {qt : DT} {buff : Int} {t1 t2 k1 k2 t : Tok} {bpos pos n : Nat} {nb pv : Value} {items : List Value} {data : Array UInt8} {tl own : List (Addr × Obj)}
theorem led_own2 (h6 : OwnOff own [d, dd, tb, x, dx, ba]) (ht : OwnOff own (tl.map (·.1))) : OwnOff own ((Led P d dd tb x dx ba qt buff t1 bpos t2 nb pv items n pos k1 k2 t data tl).map (·.1)) :=
  fun q hq b hb => (List.mem_append (s := [d, dd, tb, x, dx, ba]) (t := tl.map (·.1))).mp hb |>.elim (h6 q hq b) (ht q hq b)
theorem six_own (ho : OwnOff own ((Led P d dd tb x dx ba qt buff t1 bpos t2 nb pv items n pos k1 k2 t data tl).map (·.1))) : OwnOff own [d, dd, tb, x, dx, ba] :=
  off_mono ho (fun _ h => h) fun _ hy => List.mem_append_left (tl.map (fun (q : Addr × Obj) => q.1)) hy
theorem tl_own (ho : OwnOff own ((Led P d dd tb x dx ba qt buff t1 bpos t2 nb pv items n pos k1 k2 t data tl).map (·.1))) : OwnOff own (tl.map (·.1)) :=
  off_mono ho (fun _ h => h) fun _ hy => List.mem_append_right [d, dd, tb, x, dx, ba] hy
theorem led_left : ∀ q ∈ Led P d dd tb x dx ba qt buff t1 bpos t2 nb pv items n pos k1 k2 t data tl, q ∈ Led P d dd tb x dx ba qt buff t1 bpos t2 nb pv items n pos k1 k2 t data (tl ++ own) :=
  fun _ hq => List.mem_append_left own hq
theorem led_right : ∀ q ∈ own, q ∈ Led P d dd tb x dx ba qt buff t1 bpos t2 nb pv items n pos k1 k2 t data (tl ++ own) :=
  fun _ hq => List.mem_append_right (Led P d dd tb x dx ba qt buff t1 bpos t2 nb pv items n pos k1 k2 t data tl) hq
theorem six_off (S : Six d dd tb x dx ba (tl ++ own)) : OwnOff own [d, dd, tb, x, dx, ba] := off_mono S.off (fun _ hq => List.mem_append_right _ hq) (fun _ h => h)
end
end
end Mine
namespace Mine
section
open PySem PySem.W PySem.Calls PyProof.Rows
set_option maxHeartbeats 8000000
set_option compiler.extract_closed false
theorem wReset65 : 1 = 1 := by walk1
local macro_rules | `(tactic| k_room) => `(tactic| ktr_room)
local macro_rules | `(tactic| walk_at "pyIter ref") => `(tactic| (k_here; refine Hold.out ?_))
local macro_rules | `(tactic| walk_at "exec For") => `(tactic| (k_here; refine Hold.out ?_))
local macro_rules | `(tactic| walk_at "exec For Name Subscript cons nil") => `(tactic| (k_here; refine Hold.out ?_))
local macro_rules | `(tactic| walk_at "exec For Name Call cons nil") => `(tactic| (k_here; refine Hold.out ?_))
local macro_rules | `(tactic| walk_at "exec For Name Name cons nil") => `(tactic| (k_here; refine Hold.out ?_))
theorem len_in {prog : Program} {w : World} {A : Around} {E : Value → Shared → Prop} {s : Shared} {h₀ : Heap} {L l : Addr} {news tl : List (Addr × Obj)} {it : List Value} {n : Nat} {Q : Value → Shared → Prop} (N : News h₀ L s.heap news) (hl : (l, W.listOf it.toArray n) ∈ tl) (hs : ∀ p ∈ tl, p ∈ news) (hz : it.length ≤ 1000)
    (h : Q (.int it.length (s.toks + 1)) { s with toks := s.toks + 1 + 1 }) : wpAny (model prog w) A (call (.builtin "len") [.ref l]) Q E s := by
  refine len_list (News.isList N (hs _ hl)) (by rw [List.size_toArray]; omega) ?_
  rw [List.size_toArray]; exact h
theorem codeBits_at : ∀ (l : List Int) (r : List Int) (i : Nat) (c : Int), l[i]? = some c → ((codeBits l ++ r).drop (9 * i)).take 9 = bitsOf c 9
  | [], _, _, _, h => by simp at h
  | a :: t, r, 0, c, h => by
    simp at h; subst h
    show ((codeBits (a :: t) ++ r).drop 0).take 9 = _
    unfold codeBits
    rw [List.flatMap_cons, List.drop_zero, List.append_assoc]
    exact List.take_left' (bits_len _ _)
  | a :: t, r, i + 1, c, h => by
    have ih := codeBits_at t r i c (by simpa using h)
    have e : codeBits (a :: t) ++ r = bitsOf a 9 ++ (codeBits t ++ r) := by unfold codeBits; rw [List.flatMap_cons, List.append_assoc]
    rw [e, show 9 * (i + 1) = (bitsOf a 9).length + 9 * i by rw [bits_len]; omega, ← List.drop_drop, List.drop_left]
    exact ih
theorem outsW_at : ∀ (cs : List Nat) (ws : List Wd) (j c : Nat), cs[j]? = some c → (outsW ws cs)[j]? = some (outW ((cs.take j).foldl stepW ws) c)
  | [], _, _, _, h => by simp at h
  | a :: r, ws, 0, c, h => by simp at h; subst h; rfl
  | a :: r, ws, j + 1, c, h => by
    have := outsW_at r (stepW ws a) j c (by simpa using h)
    simpa [outsW] using this
theorem good_at : ∀ (cs : List Nat) (ws : List Wd) (j c : Nat), Good ws cs → cs[j]? = some c → c < 512 ∧ ((cs.take j).foldl stepW ws = [] → c ≤ 257)
  | [], _, _, _, _, h => by simp at h
  | a :: r, ws, 0, c, g, h => by simp at h; subst h; exact ⟨g.1, g.2.1⟩
  | a :: r, ws, j + 1, c, g, h => by
    have := good_at r (stepW ws a) j c g.2.2 (by simpa using h)
    simpa using this
theorem Bd.mono {n k : Nat} {ws : List Wd} (h : Bd n ws) (hk : n ≤ k) : Bd k ws := ⟨Nat.le_trans h.1 hk, fun x hx => ⟨(h.2 x hx).1, Nat.le_trans (h.2 x hx).2 hk⟩⟩
theorem ints_get : ∀ {vs : List Value} {ns : List Int}, IntsAre vs ns → ∀ (i : Nat) (n : Int), ns[i]? = some n → ∃ t, vs.toArray[((i : Nat) : Int).toNat]? = some (.int n t)
  | _, _, .nil, i, n, h => by simp at h
  | _, _, .cons a t r, 0, n, h => by simp at h; subst h; exact ⟨t, by simp⟩
  | _, _, .cons a t r, i + 1, n, h => by
    obtain ⟨t, e⟩ := ints_get r i n (by simpa using h)
    exact ⟨t, by simpa using e⟩
theorem Six.left {d dd tb x dx ba : Addr} {tl own : List (Addr × Obj)} (S : Six d dd tb x dx ba (tl ++ own)) : Six d dd tb x dx ba tl :=
  ⟨S.a1, S.a2, S.a3, S.a4, S.a5, S.b1, S.b2, S.b3, S.b4, S.c1, S.c2, S.c3, S.e1, S.e2, S.e3, fun q hq b hb => S.off q (List.mem_append_left _ hq) b hb⟩
theorem Six.app {d dd tb x dx ba : Addr} {tl own : List (Addr × Obj)} (S : Six d dd tb x dx ba tl) (h : OwnOff own [d, dd, tb, x, dx, ba]) : Six d dd tb x dx ba (tl ++ own) :=
  ⟨S.a1, S.a2, S.a3, S.a4, S.a5, S.b1, S.b2, S.b3, S.b4, S.c1, S.c2, S.c3, S.e1, S.e2, S.e3, fun q hq b hb => (List.mem_append.mp hq).elim (fun h' => S.off q h' b hb) fun h' => h q h' b hb⟩
inductive PEJ (P : Params) (d dd x dx ba : Addr) (qt : DT) (k1 k2 : Tok) (data : Array UInt8) (tl : List (Addr × Obj)) (m : PySem.Str → Option Value) (cs : List Nat) (i : Nat) (m' : PySem.Str → Option Value) (nx : List (Addr × Obj)) : Prop
  | mk (tb' : Addr) (buff' : Int) (t1' t2' t3' t' : Tok) (bpos' pos' n' : Nat) (nb' pv' : Value) (items' : List Value) (hnx : nx = Led P d dd tb' x dx ba qt buff' t1' bpos' t2' nb' pv' items' n' pos' k1 k2 t' data tl) (S : Six d dd tb' x dx ba tl) (hR : Rd data pos' bpos' buff' (9 * i)) (hy : ∀ y : PySem.Str, y ≠ "k" → y ≠ "told" → m' y = m y)
      (hw : 0 < i → pv' = .bytes (lastW (runW (cs.take (i - 1)))).toArray t3' ∧ TabAre items' (runW (cs.take (i - 1)))) : PEJ P d dd x dx ba qt k1 k2 data tl m cs i m' nx
section
variable {w : World} {p : Program} {loose : List PySem.Str} {mean : ExcName → Option Value} {mg mb : PySem.Str → Option Value} {s : Shared} {Q : Flow → Shared → Prop} {h₀ : Heap} {L : Addr} {m : PySem.Str → Option Value}
theorem partE {d dd tb x dx ba codes due : Addr} {qt : DT} {buff : Int} {t1 t2 k1 k2 t : Tok} {bpos pos n nC nD : Nat} {nb pv : Value} {items itC itD : List Value} {data : Array UInt8} {tl : List (Addr × Obj)} {cs : List Nat} {ls : List Int}
    (X : (KK w.params).In h₀) (T : Top p loose mean mg mb h₀) (F : Fr h₀ L s.heap m) (m2 : m "decoder" = some (.ref d)) (m3 : m "codes" = some (.ref codes)) (m4 : m "due" = some (.ref due))
    (N : News h₀ L s.heap (Led w.params d dd tb x dx ba qt buff t1 bpos t2 nb pv items n pos k1 k2 t data tl)) (S : Six d dd tb x dx ba tl) (hC : (codes, W.listOf itC.toArray nC) ∈ tl) (hD : (due, W.listOf itD.toArray nD) ∈ tl)
    (hiC : IntsAre itC (256 :: cInts cs)) (hdD : DuesAre itD (some [] :: outsW [] cs)) (hG : Good [] cs) (hcs : cs.length ≤ 18) (hsz : data.size ≤ 1000) (hR : Rd data pos bpos buff 0) (hbits : dataBits data.toList = codeBits (256 :: cInts cs) ++ ls)
    (ret : ∀ (h' : Heap) (tk : Nat) (m' : PySem.Str → Option Value) (tb' : Addr) (buff' : Int) (t1' t2' t' : Tok) (bpos' pos' n' : Nat) (nb' pv' : Value) (items' : List Value), Fr h₀ L h' m' → (∀ y : PySem.Str, y ≠ "k" → y ≠ "told" → m' y = m y) → Rd data pos' bpos' buff' (9 * (cs.length + 1)) → Six d dd tb' x dx ba tl → News h₀ L h' (Led w.params d dd tb' x dx ba qt buff' t1' bpos' t2' nb' pv' items' n' pos' k1 k2 t' data tl) → Q .next { s with heap := h', toks := tk }) :
    wpAny (model pw w) (LA L) (execs (LB 9 1) (lawEnv L)) Q (fun _ _ => False) s := by
  have hlC : itC.length = cs.length + 1 := by rw [hiC.length]; unfold cInts; simp
  have hlz : itC.length ≤ 1000 := by (first | lia | omega)
  replace F := fr_know F m3
  have B0 := below_caller h₀
  show wpAny _ _ (execs [_] _) _ _ _
  (repeat' (first | (k_unfold; (try dsimp only)) | (k_end; kc_close) | (k_here; (with_reducible show wpAny _ _ (call (Value.builtin "len") [Value.ref _]) _ _ _); k_dflt (refine' len_in ?k1 ?k2 ?k3 ?k4 ?_; (case k1 => k_asm); (case k2 => assumption); (case k3 => (intro q hq; (repeat (first | assumption | refine List.Mem.tail _ ?_)))); (case k4 => assumption); k_whole)) | walk1 | (dsimp only; walk1) | (leave1; (try dsimp only)) | fail "no step"))
  unfold Hold
  rename Fr _ _ _ _ => FF
  refine For_invVF (hE := passes_no) FF rfl rfl ?_
  (repeat' (first | (k_unfold; (try dsimp only)) | (k_end; kc_close) | (k_here; (with_reducible show wpAny _ _ (call (Value.builtin "len") [Value.ref _]) _ _ _); k_dflt (refine' len_in ?k1 ?k2 ?k3 ?k4 ?_; (case k1 => k_asm); (case k2 => assumption); (case k3 => (intro q hq; (repeat (first | assumption | refine List.Mem.tail _ ?_)))); (case k4 => assumption); k_whole)) | walk1 | (dsimp only; walk1) | (leave1; (try dsimp only)) | fail "no step"))
  unfold Hold
  rename IntsAre itC _ => hiC
  rename IsRange _ _ _ _ _ _ _ _ => hR9
  rename News _ _ _ _ => N3
  rename Fr _ _ _ _ => F3
  have hcl : (256 :: cInts cs).length = cs.length + 1 := by unfold cInts; simp
  rw [hcl] at hR9
  refine rng_iter (n := cs.length + 1) (PEJ w.params d dd x dx ba qt k1 k2 data tl m cs) rfl hR9 ?_ ?_ F3 N3 ?_ ?_ ?_
  · exact small_one (by (first | lia | omega)) (by (first | lia | omega)) (by (first | lia | omega)) (by (first | lia | omega))
  · rw [rangeSize_nat]; (first | lia | omega)
  · refine ⟨tb, buff, t1, t2, t, t, bpos, pos, n, nb, pv, items, rfl, S, hR, ?_, fun h => absurd h (by (first | lia | omega))⟩
    intro y _ y2
    show (if y = _ then _ else _) = _
    split
    · rename_i q; rw [q, m3]
    · rfl
  · intro i tk m₁ nx h tk' own hin ho hJ F4 N4
    obtain ⟨tb', buff', t1', t2', t3', t', bpos', pos', n', nb', pv', items', rfl, S', hR', hy, hw⟩ := hJ
    have F5 : Fr h₀ L h (fun y => if y = "k" then some (.int (i : Int) tk) else m₁ y) := by
      have e : (0 : Int) + (i : Int) * 1 = i := by (first | lia | omega)
      rw [e] at F4; exact F4
    have N5 : News h₀ L h (Led w.params d dd tb' x dx ba qt buff' t1' bpos' t2' nb' pv' items' n' pos' k1 k2 t' data (tl ++ own)) := N4
    have S5 : Six d dd tb' x dx ba (tl ++ own) := S'.app (six_own ho)
    have hdl : data.size * 8 = 9 * (cs.length + 1) + ls.length := by
      have := congrArg List.length hbits
      rw [data_len, List.length_append, codeBits_len, hcl, Array.length_toList] at this
      omega
    have hle : 9 * i + 9 ≤ 8 * data.size := by (first | lia | omega)
    have keep : ∀ (m' : PySem.Str → Option Value), (∀ y : PySem.Str, y ≠ "told" → m' y = (if y = "k" then some (.int (i : Int) tk) else m₁ y)) → ∀ y : PySem.Str, y ≠ "k" → y ≠ "told" → m' y = m y := by
      intro m' h y y1 y2
      rw [h y y2, if_neg y1]; exact hy y y1 y2
    rcases Nat.eq_zero_or_pos i with z | hpos
    · subst z
      obtain ⟨kt, gk⟩ := ints_get hiC 0 256 rfl
      obtain ⟨dv, gD, hdv⟩ := hdD.get 0 (some []) rfl
      obtain ⟨td, rfl⟩ := hdv
      have h9 : numOf (((dataBits data.toList).drop (9 * 0)).take 9) = 256 := by rw [hbits, codeBits_at _ _ 0 256 rfl, num_bits]; decide
      refine turnE0 (i := 0) (tl := tl ++ own) X T F5 (if_pos rfl) ((if_neg (by decide)).trans ((hy _ (by decide) (by decide)).trans m2)) ((if_neg (by decide)).trans ((hy _ (by decide) (by decide)).trans m3)) ((if_neg (by decide)).trans ((hy _ (by decide) (by decide)).trans m4)) N5 S5 (List.mem_append_left _ hC) (List.mem_append_left _ hD) gk (by simpa using gD) (by (first | lia | omega)) hsz hR' hle h9 ?_
      intro h' tk3 m' tb2 buff2 t12 t22 t32 t42 bpos2 pos2 n2 nb2 items2 F6 hy6 hR6 hT6 S6 N6
      refine (show InvEndG _ _ _ _ _ _ from InvEndG.intro (news' := _) (nx := Led w.params d dd tb2 x dx ba qt buff2 t12 bpos2 t22 nb2 (.bytes #[] t32) items2 n2 pos2 k1 k2 t42 data tl) F6 N6 ⟨tb2, buff2, t12, t22, t32, t42, bpos2, pos2, n2, nb2, (.bytes #[] t32), items2, rfl, S6.left, hR6, keep _ hy6, fun _ => ⟨rfl, hT6⟩⟩ ?_ ?_ ?_)
      · exact led_own2 (six_off S6) (tl_own ho)
      · exact led_left
      · exact led_right
    · obtain ⟨j, rfl⟩ : ∃ j, i = j + 1 := ⟨i - 1, by (first | lia | omega)⟩
      obtain ⟨hpv, hTw⟩ := hw (by (first | lia | omega))
      rw [Nat.add_sub_cancel] at hpv hTw
      subst hpv
      have hjlt : j < cs.length := by (first | lia | omega)
      have hcj : cs[j]? = some cs[j] := List.getElem?_eq_getElem hjlt
      have hcI : (256 :: cInts cs)[j + 1]? = some ((cs[j] : Nat) : Int) := by
        rw [List.getElem?_cons_succ]; unfold cInts; rw [List.getElem?_map, hcj]; rfl
      obtain ⟨kt, gk⟩ := ints_get hiC _ _ hcI
      obtain ⟨g1, g2⟩ := good_at cs [] j cs[j] hG hcj
      obtain ⟨dv, gD, hdv⟩ := hdD.get (j + 1) (outW (runW (cs.take j)) cs[j]) (by rw [List.getElem?_cons_succ]; exact outsW_at cs [] j _ hcj)
      have h9 : numOf (((dataBits data.toList).drop (9 * (j + 1))).take 9) = ((cs[j] : Nat) : Int) := by
        rw [hbits, codeBits_at _ _ _ _ hcI, num_bits]
        exact Int.emod_eq_of_lt (by (first | lia | omega)) (by (first | lia | omega))
      have hbd : Bd 19 (runW (cs.take j)) := (bd_run (cs.take j)).mono (by rw [List.length_take]; omega)
      have ers : runW (cs.take (j + 1 + 1 - 1)) = stepW (runW (cs.take j)) cs[j] := by
        rw [Nat.add_sub_cancel, List.take_add_one, hcj]
        exact runW_snoc _ _
      refine turnE (i := j + 1) (c := cs[j]) (ws := runW (cs.take j)) (tl := tl ++ own) X T F5 (if_pos rfl) ((if_neg (by decide)).trans ((hy _ (by decide) (by decide)).trans m2)) ((if_neg (by decide)).trans ((hy _ (by decide) (by decide)).trans m3)) ((if_neg (by decide)).trans ((hy _ (by decide) (by decide)).trans m4)) N5 S5 (List.mem_append_left _ hC) (List.mem_append_left _ hD) gk (by simpa using gD) hdv (by (first | lia | omega)) hsz hR' hle h9 hTw hbd g1 g2 ?_
      intro h' tk3 m' tb2 buff2 t12 t22 t32 t42 bpos2 pos2 n2 nb2 items2 F6 hy6 hR6 hT6 S6 N6
      refine (show InvEndG _ _ _ _ _ _ from InvEndG.intro (news' := _) (nx := Led w.params d dd tb2 x dx ba qt buff2 t12 bpos2 t22 nb2 (.bytes (lastW (stepW (runW (cs.take j)) cs[j])).toArray t32) items2 n2 pos2 k1 k2 t42 data tl) F6 N6 ⟨tb2, buff2, t12, t22, t32, t42, bpos2, pos2, n2, nb2, (.bytes (lastW (stepW (runW (cs.take j)) cs[j])).toArray t32), items2, rfl, S6.left, hR6, keep _ hy6, fun _ => by rw [ers]; exact ⟨rfl, hT6⟩⟩ ?_ ?_ ?_)
      · exact led_own2 (six_off S6) (tl_own ho)
      · exact led_left
      · exact led_right
  · intro m₁ nx h tk hJ F4 N4
    obtain ⟨tb', buff', t1', t2', t3', t', bpos', pos', n', nb', pv', items', rfl, S', hR', hy, hw⟩ := hJ
    show wpAny _ _ (execs [] _) _ _ _
    rw [execs_nil]
    exact wpAny_pure (ret _ _ _ tb' buff' t1' t2' t' bpos' pos' n' nb' pv' items' F4 hy hR' S' N4)
end
end
end Mine
namespace Mine
section
open PySem PySem.W PySem.Calls PyProof.Rows
set_option maxHeartbeats 8000000
set_option compiler.extract_closed false
theorem wReset66 : 1 = 1 := by walk1
theorem in56 (P : Params) : excIn (KK P) 56 [.type "EOFError", .type "Exception", .type "BaseException", .type "object"] "Exception.__new__" = true := by kernel_rfl
section
variable {w : World} {A₀ : Around} {s' : Shared} {h₀ h : Heap} {outer : List Env} {L a e t : Addr} {m : PySem.Str → Option Value} {name : PySem.Str} {scope : Scope} {cd : Value} {cl : List (PySem.Str × Addr)}
  {b₀ : Stmt} {suite : List Stmt} {pos np : Pos} {rest : List ExceptHandler} {Q : Flow → Shared → Prop} {news : List (Addr × Obj)}
  {p : Program} {loose : List PySem.Str} {mg mb : PySem.Str → Option Value}
/-- a raised PDFEOFError is caught in a frame with cells -/
theorem caught_56 (F : Fr h₀ L h m) (hsm : h.UpToSlots s'.heap) (hA : A₀.frames = some outer) (R : RaisedK h₀ (envX name scope L a cd cl :: outer) e (.ref 56) t [] news s'.heap)
    (X : (KK w.params).In h₀) (T : TopRead p loose mg mb h₀)
    (k : ∀ h', Fr h₀ L h' m → News h₀ L h' news → wpAny (model pw w) ((A₀.deeper (envX name scope L a cd cl)).mark (some (.ref e))) (execs (b₀ :: suite) (envX name scope L a cd cl)) Q (fun _ _ => False) { s' with heap := h' })
    (hk : scope.kind = .function := by rfl) (hx : (envX name scope L a cd cl).kindOf "PDFEOFError" = some .globalImplicit := by rfl) :
    wpAny (model pw w) (A₀.deeper (envX name scope L a cd cl)) (noteFrame (.ref e) (envX name scope L a cd cl))
      (fun _ s₂ => wpAny (model pw w) (A₀.deeper (envX name scope L a cd cl)) (setFlight (.ref e) none) (fun _ s₃ =>
        wpAny (model pw w) (A₀.deeper (envX name scope L a cd cl)) (handleBy (.ref e) (envX name scope L a cd cl) (.ExceptHandler (some (.Name "PDFEOFError" np)) none (b₀ :: suite) pos :: rest)) Q (fun _ _ => False) s₃) (fun _ _ => False) s₂) (fun _ _ => False) s' := by
  obtain ⟨⟨B, hB, hl, hfl, hnew⟩, htup⟩ := R
  have hL : B.get? L = none := by
    obtain ⟨_, ⟨L', _, hf, hn', _⟩, _⟩ := hfl.2.2.1
    obtain rfl : L = L' := Option.some.inj hf
    exact hn'
  refine wpAny_looks_onW (Around.frames_deeper hA) rfl hfl fun h₄ hheld₄ hsm₄ => ?_
  refine wpAny_landsW hheld₄ fun h₅ hheld hsm₅' => ?_
  have hsm₅ := hsm₄.trans hsm₅'
  have hheld' := flyingW_base hB hheld
  have F₅ := F.of_stays hheld'.1 (hsm.trans hsm₅)
  obtain ⟨ob, hob, hobc⟩ := hheld'.there
  refine wpAny_handleBy_cons (codeAny_handlers_test (nameX_K F₅ X T (ex56 _) ?_ hk hx (by decide))) (by intro q; cases q)
  obtain ⟨bm, N, nm, qn, bs, hdct, sn, sub, ab, col, dd, k0, k1, k2, k3, k5, mN, hC, hN, hni, TL⟩ := ((own_of_in X T (ex56 _) (in56 _)).keeps F₅.keep).obj
  refine wpAny_excMatches_sub_self hC hob hobc (TL.hasType (by decide)) (codeAny_handlers_suite ?_)
  refine lands_againW hheld fun h₆ hfl₆ hsm₆ => ?_
  have hfl₆' := flyingW_base hB hfl₆
  have F₆ := F.of_stays hfl₆'.1 ((hsm.trans hsm₅).trans hsm₆)
  refine wpAny_mono (k h₆ F₆ fun q hq => ⟨hfl₆.1 _ _ (hl q hq).1, (fun z => by have := (hl q hq).1; rw [z, hL] at this; cases this), (hl q hq).2⟩) (fun _ _ x => x) fun _ _ x => x.elim
end


theorem slice_upto {prog : Program} {w : World} {A : Around} {E : Value → Shared → Prop} {s : Shared} {h₀ : Heap} {L l : Addr} {m : PySem.Str → Option Value} {news : List (Addr × Obj)} {value slice : PySem.Expr} {its : List Value} {os : List Int} {n : Nat} {k : Nat} {tk : Tok} {Q : Value → Shared → Prop}
    (F : Fr h₀ L s.heap m) (N : News h₀ L s.heap news) (hm : (l, PySem.W.listOf its.toArray n) ∈ news) (hi : IntsAre its os) (hz : os.length ≤ 5000)
    (h : ∀ D ws h', Fr h₀ L h' m → News h₀ L h' ((D, PySem.W.listOf (List.toArray ws) 0) :: news) → (∀ p ∈ news, p.1 < D) → IntsAre ws (os.take k) → Q (.ref D) { s with heap := h' })
    (hs : subscripted slice false (.ref l) (.ref s.heap.objs.size) = operate [.ref s.heap.objs.size, .ref l] (getItem (.ref l) (.ref s.heap.objs.size)) := by with_unfolding_all rfl) (ht : ∀ r, letTemporaryGo value (.ref l) r = pure () := by intro _; with_unfolding_all rfl) :
    wpAny (model prog w) A (subscriptTail value slice (.ref l) (.ref s.heap.objs.size)) Q E { s with heap := s.heap.push { cls := .type "slice", data := .fields #[.none, .int ((k : Nat) : Int) tk, .none] } } := by
  have hp := kmk_upto (y := ((k : Nat) : Int)) hi (by (first | lia | omega))
  rw [Int.toNat_natCast] at hp
  exact kmk_slice_ints F N (News.isList N hm) IsPart.none (IsPart.int _ _) hi hp rfl (fun D ws h' F' N' l1 hi' _ _ => h D ws h' F' N' l1 hi') hs ht (by rw [List.size_toArray, hi.length, sizeLine_eq]; omega)
theorem slice_fromN {prog : Program} {w : World} {A : Around} {E : Value → Shared → Prop} {s : Shared} {h₀ : Heap} {L l : Addr} {m : PySem.Str → Option Value} {news : List (Addr × Obj)} {value slice : PySem.Expr} {its : List Value} {os : List Int} {n : Nat} {k : Nat} {tk : Tok} {Q : Value → Shared → Prop}
    (F : Fr h₀ L s.heap m) (N : News h₀ L s.heap news) (hm : (l, PySem.W.listOf its.toArray n) ∈ news) (hi : IntsAre its os) (hz : os.length ≤ 5000)
    (h : ∀ D ws h', Fr h₀ L h' m → News h₀ L h' ((D, PySem.W.listOf (List.toArray ws) 0) :: news) → (∀ p ∈ news, p.1 < D) → IntsAre ws (os.drop k) → Q (.ref D) { s with heap := h' })
    (hs : subscripted slice false (.ref l) (.ref s.heap.objs.size) = operate [.ref s.heap.objs.size, .ref l] (getItem (.ref l) (.ref s.heap.objs.size)) := by with_unfolding_all rfl) (ht : ∀ r, letTemporaryGo value (.ref l) r = pure () := by intro _; with_unfolding_all rfl) :
    wpAny (model prog w) A (subscriptTail value slice (.ref l) (.ref s.heap.objs.size)) Q E { s with heap := s.heap.push { cls := .type "slice", data := .fields #[.int ((k : Nat) : Int) tk, .none, .none] } } := by
  have hp := kmk_from (x := ((k : Nat) : Int)) hi (by (first | lia | omega))
  rw [Int.toNat_natCast] at hp
  exact kmk_slice_ints F N (News.isList N hm) (IsPart.int _ _) IsPart.none hi hp rfl (fun D ws h' F' N' l1 hi' _ _ => h D ws h' F' N' l1 hi') hs ht (by rw [List.size_toArray, hi.length, sizeLine_eq]; omega)
local macro_rules | `(tactic| k_room) => `(tactic| ktr_room)
theorem len_led {prog : Program} {w : World} {A : Around} {E : Value → Shared → Prop} {s : Shared} {h₀ : Heap} {L l : Addr} {news : List (Addr × Obj)} {it : List Value} {ls : List Int} {n : Nat} {Q : Value → Shared → Prop} (N : News h₀ L s.heap news) (hl : (l, W.listOf it.toArray n) ∈ news) (hi : IntsAre it ls) (hz : ls.length ≤ 1000)
    (h : Q (.int ls.length (s.toks + 1)) { s with toks := s.toks + 1 + 1 }) : wpAny (model prog w) A (call (.builtin "len") [.ref l]) Q E s := by
  have hq := hi.length
  refine len_list (News.isList N hl) (by rw [List.size_toArray]; omega) ?_
  rw [List.size_toArray, hq]; exact h

theorem in_take {bs : List Int} {b : Nat} (h : ∀ x ∈ bs, 0 ≤ x ∧ x ≤ 1) : ∀ x ∈ bs.take b, 0 ≤ x ∧ x ≤ 1 := fun x hx => h x (List.mem_of_mem_take hx)
local macro_rules | `(tactic| walk_at "exec Try cons cons nil nil") => `(tactic| (k_here; refine wpAny_Try_except ?_))
section
variable {w : World} {p : Program} {loose : List PySem.Str} {mean : ExcName → Option Value} {mg mb : PySem.Str → Option Value} {s : Shared} {Q : Flow → Shared → Prop} {h₀ : Heap} {L : Addr} {m : PySem.Str → Option Value}
theorem left_back {m : PySem.Str → Option Value} {v k d c : Value} (m1 : m "width" = some k) (m2 : m "decoder" = some d) (m3 : m "left" = some c) : ∀ y : PySem.Str, y ≠ "left" →
    (if y = "left" then some v else if y = "width" then some k else if y = "decoder" then some d else if y = "left" then some c else m y) = m y := by
  intro y hy
  rw [if_neg hy]
  split
  · rename_i q; rw [q, m1]
  split
  · rename_i q; rw [q, m2]
  · rfl
theorem permF {h₀ h : Heap} {L : Addr} {D E d dd tb x dx ba l : Addr × Obj} {n : List (Addr × Obj)} (N : News h₀ L h (D :: E :: d :: dd :: tb :: x :: dx :: ba :: l :: n)) : News h₀ L h (d :: dd :: tb :: x :: dx :: ba :: D :: n) := news_sub N (by ((repeat (refine sub_cons (by repeat (first | exact List.Mem.head _ | refine List.Mem.tail _ ?_)) ?_)); first | exact sub_nil | (intro q hq; repeat (first | exact hq | refine List.Mem.tail _ ?_))))
theorem turnF {d dd tb x dx ba lf : Addr} {qt : DT} {buff : Int} {t1 t2 k1 k2 t tw : Tok} {bpos pos n k b nL : Nat} {nb pv : Value} {items itL : List Value} {data : Array UInt8} {tl : List (Addr × Obj)} {ls : List Int}
    (X : (KK w.params).In h₀) (T : Top p loose mean mg mb h₀) (F : Fr h₀ L s.heap m) (m1 : m "width" = some (.int ((k : Nat) : Int) tw)) (m2 : m "decoder" = some (.ref d)) (m3 : m "left" = some (.ref lf))
    (N : News h₀ L s.heap (Led w.params d dd tb x dx ba qt buff t1 bpos t2 nb pv items n pos k1 k2 t data ((lf, W.listOf itL.toArray nL) :: tl))) (S : Six d dd tb x dx ba ((lf, W.listOf itL.toArray nL) :: tl)) (hiL : IntsAre itL ls) (h01 : ∀ x ∈ ls, 0 ≤ x ∧ x ≤ 1)
    (hl : ls.length ≤ 39) (hk1 : 1 ≤ k) (hk2 : k ≤ 40) (hsz : data.size ≤ 1000) (hR : Rd data pos bpos buff b) (hb : b + ls.length = 8 * data.size) (hdr : (dataBits data.toList).drop b = ls)
    (ret : k ≤ ls.length → ∀ (h' : Heap) (tk : Nat) (m' : PySem.Str → Option Value) (lf' : Addr) (itL' : List Value) (buff' : Int) (t1' t2' t' : Tok) (bpos' pos' : Nat), Fr h₀ L h' m' → m' "left" = some (.ref lf') → (∀ y : PySem.Str, y ≠ "left" → m' y = m y) → Rd data pos' bpos' buff' (b + k) → IntsAre itL' (ls.drop k) → News h₀ L h' (Led w.params d dd tb x dx ba qt buff' t1' bpos' t2' nb pv items n pos' k1 k2 t' data ((lf', W.listOf itL'.toArray 0) :: tl)) →
      OwnOff (Led w.params d dd tb x dx ba qt buff' t1' bpos' t2' nb pv items n pos' k1 k2 t' data tl) [lf'] → Q .next { s with heap := h', toks := tk })
    (fin : ls.length < k → ∀ (h' : Heap) (tk : Nat), (∃ m', Fr h₀ L h' m') → Q (.ret (.bool true)) { s with heap := h', toks := tk }) :
    wpAny (model pw w) (LA L) (execs (forB 10) (lawEnv L)) Q (fun _ _ => False) s := by
  have B0 := below_caller h₀
  have hil := hiL.length
  replace F := fr_know (fr_know (fr_know F m3) ((if_neg (by decide)).trans m2)) ((if_neg (by decide)).trans ((if_neg (by decide)).trans m1))
  show wpAny _ _ (execs [_, _, _] _) _ _ _
  (repeat' (first | (k_unfold; (try dsimp only)) | (k_end; kc_close) | ((rename RaisedK _ _ _ _ _ _ _ _ => rkX); k_dflt (refine' caught_56 (A₀ := callerA) (outer := []) ?F ?U rfl rkX ?X ?T ?_; (case F => assumption); (case U => assumption); (case X => k_asm); (case T => exact topRead_of (by assumption))); intro h' F' N') | (k_here; (with_reducible show wpAny _ _ (call (Value.ref 221) [_, Value.int _ _]) _ _ _); k_dflt (refine' readbits_L ?kB ?kF ?kX ?kN ?kT ?kk ?kS ?kz ?r0 ?r1 ?kR ?k4 ?k5 (fun hle h' tk' pos' bpos' buff' tv t' t1' t2' hR' F' N' => ?_) (fun hlt h' tk' e t' lg g' R F' U => ?_); (case kB => k_asm); (case kF => k_asm); (case kX => k_asm); (case kN => k_asm); (case kT => k_asm); (case kk => exact rfl); (case kS => assumption); (case kz => assumption); (case r0 => omega); (case r1 => omega); (case kR => assumption); (case k4 => decide); (case k5 => decide))) | (k_here; (with_reducible show wpAny _ _ (call (Value.ref 1440) [_]) _ _ _); k_dflt (refine' number_spec ?kB ?kF ?kX ?kN ?kT ?kk ?hb ?hi ?h01 ?hl ?k4 ?k5 (fun h' tk' t' F' N' => ?_); (case kB => k_asm); (case kF => k_asm); (case kX => k_asm); (case kN => k_asm); (case kT => k_asm); (case kk => exact rfl); (case hb => (repeat (first | exact List.Mem.head _ | refine List.Mem.tail _ ?_))); (case hi => assumption); (case h01 => exact in_take (by assumption)); (case hl => (rw [List.length_take]; omega)); (case k4 => decide); (case k5 => decide))) | (k_here; (with_reducible show wpAny _ _ (subscriptTail _ (PySem.Expr.Slice (some _) none none _) (Value.ref _) (Value.ref _)) _ _ _); k_dflt (refine' slice_fromN (s := ⟨_, _, _, _, _⟩) ?F ?N ?hm ?hi ?hz ?_; (case F => k_asm); (case N => k_asm); (case hm => (repeat (first | exact List.Mem.head _ | refine List.Mem.tail _ ?_))); (case hi => assumption); (case hz => omega)); intro D' ws' h' F' N' l1 hi'; (try k_lt l1)) | (k_here; (with_reducible show wpAny _ _ (subscriptTail _ (PySem.Expr.Slice none (some _) none _) (Value.ref _) (Value.ref _)) _ _ _); k_dflt (refine' slice_upto (s := ⟨_, _, _, _, _⟩) ?F ?N ?hm ?hi ?hz ?_; (case F => k_asm); (case N => k_asm); (case hm => (repeat (first | exact List.Mem.head _ | refine List.Mem.tail _ ?_))); (case hi => assumption); (case hz => omega)); intro D' ws' h' F' N' l1 hi'; (try k_lt l1)) | (k_here; (with_reducible show wpAny _ _ (call (Value.builtin "len") [Value.ref _]) _ _ _); k_dflt (refine' len_led ?k1 ?k2 ?k3 ?k4 ?_; (case k1 => k_asm); (case k2 => (repeat (first | exact List.Mem.head _ | refine List.Mem.tail _ ?_))); (case k3 => assumption); (case k4 => omega); k_whole)) | walk1 | (dsimp only; walk1) | (leave1; (try dsimp only)) | fail "no step"))
  · exfalso; (first | lia | omega)
  · rename Fr _ _ _ _ => FF
    exact fin (by (first | lia | omega)) _ _ ⟨_, FF⟩
  · rename _ ≠ numOf _ => hne
    rw [hdr] at hne
    exact absurd rfl hne
  · rename News _ _ _ _ => NN
    rename Fr _ _ _ _ => FF
    rename _ ∧ _ ∧ _ ∧ _ ∧ _ ∧ _ ∧ _ ∧ _ ∧ AllLt _ _ => q1
    obtain ⟨_, a1, a2, a3, a4, a5, a6, _, a7⟩ := q1
    refine ret (by (first | lia | omega)) _ _ _ _ _ _ _ _ _ _ _ FF rfl (left_back m1 m2 m3) (by assumption) (by assumption) (permF NN) ?_
    intro q hq b hb
    obtain rfl := List.mem_singleton.mp hb
    simp only [Led, List.mem_cons] at hq
    rcases hq with rfl | rfl | rfl | rfl | rfl | rfl | hq
    · exact Nat.ne_of_lt a1
    · exact Nat.ne_of_lt a2
    · exact Nat.ne_of_lt a3
    · exact Nat.ne_of_lt a4
    · exact Nat.ne_of_lt a5
    · exact Nat.ne_of_lt a6
    · exact Nat.ne_of_lt (allLt_mem a7 q hq)
end
end
end Mine
namespace Mine
section
open PySem PySem.W PySem.Calls PyProof.Rows
set_option maxHeartbeats 8000000
set_option compiler.extract_closed false
theorem wReset67 : 1 = 1 := by walk1
local macro_rules | `(tactic| k_room) => `(tactic| ktr_room)
local macro_rules | `(tactic| walk_at "pyIter ref") => `(tactic| (k_here; refine Hold.out ?_))
local macro_rules | `(tactic| walk_at "exec For") => `(tactic| (k_here; refine Hold.out ?_))
local macro_rules | `(tactic| walk_at "exec For Name BinOp cons nil") => `(tactic| (k_here; refine Hold.out ?_))
local macro_rules | `(tactic| walk_at "eval ListComp") => `(tactic| (k_here; k_dflt (refine comp_rng (by k_asm) (by with_unfolding_all rfl) (by decide) (by rfl) (by decide) (by rfl) ?_)))
inductive PFJ (P : Params) (d dd tb x dx ba : Addr) (qt : DT) (nb pv : Value) (items : List Value) (n : Nat) (k1 k2 : Tok) (data : Array UInt8) (tl : List (Addr × Obj)) (i : Nat) (m' : PySem.Str → Option Value) (nx : List (Addr × Obj)) : Prop
  | mk (hi6 : i ≤ 6) (lf' : Addr) (itL' : List Value) (nL' : Nat) (ls' : List Int) (b' : Nat) (buff' : Int) (t1' t2' t' : Tok) (bpos' pos' : Nat) (hnx : nx = Led P d dd tb x dx ba qt buff' t1' bpos' t2' nb pv items n pos' k1 k2 t' data ((lf', W.listOf itL'.toArray nL') :: tl)) (S : Six d dd tb x dx ba ((lf', W.listOf itL'.toArray nL') :: tl))
      (q1 : m' "decoder" = some (.ref d)) (q2 : m' "left" = some (.ref lf')) (hiL : IntsAre itL' ls') (h01 : ∀ x ∈ ls', 0 ≤ x ∧ x ≤ 1) (hl : ls'.length ≤ 39) (hR : Rd data pos' bpos' buff' b') (hb : b' + ls'.length = 8 * data.size) (hdr : (dataBits data.toList).drop b' = ls') : PFJ P d dd tb x dx ba qt nb pv items n k1 k2 data tl i m' nx
section
variable {w : World} {p : Program} {loose : List PySem.Str} {mean : ExcName → Option Value} {mg mb : PySem.Str → Option Value} {s : Shared} {Q : Flow → Shared → Prop} {h₀ : Heap} {L : Addr} {m : PySem.Str → Option Value}
theorem widths_at {hd kv : Int} {i : Nat} (h : (List.map (fun k => 1 + (hd.fdiv (7 ^ k.toNat)).fmod 16) (List.map (fun (i : Nat) => (i : Int)) (List.range 6)) ++ [40])[i]? = some kv) : 1 ≤ kv ∧ kv ≤ 40 ∧ i ≤ 6 ∧ (i = 6 → kv = 40) := by
  have hlt : i < 7 := by
    rcases Nat.lt_or_ge i 7 with q | q
    · exact q
    · rw [List.getElem?_eq_none (by simpa using q)] at h; cases h
  have hf : ∀ x : Int, 0 ≤ x.fmod 16 ∧ x.fmod 16 < 16 := fun x => ⟨Int.fmod_nonneg_of_pos _ (by decide), Int.fmod_lt_of_pos _ (by decide)⟩
  rcases (show i = 6 ∨ i < 6 by (first | lia | omega)) with rfl | h6
  · have e : kv = 40 := by
      rw [List.getElem?_append_right (by simp)] at h
      simpa using h.symm
    omega
  · rw [List.getElem?_append_left (by simpa using h6), List.getElem?_map] at h
    obtain ⟨y, _, rfl⟩ := Option.map_eq_some_iff.mp h
    have := hf (hd.fdiv (7 ^ y.toNat))
    omega
theorem Six.cons {d dd tb x dx ba : Addr} {tl : List (Addr × Obj)} {q : Addr × Obj} (S : Six d dd tb x dx ba tl) (h : ∀ b ∈ [d, dd, tb, x, dx, ba], @Ne Nat q.1 b) : Six d dd tb x dx ba (q :: tl) :=
  ⟨S.a1, S.a2, S.a3, S.a4, S.a5, S.b1, S.b2, S.b3, S.b4, S.c1, S.c2, S.c3, S.e1, S.e2, S.e3, fun p hp b hb => (List.mem_cons.mp hp).elim (fun e => by rw [e]; exact h b hb) fun h' => S.off p h' b hb⟩
theorem Six.tail {d dd tb x dx ba : Addr} {tl : List (Addr × Obj)} {q : Addr × Obj} (S : Six d dd tb x dx ba (q :: tl)) : Six d dd tb x dx ba tl :=
  ⟨S.a1, S.a2, S.a3, S.a4, S.a5, S.b1, S.b2, S.b3, S.b4, S.c1, S.c2, S.c3, S.e1, S.e2, S.e3, fun p hp b hb => S.off p (.tail _ hp) b hb⟩
theorem partF {d dd tb x dx ba lf : Addr} {qt : DT} {buff : Int} {t1 t2 k1 k2 t th : Tok} {bpos pos n b nL : Nat} {nb pv : Value} {items itL : List Value} {data : Array UInt8} {tl : List (Addr × Obj)} {ls : List Int} {ch : Obj} {hd : Int}
    (X : (KK w.params).In h₀) (T : Top p loose mean mg mb h₀) (F : Fr h₀ L s.heap m) (m2 : m "decoder" = some (.ref d)) (m3 : m "left" = some (.ref lf))
    (N : News h₀ L s.heap ((L + 1, ch) :: Led w.params d dd tb x dx ba qt buff t1 bpos t2 nb pv items n pos k1 k2 t data ((lf, W.listOf itL.toArray nL) :: tl))) (hch : ch.data = .cell (some (.int hd th))) (hd0 : 0 ≤ hd) (hd1 : hd < 100000)
    (S : Six d dd tb x dx ba ((lf, W.listOf itL.toArray nL) :: tl)) (hiL : IntsAre itL ls) (h01 : ∀ x ∈ ls, 0 ≤ x ∧ x ≤ 1)
    (hl : ls.length ≤ 39) (hsz : data.size ≤ 1000) (hR : Rd data pos bpos buff b) (hb : b + ls.length = 8 * data.size) (hdr : (dataBits data.toList).drop b = ls)
    (fin : ∀ (h' : Heap) (tk : Nat), (∃ m', Fr h₀ L h' m') → Q (.ret (.bool true)) { s with heap := h', toks := tk }) :
    wpAny (model pw w) (LA L) (execs (LB 10 1) (lawEnv L)) Q (fun _ _ => False) s := by
  have B0 := below_caller h₀
  have hil := hiL.length
  replace F := fr_know (fr_know F m3) ((if_neg (by decide)).trans m2)
  show wpAny _ _ (execs [_] _) _ _ _
  (repeat' (first | (k_unfold; (try dsimp only)) | (k_end; kc_close) | ((with_reducible show wpAny _ _ (binaryOp _ (Value.int _ _) (Value.int _ _)) _ _ _); (with_reducible refine floordiv_int ?kbe ?_ (Or.inl ?kbp)); (case kbe => assumption); (case kbp => exact PyProof.noPylong_small (by assumption))) | ((with_reducible show wpAny _ _ (binaryOp _ (Value.ref _) (Value.ref _)) _ _ _); k_dflt (refine' add_arr ?F ?N ?hl ?hb ?hz ?_; (case F => k_asm); (case N => k_asm); (case hl => exact News.isList (by k_asm) (by k_mem)); (case hb => exact News.isList (by k_asm) (by k_mem)); (case hz => (first | omega | (have hq' := IntsAre.length (by assumption); omega)))); intro D' h' F' N' l1; (try k_lt l1)) | walk1 | (dsimp only; walk1) | (leave1; (try dsimp only)) | fail "no step"))
  unfold Hold
  rename Fr _ _ _ _ => FF
  refine For_invVF (hE := passes_no) FF rfl rfl ?_
  (repeat' (first | (k_unfold; (try dsimp only)) | (k_end; kc_close) | ((with_reducible show wpAny _ _ (binaryOp _ (Value.int _ _) (Value.int _ _)) _ _ _); (with_reducible refine floordiv_int ?kbe ?_ (Or.inl ?kbp)); (case kbe => assumption); (case kbp => exact PyProof.noPylong_small (by assumption))) | ((with_reducible show wpAny _ _ (binaryOp _ (Value.ref _) (Value.ref _)) _ _ _); k_dflt (refine' add_arr ?F ?N ?hl ?hb ?hz ?_; (case F => k_asm); (case N => k_asm); (case hl => exact News.isList (by k_asm) (by k_mem)); (case hb => exact News.isList (by k_asm) (by k_mem)); (case hz => (first | omega | (have hq' := IntsAre.length (by assumption); omega)))); intro D' h' F' N' l1; (try k_lt l1)) | walk1 | (dsimp only; walk1) | (leave1; (try dsimp only)) | fail "no step"))
  refine SrcC.intro 6 (by rfl) (by assumption) (by assumption) (by assumption) (by decide) (by decide) (by exact Nat.le_of_ble_eq_true rfl) fun g => ?_
  refine kcf_rest (ks := (List.range 6).map fun (i : Nat) => (i : Int)) (fun k => 1 + (hd.fdiv (7 ^ k.toNat)).fmod 16) (by simp) ?_ ?_ ?_
  · rintro i x hi ⟨_, t, rfl⟩
    exact ⟨0 + (i : Int) * 1, t, by rw [List.getElem?_map, List.getElem?_range hi]; show some ((i : Int)) = _; congr 1; omega, rfl⟩
  · intro k t I oI C oC D m₂ ys h tk E' hk hC hx F N off ne hM
    obtain ⟨hk0, hk1⟩ : 0 ≤ k ∧ k < 6 := by simp at hk; (first | lia | omega)
    have hp7 : (7 : Int) ^ k.toNat ≠ 0 := Int.ne_of_gt (Int.pow_pos (by decide))
    have hp8 : ((7 : Int) ^ k.toNat).natAbs < 1073741824 := by
      rcases (show k = 0 ∨ k = 1 ∨ k = 2 ∨ k = 3 ∨ k = 4 ∨ k = 5 by (first | lia | omega)) with rfl | rfl | rfl | rfl | rfl | rfl <;> decide
    (repeat' (first | (k_unfold; (try dsimp only)) | (k_end; kc_close) | ((with_reducible show wpAny _ _ (binaryOp _ (Value.int _ _) (Value.int _ _)) _ _ _); (with_reducible refine floordiv_int ?kbe ?_ (Or.inl ?kbp)); (case kbe => assumption); (case kbp => exact PyProof.noPylong_small (by assumption))) | ((with_reducible show wpAny _ _ (binaryOp _ (Value.ref _) (Value.ref _)) _ _ _); k_dflt (refine' add_arr ?F ?N ?hl ?hb ?hz ?_; (case F => k_asm); (case N => k_asm); (case hl => exact News.isList (by k_asm) (by k_mem)); (case hb => exact News.isList (by k_asm) (by k_mem)); (case hz => (first | omega | (have hq' := IntsAre.length (by assumption); omega)))); intro D' h' F' N' l1; (try k_lt l1)) | walk1 | (dsimp only; walk1) | (leave1; (try dsimp only)) | fail "no step"))
    all_goals trace_state
    all_goals w_report
  · unfold KPfDone
    intro ys hy
    (repeat' (first | (k_unfold; (try dsimp only)) | (k_end; kc_close) | ((with_reducible show wpAny _ _ (binaryOp _ (Value.int _ _) (Value.int _ _)) _ _ _); (with_reducible refine floordiv_int ?kbe ?_ (Or.inl ?kbp)); (case kbe => assumption); (case kbp => exact PyProof.noPylong_small (by assumption))) | ((with_reducible show wpAny _ _ (binaryOp _ (Value.ref _) (Value.ref _)) _ _ _); k_dflt (refine' add_arr ?F ?N ?hl ?hb ?hz ?_; (case F => k_asm); (case N => k_asm); (case hl => exact News.isList (by k_asm) (by k_mem)); (case hb => exact News.isList (by k_asm) (by k_mem)); (case hz => (first | omega | (have hq' := IntsAre.length (by assumption); omega)))); intro D' h' F' N' l1; (try k_lt l1)) | walk1 | (dsimp only; walk1) | (leave1; (try dsimp only)) | fail "no step"))
    unfold Hold
    rename IntsAre _ (_ ++ [40]) => hI
    rename News _ _ _ _ => N3
    rename Fr _ _ _ _ => F3
    rename_i l1
    obtain ⟨_, _, _, b1, b2, b3, b4, b5, b6, b7, b8⟩ := l1
    rename List Value => ws
    rename Addr => D
    have N5 : News h₀ L _ (Led w.params d dd tb x dx ba qt buff t1 bpos t2 nb pv items n pos k1 k2 t data ((lf, W.listOf itL.toArray nL) :: (D, W.listOf ws.toArray 0) :: tl)) := news_sub N3 (by ((repeat (refine sub_cons (by repeat (first | exact List.Mem.head _ | refine List.Mem.tail _ ?_)) ?_)); first | exact sub_nil | (intro q hq; repeat (first | exact hq | refine List.Mem.tail _ ?_))))
    refine kdl_iter (vs := ws) (nn := 0) (PFJ w.params d dd tb x dx ba qt nb pv items n k1 k2 data ((D, W.listOf ws.toArray 0) :: tl)) rfl ?_ F3 N5 ?_ ?_ ?_
    · exact .tail _ (.tail _ (.tail _ (.tail _ (.tail _ (.tail _ (.tail _ (.head _)))))))
    · refine ⟨by (first | lia | omega), lf, itL, nL, ls, b, buff, t1, t2, t, bpos, pos, rfl, ?_, rfl, rfl, hiL, h01, hl, hR, hb, hdr⟩
      exact Six.cons (S.tail.cons (ne_cons (Nat.ne_of_gt b1) (ne_cons (Nat.ne_of_gt b2) (ne_cons (Nat.ne_of_gt b3) (ne_cons (Nat.ne_of_gt b4) (ne_cons (Nat.ne_of_gt b5) (ne_cons (Nat.ne_of_gt b6) ne_nil))))))) (fun c hc => S.off _ (.head _) c hc)
    · intro i v m₁ nx h tk own hv ho hl2 hJ F4 N4
      obtain ⟨hi6, lf', itL', nL', ls', b', buff', t1', t2', t', bpos', pos', rfl, S', q1, q2, hiL', h01', hl', hR', hb', hdr'⟩ := hJ
      obtain ⟨kv, kt, rfl, hk⟩ := hI.at i v hv
      obtain ⟨w1, w2, _, w3⟩ := widths_at hk
      have ek : ((kv.toNat : Nat) : Int) = kv := Int.toNat_of_nonneg (by (first | lia | omega))
      have S2 : Six d dd tb x dx ba ((lf', W.listOf itL'.toArray nL') :: ((D, W.listOf ws.toArray 0) :: (tl ++ own))) := S'.app (own := own) (six_own ho)
      refine turnF (k := kv.toNat) (b := b') (tl := (D, W.listOf ws.toArray 0) :: (tl ++ own)) X T F4 ((if_pos rfl).trans (by rw [ek])) ((if_neg (by decide)).trans q1) ((if_neg (by decide)).trans q2) N4 S2 hiL' h01' hl' (by (first | lia | omega)) (by (first | lia | omega)) hsz hR' hb' hdr' ?_ ?_
      · intro hkl h2 tk2 m2' lf2 itL2 buff2 t12 t22 t2' bpos2 pos2 F5 q3 hy hR2 hi2 N6 of2
        have hi5 : i ≠ 6 := fun e => by have := w3 e; (first | lia | omega)
        refine (show InvEndG _ _ _ _ _ _ from InvEndG.intro (news' := _) (nx := Led w.params d dd tb x dx ba qt buff2 t12 bpos2 t22 nb pv items n pos2 k1 k2 t2' data ((lf2, W.listOf itL2.toArray 0) :: (D, W.listOf ws.toArray 0) :: tl)) F5 N6 ⟨?_, by (first | lia | omega), lf2, itL2, 0, ls'.drop kv.toNat, b' + kv.toNat, buff2, t12, t22, t2', bpos2, pos2, rfl, ?_, ?_, q3, hi2, ?_, ?_, hR2, ?_, ?_⟩ ?_ ?_ ?_)
        · exact .tail _ (.tail _ (.tail _ (.tail _ (.tail _ (.tail _ (.tail _ (.head _)))))))
        · refine Six.cons (S2.tail.left (tl := (D, W.listOf ws.toArray 0) :: tl)) ?_
          have g := fun p hp => of2 p hp lf2 (.head _)
          exact ne_cons (fun e => g _ (.head _) e.symm) (ne_cons (fun e => g _ (.tail _ (.head _)) e.symm) (ne_cons (fun e => g _ (.tail _ (.tail _ (.head _))) e.symm) (ne_cons (fun e => g _ (.tail _ (.tail _ (.tail _ (.head _)))) e.symm) (ne_cons (fun e => g _ (.tail _ (.tail _ (.tail _ (.tail _ (.head _))))) e.symm) (ne_cons (fun e => g _ (.tail _ (.tail _ (.tail _ (.tail _ (.tail _ (.head _)))))) e.symm) ne_nil)))))
        · rw [hy _ (by decide)]
          exact (if_neg (by decide)).trans q1
        · exact fun z hz => h01' z (List.mem_of_mem_drop hz)
        · rw [List.length_drop]; (first | lia | omega)
        · rw [List.length_drop]; (first | lia | omega)
        · rw [← List.drop_drop, hdr']
        · exact led_own2 (off_mono S2.off (fun q hq => .tail _ (.tail _ (List.mem_append_right _ hq))) (fun _ h => h)) (off_add (fun q hq => of2 q (.tail _ (.tail _ (.tail _ (.tail _ (.tail _ (.tail _ (.tail _ (List.mem_append_right _ hq)))))))) _ (.head _)) (off_mono ho (fun _ h => h) (fun x hx => .tail _ (.tail _ (.tail _ (.tail _ (.tail _ (.tail _ (.tail _ hx)))))))))
        · exact led_left (tl := _ :: _ :: tl)
        · exact led_right (tl := (lf2, W.listOf itL2.toArray 0) :: (D, W.listOf ws.toArray 0) :: tl)
      · intro _ h2 tk2 hm
        exact fin h2 tk2 hm
    · intro m₁ nx h tk hJ F4 N4
      exfalso
      have h1 := hI.length
      have h2 : ws.length ≤ 6 := by cases hJ; assumption
      simp at h1
      omega
end
end
end Mine
namespace Mine
section
open PySem PySem.W PySem.Calls PyProof.Rows
open Sem (wp)
set_option maxHeartbeats 8000000
theorem drop_split (l : List Stmt) (i j : Nat) : l.drop i = (l.drop i).take j ++ l.drop (i + j) := by
  rw [← List.drop_drop]; exact (List.take_append_drop j _).symm
theorem lawBody_is : lawBody = LB 0 2 ++ (LB 2 1 ++ (LB 3 2 ++ (LB 5 3 ++ (LB 8 1 ++ (LB 9 1 ++ (LB 10 1 ++ lawBody.drop 11)))))) := by
  have e : lawBody = lawBody.drop 0 := rfl
  conv => lhs; rw [e, drop_split lawBody 0 2, drop_split lawBody (0 + 2) 1, drop_split lawBody (0 + 2 + 1) 2, drop_split lawBody (0 + 2 + 1 + 2) 3, drop_split lawBody (0 + 2 + 1 + 2 + 3) 1, drop_split lawBody (0 + 2 + 1 + 2 + 3 + 1) 1, drop_split lawBody (0 + 2 + 1 + 2 + 3 + 1 + 1) 1]
  rfl
theorem execsGG_split {M : Model} {A : Around} {E : Value → Shared → Prop} {s : Shared} {env : Env} {Q : Flow → Shared → Prop} (pre post : List Stmt) (h : wpG M A (execs pre env) (fun f s' => match f with | .next => wpG M A (execs post env) Q E s' | f => Q f s') E s) : wpG M A (execs (pre ++ post) env) Q E s := fun Γ p hΓ g gl => by
  refine wp_execs_split post pre p s (Sem.wp_mono M Γ _ (fun f p' s' h' => ?_) (fun _ _ _ h' => h') p s (h Γ p hΓ g gl))
  cases f <;> first | exact (show wpG M A (execs post env) Q E s' from h') Γ p' hΓ g gl | exact h'
theorem good_codes : ∀ (cs : List Nat) (ws : List Wd), Good ws cs → ∀ c ∈ cInts cs, 0 ≤ c ∧ c < 512
  | [], _, _, c, h => by simp [cInts] at h
  | a :: r, ws, g, c, h => by
    unfold cInts at h
    rw [List.map_cons] at h
    rcases List.mem_cons.mp h with rfl | h
    · have := g.1; (first | lia | omega)
    · exact good_codes r _ g.2.2 c h
theorem codeBits_01 (cs : List Int) : ∀ x ∈ codeBits cs, 0 ≤ x ∧ x ≤ 1 := by
  intro x hx
  obtain ⟨c, _, hy⟩ := List.mem_flatMap.mp hx
  exact bits_01 _ _ _ hy
section
variable {w : World} {p : Program} {loose : List PySem.Str} {mean : ExcName → Option Value} {mg mb : PySem.Str → Option Value} {s : Shared} {Q : Flow → Shared → Prop} {h₀ : Heap} {L : Addr} {m : PySem.Str → Option Value}
theorem lawG {sc : Addr} {items : Array Value} {ns : List Int} {cb ch : Obj} (X : (KK w.params).In h₀) (T : Top p loose mean mg mb h₀) (hl : h₀.IsList sc items) (hi : IntsAre items.toList ns) (hn : ns.length ≤ 63)
    (F : Fr h₀ L s.heap m) (hm : m "script" = some (.ref sc)) (N : News h₀ L s.heap [(L + 1 + 1, cb), (L + 1, ch)]) (hb : cb.data = .cell none) (hh : ch.data = .cell none)
    (fin : ∀ (h' : Heap) (tk : Nat), (∃ m', Fr h₀ L h' m') → Q (.ret (.bool true)) { s with heap := h', toks := tk }) :
    wpG (model pw w) (LA L) (execs lawBody (lawEnv L)) Q (fun _ _ => False) s := by
  rw [lawBody_is]
  refine execsG_split _ _ (partA X T hl hi hn F hm N hb hh ?_)
  intro h1 tk1 m1 codes due ends octets ch' hd th t1 t2 t3 F1 q1 q2 q3 q4 q5 q6 N1 hch hd0 hd1 l1 l2 l3 l4
  refine execsG_split _ _ (partB X T hl hi hn F1 q1 q2 q3 q4 q5 q6 N1 l1 (Nat.lt_trans (Nat.lt_succ_self _) l1) l2 l3 l4 ?_)
  intro h2 tk2 m2 cs itC itD nC nD F2 r1 r2 N2 hcs hG hiC hdD
  have N2' : News h₀ L h2 ((L + 1 + 1, cb) :: [(codes, W.listOf itC.toArray nC), (due, W.listOf itD.toArray nD), (L + 1, ch')]) := news_sub N2 (by ((repeat (refine sub_cons (by repeat (first | exact List.Mem.head _ | refine List.Mem.tail _ ?_)) ?_)); first | exact sub_nil | (intro q hq; repeat (first | exact hq | refine List.Mem.tail _ ?_))))
  have off2 : OwnOff [(codes, W.listOf itC.toArray nC), (due, W.listOf itD.toArray nD), (L + 1, ch')] [L + 1 + 1] := off_cons (ne_cons (Nat.ne_of_gt l1) ne_nil) (off_cons (ne_cons (Nat.ne_of_gt (Nat.lt_trans l1 l2)) ne_nil) (off_cons (ne_cons (Nat.ne_of_lt (Nat.lt_succ_self _)) ne_nil) off_nil))
  have hcl : (256 :: cInts cs).length = cs.length + 1 := by unfold cInts; simp
  refine execsG_split _ _ (partC1 X T F2 r1 N2' hb (.head _) hiC (by (first | lia | omega)) ?_ off2 ?_)
  · intro c hc
    rcases List.mem_cons.mp hc with rfl | hc
    · decide
    · exact good_codes cs _ hG c hc
  intro h3 tk3 m3 bl lf itB nB cb' F3 hy3 hlf N3 hcb of3 n1 n2 n3 hiB
  have N3' : News h₀ L h3 ((L + 1 + 1, cb') :: (L + 1, ch') :: (bl, W.listOf itB.toArray nB) :: (lf, W.listOf ([] : List Value).toArray 0) :: [(codes, W.listOf itC.toArray nC), (due, W.listOf itD.toArray nD)]) := news_sub N3 (by ((repeat (refine sub_cons (by repeat (first | exact List.Mem.head _ | refine List.Mem.tail _ ?_)) ?_)); first | exact sub_nil | (intro q hq; repeat (first | exact hq | refine List.Mem.tail _ ?_))))
  have hbl : (codeBits (256 :: cInts cs)).length = 9 * (cs.length + 1) := by rw [codeBits_len, hcl]
  refine execsG_split _ _ (partC2 X T F3 hlf N3' hcb hch hd0 hd1 hiB (by (first | lia | omega)) ?_ n1 n2 (of3 (L + 1, ch') (by repeat (first | exact List.Mem.head _ | refine List.Mem.tail _ ?_)) bl (by repeat (first | exact List.Mem.head _ | refine List.Mem.tail _ ?_))) (of3 (L + 1, ch') (by repeat (first | exact List.Mem.head _ | refine List.Mem.tail _ ?_)) lf (by repeat (first | exact List.Mem.head _ | refine List.Mem.tail _ ?_))) n3 ?_)
  · have z : OwnOff [(codes, W.listOf itC.toArray nC), (due, W.listOf itD.toArray nD)] [bl, lf] := off_mono of3 (by ((repeat (refine sub_cons (by repeat (first | exact List.Mem.head _ | refine List.Mem.tail _ ?_)) ?_)); first | exact sub_nil | (intro q hq; repeat (first | exact hq | refine List.Mem.tail _ ?_)))) (fun _ h => .tail _ h)
    exact off_cons (ne_cons (Nat.ne_of_gt l1) (ne_cons (Nat.ne_of_gt (Nat.lt_trans (Nat.lt_succ_self _) l1)) (z _ (.head _)))) (off_cons (ne_cons (Nat.ne_of_gt (Nat.lt_trans l1 l2)) (ne_cons (Nat.ne_of_gt (Nat.lt_trans (Nat.lt_succ_self _) (Nat.lt_trans l1 l2))) (z _ (.tail _ (.head _))))) off_nil)
  intro h4 tk4 m4 bl2 lf2 itB2 itL cb2 ls F4 hlf4 hy4 N4 hcb2 hiB2 hiL h01 hl39 hmod o1 o2 o3 o4
  obtain ⟨n8, hn8⟩ : ∃ n8, (codeBits (256 :: cInts cs)).length + ls.length = 8 * n8 := ⟨((codeBits (256 :: cInts cs)).length + ls.length) / 8, by (first | lia | omega)⟩
  have hn50 : n8 ≤ 50 := by (first | lia | omega)
  have b01 : ∀ x ∈ codeBits (256 :: cInts cs) ++ ls, 0 ≤ x ∧ x ≤ 1 := fun x hx => (List.mem_append.mp hx).elim (codeBits_01 _ x) (h01 x)
  have hlen8 : (codeBits (256 :: cInts cs) ++ ls).length = 8 * n8 := by rw [List.length_append, hn8]
  have N4' : News h₀ L h4 ((L + 1 + 1, cb2) :: (bl2, W.listOf itB2.toArray 0) :: (L + 1, ch') :: (lf2, W.listOf itL.toArray 0) :: [(codes, W.listOf itC.toArray nC), (due, W.listOf itD.toArray nD)]) := news_sub N4 (by ((repeat (refine sub_cons (by repeat (first | exact List.Mem.head _ | refine List.Mem.tail _ ?_)) ?_)); first | exact sub_nil | (intro q hq; repeat (first | exact hq | refine List.Mem.tail _ ?_))))
  refine execsGG_split _ _ (partD X T F4 N4' hcb2 hiB2 b01 hlen8 hn50 ?_)
  intro h5 tk5 m5 d dd tb x dx ba qt u1 u2 u9 k1 k2 t F5 hd5 hy5 N5 lw p1 p2 p3 p4 p5
  have e5 : ∀ y : PySem.Str, y ≠ "decoder" → y ≠ "k" → y ≠ "left" → y ≠ "code" → m5 y = m2 y := fun y y1 y2 y3 y4 => by rw [hy5 y y1, hy4 y y2 y3, hy3 y y4 y3]
  have hdata : dataBits (packed (codeBits (256 :: cInts cs) ++ ls) n8).toArray.toList = codeBits (256 :: cInts cs) ++ ls := packed_bits n8 _ b01 hlen8
  have hsz : (packed (codeBits (256 :: cInts cs) ++ ls) n8).toArray.size = n8 := by rw [List.size_toArray, packed_len]
  have S5 : Six d dd tb x dx ba ((lf2, W.listOf itL.toArray 0) :: (L + 1, ch') :: (codes, W.listOf itC.toArray nC) :: [(due, W.listOf itD.toArray nD)]) := by
    refine ⟨by (first | lia | omega), by (first | lia | omega), by (first | lia | omega), by (first | lia | omega), by (first | lia | omega), by (first | lia | omega), by (first | lia | omega), by (first | lia | omega), by (first | lia | omega), by (first | lia | omega), by (first | lia | omega), by (first | lia | omega), by (first | lia | omega), by (first | lia | omega), by (first | lia | omega), ?_⟩
    exact off_lt (d := dx) (fun q hq => lw q ((show ∀ q ∈ (lf2, W.listOf itL.toArray 0) :: (L + 1, ch') :: (codes, W.listOf itC.toArray nC) :: [(due, W.listOf itD.toArray nD)], q ∈ _ by ((repeat (refine sub_cons (by repeat (first | exact List.Mem.head _ | refine List.Mem.tail _ ?_)) ?_)); first | exact sub_nil | (intro q hq; repeat (first | exact hq | refine List.Mem.tail _ ?_)))) q hq)) (by repeat (first | exact le_nil | refine le_cons (by (first | lia | omega)) ?_))
  have N5' : News h₀ L h5 (Led w.params d dd tb x dx ba qt 0 u1 (8 : Nat) u2 (.int 9 u9) .none [] 0 (0 : Nat) k1 k2 t (packed (codeBits (256 :: cInts cs) ++ ls) n8).toArray ((lf2, W.listOf itL.toArray 0) :: (L + 1, ch') :: (codes, W.listOf itC.toArray nC) :: [(due, W.listOf itD.toArray nD)])) := news_sub N5 (by ((repeat (refine sub_cons (by repeat (first | exact List.Mem.head _ | refine List.Mem.tail _ ?_)) ?_)); first | exact sub_nil | (intro q hq; repeat (first | exact hq | refine List.Mem.tail _ ?_))))
  refine execsG_split _ _ (partE (data := (packed (codeBits (256 :: cInts cs) ++ ls) n8).toArray) (bpos := 8) (pos := 0) (cs := cs) (ls := ls) X T F5 hd5 ((e5 _ (by decide) (by decide) (by decide) (by decide)).trans r1) ((e5 _ (by decide) (by decide) (by decide) (by decide)).trans r2) N5' S5 (.tail _ (.tail _ (.head _))) (.tail _ (.tail _ (.tail _ (.head _)))) hiC hdD hG hcs (by (first | lia | omega)) ⟨by (first | lia | omega), by (first | lia | omega), by (first | lia | omega), by (first | lia | omega), by (first | lia | omega), fun h => absurd h (by (first | lia | omega))⟩ hdata ?_)
  intro h6 tk6 m6 tb6 buff6 t16 t26 t6 bpos6 pos6 n6 nb6 pv6 items6 F6 hy6 hR6 S6 N6
  have N6' : News h₀ L h6 ((L + 1, ch') :: Led w.params d dd tb6 x dx ba qt buff6 t16 bpos6 t26 nb6 pv6 items6 n6 pos6 k1 k2 t6 (packed (codeBits (256 :: cInts cs) ++ ls) n8).toArray ((lf2, W.listOf itL.toArray 0) :: (codes, W.listOf itC.toArray nC) :: [(due, W.listOf itD.toArray nD)])) := news_sub N6 (by ((repeat (refine sub_cons (by repeat (first | exact List.Mem.head _ | refine List.Mem.tail _ ?_)) ?_)); first | exact sub_nil | (intro q hq; repeat (first | exact hq | refine List.Mem.tail _ ?_))))
  refine execsG_split _ _ (partF (ls := ls) (b := 9 * (cs.length + 1)) X T F6 ((hy6 _ (by decide) (by decide)).trans hd5) ((hy6 _ (by decide) (by decide)).trans ((hy5 _ (by decide)).trans hlf4)) N6' hch hd0 hd1 ?_ hiL h01 hl39 (by (first | lia | omega)) hR6 (by rw [hsz]; omega) ?_ ?_)
  · refine Six.cons S6.tail.tail (fun c hc => S6.off _ (.head _) c hc)
  · rw [hdata, ← hbl]; exact List.drop_left
  · intro h' tk hm'
    exact fin h' tk hm'
end
end
end Mine
namespace Mine
section
open PySem PySem.W PySem.Calls PyProof.Rows
open Sem (wp)
set_option maxHeartbeats 8000000
section
variable {w : World} {p : Program} {loose : List PySem.Str} {mean : ExcName → Option Value} {mg mb : PySem.Str → Option Value} {s : Shared} {Q : Value → Shared → Prop}
theorem law_call {sc : Addr} {items : Array Value} {ns : List Int} (X : (KK w.params).In s.heap) (T : Top p loose mean mg mb s.heap) (hl : s.heap.IsList sc items) (hi : IntsAre items.toList ns) (hn : ns.length ≤ 63)
    (fin : ∀ (h' : Heap) (tk : Nat), (∀ b o, s.heap.get? b = some o → h'.get? b = some o) → Q (.bool true) { s with heap := h', toks := tk }) :
    wpG (model pw w) callerA (call (.ref 1445) [.ref sc]) Q (fun _ _ => False) s := by
  refine wpG_call ?_
  k_dflt (refine' codeG_top (K := KK w.params) ?X ?T ?hA ?ho ?hcd ?hroom ?hbind ?hkind ?hnd ?_ ?c2 ?c3 ?c4; (case X => assumption); (case T => assumption); (case hA => exact rfl); (case ho => k_is); (case hcd => k_is); (case hroom => decide); (case hbind => exact BindsTo.of_eq rfl); (case hkind => exact rfl); (case hnd => decide +kernel); (case c2 => exact rfl); (case c3 => exact rfl); (case c4 => exact rfl))
  intro L' h' tk' cells' F' N' Y'
  k_cells Y'
  rename_i o1 o2 d1 d2
  have hm : _ = some (Value.ref sc) := (rfl : (bindL (lawEnv L').kindOf [("script", Value.ref sc)] fun _ => none) "script" = some (Value.ref sc))
  refine wpG_mono (lawG (cb := o1) (ch := o2) (h₀ := s.heap) (L := L') (s := { s with heap := h', toks := tk' }) X T hl hi hn F' hm N' (d1.trans (by rfl)) (d2.trans (by rfl)) ?_) (fun _ _ h => h) (fun _ _ h => h.elim)
  rintro h2 tk2 ⟨m', F2⟩
  exact fin h2 tk2 F2.keep
end
end
end Mine
namespace Mine
section
open PySem PySem.W PySem.Calls PyProof.Rows
open Sem (wp)
set_option maxHeartbeats 8000000
theorem nmLaw (P : Params) : nsIn (KK P) mainGlobals "law" = some (some (.ref 1445)) := by kernel_rfl
theorem law_core : Core := by
  intro w os s₁ fv G keeps hlaw hg a items ns hl hi hn ha Γ p hΓ hc hb
  have X : (KK w.params).In s₁.heap := (kk_in w os).keeps keeps
  have e : fv = .ref 1445 := by
    have := mg_of X G.T.g (nmLaw w.params)
    rw [hlaw] at this
    exact Option.some.inj this
  subst e
  have h := law_call (Q := fun v s' => v = .bool true ∧ OldK s₁.heap s'.heap ∧ s'.os = s₁.os ∧ AllBare s'.gens) X G.T hl hi hn (fun h' tk k => ⟨rfl, .of_keep k, rfl, AllBare.of_eq hg⟩)
  exact h Γ p hΓ (by rw [hc]; decide) (by rw [hb]; exact fun x hx => nomatch hx)
end
end Mine
open PySem PySem.W PyProof.Rows
set_option maxHeartbeats 8000000 in
theorem PySem.Challenge.cw_lb0019_04_holds : PySem.Challenge.rw_lb0019_04.Holds :=
  holds_law Mine.look_law fun said => Mine.row_holds Mine.law_core said (by w_witness2)
