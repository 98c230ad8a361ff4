import PyProof.Rows.All
import Wide.All
import OpenK.AllK
import Wide.FinOn
import Lean
import PySem.Challenge.RW_bi0019_01
open PySem PySem.W PySem.Calls PyProof.Rows
set_option Elab.async false
set_option maxRecDepth 1000000
set_option maxHeartbeats 0
set_option linter.unusedVariables false
namespace Mine

/-- the top's run over the tree, a number of steps -/
def goT (tb : String → Option Builtin) (p : Program) (w : World) (n₀ : Nat) (ann : Option Value) : Nat → SharedT → Thread → Option (SharedT × Thread)
  | 0, s, t => some (s, t)
  | n + 1, s, t => match through t with
    | true => none
    | false => match stepOk n₀ ann t with
      | false => none
      | true => match stepT (denote tb) p w s t with
        | some (s', t') => goT tb p w n₀ ann n s' t'
        | none => none
theorem goT_of {tb : String → Option Builtin} {p : Program} {w : World} {n₀ : Nat} {ann : Option Value} : ∀ {n : Nat} {s s' : SharedT} {t t' : Thread}, goT tb p w n₀ ann n s t = some (s', t') → topGo tb p w n₀ ann n s.abs t = some (s'.abs, t')
  | 0, _, _, _, _, h => by cases h; rfl
  | n + 1, s, s', t, t', h => by
    unfold goT at h
    unfold topGo
    cases ht : through t with
    | true => rw [ht] at h; cases h
    | false =>
      rw [ht] at h
      cases hk : stepOk n₀ ann t with
      | false => rw [hk] at h; cases h
      | true =>
        rw [hk] at h
        cases hs : stepT (denote tb) p w s t with
        | none => rw [hs] at h; cases h
        | some r => obtain ⟨s₂, t₂⟩ := r; rw [hs] at h; dsimp only; rw [stepT_spec hs]; exact goT_of h
/-- the top's run over the tree, to its end -/
def runT (tb : String → Option Builtin) (p : Program) (w : World) (n₀ : Nat) (ann : Option Value) : Nat → SharedT → Thread → Option SharedT
  | 0, _, _ => none
  | n + 1, s, t => match through t with
    | true => some s
    | false => match stepOk n₀ ann t with
      | false => none
      | true => match stepT (denote tb) p w s t with
        | some (s', t') => runT tb p w n₀ ann n s' t'
        | none => none
theorem runT_of {tb : String → Option Builtin} {p : Program} {w : World} {n₀ : Nat} {ann : Option Value} : ∀ {n : Nat} {s s' : SharedT} {t : Thread}, runT tb p w n₀ ann n s t = some s' → topRun tb p w n₀ ann n s.abs t = some s'.abs
  | 0, _, _, _, h => by cases h
  | n + 1, s, s', t, h => by
    unfold runT at h
    unfold topRun
    cases ht : through t with
    | true => rw [ht] at h; cases h; rfl
    | false =>
      rw [ht] at h
      cases hk : stepOk n₀ ann t with
      | false => rw [hk] at h; cases h
      | true =>
        rw [hk] at h
        cases hs : stepT (denote tb) p w s t with
        | none => rw [hs] at h; cases h
        | some r => obtain ⟨s₂, t₂⟩ := r; rw [hs] at h; dsimp only; rw [stepT_spec hs]; exact runT_of h

noncomputable section
/-! where the text's defs stand -/
def nthS : List Stmt → Nat → Stmt
  | [], _ => .Pass ⟨0, 0, 0, 0⟩
  | s :: _, 0 => s
  | _ :: r, n + 1 => nthS r n
def clsBody : Stmt → List Stmt
  | .ClassDef _ _ _ b _ _ _ _ _ _ _ => b
  | _ => []
def fnParams : Stmt → Arguments
  | .FunctionDef _ a _ _ _ _ _ _ _ _ => a
  | _ => { posonlyargs := [], args := [], vararg := none, kwonlyargs := [], kw_defaults := [], kwarg := none, defaults := [] }
def fnBody : Stmt → List Stmt
  | .FunctionDef _ _ b _ _ _ _ _ _ _ => b
  | _ => []
def fnScope : Stmt → Scope
  | .FunctionDef _ _ _ _ _ _ sc _ _ _ => sc
  | _ => { kind := .function, names := [], isGenerator := false, isCoroutine := false, more := [] }
def lcOf : Stmt → PySem.Expr
  | .Assign _ (.Call _ (e :: _) _ _) _ => e
  | _ => .Constant .none 0 ⟨0, 0, 0, 0⟩
def lcScope : PySem.Expr → Scope
  | .ListComp _ _ sc _ => sc
  | _ => { kind := .function, names := [], isGenerator := false, isCoroutine := false, more := [] }
def pB : List Stmt := PySem.Challenge.pw_bi0019_01.main.body

/-! what the table's turns leave behind -/
def gl (i : Nat) : Obj := { cls := .type "list", dict := none, data := .seq #[.int (Int.ofNat i) (Nat.add 367 (Nat.mul 3 i))] 0, slots := #[] }
def gi : Obj := { cls := .type "list_iterator", dict := none, data := .fields #[.none, .int 1 0], slots := #[] }
def gb (i : Nat) : Obj := { cls := .type "bytearray", dict := none, data := .bytearray #[UInt8.ofNat i] 0, slots := #[] }
def gt : Obj := { cls := .type "tuple", dict := none, data := .seq #[] 0, slots := #[] }
def gx (i : Nat) : Obj := { cls := .type "StopIteration", dict := none, data := .fields #[.ref (Nat.add 149 (Nat.mul 5 i)), .none, .none, .none, .bool false, .none], slots := #[] }

def o2sA (P : Params) : Obj := { cls := .none, dict := none, data := .dict #[⟨PyData.keyHash P (Str.ofString "type.__subclasses__.Exception.0"), (.str (Str.ofString "type.__subclasses__.Exception.0") 212), (.int 31 0)⟩, ⟨PyData.keyHash P (Str.ofString "type.__subclasses__.Exception.n"), (.str (Str.ofString "type.__subclasses__.Exception.n") 213), (.int 1 0)⟩] 2, slots := #[] }
def o3sA (P : Params) : Obj := { cls := (.type "dict"), dict := none, data := .dict #[⟨PyData.keyHash P (Str.ofString "__name__"), (.str (Str.ofString "__name__") 165), (.str (Str.ofString "rlp.utils") 362)⟩, ⟨PyData.keyHash P (Str.ofString "__doc__"), (.str (Str.ofString "__doc__") 166), .none⟩, ⟨PyData.keyHash P (Str.ofString "__package__"), (.str (Str.ofString "__package__") 167), .none⟩, ⟨PyData.keyHash P (Str.ofString "__loader__"), (.str (Str.ofString "__loader__") 168), (.builtin "__main__.__loader__#opaque")⟩, ⟨PyData.keyHash P (Str.ofString "__spec__"), (.str (Str.ofString "__spec__") 169), .none⟩, ⟨PyData.keyHash P (Str.ofString "__annotations__"), (.str (Str.ofString "__annotations__") 170), (.ref 6)⟩, ⟨PyData.keyHash P (Str.ofString "__builtins__"), (.str (Str.ofString "__builtins__") 171), (.ref 4)⟩, ⟨PyData.keyHash P (Str.ofString "__file__"), (.str (Str.ofString "__file__") 173), (.str (Str.ofString "/claim/cut.py") 172)⟩, ⟨PyData.keyHash P (Str.ofString "__cached__"), (.str (Str.ofString "__cached__") 174), .none⟩, ⟨PyData.keyHash P (Str.ofString "_wall"), (.str (Str.ofString "_wall") 193), (.ref 21)⟩, ⟨PyData.keyHash P (Str.ofString "RLPException"), (.str (Str.ofString "RLPException") 215), (.ref 31)⟩, ⟨PyData.keyHash P (Str.ofString "EncodingError"), (.str (Str.ofString "EncodingError") 243), (.ref 53)⟩, ⟨PyData.keyHash P (Str.ofString "SerializationError"), (.str (Str.ofString "SerializationError") 271), (.ref 74)⟩, ⟨PyData.keyHash P (Str.ofString "ListSerializationError"), (.str (Str.ofString "ListSerializationError") 302), (.ref 96)⟩, ⟨PyData.keyHash P (Str.ofString "DeserializationError"), (.str (Str.ofString "DeserializationError") 330), (.ref 117)⟩, ⟨PyData.keyHash P (Str.ofString "ListDeserializationError"), (.str (Str.ofString "ListDeserializationError") 361), (.ref 139)⟩] 16, slots := #[] }
def o11 (P : Params) : Obj := { cls := (.type "tuple"), dict := none, data := .seq #[] 0, slots := #[] }
def o12 (P : Params) : Obj := { cls := .none, dict := none, data := .fields #[(.int 1 0), (.int 0 0), (.ref 20), (.int 5 0), (.int 0 0), (.ref 27), (.int 7 0), (.int 0 0), (.ref 41), (.int 12 0), (.int 0 0), (.ref 62), (.int 17 0), (.int 0 0), (.ref 83), (.int 27 0), (.int 0 0), (.ref 105), (.int 32 0), (.int 0 0), (.ref 126)], slots := #[] }
def o13 (P : Params) : Obj := { cls := (.type "code"), dict := none, data := .fields #[(.str (Str.ofString "<module>") 182), (.str (Str.ofString "<module>") 183), (.str (Str.ofString "/claim/cut.py") 184), (.int 1 0), (.int 0 0), (.int 0 0), (.int 0 0), (.int 0 0), (.ref 11), (.bool false), (.int 181 0), (.ref 12), .none, .none, .none, .none, (.int 185 0), (.int 1 0), (.str (Str.ofString "/claim/cut.py") 186)], slots := #[] }
def o14 (P : Params) : Obj := { cls := (.type "frame"), dict := none, data := .plain, slots := #[(some (.ref 13)), (some (.ref 3)), (some (.ref 3)), none, (some (.str (Str.ofString "__main__") 164)), none, (some (.ref 0))] }
def o15 (P : Params) : Obj := { cls := (.type "tuple"), dict := none, data := .seq #[] 0, slots := #[] }
def o16 (P : Params) : Obj := { cls := .none, dict := none, data := .fields #[], slots := #[] }
def o17 (P : Params) : Obj := { cls := (.type "tuple"), dict := none, data := .seq #[(.str (Str.ofString "k") 190)] 0, slots := #[] }
def o18 (P : Params) : Obj := { cls := (.type "tuple"), dict := none, data := .seq #[] 0, slots := #[] }
def o19 (P : Params) : Obj := { cls := .none, dict := none, data := .func { name := (Str.ofString "_wall"), qualname := (Str.ofString "_wall"), params := fnParams (nthS pB 0), body := .stmts (fnBody (nthS pB 0)), scope := fnScope (nthS pB 0), globals := 0, closure := [], defaults := .none, kwdefaults := .none, doc := .none, pyModule := .none, annotations := none, code := .none, closureTuple := .none, builtins := 0 }, slots := #[] }
def o20 (P : Params) : Obj := { cls := (.type "code"), dict := none, data := .fields #[(.str (Str.ofString "_wall") 187), (.str (Str.ofString "_wall") 188), (.str (Str.ofString "/claim/cut.py") 189), (.int 1 0), (.int 1 0), (.int 0 0), (.int 0 0), (.int 3 0), (.ref 15), (.bool true), (.int 181 0), (.ref 16), .none, (.ref 17), (.ref 18), (.ref 19), (.int 191 0), (.int 1 0), (.str (Str.ofString "/claim/cut.py") 192)], slots := #[] }
def o21 (P : Params) : Obj := { cls := (.type "function"), dict := none, data := .func { name := (Str.ofString "_wall"), qualname := (Str.ofString "_wall"), params := fnParams (nthS pB 0), body := .stmts (fnBody (nthS pB 0)), scope := fnScope (nthS pB 0), globals := 3, closure := [], defaults := .none, kwdefaults := .none, doc := .none, pyModule := (.str (Str.ofString "__main__") 164), annotations := none, code := (.ref 20), closureTuple := .none, builtins := 0 }, slots := #[] }
def o22 (P : Params) : Obj := { cls := (.type "tuple"), dict := none, data := .seq #[(.type "Exception")] 0, slots := #[] }
def o23 (P : Params) : Obj := { cls := (.type "builtin_function_or_method"), dict := none, data := .fields #[(.builtin "type.__prepare__"), (.type "type")], slots := #[] }
def o24 (P : Params) : Obj := { cls := (.type "dict"), dict := none, data := .dict #[⟨PyData.keyHash P (Str.ofString "__module__"), (.str (Str.ofString "__module__") 203), (.str (Str.ofString "rlp.exceptions") 194)⟩, ⟨PyData.keyHash P (Str.ofString "__qualname__"), (.str (Str.ofString "__qualname__") 205), (.str (Str.ofString "RLPException") 204)⟩, ⟨PyData.keyHash P (Str.ofString "__firstlineno__"), (.str (Str.ofString "__firstlineno__") 207), (.int 5 206)⟩, ⟨PyData.keyHash P (Str.ofString "__static_attributes__"), (.str (Str.ofString "__static_attributes__") 208), (.ref 29)⟩] 4, slots := #[] }
def o25 (P : Params) : Obj := { cls := (.type "tuple"), dict := none, data := .seq #[] 0, slots := #[] }
def o26 (P : Params) : Obj := { cls := .none, dict := none, data := .fields #[], slots := #[] }
def o27 (P : Params) : Obj := { cls := (.type "code"), dict := none, data := .fields #[(.str (Str.ofString "RLPException") 198), (.str (Str.ofString "RLPException") 199), (.str (Str.ofString "/claim/cut.py") 200), (.int 5 0), (.int 0 0), (.int 0 0), (.int 0 0), (.int 0 0), (.ref 25), (.bool false), (.int 181 0), (.ref 26), .none, .none, .none, .none, (.int 201 0), (.int 5 0), (.str (Str.ofString "/claim/cut.py") 202)], slots := #[] }
def o28 (P : Params) : Obj := { cls := (.type "frame"), dict := none, data := .plain, slots := #[(some (.ref 27)), (some (.ref 3)), (some (.ref 24)), none, (some (.str (Str.ofString "rlp.exceptions") 194)), none, (some (.ref 0))] }
def o29 (P : Params) : Obj := { cls := (.type "tuple"), dict := none, data := .seq #[] 0, slots := #[] }
def o30 (P : Params) : Obj := { cls := (.type "dict"), dict := none, data := .dict #[⟨PyData.keyHash P (Str.ofString "__module__"), (.str (Str.ofString "__module__") 203), (.str (Str.ofString "rlp.exceptions") 194)⟩, ⟨PyData.keyHash P (Str.ofString "__firstlineno__"), (.str (Str.ofString "__firstlineno__") 207), (.int 5 206)⟩, ⟨PyData.keyHash P (Str.ofString "__static_attributes__"), (.str (Str.ofString "__static_attributes__") 208), (.ref 29)⟩, ⟨PyData.keyHash P (Str.ofString "__weakref__"), (.str (Str.ofString "__weakref__") 210), (.ref 32)⟩, ⟨PyData.keyHash P (Str.ofString "__doc__"), (.str (Str.ofString "__doc__") 211), .none⟩] 3, slots := #[] }
def o31 (P : Params) : Obj := { cls := (.type "type"), dict := none, data := .cls { name := (Str.ofString "RLPException"), bases := [(.type "Exception")], mro := [(.ref 31), (.type "Exception"), (.type "BaseException"), (.type "object")], ns := 30, qualname := (Str.ofString "RLPException"), hasDict := true, slotNames := [], subclasses := [(.ref 53), (.ref 74), (.ref 117)], abstract := false, collection := none, hasDel := false }, slots := #[(some (.ref 22)), none, (some (.str (Str.ofString "RLPException") 196)), (some (.str (Str.ofString "RLPException") 204)), (some (.builtin "Exception.__new__")), (some (.bool true))] }
def o32 (P : Params) : Obj := { cls := (.type "getset_descriptor"), dict := none, data := .fields #[(.str (Str.ofString "__weakref__") 209), (.ref 31), (.builtin "ExceptionGroup.__weakref__"), .none], slots := #[] }
def o33 (P : Params) : Obj := { cls := (.type "super"), dict := none, data := .fields #[(.ref 31), (.ref 31), (.ref 31)], slots := #[] }
def o34 (P : Params) : Obj := { cls := (.type "builtin_function_or_method"), dict := none, data := .fields #[(.builtin "object.__init_subclass__"), (.ref 31)], slots := #[] }
def o35 (P : Params) : Obj := { cls := (.type "tuple"), dict := none, data := .seq #[(.ref 31)] 0, slots := #[] }
def o36 (P : Params) : Obj := { cls := (.type "builtin_function_or_method"), dict := none, data := .fields #[(.builtin "type.__prepare__"), (.type "type")], slots := #[] }
def o37 (P : Params) : Obj := { cls := (.type "dict"), dict := none, data := .dict #[⟨PyData.keyHash P (Str.ofString "__module__"), (.str (Str.ofString "__module__") 223), (.str (Str.ofString "rlp.exceptions") 194)⟩, ⟨PyData.keyHash P (Str.ofString "__qualname__"), (.str (Str.ofString "__qualname__") 225), (.str (Str.ofString "EncodingError") 224)⟩, ⟨PyData.keyHash P (Str.ofString "__firstlineno__"), (.str (Str.ofString "__firstlineno__") 227), (.int 7 226)⟩, ⟨PyData.keyHash P (Str.ofString "__init__"), (.str (Str.ofString "__init__") 237), (.ref 50)⟩, ⟨PyData.keyHash P (Str.ofString "__static_attributes__"), (.str (Str.ofString "__static_attributes__") 239), (.ref 51)⟩, ⟨PyData.keyHash P (Str.ofString "__classcell__"), (.str (Str.ofString "__classcell__") 240), (.ref 38)⟩] 6, slots := #[] }
def o38 (P : Params) : Obj := { cls := (.type "cell"), dict := none, data := .cell (some (.ref 53)), slots := #[] }
def o39 (P : Params) : Obj := { cls := (.type "tuple"), dict := none, data := .seq #[] 0, slots := #[] }
def o40 (P : Params) : Obj := { cls := .none, dict := none, data := .fields #[(.int 9 0), (.int 4 0), (.ref 49)], slots := #[] }
def o41 (P : Params) : Obj := { cls := (.type "code"), dict := none, data := .fields #[(.str (Str.ofString "EncodingError") 218), (.str (Str.ofString "EncodingError") 219), (.str (Str.ofString "/claim/cut.py") 220), (.int 7 0), (.int 0 0), (.int 0 0), (.int 0 0), (.int 0 0), (.ref 39), (.bool false), (.int 181 0), (.ref 40), .none, .none, .none, .none, (.int 221 0), (.int 7 0), (.str (Str.ofString "/claim/cut.py") 222)], slots := #[] }
def o42 (P : Params) : Obj := { cls := (.type "frame"), dict := none, data := .plain, slots := #[(some (.ref 41)), (some (.ref 3)), (some (.ref 37)), none, (some (.str (Str.ofString "rlp.exceptions") 194)), none, (some (.ref 0))] }
def o43 (P : Params) : Obj := { cls := (.type "tuple"), dict := none, data := .seq #[(.ref 38)] 0, slots := #[] }
def o44 (P : Params) : Obj := { cls := (.type "tuple"), dict := none, data := .seq #[(.str (Str.ofString "__class__") 231)] 0, slots := #[] }
def o45 (P : Params) : Obj := { cls := .none, dict := none, data := .fields #[], slots := #[] }
def o46 (P : Params) : Obj := { cls := (.type "tuple"), dict := none, data := .seq #[(.str (Str.ofString "self") 232), (.str (Str.ofString "message") 233), (.str (Str.ofString "obj") 234)] 0, slots := #[] }
def o47 (P : Params) : Obj := { cls := (.type "tuple"), dict := none, data := .seq #[] 0, slots := #[] }
def o48 (P : Params) : Obj := { cls := .none, dict := none, data := .func { name := (Str.ofString "__init__"), qualname := (Str.ofString "EncodingError.__init__"), params := fnParams (nthS (clsBody (nthS pB 3)) 0), body := .stmts (fnBody (nthS (clsBody (nthS pB 3)) 0)), scope := fnScope (nthS (clsBody (nthS pB 3)) 0), globals := 0, closure := [], defaults := .none, kwdefaults := .none, doc := .none, pyModule := .none, annotations := none, code := .none, closureTuple := .none, builtins := 0 }, slots := #[] }
def o49 (P : Params) : Obj := { cls := (.type "code"), dict := none, data := .fields #[(.str (Str.ofString "__init__") 228), (.str (Str.ofString "EncodingError.__init__") 229), (.str (Str.ofString "/claim/cut.py") 230), (.int 9 0), (.int 3 0), (.int 0 0), (.int 0 0), (.int 3 0), (.ref 44), (.bool true), (.int 181 0), (.ref 45), .none, (.ref 46), (.ref 47), (.ref 48), (.int 235 0), (.int 9 0), (.str (Str.ofString "/claim/cut.py") 236)], slots := #[] }
def o50 (P : Params) : Obj := { cls := (.type "function"), dict := none, data := .func { name := (Str.ofString "__init__"), qualname := (Str.ofString "EncodingError.__init__"), params := fnParams (nthS (clsBody (nthS pB 3)) 0), body := .stmts (fnBody (nthS (clsBody (nthS pB 3)) 0)), scope := fnScope (nthS (clsBody (nthS pB 3)) 0), globals := 3, closure := [((Str.ofString "__class__"), 38)], defaults := .none, kwdefaults := .none, doc := .none, pyModule := (.str (Str.ofString "rlp.exceptions") 194), annotations := none, code := (.ref 49), closureTuple := (.ref 43), builtins := 0 }, slots := #[] }
def o51 (P : Params) : Obj := { cls := (.type "tuple"), dict := none, data := .seq #[(.str (Str.ofString "obj") 238)] 0, slots := #[] }
def o52 (P : Params) : Obj := { cls := (.type "dict"), dict := none, data := .dict #[⟨PyData.keyHash P (Str.ofString "__module__"), (.str (Str.ofString "__module__") 223), (.str (Str.ofString "rlp.exceptions") 194)⟩, ⟨PyData.keyHash P (Str.ofString "__firstlineno__"), (.str (Str.ofString "__firstlineno__") 227), (.int 7 226)⟩, ⟨PyData.keyHash P (Str.ofString "__init__"), (.str (Str.ofString "__init__") 237), (.ref 50)⟩, ⟨PyData.keyHash P (Str.ofString "__static_attributes__"), (.str (Str.ofString "__static_attributes__") 239), (.ref 51)⟩, ⟨PyData.keyHash P (Str.ofString "__doc__"), (.str (Str.ofString "__doc__") 241), .none⟩] 3, slots := #[] }
def o53 (P : Params) : Obj := { cls := (.type "type"), dict := none, data := .cls { name := (Str.ofString "EncodingError"), bases := [(.ref 31)], mro := [(.ref 53), (.ref 31), (.type "Exception"), (.type "BaseException"), (.type "object")], ns := 52, qualname := (Str.ofString "EncodingError"), hasDict := true, slotNames := [], subclasses := [], abstract := false, collection := none, hasDel := false }, slots := #[(some (.ref 35)), none, (some (.str (Str.ofString "EncodingError") 216)), (some (.str (Str.ofString "EncodingError") 224)), (some (.builtin "Exception.__new__")), (some (.bool true))] }
def o54 (P : Params) : Obj := { cls := (.type "super"), dict := none, data := .fields #[(.ref 53), (.ref 53), (.ref 53)], slots := #[] }
def o55 (P : Params) : Obj := { cls := (.type "builtin_function_or_method"), dict := none, data := .fields #[(.builtin "object.__init_subclass__"), (.ref 53)], slots := #[] }
def o56 (P : Params) : Obj := { cls := (.type "tuple"), dict := none, data := .seq #[(.ref 31)] 0, slots := #[] }
def o57 (P : Params) : Obj := { cls := (.type "builtin_function_or_method"), dict := none, data := .fields #[(.builtin "type.__prepare__"), (.type "type")], slots := #[] }
def o58 (P : Params) : Obj := { cls := (.type "dict"), dict := none, data := .dict #[⟨PyData.keyHash P (Str.ofString "__module__"), (.str (Str.ofString "__module__") 251), (.str (Str.ofString "rlp.exceptions") 194)⟩, ⟨PyData.keyHash P (Str.ofString "__qualname__"), (.str (Str.ofString "__qualname__") 253), (.str (Str.ofString "SerializationError") 252)⟩, ⟨PyData.keyHash P (Str.ofString "__firstlineno__"), (.str (Str.ofString "__firstlineno__") 255), (.int 12 254)⟩, ⟨PyData.keyHash P (Str.ofString "__init__"), (.str (Str.ofString "__init__") 265), (.ref 71)⟩, ⟨PyData.keyHash P (Str.ofString "__static_attributes__"), (.str (Str.ofString "__static_attributes__") 267), (.ref 72)⟩, ⟨PyData.keyHash P (Str.ofString "__classcell__"), (.str (Str.ofString "__classcell__") 268), (.ref 59)⟩] 6, slots := #[] }
def o59 (P : Params) : Obj := { cls := (.type "cell"), dict := none, data := .cell (some (.ref 74)), slots := #[] }
def o60 (P : Params) : Obj := { cls := (.type "tuple"), dict := none, data := .seq #[] 0, slots := #[] }
def o61 (P : Params) : Obj := { cls := .none, dict := none, data := .fields #[(.int 14 0), (.int 4 0), (.ref 70)], slots := #[] }
def o62 (P : Params) : Obj := { cls := (.type "code"), dict := none, data := .fields #[(.str (Str.ofString "SerializationError") 246), (.str (Str.ofString "SerializationError") 247), (.str (Str.ofString "/claim/cut.py") 248), (.int 12 0), (.int 0 0), (.int 0 0), (.int 0 0), (.int 0 0), (.ref 60), (.bool false), (.int 181 0), (.ref 61), .none, .none, .none, .none, (.int 249 0), (.int 12 0), (.str (Str.ofString "/claim/cut.py") 250)], slots := #[] }
def o63 (P : Params) : Obj := { cls := (.type "frame"), dict := none, data := .plain, slots := #[(some (.ref 62)), (some (.ref 3)), (some (.ref 58)), none, (some (.str (Str.ofString "rlp.exceptions") 194)), none, (some (.ref 0))] }
def o64 (P : Params) : Obj := { cls := (.type "tuple"), dict := none, data := .seq #[(.ref 59)] 0, slots := #[] }
def o65 (P : Params) : Obj := { cls := (.type "tuple"), dict := none, data := .seq #[(.str (Str.ofString "__class__") 259)] 0, slots := #[] }
def o66 (P : Params) : Obj := { cls := .none, dict := none, data := .fields #[], slots := #[] }
def o67 (P : Params) : Obj := { cls := (.type "tuple"), dict := none, data := .seq #[(.str (Str.ofString "self") 260), (.str (Str.ofString "message") 261), (.str (Str.ofString "obj") 262)] 0, slots := #[] }
def o68 (P : Params) : Obj := { cls := (.type "tuple"), dict := none, data := .seq #[] 0, slots := #[] }
def o69 (P : Params) : Obj := { cls := .none, dict := none, data := .func { name := (Str.ofString "__init__"), qualname := (Str.ofString "SerializationError.__init__"), params := fnParams (nthS (clsBody (nthS pB 4)) 0), body := .stmts (fnBody (nthS (clsBody (nthS pB 4)) 0)), scope := fnScope (nthS (clsBody (nthS pB 4)) 0), globals := 0, closure := [], defaults := .none, kwdefaults := .none, doc := .none, pyModule := .none, annotations := none, code := .none, closureTuple := .none, builtins := 0 }, slots := #[] }
def o70 (P : Params) : Obj := { cls := (.type "code"), dict := none, data := .fields #[(.str (Str.ofString "__init__") 256), (.str (Str.ofString "SerializationError.__init__") 257), (.str (Str.ofString "/claim/cut.py") 258), (.int 14 0), (.int 3 0), (.int 0 0), (.int 0 0), (.int 3 0), (.ref 65), (.bool true), (.int 181 0), (.ref 66), .none, (.ref 67), (.ref 68), (.ref 69), (.int 263 0), (.int 14 0), (.str (Str.ofString "/claim/cut.py") 264)], slots := #[] }
def o71 (P : Params) : Obj := { cls := (.type "function"), dict := none, data := .func { name := (Str.ofString "__init__"), qualname := (Str.ofString "SerializationError.__init__"), params := fnParams (nthS (clsBody (nthS pB 4)) 0), body := .stmts (fnBody (nthS (clsBody (nthS pB 4)) 0)), scope := fnScope (nthS (clsBody (nthS pB 4)) 0), globals := 3, closure := [((Str.ofString "__class__"), 59)], defaults := .none, kwdefaults := .none, doc := .none, pyModule := (.str (Str.ofString "rlp.exceptions") 194), annotations := none, code := (.ref 70), closureTuple := (.ref 64), builtins := 0 }, slots := #[] }
def o72 (P : Params) : Obj := { cls := (.type "tuple"), dict := none, data := .seq #[(.str (Str.ofString "obj") 266)] 0, slots := #[] }
def o73 (P : Params) : Obj := { cls := (.type "dict"), dict := none, data := .dict #[⟨PyData.keyHash P (Str.ofString "__module__"), (.str (Str.ofString "__module__") 251), (.str (Str.ofString "rlp.exceptions") 194)⟩, ⟨PyData.keyHash P (Str.ofString "__firstlineno__"), (.str (Str.ofString "__firstlineno__") 255), (.int 12 254)⟩, ⟨PyData.keyHash P (Str.ofString "__init__"), (.str (Str.ofString "__init__") 265), (.ref 71)⟩, ⟨PyData.keyHash P (Str.ofString "__static_attributes__"), (.str (Str.ofString "__static_attributes__") 267), (.ref 72)⟩, ⟨PyData.keyHash P (Str.ofString "__doc__"), (.str (Str.ofString "__doc__") 269), .none⟩] 3, slots := #[] }
def o74 (P : Params) : Obj := { cls := (.type "type"), dict := none, data := .cls { name := (Str.ofString "SerializationError"), bases := [(.ref 31)], mro := [(.ref 74), (.ref 31), (.type "Exception"), (.type "BaseException"), (.type "object")], ns := 73, qualname := (Str.ofString "SerializationError"), hasDict := true, slotNames := [], subclasses := [(.ref 96)], abstract := false, collection := none, hasDel := false }, slots := #[(some (.ref 56)), none, (some (.str (Str.ofString "SerializationError") 244)), (some (.str (Str.ofString "SerializationError") 252)), (some (.builtin "Exception.__new__")), (some (.bool true))] }
def o75 (P : Params) : Obj := { cls := (.type "super"), dict := none, data := .fields #[(.ref 74), (.ref 74), (.ref 74)], slots := #[] }
def o76 (P : Params) : Obj := { cls := (.type "builtin_function_or_method"), dict := none, data := .fields #[(.builtin "object.__init_subclass__"), (.ref 74)], slots := #[] }
def o77 (P : Params) : Obj := { cls := (.type "tuple"), dict := none, data := .seq #[(.ref 74)] 0, slots := #[] }
def o78 (P : Params) : Obj := { cls := (.type "builtin_function_or_method"), dict := none, data := .fields #[(.builtin "type.__prepare__"), (.type "type")], slots := #[] }
def o79 (P : Params) : Obj := { cls := (.type "dict"), dict := none, data := .dict #[⟨PyData.keyHash P (Str.ofString "__module__"), (.str (Str.ofString "__module__") 279), (.str (Str.ofString "rlp.exceptions") 194)⟩, ⟨PyData.keyHash P (Str.ofString "__qualname__"), (.str (Str.ofString "__qualname__") 281), (.str (Str.ofString "ListSerializationError") 280)⟩, ⟨PyData.keyHash P (Str.ofString "__firstlineno__"), (.str (Str.ofString "__firstlineno__") 283), (.int 17 282)⟩, ⟨PyData.keyHash P (Str.ofString "__init__"), (.str (Str.ofString "__init__") 295), (.ref 93)⟩, ⟨PyData.keyHash P (Str.ofString "__static_attributes__"), (.str (Str.ofString "__static_attributes__") 298), (.ref 94)⟩, ⟨PyData.keyHash P (Str.ofString "__classcell__"), (.str (Str.ofString "__classcell__") 299), (.ref 80)⟩] 6, slots := #[] }
def o80 (P : Params) : Obj := { cls := (.type "cell"), dict := none, data := .cell (some (.ref 96)), slots := #[] }
def o81 (P : Params) : Obj := { cls := (.type "tuple"), dict := none, data := .seq #[] 0, slots := #[] }
def o82 (P : Params) : Obj := { cls := .none, dict := none, data := .fields #[(.int 19 0), (.int 4 0), (.ref 92)], slots := #[] }
def o83 (P : Params) : Obj := { cls := (.type "code"), dict := none, data := .fields #[(.str (Str.ofString "ListSerializationError") 274), (.str (Str.ofString "ListSerializationError") 275), (.str (Str.ofString "/claim/cut.py") 276), (.int 17 0), (.int 0 0), (.int 0 0), (.int 0 0), (.int 0 0), (.ref 81), (.bool false), (.int 181 0), (.ref 82), .none, .none, .none, .none, (.int 277 0), (.int 17 0), (.str (Str.ofString "/claim/cut.py") 278)], slots := #[] }
def o84 (P : Params) : Obj := { cls := (.type "frame"), dict := none, data := .plain, slots := #[(some (.ref 83)), (some (.ref 3)), (some (.ref 79)), none, (some (.str (Str.ofString "rlp.exceptions") 194)), none, (some (.ref 0))] }
def o85 (P : Params) : Obj := { cls := (.type "tuple"), dict := none, data := .seq #[.none, .none, .none, .none] 0, slots := #[] }
def o86 (P : Params) : Obj := { cls := (.type "tuple"), dict := none, data := .seq #[(.ref 80)] 0, slots := #[] }
def o87 (P : Params) : Obj := { cls := (.type "tuple"), dict := none, data := .seq #[(.str (Str.ofString "__class__") 287)] 0, slots := #[] }
def o88 (P : Params) : Obj := { cls := .none, dict := none, data := .fields #[], slots := #[] }
def o89 (P : Params) : Obj := { cls := (.type "tuple"), dict := none, data := .seq #[(.str (Str.ofString "self") 288), (.str (Str.ofString "message") 289), (.str (Str.ofString "obj") 290), (.str (Str.ofString "element_exception") 291), (.str (Str.ofString "index") 292)] 0, slots := #[] }
def o90 (P : Params) : Obj := { cls := (.type "tuple"), dict := none, data := .seq #[] 0, slots := #[] }
def o91 (P : Params) : Obj := { cls := .none, dict := none, data := .func { name := (Str.ofString "__init__"), qualname := (Str.ofString "ListSerializationError.__init__"), params := fnParams (nthS (clsBody (nthS pB 5)) 0), body := .stmts (fnBody (nthS (clsBody (nthS pB 5)) 0)), scope := fnScope (nthS (clsBody (nthS pB 5)) 0), globals := 0, closure := [], defaults := .none, kwdefaults := .none, doc := .none, pyModule := .none, annotations := none, code := .none, closureTuple := .none, builtins := 0 }, slots := #[] }
def o92 (P : Params) : Obj := { cls := (.type "code"), dict := none, data := .fields #[(.str (Str.ofString "__init__") 284), (.str (Str.ofString "ListSerializationError.__init__") 285), (.str (Str.ofString "/claim/cut.py") 286), (.int 19 0), (.int 5 0), (.int 0 0), (.int 0 0), (.int 3 0), (.ref 87), (.bool true), (.int 181 0), (.ref 88), .none, (.ref 89), (.ref 90), (.ref 91), (.int 293 0), (.int 19 0), (.str (Str.ofString "/claim/cut.py") 294)], slots := #[] }
def o93 (P : Params) : Obj := { cls := (.type "function"), dict := none, data := .func { name := (Str.ofString "__init__"), qualname := (Str.ofString "ListSerializationError.__init__"), params := fnParams (nthS (clsBody (nthS pB 5)) 0), body := .stmts (fnBody (nthS (clsBody (nthS pB 5)) 0)), scope := fnScope (nthS (clsBody (nthS pB 5)) 0), globals := 3, closure := [((Str.ofString "__class__"), 80)], defaults := (.ref 85), kwdefaults := .none, doc := .none, pyModule := (.str (Str.ofString "rlp.exceptions") 194), annotations := none, code := (.ref 92), closureTuple := (.ref 86), builtins := 0 }, slots := #[] }
def o94 (P : Params) : Obj := { cls := (.type "tuple"), dict := none, data := .seq #[(.str (Str.ofString "element_exception") 296), (.str (Str.ofString "index") 297)] 0, slots := #[] }
def o95 (P : Params) : Obj := { cls := (.type "dict"), dict := none, data := .dict #[⟨PyData.keyHash P (Str.ofString "__module__"), (.str (Str.ofString "__module__") 279), (.str (Str.ofString "rlp.exceptions") 194)⟩, ⟨PyData.keyHash P (Str.ofString "__firstlineno__"), (.str (Str.ofString "__firstlineno__") 283), (.int 17 282)⟩, ⟨PyData.keyHash P (Str.ofString "__init__"), (.str (Str.ofString "__init__") 295), (.ref 93)⟩, ⟨PyData.keyHash P (Str.ofString "__static_attributes__"), (.str (Str.ofString "__static_attributes__") 298), (.ref 94)⟩, ⟨PyData.keyHash P (Str.ofString "__doc__"), (.str (Str.ofString "__doc__") 300), .none⟩] 3, slots := #[] }
def o96 (P : Params) : Obj := { cls := (.type "type"), dict := none, data := .cls { name := (Str.ofString "ListSerializationError"), bases := [(.ref 74)], mro := [(.ref 96), (.ref 74), (.ref 31), (.type "Exception"), (.type "BaseException"), (.type "object")], ns := 95, qualname := (Str.ofString "ListSerializationError"), hasDict := true, slotNames := [], subclasses := [], abstract := false, collection := none, hasDel := false }, slots := #[(some (.ref 77)), none, (some (.str (Str.ofString "ListSerializationError") 272)), (some (.str (Str.ofString "ListSerializationError") 280)), (some (.builtin "Exception.__new__")), (some (.bool true))] }
def o97 (P : Params) : Obj := { cls := (.type "super"), dict := none, data := .fields #[(.ref 96), (.ref 96), (.ref 96)], slots := #[] }
def o98 (P : Params) : Obj := { cls := (.type "builtin_function_or_method"), dict := none, data := .fields #[(.builtin "object.__init_subclass__"), (.ref 96)], slots := #[] }
def o99 (P : Params) : Obj := { cls := (.type "tuple"), dict := none, data := .seq #[(.ref 31)] 0, slots := #[] }
def o100 (P : Params) : Obj := { cls := (.type "builtin_function_or_method"), dict := none, data := .fields #[(.builtin "type.__prepare__"), (.type "type")], slots := #[] }
def o101 (P : Params) : Obj := { cls := (.type "dict"), dict := none, data := .dict #[⟨PyData.keyHash P (Str.ofString "__module__"), (.str (Str.ofString "__module__") 310), (.str (Str.ofString "rlp.exceptions") 194)⟩, ⟨PyData.keyHash P (Str.ofString "__qualname__"), (.str (Str.ofString "__qualname__") 312), (.str (Str.ofString "DeserializationError") 311)⟩, ⟨PyData.keyHash P (Str.ofString "__firstlineno__"), (.str (Str.ofString "__firstlineno__") 314), (.int 27 313)⟩, ⟨PyData.keyHash P (Str.ofString "__init__"), (.str (Str.ofString "__init__") 324), (.ref 114)⟩, ⟨PyData.keyHash P (Str.ofString "__static_attributes__"), (.str (Str.ofString "__static_attributes__") 326), (.ref 115)⟩, ⟨PyData.keyHash P (Str.ofString "__classcell__"), (.str (Str.ofString "__classcell__") 327), (.ref 102)⟩] 6, slots := #[] }
def o102 (P : Params) : Obj := { cls := (.type "cell"), dict := none, data := .cell (some (.ref 117)), slots := #[] }
def o103 (P : Params) : Obj := { cls := (.type "tuple"), dict := none, data := .seq #[] 0, slots := #[] }
def o104 (P : Params) : Obj := { cls := .none, dict := none, data := .fields #[(.int 29 0), (.int 4 0), (.ref 113)], slots := #[] }
def o105 (P : Params) : Obj := { cls := (.type "code"), dict := none, data := .fields #[(.str (Str.ofString "DeserializationError") 305), (.str (Str.ofString "DeserializationError") 306), (.str (Str.ofString "/claim/cut.py") 307), (.int 27 0), (.int 0 0), (.int 0 0), (.int 0 0), (.int 0 0), (.ref 103), (.bool false), (.int 181 0), (.ref 104), .none, .none, .none, .none, (.int 308 0), (.int 27 0), (.str (Str.ofString "/claim/cut.py") 309)], slots := #[] }
def o106 (P : Params) : Obj := { cls := (.type "frame"), dict := none, data := .plain, slots := #[(some (.ref 105)), (some (.ref 3)), (some (.ref 101)), none, (some (.str (Str.ofString "rlp.exceptions") 194)), none, (some (.ref 0))] }
def o107 (P : Params) : Obj := { cls := (.type "tuple"), dict := none, data := .seq #[(.ref 102)] 0, slots := #[] }
def o108 (P : Params) : Obj := { cls := (.type "tuple"), dict := none, data := .seq #[(.str (Str.ofString "__class__") 318)] 0, slots := #[] }
def o109 (P : Params) : Obj := { cls := .none, dict := none, data := .fields #[], slots := #[] }
def o110 (P : Params) : Obj := { cls := (.type "tuple"), dict := none, data := .seq #[(.str (Str.ofString "self") 319), (.str (Str.ofString "message") 320), (.str (Str.ofString "serial") 321)] 0, slots := #[] }
def o111 (P : Params) : Obj := { cls := (.type "tuple"), dict := none, data := .seq #[] 0, slots := #[] }
def o112 (P : Params) : Obj := { cls := .none, dict := none, data := .func { name := (Str.ofString "__init__"), qualname := (Str.ofString "DeserializationError.__init__"), params := fnParams (nthS (clsBody (nthS pB 6)) 0), body := .stmts (fnBody (nthS (clsBody (nthS pB 6)) 0)), scope := fnScope (nthS (clsBody (nthS pB 6)) 0), globals := 0, closure := [], defaults := .none, kwdefaults := .none, doc := .none, pyModule := .none, annotations := none, code := .none, closureTuple := .none, builtins := 0 }, slots := #[] }
def o113 (P : Params) : Obj := { cls := (.type "code"), dict := none, data := .fields #[(.str (Str.ofString "__init__") 315), (.str (Str.ofString "DeserializationError.__init__") 316), (.str (Str.ofString "/claim/cut.py") 317), (.int 29 0), (.int 3 0), (.int 0 0), (.int 0 0), (.int 3 0), (.ref 108), (.bool true), (.int 181 0), (.ref 109), .none, (.ref 110), (.ref 111), (.ref 112), (.int 322 0), (.int 29 0), (.str (Str.ofString "/claim/cut.py") 323)], slots := #[] }
def o114 (P : Params) : Obj := { cls := (.type "function"), dict := none, data := .func { name := (Str.ofString "__init__"), qualname := (Str.ofString "DeserializationError.__init__"), params := fnParams (nthS (clsBody (nthS pB 6)) 0), body := .stmts (fnBody (nthS (clsBody (nthS pB 6)) 0)), scope := fnScope (nthS (clsBody (nthS pB 6)) 0), globals := 3, closure := [((Str.ofString "__class__"), 102)], defaults := .none, kwdefaults := .none, doc := .none, pyModule := (.str (Str.ofString "rlp.exceptions") 194), annotations := none, code := (.ref 113), closureTuple := (.ref 107), builtins := 0 }, slots := #[] }
def o115 (P : Params) : Obj := { cls := (.type "tuple"), dict := none, data := .seq #[(.str (Str.ofString "serial") 325)] 0, slots := #[] }
def o116 (P : Params) : Obj := { cls := (.type "dict"), dict := none, data := .dict #[⟨PyData.keyHash P (Str.ofString "__module__"), (.str (Str.ofString "__module__") 310), (.str (Str.ofString "rlp.exceptions") 194)⟩, ⟨PyData.keyHash P (Str.ofString "__firstlineno__"), (.str (Str.ofString "__firstlineno__") 314), (.int 27 313)⟩, ⟨PyData.keyHash P (Str.ofString "__init__"), (.str (Str.ofString "__init__") 324), (.ref 114)⟩, ⟨PyData.keyHash P (Str.ofString "__static_attributes__"), (.str (Str.ofString "__static_attributes__") 326), (.ref 115)⟩, ⟨PyData.keyHash P (Str.ofString "__doc__"), (.str (Str.ofString "__doc__") 328), .none⟩] 3, slots := #[] }
def o117 (P : Params) : Obj := { cls := (.type "type"), dict := none, data := .cls { name := (Str.ofString "DeserializationError"), bases := [(.ref 31)], mro := [(.ref 117), (.ref 31), (.type "Exception"), (.type "BaseException"), (.type "object")], ns := 116, qualname := (Str.ofString "DeserializationError"), hasDict := true, slotNames := [], subclasses := [(.ref 139)], abstract := false, collection := none, hasDel := false }, slots := #[(some (.ref 99)), none, (some (.str (Str.ofString "DeserializationError") 303)), (some (.str (Str.ofString "DeserializationError") 311)), (some (.builtin "Exception.__new__")), (some (.bool true))] }
def o118 (P : Params) : Obj := { cls := (.type "super"), dict := none, data := .fields #[(.ref 117), (.ref 117), (.ref 117)], slots := #[] }
def o119 (P : Params) : Obj := { cls := (.type "builtin_function_or_method"), dict := none, data := .fields #[(.builtin "object.__init_subclass__"), (.ref 117)], slots := #[] }
def o120 (P : Params) : Obj := { cls := (.type "tuple"), dict := none, data := .seq #[(.ref 117)] 0, slots := #[] }
def o121 (P : Params) : Obj := { cls := (.type "builtin_function_or_method"), dict := none, data := .fields #[(.builtin "type.__prepare__"), (.type "type")], slots := #[] }
def o122 (P : Params) : Obj := { cls := (.type "dict"), dict := none, data := .dict #[⟨PyData.keyHash P (Str.ofString "__module__"), (.str (Str.ofString "__module__") 338), (.str (Str.ofString "rlp.exceptions") 194)⟩, ⟨PyData.keyHash P (Str.ofString "__qualname__"), (.str (Str.ofString "__qualname__") 340), (.str (Str.ofString "ListDeserializationError") 339)⟩, ⟨PyData.keyHash P (Str.ofString "__firstlineno__"), (.str (Str.ofString "__firstlineno__") 342), (.int 32 341)⟩, ⟨PyData.keyHash P (Str.ofString "__init__"), (.str (Str.ofString "__init__") 354), (.ref 136)⟩, ⟨PyData.keyHash P (Str.ofString "__static_attributes__"), (.str (Str.ofString "__static_attributes__") 357), (.ref 137)⟩, ⟨PyData.keyHash P (Str.ofString "__classcell__"), (.str (Str.ofString "__classcell__") 358), (.ref 123)⟩] 6, slots := #[] }
def o123 (P : Params) : Obj := { cls := (.type "cell"), dict := none, data := .cell (some (.ref 139)), slots := #[] }
def o124 (P : Params) : Obj := { cls := (.type "tuple"), dict := none, data := .seq #[] 0, slots := #[] }
def o125 (P : Params) : Obj := { cls := .none, dict := none, data := .fields #[(.int 34 0), (.int 4 0), (.ref 135)], slots := #[] }
def o126 (P : Params) : Obj := { cls := (.type "code"), dict := none, data := .fields #[(.str (Str.ofString "ListDeserializationError") 333), (.str (Str.ofString "ListDeserializationError") 334), (.str (Str.ofString "/claim/cut.py") 335), (.int 32 0), (.int 0 0), (.int 0 0), (.int 0 0), (.int 0 0), (.ref 124), (.bool false), (.int 181 0), (.ref 125), .none, .none, .none, .none, (.int 336 0), (.int 32 0), (.str (Str.ofString "/claim/cut.py") 337)], slots := #[] }
def o127 (P : Params) : Obj := { cls := (.type "frame"), dict := none, data := .plain, slots := #[(some (.ref 126)), (some (.ref 3)), (some (.ref 122)), none, (some (.str (Str.ofString "rlp.exceptions") 194)), none, (some (.ref 0))] }
def o128 (P : Params) : Obj := { cls := (.type "tuple"), dict := none, data := .seq #[.none, .none, .none, .none] 0, slots := #[] }
def o129 (P : Params) : Obj := { cls := (.type "tuple"), dict := none, data := .seq #[(.ref 123)] 0, slots := #[] }
def o130 (P : Params) : Obj := { cls := (.type "tuple"), dict := none, data := .seq #[(.str (Str.ofString "__class__") 346)] 0, slots := #[] }
def o131 (P : Params) : Obj := { cls := .none, dict := none, data := .fields #[], slots := #[] }
def o132 (P : Params) : Obj := { cls := (.type "tuple"), dict := none, data := .seq #[(.str (Str.ofString "self") 347), (.str (Str.ofString "message") 348), (.str (Str.ofString "serial") 349), (.str (Str.ofString "element_exception") 350), (.str (Str.ofString "index") 351)] 0, slots := #[] }
def o133 (P : Params) : Obj := { cls := (.type "tuple"), dict := none, data := .seq #[] 0, slots := #[] }
def o134 (P : Params) : Obj := { cls := .none, dict := none, data := .func { name := (Str.ofString "__init__"), qualname := (Str.ofString "ListDeserializationError.__init__"), params := fnParams (nthS (clsBody (nthS pB 7)) 0), body := .stmts (fnBody (nthS (clsBody (nthS pB 7)) 0)), scope := fnScope (nthS (clsBody (nthS pB 7)) 0), globals := 0, closure := [], defaults := .none, kwdefaults := .none, doc := .none, pyModule := .none, annotations := none, code := .none, closureTuple := .none, builtins := 0 }, slots := #[] }
def o135 (P : Params) : Obj := { cls := (.type "code"), dict := none, data := .fields #[(.str (Str.ofString "__init__") 343), (.str (Str.ofString "ListDeserializationError.__init__") 344), (.str (Str.ofString "/claim/cut.py") 345), (.int 34 0), (.int 5 0), (.int 0 0), (.int 0 0), (.int 3 0), (.ref 130), (.bool true), (.int 181 0), (.ref 131), .none, (.ref 132), (.ref 133), (.ref 134), (.int 352 0), (.int 34 0), (.str (Str.ofString "/claim/cut.py") 353)], slots := #[] }
def o136 (P : Params) : Obj := { cls := (.type "function"), dict := none, data := .func { name := (Str.ofString "__init__"), qualname := (Str.ofString "ListDeserializationError.__init__"), params := fnParams (nthS (clsBody (nthS pB 7)) 0), body := .stmts (fnBody (nthS (clsBody (nthS pB 7)) 0)), scope := fnScope (nthS (clsBody (nthS pB 7)) 0), globals := 3, closure := [((Str.ofString "__class__"), 123)], defaults := (.ref 128), kwdefaults := .none, doc := .none, pyModule := (.str (Str.ofString "rlp.exceptions") 194), annotations := none, code := (.ref 135), closureTuple := (.ref 129), builtins := 0 }, slots := #[] }
def o137 (P : Params) : Obj := { cls := (.type "tuple"), dict := none, data := .seq #[(.str (Str.ofString "element_exception") 355), (.str (Str.ofString "index") 356)] 0, slots := #[] }
def o138 (P : Params) : Obj := { cls := (.type "dict"), dict := none, data := .dict #[⟨PyData.keyHash P (Str.ofString "__module__"), (.str (Str.ofString "__module__") 338), (.str (Str.ofString "rlp.exceptions") 194)⟩, ⟨PyData.keyHash P (Str.ofString "__firstlineno__"), (.str (Str.ofString "__firstlineno__") 342), (.int 32 341)⟩, ⟨PyData.keyHash P (Str.ofString "__init__"), (.str (Str.ofString "__init__") 354), (.ref 136)⟩, ⟨PyData.keyHash P (Str.ofString "__static_attributes__"), (.str (Str.ofString "__static_attributes__") 357), (.ref 137)⟩, ⟨PyData.keyHash P (Str.ofString "__doc__"), (.str (Str.ofString "__doc__") 359), .none⟩] 3, slots := #[] }
def o139 (P : Params) : Obj := { cls := (.type "type"), dict := none, data := .cls { name := (Str.ofString "ListDeserializationError"), bases := [(.ref 117)], mro := [(.ref 139), (.ref 117), (.ref 31), (.type "Exception"), (.type "BaseException"), (.type "object")], ns := 138, qualname := (Str.ofString "ListDeserializationError"), hasDict := true, slotNames := [], subclasses := [], abstract := false, collection := none, hasDel := false }, slots := #[(some (.ref 120)), none, (some (.str (Str.ofString "ListDeserializationError") 331)), (some (.str (Str.ofString "ListDeserializationError") 339)), (some (.builtin "Exception.__new__")), (some (.bool true))] }
def o140 (P : Params) : Obj := { cls := (.type "super"), dict := none, data := .fields #[(.ref 139), (.ref 139), (.ref 139)], slots := #[] }
def o141 (P : Params) : Obj := { cls := (.type "builtin_function_or_method"), dict := none, data := .fields #[(.builtin "object.__init_subclass__"), (.ref 139)], slots := #[] }
def o142 (P : Params) : Obj := { cls := (.type "range"), dict := none, data := .fields #[(.int 0 365), (.int 256 364), (.int 1 366)], slots := #[] }
def o143 (P : Params) : Obj := { cls := (.type "range_iterator"), dict := none, data := .fields #[(.int 0 0), (.int 256 0), (.int 1 0)], slots := #[] }
def o144 (P : Params) : Obj := { cls := (.type "list"), dict := none, data := .seq #[] 0, slots := #[] }
def o145 (P : Params) : Obj := { cls := (.type "dict"), dict := none, data := .dict #[] 0, slots := #[] }
def o143sM (P : Params) : Obj := { cls := (.type "range_iterator"), dict := none, data := .fields #[(.int 128 0), (.int 128 0), (.int 1 0)], slots := #[] }
def o144sM (P : Params) : Obj := { cls := (.type "list"), dict := none, data := .seq #[(.bytes #[0] 369), (.bytes #[1] 372), (.bytes #[2] 375), (.bytes #[3] 378), (.bytes #[4] 381), (.bytes #[5] 384), (.bytes #[6] 387), (.bytes #[7] 390), (.bytes #[8] 393), (.bytes #[9] 396), (.bytes #[10] 399), (.bytes #[11] 402), (.bytes #[12] 405), (.bytes #[13] 408), (.bytes #[14] 411), (.bytes #[15] 414), (.bytes #[16] 417), (.bytes #[17] 420), (.bytes #[18] 423), (.bytes #[19] 426), (.bytes #[20] 429), (.bytes #[21] 432), (.bytes #[22] 435), (.bytes #[23] 438), (.bytes #[24] 441), (.bytes #[25] 444), (.bytes #[26] 447), (.bytes #[27] 450), (.bytes #[28] 453), (.bytes #[29] 456), (.bytes #[30] 459), (.bytes #[31] 462), (.bytes #[32] 465), (.bytes #[33] 468), (.bytes #[34] 471), (.bytes #[35] 474), (.bytes #[36] 477), (.bytes #[37] 480), (.bytes #[38] 483), (.bytes #[39] 486), (.bytes #[40] 489), (.bytes #[41] 492), (.bytes #[42] 495), (.bytes #[43] 498), (.bytes #[44] 501), (.bytes #[45] 504), (.bytes #[46] 507), (.bytes #[47] 510), (.bytes #[48] 513), (.bytes #[49] 516), (.bytes #[50] 519), (.bytes #[51] 522), (.bytes #[52] 525), (.bytes #[53] 528), (.bytes #[54] 531), (.bytes #[55] 534), (.bytes #[56] 537), (.bytes #[57] 540), (.bytes #[58] 543), (.bytes #[59] 546), (.bytes #[60] 549), (.bytes #[61] 552), (.bytes #[62] 555), (.bytes #[63] 558), (.bytes #[64] 561), (.bytes #[65] 564), (.bytes #[66] 567), (.bytes #[67] 570), (.bytes #[68] 573), (.bytes #[69] 576), (.bytes #[70] 579), (.bytes #[71] 582), (.bytes #[72] 585), (.bytes #[73] 588), (.bytes #[74] 591), (.bytes #[75] 594), (.bytes #[76] 597), (.bytes #[77] 600), (.bytes #[78] 603), (.bytes #[79] 606), (.bytes #[80] 609), (.bytes #[81] 612), (.bytes #[82] 615), (.bytes #[83] 618), (.bytes #[84] 621), (.bytes #[85] 624), (.bytes #[86] 627), (.bytes #[87] 630), (.bytes #[88] 633), (.bytes #[89] 636), (.bytes #[90] 639), (.bytes #[91] 642), (.bytes #[92] 645), (.bytes #[93] 648), (.bytes #[94] 651), (.bytes #[95] 654), (.bytes #[96] 657), (.bytes #[97] 660), (.bytes #[98] 663), (.bytes #[99] 666), (.bytes #[100] 669), (.bytes #[101] 672), (.bytes #[102] 675), (.bytes #[103] 678), (.bytes #[104] 681), (.bytes #[105] 684), (.bytes #[106] 687), (.bytes #[107] 690), (.bytes #[108] 693), (.bytes #[109] 696), (.bytes #[110] 699), (.bytes #[111] 702), (.bytes #[112] 705), (.bytes #[113] 708), (.bytes #[114] 711), (.bytes #[115] 714), (.bytes #[116] 717), (.bytes #[117] 720), (.bytes #[118] 723), (.bytes #[119] 726), (.bytes #[120] 729), (.bytes #[121] 732), (.bytes #[122] 735), (.bytes #[123] 738), (.bytes #[124] 741), (.bytes #[125] 744), (.bytes #[126] 747), (.bytes #[127] 750)] 128, slots := #[] }
def o145sM (P : Params) : Obj := { cls := (.type "dict"), dict := none, data := .dict #[⟨PyData.keyHash P (Str.ofString "i"), (.str (Str.ofString "i") 368), (.int 127 748)⟩] 1, slots := #[] }
def o143sE (P : Params) : Obj := { cls := (.type "range_iterator"), dict := none, data := .fields #[(.int 256 0), (.int 0 0), (.int 1 0)], slots := #[] }
def o144sE (P : Params) : Obj := { cls := (.type "list"), dict := none, data := .seq #[(.bytes #[0] 369), (.bytes #[1] 372), (.bytes #[2] 375), (.bytes #[3] 378), (.bytes #[4] 381), (.bytes #[5] 384), (.bytes #[6] 387), (.bytes #[7] 390), (.bytes #[8] 393), (.bytes #[9] 396), (.bytes #[10] 399), (.bytes #[11] 402), (.bytes #[12] 405), (.bytes #[13] 408), (.bytes #[14] 411), (.bytes #[15] 414), (.bytes #[16] 417), (.bytes #[17] 420), (.bytes #[18] 423), (.bytes #[19] 426), (.bytes #[20] 429), (.bytes #[21] 432), (.bytes #[22] 435), (.bytes #[23] 438), (.bytes #[24] 441), (.bytes #[25] 444), (.bytes #[26] 447), (.bytes #[27] 450), (.bytes #[28] 453), (.bytes #[29] 456), (.bytes #[30] 459), (.bytes #[31] 462), (.bytes #[32] 465), (.bytes #[33] 468), (.bytes #[34] 471), (.bytes #[35] 474), (.bytes #[36] 477), (.bytes #[37] 480), (.bytes #[38] 483), (.bytes #[39] 486), (.bytes #[40] 489), (.bytes #[41] 492), (.bytes #[42] 495), (.bytes #[43] 498), (.bytes #[44] 501), (.bytes #[45] 504), (.bytes #[46] 507), (.bytes #[47] 510), (.bytes #[48] 513), (.bytes #[49] 516), (.bytes #[50] 519), (.bytes #[51] 522), (.bytes #[52] 525), (.bytes #[53] 528), (.bytes #[54] 531), (.bytes #[55] 534), (.bytes #[56] 537), (.bytes #[57] 540), (.bytes #[58] 543), (.bytes #[59] 546), (.bytes #[60] 549), (.bytes #[61] 552), (.bytes #[62] 555), (.bytes #[63] 558), (.bytes #[64] 561), (.bytes #[65] 564), (.bytes #[66] 567), (.bytes #[67] 570), (.bytes #[68] 573), (.bytes #[69] 576), (.bytes #[70] 579), (.bytes #[71] 582), (.bytes #[72] 585), (.bytes #[73] 588), (.bytes #[74] 591), (.bytes #[75] 594), (.bytes #[76] 597), (.bytes #[77] 600), (.bytes #[78] 603), (.bytes #[79] 606), (.bytes #[80] 609), (.bytes #[81] 612), (.bytes #[82] 615), (.bytes #[83] 618), (.bytes #[84] 621), (.bytes #[85] 624), (.bytes #[86] 627), (.bytes #[87] 630), (.bytes #[88] 633), (.bytes #[89] 636), (.bytes #[90] 639), (.bytes #[91] 642), (.bytes #[92] 645), (.bytes #[93] 648), (.bytes #[94] 651), (.bytes #[95] 654), (.bytes #[96] 657), (.bytes #[97] 660), (.bytes #[98] 663), (.bytes #[99] 666), (.bytes #[100] 669), (.bytes #[101] 672), (.bytes #[102] 675), (.bytes #[103] 678), (.bytes #[104] 681), (.bytes #[105] 684), (.bytes #[106] 687), (.bytes #[107] 690), (.bytes #[108] 693), (.bytes #[109] 696), (.bytes #[110] 699), (.bytes #[111] 702), (.bytes #[112] 705), (.bytes #[113] 708), (.bytes #[114] 711), (.bytes #[115] 714), (.bytes #[116] 717), (.bytes #[117] 720), (.bytes #[118] 723), (.bytes #[119] 726), (.bytes #[120] 729), (.bytes #[121] 732), (.bytes #[122] 735), (.bytes #[123] 738), (.bytes #[124] 741), (.bytes #[125] 744), (.bytes #[126] 747), (.bytes #[127] 750), (.bytes #[128] 753), (.bytes #[129] 756), (.bytes #[130] 759), (.bytes #[131] 762), (.bytes #[132] 765), (.bytes #[133] 768), (.bytes #[134] 771), (.bytes #[135] 774), (.bytes #[136] 777), (.bytes #[137] 780), (.bytes #[138] 783), (.bytes #[139] 786), (.bytes #[140] 789), (.bytes #[141] 792), (.bytes #[142] 795), (.bytes #[143] 798), (.bytes #[144] 801), (.bytes #[145] 804), (.bytes #[146] 807), (.bytes #[147] 810), (.bytes #[148] 813), (.bytes #[149] 816), (.bytes #[150] 819), (.bytes #[151] 822), (.bytes #[152] 825), (.bytes #[153] 828), (.bytes #[154] 831), (.bytes #[155] 834), (.bytes #[156] 837), (.bytes #[157] 840), (.bytes #[158] 843), (.bytes #[159] 846), (.bytes #[160] 849), (.bytes #[161] 852), (.bytes #[162] 855), (.bytes #[163] 858), (.bytes #[164] 861), (.bytes #[165] 864), (.bytes #[166] 867), (.bytes #[167] 870), (.bytes #[168] 873), (.bytes #[169] 876), (.bytes #[170] 879), (.bytes #[171] 882), (.bytes #[172] 885), (.bytes #[173] 888), (.bytes #[174] 891), (.bytes #[175] 894), (.bytes #[176] 897), (.bytes #[177] 900), (.bytes #[178] 903), (.bytes #[179] 906), (.bytes #[180] 909), (.bytes #[181] 912), (.bytes #[182] 915), (.bytes #[183] 918), (.bytes #[184] 921), (.bytes #[185] 924), (.bytes #[186] 927), (.bytes #[187] 930), (.bytes #[188] 933), (.bytes #[189] 936), (.bytes #[190] 939), (.bytes #[191] 942), (.bytes #[192] 945), (.bytes #[193] 948), (.bytes #[194] 951), (.bytes #[195] 954), (.bytes #[196] 957), (.bytes #[197] 960), (.bytes #[198] 963), (.bytes #[199] 966), (.bytes #[200] 969), (.bytes #[201] 972), (.bytes #[202] 975), (.bytes #[203] 978), (.bytes #[204] 981), (.bytes #[205] 984), (.bytes #[206] 987), (.bytes #[207] 990), (.bytes #[208] 993), (.bytes #[209] 996), (.bytes #[210] 999), (.bytes #[211] 1002), (.bytes #[212] 1005), (.bytes #[213] 1008), (.bytes #[214] 1011), (.bytes #[215] 1014), (.bytes #[216] 1017), (.bytes #[217] 1020), (.bytes #[218] 1023), (.bytes #[219] 1026), (.bytes #[220] 1029), (.bytes #[221] 1032), (.bytes #[222] 1035), (.bytes #[223] 1038), (.bytes #[224] 1041), (.bytes #[225] 1044), (.bytes #[226] 1047), (.bytes #[227] 1050), (.bytes #[228] 1053), (.bytes #[229] 1056), (.bytes #[230] 1059), (.bytes #[231] 1062), (.bytes #[232] 1065), (.bytes #[233] 1068), (.bytes #[234] 1071), (.bytes #[235] 1074), (.bytes #[236] 1077), (.bytes #[237] 1080), (.bytes #[238] 1083), (.bytes #[239] 1086), (.bytes #[240] 1089), (.bytes #[241] 1092), (.bytes #[242] 1095), (.bytes #[243] 1098), (.bytes #[244] 1101), (.bytes #[245] 1104), (.bytes #[246] 1107), (.bytes #[247] 1110), (.bytes #[248] 1113), (.bytes #[249] 1116), (.bytes #[250] 1119), (.bytes #[251] 1122), (.bytes #[252] 1125), (.bytes #[253] 1128), (.bytes #[254] 1131), (.bytes #[255] 1134)] 256, slots := #[] }
def o145sE (P : Params) : Obj := { cls := (.type "dict"), dict := none, data := .dict #[⟨PyData.keyHash P (Str.ofString "i"), (.str (Str.ofString "i") 368), (.int 255 1132)⟩] 1, slots := #[] }
def o3sF (P : Params) : Obj := { cls := (.type "dict"), dict := none, data := .dict #[⟨PyData.keyHash P (Str.ofString "__name__"), (.str (Str.ofString "__name__") 165), (.str (Str.ofString "law_bi0019_01") 1534)⟩, ⟨PyData.keyHash P (Str.ofString "__doc__"), (.str (Str.ofString "__doc__") 166), .none⟩, ⟨PyData.keyHash P (Str.ofString "__package__"), (.str (Str.ofString "__package__") 167), .none⟩, ⟨PyData.keyHash P (Str.ofString "__loader__"), (.str (Str.ofString "__loader__") 168), (.builtin "__main__.__loader__#opaque")⟩, ⟨PyData.keyHash P (Str.ofString "__spec__"), (.str (Str.ofString "__spec__") 169), .none⟩, ⟨PyData.keyHash P (Str.ofString "__annotations__"), (.str (Str.ofString "__annotations__") 170), (.ref 6)⟩, ⟨PyData.keyHash P (Str.ofString "__builtins__"), (.str (Str.ofString "__builtins__") 171), (.ref 4)⟩, ⟨PyData.keyHash P (Str.ofString "__file__"), (.str (Str.ofString "__file__") 173), (.str (Str.ofString "/claim/cut.py") 172)⟩, ⟨PyData.keyHash P (Str.ofString "__cached__"), (.str (Str.ofString "__cached__") 174), .none⟩, ⟨PyData.keyHash P (Str.ofString "_wall"), (.str (Str.ofString "_wall") 193), (.ref 21)⟩, ⟨PyData.keyHash P (Str.ofString "RLPException"), (.str (Str.ofString "RLPException") 215), (.ref 31)⟩, ⟨PyData.keyHash P (Str.ofString "EncodingError"), (.str (Str.ofString "EncodingError") 243), (.ref 53)⟩, ⟨PyData.keyHash P (Str.ofString "SerializationError"), (.str (Str.ofString "SerializationError") 271), (.ref 74)⟩, ⟨PyData.keyHash P (Str.ofString "ListSerializationError"), (.str (Str.ofString "ListSerializationError") 302), (.ref 96)⟩, ⟨PyData.keyHash P (Str.ofString "DeserializationError"), (.str (Str.ofString "DeserializationError") 330), (.ref 117)⟩, ⟨PyData.keyHash P (Str.ofString "ListDeserializationError"), (.str (Str.ofString "ListDeserializationError") 361), (.ref 139)⟩, ⟨PyData.keyHash P (Str.ofString "ALL_BYTES"), (.str (Str.ofString "ALL_BYTES") 1135), (.ref 1429)⟩, ⟨PyData.keyHash P (Str.ofString "big_endian_to_int"), (.str (Str.ofString "big_endian_to_int") 1142), (.ref 1436)⟩, ⟨PyData.keyHash P (Str.ofString "int_to_big_endian"), (.str (Str.ofString "int_to_big_endian") 1149), (.ref 1443)⟩, ⟨PyData.keyHash P (Str.ofString "BigEndianInt"), (.str (Str.ofString "BigEndianInt") 1197), (.ref 1475)⟩, ⟨PyData.keyHash P (Str.ofString "big_endian_int"), (.str (Str.ofString "big_endian_int") 1202), (.ref 1481)⟩, ⟨PyData.keyHash P (Str.ofString "Binary"), (.str (Str.ofString "Binary") 1302), (.ref 1542)⟩, ⟨PyData.keyHash P (Str.ofString "binary"), (.str (Str.ofString "binary") 1314), (.ref 1548)⟩, ⟨PyData.keyHash P (Str.ofString "Boolean"), (.str (Str.ofString "Boolean") 1352), (.ref 1573)⟩, ⟨PyData.keyHash P (Str.ofString "boolean"), (.str (Str.ofString "boolean") 1353), (.ref 1579)⟩, ⟨PyData.keyHash P (Str.ofString "is_sedes"), (.str (Str.ofString "is_sedes") 1362), (.ref 1586)⟩, ⟨PyData.keyHash P (Str.ofString "is_sequence"), (.str (Str.ofString "is_sequence") 1369), (.ref 1593)⟩, ⟨PyData.keyHash P (Str.ofString "List"), (.str (Str.ofString "List") 1434), (.ref 1632)⟩, ⟨PyData.keyHash P (Str.ofString "CountableList"), (.str (Str.ofString "CountableList") 1489), (.ref 1668)⟩, ⟨PyData.keyHash P (Str.ofString "encode_raw"), (.str (Str.ofString "encode_raw") 1502), (.ref 1679)⟩, ⟨PyData.keyHash P (Str.ofString "encode"), (.str (Str.ofString "encode") 1514), (.ref 1687)⟩, ⟨PyData.keyHash P (Str.ofString "LONG_LENGTH"), (.str (Str.ofString "LONG_LENGTH") 1518), (.int 18446744073709551616 1517)⟩, ⟨PyData.keyHash P (Str.ofString "length_prefix"), (.str (Str.ofString "length_prefix") 1527), (.ref 1694)⟩, ⟨PyData.keyHash P (Str.ofString "infer_sedes"), (.str (Str.ofString "infer_sedes") 1533), (.ref 1699)⟩, ⟨PyData.keyHash P (Str.ofString "_law_at"), (.str (Str.ofString "_law_at") 1544), (.ref 1706)⟩, ⟨PyData.keyHash P (Str.ofString "_law_value"), (.str (Str.ofString "_law_value") 1559), (.ref 1713)⟩, ⟨PyData.keyHash P (Str.ofString "_law_long"), (.str (Str.ofString "_law_long") 1566), (.ref 1720)⟩, ⟨PyData.keyHash P (Str.ofString "_law_length"), (.str (Str.ofString "_law_length") 1572), (.ref 1725)⟩, ⟨PyData.keyHash P (Str.ofString "_law_other"), (.str (Str.ofString "_law_other") 1578), (.ref 1730)⟩, ⟨PyData.keyHash P (Str.ofString "law"), (.str (Str.ofString "law") 1592), (.ref 1737)⟩] 40, slots := #[] }
def o12sF (P : Params) : Obj := { cls := .none, dict := none, data := .fields #[(.int 1 0), (.int 0 0), (.ref 20), (.int 5 0), (.int 0 0), (.ref 27), (.int 7 0), (.int 0 0), (.ref 41), (.int 12 0), (.int 0 0), (.ref 62), (.int 17 0), (.int 0 0), (.ref 83), (.int 27 0), (.int 0 0), (.ref 105), (.int 32 0), (.int 0 0), (.ref 126), (.int 44 0), (.int 0 0), (.ref 1435), (.int 46 0), (.int 0 0), (.ref 1442), (.int 49 0), (.int 0 0), (.ref 1449), (.int 79 0), (.int 0 0), (.ref 1488), (.int 113 0), (.int 0 0), (.ref 1555), (.int 134 0), (.int 0 0), (.ref 1585), (.int 136 0), (.int 0 0), (.ref 1592), (.int 138 0), (.int 0 0), (.ref 1599), (.int 180 0), (.int 0 0), (.ref 1642), (.int 212 0), (.int 0 0), (.ref 1678), (.int 229 0), (.int 0 0), (.ref 1686), (.int 239 0), (.int 0 0), (.ref 1693), (.int 247 0), (.int 0 0), (.ref 1698), (.int 259 0), (.int 0 0), (.ref 1705), (.int 261 0), (.int 0 0), (.ref 1712), (.int 274 0), (.int 0 0), (.ref 1719), (.int 276 0), (.int 0 0), (.ref 1724), (.int 281 0), (.int 0 0), (.ref 1729), (.int 287 0), (.int 0 0), (.ref 1736)], slots := #[] }
def o145sF (P : Params) : Obj := { cls := (.type "dict"), dict := none, data := .dict #[] 2, slots := #[] }
def o1426 (P : Params) : Obj := { cls := (.type "tuple"), dict := none, data := .seq #[] 0, slots := #[] }
def o1427 (P : Params) : Obj := { cls := (.type "StopIteration"), dict := none, data := .fields #[(.ref 1426), .none, .none, .none, (.bool false), .none], slots := #[] }
def o1428 (P : Params) : Obj := { cls := (.type "list"), dict := none, data := .seq #[(.bytes #[0] 369), (.bytes #[1] 372), (.bytes #[2] 375), (.bytes #[3] 378), (.bytes #[4] 381), (.bytes #[5] 384), (.bytes #[6] 387), (.bytes #[7] 390), (.bytes #[8] 393), (.bytes #[9] 396), (.bytes #[10] 399), (.bytes #[11] 402), (.bytes #[12] 405), (.bytes #[13] 408), (.bytes #[14] 411), (.bytes #[15] 414), (.bytes #[16] 417), (.bytes #[17] 420), (.bytes #[18] 423), (.bytes #[19] 426), (.bytes #[20] 429), (.bytes #[21] 432), (.bytes #[22] 435), (.bytes #[23] 438), (.bytes #[24] 441), (.bytes #[25] 444), (.bytes #[26] 447), (.bytes #[27] 450), (.bytes #[28] 453), (.bytes #[29] 456), (.bytes #[30] 459), (.bytes #[31] 462), (.bytes #[32] 465), (.bytes #[33] 468), (.bytes #[34] 471), (.bytes #[35] 474), (.bytes #[36] 477), (.bytes #[37] 480), (.bytes #[38] 483), (.bytes #[39] 486), (.bytes #[40] 489), (.bytes #[41] 492), (.bytes #[42] 495), (.bytes #[43] 498), (.bytes #[44] 501), (.bytes #[45] 504), (.bytes #[46] 507), (.bytes #[47] 510), (.bytes #[48] 513), (.bytes #[49] 516), (.bytes #[50] 519), (.bytes #[51] 522), (.bytes #[52] 525), (.bytes #[53] 528), (.bytes #[54] 531), (.bytes #[55] 534), (.bytes #[56] 537), (.bytes #[57] 540), (.bytes #[58] 543), (.bytes #[59] 546), (.bytes #[60] 549), (.bytes #[61] 552), (.bytes #[62] 555), (.bytes #[63] 558), (.bytes #[64] 561), (.bytes #[65] 564), (.bytes #[66] 567), (.bytes #[67] 570), (.bytes #[68] 573), (.bytes #[69] 576), (.bytes #[70] 579), (.bytes #[71] 582), (.bytes #[72] 585), (.bytes #[73] 588), (.bytes #[74] 591), (.bytes #[75] 594), (.bytes #[76] 597), (.bytes #[77] 600), (.bytes #[78] 603), (.bytes #[79] 606), (.bytes #[80] 609), (.bytes #[81] 612), (.bytes #[82] 615), (.bytes #[83] 618), (.bytes #[84] 621), (.bytes #[85] 624), (.bytes #[86] 627), (.bytes #[87] 630), (.bytes #[88] 633), (.bytes #[89] 636), (.bytes #[90] 639), (.bytes #[91] 642), (.bytes #[92] 645), (.bytes #[93] 648), (.bytes #[94] 651), (.bytes #[95] 654), (.bytes #[96] 657), (.bytes #[97] 660), (.bytes #[98] 663), (.bytes #[99] 666), (.bytes #[100] 669), (.bytes #[101] 672), (.bytes #[102] 675), (.bytes #[103] 678), (.bytes #[104] 681), (.bytes #[105] 684), (.bytes #[106] 687), (.bytes #[107] 690), (.bytes #[108] 693), (.bytes #[109] 696), (.bytes #[110] 699), (.bytes #[111] 702), (.bytes #[112] 705), (.bytes #[113] 708), (.bytes #[114] 711), (.bytes #[115] 714), (.bytes #[116] 717), (.bytes #[117] 720), (.bytes #[118] 723), (.bytes #[119] 726), (.bytes #[120] 729), (.bytes #[121] 732), (.bytes #[122] 735), (.bytes #[123] 738), (.bytes #[124] 741), (.bytes #[125] 744), (.bytes #[126] 747), (.bytes #[127] 750), (.bytes #[128] 753), (.bytes #[129] 756), (.bytes #[130] 759), (.bytes #[131] 762), (.bytes #[132] 765), (.bytes #[133] 768), (.bytes #[134] 771), (.bytes #[135] 774), (.bytes #[136] 777), (.bytes #[137] 780), (.bytes #[138] 783), (.bytes #[139] 786), (.bytes #[140] 789), (.bytes #[141] 792), (.bytes #[142] 795), (.bytes #[143] 798), (.bytes #[144] 801), (.bytes #[145] 804), (.bytes #[146] 807), (.bytes #[147] 810), (.bytes #[148] 813), (.bytes #[149] 816), (.bytes #[150] 819), (.bytes #[151] 822), (.bytes #[152] 825), (.bytes #[153] 828), (.bytes #[154] 831), (.bytes #[155] 834), (.bytes #[156] 837), (.bytes #[157] 840), (.bytes #[158] 843), (.bytes #[159] 846), (.bytes #[160] 849), (.bytes #[161] 852), (.bytes #[162] 855), (.bytes #[163] 858), (.bytes #[164] 861), (.bytes #[165] 864), (.bytes #[166] 867), (.bytes #[167] 870), (.bytes #[168] 873), (.bytes #[169] 876), (.bytes #[170] 879), (.bytes #[171] 882), (.bytes #[172] 885), (.bytes #[173] 888), (.bytes #[174] 891), (.bytes #[175] 894), (.bytes #[176] 897), (.bytes #[177] 900), (.bytes #[178] 903), (.bytes #[179] 906), (.bytes #[180] 909), (.bytes #[181] 912), (.bytes #[182] 915), (.bytes #[183] 918), (.bytes #[184] 921), (.bytes #[185] 924), (.bytes #[186] 927), (.bytes #[187] 930), (.bytes #[188] 933), (.bytes #[189] 936), (.bytes #[190] 939), (.bytes #[191] 942), (.bytes #[192] 945), (.bytes #[193] 948), (.bytes #[194] 951), (.bytes #[195] 954), (.bytes #[196] 957), (.bytes #[197] 960), (.bytes #[198] 963), (.bytes #[199] 966), (.bytes #[200] 969), (.bytes #[201] 972), (.bytes #[202] 975), (.bytes #[203] 978), (.bytes #[204] 981), (.bytes #[205] 984), (.bytes #[206] 987), (.bytes #[207] 990), (.bytes #[208] 993), (.bytes #[209] 996), (.bytes #[210] 999), (.bytes #[211] 1002), (.bytes #[212] 1005), (.bytes #[213] 1008), (.bytes #[214] 1011), (.bytes #[215] 1014), (.bytes #[216] 1017), (.bytes #[217] 1020), (.bytes #[218] 1023), (.bytes #[219] 1026), (.bytes #[220] 1029), (.bytes #[221] 1032), (.bytes #[222] 1035), (.bytes #[223] 1038), (.bytes #[224] 1041), (.bytes #[225] 1044), (.bytes #[226] 1047), (.bytes #[227] 1050), (.bytes #[228] 1053), (.bytes #[229] 1056), (.bytes #[230] 1059), (.bytes #[231] 1062), (.bytes #[232] 1065), (.bytes #[233] 1068), (.bytes #[234] 1071), (.bytes #[235] 1074), (.bytes #[236] 1077), (.bytes #[237] 1080), (.bytes #[238] 1083), (.bytes #[239] 1086), (.bytes #[240] 1089), (.bytes #[241] 1092), (.bytes #[242] 1095), (.bytes #[243] 1098), (.bytes #[244] 1101), (.bytes #[245] 1104), (.bytes #[246] 1107), (.bytes #[247] 1110), (.bytes #[248] 1113), (.bytes #[249] 1116), (.bytes #[250] 1119), (.bytes #[251] 1122), (.bytes #[252] 1125), (.bytes #[253] 1128), (.bytes #[254] 1131), (.bytes #[255] 1134)] 1, slots := #[] }
def o1429 (P : Params) : Obj := { cls := (.type "tuple"), dict := none, data := .seq #[(.bytes #[0] 369), (.bytes #[1] 372), (.bytes #[2] 375), (.bytes #[3] 378), (.bytes #[4] 381), (.bytes #[5] 384), (.bytes #[6] 387), (.bytes #[7] 390), (.bytes #[8] 393), (.bytes #[9] 396), (.bytes #[10] 399), (.bytes #[11] 402), (.bytes #[12] 405), (.bytes #[13] 408), (.bytes #[14] 411), (.bytes #[15] 414), (.bytes #[16] 417), (.bytes #[17] 420), (.bytes #[18] 423), (.bytes #[19] 426), (.bytes #[20] 429), (.bytes #[21] 432), (.bytes #[22] 435), (.bytes #[23] 438), (.bytes #[24] 441), (.bytes #[25] 444), (.bytes #[26] 447), (.bytes #[27] 450), (.bytes #[28] 453), (.bytes #[29] 456), (.bytes #[30] 459), (.bytes #[31] 462), (.bytes #[32] 465), (.bytes #[33] 468), (.bytes #[34] 471), (.bytes #[35] 474), (.bytes #[36] 477), (.bytes #[37] 480), (.bytes #[38] 483), (.bytes #[39] 486), (.bytes #[40] 489), (.bytes #[41] 492), (.bytes #[42] 495), (.bytes #[43] 498), (.bytes #[44] 501), (.bytes #[45] 504), (.bytes #[46] 507), (.bytes #[47] 510), (.bytes #[48] 513), (.bytes #[49] 516), (.bytes #[50] 519), (.bytes #[51] 522), (.bytes #[52] 525), (.bytes #[53] 528), (.bytes #[54] 531), (.bytes #[55] 534), (.bytes #[56] 537), (.bytes #[57] 540), (.bytes #[58] 543), (.bytes #[59] 546), (.bytes #[60] 549), (.bytes #[61] 552), (.bytes #[62] 555), (.bytes #[63] 558), (.bytes #[64] 561), (.bytes #[65] 564), (.bytes #[66] 567), (.bytes #[67] 570), (.bytes #[68] 573), (.bytes #[69] 576), (.bytes #[70] 579), (.bytes #[71] 582), (.bytes #[72] 585), (.bytes #[73] 588), (.bytes #[74] 591), (.bytes #[75] 594), (.bytes #[76] 597), (.bytes #[77] 600), (.bytes #[78] 603), (.bytes #[79] 606), (.bytes #[80] 609), (.bytes #[81] 612), (.bytes #[82] 615), (.bytes #[83] 618), (.bytes #[84] 621), (.bytes #[85] 624), (.bytes #[86] 627), (.bytes #[87] 630), (.bytes #[88] 633), (.bytes #[89] 636), (.bytes #[90] 639), (.bytes #[91] 642), (.bytes #[92] 645), (.bytes #[93] 648), (.bytes #[94] 651), (.bytes #[95] 654), (.bytes #[96] 657), (.bytes #[97] 660), (.bytes #[98] 663), (.bytes #[99] 666), (.bytes #[100] 669), (.bytes #[101] 672), (.bytes #[102] 675), (.bytes #[103] 678), (.bytes #[104] 681), (.bytes #[105] 684), (.bytes #[106] 687), (.bytes #[107] 690), (.bytes #[108] 693), (.bytes #[109] 696), (.bytes #[110] 699), (.bytes #[111] 702), (.bytes #[112] 705), (.bytes #[113] 708), (.bytes #[114] 711), (.bytes #[115] 714), (.bytes #[116] 717), (.bytes #[117] 720), (.bytes #[118] 723), (.bytes #[119] 726), (.bytes #[120] 729), (.bytes #[121] 732), (.bytes #[122] 735), (.bytes #[123] 738), (.bytes #[124] 741), (.bytes #[125] 744), (.bytes #[126] 747), (.bytes #[127] 750), (.bytes #[128] 753), (.bytes #[129] 756), (.bytes #[130] 759), (.bytes #[131] 762), (.bytes #[132] 765), (.bytes #[133] 768), (.bytes #[134] 771), (.bytes #[135] 774), (.bytes #[136] 777), (.bytes #[137] 780), (.bytes #[138] 783), (.bytes #[139] 786), (.bytes #[140] 789), (.bytes #[141] 792), (.bytes #[142] 795), (.bytes #[143] 798), (.bytes #[144] 801), (.bytes #[145] 804), (.bytes #[146] 807), (.bytes #[147] 810), (.bytes #[148] 813), (.bytes #[149] 816), (.bytes #[150] 819), (.bytes #[151] 822), (.bytes #[152] 825), (.bytes #[153] 828), (.bytes #[154] 831), (.bytes #[155] 834), (.bytes #[156] 837), (.bytes #[157] 840), (.bytes #[158] 843), (.bytes #[159] 846), (.bytes #[160] 849), (.bytes #[161] 852), (.bytes #[162] 855), (.bytes #[163] 858), (.bytes #[164] 861), (.bytes #[165] 864), (.bytes #[166] 867), (.bytes #[167] 870), (.bytes #[168] 873), (.bytes #[169] 876), (.bytes #[170] 879), (.bytes #[171] 882), (.bytes #[172] 885), (.bytes #[173] 888), (.bytes #[174] 891), (.bytes #[175] 894), (.bytes #[176] 897), (.bytes #[177] 900), (.bytes #[178] 903), (.bytes #[179] 906), (.bytes #[180] 909), (.bytes #[181] 912), (.bytes #[182] 915), (.bytes #[183] 918), (.bytes #[184] 921), (.bytes #[185] 924), (.bytes #[186] 927), (.bytes #[187] 930), (.bytes #[188] 933), (.bytes #[189] 936), (.bytes #[190] 939), (.bytes #[191] 942), (.bytes #[192] 945), (.bytes #[193] 948), (.bytes #[194] 951), (.bytes #[195] 954), (.bytes #[196] 957), (.bytes #[197] 960), (.bytes #[198] 963), (.bytes #[199] 966), (.bytes #[200] 969), (.bytes #[201] 972), (.bytes #[202] 975), (.bytes #[203] 978), (.bytes #[204] 981), (.bytes #[205] 984), (.bytes #[206] 987), (.bytes #[207] 990), (.bytes #[208] 993), (.bytes #[209] 996), (.bytes #[210] 999), (.bytes #[211] 1002), (.bytes #[212] 1005), (.bytes #[213] 1008), (.bytes #[214] 1011), (.bytes #[215] 1014), (.bytes #[216] 1017), (.bytes #[217] 1020), (.bytes #[218] 1023), (.bytes #[219] 1026), (.bytes #[220] 1029), (.bytes #[221] 1032), (.bytes #[222] 1035), (.bytes #[223] 1038), (.bytes #[224] 1041), (.bytes #[225] 1044), (.bytes #[226] 1047), (.bytes #[227] 1050), (.bytes #[228] 1053), (.bytes #[229] 1056), (.bytes #[230] 1059), (.bytes #[231] 1062), (.bytes #[232] 1065), (.bytes #[233] 1068), (.bytes #[234] 1071), (.bytes #[235] 1074), (.bytes #[236] 1077), (.bytes #[237] 1080), (.bytes #[238] 1083), (.bytes #[239] 1086), (.bytes #[240] 1089), (.bytes #[241] 1092), (.bytes #[242] 1095), (.bytes #[243] 1098), (.bytes #[244] 1101), (.bytes #[245] 1104), (.bytes #[246] 1107), (.bytes #[247] 1110), (.bytes #[248] 1113), (.bytes #[249] 1116), (.bytes #[250] 1119), (.bytes #[251] 1122), (.bytes #[252] 1125), (.bytes #[253] 1128), (.bytes #[254] 1131), (.bytes #[255] 1134)] 0, slots := #[] }
def o1430 (P : Params) : Obj := { cls := (.type "tuple"), dict := none, data := .seq #[] 0, slots := #[] }
def o1431 (P : Params) : Obj := { cls := .none, dict := none, data := .fields #[], slots := #[] }
def o1432 (P : Params) : Obj := { cls := (.type "tuple"), dict := none, data := .seq #[(.str (Str.ofString "value") 1139)] 0, slots := #[] }
def o1433 (P : Params) : Obj := { cls := (.type "tuple"), dict := none, data := .seq #[] 0, slots := #[] }
def o1434 (P : Params) : Obj := { cls := .none, dict := none, data := .func { name := (Str.ofString "big_endian_to_int"), qualname := (Str.ofString "big_endian_to_int"), params := fnParams (nthS pB 10), body := .stmts (fnBody (nthS pB 10)), scope := fnScope (nthS pB 10), globals := 0, closure := [], defaults := .none, kwdefaults := .none, doc := .none, pyModule := .none, annotations := none, code := .none, closureTuple := .none, builtins := 0 }, slots := #[] }
def o1435 (P : Params) : Obj := { cls := (.type "code"), dict := none, data := .fields #[(.str (Str.ofString "big_endian_to_int") 1136), (.str (Str.ofString "big_endian_to_int") 1137), (.str (Str.ofString "/claim/cut.py") 1138), (.int 44 0), (.int 1 0), (.int 0 0), (.int 0 0), (.int 3 0), (.ref 1430), (.bool true), (.int 181 0), (.ref 1431), .none, (.ref 1432), (.ref 1433), (.ref 1434), (.int 1140 0), (.int 44 0), (.str (Str.ofString "/claim/cut.py") 1141)], slots := #[] }
def o1436 (P : Params) : Obj := { cls := (.type "function"), dict := none, data := .func { name := (Str.ofString "big_endian_to_int"), qualname := (Str.ofString "big_endian_to_int"), params := fnParams (nthS pB 10), body := .stmts (fnBody (nthS pB 10)), scope := fnScope (nthS pB 10), globals := 3, closure := [], defaults := .none, kwdefaults := .none, doc := .none, pyModule := (.str (Str.ofString "rlp.utils") 362), annotations := none, code := (.ref 1435), closureTuple := .none, builtins := 0 }, slots := #[] }
def o1437 (P : Params) : Obj := { cls := (.type "tuple"), dict := none, data := .seq #[] 0, slots := #[] }
def o1438 (P : Params) : Obj := { cls := .none, dict := none, data := .fields #[], slots := #[] }
def o1439 (P : Params) : Obj := { cls := (.type "tuple"), dict := none, data := .seq #[(.str (Str.ofString "value") 1146)] 0, slots := #[] }
def o1440 (P : Params) : Obj := { cls := (.type "tuple"), dict := none, data := .seq #[] 0, slots := #[] }
def o1441 (P : Params) : Obj := { cls := .none, dict := none, data := .func { name := (Str.ofString "int_to_big_endian"), qualname := (Str.ofString "int_to_big_endian"), params := fnParams (nthS pB 11), body := .stmts (fnBody (nthS pB 11)), scope := fnScope (nthS pB 11), globals := 0, closure := [], defaults := .none, kwdefaults := .none, doc := .none, pyModule := .none, annotations := none, code := .none, closureTuple := .none, builtins := 0 }, slots := #[] }
def o1442 (P : Params) : Obj := { cls := (.type "code"), dict := none, data := .fields #[(.str (Str.ofString "int_to_big_endian") 1143), (.str (Str.ofString "int_to_big_endian") 1144), (.str (Str.ofString "/claim/cut.py") 1145), (.int 46 0), (.int 1 0), (.int 0 0), (.int 0 0), (.int 3 0), (.ref 1437), (.bool true), (.int 181 0), (.ref 1438), .none, (.ref 1439), (.ref 1440), (.ref 1441), (.int 1147 0), (.int 46 0), (.str (Str.ofString "/claim/cut.py") 1148)], slots := #[] }
def o1443 (P : Params) : Obj := { cls := (.type "function"), dict := none, data := .func { name := (Str.ofString "int_to_big_endian"), qualname := (Str.ofString "int_to_big_endian"), params := fnParams (nthS pB 11), body := .stmts (fnBody (nthS pB 11)), scope := fnScope (nthS pB 11), globals := 3, closure := [], defaults := .none, kwdefaults := .none, doc := .none, pyModule := (.str (Str.ofString "rlp.utils") 362), annotations := none, code := (.ref 1442), closureTuple := .none, builtins := 0 }, slots := #[] }
def o1444 (P : Params) : Obj := { cls := (.type "tuple"), dict := none, data := .seq #[] 0, slots := #[] }
def o1445 (P : Params) : Obj := { cls := (.type "builtin_function_or_method"), dict := none, data := .fields #[(.builtin "type.__prepare__"), (.type "type")], slots := #[] }
def o1446 (P : Params) : Obj := { cls := (.type "dict"), dict := none, data := .dict #[⟨PyData.keyHash P (Str.ofString "__module__"), (.str (Str.ofString "__module__") 1159), (.str (Str.ofString "rlp.sedes.big_endian_int") 1150)⟩, ⟨PyData.keyHash P (Str.ofString "__qualname__"), (.str (Str.ofString "__qualname__") 1161), (.str (Str.ofString "BigEndianInt") 1160)⟩, ⟨PyData.keyHash P (Str.ofString "__firstlineno__"), (.str (Str.ofString "__firstlineno__") 1163), (.int 49 1162)⟩, ⟨PyData.keyHash P (Str.ofString "__init__"), (.str (Str.ofString "__init__") 1171), (.ref 1458)⟩, ⟨PyData.keyHash P (Str.ofString "serialize"), (.str (Str.ofString "serialize") 1180), (.ref 1465)⟩, ⟨PyData.keyHash P (Str.ofString "deserialize"), (.str (Str.ofString "deserialize") 1188), (.ref 1472)⟩, ⟨PyData.keyHash P (Str.ofString "__static_attributes__"), (.str (Str.ofString "__static_attributes__") 1190), (.ref 1473)⟩] 7, slots := #[] }
def o1447 (P : Params) : Obj := { cls := (.type "tuple"), dict := none, data := .seq #[] 0, slots := #[] }
def o1448 (P : Params) : Obj := { cls := .none, dict := none, data := .fields #[(.int 51 0), (.int 4 0), (.ref 1457), (.int 54 0), (.int 4 0), (.ref 1464), (.int 70 0), (.int 4 0), (.ref 1471)], slots := #[] }
def o1449 (P : Params) : Obj := { cls := (.type "code"), dict := none, data := .fields #[(.str (Str.ofString "BigEndianInt") 1154), (.str (Str.ofString "BigEndianInt") 1155), (.str (Str.ofString "/claim/cut.py") 1156), (.int 49 0), (.int 0 0), (.int 0 0), (.int 0 0), (.int 0 0), (.ref 1447), (.bool false), (.int 181 0), (.ref 1448), .none, .none, .none, .none, (.int 1157 0), (.int 49 0), (.str (Str.ofString "/claim/cut.py") 1158)], slots := #[] }
def o1450 (P : Params) : Obj := { cls := (.type "frame"), dict := none, data := .plain, slots := #[(some (.ref 1449)), (some (.ref 3)), (some (.ref 1446)), none, (some (.str (Str.ofString "rlp.sedes.big_endian_int") 1150)), none, (some (.ref 0))] }
def o1451 (P : Params) : Obj := { cls := (.type "tuple"), dict := none, data := .seq #[.none] 0, slots := #[] }
def o1452 (P : Params) : Obj := { cls := (.type "tuple"), dict := none, data := .seq #[] 0, slots := #[] }
def o1453 (P : Params) : Obj := { cls := .none, dict := none, data := .fields #[], slots := #[] }
def o1454 (P : Params) : Obj := { cls := (.type "tuple"), dict := none, data := .seq #[(.str (Str.ofString "self") 1167), (.str (Str.ofString "length") 1168)] 0, slots := #[] }
def o1455 (P : Params) : Obj := { cls := (.type "tuple"), dict := none, data := .seq #[] 0, slots := #[] }
def o1456 (P : Params) : Obj := { cls := .none, dict := none, data := .func { name := (Str.ofString "__init__"), qualname := (Str.ofString "BigEndianInt.__init__"), params := fnParams (nthS (clsBody (nthS pB 13)) 0), body := .stmts (fnBody (nthS (clsBody (nthS pB 13)) 0)), scope := fnScope (nthS (clsBody (nthS pB 13)) 0), globals := 0, closure := [], defaults := .none, kwdefaults := .none, doc := .none, pyModule := .none, annotations := none, code := .none, closureTuple := .none, builtins := 0 }, slots := #[] }
def o1457 (P : Params) : Obj := { cls := (.type "code"), dict := none, data := .fields #[(.str (Str.ofString "__init__") 1164), (.str (Str.ofString "BigEndianInt.__init__") 1165), (.str (Str.ofString "/claim/cut.py") 1166), (.int 51 0), (.int 2 0), (.int 0 0), (.int 0 0), (.int 3 0), (.ref 1452), (.bool true), (.int 181 0), (.ref 1453), .none, (.ref 1454), (.ref 1455), (.ref 1456), (.int 1169 0), (.int 51 0), (.str (Str.ofString "/claim/cut.py") 1170)], slots := #[] }
def o1458 (P : Params) : Obj := { cls := (.type "function"), dict := none, data := .func { name := (Str.ofString "__init__"), qualname := (Str.ofString "BigEndianInt.__init__"), params := fnParams (nthS (clsBody (nthS pB 13)) 0), body := .stmts (fnBody (nthS (clsBody (nthS pB 13)) 0)), scope := fnScope (nthS (clsBody (nthS pB 13)) 0), globals := 3, closure := [], defaults := (.ref 1451), kwdefaults := .none, doc := .none, pyModule := (.str (Str.ofString "rlp.sedes.big_endian_int") 1150), annotations := none, code := (.ref 1457), closureTuple := .none, builtins := 0 }, slots := #[] }
def o1459 (P : Params) : Obj := { cls := (.type "tuple"), dict := none, data := .seq #[] 0, slots := #[] }
def o1460 (P : Params) : Obj := { cls := .none, dict := none, data := .fields #[], slots := #[] }
def o1461 (P : Params) : Obj := { cls := (.type "tuple"), dict := none, data := .seq #[(.str (Str.ofString "self") 1175), (.str (Str.ofString "obj") 1176), (.str (Str.ofString "s") 1177)] 0, slots := #[] }
def o1462 (P : Params) : Obj := { cls := (.type "tuple"), dict := none, data := .seq #[] 0, slots := #[] }
def o1463 (P : Params) : Obj := { cls := .none, dict := none, data := .func { name := (Str.ofString "serialize"), qualname := (Str.ofString "BigEndianInt.serialize"), params := fnParams (nthS (clsBody (nthS pB 13)) 1), body := .stmts (fnBody (nthS (clsBody (nthS pB 13)) 1)), scope := fnScope (nthS (clsBody (nthS pB 13)) 1), globals := 0, closure := [], defaults := .none, kwdefaults := .none, doc := .none, pyModule := .none, annotations := none, code := .none, closureTuple := .none, builtins := 0 }, slots := #[] }
def o1464 (P : Params) : Obj := { cls := (.type "code"), dict := none, data := .fields #[(.str (Str.ofString "serialize") 1172), (.str (Str.ofString "BigEndianInt.serialize") 1173), (.str (Str.ofString "/claim/cut.py") 1174), (.int 54 0), (.int 2 0), (.int 0 0), (.int 0 0), (.int 3 0), (.ref 1459), (.bool true), (.int 181 0), (.ref 1460), .none, (.ref 1461), (.ref 1462), (.ref 1463), (.int 1178 0), (.int 54 0), (.str (Str.ofString "/claim/cut.py") 1179)], slots := #[] }
def o1465 (P : Params) : Obj := { cls := (.type "function"), dict := none, data := .func { name := (Str.ofString "serialize"), qualname := (Str.ofString "BigEndianInt.serialize"), params := fnParams (nthS (clsBody (nthS pB 13)) 1), body := .stmts (fnBody (nthS (clsBody (nthS pB 13)) 1)), scope := fnScope (nthS (clsBody (nthS pB 13)) 1), globals := 3, closure := [], defaults := .none, kwdefaults := .none, doc := .none, pyModule := (.str (Str.ofString "rlp.sedes.big_endian_int") 1150), annotations := none, code := (.ref 1464), closureTuple := .none, builtins := 0 }, slots := #[] }
def o1466 (P : Params) : Obj := { cls := (.type "tuple"), dict := none, data := .seq #[] 0, slots := #[] }
def o1467 (P : Params) : Obj := { cls := .none, dict := none, data := .fields #[], slots := #[] }
def o1468 (P : Params) : Obj := { cls := (.type "tuple"), dict := none, data := .seq #[(.str (Str.ofString "self") 1184), (.str (Str.ofString "serial") 1185)] 0, slots := #[] }
def o1469 (P : Params) : Obj := { cls := (.type "tuple"), dict := none, data := .seq #[] 0, slots := #[] }
def o1470 (P : Params) : Obj := { cls := .none, dict := none, data := .func { name := (Str.ofString "deserialize"), qualname := (Str.ofString "BigEndianInt.deserialize"), params := fnParams (nthS (clsBody (nthS pB 13)) 2), body := .stmts (fnBody (nthS (clsBody (nthS pB 13)) 2)), scope := fnScope (nthS (clsBody (nthS pB 13)) 2), globals := 0, closure := [], defaults := .none, kwdefaults := .none, doc := .none, pyModule := .none, annotations := none, code := .none, closureTuple := .none, builtins := 0 }, slots := #[] }
def o1471 (P : Params) : Obj := { cls := (.type "code"), dict := none, data := .fields #[(.str (Str.ofString "deserialize") 1181), (.str (Str.ofString "BigEndianInt.deserialize") 1182), (.str (Str.ofString "/claim/cut.py") 1183), (.int 70 0), (.int 2 0), (.int 0 0), (.int 0 0), (.int 3 0), (.ref 1466), (.bool true), (.int 181 0), (.ref 1467), .none, (.ref 1468), (.ref 1469), (.ref 1470), (.int 1186 0), (.int 70 0), (.str (Str.ofString "/claim/cut.py") 1187)], slots := #[] }
def o1472 (P : Params) : Obj := { cls := (.type "function"), dict := none, data := .func { name := (Str.ofString "deserialize"), qualname := (Str.ofString "BigEndianInt.deserialize"), params := fnParams (nthS (clsBody (nthS pB 13)) 2), body := .stmts (fnBody (nthS (clsBody (nthS pB 13)) 2)), scope := fnScope (nthS (clsBody (nthS pB 13)) 2), globals := 3, closure := [], defaults := .none, kwdefaults := .none, doc := .none, pyModule := (.str (Str.ofString "rlp.sedes.big_endian_int") 1150), annotations := none, code := (.ref 1471), closureTuple := .none, builtins := 0 }, slots := #[] }
def o1473 (P : Params) : Obj := { cls := (.type "tuple"), dict := none, data := .seq #[(.str (Str.ofString "length") 1189)] 0, slots := #[] }
def o1474 (P : Params) : Obj := { cls := (.type "dict"), dict := none, data := .dict #[⟨PyData.keyHash P (Str.ofString "__module__"), (.str (Str.ofString "__module__") 1159), (.str (Str.ofString "rlp.sedes.big_endian_int") 1150)⟩, ⟨PyData.keyHash P (Str.ofString "__firstlineno__"), (.str (Str.ofString "__firstlineno__") 1163), (.int 49 1162)⟩, ⟨PyData.keyHash P (Str.ofString "__init__"), (.str (Str.ofString "__init__") 1171), (.ref 1458)⟩, ⟨PyData.keyHash P (Str.ofString "serialize"), (.str (Str.ofString "serialize") 1180), (.ref 1465)⟩, ⟨PyData.keyHash P (Str.ofString "deserialize"), (.str (Str.ofString "deserialize") 1188), (.ref 1472)⟩, ⟨PyData.keyHash P (Str.ofString "__static_attributes__"), (.str (Str.ofString "__static_attributes__") 1190), (.ref 1473)⟩, ⟨PyData.keyHash P (Str.ofString "__dict__"), (.str (Str.ofString "__dict__") 1192), (.ref 1476)⟩, ⟨PyData.keyHash P (Str.ofString "__weakref__"), (.str (Str.ofString "__weakref__") 1194), (.ref 1477)⟩, ⟨PyData.keyHash P (Str.ofString "__doc__"), (.str (Str.ofString "__doc__") 1195), .none⟩] 4, slots := #[] }
def o1475 (P : Params) : Obj := { cls := (.type "type"), dict := none, data := .cls { name := (Str.ofString "BigEndianInt"), bases := [(.type "object")], mro := [(.ref 1475), (.type "object")], ns := 1474, qualname := (Str.ofString "BigEndianInt"), hasDict := true, slotNames := [], subclasses := [], abstract := false, collection := none, hasDel := false }, slots := #[none, none, (some (.str (Str.ofString "BigEndianInt") 1152)), (some (.str (Str.ofString "BigEndianInt") 1160)), (some (.builtin "object.__new__")), (some (.bool true))] }
def o1476 (P : Params) : Obj := { cls := (.type "getset_descriptor"), dict := none, data := .fields #[(.str (Str.ofString "__dict__") 1191), (.ref 1475), (.builtin "function.__dict__"), (.builtin "function.__dict__#set")], slots := #[] }
def o1477 (P : Params) : Obj := { cls := (.type "getset_descriptor"), dict := none, data := .fields #[(.str (Str.ofString "__weakref__") 1193), (.ref 1475), (.builtin "ExceptionGroup.__weakref__"), .none], slots := #[] }
def o1478 (P : Params) : Obj := { cls := (.type "super"), dict := none, data := .fields #[(.ref 1475), (.ref 1475), (.ref 1475)], slots := #[] }
def o1479 (P : Params) : Obj := { cls := (.type "builtin_function_or_method"), dict := none, data := .fields #[(.builtin "object.__init_subclass__"), (.ref 1475)], slots := #[] }
def o1480 (P : Params) : Obj := { cls := (.type "dict"), dict := none, data := .dict #[⟨PyData.keyHash P (Str.ofString "length"), (.str (Str.ofString "length") 1201), .none⟩] 1, slots := #[] }
def o1481 (P : Params) : Obj := { cls := (.ref 1475), dict := (some 1480), data := .plain, slots := #[] }
def o1482 (P : Params) : Obj := { cls := (.type "frame"), dict := none, data := .dict #[⟨PyData.keyHash P (Str.ofString "self"), (.str (Str.ofString "self") 1198), (.ref 1481)⟩, ⟨PyData.keyHash P (Str.ofString "length"), (.str (Str.ofString "length") 1199), .none⟩] 2, slots := #[] }
def o1483 (P : Params) : Obj := { cls := (.type "tuple"), dict := none, data := .seq #[] 0, slots := #[] }
def o1484 (P : Params) : Obj := { cls := (.type "builtin_function_or_method"), dict := none, data := .fields #[(.builtin "type.__prepare__"), (.type "type")], slots := #[] }
def o1485 (P : Params) : Obj := { cls := (.type "dict"), dict := none, data := .dict #[⟨PyData.keyHash P (Str.ofString "__module__"), (.str (Str.ofString "__module__") 1212), (.str (Str.ofString "rlp.sedes.binary") 1203)⟩, ⟨PyData.keyHash P (Str.ofString "__qualname__"), (.str (Str.ofString "__qualname__") 1214), (.str (Str.ofString "Binary") 1213)⟩, ⟨PyData.keyHash P (Str.ofString "__firstlineno__"), (.str (Str.ofString "__firstlineno__") 1216), (.int 79 1215)⟩, ⟨PyData.keyHash P (Str.ofString "__init__"), (.str (Str.ofString "__init__") 1226), (.ref 1497)⟩, ⟨PyData.keyHash P (Str.ofString "fixed_length"), (.str (Str.ofString "fixed_length") 1247), (.ref 1507)⟩, ⟨PyData.keyHash P (Str.ofString "is_valid_type"), (.str (Str.ofString "is_valid_type") 1267), (.ref 1517)⟩, ⟨PyData.keyHash P (Str.ofString "is_valid_length"), (.str (Str.ofString "is_valid_length") 1275), (.ref 1525)⟩, ⟨PyData.keyHash P (Str.ofString "serialize"), (.str (Str.ofString "serialize") 1283), (.ref 1532)⟩, ⟨PyData.keyHash P (Str.ofString "deserialize"), (.str (Str.ofString "deserialize") 1291), (.ref 1539)⟩, ⟨PyData.keyHash P (Str.ofString "__static_attributes__"), (.str (Str.ofString "__static_attributes__") 1295), (.ref 1540)⟩] 10, slots := #[] }
def o1486 (P : Params) : Obj := { cls := (.type "tuple"), dict := none, data := .seq #[] 0, slots := #[] }
def o1487 (P : Params) : Obj := { cls := .none, dict := none, data := .fields #[(.int 81 0), (.int 4 0), (.ref 1496), (.int 87 0), (.int 4 0), (.ref 1504), (.int 91 0), (.int 4 0), (.ref 1514), (.int 94 0), (.int 4 0), (.ref 1524), (.int 97 0), (.int 4 0), (.ref 1531), (.int 104 0), (.int 4 0), (.ref 1538)], slots := #[] }
def o1488 (P : Params) : Obj := { cls := (.type "code"), dict := none, data := .fields #[(.str (Str.ofString "Binary") 1207), (.str (Str.ofString "Binary") 1208), (.str (Str.ofString "/claim/cut.py") 1209), (.int 79 0), (.int 0 0), (.int 0 0), (.int 0 0), (.int 0 0), (.ref 1486), (.bool false), (.int 181 0), (.ref 1487), .none, .none, .none, .none, (.int 1210 0), (.int 79 0), (.str (Str.ofString "/claim/cut.py") 1211)], slots := #[] }
def o1489 (P : Params) : Obj := { cls := (.type "frame"), dict := none, data := .plain, slots := #[(some (.ref 1488)), (some (.ref 3)), (some (.ref 1485)), none, (some (.str (Str.ofString "rlp.sedes.binary") 1203)), none, (some (.ref 0))] }
def o1490 (P : Params) : Obj := { cls := (.type "tuple"), dict := none, data := .seq #[.none, .none, (.bool false)] 0, slots := #[] }
def o1491 (P : Params) : Obj := { cls := (.type "tuple"), dict := none, data := .seq #[] 0, slots := #[] }
def o1492 (P : Params) : Obj := { cls := .none, dict := none, data := .fields #[], slots := #[] }
def o1493 (P : Params) : Obj := { cls := (.type "tuple"), dict := none, data := .seq #[(.str (Str.ofString "self") 1220), (.str (Str.ofString "min_length") 1221), (.str (Str.ofString "max_length") 1222), (.str (Str.ofString "allow_empty") 1223)] 0, slots := #[] }
def o1494 (P : Params) : Obj := { cls := (.type "tuple"), dict := none, data := .seq #[] 0, slots := #[] }
def o1495 (P : Params) : Obj := { cls := .none, dict := none, data := .func { name := (Str.ofString "__init__"), qualname := (Str.ofString "Binary.__init__"), params := fnParams (nthS (clsBody (nthS pB 16)) 0), body := .stmts (fnBody (nthS (clsBody (nthS pB 16)) 0)), scope := fnScope (nthS (clsBody (nthS pB 16)) 0), globals := 0, closure := [], defaults := .none, kwdefaults := .none, doc := .none, pyModule := .none, annotations := none, code := .none, closureTuple := .none, builtins := 0 }, slots := #[] }
def o1496 (P : Params) : Obj := { cls := (.type "code"), dict := none, data := .fields #[(.str (Str.ofString "__init__") 1217), (.str (Str.ofString "Binary.__init__") 1218), (.str (Str.ofString "/claim/cut.py") 1219), (.int 81 0), (.int 4 0), (.int 0 0), (.int 0 0), (.int 3 0), (.ref 1491), (.bool true), (.int 181 0), (.ref 1492), .none, (.ref 1493), (.ref 1494), (.ref 1495), (.int 1224 0), (.int 81 0), (.str (Str.ofString "/claim/cut.py") 1225)], slots := #[] }
def o1497 (P : Params) : Obj := { cls := (.type "function"), dict := none, data := .func { name := (Str.ofString "__init__"), qualname := (Str.ofString "Binary.__init__"), params := fnParams (nthS (clsBody (nthS pB 16)) 0), body := .stmts (fnBody (nthS (clsBody (nthS pB 16)) 0)), scope := fnScope (nthS (clsBody (nthS pB 16)) 0), globals := 3, closure := [], defaults := (.ref 1490), kwdefaults := .none, doc := .none, pyModule := (.str (Str.ofString "rlp.sedes.binary") 1203), annotations := none, code := (.ref 1496), closureTuple := .none, builtins := 0 }, slots := #[] }
def o1498 (P : Params) : Obj := { cls := (.type "tuple"), dict := none, data := .seq #[(.bool false)] 0, slots := #[] }
def o1499 (P : Params) : Obj := { cls := (.type "tuple"), dict := none, data := .seq #[] 0, slots := #[] }
def o1500 (P : Params) : Obj := { cls := .none, dict := none, data := .fields #[], slots := #[] }
def o1501 (P : Params) : Obj := { cls := (.type "tuple"), dict := none, data := .seq #[(.str (Str.ofString "cls") 1230), (.str (Str.ofString "length") 1231), (.str (Str.ofString "allow_empty") 1232)] 0, slots := #[] }
def o1502 (P : Params) : Obj := { cls := (.type "tuple"), dict := none, data := .seq #[] 0, slots := #[] }
def o1503 (P : Params) : Obj := { cls := .none, dict := none, data := .func { name := (Str.ofString "fixed_length"), qualname := (Str.ofString "Binary.fixed_length"), params := fnParams (nthS (clsBody (nthS pB 16)) 1), body := .stmts (fnBody (nthS (clsBody (nthS pB 16)) 1)), scope := fnScope (nthS (clsBody (nthS pB 16)) 1), globals := 0, closure := [], defaults := .none, kwdefaults := .none, doc := .none, pyModule := .none, annotations := none, code := .none, closureTuple := .none, builtins := 0 }, slots := #[] }
def o1504 (P : Params) : Obj := { cls := (.type "code"), dict := none, data := .fields #[(.str (Str.ofString "fixed_length") 1227), (.str (Str.ofString "Binary.fixed_length") 1228), (.str (Str.ofString "/claim/cut.py") 1229), (.int 86 0), (.int 3 0), (.int 0 0), (.int 0 0), (.int 3 0), (.ref 1499), (.bool true), (.int 181 0), (.ref 1500), .none, (.ref 1501), (.ref 1502), (.ref 1503), (.int 1233 0), (.int 86 0), (.str (Str.ofString "/claim/cut.py") 1234)], slots := #[] }
def o1505 (P : Params) : Obj := { cls := (.type "function"), dict := none, data := .func { name := (Str.ofString "fixed_length"), qualname := (Str.ofString "Binary.fixed_length"), params := fnParams (nthS (clsBody (nthS pB 16)) 1), body := .stmts (fnBody (nthS (clsBody (nthS pB 16)) 1)), scope := fnScope (nthS (clsBody (nthS pB 16)) 1), globals := 3, closure := [], defaults := (.ref 1498), kwdefaults := .none, doc := .none, pyModule := (.str (Str.ofString "rlp.sedes.binary") 1203), annotations := (some 1508), code := (.ref 1504), closureTuple := .none, builtins := 0 }, slots := #[] }
def o1506 (P : Params) : Obj := { cls := (.type "dict"), dict := none, data := .dict #[⟨PyData.keyHash P (Str.ofString "__module__"), (.str (Str.ofString "__module__") 1236), (.str (Str.ofString "rlp.sedes.binary") 1203)⟩, ⟨PyData.keyHash P (Str.ofString "__name__"), (.str (Str.ofString "__name__") 1239), (.str (Str.ofString "fixed_length") 1238)⟩, ⟨PyData.keyHash P (Str.ofString "__qualname__"), (.str (Str.ofString "__qualname__") 1242), (.str (Str.ofString "Binary.fixed_length") 1241)⟩, ⟨PyData.keyHash P (Str.ofString "__doc__"), (.str (Str.ofString "__doc__") 1244), .none⟩, ⟨PyData.keyHash P (Str.ofString "__annotations__"), (.str (Str.ofString "__annotations__") 1246), (.ref 1508)⟩] 5, slots := #[] }
def o1507 (P : Params) : Obj := { cls := (.type "classmethod"), dict := (some 1506), data := .fields #[(.ref 1505), (.bool false)], slots := #[] }
def o1508 (P : Params) : Obj := { cls := (.type "dict"), dict := none, data := .dict #[] 0, slots := #[] }
def o1509 (P : Params) : Obj := { cls := (.type "tuple"), dict := none, data := .seq #[] 0, slots := #[] }
def o1510 (P : Params) : Obj := { cls := .none, dict := none, data := .fields #[], slots := #[] }
def o1511 (P : Params) : Obj := { cls := (.type "tuple"), dict := none, data := .seq #[(.str (Str.ofString "cls") 1251), (.str (Str.ofString "obj") 1252)] 0, slots := #[] }
def o1512 (P : Params) : Obj := { cls := (.type "tuple"), dict := none, data := .seq #[] 0, slots := #[] }
def o1513 (P : Params) : Obj := { cls := .none, dict := none, data := .func { name := (Str.ofString "is_valid_type"), qualname := (Str.ofString "Binary.is_valid_type"), params := fnParams (nthS (clsBody (nthS pB 16)) 2), body := .stmts (fnBody (nthS (clsBody (nthS pB 16)) 2)), scope := fnScope (nthS (clsBody (nthS pB 16)) 2), globals := 0, closure := [], defaults := .none, kwdefaults := .none, doc := .none, pyModule := .none, annotations := none, code := .none, closureTuple := .none, builtins := 0 }, slots := #[] }
def o1514 (P : Params) : Obj := { cls := (.type "code"), dict := none, data := .fields #[(.str (Str.ofString "is_valid_type") 1248), (.str (Str.ofString "Binary.is_valid_type") 1249), (.str (Str.ofString "/claim/cut.py") 1250), (.int 90 0), (.int 2 0), (.int 0 0), (.int 0 0), (.int 3 0), (.ref 1509), (.bool true), (.int 181 0), (.ref 1510), .none, (.ref 1511), (.ref 1512), (.ref 1513), (.int 1253 0), (.int 90 0), (.str (Str.ofString "/claim/cut.py") 1254)], slots := #[] }
def o1515 (P : Params) : Obj := { cls := (.type "function"), dict := none, data := .func { name := (Str.ofString "is_valid_type"), qualname := (Str.ofString "Binary.is_valid_type"), params := fnParams (nthS (clsBody (nthS pB 16)) 2), body := .stmts (fnBody (nthS (clsBody (nthS pB 16)) 2)), scope := fnScope (nthS (clsBody (nthS pB 16)) 2), globals := 3, closure := [], defaults := .none, kwdefaults := .none, doc := .none, pyModule := (.str (Str.ofString "rlp.sedes.binary") 1203), annotations := (some 1518), code := (.ref 1514), closureTuple := .none, builtins := 0 }, slots := #[] }
def o1516 (P : Params) : Obj := { cls := (.type "dict"), dict := none, data := .dict #[⟨PyData.keyHash P (Str.ofString "__module__"), (.str (Str.ofString "__module__") 1256), (.str (Str.ofString "rlp.sedes.binary") 1203)⟩, ⟨PyData.keyHash P (Str.ofString "__name__"), (.str (Str.ofString "__name__") 1259), (.str (Str.ofString "is_valid_type") 1258)⟩, ⟨PyData.keyHash P (Str.ofString "__qualname__"), (.str (Str.ofString "__qualname__") 1262), (.str (Str.ofString "Binary.is_valid_type") 1261)⟩, ⟨PyData.keyHash P (Str.ofString "__doc__"), (.str (Str.ofString "__doc__") 1264), .none⟩, ⟨PyData.keyHash P (Str.ofString "__annotations__"), (.str (Str.ofString "__annotations__") 1266), (.ref 1518)⟩] 5, slots := #[] }
def o1517 (P : Params) : Obj := { cls := (.type "classmethod"), dict := (some 1516), data := .fields #[(.ref 1515), (.bool false)], slots := #[] }
def o1518 (P : Params) : Obj := { cls := (.type "dict"), dict := none, data := .dict #[] 0, slots := #[] }
def o1519 (P : Params) : Obj := { cls := (.type "tuple"), dict := none, data := .seq #[] 0, slots := #[] }
def o1520 (P : Params) : Obj := { cls := .none, dict := none, data := .fields #[], slots := #[] }
def o1521 (P : Params) : Obj := { cls := (.type "tuple"), dict := none, data := .seq #[(.str (Str.ofString "self") 1271), (.str (Str.ofString "length") 1272)] 0, slots := #[] }
def o1522 (P : Params) : Obj := { cls := (.type "tuple"), dict := none, data := .seq #[] 0, slots := #[] }
def o1523 (P : Params) : Obj := { cls := .none, dict := none, data := .func { name := (Str.ofString "is_valid_length"), qualname := (Str.ofString "Binary.is_valid_length"), params := fnParams (nthS (clsBody (nthS pB 16)) 3), body := .stmts (fnBody (nthS (clsBody (nthS pB 16)) 3)), scope := fnScope (nthS (clsBody (nthS pB 16)) 3), globals := 0, closure := [], defaults := .none, kwdefaults := .none, doc := .none, pyModule := .none, annotations := none, code := .none, closureTuple := .none, builtins := 0 }, slots := #[] }
def o1524 (P : Params) : Obj := { cls := (.type "code"), dict := none, data := .fields #[(.str (Str.ofString "is_valid_length") 1268), (.str (Str.ofString "Binary.is_valid_length") 1269), (.str (Str.ofString "/claim/cut.py") 1270), (.int 94 0), (.int 2 0), (.int 0 0), (.int 0 0), (.int 3 0), (.ref 1519), (.bool true), (.int 181 0), (.ref 1520), .none, (.ref 1521), (.ref 1522), (.ref 1523), (.int 1273 0), (.int 94 0), (.str (Str.ofString "/claim/cut.py") 1274)], slots := #[] }
def o1525 (P : Params) : Obj := { cls := (.type "function"), dict := none, data := .func { name := (Str.ofString "is_valid_length"), qualname := (Str.ofString "Binary.is_valid_length"), params := fnParams (nthS (clsBody (nthS pB 16)) 3), body := .stmts (fnBody (nthS (clsBody (nthS pB 16)) 3)), scope := fnScope (nthS (clsBody (nthS pB 16)) 3), globals := 3, closure := [], defaults := .none, kwdefaults := .none, doc := .none, pyModule := (.str (Str.ofString "rlp.sedes.binary") 1203), annotations := none, code := (.ref 1524), closureTuple := .none, builtins := 0 }, slots := #[] }
def o1526 (P : Params) : Obj := { cls := (.type "tuple"), dict := none, data := .seq #[] 0, slots := #[] }
def o1527 (P : Params) : Obj := { cls := .none, dict := none, data := .fields #[], slots := #[] }
def o1528 (P : Params) : Obj := { cls := (.type "tuple"), dict := none, data := .seq #[(.str (Str.ofString "self") 1279), (.str (Str.ofString "obj") 1280)] 0, slots := #[] }
def o1529 (P : Params) : Obj := { cls := (.type "tuple"), dict := none, data := .seq #[] 0, slots := #[] }
def o1530 (P : Params) : Obj := { cls := .none, dict := none, data := .func { name := (Str.ofString "serialize"), qualname := (Str.ofString "Binary.serialize"), params := fnParams (nthS (clsBody (nthS pB 16)) 4), body := .stmts (fnBody (nthS (clsBody (nthS pB 16)) 4)), scope := fnScope (nthS (clsBody (nthS pB 16)) 4), globals := 0, closure := [], defaults := .none, kwdefaults := .none, doc := .none, pyModule := .none, annotations := none, code := .none, closureTuple := .none, builtins := 0 }, slots := #[] }
def o1531 (P : Params) : Obj := { cls := (.type "code"), dict := none, data := .fields #[(.str (Str.ofString "serialize") 1276), (.str (Str.ofString "Binary.serialize") 1277), (.str (Str.ofString "/claim/cut.py") 1278), (.int 97 0), (.int 2 0), (.int 0 0), (.int 0 0), (.int 3 0), (.ref 1526), (.bool true), (.int 181 0), (.ref 1527), .none, (.ref 1528), (.ref 1529), (.ref 1530), (.int 1281 0), (.int 97 0), (.str (Str.ofString "/claim/cut.py") 1282)], slots := #[] }
def o1532 (P : Params) : Obj := { cls := (.type "function"), dict := none, data := .func { name := (Str.ofString "serialize"), qualname := (Str.ofString "Binary.serialize"), params := fnParams (nthS (clsBody (nthS pB 16)) 4), body := .stmts (fnBody (nthS (clsBody (nthS pB 16)) 4)), scope := fnScope (nthS (clsBody (nthS pB 16)) 4), globals := 3, closure := [], defaults := .none, kwdefaults := .none, doc := .none, pyModule := (.str (Str.ofString "rlp.sedes.binary") 1203), annotations := none, code := (.ref 1531), closureTuple := .none, builtins := 0 }, slots := #[] }
def o1533 (P : Params) : Obj := { cls := (.type "tuple"), dict := none, data := .seq #[] 0, slots := #[] }
def o1534 (P : Params) : Obj := { cls := .none, dict := none, data := .fields #[], slots := #[] }
def o1535 (P : Params) : Obj := { cls := (.type "tuple"), dict := none, data := .seq #[(.str (Str.ofString "self") 1287), (.str (Str.ofString "serial") 1288)] 0, slots := #[] }
def o1536 (P : Params) : Obj := { cls := (.type "tuple"), dict := none, data := .seq #[] 0, slots := #[] }
def o1537 (P : Params) : Obj := { cls := .none, dict := none, data := .func { name := (Str.ofString "deserialize"), qualname := (Str.ofString "Binary.deserialize"), params := fnParams (nthS (clsBody (nthS pB 16)) 5), body := .stmts (fnBody (nthS (clsBody (nthS pB 16)) 5)), scope := fnScope (nthS (clsBody (nthS pB 16)) 5), globals := 0, closure := [], defaults := .none, kwdefaults := .none, doc := .none, pyModule := .none, annotations := none, code := .none, closureTuple := .none, builtins := 0 }, slots := #[] }
def o1538 (P : Params) : Obj := { cls := (.type "code"), dict := none, data := .fields #[(.str (Str.ofString "deserialize") 1284), (.str (Str.ofString "Binary.deserialize") 1285), (.str (Str.ofString "/claim/cut.py") 1286), (.int 104 0), (.int 2 0), (.int 0 0), (.int 0 0), (.int 3 0), (.ref 1533), (.bool true), (.int 181 0), (.ref 1534), .none, (.ref 1535), (.ref 1536), (.ref 1537), (.int 1289 0), (.int 104 0), (.str (Str.ofString "/claim/cut.py") 1290)], slots := #[] }
def o1539 (P : Params) : Obj := { cls := (.type "function"), dict := none, data := .func { name := (Str.ofString "deserialize"), qualname := (Str.ofString "Binary.deserialize"), params := fnParams (nthS (clsBody (nthS pB 16)) 5), body := .stmts (fnBody (nthS (clsBody (nthS pB 16)) 5)), scope := fnScope (nthS (clsBody (nthS pB 16)) 5), globals := 3, closure := [], defaults := .none, kwdefaults := .none, doc := .none, pyModule := (.str (Str.ofString "rlp.sedes.binary") 1203), annotations := none, code := (.ref 1538), closureTuple := .none, builtins := 0 }, slots := #[] }
def o1540 (P : Params) : Obj := { cls := (.type "tuple"), dict := none, data := .seq #[(.str (Str.ofString "allow_empty") 1292), (.str (Str.ofString "max_length") 1293), (.str (Str.ofString "min_length") 1294)] 0, slots := #[] }
def o1541 (P : Params) : Obj := { cls := (.type "dict"), dict := none, data := .dict #[⟨PyData.keyHash P (Str.ofString "__module__"), (.str (Str.ofString "__module__") 1212), (.str (Str.ofString "rlp.sedes.binary") 1203)⟩, ⟨PyData.keyHash P (Str.ofString "__firstlineno__"), (.str (Str.ofString "__firstlineno__") 1216), (.int 79 1215)⟩, ⟨PyData.keyHash P (Str.ofString "__init__"), (.str (Str.ofString "__init__") 1226), (.ref 1497)⟩, ⟨PyData.keyHash P (Str.ofString "fixed_length"), (.str (Str.ofString "fixed_length") 1247), (.ref 1507)⟩, ⟨PyData.keyHash P (Str.ofString "is_valid_type"), (.str (Str.ofString "is_valid_type") 1267), (.ref 1517)⟩, ⟨PyData.keyHash P (Str.ofString "is_valid_length"), (.str (Str.ofString "is_valid_length") 1275), (.ref 1525)⟩, ⟨PyData.keyHash P (Str.ofString "serialize"), (.str (Str.ofString "serialize") 1283), (.ref 1532)⟩, ⟨PyData.keyHash P (Str.ofString "deserialize"), (.str (Str.ofString "deserialize") 1291), (.ref 1539)⟩, ⟨PyData.keyHash P (Str.ofString "__static_attributes__"), (.str (Str.ofString "__static_attributes__") 1295), (.ref 1540)⟩, ⟨PyData.keyHash P (Str.ofString "__dict__"), (.str (Str.ofString "__dict__") 1297), (.ref 1543)⟩, ⟨PyData.keyHash P (Str.ofString "__weakref__"), (.str (Str.ofString "__weakref__") 1299), (.ref 1544)⟩, ⟨PyData.keyHash P (Str.ofString "__doc__"), (.str (Str.ofString "__doc__") 1300), .none⟩] 4, slots := #[] }
def o1542 (P : Params) : Obj := { cls := (.type "type"), dict := none, data := .cls { name := (Str.ofString "Binary"), bases := [(.type "object")], mro := [(.ref 1542), (.type "object")], ns := 1541, qualname := (Str.ofString "Binary"), hasDict := true, slotNames := [], subclasses := [], abstract := false, collection := none, hasDel := false }, slots := #[none, none, (some (.str (Str.ofString "Binary") 1205)), (some (.str (Str.ofString "Binary") 1213)), (some (.builtin "object.__new__")), (some (.bool true))] }
def o1543 (P : Params) : Obj := { cls := (.type "getset_descriptor"), dict := none, data := .fields #[(.str (Str.ofString "__dict__") 1296), (.ref 1542), (.builtin "function.__dict__"), (.builtin "function.__dict__#set")], slots := #[] }
def o1544 (P : Params) : Obj := { cls := (.type "getset_descriptor"), dict := none, data := .fields #[(.str (Str.ofString "__weakref__") 1298), (.ref 1542), (.builtin "ExceptionGroup.__weakref__"), .none], slots := #[] }
def o1545 (P : Params) : Obj := { cls := (.type "super"), dict := none, data := .fields #[(.ref 1542), (.ref 1542), (.ref 1542)], slots := #[] }
def o1546 (P : Params) : Obj := { cls := (.type "builtin_function_or_method"), dict := none, data := .fields #[(.builtin "object.__init_subclass__"), (.ref 1542)], slots := #[] }
def o1547 (P : Params) : Obj := { cls := (.type "dict"), dict := none, data := .dict #[⟨PyData.keyHash P (Str.ofString "min_length"), (.str (Str.ofString "min_length") 1309), (.int 0 1307)⟩, ⟨PyData.keyHash P (Str.ofString "max_length"), (.str (Str.ofString "max_length") 1311), .none⟩, ⟨PyData.keyHash P (Str.ofString "allow_empty"), (.str (Str.ofString "allow_empty") 1313), (.bool false)⟩] 3, slots := #[] }
def o1548 (P : Params) : Obj := { cls := (.ref 1542), dict := (some 1547), data := .plain, slots := #[] }
def o1549 (P : Params) : Obj := { cls := (.type "frame"), dict := none, data := .dict #[⟨PyData.keyHash P (Str.ofString "self"), (.str (Str.ofString "self") 1303), (.ref 1548)⟩, ⟨PyData.keyHash P (Str.ofString "min_length"), (.str (Str.ofString "min_length") 1304), .none⟩, ⟨PyData.keyHash P (Str.ofString "max_length"), (.str (Str.ofString "max_length") 1305), .none⟩, ⟨PyData.keyHash P (Str.ofString "allow_empty"), (.str (Str.ofString "allow_empty") 1306), (.bool false)⟩] 4, slots := #[] }
def o1550 (P : Params) : Obj := { cls := (.type "tuple"), dict := none, data := .seq #[] 0, slots := #[] }
def o1551 (P : Params) : Obj := { cls := (.type "builtin_function_or_method"), dict := none, data := .fields #[(.builtin "type.__prepare__"), (.type "type")], slots := #[] }
def o1552 (P : Params) : Obj := { cls := (.type "dict"), dict := none, data := .dict #[⟨PyData.keyHash P (Str.ofString "__module__"), (.str (Str.ofString "__module__") 1324), (.str (Str.ofString "rlp.sedes.boolean") 1315)⟩, ⟨PyData.keyHash P (Str.ofString "__qualname__"), (.str (Str.ofString "__qualname__") 1326), (.str (Str.ofString "Boolean") 1325)⟩, ⟨PyData.keyHash P (Str.ofString "__firstlineno__"), (.str (Str.ofString "__firstlineno__") 1328), (.int 113 1327)⟩, ⟨PyData.keyHash P (Str.ofString "serialize"), (.str (Str.ofString "serialize") 1336), (.ref 1563)⟩, ⟨PyData.keyHash P (Str.ofString "deserialize"), (.str (Str.ofString "deserialize") 1344), (.ref 1570)⟩, ⟨PyData.keyHash P (Str.ofString "__static_attributes__"), (.str (Str.ofString "__static_attributes__") 1345), (.ref 1571)⟩] 6, slots := #[] }
def o1553 (P : Params) : Obj := { cls := (.type "tuple"), dict := none, data := .seq #[] 0, slots := #[] }
def o1554 (P : Params) : Obj := { cls := .none, dict := none, data := .fields #[(.int 115 0), (.int 4 0), (.ref 1562), (.int 125 0), (.int 4 0), (.ref 1569)], slots := #[] }
def o1555 (P : Params) : Obj := { cls := (.type "code"), dict := none, data := .fields #[(.str (Str.ofString "Boolean") 1319), (.str (Str.ofString "Boolean") 1320), (.str (Str.ofString "/claim/cut.py") 1321), (.int 113 0), (.int 0 0), (.int 0 0), (.int 0 0), (.int 0 0), (.ref 1553), (.bool false), (.int 181 0), (.ref 1554), .none, .none, .none, .none, (.int 1322 0), (.int 113 0), (.str (Str.ofString "/claim/cut.py") 1323)], slots := #[] }
def o1556 (P : Params) : Obj := { cls := (.type "frame"), dict := none, data := .plain, slots := #[(some (.ref 1555)), (some (.ref 3)), (some (.ref 1552)), none, (some (.str (Str.ofString "rlp.sedes.boolean") 1315)), none, (some (.ref 0))] }
def o1557 (P : Params) : Obj := { cls := (.type "tuple"), dict := none, data := .seq #[] 0, slots := #[] }
def o1558 (P : Params) : Obj := { cls := .none, dict := none, data := .fields #[], slots := #[] }
def o1559 (P : Params) : Obj := { cls := (.type "tuple"), dict := none, data := .seq #[(.str (Str.ofString "self") 1332), (.str (Str.ofString "obj") 1333)] 0, slots := #[] }
def o1560 (P : Params) : Obj := { cls := (.type "tuple"), dict := none, data := .seq #[] 0, slots := #[] }
def o1561 (P : Params) : Obj := { cls := .none, dict := none, data := .func { name := (Str.ofString "serialize"), qualname := (Str.ofString "Boolean.serialize"), params := fnParams (nthS (clsBody (nthS pB 19)) 0), body := .stmts (fnBody (nthS (clsBody (nthS pB 19)) 0)), scope := fnScope (nthS (clsBody (nthS pB 19)) 0), globals := 0, closure := [], defaults := .none, kwdefaults := .none, doc := .none, pyModule := .none, annotations := none, code := .none, closureTuple := .none, builtins := 0 }, slots := #[] }
def o1562 (P : Params) : Obj := { cls := (.type "code"), dict := none, data := .fields #[(.str (Str.ofString "serialize") 1329), (.str (Str.ofString "Boolean.serialize") 1330), (.str (Str.ofString "/claim/cut.py") 1331), (.int 115 0), (.int 2 0), (.int 0 0), (.int 0 0), (.int 3 0), (.ref 1557), (.bool true), (.int 181 0), (.ref 1558), .none, (.ref 1559), (.ref 1560), (.ref 1561), (.int 1334 0), (.int 115 0), (.str (Str.ofString "/claim/cut.py") 1335)], slots := #[] }
def o1563 (P : Params) : Obj := { cls := (.type "function"), dict := none, data := .func { name := (Str.ofString "serialize"), qualname := (Str.ofString "Boolean.serialize"), params := fnParams (nthS (clsBody (nthS pB 19)) 0), body := .stmts (fnBody (nthS (clsBody (nthS pB 19)) 0)), scope := fnScope (nthS (clsBody (nthS pB 19)) 0), globals := 3, closure := [], defaults := .none, kwdefaults := .none, doc := .none, pyModule := (.str (Str.ofString "rlp.sedes.boolean") 1315), annotations := none, code := (.ref 1562), closureTuple := .none, builtins := 0 }, slots := #[] }
def o1564 (P : Params) : Obj := { cls := (.type "tuple"), dict := none, data := .seq #[] 0, slots := #[] }
def o1565 (P : Params) : Obj := { cls := .none, dict := none, data := .fields #[], slots := #[] }
def o1566 (P : Params) : Obj := { cls := (.type "tuple"), dict := none, data := .seq #[(.str (Str.ofString "self") 1340), (.str (Str.ofString "serial") 1341)] 0, slots := #[] }
def o1567 (P : Params) : Obj := { cls := (.type "tuple"), dict := none, data := .seq #[] 0, slots := #[] }
def o1568 (P : Params) : Obj := { cls := .none, dict := none, data := .func { name := (Str.ofString "deserialize"), qualname := (Str.ofString "Boolean.deserialize"), params := fnParams (nthS (clsBody (nthS pB 19)) 1), body := .stmts (fnBody (nthS (clsBody (nthS pB 19)) 1)), scope := fnScope (nthS (clsBody (nthS pB 19)) 1), globals := 0, closure := [], defaults := .none, kwdefaults := .none, doc := .none, pyModule := .none, annotations := none, code := .none, closureTuple := .none, builtins := 0 }, slots := #[] }
def o1569 (P : Params) : Obj := { cls := (.type "code"), dict := none, data := .fields #[(.str (Str.ofString "deserialize") 1337), (.str (Str.ofString "Boolean.deserialize") 1338), (.str (Str.ofString "/claim/cut.py") 1339), (.int 125 0), (.int 2 0), (.int 0 0), (.int 0 0), (.int 3 0), (.ref 1564), (.bool true), (.int 181 0), (.ref 1565), .none, (.ref 1566), (.ref 1567), (.ref 1568), (.int 1342 0), (.int 125 0), (.str (Str.ofString "/claim/cut.py") 1343)], slots := #[] }
def o1570 (P : Params) : Obj := { cls := (.type "function"), dict := none, data := .func { name := (Str.ofString "deserialize"), qualname := (Str.ofString "Boolean.deserialize"), params := fnParams (nthS (clsBody (nthS pB 19)) 1), body := .stmts (fnBody (nthS (clsBody (nthS pB 19)) 1)), scope := fnScope (nthS (clsBody (nthS pB 19)) 1), globals := 3, closure := [], defaults := .none, kwdefaults := .none, doc := .none, pyModule := (.str (Str.ofString "rlp.sedes.boolean") 1315), annotations := none, code := (.ref 1569), closureTuple := .none, builtins := 0 }, slots := #[] }
def o1571 (P : Params) : Obj := { cls := (.type "tuple"), dict := none, data := .seq #[] 0, slots := #[] }
def o1572 (P : Params) : Obj := { cls := (.type "dict"), dict := none, data := .dict #[⟨PyData.keyHash P (Str.ofString "__module__"), (.str (Str.ofString "__module__") 1324), (.str (Str.ofString "rlp.sedes.boolean") 1315)⟩, ⟨PyData.keyHash P (Str.ofString "__firstlineno__"), (.str (Str.ofString "__firstlineno__") 1328), (.int 113 1327)⟩, ⟨PyData.keyHash P (Str.ofString "serialize"), (.str (Str.ofString "serialize") 1336), (.ref 1563)⟩, ⟨PyData.keyHash P (Str.ofString "deserialize"), (.str (Str.ofString "deserialize") 1344), (.ref 1570)⟩, ⟨PyData.keyHash P (Str.ofString "__static_attributes__"), (.str (Str.ofString "__static_attributes__") 1345), (.ref 1571)⟩, ⟨PyData.keyHash P (Str.ofString "__dict__"), (.str (Str.ofString "__dict__") 1347), (.ref 1574)⟩, ⟨PyData.keyHash P (Str.ofString "__weakref__"), (.str (Str.ofString "__weakref__") 1349), (.ref 1575)⟩, ⟨PyData.keyHash P (Str.ofString "__doc__"), (.str (Str.ofString "__doc__") 1350), .none⟩] 4, slots := #[] }
def o1573 (P : Params) : Obj := { cls := (.type "type"), dict := none, data := .cls { name := (Str.ofString "Boolean"), bases := [(.type "object")], mro := [(.ref 1573), (.type "object")], ns := 1572, qualname := (Str.ofString "Boolean"), hasDict := true, slotNames := [], subclasses := [], abstract := false, collection := none, hasDel := false }, slots := #[none, none, (some (.str (Str.ofString "Boolean") 1317)), (some (.str (Str.ofString "Boolean") 1325)), (some (.builtin "object.__new__")), (some (.bool true))] }
def o1574 (P : Params) : Obj := { cls := (.type "getset_descriptor"), dict := none, data := .fields #[(.str (Str.ofString "__dict__") 1346), (.ref 1573), (.builtin "function.__dict__"), (.builtin "function.__dict__#set")], slots := #[] }
def o1575 (P : Params) : Obj := { cls := (.type "getset_descriptor"), dict := none, data := .fields #[(.str (Str.ofString "__weakref__") 1348), (.ref 1573), (.builtin "ExceptionGroup.__weakref__"), .none], slots := #[] }
def o1576 (P : Params) : Obj := { cls := (.type "super"), dict := none, data := .fields #[(.ref 1573), (.ref 1573), (.ref 1573)], slots := #[] }
def o1577 (P : Params) : Obj := { cls := (.type "builtin_function_or_method"), dict := none, data := .fields #[(.builtin "object.__init_subclass__"), (.ref 1573)], slots := #[] }
def o1578 (P : Params) : Obj := { cls := (.type "dict"), dict := none, data := .dict #[] 0, slots := #[] }
def o1579 (P : Params) : Obj := { cls := (.ref 1573), dict := (some 1578), data := .plain, slots := #[] }
def o1580 (P : Params) : Obj := { cls := (.type "tuple"), dict := none, data := .seq #[] 0, slots := #[] }
def o1581 (P : Params) : Obj := { cls := .none, dict := none, data := .fields #[], slots := #[] }
def o1582 (P : Params) : Obj := { cls := (.type "tuple"), dict := none, data := .seq #[(.str (Str.ofString "obj") 1359)] 0, slots := #[] }
def o1583 (P : Params) : Obj := { cls := (.type "tuple"), dict := none, data := .seq #[] 0, slots := #[] }
def o1584 (P : Params) : Obj := { cls := .none, dict := none, data := .func { name := (Str.ofString "is_sedes"), qualname := (Str.ofString "is_sedes"), params := fnParams (nthS pB 22), body := .stmts (fnBody (nthS pB 22)), scope := fnScope (nthS pB 22), globals := 0, closure := [], defaults := .none, kwdefaults := .none, doc := .none, pyModule := .none, annotations := none, code := .none, closureTuple := .none, builtins := 0 }, slots := #[] }
def o1585 (P : Params) : Obj := { cls := (.type "code"), dict := none, data := .fields #[(.str (Str.ofString "is_sedes") 1356), (.str (Str.ofString "is_sedes") 1357), (.str (Str.ofString "/claim/cut.py") 1358), (.int 134 0), (.int 1 0), (.int 0 0), (.int 0 0), (.int 3 0), (.ref 1580), (.bool true), (.int 181 0), (.ref 1581), .none, (.ref 1582), (.ref 1583), (.ref 1584), (.int 1360 0), (.int 134 0), (.str (Str.ofString "/claim/cut.py") 1361)], slots := #[] }
def o1586 (P : Params) : Obj := { cls := (.type "function"), dict := none, data := .func { name := (Str.ofString "is_sedes"), qualname := (Str.ofString "is_sedes"), params := fnParams (nthS pB 22), body := .stmts (fnBody (nthS pB 22)), scope := fnScope (nthS pB 22), globals := 3, closure := [], defaults := .none, kwdefaults := .none, doc := .none, pyModule := (.str (Str.ofString "rlp.sedes.lists") 1354), annotations := none, code := (.ref 1585), closureTuple := .none, builtins := 0 }, slots := #[] }
def o1587 (P : Params) : Obj := { cls := (.type "tuple"), dict := none, data := .seq #[] 0, slots := #[] }
def o1588 (P : Params) : Obj := { cls := .none, dict := none, data := .fields #[], slots := #[] }
def o1589 (P : Params) : Obj := { cls := (.type "tuple"), dict := none, data := .seq #[(.str (Str.ofString "obj") 1366)] 0, slots := #[] }
def o1590 (P : Params) : Obj := { cls := (.type "tuple"), dict := none, data := .seq #[] 0, slots := #[] }
def o1591 (P : Params) : Obj := { cls := .none, dict := none, data := .func { name := (Str.ofString "is_sequence"), qualname := (Str.ofString "is_sequence"), params := fnParams (nthS pB 23), body := .stmts (fnBody (nthS pB 23)), scope := fnScope (nthS pB 23), globals := 0, closure := [], defaults := .none, kwdefaults := .none, doc := .none, pyModule := .none, annotations := none, code := .none, closureTuple := .none, builtins := 0 }, slots := #[] }
def o1592 (P : Params) : Obj := { cls := (.type "code"), dict := none, data := .fields #[(.str (Str.ofString "is_sequence") 1363), (.str (Str.ofString "is_sequence") 1364), (.str (Str.ofString "/claim/cut.py") 1365), (.int 136 0), (.int 1 0), (.int 0 0), (.int 0 0), (.int 3 0), (.ref 1587), (.bool true), (.int 181 0), (.ref 1588), .none, (.ref 1589), (.ref 1590), (.ref 1591), (.int 1367 0), (.int 136 0), (.str (Str.ofString "/claim/cut.py") 1368)], slots := #[] }
def o1593 (P : Params) : Obj := { cls := (.type "function"), dict := none, data := .func { name := (Str.ofString "is_sequence"), qualname := (Str.ofString "is_sequence"), params := fnParams (nthS pB 23), body := .stmts (fnBody (nthS pB 23)), scope := fnScope (nthS pB 23), globals := 3, closure := [], defaults := .none, kwdefaults := .none, doc := .none, pyModule := (.str (Str.ofString "rlp.sedes.lists") 1354), annotations := none, code := (.ref 1592), closureTuple := .none, builtins := 0 }, slots := #[] }
def o1594 (P : Params) : Obj := { cls := (.type "tuple"), dict := none, data := .seq #[] 0, slots := #[] }
def o1595 (P : Params) : Obj := { cls := (.type "builtin_function_or_method"), dict := none, data := .fields #[(.builtin "type.__prepare__"), (.type "type")], slots := #[] }
def o1596 (P : Params) : Obj := { cls := (.type "dict"), dict := none, data := .dict #[⟨PyData.keyHash P (Str.ofString "__module__"), (.str (Str.ofString "__module__") 1377), (.str (Str.ofString "rlp.sedes.lists") 1354)⟩, ⟨PyData.keyHash P (Str.ofString "__qualname__"), (.str (Str.ofString "__qualname__") 1379), (.str (Str.ofString "List") 1378)⟩, ⟨PyData.keyHash P (Str.ofString "__firstlineno__"), (.str (Str.ofString "__firstlineno__") 1381), (.int 138 1380)⟩, ⟨PyData.keyHash P (Str.ofString "__init__"), (.str (Str.ofString "__init__") 1391), (.ref 1608)⟩, ⟨PyData.keyHash P (Str.ofString "__len__"), (.str (Str.ofString "__len__") 1398), (.ref 1615)⟩, ⟨PyData.keyHash P (Str.ofString "serialize"), (.str (Str.ofString "serialize") 1411), (.ref 1622)⟩, ⟨PyData.keyHash P (Str.ofString "deserialize"), (.str (Str.ofString "deserialize") 1424), (.ref 1629)⟩, ⟨PyData.keyHash P (Str.ofString "__static_attributes__"), (.str (Str.ofString "__static_attributes__") 1427), (.ref 1630)⟩] 8, slots := #[] }
def o1597 (P : Params) : Obj := { cls := (.type "tuple"), dict := none, data := .seq #[] 0, slots := #[] }
def o1598 (P : Params) : Obj := { cls := .none, dict := none, data := .fields #[(.int 140 0), (.int 4 0), (.ref 1607), (.int 152 0), (.int 4 0), (.ref 1614), (.int 155 0), (.int 4 0), (.ref 1621), (.int 168 0), (.int 4 0), (.ref 1628)], slots := #[] }
def o1599 (P : Params) : Obj := { cls := (.type "code"), dict := none, data := .fields #[(.str (Str.ofString "List") 1372), (.str (Str.ofString "List") 1373), (.str (Str.ofString "/claim/cut.py") 1374), (.int 138 0), (.int 0 0), (.int 0 0), (.int 0 0), (.int 0 0), (.ref 1597), (.bool false), (.int 181 0), (.ref 1598), .none, .none, .none, .none, (.int 1375 0), (.int 138 0), (.str (Str.ofString "/claim/cut.py") 1376)], slots := #[] }
def o1600 (P : Params) : Obj := { cls := (.type "frame"), dict := none, data := .plain, slots := #[(some (.ref 1599)), (some (.ref 3)), (some (.ref 1596)), none, (some (.str (Str.ofString "rlp.sedes.lists") 1354)), none, (some (.ref 0))] }
def o1601 (P : Params) : Obj := { cls := (.type "tuple"), dict := none, data := .seq #[.none, (.bool true)] 0, slots := #[] }
def o1602 (P : Params) : Obj := { cls := (.type "tuple"), dict := none, data := .seq #[] 0, slots := #[] }
def o1603 (P : Params) : Obj := { cls := .none, dict := none, data := .fields #[], slots := #[] }
def o1604 (P : Params) : Obj := { cls := (.type "tuple"), dict := none, data := .seq #[(.str (Str.ofString "self") 1385), (.str (Str.ofString "elements") 1386), (.str (Str.ofString "strict") 1387), (.str (Str.ofString "e") 1388)] 0, slots := #[] }
def o1605 (P : Params) : Obj := { cls := (.type "tuple"), dict := none, data := .seq #[] 0, slots := #[] }
def o1606 (P : Params) : Obj := { cls := .none, dict := none, data := .func { name := (Str.ofString "__init__"), qualname := (Str.ofString "List.__init__"), params := fnParams (nthS (clsBody (nthS pB 24)) 0), body := .stmts (fnBody (nthS (clsBody (nthS pB 24)) 0)), scope := fnScope (nthS (clsBody (nthS pB 24)) 0), globals := 0, closure := [], defaults := .none, kwdefaults := .none, doc := .none, pyModule := .none, annotations := none, code := .none, closureTuple := .none, builtins := 0 }, slots := #[] }
def o1607 (P : Params) : Obj := { cls := (.type "code"), dict := none, data := .fields #[(.str (Str.ofString "__init__") 1382), (.str (Str.ofString "List.__init__") 1383), (.str (Str.ofString "/claim/cut.py") 1384), (.int 140 0), (.int 3 0), (.int 0 0), (.int 0 0), (.int 3 0), (.ref 1602), (.bool true), (.int 181 0), (.ref 1603), .none, (.ref 1604), (.ref 1605), (.ref 1606), (.int 1389 0), (.int 140 0), (.str (Str.ofString "/claim/cut.py") 1390)], slots := #[] }
def o1608 (P : Params) : Obj := { cls := (.type "function"), dict := none, data := .func { name := (Str.ofString "__init__"), qualname := (Str.ofString "List.__init__"), params := fnParams (nthS (clsBody (nthS pB 24)) 0), body := .stmts (fnBody (nthS (clsBody (nthS pB 24)) 0)), scope := fnScope (nthS (clsBody (nthS pB 24)) 0), globals := 3, closure := [], defaults := (.ref 1601), kwdefaults := .none, doc := .none, pyModule := (.str (Str.ofString "rlp.sedes.lists") 1354), annotations := none, code := (.ref 1607), closureTuple := .none, builtins := 0 }, slots := #[] }
def o1609 (P : Params) : Obj := { cls := (.type "tuple"), dict := none, data := .seq #[] 0, slots := #[] }
def o1610 (P : Params) : Obj := { cls := .none, dict := none, data := .fields #[], slots := #[] }
def o1611 (P : Params) : Obj := { cls := (.type "tuple"), dict := none, data := .seq #[(.str (Str.ofString "self") 1395)] 0, slots := #[] }
def o1612 (P : Params) : Obj := { cls := (.type "tuple"), dict := none, data := .seq #[] 0, slots := #[] }
def o1613 (P : Params) : Obj := { cls := .none, dict := none, data := .func { name := (Str.ofString "__len__"), qualname := (Str.ofString "List.__len__"), params := fnParams (nthS (clsBody (nthS pB 24)) 1), body := .stmts (fnBody (nthS (clsBody (nthS pB 24)) 1)), scope := fnScope (nthS (clsBody (nthS pB 24)) 1), globals := 0, closure := [], defaults := .none, kwdefaults := .none, doc := .none, pyModule := .none, annotations := none, code := .none, closureTuple := .none, builtins := 0 }, slots := #[] }
def o1614 (P : Params) : Obj := { cls := (.type "code"), dict := none, data := .fields #[(.str (Str.ofString "__len__") 1392), (.str (Str.ofString "List.__len__") 1393), (.str (Str.ofString "/claim/cut.py") 1394), (.int 152 0), (.int 1 0), (.int 0 0), (.int 0 0), (.int 3 0), (.ref 1609), (.bool true), (.int 181 0), (.ref 1610), .none, (.ref 1611), (.ref 1612), (.ref 1613), (.int 1396 0), (.int 152 0), (.str (Str.ofString "/claim/cut.py") 1397)], slots := #[] }
def o1615 (P : Params) : Obj := { cls := (.type "function"), dict := none, data := .func { name := (Str.ofString "__len__"), qualname := (Str.ofString "List.__len__"), params := fnParams (nthS (clsBody (nthS pB 24)) 1), body := .stmts (fnBody (nthS (clsBody (nthS pB 24)) 1)), scope := fnScope (nthS (clsBody (nthS pB 24)) 1), globals := 3, closure := [], defaults := .none, kwdefaults := .none, doc := .none, pyModule := (.str (Str.ofString "rlp.sedes.lists") 1354), annotations := none, code := (.ref 1614), closureTuple := .none, builtins := 0 }, slots := #[] }
def o1616 (P : Params) : Obj := { cls := (.type "tuple"), dict := none, data := .seq #[] 0, slots := #[] }
def o1617 (P : Params) : Obj := { cls := .none, dict := none, data := .fields #[], slots := #[] }
def o1618 (P : Params) : Obj := { cls := (.type "tuple"), dict := none, data := .seq #[(.str (Str.ofString "self") 1402), (.str (Str.ofString "obj") 1403), (.str (Str.ofString "found") 1404), (.str (Str.ofString "index") 1405), (.str (Str.ofString "element") 1406), (.str (Str.ofString "sedes") 1407), (.str (Str.ofString "e") 1408)] 0, slots := #[] }
def o1619 (P : Params) : Obj := { cls := (.type "tuple"), dict := none, data := .seq #[] 0, slots := #[] }
def o1620 (P : Params) : Obj := { cls := .none, dict := none, data := .func { name := (Str.ofString "serialize"), qualname := (Str.ofString "List.serialize"), params := fnParams (nthS (clsBody (nthS pB 24)) 2), body := .stmts (fnBody (nthS (clsBody (nthS pB 24)) 2)), scope := fnScope (nthS (clsBody (nthS pB 24)) 2), globals := 0, closure := [], defaults := .none, kwdefaults := .none, doc := .none, pyModule := .none, annotations := none, code := .none, closureTuple := .none, builtins := 0 }, slots := #[] }
def o1621 (P : Params) : Obj := { cls := (.type "code"), dict := none, data := .fields #[(.str (Str.ofString "serialize") 1399), (.str (Str.ofString "List.serialize") 1400), (.str (Str.ofString "/claim/cut.py") 1401), (.int 155 0), (.int 2 0), (.int 0 0), (.int 0 0), (.int 3 0), (.ref 1616), (.bool true), (.int 181 0), (.ref 1617), .none, (.ref 1618), (.ref 1619), (.ref 1620), (.int 1409 0), (.int 155 0), (.str (Str.ofString "/claim/cut.py") 1410)], slots := #[] }
def o1622 (P : Params) : Obj := { cls := (.type "function"), dict := none, data := .func { name := (Str.ofString "serialize"), qualname := (Str.ofString "List.serialize"), params := fnParams (nthS (clsBody (nthS pB 24)) 2), body := .stmts (fnBody (nthS (clsBody (nthS pB 24)) 2)), scope := fnScope (nthS (clsBody (nthS pB 24)) 2), globals := 3, closure := [], defaults := .none, kwdefaults := .none, doc := .none, pyModule := (.str (Str.ofString "rlp.sedes.lists") 1354), annotations := none, code := (.ref 1621), closureTuple := .none, builtins := 0 }, slots := #[] }
def o1623 (P : Params) : Obj := { cls := (.type "tuple"), dict := none, data := .seq #[] 0, slots := #[] }
def o1624 (P : Params) : Obj := { cls := .none, dict := none, data := .fields #[], slots := #[] }
def o1625 (P : Params) : Obj := { cls := (.type "tuple"), dict := none, data := .seq #[(.str (Str.ofString "self") 1415), (.str (Str.ofString "serial") 1416), (.str (Str.ofString "found") 1417), (.str (Str.ofString "idx") 1418), (.str (Str.ofString "sedes") 1419), (.str (Str.ofString "element") 1420), (.str (Str.ofString "e") 1421)] 0, slots := #[] }
def o1626 (P : Params) : Obj := { cls := (.type "tuple"), dict := none, data := .seq #[] 0, slots := #[] }
def o1627 (P : Params) : Obj := { cls := .none, dict := none, data := .func { name := (Str.ofString "deserialize"), qualname := (Str.ofString "List.deserialize"), params := fnParams (nthS (clsBody (nthS pB 24)) 3), body := .stmts (fnBody (nthS (clsBody (nthS pB 24)) 3)), scope := fnScope (nthS (clsBody (nthS pB 24)) 3), globals := 0, closure := [], defaults := .none, kwdefaults := .none, doc := .none, pyModule := .none, annotations := none, code := .none, closureTuple := .none, builtins := 0 }, slots := #[] }
def o1628 (P : Params) : Obj := { cls := (.type "code"), dict := none, data := .fields #[(.str (Str.ofString "deserialize") 1412), (.str (Str.ofString "List.deserialize") 1413), (.str (Str.ofString "/claim/cut.py") 1414), (.int 168 0), (.int 2 0), (.int 0 0), (.int 0 0), (.int 3 0), (.ref 1623), (.bool true), (.int 181 0), (.ref 1624), .none, (.ref 1625), (.ref 1626), (.ref 1627), (.int 1422 0), (.int 168 0), (.str (Str.ofString "/claim/cut.py") 1423)], slots := #[] }
def o1629 (P : Params) : Obj := { cls := (.type "function"), dict := none, data := .func { name := (Str.ofString "deserialize"), qualname := (Str.ofString "List.deserialize"), params := fnParams (nthS (clsBody (nthS pB 24)) 3), body := .stmts (fnBody (nthS (clsBody (nthS pB 24)) 3)), scope := fnScope (nthS (clsBody (nthS pB 24)) 3), globals := 3, closure := [], defaults := .none, kwdefaults := .none, doc := .none, pyModule := (.str (Str.ofString "rlp.sedes.lists") 1354), annotations := none, code := (.ref 1628), closureTuple := .none, builtins := 0 }, slots := #[] }
def o1630 (P : Params) : Obj := { cls := (.type "tuple"), dict := none, data := .seq #[(.str (Str.ofString "parts") 1425), (.str (Str.ofString "strict") 1426)] 0, slots := #[] }
def o1631 (P : Params) : Obj := { cls := (.type "dict"), dict := none, data := .dict #[⟨PyData.keyHash P (Str.ofString "__module__"), (.str (Str.ofString "__module__") 1377), (.str (Str.ofString "rlp.sedes.lists") 1354)⟩, ⟨PyData.keyHash P (Str.ofString "__firstlineno__"), (.str (Str.ofString "__firstlineno__") 1381), (.int 138 1380)⟩, ⟨PyData.keyHash P (Str.ofString "__init__"), (.str (Str.ofString "__init__") 1391), (.ref 1608)⟩, ⟨PyData.keyHash P (Str.ofString "__len__"), (.str (Str.ofString "__len__") 1398), (.ref 1615)⟩, ⟨PyData.keyHash P (Str.ofString "serialize"), (.str (Str.ofString "serialize") 1411), (.ref 1622)⟩, ⟨PyData.keyHash P (Str.ofString "deserialize"), (.str (Str.ofString "deserialize") 1424), (.ref 1629)⟩, ⟨PyData.keyHash P (Str.ofString "__static_attributes__"), (.str (Str.ofString "__static_attributes__") 1427), (.ref 1630)⟩, ⟨PyData.keyHash P (Str.ofString "__dict__"), (.str (Str.ofString "__dict__") 1429), (.ref 1633)⟩, ⟨PyData.keyHash P (Str.ofString "__weakref__"), (.str (Str.ofString "__weakref__") 1431), (.ref 1634)⟩, ⟨PyData.keyHash P (Str.ofString "__doc__"), (.str (Str.ofString "__doc__") 1432), .none⟩] 4, slots := #[] }
def o1632 (P : Params) : Obj := { cls := (.type "type"), dict := none, data := .cls { name := (Str.ofString "List"), bases := [(.type "object")], mro := [(.ref 1632), (.type "object")], ns := 1631, qualname := (Str.ofString "List"), hasDict := true, slotNames := [], subclasses := [], abstract := false, collection := none, hasDel := false }, slots := #[none, none, (some (.str (Str.ofString "List") 1370)), (some (.str (Str.ofString "List") 1378)), (some (.builtin "object.__new__")), (some (.bool true))] }
def o1633 (P : Params) : Obj := { cls := (.type "getset_descriptor"), dict := none, data := .fields #[(.str (Str.ofString "__dict__") 1428), (.ref 1632), (.builtin "function.__dict__"), (.builtin "function.__dict__#set")], slots := #[] }
def o1634 (P : Params) : Obj := { cls := (.type "getset_descriptor"), dict := none, data := .fields #[(.str (Str.ofString "__weakref__") 1430), (.ref 1632), (.builtin "ExceptionGroup.__weakref__"), .none], slots := #[] }
def o1635 (P : Params) : Obj := { cls := (.type "super"), dict := none, data := .fields #[(.ref 1632), (.ref 1632), (.ref 1632)], slots := #[] }
def o1636 (P : Params) : Obj := { cls := (.type "builtin_function_or_method"), dict := none, data := .fields #[(.builtin "object.__init_subclass__"), (.ref 1632)], slots := #[] }
def o1637 (P : Params) : Obj := { cls := (.type "tuple"), dict := none, data := .seq #[] 0, slots := #[] }
def o1638 (P : Params) : Obj := { cls := (.type "builtin_function_or_method"), dict := none, data := .fields #[(.builtin "type.__prepare__"), (.type "type")], slots := #[] }
def o1639 (P : Params) : Obj := { cls := (.type "dict"), dict := none, data := .dict #[⟨PyData.keyHash P (Str.ofString "__module__"), (.str (Str.ofString "__module__") 1442), (.str (Str.ofString "rlp.sedes.lists") 1354)⟩, ⟨PyData.keyHash P (Str.ofString "__qualname__"), (.str (Str.ofString "__qualname__") 1444), (.str (Str.ofString "CountableList") 1443)⟩, ⟨PyData.keyHash P (Str.ofString "__firstlineno__"), (.str (Str.ofString "__firstlineno__") 1446), (.int 180 1445)⟩, ⟨PyData.keyHash P (Str.ofString "__init__"), (.str (Str.ofString "__init__") 1455), (.ref 1651)⟩, ⟨PyData.keyHash P (Str.ofString "serialize"), (.str (Str.ofString "serialize") 1467), (.ref 1658)⟩, ⟨PyData.keyHash P (Str.ofString "deserialize"), (.str (Str.ofString "deserialize") 1479), (.ref 1665)⟩, ⟨PyData.keyHash P (Str.ofString "__static_attributes__"), (.str (Str.ofString "__static_attributes__") 1482), (.ref 1666)⟩] 7, slots := #[] }
def o1640 (P : Params) : Obj := { cls := (.type "tuple"), dict := none, data := .seq #[] 0, slots := #[] }
def o1641 (P : Params) : Obj := { cls := .none, dict := none, data := .fields #[(.int 182 0), (.int 4 0), (.ref 1650), (.int 186 0), (.int 4 0), (.ref 1657), (.int 199 0), (.int 4 0), (.ref 1664)], slots := #[] }
def o1642 (P : Params) : Obj := { cls := (.type "code"), dict := none, data := .fields #[(.str (Str.ofString "CountableList") 1437), (.str (Str.ofString "CountableList") 1438), (.str (Str.ofString "/claim/cut.py") 1439), (.int 180 0), (.int 0 0), (.int 0 0), (.int 0 0), (.int 0 0), (.ref 1640), (.bool false), (.int 181 0), (.ref 1641), .none, .none, .none, .none, (.int 1440 0), (.int 180 0), (.str (Str.ofString "/claim/cut.py") 1441)], slots := #[] }
def o1643 (P : Params) : Obj := { cls := (.type "frame"), dict := none, data := .plain, slots := #[(some (.ref 1642)), (some (.ref 3)), (some (.ref 1639)), none, (some (.str (Str.ofString "rlp.sedes.lists") 1354)), none, (some (.ref 0))] }
def o1644 (P : Params) : Obj := { cls := (.type "tuple"), dict := none, data := .seq #[.none] 0, slots := #[] }
def o1645 (P : Params) : Obj := { cls := (.type "tuple"), dict := none, data := .seq #[] 0, slots := #[] }
def o1646 (P : Params) : Obj := { cls := .none, dict := none, data := .fields #[], slots := #[] }
def o1647 (P : Params) : Obj := { cls := (.type "tuple"), dict := none, data := .seq #[(.str (Str.ofString "self") 1450), (.str (Str.ofString "element_sedes") 1451), (.str (Str.ofString "max_length") 1452)] 0, slots := #[] }
def o1648 (P : Params) : Obj := { cls := (.type "tuple"), dict := none, data := .seq #[] 0, slots := #[] }
def o1649 (P : Params) : Obj := { cls := .none, dict := none, data := .func { name := (Str.ofString "__init__"), qualname := (Str.ofString "CountableList.__init__"), params := fnParams (nthS (clsBody (nthS pB 25)) 0), body := .stmts (fnBody (nthS (clsBody (nthS pB 25)) 0)), scope := fnScope (nthS (clsBody (nthS pB 25)) 0), globals := 0, closure := [], defaults := .none, kwdefaults := .none, doc := .none, pyModule := .none, annotations := none, code := .none, closureTuple := .none, builtins := 0 }, slots := #[] }
def o1650 (P : Params) : Obj := { cls := (.type "code"), dict := none, data := .fields #[(.str (Str.ofString "__init__") 1447), (.str (Str.ofString "CountableList.__init__") 1448), (.str (Str.ofString "/claim/cut.py") 1449), (.int 182 0), (.int 3 0), (.int 0 0), (.int 0 0), (.int 3 0), (.ref 1645), (.bool true), (.int 181 0), (.ref 1646), .none, (.ref 1647), (.ref 1648), (.ref 1649), (.int 1453 0), (.int 182 0), (.str (Str.ofString "/claim/cut.py") 1454)], slots := #[] }
def o1651 (P : Params) : Obj := { cls := (.type "function"), dict := none, data := .func { name := (Str.ofString "__init__"), qualname := (Str.ofString "CountableList.__init__"), params := fnParams (nthS (clsBody (nthS pB 25)) 0), body := .stmts (fnBody (nthS (clsBody (nthS pB 25)) 0)), scope := fnScope (nthS (clsBody (nthS pB 25)) 0), globals := 3, closure := [], defaults := (.ref 1644), kwdefaults := .none, doc := .none, pyModule := (.str (Str.ofString "rlp.sedes.lists") 1354), annotations := none, code := (.ref 1650), closureTuple := .none, builtins := 0 }, slots := #[] }
def o1652 (P : Params) : Obj := { cls := (.type "tuple"), dict := none, data := .seq #[] 0, slots := #[] }
def o1653 (P : Params) : Obj := { cls := .none, dict := none, data := .fields #[], slots := #[] }
def o1654 (P : Params) : Obj := { cls := (.type "tuple"), dict := none, data := .seq #[(.str (Str.ofString "self") 1459), (.str (Str.ofString "obj") 1460), (.str (Str.ofString "found") 1461), (.str (Str.ofString "index") 1462), (.str (Str.ofString "element") 1463), (.str (Str.ofString "e") 1464)] 0, slots := #[] }
def o1655 (P : Params) : Obj := { cls := (.type "tuple"), dict := none, data := .seq #[] 0, slots := #[] }
def o1656 (P : Params) : Obj := { cls := .none, dict := none, data := .func { name := (Str.ofString "serialize"), qualname := (Str.ofString "CountableList.serialize"), params := fnParams (nthS (clsBody (nthS pB 25)) 1), body := .stmts (fnBody (nthS (clsBody (nthS pB 25)) 1)), scope := fnScope (nthS (clsBody (nthS pB 25)) 1), globals := 0, closure := [], defaults := .none, kwdefaults := .none, doc := .none, pyModule := .none, annotations := none, code := .none, closureTuple := .none, builtins := 0 }, slots := #[] }
def o1657 (P : Params) : Obj := { cls := (.type "code"), dict := none, data := .fields #[(.str (Str.ofString "serialize") 1456), (.str (Str.ofString "CountableList.serialize") 1457), (.str (Str.ofString "/claim/cut.py") 1458), (.int 186 0), (.int 2 0), (.int 0 0), (.int 0 0), (.int 3 0), (.ref 1652), (.bool true), (.int 181 0), (.ref 1653), .none, (.ref 1654), (.ref 1655), (.ref 1656), (.int 1465 0), (.int 186 0), (.str (Str.ofString "/claim/cut.py") 1466)], slots := #[] }
def o1658 (P : Params) : Obj := { cls := (.type "function"), dict := none, data := .func { name := (Str.ofString "serialize"), qualname := (Str.ofString "CountableList.serialize"), params := fnParams (nthS (clsBody (nthS pB 25)) 1), body := .stmts (fnBody (nthS (clsBody (nthS pB 25)) 1)), scope := fnScope (nthS (clsBody (nthS pB 25)) 1), globals := 3, closure := [], defaults := .none, kwdefaults := .none, doc := .none, pyModule := (.str (Str.ofString "rlp.sedes.lists") 1354), annotations := none, code := (.ref 1657), closureTuple := .none, builtins := 0 }, slots := #[] }
def o1659 (P : Params) : Obj := { cls := (.type "tuple"), dict := none, data := .seq #[] 0, slots := #[] }
def o1660 (P : Params) : Obj := { cls := .none, dict := none, data := .fields #[], slots := #[] }
def o1661 (P : Params) : Obj := { cls := (.type "tuple"), dict := none, data := .seq #[(.str (Str.ofString "self") 1471), (.str (Str.ofString "serial") 1472), (.str (Str.ofString "found") 1473), (.str (Str.ofString "index") 1474), (.str (Str.ofString "element") 1475), (.str (Str.ofString "e") 1476)] 0, slots := #[] }
def o1662 (P : Params) : Obj := { cls := (.type "tuple"), dict := none, data := .seq #[] 0, slots := #[] }
def o1663 (P : Params) : Obj := { cls := .none, dict := none, data := .func { name := (Str.ofString "deserialize"), qualname := (Str.ofString "CountableList.deserialize"), params := fnParams (nthS (clsBody (nthS pB 25)) 2), body := .stmts (fnBody (nthS (clsBody (nthS pB 25)) 2)), scope := fnScope (nthS (clsBody (nthS pB 25)) 2), globals := 0, closure := [], defaults := .none, kwdefaults := .none, doc := .none, pyModule := .none, annotations := none, code := .none, closureTuple := .none, builtins := 0 }, slots := #[] }
def o1664 (P : Params) : Obj := { cls := (.type "code"), dict := none, data := .fields #[(.str (Str.ofString "deserialize") 1468), (.str (Str.ofString "CountableList.deserialize") 1469), (.str (Str.ofString "/claim/cut.py") 1470), (.int 199 0), (.int 2 0), (.int 0 0), (.int 0 0), (.int 3 0), (.ref 1659), (.bool true), (.int 181 0), (.ref 1660), .none, (.ref 1661), (.ref 1662), (.ref 1663), (.int 1477 0), (.int 199 0), (.str (Str.ofString "/claim/cut.py") 1478)], slots := #[] }
def o1665 (P : Params) : Obj := { cls := (.type "function"), dict := none, data := .func { name := (Str.ofString "deserialize"), qualname := (Str.ofString "CountableList.deserialize"), params := fnParams (nthS (clsBody (nthS pB 25)) 2), body := .stmts (fnBody (nthS (clsBody (nthS pB 25)) 2)), scope := fnScope (nthS (clsBody (nthS pB 25)) 2), globals := 3, closure := [], defaults := .none, kwdefaults := .none, doc := .none, pyModule := (.str (Str.ofString "rlp.sedes.lists") 1354), annotations := none, code := (.ref 1664), closureTuple := .none, builtins := 0 }, slots := #[] }
def o1666 (P : Params) : Obj := { cls := (.type "tuple"), dict := none, data := .seq #[(.str (Str.ofString "element_sedes") 1480), (.str (Str.ofString "max_length") 1481)] 0, slots := #[] }
def o1667 (P : Params) : Obj := { cls := (.type "dict"), dict := none, data := .dict #[⟨PyData.keyHash P (Str.ofString "__module__"), (.str (Str.ofString "__module__") 1442), (.str (Str.ofString "rlp.sedes.lists") 1354)⟩, ⟨PyData.keyHash P (Str.ofString "__firstlineno__"), (.str (Str.ofString "__firstlineno__") 1446), (.int 180 1445)⟩, ⟨PyData.keyHash P (Str.ofString "__init__"), (.str (Str.ofString "__init__") 1455), (.ref 1651)⟩, ⟨PyData.keyHash P (Str.ofString "serialize"), (.str (Str.ofString "serialize") 1467), (.ref 1658)⟩, ⟨PyData.keyHash P (Str.ofString "deserialize"), (.str (Str.ofString "deserialize") 1479), (.ref 1665)⟩, ⟨PyData.keyHash P (Str.ofString "__static_attributes__"), (.str (Str.ofString "__static_attributes__") 1482), (.ref 1666)⟩, ⟨PyData.keyHash P (Str.ofString "__dict__"), (.str (Str.ofString "__dict__") 1484), (.ref 1669)⟩, ⟨PyData.keyHash P (Str.ofString "__weakref__"), (.str (Str.ofString "__weakref__") 1486), (.ref 1670)⟩, ⟨PyData.keyHash P (Str.ofString "__doc__"), (.str (Str.ofString "__doc__") 1487), .none⟩] 4, slots := #[] }
def o1668 (P : Params) : Obj := { cls := (.type "type"), dict := none, data := .cls { name := (Str.ofString "CountableList"), bases := [(.type "object")], mro := [(.ref 1668), (.type "object")], ns := 1667, qualname := (Str.ofString "CountableList"), hasDict := true, slotNames := [], subclasses := [], abstract := false, collection := none, hasDel := false }, slots := #[none, none, (some (.str (Str.ofString "CountableList") 1435)), (some (.str (Str.ofString "CountableList") 1443)), (some (.builtin "object.__new__")), (some (.bool true))] }
def o1669 (P : Params) : Obj := { cls := (.type "getset_descriptor"), dict := none, data := .fields #[(.str (Str.ofString "__dict__") 1483), (.ref 1668), (.builtin "function.__dict__"), (.builtin "function.__dict__#set")], slots := #[] }
def o1670 (P : Params) : Obj := { cls := (.type "getset_descriptor"), dict := none, data := .fields #[(.str (Str.ofString "__weakref__") 1485), (.ref 1668), (.builtin "ExceptionGroup.__weakref__"), .none], slots := #[] }
def o1671 (P : Params) : Obj := { cls := (.type "super"), dict := none, data := .fields #[(.ref 1668), (.ref 1668), (.ref 1668)], slots := #[] }
def o1672 (P : Params) : Obj := { cls := (.type "builtin_function_or_method"), dict := none, data := .fields #[(.builtin "object.__init_subclass__"), (.ref 1668)], slots := #[] }
def o1673 (P : Params) : Obj := { cls := (.type "tuple"), dict := none, data := .seq #[] 0, slots := #[] }
def o1674 (P : Params) : Obj := { cls := .none, dict := none, data := .fields #[], slots := #[] }
def o1675 (P : Params) : Obj := { cls := (.type "tuple"), dict := none, data := .seq #[(.str (Str.ofString "item") 1495), (.str (Str.ofString "payload") 1496), (.str (Str.ofString "prefix_offset") 1497), (.str (Str.ofString "msg") 1498), (.str (Str.ofString "prefix") 1499)] 0, slots := #[] }
def o1676 (P : Params) : Obj := { cls := (.type "tuple"), dict := none, data := .seq #[] 0, slots := #[] }
def o1677 (P : Params) : Obj := { cls := .none, dict := none, data := .func { name := (Str.ofString "encode_raw"), qualname := (Str.ofString "encode_raw"), params := fnParams (nthS pB 27), body := .stmts (fnBody (nthS pB 27)), scope := fnScope (nthS pB 27), globals := 0, closure := [], defaults := .none, kwdefaults := .none, doc := .none, pyModule := .none, annotations := none, code := .none, closureTuple := .none, builtins := 0 }, slots := #[] }
def o1678 (P : Params) : Obj := { cls := (.type "code"), dict := none, data := .fields #[(.str (Str.ofString "encode_raw") 1492), (.str (Str.ofString "encode_raw") 1493), (.str (Str.ofString "/claim/cut.py") 1494), (.int 212 0), (.int 1 0), (.int 0 0), (.int 0 0), (.int 3 0), (.ref 1673), (.bool true), (.int 181 0), (.ref 1674), .none, (.ref 1675), (.ref 1676), (.ref 1677), (.int 1500 0), (.int 212 0), (.str (Str.ofString "/claim/cut.py") 1501)], slots := #[] }
def o1679 (P : Params) : Obj := { cls := (.type "function"), dict := none, data := .func { name := (Str.ofString "encode_raw"), qualname := (Str.ofString "encode_raw"), params := fnParams (nthS pB 27), body := .stmts (fnBody (nthS pB 27)), scope := fnScope (nthS pB 27), globals := 3, closure := [], defaults := .none, kwdefaults := .none, doc := .none, pyModule := (.str (Str.ofString "rlp.codec") 1490), annotations := none, code := (.ref 1678), closureTuple := .none, builtins := 0 }, slots := #[] }
def o1680 (P : Params) : Obj := { cls := (.type "tuple"), dict := none, data := .seq #[.none, (.bool true), (.bool true)] 0, slots := #[] }
def o1681 (P : Params) : Obj := { cls := (.type "tuple"), dict := none, data := .seq #[] 0, slots := #[] }
def o1682 (P : Params) : Obj := { cls := .none, dict := none, data := .fields #[], slots := #[] }
def o1683 (P : Params) : Obj := { cls := (.type "tuple"), dict := none, data := .seq #[(.str (Str.ofString "obj") 1506), (.str (Str.ofString "sedes") 1507), (.str (Str.ofString "infer_serializer") 1508), (.str (Str.ofString "cache") 1509), (.str (Str.ofString "item") 1510), (.str (Str.ofString "result") 1511)] 0, slots := #[] }
def o1684 (P : Params) : Obj := { cls := (.type "tuple"), dict := none, data := .seq #[] 0, slots := #[] }
def o1685 (P : Params) : Obj := { cls := .none, dict := none, data := .func { name := (Str.ofString "encode"), qualname := (Str.ofString "encode"), params := fnParams (nthS pB 28), body := .stmts (fnBody (nthS pB 28)), scope := fnScope (nthS pB 28), globals := 0, closure := [], defaults := .none, kwdefaults := .none, doc := .none, pyModule := .none, annotations := none, code := .none, closureTuple := .none, builtins := 0 }, slots := #[] }
def o1686 (P : Params) : Obj := { cls := (.type "code"), dict := none, data := .fields #[(.str (Str.ofString "encode") 1503), (.str (Str.ofString "encode") 1504), (.str (Str.ofString "/claim/cut.py") 1505), (.int 229 0), (.int 4 0), (.int 0 0), (.int 0 0), (.int 3 0), (.ref 1681), (.bool true), (.int 181 0), (.ref 1682), .none, (.ref 1683), (.ref 1684), (.ref 1685), (.int 1512 0), (.int 229 0), (.str (Str.ofString "/claim/cut.py") 1513)], slots := #[] }
def o1687 (P : Params) : Obj := { cls := (.type "function"), dict := none, data := .func { name := (Str.ofString "encode"), qualname := (Str.ofString "encode"), params := fnParams (nthS pB 28), body := .stmts (fnBody (nthS pB 28)), scope := fnScope (nthS pB 28), globals := 3, closure := [], defaults := (.ref 1680), kwdefaults := .none, doc := .none, pyModule := (.str (Str.ofString "rlp.codec") 1490), annotations := none, code := (.ref 1686), closureTuple := .none, builtins := 0 }, slots := #[] }
def o1688 (P : Params) : Obj := { cls := (.type "tuple"), dict := none, data := .seq #[] 0, slots := #[] }
def o1689 (P : Params) : Obj := { cls := .none, dict := none, data := .fields #[], slots := #[] }
def o1690 (P : Params) : Obj := { cls := (.type "tuple"), dict := none, data := .seq #[(.str (Str.ofString "length") 1522), (.str (Str.ofString "offset") 1523), (.str (Str.ofString "length_string") 1524)] 0, slots := #[] }
def o1691 (P : Params) : Obj := { cls := (.type "tuple"), dict := none, data := .seq #[] 0, slots := #[] }
def o1692 (P : Params) : Obj := { cls := .none, dict := none, data := .func { name := (Str.ofString "length_prefix"), qualname := (Str.ofString "length_prefix"), params := fnParams (nthS pB 30), body := .stmts (fnBody (nthS pB 30)), scope := fnScope (nthS pB 30), globals := 0, closure := [], defaults := .none, kwdefaults := .none, doc := .none, pyModule := .none, annotations := none, code := .none, closureTuple := .none, builtins := 0 }, slots := #[] }
def o1693 (P : Params) : Obj := { cls := (.type "code"), dict := none, data := .fields #[(.str (Str.ofString "length_prefix") 1519), (.str (Str.ofString "length_prefix") 1520), (.str (Str.ofString "/claim/cut.py") 1521), (.int 239 0), (.int 2 0), (.int 0 0), (.int 0 0), (.int 3 0), (.ref 1688), (.bool true), (.int 181 0), (.ref 1689), .none, (.ref 1690), (.ref 1691), (.ref 1692), (.int 1525 0), (.int 239 0), (.str (Str.ofString "/claim/cut.py") 1526)], slots := #[] }
def o1694 (P : Params) : Obj := { cls := (.type "function"), dict := none, data := .func { name := (Str.ofString "length_prefix"), qualname := (Str.ofString "length_prefix"), params := fnParams (nthS pB 30), body := .stmts (fnBody (nthS pB 30)), scope := fnScope (nthS pB 30), globals := 3, closure := [], defaults := .none, kwdefaults := .none, doc := .none, pyModule := (.str (Str.ofString "rlp.codec") 1490), annotations := none, code := (.ref 1693), closureTuple := .none, builtins := 0 }, slots := #[] }
def o1695 (P : Params) : Obj := { cls := (.type "tuple"), dict := none, data := .seq #[] 0, slots := #[] }
def o1696 (P : Params) : Obj := { cls := .none, dict := none, data := .fields #[], slots := #[] }
def o1697 (P : Params) : Obj := { cls := .none, dict := none, data := .func { name := (Str.ofString "infer_sedes"), qualname := (Str.ofString "infer_sedes"), params := fnParams (nthS pB 31), body := .stmts (fnBody (nthS pB 31)), scope := fnScope (nthS pB 31), globals := 0, closure := [], defaults := .none, kwdefaults := .none, doc := .none, pyModule := .none, annotations := none, code := .none, closureTuple := .none, builtins := 0 }, slots := #[] }
def o1698 (P : Params) : Obj := { cls := (.type "code"), dict := none, data := .fields #[(.str (Str.ofString "infer_sedes") 1528), (.str (Str.ofString "infer_sedes") 1529), (.str (Str.ofString "/claim/cut.py") 1530), (.int 247 0), (.int 1 0), (.int 0 0), (.int 0 0), (.int 3 0), (.ref 1695), (.bool true), (.int 181 0), (.ref 1696), .none, .none, .none, (.ref 1697), (.int 1531 0), (.int 247 0), (.str (Str.ofString "/claim/cut.py") 1532)], slots := #[] }
def o1699 (P : Params) : Obj := { cls := (.type "function"), dict := none, data := .func { name := (Str.ofString "infer_sedes"), qualname := (Str.ofString "infer_sedes"), params := fnParams (nthS pB 31), body := .stmts (fnBody (nthS pB 31)), scope := fnScope (nthS pB 31), globals := 3, closure := [], defaults := .none, kwdefaults := .none, doc := .none, pyModule := (.str (Str.ofString "rlp.codec") 1490), annotations := none, code := (.ref 1698), closureTuple := .none, builtins := 0 }, slots := #[] }
def o1700 (P : Params) : Obj := { cls := (.type "tuple"), dict := none, data := .seq #[] 0, slots := #[] }
def o1701 (P : Params) : Obj := { cls := .none, dict := none, data := .fields #[], slots := #[] }
def o1702 (P : Params) : Obj := { cls := (.type "tuple"), dict := none, data := .seq #[(.str (Str.ofString "script") 1539), (.str (Str.ofString "k") 1540), (.str (Str.ofString "other") 1541)] 0, slots := #[] }
def o1703 (P : Params) : Obj := { cls := (.type "tuple"), dict := none, data := .seq #[] 0, slots := #[] }
def o1704 (P : Params) : Obj := { cls := .none, dict := none, data := .func { name := (Str.ofString "_law_at"), qualname := (Str.ofString "_law_at"), params := fnParams (nthS pB 33), body := .stmts (fnBody (nthS pB 33)), scope := fnScope (nthS pB 33), globals := 0, closure := [], defaults := .none, kwdefaults := .none, doc := .none, pyModule := .none, annotations := none, code := .none, closureTuple := .none, builtins := 0 }, slots := #[] }
def o1705 (P : Params) : Obj := { cls := (.type "code"), dict := none, data := .fields #[(.str (Str.ofString "_law_at") 1536), (.str (Str.ofString "_law_at") 1537), (.str (Str.ofString "/claim/cut.py") 1538), (.int 259 0), (.int 3 0), (.int 0 0), (.int 0 0), (.int 3 0), (.ref 1700), (.bool true), (.int 181 0), (.ref 1701), .none, (.ref 1702), (.ref 1703), (.ref 1704), (.int 1542 0), (.int 259 0), (.str (Str.ofString "/claim/cut.py") 1543)], slots := #[] }
def o1706 (P : Params) : Obj := { cls := (.type "function"), dict := none, data := .func { name := (Str.ofString "_law_at"), qualname := (Str.ofString "_law_at"), params := fnParams (nthS pB 33), body := .stmts (fnBody (nthS pB 33)), scope := fnScope (nthS pB 33), globals := 3, closure := [], defaults := .none, kwdefaults := .none, doc := .none, pyModule := (.str (Str.ofString "law_bi0019_01") 1534), annotations := none, code := (.ref 1705), closureTuple := .none, builtins := 0 }, slots := #[] }
def o1707 (P : Params) : Obj := { cls := (.type "tuple"), dict := none, data := .seq #[] 0, slots := #[] }
def o1708 (P : Params) : Obj := { cls := .none, dict := none, data := .fields #[], slots := #[] }
def o1709 (P : Params) : Obj := { cls := (.type "tuple"), dict := none, data := .seq #[(.str (Str.ofString "numbers") 1548), (.str (Str.ofString "deep") 1549), (.str (Str.ofString "kind") 1550), (.str (Str.ofString "rest") 1551), (.str (Str.ofString "size") 1552), (.str (Str.ofString "first") 1553), (.str (Str.ofString "row") 1554), (.str (Str.ofString "k") 1555), (.str (Str.ofString "one") 1556)] 0, slots := #[] }
def o1710 (P : Params) : Obj := { cls := (.type "tuple"), dict := none, data := .seq #[] 0, slots := #[] }
def o1711 (P : Params) : Obj := { cls := .none, dict := none, data := .func { name := (Str.ofString "_law_value"), qualname := (Str.ofString "_law_value"), params := fnParams (nthS pB 34), body := .stmts (fnBody (nthS pB 34)), scope := fnScope (nthS pB 34), globals := 0, closure := [], defaults := .none, kwdefaults := .none, doc := .none, pyModule := .none, annotations := none, code := .none, closureTuple := .none, builtins := 0 }, slots := #[] }
def o1712 (P : Params) : Obj := { cls := (.type "code"), dict := none, data := .fields #[(.str (Str.ofString "_law_value") 1545), (.str (Str.ofString "_law_value") 1546), (.str (Str.ofString "/claim/cut.py") 1547), (.int 261 0), (.int 2 0), (.int 0 0), (.int 0 0), (.int 3 0), (.ref 1707), (.bool true), (.int 181 0), (.ref 1708), .none, (.ref 1709), (.ref 1710), (.ref 1711), (.int 1557 0), (.int 261 0), (.str (Str.ofString "/claim/cut.py") 1558)], slots := #[] }
def o1713 (P : Params) : Obj := { cls := (.type "function"), dict := none, data := .func { name := (Str.ofString "_law_value"), qualname := (Str.ofString "_law_value"), params := fnParams (nthS pB 34), body := .stmts (fnBody (nthS pB 34)), scope := fnScope (nthS pB 34), globals := 3, closure := [], defaults := .none, kwdefaults := .none, doc := .none, pyModule := (.str (Str.ofString "law_bi0019_01") 1534), annotations := none, code := (.ref 1712), closureTuple := .none, builtins := 0 }, slots := #[] }
def o1714 (P : Params) : Obj := { cls := (.type "tuple"), dict := none, data := .seq #[] 0, slots := #[] }
def o1715 (P : Params) : Obj := { cls := .none, dict := none, data := .fields #[], slots := #[] }
def o1716 (P : Params) : Obj := { cls := (.type "tuple"), dict := none, data := .seq #[(.str (Str.ofString "inside") 1563)] 0, slots := #[] }
def o1717 (P : Params) : Obj := { cls := (.type "tuple"), dict := none, data := .seq #[] 0, slots := #[] }
def o1718 (P : Params) : Obj := { cls := .none, dict := none, data := .func { name := (Str.ofString "_law_long"), qualname := (Str.ofString "_law_long"), params := fnParams (nthS pB 35), body := .stmts (fnBody (nthS pB 35)), scope := fnScope (nthS pB 35), globals := 0, closure := [], defaults := .none, kwdefaults := .none, doc := .none, pyModule := .none, annotations := none, code := .none, closureTuple := .none, builtins := 0 }, slots := #[] }
def o1719 (P : Params) : Obj := { cls := (.type "code"), dict := none, data := .fields #[(.str (Str.ofString "_law_long") 1560), (.str (Str.ofString "_law_long") 1561), (.str (Str.ofString "/claim/cut.py") 1562), (.int 274 0), (.int 1 0), (.int 0 0), (.int 0 0), (.int 3 0), (.ref 1714), (.bool true), (.int 181 0), (.ref 1715), .none, (.ref 1716), (.ref 1717), (.ref 1718), (.int 1564 0), (.int 274 0), (.str (Str.ofString "/claim/cut.py") 1565)], slots := #[] }
def o1720 (P : Params) : Obj := { cls := (.type "function"), dict := none, data := .func { name := (Str.ofString "_law_long"), qualname := (Str.ofString "_law_long"), params := fnParams (nthS pB 35), body := .stmts (fnBody (nthS pB 35)), scope := fnScope (nthS pB 35), globals := 3, closure := [], defaults := .none, kwdefaults := .none, doc := .none, pyModule := (.str (Str.ofString "law_bi0019_01") 1534), annotations := none, code := (.ref 1719), closureTuple := .none, builtins := 0 }, slots := #[] }
def o1721 (P : Params) : Obj := { cls := (.type "tuple"), dict := none, data := .seq #[] 0, slots := #[] }
def o1722 (P : Params) : Obj := { cls := .none, dict := none, data := .fields #[], slots := #[] }
def o1723 (P : Params) : Obj := { cls := .none, dict := none, data := .func { name := (Str.ofString "_law_length"), qualname := (Str.ofString "_law_length"), params := fnParams (nthS pB 36), body := .stmts (fnBody (nthS pB 36)), scope := fnScope (nthS pB 36), globals := 0, closure := [], defaults := .none, kwdefaults := .none, doc := .none, pyModule := .none, annotations := none, code := .none, closureTuple := .none, builtins := 0 }, slots := #[] }
def o1724 (P : Params) : Obj := { cls := (.type "code"), dict := none, data := .fields #[(.str (Str.ofString "_law_length") 1567), (.str (Str.ofString "_law_length") 1568), (.str (Str.ofString "/claim/cut.py") 1569), (.int 276 0), (.int 1 0), (.int 0 0), (.int 0 0), (.int 3 0), (.ref 1721), (.bool true), (.int 181 0), (.ref 1722), .none, .none, .none, (.ref 1723), (.int 1570 0), (.int 276 0), (.str (Str.ofString "/claim/cut.py") 1571)], slots := #[] }
def o1725 (P : Params) : Obj := { cls := (.type "function"), dict := none, data := .func { name := (Str.ofString "_law_length"), qualname := (Str.ofString "_law_length"), params := fnParams (nthS pB 36), body := .stmts (fnBody (nthS pB 36)), scope := fnScope (nthS pB 36), globals := 3, closure := [], defaults := .none, kwdefaults := .none, doc := .none, pyModule := (.str (Str.ofString "law_bi0019_01") 1534), annotations := none, code := (.ref 1724), closureTuple := .none, builtins := 0 }, slots := #[] }
def o1726 (P : Params) : Obj := { cls := (.type "tuple"), dict := none, data := .seq #[] 0, slots := #[] }
def o1727 (P : Params) : Obj := { cls := .none, dict := none, data := .fields #[], slots := #[] }
def o1728 (P : Params) : Obj := { cls := .none, dict := none, data := .func { name := (Str.ofString "_law_other"), qualname := (Str.ofString "_law_other"), params := fnParams (nthS pB 37), body := .stmts (fnBody (nthS pB 37)), scope := fnScope (nthS pB 37), globals := 0, closure := [], defaults := .none, kwdefaults := .none, doc := .none, pyModule := .none, annotations := none, code := .none, closureTuple := .none, builtins := 0 }, slots := #[] }
def o1729 (P : Params) : Obj := { cls := (.type "code"), dict := none, data := .fields #[(.str (Str.ofString "_law_other") 1573), (.str (Str.ofString "_law_other") 1574), (.str (Str.ofString "/claim/cut.py") 1575), (.int 281 0), (.int 2 0), (.int 0 0), (.int 0 0), (.int 3 0), (.ref 1726), (.bool true), (.int 181 0), (.ref 1727), .none, .none, .none, (.ref 1728), (.int 1576 0), (.int 281 0), (.str (Str.ofString "/claim/cut.py") 1577)], slots := #[] }
def o1730 (P : Params) : Obj := { cls := (.type "function"), dict := none, data := .func { name := (Str.ofString "_law_other"), qualname := (Str.ofString "_law_other"), params := fnParams (nthS pB 37), body := .stmts (fnBody (nthS pB 37)), scope := fnScope (nthS pB 37), globals := 3, closure := [], defaults := .none, kwdefaults := .none, doc := .none, pyModule := (.str (Str.ofString "law_bi0019_01") 1534), annotations := none, code := (.ref 1729), closureTuple := .none, builtins := 0 }, slots := #[] }
def o1731 (P : Params) : Obj := { cls := (.type "tuple"), dict := none, data := .seq #[] 0, slots := #[] }
def o1732 (P : Params) : Obj := { cls := .none, dict := none, data := .fields #[], slots := #[] }
def o1733 (P : Params) : Obj := { cls := (.type "tuple"), dict := none, data := .seq #[(.str (Str.ofString "script") 1582), (.str (Str.ofString "value") 1583), (.str (Str.ofString "made") 1584), (.str (Str.ofString "other") 1585), (.str (Str.ofString "again") 1586), (.str (Str.ofString "times") 1587), (.str (Str.ofString "length") 1588), (.str (Str.ofString "long") 1589)] 0, slots := #[] }
def o1734 (P : Params) : Obj := { cls := (.type "tuple"), dict := none, data := .seq #[] 0, slots := #[] }
def o1735 (P : Params) : Obj := { cls := .none, dict := none, data := .func { name := (Str.ofString "law"), qualname := (Str.ofString "law"), params := fnParams (nthS pB 38), body := .stmts (fnBody (nthS pB 38)), scope := fnScope (nthS pB 38), globals := 0, closure := [], defaults := .none, kwdefaults := .none, doc := .none, pyModule := .none, annotations := none, code := .none, closureTuple := .none, builtins := 0 }, slots := #[] }
def o1736 (P : Params) : Obj := { cls := (.type "code"), dict := none, data := .fields #[(.str (Str.ofString "law") 1579), (.str (Str.ofString "law") 1580), (.str (Str.ofString "/claim/cut.py") 1581), (.int 287 0), (.int 1 0), (.int 0 0), (.int 0 0), (.int 3 0), (.ref 1731), (.bool true), (.int 181 0), (.ref 1732), .none, (.ref 1733), (.ref 1734), (.ref 1735), (.int 1590 0), (.int 287 0), (.str (Str.ofString "/claim/cut.py") 1591)], slots := #[] }
def o1737 (P : Params) : Obj := { cls := (.type "function"), dict := none, data := .func { name := (Str.ofString "law"), qualname := (Str.ofString "law"), params := fnParams (nthS pB 38), body := .stmts (fnBody (nthS pB 38)), scope := fnScope (nthS pB 38), globals := 3, closure := [], defaults := .none, kwdefaults := .none, doc := .none, pyModule := (.str (Str.ofString "law_bi0019_01") 1534), annotations := none, code := (.ref 1736), closureTuple := .none, builtins := 0 }, slots := #[] }

def life0 : Life := {}
def t0 (P : Params) : BT := (.node (boot_o_0 P) (.node (boot_o_1 P) (.node (boot_o_3 P) (.node (boot_o_7 P) .nil .nil) .nil) (.node (boot_o_5 P) (.node (boot_o_9 P) .nil .nil) .nil)) (.node (boot_o_2 P) (.node (boot_o_4 P) (.node (boot_o_8 P) .nil .nil) .nil) (.node (boot_o_6 P) (.node (boot_o_10 P) .nil .nil) .nil)))
def tA (P : Params) : BT := (.node (boot_o_0 P) (.node (boot_o_1 P) (.node (o3sA P) (.node (boot_o_7 P) (.node (o15 P) (.node (o31 P) (.node (o63 P) (.node (o127 P) .nil .nil) .nil) (.node (o95 P) .nil .nil)) (.node (o47 P) (.node (o79 P) (.node (o143 P) .nil .nil) .nil) (.node (o111 P) .nil .nil))) (.node (o23 P) (.node (o39 P) (.node (o71 P) (.node (o135 P) .nil .nil) .nil) (.node (o103 P) .nil .nil)) (.node (o55 P) (.node (o87 P) .nil .nil) (.node (o119 P) .nil .nil)))) (.node (o11 P) (.node (o19 P) (.node (o35 P) (.node (o67 P) (.node (o131 P) .nil .nil) .nil) (.node (o99 P) .nil .nil)) (.node (o51 P) (.node (o83 P) .nil .nil) (.node (o115 P) .nil .nil))) (.node (o27 P) (.node (o43 P) (.node (o75 P) (.node (o139 P) .nil .nil) .nil) (.node (o107 P) .nil .nil)) (.node (o59 P) (.node (o91 P) .nil .nil) (.node (o123 P) .nil .nil))))) (.node (boot_o_5 P) (.node (boot_o_9 P) (.node (o17 P) (.node (o33 P) (.node (o65 P) (.node (o129 P) .nil .nil) .nil) (.node (o97 P) .nil .nil)) (.node (o49 P) (.node (o81 P) (.node (o145 P) .nil .nil) .nil) (.node (o113 P) .nil .nil))) (.node (o25 P) (.node (o41 P) (.node (o73 P) (.node (o137 P) .nil .nil) .nil) (.node (o105 P) .nil .nil)) (.node (o57 P) (.node (o89 P) .nil .nil) (.node (o121 P) .nil .nil)))) (.node (o13 P) (.node (o21 P) (.node (o37 P) (.node (o69 P) (.node (o133 P) .nil .nil) .nil) (.node (o101 P) .nil .nil)) (.node (o53 P) (.node (o85 P) .nil .nil) (.node (o117 P) .nil .nil))) (.node (o29 P) (.node (o45 P) (.node (o77 P) (.node (o141 P) .nil .nil) .nil) (.node (o109 P) .nil .nil)) (.node (o61 P) (.node (o93 P) .nil .nil) (.node (o125 P) .nil .nil)))))) (.node (o2sA P) (.node (boot_o_4 P) (.node (boot_o_8 P) (.node (o16 P) (.node (o32 P) (.node (o64 P) (.node (o128 P) .nil .nil) .nil) (.node (o96 P) .nil .nil)) (.node (o48 P) (.node (o80 P) (.node (o144 P) .nil .nil) .nil) (.node (o112 P) .nil .nil))) (.node (o24 P) (.node (o40 P) (.node (o72 P) (.node (o136 P) .nil .nil) .nil) (.node (o104 P) .nil .nil)) (.node (o56 P) (.node (o88 P) .nil .nil) (.node (o120 P) .nil .nil)))) (.node (o12 P) (.node (o20 P) (.node (o36 P) (.node (o68 P) (.node (o132 P) .nil .nil) .nil) (.node (o100 P) .nil .nil)) (.node (o52 P) (.node (o84 P) .nil .nil) (.node (o116 P) .nil .nil))) (.node (o28 P) (.node (o44 P) (.node (o76 P) (.node (o140 P) .nil .nil) .nil) (.node (o108 P) .nil .nil)) (.node (o60 P) (.node (o92 P) .nil .nil) (.node (o124 P) .nil .nil))))) (.node (boot_o_6 P) (.node (boot_o_10 P) (.node (o18 P) (.node (o34 P) (.node (o66 P) (.node (o130 P) .nil .nil) .nil) (.node (o98 P) .nil .nil)) (.node (o50 P) (.node (o82 P) .nil .nil) (.node (o114 P) .nil .nil))) (.node (o26 P) (.node (o42 P) (.node (o74 P) (.node (o138 P) .nil .nil) .nil) (.node (o106 P) .nil .nil)) (.node (o58 P) (.node (o90 P) .nil .nil) (.node (o122 P) .nil .nil)))) (.node (o14 P) (.node (o22 P) (.node (o38 P) (.node (o70 P) (.node (o134 P) .nil .nil) .nil) (.node (o102 P) .nil .nil)) (.node (o54 P) (.node (o86 P) .nil .nil) (.node (o118 P) .nil .nil))) (.node (o30 P) (.node (o46 P) (.node (o78 P) (.node (o142 P) .nil .nil) .nil) (.node (o110 P) .nil .nil)) (.node (o62 P) (.node (o94 P) .nil .nil) (.node (o126 P) .nil .nil)))))))
def tM (P : Params) : BT := (.node (boot_o_0 P) (.node (boot_o_1 P) (.node (o3sA P) (.node (boot_o_7 P) (.node (o15 P) (.node (o31 P) (.node (o63 P) (.node (o127 P) (.node (gx 21) (.node (gl 73) .nil .nil) (.node (gi) .nil .nil)) (.node (gb 47) (.node (gt) .nil .nil) .nil)) (.node (gl 9) (.node (gt) (.node (gx 85) .nil .nil) .nil) (.node (gi) (.node (gb 111) .nil .nil) .nil))) (.node (o95 P) (.node (gt) (.node (gi) (.node (gb 79) .nil .nil) .nil) (.node (gx 53) (.node (gl 105) .nil .nil) .nil)) (.node (gb 15) (.node (gl 41) (.node (gi) .nil .nil) .nil) (.node (gt) (.node (gx 117) .nil .nil) .nil)))) (.node (o47 P) (.node (o79 P) (.node (o143sM P) (.node (gl 25) (.node (gi) .nil .nil) (.node (gb 127) .nil .nil)) (.node (gt) (.node (gx 101) .nil .nil) .nil)) (.node (gi) (.node (gx 37) (.node (gl 89) .nil .nil) .nil) (.node (gb 63) (.node (gt) .nil .nil) .nil))) (.node (o111 P) (.node (gx 5) (.node (gb 31) (.node (gt) .nil .nil) .nil) (.node (gl 57) (.node (gi) .nil .nil) .nil)) (.node (gt) (.node (gi) (.node (gb 95) .nil .nil) .nil) (.node (gx 69) (.node (gl 121) .nil .nil) .nil))))) (.node (o23 P) (.node (o39 P) (.node (o71 P) (.node (o135 P) (.node (gb 23) (.node (gt) .nil .nil) (.node (gx 125) .nil .nil)) (.node (gl 49) (.node (gi) .nil .nil) .nil)) (.node (gt) (.node (gi) (.node (gb 87) .nil .nil) .nil) (.node (gx 61) (.node (gl 113) .nil .nil) .nil))) (.node (o103 P) (.node (gi) (.node (gx 29) (.node (gl 81) .nil .nil) .nil) (.node (gb 55) (.node (gt) .nil .nil) .nil)) (.node (gl 17) (.node (gt) (.node (gx 93) .nil .nil) .nil) (.node (gi) (.node (gb 119) .nil .nil) .nil)))) (.node (o55 P) (.node (o87 P) (.node (gl 1) (.node (gt) (.node (gx 77) .nil .nil) .nil) (.node (gi) (.node (gb 103) .nil .nil) .nil)) (.node (gx 13) (.node (gb 39) (.node (gt) .nil .nil) .nil) (.node (gl 65) (.node (gi) .nil .nil) .nil))) (.node (o119 P) (.node (gb 7) (.node (gl 33) (.node (gi) .nil .nil) .nil) (.node (gt) (.node (gx 109) .nil .nil) .nil)) (.node (gi) (.node (gx 45) (.node (gl 97) .nil .nil) .nil) (.node (gb 71) (.node (gt) .nil .nil) .nil)))))) (.node (o11 P) (.node (o19 P) (.node (o35 P) (.node (o67 P) (.node (o131 P) (.node (gt) (.node (gx 73) .nil .nil) (.node (gl 125) .nil .nil)) (.node (gi) (.node (gb 99) .nil .nil) .nil)) (.node (gx 9) (.node (gb 35) (.node (gt) .nil .nil) .nil) (.node (gl 61) (.node (gi) .nil .nil) .nil))) (.node (o99 P) (.node (gb 3) (.node (gl 29) (.node (gi) .nil .nil) .nil) (.node (gt) (.node (gx 105) .nil .nil) .nil)) (.node (gi) (.node (gx 41) (.node (gl 93) .nil .nil) .nil) (.node (gb 67) (.node (gt) .nil .nil) .nil)))) (.node (o51 P) (.node (o83 P) (.node (gi) (.node (gx 25) (.node (gl 77) .nil .nil) .nil) (.node (gb 51) (.node (gt) .nil .nil) .nil)) (.node (gl 13) (.node (gt) (.node (gx 89) .nil .nil) .nil) (.node (gi) (.node (gb 115) .nil .nil) .nil))) (.node (o115 P) (.node (gt) (.node (gi) (.node (gb 83) .nil .nil) .nil) (.node (gx 57) (.node (gl 109) .nil .nil) .nil)) (.node (gb 19) (.node (gl 45) (.node (gi) .nil .nil) .nil) (.node (gt) (.node (gx 121) .nil .nil) .nil))))) (.node (o27 P) (.node (o43 P) (.node (o75 P) (.node (o139 P) (.node (gi) (.node (gb 75) .nil .nil) (.node (gt) .nil .nil)) (.node (gx 49) (.node (gl 101) .nil .nil) .nil)) (.node (gb 11) (.node (gl 37) (.node (gi) .nil .nil) .nil) (.node (gt) (.node (gx 113) .nil .nil) .nil))) (.node (o107 P) (.node (gl 5) (.node (gt) (.node (gx 81) .nil .nil) .nil) (.node (gi) (.node (gb 107) .nil .nil) .nil)) (.node (gx 17) (.node (gb 43) (.node (gt) .nil .nil) .nil) (.node (gl 69) (.node (gi) .nil .nil) .nil)))) (.node (o59 P) (.node (o91 P) (.node (gx 1) (.node (gb 27) (.node (gt) .nil .nil) .nil) (.node (gl 53) (.node (gi) .nil .nil) .nil)) (.node (gt) (.node (gi) (.node (gb 91) .nil .nil) .nil) (.node (gx 65) (.node (gl 117) .nil .nil) .nil))) (.node (o123 P) (.node (gi) (.node (gx 33) (.node (gl 85) .nil .nil) .nil) (.node (gb 59) (.node (gt) .nil .nil) .nil)) (.node (gl 21) (.node (gt) (.node (gx 97) .nil .nil) .nil) (.node (gi) (.node (gb 123) .nil .nil) .nil))))))) (.node (boot_o_5 P) (.node (boot_o_9 P) (.node (o17 P) (.node (o33 P) (.node (o65 P) (.node (o129 P) (.node (gi) (.node (gb 73) .nil .nil) (.node (gt) .nil .nil)) (.node (gx 47) (.node (gl 99) .nil .nil) .nil)) (.node (gb 9) (.node (gl 35) (.node (gi) .nil .nil) .nil) (.node (gt) (.node (gx 111) .nil .nil) .nil))) (.node (o97 P) (.node (gl 3) (.node (gt) (.node (gx 79) .nil .nil) .nil) (.node (gi) (.node (gb 105) .nil .nil) .nil)) (.node (gx 15) (.node (gb 41) (.node (gt) .nil .nil) .nil) (.node (gl 67) (.node (gi) .nil .nil) .nil)))) (.node (o49 P) (.node (o81 P) (.node (o145sM P) (.node (gb 25) (.node (gt) .nil .nil) (.node (gx 127) .nil .nil)) (.node (gl 51) (.node (gi) .nil .nil) .nil)) (.node (gt) (.node (gi) (.node (gb 89) .nil .nil) .nil) (.node (gx 63) (.node (gl 115) .nil .nil) .nil))) (.node (o113 P) (.node (gi) (.node (gx 31) (.node (gl 83) .nil .nil) .nil) (.node (gb 57) (.node (gt) .nil .nil) .nil)) (.node (gl 19) (.node (gt) (.node (gx 95) .nil .nil) .nil) (.node (gi) (.node (gb 121) .nil .nil) .nil))))) (.node (o25 P) (.node (o41 P) (.node (o73 P) (.node (o137 P) (.node (gx 23) (.node (gl 75) .nil .nil) (.node (gi) .nil .nil)) (.node (gb 49) (.node (gt) .nil .nil) .nil)) (.node (gl 11) (.node (gt) (.node (gx 87) .nil .nil) .nil) (.node (gi) (.node (gb 113) .nil .nil) .nil))) (.node (o105 P) (.node (gt) (.node (gi) (.node (gb 81) .nil .nil) .nil) (.node (gx 55) (.node (gl 107) .nil .nil) .nil)) (.node (gb 17) (.node (gl 43) (.node (gi) .nil .nil) .nil) (.node (gt) (.node (gx 119) .nil .nil) .nil)))) (.node (o57 P) (.node (o89 P) (.node (gb 1) (.node (gl 27) (.node (gi) .nil .nil) .nil) (.node (gt) (.node (gx 103) .nil .nil) .nil)) (.node (gi) (.node (gx 39) (.node (gl 91) .nil .nil) .nil) (.node (gb 65) (.node (gt) .nil .nil) .nil))) (.node (o121 P) (.node (gx 7) (.node (gb 33) (.node (gt) .nil .nil) .nil) (.node (gl 59) (.node (gi) .nil .nil) .nil)) (.node (gt) (.node (gi) (.node (gb 97) .nil .nil) .nil) (.node (gx 71) (.node (gl 123) .nil .nil) .nil)))))) (.node (o13 P) (.node (o21 P) (.node (o37 P) (.node (o69 P) (.node (o133 P) (.node (gl 23) (.node (gi) .nil .nil) (.node (gb 125) .nil .nil)) (.node (gt) (.node (gx 99) .nil .nil) .nil)) (.node (gi) (.node (gx 35) (.node (gl 87) .nil .nil) .nil) (.node (gb 61) (.node (gt) .nil .nil) .nil))) (.node (o101 P) (.node (gx 3) (.node (gb 29) (.node (gt) .nil .nil) .nil) (.node (gl 55) (.node (gi) .nil .nil) .nil)) (.node (gt) (.node (gi) (.node (gb 93) .nil .nil) .nil) (.node (gx 67) (.node (gl 119) .nil .nil) .nil)))) (.node (o53 P) (.node (o85 P) (.node (gt) (.node (gi) (.node (gb 77) .nil .nil) .nil) (.node (gx 51) (.node (gl 103) .nil .nil) .nil)) (.node (gb 13) (.node (gl 39) (.node (gi) .nil .nil) .nil) (.node (gt) (.node (gx 115) .nil .nil) .nil))) (.node (o117 P) (.node (gl 7) (.node (gt) (.node (gx 83) .nil .nil) .nil) (.node (gi) (.node (gb 109) .nil .nil) .nil)) (.node (gx 19) (.node (gb 45) (.node (gt) .nil .nil) .nil) (.node (gl 71) (.node (gi) .nil .nil) .nil))))) (.node (o29 P) (.node (o45 P) (.node (o77 P) (.node (o141 P) (.node (gt) (.node (gx 75) .nil .nil) (.node (gl 127) .nil .nil)) (.node (gi) (.node (gb 101) .nil .nil) .nil)) (.node (gx 11) (.node (gb 37) (.node (gt) .nil .nil) .nil) (.node (gl 63) (.node (gi) .nil .nil) .nil))) (.node (o109 P) (.node (gb 5) (.node (gl 31) (.node (gi) .nil .nil) .nil) (.node (gt) (.node (gx 107) .nil .nil) .nil)) (.node (gi) (.node (gx 43) (.node (gl 95) .nil .nil) .nil) (.node (gb 69) (.node (gt) .nil .nil) .nil)))) (.node (o61 P) (.node (o93 P) (.node (gi) (.node (gx 27) (.node (gl 79) .nil .nil) .nil) (.node (gb 53) (.node (gt) .nil .nil) .nil)) (.node (gl 15) (.node (gt) (.node (gx 91) .nil .nil) .nil) (.node (gi) (.node (gb 117) .nil .nil) .nil))) (.node (o125 P) (.node (gt) (.node (gi) (.node (gb 85) .nil .nil) .nil) (.node (gx 59) (.node (gl 111) .nil .nil) .nil)) (.node (gb 21) (.node (gl 47) (.node (gi) .nil .nil) .nil) (.node (gt) (.node (gx 123) .nil .nil) .nil)))))))) (.node (o2sA P) (.node (boot_o_4 P) (.node (boot_o_8 P) (.node (o16 P) (.node (o32 P) (.node (o64 P) (.node (o128 P) (.node (gl 22) (.node (gi) .nil .nil) (.node (gb 124) .nil .nil)) (.node (gt) (.node (gx 98) .nil .nil) .nil)) (.node (gi) (.node (gx 34) (.node (gl 86) .nil .nil) .nil) (.node (gb 60) (.node (gt) .nil .nil) .nil))) (.node (o96 P) (.node (gx 2) (.node (gb 28) (.node (gt) .nil .nil) .nil) (.node (gl 54) (.node (gi) .nil .nil) .nil)) (.node (gt) (.node (gi) (.node (gb 92) .nil .nil) .nil) (.node (gx 66) (.node (gl 118) .nil .nil) .nil)))) (.node (o48 P) (.node (o80 P) (.node (o144sM P) (.node (gi) (.node (gb 76) .nil .nil) (.node (gt) .nil .nil)) (.node (gx 50) (.node (gl 102) .nil .nil) .nil)) (.node (gb 12) (.node (gl 38) (.node (gi) .nil .nil) .nil) (.node (gt) (.node (gx 114) .nil .nil) .nil))) (.node (o112 P) (.node (gl 6) (.node (gt) (.node (gx 82) .nil .nil) .nil) (.node (gi) (.node (gb 108) .nil .nil) .nil)) (.node (gx 18) (.node (gb 44) (.node (gt) .nil .nil) .nil) (.node (gl 70) (.node (gi) .nil .nil) .nil))))) (.node (o24 P) (.node (o40 P) (.node (o72 P) (.node (o136 P) (.node (gt) (.node (gx 74) .nil .nil) (.node (gl 126) .nil .nil)) (.node (gi) (.node (gb 100) .nil .nil) .nil)) (.node (gx 10) (.node (gb 36) (.node (gt) .nil .nil) .nil) (.node (gl 62) (.node (gi) .nil .nil) .nil))) (.node (o104 P) (.node (gb 4) (.node (gl 30) (.node (gi) .nil .nil) .nil) (.node (gt) (.node (gx 106) .nil .nil) .nil)) (.node (gi) (.node (gx 42) (.node (gl 94) .nil .nil) .nil) (.node (gb 68) (.node (gt) .nil .nil) .nil)))) (.node (o56 P) (.node (o88 P) (.node (gi) (.node (gx 26) (.node (gl 78) .nil .nil) .nil) (.node (gb 52) (.node (gt) .nil .nil) .nil)) (.node (gl 14) (.node (gt) (.node (gx 90) .nil .nil) .nil) (.node (gi) (.node (gb 116) .nil .nil) .nil))) (.node (o120 P) (.node (gt) (.node (gi) (.node (gb 84) .nil .nil) .nil) (.node (gx 58) (.node (gl 110) .nil .nil) .nil)) (.node (gb 20) (.node (gl 46) (.node (gi) .nil .nil) .nil) (.node (gt) (.node (gx 122) .nil .nil) .nil)))))) (.node (o12 P) (.node (o20 P) (.node (o36 P) (.node (o68 P) (.node (o132 P) (.node (gx 22) (.node (gl 74) .nil .nil) (.node (gi) .nil .nil)) (.node (gb 48) (.node (gt) .nil .nil) .nil)) (.node (gl 10) (.node (gt) (.node (gx 86) .nil .nil) .nil) (.node (gi) (.node (gb 112) .nil .nil) .nil))) (.node (o100 P) (.node (gt) (.node (gi) (.node (gb 80) .nil .nil) .nil) (.node (gx 54) (.node (gl 106) .nil .nil) .nil)) (.node (gb 16) (.node (gl 42) (.node (gi) .nil .nil) .nil) (.node (gt) (.node (gx 118) .nil .nil) .nil)))) (.node (o52 P) (.node (o84 P) (.node (gb 0) (.node (gl 26) (.node (gi) .nil .nil) .nil) (.node (gt) (.node (gx 102) .nil .nil) .nil)) (.node (gi) (.node (gx 38) (.node (gl 90) .nil .nil) .nil) (.node (gb 64) (.node (gt) .nil .nil) .nil))) (.node (o116 P) (.node (gx 6) (.node (gb 32) (.node (gt) .nil .nil) .nil) (.node (gl 58) (.node (gi) .nil .nil) .nil)) (.node (gt) (.node (gi) (.node (gb 96) .nil .nil) .nil) (.node (gx 70) (.node (gl 122) .nil .nil) .nil))))) (.node (o28 P) (.node (o44 P) (.node (o76 P) (.node (o140 P) (.node (gb 24) (.node (gt) .nil .nil) (.node (gx 126) .nil .nil)) (.node (gl 50) (.node (gi) .nil .nil) .nil)) (.node (gt) (.node (gi) (.node (gb 88) .nil .nil) .nil) (.node (gx 62) (.node (gl 114) .nil .nil) .nil))) (.node (o108 P) (.node (gi) (.node (gx 30) (.node (gl 82) .nil .nil) .nil) (.node (gb 56) (.node (gt) .nil .nil) .nil)) (.node (gl 18) (.node (gt) (.node (gx 94) .nil .nil) .nil) (.node (gi) (.node (gb 120) .nil .nil) .nil)))) (.node (o60 P) (.node (o92 P) (.node (gl 2) (.node (gt) (.node (gx 78) .nil .nil) .nil) (.node (gi) (.node (gb 104) .nil .nil) .nil)) (.node (gx 14) (.node (gb 40) (.node (gt) .nil .nil) .nil) (.node (gl 66) (.node (gi) .nil .nil) .nil))) (.node (o124 P) (.node (gb 8) (.node (gl 34) (.node (gi) .nil .nil) .nil) (.node (gt) (.node (gx 110) .nil .nil) .nil)) (.node (gi) (.node (gx 46) (.node (gl 98) .nil .nil) .nil) (.node (gb 72) (.node (gt) .nil .nil) .nil))))))) (.node (boot_o_6 P) (.node (boot_o_10 P) (.node (o18 P) (.node (o34 P) (.node (o66 P) (.node (o130 P) (.node (gb 22) (.node (gt) .nil .nil) (.node (gx 124) .nil .nil)) (.node (gl 48) (.node (gi) .nil .nil) .nil)) (.node (gt) (.node (gi) (.node (gb 86) .nil .nil) .nil) (.node (gx 60) (.node (gl 112) .nil .nil) .nil))) (.node (o98 P) (.node (gi) (.node (gx 28) (.node (gl 80) .nil .nil) .nil) (.node (gb 54) (.node (gt) .nil .nil) .nil)) (.node (gl 16) (.node (gt) (.node (gx 92) .nil .nil) .nil) (.node (gi) (.node (gb 118) .nil .nil) .nil)))) (.node (o50 P) (.node (o82 P) (.node (gl 0) (.node (gt) (.node (gx 76) .nil .nil) .nil) (.node (gi) (.node (gb 102) .nil .nil) .nil)) (.node (gx 12) (.node (gb 38) (.node (gt) .nil .nil) .nil) (.node (gl 64) (.node (gi) .nil .nil) .nil))) (.node (o114 P) (.node (gb 6) (.node (gl 32) (.node (gi) .nil .nil) .nil) (.node (gt) (.node (gx 108) .nil .nil) .nil)) (.node (gi) (.node (gx 44) (.node (gl 96) .nil .nil) .nil) (.node (gb 70) (.node (gt) .nil .nil) .nil))))) (.node (o26 P) (.node (o42 P) (.node (o74 P) (.node (o138 P) (.node (gl 24) (.node (gi) .nil .nil) (.node (gb 126) .nil .nil)) (.node (gt) (.node (gx 100) .nil .nil) .nil)) (.node (gi) (.node (gx 36) (.node (gl 88) .nil .nil) .nil) (.node (gb 62) (.node (gt) .nil .nil) .nil))) (.node (o106 P) (.node (gx 4) (.node (gb 30) (.node (gt) .nil .nil) .nil) (.node (gl 56) (.node (gi) .nil .nil) .nil)) (.node (gt) (.node (gi) (.node (gb 94) .nil .nil) .nil) (.node (gx 68) (.node (gl 120) .nil .nil) .nil)))) (.node (o58 P) (.node (o90 P) (.node (gt) (.node (gi) (.node (gb 78) .nil .nil) .nil) (.node (gx 52) (.node (gl 104) .nil .nil) .nil)) (.node (gb 14) (.node (gl 40) (.node (gi) .nil .nil) .nil) (.node (gt) (.node (gx 116) .nil .nil) .nil))) (.node (o122 P) (.node (gl 8) (.node (gt) (.node (gx 84) .nil .nil) .nil) (.node (gi) (.node (gb 110) .nil .nil) .nil)) (.node (gx 20) (.node (gb 46) (.node (gt) .nil .nil) .nil) (.node (gl 72) (.node (gi) .nil .nil) .nil)))))) (.node (o14 P) (.node (o22 P) (.node (o38 P) (.node (o70 P) (.node (o134 P) (.node (gi) (.node (gb 74) .nil .nil) (.node (gt) .nil .nil)) (.node (gx 48) (.node (gl 100) .nil .nil) .nil)) (.node (gb 10) (.node (gl 36) (.node (gi) .nil .nil) .nil) (.node (gt) (.node (gx 112) .nil .nil) .nil))) (.node (o102 P) (.node (gl 4) (.node (gt) (.node (gx 80) .nil .nil) .nil) (.node (gi) (.node (gb 106) .nil .nil) .nil)) (.node (gx 16) (.node (gb 42) (.node (gt) .nil .nil) .nil) (.node (gl 68) (.node (gi) .nil .nil) .nil)))) (.node (o54 P) (.node (o86 P) (.node (gx 0) (.node (gb 26) (.node (gt) .nil .nil) .nil) (.node (gl 52) (.node (gi) .nil .nil) .nil)) (.node (gt) (.node (gi) (.node (gb 90) .nil .nil) .nil) (.node (gx 64) (.node (gl 116) .nil .nil) .nil))) (.node (o118 P) (.node (gi) (.node (gx 32) (.node (gl 84) .nil .nil) .nil) (.node (gb 58) (.node (gt) .nil .nil) .nil)) (.node (gl 20) (.node (gt) (.node (gx 96) .nil .nil) .nil) (.node (gi) (.node (gb 122) .nil .nil) .nil))))) (.node (o30 P) (.node (o46 P) (.node (o78 P) (.node (o142 P) (.node (gx 24) (.node (gl 76) .nil .nil) (.node (gi) .nil .nil)) (.node (gb 50) (.node (gt) .nil .nil) .nil)) (.node (gl 12) (.node (gt) (.node (gx 88) .nil .nil) .nil) (.node (gi) (.node (gb 114) .nil .nil) .nil))) (.node (o110 P) (.node (gt) (.node (gi) (.node (gb 82) .nil .nil) .nil) (.node (gx 56) (.node (gl 108) .nil .nil) .nil)) (.node (gb 18) (.node (gl 44) (.node (gi) .nil .nil) .nil) (.node (gt) (.node (gx 120) .nil .nil) .nil)))) (.node (o62 P) (.node (o94 P) (.node (gb 2) (.node (gl 28) (.node (gi) .nil .nil) .nil) (.node (gt) (.node (gx 104) .nil .nil) .nil)) (.node (gi) (.node (gx 40) (.node (gl 92) .nil .nil) .nil) (.node (gb 66) (.node (gt) .nil .nil) .nil))) (.node (o126 P) (.node (gx 8) (.node (gb 34) (.node (gt) .nil .nil) .nil) (.node (gl 60) (.node (gi) .nil .nil) .nil)) (.node (gt) (.node (gi) (.node (gb 98) .nil .nil) .nil) (.node (gx 72) (.node (gl 124) .nil .nil) .nil)))))))))
def tE (P : Params) : BT := (.node (boot_o_0 P) (.node (boot_o_1 P) (.node (o3sA P) (.node (boot_o_7 P) (.node (o15 P) (.node (o31 P) (.node (o63 P) (.node (o127 P) (.node (gx 21) (.node (gl 73) (.node (gb 175) .nil .nil) .nil) (.node (gi) (.node (gt) .nil .nil) .nil)) (.node (gb 47) (.node (gt) (.node (gl 201) .nil .nil) .nil) (.node (gx 149) (.node (gi) .nil .nil) .nil))) (.node (gl 9) (.node (gt) (.node (gx 85) (.node (gi) .nil .nil) .nil) (.node (gl 137) (.node (gb 239) .nil .nil) .nil)) (.node (gi) (.node (gb 111) (.node (gx 213) .nil .nil) .nil) (.node (gt) .nil .nil)))) (.node (o95 P) (.node (gt) (.node (gi) (.node (gb 79) (.node (gx 181) .nil .nil) .nil) (.node (gt) (.node (gl 233) .nil .nil) .nil)) (.node (gx 53) (.node (gl 105) (.node (gb 207) .nil .nil) .nil) (.node (gi) .nil .nil))) (.node (gb 15) (.node (gl 41) (.node (gi) (.node (gt) .nil .nil) .nil) (.node (gb 143) (.node (gx 245) .nil .nil) .nil)) (.node (gt) (.node (gx 117) (.node (gi) .nil .nil) .nil) (.node (gl 169) .nil .nil))))) (.node (o47 P) (.node (o79 P) (.node (o143sE P) (.node (gl 25) (.node (gi) (.node (gt) .nil .nil) .nil) (.node (gb 127) (.node (gx 229) .nil .nil) .nil)) (.node (gt) (.node (gx 101) (.node (gi) .nil .nil) .nil) (.node (gl 153) (.node (gb 255) .nil .nil) .nil))) (.node (gi) (.node (gx 37) (.node (gl 89) (.node (gb 191) .nil .nil) .nil) (.node (gi) (.node (gt) .nil .nil) .nil)) (.node (gb 63) (.node (gt) (.node (gl 217) .nil .nil) .nil) (.node (gx 165) .nil .nil)))) (.node (o111 P) (.node (gx 5) (.node (gb 31) (.node (gt) (.node (gl 185) .nil .nil) .nil) (.node (gx 133) (.node (gi) .nil .nil) .nil)) (.node (gl 57) (.node (gi) (.node (gt) .nil .nil) .nil) (.node (gb 159) .nil .nil))) (.node (gt) (.node (gi) (.node (gb 95) (.node (gx 197) .nil .nil) .nil) (.node (gt) (.node (gl 249) .nil .nil) .nil)) (.node (gx 69) (.node (gl 121) (.node (gb 223) .nil .nil) .nil) (.node (gi) .nil .nil)))))) (.node (o23 P) (.node (o39 P) (.node (o71 P) (.node (o135 P) (.node (gb 23) (.node (gt) (.node (gl 177) .nil .nil) .nil) (.node (gx 125) (.node (gi) .nil .nil) .nil)) (.node (gl 49) (.node (gi) (.node (gt) .nil .nil) .nil) (.node (gb 151) (.node (gx 253) .nil .nil) .nil))) (.node (gt) (.node (gi) (.node (gb 87) (.node (gx 189) .nil .nil) .nil) (.node (gt) (.node (gl 241) .nil .nil) .nil)) (.node (gx 61) (.node (gl 113) (.node (gb 215) .nil .nil) .nil) (.node (gi) .nil .nil)))) (.node (o103 P) (.node (gi) (.node (gx 29) (.node (gl 81) (.node (gb 183) .nil .nil) .nil) (.node (gi) (.node (gt) .nil .nil) .nil)) (.node (gb 55) (.node (gt) (.node (gl 209) .nil .nil) .nil) (.node (gx 157) .nil .nil))) (.node (gl 17) (.node (gt) (.node (gx 93) (.node (gi) .nil .nil) .nil) (.node (gl 145) (.node (gb 247) .nil .nil) .nil)) (.node (gi) (.node (gb 119) (.node (gx 221) .nil .nil) .nil) (.node (gt) .nil .nil))))) (.node (o55 P) (.node (o87 P) (.node (gl 1) (.node (gt) (.node (gx 77) (.node (gi) .nil .nil) .nil) (.node (gl 129) (.node (gb 231) .nil .nil) .nil)) (.node (gi) (.node (gb 103) (.node (gx 205) .nil .nil) .nil) (.node (gt) .nil .nil))) (.node (gx 13) (.node (gb 39) (.node (gt) (.node (gl 193) .nil .nil) .nil) (.node (gx 141) (.node (gi) .nil .nil) .nil)) (.node (gl 65) (.node (gi) (.node (gt) .nil .nil) .nil) (.node (gb 167) .nil .nil)))) (.node (o119 P) (.node (gb 7) (.node (gl 33) (.node (gi) (.node (gt) .nil .nil) .nil) (.node (gb 135) (.node (gx 237) .nil .nil) .nil)) (.node (gt) (.node (gx 109) (.node (gi) .nil .nil) .nil) (.node (gl 161) .nil .nil))) (.node (gi) (.node (gx 45) (.node (gl 97) (.node (gb 199) .nil .nil) .nil) (.node (gi) (.node (gt) .nil .nil) .nil)) (.node (gb 71) (.node (gt) (.node (gl 225) .nil .nil) .nil) (.node (gx 173) .nil .nil))))))) (.node (o11 P) (.node (o19 P) (.node (o35 P) (.node (o67 P) (.node (o131 P) (.node (gt) (.node (gx 73) (.node (gi) .nil .nil) .nil) (.node (gl 125) (.node (gb 227) .nil .nil) .nil)) (.node (gi) (.node (gb 99) (.node (gx 201) .nil .nil) .nil) (.node (gt) (.node (gl 253) .nil .nil) .nil))) (.node (gx 9) (.node (gb 35) (.node (gt) (.node (gl 189) .nil .nil) .nil) (.node (gx 137) (.node (gi) .nil .nil) .nil)) (.node (gl 61) (.node (gi) (.node (gt) .nil .nil) .nil) (.node (gb 163) .nil .nil)))) (.node (o99 P) (.node (gb 3) (.node (gl 29) (.node (gi) (.node (gt) .nil .nil) .nil) (.node (gb 131) (.node (gx 233) .nil .nil) .nil)) (.node (gt) (.node (gx 105) (.node (gi) .nil .nil) .nil) (.node (gl 157) .nil .nil))) (.node (gi) (.node (gx 41) (.node (gl 93) (.node (gb 195) .nil .nil) .nil) (.node (gi) (.node (gt) .nil .nil) .nil)) (.node (gb 67) (.node (gt) (.node (gl 221) .nil .nil) .nil) (.node (gx 169) .nil .nil))))) (.node (o51 P) (.node (o83 P) (.node (gi) (.node (gx 25) (.node (gl 77) (.node (gb 179) .nil .nil) .nil) (.node (gi) (.node (gt) .nil .nil) .nil)) (.node (gb 51) (.node (gt) (.node (gl 205) .nil .nil) .nil) (.node (gx 153) .nil .nil))) (.node (gl 13) (.node (gt) (.node (gx 89) (.node (gi) .nil .nil) .nil) (.node (gl 141) (.node (gb 243) .nil .nil) .nil)) (.node (gi) (.node (gb 115) (.node (gx 217) .nil .nil) .nil) (.node (gt) .nil .nil)))) (.node (o115 P) (.node (gt) (.node (gi) (.node (gb 83) (.node (gx 185) .nil .nil) .nil) (.node (gt) (.node (gl 237) .nil .nil) .nil)) (.node (gx 57) (.node (gl 109) (.node (gb 211) .nil .nil) .nil) (.node (gi) .nil .nil))) (.node (gb 19) (.node (gl 45) (.node (gi) (.node (gt) .nil .nil) .nil) (.node (gb 147) (.node (gx 249) .nil .nil) .nil)) (.node (gt) (.node (gx 121) (.node (gi) .nil .nil) .nil) (.node (gl 173) .nil .nil)))))) (.node (o27 P) (.node (o43 P) (.node (o75 P) (.node (o139 P) (.node (gi) (.node (gb 75) (.node (gx 177) .nil .nil) .nil) (.node (gt) (.node (gl 229) .nil .nil) .nil)) (.node (gx 49) (.node (gl 101) (.node (gb 203) .nil .nil) .nil) (.node (gi) (.node (gt) .nil .nil) .nil))) (.node (gb 11) (.node (gl 37) (.node (gi) (.node (gt) .nil .nil) .nil) (.node (gb 139) (.node (gx 241) .nil .nil) .nil)) (.node (gt) (.node (gx 113) (.node (gi) .nil .nil) .nil) (.node (gl 165) .nil .nil)))) (.node (o107 P) (.node (gl 5) (.node (gt) (.node (gx 81) (.node (gi) .nil .nil) .nil) (.node (gl 133) (.node (gb 235) .nil .nil) .nil)) (.node (gi) (.node (gb 107) (.node (gx 209) .nil .nil) .nil) (.node (gt) .nil .nil))) (.node (gx 17) (.node (gb 43) (.node (gt) (.node (gl 197) .nil .nil) .nil) (.node (gx 145) (.node (gi) .nil .nil) .nil)) (.node (gl 69) (.node (gi) (.node (gt) .nil .nil) .nil) (.node (gb 171) .nil .nil))))) (.node (o59 P) (.node (o91 P) (.node (gx 1) (.node (gb 27) (.node (gt) (.node (gl 181) .nil .nil) .nil) (.node (gx 129) (.node (gi) .nil .nil) .nil)) (.node (gl 53) (.node (gi) (.node (gt) .nil .nil) .nil) (.node (gb 155) .nil .nil))) (.node (gt) (.node (gi) (.node (gb 91) (.node (gx 193) .nil .nil) .nil) (.node (gt) (.node (gl 245) .nil .nil) .nil)) (.node (gx 65) (.node (gl 117) (.node (gb 219) .nil .nil) .nil) (.node (gi) .nil .nil)))) (.node (o123 P) (.node (gi) (.node (gx 33) (.node (gl 85) (.node (gb 187) .nil .nil) .nil) (.node (gi) (.node (gt) .nil .nil) .nil)) (.node (gb 59) (.node (gt) (.node (gl 213) .nil .nil) .nil) (.node (gx 161) .nil .nil))) (.node (gl 21) (.node (gt) (.node (gx 97) (.node (gi) .nil .nil) .nil) (.node (gl 149) (.node (gb 251) .nil .nil) .nil)) (.node (gi) (.node (gb 123) (.node (gx 225) .nil .nil) .nil) (.node (gt) .nil .nil)))))))) (.node (boot_o_5 P) (.node (boot_o_9 P) (.node (o17 P) (.node (o33 P) (.node (o65 P) (.node (o129 P) (.node (gi) (.node (gb 73) (.node (gx 175) .nil .nil) .nil) (.node (gt) (.node (gl 227) .nil .nil) .nil)) (.node (gx 47) (.node (gl 99) (.node (gb 201) .nil .nil) .nil) (.node (gi) (.node (gt) .nil .nil) .nil))) (.node (gb 9) (.node (gl 35) (.node (gi) (.node (gt) .nil .nil) .nil) (.node (gb 137) (.node (gx 239) .nil .nil) .nil)) (.node (gt) (.node (gx 111) (.node (gi) .nil .nil) .nil) (.node (gl 163) .nil .nil)))) (.node (o97 P) (.node (gl 3) (.node (gt) (.node (gx 79) (.node (gi) .nil .nil) .nil) (.node (gl 131) (.node (gb 233) .nil .nil) .nil)) (.node (gi) (.node (gb 105) (.node (gx 207) .nil .nil) .nil) (.node (gt) .nil .nil))) (.node (gx 15) (.node (gb 41) (.node (gt) (.node (gl 195) .nil .nil) .nil) (.node (gx 143) (.node (gi) .nil .nil) .nil)) (.node (gl 67) (.node (gi) (.node (gt) .nil .nil) .nil) (.node (gb 169) .nil .nil))))) (.node (o49 P) (.node (o81 P) (.node (o145sE P) (.node (gb 25) (.node (gt) (.node (gl 179) .nil .nil) .nil) (.node (gx 127) (.node (gi) .nil .nil) .nil)) (.node (gl 51) (.node (gi) (.node (gt) .nil .nil) .nil) (.node (gb 153) (.node (gx 255) .nil .nil) .nil))) (.node (gt) (.node (gi) (.node (gb 89) (.node (gx 191) .nil .nil) .nil) (.node (gt) (.node (gl 243) .nil .nil) .nil)) (.node (gx 63) (.node (gl 115) (.node (gb 217) .nil .nil) .nil) (.node (gi) .nil .nil)))) (.node (o113 P) (.node (gi) (.node (gx 31) (.node (gl 83) (.node (gb 185) .nil .nil) .nil) (.node (gi) (.node (gt) .nil .nil) .nil)) (.node (gb 57) (.node (gt) (.node (gl 211) .nil .nil) .nil) (.node (gx 159) .nil .nil))) (.node (gl 19) (.node (gt) (.node (gx 95) (.node (gi) .nil .nil) .nil) (.node (gl 147) (.node (gb 249) .nil .nil) .nil)) (.node (gi) (.node (gb 121) (.node (gx 223) .nil .nil) .nil) (.node (gt) .nil .nil)))))) (.node (o25 P) (.node (o41 P) (.node (o73 P) (.node (o137 P) (.node (gx 23) (.node (gl 75) (.node (gb 177) .nil .nil) .nil) (.node (gi) (.node (gt) .nil .nil) .nil)) (.node (gb 49) (.node (gt) (.node (gl 203) .nil .nil) .nil) (.node (gx 151) (.node (gi) .nil .nil) .nil))) (.node (gl 11) (.node (gt) (.node (gx 87) (.node (gi) .nil .nil) .nil) (.node (gl 139) (.node (gb 241) .nil .nil) .nil)) (.node (gi) (.node (gb 113) (.node (gx 215) .nil .nil) .nil) (.node (gt) .nil .nil)))) (.node (o105 P) (.node (gt) (.node (gi) (.node (gb 81) (.node (gx 183) .nil .nil) .nil) (.node (gt) (.node (gl 235) .nil .nil) .nil)) (.node (gx 55) (.node (gl 107) (.node (gb 209) .nil .nil) .nil) (.node (gi) .nil .nil))) (.node (gb 17) (.node (gl 43) (.node (gi) (.node (gt) .nil .nil) .nil) (.node (gb 145) (.node (gx 247) .nil .nil) .nil)) (.node (gt) (.node (gx 119) (.node (gi) .nil .nil) .nil) (.node (gl 171) .nil .nil))))) (.node (o57 P) (.node (o89 P) (.node (gb 1) (.node (gl 27) (.node (gi) (.node (gt) .nil .nil) .nil) (.node (gb 129) (.node (gx 231) .nil .nil) .nil)) (.node (gt) (.node (gx 103) (.node (gi) .nil .nil) .nil) (.node (gl 155) .nil .nil))) (.node (gi) (.node (gx 39) (.node (gl 91) (.node (gb 193) .nil .nil) .nil) (.node (gi) (.node (gt) .nil .nil) .nil)) (.node (gb 65) (.node (gt) (.node (gl 219) .nil .nil) .nil) (.node (gx 167) .nil .nil)))) (.node (o121 P) (.node (gx 7) (.node (gb 33) (.node (gt) (.node (gl 187) .nil .nil) .nil) (.node (gx 135) (.node (gi) .nil .nil) .nil)) (.node (gl 59) (.node (gi) (.node (gt) .nil .nil) .nil) (.node (gb 161) .nil .nil))) (.node (gt) (.node (gi) (.node (gb 97) (.node (gx 199) .nil .nil) .nil) (.node (gt) (.node (gl 251) .nil .nil) .nil)) (.node (gx 71) (.node (gl 123) (.node (gb 225) .nil .nil) .nil) (.node (gi) .nil .nil))))))) (.node (o13 P) (.node (o21 P) (.node (o37 P) (.node (o69 P) (.node (o133 P) (.node (gl 23) (.node (gi) (.node (gt) .nil .nil) .nil) (.node (gb 125) (.node (gx 227) .nil .nil) .nil)) (.node (gt) (.node (gx 99) (.node (gi) .nil .nil) .nil) (.node (gl 151) (.node (gb 253) .nil .nil) .nil))) (.node (gi) (.node (gx 35) (.node (gl 87) (.node (gb 189) .nil .nil) .nil) (.node (gi) (.node (gt) .nil .nil) .nil)) (.node (gb 61) (.node (gt) (.node (gl 215) .nil .nil) .nil) (.node (gx 163) .nil .nil)))) (.node (o101 P) (.node (gx 3) (.node (gb 29) (.node (gt) (.node (gl 183) .nil .nil) .nil) (.node (gx 131) (.node (gi) .nil .nil) .nil)) (.node (gl 55) (.node (gi) (.node (gt) .nil .nil) .nil) (.node (gb 157) .nil .nil))) (.node (gt) (.node (gi) (.node (gb 93) (.node (gx 195) .nil .nil) .nil) (.node (gt) (.node (gl 247) .nil .nil) .nil)) (.node (gx 67) (.node (gl 119) (.node (gb 221) .nil .nil) .nil) (.node (gi) .nil .nil))))) (.node (o53 P) (.node (o85 P) (.node (gt) (.node (gi) (.node (gb 77) (.node (gx 179) .nil .nil) .nil) (.node (gt) (.node (gl 231) .nil .nil) .nil)) (.node (gx 51) (.node (gl 103) (.node (gb 205) .nil .nil) .nil) (.node (gi) .nil .nil))) (.node (gb 13) (.node (gl 39) (.node (gi) (.node (gt) .nil .nil) .nil) (.node (gb 141) (.node (gx 243) .nil .nil) .nil)) (.node (gt) (.node (gx 115) (.node (gi) .nil .nil) .nil) (.node (gl 167) .nil .nil)))) (.node (o117 P) (.node (gl 7) (.node (gt) (.node (gx 83) (.node (gi) .nil .nil) .nil) (.node (gl 135) (.node (gb 237) .nil .nil) .nil)) (.node (gi) (.node (gb 109) (.node (gx 211) .nil .nil) .nil) (.node (gt) .nil .nil))) (.node (gx 19) (.node (gb 45) (.node (gt) (.node (gl 199) .nil .nil) .nil) (.node (gx 147) (.node (gi) .nil .nil) .nil)) (.node (gl 71) (.node (gi) (.node (gt) .nil .nil) .nil) (.node (gb 173) .nil .nil)))))) (.node (o29 P) (.node (o45 P) (.node (o77 P) (.node (o141 P) (.node (gt) (.node (gx 75) (.node (gi) .nil .nil) .nil) (.node (gl 127) (.node (gb 229) .nil .nil) .nil)) (.node (gi) (.node (gb 101) (.node (gx 203) .nil .nil) .nil) (.node (gt) (.node (gl 255) .nil .nil) .nil))) (.node (gx 11) (.node (gb 37) (.node (gt) (.node (gl 191) .nil .nil) .nil) (.node (gx 139) (.node (gi) .nil .nil) .nil)) (.node (gl 63) (.node (gi) (.node (gt) .nil .nil) .nil) (.node (gb 165) .nil .nil)))) (.node (o109 P) (.node (gb 5) (.node (gl 31) (.node (gi) (.node (gt) .nil .nil) .nil) (.node (gb 133) (.node (gx 235) .nil .nil) .nil)) (.node (gt) (.node (gx 107) (.node (gi) .nil .nil) .nil) (.node (gl 159) .nil .nil))) (.node (gi) (.node (gx 43) (.node (gl 95) (.node (gb 197) .nil .nil) .nil) (.node (gi) (.node (gt) .nil .nil) .nil)) (.node (gb 69) (.node (gt) (.node (gl 223) .nil .nil) .nil) (.node (gx 171) .nil .nil))))) (.node (o61 P) (.node (o93 P) (.node (gi) (.node (gx 27) (.node (gl 79) (.node (gb 181) .nil .nil) .nil) (.node (gi) (.node (gt) .nil .nil) .nil)) (.node (gb 53) (.node (gt) (.node (gl 207) .nil .nil) .nil) (.node (gx 155) .nil .nil))) (.node (gl 15) (.node (gt) (.node (gx 91) (.node (gi) .nil .nil) .nil) (.node (gl 143) (.node (gb 245) .nil .nil) .nil)) (.node (gi) (.node (gb 117) (.node (gx 219) .nil .nil) .nil) (.node (gt) .nil .nil)))) (.node (o125 P) (.node (gt) (.node (gi) (.node (gb 85) (.node (gx 187) .nil .nil) .nil) (.node (gt) (.node (gl 239) .nil .nil) .nil)) (.node (gx 59) (.node (gl 111) (.node (gb 213) .nil .nil) .nil) (.node (gi) .nil .nil))) (.node (gb 21) (.node (gl 47) (.node (gi) (.node (gt) .nil .nil) .nil) (.node (gb 149) (.node (gx 251) .nil .nil) .nil)) (.node (gt) (.node (gx 123) (.node (gi) .nil .nil) .nil) (.node (gl 175) .nil .nil))))))))) (.node (o2sA P) (.node (boot_o_4 P) (.node (boot_o_8 P) (.node (o16 P) (.node (o32 P) (.node (o64 P) (.node (o128 P) (.node (gl 22) (.node (gi) (.node (gt) .nil .nil) .nil) (.node (gb 124) (.node (gx 226) .nil .nil) .nil)) (.node (gt) (.node (gx 98) (.node (gi) .nil .nil) .nil) (.node (gl 150) (.node (gb 252) .nil .nil) .nil))) (.node (gi) (.node (gx 34) (.node (gl 86) (.node (gb 188) .nil .nil) .nil) (.node (gi) (.node (gt) .nil .nil) .nil)) (.node (gb 60) (.node (gt) (.node (gl 214) .nil .nil) .nil) (.node (gx 162) .nil .nil)))) (.node (o96 P) (.node (gx 2) (.node (gb 28) (.node (gt) (.node (gl 182) .nil .nil) .nil) (.node (gx 130) (.node (gi) .nil .nil) .nil)) (.node (gl 54) (.node (gi) (.node (gt) .nil .nil) .nil) (.node (gb 156) .nil .nil))) (.node (gt) (.node (gi) (.node (gb 92) (.node (gx 194) .nil .nil) .nil) (.node (gt) (.node (gl 246) .nil .nil) .nil)) (.node (gx 66) (.node (gl 118) (.node (gb 220) .nil .nil) .nil) (.node (gi) .nil .nil))))) (.node (o48 P) (.node (o80 P) (.node (o144sE P) (.node (gi) (.node (gb 76) (.node (gx 178) .nil .nil) .nil) (.node (gt) (.node (gl 230) .nil .nil) .nil)) (.node (gx 50) (.node (gl 102) (.node (gb 204) .nil .nil) .nil) (.node (gi) (.node (gt) .nil .nil) .nil))) (.node (gb 12) (.node (gl 38) (.node (gi) (.node (gt) .nil .nil) .nil) (.node (gb 140) (.node (gx 242) .nil .nil) .nil)) (.node (gt) (.node (gx 114) (.node (gi) .nil .nil) .nil) (.node (gl 166) .nil .nil)))) (.node (o112 P) (.node (gl 6) (.node (gt) (.node (gx 82) (.node (gi) .nil .nil) .nil) (.node (gl 134) (.node (gb 236) .nil .nil) .nil)) (.node (gi) (.node (gb 108) (.node (gx 210) .nil .nil) .nil) (.node (gt) .nil .nil))) (.node (gx 18) (.node (gb 44) (.node (gt) (.node (gl 198) .nil .nil) .nil) (.node (gx 146) (.node (gi) .nil .nil) .nil)) (.node (gl 70) (.node (gi) (.node (gt) .nil .nil) .nil) (.node (gb 172) .nil .nil)))))) (.node (o24 P) (.node (o40 P) (.node (o72 P) (.node (o136 P) (.node (gt) (.node (gx 74) (.node (gi) .nil .nil) .nil) (.node (gl 126) (.node (gb 228) .nil .nil) .nil)) (.node (gi) (.node (gb 100) (.node (gx 202) .nil .nil) .nil) (.node (gt) (.node (gl 254) .nil .nil) .nil))) (.node (gx 10) (.node (gb 36) (.node (gt) (.node (gl 190) .nil .nil) .nil) (.node (gx 138) (.node (gi) .nil .nil) .nil)) (.node (gl 62) (.node (gi) (.node (gt) .nil .nil) .nil) (.node (gb 164) .nil .nil)))) (.node (o104 P) (.node (gb 4) (.node (gl 30) (.node (gi) (.node (gt) .nil .nil) .nil) (.node (gb 132) (.node (gx 234) .nil .nil) .nil)) (.node (gt) (.node (gx 106) (.node (gi) .nil .nil) .nil) (.node (gl 158) .nil .nil))) (.node (gi) (.node (gx 42) (.node (gl 94) (.node (gb 196) .nil .nil) .nil) (.node (gi) (.node (gt) .nil .nil) .nil)) (.node (gb 68) (.node (gt) (.node (gl 222) .nil .nil) .nil) (.node (gx 170) .nil .nil))))) (.node (o56 P) (.node (o88 P) (.node (gi) (.node (gx 26) (.node (gl 78) (.node (gb 180) .nil .nil) .nil) (.node (gi) (.node (gt) .nil .nil) .nil)) (.node (gb 52) (.node (gt) (.node (gl 206) .nil .nil) .nil) (.node (gx 154) .nil .nil))) (.node (gl 14) (.node (gt) (.node (gx 90) (.node (gi) .nil .nil) .nil) (.node (gl 142) (.node (gb 244) .nil .nil) .nil)) (.node (gi) (.node (gb 116) (.node (gx 218) .nil .nil) .nil) (.node (gt) .nil .nil)))) (.node (o120 P) (.node (gt) (.node (gi) (.node (gb 84) (.node (gx 186) .nil .nil) .nil) (.node (gt) (.node (gl 238) .nil .nil) .nil)) (.node (gx 58) (.node (gl 110) (.node (gb 212) .nil .nil) .nil) (.node (gi) .nil .nil))) (.node (gb 20) (.node (gl 46) (.node (gi) (.node (gt) .nil .nil) .nil) (.node (gb 148) (.node (gx 250) .nil .nil) .nil)) (.node (gt) (.node (gx 122) (.node (gi) .nil .nil) .nil) (.node (gl 174) .nil .nil))))))) (.node (o12 P) (.node (o20 P) (.node (o36 P) (.node (o68 P) (.node (o132 P) (.node (gx 22) (.node (gl 74) (.node (gb 176) .nil .nil) .nil) (.node (gi) (.node (gt) .nil .nil) .nil)) (.node (gb 48) (.node (gt) (.node (gl 202) .nil .nil) .nil) (.node (gx 150) (.node (gi) .nil .nil) .nil))) (.node (gl 10) (.node (gt) (.node (gx 86) (.node (gi) .nil .nil) .nil) (.node (gl 138) (.node (gb 240) .nil .nil) .nil)) (.node (gi) (.node (gb 112) (.node (gx 214) .nil .nil) .nil) (.node (gt) .nil .nil)))) (.node (o100 P) (.node (gt) (.node (gi) (.node (gb 80) (.node (gx 182) .nil .nil) .nil) (.node (gt) (.node (gl 234) .nil .nil) .nil)) (.node (gx 54) (.node (gl 106) (.node (gb 208) .nil .nil) .nil) (.node (gi) .nil .nil))) (.node (gb 16) (.node (gl 42) (.node (gi) (.node (gt) .nil .nil) .nil) (.node (gb 144) (.node (gx 246) .nil .nil) .nil)) (.node (gt) (.node (gx 118) (.node (gi) .nil .nil) .nil) (.node (gl 170) .nil .nil))))) (.node (o52 P) (.node (o84 P) (.node (gb 0) (.node (gl 26) (.node (gi) (.node (gt) .nil .nil) .nil) (.node (gb 128) (.node (gx 230) .nil .nil) .nil)) (.node (gt) (.node (gx 102) (.node (gi) .nil .nil) .nil) (.node (gl 154) .nil .nil))) (.node (gi) (.node (gx 38) (.node (gl 90) (.node (gb 192) .nil .nil) .nil) (.node (gi) (.node (gt) .nil .nil) .nil)) (.node (gb 64) (.node (gt) (.node (gl 218) .nil .nil) .nil) (.node (gx 166) .nil .nil)))) (.node (o116 P) (.node (gx 6) (.node (gb 32) (.node (gt) (.node (gl 186) .nil .nil) .nil) (.node (gx 134) (.node (gi) .nil .nil) .nil)) (.node (gl 58) (.node (gi) (.node (gt) .nil .nil) .nil) (.node (gb 160) .nil .nil))) (.node (gt) (.node (gi) (.node (gb 96) (.node (gx 198) .nil .nil) .nil) (.node (gt) (.node (gl 250) .nil .nil) .nil)) (.node (gx 70) (.node (gl 122) (.node (gb 224) .nil .nil) .nil) (.node (gi) .nil .nil)))))) (.node (o28 P) (.node (o44 P) (.node (o76 P) (.node (o140 P) (.node (gb 24) (.node (gt) (.node (gl 178) .nil .nil) .nil) (.node (gx 126) (.node (gi) .nil .nil) .nil)) (.node (gl 50) (.node (gi) (.node (gt) .nil .nil) .nil) (.node (gb 152) (.node (gx 254) .nil .nil) .nil))) (.node (gt) (.node (gi) (.node (gb 88) (.node (gx 190) .nil .nil) .nil) (.node (gt) (.node (gl 242) .nil .nil) .nil)) (.node (gx 62) (.node (gl 114) (.node (gb 216) .nil .nil) .nil) (.node (gi) .nil .nil)))) (.node (o108 P) (.node (gi) (.node (gx 30) (.node (gl 82) (.node (gb 184) .nil .nil) .nil) (.node (gi) (.node (gt) .nil .nil) .nil)) (.node (gb 56) (.node (gt) (.node (gl 210) .nil .nil) .nil) (.node (gx 158) .nil .nil))) (.node (gl 18) (.node (gt) (.node (gx 94) (.node (gi) .nil .nil) .nil) (.node (gl 146) (.node (gb 248) .nil .nil) .nil)) (.node (gi) (.node (gb 120) (.node (gx 222) .nil .nil) .nil) (.node (gt) .nil .nil))))) (.node (o60 P) (.node (o92 P) (.node (gl 2) (.node (gt) (.node (gx 78) (.node (gi) .nil .nil) .nil) (.node (gl 130) (.node (gb 232) .nil .nil) .nil)) (.node (gi) (.node (gb 104) (.node (gx 206) .nil .nil) .nil) (.node (gt) .nil .nil))) (.node (gx 14) (.node (gb 40) (.node (gt) (.node (gl 194) .nil .nil) .nil) (.node (gx 142) (.node (gi) .nil .nil) .nil)) (.node (gl 66) (.node (gi) (.node (gt) .nil .nil) .nil) (.node (gb 168) .nil .nil)))) (.node (o124 P) (.node (gb 8) (.node (gl 34) (.node (gi) (.node (gt) .nil .nil) .nil) (.node (gb 136) (.node (gx 238) .nil .nil) .nil)) (.node (gt) (.node (gx 110) (.node (gi) .nil .nil) .nil) (.node (gl 162) .nil .nil))) (.node (gi) (.node (gx 46) (.node (gl 98) (.node (gb 200) .nil .nil) .nil) (.node (gi) (.node (gt) .nil .nil) .nil)) (.node (gb 72) (.node (gt) (.node (gl 226) .nil .nil) .nil) (.node (gx 174) .nil .nil)))))))) (.node (boot_o_6 P) (.node (boot_o_10 P) (.node (o18 P) (.node (o34 P) (.node (o66 P) (.node (o130 P) (.node (gb 22) (.node (gt) (.node (gl 176) .nil .nil) .nil) (.node (gx 124) (.node (gi) .nil .nil) .nil)) (.node (gl 48) (.node (gi) (.node (gt) .nil .nil) .nil) (.node (gb 150) (.node (gx 252) .nil .nil) .nil))) (.node (gt) (.node (gi) (.node (gb 86) (.node (gx 188) .nil .nil) .nil) (.node (gt) (.node (gl 240) .nil .nil) .nil)) (.node (gx 60) (.node (gl 112) (.node (gb 214) .nil .nil) .nil) (.node (gi) .nil .nil)))) (.node (o98 P) (.node (gi) (.node (gx 28) (.node (gl 80) (.node (gb 182) .nil .nil) .nil) (.node (gi) (.node (gt) .nil .nil) .nil)) (.node (gb 54) (.node (gt) (.node (gl 208) .nil .nil) .nil) (.node (gx 156) .nil .nil))) (.node (gl 16) (.node (gt) (.node (gx 92) (.node (gi) .nil .nil) .nil) (.node (gl 144) (.node (gb 246) .nil .nil) .nil)) (.node (gi) (.node (gb 118) (.node (gx 220) .nil .nil) .nil) (.node (gt) .nil .nil))))) (.node (o50 P) (.node (o82 P) (.node (gl 0) (.node (gt) (.node (gx 76) (.node (gi) .nil .nil) .nil) (.node (gl 128) (.node (gb 230) .nil .nil) .nil)) (.node (gi) (.node (gb 102) (.node (gx 204) .nil .nil) .nil) (.node (gt) .nil .nil))) (.node (gx 12) (.node (gb 38) (.node (gt) (.node (gl 192) .nil .nil) .nil) (.node (gx 140) (.node (gi) .nil .nil) .nil)) (.node (gl 64) (.node (gi) (.node (gt) .nil .nil) .nil) (.node (gb 166) .nil .nil)))) (.node (o114 P) (.node (gb 6) (.node (gl 32) (.node (gi) (.node (gt) .nil .nil) .nil) (.node (gb 134) (.node (gx 236) .nil .nil) .nil)) (.node (gt) (.node (gx 108) (.node (gi) .nil .nil) .nil) (.node (gl 160) .nil .nil))) (.node (gi) (.node (gx 44) (.node (gl 96) (.node (gb 198) .nil .nil) .nil) (.node (gi) (.node (gt) .nil .nil) .nil)) (.node (gb 70) (.node (gt) (.node (gl 224) .nil .nil) .nil) (.node (gx 172) .nil .nil)))))) (.node (o26 P) (.node (o42 P) (.node (o74 P) (.node (o138 P) (.node (gl 24) (.node (gi) (.node (gt) .nil .nil) .nil) (.node (gb 126) (.node (gx 228) .nil .nil) .nil)) (.node (gt) (.node (gx 100) (.node (gi) .nil .nil) .nil) (.node (gl 152) (.node (gb 254) .nil .nil) .nil))) (.node (gi) (.node (gx 36) (.node (gl 88) (.node (gb 190) .nil .nil) .nil) (.node (gi) (.node (gt) .nil .nil) .nil)) (.node (gb 62) (.node (gt) (.node (gl 216) .nil .nil) .nil) (.node (gx 164) .nil .nil)))) (.node (o106 P) (.node (gx 4) (.node (gb 30) (.node (gt) (.node (gl 184) .nil .nil) .nil) (.node (gx 132) (.node (gi) .nil .nil) .nil)) (.node (gl 56) (.node (gi) (.node (gt) .nil .nil) .nil) (.node (gb 158) .nil .nil))) (.node (gt) (.node (gi) (.node (gb 94) (.node (gx 196) .nil .nil) .nil) (.node (gt) (.node (gl 248) .nil .nil) .nil)) (.node (gx 68) (.node (gl 120) (.node (gb 222) .nil .nil) .nil) (.node (gi) .nil .nil))))) (.node (o58 P) (.node (o90 P) (.node (gt) (.node (gi) (.node (gb 78) (.node (gx 180) .nil .nil) .nil) (.node (gt) (.node (gl 232) .nil .nil) .nil)) (.node (gx 52) (.node (gl 104) (.node (gb 206) .nil .nil) .nil) (.node (gi) .nil .nil))) (.node (gb 14) (.node (gl 40) (.node (gi) (.node (gt) .nil .nil) .nil) (.node (gb 142) (.node (gx 244) .nil .nil) .nil)) (.node (gt) (.node (gx 116) (.node (gi) .nil .nil) .nil) (.node (gl 168) .nil .nil)))) (.node (o122 P) (.node (gl 8) (.node (gt) (.node (gx 84) (.node (gi) .nil .nil) .nil) (.node (gl 136) (.node (gb 238) .nil .nil) .nil)) (.node (gi) (.node (gb 110) (.node (gx 212) .nil .nil) .nil) (.node (gt) .nil .nil))) (.node (gx 20) (.node (gb 46) (.node (gt) (.node (gl 200) .nil .nil) .nil) (.node (gx 148) (.node (gi) .nil .nil) .nil)) (.node (gl 72) (.node (gi) (.node (gt) .nil .nil) .nil) (.node (gb 174) .nil .nil))))))) (.node (o14 P) (.node (o22 P) (.node (o38 P) (.node (o70 P) (.node (o134 P) (.node (gi) (.node (gb 74) (.node (gx 176) .nil .nil) .nil) (.node (gt) (.node (gl 228) .nil .nil) .nil)) (.node (gx 48) (.node (gl 100) (.node (gb 202) .nil .nil) .nil) (.node (gi) (.node (gt) .nil .nil) .nil))) (.node (gb 10) (.node (gl 36) (.node (gi) (.node (gt) .nil .nil) .nil) (.node (gb 138) (.node (gx 240) .nil .nil) .nil)) (.node (gt) (.node (gx 112) (.node (gi) .nil .nil) .nil) (.node (gl 164) .nil .nil)))) (.node (o102 P) (.node (gl 4) (.node (gt) (.node (gx 80) (.node (gi) .nil .nil) .nil) (.node (gl 132) (.node (gb 234) .nil .nil) .nil)) (.node (gi) (.node (gb 106) (.node (gx 208) .nil .nil) .nil) (.node (gt) .nil .nil))) (.node (gx 16) (.node (gb 42) (.node (gt) (.node (gl 196) .nil .nil) .nil) (.node (gx 144) (.node (gi) .nil .nil) .nil)) (.node (gl 68) (.node (gi) (.node (gt) .nil .nil) .nil) (.node (gb 170) .nil .nil))))) (.node (o54 P) (.node (o86 P) (.node (gx 0) (.node (gb 26) (.node (gt) (.node (gl 180) .nil .nil) .nil) (.node (gx 128) (.node (gi) .nil .nil) .nil)) (.node (gl 52) (.node (gi) (.node (gt) .nil .nil) .nil) (.node (gb 154) .nil .nil))) (.node (gt) (.node (gi) (.node (gb 90) (.node (gx 192) .nil .nil) .nil) (.node (gt) (.node (gl 244) .nil .nil) .nil)) (.node (gx 64) (.node (gl 116) (.node (gb 218) .nil .nil) .nil) (.node (gi) .nil .nil)))) (.node (o118 P) (.node (gi) (.node (gx 32) (.node (gl 84) (.node (gb 186) .nil .nil) .nil) (.node (gi) (.node (gt) .nil .nil) .nil)) (.node (gb 58) (.node (gt) (.node (gl 212) .nil .nil) .nil) (.node (gx 160) .nil .nil))) (.node (gl 20) (.node (gt) (.node (gx 96) (.node (gi) .nil .nil) .nil) (.node (gl 148) (.node (gb 250) .nil .nil) .nil)) (.node (gi) (.node (gb 122) (.node (gx 224) .nil .nil) .nil) (.node (gt) .nil .nil)))))) (.node (o30 P) (.node (o46 P) (.node (o78 P) (.node (o142 P) (.node (gx 24) (.node (gl 76) (.node (gb 178) .nil .nil) .nil) (.node (gi) (.node (gt) .nil .nil) .nil)) (.node (gb 50) (.node (gt) (.node (gl 204) .nil .nil) .nil) (.node (gx 152) (.node (gi) .nil .nil) .nil))) (.node (gl 12) (.node (gt) (.node (gx 88) (.node (gi) .nil .nil) .nil) (.node (gl 140) (.node (gb 242) .nil .nil) .nil)) (.node (gi) (.node (gb 114) (.node (gx 216) .nil .nil) .nil) (.node (gt) .nil .nil)))) (.node (o110 P) (.node (gt) (.node (gi) (.node (gb 82) (.node (gx 184) .nil .nil) .nil) (.node (gt) (.node (gl 236) .nil .nil) .nil)) (.node (gx 56) (.node (gl 108) (.node (gb 210) .nil .nil) .nil) (.node (gi) .nil .nil))) (.node (gb 18) (.node (gl 44) (.node (gi) (.node (gt) .nil .nil) .nil) (.node (gb 146) (.node (gx 248) .nil .nil) .nil)) (.node (gt) (.node (gx 120) (.node (gi) .nil .nil) .nil) (.node (gl 172) .nil .nil))))) (.node (o62 P) (.node (o94 P) (.node (gb 2) (.node (gl 28) (.node (gi) (.node (gt) .nil .nil) .nil) (.node (gb 130) (.node (gx 232) .nil .nil) .nil)) (.node (gt) (.node (gx 104) (.node (gi) .nil .nil) .nil) (.node (gl 156) .nil .nil))) (.node (gi) (.node (gx 40) (.node (gl 92) (.node (gb 194) .nil .nil) .nil) (.node (gi) (.node (gt) .nil .nil) .nil)) (.node (gb 66) (.node (gt) (.node (gl 220) .nil .nil) .nil) (.node (gx 168) .nil .nil)))) (.node (o126 P) (.node (gx 8) (.node (gb 34) (.node (gt) (.node (gl 188) .nil .nil) .nil) (.node (gx 136) (.node (gi) .nil .nil) .nil)) (.node (gl 60) (.node (gi) (.node (gt) .nil .nil) .nil) (.node (gb 162) .nil .nil))) (.node (gt) (.node (gi) (.node (gb 98) (.node (gx 200) .nil .nil) .nil) (.node (gt) (.node (gl 252) .nil .nil) .nil)) (.node (gx 72) (.node (gl 124) (.node (gb 226) .nil .nil) .nil) (.node (gi) .nil .nil))))))))))
def tF (P : Params) : BT := (.node (boot_o_0 P) (.node (boot_o_1 P) (.node (o3sF P) (.node (boot_o_7 P) (.node (o15 P) (.node (o31 P) (.node (o63 P) (.node (o127 P) (.node (gx 21) (.node (gl 73) (.node (gb 175) .nil .nil) (.node (o1535 P) .nil .nil)) (.node (gi) (.node (gt) .nil .nil) .nil)) (.node (gb 47) (.node (gt) (.node (gl 201) .nil .nil) (.node (o1663 P) .nil .nil)) (.node (gx 149) (.node (gi) .nil .nil) .nil))) (.node (gl 9) (.node (gt) (.node (gx 85) (.node (gi) .nil .nil) (.node (o1599 P) .nil .nil)) (.node (gl 137) (.node (gb 239) .nil .nil) .nil)) (.node (gi) (.node (gb 111) (.node (gx 213) .nil .nil) (.node (o1727 P) .nil .nil)) (.node (gt) (.node (o1471 P) .nil .nil) .nil)))) (.node (o95 P) (.node (gt) (.node (gi) (.node (gb 79) (.node (gx 181) .nil .nil) (.node (o1567 P) .nil .nil)) (.node (gt) (.node (gl 233) .nil .nil) .nil)) (.node (gx 53) (.node (gl 105) (.node (gb 207) .nil .nil) (.node (o1695 P) .nil .nil)) (.node (gi) (.node (o1439 P) .nil .nil) .nil))) (.node (gb 15) (.node (gl 41) (.node (gi) (.node (gt) .nil .nil) (.node (o1631 P) .nil .nil)) (.node (gb 143) (.node (gx 245) .nil .nil) .nil)) (.node (gt) (.node (gx 117) (.node (gi) .nil .nil) .nil) (.node (gl 169) (.node (o1503 P) .nil .nil) .nil))))) (.node (o47 P) (.node (o79 P) (.node (o143sE P) (.node (gl 25) (.node (gi) (.node (gt) .nil .nil) (.node (o1551 P) .nil .nil)) (.node (gb 127) (.node (gx 229) .nil .nil) .nil)) (.node (gt) (.node (gx 101) (.node (gi) .nil .nil) (.node (o1679 P) .nil .nil)) (.node (gl 153) (.node (gb 255) .nil .nil) .nil))) (.node (gi) (.node (gx 37) (.node (gl 89) (.node (gb 191) .nil .nil) (.node (o1615 P) .nil .nil)) (.node (gi) (.node (gt) .nil .nil) .nil)) (.node (gb 63) (.node (gt) (.node (gl 217) .nil .nil) .nil) (.node (gx 165) (.node (o1487 P) .nil .nil) .nil)))) (.node (o111 P) (.node (gx 5) (.node (gb 31) (.node (gt) (.node (gl 185) .nil .nil) (.node (o1583 P) .nil .nil)) (.node (gx 133) (.node (gi) .nil .nil) .nil)) (.node (gl 57) (.node (gi) (.node (gt) .nil .nil) (.node (o1711 P) .nil .nil)) (.node (gb 159) (.node (o1455 P) .nil .nil) .nil))) (.node (gt) (.node (gi) (.node (gb 95) (.node (gx 197) .nil .nil) (.node (o1647 P) .nil .nil)) (.node (gt) (.node (gl 249) .nil .nil) .nil)) (.node (gx 69) (.node (gl 121) (.node (gb 223) .nil .nil) .nil) (.node (gi) (.node (o1519 P) .nil .nil) .nil)))))) (.node (o23 P) (.node (o39 P) (.node (o71 P) (.node (o135 P) (.node (gb 23) (.node (gt) (.node (gl 177) .nil .nil) (.node (o1543 P) .nil .nil)) (.node (gx 125) (.node (gi) .nil .nil) .nil)) (.node (gl 49) (.node (gi) (.node (gt) .nil .nil) (.node (o1671 P) .nil .nil)) (.node (gb 151) (.node (gx 253) .nil .nil) .nil))) (.node (gt) (.node (gi) (.node (gb 87) (.node (gx 189) .nil .nil) (.node (o1607 P) .nil .nil)) (.node (gt) (.node (gl 241) .nil .nil) .nil)) (.node (gx 61) (.node (gl 113) (.node (gb 215) .nil .nil) (.node (o1735 P) .nil .nil)) (.node (gi) (.node (o1479 P) .nil .nil) .nil)))) (.node (o103 P) (.node (gi) (.node (gx 29) (.node (gl 81) (.node (gb 183) .nil .nil) (.node (o1575 P) .nil .nil)) (.node (gi) (.node (gt) .nil .nil) .nil)) (.node (gb 55) (.node (gt) (.node (gl 209) .nil .nil) (.node (o1703 P) .nil .nil)) (.node (gx 157) (.node (o1447 P) .nil .nil) .nil))) (.node (gl 17) (.node (gt) (.node (gx 93) (.node (gi) .nil .nil) (.node (o1639 P) .nil .nil)) (.node (gl 145) (.node (gb 247) .nil .nil) .nil)) (.node (gi) (.node (gb 119) (.node (gx 221) .nil .nil) .nil) (.node (gt) (.node (o1511 P) .nil .nil) .nil))))) (.node (o55 P) (.node (o87 P) (.node (gl 1) (.node (gt) (.node (gx 77) (.node (gi) .nil .nil) (.node (o1559 P) .nil .nil)) (.node (gl 129) (.node (gb 231) .nil .nil) .nil)) (.node (gi) (.node (gb 103) (.node (gx 205) .nil .nil) (.node (o1687 P) .nil .nil)) (.node (gt) (.node (o1431 P) .nil .nil) .nil))) (.node (gx 13) (.node (gb 39) (.node (gt) (.node (gl 193) .nil .nil) (.node (o1623 P) .nil .nil)) (.node (gx 141) (.node (gi) .nil .nil) .nil)) (.node (gl 65) (.node (gi) (.node (gt) .nil .nil) .nil) (.node (gb 167) (.node (o1495 P) .nil .nil) .nil)))) (.node (o119 P) (.node (gb 7) (.node (gl 33) (.node (gi) (.node (gt) .nil .nil) (.node (o1591 P) .nil .nil)) (.node (gb 135) (.node (gx 237) .nil .nil) .nil)) (.node (gt) (.node (gx 109) (.node (gi) .nil .nil) (.node (o1719 P) .nil .nil)) (.node (gl 161) (.node (o1463 P) .nil .nil) .nil))) (.node (gi) (.node (gx 45) (.node (gl 97) (.node (gb 199) .nil .nil) (.node (o1655 P) .nil .nil)) (.node (gi) (.node (gt) .nil .nil) .nil)) (.node (gb 71) (.node (gt) (.node (gl 225) .nil .nil) .nil) (.node (gx 173) (.node (o1527 P) .nil .nil) .nil))))))) (.node (o11 P) (.node (o19 P) (.node (o35 P) (.node (o67 P) (.node (o131 P) (.node (gt) (.node (gx 73) (.node (gi) .nil .nil) (.node (o1539 P) .nil .nil)) (.node (gl 125) (.node (gb 227) .nil .nil) .nil)) (.node (gi) (.node (gb 99) (.node (gx 201) .nil .nil) (.node (o1667 P) .nil .nil)) (.node (gt) (.node (gl 253) .nil .nil) .nil))) (.node (gx 9) (.node (gb 35) (.node (gt) (.node (gl 189) .nil .nil) (.node (o1603 P) .nil .nil)) (.node (gx 137) (.node (gi) .nil .nil) .nil)) (.node (gl 61) (.node (gi) (.node (gt) .nil .nil) (.node (o1731 P) .nil .nil)) (.node (gb 163) (.node (o1475 P) .nil .nil) .nil)))) (.node (o99 P) (.node (gb 3) (.node (gl 29) (.node (gi) (.node (gt) .nil .nil) (.node (o1571 P) .nil .nil)) (.node (gb 131) (.node (gx 233) .nil .nil) .nil)) (.node (gt) (.node (gx 105) (.node (gi) .nil .nil) (.node (o1699 P) .nil .nil)) (.node (gl 157) (.node (o1443 P) .nil .nil) .nil))) (.node (gi) (.node (gx 41) (.node (gl 93) (.node (gb 195) .nil .nil) (.node (o1635 P) .nil .nil)) (.node (gi) (.node (gt) .nil .nil) .nil)) (.node (gb 67) (.node (gt) (.node (gl 221) .nil .nil) .nil) (.node (gx 169) (.node (o1507 P) .nil .nil) .nil))))) (.node (o51 P) (.node (o83 P) (.node (gi) (.node (gx 25) (.node (gl 77) (.node (gb 179) .nil .nil) (.node (o1555 P) .nil .nil)) (.node (gi) (.node (gt) .nil .nil) .nil)) (.node (gb 51) (.node (gt) (.node (gl 205) .nil .nil) (.node (o1683 P) .nil .nil)) (.node (gx 153) (.node (o1427 P) .nil .nil) .nil))) (.node (gl 13) (.node (gt) (.node (gx 89) (.node (gi) .nil .nil) (.node (o1619 P) .nil .nil)) (.node (gl 141) (.node (gb 243) .nil .nil) .nil)) (.node (gi) (.node (gb 115) (.node (gx 217) .nil .nil) .nil) (.node (gt) (.node (o1491 P) .nil .nil) .nil)))) (.node (o115 P) (.node (gt) (.node (gi) (.node (gb 83) (.node (gx 185) .nil .nil) (.node (o1587 P) .nil .nil)) (.node (gt) (.node (gl 237) .nil .nil) .nil)) (.node (gx 57) (.node (gl 109) (.node (gb 211) .nil .nil) (.node (o1715 P) .nil .nil)) (.node (gi) (.node (o1459 P) .nil .nil) .nil))) (.node (gb 19) (.node (gl 45) (.node (gi) (.node (gt) .nil .nil) (.node (o1651 P) .nil .nil)) (.node (gb 147) (.node (gx 249) .nil .nil) .nil)) (.node (gt) (.node (gx 121) (.node (gi) .nil .nil) .nil) (.node (gl 173) (.node (o1523 P) .nil .nil) .nil)))))) (.node (o27 P) (.node (o43 P) (.node (o75 P) (.node (o139 P) (.node (gi) (.node (gb 75) (.node (gx 177) .nil .nil) (.node (o1547 P) .nil .nil)) (.node (gt) (.node (gl 229) .nil .nil) .nil)) (.node (gx 49) (.node (gl 101) (.node (gb 203) .nil .nil) (.node (o1675 P) .nil .nil)) (.node (gi) (.node (gt) .nil .nil) .nil))) (.node (gb 11) (.node (gl 37) (.node (gi) (.node (gt) .nil .nil) (.node (o1611 P) .nil .nil)) (.node (gb 139) (.node (gx 241) .nil .nil) .nil)) (.node (gt) (.node (gx 113) (.node (gi) .nil .nil) .nil) (.node (gl 165) (.node (o1483 P) .nil .nil) .nil)))) (.node (o107 P) (.node (gl 5) (.node (gt) (.node (gx 81) (.node (gi) .nil .nil) (.node (o1579 P) .nil .nil)) (.node (gl 133) (.node (gb 235) .nil .nil) .nil)) (.node (gi) (.node (gb 107) (.node (gx 209) .nil .nil) (.node (o1707 P) .nil .nil)) (.node (gt) (.node (o1451 P) .nil .nil) .nil))) (.node (gx 17) (.node (gb 43) (.node (gt) (.node (gl 197) .nil .nil) (.node (o1643 P) .nil .nil)) (.node (gx 145) (.node (gi) .nil .nil) .nil)) (.node (gl 69) (.node (gi) (.node (gt) .nil .nil) .nil) (.node (gb 171) (.node (o1515 P) .nil .nil) .nil))))) (.node (o59 P) (.node (o91 P) (.node (gx 1) (.node (gb 27) (.node (gt) (.node (gl 181) .nil .nil) (.node (o1563 P) .nil .nil)) (.node (gx 129) (.node (gi) .nil .nil) .nil)) (.node (gl 53) (.node (gi) (.node (gt) .nil .nil) (.node (o1691 P) .nil .nil)) (.node (gb 155) (.node (o1435 P) .nil .nil) .nil))) (.node (gt) (.node (gi) (.node (gb 91) (.node (gx 193) .nil .nil) (.node (o1627 P) .nil .nil)) (.node (gt) (.node (gl 245) .nil .nil) .nil)) (.node (gx 65) (.node (gl 117) (.node (gb 219) .nil .nil) .nil) (.node (gi) (.node (o1499 P) .nil .nil) .nil)))) (.node (o123 P) (.node (gi) (.node (gx 33) (.node (gl 85) (.node (gb 187) .nil .nil) (.node (o1595 P) .nil .nil)) (.node (gi) (.node (gt) .nil .nil) .nil)) (.node (gb 59) (.node (gt) (.node (gl 213) .nil .nil) (.node (o1723 P) .nil .nil)) (.node (gx 161) (.node (o1467 P) .nil .nil) .nil))) (.node (gl 21) (.node (gt) (.node (gx 97) (.node (gi) .nil .nil) (.node (o1659 P) .nil .nil)) (.node (gl 149) (.node (gb 251) .nil .nil) .nil)) (.node (gi) (.node (gb 123) (.node (gx 225) .nil .nil) .nil) (.node (gt) (.node (o1531 P) .nil .nil) .nil)))))))) (.node (boot_o_5 P) (.node (boot_o_9 P) (.node (o17 P) (.node (o33 P) (.node (o65 P) (.node (o129 P) (.node (gi) (.node (gb 73) (.node (gx 175) .nil .nil) (.node (o1537 P) .nil .nil)) (.node (gt) (.node (gl 227) .nil .nil) .nil)) (.node (gx 47) (.node (gl 99) (.node (gb 201) .nil .nil) (.node (o1665 P) .nil .nil)) (.node (gi) (.node (gt) .nil .nil) .nil))) (.node (gb 9) (.node (gl 35) (.node (gi) (.node (gt) .nil .nil) (.node (o1601 P) .nil .nil)) (.node (gb 137) (.node (gx 239) .nil .nil) .nil)) (.node (gt) (.node (gx 111) (.node (gi) .nil .nil) (.node (o1729 P) .nil .nil)) (.node (gl 163) (.node (o1473 P) .nil .nil) .nil)))) (.node (o97 P) (.node (gl 3) (.node (gt) (.node (gx 79) (.node (gi) .nil .nil) (.node (o1569 P) .nil .nil)) (.node (gl 131) (.node (gb 233) .nil .nil) .nil)) (.node (gi) (.node (gb 105) (.node (gx 207) .nil .nil) (.node (o1697 P) .nil .nil)) (.node (gt) (.node (o1441 P) .nil .nil) .nil))) (.node (gx 15) (.node (gb 41) (.node (gt) (.node (gl 195) .nil .nil) (.node (o1633 P) .nil .nil)) (.node (gx 143) (.node (gi) .nil .nil) .nil)) (.node (gl 67) (.node (gi) (.node (gt) .nil .nil) .nil) (.node (gb 169) (.node (o1505 P) .nil .nil) .nil))))) (.node (o49 P) (.node (o81 P) (.node (o145sF P) (.node (gb 25) (.node (gt) (.node (gl 179) .nil .nil) (.node (o1553 P) .nil .nil)) (.node (gx 127) (.node (gi) .nil .nil) .nil)) (.node (gl 51) (.node (gi) (.node (gt) .nil .nil) (.node (o1681 P) .nil .nil)) (.node (gb 153) (.node (gx 255) .nil .nil) .nil))) (.node (gt) (.node (gi) (.node (gb 89) (.node (gx 191) .nil .nil) (.node (o1617 P) .nil .nil)) (.node (gt) (.node (gl 243) .nil .nil) .nil)) (.node (gx 63) (.node (gl 115) (.node (gb 217) .nil .nil) .nil) (.node (gi) (.node (o1489 P) .nil .nil) .nil)))) (.node (o113 P) (.node (gi) (.node (gx 31) (.node (gl 83) (.node (gb 185) .nil .nil) (.node (o1585 P) .nil .nil)) (.node (gi) (.node (gt) .nil .nil) .nil)) (.node (gb 57) (.node (gt) (.node (gl 211) .nil .nil) (.node (o1713 P) .nil .nil)) (.node (gx 159) (.node (o1457 P) .nil .nil) .nil))) (.node (gl 19) (.node (gt) (.node (gx 95) (.node (gi) .nil .nil) (.node (o1649 P) .nil .nil)) (.node (gl 147) (.node (gb 249) .nil .nil) .nil)) (.node (gi) (.node (gb 121) (.node (gx 223) .nil .nil) .nil) (.node (gt) (.node (o1521 P) .nil .nil) .nil)))))) (.node (o25 P) (.node (o41 P) (.node (o73 P) (.node (o137 P) (.node (gx 23) (.node (gl 75) (.node (gb 177) .nil .nil) (.node (o1545 P) .nil .nil)) (.node (gi) (.node (gt) .nil .nil) .nil)) (.node (gb 49) (.node (gt) (.node (gl 203) .nil .nil) (.node (o1673 P) .nil .nil)) (.node (gx 151) (.node (gi) .nil .nil) .nil))) (.node (gl 11) (.node (gt) (.node (gx 87) (.node (gi) .nil .nil) (.node (o1609 P) .nil .nil)) (.node (gl 139) (.node (gb 241) .nil .nil) .nil)) (.node (gi) (.node (gb 113) (.node (gx 215) .nil .nil) (.node (o1737 P) .nil .nil)) (.node (gt) (.node (o1481 P) .nil .nil) .nil)))) (.node (o105 P) (.node (gt) (.node (gi) (.node (gb 81) (.node (gx 183) .nil .nil) (.node (o1577 P) .nil .nil)) (.node (gt) (.node (gl 235) .nil .nil) .nil)) (.node (gx 55) (.node (gl 107) (.node (gb 209) .nil .nil) (.node (o1705 P) .nil .nil)) (.node (gi) (.node (o1449 P) .nil .nil) .nil))) (.node (gb 17) (.node (gl 43) (.node (gi) (.node (gt) .nil .nil) (.node (o1641 P) .nil .nil)) (.node (gb 145) (.node (gx 247) .nil .nil) .nil)) (.node (gt) (.node (gx 119) (.node (gi) .nil .nil) .nil) (.node (gl 171) (.node (o1513 P) .nil .nil) .nil))))) (.node (o57 P) (.node (o89 P) (.node (gb 1) (.node (gl 27) (.node (gi) (.node (gt) .nil .nil) (.node (o1561 P) .nil .nil)) (.node (gb 129) (.node (gx 231) .nil .nil) .nil)) (.node (gt) (.node (gx 103) (.node (gi) .nil .nil) (.node (o1689 P) .nil .nil)) (.node (gl 155) (.node (o1433 P) .nil .nil) .nil))) (.node (gi) (.node (gx 39) (.node (gl 91) (.node (gb 193) .nil .nil) (.node (o1625 P) .nil .nil)) (.node (gi) (.node (gt) .nil .nil) .nil)) (.node (gb 65) (.node (gt) (.node (gl 219) .nil .nil) .nil) (.node (gx 167) (.node (o1497 P) .nil .nil) .nil)))) (.node (o121 P) (.node (gx 7) (.node (gb 33) (.node (gt) (.node (gl 187) .nil .nil) (.node (o1593 P) .nil .nil)) (.node (gx 135) (.node (gi) .nil .nil) .nil)) (.node (gl 59) (.node (gi) (.node (gt) .nil .nil) (.node (o1721 P) .nil .nil)) (.node (gb 161) (.node (o1465 P) .nil .nil) .nil))) (.node (gt) (.node (gi) (.node (gb 97) (.node (gx 199) .nil .nil) (.node (o1657 P) .nil .nil)) (.node (gt) (.node (gl 251) .nil .nil) .nil)) (.node (gx 71) (.node (gl 123) (.node (gb 225) .nil .nil) .nil) (.node (gi) (.node (o1529 P) .nil .nil) .nil))))))) (.node (o13 P) (.node (o21 P) (.node (o37 P) (.node (o69 P) (.node (o133 P) (.node (gl 23) (.node (gi) (.node (gt) .nil .nil) (.node (o1541 P) .nil .nil)) (.node (gb 125) (.node (gx 227) .nil .nil) .nil)) (.node (gt) (.node (gx 99) (.node (gi) .nil .nil) (.node (o1669 P) .nil .nil)) (.node (gl 151) (.node (gb 253) .nil .nil) .nil))) (.node (gi) (.node (gx 35) (.node (gl 87) (.node (gb 189) .nil .nil) (.node (o1605 P) .nil .nil)) (.node (gi) (.node (gt) .nil .nil) .nil)) (.node (gb 61) (.node (gt) (.node (gl 215) .nil .nil) (.node (o1733 P) .nil .nil)) (.node (gx 163) (.node (o1477 P) .nil .nil) .nil)))) (.node (o101 P) (.node (gx 3) (.node (gb 29) (.node (gt) (.node (gl 183) .nil .nil) (.node (o1573 P) .nil .nil)) (.node (gx 131) (.node (gi) .nil .nil) .nil)) (.node (gl 55) (.node (gi) (.node (gt) .nil .nil) (.node (o1701 P) .nil .nil)) (.node (gb 157) (.node (o1445 P) .nil .nil) .nil))) (.node (gt) (.node (gi) (.node (gb 93) (.node (gx 195) .nil .nil) (.node (o1637 P) .nil .nil)) (.node (gt) (.node (gl 247) .nil .nil) .nil)) (.node (gx 67) (.node (gl 119) (.node (gb 221) .nil .nil) .nil) (.node (gi) (.node (o1509 P) .nil .nil) .nil))))) (.node (o53 P) (.node (o85 P) (.node (gt) (.node (gi) (.node (gb 77) (.node (gx 179) .nil .nil) (.node (o1557 P) .nil .nil)) (.node (gt) (.node (gl 231) .nil .nil) .nil)) (.node (gx 51) (.node (gl 103) (.node (gb 205) .nil .nil) (.node (o1685 P) .nil .nil)) (.node (gi) (.node (o1429 P) .nil .nil) .nil))) (.node (gb 13) (.node (gl 39) (.node (gi) (.node (gt) .nil .nil) (.node (o1621 P) .nil .nil)) (.node (gb 141) (.node (gx 243) .nil .nil) .nil)) (.node (gt) (.node (gx 115) (.node (gi) .nil .nil) .nil) (.node (gl 167) (.node (o1493 P) .nil .nil) .nil)))) (.node (o117 P) (.node (gl 7) (.node (gt) (.node (gx 83) (.node (gi) .nil .nil) (.node (o1589 P) .nil .nil)) (.node (gl 135) (.node (gb 237) .nil .nil) .nil)) (.node (gi) (.node (gb 109) (.node (gx 211) .nil .nil) (.node (o1717 P) .nil .nil)) (.node (gt) (.node (o1461 P) .nil .nil) .nil))) (.node (gx 19) (.node (gb 45) (.node (gt) (.node (gl 199) .nil .nil) (.node (o1653 P) .nil .nil)) (.node (gx 147) (.node (gi) .nil .nil) .nil)) (.node (gl 71) (.node (gi) (.node (gt) .nil .nil) .nil) (.node (gb 173) (.node (o1525 P) .nil .nil) .nil)))))) (.node (o29 P) (.node (o45 P) (.node (o77 P) (.node (o141 P) (.node (gt) (.node (gx 75) (.node (gi) .nil .nil) (.node (o1549 P) .nil .nil)) (.node (gl 127) (.node (gb 229) .nil .nil) .nil)) (.node (gi) (.node (gb 101) (.node (gx 203) .nil .nil) (.node (o1677 P) .nil .nil)) (.node (gt) (.node (gl 255) .nil .nil) .nil))) (.node (gx 11) (.node (gb 37) (.node (gt) (.node (gl 191) .nil .nil) (.node (o1613 P) .nil .nil)) (.node (gx 139) (.node (gi) .nil .nil) .nil)) (.node (gl 63) (.node (gi) (.node (gt) .nil .nil) .nil) (.node (gb 165) (.node (o1485 P) .nil .nil) .nil)))) (.node (o109 P) (.node (gb 5) (.node (gl 31) (.node (gi) (.node (gt) .nil .nil) (.node (o1581 P) .nil .nil)) (.node (gb 133) (.node (gx 235) .nil .nil) .nil)) (.node (gt) (.node (gx 107) (.node (gi) .nil .nil) (.node (o1709 P) .nil .nil)) (.node (gl 159) (.node (o1453 P) .nil .nil) .nil))) (.node (gi) (.node (gx 43) (.node (gl 95) (.node (gb 197) .nil .nil) (.node (o1645 P) .nil .nil)) (.node (gi) (.node (gt) .nil .nil) .nil)) (.node (gb 69) (.node (gt) (.node (gl 223) .nil .nil) .nil) (.node (gx 171) (.node (o1517 P) .nil .nil) .nil))))) (.node (o61 P) (.node (o93 P) (.node (gi) (.node (gx 27) (.node (gl 79) (.node (gb 181) .nil .nil) (.node (o1565 P) .nil .nil)) (.node (gi) (.node (gt) .nil .nil) .nil)) (.node (gb 53) (.node (gt) (.node (gl 207) .nil .nil) (.node (o1693 P) .nil .nil)) (.node (gx 155) (.node (o1437 P) .nil .nil) .nil))) (.node (gl 15) (.node (gt) (.node (gx 91) (.node (gi) .nil .nil) (.node (o1629 P) .nil .nil)) (.node (gl 143) (.node (gb 245) .nil .nil) .nil)) (.node (gi) (.node (gb 117) (.node (gx 219) .nil .nil) .nil) (.node (gt) (.node (o1501 P) .nil .nil) .nil)))) (.node (o125 P) (.node (gt) (.node (gi) (.node (gb 85) (.node (gx 187) .nil .nil) (.node (o1597 P) .nil .nil)) (.node (gt) (.node (gl 239) .nil .nil) .nil)) (.node (gx 59) (.node (gl 111) (.node (gb 213) .nil .nil) (.node (o1725 P) .nil .nil)) (.node (gi) (.node (o1469 P) .nil .nil) .nil))) (.node (gb 21) (.node (gl 47) (.node (gi) (.node (gt) .nil .nil) (.node (o1661 P) .nil .nil)) (.node (gb 149) (.node (gx 251) .nil .nil) .nil)) (.node (gt) (.node (gx 123) (.node (gi) .nil .nil) .nil) (.node (gl 175) (.node (o1533 P) .nil .nil) .nil))))))))) (.node (o2sA P) (.node (boot_o_4 P) (.node (boot_o_8 P) (.node (o16 P) (.node (o32 P) (.node (o64 P) (.node (o128 P) (.node (gl 22) (.node (gi) (.node (gt) .nil .nil) (.node (o1536 P) .nil .nil)) (.node (gb 124) (.node (gx 226) .nil .nil) .nil)) (.node (gt) (.node (gx 98) (.node (gi) .nil .nil) (.node (o1664 P) .nil .nil)) (.node (gl 150) (.node (gb 252) .nil .nil) .nil))) (.node (gi) (.node (gx 34) (.node (gl 86) (.node (gb 188) .nil .nil) (.node (o1600 P) .nil .nil)) (.node (gi) (.node (gt) .nil .nil) .nil)) (.node (gb 60) (.node (gt) (.node (gl 214) .nil .nil) (.node (o1728 P) .nil .nil)) (.node (gx 162) (.node (o1472 P) .nil .nil) .nil)))) (.node (o96 P) (.node (gx 2) (.node (gb 28) (.node (gt) (.node (gl 182) .nil .nil) (.node (o1568 P) .nil .nil)) (.node (gx 130) (.node (gi) .nil .nil) .nil)) (.node (gl 54) (.node (gi) (.node (gt) .nil .nil) (.node (o1696 P) .nil .nil)) (.node (gb 156) (.node (o1440 P) .nil .nil) .nil))) (.node (gt) (.node (gi) (.node (gb 92) (.node (gx 194) .nil .nil) (.node (o1632 P) .nil .nil)) (.node (gt) (.node (gl 246) .nil .nil) .nil)) (.node (gx 66) (.node (gl 118) (.node (gb 220) .nil .nil) .nil) (.node (gi) (.node (o1504 P) .nil .nil) .nil))))) (.node (o48 P) (.node (o80 P) (.node (o144sE P) (.node (gi) (.node (gb 76) (.node (gx 178) .nil .nil) (.node (o1552 P) .nil .nil)) (.node (gt) (.node (gl 230) .nil .nil) .nil)) (.node (gx 50) (.node (gl 102) (.node (gb 204) .nil .nil) (.node (o1680 P) .nil .nil)) (.node (gi) (.node (gt) .nil .nil) .nil))) (.node (gb 12) (.node (gl 38) (.node (gi) (.node (gt) .nil .nil) (.node (o1616 P) .nil .nil)) (.node (gb 140) (.node (gx 242) .nil .nil) .nil)) (.node (gt) (.node (gx 114) (.node (gi) .nil .nil) .nil) (.node (gl 166) (.node (o1488 P) .nil .nil) .nil)))) (.node (o112 P) (.node (gl 6) (.node (gt) (.node (gx 82) (.node (gi) .nil .nil) (.node (o1584 P) .nil .nil)) (.node (gl 134) (.node (gb 236) .nil .nil) .nil)) (.node (gi) (.node (gb 108) (.node (gx 210) .nil .nil) (.node (o1712 P) .nil .nil)) (.node (gt) (.node (o1456 P) .nil .nil) .nil))) (.node (gx 18) (.node (gb 44) (.node (gt) (.node (gl 198) .nil .nil) (.node (o1648 P) .nil .nil)) (.node (gx 146) (.node (gi) .nil .nil) .nil)) (.node (gl 70) (.node (gi) (.node (gt) .nil .nil) .nil) (.node (gb 172) (.node (o1520 P) .nil .nil) .nil)))))) (.node (o24 P) (.node (o40 P) (.node (o72 P) (.node (o136 P) (.node (gt) (.node (gx 74) (.node (gi) .nil .nil) (.node (o1544 P) .nil .nil)) (.node (gl 126) (.node (gb 228) .nil .nil) .nil)) (.node (gi) (.node (gb 100) (.node (gx 202) .nil .nil) (.node (o1672 P) .nil .nil)) (.node (gt) (.node (gl 254) .nil .nil) .nil))) (.node (gx 10) (.node (gb 36) (.node (gt) (.node (gl 190) .nil .nil) (.node (o1608 P) .nil .nil)) (.node (gx 138) (.node (gi) .nil .nil) .nil)) (.node (gl 62) (.node (gi) (.node (gt) .nil .nil) (.node (o1736 P) .nil .nil)) (.node (gb 164) (.node (o1480 P) .nil .nil) .nil)))) (.node (o104 P) (.node (gb 4) (.node (gl 30) (.node (gi) (.node (gt) .nil .nil) (.node (o1576 P) .nil .nil)) (.node (gb 132) (.node (gx 234) .nil .nil) .nil)) (.node (gt) (.node (gx 106) (.node (gi) .nil .nil) (.node (o1704 P) .nil .nil)) (.node (gl 158) (.node (o1448 P) .nil .nil) .nil))) (.node (gi) (.node (gx 42) (.node (gl 94) (.node (gb 196) .nil .nil) (.node (o1640 P) .nil .nil)) (.node (gi) (.node (gt) .nil .nil) .nil)) (.node (gb 68) (.node (gt) (.node (gl 222) .nil .nil) .nil) (.node (gx 170) (.node (o1512 P) .nil .nil) .nil))))) (.node (o56 P) (.node (o88 P) (.node (gi) (.node (gx 26) (.node (gl 78) (.node (gb 180) .nil .nil) (.node (o1560 P) .nil .nil)) (.node (gi) (.node (gt) .nil .nil) .nil)) (.node (gb 52) (.node (gt) (.node (gl 206) .nil .nil) (.node (o1688 P) .nil .nil)) (.node (gx 154) (.node (o1432 P) .nil .nil) .nil))) (.node (gl 14) (.node (gt) (.node (gx 90) (.node (gi) .nil .nil) (.node (o1624 P) .nil .nil)) (.node (gl 142) (.node (gb 244) .nil .nil) .nil)) (.node (gi) (.node (gb 116) (.node (gx 218) .nil .nil) .nil) (.node (gt) (.node (o1496 P) .nil .nil) .nil)))) (.node (o120 P) (.node (gt) (.node (gi) (.node (gb 84) (.node (gx 186) .nil .nil) (.node (o1592 P) .nil .nil)) (.node (gt) (.node (gl 238) .nil .nil) .nil)) (.node (gx 58) (.node (gl 110) (.node (gb 212) .nil .nil) (.node (o1720 P) .nil .nil)) (.node (gi) (.node (o1464 P) .nil .nil) .nil))) (.node (gb 20) (.node (gl 46) (.node (gi) (.node (gt) .nil .nil) (.node (o1656 P) .nil .nil)) (.node (gb 148) (.node (gx 250) .nil .nil) .nil)) (.node (gt) (.node (gx 122) (.node (gi) .nil .nil) .nil) (.node (gl 174) (.node (o1528 P) .nil .nil) .nil))))))) (.node (o12sF P) (.node (o20 P) (.node (o36 P) (.node (o68 P) (.node (o132 P) (.node (gx 22) (.node (gl 74) (.node (gb 176) .nil .nil) (.node (o1540 P) .nil .nil)) (.node (gi) (.node (gt) .nil .nil) .nil)) (.node (gb 48) (.node (gt) (.node (gl 202) .nil .nil) (.node (o1668 P) .nil .nil)) (.node (gx 150) (.node (gi) .nil .nil) .nil))) (.node (gl 10) (.node (gt) (.node (gx 86) (.node (gi) .nil .nil) (.node (o1604 P) .nil .nil)) (.node (gl 138) (.node (gb 240) .nil .nil) .nil)) (.node (gi) (.node (gb 112) (.node (gx 214) .nil .nil) (.node (o1732 P) .nil .nil)) (.node (gt) (.node (o1476 P) .nil .nil) .nil)))) (.node (o100 P) (.node (gt) (.node (gi) (.node (gb 80) (.node (gx 182) .nil .nil) (.node (o1572 P) .nil .nil)) (.node (gt) (.node (gl 234) .nil .nil) .nil)) (.node (gx 54) (.node (gl 106) (.node (gb 208) .nil .nil) (.node (o1700 P) .nil .nil)) (.node (gi) (.node (o1444 P) .nil .nil) .nil))) (.node (gb 16) (.node (gl 42) (.node (gi) (.node (gt) .nil .nil) (.node (o1636 P) .nil .nil)) (.node (gb 144) (.node (gx 246) .nil .nil) .nil)) (.node (gt) (.node (gx 118) (.node (gi) .nil .nil) .nil) (.node (gl 170) (.node (o1508 P) .nil .nil) .nil))))) (.node (o52 P) (.node (o84 P) (.node (gb 0) (.node (gl 26) (.node (gi) (.node (gt) .nil .nil) (.node (o1556 P) .nil .nil)) (.node (gb 128) (.node (gx 230) .nil .nil) .nil)) (.node (gt) (.node (gx 102) (.node (gi) .nil .nil) (.node (o1684 P) .nil .nil)) (.node (gl 154) (.node (o1428 P) .nil .nil) .nil))) (.node (gi) (.node (gx 38) (.node (gl 90) (.node (gb 192) .nil .nil) (.node (o1620 P) .nil .nil)) (.node (gi) (.node (gt) .nil .nil) .nil)) (.node (gb 64) (.node (gt) (.node (gl 218) .nil .nil) .nil) (.node (gx 166) (.node (o1492 P) .nil .nil) .nil)))) (.node (o116 P) (.node (gx 6) (.node (gb 32) (.node (gt) (.node (gl 186) .nil .nil) (.node (o1588 P) .nil .nil)) (.node (gx 134) (.node (gi) .nil .nil) .nil)) (.node (gl 58) (.node (gi) (.node (gt) .nil .nil) (.node (o1716 P) .nil .nil)) (.node (gb 160) (.node (o1460 P) .nil .nil) .nil))) (.node (gt) (.node (gi) (.node (gb 96) (.node (gx 198) .nil .nil) (.node (o1652 P) .nil .nil)) (.node (gt) (.node (gl 250) .nil .nil) .nil)) (.node (gx 70) (.node (gl 122) (.node (gb 224) .nil .nil) .nil) (.node (gi) (.node (o1524 P) .nil .nil) .nil)))))) (.node (o28 P) (.node (o44 P) (.node (o76 P) (.node (o140 P) (.node (gb 24) (.node (gt) (.node (gl 178) .nil .nil) (.node (o1548 P) .nil .nil)) (.node (gx 126) (.node (gi) .nil .nil) .nil)) (.node (gl 50) (.node (gi) (.node (gt) .nil .nil) (.node (o1676 P) .nil .nil)) (.node (gb 152) (.node (gx 254) .nil .nil) .nil))) (.node (gt) (.node (gi) (.node (gb 88) (.node (gx 190) .nil .nil) (.node (o1612 P) .nil .nil)) (.node (gt) (.node (gl 242) .nil .nil) .nil)) (.node (gx 62) (.node (gl 114) (.node (gb 216) .nil .nil) .nil) (.node (gi) (.node (o1484 P) .nil .nil) .nil)))) (.node (o108 P) (.node (gi) (.node (gx 30) (.node (gl 82) (.node (gb 184) .nil .nil) (.node (o1580 P) .nil .nil)) (.node (gi) (.node (gt) .nil .nil) .nil)) (.node (gb 56) (.node (gt) (.node (gl 210) .nil .nil) (.node (o1708 P) .nil .nil)) (.node (gx 158) (.node (o1452 P) .nil .nil) .nil))) (.node (gl 18) (.node (gt) (.node (gx 94) (.node (gi) .nil .nil) (.node (o1644 P) .nil .nil)) (.node (gl 146) (.node (gb 248) .nil .nil) .nil)) (.node (gi) (.node (gb 120) (.node (gx 222) .nil .nil) .nil) (.node (gt) (.node (o1516 P) .nil .nil) .nil))))) (.node (o60 P) (.node (o92 P) (.node (gl 2) (.node (gt) (.node (gx 78) (.node (gi) .nil .nil) (.node (o1564 P) .nil .nil)) (.node (gl 130) (.node (gb 232) .nil .nil) .nil)) (.node (gi) (.node (gb 104) (.node (gx 206) .nil .nil) (.node (o1692 P) .nil .nil)) (.node (gt) (.node (o1436 P) .nil .nil) .nil))) (.node (gx 14) (.node (gb 40) (.node (gt) (.node (gl 194) .nil .nil) (.node (o1628 P) .nil .nil)) (.node (gx 142) (.node (gi) .nil .nil) .nil)) (.node (gl 66) (.node (gi) (.node (gt) .nil .nil) .nil) (.node (gb 168) (.node (o1500 P) .nil .nil) .nil)))) (.node (o124 P) (.node (gb 8) (.node (gl 34) (.node (gi) (.node (gt) .nil .nil) (.node (o1596 P) .nil .nil)) (.node (gb 136) (.node (gx 238) .nil .nil) .nil)) (.node (gt) (.node (gx 110) (.node (gi) .nil .nil) (.node (o1724 P) .nil .nil)) (.node (gl 162) (.node (o1468 P) .nil .nil) .nil))) (.node (gi) (.node (gx 46) (.node (gl 98) (.node (gb 200) .nil .nil) (.node (o1660 P) .nil .nil)) (.node (gi) (.node (gt) .nil .nil) .nil)) (.node (gb 72) (.node (gt) (.node (gl 226) .nil .nil) .nil) (.node (gx 174) (.node (o1532 P) .nil .nil) .nil)))))))) (.node (boot_o_6 P) (.node (boot_o_10 P) (.node (o18 P) (.node (o34 P) (.node (o66 P) (.node (o130 P) (.node (gb 22) (.node (gt) (.node (gl 176) .nil .nil) (.node (o1538 P) .nil .nil)) (.node (gx 124) (.node (gi) .nil .nil) .nil)) (.node (gl 48) (.node (gi) (.node (gt) .nil .nil) (.node (o1666 P) .nil .nil)) (.node (gb 150) (.node (gx 252) .nil .nil) .nil))) (.node (gt) (.node (gi) (.node (gb 86) (.node (gx 188) .nil .nil) (.node (o1602 P) .nil .nil)) (.node (gt) (.node (gl 240) .nil .nil) .nil)) (.node (gx 60) (.node (gl 112) (.node (gb 214) .nil .nil) (.node (o1730 P) .nil .nil)) (.node (gi) (.node (o1474 P) .nil .nil) .nil)))) (.node (o98 P) (.node (gi) (.node (gx 28) (.node (gl 80) (.node (gb 182) .nil .nil) (.node (o1570 P) .nil .nil)) (.node (gi) (.node (gt) .nil .nil) .nil)) (.node (gb 54) (.node (gt) (.node (gl 208) .nil .nil) (.node (o1698 P) .nil .nil)) (.node (gx 156) (.node (o1442 P) .nil .nil) .nil))) (.node (gl 16) (.node (gt) (.node (gx 92) (.node (gi) .nil .nil) (.node (o1634 P) .nil .nil)) (.node (gl 144) (.node (gb 246) .nil .nil) .nil)) (.node (gi) (.node (gb 118) (.node (gx 220) .nil .nil) .nil) (.node (gt) (.node (o1506 P) .nil .nil) .nil))))) (.node (o50 P) (.node (o82 P) (.node (gl 0) (.node (gt) (.node (gx 76) (.node (gi) .nil .nil) (.node (o1554 P) .nil .nil)) (.node (gl 128) (.node (gb 230) .nil .nil) .nil)) (.node (gi) (.node (gb 102) (.node (gx 204) .nil .nil) (.node (o1682 P) .nil .nil)) (.node (gt) (.node (o1426 P) .nil .nil) .nil))) (.node (gx 12) (.node (gb 38) (.node (gt) (.node (gl 192) .nil .nil) (.node (o1618 P) .nil .nil)) (.node (gx 140) (.node (gi) .nil .nil) .nil)) (.node (gl 64) (.node (gi) (.node (gt) .nil .nil) .nil) (.node (gb 166) (.node (o1490 P) .nil .nil) .nil)))) (.node (o114 P) (.node (gb 6) (.node (gl 32) (.node (gi) (.node (gt) .nil .nil) (.node (o1586 P) .nil .nil)) (.node (gb 134) (.node (gx 236) .nil .nil) .nil)) (.node (gt) (.node (gx 108) (.node (gi) .nil .nil) (.node (o1714 P) .nil .nil)) (.node (gl 160) (.node (o1458 P) .nil .nil) .nil))) (.node (gi) (.node (gx 44) (.node (gl 96) (.node (gb 198) .nil .nil) (.node (o1650 P) .nil .nil)) (.node (gi) (.node (gt) .nil .nil) .nil)) (.node (gb 70) (.node (gt) (.node (gl 224) .nil .nil) .nil) (.node (gx 172) (.node (o1522 P) .nil .nil) .nil)))))) (.node (o26 P) (.node (o42 P) (.node (o74 P) (.node (o138 P) (.node (gl 24) (.node (gi) (.node (gt) .nil .nil) (.node (o1546 P) .nil .nil)) (.node (gb 126) (.node (gx 228) .nil .nil) .nil)) (.node (gt) (.node (gx 100) (.node (gi) .nil .nil) (.node (o1674 P) .nil .nil)) (.node (gl 152) (.node (gb 254) .nil .nil) .nil))) (.node (gi) (.node (gx 36) (.node (gl 88) (.node (gb 190) .nil .nil) (.node (o1610 P) .nil .nil)) (.node (gi) (.node (gt) .nil .nil) .nil)) (.node (gb 62) (.node (gt) (.node (gl 216) .nil .nil) .nil) (.node (gx 164) (.node (o1482 P) .nil .nil) .nil)))) (.node (o106 P) (.node (gx 4) (.node (gb 30) (.node (gt) (.node (gl 184) .nil .nil) (.node (o1578 P) .nil .nil)) (.node (gx 132) (.node (gi) .nil .nil) .nil)) (.node (gl 56) (.node (gi) (.node (gt) .nil .nil) (.node (o1706 P) .nil .nil)) (.node (gb 158) (.node (o1450 P) .nil .nil) .nil))) (.node (gt) (.node (gi) (.node (gb 94) (.node (gx 196) .nil .nil) (.node (o1642 P) .nil .nil)) (.node (gt) (.node (gl 248) .nil .nil) .nil)) (.node (gx 68) (.node (gl 120) (.node (gb 222) .nil .nil) .nil) (.node (gi) (.node (o1514 P) .nil .nil) .nil))))) (.node (o58 P) (.node (o90 P) (.node (gt) (.node (gi) (.node (gb 78) (.node (gx 180) .nil .nil) (.node (o1562 P) .nil .nil)) (.node (gt) (.node (gl 232) .nil .nil) .nil)) (.node (gx 52) (.node (gl 104) (.node (gb 206) .nil .nil) (.node (o1690 P) .nil .nil)) (.node (gi) (.node (o1434 P) .nil .nil) .nil))) (.node (gb 14) (.node (gl 40) (.node (gi) (.node (gt) .nil .nil) (.node (o1626 P) .nil .nil)) (.node (gb 142) (.node (gx 244) .nil .nil) .nil)) (.node (gt) (.node (gx 116) (.node (gi) .nil .nil) .nil) (.node (gl 168) (.node (o1498 P) .nil .nil) .nil)))) (.node (o122 P) (.node (gl 8) (.node (gt) (.node (gx 84) (.node (gi) .nil .nil) (.node (o1594 P) .nil .nil)) (.node (gl 136) (.node (gb 238) .nil .nil) .nil)) (.node (gi) (.node (gb 110) (.node (gx 212) .nil .nil) (.node (o1722 P) .nil .nil)) (.node (gt) (.node (o1466 P) .nil .nil) .nil))) (.node (gx 20) (.node (gb 46) (.node (gt) (.node (gl 200) .nil .nil) (.node (o1658 P) .nil .nil)) (.node (gx 148) (.node (gi) .nil .nil) .nil)) (.node (gl 72) (.node (gi) (.node (gt) .nil .nil) .nil) (.node (gb 174) (.node (o1530 P) .nil .nil) .nil))))))) (.node (o14 P) (.node (o22 P) (.node (o38 P) (.node (o70 P) (.node (o134 P) (.node (gi) (.node (gb 74) (.node (gx 176) .nil .nil) (.node (o1542 P) .nil .nil)) (.node (gt) (.node (gl 228) .nil .nil) .nil)) (.node (gx 48) (.node (gl 100) (.node (gb 202) .nil .nil) (.node (o1670 P) .nil .nil)) (.node (gi) (.node (gt) .nil .nil) .nil))) (.node (gb 10) (.node (gl 36) (.node (gi) (.node (gt) .nil .nil) (.node (o1606 P) .nil .nil)) (.node (gb 138) (.node (gx 240) .nil .nil) .nil)) (.node (gt) (.node (gx 112) (.node (gi) .nil .nil) (.node (o1734 P) .nil .nil)) (.node (gl 164) (.node (o1478 P) .nil .nil) .nil)))) (.node (o102 P) (.node (gl 4) (.node (gt) (.node (gx 80) (.node (gi) .nil .nil) (.node (o1574 P) .nil .nil)) (.node (gl 132) (.node (gb 234) .nil .nil) .nil)) (.node (gi) (.node (gb 106) (.node (gx 208) .nil .nil) (.node (o1702 P) .nil .nil)) (.node (gt) (.node (o1446 P) .nil .nil) .nil))) (.node (gx 16) (.node (gb 42) (.node (gt) (.node (gl 196) .nil .nil) (.node (o1638 P) .nil .nil)) (.node (gx 144) (.node (gi) .nil .nil) .nil)) (.node (gl 68) (.node (gi) (.node (gt) .nil .nil) .nil) (.node (gb 170) (.node (o1510 P) .nil .nil) .nil))))) (.node (o54 P) (.node (o86 P) (.node (gx 0) (.node (gb 26) (.node (gt) (.node (gl 180) .nil .nil) (.node (o1558 P) .nil .nil)) (.node (gx 128) (.node (gi) .nil .nil) .nil)) (.node (gl 52) (.node (gi) (.node (gt) .nil .nil) (.node (o1686 P) .nil .nil)) (.node (gb 154) (.node (o1430 P) .nil .nil) .nil))) (.node (gt) (.node (gi) (.node (gb 90) (.node (gx 192) .nil .nil) (.node (o1622 P) .nil .nil)) (.node (gt) (.node (gl 244) .nil .nil) .nil)) (.node (gx 64) (.node (gl 116) (.node (gb 218) .nil .nil) .nil) (.node (gi) (.node (o1494 P) .nil .nil) .nil)))) (.node (o118 P) (.node (gi) (.node (gx 32) (.node (gl 84) (.node (gb 186) .nil .nil) (.node (o1590 P) .nil .nil)) (.node (gi) (.node (gt) .nil .nil) .nil)) (.node (gb 58) (.node (gt) (.node (gl 212) .nil .nil) (.node (o1718 P) .nil .nil)) (.node (gx 160) (.node (o1462 P) .nil .nil) .nil))) (.node (gl 20) (.node (gt) (.node (gx 96) (.node (gi) .nil .nil) (.node (o1654 P) .nil .nil)) (.node (gl 148) (.node (gb 250) .nil .nil) .nil)) (.node (gi) (.node (gb 122) (.node (gx 224) .nil .nil) .nil) (.node (gt) (.node (o1526 P) .nil .nil) .nil)))))) (.node (o30 P) (.node (o46 P) (.node (o78 P) (.node (o142 P) (.node (gx 24) (.node (gl 76) (.node (gb 178) .nil .nil) (.node (o1550 P) .nil .nil)) (.node (gi) (.node (gt) .nil .nil) .nil)) (.node (gb 50) (.node (gt) (.node (gl 204) .nil .nil) (.node (o1678 P) .nil .nil)) (.node (gx 152) (.node (gi) .nil .nil) .nil))) (.node (gl 12) (.node (gt) (.node (gx 88) (.node (gi) .nil .nil) (.node (o1614 P) .nil .nil)) (.node (gl 140) (.node (gb 242) .nil .nil) .nil)) (.node (gi) (.node (gb 114) (.node (gx 216) .nil .nil) .nil) (.node (gt) (.node (o1486 P) .nil .nil) .nil)))) (.node (o110 P) (.node (gt) (.node (gi) (.node (gb 82) (.node (gx 184) .nil .nil) (.node (o1582 P) .nil .nil)) (.node (gt) (.node (gl 236) .nil .nil) .nil)) (.node (gx 56) (.node (gl 108) (.node (gb 210) .nil .nil) (.node (o1710 P) .nil .nil)) (.node (gi) (.node (o1454 P) .nil .nil) .nil))) (.node (gb 18) (.node (gl 44) (.node (gi) (.node (gt) .nil .nil) (.node (o1646 P) .nil .nil)) (.node (gb 146) (.node (gx 248) .nil .nil) .nil)) (.node (gt) (.node (gx 120) (.node (gi) .nil .nil) .nil) (.node (gl 172) (.node (o1518 P) .nil .nil) .nil))))) (.node (o62 P) (.node (o94 P) (.node (gb 2) (.node (gl 28) (.node (gi) (.node (gt) .nil .nil) (.node (o1566 P) .nil .nil)) (.node (gb 130) (.node (gx 232) .nil .nil) .nil)) (.node (gt) (.node (gx 104) (.node (gi) .nil .nil) (.node (o1694 P) .nil .nil)) (.node (gl 156) (.node (o1438 P) .nil .nil) .nil))) (.node (gi) (.node (gx 40) (.node (gl 92) (.node (gb 194) .nil .nil) (.node (o1630 P) .nil .nil)) (.node (gi) (.node (gt) .nil .nil) .nil)) (.node (gb 66) (.node (gt) (.node (gl 220) .nil .nil) .nil) (.node (gx 168) (.node (o1502 P) .nil .nil) .nil)))) (.node (o126 P) (.node (gx 8) (.node (gb 34) (.node (gt) (.node (gl 188) .nil .nil) (.node (o1598 P) .nil .nil)) (.node (gx 136) (.node (gi) .nil .nil) .nil)) (.node (gl 60) (.node (gi) (.node (gt) .nil .nil) (.node (o1726 P) .nil .nil)) (.node (gb 162) (.node (o1470 P) .nil .nil) .nil))) (.node (gt) (.node (gi) (.node (gb 98) (.node (gx 200) .nil .nil) (.node (o1662 P) .nil .nil)) (.node (gt) (.node (gl 252) .nil .nil) .nil)) (.node (gx 72) (.node (gl 124) (.node (gb 226) .nil .nil) .nil) (.node (gi) (.node (o1534 P) .nil .nil) .nil))))))))))
def st0 (P : Params) (os : OsState) : SharedT := ⟨t0 P, 11, life0, Array.mk [], boot_drawn, boot_toks, os⟩
def stA (P : Params) (os : OsState) : SharedT := ⟨tA P, 146, life0, Array.mk [], boot_drawn, 367, os⟩
def stM (P : Params) (os : OsState) : SharedT := ⟨tM P, 786, life0, Array.mk [], boot_drawn, 751, os⟩
def stE (P : Params) (os : OsState) : SharedT := ⟨tE P, 1426, life0, Array.mk [], boot_drawn, 1135, os⟩
def stF (P : Params) (os : OsState) : SharedT := ⟨tF P, 1738, life0, Array.mk [], boot_drawn, 1593, os⟩

/-! the thread at a turn of the table's loop -/
def loopC : Code := .compLoop (lcOf (nthS pB 9)) 0 (.ref 143) (.ref 144) { scope := lcScope (lcOf (nthS pB 9)), locals := 145, globals := 3, cells := [], qual := Str.ofString "", func := none, code := .ref 13, frame := some 14, builtins := 0 }
def pos1 : Pos := ⟨43, 39, 43, 49⟩
def pos2 : Pos := ⟨43, 19, 43, 29⟩
def thL (q : Pos) (k : Result → Sem PySem.Fin) (c : Code) : Thread := ⟨denote treeTable loopC, loopC, q, [.ret k none true [.ref 145, .ref 144] c pos1 [], topFrame ⟨0, 0, 0, 0⟩]⟩
def kOf : Option (SharedT × Thread) → Result → Sem PySem.Fin
  | some (_, ⟨_, _, _, .ret k _ _ _ _ _ _ :: _⟩) => k
  | _ => fun _ => .raise .none
def cOf : Option (SharedT × Thread) → Code
  | some (_, ⟨_, _, _, .ret _ _ _ _ c _ _ :: _⟩) => c
  | _ => .block [] default
def ann0 : Option Value := some (.ref 6)
def wf (b1 b2 : Bool) (w : World) : World := (w.withFollow "comprehension-iter-twice" b2).withFollow "special-get-raises" b1
def nA (b2 : Bool) : Nat := cond b2 1646 1656
def nC (b2 : Bool) : Nat := cond b2 3010 3000
def lA (b1 b2 : Bool) (w : World) (os : OsState) : Option (SharedT × Thread) := goT treeTable PySem.Challenge.pw_bi0019_01 (wf b1 b2 w) 11 ann0 (nA b2) (st0 (wf b1 b2 w).params os) (topStub PySem.Challenge.pw_bi0019_01)
def rA (b1 b2 : Bool) (w : World) (os : OsState) : Option (SharedT × Thread) := some (stA (wf b1 b2 w).params os, thL pos1 (kOf (lA b1 b2 w os)) (cOf (lA b1 b2 w os)))
def lB (b1 b2 : Bool) (w : World) (os : OsState) (k : Result → Sem PySem.Fin) (c : Code) : Option (SharedT × Thread) := goT treeTable PySem.Challenge.pw_bi0019_01 (wf b1 b2 w) 11 ann0 12416 (stA (wf b1 b2 w).params os) (thL pos1 k c)
def rB (b1 b2 : Bool) (w : World) (os : OsState) (k : Result → Sem PySem.Fin) (c : Code) : Option (SharedT × Thread) := some (stM (wf b1 b2 w).params os, thL pos2 k c)
def lD (b1 b2 : Bool) (w : World) (os : OsState) (k : Result → Sem PySem.Fin) (c : Code) : Option (SharedT × Thread) := goT treeTable PySem.Challenge.pw_bi0019_01 (wf b1 b2 w) 11 ann0 12416 (stM (wf b1 b2 w).params os) (thL pos2 k c)
def rD (b1 b2 : Bool) (w : World) (os : OsState) (k : Result → Sem PySem.Fin) (c : Code) : Option (SharedT × Thread) := some (stE (wf b1 b2 w).params os, thL pos2 k c)
def lC (b1 b2 : Bool) (w : World) (os : OsState) : Option SharedT := runT treeTable PySem.Challenge.pw_bi0019_01 (wf b1 b2 w) 11 ann0 (nC b2) (stE (wf b1 b2 w).params os) (thL pos2 (kOf (lA b1 b2 w os)) (cOf (lA b1 b2 w os)))
def rC (b1 b2 : Bool) (w : World) (os : OsState) : Option SharedT := some (stF (wf b1 b2 w).params os)
end
end Mine
lay_quick Mine.lA Mine.rA Mine.lB Mine.rB Mine.lD Mine.rD Mine.lC Mine.rC
namespace Mine
theorem lA_self : lA = lA := rfl
theorem rA_self : rA = rA := rfl
theorem lB_self : lB = lB := rfl
theorem rB_self : rB = rB := rfl
theorem lD_self : lD = lD := rfl
theorem rD_self : rD = rD := rfl
theorem lC_self : lC = lC := rfl
theorem rC_self : rC = rC := rfl
end Mine
name_quick mlA for Mine.lA by Mine.lA_self
name_quick mrA for Mine.rA by Mine.rA_self
name_quick mlB for Mine.lB by Mine.lB_self
name_quick mrB for Mine.rB by Mine.rB_self
name_quick mlD for Mine.lD by Mine.lD_self
name_quick mrD for Mine.rD by Mine.rD_self
name_quick mlC for Mine.lC by Mine.lC_self
name_quick mrC for Mine.rC by Mine.rC_self
namespace Mine
open PySem.W.Fast
theorem qA_tt : ∀ w os, mlA true true w os = mrA true true w os := by intro w os; kernel_rfl
theorem qC_tt : ∀ w os, mlC true true w os = mrC true true w os := by intro w os; kernel_rfl
theorem qA_tf : ∀ w os, mlA true false w os = mrA true false w os := by intro w os; kernel_rfl
theorem qC_tf : ∀ w os, mlC true false w os = mrC true false w os := by intro w os; kernel_rfl
theorem qA_ft : ∀ w os, mlA false true w os = mrA false true w os := by intro w os; kernel_rfl
theorem qC_ft : ∀ w os, mlC false true w os = mrC false true w os := by intro w os; kernel_rfl
theorem qA_ff : ∀ w os, mlA false false w os = mrA false false w os := by intro w os; kernel_rfl
theorem qC_ff : ∀ w os, mlC false false w os = mrC false false w os := by intro w os; kernel_rfl
theorem qB_t : ∀ b2 w os k c, mlB true b2 w os k c = mrB true b2 w os k c := by intro b2 w os k c; kernel_rfl
theorem qD_t : ∀ b2 w os k c, mlD true b2 w os k c = mrD true b2 w os k c := by intro b2 w os k c; kernel_rfl
theorem qB_f : ∀ b2 w os k c, mlB false b2 w os k c = mrB false b2 w os k c := by intro b2 w os k c; kernel_rfl
theorem qD_f : ∀ b2 w os k c, mlD false b2 w os k c = mrD false b2 w os k c := by intro b2 w os k c; kernel_rfl
theorem sA : ∀ b1 b2 w os, lA b1 b2 w os = rA b1 b2 w os := by
  intro b1 b2 w os
  rw [mlA_eq, mrA_eq]
  cases b1 <;> cases b2
  · exact qA_ff w os
  · exact qA_ft w os
  · exact qA_tf w os
  · exact qA_tt w os
theorem sC : ∀ b1 b2 w os, lC b1 b2 w os = rC b1 b2 w os := by
  intro b1 b2 w os
  rw [mlC_eq, mrC_eq]
  cases b1 <;> cases b2
  · exact qC_ff w os
  · exact qC_ft w os
  · exact qC_tf w os
  · exact qC_tt w os
theorem sB : ∀ b1 b2 w os k c, lB b1 b2 w os k c = rB b1 b2 w os k c := by
  intro b1 b2 w os k c
  rw [mlB_eq, mrB_eq]
  cases b1
  · exact qB_f b2 w os k c
  · exact qB_t b2 w os k c
theorem sD : ∀ b1 b2 w os k c, lD b1 b2 w os k c = rD b1 b2 w os k c := by
  intro b1 b2 w os k c
  rw [mlD_eq, mrD_eq]
  cases b1
  · exact qD_f b2 w os k c
  · exact qD_t b2 w os k c
end Mine
namespace Mine
noncomputable section
def hF (P : Params) : Heap := ⟨⟨[boot_o_0 P, boot_o_1 P, o2sA P, o3sF P, boot_o_4 P, boot_o_5 P, boot_o_6 P, boot_o_7 P, boot_o_8 P, boot_o_9 P, boot_o_10 P, o11 P, o12sF P, o13 P, o14 P, o15 P, o16 P, o17 P, o18 P, o19 P, o20 P, o21 P, o22 P, o23 P, o24 P, o25 P, o26 P, o27 P, o28 P, o29 P, o30 P, o31 P, o32 P, o33 P, o34 P, o35 P, o36 P, o37 P, o38 P, o39 P, o40 P, o41 P, o42 P, o43 P, o44 P, o45 P, o46 P, o47 P, o48 P, o49 P, o50 P, o51 P, o52 P, o53 P, o54 P, o55 P, o56 P, o57 P, o58 P, o59 P, o60 P, o61 P, o62 P, o63 P, o64 P, o65 P, o66 P, o67 P, o68 P, o69 P, o70 P, o71 P, o72 P, o73 P, o74 P, o75 P, o76 P, o77 P, o78 P, o79 P, o80 P, o81 P, o82 P, o83 P, o84 P, o85 P, o86 P, o87 P, o88 P, o89 P, o90 P, o91 P, o92 P, o93 P, o94 P, o95 P, o96 P, o97 P, o98 P, o99 P, o100 P, o101 P, o102 P, o103 P, o104 P, o105 P, o106 P, o107 P, o108 P, o109 P, o110 P, o111 P, o112 P, o113 P, o114 P, o115 P, o116 P, o117 P, o118 P, o119 P, o120 P, o121 P, o122 P, o123 P, o124 P, o125 P, o126 P, o127 P, o128 P, o129 P, o130 P, o131 P, o132 P, o133 P, o134 P, o135 P, o136 P, o137 P, o138 P, o139 P, o140 P, o141 P, o142 P, o143sE P, o144sE P, o145sF P, gl 0, gi, gb 0, gt, gx 0, gl 1, gi, gb 1, gt, gx 1, gl 2, gi, gb 2, gt, gx 2, gl 3, gi, gb 3, gt, gx 3, gl 4, gi, gb 4, gt, gx 4, gl 5, gi, gb 5, gt, gx 5, gl 6, gi, gb 6, gt, gx 6, gl 7, gi, gb 7, gt, gx 7, gl 8, gi, gb 8, gt, gx 8, gl 9, gi, gb 9, gt, gx 9, gl 10, gi, gb 10, gt, gx 10, gl 11, gi, gb 11, gt, gx 11, gl 12, gi, gb 12, gt, gx 12, gl 13, gi, gb 13, gt, gx 13, gl 14, gi, gb 14, gt, gx 14, gl 15, gi, gb 15, gt, gx 15, gl 16, gi, gb 16, gt, gx 16, gl 17, gi, gb 17, gt, gx 17, gl 18, gi, gb 18, gt, gx 18, gl 19, gi, gb 19, gt, gx 19, gl 20, gi, gb 20, gt, gx 20, gl 21, gi, gb 21, gt, gx 21, gl 22, gi, gb 22, gt, gx 22, gl 23, gi, gb 23, gt, gx 23, gl 24, gi, gb 24, gt, gx 24, gl 25, gi, gb 25, gt, gx 25, gl 26, gi, gb 26, gt, gx 26, gl 27, gi, gb 27, gt, gx 27, gl 28, gi, gb 28, gt, gx 28, gl 29, gi, gb 29, gt, gx 29, gl 30, gi, gb 30, gt, gx 30, gl 31, gi, gb 31, gt, gx 31, gl 32, gi, gb 32, gt, gx 32, gl 33, gi, gb 33, gt, gx 33, gl 34, gi, gb 34, gt, gx 34, gl 35, gi, gb 35, gt, gx 35, gl 36, gi, gb 36, gt, gx 36, gl 37, gi, gb 37, gt, gx 37, gl 38, gi, gb 38, gt, gx 38, gl 39, gi, gb 39, gt, gx 39, gl 40, gi, gb 40, gt, gx 40, gl 41, gi, gb 41, gt, gx 41, gl 42, gi, gb 42, gt, gx 42, gl 43, gi, gb 43, gt, gx 43, gl 44, gi, gb 44, gt, gx 44, gl 45, gi, gb 45, gt, gx 45, gl 46, gi, gb 46, gt, gx 46, gl 47, gi, gb 47, gt, gx 47, gl 48, gi, gb 48, gt, gx 48, gl 49, gi, gb 49, gt, gx 49, gl 50, gi, gb 50, gt, gx 50, gl 51, gi, gb 51, gt, gx 51, gl 52, gi, gb 52, gt, gx 52, gl 53, gi, gb 53, gt, gx 53, gl 54, gi, gb 54, gt, gx 54, gl 55, gi, gb 55, gt, gx 55, gl 56, gi, gb 56, gt, gx 56, gl 57, gi, gb 57, gt, gx 57, gl 58, gi, gb 58, gt, gx 58, gl 59, gi, gb 59, gt, gx 59, gl 60, gi, gb 60, gt, gx 60, gl 61, gi, gb 61, gt, gx 61, gl 62, gi, gb 62, gt, gx 62, gl 63, gi, gb 63, gt, gx 63, gl 64, gi, gb 64, gt, gx 64, gl 65, gi, gb 65, gt, gx 65, gl 66, gi, gb 66, gt, gx 66, gl 67, gi, gb 67, gt, gx 67, gl 68, gi, gb 68, gt, gx 68, gl 69, gi, gb 69, gt, gx 69, gl 70, gi, gb 70, gt, gx 70, gl 71, gi, gb 71, gt, gx 71, gl 72, gi, gb 72, gt, gx 72, gl 73, gi, gb 73, gt, gx 73, gl 74, gi, gb 74, gt, gx 74, gl 75, gi, gb 75, gt, gx 75, gl 76, gi, gb 76, gt, gx 76, gl 77, gi, gb 77, gt, gx 77, gl 78, gi, gb 78, gt, gx 78, gl 79, gi, gb 79, gt, gx 79, gl 80, gi, gb 80, gt, gx 80, gl 81, gi, gb 81, gt, gx 81, gl 82, gi, gb 82, gt, gx 82, gl 83, gi, gb 83, gt, gx 83, gl 84, gi, gb 84, gt, gx 84, gl 85, gi, gb 85, gt, gx 85, gl 86, gi, gb 86, gt, gx 86, gl 87, gi, gb 87, gt, gx 87, gl 88, gi, gb 88, gt, gx 88, gl 89, gi, gb 89, gt, gx 89, gl 90, gi, gb 90, gt, gx 90, gl 91, gi, gb 91, gt, gx 91, gl 92, gi, gb 92, gt, gx 92, gl 93, gi, gb 93, gt, gx 93, gl 94, gi, gb 94, gt, gx 94, gl 95, gi, gb 95, gt, gx 95, gl 96, gi, gb 96, gt, gx 96, gl 97, gi, gb 97, gt, gx 97, gl 98, gi, gb 98, gt, gx 98, gl 99, gi, gb 99, gt, gx 99, gl 100, gi, gb 100, gt, gx 100, gl 101, gi, gb 101, gt, gx 101, gl 102, gi, gb 102, gt, gx 102, gl 103, gi, gb 103, gt, gx 103, gl 104, gi, gb 104, gt, gx 104, gl 105, gi, gb 105, gt, gx 105, gl 106, gi, gb 106, gt, gx 106, gl 107, gi, gb 107, gt, gx 107, gl 108, gi, gb 108, gt, gx 108, gl 109, gi, gb 109, gt, gx 109, gl 110, gi, gb 110, gt, gx 110, gl 111, gi, gb 111, gt, gx 111, gl 112, gi, gb 112, gt, gx 112, gl 113, gi, gb 113, gt, gx 113, gl 114, gi, gb 114, gt, gx 114, gl 115, gi, gb 115, gt, gx 115, gl 116, gi, gb 116, gt, gx 116, gl 117, gi, gb 117, gt, gx 117, gl 118, gi, gb 118, gt, gx 118, gl 119, gi, gb 119, gt, gx 119, gl 120, gi, gb 120, gt, gx 120, gl 121, gi, gb 121, gt, gx 121, gl 122, gi, gb 122, gt, gx 122, gl 123, gi, gb 123, gt, gx 123, gl 124, gi, gb 124, gt, gx 124, gl 125, gi, gb 125, gt, gx 125, gl 126, gi, gb 126, gt, gx 126, gl 127, gi, gb 127, gt, gx 127, gl 128, gi, gb 128, gt, gx 128, gl 129, gi, gb 129, gt, gx 129, gl 130, gi, gb 130, gt, gx 130, gl 131, gi, gb 131, gt, gx 131, gl 132, gi, gb 132, gt, gx 132, gl 133, gi, gb 133, gt, gx 133, gl 134, gi, gb 134, gt, gx 134, gl 135, gi, gb 135, gt, gx 135, gl 136, gi, gb 136, gt, gx 136, gl 137, gi, gb 137, gt, gx 137, gl 138, gi, gb 138, gt, gx 138, gl 139, gi, gb 139, gt, gx 139, gl 140, gi, gb 140, gt, gx 140, gl 141, gi, gb 141, gt, gx 141, gl 142, gi, gb 142, gt, gx 142, gl 143, gi, gb 143, gt, gx 143, gl 144, gi, gb 144, gt, gx 144, gl 145, gi, gb 145, gt, gx 145, gl 146, gi, gb 146, gt, gx 146, gl 147, gi, gb 147, gt, gx 147, gl 148, gi, gb 148, gt, gx 148, gl 149, gi, gb 149, gt, gx 149, gl 150, gi, gb 150, gt, gx 150, gl 151, gi, gb 151, gt, gx 151, gl 152, gi, gb 152, gt, gx 152, gl 153, gi, gb 153, gt, gx 153, gl 154, gi, gb 154, gt, gx 154, gl 155, gi, gb 155, gt, gx 155, gl 156, gi, gb 156, gt, gx 156, gl 157, gi, gb 157, gt, gx 157, gl 158, gi, gb 158, gt, gx 158, gl 159, gi, gb 159, gt, gx 159, gl 160, gi, gb 160, gt, gx 160, gl 161, gi, gb 161, gt, gx 161, gl 162, gi, gb 162, gt, gx 162, gl 163, gi, gb 163, gt, gx 163, gl 164, gi, gb 164, gt, gx 164, gl 165, gi, gb 165, gt, gx 165, gl 166, gi, gb 166, gt, gx 166, gl 167, gi, gb 167, gt, gx 167, gl 168, gi, gb 168, gt, gx 168, gl 169, gi, gb 169, gt, gx 169, gl 170, gi, gb 170, gt, gx 170, gl 171, gi, gb 171, gt, gx 171, gl 172, gi, gb 172, gt, gx 172, gl 173, gi, gb 173, gt, gx 173, gl 174, gi, gb 174, gt, gx 174, gl 175, gi, gb 175, gt, gx 175, gl 176, gi, gb 176, gt, gx 176, gl 177, gi, gb 177, gt, gx 177, gl 178, gi, gb 178, gt, gx 178, gl 179, gi, gb 179, gt, gx 179, gl 180, gi, gb 180, gt, gx 180, gl 181, gi, gb 181, gt, gx 181, gl 182, gi, gb 182, gt, gx 182, gl 183, gi, gb 183, gt, gx 183, gl 184, gi, gb 184, gt, gx 184, gl 185, gi, gb 185, gt, gx 185, gl 186, gi, gb 186, gt, gx 186, gl 187, gi, gb 187, gt, gx 187, gl 188, gi, gb 188, gt, gx 188, gl 189, gi, gb 189, gt, gx 189, gl 190, gi, gb 190, gt, gx 190, gl 191, gi, gb 191, gt, gx 191, gl 192, gi, gb 192, gt, gx 192, gl 193, gi, gb 193, gt, gx 193, gl 194, gi, gb 194, gt, gx 194, gl 195, gi, gb 195, gt, gx 195, gl 196, gi, gb 196, gt, gx 196, gl 197, gi, gb 197, gt, gx 197, gl 198, gi, gb 198, gt, gx 198, gl 199, gi, gb 199, gt, gx 199, gl 200, gi, gb 200, gt, gx 200, gl 201, gi, gb 201, gt, gx 201, gl 202, gi, gb 202, gt, gx 202, gl 203, gi, gb 203, gt, gx 203, gl 204, gi, gb 204, gt, gx 204, gl 205, gi, gb 205, gt, gx 205, gl 206, gi, gb 206, gt, gx 206, gl 207, gi, gb 207, gt, gx 207, gl 208, gi, gb 208, gt, gx 208, gl 209, gi, gb 209, gt, gx 209, gl 210, gi, gb 210, gt, gx 210, gl 211, gi, gb 211, gt, gx 211, gl 212, gi, gb 212, gt, gx 212, gl 213, gi, gb 213, gt, gx 213, gl 214, gi, gb 214, gt, gx 214, gl 215, gi, gb 215, gt, gx 215, gl 216, gi, gb 216, gt, gx 216, gl 217, gi, gb 217, gt, gx 217, gl 218, gi, gb 218, gt, gx 218, gl 219, gi, gb 219, gt, gx 219, gl 220, gi, gb 220, gt, gx 220, gl 221, gi, gb 221, gt, gx 221, gl 222, gi, gb 222, gt, gx 222, gl 223, gi, gb 223, gt, gx 223, gl 224, gi, gb 224, gt, gx 224, gl 225, gi, gb 225, gt, gx 225, gl 226, gi, gb 226, gt, gx 226, gl 227, gi, gb 227, gt, gx 227, gl 228, gi, gb 228, gt, gx 228, gl 229, gi, gb 229, gt, gx 229, gl 230, gi, gb 230, gt, gx 230, gl 231, gi, gb 231, gt, gx 231, gl 232, gi, gb 232, gt, gx 232, gl 233, gi, gb 233, gt, gx 233, gl 234, gi, gb 234, gt, gx 234, gl 235, gi, gb 235, gt, gx 235, gl 236, gi, gb 236, gt, gx 236, gl 237, gi, gb 237, gt, gx 237, gl 238, gi, gb 238, gt, gx 238, gl 239, gi, gb 239, gt, gx 239, gl 240, gi, gb 240, gt, gx 240, gl 241, gi, gb 241, gt, gx 241, gl 242, gi, gb 242, gt, gx 242, gl 243, gi, gb 243, gt, gx 243, gl 244, gi, gb 244, gt, gx 244, gl 245, gi, gb 245, gt, gx 245, gl 246, gi, gb 246, gt, gx 246, gl 247, gi, gb 247, gt, gx 247, gl 248, gi, gb 248, gt, gx 248, gl 249, gi, gb 249, gt, gx 249, gl 250, gi, gb 250, gt, gx 250, gl 251, gi, gb 251, gt, gx 251, gl 252, gi, gb 252, gt, gx 252, gl 253, gi, gb 253, gt, gx 253, gl 254, gi, gb 254, gt, gx 254, gl 255, gi, gb 255, gt, gx 255, o1426 P, o1427 P, o1428 P, o1429 P, o1430 P, o1431 P, o1432 P, o1433 P, o1434 P, o1435 P, o1436 P, o1437 P, o1438 P, o1439 P, o1440 P, o1441 P, o1442 P, o1443 P, o1444 P, o1445 P, o1446 P, o1447 P, o1448 P, o1449 P, o1450 P, o1451 P, o1452 P, o1453 P, o1454 P, o1455 P, o1456 P, o1457 P, o1458 P, o1459 P, o1460 P, o1461 P, o1462 P, o1463 P, o1464 P, o1465 P, o1466 P, o1467 P, o1468 P, o1469 P, o1470 P, o1471 P, o1472 P, o1473 P, o1474 P, o1475 P, o1476 P, o1477 P, o1478 P, o1479 P, o1480 P, o1481 P, o1482 P, o1483 P, o1484 P, o1485 P, o1486 P, o1487 P, o1488 P, o1489 P, o1490 P, o1491 P, o1492 P, o1493 P, o1494 P, o1495 P, o1496 P, o1497 P, o1498 P, o1499 P, o1500 P, o1501 P, o1502 P, o1503 P, o1504 P, o1505 P, o1506 P, o1507 P, o1508 P, o1509 P, o1510 P, o1511 P, o1512 P, o1513 P, o1514 P, o1515 P, o1516 P, o1517 P, o1518 P, o1519 P, o1520 P, o1521 P, o1522 P, o1523 P, o1524 P, o1525 P, o1526 P, o1527 P, o1528 P, o1529 P, o1530 P, o1531 P, o1532 P, o1533 P, o1534 P, o1535 P, o1536 P, o1537 P, o1538 P, o1539 P, o1540 P, o1541 P, o1542 P, o1543 P, o1544 P, o1545 P, o1546 P, o1547 P, o1548 P, o1549 P, o1550 P, o1551 P, o1552 P, o1553 P, o1554 P, o1555 P, o1556 P, o1557 P, o1558 P, o1559 P, o1560 P, o1561 P, o1562 P, o1563 P, o1564 P, o1565 P, o1566 P, o1567 P, o1568 P, o1569 P, o1570 P, o1571 P, o1572 P, o1573 P, o1574 P, o1575 P, o1576 P, o1577 P, o1578 P, o1579 P, o1580 P, o1581 P, o1582 P, o1583 P, o1584 P, o1585 P, o1586 P, o1587 P, o1588 P, o1589 P, o1590 P, o1591 P, o1592 P, o1593 P, o1594 P, o1595 P, o1596 P, o1597 P, o1598 P, o1599 P, o1600 P, o1601 P, o1602 P, o1603 P, o1604 P, o1605 P, o1606 P, o1607 P, o1608 P, o1609 P, o1610 P, o1611 P, o1612 P, o1613 P, o1614 P, o1615 P, o1616 P, o1617 P, o1618 P, o1619 P, o1620 P, o1621 P, o1622 P, o1623 P, o1624 P, o1625 P, o1626 P, o1627 P, o1628 P, o1629 P, o1630 P, o1631 P, o1632 P, o1633 P, o1634 P, o1635 P, o1636 P, o1637 P, o1638 P, o1639 P, o1640 P, o1641 P, o1642 P, o1643 P, o1644 P, o1645 P, o1646 P, o1647 P, o1648 P, o1649 P, o1650 P, o1651 P, o1652 P, o1653 P, o1654 P, o1655 P, o1656 P, o1657 P, o1658 P, o1659 P, o1660 P, o1661 P, o1662 P, o1663 P, o1664 P, o1665 P, o1666 P, o1667 P, o1668 P, o1669 P, o1670 P, o1671 P, o1672 P, o1673 P, o1674 P, o1675 P, o1676 P, o1677 P, o1678 P, o1679 P, o1680 P, o1681 P, o1682 P, o1683 P, o1684 P, o1685 P, o1686 P, o1687 P, o1688 P, o1689 P, o1690 P, o1691 P, o1692 P, o1693 P, o1694 P, o1695 P, o1696 P, o1697 P, o1698 P, o1699 P, o1700 P, o1701 P, o1702 P, o1703 P, o1704 P, o1705 P, o1706 P, o1707 P, o1708 P, o1709 P, o1710 P, o1711 P, o1712 P, o1713 P, o1714 P, o1715 P, o1716 P, o1717 P, o1718 P, o1719 P, o1720 P, o1721 P, o1722 P, o1723 P, o1724 P, o1725 P, o1726 P, o1727 P, o1728 P, o1729 P, o1730 P, o1731 P, o1732 P, o1733 P, o1734 P, o1735 P, o1736 P, o1737 P]⟩, life0⟩
def KK (P : Params) : Frag := [(nat_lit 2, o2sA P), (nat_lit 3, o3sF P), (nat_lit 53, o53 P), (nat_lit 1429, o1429 P), (nat_lit 1442, o1442 P), (nat_lit 1443, o1443 P), (nat_lit 1678, o1678 P), (nat_lit 1679, o1679 P), (nat_lit 1680, o1680 P), (nat_lit 1686, o1686 P), (nat_lit 1687, o1687 P), (nat_lit 1693, o1693 P), (nat_lit 1694, o1694 P), (nat_lit 1705, o1705 P), (nat_lit 1706, o1706 P), (nat_lit 1712, o1712 P), (nat_lit 1713, o1713 P), (nat_lit 1719, o1719 P), (nat_lit 1720, o1720 P), (nat_lit 1724, o1724 P), (nat_lit 1725, o1725 P), (nat_lit 1729, o1729 P), (nat_lit 1730, o1730 P), (nat_lit 1736, o1736 P), (nat_lit 1737, o1737 P)]
def asK : List Nat := [nat_lit 2, nat_lit 3, nat_lit 53, nat_lit 1429, nat_lit 1442, nat_lit 1443, nat_lit 1678, nat_lit 1679, nat_lit 1680, nat_lit 1686, nat_lit 1687, nat_lit 1693, nat_lit 1694, nat_lit 1705, nat_lit 1706, nat_lit 1712, nat_lit 1713, nat_lit 1719, nat_lit 1720, nat_lit 1724, nat_lit 1725, nat_lit 1729, nat_lit 1730, nat_lit 1736, nat_lit 1737]
def qv : Program := { PySem.Challenge.pw_bi0019_01 with main := { PySem.Challenge.pw_bi0019_01.main with body := [nthS pB 27, nthS pB 38] } }
def loose0 : List Str := [Str.ofString "_wall", Str.ofString "RLPException", Str.ofString "EncodingError", Str.ofString "SerializationError", Str.ofString "ListSerializationError", Str.ofString "DeserializationError", Str.ofString "ListDeserializationError", Str.ofString "ALL_BYTES", Str.ofString "big_endian_to_int", Str.ofString "int_to_big_endian", Str.ofString "BigEndianInt", Str.ofString "big_endian_int", Str.ofString "Binary", Str.ofString "binary", Str.ofString "Boolean", Str.ofString "boolean", Str.ofString "is_sedes", Str.ofString "is_sequence", Str.ofString "List", Str.ofString "CountableList", Str.ofString "encode", Str.ofString "LONG_LENGTH", Str.ofString "length_prefix", Str.ofString "infer_sedes", Str.ofString "_law_at", Str.ofString "_law_value", Str.ofString "_law_long", Str.ofString "_law_length", Str.ofString "_law_other"]
def Xt0 (s : Shared) : Bool := xlAt qv [] s && recOk [] s
theorem asK_is (P : Params) : asK = (KK P).map (·.1) := by kernel_rfl
def HK : Hook := kHook KK asK asK_is
theorem abs0 (P : Params) (os : OsState) : (st0 P os).abs = ⟨boot_heap P, Array.mk [], boot_drawn, boot_toks, os⟩ := by kernel_rfl
theorem absF (P : Params) (os : OsState) : (stF P os).abs = ⟨hF P, Array.mk [], boot_drawn, 1593, os⟩ := by kernel_rfl
theorem run_w (b1 b2 : Bool) (w : World) (os : OsState) : topRun treeTable PySem.Challenge.pw_bi0019_01 (wf b1 b2 w) 11 ann0 (nA b2 + (12416 + (12416 + nC b2))) (st0 (wf b1 b2 w).params os).abs (topStub PySem.Challenge.pw_bi0019_01) = some (stF (wf b1 b2 w).params os).abs :=
  go_top (goT_of (sA b1 b2 w os)) (go_top (goT_of (sB b1 b2 w os _ _)) (go_top (goT_of (sD b1 b2 w os _ _)) (runT_of (sC b1 b2 w os))))
def RunP (w : World) : Prop := ∀ os : OsState, topRun treeTable PySem.Challenge.pw_bi0019_01 w 11 ann0 29488 ⟨boot_heap w.params, Array.mk [], boot_drawn, boot_toks, os⟩ (topStub PySem.Challenge.pw_bi0019_01) = some ⟨hF w.params, Array.mk [], boot_drawn, 1593, os⟩
theorem run_b (b1 b2 : Bool) (w : World) : RunP (wf b1 b2 w) := by
  intro os
  rw [← abs0, ← absF]
  have e : nA b2 + (12416 + (12416 + nC b2)) = 29488 := by cases b2 <;> rfl
  rw [← e]
  exact run_w b1 b2 w os
theorem run_all (w : World) : RunP w :=
  byRow2 "special-get-raises" (P := RunP)
    (fun w => byRow2 "comprehension-iter-twice" (P := fun w => RunP (w.withFollow "special-get-raises" false)) (fun w => run_b false false w) (fun w => run_b false true w) w)
    (fun w => byRow2 "comprehension-iter-twice" (P := fun w => RunP (w.withFollow "special-get-raises" true)) (fun w => run_b true false w) (fun w => run_b true true w) w) w
def lS (w : World) : Bool × Nat × Option Value := ((boot_heap w.params).isNs mainGlobals && (Array.mk ([] : List GenState)).size == 0, (boot_heap w.params).objs.size, (boot_heap w.params).nsMap mainGlobals (Str.ofString "__annotations__"))
def rS (w : World) : Bool × Nat × Option Value := (true, 11, ann0)
def shF (P : Params) (os : OsState) : Shared := ⟨hF P, Array.mk [], boot_drawn, 1593, os⟩
def lL1 (w : World) (os : OsState) : Bool := staticsOk (importedModules PySem.Challenge.pw_bi0019_01.main.body) (boot_heap w.params) (hF w.params) && namesBound PySem.Challenge.pw_bi0019_01 (hF w.params) && gensDone (shF w.params os) && laidKept (boot_heap w.params) (hF w.params)
def lL2 (w : World) (os : OsState) := openSeen qv loose0 (importedModules PySem.Challenge.pw_bi0019_01.main.body) Xt0 true (shF w.params os)
def rL2 (w : World) (os : OsState) := openGood qv loose0
def lL3 (w : World) (os : OsState) : HK.α := HK.obs (shF w.params os)
def rL3 (w : World) (os : OsState) : HK.α := HK.val w
def lO (w : World) : Option (Heap × Array GenState × Drawn × Nat) := (fencedOpening treeTable PySem.Challenge.pw_bi0019_01 w 30000).map (fun s => (s.heap, s.gens, s.drawn, s.toks))
def rO (w : World) : Option (Heap × Array GenState × Drawn × Nat) := some (boot_heap w.params, Array.mk [], boot_drawn, boot_toks)
theorem lO_self : lO = lO := rfl
theorem rO_self : rO = rO := rfl
theorem lS_self : lS = lS := rfl
theorem lL1_self : lL1 = lL1 := rfl
theorem lL2_self : lL2 = lL2 := rfl
theorem rL2_self : rL2 = rL2 := rfl
end
end Mine
lay_quick Mine.lO Mine.rO Mine.lS Mine.lL1 Mine.lL2 Mine.rL2
name_quick mlO for Mine.lO by Mine.lO_self
name_quick mrO for Mine.rO by Mine.rO_self
name_quick mlS for Mine.lS by Mine.lS_self
name_quick mlL1 for Mine.lL1 by Mine.lL1_self
name_quick mlL2 for Mine.lL2 by Mine.lL2_self
name_quick mrL2 for Mine.rL2 by Mine.rL2_self
namespace Mine
open PySem.W.Fast
theorem qO : ∀ w, mlO w = mrO w := by intro w; kernel_rfl
theorem qS : ∀ w, mlS w = rS w := by intro w; kernel_rfl
theorem qL1 : ∀ w os, mlL1 w os = true := by intro w os; kernel_rfl
theorem qL2 : ∀ w os, mlL2 w os = mrL2 w os := by intro w os; kernel_rfl
theorem qL3 : ∀ w os, lL3 w os = rL3 w os := by intro w os; kernel_rfl
theorem left : LeftO PySem.Challenge.pw_bi0019_01 qv loose0 Xt0 HK.obs HK.val 30000 := by
  refine LeftO.of_pieces (H₀ := boot_heap) (H₁ := hF) (gs₀ := Array.mk []) (gs₁ := Array.mk []) (d₀ := boot_drawn) (d₁ := boot_drawn) (k₀ := boot_toks) (k₁ := 1593) (m₀ := 11) (ann := ann0) (M := 29488)
    ?_ ?_ (fun w os => run_all w os) (by kernel_rfl) ?_
  · intro w
    have e := qO w
    rw [← mlO_eq, ← mrO_eq] at e
    exact e
  · intro w
    have e := qS w
    rw [← mlS_eq] at e
    exact e
  · intro w
    funext os
    have e1 := qL1 w os
    have e2 := qL2 w os
    have e3 := qL3 w os
    rw [← mlL1_eq] at e1
    rw [← mlL2_eq, ← mrL2_eq] at e2
    exact Prod.ext e1 (Prod.ext e2 e3)
end Mine
set_option maxRecDepth 100000
set_option maxHeartbeats 200000
namespace Mine
theorem fill_k : (KK = KK) ∧ (PySem.Challenge.rw_bi0019_01 = PySem.Challenge.rw_bi0019_01) := by
  k_fill
  exact ⟨rfl, rfl⟩
section
variable {prog : Program} {w : World} {A : Around} {s : Shared} {K : Frag}
  {name qual : Str} {params : Arguments} {body : List Stmt} {scope : Scope} {dV kV doc pm cdv ct oc : Value} {an od : Option Addr} {osl : Array (Option Value)} {f : Addr} {args : List Value} {kw : List (Str × Value)} {binds : List (Str × Value)}
  {Q E : Value → Shared → Prop} {p : Program} {loose : List Str} {mg mb : Str → Option Value}

theorem enter (X : K.In s.heap) (T : TopRead p loose mg mb s.heap) (hroom : A.depth < recursionLimit)
    (ho : K.lookup f = some ⟨oc, od, .func (fnOf name qual params body scope dV kV doc pm an cdv ct), osl⟩) (hcd : codeIn K cdv qual = true)
    (hbind : BindsTo s (fnOf name qual params body scope dV kV doc pm an cdv ct) ⟨args, kw⟩ binds) (hloc : ∀ y ∈ binds, scope.names.lookup y.1 = some .local)
    (h : ∀ g L h₁, g = s.heap → Fr g L h₁ (fun y => binds.reverse.lookup y) → News g L h₁ [] → K.In g → TopRead p loose mg mb g →
      wpAny (model prog w) (A.deeper (envOf qual scope L f cdv)) (execs body (envOf qual scope L f cdv))
        (fun fl s' => Q (match fl with | .ret v => v | _ => .none) s') (fun _ _ => False) { s with heap := h₁, toks := s.toks + binds.length })
    (hcell : ∀ x ∈ scope.names, x.2 ≠ .cell := by decide) (hco : scope.isCoroutine = false := by rfl) (hgen : scope.isGenerator = false := by rfl) (hk : scope.kind = .function := by rfl) :
    wpAny (model prog w) A (call (.ref f) args kw) Q E s := by
  refine wpAny_call (codeAny_call_def (fd := fnOf name qual params body scope dV kV doc pm an cdv ct) (body := body) (binds := binds) hroom (X _ _ ho) rfl T.nolimit (codeRec_of X hcd) rfl hbind hcell hloc (fun h₁ hns hk₁ => ?_) hco hgen hk)
  exact wpAny_mono (h _ _ h₁ rfl ⟨hns, hk₁, Nat.le_refl _⟩ News.nil X T) (fun fl s' hl => hl) fun _ _ y => y.elim
end

def lg (i : Int) : Int := if i < 56 then 1 else if i < 256 then 2 else if i < 65536 then 3 else 4

set_option maxHeartbeats 4000000 in
theorem law_long {prog : Program} {w : World} {A : Around} {s : Shared} {Q E : Value → Shared → Prop} {p : Program} {loose : List Str} {mg mb : Str → Option Value} {i : Int} {t : Tok}
    (X : (KK w.params).In s.heap) (T : TopRead p loose mg mb s.heap) (hroom : A.depth < recursionLimit)
    (h : ∀ h' tk t', (∀ b o, s.heap.get? b = some o → h'.get? b = some o) → Q (.int (lg i) t') { s with heap := h', toks := tk }) :
    wpAny (model prog w) A (call (.ref 1720) [.int i t]) Q E s := by
  refine' enter X T hroom (binds := [(Str.ofString "inside", .int i t)]) ?ho ?hcd ?hb ?hl ?_ ?c1 ?c2 ?c3 ?c4
  case ho => k_is
  case hcd => k_is
  case hb => exact BindsTo.of_eq rfl
  case hl => exact locs rfl
  case c1 => decide
  case c2 => rfl
  case c3 => rfl
  case c4 => rfl
  intro g L h₁ hg F N X T
  subst hg
  k_steps
  all_goals (dsimp only; unfold lg at h; simp only [*, if_true, if_false] at h; exact h _ _ _ F.keep)
/-- the octets that a length wants, written from its greatest on -/
def nb (n : Int) : Nat := if n < 256 then 1 else if n < 65536 then 2 else 3
theorem nb_bits {n : Int} (h0 : 0 < n) (h1 : n < 16777216) : (((Builtin.Int.intBits n : Nat) : Int) + 7).fdiv 8 = ((nb n : Nat) : Int) := by
  have e0 := @intBits_le_iff 0 n
  have e8 := @intBits_le_iff 8 n
  have e16 := @intBits_le_iff 16 n
  have e24 := @intBits_le_iff 24 n
  simp only [Nat.reducePow] at e0 e8 e16 e24
  rw [Int.fdiv_eq_ediv_of_nonneg _ (by decide)]
  unfold nb
  split
  · omega
  · split <;> omega
theorem nb_lt {n : Int} (h1 : n < 16777216) : n < (256 : Int) ^ nb n := by
  unfold nb
  split
  · simpa using by assumption
  · split
    · have : (256 : Int) ^ 2 = 65536 := by decide
      omega
    · have : (256 : Int) ^ 3 = 16777216 := by decide
      omega

set_option maxHeartbeats 4000000 in
theorem law_at {prog : Program} {w : World} {A : Around} {s : Shared} {Q E : Value → Shared → Prop} {p : Program} {loose : List Str} {mg mb : Str → Option Value} {l : Addr} {vs : List Value} {ns : List Int} {k d : Int} {t t' : Tok}
    (X : (KK w.params).In s.heap) (T : TopRead p loose mg mb s.heap) (hroom : A.depth < recursionLimit) (hl : s.heap.IsList l vs.toArray) (hi : IntsAre vs ns) (hz : vs.length ≤ 64) (hk0 : 0 ≤ k) (hk1 : k ≤ 64)
    (h : ∀ h' tk i t', (∀ b o, s.heap.get? b = some o → h'.get? b = some o) → Q (.int i t') { s with heap := h', toks := tk }) :
    wpAny (model prog w) A (call (.ref 1706) [.ref l, .int k t, .int d t']) Q E s := by
  refine' enter X T hroom (binds := [(Str.ofString "script", .ref l), (Str.ofString "k", .int k t), (Str.ofString "other", .int d t')]) ?ho ?hcd ?hb ?hl ?_ ?c1 ?c2 ?c3 ?c4
  case ho => k_is
  case hcd => k_is
  case hb => exact BindsTo.of_eq rfl
  case hl => exact locs rfl
  case c1 => decide
  case c2 => rfl
  case c3 => rfl
  case c4 => rfl
  intro g L h₁ hg F N X T
  subst hg
  k_steps
  refine len_list (F.lst hl) (by simp only [List.size_toArray]; omega) ?_
  k_steps
  all_goals (dsimp only; exact h _ _ _ _ F.keep)

set_option maxHeartbeats 4000000 in
theorem int_to_big {prog : Program} {w : World} {A : Around} {s : Shared} {Q E : Value → Shared → Prop} {p : Program} {loose : List Str} {mg mb : Str → Option Value} {n : Int} {t : Tok}
    (X : (KK w.params).In s.heap) (T : TopRead p loose mg mb s.heap) (hroom : A.depth < recursionLimit) (h0 : 0 < n) (h1 : n < 16777216)
    (h : ∀ h' tk b t', (∀ b o, s.heap.get? b = some o → h'.get? b = some o) → (b.size : Int) = nb n → Q (.bytes b t') { s with heap := h', toks := tk }) :
    wpAny (model prog w) A (call (.ref 1443) [.int n t]) Q E s := by
  refine' enter X T hroom (binds := [(Str.ofString "value", .int n t)]) ?ho ?hcd ?hb ?hl ?_ ?c1 ?c2 ?c3 ?c4
  case ho => k_is
  case hcd => k_is
  case hb => exact BindsTo.of_eq rfl
  case hl => exact locs rfl
  case c1 => decide
  case c2 => rfl
  case c3 => rfl
  case c4 => rfl
  intro g L h₁ hg F N X T
  subst hg
  k_steps
  · rw [nb_bits h0 h1]
    refine KTBy.to_big (k := nb n) (by unfold nb; split <;> (try split) <;> omega) rfl (by omega) (nb_lt h1) fun b t' k' hb hk => ?_
    refine h _ _ _ _ F.keep ?_
    rw [← KBw.ints_length, hb, hk]
  · rename_i hz
    rw [nb_bits h0 h1] at hz
    exfalso
    revert hz
    unfold nb
    split <;> (try split) <;> omega

theorem seq_ix {k : Int} {n : Nat} (h0 : 0 ≤ k) (h1 : k < n) : seqIndex? k n = some k.toNat := by
  unfold seqIndex?
  have e : (if k < 0 then k + (n : Int) else k) = k := if_neg (by omega)
  simp only [e]
  rw [if_pos (by simp only [Bool.and_eq_true, decide_eq_true_eq]; exact ⟨h0, h1⟩)]
/-- the table's items: one octet each -/
def tabOk (K : Frag) : Bool := match K.lookup 1429 with
  | some ⟨.type "tuple", _, .seq items _, _⟩ => items.size == 256 && items.all (fun v => match v with | .bytes b _ => b.size == 1 | _ => false)
  | _ => false
theorem tab_item {K : Frag} {h : Heap} (X : K.In h) (e : tabOk K = true) : ∃ items, IsTup h 1429 items ∧ items.size = 256 ∧ ∀ j, j < 256 → ∃ b t, items[j]? = some (.bytes b t) ∧ b.size = 1 := by
  unfold tabOk at e
  split at e
  · rename_i o d items n sl hk
    obtain ⟨e1, e2⟩ := Bool.and_eq_true_iff.mp e
    have hs : items.size = 256 := beq_iff_eq.mp e1
    refine ⟨items, ⟨_, X _ _ hk, rfl, _, rfl⟩, hs, fun j hj => ?_⟩
    have hj' : j < items.size := hs ▸ hj
    have q := Array.all_eq_true.mp e2 j hj'
    rw [Array.getElem?_eq_getElem hj']
    revert q
    split
    · rename_i b t he
      intro q
      exact ⟨b, t, by rw [he], beq_iff_eq.mp q⟩
    · intro q; cases q
  · cases e
theorem tab_ok (P : Params) : tabOk (KK P) = true := by kernel_rfl

end Mine
namespace Mine
theorem fill_k2 : (KK = KK) ∧ (PySem.Challenge.rw_bi0019_01 = PySem.Challenge.rw_bi0019_01) := by
  k_fill
  exact ⟨rfl, rfl⟩
set_option maxHeartbeats 4000000 in
theorem length_prefix {prog : Program} {w : World} {A : Around} {s : Shared} {Q E : Value → Shared → Prop} {p : Program} {loose : List Str} {mg mb : Str → Option Value} {n o : Int} {t t' : Tok}
    (X : (KK w.params).In s.heap) (T : TopRead p loose mg mb s.heap) (hroom : A.depth < recursionLimit) (hroom' : A.depth + 1 < recursionLimit) (h0 : 0 ≤ n) (h1 : n < 16777216) (ho : o = 128 ∨ o = 192)
    (h : ∀ h' tk b t', (∀ b o, s.heap.get? b = some o → h'.get? b = some o) → (b.size : Int) = lg n → Q (.bytes b t') { s with heap := h', toks := tk }) :
    wpAny (model prog w) A (call (.ref 1694) [.int n t, .int o t']) Q E s := by
  refine' enter X T hroom (binds := [(Str.ofString "length", .int n t), (Str.ofString "offset", .int o t')]) ?ho ?hcd ?hb ?hl ?_ ?c1 ?c2 ?c3 ?c4
  case ho => k_is
  case hcd => k_is
  case hb => exact BindsTo.of_eq rfl
  case hl => exact locs rfl
  case c1 => decide
  case c2 => rfl
  case c3 => rfl
  case c4 => rfl
  intro g L h₁ hg F N X T
  subst hg
  have room1 : ∀ env, (A.deeper env).depth < recursionLimit := fun _ => hroom'
  obtain ⟨items, ht, hsz, hit⟩ := tab_item X (tab_ok w.params)
  k_steps
  · obtain ⟨b, tb, hb, hs⟩ := hit (o + n).toNat (by omega)
    refine item_tuple (IsTup.keeps ht F.keep) (by omega) (by omega) (j := (o + n).toNat) (by rw [hsz]; exact seq_ix (by omega) (by omega)) hb ?_
    refine h _ _ _ _ F.keep ?_
    unfold lg
    rw [if_pos (by assumption), hs]; rfl
  · refine int_to_big (X.keeps F.keep) (T.keeps F.keep) (room1 _) (by omega) h1 fun h' tk' b t' hk hb => ?_
    have F' := F.keeps hk
    have N' := N.grown hk
    clear F N
    have hb3 : b.size ≤ 3 := by have := hb; unfold nb at this; (split at this <;> (try split at this) <;> omega)
    have hnb : (nb n : Int) = lg n - 1 := by unfold nb lg; (repeat' split) <;> omega
    k_steps
    rename Fr _ _ _ _ => F2
    obtain ⟨c, tc, hc, hs⟩ := hit (o + 56 - 1 + (b.size : Int)).toNat (by omega)
    refine item_tuple (IsTup.keeps ht F2.keep) (by omega) (by omega) (j := (o + 56 - 1 + (b.size : Int)).toNat) (by rw [hsz]; exact seq_ix (by omega) (by omega)) hc ?_
    k_steps
    refine KBy.add_bytes (by omega) fun t' k => ?_
    refine h _ _ _ _ F2.keep ?_
    rw [Array.size_append]
    omega
end Mine
namespace Mine
theorem fill_k3 : (KK = KK) ∧ (PySem.Challenge.rw_bi0019_01 = PySem.Challenge.rw_bi0019_01) := by
  k_fill
  exact ⟨rfl, rfl⟩
/-- how long a leaf's coding is -/
def leafLen (ks : List Int) : Int := if (ks.length : Int) = 1 ∧ ks.getD 0 0 < 128 then 1 else lg ks.length + ks.length
def Leaf (v : Value) (n : Int) : Prop := ∃ b t ks, v = .bytes b t ∧ KBw.bInts b = ks ∧ ks.length ≤ 400 ∧ n = leafLen ks
/-- a tree of at most d rows above one another, and the length of its coding -/
def Val (h : Heap) : Nat → Value → Int → Prop
  | 0, v, n => Leaf v n
  | d + 1, v, n => Leaf v n ∨ ∃ (a : Addr) (vs : List Value) (ns : List Int), v = .ref a ∧ h.IsList a vs.toArray ∧ vs.length ≤ 3 ∧ vs.length = ns.length ∧
      (∀ (i : Nat) (x : Value), vs[i]? = some x → ∃ m : Int, ns[i]? = some m ∧ Val h d x m) ∧ n = lg ns.sum + ns.sum
theorem Val.keeps {h h' : Heap} (k : ∀ b o, h.get? b = some o → h'.get? b = some o) : ∀ {d : Nat} {v : Value} {n : Int}, Val h d v n → Val h' d v n
  | 0, _, _, x => by unfold Val at x ⊢; exact x
  | d + 1, v, n, .inl x => .inl x
  | d + 1, v, n, .inr ⟨a, vs, ns, e, ⟨o, g, r⟩, hs, hl, x, hn⟩ => .inr ⟨a, vs, ns, e, ⟨o, k _ _ g, r⟩, hs, hl, fun i y e => let ⟨m, em, z⟩ := x i y e; ⟨m, em, z.keeps k⟩, hn⟩
theorem lg_pos (n : Int) : 1 ≤ lg n ∧ lg n ≤ 4 := by unfold lg; (repeat' split) <;> omega
theorem leaf_bound {v : Value} {n : Int} (x : Leaf v n) : 0 ≤ n ∧ n ≤ 404 := by
  obtain ⟨b, t, ks, rfl, hb, hl, rfl⟩ := x
  have := lg_pos ks.length
  unfold leafLen
  split <;> omega
theorem sum_bound {B : Int} : ∀ (ns : List Int), (∀ m ∈ ns, 0 ≤ m ∧ m ≤ B) → 0 ≤ ns.sum ∧ ns.sum ≤ B * ns.length
  | [], _ => by simp
  | m :: r, h => by
    have a := h m List.mem_cons_self
    have b := sum_bound r fun x hx => h x (List.mem_cons_of_mem _ hx)
    have e : B * ((m :: r).length : Int) = B * (r.length : Int) + B := by rw [List.length_cons, Int.natCast_add, Int.mul_add]; simp
    rw [List.sum_cons, e]
    omega
def bnd : Nat → Int
  | 0 => 404
  | d + 1 => 3 * bnd d + 404
theorem bnd_pos : ∀ d, 404 ≤ bnd d
  | 0 => by decide
  | d + 1 => by have := bnd_pos d; simp only [bnd]; omega
theorem bnd_mono : ∀ {d e : Nat}, d ≤ e → bnd d ≤ bnd e := by
  intro d e h
  induction h with
  | refl => exact Int.le_refl _
  | @step m _ ih => refine Int.le_trans ih ?_; simp only [bnd]; have := bnd_pos m; omega
theorem val_bound {h : Heap} : ∀ {d : Nat} {v : Value} {n : Int}, Val h d v n → 0 ≤ n ∧ n ≤ bnd d
  | 0, _, _, x => by unfold Val at x; exact leaf_bound x
  | d + 1, v, n, .inl x => by have := leaf_bound x; have := bnd_pos (d + 1); omega
  | d + 1, v, n, .inr ⟨a, vs, ns, e, hl, hs, hls, x, hn⟩ => by
    have hm : ∀ m ∈ ns, 0 ≤ m ∧ m ≤ bnd d := by
      intro m hm
      obtain ⟨i, hi, rfl⟩ := List.getElem_of_mem hm
      have hi' : i < vs.length := by omega
      obtain ⟨m, em, z⟩ := x i vs[i] (List.getElem?_eq_getElem hi')
      rw [List.getElem?_eq_getElem hi] at em
      cases em
      exact val_bound z
    have b := sum_bound ns hm
    have c := lg_pos ns.sum
    have p := bnd_pos d
    have q : bnd d * ns.length ≤ bnd d * 3 := Int.mul_le_mul_of_nonneg_left (by omega) (by omega)
    simp only [bnd]
    omega

set_option maxHeartbeats 4000000 in
theorem law_length_leaf {prog : Program} {w : World} {A : Around} {s : Shared} {Q E : Value → Shared → Prop} {p : Program} {loose : List Str} {mg mb : Str → Option Value} {v : Value} {n : Int}
    (X : (KK w.params).In s.heap) (T : TopRead p loose mg mb s.heap) (hroom : A.depth < recursionLimit) (hroom' : A.depth + 1 < recursionLimit) (hv : Leaf v n)
    (h : ∀ h' tk t', (∀ b o, s.heap.get? b = some o → h'.get? b = some o) → Q (.int n t') { s with heap := h', toks := tk }) :
    wpAny (model prog w) A (call (.ref 1725) [v]) Q E s := by
  obtain ⟨b, t, ks, rfl, hk, hb, rfl⟩ := hv
  refine' enter X T hroom (binds := [(Str.ofString "value", .bytes b t)]) ?ho ?hcd ?hb ?hl ?_ ?c1 ?c2 ?c3 ?c4
  case ho => k_is
  case hcd => k_is
  case hb => exact BindsTo.of_eq rfl
  case hl => exact locs rfl
  case c1 => decide
  case c2 => rfl
  case c3 => rfl
  case c4 => rfl
  intro g L h₁ hg F N X T
  subst hg
  k_steps
  all_goals first
    | (rw [leafLen, if_pos ⟨by assumption, by assumption⟩] at h; exact h _ _ _ F.keep)
    | (have e : leafLen ks = lg ks.length + ks.length := if_neg (fun x => by have x1 := x.1; have x2 := x.2; first | exact absurd x1 (by assumption) | exact absurd x2 (by assumption))
       rw [e] at h
       refine law_long (X.keeps F.keep) (T.keeps F.keep) hroom' fun h' tk' t' hk' => ?_
       have F' := F.keeps hk'
       have N' := N.grown hk'
       clear F N
       k_steps
       exact h _ _ _ F'.keep)
end Mine
namespace Mine
theorem fill_k4 : (KK = KK) ∧ (PySem.Challenge.rw_bi0019_01 = PySem.Challenge.rw_bi0019_01) := by
  k_fill
  exact ⟨rfl, rfl⟩
section
variable {prog : Program} {w : World} {A : Around} {h₀ : Heap} {L : Addr} {m : Str → Option Value} {env : Env} {elt : Expr} {x : Str} {scope : Scope} {cl : List (Str × Addr)} {s : Shared} {S : List (Addr × Obj) → Prop} {P : Nat → Value → Prop} {Fin : List Value → List (Addr × Obj) → Prop} {news : List (Addr × Obj)}
theorem rest_any {n : Nat} (J : Nat → List Value → List (Addr × Obj) → Prop)
    (turn : ∀ i v I oI C oC D m₂ ys nw h tk (E' : Value → Shared → Prop), P i v → i < n → J i ys nw → LCg.NsObj oC m₂ → m₂ x = some v → Fr h₀ L h m → News h₀ L h ((I, oI) :: (C, oC) :: (D, LCg.lst ys) :: nw) → LCg.Off3 I C D nw → ((@Ne Nat I C) ∧ (@Ne Nat I D) ∧ (@Ne Nat C D)) →
      wpAny (model prog w) A (eval elt (compEnvC scope cl C env)) (LCg.CompEnd h₀ L m { s with heap := h, toks := tk } I oI C oC D (LCg.lst ys) S (fun y nw' => J (i + 1) (ys ++ [y]) nw')) E' { s with heap := h, toks := tk })
    (j0 : J 0 [] news) (fin : ∀ ys nw, J n ys nw → Fin ys nw) : LCg.CompRest prog w A h₀ L m env elt x scope cl s S P Fin n 0 [] news := by
  have key : ∀ (j i : Nat) (ys : List Value) (nw : List (Addr × Obj)), i + j = n → J i ys nw → LCg.CompRest prog w A h₀ L m env elt x scope cl s S P Fin j i ys nw := by
    intro j
    induction j with
    | zero =>
      intro i ys nw hi hy
      have e : i = n := by omega
      subst e
      exact LCg.CompRest.zero (fin ys nw hy)
    | succ j ih =>
      intro i ys nw hi hy
      refine LCg.CompRest.succ ?_
      intro v I oI C oC D m₂ h tk E' hv hC hx F N off ne
      refine wpAny_mono (turn i v I oI C oC D m₂ ys nw h tk E' hv (by omega) hy hC hx F N off ne) (fun y s₂ hq => ?_) fun _ _ e => e
      obtain ⟨h', tk', nw', e, F', N', off', hS, hn⟩ := hq
      exact ⟨h', tk', nw', e, F', N', off', hS, ih (i + 1) _ _ (by omega) hn⟩
  exact key n 0 [] news (by omega) j0
end
set_option maxHeartbeats 4000000 in
theorem law_length : ∀ (d : Nat) {prog : Program} {w : World} {A : Around} {s : Shared} {Q E : Value → Shared → Prop} {p : Program} {loose : List Str} {mg mb : Str → Option Value} {v : Value} {n : Int}
    (X : (KK w.params).In s.heap) (T : TopRead p loose mg mb s.heap) (hroom : A.depth < recursionLimit) (hroom' : A.depth + d + 1 < recursionLimit) (hd : d ≤ 8) (hh : A.handled = none) (hv : Val s.heap d v n)
    (h : ∀ h' tk t', (∀ b o, s.heap.get? b = some o → h'.get? b = some o) → Q (.int n t') { s with heap := h', toks := tk }),
    wpAny (model prog w) A (call (.ref 1725) [v]) Q E s := by
  intro d
  induction d with
  | zero =>
    intro prog w A s Q E p loose mg mb v n X T hroom hroom' hd hh hv h
    unfold Val at hv
    exact law_length_leaf X T hroom (by omega) hv h
  | succ d ih =>
    intro prog w A s Q E p loose mg mb v n X T hroom hroom' hd hh hv h
    rcases hv with hv | ⟨a, vs, ns, rfl, hl, hs, hls, hx, rfl⟩
    · exact law_length_leaf X T hroom (by omega) hv h
    refine' enter X T hroom (binds := [(Str.ofString "value", .ref a)]) ?ho ?hcd ?hb ?hl ?_ ?c1 ?c2 ?c3 ?c4
    case ho => k_is
    case hcd => k_is
    case hb => exact BindsTo.of_eq rfl
    case hl => exact locs rfl
    case c1 => decide
    case c2 => rfl
    case c3 => rfl
    case c4 => rfl
    intro g L h₁ hg F N X T
    subst hg
    repeat' ((fail_if_success (with_reducible show wpAny _ _ (eval (Expr.ListComp _ _ _ _) _) _ _ _)); first | (k_unfold; (try dsimp only)) | (k_end; kc_close) | walk1 | (dsimp only; walk1) | (leave1; walk_say "STEP leave1"; (try dsimp only)) | fail "no step")
    refine LCg.ListComp_U F rfl (by decide) rfl (by decide) rfl ?_
    repeat' ((fail_if_success (with_reducible show LCg.CompSrc _ _ _ _ _ _ _ _ _ _ _ _ _ _)); walk1)
    refine LCg.CompSrc.base hh F N hl (by simp only [List.size_toArray, sizeLine_eq]; omega) fun g' => ?_
    refine rest_any (fun i ys nw => nw = [] ∧ IntsAre ys (ns.take i)) ?_ ⟨rfl, .nil⟩ ?_
    · intro i v I oI C oC D m₂ ys nw h tk E' hv hi hJ hC hx2 F' N' off ne
      obtain ⟨rfl, hJ⟩ := hJ
      obtain ⟨k, hk, hV⟩ := hx i v (by simpa using hv)
      k_steps
      rename Fr _ _ _ _ => F2
      rename News _ _ _ _ => N2
      refine ih (X.keeps F2.keep) (T.keeps F2.keep) (by show A.depth + 1 < _; omega) (by show A.depth + 1 + d + 1 < _; omega) (by omega) hh (hV.keeps F2.keep) fun h' tk' t' hkp => ?_
      refine LCg.CompEnd.intro (F2.keeps hkp) (N2.grown hkp) [] (fun _ x => x) True.intro (.inl hl) ⟨rfl, ?_⟩
      rw [List.take_add_one, hk]
      simpa using IntsAre.append hJ (.cons k t' .nil)
    · intro ys nw hJ
      obtain ⟨rfl, hJ⟩ := hJ
      clear F N
      intro D h' tk' F' N' o1
      rw [show ns.take vs.toArray.size = ns from List.take_of_length_le (by simp only [List.size_toArray]; omega)] at hJ
      k_steps
      refine sumK hh F' N' (N'.isList List.mem_cons_self) hJ fun h2 tk2 t2 F2 N2 => ?_
      clear F' N'
      k_steps
      rename Fr _ _ _ _ => F3
      rename News _ _ _ _ => N3
      refine law_long (X.keeps F3.keep) (T.keeps F3.keep) (by show A.depth + 1 < _; omega) fun h' tk' t' hk' => ?_
      have F4 := F3.keeps hk'
      have N4 := N3.grown hk'
      clear F3 N3
      k_steps
      exact h _ _ _ F4.keep
end Mine
namespace Mine
/-- from s to s': the heap kept but at wr, the generators before kept, the new ones without a cleanup -/
structure Gr (wr : List Addr) (s s' : Shared) : Prop where
  heap : ∀ b o, b ∉ wr → s.heap.get? b = some o → s'.heap.get? b = some o
  size : s.gens.size ≤ s'.gens.size
  gens : ∀ k, k < s.gens.size → s'.gens[k]? = s.gens[k]?
  bare : AllBare s.gens → AllBare s'.gens
  drawn : s'.drawn = s.drawn
  os : s'.os = s.os
namespace Gr
variable {wr wr' : List Addr} {s s' s'' : Shared}
theorem refl : Gr wr s s := ⟨fun _ _ _ e => e, Nat.le_refl _, fun _ _ => rfl, id, rfl, rfl⟩
theorem trans (x : Gr wr s s') (y : Gr wr s' s'') : Gr wr s s'' :=
  ⟨fun b o hb e => y.heap b o hb (x.heap b o hb e), Nat.le_trans x.size y.size, fun k hk => (y.gens k (Nat.lt_of_lt_of_le hk x.size)).trans (x.gens k hk), fun h => y.bare (x.bare h), y.drawn.trans x.drawn, y.os.trans x.os⟩
theorem mono (x : Gr wr s s') (h : ∀ b ∈ wr, b ∈ wr') : Gr wr' s s' := ⟨fun b o hb e => x.heap b o (fun hm => hb (h b hm)) e, x.size, x.gens, x.bare, x.drawn, x.os⟩
theorem step (x : Gr wr s s') {h' : Heap} {tk : Nat} (hk : ∀ b o, b ∉ wr → s'.heap.get? b = some o → h'.get? b = some o) : Gr wr s { s' with heap := h', toks := tk } :=
  ⟨fun b o hb e => hk b o hb (x.heap b o hb e), x.size, x.gens, x.bare, x.drawn, x.os⟩
theorem of_keep {h' : Heap} {tk : Nat} (hk : ∀ b o, s.heap.get? b = some o → h'.get? b = some o) : Gr wr s { s with heap := h', toks := tk } :=
  Gr.refl.step fun b o _ e => hk b o e
end Gr

/-- as Gr, with the g-th generator's own state let free -/
def GGrow (g : Nat) (a b : Array GenState) : Prop := a.size ≤ b.size ∧ (∀ k, k < a.size → k ≠ g → b[k]? = a[k]?) ∧ (AllBare a → AllBare b)
theorem GGrow.refl (g : Nat) (a : Array GenState) : GGrow g a a := ⟨Nat.le_refl _, fun _ _ _ => rfl, id⟩
theorem GGrow.trans {g : Nat} {a b c : Array GenState} (x : GGrow g a b) (y : GGrow g b c) : GGrow g a c :=
  ⟨Nat.le_trans x.1 y.1, fun k hk hg => (y.2.1 k (Nat.lt_of_lt_of_le hk x.1) hg).trans (x.2.1 k hk hg), fun h => y.2.2 (x.2.2 h)⟩
theorem allBare_set {s : Shared} {g : Nat} {gs : GenState} (x : AllBare s.gens) (hb : gs.bare = true) : AllBare (s.setGen g gs).gens := by
  intro y hy
  obtain ⟨i, hi, rfl⟩ := Array.mem_iff_getElem.mp hy
  by_cases e : i = g
  · subst e
    have hi' : i < s.gens.size := by simpa [Shared.setGen] using hi
    have : (s.setGen i gs).gens[i] = gs := by simp [Shared.setGen]
    rw [this]; exact hb
  · have h1 : (s.setGen g gs).gens[i]? = s.gens[i]? := (GenOnly.setGen s g gs).2 i e
    rw [Array.getElem?_eq_getElem hi] at h1
    obtain ⟨hi', e'⟩ := Array.getElem?_eq_some_iff.mp h1.symm
    exact e' ▸ x _ (Array.getElem_mem hi')
theorem GGrow.of_set (s : Shared) (g : Nat) {gs : GenState} (hb : gs.bare = true) : GGrow g s.gens (s.setGen g gs).gens :=
  ⟨Nat.le_of_eq (GenOnly.setGen s g gs).1.symm, fun k _ hk => (GenOnly.setGen s g gs).2 k hk, fun h => allBare_set h hb⟩
theorem Gr.ggrow {wr : List Addr} {s s' : Shared} (x : Gr wr s s') (g : Nat) : GGrow g s.gens s'.gens := ⟨x.size, fun k hk _ => x.gens k hk, x.bare⟩

def gProto (C I : Addr) (fp : List Addr) (n₀ : Nat) (F : Nat → Value → Prop) : Protocol := fun m s₀ v s kap =>
  F (n₀ - 1 - m) v ∧ Gr [C, I] s₀ s ∧ ∀ s'' : Shared, (∀ b ∈ C :: fp, ∀ o, s.heap.get? b = some o → s''.heap.get? b = some o) → kap (.send .none) s''
abbrev gEnd (C I : Addr) : GenEnd := fun n s₀ r s₁ => r = .ok .next ∧ (n = 0 ∧ Gr [C, I] s₀ s₁)

section
variable {prog : Program} {w : World} {A : Around}

/-- an element's walk: what it gives, and that it only adds -/
def EltOk (prog : Program) (w : World) (N : Nat) (cenv : Env) (x : Str) (elt : Expr) (fp : List Addr) (I : Addr) (Pv F : Nat → Value → Prop) (href : Heap) : Prop :=
  ∀ (A' : Around) E' i v (s₂ : Shared) m₂, A'.handled = none → A'.depth ≤ N → Pv i v → s₂.heap.Ns cenv.locals m₂ → m₂ x = some v → (∀ b ∈ fp, b ≠ I → ∀ o, href.get? b = some o → s₂.heap.get? b = some o) →
    wpAny (model prog w) A' (eval elt cenv) (fun y s₃ => F i y ∧ Gr [] s₂ s₃) E' s₂

theorem g_loop {elt iter : Expr} {x : Str} {px : Pos} {scope : Scope} {pos : Pos} {I : Addr} {fp : List Addr} {n₀ N : Nat} {Pv : Nat → Value → Prop} {St₀ : Nat → Heap → Prop} {cenv : Env}
    (hh : A.handled = none) (hN : A.depth + 1 ≤ N) (W₀ : ∀ A' : Around, A'.handled = none → Walks prog w A' I fp [I] n₀ Pv St₀) (F : Nat → Value → Prop) (href : Heap)
    (hx : cenv.kindOf x = some .local) (hp : (cenv.scope.kind == .class || (cenv.scope.kind == .module && cenv.locals != cenv.globals)) = false)
    (hco : cenv.scope.isCoroutine = false) (hCf : cenv.locals ∉ fp) (hq : EltOk prog w N cenv x elt fp I Pv F href) :
    ∀ (k i : Nat) (s₀ s : Shared) (m : Str → Option Value), n₀ - i = k → i ≤ n₀ → St₀ i s.heap → s.heap.Ns cenv.locals m → Gr [cenv.locals, I] s₀ s →
      (∀ b ∈ fp, b ≠ I → ∀ o, href.get? b = some o → s.heap.get? b = some o) →
      Seg (model prog w) A (gEnd cenv.locals I) (gProto cenv.locals I fp n₀ F) k s₀
        (.compLoop (.GeneratorExp elt [⟨.Name x px, iter, [], 0⟩] scope pos) 0 (.ref I) .none cenv)
        ((model prog w).den (.compLoop (.GeneratorExp elt [⟨.Name x px, iter, [], 0⟩] scope pos) 0 (.ref I) .none cenv)) [] s := by
  have hh' : (A.over (.compLoop (.GeneratorExp elt [⟨.Name x px, iter, [], 0⟩] scope pos) 0 (.ref I) .none cenv) []).handled = none := hh
  have hd' : (A.over (.compLoop (.GeneratorExp elt [⟨.Name x px, iter, [], 0⟩] scope pos) 0 (.ref I) .none cenv) []).depth ≤ N := hN
  have hIf : I ∈ fp := (W₀ A hh).sub I List.mem_cons_self
  have hCI : cenv.locals ≠ I := fun h => hCf (h ▸ hIf)
  intro k
  induction k with
  | zero =>
    intro i s₀ s m hk hi hst hn hsince hkp
    have hin : i = n₀ := by omega
    subst hin
    show Seg _ A _ _ _ s₀ _ ((compTurn (.GeneratorExp elt [⟨.Name x px, iter, [], 0⟩] scope pos) 0 (.ref I) .none cenv).onRaise (leaving cenv)) [] s
    rw [compTurn_gen, Sem.onRaise_eq_wrap]
    refine seg_bind_wrap (wpAny_standAt ?_)
    refine seg_bind_wrap ((W₀ _ hh').done s _ _ hst fun h' tk hk' => ?_)
    exact seg_end (.ok .next) ⟨rfl, rfl, hsince.step fun b o hb e => hk' b o (fun hm => hb (List.mem_cons_of_mem _ hm)) e⟩
  | succ k ih =>
    intro i s₀ s m hk hi hst hn hsince hkp
    have hlt : i < n₀ := by omega
    show Seg _ A _ _ _ s₀ _ ((compTurn (.GeneratorExp elt [⟨.Name x px, iter, [], 0⟩] scope pos) 0 (.ref I) .none cenv).onRaise (leaving cenv)) [] s
    rw [compTurn_gen, Sem.onRaise_eq_wrap]
    refine seg_bind_wrap (wpAny_standAt ?_)
    refine seg_bind_wrap ((W₀ _ hh').item i s _ _ hlt hst fun v h₁ tk₁ hPv hst₁ hk₁ => ?_)
    refine seg_bind_wrap (wpAny_of_eq (rfl : letOwnedTupleGo (.Name x px) (.ref I) v = pure ()) ?_)
    refine seg_bind_wrap (wpAny_assign_Name (wpAny_storeName_local hx (hn.at' fun o e => hk₁ _ o (fun hm => hCI (List.mem_singleton.mp hm)) e) (fun h₂ hn₂ hs₂ => ?_) hp))
    have up₂ : ∀ b o, b ∉ [cenv.locals, I] → s.heap.get? b = some o → h₂.get? b = some o := fun b o hb e =>
      hs₂.extBut b o (fun h => hb (h ▸ List.mem_cons_self)) (hk₁ b o (fun hm => hb (List.mem_cons_of_mem _ hm)) e)
    have hst₂ : St₀ (i + 1) h₂ := (W₀ A hh).frame _ _ _ hst₁ fun b hb o e => hs₂.extBut b o (fun h => hCf (h ▸ hb)) e
    have hkp₂ : ∀ b ∈ fp, b ≠ I → ∀ o, href.get? b = some o → h₂.get? b = some o := fun b hb hbw o e =>
      up₂ b o (fun hm => by
        rcases List.mem_cons.mp hm with h | hm
        · exact hCf (h ▸ hb)
        · exact hbw (List.mem_singleton.mp hm)) (hkp b hb hbw o e)
    refine seg_bind_wrap (wpAny_pure ?_)
    simp only [if_true]
    have hy : ∀ v, yieldOut cenv v = yieldValue v := fun v => by simp only [yieldOut, hco, Bool.false_eq_true, if_false]
    simp only [hy]
    rw [Sem.bind_eq_wrap', Sem.bind_eq_wrap', Sem.wrap_wrap, Sem.wrap_wrap]
    refine seg_wrap (wpAny_mono (hq _ _ i v _ _ hh' hd' hPv hn₂ (by simp) hkp₂) (fun y s₄ h₄ => ?_) fun _ _ e => e)
    obtain ⟨hFy, h₄⟩ := h₄
    have e0 : n₀ - 1 - k = i := by omega
    refine seg_at (seg_yield rfl rfl rfl ⟨e0 ▸ hFy, (hsince.step up₂).trans (h₄.mono fun _ h => nomatch h), fun s'' hal => ?_⟩)
    have k₄ : ∀ b o, h₂.get? b = some o → s₄.heap.get? b = some o := fun b o e => h₄.heap b o (fun h => nomatch h) e
    refine seg_again rfl (ih (i + 1) s'' s'' _ (by omega) hlt ((W₀ A hh).frame _ _ _ hst₂ fun b hb o e => hal b (List.mem_cons_of_mem _ hb) o (k₄ b o e))
      ((hn₂.keeps k₄).at' fun o e => hal _ (List.mem_cons_self ..) o e) Gr.refl fun b hb hbw o e => hal b (List.mem_cons_of_mem _ hb) o (k₄ b o (hkp₂ b hb hbw o e)))

theorem g_start {elt iter : Expr} {x : Str} {px : Pos} {scope : Scope} {pos : Pos} {I : Addr} {fp : List Addr} {n₀ N : Nat} {Pv : Nat → Value → Prop} {St₀ : Nat → Heap → Prop} {cenv : Env}
    (hh : A.handled = none) (hN : A.depth + 1 ≤ N) (W₀ : ∀ A' : Around, A'.handled = none → Walks prog w A' I fp [I] n₀ Pv St₀) (F : Nat → Value → Prop) (href : Heap)
    (hx : cenv.kindOf x = some .local) (hp : (cenv.scope.kind == .class || (cenv.scope.kind == .module && cenv.locals != cenv.globals)) = false)
    (hco : cenv.scope.isCoroutine = false) (hCf : cenv.locals ∉ fp) (hq : EltOk prog w N cenv x elt fp I Pv F href)
    (s₀ s : Shared) (m : Str → Option Value) (hst : St₀ 0 s.heap) (hn : s.heap.Ns cenv.locals m) (hsince : Gr [cenv.locals, I] s₀ s)
    (hkp : ∀ b ∈ fp, b ≠ I → ∀ o, href.get? b = some o → s.heap.get? b = some o) :
    Seg (model prog w) A (gEnd cenv.locals I) (gProto cenv.locals I fp n₀ F) n₀ s₀
      (.compStart (.GeneratorExp elt [⟨.Name x px, iter, [], 0⟩] scope pos) 0 (.ref I) .none cenv)
      ((model prog w).den (.compStart (.GeneratorExp elt [⟨.Name x px, iter, [], 0⟩] scope pos) 0 (.ref I) .none cenv)) [] s := by
  have hh' : (A.over (.compStart (.GeneratorExp elt [⟨.Name x px, iter, [], 0⟩] scope pos) 0 (.ref I) .none cenv) []).handled = none := hh
  have loop := g_loop (iter := iter) (px := px) (scope := scope) (pos := pos) hh hN W₀ F href hx hp hco hCf hq n₀ 0 s₀ s m (Nat.sub_zero _) (Nat.zero_le _) hst hn hsince hkp
  show Seg _ A _ _ _ s₀ _ ((compStart (.GeneratorExp elt [⟨.Name x px, iter, [], 0⟩] scope pos) 0 (.ref I) .none cenv).onRaise (leaving cenv)) [] s
  unfold compStart
  rw [Sem.onRaise_eq_wrap]
  show Seg _ A _ _ _ s₀ _ ((ask >>= _).wrap _ _ _ _) [] s
  refine seg_bind_wrap (wpAny_askSetting ?_)
  split
  · exact seg_again rfl loop
  · refine seg_bind_wrap (wpAny_rule ?_)
    show Seg _ A _ _ _ s₀ _ ((standAt iter.pos >>= _).wrap _ _ _ _) [] s
    exact seg_bind_wrap (wpAny_standAt (seg_bind_wrap ((W₀ _ hh').self 0 s _ _ hst (seg_again rfl loop))))

def GAt (prog : Program) (w : World) (A : Around) (a : Addr) (g : Nat) (C I : Addr) (fp : List Addr) (n₀ : Nat) (F : Nat → Value → Prop) (j : Nat) (s : Shared) : Prop :=
  s.heap.IsGen a g ∧ s.heap.NoLimit ∧ ∃ gs, s.gens[g]? = some gs ∧ ∀ s'' : Shared, (∀ b ∈ C :: fp, ∀ o, s.heap.get? b = some o → s''.heap.get? b = some o) →
    gs.Goes (model prog w) A.in1 (gEnd C I) (gProto C I fp n₀ F) (n₀ - j) (.send .none) s''

theorem g_walks (hh : A.handled = none) (a : Addr) (g : Nat) (C I : Addr) (fp : List Addr) (n₀ : Nat) (F : Nat → Value → Prop) (haC : a ≠ C) (haf : a ∉ fp) (hI : I ∈ fp)
    (hroom : A.depth < recursionLimit) (hcs : cStatics ∈ fp) (hcC : cStatics ≠ C) (hcI : cStatics ≠ I) :
    WalksS prog w A a (a :: C :: fp) [C, I] (GGrow g) n₀ F (GAt prog w A a g C I fp n₀ F) where
  sub := fun b hb => by
    rcases List.mem_cons.mp hb with rfl | hb
    · simp
    · rw [List.mem_singleton.mp hb]; exact List.mem_cons_of_mem _ (List.mem_cons_of_mem _ hI)
  grefl := GGrow.refl g
  gtrans := fun _ _ _ x y => x.trans y
  frame := fun j s h' tk st _ hk =>
    ⟨let ⟨o, nm, qn, ho, r⟩ := st.1; ⟨o, nm, qn, hk a (List.mem_cons_self ..) o ho, r⟩,
     (let ⟨mc, hns, hnn⟩ := st.2.1; ⟨mc, hns.at' fun o e => hk cStatics (List.mem_cons_of_mem _ (List.mem_cons_of_mem _ hcs)) o e, hnn⟩),
     let ⟨gs, hgs, hgo⟩ := st.2.2; ⟨gs, hgs, fun s'' hal => hgo s'' fun b hb o e => hal b hb o (hk b (List.mem_cons_of_mem _ hb) o e)⟩⟩
  item := fun j s Q E hj st hQ => by
    obtain ⟨hg, hl, gs, hgs, hgo⟩ := st
    obtain ⟨m, hm⟩ : ∃ m, n₀ - j = m + 1 := ⟨n₀ - j - 1, by omega⟩
    rw [hm] at hgo
    refine wpAny_with_toks (Nat.le_refl s.toks) ?_
    refine wpAny_pyNext_genexpQ (P := fun n s₀ s₁ => n = 0 ∧ Gr [C, I] s₀ s₁) hh hl hroom hg hgs (hgo _ fun _ _ _ e => e) (fun v s₁ gs' hb hv => ?_) (fun s₁ hp h' hk => ?_)
    · obtain ⟨hF, hG, hkap⟩ := hv
      have hidx : n₀ - 1 - (m + 1 - 1) = j := by omega
      rw [hidx] at hF
      have haI : a ≠ I := fun h => haf (h ▸ hI)
      have haw : a ∉ [C, I] := by simp [haC, haI]
      have hcw : cStatics ∉ [C, I] := by simp [hcC, hcI]
      have g1 : GGrow g s.gens (s.setGen g .running).gens := GGrow.of_set s g rfl
      have g2 : GGrow g (s.setGen g .running).gens s₁.gens := hG.ggrow g
      have g3 : GGrow g s₁.gens (s₁.setGen g gs').gens := GGrow.of_set s₁ g hb
      have hg1 : s₁.gens[g]? = some .running := by
        have h0 : (s.setGen g .running).gens[g]? = some .running := setGen_self hgs
        have hlt : g < (s.setGen g .running).gens.size := (Array.getElem?_eq_some_iff.mp h0).1
        rw [hG.gens g hlt]; exact h0
      intro htk
      refine hQ v _ hF ⟨let ⟨o, nm, qn, ho, r⟩ := hg; ⟨o, nm, qn, hG.heap a o haw ho, r⟩, (let ⟨mc, hns, hnn⟩ := hl; ⟨mc, hns.at' fun o e => hG.heap cStatics o hcw e, hnn⟩), gs', setGen_self hg1, fun s'' hal => ?_⟩
        ⟨fun b o hb e => hG.heap b o hb e, (g1.trans g2).trans g3, hG.drawn, hG.os, htk⟩
      have e : n₀ - (j + 1) = m := by omega
      rw [e]
      exact hkap s'' hal
    · exact absurd hp.1 (Nat.succ_ne_zero m)
  done := fun s Q E st hQ => by
    obtain ⟨hg, hl, gs, hgs, hgo⟩ := st
    rw [Nat.sub_self] at hgo
    refine wpAny_with_toks (Nat.le_refl s.toks) ?_
    refine wpAny_pyNext_genexpQ (P := fun n s₀ s₁ => n = 0 ∧ Gr [C, I] s₀ s₁) hh hl hroom hg hgs (hgo _ fun _ _ _ e => e) (fun v s₁ gs' hb hv => ?_) (fun s₁ hp h' hk => ?_)
    · obtain ⟨_, _, hkap⟩ := hv
      exact False.elim (hkap s₁ fun _ _ _ e => e)
    · obtain ⟨_, hG⟩ := hp
      have g1 : GGrow g s.gens (s.setGen g .running).gens := GGrow.of_set s g rfl
      have g2 : GGrow g (s.setGen g .running).gens s₁.gens := hG.ggrow g
      have g3 : GGrow g s₁.gens (s₁.setGen g .finished).gens := GGrow.of_set s₁ g rfl
      intro htk
      exact hQ _ ⟨fun b o hb e => hk b o (hG.heap b o hb e), (g1.trans g2).trans g3, hG.drawn, hG.os, htk⟩
  self := fun _ _ _ _ st hQ => wpAny_pyIter_gen st.1 hQ
end
end Mine
namespace Mine
/-- a generator at a that gives n values of which the i-th meets F; what its walk writes lies above base -/
def GenB (prog : Program) (w : World) (A : Around) (a : Addr) (n : Nat) (F : Nat → Value → Prop) (base : Addr) (g : Nat) (s : Shared) : Prop :=
  ∃ fp wr St, WalksS prog w A.in4 a fp wr (GGrow g) n F St ∧ St 0 s ∧ (∀ i s, St i s → s.TypeIs (.ref a) "generator") ∧ a ∈ fp ∧ (∀ b ∈ fp, b < s.heap.objs.size) ∧ (∀ b ∈ wr, base ≤ b)
section
variable {prog : Program} {w : World} {A : Around} {E : Value → Shared → Prop} {s : Shared}

theorem gen_make {env : Env} {elt iter : Expr} {x : Str} {px : Pos} {scope : Scope} {cl : List (Str × Addr)} {pos : Pos} {Q : Value → Shared → Prop}
    (hh : A.handled = none) (hco : scope.isCoroutine = false) (hclos : closureFor scope env = pure cl) (hcell : ∀ y ∈ scope.names, y.2 ≠ .cell) (h0 : scope.names.lookup (".0" : Str) = some NameKind.local)
    (hx : scope.names.lookup x = some .local) (hkind : scope.kind = .function) (hroom : A.depth < recursionLimit)
    (h : wpAny (model prog w) A (eval iter env) (fun xv s₁ => ∃ l items, xv = .ref l ∧ s₁.heap.IsList l items ∧ s₁.heap.NoLimit ∧
      wpAny (model prog w) A (genexprCode env pos (env.qual ++ "<genexpr>") scope) (fun code s₃ => wpAny (model prog w) A (builtinsFor env.globals env.builtins) (fun bi s₄ =>
        ∃ F, s₄.heap.IsListIter s₁.heap.objs.size l 0 ∧ s₄.heap.IsList l items ∧ s₄.heap.NoLimit ∧
          (∀ href : Heap, (∀ b o, s₄.heap.get? b = some o → href.get? b = some o) →
            EltOk prog w (A.depth + 1) (genEnv scope cl s₄.heap.objs.size code bi env) x elt (List.range s₄.heap.objs.size) s₁.heap.objs.size (fun i v => items[i]? = some v) F href) ∧
          (∀ a s₅, Gr [] s₄ s₅ → GenB prog w A a items.size F s₁.heap.objs.size s₄.gens.size s₅ → Q (.ref a) s₅)) E s₃) E
        { s₁ with heap := s₁.heap.push { cls := .type "list_iterator", data := .fields #[.ref l, .int 0 0] } }) E s)
    (hs : ∀ x, genFold iter env x = pure x) :
    wpAny (model prog w) A (eval (.GeneratorExp elt [⟨.Name x px, iter, [], 0⟩] scope pos) env) Q E s := by
  refine wpAny_GeneratorExp_make hco hclos hcell h0 hkind hroom (wpAny_mono h (fun xv s₁ h₁ => ?_) fun _ _ e => e) hs
  obtain ⟨l, items, rfl, hl, hlim, h₂⟩ := h₁
  have hlt : l < s₁.heap.objs.size := by obtain ⟨_, e, _⟩ := hl; exact Heap.lt_size e
  refine wpAny_pyIter_list hl ⟨hlim.push _, wpAny_mono h₂ (fun code s₃ h₃ => wpAny_mono h₃ (fun bi s₄ h₄ => ?_) fun _ _ e => e) fun _ _ e => e⟩
  obtain ⟨F, hit, hl₄, hlim₄, hq, hQ⟩ := h₄
  intro h' hn' hs'
  have hclt : cStatics < s₄.heap.objs.size := let ⟨_, hn, _⟩ := hlim₄; hn.lt
  have hIlt : s₁.heap.objs.size < s₄.heap.objs.size := by obtain ⟨_, e, _⟩ := hit; exact Heap.lt_size e
  have hsz : h'.objs.size = s₄.heap.objs.size + 1 := by rw [hs'.1, Heap.size_push]
  have keep' : ∀ b o, s₄.heap.get? b = some o → h'.get? b = some o := fun b o e => hs'.extBut b o (Nat.ne_of_lt (Heap.lt_size e)) (Heap.get?_push_of_some _ e)
  have keep₅ : ∀ b o, s₄.heap.get? b = some o → (h'.push { cls := .type "generator", data := .fields #[.int s₄.gens.size 0, .str "<genexpr>" (s₄.toks + 1), .str (env.qual ++ "<genexpr>") (s₄.toks + 1 + 1)] }).get? b = some o :=
    fun b o e => Heap.get?_push_of_some _ (keep' b o e)
  have haC : h'.objs.size ≠ s₄.heap.objs.size := by rw [hsz]; exact Nat.succ_ne_self _
  have haf : h'.objs.size ∉ List.range s₄.heap.objs.size := fun hm => by have := List.mem_range.mp hm; omega
  have hIf : s₁.heap.objs.size ∈ List.range s₄.heap.objs.size := List.mem_range.mpr hIlt
  have hcI : cStatics ≠ s₁.heap.objs.size := by
    obtain ⟨_, hn, _⟩ := hlim
    exact Nat.ne_of_lt hn.lt
  have hlI : l ≠ s₁.heap.objs.size := Nat.ne_of_lt hlt
  have W₀ : ∀ A' : Around, A'.handled = none → Walks prog w A' s₁.heap.objs.size (List.range s₄.heap.objs.size) [s₁.heap.objs.size] items.size (fun i v => items[i]? = some v) (fun i h => h.IsListIter s₁.heap.objs.size l i ∧ h.IsList l items) :=
    fun A' hA => (Walks.list hA _ _ hlI items).mono_fp fun b hb => by
      rcases List.mem_cons.mp hb with rfl | hb
      · exact hIf
      · rw [List.mem_singleton.mp hb]; exact List.mem_range.mpr (Nat.lt_trans hlt hIlt)
  refine hQ _ _ ⟨fun b o _ e => keep₅ b o e, ?_, fun k hk => ?_, fun hb => hb.push rfl, rfl, rfl⟩ ?_
  · show s₄.gens.size ≤ (s₄.gens.push _).size
    rw [Array.size_push]; exact Nat.le_succ _
  · exact Array.getElem?_push_lt hk |>.trans (Array.getElem?_eq_getElem hk).symm
  · refine ⟨h'.objs.size :: s₄.heap.objs.size :: List.range s₄.heap.objs.size, [s₄.heap.objs.size, s₁.heap.objs.size], _,
      g_walks (A := A.in4) hh h'.objs.size s₄.gens.size s₄.heap.objs.size s₁.heap.objs.size (List.range s₄.heap.objs.size) items.size F haC haf hIf hroom (List.mem_range.mpr hclt) (Nat.ne_of_lt hclt) hcI,
      ⟨⟨_, _, _, Heap.get?_push_size _ rfl, rfl, rfl, rfl⟩, hlim₄.keeps keep₅, _, Array.getElem?_push_size .., fun s'' hal => ⟨rfl, ?_⟩⟩, fun i s st => st.1.typeIs, List.mem_cons_self, ?_, ?_⟩
    · exact g_start (A := A.in4.in1) (N := A.depth + 1) (cenv := genEnv scope cl s₄.heap.objs.size code bi env) (m := fun y => if y = ".0" then some (.ref s₁.heap.objs.size) else none) hh (Nat.le_refl _) W₀ F _ hx (by simp [genEnv, hkind]) hco
        (fun hm => Nat.lt_irrefl _ (List.mem_range.mp hm)) (hq _ keep₅) s'' s''
        ⟨let ⟨o, e, r⟩ := hit; ⟨o, hal _ (List.mem_cons_of_mem _ hIf) o (keep₅ _ _ e), r⟩, let ⟨o, e, r⟩ := hl₄; ⟨o, hal _ (List.mem_cons_of_mem _ (List.mem_range.mpr (Nat.lt_trans hlt hIlt))) o (keep₅ _ _ e), r⟩⟩
        ((hn'.push _).at' fun o e => hal _ (List.mem_cons_self ..) o e) Gr.refl fun b hb _ o e => hal b (List.mem_cons_of_mem _ hb) o e
    · have hb1 : s₄.heap.objs.size < h'.objs.size := by rw [hsz]; exact Nat.lt_succ_self _
      intro b hb
      show b < (h'.push _).objs.size
      rw [Heap.size_push]
      rcases List.mem_cons.mp hb with e | hb
      · rw [e]; exact Nat.lt_succ_self _
      · rcases List.mem_cons.mp hb with e | hb
        · rw [e]; exact Nat.lt_succ_of_lt hb1
        · exact Nat.lt_succ_of_lt (Nat.lt_trans (List.mem_range.mp hb) hb1)
    · intro b hb
      rcases List.mem_cons.mp hb with e | hb
      · rw [e]; exact Nat.le_of_lt hIlt
      · rw [List.mem_singleton.mp hb]; exact Nat.le_refl _
end
end Mine
namespace Mine
open PySem.Builtin in
theorem take_eq {b : Array UInt8} {t : Tok} {id : String} : Bytes.takeBufferQuiet? id (.bytes b t) 0 = pure (some (b, none)) := by
  unfold Bytes.takeBufferQuiet? Bytes.takeBuffer?
  rw [KBy.special_eq KBy.look_buffer, KBy.own_buffer]
  have e : Bytes.buffer? id (.bytes b t) (0 == Bytes.fullReadOnly) = pure (some b) := KBy.buffer_eq
  rw [e]
  rfl
theorem slot_join : Slot "bytes" "join" "bytes.join" :=
  .of (owner := "bytes") (n := "join") (by rw [typeLookup_type, builtinLookup_eq_fast]; kernel_rfl) (by decide +kernel) (by decide +kernel) (by decide +kernel)
    (by first | exact .inl (by decide +kernel) | exact .inr (by decide +kernel)) (by rw [isSubtype_type]; kernel_rfl)
theorem entry_join : entryFor table "bytes.join" = some Builtin.«bytes.join» := by first | exact entryFor_of_tree (by kernel_rfl) | exact entryFor_of_fast (by kernel_rfl)
theorem args_join (a b : Value) : argsOk "bytes.join" ⟨[a, b], []⟩ := by
  unfold argsOk; rw [signature?_of (id := "bytes.join") (n := ['n', 'i', 'o', 'j']) (o := ['s', 'e', 't', 'y', 'b']) (by kernel_rfl) FB.owner_bytes]; kernel_rfl
abbrev asV (p : Array UInt8 × Tok) : Value := .bytes p.1 p.2
theorem exists_bytes : ∀ (vs : List Value) , (∀ v ∈ vs, ∃ b u, v = Value.bytes b u) → ∃ l : List (Array UInt8 × Tok), l.map asV = vs
  | [], _ => ⟨[], rfl⟩
  | v :: vs, h => by
    obtain ⟨y, u, rfl⟩ := h v List.mem_cons_self
    obtain ⟨l, rfl⟩ := exists_bytes vs fun v hv => h v (List.mem_cons_of_mem _ hv)
    exact ⟨(y, u) :: l, rfl⟩
def sizes (l : List (Array UInt8 × Tok)) : Nat := (l.map (·.1.size)).sum
theorem parts_fold (l : List (Array UInt8)) : ∀ (k : Nat), l.foldl (fun (x : Nat) (y : Array UInt8) => x + y.size) k = k + (l.map (·.size)).sum := by
  induction l with
  | nil => intro k; simp
  | cons p r ih => intro k; rw [List.foldl_cons, ih, List.map_cons, List.sum_cons]; omega
open PySem.Builtin in
theorem joined_size (l : List (Array UInt8)) : (Bytes.joined #[] l).size = (l.map (·.size)).sum := by
  have key : ∀ (l : List (Array UInt8)) (k : Nat) (out : Array UInt8), ((l.zipIdx k).foldl (fun out (p, i) => (if i > 0 then out ++ #[] else out) ++ p) out).size = out.size + (l.map (·.size)).sum := by
    intro l
    induction l with
    | nil => intro k out; simp
    | cons p r ih =>
      intro k out
      rw [List.zipIdx_cons, List.foldl_cons, ih, List.map_cons, List.sum_cons]
      have e : (if k > 0 then out ++ #[] else out) = out := by split <;> simp
      simp only [e, Array.size_append]
      omega
  unfold Bytes.joined
  rw [key]
  simp
open PySem.Builtin in
theorem letGo_ok {M : Model} {A : Around} {E : Value → Shared → Prop} {keep : List Value} : ∀ (l : List (Array UInt8 × Tok)) (s : Shared) (Q : Unit → Shared → Prop), Q () s → wpAny M A (Bytes.joinLetGo (l.map fun p => (asV p, none)) keep) Q E s
  | [], s, Q, h => wpAny_pure h
  | p :: r, s, Q, h => by
    rw [List.map_cons]
    unfold Bytes.joinLetGo
    refine wpAny_bind (wpAny_letGo ?_)
    exact letGo_ok r s Q h
section
variable {prog : Program} {w : World} {A : Around} {E : Value → Shared → Prop} {s : Shared}
open PySem.Builtin in
theorem join_bytes {t : Tok} {a : Addr} {n : Nat} {F : Nat → Value → Prop} {base g : Nat} {Q : Value → Shared → Prop} (hh : A.handled = none) (X : GenB prog w A a n F base g s) (ns : List Int) (hn : n = ns.length) (hn3 : ns.length ≤ 3)
    (hF : ∀ i v, F i v → ∃ b u m, v = .bytes b u ∧ ns[i]? = some m ∧ (b.size : Int) = m) (hsz : ns.sum ≤ 16777216)
    (hQ : ∀ s' b t', (∀ c o, c < base → s.heap.get? c = some o → s'.heap.get? c = some o) → GGrow g s.gens s'.gens → s'.drawn = s.drawn → s'.os = s.os → (b.size : Int) = ns.sum → Q (.bytes b t') s') :
    wpAny (model prog w) A (call (.builtin "bytes.join") [.bytes #[] t, .ref a]) Q E s := by
  obtain ⟨fp, wr, St, W, hst, hT, ha, hfp, hwr⟩ := X
  have W1 : WalksS prog w A.in1.in1.in1 a fp wr (GGrow g) n F St := WalksS.of_in1 (A := A.in1.in1.in1) W
  have W0 : WalksS prog w A.in1 a fp wr (GGrow g) n F St := WalksS.of_in1 (A := A.in1) (WalksS.of_in1 (A := A.in1.in1) W1)
  refine wpAny_call (codeAny_call_builtin slot_join.plain entry_join (slot_join.check _ _ _ _ _ _ _ _ (typeIs_bytes _ _ _) (args_join _ _) ?_))
  show wpAny _ A.in1 (Bytes.joinM .bytes ⟨[.bytes #[] t, .ref a], []⟩) _ _ s
  unfold Bytes.joinM
  refine wpAny_bind (wpAny_of_eq (a := (Value.bytes #[] t, Value.ref a)) rfl ?_)
  show wpAny _ A.in1 (Bytes.joinItems (.ref a) >>= _) _ _ s
  refine wpAny_bind ?_
  unfold Bytes.joinItems
  refine wpAny_bind (wpAny_typeOf (hT 0 s hst) ?_)
  show wpAny _ A.in1 ((pyIter (.ref a)).tryCatch _ >>= fun iter => call (.type "list") [iter]) _ _ s
  refine wpAny_bind (wpAny_tryCatch (W0.self 0 s _ _ hst ?_))
  refine call_list_gen W1 hT hst hfp ha (fun s' acc' c' hm hS hacc => ?_) (by rw [sizeLine_eq]; omega)
  obtain ⟨l, hl⟩ := exists_bytes acc'.toList fun v hv => by
    obtain ⟨j, hj, rfl⟩ := Array.mem_iff_getElem.mp (Array.mem_toList_iff.mp hv)
    obtain ⟨b, u, m, e, _⟩ := hF j _ (hacc.2 j _ (Array.getElem?_eq_getElem hj))
    exact ⟨b, u, e⟩
  have hacc' : acc' = (l.map asV).toArray := by rw [hl]
  subst hacc'
  have hlen : l.length = ns.length := by have := hacc.1; simp at this; omega
  have hsizes : (sizes l : Int) = ns.sum := by
    have e : l.map (fun p => (p.1.size : Int)) = ns := by
      apply List.ext_getElem?
      intro j
      by_cases hj : j < l.length
      · obtain ⟨b, u, m, e, hm, hb⟩ := hF j (asV l[j]) (hacc.2 j _ (by simp [List.getElem?_eq_getElem hj]))
        rw [hm, List.getElem?_map, List.getElem?_eq_getElem hj]
        injection e with e1 _
        simp only [Option.map_some]
        rw [← hb, e1]
      · rw [List.getElem?_eq_none (by simpa using hj), List.getElem?_eq_none (by omega)]
    rw [← e]
    unfold sizes
    clear e hF hacc hS hl hlen
    induction l with
    | nil => rfl
    | cons p r ih => rw [List.map_cons, List.map_cons, List.sum_cons, List.sum_cons, ← ih]; omega
  have hend : ∀ b t' k, (b.size : Int) = ns.sum → Q (.bytes b t') { s' with toks := k } := fun b t' k hb =>
    hQ { s' with toks := k } b t' (fun c o hc e => hm.heap c o (fun h => by
      rcases List.mem_cons.mp h with h | h
      · exact Nat.ne_of_lt (Heap.lt_size e) h
      · exact Nat.lt_irrefl _ (Nat.lt_of_lt_of_le hc (hwr c h))) (Heap.get?_push_of_some _ e)) hm.gens hm.drawn hm.os hb
  refine wpAny_bind (wpAny_seqItems hS rfl ?_)
  rcases l with _ | ⟨p, _ | ⟨q, r⟩⟩
  · show wpAny _ A.in1 (forIn [:(List.map asV ([] : List (Array UInt8 × Tok))).toArray.size] _ _ >>= _) _ _ s'
    generalize [] = L at hS hacc hl hlen hsizes ⊢
    rw [KPc.range_list]
    refine wpAny_bind (wpAny_forIn_list _ (fun rem b s'' => s'' = s' ∧ ∃ i, i ≤ L.length ∧ rem = List.range' i (L.length - i) 1 ∧ b.1 = ((L.take i).map (·.1)).toArray ∧ b.2 = (L.take i).map fun p => (asV p, none)) _ (fun x rest b s'' hI => ?_) (fun b s'' hI => ?_) _ _ ⟨rfl, 0, Nat.zero_le _, by simp, rfl, rfl⟩)
    · obtain ⟨rfl, i, hi, hrem, hb1, hb2⟩ := hI
      have hlt : i < L.length := by
        rcases Nat.lt_or_ge i L.length with h | h
        · exact h
        · rw [show L.length - i = 0 by omega] at hrem; cases hrem
      obtain ⟨k, hk⟩ : ∃ k, L.length - i = k + 1 := ⟨L.length - i - 1, by omega⟩
      rw [hk, List.range'_succ] at hrem
      injection hrem with e1 e2
      subst e1
      refine wpAny_bind (wpAny_seqItems hS rfl ?_)
      have hany : (b.2.any fun x => x.1.onHeap) = false := by
        rw [hb2, List.any_eq_false]
        intro y hy
        obtain ⟨p, _, rfl⟩ := List.mem_map.mp hy
        exact Bool.false_ne_true
      have hx : (List.map asV L).toArray.getD x Value.none = asV L[x] := by simp [hlt]
      show wpAny _ A.in1 (if (_ || b.2.any fun x => x.1.onHeap) = true then _ else _) _ _ _
      rw [hany, if_neg (by decide)]
      refine wpAny_bind (wpAny_holding ?_)
      rw [hx]
      refine wpAny_of_eq take_eq ?_
      refine wpAny_bind (wpAny_seqItems hS rfl ?_)
      show wpAny _ A.in1 (if ((List.map asV L).toArray.size != (List.map asV L).toArray.size) = true then _ else _) _ _ _
      rw [if_neg (by simp)]
      refine wpAny_pure ⟨rfl, x + 1, hlt, ?_, ?_, ?_⟩
      · rw [e2, show L.length - (x + 1) = k by omega]
      · show b.1.push L[x].1 = _
        rw [hb1, List.take_add_one, List.getElem?_eq_getElem hlt]
        simp
        rw [List.take_add_one, List.getElem?_map, List.getElem?_eq_getElem hlt]
        rfl
      · show b.2 ++ [(asV L[x], none)] = _
        rw [hb2, List.take_add_one, List.getElem?_eq_getElem hlt]
        simp
        rw [List.take_add_one, List.getElem?_map, List.getElem?_eq_getElem hlt]
        rfl
    · obtain ⟨rfl, i, hi, hrem, hb1, hb2⟩ := hI
      have hil : i = L.length := by
        rcases Nat.lt_or_ge i L.length with h | h
        · obtain ⟨k, hk⟩ : ∃ k, L.length - i = k + 1 := ⟨L.length - i - 1, by omega⟩
          rw [hk, List.range'_succ] at hrem; cases hrem
        · omega
      subst hil
      rw [List.take_length] at hb1 hb2
      refine wpAny_bind (wpAny_of_eq (a := (#[] : Array UInt8)) rfl ?_)
      have hz : (L.map (·.1.size)).sum ≤ 16777216 := by have := hsizes; unfold sizes at this; omega
      have hlong : Bytes.tooLong (b.1.foldl (fun (x : Nat) (y : Array UInt8) => x + y.size) ((#[] : Array UInt8).size * (b.1.size - 1))) = false := by
        refine KBy.tooLong_not ?_
        rw [hb1, List.foldl_toArray, parts_fold]
        simp only [List.map_map, Function.comp_def, List.size_toArray, List.length_nil, Nat.zero_mul, Nat.zero_add]
        exact hz
      show wpAny _ A.in1 (if Bytes.tooLong (b.1.foldl (fun (x : Nat) (y : Array UInt8) => x + y.size) ((#[] : Array UInt8).size * (b.1.size - 1))) = true then _ else _) _ _ _
      rw [hlong, if_neg Bool.false_ne_true]
      have hj : (Bytes.joined #[] b.1.toList).size = (L.map (·.1.size)).sum := by
        rw [joined_size, hb1]
        simp only [List.map_map, Function.comp_def]
      refine wpAny_bind (wpAny_mkBytes ?_ (by rw [hj, sizeLine_eq]; exact hz))
      refine wpAny_bind (wpAny_holding (wpAny_point ?_))
      refine wpAny_bind ?_
      rw [hb2]
      refine letGo_ok L _ _ ?_
      exact wpAny_pure (hend _ _ _ (by rw [hj]; exact hsizes))
  · show wpAny _ A.in1 (typeOf (asV p) >>= _) _ _ s'
    refine wpAny_bind (wpAny_typeOf (typeIs_bytes _ _ _) ?_)
    refine wpAny_bind (wpAny_rule ?_)
    refine wpAny_pure ?_
    refine hend _ _ s'.toks ?_
    rw [← hsizes]
    simp [sizes]
  · show wpAny _ A.in1 (forIn [:(List.map asV ((p :: q :: r) : List (Array UInt8 × Tok))).toArray.size] _ _ >>= _) _ _ s'
    generalize (p :: q :: r) = L at hS hacc hl hlen hsizes ⊢
    rw [KPc.range_list]
    refine wpAny_bind (wpAny_forIn_list _ (fun rem b s'' => s'' = s' ∧ ∃ i, i ≤ L.length ∧ rem = List.range' i (L.length - i) 1 ∧ b.1 = ((L.take i).map (·.1)).toArray ∧ b.2 = (L.take i).map fun p => (asV p, none)) _ (fun x rest b s'' hI => ?_) (fun b s'' hI => ?_) _ _ ⟨rfl, 0, Nat.zero_le _, by simp, rfl, rfl⟩)
    · obtain ⟨rfl, i, hi, hrem, hb1, hb2⟩ := hI
      have hlt : i < L.length := by
        rcases Nat.lt_or_ge i L.length with h | h
        · exact h
        · rw [show L.length - i = 0 by omega] at hrem; cases hrem
      obtain ⟨k, hk⟩ : ∃ k, L.length - i = k + 1 := ⟨L.length - i - 1, by omega⟩
      rw [hk, List.range'_succ] at hrem
      injection hrem with e1 e2
      subst e1
      refine wpAny_bind (wpAny_seqItems hS rfl ?_)
      have hany : (b.2.any fun x => x.1.onHeap) = false := by
        rw [hb2, List.any_eq_false]
        intro y hy
        obtain ⟨p, _, rfl⟩ := List.mem_map.mp hy
        exact Bool.false_ne_true
      have hx : (List.map asV L).toArray.getD x Value.none = asV L[x] := by simp [hlt]
      show wpAny _ A.in1 (if (_ || b.2.any fun x => x.1.onHeap) = true then _ else _) _ _ _
      rw [hany, if_neg (by decide)]
      refine wpAny_bind (wpAny_holding ?_)
      rw [hx]
      refine wpAny_of_eq take_eq ?_
      refine wpAny_bind (wpAny_seqItems hS rfl ?_)
      show wpAny _ A.in1 (if ((List.map asV L).toArray.size != (List.map asV L).toArray.size) = true then _ else _) _ _ _
      rw [if_neg (by simp)]
      refine wpAny_pure ⟨rfl, x + 1, hlt, ?_, ?_, ?_⟩
      · rw [e2, show L.length - (x + 1) = k by omega]
      · show b.1.push L[x].1 = _
        rw [hb1, List.take_add_one, List.getElem?_eq_getElem hlt]
        simp
        rw [List.take_add_one, List.getElem?_map, List.getElem?_eq_getElem hlt]
        rfl
      · show b.2 ++ [(asV L[x], none)] = _
        rw [hb2, List.take_add_one, List.getElem?_eq_getElem hlt]
        simp
        rw [List.take_add_one, List.getElem?_map, List.getElem?_eq_getElem hlt]
        rfl
    · obtain ⟨rfl, i, hi, hrem, hb1, hb2⟩ := hI
      have hil : i = L.length := by
        rcases Nat.lt_or_ge i L.length with h | h
        · obtain ⟨k, hk⟩ : ∃ k, L.length - i = k + 1 := ⟨L.length - i - 1, by omega⟩
          rw [hk, List.range'_succ] at hrem; cases hrem
        · omega
      subst hil
      rw [List.take_length] at hb1 hb2
      refine wpAny_bind (wpAny_of_eq (a := (#[] : Array UInt8)) rfl ?_)
      have hz : (L.map (·.1.size)).sum ≤ 16777216 := by have := hsizes; unfold sizes at this; omega
      have hlong : Bytes.tooLong (b.1.foldl (fun (x : Nat) (y : Array UInt8) => x + y.size) ((#[] : Array UInt8).size * (b.1.size - 1))) = false := by
        refine KBy.tooLong_not ?_
        rw [hb1, List.foldl_toArray, parts_fold]
        simp only [List.map_map, Function.comp_def, List.size_toArray, List.length_nil, Nat.zero_mul, Nat.zero_add]
        exact hz
      show wpAny _ A.in1 (if Bytes.tooLong (b.1.foldl (fun (x : Nat) (y : Array UInt8) => x + y.size) ((#[] : Array UInt8).size * (b.1.size - 1))) = true then _ else _) _ _ _
      rw [hlong, if_neg Bool.false_ne_true]
      have hj : (Bytes.joined #[] b.1.toList).size = (L.map (·.1.size)).sum := by
        rw [joined_size, hb1]
        simp only [List.map_map, Function.comp_def]
      refine wpAny_bind (wpAny_mkBytes ?_ (by rw [hj, sizeLine_eq]; exact hz))
      refine wpAny_bind (wpAny_holding (wpAny_point ?_))
      refine wpAny_bind ?_
      rw [hb2]
      refine letGo_ok L _ _ ?_
      exact wpAny_pure (hend _ _ _ (by rw [hj]; exact hsizes))
end
end Mine
namespace Mine
theorem fill_k5 : (KK = KK) ∧ (PySem.Challenge.rw_bi0019_01 = PySem.Challenge.rw_bi0019_01) := by
  k_fill
  exact ⟨rfl, rfl⟩
set_option maxHeartbeats 4000000 in
theorem encode_leaf {prog : Program} {w : World} {A : Around} {s : Shared} {Q E : Value → Shared → Prop} {p : Program} {loose : List Str} {mg mb : Str → Option Value} {v : Value} {n : Int}
    (X : (KK w.params).In s.heap) (T : TopRead p loose mg mb s.heap) (hroom : A.depth < recursionLimit) (hroom' : A.depth + 2 < recursionLimit) (hh : A.handled = none) (hv : Leaf v n)
    (h : ∀ h' tk b t', (∀ b o, s.heap.get? b = some o → h'.get? b = some o) → (b.size : Int) = n → Q (.bytes b t') { s with heap := h', toks := tk }) :
    wpAny (model prog w) A (call (.ref 1679) [v]) Q E s := by
  obtain ⟨b, t, ks, rfl, hk, hb, rfl⟩ := hv
  refine' enter X T hroom (binds := [(Str.ofString "item", .bytes b t)]) ?ho ?hcd ?hb ?hl ?_ ?c1 ?c2 ?c3 ?c4
  case ho => k_is
  case hcd => k_is
  case hb => exact BindsTo.of_eq rfl
  case hl => exact locs rfl
  case c1 => decide
  case c2 => rfl
  case c3 => rfl
  case c4 => rfl
  intro g L h₁ hg F N X T
  subst hg
  have hbs : b.size = ks.length := by rw [← KBw.ints_length, hk]
  have hlp := lg_pos ks.length
  have room1 : ∀ env, (A.deeper env).depth < recursionLimit := fun _ => Nat.lt_of_succ_lt hroom'
  have room2 : ∀ env, (A.deeper env).depth + 1 < recursionLimit := fun _ => hroom'
  k_steps
  all_goals first
    | (dsimp only
       rename Fr _ _ _ _ => F
       rw [leafLen, if_pos ⟨by assumption, by assumption⟩] at h
       exact h _ _ _ _ F.keep (by rw [hbs]; assumption))
    | (have e : leafLen ks = lg ks.length + ks.length := if_neg (fun x => by have x1 := x.1; have x2 := x.2; first | exact absurd x1 (by assumption) | exact absurd x2 (by assumption))
       rw [e] at h
       rename Fr _ _ _ _ => F2
       rename News _ _ _ _ => N2
       refine length_prefix (X.keeps F2.keep) (T.keeps F2.keep) (room1 _) (room2 _) (by omega) (by omega) (.inl rfl) fun h' tk' c u hk' hc => ?_
       have F' := F2.keeps hk'
       have N' := N2.grown hk'
       clear F2 N2
       k_steps
       rename Fr _ _ _ _ => F3
       refine KBy.add_bytes (by omega) fun t' k => ?_
       refine h _ _ _ _ F3.keep ?_
       rw [Array.size_append]
       omega)
theorem hide_fr {h₀ h : Heap} {L P : Addr} {m : Str → Option Value} (F : Fr h₀ L h m) : Fr (hideAll h₀ [P]) L h m :=
  ⟨F.ns, fun b o e => F.keep b o (of_hideAll _ e), by rw [hideAll_size]; exact F.above⟩
end Mine
namespace Mine
/-- the place of encode_raw's generator expression -/
def gpos : Pos := { line := 219, col := 27, endLine := 219, endCol := 56 }
/-- encode_raw's table of code objects stands at P and holds ps -/
structure Tab (P : Addr) (ps : Array Value) (h : Heap) : Prop where
  code : h.IsCode 1678 P ps
  tab : h.TableAt 1678 P ps
theorem Tab.keeps {P : Addr} {ps : Array Value} {h h' : Heap} (x : Tab P ps h) (k : ∀ b o, h.get? b = some o → h'.get? b = some o) : Tab P ps h' := ⟨x.code.keeps k, x.tab.keeps k⟩
abbrev tabObj (ps : Array Value) : Obj := { cls := .none, data := .fields ps }
theorem Tab.of {P : Addr} {ps : Array Value} {h h' : Heap} (x : Tab P ps h) (k : ∀ b o, b ≠ P → h.get? b = some o → h'.get? b = some o) (e : h'.get? P = some (tabObj ps)) : Tab P ps h' :=
  x.keeps fun b o hb => by
    by_cases q : b = P
    · subst q; rw [x.tab.2] at hb; cases hb; exact e
    · exact k b o q hb
theorem Tab.two {P : Addr} {ps : Array Value} {h h' : Heap} (x : Tab P ps h) (k1 : ∀ o, h.get? 1678 = some o → h'.get? 1678 = some o) (k2 : ∀ o, h.get? P = some o → h'.get? P = some o) : Tab P ps h' :=
  ⟨let ⟨o, vs, file, tf, flags, tg, inF, text, tt, op, a, r1, r2, r3, r4, r5, r6, b, r⟩ := x.code
   ⟨o, vs, file, tf, flags, tg, inF, text, tt, op, k1 _ a, r1, r2, r3, r4, r5, r6, k2 _ b, r⟩, let ⟨⟨o, vs, a, r⟩, t⟩ := x.tab; ⟨⟨o, vs, k1 _ a, r⟩, k2 _ t⟩⟩
theorem Tab.ne {P : Addr} {ps : Array Value} {h : Heap} (x : Tab P ps h) : 1678 ≠ P := by
  obtain ⟨_, _, _, _, _, _, _, _, _, _, _, _, _, _, _, _, _, _, _, _, q⟩ := x.code
  exact q
theorem ns_ne {P a : Addr} {ps : Array Value} {h : Heap} {m : Str → Option Value} (e : h.get? P = some (tabObj ps)) (x : h.Ns a m) : a ≠ P := by
  obtain ⟨o, es, ep, ho, hd, _⟩ := x
  rintro rfl
  rw [e] at ho
  cases ho
  cases hd
theorem ns_hide {P a : Addr} {ps : Array Value} {h : Heap} {m : Str → Option Value} (e : h.get? P = some (tabObj ps)) (x : h.Ns a m) : (hideAll h [P]).Ns a m :=
  x.at' fun o q => hideAll_get _ q fun hm => ns_ne e x (List.mem_singleton.mp hm)
theorem cls_hide {P a : Addr} {ps : Array Value} {h : Heap} {o : Obj} (e : h.get? P = some (tabObj ps)) (x : h.get? a = some o) (hc : o.cls ≠ .none) : (hideAll h [P]).get? a = some o :=
  hideAll_get _ x fun hm => by
    rw [List.mem_singleton.mp hm, e] at x
    cases x
    exact hc rfl
theorem top_hide {P : Addr} {ps : Array Value} {h : Heap} {p : Program} {loose : List Str} {mg mb : Str → Option Value} (e : h.get? P = some (tabObj ps)) (T : TopRead p loose mg mb h) : TopRead p loose mg mb (hideAll h [P]) :=
  ⟨ns_hide e T.g, ns_hide e T.b, let ⟨mc, x, y⟩ := T.nolimit; ⟨mc, ns_hide e x, y⟩, T.builtins, T.free⟩
theorem kb_ok (P : Params) : kb_classed (KK P) = true := by kernel_rfl
theorem in_hide {P : Addr} {ps : Array Value} {h : Heap} {K : Frag} {mg : Str → Option Value} (e : h.get? P = some (tabObj ps)) (X : K.In h) (G : h.Ns mainGlobals mg) (hP : P ≠ cStatics) (hK : kb_classed K = true) : K.In (hideAll h [P]) := by
  intro a o q
  have ha := X a o q
  have z := List.all_eq_true.mp hK (a, o) (kb_mem q)
  simp only [Bool.or_eq_true, decide_eq_true_eq, beq_iff_eq] at z
  rcases z with (z | z) | z
  · exact cls_hide e ha z
  · exact hideAll_get _ ha fun hm => hP ((List.mem_singleton.mp hm).symm.trans z)
  · exact hideAll_get _ ha fun hm => ns_ne e (z ▸ G) (List.mem_singleton.mp hm)
theorem bmod_hide {P g bm : Addr} {ps : Array Value} {h : Heap} {mg : Str → Option Value} {ob : Obj} (e : h.get? P = some (tabObj ps)) (M : BMod h g mg bm ob) : BMod (hideAll h [P]) g mg bm ob :=
  ⟨ns_hide e M.ns, M.name, M.ne, cls_hide e M.obj (by rw [M.cls]; simp), M.cls, M.dict, M.data⟩
theorem list_hide {P a : Addr} {ps : Array Value} {h : Heap} {items : Array Value} (e : h.get? P = some (tabObj ps)) (x : h.IsList a items) : (hideAll h [P]).IsList a items :=
  let ⟨o, ho, hc, r⟩ := x; ⟨o, cls_hide e ho (by rw [hc]; simp), hc, r⟩
theorem val_hide {P : Addr} {ps : Array Value} {h : Heap} (e : h.get? P = some (tabObj ps)) : ∀ {d : Nat} {v : Value} {n : Int}, Val h d v n → Val (hideAll h [P]) d v n
  | 0, _, _, x => by unfold Val at x ⊢; exact x
  | d + 1, v, n, .inl x => .inl x
  | d + 1, v, n, .inr ⟨a, vs, ns, q, hl, hs, hls, x, hn⟩ => .inr ⟨a, vs, ns, q, list_hide e hl, hs, hls, fun i y z => let ⟨m, em, r⟩ := x i y z; ⟨m, em, val_hide e r⟩, hn⟩
theorem hide_keep {h h' : Heap} {P : Addr} (k : ∀ b o, (hideAll h [P]).get? b = some o → h'.get? b = some o) : ∀ b o, b ≠ P → h.get? b = some o → h'.get? b = some o :=
  fun b o hb e => k b o (hideAll_get _ e fun hm => hb (List.mem_singleton.mp hm))

/-- the code object of the generator expression: made, or found -/
theorem gcode_any {M : Model} {A : Around} {E : Value → Shared → Prop} {s : Shared} {env : Env} {P : Addr} {ps : Array Value} {qualname : Str} {scope : Scope} {Q : Value → Shared → Prop} (hc : env.code = .ref 1678) (ht : Tab P ps s.heap)
    (hQ : ∀ code h' tk more, Heap.ExtBut P s.heap h' → Tab P (ps ++ more) h' → codeAmong gpos (ps ++ more).toList ≠ none → (codeAmong gpos ps.toList ≠ none → more = #[]) → Q code { s with heap := h', toks := tk }) :
    wpAny M A (genexprCode env gpos qualname scope) Q E s := by
  cases hnf : codeAmong gpos ps.toList with
  | none =>
    refine wpAny_genexprCodeX hc ht.code ht.tab hnf fun c' h' tk hx _ _ hcode _ htab _ => ?_
    refine hQ _ _ _ _ hx ⟨hcode, htab⟩ ?_ fun h => absurd hnf h
    have hl : (ps ++ #[rawInt gpos.line, rawInt gpos.col, Value.ref c']).toList = ps.toList ++ [rawInt gpos.line, rawInt gpos.col, .ref c'] := by simp
    have htr : TriplesOk ps.toList := by
      obtain ⟨_, _, _, _, _, _, _, _, _, _, _, _, _, _, _, _, _, _, _, htr, _⟩ := ht.code
      exact htr
    rw [hl, codeAmong_snoc _ htr hnf]
    simp
  | some cv =>
    obtain ⟨o, vs, file, tf, flags, tg, inF, text, tt, op, ho, hd, h11, h2, h7, h9, h10, hop, hpd, htr, hne⟩ := id ht.code
    unfold genexprCode codeAt
    rw [hc, if_neg (show ¬ ((Value.ref 1678 == Value.none) = true) from Bool.false_ne_true)]
    refine wpAny_bind (wpAny_fieldsOf ho hd ?_)
    rw [h11]
    refine wpAny_bind (wpAny_fieldsOf hop hpd ?_)
    rw [hnf]
    have e0 : ps ++ #[] = ps := Array.append_empty
    exact wpAny_pure (hQ cv s.heap s.toks #[] (Heap.ExtBut.refl _ _) (by rw [e0]; exact ht) (by rw [e0, hnf]; simp) fun _ => rfl)

/-- from s to s': the heap kept but at P, where the table grows (when it knows the generator expression, nothing); the generators kept -/
structure Grt (P : Addr) (ps : Array Value) (s s' : Shared) : Prop where
  heap : ∀ b o, b ≠ P → s.heap.get? b = some o → s'.heap.get? b = some o
  tab : ∃ more, Tab P (ps ++ more) s'.heap
  warm : codeAmong gpos ps.toList ≠ none → s'.heap.get? P = some (tabObj ps)
  size : s.gens.size ≤ s'.gens.size
  gens : ∀ k, k < s.gens.size → s'.gens[k]? = s.gens[k]?
  bare : AllBare s.gens → AllBare s'.gens
  drawn : s'.drawn = s.drawn
  os : s'.os = s.os
theorem Grt.of_keep {P : Addr} {ps : Array Value} {s : Shared} {h' : Heap} {tk : Nat} (ht : Tab P ps s.heap) (k : ∀ b o, s.heap.get? b = some o → h'.get? b = some o) : Grt P ps s { s with heap := h', toks := tk } :=
  ⟨fun b o _ e => k b o e, ⟨#[], by rw [Array.append_empty]; exact ht.keeps k⟩, fun _ => k _ _ ht.tab.2, Nat.le_refl _, fun _ _ => rfl, id, rfl, rfl⟩
theorem Grt.gr {P : Addr} {ps : Array Value} {s s' : Shared} (x : Grt P ps s s') (ht : Tab P ps s.heap) (hw : codeAmong gpos ps.toList ≠ none) : Gr [] s s' :=
  ⟨fun b o _ e => by
    by_cases q : b = P
    · subst q; rw [ht.tab.2] at e; cases e; exact x.warm hw
    · exact x.heap b o q e, x.size, x.gens, x.bare, x.drawn, x.os⟩
theorem type_join : typeOf (.builtin "bytes.join") = pure (.type "method_descriptor") := by rfl
end Mine
namespace Mine
theorem fill_k7 : (KK = KK) ∧ (PySem.Challenge.rw_bi0019_01 = PySem.Challenge.rw_bi0019_01) := by
  k_fill
  exact ⟨rfl, rfl⟩
/-- an element of a row, coded: what encode_raw says of it when the table knows the generator expression -/
def Inner (prog : Program) (w : World) (N : Nat) (p : Program) (loose : List Str) (mg mb : Str → Option Value) (bm : Addr) (ob : Obj) (P : Addr) (d : Nat) : Prop :=
  ∀ {A : Around} {s : Shared} {Q E : Value → Shared → Prop} {ps : Array Value} {v : Value} {n : Int}, (KK w.params).In s.heap → TopRead p loose mg mb s.heap → BMod s.heap mainGlobals mg bm ob → Tab P ps s.heap →
    A.depth ≤ N → A.handled = none → Val s.heap d v n → (∀ s' b t, Grt P ps s s' → (b.size : Int) = n → Q (.bytes b t) s') → wpAny (model prog w) A (call (.ref 1679) [v]) Q E s
set_option maxHeartbeats 8000000 in
theorem encode_row {prog : Program} {w : World} {A : Around} {s : Shared} {Q E : Value → Shared → Prop} {p : Program} {loose : List Str} {mg mb : Str → Option Value} {a P bm : Addr} {ob : Obj} {ps : Array Value} {vs : List Value} {ns : List Int} {d : Nat}
    (X : (KK w.params).In s.heap) (T : TopRead p loose mg mb s.heap) (hroom : A.depth < recursionLimit) (M : BMod s.heap mainGlobals mg bm ob) (ht : Tab P ps s.heap) (hP : P ≠ cStatics) (hroom' : A.depth + 3 < recursionLimit) (hh : A.handled = none) (hl : s.heap.IsList a vs.toArray) (hs : vs.length ≤ 3) (hls : vs.length = ns.length)
    (hx : ∀ (i : Nat) (x : Value), vs[i]? = some x → ∃ m : Int, ns[i]? = some m ∧ Val s.heap d x m) (h0 : 0 ≤ ns.sum) (hb : ns.sum ≤ 16000000)
    (inner : Inner prog w (A.depth + 2) p loose mg mb bm ob P d)
    (h : ∀ s' b t, Grt P ps s s' → (b.size : Int) = lg ns.sum + ns.sum → Q (.bytes b t) s') :
    wpAny (model prog w) A (call (.ref 1679) [.ref a]) Q E s := by
  refine' enter X T hroom (binds := [(Str.ofString "item", .ref a)]) ?ho ?hcd ?hb ?hl ?_ ?c1 ?c2 ?c3 ?c4
  case ho => k_is
  case hcd => k_is
  case hb => exact BindsTo.of_eq rfl
  case hl => exact locs rfl
  case c1 => decide
  case c2 => rfl
  case c3 => rfl
  case c4 => rfl
  intro g L h₁ hg F N X T
  subst hg
  have hLP : P < s.heap.objs.size := Heap.lt_size ht.tab.2
  have F0 := hide_fr (P := P) F
  have X0 := in_hide ht.tab.2 X T.g hP (kb_ok _)
  have T0 := top_hide ht.tab.2 T
  have M0 := bmod_hide ht.tab.2 M
  have hl0 := list_hide ht.tab.2 hl
  have hx0 : ∀ (i : Nat) (x : Value), vs[i]? = some x → ∃ m : Int, ns[i]? = some m ∧ Val (hideAll s.heap [P]) d x m := fun i x e => let ⟨m, e1, e2⟩ := hx i x e; ⟨m, e1, val_hide ht.tab.2 e2⟩
  have N0 : News (hideAll s.heap [P]) L h₁ [(P, tabObj ps)] := fun q hq => by
    rw [List.mem_singleton.mp hq]
    exact ⟨F.keep _ _ ht.tab.2, Nat.ne_of_lt (Nat.lt_of_lt_of_le hLP F.above), hideAll_none [P] List.mem_cons_self⟩
  have hback : ∀ {h' : Heap}, (∀ b o, (hideAll s.heap [P]).get? b = some o → h'.get? b = some o) → ∀ b o, b ≠ P → s.heap.get? b = some o → h'.get? b = some o := fun k => hide_keep k
  have tab0 : ∀ {h' : Heap} {q : Array Value}, (∀ b o, (hideAll s.heap [P]).get? b = some o → h'.get? b = some o) → h'.get? P = some (tabObj q) → s.heap.get? P = some (tabObj ps) → True := fun _ _ _ => trivial
  clear F N X T M
  k_steps
  rename Fr _ _ _ _ => F2
  rename News _ _ _ _ => N2
  refine kia_tup kitx_list (X0.keeps F2.keep) (let ⟨o, e, c, _⟩ := F2.lst hl0; ⟨o, e, c⟩) (kitTp_N N2 List.mem_cons_self) (b := false) (by kernel_rfl) (by intro e; cases e) fun tk => ?_
  k_steps
  rename Fr _ _ _ _ => F3
  rename News _ _ _ _ => N3
  refine kia_tup kitx_list (X0.keeps F3.keep) (let ⟨o, e, c, _⟩ := F3.lst hl0; ⟨o, e, c⟩) (kitTp_N N3 List.mem_cons_self) (b := true) (by kernel_rfl) (by intro e; cases e) fun tk => ?_
  k_steps
  refine KBd.method_of (.bytes #[] _) (typeIs_bytes _ _ _) slot_join type_join KBd.noRef ?_
  k_steps
  refine gen_make (cl := []) hh rfl rfl (by decide) rfl rfl rfl (by show A.depth + 1 < _; omega) ?_ (fun _ => rfl)
  walk1
  refine ⟨a, vs.toArray, rfl, F3.lst hl0, (T0.keeps F3.keep).nolimit, ?_⟩
  have tabh := ht.of (hback F3.keep) (N3.get (List.mem_cons_of_mem _ (List.mem_cons_of_mem _ List.mem_cons_self)))
  have hPlt := Heap.lt_size tabh.tab.2
  refine gcode_any rfl (tabh.keeps fun b o e => Heap.get?_push_of_some _ e) fun code h3 tk3 more hx3 ht3 hw3 hm3 => ?_
  have hg0P : ∀ b o, (hideAll s.heap [P]).get? b = some o → b ≠ P := fun b o e q => by rw [q, hideAll_none [P] List.mem_cons_self] at e; cases e
  have k3 : ∀ b o, (hideAll s.heap [P]).get? b = some o → h3.get? b = some o := fun b o e => hx3 b o (hg0P b o e) (Heap.get?_push_of_some _ (F3.keep b o e))
  refine wpAny_builtinsFor (M0.keeps k3).ns M0.name M0.ne (M0.keeps k3).obj M0.cls M0.dict M0.data ?_
  refine ⟨fun i y => ∃ b u m, y = .bytes b u ∧ ns[i]? = some m ∧ (b.size : Int) = m, ⟨_, hx3 _ _ (Nat.ne_of_gt hPlt) (Heap.get?_push_size _ rfl), rfl, rfl⟩, let ⟨o, e, r⟩ := hl0; ⟨o, k3 _ _ e, r⟩, (T0.keeps k3).nolimit, ?_, ?_⟩
  · intro href k4 A' E' i v s₂ m₂ hh' hdep hv hn hxm hkp
    have k2 : ∀ b o, (hideAll s.heap [P]).get? b = some o → s₂.heap.get? b = some o := fun b o e =>
      hkp b (List.mem_range.mpr (Heap.lt_size (k3 b o e))) (Nat.ne_of_lt (Heap.lt_size (F3.keep b o e))) o (k4 b o (k3 b o e))
    have hP3 : P < h3.objs.size := Heap.lt_size ht3.tab.2
    have h1678 : 1678 < h3.objs.size ∧ 1678 < L := by
      obtain ⟨⟨o, vs, e, _⟩, _⟩ := ht3.tab
      obtain ⟨⟨o', vs', e', _⟩, _⟩ := ht.tab
      have q := F3.above
      rw [hideAll_size] at q
      exact ⟨Heap.lt_size e, Nat.lt_of_lt_of_le (Heap.lt_size e') q⟩
    have t2 : Tab P (ps ++ more) s₂.heap := ht3.two (fun o e => hkp _ (List.mem_range.mpr h1678.1) (Nat.ne_of_lt (Nat.lt_trans h1678.2 (Heap.Ns.lt F3.ns))) o (k4 _ _ e)) (fun o e => hkp _ (List.mem_range.mpr hP3) (Nat.ne_of_lt hPlt) o (k4 _ _ e))
    have hLne : L ≠ P := (N3 _ (List.mem_cons_of_mem _ (List.mem_cons_of_mem _ List.mem_cons_self))).2.1.symm
    have hL3 : L < h3.objs.size := Heap.Ns.lt (F3.ns.at' fun o e => hx3 _ o hLne (Heap.get?_push_of_some _ e))
    have F4 : Fr (hideAll s.heap [P]) h3.objs.size s₂.heap m₂ := ⟨hn, k2, Nat.le_trans F3.above (Nat.le_of_lt hL3)⟩
    refine Call_ ?_
    refine nameG_K F4 X0 T0 (v := .ref 1679) (by k_is) ?_ rfl rfl rfl (by decide)
    refine callWith_K X0 (by k_is) (args_cons ?_)
    refine wpAny_Name (wpAny_loadName_local rfl rfl hn hxm ?_) (by decide)
    refine args_nil ⟨X0.keeps F4.keep, ?_⟩
    obtain ⟨n, hn1, hn2⟩ := hx0 i v (by simpa using hv)
    refine inner (X0.keeps k2) (T0.keeps k2) (M0.keeps k2) t2 hdep hh' (hn2.keeps k2) fun s' b t hg hb => ?_
    exact ⟨⟨b, t, n, rfl, hn1, hb⟩, hg.gr t2 hw3⟩
  · intro a5 s5 hG5 hB5
    k_steps
    refine join_bytes hh hB5 ns (by simp [hls]) (by omega) (fun i v e => e) (by omega) fun s6 c tc hk6 hg6 hd6 ho6 hc6 => ?_
    have hLlt := Heap.Ns.lt F3.ns
    have hLne : L ≠ P := (N3 _ (List.mem_cons_of_mem _ (List.mem_cons_of_mem _ List.mem_cons_self))).2.1.symm
    have k5 : ∀ b o, h3.get? b = some o → s5.heap.get? b = some o := fun b o e => hG5.heap b o (fun h => nomatch h) e
    have F6 : Fr (hideAll s.heap [P]) L s6.heap fun y => List.lookup y [(Str.ofString "item", Value.ref a)].reverse :=
      ⟨F3.ns.at' fun o e => hk6 _ o hLlt (k5 _ o (hx3 _ o hLne (Heap.get?_push_of_some _ e))), fun b o e => hk6 b o (Heap.lt_size (F3.keep b o e)) (k5 b o (k3 b o e)), F3.above⟩
    have N6 : News (hideAll s.heap [P]) L s6.heap [(P, tabObj (ps ++ more))] := fun q hq => by
      rw [List.mem_singleton.mp hq]
      exact ⟨hk6 _ _ hPlt (k5 _ _ ht3.tab.2), hLne.symm, hideAll_none [P] List.mem_cons_self⟩
    have hgs : s.gens.size ≤ s6.gens.size ∧ (∀ k, k < s.gens.size → s6.gens[k]? = s.gens[k]?) ∧ (AllBare s.gens → AllBare s6.gens) := by
      refine ⟨Nat.le_trans hG5.size hg6.1, fun k hk => ?_, fun h => hg6.2.2 (hG5.bare h)⟩
      exact (hg6.2.1 k (Nat.lt_of_lt_of_le hk hG5.size) (Nat.ne_of_lt hk)).trans (hG5.gens k hk)
    have hd6' : s6.drawn = s.drawn := hd6.trans hG5.drawn
    have ho6' : s6.os = s.os := ho6.trans hG5.os
    have hlp := lg_pos ns.sum
    have F3k := F3.keep
    clear F3 N3
    k_steps
    rename Fr _ _ _ _ => F7
    rename News _ _ _ _ => N7
    refine length_prefix (X0.keeps F7.keep) (T0.keeps F7.keep) (by show A.depth + 1 < _; omega) (by show A.depth + 1 + 1 < _; omega) (by omega) (by omega) (.inr rfl) fun h8 tk8 c8 u8 hk8 hc8 => ?_
    have F8 := F7.keeps hk8
    have N8 := N7.grown hk8
    clear F7 N7
    rw [hc6] at hc8
    k_steps
    rename Fr _ _ _ _ => F9
    rename News _ _ _ _ => N9
    refine KBy.add_bytes (by omega) fun t' k => ?_
    have hp9 := N9.get List.mem_cons_self
    refine h _ _ _ ⟨hback F9.keep, ⟨more, ht3.two (fun o e => ?_) (fun o e => ?_)⟩, fun hw => ?_, hgs.1, hgs.2.1, hgs.2.2, hd6', ho6'⟩ ?_
    · obtain ⟨⟨o', _, e', _⟩, _⟩ := ht.tab
      have e1 := hx3 _ _ ht.ne (Heap.get?_push_of_some _ (hback (fun b o q => F3k b o q) _ _ ht.ne e'))
      rw [e1] at e
      cases e
      exact hback F9.keep _ _ ht.ne e'
    · rw [ht3.tab.2] at e
      cases e
      exact hp9
    · have := hm3 hw
      subst this
      rw [Array.append_empty] at hp9
      exact hp9
    · rw [Array.size_append]
      omega
theorem encode_raw : ∀ (d : Nat) {prog : Program} {w : World} {A : Around} {s : Shared} {Q E : Value → Shared → Prop} {p : Program} {loose : List Str} {mg mb : Str → Option Value} {P bm : Addr} {ob : Obj} {ps : Array Value} {v : Value} {n : Int}
    (X : (KK w.params).In s.heap) (T : TopRead p loose mg mb s.heap) (hroom : A.depth < recursionLimit) (M : BMod s.heap mainGlobals mg bm ob) (ht : Tab P ps s.heap) (hP : P ≠ cStatics) (hroom' : A.depth + 2 * d + 4 < recursionLimit) (hd : d ≤ 8) (hh : A.handled = none) (hv : Val s.heap d v n)
    (h : ∀ s' b t, Grt P ps s s' → (b.size : Int) = n → Q (.bytes b t) s'),
    wpAny (model prog w) A (call (.ref 1679) [v]) Q E s := by
  intro d
  induction d with
  | zero =>
    intro prog w A s Q E p loose mg mb P bm ob ps v n X T hroom M ht hP hroom' hd hh hv h
    unfold Val at hv
    exact encode_leaf X T hroom (by omega) hh hv fun h' tk b t' k hb => h _ _ _ (Grt.of_keep ht k) hb
  | succ d ih =>
    intro prog w A s Q E p loose mg mb P bm ob ps v n X T hroom M ht hP hroom' hd hh hv h
    have hvb := hv
    rcases hv with hv | ⟨a, vs, ns, rfl, hl, hs, hls, hx, rfl⟩
    · exact encode_leaf X T hroom (by omega) hh hv fun h' tk b t' k hb => h _ _ _ (Grt.of_keep ht k) hb
    · have hm : ∀ m ∈ ns, 0 ≤ m ∧ m ≤ bnd d := by
        intro m hm
        obtain ⟨i, hi, rfl⟩ := List.getElem_of_mem hm
        have hi' : i < vs.length := by omega
        obtain ⟨m, em, z⟩ := hx i vs[i] (List.getElem?_eq_getElem hi')
        rw [List.getElem?_eq_getElem hi] at em
        cases em
        exact val_bound z
      have b := sum_bound ns hm
      have q : bnd d * ns.length ≤ bnd d * 3 := Int.mul_le_mul_of_nonneg_left (by omega) (by have := bnd_pos d; omega)
      have e8 : bnd d ≤ bnd 8 := bnd_mono (by omega)
      have v8 : bnd 8 = 3975764 := by decide
      refine encode_row X T hroom M ht hP (by omega) hh hl hs hls hx b.1 (by omega) ?_ h
      intro A' s₂ Q' E' ps' v' n' X' T' M' ht' hdep hh' hv' h'
      exact ih X' T' (by omega) M' ht' hP (by omega) (by omega) hh' hv' h'
end Mine
namespace Mine
theorem fill_k8 : (KK = KK) ∧ (PySem.Challenge.rw_bi0019_01 = PySem.Challenge.rw_bi0019_01) := by
  k_fill
  exact ⟨rfl, rfl⟩
set_option maxHeartbeats 4000000 in
theorem encode_ok {prog : Program} {w : World} {A : Around} {s : Shared} {Q E : Value → Shared → Prop} {p : Program} {loose : List Str} {mg mb : Str → Option Value} {P bm : Addr} {ob : Obj} {ps : Array Value} {v : Value} {n : Int} {d : Nat}
    (X : (KK w.params).In s.heap) (T : TopRead p loose mg mb s.heap) (hroom : A.depth < recursionLimit) (M : BMod s.heap mainGlobals mg bm ob) (ht : Tab P ps s.heap) (hP : P ≠ cStatics) (hroom' : A.depth + 2 * d + 5 < recursionLimit) (hd : d ≤ 8) (hh : A.handled = none) (hv : Val s.heap d v n)
    (h : ∀ s' b t, Grt P ps s s' → (b.size : Int) = n → Q (.bytes b t) s') :
    wpAny (model prog w) A (call (.ref 1687) [v] [(Str.ofString "infer_serializer", .bool false)]) Q E s := by
  refine' enter X T hroom (binds := [(Str.ofString "obj", v), (Str.ofString "sedes", .none), (Str.ofString "infer_serializer", .bool false), (Str.ofString "cache", .bool true)]) ?ho ?hcd ?hb ?hl ?_ ?c1 ?c2 ?c3 ?c4
  case ho => k_is
  case hcd => k_is
  case hb => exact binds_K (by k_in) rfl (by k_is) rfl rfl rfl
  case hl => exact locs rfl
  case c1 => decide
  case c2 => rfl
  case c3 => rfl
  case c4 => rfl
  intro g L h₁ hg F N X T
  subst hg
  have hLP : P < s.heap.objs.size := Heap.lt_size ht.tab.2
  have F0 := hide_fr (P := P) F
  have X0 := in_hide ht.tab.2 X T.g hP (kb_ok _)
  have T0 := top_hide ht.tab.2 T
  have M0 := bmod_hide ht.tab.2 M
  have hv0 := val_hide ht.tab.2 hv
  have N0 : News (hideAll s.heap [P]) L h₁ [(P, tabObj ps)] := fun q hq => by
    rw [List.mem_singleton.mp hq]
    exact ⟨F.keep _ _ ht.tab.2, Nat.ne_of_lt (Nat.lt_of_lt_of_le hLP F.above), hideAll_none [P] List.mem_cons_self⟩
  have hback : ∀ {h' : Heap}, (∀ b o, (hideAll s.heap [P]).get? b = some o → h'.get? b = some o) → ∀ b o, b ≠ P → s.heap.get? b = some o → h'.get? b = some o := fun k => hide_keep k
  clear F N X T M
  k_steps
  rename Fr _ _ _ _ => F2
  rename News _ _ _ _ => N2
  have hp2 := N2.get List.mem_cons_self
  have hne2 := N2.ne_locals List.mem_cons_self
  have t2 := ht.of (hback F2.keep) hp2
  refine encode_raw d (X0.keeps F2.keep) (T0.keeps F2.keep) (by show A.depth + 1 < _; omega) (M0.keeps F2.keep) t2 hP (by show A.depth + 1 + 2 * d + 4 < _; omega) hd hh (hv0.keeps F2.keep) fun s' b t' hg hb => ?_
  have hg0P : ∀ b o, (hideAll s.heap [P]).get? b = some o → b ≠ P := fun b o e q => by rw [q, hideAll_none [P] List.mem_cons_self] at e; cases e
  have F3 := (⟨F2.ns.at' fun o e => hg.heap _ o hne2.symm e, fun b o e => hg.heap b o (hg0P b o e) (F2.keep b o e), F2.above⟩ : Fr (hideAll s.heap [P]) L s'.heap _)
  obtain ⟨more, htm⟩ := hg.tab
  have N3 : News (hideAll s.heap [P]) L s'.heap [(P, tabObj (ps ++ more))] := fun q hq => by
    rw [List.mem_singleton.mp hq]
    exact ⟨htm.tab.2, hne2, hideAll_none [P] List.mem_cons_self⟩
  have F2k := F2.keep
  clear F2 N2
  k_steps
  rename Fr _ _ _ _ => F4
  rename News _ _ _ _ => N4
  have hp4 := N4.get List.mem_cons_self
  refine h _ _ _ ⟨hback F4.keep, ⟨more, htm.two (fun o e => ?_) (fun o e => ?_)⟩, fun hw => ?_, hg.size, hg.gens, hg.bare, hg.drawn, hg.os⟩ hb
  · obtain ⟨⟨o', _, e', _⟩, _⟩ := ht.tab
    have e1 := hg.heap _ _ ht.ne (F2k _ _ (hideAll_get _ e' fun hm => ht.ne (List.mem_singleton.mp hm)))
    rw [e1] at e
    cases e
    exact hback F4.keep _ _ ht.ne e'
  · rw [htm.tab.2] at e
    cases e
    exact hp4
  · have q := hg.warm hw
    rw [htm.tab.2] at q
    rw [hp4]
    exact q
end Mine
namespace Mine
theorem fill_k9 : (KK = KK) ∧ (PySem.Challenge.rw_bi0019_01 = PySem.Challenge.rw_bi0019_01) := by
  k_fill
  exact ⟨rfl, rfl⟩
abbrev lstO (vs : List Value) (k : Nat) : Obj := { cls := .type "list", data := .seq vs.toArray k }
/-- a tree whose rows all lie in the ledger fp -/
def Vl (fp : List (Addr × Obj)) : Nat → Value → Int → Prop
  | 0, v, n => Leaf v n
  | d + 1, v, n => Leaf v n ∨ ∃ (a : Addr) (vs : List Value) (ns : List Int) (k : Nat), v = .ref a ∧ (a, lstO vs k) ∈ fp ∧ vs.length ≤ 3 ∧ vs.length = ns.length ∧
      (∀ (i : Nat) (x : Value), vs[i]? = some x → ∃ m : Int, ns[i]? = some m ∧ Vl fp d x m) ∧ n = lg ns.sum + ns.sum
theorem Vl.leaf {fp : List (Addr × Obj)} {v : Value} {n : Int} (x : Leaf v n) : ∀ d, Vl fp d v n
  | 0 => by unfold Vl; exact x
  | d + 1 => .inl x
theorem Vl.mono {fp fp' : List (Addr × Obj)} (k : ∀ q ∈ fp, q ∈ fp') : ∀ {d : Nat} {v : Value} {n : Int}, Vl fp d v n → Vl fp' d v n
  | 0, _, _, x => by unfold Vl at x ⊢; exact x
  | d + 1, v, n, .inl x => .inl x
  | d + 1, v, n, .inr ⟨a, vs, ns, z, e, hm, hs, hl, x, hn⟩ => .inr ⟨a, vs, ns, z, e, k _ hm, hs, hl, fun i y e => let ⟨m, em, q⟩ := x i y e; ⟨m, em, q.mono k⟩, hn⟩
theorem Vl.val {fp : List (Addr × Obj)} {h : Heap} (k : ∀ q ∈ fp, h.get? q.1 = some q.2) : ∀ {d : Nat} {v : Value} {n : Int}, Vl fp d v n → Val h d v n
  | 0, _, _, x => by unfold Vl at x; unfold Val; exact x
  | d + 1, v, n, .inl x => .inl x
  | d + 1, v, n, .inr ⟨a, vs, ns, z, e, hm, hs, hl, x, hn⟩ => .inr ⟨a, vs, ns, e, ⟨_, k _ hm, rfl, _, rfl⟩, hs, hl, fun i y e => let ⟨m, em, q⟩ := x i y e; ⟨m, em, q.val k⟩, hn⟩
theorem Vl.up {fp : List (Addr × Obj)} : ∀ {d : Nat} {v : Value} {n : Int}, Vl fp d v n → Vl fp (d + 1) v n
  | 0, _, _, x => .inl (by unfold Vl at x; exact x)
  | d + 1, v, n, .inl x => .inl x
  | d + 1, v, n, .inr ⟨a, vs, ns, z, e, hm, hs, hl, x, hn⟩ => .inr ⟨a, vs, ns, z, e, hm, hs, hl, fun i y e => let ⟨m, em, q⟩ := x i y e; ⟨m, em, q.up⟩, hn⟩
/-- objects of h' that h did not have -/
def New (h h' : Heap) (fp : List (Addr × Obj)) : Prop := ∀ q ∈ fp, h'.get? q.1 = some q.2 ∧ h.get? q.1 = none
theorem New.of_news {h h' : Heap} {L : Addr} {news : List (Addr × Obj)} (N : News h L h' news) : New h h' news := fun q hq => ⟨(N q hq).1, (N q hq).2.2⟩
theorem New.news {h₀ h h' : Heap} {L : Addr} {m : Str → Option Value} {fp news : List (Addr × Obj)} (F : Fr h₀ L h m) (N : News h₀ L h news) (k : ∀ b o, h.get? b = some o → h'.get? b = some o) (x : New h h' fp) : News h₀ L h' (fp ++ news) := fun q hq => by
  rcases List.mem_append.mp hq with hq | hq
  · refine ⟨(x q hq).1, fun e => ?_, ?_⟩
    · obtain ⟨o, es, ep, ho, _⟩ := F.ns
      have := (x q hq).2
      rw [e, ho] at this
      cases this
    · cases e : h₀.get? q.1 with
      | none => rfl
      | some o => have := F.keep _ _ e; rw [(x q hq).2] at this; cases this
  · exact N.grown k q hq
section
variable {prog : Program} {w : World} {A : Around} {s : Shared} {K : Frag}
  {name qual : Str} {params : Arguments} {body : List Stmt} {scope : Scope} {dV kV doc pm cdv ct oc : Value} {an od : Option Addr} {osl : Array (Option Value)} {f : Addr} {args : List Value} {kw : List (Str × Value)} {binds : List (Str × Value)}
  {Q E : Value → Shared → Prop} {p : Program} {loose : List Str} {mg mb : Str → Option Value}

theorem enterC (X : K.In s.heap) (T : TopRead p loose mg mb s.heap) (hroom : A.depth < recursionLimit)
    (ho : K.lookup f = some ⟨oc, od, .func (fnOf name qual params body scope dV kV doc pm an cdv ct), osl⟩) (hcd : codeIn K cdv qual = true)
    (hbind : BindsTo s (fnOf name qual params body scope dV kV doc pm an cdv ct) ⟨args, kw⟩ binds) (hkind : (binds.all fun y => scope.names.lookup y.1 == some .local || scope.names.lookup y.1 == some .cell) = true)
    (hnd : ((cellsFrom 0 scope.names []).map (·.1)).Nodup)
    (h : ∀ g L h₁ tk cells, g = s.heap → Fr g L h₁ (bindL (envOfC qual scope L f cdv).kindOf binds fun _ => none) → News g L h₁ cells →
      CellsAre (bindC (envOfC qual scope L f cdv).kindOf binds fun _ => none) (cellsFrom (L + 1) scope.names []) cells → K.In g → TopRead p loose mg mb g →
      wpAny (model prog w) (A.deeper (envOfC qual scope L f cdv)) (execs body (envOfC qual scope L f cdv))
        (fun fl s' => Q (match fl with | .ret v => v | _ => .none) s') (fun _ _ => False) { s with heap := h₁, toks := tk })
    (hco : scope.isCoroutine = false := by rfl) (hgen : scope.isGenerator = false := by rfl) (hk : scope.kind = .function := by rfl) :
    wpAny (model prog w) A (call (.ref f) args kw) Q E s := by
  refine wpAny_call (codeAny_call_function hroom (X _ _ ho) rfl hco hgen rfl (codeRec_of X hcd) (hbind _ _ _ _ ?_))
  refine wpAny_newFunctionEnv_cells hk (kindsX hkind _) fun env' he s' x => ?_
  subst he
  refine ⟨T.nolimit.keeps x.toInCall.keep, codeAny_func ?_⟩
  obtain ⟨h₁, tk, rfl, _⟩ := x.done
  have hk₁ := x.toInCall.keep
  obtain ⟨cells, NC, Y⟩ := Cl.news (h₀ := s.heap) (Nat.le_refl _) fun n c hm => ⟨x.cell n c (lookup_of_mem_nodup (cellsFrom_names scope.names 0 (s.heap.objs.size + 1) [] [] rfl ▸ hnd) hm), x.above n c hm⟩
  exact wpAny_mono (h _ s.heap.objs.size h₁ tk cells rfl ⟨x.toInCall.ns, hk₁, Nat.le_refl _⟩ NC Y X T) (fun fl s' hl => hl) fun _ _ y => y.elim
end
end Mine
namespace Mine
theorem fill_k10 : (KK = KK) ∧ (PySem.Challenge.rw_bi0019_01 = PySem.Challenge.rw_bi0019_01) := by
  k_fill
  exact ⟨rfl, rfl⟩
section
variable {prog : Program} {w : World} {A : Around} {E : Value → Shared → Prop} {s : Shared} {h₀ : Heap} {L : Addr} {m : Str → Option Value} {env : Env}
def SrcB (prog : Program) (w : World) (A : Around) (h₀ : Heap) (L : Addr) (m : Str → Option Value) (env : Env) (elt : Expr) (x : Str) (scope : Scope) (cl : List (Str × Addr)) (Q : Value → Shared → Prop) (xv : Value) (s₁ : Shared) : Prop :=
  ∃ b t news, xv = .bytes b t ∧ A.handled = none ∧ Fr h₀ L s₁.heap m ∧ News h₀ L s₁.heap news ∧ b.size ≤ sizeLine ∧
    ∀ s₂ : Shared, (∃ h, s₂ = { s₁ with heap := h }) → LCg.CompRest prog w A h₀ L m env elt x scope cl s₂ (fun _ => True) (fun i v => ∃ c u, b[i]? = some c ∧ v = .int (c.toNat : Int) u) (LCg.FinE h₀ L m s₂ Q) b.size 0 [] news
theorem ListComp_B {elt iter : Expr} {x : Str} {px : Pos} {scope : Scope} {cl : List (Str × Addr)} {pos : Pos} {Q : Value → Shared → Prop} (F₀ : Fr h₀ L s.heap m)
    (hclos : closureFor scope env = pure cl) (hcell : ∀ y ∈ scope.names, y.2 ≠ .cell) (hkind : scope.kind = .function)
    (hnames : ∀ y ∈ scope.names, y.2 = .local → scope.names.lookup y.1 = some .local) (hx : scope.names.lookup x = some .local)
    (h : wpAny (model prog w) A (eval iter env) (SrcB prog w A h₀ L m env elt x scope cl Q) E s)
    (hs : ∀ x, foldedSetIterable iter env x = pure x := by intro _; rfl) :
    wpAny (model prog w) A (eval (.ListComp elt [⟨.Name x px, iter, [], 0⟩] scope pos) env) Q E s := by
  rw [eval_ListComp]
  refine wpAny_comprehension_free (use := none) rfl hs hclos hkind hnames (wpAny_mono h (fun xv s₁ h₁ => ?_) fun _ _ e => e)
  obtain ⟨b, t, news, rfl, hh, F, N, hsz, R⟩ := h₁
  refine KBw.pyIter_bytes ?_
  refine LCg.block_U (KBw.walks hh s₁.heap.objs.size b t) hsz (fun i h st => by obtain ⟨o, e, _⟩ := st; exact ⟨o, e⟩) (fun i h h' o nw st e e' _ _ _ => by obtain ⟨o', q, r⟩ := st; rw [e] at q; cases q; exact ⟨o, e', r⟩) hcell hkind hx ⟨_, Heap.get?_push_size _ rfl, rfl, rfl⟩ (fun b hb => ?_)
    (F.keeps fun _ _ e => Heap.get?_push_of_some _ e) (N.grown fun _ _ e => Heap.get?_push_of_some _ e) (Nat.ne_of_lt F.ns.lt) (next_is_new F) (fun p hp => Nat.ne_of_lt (Heap.lt_size (N p hp).1)) trivial (R _ ⟨_, rfl⟩) ?_
  · rw [List.mem_singleton.mp hb]
    show s₁.heap.objs.size < (s₁.heap.push _).objs.size
    rw [Heap.size_push]; exact Nat.lt_succ_self _
  · intro D C h tk m' ys news' F' N' o1 hn hC₀ hD₀ hCL hDL hCD offC fin
    refine ⟨m', hn, fun h'' hs'' => fin D h'' tk (F'.change hs'' hCL hC₀) (fun p hp => ?_) o1⟩
    refine ⟨hs''.extBut _ _ ?_ (N' p hp).1, (N' p hp).2⟩
    rcases List.mem_cons.mp hp with rfl | hp
    · exact Ne.symm hCD
    · exact offC p hp
end
theorem mod_in (k t : Int) : 0 ≤ (k + t).fmod 256 ∧ (k + t).fmod 256 < 256 := by
  rw [Int.fmod_eq_emod_of_nonneg _ (by decide)]
  omega
set_option maxHeartbeats 4000000 in
theorem other_leaf {prog : Program} {w : World} {A : Around} {s : Shared} {Q E : Value → Shared → Prop} {p : Program} {loose : List Str} {mg mb : Str → Option Value} {v : Value} {n turn : Int} {tt : Tok}
    (X : (KK w.params).In s.heap) (T : TopRead p loose mg mb s.heap) (hroom : A.depth < recursionLimit) (hroom' : A.depth + 2 < recursionLimit) (hh : A.handled = none) (hv : Leaf v n) (ht0 : 0 ≤ turn) (ht1 : turn < 256)
    (h : ∀ h' tk v', (∀ b o, s.heap.get? b = some o → h'.get? b = some o) → Leaf v' n → Q v' { s with heap := h', toks := tk }) :
    wpAny (model prog w) A (call (.ref 1730) [v, .int turn tt]) Q E s := by
  obtain ⟨b, t, ks, rfl, hk, hb, rfl⟩ := hv
  refine' enterC X T hroom (binds := [(Str.ofString "value", .bytes b t), (Str.ofString "turn", .int turn tt)]) ?ho ?hcd ?hb ?hl ?hn ?_ ?c2 ?c3 ?c4
  case ho => k_is
  case hcd => k_is
  case hb => exact BindsTo.of_eq rfl
  case hl => exact rfl
  case hn => decide +kernel
  case c2 => rfl
  case c3 => rfl
  case c4 => rfl
  intro g L h₁ tk cells hg F N Y X T
  subst hg
  k_cells Y
  repeat' ((fail_if_success (with_reducible show wpAny _ _ (eval (Expr.ListComp _ _ _ _) _) _ _ _)); first | (k_unfold; (try dsimp only)) | (k_end; kc_close) | walk1 | (dsimp only; walk1) | (leave1; walk_say "STEP leave1"; (try dsimp only)) | fail "no step")
  · rename Fr _ _ _ _ => F2
    rename News _ _ _ _ => N2
    have hin := KBw.ints_in (b := b) (k := ks.getD 0 0)
    have hks : ∃ k0, ks = [k0] := by
      rcases ks with _ | ⟨k0, _ | ⟨k1, r⟩⟩
      · simp at *
      · exact ⟨k0, rfl⟩
      · simp at *; omega
    obtain ⟨k0, rfl⟩ := hks
    have hk0 : 0 ≤ k0 ∧ k0 < 256 := KBw.ints_in (b := b) (k := k0) (by rw [hk]; exact List.mem_cons_self)
    have e1 : (k0 + turn).fmod 128 = (k0 + turn) % 128 := Int.fmod_eq_emod_of_nonneg _ (by decide)
    have e2 : k0.fdiv 128 = k0 / 128 := Int.fdiv_eq_ediv_of_nonneg _ (by decide)
    refine KBa.make_K F2 N2 hh (N2.isList List.mem_cons_self) (ns := [(k0 + turn).fmod 128 + k0.fdiv 128 * 128]) (.cons _ _ .nil) (fun n hn => ?_) (by simp) fun h' t' k F3 N3 hr => ?_
    · rw [List.mem_singleton.mp hn, e1, e2]; omega
    · refine h _ _ _ F3.keep ⟨_, _, _, rfl, KBa.ints_make hr, by simp, ?_⟩
      unfold leafLen
      simp only [List.length_singleton, List.getD_cons_zero, e1, e2]
      by_cases hlt : k0 < 128
      · rw [if_pos ⟨rfl, hlt⟩, if_pos ⟨rfl, by omega⟩]
      · rw [if_neg (fun x => hlt x.2), if_neg (fun x => by have := x.2; omega)]
  · refine ListComp_B (cl := _) F rfl (by decide) rfl (by decide) rfl ?_
    walk1
    refine ⟨b, t, _, rfl, hh, F, N, by rw [← KBw.ints_length, hk, sizeLine_eq]; omega, fun s₂ hs₂ => ?_⟩
    obtain ⟨h9, rfl⟩ := hs₂
    refine kcf_rest (ks := ks) (fun k => (k + turn).fmod 256) (by rw [← hk, KBw.ints_length]) (fun i v hi hv => ?_) ?_ ?_
    · obtain ⟨c, u, hc, rfl⟩ := hv
      exact ⟨_, u, by rw [← hk]; exact KBw.ints_get hc, rfl⟩
    · intro k t I oI C oC D m₂ ys h tk E' hkm hC hx2 F' N' off ne mk
      k_steps
    · intro ys hys
      clear F N
      intro D h' tk' F' N' o1
      k_steps
      refine KBa.make_K F' N' hh (N'.isList List.mem_cons_self) hys (fun n hn => ?_) (by rw [List.length_map]; omega) fun h' t' k F3 N3 hr => ?_
      · obtain ⟨k, _, rfl⟩ := List.mem_map.mp hn
        exact mod_in k turn
      · refine h _ _ _ F3.keep ⟨_, _, _, rfl, KBa.ints_make hr, by rw [List.length_map]; exact hb, ?_⟩
        unfold leafLen
        rw [if_neg (fun x => absurd x.1 (by assumption)), if_neg (fun x => absurd x.1 (by rw [List.length_map]; assumption)), List.length_map]
end Mine
namespace Mine
theorem fill_k11 : (KK = KK) ∧ (PySem.Challenge.rw_bi0019_01 = PySem.Challenge.rw_bi0019_01) := by
  k_fill
  exact ⟨rfl, rfl⟩
set_option maxHeartbeats 4000000 in
theorem law_other : ∀ (d : Nat) {prog : Program} {w : World} {A : Around} {s : Shared} {Q E : Value → Shared → Prop} {p : Program} {loose : List Str} {mg mb : Str → Option Value} {v : Value} {n turn : Int} {tt : Tok}
    (X : (KK w.params).In s.heap) (T : TopRead p loose mg mb s.heap) (hroom : A.depth < recursionLimit) (hroom' : A.depth + d + 2 < recursionLimit) (hh : A.handled = none) (hv : Val s.heap d v n) (ht0 : 0 ≤ turn) (ht1 : turn < 256)
    (h : ∀ h' tk v' fp, (∀ b o, s.heap.get? b = some o → h'.get? b = some o) → New s.heap h' fp → Vl fp d v' n → Q v' { s with heap := h', toks := tk }),
    wpAny (model prog w) A (call (.ref 1730) [v, .int turn tt]) Q E s := by
  intro d
  induction d with
  | zero =>
    intro prog w A s Q E p loose mg mb v n turn tt X T hroom hroom' hh hv ht0 ht1 h
    unfold Val at hv
    exact other_leaf X T hroom (by omega) hh hv ht0 ht1 fun h' tk v' k hl => h _ _ _ [] k (fun _ hq => nomatch hq) (Vl.leaf hl 0)
  | succ d ih =>
    intro prog w A s Q E p loose mg mb v n turn tt X T hroom hroom' hh hv ht0 ht1 h
    rcases hv with hv | ⟨a, vs, ns, rfl, hl, hs, hls, hx, rfl⟩
    · exact other_leaf X T hroom (by omega) hh hv ht0 ht1 fun h' tk v' k hl => h _ _ _ [] k (fun _ hq => nomatch hq) (Vl.leaf hl _)
    refine' enterC X T hroom (binds := [(Str.ofString "value", .ref a), (Str.ofString "turn", .int turn tt)]) ?ho ?hcd ?hb ?hl ?hn ?_ ?c2 ?c3 ?c4
    case ho => k_is
    case hcd => k_is
    case hb => exact BindsTo.of_eq rfl
    case hl => exact rfl
    case hn => decide +kernel
    case c2 => rfl
    case c3 => rfl
    case c4 => rfl
    intro g L h₁ tk cells hg F N Y X T
    subst hg
    k_cells Y
    repeat' ((fail_if_success (with_reducible show wpAny _ _ (eval (Expr.ListComp _ _ _ _) _) _ _ _)); first | (k_unfold; (try dsimp only)) | (k_end; kc_close) | walk1 | (dsimp only; walk1) | (leave1; walk_say "STEP leave1"; (try dsimp only)) | fail "no step")
    refine LCg.ListComp_U F rfl (by decide) rfl (by decide) rfl ?_
    repeat' ((fail_if_success (with_reducible show LCg.CompSrc _ _ _ _ _ _ _ _ _ _ _ _ _ _)); walk1)
    rename Fr _ _ _ _ => F2
    rename News _ _ _ _ => N2
    have hsz : (slicePick vs.toArray none none (some (-1))).size = vs.length := by rw [krv_pick]; simp
    have hget : ∀ (i : Nat) (v : Value), (slicePick vs.toArray none none (some (-1)))[i]? = some v → ∃ m : Int, ns.reverse[i]? = some m ∧ Val s.heap d v m := by
      intro (i : Nat) (v : Value) e
      rw [krv_pick] at e
      have e' : vs.reverse[i]? = some v := by simpa using e
      have hi : i < vs.length := by
        have := (List.getElem?_eq_some_iff.mp e').1
        simpa using this
      rw [List.getElem?_reverse hi] at e'
      obtain ⟨m, em, hV⟩ := hx _ _ e'
      refine ⟨m, ?_, hV⟩
      rw [List.getElem?_reverse (by omega), ← hls]
      exact em
    rename Obj => o'
    rename _ = Data.cell _ => hd1
    have key := (⟨_, N2, List.mem_cons_self, List.mem_cons_of_mem _ List.mem_cons_self⟩ : ∃ nw0, News _ _ _ nw0 ∧ (_ : Addr × Obj) ∈ nw0 ∧ (_ : Addr × Obj) ∈ nw0)
    clear F N N2
    obtain ⟨nw0, N2, hm1, hm2⟩ := key
    refine LCg.CompSrc.ledger hh F2 N2 hm1 (by rw [hsz, sizeLine_eq]; omega) fun g' => ?_
    refine rest_any (fun i ys nw => ∃ fp, nw = fp ++ nw0 ∧ ys.length = i ∧ ∀ (j : Nat) (y : Value), ys[j]? = some y → ∃ m : Int, ns.reverse[j]? = some m ∧ Vl fp d y m) ?_ ⟨[], rfl, rfl, fun j y e => by simp at e⟩ ?_
    · intro i v I oI C oC D m₂ ys nw h tk E' hv hi hJ hC hx2 F' N' off ne
      obtain ⟨fp, rfl, hlen, hJ⟩ := hJ
      obtain ⟨k, hk, hV⟩ := hget i v hv
      have N3 : News s.heap L h ((L + 1, o') :: (I, oI) :: (C, oC) :: (D, LCg.lst ys) :: (fp ++ nw0)) := fun q hq => by
        rcases List.mem_cons.mp hq with rfl | hq
        · exact N' _ (List.mem_cons_of_mem _ (List.mem_cons_of_mem _ (List.mem_cons_of_mem _ (List.mem_append_right _ hm2))))
        · exact N' _ hq
      clear N'
      k_steps
      rename Fr _ _ _ _ => F5
      rename News _ _ _ _ => N5
      refine ih (X.keeps F5.keep) (T.keeps F5.keep) (by show A.depth + 1 < _; omega) (by show A.depth + 1 + d + 2 < _; omega) hh (hV.keeps F5.keep) ht0 ht1 fun h' tk' v' fp' hkp hnew hvl => ?_
      have gI := (N5 (I, oI) (List.mem_cons_of_mem _ List.mem_cons_self)).1
      have gC := (N5 (C, oC) (List.mem_cons_of_mem _ (List.mem_cons_of_mem _ List.mem_cons_self))).1
      have gD := (N5 (D, LCg.lst ys) (List.mem_cons_of_mem _ (List.mem_cons_of_mem _ (List.mem_cons_of_mem _ List.mem_cons_self)))).1
      have apart : ∀ q ∈ fp', ∀ b o, h.get? b = some o → q.1 ≠ b := fun q hq b o e z => by have := (hnew q hq).2; rw [z, e] at this; cases this
      refine LCg.CompEnd.intro (F5.keeps hkp) (hnew.news F5 N5 hkp) ((fp' ++ fp) ++ nw0) (fun q hq => ?_) (LCg.Off3.of fun q hq => ?_) (.inr ⟨_, List.mem_append_right _ hm1, rfl, _, rfl⟩) ⟨fp' ++ fp, rfl, by simp [hlen], fun j y e => ?_⟩
      · rcases List.mem_cons.mp hq with rfl | hq
        · exact List.mem_append_right _ (List.mem_cons_of_mem _ List.mem_cons_self)
        · rcases List.mem_cons.mp hq with rfl | hq
          · exact List.mem_append_right _ (List.mem_cons_of_mem _ (List.mem_cons_of_mem _ List.mem_cons_self))
          · rcases List.mem_cons.mp hq with rfl | hq
            · exact List.mem_append_right _ (List.mem_cons_of_mem _ (List.mem_cons_of_mem _ (List.mem_cons_of_mem _ List.mem_cons_self)))
            · rw [List.append_assoc] at hq
              rcases List.mem_append.mp hq with hq | hq
              · exact List.mem_append_left _ hq
              · exact List.mem_append_right _ (List.mem_cons_of_mem _ (List.mem_cons_of_mem _ (List.mem_cons_of_mem _ (List.mem_cons_of_mem _ hq))))
      · rw [List.append_assoc] at hq
        rcases List.mem_append.mp hq with hq | hq
        · exact ⟨apart q hq _ _ gI, apart q hq _ _ gC, apart q hq _ _ gD⟩
        · exact off.mem q hq
      · by_cases hj : j < ys.length
        · rw [List.getElem?_append_left hj] at e
          obtain ⟨m, em, z⟩ := hJ j y e
          exact ⟨m, em, z.mono fun q hq => List.mem_append_right _ hq⟩
        · have hj' := (List.getElem?_eq_some_iff.mp e).1
          rw [List.length_append, List.length_singleton] at hj'
          have : j = i := by omega
          subst this
          rw [List.getElem?_append_right (by omega), hlen, Nat.sub_self] at e
          cases e
          exact ⟨k, hk, hvl.mono fun q hq => List.mem_append_left _ hq⟩
    · intro ys nw hJ
      obtain ⟨fp, rfl, hlen, hJ⟩ := hJ
      intro D h' tk' F' N' o1
      dsimp only
      refine h _ _ _ ((D, LCg.lst ys) :: (fp ++ nw0)) F'.keep (New.of_news N') (.inr ⟨D, ys, ns.reverse, _, rfl, List.mem_cons_self, by omega, by rw [List.length_reverse]; omega, fun j y e => ?_, by rw [List.sum_reverse]⟩)
      obtain ⟨m, em, q⟩ := hJ j y e
      exact ⟨m, em, q.mono fun z hz => List.mem_cons_of_mem _ (List.mem_append_left _ hz)⟩
end Mine
namespace Mine
theorem fill_k12 : (KK = KK) ∧ (PySem.Challenge.rw_bi0019_01 = PySem.Challenge.rw_bi0019_01) := by
  k_fill
  exact ⟨rfl, rfl⟩
/-- what _law_value says at a depth -/
def ValueOk (prog : Program) (w : World) (N : Nat) (p : Program) (loose : List Str) (mg mb : Str → Option Value) (d : Nat) : Prop :=
  ∀ {A : Around} {s : Shared} {Q E : Value → Shared → Prop} {l : Addr} {xs : List Value} {ks : List Int} {t : Tok}, (KK w.params).In s.heap → TopRead p loose mg mb s.heap → A.depth + d ≤ N → A.units + 3 * d + 100 < 9900 → A.handled = none →
    s.heap.IsList l xs.toArray → IntsAre xs ks → xs.length ≤ 64 →
    (∀ h' tk T v r rs ks' n j fp, (∀ b o, s.heap.get? b = some o → h'.get? b = some o) → New s.heap h' fp → (T, ({ cls := .type "tuple", data := .seq #[v, .ref r] } : Obj)) ∈ fp → (r, lstO rs j) ∈ fp → IntsAre rs ks' → rs.length ≤ 64 → Vl fp d v n → Q (.ref T) { s with heap := h', toks := tk }) →
    wpAny (model prog w) A (call (.ref 1713) [.ref l, .int (d : Int) t]) Q E s
theorem at_toks {M : Model} {A : Around} {α : Type} {m : Sem α} {Q : α → Shared → Prop} {E : Value → Shared → Prop} {s s0 : Shared} {h₀ h' : Heap} {L : Addr} {f : Str → Option Value} (_F : Fr h₀ L h' f) (e : s = { s0 with heap := h', toks := s.toks })
    (h : ∀ tk, wpAny M A m Q E { s0 with heap := h', toks := tk }) : wpAny M A m Q E s := by rw [e]; exact h _
theorem at_loop {prog : Program} {w : World} {A : Around} {h₀ h' : Heap} {L : Addr} {f : Str → Option Value} {env : Env} {x : Str} {body : List Stmt} {Q : Flow → Shared → Prop} {E : Value → Shared → Prop} {it : Value} {o : Obj} {s s0 : Shared} (_F : Fr h₀ L h' f) (e : s = { s0 with heap := h'.push o, toks := s.toks })
    (h : ∀ tk, LoopAtV prog w A h₀ env x body Q E it { s0 with heap := h'.push o, toks := tk }) : LoopAtV prog w A h₀ env x body Q E it s := by rw [e]; exact h _
def mkm (f0 : Str → Option Value) (R r : Addr) (oo kk : Option Value) (δ : Int) (t : Tok) : Str → Option Value := fun y =>
  if y = Str.ofString "rest" then some (.ref r) else if y = Str.ofString "one" then oo else if y = Str.ofString "k" then kk else if y = Str.ofString "row" then some (.ref R) else if y = Str.ofString "deep" then some (.int δ t) else f0 y
theorem mkm_id {f0 : Str → Option Value} {R r : Addr} {δ : Int} {t : Tok} (h1 : f0 (Str.ofString "rest") = some (.ref r)) (h2 : f0 (Str.ofString "one") = none) (h3 : f0 (Str.ofString "k") = none) (h4 : f0 (Str.ofString "row") = some (.ref R)) (h5 : f0 (Str.ofString "deep") = some (.int δ t)) :
    f0 = mkm f0 R r none none δ t := by
  funext y
  unfold mkm
  by_cases e1 : y = Str.ofString "rest"
  · rw [if_pos e1, e1, h1]
  · rw [if_neg e1]
    by_cases e2 : y = Str.ofString "one"
    · rw [if_pos e2, e2, h2]
    · rw [if_neg e2]
      by_cases e3 : y = Str.ofString "k"
      · rw [if_pos e3, e3, h3]
      · rw [if_neg e3]
        by_cases e4 : y = Str.ofString "row"
        · rw [if_pos e4, e4, h4]
        · rw [if_neg e4]
          by_cases e5 : y = Str.ofString "deep"
          · rw [if_pos e5, e5, h5]
          · rw [if_neg e5]
theorem mkm_step {f0 : Str → Option Value} {R r r' : Addr} {oo kk : Option Value} {v w : Value} {δ : Int} {t : Tok} (y : Str) :
    (if y = Str.ofString "rest" then some (.ref r') else if y = Str.ofString "one" then some v else if y = Str.ofString "k" then some w else mkm f0 R r oo kk δ t y) = mkm f0 R r' (some v) (some w) δ t y := by
  unfold mkm
  by_cases e1 : y = Str.ofString "rest"
  · simp only [if_pos e1]
  · simp only [if_neg e1]
    by_cases e2 : y = Str.ofString "one"
    · simp only [if_pos e2]
    · simp only [if_neg e2]
      by_cases e3 : y = Str.ofString "k"
      · simp only [if_pos e3]
      · simp only [if_neg e3]
theorem fr_congr {h₀ h : Heap} {L : Addr} {m m' : Str → Option Value} (F : Fr h₀ L h m) (e : ∀ y, m y = m' y) : Fr h₀ L h m' := (funext e : m = m') ▸ F
/-- where _law_value's loop stands before its i-th turn -/
def LoopJ (f0 : Str → Option Value) (R : Addr) (δ : Int) (t : Tok) (d' : Nat) (i : Nat) (m : Str → Option Value) (nw : List (Addr × Obj)) : Prop :=
  ∃ (r : Addr) (rs : List Value) (ks' : List Int) (jr : Nat) (ys : List Value) (ns : List Int) (oo kk : Option Value) (fp : List (Addr × Obj)), m = mkm f0 R r oo kk δ t ∧ nw = (R, LCg.lst ys) :: fp ∧ (∀ q ∈ fp, q.1 ≠ R) ∧
    (r, lstO rs jr) ∈ fp ∧ IntsAre rs ks' ∧ rs.length ≤ 64 ∧ ys.length = i ∧ ns.length = i ∧ ∀ (j : Nat) (y : Value), ys[j]? = some y → ∃ m' : Int, ns[j]? = some m' ∧ Vl fp d' y m'
theorem menu_ok (j : Nat) : 0 ≤ ([1, 2, 0, 3, 55, 56, 300] : List Int).getD j 0 ∧ ([1, 2, 0, 3, 55, 56, 300] : List Int).getD j 0 ≤ 300 := by
  rcases j with _ | _ | _ | _ | _ | _ | _ | j <;> simp
theorem menu_item {prog : Program} {w : World} {A : Around} {E : Value → Shared → Prop} {s : Shared} {value slice : PySem.Expr} {l : Addr} {vs : List Value} {k : Int} {u : Tok} {Q : Value → Shared → Prop} (hl : s.heap.IsList l vs.toArray) (hi : IntsAre vs [1, 2, 0, 3, 55, 56, 300])
    (h0 : 0 ≤ k) (h1 : k < 7) (h : ∀ sz t, 0 ≤ sz → sz ≤ 300 → Q (.int sz t) s)
    (hs : subscripted slice false (.ref l) (.int k u) = operate [.ref l, .int k u] (getItem (.ref l) (.int k u)) := by with_unfolding_all rfl) :
    wpAny (model prog w) A (subscriptTail value slice (.ref l) (.int k u)) Q E s :=
  item_anyK hl hi h0 h1 (by omega) (fun t => h _ t (menu_ok _).1 (menu_ok _).2) hs
theorem rep_len (a : Nat) (x : Int) : (List.replicate a [x]).flatten.length = a := by
  induction a with
  | zero => rfl
  | succ n ih => rw [List.replicate_succ, List.flatten_cons, List.length_append, ih]; simp; omega
theorem rep_mem {a : Nat} {x n : Int} (h : n ∈ (List.replicate a [x]).flatten) : n = x := by
  obtain ⟨l, hl, hn⟩ := List.mem_flatten.mp h
  rw [List.eq_of_mem_replicate hl] at hn
  exact List.mem_singleton.mp hn
set_option maxHeartbeats 16000000 in
theorem law_value_step {prog : Program} {w : World} {A : Around} {s : Shared} {Q E : Value → Shared → Prop} {p : Program} {loose : List Str} {mg mb : Str → Option Value} {l : Addr} {xs : List Value} {ks : List Int} {t : Tok} {d : Nat} {δ : Int}
    (X : (KK w.params).In s.heap) (T : TopRead p loose mg mb s.heap) (hroom : A.depth < recursionLimit) (hroom' : A.depth + d + 3 < recursionLimit) (hu : A.units + 3 * d + 100 < 9900) (hd : δ = (d : Int)) (hh : A.handled = none) (hl : s.heap.IsList l xs.toArray) (hi : IntsAre xs ks) (hz : xs.length ≤ 64)
    (inner : ∀ d', d = d' + 1 → ValueOk prog w (A.depth + d) p loose mg mb d')
    (h : ∀ h' tk T v r rs ks' n j fp, (∀ b o, s.heap.get? b = some o → h'.get? b = some o) → New s.heap h' fp → (T, ({ cls := .type "tuple", data := .seq #[v, .ref r] } : Obj)) ∈ fp → (r, lstO rs j) ∈ fp → IntsAre rs ks' → rs.length ≤ 64 → Vl fp d v n → Q (.ref T) { s with heap := h', toks := tk }) :
    wpAny (model prog w) A (call (.ref 1713) [.ref l, .int δ t]) Q E s := by
  obtain ⟨hnd, dA, fA, gA, uA⟩ := A
  dsimp only at hh hroom hroom' hu inner
  subst hh
  refine' enter X T hroom (binds := [(Str.ofString "numbers", .ref l), (Str.ofString "deep", .int δ t)]) ?ho ?hcd ?hb ?hl ?_ ?c1 ?c2 ?c3 ?c4
  case ho => k_is
  case hcd => k_is
  case hb => exact BindsTo.of_eq rfl
  case hl => exact locs rfl
  case c1 => decide
  case c2 => rfl
  case c3 => rfl
  case c4 => rfl
  intro g L h₁ hg F N X T
  subst hg
  have hd0 : 0 ≤ δ := by omega
  have hlen := hi.length
  by_cases hks : ks = []
  · subst hks
    k_steps
    rename Fr _ _ _ _ => F2
    rename News _ _ _ _ => N2
    refine h _ _ _ _ _ [] [] _ _ _ F2.keep (New.of_news N2) List.mem_cons_self (List.mem_cons_of_mem _ List.mem_cons_self) .nil (by simp) (Vl.leaf ⟨_, _, [], rfl, rfl, by simp, rfl⟩ d)
  · have hpos : 0 < ks.length := List.length_pos_iff.mpr hks
    have hxp : 0 < xs.length := by omega
    have hk7 : 0 ≤ (ks.getD (Int.toNat 0) 0).fmod 7 ∧ (ks.getD (Int.toNat 0) 0).fmod 7 < 7 := by
      rw [Int.fmod_eq_emod_of_nonneg _ (by decide)]; omega
    have hq7 : 0 ≤ ((ks.getD (Int.toNat 0) 0).fdiv 7).fmod 7 ∧ ((ks.getD (Int.toNat 0) 0).fdiv 7).fmod 7 < 7 := by
      rw [Int.fmod_eq_emod_of_nonneg _ (by decide)]; omega
    repeat' (((fail_if_success (with_reducible show wpAny _ _ (subscriptTail (Expr.List _ _) _ _ _) _ _ _)); (fail_if_success (with_reducible show wpAny _ _ (PySem.exec (PySem.Stmt.For _ _ _ _ _) _) _ _ _))); first | (k_unfold; (try dsimp only)) | (k_end; kc_close) | walk1 | dsimp only | (leave1; walk_say "STEP leave1"; (try dsimp only)) | fail "no step")
    rotate_right
    · rename Fr _ _ _ _ => F2
      rename News _ _ _ _ => N2
      rename IntsAre _ (List.drop 1 ks) => hI1
      have hI1l := hI1.length
      obtain ⟨d', rfl⟩ : ∃ d', d = d' + 1 := ⟨d - 1, by omega⟩
      have inn := @inner d' rfl
      refine For_invV s.heap rfl rfl ?_
      repeat' (((fail_if_success (with_reducible show wpAny _ _ (pyIter _) _ _ _))); first | (k_unfold; (try dsimp only)) | (k_end; kc_close) | walk1 | dsimp only | (leave1; walk_say "STEP leave1"; (try dsimp only)) | fail "no step")
      rename IsRange _ _ _ _ _ _ _ _ => hR
      rename Fr _ _ _ _ => F3
      rename News _ _ _ _ => N3
      have hcnt : 0 ≤ (ks.getD (Int.toNat 0) 0).fmod 7 - 4 + ((ks.getD (Int.toNat 0) 0).fdiv 7).fmod 2 ∧ (ks.getD (Int.toNat 0) 0).fmod 7 - 4 + ((ks.getD (Int.toNat 0) 0).fdiv 7).fmod 2 ≤ 3 := by
        have h2 : 0 ≤ ((ks.getD (Int.toNat 0) 0).fdiv 7).fmod 2 ∧ ((ks.getD (Int.toNat 0) 0).fdiv 7).fmod 2 < 2 := by
          rw [Int.fmod_eq_emod_of_nonneg (b := 2) _ (by decide)]; omega
        omega
      generalize (ks.getD (Int.toNat 0) 0).fmod 7 - 4 + ((ks.getD (Int.toNat 0) 0).fdiv 7).fmod 2 = cnt at hR hcnt
      obtain ⟨nn, rfl⟩ : ∃ nn : Nat, cnt = (nn : Int) := ⟨cnt.toNat, by omega⟩
      have hnn : nn = 0 ∨ nn = 1 ∨ nn = 2 ∨ nn = 3 := by omega
      have hsm : Builtin.Range.small 0 (nn : Int) 1 = true := by rcases hnn with e | e | e | e <;> rw [e] <;> decide
      have hrs : Builtin.Range.rangeSize 0 (nn : Int) 1 = ((nn : Nat) : Int) := by rcases hnn with e | e | e | e <;> rw [e] <;> decide
      refine wpAny_pyIter_range hR hsm ?_
      rename_i le0 hp8 l13 tk3 t1 r0 ws0 h7 hC hL l12 DT h6 l11 h5 h4 h3 tk2 a2 a1 tk1 R h2 l10 h1 F9 N9 t0 hcur tk0 t1a u1a v1a kk9
      have hF9 : True := trivial
      refine at_loop (s0 := s) F3 rfl fun tk9 => ?_
      rw [hrs]
      have hpush : ∀ (o : Obj) b x, hcur.get? b = some x → (hcur.push o).get? b = some x := fun o b x e => Heap.get?_push_of_some _ e
      --have hJ0 := LoopJ (fun y => if y = Str.ofString "row" then some (Value.ref R) else if y = Str.ofString "kind" then some (Value.int ((ks.getD (Int.toNat 0) 0).fmod 7) (tk3 + 1 + 1)) else if y = Str.ofString "rest" then some (Value.ref r0) else List.lookup y [(Str.ofString "numbers", Value.ref l), (Str.ofString "deep", Value.int δ t)].reverse) R δ t d'
      refine ⟨hcur.objs.size, [hcur.objs.size], [hcur.objs.size], nn, _, _, _, _, LoopJ (fun y => if y = Str.ofString "row" then some (Value.ref R) else if y = Str.ofString "kind" then some (Value.int ((ks.getD (Int.toNat 0) 0).fmod 7) (tk3 + 1 + 1)) else if y = Str.ofString "rest" then some (Value.ref r0) else List.lookup y [(Str.ofString "numbers", Value.ref l), (Str.ofString "deep", Value.int δ t)].reverse) R δ t d',
        rfl, LCg.range_walks rfl 0 nn, fun hm => Nat.ne_of_lt F3.ns.lt (List.mem_singleton.mp hm), fun b hb => List.mem_singleton.mp hb ▸ next_is_new F3, fun q hq hm => Nat.ne_of_lt (Heap.lt_size (N3 q hq).1) (List.mem_singleton.mp hm),
        by show IsRangeIter _ _ _ _ _; simpa using Heap.get?_push_size _ rfl, F3.keeps (hpush _), N3.grown (hpush _),
        ⟨r0, ws0, _, 0, [], [], none, none, _, mkm_id rfl rfl rfl rfl rfl, rfl, ?_, List.mem_cons_of_mem _ List.mem_cons_self, hI1, by omega, rfl, rfl, fun j y e => by simp at e⟩, ?_, ?_⟩
      · intro q hq
        rcases List.mem_cons.mp hq with rfl | hq
        · exact Nat.ne_of_lt l10.1
        · rcases List.mem_cons.mp hq with rfl | hq
          · exact Nat.ne_of_lt l10.2.1
          · rw [List.mem_singleton.mp hq]; exact Nat.ne_of_lt l10.2.2
      · clear F3 N3 F9 N9
        intro i v m₁ nw₁ s₁ own hs1 hi hP hJ hwr1 hown1 hown2 hown3 hSt F N
        obtain ⟨h9, tk10, rfl⟩ := hs1
        obtain ⟨tv, rfl⟩ := hP
        obtain ⟨r, rs, kr, jr, ys, ns, oo, kk, fp, rfl, rfl, hfpR, hrm, hIr, hrl, hyl, hnl, hV⟩ := hJ
        have N1 : News s.heap L h9 ((R, LCg.lst ys) :: (own ++ fp)) := fun q hq => N q (by
          rcases List.mem_cons.mp hq with e | hq
          · exact List.mem_append_right _ (e ▸ List.mem_cons_self)
          · rcases List.mem_append.mp hq with hq | hq
            · exact List.mem_append_left _ hq
            · exact List.mem_append_right _ (List.mem_cons_of_mem _ hq))
        clear N
        k_steps
        rename Fr _ _ _ _ => F4
        rename News _ _ _ _ => N4
        have gI : ∃ o, h9.get? hcur.objs.size = some o := ⟨_, hSt⟩
        obtain ⟨oI, gI⟩ := gI
        have hdm : δ - 1 = (d' : Int) := by omega
        rw [hdm]
        refine inn (X.keeps F4.keep) (T.keeps F4.keep) (by show dA + 1 + d' ≤ dA + (d' + 1); omega) (by show uA + 3 + 3 * d' + 100 < 9900; omega) rfl (N4.isList (List.mem_cons_of_mem _ (List.mem_append_right _ hrm))) hIr hrl fun h' tk' T' v' r' rs' ks'' n' j' fp' hk hnew hT hr hI' hl' hV' => ?_
        have N5 := hnew.news F4 N4 hk
        have F5 := F4.keeps hk
        have gR := (N4 (R, LCg.lst ys) List.mem_cons_self).1
        have apart : ∀ q ∈ fp', ∀ b o, h9.get? b = some o → q.1 ≠ b := fun q hq b o e z => by have := (hnew q hq).2; rw [z, e] at this; cases this
        have htup : IsTup h' T' #[v', Value.ref r'] := N5.isTup (List.mem_append_left _ hT)
        clear F4 N4
        repeat' (((fail_if_success (with_reducible show wpAny _ _ (eval (Expr.Call (Expr.Attribute _ _ _) _ _ _) _) _ _ _))); first | (k_unfold; (try dsimp only)) | (k_end; kc_close) | walk1 | dsimp only | (leave1; walk_say "STEP leave1"; (try dsimp only)) | fail "no step")
        rename Fr _ _ _ _ => F6
        rename News _ _ _ _ => N6
        have mR := N6 (R, LCg.lst ys) (List.mem_append_right _ List.mem_cons_self)
        refine wpAny_Call_append rfl rfl rfl rfl ?_
        walk1
        refine ⟨R, ys.toArray, rfl, ⟨_, _, mR.1, rfl, rfl, rfl⟩, ?_⟩
        walk1
        refine append_at mR.1 (fun h7 hs7 hD7 => ?_) (by rw [List.size_toArray, sizeLine_eq]; omega)
        refine wpAny_execs_nil ?_
        have hRI : R ≠ hcur.objs.size := fun e => hwr1 (R, LCg.lst ys) List.mem_cons_self (e ▸ List.mem_singleton.mpr rfl)
        have hkeep : ∀ b o, b ≠ R → (b, o) ∈ fp' ++ (R, LCg.lst ys) :: (own ++ fp) → h7.get? b = some o := fun b o hb hm => hs7.extBut _ _ hb (N6 _ hm).1
        refine LoopStepV.next (LoopStepU.intro (news₂ := (R, LCg.lst (ys ++ [v'])) :: (fp' ++ fp)) (fr_congr (F6.change hs7 mR.2.1 mR.2.2) mkm_step) (fun q hq => ?_) (fun q hq => ?_) ⟨r', rs', ks'', j', ys ++ [v'], ns ++ [n'], some v', some (Value.int (0 + (i : Int)) tv), fp' ++ fp, rfl, rfl, fun q hq => ?_, List.mem_append_left _ hr, hI', hl', by rw [List.length_append, hyl]; rfl, by rw [List.length_append, hnl]; rfl, fun j y e => ?_⟩)
        · rcases List.mem_append.mp hq with hq | hq
          · have hqI := List.mem_singleton.mp (hown1 q hq)
            have hm : q ∈ fp' ++ (R, LCg.lst ys) :: (own ++ fp) := List.mem_append_right _ (List.mem_cons_of_mem _ (List.mem_append_left _ hq))
            exact ⟨hkeep _ _ (fun e => hRI (e.symm.trans hqI)) hm, (N6 _ hm).2⟩
          · rcases List.mem_cons.mp hq with rfl | hq
            · refine ⟨?_, mR.2⟩
              show h7.get? R = some (LCg.lst (ys ++ [v']))
              rw [← LCg.lst_snoc]
              exact hD7
            · rcases List.mem_append.mp hq with hq | hq
              · exact ⟨hkeep _ _ (apart q hq _ _ gR) (List.mem_append_left _ hq), (N6 q (List.mem_append_left _ hq)).2⟩
              · have hm : q ∈ fp' ++ (R, LCg.lst ys) :: (own ++ fp) := List.mem_append_right _ (List.mem_cons_of_mem _ (List.mem_append_right _ hq))
                exact ⟨hkeep _ _ (hfpR q hq) hm, (N6 _ hm).2⟩
        · intro hm
          have hqI := List.mem_singleton.mp hm
          rcases List.mem_cons.mp hq with rfl | hq
          · exact hRI hqI
          · rcases List.mem_append.mp hq with hq | hq
            · exact apart q hq _ _ gI hqI
            · exact hwr1 q (List.mem_cons_of_mem _ hq) hm
        · rcases List.mem_append.mp hq with hq | hq
          · exact apart q hq _ _ gR
          · exact hfpR q hq
        · by_cases hj : j < ys.length
          · rw [List.getElem?_append_left hj] at e
            obtain ⟨m', e1, e2⟩ := hV j y e
            exact ⟨m', by rw [List.getElem?_append_left (by omega)]; exact e1, e2.mono fun q hq => List.mem_append_right _ hq⟩
          · have hj' := (List.getElem?_eq_some_iff.mp e).1
            rw [List.length_append, List.length_singleton] at hj'
            have : j = i := by omega
            subst this
            rw [List.getElem?_append_right (by omega), hyl, Nat.sub_self] at e
            cases e
            exact ⟨n', by rw [List.getElem?_append_right (by omega), hnl, Nat.sub_self]; rfl, hV'.mono fun q hq => List.mem_append_left _ hq⟩
      · intro h9 tk10 m' nw' F N hwr1 hJ
        obtain ⟨r, rs, kr, jr, ys, ns, oo, kk, fp, rfl, rfl, hfpR, hrm, hIr, hrl, hyl, hnl, hV⟩ := hJ
        clear F3 N3 F9 N9
        k_steps
        rename Fr _ _ _ _ => F4
        rename News _ _ _ _ => N4
        refine h _ _ _ _ _ _ _ _ _ _ F4.keep (New.of_news N4) List.mem_cons_self (List.mem_cons_of_mem _ (List.mem_cons_of_mem _ hrm)) hIr hrl (.inr ⟨R, ys, ns, _, rfl, List.mem_cons_of_mem _ List.mem_cons_self, by omega, by omega, fun j y e => ?_, rfl⟩)
        obtain ⟨m', e1, e2⟩ := hV j y e
        exact ⟨m', e1, e2.mono fun q hq => List.mem_cons_of_mem _ (List.mem_cons_of_mem _ hq)⟩
    · rename Fr _ _ _ _ => F2
      rename News _ _ _ _ => N2
      rename IntsAre _ (List.drop 1 ks) => hI1
      have hI1l := hI1.length
      refine menu_item (N2.isList List.mem_cons_self) (.cons _ _ (.cons _ _ (.cons _ _ (.cons _ _ (.cons _ _ (.cons _ _ (.cons _ _ .nil))))))) (by omega) (by omega) (fun sz tz hz0 hz1 => ?_) (by with_unfolding_all rfl)
      refine at_toks (s0 := s) F2 rfl fun tk9 => ?_
      k_steps
      rename IntsAre _ _ => hI2
      rename Fr _ _ _ _ => F3
      rename News _ _ _ _ => N3
      have hl2 : ((List.replicate (if 1 < sz then 1 else sz).toNat [((ks.getD (Int.toNat 0) 0).fdiv 7).fmod 256]).flatten ++ (List.replicate (if 0 > sz - 1 then 0 else sz - 1).toNat [(((ks.getD (Int.toNat 0) 0).fdiv 7).fmod 256 + 89).fmod 256]).flatten).length ≤ 400 := by
        rw [List.length_append, rep_len, rep_len]
        split <;> split <;> omega
      have hc := mod_in ((ks.getD (Int.toNat 0) 0).fdiv 7) 0
      rw [Int.add_zero] at hc
      refine KBa.make_K F3 N3 rfl (N3.isList List.mem_cons_self) hI2 (fun n hn => ?_) (by omega) fun h' t' k F4 N4 hr => ?_
      · rcases List.mem_append.mp hn with hn | hn
        · rw [rep_mem hn]; exact hc
        · rw [rep_mem hn]; exact mod_in _ _
      · clear F3 N3
        k_steps
        rename Fr _ _ _ _ => F5
        rename News _ _ _ _ => N5
        have q3 : (List.drop 1 ks).length ≤ 64 := by omega
        rw [← hI1l] at q3
        exact h _ _ _ _ _ _ _ _ _ _ F5.keep (New.of_news N5) List.mem_cons_self (List.mem_cons_of_mem _ (List.mem_cons_of_mem _ (List.mem_cons_of_mem _ (List.mem_cons_of_mem _ (List.mem_cons_of_mem _ (List.mem_cons_of_mem _ (List.mem_cons_of_mem _ (List.mem_cons_of_mem _ List.mem_cons_self)))))))) hI1 q3 (Vl.leaf ⟨_, _, _, rfl, KBa.ints_make hr, hl2, rfl⟩ d)
    · rename Fr _ _ _ _ => F2
      rename News _ _ _ _ => N2
      rename IntsAre _ (List.drop 1 ks) => hI1
      have hI1l := hI1.length
      refine menu_item (N2.isList List.mem_cons_self) (.cons _ _ (.cons _ _ (.cons _ _ (.cons _ _ (.cons _ _ (.cons _ _ (.cons _ _ .nil))))))) (by omega) (by omega) (fun sz tz hz0 hz1 => ?_) (by with_unfolding_all rfl)
      refine at_toks (s0 := s) F2 rfl fun tk9 => ?_
      k_steps
      rename IntsAre _ _ => hI2
      rename Fr _ _ _ _ => F3
      rename News _ _ _ _ => N3
      have hl2 : ((List.replicate (if 1 < sz then 1 else sz).toNat [((ks.getD (Int.toNat 0) 0).fdiv 7).fmod 256]).flatten ++ (List.replicate (if 0 > sz - 1 then 0 else sz - 1).toNat [(((ks.getD (Int.toNat 0) 0).fdiv 7).fmod 256 + 89).fmod 256]).flatten).length ≤ 400 := by
        rw [List.length_append, rep_len, rep_len]
        split <;> split <;> omega
      have hc := mod_in ((ks.getD (Int.toNat 0) 0).fdiv 7) 0
      rw [Int.add_zero] at hc
      refine KBa.make_K F3 N3 rfl (N3.isList List.mem_cons_self) hI2 (fun n hn => ?_) (by omega) fun h' t' k F4 N4 hr => ?_
      · rcases List.mem_append.mp hn with hn | hn
        · rw [rep_mem hn]; exact hc
        · rw [rep_mem hn]; exact mod_in _ _
      · clear F3 N3
        k_steps
        rename Fr _ _ _ _ => F5
        rename News _ _ _ _ => N5
        have q3 : (List.drop 1 ks).length ≤ 64 := by omega
        rw [← hI1l] at q3
        exact h _ _ _ _ _ _ _ _ _ _ F5.keep (New.of_news N5) List.mem_cons_self (List.mem_cons_of_mem _ (List.mem_cons_of_mem _ (List.mem_cons_of_mem _ (List.mem_cons_of_mem _ (List.mem_cons_of_mem _ (List.mem_cons_of_mem _ (List.mem_cons_of_mem _ (List.mem_cons_of_mem _ List.mem_cons_self)))))))) hI1 q3 (Vl.leaf ⟨_, _, _, rfl, KBa.ints_make hr, hl2, rfl⟩ d)
    · rename Fr _ _ _ _ => F2
      rename News _ _ _ _ => N2
      rename IntsAre _ (List.drop 1 ks) => hI1
      have hI1l := hI1.length
      refine menu_item (N2.isList List.mem_cons_self) (.cons _ _ (.cons _ _ (.cons _ _ (.cons _ _ (.cons _ _ (.cons _ _ (.cons _ _ .nil))))))) (by omega) (by omega) (fun sz tz hz0 hz1 => ?_) (by with_unfolding_all rfl)
      refine at_toks (s0 := s) F2 rfl fun tk9 => ?_
      k_steps
      rename IntsAre _ _ => hI2
      rename Fr _ _ _ _ => F3
      rename News _ _ _ _ => N3
      have hl2 : ((List.replicate (if 1 < sz then 1 else sz).toNat [((ks.getD (Int.toNat 0) 0).fdiv 7).fmod 256]).flatten ++ (List.replicate (if 0 > sz - 1 then 0 else sz - 1).toNat [(((ks.getD (Int.toNat 0) 0).fdiv 7).fmod 256 + 89).fmod 256]).flatten).length ≤ 400 := by
        rw [List.length_append, rep_len, rep_len]
        split <;> split <;> omega
      have hc := mod_in ((ks.getD (Int.toNat 0) 0).fdiv 7) 0
      rw [Int.add_zero] at hc
      refine KBa.make_K F3 N3 rfl (N3.isList List.mem_cons_self) hI2 (fun n hn => ?_) (by omega) fun h' t' k F4 N4 hr => ?_
      · rcases List.mem_append.mp hn with hn | hn
        · rw [rep_mem hn]; exact hc
        · rw [rep_mem hn]; exact mod_in _ _
      · clear F3 N3
        k_steps
        rename Fr _ _ _ _ => F5
        rename News _ _ _ _ => N5
        have q3 : (List.drop 1 ks).length ≤ 64 := by omega
        rw [← hI1l] at q3
        exact h _ _ _ _ _ _ _ _ _ _ F5.keep (New.of_news N5) List.mem_cons_self (List.mem_cons_of_mem _ (List.mem_cons_of_mem _ (List.mem_cons_of_mem _ (List.mem_cons_of_mem _ (List.mem_cons_of_mem _ (List.mem_cons_of_mem _ (List.mem_cons_of_mem _ (List.mem_cons_of_mem _ List.mem_cons_self)))))))) hI1 q3 (Vl.leaf ⟨_, _, _, rfl, KBa.ints_make hr, hl2, rfl⟩ d)
theorem law_value {prog : Program} {w : World} {p : Program} {loose : List Str} {mg mb : Str → Option Value} : ∀ (d N : Nat), N + 3 < recursionLimit → ValueOk prog w N p loose mg mb d := by
  intro d
  induction d with
  | zero =>
    intro N hN A s Q E l xs ks t X T hroom hu hh hl hi hz h
    exact law_value_step X T (by omega) (by omega) hu rfl hh hl hi hz (fun d' e => by omega) h
  | succ d ih =>
    intro N hN A s Q E l xs ks t X T hroom hu hh hl hi hz h
    exact law_value_step X T (by omega) (by omega) hu rfl hh hl hi hz (fun d' e => by cases e; exact @ih _ (by omega)) h
end Mine
namespace Mine
theorem fill_k13 : (KK = KK) ∧ (PySem.Challenge.rw_bi0019_01 = PySem.Challenge.rw_bi0019_01) := by
  k_fill
  exact ⟨rfl, rfl⟩
theorem tab_at {P : Addr} {ps : Array Value} {g₀ h h' : Heap} (e0 : ∃ o, g₀.get? 1678 = some o) (t : Tab P ps h) (k : ∀ b o, g₀.get? b = some o → h.get? b = some o) (k' : ∀ b o, g₀.get? b = some o → h'.get? b = some o) (e : h'.get? P = some (tabObj ps)) : Tab P ps h' :=
  t.two (fun o q => by obtain ⟨o', e'⟩ := e0; have := k _ _ e'; rw [q] at this; cases this; exact k' _ _ e') (fun o q => by rw [t.tab.2] at q; cases q; exact e)
/-- what does not lie in the heap, from s to s' -/
structure Gl (s s' : Shared) : Prop where
  size : s.gens.size ≤ s'.gens.size
  gens : ∀ k, k < s.gens.size → s'.gens[k]? = s.gens[k]?
  bare : AllBare s.gens → AllBare s'.gens
  drawn : s'.drawn = s.drawn
  os : s'.os = s.os
theorem Gl.refl (s : Shared) : Gl s s := ⟨Nat.le_refl _, fun _ _ => rfl, id, rfl, rfl⟩
theorem Gl.step {s s' s'' : Shared} {P : Addr} {ps : Array Value} {h' : Heap} {tk : Nat} (x : Gl s s') (y : Grt P ps { s' with heap := h', toks := tk } s'') : Gl s s'' :=
  ⟨Nat.le_trans x.size y.size, fun k hk => (y.gens k (Nat.lt_of_lt_of_le hk x.size)).trans (x.gens k hk), fun h => y.bare (x.bare h), y.drawn.trans x.drawn, y.os.trans x.os⟩
theorem fr_grt {g₀ : Heap} {L P : Addr} {m : Str → Option Value} {ps : Array Value} {s s' : Shared} (x : Grt P ps s s') (F : Fr g₀ L s.heap m) (hg : g₀.get? P = none) (hL : L ≠ P) : Fr g₀ L s'.heap m :=
  ⟨F.ns.at' fun o e => x.heap _ o hL e, fun b o e => x.heap b o (fun q => by rw [q, hg] at e; cases e) (F.keep b o e), F.above⟩
theorem news_grt {g₀ : Heap} {L P : Addr} {ps more : Array Value} {s s' : Shared} {nw rest : List (Addr × Obj)} {o : Obj} (x : Grt P ps s s') (N : News g₀ L s.heap nw) (hP : (P, o) ∈ nw) (t : Tab P (ps ++ more) s'.heap) (hr : ∀ q ∈ rest, q ∈ nw ∧ q.1 ≠ P) : News g₀ L s'.heap ((P, tabObj (ps ++ more)) :: rest) := fun q hq => by
  rcases List.mem_cons.mp hq with rfl | hq
  · exact ⟨t.tab.2, (N _ hP).2⟩
  · obtain ⟨h1, h2⟩ := hr q hq
    exact ⟨x.heap _ _ h2 (N q h1).1, (N q h1).2⟩
def clsOk (l : List (Addr × Obj)) : Bool := l.all fun q => match q.2.cls with | .type _ => true | _ => false
theorem ne_tab {g₀ h : Heap} {L P : Addr} {ps : Array Value} {nw : List (Addr × Obj)} {q : Addr × Obj} (N : News g₀ L h nw) (hP : (P, tabObj ps) ∈ nw) (hq : q ∈ nw) (hc : q.2.cls ≠ .none) : q.1 ≠ P := fun e => by
  have h1 := (N q hq).1
  have h2 := (N _ hP).1
  rw [e] at h1
  rw [h2] at h1
  have := Option.some.inj h1
  rw [← this] at hc
  exact hc rfl
theorem news_grtL {g₀ : Heap} {L P : Addr} {ps more : Array Value} {s s' : Shared} (pre : List (Addr × Obj)) {fp : List (Addr × Obj)} (x : Grt P ps s s') (N : News g₀ L s.heap (pre ++ (P, tabObj ps) :: fp)) (t : Tab P (ps ++ more) s'.heap) (hf : ∀ q ∈ fp, q.1 ≠ P) (hc : clsOk pre = true) :
    News g₀ L s'.heap (pre ++ (P, tabObj (ps ++ more)) :: fp) := fun q hq => by
  have hP : (P, tabObj ps) ∈ pre ++ (P, tabObj ps) :: fp := List.mem_append_right _ List.mem_cons_self
  rcases List.mem_append.mp hq with hq | hq
  · have hm : q ∈ pre ++ (P, tabObj ps) :: fp := List.mem_append_left _ hq
    have hcq := List.all_eq_true.mp hc q hq
    have hne : q.2.cls ≠ .none := fun e => by rw [e] at hcq; cases hcq
    exact ⟨x.heap _ _ (ne_tab N hP hm hne) (N q hm).1, (N q hm).2⟩
  · rcases List.mem_cons.mp hq with rfl | hq
    · exact ⟨t.tab.2, (N _ hP).2⟩
    · have hm : q ∈ pre ++ (P, tabObj ps) :: fp := List.mem_append_right _ (List.mem_cons_of_mem _ hq)
      exact ⟨x.heap _ _ (hf q hq) (N q hm).1, (N q hm).2⟩
theorem val_wrap {h : Heap} {a : Addr} {v : Value} {n n1 : Int} {d : Nat} (hn : n1 = lg n + n) (hl : h.IsList a #[v]) (x : Val h d v n) : Val h (d + 1) (.ref a) n1 :=
  .inr ⟨a, [v], [n], rfl, hl, by simp, rfl, fun i y e => by
    rcases i with _ | i
    · have e' : some v = some y := e
      cases e'
      exact ⟨n, rfl, x⟩
    · simp at e, by rw [hn]; simp⟩
theorem news_grtM {g₀ : Heap} {L P : Addr} {ps more : Array Value} {s s' : Shared} (pre : List (Addr × Obj)) {fp : List (Addr × Obj)} (x : Grt P ps s s') (N : News g₀ L s.heap (pre ++ (P, tabObj ps) :: fp)) (t : Tab P (ps ++ more) s'.heap) (hf : ∀ q ∈ fp, q.1 ≠ P) (hc : ∀ q ∈ pre, q.1 ≠ P) :
    News g₀ L s'.heap (pre ++ (P, tabObj (ps ++ more)) :: fp) := fun q hq => by
  have hP : (P, tabObj ps) ∈ pre ++ (P, tabObj ps) :: fp := List.mem_append_right _ List.mem_cons_self
  rcases List.mem_append.mp hq with hq | hq
  · have hm : q ∈ pre ++ (P, tabObj ps) :: fp := List.mem_append_left _ hq
    exact ⟨x.heap _ _ (hc q hq) (N q hm).1, (N q hm).2⟩
  · rcases List.mem_cons.mp hq with rfl | hq
    · exact ⟨t.tab.2, (N _ hP).2⟩
    · have hm : q ∈ pre ++ (P, tabObj ps) :: fp := List.mem_append_right _ (List.mem_cons_of_mem _ hq)
      exact ⟨x.heap _ _ (hf q hq) (N q hm).1, (N q hm).2⟩
theorem val_two {h : Heap} {a : Addr} {v1 v2 : Value} {n1 n2 n3 : Int} {d : Nat} (hn : n3 = lg (n1 + n2) + (n1 + n2)) (hl : h.IsList a #[v1, v2]) (x1 : Val h d v1 n1) (x2 : Val h d v2 n2) : Val h (d + 1) (.ref a) n3 :=
  .inr ⟨a, [v1, v2], [n1, n2], rfl, hl, by simp, rfl, fun i y e => by
    rcases i with _ | _ | i
    · have e' : some v1 = some y := e
      cases e'
      exact ⟨n1, rfl, x1⟩
    · have e' : some v2 = some y := e
      cases e'
      exact ⟨n2, rfl, x2⟩
    · simp at e, by rw [hn]; simp⟩
theorem vl_wrap {fp : List (Addr × Obj)} {a : Addr} {k : Nat} {v : Value} {n n1 : Int} {d : Nat} (hn : n1 = lg n + n) (hm : (a, lstO [v] k) ∈ fp) (x : Vl fp d v n) : Vl fp (d + 1) (.ref a) n1 :=
  .inr ⟨a, [v], [n], k, rfl, hm, by simp, rfl, fun i y e => by
    rcases i with _ | i
    · have e' : some v = some y := e
      cases e'
      exact ⟨n, rfl, x⟩
    · simp at e, by rw [hn]; simp⟩
theorem at_code {M : Model} {A : Around} {c : Code} {R : Result → Shared → Prop} {s s0 : Shared} {h₀ h' : Heap} {L : Addr} {f : Str → Option Value} {o : Obj} (_F : Fr h₀ L h' f) (e : s = { s0 with heap := h'.push o, toks := s.toks })
    (h : ∀ tk, codeAny M A c R { s0 with heap := h'.push o, toks := tk }) : codeAny M A c R s := by rw [e]; exact h _
/-- the end of a turn of law's loop -/
def TurnEnd (g₀ : Heap) (L I : Addr) (oI : Obj) (Jn : (Str → Option Value) → List (Addr × Obj) → Shared → Prop) (f : Flow) (s₃ : Shared) : Prop :=
  f = .next ∧ ∃ m' nw', Fr g₀ L s₃.heap m' ∧ News g₀ L s₃.heap ((I, oI) :: nw') ∧ (∀ q ∈ nw', q.1 ≠ I) ∧ Jn m' nw' s₃
theorem turn_end {g₀ : Heap} {L I A1 P : Addr} {oI o1 : Obj} {psn : Array Value} {fpi : List (Addr × Obj)} {m m' : Str → Option Value} {Jn : (Str → Option Value) → List (Addr × Obj) → Shared → Prop} {s₃ : Shared} (F : Fr g₀ L s₃.heap m) (em : ∀ y, m y = m' y)
    (N : News g₀ L s₃.heap ((A1, o1) :: (I, oI) :: (P, tabObj psn) :: fpi)) (hPI : I ≠ P) (h1 : A1 ≠ I) (off : ∀ q ∈ fpi, q.1 ≠ I) (hj : Jn m' ((P, tabObj psn) :: (A1, o1) :: fpi) s₃) : TurnEnd g₀ L I oI Jn .next s₃ := by
  refine ⟨rfl, m', _, fr_congr F em, fun q hq => N q ?_, fun q hq => ?_, hj⟩
  · rcases List.mem_cons.mp hq with e | hq
    · rw [e]; exact List.mem_cons_of_mem _ List.mem_cons_self
    · rcases List.mem_cons.mp hq with e | hq
      · rw [e]; exact List.mem_cons_of_mem _ (List.mem_cons_of_mem _ List.mem_cons_self)
      · rcases List.mem_cons.mp hq with e | hq
        · rw [e]; exact List.mem_cons_self
        · exact List.mem_cons_of_mem _ (List.mem_cons_of_mem _ (List.mem_cons_of_mem _ hq))
  · rcases List.mem_cons.mp hq with e | hq
    · rw [e]; exact hPI.symm
    · rcases List.mem_cons.mp hq with e | hq
      · rw [e]; exact h1
      · exact off q hq
theorem for_gen {prog : Program} {w : World} {A : Around} {env : Env} {x : Str} {px : Pos} {body : List Stmt} {Q : Flow → Shared → Prop} {g₀ : Heap} {I : Addr} {n : Nat} {s : Shared} {m : Str → Option Value} {nw : List (Addr × Obj)}
    (hh : A.handled = none) (hx : env.kindOf x = some .local) (hp : (env.scope.kind == .class || (env.scope.kind == .module && env.locals != env.globals)) = false)
    (J : Nat → (Str → Option Value) → List (Addr × Obj) → Shared → Prop) (hJ : ∀ i m nw s h' tk, J i m nw s → J i m nw { s with heap := h', toks := tk })
    (hg : g₀.get? I = none) (hLI : env.locals ≠ I) (F : Fr g₀ env.locals s.heap m) (N : News g₀ env.locals s.heap nw) (off : ∀ q ∈ nw, q.1 ≠ I) (hit : IsRangeIter s.heap I (0 + ((0 : Nat) : Int) * 1) ((n : Int) - ((0 : Nat) : Int)) 1) (h0 : J 0 m nw s)
    (step : ∀ i m nw s' oI tv, i < n → J i m nw s' → (∀ q ∈ nw, q.1 ≠ I) → Fr g₀ env.locals s'.heap (fun y => if y = x then some (.int (0 + (i : Int)) tv) else m y) → News g₀ env.locals s'.heap ((I, oI) :: nw) →
      wpAny (model prog w) A (execs body env) (TurnEnd g₀ env.locals I oI (J (i + 1))) (fun _ _ => False) s')
    (done : ∀ m nw s', J n m nw s' → Fr g₀ env.locals s'.heap m → News g₀ env.locals s'.heap nw → Q .next s') :
    codeAny (model prog w) A (.forLoop (.Name x px) (.ref I) body [] env) (fun r s' => match r with | .ok f => Q f s' | .error e => cameBackBy (model prog w) A env (fun _ _ => False) e s') s := by
  have W := LCg.range_walks (prog := prog) (w := w) (I := I) hh 0 n
  refine codeAny_forLoop (fun k s' => ∃ i m nw, i ≤ n ∧ k = n - i ∧ Fr g₀ env.locals s'.heap m ∧ News g₀ env.locals s'.heap nw ∧ (∀ q ∈ nw, q.1 ≠ I) ∧ IsRangeIter s'.heap I (0 + ((i : Nat) : Int) * 1) ((n : Int) - ((i : Nat) : Int)) 1 ∧ J i m nw s') ?_ n ⟨0, m, nw, Nat.zero_le _, by omega, F, N, off, hit, h0⟩
  rintro k s' ⟨i, m, nw, hi, rfl, F, N, off, hit, hj⟩
  refine wpAny_passesOwn PassesOwn.never ?_
  have next : ∀ h₁ : Heap, (∀ b o, b ∉ [I] → s'.heap.get? b = some o → h₁.get? b = some o) → Fr g₀ env.locals h₁ m ∧ News g₀ env.locals h₁ nw := fun h₁ hk₁ =>
    ⟨⟨F.ns.at' fun o e => hk₁ _ o (fun hm => hLI (List.mem_singleton.mp hm)) e, fun b o e => hk₁ b o (fun hm => by rw [List.mem_singleton.mp hm, hg] at e; cases e) (F.keep b o e), F.above⟩, fun p hp => ⟨hk₁ _ _ (fun hm => off p hp (List.mem_singleton.mp hm)) (N p hp).1, (N p hp).2⟩⟩
  by_cases hlt : i < n
  · refine W.item i _ _ _ hlt hit fun v h₁ tk₁ hP hst₁ hk₁ => ?_
    obtain ⟨tv, rfl⟩ := hP
    obtain ⟨F₁, N₁⟩ := next h₁ hk₁
    refine wpAny_passesOwn PassesOwn.never (wpAny_assign_Name (wpAny_storeName_local hx F₁.ns (fun h₂ hn₂ hs₂ => ?_) hp))
    have F₂ := F₁.set hn₂ hs₂
    have hI₂ : h₂.get? I = some _ := hs₂.extBut _ _ (Ne.symm hLI) hst₁
    have N₂ : News g₀ env.locals h₂ ((I, _) :: nw) := fun q hq => by
      rcases List.mem_cons.mp hq with rfl | hq
      · exact ⟨hI₂, Ne.symm hLI, hg⟩
      · exact N₁.set hs₂ q hq
    refine wpAny_passesOwn PassesOwn.never (wpAny_mono (step i m nw _ _ tv hlt (hJ i m nw s' h₂ _ hj) off F₂ N₂) (fun f s₃ h₃ => ?_) fun _ _ e => e)
    obtain ⟨rfl, m', nw', F₃, N₃, off₃, hj₃⟩ := h₃
    exact ⟨n - (i + 1), by omega, i + 1, m', nw', hlt, rfl, F₃, fun q hq => N₃ q (List.mem_cons_of_mem _ hq), off₃, (N₃ _ List.mem_cons_self).1, hj₃⟩
  · have hin : i = n := by omega
    subst hin
    refine W.done _ _ _ hit fun h₁ tk₁ hk₁ => wpAny_execs_nil ?_
    obtain ⟨F₁, N₁⟩ := next h₁ hk₁
    exact done m nw _ (hJ i m nw s' h₁ _ hj) F₁ N₁
def mkl (f0 : Str → Option Value) (va : Value) (lv tv : Option Value) : Str → Option Value := fun y =>
  if y = Str.ofString "again" then some va else if y = Str.ofString "length" then lv else if y = Str.ofString "times" then tv else f0 y
theorem mkl_id {f0 : Str → Option Value} {va : Value} (h1 : f0 (Str.ofString "again") = some va) (h2 : f0 (Str.ofString "length") = none) (h3 : f0 (Str.ofString "times") = none) : f0 = mkl f0 va none none := by
  funext y
  unfold mkl
  by_cases e1 : y = Str.ofString "again"
  · simp only [if_pos e1]; rw [e1, h1]
  · simp only [if_neg e1]
    by_cases e2 : y = Str.ofString "length"
    · simp only [if_pos e2]; rw [e2, h2]
    · simp only [if_neg e2]
      by_cases e3 : y = Str.ofString "times"
      · simp only [if_pos e3]; rw [e3, h3]
      · simp only [if_neg e3]
theorem mkl_step {f0 : Str → Option Value} {va va' lv' tv' : Value} {lv tv : Option Value} (y : Str) :
    (if y = Str.ofString "again" then some va' else if y = Str.ofString "length" then some lv' else if y = Str.ofString "times" then some tv' else mkl f0 va lv tv y) = mkl f0 va' (some lv') (some tv') y := by
  unfold mkl
  by_cases e1 : y = Str.ofString "again"
  · simp only [if_pos e1]
  · simp only [if_neg e1]
    by_cases e2 : y = Str.ofString "length"
    · simp only [if_pos e2]
    · simp only [if_neg e2]
      by_cases e3 : y = Str.ofString "times"
      · simp only [if_pos e3]
      · simp only [if_neg e3]
/-- where law's loop stands before its i-th turn -/
def LawJ (s : Shared) (g₀ : Heap) (P : Addr) (ps : Array Value) (fp : List (Addr × Obj)) (f0 : Str → Option Value) (i : Nat) (m : Str → Option Value) (nw : List (Addr × Obj)) (s' : Shared) : Prop :=
  ∃ (va : Value) (na : Int) (lv tv : Option Value) (fpi : List (Addr × Obj)) (more : Array Value) (hp : Heap), m = mkl f0 va lv tv ∧ nw = (P, tabObj (ps ++ more)) :: fpi ∧ (∀ q ∈ fp, q ∈ fpi) ∧ (∀ q ∈ fpi, q.1 ≠ P) ∧ Vl fpi (3 + i) va na ∧ 0 ≤ na ∧ na ≤ 16160 + 4 * (i : Int) ∧
    Gl s s' ∧ Tab P (ps ++ more) hp ∧ (∀ b o, g₀.get? b = some o → hp.get? b = some o)
/-- the list that law hands to _law_value -/
def ScriptOk (s : Shared) (g₀ : Heap) (L P l : Addr) (ps : Array Value) (v : Value) (s' : Shared) : Prop :=
  ∃ D vs us h' tk, v = .ref D ∧ s' = { s with heap := h', toks := tk } ∧ h'.IsList D vs.toArray ∧ IntsAre vs us ∧ vs.length ≤ 64 ∧ Fr g₀ L h' (fun y => List.lookup y [(Str.ofString "script", Value.ref l)].reverse) ∧ News g₀ L h' [(P, tabObj ps)]
set_option maxHeartbeats 16000000 in
theorem law_ok {prog : Program} {w : World} {A : Around} {s : Shared} {Q E : Value → Shared → Prop} {p : Program} {loose : List Str} {mg mb : Str → Option Value} {P bm l : Addr} {ob : Obj} {ps : Array Value} {xs : List Value} {ks : List Int}
    (X : (KK w.params).In s.heap) (T : TopRead p loose mg mb s.heap) (hroom : A.depth < recursionLimit) (M : BMod s.heap mainGlobals mg bm ob) (ht : Tab P ps s.heap) (hP : P ≠ cStatics) (hroom' : A.depth + 40 < recursionLimit) (hu : A.units + 200 < 9900) (hh : A.handled = none) (hl : s.heap.IsList l xs.toArray) (hi : IntsAre xs ks) (hz : xs.length ≤ 63)
    (h : ∀ s', (∀ b o, b ≠ P → s.heap.get? b = some o → s'.heap.get? b = some o) → (∃ more, Tab P (ps ++ more) s'.heap) → Gl s s' → Q (.bool true) s') :
    wpAny (model prog w) A (call (.ref 1737) [.ref l]) Q E s := by
  obtain ⟨hnd, dA, fA, gA, uA⟩ := A
  dsimp only at hh hroom hroom' hu
  subst hh
  refine' enter X T hroom (binds := [(Str.ofString "script", .ref l)]) ?ho ?hcd ?hb ?hl ?_ ?c1 ?c2 ?c3 ?c4
  case ho => k_is
  case hcd => k_is
  case hb => exact BindsTo.of_eq rfl
  case hl => exact locs rfl
  case c1 => decide
  case c2 => rfl
  case c3 => rfl
  case c4 => rfl
  intro g L h₁ hg F N X T
  subst hg
  have hLP : P < s.heap.objs.size := Heap.lt_size ht.tab.2
  have F0 := hide_fr (P := P) F
  have X0 := in_hide ht.tab.2 X T.g hP (kb_ok _)
  have T0 := top_hide ht.tab.2 T
  have M0 := bmod_hide ht.tab.2 M
  have hl0 := list_hide ht.tab.2 hl
  have N0 : News (hideAll s.heap [P]) L h₁ [(P, tabObj ps)] := fun q hq => by
    rw [List.mem_singleton.mp hq]
    exact ⟨F.keep _ _ ht.tab.2, Nat.ne_of_lt (Nat.lt_of_lt_of_le hLP F.above), hideAll_none [P] List.mem_cons_self⟩
  have hback : ∀ {h' : Heap}, (∀ b o, (hideAll s.heap [P]).get? b = some o → h'.get? b = some o) → ∀ b o, b ≠ P → s.heap.get? b = some o → h'.get? b = some o := fun k => hide_keep k
  have hgP : (hideAll s.heap [P]).get? P = none := hideAll_none [P] List.mem_cons_self
  have hLne : L ≠ P := (N0 _ List.mem_cons_self).2.1.symm
  have e1678 : ∃ o, (hideAll s.heap [P]).get? 1678 = some o := by
    obtain ⟨⟨o, _, e, _⟩, _⟩ := ht.tab
    exact ⟨o, hideAll_get _ e fun hm => ht.ne (List.mem_singleton.mp hm)⟩
  have tab0 : Tab P ps h₁ := ht.of (hback F0.keep) (N0.get List.mem_cons_self)
  clear F N X T M
  generalize hg0 : hideAll s.heap [P] = g₀ at *
  have hlen := hi.length
  repeat' (((fail_if_success (with_reducible show wpAny _ _ (eval (Expr.IfExp _ _ _ _) _) _ _ _))); first | (k_unfold; (try dsimp only)) | (k_end; kc_close) | walk1 | dsimp only | (leave1; walk_say "STEP leave1"; (try dsimp only)) | fail "no step")
  refine wpAny_mono (Q := ScriptOk s g₀ L P l ps) ?_ (fun v s' hv => ?_) (fun _ _ e => e)
  · k_steps
    · rename Fr _ _ _ _ => F2
      rename News _ _ _ _ => N2
      rename IntsAre _ (List.take _ _) => hI1
      have hI1l := hI1.length
      exact ⟨_, _, _, _, _, rfl, rfl, N2.isList List.mem_cons_self, hI1, by omega, F2, fun q hq => by rw [List.mem_singleton.mp hq]; exact N2 _ (List.mem_cons_of_mem _ List.mem_cons_self)⟩
    · rename Fr _ _ _ _ => F2
      rename News _ _ _ _ => N2
      exact ⟨_, [_, _, _, _], [11, 7, 300, 40], _, _, rfl, rfl, N2.isList List.mem_cons_self, .cons _ _ (.cons _ _ (.cons _ _ (.cons _ _ .nil))), by simp, F2, fun q hq => by rw [List.mem_singleton.mp hq]; exact N2 _ (List.mem_cons_of_mem _ List.mem_cons_self)⟩
  have F0k := F0.keep
  clear F0 N0
  obtain ⟨D, vs, us, h2, tk2, rfl, rfl, hD, hus, hvl, F2, N2⟩ := hv
  k_steps
  rename Fr _ _ _ _ => F3
  rename News _ _ _ _ => N3
  refine law_value 3 (dA + 10) (by omega) (X0.keeps F3.keep) (T0.keeps F3.keep) (by show dA + 1 + 3 ≤ dA + 10; omega) (by show uA + 3 + 3 * 3 + 100 < 9900; omega) rfl hD hus hvl fun h4 tk4 T4 v r rs ks' n j fp hk4 hnew4 hT4 hr4 hI4 hl4 hV4 => ?_
  have hpP : ∀ q ∈ fp, q.1 ≠ P := fun q hq e => by have := (hnew4 q hq).2; rw [e, N3.get List.mem_cons_self] at this; cases this
  have N4 : News g₀ L h4 ((P, tabObj ps) :: fp) := fun q hq => hnew4.news F3 N3 hk4 q (by
    rcases List.mem_cons.mp hq with e | hq
    · exact List.mem_append_right _ (e ▸ List.mem_cons_self)
    · exact List.mem_append_left _ hq)
  have F4 := F3.keeps hk4
  have hb4 := val_bound (hV4.val (fun q hq => (hnew4 q hq).1))
  rw [show bnd 3 = 16160 from rfl] at hb4
  have hb4a := hb4.1
  have hb4b := hb4.2
  clear F3 N3
  k_steps
  refine item_tuple (N4.isTup (List.mem_cons_of_mem _ hT4)) (by omega) (by omega) (j := 0) rfl rfl ?_
  k_steps
  rename Fr _ _ _ _ => F5
  rename News _ _ _ _ => N5
  have t5 := tab_at e1678 tab0 F0k F5.keep (N5.get List.mem_cons_self)
  refine encode_ok (d := 3) (X0.keeps F5.keep) (T0.keeps F5.keep) (by show dA + 1 < _; omega) (M0.keeps F5.keep) t5 hP (by show dA + 1 + 2 * 3 + 5 < _; omega) (by omega) rfl (hV4.val (fun q hq => (N5 q (List.mem_cons_of_mem _ hq)).1)) fun s6 b6 tb6 hg6 hb6 => ?_
  obtain ⟨more6, t6⟩ := hg6.tab
  have G6 := (Gl.refl s).step hg6
  have F6 := fr_grt hg6 F5 hgP hLne
  have F6k := F6.keep
  have N6 := news_grt hg6 N5 List.mem_cons_self t6 (rest := fp) fun q hq => ⟨List.mem_cons_of_mem _ hq, hpP q hq⟩
  clear F5 N5
  k_steps
  rename Fr _ _ _ _ => F7
  rename News _ _ _ _ => N7
  refine law_at (X0.keeps F7.keep) (T0.keeps F7.keep) (by show dA + 1 < _; omega) (F7.lst hl0) hi (by omega) (by omega) (by omega) fun h8 tk8 i8 t8 hk8 => ?_
  have F8 := F7.keeps hk8
  have N8 := N7.grown hk8
  clear F7 N7
  k_steps
  rename Fr _ _ _ _ => F9
  rename News _ _ _ _ => N9
  have hm9 : 0 ≤ i8.fmod 256 ∧ i8.fmod 256 < 256 := by have := mod_in i8 0; rw [Int.add_zero] at this; exact this
  refine law_other 3 (X0.keeps F9.keep) (T0.keeps F9.keep) (by show dA + 1 < _; omega) (by show dA + 1 + 3 + 2 < _; omega) rfl (hV4.val (fun q hq => (N9 q (List.mem_cons_of_mem _ hq)).1)) hm9.1 hm9.2 fun h10 tk10 v2 fp2 hk10 hnew10 hV10 => ?_
  have hpP2 : ∀ q ∈ fp2, q.1 ≠ P := fun q hq e => by have := (hnew10 q hq).2; rw [e, N9.get List.mem_cons_self] at this; cases this
  have N10 : News g₀ L h10 ((P, tabObj (ps ++ more6)) :: (fp2 ++ fp)) := fun q hq => hnew10.news F9 N9 hk10 q (by
    rcases List.mem_cons.mp hq with e | hq
    · exact List.mem_append_right _ (e ▸ List.mem_cons_self)
    · rcases List.mem_append.mp hq with hq | hq
      · exact List.mem_append_left _ hq
      · exact List.mem_append_right _ (List.mem_cons_of_mem _ hq))
  have F10 := F9.keeps hk10
  clear F9 N9
  k_steps
  rename Fr _ _ _ _ => F11
  rename News _ _ _ _ => N11
  refine law_length 3 (X0.keeps F11.keep) (T0.keeps F11.keep) (by show dA + 1 < _; omega) (by show dA + 1 + 3 + 1 < _; omega) (by omega) rfl (hV4.val (fun q hq => (N11 q (List.mem_cons_of_mem _ (List.mem_append_right _ hq))).1)) fun h12 tk12 t12 hk12 => ?_
  have F12 := F11.keeps hk12
  have N12 := N11.grown hk12
  clear F11 N11
  k_steps
  all_goals try (exfalso; omega)
  rename Fr _ _ _ _ => F13
  rename News _ _ _ _ => N13
  have t13 := tab_at e1678 t6 F6k F13.keep (N13.get List.mem_cons_self)
  refine encode_ok (d := 3) (X0.keeps F13.keep) (T0.keeps F13.keep) (by show dA + 1 < _; omega) (M0.keeps F13.keep) t13 hP (by show dA + 1 + 2 * 3 + 5 < _; omega) (by omega) rfl (hV10.val (fun q hq => (N13 q (List.mem_cons_of_mem _ (List.mem_append_left _ hq))).1)) fun s14 b14 tb14 hg14 hb14 => ?_
  obtain ⟨more14, t14⟩ := hg14.tab
  have G14 := G6.step hg14
  have F14 := fr_grt hg14 F13 hgP hLne
  have N14 := news_grt hg14 N13 List.mem_cons_self t14 (rest := fp) fun q hq => ⟨List.mem_cons_of_mem _ (List.mem_append_right _ hq), hpP q hq⟩
  have F14k := F14.keep
  clear F13 N13
  repeat' (((fail_if_success (with_reducible show wpAny _ _ (PySem.exec (PySem.Stmt.For _ _ _ _ _) _) _ _ _))); first | (k_unfold; (try dsimp only)) | (k_end; kc_close) | walk1 | dsimp only | (leave1; walk_say "STEP leave1"; (try dsimp only)) | fail "no step")
  all_goals try (exfalso; omega)
  rename Fr _ _ _ _ => F15
  rename News _ _ _ _ => N15
  refine wpAny_For ?_
  repeat' (((fail_if_success (with_reducible show wpAny _ _ (pyIter _) _ _ _))); first | (k_unfold; (try dsimp only)) | (k_end; kc_close) | walk1 | dsimp only | (leave1; walk_say "STEP leave1"; (try dsimp only)) | fail "no step")
  rename IsRange _ _ _ _ _ _ _ _ => hR
  rename Fr _ _ _ _ => F16
  rename News _ _ _ _ => N16
  refine wpAny_pyIter_range hR (by decide) ?_
  refine at_code (s0 := s14) F16 rfl fun tk17 => ?_
  rename_i hcur _ _ _ _ _
  have hpush : ∀ (o : Obj) b x, hcur.get? b = some x → (hcur.push o).get? b = some x := fun o b x e => Heap.get?_push_of_some _ e
  refine for_gen (g₀ := g₀) (I := hcur.objs.size) (n := 3) rfl rfl rfl (LawJ s g₀ P ps fp (fun y => if y = Str.ofString "again" then some v else if y = Str.ofString "other" then some v2 else if y = Str.ofString "made" then some (Value.bytes b6 tb6) else if y = Str.ofString "value" then some v else List.lookup y [(Str.ofString "script", Value.ref l)].reverse)) ?hJ (next_is_new F16) (Nat.ne_of_lt F16.ns.lt) (F16.keeps (hpush _)) (N16.grown (hpush _)) (fun q hq => Nat.ne_of_lt (Heap.lt_size (N16 q hq).1)) ?hit ?h0 ?step ?done
  case hJ =>
    rintro i m nw s9 h9 tk9 ⟨va, na, lv, tv', fpi, more, hp, e1, e2, e3, e4, e5, e6, e7, hG, e8, e9⟩
    exact ⟨va, na, lv, tv', fpi, more, hp, e1, e2, e3, e4, e5, e6, e7, ⟨hG.size, hG.gens, hG.bare, hG.drawn, hG.os⟩, e8, e9⟩
  case hit => exact Heap.get?_push_size _ rfl
  case h0 => exact ⟨v, n, none, none, fp, more6 ++ more14, s14.heap, mkl_id rfl rfl rfl, by rw [Array.append_assoc], fun q hq => hq, hpP, hV4, hb4a, by omega, ⟨G14.size, G14.gens, G14.bare, G14.drawn, G14.os⟩, by rw [← Array.append_assoc]; exact t14, F14k⟩
  case step =>
    clear F16 N16
    intro i m nw s' oI tv hi3 hj off F N
    obtain ⟨va, na, lv, tv', fpi, more, hp, rfl, rfl, hsub, hfP, hV, hna0, hna1, hG, hT, hpk⟩ := hj
    have hPI : hcur.objs.size ≠ P := fun e => off (P, tabObj (ps ++ more)) List.mem_cons_self e.symm
    have hi9 : (i : Int) ≤ 2 := by omega
    have hlgn := lg_pos na
    obtain ⟨n1, hn1⟩ : ∃ n1, n1 = lg na + na := ⟨_, rfl⟩
    k_steps
    rename Fr _ _ _ _ => F20
    rename News _ _ _ _ => N20
    have t20 := tab_at e1678 hT hpk F20.keep (N20.get (List.mem_cons_of_mem _ List.mem_cons_self))
    refine encode_ok (d := 3 + i) (X0.keeps F20.keep) (T0.keeps F20.keep) (by show dA + 1 < _; omega) (M0.keeps F20.keep) t20 hP (by show dA + 1 + 2 * (3 + i) + 5 < _; omega) (by omega) rfl (hV.val (fun q hq => (N20 q (List.mem_cons_of_mem _ (List.mem_cons_of_mem _ hq))).1)) fun s21 b21 tb21 hg21 hb21 => ?_
    obtain ⟨more21, t21⟩ := hg21.tab
    have G21 := hG.step hg21
    have F21 : Fr g₀ L s21.heap _ := fr_grt hg21 F20 hgP hLne
    have N21 : News g₀ L s21.heap (_ :: (P, tabObj _) :: fpi) := news_grtM [_] hg21 N20 t21 hfP (fun q hq => by rw [List.mem_singleton.mp hq]; exact hPI)
    have F21k := F21.keep
    have hlg21 : lg (b21.size : Int) = lg na := by rw [hb21]
    clear F20 N20
    k_steps
    rename Fr _ _ _ _ => F22
    rename News _ _ _ _ => N22
    rename _ ∧ _ ∧ AllLt _ _ => hlt
    have t22 := tab_at e1678 t21 F21k F22.keep (N22.get (List.mem_cons_of_mem _ (List.mem_cons_of_mem _ List.mem_cons_self)))
    refine encode_ok (d := 3 + i + 1) (X0.keeps F22.keep) (T0.keeps F22.keep) (by show dA + 1 < _; omega) (M0.keeps F22.keep) t22 hP (by show dA + 1 + 2 * (3 + i + 1) + 5 < _; omega) (by omega) rfl (val_wrap hn1 (N22.isList List.mem_cons_self) (hV.val (fun q hq => (N22 q (List.mem_cons_of_mem _ (List.mem_cons_of_mem _ (List.mem_cons_of_mem _ hq)))).1))) fun s23 b23 tb23 hg23 hb23 => ?_
    obtain ⟨more23, t23⟩ := hg23.tab
    have G23 := G21.step hg23
    have F23 : Fr g₀ L s23.heap _ := fr_grt hg23 F22 hgP hLne
    have N23 : News g₀ L s23.heap (_ :: _ :: (P, tabObj _) :: fpi) := news_grtM [_, _] hg23 N22 t23 hfP (fun q hq => by
      rcases List.mem_cons.mp hq with rfl | hq
      · exact Nat.ne_of_gt hlt.2.1
      · rw [List.mem_singleton.mp hq]; exact hPI)
    have F23k := F23.keep
    clear F22 N22
    k_steps
    rename Fr _ _ _ _ => F24
    rename News _ _ _ _ => N24
    refine law_long (X0.keeps F24.keep) (T0.keeps F24.keep) (by show dA + 1 < _; omega) fun h25 tk25 u25 hk25 => ?_
    have F25 := F24.keeps hk25
    have N25 := N24.grown hk25
    clear F24 N24
    k_steps
    all_goals try (exfalso; omega)
    rename Fr _ _ _ _ => F26
    rename News _ _ _ _ => N26
    have eas : ps ++ more ++ more21 ++ more23 = ps ++ (more ++ more21 ++ more23) := by rw [← Array.append_assoc, ← Array.append_assoc]
    rw [eas] at N26 t23
    refine turn_end F26 mkl_step N26 hPI (Nat.ne_of_gt hlt.1) (fun q hq => off q (List.mem_cons_of_mem _ hq)) ?_
    refine ⟨_, n1, _, _, _, more ++ more21 ++ more23, s23.heap, rfl, rfl, fun q hq => List.mem_cons_of_mem _ (hsub q hq), fun q hq => ?_, vl_wrap hn1 List.mem_cons_self (hV.mono fun q hq => List.mem_cons_of_mem _ hq), by omega, by omega, ⟨G23.size, G23.gens, G23.bare, G23.drawn, G23.os⟩, t23, F23k⟩
    rcases List.mem_cons.mp hq with e | hq
    · rw [e]; exact Nat.ne_of_gt hlt.2.1
    · exact hfP q hq
  case done =>
    clear F16 N16
    intro m nw s' hj F N
    obtain ⟨va, na, lv, tv', fpi, more, hp, rfl, rfl, hsub, hfP, hV, hna0, hna1, hG, hT, hpk⟩ := hj
    k_steps
    rename Fr _ _ _ _ => F30
    rename News _ _ _ _ => N30
    refine law_at (X0.keeps F30.keep) (T0.keeps F30.keep) (by show dA + 1 < _; omega) (F30.lst hl0) hi (by omega) (by omega) (by omega) fun h31 tk31 i31 u31 hk31 => ?_
    have F31 := F30.keeps hk31
    have N31 := N30.grown hk31
    clear F30 N30
    have hm31 : 0 ≤ i31.fmod 240 ∧ i31.fmod 240 < 240 := by
      rw [Int.fmod_eq_emod_of_nonneg _ (by decide)]; omega
    k_steps
    rename Fr _ _ _ _ => F32
    rename News _ _ _ _ => N32
    rename IntsAre _ _ => hI32
    obtain ⟨c, hc⟩ : ∃ c : Nat, c = (40 + i31.fmod 240).toNat := ⟨_, rfl⟩
    have hc40 : 40 ≤ c ∧ c ≤ 279 := by omega
    rw [← hc] at hI32 N32
    have hlr : (List.replicate c [(7 : Int)]).flatten.length = c := rep_len c 7
    refine KBa.make_K F32 N32 rfl (N32.isList List.mem_cons_self) hI32 (fun z hz => by rw [rep_mem hz]; omega) (by rw [hlr]; omega) fun h33 u33 k33 F33 N33 hr33 => ?_
    have hb33 := KBa.ints_make hr33
    generalize byteArr (List.replicate c [(7 : Int)]).flatten = lb at hb33 ⊢
    generalize hks33 : (List.replicate c [(7 : Int)]).flatten = kl at hb33 hlr
    have hsz33 : (lb.size : Int) = (c : Int) := by rw [← KBw.ints_length, hb33, hlr]
    have hlf : leafLen kl = lg (c : Int) + (c : Int) := by
      unfold leafLen
      rw [hlr, if_neg (fun x => by have := x.1; omega)]
    clear F32 N32
    k_steps
    have hlgc := lg_pos (c : Int)
    have hlglb : lg (lb.size : Int) = lg (c : Int) := by rw [hsz33]
    have hlgkl : lg (kl.length : Int) = lg (c : Int) := by rw [hlr]
    have hleaf : Leaf (.bytes lb u33) (leafLen kl) := ⟨lb, u33, kl, rfl, hb33, by omega, rfl⟩
    have hvleaf : ∀ g d, Val g d (.bytes lb u33) (leafLen kl) := fun g d => (Vl.leaf (fp := []) hleaf d).val (fun q hq => by cases hq)
    rename Fr _ _ _ _ => F34
    rename News _ _ _ _ => N34
    have t34 := tab_at e1678 hT hpk F34.keep (N34.get (List.mem_cons_of_mem _ (List.mem_cons_of_mem _ List.mem_cons_self)))
    refine encode_ok (d := 3) (X0.keeps F34.keep) (T0.keeps F34.keep) (by show dA + 1 < _; omega) (M0.keeps F34.keep) t34 hP (by show dA + 1 + 2 * 3 + 5 < _; omega) (by omega) rfl (hvleaf _ _) fun s35 b35 tb35 hg35 hb35 => ?_
    obtain ⟨more35, t35⟩ := hg35.tab
    have G35 := hG.step hg35
    have F35 : Fr g₀ L s35.heap _ := fr_grt hg35 F34 hgP hLne
    have N35 := news_grt hg35 N34 (List.mem_cons_of_mem _ (List.mem_cons_of_mem _ List.mem_cons_self)) t35 (rest := fpi) fun q hq => ⟨(List.mem_cons_of_mem _ (List.mem_cons_of_mem _ (List.mem_cons_of_mem _ hq))), hfP q hq⟩
    have F35k := F35.keep
    clear F34 N34
    k_steps
    rename Fr _ _ _ _ => F36
    rename News _ _ _ _ => N36
    refine law_long (X0.keeps F36.keep) (T0.keeps F36.keep) (by show dA + 1 < _; omega) fun h37 tk37 u37 hk37 => ?_
    have F37 := F36.keeps hk37
    have N37 := N36.grown hk37
    clear F36 N36
    obtain ⟨n4, hn4⟩ : ∃ n4, n4 = lg (leafLen kl + n) + (leafLen kl + n) := ⟨_, rfl⟩
    have hlg4 := lg_pos (leafLen kl + n)
    k_steps
    all_goals try (exfalso; omega)
    rename Fr _ _ _ _ => F38
    rename News _ _ _ _ => N38
    rename _ ∧ AllLt _ _ => hlt38
    have t38 := tab_at e1678 t35 F35k F38.keep (N38.get (List.mem_cons_of_mem _ List.mem_cons_self))
    refine encode_ok (d := 4) (X0.keeps F38.keep) (T0.keeps F38.keep) (by show dA + 1 < _; omega) (M0.keeps F38.keep) t38 hP (by show dA + 1 + 2 * 4 + 5 < _; omega) (by omega) rfl (val_two hn4 (N38.isList List.mem_cons_self) (hvleaf _ 3) (hV4.val (fun q hq => (N38 q (List.mem_cons_of_mem _ (List.mem_cons_of_mem _ (hsub q hq)))).1))) fun s39 b39 tb39 hg39 hb39 => ?_
    obtain ⟨more39, t39⟩ := hg39.tab
    have G39 := G35.step hg39
    have F39 : Fr g₀ L s39.heap _ := fr_grt hg39 F38 hgP hLne
    have N39 := news_grt hg39 N38 (List.mem_cons_of_mem _ List.mem_cons_self) t39 (rest := fpi) fun q hq => ⟨(List.mem_cons_of_mem _ (List.mem_cons_of_mem _ hq)), hfP q hq⟩
    have F39k := F39.keep
    clear F38 N38
    k_steps
    rename Fr _ _ _ _ => F40
    rename News _ _ _ _ => N40
    refine law_length 4 (X0.keeps F40.keep) (T0.keeps F40.keep) (by show dA + 1 < _; omega) (by show dA + 1 + 4 + 1 < _; omega) (by omega) rfl (val_two hn4 (N40.isList List.mem_cons_self) (hvleaf _ 3) (hV4.val (fun q hq => (N40 q (List.mem_cons_of_mem _ (List.mem_cons_of_mem _ (hsub q hq)))).1))) fun h41 tk41 u41 hk41 => ?_
    have F41 := F40.keeps hk41
    have N41 := N40.grown hk41
    clear F40 N40
    k_steps
    have eb : ((b39.size : Int) == n4) = true := beq_iff_eq.mpr hb39
    rw [eb]
    have t42 := tab_at e1678 t39 F39k F41.keep (N41.get (List.mem_cons_of_mem _ List.mem_cons_self))
    have eas : ps ++ more ++ more35 ++ more39 = ps ++ (more ++ more35 ++ more39) := by rw [← Array.append_assoc, ← Array.append_assoc]
    rw [eas] at t42
    exact h _ (hback F41.keep) ⟨_, t42⟩ ⟨G39.size, G39.gens, G39.bare, G39.drawn, G39.os⟩
end Mine
set_option maxRecDepth 1000000
set_option maxHeartbeats 0
namespace Mine
theorem fill_k14 : (KK = KK) ∧ (PySem.Challenge.rw_bi0019_01 = PySem.Challenge.rw_bi0019_01) := by
  k_fill
  exact ⟨rfl, rfl⟩
end Mine
open Mine
theorem PySem.Challenge.cw_bi0019_01_holds : PySem.Challenge.rw_bi0019_01.Holds := by
  w_on
  o_law
  refine W.holds_open (q := qv) (loose := loose0) (Xt := Xt0) (XP := XL qv []) (Yf := HK.obs) (Ya := HK.val) (YP := HK.says) (N := 30000) ?hl HK.of HK.keeps (fun s e => xl_of s (Bool.and_eq_true_iff.mp e).1) XL.keeps (by rfl) (by rfl) (by rfl) (fun s e => recFacts_of (Bool.and_eq_true_iff.mp e).2) (by rfl) (by assumption) (by decide +kernel) ⟨rfl, rfl, rfl, rfl, rfl, by decide +kernel⟩ ?hw ?hc
  case hl => exact left
  case hw => w_witness2
  case hc =>
    intro w s₀ s₁ mg mb G Y fa o pm cd doc dV kV ho hd hcd hD hmg hg args vals as hpre hlay hrd hwl hlo
    have X : (KK w.params).In s₁.heap := Y
    refine Ground.open G ?_
    intro T B D TE TW
    have Tr := topRead_of T
    obtain ⟨bm, ob, M⟩ := bmod_of_top T
    have ha : fa = 1737 := by
      have e := mg_of X T.g (n := Str.ofString "law") (v := .ref 1737) (by kernel_rfl)
      have e2 := e.symm.trans hmg
      cases e2
      rfl
    subst ha
    have he : ∃ ob2, s₁.heap.get? 1679 = some ob2 ∧ ∃ fd, ob2.data = .func fd ∧ fd.code = .ref 1678 := by
      have e : ∃ ob2, (KK w.params).lookup 1679 = some ob2 ∧ ∃ fd, ob2.data = .func fd ∧ fd.code = .ref 1678 := ⟨_, rfl, _, rfl, rfl⟩
      obtain ⟨ob2, e1, e2⟩ := e
      exact ⟨ob2, X _ _ e1, e2⟩
    obtain ⟨ob2, he1, fd2, he2, he3⟩ := he
    have hme := mg_of X T.g (n := Str.ofString "encode_raw") (v := .ref 1679) (by kernel_rfl)
    obtain ⟨c2, P, hc2, B2⟩ := based_of_top T (name := Str.ofString "encode_raw") rfl hme he1 he2
    rw [he3] at hc2
    cases hc2
    wrow_args hpre hlay hrd hwl hlo
    rename Heap.IsList _ _ _ => hL
    rename IntsAre _ _ => hI
    rename ¬ _ < _ => hc63
    have hIl := hI.length
    refine law_ok (bm := bm) (ob := ob) (ps := #[]) X Tr (by decide) M ⟨B2.code, B2.tab⟩ B2.notStatics (by decide) (by decide) rfl hL hI (by omega) fun s' hk ht hG => ?_
    obtain ⟨more, ht⟩ := ht
    refine ⟨.inl ⟨_, .bool true, [], rfl, fun cls => rfl, .bool true, by first | with_unfolding_all rfl | kernel_rfl | w_fin, fun _ => ⟨List.nodup_nil, fun a ha => by cases ha⟩⟩, (OldK.refl _).step_table B2.tab B2.tab ht.tab (fun b o hb e => hk b o hb e) B2.notStatics, hG.os, hG.bare (AllBare.of_eq hg)⟩
