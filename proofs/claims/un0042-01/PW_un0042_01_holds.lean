import PyProof.Rows.All
import Wide.All
import OpenK.AllK
import Wide.FinOn
import PySem.Challenge.RW_un0042_01
open PySem PySem.W PyProof.Rows
set_option Elab.async false
set_option maxRecDepth 100000
set_option maxHeartbeats 8000000
set_option compiler.extract_closed false
set_option rowWalk.seconds 0
set_option linter.all false
set_option pp.deepTerms false
set_option pp.deepTerms.threshold 4
set_option pp.maxSteps 3000
namespace Mine
/-- the head of the machine's own keys, out of the model's own constant -/
noncomputable def wI : Str := ⟨PySem.Builtin.chainKey.cps.take 6⟩
noncomputable def stNth : List Stmt → Nat → Stmt
  | [], _ => .Pass ⟨0, 0, 0, 0⟩
  | x :: _, 0 => x
  | _ :: r, n + 1 => stNth r n
noncomputable def clsBody : Stmt → List Stmt
  | .ClassDef _ _ _ b .. => b
  | _ => []
noncomputable def stTop (i : Nat) : Stmt := stNth PySem.Challenge.pw_un0042_01.main.body i
noncomputable def stIn (i j : Nat) : Stmt := stNth (clsBody (stTop i)) j
inductive FnIs : Stmt → Arguments → List Stmt → Scope → Prop
  | mk {n a b d r t s ts bi p} : FnIs (.FunctionDef n a b d r t s ts bi p) a b s
noncomputable def hpK : Params → Frag := by
  refine' (?F : (a0 : Arguments) → (b0 : List Stmt) → (s0 : Scope) → (a1 : Arguments) → (b1 : List Stmt) → (s1 : Scope) → (a2 : Arguments) → (b2 : List Stmt) → (s2 : Scope) → (a3 : Arguments) → (b3 : List Stmt) → (s3 : Scope) → (a4 : Arguments) → (b4 : List Stmt) → (s4 : Scope) → (a5 : Arguments) → (b5 : List Stmt) → (s5 : Scope) → (a6 : Arguments) → (b6 : List Stmt) → (s6 : Scope) → (a7 : Arguments) → (b7 : List Stmt) → (s7 : Scope) → (a8 : Arguments) → (b8 : List Stmt) → (s8 : Scope) → (a9 : Arguments) → (b9 : List Stmt) → (s9 : Scope) → (a10 : Arguments) → (b10 : List Stmt) → (s10 : Scope) → (a11 : Arguments) → (b11 : List Stmt) → (s11 : Scope) → (a12 : Arguments) → (b12 : List Stmt) → (s12 : Scope) → (a13 : Arguments) → (b13 : List Stmt) → (s13 : Scope) → (a14 : Arguments) → (b14 : List Stmt) → (s14 : Scope) → (a15 : Arguments) → (b15 : List Stmt) → (s15 : Scope) → (a16 : Arguments) → (b16 : List Stmt) → (s16 : Scope) → (a17 : Arguments) → (b17 : List Stmt) → (s17 : Scope) → (a18 : Arguments) → (b18 : List Stmt) → (s18 : Scope) → (a19 : Arguments) → (b19 : List Stmt) → (s19 : Scope) → (a20 : Arguments) → (b20 : List Stmt) → (s20 : Scope) → (a21 : Arguments) → (b21 : List Stmt) → (s21 : Scope) → (a22 : Arguments) → (b22 : List Stmt) → (s22 : Scope) → (a23 : Arguments) → (b23 : List Stmt) → (s23 : Scope) → (a24 : Arguments) → (b24 : List Stmt) → (s24 : Scope) → (a25 : Arguments) → (b25 : List Stmt) → (s25 : Scope) → (a26 : Arguments) → (b26 : List Stmt) → (s26 : Scope) → (a27 : Arguments) → (b27 : List Stmt) → (s27 : Scope) → (a28 : Arguments) → (b28 : List Stmt) → (s28 : Scope) → (a29 : Arguments) → (b29 : List Stmt) → (s29 : Scope) → (a30 : Arguments) → (b30 : List Stmt) → (s30 : Scope) → (a31 : Arguments) → (b31 : List Stmt) → (s31 : Scope) → (a32 : Arguments) → (b32 : List Stmt) → (s32 : Scope) → (a33 : Arguments) → (b33 : List Stmt) → (s33 : Scope) → (a34 : Arguments) → (b34 : List Stmt) → (s34 : Scope) → (a35 : Arguments) → (b35 : List Stmt) → (s35 : Scope) → (a36 : Arguments) → (b36 : List Stmt) → (s36 : Scope) → (a37 : Arguments) → (b37 : List Stmt) → (s37 : Scope) → (a38 : Arguments) → (b38 : List Stmt) → (s38 : Scope) → (a39 : Arguments) → (b39 : List Stmt) → (s39 : Scope) → (a40 : Arguments) → (b40 : List Stmt) → (s40 : Scope) → FnIs (stTop 1) a0 b0 s0 → FnIs (stIn 5 0) a1 b1 s1 → FnIs (stIn 5 1) a2 b2 s2 → FnIs (stIn 5 2) a3 b3 s3 → FnIs (stIn 5 3) a4 b4 s4 → FnIs (stIn 5 4) a5 b5 s5 → FnIs (stIn 5 5) a6 b6 s6 → FnIs (stIn 5 6) a7 b7 s7 → FnIs (stIn 5 7) a8 b8 s8 → FnIs (stIn 5 8) a9 b9 s9 → FnIs (stIn 5 9) a10 b10 s10 → FnIs (stIn 5 10) a11 b11 s11 → FnIs (stIn 5 11) a12 b12 s12 → FnIs (stIn 5 12) a13 b13 s13 → FnIs (stIn 5 13) a14 b14 s14 → FnIs (stIn 5 14) a15 b15 s15 → FnIs (stIn 5 15) a16 b16 s16 → FnIs (stIn 5 16) a17 b17 s17 → FnIs (stTop 8) a18 b18 s18 → FnIs (stTop 9) a19 b19 s19 → FnIs (stTop 10) a20 b20 s20 → FnIs (stTop 11) a21 b21 s21 → FnIs (stTop 12) a22 b22 s22 → FnIs (stTop 13) a23 b23 s23 → FnIs (stIn 16 0) a24 b24 s24 → FnIs (stIn 16 1) a25 b25 s25 → FnIs (stIn 16 2) a26 b26 s26 → FnIs (stIn 16 3) a27 b27 s27 → FnIs (stIn 16 4) a28 b28 s28 → FnIs (stIn 16 5) a29 b29 s29 → FnIs (stIn 16 6) a30 b30 s30 → FnIs (stIn 16 7) a31 b31 s31 → FnIs (stIn 16 8) a32 b32 s32 → FnIs (stTop 18) a33 b33 s33 → FnIs (stTop 19) a34 b34 s34 → FnIs (stTop 20) a35 b35 s35 → FnIs (stTop 21) a36 b36 s36 → FnIs (stTop 22) a37 b37 s37 → FnIs (stTop 23) a38 b38 s38 → FnIs (stTop 24) a39 b39 s39 → FnIs (stTop 25) a40 b40 s40 → Params → Frag) _ _ _ _ _ _ _ _ _ _ _ _ _ _ _ _ _ _ _ _ _ _ _ _ _ _ _ _ _ _ _ _ _ _ _ _ _ _ _ _ _ _ _ _ _ _ _ _ _ _ _ _ _ _ _ _ _ _ _ _ _ _ _ _ _ _ _ _ _ _ _ _ _ _ _ _ _ _ _ _ _ _ _ _ _ _ _ _ _ _ _ _ _ _ _ _ _ _ _ _ _ _ _ _ _ _ _ _ _ _ _ _ _ _ _ _ _ _ _ _ _ _ _ .mk .mk .mk .mk .mk .mk .mk .mk .mk .mk .mk .mk .mk .mk .mk .mk .mk .mk .mk .mk .mk .mk .mk .mk .mk .mk .mk .mk .mk .mk .mk .mk .mk .mk .mk .mk .mk .mk .mk .mk .mk
  exact fun a0 b0 s0 a1 b1 s1 a2 b2 s2 a3 b3 s3 a4 b4 s4 a5 b5 s5 a6 b6 s6 a7 b7 s7 a8 b8 s8 a9 b9 s9 a10 b10 s10 a11 b11 s11 a12 b12 s12 a13 b13 s13 a14 b14 s14 a15 b15 s15 a16 b16 s16 a17 b17 s17 a18 b18 s18 a19 b19 s19 a20 b20 s20 a21 b21 s21 a22 b22 s22 a23 b23 s23 a24 b24 s24 a25 b25 s25 a26 b26 s26 a27 b27 s27 a28 b28 s28 a29 b29 s29 a30 b30 s30 a31 b31 s31 a32 b32 s32 a33 b33 s33 a34 b34 s34 a35 b35 s35 a36 b36 s36 a37 b37 s37 a38 b38 s38 a39 b39 s39 a40 b40 s40 _ _ _ _ _ _ _ _ _ _ _ _ _ _ _ _ _ _ _ _ _ _ _ _ _ _ _ _ _ _ _ _ _ _ _ _ _ _ _ _ _ P => (((nat_lit 2), ⟨Value.none, none, (Data.dict [⟨(PyData.keyHash P (wI ++ Str.ofString ".loaded._sre")), (Value.str (wI ++ Str.ofString ".loaded._sre") 183), (Value.bool Bool.true)⟩, ⟨(PyData.keyHash P (Str.ofString "class._frozen_importlib.BuiltinImporter")), (Value.str (Str.ofString "class._frozen_importlib.BuiltinImporter") 185), (Value.ref 14)⟩, ⟨(PyData.keyHash P (Str.ofString "watched." ++ wI)), (Value.str (Str.ofString "watched." ++ wI) 206), (Value.ref 18)⟩, ⟨(PyData.keyHash P (Str.ofString "class._frozen_importlib.ModuleSpec")), (Value.str (Str.ofString "class._frozen_importlib.ModuleSpec") 216), (Value.ref 22)⟩, ⟨(PyData.keyHash P (Str.ofString "sys.modules.booked-epoch")), (Value.str (Str.ofString "sys.modules.booked-epoch") 245), (Value.int 3 0)⟩, ⟨(PyData.keyHash P (wI ++ Str.ofString ".later-laid._sre")), (Value.str (wI ++ Str.ofString ".later-laid._sre") 270), (Value.bool Bool.true)⟩, ⟨(PyData.keyHash P (Str.ofString "watched.library")), (Value.str (Str.ofString "watched.library") 272), (Value.ref 27)⟩, ⟨(PyData.keyHash P (Str.ofString "watched.library-objects")), (Value.str (Str.ofString "watched.library-objects") 0), (Value.str (Str.ofString "\x0c") 0)⟩, ⟨(PyData.keyHash P (Str.ofString "watched.library-deep._sre")), (Value.str (Str.ofString "watched.library-deep._sre") 273), (Value.str (Str.ofString "\x04\x00\x00\x0b\x04\x00\x00\x0b\x04\x00\x00\x03\x04\x00\x00\x0b\x08\x04dict\x02") 0)⟩].toArray 9), [].toArray⟩) :: ((nat_lit 3), ⟨(Value.type "dict"), none, (Data.dict [⟨(PyData.keyHash P (Str.ofString "__name__")), (Value.str (Str.ofString "__name__") 165), (Value.str (Str.ofString "law_un0042_01") 689)⟩, ⟨(PyData.keyHash P (Str.ofString "__doc__")), (Value.str (Str.ofString "__doc__") 166), Value.none⟩, ⟨(PyData.keyHash P (Str.ofString "__package__")), (Value.str (Str.ofString "__package__") 167), Value.none⟩, ⟨(PyData.keyHash P (Str.ofString "__loader__")), (Value.str (Str.ofString "__loader__") 168), (Value.builtin "__main__.__loader__#opaque")⟩, ⟨(PyData.keyHash P (Str.ofString "__spec__")), (Value.str (Str.ofString "__spec__") 169), Value.none⟩, ⟨(PyData.keyHash P (Str.ofString "__annotations__")), (Value.str (Str.ofString "__annotations__") 170), (Value.ref 6)⟩, ⟨(PyData.keyHash P (Str.ofString "__builtins__")), (Value.str (Str.ofString "__builtins__") 171), (Value.ref 4)⟩, ⟨(PyData.keyHash P (Str.ofString "__file__")), (Value.str (Str.ofString "__file__") 173), (Value.str (Str.ofString "/claim/cut.py") 172)⟩, ⟨(PyData.keyHash P (Str.ofString "__cached__")), (Value.str (Str.ofString "__cached__") 174), Value.none⟩, ⟨(PyData.keyHash P (Str.ofString "_sre")), (Value.str (Str.ofString "_sre") 275), (Value.ref 12)⟩, ⟨(PyData.keyHash P (Str.ofString "_wall")), (Value.str (Str.ofString "_wall") 288), (Value.ref 38)⟩, ⟨(PyData.keyHash P (Str.ofString "_name_disallowed_re")), (Value.str (Str.ofString "_name_disallowed_re") 316), (Value.ref 43)⟩, ⟨(PyData.keyHash P (Str.ofString "_value_disallowed_re")), (Value.str (Str.ofString "_value_disallowed_re") 350), (Value.ref 48)⟩, ⟨(PyData.keyHash P (Str.ofString "Headers")), (Value.str (Str.ofString "Headers") 507), (Value.ref 171)⟩, ⟨(PyData.keyHash P (Str.ofString "_DIV_LIMIT")), (Value.str (Str.ofString "_DIV_LIMIT") 511), (Value.int 4000 510)⟩, ⟨(PyData.keyHash P (Str.ofString "_div2n1n")), (Value.str (Str.ofString "_div2n1n") 528), (Value.ref 182)⟩, ⟨(PyData.keyHash P (Str.ofString "_div3n2n")), (Value.str (Str.ofString "_div3n2n") 542), (Value.ref 189)⟩, ⟨(PyData.keyHash P (Str.ofString "_int2digits")), (Value.str (Str.ofString "_int2digits") 553), (Value.ref 196)⟩, ⟨(PyData.keyHash P (Str.ofString "_digits2int")), (Value.str (Str.ofString "_digits2int") 564), (Value.ref 203)⟩, ⟨(PyData.keyHash P (Str.ofString "_divmod_pos")), (Value.str (Str.ofString "_divmod_pos") 579), (Value.ref 210)⟩, ⟨(PyData.keyHash P (Str.ofString "int_divmod")), (Value.str (Str.ofString "int_divmod") 589), (Value.ref 217)⟩, ⟨(PyData.keyHash P (Str.ofString "EMPTYSTRING")), (Value.str (Str.ofString "EMPTYSTRING") 593), (Value.str (Str.ofString "") 592)⟩, ⟨(PyData.keyHash P (Str.ofString "_Accumulator")), (Value.str (Str.ofString "_Accumulator") 688), (Value.ref 296)⟩, ⟨(PyData.keyHash P (Str.ofString "_law_digits")), (Value.str (Str.ofString "_law_digits") 696), (Value.ref 305)⟩, ⟨(PyData.keyHash P (Str.ofString "_law_name")), (Value.str (Str.ofString "_law_name") 702), (Value.ref 310)⟩, ⟨(PyData.keyHash P (Str.ofString "_law_exchanges")), (Value.str (Str.ofString "_law_exchanges") 713), (Value.ref 317)⟩, ⟨(PyData.keyHash P (Str.ofString "_law_rounds")), (Value.str (Str.ofString "_law_rounds") 719), (Value.ref 322)⟩, ⟨(PyData.keyHash P (Str.ofString "_law_words")), (Value.str (Str.ofString "_law_words") 731), (Value.ref 329)⟩, ⟨(PyData.keyHash P (Str.ofString "_law_apart")), (Value.str (Str.ofString "_law_apart") 742), (Value.ref 336)⟩, ⟨(PyData.keyHash P (Str.ofString "_law_all")), (Value.str (Str.ofString "_law_all") 748), (Value.ref 341)⟩, ⟨(PyData.keyHash P (Str.ofString "law")), (Value.str (Str.ofString "law") 754), (Value.ref 346)⟩].toArray 31), [].toArray⟩) :: ((nat_lit 32), ⟨(Value.type "tuple"), none, (Data.seq [].toArray 0), [].toArray⟩) :: ((nat_lit 34), ⟨(Value.type "tuple"), none, (Data.seq [(Value.str (Str.ofString "k") 285)].toArray 0), [].toArray⟩) :: ((nat_lit 35), ⟨(Value.type "tuple"), none, (Data.seq [].toArray 0), [].toArray⟩) :: ((nat_lit 37), ⟨(Value.type "code"), none, (Data.fields [(Value.str (Str.ofString "_wall") 282), (Value.str (Str.ofString "_wall") 283), (Value.str (Str.ofString "/claim/cut.py") 284), (Value.int 2 0), (Value.int 1 0), (Value.int 0 0), (Value.int 0 0), (Value.int 3 0), (Value.ref 32), (Value.bool Bool.true), (Value.int 276 0), (Value.ref 33), Value.none, (Value.ref 34), (Value.ref 35), (Value.ref 36), (Value.int 286 0), (Value.int 2 0), (Value.str (Str.ofString "/claim/cut.py") 287)].toArray), [].toArray⟩) :: ((nat_lit 38), ⟨(Value.type "function"), none, (Data.func ⟨(Str.ofString "_wall"), (Str.ofString "_wall"), a0, FuncBody.stmts b0, s0, 3, [], Value.none, Value.none, Value.none, (Value.str (Str.ofString "__main__") 164), none, (Value.ref 37), Value.none, 0⟩), [].toArray⟩) :: ((nat_lit 42), ⟨(Value.type "tuple"), none, (Data.seq [(Value.int 14 0), (Value.int 10 0), (Value.int 4 0), (Value.int 1 0), (Value.int 1 0), (Value.int 22 0), (Value.int 0 0), (Value.int 31 0), (Value.int 16 0), (Value.int 127 0), (Value.int 0 0), (Value.int 13 0), (Value.int 7 0), (Value.int 22 0), (Value.int 0 0), (Value.int 31 0), (Value.int 16 0), (Value.int 127 0), (Value.int 0 0), (Value.int 1 0)].toArray 0), [].toArray⟩) :: ((nat_lit 43), ⟨(Value.type "re.Pattern"), none, (Data.fields [(Value.str (Str.ofString "[\\x00-\\x1F\\x7F]") 292), (Value.int 32 315), (Value.int 0 0), Value.none, Value.none, (Value.ref 42), (Value.int 0 0)].toArray), [].toArray⟩) :: ((nat_lit 47), ⟨(Value.type "tuple"), none, (Data.seq [(Value.int 14 0), (Value.int 14 0), (Value.int 4 0), (Value.int 1 0), (Value.int 1 0), (Value.int 9 0), (Value.int 4294966783 0), (Value.int 0 0), (Value.int 0 0), (Value.int 2147483648 0), (Value.int 0 0), (Value.int 0 0), (Value.int 0 0), (Value.int 0 0), (Value.int 0 0), (Value.int 13 0), (Value.int 11 0), (Value.int 9 0), (Value.int 4294966783 0), (Value.int 0 0), (Value.int 0 0), (Value.int 2147483648 0), (Value.int 0 0), (Value.int 0 0), (Value.int 0 0), (Value.int 0 0), (Value.int 0 0), (Value.int 1 0)].toArray 0), [].toArray⟩) :: ((nat_lit 48), ⟨(Value.type "re.Pattern"), none, (Data.fields [(Value.str (Str.ofString "[\\x00-\\x08\\x0A-\\x1F\\x7F]") 318), (Value.int 32 349), (Value.int 0 0), Value.none, Value.none, (Value.ref 47), (Value.int 0 0)].toArray), [].toArray⟩) :: ((nat_lit 56), ⟨(Value.type "tuple"), none, (Data.seq [Value.none].toArray 0), [].toArray⟩) :: ((nat_lit 57), ⟨(Value.type "tuple"), none, (Data.seq [].toArray 0), [].toArray⟩) :: ((nat_lit 59), ⟨(Value.type "tuple"), none, (Data.seq [(Value.str (Str.ofString "self") 366), (Value.str (Str.ofString "headers") 367), (Value.str (Str.ofString "k") 368), (Value.str (Str.ofString "v") 369)].toArray 0), [].toArray⟩) :: ((nat_lit 60), ⟨(Value.type "tuple"), none, (Data.seq [].toArray 0), [].toArray⟩) :: ((nat_lit 62), ⟨(Value.type "code"), none, (Data.fields [(Value.str (Str.ofString "__init__") 363), (Value.str (Str.ofString "Headers.__init__") 364), (Value.str (Str.ofString "/claim/cut.py") 365), (Value.int 10 0), (Value.int 2 0), (Value.int 0 0), (Value.int 0 0), (Value.int 3 0), (Value.ref 57), (Value.bool Bool.true), (Value.int 276 0), (Value.ref 58), Value.none, (Value.ref 59), (Value.ref 60), (Value.ref 61), (Value.int 370 0), (Value.int 10 0), (Value.str (Str.ofString "/claim/cut.py") 371)].toArray), [].toArray⟩) :: ((nat_lit 63), ⟨(Value.type "function"), none, (Data.func ⟨(Str.ofString "__init__"), (Str.ofString "Headers.__init__"), a1, FuncBody.stmts b1, s1, 3, [], (Value.ref 56), Value.none, Value.none, (Value.str (Str.ofString "cpy313.wsgiref.headers") 289), none, (Value.ref 62), Value.none, 0⟩), [].toArray⟩) :: ((nat_lit 64), ⟨(Value.type "tuple"), none, (Data.seq [].toArray 0), [].toArray⟩) :: ((nat_lit 66), ⟨(Value.type "tuple"), none, (Data.seq [(Value.str (Str.ofString "self") 376), (Value.str (Str.ofString "value") 377), (Value.str (Str.ofString "name") 378), (Value.str (Str.ofString "regex") 379)].toArray 0), [].toArray⟩) :: ((nat_lit 67), ⟨(Value.type "tuple"), none, (Data.seq [].toArray 0), [].toArray⟩) :: ((nat_lit 69), ⟨(Value.type "code"), none, (Data.fields [(Value.str (Str.ofString "_convert_string_type") 373), (Value.str (Str.ofString "Headers._convert_string_type") 374), (Value.str (Str.ofString "/claim/cut.py") 375), (Value.int 20 0), (Value.int 2 0), (Value.int 0 0), (Value.int 1 0), (Value.int 3 0), (Value.ref 64), (Value.bool Bool.true), (Value.int 276 0), (Value.ref 65), Value.none, (Value.ref 66), (Value.ref 67), (Value.ref 68), (Value.int 380 0), (Value.int 20 0), (Value.str (Str.ofString "/claim/cut.py") 381)].toArray), [].toArray⟩) :: ((nat_lit 70), ⟨(Value.type "function"), none, (Data.func ⟨(Str.ofString "_convert_string_type"), (Str.ofString "Headers._convert_string_type"), a2, FuncBody.stmts b2, s2, 3, [], Value.none, Value.none, Value.none, (Value.str (Str.ofString "cpy313.wsgiref.headers") 289), none, (Value.ref 69), Value.none, 0⟩), [].toArray⟩) :: ((nat_lit 71), ⟨(Value.type "tuple"), none, (Data.seq [].toArray 0), [].toArray⟩) :: ((nat_lit 73), ⟨(Value.type "tuple"), none, (Data.seq [(Value.str (Str.ofString "self") 386)].toArray 0), [].toArray⟩) :: ((nat_lit 74), ⟨(Value.type "tuple"), none, (Data.seq [].toArray 0), [].toArray⟩) :: ((nat_lit 76), ⟨(Value.type "code"), none, (Data.fields [(Value.str (Str.ofString "__len__") 383), (Value.str (Str.ofString "Headers.__len__") 384), (Value.str (Str.ofString "/claim/cut.py") 385), (Value.int 28 0), (Value.int 1 0), (Value.int 0 0), (Value.int 0 0), (Value.int 3 0), (Value.ref 71), (Value.bool Bool.true), (Value.int 276 0), (Value.ref 72), Value.none, (Value.ref 73), (Value.ref 74), (Value.ref 75), (Value.int 387 0), (Value.int 28 0), (Value.str (Str.ofString "/claim/cut.py") 388)].toArray), [].toArray⟩) :: ((nat_lit 77), ⟨(Value.type "function"), none, (Data.func ⟨(Str.ofString "__len__"), (Str.ofString "Headers.__len__"), a3, FuncBody.stmts b3, s3, 3, [], Value.none, Value.none, Value.none, (Value.str (Str.ofString "cpy313.wsgiref.headers") 289), none, (Value.ref 76), Value.none, 0⟩), [].toArray⟩) :: ((nat_lit 78), ⟨(Value.type "tuple"), none, (Data.seq [].toArray 0), [].toArray⟩) :: ((nat_lit 80), ⟨(Value.type "tuple"), none, (Data.seq [(Value.str (Str.ofString "self") 393), (Value.str (Str.ofString "name") 394), (Value.str (Str.ofString "val") 395)].toArray 0), [].toArray⟩) :: ((nat_lit 81), ⟨(Value.type "tuple"), none, (Data.seq [].toArray 0), [].toArray⟩) :: ((nat_lit 83), ⟨(Value.type "code"), none, (Data.fields [(Value.str (Str.ofString "__setitem__") 390), (Value.str (Str.ofString "Headers.__setitem__") 391), (Value.str (Str.ofString "/claim/cut.py") 392), (Value.int 31 0), (Value.int 3 0), (Value.int 0 0), (Value.int 0 0), (Value.int 3 0), (Value.ref 78), (Value.bool Bool.true), (Value.int 276 0), (Value.ref 79), Value.none, (Value.ref 80), (Value.ref 81), (Value.ref 82), (Value.int 396 0), (Value.int 31 0), (Value.str (Str.ofString "/claim/cut.py") 397)].toArray), [].toArray⟩) :: ((nat_lit 84), ⟨(Value.type "function"), none, (Data.func ⟨(Str.ofString "__setitem__"), (Str.ofString "Headers.__setitem__"), a4, FuncBody.stmts b4, s4, 3, [], Value.none, Value.none, Value.none, (Value.str (Str.ofString "cpy313.wsgiref.headers") 289), none, (Value.ref 83), Value.none, 0⟩), [].toArray⟩) :: ((nat_lit 85), ⟨(Value.type "tuple"), none, (Data.seq [].toArray 0), [].toArray⟩) :: ((nat_lit 88), ⟨(Value.type "code"), none, (Data.fields [(Value.str (Str.ofString "__delitem__") 399), (Value.str (Str.ofString "Headers.__delitem__") 400), (Value.str (Str.ofString "/claim/cut.py") 401), (Value.int 35 0), (Value.int 2 0), (Value.int 0 0), (Value.int 0 0), (Value.int 3 0), (Value.ref 85), (Value.bool Bool.true), (Value.int 276 0), (Value.ref 86), Value.none, Value.none, Value.none, (Value.ref 87), (Value.int 402 0), (Value.int 35 0), (Value.str (Str.ofString "/claim/cut.py") 403)].toArray), [].toArray⟩) :: ((nat_lit 89), ⟨(Value.type "function"), none, (Data.func ⟨(Str.ofString "__delitem__"), (Str.ofString "Headers.__delitem__"), a5, FuncBody.stmts b5, s5, 3, [], Value.none, Value.none, Value.none, (Value.str (Str.ofString "cpy313.wsgiref.headers") 289), none, (Value.ref 88), Value.none, 0⟩), [].toArray⟩) :: ((nat_lit 90), ⟨(Value.type "tuple"), none, (Data.seq [].toArray 0), [].toArray⟩) :: ((nat_lit 92), ⟨(Value.type "tuple"), none, (Data.seq [(Value.str (Str.ofString "self") 408), (Value.str (Str.ofString "name") 409)].toArray 0), [].toArray⟩) :: ((nat_lit 93), ⟨(Value.type "tuple"), none, (Data.seq [].toArray 0), [].toArray⟩) :: ((nat_lit 95), ⟨(Value.type "code"), none, (Data.fields [(Value.str (Str.ofString "__getitem__") 405), (Value.str (Str.ofString "Headers.__getitem__") 406), (Value.str (Str.ofString "/claim/cut.py") 407), (Value.int 39 0), (Value.int 2 0), (Value.int 0 0), (Value.int 0 0), (Value.int 3 0), (Value.ref 90), (Value.bool Bool.true), (Value.int 276 0), (Value.ref 91), Value.none, (Value.ref 92), (Value.ref 93), (Value.ref 94), (Value.int 410 0), (Value.int 39 0), (Value.str (Str.ofString "/claim/cut.py") 411)].toArray), [].toArray⟩) :: ((nat_lit 96), ⟨(Value.type "function"), none, (Data.func ⟨(Str.ofString "__getitem__"), (Str.ofString "Headers.__getitem__"), a6, FuncBody.stmts b6, s6, 3, [], Value.none, Value.none, Value.none, (Value.str (Str.ofString "cpy313.wsgiref.headers") 289), none, (Value.ref 95), Value.none, 0⟩), [].toArray⟩) :: ((nat_lit 97), ⟨(Value.type "tuple"), none, (Data.seq [].toArray 0), [].toArray⟩) :: ((nat_lit 99), ⟨(Value.type "tuple"), none, (Data.seq [(Value.str (Str.ofString "self") 416), (Value.str (Str.ofString "name") 417)].toArray 0), [].toArray⟩) :: ((nat_lit 100), ⟨(Value.type "tuple"), none, (Data.seq [].toArray 0), [].toArray⟩) :: ((nat_lit 102), ⟨(Value.type "code"), none, (Data.fields [(Value.str (Str.ofString "__contains__") 413), (Value.str (Str.ofString "Headers.__contains__") 414), (Value.str (Str.ofString "/claim/cut.py") 415), (Value.int 42 0), (Value.int 2 0), (Value.int 0 0), (Value.int 0 0), (Value.int 3 0), (Value.ref 97), (Value.bool Bool.true), (Value.int 276 0), (Value.ref 98), Value.none, (Value.ref 99), (Value.ref 100), (Value.ref 101), (Value.int 418 0), (Value.int 42 0), (Value.str (Str.ofString "/claim/cut.py") 419)].toArray), [].toArray⟩) :: ((nat_lit 103), ⟨(Value.type "function"), none, (Data.func ⟨(Str.ofString "__contains__"), (Str.ofString "Headers.__contains__"), a7, FuncBody.stmts b7, s7, 3, [], Value.none, Value.none, Value.none, (Value.str (Str.ofString "cpy313.wsgiref.headers") 289), none, (Value.ref 102), Value.none, 0⟩), [].toArray⟩) :: ((nat_lit 104), ⟨(Value.type "tuple"), none, (Data.seq [].toArray 0), [].toArray⟩) :: ((nat_lit 106), ⟨(Value.type "tuple"), none, (Data.seq [(Value.str (Str.ofString "self") 424), (Value.str (Str.ofString "name") 425)].toArray 0), [].toArray⟩) :: ((nat_lit 107), ⟨(Value.type "tuple"), none, (Data.seq [].toArray 0), [].toArray⟩) :: ((nat_lit 109), ⟨(Value.type "code"), none, (Data.fields [(Value.str (Str.ofString "get_all") 421), (Value.str (Str.ofString "Headers.get_all") 422), (Value.str (Str.ofString "/claim/cut.py") 423), (Value.int 45 0), (Value.int 2 0), (Value.int 0 0), (Value.int 0 0), (Value.int 3 0), (Value.ref 104), (Value.bool Bool.true), (Value.int 276 0), (Value.ref 105), Value.none, (Value.ref 106), (Value.ref 107), (Value.ref 108), (Value.int 426 0), (Value.int 45 0), (Value.str (Str.ofString "/claim/cut.py") 427)].toArray), [].toArray⟩) :: ((nat_lit 110), ⟨(Value.type "function"), none, (Data.func ⟨(Str.ofString "get_all"), (Str.ofString "Headers.get_all"), a8, FuncBody.stmts b8, s8, 3, [], Value.none, Value.none, Value.none, (Value.str (Str.ofString "cpy313.wsgiref.headers") 289), none, (Value.ref 109), Value.none, 0⟩), [].toArray⟩) :: ((nat_lit 111), ⟨(Value.type "tuple"), none, (Data.seq [Value.none].toArray 0), [].toArray⟩) :: ((nat_lit 112), ⟨(Value.type "tuple"), none, (Data.seq [].toArray 0), [].toArray⟩) :: ((nat_lit 114), ⟨(Value.type "tuple"), none, (Data.seq [(Value.str (Str.ofString "self") 432), (Value.str (Str.ofString "name") 433), (Value.str (Str.ofString "default") 434), (Value.str (Str.ofString "k") 435), (Value.str (Str.ofString "v") 436)].toArray 0), [].toArray⟩) :: ((nat_lit 115), ⟨(Value.type "tuple"), none, (Data.seq [].toArray 0), [].toArray⟩) :: ((nat_lit 117), ⟨(Value.type "code"), none, (Data.fields [(Value.str (Str.ofString "get") 429), (Value.str (Str.ofString "Headers.get") 430), (Value.str (Str.ofString "/claim/cut.py") 431), (Value.int 48 0), (Value.int 3 0), (Value.int 0 0), (Value.int 0 0), (Value.int 3 0), (Value.ref 112), (Value.bool Bool.true), (Value.int 276 0), (Value.ref 113), Value.none, (Value.ref 114), (Value.ref 115), (Value.ref 116), (Value.int 437 0), (Value.int 48 0), (Value.str (Str.ofString "/claim/cut.py") 438)].toArray), [].toArray⟩) :: ((nat_lit 118), ⟨(Value.type "function"), none, (Data.func ⟨(Str.ofString "get"), (Str.ofString "Headers.get"), a9, FuncBody.stmts b9, s9, 3, [], (Value.ref 111), Value.none, Value.none, (Value.str (Str.ofString "cpy313.wsgiref.headers") 289), none, (Value.ref 117), Value.none, 0⟩), [].toArray⟩) :: ((nat_lit 119), ⟨(Value.type "tuple"), none, (Data.seq [].toArray 0), [].toArray⟩) :: ((nat_lit 122), ⟨(Value.type "code"), none, (Data.fields [(Value.str (Str.ofString "keys") 440), (Value.str (Str.ofString "Headers.keys") 441), (Value.str (Str.ofString "/claim/cut.py") 442), (Value.int 55 0), (Value.int 1 0), (Value.int 0 0), (Value.int 0 0), (Value.int 3 0), (Value.ref 119), (Value.bool Bool.true), (Value.int 276 0), (Value.ref 120), Value.none, Value.none, Value.none, (Value.ref 121), (Value.int 443 0), (Value.int 55 0), (Value.str (Str.ofString "/claim/cut.py") 444)].toArray), [].toArray⟩) :: ((nat_lit 123), ⟨(Value.type "function"), none, (Data.func ⟨(Str.ofString "keys"), (Str.ofString "Headers.keys"), a10, FuncBody.stmts b10, s10, 3, [], Value.none, Value.none, Value.none, (Value.str (Str.ofString "cpy313.wsgiref.headers") 289), none, (Value.ref 122), Value.none, 0⟩), [].toArray⟩) :: ((nat_lit 124), ⟨(Value.type "tuple"), none, (Data.seq [].toArray 0), [].toArray⟩) :: ((nat_lit 127), ⟨(Value.type "code"), none, (Data.fields [(Value.str (Str.ofString "values") 446), (Value.str (Str.ofString "Headers.values") 447), (Value.str (Str.ofString "/claim/cut.py") 448), (Value.int 58 0), (Value.int 1 0), (Value.int 0 0), (Value.int 0 0), (Value.int 3 0), (Value.ref 124), (Value.bool Bool.true), (Value.int 276 0), (Value.ref 125), Value.none, Value.none, Value.none, (Value.ref 126), (Value.int 449 0), (Value.int 58 0), (Value.str (Str.ofString "/claim/cut.py") 450)].toArray), [].toArray⟩) :: ((nat_lit 128), ⟨(Value.type "function"), none, (Data.func ⟨(Str.ofString "values"), (Str.ofString "Headers.values"), a11, FuncBody.stmts b11, s11, 3, [], Value.none, Value.none, Value.none, (Value.str (Str.ofString "cpy313.wsgiref.headers") 289), none, (Value.ref 127), Value.none, 0⟩), [].toArray⟩) :: ((nat_lit 129), ⟨(Value.type "tuple"), none, (Data.seq [].toArray 0), [].toArray⟩) :: ((nat_lit 131), ⟨(Value.type "tuple"), none, (Data.seq [(Value.str (Str.ofString "self") 455)].toArray 0), [].toArray⟩) :: ((nat_lit 132), ⟨(Value.type "tuple"), none, (Data.seq [].toArray 0), [].toArray⟩) :: ((nat_lit 134), ⟨(Value.type "code"), none, (Data.fields [(Value.str (Str.ofString "items") 452), (Value.str (Str.ofString "Headers.items") 453), (Value.str (Str.ofString "/claim/cut.py") 454), (Value.int 61 0), (Value.int 1 0), (Value.int 0 0), (Value.int 0 0), (Value.int 3 0), (Value.ref 129), (Value.bool Bool.true), (Value.int 276 0), (Value.ref 130), Value.none, (Value.ref 131), (Value.ref 132), (Value.ref 133), (Value.int 456 0), (Value.int 61 0), (Value.str (Str.ofString "/claim/cut.py") 457)].toArray), [].toArray⟩) :: ((nat_lit 135), ⟨(Value.type "function"), none, (Data.func ⟨(Str.ofString "items"), (Str.ofString "Headers.items"), a12, FuncBody.stmts b12, s12, 3, [], Value.none, Value.none, Value.none, (Value.str (Str.ofString "cpy313.wsgiref.headers") 289), none, (Value.ref 134), Value.none, 0⟩), [].toArray⟩) :: ((nat_lit 136), ⟨(Value.type "tuple"), none, (Data.seq [].toArray 0), [].toArray⟩) :: ((nat_lit 138), ⟨(Value.type "tuple"), none, (Data.seq [(Value.str (Str.ofString "self") 462)].toArray 0), [].toArray⟩) :: ((nat_lit 139), ⟨(Value.type "tuple"), none, (Data.seq [].toArray 0), [].toArray⟩) :: ((nat_lit 141), ⟨(Value.type "code"), none, (Data.fields [(Value.str (Str.ofString "__repr__") 459), (Value.str (Str.ofString "Headers.__repr__") 460), (Value.str (Str.ofString "/claim/cut.py") 461), (Value.int 64 0), (Value.int 1 0), (Value.int 0 0), (Value.int 0 0), (Value.int 3 0), (Value.ref 136), (Value.bool Bool.true), (Value.int 276 0), (Value.ref 137), Value.none, (Value.ref 138), (Value.ref 139), (Value.ref 140), (Value.int 463 0), (Value.int 64 0), (Value.str (Str.ofString "/claim/cut.py") 464)].toArray), [].toArray⟩) :: ((nat_lit 142), ⟨(Value.type "function"), none, (Data.func ⟨(Str.ofString "__repr__"), (Str.ofString "Headers.__repr__"), a13, FuncBody.stmts b13, s13, 3, [], Value.none, Value.none, Value.none, (Value.str (Str.ofString "cpy313.wsgiref.headers") 289), none, (Value.ref 141), Value.none, 0⟩), [].toArray⟩) :: ((nat_lit 143), ⟨(Value.type "tuple"), none, (Data.seq [].toArray 0), [].toArray⟩) :: ((nat_lit 146), ⟨(Value.type "code"), none, (Data.fields [(Value.str (Str.ofString "__str__") 466), (Value.str (Str.ofString "Headers.__str__") 467), (Value.str (Str.ofString "/claim/cut.py") 468), (Value.int 67 0), (Value.int 1 0), (Value.int 0 0), (Value.int 0 0), (Value.int 3 0), (Value.ref 143), (Value.bool Bool.true), (Value.int 276 0), (Value.ref 144), Value.none, Value.none, Value.none, (Value.ref 145), (Value.int 469 0), (Value.int 67 0), (Value.str (Str.ofString "/claim/cut.py") 470)].toArray), [].toArray⟩) :: ((nat_lit 147), ⟨(Value.type "function"), none, (Data.func ⟨(Str.ofString "__str__"), (Str.ofString "Headers.__str__"), a14, FuncBody.stmts b14, s14, 3, [], Value.none, Value.none, Value.none, (Value.str (Str.ofString "cpy313.wsgiref.headers") 289), none, (Value.ref 146), Value.none, 0⟩), [].toArray⟩) :: ((nat_lit 148), ⟨(Value.type "tuple"), none, (Data.seq [].toArray 0), [].toArray⟩) :: ((nat_lit 150), ⟨(Value.type "tuple"), none, (Data.seq [(Value.str (Str.ofString "self") 475)].toArray 0), [].toArray⟩) :: ((nat_lit 151), ⟨(Value.type "tuple"), none, (Data.seq [].toArray 0), [].toArray⟩) :: ((nat_lit 153), ⟨(Value.type "code"), none, (Data.fields [(Value.str (Str.ofString "__bytes__") 472), (Value.str (Str.ofString "Headers.__bytes__") 473), (Value.str (Str.ofString "/claim/cut.py") 474), (Value.int 70 0), (Value.int 1 0), (Value.int 0 0), (Value.int 0 0), (Value.int 3 0), (Value.ref 148), (Value.bool Bool.true), (Value.int 276 0), (Value.ref 149), Value.none, (Value.ref 150), (Value.ref 151), (Value.ref 152), (Value.int 476 0), (Value.int 70 0), (Value.str (Str.ofString "/claim/cut.py") 477)].toArray), [].toArray⟩) :: ((nat_lit 154), ⟨(Value.type "function"), none, (Data.func ⟨(Str.ofString "__bytes__"), (Str.ofString "Headers.__bytes__"), a15, FuncBody.stmts b15, s15, 3, [], Value.none, Value.none, Value.none, (Value.str (Str.ofString "cpy313.wsgiref.headers") 289), none, (Value.ref 153), Value.none, 0⟩), [].toArray⟩) :: ((nat_lit 155), ⟨(Value.type "tuple"), none, (Data.seq [].toArray 0), [].toArray⟩) :: ((nat_lit 157), ⟨(Value.type "tuple"), none, (Data.seq [(Value.str (Str.ofString "self") 482), (Value.str (Str.ofString "name") 483), (Value.str (Str.ofString "value") 484), (Value.str (Str.ofString "result") 485)].toArray 0), [].toArray⟩) :: ((nat_lit 158), ⟨(Value.type "tuple"), none, (Data.seq [].toArray 0), [].toArray⟩) :: ((nat_lit 160), ⟨(Value.type "code"), none, (Data.fields [(Value.str (Str.ofString "setdefault") 479), (Value.str (Str.ofString "Headers.setdefault") 480), (Value.str (Str.ofString "/claim/cut.py") 481), (Value.int 73 0), (Value.int 3 0), (Value.int 0 0), (Value.int 0 0), (Value.int 3 0), (Value.ref 155), (Value.bool Bool.true), (Value.int 276 0), (Value.ref 156), Value.none, (Value.ref 157), (Value.ref 158), (Value.ref 159), (Value.int 486 0), (Value.int 73 0), (Value.str (Str.ofString "/claim/cut.py") 487)].toArray), [].toArray⟩) :: ((nat_lit 161), ⟨(Value.type "function"), none, (Data.func ⟨(Str.ofString "setdefault"), (Str.ofString "Headers.setdefault"), a16, FuncBody.stmts b16, s16, 3, [], Value.none, Value.none, Value.none, (Value.str (Str.ofString "cpy313.wsgiref.headers") 289), none, (Value.ref 160), Value.none, 0⟩), [].toArray⟩) :: ((nat_lit 162), ⟨(Value.type "tuple"), none, (Data.seq [].toArray 0), [].toArray⟩) :: ((nat_lit 164), ⟨(Value.type "tuple"), none, (Data.seq [(Value.str (Str.ofString "self") 492), (Value.str (Str.ofString "_name") 493), (Value.str (Str.ofString "_value") 494), (Value.str (Str.ofString "_params") 495)].toArray 0), [].toArray⟩) :: ((nat_lit 165), ⟨(Value.type "tuple"), none, (Data.seq [].toArray 0), [].toArray⟩) :: ((nat_lit 167), ⟨(Value.type "code"), none, (Data.fields [(Value.str (Str.ofString "add_header") 489), (Value.str (Str.ofString "Headers.add_header") 490), (Value.str (Str.ofString "/claim/cut.py") 491), (Value.int 81 0), (Value.int 3 0), (Value.int 0 0), (Value.int 0 0), (Value.int 11 0), (Value.ref 162), (Value.bool Bool.true), (Value.int 276 0), (Value.ref 163), Value.none, (Value.ref 164), (Value.ref 165), (Value.ref 166), (Value.int 496 0), (Value.int 81 0), (Value.str (Str.ofString "/claim/cut.py") 497)].toArray), [].toArray⟩) :: ((nat_lit 168), ⟨(Value.type "function"), none, (Data.func ⟨(Str.ofString "add_header"), (Str.ofString "Headers.add_header"), a17, FuncBody.stmts b17, s17, 3, [], Value.none, Value.none, Value.none, (Value.str (Str.ofString "cpy313.wsgiref.headers") 289), none, (Value.ref 167), Value.none, 0⟩), [].toArray⟩) :: ((nat_lit 169), ⟨(Value.type "tuple"), none, (Data.seq [(Value.str (Str.ofString "_headers") 499)].toArray 0), [].toArray⟩) :: ((nat_lit 170), ⟨(Value.type "dict"), none, (Data.dict [⟨(PyData.keyHash P (Str.ofString "__module__")), (Value.str (Str.ofString "__module__") 358), (Value.str (Str.ofString "cpy313.wsgiref.headers") 289)⟩, ⟨(PyData.keyHash P (Str.ofString "__firstlineno__")), (Value.str (Str.ofString "__firstlineno__") 362), (Value.int 8 361)⟩, ⟨(PyData.keyHash P (Str.ofString "__init__")), (Value.str (Str.ofString "__init__") 372), (Value.ref 63)⟩, ⟨(PyData.keyHash P (Str.ofString "_convert_string_type")), (Value.str (Str.ofString "_convert_string_type") 382), (Value.ref 70)⟩, ⟨(PyData.keyHash P (Str.ofString "__len__")), (Value.str (Str.ofString "__len__") 389), (Value.ref 77)⟩, ⟨(PyData.keyHash P (Str.ofString "__setitem__")), (Value.str (Str.ofString "__setitem__") 398), (Value.ref 84)⟩, ⟨(PyData.keyHash P (Str.ofString "__delitem__")), (Value.str (Str.ofString "__delitem__") 404), (Value.ref 89)⟩, ⟨(PyData.keyHash P (Str.ofString "__getitem__")), (Value.str (Str.ofString "__getitem__") 412), (Value.ref 96)⟩, ⟨(PyData.keyHash P (Str.ofString "__contains__")), (Value.str (Str.ofString "__contains__") 420), (Value.ref 103)⟩, ⟨(PyData.keyHash P (Str.ofString "get_all")), (Value.str (Str.ofString "get_all") 428), (Value.ref 110)⟩, ⟨(PyData.keyHash P (Str.ofString "get")), (Value.str (Str.ofString "get") 439), (Value.ref 118)⟩, ⟨(PyData.keyHash P (Str.ofString "keys")), (Value.str (Str.ofString "keys") 445), (Value.ref 123)⟩, ⟨(PyData.keyHash P (Str.ofString "values")), (Value.str (Str.ofString "values") 451), (Value.ref 128)⟩, ⟨(PyData.keyHash P (Str.ofString "items")), (Value.str (Str.ofString "items") 458), (Value.ref 135)⟩, ⟨(PyData.keyHash P (Str.ofString "__repr__")), (Value.str (Str.ofString "__repr__") 465), (Value.ref 142)⟩, ⟨(PyData.keyHash P (Str.ofString "__str__")), (Value.str (Str.ofString "__str__") 471), (Value.ref 147)⟩, ⟨(PyData.keyHash P (Str.ofString "__bytes__")), (Value.str (Str.ofString "__bytes__") 478), (Value.ref 154)⟩, ⟨(PyData.keyHash P (Str.ofString "setdefault")), (Value.str (Str.ofString "setdefault") 488), (Value.ref 161)⟩, ⟨(PyData.keyHash P (Str.ofString "add_header")), (Value.str (Str.ofString "add_header") 498), (Value.ref 168)⟩, ⟨(PyData.keyHash P (Str.ofString "__static_attributes__")), (Value.str (Str.ofString "__static_attributes__") 500), (Value.ref 169)⟩, ⟨(PyData.keyHash P (Str.ofString "__dict__")), (Value.str (Str.ofString "__dict__") 502), (Value.ref 172)⟩, ⟨(PyData.keyHash P (Str.ofString "__weakref__")), (Value.str (Str.ofString "__weakref__") 504), (Value.ref 173)⟩, ⟨(PyData.keyHash P (Str.ofString "__doc__")), (Value.str (Str.ofString "__doc__") 505), Value.none⟩].toArray 4), [].toArray⟩) :: ((nat_lit 171), ⟨(Value.type "type"), none, (Data.cls ⟨(Str.ofString "Headers"), [(Value.type "object")], [(Value.ref 171), (Value.type "object")], 170, (Str.ofString "Headers"), Bool.true, [], [], Bool.false, none, Bool.false⟩), [none, none, (some (Value.str (Str.ofString "Headers") 351)), (some (Value.str (Str.ofString "Headers") 359)), (some (Value.builtin "object.__new__")), (some (Value.bool Bool.true))].toArray⟩) :: ((nat_lit 172), ⟨(Value.type "getset_descriptor"), none, (Data.fields [(Value.str (Str.ofString "__dict__") 501), (Value.ref 171), (Value.builtin "function.__dict__"), (Value.builtin "function.__dict__#set")].toArray), [].toArray⟩) :: ((nat_lit 173), ⟨(Value.type "getset_descriptor"), none, (Data.fields [(Value.str (Str.ofString "__weakref__") 503), (Value.ref 171), (Value.builtin "ExceptionGroup.__weakref__"), Value.none].toArray), [].toArray⟩) :: ((nat_lit 176), ⟨(Value.type "tuple"), none, (Data.seq [].toArray 0), [].toArray⟩) :: ((nat_lit 178), ⟨(Value.type "tuple"), none, (Data.seq [(Value.str (Str.ofString "a") 515), (Value.str (Str.ofString "b") 516), (Value.str (Str.ofString "n") 517), (Value.str (Str.ofString "pad") 518), (Value.str (Str.ofString "half_n") 519), (Value.str (Str.ofString "mask") 520), (Value.str (Str.ofString "b1") 521), (Value.str (Str.ofString "b2") 522), (Value.str (Str.ofString "q1") 523), (Value.str (Str.ofString "r") 524), (Value.str (Str.ofString "q2") 525)].toArray 0), [].toArray⟩) :: ((nat_lit 179), ⟨(Value.type "tuple"), none, (Data.seq [].toArray 0), [].toArray⟩) :: ((nat_lit 181), ⟨(Value.type "code"), none, (Data.fields [(Value.str (Str.ofString "_div2n1n") 512), (Value.str (Str.ofString "_div2n1n") 513), (Value.str (Str.ofString "/claim/cut.py") 514), (Value.int 85 0), (Value.int 3 0), (Value.int 0 0), (Value.int 0 0), (Value.int 3 0), (Value.ref 176), (Value.bool Bool.true), (Value.int 276 0), (Value.ref 177), Value.none, (Value.ref 178), (Value.ref 179), (Value.ref 180), (Value.int 526 0), (Value.int 85 0), (Value.str (Str.ofString "/claim/cut.py") 527)].toArray), [].toArray⟩) :: ((nat_lit 182), ⟨(Value.type "function"), none, (Data.func ⟨(Str.ofString "_div2n1n"), (Str.ofString "_div2n1n"), a18, FuncBody.stmts b18, s18, 3, [], Value.none, Value.none, Value.none, (Value.str (Str.ofString "cpy313._pylong") 508), none, (Value.ref 181), Value.none, 0⟩), [].toArray⟩) :: ((nat_lit 183), ⟨(Value.type "tuple"), none, (Data.seq [].toArray 0), [].toArray⟩) :: ((nat_lit 185), ⟨(Value.type "tuple"), none, (Data.seq [(Value.str (Str.ofString "a12") 532), (Value.str (Str.ofString "a3") 533), (Value.str (Str.ofString "b") 534), (Value.str (Str.ofString "b1") 535), (Value.str (Str.ofString "b2") 536), (Value.str (Str.ofString "n") 537), (Value.str (Str.ofString "q") 538), (Value.str (Str.ofString "r") 539)].toArray 0), [].toArray⟩) :: ((nat_lit 186), ⟨(Value.type "tuple"), none, (Data.seq [].toArray 0), [].toArray⟩) :: ((nat_lit 188), ⟨(Value.type "code"), none, (Data.fields [(Value.str (Str.ofString "_div3n2n") 529), (Value.str (Str.ofString "_div3n2n") 530), (Value.str (Str.ofString "/claim/cut.py") 531), (Value.int 101 0), (Value.int 6 0), (Value.int 0 0), (Value.int 0 0), (Value.int 3 0), (Value.ref 183), (Value.bool Bool.true), (Value.int 276 0), (Value.ref 184), Value.none, (Value.ref 185), (Value.ref 186), (Value.ref 187), (Value.int 540 0), (Value.int 101 0), (Value.str (Str.ofString "/claim/cut.py") 541)].toArray), [].toArray⟩) :: ((nat_lit 189), ⟨(Value.type "function"), none, (Data.func ⟨(Str.ofString "_div3n2n"), (Str.ofString "_div3n2n"), a19, FuncBody.stmts b19, s19, 3, [], Value.none, Value.none, Value.none, (Value.str (Str.ofString "cpy313._pylong") 508), none, (Value.ref 188), Value.none, 0⟩), [].toArray⟩) :: ((nat_lit 190), ⟨(Value.type "tuple"), none, (Data.seq [].toArray 0), [].toArray⟩) :: ((nat_lit 192), ⟨(Value.type "tuple"), none, (Data.seq [(Value.str (Str.ofString "a") 546), (Value.str (Str.ofString "n") 547)].toArray 0), [].toArray⟩) :: ((nat_lit 193), ⟨(Value.type "tuple"), none, (Data.seq [(Value.str (Str.ofString "n") 548), (Value.str (Str.ofString "a_digits") 549), (Value.str (Str.ofString "inner") 550)].toArray 0), [].toArray⟩) :: ((nat_lit 195), ⟨(Value.type "code"), none, (Data.fields [(Value.str (Str.ofString "_int2digits") 543), (Value.str (Str.ofString "_int2digits") 544), (Value.str (Str.ofString "/claim/cut.py") 545), (Value.int 111 0), (Value.int 2 0), (Value.int 0 0), (Value.int 0 0), (Value.int 3 0), (Value.ref 190), (Value.bool Bool.true), (Value.int 276 0), (Value.ref 191), Value.none, (Value.ref 192), (Value.ref 193), (Value.ref 194), (Value.int 551 0), (Value.int 111 0), (Value.str (Str.ofString "/claim/cut.py") 552)].toArray), [].toArray⟩) :: ((nat_lit 196), ⟨(Value.type "function"), none, (Data.func ⟨(Str.ofString "_int2digits"), (Str.ofString "_int2digits"), a20, FuncBody.stmts b20, s20, 3, [], Value.none, Value.none, Value.none, (Value.str (Str.ofString "cpy313._pylong") 508), none, (Value.ref 195), Value.none, 0⟩), [].toArray⟩) :: ((nat_lit 197), ⟨(Value.type "tuple"), none, (Data.seq [].toArray 0), [].toArray⟩) :: ((nat_lit 199), ⟨(Value.type "tuple"), none, (Data.seq [(Value.str (Str.ofString "digits") 557), (Value.str (Str.ofString "n") 558)].toArray 0), [].toArray⟩) :: ((nat_lit 200), ⟨(Value.type "tuple"), none, (Data.seq [(Value.str (Str.ofString "digits") 559), (Value.str (Str.ofString "n") 560), (Value.str (Str.ofString "inner") 561)].toArray 0), [].toArray⟩) :: ((nat_lit 202), ⟨(Value.type "code"), none, (Data.fields [(Value.str (Str.ofString "_digits2int") 554), (Value.str (Str.ofString "_digits2int") 555), (Value.str (Str.ofString "/claim/cut.py") 556), (Value.int 127 0), (Value.int 2 0), (Value.int 0 0), (Value.int 0 0), (Value.int 3 0), (Value.ref 197), (Value.bool Bool.true), (Value.int 276 0), (Value.ref 198), Value.none, (Value.ref 199), (Value.ref 200), (Value.ref 201), (Value.int 562 0), (Value.int 127 0), (Value.str (Str.ofString "/claim/cut.py") 563)].toArray), [].toArray⟩) :: ((nat_lit 203), ⟨(Value.type "function"), none, (Data.func ⟨(Str.ofString "_digits2int"), (Str.ofString "_digits2int"), a21, FuncBody.stmts b21, s21, 3, [], Value.none, Value.none, Value.none, (Value.str (Str.ofString "cpy313._pylong") 508), none, (Value.ref 202), Value.none, 0⟩), [].toArray⟩) :: ((nat_lit 204), ⟨(Value.type "tuple"), none, (Data.seq [].toArray 0), [].toArray⟩) :: ((nat_lit 206), ⟨(Value.type "tuple"), none, (Data.seq [(Value.str (Str.ofString "a") 568), (Value.str (Str.ofString "b") 569), (Value.str (Str.ofString "n") 570), (Value.str (Str.ofString "a_digits") 571), (Value.str (Str.ofString "r") 572), (Value.str (Str.ofString "q_digits") 573), (Value.str (Str.ofString "a_digit") 574), (Value.str (Str.ofString "q_digit") 575), (Value.str (Str.ofString "q") 576)].toArray 0), [].toArray⟩) :: ((nat_lit 207), ⟨(Value.type "tuple"), none, (Data.seq [].toArray 0), [].toArray⟩) :: ((nat_lit 209), ⟨(Value.type "code"), none, (Data.fields [(Value.str (Str.ofString "_divmod_pos") 565), (Value.str (Str.ofString "_divmod_pos") 566), (Value.str (Str.ofString "/claim/cut.py") 567), (Value.int 136 0), (Value.int 2 0), (Value.int 0 0), (Value.int 0 0), (Value.int 3 0), (Value.ref 204), (Value.bool Bool.true), (Value.int 276 0), (Value.ref 205), Value.none, (Value.ref 206), (Value.ref 207), (Value.ref 208), (Value.int 577 0), (Value.int 136 0), (Value.str (Str.ofString "/claim/cut.py") 578)].toArray), [].toArray⟩) :: ((nat_lit 210), ⟨(Value.type "function"), none, (Data.func ⟨(Str.ofString "_divmod_pos"), (Str.ofString "_divmod_pos"), a22, FuncBody.stmts b22, s22, 3, [], Value.none, Value.none, Value.none, (Value.str (Str.ofString "cpy313._pylong") 508), none, (Value.ref 209), Value.none, 0⟩), [].toArray⟩) :: ((nat_lit 211), ⟨(Value.type "tuple"), none, (Data.seq [].toArray 0), [].toArray⟩) :: ((nat_lit 213), ⟨(Value.type "tuple"), none, (Data.seq [(Value.str (Str.ofString "a") 583), (Value.str (Str.ofString "b") 584), (Value.str (Str.ofString "q") 585), (Value.str (Str.ofString "r") 586)].toArray 0), [].toArray⟩) :: ((nat_lit 214), ⟨(Value.type "tuple"), none, (Data.seq [].toArray 0), [].toArray⟩) :: ((nat_lit 216), ⟨(Value.type "code"), none, (Data.fields [(Value.str (Str.ofString "int_divmod") 580), (Value.str (Str.ofString "int_divmod") 581), (Value.str (Str.ofString "/claim/cut.py") 582), (Value.int 147 0), (Value.int 2 0), (Value.int 0 0), (Value.int 0 0), (Value.int 3 0), (Value.ref 211), (Value.bool Bool.true), (Value.int 276 0), (Value.ref 212), Value.none, (Value.ref 213), (Value.ref 214), (Value.ref 215), (Value.int 587 0), (Value.int 147 0), (Value.str (Str.ofString "/claim/cut.py") 588)].toArray), [].toArray⟩) :: ((nat_lit 217), ⟨(Value.type "function"), none, (Data.func ⟨(Str.ofString "int_divmod"), (Str.ofString "int_divmod"), a23, FuncBody.stmts b23, s23, 3, [], Value.none, Value.none, Value.none, (Value.str (Str.ofString "cpy313._pylong") 508), none, (Value.ref 216), Value.none, 0⟩), [].toArray⟩) :: ((nat_lit 218), ⟨(Value.type "tuple"), none, (Data.seq [(Value.type "list")].toArray 0), [].toArray⟩) :: ((nat_lit 221), ⟨(Value.type "cell"), none, (Data.cell (some (Value.ref 296))), [].toArray⟩) :: ((nat_lit 226), ⟨(Value.type "tuple"), none, (Data.seq [(Value.int 0 606)].toArray 0), [].toArray⟩) :: ((nat_lit 227), ⟨(Value.type "tuple"), none, (Data.seq [(Value.ref 221)].toArray 0), [].toArray⟩) :: ((nat_lit 228), ⟨(Value.type "tuple"), none, (Data.seq [(Value.str (Str.ofString "__class__") 610)].toArray 0), [].toArray⟩) :: ((nat_lit 230), ⟨(Value.type "tuple"), none, (Data.seq [(Value.str (Str.ofString "self") 611), (Value.str (Str.ofString "initial_size") 612)].toArray 0), [].toArray⟩) :: ((nat_lit 231), ⟨(Value.type "tuple"), none, (Data.seq [].toArray 0), [].toArray⟩) :: ((nat_lit 233), ⟨(Value.type "code"), none, (Data.fields [(Value.str (Str.ofString "__init__") 607), (Value.str (Str.ofString "_Accumulator.__init__") 608), (Value.str (Str.ofString "/claim/cut.py") 609), (Value.int 162 0), (Value.int 2 0), (Value.int 0 0), (Value.int 0 0), (Value.int 3 0), (Value.ref 228), (Value.bool Bool.true), (Value.int 276 0), (Value.ref 229), Value.none, (Value.ref 230), (Value.ref 231), (Value.ref 232), (Value.int 613 0), (Value.int 162 0), (Value.str (Str.ofString "/claim/cut.py") 614)].toArray), [].toArray⟩) :: ((nat_lit 234), ⟨(Value.type "function"), none, (Data.func ⟨(Str.ofString "__init__"), (Str.ofString "_Accumulator.__init__"), a24, FuncBody.stmts b24, s24, 3, [((Str.ofString "__class__"), 221)], (Value.ref 226), Value.none, Value.none, (Value.str (Str.ofString "cpy313.email.header") 590), none, (Value.ref 233), (Value.ref 227), 0⟩), [].toArray⟩) :: ((nat_lit 235), ⟨(Value.type "tuple"), none, (Data.seq [].toArray 0), [].toArray⟩) :: ((nat_lit 237), ⟨(Value.type "tuple"), none, (Data.seq [(Value.str (Str.ofString "self") 619), (Value.str (Str.ofString "fws") 620), (Value.str (Str.ofString "string") 621)].toArray 0), [].toArray⟩) :: ((nat_lit 238), ⟨(Value.type "tuple"), none, (Data.seq [].toArray 0), [].toArray⟩) :: ((nat_lit 240), ⟨(Value.type "code"), none, (Data.fields [(Value.str (Str.ofString "push") 616), (Value.str (Str.ofString "_Accumulator.push") 617), (Value.str (Str.ofString "/claim/cut.py") 618), (Value.int 166 0), (Value.int 3 0), (Value.int 0 0), (Value.int 0 0), (Value.int 3 0), (Value.ref 235), (Value.bool Bool.true), (Value.int 276 0), (Value.ref 236), Value.none, (Value.ref 237), (Value.ref 238), (Value.ref 239), (Value.int 622 0), (Value.int 166 0), (Value.str (Str.ofString "/claim/cut.py") 623)].toArray), [].toArray⟩) :: ((nat_lit 241), ⟨(Value.type "function"), none, (Data.func ⟨(Str.ofString "push"), (Str.ofString "_Accumulator.push"), a25, FuncBody.stmts b25, s25, 3, [], Value.none, Value.none, Value.none, (Value.str (Str.ofString "cpy313.email.header") 590), none, (Value.ref 240), Value.none, 0⟩), [].toArray⟩) :: ((nat_lit 242), ⟨(Value.type "tuple"), none, (Data.seq [(Value.int 0 625)].toArray 0), [].toArray⟩) :: ((nat_lit 243), ⟨(Value.type "tuple"), none, (Data.seq [].toArray 0), [].toArray⟩) :: ((nat_lit 245), ⟨(Value.type "tuple"), none, (Data.seq [(Value.str (Str.ofString "self") 629), (Value.str (Str.ofString "i") 630), (Value.str (Str.ofString "popped") 631)].toArray 0), [].toArray⟩) :: ((nat_lit 246), ⟨(Value.type "tuple"), none, (Data.seq [].toArray 0), [].toArray⟩) :: ((nat_lit 248), ⟨(Value.type "code"), none, (Data.fields [(Value.str (Str.ofString "pop_from") 626), (Value.str (Str.ofString "_Accumulator.pop_from") 627), (Value.str (Str.ofString "/claim/cut.py") 628), (Value.int 169 0), (Value.int 2 0), (Value.int 0 0), (Value.int 0 0), (Value.int 3 0), (Value.ref 243), (Value.bool Bool.true), (Value.int 276 0), (Value.ref 244), Value.none, (Value.ref 245), (Value.ref 246), (Value.ref 247), (Value.int 632 0), (Value.int 169 0), (Value.str (Str.ofString "/claim/cut.py") 633)].toArray), [].toArray⟩) :: ((nat_lit 249), ⟨(Value.type "function"), none, (Data.func ⟨(Str.ofString "pop_from"), (Str.ofString "_Accumulator.pop_from"), a26, FuncBody.stmts b26, s26, 3, [], (Value.ref 242), Value.none, Value.none, (Value.str (Str.ofString "cpy313.email.header") 590), none, (Value.ref 248), Value.none, 0⟩), [].toArray⟩) :: ((nat_lit 250), ⟨(Value.type "tuple"), none, (Data.seq [].toArray 0), [].toArray⟩) :: ((nat_lit 252), ⟨(Value.type "tuple"), none, (Data.seq [(Value.str (Str.ofString "self") 638)].toArray 0), [].toArray⟩) :: ((nat_lit 253), ⟨(Value.type "tuple"), none, (Data.seq [].toArray 0), [].toArray⟩) :: ((nat_lit 255), ⟨(Value.type "code"), none, (Data.fields [(Value.str (Str.ofString "pop") 635), (Value.str (Str.ofString "_Accumulator.pop") 636), (Value.str (Str.ofString "/claim/cut.py") 637), (Value.int 174 0), (Value.int 1 0), (Value.int 0 0), (Value.int 0 0), (Value.int 3 0), (Value.ref 250), (Value.bool Bool.true), (Value.int 276 0), (Value.ref 251), Value.none, (Value.ref 252), (Value.ref 253), (Value.ref 254), (Value.int 639 0), (Value.int 174 0), (Value.str (Str.ofString "/claim/cut.py") 640)].toArray), [].toArray⟩) :: ((nat_lit 256), ⟨(Value.type "function"), none, (Data.func ⟨(Str.ofString "pop"), (Str.ofString "_Accumulator.pop"), a27, FuncBody.stmts b27, s27, 3, [], Value.none, Value.none, Value.none, (Value.str (Str.ofString "cpy313.email.header") 590), none, (Value.ref 255), Value.none, 0⟩), [].toArray⟩) :: ((nat_lit 257), ⟨(Value.type "tuple"), none, (Data.seq [].toArray 0), [].toArray⟩) :: ((nat_lit 259), ⟨(Value.type "tuple"), none, (Data.seq [(Value.str (Str.ofString "self") 645)].toArray 0), [].toArray⟩) :: ((nat_lit 260), ⟨(Value.type "tuple"), none, (Data.seq [].toArray 0), [].toArray⟩) :: ((nat_lit 262), ⟨(Value.type "code"), none, (Data.fields [(Value.str (Str.ofString "__len__") 642), (Value.str (Str.ofString "_Accumulator.__len__") 643), (Value.str (Str.ofString "/claim/cut.py") 644), (Value.int 177 0), (Value.int 1 0), (Value.int 0 0), (Value.int 0 0), (Value.int 3 0), (Value.ref 257), (Value.bool Bool.true), (Value.int 276 0), (Value.ref 258), Value.none, (Value.ref 259), (Value.ref 260), (Value.ref 261), (Value.int 646 0), (Value.int 177 0), (Value.str (Str.ofString "/claim/cut.py") 647)].toArray), [].toArray⟩) :: ((nat_lit 263), ⟨(Value.type "function"), none, (Data.func ⟨(Str.ofString "__len__"), (Str.ofString "_Accumulator.__len__"), a28, FuncBody.stmts b28, s28, 3, [], Value.none, Value.none, Value.none, (Value.str (Str.ofString "cpy313.email.header") 590), none, (Value.ref 262), Value.none, 0⟩), [].toArray⟩) :: ((nat_lit 264), ⟨(Value.type "tuple"), none, (Data.seq [].toArray 0), [].toArray⟩) :: ((nat_lit 266), ⟨(Value.type "tuple"), none, (Data.seq [(Value.str (Str.ofString "self") 652)].toArray 0), [].toArray⟩) :: ((nat_lit 267), ⟨(Value.type "tuple"), none, (Data.seq [].toArray 0), [].toArray⟩) :: ((nat_lit 269), ⟨(Value.type "code"), none, (Data.fields [(Value.str (Str.ofString "__str__") 649), (Value.str (Str.ofString "_Accumulator.__str__") 650), (Value.str (Str.ofString "/claim/cut.py") 651), (Value.int 180 0), (Value.int 1 0), (Value.int 0 0), (Value.int 0 0), (Value.int 3 0), (Value.ref 264), (Value.bool Bool.true), (Value.int 276 0), (Value.ref 265), Value.none, (Value.ref 266), (Value.ref 267), (Value.ref 268), (Value.int 653 0), (Value.int 180 0), (Value.str (Str.ofString "/claim/cut.py") 654)].toArray), [].toArray⟩) :: ((nat_lit 270), ⟨(Value.type "function"), none, (Data.func ⟨(Str.ofString "__str__"), (Str.ofString "_Accumulator.__str__"), a29, FuncBody.stmts b29, s29, 3, [], Value.none, Value.none, Value.none, (Value.str (Str.ofString "cpy313.email.header") 590), none, (Value.ref 269), Value.none, 0⟩), [].toArray⟩) :: ((nat_lit 271), ⟨(Value.type "tuple"), none, (Data.seq [Value.none].toArray 0), [].toArray⟩) :: ((nat_lit 272), ⟨(Value.type "tuple"), none, (Data.seq [].toArray 0), [].toArray⟩) :: ((nat_lit 274), ⟨(Value.type "tuple"), none, (Data.seq [(Value.str (Str.ofString "self") 659), (Value.str (Str.ofString "startval") 660)].toArray 0), [].toArray⟩) :: ((nat_lit 275), ⟨(Value.type "tuple"), none, (Data.seq [].toArray 0), [].toArray⟩) :: ((nat_lit 277), ⟨(Value.type "code"), none, (Data.fields [(Value.str (Str.ofString "reset") 656), (Value.str (Str.ofString "_Accumulator.reset") 657), (Value.str (Str.ofString "/claim/cut.py") 658), (Value.int 183 0), (Value.int 2 0), (Value.int 0 0), (Value.int 0 0), (Value.int 3 0), (Value.ref 272), (Value.bool Bool.true), (Value.int 276 0), (Value.ref 273), Value.none, (Value.ref 274), (Value.ref 275), (Value.ref 276), (Value.int 661 0), (Value.int 183 0), (Value.str (Str.ofString "/claim/cut.py") 662)].toArray), [].toArray⟩) :: ((nat_lit 278), ⟨(Value.type "function"), none, (Data.func ⟨(Str.ofString "reset"), (Str.ofString "_Accumulator.reset"), a30, FuncBody.stmts b30, s30, 3, [], (Value.ref 271), Value.none, Value.none, (Value.str (Str.ofString "cpy313.email.header") 590), none, (Value.ref 277), Value.none, 0⟩), [].toArray⟩) :: ((nat_lit 279), ⟨(Value.type "tuple"), none, (Data.seq [].toArray 0), [].toArray⟩) :: ((nat_lit 281), ⟨(Value.type "tuple"), none, (Data.seq [(Value.str (Str.ofString "self") 667)].toArray 0), [].toArray⟩) :: ((nat_lit 282), ⟨(Value.type "tuple"), none, (Data.seq [].toArray 0), [].toArray⟩) :: ((nat_lit 284), ⟨(Value.type "code"), none, (Data.fields [(Value.str (Str.ofString "is_onlyws") 664), (Value.str (Str.ofString "_Accumulator.is_onlyws") 665), (Value.str (Str.ofString "/claim/cut.py") 666), (Value.int 186 0), (Value.int 1 0), (Value.int 0 0), (Value.int 0 0), (Value.int 3 0), (Value.ref 279), (Value.bool Bool.true), (Value.int 276 0), (Value.ref 280), Value.none, (Value.ref 281), (Value.ref 282), (Value.ref 283), (Value.int 668 0), (Value.int 186 0), (Value.str (Str.ofString "/claim/cut.py") 669)].toArray), [].toArray⟩) :: ((nat_lit 285), ⟨(Value.type "function"), none, (Data.func ⟨(Str.ofString "is_onlyws"), (Str.ofString "_Accumulator.is_onlyws"), a31, FuncBody.stmts b31, s31, 3, [], Value.none, Value.none, Value.none, (Value.str (Str.ofString "cpy313.email.header") 590), none, (Value.ref 284), Value.none, 0⟩), [].toArray⟩) :: ((nat_lit 286), ⟨(Value.type "tuple"), none, (Data.seq [(Value.ref 221)].toArray 0), [].toArray⟩) :: ((nat_lit 287), ⟨(Value.type "tuple"), none, (Data.seq [(Value.str (Str.ofString "__class__") 674)].toArray 0), [].toArray⟩) :: ((nat_lit 289), ⟨(Value.type "tuple"), none, (Data.seq [(Value.str (Str.ofString "self") 675)].toArray 0), [].toArray⟩) :: ((nat_lit 290), ⟨(Value.type "tuple"), none, (Data.seq [].toArray 0), [].toArray⟩) :: ((nat_lit 292), ⟨(Value.type "code"), none, (Data.fields [(Value.str (Str.ofString "part_count") 671), (Value.str (Str.ofString "_Accumulator.part_count") 672), (Value.str (Str.ofString "/claim/cut.py") 673), (Value.int 189 0), (Value.int 1 0), (Value.int 0 0), (Value.int 0 0), (Value.int 3 0), (Value.ref 287), (Value.bool Bool.true), (Value.int 276 0), (Value.ref 288), Value.none, (Value.ref 289), (Value.ref 290), (Value.ref 291), (Value.int 676 0), (Value.int 189 0), (Value.str (Str.ofString "/claim/cut.py") 677)].toArray), [].toArray⟩) :: ((nat_lit 293), ⟨(Value.type "function"), none, (Data.func ⟨(Str.ofString "part_count"), (Str.ofString "_Accumulator.part_count"), a32, FuncBody.stmts b32, s32, 3, [((Str.ofString "__class__"), 221)], Value.none, Value.none, Value.none, (Value.str (Str.ofString "cpy313.email.header") 590), none, (Value.ref 292), (Value.ref 286), 0⟩), [].toArray⟩) :: ((nat_lit 294), ⟨(Value.type "tuple"), none, (Data.seq [(Value.str (Str.ofString "_initial_size") 679)].toArray 0), [].toArray⟩) :: ((nat_lit 295), ⟨(Value.type "dict"), none, (Data.dict [⟨(PyData.keyHash P (Str.ofString "__module__")), (Value.str (Str.ofString "__module__") 601), (Value.str (Str.ofString "cpy313.email.header") 590)⟩, ⟨(PyData.keyHash P (Str.ofString "__firstlineno__")), (Value.str (Str.ofString "__firstlineno__") 605), (Value.int 160 604)⟩, ⟨(PyData.keyHash P (Str.ofString "__init__")), (Value.str (Str.ofString "__init__") 615), (Value.ref 234)⟩, ⟨(PyData.keyHash P (Str.ofString "push")), (Value.str (Str.ofString "push") 624), (Value.ref 241)⟩, ⟨(PyData.keyHash P (Str.ofString "pop_from")), (Value.str (Str.ofString "pop_from") 634), (Value.ref 249)⟩, ⟨(PyData.keyHash P (Str.ofString "pop")), (Value.str (Str.ofString "pop") 641), (Value.ref 256)⟩, ⟨(PyData.keyHash P (Str.ofString "__len__")), (Value.str (Str.ofString "__len__") 648), (Value.ref 263)⟩, ⟨(PyData.keyHash P (Str.ofString "__str__")), (Value.str (Str.ofString "__str__") 655), (Value.ref 270)⟩, ⟨(PyData.keyHash P (Str.ofString "reset")), (Value.str (Str.ofString "reset") 663), (Value.ref 278)⟩, ⟨(PyData.keyHash P (Str.ofString "is_onlyws")), (Value.str (Str.ofString "is_onlyws") 670), (Value.ref 285)⟩, ⟨(PyData.keyHash P (Str.ofString "part_count")), (Value.str (Str.ofString "part_count") 678), (Value.ref 293)⟩, ⟨(PyData.keyHash P (Str.ofString "__static_attributes__")), (Value.str (Str.ofString "__static_attributes__") 680), (Value.ref 294)⟩, ⟨(PyData.keyHash P (Str.ofString "__dict__")), (Value.str (Str.ofString "__dict__") 683), (Value.ref 297)⟩, ⟨(PyData.keyHash P (Str.ofString "__weakref__")), (Value.str (Str.ofString "__weakref__") 685), (Value.ref 298)⟩, ⟨(PyData.keyHash P (Str.ofString "__doc__")), (Value.str (Str.ofString "__doc__") 686), Value.none⟩].toArray 5), [].toArray⟩) :: ((nat_lit 296), ⟨(Value.type "type"), none, (Data.cls ⟨(Str.ofString "_Accumulator"), [(Value.type "list")], [(Value.ref 296), (Value.type "list"), (Value.type "object")], 295, (Str.ofString "_Accumulator"), Bool.true, [], [], Bool.false, none, Bool.false⟩), [(some (Value.ref 218)), none, (some (Value.str (Str.ofString "_Accumulator") 594)), (some (Value.str (Str.ofString "_Accumulator") 602)), (some (Value.builtin "list.__new__")), (some (Value.bool Bool.true))].toArray⟩) :: ((nat_lit 297), ⟨(Value.type "getset_descriptor"), none, (Data.fields [(Value.str (Str.ofString "__dict__") 682), (Value.ref 296), (Value.builtin "function.__dict__"), (Value.builtin "function.__dict__#set")].toArray), [].toArray⟩) :: ((nat_lit 298), ⟨(Value.type "getset_descriptor"), none, (Data.fields [(Value.str (Str.ofString "__weakref__") 684), (Value.ref 296), (Value.builtin "ExceptionGroup.__weakref__"), Value.none].toArray), [].toArray⟩) :: ((nat_lit 301), ⟨(Value.type "tuple"), none, (Data.seq [].toArray 0), [].toArray⟩) :: ((nat_lit 304), ⟨(Value.type "code"), none, (Data.fields [(Value.str (Str.ofString "_law_digits") 691), (Value.str (Str.ofString "_law_digits") 692), (Value.str (Str.ofString "/claim/cut.py") 693), (Value.int 192 0), (Value.int 1 0), (Value.int 0 0), (Value.int 0 0), (Value.int 3 0), (Value.ref 301), (Value.bool Bool.true), (Value.int 276 0), (Value.ref 302), Value.none, Value.none, Value.none, (Value.ref 303), (Value.int 694 0), (Value.int 192 0), (Value.str (Str.ofString "/claim/cut.py") 695)].toArray), [].toArray⟩) :: ((nat_lit 305), ⟨(Value.type "function"), none, (Data.func ⟨(Str.ofString "_law_digits"), (Str.ofString "_law_digits"), a33, FuncBody.stmts b33, s33, 3, [], Value.none, Value.none, Value.none, (Value.str (Str.ofString "law_un0042_01") 689), none, (Value.ref 304), Value.none, 0⟩), [].toArray⟩) :: ((nat_lit 306), ⟨(Value.type "tuple"), none, (Data.seq [].toArray 0), [].toArray⟩) :: ((nat_lit 309), ⟨(Value.type "code"), none, (Data.fields [(Value.str (Str.ofString "_law_name") 697), (Value.str (Str.ofString "_law_name") 698), (Value.str (Str.ofString "/claim/cut.py") 699), (Value.int 196 0), (Value.int 2 0), (Value.int 0 0), (Value.int 0 0), (Value.int 3 0), (Value.ref 306), (Value.bool Bool.true), (Value.int 276 0), (Value.ref 307), Value.none, Value.none, Value.none, (Value.ref 308), (Value.int 700 0), (Value.int 196 0), (Value.str (Str.ofString "/claim/cut.py") 701)].toArray), [].toArray⟩) :: ((nat_lit 310), ⟨(Value.type "function"), none, (Data.func ⟨(Str.ofString "_law_name"), (Str.ofString "_law_name"), a34, FuncBody.stmts b34, s34, 3, [], Value.none, Value.none, Value.none, (Value.str (Str.ofString "law_un0042_01") 689), none, (Value.ref 309), Value.none, 0⟩), [].toArray⟩) :: ((nat_lit 311), ⟨(Value.type "tuple"), none, (Data.seq [].toArray 0), [].toArray⟩) :: ((nat_lit 313), ⟨(Value.type "tuple"), none, (Data.seq [(Value.str (Str.ofString "digits") 706), (Value.str (Str.ofString "base") 707), (Value.str (Str.ofString "words") 708), (Value.str (Str.ofString "k") 709), (Value.str (Str.ofString "row") 710)].toArray 0), [].toArray⟩) :: ((nat_lit 314), ⟨(Value.type "tuple"), none, (Data.seq [].toArray 0), [].toArray⟩) :: ((nat_lit 316), ⟨(Value.type "code"), none, (Data.fields [(Value.str (Str.ofString "_law_exchanges") 703), (Value.str (Str.ofString "_law_exchanges") 704), (Value.str (Str.ofString "/claim/cut.py") 705), (Value.int 198 0), (Value.int 2 0), (Value.int 0 0), (Value.int 0 0), (Value.int 3 0), (Value.ref 311), (Value.bool Bool.true), (Value.int 276 0), (Value.ref 312), Value.none, (Value.ref 313), (Value.ref 314), (Value.ref 315), (Value.int 711 0), (Value.int 198 0), (Value.str (Str.ofString "/claim/cut.py") 712)].toArray), [].toArray⟩) :: ((nat_lit 317), ⟨(Value.type "function"), none, (Data.func ⟨(Str.ofString "_law_exchanges"), (Str.ofString "_law_exchanges"), a35, FuncBody.stmts b35, s35, 3, [], Value.none, Value.none, Value.none, (Value.str (Str.ofString "law_un0042_01") 689), none, (Value.ref 316), Value.none, 0⟩), [].toArray⟩) :: ((nat_lit 318), ⟨(Value.type "tuple"), none, (Data.seq [].toArray 0), [].toArray⟩) :: ((nat_lit 321), ⟨(Value.type "code"), none, (Data.fields [(Value.str (Str.ofString "_law_rounds") 714), (Value.str (Str.ofString "_law_rounds") 715), (Value.str (Str.ofString "/claim/cut.py") 716), (Value.int 208 0), (Value.int 2 0), (Value.int 0 0), (Value.int 0 0), (Value.int 3 0), (Value.ref 318), (Value.bool Bool.true), (Value.int 276 0), (Value.ref 319), Value.none, Value.none, Value.none, (Value.ref 320), (Value.int 717 0), (Value.int 208 0), (Value.str (Str.ofString "/claim/cut.py") 718)].toArray), [].toArray⟩) :: ((nat_lit 322), ⟨(Value.type "function"), none, (Data.func ⟨(Str.ofString "_law_rounds"), (Str.ofString "_law_rounds"), a36, FuncBody.stmts b36, s36, 3, [], Value.none, Value.none, Value.none, (Value.str (Str.ofString "law_un0042_01") 689), none, (Value.ref 321), Value.none, 0⟩), [].toArray⟩) :: ((nat_lit 323), ⟨(Value.type "tuple"), none, (Data.seq [].toArray 0), [].toArray⟩) :: ((nat_lit 325), ⟨(Value.type "tuple"), none, (Data.seq [(Value.str (Str.ofString "worth") 723), (Value.str (Str.ofString "places") 724), (Value.str (Str.ofString "base") 725), (Value.str (Str.ofString "words") 726), (Value.str (Str.ofString "digit") 727), (Value.str (Str.ofString "rest") 728)].toArray 0), [].toArray⟩) :: ((nat_lit 326), ⟨(Value.type "tuple"), none, (Data.seq [].toArray 0), [].toArray⟩) :: ((nat_lit 328), ⟨(Value.type "code"), none, (Data.fields [(Value.str (Str.ofString "_law_words") 720), (Value.str (Str.ofString "_law_words") 721), (Value.str (Str.ofString "/claim/cut.py") 722), (Value.int 223 0), (Value.int 3 0), (Value.int 0 0), (Value.int 0 0), (Value.int 3 0), (Value.ref 323), (Value.bool Bool.true), (Value.int 276 0), (Value.ref 324), Value.none, (Value.ref 325), (Value.ref 326), (Value.ref 327), (Value.int 729 0), (Value.int 223 0), (Value.str (Str.ofString "/claim/cut.py") 730)].toArray), [].toArray⟩) :: ((nat_lit 329), ⟨(Value.type "function"), none, (Data.func ⟨(Str.ofString "_law_words"), (Str.ofString "_law_words"), a37, FuncBody.stmts b37, s37, 3, [], Value.none, Value.none, Value.none, (Value.str (Str.ofString "law_un0042_01") 689), none, (Value.ref 328), Value.none, 0⟩), [].toArray⟩) :: ((nat_lit 330), ⟨(Value.type "tuple"), none, (Data.seq [].toArray 0), [].toArray⟩) :: ((nat_lit 332), ⟨(Value.type "tuple"), none, (Data.seq [(Value.str (Str.ofString "one") 735), (Value.str (Str.ofString "other") 736), (Value.str (Str.ofString "gap") 737), (Value.str (Str.ofString "apart") 738), (Value.str (Str.ofString "k") 739)].toArray 0), [].toArray⟩) :: ((nat_lit 333), ⟨(Value.type "tuple"), none, (Data.seq [].toArray 0), [].toArray⟩) :: ((nat_lit 335), ⟨(Value.type "code"), none, (Data.fields [(Value.str (Str.ofString "_law_apart") 732), (Value.str (Str.ofString "_law_apart") 733), (Value.str (Str.ofString "/claim/cut.py") 734), (Value.int 234 0), (Value.int 2 0), (Value.int 0 0), (Value.int 0 0), (Value.int 3 0), (Value.ref 330), (Value.bool Bool.true), (Value.int 276 0), (Value.ref 331), Value.none, (Value.ref 332), (Value.ref 333), (Value.ref 334), (Value.int 740 0), (Value.int 234 0), (Value.str (Str.ofString "/claim/cut.py") 741)].toArray), [].toArray⟩) :: ((nat_lit 336), ⟨(Value.type "function"), none, (Data.func ⟨(Str.ofString "_law_apart"), (Str.ofString "_law_apart"), a38, FuncBody.stmts b38, s38, 3, [], Value.none, Value.none, Value.none, (Value.str (Str.ofString "law_un0042_01") 689), none, (Value.ref 335), Value.none, 0⟩), [].toArray⟩) :: ((nat_lit 337), ⟨(Value.type "tuple"), none, (Data.seq [].toArray 0), [].toArray⟩) :: ((nat_lit 340), ⟨(Value.type "code"), none, (Data.fields [(Value.str (Str.ofString "_law_all") 743), (Value.str (Str.ofString "_law_all") 744), (Value.str (Str.ofString "/claim/cut.py") 745), (Value.int 242 0), (Value.int 4 0), (Value.int 0 0), (Value.int 0 0), (Value.int 3 0), (Value.ref 337), (Value.bool Bool.true), (Value.int 276 0), (Value.ref 338), Value.none, Value.none, Value.none, (Value.ref 339), (Value.int 746 0), (Value.int 242 0), (Value.str (Str.ofString "/claim/cut.py") 747)].toArray), [].toArray⟩) :: ((nat_lit 341), ⟨(Value.type "function"), none, (Data.func ⟨(Str.ofString "_law_all"), (Str.ofString "_law_all"), a39, FuncBody.stmts b39, s39, 3, [], Value.none, Value.none, Value.none, (Value.str (Str.ofString "law_un0042_01") 689), none, (Value.ref 340), Value.none, 0⟩), [].toArray⟩) :: ((nat_lit 342), ⟨(Value.type "tuple"), none, (Data.seq [].toArray 0), [].toArray⟩) :: ((nat_lit 345), ⟨(Value.type "code"), none, (Data.fields [(Value.str (Str.ofString "law") 749), (Value.str (Str.ofString "law") 750), (Value.str (Str.ofString "/claim/cut.py") 751), (Value.int 252 0), (Value.int 1 0), (Value.int 0 0), (Value.int 0 0), (Value.int 3 0), (Value.ref 342), (Value.bool Bool.true), (Value.int 276 0), (Value.ref 343), Value.none, Value.none, Value.none, (Value.ref 344), (Value.int 752 0), (Value.int 252 0), (Value.str (Str.ofString "/claim/cut.py") 753)].toArray), [].toArray⟩) :: ((nat_lit 346), ⟨(Value.type "function"), none, (Data.func ⟨(Str.ofString "law"), (Str.ofString "law"), a40, FuncBody.stmts b40, s40, 3, [], Value.none, Value.none, Value.none, (Value.str (Str.ofString "law_un0042_01") 689), none, (Value.ref 345), Value.none, 0⟩), [].toArray⟩) :: [] : List (Nat × Obj))
noncomputable def vw : Program := view PySem.Challenge.pw_un0042_01 [0, 1, 3, 4, 5, 7, 8, 9, 10, 11, 12, 13, 15, 16, 18, 19, 20, 21, 22, 23, 24, 25]
/-! the text's top over a tree of objects: the looks one by one, no state written out -/
theorem thr (t : Thread) : through t = (endAt 0 t).isSome := by
  obtain ⟨cur, code, pos, st⟩ := t
  cases st with
  | cons x r => rfl
  | nil =>
    cases cur with
    | pure g => cases g <;> rfl
    | _ => rfl
section
variable {p : Program} {w : World} {n₀ : Nat} {ann : Option Value}
theorem seg_run0 {n : Nat} {r : Flow × Shared × Code × Pos} : ∀ {s : Shared} {t : Thread}, segRun treeTable p w n₀ ann 0 n s t = some r → topRun treeTable p w n₀ ann n s t = some r.2.1 := by
  induction n with
  | zero => intro s t h; cases h
  | succ n ih =>
    intro s t h
    unfold segRun at h
    unfold topRun
    rw [thr]
    cases he : endAt 0 t with
    | some x => rw [he] at h; cases h; rfl
    | none =>
      rw [he] at h
      dsimp only [Option.isSome] at h ⊢
      cases hk : stepOk n₀ ann t with
      | false => rw [hk] at h; cases h
      | true =>
        rw [hk] at h
        cases hs : step (denote treeTable) p w s t with
        | halt o s₂ => rw [hs] at h; cases h
        | go s₂ t₂ => rw [hs] at h; exact ih h
end
noncomputable def growT : List Obj → Nat → BT → Option BT
  | [], _, t => some t
  | o :: r, n, t => bif ((t.ins n o).get n).isSome then growT r (n + 1) (t.ins n o) else none
theorem growT_spec {life : Life} {t' : BT} {l : List Obj} : ∀ {n : Nat} {t : BT}, growT l n t = some t' → absHeap t' (n + l.length) life = ⟨(absHeap t n life).objs ++ l.toArray, life⟩ := by
  induction l with
  | nil => intro n t h; cases h; exact congrArg (Heap.mk · life) Array.append_empty.symm
  | cons o r ih =>
    intro n t h
    cases g : ((t.ins n o).get n).isSome with
    | false => exact nomatch (congrArg (cond · (growT r (n + 1) (t.ins n o)) none) g).symm.trans h
    | true =>
      have e := ih ((congrArg (cond · (growT r (n + 1) (t.ins n o)) none) g).symm.trans h)
      rw [absHeap_ins g, Nat.add_right_comm] at e
      exact e.trans (congrArg (Heap.mk · life) (Array.toList_inj.mp (by simp [Heap.push])))
noncomputable def toT (s : Shared) : Option SharedT := (growT s.heap.objs.toList 0 .nil).map fun t => ⟨t, s.heap.objs.size, s.heap.life, s.gens, s.drawn, s.toks, s.os⟩
theorem toT_abs {s : Shared} {sT : SharedT} (h : toT s = some sT) : sT.abs = s := by
  obtain ⟨t, g, rfl⟩ := Option.map_eq_some_iff.mp h
  have e := growT_spec (life := s.heap.life) g
  rw [Nat.zero_add] at e
  exact congrArg (Shared.mk · s.gens s.drawn s.toks s.os) (e.trans (congrArg (Heap.mk · s.heap.life) (Array.toList_inj.mp (by simp [absHeap, BT.list]))))
noncomputable def topT (p : Program) (w : World) (N : Nat) (s : Shared) : Option SharedT :=
  (toT s).bind fun sT => (segRunT treeTable p w s.heap.objs.size (s.heap.nsMap mainGlobals "__annotations__") 0 N sT (topStub p)).map fun r => r.2.1
theorem topT_spec {p : Program} {w : World} {N : Nat} {s : Shared} {sT : SharedT} (h : topT p w N s = some sT) :
    topRun treeTable p w s.heap.objs.size (s.heap.nsMap mainGlobals "__annotations__") N s (topStub p) = some sT.abs := by
  obtain ⟨s₀, g, h⟩ := Option.bind_eq_some_iff.mp h
  obtain ⟨⟨f, s', c, q⟩, r, rfl⟩ := Option.map_eq_some_iff.mp h
  have e := segRun_of r
  rw [toT_abs g] at e
  exact seg_run0 e
noncomputable abbrev Both (p : Program) (N : Nat) {β : Type} (f : Shared → Shared → β) (w : World) : Option β := (fencedOpening treeTable p w N).bind fun s₀ => (topT p w N s₀).map fun sT => f s₀ sT.abs
noncomputable abbrev topLook (p : Program) (s₀ s₁ : Shared) : Bool :=
  (s₀.heap.isNs mainGlobals && s₀.gens.size == 0) && (staticsOk (importedModules p.main.body) s₀.heap s₁.heap && namesBound p s₁.heap && gensDone s₁ && laidKept s₀.heap s₁.heap)
theorem both_ends {p : Program} {N : Nat} {w : World} {β γ : Type} {f : Shared → β} {a : β} {g : Shared → γ} {b : γ}
    (hA : Both p N (fun s₀ s₁ => (topLook p s₀ s₁, g s₁)) w = some (true, b))
    (hB : Both p N (fun _ s => f s) w = some a) : (openEnds treeTable p w N).map (fun s => (f s, g s)) = some (a, b) := by
  obtain ⟨s₀, h0, h1⟩ := Option.bind_eq_some_iff.mp hA
  obtain ⟨sT, h2, h3⟩ := Option.map_eq_some_iff.mp h1
  obtain ⟨h3, h4⟩ := Prod.mk.inj h3
  obtain ⟨s₀', h0', h1⟩ := Option.bind_eq_some_iff.mp hB
  cases h0.symm.trans h0'
  obtain ⟨sT', h2', h5⟩ := Option.map_eq_some_iff.mp h1
  cases h2.symm.trans h2'
  obtain ⟨k1, k2⟩ := Bool.and_eq_true_iff.mp h3
  unfold openEnds topFrom
  rw [h0, Option.bind_some, k1, topT_spec h2]
  dsimp only [Option.bind_some]
  rw [k2]
  exact congrArg some (Prod.ext h5 h4)
theorem w1 : looksOpen PySem.Challenge.rw_un0042_01.prog = true := by
  rw [PySem.W.Fast.te12908688711261696721]
  kernel_rfl
theorem w2 : (OpenLaw.row PySem.Challenge.rw_un0042_01).wellSaid = true := by
  unfold OpenRow.wellSaid OpenRow.partSaid
  rw [show looksOpen (OpenLaw.row PySem.Challenge.rw_un0042_01).prog = true from w1]
  kernel_rfl
theorem ws : OpenLaw.wellSaid PySem.Challenge.rw_un0042_01 = true := by
  unfold OpenLaw.wellSaid
  rw [w2]
  kernel_rfl
noncomputable def kas : List Addr := [2, 3, 32, 34, 35, 37, 38, 42, 43, 47, 48, 56, 57, 59, 60, 62, 63, 64, 66, 67, 69, 70, 71, 73, 74, 76, 77, 78, 80, 81, 83, 84, 85, 88, 89, 90, 92, 93, 95, 96, 97, 99, 100, 102, 103, 104, 106, 107, 109, 110, 111, 112, 114, 115, 117, 118, 119, 122, 123, 124, 127, 128, 129, 131, 132, 134, 135, 136, 138, 139, 141, 142, 143, 146, 147, 148, 150, 151, 153, 154, 155, 157, 158, 160, 161, 162, 164, 165, 167, 168, 169, 170, 171, 172, 173, 176, 178, 179, 181, 182, 183, 185, 186, 188, 189, 190, 192, 193, 195, 196, 197, 199, 200, 202, 203, 204, 206, 207, 209, 210, 211, 213, 214, 216, 217, 218, 221, 226, 227, 228, 230, 231, 233, 234, 235, 237, 238, 240, 241, 242, 243, 245, 246, 248, 249, 250, 252, 253, 255, 256, 257, 259, 260, 262, 263, 264, 266, 267, 269, 270, 271, 272, 274, 275, 277, 278, 279, 281, 282, 284, 285, 286, 287, 289, 290, 292, 293, 294, 295, 296, 297, 298, 301, 304, 305, 306, 309, 310, 311, 313, 314, 316, 317, 318, 321, 322, 323, 325, 326, 328, 329, 330, 332, 333, 335, 336, 337, 340, 341, 342, 345, 346]
theorem kas_ok : ∀ P, kas = (hpK P).map (·.1) := fun _ => by kernel_rfl
theorem lookA : ∀ w, Both (OpenRow.toRowW PySem.Challenge.rw_un0042_01.row).prog 3924 (fun s₀ s₁ => (topLook (OpenRow.toRowW PySem.Challenge.rw_un0042_01.row).prog s₀ s₁, Hook.obs (kmHook hpK kas kas_ok [198, 191]) s₁)) w = some (true, Hook.val (kmHook hpK kas kas_ok [198, 191]) w) := by
  intro w
  unfold Both fencedOpening topT
  rw [PySem.W.Fast.te10274390034422433532, PySem.W.Fast.te14364793385576792824, PySem.W.Fast.te14289696077712309145, PySem.W.Fast.te1435165496053646825, PySem.W.Fast.te10110043849684766642]
  kernel_rfl
theorem lookB : ∀ w, Both (OpenRow.toRowW PySem.Challenge.rw_un0042_01.row).prog 3924 (fun _ s => openSeen vw [Str.ofString "_name_disallowed_re", Str.ofString "_value_disallowed_re", Str.ofString "_Accumulator"] (importedModules (OpenRow.toRowW PySem.Challenge.rw_un0042_01.row).prog.main.body) (fun s => xlAt vw [] s && recOk (RowW.records (OpenRow.toRowW PySem.Challenge.rw_un0042_01.row)) s) true s) w = some (openGood vw [Str.ofString "_name_disallowed_re", Str.ofString "_value_disallowed_re", Str.ofString "_Accumulator"]) := by
  intro w
  unfold Both fencedOpening topT
  rw [PySem.W.Fast.te10274390034422433532, PySem.W.Fast.te14364793385576792824, PySem.W.Fast.te14289696077712309145, PySem.W.Fast.te1435165496053646825, PySem.W.Fast.te10110043849684766642, PySem.W.Fast.te4187177175401517315]
  kernel_rfl
theorem left : LeftO (OpenRow.toRowW PySem.Challenge.rw_un0042_01.row).prog vw [Str.ofString "_name_disallowed_re", Str.ofString "_value_disallowed_re", Str.ofString "_Accumulator"] (fun s => xlAt vw [] s && recOk (RowW.records (OpenRow.toRowW PySem.Challenge.rw_un0042_01.row)) s) (Hook.obs (kmHook hpK kas kas_ok [198, 191])) (Hook.val (kmHook hpK kas kas_ok [198, 191])) 3924 :=
  fun w => both_ends (lookA w) (lookB w)
theorem fillK : PySem.Challenge.rw_un0042_01 = PySem.Challenge.rw_un0042_01 ∧ hpK = hpK := by
  k_fill
  exact ⟨rfl, rfl⟩
/-! the pattern's search: nothing is found in a text without control signs -/
section
open PySem.Sre PySem.Builtin.Re
abbrev okSign (c : Nat) : Prop := 32 ≤ c ∧ c < 127
abbrev okText (x : Str) : Prop := ∀ c ∈ x.cps.toList, okSign c
noncomputable def codeN : Array Nat := #[14, 10, 4, 1, 1, 22, 0, 31, 16, 127, 0, 13, 7, 22, 0, 31, 16, 127, 0, 1]
noncomputable def codeV : Array Nat := #[14, 14, 4, 1, 1, 9, 4294966783, 0, 0, 2147483648, 0, 0, 0, 0, 0, 13, 11, 9, 4294966783, 0, 0, 2147483648, 0, 0, 0, 0, 0, 1]
theorem inSet_N {c : Nat} (h : okSign c) (seen : Sre.Seen) : ∃ seen', inSet codeN c codeN.size 5 true seen = .ok (false, seen') := by
  have h1 : ¬ (0 ≤ c ∧ c ≤ 31) := by omega
  have h2 : (c == 127) = false := by rw [beq_eq_false_iff_ne]; omega
  refine ⟨((seen.add 22).add 16).add 0, ?_⟩
  show (if (0 ≤ c && c ≤ 31) = true then _ else if (c == 127) = true then _ else _) = _
  rw [if_neg (by simpa using h1), if_neg (by rw [h2]; exact Bool.false_ne_true)]
  rfl
theorem bits_V : ∀ c < 127, 32 ≤ c → (codeV.getD (5 + (1 + c / 32)) 0).testBit (c % 32) = false := by decide +kernel
theorem inSet_V {c : Nat} (h : okSign c) (seen : Sre.Seen) : ∃ seen', inSet codeV c codeV.size 5 true seen = .ok (false, seen') := by
  refine ⟨(seen.add 9).add 0, ?_⟩
  show (if (decide (c < 256) && (codeV.getD (5 + (1 + c / 32)) 0).testBit (c % 32)) = true then _ else _) = _
  rw [bits_V c h.2 h.1, Bool.and_false, if_neg Bool.false_ne_true]
  rfl
theorem admitted_no {m : M} (hs : ∀ s, s < m.lim → ∀ seen, ∃ seen', inSet m.code (m.text.getD s 0) m.code.size 5 true seen = .ok (false, seen')) :
    ∀ (fuel s : Nat) (seen : Sre.Seen), ∃ seen', m.admitted fuel s seen = .ok (none, seen')
  | 0, _, seen => ⟨seen, rfl⟩
  | fuel + 1, s, seen => by
    unfold M.admitted
    by_cases h : s ≥ m.lim
    · exact ⟨seen, by rw [if_pos h]⟩
    · rw [if_neg h]
      obtain ⟨seen', e⟩ := hs s (by omega) seen
      rw [e]
      exact admitted_no hs fuel (s + 1) seen'
theorem attemptFrom_no {m : M} (h4 : m.code.getD 0 0 = 14) (h5 : m.code.getD 2 0 = 4)
    (hs : ∀ s, s < m.lim → ∀ seen, ∃ seen', inSet m.code (m.text.getD s 0) m.code.size 5 true seen = .ok (false, seen')) (hf : m.frames = []) (ho : m.outcome = none) :
    ∃ m' : M, m.attemptFrom 0 true = m'.say false ∧ m'.frames = [] ∧ m'.outcome = none := by
  unfold M.attemptFrom
  have hset : m.hasFirstSet = true := by
    unfold M.hasFirstSet
    rw [h4, h5]; rfl
  rw [hset, if_neg (by exact Bool.false_ne_true)]
  obtain ⟨seen', e⟩ := admitted_no hs (m.lim + 1 - 0) 0 m.seen
  rw [e]
  exact ⟨_, rfl, hf, ho⟩
theorem search_says {code text : Array Nat} {groups lim : Nat} (h4 : code.getD 0 0 = 14) (h5 : code.getD 2 0 = 4)
    (hs : ∀ s, s < lim → ∀ seen, ∃ seen', inSet code (text.getD s 0) code.size 5 true seen = .ok (false, seen')) :
    ∃ m : M, forSearch code text groups 0 lim false = m.say false ∧ m.frames = [] ∧ m.outcome = none := by
  unfold forSearch
  dsimp only
  split
  · exact ⟨_, rfl, rfl, rfl⟩
  · exact attemptFrom_no h4 h5 hs rfl rfl
theorem runFor_says {m : M} (hf : m.frames = []) (ho : m.outcome = none) : ((m.say false).runFor 4).outcome = some .failed := by
  obtain ⟨code, text, lim, start, lastStart, wholeText, mustAdvance, pc, pos, handed, outermost, marks, lastmark, lastindex, loops, inner, frames, weight, answer, seen, outcome⟩ := m
  dsimp only at hf ho
  subst hf ho
  rfl
end
section
open PySem.Builtin.Re PySem.Builtin
theorem slot_search : Slot "re.Pattern" "search" "re.Pattern.search" :=
  .of (owner := "re.Pattern") (n := "search") (by rw [typeLookup_type, builtinLookup_eq_fast]; kernel_rfl) (by decide +kernel) (by decide +kernel) (by decide +kernel)
    (by first | exact .inl (by decide +kernel) | exact .inr (by decide +kernel)) (by rw [isSubtype_type]; kernel_rfl)
theorem type_search : typeOf (.builtin "re.Pattern.search") = pure (.type "method_descriptor") := by show builtinType _ = _; rw [builtinType_eq_fast]; kernel_rfl
theorem entry_search : entryFor table "re.Pattern.search" = some Builtin.«re.Pattern.search» := entryFor_of_tree (by kernel_rfl)
theorem args_search (a b : Value) : argsOk "re.Pattern.search" ⟨[a, b], []⟩ := by
  unfold argsOk; kernel_rfl
theorem plain_pattern : PlainAttrs "re.Pattern" := ⟨⟨"object.__getattribute__", by rw [typeLookup_type, builtinLookup_eq_fast]; kernel_rfl, by decide +kernel⟩, by rw [typeLookup_type, builtinLookup_eq_fast]; kernel_rfl⟩
variable {prog : Program} {w : World} {A : Around} {E : Value → Shared → Prop} {s : Shared}
theorem rules_pass {M : Model} {b : Nat → Bool} {tg : Nat → String} {Q : Unit → Shared → Prop} (h : Q () s) : ∀ l : List Nat, wpAny M A (forIn l () fun i _ => if b i = true then (do rule (tg i); pure (ForInStep.yield ())) else pure (ForInStep.yield ())) Q E s
  | [] => wpAny_pure h
  | i :: r => by
    rw [List.forIn_cons]
    refine wpAny_bind ?_
    split
    · exact wpAny_bind (wpAny_rule (wpAny_pure (rules_pass h r)))
    · exact wpAny_pure (rules_pass h r)
theorem search_none {P T : Addr} {fs ws : Array Value} {n : Nat} {x : Str} {t : Tok} {Q : Value → Shared → Prop} {code : Array Nat}
    (hP : s.heap.get? P = some { cls := .type "re.Pattern", data := .fields fs }) (h6 : reRawNat (fs.getD 6 .none) = 0) (h5 : fs.getD 5 .none = .ref T)
    (hT : s.heap.get? T = some { cls := .type "tuple", data := .seq ws n }) (hc : (ws.map reRawOf).map (·.toNat) = code) (hi : code.getD 0 0 = 14) (hk : code.getD 2 0 = 4)
    (hs : ∀ c, okSign c → ∀ seen, ∃ seen', Sre.inSet code c code.size 5 true seen = .ok (false, seen')) (hx : okText x) (h : Q .none s) :
    wpAny (model prog w) A (call (.builtin "re.Pattern.search") [.ref P, .str x t]) Q E s := by
  refine wpAny_call_entry slot_search ⟨_, hP, rfl⟩ entry_search ?_ (args_search _ _)
  unfold Builtin.«re.Pattern.search» reTarget
  refine wpAny_bind (wpAny_bind (wpAny_of_eq (a := [some (.str x t), none, none]) (by rfl) ?_))
  dsimp only
  refine wpAny_bind (wpAny_pure (wpAny_bind (wpAny_pure (wpAny_bind (wpAny_fieldsOf hP rfl ?_)))))
  refine wpAny_bind (wpAny_of_eq (a := (x.cps, 0)) (by rfl) ?_)
  dsimp only
  rw [h6]
  refine wpAny_bind (wpAny_of_eq (a := ()) (by rfl) ?_)
  rw [h5]
  unfold reRawItems
  refine wpAny_bind (wpAny_bind (wpAny_seqItems hT rfl (wpAny_pure (wpAny_pure ?_))))
  dsimp only [Option.getD_some]
  rw [hc]
  have hl : ∀ k, k < min (2 ^ 63 - 1 : Int).toNat x.cps.size → ∀ seen, ∃ seen', Sre.inSet code (x.cps.getD k 0) code.size 5 true seen = .ok (false, seen') := fun k hk seen => by
    have hk' : k < x.cps.size := Nat.lt_of_lt_of_le hk (Nat.min_le_right _ _)
    refine hs _ (hx _ ?_) seen
    rw [Array.getD_eq_getD_getElem?, Array.getElem?_eq_getElem hk', Option.getD_some]
    exact Array.mem_toList_iff.mpr (Array.getElem_mem hk')
  obtain ⟨m, e, hf, ho⟩ := search_says (groups := reRawNat (fs.getD 2 Value.none)) hi hk hl
  show wpAny _ _ (reAnswer _ (Sre.forSearch code x.cps (reRawNat (fs.getD 2 Value.none)) (Min.min (Int.toNat 0) x.cps.size) (Min.min (2 ^ 63 - 1 : Int).toNat x.cps.size) false)) _ _ _
  rw [show Min.min (Int.toNat 0) x.cps.size = 0 from Nat.zero_min _, e]
  unfold reAnswer reRunToEnd
  have hr := runFor_says hf ho
  have hd : reDrive (2 ^ 64) (m.say false) = pure ((m.say false).runFor 4) := by
    show reDrive ((2 ^ 64 - 1) + 1) _ = _
    unfold reDrive
    dsimp only [reTurnSteps]
    rw [hr]; rfl
  rw [hd]
  refine wpAny_bind (wpAny_bind (wpAny_pure ?_))
  refine wpAny_bind (rules_pass ?_ _)
  rw [hr]
  exact wpAny_pure (wpAny_pure ⟨_, rfl, h⟩)
end
section
open PySem.Builtin.Re PySem.Builtin
variable {prog : Program} {w : World} {A : Around} {E : Value → Shared → Prop} {s : Shared} {K : Frag} {h₀ : Heap} {L : Addr} {m : Str → Option Value}
theorem method_search {M : Model} {P : Addr} {fs : Array Value} {pl : Sem Bool} {Q : Value × List Value → Shared → Prop} (F : Fr h₀ L s.heap m) (X₀ : K.In h₀)
    (hl : K.lookup P = some ⟨.type "re.Pattern", none, .fields fs, #[]⟩) (h : Q (.builtin "re.Pattern.search", [.ref P]) s) : wpAny M A (getMethod (.ref P) (PySem.Str.ofString "search") pl) Q E s :=
  getMethod_builtin (T := "re.Pattern") ⟨_, (X₀.keeps F.keep) _ _ hl, rfl⟩ plain_pattern slot_search type_search (fun a e => by cases e; exact ⟨_, (X₀.keeps F.keep) _ _ hl, rfl⟩) h
theorem search_KN {P T : Addr} {fs ws : Array Value} {n : Nat} {x : Str} {t : Tok} {Q : Value → Shared → Prop} (F : Fr h₀ L s.heap m) (X₀ : K.In h₀)
    (hl : K.lookup P = some ⟨.type "re.Pattern", none, .fields fs, #[]⟩) (h6 : reRawNat (fs.getD 6 .none) = 0) (h5 : fs.getD 5 .none = .ref T) (hT : K.lookup T = some ⟨.type "tuple", none, .seq ws n, #[]⟩)
    (hc : ws.toList.map (fun v => (reRawOf v).toNat) = codeN.toList ∨ ws.toList.map (fun v => (reRawOf v).toNat) = codeV.toList) (hx : okText x) (h : Q .none s) : wpAny (model prog w) A (call (.builtin "re.Pattern.search") [.ref P, .str x t]) Q E s := by
  rcases hc with hc | hc
  · exact search_none ((X₀.keeps F.keep) _ _ hl) h6 h5 ((X₀.keeps F.keep) _ _ hT) (by apply Array.toList_inj.mp; simpa [Function.comp_def] using hc) rfl rfl (fun c hc seen => inSet_N hc seen) hx h
  · exact search_none ((X₀.keeps F.keep) _ _ hl) h6 h5 ((X₀.keeps F.keep) _ _ hT) (by apply Array.toList_inj.mp; simpa [Function.comp_def] using hc) rfl rfl (fun c hc seen => inSet_V hc seen) hx h
end
/-! lists of values that stand for data -/
inductive Are {α : Type} (Is : α → Value → Prop) : List Value → List α → Prop
  | nil : Are Is [] []
  | cons {v : Value} {a : α} {vs : List Value} {as : List α} : Is a v → Are Is vs as → Are Is (v :: vs) (a :: as)
namespace Are
variable {α β : Type} {Is : α → Value → Prop} {Is' : β → Value → Prop} {vs ws : List Value} {as bs : List α}
theorem length (h : Are Is vs as) : vs.length = as.length := by
  induction h with
  | nil => rfl
  | cons _ _ ih => rw [List.length_cons, List.length_cons, ih]
theorem append (h : Are Is vs as) (h' : Are Is ws bs) : Are Is (vs ++ ws) (as ++ bs) := by
  induction h with
  | nil => exact h'
  | cons h1 _ ih => exact .cons h1 ih
theorem snoc {v : Value} {a : α} (h : Are Is vs as) (h' : Is a v) : Are Is (vs ++ [v]) (as ++ [a]) := h.append (.cons h' .nil)
theorem get (h : Are Is vs as) : ∀ {i : Nat} {v : Value}, vs[i]? = some v → ∃ a, as[i]? = some a ∧ Is a v := by
  induction h with
  | nil => intro i v e; simp at e
  | cons h1 _ ih =>
    intro i v e
    cases i with
    | zero => simp at e; subst e; exact ⟨_, rfl, h1⟩
    | succ i => simp only [List.getElem?_cons_succ] at e ⊢; exact ih e
theorem get' (h : Are Is vs as) : ∀ {i : Nat} {a : α}, as[i]? = some a → ∃ v, vs[i]? = some v ∧ Is a v := by
  induction h with
  | nil => intro i v e; simp at e
  | cons h1 _ ih =>
    intro i v e
    cases i with
    | zero => simp at e; subst e; exact ⟨_, rfl, h1⟩
    | succ i => simp only [List.getElem?_cons_succ] at e ⊢; exact ih e
theorem take (h : Are Is vs as) : ∀ n, Are Is (vs.take n) (as.take n) := by
  induction h with
  | nil => intro n; simp; exact .nil
  | cons h1 _ ih => intro n; cases n with
    | zero => exact .nil
    | succ n => exact .cons h1 (ih n)
theorem drop (h : Are Is vs as) : ∀ n, Are Is (vs.drop n) (as.drop n) := by
  induction h with
  | nil => intro n; simp; exact .nil
  | cons h1 h2 ih => intro n; cases n with
    | zero => exact .cons h1 h2
    | succ n => exact ih n
theorem mono {Is₂ : α → Value → Prop} (h : Are Is vs as) (hi : ∀ a v, Is a v → Is₂ a v) : Are Is₂ vs as := by
  induction h with
  | nil => exact .nil
  | cons h1 _ ih => exact .cons (hi _ _ h1) ih
theorem replicate {v : Value} {a : α} (h : Is a v) : ∀ n, Are Is (List.replicate n v) (List.replicate n a)
  | 0 => .nil
  | n + 1 => .cons h (replicate h n)
theorem map {f : β → α} {bs : List β} {Is₂ : β → Value → Prop} (h : Are Is₂ vs bs) (hi : ∀ b v, b ∈ bs → Is₂ b v → Is (f b) v) : Are Is vs (bs.map f) := by
  induction h with
  | nil => exact .nil
  | cons h1 _ ih => exact .cons (hi _ _ (.head _) h1) (ih fun b v m => hi b v (.tail _ m))
theorem set (h : Are Is vs as) {v : Value} {a : α} (h' : Is a v) : ∀ n, Are Is (vs.set n v) (as.set n a) := by
  induction h with
  | nil => intro n; exact .nil
  | cons h1 h2 ih => intro n; cases n with
    | zero => exact .cons h' h2
    | succ n => exact .cons h1 (ih n)
theorem reverse (h : Are Is vs as) : Are Is vs.reverse as.reverse := by
  induction h with
  | nil => exact .nil
  | cons h1 _ ih => rw [List.reverse_cons, List.reverse_cons]; exact ih.snoc h1
theorem paired {F : Value → Value → Prop} {f : α → β} (h : Are Is vs as) (P : Paired F vs ws) (hf : ∀ a v y, a ∈ as → Is a v → F v y → Is' (f a) y) : Are Is' ws (as.map f) := by
  induction h generalizing ws with
  | nil => cases P; exact .nil
  | cons h1 _ ih => cases P with
    | cons p q => exact .cons (hf _ _ _ (.head _) h1 p) (ih q fun a v y m => hf a v y (.tail _ m))
end Are
noncomputable def IsInt (i : Int) (v : Value) : Prop := ∃ t, v = .int i t
noncomputable def IsStr (x : Str) (v : Value) : Prop := ∃ t, v = .str x t
theorem IsInt.mk (i : Int) (t : Tok) : IsInt i (.int i t) := ⟨t, rfl⟩
theorem IsStr.mk (x : Str) (t : Tok) : IsStr x (.str x t) := ⟨t, rfl⟩
theorem are_ints {vs : List Value} {ns : List Int} (h : Are IsInt vs ns) : IntsAre vs ns := by
  induction h with
  | nil => exact .nil
  | cons h1 _ ih => obtain ⟨t, rfl⟩ := h1; exact .cons _ _ ih
theorem ints_are {vs : List Value} {ns : List Int} (h : IntsAre vs ns) : Are IsInt vs ns := by
  induction h with
  | nil => exact .nil
  | cons _ _ _ ih => exact .cons ⟨_, rfl⟩ ih
theorem are_strs {vs : List Value} {ns : List Str} (h : Are IsStr vs ns) : StrsAre vs ns := by
  induction h with
  | nil => exact .nil
  | cons h1 _ ih => obtain ⟨t, rfl⟩ := h1; exact .cons _ _ ih
theorem strs_are {vs : List Value} {ns : List Str} (h : StrsAre vs ns) : Are IsStr vs ns := by
  induction h with
  | nil => exact .nil
  | cons _ _ _ ih => exact .cons ⟨_, rfl⟩ ih
section
variable {prog : Program} {w : World} {A : Around} {E : Value → Shared → Prop} {s : Shared} {h₀ : Heap} {env : Env}
/-- the source of a comprehension: a list, its items for data -/
noncomputable def MSrc {α β : Type} (prog : Program) (w : World) (A : Around) (env : Env) (scope : Scope) (cl : List (Str × Addr)) (x : Str) (elt : Expr) (Is : α → Value → Prop) (Is' : β → Value → Prop) (f : α → β) (Q : Value → Shared → Prop) (xv : Value) (s₁ : Shared) : Prop :=
  ∃ (ax : Addr) (vs : List Value) (as : List α), xv = .ref ax ∧ s₁.heap.IsList ax vs.toArray ∧ vs.length ≤ sizeLine ∧ Are Is vs as ∧
    (∀ a v C mC E' s₃, a ∈ as → Is a v → s₃.heap.Ns C mC → mC x = some v → (∀ b o, s₁.heap.get? b = some o → s₃.heap.get? b = some o) →
      wpAny (model prog w) A (eval elt (compEnvC scope cl C env)) (fun y s₄ => Is' (f a) y ∧ Keeps s₃ s₄) E' s₃) ∧
    (∀ D h' tk ys k, s₁.heap.get? D = none → h'.get? D = some (listOf ys.toArray k) → Are Is' ys (as.map f) → (∀ b o, s₁.heap.get? b = some o → h'.get? b = some o) → Q (.ref D) { s₁ with heap := h', toks := tk })
theorem comp_list {α β : Type} (Is : α → Value → Prop) (Is' : β → Value → Prop) (f : α → β) {elt iter : Expr} {x : Str} {px : Pos} {scope : Scope} {cl : List (Str × Addr)} {pos : Pos} {Q : Value → Shared → Prop}
    (hinj : ∀ a a' v, Is a v → Is a' v → a = a') (hh : A.handled = none) (hclos : closureFor scope env = pure cl) (hcell : ∀ y ∈ scope.names, y.2 ≠ .cell) (hkind : scope.kind = .function)
    (hnames : ∀ y ∈ scope.names, y.2 = .local → scope.names.lookup y.1 = some .local) (hx : scope.names.lookup x = some .local)
    (h : wpAny (model prog w) A (eval iter env) (MSrc prog w A env scope cl x elt Is Is' f Q) E s)
    (hs : ∀ x, foldedSetIterable iter env x = pure x := by intro _; rfl) :
    wpAny (model prog w) A (eval (.ListComp elt [⟨.Name x px, iter, [], 0⟩] scope pos) env) Q E s := by
  refine wpAny_ListComp_free (fun _ => true) (fun v y => ∀ a, Is a v → Is' (f a) y) hclos hcell hkind hnames hx (wpAny_mono h (fun xv s₁ h₁ => ?_) fun _ _ e => e) hs
  obtain ⟨ax, vs, as, rfl, hl, hsz, har, helt, hQ⟩ := h₁
  refine wpAny_pyIter_list hl ?_
  have hol : ax < s₁.heap.objs.size := by obtain ⟨o, ho, _⟩ := hl; exact Heap.lt_size ho
  have W := Walks.list (prog := prog) (w := w) hh s₁.heap.objs.size ax (Nat.ne_of_lt hol) vs.toArray
  have keep : ∀ (h' : Heap), (∀ b o, b ∉ [s₁.heap.objs.size] → (s₁.heap.push { cls := .type "list_iterator", data := .fields #[.ref ax, .int 0 0] }).get? b = some o → h'.get? b = some o) → ∀ b o, s₁.heap.get? b = some o → h'.get? b = some o :=
    fun h' hk b o e => hk b o (by intro hm; exact absurd (Heap.lt_size e) (by rw [List.mem_singleton.mp hm]; exact Nat.lt_irrefl _)) (Heap.get?_push_of_some _ e)
  refine ⟨_, _, _, vs.toArray.size, _, _, rfl, W, by simpa using hsz, ⟨⟨_, Heap.get?_push_size _ rfl, rfl, rfl⟩, hl.at fun o e => Heap.get?_push_of_some _ e⟩, ?_, ⟨?_, ?_⟩, ?_⟩
  · intro b hb
    rw [Heap.size_push]
    rcases List.mem_cons.mp hb with rfl | hb
    · exact Nat.lt_succ_self _
    · rw [List.mem_singleton.mp hb]; exact Nat.lt_succ_of_lt hol
  · intro C i v s₃ m₃ E' _ _ _ _ _ _
    exact wpAny_pure ⟨rfl, s₃.heap, s₃.toks, rfl, fun _ _ e => e⟩
  · intro C i v s₃ m₃ E' _ hv _ hn hm hk _
    have hv' : vs[i]? = some v := by simpa using hv
    obtain ⟨a, ha, hIs⟩ := har.get hv'
    refine wpAny_mono (helt a v C m₃ E' s₃ (List.mem_of_getElem? ha) hIs hn hm (keep _ hk)) (fun y s₄ h₄ => ⟨fun a' ha' => ?_, h₄.2⟩) fun _ _ e => e
    exact hinj _ _ _ hIs ha' ▸ h₄.1
  · intro D h' tk ys us hD hl' hpl hlen hP hF hk
    have hus : us = vs := by
      apply List.ext_getElem?
      intro j
      by_cases hj : j < us.length
      · have h1 := hP j us[j] (by simp [hj])
        rw [List.getElem?_eq_getElem hj]
        have : vs[j]? = some us[j] := by simpa using h1
        exact this.symm
      · have hj' : vs.length ≤ j := by have : us.length = vs.length := by simpa using hlen
                                       omega
        rw [List.getElem?_eq_none (Nat.le_of_not_lt hj), List.getElem?_eq_none hj']
    subst hus
    obtain ⟨k, hk'⟩ := hpl
    rw [List.filter_eq_self.mpr (fun _ _ => rfl)] at hF
    refine hQ D h' tk ys.toList k ?_ ?_ (har.paired hF fun a v y _ hI hf => hf a hI) (keep h' hk)
    · cases e : s₁.heap.get? D with
      | none => rfl
      | some o => rw [Heap.get?_push_of_some _ e] at hD; cases hD
    · rw [hk']
end
section
variable {prog : Program} {w : World} {A : Around} {E : Value → Shared → Prop} {s s₁ : Shared} {h₀ : Heap} {L : Addr} {m : Str → Option Value} {env : Env} {news : List (Addr × Obj)}
theorem fresh_news {h' : Heap} {D : Addr} {o : Obj} (F : Fr h₀ L s₁.heap m) (N : News h₀ L s₁.heap news) (hD : s₁.heap.get? D = none) (e : h'.get? D = some o) (k : ∀ b o, s₁.heap.get? b = some o → h'.get? b = some o) :
    Fr h₀ L h' m ∧ News h₀ L h' ((D, o) :: news) ∧ ∀ p ∈ news, p.1 ≠ D := by
  obtain ⟨oL, es, ep, hL, r⟩ := F.ns
  refine ⟨⟨⟨oL, es, ep, k _ _ hL, r⟩, fun b o e => k _ _ (F.keep b o e), F.above⟩, fun p hp => ?_, fun p hp q => ?_⟩
  · rcases List.mem_cons.mp hp with rfl | hp
    · refine ⟨e, fun q => ?_, ?_⟩
      · rw [show D = L from q, hL] at hD; cases hD
      · cases q : h₀.get? D with
        | none => rfl
        | some o' => rw [F.keep _ _ q] at hD; cases hD
    · exact ⟨k _ _ (N p hp).1, (N p hp).2⟩
  · have := (N p hp).1; rw [q, hD] at this; cases this
theorem MSrc.ofN {α β : Type} {Is : α → Value → Prop} {Is' : β → Value → Prop} {f : α → β} {elt : Expr} {x : Str} {scope : Scope} {cl : List (Str × Addr)} {Q : Value → Shared → Prop} {ax : Addr} {vs : List Value} {as : List α} {n : Nat}
    (F : Fr h₀ L s₁.heap m) (N : News h₀ L s₁.heap news) (hl : (ax, listOf vs.toArray n) ∈ news) (har : Are Is vs as) (hsz : as.length ≤ sizeLine)
    (helt : ∀ a v C mC E' (s₃ : Shared), a ∈ as → Is a v → s₃.heap.Ns C mC → mC x = some v → (∀ b o, s₁.heap.get? b = some o → s₃.heap.get? b = some o) →
      wpAny (model prog w) A (eval elt (compEnvC scope cl C env)) (fun y s₄ => Is' (f a) y ∧ Keeps s₃ s₄) E' s₃)
    (hQ : ∀ D h' tk ys k, Fr h₀ L h' m → News h₀ L h' ((D, listOf ys.toArray k) :: news) → (∀ p ∈ news, p.1 ≠ D) → Are Is' ys (as.map f) → Q (.ref D) { s₁ with heap := h', toks := tk }) :
    MSrc prog w A env scope cl x elt Is Is' f Q (.ref ax) s₁ :=
  ⟨ax, vs, as, rfl, ⟨_, (N _ hl).1, rfl, _, rfl⟩, har.length ▸ hsz, har, helt, fun D h' tk ys k hD e hy hk =>
    let ⟨F', N', hne⟩ := fresh_news F N hD e hk
    hQ D h' tk ys k F' N' hne hy⟩
theorem isInt_inj (a a' : Int) (v : Value) : IsInt a v → IsInt a' v → a = a' := by
  rintro ⟨t, rfl⟩ ⟨t', e⟩; cases e; rfl
theorem isStr_inj (a a' : Str) (v : Value) : IsStr a v → IsStr a' v → a = a' := by
  rintro ⟨t, rfl⟩ ⟨t', e⟩; cases e; rfl
end
theorem News.sub {h₀ h : Heap} {L : Addr} {l l' : List (Addr × Obj)} (N : News h₀ L h l) (hs : ∀ p ∈ l', p ∈ l) : News h₀ L h l' := fun p hp => N p (hs p hp)
section
variable {prog : Program} {w : World} {A : Around} {E : Value → Shared → Prop} {s : Shared} {h₀ : Heap} {L : Addr} {m : Str → Option Value} {news : List (Addr × Obj)}
theorem join_are {x : Str} {t : Tok} {D : Addr} {ys : List Value} {xs : List Str} {k : Nat} {Q : Value → Shared → Prop} (N : News h₀ L s.heap news) (hm : (D, listOf ys.toArray k) ∈ news) (hy : Are IsStr ys xs)
    (hok : (xs.map (·.length)).sum + xs.length * x.length ≤ 16777216) (h : ∀ t' k, Q (.str (Txt.join x xs) t') { s with toks := k }) : wpAny (model prog w) A (call (.builtin "str.join") [.str x t, .ref D]) Q E s :=
  join_list (items := ys.toArray) ⟨_, (N _ hm).1, rfl, _, rfl⟩ (by simpa using are_strs hy) hok h
end
theorem sum_const {α : Type} (f : α → Nat) (c : Nat) (l : List α) (h : ∀ a ∈ l, f a ≤ c) : (l.map f).sum ≤ l.length * c := by
  induction l with
  | nil => simp
  | cons a r ih =>
    have h1 := h a (.head _)
    have h2 := ih fun b hb => h b (.tail _ hb)
    simp only [List.map_cons, List.sum_cons, List.length_cons, Nat.succ_mul]
    omega
theorem empty_lit : PySem.Str.ofString "" = ⟨#[]⟩ := by decide +kernel
theorem join_chars (f : Int → Nat) (ds : List Int) : Txt.join (PySem.Str.ofString "") (ds.map fun d => (⟨#[f d]⟩ : Str)) = ⟨(ds.map f).toArray⟩ := by
  rw [empty_lit]
  unfold Txt.join
  rw [StrLaws.glued_eq_join]
  have := join_nil_signs ⟨(ds.map f).toArray⟩
  unfold signs at this
  simpa [Function.comp_def] using this
theorem fit_chars (f : Int → Nat) (ds : List Int) (h : ds.length ≤ 1000) : ((ds.map fun d => (⟨#[f d]⟩ : Str)).map (·.length)).sum + (ds.map fun d => (⟨#[f d]⟩ : Str)).length * (PySem.Str.ofString "").length ≤ 16777216 := by
  have h1 := sum_const (fun x : Str => x.length) 1 (ds.map fun d => (⟨#[f d]⟩ : Str)) (fun a ha => by
    obtain ⟨d, _, e⟩ := List.mem_map.mp ha
    rw [← e]
    exact Nat.le_refl 1)
  rw [empty_lit]
  simp only [List.length_map] at h1 ⊢
  have : (⟨#[]⟩ : Str).length = 0 := rfl
  rw [this]
  omega
theorem neA {d : Addr} {l : List (Addr × Obj)} (h : ∀ p ∈ l, p.1 < d) : ∀ p ∈ l, p.1 ≠ d := fun p hp => Nat.ne_of_lt (h p hp)
theorem neB {d : Addr} {l : List (Addr × Obj)} (h : AllLt d l) : ∀ p ∈ l, p.1 ≠ d := by
  induction l with
  | nil => intro p hp; cases hp
  | cons q r ih =>
    intro p hp
    rcases List.mem_cons.mp hp with e | hp
    · rw [e]; exact Nat.ne_of_lt h.1
    · exact ih h.2 p hp
theorem neC {d : Addr} {l : List (Addr × Obj)} {o : Obj} {h₀ h : Heap} {L : Addr} (N : News h₀ L h l) (hd : (d, o) ∈ l) {own : List (Addr × Obj)} (hs : ∀ p ∈ own, p ∈ l) (hne : ∀ p ∈ own, p.2 ≠ o) : ∀ p ∈ own, p.1 ≠ d := fun p hp e => by
  have h1 := (N p (hs p hp)).1
  have h2 := (N _ hd).1
  rw [e, h2] at h1
  exact hne p hp (Option.some.inj h1).symm
theorem wp_clean {α : Type} {M : Model} {A : Around} {t : Sem α} {Q : α → Shared → Prop} {E : Value → Shared → Prop} {s s' : Shared} (h : s' = s) (k : wpAny M A t Q E s') : wpAny M A t Q E s := by
  rw [← h]; exact k
structure Room (dp un D : Nat) : Prop where
  d : dp + D < recursionLimit
  u : un + 8 * D + 8 < cLine
namespace Room
variable {dp un D D' k : Nat}
theorem less (R : Room dp un D) (h : D' ≤ D) : Room dp un D' := ⟨by have := R.d; omega, by have := R.u; omega⟩
theorem step (R : Room dp un D) (h : D' + 1 ≤ D) (hk : k ≤ 8) : Room (dp + 1) (un + k) D' := ⟨by have := R.d; omega, by have := R.u; omega⟩
theorem stay (R : Room dp un D) (h : D' + 1 ≤ D) (hk : k ≤ 8) : Room dp (un + k) D' := ⟨by have := R.d; omega, by have := R.u; omega⟩
theorem depth (R : Room dp un D) : dp < recursionLimit := by have := R.d; omega
theorem depth1 (R : Room dp un D) (h : 1 ≤ D) : dp + 1 < recursionLimit := by have := R.d; omega
theorem units (R : Room dp un D) (h : k ≤ 8 * D + 8) : un + k < cLine := by have := R.u; omega
end Room
abbrev Con (K : Params → Frag) (prog : Program) (w : World) (p : Program) (loose : List Str) (mean : ExcName → Option Value) (mg mb : Str → Option Value) (D : Nat) (f : Addr) (news : List (Addr × Obj)) (vs : List Value) (kw : List (Str × Value)) (Post : Value → List (Addr × Obj) → Prop) : Prop :=
  ∀ (dp un : Nat) (gd : Option (List Code)) (cn : Str) (cs : Scope) (a : Addr) (ccd : Value) (cl : List (Str × Addr)) (outer : List Env) (A₀ : Around) (base h₀ : Heap) (L : Addr) (m : Str → Option Value) (s : Shared) (Q E : Value → Shared → Prop),
    Below A₀ base outer h₀ → Fr h₀ L s.heap m → (K w.params).In h₀ → News h₀ L s.heap news → Top p loose mean mg mb h₀ → cs.kind = .function → Room dp un D →
    (∀ (r : Value) (news' : List (Addr × Obj)) (h' : Heap) (tk' : Nat), Post r news' → Fr h₀ L h' m → News h₀ L h' news' → Q r { s with heap := h', toks := tk' }) →
      wpAny (model prog w) (ktrTop dp un gd cn cs L a ccd cl outer) (call (.ref f) vs kw) Q E s
noncomputable def nameOf (base : Int) (ds : List Int) : Str := ⟨(ds.map fun d => (base + d).toNat).toArray⟩
abbrev Oki (ds : List Int) : Prop := ∀ d ∈ ds, 0 ≤ d ∧ d ≤ 2
abbrev Okb (base : Int) : Prop := 97 ≤ base ∧ base ≤ 120
section
variable {prog : Program} {w : World} {A : Around} {E : Value → Shared → Prop} {s s₁ : Shared} {h₀ : Heap} {env : Env} {Q : Flow → Shared → Prop} {target : Expr} {body : List Stmt}
noncomputable def ForAt (prog : Program) (w : World) (A : Around) (env : Env) (target : Expr) (body : List Stmt) (Q : Flow → Shared → Prop) (E : Value → Shared → Prop) (xv : Value) (s₁ : Shared) : Prop :=
  wpAny (model prog w) A (pyIter xv) (fun it s₂ => codeAny (model prog w) A (.forLoop target it body [] env) (fun r s' => match r with | .ok f => Q f s' | .error e => cameBackBy (model prog w) A env E e s') s₂) E s₁
theorem for_at {iter : Expr} {pos : Pos} (h : wpAny (model prog w) A (eval iter env) (ForAt prog w A env target body Q E) E s) (hs : ∀ x, foldedSetIterable iter env x = pure x := by intro _; rfl) :
    wpAny (model prog w) A (exec (.For target iter body [] pos) env) Q E s := wpAny_For h hs
structure IterObj (o : Obj) (l : Addr) (i : Nat) : Prop where
  cls : o.cls = .type "list_iterator"
  data : o.data = .fields #[.ref l, .int i 0]
noncomputable def ForEnd (h₀ : Heap) (L : Addr) (J : (Str → Option Value) → List (Addr × Obj) → Prop) (it : Addr) (o : Obj) (s₁ s₂ : Shared) : Prop :=
  ∃ h' tk m' nx', s₂ = { s₁ with heap := h', toks := tk } ∧ Fr h₀ L h' m' ∧ News h₀ L h' ((it, o) :: nx') ∧ (∀ p ∈ nx', p.1 ≠ it) ∧ J m' nx'
noncomputable def ForPost (h₀ : Heap) (L : Addr) (J : (Str → Option Value) → List (Addr × Obj) → Prop) (it : Addr) (o : Obj) (s₁ : Shared) (Q : Flow → Shared → Prop) (f : Flow) (s₂ : Shared) : Prop :=
  match f with
  | .ret v => Q (.ret v) s₂
  | .brk => Q .next s₂
  | _ => ForEnd h₀ L J it o s₁ s₂
theorem ForEnd.intro {L : Addr} {J : (Str → Option Value) → List (Addr × Obj) → Prop} {it : Addr} {o : Obj} {s₁ : Shared} {h' : Heap} {tk : Nat} {m' : Str → Option Value} {news' : List (Addr × Obj)} (nx' : List (Addr × Obj))
    (F : Fr h₀ L h' m') (N : News h₀ L h' news') (hs : ∀ p ∈ (it, o) :: nx', p ∈ news') (hne : ∀ p ∈ nx', p.1 ≠ it) (hJ : J m' nx') : ForEnd h₀ L J it o s₁ { s₁ with heap := h', toks := tk } :=
  ⟨h', tk, m', nx', rfl, F, News.sub N hs, hne, hJ⟩
theorem for_list {l : Addr} {vs : List Value} {n : Nat} {m : Str → Option Value} {news : List (Addr × Obj)} (J : Nat → (Str → Option Value) → List (Addr × Obj) → Prop)
    (hh : A.handled = none) (hE : PassesOwn (model prog w) A env E) (F : Fr h₀ env.locals s₁.heap m) (N : News h₀ env.locals s₁.heap news) (hl : ∀ i m' nx, J i m' nx → (l, listOf vs.toArray n) ∈ nx) (h0 : J 0 m news)
    (turn : ∀ (i : Nat) v m₁ nx h tk it o, vs[i]? = some v → J i m₁ nx → Fr h₀ env.locals h m₁ → News h₀ env.locals h ((it, o) :: nx) → (∀ p ∈ nx, p.1 ≠ it) → IterObj o l (i + 1) →
      wpAny (model prog w) A (letOwnedTupleGo target (.ref it) v) (fun _ s' => wpAny (model prog w) A (assign target env v) (fun _ s₂ => wpAny (model prog w) A (execs body env) (ForPost h₀ env.locals (J (i + 1)) it o { s₁ with heap := h, toks := tk } Q) E s₂) E s') E { s₁ with heap := h, toks := tk })
    (done : ∀ m₁ nx h tk, J vs.length m₁ nx → Fr h₀ env.locals h m₁ → News h₀ env.locals h nx → Q .next { s₁ with heap := h, toks := tk }) :
    ForAt prog w A env target body Q E (.ref l) s₁ := by
  have hls : s₁.heap.IsList l vs.toArray := ⟨_, (N _ (hl _ _ _ h0)).1, rfl, n, rfl⟩
  have hitf : ∀ p ∈ news, p.1 ≠ s₁.heap.objs.size := fun p hp => Nat.ne_of_lt (Heap.lt_size (N p hp).1)
  refine wpAny_pyIter_list hls ?_
  refine codeAny_forLoop_any
    (fun k s' => ∃ h' tk m' nx i o, s' = { s₁ with heap := h', toks := tk } ∧ Fr h₀ env.locals h' m' ∧ News h₀ env.locals h' ((s₁.heap.objs.size, o) :: nx) ∧ (∀ p ∈ nx, p.1 ≠ s₁.heap.objs.size) ∧ IterObj o l i ∧ J i m' nx ∧ i ≤ vs.length ∧ k = vs.length + 1 - i) ?_ (vs.length + 1)
    ⟨_, s₁.toks, m, news, 0, _, rfl, F.push _, N.push F _, hitf, ⟨rfl, rfl⟩, h0, Nat.zero_le _, rfl⟩
  rintro k s' ⟨h', tk, m', nx, i, o, rfl, F', N', hne, hio, hJ, hi, rfl⟩
  have hit : h'.IsListIter s₁.heap.objs.size l i := ⟨o, (N' _ (.head _)).1, hio.cls, hio.data⟩
  have hls' : h'.IsList l vs.toArray := ⟨_, (N' _ (.tail _ (hl _ _ _ hJ))).1, rfl, n, rfl⟩
  have hitL : s₁.heap.objs.size ≠ env.locals := (N' _ (.head _)).2.1
  have hit0 : h₀.get? s₁.heap.objs.size = none := (N' _ (.head _)).2.2
  by_cases hlt : i < vs.length
  · have hv : vs[i]? = some vs[i] := by simp [hlt]
    refine wpAny_pyNext_list_item (x := vs[i]) hit hls' (by simp) fun h₁ hit₁ hs₁ => ?_
    obtain ⟨o₁, ho₁, hc₁, hd₁⟩ := hit₁
    have F₁ : Fr h₀ env.locals h₁ m' := by
      obtain ⟨oL, es, ep, hL, r⟩ := F'.ns
      exact ⟨⟨oL, es, ep, (hs₁.2 _ (Ne.symm hitL)).trans hL, r⟩, fun b x e => (hs₁.2 b (by rintro rfl; rw [hit0] at e; cases e)).trans (F'.keep b x e), F'.above⟩
    have N₁ : News h₀ env.locals h₁ ((s₁.heap.objs.size, o₁) :: nx) := fun p hp => by
      rcases List.mem_cons.mp hp with rfl | hp
      · exact ⟨ho₁, hitL, hit0⟩
      · exact ⟨(hs₁.2 _ (hne p hp)).trans (N' p (.tail _ hp)).1, (N' p (.tail _ hp)).2⟩
    refine wpAny_mono (wpAny_passesOwn hE (turn i vs[i] m' nx h₁ tk s₁.heap.objs.size o₁ hv hJ F₁ N₁ hne ⟨hc₁, hd₁⟩)) (fun _ s₂ h₂ => ?_) fun _ _ e => e
    refine wpAny_mono (wpAny_passesOwn hE h₂) (fun _ s₃ h₃ => ?_) fun _ _ e => e
    refine wpAny_mono (wpAny_passesOwn hE h₃) (fun f s₄ h₄ => ?_) fun _ _ e => e
    have fin : ForEnd h₀ env.locals (J (i + 1)) s₁.heap.objs.size o₁ { s₁ with heap := h₁, toks := tk } s₄ → ∃ m_1, m_1 < vs.length + 1 - i ∧ ∃ h' tk m' nx i o, s₄ = { s₁ with heap := h', toks := tk } ∧ Fr h₀ env.locals h' m' ∧ News h₀ env.locals h' ((s₁.heap.objs.size, o) :: nx) ∧ (∀ p ∈ nx, p.1 ≠ s₁.heap.objs.size) ∧ IterObj o l i ∧ J i m' nx ∧ i ≤ vs.length ∧ m_1 = vs.length + 1 - i := by
      rintro ⟨h₅, tk₅, m₅, nx₅, rfl, F₅, N₅, hne₅, hJ₅⟩
      exact ⟨vs.length + 1 - (i + 1), by omega, h₅, tk₅, m₅, nx₅, i + 1, o₁, rfl, F₅, N₅, hne₅, ⟨hc₁, hd₁⟩, hJ₅, hlt, rfl⟩
    cases f with
    | ret v => exact h₄
    | brk => exact h₄
    | next => exact fin h₄
    | cont => exact fin h₄
  · have hin : i = vs.length := by omega
    subst hin
    refine wpAny_pyNext_list_end hh hit hls' (by simp) fun h₁ he₁ => wpAny_execs_nil ?_
    have F₁ : Fr h₀ env.locals h₁ m' := by
      obtain ⟨oL, es, ep, hL, r⟩ := F'.ns
      exact ⟨⟨oL, es, ep, he₁ _ _ (Ne.symm hitL) hL, r⟩, fun b x e => he₁ b x (by rintro rfl; rw [hit0] at e; cases e) (F'.keep b x e), F'.above⟩
    exact done m' nx h₁ tk hJ F₁ fun p hp => ⟨he₁ _ _ (hne p hp) (N' p (.tail _ hp)).1, (N' p (.tail _ hp)).2⟩
end
abbrev tupOf (vs : List Value) (k : Nat) : Obj := { cls := .type "tuple", data := .seq vs.toArray k }
noncomputable def IsPair (news : List (Addr × Obj)) (e : Str × Str) (v : Value) : Prop := ∃ T t t' k, v = .ref T ∧ (T, tupOf [.str e.1 t, .str e.2 t'] k) ∈ news
theorem IsPair.sub {news news' : List (Addr × Obj)} {e : Str × Str} {v : Value} (h : IsPair news e v) (hs : ∀ p ∈ news, p ∈ news') : IsPair news' e v := by
  obtain ⟨T, t, t', k, rfl, hm⟩ := h
  exact ⟨T, t, t', k, rfl, hs _ hm⟩
section
variable {prog : Program} {w : World} {A : Around} {E : Value → Shared → Prop} {s : Shared} {h₀ : Heap} {env : Env}
theorem turn_pair {a b : Str} {pa pb tp : Pos} {kk : Nat} {T l it : Addr} {i k : Nat} {x y : Value} {o : Obj} {m : Str → Option Value} {news : List (Addr × Obj)} {Q : Unit → Shared → Prop}
    (hh : A.handled = none) (F : Fr h₀ env.locals s.heap m) (N : News h₀ env.locals s.heap ((it, o) :: news)) (ho : IterObj o l i) (hT : (T, tupOf [x, y] k) ∈ news)
    (ha : env.kindOf a = some .local) (hb : env.kindOf b = some .local) (hp : (env.scope.kind == .class || (env.scope.kind == .module && env.locals != env.globals)) = false)
    (h : ∀ (h' : Heap) (tk : Nat), Fr h₀ env.locals h' (fun z => if z = b then some y else if z = a then some x else m z) → News h₀ env.locals h' ((it, o) :: news) → Q () { s with heap := h', toks := tk }) :
    wpAny (model prog w) A (letOwnedTupleGo (.Tuple [.Name a pa, .Name b pb] kk tp) (.ref it) (.ref T)) (fun _ s' => wpAny (model prog w) A (assign (.Tuple [.Name a pa, .Name b pb] kk tp) env (.ref T)) Q E s') E s := by
  refine wpAny_letOwnedTupleGo_listiter ⟨o, (N _ (.head _)).1, ho.cls, ho.data⟩ ?_
  refine kcp_assign hh ⟨_, (N _ (.tail _ hT)).1, rfl, k, rfl⟩ ha hb hp F.ns fun h' tk hn hk => ?_
  refine h h' tk ⟨hn, fun b o e => hk b o (fun q => ?_) (F.keep b o e), F.above⟩ fun p hp => ⟨hk _ _ (N p hp).2.1 (N p hp).1, (N p hp).2⟩
  have := Heap.lt_size e
  rw [q] at this
  exact absurd (Nat.lt_of_lt_of_le this F.above) (Nat.lt_irrefl _)
theorem turn_name {x : Str} {px : Pos} {it : Addr} {v : Value} {m : Str → Option Value} {news : List (Addr × Obj)} {Q : Unit → Shared → Prop}
    (F : Fr h₀ env.locals s.heap m) (N : News h₀ env.locals s.heap news) (hx : env.kindOf x = some .local) (hp : (env.scope.kind == .class || (env.scope.kind == .module && env.locals != env.globals)) = false)
    (h : ∀ (h' : Heap) (tk : Nat), Fr h₀ env.locals h' (fun z => if z = x then some v else m z) → News h₀ env.locals h' news → Q () { s with heap := h', toks := tk }) :
    wpAny (model prog w) A (letOwnedTupleGo (.Name x px) (.ref it) v) (fun _ s' => wpAny (model prog w) A (assign (.Name x px) env v) Q E s') E s := by
  refine wpAny_of_eq (a := ()) (by rfl) ?_
  exact wpAny_assign_Name (wpAny_storeName_local hx F.ns (fun h' hn hs => h h' _ (F.set hn hs) (N.set hs)) hp)
end
section
variable {prog : Program} {w : World} {A : Around} {E : Value → Shared → Prop} {s s₁ : Shared} {h₀ : Heap} {env : Env} {Q : Flow → Shared → Prop} {target : Expr} {body : List Stmt}
theorem for_listM {l : Addr} {vs : List Value} {n : Nat} {m : Str → Option Value} {news : List (Addr × Obj)} (J : (Str → Option Value) → List (Addr × Obj) → Nat → (Str → Option Value) → List (Addr × Obj) → Prop)
    (F : Fr h₀ env.locals s₁.heap m) (N : News h₀ env.locals s₁.heap news)
    (hh : A.handled = none) (hE : PassesOwn (model prog w) A env E) (hl : ∀ i m' nx, J m news i m' nx → (l, listOf vs.toArray n) ∈ nx) (h0 : J m news 0 m news)
    (turn : ∀ (i : Nat) v m₁ nx h tk it o, vs[i]? = some v → J m news i m₁ nx → Fr h₀ env.locals h m₁ → News h₀ env.locals h ((it, o) :: nx) → (∀ p ∈ nx, p.1 ≠ it) → IterObj o l (i + 1) →
      wpAny (model prog w) A (letOwnedTupleGo target (.ref it) v) (fun _ s' => wpAny (model prog w) A (assign target env v) (fun _ s₂ => wpAny (model prog w) A (execs body env) (ForPost h₀ env.locals (J m news (i + 1)) it o { s₁ with heap := h, toks := tk } Q) E s₂) E s') E { s₁ with heap := h, toks := tk })
    (done : ∀ m₁ nx h tk, J m news vs.length m₁ nx → Fr h₀ env.locals h m₁ → News h₀ env.locals h nx → Q .next { s₁ with heap := h, toks := tk }) :
    ForAt prog w A env target body Q E (.ref l) s₁ := for_list (J m news) hh hE F N hl h0 turn done
end
theorem over2 {a b : Str} {x y p q : Option Value} {m₀ : Str → Option Value} : (fun z => if z = b then y else if z = a then x else (if z = b then q else if z = a then p else m₀ z)) = fun z => if z = b then y else if z = a then x else m₀ z := by
  funext z
  by_cases h1 : z = b <;> by_cases h2 : z = a <;> simp [h1, h2]
theorem over1 {a : Str} {x p : Option Value} {m₀ : Str → Option Value} : (fun z => if z = a then x else (if z = a then p else m₀ z)) = fun z => if z = a then x else m₀ z := by
  funext z
  by_cases h1 : z = a <;> simp [h1]
theorem over0 {a : Str} {m₀ : Str → Option Value} : m₀ = (fun z => if z = a then m₀ a else m₀ z) := by
  funext z
  by_cases h1 : z = a <;> simp [h1]
theorem over00 {a b : Str} {m₀ : Str → Option Value} : m₀ = (fun z => if z = b then m₀ b else if z = a then m₀ a else m₀ z) := by
  funext z
  by_cases h1 : z = b
  · simp [h1]
  · by_cases h2 : z = a
    · subst h2; simp [h1]
    · simp [h1, h2]
theorem find_at {α : Type} {p : α → Bool} : ∀ {es : List α} {i : Nat} {e : α}, es[i]? = some e → (∀ x ∈ es.take i, p x = false) → p e = true → es.find? p = some e
  | [], i, e, h, _, _ => by simp at h
  | a :: r, 0, e, h, _, he => by simp at h; subst h; simp [he]
  | a :: r, i + 1, e, h, hn, he => by
    have h1 : p a = false := hn a (by simp)
    rw [List.find?_cons, h1]
    exact find_at (by simpa using h) (fun x hx => hn x (by simp [hx])) he
theorem find_no {α : Type} {p : α → Bool} {es : List α} (h : ∀ x ∈ es, p x = false) : es.find? p = none := List.find?_eq_none.mpr fun x hx => by rw [h x hx]; exact Bool.false_ne_true
theorem take_more {α : Type} {es : List α} {i : Nat} {e : α} {P : α → Prop} (h : es[i]? = some e) (h1 : ∀ x ∈ es.take i, P x) (h2 : P e) : ∀ x ∈ es.take (i + 1), P x := by
  intro x hx
  rw [List.take_add_one, h] at hx
  rcases List.mem_append.mp hx with hx | hx
  · exact h1 x hx
  · have hx : x = e := by simpa using hx
    rw [hx]; exact h2
section
variable {prog : Program} {w : World} {A : Around} {E : Value → Shared → Prop} {s : Shared} {h₀ : Heap} {L l : Addr} {m : Str → Option Value} {news : List (Addr × Obj)} {vs : List Value} {n : Nat} {value slice : Expr} {Q : Value → Shared → Prop}
theorem slice_N {vl vu : Value} {lo hi : Option Int} {ws : List Value} (F : Fr h₀ L s.heap m) (N : News h₀ L s.heap news) (hm : (l, listOf vs.toArray n) ∈ news) (pl : IsPart vl lo) (pu : IsPart vu hi) (hsz : vs.length ≤ 16777216) (he : slicePick vs.toArray lo hi none = ws.toArray)
    (h : ∀ D h', Fr h₀ L h' m → News h₀ L h' ((D, listOf ws.toArray 0) :: news) → (∀ p ∈ news, p.1 < D) → Q (.ref D) { s with heap := h' })
    (hs : subscripted slice false (.ref l) (.ref s.heap.objs.size) = operate [.ref s.heap.objs.size, .ref l] (getItem (.ref l) (.ref s.heap.objs.size)) := by with_unfolding_all rfl)
    (ht : ∀ r, letTemporaryGo value (.ref l) r = pure () := by intro _; with_unfolding_all rfl) :
    wpAny (model prog w) A (subscriptTail value slice (.ref l) (.ref s.heap.objs.size)) Q E { s with heap := s.heap.push { cls := .type "slice", data := .fields #[vl, vu, .none] } } :=
  slice_list F N ⟨_, (N _ hm).1, rfl, n, rfl⟩ pl pu (fun h' F' N' => h _ h' F' (by rw [he] at N'; exact N') fun p hp => Nat.lt_succ_of_lt (Heap.lt_size (N p hp).1)) hs ht (by rw [List.size_toArray, sizeLine_eq]; exact hsz)
theorem slice_all_N (F : Fr h₀ L s.heap m) (N : News h₀ L s.heap news) (hm : (l, listOf vs.toArray n) ∈ news) (hsz : vs.length ≤ 16777216)
    (h : ∀ D h', Fr h₀ L h' m → News h₀ L h' ((D, listOf vs.toArray 0) :: news) → (∀ p ∈ news, p.1 < D) → Q (.ref D) { s with heap := h' })
    (hs : subscripted slice false (.ref l) (.ref s.heap.objs.size) = operate [.ref s.heap.objs.size, .ref l] (getItem (.ref l) (.ref s.heap.objs.size)) := by with_unfolding_all rfl)
    (ht : ∀ r, letTemporaryGo value (.ref l) r = pure () := by intro _; with_unfolding_all rfl) :
    wpAny (model prog w) A (subscriptTail value slice (.ref l) (.ref s.heap.objs.size)) Q E { s with heap := s.heap.push { cls := .type "slice", data := .fields #[.none, .none, .none] } } :=
  slice_N F N hm .none .none hsz (slicePick_all _) h hs ht
theorem slice_from_N {k : Int} {t : Tok} (F : Fr h₀ L s.heap m) (N : News h₀ L s.heap news) (hm : (l, listOf vs.toArray n) ∈ news) (hsz : vs.length ≤ 16777216) (h0 : 0 ≤ k)
    (h : ∀ D h', Fr h₀ L h' m → News h₀ L h' ((D, listOf (vs.drop k.toNat).toArray 0) :: news) → (∀ p ∈ news, p.1 < D) → Q (.ref D) { s with heap := h' })
    (hs : subscripted slice false (.ref l) (.ref s.heap.objs.size) = operate [.ref s.heap.objs.size, .ref l] (getItem (.ref l) (.ref s.heap.objs.size)) := by with_unfolding_all rfl)
    (ht : ∀ r, letTemporaryGo value (.ref l) r = pure () := by intro _; with_unfolding_all rfl) :
    wpAny (model prog w) A (subscriptTail value slice (.ref l) (.ref s.heap.objs.size)) Q E { s with heap := s.heap.push { cls := .type "slice", data := .fields #[.int k t, .none, .none] } } :=
  slice_N F N hm (.int k t) .none hsz (by obtain ⟨a, rfl⟩ := Int.eq_ofNat_of_zero_le h0; rw [slicePick_from']; rfl) h hs ht
theorem slice_upto_N {k : Int} {t : Tok} (F : Fr h₀ L s.heap m) (N : News h₀ L s.heap news) (hm : (l, listOf vs.toArray n) ∈ news) (hsz : vs.length ≤ 16777216) (h0 : 0 ≤ k)
    (h : ∀ D h', Fr h₀ L h' m → News h₀ L h' ((D, listOf (vs.take k.toNat).toArray 0) :: news) → (∀ p ∈ news, p.1 < D) → Q (.ref D) { s with heap := h' })
    (hs : subscripted slice false (.ref l) (.ref s.heap.objs.size) = operate [.ref s.heap.objs.size, .ref l] (getItem (.ref l) (.ref s.heap.objs.size)) := by with_unfolding_all rfl)
    (ht : ∀ r, letTemporaryGo value (.ref l) r = pure () := by intro _; with_unfolding_all rfl) :
    wpAny (model prog w) A (subscriptTail value slice (.ref l) (.ref s.heap.objs.size)) Q E { s with heap := s.heap.push { cls := .type "slice", data := .fields #[.none, .int k t, .none] } } :=
  slice_N F N hm .none (.int k t) hsz (by obtain ⟨a, rfl⟩ := Int.eq_ofNat_of_zero_le h0; rw [slicePick_upto']; rfl) h hs ht
theorem len_N (N : News h₀ L s.heap news) (hm : (l, listOf vs.toArray n) ∈ news) (hsz : vs.length ≤ 16777216) (h : Q (.int vs.length (s.toks + 1)) { s with toks := s.toks + 1 + 1 }) : wpAny (model prog w) A (call (.builtin "len") [.ref l]) Q E s :=
  len_list (items := vs.toArray) ⟨_, (N _ hm).1, rfl, n, rfl⟩ (by rw [List.size_toArray]; omega) (by rw [List.size_toArray]; exact h)
theorem item_N {k : Int} {u : Tok} {x : Value} (N : News h₀ L s.heap news) (hm : (l, listOf vs.toArray n) ∈ news) (h0 : 0 ≤ k) (hfit : k < 16777216) (hx : vs[k.toNat]? = some x) (h : Q x s)
    (hs : subscripted slice false (.ref l) (.int k u) = operate [.ref l, .int k u] (getItem (.ref l) (.int k u)) := by with_unfolding_all rfl) (hg : ∀ r, letTemporaryGo value (.ref l) r = pure () := by intro _; with_unfolding_all rfl) :
    wpAny (model prog w) A (subscriptTail value slice (.ref l) (.int k u)) Q E s :=
  item_list (items := vs.toArray) ⟨_, (N _ hm).1, rfl, n, rfl⟩ h0 (by omega) (by simpa using hx) h hs hg
theorem append_N {x : Value} {Q : Value → Shared → Prop} {news' : List (Addr × Obj)} (F : Fr h₀ L s.heap m) (N : News h₀ L s.heap news) (U : Upd l (listOf vs.toArray n) (listOf (vs ++ [x]).toArray (n + 1)) news news') (hsz : vs.length ≤ 16777216)
    (h : ∀ h', Fr h₀ L h' m → News h₀ L h' news' → Q .none { s with heap := h' }) : wpAny (model prog w) A (call (.builtin "list.append") [.ref l, x]) Q E s :=
  append_K (its := vs.toArray) F N (by rw [List.push_toArray]; exact U) h (by rw [List.size_toArray, sizeLine_eq]; exact hsz)
end
section
variable {prog : Program} {w : World} {A : Around} {E : Value → Shared → Prop} {s : Shared} {h₀ : Heap} {env : Env}
noncomputable def IsPairH (h : Heap) (e : Str × Str) (v : Value) : Prop := ∃ T t t' k, v = .ref T ∧ h.get? T = some (tupOf [.str e.1 t, .str e.2 t'] k)
noncomputable def PSrc (prog : Program) (w : World) (A : Around) (env : Env) (scope : Scope) (cl : List (Str × Addr)) (a b : Str) (elt : Expr) (f : Str × Str → Str) (Q : Value → Shared → Prop) (xv : Value) (s₁ : Shared) : Prop :=
  ∃ (ax : Addr) (vs : List Value) (es : List (Str × Str)), xv = .ref ax ∧ s₁.heap.IsList ax vs.toArray ∧ vs.length ≤ sizeLine ∧ Are (IsPairH s₁.heap) vs es ∧
    (∀ e t t' C mC E' s₃, e ∈ es → s₃.heap.Ns C mC → mC a = some (.str e.1 t) → mC b = some (.str e.2 t') → (∀ b o, s₁.heap.get? b = some o → s₃.heap.get? b = some o) →
      wpAny (model prog w) A (eval elt (compEnvC scope cl C env)) (fun y s₄ => IsStr (f e) y ∧ Keeps s₃ s₄) E' s₃) ∧
    (∀ D h' tk ys k, s₁.heap.get? D = none → h'.get? D = some (listOf ys.toArray k) → Are IsStr ys (es.map f) → (∀ b o, s₁.heap.get? b = some o → h'.get? b = some o) → Q (.ref D) { s₁ with heap := h', toks := tk })
theorem comp_pair (f : Str × Str → Str) {elt iter : Expr} {a b : Str} {pa pb tp : Pos} {kk : Nat} {scope : Scope} {cl : List (Str × Addr)} {pos : Pos} {Q : Value → Shared → Prop}
    (hh : A.handled = none) (hclos : closureFor scope env = pure cl) (hcell : ∀ y ∈ scope.names, y.2 ≠ .cell) (hkind : scope.kind = .function)
    (hnames : ∀ y ∈ scope.names, y.2 = .local → scope.names.lookup y.1 = some .local) (hxa : scope.names.lookup a = some .local) (hxb : scope.names.lookup b = some .local) (hab : ¬ a = b)
    (h : wpAny (model prog w) A (eval iter env) (PSrc prog w A env scope cl a b elt f Q) E s)
    (hs : ∀ x, foldedSetIterable iter env x = pure x := by intro _; rfl) :
    wpAny (model prog w) A (eval (.ListComp elt [⟨.Tuple [.Name a pa, .Name b pb] kk tp, iter, [], 0⟩] scope pos) env) Q E s := by
  rw [eval_ListComp]
  refine wpAny_comprehension_free (use := none) rfl hs hclos hkind hnames (wpAny_mono h (fun xv s₁ h₁ => ?_) fun _ _ e => e)
  obtain ⟨ax, vs, es, rfl, hl, hsz, har, helt, hQ⟩ := h₁
  refine wpAny_pyIter_list hl ?_
  have hol : ax < s₁.heap.objs.size := by obtain ⟨o, ho, _⟩ := hl; exact Heap.lt_size ho
  refine wpAny_newObj_type (wpAny_newFunctionEnv hcell (by intro y hy; simp at hy) (fun h₁ hns₁ hsb₁ => ?_) hkind) (by size_fits)
  dsimp only at hns₁ hsb₁ ⊢
  generalize hH1 : s₁.heap.push { cls := .type "list_iterator", data := .fields #[.ref ax, .int 0 0] } = H1 at hns₁ hsb₁ ⊢
  have hD : H1.objs.size = s₁.heap.objs.size + 1 := by rw [← hH1, Heap.size_push]
  generalize hH2 : H1.push { cls := .type "list", dict := none, data := .seq ([] : List Value).toArray } = H2 at hns₁ hsb₁ ⊢
  have hC : H2.objs.size = s₁.heap.objs.size + 2 := by rw [← hH2, Heap.size_push, hD]
  have hDI : H1.objs.size ≠ s₁.heap.objs.size := by rw [hD]; exact Nat.succ_ne_self _
  have hDC : H1.objs.size ≠ H2.objs.size := by rw [hD, hC]; exact Nat.ne_of_lt (Nat.lt_succ_self _)
  have hIC : s₁.heap.objs.size ≠ H2.objs.size := by rw [hC]; exact Nat.ne_of_lt (Nat.lt_succ_of_lt (Nat.lt_succ_self _))
  have below : ∀ b, b < s₁.heap.objs.size → b ≠ H2.objs.size ∧ b ≠ s₁.heap.objs.size ∧ b ≠ H1.objs.size := fun b hb =>
    ⟨by rw [hC]; exact Nat.ne_of_lt (Nat.lt_succ_of_lt (Nat.lt_succ_of_lt hb)), Nat.ne_of_lt hb, by rw [hD]; exact Nat.ne_of_lt (Nat.lt_succ_of_lt hb)⟩
  have old : ∀ b o, s₁.heap.get? b = some o → h₁.get? b = some o := fun b o e =>
    hsb₁.extBut b o (below b (Heap.lt_size e)).1 (Heap.get?_push_of_some _ (hH2 ▸ Heap.get?_push_of_some _ (hH1 ▸ Heap.get?_push_of_some _ e)))
  have hit : h₁.IsListIter s₁.heap.objs.size ax 0 :=
    ⟨_, hsb₁.extBut _ _ hIC (Heap.get?_push_of_some _ (hH2 ▸ Heap.get?_push_of_some _ (hH1 ▸ Heap.get?_push_size _ rfl))), rfl, rfl⟩
  have hacc : h₁.PlainList H1.objs.size #[] := ⟨_, hsb₁.extBut _ _ hDC (Heap.get?_push_of_some _ (hH2 ▸ Heap.get?_push_size _ rfl))⟩
  have fresh : ∀ a, s₁.heap.objs.size ≤ a → s₁.heap.get? a = none := fun a ha => by
    cases e : s₁.heap.get? a with
    | none => rfl
    | some o' => exact absurd (Heap.lt_size e) (Nat.not_lt.mpr ha)
  have hxa' : ∀ C, (compEnvC scope cl C env).kindOf a = some .local := fun C => lookup_relabel_local hxa
  have hxb' : ∀ C, (compEnvC scope cl C env).kindOf b = some .local := fun C => lookup_relabel_local hxb
  have loop : ∀ s₂ : Shared, s₂ = { s₁ with heap := h₁, toks := s₁.toks + ([] : List (Str × Value)).length } →
      codeAny (model prog w) A (.compLoop (.ListComp elt [⟨.Tuple [.Name a pa, .Name b pb] kk tp, iter, [], 0⟩] scope pos) 0 (.ref s₁.heap.objs.size) (.ref H1.objs.size) (compEnvC scope cl H2.objs.size env))
        (compPost (model prog w) A E none Q (.ref H1.objs.size) H2.objs.size) s₂ := by
    rintro s₂ rfl
    refine kcp_loop
      (fun k s' => ∃ h' tk m' i ys, s' = { s₁ with heap := h', toks := tk } ∧ h'.IsListIter s₁.heap.objs.size ax i ∧ h'.PlainList H1.objs.size (List.toArray ys) ∧ h'.Ns H2.objs.size m' ∧
        Are IsStr ys ((es.take i).map f) ∧ i ≤ vs.length ∧ k = vs.length + 1 - i ∧ (∀ b o, s₁.heap.get? b = some o → h'.get? b = some o)) ?_ (vs.length + 1)
      ⟨h₁, _, _, 0, [], rfl, hit, hacc, hns₁, by simpa using Are.nil, Nat.zero_le _, rfl, old⟩
    rintro k s' ⟨h', tk, m', i, ys, rfl, hit', hacc', hn', hF, hi, rfl, hk⟩
    have hl' : h'.IsList ax vs.toArray := hl.at fun o e => hk _ _ e
    by_cases hlt : i < vs.length
    · have hv : vs[i]? = some vs[i] := by simp [hlt]
      obtain ⟨e, hei, T, t, t', kT, hvT, hT⟩ := har.get hv
      refine wpAny_pyNext_list_item (x := vs[i]) hit' hl' (by simp) fun h₂ hit₂ hs₂ => ?_
      have hk₂ : ∀ b o, s₁.heap.get? b = some o → h₂.get? b = some o := fun b o e => hs₂.extBut b o (below b (Heap.lt_size e)).2.1 (hk b o e)
      have hn₂ : h₂.Ns H2.objs.size m' := hn'.at' fun o e => hs₂.extBut _ o (Ne.symm hIC) e
      show wpAny _ _ (letOwnedTupleGo _ _ vs[i]) _ _ _
      rw [hvT]
      refine wpAny_letOwnedTupleGo_listiter hit₂ ?_
      refine kcp_assign hh ⟨_, hk₂ _ _ hT, rfl, kT, rfl⟩ (hxa' _) (hxb' _) (by simp [compEnvC, relabel, hkind]) hn₂ fun h₃ tk₃ hn₃ hs₃ => ?_
      have hk₃ : ∀ b o, s₁.heap.get? b = some o → h₃.get? b = some o := fun b o e => hs₃ b o (below b (Heap.lt_size e)).1 (hk₂ b o e)
      refine wpAny_mono (helt e t t' _ _ _ _ (List.mem_of_getElem? hei) hn₃ (by rw [if_neg hab, if_pos rfl]) (by rw [if_pos rfl]) hk₃) (fun y s₄ h₄ => ?_) fun _ _ e => e
      obtain ⟨hy, h₄', tk₄, rfl, hk₄⟩ := h₄
      have hacc₄ : h₄'.PlainList H1.objs.size (List.toArray ys) := ((hacc'.extBut hs₂.extBut hDI).at fun o e => hs₃ _ o hDC e).at fun o e => hk₄ _ o e
      have hit₄ : h₄'.IsListIter s₁.heap.objs.size ax (i + 1) := (hit₂.at fun o e => hs₃ _ o hIC e).at fun o e => hk₄ _ o e
      have hys : ys.length = i := by rw [hF.length, List.length_map, List.length_take]; have := har.length; omega
      refine wpAny_list_append_plain (hsz := by rw [List.size_toArray]; omega) hacc₄ fun h₅ hl₅ hs₅ => ?_
      refine ⟨vs.length + 1 - (i + 1), by omega, h₅, tk₄, _, i + 1, ys ++ [y], rfl, hit₄.extBut hs₅.extBut (Ne.symm hDI), by rw [List.push_toArray] at hl₅; exact hl₅, ((hn₃.keeps hk₄).sameBut hs₅ (Ne.symm hDC)), ?_, hlt, rfl, fun b o e => hs₅.extBut b o (below b (Heap.lt_size e)).2.2 (hk₄ b o (hk₃ b o e))⟩
      rw [List.take_add_one, hei, List.map_append]
      exact hF.snoc hy
    · have hin : i = vs.length := by omega
      subst hin
      refine wpAny_pyNext_list_end hh hit' hl' (by simp) fun h₂ he₂ => ?_
      rw [har.length, List.take_length] at hF
      refine ⟨m', hn'.extBut he₂ (Ne.symm hIC), fun h₃ hs₃ => ?_⟩
      have h1 := (hacc'.extBut he₂ hDI).extBut hs₃.extBut hDC
      obtain ⟨k, hk'⟩ := h1
      exact hQ _ h₃ _ ys k (fresh _ (by rw [hD]; exact Nat.le_succ _)) hk' hF fun b o e => hs₃.extBut b o (below b (Heap.lt_size e)).1 (he₂ b o (below b (Heap.lt_size e)).2.1 (hk b o e))
  exact codeAny_compStart_list (loop _ rfl) (wpAny_pyIter_listiter hit (loop _ rfl))
end
section
variable {prog : Program} {w : World} {A : Around} {E : Value → Shared → Prop} {s s₁ : Shared} {h₀ : Heap} {L : Addr} {m : Str → Option Value} {env : Env} {news : List (Addr × Obj)}
theorem IsPair.at {h : Heap} (N : News h₀ L h news) {e : Str × Str} {v : Value} (x : IsPair news e v) : IsPairH h e v := by
  obtain ⟨T, t, t', k, rfl, hm⟩ := x
  exact ⟨T, t, t', k, rfl, (N _ hm).1⟩
theorem PSrc.ofN {a b : Str} {f : Str × Str → Str} {elt : Expr} {scope : Scope} {cl : List (Str × Addr)} {Q : Value → Shared → Prop} {ax : Addr} {vs : List Value} {es : List (Str × Str)} {n : Nat}
    (F : Fr h₀ L s₁.heap m) (N : News h₀ L s₁.heap news) (hl : (ax, listOf vs.toArray n) ∈ news) (har : Are (IsPair news) vs es) (hsz : es.length ≤ 16777216)
    (helt : ∀ e t t' C mC E' (s₃ : Shared), e ∈ es → s₃.heap.Ns C mC → mC a = some (.str e.1 t) → mC b = some (.str e.2 t') → (∀ b o, s₁.heap.get? b = some o → s₃.heap.get? b = some o) →
      wpAny (model prog w) A (eval elt (compEnvC scope cl C env)) (fun y s₄ => IsStr (f e) y ∧ Keeps s₃ s₄) E' s₃)
    (hQ : ∀ D h' tk ys k, Fr h₀ L h' m → News h₀ L h' ((D, listOf ys.toArray k) :: news) → (∀ p ∈ news, p.1 ≠ D) → Are IsStr ys (es.map f) → Q (.ref D) { s₁ with heap := h', toks := tk }) :
    PSrc prog w A env scope cl a b elt f Q (.ref ax) s₁ :=
  ⟨ax, vs, es, rfl, ⟨_, (N _ hl).1, rfl, _, rfl⟩, by rw [har.length, sizeLine_eq]; exact hsz, har.mono fun _ _ x => x.at N, helt, fun D h' tk ys k hD e hy hk =>
    let ⟨F', N', hne⟩ := fresh_news F N hD e hk
    hQ D h' tk ys k F' N' hne hy⟩
theorem comp_name {M : Model} {x : Str} {pos : Pos} {C : Addr} {mC : Str → Option Value} {v : Value} {scope : Scope} {cl : List (Str × Addr)} {Q : Value → Shared → Prop} (hn : s.heap.Ns C mC) (hv : mC x = some v) (hkind : scope.kind = .function) (hx : scope.names.lookup x = some .local) (h : Q v s)
    (hd : (x == ("__debug__" : Str)) = false := by decide) : wpAny M A (eval (.Name x pos) (compEnvC scope cl C env)) Q E s :=
  wpAny_Name (wpAny_loadName_local (env := compEnvC scope cl C env) hkind (lookup_relabel_local hx) hn hv h) hd
end
/-! a class over list: made, filled, emptied, counted -/
abbrev accObj (C dx : Addr) (vs : List Value) (n : Nat) : Obj := { cls := .ref C, dict := some dx, data := .seq vs.toArray n }
noncomputable def accIn (K : Frag) (C : Addr) : Bool := match K.lookup C with
  | some ⟨_, _, .cls cd, sl⟩ => !cd.abstract && !cd.hasDel && (sl.toList[4]?).join == some (.builtin "list.__new__") && cd.mro == [.ref C, .type "list", .type "object"] &&
      specialIn K (.ref C) "__call__" == some (some (.builtin "type.__call__")) && instIn K (.ref C) (.type "type") == some true
  | _ => false
structure Accs (M : Model) (h : Heap) (C : Addr) : Prop where
  obj : ∃ oc od cd sl, h.get? C = some ⟨oc, od, .cls cd, sl⟩ ∧ cd.hasDel = false ∧ cd.mro = [.ref C, .type "list", .type "object"]
  mro : Looks M h (mroOf (.ref C)) [.ref C, .type "list", .type "object"]
  made : Looks M h (Bind.madeBy (.ref C)) (some "list.__new__")
  base : Looks M h (Bind.staticBase (.ref C)) (.ref C)
  self : Looks M h (isSubtype (.ref C) (.ref C)) true
  lst : Looks M h (isSubtype (.ref C) (.type "list")) true
  call : Looks M h (specialOf (.ref C) "__call__") (some (.builtin "type.__call__"))
  typ : Looks M h (isInstance (.ref C) (.type "type")) true
theorem accs_of {K : Frag} {M : Model} {h : Heap} (X : K.In h) {C : Addr} (e : accIn K C = true) : Accs M h C := by
  unfold accIn at e
  split at e
  · rename_i oc od cd sl ho
    simp only [Bool.and_eq_true, Bool.not_eq_true', beq_iff_eq] at e
    obtain ⟨⟨⟨⟨⟨e1, e2⟩, e3⟩, e4⟩, e7⟩, e8⟩ := e
    have hc : clsIn K C = some cd := by unfold clsIn; rw [ho]
    have hm : Looks M h (mroOf (.ref C)) [.ref C, .type "list", .type "object"] := e4 ▸ (looks_clsIn X hc).andThen .now
    have made : Looks M h (Bind.madeBy (.ref C)) (some "list.__new__") := by
      intro A Q E s k q
      unfold Bind.madeBy
      refine wpAny_bind (hm A _ E s k ?_)
      rw [List.forIn_cons]
      refine wpAny_bind (wpAny_bind (wpAny_bind (wpAny_bind (wpAny_loadPart (k _ _ (X _ _ ho)) (wpAny_pure ?_)))))
      dsimp only
      rw [← Array.getElem?_toList, e3]
      exact wpAny_pure (wpAny_pure (wpAny_pure q))
    refine ⟨⟨oc, od, cd, sl, X _ _ ho, e2, e4⟩, hm, made, ?_, looks_mroIn X ?_, looks_mroIn X ?_, looks_specialIn X e7, looks_instIn X e8⟩
    · intro A Q E s k q
      unfold Bind.staticBase
      refine wpAny_bind (hm A _ E s k ?_)
      rw [List.forIn_cons]
      exact wpAny_bind (wpAny_bind (wpAny_bind (made A _ E s k (wpAny_pure (wpAny_pure (wpAny_pure q))))))
    · unfold mroIn; rw [hc, Option.bind_some, e4]; simp
    · unfold mroIn; rw [hc, Option.bind_some, e4]; simp
  · cases e
theorem ln_split : splitId "list.__new__" = some ("list", "__new__") := by decide +kernel
theorem ln_kind : builtinKind "list.__new__" = some .builtinFn := by decide +kernel
theorem ln_args (C : Addr) : argsOk "list.__new__" ⟨[.ref C], []⟩ := by unfold argsOk; kernel_rfl
theorem ln_sig (C : Addr) : Manifest.signature? "list.__new__" = none ∨ ∃ sig, Manifest.signature? "list.__new__" = some sig ∧ Bind.checkArgs "list.__new__" sig ⟨[.ref C], []⟩ = pure () := by
  have ha := ln_args C
  cases hsig : Manifest.signature? "list.__new__" with
  | none => exact .inl rfl
  | some sig =>
    simp only [argsOk, hsig] at ha
    exact .inr ⟨sig, rfl, ha⟩
section
variable {prog : Program} {w : World} {A : Around} {K : Frag} {C : Addr} {R : Result → Shared → Prop} {h : Heap} {g : Array GenState} {d : Drawn} {t : Nat} {os : OsState}
theorem acc_new (Y : Accs (model prog w) h C)
    (hq : R (.ok (.ret (.ref (h.objs.size + 1)))) ⟨(h.push emptyDict).push (accObj C h.objs.size [] 0), g, d, t, os⟩) :
    codeAny (model prog w) A (.call (.builtin "list.__new__") ⟨[.ref C], []⟩) R ⟨h, g, d, t, os⟩ := by
  obtain ⟨⟨oc, od, cd, sl, hC, e2, e4⟩, hm, made, base, self, lst, call, typ⟩ := Y
  refine codeAny_of_tree ?_
  show wpAny _ A.in1 (do checkBuiltinCall "list.__new__" ⟨[.ref C], []⟩; again (.builtin "list.__new__" ⟨[.ref C], []⟩)) _ _ _
  have body : codeAny (model prog w) A (Code.builtin "list.__new__" ⟨[.ref C], []⟩) R ⟨h, g, d, t, os⟩ := by
    refine codeAny_builtin_stack F.entry_list_new rfl fun p st => ?_
    rw [Around.under_plainId F.plain_list_new _]
    have hown := owner_list_new
    simp only [hown]
    repeat (first | simp only [bne_self_eq_false, Bool.false_eq_true, if_false] | lk)
    refine nd_load (Heap.get?_push_of_some _ (Heap.get?_push_of_some _ hC)) ?_
    refine wpAny_pure (wpAny_pure ?_)
    rw [e2, if_neg Bool.false_ne_true]
    refine wpAny_pure ?_
    refine wpAny_pure ?_
    show R _ _
    rw [Heap.size_push]
    exact hq
  rcases ln_sig C with hs1 | ⟨sig, hs1, hs2⟩
  · simp only [checkBuiltinCall, ln_kind, ln_split, hs1]
    repeat (first | simp only [bne_self_eq_false, Bool.false_eq_true, if_false] | lk)
    exact ⟨plainId_quiet F.plain_list_new _, body⟩
  · simp only [checkBuiltinCall, ln_kind, ln_split, hs1, hs2]
    repeat (first | simp only [bne_self_eq_false, Bool.false_eq_true, if_false] | lk)
    exact ⟨plainId_quiet F.plain_list_new _, body⟩
theorem acc_core {fI : Addr} (Y : Accs (model prog w) h C) (hi : Looks (model prog w) h (typeLookup (.ref C) "__init__") (some (.ref fI)))
    (hb : ∀ self, Looks (model prog w) h (bindSpecial (.ref fI) self) (.ref fI, [self]))
    (hq : codeAny (model prog w) (A.under (.builtin "type.__call__" ⟨[.ref C], []⟩)) (.call (.ref fI) ⟨[.ref (h.objs.size + 1)], []⟩) (InitBack (h.objs.size + 1) R) ⟨(h.push emptyDict).push (accObj C h.objs.size [] 0), g, d, t, os⟩) :
    codeAny (model prog w) A (.call (.ref C) ⟨[], []⟩) R ⟨h, g, d, t, os⟩ := by
  have Y' := Y
  obtain ⟨⟨oc, od, cd, sl, hC, e2, e4⟩, hm, made, base, self, lst, call, typ⟩ := Y
  refine codeAny_of_tree ?_
  show wpAny _ _ (callAny (.ref C) _) _ _ _
  refine nd_load hC ?_
  show wpAny _ _ (callAny.viaDunder (.ref C) _) _ _ _
  unfold callAny.viaDunder
  refine wpAny_bind (call.at ?_)
  dsimp only
  rw [tc_bind]
  refine wpAny_bind (wpAny_pure (wpAny_bind (wpAny_pure ?_)))
  refine wpAny_pure (a := Fin.again (.call (.builtin "type.__call__") ⟨[.ref C], []⟩)) (And.intro rfl ?_)
  refine codeAny_call_builtin_at (Code.quiet_builtin _ (by decide +kernel)) entry_typeCall (check_slot tc_kind tc_split typ (tc_args _ _ _) ?_)
  unfold Builtin.«type.__call__»
  repeat (first | simp only [Bool.false_eq_true, if_false] | with_reducible refine wpAny_call ?_ | lk)
  refine acc_new Y' ?_
  have k : ∀ b o, h.get? b = some o → ((h.push emptyDict).push (accObj C h.objs.size [] 0)).get? b = some o := fun b o e => Heap.get?_push_of_some _ (Heap.get?_push_of_some _ e)
  have hx : ((h.push emptyDict).push (accObj C h.objs.size [] 0)).get? (h.objs.size + 1) = some (accObj C h.objs.size [] 0) := by heap_get
  have t1 : Looks (model prog w) ((h.push emptyDict).push (accObj C h.objs.size [] 0)) (typeOf (.ref (h.objs.size + 1))) (.ref C) := (Looks.ld hx).andThen .now
  have s1 := self.keeps k
  have i1 := hi.keeps k
  have b1 := (hb (.ref (h.objs.size + 1))).keeps k
  unfold isInstance callSpecial? specialOf
  repeat (first | with_reducible refine wpAny_call ?_ | lk)
  refine codeAny_mono hq fun r s' z => ?_
  rcases r with e | (v | _ | _ | _) <;> first | exact z | exact z.elim | skip
  obtain ⟨rfl, z⟩ := z
  exact wpAny_pure (wpAny_pure z)
end
section
variable {prog : Program} {w : World} {A : Around} {E : Value → Shared → Prop} {K : Frag} {C : Addr} {s : Shared} {h₀ : Heap} {L : Addr} {m : Str → Option Value} {news : List (Addr × Obj)} {Q : Value → Shared → Prop}
theorem call_acc {fI : Addr} (F : Fr h₀ L s.heap m) (X₀ : K.In h₀) (N : News h₀ L s.heap news) (hm : accIn K C = true) (hi : findIn K (.ref C) "__init__" = some (some (.ref fI))) (hf : isFn K (.ref fI) = true)
    (h : ∀ x dx h', Fr h₀ L h' m → News h₀ L h' ((x, accObj C dx [] 0) :: (dx, dictOf [] 0) :: news) → (∀ p ∈ news, p.1 < dx) → @LT.lt Nat _ dx x →
      codeAny (model prog w) (A.under (.builtin "type.__call__" ⟨[.ref C], []⟩)) (.call (.ref fI) ⟨[.ref x], []⟩) (InitBack x fun r s' => match r with | .ok (.ret v) => Q v s' | .ok _ => False | .error e => E e s') { s with heap := h' }) :
    wpAny (model prog w) A (call (.ref C) [] []) Q E s := by
  obtain ⟨hh, g, d, t, os⟩ := s
  have X := X₀.keeps F.keep
  refine wpAny_call (acc_core (accs_of X hm) (looks_findIn X hi) (fun self => bind_fn X self (beq_iff_eq.mp hf)) (h _ hh.objs.size _ ((F.push _).push _) ?_ (fun p hp => Heap.lt_size (N p hp).1) (Nat.lt_succ_self _)))
  have := (N.push F emptyDict).push (F.push _) (accObj C hh.objs.size [] 0)
  rwa [Heap.size_push] at this
end
theorem inst_acc {h₀ h : Heap} {L x C dx : Addr} {news : List (Addr × Obj)} {od : Obj} {vs : List Value} {n : Nat} (N : News h₀ L h news) (h1 : (x, accObj C dx vs n) ∈ news) (h2 : (dx, od) ∈ news) :
    W.InstAt h x (accObj C dx vs n) C (some od) := ⟨(N _ h1).1, rfl, rfl, (N _ h2).1⟩
/-! super() over a built-in: the wrapper, its call -/
abbrev wrapObj (id : String) (x : Addr) : Obj := { cls := .type "method-wrapper", data := .fields #[.builtin id, .ref x] }
theorem slot_wd_get : Slot "wrapper_descriptor" "__get__" "wrapper_descriptor.__get__" :=
  .of (owner := "wrapper_descriptor") (n := "__get__") (by rw [typeLookup_type, builtinLookup_eq_fast]; kernel_rfl) (by decide +kernel) (by decide +kernel) (by decide +kernel)
    (by first | exact .inl (by decide +kernel) | exact .inr (by decide +kernel)) (by rw [isSubtype_type]; kernel_rfl)
theorem entry_wd_get : entryFor table "wrapper_descriptor.__get__" = some Builtin.«wrapper_descriptor.__get__» := entryFor_of_tree (by kernel_rfl)
theorem args_wd_get (a b c : Value) : argsOk "wrapper_descriptor.__get__" ⟨[a, b, c], []⟩ := by unfold argsOk; kernel_rfl
section
variable {prog : Program} {w : World} {A : Around} {E : Value → Shared → Prop} {h : Heap} {g : Array GenState} {d : Drawn} {t : Nat} {os : OsState}
theorem wd_get {x C : Addr} {id : String} {Q : Value → Shared → Prop} (ht : typeOf (.builtin id) = pure (.type "wrapper_descriptor")) (hown : (".".intercalate (id.cutAt '.').dropLast) = "list")
    (hT : Looks (model prog w) h (isInstance (.ref x) (.type "list")) true)
    (hq : Q (.ref h.objs.size) ⟨h.push (wrapObj id x), g, d, t, os⟩) :
    wpAny (model prog w) A (call (.builtin "wrapper_descriptor.__get__") [.builtin id, .ref x, .ref C]) Q E ⟨h, g, d, t, os⟩ := by
  refine wpAny_call_entry slot_wd_get ht entry_wd_get ?_ (args_wd_get _ _ _)
  unfold Builtin.«wrapper_descriptor.__get__»
  iterate 17 lk
  rw [hown]
  repeat lk
  exact ⟨_, rfl, hq⟩
theorem super_ga {so D x C : Addr} {id : String} {l₀ l : List Value} {K : Frag} {name : Str} {tk : Tok} {Q : Fin → Shared → Prop}
    (hso : h.get? so = some { cls := .type "super", dict := none, data := .fields #[.ref D, .ref x, .ref C], slots := #[] }) (hno : Looks (model prog w) h (opaqueClassAbove (.ref C)) none)
    (hC : Looks (model prog w) h (mroOf (.ref C)) l₀) (hl : (l₀.dropWhile (· != .ref D)).drop 1 = l) (X : K.In h)
    (hf : alongIn K name l = some (some (.builtin id))) (ht : typeOf (.builtin id) = pure (.type "wrapper_descriptor")) (hown : (".".intercalate (id.cutAt '.').dropLast) = "list")
    (hT : Looks (model prog w) h (isInstance (.ref x) (.type "list")) true) (hxC : x ≠ C) (hn : (name == ("__class__" : Str)) = false)
    (hq : Q (.done (.ret (.ref h.objs.size))) ⟨h.push (wrapObj id x), g, d, t, os⟩) :
    wpAny (model prog w) A (Builtin.«super.__getattribute__» ⟨[.ref so, .str name tk], []⟩) Q E ⟨h, g, d, t, os⟩ := by
  have hne : (Value.ref x == Value.ref C) = false := by simp [hxC]
  have hlk := slot_wd_get.lookup
  have hdt : ({ cls := .type "super", dict := none, data := .fields #[.ref D, .ref x, .ref C], slots := #[] } : Obj).data = .fields #[.ref D, .ref x, .ref C] := rfl
  have f0 : (#[.ref D, .ref x, .ref C] : Array Value)[0]? = some (.ref D) := rfl
  have f1 : (#[.ref D, .ref x, .ref C] : Array Value)[1]? = some (.ref x) := rfl
  have f2 : (#[.ref D, .ref x, .ref C] : Array Value)[2]? = some (.ref C) := rfl
  unfold Builtin.«super.__getattribute__»
  repeat (first
    | (with_reducible refine wpAny_field hso hdt f0 ?_) | (with_reducible refine wpAny_field hso hdt f1 ?_) | (with_reducible refine wpAny_field hso hdt f2 ?_)
    | (with_reducible refine ks_wpAny_notOpaque hno ?_)
    | (with_reducible refine Looks.at hC ?_; rw [hl])
    | (refine ks_forIn_along X (fun _ _ => rfl) rfl ?_ hf)
    | (with_reducible refine wpAny_of_eq ht ?_)
    | (with_reducible refine wd_get ht hown hT ?_)
    | (simp only [hn, hne, Bool.or_false, Bool.false_eq_true, if_false])
    | wp_step
    | dsimp only)
  all_goals exact hq
theorem super_method {so D x C : Addr} {id : String} {l₀ l : List Value} {K : Frag} {name : Str} {pl : Sem Bool} {Q : Value × List Value → Shared → Prop}
    (hso : h.get? so = some { cls := .type "super", dict := none, data := .fields #[.ref D, .ref x, .ref C], slots := #[] }) (hno : Looks (model prog w) h (opaqueClassAbove (.ref C)) none)
    (hC : Looks (model prog w) h (mroOf (.ref C)) l₀) (hl : (l₀.dropWhile (· != .ref D)).drop 1 = l) (X : K.In h)
    (hf : alongIn K name l = some (some (.builtin id))) (ht : typeOf (.builtin id) = pure (.type "wrapper_descriptor")) (hown : (".".intercalate (id.cutAt '.').dropLast) = "list")
    (hT : Looks (model prog w) h (isInstance (.ref x) (.type "list")) true) (hxC : x ≠ C) (hn : (name == ("__class__" : Str)) = false)
    (hq : Q (.ref h.objs.size, []) ⟨h.push (wrapObj id x), g, d, t + 1, os⟩) :
    wpAny (model prog w) A (getMethod (.ref so) name pl) Q E ⟨h, g, d, t, os⟩ := by
  have hlk := F.ks_slot_super_ga.lookup
  have hcan := F.ks_canon_super_ga
  have hS : ∀ t', (⟨h, g, d, t', os⟩ : Shared).TypeIs (.ref so) "super" := fun _ => ⟨_, hso, rfl⟩
  unfold getMethod
  refine wpAny_bind (wpAny_specialOf (hS _) hlk ?_)
  show wpAny _ _ (if (Manifest.canonical "super.__getattribute__" != "object.__getattribute__") = true then _ else _) _ _ _
  rw [if_pos hcan]
  unfold getAttr getAttrBy
  refine wpAny_bind (wpAny_bind (wpAny_mkText (wpAny_holding (wpAny_bind (wpAny_typeOf (hS _) (wpAny_bind (wpAny_of_eq hlk ?_)))))))
  show wpAny _ _ (getAttrByItsOwn (.ref so) (.str name t) (.type "super") (.builtin "super.__getattribute__") true false) _ _ _
  unfold getAttrByItsOwn hookBefore callGetattribute boundAndCalled
  refine wpAny_bind (wpAny_of_eq (show (if onTheHeap (.type "super") then typeLookup (.type "super") "__getattr__" else pure none) = pure none from rfl) ?_)
  refine wpAny_bind (wpAny_attempt (wpAny_holding ?_))
  show wpAny _ _ (bindSpecial (.builtin "super.__getattribute__") (.ref so) >>= _) _ _ _
  refine wpAny_bind (wpAny_of_eq (F.ks_slot_super_ga.bind _) ?_)
  refine wpAny_mono (Q := fun v s' => v = .ref h.objs.size ∧ s' = ⟨h.push (wrapObj id x), g, d, t + 1, os⟩) (E := fun _ _ => False)
    (wpAny_call_entry F.ks_slot_super_ga (hS _) F.ks_entry_super_ga (super_ga hso hno hC hl X hf ht hown hT hxC hn ⟨_, rfl, rfl, rfl⟩) (F.ks_gaArgs_super _ _)) (fun v s' hv => ?_) fun _ _ z => z.elim
  obtain ⟨rfl, rfl⟩ := hv
  exact wpAny_pure (wpAny_pure hq)
end
section
open PySem.Builtin
variable {prog : Program} {w : World} {A : Around} {E : Value → Shared → Prop} {s : Shared} {h₀ : Heap} {L : Addr} {m : Str → Option Value} {news : List (Addr × Obj)}
theorem entry_list_len' : entryFor table "list.__len__" = some Builtin.«list.__len__» := entryFor_of_tree (by kernel_rfl)
theorem bound_len {M : Model} {x : Addr} {Q : Unit → Shared → Prop} (h : Q () s) : wpAny M A (checkBoundCall "list.__len__" ⟨[.ref x], []⟩) Q E s := wpAny_of_eq (a := ()) (by kernel_rfl) h
theorem bound_init {M : Model} {x : Addr} {Q : Unit → Shared → Prop} (h : Q () s) : wpAny M A (checkBoundCall "list.__init__" ⟨[.ref x], []⟩) Q E s := wpAny_of_eq (a := ()) (by kernel_rfl) h
theorem wrap_len {q x C dx : Addr} {vs : List Value} {n : Nat} {Q : Value → Shared → Prop} (N : News h₀ L s.heap news) (hq : (q, wrapObj "list.__len__" x) ∈ news) (hx : (x, accObj C dx vs n) ∈ news)
    (h : Q (.int vs.length s.toks) { s with toks := s.toks + 1 }) : wpAny (model prog w) A (call (.ref q) [] []) Q E s := by
  obtain ⟨hh, g, d, t, os⟩ := s
  have h1 : hh.get? q = some (wrapObj "list.__len__" x) := (N _ hq).1
  have h2 : hh.get? x = some (accObj C dx vs n) := (N _ hx).1
  refine wpAny_call (codeAny_of_tree ?_)
  show wpAny _ _ (callAny (.ref q) _) _ _ _
  refine nd_load h1 ?_
  repeat (first | with_reducible refine bound_len ?_ | lk)
  refine ⟨plainId_quiet (id := "list.__len__") (by decide +kernel) _, ?_⟩
  show codeAny _ _ (Code.builtin "list.__len__" ⟨[.ref x], []⟩) _ _
  refine codeAny_builtin entry_list_len' ?_
  unfold Builtin.«list.__len__»
  repeat lk
  rw [List.size_toArray]
  exact h
theorem wrap_init {q x C dx : Addr} {n : Nat} {Q : Value → Shared → Prop} (F : Fr h₀ L s.heap m) (N : News h₀ L s.heap news) (hq : (q, wrapObj "list.__init__" x) ∈ news) (hx : (x, accObj C dx [] n) ∈ news)
    (h : ∀ h', Fr h₀ L h' m → News h₀ L h' news → Q .none { s with heap := h' }) : wpAny (model prog w) A (call (.ref q) [] []) Q E s := by
  obtain ⟨hh, g, d, t, os⟩ := s
  have h1 : hh.get? q = some (wrapObj "list.__init__" x) := (N _ hq).1
  have h2 : hh.get? x = some (accObj C dx [] n) := (N _ hx).1
  have same : ∀ b, (hh.update x (Obj.mapSeq fun _ => #[])).get? b = hh.get? b := fun b => by
    by_cases e : b = x
    · subst e; rw [h2]; exact Heap.get?_update_self _ h2 rfl
    · exact Heap.get?_update_ne _ _ _ _ e
  have F' : Fr h₀ L (hh.update x (Obj.mapSeq fun _ => #[])) m := by
    obtain ⟨oL, es, ep, hL, r⟩ := F.ns
    exact ⟨⟨oL, es, ep, (same _).trans hL, r⟩, fun b o e => (same b).trans (F.keep b o e), F.above⟩
  have N' : News h₀ L (hh.update x (Obj.mapSeq fun _ => #[])) news := fun p hp => ⟨(same _).trans (N p hp).1, (N p hp).2⟩
  refine wpAny_call (codeAny_of_tree ?_)
  show wpAny _ _ (callAny (.ref q) _) _ _ _
  refine nd_load h1 ?_
  repeat (first | with_reducible refine bound_init ?_ | lk)
  refine ⟨plainId_quiet (id := "list.__init__") (by decide +kernel) _, ?_⟩
  show codeAny _ _ (Code.builtin "list.__init__" ⟨[.ref x], []⟩) _ _
  refine codeAny_builtin PySem.F.entry_list_init ?_
  unfold Builtin.«list.__init__»
  repeat lk
  refine wpAny_update (f := Obj.mapSeq fun _ => #[]) h2 ?_
  refine wpAny_lookBehind ((same x).trans h2) (pastItsLine_seq (Nat.zero_le _)) ?_
  refine wpAny_bind (wpAny_letGo ?_)
  repeat lk
  exact h _ F' N'
end
section
open PySem.Builtin PySem.Builtin.ObjectAttr
theorem refuse_list (self : Value) (C : Addr) : refuseLoop self "__setattr__" [.ref C, .type "list", .type "object"] = pure () := by
  rw [refuseLoop_ref]; kernel_rfl
variable {prog : Program} {w : World} {A : Around} {E : Value → Shared → Prop} {R : Result → Shared → Prop} {s : Shared} {K : Frag} {x C dx L : Addr} {h₀ : Heap} {m : Str → Option Value} {news news' : List (Addr × Obj)} {name : Str} {v : Value}
theorem acc_open {ox : Obj} {od : Option Obj} {tk : Tok} {r : Option Value} (X : K.In s.heap) (I : W.InstAt s.heap x ox C od) (hp : accIn K C = true) (ht : takerIn K C name = some r)
    (h : ∀ b, wpAny (model prog w) A.in1 (match r with | some a => setByDescriptor a (.ref x) v | none => storeInOwnDict (.ref x) (.ref C) (.str name tk) name v b)
      (fun fin s' => match fin with | .done f => R (.ok f) s' | .again c' => c'.quiet = true ∧ codeAny (model prog w) A c' R s') (fun e s' => R (.error e) s') s) :
    codeAny (model prog w) A (.call (.builtin "object.__setattr__") ⟨[.ref x, .str name tk, v], []⟩) R s := by
  have SF := PySem.F.store_object
  have Y := accs_of (M := model prog w) X hp
  have sub : Looks (model prog w) s.heap (isInstance (.ref x) (.type "object")) true := I.type.andThen (by
    intro A Q E s k q
    refine Looks.at (looks_mroIn (X.keeps k) (C := C) (base := .type "object") (r := true) ?_) q
    unfold accIn at hp
    split at hp
    · rename_i oc od cd sl ho
      simp only [Bool.and_eq_true, Bool.not_eq_true', beq_iff_eq] at hp
      unfold mroIn clsIn
      rw [ho]
      simp [hp.1.1.2]
    · cases hp)
  refine codeAny_call_builtin SF.slot.plain SF.entry (@check_slot (model prog w) _ _ s "object.__setattr__" "object" "__setattr__" (.ref x) [.str name tk, v] [] _ SF.kind SF.split sub (SF.args (.ref x) (.str name tk) v) ?_)
  obtain ⟨attr, ha, hr⟩ := Option.bind_eq_some_iff.mp ht
  have L3 : Looks (model prog w) s.heap (storeTaker? attr) r := by
    cases attr with
    | none => cases hr; exact .now
    | some a =>
      obtain ⟨b, hb, rfl⟩ := Option.map_eq_some_iff.mp hr
      refine (looks_takesIn X hb).andThen ?_
      cases b <;> exact .now
  rw [osa_eq, refuse_eq]
  refine wpAny_bind (wpAny_bind (I.type.here (wpAny_bind (Y.mro.here ?_))))
  rw [refuse_list]
  refine wpAny_pure (wpAny_bind (I.type.here (wpAny_bind ((looks_findIn X ha).here (wpAny_bind (L3.here ?_))))))
  exact h _
theorem acc_dict {vs : List Value} {k : Nat} {od od' : Obj} {tk : Tok} {pre post : List (Addr × Obj)} {es : List DictEntry} {n : Nat} (F : Fr h₀ L s.heap m) (N : News h₀ L s.heap (pre ++ (dx, od) :: post)) (X : K.In s.heap)
    (hx : (x, accObj C dx vs k) ∈ pre ++ (dx, od) :: post) (hp : accIn K C = true) (ht : takerIn K C name = some none) (hh : hasDictIn K C = true)
    (hl : (lookIn name od).isSome = true) (h1 : ∀ p ∈ pre, p.1 ≠ dx) (h2 : ∀ p ∈ post, p.1 ≠ dx)
    (e : Obj.putName name (PyData.keyHash w.params name) (.str name s.toks) v od = od') (e' : od'.data = .dict es.toArray n) (hz : es.length ≤ 1000)
    (h : ∀ h', Fr h₀ L h' m → News h₀ L h' (pre ++ (dx, od') :: post) → R (.ok (.ret .none)) { s with heap := h', toks := s.toks + 1 }) :
    codeAny (model prog w) A (.call (.builtin "object.__setattr__") ⟨[.ref x, .str name tk, v], []⟩) R s := by
  have I := inst_acc (od := od) N hx (by simp)
  refine acc_open X I hp ht fun b => ?_
  obtain ⟨cd, hc, hd'⟩ := any_some hh
  obtain ⟨U1, U2⟩ := news_upd (f := Obj.putName name (PyData.keyHash w.params name) (.str name s.toks) v) F N h1 h2 e (by obtain ⟨_, _, dd, _⟩ := od'; cases e'; rfl)
  have D := (N (dx, od) (by simp)).1
  have D' := (U2 (dx, od') (by simp)).1
  have hxx := (N _ hx).1
  refine wpAny_bind (wpAny_pure (wpAny_bind (wpAny_bind (wpAny_loadPart hxx (wpAny_bind ((looks_clsIn X hc).here ?_))))))
  rw [hd']
  refine wpAny_pure (a := some dx) (wpAny_bind (wpAny_pure (wpAny_bind ?_)))
  unfold nsSet
  refine wpAny_bind (wpAny_bind (wpAny_askSetting (wpAny_pure (wpAny_bind (wpAny_mkText (wpAny_bind (wpAny_loadPart D ?_)))))))
  unfold lookIn at hl
  split at hl
  · rename_i es₀ n₀ q
    rw [q]
    dsimp only
    have c : (!es₀.any (·.key.isStr name) && es₀.any (·.refKey)) = false := by
      rw [← Array.any_toList, ← Array.any_toList]
      split at hl
      · rename_i en he
        rw [List.any_eq_true.mpr ⟨en, List.mem_of_find?_eq_some he, List.find?_some he⟩]; rfl
      · split at hl
        · cases hl
        · rename_i z; rw [Bool.not_eq_true] at z; rw [z, Bool.and_false]
    rw [aRefKeyMayBeTheName_at, c]
    refine wpAny_updatePart D ?_
    refine wpAny_bind (wpAny_lookBehind D' (by rw [e']; exact pastItsLine_dict (by rw [List.size_toArray, sizeLine_eq]; omega)) ?_)
    exact wpAny_pure (h _ U1 U2)
  · cases hl
theorem set_acc {vs : List Value} {k n n' : Nat} {es es' : List DictEntry} {Q : Unit → Shared → Prop} (F : Fr h₀ L s.heap m) (X₀ : K.In h₀) (N : News h₀ L s.heap news) (hx : (x, accObj C dx vs k) ∈ news) (hd : (dx, dictOf es n) ∈ news)
    (hs : findIn K (.ref C) "__setattr__" = some (some (.builtin "object.__setattr__"))) (hp : accIn K C = true) (ht : takerIn K C name = some none) (hh : hasDictIn K C = true) (hl : (getL name es).isSome = true)
    (e : (putL name (PyData.keyHash w.params name) (.str name (s.toks + 1)) v es, putN name es n) = (es', n')) (U : Upd dx (dictOf es n) (dictOf es' n') news news') (hz : es'.length ≤ 1000)
    (h : ∀ h', Fr h₀ L h' m → News h₀ L h' news' → Q () { s with heap := h', toks := s.toks + 2 }) :
    wpAny (model prog w) A (setAttr (.ref x) name v) Q E s := by
  obtain ⟨pre, post, rfl, rfl, a, b⟩ := U.split
  obtain ⟨e1, e2⟩ := Prod.mk.inj e
  exact set_plain (X₀.keeps F.keep) (inst_acc N hx hd) hs (acc_dict (s := { s with toks := s.toks + 1 }) F N (X₀.keeps F.keep) hx hp ht hh hl a b (by rw [putName_dict, e1, e2]) rfl hz fun h' F' N' => h h' F' N')
end
section
variable {prog : Program} {w : World} {M : Model} {A : Around} {E : Value → Shared → Prop} {s : Shared} {K : Frag} {x C D dx L q so : Addr} {h₀ : Heap} {m : Str → Option Value} {news : List (Addr × Obj)}
theorem keeps_wrap {id : String} (h : Heap) (X : h.get? q = some (wrapObj id x)) : ∃ k, (k = Keeper.frame ∨ k = Keeper.machine ∨ k = Keeper.boundFrame) ∧ Looks M h (keeperOf (.ref q)) k := by
  refine ⟨.machine, .inr (.inl rfl), ?_⟩
  intro A Q E s k hq
  unfold keeperOf
  refine wpAny_bind (wpAny_load (k _ _ X) ?_)
  exact wpAny_pure hq
theorem callWith_wrap {id : String} {pos : Pos} {env : Env} {Q : Value → Shared → Prop} (N : News h₀ L s.heap news) (hq : (q, wrapObj id x) ∈ news) (h : wpAny M A (call (.ref q) [] []) Q E s) :
    wpAny M A (callWith pos (.ref q) [] (backTo pos (starEach [] env)) []) Q E s :=
  callWith_of (P := fun h => h.get? q = some (wrapObj id x)) rfl (fun h X => keeps_wrap h X) (evalArgs_nil3 ⟨(N _ hq).1, h⟩)
theorem method_super {vs : List Value} {n : Nat} {id : String} {name : Str} {pl : Sem Bool} {Q : Value × List Value → Shared → Prop} (F : Fr h₀ L s.heap m) (X₀ : K.In h₀) (N : News h₀ L s.heap news) (hso : (so, ks_superObj C x C) ∈ news) (hx : (x, accObj C dx vs n) ∈ news)
    (hp : accIn K C = true) (ho : nsIn K cStatics "thirdparty.any" = some none) (hm : ks_superIn K C C name = some (some (.builtin id))) (ht : typeOf (.builtin id) = pure (.type "wrapper_descriptor")) (hown : (".".intercalate (id.cutAt '.').dropLast) = "list")
    (hn : (name == ("__class__" : Str)) = false)
    (h : ∀ q h', Fr h₀ L h' m → News h₀ L h' ((q, wrapObj id x) :: news) → (∀ p ∈ news, p.1 < q) → Q (.ref q, []) { s with heap := h', toks := s.toks + 1 }) : wpAny (model prog w) A (getMethod (.ref so) name pl) Q E s := by
  have X : K.In s.heap := X₀.keeps F.keep
  obtain ⟨hh, g, d, t, os⟩ := s
  have Y := accs_of (M := model prog w) X hp
  cases hc : clsIn K C with
  | none => unfold ks_superIn at hm; rw [hc] at hm; cases hm
  | some cd =>
    unfold ks_superIn at hm
    rw [hc] at hm
    have hxg : hh.get? x = some (accObj C dx vs n) := (N _ hx).1
    have hT : Looks (model prog w) hh (isInstance (.ref x) (.type "list")) true := ((Looks.ld hxg).andThen .now).andThen Y.lst
    have hxC : x ≠ C := by
      rintro rfl
      obtain ⟨oc, od, cd', sl, hC, _⟩ := Y.obj
      dsimp only at hC
      rw [hxg] at hC
      cases hC
    refine super_method (N _ hso).1 (looks_opaque X ho) (l₀ := cd.mro) ?_ rfl X hm ht hown hT hxC hn ?_
    · exact fun A Q E s k q => wpAny_bind ((looks_clsIn X hc) A _ E s k (wpAny_pure q))
    · obtain ⟨F', N', l'⟩ := ks_newsPush (s := ⟨hh, g, d, t, os⟩) (o := wrapObj id x) F N rfl (Heap.get?_push_at rfl rfl) (fun b o e => Heap.get?_push_of_some _ e)
      exact h _ _ F' N' l'
theorem type_li : typeOf (.builtin "list.__init__") = pure (.type "wrapper_descriptor") := by show builtinType _ = _; rw [builtinType_eq_fast]; kernel_rfl
theorem type_ll : typeOf (.builtin "list.__len__") = pure (.type "wrapper_descriptor") := by show builtinType _ = _; rw [builtinType_eq_fast]; kernel_rfl
theorem own_li : (".".intercalate ("list.__init__".cutAt '.').dropLast) = "list" := by decide +kernel
theorem own_ll : (".".intercalate ("list.__len__".cutAt '.').dropLast) = "list" := by decide +kernel
end
/-! a class over list: its methods, its slices -/
section
open PySem.Builtin
variable {prog : Program} {w : World} {A : Around} {E : Value → Shared → Prop} {s : Shared} {K : Frag} {x C dx L l : Addr} {h₀ : Heap} {m : Str → Option Value} {news news' : List (Addr × Obj)}
theorem check_meth {M : Model} {i owner n : String} {self : Value} {rest : List Value} {kw : List (Str × Value)} {Q : Unit → Shared → Prop}
    (hk : builtinKind i = some .method) (hs : splitId i = some (owner, n)) (hi : Looks M s.heap (isInstance self (.type owner)) true) (ha : argsOk i ⟨self :: rest, kw⟩) (q : Q () s) :
    wpAny M A (checkBuiltinCall i ⟨self :: rest, kw⟩) Q E s := by
  simp only [checkBuiltinCall, hk, hs]
  refine wpAny_bind (hi.here ?_)
  simp only [Bool.not_true, Bool.false_eq_true, if_false]
  cases hsig : Manifest.signature? i with
  | none => exact wpAny_pure q
  | some sig =>
    simp only [argsOk, hsig] at ha
    have h2 : Bind.checkArgs i sig ⟨self :: rest, kw⟩ = pure () := ha
    show wpAny M A (Bind.checkArgs i sig ⟨self :: rest, kw⟩) Q E s
    rw [h2]; exact wpAny_pure q
theorem acc_inst {od : Option Obj} {ox : Obj} (X : K.In s.heap) (I : W.InstAt s.heap x ox C od) (hp : accIn K C = true) : Looks (model prog w) s.heap (isInstance (.ref x) (.type "list")) true :=
  I.type.andThen (accs_of X hp).lst
theorem acc_call {id n : String} {B : Builtin} {rest : List Value} {Q : Value → Shared → Prop} (hk : builtinKind id = some .slot ∨ builtinKind id = some .method) (hs : splitId id = some ("list", n)) (hpl : plainId id = true) (he : entryFor table id = some B)
    (ha : argsOk id ⟨.ref x :: rest, []⟩) (hT : Looks (model prog w) s.heap (isInstance (.ref x) (.type "list")) true)
    (hc : wpAny (model prog w) A.in1 (B ⟨.ref x :: rest, []⟩) (fun fin s' => ∃ v, fin = .done (.ret v) ∧ Q v s') E s) :
    wpAny (model prog w) A (call (.builtin id) (.ref x :: rest)) Q E s := by
  have g : wpAny (model prog w) A.in1 (B ⟨.ref x :: rest, []⟩) (fun fin s' => match fin with | .done (.ret v) => Q v s' | _ => False) E s := wpAny_mono hc (fun fin s' h' => by obtain ⟨v, rfl, hv⟩ := h'; exact hv) fun _ _ z => z
  refine wpAny_call (codeAny_call_builtin hpl he ?_)
  rcases hk with hk | hk
  · refine check_slot hk hs hT ha (wpAny_mono hc (fun fin s' h' => ?_) fun _ _ h' => h')
    obtain ⟨v, rfl, hv⟩ := h'; exact hv
  · refine check_meth hk hs hT ha (wpAny_mono hc (fun fin s' h' => ?_) fun _ _ h' => h')
    obtain ⟨v, rfl, hv⟩ := h'; exact hv
theorem method_acc {f : Addr} {es : List DictEntry} {vs : List Value} {k n : Nat} {name : Str} {g : String} {pl : Sem Bool} {Q : Value × List Value → Shared → Prop} (F : Fr h₀ L s.heap m) (X₀ : K.In h₀) (N : News h₀ L s.heap news) (hx : (x, accObj C dx vs k) ∈ news) (hd : (dx, dictOf es n) ∈ news)
    (hga : findIn K (.ref C) "__getattribute__" = some (some (.builtin g))) (hcan : (Manifest.canonical g != "object.__getattribute__") = false) (hk : findIn K (.ref C) "__getattr__" = some none)
    (hf : findIn K (.ref C) name = some (some (.ref f))) (ht : isFn K (.ref f) = true) (hl : getL name es = some none) (h : Q (.ref f, [.ref x]) s) : wpAny (model prog w) A (getMethod (.ref x) name pl) Q E s := by
  have X : K.In s.heap := X₀.keeps F.keep
  have I := inst_acc N hx hd
  unfold getMethod specialOf
  refine wpAny_bind (wpAny_bind (I.type.here ((looks_findIn X hga).here ?_)))
  dsimp only
  rw [hcan, if_neg (by decide)]
  refine wpAny_bind (wpAny_bind (I.type.here ((looks_findIn X hk).here ?_)))
  refine wpAny_bind (wpAny_bind (I.type.here ((looks_findIn X hf).here (wpAny_bind ((looks_typeIn X (beq_iff_eq.mp ht)).here ?_)))))
  rw [if_neg (by decide +kernel)]
  refine wpAny_bind (wpAny_loadPart I.at_ ?_)
  refine wpAny_bind (wpAny_bind (wpAny_loadPart (N _ hd).1 ?_))
  rw [nsLook_of (r := none) (by rw [lookIn_dict, hl])]
  exact wpAny_pure (wpAny_bind (wpAny_rule (wpAny_pure h)))
theorem method_accB {id : String} {es : List DictEntry} {vs : List Value} {k n : Nat} {name : Str} {g : String} {pl : Sem Bool} {Q : Value × List Value → Shared → Prop} (F : Fr h₀ L s.heap m) (X₀ : K.In h₀) (N : News h₀ L s.heap news) (hx : (x, accObj C dx vs k) ∈ news) (hd : (dx, dictOf es n) ∈ news)
    (hga : findIn K (.ref C) "__getattribute__" = some (some (.builtin g))) (hcan : (Manifest.canonical g != "object.__getattribute__") = false) (hk : findIn K (.ref C) "__getattr__" = some none)
    (hf : findIn K (.ref C) name = some (some (.builtin id))) (ht : typeOf (.builtin id) = pure (.type "method_descriptor")) (hl : getL name es = some none) (h : Q (.builtin id, [.ref x]) s) : wpAny (model prog w) A (getMethod (.ref x) name pl) Q E s := by
  have X : K.In s.heap := X₀.keeps F.keep
  have I := inst_acc N hx hd
  unfold getMethod specialOf
  refine wpAny_bind (wpAny_bind (I.type.here ((looks_findIn X hga).here ?_)))
  dsimp only
  rw [hcan, if_neg (by decide)]
  refine wpAny_bind (wpAny_bind (I.type.here ((looks_findIn X hk).here ?_)))
  refine wpAny_bind (wpAny_bind (I.type.here ((looks_findIn X hf).here (wpAny_bind (wpAny_of_eq ht ?_)))))
  rw [if_neg (by decide +kernel)]
  refine wpAny_bind (wpAny_loadPart I.at_ ?_)
  refine wpAny_bind (wpAny_bind (wpAny_loadPart (N _ hd).1 ?_))
  rw [nsLook_of (r := none) (by rw [lookIn_dict, hl])]
  exact wpAny_pure (wpAny_bind (wpAny_rule (wpAny_pure h)))
theorem append_acc {es : List DictEntry} {vs : List Value} {k n : Nat} {v : Value} {Q : Value → Shared → Prop} (F : Fr h₀ L s.heap m) (X₀ : K.In h₀) (N : News h₀ L s.heap news) (hx : (x, accObj C dx vs k) ∈ news) (hd : (dx, dictOf es n) ∈ news) (hp : accIn K C = true)
    (U : Upd x (accObj C dx vs k) (accObj C dx (vs ++ [v]) (k + 1)) news news') (hsz : vs.length ≤ 16777216)
    (h : ∀ h', Fr h₀ L h' m → News h₀ L h' news' → Q .none { s with heap := h' }) : wpAny (model prog w) A (call (.builtin "list.append") [.ref x, v]) Q E s := by
  have X : K.In s.heap := X₀.keeps F.keep
  refine acc_call (n := "append") (.inr (by decide +kernel)) (by decide +kernel) PySem.F.slot_list_append.plain entry_list_append (args_list_append _ _) (acc_inst X (inst_acc N hx hd) hp) ?_
  obtain ⟨pre, post, rfl, rfl, a, b⟩ := U.split
  have z := N (x, accObj C dx vs k) (by simp)
  show wpAny _ _ (updateSeq x (·.push v) >>= fun _ => ret .none) _ _ s
  refine wpAny_bind ?_
  have hsz' : vs.toArray.size ≤ sizeLine := by rw [List.size_toArray, sizeLine_eq]; exact hsz
  refine wpAny_updateSeq z.1 rfl (wpAny_pure ⟨.none, rfl, h _ (F.change (Heap.SameBut.update ..) z.2.1 z.2.2) (news_set N a b (Heap.SameBut.update ..) ?_)⟩)
  rw [Heap.get?_update_self _ z.1 rfl]
  simp [Obj.mapSeq]
theorem key_acc {od : Option Obj} {ox : Obj} {v : Value} {name : Str} (X : K.In s.heap) (I : W.InstAt s.heap x ox C od) (hm : mroIn K C (.type "collections.deque") = some false) :
    Looks (model prog w) s.heap (sequenceKey (.ref x) v name) v := by
  intro A Q E s' k q
  unfold sequenceKey
  refine wpAny_bind (I.type A _ E s' k ?_)
  dsimp only
  simp only [seqItemTypes, List.anyM]
  refine wpAny_bind (wpAny_bind ((looks_mroIn X hm) A _ E s' k ?_))
  first | exact wpAny_pure (wpAny_pure q) | exact wpAny_pure q
theorem slice_acc {es : List DictEntry} {vs : List Value} {k n : Nat} {t : Tok} {value slice : Expr} {Q : Value → Shared → Prop} (F : Fr h₀ L s.heap m) (X₀ : K.In h₀) (N : News h₀ L s.heap news) (hx : (x, accObj C dx vs k) ∈ news) (hd : (dx, dictOf es n) ∈ news) (hp : accIn K C = true)
    (hm : mroIn K C (.type "collections.deque") = some false) (hg : findIn K (.ref C) "__getitem__" = some (some (.builtin "list.__getitem__"))) (hsz : vs.length ≤ 16777216)
    (h : ∀ D h', Fr h₀ L h' m → News h₀ L h' ((D, listOf vs.toArray 0) :: news) → (∀ p ∈ news, p.1 < D) → Q (.ref D) { s with heap := h' })
    (hs : subscripted slice false (.ref x) (.ref s.heap.objs.size) = operate [.ref s.heap.objs.size, .ref x] (getItem (.ref x) (.ref s.heap.objs.size)) := by with_unfolding_all rfl)
    (ht : ∀ r, letTemporaryGo value (.ref x) r = pure () := by intro _; with_unfolding_all rfl) :
    wpAny (model prog w) A (subscriptTail value slice (.ref x) (.ref s.heap.objs.size)) Q E { s with heap := s.heap.push { cls := .type "slice", data := .fields #[.int 0 t, .none, .none] } } := by
  have k1 : ∀ b o, s.heap.get? b = some o → (s.heap.push { cls := .type "slice", data := .fields #[.int 0 t, .none, .none] }).get? b = some o := fun b o e => Heap.get?_push_of_some _ e
  have N1 := N.grown k1
  have F1 := F.push { cls := .type "slice", data := .fields #[.int 0 t, .none, .none] }
  have X : K.In (s.heap.push { cls := .type "slice", data := .fields #[.int 0 t, .none, .none] }) := X₀.keeps F1.keep
  have I := inst_acc N1 hx hd
  have hos : (s.heap.push { cls := .type "slice", data := .fields #[.int 0 t, .none, .none] }).get? s.heap.objs.size = some { cls := .type "slice", data := .fields #[.int 0 t, .none, .none] } := Heap.get?_push_at rfl rfl
  have hTs : Shared.TypeIs { s with heap := s.heap.push { cls := .type "slice", data := .fields #[.int 0 t, .none, .none] } } (.ref s.heap.objs.size) "slice" := ⟨_, hos, rfl⟩
  have hds : ({ cls := .type "slice", data := .fields #[.int 0 t, .none, .none] } : Obj).data = .fields #[.int 0 t, .none, .none] := rfl
  have hsz' : vs.toArray.size ≤ sizeLine := by rw [List.size_toArray, sizeLine_eq]; exact hsz
  have G := looks_findIn (M := model prog w) X hg
  unfold subscriptTail
  refine wpAny_bind ?_
  unfold getitemInPython specialOf
  refine wpAny_bind (wpAny_bind (I.type.here (G.here ?_)))
  dsimp only
  refine wpAny_pure (wpAny_bind ?_)
  rw [hs]
  refine wpAny_operating (wpAny_mono (Q := fun r s' => Q r s') (E := E) ?_ (fun r s₃ h₃ => wpAny_bind (wpAny_of_eq (ht r) (wpAny_pure h₃))) fun _ _ x => x)
  unfold getItem
  refine wpAny_holding (wpAny_bind ((key_acc X I hm).here ?_))
  unfold callSpecial? specialOf
  refine wpAny_bind (wpAny_bind (wpAny_bind (I.type.here (G.here ?_))))
  dsimp only
  rw [PySem.F.slot_list_getitem.bind]
  refine wpAny_holding (wpAny_bind (wpAny_pure (wpAny_bind ?_)))
  refine acc_call (n := "__getitem__") (.inr (by decide +kernel)) (by decide +kernel) PySem.F.slot_list_getitem.plain PySem.F.entry_list_getitem (by first | exact args_list_getitem _ _ | exact PySem.F.args_list_getitem_2 _ _) (acc_inst X I hp) ?_
  show wpAny _ _ (Builtin.List.listSubscript? (.ref s.heap.objs.size) >>= _) _ _ _
  refine wpAny_bind ?_
  unfold Builtin.List.listSubscript?
  refine wpAny_bind (wpAny_specialOf hTs slice_no_index ?_)
  simp only [Option.isNone_none, if_true]
  refine wpAny_pure ?_
  show wpAny _ _ (typeOf (.ref s.heap.objs.size) >>= _) _ _ _
  refine wpAny_bind (wpAny_typeOf hTs ?_)
  rw [if_neg (by decide)]
  rw [listSliceParts_eq]
  refine wpAny_bind (wpAny_bind (wpAny_field hos hds (x := .none) rfl (wpAny_bind (wpAny_listPart .none ?_))))
  rw [if_neg (by decide)]
  refine wpAny_bind (wpAny_field hos hds (x := .int 0 t) rfl (wpAny_bind (wpAny_listPart (.int 0 t) ?_)))
  refine wpAny_bind (wpAny_field hos hds (x := .none) rfl (wpAny_bind (wpAny_listPart .none (wpAny_pure ?_))))
  refine wpAny_bind (m := Builtin.List.listItems (.ref x)) ?_
  unfold Builtin.List.listItems
  refine wpAny_bind (wpAny_seqItems I.at_ rfl (wpAny_pure ?_))
  refine wpAny_bind (wpAny_of_eq (sliceIndices_raw (some 0) none none vs.toArray.size (by simp)) ?_)
  refine wpAny_bind (wpAny_newObj_type (wpAny_pure ⟨_, rfl, wpAny_pure (wpAny_pure ?_)⟩) (Nat.le_trans (slicePick_size_le vs.toArray (some 0) none none) hsz'))
  show Q _ _
  have N2 := News.push F1 N1 { cls := .type "list", data := .seq (slicePick vs.toArray (some 0) none none) }
  rw [Heap.size_push, show slicePick vs.toArray (some 0) none none = vs.toArray from slicePick_from' vs.toArray 0] at N2
  rw [show ((sliceRange (sliceBounds (some 0) none none vs.toArray.size).1 (sliceBounds (some 0) none none vs.toArray.size).2.1 (sliceBounds (some 0) none none vs.toArray.size).2.2).filterMap (vs.toArray[·]?)).toArray = vs.toArray from slicePick_from' vs.toArray 0]
  rw [Heap.size_push]
  exact h _ _ (F1.push _) N2 fun p hp => Nat.lt_succ_of_lt (Heap.lt_size (N p hp).1)
theorem clear_acc {D : Addr} {es : List DictEntry} {vs : List Value} {k n e : Nat} {t : Tok} {Q : Unit → Shared → Prop} (F : Fr h₀ L s.heap m) (X₀ : K.In h₀) (N : News h₀ L s.heap news) (hx : (x, accObj C dx vs k) ∈ news) (hd : (dx, dictOf es n) ∈ news) (hD : (D, listOf #[] e) ∈ news) (hp : accIn K C = true)
    (hm : mroIn K C (.type "collections.deque") = some false) (hg : findIn K (.ref C) "__setitem__" = some (some (.builtin "list.__setitem__"))) (hsz : vs.length ≤ 16777216)
    (U : Upd x (accObj C dx vs k) (accObj C dx [] (if (#[] : Array Value).size == vs.toArray.size then k else k + 1)) news news')
    (h : ∀ h', Fr h₀ L h' m → News h₀ L h' news' → Q () { s with heap := h' }) :
    wpAny (model prog w) A (setItem (.ref x) (.ref s.heap.objs.size) (.ref D)) Q E { s with heap := s.heap.push { cls := .type "slice", data := .fields #[.int 0 t, .none, .none] } } := by
  have k1 : ∀ b o, s.heap.get? b = some o → (s.heap.push { cls := .type "slice", data := .fields #[.int 0 t, .none, .none] }).get? b = some o := fun b o e => Heap.get?_push_of_some _ e
  have N1 := N.grown k1
  have F1 := F.push { cls := .type "slice", data := .fields #[.int 0 t, .none, .none] }
  have X : K.In (s.heap.push { cls := .type "slice", data := .fields #[.int 0 t, .none, .none] }) := X₀.keeps F1.keep
  have I := inst_acc N1 hx hd
  have hos : (s.heap.push { cls := .type "slice", data := .fields #[.int 0 t, .none, .none] }).get? s.heap.objs.size = some { cls := .type "slice", data := .fields #[.int 0 t, .none, .none] } := Heap.get?_push_at rfl rfl
  have hTs : Shared.TypeIs { s with heap := s.heap.push { cls := .type "slice", data := .fields #[.int 0 t, .none, .none] } } (.ref s.heap.objs.size) "slice" := ⟨_, hos, rfl⟩
  have hTD : Shared.TypeIs { s with heap := s.heap.push { cls := .type "slice", data := .fields #[.int 0 t, .none, .none] } } (.ref D) "list" := ⟨_, (N1 _ hD).1, rfl⟩
  have hxD : (x == D) = false := by
    rw [beq_eq_false_iff_ne]
    rintro rfl
    have e1 := (N _ hx).1
    rw [(N _ hD).1] at e1
    cases e1
  have hds : ({ cls := .type "slice", data := .fields #[.int 0 t, .none, .none] } : Obj).data = .fields #[.int 0 t, .none, .none] := rfl
  have hsz' : vs.toArray.size ≤ sizeLine := by rw [List.size_toArray, sizeLine_eq]; exact hsz
  have G := looks_findIn (M := model prog w) X hg
  unfold setItem
  refine wpAny_holding (wpAny_bind ((key_acc X I hm).here ?_))
  unfold callSpecial? specialOf
  refine wpAny_bind (wpAny_bind (wpAny_bind (I.type.here (G.here ?_))))
  dsimp only
  rw [PySem.F.slot_list_setitem.bind]
  refine wpAny_holding (wpAny_bind (wpAny_pure (wpAny_bind ?_)))
  refine acc_call (n := "__setitem__") (by first | exact .inl (by decide +kernel) | exact .inr (by decide +kernel)) (by decide +kernel) PySem.F.slot_list_setitem.plain PySem.F.entry_list_setitem (PySem.F.args_list_setitem_3 _ _ _) (acc_inst X I hp) ?_
  show wpAny _ _ (Builtin.List.listSubscript? (.ref s.heap.objs.size) >>= _) _ _ _
  refine wpAny_bind ?_
  unfold Builtin.List.listSubscript?
  refine wpAny_bind (wpAny_specialOf hTs slice_no_index ?_)
  simp only [Option.isNone_none, if_true]
  refine wpAny_pure ?_
  show wpAny _ _ (typeOf (.ref s.heap.objs.size) >>= _) _ _ _
  refine wpAny_bind (wpAny_typeOf hTs ?_)
  rw [if_neg (by decide)]
  rw [listSliceParts_eq]
  refine wpAny_bind (wpAny_bind (wpAny_field hos hds (x := .none) rfl (wpAny_bind (wpAny_listPart .none ?_))))
  rw [if_neg (by decide)]
  refine wpAny_bind (wpAny_field hos hds (x := .int 0 t) rfl (wpAny_bind (wpAny_listPart (.int 0 t) ?_)))
  refine wpAny_bind (wpAny_field hos hds (x := .none) rfl (wpAny_bind (wpAny_listPart .none (wpAny_pure ?_))))
  dsimp only
  simp only [Builtin.List.listSameRef, hxD, Bool.false_eq_true, if_false]
  refine wpAny_bind (m := Builtin.List.listAllItems (.ref D) _) ?_
  unfold Builtin.List.listAllItems Builtin.List.listItems
  refine wpAny_bind (wpAny_typeOf hTD ?_)
  rw [if_pos (by decide)]
  refine wpAny_bind (wpAny_seqItems (N1 _ hD).1 rfl (wpAny_pure ?_))
  refine wpAny_bind (wpAny_bind (wpAny_seqItems I.at_ rfl (wpAny_pure ?_)))
  refine wpAny_bind (wpAny_of_eq (sliceIndices_raw (some 0) none none vs.toArray.size (by simp)) ?_)
  dsimp only
  rw [if_pos (show ((sliceBounds (some 0) none none vs.toArray.size).2.snd == 1) = true from rfl)]
  refine wpAny_bind (wpAny_rule ?_)
  have hfit : Builtin.List.listTooLong (vs.toArray.size + (#[] : Array Value).size) = false := by unfold Builtin.List.listTooLong; simp only [List.size_toArray, sizeLine_eq, Array.size_empty]; simp; omega
  rw [if_neg (by rw [hfit]; decide)]
  have hb : (sliceBounds (some 0) none none vs.toArray.size) = (0, (vs.length : Int), 1) := by
    simp [sliceBounds]; omega
  simp only [hb]
  obtain ⟨pre, post, rfl, rfl, a, b⟩ := U.split
  have z := N1 (x, accObj C dx vs k) (by simp)
  have hf : (vs.toArray.extract 0 (0 : Int).toNat ++ #[] ++ vs.toArray.extract (Max.max 0 (vs.length : Int)).toNat vs.toArray.size) = #[] := by
    have e1 : (Max.max 0 (vs.length : Int)).toNat = vs.length := by omega
    rw [e1]; simp
  refine wpAny_bind (wpAny_updateSeq (f := fun xs => xs.extract 0 (0 : Int).toNat ++ #[] ++ xs.extract (Max.max 0 (vs.length : Int)).toNat xs.size) z.1 rfl ?_ hsz' (by rw [hf]; exact Nat.zero_le _))
  refine wpAny_bind (wpAny_letGo (wpAny_pure ⟨.none, rfl, wpAny_pure (wpAny_pure ?_)⟩))
  refine h _ (F1.change (Heap.SameBut.update ..) z.2.1 z.2.2) (news_set N1 a b (Heap.SameBut.update ..) ?_)
  rw [Heap.get?_update_self _ z.1 rfl]
  simp only [Obj.mapSeq, hf]
end
/-! for over a range of a fixed length -/
abbrev rngObj (n : Nat) (t u v : Tok) : Obj := { cls := .type "range", dict := none, data := .fields #[.int 0 t, .int (n : Int) u, .int 1 v], slots := #[] }
structure RngIter (o : Obj) (n i : Nat) : Prop where
  is : o = { cls := .type "range_iterator", dict := none, data := .fields #[rawInt (i : Int), rawInt ((n : Int) - (i : Int)), rawInt 1], slots := #[] }
theorem rng_small : ∀ n : Nat, n ≤ 1000 → Builtin.Range.small 0 (n : Int) 1 = true := by
  intro n hn
  unfold Builtin.Range.small Builtin.Range.rangeSize Builtin.Range.rangeFitsLong
  simp
  omega
section
variable {prog : Program} {w : World} {A : Around} {E : Value → Shared → Prop} {s s₁ : Shared} {h₀ : Heap} {env : Env} {Q : Flow → Shared → Prop} {target : Expr} {body : List Stmt}
theorem for_rangeM {l : Addr} {n : Nat} {t u v : Tok} {m : Str → Option Value} {news : List (Addr × Obj)} (J : (Str → Option Value) → List (Addr × Obj) → Nat → (Str → Option Value) → List (Addr × Obj) → Prop)
    (F : Fr h₀ env.locals s₁.heap m) (N : News h₀ env.locals s₁.heap news) (hl : (l, rngObj n t u v) ∈ news) (hn : n ≤ 1000)
    (hh : A.handled = none) (hE : PassesOwn (model prog w) A env E) (h0 : J m news 0 m news)
    (turn : ∀ (i : Nat) m₁ nx h tk it o tv, i < n → J m news i m₁ nx → Fr h₀ env.locals h m₁ → News h₀ env.locals h ((it, o) :: nx) → (∀ p ∈ nx, p.1 ≠ it) → RngIter o n (i + 1) →
      wpAny (model prog w) A (letOwnedTupleGo target (.ref it) (.int (i : Int) tv)) (fun _ s' => wpAny (model prog w) A (assign target env (.int (i : Int) tv)) (fun _ s₂ => wpAny (model prog w) A (execs body env) (ForPost h₀ env.locals (J m news (i + 1)) it o { s₁ with heap := h, toks := tk } Q) E s₂) E s') E { s₁ with heap := h, toks := tk })
    (done : ∀ m₁ nx h tk, J m news n m₁ nx → Fr h₀ env.locals h m₁ → News h₀ env.locals h nx → Q .next { s₁ with heap := h, toks := tk }) :
    ForAt prog w A env target body Q E (.ref l) s₁ := by
  have hitf : ∀ p ∈ news, p.1 ≠ s₁.heap.objs.size := fun p hp => Nat.ne_of_lt (Heap.lt_size (N p hp).1)
  refine wpAny_pyIter_range (a := 0) (b := (n : Int)) (c := 1) (t := t) (u := u) (v := v) (N _ hl).1 (rng_small n hn) ?_
  rw [show Builtin.Range.rangeSize 0 (n : Int) 1 = (n : Int) by unfold Builtin.Range.rangeSize; simp; omega]
  refine codeAny_forLoop_any
    (fun k s' => ∃ h' tk m' nx i o, s' = { s₁ with heap := h', toks := tk } ∧ Fr h₀ env.locals h' m' ∧ News h₀ env.locals h' ((s₁.heap.objs.size, o) :: nx) ∧ (∀ p ∈ nx, p.1 ≠ s₁.heap.objs.size) ∧ RngIter o n i ∧ J m news i m' nx ∧ i ≤ n ∧ k = n + 1 - i) ?_ (n + 1)
    ⟨_, s₁.toks, m, news, 0, _, rfl, F.push _, N.push F _, hitf, ⟨by simp⟩, h0, Nat.zero_le _, rfl⟩
  rintro k s' ⟨h', tk, m', nx, i, o, rfl, F', N', hne, ⟨rfl⟩, hJ, hi, rfl⟩
  have hit : IsRangeIter h' s₁.heap.objs.size (i : Int) ((n : Int) - (i : Int)) 1 := (N' _ (.head _)).1
  have hitL : s₁.heap.objs.size ≠ env.locals := (N' _ (.head _)).2.1
  have hit0 : h₀.get? s₁.heap.objs.size = none := (N' _ (.head _)).2.2
  by_cases hlt : i < n
  · refine wpAny_pyNext_range_item hit (by omega) fun h₁ hit₁ hs₁ => ?_
    have F₁ : Fr h₀ env.locals h₁ m' := by
      obtain ⟨oL, es, ep, hL, r⟩ := F'.ns
      exact ⟨⟨oL, es, ep, (hs₁.2 _ (Ne.symm hitL)).trans hL, r⟩, fun b x e => (hs₁.2 b (by rintro rfl; rw [hit0] at e; cases e)).trans (F'.keep b x e), F'.above⟩
    have N₁ : News h₀ env.locals h₁ ((s₁.heap.objs.size, { cls := .type "range_iterator", dict := none, data := .fields #[rawInt ((i : Int) + 1), rawInt ((n : Int) - (i : Int) - 1), rawInt 1], slots := #[] }) :: nx) := fun p hp => by
      rcases List.mem_cons.mp hp with rfl | hp
      · exact ⟨hit₁, hitL, hit0⟩
      · exact ⟨(hs₁.2 _ (hne p hp)).trans (N' p (.tail _ hp)).1, (N' p (.tail _ hp)).2⟩
    have ho : RngIter { cls := .type "range_iterator", dict := none, data := .fields #[rawInt ((i : Int) + 1), rawInt ((n : Int) - (i : Int) - 1), rawInt 1], slots := #[] } n (i + 1) := ⟨by
      rw [show ((i + 1 : Nat) : Int) = (i : Int) + 1 by omega, show (n : Int) - ((i : Int) + 1) = (n : Int) - (i : Int) - 1 by omega]⟩
    refine wpAny_mono (wpAny_passesOwn hE (turn i m' nx h₁ (tk + 1) s₁.heap.objs.size _ tk hlt hJ F₁ N₁ hne ho)) (fun _ s₂ h₂ => ?_) fun _ _ e => e
    refine wpAny_mono (wpAny_passesOwn hE h₂) (fun _ s₃ h₃ => ?_) fun _ _ e => e
    refine wpAny_mono (wpAny_passesOwn hE h₃) (fun f s₄ h₄ => ?_) fun _ _ e => e
    have fin : ForEnd h₀ env.locals (J m news (i + 1)) s₁.heap.objs.size { cls := .type "range_iterator", dict := none, data := .fields #[rawInt ((i : Int) + 1), rawInt ((n : Int) - (i : Int) - 1), rawInt 1], slots := #[] } { s₁ with heap := h₁, toks := tk + 1 } s₄ → ∃ m_1, m_1 < n + 1 - i ∧ ∃ h' tk m' nx i o, s₄ = { s₁ with heap := h', toks := tk } ∧ Fr h₀ env.locals h' m' ∧ News h₀ env.locals h' ((s₁.heap.objs.size, o) :: nx) ∧ (∀ p ∈ nx, p.1 ≠ s₁.heap.objs.size) ∧ RngIter o n i ∧ J m news i m' nx ∧ i ≤ n ∧ m_1 = n + 1 - i := by
      rintro ⟨h₅, tk₅, m₅, nx₅, rfl, F₅, N₅, hne₅, hJ₅⟩
      exact ⟨n + 1 - (i + 1), by omega, h₅, tk₅, m₅, nx₅, i + 1, _, rfl, F₅, N₅, hne₅, ho, hJ₅, hlt, rfl⟩
    cases f with
    | ret v => exact h₄
    | brk => exact h₄
    | next => exact fin h₄
    | cont => exact fin h₄
  · have hin : i = n := by omega
    subst hin
    refine wpAny_pyNext_range_end hh hit (by omega) fun h₁ he₁ => wpAny_execs_nil ?_
    have F₁ : Fr h₀ env.locals h₁ m' := by
      obtain ⟨oL, es, ep, hL, r⟩ := F'.ns
      exact ⟨⟨oL, es, ep, he₁ _ _ (Ne.symm hitL) hL, r⟩, fun b x e => he₁ b x (by rintro rfl; rw [hit0] at e; cases e) (F'.keep b x e), F'.above⟩
    exact done m' nx h₁ tk hJ F₁ fun p hp => ⟨he₁ _ _ (hne p hp) (N' p (.tail _ hp)).1, (N' p (.tail _ hp)).2⟩
theorem range_N (n : Nat) {k : Int} {t : Tok} {L : Addr} {m : Str → Option Value} {news : List (Addr × Obj)} {Q : Value → Shared → Prop} (hk : k = (n : Int)) (F : Fr h₀ L s.heap m) (N : News h₀ L s.heap news)
    (h : ∀ r h' tk t₁ u₁ v₁, Fr h₀ L h' m → News h₀ L h' ((r, rngObj n t₁ u₁ v₁) :: news) → (∀ p ∈ news, p.1 < r) → Q (.ref r) { s with heap := h', toks := tk }) :
    wpAny (model prog w) A (call (.type "range") [.int k t]) Q E s := by
  subst hk
  exact call_range_1 (h _ _ _ _ _ _ (F.push _) (N.push F _) fun p hp => Heap.lt_size (N p hp).1)
end
theorem mem_ofL {α : Type} {a : α} {l : List α} (h : a ∈ l) : List.Mem a l := h
theorem expl1 {a : Str} {m₀ m' : Str → Option Value} (h : ∀ z, z ≠ a → m' z = m₀ z) : ∃ x, m' = fun z => if z = a then x else m₀ z := by
  refine ⟨m' a, ?_⟩
  funext z
  by_cases h1 : z = a
  · simp [h1]
  · simp [h1, h z h1]
theorem expl2 {a b : Str} {m₀ m' : Str → Option Value} (h : ∀ z, z ≠ a → z ≠ b → m' z = m₀ z) : ∃ x y, m' = fun z => if z = a then x else if z = b then y else m₀ z := by
  refine ⟨m' a, m' b, ?_⟩
  funext z
  by_cases h1 : z = a
  · simp [h1]
  · by_cases h2 : z = b
    · subst h2; simp [h1]
    · simp [h1, h2, h z h1 h2]
theorem expl3 {a b c : Str} {m₀ m' : Str → Option Value} (h : ∀ z, z ≠ a → z ≠ b → z ≠ c → m' z = m₀ z) : ∃ x y w, m' = fun z => if z = a then x else if z = b then y else if z = c then w else m₀ z := by
  refine ⟨m' a, m' b, m' c, ?_⟩
  funext z
  by_cases h1 : z = a
  · simp [h1]
  · by_cases h2 : z = b
    · subst h2; simp [h1]
    · by_cases h3 : z = c
      · subst h3; simp [h1, h2]
      · simp [h1, h2, h3, h z h1 h2 h3]
theorem expl4 {a b c d : Str} {m₀ m' : Str → Option Value} (h : ∀ z, z ≠ a → z ≠ b → z ≠ c → z ≠ d → m' z = m₀ z) : ∃ x y w u, m' = fun z => if z = a then x else if z = b then y else if z = c then w else if z = d then u else m₀ z := by
  refine ⟨m' a, m' b, m' c, m' d, ?_⟩
  funext z
  by_cases h1 : z = a
  · simp [h1]
  · by_cases h2 : z = b
    · subst h2; simp [h1]
    · by_cases h3 : z = c
      · subst h3; simp [h1, h2]
      · by_cases h4 : z = d
        · subst h4; simp [h1, h2, h3]
        · simp [h1, h2, h3, h4, h z h1 h2 h3 h4]
abbrev ConP (K : Params → Frag) (prog : Program) (w : World) (p : Program) (loose : List Str) (mean : ExcName → Option Value) (mg mb : Str → Option Value) (D : Nat) (f : Addr) (news : List (Addr × Obj)) (vs : List Value) (kw : List (Str × Value)) (P : Heap → Prop) (Post : Value → List (Addr × Obj) → Prop) : Prop :=
  ∀ (dp un : Nat) (gd : Option (List Code)) (cn : Str) (cs : Scope) (a : Addr) (ccd : Value) (cl : List (Str × Addr)) (outer : List Env) (A₀ : Around) (base h₀ : Heap) (L : Addr) (m : Str → Option Value) (s : Shared) (Q E : Value → Shared → Prop),
    Below A₀ base outer h₀ → Fr h₀ L s.heap m → (K w.params).In h₀ → News h₀ L s.heap news → Top p loose mean mg mb h₀ → cs.kind = .function → Room dp un D → P h₀ →
    (∀ (r : Value) (news' : List (Addr × Obj)) (h' : Heap) (tk' : Nat), Post r news' → Fr h₀ L h' m → News h₀ L h' news' → Q r { s with heap := h', toks := tk' }) →
      wpAny (model prog w) (ktrTop dp un gd cn cs L a ccd cl outer) (call (.ref f) vs kw) Q E s
noncomputable def PF (prog : Program) : Prop := ((prog.main.file : Str) == ("/claim/cut.py" : Str)) = true ∧ (prog.main.scope.names.lookup ("super" : Str)).isSome = false
theorem PF.file {prog : Program} (h : PF prog) : ((prog.main.file : Str) == ("/claim/cut.py" : Str)) = true := h.1
theorem PF.sup {prog : Program} (h : PF prog) : (prog.main.scope.names.lookup ("super" : Str)).isSome = false := h.2
section
variable {prog : Program} {w : World} {A : Around} {E : Value → Shared → Prop} {s : Shared} {h₀ : Heap} {L l b : Addr} {m : Str → Option Value} {news : List (Addr × Obj)} {vs ws : List Value} {n n2 : Nat} {Q : Value → Shared → Prop}
theorem add_N (F : Fr h₀ L s.heap m) (N : News h₀ L s.heap news) (h1 : (l, listOf vs.toArray n) ∈ news) (h2 : (b, listOf ws.toArray n2) ∈ news) (hsz : vs.length + ws.length ≤ 16777216)
    (h : ∀ D h', Fr h₀ L h' m → News h₀ L h' ((D, listOf (vs ++ ws).toArray 0) :: news) → (∀ p ∈ news, p.1 < D) → Q (.ref D) { s with heap := h' }) :
    wpAny (model prog w) A (binaryOp .Add (.ref l) (.ref b)) Q E s :=
  add_lists F N ⟨_, (N _ h1).1, rfl, n, rfl⟩ ⟨_, (N _ h2).1, rfl, n2, rfl⟩ (fun h' F' N' => h _ h' F' N' fun p hp => Heap.lt_size (N p hp).1) (by rw [sizeLine_eq]; exact hsz)
end
theorem row_are {vs : List Value} {ds : List Int} (he : Are IsInt vs ds) (i : Nat) (x y : Int) (t t' : Tok) : Are IsInt (vs.take ((i : Int)).toNat ++ [.int x t, .int y t'] ++ vs.drop ((i : Int) + 2).toNat) (ds.take i ++ [x, y] ++ ds.drop (i + 2)) := by
  rw [Int.toNat_natCast, show ((i : Int) + 2).toNat = i + 2 by omega]
  exact ((he.take i).append (.cons ⟨_, rfl⟩ (.cons ⟨_, rfl⟩ .nil))).append (he.drop (i + 2))
theorem row_ok {ds : List Int} (h : Oki ds) (i : Nat) {x y : Int} (hx : 0 ≤ x ∧ x ≤ 2) (hy : 0 ≤ y ∧ y ≤ 2) : Oki (ds.take i ++ [x, y] ++ ds.drop (i + 2)) := by
  intro d hd
  rcases List.mem_append.mp hd with hd | hd
  · rcases List.mem_append.mp hd with hd | hd
    · exact h d (List.mem_of_mem_take hd)
    · rcases List.mem_cons.mp hd with rfl | hd
      · exact hx
      · rcases List.mem_cons.mp hd with rfl | hd
        · exact hy
        · exact absurd hd List.not_mem_nil
  · exact h d (List.mem_of_mem_drop hd)
theorem row_len {ds : List Int} (h : ds.length = 6) {i : Nat} (hi : i < 5) (x y : Int) : (ds.take i ++ [x, y] ++ ds.drop (i + 2)).length = 6 := by
  simp; omega
theorem nameOf_length {base : Int} {ds : List Int} : (nameOf base ds).length = ds.length := by simp [nameOf, Str.length]
theorem offN {R W it : Addr} {ro o1 o2 : Obj} {news : List (Addr × Obj)} (h : ∀ p ∈ (R, ro) :: (W, o1) :: news, p.1 ≠ it) : ∀ p ∈ (R, ro) :: (W, o2) :: news, p.1 ≠ it := by
  intro p hp
  rcases List.mem_cons.mp hp with rfl | hp
  · exact h (R, ro) (.head _)
  · rcases List.mem_cons.mp hp with rfl | hp
    · exact h (W, o1) (.tail _ (.head _))
    · exact h p (.tail _ (.tail _ hp))
theorem small_mul {a : Int} (h : -2 ≤ a ∧ a ≤ 2) : ∀ b, IntMulOk a b := by
  intro b
  refine IntMulOk.of_left ?_
  have c : a = -2 ∨ a = -1 ∨ a = 0 ∨ a = 1 ∨ a = 2 := by omega
  rcases c with rfl | rfl | rfl | rfl | rfl <;> decide
theorem ite_yes {c : Prop} [Decidable c] {P Q : Prop} (hc : c) (h : P) : if c then P else Q := by rw [if_pos hc]; exact h
theorem ite_nay {c : Prop} [Decidable c] {P Q : Prop} (hc : ¬ c) (h : Q) : if c then P else Q := by rw [if_neg hc]; exact h
theorem bits_le {x : Int} (h : 0 ≤ x ∧ x ≤ 10000000) : Builtin.Int.intBits x ≤ 24 := by
  have e : (2 : Nat) ^ 24 = 16777216 := by decide
  refine PyProof.Rows.intBits_le ?_
  rw [e]
  omega
theorem newsLt {h₀ h : Heap} {L : Addr} {news : List (Addr × Obj)} (N : News h₀ L h news) : ∀ p ∈ news, p.1 < h.objs.size := fun p hp => Heap.lt_size (N p hp).1
section
variable {prog : Program} {w : World} {A : Around} {E : Value → Shared → Prop} {s : Shared} {h₀ : Heap} {L l : Addr} {m : Str → Option Value} {news : List (Addr × Obj)} {n : Nat} {Q : Value → Shared → Prop}
theorem mul1_N {v : Value} {x : Int} {u : Tok} (F : Fr h₀ L s.heap m) (N : News h₀ L s.heap news) (hm : (l, listOf #[v] n) ∈ news) (h0 : 0 ≤ x) (h1 : x ≤ 1000)
    (h : ∀ D h', Fr h₀ L h' m → News h₀ L h' ((D, listOf (List.replicate x.toNat v).toArray 0) :: news) → (∀ p ∈ news, p.1 < D) → Q (.ref D) { s with heap := h' }) :
    wpAny (model prog w) A (binaryOp .Mult (.ref l) (.int x u)) Q E s := by
  refine mul_list F N (N _ hm).1 (by omega) (by omega) (by simp; omega) fun h' F' N' => ?_
  refine h _ h' F' ?_ (newsLt N)
  have e : (List.foldl (fun x1 x2 => x1 ++ x2) #[] (List.replicate (if (#[v] : Array Value).isEmpty = true then 0 else x.toNat) #[v])) = (List.replicate x.toNat v).toArray := by
    rw [if_neg (by simp)]
    rw [listMul_foldl]
    simp
  rw [e] at N'
  exact N'
end
theorem neL {L c : Nat} {news : List (Addr × Obj)} (h : ∀ p ∈ news, p.1 < L) (hc : L ≤ c) : ∀ p ∈ news, p.1 ≠ c := fun p hp e => by
  have := h p hp
  rw [e] at this
  exact absurd (Nat.lt_of_lt_of_le this hc) (Nat.lt_irrefl _)
theorem updF_lt {d c : Nat} {o : Obj} {l : List (Addr × Obj)} {g : Obj → List (Addr × Obj)} (U : UpdF d o l g) (h : ∀ p ∈ l, p.1 < c) (o' : Obj) : ∀ p ∈ g o', p.1 < c := by
  obtain ⟨pre, post, rfl, hg, h1, h2⟩ := U.split
  intro p hp
  rw [hg] at hp
  rcases List.mem_append.mp hp with hp | hp
  · exact h p (List.mem_append.mpr (.inl hp))
  · rcases List.mem_cons.mp hp with rfl | hp
    · exact h (d, o) (by simp)
    · exact h p (by simp [hp])
inductive SwF (P : Addr) (tabs : List (Addr × Obj)) : List (Addr × Obj) → (List (Addr × Obj) → List (Addr × Obj)) → Prop
  | head {rest : List (Addr × Obj)} (h : ∀ q ∈ rest, q.1 ≠ P) : SwF P tabs (tabs ++ rest) (fun t => t ++ rest)
  | tail {a : Addr × Obj} {l : List (Addr × Obj)} {g : List (Addr × Obj) → List (Addr × Obj)} (hne : a.1 ≠ P) (h : SwF P tabs l g) : SwF P tabs (a :: l) (fun t => a :: g t)
theorem SwF.split {P : Addr} {tabs l : List (Addr × Obj)} {g : List (Addr × Obj) → List (Addr × Obj)} (h : SwF P tabs l g) : ∃ pre post, l = pre ++ (tabs ++ post) ∧ (g = fun t => pre ++ (t ++ post)) ∧ (∀ q ∈ pre, q.1 ≠ P) ∧ ∀ q ∈ post, q.1 ≠ P := by
  induction h with
  | @head rest h => exact ⟨[], rest, rfl, rfl, fun q hq => absurd hq List.not_mem_nil, h⟩
  | @tail a l g hne _ ih =>
    obtain ⟨pre, post, rfl, rfl, h1, h2⟩ := ih
    refine ⟨a :: pre, post, rfl, rfl, fun q hq => ?_, h2⟩
    rcases List.mem_cons.mp hq with rfl | hq
    · exact hne
    · exact h1 q hq
structure TabFull (P : Addr) (ln co : Nat) (qual : Str) (tabs : List (Addr × Obj)) (c : Addr) (oc : Obj) (vs : Array Value) (t : Tok) : Prop where
  is : tabs = [(P, tabObj #[rawInt ln, rawInt co, .ref c]), (c, oc)]
  d : oc.data = .fields vs
  v : vs[1]? = some (.str qual t)
  gt : @LT.lt Nat _ 198 c
abbrev TabIs (P : Addr) (ln co : Nat) (qual : Str) (tabs : List (Addr × Obj)) : Prop := tabs = [(P, tabObj #[])] ∨ ∃ c oc vs t, TabFull P ln co qual tabs c oc vs t
theorem TabFull.mem {P : Addr} {ln co : Nat} {qual : Str} {tabs rest : List (Addr × Obj)} {c : Addr} {oc : Obj} {vs : Array Value} {t : Tok} (h : TabFull P ln co qual tabs c oc vs t) : (c, oc) ∈ tabs ++ rest := by
  rw [h.is]; simp
theorem neT {P L b : Nat} {ln co : Nat} {qual : Str} {tabs tabs' rest news : List (Addr × Obj)} {c : Addr} {ob oc : Obj} {vs : Array Value} {t : Tok} (h : TabFull P ln co qual tabs' c oc vs t) (lL : ∀ p ∈ tabs ++ rest, p.1 < L) (hP : P < L)
    (hc : (c, oc) ∈ tabs ∨ ∀ q ∈ news, q.1 < c) (hb : L ≤ b) (hm : (b, ob) ∈ news) : ∀ p ∈ tabs' ++ rest, p.1 ≠ b := by
  intro p hp e
  rcases List.mem_append.mp hp with hp | hp
  · rw [h.is] at hp
    rcases List.mem_cons.mp hp with rfl | hp
    · exact absurd (Nat.lt_of_lt_of_le hP hb) (by rw [← e]; exact Nat.lt_irrefl _)
    · rcases List.mem_cons.mp hp with rfl | hp
      · rcases hc with hc | hc
        · exact absurd (Nat.lt_of_lt_of_le (lL _ (List.mem_append_left _ hc)) hb) (by rw [← e]; exact Nat.lt_irrefl _)
        · exact absurd (hc _ hm) (by rw [← e]; exact Nat.lt_irrefl _)
      · exact absurd hp List.not_mem_nil
  · exact absurd (Nat.lt_of_lt_of_le (lL _ (List.mem_append_right _ hp)) hb) (by rw [← e]; exact Nat.lt_irrefl _)
section
variable {M : Model} {A : Around} {E : Value → Shared → Prop} {s : Shared} {h₀ : Heap} {L a c P : Addr} {m mg mb : Str → Option Value} {cn : Str} {cs : Scope} {ccd : Value} {cl : List (Str × Addr)} {news tabs : List (Addr × Obj)} {g : List (Addr × Obj) → List (Addr × Obj)}
  {p : Program} {loose : List Str} {mean : ExcName → Option Value} {name qual : Str} {params : Arguments} {body : List Stmt} {scope : Scope} {pos : Pos} {firstLine : Nat} {clos : List (Str × Addr)}
theorem nest_any {Q : Value → Shared → Prop} (F : Fr h₀ L s.heap m) (N : News h₀ L s.heap news) (T : Top p loose mean mg mb h₀) (C : CodeHd h₀ c P) (hcd : ccd = .ref c) (ht : TabIs P pos.line pos.col qual tabs) (h198 : ∃ o, ((198 : Nat), o) ∈ news) (U : SwF P tabs news g)
    (hcl : closureFor scope (envX cn cs L a ccd cl) = pure clos)
    (h : ∀ f c' oc vs t ctv doc h' tk tabs', Fr h₀ L h' m →
      News h₀ L h' ((f, fnMade name qual params body scope clos doc ((mg "__name__").getD .none) c' ctv) :: g tabs') → TabFull P pos.line pos.col qual tabs' c' oc vs t →
      ((c', oc) ∈ tabs ∨ ∀ q ∈ news, q.1 < c') → (∀ q ∈ news, q.1 < f) → c' < f → Q (.ref f) { s with heap := h', toks := tk }) :
    wpAny M A (makeFunction name qual params (.stmts body) scope (envX cn cs L a ccd cl) [] [] [] pos firstLine) Q E s := by
  obtain ⟨pre, post, rfl, rfl, h1, h2⟩ := U.split
  rcases ht with rfl | ⟨c', oc, vs, t, hf⟩
  · have U' : UpdF P (tabObj #[]) (pre ++ ((P, tabObj #[]) :: post)) (fun o => pre ++ (P, o) :: post) := by
      clear N U h h198
      induction pre with
      | nil => exact UpdF.head h2
      | cons a r ih => exact UpdF.tail (h1 a (.head _)) (ih fun q hq => h1 q (.tail _ hq))
    refine nest_K F N T C hcd U' True.intro (by rfl) hcl fun f c' oc vs t ctv doc h' tk F' N' hd hv l1 l2 => ?_
    refine h f c' oc vs t ctv doc h' tk _ F' (News.sub N' fun q hq => ?_) ⟨rfl, hd, hv, by obtain ⟨o, ho⟩ := h198; exact l1 _ ho⟩ (.inr l1) (fun q hq => Nat.lt_trans (l1 q hq) l2) l2
    simp only [List.mem_cons, List.mem_append, List.cons_append, List.nil_append, Array.empty_append] at hq ⊢
    rcases hq with rfl | hq | rfl | rfl | hq
    · exact .inl rfl
    · exact .inr (.inr (.inl hq))
    · exact .inr (.inr (.inr (.inl rfl)))
    · exact .inr (.inl rfl)
    · exact .inr (.inr (.inr (.inr hq)))
  · have hf' := hf
    obtain ⟨rfl, hd, hv, _⟩ := hf
    have hb : codeAmong pos (#[rawInt (pos.line : Int), rawInt (pos.col : Int), Value.ref c'] : Array Value).toList = some (.ref c') := by
      simp [codeAmong, rawInt]
    refine nestHit_K (c' := c') F N T C hcd (List.mem_append_right _ (.head _)) (by simp [TriplesOk, rawInt]) hb hcl fun f ctv doc h' tk F' N' l1 => ?_
    exact h f c' oc vs t ctv doc h' tk _ F' N' hf' (.inl (.tail _ (.head _))) l1 (l1 (c', oc) (List.mem_append_right _ (.tail _ (.head _))))
end
abbrev Grew (tabs tabs' news : List (Addr × Obj)) : Prop := ∀ q ∈ tabs', (∃ o, (q.1, o) ∈ tabs) ∨ ∀ p ∈ news, p.1 < q.1
theorem Grew.of {P : Addr} {ln co : Nat} {qual : Str} {tabs tabs' rest news : List (Addr × Obj)} {c : Addr} {oc : Obj} {vs : Array Value} {t : Tok} (h : TabFull P ln co qual tabs' c oc vs t) (hP : ∃ o, (P, o) ∈ tabs) (hc : (c, oc) ∈ tabs ∨ ∀ q ∈ news, q.1 < c) (hs : ∀ q ∈ tabs ++ rest, q ∈ news) : Grew tabs tabs' (tabs ++ rest) := by
  intro q hq
  rw [h.is] at hq
  rcases List.mem_cons.mp hq with rfl | hq
  · exact .inl hP
  · rcases List.mem_cons.mp hq with rfl | hq
    · rcases hc with hc | hc
      · exact .inl ⟨_, hc⟩
      · exact .inr fun p hp => hc p (hs p hp)
    · exact absurd hq List.not_mem_nil
theorem Grew.ne {tabs tabs' news : List (Addr × Obj)} {b : Addr} {o : Obj} (h : Grew tabs tabs' news) (hb : (b, o) ∈ news) (hn : ∀ q ∈ tabs, q.1 ≠ b) : ∀ q ∈ tabs', q.1 ≠ b := fun q hq e => by
  rcases h q hq with ⟨o', ho⟩ | h
  · exact hn _ ho e
  · exact absurd (h _ hb) (by rw [e]; exact Nat.lt_irrefl _)
theorem newsSwap {h₀ h : Heap} {L : Addr} {a b : Addr × Obj} {r : List (Addr × Obj)} (N : News h₀ L h (a :: b :: r)) : News h₀ L h (b :: a :: r) := News.sub N fun q hq => by
  rcases List.mem_cons.mp hq with rfl | hq
  · exact .tail _ (.head _)
  · rcases List.mem_cons.mp hq with rfl | hq
    · exact .head _
    · exact .tail _ (.tail _ hq)
theorem key_of {h₀ h : Heap} {L f : Addr} {fo : Obj} {nw : List (Addr × Obj)} {G : Prop} (_ : News h₀ L h ((f, fo) :: nw)) (h : ∀ fo', fo' = fo → G) : G := h fo rfl
theorem nat_low (m S : Nat) : m &&& (m / 2 ^ S * 2 ^ S) = m / 2 ^ S * 2 ^ S := by
  rw [← Nat.shiftRight_eq_div_pow, ← Nat.shiftLeft_eq]
  apply Nat.eq_of_testBit_eq
  intro i
  rw [Nat.testBit_and, Nat.testBit_shiftLeft, Nat.testBit_shiftRight]
  by_cases h : i ≥ S
  · simp only [h, decide_true, Bool.true_and]
    rw [show S + (i - S) = i by omega, Bool.and_self]
  · simp [h]
theorem xor_low {y : Int} (h : 0 ≤ y) (S : Nat) : Builtin.bitXor y (y.fdiv (2 ^ S) * 2 ^ S) = y - y.fdiv (2 ^ S) * 2 ^ S := by
  obtain ⟨m, rfl⟩ := Int.eq_ofNat_of_zero_le h
  have e : ((m : Int).fdiv (2 ^ S) * 2 ^ S) = ((m / 2 ^ S * 2 ^ S : Nat) : Int) := by
    have e2 : (2 : Int) ^ S = ((2 ^ S : Nat) : Int) := by simp
    rw [e2, Int.fdiv_eq_ediv_of_nonneg _ (Int.natCast_nonneg _)]
    simp
  rw [e]
  unfold Builtin.bitXor
  rw [bitOr_and, bitAnd_pp (Int.natCast_nonneg _) (Int.natCast_nonneg _), Int.toNat_natCast, Int.toNat_natCast, nat_low]
  omega
theorem up_bounds {y : Int} (h : 0 ≤ y ∧ y ≤ 10000000) (S : Nat) : 0 ≤ y.fdiv (2 ^ S) ∧ y.fdiv (2 ^ S) ≤ 10000000 ∧ 0 ≤ y - y.fdiv (2 ^ S) * 2 ^ S ∧ y - y.fdiv (2 ^ S) * 2 ^ S ≤ 10000000 := by
  obtain ⟨m, rfl⟩ := Int.eq_ofNat_of_zero_le h.1
  have e2 : (2 : Int) ^ S = ((2 ^ S : Nat) : Int) := by simp
  rw [e2, Int.fdiv_eq_ediv_of_nonneg _ (Int.natCast_nonneg _)]
  have h1 : m / 2 ^ S ≤ m := Nat.div_le_self _ _
  have h2 : m / 2 ^ S * 2 ^ S ≤ m := Nat.div_mul_le_self _ _
  have e3 : ((m : Int) / ((2 ^ S : Nat) : Int)) = ((m / 2 ^ S : Nat) : Int) := rfl
  rw [e3, ← Int.natCast_mul]
  generalize m / 2 ^ S = q at *
  generalize q * 2 ^ S = r at *
  omega
theorem mid_eq {lo k hi : Nat} (h : hi = lo + k) : ((lo : Int) + (hi : Int)).fdiv (2 ^ (1 : Int).toNat) = ((lo + k / 2 : Nat) : Int) := by
  subst h
  rw [show (2 : Int) ^ (1 : Int).toNat = 2 from rfl, Int.fdiv_eq_ediv_of_nonneg _ (by decide)]
  omega
theorem sh_eq {lo k n : Nat} : (((lo + k / 2 : Nat) : Int) - (lo : Int)) * (n : Int) = ((k / 2 * n : Nat) : Int) := by
  rw [show ((lo + k / 2 : Nat) : Int) - (lo : Int) = ((k / 2 : Nat) : Int) by omega, ← Int.natCast_mul]
noncomputable def dgF (n : Nat) : Nat → Nat → Int → List Int
  | 0, _, _ => []
  | f + 1, k, x => if k = 1 then [x] else dgF n f (k / 2) (x - x.fdiv (2 ^ (k / 2 * n)) * 2 ^ (k / 2 * n)) ++ dgF n f (k - k / 2) (x.fdiv (2 ^ (k / 2 * n)))
theorem dgF_one {n f : Nat} {x : Int} (h : 1 ≤ f) : dgF n f 1 x = [x] := by
  obtain ⟨f, rfl⟩ : ∃ g, f = g + 1 := ⟨f - 1, by omega⟩
  rfl
theorem dgF_more {n f k : Nat} {x : Int} (h : k ≤ f) (hk : 1 < k) : ∃ g, f = g + 1 ∧ dgF n f k x = dgF n g (k / 2) (x - x.fdiv (2 ^ (k / 2 * n)) * 2 ^ (k / 2 * n)) ++ dgF n g (k - k / 2) (x.fdiv (2 ^ (k / 2 * n))) := by
  obtain ⟨f, rfl⟩ : ∃ g, f = g + 1 := ⟨f - 1, by omega⟩
  refine ⟨f, rfl, ?_⟩
  show (if k = 1 then _ else _) = _
  rw [if_neg (by omega)]
section
variable {prog : Program} {w : World} {A : Around} {E : Value → Shared → Prop} {s : Shared} {h₀ : Heap} {L D : Addr} {m : Str → Option Value} {rest : List (Addr × Obj)} {vs : List Value} {n i : Nat} {t : Tok} {v : Value} {Q : Unit → Shared → Prop}
theorem kiL_set : ∀ {vs : List Value} {i : Nat}, i < vs.length → ki_setL vs i v = some (vs.set i v)
  | x :: r, 0, _ => rfl
  | x :: r, i + 1, h => by
    unfold ki_setL
    rw [kiL_set (vs := r) (i := i) (by simpa using h)]
    rfl
theorem set_N (F : Fr h₀ L s.heap m) (N : News h₀ L s.heap ((D, listOf vs.toArray n) :: rest)) (hne : ∀ q ∈ rest, q.1 ≠ D) (hi : i < vs.length) (hz : vs.length ≤ 1000)
    (h : ∀ h', Fr h₀ L h' m → News h₀ L h' ((D, listOf (vs.take i ++ [v] ++ vs.drop (i + 1)).toArray n) :: rest) → Q () { s with heap := h' }) :
    wpAny (model prog w) A (setItem (.ref D) (.int (i : Int) t) v) Q E s := by
  refine ki_set (its := vs.toArray) (q := vs.set i v) F N (Int.natCast_nonneg _) (by omega) (by simpa using kiL_set hi) (Upd.head hne) fun h' F' N' => ?_
  rw [List.set_eq_take_append_cons_drop, if_pos hi] at N'
  refine h h' F' ?_
  rw [List.append_assoc]
  exact N'
end
theorem take_mid {vs ws : List Value} {lo h1 : Nat} (hw : ws.length = h1 - lo) (h : lo ≤ h1) (hv : h1 ≤ vs.length) : (vs.take lo ++ ws ++ vs.drop h1).length = vs.length ∧ (vs.take lo ++ ws ++ vs.drop h1).take h1 = vs.take lo ++ ws ∧ ∀ hi, h1 ≤ hi → (vs.take lo ++ ws ++ vs.drop h1).drop hi = vs.drop hi := by
  have hl : (vs.take lo ++ ws).length = h1 := by simp; omega
  refine ⟨by simp; omega, ?_, fun hi hh => ?_⟩
  · rw [List.take_append_of_le_length (by omega), List.take_of_length_le (by omega)]
  · rw [List.drop_append, hl, List.drop_drop, List.drop_eq_nil_of_le (by omega), List.nil_append]
    congr 1
    omega
theorem mul_ok24 {a : Int} (h : 0 ≤ a ∧ a ≤ 24) (b : Int) : IntMulOk a b := by
  refine IntMulOk.of_left ?_
  obtain ⟨k, rfl⟩ := Int.eq_ofNat_of_zero_le h.1
  have hk : k < 25 := by omega
  clear h
  revert k
  decide
theorem mul_okH {lo k n : Nat} (h : k ≤ 24) : IntMulOk (((lo + k / 2 : Nat) : Int) - (lo : Int)) (n : Int) := mul_ok24 (by omega) _
structure RevIt (o : Obj) (l : Addr) (k : Int) : Prop where
  cls : o.cls = .type "list_reverseiterator"
  data : o.data = .fields #[.ref l, rawInt k]
section
variable {prog : Program} {w : World} {A : Around} {E : Value → Shared → Prop} {s s₁ : Shared} {h₀ : Heap} {env : Env} {Q : Flow → Shared → Prop} {target : Expr} {body : List Stmt}
theorem for_revM {l I : Addr} {vs : List Value} {n : Nat} {m : Str → Option Value} {news : List (Addr × Obj)} (J : (Str → Option Value) → List (Addr × Obj) → Nat → (Str → Option Value) → List (Addr × Obj) → Prop)
    (F : Fr h₀ env.locals s₁.heap m) (N : News h₀ env.locals s₁.heap ((I, revObj l ((vs.length : Int) - 1)) :: news)) (hoff : ∀ p ∈ news, p.1 ≠ I)
    (hh : A.handled = none) (hE : PassesOwn (model prog w) A env E) (hl : ∀ i m' nx, J m news i m' nx → (l, listOf vs.toArray n) ∈ nx) (h0 : J m news 0 m news)
    (turn : ∀ (i : Nat) v m₁ nx h tk it o, i < vs.length → vs[vs.length - 1 - i]? = some v → J m news i m₁ nx → Fr h₀ env.locals h m₁ → News h₀ env.locals h ((it, o) :: nx) → (∀ p ∈ nx, p.1 ≠ it) → 
      wpAny (model prog w) A (letOwnedTupleGo target (.ref it) v) (fun _ s' => wpAny (model prog w) A (assign target env v) (fun _ s₂ => wpAny (model prog w) A (execs body env) (ForPost h₀ env.locals (J m news (i + 1)) it o { s₁ with heap := h, toks := tk } Q) E s₂) E s') E { s₁ with heap := h, toks := tk })
    (done : ∀ m₁ nx h tk, J m news vs.length m₁ nx → Fr h₀ env.locals h m₁ → News h₀ env.locals h nx → Q .next { s₁ with heap := h, toks := tk }) :
    ForAt prog w A env target body Q E (.ref I) s₁ := by
  refine wpAny_pyIter_revIter (l := l) (i := (vs.length : Int) - 1) ⟨_, (N _ (.head _)).1, rfl, rfl⟩ ?_
  refine codeAny_forLoop_any
    (fun k s' => ∃ h' tk m' nx, ∃ i : Nat, ∃ o, s' = { s₁ with heap := h', toks := tk } ∧ Fr h₀ env.locals h' m' ∧ News h₀ env.locals h' ((I, o) :: nx) ∧ (∀ p ∈ nx, p.1 ≠ I) ∧ RevIt o l ((vs.length : Int) - 1 - (i : Int)) ∧ J m news i m' nx ∧ i ≤ vs.length ∧ k = vs.length + 1 - i) ?_ (vs.length + 1)
    ⟨_, s₁.toks, m, news, 0, _, rfl, F, N, hoff, ⟨rfl, by simp [revObj]⟩, h0, Nat.zero_le _, rfl⟩
  rintro k s' ⟨h', tk, m', nx, i, o, rfl, F', N', hne, hio, hJ, hi, rfl⟩
  have hls' : h'.IsList l vs.toArray := ⟨_, (N' _ (.tail _ (hl _ _ _ hJ))).1, rfl, n, rfl⟩
  have hitL : I ≠ env.locals := (N' _ (.head _)).2.1
  have hit0 : h₀.get? I = none := (N' _ (.head _)).2.2
  by_cases hlt : i < vs.length
  · have e : (vs.length : Int) - 1 - (i : Int) = ((vs.length - 1 - i : Nat) : Int) := by omega
    have hio2 := hio.data
    rw [e] at hio2
    have hit : h'.IsRevIter I l ((vs.length - 1 - i : Nat) : Int) := ⟨o, (N' _ (.head _)).1, hio.cls, hio2⟩
    have hlt2 : vs.length - 1 - i < vs.length := by omega
    have hv : vs[vs.length - 1 - i]? = some vs[vs.length - 1 - i] := by simp [hlt2]
    refine wpAny_pyNext_rev_item (x := vs[vs.length - 1 - i]) hit hls' (by simp [hlt2]) fun h₁ hit₁ hs₁ => ?_
    obtain ⟨o₁, ho₁, hc₁, hd₁⟩ := hit₁
    have F₁ : Fr h₀ env.locals h₁ m' := by
      obtain ⟨oL, es, ep, hL, r⟩ := F'.ns
      exact ⟨⟨oL, es, ep, (hs₁.2 _ (Ne.symm hitL)).trans hL, r⟩, fun b x e => (hs₁.2 b (by rintro rfl; rw [hit0] at e; cases e)).trans (F'.keep b x e), F'.above⟩
    have N₁ : News h₀ env.locals h₁ ((I, o₁) :: nx) := fun p hp => by
      rcases List.mem_cons.mp hp with rfl | hp
      · exact ⟨ho₁, hitL, hit0⟩
      · exact ⟨(hs₁.2 _ (hne p hp)).trans (N' p (.tail _ hp)).1, (N' p (.tail _ hp)).2⟩
    have e2 : ((vs.length - 1 - i : Nat) : Int) - 1 = (vs.length : Int) - 1 - ((i + 1 : Nat) : Int) := by omega
    rw [e2] at hd₁
    refine wpAny_mono (wpAny_passesOwn hE (turn i vs[vs.length - 1 - i] m' nx h₁ tk I o₁ hlt hv hJ F₁ N₁ hne)) (fun _ s₂ h₂ => ?_) fun _ _ e => e
    refine wpAny_mono (wpAny_passesOwn hE h₂) (fun _ s₃ h₃ => ?_) fun _ _ e => e
    refine wpAny_mono (wpAny_passesOwn hE h₃) (fun f s₄ h₄ => ?_) fun _ _ e => e
    have fin : ForEnd h₀ env.locals (J m news (i + 1)) I o₁ { s₁ with heap := h₁, toks := tk } s₄ → ∃ m_1, m_1 < vs.length + 1 - i ∧ ∃ h' tk m' nx, ∃ i : Nat, ∃ o, s₄ = { s₁ with heap := h', toks := tk } ∧ Fr h₀ env.locals h' m' ∧ News h₀ env.locals h' ((I, o) :: nx) ∧ (∀ p ∈ nx, p.1 ≠ I) ∧ RevIt o l ((vs.length : Int) - 1 - (i : Int)) ∧ J m news i m' nx ∧ i ≤ vs.length ∧ m_1 = vs.length + 1 - i := by
      rintro ⟨h₅, tk₅, m₅, nx₅, rfl, F₅, N₅, hne₅, hJ₅⟩
      exact ⟨vs.length + 1 - (i + 1), by omega, h₅, tk₅, m₅, nx₅, i + 1, o₁, rfl, F₅, N₅, hne₅, ⟨hc₁, hd₁⟩, hJ₅, hlt, rfl⟩
    cases f with
    | ret v => exact h₄
    | brk => exact h₄
    | next => exact fin h₄
    | cont => exact fin h₄
  · have hin : i = vs.length := by omega
    subst hin
    have e : (vs.length : Int) - 1 - (vs.length : Int) = -1 := by omega
    have hio2 := hio.data
    rw [e] at hio2
    refine wpAny_pyNext_rev_end hh ⟨o, (N' _ (.head _)).1, hio.cls, hio2⟩ fun h₁ he₁ => wpAny_execs_nil ?_
    have F₁ : Fr h₀ env.locals h₁ m' := by
      obtain ⟨oL, es, ep, hL, r⟩ := F'.ns
      exact ⟨⟨oL, es, ep, he₁ _ _ (Ne.symm hitL) hL, r⟩, fun b x e => he₁ b x (by rintro rfl; rw [hit0] at e; cases e) (F'.keep b x e), F'.above⟩
    exact done m' nx h₁ tk hJ F₁ fun p hp => ⟨he₁ _ _ (hne p hp) (N' p (.tail _ hp)).1, (N' p (.tail _ hp)).2⟩
end
section
variable {prog : Program} {w : World} {A : Around} {E : Value → Shared → Prop} {s s₁ : Shared} {h₀ : Heap} {L : Addr} {m : Str → Option Value} {env : Env} {news : List (Addr × Obj)}
theorem sum_H {l : Addr} {items : Array Value} {Q : Value → Shared → Prop} (hh : A.handled = none) (hl : s.heap.IsList l items) (hi : AllInts items)
    (h : ∀ h' tk t', (∀ b o, s.heap.get? b = some o → h'.get? b = some o) → Q (.int (numsOf items.toList).sum t') { s with heap := h', toks := tk }) :
    wpAny (model prog w) A (call (.builtin "sum") [.ref l]) Q E s := by
  obtain ⟨xs, rfl⟩ := hi.items
  refine sum_intListG hh hl fun h' tk t' hk => ?_
  have := h h' tk t' hk
  rw [nums_intItems] at this
  rw [preSum_eq, List.take_of_length_le (by simp)]
  exact this
theorem allInts_pick {items : Array Value} {lo hi st : Option Int} (h : AllInts items) : AllInts (slicePick items lo hi st) := by
  intro v hv
  unfold slicePick at hv
  rw [List.mem_toArray, List.mem_filterMap] at hv
  obtain ⟨i, _, e⟩ := hv
  exact h v (Array.mem_of_getElem? e)
theorem slice3_H {value slice : Expr} {l : Addr} {items : Array Value} {vl vu vk : Value} {lo hi st : Option Int} {ops : List Value} {Q : Value → Shared → Prop}
    (hl : s.heap.IsList l items) (pl : IsPart vl lo) (pu : IsPart vu hi) (pk : IsPart vk st) (h0 : st ≠ some 0)
    (h : ∀ D h', (∀ b o, s.heap.get? b = some o → h'.get? b = some o) → h'.IsList D (slicePick items lo hi st) → Q (.ref D) { s with heap := h' })
    (hs : subscripted slice false (.ref l) (.ref s.heap.objs.size) = operate ops (getItem (.ref l) (.ref s.heap.objs.size)) := by with_unfolding_all rfl)
    (ht : ∀ r, letTemporaryGo value (.ref l) r = pure () := by intro _; with_unfolding_all rfl)
    (hsz : items.size ≤ sizeLine) :
    wpAny (model prog w) A (subscriptTail value slice (.ref l) (.ref s.heap.objs.size)) Q E { s with heap := s.heap.push { cls := .type "slice", data := .fields #[vl, vu, vk] } } := by
  refine subscriptTail_ops (Heap.IsList.typeIs (s := { s with heap := s.heap.push { cls := .type "slice", data := .fields #[vl, vu, vk] } }) (hl.push _)) list_getitem_lookup
    (wpAny_getItem_list_slice (hl.push _) (Heap.IsSliceOf.new ..) pl pu pk h0 ?_ hsz) hs ht
  exact h _ _ (fun b o e => Heap.get?_push_of_some _ (Heap.get?_push_of_some _ e)) ⟨_, Heap.get?_push_size _ rfl, rfl, 0, rfl⟩
theorem Fr.kept {h h' : Heap} (F : Fr h₀ L h m) (k : ∀ b o, h.get? b = some o → h'.get? b = some o) : Fr h₀ L h' m := by
  obtain ⟨oL, es, ep, hL, r⟩ := F.ns
  exact ⟨⟨oL, es, ep, k _ _ hL, r⟩, fun b o e => k _ _ (F.keep b o e), F.above⟩
theorem newsKept {h h' : Heap} (N : News h₀ L h news) (k : ∀ b o, h.get? b = some o → h'.get? b = some o) : News h₀ L h' news := fun p hp => ⟨k _ _ (N p hp).1, (N p hp).2⟩
theorem are_range' {Is : Nat → Value → Prop} : ∀ {us : List Value} {k : Nat}, (∀ (j : Nat) v, us[j]? = some v → Is (k + j) v) → Are Is us (List.range' k us.length)
  | [], _, _ => .nil
  | u :: r, k, h => .cons (h 0 u rfl) (are_range' (us := r) (k := k + 1) fun j v e => by
      have := h (j + 1) v (by simpa using e)
      rwa [show k + (j + 1) = k + 1 + j by omega] at this)
theorem are_range {Is : Nat → Value → Prop} {us : List Value} {n : Nat} (hl : us.length = n) (h : ∀ (j : Nat) v, us[j]? = some v → Is j v) : Are Is us (List.range n) := by
  rw [List.range_eq_range', ← hl]
  exact are_range' fun j v e => by rw [Nat.zero_add]; exact h j v e
noncomputable def RSrc (prog : Program) (w : World) (A : Around) (env : Env) (scope : Scope) (cl : List (Str × Addr)) (x : Str) (elt : Expr) (Is' : Nat → Value → Prop) (Q : Value → Shared → Prop) (xv : Value) (s₁ : Shared) : Prop :=
  ∃ (ax : Addr) (n : Nat) (t u v : Tok), xv = .ref ax ∧ s₁.heap.get? ax = some (rngObj n t u v) ∧ n ≤ 1000 ∧
    (∀ (i : Nat) tv C mC E' s₃, i < n → s₃.heap.Ns C mC → mC x = some (.int (i : Int) tv) → (∀ b o, s₁.heap.get? b = some o → s₃.heap.get? b = some o) →
      wpAny (model prog w) A (eval elt (compEnvC scope cl C env)) (fun y s₄ => Is' i y ∧ Keeps s₃ s₄) E' s₃) ∧
    (∀ D h' tk ys k, s₁.heap.get? D = none → h'.get? D = some (listOf ys.toArray k) → Are Is' ys (List.range n) → (∀ b o, s₁.heap.get? b = some o → h'.get? b = some o) → Q (.ref D) { s₁ with heap := h', toks := tk })
theorem comp_rng (Is' : Nat → Value → Prop) {elt iter : Expr} {x : Str} {px : Pos} {scope : Scope} {cl : List (Str × Addr)} {pos : Pos} {Q : Value → Shared → Prop}
    (hh : A.handled = none) (hclos : closureFor scope env = pure cl) (hcell : ∀ y ∈ scope.names, y.2 ≠ .cell) (hkind : scope.kind = .function)
    (hnames : ∀ y ∈ scope.names, y.2 = .local → scope.names.lookup y.1 = some .local) (hx : scope.names.lookup x = some .local)
    (h : wpAny (model prog w) A (eval iter env) (RSrc prog w A env scope cl x elt Is' Q) E s)
    (hs : ∀ x, foldedSetIterable iter env x = pure x := by intro _; rfl) :
    wpAny (model prog w) A (eval (.ListComp elt [⟨.Name x px, iter, [], 0⟩] scope pos) env) Q E s := by
  refine wpAny_ListComp_free (fun _ => true) (fun v y => ∀ (i : Nat) t, v = .int (i : Int) t → Is' i y) hclos hcell hkind hnames hx (wpAny_mono h (fun xv s₁ h₁ => ?_) fun _ _ e => e) hs
  obtain ⟨ax, n, t, u, v, rfl, hl, hn, helt, hQ⟩ := h₁
  refine wpAny_pyIter_range (a := 0) (b := (n : Int)) (c := 1) (t := t) (u := u) (v := v) hl (rng_small n hn) ?_
  rw [show Builtin.Range.rangeSize 0 (n : Int) 1 = (n : Int) by unfold Builtin.Range.rangeSize; simp; omega]
  have W0 := Walks.range (prog := prog) (w := w) (A := A) hh s₁.heap.objs.size 0 1 n
  have W : Walks prog w A s₁.heap.objs.size [s₁.heap.objs.size] [s₁.heap.objs.size] n (fun i v => i < n ∧ ∃ t, v = .int (i : Int) t) _ :=
    { sub := W0.sub, frame := W0.frame, done := W0.done, self := W0.self, item := fun i s Q E hi st hQ => W0.item i s Q E hi st fun v h' tk hp h1 h2 => hQ v h' tk ⟨hi, by simpa using hp⟩ h1 h2 }
  have keep : ∀ (h' : Heap), (∀ b o, b ∉ [s₁.heap.objs.size] → (s₁.heap.push { cls := .type "range_iterator", data := .fields #[rawInt 0, rawInt (n : Int), rawInt 1] }).get? b = some o → h'.get? b = some o) → ∀ b o, s₁.heap.get? b = some o → h'.get? b = some o :=
    fun h' hk b o e => hk b o (by intro hm; exact absurd (Heap.lt_size e) (by rw [List.mem_singleton.mp hm]; exact Nat.lt_irrefl _)) (Heap.get?_push_of_some _ e)
  refine ⟨_, _, _, n, _, _, rfl, W, by rw [sizeLine_eq]; omega, by simpa using (Heap.get?_push_size _ rfl), ?_, ⟨?_, ?_⟩, ?_⟩
  · intro b hb
    rw [Heap.size_push, List.mem_singleton.mp hb]
    exact Nat.lt_succ_self _
  · intro C i v s₃ m₃ E' _ _ _ _ _ _
    exact wpAny_pure ⟨rfl, s₃.heap, s₃.toks, rfl, fun _ _ e => e⟩
  · rintro C i v s₃ m₃ E' _ ⟨hi, tv, rfl⟩ _ hn3 hm hk _
    refine wpAny_mono (helt i tv C m₃ E' s₃ hi hn3 hm (keep _ hk)) (fun y s₄ h₄ => ⟨fun j t e => ?_, h₄.2⟩) fun _ _ e => e
    have : (i : Int) = (j : Int) := by cases e; rfl
    rw [← Int.ofNat_inj.mp this]
    exact h₄.1
  · intro D h' tk ys us hD hl' hpl hlen hP hF hk
    obtain ⟨k, hk'⟩ := hpl
    rw [List.filter_eq_self.mpr (fun _ _ => rfl)] at hF
    refine hQ D h' tk ys.toList k ?_ (by rw [hk']) ?_ (keep h' hk)
    · cases e : s₁.heap.get? D with
      | none => rfl
      | some o => rw [Heap.get?_push_of_some _ e] at hD; cases hD
    · have := (are_range (Is := fun i v => ∃ t, v = .int (i : Int) t) hlen fun j v e => (hP j v e).2).paired (Is' := Is') (f := id) hF fun a v y _ hI hf => by
        obtain ⟨t, rfl⟩ := hI
        exact hf a t rfl
      simpa using this
theorem RSrc.ofN {Is' : Nat → Value → Prop} {elt : Expr} {x : Str} {scope : Scope} {cl : List (Str × Addr)} {Q : Value → Shared → Prop} {ax : Addr} {n : Nat} {t u v : Tok}
    (F : Fr h₀ L s₁.heap m) (N : News h₀ L s₁.heap news) (hl : (ax, rngObj n t u v) ∈ news) (hn : n ≤ 1000)
    (helt : ∀ (i : Nat) tv C mC E' (s₃ : Shared), i < n → s₃.heap.Ns C mC → mC x = some (.int (i : Int) tv) → (∀ b o, s₁.heap.get? b = some o → s₃.heap.get? b = some o) → Fr h₀ L s₃.heap m → News h₀ L s₃.heap news →
      wpAny (model prog w) A (eval elt (compEnvC scope cl C env)) (fun y s₄ => Is' i y ∧ Keeps s₃ s₄) E' s₃)
    (hQ : ∀ D h' tk ys k, Fr h₀ L h' m → News h₀ L h' ((D, listOf ys.toArray k) :: news) → (∀ p ∈ news, p.1 ≠ D) → Are Is' ys (List.range n) → Q (.ref D) { s₁ with heap := h', toks := tk }) :
    RSrc prog w A env scope cl x elt Is' Q (.ref ax) s₁ :=
  ⟨ax, n, t, u, v, rfl, (N _ hl).1, hn, fun i tv C mC E' s₃ hi h1 h2 hk => helt i tv C mC E' s₃ hi h1 h2 hk (F.kept hk) (newsKept N hk), fun D h' tk ys k hD e hy hk =>
    let ⟨F', N', hne⟩ := fresh_news F N hD e hk
    hQ D h' tk ys k F' N' hne hy⟩
end
theorem are5 {α : Type} {Is : α → Value → Prop} {vs : List Value} {a b c d e : α} (h : Are Is vs [a, b, c, d, e]) : ∃ v0 v1 v2 v3 v4, vs = [v0, v1, v2, v3, v4] ∧ Is a v0 ∧ Is b v1 ∧ Is c v2 ∧ Is d v3 ∧ Is e v4 := by
  cases h with | cons h0 h => cases h with | cons h1 h => cases h with | cons h2 h => cases h with | cons h3 h => cases h with | cons h4 h => cases h with | nil => exact ⟨_, _, _, _, _, rfl, h0, h1, h2, h3, h4⟩
noncomputable def DigRow (ds : List Int) : Prop := ∃ a b c d e : Int, (1 ≤ a ∧ a ≤ 2) ∧ (0 ≤ b ∧ b ≤ 2) ∧ (0 ≤ c ∧ c ≤ 2) ∧ (0 ≤ d ∧ d ≤ 2) ∧ (0 ≤ e ∧ e ≤ 2) ∧ ds = [a, b, c, d, e, 0]
theorem fm2 (a : Int) : 0 ≤ a.fmod 2 ∧ a.fmod 2 ≤ 1 := by
  have h1 := Int.fmod_nonneg_of_pos a (b := 2) (by decide)
  have h2 := Int.fmod_lt_of_pos a (b := 2) (by decide)
  omega
theorem fm3 (a : Int) : 0 ≤ a.fmod 3 ∧ a.fmod 3 ≤ 2 := by
  have h1 := Int.fmod_nonneg_of_pos a (b := 3) (by decide)
  have h2 := Int.fmod_lt_of_pos a (b := 3) (by decide)
  omega
theorem fm21 (a : Int) : 1 ≤ 1 + a.fmod 2 := by have := fm2 a; omega
theorem fm22 (a : Int) : 1 + a.fmod 2 ≤ 2 := by have := fm2 a; omega
theorem nameOf_cons {base d : Int} {ds : List Int} : nameOf base (d :: ds) = (⟨#[(base + d).toNat]⟩ : Str) ++ nameOf base ds := by
  show nameOf base (d :: ds) = ⟨#[(base + d).toNat] ++ (nameOf base ds).cps⟩
  unfold nameOf
  simp
theorem foldl_rep {α : Type} (c : α) : ∀ (k : Nat) (acc : Array α), (List.replicate k #[c]).foldl (fun x y => x ++ y) acc = acc ++ (List.replicate k c).toArray
  | 0, acc => by simp
  | k + 1, acc => by
    rw [List.replicate_succ, List.foldl_cons, foldl_rep c k, Array.append_assoc]
    congr 1
    simp [List.replicate_succ]
theorem mulTxt {base : Int} {n : Nat} : Txt.mul (⟨#[base.toNat]⟩ : Str) (n : Int) = nameOf base (List.replicate n 0) := by
  unfold Txt.mul nameOf
  rcases n with _ | _ | n
  · rfl
  · simp [Str.length]
  · rw [if_neg (by omega), if_neg (by simp [Str.length]; omega), foldl_rep]
    simp
    omega
section
variable {prog : Program} {w : World} {A : Around} {E : Value → Shared → Prop} {s₁ : Shared} {h₀ : Heap} {env : Env} {Q : Flow → Shared → Prop} {test : Expr} {body orelse : List Stmt}
noncomputable def WEnd (h₀ : Heap) (L : Addr) (J : Nat → (Str → Option Value) → List (Addr × Obj) → Prop) (k : Nat) (s₁ s₂ : Shared) : Prop :=
  ∃ j, j < k ∧ ∃ h' tk m' nx', s₂ = { s₁ with heap := h', toks := tk } ∧ Fr h₀ L h' m' ∧ News h₀ L h' nx' ∧ J j m' nx'
noncomputable def WPost (h₀ : Heap) (L : Addr) (J : Nat → (Str → Option Value) → List (Addr × Obj) → Prop) (k : Nat) (s₁ : Shared) (Q : Flow → Shared → Prop) (f : Flow) (s₂ : Shared) : Prop :=
  match f with
  | .ret v => Q (.ret v) s₂
  | .brk => Q .next s₂
  | _ => WEnd h₀ L J k s₁ s₂
theorem WEnd.intro {L : Addr} {J : Nat → (Str → Option Value) → List (Addr × Obj) → Prop} {k : Nat} {h' : Heap} {tk : Nat} {m' : Str → Option Value} {news' : List (Addr × Obj)} (j : Nat) (nx' : List (Addr × Obj))
    (hj : j < k) (F : Fr h₀ L h' m') (N : News h₀ L h' news') (hs : ∀ p ∈ nx', p ∈ news') (hJ : J j m' nx') : WEnd h₀ L J k s₁ { s₁ with heap := h', toks := tk } :=
  ⟨j, hj, h', tk, m', nx', rfl, F, News.sub N hs, hJ⟩
theorem while_M (J : Nat → (Str → Option Value) → List (Addr × Obj) → Prop) (hE : PassesOwn (model prog w) A env E)
    (turn : ∀ (k : Nat) m₁ nx h tk, J k m₁ nx → Fr h₀ env.locals h m₁ → News h₀ env.locals h nx →
      wpAny (model prog w) A (isTrue test env (eval test env)) (fun b s₂ => if b = true then wpAny (model prog w) A (execs body env) (WPost h₀ env.locals J k { s₁ with heap := h, toks := tk } Q) E s₂ else wpAny (model prog w) A (execs orelse env) Q E s₂) E { s₁ with heap := h, toks := tk }) :
    ∀ (k : Nat) m₁ nx h tk, J k m₁ nx → Fr h₀ env.locals h m₁ → News h₀ env.locals h nx → WhlRest prog w A E env test body orelse Q 1 { s₁ with heap := h, toks := tk } := by
  intro k
  induction k using Nat.strongRecOn with
  | ind k ih =>
    intro m₁ nx h tk hJ F N
    refine whl_turn (k := 0) hE (wpAny_mono (turn k m₁ nx h tk hJ F N) (fun b s₂ h₂ => ?_) fun _ _ e => e)
    unfold WhlIf
    by_cases hb : b = true
    · rw [if_pos hb] at h₂ ⊢
      refine wpAny_mono h₂ (fun f s₃ h₃ => ?_) fun _ _ e => e
      have fin : WEnd h₀ env.locals J k { s₁ with heap := h, toks := tk } s₃ → WhlRest prog w A E env test body orelse Q 0 s₃ := by
        rintro ⟨j, hj, h', tk', m', nx', rfl, F', N', hJ'⟩
        exact ih j hj m' nx' h' tk' hJ' F' N'
      cases f with
      | ret v => exact h₃
      | brk => exact h₃
      | next => exact fin h₃
      | cont => exact fin h₃
    · rw [if_neg hb] at h₂ ⊢
      exact h₂
noncomputable def WhlAt (prog : Program) (w : World) (A : Around) (E : Value → Shared → Prop) (env : Env) (test : Expr) (body orelse : List Stmt) (Q : Flow → Shared → Prop) (s : Shared) : Prop := WhlRest prog w A E env test body orelse Q 1 s
theorem while_at {pos : Pos} (h : WhlAt prog w A E env test body orelse Q s₁) : wpAny (model prog w) A (exec (.While test body orelse pos) env) Q E s₁ := whl_start 1 h
end
section
variable {prog : Program} {w : World} {A : Around} {E : Value → Shared → Prop} {s s₁ : Shared} {h₀ : Heap} {L : Addr} {m : Str → Option Value} {env : Env} {news : List (Addr × Obj)}
noncomputable def SSrc (prog : Program) (w : World) (A : Around) (env : Env) (scope : Scope) (cl : List (Str × Addr)) (x : Str) (elt : Expr) (f : Nat → Int) (Q : Value → Shared → Prop) (xv : Value) (s₁ : Shared) : Prop :=
  ∃ (y : Str) (t : Tok), xv = .str y t ∧ y.cps.size ≤ 1000 ∧
    (∀ (c : Nat) tv C mC E' s₃, c ∈ y.cps.toList → s₃.heap.Ns C mC → mC x = some (.str (⟨#[c]⟩ : Str) tv) → (∀ b o, s₁.heap.get? b = some o → s₃.heap.get? b = some o) →
      wpAny (model prog w) A (eval elt (compEnvC scope cl C env)) (fun v s₄ => IsInt (f c) v ∧ Keeps s₃ s₄) E' s₃) ∧
    (∀ D h' tk ys k, s₁.heap.get? D = none → h'.get? D = some (listOf ys.toArray k) → Are IsInt ys (y.cps.toList.map f) → (∀ b o, s₁.heap.get? b = some o → h'.get? b = some o) → Q (.ref D) { s₁ with heap := h', toks := tk })
theorem are_get {α : Type} {Is : α → Value → Prop} : ∀ {us : List Value} {as : List α}, us.length = as.length → (∀ (j : Nat) v, us[j]? = some v → ∃ a, as[j]? = some a ∧ Is a v) → Are Is us as
  | [], [], _, _ => .nil
  | u :: us, a :: as, hl, h => by
    obtain ⟨a', e, hI⟩ := h 0 u rfl
    have e' : a = a' := by simpa using e
    subst e'
    exact .cons hI (are_get (by simpa using hl) fun j v e => by
      obtain ⟨b, e1, e2⟩ := h (j + 1) v (by simpa using e)
      exact ⟨b, by simpa using e1, e2⟩)
theorem comp_str (f : Nat → Int) {elt iter : Expr} {x : Str} {px : Pos} {scope : Scope} {cl : List (Str × Addr)} {pos : Pos} {Q : Value → Shared → Prop}
    (hh : A.handled = none) (hclos : closureFor scope env = pure cl) (hcell : ∀ y ∈ scope.names, y.2 ≠ .cell) (hkind : scope.kind = .function)
    (hnames : ∀ y ∈ scope.names, y.2 = .local → scope.names.lookup y.1 = some .local) (hx : scope.names.lookup x = some .local)
    (h : wpAny (model prog w) A (eval iter env) (SSrc prog w A env scope cl x elt f Q) E s)
    (hs : ∀ x, foldedSetIterable iter env x = pure x := by intro _; rfl) :
    wpAny (model prog w) A (eval (.ListComp elt [⟨.Name x px, iter, [], 0⟩] scope pos) env) Q E s := by
  refine wpAny_ListComp_free (fun _ => true) (fun v y => ∀ (c : Nat) t, v = .str (⟨#[c]⟩ : Str) t → IsInt (f c) y) hclos hcell hkind hnames hx (wpAny_mono h (fun xv s₁ h₁ => ?_) fun _ _ e => e) hs
  obtain ⟨y, t, rfl, hn, helt, hQ⟩ := h₁
  refine wpAny_pyIter_str fun o St hW hSt => ?_
  have W := hW A hh
  have keep : ∀ (h' : Heap), (∀ b o', b ∉ [s₁.heap.objs.size] → (s₁.heap.push o).get? b = some o' → h'.get? b = some o') → ∀ b o', s₁.heap.get? b = some o' → h'.get? b = some o' :=
    fun h' hk b o e => hk b o (by intro hm; exact absurd (Heap.lt_size e) (by rw [List.mem_singleton.mp hm]; exact Nat.lt_irrefl _)) (Heap.get?_push_of_some _ e)
  refine ⟨_, _, _, _, _, _, rfl, W, by rw [sizeLine_eq]; omega, hSt, ?_, ⟨?_, ?_⟩, ?_⟩
  · intro b hb
    rw [Heap.size_push, List.mem_singleton.mp hb]
    exact Nat.lt_succ_self _
  · intro C i v s₃ m₃ E' _ _ _ _ _ _
    exact wpAny_pure ⟨rfl, s₃.heap, s₃.toks, rfl, fun _ _ e => e⟩
  · rintro C i v s₃ m₃ E' _ ⟨c, tv, hc, rfl⟩ _ hn3 hm hk _
    have hmem : c ∈ y.cps.toList := List.mem_of_getElem? (i := i) (by simpa using hc)
    refine wpAny_mono (helt c tv C m₃ E' s₃ hmem hn3 hm (keep _ hk)) (fun v s₄ h₄ => ⟨fun j t e => ?_, h₄.2⟩) fun _ _ e => e
    have : c = j := by
      have := Value.str.inj e
      have := congrArg Str.cps this.1
      simpa using this
    rw [← this]
    exact h₄.1
  · intro D h' tk ys us hD hl' hpl hlen hP hF hk
    obtain ⟨k, hk'⟩ := hpl
    rw [List.filter_eq_self.mpr (fun _ _ => rfl)] at hF
    refine hQ D h' tk ys.toList k ?_ (by rw [hk']) ?_ (keep h' hk)
    · cases e : s₁.heap.get? D with
      | none => rfl
      | some o => rw [Heap.get?_push_of_some _ e] at hD; cases hD
    · exact (are_get (Is := fun (c : Nat) v => ∃ t, v = .str (⟨#[c]⟩ : Str) t) (as := y.cps.toList) (by rw [hlen]; simp) fun j v e => by
        obtain ⟨c, t, hc, rfl⟩ := hP j v e
        exact ⟨c, by simpa using hc, t, rfl⟩).paired (f := f) hF fun a v y _ hI hf => by
          obtain ⟨t, rfl⟩ := hI
          exact hf a t rfl
theorem SSrc.ofN {f : Nat → Int} {elt : Expr} {x y : Str} {t : Tok} {scope : Scope} {cl : List (Str × Addr)} {Q : Value → Shared → Prop}
    (F : Fr h₀ L s₁.heap m) (N : News h₀ L s₁.heap news) (hn : y.cps.size ≤ 1000)
    (helt : ∀ (c : Nat) tv C mC E' (s₃ : Shared), c ∈ y.cps.toList → s₃.heap.Ns C mC → mC x = some (.str (⟨#[c]⟩ : Str) tv) → (∀ b o, s₁.heap.get? b = some o → s₃.heap.get? b = some o) → Fr h₀ L s₃.heap m → News h₀ L s₃.heap news →
      wpAny (model prog w) A (eval elt (compEnvC scope cl C env)) (fun v s₄ => IsInt (f c) v ∧ Keeps s₃ s₄) E' s₃)
    (hQ : ∀ D h' tk ys k, Fr h₀ L h' m → News h₀ L h' ((D, listOf ys.toArray k) :: news) → (∀ p ∈ news, p.1 ≠ D) → Are IsInt ys (y.cps.toList.map f) → Q (.ref D) { s₁ with heap := h', toks := tk }) :
    SSrc prog w A env scope cl x elt f Q (.str y t) s₁ :=
  ⟨y, t, rfl, hn, fun c tv C mC E' s₃ hi h1 h2 hk => helt c tv C mC E' s₃ hi h1 h2 hk (F.kept hk) (newsKept N hk), fun D h' tk ys k hD e hy hk =>
    let ⟨F', N', hne⟩ := fresh_news F N hD e hk
    hQ D h' tk ys k F' N' hne hy⟩
end
theorem name_char {base : Int} {ds : List Int} (hb : Okb base) (hd : Oki ds) : ∀ c ∈ (nameOf base ds).cps.toList, 97 ≤ c ∧ c ≤ 122 := by
  intro c hc
  simp only [nameOf, List.mem_map, List.toList_toArray] at hc
  obtain ⟨d, hd', rfl⟩ := hc
  have := hd d hd'
  omega
theorem lo1_low : ∀ c, 97 ≤ c → c ≤ 122 → lo1 c = c := by
  intro c h1 h2
  unfold lo1
  rw [if_neg (by omega)]
theorem map_fix {a : Array Nat} {f : Nat → Nat} (h : ∀ c ∈ a.toList, f c = c) : a.map f = a := by
  apply Array.toList_inj.mp
  rw [Array.toList_map]
  have e : List.map f a.toList = List.map id a.toList := List.map_congr_left h
  rw [e, List.map_id]
theorem lo1_up1 : ∀ c, 97 ≤ c → c ≤ 122 → lo1 (up1 c) = c ∧ 65 ≤ up1 c ∧ up1 c ≤ 90 := by
  intro c h1 h2
  unfold up1
  rw [if_pos ⟨h1, h2⟩]
  unfold lo1
  rw [if_pos (by omega)]
  omega
theorem lower_name {base : Int} {ds : List Int} (hb : Okb base) (hd : Oki ds) : Txt.lower (nameOf base ds) = nameOf base ds := by
  have hc := name_char hb hd
  rw [lower_ascii fun c h => by have := hc c h; omega]
  exact congrArg Str.mk (map_fix fun c h => lo1_low c (hc c h).1 (hc c h).2)
theorem upper_name {base : Int} {ds : List Int} (hb : Okb base) (hd : Oki ds) : Txt.upper (nameOf base ds) = ⟨(nameOf base ds).cps.map up1⟩ := by
  have hc := name_char hb hd
  exact upper_ascii fun c h => by have := hc c h; omega
theorem lower_upper_name {base : Int} {ds : List Int} (hb : Okb base) (hd : Oki ds) : Txt.lower (Txt.upper (nameOf base ds)) = nameOf base ds := by
  have hc := name_char hb hd
  rw [upper_name hb hd, lower_ascii fun c h => by
    simp only [Array.toList_map, List.mem_map] at h
    obtain ⟨d, hd', rfl⟩ := h
    have := lo1_up1 d (hc d hd').1 (hc d hd').2
    omega]
  show Str.mk (((nameOf base ds).cps.map up1).map lo1) = _
  rw [Array.map_map]
  exact congrArg Str.mk (map_fix fun c h => (lo1_up1 c (hc c h).1 (hc c h).2).1)
theorem nameOf_inj {base : Int} {ds es : List Int} (hb : Okb base) (hd : Oki ds) (he : Oki es) (h : nameOf base ds = nameOf base es) : ds = es := by
  have h' : ds.map (fun d => (base + d).toNat) = es.map (fun d => (base + d).toNat) := by
    have := congrArg (fun s => s.cps.toList) h
    simpa [nameOf] using this
  clear h
  induction ds generalizing es with
  | nil => cases es with
    | nil => rfl
    | cons e es => simp at h'
  | cons d ds ih => cases es with
    | nil => simp at h'
    | cons e es =>
      simp only [List.map_cons, List.cons.injEq] at h'
      have h1 := hd d (.head _)
      have h2 := he e (.head _)
      have : d = e := by have := h'.1; omega
      rw [this, ih (fun x hx => hd x (.tail _ hx)) (fun x hx => he x (.tail _ hx)) h'.2]
noncomputable def nameW (base : Int) (row : List Int) (up : Bool) : Str := if up then Txt.upper (nameOf base row) else nameOf base row
theorem lower_nameW {base : Int} {ds : List Int} {up : Bool} (hb : Okb base) (hd : Oki ds) : Txt.lower (nameW base ds up) = nameOf base ds := by
  unfold nameW
  cases up
  · exact lower_name hb hd
  · exact lower_upper_name hb hd
theorem ok_name {base : Int} {ds : List Int} (hb : Okb base) (hd : Oki ds) : okText (nameOf base ds) := fun c h => by
  have := name_char hb hd c h
  exact ⟨by omega, by omega⟩
theorem ok_nameW {base : Int} {ds : List Int} {up : Bool} (hb : Okb base) (hd : Oki ds) : okText (nameW base ds up) := by
  unfold nameW
  cases up
  · exact ok_name hb hd
  · intro c h
    rw [if_pos rfl, upper_name hb hd] at h
    simp only [Array.toList_map, List.mem_map] at h
    obtain ⟨d, hd', rfl⟩ := h
    have := name_char hb hd d hd'
    have := lo1_up1 d this.1 this.2
    exact ⟨by omega, by omega⟩
theorem len_nameW {base : Int} {ds : List Int} {up : Bool} (hb : Okb base) (hd : Oki ds) : (nameW base ds up).length = ds.length := by
  unfold nameW
  cases up
  · exact nameOf_length
  · rw [if_pos rfl, upper_name hb hd]
    simp [Str.length, nameOf]
theorem ord_name {base : Int} {ds : List Int} (hb : Okb base) (hd : Oki ds) : (nameOf base ds).cps.toList.map (fun c : Nat => (c : Int) - base) = ds := by
  simp only [nameOf, List.toList_toArray, List.map_map]
  conv => rhs; rw [← List.map_id ds]
  apply List.map_congr_left
  intro d h
  have := hd d h
  simp only [Function.comp_apply, id_eq]
  omega
abbrev BK := List (List Int × Bool × Nat)
abbrev BSt := BK × List (List Int)
noncomputable def V (r : List Int) : Prop := r.length = 6 ∧ Oki r
noncomputable def exRAt (ds : List Int) (k : Nat) : List (List Int × Bool) :=
  (if ds.getD k 0 = 0 ∧ ds.getD (k + 1) 0 > 0 then [(ds.take k ++ [2, ds.getD (k + 1) 0 - 1] ++ ds.drop (k + 2), true)] else []) ++
  (if ds.getD k 0 = 2 ∧ ds.getD (k + 1) 0 < 2 then [(ds.take k ++ [0, ds.getD (k + 1) 0 + 1] ++ ds.drop (k + 2), false)] else [])
noncomputable def exR (ds : List Int) : List (List Int × Bool) := (List.range 5).flatMap (exRAt ds)
noncomputable def stepW (c : Nat) (st : BSt) (w : List Int × Bool) : BSt := if st.1.any (fun e => e.1 == w.1) then st else (st.1 ++ [(w.1, w.2, c)], st.2 ++ [w.1])
noncomputable def stepP (c : Nat) (st : BSt) (row : List Int) : BSt := (exR row).foldl (stepW c) st
noncomputable def bfsAt (start : List Int) : Nat → BSt
  | 0 => ([(start, false, 0)], [start])
  | c + 1 => (bfsAt start c).2.foldl (stepP (c + 1)) ((bfsAt start c).1, [])
theorem exRAt_ok {ds : List Int} (h : V ds) {k : Nat} (hk : k < 5) : ∀ w ∈ exRAt ds k, V w.1 := by
  have hd0 : 0 ≤ ds.getD k 0 ∧ ds.getD k 0 ≤ 2 := h.2 _ (by rw [List.getD_eq_getElem?_getD, List.getElem?_eq_getElem (by rw [h.1]; omega)]; exact List.getElem_mem _)
  have hd1 : 0 ≤ ds.getD (k + 1) 0 ∧ ds.getD (k + 1) 0 ≤ 2 := h.2 _ (by rw [List.getD_eq_getElem?_getD, List.getElem?_eq_getElem (by rw [h.1]; omega)]; exact List.getElem_mem _)
  intro w hw
  unfold exRAt at hw
  rcases List.mem_append.mp hw with hw | hw
  · split at hw
    · rw [List.mem_singleton.mp hw]
      exact ⟨row_len h.1 hk _ _, row_ok h.2 k (by omega) (by omega)⟩
    · exact absurd hw List.not_mem_nil
  · split at hw
    · rw [List.mem_singleton.mp hw]
      exact ⟨row_len h.1 hk _ _, row_ok h.2 k (by omega) (by omega)⟩
    · exact absurd hw List.not_mem_nil
theorem exR_ok {ds : List Int} (h : V ds) : ∀ w ∈ exR ds, V w.1 := by
  intro w hw
  obtain ⟨k, hk, hw⟩ := List.mem_flatMap.mp hw
  exact exRAt_ok h (List.mem_range.mp hk) w hw
structure Good (st : BSt) : Prop where
  b : ∀ e ∈ st.1, V e.1
  q : ∀ r ∈ st.2, V r
  l : st.2.length ≤ st.1.length
theorem stepW_good {c : Nat} {st : BSt} {w : List Int × Bool} (h : Good st) (hw : V w.1) : Good (stepW c st w) := by
  unfold stepW
  split
  · exact h
  · refine ⟨fun e he => ?_, fun r hr => ?_, by simp only [List.length_append, List.length_cons, List.length_nil]; have := h.l; omega⟩
    · rcases List.mem_append.mp he with he | he
      · exact h.b e he
      · rw [List.mem_singleton.mp he]; exact hw
    · rcases List.mem_append.mp hr with hr | hr
      · exact h.q r hr
      · rw [List.mem_singleton.mp hr]; exact hw
theorem foldW_good {c : Nat} : ∀ {ws : List (List Int × Bool)} {st : BSt}, Good st → (∀ w ∈ ws, V w.1) → Good (ws.foldl (stepW c) st)
  | [], _, h, _ => h
  | w :: ws, st, h, hw => foldW_good (ws := ws) (stepW_good h (hw w (.head _))) fun x hx => hw x (.tail _ hx)
theorem stepP_good {c : Nat} {st : BSt} {r : List Int} (h : Good st) (hr : V r) : Good (stepP c st r) := foldW_good h (exR_ok hr)
theorem foldP_good {c : Nat} : ∀ {rs : List (List Int)} {st : BSt}, Good st → (∀ r ∈ rs, V r) → Good (rs.foldl (stepP c) st)
  | [], _, h, _ => h
  | r :: rs, st, h, hr => foldP_good (rs := rs) (stepP_good h (hr r (.head _))) fun x hx => hr x (.tail _ hx)
theorem bfs_good {start : List Int} (h : V start) : ∀ c, Good (bfsAt start c)
  | 0 => ⟨fun e he => by rw [List.mem_singleton.mp he]; exact h, fun r hr => by rw [List.mem_singleton.mp hr]; exact h, Nat.le_refl _⟩
  | c + 1 => foldP_good ⟨(bfs_good h c).b, fun r hr => absurd hr List.not_mem_nil, Nat.zero_le _⟩ (bfs_good h c).q
theorem stepW_len {c : Nat} {st : BSt} {w : List Int × Bool} : st.1.length ≤ (stepW c st w).1.length := by
  unfold stepW
  split
  · exact Nat.le_refl _
  · simp
theorem foldW_len {c : Nat} : ∀ {ws : List (List Int × Bool)} {st : BSt}, st.1.length ≤ (ws.foldl (stepW c) st).1.length
  | [], _ => Nat.le_refl _
  | _ :: ws, _ => Nat.le_trans stepW_len (foldW_len (ws := ws))
theorem foldP_len {c : Nat} : ∀ {rs : List (List Int)} {st : BSt}, st.1.length ≤ (rs.foldl (stepP c) st).1.length
  | [], _ => Nat.le_refl _
  | _ :: rs, _ => Nat.le_trans foldW_len (foldP_len (rs := rs))
theorem bfs_len1 {start : List Int} (c : Nat) : (bfsAt start c).1.length ≤ (bfsAt start (c + 1)).1.length := foldP_len (c := c + 1) (rs := (bfsAt start c).2) (st := ((bfsAt start c).1, []))
theorem bfs_len {start : List Int} {c N : Nat} (h : c ≤ N) : (bfsAt start c).1.length ≤ (bfsAt start N).1.length := by
  induction N with
  | zero => rw [show c = 0 by omega]; exact Nat.le_refl _
  | succ N ih =>
    rcases Nat.lt_or_ge c (N + 1) with h1 | h1
    · exact Nat.le_trans (ih (by omega)) (bfs_len1 N)
    · rw [show c = N + 1 by omega]; exact Nat.le_refl _
theorem bfs_stop {start : List Int} {c : Nat} (h : (bfsAt start c).2 = []) : ∀ j, (bfsAt start (c + j)).1 = (bfsAt start c).1 ∧ (bfsAt start (c + j)).2 = []
  | 0 => ⟨rfl, h⟩
  | j + 1 => by
    obtain ⟨h1, h2⟩ := bfs_stop h j
    show ((bfsAt start (c + j)).2.foldl (stepP (c + j + 1)) ((bfsAt start (c + j)).1, [])).1 = _ ∧ _
    constructor
    · rw [h2]; exact h1
    · show ((bfsAt start (c + j)).2.foldl (stepP (c + j + 1)) ((bfsAt start (c + j)).1, [])).2 = []
      rw [h2]; rfl
theorem fold_at {α β : Type} {f : α → β → α} {a : α} {l : List β} {i : Nat} {x : β} (h : l[i]? = some x) : (l.take (i + 1)).foldl f a = f ((l.take i).foldl f a) x := by
  rw [List.take_add_one, h, List.foldl_append]
  rfl
/-- the length at any place within a round is at most that at its end -/
theorem mid_len {c : Nat} {rs : List (List Int)} {st : BSt} {i j : Nat} {r : List Int} (h : rs[i]? = some r) : (((exR r).take j).foldl (stepW c) ((rs.take i).foldl (stepP c) st)).1.length ≤ (rs.foldl (stepP c) st).1.length := by
  have e1 : rs = rs.take i ++ r :: rs.drop (i + 1) := by
    conv => lhs; rw [← List.take_append_drop i rs]
    congr 1
    have hi := (List.getElem?_eq_some_iff.mp h)
    obtain ⟨hi, hr⟩ := hi
    rw [List.drop_eq_getElem_cons hi, hr]
  have e2 : rs.foldl (stepP c) st = (rs.drop (i + 1)).foldl (stepP c) (stepP c ((rs.take i).foldl (stepP c) st) r) := by
    conv => lhs; rw [e1, List.foldl_append, List.foldl_cons]
  rw [e2]
  refine Nat.le_trans ?_ foldP_len
  unfold stepP
  conv => rhs; rw [← List.take_append_drop j (exR r), List.foldl_append]
  exact foldW_len
noncomputable def numW (c : Nat) : Str := Str.ofString (toString (c : Int))
theorem numW_ok : ∀ c, c < 10 → okText (numW c) ∧ (numW c).length ≤ 10 := by
  unfold okText okSign
  decide +kernel
noncomputable def bookE (base : Int) (bk : BK) : List (Str × Str) := bk.map fun e => (nameW base e.1 e.2.1, numW e.2.2)
theorem book_any {base : Int} {bk : BK} {row : List Int} {up : Bool} (hb : Okb base) (hk : ∀ e ∈ bk, V e.1) (hr : V row) : ((bookE base bk).any fun e => Txt.lower e.1 == Txt.lower (nameW base row up)) = bk.any fun e => e.1 == row := by
  unfold bookE
  rw [List.any_map, lower_nameW hb hr.2]
  apply Bool.eq_iff_iff.mpr
  rw [List.any_eq_true, List.any_eq_true]
  constructor
  · rintro ⟨e, he, h⟩
    refine ⟨e, he, ?_⟩
    simp only [Function.comp_apply] at h
    rw [lower_nameW hb (hk e he).2] at h
    exact beq_iff_eq.mpr (nameOf_inj hb (hk e he).2 hr.2 (eq_of_beq h))
  · rintro ⟨e, he, h⟩
    refine ⟨e, he, ?_⟩
    simp only [Function.comp_apply]
    rw [lower_nameW hb (hk e he).2, eq_of_beq h]
    exact beq_self_eq_true _
theorem book_len {base : Int} {bk : BK} (hb : Okb base) (hk : ∀ e ∈ bk, V e.1) : ∀ e ∈ bookE base bk, e.1.length ≤ 1000 := by
  intro e he
  obtain ⟨x, hx, rfl⟩ := List.mem_map.mp he
  show (nameW base x.1 x.2.1).length ≤ 1000
  rw [len_nameW hb (hk x hx).2, (hk x hx).1]
  decide
theorem bookE_length {base : Int} {bk : BK} : (bookE base bk).length = bk.length := List.length_map ..
theorem num0 : Str.ofString "0" = numW 0 := by decide +kernel
theorem num0_ok : okText (Str.ofString "0") := by rw [num0]; exact (numW_ok 0 (by decide)).1
theorem ks_canLayAll0 : ∀ ns : List Str, (∀ x ∈ ns, PyData.strOk x = true) → PyData.canLayAll0 (ns.map PyData.str) = true
  | [], _ => rfl
  | x :: r, h => by simp [PyData.canLayAll0, PyData.canLay0, ks_canLayAll0 r fun y hy => h y (.tail _ hy), h x (.head _)]
theorem ks_depthAll : ∀ ns : List Str, PyData.depthAll (ns.map PyData.str) = 0
  | [] => rfl
  | _ :: r => by simp [PyData.depthAll, PyData.depth, ks_depthAll r]
theorem ks_shaped (ns : List Str) (h : ∀ x ∈ ns, PyData.strOk x = true) : SeqAt.shaped (.list (ns.map PyData.str)) = true := by
  simp [SeqAt.shaped, PyData.canLay0, PyData.depth, ks_canLayAll0 ns h, ks_depthAll]
theorem ks_sameAll : ∀ ns ms : List Str, PySem.Spec.sameAll (ns.map PyData.str) (ms.map PyData.str) = decide (ns = ms)
  | [], [] => by simp [PySem.Spec.sameAll]
  | [], _ :: _ => by simp [PySem.Spec.sameAll]
  | _ :: _, [] => by simp [PySem.Spec.sameAll]
  | a :: r, b :: t => by
    simp only [List.map_cons, PySem.Spec.sameAll, PySem.Spec.same, ks_sameAll r t]
    by_cases h : a = b <;> by_cases h' : r = t <;> simp [h, h']
theorem ks_same (ns ms : List Str) : PySem.Spec.same (.list (ns.map PyData.str)) (.list (ms.map PyData.str)) = decide (ns = ms) := by
  simp only [PySem.Spec.same]; exact ks_sameAll ns ms
theorem ks_carried {vs : List Value} {ns : List Str} (h : Are IsStr vs ns) : CarriedAll vs (ns.map PyData.str) := by
  induction h with
  | nil => exact .nil
  | cons h1 _ ih =>
    obtain ⟨t, rfl⟩ := h1
    exact .cons (.str _ t) ih
section
variable {prog : Program} {w : World} {A : Around} {E : Value → Shared → Prop} {s : Shared} {a b : Addr} {xs ys : List Value} {ns ms : List Str} {Q : Value → Shared → Prop} {h₀ : Heap} {L : Addr} {news : List (Addr × Obj)} {k k2 : Nat}
theorem eq_strs (N : News h₀ L s.heap news) (ha : (a, listOf xs.toArray k) ∈ news) (hb : (b, listOf ys.toArray k2) ∈ news) (hi : Are IsStr xs ns) (hj : Are IsStr ys ms) (hoi : ∀ x ∈ ns, PyData.strOk x = true) (hoj : ∀ x ∈ ms, PyData.strOk x = true) (hu : A.units + 64 < cLine) (h : Q (.bool (decide (ns = ms))) s) :
    wpAny (model prog w) A (compareOp .Eq (.ref a) (.ref b)) Q E s :=
  eq_dataH_same (reads_newData ⟨_, (N _ ha).1, rfl, k, rfl⟩ (ks_carried hi)) (reads_newData ⟨_, (N _ hb).1, rfl, k2, rfl⟩ (ks_carried hj)) (ks_shaped _ hoi) (ks_shaped _ hoj) hu (SeqAt.noMix_of_shape (.list .str) rfl _ _ (list_map_has fun _ => rfl) (list_map_has fun _ => rfl)) (by rw [ks_same]; exact h)
theorem ne_strs (N : News h₀ L s.heap news) (ha : (a, listOf xs.toArray k) ∈ news) (hb : (b, listOf ys.toArray k2) ∈ news) (hi : Are IsStr xs ns) (hj : Are IsStr ys ms) (hoi : ∀ x ∈ ns, PyData.strOk x = true) (hoj : ∀ x ∈ ms, PyData.strOk x = true) (hu : A.units + 64 < cLine) (h : Q (.bool (!decide (ns = ms))) s) :
    wpAny (model prog w) A (compareOp .NotEq (.ref a) (.ref b)) Q E s :=
  ne_dataH_same (reads_newData ⟨_, (N _ ha).1, rfl, k, rfl⟩ (ks_carried hi)) (reads_newData ⟨_, (N _ hb).1, rfl, k2, rfl⟩ (ks_carried hj)) (ks_shaped _ hoi) (ks_shaped _ hoj) hu (SeqAt.noMix_of_shape (.list .str) rfl _ _ (list_map_has fun _ => rfl) (list_map_has fun _ => rfl)) (by rw [ks_same]; exact h)
theorem sorted_L {m : Str → Option Value} (F : Fr h₀ L s.heap m) (N : News h₀ L s.heap news) (ha : (a, listOf xs.toArray k) ∈ news) (hi : Are IsStr xs ns) (hz : ns.length < 64)
    (h : ∀ D h' vs' ss' e, Fr h₀ L h' m → News h₀ L h' ((D, listOf (vs' : List Value).toArray e) :: news) → (∀ p ∈ news, p.1 < D) → Are IsStr vs' ss' → ss'.Perm ns → sortedS ss' = true → Q (.ref D) { s with heap := h' }) :
    wpAny (model prog w) A (call (.builtin "sorted") [.ref a]) Q E s :=
  sorted_N_str F N ⟨_, (N _ ha).1, rfl, k, rfl⟩ (are_strs hi) (by rw [hi.length]; exact hz) fun h' vs' ss' e F' N' h1 h2 h3 => h _ h' vs' ss' e F' N' (fun p hp => Nat.lt_succ_of_lt (newsLt N p hp)) (strs_are h1) h2 h3
end
theorem risingS_pair : ∀ {p : Str} {l : List Str}, risingS p l = true → (p :: l).Pairwise (fun a b => ¬ b.cps.toList < a.cps.toList)
  | p, [], _ => List.pairwise_singleton ..
  | p, x :: r, h => by
    have h' : (_ && risingS x r) = true := h
    rw [Bool.and_eq_true] at h'
    have ih := risingS_pair h'.2
    have hx : ¬ x.cps.toList < p.cps.toList := by
      have := h'.1
      rw [ltCps_eq] at this
      simpa using this
    refine List.pairwise_cons.mpr ⟨fun y hy => ?_, ih⟩
    rcases List.mem_cons.mp hy with rfl | hy
    · exact hx
    · intro hlt
      have h2 := (List.pairwise_cons.mp ih).1 y hy
      exact List.not_lt.mpr (List.le_trans (List.not_lt.mp hx) (List.not_lt.mp h2)) hlt
theorem sortedS_pair {l : List Str} (h : sortedS l = true) : l.Pairwise (fun a b => ¬ b.cps.toList < a.cps.toList) := by
  cases l with
  | nil => exact List.Pairwise.nil
  | cons x r => exact risingS_pair h
theorem sorted_uniq {l l' : List Str} (h : sortedS l = true) (h' : sortedS l' = true) (hp : l.Perm l') : l = l' := by
  refine List.Perm.eq_of_pairwise (fun a b _ _ h1 h2 => ?_) (sortedS_pair h) (sortedS_pair h') hp
  have e : a.cps.toList = b.cps.toList := List.le_antisymm (List.not_lt.mp h1) (List.not_lt.mp h2)
  cases a; cases b
  simp only [Str.mk.injEq]
  exact Array.toList_inj.mp e
theorem ok_str {x : Str} (h : okText x) : PyData.strOk x = true := by
  unfold PyData.strOk
  rw [Array.all_eq_true']
  intro c hc
  have := h c (by simpa using hc)
  have := this.2
  simp only [decide_eq_true_eq]
  omega
/-- of [items, numerals, five lists, cell] ++ news only numerals, items, cell and news are kept -/
theorem keepThree {h₀ h : Heap} {L : Addr} {a b c d e f g c0 : Addr × Obj} {news : List (Addr × Obj)} (N : News h₀ L h (a :: b :: c :: d :: e :: f :: g :: c0 :: news)) : News h₀ L h (b :: a :: c0 :: news) := News.sub N fun p hp => by
  rcases List.mem_cons.mp hp with rfl | hp
  · exact .tail _ (.head _)
  rcases List.mem_cons.mp hp with rfl | hp
  · exact .head _
  · exact .tail _ (.tail _ (.tail _ (.tail _ (.tail _ (.tail _ (.tail _ hp))))))
section
variable {prog : Program} {w : World} {A : Around} {E : Value → Shared → Prop} {s s₁ : Shared} {env : Env}
noncomputable def SSrcA (prog : Program) (w : World) (A : Around) (env : Env) (scope : Scope) (cl : List (Str × Addr)) (x : Str) (elt : Expr) (f : Nat → Int) (y : Str) (Q : Flow → Shared → Prop) (xv : Value) (s₁ : Shared) : Prop :=
  ∃ (z : Str) (t : Tok) (h₀ : Heap) (m : Str → Option Value) (news : List (Addr × Obj)), xv = .str z t ∧ z.cps.size ≤ 1000 ∧ Fr h₀ env.locals s₁.heap m ∧ News h₀ env.locals s₁.heap news ∧
    (∀ (c : Nat) tv C mC E' s₃, c ∈ z.cps.toList → s₃.heap.Ns C mC → mC x = some (.str (⟨#[c]⟩ : Str) tv) → (∀ b o, s₁.heap.get? b = some o → s₃.heap.get? b = some o) → Fr h₀ env.locals s₃.heap m → News h₀ env.locals s₃.heap news →
      wpAny (model prog w) A (eval elt (compEnvC scope cl C env)) (fun v s₄ => IsInt (f c) v ∧ Keeps s₃ s₄) E' s₃) ∧
    (∀ D h' tk ys k, Fr h₀ env.locals h' (fun u => if u = y then some (.ref D) else m u) → News h₀ env.locals h' ((D, listOf ys.toArray k) :: news) → (∀ p ∈ news, p.1 ≠ D) → Are IsInt ys (z.cps.toList.map f) → Q .next { s₁ with heap := h', toks := tk })
theorem comp_strA (f : Nat → Int) {elt iter : Expr} {x y : Str} {px py : Pos} {scope : Scope} {cl : List (Str × Addr)} {pos spos : Pos} {Q : Flow → Shared → Prop}
    (hsw : swapsWith (.ListComp elt [⟨.Name x px, iter, [], 0⟩] scope pos) (some (.Name y py)) spos.line env = pure true)
    (hh : A.handled = none) (hclos : closureFor scope env = pure cl) (hcell : ∀ y ∈ scope.names, y.2 ≠ .cell) (hkind : scope.kind = .function)
    (hnames : ∀ y ∈ scope.names, y.2 = .local → scope.names.lookup y.1 = some .local) (hx : scope.names.lookup x = some .local)
    (hy : env.kindOf y = some .local) (hp : (env.scope.kind == .class || (env.scope.kind == .module && env.locals != env.globals)) = false)
    (h : wpAny (model prog w) A (eval iter env) (SSrcA prog w A env scope cl x elt f y Q) E s)
    (hs : ∀ x, foldedSetIterable iter env x = pure x := by intro _; rfl) :
    wpAny (model prog w) A (exec (.Assign [.Name y py] (.ListComp elt [⟨.Name x px, iter, [], 0⟩] scope pos) spos) env) Q E s := by
  refine wpAny_Assign_ListComp_free (fun _ => true) (fun v y => ∀ (c : Nat) t, v = .str (⟨#[c]⟩ : Str) t → IsInt (f c) y) hsw hclos hcell hkind hnames hx hy hp (wpAny_mono h (fun xv s₁ h₁ => ?_) fun _ _ e => e) hs
  obtain ⟨z, t, h₀, m, news, rfl, hn, F, N, helt, hQ⟩ := h₁
  refine wpAny_pyIter_str fun o St hW hSt => ?_
  have W := hW A hh
  have keep : ∀ (h' : Heap), (∀ b o', b ∉ [s₁.heap.objs.size] → (s₁.heap.push o).get? b = some o' → h'.get? b = some o') → ∀ b o', s₁.heap.get? b = some o' → h'.get? b = some o' :=
    fun h' hk b o e => hk b o (by intro hm; exact absurd (Heap.lt_size e) (by rw [List.mem_singleton.mp hm]; exact Nat.lt_irrefl _)) (Heap.get?_push_of_some _ e)
  have hLlt : env.locals < s₁.heap.objs.size := F.ns.lt
  refine ⟨_, _, _, _, _, _, m, rfl, W, by rw [sizeLine_eq]; omega, hSt, ?_, ?_, (F.push _).ns, ⟨?_, ?_⟩, ?_⟩
  · intro b hb
    rw [Heap.size_push, List.mem_singleton.mp hb]
    exact Nat.lt_succ_self _
  · intro hm
    rw [List.mem_singleton.mp hm] at hLlt
    exact Nat.lt_irrefl _ hLlt
  · intro C i v s₃ m₃ E' _ _ _ _ _ _
    exact wpAny_pure ⟨rfl, s₃.heap, s₃.toks, rfl, fun _ _ e => e⟩
  · rintro C i v s₃ m₃ E' _ ⟨c, tv, hc, rfl⟩ _ hn3 hm hk _
    have hmem : c ∈ z.cps.toList := List.mem_of_getElem? (i := i) (by simpa using hc)
    refine wpAny_mono (helt c tv C m₃ E' s₃ hmem hn3 hm (keep _ hk) (F.kept (keep _ hk)) (newsKept N (keep _ hk))) (fun v s₄ h₄ => ⟨fun j t e => ?_, h₄.2⟩) fun _ _ e => e
    have : c = j := by
      have := Value.str.inj e
      have := congrArg Str.cps this.1
      simpa using this
    rw [← this]
    exact h₄.1
  · intro D h' tk ys us hD hl' hpl hlen hP hF hn' hk
    obtain ⟨k, hk'⟩ := hpl
    rw [List.filter_eq_self.mpr (fun _ _ => rfl)] at hF
    have hk2 : ∀ b o', b ≠ env.locals → s₁.heap.get? b = some o' → h'.get? b = some o' := fun b o' hb e =>
      hk b o' hb (by intro hm; exact absurd (Heap.lt_size e) (by rw [List.mem_singleton.mp hm]; exact Nat.lt_irrefl _)) (Heap.get?_push_of_some _ e)
    have hDs : s₁.heap.get? D = none := by
      cases e : s₁.heap.get? D with
      | none => rfl
      | some o => rw [Heap.get?_push_of_some _ e] at hD; cases hD
    have hDL : D ≠ env.locals := by
      rintro rfl
      obtain ⟨oL, _, _, hL, _⟩ := F.ns
      rw [hL] at hDs; cases hDs
    refine hQ D h' tk ys.toList k ⟨hn', fun b o' e => hk2 b o' (fun hb => ?_) (F.keep b o' e), F.above⟩ (fun p hp => ?_) (fun p hp e => ?_) ?_
    · have := Heap.lt_size e
      rw [hb] at this
      exact absurd (Nat.lt_of_lt_of_le this F.above) (Nat.lt_irrefl _)
    · rcases List.mem_cons.mp hp with rfl | hp
      · refine ⟨by rw [hk'], hDL, ?_⟩
        cases e : h₀.get? D with
        | none => rfl
        | some o' => rw [F.keep _ _ e] at hDs; cases hDs
      · exact ⟨hk2 _ _ (N p hp).2.1 (N p hp).1, (N p hp).2⟩
    · have := (N p hp).1
      rw [e, hDs] at this; cases this
    · exact (are_get (Is := fun (c : Nat) v => ∃ t, v = .str (⟨#[c]⟩ : Str) t) (as := z.cps.toList) (by rw [hlen]; simp) fun j v e => by
        obtain ⟨c, t, hc, rfl⟩ := hP j v e
        exact ⟨c, by simpa using hc, t, rfl⟩).paired (f := f) hF fun a v y _ hI hf => by
          obtain ⟨t, rfl⟩ := hI
          exact hf a t rfl
end
structure TIterObj (o : Obj) (l : Addr) (i : Nat) : Prop where
  cls : o.cls = .type "tuple_iterator"
  data : o.data = .fields #[.ref l, .int i 0]
section
variable {prog : Program} {w : World} {A : Around} {E : Value → Shared → Prop} {s s₁ : Shared} {h₀ : Heap} {env : Env} {Q : Flow → Shared → Prop} {target : Expr} {body : List Stmt}
theorem for_tup {l : Addr} {vs : List Value} {n : Nat} {m : Str → Option Value} {news : List (Addr × Obj)} (J : Nat → (Str → Option Value) → List (Addr × Obj) → Prop)
    (hh : A.handled = none) (hE : PassesOwn (model prog w) A env E) (F : Fr h₀ env.locals s₁.heap m) (N : News h₀ env.locals s₁.heap news) (hl : ∀ i m' nx, J i m' nx → (l, tupOf vs n) ∈ nx) (h0 : J 0 m news)
    (turn : ∀ (i : Nat) v m₁ nx h tk it o, vs[i]? = some v → J i m₁ nx → Fr h₀ env.locals h m₁ → News h₀ env.locals h ((it, o) :: nx) → (∀ p ∈ nx, p.1 ≠ it) → TIterObj o l (i + 1) →
      wpAny (model prog w) A (letOwnedTupleGo target (.ref it) v) (fun _ s' => wpAny (model prog w) A (assign target env v) (fun _ s₂ => wpAny (model prog w) A (execs body env) (ForPost h₀ env.locals (J (i + 1)) it o { s₁ with heap := h, toks := tk } Q) E s₂) E s') E { s₁ with heap := h, toks := tk })
    (done : ∀ m₁ nx h tk, J vs.length m₁ nx → Fr h₀ env.locals h m₁ → News h₀ env.locals h nx → Q .next { s₁ with heap := h, toks := tk }) :
    ForAt prog w A env target body Q E (.ref l) s₁ := by
  have hls : s₁.heap.IsTuple l vs.toArray := ⟨_, (N _ (hl _ _ _ h0)).1, rfl, n, rfl⟩
  have hitf : ∀ p ∈ news, p.1 ≠ s₁.heap.objs.size := fun p hp => Nat.ne_of_lt (Heap.lt_size (N p hp).1)
  refine wpAny_pyIter_tuple hls ?_
  refine codeAny_forLoop_any
    (fun k s' => ∃ h' tk m' nx i o, s' = { s₁ with heap := h', toks := tk } ∧ Fr h₀ env.locals h' m' ∧ News h₀ env.locals h' ((s₁.heap.objs.size, o) :: nx) ∧ (∀ p ∈ nx, p.1 ≠ s₁.heap.objs.size) ∧ TIterObj o l i ∧ J i m' nx ∧ i ≤ vs.length ∧ k = vs.length + 1 - i) ?_ (vs.length + 1)
    ⟨_, s₁.toks, m, news, 0, _, rfl, F.push _, N.push F _, hitf, ⟨rfl, rfl⟩, h0, Nat.zero_le _, rfl⟩
  rintro k s' ⟨h', tk, m', nx, i, o, rfl, F', N', hne, hio, hJ, hi, rfl⟩
  have hit : h'.IsTupleIter s₁.heap.objs.size l i := ⟨o, (N' _ (.head _)).1, hio.cls, hio.data⟩
  have hls' : h'.IsTuple l vs.toArray := ⟨_, (N' _ (.tail _ (hl _ _ _ hJ))).1, rfl, n, rfl⟩
  have hitL : s₁.heap.objs.size ≠ env.locals := (N' _ (.head _)).2.1
  have hit0 : h₀.get? s₁.heap.objs.size = none := (N' _ (.head _)).2.2
  by_cases hlt : i < vs.length
  · have hv : vs[i]? = some vs[i] := by simp [hlt]
    refine wpAny_pyNext_tuple_item (x := vs[i]) hit hls' (by simp) fun h₁ hit₁ hs₁ => ?_
    obtain ⟨o₁, ho₁, hc₁, hd₁⟩ := hit₁
    have F₁ : Fr h₀ env.locals h₁ m' := by
      obtain ⟨oL, es, ep, hL, r⟩ := F'.ns
      exact ⟨⟨oL, es, ep, (hs₁.2 _ (Ne.symm hitL)).trans hL, r⟩, fun b x e => (hs₁.2 b (by rintro rfl; rw [hit0] at e; cases e)).trans (F'.keep b x e), F'.above⟩
    have N₁ : News h₀ env.locals h₁ ((s₁.heap.objs.size, o₁) :: nx) := fun p hp => by
      rcases List.mem_cons.mp hp with rfl | hp
      · exact ⟨ho₁, hitL, hit0⟩
      · exact ⟨(hs₁.2 _ (hne p hp)).trans (N' p (.tail _ hp)).1, (N' p (.tail _ hp)).2⟩
    refine wpAny_mono (wpAny_passesOwn hE (turn i vs[i] m' nx h₁ tk s₁.heap.objs.size o₁ hv hJ F₁ N₁ hne ⟨hc₁, hd₁⟩)) (fun _ s₂ h₂ => ?_) fun _ _ e => e
    refine wpAny_mono (wpAny_passesOwn hE h₂) (fun _ s₃ h₃ => ?_) fun _ _ e => e
    refine wpAny_mono (wpAny_passesOwn hE h₃) (fun f s₄ h₄ => ?_) fun _ _ e => e
    have fin : ForEnd h₀ env.locals (J (i + 1)) s₁.heap.objs.size o₁ { s₁ with heap := h₁, toks := tk } s₄ → ∃ m_1, m_1 < vs.length + 1 - i ∧ ∃ h' tk m' nx i o, s₄ = { s₁ with heap := h', toks := tk } ∧ Fr h₀ env.locals h' m' ∧ News h₀ env.locals h' ((s₁.heap.objs.size, o) :: nx) ∧ (∀ p ∈ nx, p.1 ≠ s₁.heap.objs.size) ∧ TIterObj o l i ∧ J i m' nx ∧ i ≤ vs.length ∧ m_1 = vs.length + 1 - i := by
      rintro ⟨h₅, tk₅, m₅, nx₅, rfl, F₅, N₅, hne₅, hJ₅⟩
      exact ⟨vs.length + 1 - (i + 1), by omega, h₅, tk₅, m₅, nx₅, i + 1, o₁, rfl, F₅, N₅, hne₅, ⟨hc₁, hd₁⟩, hJ₅, hlt, rfl⟩
    cases f with
    | ret v => exact h₄
    | brk => exact h₄
    | next => exact fin h₄
    | cont => exact fin h₄
  · have hin : i = vs.length := by omega
    subst hin
    refine wpAny_pyNext_tuple_end hh hit hls' (by simp) fun h₁ he₁ => wpAny_execs_nil ?_
    have F₁ : Fr h₀ env.locals h₁ m' := by
      obtain ⟨oL, es, ep, hL, r⟩ := F'.ns
      exact ⟨⟨oL, es, ep, he₁ _ _ (Ne.symm hitL) hL, r⟩, fun b x e => he₁ b x (by rintro rfl; rw [hit0] at e; cases e) (F'.keep b x e), F'.above⟩
    exact done m' nx h₁ tk hJ F₁ fun p hp => ⟨he₁ _ _ (hne p hp) (N' p (.tail _ hp)).1, (N' p (.tail _ hp)).2⟩
theorem for_tupM {l : Addr} {vs : List Value} {n : Nat} {m : Str → Option Value} {news : List (Addr × Obj)} (J : (Str → Option Value) → List (Addr × Obj) → Nat → (Str → Option Value) → List (Addr × Obj) → Prop)
    (F : Fr h₀ env.locals s₁.heap m) (N : News h₀ env.locals s₁.heap news)
    (hh : A.handled = none) (hE : PassesOwn (model prog w) A env E) (hl : ∀ i m' nx, J m news i m' nx → (l, tupOf vs n) ∈ nx) (h0 : J m news 0 m news)
    (turn : ∀ (i : Nat) v m₁ nx h tk it o, vs[i]? = some v → J m news i m₁ nx → Fr h₀ env.locals h m₁ → News h₀ env.locals h ((it, o) :: nx) → (∀ p ∈ nx, p.1 ≠ it) → TIterObj o l (i + 1) →
      wpAny (model prog w) A (letOwnedTupleGo target (.ref it) v) (fun _ s' => wpAny (model prog w) A (assign target env v) (fun _ s₂ => wpAny (model prog w) A (execs body env) (ForPost h₀ env.locals (J m news (i + 1)) it o { s₁ with heap := h, toks := tk } Q) E s₂) E s') E { s₁ with heap := h, toks := tk })
    (done : ∀ m₁ nx h tk, J m news vs.length m₁ nx → Fr h₀ env.locals h m₁ → News h₀ env.locals h nx → Q .next { s₁ with heap := h, toks := tk }) :
    ForAt prog w A env target body Q E (.ref l) s₁ 
     := for_tup (J m news) hh hE F N hl h0 turn done
end
section
local macro_rules | `(tactic| walk_at $s:str) => `(tactic| k_extra $s)
local macro_rules | `(tactic| k_all) => `(tactic| k_extra "k_all")
local macro_rules | `(tactic| k_units) => `(tactic| k_extra "k_units")
local macro_rules | `(tactic| k_inst) => `(tactic| k_extra "k_inst")
local macro_rules | `(tactic| k_mem) => `(tactic| k_extra "k_mem")
section
theorem words_C1 : True := by
  k_with_none
  k_with "m_enter" => (refine' code_def ?eak1 ?eak2 ?eak3 ?eak4 ?eak5 ?eakA ?eakF ?eakK ?eak6 ?eak7 ?eak8 ?eak9 ?eakB ?_ ?eac2 ?eac3 ?eac4 ?eac5; (case eakA => exact rfl); (case eakF => exact rfl); (case eakK => assumption); (case eak1 => k_asm); (case eak2 => k_asm); (case eak3 => k_asm); (case eak4 => k_asm); (case eak5 => k_asm); (case eak6 => k_is); (case eak7 => k_is); (case eak8 => first | exact Room.depth (by assumption) | walk_at "m_room"); (case eak9 => first | exact BindsTo.of_eq rfl | exact binds_K (by k_in) rfl (by k_is) rfl rfl rfl | (refine' kp_binds ?kx ?ke; (case kx => k_in); (case ke => exact fun _ => rfl))); (case eac5 => decide); (case eakB => exact locs rfl); (case eac2 => exact rfl); (case eac3 => exact rfl); (case eac4 => exact rfl); k_whole; intro vg vL vh vFG vF vN vB vX vT; (try dsimp only); (try k_fold))
  k_with "m_enterC" => (refine' code_defC ?ebk1 ?ebk2 ?ebk3 ?ebk4 ?ebk5 ?ebkA ?ebkF ?ebkK ?ebk6 ?ebk7 ?ebk8 ?ebk9 ?ebkB ?ebkD ?_ ?ebc2 ?ebc3 ?ebc4; (case ebkA => exact rfl); (case ebkF => exact rfl); (case ebkK => assumption); (case ebk1 => k_asm); (case ebk2 => k_asm); (case ebk3 => k_asm); (case ebk4 => k_asm); (case ebk5 => k_asm); (case ebk6 => k_is); (case ebk7 => k_is); (case ebk8 => first | exact Room.depth (by assumption) | walk_at "m_room"); (case ebk9 => first | exact BindsTo.of_eq rfl | exact binds_K (by k_in) rfl (by k_is) rfl rfl rfl | (refine' kp_binds ?kx ?ke; (case kx => k_in); (case ke => exact fun _ => rfl))); (case ebkB => exact rfl); (case ebkD => decide +kernel); (case ebc2 => exact rfl); (case ebc3 => exact rfl); (case ebc4 => exact rfl); k_whole; intro yg yL yh ytk ycells yFG yF yN yY yB yX yT yl1; (try k_lt yl1); k_cells yY; (try simp only [List.cons_append, List.nil_append] at yN); (try dsimp only); (try k_fold))
  k_with "m_compgo" => ((case hh => with_unfolding_all rfl); (case hclos => with_unfolding_all rfl); (case hcell => decide); (case hkind => with_unfolding_all rfl); (case hnames => decide); (case hx => with_unfolding_all rfl))
  k_with "m_sub" => (intro zp9 zh9; repeat (first | exact zh9 | refine List.Mem.tail _ ?_))
  k_with "call builtin:chr" => ((with_reducible show wpAny _ _ (call (Value.builtin "chr") [Value.int _ _]) _ _ _); refine chr_of_range (by omega) (by omega) ?_)
  k_with "call builtin:str.join" => ((with_reducible show wpAny _ _ (call (Value.builtin "str.join") [Value.str _ _, Value.ref _]) _ _ _); (refine' join_are (by k_asm) (by k_mem) (by assumption) (by walk_at "m_fit") ?_); (intro zt9 zk9); (try dsimp only))
  k_with "getMethod ref" => (k_here; (with_reducible show wpAny _ _ (getMethod (Value.ref _) (PySem.Str.ofString "search") _) _ _ _); k_dflt (refine' method_search (by k_asm) (by k_asm) (by k_is) ?_; k_whole))
  k_with "call builtin:re.Pattern.search" => (k_here; k_dflt (refine' search_KN (by k_asm) (by k_asm) (by k_is) (by rfl) (by rfl) (by k_is) (by first | exact Or.inl rfl | exact Or.inr rfl) (by assumption) ?_; k_whole))
  k_with "m_std" => ((case k1 => k_asm); (case k2 => k_asm); (case k3 => k_asm); (case k4 => k_asm); (case k5 => k_asm); (case kK => first | exact rfl | assumption); (case kR => first | exact Room.step (k := 3) (by assumption) (by decide) (by decide) | exact Room.step (k := 4) (by assumption) (by decide) (by decide) | exact Room.step (by assumption) (by omega) (by decide)))
  k_with "exec For" => (k_here; (with_reducible refine for_at ?_ (by intro _; with_unfolding_all rfl)))
  k_with "ForPost" => (dsimp only [ForPost])
  k_with "m_len" => first | omega | (simp only [List.length_append, List.length_cons, List.length_nil, List.length_take, List.length_drop]; omega)
  k_with "m_lt" => (intro zl9; (try k_lt zl9); (try k_sweep))
  k_with "call builtin:len" => (k_here; (with_reducible show wpAny _ _ (call (Value.builtin "len") [Value.ref _]) _ _ _); k_dflt (refine' len_N (by k_asm) (by k_mem) (by walk_at "m_len") ?_; k_whole))
  k_with "subscriptTail" => (k_here; (with_reducible show wpAny _ _ (subscriptTail _ _ (Value.ref _) (Value.ref _)) _ _ _); (with_unfolding_all first | (refine' slice_all_N (by k_asm) (by k_asm) (by k_mem) (by walk_at "m_len") ?_; k_whole; intro zD zh zF zN; walk_at "m_lt") | (refine' slice_from_N (by k_asm) (by k_asm) (by k_mem) (by walk_at "m_len") (by omega) ?_; k_whole; intro zD zh zF zN; walk_at "m_lt") | (refine' slice_upto_N (by k_asm) (by k_asm) (by k_mem) (by walk_at "m_len") (by omega) ?_; k_whole; intro zD zh zF zN; walk_at "m_lt")))
  k_with "m_room" => ((try simp only [depth_under_make, depth_under_kw, depth_in1, depth_deeper, depth_caller]); (try dsimp only [ktrTop]); (have zhR9 := Room.d (by assumption)); omega)
  k_with "k_units" => ((try simp only [units_under_make, units_in1, units_deeper, Around.mark_units, units_caller]); (try dsimp only [ktrTop]); (have zhR9 := Room.u (by assumption)); omega)
  k_with "k_all" => first | assumption | exact neA (by assumption) | exact neB (by assumption) | exact neB (And.right (by assumption)) | exact neB (And.right (And.right (by assumption))) | exact neB (And.right (And.right (And.right (by assumption)))) | exact neB (And.right (And.right (And.right (And.right (by assumption))))) | exact neB (And.right (And.right (And.right (And.right (And.right (by assumption))))))
  trivial
variable {prog : Program} {w : World} {p : Program} {loose : List Str} {mean : ExcName → Option Value} {mg mb : Str → Option Value} {news : List (Addr × Obj)}
theorem words_c1 : True := by
  k_with "m_fit" => exact fit_chars _ _ (by omega)
  trivial
theorem law_name_spec {l : Addr} {vs : List Value} {ds : List Int} {n : Nat} {base : Int} {t : Tok}
   (hl : (l, listOf vs.toArray n) ∈ news) (hi : Are IsInt vs ds) (hds : Oki ds) (hb : Okb base) (hlen : ds.length ≤ 64) :
   Con hpK prog w p loose mean mg mb 1 310 news [.ref l, .int base t] [] (fun r nx => nx = news ∧ ∃ t, r = .str (nameOf base ds) t) := by
  intro dp un gd cn cs a ccd cl outer A₀ bs h₀ L m s Q E B F X N T hk hR hret
  refine wpAny_call ?_
  k_dflt (walk_at "m_enterC")
  iterate 7 (first | (k_unfold; (try dsimp only)) | walk1)
  refine' comp_list IsInt IsStr (fun d => (⟨#[(base + d).toNat]⟩ : Str)) isInt_inj ?hh ?hclos ?hcell ?hkind ?hnames ?hx ?_
  walk_at "m_compgo"
  walk1
  dsimp only
  refine' MSrc.ofN (by k_asm) (by k_asm) (List.Mem.tail _ hl) hi ?hsz ?elt ?out
  case hsz => exact Nat.le_trans hlen (by decide)
  case elt =>
    intro a v C mC E' s₃ hmem hv hn hx hk
    obtain ⟨tv, rfl⟩ := hv
    have hr := hds a hmem
    k_steps
    all_goals first | exact ⟨_, rfl⟩ | exact ⟨_, _, rfl, fun _ _ e => e⟩
  case out => 
    intro D h' tk ys k F' N' hne hy
    k_steps
    rw [join_chars]
    exact hret _ news _ _ ⟨rfl, _, rfl⟩ (by k_asm) (News.sub (by k_asm) (by walk_at "m_sub"))
theorem conv_spec {b : Addr} {x : Str} {t : Tok} {bb : Bool} (hx : okText x) :
   Con hpK prog w p loose mean mg mb 1 70 news [.ref b, .str x t] [(Str.ofString "name", .bool bb)] (fun r nx => nx = news ∧ r = .str x t) := by
  intro dp un gd cn cs a ccd cl outer A₀ bs h₀ L m s Q E B F X N T hk hR hret
  refine wpAny_call ?_
  k_dflt (walk_at "m_enter")
  cases bb
  all_goals (k_steps; exact hret _ _ _ _ ⟨rfl, rfl⟩ (by k_asm) (by k_asm))
theorem words_C1conv : True := by
  k_with "m_two" => (intro zr9 zn9 zh9 ztk9 ze9 zF9 zN9; have e8 := ze9.1.symm; have e7 := ze9.2; clear ze9; subst e8; subst e7; (try dsimp only); (try k_sweep); (try k_fold))
  k_with "call ref" => (k_here; (with_reducible show wpAny _ _ (call (Value.ref 70) [Value.ref _, Value.str _ _] _) _ _ _); k_dflt ((refine' conv_spec (by first | assumption | done) _ _ _ _ _ _ _ _ _ _ _ _ _ _ _ _ _ (by k_asm) (by k_asm) (by k_asm) (by k_asm) (by k_asm) (by first | exact rfl | assumption) (by first | exact Room.step (k := 3) (by assumption) (by decide) (by decide) | exact Room.step (k := 4) (by assumption) (by decide) (by decide) | exact Room.step (by assumption) (by omega) (by decide)) ?_); walk_at "m_two"))
  trivial

theorem hget_spec {b dx hl : Addr} {vs : List Value} {n1 n2 : Nat} {hs : Int} {tt t : Tok} {x : Str} {es : List (Str × Str)}
   (h2 : (b, instObj 171 dx) ∈ news) (h3 : (dx, dictOf [⟨hs, .str (Str.ofString "_headers") tt, .ref hl⟩] n1) ∈ news) (h4 : (hl, listOf vs.toArray n2) ∈ news)
   (he : Are (IsPair news) vs es) (hx : okText (Txt.lower x)) (hlen : x.length ≤ 1000) (hes : ∀ e ∈ es, e.1.length ≤ 1000) :
   Con Mine.hpK prog w p loose mean mg mb 2 118 news [.ref b, .str x t] []
     (fun r nx => nx = news ∧ match es.find? (fun e => Txt.lower e.1 == Txt.lower x) with | none => r = .none | some e => ∃ t, r = .str e.2 t) := by
  intro dp un gd cn cs a ccd cl outer A₀ bs h₀ L m s Q E B F X N T hk hR hret
  refine wpAny_call ?_
  k_dflt (walk_at "m_enter")
  k_steps
  refine' for_listM (n := n2) (vs := vs) (fun m₀ n₀ i m' nx => nx = news ∧ (∃ mk mv, m' = fun z => if z = Str.ofString "v" then mv else if z = Str.ofString "k" then mk else m₀ z) ∧ ∀ e ∈ es.take i, (Txt.lower e.1 == Txt.lower x) = false) (by k_asm) (by k_asm) rfl ?hE ?hl ?h0 ?turn ?done
  case hE => with_unfolding_all passes_own
  case hl => rintro i m' nx ⟨rfl, _, _⟩; exact h4
  case h0 => exact ⟨rfl, ⟨_, _, over00⟩, by intro e h; simp at h⟩
  case turn =>
    rintro i v m₁ nx h tk it o hv ⟨hnx, ⟨mk, mv, rfl⟩, hno⟩ F₁ N₁ hoff hio
    have hnx := hnx.symm
    subst hnx
    obtain ⟨e, hei, T, t1, t2, k, rfl, hT⟩ := he.get hv
    refine turn_pair rfl F₁ N₁ hio hT rfl rfl rfl ?_
    intro h' tk' F₂ N₂
    have hle := hes e (List.mem_of_getElem? hei)
    rw [over2] at F₂
    k_steps
    · exact hret _ news _ _ ⟨rfl, by rw [find_at hei hno (by assumption)]; exact ⟨_, rfl⟩⟩ (by k_asm) (News.sub (by k_asm) (by walk_at "m_sub"))
    · exact ForEnd.intro news (by k_asm) (by k_asm) (fun _ h => h) hoff ⟨rfl, ⟨_, _, rfl⟩, take_more hei hno (by assumption)⟩
  case done =>
    rintro m₁ nx h tk ⟨hnx, ⟨mk, mv, rfl⟩, hno⟩ F₁ N₁
    have hnx := hnx.symm
    subst hnx
    rw [he.length, List.take_length] at hno
    k_steps
    exact hret _ news _ _ ⟨rfl, by rw [find_no hno]⟩ (by k_asm) (by k_asm)
theorem hlen_spec {b dx hl : Addr} {vs : List Value} {n1 n2 : Nat} {hs : Int} {tt : Tok}
   (h2 : (b, instObj 171 dx) ∈ news) (h3 : (dx, dictOf [⟨hs, .str (Str.ofString "_headers") tt, .ref hl⟩] n1) ∈ news) (h4 : (hl, listOf vs.toArray n2) ∈ news) (hz : vs.length ≤ 1000) :
   Con Mine.hpK prog w p loose mean mg mb 2 77 news [.ref b] [] (fun r nx => nx = news ∧ ∃ t, r = .int vs.length t) := by
  intro dp un gd cn cs a ccd cl outer A₀ bs h₀ L m s Q E B F X N T hk hR hret
  refine wpAny_call ?_
  k_dflt (walk_at "m_enter")
  k_steps
  exact hret _ news _ _ ⟨rfl, _, rfl⟩ (by k_asm) (by k_asm)
theorem hitems_spec {b dx hl : Addr} {vs : List Value} {n1 n2 : Nat} {hs : Int} {tt : Tok}
   (h2 : (b, instObj 171 dx) ∈ news) (h3 : (dx, dictOf [⟨hs, .str (Str.ofString "_headers") tt, .ref hl⟩] n1) ∈ news) (h4 : (hl, listOf vs.toArray n2) ∈ news) (hz : vs.length ≤ 1000) :
   Con Mine.hpK prog w p loose mean mg mb 2 135 news [.ref b] [] (fun r nx => ∃ D, r = .ref D ∧ nx = (D, listOf vs.toArray 0) :: news ∧ ∀ p ∈ news, p.1 < D) := by
  intro dp un gd cn cs a ccd cl outer A₀ bs h₀ L m s Q E B F X N T hk hR hret
  refine wpAny_call ?_
  k_dflt (walk_at "m_enter")
  k_steps
  refine hret _ _ _ _ ⟨_, rfl, rfl, ?_⟩ (by k_asm) (by k_asm)
  assumption
theorem hsetd_spec {b dx hl : Addr} {vs : List Value} {n1 n2 : Nat} {hs : Int} {tt t1 t2 : Tok} {x y : Str} {es : List (Str × Str)} {nw : Obj → List (Addr × Obj)}
   (h2 : (b, instObj 171 dx) ∈ news) (h3 : (dx, dictOf [⟨hs, .str (Str.ofString "_headers") tt, .ref hl⟩] n1) ∈ news) (h4 : (hl, listOf vs.toArray n2) ∈ news) (hU : ∀ o', Upd hl (listOf vs.toArray n2) o' news (nw o'))
   (he : Are (IsPair news) vs es) (hx : okText x) (hx' : okText (Txt.lower x)) (hy : okText y) (hlen : x.length ≤ 1000) (hes : ∀ e ∈ es, e.1.length ≤ 1000) (hz : vs.length ≤ 1000) :
   Con Mine.hpK prog w p loose mean mg mb 4 161 news [.ref b, .str x t1, .str y t2] []
     (fun r nx => if (es.any fun e => Txt.lower e.1 == Txt.lower x) = true then nx = news else
       ∃ T, nx = (T, tupOf [.str x t1, .str y t2] 0) :: nw (listOf (vs ++ [Value.ref T]).toArray (n2 + 1)) ∧ ∀ p ∈ news, p.1 < T) := by
  intro dp un gd cn cs a ccd cl outer A₀ bs h₀ L m s Q E B F X N T hk hR hret
  refine wpAny_call ?_
  k_dflt (walk_at "m_enter")
  k_steps
  k_dflt ((refine' hget_spec h2 h3 h4 he hx' hlen hes _ _ _ _ _ _ _ _ _ _ _ _ _ _ _ _ _ ?k1 ?k2 ?k3 ?k4 ?k5 ?kK ?kR ?_); walk_at "m_std")
  intro r9 n9 h9 tk9 e9 F9 N9
  have e8 := e9.1.symm
  subst e8
  have e7 := e9.2
  clear e9
  cases hf : es.find? (fun e => Txt.lower e.1 == Txt.lower x) with
  | some e =>
    rw [hf] at e7
    obtain ⟨te, rfl⟩ := e7
    have hany : (es.any fun e => Txt.lower e.1 == Txt.lower x) = true := by
      rw [List.any_eq_true]; exact ⟨e, List.mem_of_find?_eq_some hf, List.find?_some (p := fun e : Str × Str => Txt.lower e.1 == Txt.lower x) hf⟩
    k_steps
    exact hret _ news _ _ (by dsimp only; rw [if_pos hany]) (by k_asm) (by k_asm)
  | none =>
    rw [hf] at e7
    dsimp only at e7
    subst e7
    have hany : (es.any fun e => Txt.lower e.1 == Txt.lower x) = false := by
      rw [List.any_eq_false]; exact List.find?_eq_none.mp hf
    k_steps
    rename (∀ p ∈ news, p.1 < _) => l1
    refine append_N (by k_asm) (by k_asm) (Upd.tail (Nat.ne_of_gt (l1 _ h4)) (hU _)) (by omega) ?_
    intro hF FF NF
    k_steps
    refine hret _ _ _ _ ?_ (by k_asm) (by k_asm)
    dsimp only
    rw [hany, if_neg Bool.false_ne_true]
    exact ⟨_, rfl, l1⟩
theorem hnew_spec : Con Mine.hpK prog w p loose mean mg mb 5 171 news [] [] (fun r nx => ∃ b dx hl hs tt, r = .ref b ∧ nx = (hl, listOf ([] : List Value).toArray 0) :: (b, instObj 171 dx) :: (dx, dictOf [⟨hs, .str (Str.ofString "_headers") tt, .ref hl⟩] 1) :: news ∧ (∀ p ∈ news, p.1 < dx) ∧ @LT.lt Nat _ dx b ∧ @LT.lt Nat _ b hl) := by
  intro dp un gd cn cs a ccd cl outer A₀ bs h₀ L m s Q E B F X N T hk hR hret
  k_dflt (refine' call_cls ?k1 ?k2 ?k3 ?k4 ?k5 ?k6 ?_; (case k1 => k_asm); (case k2 => k_asm); (case k3 => k_asm); (case k4 => k_is); (case k5 => k_is); (case k6 => k_is); k_whole)
  intro x' d' h' F' N' l1 l2
  k_lt2 l2
  k_dflt (walk_at "m_enter")
  k_steps
  refine' for_listM (n := 0) (vs := []) (fun m₀ n₀ i m' nx => nx = n₀ ∧ m' = m₀) (by k_asm) (by k_asm) rfl ?hE ?hl ?h0 ?turn ?done
  case hE => with_unfolding_all passes_own
  case hl => rintro i m' nx ⟨rfl, _⟩; exact List.Mem.head _
  case h0 => exact ⟨rfl, rfl⟩
  case turn => intro i v m₁ nx h tk it o hv; simp at hv
  case done =>
    rintro m₁ nx h tk ⟨rfl, rfl⟩ F₁ N₁
    k_steps
    refine hret _ _ _ _ ?_ (by k_asm) (by k_asm)
    exact ⟨_, _, _, _, _, rfl, rfl, l1, l2, (And.left (by assumption))⟩
end
section
theorem wpAt_id {α : Type} {M : Model} {A : Around} {c : Code} {t : Sem α} {Q : α → Shared → Prop} {E : Value → Shared → Prop} {s : Shared} (h : _root_.PySem.wpAt M A c t Q E s) : _root_.PySem.wpAt M A c t Q E s := h
theorem words_A2 : True := by
  k_with_none
  k_with "m_enter" => (refine' code_def ?eak1 ?eak2 ?eak3 ?eak4 ?eak5 ?eakA ?eakF ?eakK ?eak6 ?eak7 ?eak8 ?eak9 ?eakB ?_ ?eac2 ?eac3 ?eac4 ?eac5; (case eakA => exact rfl); (case eakF => exact rfl); (case eakK => assumption); (case eak1 => k_asm); (case eak2 => k_asm); (case eak3 => k_asm); (case eak4 => k_asm); (case eak5 => k_asm); (case eak6 => k_is); (case eak7 => k_is); (case eak8 => first | exact Room.depth (by assumption) | walk_at "m_room"); (case eak9 => first | exact BindsTo.of_eq rfl | exact binds_K (by k_in) rfl (by k_is) rfl rfl rfl | (refine' kp_binds ?kx ?ke; (case kx => k_in); (case ke => exact fun _ => rfl))); (case eac5 => decide); (case eakB => exact locs rfl); (case eac2 => exact rfl); (case eac3 => exact rfl); (case eac4 => exact rfl); k_whole; intro vg vL vh vFG vF vN vB vX vT; (try dsimp only); (try k_fold))
  k_with "m_enterC" => (refine' code_defC ?ebk1 ?ebk2 ?ebk3 ?ebk4 ?ebk5 ?ebkA ?ebkF ?ebkK ?ebk6 ?ebk7 ?ebk8 ?ebk9 ?ebkB ?ebkD ?_ ?ebc2 ?ebc3 ?ebc4; (case ebkA => exact rfl); (case ebkF => exact rfl); (case ebkK => assumption); (case ebk1 => k_asm); (case ebk2 => k_asm); (case ebk3 => k_asm); (case ebk4 => k_asm); (case ebk5 => k_asm); (case ebk6 => k_is); (case ebk7 => k_is); (case ebk8 => first | exact Room.depth (by assumption) | walk_at "m_room"); (case ebk9 => first | exact BindsTo.of_eq rfl | exact binds_K (by k_in) rfl (by k_is) rfl rfl rfl | (refine' kp_binds ?kx ?ke; (case kx => k_in); (case ke => exact fun _ => rfl))); (case ebkB => exact rfl); (case ebkD => decide +kernel); (case ebc2 => exact rfl); (case ebc3 => exact rfl); (case ebc4 => exact rfl); k_whole; intro yg yL yh ytk ycells yFG yF yN yY yB yX yT yl1; (try k_lt yl1); k_cells yY; (try simp only [List.cons_append, List.nil_append] at yN); (try dsimp only); (try k_fold))
  k_with "m_compgo" => ((case hh => with_unfolding_all rfl); (case hclos => with_unfolding_all rfl); (case hcell => decide); (case hkind => with_unfolding_all rfl); (case hnames => decide); (case hx => with_unfolding_all rfl))
  k_with "m_sub" => (intro zp9 zh9; repeat (first | exact zh9 | refine List.Mem.tail _ ?_))
  k_with "call builtin:chr" => ((with_reducible show wpAny _ _ (call (Value.builtin "chr") [Value.int _ _]) _ _ _); refine chr_of_range (by omega) (by omega) ?_)
  k_with "call builtin:str.join" => ((with_reducible show wpAny _ _ (call (Value.builtin "str.join") [Value.str _ _, Value.ref _]) _ _ _); (refine' join_are (by k_asm) (by k_mem) (by assumption) (by walk_at "m_fit") ?_); (intro zt9 zk9); (try dsimp only))
  k_with "getMethod ref" => (k_here; (with_reducible show wpAny _ _ (getMethod (Value.ref _) (PySem.Str.ofString "search") _) _ _ _); k_dflt (refine' method_search (by k_asm) (by k_asm) (by k_is) ?_; k_whole))
  k_with "call builtin:re.Pattern.search" => (k_here; k_dflt (refine' search_KN (by k_asm) (by k_asm) (by k_is) (by rfl) (by rfl) (by k_is) (by first | exact Or.inl rfl | exact Or.inr rfl) (by assumption) ?_; k_whole))
  k_with "m_std" => ((case k1 => k_asm); (case k2 => k_asm); (case k3 => k_asm); (case k4 => k_asm); (case k5 => k_asm); (case kK => first | exact rfl | assumption); (case kR => first | exact Room.step (k := 3) (by assumption) (by decide) (by decide) | exact Room.step (k := 4) (by assumption) (by decide) (by decide) | exact Room.step (by assumption) (by omega) (by decide)))
  k_with "exec For" => (k_here; (with_reducible refine for_at ?_ (by intro _; with_unfolding_all rfl)))
  k_with "ForPost" => (dsimp only [ForPost])
  k_with "m_len" => first | omega | (simp only [List.length_append, List.length_cons, List.length_nil, List.length_take, List.length_drop]; omega)
  k_with "m_lt" => (intro zl9; (try k_lt zl9); (try k_sweep))
  k_with "call builtin:len" => (k_here; (with_reducible show wpAny _ _ (call (Value.builtin "len") [Value.ref _]) _ _ _); k_dflt (refine' len_N (by k_asm) (by k_mem) (by walk_at "m_len") ?_; k_whole))
  k_with "subscriptTail" => (k_here; (with_reducible show wpAny _ _ (subscriptTail _ _ (Value.ref _) (Value.ref _)) _ _ _); (with_unfolding_all first | (refine' slice_all_N (by k_asm) (by k_asm) (by k_mem) (by walk_at "m_len") ?_; k_whole; intro zD zh zF zN; walk_at "m_lt") | (refine' slice_from_N (by k_asm) (by k_asm) (by k_mem) (by walk_at "m_len") (by omega) ?_; k_whole; intro zD zh zF zN; walk_at "m_lt") | (refine' slice_upto_N (by k_asm) (by k_asm) (by k_mem) (by walk_at "m_len") (by omega) ?_; k_whole; intro zD zh zF zN; walk_at "m_lt")))
  k_with "m_room" => ((try simp only [depth_under_make, depth_under_kw, depth_in1, depth_deeper, depth_caller]); (try dsimp only [ktrTop]); (have zhR9 := Room.d (by assumption)); omega)
  k_with "k_units" => ((try simp only [units_under_make, units_in1, units_deeper, Around.mark_units, units_caller]); (try dsimp only [ktrTop]); (have zhR9 := Room.u (by assumption)); omega)
  k_with "k_all" => first | assumption | exact neA (by assumption) | exact neB (by assumption) | exact neB (And.right (by assumption)) | exact neB (And.right (And.right (by assumption))) | exact neB (And.right (And.right (And.right (by assumption)))) | exact neB (And.right (And.right (And.right (And.right (by assumption))))) | exact neB (And.right (And.right (And.right (And.right (And.right (by assumption))))))
  k_with "wpAt" => (ks_step "attributeBase Call"; k_here; k_dflt (refine' ks_node (by k_asm) (by k_asm) (by k_asm) (by k_asm) (by k_is) (by rfl) (by rfl) (by k_inst) (by k_is) (by rfl) (by exact PF.file (by assumption)) (by k_is) (by k_is) (by k_is) (by k_is) (by decide) (by rfl) (by rfl) (by rfl) (by rfl) (by exact PF.sup (by assumption)) (by first | boot_by_name | rfl | kernel_rfl) ?_); intro zso zh zF zN zl1; (try k_lt zl1); (try k_sweep))
  k_with "wpAt" => ((refine wpAt_id ?_); ks_step "execs cons"; refine ks_wpAt_execs_cons ?_)
  k_with "k_inst" => (refine' inst_acc (by k_asm) (by k_mem) (by k_mem))
  k_with "setAttr ref" => (k_here; k_dflt (refine' set_acc (by k_asm) (by k_asm) (by k_asm) (by k_mem) (by k_mem) (by k_is) (by kernel_rfl) (by k_is) (by k_is) (by k_get) (by k_put) (by k_upd) (by exact Nat.le_of_ble_eq_true rfl) ?_; k_whole; intro zh zF zN; (try k_sweep)))
  k_with "getMethod ref" => (k_here; k_dflt (refine' method_super (by k_asm) (by k_asm) (by k_asm) (by k_mem) (by k_mem) (by kernel_rfl) (by k_is) (by ks_is) (by first | exact type_li | exact type_ll) (by first | exact own_li | exact own_ll) (by decide) ?_; intro zq zh zF zN zl1; (try k_lt zl1); (try k_sweep)))
  k_with "callWith ref" => (k_here; k_dflt (refine' callWith_wrap (by k_asm) (by k_mem) ?_; k_whole))
  k_with "call ref" => (k_here; k_dflt (first | (refine' wrap_len (by k_asm) (by k_mem) (by k_mem) ?_; k_whole) | (refine' wrap_init (by k_asm) (by k_asm) (by k_mem) (by k_mem) ?_; k_whole; intro zh zF zN; (try k_sweep))))
  k_with "m_enterS" => (refine' ks_code_super ?edk1 ?edk2 ?edk3 ?edk4 ?edk5 ?edkA ?edkF ?edkK ?edk6 ?edk7 ?edk8 ?edk9 ?edkB ?_ ?edc1 ?edc2 ?edc3 ?edc4; (case edkA => exact rfl); (case edkF => exact rfl); (case edkK => assumption); (case edk1 => k_asm); (case edk2 => k_asm); (case edk3 => k_asm); (case edk4 => k_asm); (case edk5 => k_asm); (case edk6 => k_is); (case edk7 => k_is); (case edk8 => walk_at "m_room"); (case edk9 => first | exact BindsTo.of_eq rfl | exact binds_K (by k_in) rfl (by k_is) rfl rfl rfl); (case edkB => exact locs rfl); (case edc1 => decide); (case edc2 => exact rfl); (case edc3 => exact rfl); (case edc4 => exact rfl); intro ug uL uh uFG uF uN uB uX uT ul1; (try k_lt ul1); (try dsimp only))
  k_with "getMethod ref" => (k_here; k_dflt (refine' method_accB (by k_asm) (by k_asm) (by k_asm) (by k_mem) (by k_mem) (by k_is) (by decide +kernel) (by k_is) (by k_is) (by first | exact PySem.F.type_list_append | exact type_list_append) (by k_get) ?_; k_whole))
  k_with "call builtin:list.append" => (k_here; k_dflt (refine' append_acc (by k_asm) (by k_asm) (by k_asm) (by k_mem) (by k_mem) (by kernel_rfl) (by k_upd) (by walk_at "m_len") ?_; k_whole; intro zh zF zN; (try k_sweep)))
  k_with "subscriptTail" => (k_here; (with_reducible show wpAny _ _ (subscriptTail _ _ (Value.ref _) (Value.ref _)) _ _ _); k_dflt (with_unfolding_all (refine' slice_acc (by k_asm) (by k_asm) (by k_asm) (by k_mem) (by k_mem) (by kernel_rfl) (by k_is) (by k_is) (by walk_at "m_len") ?_; k_whole; intro zD zh zF zN; walk_at "m_lt")))
  k_with "setItem ref ref" => (k_here; k_dflt (refine' clear_acc (by k_asm) (by k_asm) (by k_asm) (by k_mem) (by k_mem) (by k_mem) (by kernel_rfl) (by k_is) (by k_is) (by walk_at "m_len") (by first | assumption | k_upd) ?_; k_whole; intro zh zF zN; (try k_sweep)))
  trivial
variable {prog : Program} {w : World} {p : Program} {loose : List Str} {mean : ExcName → Option Value} {mg mb : Str → Option Value} {news : List (Addr × Obj)}
theorem pcount_spec (hPF : PF prog) {x dx : Addr} {vs : List Value} {n : Nat} {es : List DictEntry} {k : Nat} (h1 : (x, accObj 296 dx vs n) ∈ news) (h2 : (dx, dictOf es k) ∈ news) :
   Con Mine.hpK prog w p loose mean mg mb 3 293 news [.ref x] [] (fun r nx => nx = news ∧ ∃ t, r = .int vs.length t) := by
  intro dp un gd cn cs a ccd cl outer A₀ bs h₀ L m s Q E B F X N T hk hR hret
  refine wpAny_call ?_
  k_dflt (walk_at "m_enterS")
  k_steps
  refine method_super (by k_asm) (by k_asm) (by k_asm) (List.Mem.head _) (List.Mem.tail _ h1) (by kernel_rfl) (by k_is) (by ks_is) type_ll own_ll (by decide) ?_
  intro q' h' F' N' l1
  k_steps
  refine wrap_len (C := 296) (dx := dx) (vs := vs) (n := n) N' (List.Mem.head _) (List.Mem.tail _ (List.Mem.tail _ h1)) ?_
  k_steps
  refine hret _ _ _ _ ⟨rfl, _, rfl⟩ (by k_asm) (News.sub (by k_asm) (by walk_at "m_sub"))
theorem push_spec {x dx : Addr} {vs : List Value} {n : Nat} {hs : Int} {tt ti : Tok} {k : Nat} {a b : Str} {ta tb : Tok} {nw : Obj → List (Addr × Obj)} (h1 : (x, accObj 296 dx vs n) ∈ news) (h2 : (dx, dictOf [⟨hs, .str (Str.ofString "_initial_size") tt, .int 0 ti⟩] k) ∈ news)
   (hU : ∀ o', Upd x (accObj 296 dx vs n) o' news (nw o')) (hz : vs.length ≤ 1000) :
   Con Mine.hpK prog w p loose mean mg mb 2 241 news [.ref x, .str a ta, .str b tb] [] (fun r nx => r = .none ∧ ∃ T, nx = (T, tupOf [.str a ta, .str b tb] 0) :: nw (accObj 296 dx (vs ++ [Value.ref T]) (n + 1)) ∧ ∀ p ∈ news, p.1 < T) := by
  intro dp un gd cn cs a ccd cl outer A₀ bs h₀ L m s Q E B F X N T hk hR hret
  refine wpAny_call ?_
  k_dflt (walk_at "m_enter")
  k_steps
  rename (∀ p ∈ news, p.1 < _) => l1
  refine append_acc (n := k) (by k_asm) (by k_asm) (by k_asm) (List.Mem.tail _ h1) (List.Mem.tail _ h2) (by kernel_rfl) (Upd.tail (Nat.ne_of_gt (l1 _ h1)) (hU _)) (by omega) ?_
  intro hF FF NF
  k_steps
  refine hret _ _ _ _ ⟨rfl, _, rfl, l1⟩ (by k_asm) (by k_asm)
theorem pop_spec {x dx : Addr} {vs : List Value} {n : Nat} {es : List DictEntry} {k : Nat} {t0 : Tok} {nw : Obj → List (Addr × Obj)} (h1 : (x, accObj 296 dx vs n) ∈ news) (h2 : (dx, dictOf es k) ∈ news)
   (hU : ∀ o', Upd x (accObj 296 dx vs n) o' news (nw o')) (hz : vs.length ≤ 1000) :
   Con Mine.hpK prog w p loose mean mg mb 2 249 news [.ref x, .int 0 t0] [] (fun r nx => ∃ D n', r = .ref D ∧ nx = (D, listOf vs.toArray 0) :: nw (accObj 296 dx [] n') ∧ ∀ p ∈ news, p.1 < D) := by
  intro dp un gd cn cs a ccd cl outer A₀ bs h₀ L m s Q E B F X N T hk hR hret
  refine wpAny_call ?_
  k_dflt (walk_at "m_enter")
  k_steps
  rename (_ < _ ∧ AllLt _ news) => l2
  rename (∀ p ∈ news, p.1 < _) => l1
  refine clear_acc (n := k) (by k_asm) (by k_asm) (by k_asm) (List.Mem.tail _ (List.Mem.tail _ h1)) (List.Mem.tail _ (List.Mem.tail _ h2)) (List.Mem.head _) (by kernel_rfl) (by k_is) (by k_is) (by omega) (Upd.tail (Nat.ne_of_gt (Nat.lt_trans (l1 _ h1) l2.1)) (Upd.tail (Nat.ne_of_gt (l1 _ h1)) (hU _))) ?_
  intro hF FF NF
  k_steps
  refine hret _ _ _ _ ⟨_, _, rfl, rfl, l1⟩ (by k_asm) (News.sub (by k_asm) (by walk_at "m_sub"))
end
section
theorem words_A1 : True := by
  k_with_none
  k_with "m_enter" => (refine' code_def ?eak1 ?eak2 ?eak3 ?eak4 ?eak5 ?eakA ?eakF ?eakK ?eak6 ?eak7 ?eak8 ?eak9 ?eakB ?_ ?eac2 ?eac3 ?eac4 ?eac5; (case eakA => exact rfl); (case eakF => exact rfl); (case eakK => assumption); (case eak1 => k_asm); (case eak2 => k_asm); (case eak3 => k_asm); (case eak4 => k_asm); (case eak5 => k_asm); (case eak6 => k_is); (case eak7 => k_is); (case eak8 => first | exact Room.depth (by assumption) | walk_at "m_room"); (case eak9 => first | exact BindsTo.of_eq rfl | exact binds_K (by k_in) rfl (by k_is) rfl rfl rfl | (refine' kp_binds ?kx ?ke; (case kx => k_in); (case ke => exact fun _ => rfl))); (case eac5 => decide); (case eakB => exact locs rfl); (case eac2 => exact rfl); (case eac3 => exact rfl); (case eac4 => exact rfl); k_whole; intro vg vL vh vFG vF vN vB vX vT; (try dsimp only); (try k_fold))
  k_with "m_enterC" => (refine' code_defC ?ebk1 ?ebk2 ?ebk3 ?ebk4 ?ebk5 ?ebkA ?ebkF ?ebkK ?ebk6 ?ebk7 ?ebk8 ?ebk9 ?ebkB ?ebkD ?_ ?ebc2 ?ebc3 ?ebc4; (case ebkA => exact rfl); (case ebkF => exact rfl); (case ebkK => assumption); (case ebk1 => k_asm); (case ebk2 => k_asm); (case ebk3 => k_asm); (case ebk4 => k_asm); (case ebk5 => k_asm); (case ebk6 => k_is); (case ebk7 => k_is); (case ebk8 => first | exact Room.depth (by assumption) | walk_at "m_room"); (case ebk9 => first | exact BindsTo.of_eq rfl | exact binds_K (by k_in) rfl (by k_is) rfl rfl rfl | (refine' kp_binds ?kx ?ke; (case kx => k_in); (case ke => exact fun _ => rfl))); (case ebkB => exact rfl); (case ebkD => decide +kernel); (case ebc2 => exact rfl); (case ebc3 => exact rfl); (case ebc4 => exact rfl); k_whole; intro yg yL yh ytk ycells yFG yF yN yY yB yX yT yl1; (try k_lt yl1); k_cells yY; (try simp only [List.cons_append, List.nil_append] at yN); (try dsimp only); (try k_fold))
  k_with "m_compgo" => ((case hh => with_unfolding_all rfl); (case hclos => with_unfolding_all rfl); (case hcell => decide); (case hkind => with_unfolding_all rfl); (case hnames => decide); (case hx => with_unfolding_all rfl))
  k_with "m_sub" => (intro zp9 zh9; repeat (first | exact zh9 | refine List.Mem.tail _ ?_))
  k_with "call builtin:chr" => ((with_reducible show wpAny _ _ (call (Value.builtin "chr") [Value.int _ _]) _ _ _); refine chr_of_range (by omega) (by omega) ?_)
  k_with "call builtin:str.join" => ((with_reducible show wpAny _ _ (call (Value.builtin "str.join") [Value.str _ _, Value.ref _]) _ _ _); (refine' join_are (by k_asm) (by k_mem) (by assumption) (by walk_at "m_fit") ?_); (intro zt9 zk9); (try dsimp only))
  k_with "getMethod ref" => (k_here; (with_reducible show wpAny _ _ (getMethod (Value.ref _) (PySem.Str.ofString "search") _) _ _ _); k_dflt (refine' method_search (by k_asm) (by k_asm) (by k_is) ?_; k_whole))
  k_with "call builtin:re.Pattern.search" => (k_here; k_dflt (refine' search_KN (by k_asm) (by k_asm) (by k_is) (by rfl) (by rfl) (by k_is) (by first | exact Or.inl rfl | exact Or.inr rfl) (by assumption) ?_; k_whole))
  k_with "m_std" => ((case k1 => k_asm); (case k2 => k_asm); (case k3 => k_asm); (case k4 => k_asm); (case k5 => k_asm); (case kK => first | exact rfl | assumption); (case kR => first | exact Room.step (k := 3) (by assumption) (by decide) (by decide) | exact Room.step (k := 4) (by assumption) (by decide) (by decide) | exact Room.step (by assumption) (by omega) (by decide)))
  k_with "exec For" => (k_here; (with_reducible refine for_at ?_ (by intro _; with_unfolding_all rfl)))
  k_with "ForPost" => (dsimp only [ForPost])
  k_with "m_len" => first | omega | (simp only [List.length_append, List.length_cons, List.length_nil, List.length_take, List.length_drop]; omega)
  k_with "m_lt" => (intro zl9; (try k_lt zl9); (try k_sweep))
  k_with "call builtin:len" => (k_here; (with_reducible show wpAny _ _ (call (Value.builtin "len") [Value.ref _]) _ _ _); k_dflt (refine' len_N (by k_asm) (by k_mem) (by walk_at "m_len") ?_; k_whole))
  k_with "subscriptTail" => (k_here; (with_reducible show wpAny _ _ (subscriptTail _ _ (Value.ref _) (Value.ref _)) _ _ _); (with_unfolding_all first | (refine' slice_all_N (by k_asm) (by k_asm) (by k_mem) (by walk_at "m_len") ?_; k_whole; intro zD zh zF zN; walk_at "m_lt") | (refine' slice_from_N (by k_asm) (by k_asm) (by k_mem) (by walk_at "m_len") (by omega) ?_; k_whole; intro zD zh zF zN; walk_at "m_lt") | (refine' slice_upto_N (by k_asm) (by k_asm) (by k_mem) (by walk_at "m_len") (by omega) ?_; k_whole; intro zD zh zF zN; walk_at "m_lt")))
  k_with "m_room" => ((try simp only [depth_under_make, depth_under_kw, depth_in1, depth_deeper, depth_caller]); (try dsimp only [ktrTop]); (have zhR9 := Room.d (by assumption)); omega)
  k_with "k_units" => ((try simp only [units_under_make, units_in1, units_deeper, Around.mark_units, units_caller]); (try dsimp only [ktrTop]); (have zhR9 := Room.u (by assumption)); omega)
  k_with "k_all" => first | assumption | exact neA (by assumption) | exact neB (by assumption) | exact neB (And.right (by assumption)) | exact neB (And.right (And.right (by assumption))) | exact neB (And.right (And.right (And.right (by assumption)))) | exact neB (And.right (And.right (And.right (And.right (by assumption))))) | exact neB (And.right (And.right (And.right (And.right (And.right (by assumption))))))
  k_with "wpAt" => (ks_step "attributeBase Call"; k_here; k_dflt (refine' ks_node (by k_asm) (by k_asm) (by k_asm) (by k_asm) (by k_is) (by rfl) (by rfl) (by k_inst) (by k_is) (by rfl) (by exact PF.file (by assumption)) (by k_is) (by k_is) (by k_is) (by k_is) (by decide) (by rfl) (by rfl) (by rfl) (by rfl) (by exact PF.sup (by assumption)) (by first | boot_by_name | rfl | kernel_rfl) ?_); intro zso zh zF zN zl1; (try k_lt zl1); (try k_sweep))
  k_with "wpAt" => ((refine wpAt_id ?_); ks_step "execs cons"; refine ks_wpAt_execs_cons ?_)
  k_with "k_inst" => (refine' inst_acc (by k_asm) (by k_mem) (by k_mem))
  k_with "setAttr ref" => (k_here; k_dflt (refine' set_acc (by k_asm) (by k_asm) (by k_asm) (by k_mem) (by k_mem) (by k_is) (by kernel_rfl) (by k_is) (by k_is) (by k_get) (by k_put) (by k_upd) (by exact Nat.le_of_ble_eq_true rfl) ?_; k_whole; intro zh zF zN; (try k_sweep)))
  k_with "getMethod ref" => (k_here; k_dflt (refine' method_super (by k_asm) (by k_asm) (by k_asm) (by k_mem) (by k_mem) (by kernel_rfl) (by k_is) (by ks_is) (by first | exact type_li | exact type_ll) (by first | exact own_li | exact own_ll) (by decide) ?_; intro zq zh zF zN zl1; (try k_lt zl1); (try k_sweep)))
  k_with "callWith ref" => (k_here; k_dflt (refine' callWith_wrap (by k_asm) (by k_mem) ?_; k_whole))
  k_with "call ref" => (k_here; k_dflt (first | (refine' wrap_len (by k_asm) (by k_mem) (by k_mem) ?_; k_whole) | (refine' wrap_init (by k_asm) (by k_asm) (by k_mem) (by k_mem) ?_; k_whole; intro zh zF zN; (try k_sweep))))
  k_with "m_enterS" => (refine' ks_code_super ?edk1 ?edk2 ?edk3 ?edk4 ?edk5 ?edkA ?edkF ?edkK ?edk6 ?edk7 ?edk8 ?edk9 ?edkB ?_ ?edc1 ?edc2 ?edc3 ?edc4; (case edkA => exact rfl); (case edkF => exact rfl); (case edkK => assumption); (case edk1 => k_asm); (case edk2 => k_asm); (case edk3 => k_asm); (case edk4 => k_asm); (case edk5 => k_asm); (case edk6 => k_is); (case edk7 => k_is); (case edk8 => walk_at "m_room"); (case edk9 => first | exact BindsTo.of_eq rfl | exact binds_K (by k_in) rfl (by k_is) rfl rfl rfl); (case edkB => exact locs rfl); (case edc1 => decide); (case edc2 => exact rfl); (case edc3 => exact rfl); (case edc4 => exact rfl); intro ug uL uh uFG uF uN uB uX uT ul1; (try k_lt ul1); (try dsimp only))
  trivial
variable {prog : Program} {w : World} {p : Program} {loose : List Str} {mean : ExcName → Option Value} {mg mb : Str → Option Value} {news : List (Addr × Obj)}
theorem anew_spec (hPF : PF prog) : Con Mine.hpK prog w p loose mean mg mb 5 296 news [] [] (fun r nx => ∃ x dx hs tt ti k, r = .ref x ∧ nx = (x, accObj 296 dx [] 0) :: (dx, dictOf [⟨hs, .str (Str.ofString "_initial_size") tt, .int 0 ti⟩] k) :: news ∧ (∀ p ∈ news, p.1 < dx) ∧ @LT.lt Nat _ dx x) := by
  intro dp un gd cn cs a ccd cl outer A₀ bs h₀ L m s Q E B F X N T hk hR hret
  k_dflt (refine' call_acc ?k1 ?k2 ?k3 ?k4 ?k5 ?k6 ?_; (case k1 => k_asm); (case k2 => k_asm); (case k3 => k_asm); (case k4 => kernel_rfl); (case k5 => k_is); (case k6 => k_is); k_whole)
  intro x' d' h' F' N' l1 l2
  k_lt2 l2
  k_dflt (walk_at "m_enterS")
  refine ks_wpAt_execs_cons (_root_.PySem.wpAt_of_wpAny ?_)
  k_steps
  refine hret _ _ _ _ ⟨_, _, _, _, _, _, rfl, rfl, l1, l2⟩ (by k_asm) (News.sub (by k_asm) (by walk_at "m_sub"))
end
section
theorem words_N3 : True := by
  k_with_none
  k_with "m_enter" => (refine' code_def ?eak1 ?eak2 ?eak3 ?eak4 ?eak5 ?eakA ?eakF ?eakK ?eak6 ?eak7 ?eak8 ?eak9 ?eakB ?_ ?eac2 ?eac3 ?eac4 ?eac5; (case eakA => exact rfl); (case eakF => exact rfl); (case eakK => assumption); (case eak1 => k_asm); (case eak2 => k_asm); (case eak3 => k_asm); (case eak4 => k_asm); (case eak5 => k_asm); (case eak6 => k_is); (case eak7 => k_is); (case eak8 => first | exact Room.depth (by assumption) | walk_at "m_room"); (case eak9 => first | exact BindsTo.of_eq rfl | exact binds_K (by k_in) rfl (by k_is) rfl rfl rfl | (refine' kp_binds ?kx ?ke; (case kx => k_in); (case ke => exact fun _ => rfl))); (case eac5 => decide); (case eakB => exact locs rfl); (case eac2 => exact rfl); (case eac3 => exact rfl); (case eac4 => exact rfl); k_whole; intro vg vL vh vFG vF vN vB vX vT; (try dsimp only); (try k_fold))
  k_with "m_enterC" => (refine' code_defC ?ebk1 ?ebk2 ?ebk3 ?ebk4 ?ebk5 ?ebkA ?ebkF ?ebkK ?ebk6 ?ebk7 ?ebk8 ?ebk9 ?ebkB ?ebkD ?_ ?ebc2 ?ebc3 ?ebc4; (case ebkA => exact rfl); (case ebkF => exact rfl); (case ebkK => assumption); (case ebk1 => k_asm); (case ebk2 => k_asm); (case ebk3 => k_asm); (case ebk4 => k_asm); (case ebk5 => k_asm); (case ebk6 => k_is); (case ebk7 => k_is); (case ebk8 => first | exact Room.depth (by assumption) | walk_at "m_room"); (case ebk9 => first | exact BindsTo.of_eq rfl | exact binds_K (by k_in) rfl (by k_is) rfl rfl rfl | (refine' kp_binds ?kx ?ke; (case kx => k_in); (case ke => exact fun _ => rfl))); (case ebkB => exact rfl); (case ebkD => decide +kernel); (case ebc2 => exact rfl); (case ebc3 => exact rfl); (case ebc4 => exact rfl); k_whole; intro yg yL yh ytk ycells yFG yF yN yY yB yX yT yl1; (try k_lt yl1); k_cells yY; (try simp only [List.cons_append, List.nil_append] at yN); (try dsimp only); (try k_fold))
  k_with "m_compgo" => ((case hh => with_unfolding_all rfl); (case hclos => with_unfolding_all rfl); (case hcell => decide); (case hkind => with_unfolding_all rfl); (case hnames => decide); (case hx => with_unfolding_all rfl))
  k_with "m_sub" => (intro zp9 zh9; repeat (first | exact zh9 | refine List.Mem.tail _ ?_))
  k_with "call builtin:chr" => ((with_reducible show wpAny _ _ (call (Value.builtin "chr") [Value.int _ _]) _ _ _); refine chr_of_range (by omega) (by omega) ?_)
  k_with "call builtin:str.join" => ((with_reducible show wpAny _ _ (call (Value.builtin "str.join") [Value.str _ _, Value.ref _]) _ _ _); (refine' join_are (by k_asm) (by k_mem) (by assumption) (by walk_at "m_fit") ?_); (intro zt9 zk9); (try dsimp only))
  k_with "getMethod ref" => (k_here; (with_reducible show wpAny _ _ (getMethod (Value.ref _) (PySem.Str.ofString "search") _) _ _ _); k_dflt (refine' method_search (by k_asm) (by k_asm) (by k_is) ?_; k_whole))
  k_with "call builtin:re.Pattern.search" => (k_here; k_dflt (refine' search_KN (by k_asm) (by k_asm) (by k_is) (by rfl) (by rfl) (by k_is) (by first | exact Or.inl rfl | exact Or.inr rfl) (by assumption) ?_; k_whole))
  k_with "m_std" => ((case k1 => k_asm); (case k2 => k_asm); (case k3 => k_asm); (case k4 => k_asm); (case k5 => k_asm); (case kK => first | exact rfl | assumption); (case kR => first | exact Room.step (k := 3) (by assumption) (by decide) (by decide) | exact Room.step (k := 4) (by assumption) (by decide) (by decide) | exact Room.step (by assumption) (by omega) (by decide)))
  k_with "exec For" => (k_here; (with_reducible refine for_at ?_ (by intro _; with_unfolding_all rfl)))
  k_with "ForPost" => (dsimp only [ForPost])
  k_with "m_len" => first | omega | (simp only [List.length_append, List.length_cons, List.length_nil, List.length_take, List.length_drop]; omega)
  k_with "m_lt" => (intro zl9; (try k_lt zl9); (try k_sweep))
  k_with "call builtin:len" => (k_here; (with_reducible show wpAny _ _ (call (Value.builtin "len") [Value.ref _]) _ _ _); k_dflt (refine' len_N (by k_asm) (by k_mem) (by walk_at "m_len") ?_; k_whole))
  k_with "subscriptTail" => (k_here; (with_reducible show wpAny _ _ (subscriptTail _ _ (Value.ref _) (Value.ref _)) _ _ _); (with_unfolding_all first | (refine' slice_all_N (by k_asm) (by k_asm) (by k_mem) (by walk_at "m_len") ?_; k_whole; intro zD zh zF zN; walk_at "m_lt") | (refine' slice_from_N (by k_asm) (by k_asm) (by k_mem) (by walk_at "m_len") (by omega) ?_; k_whole; intro zD zh zF zN; walk_at "m_lt") | (refine' slice_upto_N (by k_asm) (by k_asm) (by k_mem) (by walk_at "m_len") (by omega) ?_; k_whole; intro zD zh zF zN; walk_at "m_lt")))
  k_with "m_room" => ((try simp only [depth_under_make, depth_under_kw, depth_in1, depth_deeper, depth_caller]); (try dsimp only [ktrTop]); (have zhR9 := Room.d (by assumption)); omega)
  k_with "k_units" => ((try simp only [units_under_make, units_in1, units_deeper, Around.mark_units, units_caller]); (try dsimp only [ktrTop]); (have zhR9 := Room.u (by assumption)); omega)
  k_with "k_all" => first | assumption | exact neA (by assumption) | exact neB (by assumption) | exact neB (And.right (by assumption)) | exact neB (And.right (And.right (by assumption))) | exact neB (And.right (And.right (And.right (by assumption)))) | exact neB (And.right (And.right (And.right (And.right (by assumption))))) | exact neB (And.right (And.right (And.right (And.right (And.right (by assumption))))))
  k_with "m_comppair" => ((case hh => with_unfolding_all rfl); (case hclos => with_unfolding_all rfl); (case hcell => decide); (case hkind => with_unfolding_all rfl); (case hnames => decide); (case hxa => with_unfolding_all rfl); (case hxb => with_unfolding_all rfl); (case hab => decide))
  trivial
variable {prog : Program} {w : World} {p : Program} {loose : List Str} {mean : ExcName → Option Value} {mg mb : Str → Option Value} {news : List (Addr × Obj)}
theorem words_c2 : True := by
  k_with "eval ListComp" => (k_here; k_dflt (refine' comp_pair Prod.fst (by with_unfolding_all rfl) (by with_unfolding_all rfl) (by decide) (by with_unfolding_all rfl) (by decide) (by with_unfolding_all rfl) (by with_unfolding_all rfl) (by decide) ?_))
  trivial
theorem hkeys_spec {b dx hl : Addr} {vs : List Value} {n1 n2 : Nat} {hs : Int} {tt : Tok} {es : List (Str × Str)}
   (h2 : (b, instObj 171 dx) ∈ news) (h3 : (dx, dictOf [⟨hs, .str (Str.ofString "_headers") tt, .ref hl⟩] n1) ∈ news) (h4 : (hl, listOf vs.toArray n2) ∈ news) (he : Are (IsPair news) vs es) (hz : es.length ≤ 1000) :
   Con Mine.hpK prog w p loose mean mg mb 2 123 news [.ref b] [] (fun r nx => ∃ D ys k, r = .ref D ∧ nx = (D, listOf ys.toArray k) :: news ∧ Are IsStr ys (es.map Prod.fst) ∧ ∀ p ∈ news, p.1 ≠ D) := by
  intro dp un gd cn cs a ccd cl outer A₀ bs h₀ L m s Q E B F X N T hk hR hret
  refine wpAny_call ?_
  k_dflt (walk_at "m_enter")
  k_steps
  refine' PSrc.ofN (by k_asm) (by k_asm) h4 he (by omega) ?elt ?out
  case elt =>
    intro e t t' C mC E' s₃ hmem hn h1 h2 hk
    exact comp_name hn h1 rfl rfl ⟨⟨_, rfl⟩, _, _, rfl, fun _ _ e => e⟩
  case out =>
    intro D h' tk ys k F' N' hne hy
    k_steps
    refine hret _ _ _ _ ?_ (by k_asm) (by k_asm)
    exact ⟨_, _, _, rfl, rfl, hy, hne⟩
theorem words_c3 : True := by
  k_with "eval ListComp" => (k_here; k_dflt (refine' comp_pair Prod.snd (by with_unfolding_all rfl) (by with_unfolding_all rfl) (by decide) (by with_unfolding_all rfl) (by decide) (by with_unfolding_all rfl) (by with_unfolding_all rfl) (by decide) ?_))
  trivial
theorem hvalues_spec {b dx hl : Addr} {vs : List Value} {n1 n2 : Nat} {hs : Int} {tt : Tok} {es : List (Str × Str)}
   (h2 : (b, instObj 171 dx) ∈ news) (h3 : (dx, dictOf [⟨hs, .str (Str.ofString "_headers") tt, .ref hl⟩] n1) ∈ news) (h4 : (hl, listOf vs.toArray n2) ∈ news) (he : Are (IsPair news) vs es) (hz : es.length ≤ 1000) :
   Con Mine.hpK prog w p loose mean mg mb 2 128 news [.ref b] [] (fun r nx => ∃ D ys k, r = .ref D ∧ nx = (D, listOf ys.toArray k) :: news ∧ Are IsStr ys (es.map Prod.snd) ∧ ∀ p ∈ news, p.1 ≠ D) := by
  intro dp un gd cn cs a ccd cl outer A₀ bs h₀ L m s Q E B F X N T hk hR hret
  refine wpAny_call ?_
  k_dflt (walk_at "m_enter")
  k_steps
  refine' PSrc.ofN (by k_asm) (by k_asm) h4 he (by omega) ?elt ?out
  case elt =>
    intro e t t' C mC E' s₃ hmem hn h1 h2 hk
    exact comp_name hn h2 rfl rfl ⟨⟨_, rfl⟩, _, _, rfl, fun _ _ e => e⟩
  case out =>
    intro D h' tk ys k F' N' hne hy
    k_steps
    refine hret _ _ _ _ ?_ (by k_asm) (by k_asm)
    exact ⟨_, _, _, rfl, rfl, hy, hne⟩
end
section
theorem words_N5 : True := by
  k_with_none
  k_with "m_enter" => (refine' code_def ?eak1 ?eak2 ?eak3 ?eak4 ?eak5 ?eakA ?eakF ?eakK ?eak6 ?eak7 ?eak8 ?eak9 ?eakB ?_ ?eac2 ?eac3 ?eac4 ?eac5; (case eakA => exact rfl); (case eakF => exact rfl); (case eakK => assumption); (case eak1 => k_asm); (case eak2 => k_asm); (case eak3 => k_asm); (case eak4 => k_asm); (case eak5 => k_asm); (case eak6 => k_is); (case eak7 => k_is); (case eak8 => first | exact Room.depth (by assumption) | walk_at "m_room"); (case eak9 => first | exact BindsTo.of_eq rfl | exact binds_K (by k_in) rfl (by k_is) rfl rfl rfl | (refine' kp_binds ?kx ?ke; (case kx => k_in); (case ke => exact fun _ => rfl))); (case eac5 => decide); (case eakB => exact locs rfl); (case eac2 => exact rfl); (case eac3 => exact rfl); (case eac4 => exact rfl); k_whole; intro vg vL vh vFG vF vN vB vX vT; (try dsimp only); (try k_fold))
  k_with "m_enterC" => (refine' code_defC ?ebk1 ?ebk2 ?ebk3 ?ebk4 ?ebk5 ?ebkA ?ebkF ?ebkK ?ebk6 ?ebk7 ?ebk8 ?ebk9 ?ebkB ?ebkD ?_ ?ebc2 ?ebc3 ?ebc4; (case ebkA => exact rfl); (case ebkF => exact rfl); (case ebkK => assumption); (case ebk1 => k_asm); (case ebk2 => k_asm); (case ebk3 => k_asm); (case ebk4 => k_asm); (case ebk5 => k_asm); (case ebk6 => k_is); (case ebk7 => k_is); (case ebk8 => first | exact Room.depth (by assumption) | walk_at "m_room"); (case ebk9 => first | exact BindsTo.of_eq rfl | exact binds_K (by k_in) rfl (by k_is) rfl rfl rfl | (refine' kp_binds ?kx ?ke; (case kx => k_in); (case ke => exact fun _ => rfl))); (case ebkB => exact rfl); (case ebkD => decide +kernel); (case ebc2 => exact rfl); (case ebc3 => exact rfl); (case ebc4 => exact rfl); k_whole; intro yg yL yh ytk ycells yFG yF yN yY yB yX yT yl1; (try k_lt yl1); k_cells yY; (try simp only [List.cons_append, List.nil_append] at yN); (try dsimp only); (try k_fold))
  k_with "m_compgo" => ((case hh => with_unfolding_all rfl); (case hclos => with_unfolding_all rfl); (case hcell => decide); (case hkind => with_unfolding_all rfl); (case hnames => decide); (case hx => with_unfolding_all rfl))
  k_with "m_sub" => (intro zp9 zh9; repeat (first | exact zh9 | refine List.Mem.tail _ ?_))
  k_with "call builtin:chr" => ((with_reducible show wpAny _ _ (call (Value.builtin "chr") [Value.int _ _]) _ _ _); refine chr_of_range (by omega) (by omega) ?_)
  k_with "call builtin:str.join" => ((with_reducible show wpAny _ _ (call (Value.builtin "str.join") [Value.str _ _, Value.ref _]) _ _ _); (refine' join_are (by k_asm) (by k_mem) (by assumption) (by walk_at "m_fit") ?_); (intro zt9 zk9); (try dsimp only))
  k_with "getMethod ref" => (k_here; (with_reducible show wpAny _ _ (getMethod (Value.ref _) (PySem.Str.ofString "search") _) _ _ _); k_dflt (refine' method_search (by k_asm) (by k_asm) (by k_is) ?_; k_whole))
  k_with "call builtin:re.Pattern.search" => (k_here; k_dflt (refine' search_KN (by k_asm) (by k_asm) (by k_is) (by rfl) (by rfl) (by k_is) (by first | exact Or.inl rfl | exact Or.inr rfl) (by assumption) ?_; k_whole))
  k_with "m_std" => ((case k1 => k_asm); (case k2 => k_asm); (case k3 => k_asm); (case k4 => k_asm); (case k5 => k_asm); (case kK => first | exact rfl | assumption); (case kR => first | exact Room.step (k := 3) (by assumption) (by decide) (by decide) | exact Room.step (k := 4) (by assumption) (by decide) (by decide) | exact Room.step (by assumption) (by omega) (by decide)))
  k_with "exec For" => (k_here; (with_reducible refine for_at ?_ (by intro _; with_unfolding_all rfl)))
  k_with "ForPost" => (dsimp only [ForPost])
  k_with "m_len" => first | omega | (simp only [List.length_append, List.length_cons, List.length_nil, List.length_take, List.length_drop]; omega)
  k_with "m_lt" => (intro zl9; (try k_lt zl9); (try k_sweep))
  k_with "call builtin:len" => (k_here; (with_reducible show wpAny _ _ (call (Value.builtin "len") [Value.ref _]) _ _ _); k_dflt (refine' len_N (by k_asm) (by k_mem) (by walk_at "m_len") ?_; k_whole))
  k_with "subscriptTail" => (k_here; (with_reducible show wpAny _ _ (subscriptTail _ _ (Value.ref _) (Value.ref _)) _ _ _); (with_unfolding_all first | (refine' slice_all_N (by k_asm) (by k_asm) (by k_mem) (by walk_at "m_len") ?_; k_whole; intro zD zh zF zN; walk_at "m_lt") | (refine' slice_from_N (by k_asm) (by k_asm) (by k_mem) (by walk_at "m_len") (by omega) ?_; k_whole; intro zD zh zF zN; walk_at "m_lt") | (refine' slice_upto_N (by k_asm) (by k_asm) (by k_mem) (by walk_at "m_len") (by omega) ?_; k_whole; intro zD zh zF zN; walk_at "m_lt")))
  k_with "m_room" => ((try simp only [depth_under_make, depth_under_kw, depth_in1, depth_deeper, depth_caller]); (try dsimp only [ktrTop]); (have zhR9 := Room.d (by assumption)); omega)
  k_with "k_units" => ((try simp only [units_under_make, units_in1, units_deeper, Around.mark_units, units_caller]); (try dsimp only [ktrTop]); (have zhR9 := Room.u (by assumption)); omega)
  k_with "k_all" => first | assumption | exact neA (by assumption) | exact neB (by assumption) | exact neB (And.right (by assumption)) | exact neB (And.right (And.right (by assumption))) | exact neB (And.right (And.right (And.right (by assumption)))) | exact neB (And.right (And.right (And.right (And.right (by assumption))))) | exact neB (And.right (And.right (And.right (And.right (And.right (by assumption))))))
  k_with "k_mem" => first | with_reducible assumption | (refine mem_ofL ?_; with_reducible assumption)
  k_with "exec For Name Call cons nil" => (k_here; (with_reducible refine for_at ?_ (by intro _; with_unfolding_all rfl)))
  k_with "call type:range" => (k_here; k_dflt (first | (refine' range_N 5 rfl (by k_asm) (by k_asm) ?_; k_whole) | (refine' range_N 6 rfl (by k_asm) (by k_asm) ?_; k_whole) | (refine' range_N 3 rfl (by k_asm) (by k_asm) ?_; k_whole)); intro zr zh ztk zt zu zv zF zN; walk_at "m_lt")
  k_with "subscriptTail" => (k_here; (with_reducible show wpAny _ _ (subscriptTail _ _ (Value.ref _) (Value.int _ _)) _ _ _); k_dflt (with_unfolding_all (refine' item_N (by k_asm) (by k_mem) (by omega) (by omega) (by assumption) ?_; k_whole)))
  k_with "binaryOp Add ref ref" => (k_here; k_dflt (refine' add_N (by k_asm) (by k_asm) (by k_mem) (by k_mem) (by walk_at "m_len") ?_; k_whole; intro zD zh zF zN; walk_at "m_lt"))
  k_with "binaryOp Mult str int" => (k_here; refine SB.mul (mulOk_of 16 1048576 (Nat.le_of_ble_eq_true rfl) (by omega) (by omega) (by decide) (by decide)) ?_; intro _ _; (try rw [mulTxt]))
  k_with "m_clean" => (try (with_reducible refine' wp_clean (by (dsimp only; exact rfl)) ?_))
  k_with "m_steps" => repeat' (first | (k_unfold; (try dsimp only)) | (k_end; wrow_close) | (walk1 <;> walk_at "m_clean") | (dsimp only; walk1 <;> walk_at "m_clean") | (leave1; try dsimp only) | fail "no step")
  k_with "m_kR" => first | exact Room.step (k := 3) (by assumption) (by decide) (by decide) | exact Room.step (k := 4) (by assumption) (by decide) (by decide) | exact Room.step (by assumption) (by omega) (by decide)
  k_with "call builtin:str.upper" => (k_here; (with_reducible show wpAny _ _ (call (Value.builtin "str.upper") [Value.str (nameOf _ _) _]) _ _ _); (refine SCL.upper (by rw [nameOf_length, row_len (by assumption) (by assumption)]; decide) ?_); intro _)
  k_with "call builtin:list.append" => (k_here; (with_reducible show wpAny _ _ (call (Value.builtin "list.append") [Value.ref _, _]) _ _ _); k_dflt (refine' append_N (by k_asm) (by k_asm) (by k_upd) (by walk_at "m_len") ?_; k_whole; intro zh zF zN; (try k_sweep)))
  k_with "binaryOp Mult int int" => (k_here; (with_reducible rename (∀ b, IntMulOk _ b) => zhM9); refine PyProof.Rows.mul_int ?_ (zhM9 _))
  k_with "binaryOp Mult ref int" => (k_here; (with_reducible show wpAny _ _ (binaryOp Operator.Mult (Value.ref _) (Value.int _ _)) _ _ _); k_dflt (refine' mul1_N (by k_asm) (by k_asm) (by k_mem) (by first | omega | (simp only [Int.fdiv_one]; omega)) (by first | omega | (simp only [Int.fdiv_one]; omega)) ?_; k_whole; intro zD zh zF zN; walk_at "m_lt"))
  k_with "k_all" => exact neL (by assumption) (by omega)
  k_with "m_yes" => refine ite_yes (by first | omega | (simp only [decide_eq_true_eq, beq_iff_eq]; omega)) ?_
  k_with "m_nay" => refine ite_nay (by first | omega | (simp only [decide_eq_true_eq, beq_iff_eq]; omega)) ?_
  trivial
variable {prog : Program} {w : World} {p : Program} {loose : List Str} {mean : ExcName → Option Value} {mg mb : Str → Option Value} {news : List (Addr × Obj)}
noncomputable def exchAt (base : Int) (ds : List Int) (k : Nat) : List Str :=
  (if ds.getD k 0 = 0 ∧ ds.getD (k + 1) 0 > 0 then [Txt.upper (nameOf base (ds.take k ++ [2, ds.getD (k + 1) 0 - 1] ++ ds.drop (k + 2)))] else []) ++
  (if ds.getD k 0 = 2 ∧ ds.getD (k + 1) 0 < 2 then [nameOf base (ds.take k ++ [0, ds.getD (k + 1) 0 + 1] ++ ds.drop (k + 2))] else [])
noncomputable def exchUpto (base : Int) (ds : List Int) (k : Nat) : List Str := (List.range k).flatMap (exchAt base ds)
theorem exch_spec {dl : Addr} {vs : List Value} {n : Nat} {ds : List Int} {base : Int} {tb : Tok} (h1 : (dl, listOf vs.toArray n) ∈ news) (he : Are IsInt vs ds) (hl : ds.length = 6) (hok : Oki ds) (hb : Okb base) :
   Con Mine.hpK prog w p loose mean mg mb 4 317 news [.ref dl, .int base tb] [] (fun r nx => ∃ W ws n', r = .ref W ∧ nx = (W, listOf ws.toArray n') :: news ∧ Are IsStr ws (exchUpto base ds 5) ∧ ∀ p ∈ news, p.1 < W) := by
  intro dp un gd cn cs a ccd cl outer A₀ bs h₀ L m s Q E B F X N T hk hR hret
  refine wpAny_call ?_
  k_dflt (walk_at "m_enter")
  k_steps
  refine for_rangeM (n := 5) (fun m₀ n₀ i m' nx => ∃ R ro W ws n', n₀ = (R, ro) :: (W, listOf ([] : List Value).toArray 0) :: news ∧ nx = (R, ro) :: (W, listOf ws.toArray n') :: news ∧ W < R ∧ (∀ p ∈ news, p.1 < W) ∧ ws.length ≤ 2 * i ∧ Are IsStr ws (exchUpto base ds i) ∧ m₀ (Str.ofString "words") = some (.ref W) ∧ ∀ z, z ≠ Str.ofString "row" → z ≠ Str.ofString "k" → m' z = m₀ z) (by k_asm) (by k_asm) (List.Mem.head _) (by decide) rfl ?hE ?h0 ?turn ?done
  case hE => with_unfolding_all passes_own
  case h0 => exact ⟨_, _, _, [], 0, rfl, rfl, by first | assumption | exact And.left (by assumption), by assumption, by simp, .nil, rfl, fun _ _ _ => rfl⟩
  case done =>
    rintro m₁ nx h tk ⟨R, ro, W, ws, n', hn₀, rfl, lWR, lW, hwl, hws, hmW, hm⟩ F₁ N₁
    obtain ⟨mr, mk, rfl⟩ := expl2 hm
    cases (show some (Value.ref _) = some (Value.ref W) from hmW)
    dsimp only
    walk_at "m_steps"
    refine hret _ _ _ _ ⟨_, _, _, rfl, rfl, hws, lW⟩ (by k_asm) (News.sub (by k_asm) (by walk_at "m_sub"))
  case turn =>
    rintro i m₁ nx h tk it o tv hi ⟨R, ro, W, ws, n', hn₀, rfl, lWR, lW, hwl, hws, hmW, hm⟩ F₁ N₁ hoff hio
    obtain ⟨mr, mk, rfl⟩ := expl2 hm
    have hitW : it ≠ W := fun e => hoff (W, _) (.tail _ (.head _)) e.symm
    have hRW : R ≠ W := Nat.ne_of_gt lWR
    cases (show some (Value.ref _) = some (Value.ref W) from hmW)
    refine turn_name F₁ N₁ rfl rfl ?_
    intro h' tk' F₂ N₂
    have hd0 : ds[i]? = some (ds.getD i 0) := by rw [List.getD_eq_getElem?_getD, List.getElem?_eq_getElem (by omega)]; rfl
    have hd1 : ds[i + 1]? = some (ds.getD (i + 1) 0) := by rw [List.getD_eq_getElem?_getD, List.getElem?_eq_getElem (by omega)]; rfl
    have hk0 := hok _ (List.mem_of_getElem? hd0)
    have hk1 := hok _ (List.mem_of_getElem? hd1)
    have hx : exchUpto base ds (i + 1) = exchUpto base ds i ++ exchAt base ds i := by unfold exchUpto; rw [List.range_succ, List.flatMap_append]; simp
    have hxa : exchAt base ds i = (if ds.getD i 0 = 0 ∧ ds.getD (i + 1) 0 > 0 then [Txt.upper (nameOf base (ds.take i ++ [2, ds.getD (i + 1) 0 - 1] ++ ds.drop (i + 2)))] else []) ++ (if ds.getD i 0 = 2 ∧ ds.getD (i + 1) 0 < 2 then [nameOf base (ds.take i ++ [0, ds.getD (i + 1) 0 + 1] ++ ds.drop (i + 2))] else []) := rfl
    obtain ⟨v0, hv0, t0, rfl⟩ := he.get' hd0
    obtain ⟨v1, hv1, t1, rfl⟩ := he.get' hd1
    have hw0 : vs[((i : Int)).toNat]? = some (.int (ds.getD i 0) t0) := by rw [Int.toNat_natCast]; exact hv0
    have hw1 : vs[((i : Int) + 1).toNat]? = some (.int (ds.getD (i + 1) 0) t1) := by rw [show ((i : Int) + 1).toNat = i + 1 by omega]; exact hv1
    have hvl : vs.length = 6 := by rw [he.length, hl]
    generalize ds.getD i 0 = d0 at *
    generalize ds.getD (i + 1) 0 = d1 at *
    have c0 : d0 = 0 ∨ d0 = 1 ∨ d0 = 2 := by omega
    have c1 : d1 = 0 ∨ d1 = 1 ∨ d1 = 2 := by omega
    rcases c0 with rfl | rfl | rfl
    · rcases (show d1 = 0 ∨ 0 < d1 by omega) with rfl | hp1
      · walk_at "m_steps"
        refine ForEnd.intro _ F₂ N₂ (fun p h => h) hoff ⟨R, ro, _, ws, n', hn₀, rfl, lWR, lW, by omega, by rw [hx, hxa]; simpa using hws, rfl, fun z a b => by simp [a, b]⟩
      · generalize hP : ForPost _ _ _ _ _ _ _ = P
        walk_at "m_steps"
        k_dflt (refine law_name_spec (List.Mem.head _) (row_are he i 2 (d1 - 1) _ _) (row_ok hok i (by omega) (by omega)) hb (by rw [row_len hl hi]; decide) _ _ _ _ _ _ _ _ _ _ _ _ _ _ _ _ _ (by k_asm) (by k_asm) (by k_asm) (by k_asm) (by k_asm) (by first | exact rfl | assumption) (by walk_at "m_kR") ?_)
        intro r9 n9 h9 tk9 e9 F9 N9
        obtain ⟨e9, t9, rfl⟩ := e9
        subst e9
        walk_at "m_steps"
        subst hP
        refine ForEnd.intro _ (by k_asm) (by k_asm) (by walk_at "m_sub") (offN hoff) ⟨R, ro, _, _, _, hn₀, rfl, lWR, lW, by rw [List.length_append, List.length_singleton]; omega, ?_, rfl, fun z a b => by simp [a, b]⟩
        rw [hx, hxa, if_pos ⟨rfl, hp1⟩, if_neg (fun h => absurd h.1 (by decide)), List.append_nil]
        exact hws.append (.cons ⟨_, rfl⟩ .nil)
    · walk_at "m_steps"
      refine ForEnd.intro _ F₂ N₂ (fun p h => h) hoff ⟨R, ro, _, ws, n', hn₀, rfl, lWR, lW, by omega, by rw [hx, hxa]; simpa using hws, rfl, fun z a b => by simp [a, b]⟩
    · rcases (show d1 < 2 ∨ d1 = 2 by omega) with hp1 | rfl
      · generalize hP : ForPost _ _ _ _ _ _ _ = P
        walk_at "m_steps"
        k_dflt (refine law_name_spec (List.Mem.head _) (row_are he i 0 (d1 + 1) _ _) (row_ok hok i (by omega) (by omega)) hb (by rw [row_len hl hi]; decide) _ _ _ _ _ _ _ _ _ _ _ _ _ _ _ _ _ (by k_asm) (by k_asm) (by k_asm) (by k_asm) (by k_asm) (by first | exact rfl | assumption) (by walk_at "m_kR") ?_)
        intro r9 n9 h9 tk9 e9 F9 N9
        obtain ⟨e9, t9, rfl⟩ := e9
        subst e9
        walk_at "m_steps"
        subst hP
        refine ForEnd.intro _ (by k_asm) (by k_asm) (by walk_at "m_sub") (offN hoff) ⟨R, ro, _, _, _, hn₀, rfl, lWR, lW, by rw [List.length_append, List.length_singleton]; omega, ?_, rfl, fun z a b => by simp [a, b]⟩
        rw [hx, hxa, if_neg (fun h => absurd h.1 (by decide)), if_pos ⟨rfl, hp1⟩, List.nil_append]
        exact hws.append (.cons ⟨_, rfl⟩ .nil)
      · walk_at "m_steps"
        refine ForEnd.intro _ F₂ N₂ (fun p h => h) hoff ⟨R, ro, _, ws, n', hn₀, rfl, lWR, lW, by omega, by rw [hx, hxa]; simpa using hws, rfl, fun z a b => by simp [a, b]⟩
theorem div2_spec {x y n : Int} {t1 t2 t3 : Tok} (hx : 0 ≤ x ∧ x ≤ 10000000) (hy : 0 < y ∧ y ≤ 100000) (hn : 0 ≤ n) :
   Con Mine.hpK prog w p loose mean mg mb 2 182 news [.int x t1, .int y t2, .int n t3] [] (fun r nx => ∃ T u1 u2 k, r = .ref T ∧ nx = (T, tupOf [.int (x.fdiv y) u1, .int (x.fmod y) u2] k) :: news ∧ ∀ p ∈ news, p.1 < T) := by
  intro dp un gd cn cs a ccd cl outer A₀ bs h₀ L m s Q E B F X N T hk hR hret
  refine wpAny_call ?_
  k_dflt (walk_at "m_enter")
  iterate 15 (first | (k_unfold; (try dsimp only)) | walk1)
  have hb := bits_le hx
  refine ite_yes (by simp only [decide_eq_true_eq]; omega) ?_
  walk_at "m_steps"
  refine hret _ _ _ _ ⟨_, _, _, _, rfl, rfl, by exact newsLt (by assumption)⟩ (by k_asm) (by k_asm)
noncomputable def gapAt (xs ys : List Int) : Nat → Int
  | 0 => 0
  | k + 1 => gapAt xs ys k + (xs.getD k 0 - ys.getD k 0) * 2 ^ k
noncomputable def apAt (xs ys : List Int) : Nat → Int
  | 0 => 0
  | k + 1 => if gapAt xs ys (k + 1) ≠ 0 then apAt xs ys k + 1 else apAt xs ys k
theorem apart_spec {l1 l2 : Addr} {vs ws : List Value} {n1 n2 : Nat} {xs ys : List Int} (h1 : (l1, listOf vs.toArray n1) ∈ news) (h2 : (l2, listOf ws.toArray n2) ∈ news) (e1 : Are IsInt vs xs) (e2 : Are IsInt ws ys) (hl1 : xs.length = 6) (hl2 : ys.length = 6) (hx : Oki xs) (hy : Oki ys) :
   Con Mine.hpK prog w p loose mean mg mb 2 336 news [.ref l1, .ref l2] [] (fun r nx => nx = news ∧ ∃ t, r = .int (apAt xs ys 6) t) := by
  intro dp un gd cn cs a ccd cl outer A₀ bs h₀ L m s Q E B F X N T hk hR hret
  refine wpAny_call ?_
  k_dflt (walk_at "m_enter")
  walk_at "m_steps"
  refine for_rangeM (n := 6) (fun m₀ n₀ i m' nx => nx = n₀ ∧ (∃ t, m' (Str.ofString "apart") = some (.int (apAt xs ys i) t)) ∧ (∃ t, m' (Str.ofString "gap") = some (.int (gapAt xs ys i) t)) ∧ ∀ z, z ≠ Str.ofString "apart" → z ≠ Str.ofString "gap" → z ≠ Str.ofString "k" → m' z = m₀ z) (by k_asm) (by k_asm) (List.Mem.head _) (by decide) rfl ?hE ?h0 ?turn ?done
  case hE => with_unfolding_all passes_own
  case h0 => exact ⟨rfl, ⟨_, rfl⟩, ⟨_, rfl⟩, fun _ _ _ _ => rfl⟩
  case done =>
    rintro m₁ nx h tk ⟨rfl, ⟨ta, ha⟩, ⟨tg, hg⟩, hm⟩ F₁ N₁
    obtain ⟨ma, mg, mk, rfl⟩ := expl3 hm
    cases (show ma = _ from ha)
    cases (show mg = _ from hg)
    dsimp only
    walk_at "m_steps"
    refine hret _ _ _ _ ⟨rfl, _, rfl⟩ (by k_asm) (News.sub (by k_asm) (by walk_at "m_sub"))
  case turn =>
    rintro i m₁ nx h tk it o tv hi ⟨rfl, ⟨ta, ha⟩, ⟨tg, hg⟩, hm⟩ F₁ N₁ hoff hio
    obtain ⟨ma, mg, mk, rfl⟩ := expl3 hm
    cases (show ma = _ from ha)
    cases (show mg = _ from hg)
    refine turn_name F₁ N₁ rfl rfl ?_
    intro h' tk' F₂ N₂
    have hd0 : xs[i]? = some (xs.getD i 0) := by rw [List.getD_eq_getElem?_getD, List.getElem?_eq_getElem (by omega)]; rfl
    have hd1 : ys[i]? = some (ys.getD i 0) := by rw [List.getD_eq_getElem?_getD, List.getElem?_eq_getElem (by omega)]; rfl
    obtain ⟨v0, hv0, t0, rfl⟩ := e1.get' hd0
    obtain ⟨v1, hv1, t1, rfl⟩ := e2.get' hd1
    have hw0 : vs[((i : Int)).toNat]? = some (.int (xs.getD i 0) t0) := by rw [Int.toNat_natCast]; exact hv0
    have hw1 : ws[((i : Int)).toNat]? = some (.int (ys.getD i 0) t1) := by rw [Int.toNat_natCast]; exact hv1
    have hm2 := small_mul (a := xs.getD i 0 - ys.getD i 0) (by have := hx _ (List.mem_of_getElem? hd0); have := hy _ (List.mem_of_getElem? hd1); omega)
    have hgs : gapAt xs ys (i + 1) = gapAt xs ys i + (xs.getD i 0 - ys.getD i 0) * 2 ^ ((i : Int)).toNat := by rw [Int.toNat_natCast]; rfl
    have has : apAt xs ys (i + 1) = if gapAt xs ys (i + 1) ≠ 0 then apAt xs ys i + 1 else apAt xs ys i := rfl
    generalize hP : ForPost _ _ _ _ _ _ _ = P
    walk_at "m_steps"
    · subst hP
      have e : apAt xs ys (i + 1) = apAt xs ys i + 1 := by rw [has, hgs, if_pos (by assumption)]
      refine ForEnd.intro _ (by k_asm) (by k_asm) (by walk_at "m_sub") hoff ⟨rfl, ⟨_, by rw [e]; rfl⟩, ⟨_, by rw [hgs]; rfl⟩, fun z a b c => by simp [a, b, c]⟩
    · subst hP
      have e : apAt xs ys (i + 1) = apAt xs ys i := by rw [has, hgs, if_neg (not_not_intro (by assumption))]
      refine ForEnd.intro _ (by k_asm) (by k_asm) (by walk_at "m_sub") hoff ⟨rfl, ⟨_, by rw [e]; rfl⟩, ⟨_, by rw [hgs]; rfl⟩, fun z a b c => by simp [a, b, c]⟩
noncomputable def wordsP : Nat → Int → List (List Int)
  | 0, w => if w = 0 then [[]] else []
  | n + 1, w => if w = 0 then [List.replicate (n + 1) 0] else (List.range 3).flatMap fun (d : Nat) => if (d : Int) ≤ w ∧ (w - (d : Int)).fmod 2 = 0 then (wordsP n ((w - (d : Int)).fdiv 2)).map ((d : Int) :: ·) else []
noncomputable def wordsAt (n : Nat) (w : Int) (d : Nat) : List (List Int) := if (d : Int) ≤ w ∧ (w - (d : Int)).fmod 2 = 0 then (wordsP n ((w - (d : Int)).fdiv 2)).map ((d : Int) :: ·) else []
noncomputable def wordsUp (n : Nat) (w : Int) (i : Nat) : List (List Int) := (List.range i).flatMap (wordsAt n w)
theorem wordsUp_succ {n : Nat} {w : Int} {i : Nat} : wordsUp n w (i + 1) = wordsUp n w i ++ wordsAt n w i := by
  unfold wordsUp
  rw [List.range_succ, List.flatMap_append]
  simp
theorem wordsP_len : ∀ {n : Nat} {w : Int} {row : List Int}, row ∈ wordsP n w → row.length = n := by
  intro n
  induction n with
  | zero =>
    intro w row h
    replace h : row ∈ (if w = 0 then [[]] else []) := h
    split at h
    · rw [List.mem_singleton.mp h]; rfl
    · exact absurd h List.not_mem_nil
  | succ n ih =>
    intro w row h
    replace h : row ∈ (if w = 0 then [List.replicate (n + 1) 0] else (List.range 3).flatMap fun (d : Nat) => if (d : Int) ≤ w ∧ (w - (d : Int)).fmod 2 = 0 then (wordsP n ((w - (d : Int)).fdiv 2)).map ((d : Int) :: ·) else []) := h
    split at h
    · rw [List.mem_singleton.mp h, List.length_replicate]
    · obtain ⟨d, _, hd⟩ := List.mem_flatMap.mp h
      split at hd
      · obtain ⟨r, hr, rfl⟩ := List.mem_map.mp hd
        rw [List.length_cons, ih hr]
      · exact absurd hd List.not_mem_nil
theorem wordsP_many : ∀ {n : Nat} {w : Int}, (wordsP n w).length ≤ 3 ^ n := by
  intro n
  induction n with
  | zero =>
    intro w
    show (if w = 0 then [[]] else [] : List (List Int)).length ≤ 1
    split <;> simp
  | succ n ih =>
    intro w
    have h1 : 0 < 3 ^ n := Nat.pos_of_ne_zero (by simp)
    show (if w = 0 then [List.replicate (n + 1) 0] else (List.range 3).flatMap fun (d : Nat) => if (d : Int) ≤ w ∧ (w - (d : Int)).fmod 2 = 0 then (wordsP n ((w - (d : Int)).fdiv 2)).map ((d : Int) :: ·) else []).length ≤ 3 ^ (n + 1)
    rw [Nat.pow_succ]
    split
    · show 1 ≤ _; omega
    · have hb : ∀ d : Nat, (if (d : Int) ≤ w ∧ (w - (d : Int)).fmod 2 = 0 then (wordsP n ((w - (d : Int)).fdiv 2)).map ((d : Int) :: ·) else []).length ≤ 3 ^ n := by
        intro d
        split
        · rw [List.length_map]; exact ih
        · simp
      have := hb 0
      have := hb 1
      have := hb 2
      rw [show List.range 3 = [0, 1, 2] from rfl]
      simp only [List.flatMap_cons, List.flatMap_nil, List.length_append, List.length_nil]
      omega
theorem wordsAt_many {n : Nat} {w : Int} {i : Nat} : (wordsAt n w i).length ≤ 3 ^ n := by
  unfold wordsAt
  split
  · rw [List.length_map]; exact wordsP_many
  · simp
theorem wordsUp_many {n : Nat} {w : Int} : ∀ {i : Nat}, (wordsUp n w i).length ≤ i * 3 ^ n := by
  intro i
  induction i with
  | zero => simp [wordsUp]
  | succ i ih =>
    rw [wordsUp_succ, List.length_append, Nat.add_mul, Nat.one_mul]
    exact Nat.add_le_add ih wordsAt_many
theorem pow3 {n : Nat} (h : n ≤ 6) : 3 ^ n ≤ 729 := Nat.le_trans (Nat.pow_le_pow_right (by decide) h) (by decide)
theorem words_spec {wd : World} {base : Int} (hb : Okb base) : ∀ (n : Nat) (news : List (Addr × Obj)) (w : Int) (t1 t2 t3 : Tok), n ≤ 6 → 0 ≤ w ∧ w ≤ 1000 →
   Con Mine.hpK prog wd p loose mean mg mb (n + 3) 329 news [.int w t1, .int (n : Int) t2, .int base t3] [] (fun r nx => ∃ W ws k, r = .ref W ∧ nx = (W, listOf ws.toArray k) :: news ∧ Are IsStr ws ((wordsP n w).map (nameOf base)) ∧ ∀ p ∈ news, p.1 < W) := by
  intro n
  induction n with
  | zero =>
    intro news w t1 t2 t3 hn hw dp un gd cn cs a ccd cl outer A₀ bs h₀ L m s Q E B F X N T hk hR hret
    have h00 : ((0 : Nat) : Int) = 0 := rfl
    refine wpAny_call ?_
    k_dflt (walk_at "m_enter")
    walk_at "m_steps"
    · refine hret _ _ _ _ ⟨_, _, _, rfl, rfl, ?_, by assumption⟩ (by first | k_asm | assumption) (by first | k_asm | assumption)
      rw [show wordsP 0 w = [[]] from if_pos (by assumption)]
      exact .cons ⟨_, rfl⟩ .nil
    · refine hret _ _ _ _ ⟨_, _, _, rfl, rfl, ?_, by assumption⟩ (by first | k_asm | assumption) (by first | k_asm | assumption)
      rw [show wordsP 0 w = [] from if_neg (by assumption)]
      exact .nil
  | succ n ih =>
    intro news w t1 t2 t3 hn hw dp un gd cn cs a ccd cl outer A₀ bs h₀ L m s Q E B F X N T hk hR hret
    refine wpAny_call ?_
    k_dflt (walk_at "m_enter")
    walk_at "m_steps"
    · refine hret _ _ _ _ ⟨_, _, _, rfl, rfl, ?_, by assumption⟩ (by first | k_asm | assumption) (by first | k_asm | assumption)
      rw [show wordsP (n + 1) w = [List.replicate (n + 1) 0] from if_pos (by assumption)]
      exact .cons ⟨_, rfl⟩ .nil
    · exfalso; omega
    have hw0 : w ≠ 0 := by assumption
    have hwP : wordsP (n + 1) w = wordsUp n w 3 := by
      show (if w = 0 then _ else _) = _
      rw [if_neg hw0]; rfl
    rw [hwP] at hret
    refine for_rangeM (n := 3) (fun m₀ n₀ i m' nx => ∃ R ro W ws n', n₀ = (R, ro) :: (W, listOf ([] : List Value).toArray 0) :: news ∧ nx = (R, ro) :: (W, listOf ws.toArray n') :: news ∧ W < R ∧ (∀ p ∈ news, p.1 < W) ∧ Are IsStr ws ((wordsUp n w i).map (nameOf base)) ∧ m₀ (Str.ofString "words") = some (.ref W) ∧ ∀ z, z ≠ Str.ofString "rest" → z ≠ Str.ofString "digit" → m' z = m₀ z) (by k_asm) (by k_asm) (List.Mem.head _) (by decide) rfl ?hE ?h0 ?turn ?done
    case hE => with_unfolding_all passes_own
    case h0 => exact ⟨_, _, _, [], 0, rfl, rfl, by first | assumption | exact And.left (by assumption), by assumption, .nil, rfl, fun _ _ _ => rfl⟩
    case done =>
      rintro m₁ nx h tk ⟨R, ro, W, ws, n', hn₀, rfl, lWR, lW, hws, hmW, hm⟩ F₁ N₁
      obtain ⟨mr, mk, rfl⟩ := expl2 hm
      cases (show some (Value.ref _) = some (Value.ref W) from hmW)
      dsimp only
      walk_at "m_steps"
      refine hret _ _ _ _ ⟨_, _, _, rfl, rfl, hws, lW⟩ (by first | k_asm | assumption) (News.sub (by first | k_asm | assumption) (by walk_at "m_sub"))
    case turn =>
      rintro i m₁ nx h tk it o tv hi ⟨R, ro, W, ws, n', hn₀, rfl, lWR, lW, hws, hmW, hm⟩ F₁ N₁ hoff hio
      obtain ⟨mr, mk, rfl⟩ := expl2 hm
      have hitW : it ≠ W := fun e => hoff (W, _) (.tail _ (.head _)) e.symm
      have hRW : R ≠ W := Nat.ne_of_gt lWR
      have hWl := Value.ref.inj (Option.some.inj (show some (Value.ref W) = some (Value.ref _) from hmW.symm))
      subst hWl
      refine turn_name F₁ N₁ rfl rfl ?_
      intro h' tk' F₂ N₂
      have hpl : ((n + 1 : Nat) : Int) - 1 = (n : Int) := by omega
      generalize hP : ForPost _ _ _ _ _ _ _ = P
      walk_at "m_steps"
      · rw [hpl]
        have hw2 : 0 ≤ (w - (i : Int)).fdiv 2 ∧ (w - (i : Int)).fdiv 2 ≤ 1000 := by
          rw [Int.fdiv_eq_ediv_of_nonneg _ (by decide)]
          omega
        have hwa : wordsAt n w i = (wordsP n ((w - (i : Int)).fdiv 2)).map ((i : Int) :: ·) := if_pos ⟨by assumption, by assumption⟩
        generalize hW2 : (w - (i : Int)).fdiv 2 = w2 at hw2 hwa
        k_dflt (refine ih _ w2 _ _ _ (by omega) hw2 _ _ _ _ _ _ _ _ _ _ _ _ _ _ _ _ _ (by k_asm) (by k_asm) (by k_asm) (by k_asm) (by k_asm) (by first | exact rfl | assumption) (by walk_at "m_kR") ?_)
        rintro _ _ h8 tk8 ⟨W2, ws2, k2, rfl, rfl, hA2, lW2⟩ F8 N8
        have hW2W : W2 ≠ W := Nat.ne_of_gt (lW2 _ (.tail _ (.tail _ (.head _))))
        refine for_listM (vs := ws2) (n := k2) (fun m₀ n₀ j m' nx => ∃ ws' n'', nx = (W2, listOf ws2.toArray k2) :: (it, o) :: (R, ro) :: (W, listOf ws'.toArray n'') :: news ∧ Are IsStr ws' ((wordsUp n w i).map (nameOf base) ++ ((wordsP n w2).take j).map (fun r => nameOf base ((i : Int) :: r))) ∧ ∀ z, z ≠ Str.ofString "rest" → m' z = m₀ z) (by k_asm) (by k_asm) rfl ?hE2 ?hl2 ?h02 ?turn2 ?done2
        case hE2 => with_unfolding_all passes_own
        case hl2 =>
          rintro j m' nx ⟨ws', n'', rfl, _⟩
          exact .head _
        case h02 => exact ⟨ws, n', rfl, by simpa using hws, fun _ _ => rfl⟩
        case done2 =>
          rintro m₂ nx h tk ⟨ws', n'', rfl, hws', hm2⟩ F₃ N₃
          obtain ⟨mr2, rfl⟩ := expl1 hm2
          dsimp only
          walk_at "m_steps"
          subst hP
          refine ForEnd.intro _ (by k_asm) (by k_asm) (by walk_at "m_sub") (offN hoff) ⟨_, _, _, _, _, hn₀, rfl, lWR, lW, ?_, rfl, fun z a b => by simp [a, b]⟩
          rw [wordsUp_succ, List.map_append, hwa, List.map_map]
          rw [hA2.length, List.length_map, List.take_length] at hws'
          exact hws'
        case turn2 =>
          rintro j v m₂ nx h tk it2 o2 hv ⟨ws', n'', rfl, hws', hm2⟩ F₃ N₃ hoff2 hio2
          obtain ⟨mr2, rfl⟩ := expl1 hm2
          obtain ⟨rr, hrr, tr, rfl⟩ := hA2.get hv
          have hit2W : it2 ≠ W := fun e => hoff2 (W, _) (.tail _ (.tail _ (.tail _ (.head _)))) e.symm
          refine turn_name F₃ N₃ rfl rfl ?_
          intro h'' tk'' F₄ N₄
          generalize hP2 : ForPost _ _ _ _ _ _ _ = P2
          rw [List.getElem?_map, Option.map_eq_some_iff] at hrr
          obtain ⟨row, hrow, rfl⟩ := hrr
          have hrl : (nameOf base row).length ≤ 6 := by rw [nameOf_length, wordsP_len (List.mem_of_getElem? hrow)]; omega
          have hwz : ws'.length ≤ 16777216 := by
            rw [hws'.length, List.length_append, List.length_map, List.length_map]
            have h1 := wordsUp_many (n := n) (w := w) (i := i)
            have h2 := pow3 (n := n) (by omega)
            have h3 : i * 3 ^ n ≤ 3 * 3 ^ n := Nat.mul_le_mul_right _ (by omega)
            have h4 := wordsP_many (n := n) (w := w2)
            have h5 : ((wordsP n w2).take j).length ≤ (wordsP n w2).length := by rw [List.length_take]; exact Nat.min_le_right _ _
            omega
          walk_at "m_steps"
          subst hP2
          refine ForEnd.intro _ (by k_asm) (by k_asm) (by walk_at "m_sub") ?_ ⟨_, _, rfl, ?_, fun z a => by simp [a]⟩
          · intro p9 hp9
            rcases List.mem_cons.mp hp9 with rfl | hp9
            · exact hoff2 _ (.head _)
            · rcases List.mem_cons.mp hp9 with rfl | hp9
              · exact hoff2 _ (.tail _ (.head _))
              · rcases List.mem_cons.mp hp9 with rfl | hp9
                · exact hoff2 _ (.tail _ (.tail _ (.head _)))
                · rcases List.mem_cons.mp hp9 with rfl | hp9
                  · exact hit2W.symm
                  · exact hoff2 _ (.tail _ (.tail _ (.tail _ (.tail _ hp9))))
          · rw [List.take_add_one, hrow, List.map_append, ← List.append_assoc]
            exact hws'.append (.cons ⟨_, congrArg (Value.str · _) nameOf_cons.symm⟩ .nil)
      all_goals
        subst hP
        have hwa : wordsAt n w i = [] := if_neg (by rintro ⟨h1, h2⟩; first | exact absurd h1 (by assumption) | exact absurd h2 (by assumption))
        refine ForEnd.intro _ (by k_asm) (by k_asm) (by walk_at "m_sub") hoff ⟨_, _, _, _, _, hn₀, rfl, lWR, lW, ?_, rfl, fun z a b => by simp [a, b]⟩
        rw [wordsUp_succ, hwa, List.append_nil]
        exact hws
end
section
theorem words_N7 : True := by
  k_with_none
  k_with "m_enter" => (refine' code_def ?eak1 ?eak2 ?eak3 ?eak4 ?eak5 ?eakA ?eakF ?eakK ?eak6 ?eak7 ?eak8 ?eak9 ?eakB ?_ ?eac2 ?eac3 ?eac4 ?eac5; (case eakA => exact rfl); (case eakF => exact rfl); (case eakK => assumption); (case eak1 => k_asm); (case eak2 => k_asm); (case eak3 => k_asm); (case eak4 => k_asm); (case eak5 => k_asm); (case eak6 => k_is); (case eak7 => k_is); (case eak8 => first | exact Room.depth (by assumption) | walk_at "m_room"); (case eak9 => first | exact BindsTo.of_eq rfl | exact binds_K (by k_in) rfl (by k_is) rfl rfl rfl | (refine' kp_binds ?kx ?ke; (case kx => k_in); (case ke => exact fun _ => rfl))); (case eac5 => decide); (case eakB => exact locs rfl); (case eac2 => exact rfl); (case eac3 => exact rfl); (case eac4 => exact rfl); k_whole; intro vg vL vh vFG vF vN vB vX vT; (try dsimp only); (try k_fold))
  k_with "m_enterC" => (refine' code_defC ?ebk1 ?ebk2 ?ebk3 ?ebk4 ?ebk5 ?ebkA ?ebkF ?ebkK ?ebk6 ?ebk7 ?ebk8 ?ebk9 ?ebkB ?ebkD ?_ ?ebc2 ?ebc3 ?ebc4; (case ebkA => exact rfl); (case ebkF => exact rfl); (case ebkK => assumption); (case ebk1 => k_asm); (case ebk2 => k_asm); (case ebk3 => k_asm); (case ebk4 => k_asm); (case ebk5 => k_asm); (case ebk6 => k_is); (case ebk7 => k_is); (case ebk8 => first | exact Room.depth (by assumption) | walk_at "m_room"); (case ebk9 => first | exact BindsTo.of_eq rfl | exact binds_K (by k_in) rfl (by k_is) rfl rfl rfl | (refine' kp_binds ?kx ?ke; (case kx => k_in); (case ke => exact fun _ => rfl))); (case ebkB => exact rfl); (case ebkD => decide +kernel); (case ebc2 => exact rfl); (case ebc3 => exact rfl); (case ebc4 => exact rfl); k_whole; intro yg yL yh ytk ycells yFG yF yN yY yB yX yT yl1; (try k_lt yl1); k_cells yY; (try simp only [List.cons_append, List.nil_append] at yN); (try dsimp only); (try k_fold))
  k_with "m_compgo" => ((case hh => with_unfolding_all rfl); (case hclos => with_unfolding_all rfl); (case hcell => decide); (case hkind => with_unfolding_all rfl); (case hnames => decide); (case hx => with_unfolding_all rfl))
  k_with "m_sub" => (intro zp9 zh9; repeat (first | exact zh9 | refine List.Mem.tail _ ?_))
  k_with "call builtin:chr" => ((with_reducible show wpAny _ _ (call (Value.builtin "chr") [Value.int _ _]) _ _ _); refine chr_of_range (by omega) (by omega) ?_)
  k_with "call builtin:str.join" => ((with_reducible show wpAny _ _ (call (Value.builtin "str.join") [Value.str _ _, Value.ref _]) _ _ _); (refine' join_are (by k_asm) (by k_mem) (by assumption) (by walk_at "m_fit") ?_); (intro zt9 zk9); (try dsimp only))
  k_with "getMethod ref" => (k_here; (with_reducible show wpAny _ _ (getMethod (Value.ref _) (PySem.Str.ofString "search") _) _ _ _); k_dflt (refine' method_search (by k_asm) (by k_asm) (by k_is) ?_; k_whole))
  k_with "call builtin:re.Pattern.search" => (k_here; k_dflt (refine' search_KN (by k_asm) (by k_asm) (by k_is) (by rfl) (by rfl) (by k_is) (by first | exact Or.inl rfl | exact Or.inr rfl) (by assumption) ?_; k_whole))
  k_with "m_std" => ((case k1 => k_asm); (case k2 => k_asm); (case k3 => k_asm); (case k4 => k_asm); (case k5 => k_asm); (case kK => first | exact rfl | assumption); (case kR => first | exact Room.step (k := 3) (by assumption) (by decide) (by decide) | exact Room.step (k := 4) (by assumption) (by decide) (by decide) | exact Room.step (by assumption) (by omega) (by decide)))
  k_with "exec For" => (k_here; (with_reducible refine for_at ?_ (by intro _; with_unfolding_all rfl)))
  k_with "ForPost" => (dsimp only [ForPost])
  k_with "m_len" => first | omega | (simp only [List.length_append, List.length_cons, List.length_nil, List.length_take, List.length_drop]; omega)
  k_with "m_lt" => (intro zl9; (try k_lt zl9); (try k_sweep))
  k_with "call builtin:len" => (k_here; (with_reducible show wpAny _ _ (call (Value.builtin "len") [Value.ref _]) _ _ _); k_dflt (refine' len_N (by k_asm) (by k_mem) (by walk_at "m_len") ?_; k_whole))
  k_with "subscriptTail" => (k_here; (with_reducible show wpAny _ _ (subscriptTail _ _ (Value.ref _) (Value.ref _)) _ _ _); (with_unfolding_all first | (refine' slice_all_N (by k_asm) (by k_asm) (by k_mem) (by walk_at "m_len") ?_; k_whole; intro zD zh zF zN; walk_at "m_lt") | (refine' slice_from_N (by k_asm) (by k_asm) (by k_mem) (by walk_at "m_len") (by omega) ?_; k_whole; intro zD zh zF zN; walk_at "m_lt") | (refine' slice_upto_N (by k_asm) (by k_asm) (by k_mem) (by walk_at "m_len") (by omega) ?_; k_whole; intro zD zh zF zN; walk_at "m_lt")))
  k_with "m_room" => ((try simp only [depth_under_make, depth_under_kw, depth_in1, depth_deeper, depth_caller]); (try dsimp only [ktrTop]); (have zhR9 := Room.d (by assumption)); omega)
  k_with "k_units" => ((try simp only [units_under_make, units_in1, units_deeper, Around.mark_units, units_caller]); (try dsimp only [ktrTop]); (have zhR9 := Room.u (by assumption)); omega)
  k_with "k_all" => first | assumption | exact neA (by assumption) | exact neB (by assumption) | exact neB (And.right (by assumption)) | exact neB (And.right (And.right (by assumption))) | exact neB (And.right (And.right (And.right (by assumption)))) | exact neB (And.right (And.right (And.right (And.right (by assumption))))) | exact neB (And.right (And.right (And.right (And.right (And.right (by assumption))))))
  k_with "k_mem" => first | with_reducible assumption | (refine mem_ofL ?_; with_reducible assumption)
  k_with "exec For Name Call cons nil" => (k_here; (with_reducible refine for_at ?_ (by intro _; with_unfolding_all rfl)))
  k_with "call type:range" => (k_here; k_dflt (first | (refine' range_N 5 rfl (by k_asm) (by k_asm) ?_; k_whole) | (refine' range_N 6 rfl (by k_asm) (by k_asm) ?_; k_whole) | (refine' range_N 3 rfl (by k_asm) (by k_asm) ?_; k_whole)); intro zr zh ztk zt zu zv zF zN; walk_at "m_lt")
  k_with "subscriptTail" => (k_here; (with_reducible show wpAny _ _ (subscriptTail _ _ (Value.ref _) (Value.int _ _)) _ _ _); k_dflt (with_unfolding_all (refine' item_N (by k_asm) (by k_mem) (by omega) (by omega) (by assumption) ?_; k_whole)))
  k_with "binaryOp Add ref ref" => (k_here; k_dflt (refine' add_N (by k_asm) (by k_asm) (by k_mem) (by k_mem) (by walk_at "m_len") ?_; k_whole; intro zD zh zF zN; walk_at "m_lt"))
  k_with "binaryOp Mult str int" => (k_here; refine SB.mul (mulOk_of 16 1048576 (Nat.le_of_ble_eq_true rfl) (by omega) (by omega) (by decide) (by decide)) ?_; intro _ _; (try rw [mulTxt]))
  k_with "m_clean" => (try (with_reducible refine' wp_clean (by (dsimp only; exact rfl)) ?_))
  k_with "m_steps" => repeat' (first | (k_unfold; (try dsimp only)) | (k_end; wrow_close) | (walk1 <;> walk_at "m_clean") | (dsimp only; walk1 <;> walk_at "m_clean") | (leave1; try dsimp only) | fail "no step")
  k_with "m_kR" => first | exact Room.step (k := 3) (by assumption) (by decide) (by decide) | exact Room.step (k := 4) (by assumption) (by decide) (by decide) | exact Room.step (by assumption) (by omega) (by decide)
  k_with "call builtin:str.upper" => (k_here; (with_reducible show wpAny _ _ (call (Value.builtin "str.upper") [Value.str (nameOf _ _) _]) _ _ _); (refine SCL.upper (by rw [nameOf_length, row_len (by assumption) (by assumption)]; decide) ?_); intro _)
  k_with "call builtin:list.append" => (k_here; (with_reducible show wpAny _ _ (call (Value.builtin "list.append") [Value.ref _, _]) _ _ _); k_dflt (refine' append_N (by k_asm) (by k_asm) (by k_upd) (by walk_at "m_len") ?_; k_whole; intro zh zF zN; (try k_sweep)))
  k_with "binaryOp Mult int int" => (k_here; (with_reducible rename (∀ b, IntMulOk _ b) => zhM9); refine PyProof.Rows.mul_int ?_ (zhM9 _))
  k_with "binaryOp Mult ref int" => (k_here; (with_reducible show wpAny _ _ (binaryOp Operator.Mult (Value.ref _) (Value.int _ _)) _ _ _); k_dflt (refine' mul1_N (by k_asm) (by k_asm) (by k_mem) (by first | omega | (simp only [Int.fdiv_one]; omega)) (by first | omega | (simp only [Int.fdiv_one]; omega)) ?_; k_whole; intro zD zh zF zN; walk_at "m_lt"))
  k_with "k_all" => exact neL (by assumption) (by omega)
  k_with "m_yes" => refine ite_yes (by first | omega | (simp only [decide_eq_true_eq, beq_iff_eq]; omega)) ?_
  k_with "m_nay" => refine ite_nay (by first | omega | (simp only [decide_eq_true_eq, beq_iff_eq]; omega)) ?_
  k_with "m_enterN" => (refine' code_nest ?eck1 ?eck2 ?eck3 ?eck4 ?eck5 ?eckA ?eckF ?eckK ?eck6 ?eck7 ?eck8 ?eck9 ?eckB ?_ ?ecc2 ?ecc3 ?ecc4 ?ecc5; (case eckA => exact rfl); (case eckF => exact rfl); (case eckK => assumption); (case eck1 => k_asm); (case eck2 => k_asm); (case eck3 => k_asm); (case eck4 => k_asm); (case eck5 => k_asm); (case eck6 => k_mem); (case eck7 => exact codeRec_news (by k_asm) (by k_mem) (by assumption) (by assumption)); (case eck8 => first | exact Room.depth (by assumption) | walk_at "m_room"); (case eck9 => exact BindsTo.of_eq rfl); (case ecc5 => decide); (case eckB => exact locs rfl); (case ecc2 => exact rfl); (case ecc3 => exact rfl); (case ecc4 => exact rfl); k_whole; intro wg wL wh wFG wF wN wB wX wT; (try dsimp only); (try k_lift wB); (try k_fold))
  k_with "eval Name" => (k_here; k_dflt (refine' nameX_F (by k_asm) (by rfl) (by k_mem) (by k_asm) ?_ (by rfl) (by rfl); k_whole))
  k_with "k_all" => exact neT (by assumption) (by assumption) (by assumption) (by assumption) (by omega) (by k_mem)
  k_with "binaryOp RShift int int" => (k_here; (first | (rename (Int.fdiv (_ + _) _ = _) => zhM9; refine rshift_int (by decide) ?_; rw [zhM9]) | (refine rshift_int (Int.natCast_nonneg _) ?_; rw [Int.toNat_natCast])))
  k_with "binaryOp Mult int int" => (k_here; refine PyProof.Rows.mul_int ?_ (mul_okH (by omega)); rw [sh_eq])
  k_with "binaryOp LShift int int" => (k_here; refine lshift_int (Int.natCast_nonneg _) (by assumption) ?_; rw [Int.toNat_natCast])
  k_with "binaryOp BitXor int int" => (k_here; refine xor_int ?_; rw [xor_low (by assumption)])
  k_with "setItem ref int" => (k_here; k_dflt (refine set_N (by k_asm) (by k_asm) (by assumption) (by assumption) (by omega) ?_; intro zh zF zN))
  k_with "callWith ref" => (k_here; k_dflt (refine' callWith_F (by exact FnAt.of (by k_asm) (by k_mem)) ?_; k_whole))
  k_with "m_subT" => (intro zp9 zh9; (rcases List.mem_cons.mp zh9 with rfl | zh9); (first | exact List.Mem.head _ | exact List.Mem.tail _ (List.Mem.head _)); (repeat (first | exact zh9 | refine List.Mem.tail _ ?_)))
  k_with "truthy ref" => (k_here; (with_reducible show wpAny _ _ (truthy (Value.ref _)) _ _ _); k_dflt (refine kgr_truthy (by k_asm) (by k_mem) rfl rfl (by omega) ?_); (rename (List.isEmpty _ = false) => zhE9); rw [zhE9, Bool.not_false])
  trivial
variable {prog : Program} {w : World} {p : Program} {loose : List Str} {mean : ExcName → Option Value} {mg mb : Str → Option Value} {news : List (Addr × Obj)}
theorem i2d_len {b n : Nat} (hn : 0 < n ∧ n ≤ 24) (hb : b ≤ 24) : ∃ K : Nat, ((b : Int) + (n : Int) - 1).fdiv (n : Int) = (K : Int) ∧ K ≤ 24 ∧ (b + n - 1) / n = K := by
  refine ⟨(b + n - 1) / n, ?_, ?_, rfl⟩
  · rw [show (b : Int) + (n : Int) - 1 = ((b + n - 1 : Nat) : Int) by omega, Int.fdiv_eq_ediv_of_nonneg _ (by omega)]
    rfl
  · rw [Nat.div_le_iff_le_mul_add_pred hn.1]
    rcases Nat.eq_or_lt_of_le hb with rfl | h
    · have := Nat.mul_le_mul_right 24 hn.1
      have h2 : n * 24 ≥ 24 + (n - 1) * 24 := by
        obtain ⟨k, rfl⟩ : ∃ k, n = k + 1 := ⟨n - 1, by omega⟩
        rw [Nat.add_mul]; omega
      omega
    · have := Nat.mul_le_mul_right 24 hn.1
      omega
noncomputable def dgs (n : Nat) (x : Int) : List Int := dgF n ((Builtin.Int.intBits x + n - 1) / n) ((Builtin.Int.intBits x + n - 1) / n) x
theorem i2d_spec {x : Int} {n : Nat} {t1 t2 : Tok} {tabs rest : List (Addr × Obj)} (hx : 0 ≤ x ∧ x ≤ 10000000) (hn : 0 < n ∧ n ≤ 24) (ht : TabIs 191 114 4 (Str.ofString "_int2digits.<locals>.inner") tabs) (hr : ∀ q ∈ rest, q.1 ≠ 191) (h198 : ∃ o, (198, o) ∈ rest) :
   Con Mine.hpK prog w p loose mean mg mb 40 196 (tabs ++ rest) [.int x t1, .int n t2] [] (fun r nx => ∃ D ws n1 tabs', r = .ref D ∧ nx = (D, listOf ws.toArray n1) :: (tabs' ++ rest) ∧ Are IsInt ws (dgs n x) ∧ (∃ c oc vs t, TabFull 191 114 4 (Str.ofString "_int2digits.<locals>.inner") tabs' c oc vs t) ∧ Grew tabs tabs' (tabs ++ rest) ∧ (∀ p ∈ tabs ++ rest, p.1 < D) ∧ ∀ q ∈ tabs', q.1 ≠ D) := by
  have hb := bits_le (x := x) (by omega)
  obtain ⟨K, hK, hK24, hKe⟩ : ∃ K : Nat, ((Builtin.Int.intBits x : Int) + (n : Int) - 1).fdiv (n : Int) = (K : Int) ∧ K ≤ 24 ∧ (Builtin.Int.intBits x + n - 1) / n = K := i2d_len hn hb
  intro dp un gd cn cs a ccd cl outer A₀ bs h₀ L m s Q E B F X N T hk hR hret
  refine wpAny_call ?_
  k_dflt (walk_at "m_enterC")
  rename_i o1 o2 o3 d1 d2 d3
  have hm191 : ∃ o, (191, o) ∈ tabs := by
    rcases ht with rfl | ⟨c, oc, vs, t, h⟩
    · exact ⟨_, List.Mem.head _⟩
    · rw [h.is]; exact ⟨_, List.Mem.head _⟩
  obtain ⟨o191, hm191⟩ := hm191
  have h191 : @LT.lt Nat _ 191 _ := yl1 _ (List.mem_append_left _ hm191)
  walk_at "m_steps"
  k_dflt (refine nestDef_K rfl rfl rfl ?_)
  k_dflt (refine nest_any (P := 191) (c := 195) (by k_asm) (by k_asm) (by k_asm) (codeHd_of_K (by k_asm) (by kernel_rfl)) rfl (by exact ht) (by obtain ⟨o, ho⟩ := h198; exact ⟨o, List.Mem.tail _ (List.Mem.tail _ (List.Mem.tail _ (List.Mem.tail _ (List.Mem.tail _ (List.mem_append_right _ ho)))))⟩) (SwF.tail (by k_ne) (SwF.tail (by k_ne) (SwF.tail (by k_ne) (SwF.tail (by k_ne) (SwF.tail (by k_ne) (SwF.head hr)))))) rfl ?_)
  intro f9 c9 oc9 vs9 tq9 ct9 dc9 h9 tk9 tabs' F9 N9 hF9 hc9 lf9 lc9
  have hmc := hF9.mem (rest := rest)
  obtain ⟨hd9, hv9⟩ := And.intro hF9.d hF9.v
  (try dsimp only at N9)
  rw [hK, Int.toNat_natCast] at N9
  generalize hv0 : List.replicate K _ = vs0 at N9
  have hl0 : vs0.length = K := by rw [← hv0]; exact List.length_replicate
  k_lt lf9
  walk_at "m_steps"
  · refine key_of (by k_asm) (fun fo hfo => ?_)
    have key : ∀ (D9 : Addr) (rest9 : List (Addr × Obj)) (oA oI oN : Obj), (f9, fo) ∈ rest9 → (c9, oc9) ∈ rest9 → (yL + 1, oN) ∈ rest9 → (yL + 1 + 1, oA) ∈ rest9 → (yL + 1 + 1 + 1, oI) ∈ rest9 → oA.data = .cell (some (.ref D9)) → oI.data = .cell (some (.ref f9)) → oN.data = .cell (some (.int n t2)) →
        (∀ q ∈ rest9, q.1 ≠ D9) → ∀ (k : Nat), 0 < k → ∀ (vs : List Value) (n0 lo hi : Nat) (y : Int) (ty tl tr : Tok), hi = lo + k → hi ≤ vs.length → vs.length ≤ 24 → 0 ≤ y ∧ y ≤ 10000000 →
        Con Mine.hpK prog w p loose mean mg mb (k+1) f9 ((D9, listOf vs.toArray n0) :: rest9) [.int y ty, .int (lo : Int) tl, .int (hi : Int) tr] [] (fun r nx => r = .none ∧ ∃ n1 ws, nx = (D9, listOf (vs.take lo ++ ws ++ vs.drop hi).toArray n1) :: rest9 ∧ ws.length = k ∧ ∀ f, k ≤ f → Are IsInt ws (dgF n f k y)) := by
      subst hfo
      clear hret N yFG yB yX yT B F X T hk lf9 hF9 hc9 hR
      intro D9 rest9 oA oI oN hmf hmc hmN hmA hmI hdA hdI hdN hne k
      induction k using Nat.strongRecOn with
      | ind k ih =>
        intro hk0 vs n0 lo hi y ty tl tr hhi hlo hvs hy
        intro dp un gd cn cs a ccd cl outer A₀ bs h₀ L m s Q E B F X N T hk hR hret
        have hnL := newsLt N
        have hmid := mid_eq hhi
        obtain ⟨hu1, hu2, hu3, hu4⟩ := up_bounds hy (k / 2 * n)
        have hbu := bits_le ⟨hu1, hu2⟩
        have hkn : k / 2 * n ≤ 24 * 24 := Nat.mul_le_mul (by omega) hn.2
        have hsz : ((Builtin.Int.intBits (y.fdiv (2 ^ (k / 2 * n))) : Int)) + ((k / 2 * n : Nat) : Int) ≤ 2 ^ 27 := by
          generalize k / 2 * n = S at *
          omega
        have hy0 := hy.1
        refine wpAny_call ?_
        k_dflt (walk_at "m_enterN")
        rcases Nat.lt_or_ge 1 k with yh | yh
        · have hlt : lo < vs.length := by omega
          iterate 10 (first | (k_unfold; (try dsimp only)) | walk1)
          walk_at "m_nay"
          walk_at "m_steps"
          · k_dflt (refine ih (k / 2) (by omega) (by omega) vs n0 lo (lo + k / 2) _ _ _ _ rfl (by omega) hvs ⟨hu3, hu4⟩ _ _ _ _ _ _ _ _ _ _ _ _ _ _ _ _ _ (by k_asm) (by k_asm) (by k_asm) (by k_asm) (by k_asm) (by first | exact rfl | assumption) (by walk_at "m_kR") ?_)
            rintro _ _ h8 tk8 ⟨rfl, n1, ws1, rfl, hw1, hA1⟩ F8 N8
            walk_at "m_steps"
            · obtain ⟨z1, z2, z3⟩ := take_mid (vs := vs) (ws := ws1) (lo := lo) (h1 := lo + k / 2) (by omega) (by omega) (by omega)
              k_dflt (refine ih (k - k / 2) (by omega) (by omega) _ n1 (lo + k / 2) hi _ _ _ _ (by omega) (by rw [z1]; exact hlo) (by rw [z1]; exact hvs) ⟨hu1, hu2⟩ _ _ _ _ _ _ _ _ _ _ _ _ _ _ _ _ _ (by k_asm) (by k_asm) (by k_asm) (by k_asm) (by k_asm) (by first | exact rfl | assumption) (by walk_at "m_kR") ?_)
              rintro _ _ h7 tk7 ⟨rfl, n2, ws2, rfl, hw2, hA2⟩ F7 N7
              rw [z2, z3 hi (by omega), List.append_assoc (vs.take lo)] at N7
              walk_at "m_steps"
              refine hret _ _ _ _ ⟨rfl, n2, ws1 ++ ws2, rfl, ?_, ?_⟩ (by k_asm) (by k_asm)
              · rw [List.length_append]; omega
              · intro f hf
                obtain ⟨g, rfl, e⟩ := dgF_more (n := n) (x := y) hf yh
                rw [e]
                exact (hA1 g (by omega)).append (hA2 g (by omega))
        · obtain rfl : k = 1 := by omega
          have hlt : lo < vs.length := by omega
          iterate 10 (first | (k_unfold; (try dsimp only)) | walk1)
          walk_at "m_yes"
          walk_at "m_steps"
          refine hret _ _ _ _ ⟨rfl, _, _, by rw [hhi], rfl, fun f hf => ?_⟩ (by k_asm) (by k_asm)
          rw [dgF_one hf]
          exact .cons ⟨_, rfl⟩ .nil
    walk_at "m_steps"
    rw [hl0]
    have hK0 : 0 < K := by
      rw [← hKe]
      have : 0 < Builtin.Int.intBits x := by
        unfold Builtin.Int.intBits
        rw [if_neg (by simpa using (by assumption : x ≠ 0))]
        omega
      exact Nat.div_pos (by omega) hn.1
    rename News _ _ _ ((f9, _) :: _) => N7
    have N8 := newsSwap N7
    k_dflt (refine key _ _ _ _ _ (by rw [hfo]; exact List.Mem.head _) (by k_mem) (by k_mem) (by k_mem) (by k_mem) (by assumption) (by assumption) (by exact d3) ?hall K (by omega) vs0 _ 0 K x _ _ _ (by omega) (by omega) (by omega) hx _ _ _ _ _ _ _ _ _ _ _ _ _ _ _ _ _ (by k_asm) (by k_asm) (by k_asm) N8 (by k_asm) (by first | exact rfl | assumption) (by walk_at "m_kR") ?_)
    case hall =>
      intro q hq
      rcases List.mem_cons.mp hq with rfl | hq
      · exact Nat.ne_of_gt (by omega)
      rcases List.mem_cons.mp hq with rfl | hq
      · exact Nat.ne_of_lt (by omega)
      rcases List.mem_cons.mp hq with rfl | hq
      · exact Nat.ne_of_lt (by omega)
      rcases List.mem_cons.mp hq with rfl | hq
      · exact Nat.ne_of_lt (by omega)
      rcases List.mem_cons.mp hq with rfl | hq
      · exact Nat.ne_of_lt (by omega)
      exact neT hF9 yl1 h191 hc9 (by omega) (by k_mem) q hq
    rintro _ _ h8 tk8 ⟨rfl, n1, ws1, rfl, hw1, hA1⟩ F8 N8
    rw [List.take_zero, List.nil_append, List.drop_eq_nil_of_le (by omega), List.append_nil] at N8
    walk_at "m_steps"
    refine hret _ _ _ _ ⟨_, ws1, n1, tabs', rfl, rfl, ?_, ⟨_, _, _, _, hF9⟩, Grew.of hF9 ⟨_, hm191⟩ hc9 (fun q hq => .tail _ (.tail _ (.tail _ (.tail _ (.tail _ hq))))), fun p hp => Nat.lt_trans (yl1 p hp) (by omega), fun q hq => neT hF9 yl1 h191 hc9 (by omega) (List.Mem.head _) q (List.mem_append_left _ hq)⟩ (by first | k_asm | assumption) (News.sub (by first | k_asm | assumption) (by intro p9 h9; rcases List.mem_cons.mp h9 with h9 | h9; (first | exact List.mem_cons.mpr (.inl h9) | exact List.Mem.tail _ (List.mem_cons.mpr (.inl h9))); repeat (first | exact h9 | refine List.Mem.tail _ ?_)))
    unfold dgs
    rw [hKe]
    exact hA1 K (Nat.le_refl _)
  have hK0 : K = 0 := by
    rw [← hKe, (by assumption : x = 0)]
    exact Nat.div_eq_of_lt (by show 0 + n - 1 < n; omega)
  refine hret _ _ _ _ ⟨_, vs0, _, tabs', rfl, rfl, ?_, ⟨_, _, _, _, hF9⟩, Grew.of hF9 ⟨_, hm191⟩ hc9 (fun q hq => .tail _ (.tail _ (.tail _ (.tail _ (.tail _ hq))))), fun p hp => Nat.lt_trans (yl1 p hp) (by omega), fun q hq => neT hF9 yl1 h191 hc9 (by omega) (List.Mem.head _) q (List.mem_append_left _ hq)⟩ (by first | k_asm | assumption) (News.sub (by first | k_asm | assumption) (by intro p9 h9; rcases List.mem_cons.mp h9 with h9 | h9; (first | exact List.mem_cons.mpr (.inl h9) | exact List.Mem.tail _ (List.mem_cons.mpr (.inl h9))); repeat (first | exact h9 | refine List.Mem.tail _ ?_)))
  unfold dgs
  rw [hKe, hK0]
  rw [List.eq_nil_of_length_eq_zero (hl0.trans hK0)]
  exact .nil
noncomputable def d2P (n : Nat) (ds : List Int) : Nat → Nat → Nat → Int
  | 0, _, _ => 0
  | f + 1, lo, k => if k = 1 then ds.getD lo 0 else d2P n ds f (lo + k / 2) (k - k / 2) * 2 ^ (k / 2 * n) + d2P n ds f lo (k / 2)
theorem d2P_one {n f lo : Nat} {ds : List Int} (h : 1 ≤ f) : d2P n ds f lo 1 = ds.getD lo 0 := by
  obtain ⟨f, rfl⟩ : ∃ g, f = g + 1 := ⟨f - 1, by omega⟩
  rfl
theorem d2P_more {n f k lo : Nat} {ds : List Int} (h : k ≤ f) (hk : 1 < k) : ∃ g, f = g + 1 ∧ d2P n ds f lo k = d2P n ds g (lo + k / 2) (k - k / 2) * 2 ^ (k / 2 * n) + d2P n ds g lo (k / 2) := by
  obtain ⟨f, rfl⟩ : ∃ g, f = g + 1 := ⟨f - 1, by omega⟩
  refine ⟨f, rfl, ?_⟩
  show (if k = 1 then _ else _) = _
  rw [if_neg (by omega)]
noncomputable def d2i (n : Nat) (ds : List Int) : Int := d2P n ds ds.length 0 ds.length
theorem d2_bound {a b : Int} {n k h : Nat} (hk : 1 < k) (hh : h = k / 2) (ha : 0 ≤ a ∧ a < 2 ^ (14 + (n + 1) * (k - h))) (hb : 0 ≤ b ∧ b < 2 ^ (14 + (n + 1) * h)) : 0 ≤ a * 2 ^ (h * n) + b ∧ a * 2 ^ (h * n) + b < 2 ^ (14 + (n + 1) * k) := by
  obtain ⟨x, rfl⟩ := Int.eq_ofNat_of_zero_le ha.1
  obtain ⟨y, rfl⟩ := Int.eq_ofNat_of_zero_le hb.1
  have e : ∀ j : Nat, (2 : Int) ^ j = ((2 ^ j : Nat) : Int) := fun j => by simp
  rw [e] at ha hb
  rw [e, e, ← Int.natCast_mul, ← Int.natCast_add]
  have ha' : x + 1 ≤ 2 ^ (14 + (n + 1) * (k - h)) := by have := ha.2; omega
  have hb' : y + 1 ≤ 2 ^ (14 + (n + 1) * h) := by have := hb.2; omega
  refine ⟨Int.natCast_nonneg _, Int.ofNat_lt.mpr ?_⟩
  have h1 : (x + 1) * 2 ^ (h * n) ≤ 2 ^ (13 + (n + 1) * k) := by
    refine Nat.le_trans (Nat.mul_le_mul_right _ ha') ?_
    rw [← Nat.pow_add]
    refine Nat.pow_le_pow_right (by decide) ?_
    have : (n + 1) * (k - h) + h * n + h = (n + 1) * k := by
      obtain ⟨j, rfl⟩ : ∃ j, k = h + j := ⟨k - h, by omega⟩
      rw [show h + j - h = j by omega, Nat.mul_add, Nat.add_mul n 1 h, Nat.one_mul, Nat.mul_comm h n]
      omega
    omega
  have h2 : 2 ^ (14 + (n + 1) * h) ≤ 2 ^ (13 + (n + 1) * k) := by
    refine Nat.pow_le_pow_right (by decide) ?_
    have : (n + 1) * (h + 1) ≤ (n + 1) * k := Nat.mul_le_mul_left _ (by omega)
    rw [Nat.mul_add] at this
    omega
  have h3 : 2 ^ (14 + (n + 1) * k) = 2 ^ (13 + (n + 1) * k) + 2 ^ (13 + (n + 1) * k) := by
    rw [show 14 + (n + 1) * k = (13 + (n + 1) * k) + 1 by omega, Nat.pow_succ]; omega
  rw [Nat.add_mul, Nat.one_mul] at h1
  have hp : 0 < 2 ^ (h * n) := Nat.two_pow_pos _
  rw [h3]
  generalize 2 ^ (13 + (n + 1) * k) = P at *
  generalize 2 ^ (h * n) = R at *
  generalize 2 ^ (14 + (n + 1) * h) = S at *
  generalize x * R = U at *
  omega
theorem d2_bits {v : Int} {n k : Nat} (hn : n ≤ 24) (hk : k ≤ 24) (h : 0 ≤ v ∧ v < 2 ^ (14 + (n + 1) * k)) : Builtin.Int.intBits v ≤ 1000 := by
  refine Nat.le_trans (intBits_le (k := 14 + (n + 1) * k) ?_) ?_
  · obtain ⟨x, rfl⟩ := Int.eq_ofNat_of_zero_le h.1
    have e : (2 : Int) ^ (14 + (n + 1) * k) = ((2 ^ (14 + (n + 1) * k) : Nat) : Int) := by simp
    rw [e] at h
    have := Int.ofNat_lt.mp h.2
    simpa using this
  · have : (n + 1) * k ≤ 25 * 24 := Nat.mul_le_mul (by omega) hk
    omega
theorem d2P_bound {n : Nat} {ds : List Int} (hd : ∀ d ∈ ds, 0 ≤ d ∧ d < 16384) : ∀ (f k lo : Nat), 0 < k → k ≤ f → lo + k ≤ ds.length → 0 ≤ d2P n ds f lo k ∧ d2P n ds f lo k < 2 ^ (14 + (n + 1) * k) := by
  intro f
  induction f with
  | zero => intro k lo h1 h2; omega
  | succ f ih =>
    intro k lo h1 h2 h3
    show 0 ≤ (if k = 1 then _ else _) ∧ (if k = 1 then _ else _) < _
    by_cases hk : k = 1
    · subst hk
      rw [if_pos rfl]
      have := hd (ds.getD lo 0) (by rw [List.getD_eq_getElem?_getD, List.getElem?_eq_getElem (by omega)]; exact List.getElem_mem _)
      refine ⟨this.1, Int.lt_of_lt_of_le this.2 ?_⟩
      have e : (2 : Int) ^ (14 + (n + 1) * 1) = ((2 ^ (14 + (n + 1) * 1) : Nat) : Int) := by simp
      rw [e]
      have : (2 : Nat) ^ 14 ≤ 2 ^ (14 + (n + 1) * 1) := Nat.pow_le_pow_right (by decide) (by omega)
      have e2 : (2 : Nat) ^ 14 = 16384 := by decide
      omega
    · rw [if_neg hk]
      exact d2_bound (by omega) rfl (ih (k - k / 2) (lo + k / 2) (by omega) (by omega) (by omega)) (ih (k / 2) lo (by omega) (by omega) (by omega))
theorem d2i_spec {n : Nat} {t2 : Tok} {dl : Addr} {vs : List Value} {nd : Nat} {ds : List Int} {tabs rest : List (Addr × Obj)} (hm : (dl, listOf vs.toArray nd) ∈ rest) (hA : Are IsInt vs ds) (hd : ∀ d ∈ ds, 0 ≤ d ∧ d < 16384) (hl0 : 0 < ds.length ∧ ds.length ≤ 24) (hn : 0 < n ∧ n ≤ 24) (ht : TabIs 198 129 4 (Str.ofString "_digits2int.<locals>.inner") tabs) (hr : ∀ q ∈ rest, q.1 ≠ 198) :
   Con Mine.hpK prog w p loose mean mg mb 40 203 (tabs ++ rest) [.ref dl, .int n t2] [] (fun r nx => ∃ t tabs', r = .int (d2i n ds) t ∧ nx = tabs' ++ rest ∧ (∃ c oc vs t, TabFull 198 129 4 (Str.ofString "_digits2int.<locals>.inner") tabs' c oc vs t) ∧ Grew tabs tabs' (tabs ++ rest)) := by
  have hvl := hA.length
  intro dp un gd cn cs a ccd cl outer A₀ bs h₀ L m s Q E B F X N T hk hR hret
  refine wpAny_call ?_
  k_dflt (walk_at "m_enterC")
  rename_i o1 o2 o3 d1 d2 d3
  have hm198 : ∃ o, (198, o) ∈ tabs := by
    rcases ht with rfl | ⟨c, oc, vs, t, h⟩
    · exact ⟨_, List.Mem.head _⟩
    · rw [h.is]; exact ⟨_, List.Mem.head _⟩
  obtain ⟨o198, hm198⟩ := hm198
  have h198 : @LT.lt Nat _ 198 _ := yl1 _ (List.mem_append_left _ hm198)
  have hmd := List.mem_append_right tabs hm
  walk_at "m_steps"
  k_dflt (refine nestDef_K rfl rfl rfl ?_)
  k_dflt (refine nest_any (P := 198) (c := 202) (by k_asm) (by k_asm) (by k_asm) (codeHd_of_K (by k_asm) (by kernel_rfl)) rfl (by exact ht) ⟨_, List.Mem.tail _ (List.Mem.tail _ (List.Mem.tail _ (List.mem_append_left _ hm198)))⟩ (SwF.tail (by k_ne) (SwF.tail (by k_ne) (SwF.tail (by k_ne) (SwF.head hr)))) rfl ?_)
  intro f9 c9 oc9 vs9 tq9 ct9 dc9 h9 tk9 tabs' F9 N9 hF9 hc9 lf9 lc9
  have hmc := hF9.mem (rest := rest)
  obtain ⟨hd9, hv9⟩ := And.intro hF9.d hF9.v
  (try dsimp only at N9)
  k_lt lf9
  have hemp : vs.isEmpty = false := by
    cases vs with
    | nil => exact absurd hvl (by simp; omega)
    | cons _ _ => rfl
  have hmd' := List.mem_append_right tabs' hm
  walk_at "m_steps"
  refine key_of (by k_asm) (fun fo hfo => ?_)
  have key : ∀ (rest9 : List (Addr × Obj)) (oA oI oN : Obj), (f9, fo) ∈ rest9 → (c9, oc9) ∈ rest9 → (yL + 1, oA) ∈ rest9 → (yL + 1 + 1, oN) ∈ rest9 → (yL + 1 + 1 + 1, oI) ∈ rest9 → oA.data = .cell (some (.ref dl)) → oI.data = .cell (some (.ref f9)) → oN.data = .cell (some (.int n t2)) →
      (dl, listOf vs.toArray nd) ∈ rest9 → ∀ (k : Nat), 0 < k → ∀ (lo hi : Nat) (tl tr : Tok), hi = lo + k → hi ≤ vs.length → 
      Con Mine.hpK prog w p loose mean mg mb (k+1) f9 rest9 [.int (lo : Int) tl, .int (hi : Int) tr] [] (fun r nx => nx = rest9 ∧ ∃ v t, r = .int v t ∧ 0 ≤ v ∧ v < 2 ^ (14 + (n + 1) * k) ∧ ∀ f, k ≤ f → v = d2P n ds f lo k) := by
    subst hfo
    clear hret N yFG yB yX yT B F X T hk lf9 hF9 hc9 hR
    intro rest9 oA oI oN hmf hmc hmN hmA hmI hdA hdI hdN hmd9 k
    induction k using Nat.strongRecOn with
    | ind k ih =>
      intro hk0 lo hi tl tr hhi hlo
      intro dp un gd cn cs a ccd cl outer A₀ bs h₀ L m s Q E B F X N T hk hR hret
      have hmid := mid_eq hhi
      have hnL := newsLt N
      have hkn : k / 2 * n ≤ 24 * 24 := Nat.mul_le_mul (by omega) hn.2
      refine wpAny_call ?_
      k_dflt (walk_at "m_enterN")
      rcases Nat.lt_or_ge 1 k with yh | yh
      · iterate 11 (first | (k_unfold; (try dsimp only)) | walk1)
        walk_at "m_nay"
        walk_at "m_steps"
        · k_dflt (refine ih (k - k / 2) (by omega) (by omega) (lo + k / 2) hi _ _ (by omega) hlo _ _ _ _ _ _ _ _ _ _ _ _ _ _ _ _ _ (by k_asm) (by k_asm) (by k_asm) (by k_asm) (by k_asm) (by first | exact rfl | assumption) (by walk_at "m_kR") ?_)
          rintro _ _ h8 tk8 ⟨rfl, v1, tv1, rfl, hv1, hw1, hA1⟩ F8 N8
          have hsz : ((Builtin.Int.intBits v1 : Int)) + ((k / 2 * n : Nat) : Int) ≤ 2 ^ 27 := by
            have := d2_bits (k := k - k / 2) hn.2 (by omega) ⟨hv1, hw1⟩
            generalize k / 2 * n = S at *
            omega
          walk_at "m_steps"
          · k_dflt (refine ih (k / 2) (by omega) (by omega) lo (lo + k / 2) _ _ rfl (by omega) _ _ _ _ _ _ _ _ _ _ _ _ _ _ _ _ _ (by k_asm) (by k_asm) (by k_asm) (by k_asm) (by k_asm) (by first | exact rfl | assumption) (by walk_at "m_kR") ?_)
            rintro _ _ h7 tk7 ⟨rfl, v2, tv2, rfl, hv2, hw2, hA2⟩ F7 N7
            walk_at "m_steps"
            obtain ⟨hb1, hb2⟩ := d2_bound (n := n) yh rfl ⟨hv1, hw1⟩ ⟨hv2, hw2⟩
            refine hret _ _ _ _ ⟨rfl, _, _, rfl, hb1, hb2, ?_⟩ (by first | k_asm | assumption) (by first | k_asm | assumption)
            intro f hf
            obtain ⟨g, rfl, e⟩ := d2P_more (n := n) (ds := ds) (lo := lo) hf yh
            rw [e, hA1 g (by omega), hA2 g (by omega)]
      · obtain rfl : k = 1 := by omega
        iterate 11 (first | (k_unfold; (try dsimp only)) | walk1)
        walk_at "m_yes"
        have hd0 : ds[lo]? = some (ds.getD lo 0) := by rw [List.getD_eq_getElem?_getD, List.getElem?_eq_getElem (by omega)]; rfl
        obtain ⟨v0, hv0, t0, rfl⟩ := hA.get' hd0
        have hw0 : vs[((lo : Int)).toNat]? = some (.int (ds.getD lo 0) t0) := by rw [Int.toNat_natCast]; exact hv0
        walk_at "m_steps"
        have hbb := d2P_bound (n := n) hd 1 1 lo (by omega) (by omega) (by omega)
        rw [d2P_one (Nat.le_refl 1)] at hbb
        refine hret _ _ _ _ ⟨rfl, _, _, rfl, hbb.1, hbb.2, fun f hf => (d2P_one hf).symm⟩ (by first | k_asm | assumption) (by first | k_asm | assumption)
  walk_at "m_steps"
  rename News _ _ _ ((f9, _) :: _) => N7
  k_dflt (refine key _ _ _ _ (by rw [hfo]; exact List.Mem.head _) (by k_mem) (by k_mem) (by k_mem) (by k_mem) (by exact d3) (by assumption) (by exact d2) (by k_mem) vs.length (by omega) 0 vs.length _ _ (by omega) (Nat.le_refl _) _ _ _ _ _ _ _ _ _ _ _ _ _ _ _ _ _ (by k_asm) (by k_asm) (by k_asm) N7 (by k_asm) (by first | exact rfl | assumption) (Room.step (k := 3) hR (by omega) (by decide)) ?_)
  rintro _ _ h8 tk8 ⟨rfl, v1, tv1, rfl, hv1, hw1, hA1⟩ F8 N8
  walk_at "m_steps"
  refine hret _ _ _ _ ⟨_, tabs', by rw [hA1 _ (Nat.le_refl _), hvl]; rfl, rfl, ⟨_, _, _, _, hF9⟩, Grew.of hF9 ⟨_, hm198⟩ hc9 (fun q hq => .tail _ (.tail _ (.tail _ hq)))⟩ (by first | k_asm | assumption) (News.sub (by first | k_asm | assumption) (by intro p9 h9; repeat (first | exact h9 | refine List.Mem.tail _ ?_)))
end
theorem up_le {y : Int} (h : 0 ≤ y) (S : Nat) : 0 ≤ y.fdiv (2 ^ S) ∧ y.fdiv (2 ^ S) ≤ y ∧ 0 ≤ y - y.fdiv (2 ^ S) * 2 ^ S ∧ y - y.fdiv (2 ^ S) * 2 ^ S ≤ y := by
  obtain ⟨m, rfl⟩ := Int.eq_ofNat_of_zero_le h
  have e2 : (2 : Int) ^ S = ((2 ^ S : Nat) : Int) := by simp
  rw [e2, Int.fdiv_eq_ediv_of_nonneg _ (Int.natCast_nonneg _)]
  have h1 : m / 2 ^ S ≤ m := Nat.div_le_self _ _
  have h2 : m / 2 ^ S * 2 ^ S ≤ m := Nat.div_mul_le_self _ _
  have e3 : ((m : Int) / ((2 ^ S : Nat) : Int)) = ((m / 2 ^ S : Nat) : Int) := rfl
  rw [e3, ← Int.natCast_mul]
  generalize m / 2 ^ S = q at *
  generalize q * 2 ^ S = r at *
  omega
theorem dgF_bound {n : Nat} : ∀ {f k : Nat} {x : Int}, 0 ≤ x → ∀ d ∈ dgF n f k x, 0 ≤ d ∧ d ≤ x := by
  intro f
  induction f with
  | zero => intro k x _ d hd; exact absurd hd List.not_mem_nil
  | succ f ih =>
    intro k x hx d hd
    replace hd : d ∈ (if k = 1 then [x] else dgF n f (k / 2) (x - x.fdiv (2 ^ (k / 2 * n)) * 2 ^ (k / 2 * n)) ++ dgF n f (k - k / 2) (x.fdiv (2 ^ (k / 2 * n)))) := hd
    obtain ⟨u1, u2, u3, u4⟩ := up_le hx (k / 2 * n)
    split at hd
    · rw [List.mem_singleton.mp hd]
      exact ⟨hx, Int.le_refl _⟩
    · rcases List.mem_append.mp hd with hd | hd
      · have := ih u3 d hd
        exact ⟨this.1, Int.le_trans this.2 u4⟩
      · have := ih u1 d hd
        exact ⟨this.1, Int.le_trans this.2 u2⟩
noncomputable def dvAt (n : Nat) (b : Int) (ds : List Int) : Nat → Int × List Int
  | 0 => (0, [])
  | i + 1 => let st := dvAt n b ds i; ((st.1 * 2 ^ n + ds.getD (ds.length - 1 - i) 0).fmod b, st.2 ++ [(st.1 * 2 ^ n + ds.getD (ds.length - 1 - i) 0).fdiv b])
theorem pow7 {n : Nat} (h : n ≤ 7) : (0 : Int) < 2 ^ n ∧ (2 : Int) ^ n ≤ 128 := by
  have : n < 8 := by omega
  clear h
  revert n
  decide
theorem dv_small {r d b : Int} {n : Nat} (hn : n ≤ 7) (hr : 0 ≤ r ∧ r < b) (hb : b ≤ 100) (hd : 0 ≤ d ∧ d ≤ 1000) : 0 ≤ r * 2 ^ n + d ∧ r * 2 ^ n + d ≤ 13800 := by
  obtain ⟨p1, p2⟩ := pow7 hn
  generalize (2 : Int) ^ n = p at *
  have h1 : 0 ≤ r * p := Int.mul_nonneg hr.1 (Int.le_of_lt p1)
  have h2 : r * p ≤ 100 * 128 := Int.le_trans (Int.mul_le_mul_of_nonneg_left p2 hr.1) (Int.mul_le_mul_of_nonneg_right (by omega) (by decide))
  omega
theorem dv_fdiv {x b : Int} (hx : 0 ≤ x ∧ x ≤ 13800) (hb : 0 < b) : 0 ≤ x.fdiv b ∧ x.fdiv b < 16384 := by
  rw [Int.fdiv_eq_ediv_of_nonneg _ (Int.le_of_lt hb)]
  have h1 := Int.ediv_nonneg hx.1 (Int.le_of_lt hb)
  have h2 := Int.ediv_le_self b hx.1
  omega
theorem dv_fmod {x b : Int} (hx : 0 ≤ x ∧ x ≤ 13800) (hb : 0 < b) : 0 ≤ x.fmod b ∧ x.fmod b < b := ⟨Int.fmod_nonneg_of_pos _ hb, Int.fmod_lt_of_pos _ hb⟩
theorem dvAt_ok {n : Nat} {b : Int} {ds : List Int} (hn : n ≤ 7) (hb : 0 < b ∧ b ≤ 100) (hd : ∀ d ∈ ds, 0 ≤ d ∧ d ≤ 1000) : ∀ i, i ≤ ds.length → (0 ≤ (dvAt n b ds i).1 ∧ (dvAt n b ds i).1 < b) ∧ (∀ q ∈ (dvAt n b ds i).2, 0 ≤ q ∧ q < 16384) ∧ (dvAt n b ds i).2.length = i := by
  intro i
  induction i with
  | zero => exact fun _ => ⟨⟨Int.le_refl _, hb.1⟩, fun q hq => absurd hq List.not_mem_nil, rfl⟩
  | succ i ih =>
    intro hi
    obtain ⟨h1, h2, h3⟩ := ih (by omega)
    have hx := dv_small hn h1 hb.2 (hd (ds.getD (ds.length - 1 - i) 0) (by rw [List.getD_eq_getElem?_getD, List.getElem?_eq_getElem (by omega)]; exact List.getElem_mem _))
    refine ⟨dv_fmod hx hb.1, fun q hq => ?_, ?_⟩
    · rcases List.mem_append.mp hq with hq | hq
      · exact h2 q hq
      · rw [List.mem_singleton.mp hq]
        exact dv_fdiv hx hb.1
    · show ((dvAt n b ds i).2 ++ [_]).length = i + 1
      rw [List.length_append, h3]; rfl
noncomputable def dvPair (a b : Int) : Int × Int :=
  let n := Builtin.Int.intBits b
  let ds := dgs n a
  let st := dvAt n b ds ds.length
  (d2i n st.2.reverse, st.1)
theorem dgF_len {n : Nat} : ∀ {f k : Nat} {x : Int}, 0 < k → k ≤ f → (dgF n f k x).length = k := by
  intro f
  induction f with
  | zero => intro k x h1 h2; omega
  | succ f ih =>
    intro k x h1 h2
    show (if k = 1 then [x] else _).length = k
    by_cases hk : k = 1
    · rw [if_pos hk, hk]; rfl
    · rw [if_neg hk, List.length_append, ih (by omega) (by omega), ih (by omega) (by omega)]
      omega
theorem dgs_len {n : Nat} {x : Int} (hn : 0 < n ∧ n ≤ 24) (hx : 0 < x ∧ x ≤ 10000000) : (dgs n x).length ≤ 24 ∧ 0 < (dgs n x).length := by
  obtain ⟨K, _, hK, hKe⟩ := i2d_len hn (bits_le (x := x) (by omega))
  have hp : 0 < K := by
    rw [← hKe]
    have : 0 < Builtin.Int.intBits x := by
      unfold Builtin.Int.intBits
      rw [if_neg (by simp; omega)]
      omega
    exact Nat.div_pos (by omega) hn.1
  unfold dgs
  rw [hKe, dgF_len hp (Nat.le_refl _)]
  exact ⟨hK, hp⟩
theorem newsMid {h₀ h : Heap} {L : Addr} {a d : Addr × Obj} {t1 t2 r : List (Addr × Obj)} (N : News h₀ L h (a :: d :: (t1 ++ (t2 ++ r)))) : News h₀ L h (t2 ++ (a :: (t1 ++ r))) := News.sub N fun q hq => by
  rcases List.mem_append.mp hq with hq | hq
  · exact .tail _ (.tail _ (List.mem_append_right _ (List.mem_append_left _ hq)))
  · rcases List.mem_cons.mp hq with rfl | hq
    · exact .head _
    · rcases List.mem_append.mp hq with hq | hq
      · exact .tail _ (.tail _ (List.mem_append_left _ hq))
      · exact .tail _ (.tail _ (List.mem_append_right _ (List.mem_append_right _ hq)))
theorem Are.rev {α : Type} {Is : α → Value → Prop} {vs : List Value} {as : List α} (h : Are Is vs as) : Are Is vs.reverse as.reverse := by
  induction h with
  | nil => exact .nil
  | cons h1 _ ih => rw [List.reverse_cons, List.reverse_cons]; exact ih.append (.cons h1 .nil)
theorem newsTabs {h₀ h : Heap} {L : Addr} {a d p1 p2 : Addr × Obj} {t1 t2 r : List (Addr × Obj)} (N : News h₀ L h (a :: (t2 ++ (d :: (t1 ++ r))))) (h1 : p1 ∈ t1) (h2 : p2 ∈ t2) : News h₀ L h (a :: p1 :: p2 :: r) := News.sub N fun p hp => by
  rcases List.mem_cons.mp hp with rfl | hp
  · exact .head _
  · rcases List.mem_cons.mp hp with rfl | hp
    · exact .tail _ (List.mem_append_right _ (.tail _ (List.mem_append_left _ h1)))
    · rcases List.mem_cons.mp hp with rfl | hp
      · exact .tail _ (List.mem_append_left _ h2)
      · exact .tail _ (List.mem_append_right _ (.tail _ (List.mem_append_right _ hp)))
theorem exchUpto_map {base : Int} {ds : List Int} : exchUpto base ds 5 = (exR ds).map fun w => nameW base w.1 w.2 := by
  unfold exchUpto exR
  rw [List.map_flatMap]
  congr 1
  funext k
  unfold exchAt exRAt
  rw [List.map_append]
  congr 1
  · split <;> rfl
  · split <;> rfl
noncomputable def IsPiece (base : Int) (news : List (Addr × Obj)) (r : List Int) (v : Value) : Prop := ∃ T t t' k, v = .ref T ∧ (T, tupOf [.str (Str.ofString "") t, .str (nameOf base r) t'] k) ∈ news
theorem IsPiece.sub {base : Int} {news news' : List (Addr × Obj)} {r : List Int} {v : Value} (h : IsPiece base news r v) (hs : ∀ p ∈ news, p ∈ news') : IsPiece base news' r v := by
  obtain ⟨T, t, t', k, rfl, hm⟩ := h
  exact ⟨T, t, t', k, rfl, hs _ hm⟩
theorem permAll {l l' : List (Addr × Obj)} (h : l.Perm l') : ∀ p ∈ l', p ∈ l := fun _ hp => h.mem_iff.mpr hp
structure Ap (x hl : Addr) (l : List (Addr × Obj)) : Prop where
  x : ∀ p ∈ l, p.1 ≠ x
  h : ∀ p ∈ l, p.1 ≠ hl
theorem Ap.cons {x hl : Addr} {a : Addr × Obj} {l : List (Addr × Obj)} (h : Ap x hl l) (h1 : a.1 ≠ x) (h2 : a.1 ≠ hl) : Ap x hl (a :: l) :=
  ⟨fun p hp => by rcases List.mem_cons.mp hp with rfl | hp; exact h1; exact h.x p hp, fun p hp => by rcases List.mem_cons.mp hp with rfl | hp; exact h2; exact h.h p hp⟩
theorem Ap.app {x hl : Addr} {l l' : List (Addr × Obj)} (h : Ap x hl l) (h' : Ap x hl l') : Ap x hl (l ++ l') :=
  ⟨fun p hp => by rcases List.mem_append.mp hp with hp | hp; exact h.x p hp; exact h'.x p hp, fun p hp => by rcases List.mem_append.mp hp with hp | hp; exact h.h p hp; exact h'.h p hp⟩
theorem Ap.of_ne {x hl : Addr} {l : List (Addr × Obj)} (h1 : ∀ p ∈ l, p.1 ≠ x) (h2 : ∀ p ∈ l, p.1 ≠ hl) : Ap x hl l := ⟨h1, h2⟩
theorem Ap.of_lt {x hl d : Addr} {l : List (Addr × Obj)} (h : ∀ p ∈ l, p.1 < d) (h1 : d ≤ x) (h2 : d ≤ hl) : Ap x hl l :=
  ⟨fun p hp => Nat.ne_of_lt (Nat.lt_of_lt_of_le (h p hp) h1), fun p hp => Nat.ne_of_lt (Nat.lt_of_lt_of_le (h p hp) h2)⟩
theorem mem_h1 {α : Type} {a b : α} {l : List α} : b ∈ a :: b :: l := .tail _ (.head _)
theorem mem_rest {α : Type} {a b p : α} {t f : List α} (h : p ∈ f) : p ∈ a :: b :: (t ++ f) := .tail _ (.tail _ (List.mem_append_right _ h))
/-- a tuple in front of the two objects goes in among the tuples -/
theorem swapT {T a b : Addr × Obj} {t f : List (Addr × Obj)} : ∀ p ∈ a :: b :: ((T :: t) ++ f), p ∈ T :: a :: b :: (t ++ f) := by
  intro p hp
  rcases List.mem_cons.mp hp with rfl | hp
  · exact .tail _ (.head _)
  · rcases List.mem_cons.mp hp with rfl | hp
    · exact .tail _ (.tail _ (.head _))
    · rcases List.mem_cons.mp hp with rfl | hp
      · exact .head _
      · exact .tail _ (.tail _ (.tail _ hp))
theorem IsPair.more {T : Addr × Obj} {l : List (Addr × Obj)} {e : Str × Str} {v : Value} (h : IsPair l e v) : IsPair (T :: l) e v := h.sub fun _ hp => .tail _ hp
theorem IsPiece.more {base : Int} {T : Addr × Obj} {l : List (Addr × Obj)} {r : List Int} {v : Value} (h : IsPiece base l r v) : IsPiece base (T :: l) r v := h.sub fun _ hp => .tail _ hp
theorem mem_h0 {α : Type} {a : α} {l : List α} : a ∈ a :: l := .head _
theorem updX {x hl : Addr} {o o' ol : Obj} {l : List (Addr × Obj)} (h : Ap x hl l) (hx : x ≠ hl) : Upd x o o' ((x, o) :: (hl, ol) :: l) ((x, o') :: (hl, ol) :: l) := Upd.head fun p hp => by
  rcases List.mem_cons.mp hp with rfl | hp
  · exact hx.symm
  · exact h.x p hp
theorem updH {x hl : Addr} {o o' ox : Obj} {l : List (Addr × Obj)} (h : Ap x hl l) (hx : x ≠ hl) : Upd hl o o' ((x, ox) :: (hl, o) :: l) ((x, ox) :: (hl, o') :: l) := Upd.tail hx (Upd.head h.h)
theorem memOf {h₀ h : Heap} {L : Addr} {news : List (Addr × Obj)} {q : Addr × Obj} (_ : News h₀ L h news) (h : q ∈ news) : q ∈ news := h
section
variable {prog : Program} {w : World} {A : Around} {E : Value → Shared → Prop} {s₁ : Shared} {h₀ : Heap} {env : Env} {Q : Flow → Shared → Prop} {test : Expr} {body orelse : List Stmt}
theorem while_M2 {m₀ : Str → Option Value} {nx₀ : List (Addr × Obj)} {h : Heap} {tk : Nat} (J : (Str → Option Value) → Nat → (Str → Option Value) → List (Addr × Obj) → Prop) (F : Fr h₀ env.locals h m₀) (N : News h₀ env.locals h nx₀) (k : Nat) (h0 : J m₀ k m₀ nx₀) (hE : PassesOwn (model prog w) A env E)
    (turn : ∀ (k : Nat) m₁ nx h tk, J m₀ k m₁ nx → Fr h₀ env.locals h m₁ → News h₀ env.locals h nx →
      wpAny (model prog w) A (isTrue test env (eval test env)) (fun b s₂ => if b = true then wpAny (model prog w) A (execs body env) (WPost h₀ env.locals (J m₀) k { s₁ with heap := h, toks := tk } Q) E s₂ else wpAny (model prog w) A (execs orelse env) Q E s₂) E { s₁ with heap := h, toks := tk }) :
    WhlAt prog w A E env test body orelse Q { s₁ with heap := h, toks := tk } := while_M (J m₀) hE turn k m₀ nx₀ h tk h0 F N
end
theorem Ap.nil {x hl : Addr} : Ap x hl [] := ⟨fun p hp => absurd hp List.not_mem_nil, fun p hp => absurd hp List.not_mem_nil⟩
theorem ForEnd.intro2 {h₀ : Heap} {L : Addr} {J : (Str → Option Value) → List (Addr × Obj) → Prop} {it : Addr} {o : Obj} {s₁ : Shared} {h' : Heap} {tk : Nat} {m' : Str → Option Value} {T' T a b : Addr × Obj} {t f : List (Addr × Obj)}
    (F : Fr h₀ L h' m') (N : News h₀ L h' (T' :: T :: (it, o) :: a :: b :: (t ++ f))) (hne : ∀ p ∈ a :: b :: (t ++ f), p.1 ≠ it) (h1 : T'.1 ≠ it) (h2 : T.1 ≠ it) (hJ : J m' (a :: b :: ((T' :: T :: t) ++ f))) : ForEnd h₀ L J it o s₁ { s₁ with heap := h', toks := tk } := by
  refine ForEnd.intro (a :: b :: ((T' :: T :: t) ++ f)) F N (fun p hp => ?_) (fun p hp => ?_) hJ
  · rcases List.mem_cons.mp hp with rfl | hp
    · exact .tail _ (.tail _ (.head _))
    rcases List.mem_cons.mp hp with rfl | hp
    · exact .tail _ (.tail _ (.tail _ (.head _)))
    rcases List.mem_cons.mp hp with rfl | hp
    · exact .tail _ (.tail _ (.tail _ (.tail _ (.head _))))
    rcases List.mem_cons.mp hp with rfl | hp
    · exact .head _
    rcases List.mem_cons.mp hp with rfl | hp
    · exact .tail _ (.head _)
    · exact .tail _ (.tail _ (.tail _ (.tail _ (.tail _ hp))))
  · rcases List.mem_cons.mp hp with rfl | hp
    · exact hne _ (.head _)
    rcases List.mem_cons.mp hp with rfl | hp
    · exact hne _ (.tail _ (.head _))
    rcases List.mem_cons.mp hp with rfl | hp
    · exact h1
    rcases List.mem_cons.mp hp with rfl | hp
    · exact h2
    · exact hne p (.tail _ (.tail _ hp))
theorem IsPair.drop {l l' : List (Addr × Obj)} {it : Addr} {o : Obj} {e : Str × Str} {v : Value} (h : IsPair l e v) (ho : o.cls = .type "list_iterator") (hs : ∀ p ∈ l, p = (it, o) ∨ p ∈ l') : IsPair l' e v := by
  obtain ⟨T, t, t', k, rfl, hm⟩ := h
  rcases hs _ hm with e | hm
  · have : o = tupOf [.str _ t, .str _ t'] k := (Prod.mk.inj e).2.symm
    rw [this] at ho
    exact absurd (Value.type.inj ho) (by decide)
  · exact ⟨T, t, t', k, rfl, hm⟩
theorem IsPiece.drop {base : Int} {l l' : List (Addr × Obj)} {it : Addr} {o : Obj} {r : List Int} {v : Value} (h : IsPiece base l r v) (ho : o.cls = .type "list_iterator") (hs : ∀ p ∈ l, p = (it, o) ∨ p ∈ l') : IsPiece base l' r v := by
  obtain ⟨T, t, t', k, rfl, hm⟩ := h
  rcases hs _ hm with e | hm
  · have : o = tupOf [.str _ t, .str _ t'] k := (Prod.mk.inj e).2.symm
    rw [this] at ho
    exact absurd (Value.type.inj ho) (by decide)
  · exact ⟨T, t, t', k, rfl, hm⟩
section
theorem words_N9 : True := by
  k_with_none
  k_with "m_enter" => (refine' code_def ?eak1 ?eak2 ?eak3 ?eak4 ?eak5 ?eakA ?eakF ?eakK ?eak6 ?eak7 ?eak8 ?eak9 ?eakB ?_ ?eac2 ?eac3 ?eac4 ?eac5; (case eakA => exact rfl); (case eakF => exact rfl); (case eakK => assumption); (case eak1 => k_asm); (case eak2 => k_asm); (case eak3 => k_asm); (case eak4 => k_asm); (case eak5 => k_asm); (case eak6 => k_is); (case eak7 => k_is); (case eak8 => first | exact Room.depth (by assumption) | walk_at "m_room"); (case eak9 => first | exact BindsTo.of_eq rfl | exact binds_K (by k_in) rfl (by k_is) rfl rfl rfl | (refine' kp_binds ?kx ?ke; (case kx => k_in); (case ke => exact fun _ => rfl))); (case eac5 => decide); (case eakB => exact locs rfl); (case eac2 => exact rfl); (case eac3 => exact rfl); (case eac4 => exact rfl); k_whole; intro vg vL vh vFG vF vN vB vX vT; (try dsimp only); (try k_fold))
  k_with "m_enterC" => (refine' code_defC ?ebk1 ?ebk2 ?ebk3 ?ebk4 ?ebk5 ?ebkA ?ebkF ?ebkK ?ebk6 ?ebk7 ?ebk8 ?ebk9 ?ebkB ?ebkD ?_ ?ebc2 ?ebc3 ?ebc4; (case ebkA => exact rfl); (case ebkF => exact rfl); (case ebkK => assumption); (case ebk1 => k_asm); (case ebk2 => k_asm); (case ebk3 => k_asm); (case ebk4 => k_asm); (case ebk5 => k_asm); (case ebk6 => k_is); (case ebk7 => k_is); (case ebk8 => first | exact Room.depth (by assumption) | walk_at "m_room"); (case ebk9 => first | exact BindsTo.of_eq rfl | exact binds_K (by k_in) rfl (by k_is) rfl rfl rfl | (refine' kp_binds ?kx ?ke; (case kx => k_in); (case ke => exact fun _ => rfl))); (case ebkB => exact rfl); (case ebkD => decide +kernel); (case ebc2 => exact rfl); (case ebc3 => exact rfl); (case ebc4 => exact rfl); k_whole; intro yg yL yh ytk ycells yFG yF yN yY yB yX yT yl1; (try k_lt yl1); k_cells yY; (try simp only [List.cons_append, List.nil_append] at yN); (try dsimp only); (try k_fold))
  k_with "m_compgo" => ((case hh => with_unfolding_all rfl); (case hclos => with_unfolding_all rfl); (case hcell => decide); (case hkind => with_unfolding_all rfl); (case hnames => decide); (case hx => with_unfolding_all rfl))
  k_with "m_sub" => (intro zp9 zh9; repeat (first | exact zh9 | refine List.Mem.tail _ ?_))
  k_with "call builtin:chr" => ((with_reducible show wpAny _ _ (call (Value.builtin "chr") [Value.int _ _]) _ _ _); refine chr_of_range (by omega) (by omega) ?_)
  k_with "call builtin:str.join" => ((with_reducible show wpAny _ _ (call (Value.builtin "str.join") [Value.str _ _, Value.ref _]) _ _ _); (refine' join_are (by k_asm) (by k_mem) (by assumption) (by walk_at "m_fit") ?_); (intro zt9 zk9); (try dsimp only))
  k_with "getMethod ref" => (k_here; (with_reducible show wpAny _ _ (getMethod (Value.ref _) (PySem.Str.ofString "search") _) _ _ _); k_dflt (refine' method_search (by k_asm) (by k_asm) (by k_is) ?_; k_whole))
  k_with "call builtin:re.Pattern.search" => (k_here; k_dflt (refine' search_KN (by k_asm) (by k_asm) (by k_is) (by rfl) (by rfl) (by k_is) (by first | exact Or.inl rfl | exact Or.inr rfl) (by assumption) ?_; k_whole))
  k_with "m_std" => ((case k1 => k_asm); (case k2 => k_asm); (case k3 => k_asm); (case k4 => k_asm); (case k5 => k_asm); (case kK => first | exact rfl | assumption); (case kR => first | exact Room.step (k := 3) (by assumption) (by decide) (by decide) | exact Room.step (k := 4) (by assumption) (by decide) (by decide) | exact Room.step (by assumption) (by omega) (by decide)))
  k_with "exec For" => (k_here; (with_reducible refine for_at ?_ (by intro _; with_unfolding_all rfl)))
  k_with "ForPost" => (dsimp only [ForPost])
  k_with "m_len" => first | omega | (simp only [List.length_append, List.length_cons, List.length_nil, List.length_take, List.length_drop]; omega)
  k_with "m_lt" => (intro zl9; (try k_lt zl9); (try k_sweep))
  k_with "call builtin:len" => (k_here; (with_reducible show wpAny _ _ (call (Value.builtin "len") [Value.ref _]) _ _ _); k_dflt (refine' len_N (by k_asm) (by k_mem) (by walk_at "m_len") ?_; k_whole))
  k_with "subscriptTail" => (k_here; (with_reducible show wpAny _ _ (subscriptTail _ _ (Value.ref _) (Value.ref _)) _ _ _); (with_unfolding_all first | (refine' slice_all_N (by k_asm) (by k_asm) (by k_mem) (by walk_at "m_len") ?_; k_whole; intro zD zh zF zN; walk_at "m_lt") | (refine' slice_from_N (by k_asm) (by k_asm) (by k_mem) (by walk_at "m_len") (by omega) ?_; k_whole; intro zD zh zF zN; walk_at "m_lt") | (refine' slice_upto_N (by k_asm) (by k_asm) (by k_mem) (by walk_at "m_len") (by omega) ?_; k_whole; intro zD zh zF zN; walk_at "m_lt")))
  k_with "m_room" => ((try simp only [depth_under_make, depth_under_kw, depth_in1, depth_deeper, depth_caller]); (try dsimp only [ktrTop]); (have zhR9 := Room.d (by assumption)); omega)
  k_with "k_units" => ((try simp only [units_under_make, units_in1, units_deeper, Around.mark_units, units_caller]); (try dsimp only [ktrTop]); (have zhR9 := Room.u (by assumption)); omega)
  k_with "k_all" => first | assumption | exact neA (by assumption) | exact neB (by assumption) | exact neB (And.right (by assumption)) | exact neB (And.right (And.right (by assumption))) | exact neB (And.right (And.right (And.right (by assumption)))) | exact neB (And.right (And.right (And.right (And.right (by assumption))))) | exact neB (And.right (And.right (And.right (And.right (And.right (by assumption))))))
  k_with "k_mem" => first | with_reducible assumption | (refine mem_ofL ?_; with_reducible assumption)
  k_with "exec For Name Call cons nil" => (k_here; (with_reducible refine for_at ?_ (by intro _; with_unfolding_all rfl)))
  k_with "call type:range" => (k_here; k_dflt (first | (refine' range_N 5 rfl (by k_asm) (by k_asm) ?_; k_whole) | (refine' range_N 6 rfl (by k_asm) (by k_asm) ?_; k_whole) | (refine' range_N 3 rfl (by k_asm) (by k_asm) ?_; k_whole)); intro zr zh ztk zt zu zv zF zN; walk_at "m_lt")
  k_with "subscriptTail" => (k_here; (with_reducible show wpAny _ _ (subscriptTail _ _ (Value.ref _) (Value.int _ _)) _ _ _); k_dflt (with_unfolding_all (refine' item_N (by k_asm) (by k_mem) (by omega) (by omega) (by assumption) ?_; k_whole)))
  k_with "binaryOp Add ref ref" => (k_here; k_dflt (refine' add_N (by k_asm) (by k_asm) (by k_mem) (by k_mem) (by walk_at "m_len") ?_; k_whole; intro zD zh zF zN; walk_at "m_lt"))
  k_with "binaryOp Mult str int" => (k_here; refine SB.mul (mulOk_of 16 1048576 (Nat.le_of_ble_eq_true rfl) (by omega) (by omega) (by decide) (by decide)) ?_; intro _ _; (try rw [mulTxt]))
  k_with "m_clean" => (try (with_reducible refine' wp_clean (by (dsimp only; exact rfl)) ?_))
  k_with "m_steps" => repeat' (first | (k_unfold; (try dsimp only)) | (k_end; wrow_close) | (walk1 <;> walk_at "m_clean") | (dsimp only; walk1 <;> walk_at "m_clean") | (leave1; try dsimp only) | fail "no step")
  k_with "m_kR" => first | exact Room.step (k := 3) (by assumption) (by decide) (by decide) | exact Room.step (k := 4) (by assumption) (by decide) (by decide) | exact Room.step (by assumption) (by omega) (by decide)
  k_with "call builtin:str.upper" => (k_here; (with_reducible show wpAny _ _ (call (Value.builtin "str.upper") [Value.str (nameOf _ _) _]) _ _ _); (refine SCL.upper (by rw [nameOf_length, row_len (by assumption) (by assumption)]; decide) ?_); intro _)
  k_with "call builtin:list.append" => (k_here; (with_reducible show wpAny _ _ (call (Value.builtin "list.append") [Value.ref _, _]) _ _ _); k_dflt (refine' append_N (by k_asm) (by k_asm) (by k_upd) (by walk_at "m_len") ?_; k_whole; intro zh zF zN; (try k_sweep)))
  k_with "binaryOp Mult int int" => (k_here; (with_reducible rename (∀ b, IntMulOk _ b) => zhM9); refine PyProof.Rows.mul_int ?_ (zhM9 _))
  k_with "binaryOp Mult ref int" => (k_here; (with_reducible show wpAny _ _ (binaryOp Operator.Mult (Value.ref _) (Value.int _ _)) _ _ _); k_dflt (refine' mul1_N (by k_asm) (by k_asm) (by k_mem) (by first | omega | (simp only [Int.fdiv_one]; omega)) (by first | omega | (simp only [Int.fdiv_one]; omega)) ?_; k_whole; intro zD zh zF zN; walk_at "m_lt"))
  k_with "k_all" => exact neL (by assumption) (by omega)
  k_with "m_yes" => refine ite_yes (by first | omega | (simp only [decide_eq_true_eq, beq_iff_eq]; omega)) ?_
  k_with "m_nay" => refine ite_nay (by first | omega | (simp only [decide_eq_true_eq, beq_iff_eq]; omega)) ?_
  k_with "call type:reversed" => (k_here; (with_reducible show wpAny _ _ (call (Value.type _) [Value.ref _]) _ _ _); k_dflt (refine krv_reversed (by k_asm) (by k_asm) (News.isList (by k_asm) (by k_mem)) ?_); intro zD zh zF zN zl1)
  k_with "call builtin:list.reverse" => (k_here; (with_reducible show wpAny _ _ (call (Value.builtin _) [Value.ref _]) _ _ _); k_dflt (refine' kl_reverse (by k_asm) (by k_asm) rfl (by k_upd) (by rw [sizeLine_eq]; walk_at "m_len") ?_); intro zh zF zN)
  k_with "binaryOp LShift int int" => (k_here; refine lshift_int (Int.natCast_nonneg _) (by assumption) ?_; rw [Int.toNat_natCast])
  k_with "call builtin:int.bit_length" => (k_here; (rename (Builtin.Int.intBits _ = _) => zhB9); (with_reducible refine call_int_bit_length ?_); rw [zhB9])
  trivial
variable {prog : Program} {w : World} {p : Program} {loose : List Str} {mean : ExcName → Option Value} {mg mb : Str → Option Value} {news : List (Addr × Obj)}
theorem TabFull.tab {P : Addr} {ln co : Nat} {qual : Str} {tabs : List (Addr × Obj)} {c : Addr} {oc : Obj} {vs : Array Value} {t : Tok} (h : TabFull P ln co qual tabs c oc vs t) : (∃ ps, (P, tabObj ps) ∈ tabs) ∧ ∀ q ∈ tabs, q.1 = P ∨ @LT.lt Nat _ 198 q.1 := by
  rw [h.is]
  refine ⟨⟨_, List.Mem.head _⟩, fun q hq => ?_⟩
  rcases List.mem_cons.mp hq with rfl | hq
  · exact .inl rfl
  · rcases List.mem_cons.mp hq with rfl | hq
    · exact .inr h.gt
    · exact absurd hq List.not_mem_nil
theorem dpos_spec {a b : Int} {t1 t2 : Tok} {tb1 tb2 rest : List (Addr × Obj)} (ha : 0 < a ∧ a ≤ 1000) (hb : 0 < b ∧ b ≤ 100) (hT1 : ∃ c oc vs t, TabFull 191 114 4 (Str.ofString "_int2digits.<locals>.inner") tb1 c oc vs t)
   (hT2 : ∃ c oc vs t, TabFull 198 129 4 (Str.ofString "_digits2int.<locals>.inner") tb2 c oc vs t) (h12 : ∀ q ∈ tb2 ++ rest, q.1 ≠ 191) (h21 : ∀ q ∈ tb1 ++ rest, q.1 ≠ 198) :
   Con Mine.hpK prog w p loose mean mg mb 45 210 (tb1 ++ (tb2 ++ rest)) [.int a t1, .int b t2] [] (fun r nx => ∃ T k u1 u2 ps1 ps2, r = .ref T ∧ nx = (T, tupOf [.int (dvPair a b).1 u1, .int (dvPair a b).2 u2] k) :: (191, tabObj ps1) :: (198, tabObj ps2) :: rest) := by
  have hm2 : ∃ o, (198, o) ∈ tb2 ++ rest := by
    obtain ⟨c, oc, vs, t, h⟩ := hT2
    obtain ⟨⟨ps, hp⟩, _⟩ := h.tab
    exact ⟨_, List.mem_append_left _ hp⟩
  have hbn : 0 < Builtin.Int.intBits b ∧ Builtin.Int.intBits b ≤ 7 := by
    refine ⟨?_, PyProof.Rows.intBits_le (by show b.natAbs < 2 ^ 7; rw [show (2 : Nat) ^ 7 = 128 from by decide]; omega)⟩
    unfold Builtin.Int.intBits
    rw [if_neg (by simp; omega)]
    omega
  generalize hn : Builtin.Int.intBits b = n at hbn
  have hpair : dvPair a b = (d2i n (dvAt n b (dgs n a) (dgs n a).length).2.reverse, (dvAt n b (dgs n a) (dgs n a).length).1) := by unfold dvPair; rw [hn]
  intro dp un gd cn cs a' ccd cl outer A₀ bs h₀ L m s Q E B F X N T hk hR hret
  refine wpAny_call ?_
  k_dflt (walk_at "m_enter")
  walk_at "m_steps"
  k_dflt (refine i2d_spec (n := n) ⟨Int.le_of_lt ha.1, by omega⟩ ⟨hbn.1, by omega⟩ (Or.inr hT1) (fun q hq => h12 q hq) hm2 _ _ _ _ _ _ _ _ _ _ _ _ _ _ _ _ _ (by k_asm) (by k_asm) (by k_asm) (by k_asm) (by k_asm) (by first | exact rfl | assumption) (by walk_at "m_kR") ?_)
  rintro _ _ h8 tk8 ⟨D, ws, n1, tb1', rfl, rfl, hA, ⟨c1, oc1, vs1, tt1, hF1⟩, hG1, hD1, hD2⟩ F8 N8
  walk_at "m_steps"
  have hwl := hA.length
  rename (∀ p ∈ (_ : List (Addr × Obj)), p.1 < _) => lI
  have lI2 := lI
  k_lt lI2
  have hdg : ∀ d ∈ dgs n a, 0 ≤ d ∧ d ≤ 1000 := fun d hd => by
    have := dgF_bound (Int.le_of_lt ha.1) d hd
    omega
  have hdl : (dgs n a).length ≤ 24 ∧ 0 < (dgs n a).length := dgs_len ⟨hbn.1, by omega⟩ ⟨ha.1, by omega⟩
  have hDl : ∀ p ∈ tb1' ++ (tb2 ++ rest), p.1 ≠ D := by
    intro p hp
    rcases List.mem_append.mp hp with hp | hp
    · exact hD2 p hp
    · exact Nat.ne_of_lt (hD1 p (List.mem_append_right _ hp))
  refine for_revM (l := D) (n := n1) (fun m₀ n₀ i m' nx => ∃ Qd k R qs k', n₀ = (Qd, listOf ([] : List Value).toArray k) :: (D, listOf ws.toArray n1) :: R ∧ nx = (Qd, listOf qs.toArray k') :: (D, listOf ws.toArray n1) :: R ∧ Are IsInt qs (dvAt n b (dgs n a) i).2 ∧ (∃ t, m' (Str.ofString "r") = some (.int (dvAt n b (dgs n a) i).1 t)) ∧ ∀ z, z ≠ Str.ofString "r" → z ≠ Str.ofString "q_digit" → z ≠ Str.ofString "a_digit" → m' z = m₀ z)
    (by k_asm) (by k_asm) (fun p hp => Nat.ne_of_lt (lI p hp)) rfl ?hE ?hl ?h0 ?turn ?done
  case hE => with_unfolding_all passes_own
  case hl =>
    rintro i m' nx ⟨Qd, k, R, qs, k', h1, rfl, _⟩
    exact .tail _ (.head _)
  case h0 => exact ⟨_, _, _, [], _, rfl, rfl, .nil, ⟨_, rfl⟩, fun _ _ _ _ => rfl⟩
  case turn =>
    rintro i v m₁ nx h tk it o hi hv ⟨Qd, k, R, qs, k', h1, rfl, hAq, ⟨tr, hr⟩, hm⟩ F₁ N₁ hoff
    cases h1
    obtain ⟨mr, mq, ma, rfl⟩ := expl3 hm
    cases (show mr = _ from hr)
    have hi2 : i < (dgs n a).length := by omega
    have hdv : (dgs n a)[(dgs n a).length - 1 - i]? = some ((dgs n a).getD ((dgs n a).length - 1 - i) 0) := by rw [List.getD_eq_getElem?_getD, List.getElem?_eq_getElem (by omega)]; rfl
    obtain ⟨v0, hv0, tv, rfl⟩ := hA.get' hdv
    rw [hwl, hv0] at hv
    cases hv
    obtain ⟨hr1, hr2, hr3⟩ := dvAt_ok hbn.2 hb hdg i (by omega)
    have hsm := dv_small hbn.2 hr1 hb.2 (hdg _ (List.mem_of_getElem? hdv))
    have hls : ((Builtin.Int.intBits (dvAt n b (dgs n a) i).1 : Int)) + (n : Int) ≤ 2 ^ 27 := by
      have := bits_le (x := (dvAt n b (dgs n a) i).1) ⟨hr1.1, by omega⟩
      omega
    refine turn_name F₁ N₁ rfl rfl ?_
    intro h' tk' F₂ N₂
    generalize hP : ForPost _ _ _ _ _ _ _ = P
    walk_at "m_steps"
    k_dflt (refine div2_spec (x := (dvAt n b (dgs n a) i).1 * 2 ^ n + (dgs n a).getD ((dgs n a).length - 1 - i) 0) (y := b) (n := (n : Int)) ⟨hsm.1, by omega⟩ ⟨hb.1, by omega⟩ (Int.natCast_nonneg n) _ _ _ _ _ _ _ _ _ _ _ _ _ _ _ _ _ (by k_asm) (by k_asm) (by k_asm) (by k_asm) (by k_asm) (by first | exact rfl | assumption) (by walk_at "m_kR") ?_)
    rintro _ _ h7 tk7 ⟨T7, u1, u2, k7, rfl, rfl, hT7⟩ F7 N7
    have hitQ := hoff _ (List.Mem.head _)
    have hitQ' := hitQ.symm
    have hTQ := Nat.ne_of_gt (hT7 _ (List.Mem.tail _ (List.Mem.head _)))
    have hql := hAq.length
    dsimp only at hitQ hitQ' hTQ
    walk_at "m_steps"
    subst hP
    refine ForEnd.intro _ (by k_asm) (by k_asm) (by walk_at "m_sub") ?_ ⟨_, _, _, _, _, rfl, rfl, hAq.append (.cons ⟨_, rfl⟩ .nil), ⟨_, rfl⟩, fun z a b c => by simp [a, b, c]⟩
    intro p9 hp9
    rcases List.mem_cons.mp hp9 with rfl | hp9
    · exact hitQ
    · exact hoff p9 (List.Mem.tail _ hp9)
  case done =>
    rintro m₁ nx h tk ⟨Qd, k, R, qs, k', h1, rfl, hAq, ⟨tr, hr⟩, hm⟩ F₁ N₁
    cases h1
    obtain ⟨mr, mq, ma, rfl⟩ := expl3 hm
    cases (show mr = _ from hr)
    dsimp only
    have hql := hAq.length
    have hqz := (dvAt_ok hbn.2 hb hdg ws.length (by omega)).2.2
    walk_at "m_steps"
    rename News _ _ _ ((_, listOf _ _) :: _) => N7
    have N8 := newsMid N7
    have h198 : @LT.lt Nat _ 198 D := by
      obtain ⟨o, ho⟩ := hm2
      exact hD1 _ (List.mem_append_right _ ho)
    have hws : ws.length = (dgs n a).length := hwl
    rw [hws] at hAq
    k_dflt (refine d2i_spec (List.Mem.head _) hAq.rev (fun d hd => (dvAt_ok hbn.2 hb hdg (dgs n a).length (Nat.le_refl _)).2.1 d (List.mem_reverse.mp hd)) ?hlen ⟨hbn.1, by omega⟩ (Or.inr hT2) ?hne _ _ _ _ _ _ _ _ _ _ _ _ _ _ _ _ _ (by k_asm) (by k_asm) (by k_asm) N8 (by k_asm) (by first | exact rfl | assumption) (by walk_at "m_kR") ?_)
    case hlen =>
      rw [List.length_reverse, (dvAt_ok hbn.2 hb hdg (dgs n a).length (Nat.le_refl _)).2.2]
      exact ⟨hdl.2, hdl.1⟩
    case hne =>
      intro q hq
      rcases List.mem_cons.mp hq with rfl | hq
      · exact Nat.ne_of_gt (by omega)
      · rcases List.mem_append.mp hq with hq | hq
        · rcases hF1.tab.2 q hq with e | e
          · rw [e]; decide
          · exact Nat.ne_of_gt e
        · exact h21 q (List.mem_append_right _ hq)
    rintro _ _ h6 tk6 ⟨t6, tb2', rfl, rfl, ⟨c2, oc2, vs2, tt2, hF2⟩, hG2⟩ F6 N6
    walk_at "m_steps"
    have hws' : dvPair a b = (d2i n (dvAt n b (dgs n a) (dgs n a).length).2.reverse, (dvAt n b (dgs n a) ws.length).1) := by rw [hws]; exact hpair
    rw [hws'] at hret
    obtain ⟨⟨ps1, hp1⟩, _⟩ := hF1.tab
    obtain ⟨⟨ps2, hp2⟩, _⟩ := hF2.tab
    have N5 := newsTabs (by first | k_asm | assumption : News h₀ L _ (_ :: (tb2' ++ (_ :: (tb1' ++ rest))))) hp1 hp2
    refine hret _ _ _ _ ⟨_, _, _, _, ps1, ps2, rfl, rfl⟩ (by first | k_asm | assumption) N5
theorem idm_spec {a b : Int} {t1 t2 : Tok} {tb1 tb2 rest : List (Addr × Obj)} (ha : 0 < a ∧ a ≤ 1000) (hb : 0 < b ∧ b ≤ 100) (hT1 : ∃ c oc vs t, TabFull 191 114 4 (Str.ofString "_int2digits.<locals>.inner") tb1 c oc vs t)
   (hT2 : ∃ c oc vs t, TabFull 198 129 4 (Str.ofString "_digits2int.<locals>.inner") tb2 c oc vs t) (h12 : ∀ q ∈ tb2 ++ rest, q.1 ≠ 191) (h21 : ∀ q ∈ tb1 ++ rest, q.1 ≠ 198) :
   Con Mine.hpK prog w p loose mean mg mb 50 217 (tb1 ++ (tb2 ++ rest)) [.int a t1, .int b t2] [] (fun r nx => ∃ T k u1 u2 ps1 ps2, r = .ref T ∧ nx = (T, tupOf [.int (dvPair a b).1 u1, .int (dvPair a b).2 u2] k) :: (191, tabObj ps1) :: (198, tabObj ps2) :: rest) := by
  intro dp un gd cn cs a' ccd cl outer A₀ bs h₀ L m s Q E B F X N T hk hR hret
  refine wpAny_call ?_
  k_dflt (walk_at "m_enter")
  walk_at "m_steps"
  · exfalso; omega
  k_dflt (refine dpos_spec ha hb hT1 hT2 h12 h21 _ _ _ _ _ _ _ _ _ _ _ _ _ _ _ _ _ (by k_asm) (by k_asm) (by k_asm) (by k_asm) (by k_asm) (by first | exact rfl | assumption) (by walk_at "m_kR") ?_)
  rintro _ _ h8 tk8 ⟨T8, k8, u1, u2, ps1, ps2, rfl, rfl⟩ F8 N8
  walk_at "m_steps"
  refine hret _ _ _ _ ⟨_, _, _, _, ps1, ps2, rfl, rfl⟩ (by first | k_asm | assumption) (by first | k_asm | assumption)
end
section
theorem words_N4 : True := by
  k_with_none
  k_with "m_enter" => (refine' code_def ?eak1 ?eak2 ?eak3 ?eak4 ?eak5 ?eakA ?eakF ?eakK ?eak6 ?eak7 ?eak8 ?eak9 ?eakB ?_ ?eac2 ?eac3 ?eac4 ?eac5; (case eakA => exact rfl); (case eakF => exact rfl); (case eakK => assumption); (case eak1 => k_asm); (case eak2 => k_asm); (case eak3 => k_asm); (case eak4 => k_asm); (case eak5 => k_asm); (case eak6 => k_is); (case eak7 => k_is); (case eak8 => first | exact Room.depth (by assumption) | walk_at "m_room"); (case eak9 => first | exact BindsTo.of_eq rfl | exact binds_K (by k_in) rfl (by k_is) rfl rfl rfl | (refine' kp_binds ?kx ?ke; (case kx => k_in); (case ke => exact fun _ => rfl))); (case eac5 => decide); (case eakB => exact locs rfl); (case eac2 => exact rfl); (case eac3 => exact rfl); (case eac4 => exact rfl); k_whole; intro vg vL vh vFG vF vN vB vX vT; (try dsimp only); (try k_fold))
  k_with "m_enterC" => (refine' code_defC ?ebk1 ?ebk2 ?ebk3 ?ebk4 ?ebk5 ?ebkA ?ebkF ?ebkK ?ebk6 ?ebk7 ?ebk8 ?ebk9 ?ebkB ?ebkD ?_ ?ebc2 ?ebc3 ?ebc4; (case ebkA => exact rfl); (case ebkF => exact rfl); (case ebkK => assumption); (case ebk1 => k_asm); (case ebk2 => k_asm); (case ebk3 => k_asm); (case ebk4 => k_asm); (case ebk5 => k_asm); (case ebk6 => k_is); (case ebk7 => k_is); (case ebk8 => first | exact Room.depth (by assumption) | walk_at "m_room"); (case ebk9 => first | exact BindsTo.of_eq rfl | exact binds_K (by k_in) rfl (by k_is) rfl rfl rfl | (refine' kp_binds ?kx ?ke; (case kx => k_in); (case ke => exact fun _ => rfl))); (case ebkB => exact rfl); (case ebkD => decide +kernel); (case ebc2 => exact rfl); (case ebc3 => exact rfl); (case ebc4 => exact rfl); k_whole; intro yg yL yh ytk ycells yFG yF yN yY yB yX yT yl1; (try k_lt yl1); k_cells yY; (try simp only [List.cons_append, List.nil_append] at yN); (try dsimp only); (try k_fold))
  k_with "m_compgo" => ((case hh => with_unfolding_all rfl); (case hclos => with_unfolding_all rfl); (case hcell => decide); (case hkind => with_unfolding_all rfl); (case hnames => decide); (case hx => with_unfolding_all rfl))
  k_with "m_sub" => (intro zp9 zh9; repeat (first | exact zh9 | refine List.Mem.tail _ ?_))
  k_with "call builtin:chr" => ((with_reducible show wpAny _ _ (call (Value.builtin "chr") [Value.int _ _]) _ _ _); refine chr_of_range (by omega) (by omega) ?_)
  k_with "call builtin:str.join" => ((with_reducible show wpAny _ _ (call (Value.builtin "str.join") [Value.str _ _, Value.ref _]) _ _ _); (refine' join_are (by k_asm) (by k_mem) (by assumption) (by walk_at "m_fit") ?_); (intro zt9 zk9); (try dsimp only))
  k_with "getMethod ref" => (k_here; (with_reducible show wpAny _ _ (getMethod (Value.ref _) (PySem.Str.ofString "search") _) _ _ _); k_dflt (refine' method_search (by k_asm) (by k_asm) (by k_is) ?_; k_whole))
  k_with "call builtin:re.Pattern.search" => (k_here; k_dflt (refine' search_KN (by k_asm) (by k_asm) (by k_is) (by rfl) (by rfl) (by k_is) (by first | exact Or.inl rfl | exact Or.inr rfl) (by assumption) ?_; k_whole))
  k_with "m_std" => ((case k1 => k_asm); (case k2 => k_asm); (case k3 => k_asm); (case k4 => k_asm); (case k5 => k_asm); (case kK => first | exact rfl | assumption); (case kR => first | exact Room.step (k := 3) (by assumption) (by decide) (by decide) | exact Room.step (k := 4) (by assumption) (by decide) (by decide) | exact Room.step (by assumption) (by omega) (by decide)))
  k_with "exec For" => (k_here; (with_reducible refine for_at ?_ (by intro _; with_unfolding_all rfl)))
  k_with "ForPost" => (dsimp only [ForPost])
  k_with "m_len" => first | omega | (simp only [List.length_append, List.length_cons, List.length_nil, List.length_take, List.length_drop]; omega)
  k_with "m_lt" => (intro zl9; (try k_lt zl9); (try k_sweep))
  k_with "call builtin:len" => (k_here; (with_reducible show wpAny _ _ (call (Value.builtin "len") [Value.ref _]) _ _ _); k_dflt (refine' len_N (by k_asm) (by k_mem) (by walk_at "m_len") ?_; k_whole))
  k_with "subscriptTail" => (k_here; (with_reducible show wpAny _ _ (subscriptTail _ _ (Value.ref _) (Value.ref _)) _ _ _); (with_unfolding_all first | (refine' slice_all_N (by k_asm) (by k_asm) (by k_mem) (by walk_at "m_len") ?_; k_whole; intro zD zh zF zN; walk_at "m_lt") | (refine' slice_from_N (by k_asm) (by k_asm) (by k_mem) (by walk_at "m_len") (by omega) ?_; k_whole; intro zD zh zF zN; walk_at "m_lt") | (refine' slice_upto_N (by k_asm) (by k_asm) (by k_mem) (by walk_at "m_len") (by omega) ?_; k_whole; intro zD zh zF zN; walk_at "m_lt")))
  k_with "m_room" => ((try simp only [depth_under_make, depth_under_kw, depth_in1, depth_deeper, depth_caller]); (try dsimp only [ktrTop]); (have zhR9 := Room.d (by assumption)); omega)
  k_with "k_units" => ((try simp only [units_under_make, units_in1, units_deeper, Around.mark_units, units_caller]); (try dsimp only [ktrTop]); (have zhR9 := Room.u (by assumption)); omega)
  k_with "k_all" => first | assumption | exact neA (by assumption) | exact neB (by assumption) | exact neB (And.right (by assumption)) | exact neB (And.right (And.right (by assumption))) | exact neB (And.right (And.right (And.right (by assumption)))) | exact neB (And.right (And.right (And.right (And.right (by assumption))))) | exact neB (And.right (And.right (And.right (And.right (And.right (by assumption))))))
  k_with "k_mem" => first | with_reducible assumption | (refine mem_ofL ?_; with_reducible assumption)
  k_with "exec For Name Call cons nil" => (k_here; (with_reducible refine for_at ?_ (by intro _; with_unfolding_all rfl)))
  k_with "call type:range" => (k_here; k_dflt (first | (refine' range_N 5 rfl (by k_asm) (by k_asm) ?_; k_whole) | (refine' range_N 6 rfl (by k_asm) (by k_asm) ?_; k_whole) | (refine' range_N 3 rfl (by k_asm) (by k_asm) ?_; k_whole)); intro zr zh ztk zt zu zv zF zN; walk_at "m_lt")
  k_with "subscriptTail" => (k_here; (with_reducible show wpAny _ _ (subscriptTail _ _ (Value.ref _) (Value.int _ _)) _ _ _); k_dflt (with_unfolding_all (refine' item_N (by k_asm) (by k_mem) (by omega) (by omega) (by assumption) ?_; k_whole)))
  k_with "binaryOp Add ref ref" => (k_here; k_dflt (refine' add_N (by k_asm) (by k_asm) (by k_mem) (by k_mem) (by walk_at "m_len") ?_; k_whole; intro zD zh zF zN; walk_at "m_lt"))
  k_with "binaryOp Mult str int" => (k_here; refine SB.mul (mulOk_of 16 1048576 (Nat.le_of_ble_eq_true rfl) (by omega) (by omega) (by decide) (by decide)) ?_; intro _ _; (try rw [mulTxt]))
  k_with "m_clean" => (try (with_reducible refine' wp_clean (by (dsimp only; exact rfl)) ?_))
  k_with "m_steps" => repeat' (first | (k_unfold; (try dsimp only)) | (k_end; wrow_close) | (walk1 <;> walk_at "m_clean") | (dsimp only; walk1 <;> walk_at "m_clean") | (leave1; try dsimp only) | fail "no step")
  k_with "m_kR" => first | exact Room.step (k := 3) (by assumption) (by decide) (by decide) | exact Room.step (k := 4) (by assumption) (by decide) (by decide) | exact Room.step (by assumption) (by omega) (by decide)
  k_with "call builtin:str.upper" => (k_here; (with_reducible show wpAny _ _ (call (Value.builtin "str.upper") [Value.str (nameOf _ _) _]) _ _ _); (refine SCL.upper (by rw [nameOf_length, row_len (by assumption) (by assumption)]; decide) ?_); intro _)
  k_with "call builtin:list.append" => (k_here; (with_reducible show wpAny _ _ (call (Value.builtin "list.append") [Value.ref _, _]) _ _ _); k_dflt (refine' append_N (by k_asm) (by k_asm) (by k_upd) (by walk_at "m_len") ?_; k_whole; intro zh zF zN; (try k_sweep)))
  k_with "binaryOp Mult int int" => (k_here; (with_reducible rename (∀ b, IntMulOk _ b) => zhM9); refine PyProof.Rows.mul_int ?_ (zhM9 _))
  k_with "binaryOp Mult ref int" => (k_here; (with_reducible show wpAny _ _ (binaryOp Operator.Mult (Value.ref _) (Value.int _ _)) _ _ _); k_dflt (refine' mul1_N (by k_asm) (by k_asm) (by k_mem) (by first | omega | (simp only [Int.fdiv_one]; omega)) (by first | omega | (simp only [Int.fdiv_one]; omega)) ?_; k_whole; intro zD zh zF zN; walk_at "m_lt"))
  k_with "k_all" => exact neL (by assumption) (by omega)
  k_with "m_yes" => refine ite_yes (by first | omega | (simp only [decide_eq_true_eq, beq_iff_eq]; omega)) ?_
  k_with "m_nay" => refine ite_nay (by first | omega | (simp only [decide_eq_true_eq, beq_iff_eq]; omega)) ?_
  k_with "subscriptTail Name Slice ref ref" => (k_here; (with_reducible show wpAny _ _ (subscriptTail _ _ (Value.ref _) (Value.ref _)) _ _ _); k_dflt (with_unfolding_all refine slice3_H (st := some 5) (by assumption) (.int _ _) .none (.int _ _) (by decide) ?_ (hsz := by rw [sizeLine_eq]; assumption)); intro zD3 zh3 zk3 zi3; (have zF3 := Fr.kept (by k_asm) zk3); (have zN3 := newsKept (by k_asm) zk3))
  k_with "call builtin:sum" => (k_here; (with_reducible show wpAny _ _ (call (Value.builtin "sum") [Value.ref _]) _ _ _); k_dflt (refine sum_H rfl (by assumption) (allInts_pick (by assumption)) ?_); intro zh4 ztk4 zt4 zk4; (have zF4 := Fr.kept (by k_asm) zk4); (have zN4 := newsKept (by k_asm) zk4))
  k_with "m_clean" => first | (with_reducible refine' wp_clean (by (dsimp only; exact rfl)) ?_) | (conv => arg 6; dsimp only) | skip
  trivial
variable {prog : Program} {w : World} {p : Program} {loose : List Str} {mean : ExcName → Option Value} {mg mb : Str → Option Value} {news : List (Addr × Obj)}
theorem keep_trans {h1 h2 h3 : Heap} (k : ∀ b o, h2.get? b = some o → h3.get? b = some o) (k' : ∀ b o, h1.get? b = some o → h2.get? b = some o) : ∀ b o, h1.get? b = some o → h3.get? b = some o := fun b o e => k b o (k' b o e)
abbrev IsSome (v : Value) : Prop := ∃ i t, v = .int i t
theorem digits_spec {l : Addr} {vs : List Value} {xs : List Int} (hI : IntsAre vs xs) (hlen : xs.length ≤ 63) :
   ConP Mine.hpK prog w p loose mean mg mb 2 305 news [.ref l] [] (fun h => h.IsList l vs.toArray) (fun r nx => ∃ D ws k ds, r = .ref D ∧ nx = (D, listOf ws.toArray k) :: news ∧ Are IsInt ws ds ∧ DigRow ds ∧ ∀ p ∈ news, p.1 ≠ D) := by
  intro dp un gd cn cs a ccd cl outer A₀ bs h₀ L m s Q E B F X N T hk hR hP hret
  refine wpAny_call ?_
  k_dflt (walk_at "m_enterC")
  rename_i o1 o2 d1 d2
  have hai : AllInts vs.toArray := hI.allInts
  have hsz : vs.toArray.size ≤ 16777216 := by rw [List.size_toArray, hI.length]; omega
  have hP1 : yg.IsList l vs.toArray := hP.at fun o e => yFG.keep l o e
  iterate 19 (first | (k_unfold; (try dsimp only)) | walk1)
  refine' comp_rng (fun _ => IsSome) ?hh ?hclos ?hcell ?hkind ?hnames ?hx ?_
  walk_at "m_compgo"
  walk_at "m_steps"
  refine RSrc.ofN (by k_asm) (by k_asm) (List.Mem.head _) (by decide) ?elt ?out
  case elt =>
    intro i tv C mC E' s₃ hi hn3 hx3 hk3 F3 N3
    have hP3 : s₃.heap.IsList l vs.toArray := hP1.at fun o e => F3.keep l o e
    have hc3 : (i : Int) = 0 ∨ (i : Int) = 1 ∨ (i : Int) = 2 ∨ (i : Int) = 3 ∨ (i : Int) = 4 := by omega
    walk_at "m_steps"
    exact ⟨_, _, rfl, keep_trans (by assumption) (by assumption)⟩
  case out =>
    intro D h' tk ys k F' N' hne hy
    simp only [List.mem_cons, forall_eq_or_imp] at hne
    obtain ⟨q1, q2, q3, q4, q5⟩ := hne
    have q2' := q2.symm
    have q3' := q3.symm
    have q4' := q4.symm
    have hy' : Are (fun _ => IsSome) ys [0, 1, 2, 3, 4] := hy
    obtain ⟨_, _, _, _, _, rfl, ⟨a0, t0, rfl⟩, ⟨a1, t1, rfl⟩, ⟨a2, t2, rfl⟩, ⟨a3, t3, rfl⟩, ⟨a4, t4, rfl⟩⟩ := are5 hy'
    walk_at "m_steps"
    (rename IntsAre _ _ => hI9)
    refine hret _ _ _ _ ⟨_, _, _, _, rfl, rfl, ints_are hI9, ⟨_, _, _, _, _, ⟨?_, ?_⟩, ⟨?_, ?_⟩, ⟨?_, ?_⟩, ⟨?_, ?_⟩, ⟨?_, ?_⟩, rfl⟩, by k_all⟩ (by first | k_asm | assumption) (News.sub (by first | k_asm | assumption) (by intro p9 h9; rcases List.mem_cons.mp h9 with rfl | h9; exact List.Mem.head _; repeat (first | exact h9 | refine List.Mem.tail _ ?_)))
    all_goals first | exact (fm3 _).1 | exact (fm3 _).2 | exact fm21 _ | exact fm22 _
end
section
theorem words_W2 : True := by
  k_with_none
  k_with "m_enter" => (refine' code_def ?eak1 ?eak2 ?eak3 ?eak4 ?eak5 ?eakA ?eakF ?eakK ?eak6 ?eak7 ?eak8 ?eak9 ?eakB ?_ ?eac2 ?eac3 ?eac4 ?eac5; (case eakA => exact rfl); (case eakF => exact rfl); (case eakK => assumption); (case eak1 => k_asm); (case eak2 => k_asm); (case eak3 => k_asm); (case eak4 => k_asm); (case eak5 => k_asm); (case eak6 => k_is); (case eak7 => k_is); (case eak8 => first | exact Room.depth (by assumption) | walk_at "m_room"); (case eak9 => first | exact BindsTo.of_eq rfl | exact binds_K (by k_in) rfl (by k_is) rfl rfl rfl | (refine' kp_binds ?kx ?ke; (case kx => k_in); (case ke => exact fun _ => rfl))); (case eac5 => decide); (case eakB => exact locs rfl); (case eac2 => exact rfl); (case eac3 => exact rfl); (case eac4 => exact rfl); k_whole; intro vg vL vh vFG vF vN vB vX vT; (try dsimp only); (try k_fold))
  k_with "m_enterC" => (refine' code_defC ?ebk1 ?ebk2 ?ebk3 ?ebk4 ?ebk5 ?ebkA ?ebkF ?ebkK ?ebk6 ?ebk7 ?ebk8 ?ebk9 ?ebkB ?ebkD ?_ ?ebc2 ?ebc3 ?ebc4; (case ebkA => exact rfl); (case ebkF => exact rfl); (case ebkK => assumption); (case ebk1 => k_asm); (case ebk2 => k_asm); (case ebk3 => k_asm); (case ebk4 => k_asm); (case ebk5 => k_asm); (case ebk6 => k_is); (case ebk7 => k_is); (case ebk8 => first | exact Room.depth (by assumption) | walk_at "m_room"); (case ebk9 => first | exact BindsTo.of_eq rfl | exact binds_K (by k_in) rfl (by k_is) rfl rfl rfl | (refine' kp_binds ?kx ?ke; (case kx => k_in); (case ke => exact fun _ => rfl))); (case ebkB => exact rfl); (case ebkD => decide +kernel); (case ebc2 => exact rfl); (case ebc3 => exact rfl); (case ebc4 => exact rfl); k_whole; intro yg yL yh ytk ycells yFG yF yN yY yB yX yT yl1; (try k_lt yl1); k_cells yY; (try simp only [List.cons_append, List.nil_append] at yN); (try dsimp only); (try k_fold))
  k_with "m_compgo" => ((case hh => with_unfolding_all rfl); (case hclos => with_unfolding_all rfl); (case hcell => decide); (case hkind => with_unfolding_all rfl); (case hnames => decide); (case hx => with_unfolding_all rfl))
  k_with "m_sub" => (intro zp9 zh9; repeat (first | exact zh9 | refine List.Mem.tail _ ?_))
  k_with "call builtin:chr" => ((with_reducible show wpAny _ _ (call (Value.builtin "chr") [Value.int _ _]) _ _ _); refine chr_of_range (by omega) (by omega) ?_)
  k_with "call builtin:str.join" => ((with_reducible show wpAny _ _ (call (Value.builtin "str.join") [Value.str _ _, Value.ref _]) _ _ _); (refine' join_are (by k_asm) (by k_mem) (by assumption) (by walk_at "m_fit") ?_); (intro zt9 zk9); (try dsimp only))
  k_with "getMethod ref" => (k_here; (with_reducible show wpAny _ _ (getMethod (Value.ref _) (PySem.Str.ofString "search") _) _ _ _); k_dflt (refine' method_search (by k_asm) (by k_asm) (by k_is) ?_; k_whole))
  k_with "call builtin:re.Pattern.search" => (k_here; k_dflt (refine' search_KN (by k_asm) (by k_asm) (by k_is) (by rfl) (by rfl) (by k_is) (by first | exact Or.inl rfl | exact Or.inr rfl) (by assumption) ?_; k_whole))
  k_with "m_std" => ((case k1 => k_asm); (case k2 => k_asm); (case k3 => k_asm); (case k4 => k_asm); (case k5 => k_asm); (case kK => first | exact rfl | assumption); (case kR => first | exact Room.step (k := 3) (by assumption) (by decide) (by decide) | exact Room.step (k := 4) (by assumption) (by decide) (by decide) | exact Room.step (by assumption) (by omega) (by decide)))
  k_with "exec For" => (k_here; (with_reducible refine for_at ?_ (by intro _; with_unfolding_all rfl)))
  k_with "ForPost" => (dsimp only [ForPost])
  k_with "m_len" => first | omega | (simp only [List.length_append, List.length_cons, List.length_nil, List.length_take, List.length_drop]; omega)
  k_with "m_lt" => (intro zl9; (try k_lt zl9); (try k_sweep))
  k_with "call builtin:len" => (k_here; (with_reducible show wpAny _ _ (call (Value.builtin "len") [Value.ref _]) _ _ _); k_dflt (refine' len_N (by k_asm) (by k_mem) (by walk_at "m_len") ?_; k_whole))
  k_with "subscriptTail" => (k_here; (with_reducible show wpAny _ _ (subscriptTail _ _ (Value.ref _) (Value.ref _)) _ _ _); (with_unfolding_all first | (refine' slice_all_N (by k_asm) (by k_asm) (by k_mem) (by walk_at "m_len") ?_; k_whole; intro zD zh zF zN; walk_at "m_lt") | (refine' slice_from_N (by k_asm) (by k_asm) (by k_mem) (by walk_at "m_len") (by omega) ?_; k_whole; intro zD zh zF zN; walk_at "m_lt") | (refine' slice_upto_N (by k_asm) (by k_asm) (by k_mem) (by walk_at "m_len") (by omega) ?_; k_whole; intro zD zh zF zN; walk_at "m_lt")))
  k_with "m_room" => ((try simp only [depth_under_make, depth_under_kw, depth_in1, depth_deeper, depth_caller]); (try dsimp only [ktrTop]); (have zhR9 := Room.d (by assumption)); omega)
  k_with "k_units" => ((try simp only [units_under_make, units_in1, units_deeper, Around.mark_units, units_caller]); (try dsimp only [ktrTop]); (have zhR9 := Room.u (by assumption)); omega)
  k_with "k_all" => first | assumption | exact neA (by assumption) | exact neB (by assumption) | exact neB (And.right (by assumption)) | exact neB (And.right (And.right (by assumption))) | exact neB (And.right (And.right (And.right (by assumption)))) | exact neB (And.right (And.right (And.right (And.right (by assumption))))) | exact neB (And.right (And.right (And.right (And.right (And.right (by assumption))))))
  k_with "k_mem" => first | with_reducible assumption | (refine mem_ofL ?_; with_reducible assumption)
  k_with "exec For Name Call cons nil" => (k_here; (with_reducible refine for_at ?_ (by intro _; with_unfolding_all rfl)))
  k_with "call type:range" => (k_here; k_dflt (first | (refine' range_N 5 rfl (by k_asm) (by k_asm) ?_; k_whole) | (refine' range_N 6 rfl (by k_asm) (by k_asm) ?_; k_whole) | (refine' range_N 3 rfl (by k_asm) (by k_asm) ?_; k_whole)); intro zr zh ztk zt zu zv zF zN; walk_at "m_lt")
  k_with "subscriptTail" => (k_here; (with_reducible show wpAny _ _ (subscriptTail _ _ (Value.ref _) (Value.int _ _)) _ _ _); k_dflt (with_unfolding_all (refine' item_N (by k_asm) (by k_mem) (by omega) (by omega) (by assumption) ?_; k_whole)))
  k_with "binaryOp Add ref ref" => (k_here; k_dflt (refine' add_N (by k_asm) (by k_asm) (by k_mem) (by k_mem) (by walk_at "m_len") ?_; k_whole; intro zD zh zF zN; walk_at "m_lt"))
  k_with "binaryOp Mult str int" => (k_here; refine SB.mul (mulOk_of 16 1048576 (Nat.le_of_ble_eq_true rfl) (by omega) (by omega) (by decide) (by decide)) ?_; intro _ _; (try rw [mulTxt]))
  k_with "m_clean" => (try (with_reducible refine' wp_clean (by (dsimp only; exact rfl)) ?_))
  k_with "m_steps" => repeat' (first | (k_unfold; (try dsimp only)) | (k_end; wrow_close) | (walk1 <;> walk_at "m_clean") | (dsimp only; walk1 <;> walk_at "m_clean") | (leave1; try dsimp only) | fail "no step")
  k_with "m_kR" => first | exact Room.step (k := 3) (by assumption) (by decide) (by decide) | exact Room.step (k := 4) (by assumption) (by decide) (by decide) | exact Room.step (by assumption) (by omega) (by decide)
  k_with "call builtin:str.upper" => (k_here; (with_reducible show wpAny _ _ (call (Value.builtin "str.upper") [Value.str (nameOf _ _) _]) _ _ _); (refine SCL.upper (by rw [nameOf_length, row_len (by assumption) (by assumption)]; decide) ?_); intro _)
  k_with "call builtin:list.append" => (k_here; (with_reducible show wpAny _ _ (call (Value.builtin "list.append") [Value.ref _, _]) _ _ _); k_dflt (refine' append_N (by k_asm) (by k_asm) (by k_upd) (by walk_at "m_len") ?_; k_whole; intro zh zF zN; (try k_sweep)))
  k_with "binaryOp Mult int int" => (k_here; (with_reducible rename (∀ b, IntMulOk _ b) => zhM9); refine PyProof.Rows.mul_int ?_ (zhM9 _))
  k_with "binaryOp Mult ref int" => (k_here; (with_reducible show wpAny _ _ (binaryOp Operator.Mult (Value.ref _) (Value.int _ _)) _ _ _); k_dflt (refine' mul1_N (by k_asm) (by k_asm) (by k_mem) (by first | omega | (simp only [Int.fdiv_one]; omega)) (by first | omega | (simp only [Int.fdiv_one]; omega)) ?_; k_whole; intro zD zh zF zN; walk_at "m_lt"))
  k_with "k_all" => exact neL (by assumption) (by omega)
  k_with "m_yes" => refine ite_yes (by first | omega | (simp only [decide_eq_true_eq, beq_iff_eq]; omega)) ?_
  k_with "m_nay" => refine ite_nay (by first | omega | (simp only [decide_eq_true_eq, beq_iff_eq]; omega)) ?_
  k_with "getMethod ref" => (k_here; k_dflt (refine' method_acc (by k_asm) (by k_asm) (by k_asm) (by k_mem) (by k_mem) (by k_is) (by decide +kernel) (by k_is) (by k_is) (by k_is) (by k_get) ?_; k_whole))
  k_with "exec While" => (k_here; refine while_at ?_)
  k_with "exec While Compare" => (k_here; refine while_at ?_)
  k_with "m_perm" => (intro zp9 zh9; (repeat' (rcases List.mem_cons.mp zh9 with zh9 | zh9)); all_goals (first | (subst zh9; (repeat (first | exact List.Mem.head _ | refine List.Mem.tail _ ?_)); done) | ((repeat (first | exact zh9 | refine List.Mem.tail _ ?_)); done)))
  k_with "call builtin:str.lower" => (k_here; (with_reducible show wpAny _ _ (call (Value.builtin "str.lower") [Value.str (nameW _ _ _) _]) _ _ _); (refine SCL.lower (by rw [len_nameW (by assumption) (And.right (by assumption)), And.left (by assumption : V _)]; decide) ?_); intro _; rw [lower_nameW (by assumption) (And.right (by assumption : V _))])
  trivial
variable {prog : Program} {w : World} {p : Program} {loose : List Str} {mean : ExcName → Option Value} {mg mb : Str → Option Value} {news : List (Addr × Obj)}
theorem rounds_spec (hPF : PF prog) {dl : Addr} {vs : List Value} {n : Nat} {ds : List Int} {base : Int} {tb : Tok} (h1 : (dl, listOf vs.toArray n) ∈ news) (he : Are IsInt vs ds) (hV : V ds) (hb : Okb base) {NN : Nat} (hN : NN ≤ 9) (hq : (bfsAt ds NN).2 = []) (hz : (bfsAt ds NN).1.length ≤ 100) :
   Con Mine.hpK prog w p loose mean mg mb 12 322 news [.ref dl, .int base tb] [] (fun r nx => ∃ b dh hl hs tt n1 n2 es tups, r = .ref b ∧ nx = (b, instObj 171 dh) :: (dh, dictOf [⟨hs, .str (Str.ofString "_headers") tt, .ref hl⟩] n1) :: (hl, listOf es.toArray n2) :: (tups ++ news) ∧ Are (IsPair (tups ++ news)) es (bookE base (bfsAt ds NN).1)) := by
  intro dp un gd cn cs a ccd cl outer A₀ bs h₀ L m s Q E B F X N T hk hR hret
  refine wpAny_call ?_
  k_dflt (walk_at "m_enterC")
  rename_i o1 d1
  walk_at "m_steps"
  k_dflt (refine anew_spec hPF _ _ _ _ _ _ _ _ _ _ _ _ _ _ _ _ _ (by k_asm) (by k_asm) (by k_asm) (by k_asm) (by k_asm) (by first | exact rfl | assumption) (by walk_at "m_kR") ?_)
  rintro _ _ h8 tk8 ⟨x, dx, hs1, tt1, ti1, k1, rfl, rfl, lx, ldx⟩ F8 N8
  walk_at "m_steps"
  k_dflt (refine hnew_spec _ _ _ _ _ _ _ _ _ _ _ _ _ _ _ _ _ (by k_asm) (by k_asm) (by k_asm) (by k_asm) (by k_asm) (by first | exact rfl | assumption) (by walk_at "m_kR") ?_)
  rintro _ _ h7 tk7 ⟨b, dh, hl, hs2, tt2, rfl, rfl, lb, ldh, lhl⟩ F7 N7
  walk_at "m_steps"
  k_dflt (refine law_name_spec (.tail _ (.tail _ (.tail _ (.tail _ (.tail _ (.tail _ h1)))))) he hV.2 hb (by rw [hV.1]; decide) _ _ _ _ _ _ _ _ _ _ _ _ _ _ _ _ _ (by k_asm) (by k_asm) (by k_asm) (by k_asm) (by k_asm) (by first | exact rfl | assumption) (by walk_at "m_kR") ?_)
  rintro _ _ h6 tk6 ⟨rfl, t6, rfl⟩ F6 N6
  walk_at "m_steps"
  have lhlx : x < dh := lb _ (.head _)
  have hxhl : x ≠ hl := Nat.ne_of_lt (Nat.lt_trans lhlx (Nat.lt_trans ldh lhl))
  have lx2 : ∀ q ∈ news, q.1 < dx := fun q hq => lx q (.tail _ hq)
  have hApN : Ap x hl news := Ap.of_lt lx2 (Nat.le_of_lt ldx) (Nat.le_of_lt (Nat.lt_trans ldx (Nat.lt_trans lhlx (Nat.lt_trans ldh lhl))))
  have hAp := (((hApN.cons (a := (_, _)) (Nat.ne_of_lt (Nat.lt_trans (lx _ (.head _)) ldx)) (Nat.ne_of_lt (Nat.lt_trans (lx _ (.head _)) (Nat.lt_trans ldx (Nat.lt_trans lhlx (Nat.lt_trans ldh lhl)))))).cons (a := (dx, dictOf [⟨hs1, .str (Str.ofString "_initial_size") tt1, .int 0 ti1⟩] k1)) (Nat.ne_of_lt ldx) (Nat.ne_of_lt (Nat.lt_trans ldx (Nat.lt_trans lhlx (Nat.lt_trans ldh lhl))))).cons (a := (dh, dictOf [⟨hs2, .str (Str.ofString "_headers") tt2, .ref hl⟩] 1)) (Nat.ne_of_gt lhlx) (Nat.ne_of_lt (Nat.lt_trans ldh lhl))).cons (a := (b, instObj 171 dh)) (Nat.ne_of_gt (Nat.lt_trans lhlx ldh)) (Nat.ne_of_lt lhl)
  obtain ⟨fix0, hfix0⟩ : ∃ f, f = (b, instObj 171 dh) :: (dh, dictOf [⟨hs2, .str (Str.ofString "_headers") tt2, .ref hl⟩] 1) :: (dx, dictOf [⟨hs1, .str (Str.ofString "_initial_size") tt1, .int 0 ti1⟩] k1) :: (yL + 1, o1) :: news := ⟨_, rfl⟩
  have mb0 : (b, instObj 171 dh) ∈ fix0 := by rw [hfix0]; exact .head _
  have mh0 : (dh, dictOf [⟨hs2, .str (Str.ofString "_headers") tt2, .ref hl⟩] 1) ∈ fix0 := by rw [hfix0]; exact .tail _ (.head _)
  have md0 : (dx, dictOf [⟨hs1, .str (Str.ofString "_initial_size") tt1, .int 0 ti1⟩] k1) ∈ fix0 := by rw [hfix0]; exact .tail _ (.tail _ (.head _))
  have mc0 : (yL + 1, o1) ∈ fix0 := by rw [hfix0]; exact .tail _ (.tail _ (.tail _ (.head _)))
  have ml0 : (dl, listOf vs.toArray n) ∈ fix0 := by rw [hfix0]; exact .tail _ (.tail _ (.tail _ (.tail _ h1)))
  have mn0 : ∀ p ∈ news, p ∈ fix0 := by rw [hfix0]; exact fun p hp => .tail _ (.tail _ (.tail _ (.tail _ hp)))
  rw [← hfix0] at hAp
  have N5 : News yg yL h6 ((x, accObj 296 dx [] 0) :: (hl, listOf ([] : List Value).toArray 0) :: ([] ++ fix0)) := News.sub N6 (by rw [hfix0]; walk_at "m_perm")
  clear hfix0 N6
  k_dflt (refine push_spec (x := x) (vs := []) mem_h0 (mem_rest md0) (fun o' => updX hAp hxhl) (by decide) _ _ _ _ _ _ _ _ _ _ _ _ _ _ _ _ _ (by k_asm) (by k_asm) (by k_asm) N5 (by k_asm) (by first | exact rfl | assumption) (by walk_at "m_kR") ?_)
  rintro _ _ h5 tk5 ⟨rfl, T5, rfl, lT5⟩ F5 N5
  have N4 := News.sub N5 swapT
  clear N5
  have mb4 := memOf N4 (mem_rest mb0)
  have mh4 := memOf N4 (mem_rest mh0)
  have md4 := memOf N4 (mem_rest md0)
  have mx4 := memOf N4 mem_h0
  have mc4 := memOf N4 (mem_rest mc0)
  have ml4 := memOf N4 (mem_rest ml0)
  walk_at "m_steps"
  k_dflt (refine law_name_spec (mem_rest ml0) he hV.2 hb (by rw [hV.1]; decide) _ _ _ _ _ _ _ _ _ _ _ _ _ _ _ _ _ (by k_asm) (by k_asm) (by k_asm) (by k_asm) (by k_asm) (by first | exact rfl | assumption) (by walk_at "m_kR") ?_)
  rintro _ _ h4 tk4 ⟨rfl, t4, rfl⟩ F4 N4
  walk_at "m_steps"
  k_dflt (refine hsetd_spec (b := b) (x := nameOf base ds) (y := Str.ofString "0") (es := []) (mem_rest mb0) (mem_rest mh0) mem_h1 (fun o' => updH (hAp.cons (Nat.ne_of_gt (lT5 _ mem_h0)) (Nat.ne_of_gt (lT5 _ mem_h1))) hxhl) .nil (ok_name hb hV.2) (by rw [lower_name hb hV.2]; exact ok_name hb hV.2) num0_ok (by rw [nameOf_length, hV.1]; decide) (fun e he => absurd he List.not_mem_nil) (by decide) _ _ _ _ _ _ _ _ _ _ _ _ _ _ _ _ _ (by k_asm) (by k_asm) (by k_asm) (by k_asm) (by k_asm) (by first | exact rfl | assumption) (by walk_at "m_kR") ?_)
  intro r3 n3 h3 tk3 e3 F3 N3
  have e3' := e3
  rw [if_neg (show ¬ (([] : List (Str × Str)).any _ = true) from Bool.false_ne_true)] at e3'
  obtain ⟨T3, rfl, lT3⟩ := e3'
  clear e3
  have N2 := News.sub N3 swapT
  clear N3
  have mb2 := memOf N2 (mem_rest mb0)
  have mh2 := memOf N2 (mem_rest mh0)
  have md2 := memOf N2 (mem_rest md0)
  have mx2 := memOf N2 mem_h0
  have mc2 := memOf N2 (mem_rest mc0)
  have ml2 := memOf N2 (mem_rest ml0)
  walk_at "m_steps"
  refine while_M2 (fun m₀ k m' nx => ∃ c tups ls nl es n2, c + k = NN ∧ nx = (x, accObj 296 dx ls nl) :: (hl, listOf (es : List Value).toArray n2) :: (tups ++ fix0) ∧ Ap x hl tups ∧ Are (IsPair (tups ++ fix0)) es (bookE base (bfsAt ds c).1) ∧ Are (IsPiece base (tups ++ fix0)) ls (bfsAt ds c).2 ∧ (∃ t, m' (Str.ofString "count") = some (.int (c : Int) t)) ∧ ∀ z, z ≠ Str.ofString "count" → z ≠ Str.ofString "piece" → z ≠ Str.ofString "before" → z ≠ Str.ofString "word" → m' z = m₀ z) (by k_asm) (by k_asm) NN ?h0 ?hE ?turn
  case hE => with_unfolding_all passes_own
  case h0 =>
    refine ⟨0, _, _, _, _, _, by omega, rfl, ?_, ?_, ?_, ⟨_, rfl⟩, fun _ _ _ _ _ => rfl⟩
    · exact (Ap.nil.cons (Nat.ne_of_gt (lT5 _ mem_h0)) (Nat.ne_of_gt (lT5 _ mem_h1))).cons (Nat.ne_of_gt (lT3 _ mem_h0)) (Nat.ne_of_gt (lT3 _ mem_h1))
    · rw [show bookE base (bfsAt ds 0).1 = [(nameOf base ds, Str.ofString "0")] from by rw [num0]; rfl]
      exact .cons ⟨_, _, _, _, rfl, .head _⟩ .nil
    · exact .cons ⟨_, _, _, _, rfl, .tail _ (.head _)⟩ .nil
  case turn =>
    clear mb2 mh2 md2 mx2 mc2 ml2 lT3 lT5
    rintro k m₁ nx h tk ⟨c, tups, ls, nl, es, n2, hck, rfl, hApt, hEs, hLs, ⟨tc, hc⟩, hm⟩ F₁ N₁
    obtain ⟨mc, mp, mbf, mw, rfl⟩ := expl4 hm
    cases (show mc = _ from hc)
    have mb2 := memOf N₁ (mem_rest mb0)
    have mh2 := memOf N₁ (mem_rest mh0)
    have md2 := memOf N₁ (mem_rest md0)
    have mx2 := memOf N₁ mem_h0
    have mc2 := memOf N₁ (mem_rest mc0)
    have hg := bfs_good hV c
    have hbl := bfs_len (start := ds) (c := c) (N := NN) (by omega)
    have hll := hLs.length
    have hgl := hg.l
    generalize hP : WPost _ _ _ _ _ _ = P
    walk_at "m_steps"
    k_dflt (refine pcount_spec hPF mem_h0 (mem_rest md0) _ _ _ _ _ _ _ _ _ _ _ _ _ _ _ _ _ (by k_asm) (by k_asm) (by k_asm) (by k_asm) (by k_asm) (by first | exact rfl | assumption) (by walk_at "m_kR") ?_)
    rintro _ _ h4 tk4 ⟨rfl, t4, rfl⟩ F4 N4
    walk_at "m_steps"
    rotate_left
    · have hl0 : ls.length = 0 := by omega
      have hqe : (bfsAt ds c).2 = [] := List.eq_nil_of_length_eq_zero (hll.symm.trans hl0)
      have hst := (bfs_stop hqe k).1
      rw [hck] at hst
      rw [← hst] at hEs
      have hsub : ∀ p ∈ tups ++ fix0, p ∈ (tups ++ fix0) ++ news := fun p hp => List.mem_append_left _ hp
      refine hret _ _ _ _ ⟨b, dh, hl, hs2, tt2, 1, n2, es, tups ++ fix0, rfl, rfl, hEs.mono fun _ _ h => h.sub hsub⟩ (by first | k_asm | assumption) (News.sub (by first | k_asm | assumption) ?_)
      intro p hp
      rcases List.mem_cons.mp hp with rfl | hp
      · exact mem_rest mb0
      rcases List.mem_cons.mp hp with rfl | hp
      · exact mem_rest mh0
      rcases List.mem_cons.mp hp with rfl | hp
      · exact mem_h1
      rcases List.mem_append.mp hp with hp | hp
      · exact .tail _ (.tail _ hp)
      · exact mem_rest (mn0 p hp)
    have hkp : 0 < k := by
      rcases Nat.eq_zero_or_pos k with rfl | h
      · exfalso
        have hcN : c = NN := by omega
        rw [hcN, hq] at hll
        have : ls.length = 0 := hll
        omega
      · exact h
    k_dflt (refine pop_spec (x := x) (vs := ls) mem_h0 (mem_rest md0) (fun o' => updX (hApt.app hAp) hxhl) (by omega) _ _ _ _ _ _ _ _ _ _ _ _ _ _ _ _ _ (by k_asm) (by k_asm) (by k_asm) (by k_asm) (by k_asm) (by first | exact rfl | assumption) (by walk_at "m_kR") ?_)
    rintro _ _ h5 tk5 ⟨D, np, rfl, rfl, lD⟩ F5 N5
    obtain ⟨fix2, hfix2⟩ : ∃ f, f = (D, listOf ls.toArray 0) :: (tups ++ fix0) := ⟨_, rfl⟩
    have hAp2 : Ap x hl fix2 := by rw [hfix2]; exact (hApt.app hAp).cons (Nat.ne_of_gt (lD _ mem_h0)) (Nat.ne_of_gt (lD _ mem_h1))
    have m02 : ∀ p ∈ fix0, p ∈ fix2 := by rw [hfix2]; exact fun p hp => .tail _ (List.mem_append_right _ hp)
    have mt2 : ∀ p ∈ tups ++ fix0, p ∈ fix2 := by rw [hfix2]; exact fun p hp => .tail _ hp
    have mD2 : (D, listOf ls.toArray 0) ∈ fix2 := by rw [hfix2]; exact .head _
    have N6 : News yg yL h5 ((x, accObj 296 dx [] np) :: (hl, listOf (es : List Value).toArray n2) :: ([] ++ fix2)) := News.sub N5 (by rw [hfix2]; walk_at "m_perm")
    have hEs2 : Are (IsPair ([] ++ fix2)) es (bookE base (bfsAt ds c).1) := hEs.mono fun _ _ h => h.sub mt2
    have hLs2 := hLs.mono (fun _ _ h => h.sub mt2 : ∀ r v, IsPiece base (tups ++ fix0) r v → IsPiece base fix2 r v)
    clear N5
    refine for_listM (vs := ls) (n := 0) (fun m₀ n₀ i m' nx => ∃ tups2 ls2 nl2 es2 n22, nx = (x, accObj 296 dx ls2 nl2) :: (hl, listOf (es2 : List Value).toArray n22) :: (tups2 ++ fix2) ∧ Ap x hl tups2 ∧ Are (IsPair (tups2 ++ fix2)) es2 (bookE base (((bfsAt ds c).2.take i).foldl (stepP (c + 1)) ((bfsAt ds c).1, [])).1) ∧ Are (IsPiece base (tups2 ++ fix2)) ls2 (((bfsAt ds c).2.take i).foldl (stepP (c + 1)) ((bfsAt ds c).1, [])).2 ∧ ∀ z, z ≠ Str.ofString "piece" → z ≠ Str.ofString "before" → z ≠ Str.ofString "word" → m' z = m₀ z) (by k_asm) N6 rfl ?hE2 ?hl2 ?h02 ?turn2 ?done2
    case hE2 => with_unfolding_all passes_own
    case hl2 =>
      rintro i m' nx ⟨tups2, ls2, nl2, es2, n22, rfl, _⟩
      exact mem_rest mD2
    case h02 => exact ⟨[], _, _, _, _, rfl, Ap.nil, hEs2, .nil, fun _ _ _ _ => rfl⟩
    case done2 =>
      rintro m₂ nx h tk ⟨tups2, ls2, nl2, es2, n22, rfl, hApt2, hEs3, hLs3, hm2⟩ F₃ N₃
      obtain ⟨mp2, mb9, mw2, rfl⟩ := expl3 hm2
      dsimp only
      rw [hll, List.take_length] at hEs3 hLs3
      have hEq : tups2 ++ fix2 = (tups2 ++ (D, listOf ls.toArray 0) :: tups) ++ fix0 := by rw [hfix2]; simp
      walk_at "m_steps"
      subst hP
      refine WEnd.intro (k - 1) _ (by omega) (by k_asm) (by k_asm) ?_ ⟨c + 1, tups2 ++ (D, listOf ls.toArray 0) :: tups, ls2, nl2, es2, n22, by omega, rfl, ?_, ?_, ?_, ⟨_, rfl⟩, fun z a b c d => by simp [a, b, c, d]⟩
      · rw [← hEq]; exact fun p hp => hp
      · exact hApt2.app (hApt.cons (Nat.ne_of_gt (lD _ mem_h0)) (Nat.ne_of_gt (lD _ mem_h1)))
      · rw [← hEq]; exact hEs3
      · rw [← hEq]; exact hLs3
    case turn2 =>
      rintro i v m₂ nx h tk it o hv ⟨tups2, ls2, nl2, es2, n22, rfl, hApt2, hEs3, hLs3, hm2⟩ F₃ N₃ hoff hio
      obtain ⟨mp2, mb9, mw2, rfl⟩ := expl3 hm2
      obtain ⟨row, hrow, T7, t7, t8, k7, rfl, hT7⟩ := hLs2.get hv
      refine turn_name F₃ N₃ rfl rfl ?_
      intro h'' tk'' F₄ N₄
      have mc4 := memOf N₄ (.tail _ (mem_rest (m02 _ mc0)))
      have mT4 := memOf N₄ (.tail _ (mem_rest hT7))
      generalize hP2 : ForPost _ _ _ _ _ _ _ = P2
      iterate 6 (first | (k_unfold; (try dsimp only)) | walk1)
      refine' comp_str (fun c : Nat => (c : Int) - base) ?hh ?hclos ?hcell ?hkind ?hnames ?hx ?_
      walk_at "m_compgo"
      walk_at "m_steps"
      have hVr : V row := hg.q row (List.mem_of_getElem? hrow)
      refine SSrc.ofN (by k_asm) (by k_asm) (by show (nameOf base row).length ≤ 1000; rw [nameOf_length, hVr.1]; decide) ?elt ?out
      case elt =>
        intro ch tv C mC E' s₃ hch hn3 hx3 hk3 F3 N3
        walk_at "m_steps"
        all_goals first | exact ⟨_, rfl⟩ | exact ⟨_, _, rfl, fun _ _ e => e⟩
      case out =>
        intro D2 h' tk ys k2 F' N' hne hy
        rw [ord_name hb hVr.2] at hy
        walk_at "m_steps"
        k_dflt (refine exch_spec (List.Mem.head _) hy hVr.1 hVr.2 hb _ _ _ _ _ _ _ _ _ _ _ _ _ _ _ _ _ (by k_asm) (by k_asm) (by k_asm) (by k_asm) (by k_asm) (by first | exact rfl | assumption) (by walk_at "m_kR") ?_)
        rintro _ _ h6 tk6 ⟨W, ws, nw', rfl, rfl, hWs, lW⟩ F6 N6
        rw [exchUpto_map] at hWs
        obtain ⟨fix3, hfix3⟩ : ∃ f, f = (W, listOf ws.toArray nw') :: (it, o) :: (tups2 ++ fix2) := ⟨_, rfl⟩
        have hoffx := hoff _ mem_h0
        have hoffh := hoff _ mem_h1
        have hAp3 : Ap x hl fix3 := by rw [hfix3]; exact ((hApt2.app hAp2).cons (Ne.symm hoffx) (Ne.symm hoffh)).cons (Nat.ne_of_gt (lW _ (.tail _ (.tail _ mem_h0)))) (Nat.ne_of_gt (lW _ (.tail _ (.tail _ mem_h1))))
        have m23 : ∀ p ∈ fix2, p ∈ fix3 := by rw [hfix3]; exact fun p hp => .tail _ (.tail _ (List.mem_append_right _ hp))
        have mt3 : ∀ p ∈ tups2 ++ fix2, p ∈ fix3 := by rw [hfix3]; exact fun p hp => .tail _ (.tail _ hp)
        have mW3 : (W, listOf ws.toArray nw') ∈ fix3 := by rw [hfix3]; exact .head _
        have N7 : News yg yL h6 ((x, accObj 296 dx ls2 nl2) :: (hl, listOf (es2 : List Value).toArray n22) :: ([] ++ fix3)) := News.sub N6 (by rw [hfix3]; walk_at "m_perm")
        generalize hst : ((bfsAt ds c).2.take i).foldl (stepP (c + 1)) ((bfsAt ds c).1, []) = st at hEs3 hLs3
        have hEs4 : Are (IsPair ([] ++ fix3)) es2 (bookE base st.1) := hEs3.mono fun _ _ h => h.sub mt3
        have hLs4 : Are (IsPiece base ([] ++ fix3)) ls2 st.2 := hLs3.mono fun _ _ h => h.sub mt3
        have hgst : Good st := by rw [← hst]; exact foldP_good ⟨hg.b, fun r hr => absurd hr List.not_mem_nil, Nat.zero_le _⟩ fun r hr => hg.q r (List.mem_of_mem_take hr)
        have hml : ∀ j, (((exR row).take j).foldl (stepW (c + 1)) st).1.length ≤ 100 := fun j => by
          rw [← hst]
          exact Nat.le_trans (mid_len hrow) (Nat.le_trans (bfs_len (start := ds) (c := c + 1) (N := NN) (by omega)) hz)
        clear N6
        refine for_listM (vs := ws) (n := nw') (fun m₀ n₀ j m' nx => ∃ tups3 ls3 nl3 es3 n23, nx = (x, accObj 296 dx ls3 nl3) :: (hl, listOf (es3 : List Value).toArray n23) :: (tups3 ++ fix3) ∧ Ap x hl tups3 ∧ (∀ p ∈ tups3, p.1 ≠ it) ∧ Are (IsPair (tups3 ++ fix3)) es3 (bookE base (((exR row).take j).foldl (stepW (c + 1)) st).1) ∧ Are (IsPiece base (tups3 ++ fix3)) ls3 (((exR row).take j).foldl (stepW (c + 1)) st).2 ∧ ∀ z, z ≠ Str.ofString "before" → z ≠ Str.ofString "word" → m' z = m₀ z) (by k_asm) N7 rfl ?hE3 ?hl3 ?h03 ?turn3 ?done3
        case hE3 => with_unfolding_all passes_own
        case hl3 =>
          rintro j m' nx ⟨tups3, ls3, nl3, es3, n23, rfl, _⟩
          exact mem_rest mW3
        case h03 => exact ⟨[], _, _, _, _, rfl, Ap.nil, fun p hp => absurd hp List.not_mem_nil, hEs4, hLs4, fun _ _ _ => rfl⟩
        case done3 =>
          rintro m₃ nx h tk ⟨tups3, ls3, nl3, es3, n23, rfl, hApt3, hit3, hEs5, hLs5, hm3⟩ F₅ N₅
          obtain ⟨mb7, mw7, rfl⟩ := expl2 hm3
          dsimp only
          rw [hWs.length, List.length_map, List.take_length] at hEs5 hLs5
          have hdr : ∀ p ∈ tups3 ++ fix3, p = (it, o) ∨ p ∈ (tups3 ++ (W, listOf ws.toArray nw') :: tups2) ++ fix2 := by
            intro p hp
            rcases List.mem_append.mp hp with hp | hp
            · exact .inr (List.mem_append_left _ (List.mem_append_left _ hp))
            rw [hfix3] at hp
            rcases List.mem_cons.mp hp with rfl | hp
            · exact .inr (List.mem_append_left _ (List.mem_append_right _ (.head _)))
            rcases List.mem_cons.mp hp with rfl | hp
            · exact .inl rfl
            rcases List.mem_append.mp hp with hp | hp
            · exact .inr (List.mem_append_left _ (List.mem_append_right _ (.tail _ hp)))
            · exact .inr (List.mem_append_right _ hp)
          have hup : ∀ p ∈ (tups3 ++ (W, listOf ws.toArray nw') :: tups2) ++ fix2, p ∈ tups3 ++ fix3 := by
            intro p hp
            rcases List.mem_append.mp hp with hp | hp
            · rcases List.mem_append.mp hp with hp | hp
              · exact List.mem_append_left _ hp
              rcases List.mem_cons.mp hp with rfl | hp
              · exact List.mem_append_right _ mW3
              · exact List.mem_append_right _ (mt3 p (List.mem_append_left _ hp))
            · exact List.mem_append_right _ (m23 p hp)
          walk_at "m_steps"
          subst hP2
          have hnx2 := fold_at (f := stepP (c + 1)) (a := ((bfsAt ds c).1, [])) hrow
          rw [hst] at hnx2
          refine ForEnd.intro ((x, accObj 296 dx ls3 nl3) :: (hl, listOf (es3 : List Value).toArray n23) :: ((tups3 ++ (W, listOf ws.toArray nw') :: tups2) ++ fix2)) (by first | k_asm | assumption) (by first | k_asm | assumption) ?_ ?_ ⟨_, _, _, _, _, rfl, hApt3.app (hApt2.cons (Nat.ne_of_gt (lW _ (.tail _ (.tail _ mem_h0)))) (Nat.ne_of_gt (lW _ (.tail _ (.tail _ mem_h1))))), ?_, ?_, fun z a b c => by simp [a, b, c]⟩
          · intro p hp
            rcases List.mem_cons.mp hp with rfl | hp
            · exact mem_rest (by rw [hfix3]; exact .tail _ (.head _))
            rcases List.mem_cons.mp hp with rfl | hp
            · exact .head _
            rcases List.mem_cons.mp hp with rfl | hp
            · exact mem_h1
            exact .tail _ (.tail _ (hup p hp))
          · intro p hp
            rcases List.mem_cons.mp hp with rfl | hp
            · exact hoffx
            rcases List.mem_cons.mp hp with rfl | hp
            · exact hoffh
            rcases List.mem_append.mp hp with hp | hp
            · rcases List.mem_append.mp hp with hp | hp
              · exact hit3 p hp
              rcases List.mem_cons.mp hp with rfl | hp
              · exact Nat.ne_of_gt (lW _ (.tail _ (.head _)))
              · exact hoff p (.tail _ (.tail _ (List.mem_append_left _ hp)))
            · exact hoff p (.tail _ (.tail _ (List.mem_append_right _ hp)))
          · rw [hnx2]; exact hEs5.mono fun _ _ h => h.drop hio.cls hdr
          · rw [hnx2]; exact hLs5.mono fun _ _ h => h.drop hio.cls hdr
        case turn3 =>
          rintro j v m₃ nx h tk it3 o3 hv ⟨tups3, ls3, nl3, es3, n23, rfl, hApt3, hit3, hEs5, hLs5, hm3⟩ F₅ N₅ hoff3 hio3
          obtain ⟨mb7, mw7, rfl⟩ := expl2 hm3
          obtain ⟨nm, hnm, tnm, rfl⟩ := hWs.get hv
          rw [List.getElem?_map, Option.map_eq_some_iff] at hnm
          obtain ⟨wd, hwd, rfl⟩ := hnm
          refine turn_name F₅ N₅ rfl rfl ?_
          intro h'' tk'' F₆ N₆
          have mb6 := memOf N₆ (.tail _ (mem_rest (m23 _ (m02 _ mb0))))
          have mh6 := memOf N₆ (.tail _ (mem_rest (m23 _ (m02 _ mh0))))
          have md6 := memOf N₆ (.tail _ (mem_rest (m23 _ (m02 _ md0))))
          have mc6 := memOf N₆ (.tail _ (mem_rest (m23 _ (m02 _ mc0))))
          have mx6 := memOf N₆ (.tail _ mem_h0)
          have mhl6 := memOf N₆ (.tail _ mem_h1)
          have hVw : V wd.1 := exR_ok hVr _ (List.mem_of_getElem? hwd)
          have hgj : Good (((exR row).take j).foldl (stepW (c + 1)) st) := foldW_good hgst fun q hq => exR_ok hVr q (List.mem_of_mem_take hq)
          have hnext := fold_at (f := stepW (c + 1)) (a := st) hwd
          have hml5 := hml j
          rw [hnext]
          generalize ((exR row).take j).foldl (stepW (c + 1)) st = sj at hEs5 hLs5 hgj hml5 ⊢
          have hitx := (hoff3 _ mem_h0).symm
          have hith := (hoff3 _ mem_h1).symm
          generalize hP3 : ForPost _ _ _ _ _ _ _ = P3
          walk_at "m_steps"
          have hsl := hEs5.length
          rw [bookE_length] at hsl
          k_dflt (refine hlen_spec (vs := es3) (.tail _ (mem_rest (m23 _ (m02 _ mb0)))) (.tail _ (mem_rest (m23 _ (m02 _ mh0)))) (.tail _ mem_h1) (by omega) _ _ _ _ _ _ _ _ _ _ _ _ _ _ _ _ _ (by k_asm) (by k_asm) (by k_asm) (by k_asm) (by k_asm) (by first | exact rfl | assumption) (by first | exact Room.step (k := 4) (by assumption) (by omega) (by decide) | exact Room.step (k := 5) (by assumption) (by omega) (by decide) | exact Room.step (k := 2) (by assumption) (by omega) (by decide)) ?_)
          rintro _ _ h4 tk4 ⟨rfl, t4, rfl⟩ F4 N4
          refine ⟨⟨by omega, by omega⟩, ?_⟩
          walk_at "m_steps"
          k_dflt (refine hsetd_spec (b := b) (x := nameW base wd.1 wd.2) (y := numW (c + 1)) (es := bookE base sj.1) (vs := es3) (.tail _ (mem_rest (m23 _ (m02 _ mb0)))) (.tail _ (mem_rest (m23 _ (m02 _ mh0)))) (.tail _ mem_h1) (fun o' => Upd.tail hith (updH (hApt3.app hAp3) hxhl)) (hEs5.mono fun _ _ h => h.sub fun p hp => .tail _ (.tail _ (.tail _ hp))) (ok_nameW hb hVw.2) (by rw [lower_nameW hb hVw.2]; exact ok_name hb hVw.2) (numW_ok (c + 1) (by omega)).1 (by rw [len_nameW hb hVw.2, hVw.1]; decide) (book_len hb hgj.b) (by omega) _ _ _ _ _ _ _ _ _ _ _ _ _ _ _ _ _ (by k_asm) (by k_asm) (by k_asm) (by k_asm) (by k_asm) (by first | exact rfl | assumption) (by walk_at "m_kR") ?_)
          intro r3 n3 h3 tk3 e3 F3 N3
          rw [book_any hb hgj.b hVw] at e3
          by_cases hany : (sj.1.any fun e => e.1 == wd.1) = true
          · rw [if_pos hany] at e3
            subst e3
            walk_at "m_steps"
            k_dflt (refine hlen_spec (vs := es3) (.tail _ (mem_rest (m23 _ (m02 _ mb0)))) (.tail _ (mem_rest (m23 _ (m02 _ mh0)))) (.tail _ mem_h1) (by omega) _ _ _ _ _ _ _ _ _ _ _ _ _ _ _ _ _ (by k_asm) (by k_asm) (by k_asm) (by k_asm) (by k_asm) (by first | exact rfl | assumption) (by first | exact Room.step (k := 4) (by assumption) (by omega) (by decide) | exact Room.step (k := 5) (by assumption) (by omega) (by decide) | exact Room.step (k := 2) (by assumption) (by omega) (by decide)) ?_)
            rintro _ _ h2 tk2 ⟨rfl, t2, rfl⟩ F2 N2
            refine ⟨⟨by omega, by omega⟩, ?_⟩
            walk_at "m_steps"
            subst hP3
            have hstay : stepW (c + 1) sj wd = sj := by unfold stepW; rw [if_pos hany]
            refine ForEnd.intro ((x, accObj 296 dx ls3 nl3) :: (hl, listOf (es3 : List Value).toArray n23) :: (tups3 ++ fix3)) (by first | k_asm | assumption) (by first | k_asm | assumption) (fun p hp => hp) hoff3 ⟨tups3, ls3, nl3, es3, n23, rfl, hApt3, hit3, by rw [hstay]; exact hEs5, by rw [hstay]; exact hLs5, fun z a b => by simp [a, b]⟩
          · rw [if_neg hany] at e3
            obtain ⟨T, rfl, lT⟩ := e3
            have mb3 := memOf N3 (.tail _ (.tail _ (mem_rest (m23 _ (m02 _ mb0)))))
            have mh3 := memOf N3 (.tail _ (.tail _ (mem_rest (m23 _ (m02 _ mh0)))))
            have md3 := memOf N3 (.tail _ (.tail _ (mem_rest (m23 _ (m02 _ md0)))))
            have mc3 := memOf N3 (.tail _ (.tail _ (mem_rest (m23 _ (m02 _ mc0)))))
            have mx3 := memOf N3 (.tail _ (.tail _ mem_h0))
            walk_at "m_steps"
            k_dflt (refine hlen_spec (vs := es3 ++ [Value.ref T]) (.tail _ (.tail _ (mem_rest (m23 _ (m02 _ mb0))))) (.tail _ (.tail _ (mem_rest (m23 _ (m02 _ mh0))))) (.tail _ (.tail _ mem_h1)) (by rw [List.length_append]; show es3.length + 1 ≤ 1000; omega) _ _ _ _ _ _ _ _ _ _ _ _ _ _ _ _ _ (by k_asm) (by k_asm) (by k_asm) (by k_asm) (by k_asm) (by first | exact rfl | assumption) (by first | exact Room.step (k := 4) (by assumption) (by omega) (by decide) | exact Room.step (k := 5) (by assumption) (by omega) (by decide) | exact Room.step (k := 2) (by assumption) (by omega) (by decide)) ?_)
            rintro _ _ h2 tk2 ⟨rfl, t2, rfl⟩ F2 N2
            have hel : ((es3 ++ [Value.ref T]).length : Int) = (es3.length : Int) + 1 := by rw [List.length_append]; rfl
            rw [hel]
            refine ⟨⟨by omega, by omega⟩, ?_⟩
            have lTx : T ≠ x := Nat.ne_of_gt (lT _ (.tail _ mem_h0))
            have lTh : T ≠ hl := Nat.ne_of_gt (lT _ (.tail _ mem_h1))
            have lTi : T ≠ it3 := Nat.ne_of_gt (lT _ mem_h0)
            have hll3 := hLs5.length
            have hgl3 := hgj.l
            walk_at "m_steps"
            · k_dflt (refine push_spec (x := x) (vs := ls3) (.tail _ (.tail _ mem_h0)) (.tail _ (.tail _ (mem_rest (m23 _ (m02 _ md0))))) (fun o' => Upd.tail lTx (Upd.tail hitx (updX (hApt3.app hAp3) hxhl))) (by omega) _ _ _ _ _ _ _ _ _ _ _ _ _ _ _ _ _ (by k_asm) (by k_asm) (by k_asm) (by k_asm) (by k_asm) (by first | exact rfl | assumption) (by walk_at "m_kR") ?_)
              rintro _ _ h1' tk1' ⟨rfl, T', rfl, lT'⟩ F1' N1'
              have lTx' : T' ≠ x := Nat.ne_of_gt (lT' _ (.tail _ (.tail _ mem_h0)))
              have lTh' : T' ≠ hl := Nat.ne_of_gt (lT' _ (.tail _ (.tail _ mem_h1)))
              have lTi' : T' ≠ it3 := Nat.ne_of_gt (lT' _ mem_h1)
              walk_at "m_steps"
              subst hP3
              have hstep : stepW (c + 1) sj wd = (sj.1 ++ [(wd.1, wd.2, c + 1)], sj.2 ++ [wd.1]) := by unfold stepW; rw [if_neg hany]
              have mit : (it, o) ∈ fix3 := by rw [hfix3]; exact .tail _ (.head _)
              have lTit : T ≠ it := Nat.ne_of_gt (lT _ (.tail _ (mem_rest mit)))
              have lTit' : T' ≠ it := Nat.ne_of_gt (lT' _ (.tail _ (.tail _ (mem_rest mit))))
              refine ForEnd.intro2 (by first | k_asm | assumption) N1' ?_ lTi' lTi ⟨_, _, _, _, _, rfl, (hApt3.cons lTx lTh).cons lTx' lTh', ?_, ?_, ?_, fun z a b => by simp [a, b]⟩
              · intro p hp
                rcases List.mem_cons.mp hp with rfl | hp
                · exact hitx.symm
                rcases List.mem_cons.mp hp with rfl | hp
                · exact hith.symm
                · exact hoff3 p (.tail _ (.tail _ hp))
              · intro p hp
                rcases List.mem_cons.mp hp with rfl | hp
                · exact lTit'
                rcases List.mem_cons.mp hp with rfl | hp
                · exact lTit
                · exact hit3 p hp
              · rw [hstep]
                show Are _ _ (bookE base (sj.1 ++ [(wd.1, wd.2, c + 1)]))
                unfold bookE
                rw [List.map_append]
                exact (hEs5.mono fun _ _ h => h.more.more).append (.cons ⟨T, _, _, _, rfl, .tail _ (.head _)⟩ .nil)
              · rw [hstep]
                exact (hLs5.mono fun _ _ h => h.more.more).append (.cons ⟨T', _, _, _, rfl, .head _⟩ .nil)
end
section
theorem words_W3 : True := by
  k_with_none
  k_with "m_enter" => (refine' code_def ?eak1 ?eak2 ?eak3 ?eak4 ?eak5 ?eakA ?eakF ?eakK ?eak6 ?eak7 ?eak8 ?eak9 ?eakB ?_ ?eac2 ?eac3 ?eac4 ?eac5; (case eakA => exact rfl); (case eakF => exact rfl); (case eakK => assumption); (case eak1 => k_asm); (case eak2 => k_asm); (case eak3 => k_asm); (case eak4 => k_asm); (case eak5 => k_asm); (case eak6 => k_is); (case eak7 => k_is); (case eak8 => first | exact Room.depth (by assumption) | walk_at "m_room"); (case eak9 => first | exact BindsTo.of_eq rfl | exact binds_K (by k_in) rfl (by k_is) rfl rfl rfl | (refine' kp_binds ?kx ?ke; (case kx => k_in); (case ke => exact fun _ => rfl))); (case eac5 => decide); (case eakB => exact locs rfl); (case eac2 => exact rfl); (case eac3 => exact rfl); (case eac4 => exact rfl); k_whole; intro vg vL vh vFG vF vN vB vX vT; (try dsimp only); (try k_fold))
  k_with "m_enterC" => (refine' code_defC ?ebk1 ?ebk2 ?ebk3 ?ebk4 ?ebk5 ?ebkA ?ebkF ?ebkK ?ebk6 ?ebk7 ?ebk8 ?ebk9 ?ebkB ?ebkD ?_ ?ebc2 ?ebc3 ?ebc4; (case ebkA => exact rfl); (case ebkF => exact rfl); (case ebkK => assumption); (case ebk1 => k_asm); (case ebk2 => k_asm); (case ebk3 => k_asm); (case ebk4 => k_asm); (case ebk5 => k_asm); (case ebk6 => k_is); (case ebk7 => k_is); (case ebk8 => first | exact Room.depth (by assumption) | walk_at "m_room"); (case ebk9 => first | exact BindsTo.of_eq rfl | exact binds_K (by k_in) rfl (by k_is) rfl rfl rfl | (refine' kp_binds ?kx ?ke; (case kx => k_in); (case ke => exact fun _ => rfl))); (case ebkB => exact rfl); (case ebkD => decide +kernel); (case ebc2 => exact rfl); (case ebc3 => exact rfl); (case ebc4 => exact rfl); k_whole; intro yg yL yh ytk ycells yFG yF yN yY yB yX yT yl1; (try k_lt yl1); k_cells yY; (try simp only [List.cons_append, List.nil_append] at yN); (try dsimp only); (try k_fold))
  k_with "m_compgo" => ((case hh => with_unfolding_all rfl); (case hclos => with_unfolding_all rfl); (case hcell => decide); (case hkind => with_unfolding_all rfl); (case hnames => decide); (case hx => with_unfolding_all rfl))
  k_with "m_sub" => (intro zp9 zh9; repeat (first | exact zh9 | refine List.Mem.tail _ ?_))
  k_with "call builtin:chr" => ((with_reducible show wpAny _ _ (call (Value.builtin "chr") [Value.int _ _]) _ _ _); refine chr_of_range (by omega) (by omega) ?_)
  k_with "call builtin:str.join" => ((with_reducible show wpAny _ _ (call (Value.builtin "str.join") [Value.str _ _, Value.ref _]) _ _ _); (refine' join_are (by k_asm) (by k_mem) (by assumption) (by walk_at "m_fit") ?_); (intro zt9 zk9); (try dsimp only))
  k_with "getMethod ref" => (k_here; (with_reducible show wpAny _ _ (getMethod (Value.ref _) (PySem.Str.ofString "search") _) _ _ _); k_dflt (refine' method_search (by k_asm) (by k_asm) (by k_is) ?_; k_whole))
  k_with "call builtin:re.Pattern.search" => (k_here; k_dflt (refine' search_KN (by k_asm) (by k_asm) (by k_is) (by rfl) (by rfl) (by k_is) (by first | exact Or.inl rfl | exact Or.inr rfl) (by assumption) ?_; k_whole))
  k_with "m_std" => ((case k1 => k_asm); (case k2 => k_asm); (case k3 => k_asm); (case k4 => k_asm); (case k5 => k_asm); (case kK => first | exact rfl | assumption); (case kR => first | exact Room.step (k := 3) (by assumption) (by decide) (by decide) | exact Room.step (k := 4) (by assumption) (by decide) (by decide) | exact Room.step (by assumption) (by omega) (by decide)))
  k_with "exec For" => (k_here; (with_reducible refine for_at ?_ (by intro _; with_unfolding_all rfl)))
  k_with "ForPost" => (dsimp only [ForPost])
  k_with "m_len" => first | omega | (simp only [List.length_append, List.length_cons, List.length_nil, List.length_take, List.length_drop]; omega)
  k_with "m_lt" => (intro zl9; (try k_lt zl9); (try k_sweep))
  k_with "call builtin:len" => (k_here; (with_reducible show wpAny _ _ (call (Value.builtin "len") [Value.ref _]) _ _ _); k_dflt (refine' len_N (by k_asm) (by k_mem) (by walk_at "m_len") ?_; k_whole))
  k_with "subscriptTail" => (k_here; (with_reducible show wpAny _ _ (subscriptTail _ _ (Value.ref _) (Value.ref _)) _ _ _); (with_unfolding_all first | (refine' slice_all_N (by k_asm) (by k_asm) (by k_mem) (by walk_at "m_len") ?_; k_whole; intro zD zh zF zN; walk_at "m_lt") | (refine' slice_from_N (by k_asm) (by k_asm) (by k_mem) (by walk_at "m_len") (by omega) ?_; k_whole; intro zD zh zF zN; walk_at "m_lt") | (refine' slice_upto_N (by k_asm) (by k_asm) (by k_mem) (by walk_at "m_len") (by omega) ?_; k_whole; intro zD zh zF zN; walk_at "m_lt")))
  k_with "m_room" => ((try simp only [depth_under_make, depth_under_kw, depth_in1, depth_deeper, depth_caller]); (try dsimp only [ktrTop]); (have zhR9 := Room.d (by assumption)); omega)
  k_with "k_units" => ((try simp only [units_under_make, units_in1, units_deeper, Around.mark_units, units_caller]); (try dsimp only [ktrTop]); (have zhR9 := Room.u (by assumption)); omega)
  k_with "k_all" => first | assumption | exact neA (by assumption) | exact neB (by assumption) | exact neB (And.right (by assumption)) | exact neB (And.right (And.right (by assumption))) | exact neB (And.right (And.right (And.right (by assumption)))) | exact neB (And.right (And.right (And.right (And.right (by assumption))))) | exact neB (And.right (And.right (And.right (And.right (And.right (by assumption))))))
  k_with "k_mem" => first | with_reducible assumption | (refine mem_ofL ?_; with_reducible assumption)
  k_with "exec For Name Call cons nil" => (k_here; (with_reducible refine for_at ?_ (by intro _; with_unfolding_all rfl)))
  k_with "call type:range" => (k_here; k_dflt (first | (refine' range_N 5 rfl (by k_asm) (by k_asm) ?_; k_whole) | (refine' range_N 6 rfl (by k_asm) (by k_asm) ?_; k_whole) | (refine' range_N 3 rfl (by k_asm) (by k_asm) ?_; k_whole)); intro zr zh ztk zt zu zv zF zN; walk_at "m_lt")
  k_with "subscriptTail" => (k_here; (with_reducible show wpAny _ _ (subscriptTail _ _ (Value.ref _) (Value.int _ _)) _ _ _); k_dflt (with_unfolding_all (refine' item_N (by k_asm) (by k_mem) (by omega) (by omega) (by assumption) ?_; k_whole)))
  k_with "binaryOp Add ref ref" => (k_here; k_dflt (refine' add_N (by k_asm) (by k_asm) (by k_mem) (by k_mem) (by walk_at "m_len") ?_; k_whole; intro zD zh zF zN; walk_at "m_lt"))
  k_with "binaryOp Mult str int" => (k_here; refine SB.mul (mulOk_of 16 1048576 (Nat.le_of_ble_eq_true rfl) (by omega) (by omega) (by decide) (by decide)) ?_; intro _ _; (try rw [mulTxt]))
  k_with "m_clean" => (try (with_reducible refine' wp_clean (by (dsimp only; exact rfl)) ?_))
  k_with "m_steps" => repeat' (first | (k_unfold; (try dsimp only)) | (k_end; wrow_close) | (walk1 <;> walk_at "m_clean") | (dsimp only; walk1 <;> walk_at "m_clean") | (leave1; try dsimp only) | fail "no step")
  k_with "m_kR" => first | exact Room.step (k := 3) (by assumption) (by decide) (by decide) | exact Room.step (k := 4) (by assumption) (by decide) (by decide) | exact Room.step (by assumption) (by omega) (by decide)
  k_with "call builtin:str.upper" => (k_here; (with_reducible show wpAny _ _ (call (Value.builtin "str.upper") [Value.str (nameOf _ _) _]) _ _ _); (refine SCL.upper (by rw [nameOf_length, row_len (by assumption) (by assumption)]; decide) ?_); intro _)
  k_with "call builtin:list.append" => (k_here; (with_reducible show wpAny _ _ (call (Value.builtin "list.append") [Value.ref _, _]) _ _ _); k_dflt (refine' append_N (by k_asm) (by k_asm) (by k_upd) (by walk_at "m_len") ?_; k_whole; intro zh zF zN; (try k_sweep)))
  k_with "binaryOp Mult int int" => (k_here; (with_reducible rename (∀ b, IntMulOk _ b) => zhM9); refine PyProof.Rows.mul_int ?_ (zhM9 _))
  k_with "binaryOp Mult ref int" => (k_here; (with_reducible show wpAny _ _ (binaryOp Operator.Mult (Value.ref _) (Value.int _ _)) _ _ _); k_dflt (refine' mul1_N (by k_asm) (by k_asm) (by k_mem) (by first | omega | (simp only [Int.fdiv_one]; omega)) (by first | omega | (simp only [Int.fdiv_one]; omega)) ?_; k_whole; intro zD zh zF zN; walk_at "m_lt"))
  k_with "k_all" => exact neL (by assumption) (by omega)
  k_with "m_yes" => refine ite_yes (by first | omega | (simp only [decide_eq_true_eq, beq_iff_eq]; omega)) ?_
  k_with "m_nay" => refine ite_nay (by first | omega | (simp only [decide_eq_true_eq, beq_iff_eq]; omega)) ?_
  k_with "call builtin:str.lower" => (k_here; (with_reducible show wpAny _ _ (call (Value.builtin "str.lower") [Value.str _ _]) _ _ _); (refine SCL.lower (by omega) ?_); intro _)
  k_with "call builtin:sorted" => (k_here; (with_reducible show wpAny _ _ (call (Value.builtin _) [Value.ref _]) _ _ _); k_dflt (refine sorted_L (by k_asm) (by k_asm) (List.Mem.head _) (by assumption) (by first | assumption | omega) ?_); intro zD9 zh9 zv9 zs9 ze9 zF9 zN9 zl9 zA9 zP9 zS9)
  k_with "k_all" => exact neB (And.right (And.right (And.right (And.right (And.right (And.right (by assumption)))))))
  trivial
variable {prog : Program} {w : World} {p : Program} {loose : List Str} {mean : ExcName → Option Value} {mg mb : Str → Option Value} {news : List (Addr × Obj)}
theorem all_spec {wd : World} {b dh hl sl : Addr} {worth base : Int} {t1 t2 : Tok} {hs : Int} {tt : Tok} {n1 n2 n3 : Nat} {vs svs : List Value} {start : List Int} {bk : BK} (hb : Okb base)
   (h2 : (b, instObj 171 dh) ∈ news) (h3 : (dh, dictOf [⟨hs, .str (Str.ofString "_headers") tt, .ref hl⟩] n1) ∈ news) (h4 : (hl, listOf vs.toArray n2) ∈ news) (he : Are (IsPair news) vs (bookE base bk))
   (h5 : (sl, listOf svs.toArray n3) ∈ news) (hS : Are IsInt svs start) (hV : V start) (hbk : ∀ e ∈ bk, V e.1) (hw : 0 ≤ worth ∧ worth ≤ 1000) (hz : bk.length < 64)
   (H1 : (bk.map (·.1)).Perm (wordsP 6 worth)) (H2 : ∀ e ∈ bk, apAt e.1 start 6 = (e.2.2 : Int)) (Hc : ∀ e ∈ bk, e.2.2 < 10) (H3 : sortedS (bk.map fun e => numW e.2.2) = true) :
   Con Mine.hpK prog wd p loose mean mg mb 15 341 news [.ref b, .ref sl, .int worth t1, .int base t2] [] (fun r nx => nx = news ∧ r = .bool true) := by
  have hel : (bookE base bk).length = bk.length := bookE_length
  have hvl := he.length
  have hnl : ∀ a ∈ (bookE base bk).map Prod.fst, a.length ≤ 10 ∧ ∃ r, V r ∧ Txt.lower a = nameOf base r := by
    intro a ha
    obtain ⟨e, hem, rfl⟩ := List.mem_map.mp ha
    obtain ⟨x, hx, rfl⟩ := List.mem_map.mp hem
    exact ⟨by show (nameW base x.1 x.2.1).length ≤ 10; rw [len_nameW hb (hbk x hx).2, (hbk x hx).1]; decide, x.1, hbk x hx, lower_nameW hb (hbk x hx).2⟩
  intro dp un gd cn cs a ccd cl outer A₀ bs h₀ L m s Q E B F X N T hk hR hret
  refine wpAny_call ?_
  k_dflt (walk_at "m_enterC")
  rename_i o1 d1
  have mb1 := memOf yN (.tail _ h2)
  have mh1 := memOf yN (.tail _ h3)
  have mc1 := memOf yN (.head _)
  iterate 7 (first | (k_unfold; (try dsimp only)) | walk1)
  refine' comp_list IsStr IsStr Txt.lower isStr_inj ?hh ?hclos ?hcell ?hkind ?hnames ?hx ?_
  walk_at "m_compgo"
  walk_at "m_steps"
  k_dflt (refine hkeys_spec (.tail _ h2) (.tail _ h3) (.tail _ h4) (he.mono fun _ _ h => h.sub fun p hp => .tail _ hp) (by omega) _ _ _ _ _ _ _ _ _ _ _ _ _ _ _ _ _ (by k_asm) (by k_asm) (by k_asm) (by k_asm) (by k_asm) (by first | exact rfl | assumption) (by walk_at "m_kR") ?_)
  rintro _ _ h8 tk8 ⟨D1, ys1, k1, rfl, rfl, hY1, hD1⟩ F8 N8
  refine' MSrc.ofN (by k_asm) (by k_asm) (List.Mem.head _) hY1 ?hsz ?elt ?out
  case hsz => rw [List.length_map, sizeLine_eq]; omega
  case elt =>
    intro a v C mC E' s₃ hmem hv hn hx hk
    obtain ⟨tv, rfl⟩ := hv
    have hal := (hnl a hmem).1
    walk_at "m_steps"
    all_goals first | exact ⟨_, rfl⟩ | exact ⟨_, _, rfl, fun _ _ e => e⟩
  case out =>
    intro D2 h' tk ys2 k2 F' N' hne2 hY2
    have hl2 : ((bookE base bk).map Prod.fst).map Txt.lower = (bk.map (·.1)).map (nameOf base) := by
      unfold bookE
      rw [List.map_map, List.map_map, List.map_map]
      apply List.map_congr_left
      intro e he
      exact lower_nameW hb (hbk e he).2
    rw [hl2] at hY2
    have hzz : ((bk.map (·.1)).map (nameOf base)).length < 64 := by rw [List.length_map, List.length_map]; exact hz
    walk_at "m_steps"
    rename Are IsStr _ _ => hA3
    rename List.Perm _ _ => hP3
    rename sortedS _ = true => hS3
    k_dflt (refine words_spec hb 6 _ worth _ _ _ (Nat.le_refl _) hw _ _ _ _ _ _ _ _ _ _ _ _ _ _ _ _ _ (by k_asm) (by k_asm) (by k_asm) (by k_asm) (by k_asm) (by first | exact rfl | assumption) (by walk_at "m_kR") ?_)
    rintro _ _ h6 tk6 ⟨W, ws, k6, rfl, rfl, hW6, lW⟩ F6 N6
    have hzw : ((wordsP 6 worth).map (nameOf base)).length < 64 := by rw [List.length_map, ← H1.length_eq, List.length_map]; exact hz
    have mc6 := memOf N6 (.tail _ (.tail _ (.tail _ (.tail _ (.head _)))))
    iterate 1 (first | (k_unfold; (try dsimp only)) | walk1)
    k_dflt (refine sorted_L (by k_asm) (by k_asm) (List.Mem.head _) hW6 hzw ?_)
    intro D5 h5' vs5 ss5 e5 F5 N5 lD5 hA5 hP5 hS5
    dsimp only
    have hE := sorted_uniq hS3 hS5 (hP3.trans ((H1.map _).trans hP5.symm))
    have hok5 : ∀ x ∈ ss5, PyData.strOk x = true := fun x hx => by
      obtain ⟨r, hr, rfl⟩ := List.mem_map.mp ((hP5.trans (H1.map (nameOf base)).symm).mem_iff.mp hx)
      obtain ⟨e, hem, rfl⟩ := List.mem_map.mp hr
      exact ok_str (ok_name hb (hbk e hem).2)
    rw [hE] at hA3
    k_dflt (refine ne_strs N5 (.tail _ (.tail _ (.head _))) (.head _) hA3 hA5 hok5 hok5 (by k_units) ?_)
    simp only [eq_self, decide_true, Bool.not_true]
    have mb5 := memOf N5 (.tail _ (.tail _ (.tail _ (.tail _ (.tail _ (.tail _ h2))))))
    have mh5 := memOf N5 (.tail _ (.tail _ (.tail _ (.tail _ (.tail _ (.tail _ h3))))))
    have mc5 := memOf N5 (.tail _ (.tail _ (.tail _ (.tail _ (.tail _ (.head _))))))
    walk_at "m_steps"
    rename (D5 < _ ∧ _) => lNm
    k_dflt (refine hitems_spec (vs := vs) (.tail _ (.tail _ (.tail _ (.tail _ (.tail _ (.tail _ (.tail _ h2))))))) (.tail _ (.tail _ (.tail _ (.tail _ (.tail _ (.tail _ (.tail _ h3))))))) (.tail _ (.tail _ (.tail _ (.tail _ (.tail _ (.tail _ (.tail _ h4))))))) (by omega) _ _ _ _ _ _ _ _ _ _ _ _ _ _ _ _ _ (by k_asm) (by k_asm) (by k_asm) (by k_asm) (by k_asm) (by first | exact rfl | assumption) (by walk_at "m_kR") ?_)
    rintro _ _ h4' tk4 ⟨DI, rfl, rfl, lDI⟩ F4 N4
    have N3 := keepThree N4
    have hDN := Nat.ne_of_gt (lDI _ mem_h0)
    refine for_listM (vs := vs) (n := 0) (fun m₀ n₀ i m' nx => ∃ Nm k0 R ns k', n₀ = (Nm, listOf ([] : List Value).toArray k0) :: (DI, listOf vs.toArray 0) :: R ∧ nx = (Nm, listOf (ns : List Value).toArray k') :: (DI, listOf vs.toArray 0) :: R ∧ (∀ p ∈ (DI, listOf vs.toArray 0) :: R, p.1 ≠ Nm) ∧ Are IsStr ns ((bk.take i).map fun e => numW e.2.2) ∧ m₀ (Str.ofString "numerals") = some (.ref Nm) ∧ ∀ z, z ≠ Str.ofString "name" → z ≠ Str.ofString "numeral" → z ≠ Str.ofString "row" → m' z = m₀ z) (by k_asm) N3 rfl ?hE ?hl ?h0 ?turn ?done
    case hE => with_unfolding_all passes_own
    case hl =>
      rintro i m' nx ⟨Nm, k0, R, ns, k', _, rfl, _⟩
      exact .tail _ (.head _)
    case h0 =>
      refine ⟨_, _, _, [], _, rfl, rfl, ?_, .nil, rfl, fun _ _ _ _ => rfl⟩
      exact List.forall_mem_cons.mpr ⟨hDN, List.forall_mem_cons.mpr ⟨Nat.ne_of_lt lNm.2.2.2.2.2.1, neB lNm.2.2.2.2.2.2⟩⟩
    case turn =>
      rintro i v m₁ nx h tk it o hv ⟨Nm, k0, R, ns, k', hn0, rfl, hNR, hns, hmN, hm⟩ F₁ N₁ hoff hio
      cases hn0
      obtain ⟨mn, mu, mr, rfl⟩ := expl3 hm
      obtain ⟨ee, hee, T7, t7, t8, k7, rfl, hT7⟩ := he.get hv
      unfold bookE at hee
      rw [List.getElem?_map, Option.map_eq_some_iff] at hee
      obtain ⟨e, hei, rfl⟩ := hee
      have hem := List.mem_of_getElem? hei
      have hVe := hbk e hem
      refine turn_pair rfl F₁ N₁ hio (.tail _ (.tail _ (.tail _ hT7))) rfl rfl rfl ?_
      intro h'' tk'' F₂ N₂
      have hlow := lower_nameW (up := e.2.1) hb hVe.2
      have hlen9 := len_nameW (up := e.2.1) hb hVe.2
      rw [hVe.1] at hlen9
      have mc2 := memOf N₂ (.tail _ (.tail _ (.tail _ (.head _))))
      generalize hP : ForPost _ _ _ _ _ _ _ = P
      iterate 1 (first | (k_unfold; (try dsimp only)) | walk1)
      k_dflt (refine' comp_strA (fun c : Nat => (c : Int) - base) ?hsw ?hh ?hclos ?hcell ?hkind ?hnames ?hx ?hy ?hp ?_)
      walk_at "m_compgo"
      case hsw => with_unfolding_all rfl
      case hy => with_unfolding_all rfl
      case hp => with_unfolding_all rfl
      walk_at "m_steps"
      rw [hlow]
      refine ⟨_, _, _, _, _, rfl, (by show (nameOf base e.1).length ≤ 1000; rw [nameOf_length, hVe.1]; decide), F₂, N₂, ?elt2, ?out2⟩
      case elt2 =>
        intro ch tv C mC E' s₃ hch hn3 hx3 hk3 F3 N3
        have mc3 := memOf N3 (.tail _ (.tail _ (.tail _ (.head _))))
        walk_at "m_steps"
        all_goals first | exact ⟨_, rfl⟩ | exact ⟨_, _, rfl, fun _ _ e => e⟩
      case out2 =>
        intro D2 h' tk ys k2 F' N' hne hy
        rw [ord_name hb hVe.2] at hy
        walk_at "m_steps"
        k_dflt (refine apart_spec (List.Mem.head _) (.tail _ (.tail _ (.tail _ (.tail _ (.tail _ h5))))) hy hS hVe.1 hV.1 hVe.2 hV.2 _ _ _ _ _ _ _ _ _ _ _ _ _ _ _ _ _ (by k_asm) (by k_asm) (by k_asm) (by k_asm) (by k_asm) (by first | exact rfl | assumption) (by walk_at "m_kR") ?_)
        rintro _ _ h6 tk6 ⟨rfl, t6, rfl⟩ F6 N6
        rw [H2 e hem]
        have hc9 := Hc e hem
        walk_at "m_steps"
        · exact absurd (by assumption) (by show ¬ (numW e.2.2 != numW e.2.2) = true; simp)
        · have hD2N : D2 ≠ _ := Ne.symm (hne _ (.tail _ mem_h0))
          have hitN := (hoff _ mem_h0).symm
          have hnsl := hns.length
          rw [List.length_map] at hnsl
          have htl : (bk.take i).length ≤ bk.length := by rw [List.length_take]; exact Nat.min_le_right _ _
          dsimp only at hD2N hitN
          walk_at "m_steps"
          subst hP
          refine ForEnd.intro _ (by k_asm) (by k_asm) (by walk_at "m_sub") ?_ ⟨_, _, _, _, _, rfl, rfl, hNR, ?_, hmN, fun z a b c => by simp [a, b, c]⟩
          · intro p hp
            rcases List.mem_cons.mp hp with rfl | hp
            · exact hitN.symm
            · exact hoff p (.tail _ hp)
          · rw [List.take_add_one, hei, List.map_append]
            exact hns.append (.cons ⟨_, rfl⟩ .nil)
    case done =>
      rintro m₁ nx h tk ⟨Nm, k0, R, ns, k', hn0, rfl, hNR, hns, hmN, hm⟩ F₁ N₁
      cases hn0
      obtain ⟨mn, mu, mr, rfl⟩ := expl3 hm
      dsimp only
      rw [hvl, hel, List.take_length] at hns
      have hzn : (bk.map fun e => numW e.2.2).length < 64 := by rw [List.length_map]; exact hz
      have mb9 := memOf N₁ (.tail _ (.tail _ (.tail _ h2)))
      have mh9 := memOf N₁ (.tail _ (.tail _ (.tail _ h3)))
      iterate 12 (first | (k_unfold; (try dsimp only)) | walk1)
      rename Are IsStr _ _ => hA9
      rename List.Perm _ _ => hP9
      rename sortedS _ = true => hS9
      have hE9 := sorted_uniq H3 hS9 hP9.symm
      have hok9 : ∀ x ∈ bk.map (fun e => numW e.2.2), PyData.strOk x = true := fun x hx => by
        obtain ⟨e, hem, rfl⟩ := List.mem_map.mp hx
        exact ok_str (numW_ok _ (Hc e hem)).1
      rw [← hE9] at hA9
      k_dflt (refine eq_strs (by k_asm) (.tail _ (.head _)) (.head _) hns hA9 hok9 hok9 (by k_units) ?_)
      simp only [eq_self, decide_true]
      rename News _ _ _ (_ :: _ :: (DI, _) :: _) => N9
      have mb8 := memOf N9 (.tail _ (.tail _ (.tail _ (.tail _ h2))))
      have mh8 := memOf N9 (.tail _ (.tail _ (.tail _ (.tail _ h3))))
      walk_at "m_steps"
      k_dflt (refine hvalues_spec (.tail _ (.tail _ (.tail _ (.tail _ h2)))) (.tail _ (.tail _ (.tail _ (.tail _ h3)))) (.tail _ (.tail _ (.tail _ (.tail _ h4)))) (he.mono fun _ _ h => h.sub fun p hp => .tail _ (.tail _ (.tail _ (.tail _ hp)))) (by omega) _ _ _ _ _ _ _ _ _ _ _ _ _ _ _ _ _ (by k_asm) (by k_asm) (by k_asm) N9 (by k_asm) (by first | exact rfl | assumption) (by walk_at "m_kR") ?_)
      rintro _ _ h8 tk8 ⟨DV, ysv, kv, rfl, rfl, hYv, hDv⟩ F8 N8
      have hsv : (bookE base bk).map Prod.snd = bk.map fun e => numW e.2.2 := by unfold bookE; rw [List.map_map]; rfl
      rw [hsv] at hYv
      iterate 1 (first | (k_unfold; (try dsimp only)) | walk1)
      k_dflt (refine eq_strs N8 (.head _) (.tail _ (.tail _ (.head _))) hYv hns hok9 hok9 (by k_units) ?_)
      simp only [eq_self, decide_true]
      walk_at "m_steps"
      refine hret _ _ _ _ ⟨rfl, rfl⟩ (by first | k_asm | assumption) (News.sub (by first | k_asm | assumption) (by walk_at "m_sub"))
end
noncomputable def rowOf (x : Int) : List Int := dgs 1 x ++ List.replicate (6 - ((dgs 1 x).length : Int)).toNat 0
noncomputable def startOf (ds : List Int) (sh : Int) : List Int := if sh = 0 then ds else dgs 1 (d2i 1 ds + sh) ++ List.replicate (6 - ((dgs 1 (d2i 1 ds + sh)).length : Int)).toNat 0
noncomputable def worthOf (ds : List Int) (sh : Int) : Int := sh + ((List.range 6).map fun k => ds.getD k 0 * 2 ^ k).sum
noncomputable def bkOf (ds : List Int) (sh : Int) : BK := (bfsAt (startOf ds sh) 6).1
noncomputable def okAt (st : List Int) (x w : Int) : Bool :=
  decide (0 ≤ x ∧ x ≤ 1000) && decide (st.length = 6) && st.all (fun d => decide (0 ≤ d ∧ d ≤ 2)) && (bfsAt st 6).2.isEmpty &&
  decide ((bfsAt st 6).1.length ≤ 50 ∧ 0 < (bfsAt st 6).1.length) && decide (0 ≤ w ∧ w ≤ 1000) && ((bfsAt st 6).1.map (·.1)).isPerm (wordsP 6 w) &&
  (bfsAt st 6).1.all (fun e => decide (apAt e.1 st 6 = (e.2.2 : Int)) && decide (e.2.2 < 10)) && sortedS ((bfsAt st 6).1.map fun e => numW e.2.2)
noncomputable def okRow (ds : List Int) : Bool := okAt ds (d2i 1 ds) (d2i 1 ds) && decide (worthOf ds 0 = d2i 1 ds) && decide (1 ≤ d2i 1 ds ∧ d2i 1 ds ≤ 62)
noncomputable def okNum (x : Int) : Bool := okAt (rowOf x) x x
noncomputable def cnt (x : Int) : Int := ((wordsP 6 x).length : Int)
noncomputable def okStern (x : Int) : Bool :=
  decide (cnt (x + 1) = cnt (x - 1) + cnt x - 2 * (dvPair (cnt (x - 1)) (cnt x)).2) && decide (cnt (x + 1) = (2 * (dvPair (cnt (x - 1)) (cnt x)).1 + 1) * cnt x - cnt (x - 1))
theorem okRow_10 : ∀ c ∈ ([0, 1, 2] : List Int), ∀ d ∈ ([0, 1, 2] : List Int), ∀ e ∈ ([0, 1, 2] : List Int), okRow [1, 0, c, d, e, 0] = true := by
  decide +kernel
theorem okRow_11 : ∀ c ∈ ([0, 1, 2] : List Int), ∀ d ∈ ([0, 1, 2] : List Int), ∀ e ∈ ([0, 1, 2] : List Int), okRow [1, 1, c, d, e, 0] = true := by
  decide +kernel
theorem okRow_12 : ∀ c ∈ ([0, 1, 2] : List Int), ∀ d ∈ ([0, 1, 2] : List Int), ∀ e ∈ ([0, 1, 2] : List Int), okRow [1, 2, c, d, e, 0] = true := by
  decide +kernel
theorem okRow_20 : ∀ c ∈ ([0, 1, 2] : List Int), ∀ d ∈ ([0, 1, 2] : List Int), ∀ e ∈ ([0, 1, 2] : List Int), okRow [2, 0, c, d, e, 0] = true := by
  decide +kernel
theorem okRow_21 : ∀ c ∈ ([0, 1, 2] : List Int), ∀ d ∈ ([0, 1, 2] : List Int), ∀ e ∈ ([0, 1, 2] : List Int), okRow [2, 1, c, d, e, 0] = true := by
  decide +kernel
theorem okRow_22 : ∀ c ∈ ([0, 1, 2] : List Int), ∀ d ∈ ([0, 1, 2] : List Int), ∀ e ∈ ([0, 1, 2] : List Int), okRow [2, 2, c, d, e, 0] = true := by
  decide +kernel
theorem okRow_all {a b c d e : Int} (ha : 1 ≤ a ∧ a ≤ 2) (hb : 0 ≤ b ∧ b ≤ 2) (hc : c ∈ ([0, 1, 2] : List Int)) (hd : d ∈ ([0, 1, 2] : List Int)) (he : e ∈ ([0, 1, 2] : List Int)) : okRow [a, b, c, d, e, 0] = true := by
  have h1 : a = 1 ∨ a = 2 := by omega
  have h2 : b = 0 ∨ b = 1 ∨ b = 2 := by omega
  rcases h1 with rfl | rfl <;> rcases h2 with rfl | rfl | rfl
  · exact okRow_10 c hc d hd e he
  · exact okRow_11 c hc d hd e he
  · exact okRow_12 c hc d hd e he
  · exact okRow_20 c hc d hd e he
  · exact okRow_21 c hc d hd e he
  · exact okRow_22 c hc d hd e he
theorem okNum_0 : ∀ k ∈ List.range 8, okNum ((k + 0 : Nat) : Int) = true := by
  decide +kernel
theorem okNum_1 : ∀ k ∈ List.range 8, okNum ((k + 8 : Nat) : Int) = true := by
  decide +kernel
theorem okNum_2 : ∀ k ∈ List.range 8, okNum ((k + 16 : Nat) : Int) = true := by
  decide +kernel
theorem okNum_3 : ∀ k ∈ List.range 8, okNum ((k + 24 : Nat) : Int) = true := by
  decide +kernel
theorem okNum_4 : ∀ k ∈ List.range 8, okNum ((k + 32 : Nat) : Int) = true := by
  decide +kernel
theorem okNum_5 : ∀ k ∈ List.range 8, okNum ((k + 40 : Nat) : Int) = true := by
  decide +kernel
theorem okNum_6 : ∀ k ∈ List.range 8, okNum ((k + 48 : Nat) : Int) = true := by
  decide +kernel
theorem okNum_7 : ∀ k ∈ List.range 8, okNum ((k + 56 : Nat) : Int) = true := by
  decide +kernel
theorem okNum_all {x : Int} (h : 0 ≤ x ∧ x ≤ 63) : okNum x = true := by
  obtain ⟨n, rfl⟩ : ∃ n : Nat, x = (n : Int) := ⟨x.toNat, by omega⟩
  have h1 : n / 8 < 8 := by omega
  have h2 : n % 8 ∈ List.range 8 := List.mem_range.mpr (Nat.mod_lt _ (by decide))
  have h3 : n = n % 8 + 8 * (n / 8) := by omega
  have h4 : n / 8 = 0 ∨ n / 8 = 1 ∨ n / 8 = 2 ∨ n / 8 = 3 ∨ n / 8 = 4 ∨ n / 8 = 5 ∨ n / 8 = 6 ∨ n / 8 = 7 := by omega
  rw [h3]
  rcases h4 with e | e | e | e | e | e | e | e <;> rw [e]
  · exact okNum_0 _ h2
  · exact okNum_1 _ h2
  · exact okNum_2 _ h2
  · exact okNum_3 _ h2
  · exact okNum_4 _ h2
  · exact okNum_5 _ h2
  · exact okNum_6 _ h2
  · exact okNum_7 _ h2
theorem okStern_nat : ∀ k ∈ List.range 62, okStern ((k + 1 : Nat) : Int) = true := by
  decide +kernel
theorem okStern_all {x : Int} (h : 1 ≤ x ∧ x ≤ 62) : okStern x = true := by
  obtain ⟨n, rfl⟩ : ∃ n : Nat, x = ((n + 1 : Nat) : Int) := ⟨(x - 1).toNat, by omega⟩
  exact okStern_nat n (List.mem_range.mpr (by omega))
structure One (ds : List Int) (sh : Int) : Prop where
  x : 0 ≤ d2i 1 ds + sh ∧ d2i 1 ds + sh ≤ 1000
  v : V (startOf ds sh)
  q : (bfsAt (startOf ds sh) 6).2 = []
  z : (bkOf ds sh).length ≤ 50 ∧ 0 < (bkOf ds sh).length
  w : 0 ≤ worthOf ds sh ∧ worthOf ds sh ≤ 1000
  p : ((bkOf ds sh).map (·.1)).Perm (wordsP 6 (worthOf ds sh))
  a : ∀ e ∈ bkOf ds sh, apAt e.1 (startOf ds sh) 6 = (e.2.2 : Int)
  c : ∀ e ∈ bkOf ds sh, e.2.2 < 10
  s : sortedS ((bkOf ds sh).map fun e => numW e.2.2) = true
theorem okAt_one {ds : List Int} {sh : Int} (h : okAt (startOf ds sh) (d2i 1 ds + sh) (worthOf ds sh) = true) : One ds sh := by
  unfold okAt at h
  simp only [Bool.and_eq_true, decide_eq_true_eq, List.all_eq_true] at h
  obtain ⟨⟨⟨⟨⟨⟨⟨⟨h1, h2⟩, h3⟩, h4⟩, h5⟩, h6⟩, h7⟩, h8⟩, h9⟩ := h
  exact ⟨h1, ⟨h2, h3⟩, List.isEmpty_iff.mp h4, h5, h6, List.isPerm_iff.mp h7, fun e he => (h8 e he).1, fun e he => (h8 e he).2, h9⟩
theorem One.cnt {ds : List Int} {sh x : Int} (h : One ds sh) (e : worthOf ds sh = x) : ((bkOf ds sh).length : Int) = cnt x := by
  have h2 := h.p.length_eq
  rw [List.length_map, e] at h2
  rw [h2]; rfl
theorem in2 {a : Int} (h : 1 ≤ a ∧ a ≤ 2) : a ∈ ([1, 2] : List Int) := by
  have : a = 1 ∨ a = 2 := by omega
  rcases this with rfl | rfl <;> simp
theorem in3 {a : Int} (h : 0 ≤ a ∧ a ≤ 2) : a ∈ ([0, 1, 2] : List Int) := by
  have : a = 0 ∨ a = 1 ∨ a = 2 := by omega
  rcases this with rfl | rfl | rfl <;> simp
theorem pure_law {ds : List Int} (h : DigRow ds) : One ds (-1) ∧ One ds 0 ∧ One ds 1 ∧
    ((bkOf ds 1).length : Int) = ((bkOf ds (-1)).length : Int) + ((bkOf ds 0).length : Int) - 2 * (dvPair (bkOf ds (-1)).length (bkOf ds 0).length).2 ∧
    ((bkOf ds 1).length : Int) = (2 * (dvPair (bkOf ds (-1)).length (bkOf ds 0).length).1 + 1) * ((bkOf ds 0).length : Int) - ((bkOf ds (-1)).length : Int) := by
  have h : okRow ds = true := by
    obtain ⟨a, b, c, d, e, ha, hb, hc, hd, he, rfl⟩ := h
    exact okRow_all ha hb (in3 hc) (in3 hd) (in3 he)
  unfold okRow at h
  simp only [Bool.and_eq_true, decide_eq_true_eq] at h
  obtain ⟨⟨h1, h2⟩, h3⟩ := h
  have hw : ∀ sh, worthOf ds sh = d2i 1 ds + sh := by
    intro sh
    have h4 : worthOf ds sh = worthOf ds 0 + sh := by unfold worthOf; omega
    rw [h4, h2]
  have O0 : One ds 0 := okAt_one (by rw [show startOf ds 0 = ds from if_pos rfl, hw, Int.add_zero]; exact h1)
  have ON : ∀ sh : Int, sh ≠ 0 → -1 ≤ sh → sh ≤ 1 → One ds sh := by
    intro sh h0 hl hu
    refine okAt_one ?_
    rw [hw, show startOf ds sh = rowOf (d2i 1 ds + sh) from if_neg h0]
    exact okNum_all ⟨by omega, by omega⟩
  have OA := ON (-1) (by decide) (by decide) (by decide)
  have OB := ON 1 (by decide) (by decide) (by decide)
  have hs := okStern_all h3
  unfold okStern at hs
  simp only [Bool.and_eq_true, decide_eq_true_eq] at hs
  rw [O0.cnt (x := d2i 1 ds) (by rw [hw, Int.add_zero]), OA.cnt (x := d2i 1 ds - 1) (by rw [hw]; rfl), OB.cnt (hw 1)]
  exact ⟨OA, O0, OB, hs.1, hs.2⟩
section
theorem words_Z1 : True := by
  k_with_none
  k_with "m_enter" => (refine' code_def ?eak1 ?eak2 ?eak3 ?eak4 ?eak5 ?eakA ?eakF ?eakK ?eak6 ?eak7 ?eak8 ?eak9 ?eakB ?_ ?eac2 ?eac3 ?eac4 ?eac5; (case eakA => exact rfl); (case eakF => exact rfl); (case eakK => assumption); (case eak1 => k_asm); (case eak2 => k_asm); (case eak3 => k_asm); (case eak4 => k_asm); (case eak5 => k_asm); (case eak6 => k_is); (case eak7 => k_is); (case eak8 => first | exact Room.depth (by assumption) | walk_at "m_room"); (case eak9 => first | exact BindsTo.of_eq rfl | exact binds_K (by k_in) rfl (by k_is) rfl rfl rfl | (refine' kp_binds ?kx ?ke; (case kx => k_in); (case ke => exact fun _ => rfl))); (case eac5 => decide); (case eakB => exact locs rfl); (case eac2 => exact rfl); (case eac3 => exact rfl); (case eac4 => exact rfl); k_whole; intro vg vL vh vFG vF vN vB vX vT; (try dsimp only); (try k_fold))
  k_with "m_enterC" => (refine' code_defC ?ebk1 ?ebk2 ?ebk3 ?ebk4 ?ebk5 ?ebkA ?ebkF ?ebkK ?ebk6 ?ebk7 ?ebk8 ?ebk9 ?ebkB ?ebkD ?_ ?ebc2 ?ebc3 ?ebc4; (case ebkA => exact rfl); (case ebkF => exact rfl); (case ebkK => assumption); (case ebk1 => k_asm); (case ebk2 => k_asm); (case ebk3 => k_asm); (case ebk4 => k_asm); (case ebk5 => k_asm); (case ebk6 => k_is); (case ebk7 => k_is); (case ebk8 => first | exact Room.depth (by assumption) | walk_at "m_room"); (case ebk9 => first | exact BindsTo.of_eq rfl | exact binds_K (by k_in) rfl (by k_is) rfl rfl rfl | (refine' kp_binds ?kx ?ke; (case kx => k_in); (case ke => exact fun _ => rfl))); (case ebkB => exact rfl); (case ebkD => decide +kernel); (case ebc2 => exact rfl); (case ebc3 => exact rfl); (case ebc4 => exact rfl); k_whole; intro yg yL yh ytk ycells yFG yF yN yY yB yX yT yl1; (try k_lt yl1); k_cells yY; (try simp only [List.cons_append, List.nil_append] at yN); (try dsimp only); (try k_fold))
  k_with "m_compgo" => ((case hh => with_unfolding_all rfl); (case hclos => with_unfolding_all rfl); (case hcell => decide); (case hkind => with_unfolding_all rfl); (case hnames => decide); (case hx => with_unfolding_all rfl))
  k_with "m_sub" => (intro zp9 zh9; repeat (first | exact zh9 | refine List.Mem.tail _ ?_))
  k_with "call builtin:chr" => ((with_reducible show wpAny _ _ (call (Value.builtin "chr") [Value.int _ _]) _ _ _); refine chr_of_range (by omega) (by omega) ?_)
  k_with "call builtin:str.join" => ((with_reducible show wpAny _ _ (call (Value.builtin "str.join") [Value.str _ _, Value.ref _]) _ _ _); (refine' join_are (by k_asm) (by k_mem) (by assumption) (by walk_at "m_fit") ?_); (intro zt9 zk9); (try dsimp only))
  k_with "getMethod ref" => (k_here; (with_reducible show wpAny _ _ (getMethod (Value.ref _) (PySem.Str.ofString "search") _) _ _ _); k_dflt (refine' method_search (by k_asm) (by k_asm) (by k_is) ?_; k_whole))
  k_with "call builtin:re.Pattern.search" => (k_here; k_dflt (refine' search_KN (by k_asm) (by k_asm) (by k_is) (by rfl) (by rfl) (by k_is) (by first | exact Or.inl rfl | exact Or.inr rfl) (by assumption) ?_; k_whole))
  k_with "m_std" => ((case k1 => k_asm); (case k2 => k_asm); (case k3 => k_asm); (case k4 => k_asm); (case k5 => k_asm); (case kK => first | exact rfl | assumption); (case kR => first | exact Room.step (k := 3) (by assumption) (by decide) (by decide) | exact Room.step (k := 4) (by assumption) (by decide) (by decide) | exact Room.step (by assumption) (by omega) (by decide)))
  k_with "exec For" => (k_here; (with_reducible refine for_at ?_ (by intro _; with_unfolding_all rfl)))
  k_with "ForPost" => (dsimp only [ForPost])
  k_with "m_len" => first | omega | (simp only [List.length_append, List.length_cons, List.length_nil, List.length_take, List.length_drop]; omega)
  k_with "m_lt" => (intro zl9; (try k_lt zl9); (try k_sweep))
  k_with "call builtin:len" => (k_here; (with_reducible show wpAny _ _ (call (Value.builtin "len") [Value.ref _]) _ _ _); k_dflt (refine' len_N (by k_asm) (by k_mem) (by walk_at "m_len") ?_; k_whole))
  k_with "subscriptTail" => (k_here; (with_reducible show wpAny _ _ (subscriptTail _ _ (Value.ref _) (Value.ref _)) _ _ _); (with_unfolding_all first | (refine' slice_all_N (by k_asm) (by k_asm) (by k_mem) (by walk_at "m_len") ?_; k_whole; intro zD zh zF zN; walk_at "m_lt") | (refine' slice_from_N (by k_asm) (by k_asm) (by k_mem) (by walk_at "m_len") (by omega) ?_; k_whole; intro zD zh zF zN; walk_at "m_lt") | (refine' slice_upto_N (by k_asm) (by k_asm) (by k_mem) (by walk_at "m_len") (by omega) ?_; k_whole; intro zD zh zF zN; walk_at "m_lt")))
  k_with "m_room" => ((try simp only [depth_under_make, depth_under_kw, depth_in1, depth_deeper, depth_caller]); (try dsimp only [ktrTop]); (have zhR9 := Room.d (by assumption)); omega)
  k_with "k_units" => ((try simp only [units_under_make, units_in1, units_deeper, Around.mark_units, units_caller]); (try dsimp only [ktrTop]); (have zhR9 := Room.u (by assumption)); omega)
  k_with "k_all" => first | assumption | exact neA (by assumption) | exact neB (by assumption) | exact neB (And.right (by assumption)) | exact neB (And.right (And.right (by assumption))) | exact neB (And.right (And.right (And.right (by assumption)))) | exact neB (And.right (And.right (And.right (And.right (by assumption))))) | exact neB (And.right (And.right (And.right (And.right (And.right (by assumption))))))
  k_with "k_mem" => first | with_reducible assumption | (refine mem_ofL ?_; with_reducible assumption)
  k_with "exec For Name Call cons nil" => (k_here; (with_reducible refine for_at ?_ (by intro _; with_unfolding_all rfl)))
  k_with "call type:range" => (k_here; k_dflt (first | (refine' range_N 5 rfl (by k_asm) (by k_asm) ?_; k_whole) | (refine' range_N 6 rfl (by k_asm) (by k_asm) ?_; k_whole) | (refine' range_N 3 rfl (by k_asm) (by k_asm) ?_; k_whole)); intro zr zh ztk zt zu zv zF zN; walk_at "m_lt")
  k_with "subscriptTail" => (k_here; (with_reducible show wpAny _ _ (subscriptTail _ _ (Value.ref _) (Value.int _ _)) _ _ _); k_dflt (with_unfolding_all (refine' item_N (by k_asm) (by k_mem) (by omega) (by omega) (by assumption) ?_; k_whole)))
  k_with "binaryOp Add ref ref" => (k_here; k_dflt (refine' add_N (by k_asm) (by k_asm) (by k_mem) (by k_mem) (by walk_at "m_len") ?_; k_whole; intro zD zh zF zN; walk_at "m_lt"))
  k_with "binaryOp Mult str int" => (k_here; refine SB.mul (mulOk_of 16 1048576 (Nat.le_of_ble_eq_true rfl) (by omega) (by omega) (by decide) (by decide)) ?_; intro _ _; (try rw [mulTxt]))
  k_with "m_clean" => (try (with_reducible refine' wp_clean (by (dsimp only; exact rfl)) ?_))
  k_with "m_steps" => repeat' (first | (k_unfold; (try dsimp only)) | (k_end; wrow_close) | (walk1 <;> walk_at "m_clean") | (dsimp only; walk1 <;> walk_at "m_clean") | (leave1; try dsimp only) | fail "no step")
  k_with "m_kR" => first | exact Room.step (k := 3) (by assumption) (by decide) (by decide) | exact Room.step (k := 4) (by assumption) (by decide) (by decide) | exact Room.step (by assumption) (by omega) (by decide)
  k_with "call builtin:str.upper" => (k_here; (with_reducible show wpAny _ _ (call (Value.builtin "str.upper") [Value.str (nameOf _ _) _]) _ _ _); (refine SCL.upper (by rw [nameOf_length, row_len (by assumption) (by assumption)]; decide) ?_); intro _)
  k_with "call builtin:list.append" => (k_here; (with_reducible show wpAny _ _ (call (Value.builtin "list.append") [Value.ref _, _]) _ _ _); k_dflt (refine' append_N (by k_asm) (by k_asm) (by k_upd) (by walk_at "m_len") ?_; k_whole; intro zh zF zN; (try k_sweep)))
  k_with "binaryOp Mult int int" => (k_here; (with_reducible rename (∀ b, IntMulOk _ b) => zhM9); refine PyProof.Rows.mul_int ?_ (zhM9 _))
  k_with "binaryOp Mult ref int" => (k_here; (with_reducible show wpAny _ _ (binaryOp Operator.Mult (Value.ref _) (Value.int _ _)) _ _ _); k_dflt (refine' mul1_N (by k_asm) (by k_asm) (by k_mem) (by first | omega | (simp only [Int.fdiv_one]; omega)) (by first | omega | (simp only [Int.fdiv_one]; omega)) ?_; k_whole; intro zD zh zF zN; walk_at "m_lt"))
  k_with "k_all" => exact neL (by assumption) (by omega)
  k_with "m_yes" => refine ite_yes (by first | omega | (simp only [decide_eq_true_eq, beq_iff_eq]; omega)) ?_
  k_with "m_nay" => refine ite_nay (by first | omega | (simp only [decide_eq_true_eq, beq_iff_eq]; omega)) ?_
  k_with "call builtin:sum" => (k_here; (with_reducible show wpAny _ _ (call (Value.builtin "sum") [Value.ref _]) _ _ _); k_dflt (refine sum_H rfl (by assumption) (by assumption) ?_); intro zh4 ztk4 zt4 zk4; (have zF4 := Fr.kept (by k_asm) zk4); (have zN4 := newsKept (by k_asm) zk4))
  k_with "call ref" => ((with_reducible show wpAny _ _ (call (Value.ref _) _) _ _ _); refine stop_of ?_)
  k_with "m_room0" => (refine ⟨?_, ?_⟩ <;> first | decide | exact Nat.le_of_ble_eq_true rfl)
  k_with "exec For Name Tuple cons nil" => (k_here; (with_reducible refine for_at ?_ (by intro _; with_unfolding_all rfl)))
  k_with "eval ListComp" => ((with_reducible show wpAny _ _ (eval (PySem.Expr.ListComp _ _ _ _) _) _ _ _); refine stop_of ?_)
  k_with "binaryOp Mult int int" => (k_here; (with_reducible rename (∀ a, IntMulOk a _) => zhM9); refine PyProof.Rows.mul_int ?_ (zhM9 _))
  k_with "binaryOp Add ref ref" => (k_here; k_dflt (refine' add_N (by k_asm) (by k_asm) (by exact .tail _ (.tail _ (.head _))) (by exact .head _) (by simp only [List.length_replicate]; omega) ?_); intro zD zh zF zN; walk_at "m_lt")
  trivial
variable {prog : Program} {w : World} {p : Program} {loose : List Str} {mean : ExcName → Option Value} {mg mb : Str → Option Value} {news : List (Addr × Obj)}
noncomputable def Stop (P : Prop) : Prop := P
theorem stop_of {P : Prop} (h : Stop P) : P := h
theorem perm4 {h₀ h : Heap} {L : Addr} {a b c d : Addr × Obj} (N : News h₀ L h (a :: b :: c :: d :: [])) : News h₀ L h ([c] ++ (a :: b :: d :: [])) := News.sub N fun p hp => by
  simp only [List.cons_append, List.nil_append, List.mem_cons] at hp ⊢
  rcases hp with h | h | h | h | h
  · exact .inr (.inr (.inl h))
  · exact .inl h
  · exact .inr (.inl h)
  · exact .inr (.inr (.inr (.inl h)))
  · exact absurd h List.not_mem_nil
theorem fm24 (S : Int) : Okb (97 + S.fmod 24) := by
  have h1 := Int.fmod_nonneg_of_pos S (b := 24) (by decide)
  have h2 := Int.fmod_lt_of_pos S (b := 24) (by decide)
  constructor <;> omega
theorem dig_facts {ds : List Int} (h : DigRow ds) : (∀ d ∈ ds, 0 ≤ d ∧ d < 16384) ∧ 0 < ds.length ∧ ds.length ≤ 24 := by
  obtain ⟨a, b, c, d, e, ha, hb, hc, hd, he, rfl⟩ := h
  refine ⟨fun x hx => ?_, Nat.zero_lt_succ _, by show 6 ≤ 24; decide⟩
  simp only [List.mem_cons, List.not_mem_nil, or_false] at hx
  rcases hx with rfl | rfl | rfl | rfl | rfl | rfl <;> omega
theorem are_rep {k : Nat} {t : Tok} : Are IsInt (List.replicate k (Value.int 0 t)) (List.replicate k 0) := by
  induction k with
  | zero => exact .nil
  | succ k ih => exact .cons ⟨t, rfl⟩ ih
theorem numsOf_are {vs : List Value} {ns : List Int} (h : Are IsInt vs ns) : numsOf vs = ns := (are_ints h).numsOf
theorem startOf_len {ds : List Int} {sh : Int} (h0 : sh ≠ 0) (h : (startOf ds sh).length = 6) : (dgs 1 (d2i 1 ds + sh)).length ≤ 6 := by
  unfold startOf at h
  rw [if_neg h0, List.length_append] at h
  omega
theorem startOf_ne {ds : List Int} {sh : Int} (h0 : sh ≠ 0) : startOf ds sh = dgs 1 (d2i 1 ds + sh) ++ List.replicate (6 - ((dgs 1 (d2i 1 ds + sh)).length : Int)).toNat 0 := if_neg h0
theorem startOf_zero {ds : List Int} : startOf ds 0 = ds := if_pos rfl
theorem asTup3 {h₀ h : Heap} {L T : Addr} {a b c : Int} {ta tb tc : Tok} {r : List (Addr × Obj)} (N : News h₀ L h ((T, tupOf [.int a ta, .int b tb, .int c tc] 0) :: r)) : ∃ v3, Are IsInt v3 [a, b, c] ∧ News h₀ L h ((T, tupOf v3 0) :: r) :=
  ⟨_, .cons ⟨_, rfl⟩ (.cons ⟨_, rfl⟩ (.cons ⟨_, rfl⟩ .nil)), N⟩
theorem one_at {ds : List Int} (O1 : One ds (-1)) (O2 : One ds 0) (O3 : One ds 1) {i : Nat} {sh : Int} (h : ([-1, 0, 1] : List Int)[i]? = some sh) : One ds sh := by
  rcases i with _ | _ | _ | i
  · cases h; exact O1
  · cases h; exact O2
  · cases h; exact O3
  · cases h
noncomputable def cntOf (ds : List Int) : List Int := [(bkOf ds (-1)).length, (bkOf ds 0).length, (bkOf ds 1).length]
theorem cnt_at {ds : List Int} {i : Nat} {sh : Int} (h : ([-1, 0, 1] : List Int)[i]? = some sh) : (cntOf ds).take (i + 1) = (cntOf ds).take i ++ [((bkOf ds sh).length : Int)] := by
  rcases i with _ | _ | _ | i
  · cases h; rfl
  · cases h; rfl
  · cases h; rfl
  · cases h
theorem are_mapN {f : Nat → Int} {ys : List Value} {ks : List Nat} (h : Are (fun k => IsInt (f k)) ys ks) : Are IsInt ys (ks.map f) := by
  induction h with
  | nil => exact .nil
  | cons h1 _ ih => exact .cons h1 ih
theorem are_all {ys : List Value} {ns : List Int} (h : Are IsInt ys ns) : AllInts ys.toArray := (are_ints h).allInts
theorem dig_ok {ds : List Int} (h : DigRow ds) : ds.length = 6 ∧ Oki ds := by
  obtain ⟨a, b, c, d, e, ha, hb, hc, hd, he, rfl⟩ := h
  refine ⟨rfl, fun x hx => ?_⟩
  simp only [List.mem_cons, List.not_mem_nil, or_false] at hx
  rcases hx with rfl | rfl | rfl | rfl | rfl | rfl <;> omega
theorem sh_pos {i : Nat} (h : ([-1, 0, 1] : List Int)[i]? = some 0) : 0 < i := by
  rcases i with _ | i
  · cases h
  · exact Nat.zero_lt_succ _
theorem sh_cases {i : Nat} {sh : Int} (h : ([-1, 0, 1] : List Int)[i]? = some sh) : -1 ≤ sh ∧ sh ≤ 1 := by
  rcases i with _ | _ | _ | i
  · cases h; decide
  · cases h; decide
  · cases h; decide
  · cases h
theorem permL1 {h₀ h : Heap} {L : Addr} {a b c d e : Addr × Obj} {t t1 : List (Addr × Obj)} (N : News h₀ L h (a :: b :: c :: (t ++ (d :: e :: t1)))) : News h₀ L h (t1 ++ (a :: b :: c :: (t ++ (d :: e :: [])))) := News.sub N fun p hp => by
  rcases List.mem_append.mp hp with hp | hp
  · exact .tail _ (.tail _ (.tail _ (List.mem_append_right _ (.tail _ (.tail _ hp)))))
  rcases List.mem_cons.mp hp with rfl | hp
  · exact .head _
  rcases List.mem_cons.mp hp with rfl | hp
  · exact .tail _ (.head _)
  rcases List.mem_cons.mp hp with rfl | hp
  · exact .tail _ (.tail _ (.head _))
  rcases List.mem_append.mp hp with hp | hp
  · exact .tail _ (.tail _ (.tail _ (List.mem_append_left _ hp)))
  rcases List.mem_cons.mp hp with rfl | hp
  · exact .tail _ (.tail _ (.tail _ (List.mem_append_right _ (.head _))))
  rcases List.mem_cons.mp hp with rfl | hp
  · exact .tail _ (.tail _ (.tail _ (List.mem_append_right _ (.tail _ (.head _)))))
  · exact absurd hp List.not_mem_nil
theorem permL2 {h₀ h : Heap} {L : Addr} {x a b c d e : Addr × Obj} {t t1 : List (Addr × Obj)} (N : News h₀ L h (x :: (t1 ++ (a :: b :: c :: (t ++ (d :: e :: [])))))) : News h₀ L h (x :: a :: b :: c :: (t ++ (d :: e :: t1))) := News.sub N fun p hp => by
  rcases List.mem_cons.mp hp with rfl | hp
  · exact .head _
  rcases List.mem_cons.mp hp with rfl | hp
  · exact .tail _ (List.mem_append_right _ (.head _))
  rcases List.mem_cons.mp hp with rfl | hp
  · exact .tail _ (List.mem_append_right _ (.tail _ (.head _)))
  rcases List.mem_cons.mp hp with rfl | hp
  · exact .tail _ (List.mem_append_right _ (.tail _ (.tail _ (.head _))))
  rcases List.mem_append.mp hp with hp | hp
  · exact .tail _ (List.mem_append_right _ (.tail _ (.tail _ (.tail _ (List.mem_append_left _ hp)))))
  rcases List.mem_cons.mp hp with rfl | hp
  · exact .tail _ (List.mem_append_right _ (.tail _ (.tail _ (.tail _ (List.mem_append_right _ (.head _))))))
  rcases List.mem_cons.mp hp with rfl | hp
  · exact .tail _ (List.mem_append_right _ (.tail _ (.tail _ (.tail _ (List.mem_append_right _ (.tail _ (.head _)))))))
  · exact .tail _ (List.mem_append_left _ hp)
theorem bk_ok {ds : List Int} {sh : Int} (h : V (startOf ds sh)) : ∀ e ∈ bkOf ds sh, V e.1 := (bfs_good h 6).b
theorem bk_are {ds : List Int} {sh base : Int} {l : List (Addr × Obj)} {es : List Value} (h : Are (IsPair l) es (bookE base (bfsAt (startOf ds sh) 6).1)) : Are (IsPair l) es (bookE base (bkOf ds sh)) := h
theorem worth_eq {ds : List Int} {sh : Int} : sh + ((List.range 6).map fun k => ds.getD k 0 * 2 ^ k).sum = worthOf ds sh := rfl
theorem memOf3 {α : Type} {a b c p : α} {l : List α} (h : p ∈ l) : p ∈ a :: b :: c :: l := .tail _ (.tail _ (.tail _ h))
theorem pairs3 {l : List (Addr × Obj)} {a b c : Addr × Obj} {es : List Value} {bk : List (Str × Str)} (h : Are (IsPair l) es bk) : Are (IsPair (a :: b :: c :: l)) es bk := h.mono fun _ _ h => h.sub fun _ hp => memOf3 hp
theorem permB {h₀ h : Heap} {L : Addr} {b d e y g s i t c : Addr × Obj} {tu rest : List (Addr × Obj)} (N : News h₀ L h (b :: d :: e :: (tu ++ (y :: g :: s :: i :: t :: c :: rest)))) : News h₀ L h (i :: t :: c :: b :: d :: e :: rest) := News.sub N fun p hp => by
  rcases List.mem_cons.mp hp with rfl | hp
  · exact memOf3 (List.mem_append_right _ (memOf3 (.head _)))
  rcases List.mem_cons.mp hp with rfl | hp
  · exact memOf3 (List.mem_append_right _ (memOf3 (.tail _ (.head _))))
  rcases List.mem_cons.mp hp with rfl | hp
  · exact memOf3 (List.mem_append_right _ (memOf3 (.tail _ (.tail _ (.head _)))))
  rcases List.mem_cons.mp hp with rfl | hp
  · exact .head _
  rcases List.mem_cons.mp hp with rfl | hp
  · exact .tail _ (.head _)
  rcases List.mem_cons.mp hp with rfl | hp
  · exact .tail _ (.tail _ (.head _))
  · exact memOf3 (List.mem_append_right _ (memOf3 (memOf3 hp)))
theorem dropB {h₀ h : Heap} {L : Addr} {b d e i t c : Addr × Obj} {rest : List (Addr × Obj)} (N : News h₀ L h (i :: t :: c :: b :: d :: e :: rest)) : News h₀ L h (i :: t :: c :: rest) := News.sub N fun p hp => by
  rcases List.mem_cons.mp hp with rfl | hp
  · exact .head _
  rcases List.mem_cons.mp hp with rfl | hp
  · exact .tail _ (.head _)
  rcases List.mem_cons.mp hp with rfl | hp
  · exact .tail _ (.tail _ (.head _))
  · exact memOf3 (memOf3 hp)
theorem dropT3 {h₀ h : Heap} {L : Addr} {a b c d i t e : Addr × Obj} {rest : List (Addr × Obj)} (N : News h₀ L h (a :: b :: c :: d :: i :: t :: e :: rest)) : News h₀ L h (a :: i :: t :: e :: rest) := News.sub N fun p hp => by
  rcases List.mem_cons.mp hp with rfl | hp
  · exact .head _
  · exact .tail _ (memOf3 hp)
theorem are_start {ds : List Int} {sh : Int} {ws : List Value} {t : Tok} (h0 : sh ≠ 0) (h : Are IsInt ws (dgs 1 (d2i 1 ds + sh))) : Are IsInt (ws ++ List.replicate (6 - (ws.length : Int)).toNat (Value.int 0 t)) (startOf ds sh) := by
  rw [startOf_ne h0, ← h.length]
  exact h.append are_rep
theorem tab_mem {tb : List (Addr × Obj)} {q : Str} (h : TabIs 191 114 4 q tb) : ∃ o, ((191 : Nat), o) ∈ tb := by
  rcases h with rfl | ⟨c, oc, vs, t, h⟩
  · exact ⟨_, .head _⟩
  · rw [h.is]; exact ⟨_, .head _⟩
theorem ap_new {b : Addr} {t2 tb tb' : List (Addr × Obj)} {d c : Addr × Obj} (h : ∀ p ∈ t2 ++ (d :: c :: tb), p.1 ≠ b) (h' : ∀ p ∈ tb', p.1 ≠ b) : ∀ p ∈ t2 ++ (d :: c :: tb'), p.1 ≠ b := by
  intro p hp
  rcases List.mem_append.mp hp with hp | hp
  · exact h p (List.mem_append_left _ hp)
  rcases List.mem_cons.mp hp with rfl | hp
  · exact h _ (List.mem_append_right _ (.head _))
  rcases List.mem_cons.mp hp with rfl | hp
  · exact h _ (List.mem_append_right _ (.tail _ (.head _)))
  · exact h' p hp
theorem ap_old {b : Addr} {t2 tb : List (Addr × Obj)} {d c : Addr × Obj} (h : ∀ p ∈ t2 ++ (d :: c :: tb), p.1 ≠ b) : ∀ p ∈ tb, p.1 ≠ b := fun p hp => h p (List.mem_append_right _ (.tail _ (.tail _ hp)))
theorem are3 {α : Type} {Is : α → Value → Prop} {vs : List Value} {a b c : α} (h : Are Is vs [a, b, c]) : ∃ v0 v1 v2, vs = [v0, v1, v2] ∧ Is a v0 ∧ Is b v1 ∧ Is c v2 := by
  cases h with | cons h0 h => cases h with | cons h1 h => cases h with | cons h2 h => cases h with | nil => exact ⟨_, _, _, rfl, h0, h1, h2⟩
theorem permD {h₀ h : Heap} {L : Addr} {b c d e : Addr × Obj} {t t1 : List (Addr × Obj)} (N : News h₀ L h (b :: c :: (t ++ (d :: e :: t1)))) : News h₀ L h (t1 ++ (t ++ (b :: c :: d :: e :: []))) := News.sub N fun p hp => by
  rcases List.mem_append.mp hp with hp | hp
  · exact .tail _ (.tail _ (List.mem_append_right _ (.tail _ (.tail _ hp))))
  rcases List.mem_append.mp hp with hp | hp
  · exact .tail _ (.tail _ (List.mem_append_left _ hp))
  rcases List.mem_cons.mp hp with rfl | hp
  · exact .head _
  rcases List.mem_cons.mp hp with rfl | hp
  · exact .tail _ (.head _)
  rcases List.mem_cons.mp hp with rfl | hp
  · exact .tail _ (.tail _ (List.mem_append_right _ (.head _)))
  rcases List.mem_cons.mp hp with rfl | hp
  · exact .tail _ (.tail _ (List.mem_append_right _ (.tail _ (.head _))))
  · exact absurd hp List.not_mem_nil
theorem ne_tab {h₀ h : Heap} {L a P : Addr} {o : Obj} {ps : Array Value} {news : List (Addr × Obj)} (N : News h₀ L h news) (h1 : (P, tabObj ps) ∈ news) (h2 : (a, o) ∈ news) (ho : ∀ qs, o.data ≠ .fields qs) : a ≠ P := fun e => by
  have e1 := (N _ h1).1
  have e2 := (N _ h2).1
  simp only at e1 e2
  rw [e, e1] at e2
  have e3 : tabObj ps = o := Option.some.inj e2
  exact ho ps (by rw [← e3])
theorem mul_r50 {b : Int} (h : 0 ≤ b ∧ b ≤ 50) (a : Int) : IntMulOk a b := IntMulOk.of_right (Nat.le_trans (bits_le (x := b) (by omega)) (by decide))
theorem g0 {a b c d : Int} : [a, b, c].getD (Int.toNat 0) d = a := rfl
theorem g1 {a b c d : Int} : [a, b, c].getD (Int.toNat 1) d = b := rfl
theorem g2 {a b c d : Int} : [a, b, c].getD (Int.toNat 2) d = c := rfl
theorem wp_join {M : Model} {A : Around} {t : Sem Flow} {Q' : Flow → Shared → Prop} {E' : Value → Shared → Prop} {s : Shared} {g : Heap} {L : Addr} {x : Str} {v0 : Option Value} {mm : Str → Option Value} {nx : List (Addr × Obj)}
    (F : Fr g L s.heap (fun y => if y = x then v0 else mm y)) (_ : News g L s.heap nx) (J : Value → List (Addr × Obj) → Prop)
    (h : ∀ Q9 : Flow → Shared → Prop, (∀ v nx' h9 tk9, Fr g L h9 (fun y => if y = x then some v else mm y) → News g L h9 nx' → J v nx' → Q9 .next { s with heap := h9, toks := tk9 }) → wpAny M A t Q9 E' s)
    (k : ∀ v nx' h9 tk9, Fr g L h9 (fun y => if y = x then some v else mm y) → News g L h9 nx' → J v nx' → Q' .next { s with heap := h9, toks := tk9 }) : wpAny M A t Q' E' s := h Q' k
theorem fr_twice {g h : Heap} {L : Addr} {x : Str} {a b c : Option Value} {mm : Str → Option Value} (F : Fr g L h (fun y => if y = x then a else if y = x then b else if y = x then c else mm y)) : Fr g L h (fun y => if y = x then a else mm y) := by
  have e : (fun y => if y = x then a else mm y) = (fun y => if y = x then a else if y = x then b else if y = x then c else mm y) := by
    funext y
    by_cases hy : y = x
    · rw [if_pos hy, if_pos hy]
    · rw [if_neg hy, if_neg hy, if_neg hy, if_neg hy]
  rw [e]; exact F
theorem same_of_mem {α : Type} {a : α} {l : List α} (_ : a ∈ l) : ∃ c, c = a := ⟨a, rfl⟩
theorem cw0 : PySem.Challenge.rw_un0042_01.Holds := by
  refine holds_law ws fun _ => ?_
  refine holds_open (q := vw) (loose := [Str.ofString "_name_disallowed_re", Str.ofString "_value_disallowed_re", Str.ofString "_Accumulator"]) (Xt := fun s => xlAt vw [] s && recOk (RowW.records (OpenRow.toRowW PySem.Challenge.rw_un0042_01.row)) s) (XP := XL vw []) (Yf := Hook.obs (kmHook hpK kas kas_ok [198, 191])) (Ya := Hook.val (kmHook hpK kas kas_ok [198, 191])) (YP := Hook.says (kmHook hpK kas kas_ok [198, 191])) (N := 3924) left (Hook.of (kmHook hpK kas kas_ok [198, 191])) (Hook.keeps (kmHook hpK kas kas_ok [198, 191])) (fun s e => xl_of s (Bool.and_eq_true_iff.mp e).1) XL.keeps (by rfl) (by rfl) (by rfl) (fun s e => recFacts_of (Bool.and_eq_true_iff.mp e).2) (by rfl) (by first | assumption | decide +kernel) (by decide +kernel) ⟨rfl, rfl, rfl, rfl, rfl, by decide +kernel⟩ ?hw ?hc
  case hw => w_witness2
  k_go0
  rename IntsAre _ _ => hI
  rename ¬ _ < _ => hlen
  rename Below callerA _ _ _ => hB0
  rename (@LT.lt Nat _ 198 _ ∧ _) => l0
  walk_at "m_steps"
  unfold Stop
  k_dflt (refine digits_spec hI (by omega) _ _ _ _ _ _ _ _ _ _ _ _ _ _ _ _ _ (by k_asm) (by k_asm) (by k_asm) (by k_asm) (by k_asm) (by first | exact rfl | assumption) (by walk_at "m_room0") (by assumption) ?_)
  rintro _ _ h9 tk9 ⟨D0, ws0, k0, ds, rfl, rfl, hA0, hDig, hD0⟩ F9 N9
  have hDs := hDig
  obtain ⟨O1, O2, O3, hq1, hq2⟩ := pure_law hDig
  have hdr : (∀ d ∈ ds, 0 ≤ d ∧ d < 16384) ∧ 0 < ds.length ∧ ds.length ≤ 24 := dig_facts hDig
  have hq0 := hD0 _ (.head _)
  dsimp only at hq0
  have hq0' := Ne.symm hq0
  k_dflt (refine' storeX_C ?F81 ?N81 ?c81 ?U81 ?d81 ?_ ?a81 ?b81; (case a81 => rfl); (case b81 => rfl); (case F81 => k_asm); (case N81 => k_asm); (case c81 => rfl); (case U81 => k_updF); (case d81 => k_asm))
  intro h' o' F' N' d'
  try dsimp only at N'
  try k_sweep
  walk_at "m_steps"
  unfold Stop
  rename News _ _ _ _ => N8
  have N7 := perm4 N8
  k_dflt (refine d2i_spec (n := 1) (.head _) hA0 hdr.1 hdr.2 (by decide) (.inl rfl) ?hne _ _ _ _ _ _ _ _ _ _ _ _ _ _ _ _ _ (by k_asm) (by k_asm) (by k_asm) N7 (by k_asm) (by first | exact rfl | assumption) (by walk_at "m_room0") ?_)
  case hne => exact List.forall_mem_cons.mpr ⟨Ne.symm (hD0 _ (.tail _ (.head _))), List.forall_mem_cons.mpr ⟨Nat.ne_of_gt (Nat.lt_succ_of_lt l0.1), List.forall_mem_cons.mpr ⟨(by decide : (191 : Nat) ≠ 198), fun q hq => absurd hq List.not_mem_nil⟩⟩⟩
  rintro _ _ h6 tk6 ⟨t6, tb2, rfl, rfl, hT2, hG2⟩ F6 N6
  walk_at "m_steps"
  rename News _ _ _ _ => N5
  obtain ⟨v3, hv3, N4⟩ := asTup3 N5
  rename (∀ p ∈ (_ : List (Addr × Obj)), p.1 < _) => lCn
  rename (@LT.lt Nat _ _ _ ∧ AllLt _ _) => lT
  refine for_tupM (vs := v3) (n := 0) (fun m₀ n₀ i m' nx => ∃ T Cn cell tb1 cs kc, n₀ = (T, tupOf v3 0) :: (Cn, listOf ([] : List Value).toArray 0) :: (tb2 ++ ((D0, listOf ws0.toArray k0) :: cell :: [(191, tabObj #[])])) ∧ nx = (T, tupOf v3 0) :: (Cn, listOf (cs : List Value).toArray kc) :: (tb2 ++ ((D0, listOf ws0.toArray k0) :: cell :: tb1)) ∧ TabIs 191 114 4 (Str.ofString "_int2digits.<locals>.inner") tb1 ∧ (0 < i → ∃ c oc vs t, TabFull 191 114 4 (Str.ofString "_int2digits.<locals>.inner") tb1 c oc vs t) ∧ (∀ p ∈ tb2 ++ ((D0, listOf ws0.toArray k0) :: cell :: tb1), p.1 ≠ Cn) ∧ T ≠ Cn ∧ (∀ p ∈ (T, tupOf v3 0) :: tb2 ++ ((D0, listOf ws0.toArray k0) :: cell :: []), p.1 ≠ 191) ∧ Are IsInt cs ((cntOf ds).take i) ∧ m₀ (Str.ofString "counts") = some (.ref Cn) ∧ ∀ z, z ≠ Str.ofString "shift" → z ≠ Str.ofString "start" → z ≠ Str.ofString "worth" → z ≠ Str.ofString "book" → m' z = m₀ z) (by k_asm) N4 rfl ?hE ?hl ?h0 ?turn ?done
  case hE => with_unfolding_all passes_own
  case hl =>
    rintro i m' nx ⟨T, Cn, cell, tb1, cs, kc, hn0, rfl, _⟩
    rw [(List.cons.inj hn0).1]
    exact .head _
  case h0 =>
    refine ⟨_, _, _, _, [], _, rfl, rfl, .inl rfl, fun h => absurd h (Nat.lt_irrefl _), fun p hp => Nat.ne_of_lt (lCn p hp), Nat.ne_of_gt lT.1, ?h191, .nil, rfl, fun _ _ _ _ _ => rfl⟩
    obtain ⟨c2, oc2, vs2, tt2, hF2⟩ := hT2
    refine List.forall_mem_cons.mpr ⟨Ne.symm (neB lT.2 _ (List.mem_append_right _ (.tail _ (.tail _ (.head _))))), ?_⟩
    intro p hp
    rcases List.mem_append.mp hp with hp | hp
    · rcases hF2.tab.2 p hp with e | e
      · rw [e]; decide
      · exact Nat.ne_of_gt (Nat.lt_trans (by decide) e)
    rcases List.mem_cons.mp hp with rfl | hp
    · exact Ne.symm (hD0 _ (.tail _ (.tail _ (.head _))))
    rcases List.mem_cons.mp hp with rfl | hp
    · exact Nat.ne_of_gt (Nat.lt_succ_of_lt l0.2)
    · exact absurd hp List.not_mem_nil
  case done =>
    rintro m₁ nx h tk ⟨T, Cn, cell, tb1, cs, kc, hn0, rfl, hTab, hFull, hApC, hTC, h191, hcs, hmC, hm⟩ F₁ N₁
    obtain ⟨e1, e2⟩ := List.cons.inj hn0
    obtain ⟨e3, e4⟩ := List.cons.inj e2
    obtain ⟨_, e6⟩ := List.cons.inj (List.append_cancel_left e4)
    obtain ⟨e7, _⟩ := List.cons.inj e6
    cases e1
    cases e3
    cases e7
    clear hn0 e2 e4 e6
    obtain ⟨ma, mb, mc, md, rfl⟩ := expl4 hm
    dsimp only
    rw [hv3.length] at hcs hFull
    have hFul := hFull (by decide)
    have hcs3 : Are IsInt cs [((bkOf ds (-1)).length : Int), ((bkOf ds 0).length : Int), ((bkOf ds 1).length : Int)] := hcs
    have hz1 : 0 < ((bkOf ds (-1)).length : Int) ∧ ((bkOf ds (-1)).length : Int) ≤ 50 := by have := O1.z; omega
    have hz2 : 0 < ((bkOf ds 0).length : Int) ∧ ((bkOf ds 0).length : Int) ≤ 50 := by have := O2.z; omega
    clear hcs
    generalize ((bkOf ds (-1)).length : Int) = ca at hcs3 hq1 hq2 hz1
    generalize ((bkOf ds 0).length : Int) = cb at hcs3 hq1 hq2 hz2
    generalize ((bkOf ds 1).length : Int) = cc at hcs3 hq1 hq2
    clear O1 O2 O3
    obtain ⟨_, _, _, rfl, ⟨ta, rfl⟩, ⟨tb, rfl⟩, ⟨tc, rfl⟩⟩ := are3 hcs3
    clear hcs3
    rename (Obj.data _ = Data.cell (some (Value.ref D0))) => hcell
    obtain ⟨c2, oc2, vs2, tt2, hF2⟩ := hT2
    obtain ⟨⟨ps2, hp2⟩, _⟩ := hF2.tab
    obtain ⟨c1, oc1, vs1, tt1, hF1⟩ := hFul
    obtain ⟨⟨ps1, hp1⟩, hp1'⟩ := hF1.tab
    have mm2 := memOf N₁ (.tail _ (.tail _ (List.mem_append_left _ hp2)))
    have nT := ne_tab N₁ mm2 (.head _) (fun qs e => by cases e)
    have nC := ne_tab N₁ mm2 (.tail _ (.head _)) (fun qs e => by cases e)
    have nD := ne_tab N₁ mm2 (.tail _ (.tail _ (List.mem_append_right _ (.head _)))) (fun qs e => by cases e)
    have ncl := ne_tab N₁ mm2 (.tail _ (.tail _ (List.mem_append_right _ (.tail _ (.head _))))) (fun qs e => by rw [hcell] at e; cases e)
    have nC1 := Ne.symm (ap_old hApC _ hp1)
    walk_at "m_steps"
    unfold Stop
    rename News _ _ _ _ => NQ
    have NP := permD NQ
    k_dflt (refine idm_spec (a := ca) (b := cb) (by omega) (by omega) ⟨_, _, _, _, hF1⟩ ⟨_, _, _, _, hF2⟩ ?h12 ?h21 _ _ _ _ _ _ _ _ _ _ _ _ _ _ _ _ _ (by k_asm) (by k_asm) (by k_asm) NP (by k_asm) (by first | exact rfl | assumption) (by walk_at "m_room0") ?_)
    case h12 =>
      intro q hq
      rcases List.mem_append.mp hq with hq | hq
      · exact h191 q (List.mem_append_left _ (.tail _ hq))
      rcases List.mem_cons.mp hq with rfl | hq
      · exact h191 _ (.head _)
      rcases List.mem_cons.mp hq with rfl | hq
      · exact nC1
      · exact h191 q (List.mem_append_right _ hq)
    case h21 =>
      intro q hq
      rcases List.mem_append.mp hq with hq | hq
      · rcases hp1' q hq with e | e
        · rw [e]; decide
        · exact Nat.ne_of_gt e
      rcases List.mem_cons.mp hq with rfl | hq
      · exact nT
      rcases List.mem_cons.mp hq with rfl | hq
      · exact nC
      rcases List.mem_cons.mp hq with rfl | hq
      · exact nD
      rcases List.mem_cons.mp hq with rfl | hq
      · exact ncl
      · exact absurd hq List.not_mem_nil
    have hMr : ∀ a : Int, IntMulOk a cb := mul_r50 (by omega)
    rintro _ _ h9' tk9' ⟨T9, k9, u1, u2, qs1, qs2, rfl, rfl⟩ F9 N9
    generalize dvPair ca cb = dv at hq1 hq2 N9
    iterate 34 (first | (k_unfold; (try dsimp only)) | walk1)
    refine ite_nay (by show ¬ ((cc != ca + cb - 2 * dv.2) = true); rw [← hq1]; simp) ?_
    iterate 29 (first | (k_unfold; (try dsimp only)) | walk1)
    have hfin : (cc == (2 * dv.1 + 1) * cb - ca) = true := by rw [← hq2]; simp
    simp only [g0, g1, g2]
    rw [hfin]
    (try dsimp only)
    refine ⟨?gw, ?gr⟩
    case gr =>
      rename News _ _ _ ((T9, _) :: _) => NZ
      exact ⟨GrownAt.of NZ (.tail _ (.tail _ (.head _))), ⟨GrownAt.of NZ (.tail _ (.head _)), trivial⟩⟩
    case gw =>
      refine goodW_bool (by first | k_asm | assumption) (by first | assumption | rfl) (raisesW_false ?nr) ?po
      case nr => first | (wrow_none_raised; done) | fail
      case po => first | rfl | kernel_rfl | (wrow_post; done) | fail
  case turn =>
    rintro i v m₁ nx h tk it o hv ⟨T, Cn, cell, tb1, cs, kc, hn0, rfl, hTab, hFull, hApC, hTC, h191, hcs, hmC, hm⟩ F₁ N₁ hoff hio
    obtain ⟨e1, e2⟩ := List.cons.inj hn0
    obtain ⟨e3, e4⟩ := List.cons.inj e2
    obtain ⟨_, e6⟩ := List.cons.inj (List.append_cancel_left e4)
    obtain ⟨e7, _⟩ := List.cons.inj e6
    cases e1
    cases e3
    cases e7
    clear hn0 e2 e4 e6
    obtain ⟨ma, mb, mc, md, rfl⟩ := expl4 hm
    obtain ⟨sh, hsh, tsh, rfl⟩ := hv3.get hv
    have hO := one_at O1 O2 O3 hsh
    refine turn_name F₁ N₁ rfl rfl ?_
    intro h' tk' F₂ N₂
    have mcl := memOf N₂ (.tail _ (.tail _ (.tail _ (List.mem_append_right _ (.tail _ (.head _))))))
    generalize hP : ForPost _ _ _ _ _ _ _ = P
    have hdo := dig_ok hDs
    have hcs' := hcs.length
    obtain ⟨cel, hcel⟩ := same_of_mem mcl
    obtain ⟨eT, hT8⟩ := same_of_mem (memOf N₂ (.tail _ (.head _)))
    obtain ⟨eC, hC8⟩ := same_of_mem (memOf N₂ (.tail _ (.tail _ (.head _))))
    iterate 5 (first | (k_unfold; (try dsimp only)) | (walk1 <;> walk_at "m_clean"))
    refine wp_join (x := Str.ofString "start") (by k_asm) (by k_asm) (fun v nx9 => ∃ S wsS kS tbX, v = .ref S ∧ nx9 = (S, listOf (wsS : List Value).toArray kS) :: (it, o) :: eT :: eC :: (tb2 ++ ((D0, listOf ws0.toArray k0) :: cel :: tbX)) ∧ Are IsInt wsS (startOf ds sh) ∧ TabIs 191 114 4 (Str.ofString "_int2digits.<locals>.inner") tbX ∧ (∃ c oc vs t, TabFull 191 114 4 (Str.ofString "_int2digits.<locals>.inner") tbX c oc vs t) ∧ (∀ p ∈ tb2 ++ ((D0, listOf ws0.toArray k0) :: cel :: tbX), p.1 ≠ eC.1) ∧ (∀ p ∈ tb2 ++ ((D0, listOf ws0.toArray k0) :: cel :: tbX), p.1 ≠ it)) ?ifp ?tl
    case ifp =>
      intro Q9 hQ9
      subst hcel hT8 hC8
      walk_at "m_steps"
      rotate_left
      · have h0 : sh = 0 := by assumption
        subst h0
        rename News _ _ _ _ => NQ
        rename Fr _ _ _ _ => FQ
        have NS := News.sub NQ (l' := (D0, listOf ws0.toArray k0) :: _) (List.forall_mem_cons.mpr ⟨.tail _ (.tail _ (.tail _ (List.mem_append_right _ (.head _)))), fun p hp => hp⟩)
        have hSA : Are IsInt ws0 (startOf ds 0) := by rw [startOf_zero]; exact hA0
        exact hQ9 _ _ _ _ FQ NS ⟨_, _, _, tb1, rfl, rfl, hSA, hTab, hFull (sh_pos hsh), hApC, fun p hp => hoff p (.tail _ (.tail _ hp))⟩
      · have h0 : sh ≠ 0 := by assumption
        unfold Stop
        rename News _ _ _ _ => NQ
        have NP := permL1 NQ
        have hsc := sh_cases hsh
        have hdl := startOf_len h0 hO.v.1
        obtain ⟨o19, m19⟩ := tab_mem hTab
        have hOffT : ∀ p ∈ tb2 ++ ((D0, listOf ws0.toArray k0) :: _ :: tb1), p.1 ≠ it := fun p hp => hoff p (.tail _ (.tail _ hp))
        k_dflt (refine i2d_spec (x := d2i 1 ds + sh) (n := 1) ⟨hO.x.1, by have := hO.x.2; omega⟩ (by decide) hTab ?h191' ?h198 _ _ _ _ _ _ _ _ _ _ _ _ _ _ _ _ _ (by k_asm) (by k_asm) (by k_asm) NP (by k_asm) (by first | exact rfl | assumption) (by walk_at "m_room0") ?_)
        case h191' =>
          refine List.forall_mem_cons.mpr ⟨Ne.symm (ap_old hOffT _ m19), List.forall_mem_cons.mpr ⟨h191 _ (.head _), List.forall_mem_cons.mpr ⟨Ne.symm (ap_old hApC _ m19), fun q hq => h191 q (.tail _ hq)⟩⟩⟩
        case h198 =>
          obtain ⟨c2, oc2, vs2, tt2, hF2⟩ := hT2
          obtain ⟨⟨ps2, hp2⟩, _⟩ := hF2.tab
          exact ⟨_, .tail _ (.tail _ (.tail _ (List.mem_append_left _ hp2)))⟩
        rintro _ _ h8 tk8 ⟨D, ws, n1, tb1', rfl, rfl, hA, hFull', hG, hDlt, hDne⟩ F8 N8
        have NQ2 := permL2 N8
        have hApC2 := ap_new hApC (hG.ne (List.mem_append_right _ (.tail _ (.tail _ (.head _)))) (ap_old hApC))
        have hOff2 := ap_new hOffT (hG.ne (List.mem_append_right _ (.head _)) (ap_old hOffT))
        clear N8 NP NQ
        have hwl := hA.length
        have mcq := memOf NQ2 (.tail _ (.tail _ (.tail _ (.tail _ (List.mem_append_right _ (.tail _ (.head _)))))))
        walk_at "m_steps"
        rename News _ _ _ _ => NQ
        have NS := dropT3 NQ
        have hSA := fun t : Tok => are_start (t := t) h0 hA
        rename Fr _ _ _ _ => FQ
        exact hQ9 _ _ _ _ (fr_twice FQ) NS ⟨_, _, _, tb1', rfl, rfl, hSA _, .inr hFull', hFull', hApC2, hOff2⟩
    case tl =>
      intro v9 nx9 h9 tk9 FJ NJ hJ
      obtain ⟨S, wsS, kS, tbX, rfl, rfl, hSA, hTabX, hFulX, hApX, hOffX⟩ := hJ
      subst hcel hT8 hC8
      walk_at "m_steps"
      unfold Stop
      refine' comp_rng (fun k => IsInt (ds.getD k 0 * 2 ^ k)) ?hh ?hclos ?hcell ?hkind ?hnames ?hx ?_
      walk_at "m_compgo"
      walk_at "m_steps"
      refine RSrc.ofN (by k_asm) (by k_asm) (List.Mem.head _) (by decide) ?elt ?out
      case elt =>
        intro kk tv C mC E' s₃ hi hn3 hx3 hk3 F3 N3
        have mD3 := memOf N3 (.tail _ (.tail _ (.tail _ (.tail _ (.tail _ (List.mem_append_right _ (.head _)))))))
        have mc3 := memOf N3 (.tail _ (.tail _ (.tail _ (.tail _ (.tail _ (List.mem_append_right _ (.tail _ (.head _))))))))
        have hdk : ds[kk]? = some (ds.getD kk 0) := by rw [List.getD_eq_getElem?_getD, List.getElem?_eq_getElem (by omega)]; rfl
        obtain ⟨v0, hv0, t0, rfl⟩ := hA0.get' hdk
        have hw0 : ws0[((kk : Int)).toNat]? = some (.int (ds.getD kk 0) t0) := by rw [Int.toNat_natCast]; exact hv0
        have hm2 := small_mul (a := ds.getD kk 0) (by have := hdo.2 _ (List.mem_of_getElem? hdk); omega)
        walk_at "m_steps"
        all_goals first | exact ⟨_, rfl⟩ | exact ⟨_, _, rfl, fun _ _ e => e⟩ | fail
      case out =>
        intro Dy h' tk ys ky F' N' hne hy
        have hy2 := are_mapN hy
        have hl9 : h'.IsList Dy ys.toArray := ⟨_, (N' _ (.head _)).1, rfl, _, rfl⟩
        have hai := are_all hy2
        have hnum : numsOf ys.toArray.toList = (List.range 6).map fun k => ds.getD k 0 * 2 ^ k := numsOf_are hy2
        walk_at "m_steps"
        rename News _ _ _ ((Dy, _) :: _) => NR
        unfold Stop
        k_dflt (refine rounds_spec (NN := 6) ?hPF (.tail _ (.tail _ (.head _))) hSA hO.v (fm24 _) (by decide) hO.q (Nat.le_trans hO.z.1 (by decide)) _ _ _ _ _ _ _ _ _ _ _ _ _ _ _ _ _ (by k_asm) (by k_asm) (by k_asm) NR (by k_asm) (by first | exact rfl | assumption) (by walk_at "m_room0") ?_)
        case hPF => exact ⟨by first | rfl | kernel_rfl | decide +kernel, by first | rfl | kernel_rfl | decide +kernel⟩
        rintro _ _ h8 tk8 ⟨bb, dh, hl, hs2, tt2, nb1, nb2, es, tups, rfl, rfl, hEs⟩ F8 N8
        have mbk := memOf N8 (.head _)
        have mdh := memOf N8 (.tail _ (.head _))
        walk_at "m_steps"
        unfold Stop
        rename News _ _ _ _ => NA
        rw [hnum, worth_eq]
        have hEs2 := bk_are hEs
        k_dflt (refine all_spec (sl := _) (svs := _) (start := startOf ds sh) (b := bb) (dh := dh) (hl := hl) (worth := worthOf ds sh) (bk := bkOf ds sh) (fm24 _) (.head _) (.tail _ (.head _)) (.tail _ (.tail _ (.head _))) (pairs3 hEs2) (.tail _ (.tail _ (.tail _ (List.mem_append_right _ (.tail _ (.tail _ (.head _))))))) hSA hO.v (bk_ok hO.v) hO.w (Nat.lt_of_le_of_lt hO.z.1 (by decide)) hO.p hO.a hO.c hO.s _ _ _ _ _ _ _ _ _ _ _ _ _ _ _ _ _ (by k_asm) (by k_asm) (by k_asm) NA (by k_asm) (by first | exact rfl | assumption) (by walk_at "m_room0") ?_)
        rintro _ _ h7 tk7 ⟨rfl, rfl⟩ F7 N7
        have NB := permB N7
        have mbb := memOf NB (memOf3 (.head _))
        have mdd := memOf NB (memOf3 (.tail _ (.head _)))
        have hel := hEs.length
        rw [bookE_length] at hel
        have hbl : es.length = (bkOf ds sh).length := hel
        have hbz := hO.z.1
        clear N7 NA mbk mdh
        walk_at "m_steps"
        unfold Stop
        k_dflt (refine hlen_spec (vs := es) (memOf3 (.head _)) (memOf3 (.tail _ (.head _))) (memOf3 (.tail _ (.tail _ (.head _)))) (by omega) _ _ _ _ _ _ _ _ _ _ _ _ _ _ _ _ _ (by k_asm) (by k_asm) (by k_asm) NB (by k_asm) (by first | exact rfl | assumption) (by walk_at "m_room0") ?_)
        rintro _ _ h5 tk5 ⟨rfl, t5, rfl⟩ F5 N5
        refine ⟨⟨by omega, by omega⟩, ?_⟩
        have NC := dropB N5
        clear N5 NB
        have hcl : cs.length ≤ 3 := by rw [hcs', List.length_take]; exact Nat.min_le_right _ _
        have hitC := (hoff _ (.tail _ (.head _))).symm
        dsimp only at hitC
        walk_at "m_steps"
        subst hP
        refine ForEnd.intro _ (by first | k_asm | assumption) (by first | k_asm | assumption) (fun p hp => hp) ?hne9 ⟨_, _, _, tbX, _, _, rfl, rfl, hTabX, fun _ => hFulX, hApX, hTC, h191, ?hc9, rfl, fun z a b c d => by simp [a, b, c, d]⟩
        case hc9 =>
          rw [cnt_at hsh]
          exact hcs.append (.cons ⟨_, by rw [hbl]⟩ .nil)
        case hne9 => exact List.forall_mem_cons.mpr ⟨hoff _ (.head _), List.forall_mem_cons.mpr ⟨hitC.symm, hOffX⟩⟩
end
end
end Mine
set_option maxRecDepth 100000 in
set_option maxHeartbeats 8000000 in
theorem PySem.Challenge.cw_un0042_01_holds : PySem.Challenge.rw_un0042_01.Holds := by
  exact Mine.cw0
