import PyProof.Rows.All
import Wide.All
import OpenK.AllK
import Wide.FinOn
import Flt.RightMore
import PySem.Challenge.RW_xg0026_01
set_option Elab.async false
set_option rowWalk.seconds 0
section
open PySem PySem.W PyProof.Rows
set_option Elab.async false
set_option maxRecDepth 100000
namespace Mine
@[reducible] def pick {α : Type} {b : α} (a : α) (_ : b = a) : α := a
noncomputable def hd.st (i : Nat) : Stmt := (PySem.Challenge.pw_xg0026_01.main.body[i]?).getD (.Pass default)
noncomputable def hd.mt (c : Stmt) (i : Nat) : Stmt := match c with
  | .ClassDef _ _ _ b .. => (b[i]?).getD (.Pass default)
  | _ => .Pass default
noncomputable def hd.fo (st : Stmt) (f : Arguments → List Stmt → Scope → Obj) : Obj := match st with
  | .FunctionDef _ a b _ _ _ s _ _ _ => f a b s
  | _ => f ⟨[], [], none, [], [], none, []⟩ [] default
noncomputable def hd.s0 : Stmt := by
  apply pick (b := hd.st 0)
  conv => lhs; whnf
noncomputable def hd.s1 : Stmt := by
  apply pick (b := hd.st 1)
  conv => lhs; whnf
noncomputable def hd.s2 : Stmt := by
  apply pick (b := hd.st 2)
  conv => lhs; whnf
noncomputable def hd.s3 : Stmt := by
  apply pick (b := hd.st 3)
  conv => lhs; whnf
noncomputable def hd.s4 : Stmt := by
  apply pick (b := hd.st 4)
  conv => lhs; whnf
noncomputable def hd.s5 : Stmt := by
  apply pick (b := hd.st 5)
  conv => lhs; whnf
noncomputable def hd.s6 : Stmt := by
  apply pick (b := hd.st 6)
  conv => lhs; whnf
noncomputable def hd.s7 : Stmt := by
  apply pick (b := hd.st 7)
  conv => lhs; whnf
noncomputable def hd.s8 : Stmt := by
  apply pick (b := hd.st 8)
  conv => lhs; whnf
noncomputable def hd.s9 : Stmt := by
  apply pick (b := hd.st 9)
  conv => lhs; whnf
noncomputable def hd.s10 : Stmt := by
  apply pick (b := hd.st 10)
  conv => lhs; whnf
noncomputable def hd.s11 : Stmt := by
  apply pick (b := hd.st 11)
  conv => lhs; whnf
noncomputable def hd.s12 : Stmt := by
  apply pick (b := hd.st 12)
  conv => lhs; whnf
noncomputable def hd.s13 : Stmt := by
  apply pick (b := hd.st 13)
  conv => lhs; whnf
noncomputable def hd.s14 : Stmt := by
  apply pick (b := hd.st 14)
  conv => lhs; whnf
noncomputable def hd.s15 : Stmt := by
  apply pick (b := hd.st 15)
  conv => lhs; whnf
noncomputable def hd.s16 : Stmt := by
  apply pick (b := hd.st 16)
  conv => lhs; whnf
noncomputable def hd.s17 : Stmt := by
  apply pick (b := hd.st 17)
  conv => lhs; whnf
noncomputable def hd.s18 : Stmt := by
  apply pick (b := hd.st 18)
  conv => lhs; whnf
noncomputable def hd.s19 : Stmt := by
  apply pick (b := hd.st 19)
  conv => lhs; whnf
noncomputable def hd.s20 : Stmt := by
  apply pick (b := hd.st 20)
  conv => lhs; whnf
noncomputable def hd.s21 : Stmt := by
  apply pick (b := hd.st 21)
  conv => lhs; whnf
noncomputable def hd.s22 : Stmt := by
  apply pick (b := hd.st 22)
  conv => lhs; whnf
noncomputable def hd.s23 : Stmt := by
  apply pick (b := hd.st 23)
  conv => lhs; whnf
noncomputable def hd.s24 : Stmt := by
  apply pick (b := hd.st 24)
  conv => lhs; whnf
noncomputable def hd.s25 : Stmt := by
  apply pick (b := hd.st 25)
  conv => lhs; whnf
noncomputable def hd.s26 : Stmt := by
  apply pick (b := hd.st 26)
  conv => lhs; whnf
noncomputable def hd.o21 : Obj := by
  apply pick (b := hd.fo hd.s1 fun a b s => PySem.Obj.mk (PySem.Value.type "function") (Option.none) (.func (PySem.FuncData.mk (PySem.Str.ofString "yiq_to_rgb") (PySem.Str.ofString "yiq_to_rgb") a (.stmts b) s 3 [] PySem.Value.none PySem.Value.none PySem.Value.none (PySem.Value.str (PySem.Str.ofString "cpy313.colorsys") 187) (Option.none) (PySem.Value.ref 20) PySem.Value.none 0)) #[])
  conv => lhs; whnf
noncomputable def hd.o65 : Obj := by
  apply pick (b := hd.fo hd.s6 fun a b s => PySem.Obj.mk (PySem.Value.type "function") (Option.none) (.func (PySem.FuncData.mk (PySem.Str.ofString "parse229") (PySem.Str.ofString "parse229") a (.stmts b) s 3 [] PySem.Value.none PySem.Value.none PySem.Value.none (PySem.Value.str (PySem.Str.ofString "cpy313.ftplib") 201) (Option.none) (PySem.Value.ref 64) PySem.Value.none 0)) #[])
  conv => lhs; whnf
noncomputable def hd.o79 : Obj := by
  apply pick (b := hd.fo (hd.mt hd.s8 0) fun a b s => PySem.Obj.mk (PySem.Value.type "function") (Option.none) (.func (PySem.FuncData.mk (PySem.Str.ofString "__init__") (PySem.Str.ofString "TupleComp.__init__") a (.stmts b) s 3 [] PySem.Value.none PySem.Value.none PySem.Value.none (PySem.Value.str (PySem.Str.ofString "cpy313.pstats") 268) (Option.none) (PySem.Value.ref 78) PySem.Value.none 0)) #[])
  conv => lhs; whnf
noncomputable def hd.o86 : Obj := by
  apply pick (b := hd.fo (hd.mt hd.s8 1) fun a b s => PySem.Obj.mk (PySem.Value.type "function") (Option.none) (.func (PySem.FuncData.mk (PySem.Str.ofString "compare") (PySem.Str.ofString "TupleComp.compare") a (.stmts b) s 3 [] PySem.Value.none PySem.Value.none PySem.Value.none (PySem.Value.str (PySem.Str.ofString "cpy313.pstats") 268) (Option.none) (PySem.Value.ref 85) PySem.Value.none 0)) #[])
  conv => lhs; whnf
noncomputable def hd.o100 : Obj := by
  apply pick (b := hd.fo hd.s9 fun a b s => PySem.Obj.mk (PySem.Value.type "function") (Option.none) (.func (PySem.FuncData.mk (PySem.Str.ofString "add_func_stats") (PySem.Str.ofString "add_func_stats") a (.stmts b) s 3 [] PySem.Value.none PySem.Value.none PySem.Value.none (PySem.Value.str (PySem.Str.ofString "cpy313.pstats") 268) (Option.none) (PySem.Value.ref 99) PySem.Value.none 0)) #[])
  conv => lhs; whnf
noncomputable def hd.o107 : Obj := by
  apply pick (b := hd.fo hd.s10 fun a b s => PySem.Obj.mk (PySem.Value.type "function") (Option.none) (.func (PySem.FuncData.mk (PySem.Str.ofString "add_callers") (PySem.Str.ofString "add_callers") a (.stmts b) s 3 [] PySem.Value.none PySem.Value.none PySem.Value.none (PySem.Value.str (PySem.Str.ofString "cpy313.pstats") 268) (Option.none) (PySem.Value.ref 106) PySem.Value.none 0)) #[])
  conv => lhs; whnf
noncomputable def hd.o114 : Obj := by
  apply pick (b := hd.fo hd.s11 fun a b s => PySem.Obj.mk (PySem.Value.type "function") (Option.none) (.func (PySem.FuncData.mk (PySem.Str.ofString "count_calls") (PySem.Str.ofString "count_calls") a (.stmts b) s 3 [] PySem.Value.none PySem.Value.none PySem.Value.none (PySem.Value.str (PySem.Str.ofString "cpy313.pstats") 268) (Option.none) (PySem.Value.ref 113) PySem.Value.none 0)) #[])
  conv => lhs; whnf
noncomputable def hd.o121 : Obj := by
  apply pick (b := hd.fo hd.s15 fun a b s => PySem.Obj.mk (PySem.Value.type "function") (Option.none) (.func (PySem.FuncData.mk (PySem.Str.ofString "ISNONTERMINAL") (PySem.Str.ofString "ISNONTERMINAL") a (.stmts b) s 3 [] PySem.Value.none PySem.Value.none PySem.Value.none (PySem.Value.str (PySem.Str.ofString "cpy313.token") 350) (Option.none) (PySem.Value.ref 120) PySem.Value.none 0)) #[])
  conv => lhs; whnf
noncomputable def hd.o128 : Obj := by
  apply pick (b := hd.fo hd.s16 fun a b s => PySem.Obj.mk (PySem.Value.type "function") (Option.none) (.func (PySem.FuncData.mk (PySem.Str.ofString "ISEOF") (PySem.Str.ofString "ISEOF") a (.stmts b) s 3 [] PySem.Value.none PySem.Value.none PySem.Value.none (PySem.Value.str (PySem.Str.ofString "cpy313.token") 350) (Option.none) (PySem.Value.ref 127) PySem.Value.none 0)) #[])
  conv => lhs; whnf
noncomputable def hd.o133 : Obj := by
  apply pick (b := hd.fo hd.s18 fun a b s => PySem.Obj.mk (PySem.Value.type "function") (Option.none) (.func (PySem.FuncData.mk (PySem.Str.ofString "_law_talk") (PySem.Str.ofString "_law_talk") a (.stmts b) s 3 [] PySem.Value.none PySem.Value.none PySem.Value.none (PySem.Value.str (PySem.Str.ofString "law_xg0026_01") 370) (Option.none) (PySem.Value.ref 132) PySem.Value.none 0)) #[])
  conv => lhs; whnf
noncomputable def hd.o140 : Obj := by
  apply pick (b := hd.fo hd.s19 fun a b s => PySem.Obj.mk (PySem.Value.type "function") (Option.none) (.func (PySem.FuncData.mk (PySem.Str.ofString "_law_reply") (PySem.Str.ofString "_law_reply") a (.stmts b) s 3 [] PySem.Value.none PySem.Value.none PySem.Value.none (PySem.Value.str (PySem.Str.ofString "law_xg0026_01") 370) (Option.none) (PySem.Value.ref 139) PySem.Value.none 0)) #[])
  conv => lhs; whnf
noncomputable def hd.o147 : Obj := by
  apply pick (b := hd.fo hd.s20 fun a b s => PySem.Obj.mk (PySem.Value.type "function") (Option.none) (.func (PySem.FuncData.mk (PySem.Str.ofString "_law_told") (PySem.Str.ofString "_law_told") a (.stmts b) s 3 [] PySem.Value.none PySem.Value.none PySem.Value.none (PySem.Value.str (PySem.Str.ofString "law_xg0026_01") 370) (Option.none) (PySem.Value.ref 146) PySem.Value.none 0)) #[])
  conv => lhs; whnf
noncomputable def hd.o154 : Obj := by
  apply pick (b := hd.fo hd.s21 fun a b s => PySem.Obj.mk (PySem.Value.type "function") (Option.none) (.func (PySem.FuncData.mk (PySem.Str.ofString "_law_row") (PySem.Str.ofString "_law_row") a (.stmts b) s 3 [] PySem.Value.none PySem.Value.none PySem.Value.none (PySem.Value.str (PySem.Str.ofString "law_xg0026_01") 370) (Option.none) (PySem.Value.ref 153) PySem.Value.none 0)) #[])
  conv => lhs; whnf
noncomputable def hd.o159 : Obj := by
  apply pick (b := hd.fo hd.s22 fun a b s => PySem.Obj.mk (PySem.Value.type "function") (Option.none) (.func (PySem.FuncData.mk (PySem.Str.ofString "_law_due") (PySem.Str.ofString "_law_due") a (.stmts b) s 3 [] PySem.Value.none PySem.Value.none PySem.Value.none (PySem.Value.str (PySem.Str.ofString "law_xg0026_01") 370) (Option.none) (PySem.Value.ref 158) PySem.Value.none 0)) #[])
  conv => lhs; whnf
noncomputable def hd.o166 : Obj := by
  apply pick (b := hd.fo hd.s23 fun a b s => PySem.Obj.mk (PySem.Value.type "function") (Option.none) (.func (PySem.FuncData.mk (PySem.Str.ofString "_law_cut") (PySem.Str.ofString "_law_cut") a (.stmts b) s 3 [] PySem.Value.none PySem.Value.none PySem.Value.none (PySem.Value.str (PySem.Str.ofString "law_xg0026_01") 370) (Option.none) (PySem.Value.ref 165) PySem.Value.none 0)) #[])
  conv => lhs; whnf
noncomputable def hd.o173 : Obj := by
  apply pick (b := hd.fo hd.s24 fun a b s => PySem.Obj.mk (PySem.Value.type "function") (Option.none) (.func (PySem.FuncData.mk (PySem.Str.ofString "_law_sum") (PySem.Str.ofString "_law_sum") a (.stmts b) s 3 [] PySem.Value.none PySem.Value.none PySem.Value.none (PySem.Value.str (PySem.Str.ofString "law_xg0026_01") 370) (Option.none) (PySem.Value.ref 172) PySem.Value.none 0)) #[])
  conv => lhs; whnf
noncomputable def hd.o178 : Obj := by
  apply pick (b := hd.fo hd.s25 fun a b s => PySem.Obj.mk (PySem.Value.type "function") (Option.none) (.func (PySem.FuncData.mk (PySem.Str.ofString "_law_in_order") (PySem.Str.ofString "_law_in_order") a (.stmts b) s 3 [] PySem.Value.none PySem.Value.none PySem.Value.none (PySem.Value.str (PySem.Str.ofString "law_xg0026_01") 370) (Option.none) (PySem.Value.ref 177) PySem.Value.none 0)) #[])
  conv => lhs; whnf
noncomputable def hd.o183 : Obj := by
  apply pick (b := hd.fo hd.s26 fun a b s => PySem.Obj.mk (PySem.Value.type "function") (Option.none) (.func (PySem.FuncData.mk (PySem.Str.ofString "law") (PySem.Str.ofString "law") a (.stmts b) s 3 [] PySem.Value.none PySem.Value.none PySem.Value.none (PySem.Value.str (PySem.Str.ofString "law_xg0026_01") 370) (Option.none) (PySem.Value.ref 182) PySem.Value.none 0)) #[])
  conv => lhs; whnf
noncomputable def hd.heap_39 : Params → Frag := fun P =>
  ((nat_lit 2 : Nat), (PySem.Obj.mk PySem.Value.none (Option.none) (PySem.Data.dict #[(PySem.DictEntry.mk (PySem.PyData.keyHash P (PySem.Str.ofString "type.__subclasses__.Exception.0")) (PySem.Value.str (PySem.Str.ofString "type.__subclasses__.Exception.0") 219) (PySem.Value.int 31 0)), (PySem.DictEntry.mk (PySem.PyData.keyHash P (PySem.Str.ofString "type.__subclasses__.Exception.n")) (PySem.Value.str (PySem.Str.ofString "type.__subclasses__.Exception.n") 220) (PySem.Value.int 1 0))] 2) #[])) ::
  ((nat_lit 3 : Nat), (PySem.Obj.mk (PySem.Value.type "dict") (Option.none) (PySem.Data.dict #[(PySem.DictEntry.mk (PySem.PyData.keyHash P (PySem.Str.ofString "__name__")) (PySem.Value.str (PySem.Str.ofString "__name__") 165) (PySem.Value.str (PySem.Str.ofString "law_xg0026_01") 370)), (PySem.DictEntry.mk (PySem.PyData.keyHash P (PySem.Str.ofString "__doc__")) (PySem.Value.str (PySem.Str.ofString "__doc__") 166) PySem.Value.none), (PySem.DictEntry.mk (PySem.PyData.keyHash P (PySem.Str.ofString "__package__")) (PySem.Value.str (PySem.Str.ofString "__package__") 167) PySem.Value.none), (PySem.DictEntry.mk (PySem.PyData.keyHash P (PySem.Str.ofString "__loader__")) (PySem.Value.str (PySem.Str.ofString "__loader__") 168) (PySem.Value.builtin "__main__.__loader__#opaque")), (PySem.DictEntry.mk (PySem.PyData.keyHash P (PySem.Str.ofString "__spec__")) (PySem.Value.str (PySem.Str.ofString "__spec__") 169) PySem.Value.none), (PySem.DictEntry.mk (PySem.PyData.keyHash P (PySem.Str.ofString "__annotations__")) (PySem.Value.str (PySem.Str.ofString "__annotations__") 170) (PySem.Value.ref 6)), (PySem.DictEntry.mk (PySem.PyData.keyHash P (PySem.Str.ofString "__builtins__")) (PySem.Value.str (PySem.Str.ofString "__builtins__") 171) (PySem.Value.ref 4)), (PySem.DictEntry.mk (PySem.PyData.keyHash P (PySem.Str.ofString "__file__")) (PySem.Value.str (PySem.Str.ofString "__file__") 173) (PySem.Value.str (PySem.Str.ofString "/claim/cut.py") 172)), (PySem.DictEntry.mk (PySem.PyData.keyHash P (PySem.Str.ofString "__cached__")) (PySem.Value.str (PySem.Str.ofString "__cached__") 174) PySem.Value.none), (PySem.DictEntry.mk (PySem.PyData.keyHash P (PySem.Str.ofString "yiq_to_rgb")) (PySem.Value.str (PySem.Str.ofString "yiq_to_rgb") 200) (PySem.Value.ref 21)), (PySem.DictEntry.mk (PySem.PyData.keyHash P (PySem.Str.ofString "Error")) (PySem.Value.str (PySem.Str.ofString "Error") 222) (PySem.Value.ref 31)), (PySem.DictEntry.mk (PySem.PyData.keyHash P (PySem.Str.ofString "error_reply")) (PySem.Value.str (PySem.Str.ofString "error_reply") 238) (PySem.Value.ref 44)), (PySem.DictEntry.mk (PySem.PyData.keyHash P (PySem.Str.ofString "error_proto")) (PySem.Value.str (PySem.Str.ofString "error_proto") 254) (PySem.Value.ref 56)), (PySem.DictEntry.mk (PySem.PyData.keyHash P (PySem.Str.ofString "parse229")) (PySem.Value.str (PySem.Str.ofString "parse229") 267) (PySem.Value.ref 65)), (PySem.DictEntry.mk (PySem.PyData.keyHash P (PySem.Str.ofString "TupleComp")) (PySem.Value.str (PySem.Str.ofString "TupleComp") 311) (PySem.Value.ref 89)), (PySem.DictEntry.mk (PySem.PyData.keyHash P (PySem.Str.ofString "add_func_stats")) (PySem.Value.str (PySem.Str.ofString "add_func_stats") 329) (PySem.Value.ref 100)), (PySem.DictEntry.mk (PySem.PyData.keyHash P (PySem.Str.ofString "add_callers")) (PySem.Value.str (PySem.Str.ofString "add_callers") 340) (PySem.Value.ref 107)), (PySem.DictEntry.mk (PySem.PyData.keyHash P (PySem.Str.ofString "count_calls")) (PySem.Value.str (PySem.Str.ofString "count_calls") 349) (PySem.Value.ref 114)), (PySem.DictEntry.mk (PySem.PyData.keyHash P (PySem.Str.ofString "ENDMARKER")) (PySem.Value.str (PySem.Str.ofString "ENDMARKER") 353) (PySem.Value.int 0 352)), (PySem.DictEntry.mk (PySem.PyData.keyHash P (PySem.Str.ofString "NT_OFFSET")) (PySem.Value.str (PySem.Str.ofString "NT_OFFSET") 355) (PySem.Value.int 256 354)), (PySem.DictEntry.mk (PySem.PyData.keyHash P (PySem.Str.ofString "ISNONTERMINAL")) (PySem.Value.str (PySem.Str.ofString "ISNONTERMINAL") 362) (PySem.Value.ref 121)), (PySem.DictEntry.mk (PySem.PyData.keyHash P (PySem.Str.ofString "ISEOF")) (PySem.Value.str (PySem.Str.ofString "ISEOF") 369) (PySem.Value.ref 128)), (PySem.DictEntry.mk (PySem.PyData.keyHash P (PySem.Str.ofString "_law_talk")) (PySem.Value.str (PySem.Str.ofString "_law_talk") 377) (PySem.Value.ref 133)), (PySem.DictEntry.mk (PySem.PyData.keyHash P (PySem.Str.ofString "_law_reply")) (PySem.Value.str (PySem.Str.ofString "_law_reply") 386) (PySem.Value.ref 140)), (PySem.DictEntry.mk (PySem.PyData.keyHash P (PySem.Str.ofString "_law_told")) (PySem.Value.str (PySem.Str.ofString "_law_told") 394) (PySem.Value.ref 147)), (PySem.DictEntry.mk (PySem.PyData.keyHash P (PySem.Str.ofString "_law_row")) (PySem.Value.str (PySem.Str.ofString "_law_row") 402) (PySem.Value.ref 154)), (PySem.DictEntry.mk (PySem.PyData.keyHash P (PySem.Str.ofString "_law_due")) (PySem.Value.str (PySem.Str.ofString "_law_due") 408) (PySem.Value.ref 159)), (PySem.DictEntry.mk (PySem.PyData.keyHash P (PySem.Str.ofString "_law_cut")) (PySem.Value.str (PySem.Str.ofString "_law_cut") 415) (PySem.Value.ref 166)), (PySem.DictEntry.mk (PySem.PyData.keyHash P (PySem.Str.ofString "_law_sum")) (PySem.Value.str (PySem.Str.ofString "_law_sum") 427) (PySem.Value.ref 173)), (PySem.DictEntry.mk (PySem.PyData.keyHash P (PySem.Str.ofString "_law_in_order")) (PySem.Value.str (PySem.Str.ofString "_law_in_order") 433) (PySem.Value.ref 178)), (PySem.DictEntry.mk (PySem.PyData.keyHash P (PySem.Str.ofString "law")) (PySem.Value.str (PySem.Str.ofString "law") 439) (PySem.Value.ref 183))] 31) #[])) ::
  ((nat_lit 15 : Nat), (PySem.Obj.mk (PySem.Value.type "tuple") (Option.none) (PySem.Data.seq #[] 0) #[])) ::
  ((nat_lit 17 : Nat), (PySem.Obj.mk (PySem.Value.type "tuple") (Option.none) (PySem.Data.seq #[(PySem.Value.str (PySem.Str.ofString "y") 192), (PySem.Value.str (PySem.Str.ofString "i") 193), (PySem.Value.str (PySem.Str.ofString "q") 194), (PySem.Value.str (PySem.Str.ofString "r") 195), (PySem.Value.str (PySem.Str.ofString "g") 196), (PySem.Value.str (PySem.Str.ofString "b") 197)] 0) #[])) ::
  ((nat_lit 18 : Nat), (PySem.Obj.mk (PySem.Value.type "tuple") (Option.none) (PySem.Data.seq #[] 0) #[])) ::
  ((nat_lit 20 : Nat), (PySem.Obj.mk (PySem.Value.type "code") (Option.none) (PySem.Data.fields #[(PySem.Value.str (PySem.Str.ofString "yiq_to_rgb") 189), (PySem.Value.str (PySem.Str.ofString "yiq_to_rgb") 190), (PySem.Value.str (PySem.Str.ofString "/claim/cut.py") 191), (PySem.Value.int 2 0), (PySem.Value.int 3 0), (PySem.Value.int 0 0), (PySem.Value.int 0 0), (PySem.Value.int 3 0), (PySem.Value.ref 15), (PySem.Value.bool Bool.true), (PySem.Value.int 181 0), (PySem.Value.ref 16), PySem.Value.none, (PySem.Value.ref 17), (PySem.Value.ref 18), (PySem.Value.ref 19), (PySem.Value.int 198 0), (PySem.Value.int 2 0), (PySem.Value.str (PySem.Str.ofString "/claim/cut.py") 199)]) #[])) ::
  ((nat_lit 21 : Nat), hd.o21) ::
  ((nat_lit 22 : Nat), (PySem.Obj.mk (PySem.Value.type "tuple") (Option.none) (PySem.Data.seq #[(PySem.Value.type "Exception")] 0) #[])) ::
  ((nat_lit 29 : Nat), (PySem.Obj.mk (PySem.Value.type "tuple") (Option.none) (PySem.Data.seq #[] 0) #[])) ::
  ((nat_lit 30 : Nat), (PySem.Obj.mk (PySem.Value.type "dict") (Option.none) (PySem.Data.dict #[(PySem.DictEntry.mk (PySem.PyData.keyHash P (PySem.Str.ofString "__module__")) (PySem.Value.str (PySem.Str.ofString "__module__") 210) (PySem.Value.str (PySem.Str.ofString "cpy313.ftplib") 201)), (PySem.DictEntry.mk (PySem.PyData.keyHash P (PySem.Str.ofString "__firstlineno__")) (PySem.Value.str (PySem.Str.ofString "__firstlineno__") 214) (PySem.Value.int 20 213)), (PySem.DictEntry.mk (PySem.PyData.keyHash P (PySem.Str.ofString "__static_attributes__")) (PySem.Value.str (PySem.Str.ofString "__static_attributes__") 215) (PySem.Value.ref 29)), (PySem.DictEntry.mk (PySem.PyData.keyHash P (PySem.Str.ofString "__weakref__")) (PySem.Value.str (PySem.Str.ofString "__weakref__") 217) (PySem.Value.ref 32)), (PySem.DictEntry.mk (PySem.PyData.keyHash P (PySem.Str.ofString "__doc__")) (PySem.Value.str (PySem.Str.ofString "__doc__") 218) PySem.Value.none)] 3) #[])) ::
  ((nat_lit 31 : Nat), (PySem.Obj.mk (PySem.Value.type "type") (Option.none) (PySem.Data.cls (PySem.ClassData.mk (PySem.Str.ofString "Error") [(PySem.Value.type "Exception")] [(PySem.Value.ref 31), (PySem.Value.type "Exception"), (PySem.Value.type "BaseException"), (PySem.Value.type "object")] 30 (PySem.Str.ofString "Error") Bool.true [] [(PySem.Value.ref 44), (PySem.Value.ref 56)] Bool.false (Option.none) Bool.false)) #[(Option.some (PySem.Value.ref 22)), (Option.none), (Option.some (PySem.Value.str (PySem.Str.ofString "Error") 203)), (Option.some (PySem.Value.str (PySem.Str.ofString "Error") 211)), (Option.some (PySem.Value.builtin "Exception.__new__")), (Option.some (PySem.Value.bool Bool.true))])) ::
  ((nat_lit 32 : Nat), (PySem.Obj.mk (PySem.Value.type "getset_descriptor") (Option.none) (PySem.Data.fields #[(PySem.Value.str (PySem.Str.ofString "__weakref__") 216), (PySem.Value.ref 31), (PySem.Value.builtin "ExceptionGroup.__weakref__"), PySem.Value.none]) #[])) ::
  ((nat_lit 35 : Nat), (PySem.Obj.mk (PySem.Value.type "tuple") (Option.none) (PySem.Data.seq #[(PySem.Value.ref 31)] 0) #[])) ::
  ((nat_lit 42 : Nat), (PySem.Obj.mk (PySem.Value.type "tuple") (Option.none) (PySem.Data.seq #[] 0) #[])) ::
  ((nat_lit 43 : Nat), (PySem.Obj.mk (PySem.Value.type "dict") (Option.none) (PySem.Data.dict #[(PySem.DictEntry.mk (PySem.PyData.keyHash P (PySem.Str.ofString "__module__")) (PySem.Value.str (PySem.Str.ofString "__module__") 230) (PySem.Value.str (PySem.Str.ofString "cpy313.ftplib") 201)), (PySem.DictEntry.mk (PySem.PyData.keyHash P (PySem.Str.ofString "__firstlineno__")) (PySem.Value.str (PySem.Str.ofString "__firstlineno__") 234) (PySem.Value.int 22 233)), (PySem.DictEntry.mk (PySem.PyData.keyHash P (PySem.Str.ofString "__static_attributes__")) (PySem.Value.str (PySem.Str.ofString "__static_attributes__") 235) (PySem.Value.ref 42)), (PySem.DictEntry.mk (PySem.PyData.keyHash P (PySem.Str.ofString "__doc__")) (PySem.Value.str (PySem.Str.ofString "__doc__") 236) PySem.Value.none)] 2) #[])) ::
  ((nat_lit 44 : Nat), (PySem.Obj.mk (PySem.Value.type "type") (Option.none) (PySem.Data.cls (PySem.ClassData.mk (PySem.Str.ofString "error_reply") [(PySem.Value.ref 31)] [(PySem.Value.ref 44), (PySem.Value.ref 31), (PySem.Value.type "Exception"), (PySem.Value.type "BaseException"), (PySem.Value.type "object")] 43 (PySem.Str.ofString "error_reply") Bool.true [] [] Bool.false (Option.none) Bool.false)) #[(Option.some (PySem.Value.ref 35)), (Option.none), (Option.some (PySem.Value.str (PySem.Str.ofString "error_reply") 223)), (Option.some (PySem.Value.str (PySem.Str.ofString "error_reply") 231)), (Option.some (PySem.Value.builtin "Exception.__new__")), (Option.some (PySem.Value.bool Bool.true))])) ::
  ((nat_lit 47 : Nat), (PySem.Obj.mk (PySem.Value.type "tuple") (Option.none) (PySem.Data.seq #[(PySem.Value.ref 31)] 0) #[])) ::
  ((nat_lit 54 : Nat), (PySem.Obj.mk (PySem.Value.type "tuple") (Option.none) (PySem.Data.seq #[] 0) #[])) ::
  ((nat_lit 55 : Nat), (PySem.Obj.mk (PySem.Value.type "dict") (Option.none) (PySem.Data.dict #[(PySem.DictEntry.mk (PySem.PyData.keyHash P (PySem.Str.ofString "__module__")) (PySem.Value.str (PySem.Str.ofString "__module__") 246) (PySem.Value.str (PySem.Str.ofString "cpy313.ftplib") 201)), (PySem.DictEntry.mk (PySem.PyData.keyHash P (PySem.Str.ofString "__firstlineno__")) (PySem.Value.str (PySem.Str.ofString "__firstlineno__") 250) (PySem.Value.int 24 249)), (PySem.DictEntry.mk (PySem.PyData.keyHash P (PySem.Str.ofString "__static_attributes__")) (PySem.Value.str (PySem.Str.ofString "__static_attributes__") 251) (PySem.Value.ref 54)), (PySem.DictEntry.mk (PySem.PyData.keyHash P (PySem.Str.ofString "__doc__")) (PySem.Value.str (PySem.Str.ofString "__doc__") 252) PySem.Value.none)] 2) #[])) ::
  ((nat_lit 56 : Nat), (PySem.Obj.mk (PySem.Value.type "type") (Option.none) (PySem.Data.cls (PySem.ClassData.mk (PySem.Str.ofString "error_proto") [(PySem.Value.ref 31)] [(PySem.Value.ref 56), (PySem.Value.ref 31), (PySem.Value.type "Exception"), (PySem.Value.type "BaseException"), (PySem.Value.type "object")] 55 (PySem.Str.ofString "error_proto") Bool.true [] [] Bool.false (Option.none) Bool.false)) #[(Option.some (PySem.Value.ref 47)), (Option.none), (Option.some (PySem.Value.str (PySem.Str.ofString "error_proto") 239)), (Option.some (PySem.Value.str (PySem.Str.ofString "error_proto") 247)), (Option.some (PySem.Value.builtin "Exception.__new__")), (Option.some (PySem.Value.bool Bool.true))])) ::
  ((nat_lit 59 : Nat), (PySem.Obj.mk (PySem.Value.type "tuple") (Option.none) (PySem.Data.seq #[] 0) #[])) ::
  ((nat_lit 61 : Nat), (PySem.Obj.mk (PySem.Value.type "tuple") (Option.none) (PySem.Data.seq #[(PySem.Value.str (PySem.Str.ofString "resp") 258), (PySem.Value.str (PySem.Str.ofString "peer") 259), (PySem.Value.str (PySem.Str.ofString "left") 260), (PySem.Value.str (PySem.Str.ofString "right") 261), (PySem.Value.str (PySem.Str.ofString "parts") 262), (PySem.Value.str (PySem.Str.ofString "host") 263), (PySem.Value.str (PySem.Str.ofString "port") 264)] 0) #[])) ::
  ((nat_lit 62 : Nat), (PySem.Obj.mk (PySem.Value.type "tuple") (Option.none) (PySem.Data.seq #[] 0) #[])) ::
  ((nat_lit 64 : Nat), (PySem.Obj.mk (PySem.Value.type "code") (Option.none) (PySem.Data.fields #[(PySem.Value.str (PySem.Str.ofString "parse229") 255), (PySem.Value.str (PySem.Str.ofString "parse229") 256), (PySem.Value.str (PySem.Str.ofString "/claim/cut.py") 257), (PySem.Value.int 26 0), (PySem.Value.int 2 0), (PySem.Value.int 0 0), (PySem.Value.int 0 0), (PySem.Value.int 3 0), (PySem.Value.ref 59), (PySem.Value.bool Bool.true), (PySem.Value.int 181 0), (PySem.Value.ref 60), PySem.Value.none, (PySem.Value.ref 61), (PySem.Value.ref 62), (PySem.Value.ref 63), (PySem.Value.int 265 0), (PySem.Value.int 26 0), (PySem.Value.str (PySem.Str.ofString "/claim/cut.py") 266)]) #[])) ::
  ((nat_lit 65 : Nat), hd.o65) ::
  ((nat_lit 73 : Nat), (PySem.Obj.mk (PySem.Value.type "tuple") (Option.none) (PySem.Data.seq #[] 0) #[])) ::
  ((nat_lit 75 : Nat), (PySem.Obj.mk (PySem.Value.type "tuple") (Option.none) (PySem.Data.seq #[(PySem.Value.str (PySem.Str.ofString "self") 285), (PySem.Value.str (PySem.Str.ofString "comp_select_list") 286)] 0) #[])) ::
  ((nat_lit 76 : Nat), (PySem.Obj.mk (PySem.Value.type "tuple") (Option.none) (PySem.Data.seq #[] 0) #[])) ::
  ((nat_lit 78 : Nat), (PySem.Obj.mk (PySem.Value.type "code") (Option.none) (PySem.Data.fields #[(PySem.Value.str (PySem.Str.ofString "__init__") 282), (PySem.Value.str (PySem.Str.ofString "TupleComp.__init__") 283), (PySem.Value.str (PySem.Str.ofString "/claim/cut.py") 284), (PySem.Value.int 46 0), (PySem.Value.int 2 0), (PySem.Value.int 0 0), (PySem.Value.int 0 0), (PySem.Value.int 3 0), (PySem.Value.ref 73), (PySem.Value.bool Bool.true), (PySem.Value.int 181 0), (PySem.Value.ref 74), PySem.Value.none, (PySem.Value.ref 75), (PySem.Value.ref 76), (PySem.Value.ref 77), (PySem.Value.int 287 0), (PySem.Value.int 46 0), (PySem.Value.str (PySem.Str.ofString "/claim/cut.py") 288)]) #[])) ::
  ((nat_lit 79 : Nat), hd.o79) ::
  ((nat_lit 80 : Nat), (PySem.Obj.mk (PySem.Value.type "tuple") (Option.none) (PySem.Data.seq #[] 0) #[])) ::
  ((nat_lit 82 : Nat), (PySem.Obj.mk (PySem.Value.type "tuple") (Option.none) (PySem.Data.seq #[(PySem.Value.str (PySem.Str.ofString "self") 293), (PySem.Value.str (PySem.Str.ofString "left") 294), (PySem.Value.str (PySem.Str.ofString "right") 295), (PySem.Value.str (PySem.Str.ofString "index") 296), (PySem.Value.str (PySem.Str.ofString "direction") 297), (PySem.Value.str (PySem.Str.ofString "l") 298), (PySem.Value.str (PySem.Str.ofString "r") 299)] 0) #[])) ::
  ((nat_lit 83 : Nat), (PySem.Obj.mk (PySem.Value.type "tuple") (Option.none) (PySem.Data.seq #[] 0) #[])) ::
  ((nat_lit 85 : Nat), (PySem.Obj.mk (PySem.Value.type "code") (Option.none) (PySem.Data.fields #[(PySem.Value.str (PySem.Str.ofString "compare") 290), (PySem.Value.str (PySem.Str.ofString "TupleComp.compare") 291), (PySem.Value.str (PySem.Str.ofString "/claim/cut.py") 292), (PySem.Value.int 49 0), (PySem.Value.int 3 0), (PySem.Value.int 0 0), (PySem.Value.int 0 0), (PySem.Value.int 3 0), (PySem.Value.ref 80), (PySem.Value.bool Bool.true), (PySem.Value.int 181 0), (PySem.Value.ref 81), PySem.Value.none, (PySem.Value.ref 82), (PySem.Value.ref 83), (PySem.Value.ref 84), (PySem.Value.int 300 0), (PySem.Value.int 49 0), (PySem.Value.str (PySem.Str.ofString "/claim/cut.py") 301)]) #[])) ::
  ((nat_lit 86 : Nat), hd.o86) ::
  ((nat_lit 87 : Nat), (PySem.Obj.mk (PySem.Value.type "tuple") (Option.none) (PySem.Data.seq #[(PySem.Value.str (PySem.Str.ofString "comp_select_list") 303)] 0) #[])) ::
  ((nat_lit 88 : Nat), (PySem.Obj.mk (PySem.Value.type "dict") (Option.none) (PySem.Data.dict #[(PySem.DictEntry.mk (PySem.PyData.keyHash P (PySem.Str.ofString "__module__")) (PySem.Value.str (PySem.Str.ofString "__module__") 277) (PySem.Value.str (PySem.Str.ofString "cpy313.pstats") 268)), (PySem.DictEntry.mk (PySem.PyData.keyHash P (PySem.Str.ofString "__firstlineno__")) (PySem.Value.str (PySem.Str.ofString "__firstlineno__") 281) (PySem.Value.int 44 280)), (PySem.DictEntry.mk (PySem.PyData.keyHash P (PySem.Str.ofString "__init__")) (PySem.Value.str (PySem.Str.ofString "__init__") 289) (PySem.Value.ref 79)), (PySem.DictEntry.mk (PySem.PyData.keyHash P (PySem.Str.ofString "compare")) (PySem.Value.str (PySem.Str.ofString "compare") 302) (PySem.Value.ref 86)), (PySem.DictEntry.mk (PySem.PyData.keyHash P (PySem.Str.ofString "__static_attributes__")) (PySem.Value.str (PySem.Str.ofString "__static_attributes__") 304) (PySem.Value.ref 87)), (PySem.DictEntry.mk (PySem.PyData.keyHash P (PySem.Str.ofString "__dict__")) (PySem.Value.str (PySem.Str.ofString "__dict__") 306) (PySem.Value.ref 90)), (PySem.DictEntry.mk (PySem.PyData.keyHash P (PySem.Str.ofString "__weakref__")) (PySem.Value.str (PySem.Str.ofString "__weakref__") 308) (PySem.Value.ref 91)), (PySem.DictEntry.mk (PySem.PyData.keyHash P (PySem.Str.ofString "__doc__")) (PySem.Value.str (PySem.Str.ofString "__doc__") 309) PySem.Value.none)] 4) #[])) ::
  ((nat_lit 89 : Nat), (PySem.Obj.mk (PySem.Value.type "type") (Option.none) (PySem.Data.cls (PySem.ClassData.mk (PySem.Str.ofString "TupleComp") [(PySem.Value.type "object")] [(PySem.Value.ref 89), (PySem.Value.type "object")] 88 (PySem.Str.ofString "TupleComp") Bool.true [] [] Bool.false (Option.none) Bool.false)) #[(Option.none), (Option.none), (Option.some (PySem.Value.str (PySem.Str.ofString "TupleComp") 270)), (Option.some (PySem.Value.str (PySem.Str.ofString "TupleComp") 278)), (Option.some (PySem.Value.builtin "object.__new__")), (Option.some (PySem.Value.bool Bool.true))])) ::
  ((nat_lit 90 : Nat), (PySem.Obj.mk (PySem.Value.type "getset_descriptor") (Option.none) (PySem.Data.fields #[(PySem.Value.str (PySem.Str.ofString "__dict__") 305), (PySem.Value.ref 89), (PySem.Value.builtin "function.__dict__"), (PySem.Value.builtin "function.__dict__#set")]) #[])) ::
  ((nat_lit 91 : Nat), (PySem.Obj.mk (PySem.Value.type "getset_descriptor") (Option.none) (PySem.Data.fields #[(PySem.Value.str (PySem.Str.ofString "__weakref__") 307), (PySem.Value.ref 89), (PySem.Value.builtin "ExceptionGroup.__weakref__"), PySem.Value.none]) #[])) ::
  ((nat_lit 94 : Nat), (PySem.Obj.mk (PySem.Value.type "tuple") (Option.none) (PySem.Data.seq #[] 0) #[])) ::
  ((nat_lit 96 : Nat), (PySem.Obj.mk (PySem.Value.type "tuple") (Option.none) (PySem.Data.seq #[(PySem.Value.str (PySem.Str.ofString "target") 315), (PySem.Value.str (PySem.Str.ofString "source") 316), (PySem.Value.str (PySem.Str.ofString "cc") 317), (PySem.Value.str (PySem.Str.ofString "nc") 318), (PySem.Value.str (PySem.Str.ofString "tt") 319), (PySem.Value.str (PySem.Str.ofString "ct") 320), (PySem.Value.str (PySem.Str.ofString "callers") 321), (PySem.Value.str (PySem.Str.ofString "t_cc") 322), (PySem.Value.str (PySem.Str.ofString "t_nc") 323), (PySem.Value.str (PySem.Str.ofString "t_tt") 324), (PySem.Value.str (PySem.Str.ofString "t_ct") 325), (PySem.Value.str (PySem.Str.ofString "t_callers") 326)] 0) #[])) ::
  ((nat_lit 97 : Nat), (PySem.Obj.mk (PySem.Value.type "tuple") (Option.none) (PySem.Data.seq #[] 0) #[])) ::
  ((nat_lit 99 : Nat), (PySem.Obj.mk (PySem.Value.type "code") (Option.none) (PySem.Data.fields #[(PySem.Value.str (PySem.Str.ofString "add_func_stats") 312), (PySem.Value.str (PySem.Str.ofString "add_func_stats") 313), (PySem.Value.str (PySem.Str.ofString "/claim/cut.py") 314), (PySem.Value.int 58 0), (PySem.Value.int 2 0), (PySem.Value.int 0 0), (PySem.Value.int 0 0), (PySem.Value.int 3 0), (PySem.Value.ref 94), (PySem.Value.bool Bool.true), (PySem.Value.int 181 0), (PySem.Value.ref 95), PySem.Value.none, (PySem.Value.ref 96), (PySem.Value.ref 97), (PySem.Value.ref 98), (PySem.Value.int 327 0), (PySem.Value.int 58 0), (PySem.Value.str (PySem.Str.ofString "/claim/cut.py") 328)]) #[])) ::
  ((nat_lit 100 : Nat), hd.o100) ::
  ((nat_lit 101 : Nat), (PySem.Obj.mk (PySem.Value.type "tuple") (Option.none) (PySem.Data.seq #[] 0) #[])) ::
  ((nat_lit 103 : Nat), (PySem.Obj.mk (PySem.Value.type "tuple") (Option.none) (PySem.Data.seq #[(PySem.Value.str (PySem.Str.ofString "target") 333), (PySem.Value.str (PySem.Str.ofString "source") 334), (PySem.Value.str (PySem.Str.ofString "new_callers") 335), (PySem.Value.str (PySem.Str.ofString "func") 336), (PySem.Value.str (PySem.Str.ofString "caller") 337)] 0) #[])) ::
  ((nat_lit 104 : Nat), (PySem.Obj.mk (PySem.Value.type "tuple") (Option.none) (PySem.Data.seq #[] 0) #[])) ::
  ((nat_lit 106 : Nat), (PySem.Obj.mk (PySem.Value.type "code") (Option.none) (PySem.Data.fields #[(PySem.Value.str (PySem.Str.ofString "add_callers") 330), (PySem.Value.str (PySem.Str.ofString "add_callers") 331), (PySem.Value.str (PySem.Str.ofString "/claim/cut.py") 332), (PySem.Value.int 62 0), (PySem.Value.int 2 0), (PySem.Value.int 0 0), (PySem.Value.int 0 0), (PySem.Value.int 3 0), (PySem.Value.ref 101), (PySem.Value.bool Bool.true), (PySem.Value.int 181 0), (PySem.Value.ref 102), PySem.Value.none, (PySem.Value.ref 103), (PySem.Value.ref 104), (PySem.Value.ref 105), (PySem.Value.int 338 0), (PySem.Value.int 62 0), (PySem.Value.str (PySem.Str.ofString "/claim/cut.py") 339)]) #[])) ::
  ((nat_lit 107 : Nat), hd.o107) ::
  ((nat_lit 108 : Nat), (PySem.Obj.mk (PySem.Value.type "tuple") (Option.none) (PySem.Data.seq #[] 0) #[])) ::
  ((nat_lit 110 : Nat), (PySem.Obj.mk (PySem.Value.type "tuple") (Option.none) (PySem.Data.seq #[(PySem.Value.str (PySem.Str.ofString "callers") 344), (PySem.Value.str (PySem.Str.ofString "nc") 345), (PySem.Value.str (PySem.Str.ofString "calls") 346)] 0) #[])) ::
  ((nat_lit 111 : Nat), (PySem.Obj.mk (PySem.Value.type "tuple") (Option.none) (PySem.Data.seq #[] 0) #[])) ::
  ((nat_lit 113 : Nat), (PySem.Obj.mk (PySem.Value.type "code") (Option.none) (PySem.Data.fields #[(PySem.Value.str (PySem.Str.ofString "count_calls") 341), (PySem.Value.str (PySem.Str.ofString "count_calls") 342), (PySem.Value.str (PySem.Str.ofString "/claim/cut.py") 343), (PySem.Value.int 75 0), (PySem.Value.int 1 0), (PySem.Value.int 0 0), (PySem.Value.int 0 0), (PySem.Value.int 3 0), (PySem.Value.ref 108), (PySem.Value.bool Bool.true), (PySem.Value.int 181 0), (PySem.Value.ref 109), PySem.Value.none, (PySem.Value.ref 110), (PySem.Value.ref 111), (PySem.Value.ref 112), (PySem.Value.int 347 0), (PySem.Value.int 75 0), (PySem.Value.str (PySem.Str.ofString "/claim/cut.py") 348)]) #[])) ::
  ((nat_lit 114 : Nat), hd.o114) ::
  ((nat_lit 115 : Nat), (PySem.Obj.mk (PySem.Value.type "tuple") (Option.none) (PySem.Data.seq #[] 0) #[])) ::
  ((nat_lit 117 : Nat), (PySem.Obj.mk (PySem.Value.type "tuple") (Option.none) (PySem.Data.seq #[(PySem.Value.str (PySem.Str.ofString "x") 359)] 0) #[])) ::
  ((nat_lit 118 : Nat), (PySem.Obj.mk (PySem.Value.type "tuple") (Option.none) (PySem.Data.seq #[] 0) #[])) ::
  ((nat_lit 120 : Nat), (PySem.Obj.mk (PySem.Value.type "code") (Option.none) (PySem.Data.fields #[(PySem.Value.str (PySem.Str.ofString "ISNONTERMINAL") 356), (PySem.Value.str (PySem.Str.ofString "ISNONTERMINAL") 357), (PySem.Value.str (PySem.Str.ofString "/claim/cut.py") 358), (PySem.Value.int 83 0), (PySem.Value.int 1 0), (PySem.Value.int 0 0), (PySem.Value.int 0 0), (PySem.Value.int 3 0), (PySem.Value.ref 115), (PySem.Value.bool Bool.true), (PySem.Value.int 181 0), (PySem.Value.ref 116), PySem.Value.none, (PySem.Value.ref 117), (PySem.Value.ref 118), (PySem.Value.ref 119), (PySem.Value.int 360 0), (PySem.Value.int 83 0), (PySem.Value.str (PySem.Str.ofString "/claim/cut.py") 361)]) #[])) ::
  ((nat_lit 121 : Nat), hd.o121) ::
  ((nat_lit 122 : Nat), (PySem.Obj.mk (PySem.Value.type "tuple") (Option.none) (PySem.Data.seq #[] 0) #[])) ::
  ((nat_lit 124 : Nat), (PySem.Obj.mk (PySem.Value.type "tuple") (Option.none) (PySem.Data.seq #[(PySem.Value.str (PySem.Str.ofString "x") 366)] 0) #[])) ::
  ((nat_lit 125 : Nat), (PySem.Obj.mk (PySem.Value.type "tuple") (Option.none) (PySem.Data.seq #[] 0) #[])) ::
  ((nat_lit 127 : Nat), (PySem.Obj.mk (PySem.Value.type "code") (Option.none) (PySem.Data.fields #[(PySem.Value.str (PySem.Str.ofString "ISEOF") 363), (PySem.Value.str (PySem.Str.ofString "ISEOF") 364), (PySem.Value.str (PySem.Str.ofString "/claim/cut.py") 365), (PySem.Value.int 85 0), (PySem.Value.int 1 0), (PySem.Value.int 0 0), (PySem.Value.int 0 0), (PySem.Value.int 3 0), (PySem.Value.ref 122), (PySem.Value.bool Bool.true), (PySem.Value.int 181 0), (PySem.Value.ref 123), PySem.Value.none, (PySem.Value.ref 124), (PySem.Value.ref 125), (PySem.Value.ref 126), (PySem.Value.int 367 0), (PySem.Value.int 85 0), (PySem.Value.str (PySem.Str.ofString "/claim/cut.py") 368)]) #[])) ::
  ((nat_lit 128 : Nat), hd.o128) ::
  ((nat_lit 129 : Nat), (PySem.Obj.mk (PySem.Value.type "tuple") (Option.none) (PySem.Data.seq #[] 0) #[])) ::
  ((nat_lit 132 : Nat), (PySem.Obj.mk (PySem.Value.type "code") (Option.none) (PySem.Data.fields #[(PySem.Value.str (PySem.Str.ofString "_law_talk") 372), (PySem.Value.str (PySem.Str.ofString "_law_talk") 373), (PySem.Value.str (PySem.Str.ofString "/claim/cut.py") 374), (PySem.Value.int 88 0), (PySem.Value.int 1 0), (PySem.Value.int 0 0), (PySem.Value.int 0 0), (PySem.Value.int 3 0), (PySem.Value.ref 129), (PySem.Value.bool Bool.true), (PySem.Value.int 181 0), (PySem.Value.ref 130), PySem.Value.none, PySem.Value.none, PySem.Value.none, (PySem.Value.ref 131), (PySem.Value.int 375 0), (PySem.Value.int 88 0), (PySem.Value.str (PySem.Str.ofString "/claim/cut.py") 376)]) #[])) ::
  ((nat_lit 133 : Nat), hd.o133) ::
  ((nat_lit 134 : Nat), (PySem.Obj.mk (PySem.Value.type "tuple") (Option.none) (PySem.Data.seq #[] 0) #[])) ::
  ((nat_lit 136 : Nat), (PySem.Obj.mk (PySem.Value.type "tuple") (Option.none) (PySem.Data.seq #[(PySem.Value.str (PySem.Str.ofString "kind") 381), (PySem.Value.str (PySem.Str.ofString "figures") 382), (PySem.Value.str (PySem.Str.ofString "odd") 383)] 0) #[])) ::
  ((nat_lit 137 : Nat), (PySem.Obj.mk (PySem.Value.type "tuple") (Option.none) (PySem.Data.seq #[] 0) #[])) ::
  ((nat_lit 139 : Nat), (PySem.Obj.mk (PySem.Value.type "code") (Option.none) (PySem.Data.fields #[(PySem.Value.str (PySem.Str.ofString "_law_reply") 378), (PySem.Value.str (PySem.Str.ofString "_law_reply") 379), (PySem.Value.str (PySem.Str.ofString "/claim/cut.py") 380), (PySem.Value.int 93 0), (PySem.Value.int 2 0), (PySem.Value.int 0 0), (PySem.Value.int 0 0), (PySem.Value.int 3 0), (PySem.Value.ref 134), (PySem.Value.bool Bool.true), (PySem.Value.int 181 0), (PySem.Value.ref 135), PySem.Value.none, (PySem.Value.ref 136), (PySem.Value.ref 137), (PySem.Value.ref 138), (PySem.Value.int 384 0), (PySem.Value.int 93 0), (PySem.Value.str (PySem.Str.ofString "/claim/cut.py") 385)]) #[])) ::
  ((nat_lit 140 : Nat), hd.o140) ::
  ((nat_lit 141 : Nat), (PySem.Obj.mk (PySem.Value.type "tuple") (Option.none) (PySem.Data.seq #[] 0) #[])) ::
  ((nat_lit 143 : Nat), (PySem.Obj.mk (PySem.Value.type "tuple") (Option.none) (PySem.Data.seq #[(PySem.Value.str (PySem.Str.ofString "host") 390), (PySem.Value.str (PySem.Str.ofString "reply") 391)] 0) #[])) ::
  ((nat_lit 144 : Nat), (PySem.Obj.mk (PySem.Value.type "tuple") (Option.none) (PySem.Data.seq #[] 0) #[])) ::
  ((nat_lit 146 : Nat), (PySem.Obj.mk (PySem.Value.type "code") (Option.none) (PySem.Data.fields #[(PySem.Value.str (PySem.Str.ofString "_law_told") 387), (PySem.Value.str (PySem.Str.ofString "_law_told") 388), (PySem.Value.str (PySem.Str.ofString "/claim/cut.py") 389), (PySem.Value.int 106 0), (PySem.Value.int 2 0), (PySem.Value.int 0 0), (PySem.Value.int 0 0), (PySem.Value.int 3 0), (PySem.Value.ref 141), (PySem.Value.bool Bool.true), (PySem.Value.int 181 0), (PySem.Value.ref 142), PySem.Value.none, (PySem.Value.ref 143), (PySem.Value.ref 144), (PySem.Value.ref 145), (PySem.Value.int 392 0), (PySem.Value.int 106 0), (PySem.Value.str (PySem.Str.ofString "/claim/cut.py") 393)]) #[])) ::
  ((nat_lit 147 : Nat), hd.o147) ::
  ((nat_lit 148 : Nat), (PySem.Obj.mk (PySem.Value.type "tuple") (Option.none) (PySem.Data.seq #[] 0) #[])) ::
  ((nat_lit 150 : Nat), (PySem.Obj.mk (PySem.Value.type "tuple") (Option.none) (PySem.Data.seq #[(PySem.Value.str (PySem.Str.ofString "port") 398), (PySem.Value.str (PySem.Str.ofString "row") 399)] 0) #[])) ::
  ((nat_lit 151 : Nat), (PySem.Obj.mk (PySem.Value.type "tuple") (Option.none) (PySem.Data.seq #[] 0) #[])) ::
  ((nat_lit 153 : Nat), (PySem.Obj.mk (PySem.Value.type "code") (Option.none) (PySem.Data.fields #[(PySem.Value.str (PySem.Str.ofString "_law_row") 395), (PySem.Value.str (PySem.Str.ofString "_law_row") 396), (PySem.Value.str (PySem.Str.ofString "/claim/cut.py") 397), (PySem.Value.int 113 0), (PySem.Value.int 1 0), (PySem.Value.int 0 0), (PySem.Value.int 0 0), (PySem.Value.int 3 0), (PySem.Value.ref 148), (PySem.Value.bool Bool.true), (PySem.Value.int 181 0), (PySem.Value.ref 149), PySem.Value.none, (PySem.Value.ref 150), (PySem.Value.ref 151), (PySem.Value.ref 152), (PySem.Value.int 400 0), (PySem.Value.int 113 0), (PySem.Value.str (PySem.Str.ofString "/claim/cut.py") 401)]) #[])) ::
  ((nat_lit 154 : Nat), hd.o154) ::
  ((nat_lit 155 : Nat), (PySem.Obj.mk (PySem.Value.type "tuple") (Option.none) (PySem.Data.seq #[] 0) #[])) ::
  ((nat_lit 158 : Nat), (PySem.Obj.mk (PySem.Value.type "code") (Option.none) (PySem.Data.fields #[(PySem.Value.str (PySem.Str.ofString "_law_due") 403), (PySem.Value.str (PySem.Str.ofString "_law_due") 404), (PySem.Value.str (PySem.Str.ofString "/claim/cut.py") 405), (PySem.Value.int 121 0), (PySem.Value.int 1 0), (PySem.Value.int 0 0), (PySem.Value.int 0 0), (PySem.Value.int 3 0), (PySem.Value.ref 155), (PySem.Value.bool Bool.true), (PySem.Value.int 181 0), (PySem.Value.ref 156), PySem.Value.none, PySem.Value.none, PySem.Value.none, (PySem.Value.ref 157), (PySem.Value.int 406 0), (PySem.Value.int 121 0), (PySem.Value.str (PySem.Str.ofString "/claim/cut.py") 407)]) #[])) ::
  ((nat_lit 159 : Nat), hd.o159) ::
  ((nat_lit 160 : Nat), (PySem.Obj.mk (PySem.Value.type "tuple") (Option.none) (PySem.Data.seq #[] 0) #[])) ::
  ((nat_lit 162 : Nat), (PySem.Obj.mk (PySem.Value.type "tuple") (Option.none) (PySem.Data.seq #[(PySem.Value.str (PySem.Str.ofString "light") 412)] 0) #[])) ::
  ((nat_lit 163 : Nat), (PySem.Obj.mk (PySem.Value.type "tuple") (Option.none) (PySem.Data.seq #[] 0) #[])) ::
  ((nat_lit 165 : Nat), (PySem.Obj.mk (PySem.Value.type "code") (Option.none) (PySem.Data.fields #[(PySem.Value.str (PySem.Str.ofString "_law_cut") 409), (PySem.Value.str (PySem.Str.ofString "_law_cut") 410), (PySem.Value.str (PySem.Str.ofString "/claim/cut.py") 411), (PySem.Value.int 123 0), (PySem.Value.int 1 0), (PySem.Value.int 0 0), (PySem.Value.int 0 0), (PySem.Value.int 3 0), (PySem.Value.ref 160), (PySem.Value.bool Bool.true), (PySem.Value.int 181 0), (PySem.Value.ref 161), PySem.Value.none, (PySem.Value.ref 162), (PySem.Value.ref 163), (PySem.Value.ref 164), (PySem.Value.int 413 0), (PySem.Value.int 123 0), (PySem.Value.str (PySem.Str.ofString "/claim/cut.py") 414)]) #[])) ::
  ((nat_lit 166 : Nat), hd.o166) ::
  ((nat_lit 167 : Nat), (PySem.Obj.mk (PySem.Value.type "tuple") (Option.none) (PySem.Data.seq #[] 0) #[])) ::
  ((nat_lit 169 : Nat), (PySem.Obj.mk (PySem.Value.type "tuple") (Option.none) (PySem.Data.seq #[(PySem.Value.str (PySem.Str.ofString "one") 419), (PySem.Value.str (PySem.Str.ofString "two") 420), (PySem.Value.str (PySem.Str.ofString "row") 421), (PySem.Value.str (PySem.Str.ofString "n") 422), (PySem.Value.str (PySem.Str.ofString "light") 423), (PySem.Value.str (PySem.Str.ofString "k") 424)] 0) #[])) ::
  ((nat_lit 170 : Nat), (PySem.Obj.mk (PySem.Value.type "tuple") (Option.none) (PySem.Data.seq #[] 0) #[])) ::
  ((nat_lit 172 : Nat), (PySem.Obj.mk (PySem.Value.type "code") (Option.none) (PySem.Data.fields #[(PySem.Value.str (PySem.Str.ofString "_law_sum") 416), (PySem.Value.str (PySem.Str.ofString "_law_sum") 417), (PySem.Value.str (PySem.Str.ofString "/claim/cut.py") 418), (PySem.Value.int 125 0), (PySem.Value.int 2 0), (PySem.Value.int 0 0), (PySem.Value.int 0 0), (PySem.Value.int 3 0), (PySem.Value.ref 167), (PySem.Value.bool Bool.true), (PySem.Value.int 181 0), (PySem.Value.ref 168), PySem.Value.none, (PySem.Value.ref 169), (PySem.Value.ref 170), (PySem.Value.ref 171), (PySem.Value.int 425 0), (PySem.Value.int 125 0), (PySem.Value.str (PySem.Str.ofString "/claim/cut.py") 426)]) #[])) ::
  ((nat_lit 173 : Nat), hd.o173) ::
  ((nat_lit 174 : Nat), (PySem.Obj.mk (PySem.Value.type "tuple") (Option.none) (PySem.Data.seq #[] 0) #[])) ::
  ((nat_lit 177 : Nat), (PySem.Obj.mk (PySem.Value.type "code") (Option.none) (PySem.Data.fields #[(PySem.Value.str (PySem.Str.ofString "_law_in_order") 428), (PySem.Value.str (PySem.Str.ofString "_law_in_order") 429), (PySem.Value.str (PySem.Str.ofString "/claim/cut.py") 430), (PySem.Value.int 137 0), (PySem.Value.int 2 0), (PySem.Value.int 0 0), (PySem.Value.int 0 0), (PySem.Value.int 3 0), (PySem.Value.ref 174), (PySem.Value.bool Bool.true), (PySem.Value.int 181 0), (PySem.Value.ref 175), PySem.Value.none, PySem.Value.none, PySem.Value.none, (PySem.Value.ref 176), (PySem.Value.int 431 0), (PySem.Value.int 137 0), (PySem.Value.str (PySem.Str.ofString "/claim/cut.py") 432)]) #[])) ::
  ((nat_lit 178 : Nat), hd.o178) ::
  ((nat_lit 179 : Nat), (PySem.Obj.mk (PySem.Value.type "tuple") (Option.none) (PySem.Data.seq #[] 0) #[])) ::
  ((nat_lit 182 : Nat), (PySem.Obj.mk (PySem.Value.type "code") (Option.none) (PySem.Data.fields #[(PySem.Value.str (PySem.Str.ofString "law") 434), (PySem.Value.str (PySem.Str.ofString "law") 435), (PySem.Value.str (PySem.Str.ofString "/claim/cut.py") 436), (PySem.Value.int 145 0), (PySem.Value.int 1 0), (PySem.Value.int 0 0), (PySem.Value.int 0 0), (PySem.Value.int 3 0), (PySem.Value.ref 179), (PySem.Value.bool Bool.true), (PySem.Value.int 181 0), (PySem.Value.ref 180), PySem.Value.none, PySem.Value.none, PySem.Value.none, (PySem.Value.ref 181), (PySem.Value.int 437 0), (PySem.Value.int 145 0), (PySem.Value.str (PySem.Str.ofString "/claim/cut.py") 438)]) #[])) ::
  ((nat_lit 183 : Nat), hd.o183) :: []
noncomputable def hd.vb : List Stmt := [hd.s1, hd.s3, hd.s4, hd.s5, hd.s6, hd.s8, hd.s9, hd.s10, hd.s11, hd.s13, hd.s14, hd.s15, hd.s16, hd.s18, hd.s19, hd.s20, hd.s21, hd.s22, hd.s23, hd.s24, hd.s25, hd.s26]
noncomputable def hd.view_39 : Program := { PySem.Challenge.pw_xg0026_01 with main := { PySem.Challenge.pw_xg0026_01.main with body := hd.vb } }
noncomputable def hd.hook : Hook := kHook hd.heap_39 [2, 3, 15, 17, 18, 20, 21, 22, 29, 30, 31, 32, 35, 42, 43, 44, 47, 54, 55, 56, 59, 61, 62, 64, 65, 73, 75, 76, 78, 79, 80, 82, 83, 85, 86, 87, 88, 89, 90, 91, 94, 96, 97, 99, 100, 101, 103, 104, 106, 107, 108, 110, 111, 113, 114, 115, 117, 118, 120, 121, 122, 124, 125, 127, 128, 129, 132, 133, 134, 136, 137, 139, 140, 141, 143, 144, 146, 147, 148, 150, 151, 153, 154, 155, 158, 159, 160, 162, 163, 165, 166, 167, 169, 170, 172, 173, 174, 177, 178, 179, 182, 183] (fun _ => by kernel_rfl)
end Mine
end
theorem Mine.calm : True ∧ True := by
  w_top off
  first | (walk1; done) | exact ⟨trivial, trivial⟩
local macro_rules | `(tactic| walk_at $s:str) => `(tactic| k_extra $s)
local macro_rules | `(tactic| k_all) => `(tactic| (first | assumption | exact List.forall_mem_nil _ | (refine List.forall_mem_cons.mpr ⟨?hd, ?tl⟩; (case hd => k_ne); (case tl => k_all))))
local macro_rules | `(tactic| k_ne) => `(tactic| (first | assumption | exact Ne.symm (by assumption) | exact Nat.ne_of_gt (by assumption) | exact Nat.ne_of_lt (by assumption) | (refine neN ?_; (try dsimp only); omega)))

section
open PySem PySem.W PyProof.Rows
set_option Elab.async false
set_option maxRecDepth 100000
namespace Mine
theorem hd.said : PySem.Challenge.rw_xg0026_01.wellSaid = true := by first | k_qdec | kernel_rfl
theorem hd.left : LeftO PySem.Challenge.rw_xg0026_01.row.toRowW.prog hd.view_39 [] (fun s => xlAt hd.view_39 [] s && recOk (RowW.records PySem.Challenge.rw_xg0026_01.row.toRowW) s) (Hook.obs hd.hook) (Hook.val hd.hook) 2992 := fun w => by
  unfold openEnds fencedOpening topFrom
  first
  | (rw [PySem.W.Fast.te14082659384304107361, PySem.W.Fast.te10274390034422433532, PySem.W.Fast.te4187177175401517315, PySem.W.Fast.te14364793385576792824]; kernel_rfl)
  | kernel_rfl
theorem hd.hw : PySem.Challenge.rw_xg0026_01.row.toRowW.promised := by
  w_witness2
theorem hd.head {d : DefRec} {kwd : List (Str × Expr)} (h1 : defOf hd.view_39 PySem.Challenge.rw_xg0026_01.row.toRowW.name = some (d, kwd)) (h2 : PySem.Challenge.rw_xg0026_01.row.toRowW.prog.theDef PySem.Challenge.rw_xg0026_01.row.toRowW.name = some (d.params, d.body, d.scope)) (h3 : kwWritten? d.params.kwonlyargs d.params.kw_defaults = some kwd)
    (hc : WalkO hd.view_39 [] (XL hd.view_39 []) hd.hook.says PySem.Challenge.rw_xg0026_01.row.toRowW d kwd fun f vs => PySem.call f vs) : PySem.Challenge.rw_xg0026_01.Holds :=
  holds_law hd.said fun said => holds_open (q := hd.view_39) (loose := []) (Xt := fun s => xlAt hd.view_39 [] s && recOk (RowW.records PySem.Challenge.rw_xg0026_01.row.toRowW) s) (XP := XL hd.view_39 []) (Yf := Hook.obs hd.hook) (Ya := Hook.val hd.hook) (YP := Hook.says hd.hook) (N := 2992) hd.left (Hook.of hd.hook) (Hook.keeps hd.hook) (fun s e => xl_of s (Bool.and_eq_true_iff.mp e).1) XL.keeps h1 h2 h3 (fun s e => recFacts_of (Bool.and_eq_true_iff.mp e).2) (by rfl) said (by decide +kernel) ⟨rfl, rfl, rfl, rfl, rfl, by decide +kernel⟩ hd.hw hc
end Mine
end
section
open PySem PySem.W PyProof.Rows PySem.Calls
set_option Elab.async false
namespace Mine
theorem toks_pos {α : Type} {M : Model} {A : Around} {s : Shared} {t : Sem α} {Q : α → Shared → Prop} {E : Value → Shared → Prop} (h0 : 0 < s.toks) (h : wpAny M A t (fun v s' => 0 < s'.toks → Q v s') E s) : wpAny M A t Q E s :=
  wpAny_with_toks (n := 1) h0 (wpAny_mono h (fun _ _ x y => x y) fun _ _ x _ => x)
theorem rm0 {d k R : Nat} (h : d + k < R) : d < R := Nat.lt_of_le_of_lt (Nat.le_add_right d k) h
theorem rm1 {d k R j : Nat} (h : d + k < R) (e : Nat.ble j k = true) : d + j < R := Nat.lt_of_le_of_lt (Nat.add_le_add_left (Nat.le_of_ble_eq_true e) d) h
theorem rm2 {d k R i j : Nat} (h : d + k < R) (e : Nat.ble (i + j) k = true) : d + i + j < R := Nat.add_assoc d i j ▸ rm1 h e
theorem sm {y : Int} (h0 : 0 ≤ y) (h1 : y ≤ 256) : y.natAbs < 2 ^ 53 := by omega
theorem smA {y : Int} (h : 0 ≤ y ∧ y ≤ 256) : y.natAbs < 2 ^ 53 := sm h.1 h.2
theorem sm1 {y : Int} (h0 : 0 ≤ y) (h1 : y ≤ 256) : (y - 256).natAbs < 2 ^ 53 := by omega
theorem sm2 {y z : Int} (h0 : 0 ≤ y) (h1 : y ≤ 256) (k0 : 0 ≤ z) (k1 : z ≤ 256) : (y + z).natAbs < 2 ^ 53 := by omega
theorem sm2A {y z : Int} (h : 0 ≤ y ∧ y ≤ 256) (k0 : 0 ≤ z) (k1 : z ≤ 256) : (y + z).natAbs < 2 ^ 53 := sm2 h.1 h.2 k0 k1
theorem sm3 {y z : Int} (h0 : 0 ≤ y) (h1 : y ≤ 256) (k0 : 0 ≤ z) (k1 : z ≤ 256) : (y + z - 256).natAbs < 2 ^ 53 := by omega
theorem eq_of_not {a b : Int} (h : ¬ a < b) (k : ¬ b < a) : a = b := Int.le_antisymm (Int.not_lt.mp k) (Int.not_lt.mp h)
theorem fa {α : Type} {P : α → Prop} {x : α} {r : List α} (h : P x) (t : ∀ p ∈ r, P p) : ∀ p ∈ x :: r, P p := List.forall_mem_cons.mpr ⟨h, t⟩
/-- a token that is not 0 -/
structure PT where
  val : Nat
  pos : 0 < val
theorem PT.ne (x : PT) : x.1 ≠ 0 := Nat.ne_of_gt x.2
theorem gen_toks {α : Type} {M : Model} {A : Around} {t : Sem α} {Q : α → Shared → Prop} {E : Value → Shared → Prop} {s : Shared} (hX : 0 < s.toks) (h : ∀ tk : PT, wpAny M A t Q E ⟨s.heap, s.gens, s.drawn, tk.1, s.os⟩) : wpAny M A t Q E s := h ⟨s.toks, hX⟩
/-- what a call of the text's def at address f with the values vs hands back; k: the room it wants -/
def Cl (w : World) (k : Nat) (f : Addr) (vs : List Value) (news : List (Addr × Obj)) (Post : Value → List (Addr × Obj) → Prop) : Prop :=
  ∀ (loose : List Str) (mean : ExcName → Option Value) (mg mb : Str → Option Value) (dp un : Nat) (gd : Option (List Code)) (cn : Str) (cs : Scope) (a : Addr) (ccd : Value) (cl : List (Str × Addr)) (outer : List Env) (A₀ : Around) (base h₀ : Heap) (L : Addr) (m : Str → Option Value) (s : Shared) (Q E : Value → Shared → Prop),
    Below A₀ base outer h₀ → Fr h₀ L s.heap m → (Mine.hd.heap_39 w.params).In h₀ → News h₀ L s.heap news → Top Mine.hd.view_39 loose mean mg mb h₀ → cs.kind = .function → dp + k < recursionLimit → un + 100 * k < cLine → 0 < s.toks →
    (∀ v h' tk' new, 0 < tk' → Fr h₀ L h' m → News h₀ L h' (new ++ news) → (∀ q ∈ news, ∀ p ∈ new, q.1 ≠ p.1) → Post v new → Q v { s with heap := h', toks := tk' }) →
    wpAny (model PySem.Challenge.rw_xg0026_01.row.prog w) (ktrTop dp un gd cn cs L a ccd cl outer) (call (.ref f) vs) Q E s
section
variable {w : World} {k : Nat} {f : Addr} {vs : List Value} {news : List (Addr × Obj)} {Post : Value → List (Addr × Obj) → Prop} {loose : List Str} {mean : ExcName → Option Value} {mg mb : Str → Option Value} {dp un : Nat} {gd : Option (List Code)} {cn : Str} {cs : Scope} {a : Addr} {ccd : Value} {cl : List (Str × Addr)} {outer : List Env} {A₀ : Around} {base h₀ : Heap} {L : Addr} {m : Str → Option Value} {s : Shared} {Q E : Value → Shared → Prop}
theorem Cl.use (C : Cl w k f vs news Post) (B : Below A₀ base outer h₀) (F : Fr h₀ L s.heap m) (X : (Mine.hd.heap_39 w.params).In h₀) (N : News h₀ L s.heap news) (T : Top Mine.hd.view_39 loose mean mg mb h₀) (hk : cs.kind = .function) (hd : dp + k < recursionLimit) (hu : un + 100 * k < cLine) (hs0 : 0 < s.toks)
    (ret : ∀ v h' tk' new, 0 < tk' → Fr h₀ L h' m → News h₀ L h' (new ++ news) → (∀ q ∈ news, ∀ p ∈ new, q.1 ≠ p.1) → Post v new → Q v { s with heap := h', toks := tk' }) :
    wpAny (model PySem.Challenge.rw_xg0026_01.row.prog w) (ktrTop dp un gd cn cs L a ccd cl outer) (call (.ref f) vs) Q E s :=
  C _ _ _ _ _ _ _ _ _ _ _ _ _ _ _ _ _ _ _ _ _ B F X N T hk hd hu hs0 ret
theorem Cl.mk (C : ∀ (loose : List Str) (mean : ExcName → Option Value) (mg mb : Str → Option Value) (dp un : Nat) (gd : Option (List Code)) (cn : Str) (cs : Scope) (a : Addr) (ccd : Value) (cl : List (Str × Addr)) (outer : List Env) (A₀ : Around) (base h₀ : Heap) (L : Addr) (m : Str → Option Value) (s : Shared) (Q E : Value → Shared → Prop),
    Below A₀ base outer h₀ → Fr h₀ L s.heap m → (Mine.hd.heap_39 w.params).In h₀ → News h₀ L s.heap news → Top Mine.hd.view_39 loose mean mg mb h₀ → cs.kind = .function → dp + k < recursionLimit → un + 100 * k < cLine → 0 < s.toks →
    (∀ v h' tk' new, Fr h₀ L h' m → News h₀ L h' (new ++ news) → (∀ q ∈ news, ∀ p ∈ new, q.1 ≠ p.1) → Post v new → Q v { s with heap := h', toks := tk' }) →
    codeAny (model PySem.Challenge.rw_xg0026_01.row.prog w) (ktrTop dp un gd cn cs L a ccd cl outer) (.call (.ref f) ⟨vs, []⟩) (fun r s' => match r with | .ok (.ret v) => Q v s' | .ok _ => False | .error e => E e s') s) : Cl w k f vs news Post :=
  fun _ _ _ _ _ _ _ _ _ _ _ _ _ _ _ _ _ _ _ Q _ B F X N T hk hd hu hs0 ret => toks_pos hs0 (wpAny_call (C _ _ _ _ _ _ _ _ _ _ _ _ _ _ _ _ _ _ _ (fun v s' => 0 < s'.toks → Q v s') _ B F X N T hk hd hu hs0 (fun v h' tk' new F' N' l' p' hp => ret v h' tk' new hp F' N' l' p')))
/-- the same with a word P of the frame's ground -/
def ClP (w : World) (k : Nat) (f : Addr) (vs : List Value) (news : List (Addr × Obj)) (P : Heap → Prop) (Post : Value → List (Addr × Obj) → Prop) : Prop :=
  ∀ (loose : List Str) (mean : ExcName → Option Value) (mg mb : Str → Option Value) (dp un : Nat) (gd : Option (List Code)) (cn : Str) (cs : Scope) (a : Addr) (ccd : Value) (cl : List (Str × Addr)) (outer : List Env) (A₀ : Around) (base h₀ : Heap) (L : Addr) (m : Str → Option Value) (s : Shared) (Q E : Value → Shared → Prop),
    P h₀ → Below A₀ base outer h₀ → Fr h₀ L s.heap m → (Mine.hd.heap_39 w.params).In h₀ → News h₀ L s.heap news → Top Mine.hd.view_39 loose mean mg mb h₀ → cs.kind = .function → dp + k < recursionLimit → un + 100 * k < cLine → 0 < s.toks →
    (∀ v h' tk' new, 0 < tk' → Fr h₀ L h' m → News h₀ L h' (new ++ news) → (∀ q ∈ news, ∀ p ∈ new, q.1 ≠ p.1) → Post v new → Q v { s with heap := h', toks := tk' }) →
    wpAny (model PySem.Challenge.rw_xg0026_01.row.prog w) (ktrTop dp un gd cn cs L a ccd cl outer) (call (.ref f) vs) Q E s
theorem ClP.use {P : Heap → Prop} (C : ClP w k f vs news P Post) (hP : P h₀) (B : Below A₀ base outer h₀) (F : Fr h₀ L s.heap m) (X : (Mine.hd.heap_39 w.params).In h₀) (N : News h₀ L s.heap news) (T : Top Mine.hd.view_39 loose mean mg mb h₀) (hk : cs.kind = .function) (hd : dp + k < recursionLimit) (hu : un + 100 * k < cLine) (hs0 : 0 < s.toks)
    (ret : ∀ v h' tk' new, 0 < tk' → Fr h₀ L h' m → News h₀ L h' (new ++ news) → (∀ q ∈ news, ∀ p ∈ new, q.1 ≠ p.1) → Post v new → Q v { s with heap := h', toks := tk' }) :
    wpAny (model PySem.Challenge.rw_xg0026_01.row.prog w) (ktrTop dp un gd cn cs L a ccd cl outer) (call (.ref f) vs) Q E s :=
  C _ _ _ _ _ _ _ _ _ _ _ _ _ _ _ _ _ _ _ _ _ hP B F X N T hk hd hu hs0 ret
theorem ClP.mk {P : Heap → Prop} (C : ∀ (loose : List Str) (mean : ExcName → Option Value) (mg mb : Str → Option Value) (dp un : Nat) (gd : Option (List Code)) (cn : Str) (cs : Scope) (a : Addr) (ccd : Value) (cl : List (Str × Addr)) (outer : List Env) (A₀ : Around) (base h₀ : Heap) (L : Addr) (m : Str → Option Value) (s : Shared) (Q E : Value → Shared → Prop),
    P h₀ → Below A₀ base outer h₀ → Fr h₀ L s.heap m → (Mine.hd.heap_39 w.params).In h₀ → News h₀ L s.heap news → Top Mine.hd.view_39 loose mean mg mb h₀ → cs.kind = .function → dp + k < recursionLimit → un + 100 * k < cLine → 0 < s.toks →
    (∀ v h' tk' new, Fr h₀ L h' m → News h₀ L h' (new ++ news) → (∀ q ∈ news, ∀ p ∈ new, q.1 ≠ p.1) → Post v new → Q v { s with heap := h', toks := tk' }) →
    codeAny (model PySem.Challenge.rw_xg0026_01.row.prog w) (ktrTop dp un gd cn cs L a ccd cl outer) (.call (.ref f) ⟨vs, []⟩) (fun r s' => match r with | .ok (.ret v) => Q v s' | .ok _ => False | .error e => E e s') s) : ClP w k f vs news P Post :=
  fun _ _ _ _ _ _ _ _ _ _ _ _ _ _ _ _ _ _ _ Q _ hP B F X N T hk hd hu hs0 ret => toks_pos hs0 (wpAny_call (C _ _ _ _ _ _ _ _ _ _ _ _ _ _ _ _ _ _ _ (fun v s' => 0 < s'.toks → Q v s') _ hP B F X N T hk hd hu hs0 (fun v h' tk' new F' N' l' p' hp => ret v h' tk' new hp F' N' l' p')))
/-- a def that catches, called out of the one frame that stands, whose cells may be any -/
theorem code_defS0X {prog : Program} {A : Around} {news : List (Addr × Obj)} {K : Frag} {p : Program} {loose : List Str} {mean : ExcName → Option Value} {mg mb : Str → Option Value} {A₀ : Around} {base h₀ : Heap} {L a : Addr} {m : Str → Option Value} {s : Shared} {cn : Str} {cs : Scope} {ccd : Value} {cl : List (Str × Addr)} {w : World}
    {R : Result → Shared → Prop} {name qual : Str} {params : Arguments} {body : List Stmt} {scope : Scope} {dV kV doc pm cdv ct oc : Value} {an od : Option Addr} {osl : Array (Option Value)} {f : Addr} {args : Args} {binds : List (Str × Value)}
    (B : Below A₀ base [] h₀) (F : Fr h₀ L s.heap m) (X₀ : K.In h₀) (N : News h₀ L s.heap news) (T : Top p loose mean mg mb h₀) (hA : A.frames = some [envX cn cs L a ccd cl])
    (ho : K.lookup f = some ⟨oc, od, .func (fnOf name qual params body scope dV kV doc pm an cdv ct), osl⟩) (hcd : codeIn K cdv qual = true) (hroom : A.depth < recursionLimit)
    (hbind : BindsTo s (fnOf name qual params body scope dV kV doc pm an cdv ct) args binds) (hloc : ∀ y ∈ binds, scope.names.lookup y.1 = some .local)
    (h : ∀ g L' h₁, Fr h₀ L g m → Fr g L' h₁ (fun y => binds.reverse.lookup y) → News g L' h₁ news → Below A base [envX cn cs L a ccd cl] g → K.In g → Top p loose mean mg mb g → KtsDicts ([envX cn cs L a ccd cl].filterMap (·.frame)) g →
      wpAny (model prog w) (A.deeper (envOf qual scope L' f cdv)) (execs body (envOf qual scope L' f cdv))
        (fun fl s' => LeaveS0 ([envX cn cs L a ccd cl].filterMap (·.frame)) h₀ L m g R (match fl with | .ret v => v | _ => .none) s')
        (fun e s' => wpAny (model prog w) (A.deeper (envOf qual scope L' f cdv)) (leaving (envOf qual scope L' f cdv) e) (fun _ s'' => R (.error e) s'') (fun e' s'' => R (.error e') s'') s')
        { s with heap := h₁, toks := s.toks + binds.length })
    (hck : cs.kind = .function) (hco : scope.isCoroutine = false) (hgen : scope.isGenerator = false) (hk : scope.kind = .function)
    (hcell : ∀ x ∈ scope.names, x.2 ≠ .cell) : codeAny (model prog w) A (.call (.ref f) args) R s := by
  have X := X₀.keeps F.keep
  have only : ∀ b, b ∈ [envX cn cs L a ccd cl].filterMap (·.frame) → b = L := fun b hb => by
    simpa using hb
  obtain ⟨FG, BG, st, _⟩ := groundX (R := R) B F N hA rfl hck
  obtain ⟨oL, es, ep, gL, gd, gk, gf⟩ := FG.ns
  refine codeAny_call_def (fd := fnOf name qual params body scope dV kV doc pm an cdv ct) (body := body) (binds := binds) hroom (X _ _ ho) rfl (T.nolimit.keeps F.keep) (codeRec_of X hcd) rfl hbind hcell hloc (fun h₁ hns hk₁ => ?_) hco hgen hk
  refine wpAny_mono (h _ s.heap.objs.size h₁ FG ⟨hns, fun b o e => hk₁ b o (of_hideAll _ e), Nat.le_of_eq (hideAll_size _ _)⟩
    (fun p hp => ⟨hk₁ _ _ (N p hp).1, Nat.ne_of_lt (Heap.lt_size (N p hp).1), hideAll_none _ (List.mem_map_of_mem hp)⟩) BG (X₀.keeps st) (T.keeps st) (fun b hb => ⟨oL, es, ep, only b hb ▸ gL, gd⟩)) (fun fl s' hl => ?_) fun _ _ y => y
  obtain ⟨g', L', m', news', T', F', N', k⟩ := hl
  obtain ⟨sl, hs⟩ := T'.up gL
  have low : h₀.get? L = none := kts_self F
  refine k ⟨⟨_, es, ep, F'.keep _ _ hs, gd, gk, gf⟩, fun b o e => F'.keep b o (T'.other b o (st b o e) fun q => ?_), F.above⟩ fun p hp => ⟨(N' p hp).1, fun q => ?_, ?_⟩
  · rw [only b q, low] at e; cases e
  · have z := (N' p hp).2.2; rw [q, hs] at z; cases z
  · cases q : h₀.get? p.1 with
    | none => rfl
    | some o =>
      obtain ⟨sl', hs'⟩ := T'.up (st _ _ q)
      have z := (N' p hp).2.2
      rw [hs'] at z; cases z
/-- the same of a call out of the one frame that stands: its exceptions may look at the frame; it asks no live token -/
def Cl0 (w : World) (k : Nat) (f : Addr) (vs : List Value) (news : List (Addr × Obj)) (Post : Value → List (Addr × Obj) → Prop) : Prop :=
  ∀ (loose : List Str) (mean : ExcName → Option Value) (mg mb : Str → Option Value) (dp un : Nat) (gd : Option (List Code)) (cn : Str) (cs : Scope) (a : Addr) (ccd : Value) (cl : List (Str × Addr)) (A₀ : Around) (base h₀ : Heap) (L : Addr) (m : Str → Option Value) (s : Shared) (Q E : Value → Shared → Prop),
    Below A₀ base [] h₀ → Fr h₀ L s.heap m → (Mine.hd.heap_39 w.params).In h₀ → (Mine.hd.heap_39 w.params).In base → News h₀ L s.heap news → Top Mine.hd.view_39 loose mean mg mb h₀ → Top Mine.hd.view_39 loose mean mg mb base → cs.kind = .function → dp + k < recursionLimit → un + 100 * k < cLine →
    (∀ v h' tk' new, Fr h₀ L h' m → News h₀ L h' (new ++ news) → (∀ q ∈ news, ∀ p ∈ new, q.1 ≠ p.1) → Post v new → Q v { s with heap := h', toks := tk' }) →
    wpAny (model PySem.Challenge.rw_xg0026_01.row.prog w) (ktrTop dp un gd cn cs L a ccd cl []) (call (.ref f) vs) Q E s
theorem Cl0.use {outer : List Env} (C : Cl0 w k f vs news Post) (ho : outer = []) (B : Below A₀ base [] h₀) (F : Fr h₀ L s.heap m) (X : (Mine.hd.heap_39 w.params).In h₀) (XB : (Mine.hd.heap_39 w.params).In base) (N : News h₀ L s.heap news) (T : Top Mine.hd.view_39 loose mean mg mb h₀) (TB : Top Mine.hd.view_39 loose mean mg mb base) (hk : cs.kind = .function) (hd : dp + k < recursionLimit) (hu : un + 100 * k < cLine)
    (ret : ∀ v h' tk' new, Fr h₀ L h' m → News h₀ L h' (new ++ news) → (∀ q ∈ news, ∀ p ∈ new, q.1 ≠ p.1) → Post v new → Q v { s with heap := h', toks := tk' }) :
    wpAny (model PySem.Challenge.rw_xg0026_01.row.prog w) (ktrTop dp un gd cn cs L a ccd cl outer) (call (.ref f) vs) Q E s := by
  subst ho
  exact C _ _ _ _ _ _ _ _ _ _ _ _ _ _ _ _ _ _ _ _ B F X XB N T TB hk hd hu ret
theorem Cl0.mk (C : ∀ (loose : List Str) (mean : ExcName → Option Value) (mg mb : Str → Option Value) (dp un : Nat) (gd : Option (List Code)) (cn : Str) (cs : Scope) (a : Addr) (ccd : Value) (cl : List (Str × Addr)) (A₀ : Around) (base h₀ : Heap) (L : Addr) (m : Str → Option Value) (s : Shared) (Q E : Value → Shared → Prop),
    Below A₀ base [] h₀ → Fr h₀ L s.heap m → (Mine.hd.heap_39 w.params).In h₀ → (Mine.hd.heap_39 w.params).In base → News h₀ L s.heap news → Top Mine.hd.view_39 loose mean mg mb h₀ → Top Mine.hd.view_39 loose mean mg mb base → cs.kind = .function → dp + k < recursionLimit → un + 100 * k < cLine →
    (∀ v h' tk' new, Fr h₀ L h' m → News h₀ L h' (new ++ news) → (∀ q ∈ news, ∀ p ∈ new, q.1 ≠ p.1) → Post v new → Q v { s with heap := h', toks := tk' }) →
    codeAny (model PySem.Challenge.rw_xg0026_01.row.prog w) (ktrTop dp un gd cn cs L a ccd cl []) (.call (.ref f) ⟨vs, []⟩) (fun r s' => match r with | .ok (.ret v) => Q v s' | .ok _ => False | .error e => E e s') s) : Cl0 w k f vs news Post :=
  fun _ _ _ _ _ _ _ _ _ _ _ _ _ _ _ _ _ _ Q _ B F X XB N T TB hk hd hu ret => wpAny_call (C _ _ _ _ _ _ _ _ _ _ _ _ _ _ _ _ _ _ Q _ B F X XB N T TB hk hd hu ret)
end
end Mine
end
section
open PySem
namespace Mine
open PySem.Float64

def fl (n : Int) : UInt64 := Float64.ofFrac (decide (n < 0)) n.natAbs 256

theorem V_inj {t t' : Nat} (h : V t = V t') : t = t' := by
  rcases Nat.lt_trichotomy t t' with q | q | q
  · have := V_lt q; omega
  · exact q
  · have := V_lt q; omega
theorem right_exact {r : UInt64} {neg : Bool} {W t₀ : Nat} (R : Right r neg W 1) (h0 : V t₀ = W) (hs : ¬ ((2 ^ 54 - 1) * 2 ^ 2045 ≤ 2 * W)) : r = pack neg t₀ ∧ t₀ < infMag := by
  obtain ⟨t, rfl, ht, ho, hn⟩ := R
  rw [Nat.one_mul] at ho
  have hlt : t < infMag := by
    rcases Nat.lt_or_ge t infMag with q | q
    · exact q
    · exact absurd (ho.mp (Nat.le_antisymm ht q)) hs
  have hd := (hn hlt t₀).1
  rw [Nat.one_mul, Nat.one_mul, h0] at hd
  have hv : V t = V t₀ := by unfold dist at hd; omega
  have e := V_inj hv
  subst e
  exact ⟨rfl, hlt⟩
theorem ex_V {n : Nat} (h0 : n ≠ 0) (h : n < 2 ^ 53) : ∃ t, V t = n * 2 ^ 1066 := by
  have hl : 2 ^ n.log2 ≤ n := Nat.log2_self_le h0
  have hu : n < 2 ^ (n.log2 + 1) := Nat.lt_log2_self
  have hlog : n.log2 ≤ 52 := by
    have : n.log2 < 53 := (Nat.log2_lt h0).mpr h
    omega
  refine ⟨(1066 - (52 - n.log2)) * 2 ^ 52 + n * 2 ^ (52 - n.log2), ?_⟩
  have e1 : 2 ^ 52 = 2 ^ n.log2 * 2 ^ (52 - n.log2) := by rw [← Nat.pow_add]; congr 1; omega
  have e2 : 2 ^ 53 = 2 ^ (n.log2 + 1) * 2 ^ (52 - n.log2) := by rw [← Nat.pow_add]; congr 1; omega
  rw [V_at (by rw [e2]; exact Nat.mul_le_mul_right _ (Nat.le_of_lt hu)) (.inl (by rw [e1]; exact Nat.mul_le_mul_right _ hl)), Nat.mul_assoc, ← Nat.pow_add]
  congr 2
  omega
theorem small_W {n : Nat} (h : n < 2 ^ 53) : ¬ ((2 ^ 54 - 1) * 2 ^ 2045 ≤ 2 * (n * 2 ^ 1066)) := by
  intro q
  have e : (2 : Nat) ^ 2045 = 2 ^ 979 * 2 ^ 1066 := by rw [← Nat.pow_add]
  rw [e, ← Nat.mul_assoc, ← Nat.mul_assoc] at q
  have := Nat.le_of_mul_le_mul_right q (Nat.two_pow_pos 1066)
  have h2 : (2 : Nat) ^ 54 - 1 ≤ (2 ^ 54 - 1) * 2 ^ 979 := Nat.le_mul_of_pos_right _ (Nat.two_pow_pos _)
  omega
theorem fl_right (n : Int) : Right (fl n) (decide (n < 0)) (n.natAbs * 2 ^ 1066) 1 := by
  refine ofFrac_right (by decide) ?_ (by decide)
  rw [Nat.mul_one, Nat.mul_assoc, show (256 : Nat) = 2 ^ 8 from rfl, ← Nat.pow_add]
theorem fl_zero : fl 0 = pack false 0 := by decide +kernel
/-- fl n is the one float of value n / 256 -/
theorem fl_pack {n : Int} (h : n.natAbs < 2 ^ 53) : ∃ t, t < infMag ∧ V t = n.natAbs * 2 ^ 1066 ∧ fl n = pack (decide (n < 0)) t := by
  by_cases h0 : n = 0
  · subst h0
    exact ⟨0, by decide, by rw [V_zero, show (0 : Int).natAbs = 0 from rfl, Nat.zero_mul], fl_zero⟩
  · obtain ⟨t, ht⟩ := ex_V (n := n.natAbs) (by omega) h
    obtain ⟨e, hl⟩ := right_exact (fl_right n) ht (small_W h)
    exact ⟨t, hl, ht, e⟩
theorem fl_val {n : Int} (h : n.natAbs < 2 ^ 53) : val (fl n) = n * 2 ^ 1066 := by
  obtain ⟨t, hl, hv, e⟩ := fl_pack h
  rw [e, val_pack _ hl, hv, sgn_mul]
  have : sgn (decide (n < 0)) n.natAbs = n := by
    unfold sgn
    by_cases q : n < 0
    · simp [q]; omega
    · simp [q]; omega
  rw [this]
  congr 1
theorem fl_decode {n : Int} (h : n.natAbs < 2 ^ 53) : ∃ m e, decode (fl n) = .fin (decide (n < 0)) m e := by
  obtain ⟨t, hl, hv, e⟩ := fl_pack h
  obtain ⟨m, e', hd, _⟩ := decode_pack (decide (n < 0)) hl
  exact ⟨m, e', by rw [e]; exact hd⟩
theorem K_pos : (0 : Int) < 2 ^ 1066 := Int.pow_pos (by decide)
theorem natAbs_K (n : Int) : (n * 2 ^ 1066).natAbs = n.natAbs * 2 ^ 1066 := by
  rw [Int.natAbs_mul]; congr 1
theorem right_fl {r : UInt64} {n : Int} (hn : n ≠ 0) (h : n.natAbs < 2 ^ 53) (R : Right r (decide (n * 2 ^ 1066 < 0)) (n * 2 ^ 1066).natAbs 1) : r = fl n := by
  obtain ⟨t, hl, hv, e⟩ := fl_pack h
  have hneg : decide (n * (2 : Int) ^ 1066 < 0) = decide (n < 0) := by
    apply decide_eq_decide.mpr
    constructor
    · intro q
      by_cases z : n < 0
      · exact z
      · have := Int.mul_nonneg (show 0 ≤ n by omega) (Int.le_of_lt K_pos); omega
    · intro q; exact Int.mul_neg_of_neg_of_pos q K_pos
  rw [hneg, natAbs_K] at R
  rw [e]
  exact (right_exact R hv (small_W h)).1
theorem add_fl {a b : Int} (ha : a.natAbs < 2 ^ 53) (hb : b.natAbs < 2 ^ 53) (hc : (a + b).natAbs < 2 ^ 53) : Float64.add (fl a) (fl b) = fl (a + b) := by
  obtain ⟨m, e, da⟩ := fl_decode ha
  obtain ⟨k, f, db⟩ := fl_decode hb
  have z := add_right da db
  rw [fl_val ha, fl_val hb, ← Int.add_mul] at z
  by_cases h0 : a + b = 0
  · rw [z.1 (by rw [h0, Int.zero_mul]), h0, fl_zero]
    unfold zero
    congr 1
    by_cases q : a < 0 <;> by_cases q' : b < 0 <;> simp [q, q'] <;> omega
  · refine right_fl h0 hc (z.2 fun q => ?_)
    rcases Int.mul_eq_zero.mp q with q | q
    · exact h0 q
    · have := K_pos; omega
theorem sub_fl {a b : Int} (ha : a.natAbs < 2 ^ 53) (hb : b.natAbs < 2 ^ 53) (hc : (a - b).natAbs < 2 ^ 53) : Float64.sub (fl a) (fl b) = fl (a - b) := by
  obtain ⟨m, e, da⟩ := fl_decode ha
  obtain ⟨k, f, db⟩ := fl_decode hb
  have z := sub_right da db
  rw [fl_val ha, fl_val hb, ← Int.sub_mul] at z
  by_cases h0 : a - b = 0
  · rw [z.1 (by rw [h0, Int.zero_mul]), h0, fl_zero]
    unfold zero
    congr 1
    by_cases q : a < 0 <;> by_cases q' : b < 0 <;> simp [q, q'] <;> omega
  · refine right_fl h0 hc (z.2 fun q => ?_)
    rcases Int.mul_eq_zero.mp q with q | q
    · exact h0 q
    · have := K_pos; omega
theorem compare_K (p q : Int) (K : Int) (hK : 0 < K) : compare (p * K) (q * K) = compare p q := by
  rcases Int.lt_trichotomy p q with h | h | h
  · rw [Int.compare_eq_lt.mpr h, Int.compare_eq_lt.mpr (Int.mul_lt_mul_of_pos_right h hK)]
  · subst h; simp
  · rw [Int.compare_eq_gt.mpr h, Int.compare_eq_gt.mpr (Int.mul_lt_mul_of_pos_right h hK)]
theorem cmp_fl {a b : Int} (ha : a.natAbs < 2 ^ 53) (hb : b.natAbs < 2 ^ 53) : Float64.cmp (fl a) (fl b) = some (compare a b) := by
  obtain ⟨m, e, da⟩ := fl_decode ha
  obtain ⟨k, f, db⟩ := fl_decode hb
  rw [cmp_right da db, fl_val ha, fl_val hb, compare_K _ _ _ K_pos]
theorem ofInt_fl {i : Int} (h : (256 * i).natAbs < 2 ^ 53) : Float64.ofInt i = fl (256 * i) := by
  obtain ⟨t, hl, hv, e⟩ := fl_pack h
  rw [e]
  have R := ofInt_right i
  have e1 : i.natAbs * 2 ^ 1074 = (256 * i).natAbs * 2 ^ 1066 := by
    rw [Int.natAbs_mul, show (256 : Int).natAbs = 2 ^ 8 from rfl, Nat.mul_comm (2 ^ 8), Nat.mul_assoc, ← Nat.pow_add]
  have e2 : decide (i < 0) = decide (256 * i < 0) := decide_eq_decide.mpr (by omega)
  rw [e1, e2] at R
  exact (right_exact R hv (small_W h)).1
theorem cmpInt_fl {a i : Int} (ha : a.natAbs < 2 ^ 53) : Float64.cmpInt (fl a) i = some (compare a (256 * i)) := by
  obtain ⟨m, e, da⟩ := fl_decode ha
  rw [cmpInt_right da, fl_val ha]
  have : i * (2 : Int) ^ 1074 = 256 * i * 2 ^ 1066 := by
    rw [show (2 : Int) ^ 1074 = 256 * 2 ^ 1066 by rw [show (256 : Int) = 2 ^ 8 from rfl, ← Int.pow_add], ← Int.mul_assoc, Int.mul_comm i 256]
  rw [this, compare_K _ _ _ K_pos]
theorem fl_one : fl 256 = 4607182418800017408 := by decide +kernel
theorem fl_nought : fl 0 = 0 := by decide +kernel
theorem c1 : Float64.mul 4606703976345377586 0 = 0 := by decide +kernel
theorem c2 : Float64.mul 4603791717925830846 0 = 0 := by decide +kernel
theorem c3 : Float64.mul 4598621754083818298 0 = 0 := by decide +kernel
theorem c4 : Float64.mul 4603901015759978483 0 = 0 := by decide +kernel
theorem c5 : Float64.mul 4607671262177584182 0 = 0 := by decide +kernel
theorem c6 : Float64.mul 4610375502138591871 0 = 0 := by decide +kernel
end Mine
end
section
open PySem PySem.W PyProof.Rows PySem.Calls PyProof.Rows.LCg PySem.SeqAt
set_option Elab.async false
set_option maxRecDepth 100000
namespace Mine
theorem told_no (P : Params) : nsIn (Mine.hd.heap_39 P) cStatics sharingNotToldKey = some none := by rfl
theorem not_told {P : Params} {h : Heap} {p : Program} {loose : List Str} {mean : ExcName → Option Value} {mg mb : Str → Option Value} (X : (Mine.hd.heap_39 P).In h) (T : Top p loose mean mg mb h) : ∃ m, h.Ns cStatics m ∧ m sharingNotToldKey = none := by
  obtain ⟨mc, hn, _⟩ := T.nodigits
  exact ⟨mc, hn, ns_none_of X hn (told_no P)⟩
theorem cmp_same {n : Int} (h : n.natAbs < 2 ^ 53) : (Float64.cmp (fl n) (fl n) == some Ordering.eq) = true := by
  rw [cmp_fl h h]; simp
theorem fl_num {n : Int} (h : n.natAbs < 2 ^ 53) : Float64.isNaN (fl n) = false := by
  obtain ⟨m, e, d⟩ := fl_decode h
  unfold Float64.isNaN
  rw [d]
theorem wp_told {M : Model} {A : Around} {E : Value → Shared → Prop} {s : Shared} {t : Tok} {Q : Bool → Shared → Prop} (X : ∃ m, s.heap.Ns cStatics m ∧ m sharingNotToldKey = none) (h : Q false s) : wpAny M A (sharingNotTold t) Q E s := by
  obtain ⟨m, hn, hm⟩ := X
  unfold sharingNotTold
  refine wpAny_bind (wpAny_nsGet hn ?_)
  rw [hm]
  exact wpAny_pure h
theorem eqAt_fl {A : Around} {s : Shared} {n : Int} {t u : Tok} (X : ∃ m, s.heap.Ns cStatics m ∧ m sharingNotToldKey = none) (ht : t ≠ 0) (hu : u ≠ 0) (h : n.natAbs < 2 ^ 53) : EqAt A s (.float (fl n) t) (.float (fl n) u) true := fun prog w E Q hq => by
  unfold eqBool
  refine wpAny_holding ?_
  refine wpAny_ite_split (fun _ => ?_) (fun _ => ?_)
  · exact wpAny_bind (wpAny_rule (wpAny_pure hq))
  · have fin : ∀ b : Bool, wpAny (model prog w) A (if b = true then pure true else do let r ← richCompare CmpOp.Eq (Value.float (fl n) t) (Value.float (fl n) u); truthOfDropped r) Q E s := by
      intro b
      cases b with
      | true => exact wpAny_pure hq
      | false =>
        simp only [Bool.false_eq_true, if_false]
        refine wpAny_bind ?_
        show wpAny _ _ (compareOp .Eq _ _) _ _ _
        refine AutoFloatOps.eq_0 ?_
        rw [cmp_same h]
        exact wpAny_truthy_bool hq
    refine wpAny_bind ?_
    show wpAny _ _ (isSame.created (fl n == fl n && !Float64.isNaN (fl n)) t u) _ _ _
    unfold isSame.created
    rw [if_neg (by simp [ht, hu])]
    by_cases e : t = u
    · rw [if_pos (by simp [e])]
      exact wpAny_pure (fin true)
    · rw [if_neg (by simp [e]), if_neg (by simp [fl_num h])]
      refine wpAny_bind (wp_told X ?_)
      simp only [Bool.false_eq_true, if_false]
      refine wpAny_bind (wp_told X ?_)
      simp only [Bool.false_eq_true, if_false]
      refine wpAny_bind (wpAny_rule ?_)
      refine wpAny_bind (wpAny_askSetting ?_)
      exact wpAny_pure (fin _)
end Mine
end
section
open PySem PySem.W PyProof.Rows PySem.Calls
set_option Elab.async false
set_option maxRecDepth 100000
namespace Mine
def tupO (vs : List Value) (n : Nat) : Obj := { cls := .type "tuple", data := .seq vs.toArray n }
theorem lt_by {prog : Program} {w : World} {A : Around} {E : Value → Shared → Prop} {s : Shared} {a b : UInt64} {t u : Tok} {Q : Value → Shared → Prop} (c : Bool) (e : (Float64.cmp a b == some Ordering.lt) = c) (h : Q (.bool c) s) : wpAny (model prog w) A (compareOp .Lt (.float a t) (.float b u)) Q E s :=
  AutoFloatOps.lt_0 (by rw [e]; exact h)
theorem gt_by {prog : Program} {w : World} {A : Around} {E : Value → Shared → Prop} {s : Shared} {a b : UInt64} {t u : Tok} {Q : Value → Shared → Prop} (c : Bool) (e : (Float64.cmp a b == some Ordering.gt) = c) (h : Q (.bool c) s) : wpAny (model prog w) A (compareOp .Gt (.float a t) (.float b u)) Q E s :=
  AutoFloatOps.gt_0 (by rw [e]; exact h)
theorem one_new {news : List (Addr × Obj)} {a : Addr} {o : Obj} (h : ∀ p ∈ news, p.1 < a) : ∀ q ∈ news, ∀ p ∈ [(a, o)], q.1 ≠ p.1 := fun q hq p hp => by
  rw [List.mem_singleton.mp hp]; exact Nat.ne_of_lt (h q hq)
theorem one_off {news : List (Addr × Obj)} {a : Addr} {o : Obj} (h : ∀ p ∈ news, p.1 ≠ a) : ∀ q ∈ news, ∀ p ∈ [(a, o)], q.1 ≠ p.1 := fun q hq p hp => by
  rw [List.mem_singleton.mp hp]; exact h q hq
section

theorem wds_Yiq_1 : True := by
  k_with_none
  k_with "execs cons" => (k_here; (refine gen_toks (by ((fail_if_success assumption); (fail_if_success exact PT.pos _); (first | exact Nat.succ_pos _ | (dsimp only; first | exact Nat.succ_pos _ | omega)))) ?_); (try dsimp only); (intro tkzz))
  k_with "execs nil" => (k_here; (refine gen_toks (by ((fail_if_success assumption); (fail_if_success exact PT.pos _); (first | exact Nat.succ_pos _ | (dsimp only; first | exact Nat.succ_pos _ | omega)))) ?_); (try dsimp only); (intro tkzz))
  k_with "binaryOp Add float float" => ((simp only [c1, c2, c3, c4, c5, c6]); walk_at "binaryOp Add float float")
  k_with "binaryOp Sub float float" => ((simp only [c1, c2, c3, c4, c5, c6]); walk_at "binaryOp Sub float float")
  k_with "storeName" => ((simp only [*]); walk_at "storeName")
  k_with "compareOp Lt float float" => (k_here; k_dflt (first | (refine lt_by true (by first | assumption | decide +kernel) ?_) | (refine lt_by false (by first | assumption | decide +kernel) ?_)))
  k_with "compareOp Gt float float" => (k_here; k_dflt (first | (refine gt_by true (by first | assumption | decide +kernel) ?_) | (refine gt_by false (by first | assumption | decide +kernel) ?_)))
  trivial
set_option maxHeartbeats 8000000 in
theorem t_yiq0 (w : World) (y : UInt64) (t t1 t2 : Tok) (news : List (Addr × Obj)) (h0 : Float64.add y 0 = y) (h1 : Float64.sub y 0 = y) (c : UInt64) (o0 o1 : Bool) (hc0 : (Float64.cmp y 0 == some .lt) = o0) (hc1 : (Float64.cmp y 4607182418800017408 == some .gt) = o1) 
   (h : (o0 = true ∧ c = 0) ∨ (o0 = false ∧ o1 = false ∧ c = y) ∨ (o0 = false ∧ o1 = true ∧ c = 4607182418800017408)) :
   Cl w 2 21 [.float y t, .float 0 t1, .float 0 t2] news (fun v new => ∃ a n u0 u1 u2, v = .ref a ∧ new = [(a, tupO [.float c u0, .float c u1, .float c u2] n)] ∧ u0 ≠ 0 ∧ u1 ≠ 0 ∧ u2 ≠ 0) := by
  refine Cl.mk ?_
  k_fill
  intro loose mean mg mb dp un gd cn cs a ccd cl outer A₀ base h₀ L m s Q E B F X N T hk hd hu hs0 hret
  rcases h with ⟨rfl, rfl⟩ | ⟨rfl, rfl, rfl⟩ | ⟨rfl, rfl, rfl⟩
  all_goals (
    k_dflt cell_enter
    k_steps
    exact hret _ _ _ [_] (by k_asm) (by k_asm) (one_new (by assumption)) ⟨_, _, _, _, _, rfl, rfl, by (first | assumption | exact PT.ne _ | exact Nat.ne_of_gt (by assumption) | exact Nat.succ_ne_zero _ | exact Nat.ne_of_gt (by omega)), by (first | assumption | exact PT.ne _ | exact Nat.ne_of_gt (by assumption) | exact Nat.succ_ne_zero _ | exact Nat.ne_of_gt (by omega)), by (first | assumption | exact PT.ne _ | exact Nat.ne_of_gt (by assumption) | exact Nat.succ_ne_zero _ | exact Nat.ne_of_gt (by omega))⟩)
theorem wds_Yiq_2 : True := by
  k_with_none
  trivial
end
def clamp (n : Int) : Int := if n < 0 then 0 else if 256 < n then 256 else n
theorem fl_add0 {n : Int} (h : n.natAbs < 2 ^ 53) : Float64.add (fl n) 0 = fl n := by
  have := add_fl (a := n) (b := 0) h (by decide) (by rw [Int.add_zero]; exact h)
  rw [Int.add_zero, fl_nought] at this; exact this
theorem fl_sub0 {n : Int} (h : n.natAbs < 2 ^ 53) : Float64.sub (fl n) 0 = fl n := by
  have := sub_fl (a := n) (b := 0) h (by decide) (by rw [Int.sub_zero]; exact h)
  rw [Int.sub_zero, fl_nought] at this; exact this
theorem fl_lt {a b : Int} (ha : a.natAbs < 2 ^ 53) (hb : b.natAbs < 2 ^ 53) : (Float64.cmp (fl a) (fl b) == some .lt) = decide (a < b) := by
  rw [cmp_fl ha hb]
  rcases Int.lt_trichotomy a b with h | h | h
  · rw [Int.compare_eq_lt.mpr h]; simp [h]
  · subst h; simp
  · rw [Int.compare_eq_gt.mpr h]
    have : ¬ a < b := by omega
    simp [this]
theorem fl_gt {a b : Int} (ha : a.natAbs < 2 ^ 53) (hb : b.natAbs < 2 ^ 53) : (Float64.cmp (fl a) (fl b) == some .gt) = decide (b < a) := by
  rw [cmp_fl ha hb]
  rcases Int.lt_trichotomy a b with h | h | h
  · rw [Int.compare_eq_lt.mpr h]
    have : ¬ b < a := by omega
    simp [this]
  · subst h; simp
  · rw [Int.compare_eq_gt.mpr h]; simp [h]
theorem t_yiq (w : World) (n : Int) (t t1 t2 : Tok) (news : List (Addr × Obj)) (h : n.natAbs < 2 ^ 53) :
   Cl w 2 21 [.float (fl n) t, .float 0 t1, .float 0 t2] news (fun v new => ∃ a k u0 u1 u2, v = .ref a ∧ new = [(a, tupO [.float (fl (clamp n)) u0, .float (fl (clamp n)) u1, .float (fl (clamp n)) u2] k)] ∧ u0 ≠ 0 ∧ u1 ≠ 0 ∧ u2 ≠ 0) := by
  refine t_yiq0 w (fl n) t t1 t2 news (fl_add0 h) (fl_sub0 h) _ (decide (n < 0)) (decide (256 < n)) (by have := fl_lt (b := 0) h (by decide); rw [fl_nought] at this; exact this) (by have := fl_gt (b := 256) h (by decide); rw [fl_one] at this; exact this) ?_
  unfold clamp
  by_cases h1 : n < 0
  · exact .inl ⟨decide_eq_true h1, by rw [if_pos h1, fl_nought]⟩
  · by_cases h2 : 256 < n
    · exact .inr (.inr ⟨decide_eq_false h1, decide_eq_true h2, by rw [if_neg h1, if_pos h2, fl_one]⟩)
    · exact .inr (.inl ⟨decide_eq_false h1, decide_eq_false h2, by rw [if_neg h1, if_neg h2]⟩)
end Mine
end
section
open PySem PySem.W PyProof.Rows PySem.Calls PyProof.Rows.LCg PySem.SeqAt
set_option Elab.async false
set_option maxRecDepth 100000
namespace Mine
/-- a row's values: floats of n / 256, each made (its token is not 0) -/
inductive Fls : List Value → List Int → Prop
  | nil : Fls [] []
  | cons (n : Int) (t : Tok) {vs : List Value} {p : List Int} : t ≠ 0 → Fls vs p → Fls (.float (fl n) t :: vs) (n :: p)
theorem Fls.length {vs : List Value} {p : List Int} (h : Fls vs p) : vs.length = p.length := by
  induction h with
  | nil => rfl
  | cons _ _ _ _ ih => simp [ih]
theorem Fls.get {vs : List Value} {p : List Int} (h : Fls vs p) : ∀ {i : Nat} {n : Int}, p[i]? = some n → ∃ t, t ≠ 0 ∧ vs[i]? = some (.float (fl n) t) := by
  induction h with
  | nil => intro i n e; simp at e
  | cons m t ht _ ih =>
    intro i n e
    cases i with
    | zero => simp at e; subst e; exact ⟨t, ht, rfl⟩
    | succ i => simp at e; obtain ⟨u, hu, e'⟩ := ih e; exact ⟨u, hu, by simpa using e'⟩
theorem Fls.snoc {vs : List Value} {p : List Int} (h : Fls vs p) (n : Int) (t : Tok) (ht : t ≠ 0) : Fls (vs ++ [.float (fl n) t]) (p ++ [n]) := by
  induction h with
  | nil => exact .cons n t ht .nil
  | cons m u hu _ ih => exact .cons m u hu ih
theorem Fls.append {vs us : List Value} {p q : List Int} (h : Fls vs p) (k : Fls us q) : Fls (vs ++ us) (p ++ q) := by
  induction h with
  | nil => exact k
  | cons m u hu _ ih => exact .cons m u hu ih
theorem Fls.last {vs : List Value} {p : List Int} {n : Int} (h : Fls vs (p ++ [n])) : ∃ us t, t ≠ 0 ∧ vs = us ++ [.float (fl n) t] ∧ Fls us p := by
  induction p generalizing vs with
  | nil =>
    cases h with
    | cons _ t ht r => cases r; exact ⟨[], t, ht, rfl, .nil⟩
  | cons m p ih =>
    cases h with
    | cons _ t ht r =>
      obtain ⟨us, u, hu, rfl, k⟩ := ih r
      exact ⟨_ :: us, u, hu, rfl, .cons m t ht k⟩
theorem Fls.take {vs : List Value} {p : List Int} (h : Fls vs p) (k : Nat) : Fls (vs.take k) (p.take k) := by
  induction h generalizing k with
  | nil => simp; exact .nil
  | cons m t ht _ ih =>
    cases k with
    | zero => exact .nil
    | succ k => exact .cons m t ht (ih k)
theorem rep_fls (n : Int) (t : Tok) (ht : t ≠ 0) : ∀ k : Nat, Fls (List.replicate k (.float (fl n) t)) (List.replicate k n)
  | 0 => .nil
  | k + 1 => .cons n t ht (rep_fls n t ht k)
section
variable {prog : Program} {w : World} {A : Around} {E : Value → Shared → Prop} {s : Shared} {Q : Value → Shared → Prop} {l b : Addr} {vs us : List Value} {p : List Int}
theorem fls_eqAt (X : ∃ m, s.heap.Ns cStatics m ∧ m sharingNotToldKey = none) (hp : ∀ x ∈ p, x.natAbs < 2 ^ 53) (fv : Fls vs p) (fu : Fls us p) (B : Around) :
    ∀ j (h1 : j < vs.toArray.size) (h2 : j < us.toArray.size), EqAt B s vs.toArray[j] us.toArray[j] true := by
  intro j h1 h2
  have hj : j < p.length := by have := fv.length; simp at h1; omega
  have hx : p[j]? = some p[j] := List.getElem?_eq_getElem hj
  obtain ⟨t, ht, e1⟩ := fv.get hx
  obtain ⟨u, hu, e2⟩ := fu.get hx
  have hv : vs[j]? = some vs.toArray[j] := by simp at h1; simp [h1]
  have hu' : us[j]? = some us.toArray[j] := by simp at h2; simp [h2]
  rw [e1] at hv
  rw [e2] at hu'
  rw [← Option.some.inj hv, ← Option.some.inj hu']
  exact eqAt_fl X ht hu (hp _ (List.mem_of_getElem? hx))
theorem all_true (n : Nat) : (List.range n).all (fun _ => true) = true := List.all_eq_true.mpr fun _ _ => rfl
theorem ne_same (X : ∃ m, s.heap.Ns cStatics m ∧ m sharingNotToldKey = none) (hp : ∀ x ∈ p, x.natAbs < 2 ^ 53) (hl : s.heap.IsList l vs.toArray) (hb : s.heap.IsList b us.toArray) (fv : Fls vs p) (fu : Fls us p) (hu : A.units < cLine) (h : Q (.bool false) s) :
    wpAny (model prog w) A (compareOp .NotEq (.ref l) (.ref b)) Q E s := by
  have e : vs.toArray.size = us.toArray.size := by simp [fv.length, fu.length]
  refine RcNeAt.lists hl hb e hu (e := fun _ => true) (fls_eqAt X hp fv fu _) prog w E Q ?_
  rw [all_true]; exact h
theorem eq_same (X : ∃ m, s.heap.Ns cStatics m ∧ m sharingNotToldKey = none) (hp : ∀ x ∈ p, x.natAbs < 2 ^ 53) (hl : s.heap.IsList l vs.toArray) (hb : s.heap.IsList b us.toArray) (fv : Fls vs p) (fu : Fls us p) (hu : A.units < cLine) (h : Q (.bool true) s) :
    wpAny (model prog w) A (compareOp .Eq (.ref l) (.ref b)) Q E s := by
  have e : vs.toArray.size = us.toArray.size := by simp [fv.length, fu.length]
  refine RcAt.lists hl hb e hu (e := fun _ => true) (fls_eqAt X hp fv fu _) prog w E Q ?_
  rw [all_true]; exact h
theorem ne_nil (hl : s.heap.IsList l vs.toArray) (hb : s.heap.IsList b #[]) (hu : A.units < cLine) (h : Q (.bool (!vs.isEmpty)) s) :
    wpAny (model prog w) A (compareOp .NotEq (.ref l) (.ref b)) Q E s := by
  cases vs with
  | nil =>
    refine RcNeAt.lists hl hb (by rfl) hu (e := fun _ => true) (fun j h1 => absurd h1 (Nat.not_lt_zero _)) prog w E Q ?_
    exact h
  | cons v r =>
    refine RcNeAt.lists_lengths hl hb (by simp) hu prog w E Q ?_
    exact h
end
end Mine
end
section
open PySem PySem.W PyProof.Rows PySem.Calls
set_option Elab.async false
set_option maxRecDepth 100000
namespace Mine
/-- a contract that asks no live token -/
def ClZ (w : World) (k : Nat) (f : Addr) (vs : List Value) (news : List (Addr × Obj)) (Post : Value → List (Addr × Obj) → Prop) : Prop :=
  ∀ (loose : List Str) (mean : ExcName → Option Value) (mg mb : Str → Option Value) (dp un : Nat) (gd : Option (List Code)) (cn : Str) (cs : Scope) (a : Addr) (ccd : Value) (cl : List (Str × Addr)) (outer : List Env) (A₀ : Around) (base h₀ : Heap) (L : Addr) (m : Str → Option Value) (s : Shared) (Q E : Value → Shared → Prop),
    Below A₀ base outer h₀ → Fr h₀ L s.heap m → (Mine.hd.heap_39 w.params).In h₀ → News h₀ L s.heap news → Top Mine.hd.view_39 loose mean mg mb h₀ → cs.kind = .function → dp + k < recursionLimit → un + 100 * k < cLine →
    (∀ v h' tk' new, Fr h₀ L h' m → News h₀ L h' (new ++ news) → (∀ q ∈ news, ∀ p ∈ new, q.1 ≠ p.1) → Post v new → Q v { s with heap := h', toks := tk' }) →
    wpAny (model PySem.Challenge.rw_xg0026_01.row.prog w) (ktrTop dp un gd cn cs L a ccd cl outer) (call (.ref f) vs) Q E s
section
variable {w : World} {k : Nat} {f : Addr} {vs : List Value} {news : List (Addr × Obj)} {Post : Value → List (Addr × Obj) → Prop}
theorem ClZ.mk (C : ∀ (loose : List Str) (mean : ExcName → Option Value) (mg mb : Str → Option Value) (dp un : Nat) (gd : Option (List Code)) (cn : Str) (cs : Scope) (a : Addr) (ccd : Value) (cl : List (Str × Addr)) (outer : List Env) (A₀ : Around) (base h₀ : Heap) (L : Addr) (m : Str → Option Value) (s : Shared) (Q E : Value → Shared → Prop),
    Below A₀ base outer h₀ → Fr h₀ L s.heap m → (Mine.hd.heap_39 w.params).In h₀ → News h₀ L s.heap news → Top Mine.hd.view_39 loose mean mg mb h₀ → cs.kind = .function → dp + k < recursionLimit → un + 100 * k < cLine →
    (∀ v h' tk' new, Fr h₀ L h' m → News h₀ L h' (new ++ news) → (∀ q ∈ news, ∀ p ∈ new, q.1 ≠ p.1) → Post v new → Q v { s with heap := h', toks := tk' }) →
    codeAny (model PySem.Challenge.rw_xg0026_01.row.prog w) (ktrTop dp un gd cn cs L a ccd cl outer) (.call (.ref f) ⟨vs, []⟩) (fun r s' => match r with | .ok (.ret v) => Q v s' | .ok _ => False | .error e => E e s') s) : ClZ w k f vs news Post :=
  fun _ _ _ _ _ _ _ _ _ _ _ _ _ _ _ _ _ _ _ Q _ B F X N T hk hd hu ret => wpAny_call (C _ _ _ _ _ _ _ _ _ _ _ _ _ _ _ _ _ _ _ Q _ B F X N T hk hd hu ret)
theorem ClZ.cl (C : ClZ w k f vs news Post) : Cl w k f vs news Post :=
  fun _ _ _ _ _ _ _ _ _ _ _ _ _ _ _ _ _ _ _ Q _ B F X N T hk hd hu hs0 ret => toks_pos hs0 (C _ _ _ _ _ _ _ _ _ _ _ _ _ _ _ _ _ _ _ (fun v s' => 0 < s'.toks → Q v s') _ B F X N T hk hd hu (fun v h' tk' new F' N' l' p' hp => ret v h' tk' new hp F' N' l' p'))
theorem ClZ.use {loose : List Str} {mean : ExcName → Option Value} {mg mb : Str → Option Value} {dp un : Nat} {gd : Option (List Code)} {cn : Str} {cs : Scope} {a : Addr} {ccd : Value} {cl : List (Str × Addr)} {outer : List Env} {A₀ : Around} {base h₀ : Heap} {L : Addr} {m : Str → Option Value} {s : Shared} {Q E : Value → Shared → Prop} (C : ClZ w k f vs news Post) (B : Below A₀ base outer h₀) (F : Fr h₀ L s.heap m) (X : (Mine.hd.heap_39 w.params).In h₀) (N : News h₀ L s.heap news) (T : Top Mine.hd.view_39 loose mean mg mb h₀) (hk : cs.kind = .function) (hd : dp + k < recursionLimit) (hu : un + 100 * k < cLine)
    (ret : ∀ v h' tk' new, Fr h₀ L h' m → News h₀ L h' (new ++ news) → (∀ q ∈ news, ∀ p ∈ new, q.1 ≠ p.1) → Post v new → Q v { s with heap := h', toks := tk' }) :
    wpAny (model PySem.Challenge.rw_xg0026_01.row.prog w) (ktrTop dp un gd cn cs L a ccd cl outer) (call (.ref f) vs) Q E s :=
  C _ _ _ _ _ _ _ _ _ _ _ _ _ _ _ _ _ _ _ _ _ B F X N T hk hd hu ret
end
theorem no_new {news : List (Addr × Obj)} : ∀ q ∈ news, ∀ p ∈ ([] : List (Addr × Obj)), q.1 ≠ p.1 := fun _ _ _ h => nomatch h
theorem off_of {a : Addr} : ∀ {l : List (Addr × Obj)}, (∀ p ∈ l, p.1 ≠ a) → PyProof.Rows.LCg.Off1 a l
  | [], _ => trivial
  | p :: _, h => ⟨h p (.head _), off_of fun q hq => h q (.tail _ hq)⟩
theorem of_off {a : Addr} : ∀ {l : List (Addr × Obj)}, PyProof.Rows.LCg.Off1 a l → ∀ p ∈ l, p.1 ≠ a
  | [], _, _, hp => absurd hp (List.not_mem_nil)
  | _ :: _, h, p, hp => (List.mem_cons.mp hp).elim (fun e => by subst e; exact h.1) fun m => of_off h.2 p m
theorem new_off {news : List (Addr × Obj)} {a : Addr} {o : Obj} (h : ∀ q ∈ news, ∀ p ∈ [(a, o)], q.1 ≠ p.1) : PyProof.Rows.LCg.Off1 a news := off_of fun q hq => h q hq _ (.head _)
set_option maxHeartbeats 8000000 in
theorem t_nonterm (w : World) (x : Int) (t : Tok) (news : List (Addr × Obj)) : Cl w 2 121 [.int x t] news (fun v new => v = .bool (decide (256 ≤ x)) ∧ new = []) := by
  refine Cl.mk ?_
  k_fill
  intro loose mean mg mb dp un gd cn cs a ccd cl outer A₀ base h₀ L m s Q E B F X N T hk hd hu hs0 hret
  k_dflt cell_enter
  k_steps
  exact hret _ _ _ [] (by k_asm) (by k_asm) no_new ⟨rfl, rfl⟩
set_option maxHeartbeats 8000000 in
theorem t_iseof (w : World) (x : Int) (t : Tok) (news : List (Addr × Obj)) : Cl w 2 128 [.int x t] news (fun v new => v = .bool (x == 0) ∧ new = []) := by
  refine Cl.mk ?_
  k_fill
  intro loose mean mg mb dp un gd cn cs a ccd cl outer A₀ base h₀ L m s Q E B F X N T hk hd hu hs0 hret
  k_dflt cell_enter
  k_steps
  exact hret _ _ _ [] (by k_asm) (by k_asm) no_new ⟨rfl, rfl⟩
set_option maxHeartbeats 8000000 in
theorem t_iseofF (w : World) (x : UInt64) (t : Tok) (news : List (Addr × Obj)) : Cl w 2 128 [.float x t] news (fun v new => v = .bool (Float64.cmpInt x 0 == some .eq) ∧ new = []) := by
  refine Cl.mk ?_
  k_fill
  intro loose mean mg mb dp un gd cn cs a ccd cl outer A₀ base h₀ L m s Q E B F X N T hk hd hu hs0 hret
  k_dflt cell_enter
  k_steps
  exact hret _ _ _ [] (by k_asm) (by k_asm) no_new ⟨rfl, rfl⟩
theorem div256 {prog : Program} {w : World} {A : Around} {E : Value → Shared → Prop} {s : Shared} {a : Int} {t u : Tok} {Q : Value → Shared → Prop} (hb : a.natAbs < 2 ^ 53) (h : Q (.float (fl a) s.toks) { s with toks := s.toks + 1 }) : wpAny (model prog w) A (binaryOp .Div (.int a t) (.int 256 u)) Q E s := by
  have e : Float64.ofFrac (decide (a < 0) != decide ((256 : Int) < 0)) a.natAbs (256 : Int).natAbs = fl a := by
    unfold fl
    congr 1
    simp
  refine AutoIntOps.truediv_2 (by decide) ?_ ?_
  · exact PySem.Flt.quot_fits (by decide) (by omega)
  · rw [e]; exact h
theorem fmod_small {x n : Int} (h : 0 < n) (hn : n ≤ 2 ^ 52) : (x.fmod n).natAbs < 2 ^ 53 := by
  rw [Int.fmod_eq_emod_of_nonneg _ (by omega)]
  have := Int.emod_lt_of_pos x h
  have := Int.emod_nonneg x (show n ≠ 0 by omega)
  omega
theorem fmod_pos {x n : Int} (h : 0 < n) : x.fmod n = x % n := Int.fmod_eq_emod_of_nonneg _ (by omega)
section

theorem wds_Row_1 : True := by
  k_with_none
  k_with "execs cons" => (k_here; (refine gen_toks (by ((fail_if_success assumption); (fail_if_success exact PT.pos _); (first | exact Nat.succ_pos _ | (dsimp only; first | exact Nat.succ_pos _ | omega)))) ?_); (try dsimp only); (intro tkzz))
  k_with "execs nil" => (k_here; (refine gen_toks (by ((fail_if_success assumption); (fail_if_success exact PT.pos _); (first | exact Nat.succ_pos _ | (dsimp only; first | exact Nat.succ_pos _ | omega)))) ?_); (try dsimp only); (intro tkzz))
  k_with "call ref" => (k_here; (with_reducible show wpAny _ _ (call (Value.ref 121) _ _) _ _ _); k_dflt (refine Cl.use (t_nonterm _ _ _ _) (by k_asm) (by k_asm) (by k_asm) (by k_asm) (by k_asm) (by first | exact rfl | assumption) (by (first | exact rm2 (by assumption) rfl | exact rm1 (by assumption) rfl | exact rm0 (by assumption) | ktr_room)) (by (first | exact rm2 (by assumption) rfl | exact rm1 (by assumption) rfl | exact rm0 (by assumption) | ktr_units)) (by (first | assumption | exact PT.pos _ | exact Nat.succ_pos _ | (dsimp only; first | assumption | exact PT.pos _ | exact Nat.succ_pos _ | omega))) ?_); (intro v9zz h9zz tk9zz new9zz q9zz F9zz N9zz l9zz p9zz); (obtain ⟨ea9zz, eb9zz⟩ := p9zz); subst ea9zz; subst eb9zz; (try simp only [List.nil_append, List.cons_append] at N9zz); clear l9zz; (try k_sweep); (try dsimp only); (try k_fold); walk_say "CONTRACT 121")
  k_with "call ref" => (k_here; (with_reducible show wpAny _ _ (call (Value.ref 128) _ _) _ _ _); k_dflt (refine Cl.use (t_iseof _ _ _ _) (by k_asm) (by k_asm) (by k_asm) (by k_asm) (by k_asm) (by first | exact rfl | assumption) (by (first | exact rm2 (by assumption) rfl | exact rm1 (by assumption) rfl | exact rm0 (by assumption) | ktr_room)) (by (first | exact rm2 (by assumption) rfl | exact rm1 (by assumption) rfl | exact rm0 (by assumption) | ktr_units)) (by (first | assumption | exact PT.pos _ | exact Nat.succ_pos _ | (dsimp only; first | assumption | exact PT.pos _ | exact Nat.succ_pos _ | omega))) ?_); (intro v9zz h9zz tk9zz new9zz q9zz F9zz N9zz l9zz p9zz); (obtain ⟨ea9zz, eb9zz⟩ := p9zz); subst ea9zz; subst eb9zz; (try simp only [List.nil_append, List.cons_append] at N9zz); clear l9zz; (try k_sweep); (try dsimp only); (try k_fold); walk_say "CONTRACT 128")
  k_with "call ref" => (k_here; (with_reducible show wpAny _ _ (call (Value.ref 128) _ _) _ _ _); k_dflt (refine Cl.use (t_iseofF _ _ _ _) (by k_asm) (by k_asm) (by k_asm) (by k_asm) (by k_asm) (by first | exact rfl | assumption) (by (first | exact rm2 (by assumption) rfl | exact rm1 (by assumption) rfl | exact rm0 (by assumption) | ktr_room)) (by (first | exact rm2 (by assumption) rfl | exact rm1 (by assumption) rfl | exact rm0 (by assumption) | ktr_units)) (by (first | assumption | exact PT.pos _ | exact Nat.succ_pos _ | (dsimp only; first | assumption | exact PT.pos _ | exact Nat.succ_pos _ | omega))) ?_); (intro v9zz h9zz tk9zz new9zz q9zz F9zz N9zz l9zz p9zz); (obtain ⟨ea9zz, eb9zz⟩ := p9zz); subst ea9zz; subst eb9zz; (try simp only [List.nil_append, List.cons_append] at N9zz); clear l9zz; (try k_sweep); (try dsimp only); (try k_fold); walk_say "CONTRACT 128")
  trivial

def rowN (x : Int) : List Int := List.replicate (x / 256).toNat 256 ++ if x % 256 = 0 then [] else [x % 256]
theorem rowN_some {x : Int} {k : Nat} (h : x / 256 = k) (h1 : x % 256 ≠ 0) : rowN x = List.replicate k 256 ++ [x % 256] := by
  unfold rowN; rw [h, if_neg h1]; rfl
theorem rowN_none {x : Int} {k : Nat} (h : x / 256 = k) (h1 : x % 256 = 0) : rowN x = List.replicate k 256 := by
  unfold rowN; rw [h, if_pos h1, List.append_nil]; rfl
theorem wds_Row_2 : True := by
  k_with_none
  k_with "execs cons" => (k_here; (refine gen_toks (by ((fail_if_success assumption); (fail_if_success exact PT.pos _); (first | exact Nat.succ_pos _ | (dsimp only; first | exact Nat.succ_pos _ | omega)))) ?_); (try dsimp only); (intro tkzz))
  k_with "execs nil" => (k_here; (refine gen_toks (by ((fail_if_success assumption); (fail_if_success exact PT.pos _); (first | exact Nat.succ_pos _ | (dsimp only; first | exact Nat.succ_pos _ | omega)))) ?_); (try dsimp only); (intro tkzz))
  k_with "call ref" => (k_here; (with_reducible show wpAny _ _ (call (Value.ref 121) _ _) _ _ _); k_dflt (refine Cl.use (t_nonterm _ _ _ _) (by k_asm) (by k_asm) (by k_asm) (by k_asm) (by k_asm) (by first | exact rfl | assumption) (by (first | exact rm2 (by assumption) rfl | exact rm1 (by assumption) rfl | exact rm0 (by assumption) | ktr_room)) (by (first | exact rm2 (by assumption) rfl | exact rm1 (by assumption) rfl | exact rm0 (by assumption) | ktr_units)) (by (first | assumption | exact PT.pos _ | exact Nat.succ_pos _ | (dsimp only; first | assumption | exact PT.pos _ | exact Nat.succ_pos _ | omega))) ?_); (intro v9zz h9zz tk9zz new9zz q9zz F9zz N9zz l9zz p9zz); (obtain ⟨ea9zz, eb9zz⟩ := p9zz); subst ea9zz; subst eb9zz; (try simp only [List.nil_append, List.cons_append] at N9zz); clear l9zz; (try k_sweep); (try dsimp only); (try k_fold); walk_say "CONTRACT 121")
  k_with "call ref" => (k_here; (with_reducible show wpAny _ _ (call (Value.ref 128) _ _) _ _ _); k_dflt (refine Cl.use (t_iseof _ _ _ _) (by k_asm) (by k_asm) (by k_asm) (by k_asm) (by k_asm) (by first | exact rfl | assumption) (by (first | exact rm2 (by assumption) rfl | exact rm1 (by assumption) rfl | exact rm0 (by assumption) | ktr_room)) (by (first | exact rm2 (by assumption) rfl | exact rm1 (by assumption) rfl | exact rm0 (by assumption) | ktr_units)) (by (first | assumption | exact PT.pos _ | exact Nat.succ_pos _ | (dsimp only; first | assumption | exact PT.pos _ | exact Nat.succ_pos _ | omega))) ?_); (intro v9zz h9zz tk9zz new9zz q9zz F9zz N9zz l9zz p9zz); (obtain ⟨ea9zz, eb9zz⟩ := p9zz); subst ea9zz; subst eb9zz; (try simp only [List.nil_append, List.cons_append] at N9zz); clear l9zz; (try k_sweep); (try dsimp only); (try k_fold); walk_say "CONTRACT 128")
  k_with "call ref" => (k_here; (with_reducible show wpAny _ _ (call (Value.ref 128) _ _) _ _ _); k_dflt (refine Cl.use (t_iseofF _ _ _ _) (by k_asm) (by k_asm) (by k_asm) (by k_asm) (by k_asm) (by first | exact rfl | assumption) (by (first | exact rm2 (by assumption) rfl | exact rm1 (by assumption) rfl | exact rm0 (by assumption) | ktr_room)) (by (first | exact rm2 (by assumption) rfl | exact rm1 (by assumption) rfl | exact rm0 (by assumption) | ktr_units)) (by (first | assumption | exact PT.pos _ | exact Nat.succ_pos _ | (dsimp only; first | assumption | exact PT.pos _ | exact Nat.succ_pos _ | omega))) ?_); (intro v9zz h9zz tk9zz new9zz q9zz F9zz N9zz l9zz p9zz); (obtain ⟨ea9zz, eb9zz⟩ := p9zz); subst ea9zz; subst eb9zz; (try simp only [List.nil_append, List.cons_append] at N9zz); clear l9zz; (try k_sweep); (try dsimp only); (try k_fold); walk_say "CONTRACT 128")
  k_with "binaryOp Div int int" => (k_here; k_dflt (refine div256 (fmod_small (by decide) (by decide)) ?_))
  k_with "WhlIf" => (first | (refine WhlIf.yes (decide_eq_true (by omega)) ?_) | (refine WhlIf.no (decide_eq_false (by omega)) ?_))
  trivial
set_option maxHeartbeats 8000000 in
theorem t_rowZ (w : World) (x : Int) (t : Tok) (news : List (Addr × Obj)) (hx : 0 ≤ x ∧ x < 768) : ClZ w 10 154 [.int x t] news (fun v new => ∃ a n vs, v = .ref a ∧ new = [(a, listOf vs.toArray n)] ∧ Fls vs (rowN x)) := by
  refine ClZ.mk ?_
  k_fill
  intro loose mean mg mb dp un gd cn cs a ccd cl outer A₀ base h₀ L m s Q E B F X N T hk hd hu hret
  have h3 : x < 256 ∨ (256 ≤ x ∧ x < 512) ∨ (512 ≤ x) := by omega
  rcases h3 with h3 | h3 | h3
  all_goals (
    k_dflt cell_enter
    k_steps)
  all_goals (try simp only [fmod_pos (show (0 : Int) < 256 by decide)] at *)
  · exact hret _ _ _ [_] (by k_asm) (by k_asm) (one_new (by assumption)) ⟨_, _, [], rfl, rfl, by subst x; exact .nil⟩
  · refine hret _ _ _ [_] (by k_asm) (by k_asm) (one_new (by assumption)) ⟨_, _, [_], rfl, rfl, ?_⟩
    rw [rowN_some (k := 0) (by omega) (by omega)]; exact .cons _ _ (by (first | assumption | exact PT.ne _ | exact Nat.ne_of_gt (by assumption) | exact Nat.succ_ne_zero _ | exact Nat.ne_of_gt (by omega))) .nil
  · refine hret _ _ _ [_] (by k_asm) (by k_asm) (one_new (by assumption)) ⟨_, _, [_], rfl, rfl, ?_⟩
    rw [rowN_none (k := 1) (by omega) (by omega)]; (try rw [show (x - 256) % 256 = x % 256 by omega]); simp only [List.replicate, ← fl_one, List.cons_append, List.nil_append]; exact .cons _ _ (by (first | assumption | exact PT.ne _ | exact Nat.ne_of_gt (by assumption) | exact Nat.succ_ne_zero _ | exact Nat.ne_of_gt (by omega))) .nil
  · refine hret _ _ _ [_] (by k_asm) (by k_asm) (one_new (by assumption)) ⟨_, _, [_, _], rfl, rfl, ?_⟩
    rw [rowN_some (k := 1) (by omega) (by omega)]; (try rw [show (x - 256) % 256 = x % 256 by omega]); simp only [List.replicate, ← fl_one, List.cons_append, List.nil_append]; exact .cons _ _ (by (first | assumption | exact PT.ne _ | exact Nat.ne_of_gt (by assumption) | exact Nat.succ_ne_zero _ | exact Nat.ne_of_gt (by omega))) (.cons _ _ (by (first | assumption | exact PT.ne _ | exact Nat.ne_of_gt (by assumption) | exact Nat.succ_ne_zero _ | exact Nat.ne_of_gt (by omega))) .nil)
  · refine hret _ _ _ [_] (by k_asm) (by k_asm) (one_new (by assumption)) ⟨_, _, [_, _], rfl, rfl, ?_⟩
    rw [rowN_none (k := 2) (by omega) (by omega)]; (try rw [show (x - 256 - 256) % 256 = x % 256 by omega]); simp only [List.replicate, ← fl_one, List.cons_append, List.nil_append]; exact .cons _ _ (by (first | assumption | exact PT.ne _ | exact Nat.ne_of_gt (by assumption) | exact Nat.succ_ne_zero _ | exact Nat.ne_of_gt (by omega))) (.cons _ _ (by (first | assumption | exact PT.ne _ | exact Nat.ne_of_gt (by assumption) | exact Nat.succ_ne_zero _ | exact Nat.ne_of_gt (by omega))) .nil)
  · refine hret _ _ _ [_] (by k_asm) (by k_asm) (one_new (by assumption)) ⟨_, _, [_, _, _], rfl, rfl, ?_⟩
    rw [rowN_some (k := 2) (by omega) (by omega)]; (try rw [show (x - 256 - 256) % 256 = x % 256 by omega]); simp only [List.replicate, ← fl_one, List.cons_append, List.nil_append]; exact .cons _ _ (by (first | assumption | exact PT.ne _ | exact Nat.ne_of_gt (by assumption) | exact Nat.succ_ne_zero _ | exact Nat.ne_of_gt (by omega))) (.cons _ _ (by (first | assumption | exact PT.ne _ | exact Nat.ne_of_gt (by assumption) | exact Nat.succ_ne_zero _ | exact Nat.ne_of_gt (by omega))) (.cons _ _ (by (first | assumption | exact PT.ne _ | exact Nat.ne_of_gt (by assumption) | exact Nat.succ_ne_zero _ | exact Nat.ne_of_gt (by omega))) .nil))
theorem t_row (w : World) (x : Int) (t : Tok) (news : List (Addr × Obj)) (hx : 0 ≤ x ∧ x < 768) : Cl w 10 154 [.int x t] news (fun v new => ∃ a n vs, v = .ref a ∧ new = [(a, listOf vs.toArray n)] ∧ Fls vs (rowN x)) := (t_rowZ w x t news hx).cl
theorem wds_Row_3 : True := by
  k_with_none
  trivial
end
end Mine
end
section
open PySem PySem.W PyProof.Rows PySem.Calls
set_option Elab.async false
set_option maxRecDepth 100000
namespace Mine
theorem of_allLt {d : Addr} : ∀ {l : List (Addr × Obj)}, AllLt d l → ∀ p ∈ l, p.1 < d
  | [], _, _, hp => absurd hp (List.not_mem_nil)
  | _ :: _, h, p, hp => (List.mem_cons.mp hp).elim (fun e => by subst e; exact h.1) fun m => of_allLt h.2 p m
theorem sub1 {h₀ h : Heap} {L : Addr} {news big : List (Addr × Obj)} {x : Addr × Obj} (N : News h₀ L h big) (h1 : x ∈ big) (h2 : ∀ p ∈ news, p ∈ big) : News h₀ L h ([x] ++ news) := fun p hp => by
  rcases List.mem_cons.mp hp with rfl | hp
  · exact N _ h1
  · exact N _ (h2 _ hp)
theorem cl_b (n : Int) : 0 ≤ clamp n ∧ clamp n ≤ 256 := by unfold clamp; split <;> (try split) <;> omega
theorem drop1 {h₀ h : Heap} {L : Addr} {news : List (Addr × Obj)} {p : Addr × Obj} (N : News h₀ L h (p :: news)) : News h₀ L h news := fun q hq => N q (.tail _ hq)
section

theorem wds_Cut_1 : True := by
  k_with_none
  k_with "execs cons" => (k_here; (refine gen_toks (by ((fail_if_success assumption); (fail_if_success exact PT.pos _); (first | exact Nat.succ_pos _ | (dsimp only; first | exact Nat.succ_pos _ | omega)))) ?_); (try dsimp only); (intro tkzz))
  k_with "execs nil" => (k_here; (refine gen_toks (by ((fail_if_success assumption); (fail_if_success exact PT.pos _); (first | exact Nat.succ_pos _ | (dsimp only; first | exact Nat.succ_pos _ | omega)))) ?_); (try dsimp only); (intro tkzz))
  k_with "call ref" => (k_here; (with_reducible show wpAny _ _ (call (Value.ref 21) _ _) _ _ _); k_dflt (refine Cl.use (t_yiq _ _ _ _ _ _ (by assumption)) (by k_asm) (by k_asm) (by k_asm) (by k_asm) (by k_asm) (by first | exact rfl | assumption) (by (first | exact rm2 (by assumption) rfl | exact rm1 (by assumption) rfl | exact rm0 (by assumption) | ktr_room)) (by (first | exact rm2 (by assumption) rfl | exact rm1 (by assumption) rfl | exact rm0 (by assumption) | ktr_units)) (by (first | assumption | exact PT.pos _ | exact Nat.succ_pos _ | (dsimp only; first | assumption | exact PT.pos _ | exact Nat.succ_pos _ | omega))) ?_); (intro v9zz h9zz tk9zz new9zz q9zz F9zz N9zz l9zz p9zz); (obtain ⟨a9zz, k9zz, u0zz, u1zz, u2zz, ea9zz, eb9zz, n0zz, n1zz, n2zz⟩ := p9zz); subst ea9zz; subst eb9zz; (try simp only [List.nil_append, List.cons_append] at N9zz); (replace l9zz := new_off l9zz); (try (simp only [PyProof.Rows.LCg.Off1, and_true] at l9zz)); (try k_sweep); (try dsimp only); (try k_fold); walk_say "CONTRACT 21")
  trivial

set_option maxHeartbeats 8000000 in
theorem t_cut (w : World) (n : Int) (t : Tok) (news : List (Addr × Obj)) (hn : n.natAbs < 2 ^ 53) : Cl w 10 166 [.float (fl n) t] news (fun v new => (∃ u y, v = .float (fl y) u ∧ u ≠ 0 ∧ y = clamp n ∧ 0 ≤ y ∧ y ≤ 256) ∧ new = []) := by
  refine Cl.mk ?_
  k_fill
  intro loose mean mg mb dp un gd cn cs a ccd cl outer A₀ base h₀ L m s Q E B F X N T hk hd hu hs0 hret
  k_dflt cell_enter
  k_steps
  exact hret _ _ _ [] (by k_asm) (drop1 (by k_asm)) no_new ⟨⟨_, _, rfl, by (first | assumption | exact PT.ne _ | exact Nat.ne_of_gt (by assumption) | exact Nat.succ_ne_zero _ | exact Nat.ne_of_gt (by omega)), rfl, cl_b _⟩, rfl⟩
theorem wds_Cut_2 : True := by
  k_with_none
  trivial
end
end Mine
end
section
open PySem PySem.W PyProof.Rows PySem.Calls
set_option Elab.async false
set_option maxRecDepth 100000
namespace Mine
def odd (f : Str) : Bool := !(Builtin.Str.occurrences (Str.ofString "13579") (Txt.item f (-1)) 0 (Str.ofString "13579").length 1).isEmpty
def reply (k : Int) (f : Str) : Str :=
  if k = 0 then Str.ofString "229 here (|||" ++ f ++ Str.ofString "|)"
  else if k = 1 then Str.ofString "229 (!!!00" ++ f ++ Str.ofString "!) not (|||7|)"
  else if k = 2 then Str.ofString "229 (@@here@ +" ++ f ++ Str.ofString " @)"
  else if k = 3 then Str.ofString "200 here (|||" ++ f ++ Str.ofString "|)"
  else if k = 4 then if (Builtin.Str.occurrences (Str.ofString "13579") (Txt.item f (-1)) 0 (Str.ofString "13579").length 1).isEmpty = false then Str.ofString "229 here 2 " ++ f ++ Str.ofString " 2)" else Str.ofString "229 here (|||" ++ f ++ Str.ofString "|]"
  else if (Builtin.Str.occurrences (Str.ofString "13579") (Txt.item f (-1)) 0 (Str.ofString "13579").length 1).isEmpty = false then Str.ofString "229 here (|||" ++ f ++ Str.ofString "|!)" else Str.ofString "229 here (||" ++ f ++ Str.ofString "|)"
theorem str_ex {a b : Str} {t : Tok} (h : a = b) : ∃ u, Value.str a t = .str b u := ⟨t, by rw [h]⟩
section
theorem wds_Reply_1 : True := by
  k_with_none
  k_with "execs cons" => (k_here; (refine gen_toks (by ((fail_if_success assumption); (fail_if_success exact PT.pos _); (first | exact Nat.succ_pos _ | (dsimp only; first | exact Nat.succ_pos _ | omega)))) ?_); (try dsimp only); (intro tkzz))
  k_with "execs nil" => (k_here; (refine gen_toks (by ((fail_if_success assumption); (fail_if_success exact PT.pos _); (first | exact Nat.succ_pos _ | (dsimp only; first | exact Nat.succ_pos _ | omega)))) ?_); (try dsimp only); (intro tkzz))
  trivial

set_option maxHeartbeats 8000000 in
theorem t_reply (w : World) (k : Int) (f : Str) (t u : Tok) (news : List (Addr × Obj)) (hk : 0 ≤ k ∧ k < 6) (hf : 1 ≤ f.length ∧ f.length ≤ 3) : ClZ w 10 140 [.int k t, .str f u] news (fun v new => (∃ u, v = .str (reply k f) u) ∧ new = []) := by
  refine ClZ.mk ?_
  k_fill
  intro loose mean mg mb dp un gd cn cs a ccd cl outer A₀ base h₀ L m s Q E B F X N T hk hd hu hret
  k_dflt cell_enter
  k_steps
  all_goals (
    refine hret _ _ _ [] (by k_asm) (by k_asm) no_new ⟨str_ex ?_, rfl⟩
    unfold reply
    repeat' (first | rw [if_pos (by assumption)] | rw [if_neg (by assumption)] | rw [if_neg (fun q => by simp_all)]))
theorem wds_Reply_2 : True := by
  k_with_none
  trivial
end
end Mine
end
section
open PySem PySem.W PyProof.Rows PySem.Calls
set_option Elab.async false
set_option maxRecDepth 100000
namespace Mine
theorem len_of_split {l : List (Str × Tok)} {p : List Str} (h : List.map (fun x => x.1) l = p) : l.length = p.length := by rw [← h, List.length_map]
section
theorem wds_Told_1 : True := by
  k_with_none
  k_with "call ref" => (k_here; (with_reducible show wpAny _ _ (call (Value.ref 65) _ _) _ _ _); (refine wpAny_call ?_); k_dflt ((refine' code_def (by k_asm) (by k_asm) (by k_asm) (by k_asm) (by k_asm) (by exact rfl) (by exact rfl) (by first | exact rfl | assumption) (by k_is) (by k_is) (by (first | exact rm2 (by assumption) rfl | exact rm1 (by assumption) rfl | exact rm0 (by assumption) | ktr_room)) (by exact BindsTo.of_eq rfl) (by exact locs rfl) ?_ (by exact rfl) (by exact rfl) (by exact rfl) (by decide); k_whole; intro gqzz Lqzz hqzz FGqzz Fqzz Nqzz Bqzz Xqzz Tqzz; (try dsimp only); (try k_fold))); walk_say "ENTERED 65")
  trivial

set_option maxHeartbeats 8000000 in
theorem t_toldAll (w : World) (host r : Str) (t u : Tok) (news : List (Addr × Obj)) (P : Value → List (Addr × Obj) → Prop) (port : Int) (hr : 1 ≤ r.length ∧ r.length ≤ 50)
    (h2 : (Txt.slice r none (some 3) != Str.ofString "229") = false → 0 ≤ Txt.find r (Str.ofString "(") → Txt.find r (Str.ofString "(") + 1 < r.length) (h3 : (Txt.slice r none (some 3) != Str.ofString "229") = false → 0 ≤ Txt.find r (Str.ofString "(") → 0 ≤ Txt.find3 r (Str.ofString ")") (Txt.find r (Str.ofString "(") + 1) → 1 ≤ Txt.find3 r (Str.ofString ")") (Txt.find r (Str.ofString "(") + 1) ∧ Txt.find3 r (Str.ofString ")") (Txt.find r (Str.ofString "(") + 1) - 1 < r.length)
    (h6 : (Txt.slice r none (some 3) != Str.ofString "229") = false → 0 ≤ Txt.find r (Str.ofString "(") → 0 ≤ Txt.find3 r (Str.ofString ")") (Txt.find r (Str.ofString "(") + 1) → (Txt.item r (Txt.find r (Str.ofString "(") + 1) != Txt.item r (Txt.find3 r (Str.ofString ")") (Txt.find r (Str.ofString "(") + 1) - 1)) = false → (Txt.split (Txt.slice r (some (Txt.find r (Str.ofString "(") + 1)) (some (Txt.find3 r (Str.ofString ")") (Txt.find r (Str.ofString "(") + 1)))) (Txt.item r (Txt.find r (Str.ofString "(") + 1))).length = 5 → ∀ y, (Txt.split (Txt.slice r (some (Txt.find r (Str.ofString "(") + 1)) (some (Txt.find3 r (Str.ofString ")") (Txt.find r (Str.ofString "(") + 1)))) (Txt.item r (Txt.find r (Str.ofString "(") + 1)))[3]? = some y → PySem.intText? y = some port ∧ y.length ≤ 640)
    (p1 : (Txt.slice r none (some 3) != Str.ofString "229") = true → ∀ u, P (.str (Str.ofString "another code") u) [])
    (p2 : (Txt.slice r none (some 3) != Str.ofString "229") = false → Txt.find r (Str.ofString "(") < 0 → ∀ u, P (.str (Str.ofString "a sign lacks") u) [])
    (p3 : (Txt.slice r none (some 3) != Str.ofString "229") = false → 0 ≤ Txt.find r (Str.ofString "(") → Txt.find3 r (Str.ofString ")") (Txt.find r (Str.ofString "(") + 1) < 0 → ∀ u, P (.str (Str.ofString "a sign lacks") u) [])
    (p4 : (Txt.slice r none (some 3) != Str.ofString "229") = false → 0 ≤ Txt.find r (Str.ofString "(") → 0 ≤ Txt.find3 r (Str.ofString ")") (Txt.find r (Str.ofString "(") + 1) → (Txt.item r (Txt.find r (Str.ofString "(") + 1) != Txt.item r (Txt.find3 r (Str.ofString ")") (Txt.find r (Str.ofString "(") + 1) - 1)) = true → ∀ u, P (.str (Str.ofString "a sign lacks") u) [])
    (p5 : (Txt.slice r none (some 3) != Str.ofString "229") = false → 0 ≤ Txt.find r (Str.ofString "(") → 0 ≤ Txt.find3 r (Str.ofString ")") (Txt.find r (Str.ofString "(") + 1) → (Txt.item r (Txt.find r (Str.ofString "(") + 1) != Txt.item r (Txt.find3 r (Str.ofString ")") (Txt.find r (Str.ofString "(") + 1) - 1)) = false → (Txt.split (Txt.slice r (some (Txt.find r (Str.ofString "(") + 1)) (some (Txt.find3 r (Str.ofString ")") (Txt.find r (Str.ofString "(") + 1)))) (Txt.item r (Txt.find r (Str.ofString "(") + 1))).length ≠ 5 → ∀ u, P (.str (Str.ofString "a sign lacks") u) [])
    (p6 : (Txt.slice r none (some 3) != Str.ofString "229") = false → 0 ≤ Txt.find r (Str.ofString "(") → 0 ≤ Txt.find3 r (Str.ofString ")") (Txt.find r (Str.ofString "(") + 1) → (Txt.item r (Txt.find r (Str.ofString "(") + 1) != Txt.item r (Txt.find3 r (Str.ofString ")") (Txt.find r (Str.ofString "(") + 1) - 1)) = false → (Txt.split (Txt.slice r (some (Txt.find r (Str.ofString "(") + 1)) (some (Txt.find3 r (Str.ofString ")") (Txt.find r (Str.ofString "(") + 1)))) (Txt.item r (Txt.find r (Str.ofString "(") + 1))).length = 5 → ∀ a n u0 u1, P (.ref a) [(a, tupO [.str host u0, .int port u1] n)]) : Cl0 w 10 147 [.str host t, .str r u] news P := by
  refine Cl0.mk ?_
  k_fill
  intro loose mean mg mb dp un gd cn cs a ccd cl A₀ base h₀ L m s Q E B F X XB N T TB hk hd hu hret
  k_dflt (refine' code_defS0X ?k1 ?k2 ?k3 ?k4 ?k5 ?kA ?k6 ?k7 ?k8 ?k9 ?kB ?_ ?cK ?c2 ?c3 ?c4 ?c5; (case kA => exact rfl); (case k2 => k_asm); (case k1 => k_asm); (case k3 => k_asm); (case k4 => k_asm); (case k5 => k_asm); (case k6 => k_is); (case k7 => k_is); (case k8 => (first | exact rm2 (by assumption) rfl | exact rm1 (by assumption) rfl | exact rm0 (by assumption) | ktr_room)); (case k9 => exact BindsTo.of_eq rfl); (case kB => exact locs rfl); (case cK => first | exact rfl | assumption); (case c2 => exact rfl); (case c3 => exact rfl); (case c4 => exact rfl); (case c5 => decide); k_whole; intro g' L' h' FG' F' N' B' X' T' D'; (try dsimp only); (try k_fold))
  k_steps
  · exact hret _ _ _ [] (by k_asm) (drop1 (by k_asm)) no_new (p1 (by assumption) _)
  · exact hret _ _ _ [] (by k_asm) (drop1 (by k_asm)) no_new (p2 (by assumption) (by assumption) _)
  · exact hret _ _ _ [] (by k_asm) (drop1 (by k_asm)) no_new (p3 (by assumption) (Int.not_lt.mp (by assumption)) (by assumption) _)
  rename (_ = false) => s1
  rename (¬ Txt.find r _ < 0) => s2
  rename (¬ Txt.find3 r _ _ < 0) => s3
  replace s2 := Int.not_lt.mp s2
  replace s3 := Int.not_lt.mp s3
  have b1 := h2 s1 s2
  have b2 := h3 s1 s2 s3
  clear h2 h3
  k_steps
  · exact hret _ _ _ [] (by k_asm) (drop1 (by k_asm)) no_new (p4 s1 s2 s3 (by assumption) _)
  · rename (List.map _ _ = Txt.split _ _) => hl
    rename (((_ : Nat) : Int) ≠ 5) => h9
    rename News h₀ L _ _ => kN9
    exact hret _ _ _ [] (by k_asm) (fun p hp => kN9 p (by first | exact hp | exact .tail _ hp | exact .tail _ (.tail _ hp) | exact .tail _ (.tail _ (.tail _ hp)) | exact .tail _ (.tail _ (.tail _ (.tail _ hp))))) no_new (p5 s1 s2 s3 (by assumption) (fun e => h9 (by rw [len_of_split hl, e]; rfl)) _)
  · rename (List.map _ _ = Txt.split _ _) => hl
    rename (((_ : Nat) : Int) = 5) => h9
    have h8 := Int.ofNat.inj h9
    rw [len_of_split hl] at h8
    rename_i y9 u9 e9
    have e8 := h6 s1 s2 s3 (by assumption) h8 y9 (by rw [← hl]; exact e9)
    refine KIN.call_text e8.1 e8.2 ?_
    k_steps
    rename News h₀ L _ _ => kN9
    rename (_ ∧ _ ∧ AllLt _ news) => l9
    exact hret _ _ _ [_] (by k_asm) (sub1 kN9 (.head _) (fun p hp => .tail _ (.tail _ (.tail _ hp)))) (one_new (of_allLt l9.2.2)) (p6 s1 s2 s3 (by assumption) h8 _ _ _ _)
theorem wds_Told_2 : True := by
  k_with_none
  trivial
end
end Mine
end
section
open PySem PySem.W PyProof.Rows PySem.Calls PyProof.Rows.LCg
set_option Elab.async false
set_option maxRecDepth 100000
namespace Mine
/-- a turn's end, under a name that no line of the walk takes -/
def TurnEnd (h₀ : Heap) (L : Addr) (s₁ : Shared) (its : List (Addr × Obj)) (rest : (Str → Option Value) → List (Addr × Obj) → Prop) (Q : Flow → Shared → Prop) (f : Flow) (s₂ : Shared) : Prop := UnrPostW h₀ L s₁ its rest Q f s₂
theorem post_mono {h₀ : Heap} {L : Addr} {s₁ : Shared} {its : List (Addr × Obj)} {rest rest' : (Str → Option Value) → List (Addr × Obj) → Prop} {Q : Flow → Shared → Prop} {f : Flow} {s₂ : Shared} (h : UnrPostW h₀ L s₁ its rest Q f s₂) (k : ∀ m n, rest m n → rest' m n) : UnrPostW h₀ L s₁ its rest' Q f s₂ := by
  unfold UnrPostW at *
  cases f with
  | ret v => exact h
  | brk => exact h
  | next => obtain ⟨h', tk, m', n', e, F, N, o, r⟩ := h; exact ⟨h', tk, m', n', e, F, N, o, k _ _ r⟩
  | cont => obtain ⟨h', tk, m', n', e, F, N, o, r⟩ := h; exact ⟨h', tk, m', n', e, F, N, o, k _ _ r⟩
section
variable {prog : Program} {w : World} {A : Around} {E : Value → Shared → Prop} {s : Shared} {env : Env} {h₀ : Heap} {target : Expr} {body : List Stmt} {Q : Flow → Shared → Prop}
theorem items_inv {I : Addr} {c : String} {p : Addr × Obj} {xs : List Itm} (J : Nat → (Str → Option Value) → List (Addr × Obj) → Prop)
    (turn : ∀ i a v m nx o h tk, xs[i]? = some a → a.Is v h → J i m nx → o.cls = .type c → Fr h₀ env.locals h m → News h₀ env.locals h ((I, o) :: nx) →
      wpAny (model prog w) A (assign target env v) (fun _ s₂ => wpAny (model prog w) A (execs body env) (TurnEnd h₀ env.locals { s with heap := h, toks := tk } [(I, o)] (fun m' n' => p ∈ n' ∧ J (i + 1) m' n') Q) E s₂) E { s with heap := h, toks := tk })
    (done : ∀ m nx h tk, J xs.length m nx → Fr h₀ env.locals h m → News h₀ env.locals h nx → Q .next { s with heap := h, toks := tk }) :
    ∀ k i m nx, k + i = xs.length → J i m nx → ItemsRest prog w A E h₀ env target body Q s [(I, c)] [p] (xs.drop i) m nx := by
  intro k
  induction k with
  | zero =>
    intro i m nx hk hj
    have : xs.drop i = [] := List.drop_of_length_le (by omega)
    rw [this]
    have e : i = xs.length := by omega
    subst e
    exact fun h tk F N => done m nx h tk hj F N
  | succ k ih =>
    intro i m nx hk hj
    have hlt : i < xs.length := by omega
    have hx : xs[i]? = some xs[i] := List.getElem?_eq_getElem hlt
    rw [List.drop_eq_getElem_cons hlt]
    intro v h tk hv F
    refine AllObj.cons fun o ho => AllObj.nil ?_
    intro N
    refine wpAny_mono (turn i xs[i] v m nx o h tk hx hv hj ho F N) (fun _ s₂ q => ?_) fun _ _ e => e
    refine wpAny_mono q (fun f s₃ r => ?_) fun _ _ e => e
    refine post_mono r fun m' n' z => ⟨And.intro z.1 trivial, ?_⟩
    exact ih (i + 1) m' n' (by omega) z.2
/-- a for over a list of the ledger, by what holds between its turns -/
theorem for_list {ax : Addr} {vs : List Value} {n : Nat} {m₀ : Str → Option Value} {news nx₀ : List (Addr × Obj)} (J : Nat → (Str → Option Value) → List (Addr × Obj) → Prop)
    (hh : A.handled = none) (F : Fr h₀ env.locals s.heap m₀) (N : News h₀ env.locals s.heap news) (hs : ∀ p ∈ nx₀, p ∈ news) (hm : (ax, listOf vs.toArray n) ∈ nx₀) (hj : J 0 m₀ nx₀)
    (turn : ∀ I, (∀ p ∈ nx₀, p.1 < I) → ∀ i v m nx o h tk, vs[i]? = some v → J i m nx → o.cls = .type "list_iterator" → Fr h₀ env.locals h m → News h₀ env.locals h ((I, o) :: nx) →
      wpAny (model prog w) A (assign target env v) (fun _ s₂ => wpAny (model prog w) A (execs body env) (TurnEnd h₀ env.locals { s with heap := h, toks := tk } [(I, o)] (fun m' n' => (ax, listOf vs.toArray n) ∈ n' ∧ J (i + 1) m' n') Q) E s₂) E { s with heap := h, toks := tk })
    (done : ∀ m nx h tk, J vs.length m nx → Fr h₀ env.locals h m → News h₀ env.locals h nx → Q .next { s with heap := h, toks := tk }) :
    wpAny (model prog w) A (pyIter (.ref ax)) (fun it s₂ => TurnsAt prog w A h₀ env target body Q E it s₂) E s := by
  refine iter_listTurns (lo := listOf vs.toArray n) (n := n) hh F (fun p hp => N p (hs p hp)) hm rfl rfl fun I hI => ?_
  have := items_inv (prog := prog) (w := w) (A := A) (E := E) (s := s) (env := env) (h₀ := h₀) (target := target) (body := body) (Q := Q) (I := I) (c := "list_iterator") (p := (ax, listOf vs.toArray n)) (xs := vs.map Itm.val) J
    (fun i a v m nx o h tk ha hv hj ho F N => by
      rw [List.getElem?_map] at ha
      obtain ⟨u, hu, rfl⟩ := Option.map_eq_some_iff.mp ha
      have e : v = u := hv
      subst e
      exact turn I hI i v m nx o h tk hu hj ho F N)
    (fun m nx h tk hj F N => done m nx h tk (by rwa [List.length_map] at hj) F N) (vs.map Itm.val).length 0 m₀ nx₀ (by simp) hj
  simpa using this
/-- a for over a range by ones, by what holds between its turns -/
theorem for_range {r : Addr} {x : Str} {px : Pos} {a b : Int} {t u v : Tok} {n : Nat} {m₀ : Str → Option Value} {news nx₀ : List (Addr × Obj)} (J : Nat → (Str → Option Value) → List (Addr × Obj) → Prop)
    (hh : A.handled = none) (F : Fr h₀ env.locals s.heap m₀) (N : News h₀ env.locals s.heap news) (hs : ∀ p ∈ nx₀, p ∈ news) (hr : IsRange s.heap r a b 1 t u v) (hsm : Builtin.Range.small a b 1 = true) (hn : Builtin.Range.rangeSize a b 1 = ((n : Nat) : Int)) (hj : J 0 m₀ nx₀)
    (turn : ∀ I, (∀ p ∈ nx₀, p.1 < I) → ∀ i t m nx o h tk, i < n → J i m nx → o.cls = .type "range_iterator" → Fr h₀ env.locals h m → News h₀ env.locals h ((I, o) :: nx) →
      wpAny (model prog w) A (assign (.Name x px) env (.int (a + (i : Int)) t)) (fun _ s₂ => wpAny (model prog w) A (execs body env) (TurnEnd h₀ env.locals { s with heap := h, toks := tk } [(I, o)] (fun m' n' => J (i + 1) m' n') Q) E s₂) E { s with heap := h, toks := tk })
    (done : ∀ m nx h tk, J n m nx → Fr h₀ env.locals h m → News h₀ env.locals h nx → Q .next { s with heap := h, toks := tk }) :
    wpAny (model prog w) A (pyIter (.ref r)) (fun it s₂ => TurnsAt prog w A h₀ env (.Name x px) body Q E it s₂) E s := by
  have N₀ : News h₀ env.locals s.heap nx₀ := fun p hp => N p (hs p hp)
  refine wpAny_pyIter_range hr hsm ?_
  rw [hn]
  have W := Walks.range (prog := prog) (w := w) hh s.heap.objs.size a 1 n
  refine ktu_core (tk0 := s.toks) (keep := []) (ws := [(s.heap.objs.size, "range_iterator")]) (xs := (List.range n).map fun (j : Nat) => Itm.tok fun t => .int (a + (j : Int)) t) (KTurns.ofWalks W.bound fun i v s Q E st q => ?_) (by simp) (fun i v h hp => ?_) (fun i h st => ?_) (fun b hb => ?_) (fun b hb => by simpa using hb) (fun b hb => ?_) ?_ (fun p hp hI => ?_) ?_ (F.push _) (fun p hp => ⟨Heap.get?_push_of_some _ (N₀ p hp).1, (N₀ p hp).2⟩) trivial ?_
  · exact wpAny_of_eq rfl q
  · obtain ⟨hi, t, e⟩ := hp
    exact ⟨.tok fun t => .int (a + (i : Int)) t, by simp [hi], t, by rw [e, Int.mul_one]⟩
  · exact ⟨[(s.heap.objs.size, _)], ⟨⟨rfl, rfl⟩, trivial⟩, fun p hp => by rw [List.mem_singleton.mp hp]; exact st⟩
  · have hb' : b = s.heap.objs.size := by simpa using hb
    rw [hb']
    exact ⟨List.mem_cons_self .., next_is_new F⟩
  · exact .inl hb
  · intro hI
    exact absurd F.ns.lt ((List.mem_singleton.mp hI) ▸ Nat.lt_irrefl _)
  · exact absurd (Heap.lt_size (N₀ p hp).1) ((List.mem_singleton.mp hI) ▸ Nat.lt_irrefl _)
  · show IsRangeIter _ _ _ _ _
    have := Heap.get?_push_size s.heap (o := { cls := .type "range_iterator", data := .fields #[rawInt a, rawInt (n : Int), rawInt 1] }) rfl
    simpa using this
  · have hI : ∀ p ∈ nx₀, p.1 < s.heap.objs.size := fun p hp => Heap.lt_size (N₀ p hp).1
    have key : ∀ k i m nx, k + i = n → J i m nx → ItemsRest prog w A E h₀ env (.Name x px) body Q s [(s.heap.objs.size, "range_iterator")] [] (((List.range n).map fun (j : Nat) => Itm.tok fun t => Value.int (a + (j : Int)) t).drop i) m nx := by
      intro k
      induction k with
      | zero =>
        intro i m nx hk hj
        rw [List.drop_of_length_le (by simp; omega)]
        have e : i = n := by omega
        subst e
        exact fun h tk F N => done m nx h tk hj F N
      | succ k ih =>
        intro i m nx hk hj
        have hlt : i < ((List.range n).map fun (j : Nat) => Itm.tok fun t => Value.int (a + (j : Int)) t).length := by simp; omega
        rw [List.drop_eq_getElem_cons hlt]
        intro v h tk hv F
        refine AllObj.cons fun o ho => AllObj.nil ?_
        intro N
        have hv' : ∃ t, v = Value.int (a + (i : Int)) t := by simpa [Itm.Is] using hv
        obtain ⟨t, rfl⟩ := hv'
        refine wpAny_mono (turn _ hI i t m nx o h tk (by omega) hj ho F N) (fun _ s₂ q => ?_) fun _ _ e => e
        refine wpAny_mono q (fun f s₃ r => ?_) fun _ _ e => e
        exact post_mono r fun m' n' z => ⟨trivial, ih (i + 1) m' n' (by omega) z⟩
    have := key n 0 m₀ nx₀ (by omega) hj
    simpa using this
/-- the end of a turn that goes on -/
theorem TurnEnd.go {L I : Addr} {o : Obj} {rest : (Str → Option Value) → List (Addr × Obj) → Prop} {s₁ : Shared} {h' : Heap} {tk : Nat} {m' : Str → Option Value} {all : List (Addr × Obj)} (nx' : List (Addr × Obj)) (F : Fr h₀ L h' m') (N : News h₀ L h' all)
    (hI : (I, o) ∈ all) (hs : ∀ p ∈ nx', p ∈ all) (off : ∀ p ∈ nx', p.1 ≠ I ∨ p.2.cls ≠ o.cls) (r : rest m' nx') : TurnEnd h₀ L s₁ [(I, o)] rest Q .next { s₁ with heap := h', toks := tk } := by
  refine ⟨h', tk, m', nx', rfl, F, fun p hp => ?_, fun p hp q hq e => ?_, r⟩
  · rcases List.mem_append.mp hp with hp | hp
    · rw [List.mem_singleton.mp hp]; exact N _ hI
    · exact N _ (hs p hp)
  · have hq' := List.mem_singleton.mp hq
    subst hq'
    have h1 := (N _ (hs p hp)).1
    have h2 := (N _ hI).1
    rw [e] at h1
    exact (off p hp).elim (fun k => k e) fun k => k (congrArg Obj.cls (Option.some.inj (h1.symm.trans h2)))
theorem TurnEnd.back {L : Addr} {its : List (Addr × Obj)} {rest : (Str → Option Value) → List (Addr × Obj) → Prop} {s₁ s₂ : Shared} {v : Value} (h : Q (.ret v) s₂) : TurnEnd h₀ L s₁ its rest Q (.ret v) s₂ := h
end
/-- what stands behind a piece of the walk, as one variable -/
theorem post_open {α : Type} {M : Model} {A : Around} {t : Sem α} {T : α → Shared → Prop} {E : Value → Shared → Prop} {s : Shared} (h : ∀ R : α → Shared → Prop, (∀ v s', T v s' → R v s') → wpAny M A t R E s) : wpAny M A t T E s := h T fun _ _ x => x
theorem turn_open {α β : Type} {M : Model} {A : Around} {t : Sem α} {c : Sem β} {T : β → Shared → Prop} {E : Value → Shared → Prop} {s : Shared} (h : ∀ R : β → Shared → Prop, (∀ v s', T v s' → R v s') → wpAny M A t (fun _ s₂ => wpAny M A c R E s₂) E s) : wpAny M A t (fun _ s₂ => wpAny M A c T E s₂) E s := h T fun _ _ x => x
/-- a comprehension's element handed on, under a name that no line of the walk takes -/
def EltEnd (h₀ : Heap) (L : Addr) (m : Str → Option Value) (s₁ : Shared) (I : Addr) (oI : Obj) (C : Addr) (oC : Obj) (D : Addr) (oD : Obj) (S : List (Addr × Obj) → Prop) (rest : Value → List (Addr × Obj) → Prop) (y : Value) (s₂ : Shared) : Prop :=
  CompEnd h₀ L m s₁ I oI C oC D oD S rest y s₂
theorem end_mono {h₀ : Heap} {L : Addr} {m : Str → Option Value} {s₁ : Shared} {I : Addr} {oI : Obj} {C : Addr} {oC : Obj} {D : Addr} {oD : Obj} {S : List (Addr × Obj) → Prop} {rest rest' : Value → List (Addr × Obj) → Prop} {y : Value} {s₂ : Shared}
    (h : EltEnd h₀ L m s₁ I oI C oC D oD S rest y s₂) (k : ∀ y n, rest y n → rest' y n) : CompEnd h₀ L m s₁ I oI C oC D oD S rest' y s₂ := by
  obtain ⟨h', tk, n', e, F, N, o, hS, r⟩ := h
  exact ⟨h', tk, n', e, F, N, o, hS, k _ _ r⟩
section
variable {prog : Program} {w : World} {A : Around} {s : Shared} {env : Env} {h₀ : Heap} {L : Addr} {m : Str → Option Value} {elt : Expr} {x : Str} {scope : Scope} {cl : List (Str × Addr)} {S : List (Addr × Obj) → Prop} {P : Nat → Value → Prop} {Fin : List Value → List (Addr × Obj) → Prop}
theorem comp_inv {n : Nat} (J : Nat → List Value → List (Addr × Obj) → Prop)
    (turn : ∀ i ys nx, i < n → J i ys nx → ∀ v I oI C oC D m₂ h tk (E' : Value → Shared → Prop), P i v → NsObj oC m₂ → m₂ x = some v → Fr h₀ L h m → News h₀ L h ((I, oI) :: (C, oC) :: (D, lst ys) :: nx) → Off3 I C D nx → ((@Ne Nat I C) ∧ (@Ne Nat I D) ∧ (@Ne Nat C D)) →
      wpAny (model prog w) A (eval elt (compEnvC scope cl C env)) (EltEnd h₀ L m { s with heap := h, toks := tk } I oI C oC D (lst ys) S (fun y nx' => J (i + 1) (ys ++ [y]) nx')) E' { s with heap := h, toks := tk })
    (fin : ∀ ys nx, J n ys nx → Fin ys nx) : ∀ k i ys nx, k + i = n → J i ys nx → CompRest prog w A h₀ L m env elt x scope cl s S P Fin k i ys nx := by
  intro k
  induction k with
  | zero => intro i ys nx hk hj; exact fin ys nx (by have e : i = n := by omega
                                                     subst e; exact hj)
  | succ k ih =>
    intro i ys nx hk hj v I oI C oC D m₂ h tk E' hP hN hx F N o3 ne
    refine wpAny_mono (turn i ys nx (by omega) hj v I oI C oC D m₂ h tk E' hP hN hx F N o3 ne) (fun y s₂ q => ?_) fun _ _ e => e
    exact end_mono q fun y n z => ih (i + 1) (ys ++ [y]) n (by omega) z
/-- what a range of any step gives a comprehension -/
def RangeSrc (prog : Program) (w : World) (A : Around) (h₀ : Heap) (L : Addr) (m : Str → Option Value) (env : Env) (elt : Expr) (x : Str) (scope : Scope) (cl : List (Str × Addr)) (Fin : Shared → List Value → List (Addr × Obj) → Prop) (xv : Value) (s₁ : Shared) : Prop :=
  ∃ r a b c t u v n news, xv = .ref r ∧ A.handled = none ∧ Fr h₀ L s₁.heap m ∧ News h₀ L s₁.heap news ∧ IsRange s₁.heap r a b c t u v ∧ Builtin.Range.small a b c = true ∧ Builtin.Range.rangeSize a b c = ((n : Nat) : Int) ∧ n ≤ sizeLine ∧
      ∀ s₂ : Shared, (∃ h, s₂ = { s₁ with heap := h }) → CompRest prog w A h₀ L m env elt x scope cl s₂ (fun _ => True) (fun i v => ∃ t, v = .int (a + (i : Int) * c) t) (Fin s₂) n 0 [] news
/-- a comprehension over a range of any step -/
theorem ListComp_R {iter : Expr} {px : Pos} {pos : Pos} {Q : Value → Shared → Prop} {E : Value → Shared → Prop} (F₀ : Fr h₀ L s.heap m)
    (hclos : closureFor scope env = pure cl) (hcell : ∀ y ∈ scope.names, y.2 ≠ .cell) (hkind : scope.kind = .function)
    (hnames : ∀ y ∈ scope.names, y.2 = .local → scope.names.lookup y.1 = some .local) (hx : scope.names.lookup x = some .local)
    (h : wpAny (model prog w) A (eval iter env) (RangeSrc prog w A h₀ L m env elt x scope cl fun s₂ => FinE h₀ L m s₂ Q) E s)
    (hs : ∀ x, foldedSetIterable iter env x = pure x := by intro _; rfl) :
    wpAny (model prog w) A (eval (.ListComp elt [⟨.Name x px, iter, [], 0⟩] scope pos) env) Q E s := by
  rw [eval_ListComp]
  refine wpAny_comprehension_free (use := none) rfl hs hclos hkind hnames (wpAny_mono h (fun xv s₁ h₁ => ?_) fun _ _ e => e)
  obtain ⟨r, a, b, c, t, u, v, n, news, rfl, hh, F, N, hr, hsm, hn, hsz, R⟩ := h₁
  refine wpAny_pyIter_range hr hsm ?_
  have hI : (s₁.heap.push { cls := .type "range_iterator", data := .fields #[rawInt a, rawInt (Builtin.Range.rangeSize a b c), rawInt c] }).get? s₁.heap.objs.size = some { cls := .type "range_iterator", data := .fields #[rawInt a, rawInt (Builtin.Range.rangeSize a b c), rawInt c] } := Heap.get?_push_size _ rfl
  refine block_U (Walks.range hh s₁.heap.objs.size a c n) hsz (fun i h st => ⟨_, st⟩) (fun i h h' o nw st e e' _ _ _ => ?_) hcell hkind hx (by show IsRangeIter _ _ _ _ _; rw [hn] at hI ⊢; simpa using hI) (fun b hb => ?_)
      (F.keeps fun _ _ e => Heap.get?_push_of_some _ e) (N.grown fun _ _ e => Heap.get?_push_of_some _ e) (Nat.ne_of_lt F.ns.lt) (next_is_new F) (fun p hp => Nat.ne_of_lt (Heap.lt_size (N p hp).1)) trivial (R _ ⟨_, rfl⟩) ?_
  · have st' : h.get? s₁.heap.objs.size = some _ := st
    show h'.get? s₁.heap.objs.size = some _
    rw [e', ← e]; exact st'
  · rw [List.mem_singleton.mp hb]
    show s₁.heap.objs.size < (s₁.heap.push _).objs.size
    rw [Heap.size_push]; exact Nat.lt_succ_self _
  · intro D C h' tk m' ys news' F' N' o1 hn hC₀ hD₀ hCL hDL hCD offC fin
    refine ⟨m', hn, fun h'' hs'' => fin D h'' tk (F'.change hs'' hCL hC₀) (fun p hp => ?_) o1⟩
    refine ⟨hs''.extBut _ _ ?_ (N' p hp).1, (N' p hp).2⟩
    rcases List.mem_cons.mp hp with rfl | hp
    · exact Ne.symm hCD
    · exact offC p hp
end
end Mine
end
section
open PySem PySem.W PyProof.Rows PySem.Calls PyProof.Rows.LCg
set_option Elab.async false
set_option maxRecDepth 100000
namespace Mine
/-- the walk stops here -/
def Held (P : Prop) : Prop := P
theorem Held.of {P : Prop} (h : Held P) : P := h
theorem rowN_due {x : Int} (h : 0 ≤ x) : rowN x = (List.range ((x + 255) / 256).toNat).map fun j : Nat => min 256 (x - 256 * (j : Int)) := by
  obtain ⟨k, hk⟩ := Int.eq_ofNat_of_zero_le (Int.ediv_nonneg h (show (0 : Int) ≤ 256 by decide))
  have h2 := Int.emod_nonneg x (show (256 : Int) ≠ 0 by decide)
  have h1 : x = 256 * (k : Int) + x % 256 := by rw [← hk]; exact (Int.mul_ediv_add_emod x 256).symm
  have big : ∀ i, i < k → (256 : Int) = min 256 (x - 256 * (i : Int)) := fun i hi => (Int.min_eq_left (by omega)).symm
  have hm : (List.replicate k (256 : Int)) = (List.range k).map fun j : Nat => min 256 (x - 256 * (j : Int)) := by
    refine List.ext_getElem (by rw [List.length_replicate, List.length_map, List.length_range]) fun i q1 q2 => ?_
    rw [List.getElem_replicate, List.getElem_map, List.getElem_range]
    exact big i (by rwa [List.length_replicate] at q1)
  unfold rowN
  rw [hk, show ((k : Nat) : Int).toNat = k from rfl, hm]
  by_cases h0 : x % 256 = 0
  · rw [if_pos h0, List.append_nil, show ((x + 255) / 256).toNat = k by omega]
  · have h3 : (x + 255) / 256 = (k : Int) + 1 := by omega
    have h4 := Int.emod_lt_of_pos x (show (0 : Int) < 256 by decide)
    rw [if_neg h0, h3, show ((k : Int) + 1).toNat = k + 1 from rfl, List.range_succ, List.map_append]
    congr 1
    show [x % 256] = [min 256 (x - 256 * (k : Int))]
    rw [Int.min_eq_right (by omega)]
    congr 1; omega
section
theorem wds_Due_1 : True := by
  k_with_none
  k_with "binaryOp Div int int" => (k_here; k_dflt (refine div256 (by omega) ?_))
  k_with "eval ListComp" => (k_here; (refine Held.of ?_))
  trivial
set_option maxHeartbeats 8000000 in
theorem t_dueZ (w : World) (x : Int) (t : Tok) (news : List (Addr × Obj)) (hx : 0 ≤ x ∧ x < 4096) : ClZ w 10 159 [.int x t] news (fun v new => ∃ a n vs, v = .ref a ∧ new = [(a, listOf vs.toArray n)] ∧ Fls vs (rowN x)) := by
  refine ClZ.mk ?_
  k_fill
  intro loose mean mg mb dp un gd cn cs a ccd cl outer A₀ base h₀ L m s Q E B F X N T hk hd hu hret
  k_dflt (refine' code_defC ?k1 ?k2 ?k3 ?k4 ?k5 ?kA ?kF ?kK ?k6 ?k7 ?k8 ?k9 ?kB ?kD ?_ ?c2 ?c3 ?c4; (case kA => exact rfl); (case kF => exact rfl); (case kK => first | exact rfl | assumption); (case k1 => k_asm); (case k2 => k_asm); (case k3 => k_asm); (case k4 => k_asm); (case k5 => k_asm); (case k6 => k_is); (case k7 => k_is); (case k8 => (first | exact rm2 (by assumption) rfl | exact rm1 (by assumption) rfl | exact rm0 (by assumption) | ktr_room)); (case k9 => exact BindsTo.of_eq rfl); (case kB => exact rfl); (case kD => decide +kernel); (case c2 => exact rfl); (case c3 => exact rfl); (case c4 => exact rfl); k_whole; intro g' L' h' tk' cells' FG' F' N' Y' B' X' T' l1; (try k_lt l1); k_cells Y'; (try simp only [List.cons_append, List.nil_append] at N'); (try dsimp only); (try k_fold))
  k_steps
  unfold Held
  with_reducible apply ListComp_R
  case F₀ => k_asm
  case hclos => with_unfolding_all rfl
  case hcell => decide
  case hkind => with_unfolding_all rfl
  case hnames => decide
  case hx => with_unfolding_all rfl
  case hs => intro _; with_unfolding_all rfl
  case h =>
    k_steps
    rename_i t₁ u₁ v₁ hr Fx Nx kx
    refine ⟨_, _, _, _, _, _, _, ((x + 255) / 256).toNat, _, rfl, rfl, Fx, Nx, hr, ?_, ?_, ?_, ?_⟩
    · unfold Builtin.Range.small Builtin.Range.rangeSize; simp [Builtin.Range.rangeFitsLong]; (repeat' split) <;> omega
    · unfold Builtin.Range.rangeSize
      rw [if_pos (by decide)]
      split <;> omega
    · rw [sizeLine_eq]; omega
    · rintro s₂ ⟨h₂, rfl⟩
      refine comp_inv (J := fun i ys nx => nx = (L' + 1, _) :: news ∧ Fls ys ((List.range i).map fun (j : Nat) => min 256 (x - 256 * (j : Int)))) ?_ ?_ _ _ _ _ (Nat.add_zero _) ⟨rfl, .nil⟩
      · rintro i ys nx hi ⟨rfl, hy⟩ v I oI C oC D m₂ h tk E' ⟨t9, rfl⟩ hN hx9 F9 N9 o3 ne
        refine post_open ?_
        intro R9 hR9
        have hi' : (i : Int) * 256 ≤ x := by omega
        k_steps
        refine hR9 _ _ ?_; refine CompEnd.intro (by k_asm) (by k_asm) _ (fun p hp => hp) o3 trivial ⟨rfl, ?_⟩
        rw [List.range_succ, List.map_append]
        rw [show (if x - (0 + (i : Int) * 256) < 256 then x - (0 + (i : Int) * 256) else 256) = min 256 (x - 256 * (i : Int)) by omega]
        exact hy.snoc _ _ (by (first | assumption | exact PT.ne _ | exact Nat.ne_of_gt (by assumption) | exact Nat.succ_ne_zero _ | exact Nat.ne_of_gt (by omega)))
      · rintro ys nx ⟨rfl, hy⟩ D h9 tk9 F9 N9 o9
        k_steps
        rename News h₀ L _ _ => kN9
        refine hret _ _ _ [_] (by k_asm) (sub1 kN9 (.head _) fun p hp => .tail _ (.tail _ hp)) (one_off (of_off o9.2)) ⟨_, _, ys, rfl, rfl, ?_⟩
        rw [rowN_due hx.1]; exact hy
theorem t_due (w : World) (x : Int) (t : Tok) (news : List (Addr × Obj)) (hx : 0 ≤ x ∧ x < 4096) : Cl w 10 159 [.int x t] news (fun v new => ∃ a n vs, v = .ref a ∧ new = [(a, listOf vs.toArray n)] ∧ Fls vs (rowN x)) := (t_dueZ w x t news hx).cl
theorem wds_Due_2 : True := by
  k_with_none
  trivial
end
end Mine
end
section
open PySem PySem.W PyProof.Rows PySem.Calls PyProof.Rows.LCg
set_option Elab.async false
set_option maxRecDepth 100000
namespace Mine
/-- the names of a frame that are known -/
def Loc (m : Str → Option Value) : List (Str × Value) → Prop
  | [] => True
  | p :: r => m p.1 = some p.2 ∧ Loc m r
theorem Loc.all {m : Str → Option Value} : ∀ {ps : List (Str × Value)}, Loc m ps → ∀ p ∈ ps, m p.1 = some p.2
  | [], _, _, h => absurd h List.not_mem_nil
  | _ :: _, h, p, hp => (List.mem_cons.mp hp).elim (fun e => by subst e; exact h.1) fun k => Loc.all h.2 p k
theorem Loc.fr {h₀ h : Heap} {L : Addr} {m : Str → Option Value} {ps : List (Str × Value)} (l : Loc m ps) (F : Fr h₀ L h m) : Fr h₀ L h (kstB m ps) := by
  have e : kstB m ps = m := funext fun z => kstB_eq l.all fun _ => rfl
  rw [e]; exact F
theorem rowN_len {a : Int} (h : 0 ≤ a) : (rowN a).length = ((a + 255) / 256).toNat := by rw [rowN_due h]; simp
theorem rowN_get {a : Int} (h : 0 ≤ a) {k : Nat} (hk : k < ((a + 255) / 256).toNat) : (rowN a)[k]? = some (clamp (a - 256 * (k : Int))) := by
  rw [rowN_due h]
  simp only [List.getElem?_map, List.getElem?_range hk, Option.map_some]
  congr 1
  unfold clamp
  split <;> (try split) <;> omega
/-- how many lights a port fills -/
def pl (a : Int) : Int := (a + 255) / 256
theorem pl_b {a : Int} (h : 0 ≤ a ∧ a < 4096) : 0 ≤ pl a ∧ pl a ≤ 16 := by unfold pl; omega
theorem pl_hi (a : Int) : a ≤ 256 * pl a := by unfold pl; omega
theorem pl_lo (a : Int) : 256 * pl a ≤ a + 255 := by unfold pl; omega
theorem pl_add (a b : Int) : pl (a + b) ≤ pl a + pl b := by
  have h1 := pl_hi a
  have h2 := pl_hi b
  have h3 := pl_lo (a + b)
  omega
section
variable {prog : Program} {w : World} {A : Around} {E : Value → Shared → Prop} {s : Shared} {Q : Value → Shared → Prop}
theorem addF {a b : Int} {t u : Tok} (ha : a.natAbs < 2 ^ 53) (hb : b.natAbs < 2 ^ 53) (hc : (a + b).natAbs < 2 ^ 53) (h : Q (.float (fl (a + b)) s.toks) { s with toks := s.toks + 1 }) : wpAny (model prog w) A (binaryOp .Add (.float (fl a) t) (.float (fl b) u)) Q E s :=
  AutoFloatOps.add_0 (by rw [add_fl ha hb hc]; exact h)
theorem subF {a b : Int} {t u : Tok} (ha : a.natAbs < 2 ^ 53) (hb : b.natAbs < 2 ^ 53) (hc : (a - b).natAbs < 2 ^ 53) (h : Q (.float (fl (a - b)) s.toks) { s with toks := s.toks + 1 }) : wpAny (model prog w) A (binaryOp .Sub (.float (fl a) t) (.float (fl b) u)) Q E s :=
  AutoFloatOps.sub_0 (by rw [sub_fl ha hb hc]; exact h)
theorem sub1F {a : Int} {t u : Tok} (ha : a.natAbs < 2 ^ 53) (hc : (a - 256).natAbs < 2 ^ 53) (h : Q (.float (fl (a - 256)) s.toks) { s with toks := s.toks + 1 }) : wpAny (model prog w) A (binaryOp .Sub (.float (fl a) t) (.float 4607182418800017408 u)) Q E s := by
  have := subF (prog := prog) (w := w) (A := A) (E := E) (s := s) (Q := Q) (a := a) (b := 256) (t := t) (u := u) ha (by decide) hc h
  rw [fl_one] at this
  exact this
theorem item_row {value slice : Expr} {l : Addr} {vs : List Value} {a k : Int} {u : Tok} (hl : s.heap.IsList l vs.toArray) (hf : Fls vs (rowN a)) (ha : 0 ≤ a ∧ a < 4096) (h0 : 0 ≤ k) (h1 : k < pl a)
    (h : ∀ t y, t ≠ 0 → y = clamp (a - 256 * k) → 0 ≤ y → y ≤ 256 → Q (.float (fl y) t) s)
    (hs : subscripted slice false (.ref l) (.int k u) = operate [.ref l, .int k u] (getItem (.ref l) (.int k u)) := by with_unfolding_all rfl) (hg : ∀ r, letTemporaryGo value (.ref l) r = pure () := by intro _; with_unfolding_all rfl) :
    wpAny (model prog w) A (subscriptTail value slice (.ref l) (.int k u)) Q E s := by
  have e0 : ((k.toNat : Nat) : Int) = k := Int.toNat_of_nonneg h0
  have hlt : k.toNat < ((a + 255) / 256).toNat := (Int.toNat_lt_toNat (Int.lt_of_le_of_lt h0 h1)).mpr h1
  obtain ⟨t, ht, e⟩ := hf.get (rowN_get ha.1 (k := k.toNat) hlt)
  rw [e0] at e
  exact subscriptTail_builtin hl.typeIs slot_list_getitem.lookup (wpAny_getItem_list hl h0 (Int.lt_of_lt_of_le h1 (Int.le_trans (pl_b ha).2 (by decide))) (by simpa using e) (h t _ ht rfl (cl_b _).1 (cl_b _).2)) hs hg
theorem item_last {value slice : Expr} {l : Addr} {vs : List Value} {n : Int} {t u : Tok} (hl : s.heap.IsList l (vs ++ [Value.float (fl n) t]).toArray)
    (h : Q (.float (fl n) t) s)
    (hs : subscripted slice false (.ref l) (.int (-1) u) = operate [.ref l, .int (-1) u] (getItem (.ref l) (.int (-1) u)) := by with_unfolding_all rfl) (hg : ∀ r, letTemporaryGo value (.ref l) r = pure () := by intro _; with_unfolding_all rfl) :
    wpAny (model prog w) A (subscriptTail value slice (.ref l) (.int (-1) u)) Q E s := by
  have hk : ((-1 : Int) + ((vs ++ [Value.float (fl n) t]).toArray.size : Int)).toNat = vs.length := by simp; omega
  exact subscriptTail_builtin hl.typeIs slot_list_getitem.lookup (wpAny_getItem_list_neg hl (by decide) (by simp; omega) (by decide) (by rw [hk]; simp) h) hs hg
theorem len_row {l : Addr} {vs : List Value} {a : Int} (hl : s.heap.IsList l vs.toArray) (hf : Fls vs (rowN a)) (ha : 0 ≤ a ∧ a < 4096) (h : Q (.int (pl a) (s.toks + 1)) { s with toks := s.toks + 1 + 1 }) : wpAny (model prog w) A (call (.builtin "len") [.ref l]) Q E s := by
  have e : ((vs.toArray.size : Nat) : Int) = pl a := by rw [List.size_toArray, hf.length, rowN_len ha.1]; exact Int.toNat_of_nonneg (pl_b ha).1
  refine len_list hl ?_ ?_
  · have := (pl_b ha).2
    rw [← e] at this
    omega
  · rw [e]; exact h
end
/-- the light n of a sum, when the first k lights of the second row are in -/
def part (a b n k : Int) : Int := clamp (a + min b (256 * k) - 256 * n)
theorem clamp_mm (n : Int) : clamp n = max 0 (min n 256) := by unfold clamp; split <;> (try split) <;> omega
theorem clamp_neg {u : Int} (h : u ≤ 0) : clamp u = 0 := by
  unfold clamp; split
  · rfl
  · rw [if_neg (by omega)]; omega
theorem clamp_id {u : Int} (h : 0 ≤ u) (k : u ≤ 256) : clamp u = u := by
  unfold clamp; rw [if_neg (Int.not_lt.mpr h), if_neg (Int.not_lt.mpr k)]
theorem clamp_big {u : Int} (h : 256 ≤ u) : clamp u = 256 := by
  unfold clamp; rw [if_neg (by omega)]; split
  · rfl
  · omega
theorem clamp_clamp (u : Int) : clamp (clamp u) = clamp u := clamp_id (cl_b u).1 (cl_b u).2
theorem clamp_add {u v : Int} (hu : 0 ≤ u) (hv : 0 ≤ v) : clamp (clamp u + clamp v) = clamp (u + v) := by
  by_cases h : u ≤ 256
  · by_cases k : v ≤ 256
    · rw [clamp_id hu h, clamp_id hv k]
    · have := (cl_b u).1
      rw [clamp_big (u := v) (by omega), clamp_big (by omega), clamp_big (by omega)]
  · have := (cl_b v).1
    rw [clamp_big (u := u) (by omega), clamp_big (by omega), clamp_big (by omega)]
theorem part_aux {u c : Int} (h0 : 0 ≤ c) (h1 : c ≤ 256) : clamp (clamp u + clamp (clamp (u + 256) + c - 256)) = clamp (u + c) := by
  by_cases h : u < 0
  · rw [clamp_neg (u := u) (Int.le_of_lt h), Int.zero_add, clamp_clamp]
    by_cases k : u < -256
    · rw [clamp_neg (u := u + 256) (by omega), clamp_neg (by omega), clamp_neg (by omega)]
    · rw [clamp_id (u := u + 256) (by omega) (by omega), show u + 256 + c - 256 = u + c by omega]
  · rw [clamp_big (u := u + 256) (by omega), show (256 : Int) + c - 256 = c by omega, clamp_add (Int.not_lt.mp h) h0]
theorem part_step {a b n k : Int} (hb : 0 ≤ b) (hk : 0 ≤ k) : clamp (part a b n k + clamp (clamp (a - 256 * (n - 1 - k)) + clamp (b - 256 * k) - 256)) = part a b n (k + 1) := by
  unfold part
  by_cases h : b ≤ 256 * k
  · have cb := cl_b (a - 256 * (n - 1 - k))
    rw [clamp_neg (u := b - 256 * k) (by omega), clamp_neg (u := clamp (a - 256 * (n - 1 - k)) + 0 - 256) (by omega), Int.add_zero, clamp_clamp, Int.min_eq_left h, Int.min_eq_left (show b ≤ 256 * (k + 1) by omega)]
  · have cb := cl_b (b - 256 * k)
    rw [Int.min_eq_right (show 256 * k ≤ b by omega), show a - 256 * (n - 1 - k) = (a + 256 * k - 256 * n) + 256 by omega, part_aux cb.1 cb.2]
    by_cases g : b ≤ 256 * (k + 1)
    · rw [Int.min_eq_left g, clamp_id (u := b - 256 * k) (by omega) (by omega)]
      congr 1; omega
    · rw [Int.min_eq_right (show 256 * (k + 1) ≤ b by omega), clamp_big (u := b - 256 * k) (by omega)]
      congr 1; omega
theorem part_start {a b n k : Int} (hb : 0 ≤ b) (hk : k = max 0 (n - pl a)) {l : Int} (hl : l = if n < pl a then clamp (a - 256 * n) else 0) : l = part a b n k := by
  subst hl hk
  unfold part
  split
  · rw [Int.max_eq_left (by omega), Int.mul_zero, Int.min_eq_right hb, Int.add_zero]
  · rw [Int.max_eq_right (by omega)]
    have h1 := pl_hi a
    have h2 : min b (256 * (n - pl a)) ≤ 256 * (n - pl a) := Int.min_le_right _ _
    rw [clamp_neg (by omega)]
theorem part_end {a b n k : Int} (hb : 0 ≤ b) (hn : 0 ≤ n) (ha : 0 ≤ a) (hk : k = min n (pl b)) : (n < pl b → clamp (part a b n k + clamp (b - 256 * n)) = clamp (a + b - 256 * n)) ∧ (¬ n < pl b → part a b n k = clamp (a + b - 256 * n)) := by
  subst hk
  unfold part
  have h1 := pl_lo b
  have h2 := pl_hi b
  constructor
  · intro h
    rw [Int.min_eq_left (Int.le_of_lt h), Int.min_eq_right (show 256 * n ≤ b by omega), show a + 256 * n - 256 * n = a by omega, clamp_add ha (by omega)]
    congr 1; omega
  · intro h
    rw [Int.min_eq_right (Int.not_lt.mp h), Int.min_eq_left h2]
end Mine
end
section
open PySem PySem.W PyProof.Rows PySem.Calls PyProof.Rows.LCg
set_option Elab.async false
set_option maxRecDepth 100000
namespace Mine
theorem with_addr {α : Prop} {h₀ h : Heap} {L R : Addr} {o : Obj} {news : List (Addr × Obj)} (_N : News h₀ L h ((R, o) :: news)) (k : ∀ R', R' = R → α) : α := k R rfl
theorem range1_small {a b : Int} (ha : -1000000 ≤ a ∧ a ≤ 1000000) (hb : -1000000 ≤ b ∧ b ≤ 1000000) : Builtin.Range.small a b 1 = true := by
  unfold Builtin.Range.small Builtin.Range.rangeSize
  simp [Builtin.Range.rangeFitsLong]
  (repeat' split) <;> omega
theorem range1_size {a b : Int} {n : Nat} (h : n = (b - a).toNat) : Builtin.Range.rangeSize a b 1 = (n : Int) := by
  unfold Builtin.Range.rangeSize
  rw [if_pos (by decide), h]
  split <;> omega
theorem ne_snoc {prog : Program} {w : World} {A : Around} {E : Value → Shared → Prop} {s : Shared} {Q : Value → Shared → Prop} {l b : Addr} {us : List Value} {v : Value} (hl : s.heap.IsList l (us ++ [v]).toArray) (hb : s.heap.IsList b #[]) (hu : A.units < cLine) (h : Q (.bool true) s) :
    wpAny (model prog w) A (compareOp .NotEq (.ref l) (.ref b)) Q E s := ne_nil hl hb hu (by rw [show (us ++ [v]).isEmpty = false by simp]; exact h)
theorem if_max (x : Int) : (if x > 0 then x else 0) = max 0 x := by
  split
  · rw [Int.max_eq_right (by omega)]
  · rw [Int.max_eq_left (by omega)]
theorem if_min (x y : Int) : (if y < x then y else x) = min x y := by
  split
  · rw [Int.min_eq_right (by omega)]
  · rw [Int.min_eq_left (by omega)]
theorem small0 : (-1000000 : Int) ≤ 0 ∧ (0 : Int) ≤ 1000000 := by decide
theorem small_sum {x y : Int} (hx : 0 ≤ x ∧ x ≤ 16) (hy : 0 ≤ y ∧ y ≤ 16) : -1000000 ≤ x + y ∧ x + y ≤ 1000000 := by omega
theorem small_lo {i lo x y : Int} (h : lo = max 0 (i - x)) (hx : 0 ≤ x ∧ x ≤ 16) (hy : 0 ≤ y ∧ y ≤ 16) (h0 : 0 ≤ i) (hi : i < x + y) : -1000000 ≤ lo ∧ lo ≤ 1000000 := by omega
theorem small_up {i up y : Int} (h : up = min i y) (hy : 0 ≤ y ∧ y ≤ 16) (h0 : 0 ≤ i) : -1000000 ≤ up ∧ up ≤ 1000000 := by omega
theorem turn_in {i p q lo up : Int} {k : Nat} (hlo : lo = max 0 (i - p)) (hup : up = min i q) (hk : k < (up - lo).toNat) : 0 ≤ lo + k ∧ lo + k < q ∧ 0 ≤ i - 1 - (lo + k) ∧ i - 1 - (lo + k) < p := by
  have h := Int.lt_toNat.mp hk
  have h1 : 0 ≤ lo := by omega
  have h2 : i - p ≤ lo := by omega
  have h3 : up ≤ i := by omega
  have h4 : up ≤ q := by omega
  clear hlo hup hk
  omega
theorem turn_end {i p q lo up : Int} (hlo : lo = max 0 (i - p)) (hup : up = min i q) (h0 : 0 ≤ i) (hp : 0 ≤ p ∧ p ≤ 16) (hq : 0 ≤ q ∧ q ≤ 16) (hi : i < p + q) : lo + (((up - lo).toNat : Nat) : Int) = min i q := by
  rw [← hup, Int.toNat_of_nonneg]
  · omega
  · have h1 : lo ≤ i := by omega
    have h2 : lo ≤ q := by omega
    rw [hup]
    have : lo ≤ min i q := Int.le_min.mpr ⟨h1, h2⟩
    omega
theorem light_no {x : Int} {n : Nat} (h : clamp (x - 256 * (n : Int)) = 0) : (pl x).toNat ≤ n := by
  have h1 := pl_lo x
  have h2 : x - 256 * (n : Int) ≤ 0 := Int.not_lt.mp fun k => by
    by_cases g : x - 256 * (n : Int) ≤ 256
    · rw [clamp_id (Int.le_of_lt k) g] at h; omega
    · rw [clamp_big (by omega)] at h; cases h
  refine Int.toNat_le.mpr ?_
  omega
theorem light_yes {x : Int} {n : Nat} (h : ¬ clamp (x - 256 * (n : Int)) = 0) (h1 : (pl x).toNat ≤ n + 1) : n + 1 = ((x + 255) / 256).toNat := by
  have h2 : 0 < x - 256 * (n : Int) := Int.not_le.mp fun k => h (clamp_neg k)
  have h3 := pl_hi x
  refine Nat.le_antisymm ?_ h1
  show n + 1 ≤ (pl x).toNat
  have h4 : ((n + 1 : Nat) : Int) ≤ pl x := by omega
  exact (Int.le_toNat (by omega)).mpr h4
theorem le64 {x y : Int} (hx : 0 ≤ x ∧ x ≤ 16) (hy : 0 ≤ y ∧ y ≤ 16) : (x + y).toNat ≤ 64 := by omega
theorem le_size {n i : Nat} {x y : Int} (e : n = i) (hx : 0 ≤ x ∧ x ≤ 16) (hy : 0 ≤ y ∧ y ≤ 16) (hi : (i : Int) < x + y) : n ≤ 16777216 := by omega
theorem rowN_range {x : Int} {n : Nat} (h : 0 ≤ x) (hn : n = ((x + 255) / 256).toNat) : rowN x = (List.range n).map fun j : Nat => clamp (x - 256 * (j : Int)) := by
  rw [rowN_due h, ← hn]
  refine List.map_congr_left fun j hj => ?_
  have := List.mem_range.mp hj
  rw [clamp_mm]; omega
theorem last_snoc (us : List Value) (v : Value) : kl_last (us ++ [v]).toArray.toList = some (us, v) := by
  show kl_last (us ++ [v]) = some (us, v)
  induction us with
  | nil => rfl
  | cons u us ih => rw [List.cons_append, kl_last, ih]
theorem t_iseofL (w : World) (n : Int) (t : Tok) (news : List (Addr × Obj)) (hn : n.natAbs < 2 ^ 53) : Cl w 2 128 [.float (fl n) t] news (fun v new => v = .bool (decide (n = 0)) ∧ new = []) := by
  have e : (Float64.cmpInt (fl n) 0 == some .eq) = decide (n = 0) := by
    rw [cmpInt_fl hn, Int.mul_zero]
    rcases Int.lt_trichotomy n 0 with h | h | h
    · rw [Int.compare_eq_lt.mpr h]
      have : ¬ n = 0 := by omega
      simp [this]
    · subst h; simp
    · rw [Int.compare_eq_gt.mpr h]
      have : ¬ n = 0 := by omega
      simp [this]
  rw [← e]
  exact t_iseofF w _ t news
section



theorem wds_Sum_1 : True := by
  k_with_none
  k_with "execs cons" => (k_here; (refine gen_toks (by ((fail_if_success assumption); (fail_if_success exact PT.pos _); (first | exact Nat.succ_pos _ | (dsimp only; first | exact Nat.succ_pos _ | omega)))) ?_); (try dsimp only); (intro tkzz))
  k_with "execs nil" => (k_here; (refine gen_toks (by ((fail_if_success assumption); (fail_if_success exact PT.pos _); (first | exact Nat.succ_pos _ | (dsimp only; first | exact Nat.succ_pos _ | omega)))) ?_); (try dsimp only); (intro tkzz))
  k_with "exec For Name Call cons nil" => (k_here; k_dflt (refine For_turns (by k_asm) ?_))
  k_with "exec For Name Name cons nil" => (k_here; k_dflt (refine For_turns (by k_asm) ?_))
  k_with "exec For Tuple Name cons nil" => (k_here; k_dflt (refine For_turns (by k_asm) ?_))
  k_with "exec For Tuple Call cons nil" => (k_here; k_dflt (refine For_turns (by k_asm) ?_))
  k_with "exec For Name Subscript cons nil" => (k_here; k_dflt (refine For_turns (by k_asm) ?_))
  k_with "exec For Tuple Attribute cons nil" => (k_here; k_dflt (refine For_turns (by k_asm) ?_))
  k_with "pyIter ref" => ((with_reducible show wpAny _ _ (pyIter (Value.ref _)) (fun it s₂ => TurnsAt _ _ _ _ _ _ _ _ _ it s₂) _ _); (refine Held.of ?_))
  k_with "subscriptTail" => (k_here; (with_reducible show wpAny _ _ (subscriptTail _ _ (Value.ref _) (Value.int _ _)) _ _ _); k_dflt (refine' item_row (News.isList (by k_asm) (by (first | k_memK | k_ownIn))) (by assumption) (by first | assumption | omega) (by first | assumption | exact Int.natCast_nonneg _ | omega) (by first | assumption | omega) ?_); intro t9zz y9zz n9zz e9zz a9zz b9zz)
  k_with "call builtin:len" => (k_here; (with_reducible show wpAny _ _ (call (Value.builtin "len") [Value.ref _]) _ _ _); k_dflt (refine' len_row (News.isList (by k_asm) (by (first | k_memK | k_ownIn))) (by assumption) (by first | assumption | omega) ?_))
  k_with "binaryOp Add float float" => (k_here; k_dflt (refine' addF (by (first | exact sm (by assumption) (by assumption) | exact smA (by assumption) | exact sm1 (by assumption) (by assumption) | exact sm2 (by assumption) (by assumption) (by assumption) (by assumption) | exact sm2A (by assumption) (by assumption) (by assumption) | exact sm3 (by assumption) (by assumption) (by assumption) (by assumption) | omega)) (by (first | exact sm (by assumption) (by assumption) | exact smA (by assumption) | exact sm1 (by assumption) (by assumption) | exact sm2 (by assumption) (by assumption) (by assumption) (by assumption) | exact sm2A (by assumption) (by assumption) (by assumption) | exact sm3 (by assumption) (by assumption) (by assumption) (by assumption) | omega)) (by (first | exact sm (by assumption) (by assumption) | exact smA (by assumption) | exact sm1 (by assumption) (by assumption) | exact sm2 (by assumption) (by assumption) (by assumption) (by assumption) | exact sm2A (by assumption) (by assumption) (by assumption) | exact sm3 (by assumption) (by assumption) (by assumption) (by assumption) | omega)) ?_))
  k_with "binaryOp Sub float float" => (k_here; (refine' sub1F (by (first | exact sm (by assumption) (by assumption) | exact smA (by assumption) | exact sm1 (by assumption) (by assumption) | exact sm2 (by assumption) (by assumption) (by assumption) (by assumption) | exact sm2A (by assumption) (by assumption) (by assumption) | exact sm3 (by assumption) (by assumption) (by assumption) (by assumption) | omega)) (by (first | exact sm (by assumption) (by assumption) | exact smA (by assumption) | exact sm1 (by assumption) (by assumption) | exact sm2 (by assumption) (by assumption) (by assumption) (by assumption) | exact sm2A (by assumption) (by assumption) (by assumption) | exact sm3 (by assumption) (by assumption) (by assumption) (by assumption) | omega)) ?_))
  k_with "call ref" => (k_here; (with_reducible show wpAny _ _ (call (Value.ref 166) _ _) _ _ _); k_dflt (refine Cl.use (t_cut _ _ _ _ (by (first | exact sm (by assumption) (by assumption) | exact smA (by assumption) | exact sm1 (by assumption) (by assumption) | exact sm2 (by assumption) (by assumption) (by assumption) (by assumption) | exact sm2A (by assumption) (by assumption) (by assumption) | exact sm3 (by assumption) (by assumption) (by assumption) (by assumption) | omega))) (by k_asm) (by k_asm) (by k_asm) (by k_asm) (by k_asm) (by first | exact rfl | assumption) (by (first | exact rm2 (by assumption) rfl | exact rm1 (by assumption) rfl | exact rm0 (by assumption) | ktr_room)) (by (first | exact rm2 (by assumption) rfl | exact rm1 (by assumption) rfl | exact rm0 (by assumption) | ktr_units)) (by (first | assumption | exact PT.pos _ | exact Nat.succ_pos _ | (dsimp only; first | assumption | exact PT.pos _ | exact Nat.succ_pos _ | omega))) ?_); (intro v9zz h9zz tk9zz new9zz q9zz F9zz N9zz l9zz p9zz); (obtain ⟨⟨u9zz, y9zz, ea9zz, t9zz, z9zz, x9zz, w9zz⟩, eb9zz⟩ := p9zz); subst ea9zz; subst eb9zz; (try simp only [List.nil_append, List.cons_append] at N9zz); clear l9zz; (try k_sweep); (try dsimp only); (try k_fold); walk_say "CONTRACT 166")
  trivial



theorem wds_Sum_2 : True := by
  k_with_none
  k_with "execs cons" => (k_here; (refine gen_toks (by ((fail_if_success assumption); (fail_if_success exact PT.pos _); (first | exact Nat.succ_pos _ | (dsimp only; first | exact Nat.succ_pos _ | omega)))) ?_); (try dsimp only); (intro tkzz))
  k_with "execs nil" => (k_here; (refine gen_toks (by ((fail_if_success assumption); (fail_if_success exact PT.pos _); (first | exact Nat.succ_pos _ | (dsimp only; first | exact Nat.succ_pos _ | omega)))) ?_); (try dsimp only); (intro tkzz))
  k_with "exec For Name Call cons nil" => (k_here; k_dflt (refine For_turns (by k_asm) ?_))
  k_with "exec For Name Name cons nil" => (k_here; k_dflt (refine For_turns (by k_asm) ?_))
  k_with "exec For Tuple Name cons nil" => (k_here; k_dflt (refine For_turns (by k_asm) ?_))
  k_with "exec For Tuple Call cons nil" => (k_here; k_dflt (refine For_turns (by k_asm) ?_))
  k_with "exec For Name Subscript cons nil" => (k_here; k_dflt (refine For_turns (by k_asm) ?_))
  k_with "exec For Tuple Attribute cons nil" => (k_here; k_dflt (refine For_turns (by k_asm) ?_))
  k_with "pyIter ref" => ((with_reducible show wpAny _ _ (pyIter (Value.ref _)) (fun it s₂ => TurnsAt _ _ _ _ _ _ _ _ _ it s₂) _ _); (refine Held.of ?_))
  k_with "subscriptTail" => (k_here; (with_reducible show wpAny _ _ (subscriptTail _ _ (Value.ref _) (Value.int _ _)) _ _ _); k_dflt (refine' item_row (News.isList (by k_asm) (by (first | k_memK | k_ownIn))) (by assumption) (by first | assumption | omega) (by first | assumption | exact Int.natCast_nonneg _ | omega) (by first | assumption | omega) ?_); intro t9zz y9zz n9zz e9zz a9zz b9zz)
  k_with "call builtin:len" => (k_here; (with_reducible show wpAny _ _ (call (Value.builtin "len") [Value.ref _]) _ _ _); k_dflt (refine' len_row (News.isList (by k_asm) (by (first | k_memK | k_ownIn))) (by assumption) (by first | assumption | omega) ?_))
  k_with "binaryOp Add float float" => (k_here; k_dflt (refine' addF (by (first | exact sm (by assumption) (by assumption) | exact smA (by assumption) | exact sm1 (by assumption) (by assumption) | exact sm2 (by assumption) (by assumption) (by assumption) (by assumption) | exact sm2A (by assumption) (by assumption) (by assumption) | exact sm3 (by assumption) (by assumption) (by assumption) (by assumption) | omega)) (by (first | exact sm (by assumption) (by assumption) | exact smA (by assumption) | exact sm1 (by assumption) (by assumption) | exact sm2 (by assumption) (by assumption) (by assumption) (by assumption) | exact sm2A (by assumption) (by assumption) (by assumption) | exact sm3 (by assumption) (by assumption) (by assumption) (by assumption) | omega)) (by (first | exact sm (by assumption) (by assumption) | exact smA (by assumption) | exact sm1 (by assumption) (by assumption) | exact sm2 (by assumption) (by assumption) (by assumption) (by assumption) | exact sm2A (by assumption) (by assumption) (by assumption) | exact sm3 (by assumption) (by assumption) (by assumption) (by assumption) | omega)) ?_))
  k_with "binaryOp Sub float float" => (k_here; (refine' sub1F (by (first | exact sm (by assumption) (by assumption) | exact smA (by assumption) | exact sm1 (by assumption) (by assumption) | exact sm2 (by assumption) (by assumption) (by assumption) (by assumption) | exact sm2A (by assumption) (by assumption) (by assumption) | exact sm3 (by assumption) (by assumption) (by assumption) (by assumption) | omega)) (by (first | exact sm (by assumption) (by assumption) | exact smA (by assumption) | exact sm1 (by assumption) (by assumption) | exact sm2 (by assumption) (by assumption) (by assumption) (by assumption) | exact sm2A (by assumption) (by assumption) (by assumption) | exact sm3 (by assumption) (by assumption) (by assumption) (by assumption) | omega)) ?_))
  k_with "call ref" => (k_here; (with_reducible show wpAny _ _ (call (Value.ref 166) _ _) _ _ _); k_dflt (refine Cl.use (t_cut _ _ _ _ (by (first | exact sm (by assumption) (by assumption) | exact smA (by assumption) | exact sm1 (by assumption) (by assumption) | exact sm2 (by assumption) (by assumption) (by assumption) (by assumption) | exact sm2A (by assumption) (by assumption) (by assumption) | exact sm3 (by assumption) (by assumption) (by assumption) (by assumption) | omega))) (by k_asm) (by k_asm) (by k_asm) (by k_asm) (by k_asm) (by first | exact rfl | assumption) (by (first | exact rm2 (by assumption) rfl | exact rm1 (by assumption) rfl | exact rm0 (by assumption) | ktr_room)) (by (first | exact rm2 (by assumption) rfl | exact rm1 (by assumption) rfl | exact rm0 (by assumption) | ktr_units)) (by (first | assumption | exact PT.pos _ | exact Nat.succ_pos _ | (dsimp only; first | assumption | exact PT.pos _ | exact Nat.succ_pos _ | omega))) ?_); (intro v9zz h9zz tk9zz new9zz q9zz F9zz N9zz l9zz p9zz); (obtain ⟨⟨u9zz, y9zz, ea9zz, t9zz, z9zz, x9zz, w9zz⟩, eb9zz⟩ := p9zz); subst ea9zz; subst eb9zz; (try simp only [List.nil_append, List.cons_append] at N9zz); clear l9zz; (try k_sweep); (try dsimp only); (try k_fold); walk_say "CONTRACT 166")
  k_with "call builtin:list.append" => (k_here; (with_reducible show wpAny _ _ (call (Value.builtin _) [Value.ref _, _]) _ _ _); k_dflt (refine' append_K (by k_asm) (by k_asm) (by k_upd) ?_ (by (first | (simp only [List.size_toArray]; rw [sizeLine_eq]; assumption) | size_fits | (simp only [List.size_toArray]; rw [sizeLine_eq]; omega))); k_whole); intro hqzz Fqzz Nqzz; (try simp only [List.push_toArray] at Nqzz); (try k_sweep))
  k_with "call builtin:list.pop" => (k_here; (with_reducible show wpAny _ _ (call (Value.builtin _) [Value.ref _]) _ _ _); k_dflt (refine' kl_pop (by k_asm) (by k_asm) (last_snoc _ _) (by k_upd) (by (simp only [List.length_append, List.length_cons, List.length_nil]; rw [sizeLine_eq]; omega)) ?_); intro hqzz Fqzz Nqzz; (try k_sweep))
  k_with "compareOp NotEq ref ref" => (k_here; k_dflt (first | refine ne_snoc (News.isList (by k_asm) (by (first | k_memK | k_ownIn))) (News.isList (by k_asm) (.head _)) (by units_room) ?_ | refine ne_nil (News.isList (by k_asm) (by (first | k_memK | k_ownIn))) (News.isList (by k_asm) (.head _)) (by units_room) ?_))
  k_with "exec While BoolOp" => (k_here; (refine Held.of ?_))
  k_with "last exec While" => (k_here; (refine Held.of ?_))
  k_with "subscriptTail" => (k_here; (with_reducible show wpAny _ _ (subscriptTail _ _ (Value.ref _) (Value.int (-1) _)) _ _ _); k_dflt (refine item_last (News.isList (by k_asm) (by (first | k_memK | k_ownIn))) ?_))
  k_with "call ref" => (k_here; (with_reducible show wpAny _ _ (call (Value.ref 128) _ _) _ _ _); k_dflt (refine Cl.use (t_iseofL _ _ _ _ (by (first | exact sm (by assumption) (by assumption) | exact smA (by assumption) | exact sm1 (by assumption) (by assumption) | exact sm2 (by assumption) (by assumption) (by assumption) (by assumption) | exact sm2A (by assumption) (by assumption) (by assumption) | exact sm3 (by assumption) (by assumption) (by assumption) (by assumption) | omega))) (by k_asm) (by k_asm) (by k_asm) (by k_asm) (by k_asm) (by first | exact rfl | assumption) (by (first | exact rm2 (by assumption) rfl | exact rm1 (by assumption) rfl | exact rm0 (by assumption) | ktr_room)) (by (first | exact rm2 (by assumption) rfl | exact rm1 (by assumption) rfl | exact rm0 (by assumption) | ktr_units)) (by (first | assumption | exact PT.pos _ | exact Nat.succ_pos _ | (dsimp only; first | assumption | exact PT.pos _ | exact Nat.succ_pos _ | omega))) ?_); (intro v9zz h9zz tk9zz new9zz q9zz F9zz N9zz l9zz p9zz); (obtain ⟨ea9zz, eb9zz⟩ := p9zz); subst ea9zz; subst eb9zz; (try simp only [List.nil_append, List.cons_append] at N9zz); clear l9zz; (try k_sweep); (try dsimp only); (try k_fold); walk_say "CONTRACT 128")
  trivial

set_option maxHeartbeats 0 in
theorem t_sum (w : World) (a1 a2 : Addr) (v1 v2 : List Value) (n1 n2 : Nat) (a b : Int) (news : List (Addr × Obj)) (ha : 0 ≤ a ∧ a < 4096) (hb : 0 ≤ b ∧ b < 4096)
    (h1 : (a1, listOf v1.toArray n1) ∈ news) (h2 : (a2, listOf v2.toArray n2) ∈ news) (f1 : Fls v1 (rowN a)) (f2 : Fls v2 (rowN b)) :
    ClZ w 20 173 [.ref a1, .ref a2] news (fun v new => ∃ c n vs, v = .ref c ∧ new = [(c, listOf vs.toArray n)] ∧ Fls vs (rowN (a + b))) := by
  refine ClZ.mk ?_
  k_fill
  intro loose mean mg mb dp un gd cn cs aa ccd cl outer A₀ base h₀ L m s Q E B F X N T hk hd hu hret
  k_dflt (refine' code_def (by k_asm) (by k_asm) (by k_asm) (by k_asm) (by k_asm) (by exact rfl) (by exact rfl) (by first | exact rfl | assumption) (by k_is) (by k_is) (by (first | exact rm2 (by assumption) rfl | exact rm1 (by assumption) rfl | exact rm0 (by assumption) | ktr_room)) (by exact BindsTo.of_eq rfl) (by exact locs rfl) ?_ (by exact rfl) (by exact rfl) (by exact rfl) (by decide); k_whole; intro g' L' h' FG' F' N' B' X' T'; (try dsimp only); (try k_fold))
  k_steps
  rename Fr _ _ _ _ => F1
  rename News _ _ _ _ => N1
  refine with_addr N1 fun R hRe => ?_
  subst hRe
  rename (∀ p ∈ news, p.1 < R) => hR
  have hR' : ∀ p ∈ news, p.1 ≠ R := fun p hp => Nat.ne_of_lt (hR p hp)
  rename IsRange _ _ _ _ _ _ _ _ => R1
  unfold Held
  have pa := pl_b ha
  have pq := pl_b hb
  refine for_range (n := (pl a + pl b).toNat) (nx₀ := (R, listOf #[] 0) :: news) (J := fun i m nx => Loc m [("one", .ref a1), ("two", .ref a2), ("row", .ref R)] ∧
      ∃ ys c, nx = (R, listOf (List.toArray ys) c) :: news ∧ Fls ys ((List.range i).map fun j : Nat => clamp (a + b - 256 * (j : Int)))) (by rfl) F1 N1 (fun p hp => hp) R1 (range1_small small0 (small_sum pa pq)) (range1_size (by rw [Int.sub_zero])) ?_ ?_ ?_
  · exact ⟨⟨by with_unfolding_all rfl, by with_unfolding_all rfl, by with_unfolding_all rfl, trivial⟩, [], 0, rfl, .nil⟩
  · rintro I hI i t mm nx o h tk hi ⟨hl, ys, c, rfl, hy⟩ ho F2 N2
    refine turn_open ?_
    intro R9 hR9
    replace F2 := hl.fr F2
    rw [Int.zero_add]
    have hiI := Int.lt_toNat.mp hi
    have hys : ys.length = i := by rw [hy.length]; simp
    have hyl := le_size hys pa pq hiI
    k_steps
    all_goals (
      unfold Held
      rename Fr _ _ _ _ => F3
      rename News _ _ _ _ => N3
      rename IsRange _ _ _ _ _ _ _ _ => R3
      rw [if_max, if_min] at R3
      obtain ⟨lo, hlo⟩ : ∃ lo : Int, lo = max 0 ((i : Int) - pl a) := ⟨_, rfl⟩
      obtain ⟨up, hup⟩ : ∃ up : Int, up = min (i : Int) (pl b) := ⟨_, rfl⟩
      rw [← hlo, ← hup] at R3
      refine for_range (n := (up - lo).toNat) (nx₀ := (I, o) :: (R, listOf ys.toArray c) :: news) (J := fun k m nx => (∃ x tl, x = fl (part a b i (lo + (k : Int))) ∧ tl ≠ 0 ∧ Loc m [("one", .ref a1), ("two", .ref a2), ("row", .ref R), ("n", .int (i : Int) t), ("light", .float x tl)]) ∧
        nx = (I, o) :: (R, listOf ys.toArray c) :: news) (by rfl) F3 N3 (fun p hp => hp) R3 (range1_small (small_lo hlo pa pq (Int.natCast_nonneg _) hiI) (small_up hup pq (Int.natCast_nonneg _))) (range1_size rfl) ?_ ?_ ?_
      · refine ⟨⟨_, _, ?_, ?_, by with_unfolding_all rfl, by with_unfolding_all rfl, by with_unfolding_all rfl, by with_unfolding_all rfl, by with_unfolding_all rfl, trivial⟩, rfl⟩
        · first
          | (refine congrArg fl (part_start hb.1 (by rw [← hlo]; exact Int.add_zero _) ?_); rw [if_pos (by assumption)]; assumption)
          | (refine fl_nought.symm.trans (congrArg fl (part_start hb.1 (by rw [← hlo]; exact Int.add_zero _) ?_)); rw [if_neg (by assumption)])
        · (first | assumption | exact PT.ne _ | exact Nat.ne_of_gt (by assumption) | exact Nat.succ_ne_zero _ | exact Nat.ne_of_gt (by omega))
      · rintro I2 hI2 k t2 m2 nx2 o2 h2 tk2 hk2 ⟨⟨x, tl, rfl, ht2, hl2⟩, rfl⟩ ho2 F4 N4
        refine turn_open ?_
        intro R9 hR9
        replace F4 := hl2.fr F4
        have hkk := turn_in hlo hup hk2
        clear hlo hup hk2 R3 F3 N3 R1
        have pe := part_step (a := a) (b := b) (n := i) (k := lo + (k : Int)) hb.1 hkk.1
        rw [Int.add_assoc, show (k : Int) + 1 = ((k + 1 : Nat) : Int) from rfl] at pe
        have pb : 0 ≤ part a b i (lo + (k : Int)) ∧ part a b i (lo + (k : Int)) ≤ 256 := cl_b _
        revert pe pb hkk F4 N4
        generalize lo + (k : Int) = kk
        generalize part a b i kk = pp
        intro F4 N4 hkk pe pb
        obtain ⟨k0, k1, k2, k3⟩ := hkk
        k_steps
        refine hR9 _ _ ?_; refine TurnEnd.go ((I, o) :: (R, listOf ys.toArray c) :: news) (by k_asm) (by k_asm) (.head _) (fun p hp => .tail _ hp) (fun p hp => .inl (Nat.ne_of_lt (hI2 p hp))) ⟨⟨_, _, ?_, ?_, by with_unfolding_all rfl, by with_unfolding_all rfl, by with_unfolding_all rfl, by with_unfolding_all rfl, by with_unfolding_all rfl, trivial⟩, rfl⟩
        · subst_vars; exact congrArg fl pe
        · (first | assumption | exact PT.ne _ | exact Nat.ne_of_gt (by assumption) | exact Nat.succ_ne_zero _ | exact Nat.ne_of_gt (by omega))
      · rintro m2 nx2 h2 tk2 ⟨⟨x, tl, rfl, ht2, hl2⟩, rfl⟩ F4 N4
        replace F4 := hl2.fr F4
        have hkk := turn_end hlo hup (Int.natCast_nonneg _) pa pq hiI
        have pe := part_end (a := a) (b := b) (n := i) (k := lo + (((up - lo).toNat : Nat) : Int)) hb.1 (Int.natCast_nonneg _) ha.1 hkk
        have pb : 0 ≤ part a b i (lo + (((up - lo).toNat : Nat) : Int)) ∧ part a b i (lo + (((up - lo).toNat : Nat) : Int)) ≤ 256 := cl_b _
        clear hlo hup R3 F3 N3 R1 hkk
        revert pe pb F4 N4
        generalize part a b i (lo + (((up - lo).toNat : Nat) : Int)) = pp
        intro F4 N4 pe pb
        have hIR := ltN (hI _ (.head _))
        have hRI : (I : Nat) ≠ R := Nat.ne_of_gt hIR
        dsimp only
        k_steps
        all_goals (
          rename News _ _ _ _ => N9
          refine hR9 _ _ ?_; refine TurnEnd.go ((R, listOf (ys ++ [_]).toArray (c + 1)) :: news) (by k_asm) N9 (.head _) (fun p hp => .tail _ hp) (fun p hp => ?_) ⟨⟨by with_unfolding_all rfl, by with_unfolding_all rfl, by with_unfolding_all rfl, trivial⟩, _, _, rfl, ?_⟩
          · refine .inl (Nat.ne_of_lt ?_)
            rcases List.mem_cons.mp hp with e | hp
            · rw [e]; exact hIR
            · exact hI p (.tail _ hp)
          · rw [List.range_succ, List.map_append]
            first
            | (have e9 := pe.1 (by assumption); subst_vars; rw [List.map_singleton, ← e9]; exact hy.snoc _ _ (by (first | assumption | exact PT.ne _ | exact Nat.ne_of_gt (by assumption) | exact Nat.succ_ne_zero _ | exact Nat.ne_of_gt (by omega))))
            | (rw [List.map_singleton, ← pe.2 (by assumption)]; exact hy.snoc _ _ (by (first | assumption | exact PT.ne _ | exact Nat.ne_of_gt (by assumption) | exact Nat.succ_ne_zero _ | exact Nat.ne_of_gt (by omega))))))
  · rintro mm nx h tk ⟨hl, ys, c, rfl, hy⟩ F2 N2
    replace F2 := hl.fr F2
    dsimp only
    k_steps
    unfold Held
    rename Fr _ _ _ _ => F3
    rename News _ _ _ _ => N3
    refine While_inv2 (J := fun n m nx => Loc m [("row", .ref R)] ∧ ∃ ys c, nx = (R, listOf (List.toArray ys) c) :: news ∧ (pl (a + b)).toNat ≤ n ∧ n ≤ 64 ∧ Fls ys ((List.range n).map fun j : Nat => clamp (a + b - 256 * (j : Int)))) F3 N3 ⟨⟨by with_unfolding_all rfl, trivial⟩, ys, c, rfl, Int.toNat_le_toNat (pl_add a b), le64 pa pq, hy⟩ ?_
    rintro n m1 nx1 h1 tk1 F4 N4 ⟨hl4, ys4, c4, rfl, hn1, hn2, hy4⟩
    replace F4 := hl4.fr F4
    have hab := Int.add_nonneg ha.1 hb.1
    cases n with
    | zero =>
      cases hy4
      k_steps
      rename News h₀ L _ _ => kN9
      exact hret _ _ _ [_] (by k_asm) (sub1 kN9 (by (first | k_memK | k_ownIn)) fun p hp => by first | exact .tail _ hp | exact .tail _ (.tail _ hp) | exact .tail _ (.tail _ (.tail _ hp))) (one_off hR') ⟨_, _, [], rfl, rfl, by rw [rowN_range (n := 0) hab (Nat.eq_zero_of_le_zero hn1).symm]; exact .nil⟩
    | succ n =>
      rw [List.range_succ, List.map_append] at hy4
      obtain ⟨us, t4, ht4, rfl, hu4⟩ := hy4.last
      have hus : us.length = n := by rw [hu4.length]; simp
      have cb := cl_b (a + b - 256 * (n : Int))
      k_steps
      · rename News _ _ _ _ => kN9
        refine ⟨_, _, _, (R, listOf us.toArray (c4 + 1)) :: news, n, rfl, by k_asm, fun p hp => kN9 p (by first | exact hp | exact .tail _ hp | exact .tail _ (.tail _ hp)), Nat.lt_succ_self _, ⟨by with_unfolding_all rfl, trivial⟩, us, _, rfl, by first | exact light_no (by assumption) | omega, Nat.le_of_succ_le hn2, hu4⟩
      · rename News h₀ L _ _ => kN9
        refine hret _ _ _ [_] (by k_asm) (sub1 kN9 (by (first | k_memK | k_ownIn)) fun p hp => by first | exact .tail _ hp | exact .tail _ (.tail _ hp) | exact .tail _ (.tail _ (.tail _ hp))) (one_off hR') ⟨_, _, us ++ [_], rfl, rfl, ?_⟩
        rw [rowN_range (n := n + 1) hab (by first | exact light_yes (by assumption) hn1 | (have cz := clamp_mm (a + b - 256 * (n : Int)); omega)), List.range_succ, List.map_append]
        exact hy4
theorem wds_Sum_3 : True := by
  k_with_none
  trivial
end
end Mine
end
section
open PySem PySem.W PyProof.Rows PySem.Calls PyProof.Rows.LCg
set_option Elab.async false
set_option maxRecDepth 100000
namespace Mine
def hostS (b : Bool) : Str := if b then Str.ofString "b" else Str.ofString "a"
/-- a draw as the ledger bears it: server, port, kind -/
def DrawIn (nx : List (Addr × Obj)) (v : Value) (d : Bool × Int × Int) : Prop :=
  ∃ a t u z n, v = .ref a ∧ (a, ({ cls := .type "tuple", data := .seq [Value.str (hostS d.1) t, .int d.2.1 u, .int d.2.2 z].toArray n } : Obj)) ∈ nx
def DrawOk (d : Bool × Int × Int) : Prop := 0 ≤ d.2.1 ∧ d.2.1 < 768 ∧ 0 ≤ d.2.2 ∧ d.2.2 < 6
/-- two lists, item by item -/
inductive All2 {α β : Type} (R : α → β → Prop) : List α → List β → Prop
  | nil : All2 R [] []
  | cons {a : α} {b : β} {as : List α} {bs : List β} : R a b → All2 R as bs → All2 R (a :: as) (b :: bs)
theorem All2.mono {α β : Type} {R S : α → β → Prop} {as : List α} {bs : List β} (h : All2 R as bs) (k : ∀ a b, R a b → S a b) : All2 S as bs := by
  induction h with
  | nil => exact .nil
  | cons h _ ih => exact .cons (k _ _ h) ih
theorem All2.snoc {α β : Type} {R : α → β → Prop} {as : List α} {bs : List β} (h : All2 R as bs) {a : α} {b : β} (k : R a b) : All2 R (as ++ [a]) (bs ++ [b]) := by
  induction h with
  | nil => exact .cons k .nil
  | cons h _ ih => exact .cons h ih
theorem All2.length {α β : Type} {R : α → β → Prop} {as : List α} {bs : List β} (h : All2 R as bs) : as.length = bs.length := by
  induction h with
  | nil => rfl
  | cons _ _ ih => simp [ih]
theorem All2.get {α β : Type} {R : α → β → Prop} {as : List α} {bs : List β} (h : All2 R as bs) : ∀ {i : Nat} {a : α}, as[i]? = some a → ∃ b, bs[i]? = some b ∧ R a b := by
  induction h with
  | nil => intro i a e; simp at e
  | cons h _ ih =>
    intro i a e
    cases i with
    | zero => simp at e; subst e; exact ⟨_, rfl, h⟩
    | succ i => simp at e; obtain ⟨b, hb, r⟩ := ih e; exact ⟨b, by simpa using hb, r⟩
theorem min_nat (n : Nat) : min n 12 = (min (n : Int) 12 - 0).toNat := by
  rw [Int.sub_zero]
  rcases Nat.le_total n 12 with h | h
  · rw [Nat.min_eq_left h, Int.min_eq_left (by omega), Int.toNat_natCast]
  · rw [Nat.min_eq_right h, Int.min_eq_right (by omega)]; rfl
theorem min_int (n : Nat) : (if (12 : Int) < (n : Int) then (12 : Int) else (n : Int)) = min (n : Int) 12 := by
  split
  · rw [Int.min_eq_right (by omega)]
  · rw [Int.min_eq_left (by omega)]
theorem min_small (n : Nat) : -1000000 ≤ min (n : Int) 12 ∧ min (n : Int) 12 ≤ 1000000 :=
  ⟨Int.le_min.mpr ⟨by omega, by decide⟩, Int.le_trans (Int.min_le_right _ _) (by decide)⟩
theorem draw_small {n : Nat} {d : Int} (h : d ≤ 10000 + 1000000 * ((min n 12 : Nat) : Int)) : d < 20000000 := by
  have := Nat.min_le_right n 12
  generalize min n 12 = m at *
  omega
theorem draw_grow {i : Nat} {a x : Int} (h : 0 ≤ a ∧ a ≤ 10000 + 1000000 * (i : Int)) (hx : 0 ≤ x ∧ x < 1000000) : 0 ≤ a + x ∧ a + x ≤ 10000 + 1000000 * ((i + 1 : Nat) : Int) := by omega
theorem draw_keep {i : Nat} {a : Int} (h : 0 ≤ a ∧ a ≤ 10000 + 1000000 * (i : Int)) : 0 ≤ a ∧ a ≤ 10000 + 1000000 * ((i + 1 : Nat) : Int) := by omega
theorem draw_first {a : Int} (h : 0 ≤ a) (k : a ≤ 10000) : 0 ≤ a ∧ a ≤ 10000 + 1000000 * ((0 : Nat) : Int) := ⟨h, k⟩
theorem fmod_b (x : Int) {n : Int} (h : 0 < n) : 0 ≤ x.fmod n ∧ x.fmod n < n := by
  rw [fmod_pos h]; exact ⟨Int.emod_nonneg _ (Int.ne_of_gt h), Int.emod_lt_of_pos _ h⟩
theorem mod4 (x : Int) : x.fmod 4 = 0 ∨ x.fmod 4 = 1 ∨ x.fmod 4 = 2 ∨ x.fmod 4 = 3 := by
  have h := fmod_b x (n := 4) (by decide)
  generalize x.fmod 4 = r at *
  omega
theorem mod2 (x : Int) : x.fmod 2 = 0 ∨ x.fmod 2 = 1 := by
  have h := fmod_b x (n := 2) (by decide)
  generalize x.fmod 2 = r at *
  omega
theorem lt4 : ∀ i, i < 4 → i = 0 ∨ i = 1 ∨ i = 2 ∨ i = 3 := by decide
theorem DrawIn.mono {nx nx' : List (Addr × Obj)} {v : Value} {d : Bool × Int × Int} (h : DrawIn nx v d) (k : ∀ p ∈ nx, p ∈ nx') : DrawIn nx' v d := by
  obtain ⟨a, t, u, z, n, e, m⟩ := h
  exact ⟨a, t, u, z, n, e, k _ m⟩
/-- an element that is a new object -/
theorem elt_new {h₀ h' : Heap} {L I C D T : Addr} {m : Str → Option Value} {s₁ : Shared} {oI oC oD oT : Obj} {S : List (Addr × Obj) → Prop} {rest : Value → List (Addr × Obj) → Prop} {tk : Nat} {nx : List (Addr × Obj)}
    (F : Fr h₀ L h' m) (N : News h₀ L h' ((T, oT) :: (I, oI) :: (C, oC) :: (D, oD) :: nx)) (lt : I < T ∧ C < T ∧ D < T ∧ AllLt T nx) (off : Off3 I C D nx) (hS : S ((T, oT) :: nx)) (r : rest (.ref T) ((T, oT) :: nx)) :
    EltEnd h₀ L m s₁ I oI C oC D oD S rest (.ref T) { s₁ with heap := h', toks := tk } := by
  refine CompEnd.intro F N ((T, oT) :: nx) (fun p hp => ?_) ⟨⟨Nat.ne_of_gt lt.1, Nat.ne_of_gt lt.2.1, Nat.ne_of_gt lt.2.2.1⟩, off⟩ hS r
  simp only [List.mem_cons] at hp ⊢
  rcases hp with h | h | h | h | h
  · exact .inr (.inl h)
  · exact .inr (.inr (.inl h))
  · exact .inr (.inr (.inr (.inl h)))
  · exact .inl h
  · exact .inr (.inr (.inr (.inr h)))
/-- a contract with a word P of the frame's ground, that asks no live token -/
def ClPZ (w : World) (k : Nat) (f : Addr) (vs : List Value) (news : List (Addr × Obj)) (P : Heap → Prop) (Post : Value → List (Addr × Obj) → Prop) : Prop :=
  ∀ (loose : List Str) (mean : ExcName → Option Value) (mg mb : Str → Option Value) (dp un : Nat) (gd : Option (List Code)) (cn : Str) (cs : Scope) (a : Addr) (ccd : Value) (cl : List (Str × Addr)) (outer : List Env) (A₀ : Around) (base h₀ : Heap) (L : Addr) (m : Str → Option Value) (s : Shared) (Q E : Value → Shared → Prop),
    P h₀ → Below A₀ base outer h₀ → Fr h₀ L s.heap m → (Mine.hd.heap_39 w.params).In h₀ → News h₀ L s.heap news → Top Mine.hd.view_39 loose mean mg mb h₀ → cs.kind = .function → dp + k < recursionLimit → un + 100 * k < cLine →
    (∀ v h' tk' new, Fr h₀ L h' m → News h₀ L h' (new ++ news) → (∀ q ∈ news, ∀ p ∈ new, q.1 ≠ p.1) → Post v new → Q v { s with heap := h', toks := tk' }) →
    wpAny (model PySem.Challenge.rw_xg0026_01.row.prog w) (ktrTop dp un gd cn cs L a ccd cl outer) (call (.ref f) vs) Q E s
section
variable {w : World} {k : Nat} {f : Addr} {vs : List Value} {news : List (Addr × Obj)} {P : Heap → Prop} {Post : Value → List (Addr × Obj) → Prop}
theorem ClPZ.use {loose : List Str} {mean : ExcName → Option Value} {mg mb : Str → Option Value} {dp un : Nat} {gd : Option (List Code)} {cn : Str} {cs : Scope} {a : Addr} {ccd : Value} {cl : List (Str × Addr)} {outer : List Env} {A₀ : Around} {base h₀ : Heap} {L : Addr} {m : Str → Option Value} {s : Shared} {Q E : Value → Shared → Prop} (C : ClPZ w k f vs news P Post) (hP : P h₀) (B : Below A₀ base outer h₀) (F : Fr h₀ L s.heap m) (X : (Mine.hd.heap_39 w.params).In h₀) (N : News h₀ L s.heap news) (T : Top Mine.hd.view_39 loose mean mg mb h₀) (hk : cs.kind = .function) (hd : dp + k < recursionLimit) (hu : un + 100 * k < cLine)
    (ret : ∀ v h' tk' new, Fr h₀ L h' m → News h₀ L h' (new ++ news) → (∀ q ∈ news, ∀ p ∈ new, q.1 ≠ p.1) → Post v new → Q v { s with heap := h', toks := tk' }) :
    wpAny (model PySem.Challenge.rw_xg0026_01.row.prog w) (ktrTop dp un gd cn cs L a ccd cl outer) (call (.ref f) vs) Q E s :=
  C _ _ _ _ _ _ _ _ _ _ _ _ _ _ _ _ _ _ _ _ _ hP B F X N T hk hd hu ret
theorem ClPZ.mk (C : ∀ (loose : List Str) (mean : ExcName → Option Value) (mg mb : Str → Option Value) (dp un : Nat) (gd : Option (List Code)) (cn : Str) (cs : Scope) (a : Addr) (ccd : Value) (cl : List (Str × Addr)) (outer : List Env) (A₀ : Around) (base h₀ : Heap) (L : Addr) (m : Str → Option Value) (s : Shared) (Q E : Value → Shared → Prop),
    P h₀ → Below A₀ base outer h₀ → Fr h₀ L s.heap m → (Mine.hd.heap_39 w.params).In h₀ → News h₀ L s.heap news → Top Mine.hd.view_39 loose mean mg mb h₀ → cs.kind = .function → dp + k < recursionLimit → un + 100 * k < cLine →
    (∀ v h' tk' new, Fr h₀ L h' m → News h₀ L h' (new ++ news) → (∀ q ∈ news, ∀ p ∈ new, q.1 ≠ p.1) → Post v new → Q v { s with heap := h', toks := tk' }) →
    codeAny (model PySem.Challenge.rw_xg0026_01.row.prog w) (ktrTop dp un gd cn cs L a ccd cl outer) (.call (.ref f) ⟨vs, []⟩) (fun r s' => match r with | .ok (.ret v) => Q v s' | .ok _ => False | .error e => E e s') s) : ClPZ w k f vs news P Post :=
  fun _ _ _ _ _ _ _ _ _ _ _ _ _ _ _ _ _ _ _ Q _ hP B F X N T hk hd hu ret => wpAny_call (C _ _ _ _ _ _ _ _ _ _ _ _ _ _ _ _ _ _ _ Q _ hP B F X N T hk hd hu ret)
end
section
theorem wds_Talk_1 : True := by
  k_with_none
  k_with "execs cons" => (k_here; (refine gen_toks (by ((fail_if_success assumption); (fail_if_success exact PT.pos _); (first | exact Nat.succ_pos _ | (dsimp only; first | exact Nat.succ_pos _ | omega)))) ?_); (try dsimp only); (intro tkzz))
  k_with "execs nil" => (k_here; (refine gen_toks (by ((fail_if_success assumption); (fail_if_success exact PT.pos _); (first | exact Nat.succ_pos _ | (dsimp only; first | exact Nat.succ_pos _ | omega)))) ?_); (try dsimp only); (intro tkzz))
  trivial



theorem wds_Talk_2 : True := by
  k_with_none
  k_with "execs cons" => (k_here; (refine gen_toks (by ((fail_if_success assumption); (fail_if_success exact PT.pos _); (first | exact Nat.succ_pos _ | (dsimp only; first | exact Nat.succ_pos _ | omega)))) ?_); (try dsimp only); (intro tkzz))
  k_with "execs nil" => (k_here; (refine gen_toks (by ((fail_if_success assumption); (fail_if_success exact PT.pos _); (first | exact Nat.succ_pos _ | (dsimp only; first | exact Nat.succ_pos _ | omega)))) ?_); (try dsimp only); (intro tkzz))
  k_with "call builtin:list.append" => (k_here; (with_reducible show wpAny _ _ (call (Value.builtin _) [Value.ref _, _]) _ _ _); k_dflt (refine' append_K (by k_asm) (by k_asm) (by k_upd) ?_ (by (first | (simp only [List.size_toArray]; rw [sizeLine_eq]; assumption) | size_fits | (simp only [List.size_toArray]; rw [sizeLine_eq]; omega))); k_whole); intro hqzz Fqzz Nqzz; (try simp only [List.push_toArray] at Nqzz); (try k_sweep))
  k_with "CompSrc" => (k_here; (refine Held.of ?_))
  k_with "exec For Name Call cons nil" => (k_here; k_dflt (refine For_turns (by k_asm) ?_))
  k_with "exec For Name Name cons nil" => (k_here; k_dflt (refine For_turns (by k_asm) ?_))
  k_with "exec For Tuple Name cons nil" => (k_here; k_dflt (refine For_turns (by k_asm) ?_))
  k_with "exec For Tuple Call cons nil" => (k_here; k_dflt (refine For_turns (by k_asm) ?_))
  k_with "exec For Name Subscript cons nil" => (k_here; k_dflt (refine For_turns (by k_asm) ?_))
  k_with "exec For Tuple Attribute cons nil" => (k_here; k_dflt (refine For_turns (by k_asm) ?_))
  k_with "pyIter ref" => ((with_reducible show wpAny _ _ (pyIter (Value.ref _)) (fun it s₂ => TurnsAt _ _ _ _ _ _ _ _ _ it s₂) _ _); (refine Held.of ?_))
  trivial

set_option maxHeartbeats 8000000 in
theorem t_talk (w : World) (l : Addr) (vs : List Value) (ns : List Int) (news : List (Addr × Obj)) (hi : IntsAre vs ns) (hn : ns.length ≤ 63) : ClPZ w 20 133 [.ref l] news (fun h₀ => h₀.IsList l vs.toArray) (fun v new => ∃ c ys ds n nw, v = .ref c ∧ new = (c, listOf (List.toArray ys) n) :: nw ∧ All2 (DrawIn nw) ys ds ∧ (∀ d ∈ ds, DrawOk d) ∧ ds.length = 4) := by
  refine ClPZ.mk ?_
  k_fill
  intro loose mean mg mb dp un gd cn cs aa ccd cl outer A₀ base h₀ L m s Q E hP B F X N T hk hd hu hret
  k_dflt (refine' code_def (by k_asm) (by k_asm) (by k_asm) (by k_asm) (by k_asm) (by exact rfl) (by exact rfl) (by first | exact rfl | assumption) (by k_is) (by k_is) (by (first | exact rm2 (by assumption) rfl | exact rm1 (by assumption) rfl | exact rm0 (by assumption) | ktr_room)) (by exact BindsTo.of_eq rfl) (by exact locs rfl) ?_ (by exact rfl) (by exact rfl) (by exact rfl) (by decide); k_whole; intro g' L' h' FG' F' N' B' X' T'; (try dsimp only); (try k_fold))
  have hP' : g'.IsList l vs.toArray := hP.at fun o e => FG'.keep l o e
  clear hP
  k_steps
  unfold Held
  rename Fr _ _ _ _ => F1
  rename News _ _ _ _ => N1
  refine with_addr N1 fun D hDe => ?_
  subst hDe
  rename (∀ p ∈ news, p.1 < D) => hR
  have hR' : ∀ p ∈ news, p.1 ≠ D := fun p hp => Nat.ne_of_lt (hR p hp)
  rename IsRange _ _ _ _ _ _ _ _ => R1
  rw [min_int] at R1
  refine for_range (n := min ns.length 12) (nx₀ := (D, listOf #[.int 300 _, .int 2804 _, .int 3417 _, .int 8460 _] 0) :: news) (J := fun i m nx => Loc m [("script", .ref l), ("draws", .ref D)] ∧
      ∃ a b c d ta tb tc td k, nx = (D, listOf #[.int a ta, .int b tb, .int c tc, .int d td] k) :: news ∧ (0 ≤ a ∧ a ≤ 10000 + 1000000 * (i : Int)) ∧ (0 ≤ b ∧ b ≤ 10000 + 1000000 * (i : Int)) ∧ (0 ≤ c ∧ c ≤ 10000 + 1000000 * (i : Int)) ∧ (0 ≤ d ∧ d ≤ 10000 + 1000000 * (i : Int))) (by rfl) F1 N1 (fun p hp => hp) R1 (range1_small small0 (min_small _)) (range1_size (min_nat _)) ?_ ?_ ?_
  · exact ⟨⟨by with_unfolding_all rfl, by with_unfolding_all rfl, trivial⟩, _, _, _, _, _, _, _, _, _, rfl, draw_first (by decide) (by decide), draw_first (by decide) (by decide), draw_first (by decide) (by decide), draw_first (by decide) (by decide)⟩
  · rintro I hI i t mm nx o h tk hi ⟨hl, a, b, c, d, ta, tb, tc, td, k, rfl, ha, hb, hc, hd'⟩ ho F2 N2
    refine turn_open ?_
    intro R9 hR9
    replace F2 := hl.fr F2
    have hIR := ltN (hI _ (.head _))
    have hRI : (I : Nat) ≠ D := Nat.ne_of_gt hIR
    rw [Int.zero_add]
    have h4 := mod4 (i : Int)
    rcases h4 with h4 | h4 | h4 | h4
    all_goals (
      k_steps
      simp only [h4]
      have hb2 := fmod_b (ns.getD (i : Int).toNat 0) (n := 1000000) (by decide)
      k_steps
      refine hR9 _ _ ?_; refine TurnEnd.go ((D, listOf #[_, _, _, _] _) :: news) (by k_asm) (by k_asm) (.head _) (fun p hp => .tail _ hp) (fun p hp => ?_) ⟨⟨by with_unfolding_all rfl, by with_unfolding_all rfl, trivial⟩, _, _, _, _, _, _, _, _, _, rfl, ?_, ?_, ?_, ?_⟩
      · refine .inl (Nat.ne_of_lt ?_)
        rcases List.mem_cons.mp hp with e | hp
        · rw [e]; exact hIR
        · exact hI p (.tail _ hp)
      all_goals (simp only [List.getD, List.getElem?_cons_zero, List.getElem?_cons_succ, Option.getD_some, Int.toNat] at *; first | exact draw_grow (by assumption) (by assumption) | exact draw_keep (by assumption) | omega))
  · rintro mm nx h tk ⟨hl, a, b, c, d, ta, tb, tc, td, k, rfl, ha, hb, hc, hd'⟩ F2 N2
    replace F2 := hl.fr F2
    dsimp only
    k_steps
    unfold Held
    rename Fr _ _ _ _ => F3
    rename News _ _ _ _ => N3
    refine CompSrc.ledger (by rfl) F3 N3 (.head _) (Nat.le_of_ble_eq_true rfl) fun g => ?_
    refine comp_inv (J := fun i ys nx => ∃ nw ds, nx = nw ++ (D, listOf #[.int a ta, .int b tb, .int c tc, .int d td] k) :: news ∧ All2 (DrawIn nw) ys ds ∧ (∀ d ∈ ds, DrawOk d) ∧ ds.length = i ∧ (∀ q ∈ news, ∀ p ∈ nw, q.1 ≠ p.1)) ?_ ?_ _ _ _ _ (Nat.add_zero _) ⟨[], [], rfl, .nil, by simp, rfl, fun _ _ _ h => nomatch h⟩
    · rintro i ys nx hi ⟨nw, ds, rfl, h2, h3, h4, h5⟩ v I oI C oC DD m₂ h tk E' hv hN hx9 F9 N9 o3 ne
      refine post_open ?_
      intro R9 hR9
      have hv' : ∃ (x : Int) (t : Tok), v = .int x t ∧ 0 ≤ x ∧ x < 20000000 := by
        have hi4 : i < 4 := hi
        rcases lt4 i hi4 with rfl | rfl | rfl | rfl <;> simp at hv <;> subst hv <;> first | exact ⟨_, _, rfl, ha.1, draw_small ha.2⟩ | exact ⟨_, _, rfl, hb.1, draw_small hb.2⟩ | exact ⟨_, _, rfl, hc.1, draw_small hc.2⟩ | exact ⟨_, _, rfl, hd'.1, draw_small hd'.2⟩
      obtain ⟨x, t, rfl, hx0, hx1⟩ := hv'
      k_steps
      rename (I < _ ∧ C < _ ∧ DD < _ ∧ AllLt _ _) => l9
      rename News _ _ _ _ => N9
      refine hR9 _ _ ?_; refine elt_new (by k_asm) N9 l9 o3 (.inr ⟨_, .tail _ (List.mem_append.mpr (.inr (.head _))), rfl, _, rfl⟩) ⟨_ :: nw, ds ++ [((x.fdiv 768).fmod 2 == 1, x.fmod 768, (x.fdiv 1536).fmod 6)], rfl, ?_, ?_, ?_, ?_⟩
      · refine' (h2.mono fun _ _ h => h.mono fun p hp => .tail _ hp).snoc ?_
        have e2 : Txt.item (Str.ofString "ab") ((x.fdiv 768).fmod 2) = hostS ((x.fdiv 768).fmod 2 == 1) := by
          rcases mod2 (x.fdiv 768) with e | e <;> rw [e] <;> decide +kernel
        rw [e2]
        exact ⟨_, _, _, _, _, rfl, .head _⟩
      · intro d' hd9
        rcases List.mem_append.mp hd9 with h | h
        · exact h3 d' h
        · rw [List.mem_singleton.mp h]
          unfold DrawOk
          exact ⟨(fmod_b x (by decide)).1, (fmod_b x (by decide)).2, (fmod_b (x.fdiv 1536) (by decide)).1, (fmod_b (x.fdiv 1536) (by decide)).2⟩
      · simp [h4]
      · intro q hq p hp
        rcases List.mem_cons.mp hp with rfl | hp
        · exact Nat.ne_of_lt (of_allLt l9.2.2.2 q (List.mem_append.mpr (.inr (.tail _ hq))))
        · exact h5 q hq p hp
    · rintro ys nx ⟨nw, ds, rfl, h2, h3, h4, h5⟩ DD h9 tk9 F9 N9 o9
      k_steps
      rename News h₀ L _ _ => kN9
      refine hret _ _ _ ((DD, lst ys) :: nw) (by k_asm) (fun p hp => kN9 p ?_) (fun q hq p hp => ?_) ⟨DD, ys, ds, _, nw, rfl, rfl, h2, h3, h4⟩
      · simp only [List.cons_append, List.mem_cons, List.mem_append] at hp ⊢
        rcases hp with h | h | h
        · exact .inl h
        · exact .inr (.inl h)
        · exact .inr (.inr (.inr h))
      · rcases List.mem_cons.mp hp with rfl | hp
        · exact of_off o9 q (List.mem_append.mpr (.inr (.tail _ hq)))
        · exact h5 q hq p hp
theorem wds_Talk_3 : True := by
  k_with_none
  trivial
end
end Mine
end
section
open PySem PySem.W PyProof.Rows PySem.Calls PyProof.Rows.LCg
set_option Elab.async false
set_option maxRecDepth 100000
namespace Mine
theorem cmp_lt {p q : Int} : (Float64.cmp (fl (clamp p)) (fl (clamp q)) == some Ordering.lt) = decide (clamp p < clamp q) := by
  have h1 := cl_b p
  have h2 := cl_b q
  rw [cmp_fl (by omega) (by omega)]
  generalize clamp p = a
  generalize clamp q = b
  simp only [compare, compareOfLessAndEq]
  split
  · simp [*]
  · split <;> simp [*]
theorem cmp_gt {p q : Int} : (Float64.cmp (fl (clamp p)) (fl (clamp q)) == some Ordering.gt) = decide (clamp q < clamp p) := by
  have h1 := cl_b p
  have h2 := cl_b q
  rw [cmp_fl (by omega) (by omega)]
  generalize clamp p = a
  generalize clamp q = b
  simp only [compare, compareOfLessAndEq]
  split
  · simp; omega
  · split
    · simp; omega
    · simp; omega
/-- the sign of an order -/
def sgn (p q : Int) : Int := if q < p then 1 else if p < q then -1 else 0
theorem cl_lt {p q : Int} (h : clamp p < clamp q) : p < q := by
  unfold clamp at h
  refine Int.not_le.mp fun k => ?_
  (repeat' split at h) <;> omega
theorem cl_lt1 {p q k : Int} (h : clamp (p - k) < clamp (q - k)) : p < q := Int.lt_of_sub_lt_sub_right (cl_lt h)
theorem cl_sum {p : Int} (hp : 0 ≤ p ∧ p < 768) : clamp p + clamp (p - 256) + clamp (p - 512) = p := by
  by_cases h : p < 256
  · rw [clamp_id hp.1 (by omega), clamp_neg (by omega), clamp_neg (by omega)]; omega
  · by_cases k : p < 512
    · rw [clamp_big (u := p) (by omega), clamp_id (by omega) (by omega), clamp_neg (by omega)]; omega
    · rw [clamp_big (u := p) (by omega), clamp_big (u := p - 256) (by omega), clamp_id (by omega) (by omega)]; omega
theorem cl_inj {p q : Int} (hp : 0 ≤ p ∧ p < 768) (hq : 0 ≤ q ∧ q < 768) (h0 : clamp p = clamp q) (h1 : clamp (p - 256) = clamp (q - 256)) (h2 : clamp (p - 512) = clamp (q - 512)) : p = q := by
  rw [← cl_sum hp, ← cl_sum hq, h0, h1, h2]
theorem sgn_gt {p q : Int} (h : q < p) : sgn p q = 1 := if_pos h
theorem sgn_lt {p q : Int} (h : p < q) : sgn p q = -1 := by unfold sgn; rw [if_neg (Int.not_lt.mpr (Int.le_of_lt h)), if_pos h]
theorem sgn_eq {p q : Int} (h : p = q) : sgn p q = 0 := by subst h; unfold sgn; rw [if_neg (Int.lt_irrefl _), if_neg (Int.lt_irrefl _)]
section

theorem wds_Cpr_1 : True := by
  k_with_none
  k_with "execs cons" => (k_here; (refine gen_toks (by ((fail_if_success assumption); (fail_if_success exact PT.pos _); (first | exact Nat.succ_pos _ | (dsimp only; first | exact Nat.succ_pos _ | omega)))) ?_); (try dsimp only); (intro tkzz))
  k_with "execs nil" => (k_here; (refine gen_toks (by ((fail_if_success assumption); (fail_if_success exact PT.pos _); (first | exact Nat.succ_pos _ | (dsimp only; first | exact Nat.succ_pos _ | omega)))) ?_); (try dsimp only); (intro tkzz))
  k_with "exec For Name Call cons nil" => (k_here; k_dflt (refine For_turns (by k_asm) ?_))
  k_with "exec For Name Name cons nil" => (k_here; k_dflt (refine For_turns (by k_asm) ?_))
  k_with "exec For Tuple Name cons nil" => (k_here; k_dflt (refine For_turns (by k_asm) ?_))
  k_with "exec For Tuple Call cons nil" => (k_here; k_dflt (refine For_turns (by k_asm) ?_))
  k_with "exec For Name Subscript cons nil" => (k_here; k_dflt (refine For_turns (by k_asm) ?_))
  k_with "exec For Tuple Attribute cons nil" => (k_here; k_dflt (refine For_turns (by k_asm) ?_))
  k_with "pyIter ref" => ((with_reducible show wpAny _ _ (pyIter (Value.ref _)) (fun it s₂ => TurnsAt _ _ _ _ _ _ _ _ _ it s₂) _ _); (refine Held.of ?_))
  trivial

set_option maxHeartbeats 2000000 in
theorem t_compare (w : World) (x dx l t₁ t₂ t₃ b₁ b₂ : Addr) (way : Int) (r₁ r₂ r₃ r₄ r₅ r₆ r₇ : Tok) (n₁ n₂ n₃ n₄ n₅ n₆ : Nat) (u₀ u₁ u₂ w₀ w₁ w₂ : Tok) (p q : Int) (rest : List (Addr × Obj)) (hp : 0 ≤ p ∧ p < 768) (hq : 0 ≤ q ∧ q < 768) :
    Cl w 3 86 [.ref x, .ref b₁, .ref b₂] ((x, instObj 89 dx) :: (dx, dictOf [{ hash := PyData.keyHash w.params (Str.ofString "comp_select_list"), key := .str (Str.ofString "comp_select_list") r₇, val := .ref l }] 1) :: (l, listOf #[.ref t₁, .ref t₂, .ref t₃] n₁) ::
      (t₁, { cls := .type "tuple", data := .seq #[.int 0 r₁, .int way r₂] n₂ }) :: (t₂, { cls := .type "tuple", data := .seq #[.int 1 r₃, .int way r₄] n₃ }) :: (t₃, { cls := .type "tuple", data := .seq #[.int 2 r₅, .int way r₆] n₄ }) ::
      (b₁, listOf #[.float (fl (clamp p)) u₀, .float (fl (clamp (p - 256))) u₁, .float (fl (clamp (p - 512))) u₂] n₅) :: (b₂, listOf #[.float (fl (clamp q)) w₀, .float (fl (clamp (q - 256))) w₁, .float (fl (clamp (q - 512))) w₂] n₆) :: rest) (fun v new => (∃ t, v = .int (way * sgn p q) t) ∧ new = []) := by
  refine Cl.mk ?_
  k_fill
  intro loose mean mg mb dp un gd cn cs a ccd cl outer A₀ base h₀ L m s Q E B F X N T hk hd hu hs0 hret
  k_dflt (refine' code_def (by k_asm) (by k_asm) (by k_asm) (by k_asm) (by k_asm) (by exact rfl) (by exact rfl) (by first | exact rfl | assumption) (by k_is) (by k_is) (by (first | exact rm2 (by assumption) rfl | exact rm1 (by assumption) rfl | exact rm0 (by assumption) | ktr_room)) (by exact BindsTo.of_eq rfl) (by exact locs rfl) ?_ (by exact rfl) (by exact rfl) (by exact rfl) (by decide); k_whole; intro g' L' h' FG' F' N' B' X' T'; (try dsimp only); (try k_fold))
  k_steps
  unfold Held
  rename News _ _ _ _ => N5
  rename Fr _ _ _ _ => F5
  refine for_list (J := fun i m nx => Loc m [("self", .ref x), ("left", .ref b₁), ("right", .ref b₂)] ∧ nx = _ ∧ (1 ≤ i → clamp p = clamp q) ∧ (2 ≤ i → clamp (p - 256) = clamp (q - 256)) ∧ (3 ≤ i → clamp (p - 512) = clamp (q - 512))) (vs := [.ref t₁, .ref t₂, .ref t₃]) (by rfl) F5 N5 (fun p hp => hp) (.tail _ (.tail _ (.head _))) ⟨⟨by with_unfolding_all rfl, by with_unfolding_all rfl, by with_unfolding_all rfl, trivial⟩, rfl, fun h => absurd h (by decide), fun h => absurd h (by decide), fun h => absurd h (by decide)⟩ ?_ ?_
  · clear N5 F5
    rintro I3 hI3 i3 v3 mm3 nx3 o3 hh3 tk3 hv3 ⟨hl3, rfl, c0, c1, c2⟩ ho3 F N
    refine turn_open ?_
    intro R9 hR9
    replace F := hl3.fr F
    have h3 : i3 = 0 ∨ i3 = 1 ∨ i3 = 2 := by
      have := (List.getElem?_eq_some_iff.mp hv3).1
      simp at this; omega
    rcases h3 with rfl | rfl | rfl <;> simp at hv3 <;> subst hv3
    all_goals k_steps
    all_goals (simp only [cmp_lt, cmp_gt, decide_eq_true_eq, decide_eq_false_iff_not] at *)
    all_goals (try dsimp only)
    all_goals (first
      | (refine hR9 _ _ ?_; refine TurnEnd.back ?_; k_steps)
      | (refine hR9 _ _ ?_; refine TurnEnd.go _ (by k_asm) (by k_asm) (.head _) (fun p hp => .tail _ hp) (fun p hp => .inl (Nat.ne_of_lt (hI3 p hp))) ⟨.tail _ (.tail _ (.head _)), ⟨by with_unfolding_all rfl, by with_unfolding_all rfl, by with_unfolding_all rfl, trivial⟩, rfl, ?_, ?_, ?_⟩ <;> (first | exact fun _ => eq_of_not (by assumption) (by assumption) | exact fun _ => c0 (by decide) | exact fun _ => c1 (by decide) | exact fun _ => c2 (by decide) | exact fun h => absurd h (by decide))))
    all_goals (
      rename News h₀ L _ _ => kN
      refine hret _ _ _ [] (by k_asm) (fun p hp => kN p (.tail _ hp)) no_new ⟨?_, rfl⟩
      first
        | (have e : sgn p q = -1 := sgn_lt (by first | exact cl_lt (by assumption) | exact cl_lt1 (by assumption))
           exact ⟨_, by rw [e, Int.mul_neg, Int.mul_one]⟩)
        | (have e : sgn p q = 1 := sgn_gt (by first | exact cl_lt (by assumption) | exact cl_lt1 (by assumption))
           exact ⟨_, by rw [e, Int.mul_one]⟩))
  · rintro mm nx h tk ⟨hl, rfl, c0, c1, c2⟩ F2 N2
    replace F2 := hl.fr F2
    clear N5 F5
    dsimp only
    k_steps
    have e : sgn p q = 0 := sgn_eq (cl_inj hp hq (c0 (show 1 ≤ 3 by decide)) (c1 (show 2 ≤ 3 by decide)) (c2 (show 3 ≤ 3 by decide)))
    exact hret _ _ _ [] (by k_asm) (by k_asm) no_new ⟨⟨_, by rw [e, Int.mul_zero]⟩, rfl⟩
theorem wds_Cpr_2 : True := by
  k_with_none
  trivial
end
end Mine
end
section
open PySem PySem.W PyProof.Rows PySem.Calls PyProof.Rows.LCg
set_option Elab.async false
set_option maxRecDepth 100000
namespace Mine
/-- a pair as the ledger bears it: server, port -/
def PairIn (nx : List (Addr × Obj)) (v : Value) (d : Bool × Int) : Prop :=
  ∃ a t u n, v = .ref a ∧ (a, ({ cls := .type "tuple", data := .seq [Value.str (hostS d.1) t, .int d.2 u].toArray n } : Obj)) ∈ nx
theorem PairIn.mono {nx nx' : List (Addr × Obj)} {v : Value} {d : Bool × Int} (h : PairIn nx v d) (k : ∀ p ∈ nx, p ∈ nx') : PairIn nx' v d := by
  obtain ⟨a, t, u, n, e, m⟩ := h
  exact ⟨a, t, u, n, e, k _ m⟩
/-- a comprehension over pairs, by what holds between its turns -/
theorem comp_invP {prog : Program} {w : World} {A : Around} {s : Shared} {env : Env} {h₀ : Heap} {L : Addr} {m : Str → Option Value} {elt : Expr} {x x₂ : Str} {scope : Scope} {cl : List (Str × Addr)} {S : List (Addr × Obj) → Prop} {P : Nat → Value → Prop} {Fin : List Value → List (Addr × Obj) → Prop} {n : Nat} (J : Nat → List Value → List (Addr × Obj) → Prop)
    (turn : ∀ i ys nx, i < n → J i ys nx → ∀ v, P i v → ∃ (t : Addr) (ot : Obj) (v₁ v₂ : Value) (nt : Nat), v = .ref t ∧ (t, ot) ∈ nx ∧ ot.cls = .type "tuple" ∧ ot.data = .seq #[v₁, v₂] nt ∧
      ∀ I oI C oC D m₂ h tk (E' : Value → Shared → Prop), NsObj oC m₂ → m₂ x = some v₁ → m₂ x₂ = some v₂ → Fr h₀ L h m → News h₀ L h ((I, oI) :: (C, oC) :: (D, lst ys) :: nx) → Off3 I C D nx → ((@Ne Nat I C) ∧ (@Ne Nat I D) ∧ (@Ne Nat C D)) →
      wpAny (model prog w) A (eval elt (compEnvC scope cl C env)) (EltEnd h₀ L m { s with heap := h, toks := tk } I oI C oC D (lst ys) S (fun y nx' => J (i + 1) (ys ++ [y]) nx')) E' { s with heap := h, toks := tk })
    (fin : ∀ ys nx, J n ys nx → Fin ys nx) : ∀ k i ys nx, k + i = n → J i ys nx → LCp.CompRestP prog w A h₀ L m env elt x x₂ scope cl s S P Fin k i ys nx := by
  intro k
  induction k with
  | zero =>
    intro i ys nx hk hj
    have e : i = n := by omega
    subst e
    exact LCp.CompRestP.zero (fin ys nx hj)
  | succ k ih =>
    intro i ys nx hk hj
    refine LCp.CompRestP.succ fun v hP => ?_
    obtain ⟨t, ot, v₁, v₂, nt, e, hm, hc, hd, T⟩ := turn i ys nx (by omega) hj v hP
    refine ⟨t, ot, v₁, v₂, nt, e, hm, hc, hd, fun I oI C oC D m₂ h tk E' hN hx hx₂ F N o3 ne => ?_⟩
    refine wpAny_mono (T I oI C oC D m₂ h tk E' hN hx hx₂ F N o3 ne) (fun y s₂ q => ?_) fun _ _ e => e
    exact end_mono q fun y n z => ih (i + 1) (ys ++ [y]) n (by omega) z
/-- a row of three lights, and the port it stands for -/
def RowIn (nx : List (Addr × Obj)) (v : Value) (p : Int) : Prop :=
  ∃ a b t t₀ t₁ t₂ n k, v = .ref a ∧ (a, ({ cls := .type "tuple", data := .seq [Value.int p t, .ref b].toArray n } : Obj)) ∈ nx ∧ (b, listOf [Value.float (fl (clamp p)) t₀, .float (fl (clamp (p - 256))) t₁, .float (fl (clamp (p - 512))) t₂].toArray k) ∈ nx
theorem RowIn.mono {nx nx' : List (Addr × Obj)} {v : Value} {p : Int} (h : RowIn nx v p) (k : ∀ p ∈ nx, p ∈ nx') : RowIn nx' v p := by
  obtain ⟨a, b, t, t₀, t₁, t₂, n, kk, e, m, m'⟩ := h
  exact ⟨a, b, t, t₀, t₁, t₂, n, kk, e, k _ m, k _ m'⟩
theorem len_two {α : Type} {vs : List α} (h : vs.length = 2) : ∃ a b, vs = [a, b] := by
  cases vs with
  | nil => cases h
  | cons a vs => obtain ⟨b, rfl⟩ := List.length_eq_one_iff.mp (Nat.succ.inj h); exact ⟨a, b, rfl⟩
theorem len_three {α : Type} {vs : List α} (h : vs.length = 3) : ∃ a b c, vs = [a, b, c] := by
  cases vs with
  | nil => cases h
  | cons a vs => obtain ⟨b, c, rfl⟩ := len_two (Nat.succ.inj h); exact ⟨a, b, c, rfl⟩
theorem row_shapes {vs : List Value} {p : Int} (h : Fls vs (rowN p)) (hp : 0 ≤ p ∧ p < 768) :
    (vs = [] ∧ clamp p = 0 ∧ clamp (p - 256) = 0 ∧ clamp (p - 512) = 0) ∨ (∃ t, vs = [.float (fl (clamp p)) t] ∧ clamp (p - 256) = 0 ∧ clamp (p - 512) = 0) ∨ (∃ t u, vs = [.float (fl (clamp p)) t, .float (fl (clamp (p - 256))) u] ∧ clamp (p - 512) = 0) ∨
    (∃ t u z, vs = [.float (fl (clamp p)) t, .float (fl (clamp (p - 256))) u, .float (fl (clamp (p - 512))) z]) := by
  have hl := h.length
  rw [rowN_len hp.1] at hl
  have g : ∀ k : Nat, k < ((p + 255) / 256).toNat → ∃ t, vs[k]? = some (.float (fl (clamp (p - 256 * (k : Int)))) t) := fun k hk => by
    obtain ⟨t, _, e⟩ := h.get (rowN_get hp.1 hk)
    exact ⟨t, e⟩
  have k1 := pl_hi p
  have k2 := pl_b (a := p) ⟨hp.1, by omega⟩
  have k3 := pl_lo p
  change vs.length = (pl p).toNat at hl
  change ∀ k : Nat, k < (pl p).toNat → _ at g
  generalize pl p = x at *
  obtain ⟨n, rfl⟩ := Int.eq_ofNat_of_zero_le k2.1
  rw [Int.toNat_natCast] at hl g
  have hn : n ≤ 3 := by omega
  have z0 : n ≤ 0 → clamp p = 0 := fun e => clamp_neg (by omega)
  have z1 : n ≤ 1 → clamp (p - 256) = 0 := fun e => clamp_neg (by omega)
  have z2 : n ≤ 2 → clamp (p - 512) = 0 := fun e => clamp_neg (by omega)
  have g0 : 0 < n → ∃ t, vs[0]? = some (.float (fl (clamp p)) t) := fun e => by
    obtain ⟨t, q⟩ := g 0 e
    rw [show p - 256 * ((0 : Nat) : Int) = p from Int.sub_zero p] at q
    exact ⟨t, q⟩
  have g1 : 1 < n → ∃ t, vs[1]? = some (.float (fl (clamp (p - 256))) t) := fun e => g 1 e
  have g2 : 2 < n → ∃ t, vs[2]? = some (.float (fl (clamp (p - 512))) t) := fun e => g 2 e
  clear g k1 k2 k3 h hp
  cases n with
  | zero => exact .inl ⟨List.eq_nil_of_length_eq_zero hl, z0 (Nat.le_refl _), z1 (Nat.zero_le _), z2 (Nat.zero_le _)⟩
  | succ n =>
    obtain ⟨t, h0⟩ := g0 (Nat.succ_pos _)
    cases n with
    | zero =>
      obtain ⟨a, rfl⟩ := List.length_eq_one_iff.mp hl
      exact .inr (.inl ⟨t, congrArg (fun v => [v]) (Option.some.inj h0), z1 (Nat.le_refl _), z2 (by decide)⟩)
    | succ n =>
      obtain ⟨u, h1⟩ := g1 (Nat.succ_lt_succ (Nat.succ_pos _))
      cases n with
      | zero =>
        obtain ⟨a, b, rfl⟩ := len_two hl
        cases Option.some.inj h0
        cases Option.some.inj h1
        exact .inr (.inr (.inl ⟨t, u, rfl, z2 (Nat.le_refl _)⟩))
      | succ n =>
        obtain ⟨z, h2⟩ := g2 (Nat.succ_lt_succ (Nat.succ_lt_succ (Nat.succ_pos _)))
        cases n with
        | zero =>
          obtain ⟨a, b, c, rfl⟩ := len_three hl
          cases Option.some.inj h0
          cases Option.some.inj h1
          cases Option.some.inj h2
          exact .inr (.inr (.inr ⟨t, u, z, rfl⟩))
        | succ n => exact absurd hn (by omega)
theorem elt_two {h₀ h' : Heap} {L I C D T S' : Addr} {m : Str → Option Value} {s₁ : Shared} {oI oC oD oT oS : Obj} {S : List (Addr × Obj) → Prop} {rest : Value → List (Addr × Obj) → Prop} {tk : Nat} {a b c : Addr × Obj} {nx : List (Addr × Obj)}
    (F : Fr h₀ L h' m) (N : News h₀ L h' ((T, oT) :: (S', oS) :: a :: b :: c :: (I, oI) :: (C, oC) :: (D, oD) :: nx)) (lT : I < T ∧ C < T ∧ D < T ∧ AllLt T nx) (lS : I < S' ∧ C < S' ∧ D < S' ∧ AllLt S' nx) (off : Off3 I C D nx) (hS : S ((T, oT) :: (S', oS) :: nx)) (r : rest (.ref T) ((T, oT) :: (S', oS) :: nx)) :
    EltEnd h₀ L m s₁ I oI C oC D oD S rest (.ref T) { s₁ with heap := h', toks := tk } := by
  refine CompEnd.intro F N ((T, oT) :: (S', oS) :: nx) ?_ ⟨⟨Nat.ne_of_gt lT.1, Nat.ne_of_gt lT.2.1, Nat.ne_of_gt lT.2.2.1⟩, ⟨Nat.ne_of_gt lS.1, Nat.ne_of_gt lS.2.1, Nat.ne_of_gt lS.2.2.1⟩, off⟩ hS r
  ((repeat (refine fa (by (repeat (first | exact List.Mem.head _ | apply List.Mem.tail))) ?_)); exact fun p hp => (by (repeat (first | assumption | apply List.Mem.tail))))
theorem take_snoc {α : Type} {l : List α} {i : Nat} {x : α} (h : l[i]? = some x) : l.take (i + 1) = l.take i ++ [x] := by
  rw [List.take_add_one, h]; rfl
theorem news_rot {h₀ h : Heap} {L : Addr} {a b c d e f g : Addr × Obj} {nw rest : List (Addr × Obj)} (N : News h₀ L h (a :: (nw ++ b :: c :: d :: e :: f :: g :: rest))) : News h₀ L h (a :: b :: c :: d :: e :: f :: g :: (nw ++ rest)) := by
  refine fa (N _ (.head _)) ?_
  iterate 6 (refine fa (N _ (.tail _ (List.mem_append_right _ (by (repeat (first | exact List.Mem.head _ | apply List.Mem.tail)))))) ?_)
  exact fun p hp => N p (.tail _ ((List.mem_append.mp hp).elim (fun h => List.mem_append_left _ h) fun h => List.mem_append_right _ (.tail _ (.tail _ (.tail _ (.tail _ (.tail _ (.tail _ h))))))))
theorem dup {h₀ h : Heap} {L : Addr} {p : Addr × Obj} {nx : List (Addr × Obj)} (N : News h₀ L h nx) (m : p ∈ nx) : News h₀ L h (p :: nx) := fun q hq => by
  rcases List.mem_cons.mp hq with rfl | hq
  · exact N _ m
  · exact N q hq
theorem dup3 {h₀ h : Heap} {L : Addr} {p : Addr × Obj} {nx nw : List (Addr × Obj)} (N : News h₀ L h nx) (m : p ∈ nw) (k : ∀ q ∈ nw, q ∈ nx) : News h₀ L h (p :: nx) := dup N (k _ m)
theorem news_ord {h₀ h : Heap} {L : Addr} {b2 a2 i2 b1 a1 i d x dx l t3 t2 t1 : Addr × Obj} {rest : List (Addr × Obj)} (N : News h₀ L h (b2 :: a2 :: i2 :: b1 :: a1 :: i :: d :: x :: dx :: l :: t3 :: t2 :: t1 :: rest)) : News h₀ L h (x :: dx :: l :: t1 :: t2 :: t3 :: b1 :: b2 :: a2 :: i2 :: a1 :: i :: d :: rest) := fun p hp => N p (by
  revert p
  ((repeat (refine fa (by (repeat (first | exact List.Mem.head _ | apply List.Mem.tail))) ?_)); exact fun p hp => (by (repeat (first | assumption | apply List.Mem.tail)))))
theorem sgn_b2i (p q : Int) : sgn p q = b2i (decide (q < p)) - b2i (decide (p < q)) := by
  unfold sgn b2i
  by_cases h1 : q < p
  · have h2 : ¬ p < q := by omega
    simp [h1, h2]
  · by_cases h2 : p < q <;> simp [h1, h2]
theorem sub_ord (p : Addr × Obj) {b2 a2 i2 b1 a1 i d x dx l t3 t2 t1 : Addr × Obj} {rest : List (Addr × Obj)} (hp : p ∈ b1 :: a1 :: i :: d :: x :: dx :: l :: t3 :: t2 :: t1 :: rest) : p ∈ x :: dx :: l :: t1 :: t2 :: t3 :: b1 :: b2 :: a2 :: i2 :: a1 :: i :: d :: rest := by
  revert p
  ((repeat (refine fa (by (repeat (first | exact List.Mem.head _ | apply List.Mem.tail))) ?_)); exact fun p hp => (by (repeat (first | assumption | apply List.Mem.tail))))
section






theorem wds_Order_1 : True := by
  k_with_none
  k_with "execs cons" => (k_here; (refine gen_toks (by ((fail_if_success assumption); (fail_if_success exact PT.pos _); (first | exact Nat.succ_pos _ | (dsimp only; first | exact Nat.succ_pos _ | omega)))) ?_); (try dsimp only); (intro tkzz))
  k_with "execs nil" => (k_here; (refine gen_toks (by ((fail_if_success assumption); (fail_if_success exact PT.pos _); (first | exact Nat.succ_pos _ | (dsimp only; first | exact Nat.succ_pos _ | omega)))) ?_); (try dsimp only); (intro tkzz))
  k_with "call ref" => (k_here; (with_reducible show wpAny _ _ (call (Value.ref 154) _ _) _ _ _); k_dflt (refine ClZ.use (t_rowZ _ _ _ _ (by first | assumption | omega)) (by k_asm) (by k_asm) (by k_asm) (by k_asm) (by k_asm) (by first | exact rfl | assumption) (by (first | exact rm2 (by assumption) rfl | exact rm1 (by assumption) rfl | exact rm0 (by assumption) | ktr_room)) (by (first | exact rm2 (by assumption) rfl | exact rm1 (by assumption) rfl | exact rm0 (by assumption) | ktr_units)) ?_); (intro v9zz h9zz tk9zz new9zz F9zz N9zz l9zz p9zz); (obtain ⟨a9zz, k9zz, v9zz, ea9zz, eb9zz, f9zz⟩ := p9zz); subst ea9zz; subst eb9zz; (try simp only [List.nil_append, List.cons_append] at N9zz); (replace l9zz := new_off l9zz); (try (simp only [PyProof.Rows.LCg.Off1, and_true] at l9zz)); (try k_sweep); (try dsimp only); (try k_fold); walk_say "CONTRACT 154")
  k_with "binaryOp Add ref ref" => (k_here; (rename Fls _ _ => hfzz); (refine Held.of ?_))
  k_with "exec For Name Call cons nil" => (k_here; k_dflt (refine For_turns (by k_asm) ?_))
  k_with "exec For Name Name cons nil" => (k_here; k_dflt (refine For_turns (by k_asm) ?_))
  k_with "exec For Tuple Name cons nil" => (k_here; k_dflt (refine For_turns (by k_asm) ?_))
  k_with "exec For Tuple Call cons nil" => (k_here; k_dflt (refine For_turns (by k_asm) ?_))
  k_with "exec For Name Subscript cons nil" => (k_here; k_dflt (refine For_turns (by k_asm) ?_))
  k_with "exec For Tuple Attribute cons nil" => (k_here; k_dflt (refine For_turns (by k_asm) ?_))
  k_with "pyIter ref" => ((with_reducible show wpAny _ _ (pyIter (Value.ref _)) (fun it s₂ => TurnsAt _ _ _ _ _ _ _ _ _ it s₂) _ _); (refine Held.of ?_))
  k_with "call ref" => (k_here; k_dflt (first
  | (refine' call_cls (by k_asm) (by k_asm) (by k_asm) (by k_is) (by k_is) (by k_is) ?_; k_whole; intro xqzz dqzz hqzz Fqzz Nqzz l1zz l2zz; (try k_lt l1zz); (try k_lt2 l2zz); (try k_sweep); (refine' code_def (by k_asm) (by k_asm) (by k_asm) (by k_asm) (by k_asm) (by exact rfl) (by exact rfl) (by first | exact rfl | assumption) (by k_is) (by k_is) (by (first | exact rm2 (by assumption) rfl | exact rm1 (by assumption) rfl | exact rm0 (by assumption) | ktr_room)) (by exact BindsTo.of_eq rfl) (by exact locs rfl) ?_ (by exact rfl) (by exact rfl) (by exact rfl) (by decide); k_whole; intro gqzz Lqzz hqzz FGqzz Fqzz Nqzz Bqzz Xqzz Tqzz; (try dsimp only); (try k_fold)))
  | (refine' call_meth (by k_asm) (by k_mem) ?_; k_whole; (refine' code_def (by k_asm) (by k_asm) (by k_asm) (by k_asm) (by k_asm) (by exact rfl) (by exact rfl) (by first | exact rfl | assumption) (by k_is) (by k_is) (by (first | exact rm2 (by assumption) rfl | exact rm1 (by assumption) rfl | exact rm0 (by assumption) | ktr_room)) (by exact BindsTo.of_eq rfl) (by exact locs rfl) ?_ (by exact rfl) (by exact rfl) (by exact rfl) (by decide); k_whole; intro gqzz Lqzz hqzz FGqzz Fqzz Nqzz Bqzz Xqzz Tqzz; (try dsimp only); (try k_fold)))))
  k_with "call ref" => (k_here; (with_reducible show wpAny _ _ (call (Value.ref 86) _ _) _ _ _); k_dflt (refine Cl.use (t_compare _ _ _ _ _ _ _ _ _ _ _ _ _ _ _ _ _ _ _ _ _ _ _ _ _ _ _ _ _ _ _ _ ?cp ?cq) (by k_asm) (by k_asm) (by k_asm) (by k_asm) (by k_asm) (by first | exact rfl | assumption) (by (first | exact rm2 (by assumption) rfl | exact rm1 (by assumption) rfl | exact rm0 (by assumption) | ktr_room)) (by (first | exact rm2 (by assumption) rfl | exact rm1 (by assumption) rfl | exact rm0 (by assumption) | ktr_units)) (by (first | assumption | exact PT.pos _ | exact Nat.succ_pos _ | (dsimp only; first | assumption | exact PT.pos _ | exact Nat.succ_pos _ | omega))) ?_); (case cp => assumption); (case cq => assumption); (intro v9zz h9zz tk9zz new9zz q9zz F9zz N9zz l9zz p9zz); (obtain ⟨⟨t9zz, ea9zz⟩, eb9zz⟩ := p9zz); subst ea9zz; subst eb9zz; (try simp only [List.nil_append, List.cons_append] at N9zz); clear l9zz; (try k_sweep); (try dsimp only); (try k_fold); walk_say "CONTRACT 86")
  k_with "eval ListComp" => (k_here; (refine Held.of ?_))
  k_with "exec Assign cons ListComp" => (k_here; (refine Held.of ?_))
  trivial

set_option maxHeartbeats 1200000 in
theorem t_order (w : World) (H : Addr) (way : Int) (tw : Tok) (n : Nat) (xs : List Value) (ds : List (Bool × Int)) (news : List (Addr × Obj)) (hw : way = 1 ∨ way = -1) (hH : (H, listOf xs.toArray n) ∈ news) (hp : All2 (PairIn news) xs ds) (hds : ∀ d ∈ ds, 0 ≤ d.2 ∧ d.2 < 768) (hl : ds.length ≤ 4) : ClZ w 30 178 [.ref H, .int way tw] news (fun v new => v = .bool true ∧ new = []) := by
  refine ClZ.mk ?_
  k_fill
  intro loose mean mg mb dp un gd cn cs a ccd cl outer A₀ base h₀ L m s Q E B F X N T hk hd hu hret
  k_dflt (refine' code_def (by k_asm) (by k_asm) (by k_asm) (by k_asm) (by k_asm) (by exact rfl) (by exact rfl) (by first | exact rfl | assumption) (by k_is) (by k_is) (by (first | exact rm2 (by assumption) rfl | exact rm1 (by assumption) rfl | exact rm0 (by assumption) | ktr_room)) (by exact BindsTo.of_eq rfl) (by exact locs rfl) ?_ (by exact rfl) (by exact rfl) (by exact rfl) (by decide); k_whole; intro g' L' h' FG' F' N' B' X' T'; (try dsimp only); (try k_fold))
  k_steps
  unfold Held
  refine LCp.Assign_ListComp_P (F₀ := by k_asm) (by rfl) (by with_unfolding_all rfl) (by with_unfolding_all rfl) (by decide) (by rfl) (by decide) (by rfl) (by rfl) (by decide) (by rfl) (by rfl) ?_
  k_steps
  rename Fr _ _ _ _ => F1
  rename News _ _ _ _ => N1
  refine LCp.SrcLP.ledger (k := n) (its := xs.toArray) (by rfl) F1 N1 (by simp [hH]) (by simp [hp.length]; rw [sizeLine_eq]; omega) fun g => ?_
  refine comp_invP (J := fun i ys nx => ∃ nw, nx = nw ++ _ ∧ All2 (RowIn nw) ys ((ds.map Prod.snd).take i)) ?_ ?_ _ _ _ _ (Nat.add_zero _) ⟨[], rfl, .nil⟩
  · rintro i ys nx hi ⟨nw, rfl, h2⟩ v hv
    have hv' : xs[i]? = some v := by simpa using hv
    obtain ⟨⟨b, p⟩, hd9, a9, t9, u9, n9, rfl, m9⟩ := hp.get hv'
    have hpp : 0 ≤ p ∧ p < 768 := hds _ (List.mem_of_getElem? hd9)
    refine ⟨a9, { cls := .type "tuple", data := .seq [Value.str (hostS b) t9, .int p u9].toArray n9 }, .str (hostS b) t9, .int p u9, n9, rfl, List.mem_append.mpr (.inr ?_), rfl, rfl, fun I oI C oC DD m₂ h tk E' hN hx9 hx8 F9 N9 o3 ne => ?_⟩
    · simp [m9]
    refine post_open ?_
    intro R9 hR9
    k_steps
    unfold Held
    rename Fls _ _ => hf9
    rcases row_shapes hf9 hpp with ⟨rfl, e1, e2, e3⟩ | ⟨t1, rfl, e2, e3⟩ | ⟨t1, t2, rfl, e3⟩ | ⟨t1, t2, t3, rfl⟩
    all_goals (clear hf9)
    all_goals k_steps
    all_goals (
      rename (_ < _ ∧ _ < _ ∧ _ < _ ∧ _ < _ ∧ I < _ ∧ C < _ ∧ DD < _ ∧ AllLt _ _) => lT
      rename (_ < _ ∧ _ < _ ∧ _ < _ ∧ I < _ ∧ C < _ ∧ DD < _ ∧ AllLt _ _) => lS
      rename News _ _ _ _ => N9
      refine hR9 _ _ ?_; refine elt_two (by k_asm) N9 lT.2.2.2.2 lS.2.2.2 o3 (.inr ⟨listOf xs.toArray n, by simp [hH], rfl, n, rfl⟩) ⟨_ :: _ :: nw, rfl, ?_⟩
      rw [take_snoc (by rw [List.getElem?_map, hd9]; rfl)]
      refine (h2.mono fun _ _ h => h.mono fun p hp => .tail _ (.tail _ hp)).snoc ?_)
    · exact ⟨_, _, _, _, _, _, _, _, rfl, .head _, by rw [e1, e2, e3, fl_nought]; exact .tail _ (.head _)⟩
    · exact ⟨_, _, _, _, _, _, _, _, rfl, .head _, by rw [e2, e3, fl_nought]; exact .tail _ (.head _)⟩
    · exact ⟨_, _, _, _, _, _, _, _, rfl, .head _, by rw [e3, fl_nought]; exact .tail _ (.head _)⟩
    · exact ⟨_, _, _, _, _, _, _, _, rfl, .head _, .tail _ (.head _)⟩
  · rintro ys nx ⟨nw, rfl, h2⟩ DD h9 tk9 F9 N9 o9
    k_steps
    unfold Held
    rename News _ _ _ _ => N3
    rename Fr _ _ _ _ => F3
    replace N3 := news_rot N3
    refine for_list (J := fun i m nx => Loc m [("rows", .ref DD), ("judge", .ref _), ("way", .int way tw)] ∧ nx = _) (by rfl) F3 N3 (fun p hp => hp) (.head _) ⟨⟨by with_unfolding_all rfl, by with_unfolding_all rfl, by with_unfolding_all rfl, trivial⟩, rfl⟩ ?_ ?_
    · rintro I hI i v mm nx o h tk hv ⟨hl, rfl⟩ ho F N
      refine turn_open ?_
      intro R9 hR9
      replace F := hl.fr F
      obtain ⟨p₁, hp₁, a₁, b₁, t₁, u₀, u₁, u₂, n₁, k₁, rfl, ma₁, mb₁⟩ := h2.get hv
      have ma₁' := dup N (.tail _ (.tail _ (.tail _ (.tail _ (.tail _ (.tail _ (.tail _ (.tail _ (List.mem_append.mpr (.inl ma₁))))))))))
      have mb₁' := dup ma₁' (.tail _ (.tail _ (.tail _ (.tail _ (.tail _ (.tail _ (.tail _ (.tail _ (.tail _ (List.mem_append.mpr (.inl mb₁)))))))))))
      clear ma₁' N
      k_steps
      unfold Held
      rename News _ _ _ _ => N4
      rename Fr _ _ _ _ => F4
      refine for_list (J := fun i m nx => Loc m [("rows", .ref DD), ("judge", .ref _), ("way", .int way tw), ("one", .int p₁ t₁), ("lights", .ref b₁)] ∧ nx = _) (by rfl) F4 N4 (fun p hp => hp) (.tail _ (.tail _ (.tail _ (.head _)))) ⟨⟨by with_unfolding_all rfl, by with_unfolding_all rfl, by with_unfolding_all rfl, by with_unfolding_all rfl, by with_unfolding_all rfl, trivial⟩, rfl⟩ ?_ ?_
      · rintro I2 hI2 i2 v2 mm2 nx2 o2 hh tk2 hv2 ⟨hl2, rfl⟩ ho2 F N
        refine turn_open ?_
        intro R9 hR9
        replace F := hl2.fr F
        obtain ⟨p₂, hp₂, a₂, b₂, t₂, w₀, w₁, w₂, n₂, k₂, rfl, ma₂, mb₂⟩ := h2.get hv2
        have ma₂' := dup3 N ma₂ (fun q hq => by repeat (first | exact List.mem_append.mpr (.inl hq) | refine .tail _ ?_))
        have mb₂' := dup3 ma₂' mb₂ (fun q hq => by repeat (first | exact List.mem_append.mpr (.inl hq) | refine .tail _ ?_))
        have hN := news_ord mb₂'
        clear mb₂' ma₂' N
        have hpp₁ : 0 ≤ p₁ ∧ p₁ < 768 := by
          have := List.mem_of_getElem? hp₁
          obtain ⟨d, hd1, e⟩ := List.mem_map.mp (List.mem_of_mem_take this)
          rw [← e]; exact hds d hd1
        have hpp₂ : 0 ≤ p₂ ∧ p₂ < 768 := by
          have := List.mem_of_getElem? hp₂
          obtain ⟨d, hd1, e⟩ := List.mem_map.mp (List.mem_of_mem_take this)
          rw [← e]; exact hds d hd1
        k_steps
        · exact absurd (by rw [sgn_b2i]) (by assumption : way * sgn p₁ p₂ ≠ _)
        · rename News _ _ _ _ => kN
          refine hR9 _ _ ?_; refine TurnEnd.go _ (by k_asm) kN (by simp) (fun p hp => sub_ord p hp) (fun p hp => .inl (Nat.ne_of_lt (hI2 p hp))) ⟨.tail _ (.tail _ (.tail _ (.head _))), ⟨by with_unfolding_all rfl, by with_unfolding_all rfl, by with_unfolding_all rfl, by with_unfolding_all rfl, by with_unfolding_all rfl, trivial⟩, rfl⟩
      · rintro mm2 nx2 hh tk2 ⟨hl2, rfl⟩ F N
        replace F := hl2.fr F
        dsimp only
        k_steps
        rename News _ _ _ _ => kN
        refine hR9 _ _ ?_; refine TurnEnd.go _ (by k_asm) kN (.tail _ (.tail _ (.head _))) (fun p hp => .tail _ (.tail _ (.tail _ hp))) (fun p hp => .inl (Nat.ne_of_lt (hI p hp))) ⟨.head _, ⟨by with_unfolding_all rfl, by with_unfolding_all rfl, by with_unfolding_all rfl, trivial⟩, rfl⟩
    · rintro mm2 nx2 hh tk2 ⟨hl2, rfl⟩ F N
      replace F := hl2.fr F
      dsimp only
      k_steps
      rename News h₀ L _ _ => kN
      refine hret _ _ _ [] (by k_asm) (fun p hp => kN p ?_) no_new ⟨rfl, rfl⟩
      repeat (first | exact List.mem_append.mpr (.inr hp) | refine .tail _ ?_)
theorem wds_Order_2 : True := by
  k_with_none
  trivial
end
end Mine
end
section
open PySem PySem.W PyProof.Rows PySem.Calls PyProof.Rows.LCg
set_option Elab.async false
set_option maxRecDepth 100000
namespace Mine
abbrev bookK (w : World) : KeyKind PySem.Challenge.rw_xg0026_01.row.prog w Str := PySem.strKind _ _
/-- a book at an address: its object's pairs -/
structure Bk (w : World) (a : Addr) (o : Obj) (kvs : List (Str × Value)) (T : List (PyData × PyData)) : Prop where
  lo : (a == sysModules) = false
  is : Obj.IsDictOf (bookK w) o kvs
  fl : PyProof.V.FlatPairs PyData.str kvs T
theorem end_go {h₀ h' : Heap} {L I : Addr} {o : Obj} {s₁ : Shared} {tk : Nat} {m' : Str → Option Value} {nx' : List (Addr × Obj)} {rest : (Str → Option Value) → List (Addr × Obj) → Prop} (F : Fr h₀ L h' m') (N : News h₀ L h' ((I, o) :: nx')) (l : AllLt I nx') (r : rest m' nx') :
    UnrEndW h₀ L s₁ [(I, o)] rest { s₁ with heap := h', toks := tk } :=
  ⟨h', tk, m', nx', rfl, F, N, fun p hp q hq => by rw [List.mem_singleton.mp hq]; exact Nat.ne_of_lt (of_allLt l p hp), r⟩
/-- a book by servers: each one's number -/
def BkR (w : World) (a : Addr) (o : Obj) (P : List (Bool × Int)) : Prop :=
  ∃ kvs, Bk w a o kvs (P.map fun e => (.str (hostS e.1), .int e.2)) ∧ All2 (fun (kv : Str × Value) (e : Bool × Int) => kv.1 = hostS e.1 ∧ ∃ t, kv.2 = .int e.2 t) kvs P
/-- a number added to a server's -/
def addP : List (Bool × Int) → Bool × Int → List (Bool × Int)
  | [], e => [e]
  | (b, q) :: r, (c, p) => if b = c then (b, q + p) :: r else (b, q) :: addP r (c, p)
theorem shapes {P : List (Bool × Int)} (h : (P.map Prod.fst).Nodup) : P = [] ∨ (∃ q, P = [(false, q)]) ∨ (∃ q, P = [(true, q)]) ∨ (∃ q r, P = [(false, q), (true, r)]) ∨ (∃ q r, P = [(true, q), (false, r)]) := by
  cases P with
  | nil => exact .inl rfl
  | cons x P =>
    obtain ⟨a, q⟩ := x
    cases P with
    | nil =>
      cases a
      · exact .inr (.inl ⟨q, rfl⟩)
      · exact .inr (.inr (.inl ⟨q, rfl⟩))
    | cons y P =>
      obtain ⟨b, r⟩ := y
      have h1 : a ≠ b := fun e => (List.nodup_cons.mp h).1 (e ▸ .head _)
      cases P with
      | nil =>
        cases a <;> cases b
        · exact absurd rfl h1
        · exact .inr (.inr (.inr (.inl ⟨q, r, rfl⟩)))
        · exact .inr (.inr (.inr (.inr ⟨q, r, rfl⟩)))
        · exact absurd rfl h1
      | cons z P =>
        obtain ⟨c, t⟩ := z
        have h2 : a ≠ c := fun e => (List.nodup_cons.mp h).1 (e ▸ .tail _ (.head _))
        have h3 : b ≠ c := fun e => (List.nodup_cons.mp (List.nodup_cons.mp h).2).1 (e ▸ .head _)
        exact absurd h3 (by revert h1 h2; cases a <;> cases b <;> cases c <;> decide)
theorem BkR.nil {w : World} {a : Addr} {o : Obj} (h : BkR w a o []) : Bk w a o [] [] := by
  obtain ⟨kvs, h, r⟩ := h
  cases r
  exact h
theorem BkR.one {w : World} {a : Addr} {o : Obj} {b : Bool} {q : Int} (h : BkR w a o [(b, q)]) : ∃ t, Bk w a o [(hostS b, .int q t)] [(.str (hostS b), .int q)] := by
  obtain ⟨kvs, h, r⟩ := h
  cases r with
  | cons e r =>
    cases r
    rename_i kv
    obtain ⟨x, y⟩ := kv
    obtain ⟨rfl, t, rfl⟩ := e
    exact ⟨t, h⟩
theorem BkR.two {w : World} {a : Addr} {o : Obj} {b c : Bool} {q p : Int} (h : BkR w a o [(b, q), (c, p)]) : ∃ t u, Bk w a o [(hostS b, .int q t), (hostS c, .int p u)] [(.str (hostS b), .int q), (.str (hostS c), .int p)] := by
  obtain ⟨kvs, h, r⟩ := h
  cases r with
  | cons e r =>
    cases r with
    | cons f r =>
      cases r
      rename_i x y
      obtain ⟨x, x'⟩ := x
      obtain ⟨y, y'⟩ := y
      obtain ⟨rfl, t, rfl⟩ := e
      obtain ⟨rfl, u, rfl⟩ := f
      exact ⟨t, u, h⟩
theorem hostS_t : hostS true = Str.ofString "b" := rfl
theorem hostS_f : hostS false = Str.ofString "a" := rfl
section


theorem wds_Callers_1 : True := by
  k_with_none
  k_with "execs cons" => (k_here; (refine gen_toks (by ((fail_if_success assumption); (fail_if_success exact PT.pos _); (first | exact Nat.succ_pos _ | (dsimp only; first | exact Nat.succ_pos _ | omega)))) ?_); (try dsimp only); (intro tkzz))
  k_with "execs nil" => (k_here; (refine gen_toks (by ((fail_if_success assumption); (fail_if_success exact PT.pos _); (first | exact Nat.succ_pos _ | (dsimp only; first | exact Nat.succ_pos _ | omega)))) ?_); (try dsimp only); (intro tkzz))
  k_with "UnrEndW" => ((rename News _ _ _ _ => kNzz); (refine end_go (by k_asm) kNzz (by with_unfolding_all assumption) ?_); (refine ⟨⟨by (repeat (first | exact List.Mem.head _ | apply List.Mem.tail)), trivial⟩, ?_⟩))
  k_with "exec For Tuple Call cons nil" => (k_here; (rename Fr _ _ _ _ => lFqzz); (rename News _ _ _ _ => lNqzz); with_unfolding_all ((refine' For_turns lFqzz ?_); k_whole; (refine MethodCall_ ?_); (refine ld lFqzz (by rfl) ?_); (refine kdl_method (knd := PySem.strKind _ _) PySem.F.slot_dict_items PySem.F.type_dict_items lNqzz (by k_mem) (by k_asm) ?_); (refine callWith_method0 ?_); (refine kta_callItems (knd := PySem.strKind _ _) lFqzz lNqzz (by k_mem) (by k_asm) (by k_asm) ?_); intro hqzz hvqzz Fqzz Nqzz; (refine kta_items (knd := PySem.strKind _ _) (enc := PyData.str) (xs := []) (by rfl) Fqzz Nqzz hvqzz (by k_mem) (by k_asm) (fun _ _ h => Value.isStrOf_shape h) (by rfl) ?_)); clear lFqzz lNqzz; intro iqzz l1zz; (try k_lt l1zz))
  k_with "exec For Tuple Call cons nil" => (k_here; (rename Fr _ _ _ _ => lFqzz); (rename News _ _ _ _ => lNqzz); with_unfolding_all ((refine' For_turns lFqzz ?_); k_whole; (refine MethodCall_ ?_); (refine ld lFqzz (by rfl) ?_); (refine kdl_method (knd := PySem.strKind _ _) PySem.F.slot_dict_items PySem.F.type_dict_items lNqzz (by k_mem) (by k_asm) ?_); (refine callWith_method0 ?_); (refine kta_callItems (knd := PySem.strKind _ _) lFqzz lNqzz (by k_mem) (by k_asm) (by k_asm) ?_); intro hqzz hvqzz Fqzz Nqzz; (refine kta_items (knd := PySem.strKind _ _) (enc := PyData.str) (xs := [Itm.pair (fun t => Value.str _ t) (Value.int _ _)]) (by rfl) Fqzz Nqzz hvqzz (by k_mem) (by k_asm) (fun _ _ h => Value.isStrOf_shape h) (by rfl) ?_)); clear lFqzz lNqzz; intro iqzz l1zz; (try k_lt l1zz))
  k_with "exec For Tuple Call cons nil" => (k_here; (rename Fr _ _ _ _ => lFqzz); (rename News _ _ _ _ => lNqzz); with_unfolding_all ((refine' For_turns lFqzz ?_); k_whole; (refine MethodCall_ ?_); (refine ld lFqzz (by rfl) ?_); (refine kdl_method (knd := PySem.strKind _ _) PySem.F.slot_dict_items PySem.F.type_dict_items lNqzz (by k_mem) (by k_asm) ?_); (refine callWith_method0 ?_); (refine kta_callItems (knd := PySem.strKind _ _) lFqzz lNqzz (by k_mem) (by k_asm) (by k_asm) ?_); intro hqzz hvqzz Fqzz Nqzz; (refine kta_items (knd := PySem.strKind _ _) (enc := PyData.str) (xs := [Itm.pair (fun t => Value.str _ t) (Value.int _ _), Itm.pair (fun t => Value.str _ t) (Value.int _ _)]) (by rfl) Fqzz Nqzz hvqzz (by k_mem) (by k_asm) (fun _ _ h => Value.isStrOf_shape h) (by rfl) ?_)); clear lFqzz lNqzz; intro iqzz l1zz; (try k_lt l1zz))
  trivial

set_option maxHeartbeats 8000000 in
theorem t_callers (w : World) (ta sa : Addr) (oT oS : Obj) (P : List (Bool × Int)) (e : Bool × Int) (rest : List (Addr × Obj)) (hn : (P.map Prod.fst).Nodup) (hT : BkR w ta oT P) (hS : BkR w sa oS [e]) :
    Cl w 3 107 [.ref ta, .ref sa] ((ta, oT) :: (sa, oS) :: rest) (fun v new => (∃ d o, v = .ref d ∧ new = [(d, o)] ∧ BkR w d o (addP P e))) := by
  refine Cl.mk ?_
  k_fill
  intro loose mean mg mb dp un gd cn cs a ccd cl outer A₀ base h₀ L m s Q E B F X N T hk hd hu hs0 hret
  obtain ⟨c, p⟩ := e
  obtain ⟨tS, lS, iS, fS⟩ := hS.one
  clear hS
  rcases shapes hn with rfl | ⟨q, rfl⟩ | ⟨q, rfl⟩ | ⟨q, r, rfl⟩ | ⟨q, r, rfl⟩
  · obtain ⟨lT, iT, fT⟩ := hT.nil
    cases c
    all_goals (
      simp only [hostS_t, hostS_f] at iS fS iT fT
      clear hT hn
      k_dflt (refine' code_def (by k_asm) (by k_asm) (by k_asm) (by k_asm) (by k_asm) (by exact rfl) (by exact rfl) (by first | exact rfl | assumption) (by k_is) (by k_is) (by (first | exact rm2 (by assumption) rfl | exact rm1 (by assumption) rfl | exact rm0 (by assumption) | ktr_room)) (by exact BindsTo.of_eq rfl) (by exact locs rfl) ?_ (by exact rfl) (by exact rfl) (by exact rfl) (by decide); k_whole; intro g' L' h' FG' F' N' B' X' T'; (try dsimp only); (try k_fold))
      k_steps)
    all_goals (first
      | (exfalso; rename ((Spec.lookup _ _).isSome = false) => hz; have hz' : (true = false) := by with_unfolding_all exact hz
         exact Bool.noConfusion hz')
      | (exfalso; rename ((Spec.lookup _ _).isSome = true) => hz; have hz' : (false = true) := by with_unfolding_all exact hz
         exact Bool.noConfusion hz')
      | skip)
    all_goals (
      rename News h₀ L _ _ => kN
      rename (ta < _ ∧ sa < _ ∧ AllLt _ rest) => lD
      refine hret _ _ _ [(_, _)] (by k_asm) kN (one_new (of_allLt lD)) ⟨_, _, rfl, rfl, _, ⟨by assumption, by assumption, by with_unfolding_all assumption⟩, ?_⟩
      with_unfolding_all exact .cons ⟨rfl, _, rfl⟩ .nil)
  · obtain ⟨tT, lT, iT, fT⟩ := hT.one
    cases c
    all_goals (
      simp only [hostS_t, hostS_f] at iS fS iT fT
      clear hT hn
      k_dflt (refine' code_def (by k_asm) (by k_asm) (by k_asm) (by k_asm) (by k_asm) (by exact rfl) (by exact rfl) (by first | exact rfl | assumption) (by k_is) (by k_is) (by (first | exact rm2 (by assumption) rfl | exact rm1 (by assumption) rfl | exact rm0 (by assumption) | ktr_room)) (by exact BindsTo.of_eq rfl) (by exact locs rfl) ?_ (by exact rfl) (by exact rfl) (by exact rfl) (by decide); k_whole; intro g' L' h' FG' F' N' B' X' T'; (try dsimp only); (try k_fold))
      k_steps)
    all_goals (first
      | (exfalso; rename ((Spec.lookup _ _).isSome = false) => hz; have hz' : (true = false) := by with_unfolding_all exact hz
         exact Bool.noConfusion hz')
      | (exfalso; rename ((Spec.lookup _ _).isSome = true) => hz; have hz' : (false = true) := by with_unfolding_all exact hz
         exact Bool.noConfusion hz')
      | skip)
    all_goals (
      rename News h₀ L _ _ => kN
      rename (ta < _ ∧ sa < _ ∧ AllLt _ rest) => lD
      refine hret _ _ _ [(_, _)] (by k_asm) kN (one_new (of_allLt lD)) ⟨_, _, rfl, rfl, _, ⟨by assumption, by assumption, by with_unfolding_all assumption⟩, ?_⟩
      with_unfolding_all exact (by first | exact .cons ⟨rfl, _, rfl⟩ .nil | exact .cons ⟨rfl, _, rfl⟩ (.cons ⟨rfl, _, rfl⟩ .nil)))
  · obtain ⟨tT, lT, iT, fT⟩ := hT.one
    cases c
    all_goals (
      simp only [hostS_t, hostS_f] at iS fS iT fT
      clear hT hn
      k_dflt (refine' code_def (by k_asm) (by k_asm) (by k_asm) (by k_asm) (by k_asm) (by exact rfl) (by exact rfl) (by first | exact rfl | assumption) (by k_is) (by k_is) (by (first | exact rm2 (by assumption) rfl | exact rm1 (by assumption) rfl | exact rm0 (by assumption) | ktr_room)) (by exact BindsTo.of_eq rfl) (by exact locs rfl) ?_ (by exact rfl) (by exact rfl) (by exact rfl) (by decide); k_whole; intro g' L' h' FG' F' N' B' X' T'; (try dsimp only); (try k_fold))
      k_steps)
    all_goals (first
      | (exfalso; rename ((Spec.lookup _ _).isSome = false) => hz; have hz' : (true = false) := by with_unfolding_all exact hz
         exact Bool.noConfusion hz')
      | (exfalso; rename ((Spec.lookup _ _).isSome = true) => hz; have hz' : (false = true) := by with_unfolding_all exact hz
         exact Bool.noConfusion hz')
      | skip)
    all_goals (
      rename News h₀ L _ _ => kN
      rename (ta < _ ∧ sa < _ ∧ AllLt _ rest) => lD
      refine hret _ _ _ [(_, _)] (by k_asm) kN (one_new (of_allLt lD)) ⟨_, _, rfl, rfl, _, ⟨by assumption, by assumption, by with_unfolding_all assumption⟩, ?_⟩
      with_unfolding_all exact (by first | exact .cons ⟨rfl, _, rfl⟩ .nil | exact .cons ⟨rfl, _, rfl⟩ (.cons ⟨rfl, _, rfl⟩ .nil)))
  · obtain ⟨tT, uT, lT, iT, fT⟩ := hT.two
    cases c
    all_goals (
      simp only [hostS_t, hostS_f] at iS fS iT fT
      clear hT hn
      k_dflt (refine' code_def (by k_asm) (by k_asm) (by k_asm) (by k_asm) (by k_asm) (by exact rfl) (by exact rfl) (by first | exact rfl | assumption) (by k_is) (by k_is) (by (first | exact rm2 (by assumption) rfl | exact rm1 (by assumption) rfl | exact rm0 (by assumption) | ktr_room)) (by exact BindsTo.of_eq rfl) (by exact locs rfl) ?_ (by exact rfl) (by exact rfl) (by exact rfl) (by decide); k_whole; intro g' L' h' FG' F' N' B' X' T'; (try dsimp only); (try k_fold))
      k_steps)
    all_goals (first
      | (exfalso; rename ((Spec.lookup _ _).isSome = false) => hz; have hz' : (true = false) := by with_unfolding_all exact hz
         exact Bool.noConfusion hz')
      | (exfalso; rename ((Spec.lookup _ _).isSome = true) => hz; have hz' : (false = true) := by with_unfolding_all exact hz
         exact Bool.noConfusion hz')
      | skip)
    all_goals (
      rename News h₀ L _ _ => kN
      rename (ta < _ ∧ sa < _ ∧ AllLt _ rest) => lD
      refine hret _ _ _ [(_, _)] (by k_asm) kN (one_new (of_allLt lD)) ⟨_, _, rfl, rfl, _, ⟨by assumption, by assumption, by with_unfolding_all assumption⟩, ?_⟩
      with_unfolding_all exact .cons ⟨rfl, _, rfl⟩ (.cons ⟨rfl, _, rfl⟩ .nil))
  · obtain ⟨tT, uT, lT, iT, fT⟩ := hT.two
    cases c
    all_goals (
      simp only [hostS_t, hostS_f] at iS fS iT fT
      clear hT hn
      k_dflt (refine' code_def (by k_asm) (by k_asm) (by k_asm) (by k_asm) (by k_asm) (by exact rfl) (by exact rfl) (by first | exact rfl | assumption) (by k_is) (by k_is) (by (first | exact rm2 (by assumption) rfl | exact rm1 (by assumption) rfl | exact rm0 (by assumption) | ktr_room)) (by exact BindsTo.of_eq rfl) (by exact locs rfl) ?_ (by exact rfl) (by exact rfl) (by exact rfl) (by decide); k_whole; intro g' L' h' FG' F' N' B' X' T'; (try dsimp only); (try k_fold))
      k_steps)
    all_goals (first
      | (exfalso; rename ((Spec.lookup _ _).isSome = false) => hz; have hz' : (true = false) := by with_unfolding_all exact hz
         exact Bool.noConfusion hz')
      | (exfalso; rename ((Spec.lookup _ _).isSome = true) => hz; have hz' : (false = true) := by with_unfolding_all exact hz
         exact Bool.noConfusion hz')
      | skip)
    all_goals (
      rename News h₀ L _ _ => kN
      rename (ta < _ ∧ sa < _ ∧ AllLt _ rest) => lD
      refine hret _ _ _ [(_, _)] (by k_asm) kN (one_new (of_allLt lD)) ⟨_, _, rfl, rfl, _, ⟨by assumption, by assumption, by with_unfolding_all assumption⟩, ?_⟩
      with_unfolding_all exact .cons ⟨rfl, _, rfl⟩ (.cons ⟨rfl, _, rfl⟩ .nil))
theorem wds_Callers_2 : True := by
  k_with_none
  trivial
end
end Mine
end
section
open PySem PySem.W PyProof.Rows PySem.Calls PyProof.Rows.LCg
set_option Elab.async false
set_option maxRecDepth 100000
namespace Mine
/-- a book's entry: four numbers and the callers -/
def stat (a b c d : Int) (t u v z : Tok) (n : Nat) (x : Addr) : Obj := { cls := .type "tuple", data := .seq #[.int a t, .int b u, .int c v, .int d z, .ref x] n }
theorem two_off {news : List (Addr × Obj)} {a b : Addr} {o p : Obj} (h : AllLt a ((b, p) :: news)) (k : Off1 b news) : ∀ q ∈ news, ∀ x ∈ [(a, o), (b, p)], q.1 ≠ x.1 := fun q hq x hx => by
  rcases List.mem_cons.mp hx with rfl | hx
  · exact Nat.ne_of_lt (of_allLt h q (.tail _ hq))
  · rw [List.mem_singleton.mp hx]; exact of_off k q hq
section

theorem wds_Stats_1 : True := by
  k_with_none
  k_with "execs cons" => (k_here; (refine gen_toks (by ((fail_if_success assumption); (fail_if_success exact PT.pos _); (first | exact Nat.succ_pos _ | (dsimp only; first | exact Nat.succ_pos _ | omega)))) ?_); (try dsimp only); (intro tkzz))
  k_with "execs nil" => (k_here; (refine gen_toks (by ((fail_if_success assumption); (fail_if_success exact PT.pos _); (first | exact Nat.succ_pos _ | (dsimp only; first | exact Nat.succ_pos _ | omega)))) ?_); (try dsimp only); (intro tkzz))
  k_with "call ref" => (k_here; (with_reducible show wpAny _ _ (call (Value.ref 107) _ _) _ _ _); k_dflt (refine Cl.use (t_callers _ _ _ _ _ ?cP ?cE _ ?cp ?cq ?cr) (by k_asm) (by k_asm) (by k_asm) (by k_asm) (by k_asm) (by first | exact rfl | assumption) (by (first | exact rm2 (by assumption) rfl | exact rm1 (by assumption) rfl | exact rm0 (by assumption) | ktr_room)) (by (first | exact rm2 (by assumption) rfl | exact rm1 (by assumption) rfl | exact rm0 (by assumption) | ktr_units)) (by (first | assumption | exact PT.pos _ | exact Nat.succ_pos _ | (dsimp only; first | assumption | exact PT.pos _ | exact Nat.succ_pos _ | omega))) ?_); (case cq => assumption); (case cr => assumption); (case cp => assumption); (intro v9zz h9zz tk9zz new9zz q9zz F9zz N9zz l9zz p9zz); (obtain ⟨d9zz, o9zz, ea9zz, eb9zz, b9zz⟩ := p9zz); subst ea9zz; subst eb9zz; (try simp only [List.nil_append, List.cons_append] at N9zz); (replace l9zz := new_off l9zz); (try (simp only [PyProof.Rows.LCg.Off1, and_true] at l9zz)); (try k_sweep); (try dsimp only); (try k_fold); walk_say "CONTRACT 107")
  trivial

set_option maxHeartbeats 2000000 in
theorem t_stats (w : World) (T S' ta sa : Addr) (oT oS : Obj) (P : List (Bool × Int)) (e : Bool × Int) (a₀ a₁ a₂ a₃ b₀ b₁ b₂ b₃ : Int) (t₀ t₁ t₂ t₃ u₀ u₁ u₂ u₃ : Tok) (n n' : Nat) (rest : List (Addr × Obj)) (hn : (P.map Prod.fst).Nodup) (hT : BkR w ta oT P) (hS : BkR w sa oS [e]) :
    ClZ w 6 100 [.ref T, .ref S'] ((ta, oT) :: (sa, oS) :: (T, stat a₀ a₁ a₂ a₃ t₀ t₁ t₂ t₃ n ta) :: (S', stat b₀ b₁ b₂ b₃ u₀ u₁ u₂ u₃ n' sa) :: rest)
      (fun v new => (∃ r x o t u v' z k, v = .ref r ∧ new = [(r, stat (b₀ + a₀) (b₁ + a₁) (b₂ + a₂) (b₃ + a₃) t u v' z k x), (x, o)] ∧ BkR w x o (addP P e))) := by
  unfold stat
  refine ClZ.mk ?_
  k_fill
  intro loose mean mg mb dp un gd cn cs a ccd cl outer A₀ base h₀ L m s Q E B F X N Tg hk hd hu hret
  k_dflt (refine' code_def (by k_asm) (by k_asm) (by k_asm) (by k_asm) (by k_asm) (by exact rfl) (by exact rfl) (by first | exact rfl | assumption) (by k_is) (by k_is) (by (first | exact rm2 (by assumption) rfl | exact rm1 (by assumption) rfl | exact rm0 (by assumption) | ktr_room)) (by exact BindsTo.of_eq rfl) (by exact locs rfl) ?_ (by exact rfl) (by exact rfl) (by exact rfl) (by decide); k_whole; intro g' L' h' FG' F' N' B' X' T'; (try dsimp only); (try k_fold))
  k_steps
  rename News h₀ L _ _ => kN
  rename (_ < _ ∧ ta < _ ∧ sa < _ ∧ T < _ ∧ S' < _ ∧ AllLt _ rest) => lD
  rename (ta ≠ _ ∧ sa ≠ _ ∧ T ≠ _ ∧ S' ≠ _ ∧ Off1 _ rest) => lO
  exact hret _ _ _ [(_, _), (_, _)] (by k_asm) kN (two_off lD lO) ⟨_, _, _, _, _, _, _, _, rfl, rfl, by assumption⟩
theorem wds_Stats_2 : True := by
  k_with_none
  trivial
end
def sumP (P : List (Bool × Int)) : Int := (P.map Prod.snd).sum
section


theorem wds_Stats_3 : True := by
  k_with_none
  k_with "execs cons" => (k_here; (refine gen_toks (by ((fail_if_success assumption); (fail_if_success exact PT.pos _); (first | exact Nat.succ_pos _ | (dsimp only; first | exact Nat.succ_pos _ | omega)))) ?_); (try dsimp only); (intro tkzz))
  k_with "execs nil" => (k_here; (refine gen_toks (by ((fail_if_success assumption); (fail_if_success exact PT.pos _); (first | exact Nat.succ_pos _ | (dsimp only; first | exact Nat.succ_pos _ | omega)))) ?_); (try dsimp only); (intro tkzz))
  k_with "UnrEndW" => ((rename News _ _ _ _ => kNzz); (refine end_go (by k_asm) kNzz (by with_unfolding_all assumption) ?_); (refine ⟨⟨by (repeat (first | exact List.Mem.head _ | apply List.Mem.tail)), trivial⟩, ?_⟩))
  k_with "exec For Name Call cons nil" => (k_here; (rename Fr _ _ _ _ => lFqzz); (rename News _ _ _ _ => lNqzz); with_unfolding_all ((refine' For_turns lFqzz ?_); k_whole; (refine MethodCall_ ?_); (refine ld lFqzz (by rfl) ?_); (refine kdl_method (knd := PySem.strKind _ _) PySem.F.slot_dict_values PySem.F.type_dict_values lNqzz (by k_mem) (by k_asm) ?_); (refine callWith_method0 ?_); (refine kta_callValues (knd := PySem.strKind _ _) lFqzz lNqzz (by k_mem) (by k_asm) (by k_asm) ?_); intro hqzz hvqzz Fqzz Nqzz; (refine kta_vals (knd := PySem.strKind _ _) (xs := []) (by rfl) Fqzz Nqzz hvqzz (by k_mem) (by k_asm) (by rfl) ?_)); clear lFqzz lNqzz; intro iqzz l1zz; (try k_lt l1zz))
  k_with "exec For Name Call cons nil" => (k_here; (rename Fr _ _ _ _ => lFqzz); (rename News _ _ _ _ => lNqzz); with_unfolding_all ((refine' For_turns lFqzz ?_); k_whole; (refine MethodCall_ ?_); (refine ld lFqzz (by rfl) ?_); (refine kdl_method (knd := PySem.strKind _ _) PySem.F.slot_dict_values PySem.F.type_dict_values lNqzz (by k_mem) (by k_asm) ?_); (refine callWith_method0 ?_); (refine kta_callValues (knd := PySem.strKind _ _) lFqzz lNqzz (by k_mem) (by k_asm) (by k_asm) ?_); intro hqzz hvqzz Fqzz Nqzz; (refine kta_vals (knd := PySem.strKind _ _) (xs := [Itm.val (Value.int _ _)]) (by rfl) Fqzz Nqzz hvqzz (by k_mem) (by k_asm) (by rfl) ?_)); clear lFqzz lNqzz; intro iqzz l1zz; (try k_lt l1zz))
  k_with "exec For Name Call cons nil" => (k_here; (rename Fr _ _ _ _ => lFqzz); (rename News _ _ _ _ => lNqzz); with_unfolding_all ((refine' For_turns lFqzz ?_); k_whole; (refine MethodCall_ ?_); (refine ld lFqzz (by rfl) ?_); (refine kdl_method (knd := PySem.strKind _ _) PySem.F.slot_dict_values PySem.F.type_dict_values lNqzz (by k_mem) (by k_asm) ?_); (refine callWith_method0 ?_); (refine kta_callValues (knd := PySem.strKind _ _) lFqzz lNqzz (by k_mem) (by k_asm) (by k_asm) ?_); intro hqzz hvqzz Fqzz Nqzz; (refine kta_vals (knd := PySem.strKind _ _) (xs := [Itm.val (Value.int _ _), Itm.val (Value.int _ _)]) (by rfl) Fqzz Nqzz hvqzz (by k_mem) (by k_asm) (by rfl) ?_)); clear lFqzz lNqzz; intro iqzz l1zz; (try k_lt l1zz))
  trivial

set_option maxHeartbeats 4000000 in
theorem t_count (w : World) (ta : Addr) (oT : Obj) (P : List (Bool × Int)) (rest : List (Addr × Obj)) (hn : (P.map Prod.fst).Nodup) (hT : BkR w ta oT P) :
    ClZ w 3 114 [.ref ta] ((ta, oT) :: rest) (fun v new => (∃ t, v = .int (sumP P) t) ∧ new = []) := by
  refine ClZ.mk ?_
  k_fill
  intro loose mean mg mb dp un gd cn cs a ccd cl outer A₀ base h₀ L m s Q E B F X N Tg hk hd hu hret
  rcases shapes hn with rfl | ⟨q, rfl⟩ | ⟨q, rfl⟩ | ⟨q, r, rfl⟩ | ⟨q, r, rfl⟩
  · obtain ⟨lT, iT, fT⟩ := hT.nil
    clear hT hn
    k_dflt (refine' code_def (by k_asm) (by k_asm) (by k_asm) (by k_asm) (by k_asm) (by exact rfl) (by exact rfl) (by first | exact rfl | assumption) (by k_is) (by k_is) (by (first | exact rm2 (by assumption) rfl | exact rm1 (by assumption) rfl | exact rm0 (by assumption) | ktr_room)) (by exact BindsTo.of_eq rfl) (by exact locs rfl) ?_ (by exact rfl) (by exact rfl) (by exact rfl) (by decide); k_whole; intro g' L' h' FG' F' N' B' X' T'; (try dsimp only); (try k_fold))
    k_steps
    exact hret _ _ _ [] (by k_asm) (by k_asm) no_new ⟨⟨_, rfl⟩, rfl⟩
  · obtain ⟨tT, lT, iT, fT⟩ := hT.one
    simp only [hostS_t, hostS_f] at iT fT
    clear hT hn
    k_dflt (refine' code_def (by k_asm) (by k_asm) (by k_asm) (by k_asm) (by k_asm) (by exact rfl) (by exact rfl) (by first | exact rfl | assumption) (by k_is) (by k_is) (by (first | exact rm2 (by assumption) rfl | exact rm1 (by assumption) rfl | exact rm0 (by assumption) | ktr_room)) (by exact BindsTo.of_eq rfl) (by exact locs rfl) ?_ (by exact rfl) (by exact rfl) (by exact rfl) (by decide); k_whole; intro g' L' h' FG' F' N' B' X' T'; (try dsimp only); (try k_fold))
    k_steps
    refine hret _ _ _ [] (by k_asm) (by k_asm) no_new ⟨?_, rfl⟩
    simp only [sumP, List.map, List.sum_cons, List.sum_nil, Int.add_zero, Int.zero_add]; exact ⟨_, rfl⟩
  · obtain ⟨tT, lT, iT, fT⟩ := hT.one
    simp only [hostS_t, hostS_f] at iT fT
    clear hT hn
    k_dflt (refine' code_def (by k_asm) (by k_asm) (by k_asm) (by k_asm) (by k_asm) (by exact rfl) (by exact rfl) (by first | exact rfl | assumption) (by k_is) (by k_is) (by (first | exact rm2 (by assumption) rfl | exact rm1 (by assumption) rfl | exact rm0 (by assumption) | ktr_room)) (by exact BindsTo.of_eq rfl) (by exact locs rfl) ?_ (by exact rfl) (by exact rfl) (by exact rfl) (by decide); k_whole; intro g' L' h' FG' F' N' B' X' T'; (try dsimp only); (try k_fold))
    k_steps
    refine hret _ _ _ [] (by k_asm) (by k_asm) no_new ⟨?_, rfl⟩
    simp only [sumP, List.map, List.sum_cons, List.sum_nil, Int.add_zero, Int.zero_add]; exact ⟨_, rfl⟩
  · obtain ⟨tT, uT, lT, iT, fT⟩ := hT.two
    simp only [hostS_t, hostS_f] at iT fT
    clear hT hn
    k_dflt (refine' code_def (by k_asm) (by k_asm) (by k_asm) (by k_asm) (by k_asm) (by exact rfl) (by exact rfl) (by first | exact rfl | assumption) (by k_is) (by k_is) (by (first | exact rm2 (by assumption) rfl | exact rm1 (by assumption) rfl | exact rm0 (by assumption) | ktr_room)) (by exact BindsTo.of_eq rfl) (by exact locs rfl) ?_ (by exact rfl) (by exact rfl) (by exact rfl) (by decide); k_whole; intro g' L' h' FG' F' N' B' X' T'; (try dsimp only); (try k_fold))
    k_steps
    refine hret _ _ _ [] (by k_asm) (by k_asm) no_new ⟨?_, rfl⟩
    simp only [sumP, List.map, List.sum_cons, List.sum_nil, Int.add_zero, Int.zero_add]; exact ⟨_, rfl⟩
  · obtain ⟨tT, uT, lT, iT, fT⟩ := hT.two
    simp only [hostS_t, hostS_f] at iT fT
    clear hT hn
    k_dflt (refine' code_def (by k_asm) (by k_asm) (by k_asm) (by k_asm) (by k_asm) (by exact rfl) (by exact rfl) (by first | exact rfl | assumption) (by k_is) (by k_is) (by (first | exact rm2 (by assumption) rfl | exact rm1 (by assumption) rfl | exact rm0 (by assumption) | ktr_room)) (by exact BindsTo.of_eq rfl) (by exact locs rfl) ?_ (by exact rfl) (by exact rfl) (by exact rfl) (by decide); k_whole; intro g' L' h' FG' F' N' B' X' T'; (try dsimp only); (try k_fold))
    k_steps
    refine hret _ _ _ [] (by k_asm) (by k_asm) no_new ⟨?_, rfl⟩
    simp only [sumP, List.map, List.sum_cons, List.sum_nil, Int.add_zero, Int.zero_add]; exact ⟨_, rfl⟩
theorem wds_Stats_4 : True := by
  k_with_none
  trivial
end
end Mine
end
section
open PySem PySem.W PyProof.Rows PySem.Calls
set_option Elab.async false
set_option maxRecDepth 100000
namespace Mine
def fig (p : Nat) : Str := Str.ofString (toString (p : Int))
/-- what parse229 asks of a whole reply, in one word -/
def okR (r : Str) (p : Int) : Bool :=
  decide (1 ≤ r.length ∧ r.length ≤ 50) && !(Txt.slice r none (some 3) != Str.ofString "229") &&
  decide (0 ≤ Txt.find r (Str.ofString "(") ∧ Txt.find r (Str.ofString "(") + 1 < r.length) &&
  decide (1 ≤ Txt.find3 r (Str.ofString ")") (Txt.find r (Str.ofString "(") + 1) ∧ Txt.find3 r (Str.ofString ")") (Txt.find r (Str.ofString "(") + 1) - 1 < r.length) &&
  !(Txt.item r (Txt.find r (Str.ofString "(") + 1) != Txt.item r (Txt.find3 r (Str.ofString ")") (Txt.find r (Str.ofString "(") + 1) - 1)) &&
  (let ps := Txt.split (Txt.slice r (some (Txt.find r (Str.ofString "(") + 1)) (some (Txt.find3 r (Str.ofString ")") (Txt.find r (Str.ofString "(") + 1)))) (Txt.item r (Txt.find r (Str.ofString "(") + 1))
   ps.length == 5 && (match ps[3]? with | some y => PySem.intText? y == some p && decide (y.length ≤ 640) | none => true))
theorem x1 : okR (reply 0 (fig 123)) 123 = true := by decide +kernel
theorem x2 : okR (reply 1 (fig 123)) 123 = true := by decide +kernel
theorem x3 : okR (reply 2 (fig 123)) 123 = true := by decide +kernel
set_option profiler true in
theorem x4 : ∀ p < 20, okR (reply 2 (fig p)) p = true := by decide +kernel
end Mine
end
section
open PySem PySem.W PyProof.Rows PySem.Calls PySem.StrLaws PySem.Builtin.Str
set_option Elab.async false
set_option maxRecDepth 100000
namespace Mine
theorem occ_same {s s' y : Str} (h : ∀ i, subAt s y i = subAt s' y i) (lo hi lim : Nat) : occurrences s y lo hi lim = occurrences s' y lo hi lim := by
  rw [occ_eq, occ_eq]
  have : occBody s y hi lim = occBody s' y hi lim := by
    funext i st
    unfold occBody
    rw [h i]
  rw [this]
theorem ext_one {α : Type} [BEq α] [LawfulBEq α] (a : Array α) (c : α) (i : Nat) : (a.extract i (i + 1) == #[c]) = (a[i]? == some c) := by
  rcases Nat.lt_or_ge i a.size with h | h
  · rw [Array.getElem?_eq_getElem h]
    have : a.extract i (i + 1) = #[a[i]] := by
      apply Array.ext
      · simp; omega
      · intro j h1 h2
        simp at h1 h2 ⊢
        subst h2
        simp
    rw [this]
    simp
  · rw [Array.getElem?_eq_none h]
    have : a.extract i (i + 1) = #[] := by
      apply Array.ext
      · simp; omega
      · intro j h1 h2; simp at h2
    rw [this]
    simp
theorem sub_one (s : Str) (c i : Nat) : subAt s ⟨#[c]⟩ i = (s.cps[i]? == some c) := by
  unfold subAt
  exact ext_one _ _ _
theorem occ_list {A A' : Array Nat} {c : Nat} (h : A.toList.map (· == c) = A'.toList.map (· == c)) (lo hi lim : Nat) : occurrences ⟨A⟩ ⟨#[c]⟩ lo hi lim = occurrences ⟨A'⟩ ⟨#[c]⟩ lo hi lim := by
  refine occ_same (fun i => ?_) _ _ _
  rw [sub_one, sub_one]
  have e : ∀ B : Array Nat, (B[i]? == some c) = ((B.toList.map (· == c))[i]? == some true) := fun B => by
    rw [List.getElem?_map, ← Array.getElem?_toList]
    cases B.toList[i]? with
    | none => rfl
    | some x => simp
  show (A[i]? == some c) = (A'[i]? == some c)
  rw [e, e, h]
/-- a digit -/
def Dig (a : Nat) : Prop := 48 ≤ a ∧ a ≤ 57
theorem dig_ne {a c : Nat} (h : Dig a) (hc : c < 48 ∨ 57 < c) : (a == c) = (48 == c) := by
  unfold Dig at h
  have h1 : (a == c) = false := by simp; omega
  have h2 : ((48 : Nat) == c) = false := by simp; omega
  rw [h1, h2]
theorem find_list (A A' : Array Nat) {c : Nat} (h : A.toList.map (· == c) = A'.toList.map (· == c)) (hs : A.size = A'.size) : Txt.find ⟨A⟩ ⟨#[c]⟩ = Txt.find ⟨A'⟩ ⟨#[c]⟩ := by
  unfold Txt.find
  rw [occ_list h, show (Str.mk A).length = (Str.mk A').length from hs]
theorem find3_list (A A' : Array Nat) {c : Nat} (i : Int) (h : A.toList.map (· == c) = A'.toList.map (· == c)) (hs : A.size = A'.size) : Txt.find3 ⟨A⟩ ⟨#[c]⟩ i = Txt.find3 ⟨A'⟩ ⟨#[c]⟩ i := by
  unfold Txt.find3
  rw [occ_list h, show (Str.mk A).length = (Str.mk A').length from hs]
theorem split_list (A A' : Array Nat) {c : Nat} (hc : c < 256) (h : A.toList.map (· == c) = A'.toList.map (· == c)) (hs : A.size = A'.size) (h1 : 1 ≤ A.size) (h2 : (occurrences ⟨A'⟩ ⟨#[c]⟩ 0 A'.size (A'.size + 1)).isEmpty = false) :
    Txt.split ⟨A⟩ ⟨#[c]⟩ = partsBetween ⟨A⟩ (occurrences ⟨A'⟩ ⟨#[c]⟩ 0 A'.size (A'.size + 1)) 1 := by
  unfold Txt.split
  have e : Builtin.Str.strKind (⟨#[c]⟩ : Str) = 1 := by unfold Builtin.Str.strKind; simp [hc]
  have k : ¬ (Builtin.Str.strKind ⟨A⟩ < 1) := by
    unfold Builtin.Str.strKind
    split
    · decide
    · split <;> decide
  have l1 : (Str.mk A).length = A'.size := hs
  have l2 : (Str.mk #[c]).length = 1 := rfl
  rw [occ_list h, l1, l2, e, if_neg, if_neg]
  · rw [h2]; decide
  · simp only [Bool.or_eq_true, decide_eq_true_eq]
    omega
theorem t2 (a b c : Nat) (ha : Dig a) (hb : Dig b) (hc : Dig c) : Txt.find ⟨#[50,50,57,32,40,64,64,104,101,114,101,64,32,43,a,b,c,32,64,41]⟩ ⟨#[40]⟩ = 4 := by
  refine (find_list #[50,50,57,32,40,64,64,104,101,114,101,64,32,43,a,b,c,32,64,41] #[50,50,57,32,40,64,64,104,101,114,101,64,32,43,48,48,48,32,64,41] ?_ rfl).trans ?_
  · simp only [List.map, dig_ne ha (c := 40) (by decide), dig_ne hb (c := 40) (by decide), dig_ne hc (c := 40) (by decide)]
  · decide +kernel
theorem t3 (a b c : Nat) : Txt.slice ⟨#[50,50,57,32,40,64,64,104,101,114,101,64,32,43,a,b,c,32,64,41]⟩ (some (4 + 1)) (some 19) = ⟨#[64,64,104,101,114,101,64,32,43,a,b,c,32,64]⟩ := by
  rfl
theorem t4 (a b c : Nat) : Txt.item ⟨#[50,50,57,32,40,64,64,104,101,114,101,64,32,43,a,b,c,32,64,41]⟩ (19 - 1) = ⟨#[64]⟩ := by
  rfl
theorem t5 (a b c : Nat) : reply 2 ⟨#[a, b, c]⟩ = ⟨#[50,50,57,32,40,64,64,104,101,114,101,64,32,43,a,b,c,32,64,41]⟩ := by
  rfl
end Mine
end
section
open PySem PySem.W PyProof.Rows PySem.Calls PySem.StrLaws PySem.Builtin.Str
set_option Elab.async false
set_option maxRecDepth 100000
namespace Mine
/-- what parse229 finds in a whole reply: the fourth part -/
def R6 (r y : Str) : Prop := ∃ (n : Nat) (K M : Int) (m : Str) (ps : List Str), r.length = n ∧ (1 ≤ n ∧ n ≤ 50) ∧ Txt.slice r none (some 3) = ⟨#[50, 50, 57]⟩ ∧ Txt.find r ⟨#[40]⟩ = K ∧ (0 ≤ K ∧ K + 1 < n) ∧ Txt.find3 r ⟨#[41]⟩ (K + 1) = M ∧ (1 ≤ M ∧ M - 1 < n) ∧
  Txt.item r (K + 1) = m ∧ Txt.item r (M - 1) = m ∧ Txt.split (Txt.slice r (some (K + 1)) (some M)) m = ps ∧ ps.length = 5 ∧ ps[3]? = some y
theorem told_0_1 (a : Nat) (ha : Dig a) : R6 (reply 0 ⟨#[a]⟩) (⟨#[a]⟩) := by
  have hf : Txt.find ⟨#[50,50,57,32,104,101,114,101,32,40,124,124,124,a,124,41]⟩ ⟨#[40]⟩ = 9 := by
    refine (find_list #[50,50,57,32,104,101,114,101,32,40,124,124,124,a,124,41] #[50,50,57,32,104,101,114,101,32,40,124,124,124,48,124,41] ?_ rfl).trans (by decide +kernel)
    simp only [List.map, dig_ne ha (c := 40) (by decide)]
  have hg : Txt.find3 ⟨#[50,50,57,32,104,101,114,101,32,40,124,124,124,a,124,41]⟩ ⟨#[41]⟩ (9 + 1) = 15 := by
    refine (find3_list #[50,50,57,32,104,101,114,101,32,40,124,124,124,a,124,41] #[50,50,57,32,104,101,114,101,32,40,124,124,124,48,124,41] _ ?_ rfl).trans (by decide +kernel)
    simp only [List.map, dig_ne ha (c := 41) (by decide)]
  have hp : Txt.split ⟨#[124,124,124,a,124]⟩ ⟨#[124]⟩ = [⟨#[]⟩, ⟨#[]⟩, ⟨#[]⟩, ⟨#[a]⟩, ⟨#[]⟩] := by
    refine (split_list #[124,124,124,a,124] #[124,124,124,48,124] (by decide) ?_ rfl (by simp) (by decide +kernel)).trans ?_
    · simp only [List.map, dig_ne ha (c := 124) (by decide)]
    · rw [show occurrences ⟨#[124,124,124,48,124]⟩ ⟨#[124]⟩ 0 (Array.size #[124,124,124,48,124]) (Array.size #[124,124,124,48,124] + 1) = [0, 1, 2, 4] by decide +kernel]; rfl
  have hs : Txt.slice ⟨#[50,50,57,32,104,101,114,101,32,40,124,124,124,a,124,41]⟩ (some (9 + 1)) (some 15) = ⟨#[124,124,124,a,124]⟩ := by kernel_rfl
  have hr : reply 0 ⟨#[a]⟩ = ⟨#[50,50,57,32,104,101,114,101,32,40,124,124,124,a,124,41]⟩ := by kernel_rfl
  rw [hr]
  exact ⟨16, 9, 15, ⟨#[124]⟩, [⟨#[]⟩, ⟨#[]⟩, ⟨#[]⟩, ⟨#[a]⟩, ⟨#[]⟩], by rfl, by decide, by rfl, hf, by decide, hg, by decide, by rfl, by rfl, by rw [hs]; exact hp, by rfl, by rfl⟩

theorem told_0_2 (a : Nat) (b : Nat) (ha : Dig a) (hb : Dig b) : R6 (reply 0 ⟨#[a,b]⟩) (⟨#[a,b]⟩) := by
  have hf : Txt.find ⟨#[50,50,57,32,104,101,114,101,32,40,124,124,124,a,b,124,41]⟩ ⟨#[40]⟩ = 9 := by
    refine (find_list #[50,50,57,32,104,101,114,101,32,40,124,124,124,a,b,124,41] #[50,50,57,32,104,101,114,101,32,40,124,124,124,48,48,124,41] ?_ rfl).trans (by decide +kernel)
    simp only [List.map, dig_ne ha (c := 40) (by decide), dig_ne hb (c := 40) (by decide)]
  have hg : Txt.find3 ⟨#[50,50,57,32,104,101,114,101,32,40,124,124,124,a,b,124,41]⟩ ⟨#[41]⟩ (9 + 1) = 16 := by
    refine (find3_list #[50,50,57,32,104,101,114,101,32,40,124,124,124,a,b,124,41] #[50,50,57,32,104,101,114,101,32,40,124,124,124,48,48,124,41] _ ?_ rfl).trans (by decide +kernel)
    simp only [List.map, dig_ne ha (c := 41) (by decide), dig_ne hb (c := 41) (by decide)]
  have hp : Txt.split ⟨#[124,124,124,a,b,124]⟩ ⟨#[124]⟩ = [⟨#[]⟩, ⟨#[]⟩, ⟨#[]⟩, ⟨#[a,b]⟩, ⟨#[]⟩] := by
    refine (split_list #[124,124,124,a,b,124] #[124,124,124,48,48,124] (by decide) ?_ rfl (by simp) (by decide +kernel)).trans ?_
    · simp only [List.map, dig_ne ha (c := 124) (by decide), dig_ne hb (c := 124) (by decide)]
    · rw [show occurrences ⟨#[124,124,124,48,48,124]⟩ ⟨#[124]⟩ 0 (Array.size #[124,124,124,48,48,124]) (Array.size #[124,124,124,48,48,124] + 1) = [0, 1, 2, 5] by decide +kernel]; rfl
  have hs : Txt.slice ⟨#[50,50,57,32,104,101,114,101,32,40,124,124,124,a,b,124,41]⟩ (some (9 + 1)) (some 16) = ⟨#[124,124,124,a,b,124]⟩ := by kernel_rfl
  have hr : reply 0 ⟨#[a,b]⟩ = ⟨#[50,50,57,32,104,101,114,101,32,40,124,124,124,a,b,124,41]⟩ := by kernel_rfl
  rw [hr]
  exact ⟨17, 9, 16, ⟨#[124]⟩, [⟨#[]⟩, ⟨#[]⟩, ⟨#[]⟩, ⟨#[a,b]⟩, ⟨#[]⟩], by rfl, by decide, by rfl, hf, by decide, hg, by decide, by rfl, by rfl, by rw [hs]; exact hp, by rfl, by rfl⟩

theorem told_0_3 (a : Nat) (b : Nat) (c : Nat) (ha : Dig a) (hb : Dig b) (hc : Dig c) : R6 (reply 0 ⟨#[a,b,c]⟩) (⟨#[a,b,c]⟩) := by
  have hf : Txt.find ⟨#[50,50,57,32,104,101,114,101,32,40,124,124,124,a,b,c,124,41]⟩ ⟨#[40]⟩ = 9 := by
    refine (find_list #[50,50,57,32,104,101,114,101,32,40,124,124,124,a,b,c,124,41] #[50,50,57,32,104,101,114,101,32,40,124,124,124,48,48,48,124,41] ?_ rfl).trans (by decide +kernel)
    simp only [List.map, dig_ne ha (c := 40) (by decide), dig_ne hb (c := 40) (by decide), dig_ne hc (c := 40) (by decide)]
  have hg : Txt.find3 ⟨#[50,50,57,32,104,101,114,101,32,40,124,124,124,a,b,c,124,41]⟩ ⟨#[41]⟩ (9 + 1) = 17 := by
    refine (find3_list #[50,50,57,32,104,101,114,101,32,40,124,124,124,a,b,c,124,41] #[50,50,57,32,104,101,114,101,32,40,124,124,124,48,48,48,124,41] _ ?_ rfl).trans (by decide +kernel)
    simp only [List.map, dig_ne ha (c := 41) (by decide), dig_ne hb (c := 41) (by decide), dig_ne hc (c := 41) (by decide)]
  have hp : Txt.split ⟨#[124,124,124,a,b,c,124]⟩ ⟨#[124]⟩ = [⟨#[]⟩, ⟨#[]⟩, ⟨#[]⟩, ⟨#[a,b,c]⟩, ⟨#[]⟩] := by
    refine (split_list #[124,124,124,a,b,c,124] #[124,124,124,48,48,48,124] (by decide) ?_ rfl (by simp) (by decide +kernel)).trans ?_
    · simp only [List.map, dig_ne ha (c := 124) (by decide), dig_ne hb (c := 124) (by decide), dig_ne hc (c := 124) (by decide)]
    · rw [show occurrences ⟨#[124,124,124,48,48,48,124]⟩ ⟨#[124]⟩ 0 (Array.size #[124,124,124,48,48,48,124]) (Array.size #[124,124,124,48,48,48,124] + 1) = [0, 1, 2, 6] by decide +kernel]; rfl
  have hs : Txt.slice ⟨#[50,50,57,32,104,101,114,101,32,40,124,124,124,a,b,c,124,41]⟩ (some (9 + 1)) (some 17) = ⟨#[124,124,124,a,b,c,124]⟩ := by kernel_rfl
  have hr : reply 0 ⟨#[a,b,c]⟩ = ⟨#[50,50,57,32,104,101,114,101,32,40,124,124,124,a,b,c,124,41]⟩ := by kernel_rfl
  rw [hr]
  exact ⟨18, 9, 17, ⟨#[124]⟩, [⟨#[]⟩, ⟨#[]⟩, ⟨#[]⟩, ⟨#[a,b,c]⟩, ⟨#[]⟩], by rfl, by decide, by rfl, hf, by decide, hg, by decide, by rfl, by rfl, by rw [hs]; exact hp, by rfl, by rfl⟩

theorem told_1_1 (a : Nat) (ha : Dig a) : R6 (reply 1 ⟨#[a]⟩) (⟨#[48,48,a]⟩) := by
  have hf : Txt.find ⟨#[50,50,57,32,40,33,33,33,48,48,a,33,41,32,110,111,116,32,40,124,124,124,55,124,41]⟩ ⟨#[40]⟩ = 4 := by
    refine (find_list #[50,50,57,32,40,33,33,33,48,48,a,33,41,32,110,111,116,32,40,124,124,124,55,124,41] #[50,50,57,32,40,33,33,33,48,48,48,33,41,32,110,111,116,32,40,124,124,124,55,124,41] ?_ rfl).trans (by decide +kernel)
    simp only [List.map, dig_ne ha (c := 40) (by decide)]
  have hg : Txt.find3 ⟨#[50,50,57,32,40,33,33,33,48,48,a,33,41,32,110,111,116,32,40,124,124,124,55,124,41]⟩ ⟨#[41]⟩ (4 + 1) = 12 := by
    refine (find3_list #[50,50,57,32,40,33,33,33,48,48,a,33,41,32,110,111,116,32,40,124,124,124,55,124,41] #[50,50,57,32,40,33,33,33,48,48,48,33,41,32,110,111,116,32,40,124,124,124,55,124,41] _ ?_ rfl).trans (by decide +kernel)
    simp only [List.map, dig_ne ha (c := 41) (by decide)]
  have hp : Txt.split ⟨#[33,33,33,48,48,a,33]⟩ ⟨#[33]⟩ = [⟨#[]⟩, ⟨#[]⟩, ⟨#[]⟩, ⟨#[48,48,a]⟩, ⟨#[]⟩] := by
    refine (split_list #[33,33,33,48,48,a,33] #[33,33,33,48,48,48,33] (by decide) ?_ rfl (by simp) (by decide +kernel)).trans ?_
    · simp only [List.map, dig_ne ha (c := 33) (by decide)]
    · rw [show occurrences ⟨#[33,33,33,48,48,48,33]⟩ ⟨#[33]⟩ 0 (Array.size #[33,33,33,48,48,48,33]) (Array.size #[33,33,33,48,48,48,33] + 1) = [0, 1, 2, 6] by decide +kernel]; rfl
  have hs : Txt.slice ⟨#[50,50,57,32,40,33,33,33,48,48,a,33,41,32,110,111,116,32,40,124,124,124,55,124,41]⟩ (some (4 + 1)) (some 12) = ⟨#[33,33,33,48,48,a,33]⟩ := by kernel_rfl
  have hr : reply 1 ⟨#[a]⟩ = ⟨#[50,50,57,32,40,33,33,33,48,48,a,33,41,32,110,111,116,32,40,124,124,124,55,124,41]⟩ := by kernel_rfl
  rw [hr]
  exact ⟨25, 4, 12, ⟨#[33]⟩, [⟨#[]⟩, ⟨#[]⟩, ⟨#[]⟩, ⟨#[48,48,a]⟩, ⟨#[]⟩], by rfl, by decide, by rfl, hf, by decide, hg, by decide, by rfl, by rfl, by rw [hs]; exact hp, by rfl, by rfl⟩

theorem told_1_2 (a : Nat) (b : Nat) (ha : Dig a) (hb : Dig b) : R6 (reply 1 ⟨#[a,b]⟩) (⟨#[48,48,a,b]⟩) := by
  have hf : Txt.find ⟨#[50,50,57,32,40,33,33,33,48,48,a,b,33,41,32,110,111,116,32,40,124,124,124,55,124,41]⟩ ⟨#[40]⟩ = 4 := by
    refine (find_list #[50,50,57,32,40,33,33,33,48,48,a,b,33,41,32,110,111,116,32,40,124,124,124,55,124,41] #[50,50,57,32,40,33,33,33,48,48,48,48,33,41,32,110,111,116,32,40,124,124,124,55,124,41] ?_ rfl).trans (by decide +kernel)
    simp only [List.map, dig_ne ha (c := 40) (by decide), dig_ne hb (c := 40) (by decide)]
  have hg : Txt.find3 ⟨#[50,50,57,32,40,33,33,33,48,48,a,b,33,41,32,110,111,116,32,40,124,124,124,55,124,41]⟩ ⟨#[41]⟩ (4 + 1) = 13 := by
    refine (find3_list #[50,50,57,32,40,33,33,33,48,48,a,b,33,41,32,110,111,116,32,40,124,124,124,55,124,41] #[50,50,57,32,40,33,33,33,48,48,48,48,33,41,32,110,111,116,32,40,124,124,124,55,124,41] _ ?_ rfl).trans (by decide +kernel)
    simp only [List.map, dig_ne ha (c := 41) (by decide), dig_ne hb (c := 41) (by decide)]
  have hp : Txt.split ⟨#[33,33,33,48,48,a,b,33]⟩ ⟨#[33]⟩ = [⟨#[]⟩, ⟨#[]⟩, ⟨#[]⟩, ⟨#[48,48,a,b]⟩, ⟨#[]⟩] := by
    refine (split_list #[33,33,33,48,48,a,b,33] #[33,33,33,48,48,48,48,33] (by decide) ?_ rfl (by simp) (by decide +kernel)).trans ?_
    · simp only [List.map, dig_ne ha (c := 33) (by decide), dig_ne hb (c := 33) (by decide)]
    · rw [show occurrences ⟨#[33,33,33,48,48,48,48,33]⟩ ⟨#[33]⟩ 0 (Array.size #[33,33,33,48,48,48,48,33]) (Array.size #[33,33,33,48,48,48,48,33] + 1) = [0, 1, 2, 7] by decide +kernel]; rfl
  have hs : Txt.slice ⟨#[50,50,57,32,40,33,33,33,48,48,a,b,33,41,32,110,111,116,32,40,124,124,124,55,124,41]⟩ (some (4 + 1)) (some 13) = ⟨#[33,33,33,48,48,a,b,33]⟩ := by kernel_rfl
  have hr : reply 1 ⟨#[a,b]⟩ = ⟨#[50,50,57,32,40,33,33,33,48,48,a,b,33,41,32,110,111,116,32,40,124,124,124,55,124,41]⟩ := by kernel_rfl
  rw [hr]
  exact ⟨26, 4, 13, ⟨#[33]⟩, [⟨#[]⟩, ⟨#[]⟩, ⟨#[]⟩, ⟨#[48,48,a,b]⟩, ⟨#[]⟩], by rfl, by decide, by rfl, hf, by decide, hg, by decide, by rfl, by rfl, by rw [hs]; exact hp, by rfl, by rfl⟩

theorem told_1_3 (a : Nat) (b : Nat) (c : Nat) (ha : Dig a) (hb : Dig b) (hc : Dig c) : R6 (reply 1 ⟨#[a,b,c]⟩) (⟨#[48,48,a,b,c]⟩) := by
  have hf : Txt.find ⟨#[50,50,57,32,40,33,33,33,48,48,a,b,c,33,41,32,110,111,116,32,40,124,124,124,55,124,41]⟩ ⟨#[40]⟩ = 4 := by
    refine (find_list #[50,50,57,32,40,33,33,33,48,48,a,b,c,33,41,32,110,111,116,32,40,124,124,124,55,124,41] #[50,50,57,32,40,33,33,33,48,48,48,48,48,33,41,32,110,111,116,32,40,124,124,124,55,124,41] ?_ rfl).trans (by decide +kernel)
    simp only [List.map, dig_ne ha (c := 40) (by decide), dig_ne hb (c := 40) (by decide), dig_ne hc (c := 40) (by decide)]
  have hg : Txt.find3 ⟨#[50,50,57,32,40,33,33,33,48,48,a,b,c,33,41,32,110,111,116,32,40,124,124,124,55,124,41]⟩ ⟨#[41]⟩ (4 + 1) = 14 := by
    refine (find3_list #[50,50,57,32,40,33,33,33,48,48,a,b,c,33,41,32,110,111,116,32,40,124,124,124,55,124,41] #[50,50,57,32,40,33,33,33,48,48,48,48,48,33,41,32,110,111,116,32,40,124,124,124,55,124,41] _ ?_ rfl).trans (by decide +kernel)
    simp only [List.map, dig_ne ha (c := 41) (by decide), dig_ne hb (c := 41) (by decide), dig_ne hc (c := 41) (by decide)]
  have hp : Txt.split ⟨#[33,33,33,48,48,a,b,c,33]⟩ ⟨#[33]⟩ = [⟨#[]⟩, ⟨#[]⟩, ⟨#[]⟩, ⟨#[48,48,a,b,c]⟩, ⟨#[]⟩] := by
    refine (split_list #[33,33,33,48,48,a,b,c,33] #[33,33,33,48,48,48,48,48,33] (by decide) ?_ rfl (by simp) (by decide +kernel)).trans ?_
    · simp only [List.map, dig_ne ha (c := 33) (by decide), dig_ne hb (c := 33) (by decide), dig_ne hc (c := 33) (by decide)]
    · rw [show occurrences ⟨#[33,33,33,48,48,48,48,48,33]⟩ ⟨#[33]⟩ 0 (Array.size #[33,33,33,48,48,48,48,48,33]) (Array.size #[33,33,33,48,48,48,48,48,33] + 1) = [0, 1, 2, 8] by decide +kernel]; rfl
  have hs : Txt.slice ⟨#[50,50,57,32,40,33,33,33,48,48,a,b,c,33,41,32,110,111,116,32,40,124,124,124,55,124,41]⟩ (some (4 + 1)) (some 14) = ⟨#[33,33,33,48,48,a,b,c,33]⟩ := by kernel_rfl
  have hr : reply 1 ⟨#[a,b,c]⟩ = ⟨#[50,50,57,32,40,33,33,33,48,48,a,b,c,33,41,32,110,111,116,32,40,124,124,124,55,124,41]⟩ := by kernel_rfl
  rw [hr]
  exact ⟨27, 4, 14, ⟨#[33]⟩, [⟨#[]⟩, ⟨#[]⟩, ⟨#[]⟩, ⟨#[48,48,a,b,c]⟩, ⟨#[]⟩], by rfl, by decide, by rfl, hf, by decide, hg, by decide, by rfl, by rfl, by rw [hs]; exact hp, by rfl, by rfl⟩

theorem told_2_1 (a : Nat) (ha : Dig a) : R6 (reply 2 ⟨#[a]⟩) (⟨#[32,43,a,32]⟩) := by
  have hf : Txt.find ⟨#[50,50,57,32,40,64,64,104,101,114,101,64,32,43,a,32,64,41]⟩ ⟨#[40]⟩ = 4 := by
    refine (find_list #[50,50,57,32,40,64,64,104,101,114,101,64,32,43,a,32,64,41] #[50,50,57,32,40,64,64,104,101,114,101,64,32,43,48,32,64,41] ?_ rfl).trans (by decide +kernel)
    simp only [List.map, dig_ne ha (c := 40) (by decide)]
  have hg : Txt.find3 ⟨#[50,50,57,32,40,64,64,104,101,114,101,64,32,43,a,32,64,41]⟩ ⟨#[41]⟩ (4 + 1) = 17 := by
    refine (find3_list #[50,50,57,32,40,64,64,104,101,114,101,64,32,43,a,32,64,41] #[50,50,57,32,40,64,64,104,101,114,101,64,32,43,48,32,64,41] _ ?_ rfl).trans (by decide +kernel)
    simp only [List.map, dig_ne ha (c := 41) (by decide)]
  have hp : Txt.split ⟨#[64,64,104,101,114,101,64,32,43,a,32,64]⟩ ⟨#[64]⟩ = [⟨#[]⟩, ⟨#[]⟩, ⟨#[104,101,114,101]⟩, ⟨#[32,43,a,32]⟩, ⟨#[]⟩] := by
    refine (split_list #[64,64,104,101,114,101,64,32,43,a,32,64] #[64,64,104,101,114,101,64,32,43,48,32,64] (by decide) ?_ rfl (by simp) (by decide +kernel)).trans ?_
    · simp only [List.map, dig_ne ha (c := 64) (by decide)]
    · rw [show occurrences ⟨#[64,64,104,101,114,101,64,32,43,48,32,64]⟩ ⟨#[64]⟩ 0 (Array.size #[64,64,104,101,114,101,64,32,43,48,32,64]) (Array.size #[64,64,104,101,114,101,64,32,43,48,32,64] + 1) = [0, 1, 6, 11] by decide +kernel]; rfl
  have hs : Txt.slice ⟨#[50,50,57,32,40,64,64,104,101,114,101,64,32,43,a,32,64,41]⟩ (some (4 + 1)) (some 17) = ⟨#[64,64,104,101,114,101,64,32,43,a,32,64]⟩ := by kernel_rfl
  have hr : reply 2 ⟨#[a]⟩ = ⟨#[50,50,57,32,40,64,64,104,101,114,101,64,32,43,a,32,64,41]⟩ := by kernel_rfl
  rw [hr]
  exact ⟨18, 4, 17, ⟨#[64]⟩, [⟨#[]⟩, ⟨#[]⟩, ⟨#[104,101,114,101]⟩, ⟨#[32,43,a,32]⟩, ⟨#[]⟩], by rfl, by decide, by rfl, hf, by decide, hg, by decide, by rfl, by rfl, by rw [hs]; exact hp, by rfl, by rfl⟩

theorem told_2_2 (a : Nat) (b : Nat) (ha : Dig a) (hb : Dig b) : R6 (reply 2 ⟨#[a,b]⟩) (⟨#[32,43,a,b,32]⟩) := by
  have hf : Txt.find ⟨#[50,50,57,32,40,64,64,104,101,114,101,64,32,43,a,b,32,64,41]⟩ ⟨#[40]⟩ = 4 := by
    refine (find_list #[50,50,57,32,40,64,64,104,101,114,101,64,32,43,a,b,32,64,41] #[50,50,57,32,40,64,64,104,101,114,101,64,32,43,48,48,32,64,41] ?_ rfl).trans (by decide +kernel)
    simp only [List.map, dig_ne ha (c := 40) (by decide), dig_ne hb (c := 40) (by decide)]
  have hg : Txt.find3 ⟨#[50,50,57,32,40,64,64,104,101,114,101,64,32,43,a,b,32,64,41]⟩ ⟨#[41]⟩ (4 + 1) = 18 := by
    refine (find3_list #[50,50,57,32,40,64,64,104,101,114,101,64,32,43,a,b,32,64,41] #[50,50,57,32,40,64,64,104,101,114,101,64,32,43,48,48,32,64,41] _ ?_ rfl).trans (by decide +kernel)
    simp only [List.map, dig_ne ha (c := 41) (by decide), dig_ne hb (c := 41) (by decide)]
  have hp : Txt.split ⟨#[64,64,104,101,114,101,64,32,43,a,b,32,64]⟩ ⟨#[64]⟩ = [⟨#[]⟩, ⟨#[]⟩, ⟨#[104,101,114,101]⟩, ⟨#[32,43,a,b,32]⟩, ⟨#[]⟩] := by
    refine (split_list #[64,64,104,101,114,101,64,32,43,a,b,32,64] #[64,64,104,101,114,101,64,32,43,48,48,32,64] (by decide) ?_ rfl (by simp) (by decide +kernel)).trans ?_
    · simp only [List.map, dig_ne ha (c := 64) (by decide), dig_ne hb (c := 64) (by decide)]
    · rw [show occurrences ⟨#[64,64,104,101,114,101,64,32,43,48,48,32,64]⟩ ⟨#[64]⟩ 0 (Array.size #[64,64,104,101,114,101,64,32,43,48,48,32,64]) (Array.size #[64,64,104,101,114,101,64,32,43,48,48,32,64] + 1) = [0, 1, 6, 12] by decide +kernel]; rfl
  have hs : Txt.slice ⟨#[50,50,57,32,40,64,64,104,101,114,101,64,32,43,a,b,32,64,41]⟩ (some (4 + 1)) (some 18) = ⟨#[64,64,104,101,114,101,64,32,43,a,b,32,64]⟩ := by kernel_rfl
  have hr : reply 2 ⟨#[a,b]⟩ = ⟨#[50,50,57,32,40,64,64,104,101,114,101,64,32,43,a,b,32,64,41]⟩ := by kernel_rfl
  rw [hr]
  exact ⟨19, 4, 18, ⟨#[64]⟩, [⟨#[]⟩, ⟨#[]⟩, ⟨#[104,101,114,101]⟩, ⟨#[32,43,a,b,32]⟩, ⟨#[]⟩], by rfl, by decide, by rfl, hf, by decide, hg, by decide, by rfl, by rfl, by rw [hs]; exact hp, by rfl, by rfl⟩

theorem told_2_3 (a : Nat) (b : Nat) (c : Nat) (ha : Dig a) (hb : Dig b) (hc : Dig c) : R6 (reply 2 ⟨#[a,b,c]⟩) (⟨#[32,43,a,b,c,32]⟩) := by
  have hf : Txt.find ⟨#[50,50,57,32,40,64,64,104,101,114,101,64,32,43,a,b,c,32,64,41]⟩ ⟨#[40]⟩ = 4 := by
    refine (find_list #[50,50,57,32,40,64,64,104,101,114,101,64,32,43,a,b,c,32,64,41] #[50,50,57,32,40,64,64,104,101,114,101,64,32,43,48,48,48,32,64,41] ?_ rfl).trans (by decide +kernel)
    simp only [List.map, dig_ne ha (c := 40) (by decide), dig_ne hb (c := 40) (by decide), dig_ne hc (c := 40) (by decide)]
  have hg : Txt.find3 ⟨#[50,50,57,32,40,64,64,104,101,114,101,64,32,43,a,b,c,32,64,41]⟩ ⟨#[41]⟩ (4 + 1) = 19 := by
    refine (find3_list #[50,50,57,32,40,64,64,104,101,114,101,64,32,43,a,b,c,32,64,41] #[50,50,57,32,40,64,64,104,101,114,101,64,32,43,48,48,48,32,64,41] _ ?_ rfl).trans (by decide +kernel)
    simp only [List.map, dig_ne ha (c := 41) (by decide), dig_ne hb (c := 41) (by decide), dig_ne hc (c := 41) (by decide)]
  have hp : Txt.split ⟨#[64,64,104,101,114,101,64,32,43,a,b,c,32,64]⟩ ⟨#[64]⟩ = [⟨#[]⟩, ⟨#[]⟩, ⟨#[104,101,114,101]⟩, ⟨#[32,43,a,b,c,32]⟩, ⟨#[]⟩] := by
    refine (split_list #[64,64,104,101,114,101,64,32,43,a,b,c,32,64] #[64,64,104,101,114,101,64,32,43,48,48,48,32,64] (by decide) ?_ rfl (by simp) (by decide +kernel)).trans ?_
    · simp only [List.map, dig_ne ha (c := 64) (by decide), dig_ne hb (c := 64) (by decide), dig_ne hc (c := 64) (by decide)]
    · rw [show occurrences ⟨#[64,64,104,101,114,101,64,32,43,48,48,48,32,64]⟩ ⟨#[64]⟩ 0 (Array.size #[64,64,104,101,114,101,64,32,43,48,48,48,32,64]) (Array.size #[64,64,104,101,114,101,64,32,43,48,48,48,32,64] + 1) = [0, 1, 6, 13] by decide +kernel]; rfl
  have hs : Txt.slice ⟨#[50,50,57,32,40,64,64,104,101,114,101,64,32,43,a,b,c,32,64,41]⟩ (some (4 + 1)) (some 19) = ⟨#[64,64,104,101,114,101,64,32,43,a,b,c,32,64]⟩ := by kernel_rfl
  have hr : reply 2 ⟨#[a,b,c]⟩ = ⟨#[50,50,57,32,40,64,64,104,101,114,101,64,32,43,a,b,c,32,64,41]⟩ := by kernel_rfl
  rw [hr]
  exact ⟨20, 4, 19, ⟨#[64]⟩, [⟨#[]⟩, ⟨#[]⟩, ⟨#[104,101,114,101]⟩, ⟨#[32,43,a,b,c,32]⟩, ⟨#[]⟩], by rfl, by decide, by rfl, hf, by decide, hg, by decide, by rfl, by rfl, by rw [hs]; exact hp, by rfl, by rfl⟩
end Mine
end
section
open PySem PySem.W PyProof.Rows PySem.Calls PySem.StrLaws PySem.Builtin.Str
set_option Elab.async false
set_option maxRecDepth 100000
namespace Mine
/-- why a reply with the right code is refused -/
def RN (r : Str) : Prop := ∃ n : Nat, r.length = n ∧ (1 ≤ n ∧ n ≤ 50) ∧ Txt.slice r none (some 3) = ⟨#[50, 50, 57]⟩ ∧ (Txt.find r ⟨#[40]⟩ < 0 ∨ ∃ K : Int, Txt.find r ⟨#[40]⟩ = K ∧ (0 ≤ K ∧ K + 1 < n) ∧ (Txt.find3 r ⟨#[41]⟩ (K + 1) < 0 ∨ ∃ (M : Int) (m m' : Str), Txt.find3 r ⟨#[41]⟩ (K + 1) = M ∧ (1 ≤ M ∧ M - 1 < n) ∧ Txt.item r (K + 1) = m ∧ Txt.item r (M - 1) = m' ∧
  (m ≠ m' ∨ (m = m' ∧ ∃ ps, Txt.split (Txt.slice r (some (K + 1)) (some M)) m = ps ∧ ps.length ≠ 5))))
theorem ref_x_1 (a : Nat) (ha : Dig a) : RN (Str.ofString "229 here 2 " ++ ⟨#[a]⟩ ++ Str.ofString " 2)") := by
  have hr : Str.ofString "229 here 2 " ++ ⟨#[a]⟩ ++ Str.ofString " 2)" = ⟨#[50,50,57,32,104,101,114,101,32,50,32,a,32,50,41]⟩ := by kernel_rfl
  rw [hr]
  refine ⟨15, by kernel_rfl, by decide, by kernel_rfl, ?_⟩
  have hf : Txt.find ⟨#[50,50,57,32,104,101,114,101,32,50,32,a,32,50,41]⟩ ⟨#[40]⟩ = -1 := by
    refine (find_list #[50,50,57,32,104,101,114,101,32,50,32,a,32,50,41] #[50,50,57,32,104,101,114,101,32,50,32,48,32,50,41] ?_ rfl).trans (by decide +kernel)
    simp only [List.map, dig_ne ha (c := 40) (by decide)]
  exact .inl (by rw [hf]; decide)

theorem ref_x_2 (a : Nat) (b : Nat) (ha : Dig a) (hb : Dig b) : RN (Str.ofString "229 here 2 " ++ ⟨#[a,b]⟩ ++ Str.ofString " 2)") := by
  have hr : Str.ofString "229 here 2 " ++ ⟨#[a,b]⟩ ++ Str.ofString " 2)" = ⟨#[50,50,57,32,104,101,114,101,32,50,32,a,b,32,50,41]⟩ := by kernel_rfl
  rw [hr]
  refine ⟨16, by kernel_rfl, by decide, by kernel_rfl, ?_⟩
  have hf : Txt.find ⟨#[50,50,57,32,104,101,114,101,32,50,32,a,b,32,50,41]⟩ ⟨#[40]⟩ = -1 := by
    refine (find_list #[50,50,57,32,104,101,114,101,32,50,32,a,b,32,50,41] #[50,50,57,32,104,101,114,101,32,50,32,48,48,32,50,41] ?_ rfl).trans (by decide +kernel)
    simp only [List.map, dig_ne ha (c := 40) (by decide), dig_ne hb (c := 40) (by decide)]
  exact .inl (by rw [hf]; decide)

theorem ref_x_3 (a : Nat) (b : Nat) (c : Nat) (ha : Dig a) (hb : Dig b) (hc : Dig c) : RN (Str.ofString "229 here 2 " ++ ⟨#[a,b,c]⟩ ++ Str.ofString " 2)") := by
  have hr : Str.ofString "229 here 2 " ++ ⟨#[a,b,c]⟩ ++ Str.ofString " 2)" = ⟨#[50,50,57,32,104,101,114,101,32,50,32,a,b,c,32,50,41]⟩ := by kernel_rfl
  rw [hr]
  refine ⟨17, by kernel_rfl, by decide, by kernel_rfl, ?_⟩
  have hf : Txt.find ⟨#[50,50,57,32,104,101,114,101,32,50,32,a,b,c,32,50,41]⟩ ⟨#[40]⟩ = -1 := by
    refine (find_list #[50,50,57,32,104,101,114,101,32,50,32,a,b,c,32,50,41] #[50,50,57,32,104,101,114,101,32,50,32,48,48,48,32,50,41] ?_ rfl).trans (by decide +kernel)
    simp only [List.map, dig_ne ha (c := 40) (by decide), dig_ne hb (c := 40) (by decide), dig_ne hc (c := 40) (by decide)]
  exact .inl (by rw [hf]; decide)

theorem ref_y_1 (a : Nat) (ha : Dig a) : RN (Str.ofString "229 here (|||" ++ ⟨#[a]⟩ ++ Str.ofString "|]") := by
  have hr : Str.ofString "229 here (|||" ++ ⟨#[a]⟩ ++ Str.ofString "|]" = ⟨#[50,50,57,32,104,101,114,101,32,40,124,124,124,a,124,93]⟩ := by kernel_rfl
  rw [hr]
  refine ⟨16, by kernel_rfl, by decide, by kernel_rfl, ?_⟩
  have hf : Txt.find ⟨#[50,50,57,32,104,101,114,101,32,40,124,124,124,a,124,93]⟩ ⟨#[40]⟩ = 9 := by
    refine (find_list #[50,50,57,32,104,101,114,101,32,40,124,124,124,a,124,93] #[50,50,57,32,104,101,114,101,32,40,124,124,124,48,124,93] ?_ rfl).trans (by decide +kernel)
    simp only [List.map, dig_ne ha (c := 40) (by decide)]
  refine .inr ⟨9, hf, by decide, ?_⟩
  have hg : Txt.find3 ⟨#[50,50,57,32,104,101,114,101,32,40,124,124,124,a,124,93]⟩ ⟨#[41]⟩ (9 + 1) = -1 := by
    refine (find3_list #[50,50,57,32,104,101,114,101,32,40,124,124,124,a,124,93] #[50,50,57,32,104,101,114,101,32,40,124,124,124,48,124,93] _ ?_ rfl).trans (by decide +kernel)
    simp only [List.map, dig_ne ha (c := 41) (by decide)]
  exact .inl (by rw [hg]; decide)

theorem ref_y_2 (a : Nat) (b : Nat) (ha : Dig a) (hb : Dig b) : RN (Str.ofString "229 here (|||" ++ ⟨#[a,b]⟩ ++ Str.ofString "|]") := by
  have hr : Str.ofString "229 here (|||" ++ ⟨#[a,b]⟩ ++ Str.ofString "|]" = ⟨#[50,50,57,32,104,101,114,101,32,40,124,124,124,a,b,124,93]⟩ := by kernel_rfl
  rw [hr]
  refine ⟨17, by kernel_rfl, by decide, by kernel_rfl, ?_⟩
  have hf : Txt.find ⟨#[50,50,57,32,104,101,114,101,32,40,124,124,124,a,b,124,93]⟩ ⟨#[40]⟩ = 9 := by
    refine (find_list #[50,50,57,32,104,101,114,101,32,40,124,124,124,a,b,124,93] #[50,50,57,32,104,101,114,101,32,40,124,124,124,48,48,124,93] ?_ rfl).trans (by decide +kernel)
    simp only [List.map, dig_ne ha (c := 40) (by decide), dig_ne hb (c := 40) (by decide)]
  refine .inr ⟨9, hf, by decide, ?_⟩
  have hg : Txt.find3 ⟨#[50,50,57,32,104,101,114,101,32,40,124,124,124,a,b,124,93]⟩ ⟨#[41]⟩ (9 + 1) = -1 := by
    refine (find3_list #[50,50,57,32,104,101,114,101,32,40,124,124,124,a,b,124,93] #[50,50,57,32,104,101,114,101,32,40,124,124,124,48,48,124,93] _ ?_ rfl).trans (by decide +kernel)
    simp only [List.map, dig_ne ha (c := 41) (by decide), dig_ne hb (c := 41) (by decide)]
  exact .inl (by rw [hg]; decide)

theorem ref_y_3 (a : Nat) (b : Nat) (c : Nat) (ha : Dig a) (hb : Dig b) (hc : Dig c) : RN (Str.ofString "229 here (|||" ++ ⟨#[a,b,c]⟩ ++ Str.ofString "|]") := by
  have hr : Str.ofString "229 here (|||" ++ ⟨#[a,b,c]⟩ ++ Str.ofString "|]" = ⟨#[50,50,57,32,104,101,114,101,32,40,124,124,124,a,b,c,124,93]⟩ := by kernel_rfl
  rw [hr]
  refine ⟨18, by kernel_rfl, by decide, by kernel_rfl, ?_⟩
  have hf : Txt.find ⟨#[50,50,57,32,104,101,114,101,32,40,124,124,124,a,b,c,124,93]⟩ ⟨#[40]⟩ = 9 := by
    refine (find_list #[50,50,57,32,104,101,114,101,32,40,124,124,124,a,b,c,124,93] #[50,50,57,32,104,101,114,101,32,40,124,124,124,48,48,48,124,93] ?_ rfl).trans (by decide +kernel)
    simp only [List.map, dig_ne ha (c := 40) (by decide), dig_ne hb (c := 40) (by decide), dig_ne hc (c := 40) (by decide)]
  refine .inr ⟨9, hf, by decide, ?_⟩
  have hg : Txt.find3 ⟨#[50,50,57,32,104,101,114,101,32,40,124,124,124,a,b,c,124,93]⟩ ⟨#[41]⟩ (9 + 1) = -1 := by
    refine (find3_list #[50,50,57,32,104,101,114,101,32,40,124,124,124,a,b,c,124,93] #[50,50,57,32,104,101,114,101,32,40,124,124,124,48,48,48,124,93] _ ?_ rfl).trans (by decide +kernel)
    simp only [List.map, dig_ne ha (c := 41) (by decide), dig_ne hb (c := 41) (by decide), dig_ne hc (c := 41) (by decide)]
  exact .inl (by rw [hg]; decide)

theorem ref_z_1 (a : Nat) (ha : Dig a) : RN (Str.ofString "229 here (|||" ++ ⟨#[a]⟩ ++ Str.ofString "|!)") := by
  have hr : Str.ofString "229 here (|||" ++ ⟨#[a]⟩ ++ Str.ofString "|!)" = ⟨#[50,50,57,32,104,101,114,101,32,40,124,124,124,a,124,33,41]⟩ := by kernel_rfl
  rw [hr]
  refine ⟨17, by kernel_rfl, by decide, by kernel_rfl, ?_⟩
  have hf : Txt.find ⟨#[50,50,57,32,104,101,114,101,32,40,124,124,124,a,124,33,41]⟩ ⟨#[40]⟩ = 9 := by
    refine (find_list #[50,50,57,32,104,101,114,101,32,40,124,124,124,a,124,33,41] #[50,50,57,32,104,101,114,101,32,40,124,124,124,48,124,33,41] ?_ rfl).trans (by decide +kernel)
    simp only [List.map, dig_ne ha (c := 40) (by decide)]
  refine .inr ⟨9, hf, by decide, ?_⟩
  have hg : Txt.find3 ⟨#[50,50,57,32,104,101,114,101,32,40,124,124,124,a,124,33,41]⟩ ⟨#[41]⟩ (9 + 1) = 16 := by
    refine (find3_list #[50,50,57,32,104,101,114,101,32,40,124,124,124,a,124,33,41] #[50,50,57,32,104,101,114,101,32,40,124,124,124,48,124,33,41] _ ?_ rfl).trans (by decide +kernel)
    simp only [List.map, dig_ne ha (c := 41) (by decide)]
  refine .inr ⟨16, ⟨#[124]⟩, ⟨#[33]⟩, hg, by decide, by kernel_rfl, by kernel_rfl, ?_⟩
  exact .inl (by decide)

theorem ref_z_2 (a : Nat) (b : Nat) (ha : Dig a) (hb : Dig b) : RN (Str.ofString "229 here (|||" ++ ⟨#[a,b]⟩ ++ Str.ofString "|!)") := by
  have hr : Str.ofString "229 here (|||" ++ ⟨#[a,b]⟩ ++ Str.ofString "|!)" = ⟨#[50,50,57,32,104,101,114,101,32,40,124,124,124,a,b,124,33,41]⟩ := by kernel_rfl
  rw [hr]
  refine ⟨18, by kernel_rfl, by decide, by kernel_rfl, ?_⟩
  have hf : Txt.find ⟨#[50,50,57,32,104,101,114,101,32,40,124,124,124,a,b,124,33,41]⟩ ⟨#[40]⟩ = 9 := by
    refine (find_list #[50,50,57,32,104,101,114,101,32,40,124,124,124,a,b,124,33,41] #[50,50,57,32,104,101,114,101,32,40,124,124,124,48,48,124,33,41] ?_ rfl).trans (by decide +kernel)
    simp only [List.map, dig_ne ha (c := 40) (by decide), dig_ne hb (c := 40) (by decide)]
  refine .inr ⟨9, hf, by decide, ?_⟩
  have hg : Txt.find3 ⟨#[50,50,57,32,104,101,114,101,32,40,124,124,124,a,b,124,33,41]⟩ ⟨#[41]⟩ (9 + 1) = 17 := by
    refine (find3_list #[50,50,57,32,104,101,114,101,32,40,124,124,124,a,b,124,33,41] #[50,50,57,32,104,101,114,101,32,40,124,124,124,48,48,124,33,41] _ ?_ rfl).trans (by decide +kernel)
    simp only [List.map, dig_ne ha (c := 41) (by decide), dig_ne hb (c := 41) (by decide)]
  refine .inr ⟨17, ⟨#[124]⟩, ⟨#[33]⟩, hg, by decide, by kernel_rfl, by kernel_rfl, ?_⟩
  exact .inl (by decide)

theorem ref_z_3 (a : Nat) (b : Nat) (c : Nat) (ha : Dig a) (hb : Dig b) (hc : Dig c) : RN (Str.ofString "229 here (|||" ++ ⟨#[a,b,c]⟩ ++ Str.ofString "|!)") := by
  have hr : Str.ofString "229 here (|||" ++ ⟨#[a,b,c]⟩ ++ Str.ofString "|!)" = ⟨#[50,50,57,32,104,101,114,101,32,40,124,124,124,a,b,c,124,33,41]⟩ := by kernel_rfl
  rw [hr]
  refine ⟨19, by kernel_rfl, by decide, by kernel_rfl, ?_⟩
  have hf : Txt.find ⟨#[50,50,57,32,104,101,114,101,32,40,124,124,124,a,b,c,124,33,41]⟩ ⟨#[40]⟩ = 9 := by
    refine (find_list #[50,50,57,32,104,101,114,101,32,40,124,124,124,a,b,c,124,33,41] #[50,50,57,32,104,101,114,101,32,40,124,124,124,48,48,48,124,33,41] ?_ rfl).trans (by decide +kernel)
    simp only [List.map, dig_ne ha (c := 40) (by decide), dig_ne hb (c := 40) (by decide), dig_ne hc (c := 40) (by decide)]
  refine .inr ⟨9, hf, by decide, ?_⟩
  have hg : Txt.find3 ⟨#[50,50,57,32,104,101,114,101,32,40,124,124,124,a,b,c,124,33,41]⟩ ⟨#[41]⟩ (9 + 1) = 18 := by
    refine (find3_list #[50,50,57,32,104,101,114,101,32,40,124,124,124,a,b,c,124,33,41] #[50,50,57,32,104,101,114,101,32,40,124,124,124,48,48,48,124,33,41] _ ?_ rfl).trans (by decide +kernel)
    simp only [List.map, dig_ne ha (c := 41) (by decide), dig_ne hb (c := 41) (by decide), dig_ne hc (c := 41) (by decide)]
  refine .inr ⟨18, ⟨#[124]⟩, ⟨#[33]⟩, hg, by decide, by kernel_rfl, by kernel_rfl, ?_⟩
  exact .inl (by decide)

theorem ref_v_1 (a : Nat) (ha : Dig a) : RN (Str.ofString "229 here (||" ++ ⟨#[a]⟩ ++ Str.ofString "|)") := by
  have hr : Str.ofString "229 here (||" ++ ⟨#[a]⟩ ++ Str.ofString "|)" = ⟨#[50,50,57,32,104,101,114,101,32,40,124,124,a,124,41]⟩ := by kernel_rfl
  rw [hr]
  refine ⟨15, by kernel_rfl, by decide, by kernel_rfl, ?_⟩
  have hf : Txt.find ⟨#[50,50,57,32,104,101,114,101,32,40,124,124,a,124,41]⟩ ⟨#[40]⟩ = 9 := by
    refine (find_list #[50,50,57,32,104,101,114,101,32,40,124,124,a,124,41] #[50,50,57,32,104,101,114,101,32,40,124,124,48,124,41] ?_ rfl).trans (by decide +kernel)
    simp only [List.map, dig_ne ha (c := 40) (by decide)]
  refine .inr ⟨9, hf, by decide, ?_⟩
  have hg : Txt.find3 ⟨#[50,50,57,32,104,101,114,101,32,40,124,124,a,124,41]⟩ ⟨#[41]⟩ (9 + 1) = 14 := by
    refine (find3_list #[50,50,57,32,104,101,114,101,32,40,124,124,a,124,41] #[50,50,57,32,104,101,114,101,32,40,124,124,48,124,41] _ ?_ rfl).trans (by decide +kernel)
    simp only [List.map, dig_ne ha (c := 41) (by decide)]
  refine .inr ⟨14, ⟨#[124]⟩, ⟨#[124]⟩, hg, by decide, by kernel_rfl, by kernel_rfl, ?_⟩
  have hs : Txt.slice ⟨#[50,50,57,32,104,101,114,101,32,40,124,124,a,124,41]⟩ (some (9 + 1)) (some 14) = ⟨#[124,124,a,124]⟩ := by kernel_rfl
  have hp : Txt.split ⟨#[124,124,a,124]⟩ ⟨#[124]⟩ = [⟨#[]⟩, ⟨#[]⟩, ⟨#[a]⟩, ⟨#[]⟩] := by
    refine (split_list #[124,124,a,124] #[124,124,48,124] (by decide) ?_ rfl (by simp) (by decide +kernel)).trans ?_
    · simp only [List.map, dig_ne ha (c := 124) (by decide)]
    · rw [show occurrences ⟨#[124,124,48,124]⟩ ⟨#[124]⟩ 0 (Array.size #[124,124,48,124]) (Array.size #[124,124,48,124] + 1) = [0, 1, 3] by decide +kernel]; rfl
  exact .inr ⟨rfl, [⟨#[]⟩, ⟨#[]⟩, ⟨#[a]⟩, ⟨#[]⟩], by rw [hs]; exact hp, by simp⟩

theorem ref_v_2 (a : Nat) (b : Nat) (ha : Dig a) (hb : Dig b) : RN (Str.ofString "229 here (||" ++ ⟨#[a,b]⟩ ++ Str.ofString "|)") := by
  have hr : Str.ofString "229 here (||" ++ ⟨#[a,b]⟩ ++ Str.ofString "|)" = ⟨#[50,50,57,32,104,101,114,101,32,40,124,124,a,b,124,41]⟩ := by kernel_rfl
  rw [hr]
  refine ⟨16, by kernel_rfl, by decide, by kernel_rfl, ?_⟩
  have hf : Txt.find ⟨#[50,50,57,32,104,101,114,101,32,40,124,124,a,b,124,41]⟩ ⟨#[40]⟩ = 9 := by
    refine (find_list #[50,50,57,32,104,101,114,101,32,40,124,124,a,b,124,41] #[50,50,57,32,104,101,114,101,32,40,124,124,48,48,124,41] ?_ rfl).trans (by decide +kernel)
    simp only [List.map, dig_ne ha (c := 40) (by decide), dig_ne hb (c := 40) (by decide)]
  refine .inr ⟨9, hf, by decide, ?_⟩
  have hg : Txt.find3 ⟨#[50,50,57,32,104,101,114,101,32,40,124,124,a,b,124,41]⟩ ⟨#[41]⟩ (9 + 1) = 15 := by
    refine (find3_list #[50,50,57,32,104,101,114,101,32,40,124,124,a,b,124,41] #[50,50,57,32,104,101,114,101,32,40,124,124,48,48,124,41] _ ?_ rfl).trans (by decide +kernel)
    simp only [List.map, dig_ne ha (c := 41) (by decide), dig_ne hb (c := 41) (by decide)]
  refine .inr ⟨15, ⟨#[124]⟩, ⟨#[124]⟩, hg, by decide, by kernel_rfl, by kernel_rfl, ?_⟩
  have hs : Txt.slice ⟨#[50,50,57,32,104,101,114,101,32,40,124,124,a,b,124,41]⟩ (some (9 + 1)) (some 15) = ⟨#[124,124,a,b,124]⟩ := by kernel_rfl
  have hp : Txt.split ⟨#[124,124,a,b,124]⟩ ⟨#[124]⟩ = [⟨#[]⟩, ⟨#[]⟩, ⟨#[a,b]⟩, ⟨#[]⟩] := by
    refine (split_list #[124,124,a,b,124] #[124,124,48,48,124] (by decide) ?_ rfl (by simp) (by decide +kernel)).trans ?_
    · simp only [List.map, dig_ne ha (c := 124) (by decide), dig_ne hb (c := 124) (by decide)]
    · rw [show occurrences ⟨#[124,124,48,48,124]⟩ ⟨#[124]⟩ 0 (Array.size #[124,124,48,48,124]) (Array.size #[124,124,48,48,124] + 1) = [0, 1, 4] by decide +kernel]; rfl
  exact .inr ⟨rfl, [⟨#[]⟩, ⟨#[]⟩, ⟨#[a,b]⟩, ⟨#[]⟩], by rw [hs]; exact hp, by simp⟩

theorem ref_v_3 (a : Nat) (b : Nat) (c : Nat) (ha : Dig a) (hb : Dig b) (hc : Dig c) : RN (Str.ofString "229 here (||" ++ ⟨#[a,b,c]⟩ ++ Str.ofString "|)") := by
  have hr : Str.ofString "229 here (||" ++ ⟨#[a,b,c]⟩ ++ Str.ofString "|)" = ⟨#[50,50,57,32,104,101,114,101,32,40,124,124,a,b,c,124,41]⟩ := by kernel_rfl
  rw [hr]
  refine ⟨17, by kernel_rfl, by decide, by kernel_rfl, ?_⟩
  have hf : Txt.find ⟨#[50,50,57,32,104,101,114,101,32,40,124,124,a,b,c,124,41]⟩ ⟨#[40]⟩ = 9 := by
    refine (find_list #[50,50,57,32,104,101,114,101,32,40,124,124,a,b,c,124,41] #[50,50,57,32,104,101,114,101,32,40,124,124,48,48,48,124,41] ?_ rfl).trans (by decide +kernel)
    simp only [List.map, dig_ne ha (c := 40) (by decide), dig_ne hb (c := 40) (by decide), dig_ne hc (c := 40) (by decide)]
  refine .inr ⟨9, hf, by decide, ?_⟩
  have hg : Txt.find3 ⟨#[50,50,57,32,104,101,114,101,32,40,124,124,a,b,c,124,41]⟩ ⟨#[41]⟩ (9 + 1) = 16 := by
    refine (find3_list #[50,50,57,32,104,101,114,101,32,40,124,124,a,b,c,124,41] #[50,50,57,32,104,101,114,101,32,40,124,124,48,48,48,124,41] _ ?_ rfl).trans (by decide +kernel)
    simp only [List.map, dig_ne ha (c := 41) (by decide), dig_ne hb (c := 41) (by decide), dig_ne hc (c := 41) (by decide)]
  refine .inr ⟨16, ⟨#[124]⟩, ⟨#[124]⟩, hg, by decide, by kernel_rfl, by kernel_rfl, ?_⟩
  have hs : Txt.slice ⟨#[50,50,57,32,104,101,114,101,32,40,124,124,a,b,c,124,41]⟩ (some (9 + 1)) (some 16) = ⟨#[124,124,a,b,c,124]⟩ := by kernel_rfl
  have hp : Txt.split ⟨#[124,124,a,b,c,124]⟩ ⟨#[124]⟩ = [⟨#[]⟩, ⟨#[]⟩, ⟨#[a,b,c]⟩, ⟨#[]⟩] := by
    refine (split_list #[124,124,a,b,c,124] #[124,124,48,48,48,124] (by decide) ?_ rfl (by simp) (by decide +kernel)).trans ?_
    · simp only [List.map, dig_ne ha (c := 124) (by decide), dig_ne hb (c := 124) (by decide), dig_ne hc (c := 124) (by decide)]
    · rw [show occurrences ⟨#[124,124,48,48,48,124]⟩ ⟨#[124]⟩ 0 (Array.size #[124,124,48,48,48,124]) (Array.size #[124,124,48,48,48,124] + 1) = [0, 1, 5] by decide +kernel]; rfl
  exact .inr ⟨rfl, [⟨#[]⟩, ⟨#[]⟩, ⟨#[a,b,c]⟩, ⟨#[]⟩], by rw [hs]; exact hp, by simp⟩
end Mine
end
section
open PySem PySem.W PyProof.Rows PySem.Calls
set_option Elab.async false
set_option maxRecDepth 100000
namespace Mine
theorem char_dig : ∀ d : Nat, d < 10 → (Nat.digitChar d).toNat = 48 + d := by decide
theorem to1 {d : Nat} (h : d < 10) : (Nat.toDigits 10 d).map Char.toNat = [48 + d] := by
  rw [Nat.toDigits_of_lt_base h, List.map_singleton, char_dig d h]
theorem to_more {p : Nat} (h : 10 ≤ p) : (Nat.toDigits 10 p).map Char.toNat = (Nat.toDigits 10 (p / 10)).map Char.toNat ++ [48 + p % 10] := by
  have hm : p % 10 < 10 := Nat.mod_lt p (by decide)
  have t : Nat.toDigits 10 (p / 10) ++ Nat.toDigits 10 (p % 10) = Nat.toDigits 10 (10 * (p / 10) + p % 10) := Nat.toDigits_append_toDigits (by decide) (by omega) hm
  rw [Nat.div_add_mod] at t
  rw [← t, List.map_append, to1 hm]
theorem fig_list (p : Nat) : (fig p).cps.toList = (Nat.toDigits 10 p).map Char.toNat := KIN.signs_num p
theorem str_of {x : Str} {l : List Nat} (h : x.cps.toList = l) : x = ⟨l.toArray⟩ := by
  obtain ⟨a⟩ := x
  congr 1
  rw [← h]
theorem fig_shape {p : Nat} (h : p < 768) : (∃ a, Dig a ∧ fig p = ⟨#[a]⟩) ∨ (∃ a b, Dig a ∧ Dig b ∧ fig p = ⟨#[a, b]⟩) ∨ (∃ a b c, Dig a ∧ Dig b ∧ Dig c ∧ fig p = ⟨#[a, b, c]⟩) := by
  have dg : ∀ d : Nat, d < 10 → Dig (48 + d) := fun d h => by unfold Dig; omega
  have hm : p % 10 < 10 := Nat.mod_lt p (by decide)
  by_cases h1 : p < 10
  · exact .inl ⟨48 + p, dg p h1, str_of ((fig_list p).trans (to1 h1))⟩
  · have e := (fig_list p).trans (to_more (Nat.not_lt.mp h1))
    by_cases h2 : p / 10 < 10
    · rw [to1 h2] at e
      exact .inr (.inl ⟨48 + p / 10, 48 + p % 10, dg _ h2, dg _ hm, str_of e⟩)
    · have hm2 : p / 10 % 10 < 10 := Nat.mod_lt _ (by decide)
      have h3 : p / 10 / 10 < 10 := by omega
      rw [to_more (Nat.not_lt.mp h2), to1 h3] at e
      exact .inr (.inr ⟨48 + p / 10 / 10, 48 + p / 10 % 10, 48 + p % 10, dg _ h3, dg _ hm2, dg _ hm, str_of e⟩)
theorem fig_digits {p : Nat} (h : p < 768) : NumText.AllDigits (fig p).cps.toList := by
  rcases fig_shape h with ⟨a, ha, e⟩ | ⟨a, b, ha, hb, e⟩ | ⟨a, b, c, ha, hb, hc, e⟩ <;> rw [e] <;> intro x hx <;> simp at hx <;> unfold Dig at * <;> omega
theorem fig_val (p : Nat) : NumText.digitsVal (fig p).cps.toList = p := by rw [fig_list, KIN.val_back]
theorem fig_short {p : Nat} (h : p < 768) : (fig p).cps.toList.length ≤ 3 := by
  rcases fig_shape h with ⟨a, ha, e⟩ | ⟨a, b, ha, hb, e⟩ | ⟨a, b, c, ha, hb, hc, e⟩ <;> rw [e] <;> simp
theorem fig_some {p : Nat} (h : p < 768) : (fig p).cps.toList ≠ [] := by
  rcases fig_shape h with ⟨a, ha, e⟩ | ⟨a, b, ha, hb, e⟩ | ⟨a, b, c, ha, hb, hc, e⟩ <;> rw [e] <;> simp
/-- a number with a blank and a plus ahead and a blank behind -/
theorem dressed {x : Str} {cs : List Nat} (hx : x.cps.toList = 32 :: 43 :: (cs ++ [32])) (h : NumText.AllDigits cs) (h1 : cs ≠ []) (h2 : cs.length ≤ 4300) : PySem.intText? x = some ((NumText.digitsVal cs : Nat) : Int) := by
  have all : ∀ c ∈ x.cps.toList, c < 128 ∧ c ≠ 0 := by
    rw [hx]
    intro c hc
    simp only [List.mem_cons, List.mem_append, List.not_mem_nil, or_false] at hc
    rcases hc with h' | h' | h' | h'
    · subst h'; decide
    · subst h'; decide
    · have := h c h'; omega
    · subst h'; decide
  have e1 : numTextOf x = x.cps.toList := if_pos (by
    rw [← Array.all_toList, List.all_eq_true]
    exact fun c hc => decide_eq_true (all c hc).1)
  have e2 : numSeenOf x = x.cps.toList := by
    show (numTextOf x).takeWhile _ = _
    rw [e1]
    exact NumText.takeWhile_all fun c hc => bne_iff_ne.mpr (all c hc).2
  have ed : (32 :: 43 :: (cs ++ [32])).dropWhile NumText.blank = 43 :: (cs ++ [32]) := by
    rw [List.dropWhile_cons_of_pos (by decide)]
    exact NumText.dropWhile_of (by decide)
  have es : NumText.sign (43 :: (cs ++ [32])) = (false, cs ++ [32]) := rfl
  have ec : NumText.core (32 :: 43 :: (cs ++ [32])) = cs := by
    unfold NumText.core
    rw [ed, es]
    show ((cs ++ [32]).reverse.dropWhile NumText.blank).reverse = cs
    rw [List.reverse_append, List.reverse_singleton, List.singleton_append, List.dropWhile_cons_of_pos (by decide), NumText.dropWhile_digits h.reverse, List.reverse_reverse]
  unfold PySem.intText?
  rw [e1, e2, hx, ec, ed, es, NumText.digits_of h h1, if_pos (beq_self_eq_true _)]
  have hsz := NumText.push_size cs #[]
  have hv := NumText.push_foldl cs #[]
  show (if _ ≤ 4300 then some (NumText.worth false _) else none) = _
  rw [if_pos (by rw [hsz]; simp only [Array.size_empty]; omega)]
  unfold NumText.worth NumText.digitsVal
  rw [hv]
  rfl
theorem num0 {p : Nat} (h : p < 768) : PySem.intText? (fig p) = some (p : Int) := KIN.num_reads (by omega) (by omega)
theorem num1 : ∀ p < 768, PySem.intText? ((⟨#[48, 48]⟩ : Str) ++ fig p) = some (p : Int) := by
  intro p h
  have e : ((⟨#[48, 48]⟩ : Str) ++ fig p).cps.toList = 48 :: 48 :: (fig p).cps.toList := by
    show ((#[48, 48] : Array Nat) ++ (fig p).cps).toList = _
    simp
  have k := intText_digits (x := (⟨#[48, 48]⟩ : Str) ++ fig p) (by
    rw [e]
    intro c hc
    rcases List.mem_cons.mp hc with h' | hc
    · omega
    rcases List.mem_cons.mp hc with h' | hc
    · omega
    · exact fig_digits h c hc) (by rw [e]; simp) (by
    show ((⟨#[48, 48]⟩ : Str) ++ fig p).cps.size ≤ 4300
    rw [← Array.length_toList, e]
    have := fig_short h
    simp only [List.length_cons]; omega)
  rw [k, e, NumText.digitsVal_zero, NumText.digitsVal_zero, fig_val]
theorem num2 : ∀ p < 768, PySem.intText? ((⟨#[32, 43]⟩ : Str) ++ fig p ++ (⟨#[32]⟩ : Str)) = some (p : Int) := by
  intro p h
  have e : ((⟨#[32, 43]⟩ : Str) ++ fig p ++ (⟨#[32]⟩ : Str)).cps.toList = 32 :: 43 :: ((fig p).cps.toList ++ [32]) := by
    show ((#[32, 43] : Array Nat) ++ (fig p).cps ++ #[32]).toList = _
    simp
  rw [dressed e (fig_digits h) (fig_some h) (by have := fig_short h; omega), fig_val]
end Mine
end
section
open PySem PySem.W PyProof.Rows PySem.Calls
set_option Elab.async false
set_option maxRecDepth 100000
namespace Mine
theorem ofs1 : Str.ofString "(" = ⟨#[40]⟩ := by kernel_rfl
theorem ofs2 : Str.ofString ")" = ⟨#[41]⟩ := by kernel_rfl
theorem ofs3 : Str.ofString "229" = ⟨#[50, 50, 57]⟩ := by kernel_rfl
theorem told_ok (w : World) (host r y : Str) (p : Int) (t u : Tok) (news : List (Addr × Obj)) (h : R6 r y) (hy : PySem.intText? y = some p) (hl : y.length ≤ 640) : Cl0 w 10 147 [.str host t, .str r u] news (fun v new => ∃ a n u0 u1, v = .ref a ∧ new = [(a, tupO [.str host u0, .int p u1] n)]) := by
  obtain ⟨n, K, M, m, ps, h1, h2, h3, h4, h5, h6, h7, h8, h9, h10, h11, h12⟩ := h
  subst h1
  have e3 : (Txt.slice r none (some 3) != Str.ofString "229") = false := by rw [h3, ofs3]; decide
  refine t_toldAll w host r t u news _ p h2 ?_ ?_ ?_ ?_ ?_ ?_ ?_ ?_ ?_
  · intro _ _; rw [ofs1, h4]; exact h5.2
  · intro _ _ _; rw [ofs1, ofs2, h4, h6]; exact h7
  · intro _ _ _ _ _; rw [ofs1, ofs2, h4, h6, h8, h10, h12]; rintro z ⟨rfl⟩; exact ⟨hy, hl⟩
  · intro c; rw [e3] at c; cases c
  · intro _ c; rw [ofs1, h4] at c; exact absurd h5.1 (Int.not_le.mpr c)
  · intro _ _ c; rw [ofs1, ofs2, h4, h6] at c; exact absurd (Int.le_trans (by decide) h7.1) (Int.not_le.mpr c)
  · intro _ _ _ c; rw [ofs1, ofs2, h4, h6, h8, h9] at c; simp at c
  · intro _ _ _ _ c; rw [ofs1, ofs2, h4, h6, h8, h10] at c; exact absurd h11 c
  · intro _ _ _ _ _ a n u0 u1; exact ⟨a, n, u0, u1, rfl, rfl⟩
theorem told_not (w : World) (host r : Str) (t u : Tok) (news : List (Addr × Obj)) (h : RN r) : Cl0 w 10 147 [.str host t, .str r u] news (fun v new => (∃ u, v = .str (Str.ofString "a sign lacks") u) ∧ new = []) := by
  obtain ⟨n, h1, h2, h3, h⟩ := h
  subst h1
  have c : (Txt.slice r none (some 3) != Str.ofString "229") = false := by rw [h3, ofs3]; decide
  have yes : ∀ z, (∃ u, Value.str (Str.ofString "a sign lacks") z = .str (Str.ofString "a sign lacks") u) ∧ ([] : List (Addr × Obj)) = [] := fun z => ⟨⟨z, rfl⟩, rfl⟩
  refine t_toldAll w host r t u news _ 0 h2 ?_ ?_ ?_ (fun c' => by rw [c] at c'; cases c') (fun _ _ => yes) (fun _ _ _ => yes) (fun _ _ _ _ => yes) (fun _ _ _ _ _ => yes) ?_
  · intro _ c1; rw [ofs1] at c1 ⊢
    rcases h with h | ⟨K, h4, h5, h⟩
    · exact absurd c1 (Int.not_le.mpr h)
    · rw [h4]; exact h5.2
  · intro _ c1 c2; rw [ofs1] at c1; rw [ofs1, ofs2] at c2 ⊢
    rcases h with h | ⟨K, h4, h5, h⟩
    · exact absurd c1 (Int.not_le.mpr h)
    · rw [h4] at c2 ⊢
      rcases h with h | ⟨M, m, m', h6, h7, h8, h9, h⟩
      · exact absurd c2 (Int.not_le.mpr h)
      · rw [h6]; exact h7
  all_goals (
    intro _ c1 c2 c3 c4; exfalso; rw [ofs1] at c1; rw [ofs1, ofs2] at c2 c3 c4
    rcases h with h | ⟨K, h4, h5, h⟩
    · exact absurd c1 (Int.not_le.mpr h)
    · rw [h4] at c2 c3 c4
      rcases h with h | ⟨M, m, m', h6, h7, h8, h9, h⟩
      · exact absurd c2 (Int.not_le.mpr h)
      · rw [h6, h8, h9] at c3
        rw [h6, h8] at c4
        rcases h with h | ⟨rfl, ps, h10, h11⟩
        · simp at c3; exact h c3
        · rw [h10] at c4; exact h11 c4)
theorem told_code (w : World) (host r : Str) (t u : Tok) (news : List (Addr × Obj)) (hr : 1 ≤ r.length ∧ r.length ≤ 50) (h : Txt.slice r none (some 3) = ⟨#[50, 48, 48]⟩) : Cl0 w 10 147 [.str host t, .str r u] news (fun v new => (∃ u, v = .str (Str.ofString "another code") u) ∧ new = []) := by
  have c : (Txt.slice r none (some 3) != Str.ofString "229") = true := by rw [h, ofs3]; decide
  refine t_toldAll w host r t u news _ 0 hr ?_ ?_ ?_ (fun _ z => ⟨⟨z, rfl⟩, rfl⟩) ?_ ?_ ?_ ?_ ?_ <;> (intro c'; rw [c] at c'; cases c')
theorem code3 (f : Str) (h : (∃ a, Dig a ∧ f = ⟨#[a]⟩) ∨ (∃ a b, Dig a ∧ Dig b ∧ f = ⟨#[a, b]⟩) ∨ (∃ a b c, Dig a ∧ Dig b ∧ Dig c ∧ f = ⟨#[a, b, c]⟩)) : (1 ≤ (reply 3 f).length ∧ (reply 3 f).length ≤ 50) ∧ Txt.slice (reply 3 f) none (some 3) = ⟨#[50, 48, 48]⟩ := by
  rcases h with ⟨a, _, rfl⟩ | ⟨a, b, _, _, rfl⟩ | ⟨a, b, c, _, _, _, rfl⟩
  · exact ⟨by rw [show (reply 3 ⟨#[a]⟩).length = 16 by kernel_rfl]; decide, by kernel_rfl⟩
  · exact ⟨by rw [show (reply 3 ⟨#[a, b]⟩).length = 17 by kernel_rfl]; decide, by kernel_rfl⟩
  · exact ⟨by rw [show (reply 3 ⟨#[a, b, c]⟩).length = 18 by kernel_rfl]; decide, by kernel_rfl⟩
theorem Cl0.mono {w : World} {k : Nat} {f : Addr} {vs : List Value} {news : List (Addr × Obj)} {P P' : Value → List (Addr × Obj) → Prop} (C : Cl0 w k f vs news P) (h : ∀ v n, P v n → P' v n) : Cl0 w k f vs news P' :=
  fun _ _ _ _ _ _ _ _ _ _ _ _ _ _ _ _ _ _ _ _ B F X XB N T TB hk hd hu ret => C _ _ _ _ _ _ _ _ _ _ _ _ _ _ _ _ _ _ _ _ B F X XB N T TB hk hd hu fun v h' tk' new a b c p => ret v h' tk' new a b c (h _ _ p)
theorem r0 {p : Nat} (hp : p < 768) : R6 (reply 0 (fig p)) (fig p) := by
  rcases fig_shape hp with ⟨a, ha, e⟩ | ⟨a, b, ha, hb, e⟩ | ⟨a, b, c, ha, hb, hc, e⟩ <;> rw [e]
  · exact told_0_1 a ha
  · exact told_0_2 a b ha hb
  · exact told_0_3 a b c ha hb hc
theorem r1 {p : Nat} (hp : p < 768) : R6 (reply 1 (fig p)) ((⟨#[48, 48]⟩ : Str) ++ fig p) := by
  rcases fig_shape hp with ⟨a, ha, e⟩ | ⟨a, b, ha, hb, e⟩ | ⟨a, b, c, ha, hb, hc, e⟩ <;> rw [e]
  · exact told_1_1 a ha
  · exact told_1_2 a b ha hb
  · exact told_1_3 a b c ha hb hc
theorem r2 {p : Nat} (hp : p < 768) : R6 (reply 2 (fig p)) ((⟨#[32, 43]⟩ : Str) ++ fig p ++ (⟨#[32]⟩ : Str)) := by
  rcases fig_shape hp with ⟨a, ha, e⟩ | ⟨a, b, ha, hb, e⟩ | ⟨a, b, c, ha, hb, hc, e⟩ <;> rw [e]
  · exact told_2_1 a ha
  · exact told_2_2 a b ha hb
  · exact told_2_3 a b c ha hb hc
theorem n45 {k : Int} (hk : k = 4 ∨ k = 5) {p : Nat} (hp : p < 768) : RN (reply k (fig p)) := by
  rcases hk with rfl | rfl
  · rw [show reply 4 (fig p) = if (Builtin.Str.occurrences (Str.ofString "13579") (Txt.item (fig p) (-1)) 0 (Str.ofString "13579").length 1).isEmpty = false then Str.ofString "229 here 2 " ++ fig p ++ Str.ofString " 2)" else Str.ofString "229 here (|||" ++ fig p ++ Str.ofString "|]" from rfl]
    split <;> (rcases fig_shape hp with ⟨a, ha, e⟩ | ⟨a, b, ha, hb, e⟩ | ⟨a, b, c, ha, hb, hc, e⟩ <;> rw [e])
    · exact ref_x_1 a ha
    · exact ref_x_2 a b ha hb
    · exact ref_x_3 a b c ha hb hc
    · exact ref_y_1 a ha
    · exact ref_y_2 a b ha hb
    · exact ref_y_3 a b c ha hb hc
  · rw [show reply 5 (fig p) = if (Builtin.Str.occurrences (Str.ofString "13579") (Txt.item (fig p) (-1)) 0 (Str.ofString "13579").length 1).isEmpty = false then Str.ofString "229 here (|||" ++ fig p ++ Str.ofString "|!)" else Str.ofString "229 here (||" ++ fig p ++ Str.ofString "|)" from rfl]
    split <;> (rcases fig_shape hp with ⟨a, ha, e⟩ | ⟨a, b, ha, hb, e⟩ | ⟨a, b, c, ha, hb, hc, e⟩ <;> rw [e])
    · exact ref_z_1 a ha
    · exact ref_z_2 a b ha hb
    · exact ref_z_3 a b c ha hb hc
    · exact ref_v_1 a ha
    · exact ref_v_2 a b ha hb
    · exact ref_v_3 a b c ha hb hc
theorem fig_len {p : Nat} (hp : p < 768) : 1 ≤ (fig p).length ∧ (fig p).length ≤ 3 := by
  rcases fig_shape hp with ⟨a, ha, e⟩ | ⟨a, b, ha, hb, e⟩ | ⟨a, b, c, ha, hb, hc, e⟩ <;> rw [e]
  · rw [show (Str.mk #[a]).length = 1 by kernel_rfl]; decide
  · rw [show (Str.mk #[a, b]).length = 2 by kernel_rfl]; decide
  · rw [show (Str.mk #[a, b, c]).length = 3 by kernel_rfl]; decide
theorem len1 {p : Nat} (hp : p < 768) : ((⟨#[48, 48]⟩ : Str) ++ fig p).length ≤ 640 := by
  rcases fig_shape hp with ⟨a, ha, e⟩ | ⟨a, b, ha, hb, e⟩ | ⟨a, b, c, ha, hb, hc, e⟩ <;> rw [e]
  · rw [show ((⟨#[48, 48]⟩ : Str) ++ ⟨#[a]⟩).length = 3 by kernel_rfl]; decide
  · rw [show ((⟨#[48, 48]⟩ : Str) ++ ⟨#[a, b]⟩).length = 4 by kernel_rfl]; decide
  · rw [show ((⟨#[48, 48]⟩ : Str) ++ ⟨#[a, b, c]⟩).length = 5 by kernel_rfl]; decide
theorem len2 {p : Nat} (hp : p < 768) : ((⟨#[32, 43]⟩ : Str) ++ fig p ++ (⟨#[32]⟩ : Str)).length ≤ 640 := by
  rcases fig_shape hp with ⟨a, ha, e⟩ | ⟨a, b, ha, hb, e⟩ | ⟨a, b, c, ha, hb, hc, e⟩ <;> rw [e]
  · rw [show ((⟨#[32, 43]⟩ : Str) ++ ⟨#[a]⟩ ++ (⟨#[32]⟩ : Str)).length = 4 by kernel_rfl]; decide
  · rw [show ((⟨#[32, 43]⟩ : Str) ++ ⟨#[a, b]⟩ ++ (⟨#[32]⟩ : Str)).length = 5 by kernel_rfl]; decide
  · rw [show ((⟨#[32, 43]⟩ : Str) ++ ⟨#[a, b, c]⟩ ++ (⟨#[32]⟩ : Str)).length = 6 by kernel_rfl]; decide
theorem t_toldK (w : World) (host : Str) (k : Int) (hk : 0 ≤ k ∧ k < 6) (p : Nat) (hp : p < 768) (t u : Tok) (news : List (Addr × Obj)) : Cl0 w 10 147 [.str host t, .str (reply k (fig p)) u] news
    (fun v new => (k < 3 ∧ ∃ a n u0 u1, v = .ref a ∧ new = [(a, tupO [.str host u0, .int (p : Int) u1] n)]) ∨ (k = 3 ∧ (∃ u, v = .str (Str.ofString "another code") u) ∧ new = []) ∨ (3 < k ∧ (∃ u, v = .str (Str.ofString "a sign lacks") u) ∧ new = [])) := by
  have h6 : k = 0 ∨ k = 1 ∨ k = 2 ∨ k = 3 ∨ (k = 4 ∨ k = 5) := by omega
  rcases h6 with rfl | rfl | rfl | rfl | h6
  · exact (told_ok w host _ _ p t u news (r0 hp) (num0 hp) (by have := (fig_len hp).2; omega)).mono fun v n h => .inl ⟨by decide, h⟩
  · exact (told_ok w host _ _ p t u news (r1 hp) (num1 p hp) (len1 hp)).mono fun v n h => .inl ⟨by decide, h⟩
  · exact (told_ok w host _ _ p t u news (r2 hp) (num2 p hp) (len2 hp)).mono fun v n h => .inl ⟨by decide, h⟩
  · have c := code3 (fig p) (fig_shape hp)
    exact (told_code w host _ t u news c.1 c.2).mono fun v n h => .inr (.inl ⟨rfl, h⟩)
  · exact (told_not w host _ t u news (n45 h6 hp)).mono fun v n h => .inr (.inr ⟨by omega, h⟩)
end Mine
end
section
open PySem PySem.W PyProof.Rows PySem.Calls PyProof.Rows.LCg
set_option Elab.async false
set_option maxRecDepth 100000
namespace Mine
/-- a value that is a pair of the ledger -/
def PrIn (nx : List (Addr × Obj)) (v : Value) (p : Value × Value) : Prop := ∃ t nt, v = .ref t ∧ (t, ({ cls := .type "tuple", data := .seq #[p.1, p.2] nt } : Obj)) ∈ nx
theorem All2.at {α β : Type} {R : α → β → Prop} {as : List α} {bs : List β} (h : All2 R as bs) {i : Nat} (hi : i < as.length) : ∃ a b, as[i]? = some a ∧ bs[i]? = some b ∧ R a b := by
  obtain ⟨b, e, r⟩ := h.get (List.getElem?_eq_getElem hi)
  exact ⟨_, b, List.getElem?_eq_getElem hi, e, r⟩
theorem take_more {α : Type} {l : List α} {i : Nat} {a : α} (h : l[i]? = some a) : l.take (i + 1) = l.take i ++ [a] := by
  rw [List.take_add_one, h]; rfl
/-- the three objects that a comprehension lays above the ledger -/
structure Apart (h₀ h : Heap) (L : Addr) (news : List (Addr × Obj)) (x : Addr) : Prop where
  low : h₀.get? x = none
  frame : x ≠ L
  off : ∀ p ∈ news, p.1 ≠ x
theorem apart_of {h₀ h : Heap} {L x : Addr} {m : Str → Option Value} {news : List (Addr × Obj)} (F : Fr h₀ L h m) (N : News h₀ L h news) (hx : h.objs.size ≤ x) : Apart h₀ h L news x :=
  ⟨Heap.get?_none_of_le (Nat.le_trans (Nat.le_trans F.above (Nat.le_of_lt F.ns.lt)) hx), Ne.symm (Nat.ne_of_lt (Nat.lt_of_lt_of_le F.ns.lt hx)), fun p hp => Nat.ne_of_lt (Nat.lt_of_lt_of_le (Heap.lt_size (N p hp).1) hx)⟩
theorem Fr.but {h₀ h h' : Heap} {L : Addr} {m : Str → Option Value} {X : List Addr} (F : Fr h₀ L h m) (k : ∀ b o, b ∉ X → h.get? b = some o → h'.get? b = some o) (a : ∀ x ∈ X, h₀.get? x = none ∧ x ≠ L) : Fr h₀ L h' m := by
  obtain ⟨oL, es, ep, hL, r⟩ := F.ns
  exact ⟨⟨oL, es, ep, k _ _ (fun q => (a _ q).2 rfl) hL, r⟩, fun b o e => k b o (fun q => by rw [(a _ q).1] at e; cases e) (F.keep b o e), F.above⟩
theorem News.but {h₀ h h' : Heap} {L : Addr} {news : List (Addr × Obj)} {X : List Addr} (N : News h₀ L h news) (k : ∀ b o, b ∉ X → h.get? b = some o → h'.get? b = some o) (a : ∀ x ∈ X, ∀ p ∈ news, p.1 ≠ x) : News h₀ L h' news :=
  fun p hp => ⟨k _ _ (fun q => a _ q p hp rfl) (N p hp).1, (N p hp).2⟩
/-- a text and a number, told twice -/
theorem ne_pair {A : Around} {E : Value → Shared → Prop} {s : Shared} {prog : Program} {w : World} {Q : Value → Shared → Prop} {h₀ : Heap} {L a b : Addr} {news : List (Addr × Obj)} {x : Str} {n : Int} {t t' u u' : Tok} {k k' : Nat} (N : News h₀ L s.heap news)
    (ha : (a, ({ cls := .type "tuple", data := .seq #[.str x t, .int n u] k } : Obj)) ∈ news) (hb : (b, ({ cls := .type "tuple", data := .seq #[.str x t', .int n u'] k' } : Obj)) ∈ news) (hu : A.units < cLine) (h : Q (.bool false) s) :
    wpAny (model prog w) A (compareOp .NotEq (.ref a) (.ref b)) Q E s := by
  refine PySem.SeqAt.RcNeAt.tuples (items := #[.str x t, .int n u]) (items2 := #[.str x t', .int n u']) (e := fun _ => true) ⟨_, (N _ ha).1, rfl, k, rfl⟩ ⟨_, (N _ hb).1, rfl, k', rfl⟩ hu (fun j h1 h2 => ?_) prog w E Q ?_
  · have hj : j < 2 := h1
    have : j = 0 ∨ j = 1 := by omega
    rcases this with rfl | rfl
    · have := PySem.SeqAt.EqAt.str_str (A := A.in1) (s := s) x t x t'
      rwa [beq_self_eq_true] at this
    · have := PySem.SeqAt.EqAt.int_int (A := A.in1) (s := s) n u n u'
      rwa [beq_self_eq_true] at this
  · exact h
section
variable {prog : Program} {w : World} {A : Around} {E : Value → Shared → Prop} {s : Shared} {env : Env} {h₀ : Heap} {L : Addr} {m : Str → Option Value}
/-- [second for first, second in pairs if test]: the pairs lie in the ledger; the test reads them alone -/
theorem ListComp_PT {ct iter : Expr} {x x₂ : Str} {px px₂ tp pe : Pos} {kk : Nat} {scope : Scope} {cl : List (Str × Addr)} {pos : Pos} {Q : Value → Shared → Prop} (tst : Value × Value → Bool) (_F₀ : Fr h₀ L s.heap m)
    (hclos : closureFor scope env = pure cl) (hcell : ∀ y ∈ scope.names, y.2 ≠ .cell) (hkind : scope.kind = .function)
    (hnames : ∀ y ∈ scope.names, y.2 = .local → scope.names.lookup y.1 = some .local) (hx : scope.names.lookup x = some .local) (hx₂ : scope.names.lookup x₂ = some .local) (hxx : x ≠ x₂) (hdb : (x₂ == ("__debug__" : Str)) = false)
    (h : wpAny (model prog w) A (eval iter env) (fun xv s₁ => Held (∃ (ax : Addr) (its : List Value) (k : Nat) (ps : List (Value × Value)) (news : List (Addr × Obj)), xv = .ref ax ∧ A.handled = none ∧ Fr h₀ L s₁.heap m ∧ News h₀ L s₁.heap news ∧ (ax, listOf its.toArray k) ∈ news ∧ its.length ≤ sizeLine ∧ All2 (PrIn news) its ps ∧
      (∀ p ∈ ps, ∀ I oI C oC D oD m₂ h tk (E' : Value → Shared → Prop), NsObj oC m₂ → m₂ x = some p.1 → m₂ x₂ = some p.2 → Fr h₀ L h m → News h₀ L h ((I, oI) :: (C, oC) :: (D, oD) :: news) →
        wpAny (model prog w) A (isTrue ct (compEnvC scope cl C env) (eval ct (compEnvC scope cl C env))) (fun ok s₃ => ok = tst p ∧ ∃ h' tk', s₃ = { s₁ with heap := h', toks := tk' } ∧ Fr h₀ L h' m ∧ News h₀ L h' ((I, oI) :: (C, oC) :: (D, oD) :: news)) E' { s₁ with heap := h, toks := tk }) ∧
      (∀ D h tk, Fr h₀ L h m → News h₀ L h ((D, lst ((ps.filter tst).map (·.2))) :: news) → Off1 D news → Q (.ref D) { s₁ with heap := h, toks := tk }))) E s)
    (hs : ∀ x, foldedSetIterable iter env x = pure x := by intro _; rfl) :
    wpAny (model prog w) A (eval (.ListComp (.Name x₂ pe) [⟨.Tuple [.Name x px, .Name x₂ px₂] kk tp, iter, [ct], 0⟩] scope pos) env) Q E s := by
  rw [eval_ListComp]
  refine wpAny_comprehension_free (use := none) rfl hs hclos hkind hnames (wpAny_mono h (fun xv s₁ h₁ => ?_) fun _ _ e => e)
  obtain ⟨ax, its, k, ps, news, rfl, hh, F, N, hm, hsz, hps, ht, hq⟩ := h₁
  have hl : s₁.heap.IsList ax its.toArray := ⟨_, (N _ hm).1, rfl, k, rfl⟩
  refine wpAny_pyIter_list hl ?_
  refine wpAny_newObj_type (wpAny_newFunctionEnv hcell (by intro y hy; simp at hy) (fun h₃ hns hsb => ?_) hkind)
  dsimp only at hns hsb ⊢
  generalize hH1 : s₁.heap.push { cls := .type "list_iterator", data := .fields #[.ref ax, .int 0 0] } = H1 at hns hsb ⊢
  generalize hH2 : H1.push { cls := .type "list", dict := none, data := .seq ([] : List Value).toArray } = H2 at hns hsb ⊢
  generalize hI : s₁.heap.objs.size = I
  generalize hD : H1.objs.size = D
  generalize hC : H2.objs.size = C at hns hsb ⊢
  have eD : D = I + 1 := by rw [← hD, ← hH1, Heap.size_push, hI]
  have eC : C = I + 2 := by rw [← hC, ← hH2, Heap.size_push, hD, eD]
  have aI := apart_of F N (show s₁.heap.objs.size ≤ I from Nat.le_of_eq hI)
  have aD := apart_of F N (show s₁.heap.objs.size ≤ D by rw [eD, ← hI]; exact Nat.le_succ _)
  have aC := apart_of F N (show s₁.heap.objs.size ≤ C by rw [eC, ← hI]; exact Nat.le_add_right _ 2)
  have nID : (@Ne Nat I D) := by rw [eD]; exact Nat.ne_of_lt (Nat.lt_succ_self _)
  have nIC : (@Ne Nat I C) := by rw [eC]; exact Nat.ne_of_lt (Nat.lt_add_of_pos_right (by decide))
  have nDC : (@Ne Nat D C) := by rw [eC, eD]; exact Nat.ne_of_lt (Nat.lt_succ_self _)
  have axI : (@Ne Nat ax I) := aI.off _ hm
  have up1 : ∀ b o, s₁.heap.get? b = some o → H1.get? b = some o := fun b o e => by rw [← hH1]; exact Heap.get?_push_of_some _ e
  have up2 : ∀ b o, H1.get? b = some o → H2.get? b = some o := fun b o e => by rw [← hH2]; exact Heap.get?_push_of_some _ e
  have up3 : ∀ b o, b ≠ C → H2.get? b = some o → h₃.get? b = some o := fun b o n e => hsb.extBut b o n (Heap.get?_push_of_some _ e)
  have gI : H1.get? I = some { cls := .type "list_iterator", data := .fields #[.ref ax, .int 0 0] } := by rw [← hH1, ← hI]; exact Heap.get?_push_size _ rfl
  have gD : H2.get? D = some (lst []) := by rw [← hH2, ← hD]; exact Heap.get?_push_size _ rfl
  have F3 : Fr h₀ L h₃ m := Fr.but (X := [C]) ((F.keeps up1).keeps up2) (fun b o q e => up3 b o (by simpa using q) e) (by simpa using ⟨aC.low, aC.frame⟩)
  have N3 : News h₀ L h₃ news := News.but (X := [C]) ((N.grown up1).grown up2) (fun b o q e => up3 b o (by simpa using q) e) (by simpa using aC.off)
  have W := Walks.list (prog := prog) (w := w) hh I ax axI its.toArray
  have iter0 : h₃.IsListIter I ax 0 := ⟨_, up3 _ _ nIC (up2 _ _ gI), rfl, rfl⟩
  have isL : ∀ {g : Heap}, News h₀ L g news → g.IsList ax its.toArray := fun N => ⟨_, (N _ hm).1, rfl, k, rfl⟩
  have loop : codeAny (model prog w) A (.compLoop (.ListComp (.Name x₂ pe) [⟨.Tuple [.Name x px, .Name x₂ px₂] kk tp, iter, [ct], 0⟩] scope pos) 0 (.ref I) (.ref D) (compEnvC scope cl C env))
      (compPost (model prog w) A E none Q (.ref D) C) { s₁ with heap := h₃, toks := s₁.toks + ([] : List (Str × Value)).length } := by
    refine kct_loop (fun n s' => ∃ h' tk i m', s' = { s₁ with heap := h', toks := tk } ∧ i ≤ its.length ∧ n = its.length + 1 - i ∧ h'.IsListIter I ax i ∧ h'.get? D = some (lst (((ps.take i).filter tst).map (·.2))) ∧ h'.Ns C m' ∧ Fr h₀ L h' m ∧ News h₀ L h' news) ?_ (its.length + 1)
      ⟨h₃, _, 0, _, rfl, Nat.zero_le _, rfl, iter0, by simpa using up3 _ _ nDC gD, hns, F3, N3⟩
    rintro n s' ⟨h', tk, i, m', rfl, hi, rfl, hit, hDl, hn', F', N'⟩
    by_cases hlt : i < its.length
    · refine W.item i _ _ _ (by simpa using hlt) ⟨hit, isL N'⟩ fun v h₄ tk₄ hv hst hk => ?_
      obtain ⟨_, p, ev, ep, t, nt, rfl, mt⟩ := hps.at hlt
      have ev' : v = .ref t := by
        have : its[i]? = some v := by simpa using hv
        rw [ev] at this; exact (Option.some.inj this).symm
      subst ev'
      have F4 := Fr.but F' hk (by simpa using ⟨aI.low, aI.frame⟩)
      have N4 := News.but N' hk (by simpa using aI.off)
      have D4 := hk D _ (by simpa using Ne.symm nID) hDl
      have C4 := hn'.at' fun o e => hk C o (by simpa using Ne.symm nIC) e
      refine wpAny_letOwnedTupleGo_listiter hst.1 ?_
      refine assign_Tuple_tuple hh ⟨_, (N4 _ mt).1, rfl, nt, rfl⟩ rfl rfl fun h₅ he => ?_
      have up5 : ∀ b o, h₄.get? b = some o → h₅.get? b = some o := fun b o e => he b o (Nat.ne_of_lt (Heap.lt_size e)) e
      refine assignInOrder_cons (wpAny_assign_Name (wpAny_storeName_local (lookup_relabel_local hx) (C4.at' fun o e => up5 _ o e) (fun h₆ hn₆ hs₆ => ?_) (by simp [compEnvC, relabel, hkind])))
      refine assignInOrder_cons (wpAny_assign_Name (wpAny_storeName_local (lookup_relabel_local hx₂) hn₆ (fun h₇ hn₇ hs₇ => ?_) (by simp [compEnvC, relabel, hkind])))
      refine assignInOrder_nil ?_
      have up7 : ∀ b o, b ∉ [C] → h₄.get? b = some o → h₇.get? b = some o := fun b o q e => hs₇.extBut b o (fun z => q (List.mem_singleton.mpr z)) (hs₆.extBut b o (fun z => q (List.mem_singleton.mpr z)) (up5 b o e))
      have F7 := Fr.but F4 up7 (by simpa using ⟨aC.low, aC.frame⟩)
      have N7 := News.but N4 up7 (by simpa using aC.off)
      have D7 := up7 D _ (by simpa using nDC) D4
      obtain ⟨oI, gI4, cI, dI⟩ := hst.1
      have I7 := up7 I _ (by simpa using nIC) gI4
      obtain ⟨oC, eC7, hoC⟩ := ns_obj hn₇
      have hp : p ∈ ps := List.mem_of_getElem? ep
      have NN : News h₀ L h₇ ((I, oI) :: (C, oC) :: (D, lst (((ps.take i).filter tst).map (·.2))) :: news) := fun q hq => by
        rcases List.mem_cons.mp hq with rfl | hq
        · exact ⟨I7, aI.frame, aI.low⟩
        rcases List.mem_cons.mp hq with rfl | hq
        · exact ⟨eC7, aC.frame, aC.low⟩
        rcases List.mem_cons.mp hq with rfl | hq
        · exact ⟨D7, aD.frame, aD.low⟩
        · exact N7 q hq
      refine wpAny_mono (ht p hp I oI C oC D _ _ h₇ _ _ hoC (by simp [hxx]) (by simp) F7 NN) (fun ok s₃ q => ?_) fun _ _ e => e
      obtain ⟨rfl, h₈, tk₈, rfl, F8, N8⟩ := q
      have I8 := (N8 _ (.head _)).1
      have C8 := (N8 _ (.tail _ (.head _))).1
      have D8 := (N8 _ (.tail _ (.tail _ (.head _)))).1
      have N8' : News h₀ L h₈ news := fun q hq => N8 q (.tail _ (.tail _ (.tail _ hq)))
      cases hb : tst p with
      | false =>
        simp only [Bool.false_eq_true, if_false]
        refine ⟨its.length + 1 - (i + 1), by omega, h₈, tk₈, i + 1, _, rfl, hlt, rfl, ⟨oI, I8, cI, dI⟩, ?_, hoC.ns C8, F8, N8'⟩
        rw [take_more ep, List.filter_append, List.filter_cons_of_neg (by simp [hb])]
        simpa using D8
      | true =>
        simp only [if_true]
        refine wpAny_Name (wpAny_loadName_local (v := p.2) hkind (lookup_relabel_local hx₂) (hoC.ns C8) (by simp) ?_) hdb
        refine append_at (hsz := by show (List.toArray _).size ≤ sizeLine; rw [List.size_toArray, List.length_map]; exact Nat.le_trans (List.length_filter_le _ _) (by rw [List.length_take]; omega)) D8 fun h₉ hs₉ hD₉ => ?_
        refine ⟨its.length + 1 - (i + 1), by omega, h₉, tk₈, i + 1, _, rfl, hlt, rfl, ⟨oI, hs₉.extBut _ _ nID I8, cI, dI⟩, ?_, (hoC.ns C8).sameBut hs₉ (Ne.symm nDC), F8.change hs₉ aD.frame aD.low, ?_⟩
        · rw [hD₉, take_more ep, List.filter_append, List.filter_cons_of_pos hb, List.filter_nil, List.map_append, List.map_singleton, ← lst_snoc]
        · exact News.but (X := [D]) N8' (fun b o q e => hs₉.extBut b o (by simpa using q) e) (by simpa using aD.off)
    · obtain rfl : i = its.length := Nat.le_antisymm hi (Nat.not_lt.mp hlt)
      refine W.done _ _ _ (by simpa using And.intro hit (isL N')) fun h₄ tk₄ hk => ?_
      have F4 := Fr.but F' hk (by simpa using ⟨aI.low, aI.frame⟩)
      have N4 := News.but N' hk (by simpa using aI.off)
      have D4 := hk D _ (by simpa using Ne.symm nID) hDl
      have C4 := hn'.at' fun o e => hk C o (by simpa using Ne.symm nIC) e
      refine ⟨_, C4, fun h₅ hs₅ => hq D h₅ tk₄ (F4.change hs₅ aC.frame aC.low) (fun q hq => ?_) (off_of aD.off)⟩
      rcases List.mem_cons.mp hq with rfl | hq
      · refine ⟨?_, aD.frame, aD.low⟩
        have := hs₅.extBut _ _ nDC D4
        rwa [List.take_of_length_le (by rw [← hps.length]; exact Nat.le_refl _)] at this
      · exact ⟨hs₅.extBut _ _ (aC.off _ hq) (N4 q hq).1, (N4 q hq).2⟩
  exact codeAny_compStart_list loop (W.self 0 _ _ _ ⟨iter0, isL N3⟩ loop)
/-- a block's frame with one cell -/
theorem env_cell {M : Model} {scope : Scope} {globals : Addr} {cl : List (Str × Addr)} {qual : Str} {x : Str} {Q : Env → Shared → Prop} (hc : ∀ n, cellsFrom n scope.names cl = (x, n) :: cl) (hp : ∀ h, pushCells h scope.names = h.push { cls := .type "cell", data := .cell none })
    (h : Q { scope, locals := s.heap.objs.size, globals, cells := (x, (s.heap.push { cls := .type "dict", data := .dict #[] }).objs.size) :: cl, qual, func := none, code := env.code, frame := env.frame, builtins := env.builtins } { s with heap := (s.heap.push { cls := .type "dict", data := .dict #[] }).push { cls := .type "cell", data := .cell none } }) :
    wpAny M A (newFunctionEnv scope globals cl [] qual none .none (some env)) Q E s := by
  simp only [newFunctionEnv, Option.isSome_some, if_true]
  refine wpAny_bind (wpAny_alloc ?_)
  refine wpAny_bind (wpAny_layCells _ (fun name kind cells => by cases hkc : kind == NameKind.cell <;> simp [hkc]) _ _ _ _ ?_)
  simp only [hc, hp, List.forIn_nil]
  exact wpAny_bind (wpAny_pure (wpAny_pure h))
/-- the loop of a dict comprehension, whatever its target -/
theorem dict_loop {kx vx target iter : Expr} {scope : Scope} {pos : Pos} {it : Value} {D : Addr} {env : Env} {R : Result → Shared → Prop} (I : Nat → Shared → Prop)
    (turn : ∀ n s, I n s → wpAny (model prog w) A (pyNext it) (fun r s₁ => match r with
      | none => R (.ok .next) s₁
      | some v => wpAny (model prog w) A (letOwnedTupleGo target it v) (fun _ s₀ => wpAny (model prog w) A (assign target env v) (fun _ s₂ =>
          wpAny (model prog w) A (eval kx env) (fun kv s₃ => wpAny (model prog w) A (eval vx env) (fun vv s₄ =>
            wpAny (model prog w) A (dictSet D kv vv) (fun _ s₅ => ∃ m, m < n ∧ I m s₅) (notedBy (model prog w) A env fun e s' => R (.error e) s') s₄) (notedBy (model prog w) A env fun e s' => R (.error e) s') s₃) (notedBy (model prog w) A env fun e s' => R (.error e) s') s₂)
          (notedBy (model prog w) A env fun e s' => R (.error e) s') s₀) (notedBy (model prog w) A env fun e s' => R (.error e) s') s₁) (notedBy (model prog w) A env fun e s' => R (.error e) s') s)
    (n : Nat) (h : I n s) : codeAny (model prog w) A (.compLoop (.DictComp kx vx [⟨target, iter, [], 0⟩] scope pos) 0 it (.ref D) env) R s := by
  refine codeAny_loop rfl I (fun n s hI => ?_) n h
  show wpAny _ A ((compTurn (.DictComp kx vx [⟨target, iter, [], 0⟩] scope pos) 0 it (.ref D) env).onRaise (fun x => do noteFrame x env; theTreesLotGoes x)) _ _ s
  refine wpAny_noted ?_
  rw [compTurn_dict]
  refine wpAny_bind (wpAny_standAt (wpAny_bind (wpAny_mono (turn n s hI) (fun r s₁ h₁ => ?_) fun _ _ h' => h')))
  cases r with
  | none => exact wpAny_pure h₁
  | some v =>
    refine wpAny_bind (wpAny_mono h₁ (fun _ s₀ h₀ => ?_) fun _ _ h' => h')
    refine wpAny_bind (wpAny_mono h₀ (fun _ s₂ h₂ => wpAny_bind (wpAny_mono (wpAny_tests_nil (Q := fun ok s₃ => ok = true ∧ s₃ = s₂) ⟨rfl, rfl⟩) (fun ok s₃ h₃ => ?_) fun _ _ h' => h')) fun _ _ h' => h')
    obtain ⟨rfl, rfl⟩ := h₃
    exact wpAny_bind (wpAny_bind (wpAny_mono h₂ (fun kv s₄ h₄ => wpAny_bind (wpAny_holding (wpAny_mono h₄ (fun vv s₅ h₅ => wpAny_bind (wpAny_standAt (wpAny_holding (wpAny_mono h₅ (fun _ s₆ h₆ => wpAny_pure ⟨rfl, h₆⟩) fun _ _ h' => h')))) fun _ _ h' => h'))) fun _ _ h' => h'))
/-- what a dict holds when values have been put under keys, one after the other -/
inductive Put {K : Type} [DecidableEq K] (FV : K → Value → Prop) : List K → List (K × Value) → Prop
  | nil : Put FV [] []
  | snoc {ks : List K} {kvs : List (K × Value)} {k : K} {y : Value} : Put FV ks kvs → FV k y → Put FV (ks ++ [k]) (stored kvs k y)
theorem Put.length_le {K : Type} [DecidableEq K] {FV : K → Value → Prop} {ks : List K} {kvs : List (K × Value)} (h : Put FV ks kvs) : kvs.length ≤ ks.length := by
  induction h with
  | nil => exact Nat.le_refl _
  | @snoc ks kvs k y _ _ ih =>
    have := stored_length_le kvs k y
    rw [List.length_append, List.length_singleton]; omega
/-- y = {first: value for first, second in pairs}, the first kept in a cell -/
theorem Assign_DictComp_P {K : Type} [DecidableEq K] (knd : KeyKind prog w K) {vx iter : Expr} {x x₂ y : Str} {px px₂ tp pe py : Pos} {kk : Nat} {scope : Scope} {cl : List (Str × Addr)} {pos spos : Pos} {Q : Flow → Shared → Prop} (FV : K → Value → Prop) (_F₀ : Fr h₀ L s.heap m)
    (hL : env.locals = L)
    (hsw : swapsWith (.DictComp (.Name x pe) vx [⟨.Tuple [.Name x px, .Name x₂ px₂] kk tp, iter, [], 0⟩] scope pos) (some (.Name y py)) spos.line env = pure true)
    (hclos : closureFor scope env = pure cl) (hc : ∀ n, cellsFrom n scope.names cl = (x, n) :: cl) (hpc : ∀ h, pushCells h scope.names = h.push { cls := .type "cell", data := .cell none }) (hkind : scope.kind = .function)
    (hnames : ∀ z ∈ scope.names, z.2 = .local → scope.names.lookup z.1 = some .local) (hx : (compEnvC scope cl 0 env).kindOf x = some .cell) (hx₂ : scope.names.lookup x₂ = some .local) (hdb : (x == ("__debug__" : Str)) = false)
    (hy : env.kindOf y = some .local) (hp : (env.scope.kind == .class || (env.scope.kind == .module && env.locals != env.globals)) = false)
    (h : wpAny (model prog w) A (eval iter env) (fun xv s₁ => Held (∃ (ax : Addr) (its : List Value) (k : Nat) (qs : List (K × Value × Value)) (news : List (Addr × Obj)), xv = .ref ax ∧ A.handled = none ∧ Fr h₀ L s₁.heap m ∧ News h₀ L s₁.heap news ∧ (ax, listOf its.toArray k) ∈ news ∧ its.length ≤ sizeLine ∧
      All2 (fun v q => PrIn news v q.2 ∧ knd.is q.1 q.2.1 = true) its qs ∧
      (∀ q ∈ qs, ∀ I oI C oC c oc D oD h tk (E' : Value → Shared → Prop), oc.data = .cell (some q.2.1) → Fr h₀ L h m → News h₀ L h ((I, oI) :: (C, oC) :: (c, oc) :: (D, oD) :: news) →
        wpAny (model prog w) A (eval vx (compEnvC scope ((x, c) :: cl) C env)) (fun v s₃ => FV q.1 v ∧ ∃ h' tk', s₃ = { s₁ with heap := h', toks := tk' } ∧ Fr h₀ L h' m ∧ News h₀ L h' ((I, oI) :: (C, oC) :: (c, oc) :: (D, oD) :: news)) E' { s₁ with heap := h, toks := tk }) ∧
      (∀ D oD kvs h tk, Fr h₀ L h (fun z => if z = y then some (.ref D) else m z) → News h₀ L h ((D, oD) :: news) → Off1 D news → h₀.objs.size ≤ D → oD.IsDictOf knd kvs → Put FV (qs.map (·.1)) kvs → Q .next { s₁ with heap := h, toks := tk }))) E s)
    (hs : ∀ x, foldedSetIterable iter env x = pure x := by intro _; rfl) :
    wpAny (model prog w) A (exec (.Assign [.Name y py] (.DictComp (.Name x pe) vx [⟨.Tuple [.Name x px, .Name x₂ px₂] kk tp, iter, [], 0⟩] scope pos) spos) env) Q E s := by
  subst hL
  rw [exec_Assign_Name_used _ _ _ _ hsw]
  refine wpAny_bind (wpAny_standAt (wpAny_bind ?_))
  show wpAny _ A (do let _ ← comprehension (.DictComp (.Name x pe) vx [⟨.Tuple [.Name x px, .Name x₂ px₂] kk tp, iter, [], 0⟩] scope pos) scope env _ newDict false (eval iter env) (some (assign (.Name y py) env))) _ _ s
  refine wpAny_bind (wpAny_mono (wpAny_comprehension_free (use := some (assign (.Name y py) env)) (Q := fun _ s' => Q .next s') rfl hs hclos hkind hnames
    (wpAny_mono h (fun xv s₁ h₁ => ?_) fun _ _ e => e)) (fun _ s' hq => wpAny_pure (wpAny_pure hq)) fun _ _ e => e)
  obtain ⟨ax, its, k, qs, news, rfl, hh, F, N, hm, hsz, hqs, ht, hq⟩ := h₁
  have hl : s₁.heap.IsList ax its.toArray := ⟨_, (N _ hm).1, rfl, k, rfl⟩
  refine wpAny_pyIter_list hl ?_
  refine wpAny_newObj_type (env_cell hc hpc ?_)
  dsimp only
  generalize hH1 : s₁.heap.push { cls := .type "list_iterator", data := .fields #[.ref ax, .int 0 0] } = H1
  generalize hH2 : H1.push { cls := .type "dict", dict := none, data := .dict #[] } = H2
  generalize hH3 : H2.push { cls := .type "dict", data := .dict #[] } = H3
  generalize hH4 : H3.push { cls := .type "cell", data := .cell none } = H4
  generalize hI : s₁.heap.objs.size = I
  generalize hD : H1.objs.size = D
  generalize hC : H2.objs.size = C
  generalize hcc : H3.objs.size = c
  have eD : D = I + 1 := by rw [← hD, ← hH1, Heap.size_push, hI]
  have eC : C = I + 2 := by rw [← hC, ← hH2, Heap.size_push, hD, eD]
  have ec : c = I + 3 := by rw [← hcc, ← hH3, Heap.size_push, hC, eC]
  have aI := apart_of F N (show s₁.heap.objs.size ≤ I from Nat.le_of_eq hI)
  have aD := apart_of F N (show s₁.heap.objs.size ≤ D by rw [eD, ← hI]; exact Nat.le_succ _)
  have aC := apart_of F N (show s₁.heap.objs.size ≤ C by rw [eC, ← hI]; exact Nat.le_add_right _ 2)
  have ac := apart_of F N (show s₁.heap.objs.size ≤ c by rw [ec, ← hI]; exact Nat.le_add_right _ 3)
  have nID : (@Ne Nat I D) := by rw [eD]; exact Nat.ne_of_lt (Nat.lt_succ_self _)
  have nIC : (@Ne Nat I C) := by rw [eC]; exact Nat.ne_of_lt (Nat.lt_add_of_pos_right (by decide))
  have nIc : (@Ne Nat I c) := by rw [ec]; exact Nat.ne_of_lt (Nat.lt_add_of_pos_right (by decide))
  have nDC : (@Ne Nat D C) := by rw [eC, eD]; exact Nat.ne_of_lt (Nat.lt_succ_self _)
  have nDc : (@Ne Nat D c) := by rw [ec, eD]; exact Nat.ne_of_lt (Nat.add_lt_add_left (by decide) _)
  have nCc : (@Ne Nat C c) := by rw [ec, eC]; exact Nat.ne_of_lt (Nat.lt_succ_self _)
  have axI : (@Ne Nat ax I) := aI.off _ hm
  have up1 : ∀ b o, s₁.heap.get? b = some o → H1.get? b = some o := fun b o e => by rw [← hH1]; exact Heap.get?_push_of_some _ e
  have up2 : ∀ b o, H1.get? b = some o → H2.get? b = some o := fun b o e => by rw [← hH2]; exact Heap.get?_push_of_some _ e
  have up3 : ∀ b o, H2.get? b = some o → H3.get? b = some o := fun b o e => by rw [← hH3]; exact Heap.get?_push_of_some _ e
  have up4 : ∀ b o, H3.get? b = some o → H4.get? b = some o := fun b o e => by rw [← hH4]; exact Heap.get?_push_of_some _ e
  have gI : H1.get? I = some { cls := .type "list_iterator", data := .fields #[.ref ax, .int 0 0] } := by rw [← hH1, ← hI]; exact Heap.get?_push_size _ rfl
  have gD : H2.DictOf knd D [] := by rw [← hH2, ← hD]; exact Heap.DictOf.new _
  have gC : H3.Ns C fun _ => none := by rw [← hH3, ← hC]; exact Heap.Ns.new _ _
  have gc : H4.IsCell c none := by rw [← hH4, ← hcc]; exact ⟨_, Heap.get?_push_size _ rfl, rfl⟩
  have upA : ∀ b o, s₁.heap.get? b = some o → H4.get? b = some o := fun b o e => up4 _ _ (up3 _ _ (up2 _ _ (up1 _ _ e)))
  have W := Walks.list (prog := prog) (w := w) hh I ax axI its.toArray
  have iter0 : H4.IsListIter I ax 0 := ⟨_, up4 _ _ (up3 _ _ (up2 _ _ gI)), rfl, rfl⟩
  have isL : ∀ {g : Heap}, News h₀ env.locals g news → g.IsList ax its.toArray := fun N => ⟨_, (N _ hm).1, rfl, k, rfl⟩
  have hxC : ∀ C, (compEnvC scope ((x, c) :: cl) C env).kindOf x = some .cell := fun _ => hx
  have hcx : (compEnvC scope ((x, c) :: cl) C env).cells.lookup x = some c := by simp [compEnvC]
  have loop : codeAny (model prog w) A (.compLoop (.DictComp (.Name x pe) vx [⟨.Tuple [.Name x px, .Name x₂ px₂] kk tp, iter, [], 0⟩] scope pos) 0 (.ref I) (.ref D) (compEnvC scope ((x, c) :: cl) C env))
      (compPost (model prog w) A E (some (assign (.Name y py) env)) (fun _ s' => Q .next s') (.ref D) C) { s₁ with heap := H4 } := by
    refine dict_loop (fun n s' => ∃ h' tk i m' kvs v₀, s' = { s₁ with heap := h', toks := tk } ∧ i ≤ its.length ∧ n = its.length + 1 - i ∧ h'.IsListIter I ax i ∧ h'.DictOf knd D kvs ∧ Put FV ((qs.take i).map (·.1)) kvs ∧ h'.Ns C m' ∧ h'.IsCell c v₀ ∧ Fr h₀ env.locals h' m ∧ News h₀ env.locals h' news) ?_ (its.length + 1)
      ⟨H4, _, 0, _, [], none, rfl, Nat.zero_le _, rfl, iter0, (gD.at (up3 D)).at (up4 D), by simpa using Put.nil, gC.at' fun o e => up4 _ _ e, gc, F.keeps upA, N.grown upA⟩
    rintro n s' ⟨h', tk, i, m', kvs, v₀, rfl, hi, rfl, hit, hDk, hput, hn', hc', F', N'⟩
    by_cases hlt : i < its.length
    · refine W.item i _ _ _ (by simpa using hlt) ⟨hit, isL N'⟩ fun v h₄ tk₄ hv hst hk => ?_
      obtain ⟨_, q, ev, ep, ⟨t, nt, rfl, mt⟩, hkq⟩ := hqs.at hlt
      have ev' : v = .ref t := by
        have : its[i]? = some v := by simpa using hv
        rw [ev] at this; exact (Option.some.inj this).symm
      subst ev'
      have F4 := Fr.but F' hk (by simpa using ⟨aI.low, aI.frame⟩)
      have N4 := News.but N' hk (by simpa using aI.off)
      have D4 := hDk.at fun o e => hk D o (by simpa using Ne.symm nID) e
      have C4 := hn'.at' fun o e => hk C o (by simpa using Ne.symm nIC) e
      have c4 : h₄.IsCell c v₀ := by obtain ⟨o, e, d⟩ := hc'; exact ⟨o, hk c o (by simpa using Ne.symm nIc) e, d⟩
      refine wpAny_letOwnedTupleGo_listiter hst.1 ?_
      refine assign_Tuple_tuple hh ⟨_, (N4 _ mt).1, rfl, nt, rfl⟩ rfl rfl fun h₅ he => ?_
      have up5 : ∀ b o, h₄.get? b = some o → h₅.get? b = some o := fun b o e => he b o (Nat.ne_of_lt (Heap.lt_size e)) e
      have c5 : h₅.IsCell c v₀ := by obtain ⟨o, e, d⟩ := c4; exact ⟨o, up5 _ _ e, d⟩
      refine assignInOrder_cons (wpAny_assign_Name (wpAny_storeName_cell hkind (hxC C) hcx c5 fun h₆ hc₆ hs₆ => ?_))
      have C6 := (C4.at' fun o e => up5 _ o e).sameBut hs₆ nCc
      refine assignInOrder_cons (wpAny_assign_Name (wpAny_storeName_local (lookup_relabel_local hx₂) C6 (fun h₇ hn₇ hs₇ => ?_) (by simp [compEnvC, relabel, hkind])))
      refine assignInOrder_nil ?_
      have hs₇' : Heap.SameBut C h₆ h₇ := hs₇
      have up7 : ∀ b o, b ∉ [c, C] → h₄.get? b = some o → h₇.get? b = some o := fun b o z e => hs₇'.extBut b o (fun q => z (by simp [q])) (hs₆.extBut b o (fun q => z (by simp [q])) (up5 b o e))
      have F7 := Fr.but F4 up7 (by simpa using ⟨⟨ac.low, ac.frame⟩, aC.low, aC.frame⟩)
      have N7 := News.but N4 up7 (fun z hz => by rcases List.mem_cons.mp hz with rfl | hz; exact ac.off; rw [List.mem_singleton.mp hz]; exact aC.off)
      have D7 := D4.at fun o e => up7 D o (by simpa using ⟨nDc, nDC⟩) e
      obtain ⟨oI, gI4, cI, dI⟩ := hst.1
      have I7 := up7 I _ (by simpa using ⟨nIc, nIC⟩) gI4
      obtain ⟨oc, gc6, dc⟩ := hc₆
      have c7 : h₇.get? c = some oc := hs₇'.extBut _ _ (Ne.symm nCc) gc6
      obtain ⟨oC, eC7, hoC⟩ := ns_obj hn₇
      obtain ⟨oD, gD7, dD⟩ := Heap.dictOf_iff.mp D7
      have hp' : q ∈ qs := List.mem_of_getElem? ep
      have NN : News h₀ env.locals h₇ ((I, oI) :: (C, oC) :: (c, oc) :: (D, oD) :: news) := fun z hz => by
        rcases List.mem_cons.mp hz with rfl | hz
        · exact ⟨I7, aI.frame, aI.low⟩
        rcases List.mem_cons.mp hz with rfl | hz
        · exact ⟨eC7, aC.frame, aC.low⟩
        rcases List.mem_cons.mp hz with rfl | hz
        · exact ⟨c7, ac.frame, ac.low⟩
        rcases List.mem_cons.mp hz with rfl | hz
        · exact ⟨gD7, aD.frame, aD.low⟩
        · exact N7 z hz
      refine wpAny_Name (wpAny_loadName_cell hkind (hxC C) hcx ⟨oc, c7, dc⟩ ?_) hdb
      refine wpAny_mono (ht q hp' I oI C oC c oc D oD h₇ _ _ dc F7 NN) (fun vv s₃ z => ?_) fun _ _ e => e
      obtain ⟨hFV, h₈, tk₈, rfl, F8, N8⟩ := z
      have I8 := (N8 _ (.head _)).1
      have C8 := (N8 _ (.tail _ (.head _))).1
      have c8 := (N8 _ (.tail _ (.tail _ (.head _)))).1
      have D8 : h₈.DictOf knd D kvs := Heap.dictOf_iff.mpr ⟨oD, (N8 _ (.tail _ (.tail _ (.tail _ (.head _))))).1, dD⟩
      have N8' : News h₀ env.locals h₈ news := fun z hz => N8 z (.tail _ (.tail _ (.tail _ (.tail _ hz))))
      have hkv : kvs.length ≤ sizeLine := by
        have := hput.length_le
        rw [List.length_map, List.length_take] at this
        omega
      refine wpAny_dictSet_pairs (hsz := hkv) hkq D8 fun h₉ hl₉ hs₉ => ?_
      refine ⟨its.length + 1 - (i + 1), by omega, h₉, _, i + 1, _, _, _, rfl, hlt, rfl, ⟨oI, hs₉.extBut _ _ nID I8, cI, dI⟩, hl₉, ?_, (hoC.ns C8).sameBut hs₉ (Ne.symm nDC), ⟨oc, hs₉.extBut _ _ (Ne.symm nDc) c8, dc⟩, F8.change hs₉ aD.frame aD.low, ?_⟩
      · rw [take_more ep, List.map_append, List.map_singleton]
        exact .snoc hput hFV
      · exact News.but (X := [D]) N8' (fun b o q e => hs₉.extBut b o (by simpa using q) e) (by simpa using aD.off)
    · obtain rfl : i = its.length := Nat.le_antisymm hi (Nat.not_lt.mp hlt)
      refine W.done _ _ _ (by simpa using And.intro hit (isL N')) fun h₄ tk₄ hk => ?_
      have F4 := Fr.but F' hk (by simpa using ⟨aI.low, aI.frame⟩)
      have N4 := News.but N' hk (by simpa using aI.off)
      have D4 := hDk.at fun o e => hk D o (by simpa using Ne.symm nID) e
      have C4 := hn'.at' fun o e => hk C o (by simpa using Ne.symm nIC) e
      show wpAny _ A (assign (.Name y py) env (.ref D)) _ _ _
      refine wpAny_assign_Name (wpAny_storeName_local hy F4.ns (fun h₂ hn₂ hs₂ => ?_) hp)
      have F5 : Fr h₀ env.locals h₂ (fun z => if z = y then some (.ref D) else m z) := F4.set hn₂ hs₂
      refine ⟨_, C4.sameBut hs₂ aC.frame, fun h₅ hs₅ => ?_⟩
      have D5 := (D4.sameBut hs₂ aD.frame).sameBut hs₅ nDC
      obtain ⟨oD, gD5, dD⟩ := Heap.dictOf_iff.mp D5
      refine hq D oD kvs h₅ _ (F5.change hs₅ aC.frame aC.low) (fun z hz => ?_) (off_of aD.off) (by rw [eD, ← hI]; exact Nat.le_succ_of_le (Nat.le_trans F.above (Nat.le_of_lt F.ns.lt))) dD ?_
      · rcases List.mem_cons.mp hz with rfl | hz
        · exact ⟨gD5, aD.frame, aD.low⟩
        · exact ⟨hs₅.extBut _ _ (aC.off _ hz) (hs₂.extBut _ _ (N4 z hz).2.1 (N4 z hz).1), (N4 z hz).2⟩
      · rwa [List.take_of_length_le (by rw [← hqs.length]; exact Nat.le_refl _)] at hput
  exact codeAny_compStart_dict loop (W.self 0 _ _ _ ⟨iter0, isL (N.grown upA)⟩ loop)
end
end Mine
end
section
open PySem PySem.W PyProof.Rows PySem.Calls PyProof.Rows.LCg
set_option Elab.async false
set_option maxRecDepth 100000
namespace Mine
def bodyOf : Stmt → List Stmt
  | .FunctionDef _ _ b _ _ _ _ _ _ _ => b
  | _ => []
def scopeOf : Stmt → Scope
  | .FunctionDef _ _ _ _ _ _ s _ _ _ => s
  | _ => default
def lawDef : Stmt := (PySem.Challenge.pw_xg0026_01.main.body.getLast?).getD (.Pass default)
/-- the law's statements, its scope -/
def lawBody : List Stmt := bodyOf lawDef
def lawScope : Scope := scopeOf lawDef
abbrev lawCells (L : Addr) : List (Str × Addr) := [(Str.ofString "port", L + 1 + 1), (Str.ofString "heard", L + 1)]
/-- the ground under the law's frame -/
structure Gd (w : World) (loose : List Str) (mean : ExcName → Option Value) (mg mb : Str → Option Value) (dp un : Nat) (A₀ : Around) (base h₀ : Heap) : Prop where
  B : Below A₀ base [] h₀
  X : (Mine.hd.heap_39 w.params).In h₀
  XB : (Mine.hd.heap_39 w.params).In base
  T : Top Mine.hd.view_39 loose mean mg mb h₀
  TB : Top Mine.hd.view_39 loose mean mg mb base
  hd : dp + 60 < recursionLimit
  hu : un + 6000 < cLine
/-- the pairs that the law keeps of the draws -/
def heardOf (ds : List (Bool × Int × Int)) : List (Bool × Int) := (ds.filter fun d => decide (d.2.2 < 3)).map fun d => (d.1, d.2.1)
theorem heardOf_snoc {ds : List (Bool × Int × Int)} {i : Nat} {d : Bool × Int × Int} (h : ds[i]? = some d) : heardOf (ds.take (i + 1)) = heardOf (ds.take i) ++ if d.2.2 < 3 then [(d.1, d.2.1)] else [] := by
  unfold heardOf
  rw [take_more h, List.filter_append, List.map_append]
  congr 1
  by_cases k : d.2.2 < 3
  · rw [if_pos k, List.filter_cons_of_pos (by simpa using k)]; rfl
  · rw [if_neg k, List.filter_cons_of_neg (by simpa using k)]; rfl
theorem heardOf_len (ds : List (Bool × Int × Int)) : (heardOf ds).length ≤ ds.length := by
  unfold heardOf; rw [List.length_map]; exact List.length_filter_le _ _
theorem heardOf_ok {ds : List (Bool × Int × Int)} (h : ∀ d ∈ ds, DrawOk d) : ∀ d ∈ heardOf ds, 0 ≤ d.2 ∧ d.2 < 768 := by
  intro d hd
  obtain ⟨e, he, rfl⟩ := List.mem_map.mp hd
  have := h e (List.mem_filter.mp he).1
  exact ⟨this.1, this.2.1⟩
theorem News.to {h₀ h : Heap} {L : Addr} {nx nx' : List (Addr × Obj)} (N : News h₀ L h nx) (k : ∀ p ∈ nx', p ∈ nx) : News h₀ L h nx' := fun p hp => N p (k p hp)
/-- what the law knows of heard behind its first loop -/
structure Heard (L hl : Addr) (o1 o2 : Obj) (xs : List Value) (ds : List (Bool × Int)) (tl : List (Addr × Obj)) : Prop where
  all : All2 (PairIn tl) xs ds
  okp : ∀ d ∈ ds, 0 ≤ d.2 ∧ d.2 < 768
  len : ds.length ≤ 4
  c1 : o1.data = .cell (some (.ref hl))
  c2 : ∃ v, o2.data = .cell v
  n1 : @Ne Nat hl (L + 1)
  n2 : @Ne Nat hl (L + 1 + 1)
  off : ∀ p ∈ tl, p.1 ≠ hl ∧ p.1 ≠ L + 1 + 1 ∧ p.1 ≠ L + 1
abbrev lawEnv (L a : Addr) (ccd : Value) : Env := envX (Str.ofString "law") lawScope L a ccd (lawCells L)
abbrev lawTop (dp un : Nat) (gd : Option (List Code)) (L a : Addr) (ccd : Value) : Around := ktrTop dp un gd (Str.ofString "law") lawScope L a ccd (lawCells L) []
/-- the law from its statement k on -/
abbrev lawFrom (w : World) (dp un : Nat) (gd : Option (List Code)) (L a : Addr) (ccd : Value) (k : Nat) (Q : Flow → Shared → Prop) (E : Value → Shared → Prop) (s : Shared) : Prop :=
  wpAny (model PySem.Challenge.rw_xg0026_01.row.prog w) (lawTop dp un gd L a ccd) (execs (lawBody.drop k) (lawEnv L a ccd)) Q E s
abbrev lawOwn (w : World) (dp un : Nat) (gd : Option (List Code)) (L a : Addr) (ccd : Value) (E : Value → Shared → Prop) : Prop :=
  PassesOwn (model PySem.Challenge.rw_xg0026_01.row.prog w) (lawTop dp un gd L a ccd) (lawEnv L a ccd) E
end Mine
end
section
open PySem PySem.W PyProof.Rows PySem.Calls PyProof.Rows.LCg PySem.SeqAt
set_option Elab.async false
set_option maxRecDepth 100000
namespace Mine
/-- a grey of the ledger: three times the same light -/
def TripIn (nx : List (Addr × Obj)) (v : Value) (n : Int) : Prop :=
  ∃ a k t0 t1 t2, v = .ref a ∧ t0 ≠ 0 ∧ t1 ≠ 0 ∧ t2 ≠ 0 ∧ (a, ({ cls := .type "tuple", data := .seq #[.float (fl n) t0, .float (fl n) t1, .float (fl n) t2] k } : Obj)) ∈ nx
theorem TripIn.mono {nx nx' : List (Addr × Obj)} {v : Value} {n : Int} (h : TripIn nx v n) (k : ∀ p ∈ nx, p ∈ nx') : TripIn nx' v n := by
  obtain ⟨a, kk, t0, t1, t2, e, h0, h1, h2, m⟩ := h
  exact ⟨a, kk, t0, t1, t2, e, h0, h1, h2, k _ m⟩
section
variable {prog : Program} {w : World} {A : Around} {E : Value → Shared → Prop} {s : Shared} {Q : Value → Shared → Prop} {h₀ : Heap} {L a b : Addr} {m : Str → Option Value} {news : List (Addr × Obj)}
theorem subFI {x k : Int} {t u : Tok} (hx : x.natAbs < 2 ^ 53) (hk : (256 * k).natAbs < 2 ^ 53) (hc : (x - 256 * k).natAbs < 2 ^ 53) (h : Q (.float (fl (x - 256 * k)) s.toks) { s with toks := s.toks + 1 }) : wpAny (model prog w) A (binaryOp .Sub (.float (fl x) t) (.int k u)) Q E s :=
  sub_fi_fits (Nat.lt_of_lt_of_le (show k.natAbs < 2 ^ 53 by omega) (Nat.pow_le_pow_right (by decide) (by decide))) (by rw [ofInt_fl hk, sub_fl hx hk hc]; exact h)
theorem add_row {vs us : List Value} {k k' : Nat} (F : Fr h₀ L s.heap m) (N : News h₀ L s.heap news) (ha : (a, listOf vs.toArray k) ∈ news) (hb : (b, listOf us.toArray k') ∈ news) (hz : vs.length + us.length ≤ sizeLine)
    (h : ∀ D h', Fr h₀ L h' m → News h₀ L h' ((D, listOf (vs ++ us).toArray 0) :: news) → (∀ p ∈ news, p.1 < D) → Q (.ref D) { s with heap := h' }) : wpAny (model prog w) A (binaryOp .Add (.ref a) (.ref b)) Q E s :=
  kmk_add_lit F N (N.isList ha) (N.isList hb) rfl h (by simpa using hz)
theorem pick_to (l : List Value) (k : Nat) : kms_pick l none (some (k : Int)) = l.take k := by
  unfold kms_pick kms_lo kms_hi
  simp only [List.drop_zero]
  rw [if_neg (by omega), Nat.sub_zero, Int.toNat_natCast]
  exact kmk_take_min l k
theorem eq_trip (X : ∃ m, s.heap.Ns cStatics m ∧ m sharingNotToldKey = none) (N : News h₀ L s.heap news) {v u : Value} {n : Int} (hn : n.natAbs < 2 ^ 53) (hv : TripIn news v n) (hu : TripIn news u n) (hr : A.units < cLine) : EqAt A s v u true := by
  obtain ⟨x, k, t0, t1, t2, rfl, h0, h1, h2, mx⟩ := hv
  obtain ⟨y, k', u0, u1, u2, rfl, g0, g1, g2, my⟩ := hu
  by_cases hxy : x = y
  · subst hxy; exact EqAt.same _
  · refine EqAt.of_refs hxy ?_
    have := RcAt.tuples (A := A) (s := s) (items := #[.float (fl n) t0, .float (fl n) t1, .float (fl n) t2]) (items2 := #[.float (fl n) u0, .float (fl n) u1, .float (fl n) u2]) (e := fun _ => true) ⟨_, (N _ mx).1, rfl, k, rfl⟩ ⟨_, (N _ my).1, rfl, k', rfl⟩ hr (fun j h1' h2' => by
      have hj : j < 3 := h1'
      have : j = 0 ∨ j = 1 ∨ j = 2 := by omega
      rcases this with rfl | rfl | rfl
      · exact eqAt_fl X h0 g0 hn
      · exact eqAt_fl X h1 g1 hn
      · exact eqAt_fl X h2 g2 hn)
    exact this
theorem ne_trips (X : ∃ m, s.heap.Ns cStatics m ∧ m sharingNotToldKey = none) (N : News h₀ L s.heap news) {ys zs : List Value} {ns : List Int} {k k' : Nat} (hn : ∀ n ∈ ns, n.natAbs < 2 ^ 53) (ha : (a, listOf ys.toArray k) ∈ news) (hb : (b, listOf zs.toArray k') ∈ news)
    (hy : All2 (TripIn news) ys ns) (hz : All2 (TripIn news) zs ns) (hr : A.units + 1 < cLine) (h : Q (.bool false) s) : wpAny (model prog w) A (compareOp .NotEq (.ref a) (.ref b)) Q E s := by
  have e : ys.toArray.size = zs.toArray.size := by simp [hy.length, hz.length]
  refine RcNeAt.lists (N.isList ha) (N.isList hb) e (by omega) (e := fun _ => true) (fun j h1 h2 => ?_) prog w E Q ?_
  · have hj1 : j < ys.length := by simpa using h1
    obtain ⟨v, n, ev, en, r⟩ := hy.at hj1
    have hj2 : j < zs.length := by simpa using h2
    obtain ⟨u, n', eu, en', r'⟩ := hz.at hj2
    have : n = n' := by rw [en] at en'; exact Option.some.inj en'
    subst this
    have e1 : ys.toArray[j] = v := by
      rw [List.getElem?_eq_getElem hj1] at ev; simpa using ev
    have e2 : zs.toArray[j] = u := by
      rw [List.getElem?_eq_getElem hj2] at eu; simpa using eu
    rw [e1, e2]
    exact eq_trip X N (hn _ (List.mem_of_getElem? en)) r r' hr
  · rw [all_true]; exact h
end
theorem row4 {p : Int} (h : 0 ≤ p ∧ p < 768) : (rowN p ++ [0, 0, 0, 0]).take 4 = (List.range 4).map fun j : Nat => clamp (p - 256 * (j : Int)) := by
  rw [rowN_range (n := (pl p).toNat) h.1 rfl]
  have k1 := pl_hi p
  have k2 := pl_b (a := p) ⟨h.1, by omega⟩
  have k3 := pl_lo p
  generalize pl p = x at *
  obtain ⟨n, rfl⟩ := Int.eq_ofNat_of_zero_le k2.1
  rw [Int.toNat_natCast]
  have hn : n ≤ 3 := by omega
  have z : ∀ j : Nat, n ≤ j → clamp (p - 256 * (j : Int)) = 0 := fun j e => clamp_neg (by omega)
  clear k1 k2 k3 h
  generalize hf : (fun j : Nat => clamp (p - 256 * (j : Int))) = f
  replace z : ∀ j, n ≤ j → f j = 0 := fun j e => by rw [← hf]; exact z j e
  cases n with
  | zero => show [0, 0, 0, 0] = [f 0, f 1, f 2, f 3]; rw [z 0 (by decide), z 1 (by decide), z 2 (by decide), z 3 (by decide)]
  | succ n => cases n with
    | zero => show [f 0, 0, 0, 0] = [f 0, f 1, f 2, f 3]; rw [z 1 (by decide), z 2 (by decide), z 3 (by decide)]
    | succ n => cases n with
      | zero => show [f 0, f 1, 0, 0] = [f 0, f 1, f 2, f 3]; rw [z 2 (by decide), z 3 (by decide)]
      | succ n => cases n with
        | zero => show [f 0, f 1, f 2, 0] = [f 0, f 1, f 2, f 3]; rw [z 3 (by decide)]
        | succ n => exact absurd hn (by omega)
theorem row_whole {p : Int} (h : 0 ≤ p) : rowN (p / 256 * 256) = List.replicate (p / 256).toNat 256 := by
  rw [rowN_none (k := (p / 256).toNat) (by omega) (by omega)]
theorem rep_one (v : Value) : ∀ k : Nat, (List.replicate k [v]).flatten = List.replicate k v
  | 0 => rfl
  | k + 1 => by rw [List.replicate_succ, List.flatten_cons, rep_one v k, List.replicate_succ]; rfl
theorem rep_fls1 (t : Tok) (ht : t ≠ 0) (k : Nat) : Fls (List.replicate k [Value.float 4607182418800017408 t]).flatten (List.replicate k 256) := by
  rw [rep_one, ← fl_one]; exact rep_fls 256 t ht k
theorem elt_deep {h₀ h' : Heap} {L I C D T : Addr} {m : Str → Option Value} {s₁ : Shared} {oI oC oD oT : Obj} {S : List (Addr × Obj) → Prop} {rest : Value → List (Addr × Obj) → Prop} {tk : Nat} {x1 x2 x3 x4 x5 x6 : Addr × Obj} {nw tl : List (Addr × Obj)}
    (F : Fr h₀ L h' m) (N : News h₀ L h' ((T, oT) :: (I, oI) :: (C, oC) :: (D, oD) :: x1 :: x2 :: x3 :: x4 :: x5 :: x6 :: (nw ++ tl))) (nI : T ≠ I) (nC : T ≠ C) (nD : T ≠ D) (off : Off3 I C D (x1 :: x2 :: x3 :: x4 :: x5 :: x6 :: (nw ++ tl)))
    (hS : S (x1 :: x2 :: x3 :: x4 :: x5 :: x6 :: (((T, oT) :: nw) ++ tl))) (r : rest (.ref T) (x1 :: x2 :: x3 :: x4 :: x5 :: x6 :: (((T, oT) :: nw) ++ tl))) :
    EltEnd h₀ L m s₁ I oI C oC D oD S rest (.ref T) { s₁ with heap := h', toks := tk } := by
  have o := off.mem
  refine CompEnd.intro F N (x1 :: x2 :: x3 :: x4 :: x5 :: x6 :: (T, oT) :: (nw ++ tl)) ?_ (LCg.Off3.of ?_) hS r
  · ((repeat (refine fa (by (repeat (first | exact List.Mem.head _ | apply List.Mem.tail))) ?_)); exact fun p hp => (by (repeat (first | assumption | apply List.Mem.tail))))
  · iterate 6 (refine fa (o _ (by (repeat (first | exact List.Mem.head _ | apply List.Mem.tail)))) ?_)
    refine fa ⟨nI, nC, nD⟩ fun p hp => o p (by (repeat (first | assumption | apply List.Mem.tail)))
theorem elt_deep8 {h₀ h' : Heap} {L I C D T : Addr} {m : Str → Option Value} {s₁ : Shared} {oI oC oD oT : Obj} {S : List (Addr × Obj) → Prop} {rest : Value → List (Addr × Obj) → Prop} {tk : Nat} {x1 x2 x3 x4 x5 x6 x7 x8 : Addr × Obj} {nw tl : List (Addr × Obj)}
    (F : Fr h₀ L h' m) (N : News h₀ L h' ((T, oT) :: (I, oI) :: (C, oC) :: (D, oD) :: x1 :: x2 :: x3 :: x4 :: x5 :: x6 :: x7 :: x8 :: (nw ++ tl))) (nI : T ≠ I) (nC : T ≠ C) (nD : T ≠ D) (off : Off3 I C D (x1 :: x2 :: x3 :: x4 :: x5 :: x6 :: x7 :: x8 :: (nw ++ tl)))
    (hS : S (x1 :: x2 :: x3 :: x4 :: x5 :: x6 :: x7 :: x8 :: (((T, oT) :: nw) ++ tl))) (r : rest (.ref T) (x1 :: x2 :: x3 :: x4 :: x5 :: x6 :: x7 :: x8 :: (((T, oT) :: nw) ++ tl))) :
    EltEnd h₀ L m s₁ I oI C oC D oD S rest (.ref T) { s₁ with heap := h', toks := tk } := by
  have o := off.mem
  refine CompEnd.intro F N (x1 :: x2 :: x3 :: x4 :: x5 :: x6 :: x7 :: x8 :: (T, oT) :: (nw ++ tl)) ?_ (LCg.Off3.of ?_) hS r
  · ((repeat (refine fa (by (repeat (first | exact List.Mem.head _ | apply List.Mem.tail))) ?_)); exact fun p hp => (by (repeat (first | assumption | apply List.Mem.tail))))
  · iterate 8 (refine fa (o _ (by (repeat (first | exact List.Mem.head _ | apply List.Mem.tail)))) ?_)
    refine fa ⟨nI, nC, nD⟩ fun p hp => o p (by (repeat (first | assumption | apply List.Mem.tail)))
theorem drop23 {h₀ h : Heap} {L : Addr} {x y z : Addr × Obj} {r : List (Addr × Obj)} (N : News h₀ L h (x :: y :: z :: r)) : News h₀ L h (x :: r) := fun p hp => N p ((List.mem_cons.mp hp).elim (fun e => e ▸ .head _) fun q => .tail _ (.tail _ (.tail _ q)))
theorem zeros4 {t0 t1 t2 t3 : Tok} (h0 : t0 ≠ 0) (h1 : t1 ≠ 0) (h2 : t2 ≠ 0) (h3 : t3 ≠ 0) : Fls [.float 0 t0, .float 0 t1, .float 0 t2, .float 0 t3] [0, 0, 0, 0] := by
  rw [← fl_nought]
  exact .cons 0 _ h0 (.cons 0 _ h1 (.cons 0 _ h2 (.cons 0 _ h3 .nil)))
theorem clamp_small (n : Int) : (clamp n).natAbs < 2 ^ 53 := by
  have := cl_b n; omega
theorem drop_mid {h₀ h : Heap} {L : Addr} {d2 s dd x1 x2 x3 x4 x5 x6 : Addr × Obj} {nw2 nw tl : List (Addr × Obj)} (N : News h₀ L h (d2 :: s :: dd :: x1 :: x2 :: x3 :: x4 :: x5 :: x6 :: (nw2 ++ (nw ++ tl)))) : News h₀ L h (x1 :: x2 :: x3 :: x4 :: x5 :: x6 :: tl) := by
  iterate 6 (refine fa (N _ (by (repeat (first | exact List.Mem.head _ | apply List.Mem.tail)))) ?_)
  exact fun p hp => N p (.tail _ (.tail _ (.tail _ (.tail _ (.tail _ (.tail _ (.tail _ (.tail _ (.tail _ (List.mem_append_right _ (List.mem_append_right _ hp)))))))))))
theorem rowN_small {x : Int} (h : 0 ≤ x) : ∀ n ∈ rowN x, n.natAbs < 2 ^ 53 := by
  intro n hn
  rw [rowN_range (n := ((x + 255) / 256).toNat) h rfl] at hn
  obtain ⟨j, _, rfl⟩ := List.mem_map.mp hn
  exact clamp_small _
theorem BkR.cls {w : World} {a : Addr} {o : Obj} {P : List (Bool × Int)} (h : BkR w a o P) : o.cls = .type "dict" := by
  obtain ⟨kvs, h, _⟩ := h
  obtain ⟨es, ep, x, _⟩ := h.is
  exact x.1
def totB (ds : List (Bool × Int)) : Int := (ds.map fun d => (d.2 + 255) / 256).sum
def totC (ds : List (Bool × Int)) : Int := (ds.map fun d => d.2).sum
def totD (ds : List (Bool × Int)) : Int := (ds.map fun d => d.2 * d.2).sum
def booked (ds : List (Bool × Int)) : List (Bool × Int) := ds.foldl addP []
theorem booked_snoc (ds : List (Bool × Int)) (d : Bool × Int) : booked (ds ++ [d]) = addP (booked ds) d := by unfold booked; rw [List.foldl_append]; rfl
theorem totB_snoc (ds : List (Bool × Int)) (d : Bool × Int) : totB (ds ++ [d]) = (d.2 + 255) / 256 + totB ds := by unfold totB; simp; omega
theorem totC_snoc (ds : List (Bool × Int)) (d : Bool × Int) : totC (ds ++ [d]) = d.2 + totC ds := by unfold totC; simp; omega
theorem totD_snoc (ds : List (Bool × Int)) (d : Bool × Int) : totD (ds ++ [d]) = d.2 * d.2 + totD ds := by unfold totD; simp [Int.add_comm]
theorem addP_fst (P : List (Bool × Int)) (e : Bool × Int) (h : (P.map Prod.fst).Nodup) : ((addP P e).map Prod.fst).Nodup := by
  induction P with
  | nil => simp [addP]
  | cons a r ih =>
    obtain ⟨b, q⟩ := a
    obtain ⟨c, p⟩ := e
    have hn := List.nodup_cons.mp h
    have sub : ∀ (r : List (Bool × Int)) (x : Bool), x ∈ (addP r (c, p)).map Prod.fst → x = c ∨ x ∈ r.map Prod.fst := by
      intro r
      induction r with
      | nil => intro x hx; simp [addP] at hx; exact .inl hx
      | cons a r ih =>
        obtain ⟨d, s⟩ := a
        intro x hx
        by_cases e : d = c
        · simp [addP, e] at hx
          rcases hx with rfl | hx
          · exact .inl rfl
          · exact .inr (by simp; exact .inr hx)
        · simp only [addP, if_neg e, List.map_cons, List.mem_cons] at hx
          rcases hx with rfl | hx
          · exact .inr (by simp)
          · exact (ih x hx).elim .inl fun z => .inr (by simp only [List.map_cons, List.mem_cons]; exact .inr z)
    by_cases e : b = c
    · simp only [addP, if_pos e, List.map_cons]; exact h
    · simp only [addP, if_neg e, List.map_cons]
      exact List.nodup_cons.mpr ⟨fun z => (sub r b z).elim (fun q => e q) hn.1, ih hn.2⟩
theorem booked_nodup (ds : List (Bool × Int)) : ((booked ds).map Prod.fst).Nodup := by
  unfold booked
  have : ∀ (l P : List (Bool × Int)), (P.map Prod.fst).Nodup → ((l.foldl addP P).map Prod.fst).Nodup := by
    intro l
    induction l with
    | nil => intro P h; exact h
    | cons a r ih => intro P h; exact ih _ (addP_fst P a h)
  exact this ds [] (by simp)
theorem twice {h₀ h : Heap} {L : Addr} {x y : Addr × Obj} {r : List (Addr × Obj)} (N : News h₀ L h (x :: y :: r)) : News h₀ L h (x :: y :: x :: y :: r) := dup (dup N (.tail _ (.head _))) (.tail _ (.head _))
theorem names2 {α : Prop} {h₀ h : Heap} {L e d : Addr} {oe od : Obj} {r : List (Addr × Obj)} (_N : News h₀ L h ((e, oe) :: (d, od) :: r)) (k : ∀ e' d' od', e' = e → d' = d → od' = od → α) : α := k e d od rfl rfl rfl
theorem news_st {h₀ h : Heap} {L : Addr} {x1 x2 x3 x4 x5 x6 x7 : Addr × Obj} {r : List (Addr × Obj)} (N : News h₀ L h (x1 :: x2 :: x3 :: x4 :: x5 :: x6 :: x7 :: r)) : News h₀ L h (x7 :: x2 :: x6 :: x1 :: x5 :: r) := fun p hp => N p (by
  revert p
  ((repeat (refine fa (by (repeat (first | exact List.Mem.head _ | apply List.Mem.tail))) ?_)); exact fun p hp => (by (repeat (first | assumption | apply List.Mem.tail)))))
theorem ints_snoc {vs : List Value} {ns : List Int} (h : IntsAre vs ns) (x : Int) (t : Tok) : IntsAre (vs ++ [.int x t]) (ns ++ [x]) := by
  induction h with
  | nil => exact .cons _ _ .nil
  | cons _ _ _ ih => exact .cons _ _ ih
theorem ints_get {vs : List Value} {ns : List Int} (h : IntsAre vs ns) : ∀ {i : Nat} {v : Value}, vs[i]? = some v → ∃ x t, ns[i]? = some x ∧ v = .int x t := by
  induction h with
  | nil => intro i v e; simp at e
  | cons n t _ ih =>
    intro i v e
    cases i with
    | zero => simp at e; exact ⟨n, t, rfl, e.symm⟩
    | succ i => simp at e; obtain ⟨x, u, e1, e2⟩ := ih e; exact ⟨x, u, by simpa using e1, e2⟩
end Mine
end
section
open PySem PySem.W PyProof.Rows PySem.Calls PyProof.Rows.LCg
set_option Elab.async false
set_option maxRecDepth 100000
namespace Mine
/-- the sum of a server's numbers -/
def sumOf (k : Str) (ds : List (Bool × Int)) : Int := ((ds.filter fun d => hostS d.1 == k).map Prod.snd).sum
/-- a server's number in a list -/
def valP (P : List (Bool × Int)) (b : Bool) : Int := ((P.filter fun e => e.1 == b).map Prod.snd).sum
theorem hostS_beq (a b : Bool) : (hostS a == hostS b) = (a == b) := by cases a <;> cases b <;> decide +kernel
theorem hostS_inj {a b : Bool} (h : hostS a = hostS b) : a = b := by
  have := hostS_beq a b
  rw [h, beq_self_eq_true] at this
  exact eq_of_beq this.symm
theorem sumOf_val (ds : List (Bool × Int)) (b : Bool) : sumOf (hostS b) ds = valP ds b := by
  unfold sumOf valP
  simp only [hostS_beq]
theorem valP_cons (e : Bool × Int) (P : List (Bool × Int)) (b : Bool) : valP (e :: P) b = (if e.1 = b then e.2 else 0) + valP P b := by
  unfold valP
  by_cases h : e.1 = b
  · rw [if_pos h, List.filter_cons_of_pos (by simpa using h), List.map_cons, List.sum_cons]
  · rw [if_neg h, List.filter_cons_of_neg (by simpa using h), Int.zero_add]
theorem valP_addP (P : List (Bool × Int)) (e : Bool × Int) (b : Bool) : valP (addP P e) b = valP P b + if e.1 = b then e.2 else 0 := by
  obtain ⟨c, p⟩ := e
  induction P with
  | nil => rw [addP, valP_cons]; simp [valP]
  | cons a r ih =>
    obtain ⟨d, q⟩ := a
    by_cases h : d = c
    · rw [addP, if_pos h, valP_cons, valP_cons]
      subst h
      dsimp only
      split <;> omega
    · rw [addP, if_neg h, valP_cons, ih, valP_cons]
      omega
theorem valP_booked (ds : List (Bool × Int)) (b : Bool) : valP (booked ds) b = valP ds b := by
  have : ∀ (l P : List (Bool × Int)), valP (l.foldl addP P) b = valP P b + valP l b := by
    intro l
    induction l with
    | nil => intro P; simp [valP]
    | cons e r ih => intro P; rw [List.foldl_cons, ih, valP_addP, valP_cons]; omega
  have h := this ds []
  unfold booked
  rw [h]; simp [valP]
theorem valP_mem {P : List (Bool × Int)} (hn : (P.map Prod.fst).Nodup) {e : Bool × Int} (h : e ∈ P) : valP P e.1 = e.2 := by
  induction P with
  | nil => cases h
  | cons a r ih =>
    have hn' := List.nodup_cons.mp hn
    rw [valP_cons]
    rcases List.mem_cons.mp h with rfl | h
    · rw [if_pos rfl]
      have : valP r e.1 = 0 := by
        unfold valP
        rw [List.filter_eq_nil_iff.mpr fun x hx => ?_]
        · rfl
        · intro q
          exact hn'.1 (by rw [← eq_of_beq q]; exact List.mem_map_of_mem hx)
      rw [this, Int.add_zero]
    · rw [if_neg fun q => hn'.1 (by rw [q]; exact List.mem_map_of_mem h), ih hn'.2 h, Int.zero_add]
theorem addP_keys (P : List (Bool × Int)) (e : Bool × Int) : (addP P e).map Prod.fst = if e.1 ∈ P.map Prod.fst then P.map Prod.fst else P.map Prod.fst ++ [e.1] := by
  obtain ⟨c, p⟩ := e
  induction P with
  | nil => simp [addP]
  | cons a r ih =>
    obtain ⟨d, q⟩ := a
    by_cases h : d = c
    · rw [addP, if_pos h]; simp [h]
    · rw [addP, if_neg h, List.map_cons, ih]
      have h' : ¬ c = d := fun q => h q.symm
      by_cases k : c ∈ r.map Prod.fst
      · rw [if_pos k, if_pos (by simp only [List.map_cons, List.mem_cons]; exact .inr k)]; rfl
      · rw [if_neg k, if_neg (by simp only [List.map_cons, List.mem_cons]; exact fun q => q.elim h' k)]; rfl
/-- what is stored under a dict's keys -/
theorem put_keys {FV : Str → Value → Prop} {es : List (Bool × Int)} {kvs : List (Str × Value)} (h : Put FV (es.map fun d => hostS d.1) kvs) : All2 (fun (kv : Str × Value) (b : Bool) => kv.1 = hostS b ∧ FV kv.1 kv.2) kvs ((booked es).map Prod.fst) := by
  have gen : ∀ (ks : List Str) (kvs : List (Str × Value)), Put FV ks kvs → ∀ es : List (Bool × Int), ks = es.map (fun d => hostS d.1) → All2 (fun (kv : Str × Value) (b : Bool) => kv.1 = hostS b ∧ FV kv.1 kv.2) kvs ((booked es).map Prod.fst) := by
    intro ks kvs h
    induction h with
    | nil =>
      intro es e
      have : es = [] := by simpa using e.symm
      subst this
      exact .nil
    | @snoc ks kvs k y _ hy ih =>
      intro es e
      rcases List.eq_nil_or_concat es with rfl | ⟨es', d, rfl⟩
      · simp at e
      rw [List.concat_eq_append, List.map_append, List.map_singleton] at e
      have e1 := List.append_inj' e rfl
      obtain ⟨e1, e2⟩ := e1
      have e3 : k = hostS d.1 := by simpa using e2
      have r := ih es' e1
      rw [List.concat_eq_append, booked_snoc, addP_keys]
      subst e3
      have key : ∀ (kvs : List (Str × Value)) (bs : List Bool), All2 (fun (kv : Str × Value) (b : Bool) => kv.1 = hostS b ∧ FV kv.1 kv.2) kvs bs → (kvs.any (fun kv => decide (kv.1 = hostS d.1)) = decide (d.1 ∈ bs)) ∧ All2 (fun (kv : Str × Value) (b : Bool) => kv.1 = hostS b ∧ FV kv.1 kv.2) (kvs.map fun kv => if kv.1 = hostS d.1 then (kv.1, y) else kv) bs := by
        intro kvs bs r
        induction r with
        | nil => exact ⟨by simp, .nil⟩
        | @cons kv b as bs r _ ih =>
          refine ⟨?_, .cons ?_ ih.2⟩
          · rw [List.any_cons, ih.1, r.1]
            by_cases q : b = d.1
            · simp [q]
            · have q1 : ¬ hostS b = hostS d.1 := fun z => q (hostS_inj z)
              have q2 : ¬ d.1 = b := fun z => q z.symm
              simp [q1, q2]
          · by_cases q : kv.1 = hostS d.1
            · simp only [if_pos q]; exact ⟨r.1, by rw [q]; exact hy⟩
            · simp only [if_neg q]; exact r
      have kk := key kvs _ r
      unfold stored
      by_cases q : d.1 ∈ (booked es').map Prod.fst
      · rw [if_pos q, if_pos (by rw [kk.1]; exact decide_eq_true q)]
        exact kk.2
      · rw [if_neg q, if_neg (by rw [kk.1]; simpa using q)]
        exact r.snoc ⟨rfl, hy⟩
  exact gen _ _ h es rfl
/-- a dict of servers and numbers -/
structure TotR (w : World) (a : Addr) (o : Obj) (P : List (Bool × Int)) : Prop where
  lo : (a == sysModules) = false
  is : ∃ kvs, Obj.IsDictOf (bookK w) o kvs ∧ All2 (fun (kv : Str × Value) (e : Bool × Int) => kv.1 = hostS e.1 ∧ ∃ t, kv.2 = .int e.2 t) kvs P
theorem BkR.tot {w : World} {a : Addr} {o : Obj} {P : List (Bool × Int)} (h : BkR w a o P) : TotR w a o P := by
  obtain ⟨kvs, h, r⟩ := h
  exact ⟨h.lo, kvs, h.is, r⟩
theorem put_tot {ds : List (Bool × Int)} {kvs : List (Str × Value)} (h : Put (fun k y => ∃ t, y = .int (sumOf k ds) t) (ds.map fun d => hostS d.1) kvs) : All2 (fun (kv : Str × Value) (e : Bool × Int) => kv.1 = hostS e.1 ∧ ∃ t, kv.2 = .int e.2 t) kvs (booked ds) := by
  have k := put_keys h
  have hv : ∀ e ∈ booked ds, e.2 = sumOf (hostS e.1) ds := fun e he => by
    rw [sumOf_val, ← valP_booked, valP_mem (booked_nodup ds) he]
  revert k hv
  generalize booked ds = P
  intro k hv
  clear h
  induction P generalizing kvs with
  | nil => cases k; exact .nil
  | cons e r ih =>
    cases k with
    | cons r1 r2 =>
      refine .cons ⟨r1.1, ?_⟩ (ih r2 fun e he => hv e (.tail _ he))
      obtain ⟨t, ht⟩ := r1.2
      exact ⟨t, by rw [ht, r1.1, ← hv e (.head _)]⟩
end Mine
end
section
open PySem PySem.W PyProof.Rows PySem.Calls PyProof.Rows.LCg PySem.SeqAt
open AutoSeq1 (wpAny_loadPart')
set_option Elab.async false
set_option maxRecDepth 100000
namespace Mine
/-- two tuples whose items are all equal, each shown in this one run -/
theorem tuple_same {prog : Program} {w : World} (l b : Addr) (items items2 : Array Value) (n n2 : Nat) (dd dd2 : Option Addr) (sl sl2 : Array (Option Value)) (hsz : items.size = items2.size) :
    MeetsIn prog w (Builtin.«tuple.__ne__» ⟨[.ref l, .ref b], []⟩)
      (fun A R s => s.heap.get? l = some { cls := .type "tuple", dict := dd, data := .seq items n, slots := sl } ∧ s.heap.get? b = some { cls := .type "tuple", dict := dd2, data := .seq items2 n2, slots := sl2 } ∧
        (∀ j (h1 : j < items.size) (h2 : j < items2.size) (E' : Value → Shared → Prop) (Q' : Bool → Shared → Prop), Q' true s → wpAny (model prog w) A.in1 (eqBool items[j] items2[j]) Q' E' s) ∧
        R (.ok (.ret (.bool false))) s) :=
  .of_wp fun A R s h => by
    obtain ⟨hp, g, d, tk, os⟩ := s; obtain ⟨hl, hb, he, h⟩ := h
    have f2 := AutoSeq1.sub_tuple_tuple
    have hZ : (items.toList.zip items2.toList).length = items.size := by simp [hsz]
    wp_walk using wpAny_loadPart' hl, wpAny_loadPart' hb, wpAny_forIn_list _ (fun rest b s' => b.1 = none ∧ s' = ⟨hp, g, d, tk, os⟩ ∧ ∃ i, rest = (items.toList.zip items2.toList).drop i) _
    case turn =>
      rintro ⟨y, x⟩ rest b s' ⟨hb', rfl, i, hz⟩
      have hlt : i < (items.toList.zip items2.toList).length := by
        refine Nat.lt_of_not_le fun h' => ?_
        rw [List.drop_of_length_le h'] at hz; cases hz
      have h1 : i < items.size := hZ ▸ hlt
      have h2 : i < items2.size := hsz ▸ h1
      rw [List.drop_eq_getElem_cons hlt] at hz
      injection hz with hyx hrest
      have hy : y = items[i] := by have := congrArg Prod.fst hyx; simpa using this
      have hx : x = items2[i] := by have := congrArg Prod.snd hyx; simpa using this
      subst hy hx
      refine wpAny_bind (he i h1 h2 _ _ ?_)
      wp_walk
      exact ⟨rfl, rfl, i + 1, hrest⟩
    case fin =>
      rintro ⟨b1, b2⟩ s' ⟨hb', rfl, i, hz⟩
      simp only at hb'
      subst hb'
      wp_walk
      exact ⟨_, rfl, by simpa [Builtin.Tuple.tupleCompareSizes, bne, hsz] using h⟩
    case h =>
      exact ⟨rfl, rfl, 0, rfl⟩
theorem value_at {kb : List (Str × Value)} {P : List (Bool × Int)} (h : All2 (fun (kv : Str × Value) (e : Bool × Int) => kv.1 = hostS e.1 ∧ ∃ t, kv.2 = .int e.2 t) kb P) (hn : (P.map Prod.fst).Nodup) {e : Bool × Int} (he : e ∈ P) : ∃ t, valueAt kb (hostS e.1) = some (.int e.2 t) := by
  induction h with
  | nil => cases he
  | @cons kv e' as bs r _ ih =>
    have hn' := List.nodup_cons.mp hn
    rcases List.mem_cons.mp he with rfl | he
    · obtain ⟨t, ht⟩ := r.2
      exact ⟨t, by unfold valueAt; rw [List.find?_cons_of_pos (by simpa using r.1)]; simp [ht]⟩
    · obtain ⟨t, ht⟩ := ih hn'.2 he
      have hne : ¬ kv.1 = hostS e.1 := fun q => hn'.1 (by rw [hostS_inj (r.1.symm.trans q)]; exact List.mem_map_of_mem he)
      exact ⟨t, by unfold valueAt at ht ⊢; rw [List.find?_cons_of_neg (by simpa using hne)]; exact ht⟩
theorem all_hits {A : Around} {s : Shared} {kb : List (Str × Value)} {P : List (Bool × Int)} (h : All2 (fun (kv : Str × Value) (e : Bool × Int) => kv.1 = hostS e.1 ∧ ∃ t, kv.2 = .int e.2 t) kb P) (hn : (P.map Prod.fst).Nodup) :
    ∀ (ka : List (Str × Value)) (P' : List (Bool × Int)), All2 (fun (kv : Str × Value) (e : Bool × Int) => kv.1 = hostS e.1 ∧ ∃ t, kv.2 = .int e.2 t) ka P' → (∀ e ∈ P', e ∈ P) → KeqHits A s kb ka true := by
  intro ka P' ha
  induction ha with
  | nil => intro _; exact .nil
  | @cons kv e as bs r _ ih =>
    intro hs
    obtain ⟨k, v⟩ := kv
    obtain ⟨e1, t, e2⟩ := r
    dsimp only at e1 e2
    subst e1 e2
    obtain ⟨t', ht⟩ := value_at h hn (hs e (.head _))
    have q := EqAt.int_int (A := A) (s := s) e.2 t e.2 t'
    rw [beq_self_eq_true] at q
    exact .hit ht q (ih fun x hx => hs x (.tail _ hx))
section
variable {w : World} {A : Around} {E : Value → Shared → Prop} {s : Shared} {h₀ : Heap} {L a b x y : Addr} {ox oy : Obj} {P : List (Bool × Int)} {news : List (Addr × Obj)}
theorem dict_same {Q : Bool → Shared → Prop} (N : News h₀ L s.heap news) (hx : (x, ox) ∈ news) (hy : (y, oy) ∈ news) (tx : TotR w x ox P) (ty : TotR w y oy P) (hn : (P.map Prod.fst).Nodup) (hu : A.units < cLine) (hq : Q true s) :
    wpAny (model PySem.Challenge.rw_xg0026_01.row.prog w) A (eqBool (.ref x) (.ref y)) Q E s := by
  obtain ⟨ka, da, ra⟩ := tx.is
  obtain ⟨kb, db, rb⟩ := ty.is
  unfold eqBool
  refine wpAny_holding ?_
  refine wpAny_ite_split (fun _ => wpAny_bind (wpAny_rule (wpAny_pure hq))) (fun _ => ?_)
  refine wpAny_bind ?_
  show wpAny _ _ (compareOp .Eq _ _) _ _ _
  refine keq_eq (r := true) (knd := bookK w) tx.lo ty.lo (Heap.dictOf_iff.mpr ⟨ox, (N _ hx).1, da⟩) (Heap.dictOf_iff.mpr ⟨oy, (N _ hy).1, db⟩) hu (fun _ => all_hits rb hn ka P ra fun _ h => h) ?_
  rw [ra.length, rb.length, beq_self_eq_true]
  exact wpAny_truthy_bool hq
theorem ne_book {Q : Value → Shared → Prop} {i1 i2 i3 i4 : Int} {t1 t2 t3 t4 u1 u2 u3 u4 : Tok} {k k' : Nat} (N : News h₀ L s.heap news) (ha : (a, ({ cls := .type "tuple", data := .seq #[.int i1 t1, .int i2 t2, .int i3 t3, .int i4 t4, .ref x] k } : Obj)) ∈ news)
    (hb : (b, ({ cls := .type "tuple", data := .seq #[.int i1 u1, .int i2 u2, .int i3 u3, .int i4 u4, .ref y] k' } : Obj)) ∈ news) (hx : (x, ox) ∈ news) (hy : (y, oy) ∈ news) (tx : TotR w x ox P) (ty : TotR w y oy P) (hn : (P.map Prod.fst).Nodup) (hu : A.units + 1 < cLine) (h : Q (.bool false) s) :
    wpAny (model PySem.Challenge.rw_xg0026_01.row.prog w) A (compareOp .NotEq (.ref a) (.ref b)) Q E s := by
  have e1 := (N _ ha).1
  have e2 := (N _ hb).1
  have hi : ∀ (i : Int) (t u : Tok), EqAt A.in1 s (.int i t) (.int i u) true := fun i t u => by
    have q := EqAt.int_int (A := A.in1) (s := s) i t i u
    rwa [beq_self_eq_true] at q
  refine wpAny_richCompare_same_room (op := .NotEq) ⟨_, e1, rfl⟩ ⟨_, e2, rfl⟩ F.slot_tuple_ne (call_meetsIn F.slot_tuple_ne ⟨_, e1, rfl⟩ F.entry_tuple_ne (F.args_tuple_ne_2 _ _) (tuple_same a b _ _ k k' none none #[] #[] (by rfl)) ⟨e1, e2, fun j h1 h2 E' Q' hq => ?_, ?_⟩) (by omega)
  · have hj : j < 5 := h1
    have : j = 0 ∨ j = 1 ∨ j = 2 ∨ j = 3 ∨ j = 4 := by omega
    rcases this with rfl | rfl | rfl | rfl | rfl
    · exact hi _ _ _ _ _ _ _ hq
    · exact hi _ _ _ _ _ _ _ hq
    · exact hi _ _ _ _ _ _ _ hq
    · exact hi _ _ _ _ _ _ _ hq
    · exact dict_same N hx hy tx ty hn hu hq
  · exact ⟨(fun q => nomatch q), h⟩
end
end Mine
end
section
open PySem PySem.W PyProof.Rows PySem.Calls PyProof.Rows.LCg
set_option Elab.async false
set_option maxRecDepth 100000
namespace Mine
section
variable {w : World} {A : Around} {E : Value → Shared → Prop} {s : Shared} {env : Env} {h₀ : Heap} {target : Expr} {body : List Stmt} {Q : Flow → Shared → Prop}
/-- a for over a dict's keys, by what holds between its turns -/
theorem for_keys {dk : Addr} {od : Obj} {kvs : List (Str × Value)} {m₀ : Str → Option Value} {news : List (Addr × Obj)} (J : Nat → (Str → Option Value) → List (Addr × Obj) → Prop)
    (hh : A.handled = none) (F : Fr h₀ env.locals s.heap m₀) (N : News h₀ env.locals s.heap news) (hm : (dk, od) ∈ news) (hd : Obj.IsDictOf (bookK w) od kvs) (lo : (dk == sysModules) = false) (hj : J 0 m₀ news)
    (turn : ∀ I, (∀ p ∈ news, p.1 < I) → ∀ i k y t m nx o h tk, kvs[i]? = some (k, y) → J i m nx → o.cls = .type "dict_keyiterator" → Fr h₀ env.locals h m → News h₀ env.locals h ((I, o) :: nx) →
      wpAny (model PySem.Challenge.rw_xg0026_01.row.prog w) A (assign target env (.str k t)) (fun _ s₂ => wpAny (model PySem.Challenge.rw_xg0026_01.row.prog w) A (execs body env) (TurnEnd h₀ env.locals { s with heap := h, toks := tk } [(I, o)] (fun m' n' => (dk, od) ∈ n' ∧ J (i + 1) m' n') Q) E s₂) E { s with heap := h, toks := tk })
    (done : ∀ m nx h tk, J kvs.length m nx → Fr h₀ env.locals h m → News h₀ env.locals h nx → Q .next { s with heap := h, toks := tk }) :
    wpAny (model PySem.Challenge.rw_xg0026_01.row.prog w) A (pyIter (.ref dk)) (fun it s₂ => TurnsAt PySem.Challenge.rw_xg0026_01.row.prog w A h₀ env target body Q E it s₂) E s := by
  refine kta_keys (knd := PySem.strKind _ _) (enc := PyData.str) (xs := kvs.map fun p => Itm.tok (kyVal (PyData.str p.1))) hh F N hm hd lo (fun _ _ h => Value.isStrOf_shape h) rfl fun I hI => ?_
  have := items_inv (prog := PySem.Challenge.rw_xg0026_01.row.prog) (w := w) (A := A) (E := E) (s := s) (env := env) (h₀ := h₀) (target := target) (body := body) (Q := Q) (I := I) (c := "dict_keyiterator") (p := (dk, od)) (xs := kvs.map fun p => Itm.tok (kyVal (PyData.str p.1))) J
    (fun i a v m nx o h tk ha hv hj ho F N => by
      rw [List.getElem?_map] at ha
      obtain ⟨⟨k, y⟩, hu, rfl⟩ := Option.map_eq_some_iff.mp ha
      obtain ⟨t, e⟩ : ∃ t, v = kyVal (PyData.str k) t := hv
      have e' : v = .str k t := e
      subst e'
      exact turn I hI i k y t m nx o h tk hu hj ho F N)
    (fun m nx h tk hj F N => done m nx h tk (by rwa [List.length_map] at hj) F N) (kvs.map fun p => Itm.tok (kyVal (PyData.str p.1))).length 0 m₀ news (by simp) hj
  simpa using this
end
theorem valP_bounds {ds : List (Bool × Int)} (h : ∀ d ∈ ds, 0 ≤ d.2 ∧ d.2 < 768) (b : Bool) : 0 ≤ valP ds b ∧ valP ds b ≤ 768 * (ds.length : Int) := by
  induction ds with
  | nil => simp [valP]
  | cons d r ih =>
    have h1 := h d (.head _)
    have h2 := ih fun x hx => h x (.tail _ hx)
    rw [valP_cons, List.length_cons]
    split <;> omega
theorem totC_bounds {ds : List (Bool × Int)} (h : ∀ d ∈ ds, 0 ≤ d.2 ∧ d.2 < 768) : 0 ≤ totC ds ∧ totC ds ≤ 768 * (ds.length : Int) := by
  unfold totC
  induction ds with
  | nil => simp
  | cons d r ih =>
    have h1 := h d (.head _)
    have h2 := ih fun x hx => h x (.tail _ hx)
    rw [List.map_cons, List.sum_cons, List.length_cons]
    omega
theorem sumP_addP (P : List (Bool × Int)) (e : Bool × Int) : sumP (addP P e) = sumP P + e.2 := by
  obtain ⟨c, p⟩ := e
  unfold sumP
  induction P with
  | nil => simp [addP]
  | cons a r ih =>
    obtain ⟨d, q⟩ := a
    by_cases h : d = c
    · rw [addP, if_pos h, List.map_cons, List.map_cons, List.sum_cons, List.sum_cons]; dsimp only; omega
    · rw [addP, if_neg h, List.map_cons, List.map_cons, List.sum_cons, List.sum_cons, ih]; omega
theorem sumP_booked (ds : List (Bool × Int)) : sumP (booked ds) = totC ds := by
  have : ∀ (l P : List (Bool × Int)), sumP (l.foldl addP P) = sumP P + totC l := by
    intro l
    induction l with
    | nil => intro P; simp [totC]
    | cons e r ih =>
      intro P
      rw [List.foldl_cons, ih, sumP_addP]
      unfold totC
      rw [List.map_cons, List.sum_cons]; omega
  have h := this ds []
  unfold booked
  rw [h]; simp [sumP]
theorem part_sum {P : List (Bool × Int)} (h : ∀ e ∈ P, 0 ≤ e.2) : ∀ i, 0 ≤ sumP (P.take i) ∧ sumP (P.take i) ≤ sumP P := by
  unfold sumP
  induction P with
  | nil => intro i; simp
  | cons e r ih =>
    intro i
    have h1 := h e (.head _)
    have h2 := ih fun x hx => h x (.tail _ hx)
    cases i with
    | zero =>
      have := h2 0
      simp at this ⊢
      omega
    | succ i =>
      have := h2 i
      simp only [List.take_succ_cons, List.map_cons, List.sum_cons]
      omega
theorem sumP_take {P : List (Bool × Int)} {i : Nat} {e : Bool × Int} (h : P[i]? = some e) : sumP (P.take (i + 1)) = sumP (P.take i) + e.2 := by
  unfold sumP
  rw [take_more h, List.map_append, List.sum_append]; simp
theorem valP_append (P R : List (Bool × Int)) (b : Bool) : valP (P ++ R) b = valP P b + valP R b := by
  unfold valP
  rw [List.filter_append, List.map_append, List.sum_append]
theorem valP_take {ds : List (Bool × Int)} {i : Nat} {d : Bool × Int} (h : ds[i]? = some d) (b : Bool) : valP (ds.take (i + 1)) b = valP (ds.take i) b + if d.1 = b then d.2 else 0 := by
  rw [take_more h, valP_append, valP_cons]; simp [valP]
theorem booked_nonneg {ds : List (Bool × Int)} (h : ∀ d ∈ ds, 0 ≤ d.2 ∧ d.2 < 768) : ∀ e ∈ booked ds, 0 ≤ e.2 ∧ e.2 ≤ 768 * (ds.length : Int) := fun e he => by
  rw [← valP_mem (booked_nodup ds) he, valP_booked]
  exact valP_bounds h _
end Mine
end
section
open PySem PySem.W PyProof.Rows PySem.Calls PyProof.Rows.LCg
set_option Elab.async false
set_option maxRecDepth 100000
namespace Mine
theorem news_a {h₀ h : Heap} {L : Addr} {x y z w i hd c2 c1 cs : Addr × Obj} {tl nw : List (Addr × Obj)} (N : News h₀ L h (x :: y :: z :: w :: i :: hd :: c2 :: c1 :: cs :: (tl ++ nw))) : News h₀ L h (i :: hd :: c2 :: c1 :: cs :: ((y :: tl) ++ nw)) := by
  iterate 5 (refine fa (N _ (by (repeat (first | exact List.Mem.head _ | apply List.Mem.tail)))) ?_)
  refine fa (N _ (.tail _ (.head _))) fun p hp => N p ?_
  (repeat (first | assumption | apply List.Mem.tail))
theorem PairIn.up {nx nx' : List (Addr × Obj)} {v : Value} {d : Bool × Int} (h : PairIn nx v d) (k : ∀ p ∈ nx, p ∈ nx') : PairIn nx' v d := h.mono k
section
variable {w : World} {loose : List Str} {mean : ExcName → Option Value} {mg mb : Str → Option Value} {dp un : Nat} {gd : Option (List Code)} {a : Addr} {ccd : Value} {A₀ : Around} {base h₀ : Heap} {L : Addr} {m : Str → Option Value} {s : Shared} {Q : Flow → Shared → Prop} {E : Value → Shared → Prop}



theorem wds_PhA_1 : True := by
  k_with_none
  k_with "execs cons" => (k_here; (refine gen_toks (by ((fail_if_success assumption); (fail_if_success exact PT.pos _); (first | exact Nat.succ_pos _ | (dsimp only; first | exact Nat.succ_pos _ | omega)))) ?_); (try dsimp only); (intro tkzz))
  k_with "execs nil" => (k_here; (refine gen_toks (by ((fail_if_success assumption); (fail_if_success exact PT.pos _); (first | exact Nat.succ_pos _ | (dsimp only; first | exact Nat.succ_pos _ | omega)))) ?_); (try dsimp only); (intro tkzz))
  k_with "exec For Name Call cons nil" => (k_here; k_dflt (refine For_turns (by k_asm) ?_))
  k_with "exec For Name Name cons nil" => (k_here; k_dflt (refine For_turns (by k_asm) ?_))
  k_with "exec For Tuple Name cons nil" => (k_here; k_dflt (refine For_turns (by k_asm) ?_))
  k_with "exec For Tuple Call cons nil" => (k_here; k_dflt (refine For_turns (by k_asm) ?_))
  k_with "exec For Name Subscript cons nil" => (k_here; k_dflt (refine For_turns (by k_asm) ?_))
  k_with "exec For Tuple Attribute cons nil" => (k_here; k_dflt (refine For_turns (by k_asm) ?_))
  k_with "pyIter ref" => ((with_reducible show wpAny _ _ (pyIter (Value.ref _)) (fun it s₂ => TurnsAt _ _ _ _ _ _ _ _ _ it s₂) _ _); (refine Held.of ?_))
  k_with "call ref" => (k_here; (with_reducible show wpAny _ _ (call (Value.ref 140) _ _) _ _ _); k_dflt (refine ClZ.use (t_reply _ _ _ _ _ _ ?rk ?rf) (by k_asm) (by k_asm) (by k_asm) (by k_asm) (by k_asm) (by first | exact rfl | assumption) (by (first | exact rm2 (by assumption) rfl | exact rm1 (by assumption) rfl | exact rm0 (by assumption) | ktr_room)) (by (first | exact rm2 (by assumption) rfl | exact rm1 (by assumption) rfl | exact rm0 (by assumption) | ktr_units)) ?_); (case rk => first | assumption | omega); (case rf => first | assumption | exact fig_len (by omega)); (intro v9zz h9zz tk9zz new9zz F9zz N9zz l9zz p9zz); (obtain ⟨⟨u9zz, ea9zz⟩, eb9zz⟩ := p9zz); subst ea9zz; subst eb9zz; (try simp only [List.nil_append, List.cons_append] at N9zz); clear l9zz; (try k_sweep); (try dsimp only); (try k_fold); walk_say "CONTRACT 140")
  k_with "call ref" => (k_here; (with_reducible show wpAny _ _ (call (Value.ref 147) _ _) _ _ _); k_dflt (refine Cl0.use (t_toldK _ _ _ ?ctk _ ?ctp _ _ _) rfl (by k_asm) (by k_asm) (by k_asm) (by assumption) (by k_asm) (by k_asm) (by assumption) (by first | exact rfl | assumption) (by (first | exact rm2 (by assumption) rfl | exact rm1 (by assumption) rfl | exact rm0 (by assumption) | ktr_room)) (by (first | exact rm2 (by assumption) rfl | exact rm1 (by assumption) rfl | exact rm0 (by assumption) | ktr_units)) ?_); (case ctk => first | assumption | omega); (case ctp => first | assumption | omega); (intro v9zz h9zz tk9zz new9zz F9zz N9zz l9zz p9zz); (rcases p9zz with ⟨k9zz, a9zz, n9zz, u9zz, w9zz, ea9zz, eb9zz⟩ | ⟨k9zz, ⟨u9zz, ea9zz⟩, eb9zz⟩ | ⟨k9zz, ⟨u9zz, ea9zz⟩, eb9zz⟩) <;> subst ea9zz <;> subst eb9zz <;> (try simp only [List.nil_append, List.cons_append] at N9zz) <;> (try (replace l9zz := new_off l9zz; (try (simp only [PyProof.Rows.LCg.Off1, and_true] at l9zz)))) <;> (try k_sweep) <;> (try dsimp only) <;> (try k_fold); walk_say "CONTRACT 147")
  trivial

theorem wds_PhA_2 : True := by
  k_with_none
  k_with "execs cons" => (k_here; (refine gen_toks (by ((fail_if_success assumption); (fail_if_success exact PT.pos _); (first | exact Nat.succ_pos _ | (dsimp only; first | exact Nat.succ_pos _ | omega)))) ?_); (try dsimp only); (intro tkzz))
  k_with "execs nil" => (k_here; (refine gen_toks (by ((fail_if_success assumption); (fail_if_success exact PT.pos _); (first | exact Nat.succ_pos _ | (dsimp only; first | exact Nat.succ_pos _ | omega)))) ?_); (try dsimp only); (intro tkzz))
  k_with "exec For Name Call cons nil" => (k_here; k_dflt (refine For_turns (by k_asm) ?_))
  k_with "exec For Name Name cons nil" => (k_here; k_dflt (refine For_turns (by k_asm) ?_))
  k_with "exec For Tuple Name cons nil" => (k_here; k_dflt (refine For_turns (by k_asm) ?_))
  k_with "exec For Tuple Call cons nil" => (k_here; k_dflt (refine For_turns (by k_asm) ?_))
  k_with "exec For Name Subscript cons nil" => (k_here; k_dflt (refine For_turns (by k_asm) ?_))
  k_with "exec For Tuple Attribute cons nil" => (k_here; k_dflt (refine For_turns (by k_asm) ?_))
  k_with "pyIter ref" => ((with_reducible show wpAny _ _ (pyIter (Value.ref _)) (fun it s₂ => TurnsAt _ _ _ _ _ _ _ _ _ it s₂) _ _); (refine Held.of ?_))
  k_with "call ref" => (k_here; (with_reducible show wpAny _ _ (call (Value.ref 140) _ _) _ _ _); k_dflt (refine ClZ.use (t_reply _ _ _ _ _ _ ?rk ?rf) (by k_asm) (by k_asm) (by k_asm) (by k_asm) (by k_asm) (by first | exact rfl | assumption) (by (first | exact rm2 (by assumption) rfl | exact rm1 (by assumption) rfl | exact rm0 (by assumption) | ktr_room)) (by (first | exact rm2 (by assumption) rfl | exact rm1 (by assumption) rfl | exact rm0 (by assumption) | ktr_units)) ?_); (case rk => first | assumption | omega); (case rf => first | assumption | exact fig_len (by omega)); (intro v9zz h9zz tk9zz new9zz F9zz N9zz l9zz p9zz); (obtain ⟨⟨u9zz, ea9zz⟩, eb9zz⟩ := p9zz); subst ea9zz; subst eb9zz; (try simp only [List.nil_append, List.cons_append] at N9zz); clear l9zz; (try k_sweep); (try dsimp only); (try k_fold); walk_say "CONTRACT 140")
  k_with "call ref" => (k_here; (with_reducible show wpAny _ _ (call (Value.ref 147) _ _) _ _ _); k_dflt (refine Cl0.use (t_toldK _ _ _ ?ctk _ ?ctp _ _ _) rfl (by k_asm) (by k_asm) (by k_asm) (by assumption) (by k_asm) (by k_asm) (by assumption) (by first | exact rfl | assumption) (by (first | exact rm2 (by assumption) rfl | exact rm1 (by assumption) rfl | exact rm0 (by assumption) | ktr_room)) (by (first | exact rm2 (by assumption) rfl | exact rm1 (by assumption) rfl | exact rm0 (by assumption) | ktr_units)) ?_); (case ctk => first | assumption | omega); (case ctp => first | assumption | omega); (intro v9zz h9zz tk9zz new9zz F9zz N9zz l9zz p9zz); (rcases p9zz with ⟨k9zz, a9zz, n9zz, u9zz, w9zz, ea9zz, eb9zz⟩ | ⟨k9zz, ⟨u9zz, ea9zz⟩, eb9zz⟩ | ⟨k9zz, ⟨u9zz, ea9zz⟩, eb9zz⟩) <;> subst ea9zz <;> subst eb9zz <;> (try simp only [List.nil_append, List.cons_append] at N9zz) <;> (try (replace l9zz := new_off l9zz; (try (simp only [PyProof.Rows.LCg.Off1, and_true] at l9zz)))) <;> (try k_sweep) <;> (try dsimp only) <;> (try k_fold); walk_say "CONTRACT 147")
  k_with "call builtin:list.append" => (k_here; (with_reducible show wpAny _ _ (call (Value.builtin _) [Value.ref _, _]) _ _ _); k_dflt (refine' append_K (by k_asm) (by k_asm) (by k_upd) ?_ (by (first | (simp only [List.size_toArray]; rw [sizeLine_eq]; assumption) | size_fits | (simp only [List.size_toArray]; rw [sizeLine_eq]; omega))); k_whole); intro hqzz Fqzz Nqzz; (try simp only [List.push_toArray] at Nqzz); (try k_sweep))
  trivial


theorem wds_PhA_3 : True := by
  k_with_none
  k_with "execs cons" => (k_here; (refine gen_toks (by ((fail_if_success assumption); (fail_if_success exact PT.pos _); (first | exact Nat.succ_pos _ | (dsimp only; first | exact Nat.succ_pos _ | omega)))) ?_); (try dsimp only); (intro tkzz))
  k_with "execs nil" => (k_here; (refine gen_toks (by ((fail_if_success assumption); (fail_if_success exact PT.pos _); (first | exact Nat.succ_pos _ | (dsimp only; first | exact Nat.succ_pos _ | omega)))) ?_); (try dsimp only); (intro tkzz))
  k_with "exec For Name Call cons nil" => (k_here; k_dflt (refine For_turns (by k_asm) ?_))
  k_with "exec For Name Name cons nil" => (k_here; k_dflt (refine For_turns (by k_asm) ?_))
  k_with "exec For Tuple Name cons nil" => (k_here; k_dflt (refine For_turns (by k_asm) ?_))
  k_with "exec For Tuple Call cons nil" => (k_here; k_dflt (refine For_turns (by k_asm) ?_))
  k_with "exec For Name Subscript cons nil" => (k_here; k_dflt (refine For_turns (by k_asm) ?_))
  k_with "exec For Tuple Attribute cons nil" => (k_here; k_dflt (refine For_turns (by k_asm) ?_))
  k_with "pyIter ref" => ((with_reducible show wpAny _ _ (pyIter (Value.ref _)) (fun it s₂ => TurnsAt _ _ _ _ _ _ _ _ _ it s₂) _ _); (refine Held.of ?_))
  k_with "call ref" => (k_here; (with_reducible show wpAny _ _ (call (Value.ref 140) _ _) _ _ _); k_dflt (refine ClZ.use (t_reply _ _ _ _ _ _ ?rk ?rf) (by k_asm) (by k_asm) (by k_asm) (by k_asm) (by k_asm) (by first | exact rfl | assumption) (by (first | exact rm2 (by assumption) rfl | exact rm1 (by assumption) rfl | exact rm0 (by assumption) | ktr_room)) (by (first | exact rm2 (by assumption) rfl | exact rm1 (by assumption) rfl | exact rm0 (by assumption) | ktr_units)) ?_); (case rk => first | assumption | omega); (case rf => first | assumption | exact fig_len (by omega)); (intro v9zz h9zz tk9zz new9zz F9zz N9zz l9zz p9zz); (obtain ⟨⟨u9zz, ea9zz⟩, eb9zz⟩ := p9zz); subst ea9zz; subst eb9zz; (try simp only [List.nil_append, List.cons_append] at N9zz); clear l9zz; (try k_sweep); (try dsimp only); (try k_fold); walk_say "CONTRACT 140")
  k_with "call ref" => (k_here; (with_reducible show wpAny _ _ (call (Value.ref 147) _ _) _ _ _); k_dflt (refine Cl0.use (t_toldK _ _ _ ?ctk _ ?ctp _ _ _) rfl (by k_asm) (by k_asm) (by k_asm) (by assumption) (by k_asm) (by k_asm) (by assumption) (by first | exact rfl | assumption) (by (first | exact rm2 (by assumption) rfl | exact rm1 (by assumption) rfl | exact rm0 (by assumption) | ktr_room)) (by (first | exact rm2 (by assumption) rfl | exact rm1 (by assumption) rfl | exact rm0 (by assumption) | ktr_units)) ?_); (case ctk => first | assumption | omega); (case ctp => first | assumption | omega); (intro v9zz h9zz tk9zz new9zz F9zz N9zz l9zz p9zz); (rcases p9zz with ⟨k9zz, a9zz, n9zz, u9zz, w9zz, ea9zz, eb9zz⟩ | ⟨k9zz, ⟨u9zz, ea9zz⟩, eb9zz⟩ | ⟨k9zz, ⟨u9zz, ea9zz⟩, eb9zz⟩) <;> subst ea9zz <;> subst eb9zz <;> (try simp only [List.nil_append, List.cons_append] at N9zz) <;> (try (replace l9zz := new_off l9zz; (try (simp only [PyProof.Rows.LCg.Off1, and_true] at l9zz)))) <;> (try k_sweep) <;> (try dsimp only) <;> (try k_fold); walk_say "CONTRACT 147")
  k_with "call builtin:list.append" => (k_here; (with_reducible show wpAny _ _ (call (Value.builtin _) [Value.ref _, _]) _ _ _); k_dflt (refine' append_K (by k_asm) (by k_asm) (by k_upd) ?_ (by (first | (simp only [List.size_toArray]; rw [sizeLine_eq]; assumption) | size_fits | (simp only [List.size_toArray]; rw [sizeLine_eq]; omega))); k_whole); intro hqzz Fqzz Nqzz; (try simp only [List.push_toArray] at Nqzz); (try k_sweep))
  k_with "compareOp NotEq ref ref" => (k_here; k_dflt (refine ne_pair (by k_asm) (.tail _ (.tail _ (.head _))) (.head _) (by units_room) ?_))
  k_with "call ref" => ((with_reducible show wpAny _ _ (call (Value.ref 133) _ _) _ _ _); (refine Held.of ?_))
  trivial
set_option maxHeartbeats 2000000 in
theorem phA (G : Gd w loose mean mg mb dp un A₀ base h₀) {l : Addr} {vs : List Value} {ns : List Int} (hI : IntsAre vs ns) (hn : ns.length ≤ 63) (hP : h₀.IsList l vs.toArray) (F : Fr h₀ L s.heap m) {hl : Addr} {o1 o2 : Obj} {v₀ : Option Value}
    (N : News h₀ L s.heap [(hl, listOf #[] 0), (L + 1 + 1, o2), (L + 1, o1)]) (d1 : o1.data = .cell (some (.ref hl))) (d2 : o2.data = .cell v₀) (n1 : @Ne Nat hl (L + 1)) (n2 : @Ne Nat hl (L + 1 + 1)) (hm : Loc m [(Str.ofString "script", .ref l)])
    (hE : lawOwn w dp un gd L a ccd E)
    (next : ∀ h' tk m' xs n o2 tl ds, Fr h₀ L h' m' → News h₀ L h' ((hl, listOf (List.toArray xs) n) :: (L + 1 + 1, o2) :: (L + 1, o1) :: tl) → Heard L hl o1 o2 xs ds tl → lawFrom w dp un gd L a ccd 2 Q E { s with heap := h', toks := tk }) :
    lawFrom w dp un gd L a ccd 1 Q E s := by
  unfold lawFrom lawTop lawEnv
  unfold lawOwn lawTop lawEnv at hE
  generalize hS : lawScope = S at hE ⊢
  conv at hS => lhs; whnf
  subst hS
  obtain ⟨B, X, XB, T, TB, hd, hu⟩ := G
  revert X; k_fill; intro X
  replace F := hm.fr F
  k_steps
  unfold Held
  (k_here; (with_reducible show wpAny _ _ (call (Value.ref 133) _ _) _ _ _); k_dflt (refine' ClPZ.use (t_talk _ _ _ _ _ hI hn) hP ?zb ?zf ?zx ?znn ?zt ?zk ?zhd ?zhu ?_; (case zb => k_asm); (case zf => k_asm); (case zx => k_asm); (case znn => k_asm); (case zt => k_asm); (case zk => first | exact rfl | assumption); (case zhd => ktr_room); (case zhu => ktr_units)); (intro v9 h9 tk9 new9 F9 N9 l9 p9); (obtain ⟨c9, ys9, ds9, n9, nw9, ea9, eb9, al9, dk9, le9⟩ := p9); subst ea9; subst eb9)
  clear N
  have N := News.to (nx' := (hl, listOf #[] 0) :: (L + 1 + 1, o2) :: (L + 1, o1) :: (c9, listOf ys9.toArray n9) :: ([] ++ nw9)) N9 (by intro p hp; simp only [List.mem_cons, List.mem_append, List.nil_append, List.not_mem_nil, or_false] at hp ⊢; rcases hp with h | h | h | h | h <;> simp [h])
  clear N9
  have offs : (hl ≠ c9 ∧ L + 1 + 1 ≠ c9 ∧ L + 1 ≠ c9) ∧ ∀ p ∈ nw9, p.1 ≠ hl ∧ p.1 ≠ L + 1 + 1 ∧ p.1 ≠ L + 1 := by
    refine ⟨⟨l9 _ (.head _) _ (.head _), l9 _ (.tail _ (.head _)) _ (.head _), l9 _ (.tail _ (.tail _ (.head _))) _ (.head _)⟩, fun p hp => ⟨Ne.symm (l9 _ (.head _) p (.tail _ hp)), Ne.symm (l9 _ (.tail _ (.head _)) p (.tail _ hp)), Ne.symm (l9 _ (.tail _ (.tail _ (.head _))) p (.tail _ hp))⟩⟩
  clear l9
  refine for_list (vs := ys9) (n := n9) (J := fun i m nx => Loc m [(Str.ofString "script", .ref l)] ∧ ∃ xs n o2 v₀ tl, nx = (hl, listOf (List.toArray xs) n) :: (L + 1 + 1, o2) :: (L + 1, o1) :: (c9, listOf ys9.toArray n9) :: (tl ++ nw9) ∧ o2.data = .cell v₀ ∧ All2 (PairIn tl) xs (heardOf (ds9.take i)) ∧
      (∀ p ∈ tl, p.2.cls = .type "tuple") ∧ (∀ p ∈ tl ++ nw9, p.1 ≠ hl ∧ p.1 ≠ L + 1 + 1 ∧ p.1 ≠ L + 1)) (by rfl) F9 N (fun p hp => hp) (.tail _ (.tail _ (.tail _ (.head _)))) ⟨⟨by with_unfolding_all rfl, trivial⟩, [], 0, o2, v₀, [], rfl, d2, .nil, fun _ h => (nomatch h), offs.2⟩ ?_ ?_
  · clear N F9 d2
    obtain ⟨⟨oc1, oc2, oc3⟩, offs⟩ := offs
    rintro I hI i v mm nx o h tk hv ⟨hl1, xs, n, o2, v₀, tl, rfl, d2, hx, htl, hoff⟩ ho F N
    refine turn_open ?_
    intro R9 hR9
    replace F := hl1.fr F
    obtain ⟨⟨b, p, kk⟩, hd9, a9, t9, u9, z9, n9', rfl, m9⟩ := al9.get hv
    have hdk : (0 ≤ p ∧ p < 768) ∧ 0 ≤ kk ∧ kk < 6 := by
      have := dk9 _ (List.mem_of_getElem? hd9)
      exact ⟨⟨this.1, this.2.1⟩, this.2.2.1, this.2.2.2⟩
    dsimp only at m9
    obtain ⟨pn, rfl⟩ : ∃ pn : Nat, p = (pn : Int) := ⟨p.toNat, by omega⟩
    have ha9 := hoff _ (List.mem_append.mpr (.inr m9))
    have N := dup N (.tail _ (.tail _ (.tail _ (.tail _ (.tail _ (List.mem_append.mpr (.inr m9)))))))
    obtain ⟨hp9, hk9⟩ := hdk
    obtain ⟨ha1, ha2, ha3⟩ := ha9
    have ha1 : @Ne Nat a9 hl := ha1
    have ha2 : @Ne Nat a9 (L + 1 + 1) := ha2
    have ha3 : @Ne Nat a9 (L + 1) := ha3
    have oc1 : @Ne Nat hl c9 := oc1
    have oc2 : @Ne Nat (L + 1 + 1) c9 := oc2
    have oc3 : @Ne Nat (L + 1) c9 := oc3
    have hIl : @LT.lt Nat _ hl I := hI (hl, _) (.head _)
    have hIc : @LT.lt Nat _ (L + 1 + 1) I := hI _ (.tail _ (.head _))
    have hId : @LT.lt Nat _ (L + 1) I := hI _ (.tail _ (.tail _ (.head _)))
    have hIa : @LT.lt Nat _ a9 I := hI (a9, _) (.tail _ (.tail _ (.tail _ (.tail _ (List.mem_append.mpr (.inr m9))))))
    have hoff1 : ∀ p ∈ tl ++ nw9, p.1 ≠ hl := fun p hp => (hoff p hp).1
    have hoff2 : ∀ p ∈ tl ++ nw9, p.1 ≠ L + 1 + 1 := fun p hp => (hoff p hp).2.1
    have hxl : xs.length ≤ 4 := by
      rw [hx.length]; unfold heardOf; rw [List.length_map]; refine Nat.le_trans (List.length_filter_le _ _) ?_; rw [List.length_take]; omega
    k_steps
    all_goals (try (exfalso; omega))
    all_goals (
      have offI : ∀ p ∈ tl ++ nw9, p.1 ≠ I ∨ p.2.cls ≠ o.cls := fun p hp => (List.mem_append.mp hp).elim (fun q => .inr (by rw [htl p q, ho]; decide)) fun q => .inl (Nat.ne_of_lt (hI p (.tail _ (.tail _ (.tail _ (.tail _ q))))))
      have hIcc : @LT.lt Nat _ c9 I := hI _ (.tail _ (.tail _ (.tail _ (.head _))))
      rename News h₀ L _ _ => kN)
    · rename (_ < _ ∧ _ < _ ∧ _ < _ ∧ hl < _ ∧ L + 1 + 1 < _ ∧ L + 1 < _ ∧ c9 < _ ∧ AllLt _ _) => lT
      replace kN := news_a kN
      refine hR9 _ _ ?_; refine TurnEnd.go _ (by k_asm) kN (.head _) (fun p hp => .tail _ hp) (List.forall_mem_cons.mpr ⟨.inl (Nat.ne_of_lt hIl), List.forall_mem_cons.mpr ⟨.inl (Nat.ne_of_lt hIc), List.forall_mem_cons.mpr ⟨.inl (Nat.ne_of_lt hId), List.forall_mem_cons.mpr ⟨.inl (Nat.ne_of_lt hIcc), List.forall_mem_cons.mpr ⟨.inl (Nat.ne_of_gt lT.2.2.1), offI⟩⟩⟩⟩⟩)
        ⟨.tail _ (.tail _ (.tail _ (.head _))), ⟨by with_unfolding_all rfl, trivial⟩, _, _, _, _, _, rfl, by assumption, ?_, List.forall_mem_cons.mpr ⟨rfl, htl⟩, List.forall_mem_cons.mpr ⟨⟨Nat.ne_of_gt lT.2.2.2.1, Nat.ne_of_gt lT.2.2.2.2.1, Nat.ne_of_gt lT.2.2.2.2.2.1⟩, hoff⟩⟩
      rw [heardOf_snoc hd9, if_pos (by dsimp only; assumption)]
      exact (hx.mono fun _ _ z => z.mono fun p hp => .tail _ hp).snoc ⟨_, _, _, _, rfl, .head _⟩
    all_goals (
      refine hR9 _ _ ?_; refine TurnEnd.go _ (by k_asm) kN (.tail _ (.head _)) (fun p hp => .tail _ (.tail _ hp)) (List.forall_mem_cons.mpr ⟨.inl (Nat.ne_of_lt hIl), List.forall_mem_cons.mpr ⟨.inl (Nat.ne_of_lt hIc), List.forall_mem_cons.mpr ⟨.inl (Nat.ne_of_lt hId), List.forall_mem_cons.mpr ⟨.inl (Nat.ne_of_lt hIcc), offI⟩⟩⟩⟩)
        ⟨.tail _ (.tail _ (.tail _ (.head _))), ⟨by with_unfolding_all rfl, trivial⟩, _, _, _, _, _, rfl, by assumption, ?_, htl, hoff⟩
      rw [heardOf_snoc hd9, if_neg (by dsimp only; omega), List.append_nil]
      exact hx)
  · rintro mm nx h tk ⟨hl1, xs, n, o2, v₀, tl, rfl, d2, hx, htl, hoff⟩ F N
    refine next h tk mm xs n o2 tl (heardOf ds9) F (News.to N fun p hp => ?_) ⟨?_, heardOf_ok dk9, Nat.le_trans (heardOf_len _) (Nat.le_of_eq le9), d1, ⟨_, d2⟩, n1, n2, fun p hp => hoff p (List.mem_append.mpr (.inl hp))⟩
    · simp only [List.mem_cons, List.mem_append] at hp ⊢
      rcases hp with h | h | h | h <;> simp [h]
    · rwa [List.take_of_length_le (by rw [al9.length]; exact Nat.le_refl _)] at hx
theorem wds_PhA_4 : True := by
  k_with_none
  trivial
end
end Mine
end
section
open PySem PySem.W PyProof.Rows PySem.Calls PyProof.Rows.LCg
set_option Elab.async false
set_option maxRecDepth 100000
namespace Mine
section
variable {w : World} {loose : List Str} {mean : ExcName → Option Value} {mg mb : Str → Option Value} {dp un : Nat} {gd : Option (List Code)} {a : Addr} {ccd : Value} {A₀ : Around} {base h₀ : Heap} {L : Addr} {m : Str → Option Value} {s : Shared} {Q : Flow → Shared → Prop} {E : Value → Shared → Prop}



theorem wds_PhB_1 : True := by
  k_with_none
  k_with "execs cons" => (k_here; (refine gen_toks (by ((fail_if_success assumption); (fail_if_success exact PT.pos _); (first | exact Nat.succ_pos _ | (dsimp only; first | exact Nat.succ_pos _ | omega)))) ?_); (try dsimp only); (intro tkzz))
  k_with "execs nil" => (k_here; (refine gen_toks (by ((fail_if_success assumption); (fail_if_success exact PT.pos _); (first | exact Nat.succ_pos _ | (dsimp only; first | exact Nat.succ_pos _ | omega)))) ?_); (try dsimp only); (intro tkzz))
  k_with "exec For Name Call cons nil" => (k_here; k_dflt (refine For_turns (by k_asm) ?_))
  k_with "exec For Name Name cons nil" => (k_here; k_dflt (refine For_turns (by k_asm) ?_))
  k_with "exec For Tuple Name cons nil" => (k_here; k_dflt (refine For_turns (by k_asm) ?_))
  k_with "exec For Tuple Call cons nil" => (k_here; k_dflt (refine For_turns (by k_asm) ?_))
  k_with "exec For Name Subscript cons nil" => (k_here; k_dflt (refine For_turns (by k_asm) ?_))
  k_with "exec For Tuple Attribute cons nil" => (k_here; k_dflt (refine For_turns (by k_asm) ?_))
  k_with "pyIter ref" => ((with_reducible show wpAny _ _ (pyIter (Value.ref _)) (fun it s₂ => TurnsAt _ _ _ _ _ _ _ _ _ it s₂) _ _); (refine Held.of ?_))
  k_with "call ref" => (k_here; (with_reducible show wpAny _ _ (call (Value.ref 159) _ _) _ _ _); k_dflt (refine Cl.use (t_due _ _ _ _ (by first | assumption | omega)) (by k_asm) (by k_asm) (by k_asm) (by k_asm) (by k_asm) (by first | exact rfl | assumption) (by (first | exact rm2 (by assumption) rfl | exact rm1 (by assumption) rfl | exact rm0 (by assumption) | ktr_room)) (by (first | exact rm2 (by assumption) rfl | exact rm1 (by assumption) rfl | exact rm0 (by assumption) | ktr_units)) (by (first | assumption | exact PT.pos _ | exact Nat.succ_pos _ | (dsimp only; first | assumption | exact PT.pos _ | exact Nat.succ_pos _ | omega))) ?_); (intro v9zz h9zz tk9zz new9zz q9zz F9zz N9zz l9zz p9zz); (obtain ⟨a9zz, k9zz, v9zz, ea9zz, eb9zz, f9zz⟩ := p9zz); subst ea9zz; subst eb9zz; (try simp only [List.nil_append, List.cons_append] at N9zz); (replace l9zz := new_off l9zz); (try (simp only [PyProof.Rows.LCg.Off1, and_true] at l9zz)); (try k_sweep); (try dsimp only); (try k_fold); walk_say "CONTRACT 159")
  k_with "call ref" => (k_here; (with_reducible show wpAny _ _ (call (Value.ref 154) _ _) _ _ _); k_dflt (refine Cl.use (t_row _ _ _ _ (by first | assumption | omega)) (by k_asm) (by k_asm) (by k_asm) (by k_asm) (by k_asm) (by first | exact rfl | assumption) (by (first | exact rm2 (by assumption) rfl | exact rm1 (by assumption) rfl | exact rm0 (by assumption) | ktr_room)) (by (first | exact rm2 (by assumption) rfl | exact rm1 (by assumption) rfl | exact rm0 (by assumption) | ktr_units)) (by (first | assumption | exact PT.pos _ | exact Nat.succ_pos _ | (dsimp only; first | assumption | exact PT.pos _ | exact Nat.succ_pos _ | omega))) ?_); (intro v9zz h9zz tk9zz new9zz q9zz F9zz N9zz l9zz p9zz); (obtain ⟨a9zz, k9zz, v9zz, ea9zz, eb9zz, f9zz⟩ := p9zz); subst ea9zz; subst eb9zz; (try simp only [List.nil_append, List.cons_append] at N9zz); (replace l9zz := new_off l9zz); (try (simp only [PyProof.Rows.LCg.Off1, and_true] at l9zz)); (try k_sweep); (try dsimp only); (try k_fold); walk_say "CONTRACT 154")
  trivial



theorem wds_PhB_2 : True := by
  k_with_none
  k_with "execs cons" => (k_here; (refine gen_toks (by ((fail_if_success assumption); (fail_if_success exact PT.pos _); (first | exact Nat.succ_pos _ | (dsimp only; first | exact Nat.succ_pos _ | omega)))) ?_); (try dsimp only); (intro tkzz))
  k_with "execs nil" => (k_here; (refine gen_toks (by ((fail_if_success assumption); (fail_if_success exact PT.pos _); (first | exact Nat.succ_pos _ | (dsimp only; first | exact Nat.succ_pos _ | omega)))) ?_); (try dsimp only); (intro tkzz))
  k_with "exec For Name Call cons nil" => (k_here; k_dflt (refine For_turns (by k_asm) ?_))
  k_with "exec For Name Name cons nil" => (k_here; k_dflt (refine For_turns (by k_asm) ?_))
  k_with "exec For Tuple Name cons nil" => (k_here; k_dflt (refine For_turns (by k_asm) ?_))
  k_with "exec For Tuple Call cons nil" => (k_here; k_dflt (refine For_turns (by k_asm) ?_))
  k_with "exec For Name Subscript cons nil" => (k_here; k_dflt (refine For_turns (by k_asm) ?_))
  k_with "exec For Tuple Attribute cons nil" => (k_here; k_dflt (refine For_turns (by k_asm) ?_))
  k_with "pyIter ref" => ((with_reducible show wpAny _ _ (pyIter (Value.ref _)) (fun it s₂ => TurnsAt _ _ _ _ _ _ _ _ _ it s₂) _ _); (refine Held.of ?_))
  k_with "call ref" => (k_here; (with_reducible show wpAny _ _ (call (Value.ref 159) _ _) _ _ _); k_dflt (refine Cl.use (t_due _ _ _ _ (by first | assumption | omega)) (by k_asm) (by k_asm) (by k_asm) (by k_asm) (by k_asm) (by first | exact rfl | assumption) (by (first | exact rm2 (by assumption) rfl | exact rm1 (by assumption) rfl | exact rm0 (by assumption) | ktr_room)) (by (first | exact rm2 (by assumption) rfl | exact rm1 (by assumption) rfl | exact rm0 (by assumption) | ktr_units)) (by (first | assumption | exact PT.pos _ | exact Nat.succ_pos _ | (dsimp only; first | assumption | exact PT.pos _ | exact Nat.succ_pos _ | omega))) ?_); (intro v9zz h9zz tk9zz new9zz q9zz F9zz N9zz l9zz p9zz); (obtain ⟨a9zz, k9zz, v9zz, ea9zz, eb9zz, f9zz⟩ := p9zz); subst ea9zz; subst eb9zz; (try simp only [List.nil_append, List.cons_append] at N9zz); (replace l9zz := new_off l9zz); (try (simp only [PyProof.Rows.LCg.Off1, and_true] at l9zz)); (try k_sweep); (try dsimp only); (try k_fold); walk_say "CONTRACT 159")
  k_with "call ref" => (k_here; (with_reducible show wpAny _ _ (call (Value.ref 154) _ _) _ _ _); k_dflt (refine Cl.use (t_row _ _ _ _ (by first | assumption | omega)) (by k_asm) (by k_asm) (by k_asm) (by k_asm) (by k_asm) (by first | exact rfl | assumption) (by (first | exact rm2 (by assumption) rfl | exact rm1 (by assumption) rfl | exact rm0 (by assumption) | ktr_room)) (by (first | exact rm2 (by assumption) rfl | exact rm1 (by assumption) rfl | exact rm0 (by assumption) | ktr_units)) (by (first | assumption | exact PT.pos _ | exact Nat.succ_pos _ | (dsimp only; first | assumption | exact PT.pos _ | exact Nat.succ_pos _ | omega))) ?_); (intro v9zz h9zz tk9zz new9zz q9zz F9zz N9zz l9zz p9zz); (obtain ⟨a9zz, k9zz, v9zz, ea9zz, eb9zz, f9zz⟩ := p9zz); subst ea9zz; subst eb9zz; (try simp only [List.nil_append, List.cons_append] at N9zz); (replace l9zz := new_off l9zz); (try (simp only [PyProof.Rows.LCg.Off1, and_true] at l9zz)); (try k_sweep); (try dsimp only); (try k_fold); walk_say "CONTRACT 154")
  k_with "call ref" => (k_here; (with_reducible show wpAny _ _ (call (Value.ref 21) _ _) _ _ _); k_dflt (refine Cl.use (t_yiq _ _ _ _ _ _ (by (first | exact sm (by assumption) (by assumption) | exact smA (by assumption) | exact sm1 (by assumption) (by assumption) | exact sm2 (by assumption) (by assumption) (by assumption) (by assumption) | exact sm2A (by assumption) (by assumption) (by assumption) | exact sm3 (by assumption) (by assumption) (by assumption) (by assumption) | omega))) (by k_asm) (by k_asm) (by k_asm) (by k_asm) (by k_asm) (by first | exact rfl | assumption) (by (first | exact rm2 (by assumption) rfl | exact rm1 (by assumption) rfl | exact rm0 (by assumption) | ktr_room)) (by (first | exact rm2 (by assumption) rfl | exact rm1 (by assumption) rfl | exact rm0 (by assumption) | ktr_units)) (by (first | assumption | exact PT.pos _ | exact Nat.succ_pos _ | (dsimp only; first | assumption | exact PT.pos _ | exact Nat.succ_pos _ | omega))) ?_); (intro v9zz h9zz tk9zz new9zz q9zz F9zz N9zz l9zz p9zz); (obtain ⟨a9zz, k9zz, u0zz, u1zz, u2zz, ea9zz, eb9zz, n0zz, n1zz, n2zz⟩ := p9zz); subst ea9zz; subst eb9zz; (try simp only [List.nil_append, List.cons_append] at N9zz); (replace l9zz := new_off l9zz); (try (simp only [PyProof.Rows.LCg.Off1, and_true] at l9zz)); (try k_sweep); (try dsimp only); (try k_fold); walk_say "CONTRACT 21")
  k_with "binaryOp Add ref ref" => (k_here; (rename Fls _ _ => hf9zz); k_dflt (refine add_row (by k_asm) (by k_asm) (by k_mem) (by k_mem) (by rw [hf9zz.length, rowN_len (by omega), sizeLine_eq]; simp; omega) ?_); intro Dqzz hqzz Fqzz Nqzz l1zz; (try k_lt l1zz); (try k_sweep))
  k_with "eval ListComp" => (k_here; (refine Held.of ?_))
  k_with "compareOp NotEq ref ref" => (k_here; (refine Held.of ?_))
  k_with "binaryOp Mult ref int" => (k_here; k_dflt (refine' KMa.mul (by k_asm) (by k_asm) (by exact News.isList (by k_asm) (.head _)) (by omega) (by omega) (by (simp only [List.length_cons, List.length_nil]; omega)) (by exact rfl) ?_); intro Dqzz hqzz Fqzz Nqzz l1zz; (try k_lt l1zz); (try k_sweep))
  k_with "exec Assign cons ListComp" => (k_here; (refine Held.of ?_))
  k_with "subscriptTail" => (k_here; (rename Fls _ _ => hf9zz); k_dflt (refine' kms_slice_lit (by k_asm) (by k_asm) (by exact News.isList (by k_asm) (.head _)) (by kmk_part) (by kmk_part) (by exact pick_to _ 4) ?_ (by with_unfolding_all rfl) (by kmk_pure) (by rw [List.size_toArray, List.length_append, hf9zz.length, rowN_len (by omega), sizeLine_eq]; simp; omega)); intro Dqzz hqzz Fqzz Nqzz l1zz; (try k_lt l1zz); (try k_sweep))
  k_with "binaryOp Div int int" => (k_here; k_dflt (refine div256 (by omega) ?_))
  k_with "binaryOp Sub float int" => (k_here; k_dflt (refine subFI (by omega) (by omega) (by omega) ?_))
  k_with "CompSrc" => (k_here; (refine Held.of ?_))
  trivial
set_option maxHeartbeats 2000000 in
theorem phB (G : Gd w loose mean mg mb dp un A₀ base h₀) (F : Fr h₀ L s.heap m) {hl : Addr} {xs : List Value} {n : Nat} {o1 o2 : Obj} {ds : List (Bool × Int)} {tl : List (Addr × Obj)}
    (N : News h₀ L s.heap ((hl, listOf (List.toArray xs) n) :: (L + 1 + 1, o2) :: (L + 1, o1) :: tl)) (H : Heard L hl o1 o2 xs ds tl)
    (hE : lawOwn w dp un gd L a ccd E)
    (next : ∀ h' tk m' o2, Fr h₀ L h' m' → News h₀ L h' ((hl, listOf (List.toArray xs) n) :: (L + 1 + 1, o2) :: (L + 1, o1) :: tl) → Heard L hl o1 o2 xs ds tl → lawFrom w dp un gd L a ccd 3 Q E { s with heap := h', toks := tk }) :
    lawFrom w dp un gd L a ccd 2 Q E s := by
  unfold lawFrom lawTop lawEnv
  unfold lawOwn lawTop lawEnv at hE
  generalize hS : lawScope = S at hE ⊢
  conv at hS => lhs; whnf
  subst hS
  obtain ⟨B, X, XB, T, TB, hd, hu⟩ := G
  revert X; k_fill; intro X

  obtain ⟨hx, hok, hlen, c1, ⟨v₀, c2⟩, n1, n2, hoff⟩ := H
  k_steps
  unfold Held
  refine for_list (vs := xs) (n := n) (J := fun i m nx => ∃ o2 v₀, nx = (hl, listOf (List.toArray xs) n) :: (L + 1 + 1, o2) :: (L + 1, o1) :: tl ∧ o2.data = .cell v₀) (by rfl) F N (fun p hp => hp) (.head _) ⟨o2, v₀, rfl, c2⟩ ?_ ?_
  · clear N F c2
    rintro I hI i v mm nx o h tk hv ⟨o2, v₀, rfl, c2⟩ ho F N
    refine turn_open ?_
    intro R9 hR9
    obtain ⟨⟨b, p⟩, hd9, a9, t9, u9, n9', rfl, m9⟩ := hx.get hv
    have hp9 : 0 ≤ p ∧ p < 768 := hok _ (List.mem_of_getElem? hd9)
    dsimp only at m9
    have hfd : p.fdiv 256 = p / 256 := Int.fdiv_eq_ediv_of_nonneg _ (by decide)
    have ha9 := hoff _ m9
    have N := dup N (.tail _ (.tail _ (.tail _ (.tail _ m9))))
    obtain ⟨ha1, ha2, ha3⟩ := ha9
    have ha1 : @Ne Nat a9 hl := ha1
    have ha2 : @Ne Nat a9 (L + 1 + 1) := ha2
    have ha3 : @Ne Nat a9 (L + 1) := ha3
    have hIl : @LT.lt Nat _ hl I := hI (hl, _) (.head _)
    have hIc : @LT.lt Nat _ (L + 1 + 1) I := hI _ (.tail _ (.head _))
    have hId : @LT.lt Nat _ (L + 1) I := hI _ (.tail _ (.tail _ (.head _)))
    have hIa : @LT.lt Nat _ a9 I := hI (a9, _) (.tail _ (.tail _ (.tail _ m9)))
    have hoff2 : ∀ p ∈ tl, p.1 ≠ L + 1 + 1 := fun p hp => (hoff p hp).2.1
    k_steps
    unfold Held
    refine toks_pos (by (first | assumption | exact PT.pos _ | exact Nat.succ_pos _ | (dsimp only; first | assumption | exact PT.pos _ | exact Nat.succ_pos _ | omega))) ?_
    refine LCg.Assign_ListComp_U (F₀ := by k_asm) (by rfl) (by with_unfolding_all rfl) (by with_unfolding_all rfl) (by decide) (by rfl) (by decide) (by rfl) (by rfl) (by rfl) ?_
    k_steps
    unfold Held
    rename Fr _ _ _ _ => F5
    rename News _ _ _ _ => N5
    rename IsRange _ _ _ _ _ _ _ _ => R5
    refine CompSrc.range (n := 4) (by rfl) F5 N5 R5 (by decide) (by decide) (Nat.le_of_ble_eq_true rfl) fun g => ?_
    refine comp_inv (J := fun i ys nx => ∃ nw, nx = _ :: _ :: _ :: _ :: _ :: _ :: (nw ++ tl) ∧ All2 (TripIn nw) ys ((List.range i).map fun j : Nat => clamp (p - 256 * (j : Int)))) ?_ ?_ _ _ _ _ (Nat.add_zero _) ⟨[], rfl, .nil⟩
    · rintro i ys nx hi ⟨nw, rfl, h2⟩ v I2 oI C oC DD m₂ hh tk2 E' ⟨t2, rfl⟩ hN hx9 F9 N9 o3 ne
      refine post_open ?_
      intro R9 hR9
      clear N5 F5
      simp only [Int.zero_add] at hx9
      k_steps
      rename News h₀ L _ _ => kN
      rename (I2 ≠ _ ∧ C ≠ _ ∧ DD ≠ _ ∧ _) => lT
      refine hR9 _ _ ?_; refine elt_deep (by k_asm) kN (Ne.symm lT.1) (Ne.symm lT.2.1) (Ne.symm lT.2.2.1) o3 trivial ⟨_ :: nw, rfl, ?_⟩
      rw [List.range_succ, List.map_append]
      exact (h2.mono fun _ _ h => h.mono fun p hp => .tail _ hp).snoc ⟨_, _, _, _, _, rfl, by assumption, by assumption, by assumption, .head _⟩
    · rintro ys nx ⟨nw, rfl, h2⟩ DD h9 tk9 F9 N9 o9 hp8
      clear N5 F5
      dsimp only at hp8
      dsimp only
      k_steps
      unfold Held
      refine toks_pos (by (first | assumption | exact PT.pos _ | exact Nat.succ_pos _ | (dsimp only; first | assumption | exact PT.pos _ | exact Nat.succ_pos _ | omega))) ?_
      refine LCg.ListComp_U (F₀ := by k_asm) (by with_unfolding_all rfl) (by decide) (by rfl) (by decide) (by rfl) ?_
      k_steps
      unfold Held
      rename Fls _ _ => hf9
      have hzs := (hf9.append (zeros4 (t0 := tk9) (t1 := tk9 + 1) (t2 := tk9 + 1 + 1) (t3 := tk9 + 1 + 1 + 1) (by (first | assumption | exact PT.ne _ | exact Nat.ne_of_gt (by assumption) | exact Nat.succ_ne_zero _ | exact Nat.ne_of_gt (by omega))) (by (first | assumption | exact PT.ne _ | exact Nat.ne_of_gt (by assumption) | exact Nat.succ_ne_zero _ | exact Nat.ne_of_gt (by omega))) (by (first | assumption | exact PT.ne _ | exact Nat.ne_of_gt (by assumption) | exact Nat.succ_ne_zero _ | exact Nat.ne_of_gt (by omega))) (by (first | assumption | exact PT.ne _ | exact Nat.ne_of_gt (by assumption) | exact Nat.succ_ne_zero _ | exact Nat.ne_of_gt (by omega))))).take 4
      rw [row4 hp9] at hzs
      rename News h₀ L _ _ => N6
      rename Fr _ _ _ _ => F6
      replace N6 := drop23 N6
      rw [List.toList_toArray] at N6
      revert N6 hzs
      generalize List.take 4 _ = zs
      intro hzs N6
      refine CompSrc.ledger (k := 0) (its := zs.toArray) (by rfl) F6 N6 (.head _) (by rw [List.size_toArray, hzs.length, sizeLine_eq]; simp) fun g => ?_
      have hget : ∀ i : Nat, i < 4 → ∃ t, t ≠ 0 ∧ zs[i]? = some (.float (fl (clamp (p - 256 * (i : Int)))) t) := fun i hi => hzs.get (by rw [List.getElem?_map, List.getElem?_range hi]; rfl)
      have hzl : zs.toArray.size = 4 := by rw [List.size_toArray, hzs.length]; simp
      refine comp_inv (J := fun i us nx => ∃ nw2, nx = _ :: _ :: _ :: _ :: _ :: _ :: _ :: _ :: (nw2 ++ (nw ++ tl)) ∧ All2 (TripIn nw2) us ((List.range i).map fun j : Nat => clamp (p - 256 * (j : Int)))) ?_ ?_ _ _ _ _ (Nat.add_zero _) ⟨[], rfl, .nil⟩
      · rintro i us nx hi ⟨nw2, rfl, h3⟩ v I2 oI C oC D2 m₂ hh tk2 E' hv hN hx9 F9 N9 o3 ne
        refine post_open ?_
        intro R9 hR9
        clear N6 F6
        rw [hzl] at hi
        obtain ⟨t2, ht2, e2⟩ := hget i hi
        have hv' : v = .float (fl (clamp (p - 256 * (i : Int)))) t2 := by
          have : zs[i]? = some v := by simpa using hv
          rw [e2] at this; exact (Option.some.inj this).symm
        subst hv'
        clear hget
        k_steps
        rename News h₀ L _ _ => kN
        rename (I2 < _ ∧ C < _ ∧ D2 < _ ∧ _) => lT
        refine hR9 _ _ ?_; refine elt_deep8 (by k_asm) kN (Nat.ne_of_gt lT.1) (Nat.ne_of_gt lT.2.1) (Nat.ne_of_gt lT.2.2.1) o3 (.inr ⟨_, .head _, rfl, 0, rfl⟩) ⟨_ :: nw2, rfl, ?_⟩
        rw [List.range_succ, List.map_append]
        exact (h3.mono fun _ _ h => h.mono fun p hp => .tail _ hp).snoc ⟨_, _, _, _, _, rfl, ht2, ht2, ht2, .head _⟩
      · rintro us nx ⟨nw2, rfl, h3⟩ D2 h9 tk7 F9 N9 o8 hp7
        clear N6 F6
        dsimp only at hp7
        dsimp only
        k_steps
        unfold Held
        rw [hzl] at h3
        refine ne_trips (not_told (X.keeps F9.keep) (T.keeps F9.keep)) N9 (ns := (List.range 4).map fun j : Nat => clamp (p - 256 * (j : Int))) ?hn (.tail _ (.tail _ (.head _))) (.head _) (h2.mono fun _ _ z => z.mono fun p hp => .tail _ (.tail _ (.tail _ (.tail _ (.tail _ (.tail _ (.tail _ (.tail _ (.tail _ (List.mem_append.mpr (.inr (List.mem_append.mpr (.inl hp)))))))))))))
          (h3.mono fun _ _ z => z.mono fun p hp => .tail _ (.tail _ (.tail _ (.tail _ (.tail _ (.tail _ (.tail _ (.tail _ (.tail _ (List.mem_append.mpr (.inl hp))))))))))) (show un + 1 < cLine by omega) ?_
        case hn =>
          intro n hn
          obtain ⟨j, _, rfl⟩ := List.mem_map.mp hn
          exact clamp_small _
        replace N9 := drop_mid N9
        clear h2 h3 hget hzl hzs o8 o9
        k_steps
        unfold Held
        rename Fr _ _ _ _ => kF
        rename News h₀ L _ _ => kN
        refine ne_same (not_told (X.keeps kF.keep) (T.keeps kF.keep)) (rowN_small hp9.1) (News.isList kN (.head _)) (News.isList kN (.tail _ (.head _))) (by assumption) (by assumption) (show un < cLine by omega) ?_
        k_steps
        unfold Held
        rename Fr _ _ _ _ => kF2
        rename News h₀ L _ _ => kN2
        rename Fls _ (rowN (p.fdiv 256 * 256)) => fw
        rw [show rowN (p.fdiv 256 * 256) = List.replicate (p.fdiv 256).toNat 256 by rw [hfd]; exact row_whole hp9.1] at fw
        refine ne_same (p := List.replicate (p.fdiv 256).toNat 256) (not_told (X.keeps kF2.keep) (T.keeps kF2.keep)) (fun x hx => by rw [List.eq_of_mem_replicate hx]; decide) (News.isList kN2 (.tail _ (.tail _ (.head _)))) (News.isList kN2 (.head _)) fw (rep_fls1 _ (Nat.ne_of_gt (by assumption)) _) (show un < cLine by omega) ?_
        k_steps
        rename News h₀ L _ _ => kN3
        refine hR9 _ _ ?_; refine TurnEnd.go ((hl, listOf (List.toArray xs) n) :: (L + 1 + 1, _) :: (L + 1, o1) :: tl) (by k_asm) kN3 (.tail _ (.tail _ (.tail _ (.tail _ (.tail _ (.tail _ (.head _))))))) (fun p hp => .tail _ (.tail _ (.tail _ (.tail _ (.tail _ (.tail _ (.tail _ hp)))))))
          (List.forall_mem_cons.mpr ⟨.inl (Nat.ne_of_lt hIl), List.forall_mem_cons.mpr ⟨.inl (Nat.ne_of_lt hIc), List.forall_mem_cons.mpr ⟨.inl (Nat.ne_of_lt hId), fun p hp => .inl (Nat.ne_of_lt (hI p (.tail _ (.tail _ (.tail _ hp)))))⟩⟩⟩) ⟨.head _, _, _, rfl, by assumption⟩
  · rintro mm nx h tk ⟨o2, v₀, rfl, c2⟩ F N
    exact next h tk mm o2 F N ⟨hx, hok, hlen, c1, ⟨v₀, c2⟩, n1, n2, hoff⟩
theorem wds_PhB_3 : True := by
  k_with_none
  trivial
end
end Mine
end
section
open PySem PySem.W PyProof.Rows PySem.Calls PyProof.Rows.LCg
set_option Elab.async false
set_option maxRecDepth 100000
namespace Mine
section
variable {w : World} {loose : List Str} {mean : ExcName → Option Value} {mg mb : Str → Option Value} {dp un : Nat} {gd : Option (List Code)} {a : Addr} {ccd : Value} {A₀ : Around} {base h₀ : Heap} {L : Addr} {m : Str → Option Value} {s : Shared} {Q : Flow → Shared → Prop} {E : Value → Shared → Prop}





theorem wds_PhC_1 : True := by
  k_with_none
  k_with "execs cons" => (k_here; (refine gen_toks (by ((fail_if_success assumption); (fail_if_success exact PT.pos _); (first | exact Nat.succ_pos _ | (dsimp only; first | exact Nat.succ_pos _ | omega)))) ?_); (try dsimp only); (intro tkzz))
  k_with "execs nil" => (k_here; (refine gen_toks (by ((fail_if_success assumption); (fail_if_success exact PT.pos _); (first | exact Nat.succ_pos _ | (dsimp only; first | exact Nat.succ_pos _ | omega)))) ?_); (try dsimp only); (intro tkzz))
  k_with "exec For Name Call cons nil" => (k_here; k_dflt (refine For_turns (by k_asm) ?_))
  k_with "exec For Name Name cons nil" => (k_here; k_dflt (refine For_turns (by k_asm) ?_))
  k_with "exec For Tuple Name cons nil" => (k_here; k_dflt (refine For_turns (by k_asm) ?_))
  k_with "exec For Tuple Call cons nil" => (k_here; k_dflt (refine For_turns (by k_asm) ?_))
  k_with "exec For Name Subscript cons nil" => (k_here; k_dflt (refine For_turns (by k_asm) ?_))
  k_with "exec For Tuple Attribute cons nil" => (k_here; k_dflt (refine For_turns (by k_asm) ?_))
  k_with "pyIter ref" => ((with_reducible show wpAny _ _ (pyIter (Value.ref _)) (fun it s₂ => TurnsAt _ _ _ _ _ _ _ _ _ it s₂) _ _); (refine Held.of ?_))
  k_with "call ref" => (k_here; (with_reducible show wpAny _ _ (call (Value.ref 178) _ _) _ _ _); k_dflt (refine ClZ.use (t_order _ _ _ _ _ _ _ _ (by decide) (.head _) (by assumption) (by assumption) (by assumption)) (by k_asm) (by k_asm) (by k_asm) (by k_asm) (by k_asm) (by first | exact rfl | assumption) (by (first | exact rm2 (by assumption) rfl | exact rm1 (by assumption) rfl | exact rm0 (by assumption) | ktr_room)) (by (first | exact rm2 (by assumption) rfl | exact rm1 (by assumption) rfl | exact rm0 (by assumption) | ktr_units)) ?_); (intro v9zz h9zz tk9zz new9zz F9zz N9zz l9zz p9zz); (obtain ⟨ea9zz, eb9zz⟩ := p9zz); subst ea9zz; subst eb9zz; (try simp only [List.nil_append, List.cons_append] at N9zz); clear l9zz; (try k_sweep); (try dsimp only); (try k_fold); walk_say "CONTRACT 178")
  k_with "eval Dict nil nil" => (k_here; (try dsimp only); (rename Fr _ _ _ _ => kFzz); (rename News _ _ _ _ => kNzz); (refine newDict_K kFzz kNzz (Top.nolimit (by assumption)) ?_); intro dqzz hqzz oqzz Fqzz Nqzz l1zz loqzz hsqzz fsqzz hiqzz fiqzz; (clear kFzz kNzz); (try k_lt l1zz))
  k_with "eval Dict" => (k_here; (with_reducible show wpAny _ _ (eval (Expr.Dict [some _] _ _) _) _ _ _); (try dsimp only); (rename Fr _ _ _ _ => kFzz); (rename News _ _ _ _ => kNzz); (refine kdn_eval (knd := PySem.strKind _ _) kFzz kNzz (Top.nolimit (by assumption)) rfl rfl (List.cons_ne_nil _ _) (by decide) ?_); intro dqzz hqzz oqzz Fqzz Nqzz l1zz loqzz hdqzz; (clear kFzz kNzz); (try k_lt l1zz))
  k_with "call ref" => (k_here; (with_reducible show wpAny _ _ (call (Value.ref 159) _ _) _ _ _); k_dflt (refine ClZ.use (t_dueZ _ _ _ _ (by first | assumption | omega)) (by k_asm) (by k_asm) (by k_asm) (by k_asm) (by k_asm) (by first | exact rfl | assumption) (by (first | exact rm2 (by assumption) rfl | exact rm1 (by assumption) rfl | exact rm0 (by assumption) | ktr_room)) (by (first | exact rm2 (by assumption) rfl | exact rm1 (by assumption) rfl | exact rm0 (by assumption) | ktr_units)) ?_); (intro v9zz h9zz tk9zz new9zz F9zz N9zz l9zz p9zz); (obtain ⟨a9zz, k9zz, v9zz, ea9zz, eb9zz, f9zz⟩ := p9zz); subst ea9zz; subst eb9zz; (try simp only [List.nil_append, List.cons_append] at N9zz); (replace l9zz := new_off l9zz); (try (simp only [PyProof.Rows.LCg.Off1, and_true] at l9zz)); (try k_sweep); (try dsimp only); (try k_fold); walk_say "CONTRACT 159")
  trivial


theorem wds_PhC_2 : True := by
  k_with_none
  k_with "execs cons" => (k_here; (refine gen_toks (by ((fail_if_success assumption); (fail_if_success exact PT.pos _); (first | exact Nat.succ_pos _ | (dsimp only; first | exact Nat.succ_pos _ | omega)))) ?_); (try dsimp only); (intro tkzz))
  k_with "execs nil" => (k_here; (refine gen_toks (by ((fail_if_success assumption); (fail_if_success exact PT.pos _); (first | exact Nat.succ_pos _ | (dsimp only; first | exact Nat.succ_pos _ | omega)))) ?_); (try dsimp only); (intro tkzz))
  k_with "exec For Name Call cons nil" => (k_here; k_dflt (refine For_turns (by k_asm) ?_))
  k_with "exec For Name Name cons nil" => (k_here; k_dflt (refine For_turns (by k_asm) ?_))
  k_with "exec For Tuple Name cons nil" => (k_here; k_dflt (refine For_turns (by k_asm) ?_))
  k_with "exec For Tuple Call cons nil" => (k_here; k_dflt (refine For_turns (by k_asm) ?_))
  k_with "exec For Name Subscript cons nil" => (k_here; k_dflt (refine For_turns (by k_asm) ?_))
  k_with "exec For Tuple Attribute cons nil" => (k_here; k_dflt (refine For_turns (by k_asm) ?_))
  k_with "pyIter ref" => ((with_reducible show wpAny _ _ (pyIter (Value.ref _)) (fun it s₂ => TurnsAt _ _ _ _ _ _ _ _ _ it s₂) _ _); (refine Held.of ?_))
  k_with "call ref" => (k_here; (with_reducible show wpAny _ _ (call (Value.ref 178) _ _) _ _ _); k_dflt (refine ClZ.use (t_order _ _ _ _ _ _ _ _ (by decide) (.head _) (by assumption) (by assumption) (by assumption)) (by k_asm) (by k_asm) (by k_asm) (by k_asm) (by k_asm) (by first | exact rfl | assumption) (by (first | exact rm2 (by assumption) rfl | exact rm1 (by assumption) rfl | exact rm0 (by assumption) | ktr_room)) (by (first | exact rm2 (by assumption) rfl | exact rm1 (by assumption) rfl | exact rm0 (by assumption) | ktr_units)) ?_); (intro v9zz h9zz tk9zz new9zz F9zz N9zz l9zz p9zz); (obtain ⟨ea9zz, eb9zz⟩ := p9zz); subst ea9zz; subst eb9zz; (try simp only [List.nil_append, List.cons_append] at N9zz); clear l9zz; (try k_sweep); (try dsimp only); (try k_fold); walk_say "CONTRACT 178")
  k_with "eval Dict nil nil" => (k_here; (try dsimp only); (rename Fr _ _ _ _ => kFzz); (rename News _ _ _ _ => kNzz); (refine newDict_K kFzz kNzz (Top.nolimit (by assumption)) ?_); intro dqzz hqzz oqzz Fqzz Nqzz l1zz loqzz hsqzz fsqzz hiqzz fiqzz; (clear kFzz kNzz); (try k_lt l1zz))
  k_with "eval Dict" => (k_here; (with_reducible show wpAny _ _ (eval (Expr.Dict [some _] _ _) _) _ _ _); (try dsimp only); (rename Fr _ _ _ _ => kFzz); (rename News _ _ _ _ => kNzz); (refine kdn_eval (knd := PySem.strKind _ _) kFzz kNzz (Top.nolimit (by assumption)) rfl rfl (List.cons_ne_nil _ _) (by decide) ?_); intro dqzz hqzz oqzz Fqzz Nqzz l1zz loqzz hdqzz; (clear kFzz kNzz); (try k_lt l1zz))
  k_with "call ref" => (k_here; (with_reducible show wpAny _ _ (call (Value.ref 159) _ _) _ _ _); k_dflt (refine ClZ.use (t_dueZ _ _ _ _ (by first | assumption | omega)) (by k_asm) (by k_asm) (by k_asm) (by k_asm) (by k_asm) (by first | exact rfl | assumption) (by (first | exact rm2 (by assumption) rfl | exact rm1 (by assumption) rfl | exact rm0 (by assumption) | ktr_room)) (by (first | exact rm2 (by assumption) rfl | exact rm1 (by assumption) rfl | exact rm0 (by assumption) | ktr_units)) ?_); (intro v9zz h9zz tk9zz new9zz F9zz N9zz l9zz p9zz); (obtain ⟨a9zz, k9zz, v9zz, ea9zz, eb9zz, f9zz⟩ := p9zz); subst ea9zz; subst eb9zz; (try simp only [List.nil_append, List.cons_append] at N9zz); (replace l9zz := new_off l9zz); (try (simp only [PyProof.Rows.LCg.Off1, and_true] at l9zz)); (try k_sweep); (try dsimp only); (try k_fold); walk_say "CONTRACT 159")
  k_with "call builtin:len" => (k_here; (with_reducible show wpAny _ _ (call (Value.builtin "len") [Value.ref _]) _ _ _); k_dflt (refine' len_row (News.isList (by k_asm) (.head _)) (by assumption) (by omega) ?_))
  trivial
set_option maxHeartbeats 2000000 in
theorem phC (G : Gd w loose mean mg mb dp un A₀ base h₀) (F : Fr h₀ L s.heap m) {hl : Addr} {xs : List Value} {n : Nat} {o1 o2 : Obj} {ds : List (Bool × Int)} {tl : List (Addr × Obj)}
    (N : News h₀ L s.heap ((hl, listOf (List.toArray xs) n) :: (L + 1 + 1, o2) :: (L + 1, o1) :: tl)) (H : Heard L hl o1 o2 xs ds tl)
    (hE : lawOwn w dp un gd L a ccd E)
    (next : ∀ h' tk m' em d0 od0 t0 u0 v0 z0 k0 bk dk odk o2 t u v z k, Fr h₀ L h' m' → Loc m' [(Str.ofString "empty", .ref em), (Str.ofString "book", .ref bk)] →
      News h₀ L h' ((bk, stat ds.length (totB ds) (totC ds) (totD ds) t u v z k dk) :: (dk, odk) :: (em, stat 0 0 0 0 t0 u0 v0 z0 k0 d0) :: (d0, od0) :: (hl, listOf (List.toArray xs) n) :: (L + 1 + 1, o2) :: (L + 1, o1) :: tl) → Heard L hl o1 o2 xs ds tl →
      BkR w dk odk (booked ds) → BkR w d0 od0 [] → (@Ne Nat bk (L + 1 + 1) ∧ @Ne Nat dk (L + 1 + 1) ∧ @Ne Nat em (L + 1 + 1) ∧ @Ne Nat d0 (L + 1 + 1)) → lawFrom w dp un gd L a ccd 7 Q E { s with heap := h', toks := tk }) :
    lawFrom w dp un gd L a ccd 3 Q E s := by
  unfold lawFrom lawTop lawEnv
  unfold lawOwn lawTop lawEnv at hE
  generalize hS : lawScope = S at hE ⊢
  conv at hS => lhs; whnf
  subst hS
  obtain ⟨B, X, XB, T, TB, hd, hu⟩ := G
  revert X; k_fill; intro X

  have H₀ := H
  obtain ⟨hx, hok, hlen, c1, ⟨v₀, c2⟩, n1, n2, hoff⟩ := H
  have hx' : All2 (PairIn ((hl, listOf (List.toArray xs) n) :: (L + 1 + 1, o2) :: (L + 1, o1) :: tl)) xs ds := hx.mono fun _ _ z => z.mono fun p hp => .tail _ (.tail _ (.tail _ hp))
  k_steps
  unfold Held
  rename Fr _ _ _ _ => kF
  rename News h₀ L _ _ => kN
  rename Obj.IsDictOf (PySem.strKind _ _) _ _ => hd0
  rename PyProof.V.FlatPairs PyData.str _ _ => hf0
  rename ((_ == sysModules) = false) => hl0
  rename (hl < _ ∧ L + 1 + 1 < _ ∧ L + 1 < _ ∧ AllLt _ tl) => ld
  rename (_ < _ ∧ hl < _ ∧ L + 1 + 1 < _ ∧ L + 1 < _ ∧ AllLt _ tl) => le
  have hb0 := show BkR w _ _ [] from ⟨[], ⟨hl0, hd0, hf0⟩, .nil⟩
  refine names2 kN fun em d0 od0 he hd hod => ?_
  subst he hd hod
  have nd : @Ne Nat d0 (L + 1 + 1) := Nat.ne_of_gt ld.2.1
  have ne : @Ne Nat em (L + 1 + 1) := Nat.ne_of_gt le.2.2.1
  clear hx'
  replace kN := twice kN
  refine for_list (vs := xs) (n := n) (J := fun i m nx => ∃ bk dk odk o2 v₀ t u v z k, Loc m [(Str.ofString "empty", .ref em), (Str.ofString "book", .ref bk)] ∧
      nx = (bk, stat (i : Int) (totB (ds.take i)) (totC (ds.take i)) (totD (ds.take i)) t u v z k dk) :: (dk, odk) :: (em, stat 0 0 0 0 _ _ _ _ _ d0) :: (d0, od0) :: (hl, listOf (List.toArray xs) n) :: (L + 1 + 1, o2) :: (L + 1, o1) :: tl ∧ o2.data = .cell v₀ ∧ BkR w dk odk (booked (ds.take i)) ∧ @Ne Nat bk (L + 1 + 1) ∧ @Ne Nat dk (L + 1 + 1))
      (by rfl) kF kN (fun p hp => hp) (.tail _ (.tail _ (.tail _ (.tail _ (.head _))))) ⟨em, d0, od0, o2, v₀, _, _, _, _, _, ⟨by with_unfolding_all rfl, by with_unfolding_all rfl, trivial⟩, rfl, c2, hb0, ne, nd⟩ ?_ ?_
  · clear kN kF c2 hb0 nd
    rintro I hI i v mm nx o h tk hv ⟨bk, dk, odk, o2, v₀, t, u, v9, z, k, hl1, rfl, c2, hbk, nb, nd⟩ ho F N
    refine turn_open ?_
    intro R9 hR9
    replace F := hl1.fr F
    obtain ⟨⟨b, p⟩, hd9, a9, t9, u9, n9', rfl, m9⟩ := hx.get hv
    have hp9 : 0 ≤ p ∧ p < 768 := hok _ (List.mem_of_getElem? hd9)
    dsimp only at m9
    have ha9 := hoff _ m9
    have N := dup N (.tail _ (.tail _ (.tail _ (.tail _ (.tail _ (.tail _ (.tail _ (.tail _ m9))))))))
    obtain ⟨ha1, ha2, ha3⟩ := ha9
    have ha2 : @Ne Nat a9 (L + 1 + 1) := ha2
    have hIl : @LT.lt Nat _ hl I := hI (hl, _) (.tail _ (.tail _ (.tail _ (.tail _ (.head _)))))
    have hIc : @LT.lt Nat _ (L + 1 + 1) I := hI _ (.tail _ (.tail _ (.tail _ (.tail _ (.tail _ (.head _))))))
    have hId : @LT.lt Nat _ (L + 1) I := hI _ (.tail _ (.tail _ (.tail _ (.tail _ (.tail _ (.tail _ (.head _)))))))
    have hIe : @LT.lt Nat _ em I := hI _ (.head _)
    have hIf : @LT.lt Nat _ d0 I := hI _ (.tail _ (.head _))
    have hoff2 : ∀ p ∈ tl, p.1 ≠ L + 1 + 1 := fun p hp => (hoff p hp).2.1
    have ne : @Ne Nat em (L + 1 + 1) := Nat.ne_of_gt le.2.2.1
    have nd0 : @Ne Nat d0 (L + 1 + 1) := Nat.ne_of_gt ld.2.1
    k_steps
    rename Fr _ _ _ _ => kF
    rename News h₀ L _ _ => kN
    replace kN := news_st kN
    rename Obj.IsDictOf (PySem.strKind _ _) _ (strPairs _) => hd1
    rename PyProof.V.FlatPairs PyData.str (strPairs _) _ => hf1
    rename ((_ == sysModules) = false) => hl1'
    have hbs := show BkR w _ _ [(b, p)] from ⟨_, ⟨hl1', hd1, hf1⟩, .cons ⟨rfl, _, rfl⟩ .nil⟩
    refine ClZ.use (t_stats w bk _ dk _ odk _ (booked (ds.take i)) (b, p) _ _ _ _ _ _ _ _ _ _ _ _ _ _ _ _ _ _ _ (booked_nodup _) hbk hbs) B kF X kN T (by first | exact rfl | assumption) (by (first | exact rm2 (by assumption) rfl | exact rm1 (by assumption) rfl | exact rm0 (by assumption) | ktr_room)) (by (first | exact rm2 (by assumption) rfl | exact rm1 (by assumption) rfl | exact rm0 (by assumption) | ktr_units)) ?_
    intro vv h9 tk9 new9 F9 N9 l9 p9
    obtain ⟨r, x, ox, t', u', v', z', k', rfl, rfl, hbx⟩ := p9
    have nr : @Ne Nat r (L + 1 + 1) := Ne.symm (l9 (L + 1 + 1, _) (.tail _ (.tail _ (.tail _ (.tail _ (.tail _ (.tail _ (.tail _ (.tail _ (.head _))))))))) _ (.head _))
    have nx' : @Ne Nat x (L + 1 + 1) := Ne.symm (l9 (L + 1 + 1, _) (.tail _ (.tail _ (.tail _ (.tail _ (.tail _ (.tail _ (.tail _ (.tail _ (.head _))))))))) _ (.tail _ (.head _)))
    clear kN kF l9
    simp only [List.cons_append, List.nil_append] at N9
    dsimp only
    k_steps
    rename News h₀ L _ _ => kN
    have e := take_more hd9
    refine hR9 _ _ ?_; refine TurnEnd.go ((r, _) :: (x, ox) :: (em, _) :: (d0, od0) :: (hl, listOf (List.toArray xs) n) :: (L + 1 + 1, _) :: (L + 1, o1) :: tl) (by k_asm) kN (.tail _ (.tail _ (.tail _ (.tail _ (.tail _ (.tail _ (.head _)))))))
      (fun p hp => by
        rcases List.mem_cons.mp hp with h | hp
        · rw [h]; exact .head _
        rcases List.mem_cons.mp hp with h | hp
        · rw [h]; exact .tail _ (.head _)
        · exact .tail _ (.tail _ (.tail _ (.tail _ (.tail _ (.tail _ (.tail _ hp)))))))
      (List.forall_mem_cons.mpr ⟨.inr (by rw [ho]; exact (by decide : (Value.type "tuple" : Value) ≠ .type "list_iterator")), List.forall_mem_cons.mpr ⟨.inr (by rw [ho, hbx.cls]; decide), List.forall_mem_cons.mpr ⟨.inl (Nat.ne_of_lt hIe), List.forall_mem_cons.mpr ⟨.inl (Nat.ne_of_lt hIf), List.forall_mem_cons.mpr ⟨.inl (Nat.ne_of_lt hIl),
        List.forall_mem_cons.mpr ⟨.inl (Nat.ne_of_lt hIc), List.forall_mem_cons.mpr ⟨.inl (Nat.ne_of_lt hId), fun p hp => .inl (Nat.ne_of_lt (hI p (.tail _ (.tail _ (.tail _ (.tail _ (.tail _ (.tail _ (.tail _ hp)))))))))⟩⟩⟩⟩⟩⟩⟩)
      ⟨.tail _ (.tail _ (.tail _ (.tail _ (.head _)))), r, x, ox, _, _, t', u', v', z', k', ⟨by with_unfolding_all rfl, by with_unfolding_all rfl, trivial⟩, ?_, by assumption, ?_, nr, nx'⟩
    · rw [e, totB_snoc, totC_snoc, totD_snoc, show ((i + 1 : Nat) : Int) = 1 + (i : Int) by omega]; rfl
    · rw [e, booked_snoc]; exact hbx
  · rintro mm nx h tk ⟨bk, dk, odk, o2, v₀, t, u, v9, z, k, hl1, rfl, c2, hbk, nb, nd⟩ F N
    rw [List.take_of_length_le (by rw [hx.length]; exact Nat.le_refl _), hx.length] at N
    rw [List.take_of_length_le (by rw [hx.length]; exact Nat.le_refl _)] at hbk
    exact next h tk mm em d0 od0 _ _ _ _ _ bk dk odk o2 t u v9 z k F hl1 N ⟨hx, hok, hlen, c1, ⟨v₀, c2⟩, n1, n2, hoff⟩ hbk ⟨[], ⟨by assumption, by assumption, by assumption⟩, .nil⟩ ⟨nb, nd, Nat.ne_of_gt le.2.2.1, Nat.ne_of_gt ld.2.1⟩
theorem wds_PhC_3 : True := by
  k_with_none
  trivial
end
end Mine
end
section
open PySem PySem.W PyProof.Rows PySem.Calls PyProof.Rows.LCg
set_option Elab.async false
set_option maxRecDepth 100000
namespace Mine
/-- a pair's key, and its two values -/
def QRel (q : Str × Value × Value) (d : Bool × Int) : Prop := q.1 = hostS d.1 ∧ ∃ t u, q.2 = (.str (hostS d.1) t, .int d.2 u)
theorem qrel_keys {qs : List (Str × Value × Value)} {ds : List (Bool × Int)} (h : All2 QRel qs ds) : qs.map (fun x => x.1) = ds.map fun d => hostS d.1 := by
  induction h with
  | nil => rfl
  | cons r _ ih => rw [List.map_cons, List.map_cons, r.1, ih]
theorem keyed {prog : Program} {w : World} {tl : List (Addr × Obj)} {xs : List Value} {ds : List (Bool × Int)} (h : All2 (PairIn tl) xs ds) :
    ∃ qs : List (Str × Value × Value), All2 (fun v q => PrIn tl v q.2 ∧ (PySem.strKind prog w).is q.1 q.2.1 = true) xs qs ∧ All2 QRel qs ds := by
  induction h with
  | nil => exact ⟨[], .nil, .nil⟩
  | @cons v d as bs r _ ih =>
    obtain ⟨qs, h1, h2⟩ := ih
    obtain ⟨a, t, u, n, rfl, m⟩ := r
    exact ⟨(hostS d.1, .str (hostS d.1) t, .int d.2 u) :: qs, .cons ⟨⟨a, n, rfl, m⟩, strKind_is _ _ _ _⟩ h1, .cons ⟨rfl, t, u, rfl⟩ h2⟩
theorem All2.mem {α β : Type} {R : α → β → Prop} {as : List α} {bs : List β} (h : All2 R as bs) : ∀ a ∈ as, ∃ b ∈ bs, R a b := by
  induction h with
  | nil => intro a ha; cases ha
  | cons r _ ih =>
    intro a ha
    rcases List.mem_cons.mp ha with rfl | ha
    · exact ⟨_, .head _, r⟩
    · obtain ⟨b, hb, r⟩ := ih a ha; exact ⟨b, .tail _ hb, r⟩
theorem All2.map_fst {α β γ : Type} {R : α → β → Prop} {S : α → γ → Prop} {f : β → γ} {as : List α} {bs : List β} (h : All2 R as bs) (k : ∀ a b, R a b → S a (f b)) : All2 S as (bs.map f) := by
  induction h with
  | nil => exact .nil
  | cons r _ ih => exact .cons (k _ _ r) ih
/-- which pairs are a server's -/
def isKey (k : Str) (p : Value × Value) : Bool := match p.1 with
  | .str x _ => x == k
  | _ => false
theorem picked {qs : List (Str × Value × Value)} {ds : List (Bool × Int)} (h : All2 QRel qs ds) (k : Str) : IntsAre (((qs.map (·.2)).filter (isKey k)).map (·.2)) ((ds.filter fun d => hostS d.1 == k).map Prod.snd) := by
  induction h with
  | nil => exact .nil
  | @cons q d as bs r _ ih =>
    obtain ⟨e, t, u, e2⟩ := r
    have hk : isKey k q.2 = (hostS d.1 == k) := by rw [e2]; rfl
    rw [List.map_cons]
    cases hb : (hostS d.1 == k) with
    | true =>
      rw [List.filter_cons_of_pos (by rw [hk, hb]), List.filter_cons_of_pos (by simpa using hb), List.map_cons, List.map_cons, e2]
      exact .cons _ _ ih
    | false =>
      rw [List.filter_cons_of_neg (by rw [hk, hb]; decide), List.filter_cons_of_neg (by simpa using hb)]
      exact ih
section
variable {w : World} {loose : List Str} {mean : ExcName → Option Value} {mg mb : Str → Option Value} {dp un : Nat} {gd : Option (List Code)} {a : Addr} {ccd : Value} {A₀ : Around} {base h₀ : Heap} {L : Addr} {m : Str → Option Value} {s : Shared} {Q : Flow → Shared → Prop} {E : Value → Shared → Prop}

theorem wds_PhE_1 : True := by
  k_with_none
  k_with "execs cons" => (k_here; (refine gen_toks (by ((fail_if_success assumption); (fail_if_success exact PT.pos _); (first | exact Nat.succ_pos _ | (dsimp only; first | exact Nat.succ_pos _ | omega)))) ?_); (try dsimp only); (intro tkzz))
  k_with "execs nil" => (k_here; (refine gen_toks (by ((fail_if_success assumption); (fail_if_success exact PT.pos _); (first | exact Nat.succ_pos _ | (dsimp only; first | exact Nat.succ_pos _ | omega)))) ?_); (try dsimp only); (intro tkzz))
  k_with "exec For Name Call cons nil" => (k_here; k_dflt (refine For_turns (by k_asm) ?_))
  k_with "exec For Name Name cons nil" => (k_here; k_dflt (refine For_turns (by k_asm) ?_))
  k_with "exec For Tuple Name cons nil" => (k_here; k_dflt (refine For_turns (by k_asm) ?_))
  k_with "exec For Tuple Call cons nil" => (k_here; k_dflt (refine For_turns (by k_asm) ?_))
  k_with "exec For Name Subscript cons nil" => (k_here; k_dflt (refine For_turns (by k_asm) ?_))
  k_with "exec For Tuple Attribute cons nil" => (k_here; k_dflt (refine For_turns (by k_asm) ?_))
  k_with "pyIter ref" => ((with_reducible show wpAny _ _ (pyIter (Value.ref _)) (fun it s₂ => TurnsAt _ _ _ _ _ _ _ _ _ it s₂) _ _); (refine Held.of ?_))
  trivial


theorem wds_PhE_2 : True := by
  k_with_none
  k_with "execs cons" => (k_here; (refine gen_toks (by ((fail_if_success assumption); (fail_if_success exact PT.pos _); (first | exact Nat.succ_pos _ | (dsimp only; first | exact Nat.succ_pos _ | omega)))) ?_); (try dsimp only); (intro tkzz))
  k_with "execs nil" => (k_here; (refine gen_toks (by ((fail_if_success assumption); (fail_if_success exact PT.pos _); (first | exact Nat.succ_pos _ | (dsimp only; first | exact Nat.succ_pos _ | omega)))) ?_); (try dsimp only); (intro tkzz))
  k_with "exec For Name Call cons nil" => (k_here; k_dflt (refine For_turns (by k_asm) ?_))
  k_with "exec For Name Name cons nil" => (k_here; k_dflt (refine For_turns (by k_asm) ?_))
  k_with "exec For Tuple Name cons nil" => (k_here; k_dflt (refine For_turns (by k_asm) ?_))
  k_with "exec For Tuple Call cons nil" => (k_here; k_dflt (refine For_turns (by k_asm) ?_))
  k_with "exec For Name Subscript cons nil" => (k_here; k_dflt (refine For_turns (by k_asm) ?_))
  k_with "exec For Tuple Attribute cons nil" => (k_here; k_dflt (refine For_turns (by k_asm) ?_))
  k_with "pyIter ref" => ((with_reducible show wpAny _ _ (pyIter (Value.ref _)) (fun it s₂ => TurnsAt _ _ _ _ _ _ _ _ _ it s₂) _ _); (refine Held.of ?_))
  k_with "eval ListComp" => (k_here; (refine Held.of ?_))
  k_with "exec Assign cons ListComp" => (k_here; (refine Held.of ?_))
  k_with "CompSrc" => (k_here; (refine Held.of ?_))
  k_with "exec Assign cons DictComp" => (k_here; (refine Held.of ?_))
  k_with "execs cons" => (k_here; (with_reducible show wpAny _ _ (execs (Stmt.If _ _ _ _ :: _) _) _ _ _); (refine Held.of ?_))
  trivial
set_option maxHeartbeats 2000000 in
theorem phE (G : Gd w loose mean mg mb dp un A₀ base h₀) {hl : Addr} {xs : List Value} {n : Nat} {o1 o2 : Obj} {ds : List (Bool × Int)} {tl : List (Addr × Obj)} {em d0 bk dk : Addr} {od0 odk ob oe : Obj}
    (F : Fr h₀ L s.heap m) (hm : Loc m [(Str.ofString "empty", .ref em), (Str.ofString "book", .ref bk)])
    (N : News h₀ L s.heap ((bk, ob) :: (dk, odk) :: (em, oe) :: (d0, od0) :: (hl, listOf (List.toArray xs) n) :: (L + 1 + 1, o2) :: (L + 1, o1) :: tl)) (H : Heard L hl o1 o2 xs ds tl)
    (hE : lawOwn w dp un gd L a ccd E)
    (next : ∀ h' tk m' PD ys k TD oD t', Fr h₀ L h' m' → Loc m' [(Str.ofString "empty", .ref em), (Str.ofString "book", .ref bk), (Str.ofString "ports", .ref PD), (Str.ofString "totals", .ref TD), (Str.ofString "squares", .int (totD ds) t')] →
      News h₀ L h' ((PD, listOf (List.toArray ys) k) :: (TD, oD) :: (bk, ob) :: (dk, odk) :: (em, oe) :: (d0, od0) :: (hl, listOf (List.toArray xs) n) :: (L + 1 + 1, o2) :: (L + 1, o1) :: tl) → IntsAre ys (ds.map Prod.snd) → TotR w TD oD (booked ds) → lawFrom w dp un gd L a ccd 10 Q E { s with heap := h', toks := tk }) :
    lawFrom w dp un gd L a ccd 7 Q E s := by
  unfold lawFrom lawTop lawEnv
  unfold lawOwn lawTop lawEnv at hE
  generalize hS : lawScope = S at hE ⊢
  conv at hS => lhs; whnf
  subst hS
  obtain ⟨B, X, XB, T, TB, hd, hu⟩ := G
  revert X; k_fill; intro X

  have H₀ := H
  obtain ⟨hx, hok, hlen, c1, ⟨v₀, c2⟩, n1, n2, hoff⟩ := H
  replace F := hm.fr F
  k_steps
  unfold Held
  refine LCp.Assign_ListComp_P (F₀ := by k_asm) (by rfl) (by with_unfolding_all rfl) (by with_unfolding_all rfl) (by decide) (by rfl) (by decide) (by rfl) (by rfl) (by decide) (by rfl) (by rfl) ?_
  k_steps
  rename Fr _ _ _ _ => F1
  rename News _ _ _ _ => N1
  refine LCp.SrcLP.ledger (k := n) (its := xs.toArray) (by rfl) F1 N1 (.tail _ (.tail _ (.tail _ (.tail _ (.head _))))) (by rw [List.size_toArray, hx.length, sizeLine_eq]; omega) fun g => ?_
  refine comp_invP (J := fun i ys nx => nx = _ ∧ IntsAre ys ((ds.take i).map Prod.snd)) ?_ ?_ _ _ _ _ (Nat.add_zero _) ⟨rfl, .nil⟩
  · rintro i ys nx hi ⟨rfl, h2⟩ v hv
    have hv' : xs[i]? = some v := by simpa using hv
    obtain ⟨⟨b, p⟩, hd9, a9, t9, u9, n9, rfl, m9⟩ := hx.get hv'
    refine ⟨a9, { cls := .type "tuple", data := .seq [Value.str (hostS b) t9, .int p u9].toArray n9 }, .str (hostS b) t9, .int p u9, n9, rfl, .tail _ (.tail _ (.tail _ (.tail _ (.tail _ (.tail _ (.tail _ m9)))))), rfl, rfl, fun I oI C oC DD m₂ h tk E' hN hx9 hx8 F9 N9 o3 ne => ?_⟩
    clear F1 N1
    refine post_open ?_
    intro R9 hR9
    k_steps
    refine hR9 _ _ ?_; refine CompEnd.intro (by k_asm) (by k_asm) _ (fun p hp => hp) o3 (.inr ⟨_, .tail _ (.tail _ (.tail _ (.tail _ (.head _)))), rfl, n, rfl⟩) ⟨rfl, ?_⟩
    rw [take_more hd9, List.map_append]
    exact ints_snoc h2 _ _
  · rintro ys nx ⟨rfl, h2⟩ PD h9 tk9 F9 N9 o9
    clear F1 N1
    rw [show xs.toArray.size = ds.length by rw [List.size_toArray, hx.length], List.take_length] at h2
    dsimp only
    k_steps
    unfold Held
    obtain ⟨qs, hq1, hq2⟩ := keyed (prog := PySem.Challenge.rw_xg0026_01.row.prog) (w := w) hx
    have hql : qs.length = ds.length := hq2.length
    refine Assign_DictComp_P (PySem.strKind _ _) (fun k y => ∃ t, y = .int (sumOf k ds) t) (by k_asm) (by rfl) (by with_unfolding_all rfl) (by with_unfolding_all rfl) (fun _ => by rfl) (fun _ => by rfl) (by rfl) (by decide) (by rfl) (by rfl) (by decide) (by rfl) (by rfl) ?_
    k_steps
    rename Fr _ _ _ _ => F1
    rename News _ _ _ _ => N1
    unfold Held
    refine ⟨hl, xs, n, qs, _, rfl, by rfl, F1, N1, .tail _ (.tail _ (.tail _ (.tail _ (.tail _ (.head _))))), by rw [hx.length, sizeLine_eq]; omega, hq1.mono fun v q z => ⟨?_, z.2⟩, ?_, ?_⟩
    · obtain ⟨t, nt, e, mm⟩ := z.1
      exact ⟨t, nt, e, .tail _ (.tail _ (.tail _ (.tail _ (.tail _ (.tail _ (.tail _ (.tail _ mm)))))))⟩
    · rintro q hq I oI C oC c oc D oD h tk E' hoc F N
      clear F1 N1
      obtain ⟨d, hd9, e1, t9, u9, e2⟩ := hq2.mem q hq
      rw [e2] at hoc
      dsimp only at hoc
      k_steps
      unfold Held
      refine ListComp_PT (isKey (hostS d.1)) (by k_asm) (by with_unfolding_all rfl) (by decide) (by rfl) (by decide) (by rfl) (by rfl) (by decide) (by decide) ?_
      k_steps
      unfold Held
      rename Fr _ _ _ _ => F2
      rename News _ _ _ _ => N2
      refine ⟨hl, xs, n, qs.map (·.2), _, rfl, by rfl, F2, N2, .tail _ (.tail _ (.tail _ (.tail _ (.tail _ (.tail _ (.tail _ (.tail _ (.tail _ (.head _))))))))), by rw [hx.length, sizeLine_eq]; omega, hq1.map_fst fun v q z => ?_, ?_, ?_⟩
      · obtain ⟨t, nt, e, mm⟩ := z.1
        exact ⟨t, nt, e, .tail _ (.tail _ (.tail _ (.tail _ (.tail _ (.tail _ (.tail _ (.tail _ (.tail _ (.tail _ (.tail _ (.tail _ mm)))))))))))⟩
      · rintro p hp I2 oI2 C2 oC2 D2 oD2 m2 h2 tk2 E2 hN hx1 hx2 F3 N3
        clear F2 N2
        obtain ⟨q', hq', rfl⟩ := List.mem_map.mp hp
        obtain ⟨d', _, e1', t8, u8, e2'⟩ := hq2.mem q' hq'
        rw [e2'] at hx1 hx2
        rw [e2']
        dsimp only at hx1 hx2
        k_steps
        all_goals k_asm
      · rintro D3 h3 tk3 F3 N3 off3
        clear F2 N2
        have hi := picked hq2 (hostS d.1)
        k_steps
        · rw [e1]; rfl
        · k_asm
        · rename News h₀ L _ _ => kN
          exact fun p hp => kN p (.tail _ hp)
    · intro D oD kvs h tk F N hoff hD0 hd hp
      clear F1 N1
      dsimp only
      k_steps
      unfold Held
      refine LCg.ListComp_U (F₀ := by k_asm) (by with_unfolding_all rfl) (by decide) (by rfl) (by decide) (by rfl) ?_
      k_steps
      unfold Held
      rename Fr _ _ _ _ => F1
      rename News _ _ _ _ => N1
      refine CompSrc.ledger (k := ys.length) (its := ys.toArray) (by rfl) F1 N1 (.tail _ (.head _)) (by rw [List.size_toArray, h2.length, List.length_map, sizeLine_eq]; omega) fun g => ?_
      refine comp_inv (J := fun i us nx => nx = _ ∧ IntsAre us ((ds.take i).map fun d => d.2 * d.2)) ?_ ?_ _ _ _ _ (Nat.add_zero _) ⟨rfl, .nil⟩
      · rintro i us nx hi ⟨rfl, h3⟩ v I2 oI2 C2 oC2 D2 m₂ hh tk2 E' hv hN hx9 F9 N9 o3 ne
        refine post_open ?_
        intro R9 hR9
        clear F1 N1
        have hv' : ys[i]? = some v := by simpa using hv
        obtain ⟨x, t2, ex, rfl⟩ := ints_get h2 hv'
        rw [List.getElem?_map] at ex
        obtain ⟨d, hd9, rfl⟩ := Option.map_eq_some_iff.mp ex
        have hp9 := hok d (List.mem_of_getElem? hd9)
        k_steps
        refine hR9 _ _ ?_; refine CompEnd.intro (by k_asm) (by k_asm) _ (fun p hp => hp) o3 (.inr ⟨_, .tail _ (.head _), rfl, ys.length, rfl⟩) ⟨rfl, ?_⟩
        rw [take_more hd9, List.map_append]
        exact ints_snoc h3 _ _
      · rintro us nx ⟨rfl, h3⟩ D2 h9 tk7 F9 N9 o8
        clear F1 N1
        rw [show ys.toArray.size = ds.length by rw [List.size_toArray, h2.length, List.length_map], List.take_length] at h3
        dsimp only
        k_steps
        unfold Held
        rename Fr _ _ _ _ => kF
        rename News h₀ L _ _ => kN
        refine next _ _ _ PD ys ys.length D oD _ kF ⟨by with_unfolding_all rfl, by with_unfolding_all rfl, by with_unfolding_all rfl, by with_unfolding_all rfl, by with_unfolding_all rfl, trivial⟩ (fun p hp => kN p ?_) h2 ?_
        · rcases List.mem_cons.mp hp with h | hp
          · rw [h]; exact .tail _ (.tail _ (.head _))
          rcases List.mem_cons.mp hp with h | hp
          · rw [h]; exact .tail _ (.head _)
          · exact .tail _ (.tail _ (.tail _ hp))
        · have e := qrel_keys hq2
          rw [e] at hp
          exact ⟨beq_eq_false_iff_ne.mpr (Nat.ne_of_gt (Nat.lt_of_lt_of_le (modules_low (Top.nolimit T)) hD0)), kvs, hd, put_tot hp⟩
theorem wds_PhE_3 : True := by
  k_with_none
  trivial
end
end Mine
end
section
open PySem PySem.W PyProof.Rows PySem.Calls PyProof.Rows.LCg
set_option Elab.async false
set_option maxRecDepth 100000
namespace Mine
section
variable {w : World} {loose : List Str} {mean : ExcName → Option Value} {mg mb : Str → Option Value} {dp un : Nat} {gd : Option (List Code)} {a : Addr} {ccd : Value} {A₀ : Around} {base h₀ : Heap} {L : Addr} {m : Str → Option Value} {s : Shared} {Q : Flow → Shared → Prop} {E : Value → Shared → Prop}

theorem wds_PhF_1 : True := by
  k_with_none
  k_with "execs cons" => (k_here; (refine gen_toks (by ((fail_if_success assumption); (fail_if_success exact PT.pos _); (first | exact Nat.succ_pos _ | (dsimp only; first | exact Nat.succ_pos _ | omega)))) ?_); (try dsimp only); (intro tkzz))
  k_with "execs nil" => (k_here; (refine gen_toks (by ((fail_if_success assumption); (fail_if_success exact PT.pos _); (first | exact Nat.succ_pos _ | (dsimp only; first | exact Nat.succ_pos _ | omega)))) ?_); (try dsimp only); (intro tkzz))
  k_with "exec For Name Call cons nil" => (k_here; k_dflt (refine For_turns (by k_asm) ?_))
  k_with "exec For Name Name cons nil" => (k_here; k_dflt (refine For_turns (by k_asm) ?_))
  k_with "exec For Tuple Name cons nil" => (k_here; k_dflt (refine For_turns (by k_asm) ?_))
  k_with "exec For Tuple Call cons nil" => (k_here; k_dflt (refine For_turns (by k_asm) ?_))
  k_with "exec For Name Subscript cons nil" => (k_here; k_dflt (refine For_turns (by k_asm) ?_))
  k_with "exec For Tuple Attribute cons nil" => (k_here; k_dflt (refine For_turns (by k_asm) ?_))
  k_with "pyIter ref" => ((with_reducible show wpAny _ _ (pyIter (Value.ref _)) (fun it s₂ => TurnsAt _ _ _ _ _ _ _ _ _ it s₂) _ _); (refine Held.of ?_))
  trivial




theorem wds_PhF_2 : True := by
  k_with_none
  k_with "execs cons" => (k_here; (refine gen_toks (by ((fail_if_success assumption); (fail_if_success exact PT.pos _); (first | exact Nat.succ_pos _ | (dsimp only; first | exact Nat.succ_pos _ | omega)))) ?_); (try dsimp only); (intro tkzz))
  k_with "execs nil" => (k_here; (refine gen_toks (by ((fail_if_success assumption); (fail_if_success exact PT.pos _); (first | exact Nat.succ_pos _ | (dsimp only; first | exact Nat.succ_pos _ | omega)))) ?_); (try dsimp only); (intro tkzz))
  k_with "exec For Name Call cons nil" => (k_here; k_dflt (refine For_turns (by k_asm) ?_))
  k_with "exec For Name Name cons nil" => (k_here; k_dflt (refine For_turns (by k_asm) ?_))
  k_with "exec For Tuple Name cons nil" => (k_here; k_dflt (refine For_turns (by k_asm) ?_))
  k_with "exec For Tuple Call cons nil" => (k_here; k_dflt (refine For_turns (by k_asm) ?_))
  k_with "exec For Name Subscript cons nil" => (k_here; k_dflt (refine For_turns (by k_asm) ?_))
  k_with "exec For Tuple Attribute cons nil" => (k_here; k_dflt (refine For_turns (by k_asm) ?_))
  k_with "pyIter ref" => ((with_reducible show wpAny _ _ (pyIter (Value.ref _)) (fun it s₂ => TurnsAt _ _ _ _ _ _ _ _ _ it s₂) _ _); (refine Held.of ?_))
  k_with "call ref" => (k_here; (with_reducible show wpAny _ _ (call (Value.ref 159) _ _) _ _ _); k_dflt (refine ClZ.use (t_dueZ _ _ _ _ (by first | assumption | omega)) (by k_asm) (by k_asm) (by k_asm) (by k_asm) (by k_asm) (by first | exact rfl | assumption) (by (first | exact rm2 (by assumption) rfl | exact rm1 (by assumption) rfl | exact rm0 (by assumption) | ktr_room)) (by (first | exact rm2 (by assumption) rfl | exact rm1 (by assumption) rfl | exact rm0 (by assumption) | ktr_units)) ?_); (intro v9zz h9zz tk9zz new9zz F9zz N9zz l9zz p9zz); (obtain ⟨a9zz, k9zz, v9zz, ea9zz, eb9zz, f9zz⟩ := p9zz); subst ea9zz; subst eb9zz; (try simp only [List.nil_append, List.cons_append] at N9zz); (replace l9zz := new_off l9zz); (try (simp only [PyProof.Rows.LCg.Off1, and_true] at l9zz)); (try k_sweep); (try dsimp only); (try k_fold); walk_say "CONTRACT 159")
  k_with "eval Dict nil nil" => (k_here; (try dsimp only); (rename Fr _ _ _ _ => kFzz); (rename News _ _ _ _ => kNzz); (refine newDict_K kFzz kNzz (Top.nolimit (by assumption)) ?_); intro dqzz hqzz oqzz Fqzz Nqzz l1zz loqzz hsqzz fsqzz hiqzz fiqzz; (clear kFzz kNzz); (try k_lt l1zz))
  k_with "eval ListComp" => (k_here; (refine Held.of ?_))
  k_with "CompSrc" => (k_here; (refine Held.of ?_))
  k_with "compareOp NotEq ref ref" => (k_here; (refine Held.of ?_))
  k_with "call builtin:len" => (k_here; (with_reducible show wpAny _ _ (call (Value.builtin "len") [Value.ref _]) _ _ _); k_dflt (refine' len_row (News.isList (by k_asm) (.head _)) (by assumption) (by omega) ?_))
  k_with "execs cons" => (k_here; (with_reducible show wpAny _ _ (execs (Stmt.Assign _ _ _ :: _) _) _ _ _); (refine Held.of ?_))
  trivial
set_option maxHeartbeats 2000000 in
theorem phF (G : Gd w loose mean mg mb dp un A₀ base h₀) {hl : Addr} {xs ys : List Value} {n k : Nat} {o1 o2 : Obj} {ds : List (Bool × Int)} {tl : List (Addr × Obj)} {em d0 bk dk PD TD : Addr} {od0 odk oD : Obj} {t0 u0 v0 z0 t1 u1 v1 z1 t' : Tok} {k0 k1 : Nat}
    (F : Fr h₀ L s.heap m) (hm : Loc m [(Str.ofString "empty", .ref em), (Str.ofString "book", .ref bk), (Str.ofString "ports", .ref PD), (Str.ofString "totals", .ref TD), (Str.ofString "squares", .int (totD ds) t')])
    (N : News h₀ L s.heap ((PD, listOf (List.toArray ys) k) :: (TD, oD) :: (bk, stat ds.length (totB ds) (totC ds) (totD ds) t1 u1 v1 z1 k1 dk) :: (dk, odk) :: (em, stat 0 0 0 0 t0 u0 v0 z0 k0 d0) :: (d0, od0) :: (hl, listOf (List.toArray xs) n) :: (L + 1 + 1, o2) :: (L + 1, o1) :: tl)) (H : Heard L hl o1 o2 xs ds tl)
    (hy : IntsAre ys (ds.map Prod.snd)) (tD : TotR w TD oD (booked ds)) (bD : BkR w dk odk (booked ds)) (b0 : BkR w d0 od0 [])
    (hE : lawOwn w dp un gd L a ccd E)
    (next : ∀ h' tk m', Fr h₀ L h' m' → Loc m' [(Str.ofString "book", .ref bk)] →
      News h₀ L h' ((bk, stat ds.length (totB ds) (totC ds) (totD ds) t1 u1 v1 z1 k1 dk) :: (dk, odk) :: (hl, listOf (List.toArray xs) n) :: (L + 1 + 1, o2) :: (L + 1, o1) :: tl) → lawFrom w dp un gd L a ccd 12 Q E { s with heap := h', toks := tk }) :
    lawFrom w dp un gd L a ccd 10 Q E s := by
  unfold lawFrom lawTop lawEnv
  unfold lawOwn lawTop lawEnv at hE
  generalize hS : lawScope = S at hE ⊢
  conv at hS => lhs; whnf
  subst hS
  obtain ⟨B, X, XB, T, TB, hd, hu⟩ := G
  revert X; k_fill; intro X

  obtain ⟨hx, hok, hlen, c1, ⟨v₀, c2⟩, n1, n2, hoff⟩ := H
  replace F := hm.fr F
  k_steps
  unfold Held
  refine LCg.ListComp_U (F₀ := by k_asm) (by with_unfolding_all rfl) (by decide) (by rfl) (by decide) (by rfl) ?_
  k_steps
  unfold Held
  rename Fr _ _ _ _ => F1
  rename News _ _ _ _ => N1
  refine CompSrc.ledger (k := k) (its := ys.toArray) (by rfl) F1 N1 (.head _) (by rw [List.size_toArray, hy.length, List.length_map, sizeLine_eq]; omega) fun g => ?_
  refine comp_inv (J := fun i us nx => nx = _ ∧ IntsAre us ((ds.take i).map fun d => (d.2 + 255) / 256)) ?_ ?_ _ _ _ _ (Nat.add_zero _) ⟨rfl, .nil⟩
  · rintro i us nx hi ⟨rfl, h3⟩ v I2 oI2 C2 oC2 D2 m₂ hh tk2 E' hv hN hx9 F9 N9 o3 ne
    refine post_open ?_
    intro R9 hR9
    clear F1 N1
    have hv' : ys[i]? = some v := by simpa using hv
    obtain ⟨x, t2, ex, rfl⟩ := ints_get hy hv'
    rw [List.getElem?_map] at ex
    obtain ⟨d, hd9, rfl⟩ := Option.map_eq_some_iff.mp ex
    have hp9 := hok d (List.mem_of_getElem? hd9)
    k_steps
    rename News h₀ L _ _ => kN
    refine hR9 _ _ ?_; refine CompEnd.intro (by k_asm) kN _ (fun p hp => .tail _ hp) o3 (.inr ⟨_, .head _, rfl, k, rfl⟩) ⟨rfl, ?_⟩
    rw [take_more hd9, List.map_append]
    exact ints_snoc h3 _ _
  · rintro us nx ⟨rfl, h3⟩ D2 h9 tk7 F9 N9 o8
    clear F1 N1
    rw [show ys.toArray.size = ds.length by rw [List.size_toArray, hy.length, List.length_map], List.take_length] at h3
    dsimp only
    k_steps
    unfold Held
    rename News h₀ L _ _ => kN
    rw [List.length_map] at kN
    refine ne_book kN (.tail _ (.tail _ (.tail _ (.tail _ (.head _))))) (.head _) (.tail _ (.tail _ (.tail _ (.tail _ (.tail _ (.head _)))))) (.tail _ (.tail _ (.tail _ (.head _)))) bD.tot tD (booked_nodup ds) (show un + 1 < cLine by omega) ?_
    k_steps
    unfold Held
    rename News h₀ L _ _ => kN2
    rename ((_ == sysModules) = false) => ll
    rename Obj.IsDictOf (PySem.strKind _ _) _ [] => hh
    refine ne_book (P := []) kN2 (.tail _ (.tail _ (.tail _ (.tail _ (.tail _ (.tail _ (.tail _ (.tail _ (.head _))))))))) (.head _) (.tail _ (.tail _ (.tail _ (.tail _ (.tail _ (.tail _ (.tail _ (.tail _ (.tail _ (.head _)))))))))) (.tail _ (.head _)) b0.tot ⟨ll, [], hh, .nil⟩ (by simp) (show un + 1 < cLine by omega) ?_
    k_steps
    unfold Held
    rename Fr _ _ _ _ => kF
    rename News h₀ L _ _ => kN3
    refine next _ _ _ kF ⟨by with_unfolding_all rfl, trivial⟩ (fun p hp => kN3 p ?_)
    rcases List.mem_cons.mp hp with h | hp
    · rw [h]; exact .tail _ (.tail _ (.tail _ (.tail _ (.tail _ (.tail _ (.head _))))))
    rcases List.mem_cons.mp hp with h | hp
    · rw [h]; exact .tail _ (.tail _ (.tail _ (.tail _ (.tail _ (.tail _ (.tail _ (.head _)))))))
    · exact .tail _ (.tail _ (.tail _ (.tail _ (.tail _ (.tail _ (.tail _ (.tail _ (.tail _ (.tail _ hp)))))))))
theorem wds_PhF_3 : True := by
  k_with_none
  trivial
end
end Mine
end
section
open PySem PySem.W PyProof.Rows PySem.Calls PyProof.Rows.LCg
set_option Elab.async false
set_option maxRecDepth 100000
namespace Mine
theorem dk_first {h₀ h : Heap} {L : Addr} {x y z : Addr × Obj} {r : List (Addr × Obj)} (N : News h₀ L h (x :: y :: z :: r)) : News h₀ L h (z :: x :: y :: r) := fun p hp => N p (by
  revert p
  ((repeat (refine fa (by (repeat (first | exact List.Mem.head _ | apply List.Mem.tail))) ?_)); exact fun p hp => (by (repeat (first | assumption | apply List.Mem.tail)))))
theorem rowN_nil : rowN 0 = [] := by decide
section
variable {w : World} {loose : List Str} {mean : ExcName → Option Value} {mg mb : Str → Option Value} {dp un : Nat} {gd : Option (List Code)} {a : Addr} {ccd : Value} {A₀ : Around} {base h₀ : Heap} {L : Addr} {m : Str → Option Value} {s : Shared} {Q : Flow → Shared → Prop} {E : Value → Shared → Prop}

theorem wds_PhG_1 : True := by
  k_with_none
  k_with "execs cons" => (k_here; (refine gen_toks (by ((fail_if_success assumption); (fail_if_success exact PT.pos _); (first | exact Nat.succ_pos _ | (dsimp only; first | exact Nat.succ_pos _ | omega)))) ?_); (try dsimp only); (intro tkzz))
  k_with "execs nil" => (k_here; (refine gen_toks (by ((fail_if_success assumption); (fail_if_success exact PT.pos _); (first | exact Nat.succ_pos _ | (dsimp only; first | exact Nat.succ_pos _ | omega)))) ?_); (try dsimp only); (intro tkzz))
  k_with "exec For Name Call cons nil" => (k_here; k_dflt (refine For_turns (by k_asm) ?_))
  k_with "exec For Name Name cons nil" => (k_here; k_dflt (refine For_turns (by k_asm) ?_))
  k_with "exec For Tuple Name cons nil" => (k_here; k_dflt (refine For_turns (by k_asm) ?_))
  k_with "exec For Tuple Call cons nil" => (k_here; k_dflt (refine For_turns (by k_asm) ?_))
  k_with "exec For Name Subscript cons nil" => (k_here; k_dflt (refine For_turns (by k_asm) ?_))
  k_with "exec For Tuple Attribute cons nil" => (k_here; k_dflt (refine For_turns (by k_asm) ?_))
  k_with "pyIter ref" => ((with_reducible show wpAny _ _ (pyIter (Value.ref _)) (fun it s₂ => TurnsAt _ _ _ _ _ _ _ _ _ it s₂) _ _); (refine Held.of ?_))
  trivial




theorem wds_PhG_2 : True := by
  k_with_none
  k_with "execs cons" => (k_here; (refine gen_toks (by ((fail_if_success assumption); (fail_if_success exact PT.pos _); (first | exact Nat.succ_pos _ | (dsimp only; first | exact Nat.succ_pos _ | omega)))) ?_); (try dsimp only); (intro tkzz))
  k_with "execs nil" => (k_here; (refine gen_toks (by ((fail_if_success assumption); (fail_if_success exact PT.pos _); (first | exact Nat.succ_pos _ | (dsimp only; first | exact Nat.succ_pos _ | omega)))) ?_); (try dsimp only); (intro tkzz))
  k_with "exec For Name Call cons nil" => (k_here; k_dflt (refine For_turns (by k_asm) ?_))
  k_with "exec For Name Name cons nil" => (k_here; k_dflt (refine For_turns (by k_asm) ?_))
  k_with "exec For Tuple Name cons nil" => (k_here; k_dflt (refine For_turns (by k_asm) ?_))
  k_with "exec For Tuple Call cons nil" => (k_here; k_dflt (refine For_turns (by k_asm) ?_))
  k_with "exec For Name Subscript cons nil" => (k_here; k_dflt (refine For_turns (by k_asm) ?_))
  k_with "exec For Tuple Attribute cons nil" => (k_here; k_dflt (refine For_turns (by k_asm) ?_))
  k_with "pyIter ref" => ((with_reducible show wpAny _ _ (pyIter (Value.ref _)) (fun it s₂ => TurnsAt _ _ _ _ _ _ _ _ _ it s₂) _ _); (refine Held.of ?_))
  k_with "call ref" => (k_here; (with_reducible show wpAny _ _ (call (Value.ref 159) _ _) _ _ _); k_dflt (refine ClZ.use (t_dueZ _ _ _ _ (by first | assumption | omega)) (by k_asm) (by k_asm) (by k_asm) (by k_asm) (by k_asm) (by first | exact rfl | assumption) (by (first | exact rm2 (by assumption) rfl | exact rm1 (by assumption) rfl | exact rm0 (by assumption) | ktr_room)) (by (first | exact rm2 (by assumption) rfl | exact rm1 (by assumption) rfl | exact rm0 (by assumption) | ktr_units)) ?_); (intro v9zz h9zz tk9zz new9zz F9zz N9zz l9zz p9zz); (obtain ⟨a9zz, k9zz, v9zz, ea9zz, eb9zz, f9zz⟩ := p9zz); subst ea9zz; subst eb9zz; (try simp only [List.nil_append, List.cons_append] at N9zz); (replace l9zz := new_off l9zz); (try (simp only [PyProof.Rows.LCg.Off1, and_true] at l9zz)); (try k_sweep); (try dsimp only); (try k_fold); walk_say "CONTRACT 159")
  k_with "call ref" => (k_here; (with_reducible show wpAny _ _ (call (Value.ref 154) _ _) _ _ _); k_dflt (refine ClZ.use (t_rowZ _ _ _ _ (by first | assumption | omega)) (by k_asm) (by k_asm) (by k_asm) (by k_asm) (by k_asm) (by first | exact rfl | assumption) (by (first | exact rm2 (by assumption) rfl | exact rm1 (by assumption) rfl | exact rm0 (by assumption) | ktr_room)) (by (first | exact rm2 (by assumption) rfl | exact rm1 (by assumption) rfl | exact rm0 (by assumption) | ktr_units)) ?_); (intro v9zz h9zz tk9zz new9zz F9zz N9zz l9zz p9zz); (obtain ⟨a9zz, k9zz, v9zz, ea9zz, eb9zz, f9zz⟩ := p9zz); subst ea9zz; subst eb9zz; (try simp only [List.nil_append, List.cons_append] at N9zz); (replace l9zz := new_off l9zz); (try (simp only [PyProof.Rows.LCg.Off1, and_true] at l9zz)); (try k_sweep); (try dsimp only); (try k_fold); walk_say "CONTRACT 154")
  k_with "compareOp NotEq ref ref" => (k_here; (refine Held.of ?_))
  k_with "subscriptTail" => (k_here; (with_reducible show wpAny _ _ (subscriptTail _ _ (Value.ref _) (Value.str _ _)) _ _ _); k_dflt (refine' kda_item (knd := PySem.strKind _ _) (by k_asm) (by k_mem) (by exact Bk.is (by assumption)) (by exact strKind_is _ _ _ _) (by assumption) ?_))
  k_with "compareOp Eq ref ref" => (k_here; (refine Held.of ?_))
  k_with "call ref" => ((with_reducible show wpAny _ _ (call (Value.ref 173) _ _) _ _ _); (refine Held.of ?_))
  k_with "call ref" => ((with_reducible show wpAny _ _ (call (Value.ref 114) _ _) _ _ _); (refine Held.of ?_))
  trivial
set_option maxHeartbeats 2000000 in
theorem phG (G : Gd w loose mean mg mb dp un A₀ base h₀) {hl : Addr} {xs : List Value} {n : Nat} {o1 o2 : Obj} {ds : List (Bool × Int)} {tl : List (Addr × Obj)} {bk dk : Addr} {odk : Obj} {i1 i2 i3 i4 : Int} {t1 u1 v1 z1 : Tok} {k1 : Nat}
    (F : Fr h₀ L s.heap m) (hm : Loc m [(Str.ofString "book", .ref bk)])
    (N : News h₀ L s.heap ((bk, stat i1 i2 i3 i4 t1 u1 v1 z1 k1 dk) :: (dk, odk) :: (hl, listOf (List.toArray xs) n) :: (L + 1 + 1, o2) :: (L + 1, o1) :: tl)) (H : Heard L hl o1 o2 xs ds tl)
    (bD : BkR w dk odk (booked ds)) (nb : @Ne Nat bk (L + 1 + 1)) (nd : @Ne Nat dk (L + 1 + 1))
    (hE : lawOwn w dp un gd L a ccd E)
    (ret : ∀ h' tk m', Fr h₀ L h' m' → Q (.ret (.bool true)) { s with heap := h', toks := tk }) :
    lawFrom w dp un gd L a ccd 12 Q E s := by
  unfold lawFrom lawTop lawEnv
  unfold lawOwn lawTop lawEnv at hE
  generalize hS : lawScope = S at hE ⊢
  conv at hS => lhs; whnf
  subst hS
  obtain ⟨B, X, XB, T, TB, hd, hu⟩ := G
  revert X; k_fill; intro X

  unfold stat at N
  obtain ⟨hx, hok, hlen, c1, ⟨v₀, c2⟩, n1, n2, hoff⟩ := H
  replace F := hm.fr F
  k_steps
  unfold Held
  rename Fr _ _ _ _ => kF
  rename News h₀ L _ _ => kN
  rename (bk < _ ∧ dk < _ ∧ hl < _ ∧ L + 1 + 1 < _ ∧ L + 1 < _ ∧ AllLt _ tl) => ld
  obtain ⟨kvs, kB, kr⟩ := bD
  refine for_keys (J := fun i m nx => ∃ wh ws kw o2 v₀, Loc m [(Str.ofString "book", .ref bk), (Str.ofString "whole", .ref wh)] ∧ nx = (wh, listOf (List.toArray ws) kw) :: (bk, ({ cls := .type "tuple", data := .seq #[.int i1 t1, .int i2 u1, .int i3 v1, .int i4 z1, .ref dk] k1 } : Obj)) :: (dk, odk) :: (hl, listOf (List.toArray xs) n) :: (L + 1 + 1, o2) :: (L + 1, o1) :: tl ∧
      o2.data = .cell v₀ ∧ Fls ws (rowN (sumP ((booked ds).take i))) ∧ @Ne Nat wh (L + 1 + 1)) (by rfl) kF kN (.tail _ (.tail _ (.head _))) kB.is kB.lo ⟨_, [], 0, o2, v₀, ⟨by with_unfolding_all rfl, by with_unfolding_all rfl, trivial⟩, rfl, c2, by rw [List.take_zero]; exact rowN_nil ▸ .nil, Nat.ne_of_gt ld.2.2.2.1⟩ ?_ ?_
  · clear kF c2
    rintro I hI i k y t m nx o h tk hkv ⟨wh, ws, kw, o2, v₀, hl1, rfl, c2, hw, nw⟩ ho F N
    refine turn_open ?_
    intro R9 hR9
    obtain ⟨⟨b, q⟩, he, ek, tq, ey⟩ := kr.get hkv
    dsimp only at ek ey
    subst ek ey
    have hbm := List.mem_of_getElem? he
    have hqb := booked_nonneg hok _ hbm
    have hqv : q = valP ds b := by rw [← valP_booked, valP_mem (booked_nodup ds) hbm]
    obtain ⟨tv, hva⟩ := value_at kr (booked_nodup ds) hbm
    dsimp only at hqb hva
    have hps := part_sum (fun e he => (booked_nonneg hok e he).1) i
    rw [sumP_booked] at hps
    have htc := totC_bounds hok
    replace F := hl1.fr F
    have hIb : @LT.lt Nat _ bk I := hI (bk, _) (.tail _ (.head _))
    have hIk : @LT.lt Nat _ dk I := hI (dk, _) (.tail _ (.tail _ (.head _)))
    have hIl : @LT.lt Nat _ hl I := hI (hl, _) (.tail _ (.tail _ (.tail _ (.head _))))
    have hIc : @LT.lt Nat _ (L + 1 + 1) I := hI _ (.tail _ (.tail _ (.tail _ (.tail _ (.head _)))))
    have hId : @LT.lt Nat _ (L + 1) I := hI _ (.tail _ (.tail _ (.tail _ (.tail _ (.tail _ (.head _))))))
    have hoff2 : ∀ p ∈ tl, p.1 ≠ L + 1 + 1 := fun p hp => (hoff p hp).2.1
    clear kN
    k_steps
    unfold Held
    rename Fr _ _ _ _ => kF
    rename News h₀ L _ _ => kN
    rename (I < _ ∧ wh < _ ∧ bk < _ ∧ dk < _ ∧ hl < _ ∧ L + 1 + 1 < _ ∧ L + 1 < _ ∧ AllLt _ tl) => lp
    refine for_list (vs := xs) (n := n) (J := fun j m nx => ∃ pa ps kp o2 v₀, Loc m [(Str.ofString "book", .ref bk), (Str.ofString "whole", .ref wh), (Str.ofString "host", .str (hostS b) t), (Str.ofString "part", .ref pa)] ∧
        nx = (pa, listOf (List.toArray ps) kp) :: (I, o) :: (wh, listOf (List.toArray ws) kw) :: (bk, ({ cls := .type "tuple", data := .seq #[.int i1 t1, .int i2 u1, .int i3 v1, .int i4 z1, .ref dk] k1 } : Obj)) :: (dk, odk) :: (hl, listOf (List.toArray xs) n) :: (L + 1 + 1, o2) :: (L + 1, o1) :: tl ∧
        o2.data = .cell v₀ ∧ Fls ps (rowN (valP (ds.take j) b)) ∧ @Ne Nat pa (L + 1 + 1)) (by rfl) kF kN (fun p hp => hp) (.tail _ (.tail _ (.tail _ (.tail _ (.tail _ (.head _)))))) ⟨_, [], 0, o2, v₀, ⟨by with_unfolding_all rfl, by with_unfolding_all rfl, by with_unfolding_all rfl, by with_unfolding_all rfl, trivial⟩, rfl, c2, by rw [List.take_zero]; exact rowN_nil ▸ .nil, Nat.ne_of_gt lp.2.2.2.2.2.1⟩ ?_ ?_
    · clear kF c2
      rintro I2 hI2 j v mm nx o3 h2 tk2 hv ⟨pa, ps, kp, o2, v₀, hl2, rfl, c2, hpa, npa⟩ ho3 F N
      refine turn_open ?_
      intro R9 hR9
      replace F := hl2.fr F
      obtain ⟨⟨b', p⟩, hd9, a9, t9, u9, n9', rfl, m9⟩ := hx.get hv
      have hp9 : 0 ≤ p ∧ p < 768 := hok _ (List.mem_of_getElem? hd9)
      dsimp only at m9
      obtain ⟨ha1, ha2, ha3⟩ := hoff _ m9
      have N := dup N (.tail _ (.tail _ (.tail _ (.tail _ (.tail _ (.tail _ (.tail _ (.tail _ (.tail _ m9)))))))))
      have ha2 : @Ne Nat a9 (L + 1 + 1) := ha2
      have hI2c : @LT.lt Nat _ (L + 1 + 1) I2 := hI2 _ (.tail _ (.tail _ (.tail _ (.tail _ (.tail _ (.tail _ (.head _)))))))
      have hvb := valP_bounds (ds := ds.take j) (fun d hd => hok d (List.mem_of_mem_take hd)) b
      have hvl : ((ds.take j).length : Int) ≤ 4 := by rw [List.length_take]; omega
      clear kN
      k_steps
      all_goals (
        have hIi : @LT.lt Nat _ I I2 := hI2 (I, _) (.tail _ (.head _))
        have hIw : @LT.lt Nat _ wh I2 := hI2 (wh, _) (.tail _ (.tail _ (.head _)))
        have hIb2 : @LT.lt Nat _ bk I2 := hI2 (bk, _) (.tail _ (.tail _ (.tail _ (.head _))))
        have hIk2 : @LT.lt Nat _ dk I2 := hI2 (dk, _) (.tail _ (.tail _ (.tail _ (.tail _ (.head _)))))
        have hIl2 : @LT.lt Nat _ hl I2 := hI2 (hl, _) (.tail _ (.tail _ (.tail _ (.tail _ (.tail _ (.head _))))))
        have hId2 : @LT.lt Nat _ (L + 1) I2 := hI2 _ (.tail _ (.tail _ (.tail _ (.tail _ (.tail _ (.tail _ (.tail _ (.head _))))))))
        have offT : ∀ p ∈ tl, p.1 ≠ I2 ∨ p.2.cls ≠ o3.cls := fun p hp => .inl (Nat.ne_of_lt (hI2 p (.tail _ (.tail _ (.tail _ (.tail _ (.tail _ (.tail _ (.tail _ (.tail _ hp))))))))))
        rename Fr _ _ _ _ => kF
        rename News h₀ L _ _ => kN)
      · unfold Held
        refine ClZ.use (t_sum w pa _ ps _ kp _ (valP (ds.take j) b) p _ (by omega) (by omega) (.tail _ (.tail _ (.tail _ (.head _)))) (.head _) hpa (by assumption)) B kF X kN T (by first | exact rfl | assumption) (by (first | exact rm2 (by assumption) rfl | exact rm1 (by assumption) rfl | exact rm0 (by assumption) | ktr_room)) (by (first | exact rm2 (by assumption) rfl | exact rm1 (by assumption) rfl | exact rm0 (by assumption) | ktr_units)) ?_
        intro vv h9 tk9 new9 F9 N9 l9 p9
        obtain ⟨c, kc, vc, rfl, rfl, fc⟩ := p9
        have nc : @Ne Nat c (L + 1 + 1) := Ne.symm (l9 (L + 1 + 1, _) (.tail _ (.tail _ (.tail _ (.tail _ (.tail _ (.tail _ (.tail _ (.tail _ (.tail _ (.head _)))))))))) _ (.head _))
        clear kN kF l9
        simp only [List.cons_append, List.nil_append] at N9
        dsimp only
        k_steps
        rename News h₀ L _ _ => kN
        refine hR9 _ _ ?_; refine TurnEnd.go ((c, listOf (List.toArray vc) kc) :: (I, o) :: (wh, _) :: (bk, _) :: (dk, odk) :: (hl, listOf (List.toArray xs) n) :: (L + 1 + 1, _) :: (L + 1, o1) :: tl) (by k_asm) kN (.tail _ (.tail _ (.tail _ (.head _))))
          (fun p hp => by
            rcases List.mem_cons.mp hp with h | hp
            · rw [h]; exact .head _
            · exact .tail _ (.tail _ (.tail _ (.tail _ (.tail _ hp)))))
          (List.forall_mem_cons.mpr ⟨.inr (by rw [ho3]; exact (by decide : (Value.type "list" : Value) ≠ .type "list_iterator")), List.forall_mem_cons.mpr ⟨.inl (Nat.ne_of_lt hIi), List.forall_mem_cons.mpr ⟨.inl (Nat.ne_of_lt hIw), List.forall_mem_cons.mpr ⟨.inl (Nat.ne_of_lt hIb2), List.forall_mem_cons.mpr ⟨.inl (Nat.ne_of_lt hIk2),
            List.forall_mem_cons.mpr ⟨.inl (Nat.ne_of_lt hIl2), List.forall_mem_cons.mpr ⟨.inl (Nat.ne_of_lt hI2c), List.forall_mem_cons.mpr ⟨.inl (Nat.ne_of_lt hId2), offT⟩⟩⟩⟩⟩⟩⟩⟩)
          ⟨.tail _ (.tail _ (.tail _ (.tail _ (.tail _ (.head _))))), c, vc, kc, _, _, ⟨by with_unfolding_all rfl, by with_unfolding_all rfl, by with_unfolding_all rfl, by with_unfolding_all rfl, trivial⟩, rfl, by assumption, ?_, nc⟩
        rename ((hostS b' == hostS b) = true) => hbb
        rw [hostS_beq] at hbb
        rw [valP_take hd9, if_pos (by dsimp only; exact eq_of_beq hbb)]
        exact fc
      · refine hR9 _ _ ?_; refine TurnEnd.go ((pa, listOf (List.toArray ps) kp) :: (I, o) :: (wh, _) :: (bk, _) :: (dk, odk) :: (hl, listOf (List.toArray xs) n) :: (L + 1 + 1, _) :: (L + 1, o1) :: tl) kF kN (.tail _ (.head _)) (fun p hp => .tail _ (.tail _ hp))
          (List.forall_mem_cons.mpr ⟨.inr (by rw [ho3]; exact (by decide : (Value.type "list" : Value) ≠ .type "list_iterator")), List.forall_mem_cons.mpr ⟨.inl (Nat.ne_of_lt hIi), List.forall_mem_cons.mpr ⟨.inl (Nat.ne_of_lt hIw), List.forall_mem_cons.mpr ⟨.inl (Nat.ne_of_lt hIb2), List.forall_mem_cons.mpr ⟨.inl (Nat.ne_of_lt hIk2),
            List.forall_mem_cons.mpr ⟨.inl (Nat.ne_of_lt hIl2), List.forall_mem_cons.mpr ⟨.inl (Nat.ne_of_lt hI2c), List.forall_mem_cons.mpr ⟨.inl (Nat.ne_of_lt hId2), offT⟩⟩⟩⟩⟩⟩⟩⟩)
          ⟨.tail _ (.tail _ (.tail _ (.tail _ (.tail _ (.head _))))), pa, ps, kp, _, _, ⟨by with_unfolding_all rfl, by with_unfolding_all rfl, by with_unfolding_all rfl, by with_unfolding_all rfl, trivial⟩, rfl, by assumption, ?_, npa⟩
        rename ((hostS b' == hostS b) = false) => hbb
        rw [hostS_beq] at hbb
        rw [valP_take hd9, if_neg (by dsimp only; exact ne_of_beq_false hbb), Int.add_zero]
        exact hpa
    · rintro mm nx h2 tk2 ⟨pa, ps, kp, o2, v₀, hl2, rfl, c2, hpa, npa⟩ F N
      rw [List.take_of_length_le (by rw [hx.length]; exact Nat.le_refl _), ← hqv] at hpa
      replace F := hl2.fr F
      clear kN kF
      dsimp only
      k_steps
      unfold Held
      rename Fr _ _ _ _ => kF
      rename News h₀ L _ _ => kN
      refine ne_same (not_told (X.keeps kF.keep) (T.keeps kF.keep)) (rowN_small hqb.1) (News.isList kN (.tail _ (.head _))) (News.isList kN (.head _)) hpa (by assumption) (show un < cLine by omega) ?_
      k_steps
      unfold Held
      rename Fr _ _ _ _ => kF
      rename News h₀ L _ _ => kN
      refine ClZ.use (t_sum w wh pa ws ps kw kp (sumP ((booked ds).take i)) q _ (by omega) (by omega) (.tail _ (.tail _ (.tail _ (.head _)))) (.tail _ (.head _)) hw hpa) B kF X kN T (by first | exact rfl | assumption) (by (first | exact rm2 (by assumption) rfl | exact rm1 (by assumption) rfl | exact rm0 (by assumption) | ktr_room)) (by (first | exact rm2 (by assumption) rfl | exact rm1 (by assumption) rfl | exact rm0 (by assumption) | ktr_units)) ?_
      intro vv h9 tk9 new9 F9 N9 l9 p9
      obtain ⟨c, kc, vc, rfl, rfl, fc⟩ := p9
      have nc : @Ne Nat c (L + 1 + 1) := Ne.symm (l9 (L + 1 + 1, _) (.tail _ (.tail _ (.tail _ (.tail _ (.tail _ (.tail _ (.tail _ (.head _)))))))) _ (.head _))
      clear kN kF l9
      simp only [List.cons_append, List.nil_append] at N9
      dsimp only
      k_steps
      rename News h₀ L _ _ => kN
      refine hR9 _ _ ?_; refine TurnEnd.go ((c, listOf (List.toArray vc) kc) :: (bk, _) :: (dk, odk) :: (hl, listOf (List.toArray xs) n) :: (L + 1 + 1, _) :: (L + 1, o1) :: tl) (by k_asm) kN (.tail _ (.tail _ (.tail _ (.head _))))
        (fun p hp => by
          rcases List.mem_cons.mp hp with h | hp
          · rw [h]; exact .head _
          · exact .tail _ (.tail _ (.tail _ (.tail _ (.tail _ hp)))))
        (List.forall_mem_cons.mpr ⟨.inr (by rw [ho]; exact (by decide : (Value.type "list" : Value) ≠ .type "dict_keyiterator")), List.forall_mem_cons.mpr ⟨.inl (Nat.ne_of_lt hIb), List.forall_mem_cons.mpr ⟨.inl (Nat.ne_of_lt hIk), List.forall_mem_cons.mpr ⟨.inl (Nat.ne_of_lt hIl), List.forall_mem_cons.mpr ⟨.inl (Nat.ne_of_lt hIc),
          List.forall_mem_cons.mpr ⟨.inl (Nat.ne_of_lt hId), fun p hp => .inl (Nat.ne_of_lt (hI p (.tail _ (.tail _ (.tail _ (.tail _ (.tail _ (.tail _ hp))))))))⟩⟩⟩⟩⟩⟩)
        ⟨.tail _ (.tail _ (.head _)), c, vc, kc, _, _, ⟨by with_unfolding_all rfl, by with_unfolding_all rfl, trivial⟩, rfl, by assumption, ?_, nc⟩
      rw [sumP_take he]
      exact fc
  · rintro mm nx h tk ⟨wh, ws, kw, o2, v₀, hl1, rfl, c2, hw, nw⟩ F N
    rw [List.take_of_length_le (by rw [kr.length]; exact Nat.le_refl _)] at hw
    replace F := hl1.fr F
    clear kN kF
    dsimp only
    k_steps
    unfold Held
    rename Fr _ _ _ _ => kF
    rename News h₀ L _ _ => kN
    have hT4 : 0 ≤ sumP (booked ds) ∧ sumP (booked ds) < 4096 := by
      have := totC_bounds hok
      rw [sumP_booked]; omega
    have kN := dk_first kN
    refine ClZ.use (t_count w dk odk (booked ds) _ (booked_nodup ds) ⟨kvs, kB, kr⟩) B kF X kN T (by first | exact rfl | assumption) (by (first | exact rm2 (by assumption) rfl | exact rm1 (by assumption) rfl | exact rm0 (by assumption) | ktr_room)) (by (first | exact rm2 (by assumption) rfl | exact rm1 (by assumption) rfl | exact rm0 (by assumption) | ktr_units)) ?_
    intro vv h9 tk9 new9 F9 N9 l9 p9
    obtain ⟨⟨tc, rfl⟩, rfl⟩ := p9
    clear kN kF l9
    simp only [List.nil_append] at N9
    dsimp only
    k_steps
    unfold Held
    rename Fr _ _ _ _ => kF
    rename News h₀ L _ _ => kN
    refine eq_same (not_told (X.keeps kF.keep) (T.keeps kF.keep)) (rowN_small hT4.1) (News.isList kN (.tail _ (.tail _ (.head _)))) (News.isList kN (.head _)) hw (by assumption) (show un < cLine by omega) ?_
    k_steps
    rename Fr _ _ _ _ => kF
    exact ret _ _ _ kF
theorem wds_PhG_3 : True := by
  k_with_none
  trivial
end
end Mine
end
section
open PySem PySem.W PyProof.Rows PySem.Calls PyProof.Rows.LCg
set_option Elab.async false
set_option maxRecDepth 100000
namespace Mine
section
variable {w : World} {loose : List Str} {mean : ExcName → Option Value} {mg mb : Str → Option Value} {dp un : Nat} {gd : Option (List Code)} {a : Addr} {ccd : Value} {A₀ : Around} {base h₀ : Heap} {L : Addr} {m : Str → Option Value} {s : Shared} {Q : Flow → Shared → Prop} {E : Value → Shared → Prop}
theorem law_all (G : Gd w loose mean mg mb dp un A₀ base h₀) {l : Addr} {vs : List Value} {ns : List Int} (hI : IntsAre vs ns) (hn : ns.length ≤ 63) (hP : h₀.IsList l vs.toArray) (F : Fr h₀ L s.heap m) {hl : Addr} {o1 o2 : Obj} {v₀ : Option Value}
    (N : News h₀ L s.heap [(hl, listOf #[] 0), (L + 1 + 1, o2), (L + 1, o1)]) (d1 : o1.data = .cell (some (.ref hl))) (d2 : o2.data = .cell v₀) (n1 : @Ne Nat hl (L + 1)) (n2 : @Ne Nat hl (L + 1 + 1)) (hm : Loc m [(Str.ofString "script", .ref l)])
    (hE : lawOwn w dp un gd L a ccd E) (ret : ∀ h' tk m', Fr h₀ L h' m' → Q (.ret (.bool true)) { s with heap := h', toks := tk }) : lawFrom w dp un gd L a ccd 1 Q E s := by
  refine phA G hI hn hP F N d1 d2 n1 n2 hm hE fun hA tkA mA xs n oA tl ds FA NA HA => ?_
  refine phB G FA NA HA hE fun hB tkB mB oB FB NB HB => ?_
  refine phC G FB NB HB hE fun hC tkC mC em d0 od0 t0 u0 v0 z0 k0 bk dk odk oC t u v z k FC LC NC HC bD b0 off => ?_
  refine phE G FC LC NC HC hE fun hD tkD mD PD ys kD TD oD tD FD LD ND hy tot => ?_
  refine phF G FD LD ND HC hy tot bD b0 hE fun hF tkF mF FF LF NF => ?_
  exact phG G FF LF NF HC bD off.1 off.2.1 hE fun h' tk m' F' => ret h' tk m' F'
end
end Mine
end
section
open PySem PySem.W PyProof.Rows PySem.Calls PyProof.Rows.LCg
set_option Elab.async false
set_option maxRecDepth 100000
namespace Mine
section
theorem wds_LawM_1 : True := by
  k_with_none
  k_with "execs cons" => (k_here; (with_reducible show wpAny _ _ (execs (Stmt.For _ _ _ _ _ :: _) _) _ _ _); (refine Held.of ?_))
  trivial
set_option maxHeartbeats 2000000 in
theorem lawx : PySem.Challenge.rw_xg0026_01.Holds := hd.head (by rfl) (by rfl) (by rfl) (by
  k_go0
  all_goals try k_fold
  k_steps
  unfold Held
  rename Below callerA _ [] _ => K0
  rename IntsAre _ _ => hI
  rename (¬ _ < _) => hn
  rename Fr _ _ _ _ => kF
  rename News _ _ _ _ => kN
  rename (_ + 1 + 1 < _ ∧ _ + 1 < _) => ll
  refine law_all (A₀ := callerA) ⟨K0, by assumption, by assumption, by assumption, by assumption, by decide, by decide⟩ hI (by omega) (by assumption) kF kN (by assumption) (by assumption) (Nat.ne_of_gt ll.2) (Nat.ne_of_gt ll.1) ⟨by with_unfolding_all rfl, trivial⟩ ?_ ?_
  · unfold lawOwn lawTop lawEnv
    generalize hS : lawScope = S
    conv at hS => lhs; whnf
    subst hS
    first | passes_own | with_unfolding_all passes_own
  · clear kF kN
    intro h' tk m' F'
    dsimp only
    k_steps)
theorem wds_LawM_2 : True := by
  k_with_none
  trivial
end
end Mine
end
open PySem PySem.W PyProof.Rows
theorem PySem.Challenge.cw_xg0026_01_holds : PySem.Challenge.rw_xg0026_01.Holds :=
  Mine.lawx
