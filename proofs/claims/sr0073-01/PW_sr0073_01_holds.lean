import PyProof.Rows.All
import Wide.All
import OpenK.AllK
import Wide.FinOn
import KE.KBits
import KE.KCallOwn
import KE.KItem
import KE.KNest
import KE.KRevIter
import KE.KStar
import KE.KSuper
import OpenK.KOps
import PyProof.AttrMissHeap
import PyProof.AutoIntOps
import PyProof.CompFree
import PyProof.EqAt
import PyProof.FactsAll.list
import PyProof.FactsAll.str
import PyProof.JoinWalk
import PyProof.ListMulRoad
import PyProof.NeKinds
import PyProof.Rows.RuleN_abs
import PyProof.Rows.StrNews
import PyProof.StrCalls2
import PyProof.StrOps2
import PyProof.SumAny
import PyProof.WalksPairs
import PySem.Challenge.RW_sr0073_01
set_option Elab.async false
set_option linter.unusedVariables false
set_option maxRecDepth 100000
set_option bootstrap.genMatcherCode false
set_option maxHeartbeats 4000000
set_option tactic.hygienic false
namespace Mine
def tA : Lean.Syntax:=.node .none `Lean.Parser.Tactic.tacticSeq #[.node .none `Lean.Parser.Tactic.tacticSeq1Indented #[.node .none `null #[.node .none `Lean.Parser.Tactic.assumption #[.atom .none "assumption"]]]]
def tR : Lean.Syntax:=Lean.Unhygienic.run `(Lean.Parser.Tactic.tacticSeq| intros;rfl)
section
variable {a b c d e f g x y : Nat}
private theorem na0 (h : autoParam (a < b) tA) : a ≤ b:=Nat.le_of_lt h
private theorem naa (h : autoParam (a < b) tA) (q : autoParam (b ≤ c) tA) : a < c:=Nat.lt_of_lt_of_le h q
private theorem nab (h : autoParam (a ≤ b) tA) (q : autoParam (b < c) tA) : a < c:=Nat.lt_of_le_of_lt h q
private theorem nac (h : autoParam (a ≤ b) tA) (q : autoParam (b ≤ c) tA) : a ≤ c:=Nat.le_trans h q
private theorem nad (q : b ≤ c) (h : autoParam (a ≤ b) tA) : a ≤ c:=Nat.le_trans h q
private theorem nae (q : b < c) (h : autoParam (a ≤ b) tA) : a < c:=Nat.lt_of_le_of_lt h q
private theorem naf (q : b ≤ c) (h : autoParam (a = b) tA) : a ≤ c:=h ▸ q
private theorem nag (q : b < c) (h : autoParam (a = b) tA) : a < c:=h ▸ q
private theorem na1 (h : autoParam (a - b = c) tA) : a - (b + 1) = c - 1:=h ▸ rfl
private theorem na2 (h : autoParam (a - b = c) tA) (q : autoParam (b < a) tA) : c - 1 < c:=Nat.sub_lt (h ▸ Nat.sub_pos_of_lt q) Nat.zero_lt_one
private theorem na3 (h : autoParam (b < a) tA) : a - b = a - (b + 1) + 1:=(Nat.succ_pred_eq_of_pos (Nat.sub_pos_of_lt h)).symm
private theorem na4 (h : autoParam (0 < a) tA) : a = a - 1 + 1:=(Nat.succ_pred_eq_of_pos h).symm
private theorem na5 (h : autoParam (a - b ≤ c + 1) tA) (q : autoParam (b < d) tA) : a - d ≤ c:=Nat.le_trans (Nat.sub_le_sub_left q a) (Nat.pred_le_pred h)
private theorem na6 (h : autoParam (a - b ≤ c + 1) tA) (q : autoParam (b ≤ d) tA) : a - (d + 1) ≤ c:=na5 h (Nat.lt_succ_of_le q)
private theorem na7 (h : autoParam (a - b ≤ c + 1) tA) (q : autoParam (b ≤ d) tA) (r : autoParam (1 ≤ e) tA) : a - (d + e) ≤ c:=na5 h (Nat.lt_of_le_of_lt q (Nat.lt_add_of_pos_right r))
private theorem na8 (h : autoParam (b < a) tA) : a - (b + 1) < a - b:=Nat.sub_lt_sub_left h (Nat.lt_succ_self b)
private theorem na9 (h : autoParam (a - b ≤ c + 1) tA) (r : autoParam (1 ≤ e) tA) : a - (b + e) ≤ c:=na5 h (Nat.lt_add_of_pos_right r)
private theorem nb1 (h : autoParam (b ≤ c) tA) : min a b - d ≤ c:=Nat.le_trans (Nat.sub_le _ _) (Nat.le_trans (Nat.min_le_right _ _) h)
private theorem nb2 (h : autoParam (b = c) tA) : min a b - d ≤ c:=nb1 (Nat.le_of_eq h)
private theorem nb3 (h : autoParam (a ≤ c) tA) : a - b ≤ c:=Nat.le_trans (Nat.sub_le _ _) h
private theorem nb4 (h : autoParam (a ≤ b) tA) (q : autoParam (b ≤ c) tA) : c - a = b - a + (c - b):=by rw [Nat.add_comm,Nat.sub_add_sub_cancel q h]
private theorem nb5 (h : autoParam (a ≤ c) tA) : min (a - b) (c - b) = a - b:=Nat.min_eq_left (Nat.sub_le_sub_right h b)
private theorem nb6 (h : autoParam (1 ≤ b) tA) : a + 1 - b ≤ a:=Nat.sub_le_of_le_add (Nat.add_le_add_left h a)
private theorem nb7 (h : a < b) : min a b + 1 + (b - (a + 1)) = b:=by rw [Nat.min_eq_left (Nat.le_of_lt h)];exact Nat.add_sub_cancel' h
private theorem nb8 (h : autoParam (a < b) tA) : a - 1 < b:=Nat.lt_of_le_of_lt (Nat.sub_le _ _) h
private theorem nb9 (h : autoParam (a - b = c + 1) tA) : a - (b + 1) = c:=(na1 h).trans rfl
private theorem nc1 (h : autoParam (a + 1 = d - b) tA) : a = d - (b + 1):=(na1 (c:=a + 1) h.symm).symm
private theorem nc3 (h : autoParam (0 < a) tA) : a - 1 < a:=Nat.sub_lt h Nat.zero_lt_one
private theorem nc4 (h : autoParam (a ≤ b) tA) : b = a + (b - a):=(Nat.add_sub_cancel' h).symm
private theorem nc5 (h : autoParam (b < a) tA) : a - 1 - b < a:=Nat.lt_of_le_of_lt (Nat.sub_le _ _) (nc3 (Nat.lt_of_le_of_lt (Nat.zero_le _) h))
private theorem nc6 (h : autoParam (a - b = c + 1) tA) : b < a:=Nat.lt_of_sub_pos (h ▸ Nat.succ_pos c)
private theorem nc7 (h : autoParam (a = b - 1) tA) (q : autoParam (b = c) tA) : a ≤ c:=h ▸ q ▸ Nat.sub_le _ _
private theorem nd1 (h : autoParam (b + 1 = a + a) tA) (q : autoParam (2 ≤ b) tA) : a + a - 1 = Nat.succ (b - 1):=h ▸ (Nat.sub_add_cancel (Nat.le_of_lt q)).symm
private theorem nd2 (h : autoParam (a < b) tA) (q : autoParam (b ≤ d) tA) (r : autoParam (d < 5) tA) : min a b + 1 + (b - (a + 1)) ≤ 2 ^ 20:=by
 rw [nb7 h]
 exact Nat.le_trans q (Nat.le_trans (Nat.le_of_lt r) (by decide))
private theorem nd3 (h : autoParam (a < b) tA) (q : autoParam (b ≤ d) tA) (r : autoParam (d < 5) tA) : min a b + 1 ≤ 2 ^ 20:=Nat.le_trans (Nat.le_add_right _ _) (nd2 h q r)
private theorem nd4 (z : e + f ≤ c) (h : autoParam (x ≤ d + a - 1) tA) (p : autoParam (d ≤ e) tA) (q : autoParam (a ≤ f) tA) : x ≤ c:=Nat.le_trans h (Nat.le_trans (Nat.sub_le _ _) (Nat.le_trans (Nat.add_le_add p q) z))
private theorem ne1 (h : autoParam (a < b) tA) (q : autoParam (c = (a + b) / 2) tA) : a ≤ c:=q ▸ (Nat.le_div_iff_mul_le (by decide)).2 (Nat.mul_two a ▸ Nat.add_le_add_left (Nat.le_of_lt h) a)
private theorem ne2 (h : autoParam (a < b) tA) (q : autoParam (c = (a + b) / 2) tA) : c < b:=q ▸ (Nat.div_lt_iff_lt_mul (by decide)).2 (Nat.mul_two b ▸ Nat.add_lt_add_right h b)
private theorem ne3 (h : autoParam (a < b) tA) (q : autoParam (c = (a + b) / 2) tA) : c ≤ b:=Nat.le_of_lt (ne2 h q)
private theorem ne4 (h : autoParam (a < b) tA) (q : autoParam (c = (a + b) / 2) tA) : b - a = c - a + (b - c):=nb4 (ne1 h q) (ne3 h q)
private theorem ne5 (h : autoParam (a < b) tA) (r : autoParam (¬a + 1 = b) tA) (q : autoParam (c = (a + b) / 2) tA) : a < c:=
 q ▸ (Nat.le_div_iff_mul_le (by decide)).2 (by rw [Nat.succ_mul,Nat.mul_two,Nat.add_assoc];exact Nat.add_le_add_left (Nat.lt_of_le_of_ne h r) a)
private theorem ne6 (h : autoParam (a < b) tA) (q : autoParam (c = (a + b) / 2) tA) (r : autoParam (b - a ≤ 2 ^ (d + 1)) tA) : b - c ≤ 2 ^ d ∧ c - a ≤ 2 ^ d:=by rw [Nat.pow_succ] at r;omega
private theorem ne7 (h : autoParam (a < b) tA) (q : autoParam (c = (a + b) / 2) tA) (r : autoParam (b - a ≤ 2 ^ (d + 1)) tA) : b - c ≤ 2 ^ d:=(ne6 h q r).1
private theorem ne8 (h : autoParam (a < b) tA) (q : autoParam (c = (a + b) / 2) tA) (r : autoParam (b - a ≤ 2 ^ (d + 1)) tA) : c - a ≤ 2 ^ d:=(ne6 h q r).2
private theorem ne9 (h : autoParam (a < b) tA) (q : autoParam (c = (a + b) / 2) tA) (r : autoParam (b ≤ d) tA) : b - c + (c - a) ≤ d:=by
 rw [Nat.add_comm,← ne4 h q]
 exact nb3 r
private theorem nf0 : -1 + ((a + 1 : Nat) : Int) = a:=by
 show -1 + ((a : Int) + 1) = a
 rw [Int.add_comm (a : Int) 1,Int.neg_add_cancel_left]
private theorem nf1 : ∀ {a : Nat},max 0 (min (-1 + (a : Int)) a) = ((a - 1 : Nat) : Int)
 | 0 => rfl
 | a + 1 => by
  rw [nf0,Int.min_eq_left (Int.ofNat_le.2 (Nat.le_succ a)),Int.max_eq_right (Int.natCast_nonneg a)];rfl
private theorem nf2 (h : autoParam (a - 1 < a) tA) : (0 ≤ -1 + (a : Int) ∧ -1 + (a : Int) < a) ∧ (-1 + (a : Int)).toNat = a - 1:=by
 cases a with
 | zero => cases h
 | succ a =>
  rw [nf0]
  exact ⟨⟨Int.natCast_nonneg a,Int.ofNat_lt.2 h⟩,rfl⟩
private theorem nf3 (h : autoParam (a < b) tA) (q : autoParam (min a b = 0) tA) : a = 0:=(Nat.min_eq_left (Nat.le_of_lt h)).symm.trans q
private theorem nf4 (p : autoParam (x ≤ a) tA) (q : autoParam (b ≤ x) tA) : a = x - b + (a - x + b):=by rw [Nat.add_comm (a - x) b,← Nat.add_assoc,Nat.sub_add_cancel q,Nat.add_sub_cancel' p]
private theorem nf5 : (-((a : Int) + 1) + b).toNat = b - 1 - a:=by
 rw [Int.add_comm,← Int.sub_eq_add_neg,Nat.sub_sub,Nat.add_comm]
 exact Int.toNat_sub b (a + 1)
private theorem nf6 : ((a : Int) - 1).toNat = a - 1:=Int.toNat_sub a 1
private theorem nf7 (h : autoParam (a ≤ 5 * b + 6) tA) (q : autoParam (4 ≤ b) tA) : a + b - 1 ≤ b * 2 ^ 3 + (b - 1):=by omega
private theorem nf8 (h : autoParam (a ≤ b * a) tA) (q : autoParam (1 ≤ b) tA) : a + b - 1 ≤ b * a + (b - 1):=Nat.add_sub_assoc q a ▸ Nat.add_le_add_right h _
private theorem nf9 (h : autoParam (1 ≤ b) tA) (q : autoParam (a + b ≤ c) tA) : c - (a + b) < c - a:=Nat.sub_lt_sub_left (Nat.lt_of_lt_of_le (Nat.lt_add_of_pos_right h) q) (Nat.lt_add_of_pos_right h)
private theorem ng1 (h : autoParam (a - b = c) tA) (q : autoParam (b < a) tA) : 5 * (c - 1) + 5 + 1 ≤ 5 * c + 2:=(Nat.succ_pred_eq_of_pos (h ▸ Nat.sub_pos_of_lt q : 0 < c)).subst (motive:=fun z => 5 * (c - 1) + 5 + 1 ≤ 5 * z + 2) (Nat.le_succ _)
private theorem ng2 (h : autoParam (a + d ≤ b) tA) : min a b - c = a - c:=by rw [Nat.min_eq_left (Nat.le_trans (Nat.le_add_right _ _) h)]
private theorem ng3 (h : autoParam (a + b - 1 < x + b * 1) tA) : a ≤ x:=Nat.le_of_add_le_add_right (Nat.le_trans (Nat.le_succ_of_pred_le (Nat.le_refl _)) (Nat.mul_one b ▸ h))
private theorem ng4 (h : autoParam (a < b) tA) : a ≤ b - 1:=Nat.le_sub_one_of_lt h
private theorem ng5 (h : autoParam (a ≤ 31 * (b - 1)) tA) (q : autoParam (b ≤ 6) tA) : a + (b - 1) ≤ 2 ^ 20:=Nat.le_trans (Nat.add_le_add (Nat.le_trans h (Nat.mul_le_mul_left 31 (Nat.sub_le_sub_right q 1))) (Nat.sub_le_sub_right q 1)) (by decide)
private theorem ng6 (h : autoParam (a ≤ b) tA) (q : autoParam (0 < a) tA) : a - 1 < b:=Nat.lt_of_lt_of_le (nc3 q) h
private theorem ng7 (h : autoParam (a < c) tA) (q : autoParam (1 ≤ b) tA) : a + 1 - b < c:=Nat.lt_of_le_of_lt (nb6 q) h
private theorem ng8 (h : autoParam (a < b) tA) : a + 1 + (b - a - 1) = b:=Nat.sub_sub .. ▸ Nat.add_sub_cancel' h
private theorem ng9 (h : autoParam (b < a) tA) (q : autoParam (a < b + (1 + c)) tA) : a - b - 1 < c:=Nat.sub_sub .. ▸ Nat.sub_lt_left_of_lt_add h (Nat.add_assoc .. ▸ q)
private theorem nh1 (h : autoParam (5 - b ≤ a) tA) (q : autoParam (b < 5) tA) : a = a - 1 + 1:=na4 (Nat.lt_of_lt_of_le (Nat.sub_pos_of_lt q) h)
private theorem nh2 : a + b + (a + b + c - (a + b)) = a + (b + c):=by rw [Nat.add_sub_cancel_left,Nat.add_assoc]
private theorem nh3 (h : autoParam (a = 5) tA) : a - b ≤ 100:=nb3 (h ▸ by decide)
private theorem nh4 (h : autoParam (5 - b = a + 1) tA) : 4 - b = a:=(Nat.sub_right_comm 5 1 b).trans (h ▸ rfl)
private theorem nh5 (h : autoParam (a < 5) tA) : 5 - a = 4 - a + 1:=Nat.succ_sub (Nat.le_of_lt_succ h)
private theorem nh6 (h : autoParam (a + 1 ≤ 5) tA) : 5 - a = 4 - a + 1:=nh5 h
private theorem nh7 (h : autoParam (a + c ≤ b) tA) : min a b + (c + (b - (a + c))) = b:=by rw [Nat.min_eq_left (Nat.le_trans (Nat.le_add_right _ _) h),← Nat.add_assoc,Nat.add_sub_cancel' h]
private theorem nh8 (h : autoParam (a ≤ c) tA) (q : autoParam (c ≤ d) tA) (r : autoParam (d ≤ e) tA) (s : autoParam (e < b) tA) : a < b:=Nat.lt_of_le_of_lt (Nat.le_trans h (Nat.le_trans q r)) s
private theorem nh9 (h : autoParam (b < a) tA) : a - b = a - b - 1 + 1:=na4 (Nat.sub_pos_of_lt h)
private theorem ni1 (h : autoParam (a ≠ 0) tA) : a = a - 1 + 1:=na4 (Nat.pos_of_ne_zero h)
private theorem ni2 (h : autoParam (a ≠ 0) tA) : a - 1 < a:=nc3 (Nat.pos_of_ne_zero h)
private theorem ni3 (h : autoParam (b ≤ c) tA) : min a b ≤ c:=Nat.le_trans (Nat.min_le_right _ _) h
private theorem ni4 (h : autoParam (b - c = a + 1) tA) : a < b:=Nat.le_trans (Nat.le_of_eq h.symm) (Nat.sub_le b c)
private theorem ni5 (h : autoParam (1 ≤ a) tA) : a ≤ a + a - 1:=Nat.le_sub_of_add_le (Nat.add_le_add_left h a)
private theorem ni6 (h : autoParam (c < b) tA) (q : autoParam (x + 1 * b ≤ y) tA) : x + c < y:=Nat.lt_of_lt_of_le (Nat.add_lt_add_left h x) (Nat.one_mul b ▸ q)
private theorem ni7 (h : autoParam (c < b) tA) (q : autoParam (x + 1 * b ≤ y) tA) : c + x < y:=Nat.add_comm .. ▸ ni6 h q
end
section
open PySem PySem.W
set_option maxHeartbeats 8000000
noncomputable def nb : (b : List Stmt) ×' PLift (PySem.Challenge.pw_sr0073_01.main.body = b):=⟨_,⟨by (conv => lhs;reduce)⟩⟩
noncomputable def stI (i : Nat) : Stmt:=(nb.1[i]?).getD default
noncomputable def mI (i j : Nat) : Stmt:=match stI i with | .ClassDef _ _ _ body .. => (body[j]?).getD default | _ => default
noncomputable def fdef (st : Stmt) : Option (PySem.Str × Arguments × List Stmt × PySem.Scope):=match st with
 | .FunctionDef name params body _ _ _ scope _ _ _ => some (name,params,body,scope)
 | _ => none
noncomputable def fnS (st : Stmt) (fd : FuncData) : Obj:=(fdef st).elim default fun q => { cls:=.type "function",data:=.func { fd with name:=q.1,params:=q.2.1,body:=.stmts q.2.2.1,scope:=q.2.2.2 } }
noncomputable def dE (P : Params) (x : PySem.Str) (t : Nat) (v : Value) : DictEntry:={ hash:=PyData.keyHash P x,key:=.str x t,val:=v }
noncomputable def bTab : List (String × Value):=[("__name__",.str ⟨#[98,117,105,108,116,105,110,115]⟩ 160)] ++ [("__doc__",.builtin "builtins.__doc__:str#opaque")] ++ [("__package__",.builtin "builtins.__package__:str#opaque")] ++ [("__loader__",.builtin "builtins.__loader__:shared#opaque")] ++ [("__spec__",.builtin "builtins.__spec__#opaque")] ++ ((["__build_class__","__import__","abs","all","any","ascii","bin","breakpoint","callable","chr","compile","delattr","dir","divmod","eval","exec","format","getattr","globals","hasattr","hash","hex","id","input","isinstance","issubclass","iter","aiter","len","locals","max","min","next","anext","oct","ord","pow","print","repr","round","setattr","sorted","sum","vars"] : List String).map fun n => (n,Value.builtin n)) ++ [("None",.none)] ++ [("Ellipsis",.ellipsis)] ++ [("NotImplemented",.notImplemented)] ++ [("False",.bool false)] ++ [("True",.bool true)] ++ ((["bool","memoryview","bytearray","bytes","classmethod","complex","dict","enumerate","filter","float","frozenset","property","int","list","map","object","range","reversed","set","slice","staticmethod","str","super","tuple","type","zip"] : List String).map fun n => (n,Value.type n)) ++ [("__debug__",.bool true)] ++ ((["BaseException","BaseExceptionGroup","Exception","GeneratorExit","KeyboardInterrupt","SystemExit","ArithmeticError","AssertionError","AttributeError","BufferError","EOFError","ImportError","LookupError","MemoryError","NameError","OSError","ReferenceError","RuntimeError","StopAsyncIteration","StopIteration","SyntaxError","SystemError","TypeError","ValueError","Warning","FloatingPointError","OverflowError","ZeroDivisionError","BytesWarning","DeprecationWarning","EncodingWarning","FutureWarning","ImportWarning","PendingDeprecationWarning","ResourceWarning","RuntimeWarning","SyntaxWarning","UnicodeWarning","UserWarning","BlockingIOError","ChildProcessError","ConnectionError","FileExistsError","FileNotFoundError","InterruptedError","IsADirectoryError","NotADirectoryError","PermissionError","ProcessLookupError","TimeoutError","IndentationError","_IncompleteInputError","IndexError","KeyError","ModuleNotFoundError","NotImplementedError","PythonFinalizationError","RecursionError","UnboundLocalError","UnicodeError","BrokenPipeError","ConnectionAbortedError","ConnectionRefusedError","ConnectionResetError","TabError","UnicodeDecodeError","UnicodeEncodeError","UnicodeTranslateError","ExceptionGroup"] : List String).map fun n => (n,Value.type n)) ++ [("EnvironmentError",.type "OSError")] ++ [("IOError",.type "OSError")] ++ ((["open"] : List String).map fun n => (n,Value.builtin n)) ++ [("quit",.builtin "builtins.quit#opaque")] ++ [("exit",.builtin "builtins.exit#opaque")] ++ [("copyright",.builtin "builtins.copyright#opaque")] ++ [("credits",.builtin "builtins.credits#opaque")] ++ [("license",.builtin "builtins.license#opaque")] ++ [("help",.builtin "builtins.help#opaque")]
namespace hd
noncomputable def zo_39 : Params → Obj:=fun P => { cls:=.type "dict",data:=.dict ((bTab.zipIdx.map fun e => dE P (PySem.Str.ofString e.1.1) (e.2 + 1) e.1.2).toArray) 159 }
noncomputable def zo_41 : Params → Obj:=fun P => { cls:=.none,data:=.dict #[dE P ⟨#[105,109,112,111,114,116,46,108,111,97,100,101,100,46,95,115,114,101]⟩ 183 (.bool true),dE P ⟨#[99,108,97,115,115,46,95,102,114,111,122,101,110,95,105,109,112,111,114,116,108,105,98,46,66,117,105,108,116,105,110,73,109,112,111,114,116,101,114]⟩ 185 (.ref 14),dE P ⟨#[119,97,116,99,104,101,100,46,105,109,112,111,114,116]⟩ 206 (.ref 18),dE P ⟨#[99,108,97,115,115,46,95,102,114,111,122,101,110,95,105,109,112,111,114,116,108,105,98,46,77,111,100,117,108,101,83,112,101,99]⟩ 216 (.ref 22),dE P ⟨#[115,121,115,46,109,111,100,117,108,101,115,46,98,111,111,107,101,100,45,101,112,111,99,104]⟩ 245 (.int 3 0),dE P ⟨#[105,109,112,111,114,116,46,108,97,116,101,114,45,108,97,105,100,46,95,115,114,101]⟩ 270 (.bool true),dE P ⟨#[119,97,116,99,104,101,100,46,108,105,98,114,97,114,121]⟩ 272 (.ref 27),dE P ⟨#[119,97,116,99,104,101,100,46,108,105,98,114,97,114,121,45,111,98,106,101,99,116,115]⟩ 0 (.str ⟨#[12]⟩ 0),dE P ⟨#[119,97,116,99,104,101,100,46,108,105,98,114,97,114,121,45,100,101,101,112,46,95,115,114,101]⟩ 273 (.str ⟨#[4,0,0,11,4,0,0,11,4,0,0,3,4,0,0,11,8,4,100,105,99,116,2]⟩ 0)] 9 }
noncomputable def zo_42 : Params → Obj:=fun P => { cls:=.type SZ.s14018661285674007319x4,data:=.dict #[dE P ⟨#[95,95,110,97,109,101,95,95]⟩ 165 (.str ⟨#[108,97,119,95,115,114,48,48,55,51,95,48,49]⟩ 650),dE P ⟨#[95,95,100,111,99,95,95]⟩ 166 .none,dE P ⟨#[95,95,112,97,99,107,97,103,101,95,95]⟩ 167 .none,dE P ⟨#[95,95,108,111,97,100,101,114,95,95]⟩ 168 (.builtin SZ.s7097527257260152453x26),dE P ⟨#[95,95,115,112,101,99,95,95]⟩ 169 .none,dE P ⟨#[95,95,97,110,110,111,116,97,116,105,111,110,115,95,95]⟩ 170 (.ref 6),dE P ⟨#[95,95,98,117,105,108,116,105,110,115,95,95]⟩ 171 (.ref 4),dE P ⟨#[95,95,102,105,108,101,95,95]⟩ 173 (.str ⟨#[47,99,108,97,105,109,47,99,117,116,46,112,121]⟩ 172),dE P ⟨#[95,95,99,97,99,104,101,100,95,95]⟩ 174 .none,dE P ⟨#[95,115,114,101]⟩ 275 (.ref 12),dE P ⟨#[95,119,97,108,108]⟩ 288 (.ref 38),dE P ⟨#[78,76]⟩ 292 (.str ⟨#[10]⟩ 291),dE P ⟨#[69,77,80,84,89,83,84,82,73,78,71]⟩ 294 (.str ⟨#[]⟩ 293),dE P ⟨#[95,86,97,108,117,101,70,111,114,109,97,116,116,101,114]⟩ 402 (.ref 111),dE P ⟨#[95,65,99,99,117,109,117,108,97,116,111,114]⟩ 498 (.ref 195),dE P ⟨#[95,68,73,86,95,76,73,77,73,84]⟩ 502 (.int 4000 501),dE P ⟨#[95,100,105,118,50,110,49,110]⟩ 519 (.ref 206),dE P ⟨#[95,100,105,118,51,110,50,110]⟩ 533 (.ref 213),dE P ⟨#[95,105,110,116,50,100,105,103,105,116,115]⟩ 544 (.ref 220),dE P ⟨#[95,100,105,103,105,116,115,50,105,110,116]⟩ 555 (.ref 227),dE P ⟨#[95,100,105,118,109,111,100,95,112,111,115]⟩ 570 (.ref 234),dE P ⟨#[105,110,116,95,100,105,118,109,111,100]⟩ 580 (.ref 241),dE P ⟨#[95,116,119,105,110,95,114,101,95,49]⟩ 598 (.ref 246),dE P ⟨#[95,116,119,105,110,95,114,101,95,50]⟩ 640 (.ref 251),dE P ⟨#[67,82,76,70]⟩ 642 (.str ⟨#[13,10]⟩ 641),dE P ⟨#[113,117,111,116,101,100,97,116,97]⟩ 649 (.ref 258),dE P ⟨#[95,108,97,119,95,102,111,108,100,101,100]⟩ 663 (.ref 265),dE P ⟨#[108,97,119]⟩ 669 (.ref 270)] 28 }
noncomputable def zo_67 : Params → Obj:=fun P => { cls:=.type SZ.s5856160107412720595x4,data:=.fields #[.str ⟨#[95,95,105,110,105,116,95,95]⟩ 307,.str ⟨#[95,86,97,108,117,101,70,111,114,109,97,116,116,101,114,46,95,95,105,110,105,116,95,95]⟩ 308,.str ⟨#[47,99,108,97,105,109,47,99,117,116,46,112,121]⟩ 309,.int 10 0,.int 5 0,.int 0 0,.int 0 0,.int 3 0,.ref 46,.bool true,.int 276 0,.ref 47,.none,.ref 48,.ref 49,.ref 50,.int 315 0,.int 10 0,.str ⟨#[47,99,108,97,105,109,47,99,117,116,46,112,121]⟩ 316] }
noncomputable def y68 : (o : Obj) ×' PLift (fnS (mI 5 0) { (default : FuncData) with qualname:=⟨#[95,86,97,108,117,101,70,111,114,109,97,116,116,101,114,46,95,95,105,110,105,116,95,95]⟩,globals:=3,closure:=[],defaults:=.none,kwdefaults:=.none,pyModule:=.str ⟨#[99,112,121,51,49,51,46,101,109,97,105,108,46,104,101,97,100,101,114]⟩ 289,code:=.ref 51 } = o):=⟨_,⟨by (conv => lhs;reduce)⟩⟩
noncomputable def zo_68 : Params → Obj:=fun _ => y68.1
noncomputable def zo_74 : Params → Obj:=fun P => { cls:=.type SZ.s5856160107412720595x4,data:=.fields #[.str ⟨#[95,115,116,114]⟩ 318,.str ⟨#[95,86,97,108,117,101,70,111,114,109,97,116,116,101,114,46,95,115,116,114]⟩ 319,.str ⟨#[47,99,108,97,105,109,47,99,117,116,46,112,121]⟩ 320,.int 18 0,.int 2 0,.int 0 0,.int 0 0,.int 3 0,.ref 53,.bool true,.int 276 0,.ref 54,.none,.ref 55,.ref 56,.ref 57,.int 323 0,.int 18 0,.str ⟨#[47,99,108,97,105,109,47,99,117,116,46,112,121]⟩ 324] }
noncomputable def y75 : (o : Obj) ×' PLift (fnS (mI 5 1) { (default : FuncData) with qualname:=⟨#[95,86,97,108,117,101,70,111,114,109,97,116,116,101,114,46,95,115,116,114]⟩,globals:=3,closure:=[],defaults:=.none,kwdefaults:=.none,pyModule:=.str ⟨#[99,112,121,51,49,51,46,101,109,97,105,108,46,104,101,97,100,101,114]⟩ 289,code:=.ref 58 } = o):=⟨_,⟨by (conv => lhs;reduce)⟩⟩
noncomputable def zo_75 : Params → Obj:=fun _ => y75.1
noncomputable def zo_88 : Params → Obj:=fun P => { cls:=.type SZ.s5856160107412720595x4,data:=.fields #[.str ⟨#[110,101,119,108,105,110,101]⟩ 333,.str ⟨#[95,86,97,108,117,101,70,111,114,109,97,116,116,101,114,46,110,101,119,108,105,110,101]⟩ 334,.str ⟨#[47,99,108,97,105,109,47,99,117,116,46,112,121]⟩ 335,.int 25 0,.int 1 0,.int 0 0,.int 0 0,.int 3 0,.ref 67,.bool true,.int 276 0,.ref 68,.none,.ref 69,.ref 70,.ref 71,.int 338 0,.int 25 0,.str ⟨#[47,99,108,97,105,109,47,99,117,116,46,112,121]⟩ 339] }
noncomputable def y89 : (o : Obj) ×' PLift (fnS (mI 5 3) { (default : FuncData) with qualname:=⟨#[95,86,97,108,117,101,70,111,114,109,97,116,116,101,114,46,110,101,119,108,105,110,101]⟩,globals:=3,closure:=[],defaults:=.none,kwdefaults:=.none,pyModule:=.str ⟨#[99,112,121,51,49,51,46,101,109,97,105,108,46,104,101,97,100,101,114]⟩ 289,code:=.ref 72 } = o):=⟨_,⟨by (conv => lhs;reduce)⟩⟩
noncomputable def zo_89 : Params → Obj:=fun _ => y89.1
noncomputable def zo_123 : Params → Obj:=fun P => { cls:=.type SZ.s5856160107412720595x4,data:=.fields #[.str ⟨#[95,97,112,112,101,110,100,95,99,104,117,110,107]⟩ 375,.str ⟨#[95,86,97,108,117,101,70,111,114,109,97,116,116,101,114,46,95,97,112,112,101,110,100,95,99,104,117,110,107]⟩ 376,.str ⟨#[47,99,108,97,105,109,47,99,117,116,46,112,121]⟩ 377,.int 48 0,.int 3 0,.int 0 0,.int 0 0,.int 3 0,.ref 102,.bool true,.int 276 0,.ref 103,.none,.ref 104,.ref 105,.ref 106,.int 386 0,.int 48 0,.str ⟨#[47,99,108,97,105,109,47,99,117,116,46,112,121]⟩ 387] }
noncomputable def y124 : (o : Obj) ×' PLift (fnS (mI 5 8) { (default : FuncData) with qualname:=⟨#[95,86,97,108,117,101,70,111,114,109,97,116,116,101,114,46,95,97,112,112,101,110,100,95,99,104,117,110,107]⟩,globals:=3,closure:=[],defaults:=.none,kwdefaults:=.none,pyModule:=.str ⟨#[99,112,121,51,49,51,46,101,109,97,105,108,46,104,101,97,100,101,114]⟩ 289,code:=.ref 107 } = o):=⟨_,⟨by (conv => lhs;reduce)⟩⟩
noncomputable def zo_124 : Params → Obj:=fun _ => y124.1
noncomputable def zo_126 : Params → Obj:=fun P => { cls:=.type SZ.s14018661285674007319x4,data:=.dict #[dE P ⟨#[95,95,109,111,100,117,108,101,95,95]⟩ 302 (.str ⟨#[99,112,121,51,49,51,46,101,109,97,105,108,46,104,101,97,100,101,114]⟩ 289),dE P ⟨#[95,95,102,105,114,115,116,108,105,110,101,110,111,95,95]⟩ 306 (.int 8 305),dE P ⟨#[95,95,105,110,105,116,95,95]⟩ 317 (.ref 52),dE P ⟨#[95,115,116,114]⟩ 325 (.ref 59),dE P ⟨#[95,95,115,116,114,95,95]⟩ 332 (.ref 66),dE P ⟨#[110,101,119,108,105,110,101]⟩ 340 (.ref 73),dE P ⟨#[97,100,100,95,116,114,97,110,115,105,116,105,111,110]⟩ 347 (.ref 80),dE P ⟨#[102,101,101,100]⟩ 357 (.ref 87),dE P ⟨#[95,109,97,120,108,101,110,103,116,104,115]⟩ 364 (.ref 94),dE P ⟨#[95,97,115,99,105,105,95,115,112,108,105,116]⟩ 374 (.ref 101),dE P ⟨#[95,97,112,112,101,110,100,95,99,104,117,110,107]⟩ 388 (.ref 108),dE P ⟨#[95,95,115,116,97,116,105,99,95,97,116,116,114,105,98,117,116,101,115,95,95]⟩ 395 (.ref 109),dE P ⟨#[95,95,100,105,99,116,95,95]⟩ 397 (.ref 112),dE P ⟨#[95,95,119,101,97,107,114,101,102,95,95]⟩ 399 (.ref 113),dE P ⟨#[95,95,100,111,99,95,95]⟩ 400 .none] 4 }
noncomputable def zo_127 : Params → Obj:=fun P => { cls:=.type SZ.s17162191345867700912x4,data:=.cls { name:=⟨#[95,86,97,108,117,101,70,111,114,109,97,116,116,101,114]⟩,bases:=[.type SZ.s2742458400755230247x6],mro:=[.ref 111,.type SZ.s2742458400755230247x6],ns:=110,qualname:=⟨#[95,86,97,108,117,101,70,111,114,109,97,116,116,101,114]⟩ },slots:=#[none,none,some (.str ⟨#[95,86,97,108,117,101,70,111,114,109,97,116,116,101,114]⟩ 295),some (.str ⟨#[95,86,97,108,117,101,70,111,114,109,97,116,116,101,114]⟩ 303),some (.builtin SZ.s11443829558043349243x14),some (.bool true)] }
noncomputable def zo_131 : Params → Obj:=fun P => { cls:=.type SZ.s15660640913423913556x4,data:=.cell (some (.ref 195)) }
noncomputable def zo_132 : Params → Obj:=fun P => { cls:=.type SZ.s2766695959194262286x5,data:=.seq #[.int 0 415] }
noncomputable def zo_139 : Params → Obj:=fun P => { cls:=.type SZ.s5856160107412720595x4,data:=.fields #[.str ⟨#[95,95,105,110,105,116,95,95]⟩ 416,.str ⟨#[95,65,99,99,117,109,117,108,97,116,111,114,46,95,95,105,110,105,116,95,95]⟩ 417,.str ⟨#[47,99,108,97,105,109,47,99,117,116,46,112,121]⟩ 418,.int 76 0,.int 2 0,.int 0 0,.int 0 0,.int 3 0,.ref 126,.bool true,.int 276 0,.ref 127,.none,.ref 128,.ref 129,.ref 130,.int 422 0,.int 76 0,.str ⟨#[47,99,108,97,105,109,47,99,117,116,46,112,121]⟩ 423] }
noncomputable def y140 : (o : Obj) ×' PLift (fnS (mI 6 0) { (default : FuncData) with qualname:=⟨#[95,65,99,99,117,109,117,108,97,116,111,114,46,95,95,105,110,105,116,95,95]⟩,globals:=3,closure:=[(⟨#[95,95,99,108,97,115,115,95,95]⟩,119)],defaults:=.ref 124,kwdefaults:=.none,pyModule:=.str ⟨#[99,112,121,51,49,51,46,101,109,97,105,108,46,104,101,97,100,101,114]⟩ 289,code:=.ref 131,closureTuple:=.ref 125 } = o):=⟨_,⟨by (conv => lhs;reduce)⟩⟩
noncomputable def zo_140 : Params → Obj:=fun _ => y140.1
noncomputable def zo_146 : Params → Obj:=fun P => { cls:=.type SZ.s5856160107412720595x4,data:=.fields #[.str ⟨#[112,117,115,104]⟩ 425,.str ⟨#[95,65,99,99,117,109,117,108,97,116,111,114,46,112,117,115,104]⟩ 426,.str ⟨#[47,99,108,97,105,109,47,99,117,116,46,112,121]⟩ 427,.int 80 0,.int 3 0,.int 0 0,.int 0 0,.int 3 0,.ref 133,.bool true,.int 276 0,.ref 134,.none,.ref 135,.ref 136,.ref 137,.int 431 0,.int 80 0,.str ⟨#[47,99,108,97,105,109,47,99,117,116,46,112,121]⟩ 432] }
noncomputable def y147 : (o : Obj) ×' PLift (fnS (mI 6 1) { (default : FuncData) with qualname:=⟨#[95,65,99,99,117,109,117,108,97,116,111,114,46,112,117,115,104]⟩,globals:=3,closure:=[],defaults:=.none,kwdefaults:=.none,pyModule:=.str ⟨#[99,112,121,51,49,51,46,101,109,97,105,108,46,104,101,97,100,101,114]⟩ 289,code:=.ref 138 } = o):=⟨_,⟨by (conv => lhs;reduce)⟩⟩
noncomputable def zo_147 : Params → Obj:=fun _ => y147.1
noncomputable def zo_148 : Params → Obj:=fun P => { cls:=.type SZ.s2766695959194262286x5,data:=.seq #[.int 0 434] }
noncomputable def zo_154 : Params → Obj:=fun P => { cls:=.type SZ.s5856160107412720595x4,data:=.fields #[.str ⟨#[112,111,112,95,102,114,111,109]⟩ 435,.str ⟨#[95,65,99,99,117,109,117,108,97,116,111,114,46,112,111,112,95,102,114,111,109]⟩ 436,.str ⟨#[47,99,108,97,105,109,47,99,117,116,46,112,121]⟩ 437,.int 83 0,.int 2 0,.int 0 0,.int 0 0,.int 3 0,.ref 141,.bool true,.int 276 0,.ref 142,.none,.ref 143,.ref 144,.ref 145,.int 441 0,.int 83 0,.str ⟨#[47,99,108,97,105,109,47,99,117,116,46,112,121]⟩ 442] }
noncomputable def y155 : (o : Obj) ×' PLift (fnS (mI 6 2) { (default : FuncData) with qualname:=⟨#[95,65,99,99,117,109,117,108,97,116,111,114,46,112,111,112,95,102,114,111,109]⟩,globals:=3,closure:=[],defaults:=.ref 140,kwdefaults:=.none,pyModule:=.str ⟨#[99,112,121,51,49,51,46,101,109,97,105,108,46,104,101,97,100,101,114]⟩ 289,code:=.ref 146 } = o):=⟨_,⟨by (conv => lhs;reduce)⟩⟩
noncomputable def zo_155 : Params → Obj:=fun _ => y155.1
noncomputable def zo_162 : Params → Obj:=fun P => { cls:=.type SZ.s5856160107412720595x4,data:=.fields #[.str ⟨#[112,111,112]⟩ 444,.str ⟨#[95,65,99,99,117,109,117,108,97,116,111,114,46,112,111,112]⟩ 445,.str ⟨#[47,99,108,97,105,109,47,99,117,116,46,112,121]⟩ 446,.int 88 0,.int 1 0,.int 0 0,.int 0 0,.int 3 0,.ref 149,.bool true,.int 276 0,.ref 150,.none,.ref 151,.ref 152,.ref 153,.int 449 0,.int 88 0,.str ⟨#[47,99,108,97,105,109,47,99,117,116,46,112,121]⟩ 450] }
noncomputable def y163 : (o : Obj) ×' PLift (fnS (mI 6 3) { (default : FuncData) with qualname:=⟨#[95,65,99,99,117,109,117,108,97,116,111,114,46,112,111,112]⟩,globals:=3,closure:=[(⟨#[95,95,99,108,97,115,115,95,95]⟩,119)],defaults:=.none,kwdefaults:=.none,pyModule:=.str ⟨#[99,112,121,51,49,51,46,101,109,97,105,108,46,104,101,97,100,101,114]⟩ 289,code:=.ref 154,closureTuple:=.ref 148 } = o):=⟨_,⟨by (conv => lhs;reduce)⟩⟩
noncomputable def zo_163 : Params → Obj:=fun _ => y163.1
noncomputable def zo_165 : Params → Obj:=fun P => { cls:=.none,data:=.fields #[] }
noncomputable def zo_169 : Params → Obj:=fun P => { cls:=.type SZ.s5856160107412720595x4,data:=.fields #[.str ⟨#[95,95,108,101,110,95,95]⟩ 452,.str ⟨#[95,65,99,99,117,109,117,108,97,116,111,114,46,95,95,108,101,110,95,95]⟩ 453,.str ⟨#[47,99,108,97,105,109,47,99,117,116,46,112,121]⟩ 454,.int 93 0,.int 1 0,.int 0 0,.int 0 0,.int 3 0,.ref 156,.bool true,.int 276 0,.ref 157,.none,.ref 158,.ref 159,.ref 160,.int 456 0,.int 93 0,.str ⟨#[47,99,108,97,105,109,47,99,117,116,46,112,121]⟩ 457] }
noncomputable def y170 : (o : Obj) ×' PLift (fnS (mI 6 4) { (default : FuncData) with qualname:=⟨#[95,65,99,99,117,109,117,108,97,116,111,114,46,95,95,108,101,110,95,95]⟩,globals:=3,closure:=[],defaults:=.none,kwdefaults:=.none,pyModule:=.str ⟨#[99,112,121,51,49,51,46,101,109,97,105,108,46,104,101,97,100,101,114]⟩ 289,code:=.ref 161 } = o):=⟨_,⟨by (conv => lhs;reduce)⟩⟩
noncomputable def zo_170 : Params → Obj:=fun _ => y170.1
noncomputable def zo_172 : Params → Obj:=fun P => { cls:=.none,data:=.fields #[] }
noncomputable def zo_176 : Params → Obj:=fun P => { cls:=.type SZ.s5856160107412720595x4,data:=.fields #[.str ⟨#[95,95,115,116,114,95,95]⟩ 459,.str ⟨#[95,65,99,99,117,109,117,108,97,116,111,114,46,95,95,115,116,114,95,95]⟩ 460,.str ⟨#[47,99,108,97,105,109,47,99,117,116,46,112,121]⟩ 461,.int 96 0,.int 1 0,.int 0 0,.int 0 0,.int 3 0,.ref 163,.bool true,.int 276 0,.ref 164,.none,.ref 165,.ref 166,.ref 167,.int 463 0,.int 96 0,.str ⟨#[47,99,108,97,105,109,47,99,117,116,46,112,121]⟩ 464] }
noncomputable def y177 : (o : Obj) ×' PLift (fnS (mI 6 5) { (default : FuncData) with qualname:=⟨#[95,65,99,99,117,109,117,108,97,116,111,114,46,95,95,115,116,114,95,95]⟩,globals:=3,closure:=[],defaults:=.none,kwdefaults:=.none,pyModule:=.str ⟨#[99,112,121,51,49,51,46,101,109,97,105,108,46,104,101,97,100,101,114]⟩ 289,code:=.ref 168 } = o):=⟨_,⟨by (conv => lhs;reduce)⟩⟩
noncomputable def zo_177 : Params → Obj:=fun _ => y177.1
noncomputable def zo_178 : Params → Obj:=fun P => { cls:=.type SZ.s2766695959194262286x5,data:=.seq #[.none] }
noncomputable def zo_184 : Params → Obj:=fun P => { cls:=.type SZ.s5856160107412720595x4,data:=.fields #[.str ⟨#[114,101,115,101,116]⟩ 466,.str ⟨#[95,65,99,99,117,109,117,108,97,116,111,114,46,114,101,115,101,116]⟩ 467,.str ⟨#[47,99,108,97,105,109,47,99,117,116,46,112,121]⟩ 468,.int 99 0,.int 2 0,.int 0 0,.int 0 0,.int 3 0,.ref 171,.bool true,.int 276 0,.ref 172,.none,.ref 173,.ref 174,.ref 175,.int 471 0,.int 99 0,.str ⟨#[47,99,108,97,105,109,47,99,117,116,46,112,121]⟩ 472] }
noncomputable def y185 : (o : Obj) ×' PLift (fnS (mI 6 6) { (default : FuncData) with qualname:=⟨#[95,65,99,99,117,109,117,108,97,116,111,114,46,114,101,115,101,116]⟩,globals:=3,closure:=[],defaults:=.ref 170,kwdefaults:=.none,pyModule:=.str ⟨#[99,112,121,51,49,51,46,101,109,97,105,108,46,104,101,97,100,101,114]⟩ 289,code:=.ref 176 } = o):=⟨_,⟨by (conv => lhs;reduce)⟩⟩
noncomputable def zo_185 : Params → Obj:=fun _ => y185.1
noncomputable def zo_191 : Params → Obj:=fun P => { cls:=.type SZ.s5856160107412720595x4,data:=.fields #[.str ⟨#[105,115,95,111,110,108,121,119,115]⟩ 474,.str ⟨#[95,65,99,99,117,109,117,108,97,116,111,114,46,105,115,95,111,110,108,121,119,115]⟩ 475,.str ⟨#[47,99,108,97,105,109,47,99,117,116,46,112,121]⟩ 476,.int 105 0,.int 1 0,.int 0 0,.int 0 0,.int 3 0,.ref 178,.bool true,.int 276 0,.ref 179,.none,.ref 180,.ref 181,.ref 182,.int 478 0,.int 105 0,.str ⟨#[47,99,108,97,105,109,47,99,117,116,46,112,121]⟩ 479] }
noncomputable def y192 : (o : Obj) ×' PLift (fnS (mI 6 7) { (default : FuncData) with qualname:=⟨#[95,65,99,99,117,109,117,108,97,116,111,114,46,105,115,95,111,110,108,121,119,115]⟩,globals:=3,closure:=[],defaults:=.none,kwdefaults:=.none,pyModule:=.str ⟨#[99,112,121,51,49,51,46,101,109,97,105,108,46,104,101,97,100,101,114]⟩ 289,code:=.ref 183 } = o):=⟨_,⟨by (conv => lhs;reduce)⟩⟩
noncomputable def zo_192 : Params → Obj:=fun _ => y192.1
noncomputable def zo_199 : Params → Obj:=fun P => { cls:=.type SZ.s5856160107412720595x4,data:=.fields #[.str ⟨#[112,97,114,116,95,99,111,117,110,116]⟩ 481,.str ⟨#[95,65,99,99,117,109,117,108,97,116,111,114,46,112,97,114,116,95,99,111,117,110,116]⟩ 482,.str ⟨#[47,99,108,97,105,109,47,99,117,116,46,112,121]⟩ 483,.int 108 0,.int 1 0,.int 0 0,.int 0 0,.int 3 0,.ref 186,.bool true,.int 276 0,.ref 187,.none,.ref 188,.ref 189,.ref 190,.int 486 0,.int 108 0,.str ⟨#[47,99,108,97,105,109,47,99,117,116,46,112,121]⟩ 487] }
noncomputable def y200 : (o : Obj) ×' PLift (fnS (mI 6 8) { (default : FuncData) with qualname:=⟨#[95,65,99,99,117,109,117,108,97,116,111,114,46,112,97,114,116,95,99,111,117,110,116]⟩,globals:=3,closure:=[(⟨#[95,95,99,108,97,115,115,95,95]⟩,119)],defaults:=.none,kwdefaults:=.none,pyModule:=.str ⟨#[99,112,121,51,49,51,46,101,109,97,105,108,46,104,101,97,100,101,114]⟩ 289,code:=.ref 191,closureTuple:=.ref 185 } = o):=⟨_,⟨by (conv => lhs;reduce)⟩⟩
noncomputable def zo_200 : Params → Obj:=fun _ => y200.1
noncomputable def zo_202 : Params → Obj:=fun P => { cls:=.type SZ.s14018661285674007319x4,data:=.dict #[dE P ⟨#[95,95,109,111,100,117,108,101,95,95]⟩ 410 (.str ⟨#[99,112,121,51,49,51,46,101,109,97,105,108,46,104,101,97,100,101,114]⟩ 289),dE P ⟨#[95,95,102,105,114,115,116,108,105,110,101,110,111,95,95]⟩ 414 (.int 74 413),dE P ⟨#[95,95,105,110,105,116,95,95]⟩ 424 (.ref 132),dE P ⟨#[112,117,115,104]⟩ 433 (.ref 139),dE P ⟨#[112,111,112,95,102,114,111,109]⟩ 443 (.ref 147),dE P ⟨#[112,111,112]⟩ 451 (.ref 155),dE P ⟨#[95,95,108,101,110,95,95]⟩ 458 (.ref 162),dE P ⟨#[95,95,115,116,114,95,95]⟩ 465 (.ref 169),dE P ⟨#[114,101,115,101,116]⟩ 473 (.ref 177),dE P ⟨#[105,115,95,111,110,108,121,119,115]⟩ 480 (.ref 184),dE P ⟨#[112,97,114,116,95,99,111,117,110,116]⟩ 488 (.ref 192),dE P ⟨#[95,95,115,116,97,116,105,99,95,97,116,116,114,105,98,117,116,101,115,95,95]⟩ 490 (.ref 193),dE P ⟨#[95,95,100,105,99,116,95,95]⟩ 493 (.ref 196),dE P ⟨#[95,95,119,101,97,107,114,101,102,95,95]⟩ 495 (.ref 197),dE P ⟨#[95,95,100,111,99,95,95]⟩ 496 .none] 5 }
noncomputable def zo_203 : Params → Obj:=fun P => { cls:=.type SZ.s17162191345867700912x4,data:=.cls { name:=⟨#[95,65,99,99,117,109,117,108,97,116,111,114]⟩,bases:=[.type SZ.s9222952809800978799x4],mro:=[.ref 195,.type SZ.s9222952809800978799x4,.type SZ.s2742458400755230247x6],ns:=194,qualname:=⟨#[95,65,99,99,117,109,117,108,97,116,111,114]⟩ },slots:=#[some (.ref 116),none,some (.str ⟨#[95,65,99,99,117,109,117,108,97,116,111,114]⟩ 403),some (.str ⟨#[95,65,99,99,117,109,117,108,97,116,111,114]⟩ 411),some (.builtin SZ.s896114127876100448x12),some (.bool true)] }
noncomputable def zo_211 : Params → Obj:=fun P => { cls:=.type SZ.s5856160107412720595x4,data:=.fields #[.str ⟨#[95,100,105,118,50,110,49,110]⟩ 503,.str ⟨#[95,100,105,118,50,110,49,110]⟩ 504,.str ⟨#[47,99,108,97,105,109,47,99,117,116,46,112,121]⟩ 505,.int 112 0,.int 3 0,.int 0 0,.int 0 0,.int 3 0,.ref 200,.bool true,.int 276 0,.ref 201,.none,.ref 202,.ref 203,.ref 204,.int 517 0,.int 112 0,.str ⟨#[47,99,108,97,105,109,47,99,117,116,46,112,121]⟩ 518] }
noncomputable def y212 : (o : Obj) ×' PLift (fnS (stI 9) { (default : FuncData) with qualname:=⟨#[95,100,105,118,50,110,49,110]⟩,globals:=3,closure:=[],defaults:=.none,kwdefaults:=.none,pyModule:=.str ⟨#[99,112,121,51,49,51,46,95,112,121,108,111,110,103]⟩ 499,code:=.ref 205 } = o):=⟨_,⟨by (conv => lhs;reduce)⟩⟩
noncomputable def zo_212 : Params → Obj:=fun _ => y212.1
noncomputable def zo_218 : Params → Obj:=fun P => { cls:=.type SZ.s5856160107412720595x4,data:=.fields #[.str ⟨#[95,100,105,118,51,110,50,110]⟩ 520,.str ⟨#[95,100,105,118,51,110,50,110]⟩ 521,.str ⟨#[47,99,108,97,105,109,47,99,117,116,46,112,121]⟩ 522,.int 128 0,.int 6 0,.int 0 0,.int 0 0,.int 3 0,.ref 207,.bool true,.int 276 0,.ref 208,.none,.ref 209,.ref 210,.ref 211,.int 531 0,.int 128 0,.str ⟨#[47,99,108,97,105,109,47,99,117,116,46,112,121]⟩ 532] }
noncomputable def y219 : (o : Obj) ×' PLift (fnS (stI 10) { (default : FuncData) with qualname:=⟨#[95,100,105,118,51,110,50,110]⟩,globals:=3,closure:=[],defaults:=.none,kwdefaults:=.none,pyModule:=.str ⟨#[99,112,121,51,49,51,46,95,112,121,108,111,110,103]⟩ 499,code:=.ref 212 } = o):=⟨_,⟨by (conv => lhs;reduce)⟩⟩
noncomputable def zo_219 : Params → Obj:=fun _ => y219.1
noncomputable def zo_221 : Params → Obj:=fun P => { cls:=.none,data:=.fields #[] }
noncomputable def zo_225 : Params → Obj:=fun P => { cls:=.type SZ.s5856160107412720595x4,data:=.fields #[.str ⟨#[95,105,110,116,50,100,105,103,105,116,115]⟩ 534,.str ⟨#[95,105,110,116,50,100,105,103,105,116,115]⟩ 535,.str ⟨#[47,99,108,97,105,109,47,99,117,116,46,112,121]⟩ 536,.int 138 0,.int 2 0,.int 0 0,.int 0 0,.int 3 0,.ref 214,.bool true,.int 276 0,.ref 215,.none,.ref 216,.ref 217,.ref 218,.int 542 0,.int 138 0,.str ⟨#[47,99,108,97,105,109,47,99,117,116,46,112,121]⟩ 543] }
noncomputable def y226 : (o : Obj) ×' PLift (fnS (stI 11) { (default : FuncData) with qualname:=⟨#[95,105,110,116,50,100,105,103,105,116,115]⟩,globals:=3,closure:=[],defaults:=.none,kwdefaults:=.none,pyModule:=.str ⟨#[99,112,121,51,49,51,46,95,112,121,108,111,110,103]⟩ 499,code:=.ref 219 } = o):=⟨_,⟨by (conv => lhs;reduce)⟩⟩
noncomputable def zo_226 : Params → Obj:=fun _ => y226.1
noncomputable def zo_228 : Params → Obj:=fun P => { cls:=.none,data:=.fields #[] }
noncomputable def zo_232 : Params → Obj:=fun P => { cls:=.type SZ.s5856160107412720595x4,data:=.fields #[.str ⟨#[95,100,105,103,105,116,115,50,105,110,116]⟩ 545,.str ⟨#[95,100,105,103,105,116,115,50,105,110,116]⟩ 546,.str ⟨#[47,99,108,97,105,109,47,99,117,116,46,112,121]⟩ 547,.int 154 0,.int 2 0,.int 0 0,.int 0 0,.int 3 0,.ref 221,.bool true,.int 276 0,.ref 222,.none,.ref 223,.ref 224,.ref 225,.int 553 0,.int 154 0,.str ⟨#[47,99,108,97,105,109,47,99,117,116,46,112,121]⟩ 554] }
noncomputable def y233 : (o : Obj) ×' PLift (fnS (stI 12) { (default : FuncData) with qualname:=⟨#[95,100,105,103,105,116,115,50,105,110,116]⟩,globals:=3,closure:=[],defaults:=.none,kwdefaults:=.none,pyModule:=.str ⟨#[99,112,121,51,49,51,46,95,112,121,108,111,110,103]⟩ 499,code:=.ref 226 } = o):=⟨_,⟨by (conv => lhs;reduce)⟩⟩
noncomputable def zo_233 : Params → Obj:=fun _ => y233.1
noncomputable def zo_239 : Params → Obj:=fun P => { cls:=.type SZ.s5856160107412720595x4,data:=.fields #[.str ⟨#[95,100,105,118,109,111,100,95,112,111,115]⟩ 556,.str ⟨#[95,100,105,118,109,111,100,95,112,111,115]⟩ 557,.str ⟨#[47,99,108,97,105,109,47,99,117,116,46,112,121]⟩ 558,.int 163 0,.int 2 0,.int 0 0,.int 0 0,.int 3 0,.ref 228,.bool true,.int 276 0,.ref 229,.none,.ref 230,.ref 231,.ref 232,.int 568 0,.int 163 0,.str ⟨#[47,99,108,97,105,109,47,99,117,116,46,112,121]⟩ 569] }
noncomputable def y240 : (o : Obj) ×' PLift (fnS (stI 13) { (default : FuncData) with qualname:=⟨#[95,100,105,118,109,111,100,95,112,111,115]⟩,globals:=3,closure:=[],defaults:=.none,kwdefaults:=.none,pyModule:=.str ⟨#[99,112,121,51,49,51,46,95,112,121,108,111,110,103]⟩ 499,code:=.ref 233 } = o):=⟨_,⟨by (conv => lhs;reduce)⟩⟩
noncomputable def zo_240 : Params → Obj:=fun _ => y240.1
noncomputable def zo_246 : Params → Obj:=fun P => { cls:=.type SZ.s5856160107412720595x4,data:=.fields #[.str ⟨#[105,110,116,95,100,105,118,109,111,100]⟩ 571,.str ⟨#[105,110,116,95,100,105,118,109,111,100]⟩ 572,.str ⟨#[47,99,108,97,105,109,47,99,117,116,46,112,121]⟩ 573,.int 174 0,.int 2 0,.int 0 0,.int 0 0,.int 3 0,.ref 235,.bool true,.int 276 0,.ref 236,.none,.ref 237,.ref 238,.ref 239,.int 578 0,.int 174 0,.str ⟨#[47,99,108,97,105,109,47,99,117,116,46,112,121]⟩ 579] }
noncomputable def y247 : (o : Obj) ×' PLift (fnS (stI 14) { (default : FuncData) with qualname:=⟨#[105,110,116,95,100,105,118,109,111,100]⟩,globals:=3,closure:=[],defaults:=.none,kwdefaults:=.none,pyModule:=.str ⟨#[99,112,121,51,49,51,46,95,112,121,108,111,110,103]⟩ 499,code:=.ref 240 } = o):=⟨_,⟨by (conv => lhs;reduce)⟩⟩
noncomputable def zo_247 : Params → Obj:=fun _ => y247.1
noncomputable def zo_248 : Params → Obj:=fun P => { cls:=.type SZ.s2766695959194262286x5,data:=.seq #[.int 14 0,.int 4 0,.int 0 0,.int 1 0,.int 1 0,.int 6 0,.int 1 0,.int 16 0,.int 46 0,.int 1 0] }
noncomputable def zo_249 : Params → Obj:=fun P => { cls:=.type SZ.s12171344214640291687x10,data:=.fields #[.str ⟨#[40,63,109,41,94,92,46]⟩ 584,.int 40 597,.int 0 0,.none,.none,.ref 245,.int 0 0] }
noncomputable def zo_250 : Params → Obj:=fun P => { cls:=.type SZ.s2766695959194262286x5,data:=.seq #[.int 14 0,.int 9 0,.int 4 0,.int 1 0,.int 2 0,.int 16 0,.int 10 0,.int 16 0,.int 13 0,.int 0 0,.int 7 0,.int 7 0,.int 16 0,.int 13 0,.int 16 0,.int 10 0,.int 15 0,.int 18 0,.int 5 0,.int 16 0,.int 10 0,.int 15 0,.int 13 0,.int 11 0,.int 16 0,.int 13 0,.int 5 0,.int 5 0,.int 0 0,.int 16 0,.int 10 0,.int 1 0,.int 15 0,.int 2 0,.int 0 0,.int 1 0] }
noncomputable def zo_251 : Params → Obj:=fun P => { cls:=.type SZ.s12171344214640291687x10,data:=.fields #[.str ⟨#[40,63,58,92,114,92,110,124,92,110,124,92,114,40,63,33,92,110,41,41]⟩ 600,.int 32 639,.int 0 0,.none,.none,.ref 250,.int 0 0] }
noncomputable def zo_257 : Params → Obj:=fun P => { cls:=.type SZ.s5856160107412720595x4,data:=.fields #[.str ⟨#[113,117,111,116,101,100,97,116,97]⟩ 643,.str ⟨#[113,117,111,116,101,100,97,116,97]⟩ 644,.str ⟨#[47,99,108,97,105,109,47,99,117,116,46,112,121]⟩ 645,.int 189 0,.int 1 0,.int 0 0,.int 0 0,.int 3 0,.ref 252,.bool true,.int 276 0,.ref 253,.none,.ref 254,.ref 255,.ref 256,.int 647 0,.int 189 0,.str ⟨#[47,99,108,97,105,109,47,99,117,116,46,112,121]⟩ 648] }
noncomputable def y258 : (o : Obj) ×' PLift (fnS (stI 19) { (default : FuncData) with qualname:=⟨#[113,117,111,116,101,100,97,116,97]⟩,globals:=3,closure:=[],defaults:=.none,kwdefaults:=.none,pyModule:=.str ⟨#[99,112,121,51,49,51,46,115,109,116,112,108,105,98]⟩ 581,code:=.ref 257 } = o):=⟨_,⟨by (conv => lhs;reduce)⟩⟩
noncomputable def zo_258 : Params → Obj:=fun _ => y258.1
noncomputable def zo_264 : Params → Obj:=fun P => { cls:=.type SZ.s5856160107412720595x4,data:=.fields #[.str ⟨#[95,108,97,119,95,102,111,108,100,101,100]⟩ 652,.str ⟨#[95,108,97,119,95,102,111,108,100,101,100]⟩ 653,.str ⟨#[47,99,108,97,105,109,47,99,117,116,46,112,121]⟩ 654,.int 192 0,.int 4 0,.int 0 0,.int 0 0,.int 3 0,.ref 259,.bool true,.int 276 0,.ref 260,.none,.ref 261,.ref 262,.ref 263,.int 661 0,.int 192 0,.str ⟨#[47,99,108,97,105,109,47,99,117,116,46,112,121]⟩ 662] }
noncomputable def y265 : (o : Obj) ×' PLift (fnS (stI 21) { (default : FuncData) with qualname:=⟨#[95,108,97,119,95,102,111,108,100,101,100]⟩,globals:=3,closure:=[],defaults:=.none,kwdefaults:=.none,pyModule:=.str ⟨#[108,97,119,95,115,114,48,48,55,51,95,48,49]⟩ 650,code:=.ref 264 } = o):=⟨_,⟨by (conv => lhs;reduce)⟩⟩
noncomputable def zo_265 : Params → Obj:=fun _ => y265.1
noncomputable def zo_269 : Params → Obj:=fun P => { cls:=.type SZ.s5856160107412720595x4,data:=.fields #[.str ⟨#[108,97,119]⟩ 664,.str ⟨#[108,97,119]⟩ 665,.str ⟨#[47,99,108,97,105,109,47,99,117,116,46,112,121]⟩ 666,.int 201 0,.int 1 0,.int 0 0,.int 0 0,.int 3 0,.ref 266,.bool true,.int 276 0,.ref 267,.none,.none,.none,.ref 268,.int 667 0,.int 201 0,.str ⟨#[47,99,108,97,105,109,47,99,117,116,46,112,121]⟩ 668] }
noncomputable def y270 : (o : Obj) ×' PLift (fnS (stI 22) { (default : FuncData) with qualname:=⟨#[108,97,119]⟩,globals:=3,closure:=[],defaults:=.none,kwdefaults:=.none,pyModule:=.str ⟨#[108,97,119,95,115,114,48,48,55,51,95,48,49]⟩ 650,code:=.ref 269 } = o):=⟨_,⟨by (conv => lhs;reduce)⟩⟩
noncomputable def zo_270 : Params → Obj:=fun _ => y270.1
noncomputable def heap_270 : Params → Frag:=fun P => [(0,zo_39 P),(2,zo_41 P),(3,zo_42 P),(51,zo_67 P),(52,zo_68 P),(58,zo_74 P),(59,zo_75 P),(72,zo_88 P),(73,zo_89 P),(107,zo_123 P),(108,zo_124 P),(110,zo_126 P),(111,zo_127 P),(119,zo_131 P),(124,zo_132 P),(131,zo_139 P),(132,zo_140 P),(138,zo_146 P),(139,zo_147 P),(140,zo_148 P),(146,zo_154 P),(147,zo_155 P),(154,zo_162 P),(155,zo_163 P),(157,zo_165 P),(161,zo_169 P),(162,zo_170 P),(164,zo_172 P),(168,zo_176 P),(169,zo_177 P),(170,zo_178 P),(176,zo_184 P),(177,zo_185 P),(183,zo_191 P),(184,zo_192 P),(191,zo_199 P),(192,zo_200 P),(194,zo_202 P),(195,zo_203 P),(205,zo_211 P),(206,zo_212 P),(212,zo_218 P),(213,zo_219 P),(215,zo_221 P),(219,zo_225 P),(220,zo_226 P),(222,zo_228 P),(226,zo_232 P),(227,zo_233 P),(233,zo_239 P),(234,zo_240 P),(240,zo_246 P),(241,zo_247 P),(245,zo_248 P),(246,zo_249 P),(250,zo_250 P),(251,zo_251 P),(257,zo_257 P),(258,zo_258 P),(264,zo_264 P),(265,zo_265 P),(269,zo_269 P),(270,zo_270 P)]
end hd
end
section
open PySem PySem.W PySem.Calls PyProof.Rows
private theorem lenS {α : Type} {l : List α} {n : Nat} (h : l.length = n + 1) : ∃ a r,l = a :: r ∧ r.length = n:=by
 cases l with
 | nil => cases h
 | cons a r => exact ⟨a,r,rfl,Nat.succ.inj h⟩
private theorem len1 {α : Type} {l : List α} (h : l.length = 1) : ∃ a,l = [a]:=by
 obtain ⟨a,r,rfl,h2⟩:=lenS h
 cases List.length_eq_zero_iff.mp h2
 exact ⟨a,rfl⟩
private theorem len2 {α : Type} {l : List α} (h : l.length = 2) : ∃ a b,l = [a,b]:=by
 obtain ⟨a,r,rfl,h2⟩:=lenS h
 obtain ⟨b,rfl⟩:=len1 h2
 exact ⟨a,b,rfl⟩
private theorem len3 {α : Type} {l : List α} (h : l.length = 3) : ∃ a b c,l = [a,b,c]:=by
 obtain ⟨a,r,rfl,h2⟩:=lenS h
 obtain ⟨b,c,rfl⟩:=len2 h2
 exact ⟨a,b,c,rfl⟩
private theorem len4 {α : Type} {l : List α} (h : l.length = 4) : ∃ a b c d,l = [a,b,c,d]:=by
 obtain ⟨a,r,rfl,h2⟩:=lenS h
 obtain ⟨b,c,d,rfl⟩:=len3 h2
 exact ⟨a,b,c,d,rfl⟩
private theorem len5 {α : Type} {l : List α} (h : l.length = 5) : ∃ a b c d e,l = [a,b,c,d,e]:=by
 obtain ⟨a,r,rfl,h2⟩:=lenS h
 obtain ⟨b,c,d,e,rfl⟩:=len4 h2
 exact ⟨a,b,c,d,e,rfl⟩
private theorem len6 {α : Type} {l : List α} (h : l.length = 6) : ∃ a b c d e f,l = [a,b,c,d,e,f]:=by
 obtain ⟨a,r,rfl,h2⟩:=lenS h
 obtain ⟨b,c,d,e,f,rfl⟩:=len5 h2
 exact ⟨a,b,c,d,e,f,rfl⟩
inductive PV where
 | none
 | bool (b : Bool)
 | int (i : Int)
 | str (s : PySem.Str)
 | tup (l : List PV)
 | lst (l : List PV)
 | val (v : Value)
inductive SeqAs (h : Heap) (mu : List Addr) (c : String) (S : List Value → Prop) (v : Value) : Prop
 | mk (a : Addr) (vs : List Value) (n : Nat) (e : v = .ref a) (hm : a ∉ mu) (ho : h.get? a = some { cls:=.type c,data:=.seq (List.toArray vs) n }) (hs : S vs) : SeqAs h mu c S v
inductive ConsAs (S : Value → Prop) (R : List Value → Prop) (vs : List Value) : Prop
 | mk (v : Value) (r : List Value) (e : vs = v :: r) (x : S v) (y : R r) : ConsAs S R vs
mutual
noncomputable def Sim (h : Heap) (mu : List Addr) : PV → Value → Prop
 | .none,v => v = .none
 | .bool b,v => v = .bool b
 | .int i,v => ∃ t,v = .int i t
 | .str x,v => ∃ t,v = .str x t
 | .tup l,v => SeqAs h mu "tuple" (fun vs => Sims h mu l vs) v
 | .lst l,v => SeqAs h mu "list" (fun vs => Sims h mu l vs) v
 | .val c,v => v = c
noncomputable def Sims (h : Heap) (mu : List Addr) : List PV → List Value → Prop
 | [],vs => vs = []
 | p :: ps,vs => ConsAs (fun v => Sim h mu p v) (fun r => Sims h mu ps r) vs
end
mutual
private theorem Sim.keeps {h h' : Heap} {mu mu' : List Addr} (hm : ∀ a o,a ∉ mu → h.get? a = some o → a ∉ mu') (k : ∀ a o,a ∉ mu → (o.cls = .type "list" ∨ o.cls = .type "tuple") → h.get? a = some o → h'.get? a = some o) :
  ∀ {p : PV} {v : Value},Sim h mu p v → Sim h' mu' p v
 | .none,_,x => x
 | .bool _,_,x => x
 | .int _,_,x => x
 | .str _,_,x => x
 | .val _,_,x => x
 | .tup l,_,⟨a,vs,n,e,ha,ho,hs⟩ => ⟨a,vs,n,e,hm a _ ha ho,k a _ ha (.inr rfl) ho,Sims.keeps hm k hs⟩
 | .lst l,_,⟨a,vs,n,e,ha,ho,hs⟩ => ⟨a,vs,n,e,hm a _ ha ho,k a _ ha (.inl rfl) ho,Sims.keeps hm k hs⟩
private theorem Sims.keeps {h h' : Heap} {mu mu' : List Addr} (hm : ∀ a o,a ∉ mu → h.get? a = some o → a ∉ mu') (k : ∀ a o,a ∉ mu → (o.cls = .type "list" ∨ o.cls = .type "tuple") → h.get? a = some o → h'.get? a = some o) :
  ∀ {l : List PV} {vs : List Value},Sims h mu l vs → Sims h' mu' l vs
 | [],_,x => x
 | _ :: _,_,⟨v,r,e,x,y⟩ => ⟨v,r,e,Sim.keeps hm k x,Sims.keeps hm k y⟩
end
private theorem Sims.length {h : Heap} {mu : List Addr} : ∀ {l : List PV} {vs : List Value},Sims h mu l vs → vs.length = l.length
 | [],_,x => by cases x;rfl
 | _ :: _,_,⟨_,_,e,_,y⟩ => by subst e;simp [Sims.length y]
private theorem Sims.get {h : Heap} {mu : List Addr} : ∀ {l : List PV} {vs : List Value},Sims h mu l vs → ∀ (i : Nat) (p : PV),l[i]? = some p → ∃ v,vs[i]? = some v ∧ Sim h mu p v
 | [],_,_,i,p,e => by simp at e
 | q :: l,_,⟨v,r,e,x,y⟩,i,p,hi => by
  subst e
  cases i with
  | zero => simp at hi;subst hi;exact ⟨v,by simp,x⟩
  | succ i => simp at hi ⊢;exact Sims.get y i p hi
private theorem Sims.append {h : Heap} {mu : List Addr} : ∀ {l l' : List PV} {vs vs' : List Value},Sims h mu l vs → Sims h mu l' vs' → Sims h mu (l ++ l') (vs ++ vs')
 | [],_,_,_,x,y => by cases x;exact y
 | _ :: _,_,_,_,⟨v,r,e,x,y⟩,z => by subst e;exact ⟨v,_,rfl,x,Sims.append y z⟩
private theorem Sims.take {h : Heap} {mu : List Addr} : ∀ (k : Nat) {l : List PV} {vs : List Value},Sims h mu l vs → Sims h mu (l.take k) (vs.take k)
 | 0,_,_,_ => rfl
 | _ + 1,[],_,x => by cases x;rfl
 | k + 1,_ :: _,_,⟨v,r,e,x,y⟩ => by subst e;exact ⟨v,_,rfl,x,Sims.take k y⟩
private theorem Sims.drop {h : Heap} {mu : List Addr} : ∀ (k : Nat) {l : List PV} {vs : List Value},Sims h mu l vs → Sims h mu (l.drop k) (vs.drop k)
 | 0,_,_,x => x
 | _ + 1,[],_,x => by cases x;rfl
 | k + 1,_ :: _,_,⟨v,r,e,x,y⟩ => by subst e;exact Sims.drop k y
noncomputable def TabOk (mu : List Addr) (h : Heap) (P : Addr) (q : PySem.Str) : Prop:=
 ∃ ps,h.get? P = some (tabObj ps) ∧ TriplesOk ps.toList ∧ ∀ pos c',codeAmong pos ps.toList = some c' → ∃ c,c' = .ref c ∧ c ∉ mu ∧ h.CodeRec c' q
structure Cfg where
 H : Heap
 T : List (Addr × Addr × PySem.Str)
 os : OsState
 K : Frag
 mg : PySem.Str → Option Value
noncomputable def Cfg.tabs (C : Cfg) : List Addr:=C.T.map (·.2.1)
structure Ok (C : Cfg) (mu : List Addr) (s : Shared) : Prop where
 old : ∀ b o,C.H.get? b = some o → b ∉ C.tabs → s.heap.get? b = some o
 tab : ∀ x ∈ C.T,TabOk mu s.heap x.2.1 x.2.2
 code : ∀ x ∈ C.T,CodeHd C.H x.1 x.2.1 ∧ x.1 ∉ C.tabs ∧ ∃ o,C.H.get? x.2.1 = some o
 live : ∀ a ∈ mu,C.H.get? a = none ∧ ∃ o,s.heap.get? a = some o
 gens : AllBare s.gens
 os : s.os = C.os
 kin : C.K.In C.H
 kt : ∀ a ∈ C.tabs,C.K.lookup a = none
 lim : C.H.NoLimit ∧ cStatics ∉ C.tabs
 glob : C.H.Ns mainGlobals C.mg ∧ mainGlobals ∉ C.tabs
 bmod : ∃ bm ob,C.mg "__builtins__" = some (.ref bm) ∧ bm ≠ builtinsNs ∧ bm ≠ mainGlobals ∧ bm ∉ C.tabs ∧ C.H.get? bm = some ob ∧ ob.cls = .type "module" ∧ ob.dict = some builtinsNs ∧ ob.data = .plain
structure Kp (C : Cfg) (mu : List Addr) (s s' : Shared) : Prop where
 keep : ∀ b o,b ∉ mu → b ∉ C.tabs → s.heap.get? b = some o → s'.heap.get? b = some o
section
variable {C : Cfg} {mu mu' : List Addr} {s s' s'' : Shared}
private theorem Kp.refl : Kp C mu s s:=⟨fun _ _ _ _ e => e⟩
private theorem Kp.trans (x : Kp C mu s s') (y : Kp C mu s' s'') : Kp C mu s s'':=⟨fun b o h1 h2 e => y.keep b o h1 h2 (x.keep b o h1 h2 e)⟩
private theorem Kp.mono (x : Kp C mu s s') (h : ∀ a ∈ mu,a ∈ mu') : Kp C mu' s s':=⟨fun b o h1 h2 e => x.keep b o (fun q => h1 (h b q)) h2 e⟩
private theorem Kp.of_keep {h' : Heap} {tk : Nat} (k : ∀ b o,s.heap.get? b = some o → h'.get? b = some o) : Kp C mu s { s with heap:=h',toks:=tk }:=⟨fun b o _ _ e => k b o e⟩
private theorem Ok.notTab (O : Ok C mu s) {a : Addr} (ha : a ∈ mu) : a ∉ C.tabs:=fun q => by
 obtain ⟨x,hx,rfl⟩:=List.mem_map.mp q
 obtain ⟨o,this⟩:=(O.code x hx).2.2
 rw [(O.live _ ha).1] at this;cases this
private theorem Ok.sub (O : Ok C mu s) (h : ∀ a ∈ mu',a ∈ mu) : Ok C mu' s:=
 ⟨O.old,fun x hx => let ⟨ps,a,b,c⟩:=O.tab x hx;⟨ps,a,b,fun pos c' e => let ⟨d,e1,e2,e3⟩:=c pos c' e;⟨d,e1,fun q => e2 (h _ q),e3⟩⟩,O.code,fun a ha => O.live a (h a ha),O.gens,O.os,O.kin,O.kt,O.lim,O.glob,O.bmod⟩
private theorem Ok.step {h' : Heap} {tk : Nat} (O : Ok C mu s) (k : ∀ b o,b ∉ mu → s.heap.get? b = some o → h'.get? b = some o) (hm : ∀ a ∈ mu,∃ o,h'.get? a = some o) : Ok C mu { s with heap:=h',toks:=tk } where
 old:=fun b o e ht => k b o (fun q => by rw [(O.live b q).1] at e;cases e) (O.old b o e ht)
 tab:=fun x hx => by
  obtain ⟨ps,a,b,c⟩:=O.tab x hx
  have hP : x.2.1 ∉ mu:=fun q => O.notTab q (List.mem_map_of_mem hx)
  refine ⟨ps,k _ _ hP a,b,fun pos c' e => ?_⟩
  obtain ⟨d,e1,e2,e3⟩:=c pos c' e
  refine ⟨d,e1,e2,?_⟩
  obtain ⟨c₁,o,vs,t,f1,f2,f3⟩:=e3
  subst e1
  cases f1
  exact ⟨_,o,vs,t,rfl,k _ _ e2 f2,f3⟩
 code:=O.code
 live:=fun a ha => ⟨(O.live a ha).1,hm a ha⟩
 gens:=O.gens
 os:=O.os
 kin:=O.kin
 kt:=O.kt
 lim:=O.lim
 glob:=O.glob
 bmod:=O.bmod
private theorem Ok.tok {tk : Nat} (O : Ok C mu s) : Ok C mu { s with toks:=tk }:=O.step (h':=s.heap) (fun _ _ _ e => e) fun a ha => (O.live a ha).2
private theorem Ok.keep {h' : Heap} {tk : Nat} (O : Ok C mu s) (k : ∀ b o,s.heap.get? b = some o → h'.get? b = some o) : Ok C mu { s with heap:=h',toks:=tk }:=
 O.step (fun b o _ e => k b o e) fun a ha => let ⟨o,e⟩:=(O.live a ha).2;⟨o,k a o e⟩
private theorem Ok.push {o : Obj} {tk : Nat} (O : Ok C mu s) : Ok C mu { s with heap:=s.heap.push o,toks:=tk }:=O.keep fun _ _ e => Heap.get?_push_of_some o e
private theorem Ok.add {a : Addr} (O : Ok C mu s) (hn : C.H.get? a = none) {o : Obj} (ha : s.heap.get? a = some o) (hc : ∀ x ∈ C.T,∀ ps,s.heap.get? x.2.1 = some (tabObj ps) → ∀ pos c',codeAmong pos ps.toList = some c' → c' ≠ .ref a) : Ok C (a :: mu) s where
 old:=O.old
 tab:=fun x hx => by
  obtain ⟨ps,h1,h2,h3⟩:=O.tab x hx
  refine ⟨ps,h1,h2,fun pos c' e => ?_⟩
  obtain ⟨d,e1,e2,e3⟩:=h3 pos c' e
  refine ⟨d,e1,fun q => ?_,e3⟩
  rcases List.mem_cons.mp q with rfl | q
  ·exact hc x hx ps h1 pos c' e e1
  ·exact e2 q
 code:=O.code
 live:=fun b hb => by
  rcases List.mem_cons.mp hb with rfl | hb
  ·exact ⟨hn,o,ha⟩
  ·exact O.live b hb
 gens:=O.gens
 os:=O.os
 kin:=O.kin
 kt:=O.kt
 lim:=O.lim
 glob:=O.glob
 bmod:=O.bmod
private theorem Ok.fresh {a : Addr} {h' : Heap} {tk : Nat} {o : Obj} (O : Ok C mu s) (ha : s.heap.get? a = none) (ho : h'.get? a = some o) (k : ∀ b o,s.heap.get? b = some o → h'.get? b = some o) (hT : a ∉ C.tabs) : Ok C (a :: mu) { s with heap:=h',toks:=tk }:=by
 refine (O.keep (tk:=tk) k).add ?_ ho ?_
 ·cases q : C.H.get? a with
  | none => rfl
  | some x => rw [O.old a x q hT] at ha;cases ha
 ·intro x hx ps hps pos c' e q
  subst q
  obtain ⟨ps',h1,h2,h3⟩:=O.tab x hx
  have:=k _ _ h1
  have e' : tabObj ps' = tabObj ps:=Option.some.inj (this.symm.trans hps)
  have : ps' = ps:=by injection e' with _ _ e3;injection e3
  subst this
  obtain ⟨d,e1,_,e3⟩:=h3 pos _ e
  cases e1
  obtain ⟨c₁,o₁,_,_,f1,f2,_⟩:=e3
  cases f1
  rw [f2] at ha;cases ha
private theorem Ok.tabAlive (O : Ok C mu s) {P : Addr} (h : P ∈ C.tabs) : ∃ o,s.heap.get? P = some o:=by
 obtain ⟨x,hx,rfl⟩:=List.mem_map.mp h
 obtain ⟨ps,e,_⟩:=O.tab x hx
 exact ⟨_,e⟩
private theorem Ok.fresh' {a : Addr} (O : Ok C mu s) (ha : s.heap.get? a = none) : a ∉ C.tabs ∧ a ∉ mu:=by
 constructor
 ·intro q
  obtain ⟨o,e⟩:=O.tabAlive q
  rw [ha] at e;cases e
 ·intro q
  obtain ⟨o,e⟩:=(O.live a q).2
  rw [ha] at e;cases e
private theorem Ok.K (O : Ok C mu s) : C.K.In s.heap:=fun a o e => O.old a o (O.kin a o e) fun q => by rw [O.kt a q] at e;cases e
private theorem Ok.nolimit (O : Ok C mu s) : s.heap.NoLimit:=by
 obtain ⟨mc,⟨o,es,ep,ho,r⟩,h⟩:=O.lim.1
 exact ⟨mc,⟨o,es,ep,O.old _ _ ho O.lim.2,r⟩,h⟩
private theorem Ok.globals (O : Ok C mu s) : s.heap.Ns mainGlobals C.mg:=by
 obtain ⟨⟨o,es,ep,ho,r⟩,h⟩:=O.glob
 exact ⟨o,es,ep,O.old _ _ ho h,r⟩
private theorem Ok.builtinsAt (O : Ok C mu s) {P : Addr} (hP : P ∈ C.tabs) : s.heap.BuiltinsAt C.mg P:=by
 obtain ⟨bm,ob,h1,h2,h3,h4,h5,h6⟩:=O.bmod
 exact ⟨bm,ob,h1,h2,h3,fun q => h4 (q ▸ hP),O.old _ _ h5 h4,h6⟩
private theorem Ok.size_none (s : Shared) : s.heap.get? s.heap.objs.size = none:=by
 cases q : s.heap.get? s.heap.objs.size with
 | none => rfl
 | some o => exact absurd (Heap.lt_size q) (Nat.lt_irrefl _)
private theorem Ok.seqNotTab (O : Ok C mu s) {a : Addr} {o : Obj} (h : o.cls = .type "list" ∨ o.cls = .type "tuple") (e : s.heap.get? a = some o) : a ∉ C.tabs:=fun q => by
 obtain ⟨x,hx,rfl⟩:=List.mem_map.mp q
 obtain ⟨ps,e',_⟩:=O.tab x hx
 rw [e] at e'
 cases e'
 rcases h with h | h <;> cases h
private theorem Sim.kp {p : PV} {v : Value} {nu : List Addr} (O : Ok C mu s) (hmu : ∀ a ∈ nu,a ∈ mu') (x : Sim s.heap mu' p v) (k : Kp C nu s s') : Sim s'.heap mu' p v:=
 x.keeps (fun _ _ h _ => h) fun a o h hc e => k.keep a o (fun q => h (hmu a q)) (O.seqNotTab hc e) e
private theorem Sims.kp {p : List PV} {v : List Value} {nu : List Addr} (O : Ok C mu s) (hmu : ∀ a ∈ nu,a ∈ mu') (x : Sims s.heap mu' p v) (k : Kp C nu s s') : Sims s'.heap mu' p v:=
 x.keeps (fun _ _ h _ => h) fun a o h hc e => k.keep a o (fun q => h (hmu a q)) (O.seqNotTab hc e) e
private theorem Sim.kp0 {p : PV} {v : Value} (O : Ok C mu s) (x : Sim s.heap mu' p v) (k : Kp C [] s s') : Sim s'.heap mu' p v:=x.kp (nu:=[]) O (fun _ h => nomatch h) k
private theorem Sims.kp0 {p : List PV} {v : List Value} (O : Ok C mu s) (x : Sims s.heap mu' p v) (k : Kp C [] s s') : Sims s'.heap mu' p v:=x.kp (nu:=[]) O (fun _ h => nomatch h) k
private theorem Sim.new {p : PV} {v : Value} {a : Addr} {h : Heap} (x : Sim h mu p v) (ha : h.get? a = none) : Sim h (a :: mu) p v:=
 x.keeps (fun b o hb e q => by rcases List.mem_cons.mp q with rfl | q;(rw [ha] at e;cases e);exact hb q) fun _ _ _ _ e => e
private theorem Sims.new {p : List PV} {v : List Value} {a : Addr} {h : Heap} (x : Sims h mu p v) (ha : h.get? a = none) : Sims h (a :: mu) p v:=
 x.keeps (fun b o hb e q => by rcases List.mem_cons.mp q with rfl | q;(rw [ha] at e;cases e);exact hb q) fun _ _ _ _ e => e
private theorem Sim.sub {p : PV} {v : Value} {h : Heap} (x : Sim h mu p v) (hm : ∀ a ∈ mu',a ∈ mu) : Sim h mu' p v:=x.keeps (fun b o hb _ q => hb (hm b q)) fun _ _ _ _ e => e
private theorem Sims.sub {p : List PV} {v : List Value} {h : Heap} (x : Sims h mu p v) (hm : ∀ a ∈ mu',a ∈ mu) : Sims h mu' p v:=x.keeps (fun b o hb _ q => hb (hm b q)) fun _ _ _ _ e => e
end
end
section
open PySem PySem.W PySem.Calls PyProof.Rows
variable {prog : Program} {w : World}
inductive MO where
 | seq (c : Value) (d : Option Addr) (l : List PV)
 | raw (o : Obj)
inductive MSeq (mu : List Addr) (h : Heap) (a : Addr) (c : Value) (d : Option Addr) (l : List PV) : Prop
 | mk (vs : List Value) (n : Nat) (e : h.get? a = some { cls:=c,dict:=d,data:=.seq (List.toArray vs) n }) (y : Sims h mu l vs) : MSeq mu h a c d l
noncomputable def MOAt (mu : List Addr) (h : Heap) (a : Addr) : MO → Prop
 | .seq c d l => MSeq mu h a c d l
 | .raw o => h.get? a = some o
private theorem MOAt.keeps {h h' : Heap} {mu mu' : List Addr} {a : Addr} {m : MO} (x : MOAt mu h a m) (ha : ∀ o,h.get? a = some o → h'.get? a = some o) (hm : ∀ a o,a ∉ mu → h.get? a = some o → a ∉ mu') (k : ∀ a o,a ∉ mu → (o.cls = .type "list" ∨ o.cls = .type "tuple") → h.get? a = some o → h'.get? a = some o) : MOAt mu' h' a m:=by
 cases m with
 | seq c d l => obtain ⟨vs,n,e,y⟩:=x;exact ⟨vs,n,ha _ e,y.keeps hm k⟩
 | raw o => exact ha _ x
noncomputable abbrev q0j (env : Env) : List Addr:=env.locals :: env.cells.map (·.2)
structure Act (env : Env) (mu : List Addr) (h : Heap) (ρ : List (PySem.Str × PV)) (σ : List (Addr × MO)) : Prop where
 st : ∀ a m,σ.lookup a = some m → a ∈ mu ∧ a ∉ q0j env ∧ MOAt mu h a m
 kind : env.scope.kind = .function
 gl : env.globals = mainGlobals
 bi : env.builtins = builtinsNs
 loc : env.locals ∈ mu
 ns : ∃ m,h.Ns env.locals m ∧ ∀ x p,ρ.lookup x = some p → env.kindOf x = some .local → ∃ v,m x = some v ∧ Sim h mu p v
 kinds : ∀ x p,ρ.lookup x = some p → env.kindOf x = some .local ∨ ((env.kindOf x = some .cell ∨ env.kindOf x = some .free) ∧ ∃ c,env.cells.lookup x = some c)
 cell : ∀ x c,x ≠ ("__class__" : PySem.Str) → env.kindOf x ≠ some .local → env.cells.lookup x = some c → c ∈ mu ∧ c ≠ env.locals ∧ ∃ ov,h.IsCell c ov ∧ ∀ p,ρ.lookup x = some p → ∃ v,ov = some v ∧ Sim h mu p v
 plain : ∀ x p,ρ.lookup x = some p → x ≠ ("__class__" : PySem.Str) ∧ (x == ("__classdict__" : PySem.Str)) = false
 inj : ∀ x y c,env.cells.lookup x = some c → env.cells.lookup y = some c → x = y
noncomputable def Pur (prog : Program) (w : World) (C : Cfg) (mu : List Addr) (A : Around) (t : Sem Value) (p : PV) (s : Shared) : Prop:=
 ∀ (Q : Value → Shared → Prop) (E : Value → Shared → Prop),(∀ v s',Ok C mu s' → Kp C [] s s' → Sim s'.heap mu p v → Q v s') → wpAny (model prog w) A t Q E s
noncomputable def PurT (prog : Program) (w : World) (C : Cfg) (mu : List Addr) (A : Around) (t : Sem Bool) (b : Bool) (s : Shared) : Prop:=
 ∀ (Q : Bool → Shared → Prop) (E : Value → Shared → Prop),(∀ s',Ok C mu s' → Kp C [] s s' → Q b s') → wpAny (model prog w) A t Q E s
noncomputable def Purs (prog : Program) (w : World) (C : Cfg) (mu : List Addr) (A : Around) (t : Sem (List Value)) (p : List PV) (s : Shared) : Prop:=
 ∀ (Q : List Value → Shared → Prop) (E : Value → Shared → Prop),(∀ v s',Ok C mu s' → Kp C [] s s' → Sims s'.heap mu p v → Q v s') → wpAny (model prog w) A t Q E s
noncomputable def PurE (prog : Program) (w : World) (C : Cfg) (mu : List Addr) (A : Around) (env : Env) (ρ : List (PySem.Str × PV)) (σ : List (Addr × MO)) (e : Expr) (p : PV) : Prop:=
 ∀ s,Ok C mu s → Act env mu s.heap ρ σ → Pur prog w C mu A (eval e env) p s
noncomputable def PurEs (prog : Program) (w : World) (C : Cfg) (mu : List Addr) (A : Around) (env : Env) (ρ : List (PySem.Str × PV)) (σ : List (Addr × MO)) (es : List Expr) (ps : List PV) : Prop:=
 ∀ pos s,Ok C mu s → Act env mu s.heap ρ σ → Purs prog w C mu A (spliced (backTo pos (starEach es env))) ps s
noncomputable def PurB (prog : Program) (w : World) (C : Cfg) (mu : List Addr) (A : Around) (env : Env) (ρ : List (PySem.Str × PV)) (σ : List (Addr × MO)) (e : Expr) (b : Bool) : Prop:=
 ∀ s,Ok C mu s → Act env mu s.heap ρ σ → PurT prog w C mu A (isTrue e env (eval e env)) b s
noncomputable def Op1 (prog : Program) (w : World) (C : Cfg) (mu : List Addr) (A : Around) (f : Value → Sem Value) (p z : PV) : Prop:=
 ∀ s a,Ok C mu s → Sim s.heap mu p a → Pur prog w C mu A (f a) z s
noncomputable def Op2 (prog : Program) (w : World) (C : Cfg) (mu : List Addr) (A : Around) (f : Value → Value → Sem Value) (p q z : PV) : Prop:=
 ∀ s a b,Ok C mu s → Sim s.heap mu p a → Sim s.heap mu q b → Pur prog w C mu A (f a b) z s
noncomputable def OpL (prog : Program) (w : World) (C : Cfg) (mu : List Addr) (A : Around) (f : List Value → Sem Value) (ps : List PV) (z : PV) : Prop:=
 ∀ s vs,Ok C mu s → Sims s.heap mu ps vs → Pur prog w C mu A (f vs) z s
noncomputable def OpT (prog : Program) (w : World) (C : Cfg) (mu : List Addr) (A : Around) (p : PV) (b : Bool) : Prop:=
 ∀ s a,Ok C mu s → Sim s.heap mu p a → PurT prog w C mu A (truthy a) b s
section
variable {C : Cfg} {mu : List Addr} {s s' : Shared} {env : Env} {ρ : List (PySem.Str × PV)} {σ : List (Addr × MO)} {A : Around}
private theorem Act.kp (a : Act env mu s.heap ρ σ) (O : Ok C mu s) (k : Kp C [] s s') : Act env mu s'.heap ρ σ where
 st:=fun b m e => by
  obtain ⟨h1,h2,h3⟩:=a.st b m e
  exact ⟨h1,h2,h3.keeps (fun o e => k.keep b o (fun h => nomatch h) (O.notTab h1) e) (fun _ _ h _ => h) fun c o _ hc e => k.keep c o (fun h => nomatch h) (O.seqNotTab hc e) e⟩
 kind:=a.kind
 gl:=a.gl
 bi:=a.bi
 loc:=a.loc
 ns:=by
  obtain ⟨m,hn,hv⟩:=a.ns
  refine ⟨m,?_,fun x p h1 h2 => let ⟨v,e,y⟩:=hv x p h1 h2;⟨v,e,y.kp0 O k⟩⟩
  obtain ⟨o,es,ep,ho,r⟩:=hn
  exact ⟨o,es,ep,k.keep _ _ (fun h => nomatch h) (O.notTab a.loc) ho,r⟩
 kinds:=a.kinds
 cell:=fun x c hx hl hc => by
  obtain ⟨h1,h2,ov,⟨o,ho,hd⟩,h4⟩:=a.cell x c hx hl hc
  exact ⟨h1,h2,ov,⟨o,k.keep _ _ (fun h => nomatch h) (O.notTab h1) ho,hd⟩,fun p hp => let ⟨v,e,y⟩:=h4 p hp;⟨v,e,y.kp0 O k⟩⟩
 plain:=a.plain
 inj:=a.inj
private theorem Pur.here {t : Sem Value} {p : PV} (O : Ok C mu s) (h : ∀ (Q : Value → Shared → Prop) (E : Value → Shared → Prop),(∀ v tk,Sim s.heap mu p v → Q v { s with toks:=tk }) → wpAny (model prog w) A t Q E s) : Pur prog w C mu A t p s:=
 fun Q E k => h Q E fun v tk hv => k v _ O.tok ⟨fun _ _ _ _ e => e⟩ hv
private theorem Pur.newSeq {t : Sem Value} {ps : List PV} {tuple : Bool} (O : Ok C mu s) (h : ∀ (Q : Value → Shared → Prop) (E : Value → Shared → Prop),
   (∀ vs (n : Nat) tk h',Sims s.heap mu ps vs → (∀ b o,s.heap.get? b = some o → h'.get? b = some o) → ∀ a,s.heap.get? a = none → h'.get? a = some { cls:=.type (if tuple then "tuple" else "list"),data:=.seq (List.toArray vs) n } → Q (.ref a) { s with heap:=h',toks:=tk }) → wpAny (model prog w) A t Q E s) :
  Pur prog w C mu A t (if tuple then .tup ps else .lst ps) s:=
 fun Q E k => h Q E fun vs n tk h' hv hk a ha ho => by
  refine k _ _ (O.keep hk) (Kp.of_keep hk) ?_
  have hs : Sims h' mu ps vs:=hv.keeps (fun _ _ x _ => x) fun b o _ _ e => hk b o e
  cases tuple
  ·exact ⟨a,vs,n,rfl,(O.fresh' ha).2,ho,hs⟩
  ·exact ⟨a,vs,n,rfl,(O.fresh' ha).2,ho,hs⟩
private theorem q0b {x : PySem.Str} {p : PV} {pos : Pos} (h : ρ.lookup x = some p) (hd : autoParam ((x == ("__debug__" : PySem.Str)) = false) tR) : PurE prog w C mu A env ρ σ (.Name x pos) p:=fun s O a => by
 refine Pur.here O fun Q E k => wpAny_Name ?_ hd
 rcases a.kinds x p h with hl | ⟨hl,c,hc⟩
 ·obtain ⟨m,hn,hv⟩:=a.ns
  obtain ⟨v,e,y⟩:=hv x p h hl
  exact wpAny_loadName_local a.kind hl hn e (k v s.toks y)
 ·obtain ⟨hx,hx2⟩:=a.plain x p h
  obtain ⟨_,_,ov,hcell,hp⟩:=a.cell x c hx (by rcases hl with hl | hl <;> rw [hl] <;> nofun) hc
  obtain ⟨v,rfl,y⟩:=hp p h
  rcases hl with hl | hl
  ·exact wpAny_loadName_cell a.kind hl hc hcell (k v s.toks y)
  ·exact wpAny_loadName_free a.kind hl hc hcell (k v s.toks y) hx2
private theorem q3r {x : PySem.Str} {v : Value} {Q : Value → Shared → Prop} {E : Value → Shared → Prop} (O : Ok C mu s) (hk : env.scope.kind = .function) (hg : env.globals = mainGlobals) (hb : env.builtins = builtinsNs)
  (hl : env.kindOf x = some .globalImplicit) (hv : nsIn C.K mainGlobals x = some (some v) ∨ (nsIn C.K mainGlobals x = some none ∧ nsIn C.K builtinsNs x = some (some v))) (h : Q v s) : wpAny (model prog w) A (loadName env x) Q E s:=by
 have e : loadName env x = loadGlobal env x:=by
  unfold loadName Env.blockKind
  rw [hk,hl]
  rfl
 rw [e]
 unfold loadGlobal
 rw [hg,hb]
 rcases hv with hv | ⟨h1,h2⟩
 ·exact wpAny_bind ((looks_nsIn O.K hv).here (wpAny_pure h))
 ·exact wpAny_bind ((looks_nsIn O.K h1).here (wpAny_bind ((looks_nsIn O.K h2).here (wpAny_pure h))))
private theorem pur_glob {x : PySem.Str} {v : Value} {pos : Pos} (hl : env.kindOf x = some .globalImplicit) (hv : nsIn C.K mainGlobals x = some (some v) ∨ (nsIn C.K mainGlobals x = some none ∧ nsIn C.K builtinsNs x = some (some v)))
  (hd : autoParam ((x == ("__debug__" : PySem.Str)) = false) tR) : PurE prog w C mu A env ρ σ (.Name x pos) (.val v):=fun s O a =>
 Pur.here O fun Q E k => wpAny_Name (q3r O a.kind a.gl a.bi hl hv (k v s.toks rfl)) hd
private theorem q0m {i : Int} {n : Nat} {pos : Pos} : PurE prog w C mu A env ρ σ (.Constant (.int i) n pos) (.int i):=fun s O a => Pur.here O fun Q E k => wpAny_Constant_int (k _ _ ⟨_,rfl⟩)
private theorem q0t {i : Nat} {n : Nat} {pos : Pos} : PurE prog w C mu A env ρ σ (.Constant (.int (Int.ofNat i)) n pos) (.int (@OfNat.ofNat Int i (@instOfNat i))):=q0m (i:=Int.ofNat i)
private theorem q1m {x : PySem.Str} {n : Nat} {pos : Pos} : PurE prog w C mu A env ρ σ (.Constant (.str x) n pos) (.str x):=fun s O a => Pur.here O fun Q E k => Constant_str (k _ _ ⟨_,rfl⟩)
private theorem w2m {n : Nat} {pos : Pos} : PurE prog w C mu A env ρ σ (.Constant .none n pos) .none:=fun s O a => Pur.here O fun Q E k => wpAny_pure (k .none s.toks rfl)
private theorem q0k {l r : Expr} {op : Operator} {pos : Pos} {p q z : PV} (hl : PurE prog w C mu A env ρ σ l p) (hr : PurE prog w C mu A env ρ σ r q)
  (ho : Op2 prog w C mu A (binaryOp op) p q z) : PurE prog w C mu A env ρ σ (.BinOp l op r pos) z:=fun s O a Q E k =>
 wpAny_BinOp (hl s O a _ _ fun v s₁ O₁ k₁ y₁ => hr s₁ O₁ (a.kp O k₁) _ _ fun u s₂ O₂ k₂ y₂ => ho s₂ v u O₂ (y₁.kp0 O₁ k₂) y₂ _ _ fun v' s' O' k' y' => k v' s' O' ((k₁.trans k₂).trans k') y')
private theorem q2c {x : Expr} {op : UnaryOp} {pos : Pos} {p z : PV} (hl : PurE prog w C mu A env ρ σ x p) (ho : Op1 prog w C mu A (unaryOp op) p z) : PurE prog w C mu A env ρ σ (.UnaryOp op x pos) z:=fun s O a Q E k => by
 show wpAny _ _ (do let v ← eval x env;standAt pos;holding [v] (unaryOp op v)) _ _ _
 exact wpAny_bind (hl s O a _ _ fun v s₁ O₁ k₁ y₁ => wpAny_bind (wpAny_standAt (wpAny_holding (ho s₁ v O₁ y₁ _ _ fun v' s' O' k' y' => k v' s' O' (k₁.trans k') y'))))
private theorem q6g {l r : Expr} {op : CmpOp} {pos : Pos} {p q z : PV} (hl : PurE prog w C mu A env ρ σ l p) (hr : PurE prog w C mu A env ρ σ r q)
  (ho : Op2 prog w C mu A (compareOp op) p q z) (hm : autoParam (behindInMarks op r = false) tR) : PurE prog w C mu A env ρ σ (.Compare l [op] [r] pos) z:=fun s O a Q E k =>
 wpAny_Compare1 (hl s O a _ _ fun v s₁ O₁ k₁ y₁ => hr s₁ O₁ (a.kp O k₁) _ _ fun u s₂ O₂ k₂ y₂ => ho s₂ v u O₂ (y₁.kp0 O₁ k₂) y₂ _ _ fun v' s' O' k' y' => k v' s' O' ((k₁.trans k₂).trans k') y') hm
private theorem q0i {l r : Expr} {op : CmpOp} {pos : Pos} {p q : PV} {b : Bool} (hl : PurE prog w C mu A env ρ σ l p) (hr : PurE prog w C mu A env ρ σ r q)
  (ho : Op2 prog w C mu A (compareOp op) p q (.bool b)) (hm : autoParam (behindInMarks op r = false) tR) : PurB prog w C mu A env ρ σ (.Compare l [op] [r] pos) b:=fun s O a Q E k =>
 wpAny_isTrue_Compare1 (hl s O a _ _ fun v s₁ O₁ k₁ y₁ => hr s₁ O₁ (a.kp O k₁) _ _ fun u s₂ O₂ k₂ y₂ => ho s₂ v u O₂ (y₁.kp0 O₁ k₂) y₂ _ _ fun v' s' O' k' y' => by
  cases (show v' = .bool b from y')
  exact wpAny_truthy_bool (k s' O' ((k₁.trans k₂).trans k'))) hm
private theorem q8w {x : Expr} {pos : Pos} {b : Bool} (h : PurB prog w C mu A env ρ σ x b) : PurB prog w C mu A env ρ σ (.UnaryOp .Not x pos) (!b):=fun s O a Q E k => isTrue_not (h s O a _ _ k)
private theorem q1b {e : Expr} {p : PV} {b : Bool} (h : PurE prog w C mu A env ρ σ e p) (ht : OpT prog w C mu A p b)
  (he : autoParam (∀ whole,PySem.isTrue e env whole = (do let v ← whole;standAt e.pos;holding [v] (truthy v))) tR) : PurB prog w C mu A env ρ σ e b:=fun s O a Q E k =>
 isTrue_plain (h s O a _ _ fun v s₁ O₁ k₁ y₁ => ht s₁ v O₁ y₁ _ _ fun s' O' k' => k s' O' (k₁.trans k')) (he _)
private theorem q2j {x : Expr} {xs : List Expr} {pos pos' : Pos} {b : Bool} (h : PurB prog w C mu A env ρ σ x b) {c : Bool} (hr : b = true → PurB prog w C mu A env ρ σ (.BoolOp .And xs pos') c) : PurB prog w C mu A env ρ σ (.BoolOp .And (x :: xs) pos) (b && c):=fun s O a Q E k => by
 show wpAny _ _ (do match BoolOp.And,← PySem.isTrue x env (eval x env) with | .And,false => pure false | .Or,true => pure true | _,_ => allTrue .And xs env) _ _ _
 refine wpAny_bind (h s O a _ _ fun s₁ O₁ k₁ => ?_)
 cases b with
 | false => exact wpAny_pure (k s₁ O₁ k₁)
 | true => exact hr rfl s₁ O₁ (a.kp O k₁) _ _ fun s' O' k' => k s' O' (k₁.trans k')
private theorem q5c {pos : Pos} : PurB prog w C mu A env ρ σ (.BoolOp .And [] pos) true:=fun s O a Q E k => wpAny_pure (k s O .refl)
private theorem q9v {t x y : Expr} {pos : Pos} {b : Bool} {p : PV} (ht : PurB prog w C mu A env ρ σ t b) (hx : b = true → PurE prog w C mu A env ρ σ x p) (hy : b = false → PurE prog w C mu A env ρ σ y p) : PurE prog w C mu A env ρ σ (.IfExp t x y pos) p:=fun s O a Q E k => by
 show wpAny _ _ (do if ← PySem.isTrue t env (eval t env) then eval x env else eval y env) _ _ _
 refine wpAny_bind (ht s O a _ _ fun s₁ O₁ k₁ => ?_)
 cases b with
 | true => exact hx rfl s₁ O₁ (a.kp O k₁) _ _ fun v s' O' k' y' => k v s' O' (k₁.trans k') y'
 | false => exact hy rfl s₁ O₁ (a.kp O k₁) _ _ fun v s' O' k' y' => k v s' O' (k₁.trans k') y'
private theorem q0g : PurEs prog w C mu A env ρ σ [] []:=fun pos s O a Q E k => spliced_nil (k [] s O .refl rfl)
private theorem q0c {e : Expr} {es : List Expr} {p : PV} {ps : List PV} (h : PurE prog w C mu A env ρ σ e p) (hr : PurEs prog w C mu A env ρ σ es ps)
  (he : autoParam (∀ env,starEach (e :: es) env = (false,eval e env) :: starEach es env) tR) : PurEs prog w C mu A env ρ σ (e :: es) (p :: ps):=fun pos s O a Q E k => by
 rw [he]
 exact spliced_cons (h s O a _ _ fun v s₁ O₁ k₁ y₁ => hr pos s₁ O₁ (a.kp O k₁) _ _ fun vs s₂ O₂ k₂ y₂ => k (v :: vs) s₂ O₂ (k₁.trans k₂) ⟨v,vs,rfl,y₁.kp0 O₁ k₂,y₂⟩)
private theorem q6v {es : List Expr} {ps : List PV} {pos : Pos} (h : PurEs prog w C mu A env ρ σ es ps) (hsz : ps.length ≤ sizeLine) : PurE prog w C mu A env ρ σ (.List es pos) (.lst ps):=fun s O a Q E k =>
 List_ (h pos s O a _ _ fun vs s₁ O₁ k₁ y₁ => (Pur.newSeq (tuple:=false) O₁ fun Q' E' k' => wpAny_newObj_type (k' vs 0 _ _ y₁ (fun b o e => Heap.get?_push_of_some _ e) _ (Ok.size_none s₁) (Heap.get?_push_size _ rfl)) (by show (List.toArray vs).size ≤ sizeLine;rw [List.size_toArray,y₁.length];exact hsz)) _ _
  fun v s' O' k' y' => k v s' O' (k₁.trans k') y')
private theorem z0c {es : List Expr} {ps : List PV} {n : Nat} {pos : Pos} (h : PurEs prog w C mu A env ρ σ es ps) (hsz : ps.length ≤ sizeLine) : PurE prog w C mu A env ρ σ (.Tuple es n pos) (.tup ps):=fun s O a Q E k =>
 Tuple_ (h pos s O a _ _ fun vs s₁ O₁ k₁ y₁ => (Pur.newSeq (tuple:=true) O₁ fun Q' E' k' => wpAny_newObj_type (k' vs 0 _ _ y₁ (fun b o e => Heap.get?_push_of_some _ e) _ (Ok.size_none s₁) (Heap.get?_push_size _ rfl)) (by show (List.toArray vs).size ≤ sizeLine;rw [List.size_toArray,y₁.length];exact hsz)) _ _
  fun v s' O' k' y' => k v s' O' (k₁.trans k') y')
section
variable {a b : Int}
private theorem op_add : Op2 prog w C mu A (binaryOp .Add) (.int a) (.int b) (.int (a + b)):=fun s x y O ⟨t,hx⟩ ⟨u,hy⟩ => by subst hx hy;exact Pur.here O fun Q E k => add_int (k _ _ ⟨_,rfl⟩)
private theorem op_sub : Op2 prog w C mu A (binaryOp .Sub) (.int a) (.int b) (.int (a - b)):=fun s x y O ⟨t,hx⟩ ⟨u,hy⟩ => by subst hx hy;exact Pur.here O fun Q E k => sub_int (k _ _ ⟨_,rfl⟩)
private theorem op_mul (hm : IntMulOk a b) : Op2 prog w C mu A (binaryOp .Mult) (.int a) (.int b) (.int (a * b)):=fun s x y O ⟨t,hx⟩ ⟨u,hy⟩ => by subst hx hy;exact Pur.here O fun Q E k => mul_int (k _ _ ⟨_,rfl⟩) hm
private theorem op_mod (hb : b ≠ 0) : Op2 prog w C mu A (binaryOp .Mod) (.int a) (.int b) (.int (a.fmod b)):=fun s x y O ⟨t,hx⟩ ⟨u,hy⟩ => by subst hx hy;exact Pur.here O fun Q E k => mod_int hb (k _ _ ⟨_,rfl⟩)
private theorem op_shl (hb : 0 ≤ b) (hs : (Builtin.Int.intBits a : Int) + b ≤ 2 ^ 27) : Op2 prog w C mu A (binaryOp .LShift) (.int a) (.int b) (.int (a * 2 ^ b.toNat)):=fun s x y O ⟨t,hx⟩ ⟨u,hy⟩ => by subst hx hy;exact Pur.here O fun Q E k => lshift_int hb hs (k _ _ ⟨_,rfl⟩)
private theorem op_shr (hb : 0 ≤ b) : Op2 prog w C mu A (binaryOp .RShift) (.int a) (.int b) (.int (a.fdiv (2 ^ b.toNat))):=fun s x y O ⟨t,hx⟩ ⟨u,hy⟩ => by subst hx hy;exact Pur.here O fun Q E k => rshift_int hb (k _ _ ⟨_,rfl⟩)
private theorem op_and : Op2 prog w C mu A (binaryOp .BitAnd) (.int a) (.int b) (.int (Builtin.bitAnd a b)):=fun s x y O ⟨t,hx⟩ ⟨u,hy⟩ => by subst hx hy;exact Pur.here O fun Q E k => and_int (k _ _ ⟨_,rfl⟩)
private theorem op_or : Op2 prog w C mu A (binaryOp .BitOr) (.int a) (.int b) (.int (Builtin.bitOr a b)):=fun s x y O ⟨t,hx⟩ ⟨u,hy⟩ => by subst hx hy;exact Pur.here O fun Q E k => or_int (k _ _ ⟨_,rfl⟩)
private theorem op_xor : Op2 prog w C mu A (binaryOp .BitXor) (.int a) (.int b) (.int (Builtin.bitXor a b)):=fun s x y O ⟨t,hx⟩ ⟨u,hy⟩ => by subst hx hy;exact Pur.here O fun Q E k => xor_int (k _ _ ⟨_,rfl⟩)
private theorem op_eq : Op2 prog w C mu A (compareOp .Eq) (.int a) (.int b) (.bool (a == b)):=fun s x y O ⟨t,hx⟩ ⟨u,hy⟩ => by subst hx hy;exact Pur.here O fun Q E k => eq_int (k _ s.toks rfl)
private theorem op_ne : Op2 prog w C mu A (compareOp .NotEq) (.int a) (.int b) (.bool (a != b)):=fun s x y O ⟨t,hx⟩ ⟨u,hy⟩ => by subst hx hy;exact Pur.here O fun Q E k => ne_int (k _ s.toks rfl)
private theorem op_lt : Op2 prog w C mu A (compareOp .Lt) (.int a) (.int b) (.bool (decide (a < b))):=fun s x y O ⟨t,hx⟩ ⟨u,hy⟩ => by subst hx hy;exact Pur.here O fun Q E k => lt_int (k _ s.toks rfl)
private theorem op_le : Op2 prog w C mu A (compareOp .LtE) (.int a) (.int b) (.bool (decide (a ≤ b))):=fun s x y O ⟨t,hx⟩ ⟨u,hy⟩ => by subst hx hy;exact Pur.here O fun Q E k => le_int (k _ s.toks rfl)
private theorem op_gt : Op2 prog w C mu A (compareOp .Gt) (.int a) (.int b) (.bool (decide (b < a))):=fun s x y O ⟨t,hx⟩ ⟨u,hy⟩ => by subst hx hy;exact Pur.here O fun Q E k => gt_int (k _ s.toks rfl)
private theorem op_neg : Op1 prog w C mu A (unaryOp .USub) (.int a) (.int (-a)):=fun s x O ⟨t,hx⟩ => by subst hx;exact Pur.here O fun Q E k => neg_int (k _ _ ⟨_,rfl⟩)
private theorem q1l {c : Bool} : OpT prog w C mu A (.bool c) c:=fun s x O hx Q E k => by cases (show x = .bool c from hx);exact wpAny_truthy_bool (k s O .refl)
private theorem q1t : OpT prog w C mu A (.int a) (a != 0):=fun s x O ⟨t,hx⟩ Q E k => by subst hx;exact truthy_int (k s O .refl)
end
end
end
section
open PySem PySem.W PySem.Calls PyProof.Rows
variable {prog : Program} {w : World}
structure Rm (A : Around) (n : Nat) : Prop where
 none : A.handled = none
 depth : A.depth + n ≤ 950
 units : A.units + 8 * n ≤ 9800
section
variable {A : Around} {n m : Nat}
private theorem Rm.mono (r : Rm A n) (h : m ≤ n) : Rm A m:=⟨r.none,by have:=r.depth;lia,by have:=r.units;lia⟩
private theorem Rm.deeper (r : Rm A (n + 1)) (env : Env) : Rm (A.deeper env) n:=⟨r.none,by have:=r.depth;simp only [Around.deeper];lia,by have:=r.units;simp only [Around.deeper];lia⟩
private theorem Rm.in1 (r : Rm A (n + 1)) : Rm A.in1 n:=⟨r.none,by have:=r.depth;simp only [];lia,by have:=r.units;simp only [];lia⟩
private theorem Rm.room (r : Rm A n) : A.depth < recursionLimit:=by have:=r.depth;unfold recursionLimit;lia
private theorem Rm.cu (r : Rm A n) : A.units < cLine:=by have:=r.units;unfold cLine;lia
end
structure In (C : Cfg) (mu nu : List Addr) (env : Env) (ρ : List (PySem.Str × PV)) (σ : List (Addr × MO)) (s₀ s : Shared) : Prop where
 ok : Ok C mu s
 act : Act env mu s.heap ρ σ
 kp : Kp C nu s₀ s
 sub : ∀ a ∈ nu,a ∈ mu
 cells : ∀ x ∈ env.cells,x.2 ∈ mu ∨ ∃ o,C.H.get? x.2 = some o
section
variable {C : Cfg} {mu nu : List Addr} {s₀ s s' : Shared} {env : Env} {ρ : List (PySem.Str × PV)} {σ : List (Addr × MO)} {A : Around} {E : Value → Shared → Prop}
private theorem In.next (I : In C mu nu env ρ σ s₀ s) (O : Ok C mu s') (k : Kp C [] s s') : In C mu nu env ρ σ s₀ s':=⟨O,I.act.kp I.ok k,I.kp.trans (k.mono fun _ h => nomatch h),I.sub,I.cells⟩
private theorem q1w {α : Type} {x : PySem.Str} {p : α} : ∀ {l : List (PySem.Str × α)},l.lookup x = some p → (x,p) ∈ l
 | [],e => by cases e
 | z :: l,e => by
  rw [List.lookup_cons] at e
  cases hz : x == z.1 with
  | true => rw [hz] at e;cases e;rw [eq_of_beq hz];exact .head _
  | false => rw [hz] at e;exact .tail _ (q1w e)
private theorem Act.store {x : PySem.Str} {p : PV} {v : Value} {h' : Heap} (a : Act env mu s.heap ρ σ) (hx : env.kindOf x = some .local) (hp : x ≠ ("__class__" : PySem.Str) ∧ (x == ("__classdict__" : PySem.Str)) = false)
  (hv : Sim s.heap mu p v) {m : PySem.Str → Option Value} (hm : ∀ y q,ρ.lookup y = some q → env.kindOf y = some .local → ∃ v,m y = some v ∧ Sim s.heap mu q v)
  (hn : h'.Ns env.locals fun y => if y = x then some v else m y) (hs : Heap.SameBut env.locals s.heap h') : Act env mu h' ((x,p) :: ρ) σ:=by
 have sk : ∀ {q : PV} {u : Value},Sim s.heap mu q u → Sim h' mu q u:=fun y => y.keeps (fun _ _ z _ => z) fun b o hb _ e => hs.extBut b o (fun q => hb (q ▸ a.loc)) e
 have lk : ∀ y q,((x,p) :: ρ).lookup y = some q → (y = x ∧ q = p) ∨ (y ≠ x ∧ ρ.lookup y = some q):=fun y q e => by
  rw [List.lookup_cons] at e
  cases hy : y == x with
  | true => rw [hy] at e;cases e;exact .inl ⟨eq_of_beq hy,rfl⟩
  | false => rw [hy] at e;exact .inr ⟨fun z => by rw [z] at hy;simp at hy,e⟩
 refine ⟨fun b m' e => let ⟨h1,h2,h3⟩:=a.st b m' e;⟨h1,h2,h3.keeps (fun o e => hs.extBut b o (fun q => h2 (q ▸ .head _)) e) (fun _ _ z _ => z) fun c o hb _ e => hs.extBut c o (fun q => hb (q ▸ a.loc)) e⟩,a.kind,a.gl,a.bi,a.loc,⟨_,hn,fun y q e hl => ?_⟩,fun y q e => ?_,fun y c hy hyl hc => ?_,fun y q e => ?_,a.inj⟩
 ·rcases lk y q e with ⟨rfl,rfl⟩ | ⟨h1,h2⟩
  ·exact ⟨v,by simp,sk hv⟩
  ·obtain ⟨u,e1,e2⟩:=hm y q h2 hl
   exact ⟨u,by simp [h1,e1],sk e2⟩
 ·rcases lk y q e with ⟨rfl,rfl⟩ | ⟨h1,h2⟩
  ·exact .inl hx
  ·exact a.kinds y q h2
 ·obtain ⟨h1,h2,ov,h3,h4⟩:=a.cell y c hy hyl hc
  refine ⟨h1,h2,ov,h3.sameBut hs h2,fun q e => ?_⟩
  rcases lk y q e with ⟨rfl,rfl⟩ | ⟨h5,h6⟩
  ·exact absurd hx hyl
  ·obtain ⟨u,e1,e2⟩:=h4 q h6
   exact ⟨u,e1,sk e2⟩
 ·rcases lk y q e with ⟨rfl,rfl⟩ | ⟨h1,h2⟩
  ·exact hp
  ·exact a.plain y q h2
private theorem Act.storeCell {x : PySem.Str} {c : Addr} {p : PV} {v : Value} {h' : Heap} (a : Act env mu s.heap ρ σ) (hx : env.kindOf x = some .cell) (hc : env.cells.lookup x = some c) (hp : x ≠ ("__class__" : PySem.Str) ∧ (x == ("__classdict__" : PySem.Str)) = false)
  (hv : Sim s.heap mu p v) (hcell : h'.IsCell c (some v)) (hs : Heap.SameBut c s.heap h') : Act env mu h' ((x,p) :: ρ) σ:=by
 have hnl : env.kindOf x ≠ some .local:=by rw [hx];nofun
 obtain ⟨hcm,hcl,_⟩:=a.cell x c hp.1 hnl hc
 have sk : ∀ {q : PV} {u : Value},Sim s.heap mu q u → Sim h' mu q u:=fun y => y.keeps (fun _ _ z _ => z) fun b o hb _ e => hs.extBut b o (fun q => hb (q ▸ hcm)) e
 have lk : ∀ y q,((x,p) :: ρ).lookup y = some q → (y = x ∧ q = p) ∨ (y ≠ x ∧ ρ.lookup y = some q):=fun y q e => by
  rw [List.lookup_cons] at e
  cases hy : y == x with
  | true => rw [hy] at e;cases e;exact .inl ⟨eq_of_beq hy,rfl⟩
  | false => rw [hy] at e;exact .inr ⟨fun z => by rw [z] at hy;simp at hy,e⟩
 obtain ⟨m,hn,hm⟩:=a.ns
 refine ⟨fun b m' e => let ⟨h1,h2,h3⟩:=a.st b m' e;⟨h1,h2,h3.keeps (fun o e => hs.extBut b o (fun q => h2 (q ▸ .tail _ (List.mem_map_of_mem (f:=(·.2)) (q1w hc)))) e) (fun _ _ z _ => z) fun d o hb _ e => hs.extBut d o (fun q => hb (q ▸ hcm)) e⟩,a.kind,a.gl,a.bi,a.loc,⟨m,hn.sameBut hs (Ne.symm hcl),fun y q e hl => ?_⟩,fun y q e => ?_,fun y d hy hyl hd => ?_,fun y q e => ?_,a.inj⟩
 ·rcases lk y q e with ⟨rfl,rfl⟩ | ⟨h1,h2⟩
  ·exact absurd hl hnl
  ·obtain ⟨u,e1,e2⟩:=hm y q h2 hl
   exact ⟨u,e1,sk e2⟩
 ·rcases lk y q e with ⟨rfl,rfl⟩ | ⟨h1,h2⟩
  ·exact .inr ⟨.inl hx,c,hc⟩
  ·exact a.kinds y q h2
 ·obtain ⟨h1,h2,ov,h3,h4⟩:=a.cell y d hy hyl hd
  by_cases hyx : y = x
  ·subst hyx
   rw [hc] at hd;cases hd
   refine ⟨h1,h2,_,hcell,fun q e => ?_⟩
   rcases lk y q e with ⟨_,rfl⟩ | ⟨h5,_⟩
   ·exact ⟨v,rfl,sk hv⟩
   ·exact absurd rfl h5
  ·have hdc : d ≠ c:=fun q => hyx (a.inj y x c (q ▸ hd) hc)
   refine ⟨h1,h2,ov,h3.sameBut hs hdc,fun q e => ?_⟩
   rcases lk y q e with ⟨rfl,_⟩ | ⟨_,h6⟩
   ·exact absurd rfl hyx
   ·obtain ⟨u,e1,e2⟩:=h4 q h6
    exact ⟨u,e1,sk e2⟩
 ·rcases lk y q e with ⟨rfl,rfl⟩ | ⟨h1,h2⟩
  ·exact hp
  ·exact a.plain y q h2
noncomputable def okName (x : PySem.Str) : Bool:=x != ("__class__" : PySem.Str) && !(x == ("__classdict__" : PySem.Str))
private theorem q1s {x : PySem.Str} (h : okName x = true) : x ≠ ("__class__" : PySem.Str) ∧ (x == ("__classdict__" : PySem.Str)) = false:=by
 unfold okName at h
 simp only [Bool.and_eq_true,bne_iff_ne,ne_eq,Bool.not_eq_true'] at h
 exact h
private theorem q8t {x : PySem.Str} {p : PV} {v : Value} {Q : Unit → Shared → Prop} (I : In C mu nu env ρ σ s₀ s) (hL : env.locals ∈ nu) (hv : Sim s.heap mu p v)
  (k : ∀ s',In C mu nu env ((x,p) :: ρ) σ s₀ s' → Kp C [env.locals] s s' → Q () s') (hx : autoParam (env.kindOf x = some .local) tR) (hn : autoParam (okName x = true) tR) : wpAny (model prog w) A (storeName env x v) Q E s:=by
 obtain ⟨m,hns,hm⟩:=I.act.ns
 refine wpAny_storeName_local hx hns (fun h' hn' hs => ?_) (by simp [I.act.kind])
 have kk : Kp C [env.locals] s { s with heap:=h',toks:=s.toks + 1 }:=⟨fun b o hb _ e => hs.extBut b o (fun q => hb (by simp [q])) e⟩
 refine k _ ⟨I.ok.step (fun b o hb e => hs.extBut b o (fun q => hb (q ▸ I.act.loc)) e) (fun a ha => ?_),I.act.store hx (q1s hn) hv hm hn' hs,I.kp.trans (kk.mono fun a ha => ?_),I.sub,I.cells⟩ kk
 ·by_cases q : a = env.locals
  ·subst q;obtain ⟨o,_,_,ho,_⟩:=hn';exact ⟨o,ho⟩
  ·obtain ⟨o,ho⟩:=(I.ok.live a ha).2;exact ⟨o,hs.extBut a o q ho⟩
 ·simp at ha;exact ha ▸ hL
private theorem w9s {x : PySem.Str} {c : Addr} {p : PV} {v : Value} {Q : Unit → Shared → Prop} (I : In C mu nu env ρ σ s₀ s) (hc : env.cells.lookup x = some c) (hL : c ∈ nu) (hv : Sim s.heap mu p v)
  (k : ∀ s',In C mu nu env ((x,p) :: ρ) σ s₀ s' → Kp C [c] s s' → Q () s') (hx : autoParam (env.kindOf x = some .cell) tR) (hn : autoParam (okName x = true) tR) : wpAny (model prog w) A (storeName env x v) Q E s:=by
 have hnl : env.kindOf x ≠ some .local:=by rw [hx];nofun
 obtain ⟨hcm,hcl,ov,hcell,_⟩:=I.act.cell x c (q1s hn).1 hnl hc
 refine wpAny_storeName_cell I.act.kind hx hc hcell fun h' hcell' hs => ?_
 have kk : Kp C [c] s { s with heap:=h',toks:=s.toks }:=⟨fun b o hb _ e => hs.extBut b o (fun q => hb (by simp [q])) e⟩
 refine k _ ⟨I.ok.step (tk:=s.toks) (fun b o hb e => hs.extBut b o (fun q => hb (q ▸ hcm)) e) (fun a ha => ?_),I.act.storeCell hx hc (q1s hn) hv hcell' hs,I.kp.trans (kk.mono fun a ha => ?_),I.sub,I.cells⟩ kk
 ·by_cases q : a = c
  ·subst q;obtain ⟨o,ho,_⟩:=hcell';exact ⟨o,ho⟩
  ·obtain ⟨o,ho⟩:=(I.ok.live a ha).2;exact ⟨o,hs.extBut a o q ho⟩
 ·simp at ha;exact ha ▸ hL
private theorem q1p {x : PySem.Str} {px pos : Pos} {op : Operator} {e : Expr} {q p z : PV} {Q : Flow → Shared → Prop} (I : In C mu nu env ρ σ s₀ s) (hL : env.locals ∈ nu) (hq : ρ.lookup x = some q) (he : PurE prog w C mu A env ρ σ e p)
  (ho : Op2 prog w C mu A (inplaceOp op) q p z) (k : ∀ s',In C mu nu env ((x,z) :: ρ) σ s₀ s' → Q .next s') (hx : autoParam (env.kindOf x = some .local) tR) (hn : autoParam (okName x = true) tR) :
  wpAny (model prog w) A (exec (.AugAssign (.Name x px) op e pos) env) Q E s:=by
 refine wpAny_AugAssign_Name ?_
 obtain ⟨m,hns,hm⟩:=I.act.ns
 obtain ⟨v,e1,y⟩:=hm x q hq hx
 exact wpAny_loadName_local I.act.kind hx hns e1 (he s I.ok I.act _ _ fun u s₁ O₁ k₁ y₁ => ho s₁ v u O₁ (y.kp0 I.ok k₁) y₁ _ _ fun v' s₂ O₂ k₂ y₂ => q8t (I.next O₂ (k₁.trans k₂)) hL y₂ (fun s' I' _ => k s' I') hx hn)
private theorem st_If {t : Expr} {body els : List Stmt} {pos : Pos} {b : Bool} {Q : Flow → Shared → Prop} (I : In C mu nu env ρ σ s₀ s) (ht : PurB prog w C mu A env ρ σ t b)
  (k : ∀ s',In C mu nu env ρ σ s₀ s' → wpAny (model prog w) A (execs (if b then body else els) env) Q E s') : wpAny (model prog w) A (exec (.If t body els pos) env) Q E s:=
 wpAny_If (ht s I.ok I.act _ _ fun s' O' k' => by
  have:=k s' (I.next O' k')
  cases b <;> simpa using this)
private theorem st_IfN {t : Expr} {body : List Stmt} {pos : Pos} {Q : Flow → Shared → Prop} (I : In C mu nu env ρ σ s₀ s) (ht : PurB prog w C mu A env ρ σ t false) (k : ∀ s',In C mu nu env ρ σ s₀ s' → Q .next s') : wpAny (model prog w) A (exec (.If t body [] pos) env) Q E s:=
 st_If I ht fun s' I' => wpAny_execs_nil (k s' I')
private theorem st_IfT {t : Expr} {body els : List Stmt} {pos : Pos} {Q : Flow → Shared → Prop} (I : In C mu nu env ρ σ s₀ s) (ht : PurB prog w C mu A env ρ σ t true) (k : ∀ s',In C mu nu env ρ σ s₀ s' → wpAny (model prog w) A (execs body env) Q E s') : wpAny (model prog w) A (exec (.If t body els pos) env) Q E s:=st_If I ht k
private theorem st_IfE {t : Expr} {body els : List Stmt} {pos : Pos} {Q : Flow → Shared → Prop} (I : In C mu nu env ρ σ s₀ s) (ht : PurB prog w C mu A env ρ σ t false) (k : ∀ s',In C mu nu env ρ σ s₀ s' → wpAny (model prog w) A (execs els env) Q E s') : wpAny (model prog w) A (exec (.If t body els pos) env) Q E s:=st_If I ht k
private theorem q0q {e : Expr} {pos : Pos} {p : PV} {Q : Flow → Shared → Prop} (I : In C mu nu env ρ σ s₀ s) (he : PurE prog w C mu A env ρ σ e p)
  (k : ∀ v s',In C mu nu env ρ σ s₀ s' → Sim s'.heap mu p v → Q (.ret v) s') : wpAny (model prog w) A (exec (.Return (some e) pos) env) Q E s:=
 wpAny_Return_some (he s I.ok I.act _ _ fun v s' O' k' y' => k v s' (I.next O' k') y')
private theorem q1r {α : Type} {M : Model} {A : Around} {t : Sem α} {Q : α → Shared → Prop} {E : Value → Shared → Prop} {s : Shared} (h : ∀ K : α → Shared → Prop,(∀ f s',Q f s' → K f s') → wpAny M A t K E s) : wpAny M A t Q E s:=h Q fun _ _ q => q
noncomputable abbrev NextQ (M : Model) (A : Around) (rest : List Stmt) (env : Env) (Q : Flow → Shared → Prop) (E : Value → Shared → Prop) : Flow → Shared → Prop:=fun f s' => match f with | .next => wpAny M A (execs rest env) Q E s' | f => Q f s'
private theorem q0a {st : Stmt} {rest : List Stmt} {Q : Flow → Shared → Prop} (h : wpAny (model prog w) A (exec st env) (NextQ (model prog w) A rest env Q E) E s) : wpAny (model prog w) A (execs (st :: rest) env) Q E s:=wpAny_execs_cons h
private theorem st_While {t : Expr} {body : List Stmt} {pos : Pos} {Q : Flow → Shared → Prop} (J : Nat → List (PySem.Str × PV) → Prop)
  (step : ∀ n ρ s,J n ρ → In C mu nu env ρ σ s₀ s → ∃ b,PurB prog w C mu A env ρ σ t b ∧ (b = true → ∀ E' s,In C mu nu env ρ σ s₀ s → wpAny (model prog w) A (execs body env) (fun f s' => f = .next ∧ ∃ m ρ',m < n ∧ J m ρ' ∧ In C mu nu env ρ' σ s₀ s') E' s)
   ∧ (b = false → ∀ s,In C mu nu env ρ σ s₀ s → Q .next s))
  (n : Nat) (h0 : J n ρ) (I : In C mu nu env ρ σ s₀ s) : wpAny (model prog w) A (exec (.While t body [] pos) env) Q E s:=by
 refine wpAny_While (codeAny_whileLoop (fun n s => ∃ ρ,J n ρ ∧ In C mu nu env ρ σ s₀ s) ?_ n ⟨ρ,h0,I⟩)
 rintro n s ⟨ρ,hJ,I⟩
 obtain ⟨b,hb,h1,h2⟩:=step n ρ s hJ I
 refine hb s I.ok I.act _ _ fun s' O' k' => ?_
 have I':=I.next O' k'
 cases b with
 | true =>
  refine wpAny_mono (h1 rfl _ s' I') (fun f s'' h => ?_) fun _ _ e => e
  obtain ⟨rfl,m,ρ',hm,hJ',I''⟩:=h
  exact ⟨m,hm,ρ',hJ',I''⟩
 | false => exact wpAny_execs_nil (h2 rfl s' I')
end
end
section
open PySem PySem.W PySem.Calls PyProof.Rows
variable {prog : Program} {w : World}
noncomputable def FnOk (prog : Program) (w : World) (C : Cfg) (a : Addr) (n : Nat) (ps : List PV) (z : PV) : Prop:=
 ∀ A mu,Rm A n → OpL prog w C mu A (fun vs => call (.ref a) vs) ps z
structure DefAt (s : Shared) (a : Addr) (fd : FuncData) (body : List Stmt) : Prop where
 look : ∃ o,s.heap.get? a = some o ∧ o.data = .func fd
 body : fd.body = .stmts body
 code : s.heap.CodeRec fd.code fd.qualname
 co : fd.scope.isCoroutine = false
 gen : fd.scope.isGenerator = false
 kind : fd.scope.kind = .function
 gl : fd.globals = mainGlobals
 bi : fd.builtins = builtinsNs
noncomputable def Def (C : Cfg) (a : Addr) (fd : FuncData) (body : List Stmt) : Prop:=∀ mu s,Ok C mu s → DefAt s a fd body
private theorem Def.ofK {C : Cfg} {a : Addr} {fd : FuncData} {body : List Stmt} (look : ∃ o,C.K.lookup a = some o ∧ o.data = .func fd) (hb : fd.body = .stmts body) (code : codeIn C.K fd.code fd.qualname = true) (co : fd.scope.isCoroutine = false) (gen : fd.scope.isGenerator = false) (kind : fd.scope.kind = .function)
  (gl : fd.globals = mainGlobals) (bi : fd.builtins = builtinsNs) : Def C a fd body:=fun mu s O => ⟨let ⟨o,h1,h2⟩:=look;⟨o,O.K _ _ h1,h2⟩,hb,codeRec_of O.K code,co,gen,kind,gl,bi⟩
private theorem q0n {α : Type} {x : PySem.Str} {p : α} : ∀ {l : List (PySem.Str × α)},l.lookup x = some p → (x,p) ∈ l
 | [],e => by cases e
 | z :: l,e => by
  rw [List.lookup_cons] at e
  cases hz : x == z.1 with
  | true => rw [hz] at e;cases e;rw [eq_of_beq hz];exact .head _
  | false => rw [hz] at e;exact .tail _ (q0n e)
private theorem q3q {α : Type} {x : PySem.Str} {p : α} : ∀ {l : List (PySem.Str × α)},(x,p) ∈ l → ∃ q,l.lookup x = some q
 | [],e => by cases e
 | z :: l,e => by
  rw [List.lookup_cons]
  cases hz : x == z.1 with
  | true => exact ⟨_,rfl⟩
  | false =>
   rcases List.mem_cons.mp e with rfl | e
   ·simp at hz
   ·exact q3q e
private theorem q2m {h : Heap} {mu : List Addr} : ∀ (names : List PySem.Str) (ps : List PV) (vs : List Value),names.length = ps.length → Sims h mu ps vs → ∀ x p,(names.zip ps).reverse.lookup x = some p → ∃ v,(names.zip vs).reverse.lookup x = some v ∧ Sim h mu p v
 | [],_,_,_,_,x,p,e => by simp at e
 | nm :: names,[],_,hl,_,_,_,_ => by simp at hl
 | nm :: names,q :: ps,vs,hl,hs,x,p,e => by
  obtain ⟨v,rr,rfl,y1,y2⟩:=hs
  have hlen' : names.length = ps.length:=by simpa using hl
  simp only [List.zip_cons_cons,List.reverse_cons,List.lookup_append] at e ⊢
  cases hq : (names.zip ps).reverse.lookup x with
  | some p' =>
   rw [hq] at e
   simp at e
   subst e
   obtain ⟨u,e1,e2⟩:=q2m names ps rr hlen' y2 x p' hq
   exact ⟨u,by rw [e1];rfl,e2⟩
  | none =>
   rw [hq] at e
   have hq' : (names.zip rr).reverse.lookup x = none:=by
    cases hz : (names.zip rr).reverse.lookup x with
    | none => rfl
    | some u =>
     exfalso
     have hx : x ∈ names:=(List.of_mem_zip (List.mem_reverse.mp (q0n hz))).1
     have hm : ∃ p,(x,p) ∈ (names.zip ps).reverse:=by
      obtain ⟨i,hi,rfl⟩:=List.getElem_of_mem hx
      exact ⟨ps[i]'(by lia),by rw [List.mem_reverse,List.mem_iff_getElem];exact ⟨i,by simp;lia,by simp⟩⟩
     obtain ⟨p,hp⟩:=hm
     obtain ⟨q,hq2⟩:=q3q hp
     rw [hq] at hq2;cases hq2
   rw [hq']
   simp only [List.lookup_cons,List.lookup_nil] at e ⊢
   cases hx : x == nm with
   | true => simp [hx] at e ⊢;subst e;exact y1
   | false => simp [hx] at e
section
variable {C : Cfg} {mu nu : List Addr} {s₀ s s' : Shared} {env : Env} {ρ : List (PySem.Str × PV)} {σ : List (Addr × MO)} {A : Around} {E : Value → Shared → Prop}
private theorem Ok.fnNotTab (O : Ok C mu s) {f : Addr} {o : Obj} {fd : FuncData} (e : s.heap.get? f = some o) (hd : o.data = .func fd) : f ∉ C.tabs:=fun q => by
 obtain ⟨x,hx,rfl⟩:=List.mem_map.mp q
 obtain ⟨ps,e',_⟩:=O.tab x hx
 rw [e] at e'
 cases e'
 cases hd
private theorem Def.at {f : Addr} {fd : FuncData} {body : List Stmt} (D : Def C f fd body) (O : Ok C mu s) : DefAt s f fd body:=D mu s O
private theorem q1a {x : PySem.Str} {id : String} {px pos : Pos} {e : Expr} {es : List Expr} {ps : List PV} {z : PV} (hf : PurE prog w C mu A env ρ σ (.Name x px) (.val (.builtin id))) (hargs : PurEs prog w C mu A env ρ σ (e :: es) ps)
  (ho : OpL prog w C mu A (fun vs => call (.builtin id) vs) ps z) (he : autoParam (∀ env,starEach (e :: es) env = (false,eval e env) :: starEach es env) tR)
  (hplain : autoParam ((backTo pos (starEach es env)).any (·.1) = false) tR) : PurE prog w C mu A env ρ σ (.Call (.Name x px) (e :: es) [] pos) z:=fun s O a Q E k =>
 Call_ (hf s O a _ _ fun v s₁ O₁ k₁ y₁ => by
  cases (show v = .builtin id from y₁)
  exact PyProof.Rows.callWith_builtin1 (hargs pos s₁ O₁ (a.kp O k₁) _ _ fun vs s₂ O₂ k₂ y₂ => ho s₂ vs O₂ y₂ _ _ fun v' s' O' k' y' => k v' s' O' ((k₁.trans k₂).trans k') y') (he env) hplain)
private theorem q1q {x : PySem.Str} {f : Addr} {fd : FuncData} {body : List Stmt} {n : Nat} {px pos : Pos} {e : Expr} {es : List Expr} {ps : List PV} {z : PV} (hf : PurE prog w C mu A env ρ σ (.Name x px) (.val (.ref f))) (hargs : PurEs prog w C mu A env ρ σ (e :: es) ps)
  (D : Def C f fd body) (hfn : FnOk prog w C f n ps z) (r : Rm A n) (he : autoParam (∀ env,starEach (e :: es) env = (false,eval e env) :: starEach es env) tR) : PurE prog w C mu A env ρ σ (.Call (.Name x px) (e :: es) [] pos) z:=fun s O a Q E k =>
 Call_ (hf s O a _ _ fun v s₁ O₁ k₁ y₁ => by
  cases (show v = .ref f from y₁)
  obtain ⟨o,hl,hd⟩:=(D.at O₁).look
  refine callWith_function (o:=o) (fd:=fd) ?_
  have h:=hargs pos s₁ O₁ (a.kp O k₁)
  rw [he env] at h ⊢
  exact evalArgs_plain (h _ _ fun vs s₂ O₂ k₂ y₂ => ⟨⟨k₂.keep _ _ (fun h => nomatch h) (O₁.fnNotTab hl hd) hl,hd⟩,hfn A mu r s₂ vs O₂ y₂ _ _ fun v' s' O' k' y' => k v' s' O' ((k₁.trans k₂).trans k') y'⟩))
structure Clo (C : Cfg) (mu : List Addr) (h : Heap) (clo : List (PySem.Str × Addr)) (ρc : List (PySem.Str × PV)) (names : List (PySem.Str × NameKind)) : Prop where
 cell : ∀ x c,x ≠ ("__class__" : PySem.Str) → clo.lookup x = some c → c ∈ mu ∧ ∃ ov,h.IsCell c ov ∧ ∀ p,ρc.lookup x = some p → ∃ v,ov = some v ∧ Sim h mu p v
 has : ∀ x p,ρc.lookup x = some p → names.lookup x = some .free ∧ okName x = true ∧ ∃ c,clo.lookup x = some c
 inj : ∀ x y c,clo.lookup x = some c → clo.lookup y = some c → x = y
 alive : ∀ x ∈ clo,x.2 ∈ mu ∨ ∃ o,C.H.get? x.2 = some o
private theorem Clo.nil {names : List (PySem.Str × NameKind)} {h : Heap} : Clo C mu h [] [] names:=⟨fun _ _ _ e => (nomatch e),fun _ _ e => (nomatch e),fun _ _ _ e => (nomatch e),fun _ e => (nomatch e)⟩
private theorem q1o {f : Addr} {fd : FuncData} {body : List Stmt} {n : Nat} {names : List PySem.Str} {ps : List PV} {vs vs0 : List Value} {ρc : List (PySem.Str × PV)} {Q : Value → Shared → Prop} (D : DefAt s f fd body) (r : Rm A (n + 1)) (O : Ok C mu s)
  (hy : Sims s.heap mu ps vs) (hbind : BindsTo s fd ⟨vs0,[]⟩ (names.zip vs)) (hlen : names.length = ps.length) (hclo : Clo C mu s.heap fd.closure ρc fd.scope.names)
  (hloc : names.all (fun x => fd.scope.names.lookup x == some .local && okName x) = true) (hcell : fd.scope.names.all (fun x => x.2 != .cell) = true)
  (h : ∀ L s₁,s.heap.get? L = none → In C (L :: mu) [L] (callEnv fd L f) ((names.zip ps).reverse ++ ρc) [] s s₁ → Rm (A.deeper (callEnv fd L f)) n → (∀ b o,s.heap.get? b = some o → s₁.heap.get? b = some o) →
   wpAny (model prog w) (A.deeper (callEnv fd L f)) (execs body (callEnv fd L f)) (fun fl s' => match fl with | .ret v => Q v s' | _ => Q .none s') (fun _ _ => False) s₁) :
  wpAny (model prog w) A (call (.ref f) vs0) Q E s:=by
 obtain ⟨o,hl,hd⟩:=D.look
 have hvl : vs.length = ps.length:=hy.length
 have hln : ∀ x ∈ names,fd.scope.names.lookup x = some .local ∧ okName x = true:=fun x hx => by
  have:=List.all_eq_true.mp hloc x hx
  rw [Bool.and_eq_true,beq_iff_eq] at this
  exact this
 refine wpAny_call (codeAny_call_def (binds:=names.zip vs) r.room hl hd O.nolimit D.code D.body hbind (fun x hx => by simpa using List.all_eq_true.mp hcell x hx)
  (fun x hx => (hln x.1 (List.of_mem_zip hx).1).1) (fun h₀ hns hk => ?_) D.co D.gen D.kind)
 have hnone:=Ok.size_none s
 have hL : ∃ o,h₀.get? s.heap.objs.size = some o:=let ⟨o,_,_,ho,_⟩:=hns;⟨o,ho⟩
 obtain ⟨oL,hoL⟩:=hL
 have O₁ : Ok C (s.heap.objs.size :: mu) { s with heap:=h₀,toks:=s.toks + (names.zip vs).length }:=O.fresh hnone hoL hk (O.fresh' hnone).1
 have hy₁ : Sims h₀ (s.heap.objs.size :: mu) ps vs:=(hy.new hnone).keeps (fun _ _ z _ => z) fun b o _ _ e => hk b o e
 have memρ : ∀ x p,(names.zip ps).reverse.lookup x = some p → x ∈ names:=fun x p e => (List.of_mem_zip (List.mem_reverse.mp (q0n e))).1
 have split : ∀ x p,((names.zip ps).reverse ++ ρc).lookup x = some p → (names.zip ps).reverse.lookup x = some p ∨ ρc.lookup x = some p:=fun x p e => by
  rw [List.lookup_append] at e
  cases hq : (names.zip ps).reverse.lookup x with
  | some q => rw [hq] at e;left;simpa using e
  | none => rw [hq] at e;right;simpa using e
 have hLmu : s.heap.objs.size ∉ mu:=(O.fresh' hnone).2
 refine wpAny_mono (h s.heap.objs.size _ hnone ⟨O₁,⟨fun _ _ e => (nomatch e),D.kind,D.gl,D.bi,.head _,⟨_,hns,fun x p e hlc => ?_⟩,fun x p e => ?_,fun x c hx hxl hc => ?_,fun x p e => ?_,hclo.inj⟩,
  Kp.of_keep hk,fun a h => by simp at h;subst h;exact .head _,fun x hx => (hclo.alive x hx).imp (.tail _) id⟩ (r.deeper _) hk) (fun fl s' hq => ?_) fun _ _ f => f.elim
 ·rcases split x p e with e | e
  ·exact q2m names ps vs hlen hy₁ x p e
  ·have h1:=(hclo.has x p e).1
   rw [show (callEnv fd s.heap.objs.size f).kindOf x = fd.scope.names.lookup x from rfl,h1] at hlc;cases hlc
 ·rcases split x p e with e | e
  ·exact .inl (hln x (memρ x p e)).1
  ·obtain ⟨h1,h2,h3⟩:=hclo.has x p e
   exact .inr ⟨.inr h1,h3⟩
 ·obtain ⟨h1,ov,h2,h3⟩:=hclo.cell x c hx hc
  refine ⟨.tail _ h1,fun q => hLmu (show s.heap.objs.size ∈ mu from (show (callEnv fd s.heap.objs.size f).locals ∈ mu from q ▸ h1)),ov,h2.keeps hk,fun p e => ?_⟩
  rcases split x p e with e | e
  ·exact absurd (hln x (memρ x p e)).1 hxl
  ·obtain ⟨v,e1,e2⟩:=h3 p e
   exact ⟨v,e1,(e2.new hnone).keeps (fun _ _ z _ => z) fun b o _ _ e => hk b o e⟩
 ·rcases split x p e with e | e
  ·exact q1s (hln x (memρ x p e)).2
  ·exact q1s (hclo.has x p e).2.1
 ·cases fl <;> exact hq
private theorem In.out {L : Addr} (I : In C (L :: mu) [L] env ρ σ s s') (hL : s.heap.get? L = none) : Ok C mu s' ∧ Kp C [] s s':=
 ⟨I.ok.sub fun a h => .tail _ h,⟨fun b o _ ht e => I.kp.keep b o (fun q => by simp at q;subst q;rw [hL] at e;cases e) ht e⟩⟩
private theorem In.outs {Ls : List Addr} (I : In C (Ls ++ mu) (Ls ++ nu) env ρ σ s s') (hL : ∀ L ∈ Ls,s.heap.get? L = none) : Ok C mu s' ∧ Kp C nu s s':=
 ⟨I.ok.sub fun a h => List.mem_append_right _ h,⟨fun b o hb ht e => I.kp.keep b o (fun q => by
  rcases List.mem_append.mp q with q | q
  ·rw [hL b q] at e;cases e
  ·exact hb q) ht e⟩⟩
private theorem FnOk.of {f : Addr} {fd : FuncData} {body : List Stmt} {n : Nat} {names : List PySem.Str} {ps : List PV} {z : PV} (D : Def C f fd body)
  (hbind : ∀ vs,vs.length = names.length → bindArgs fd ⟨vs,[]⟩ = pure (names.zip vs)) (hlen : names.length = ps.length) (hclo : fd.closure = [])
  (hloc : names.all (fun x => fd.scope.names.lookup x == some .local && okName x) = true) (hcell : fd.scope.names.all (fun x => x.2 != .cell) = true)
  (h : ∀ A mu L s s₁,Rm A n → s.heap.get? L = none → In C (L :: mu) [L] (callEnv fd L f) (names.zip ps).reverse [] s s₁ →
   wpAny (model prog w) A (execs body (callEnv fd L f)) (fun fl s' => ∃ v ρ',fl = .ret v ∧ In C (L :: mu) [L] (callEnv fd L f) ρ' [] s s' ∧ Sim s'.heap (L :: mu) z v) (fun _ _ => False) s₁) : FnOk prog w C f (n + 1) ps z:=by
 intro A mu r s vs O hy Q E k
 refine q1o (ρc:=[]) (D.at O) r O hy (BindsTo.of_eq (hbind vs (by rw [hy.length,hlen]))) hlen (by rw [hclo];exact Clo.nil) hloc hcell fun L s₁ hL I r' _ => ?_
 rw [List.append_nil] at I
 refine wpAny_mono (h _ mu L s s₁ r' hL I) (fun fl s' hq => ?_) fun _ _ f => f
 obtain ⟨v,ρ',rfl,I',y⟩:=hq
 exact k v s' (I'.out hL).1 (I'.out hL).2 (y.sub fun a h => .tail _ h)
end
end
section
open PySem PySem.W PySem.Calls PyProof.Rows
variable {prog : Program} {w : World}
section
variable {C : Cfg} {mu nu : List Addr} {s₀ s s' : Shared} {env : Env} {ρ : List (PySem.Str × PV)} {σ : List (Addr × MO)} {A : Around} {E : Value → Shared → Prop}
noncomputable def Meth (prog : Program) (w : World) (C : Cfg) (mu : List Addr) (A : Around) (p : PV) (name : PySem.Str) (id : String) : Prop:=
 ∀ (pl : Sem Bool) s v (Q : Value × List Value → Shared → Prop) (E : Value → Shared → Prop),Ok C mu s → Sim s.heap mu p v → Q (.builtin id,[v]) s → wpAny (model prog w) A (getMethod v name pl) Q E s
private theorem q6t {o : Expr} {name : PySem.Str} {id : String} {apos pos : Pos} {p z : PV} {pl : Sem Bool} (ho : PurE prog w C mu A env ρ σ o p) (hm : Meth prog w C mu A p name id)
  (hc : Op1 prog w C mu A (fun v => call (.builtin id) [v]) p z)
  (he : autoParam (eval (.Call (.Attribute o name apos) [] [] pos) env = (do let ov ← eval o env;standAt apos.atName;let __x ← holding [ov] (getMethod ov name pl);match __x with | (f,first) => callWith pos f first (backTo pos (starEach [] env)) [])) tR) :
  PurE prog w C mu A env ρ σ (.Call (.Attribute o name apos) [] [] pos) z:=fun s O a Q E k =>
 MethodCall_ (pl:=pl) (ho s O a _ _ fun v s₁ O₁ k₁ y₁ => hm pl s₁ v _ _ O₁ y₁ (callWith_method0 (hc s₁ v O₁ y₁ _ _ fun v' s' O' k' y' => k v' s' O' (k₁.trans k') y'))) he
private theorem q6u {o e : Expr} {es : List Expr} {name : PySem.Str} {id : String} {apos pos : Pos} {p z : PV} {ps : List PV} {pl : Sem Bool} (ho : PurE prog w C mu A env ρ σ o p) (hm : Meth prog w C mu A p name id) (ha : PurEs prog w C mu A env ρ σ (e :: es) ps)
  (hc : OpL prog w C mu A (fun vs => call (.builtin id) vs) (p :: ps) z)
  (he : autoParam (eval (.Call (.Attribute o name apos) (e :: es) [] pos) env = (do let ov ← eval o env;standAt apos.atName;let __x ← holding [ov] (getMethod ov name pl);match __x with | (f,first) => callWith pos f first (backTo pos (starEach (e :: es) env)) [])) tR)
  (hs : autoParam (starEach (e :: es) env = (false,eval e env) :: starEach es env) tR) (hplain : autoParam ((backTo pos (starEach es env)).any (·.1) = false) tR) : PurE prog w C mu A env ρ σ (.Call (.Attribute o name apos) (e :: es) [] pos) z:=fun s O a Q E k =>
 MethodCall_ (pl:=pl) (ho s O a _ _ fun v s₁ O₁ k₁ y₁ => hm pl s₁ v _ _ O₁ y₁ (callWith_method1 (ha pos s₁ O₁ (a.kp O k₁) _ _ fun vs s₂ O₂ k₂ y₂ =>
  hc s₂ (v :: vs) O₂ ⟨v,vs,rfl,y₁.kp0 O₁ k₂,y₂⟩ _ _ fun v' s' O' k' y' => k v' s' O' ((k₁.trans k₂).trans k') y') hs hplain)) he
noncomputable def Glob (C : Cfg) (x : PySem.Str) (v : Value) : Prop:=nsIn C.K mainGlobals x = some (some v) ∨ (nsIn C.K mainGlobals x = some none ∧ nsIn C.K builtinsNs x = some (some v))
private theorem q0f {x : PySem.Str} {v : Value} {pos : Pos} (hv : Glob C x v) (hl : env.kindOf x = some .globalImplicit) (hd : (x == ("__debug__" : PySem.Str)) = false) : PurE prog w C mu A env ρ σ (.Name x pos) (.val v):=pur_glob hl hv hd
private theorem pur_gint {x : PySem.Str} {i : Int} {t : Tok} {pos : Pos} (hv : Glob C x (.int i t)) (hl : env.kindOf x = some .globalImplicit) (hd : (x == ("__debug__" : PySem.Str)) = false) : PurE prog w C mu A env ρ σ (.Name x pos) (.int i):=fun s O a =>
 Pur.here O fun Q E k => wpAny_Name (q3r O a.kind a.gl a.bi hl hv (k _ s.toks ⟨t,rfl⟩)) hd
private theorem w6s {x : PySem.Str} {y : PySem.Str} {t : Tok} {pos : Pos} (hv : Glob C x (.str y t)) (hl : env.kindOf x = some .globalImplicit) (hd : (x == ("__debug__" : PySem.Str)) = false) : PurE prog w C mu A env ρ σ (.Name x pos) (.str y):=fun s O a =>
 Pur.here O fun Q E k => wpAny_Name (q3r O a.kind a.gl a.bi hl hv (k _ s.toks ⟨t,rfl⟩)) hd
section
variable {a b : Int}
private theorem w0g {name : PySem.Str} (hn : name = PySem.Str.ofString "bit_length") : Meth prog w C mu A (.int a) name "int.bit_length":=fun pl s v Q E O ⟨t,hv⟩ h => by subst hv hn;exact getMethod_int_bit_length h
private theorem w2q : Op1 prog w C mu A (fun v => call (.builtin "int.bit_length") [v]) (.int a) (.int (Builtin.Int.intBits a)):=fun s v O ⟨t,hv⟩ => by subst hv;exact Pur.here O fun Q E k => call_int_bit_length (k _ _ ⟨_,rfl⟩)
private theorem z0l (hb : b ≠ 0) (hp : Builtin.divisionGoesByPylong a b = false) : OpL prog w C mu A (fun vs => call (.builtin "divmod") vs) [.int a,.int b] (.tup [.int (a.fdiv b),.int (a.fmod b)]):=fun s vs O hy => by
 obtain ⟨v,r,rfl,⟨t,rfl⟩,u,r',rfl,⟨t',rfl⟩,hn⟩:=hy
 cases (show r' = [] from hn)
 refine Pur.newSeq (tuple:=true) O fun Q E k => divmod_int hb ?_ (.inl hp)
 have hs : Sims s.heap mu [PV.int (a.fdiv b),PV.int (a.fmod b)] [Value.int (a.fdiv b) s.toks,Value.int (a.fmod b) (s.toks + 1)]:=⟨_,_,rfl,⟨_,rfl⟩,_,_,rfl,⟨_,rfl⟩,rfl⟩
 exact k [_,_] 0 _ _ hs (fun b o e => Heap.get?_push_of_some _ e) _ (Ok.size_none s) (Heap.get?_push_size _ rfl)
private theorem z0j : Op2 prog w C mu A (inplaceOp .Add) (.int a) (.int b) (.int (a + b)):=fun s x y O ⟨t,hx⟩ ⟨u,hy⟩ => by subst hx hy;exact Pur.here O fun Q E k => iadd_int (k _ _ ⟨_,rfl⟩)
private theorem op_isub : Op2 prog w C mu A (inplaceOp .Sub) (.int a) (.int b) (.int (a - b)):=fun s x y O ⟨t,hx⟩ ⟨u,hy⟩ => by subst hx hy;exact Pur.here O fun Q E k => isub_int (k _ _ ⟨_,rfl⟩)
private theorem op_imul (hm : IntMulOk a b) : Op2 prog w C mu A (inplaceOp .Mult) (.int a) (.int b) (.int (a * b)):=fun s x y O ⟨t,hx⟩ ⟨u,hy⟩ => by subst hx hy;exact Pur.here O fun Q E k => imul_int (k _ _ ⟨_,rfl⟩) hm
private theorem z0h (hb : 0 ≤ b) (hs : (Builtin.Int.intBits a : Int) + b ≤ 2 ^ 27) : Op2 prog w C mu A (inplaceOp .LShift) (.int a) (.int b) (.int (a * 2 ^ b.toNat)):=fun s x y O ⟨t,hx⟩ ⟨u,hy⟩ => by subst hx hy;exact Pur.here O fun Q E k => ilshift_int hb hs (k _ _ ⟨_,rfl⟩)
private theorem op_ishr (hb : 0 ≤ b) : Op2 prog w C mu A (inplaceOp .RShift) (.int a) (.int b) (.int (a.fdiv (2 ^ b.toNat))):=fun s x y O ⟨t,hx⟩ ⟨u,hy⟩ => by subst hx hy;exact Pur.here O fun Q E k => irshift_int hb (k _ _ ⟨_,rfl⟩)
end
end
end
section
open PySem PySem.W PySem.Calls PyProof.Rows
variable {prog : Program} {w : World}
private theorem w7l (kindOf : PySem.Str → Option NameKind) (x : PySem.Str) : ∀ (binds : List (PySem.Str × Value)) (m : PySem.Str → Option Value),bindL kindOf binds m x = if kindOf x = some .local then (binds.reverse.lookup x).or (m x) else m x
 | [],m => by unfold bindL;simp
 | (n,v) :: r,m => by
  unfold bindL
  rw [w7l kindOf x r]
  by_cases hx : kindOf x = some .local
  ·rw [if_pos hx,if_pos hx]
   simp only [List.reverse_cons,List.lookup_append,List.lookup_cons,List.lookup_nil]
   cases hr : r.reverse.lookup x with
   | some u => simp
   | none =>
    by_cases hn : x = n
    ·subst hn;simp [hx]
    ·have : (x == n) = false:=by simpa using hn
     simp only [this,Option.none_or]
     by_cases hk : kindOf n = some .local
     ·simp [hk,hn]
     ·simp [hk]
  ·rw [if_neg hx,if_neg hx]
   by_cases hk : kindOf n = some .local
   ·rw [if_pos hk]
    have : x ≠ n:=fun q => hx (q ▸ hk)
    simp [this]
   ·rw [if_neg hk]
private theorem w7m (kindOf : PySem.Str → Option NameKind) (x : PySem.Str) : ∀ (binds : List (PySem.Str × Value)) (m : PySem.Str → Option Value),bindC kindOf binds m x = if kindOf x = some .local then m x else (binds.reverse.lookup x).or (m x)
 | [],m => by unfold bindC;simp
 | (n,v) :: r,m => by
  unfold bindC
  rw [w7m kindOf x r]
  by_cases hx : kindOf x = some .local
  ·rw [if_pos hx,if_pos hx]
   by_cases hk : kindOf n = some .local
   ·rw [if_pos hk]
   ·rw [if_neg hk]
    have : x ≠ n:=fun q => hk (q ▸ hx)
    simp [this]
  ·rw [if_neg hx,if_neg hx]
   simp only [List.reverse_cons,List.lookup_append,List.lookup_cons,List.lookup_nil]
   cases hr : r.reverse.lookup x with
   | some u => simp
   | none =>
    by_cases hn : x = n
    ·subst hn;simp [hx]
    ·have : (x == n) = false:=by simpa using hn
     simp only [this,Option.none_or]
     by_cases hk : kindOf n = some .local
     ·simp [hk]
     ·simp [hk,hn]
section
variable {C : Cfg} {mu nu : List Addr} {s₀ s s' : Shared} {env : Env} {ρ : List (PySem.Str × PV)} {A : Around} {E : Value → Shared → Prop}
private theorem Ok.freshs {h' : Heap} {tk : Nat} : ∀ {Ls : List Addr},Ok C mu s → (∀ a ∈ Ls,s.heap.get? a = none ∧ ∃ o,h'.get? a = some o) → (∀ b o,s.heap.get? b = some o → h'.get? b = some o) → Ok C (Ls ++ mu) { s with heap:=h',toks:=tk }
 | [],O,_,k => O.keep k
 | a :: Ls,O,hL,k => by
  have O' : Ok C (Ls ++ mu) { s with heap:=h',toks:=tk }:=Ok.freshs O (fun b hb => hL b (.tail _ hb)) k
  obtain ⟨hn,o,ho⟩:=hL a (.head _)
  refine O'.add ?_ ho ?_
  ·cases q : C.H.get? a with
   | none => rfl
   | some x => rw [O.old a x q (O.fresh' hn).1] at hn;cases hn
  ·intro x hx ps hps pos c' e q
   subst q
   obtain ⟨ps',h1,h2,h3⟩:=O.tab x hx
   have e' : tabObj ps' = tabObj ps:=Option.some.inj ((k _ _ h1).symm.trans hps)
   have : ps' = ps:=by injection e' with _ _ e3;injection e3
   subst this
   obtain ⟨d,e1,_,e3⟩:=h3 pos _ e
   cases e1
   obtain ⟨c₁,o₁,_,_,f1,f2,_⟩:=e3
   cases f1
   rw [f2] at hn;cases hn
private theorem Sims.news {p : List PV} {v : List Value} {h : Heap} {Ls : List Addr} (x : Sims h mu p v) (ha : ∀ a ∈ Ls,h.get? a = none) : Sims h (Ls ++ mu) p v:=
 x.keeps (fun b o hb e q => by
  rcases List.mem_append.mp q with q | q
  ·rw [ha b q] at e;cases e
  ·exact hb q) fun _ _ _ _ e => e
private theorem Sim.news {p : PV} {v : Value} {h : Heap} {Ls : List Addr} (x : Sim h mu p v) (ha : ∀ a ∈ Ls,h.get? a = none) : Sim h (Ls ++ mu) p v:=
 x.keeps (fun b o hb e q => by
  rcases List.mem_append.mp q with q | q
  ·rw [ha b q] at e;cases e
  ·exact hb q) fun _ _ _ _ e => e
private theorem z1g {f : Addr} {fd : FuncData} {body : List Stmt} {n : Nat} {names : List PySem.Str} {ps : List PV} {vs : List Value} {Q : Value → Shared → Prop} (D : DefAt s f fd body) (r : Rm A (n + 1)) (O : Ok C mu s)
  (hy : Sims s.heap mu ps vs) (hbind : bindArgs fd ⟨vs,[]⟩ = pure (names.zip vs)) (hlen : names.length = ps.length) (hclo : fd.closure = [])
  (hloc : names.all (fun x => (fd.scope.names.lookup x == some .local || (fd.scope.names.lookup x == some .cell && ((cellsFrom 0 fd.scope.names []).lookup x).isSome)) && okName x) = true)
  (hnd : ((cellsFrom 0 fd.scope.names []).map (·.1)).Nodup)
  (h : ∀ L s₁,s.heap.objs.size = L → (∀ a ∈ q0j (callEnvC fd L f),s.heap.get? a = none) → In C (q0j (callEnvC fd L f) ++ mu) (q0j (callEnvC fd L f)) (callEnvC fd L f) (names.zip ps).reverse [] s s₁ → Rm (A.deeper (callEnvC fd L f)) n → (∀ b o,s.heap.get? b = some o → s₁.heap.get? b = some o) →
   wpAny (model prog w) (A.deeper (callEnvC fd L f)) (execs body (callEnvC fd L f)) (fun fl s' => match fl with | .ret v => Q v s' | _ => Q .none s') (fun _ _ => False) s₁) :
  wpAny (model prog w) A (call (.ref f) vs) Q E s:=by
 obtain ⟨o,hl,hd⟩:=D.look
 have hvl : vs.length = ps.length:=hy.length
 have hcells : ∀ m,∀ x,((cellsFrom 0 fd.scope.names []).lookup x).isSome = true → ((cellsFrom m fd.scope.names []).lookup x).isSome = true:=fun m x hx => by
  have e:=cellsFrom_names fd.scope.names 0 m [] [] rfl
  obtain ⟨c,hc⟩:=Option.isSome_iff_exists.mp hx
  have hm : x ∈ (cellsFrom m fd.scope.names []).map (·.1):=e ▸ List.mem_map_of_mem (f:=(·.1)) (q0n hc)
  obtain ⟨⟨x',c'⟩,hm',rfl⟩:=List.mem_map.mp hm
  obtain ⟨q,hq⟩:=q3q hm'
  exact Option.isSome_iff_exists.mpr ⟨q,hq⟩
 have hln : ∀ x ∈ names,(fd.scope.names.lookup x = some .local ∨ (fd.scope.names.lookup x = some .cell ∧ ((cellsFrom 0 fd.scope.names []).lookup x).isSome = true)) ∧ okName x = true:=fun x hx => by
  have:=List.all_eq_true.mp hloc x hx
  simpa [Bool.and_eq_true,Bool.or_eq_true] using this
 refine wpAny_call (codeAny_call_cells (binds:=names.zip vs) r.room hl hd O.nolimit D.code D.body hbind hclo (fun x hx => ?_) (fun s₁ X => ?_) D.co D.gen D.kind)
 ·rcases (hln x.1 (List.of_mem_zip hx).1).1 with h1 | ⟨h1,h2⟩
  ·exact .inl h1
  ·exact .inr ⟨h1,hcells _ _ h2⟩
 obtain ⟨h₁,tk,rfl⟩:=X.toInCall.same
 generalize hL : s.heap.objs.size = L at X
 have hab : ∀ a ∈ q0j (callEnvC fd L f),L ≤ a:=fun a ha => by
  rcases List.mem_cons.mp ha with rfl | ha
  ·exact Nat.le_refl _
  ·obtain ⟨⟨x,c⟩,hm,rfl⟩:=List.mem_map.mp ha
   exact Nat.le_of_lt (X.above x c hm)
 have hnone : ∀ a ∈ q0j (callEnvC fd L f),s.heap.get? a = none:=fun a ha => Heap.get?_none_of_le (by rw [hL];exact hab a ha)
 have hndc : ((callEnvC fd L f).cells.map (·.1)).Nodup:=by
  have e:=cellsFrom_names fd.scope.names 0 (L + 1) [] [] rfl
  show ((cellsFrom (L + 1) fd.scope.names []).map (·.1)).Nodup
  rw [← e];exact hnd
 have hlk : ∀ x c,(x,c) ∈ (callEnvC fd L f).cells → (callEnvC fd L f).cells.lookup x = some c:=fun x c hm => lookup_of_mem_nodup hndc hm
 have hex : ∀ a ∈ q0j (callEnvC fd L f),∃ o,h₁.get? a = some o:=fun a ha => by
  rcases List.mem_cons.mp ha with rfl | ha
  ·obtain ⟨o,_,_,ho,_⟩:=X.toInCall.ns;exact ⟨o,ho⟩
  ·obtain ⟨⟨x,c⟩,hm,rfl⟩:=List.mem_map.mp ha
   obtain ⟨o,ho,_⟩:=X.cell x c (hlk x c hm)
   exact ⟨o,ho⟩
 have hk : ∀ b o,s.heap.get? b = some o → h₁.get? b = some o:=X.toInCall.keep
 have O₁ : Ok C (q0j (callEnvC fd L f) ++ mu) { s with heap:=h₁,toks:=tk }:=O.freshs (fun a ha => ⟨hnone a ha,hex a ha⟩) hk
 have hy₁ : Sims h₁ (q0j (callEnvC fd L f) ++ mu) ps vs:=(hy.news hnone).keeps (fun _ _ z _ => z) fun b o _ _ e => hk b o e
 have memρ : ∀ x p,(names.zip ps).reverse.lookup x = some p → x ∈ names:=fun x p e => (List.of_mem_zip (List.mem_reverse.mp (q0n e))).1
 refine wpAny_mono (h L _ hL hnone ⟨O₁,⟨fun _ _ e => (nomatch e),D.kind,D.gl,D.bi,.head _,⟨_,X.toInCall.ns,fun x p e hlc => ?_⟩,fun x p e => ?_,fun x c hx hxl hc => ?_,fun x p e => q1s (hln x (memρ x p e)).2,fun x y c h1 h2 => ?_⟩,
  Kp.of_keep hk,fun a h => List.mem_append_left _ h,fun x hx => .inl (List.mem_append_left _ (.tail _ (List.mem_map_of_mem (f:=(·.2)) hx)))⟩ (r.deeper _) hk) (fun fl s' hq => ?_) fun _ _ f => f.elim
 ·rw [w7l,if_pos hlc]
  obtain ⟨v,e1,e2⟩:=q2m names ps vs hlen hy₁ x p e
  exact ⟨v,by rw [e1];rfl,e2⟩
 ·rcases (hln x (memρ x p e)).1 with h1 | ⟨h1,h2⟩
  ·exact .inl h1
  ·exact .inr ⟨.inl h1,Option.isSome_iff_exists.mp (hcells (L + 1) x h2)⟩
 ·refine ⟨.tail _ (List.mem_append_left _ (List.mem_map_of_mem (f:=(·.2)) (q0n hc))),Nat.ne_of_gt (X.above x c (q0n hc)),_,X.cell x c hc,fun p e => ?_⟩
  obtain ⟨v,e1,e2⟩:=q2m names ps vs hlen hy₁ x p e
  rw [w7m,if_neg hxl]
  exact ⟨v,by rw [e1];rfl,e2⟩
 ·by_cases q : x = y
  ·exact q
  ·exfalso
   have hp:=X.apart
   have m1:=q0n h1
   have m2:=q0n h2
   exact q (name_of_addr hp m1 m2)
 ·cases fl <;> exact hq
end
end
section
set_option tactic.hygienic true
open PySem PySem.W PySem.Calls PyProof.Rows
variable {prog : Program} {w : World}
private theorem q8r {pos : Pos} {a b : Int} {ta tb : Tok} {c : Value} (l : List Value) (h : TriplesOk l) : ∀ v,codeAmong pos (l ++ [.int a ta,.int b tb,c]) = some v → codeAmong pos l = some v ∨ v = c:=by
 fun_induction TriplesOk l with
 | case1 =>
  intro v e
  simp only [List.nil_append,codeAmong] at e
  split at e
  ·right;cases e;rfl
  ·cases e
 | case2 x t y u z rest ih =>
  intro v e
  simp only [List.cons_append,codeAmong] at e ⊢
  split at e
  ·rename_i hc
   left;rw [if_pos hc];exact e
  ·rename_i hc
   rw [if_neg hc]
   exact ih h v e
 | case3 l h1 h2 => exact h.elim
section
variable {C : Cfg} {mu nu : List Addr} {s₀ s s' : Shared} {env : Env} {ρ : List (PySem.Str × PV)} {A : Around} {E : Value → Shared → Prop}
private theorem Ok.grow {P c' : Addr} {q : PySem.Str} {ps : Array Value} {pos : Pos} {h' : Heap} {tk : Nat} {x : Addr × Addr × PySem.Str} (O : Ok C mu s) (hx : x ∈ C.T) (hP : x.2.1 = P) (hq : x.2.2 = q) (hT : ∀ y ∈ C.T,y.2.1 = P → y.2.2 = q)
  (hps : s.heap.get? P = some (tabObj ps)) (hx' : Heap.ExtBut P s.heap h') (hc : s.heap.objs.size ≤ c') (hrec : h'.CodeRec (.ref c') q) (hP' : h'.get? P = some (tabObj (ps ++ #[rawInt pos.line,rawInt pos.col,.ref c']))) : Ok C mu { s with heap:=h',toks:=tk } where
 old:=fun b o e ht => hx' b o (fun z => ht (z ▸ hP ▸ List.mem_map_of_mem hx)) (O.old b o e ht)
 tab:=fun y hy => by
  obtain ⟨ps',h1,h2,h3⟩:=O.tab y hy
  have hPmu : P ∉ mu:=fun z => O.notTab z (hP ▸ List.mem_map_of_mem hx)
  by_cases e : y.2.1 = P
  ·rw [e,hps] at h1
   have : ps = ps':=by have:=Option.some.inj h1;injection this with _ _ e3;injection e3
   subst this
   have hyq:=hT y hy e
   rw [e,hyq]
   have hl : (ps ++ #[rawInt pos.line,rawInt pos.col,Value.ref c']).toList = ps.toList ++ [rawInt pos.line,rawInt pos.col,.ref c']:=by simp
   refine ⟨_,hP',by rw [hl];exact TriplesOk_snoc _ _ _ _ h2,fun pos' cv ecv => ?_⟩
   rw [hl] at ecv
   have hc'mu : c' ∉ mu:=fun z => by
    obtain ⟨o,ho⟩:=(O.live _ z).2
    exact Nat.lt_irrefl _ (Nat.lt_of_lt_of_le (Heap.lt_size ho) hc)
   rcases q8r ps.toList h2 cv ecv with e1 | e1
   ·obtain ⟨d,f1,f2,f3⟩:=h3 pos' cv e1
    refine ⟨d,f1,f2,?_⟩
    rw [hyq] at f3
    obtain ⟨c₁,o,vs,t,g1,g2,g3,g4⟩:=f3
    refine ⟨c₁,o,vs,t,g1,hx' _ _ (fun z => ?_) g2,g3,g4⟩
    rw [z,hps] at g2;cases g2
    cases g3;
    have e5 : (tabObj ps).data = .fields ps:=rfl
    -- a table is no code record: its second field is no str
    have hsnd : ps[1]? = some (.str q t):=g4
    have htr:=h2
    have : ps.toList[1]? = some (.str q t):=by simpa using hsnd
    cases hl2 : ps.toList with
    | nil => rw [hl2] at this;cases this
    | cons a r =>
     cases r with
     | nil => rw [hl2] at this;cases this
     | cons b r =>
      rw [hl2] at this htr
      simp at this
      subst this
      cases a <;> exact htr.elim
   ·exact ⟨c',e1,hc'mu,e1 ▸ hrec⟩
  ·refine ⟨ps',hx' _ _ e h1,h2,fun pos' cv ecv => ?_⟩
   obtain ⟨d,f1,f2,f3⟩:=h3 pos' cv ecv
   refine ⟨d,f1,f2,?_⟩
   obtain ⟨c₁,o,vs,t,g1,g2,g3,g4⟩:=f3
   refine ⟨c₁,o,vs,t,g1,hx' _ _ (fun z => ?_) g2,g3,g4⟩
   rw [z,hps] at g2;cases g2
   cases g3
   have hthis : ps.toList[1]? = some (.str y.2.2 t):=by simpa using g4
   obtain ⟨ps₂,k1,k2,_⟩:=O.tab x hx
   rw [hP,hps] at k1
   have : ps = ps₂:=by have:=Option.some.inj k1;injection this with _ _ e3;injection e3
   subst this
   cases hl2 : ps.toList with
   | nil => rw [hl2] at hthis;cases hthis
   | cons a r =>
    cases r with
    | nil => rw [hl2] at hthis;cases hthis
    | cons b r =>
     rw [hl2] at hthis k2
     simp at hthis
     subst hthis
     cases a <;> exact k2.elim
 code:=O.code
 live:=fun a ha => ⟨(O.live a ha).1,let ⟨o,ho⟩:=(O.live a ha).2;⟨o,hx' a o (fun z => O.notTab ha (z ▸ hP ▸ List.mem_map_of_mem hx)) ho⟩⟩
 gens:=O.gens
 os:=O.os
 kin:=O.kin
 kt:=O.kt
 lim:=O.lim
 glob:=O.glob
 bmod:=O.bmod
end
end
section
open PySem PySem.W PySem.Calls PyProof.Rows
variable {prog : Program} {w : World}
section
variable {C : Cfg} {mu nu : List Addr} {s₀ s s' : Shared} {env : Env} {ρ : List (PySem.Str × PV)} {σ : List (Addr × MO)} {A : Around} {E : Value → Shared → Prop}
noncomputable abbrev Mlst (l : List PV) : MO:=.seq (.type "list") none l
noncomputable def notRec (o : Obj) : Prop:=∀ vs,o.data ≠ .fields vs
private theorem Ok.add' {a : Addr} (O : Ok C mu s) (hn : C.H.get? a = none) {o : Obj} (ha : s.heap.get? a = some o) (ho : notRec o) : Ok C (a :: mu) s:=
 O.add hn ha fun x hx ps hps pos c' e q => by
  subst q
  obtain ⟨ps',h1,h2,h3⟩:=O.tab x hx
  have e' : tabObj ps' = tabObj ps:=Option.some.inj (h1.symm.trans hps)
  have : ps' = ps:=by injection e' with _ _ e3;injection e3
  subst this
  obtain ⟨d,e1,_,e3⟩:=h3 pos _ e
  obtain ⟨c₁,o₁,vs,_,f1,f2,f3,_⟩:=e3
  cases e1;cases f1
  rw [ha] at f2;cases f2
  exact ho vs f3
private theorem In.unborn (I : In C mu nu env ρ σ s₀ s) {a : Addr} (h : s.heap.get? a = none) : s₀.heap.get? a = none:=by
 cases q : s₀.heap.get? a with
 | none => rfl
 | some o =>
  have hf:=I.ok.fresh' h
  rw [I.kp.keep a o (fun q => hf.2 (I.sub a q)) hf.1 q] at h;cases h
private theorem Ok.unborn (O : Ok C mu s) {a : Addr} (h : s.heap.get? a = none) : C.H.get? a = none:=by
 cases q : C.H.get? a with
 | none => rfl
 | some o => rw [O.old a o q (O.fresh' h).1] at h;cases h
private theorem In.grow {a : Addr} {m : MO} {o : Obj} (I : In C mu nu env ρ σ s₀ s) (O' : Ok C mu s') (k : Kp C [] s s') (ha : s.heap.get? a = none) (hm : MOAt (a :: mu) s'.heap a m) (ho : s'.heap.get? a = some o) (hr : notRec o) :
  In C (a :: mu) (a :: nu) env ρ ((a,m) :: σ) s₀ s':=by
 have hamu:=(I.ok.fresh' ha).2
 have up : ∀ {p : PV} {v : Value},Sim s.heap mu p v → Sim s'.heap (a :: mu) p v:=fun x => (x.new ha).keeps (fun _ _ z _ => z) fun b o hb hc e => k.keep b o (fun h => nomatch h) (I.ok.seqNotTab hc e) e
 have hown : a ∉ q0j env:=fun q => by
  rcases List.mem_cons.mp q with rfl | q
  ·exact hamu I.act.loc
  ·obtain ⟨x,h1,h2⟩:=List.mem_map.mp q
   rcases I.cells x h1 with h3 | ⟨o,h3⟩
   ·exact hamu (h2 ▸ h3)
   ·rw [h2,I.ok.unborn ha] at h3;cases h3
 have upM : ∀ {b : Addr} {m : MO},b ∈ mu → MOAt mu s.heap b m → MOAt (a :: mu) s'.heap b m:=fun hb x => x.keeps (fun o e => k.keep _ o (fun h => nomatch h) (I.ok.notTab hb) e)
  (fun c o hc e q => by rcases List.mem_cons.mp q with rfl | q;(rw [ha] at e;cases e);exact hc q) fun c o _ hc e => k.keep c o (fun h => nomatch h) (I.ok.seqNotTab hc e) e
 refine ⟨O'.add' (I.ok.unborn ha) ho hr,⟨fun b m' e => ?_,I.act.kind,I.act.gl,I.act.bi,.tail _ I.act.loc,?_,I.act.kinds,fun x c hx hl hc => ?_,I.act.plain,I.act.inj⟩,(I.kp.trans (k.mono fun _ h => nomatch h)).mono fun _ h => .tail _ h,fun b hb => ?_,fun x hx => (I.cells x hx).imp (.tail _) id⟩
 ·rw [List.lookup_cons] at e
  cases hb : b == a with
  | true =>
   rw [hb] at e;cases e
   rw [eq_of_beq hb]
   exact ⟨.head _,hown,hm⟩
  | false =>
   rw [hb] at e
   obtain ⟨h1,h2,h3⟩:=I.act.st b m' e
   exact ⟨.tail _ h1,h2,upM h1 h3⟩
 ·obtain ⟨m,⟨o,es,ep,ho,r⟩,hv⟩:=I.act.ns
  exact ⟨m,⟨o,es,ep,k.keep _ _ (fun h => nomatch h) (I.ok.notTab I.act.loc) ho,r⟩,fun x p h1 h2 => let ⟨v,e,y⟩:=hv x p h1 h2;⟨v,e,up y⟩⟩
 ·obtain ⟨h1,h2,ov,⟨o,ho,hd⟩,h4⟩:=I.act.cell x c hx hl hc
  exact ⟨.tail _ h1,h2,ov,⟨o,k.keep _ _ (fun h => nomatch h) (I.ok.notTab h1) ho,hd⟩,fun p hp => let ⟨v,e,y⟩:=h4 p hp;⟨v,e,up y⟩⟩
 ·rcases List.mem_cons.mp hb with rfl | hb
  ·exact .head _
  ·exact .tail _ (I.sub b hb)
private theorem In.mut {a : Addr} {m m' : MO} {h' : Heap} {tk : Nat} (I : In C mu nu env ρ σ s₀ s) (hl : σ.lookup a = some m) (hnu : a ∈ nu) (hs : Heap.ExtBut a s.heap h') (hm : MOAt mu h' a m') :
  In C mu nu env ρ ((a,m') :: σ) s₀ { s with heap:=h',toks:=tk }:=by
 obtain ⟨hamu,hown,_⟩:=I.act.st a m hl
 have sk : ∀ {q : PV} {u : Value},Sim s.heap mu q u → Sim h' mu q u:=fun y => y.keeps (fun _ _ z _ => z) fun b o hb _ e => hs b o (fun q => hb (q ▸ hamu)) e
 refine ⟨I.ok.step (fun b o hb e => hs b o (fun q => hb (q ▸ hamu)) e) (fun b hb => ?_),⟨fun b m₂ e => ?_,I.act.kind,I.act.gl,I.act.bi,I.act.loc,?_,I.act.kinds,fun x c hx hl hc => ?_,I.act.plain,I.act.inj⟩,I.kp.trans ⟨fun b o hb _ e => hs b o (fun q => hb (q ▸ hnu)) e⟩,I.sub,I.cells⟩
 ·by_cases q : b = a
  ·subst q
   cases m' with
   | seq c d l => obtain ⟨vs,n,e,_⟩:=hm;exact ⟨_,e⟩
   | raw o => exact ⟨o,hm⟩
  ·obtain ⟨o,ho⟩:=(I.ok.live b hb).2;exact ⟨o,hs b o q ho⟩
 ·rw [List.lookup_cons] at e
  cases hb : b == a with
  | true =>
   rw [hb] at e;cases e
   rw [eq_of_beq hb]
   exact ⟨hamu,hown,hm⟩
  | false =>
   rw [hb] at e
   obtain ⟨h1,h2,h3⟩:=I.act.st b m₂ e
   have hba : b ≠ a:=fun q => by rw [q] at hb;simp at hb
   exact ⟨h1,h2,h3.keeps (fun o e => hs b o hba e) (fun _ _ z _ => z) fun c o hc _ e => hs c o (fun q => hc (q ▸ hamu)) e⟩
 ·obtain ⟨m,⟨o,es,ep,ho,r⟩,hv⟩:=I.act.ns
  exact ⟨m,⟨o,es,ep,hs _ _ (fun q => hown (q ▸ .head _)) ho,r⟩,fun x p h1 h2 => let ⟨v,e,y⟩:=hv x p h1 h2;⟨v,e,sk y⟩⟩
 ·obtain ⟨h1,h2,ov,⟨o,ho,hd⟩,h4⟩:=I.act.cell x c hx hl hc
  exact ⟨h1,h2,ov,⟨o,hs _ _ (fun q => hown (q ▸ .tail _ (List.mem_map_of_mem (f:=(·.2)) (q1w hc)))) ho,hd⟩,fun p hp => let ⟨v,e,y⟩:=h4 p hp;⟨v,e,sk y⟩⟩
private theorem In.freeze {a : Addr} {l : List PV} {x : PySem.Str} {σ' : List (Addr × MO)} (I : In C (a :: mu) (a :: nu) env ρ σ s₀ s) (h₀ : s₀.heap.get? a = none) (hamu : a ∉ mu) (hl : σ.lookup a = some (Mlst l)) (hx : ρ.lookup x = some (.val (.ref a)))
  (hσ : ∀ b m,σ'.lookup b = some m → σ.lookup b = some m ∧ b ≠ a) (hnu : ∀ b ∈ nu,b ∈ mu) : In C mu nu env ((x,.lst l) :: ρ) σ' s₀ s:=by
 obtain ⟨_,hown,vs,n,ho,hv⟩:=I.act.st a _ hl
 have hm : ∀ b ∈ mu,b ∈ a :: mu:=fun b h => .tail _ h
 have hne : ∀ {b : Addr},b ∈ a :: mu → b ≠ a → b ∈ mu:=fun h q => by rcases List.mem_cons.mp h with h | h;exact absurd h q;exact h
 have lk : ∀ y q,((x,PV.lst l) :: ρ).lookup y = some q → (y = x ∧ q = .lst l) ∨ (y ≠ x ∧ ρ.lookup y = some q):=fun y q e => by
  rw [List.lookup_cons] at e
  cases hy : y == x with
  | true => rw [hy] at e;cases e;exact .inl ⟨eq_of_beq hy,rfl⟩
  | false => rw [hy] at e;exact .inr ⟨fun z => by rw [z] at hy;simp at hy,e⟩
 have hlst : Sim s.heap mu (.lst l) (.ref a):=⟨a,vs,n,rfl,hamu,ho,hv.sub hm⟩
 refine ⟨I.ok.sub hm,⟨fun b m e => ?_,I.act.kind,I.act.gl,I.act.bi,hne I.act.loc (fun q => hown (q ▸ .head _)),?_,fun y q e => ?_,fun y c hy hyl hc => ?_,fun y q e => ?_,I.act.inj⟩,⟨fun b o hb ht e => I.kp.keep b o (fun q => ?_) ht e⟩,hnu,fun y hy => ?_⟩
 ·obtain ⟨e1,hb⟩:=hσ b m e
  obtain ⟨h1,h2,h3⟩:=I.act.st b m e1
  refine ⟨hne h1 hb,h2,h3.keeps (fun _ e => e) (fun c o hc _ q => hc (.tail _ q)) fun _ _ _ _ e => e⟩
 ·obtain ⟨m,hn,hv'⟩:=I.act.ns
  refine ⟨m,hn,fun y q e hl' => ?_⟩
  rcases lk y q e with ⟨rfl,rfl⟩ | ⟨_,h2⟩
  ·obtain ⟨v,e1,e2⟩:=hv' y _ hx hl'
   cases (show v = .ref a from e2)
   exact ⟨_,e1,hlst⟩
  ·obtain ⟨v,e1,e2⟩:=hv' y q h2 hl'
   exact ⟨v,e1,e2.sub hm⟩
 ·rcases lk y q e with ⟨rfl,rfl⟩ | ⟨_,h2⟩
  ·exact I.act.kinds y _ hx
  ·exact I.act.kinds y q h2
 ·obtain ⟨h1,h2,ov,h3,h4⟩:=I.act.cell y c hy hyl hc
  refine ⟨hne h1 (fun q => hown (q ▸ .tail _ (List.mem_map_of_mem (f:=(·.2)) (q1w hc)))),h2,ov,h3,fun q e => ?_⟩
  rcases lk y q e with ⟨rfl,rfl⟩ | ⟨_,h5⟩
  ·obtain ⟨v,e1,e2⟩:=h4 _ hx
   cases (show v = .ref a from e2)
   exact ⟨_,e1,hlst⟩
  ·obtain ⟨v,e1,e2⟩:=h4 q h5
   exact ⟨v,e1,e2.sub hm⟩
 ·rcases lk y q e with ⟨rfl,rfl⟩ | ⟨_,h2⟩
  ·exact I.act.plain y _ hx
  ·exact I.act.plain y q h2
 ·rcases List.mem_cons.mp q with rfl | q
  ·rw [h₀] at e;cases e
  ·exact hb q
 ·rcases I.cells y hy with h1 | h1
  ·exact .inl (hne h1 fun q => hown (q ▸ .tail _ (List.mem_map_of_mem (f:=(·.2)) hy)))
  ·exact .inr h1
private theorem In.forget {ρ' : List (PySem.Str × PV)} {σ' : List (Addr × MO)} (I : In C mu nu env ρ σ s₀ s) (hρ : ∀ x p,ρ'.lookup x = some p → ρ.lookup x = some p) (hσ : ∀ b m,σ'.lookup b = some m → σ.lookup b = some m) : In C mu nu env ρ' σ' s₀ s:=
 ⟨I.ok,⟨fun b m e => I.act.st b m (hσ b m e),I.act.kind,I.act.gl,I.act.bi,I.act.loc,let ⟨m,hn,hv⟩:=I.act.ns;⟨m,hn,fun x p h1 h2 => hv x p (hρ x p h1) h2⟩,fun x p h => I.act.kinds x p (hρ x p h),
  fun x c hx hl hc => let ⟨h1,h2,ov,h3,h4⟩:=I.act.cell x c hx hl hc;⟨h1,h2,ov,h3,fun p hp => h4 p (hρ x p hp)⟩,fun x p h => I.act.plain x p (hρ x p h),I.act.inj⟩,I.kp,I.sub,I.cells⟩
noncomputable def PurN (prog : Program) (w : World) (C : Cfg) (mu : List Addr) (A : Around) (t : Sem Value) (l : List PV) (s : Shared) : Prop:=
 ∀ (Q : Value → Shared → Prop) (E : Value → Shared → Prop),(∀ a s',Ok C mu s' → Kp C [] s s' → s.heap.get? a = none → MOAt (a :: mu) s'.heap a (Mlst l) → Q (.ref a) s') → wpAny (model prog w) A t Q E s
noncomputable def PurNE (prog : Program) (w : World) (C : Cfg) (mu : List Addr) (A : Around) (env : Env) (ρ : List (PySem.Str × PV)) (σ : List (Addr × MO)) (e : Expr) (l : List PV) : Prop:=
 ∀ s,Ok C mu s → Act env mu s.heap ρ σ → PurN prog w C mu A (eval e env) l s
private theorem PurN.pur {t : Sem Value} {l : List PV} (O : Ok C mu s) (h : PurN prog w C mu A t l s) : Pur prog w C mu A t (.lst l) s:=fun Q E k => h Q E fun a s' O' k' ha hm => by
 obtain ⟨vs,n,ho,hv⟩:=hm
 exact k _ s' O' k' ⟨a,vs,n,rfl,(O.fresh' ha).2,ho,hv.sub fun _ h => .tail _ h⟩
private theorem PurNE.pur {e : Expr} {l : List PV} (h : PurNE prog w C mu A env ρ σ e l) : PurE prog w C mu A env ρ σ e (.lst l):=fun s O a => (h s O a).pur O
private theorem PurN.alloc {t : Sem Value} {ps : List PV} (O : Ok C mu s) (h : ∀ (Q : Value → Shared → Prop) (E : Value → Shared → Prop),
   (∀ vs (n : Nat) tk h',Sims s.heap mu ps vs → (∀ b o,s.heap.get? b = some o → h'.get? b = some o) → ∀ a,s.heap.get? a = none → h'.get? a = some { cls:=.type "list",data:=.seq (List.toArray vs) n } → Q (.ref a) { s with heap:=h',toks:=tk }) → wpAny (model prog w) A t Q E s) :
  PurN prog w C mu A t ps s:=
 fun Q E k => h Q E fun vs n tk h' hv hk a ha ho => k a _ (O.keep hk) (Kp.of_keep hk) ha ⟨vs,n,ho,(hv.new ha).keeps (fun _ _ z _ => z) fun b o _ _ e => hk b o e⟩
private theorem q6w {es : List Expr} {ps : List PV} {pos : Pos} (h : PurEs prog w C mu A env ρ σ es ps) (hsz : ps.length ≤ sizeLine) : PurNE prog w C mu A env ρ σ (.List es pos) ps:=fun s O a Q E k =>
 List_ (h pos s O a _ _ fun vs s₁ O₁ k₁ y₁ => (PurN.alloc O₁ fun Q' E' k' => wpAny_newObj_type (k' vs 0 _ _ y₁ (fun b o e => Heap.get?_push_of_some _ e) _ (Ok.size_none s₁) (Heap.get?_push_size _ rfl)) (by show (List.toArray vs).size ≤ sizeLine;rw [List.size_toArray,y₁.length];exact hsz)) _ _
  fun a' s' O' k' ha hm => k a' s' O' (k₁.trans k') (by
   cases q : s.heap.get? a' with
   | none => rfl
   | some o =>
    have hf:=O₁.fresh' ha
    rw [k₁.keep a' o (fun h => nomatch h) hf.1 q] at ha;cases ha) hm)
noncomputable def Op2N (prog : Program) (w : World) (C : Cfg) (mu : List Addr) (A : Around) (f : Value → Value → Sem Value) (p q : PV) (l : List PV) : Prop:=
 ∀ s a b,Ok C mu s → Sim s.heap mu p a → Sim s.heap mu q b → PurN prog w C mu A (f a b) l s
private theorem q7i {a : Addr} (O : Ok C mu s') (k : Kp C [] s s') (ha : s'.heap.get? a = none) : s.heap.get? a = none:=by
 cases q : s.heap.get? a with
 | none => rfl
 | some o =>
  rw [k.keep a o (fun h => nomatch h) (O.fresh' ha).1 q] at ha;cases ha
private theorem q4g {l r : Expr} {op : Operator} {pos : Pos} {p q : PV} {z : List PV} (hl : PurE prog w C mu A env ρ σ l p) (hr : PurE prog w C mu A env ρ σ r q)
  (ho : Op2N prog w C mu A (binaryOp op) p q z) : PurNE prog w C mu A env ρ σ (.BinOp l op r pos) z:=fun s O a Q E k =>
 wpAny_BinOp (hl s O a _ _ fun v s₁ O₁ k₁ y₁ => hr s₁ O₁ (a.kp O k₁) _ _ fun u s₂ O₂ k₂ y₂ => ho s₂ v u O₂ (y₁.kp0 O₁ k₂) y₂ _ _ fun v' s' O' k' ha hm => k v' s' O' ((k₁.trans k₂).trans k') (q7i O₂ (k₁.trans k₂) ha) hm)
private theorem Mlst.notRec {h : Heap} {a : Addr} {l : List PV} (hm : MOAt mu h a (Mlst l)) : ∃ o,h.get? a = some o ∧ notRec o:=let ⟨_,_,e,_⟩:=hm;⟨_,e,fun _ q => nomatch q⟩
private theorem w7y {x : PySem.Str} {px pos : Pos} {e : Expr} {l : List PV} {Q : Flow → Shared → Prop} (I : In C mu nu env ρ σ s₀ s) (hL : env.locals ∈ nu) (he : PurNE prog w C mu A env ρ σ e l)
  (k : ∀ a s',s₀.heap.get? a = none → a ∉ mu → In C (a :: mu) (a :: nu) env ((x,.val (.ref a)) :: ρ) ((a,Mlst l) :: σ) s₀ s' → Q .next s') (hx : autoParam (env.kindOf x = some .local) tR) (hn : autoParam (okName x = true) tR) (hs : autoParam (swapsWith e (some (.Name x px)) pos.line env = pure false) tR) :
  wpAny (model prog w) A (exec (.Assign [.Name x px] e pos) env) Q E s:=
 wpAny_Assign_Name (he s I.ok I.act _ _ fun a s₁ O₁ k₁ ha hm => by
  obtain ⟨o,ho,hr⟩:=Mlst.notRec hm
  exact q8t (p:=.val (.ref a)) (I.grow O₁ k₁ ha hm ho hr) (.tail _ hL) rfl (fun s' I' _ => k a s' (I.unborn ha) (I.ok.fresh' ha).2 I') hx hn) hs
private theorem q9k {x : PySem.Str} {c : Addr} {px pos : Pos} {e : Expr} {l : List PV} {Q : Flow → Shared → Prop} (I : In C mu nu env ρ σ s₀ s) (hc : env.cells.lookup x = some c) (hL : c ∈ nu) (he : PurNE prog w C mu A env ρ σ e l)
  (k : ∀ a s',s₀.heap.get? a = none → a ∉ mu → In C (a :: mu) (a :: nu) env ((x,.val (.ref a)) :: ρ) ((a,Mlst l) :: σ) s₀ s' → Q .next s') (hx : autoParam (env.kindOf x = some .cell) tR) (hn : autoParam (okName x = true) tR) (hs : autoParam (swapsWith e (some (.Name x px)) pos.line env = pure false) tR) :
  wpAny (model prog w) A (exec (.Assign [.Name x px] e pos) env) Q E s:=
 wpAny_Assign_Name (he s I.ok I.act _ _ fun a s₁ O₁ k₁ ha hm => by
  obtain ⟨o,ho,hr⟩:=Mlst.notRec hm
  exact w9s (p:=.val (.ref a)) (I.grow O₁ k₁ ha hm ho hr) hc (.tail _ hL) rfl (fun s' I' _ => k a s' (I.unborn ha) (I.ok.fresh' ha).2 I') hx hn) hs
end
end
section
open PySem PySem.W PySem.Calls PyProof.Rows
variable {prog : Program} {w : World}
noncomputable def NoBase (o : Obj) : Prop:=o.cls ≠ .type "list" ∧ o.cls ≠ .type "tuple" ∧ ∀ vs q t,o.data = .fields vs → vs[1]? ≠ some (.str q t)
section
variable {C : Cfg} {mu nu : List Addr} {s₀ s s' : Shared} {env : Env} {ρ : List (PySem.Str × PV)} {σ : List (Addr × MO)} {A : Around} {E : Value → Shared → Prop}
private theorem Sim.but {h h' : Heap} {p : PV} {v : Value} {it : Addr} (x : Sim h mu p v) (hk : ∀ b o,b ≠ it → h.get? b = some o → h'.get? b = some o) (hn : ∀ o,h.get? it = some o → NoBase o) : Sim h' mu p v:=
 x.keeps (fun _ _ z _ => z) fun b o _ hc e => hk b o (fun q => by subst q;rcases hc with hc | hc;exact (hn o e).1 hc;exact (hn o e).2.1 hc) e
private theorem Sims.but {h h' : Heap} {p : List PV} {v : List Value} {it : Addr} (x : Sims h mu p v) (hk : ∀ b o,b ≠ it → h.get? b = some o → h'.get? b = some o) (hn : ∀ o,h.get? it = some o → NoBase o) : Sims h' mu p v:=
 x.keeps (fun _ _ z _ => z) fun b o _ hc e => hk b o (fun q => by subst q;rcases hc with hc | hc;exact (hn o e).1 hc;exact (hn o e).2.1 hc) e
private theorem MOAt.but {h h' : Heap} {a : Addr} {m : MO} {it : Addr} (x : MOAt mu h a m) (ha : a ≠ it) (hk : ∀ b o,b ≠ it → h.get? b = some o → h'.get? b = some o) (hn : ∀ o,h.get? it = some o → NoBase o) : MOAt mu h' a m:=
 x.keeps (fun o e => hk a o ha e) (fun _ _ z _ => z) fun b o _ hc e => hk b o (fun q => by subst q;rcases hc with hc | hc;exact (hn o e).1 hc;exact (hn o e).2.1 hc) e
private theorem Ok.but {it : Addr} {h' : Heap} {tk : Nat} (O : Ok C mu s) (hk : ∀ b o,b ≠ it → s.heap.get? b = some o → h'.get? b = some o) (hn : ∀ o,s.heap.get? it = some o → NoBase o) (h1 : it ∉ mu) (h2 : it ∉ C.tabs) (h3 : C.H.get? it = none) : Ok C mu { s with heap:=h',toks:=tk } where
 old:=fun b o e ht => hk b o (fun q => by rw [q,h3] at e;cases e) (O.old b o e ht)
 tab:=fun x hx => by
  obtain ⟨ps,a,b,c⟩:=O.tab x hx
  refine ⟨ps,hk _ _ (fun q => h2 (q ▸ List.mem_map_of_mem hx)) a,b,fun pos c' e => ?_⟩
  obtain ⟨d,e1,e2,e3⟩:=c pos c' e
  refine ⟨d,e1,e2,?_⟩
  obtain ⟨c₁,o,vs,t,f1,f2,f3,f4⟩:=e3
  subst e1
  cases f1
  exact ⟨_,o,vs,t,rfl,hk _ _ (fun q => by rw [q] at f2;exact (hn o f2).2.2 vs _ t f3 f4) f2,f3,f4⟩
 code:=O.code
 live:=fun a ha => ⟨(O.live a ha).1,let ⟨o,e⟩:=(O.live a ha).2;⟨o,hk a o (fun (q : a = it) => h1 (q ▸ ha)) e⟩⟩
 gens:=O.gens
 os:=O.os
 kin:=O.kin
 kt:=O.kt
 lim:=O.lim
 glob:=O.glob
 bmod:=O.bmod
private theorem Act.but {it : Addr} {h' : Heap} (a : Act env mu s.heap ρ σ) (hk : ∀ b o,b ≠ it → s.heap.get? b = some o → h'.get? b = some o) (hn : ∀ o,s.heap.get? it = some o → NoBase o) (h1 : it ∉ mu) : Act env mu h' ρ σ where
 st:=fun b m e => let ⟨x1,x2,x3⟩:=a.st b m e;⟨x1,x2,x3.but (fun (q : b = it) => h1 (q ▸ x1)) hk hn⟩
 kind:=a.kind
 gl:=a.gl
 bi:=a.bi
 loc:=a.loc
 ns:=by
  obtain ⟨m,⟨o,es,ep,ho,r⟩,hv⟩:=a.ns
  exact ⟨m,⟨o,es,ep,hk _ _ (fun q => h1 (q ▸ a.loc)) ho,r⟩,fun x p e1 e2 => let ⟨v,e,y⟩:=hv x p e1 e2;⟨v,e,y.but hk hn⟩⟩
 kinds:=a.kinds
 cell:=fun x c hx hl hc => by
  obtain ⟨x1,x2,ov,⟨o,ho,hd⟩,x4⟩:=a.cell x c hx hl hc
  exact ⟨x1,x2,ov,⟨o,hk _ _ (fun q => h1 (q ▸ x1)) ho,hd⟩,fun p hp => let ⟨v,e,y⟩:=x4 p hp;⟨v,e,y.but hk hn⟩⟩
 plain:=a.plain
 inj:=a.inj
private theorem In.but {it : Addr} {h' : Heap} {tk : Nat} (I : In C mu nu env ρ σ s₀ s) (hk : ∀ b o,b ≠ it → s.heap.get? b = some o → h'.get? b = some o) (hn : ∀ o,s.heap.get? it = some o → NoBase o) (h1 : it ∉ mu) (h2 : it ∉ C.tabs) (h3 : C.H.get? it = none) (h4 : s₀.heap.get? it = none) :
  In C mu nu env ρ σ s₀ { s with heap:=h',toks:=tk }:=
 ⟨I.ok.but hk hn h1 h2 h3,I.act.but hk hn h1,⟨fun b o hb ht e => hk b o (fun q => by rw [q,h4] at e;cases e) (I.kp.keep b o hb ht e)⟩,I.sub,I.cells⟩
private theorem In.rebase (I : In C mu nu env ρ σ s₀ s) : In C mu nu env ρ σ s s:=⟨I.ok,I.act,.refl,I.sub,I.cells⟩
private theorem In.after (k : Kp C nu s₀ s) (I : In C mu nu env ρ σ s s') : In C mu nu env ρ σ s₀ s':=⟨I.ok,I.act,k.trans I.kp,I.sub,I.cells⟩
noncomputable abbrev q7r : List String:=["enumerate","zip","dict_itemiterator","dict_reverseitemiterator","odict_iterator","itertools.zip_longest","itertools.pairwise"]
noncomputable def w1b (o : Obj) : Prop:=NoBase o ∧ ∃ n,o.cls = .type n ∧ q7r.contains n = false
noncomputable def OpIter (prog : Program) (w : World) (C : Cfg) (mu : List Addr) (p : PV) (l : List PV) : Prop:=
 ∀ (A : Around) (s : Shared) (v : Value),A.handled = none → Ok C mu s → Sim s.heap mu p v → ∀ (Q : Value → Shared → Prop) (E : Value → Shared → Prop),
  (∀ it h' tk fp P St,(∀ b o,s.heap.get? b = some o → h'.get? b = some o) → s.heap.get? it = none → (∀ A' : Around,A'.handled = none → Walks prog w A' it fp [it] l.length P St) → St 0 h' →
   (∀ i h,St i h → ∃ o,h.get? it = some o ∧ w1b o) → (∀ b ∈ fp,b ≠ it → b ∉ mu ∧ b ∉ C.tabs ∧ ∃ o,h'.get? b = some o) → (∀ i v,i < l.length → P i v → ∃ p,l[i]? = some p ∧ Sim h' mu p v) → Q (.ref it) { s with heap:=h',toks:=tk }) →
  wpAny (model prog w) A (pyIter v) Q E s
noncomputable def IterE (prog : Program) (w : World) (C : Cfg) (mu : List Addr) (A : Around) (env : Env) (ρ : List (PySem.Str × PV)) (σ : List (Addr × MO)) (e : Expr) (l : List PV) : Prop:=
 ∀ s,Ok C mu s → Act env mu s.heap ρ σ → ∀ (Q : Value → Shared → Prop) (E : Value → Shared → Prop),
  (∀ it s₁ fp P St,Ok C mu s₁ → Kp C [] s s₁ → s.heap.get? it = none → it ∉ mu → it ∉ C.tabs → (∀ A' : Around,A'.handled = none → Walks prog w A' it fp [it] l.length P St) → St 0 s₁.heap →
   (∀ i h,St i h → ∃ o,h.get? it = some o ∧ w1b o) → (∀ b ∈ fp,b ≠ it → b ∉ mu ∧ b ∉ C.tabs ∧ ∃ o,s₁.heap.get? b = some o) → (∀ i v,i < l.length → P i v → ∃ p,l[i]? = some p ∧ Sim s₁.heap mu p v) → Q (.ref it) s₁) →
  wpAny (model prog w) A (eval e env) (fun x s₁ => wpAny (model prog w) A (pyIter x) Q E s₁) E s
private theorem IterE.of {e : Expr} {p : PV} {l : List PV} (hA : A.handled = none) (he : PurE prog w C mu A env ρ σ e p) (hi : OpIter prog w C mu p l) : IterE prog w C mu A env ρ σ e l:=fun s O a Q E k =>
 he s O a _ _ fun v s₁ O₁ k₁ y₁ => hi A s₁ v hA O₁ y₁ _ _ fun it h' tk fp P St hk hit W hst hobj hfp hP =>
  k it { s₁ with heap:=h',toks:=tk } fp P St (O₁.keep hk) (k₁.trans (Kp.of_keep hk)) (by
   cases q : s.heap.get? it with
   | none => rfl
   | some o => rw [k₁.keep it o (fun h => nomatch h) (O₁.fresh' hit).1 q] at hit;cases hit) (O₁.fresh' hit).2 (O₁.fresh' hit).1 W hst hobj hfp hP
private theorem q3m {target iter : Expr} {body orelse : List Stmt} {pos : Pos} {l : List PV} {Q : Flow → Shared → Prop} (I : In C mu nu env ρ σ s₀ s) (hA : A.handled = none) (hi : IterE prog w C mu A env ρ σ iter l)
  (J : Nat → List (PySem.Str × PV) → List (Addr × MO) → Prop) (B : Flow → List (PySem.Str × PV) → List (Addr × MO) → Shared → Prop) (h0 : J 0 ρ σ)
  (turn : ∀ i p v ρ σ s,l[i]? = some p → J i ρ σ → In C mu nu env ρ σ s s → Sim s.heap mu p v → wpAny (model prog w) A (assign target env v) (fun _ s₂ => wpAny (model prog w) A (execs body env) (fun f s₃ => ∃ ρ' σ',In C mu nu env ρ' σ' s s₃ ∧
   match f with | .next | .cont => J (i + 1) ρ' σ' | f => B f ρ' σ' s₃) (fun _ _ => False) s₂) (fun _ _ => False) s)
  (kE : ∀ ρ σ s',J l.length ρ σ → In C mu nu env ρ σ s₀ s' → wpAny (model prog w) A (execs orelse env) Q (fun _ _ => False) s')
  (kB : ∀ f ρ σ s',B f ρ σ s' → In C mu nu env ρ σ s₀ s' → match f with | .brk => Q .next s' | .ret v => Q (.ret v) s' | _ => True)
  (hs : autoParam (∀ x,foldedSetIterable iter env x = pure x) tR) (ht : autoParam (∀ it v,letOwnedTupleGo target it v = pure ()) tR) : wpAny (model prog w) A (exec (.For target iter body orelse pos) env) Q E s:=by
 refine wpAny_For (hi s I.ok I.act _ _ fun it s₁ fp P St O₁ k₁ hit₀ hmu htab W hst hobj hfp hP => ?_) hs
 have h00:=I.unborn hit₀
 have hH:=I.ok.unborn hit₀
 have I₂ : In C mu nu env ρ σ s₀ s₁:=I.next O₁ k₁
 -- the values that come stand as long as the lists stand
 refine codeAny_forLoop_any (fun n s' => ∃ i ρ σ,n = l.length - i ∧ i ≤ l.length ∧ J i ρ σ ∧ In C mu nu env ρ σ s₀ s' ∧ St i s'.heap ∧ Kp C (it :: nu) s₁ s') ?_ l.length ⟨0,ρ,σ,by simp,Nat.zero_le _,h0,I₂,hst,.refl⟩
 rintro n s' ⟨i,ρ',σ',rfl,hil,hJ,I',st,kk⟩
 have noB : ∀ o,s'.heap.get? it = some o → NoBase o:=fun o e => by
  obtain ⟨o',e',x⟩:=hobj i _ st
  rw [e] at e';cases e';exact x.1
 by_cases hlt : i < l.length
 ·refine (W A hA).item i s' _ _ hlt st fun v h₂ tk₂ hPv st₂ hk₂ => ?_
  have hb : ∀ b o,b ≠ it → s'.heap.get? b = some o → h₂.get? b = some o:=fun b o hb e => hk₂ b o (by simpa using hb) e
  have I₃ : In C mu nu env ρ' σ' s₀ { s' with heap:=h₂,toks:=tk₂ }:=I'.but hb noB hmu htab hH h00
  refine wpAny_of_eq (a:=()) (ht (.ref it) v) ?_
  obtain ⟨p,hp,yp⟩:=hP i v hlt hPv
  have yp' : Sim s'.heap mu p v:=yp.keeps (fun _ _ z _ => z) fun b o hb hc e => kk.keep b o (fun q => by
   rcases List.mem_cons.mp q with rfl | q
   ·obtain ⟨o',e',x⟩:=hobj 0 _ hst
    rw [e] at e';cases e'
    rcases hc with hc | hc
    ·exact x.1.1 hc
    ·exact x.1.2.1 hc
   ·exact hb (I.sub b q)) (I₂.ok.seqNotTab hc e) e
  have yp₂ : Sim h₂ mu p v:=yp'.but hb noB
  refine wpAny_mono (turn i p v ρ' σ' _ hp hJ I₃.rebase yp₂) (fun _ s₄ h₄ => wpAny_mono h₄ (fun f s₅ h₅ => ?_) fun _ _ f => f.elim) fun _ _ f => f.elim
  obtain ⟨ρ₅,σ₅,I₅,hf⟩:=h₅
  have st₅ : St (i + 1) s₅.heap:=(W A hA).frame _ _ _ st₂ fun b hb o e => by
   refine I₅.kp.keep b o (fun q => ?_) ?_ e
   ·by_cases hbi : b = it
    ·exact hmu (I.sub it (hbi ▸ q))
    ·exact (hfp b hb hbi).1 (I.sub b q)
   ·by_cases hbi : b = it
    ·exact hbi ▸ htab
    ·exact (hfp b hb hbi).2.1
  have kk₅ : Kp C (it :: nu) s₁ s₅:=kk.trans (Kp.trans (s':={ s' with heap:=h₂,toks:=tk₂ }) ⟨fun b o h1 _ e => hb b o (fun q => h1 (q ▸ .head _)) e⟩ (I₅.kp.mono fun _ h => .tail _ h))
  have I₆:=I₅.after I₃.kp
  cases f with
  | next => exact ⟨l.length - (i + 1),by with_reducible exact na8,i + 1,ρ₅,σ₅,rfl,hlt,hf,I₆,st₅,kk₅⟩
  | cont => exact ⟨l.length - (i + 1),by with_reducible exact na8,i + 1,ρ₅,σ₅,rfl,hlt,hf,I₆,st₅,kk₅⟩
  | brk => exact kB .brk ρ₅ σ₅ s₅ hf I₆
  | ret v => exact kB (.ret v) ρ₅ σ₅ s₅ hf I₆
 ·have hie : i = l.length:=Nat.le_antisymm hil (Nat.le_of_not_lt hlt)
  subst hie
  refine (W A hA).done s' _ _ st fun h₂ tk₂ hk₂ => ?_
  have hb : ∀ b o,b ≠ it → s'.heap.get? b = some o → h₂.get? b = some o:=fun b o hb e => hk₂ b o (by simpa using hb) e
  have I₃ : In C mu nu env ρ' σ' s₀ { s' with heap:=h₂,toks:=tk₂ }:=I'.but hb noB hmu htab hH h00
  exact wpAny_mono (kE ρ' σ' _ hJ I₃) (fun _ _ q => q) fun _ _ f => f.elim
private theorem st_For {target iter : Expr} {body orelse : List Stmt} {pos : Pos} {p : PV} {l : List PV} {Q : Flow → Shared → Prop} (I : In C mu nu env ρ σ s₀ s) (hA : A.handled = none) (he : PurE prog w C mu A env ρ σ iter p) (hi : OpIter prog w C mu p l)
  (J : Nat → List (PySem.Str × PV) → List (Addr × MO) → Prop) (B : Flow → List (PySem.Str × PV) → List (Addr × MO) → Shared → Prop) (h0 : J 0 ρ σ)
  (turn : ∀ i p v ρ σ s,l[i]? = some p → J i ρ σ → In C mu nu env ρ σ s s → Sim s.heap mu p v → wpAny (model prog w) A (assign target env v) (fun _ s₂ => wpAny (model prog w) A (execs body env) (fun f s₃ => ∃ ρ' σ',In C mu nu env ρ' σ' s s₃ ∧
   match f with | .next | .cont => J (i + 1) ρ' σ' | f => B f ρ' σ' s₃) (fun _ _ => False) s₂) (fun _ _ => False) s)
  (kE : ∀ ρ σ s',J l.length ρ σ → In C mu nu env ρ σ s₀ s' → wpAny (model prog w) A (execs orelse env) Q (fun _ _ => False) s')
  (kB : ∀ f ρ σ s',B f ρ σ s' → In C mu nu env ρ σ s₀ s' → match f with | .brk => Q .next s' | .ret v => Q (.ret v) s' | _ => True)
  (hs : autoParam (∀ x,foldedSetIterable iter env x = pure x) tR) (ht : autoParam (∀ it v,letOwnedTupleGo target it v = pure ()) tR) : wpAny (model prog w) A (exec (.For target iter body orelse pos) env) Q E s:=
 q3m I hA (.of hA he hi) J B h0 turn kE kB hs ht
private theorem q2t {c : String} {a b : Value} {r : List Value} {o : Obj} (hc : o.cls = .type c) (hd : ∃ vs,o.data = .fields vs ∧ ∀ q t,vs[1]? ≠ some (.str q t)) (h : c ≠ "list" ∧ c ≠ "tuple" ∧ q7r.contains c = false) : w1b o:=by
 obtain ⟨vs,hd,hv⟩:=hd
 refine ⟨⟨by rw [hc];intro q;cases q;exact h.1 rfl,by rw [hc];intro q;cases q;exact h.2.1 rfl,fun vs' q t e => ?_⟩,c,hc,h.2.2⟩
 rw [hd] at e;cases e;exact hv q t
private theorem q4r {l : List PV} : OpIter prog w C mu (.lst l) l:=fun A s v hA O y Q E k => by
 obtain ⟨a,vs,n,rfl,ha,ho,hv⟩:=y
 have hl : s.heap.IsList a vs.toArray:=⟨_,ho,rfl,n,rfl⟩
 refine wpAny_pyIter_list hl ?_
 have hne : a ≠ s.heap.objs.size:=fun q => by rw [q,Ok.size_none] at ho;cases ho
 have hlen : vs.toArray.size = l.length:=by simp [hv.length]
 refine k s.heap.objs.size _ s.toks _ _ _ (fun b o e => Heap.get?_push_of_some _ e) (Ok.size_none s) (fun A' hA' => hlen ▸ Walks.list (prog:=prog) (w:=w) hA' _ a hne vs.toArray) ⟨⟨_,Heap.get?_push_size _ rfl,rfl,rfl⟩,hl.push _⟩ (fun i h st => ?_) (fun b hb hbi => ?_) (fun i v _ hP => ?_)
 ·obtain ⟨o,h1,h2,h3⟩:=st.1
  exact ⟨o,h1,q2t (a:=.none) (b:=.none) (r:=[]) h2 ⟨_,h3,fun q t e => by simp at e⟩ (by decide)⟩
 ·simp at hb
  rcases hb with rfl | rfl
  ·exact absurd rfl hbi
  ·exact ⟨ha,O.seqNotTab (.inl rfl) ho,_,Heap.get?_push_of_some _ ho⟩
 ·have hPi : vs[i]? = some v:=by simpa using hP
  have hi : i < l.length:=by
   have:=List.getElem?_eq_some_iff.mp hPi
   rw [← hv.length];exact this.1
  refine ⟨l[i],by simp [hi],?_⟩
  obtain ⟨u,e1,e2⟩:=hv.get i l[i] (by simp [hi])
  rw [hPi] at e1;cases e1
  exact e2.keeps (fun _ _ z _ => z) fun b o _ _ e => Heap.get?_push_of_some _ e
private theorem iter_str {x : PySem.Str} : OpIter prog w C mu (.str x) (x.cps.toList.map fun c => .str ⟨#[c]⟩):=fun A s v hA O ⟨t,hv⟩ Q E k => by
 subst hv
 have key : ∀ (c : String) (h' : Heap) (St : Nat → Heap → Prop),c ≠ "list" ∧ c ≠ "tuple" ∧ q7r.contains c = false → (∀ i h,St i h → h.IsStrIter s.heap.objs.size c x t i) →
   (∀ b o,s.heap.get? b = some o → h'.get? b = some o) → St 0 h' → (∀ A' : Around,A'.handled = none → Walks prog w A' s.heap.objs.size [s.heap.objs.size] [s.heap.objs.size] x.cps.size (SignAt x) St) → Q (.ref s.heap.objs.size) { s with heap:=h' }:=
  fun c h' St hc hSt hk h0 W => k s.heap.objs.size h' s.toks _ _ St hk (Ok.size_none s) (fun A' hA' => by simpa using W A' hA') h0 (fun i h st => by
   obtain ⟨o,h1,h2,h3⟩:=hSt i h st
   exact ⟨o,h1,q2t (a:=.none) (b:=.none) (r:=[]) h2 ⟨_,h3,fun q t e => by simp at e⟩ hc⟩) (fun b hb hbi => by simp at hb;exact absurd hb hbi) fun i v _ hP => by
    obtain ⟨c,u,h1,rfl⟩:=hP
    exact ⟨.str ⟨#[c]⟩,by simp [h1],u,rfl⟩
 cases ha : x.cps.all (· < 128)
 ·exact wpAny_pyIter_wide ha (key "str_iterator" _ (fun i h => h.IsStrIter s.heap.objs.size "str_iterator" x t i) (by decide) (fun _ _ h => h) (fun b o e => Heap.get?_push_of_some _ e) ⟨_,Heap.get?_push_size _ rfl,rfl,rfl⟩ fun A' hA' => Walks.strWide hA' _ x t)
 ·exact wpAny_pyIter_ascii ha (key "str_ascii_iterator" _ (fun i h => h.IsStrIter s.heap.objs.size "str_ascii_iterator" x t i) (by decide) (fun _ _ h => h) (fun b o e => Heap.get?_push_of_some _ e) ⟨_,Heap.get?_push_size _ rfl,rfl,rfl⟩ fun A' hA' => Walks.strAscii hA' _ x t)
end
end
section
open PySem PySem.W PySem.Calls PyProof.Rows
variable {prog : Program} {w : World}
section
variable {C : Cfg} {mu nu : List Addr} {s₀ s s' : Shared} {env : Env} {ρ : List (PySem.Str × PV)} {σ : List (Addr × MO)} {A : Around} {E : Value → Shared → Prop}
noncomputable def StOk (env : Env) (nu : List Addr) (x : PySem.Str) : Prop:=okName x = true ∧ ((env.kindOf x = some .local ∧ env.locals ∈ nu) ∨ (env.kindOf x = some .cell ∧ ∃ c,env.cells.lookup x = some c ∧ c ∈ nu))
private theorem q3l {x : PySem.Str} {p : PV} {v : Value} {Q : Unit → Shared → Prop} (I : In C mu nu env ρ σ s₀ s) (hx : StOk env nu x) (hv : Sim s.heap mu p v)
  (k : ∀ s',In C mu nu env ((x,p) :: ρ) σ s₀ s' → Kp C nu s s' → Q () s') : wpAny (model prog w) A (storeName env x v) Q E s:=by
 obtain ⟨hn,⟨h1,h2⟩ | ⟨h1,c,h2,h3⟩⟩:=hx
 ·exact q8t I h2 hv (fun s' I' k' => k s' I' (k'.mono fun a h => by simp at h;exact h ▸ h2)) h1 hn
 ·exact w9s I h2 h3 hv (fun s' I' k' => k s' I' (k'.mono fun a h => by simp at h;exact h ▸ h3)) h1 hn
private theorem q2a {x : PySem.Str} {px : Pos} {p : PV} {v : Value} {Q : Unit → Shared → Prop} (I : In C mu nu env ρ σ s₀ s) (hx : StOk env nu x) (hv : Sim s.heap mu p v)
  (k : ∀ s',In C mu nu env ((x,p) :: ρ) σ s₀ s' → Q () s') : wpAny (model prog w) A (assign (.Name x px) env v) Q E s:=wpAny_assign_Name (q3l I hx hv fun s' I' _ => k s' I')
private theorem q0h {x : PySem.Str} {px pos : Pos} {e : Expr} {p : PV} {Q : Flow → Shared → Prop} (I : In C mu nu env ρ σ s₀ s) (hx : StOk env nu x) (he : PurE prog w C mu A env ρ σ e p)
  (k : ∀ s',In C mu nu env ((x,p) :: ρ) σ s₀ s' → Q .next s') (hs : autoParam (swapsWith e (some (.Name x px)) pos.line env = pure false) tR) :
  wpAny (model prog w) A (exec (.Assign [.Name x px] e pos) env) Q E s:=
 wpAny_Assign_Name (he s I.ok I.act _ _ fun v s₁ O₁ k₁ y₁ => q3l (I.next O₁ k₁) hx y₁ fun s' I' _ => k s' I') hs
private theorem In.fresh0 (I : In C mu nu env ρ σ s₀ s) {h' : Heap} {tk : Nat} (he : Heap.ExtBut s.heap.objs.size s.heap h') : In C mu nu env ρ σ s₀ { s with heap:=h',toks:=tk }:=
 have hn:=Ok.size_none s
 I.but (fun b o hb e => he b o hb e) (fun o e => by rw [hn] at e;cases e) (I.ok.fresh' hn).2 (I.ok.fresh' hn).1 (I.ok.unborn hn) (I.unborn hn)
private theorem Sims.fresh0 {h' : Heap} {l : List PV} {vs : List Value} (O : Ok C mu s) (y : Sims s.heap mu l vs) (he : Heap.ExtBut s.heap.objs.size s.heap h') : Sims h' mu l vs:=
 have hn:=Ok.size_none s
 y.but (fun b o hb e => he b o hb e) (fun o e => by rw [hn] at e;cases e)
private theorem z2j {x y : PySem.Str} {px py pos : Pos} {kk : Nat} {p q : PV} {v : Value} {Q : Unit → Shared → Prop} (I : In C mu nu env ρ σ s₀ s) (hA : A.handled = none) (hx : StOk env nu x) (hy : StOk env nu y) (hv : Sim s.heap mu (.tup [p,q]) v)
  (k : ∀ s',In C mu nu env ((y,q) :: (x,p) :: ρ) σ s₀ s' → Q () s') : wpAny (model prog w) A (assign (.Tuple [.Name x px,.Name y py] kk pos) env v) Q E s:=by
 obtain ⟨a,vs,n,rfl,ha,ho,hvs⟩:=hv
 obtain ⟨v₁,r,rfl,y₁,v₂,r₂,rfl,y₂,hr⟩:=hvs
 cases (show r₂ = [] from hr)
 refine assign_Tuple_tuple (items:=#[v₁,v₂]) hA ⟨_,ho,rfl,n,rfl⟩ rfl rfl fun h' he => ?_
 have I₁ : In C mu nu env ρ σ s₀ { s with heap:=h',toks:=s.toks }:=I.fresh0 he
 have ys : Sims h' mu [p,q] [v₁,v₂]:=Sims.fresh0 I.ok ⟨_,_,rfl,y₁,_,_,rfl,y₂,rfl⟩ he
 obtain ⟨_,_,e1,z₁,_,_,e2,z₂,_⟩:=ys
 cases e1;cases e2
 show wpAny _ _ (do holding [v₂] (assign (.Name x px) env v₁);(do holding [] (assign (.Name y py) env v₂);pure ())) _ _ _
 refine wpAny_bind (wpAny_holding (wpAny_assign_Name (q3l I₁ hx z₁ fun s₂ I₂ k₂ => ?_)))
 exact wpAny_bind (wpAny_holding (wpAny_assign_Name (q3l I₂ hy (z₂.kp I₁.ok I.sub k₂) fun s₃ I₃ _ => wpAny_pure (k s₃ I₃))))
private theorem q4f {x y : PySem.Str} {px py tp pos : Pos} {kk : Nat} {e : Expr} {p q : PV} {Q : Flow → Shared → Prop} (I : In C mu nu env ρ σ s₀ s) (hA : A.handled = none) (hx : StOk env nu x) (hy : StOk env nu y) (he : PurE prog w C mu A env ρ σ e (.tup [p,q]))
  (k : ∀ s',In C mu nu env ((y,q) :: (x,p) :: ρ) σ s₀ s' → Q .next s') (hs : autoParam (swapsWithSole [.Tuple [.Name x px,.Name y py] kk tp] e pos.line env = pure false) tR)
  (hw : autoParam (swappedStores [.Tuple [.Name x px,.Name y py] kk tp] e env = pure none) tR) : wpAny (model prog w) A (exec (.Assign [.Tuple [.Name x px,.Name y py] kk tp] e pos) env) Q E s:=
 Assign_Tuple (he s I.ok I.act _ _ fun v s₁ O₁ k₁ y₁ => z2j (I.next O₁ k₁) hA hx hy y₁ k) hs hw
private theorem q9l {x y : PySem.Str} {px py tp pos : Pos} {kk : Nat} {e : Expr} {p q : PV} {Q : Flow → Shared → Prop} (I : In C mu nu env ρ σ s₀ s) (hA : A.handled = none) (hx : StOk env nu x) (hy : StOk env nu y) (he : PurE prog w C mu A env ρ σ e (.tup [p,q]))
  (k : ∀ s',In C mu nu env ((x,p) :: (y,q) :: ρ) σ s₀ s' → Q .next s') (hs : autoParam (swapsWithSole [.Tuple [.Name x px,.Name y py] kk tp] e pos.line env = pure false) tR)
  (hw : autoParam (swappedStores [.Tuple [.Name x px,.Name y py] kk tp] e env = pure (some [x,y])) tR) : wpAny (model prog w) A (exec (.Assign [.Tuple [.Name x px,.Name y py] kk tp] e pos) env) Q E s:=by
 refine Assign_Tuple_swapped (he s I.ok I.act _ _ fun v s₁ O₁ k₁ y₁ => ?_) hs hw
 obtain ⟨a,vs,n,rfl,ha,ho,hvs⟩:=y₁
 obtain ⟨v₁,r,rfl,y₁,v₂,r₂,rfl,y₂,hr⟩:=hvs
 cases (show r₂ = [] from hr)
 have I₁:=I.next O₁ k₁
 refine unpackItems_tuple (items:=#[v₁,v₂]) hA ⟨_,ho,rfl,n,rfl⟩ fun h' he' => ?_
 have I₂ : In C mu nu env ρ σ s₀ { s₁ with heap:=h',toks:=s₁.toks }:=I₁.fresh0 he'
 have ys : Sims h' mu [p,q] [v₁,v₂]:=Sims.fresh0 I₁.ok ⟨_,_,rfl,y₁,_,_,rfl,y₂,rfl⟩ he'
 obtain ⟨_,_,e1,z₁,_,_,e2,z₂,_⟩:=ys
 cases e1;cases e2
 show wpAny _ _ (do holding [v₁] (bindName env y v₂);(do holding [] (bindName env x v₁);pure ())) _ _ _
 refine wpAny_bind (wpAny_holding (wpAny_bindName (q3l I₂ hy z₂ fun s₃ I₃ k₃ => ?_)))
 exact wpAny_bind (wpAny_holding (wpAny_bindName (q3l I₃ hx (z₁.kp I₂.ok I.sub k₃) fun s₄ I₄ _ => wpAny_pure (k s₄ I₄))))
private theorem q7b {name : PySem.Str} {id : String} {pl : Sem Bool} {a : Addr} {vs : List Value} {n : Nat} {Q : Value × List Value → Shared → Prop} (slot : Slot "list" name id)
  (hty : typeOf (.builtin id) = pure (.type "method_descriptor")) (ho : s.heap.get? a = some { cls:=.type "list",dict:=none,data:=.seq vs.toArray n }) (h : Q (.builtin id,[.ref a]) s) : wpAny (model prog w) A (getMethod (.ref a) name pl) Q E s:=
 getMethod_list_of slot hty ⟨_,ho,rfl,n,rfl⟩ ⟨_,ho,rfl⟩ h
private theorem q4z {o e : Expr} {apos pos epos : Pos} {a : Addr} {l : List PV} {p : PV} {pl : Sem Bool} {name : PySem.Str} {Q : Flow → Shared → Prop} (I : In C mu nu env ρ σ s₀ s) (hl : σ.lookup a = some (Mlst l)) (hnu : a ∈ nu) (ho : PurE prog w C mu A env ρ σ o (.val (.ref a)))
  (ha : PurEs prog w C mu A env ρ σ [e] [p]) (hsz : l.length ≤ sizeLine) (k : ∀ s',In C mu nu env ρ ((a,Mlst (l ++ [p])) :: σ) s₀ s' → Q .next s') (hname : name = PySem.Str.ofString "append")
  (he : autoParam (eval (.Call (.Attribute o name apos) [e] [] pos) env = (do let ov ← eval o env;standAt apos.atName;let __x ← holding [ov] (getMethod ov name pl);match __x with | (f,first) => callWith pos f first (backTo pos (starEach [e] env)) [])) tR)
  (hs : autoParam (starEach [e] env = (false,eval e env) :: starEach [] env) tR) (hplain : autoParam ((backTo pos (starEach [] env)).any (·.1) = false) tR)
  (hi : autoParam (interactive env = false) tR) (hsw : autoParam (swapsWith (.Call (.Attribute o name apos) [e] [] pos) none epos.line env = pure false) tR) :
  wpAny (model prog w) A (exec (.Expr (.Call (.Attribute o name apos) [e] [] pos) epos) env) Q E s:=by
 subst hname
 refine wpAny_Expr_any (MethodCall_ (pl:=pl) (ho s I.ok I.act _ _ fun v s₁ O₁ k₁ y₁ => ?_) he) hi hsw
 cases (show v = .ref a from y₁)
 have I₁:=I.next O₁ k₁
 obtain ⟨_,_,vs,n,hol,hvs⟩:=I₁.act.st a _ hl
 refine q7b slot_list_append type_list_append hol (callWith_method1 (ha pos s₁ I₁.ok I₁.act _ _ fun ws s₂ O₂ k₂ y₂ => ?_) hs hplain)
 have I₂:=I₁.next O₂ k₂
 obtain ⟨v₁,r,rfl,z,hr⟩:=y₂
 cases (show r = [] from hr)
 obtain ⟨_,_,vs,n,hol,hvs⟩:=I₂.act.st a _ hl
 have hsz' : vs.toArray.size ≤ sizeLine:=by simpa [hvs.length] using hsz
 refine wpAny_list_append_plain (hsz:=hsz') ⟨n,hol⟩ fun h' hpl hsb => k _ (I₂.mut (tk:=s₂.toks) hl hnu hsb.extBut ?_)
 obtain ⟨n',e'⟩:=hpl
 have hamu:=(I₂.act.st a _ hl).1
 have up : ∀ {l : List PV} {vs : List Value},Sims s₂.heap mu l vs → Sims h' mu l vs:=fun y => y.keeps (fun _ _ z _ => z) fun b o hb _ e => hsb.extBut b o (fun q => hb (q ▸ hamu)) e
 exact ⟨vs ++ [v₁],n',by rw [e'];simp,(up hvs).append (up ⟨_,_,rfl,z,rfl⟩)⟩
private theorem w7x {o : Expr} {apos pos epos : Pos} {a : Addr} {l : List PV} {pl : Sem Bool} {name : PySem.Str} {Q : Flow → Shared → Prop} (I : In C mu nu env ρ σ s₀ s) (hl : σ.lookup a = some (Mlst l)) (hnu : a ∈ nu) (ho : PurE prog w C mu A env ρ σ o (.val (.ref a)))
  (hsz : l.length ≤ sizeLine) (k : ∀ s',In C mu nu env ρ ((a,Mlst l.reverse) :: σ) s₀ s' → Q .next s') (hname : name = PySem.Str.ofString "reverse")
  (he : autoParam (eval (.Call (.Attribute o name apos) [] [] pos) env = (do let ov ← eval o env;standAt apos.atName;let __x ← holding [ov] (getMethod ov name pl);match __x with | (f,first) => callWith pos f first (backTo pos (starEach [] env)) [])) tR)
  (hi : autoParam (interactive env = false) tR) (hsw : autoParam (swapsWith (.Call (.Attribute o name apos) [] [] pos) none epos.line env = pure false) tR) :
  wpAny (model prog w) A (exec (.Expr (.Call (.Attribute o name apos) [] [] pos) epos) env) Q E s:=by
 subst hname
 refine wpAny_Expr_any (MethodCall_ (pl:=pl) (ho s I.ok I.act _ _ fun v s₁ O₁ k₁ y₁ => ?_) he) hi hsw
 cases (show v = .ref a from y₁)
 have I₁:=I.next O₁ k₁
 obtain ⟨hamu,_,vs,n,hol,hvs⟩:=I₁.act.st a _ hl
 refine q7b PySem.F.slot_list_reverse PySem.F.type_list_reverse hol (callWith_method0 ?_)
 have hsz' : vs.toArray.size ≤ sizeLine:=by simpa [hvs.length] using hsz
 refine call_meets PySem.F.slot_list_reverse ⟨_,hol,rfl⟩ PySem.F.entry_list_reverse (PySem.F.args_list_reverse_1 _) (AutoListH.list_reverse_list_0 a vs.toArray n hsz') ⟨hol,?_⟩
 have hsb : Heap.SameBut a s₁.heap (s₁.heap.update a (Obj.mapSeq fun x => x.reverse)):=Heap.SameBut.update ..
 refine k _ (I₁.mut (tk:=s₁.toks) hl hnu hsb.extBut ?_)
 refine ⟨vs.reverse,n,?_,?_⟩
 ·rw [Heap.get?_update_self _ hol rfl]
  simp [Obj.mapSeq]
 ·have : ∀ {l : List PV} {vs : List Value},Sims s₁.heap mu l vs → Sims s₁.heap mu l.reverse vs.reverse:=by
   intro l
   induction l with
   | nil => intro vs h;cases (show vs = [] from h);rfl
   | cons p l ih =>
    intro vs h
    obtain ⟨v,r,rfl,y,ys⟩:=h
    rw [List.reverse_cons,List.reverse_cons]
    exact (ih ys).append ⟨_,_,rfl,y,rfl⟩
  exact (this hvs).keeps (fun _ _ z _ => z) fun b o hb _ e => hsb.extBut b o (fun q => hb (q ▸ hamu)) e
private theorem Sims.set {h : Heap} : ∀ {l : List PV} {vs : List Value} (i : Nat) {p : PV} {v : Value},Sims h mu l vs → Sim h mu p v → Sims h mu (l.set i p) (vs.set i v)
 | [],_,_,_,_,x,_ => by cases x;rfl
 | _ :: _,_,0,_,_,⟨v,r,e,x,y⟩,z => by subst e;exact ⟨_,_,rfl,z,y⟩
 | _ :: _,_,i + 1,_,_,⟨v,r,e,x,y⟩,z => by subst e;exact ⟨_,_,rfl,x,y.set i z⟩
private theorem w7w {o i e : Expr} {opos pos : Pos} {a : Addr} {l : List PV} {p : PV} {j : Nat} {Q : Flow → Shared → Prop} (I : In C mu nu env ρ σ s₀ s) (hl : σ.lookup a = some (Mlst l)) (hnu : a ∈ nu) (he : PurE prog w C mu A env ρ σ e p) (ho : PurE prog w C mu A env ρ σ o (.val (.ref a)))
  (hi : PurE prog w C mu A env ρ σ i (.int j)) (hj : j < l.length) (hsz : l.length < 2 ^ 63) (k : ∀ s',In C mu nu env ρ ((a,Mlst (l.set j p)) :: σ) s₀ s' → Q .next s')
  (hs : autoParam (swapsWith e (some (.Subscript o i opos)) pos.line env = pure false) tR) : wpAny (model prog w) A (exec (.Assign [.Subscript o i opos] e pos) env) Q E s:=by
 refine wpAny_Assign_Subscript (he s I.ok I.act _ _ fun v s₁ O₁ k₁ y₁ => ?_) hs
 have I₁:=I.next O₁ k₁
 refine ho s₁ I₁.ok I₁.act _ _ fun ov s₂ O₂ k₂ y₂ => ?_
 cases (show ov = .ref a from y₂)
 have I₂:=I₁.next O₂ k₂
 refine hi s₂ I₂.ok I₂.act _ _ fun iv s₃ O₃ k₃ y₃ => ?_
 obtain ⟨t,rfl⟩:=y₃
 have I₃:=I₂.next O₃ k₃
 have yv:=(y₁.kp0 O₁ k₂).kp0 O₂ k₃
 obtain ⟨hamu,_,vs,n,hol,hvs⟩:=I₃.act.st a _ hl
 have hlen : vs.toArray.size = l.length:=by simp [hvs.length]
 have hpl : s₃.heap.PlainList a vs.toArray:=⟨n,hol⟩
 refine ki_setAt (n:=n) hol (by lia) (by lia) (by rw [hlen];lia) ?_
 have hsb : Heap.SameBut a s₃.heap (s₃.heap.update a (Obj.mapSeq (·.setIfInBounds (j : Int).toNat v))):=Heap.SameBut.update ..
 refine k _ (I₃.mut (tk:=s₃.toks) hl hnu hsb.extBut ?_)
 refine ⟨vs.set j v,n,?_,(hvs.set j yv).keeps (fun _ _ z _ => z) fun b o hb _ e => hsb.extBut b o (fun q => hb (q ▸ hamu)) e⟩
 rw [Heap.get?_update_self _ hol rfl]
 simp [Obj.mapSeq]
end
end
section
open PySem PySem.W PySem.Calls PyProof.Rows
variable {prog : Program} {w : World}
section
variable {C : Cfg} {mu mu' nu : List Addr} {s₀ s s' : Shared} {env : Env} {ρ : List (PySem.Str × PV)} {σ : List (Addr × MO)} {A : Around} {E : Value → Shared → Prop}
noncomputable def Cfg.now (C : Cfg) (s : Shared) (mu : List Addr) : Cfg:={ C with H:=hideAll s.heap mu }
private theorem Cfg.now_get {b : Addr} {o : Obj} (h : (C.now s mu).H.get? b = some o) : s.heap.get? b = some o ∧ b ∉ mu:=
 ⟨of_hideAll _ h,fun q => by rw [show (C.now s mu).H.get? b = none from hideAll_none _ q] at h;cases h⟩
private theorem Ok.upOld (O : Ok C mu s) {b : Addr} {o : Obj} (h : C.H.get? b = some o) (ht : b ∉ C.tabs) : (C.now s mu).H.get? b = some o:=
 hideAll_get _ (O.old b o h ht) fun q => by rw [(O.live b q).1] at h;cases h
private theorem Ok.now (O : Ok C mu s) : Ok (C.now s mu) mu s where
 old:=fun b o e _ => (Cfg.now_get e).1
 tab:=O.tab
 code:=fun x hx => by
  obtain ⟨h1,h2,o,h3⟩:=O.code x hx
  refine ⟨?_,h2,?_⟩
  ·obtain ⟨o,vs,file,tf,flags,tg,inF,text,tt,e,r⟩:=h1
   exact ⟨o,vs,file,tf,flags,tg,inF,text,tt,O.upOld e h2,r⟩
  ·obtain ⟨ps,e,_⟩:=O.tab x hx
   exact ⟨_,hideAll_get _ e fun q => O.notTab q (List.mem_map_of_mem hx)⟩
 live:=fun a ha => ⟨hideAll_none _ ha,(O.live a ha).2⟩
 gens:=O.gens
 os:=O.os
 kin:=fun a o e => O.upOld (O.kin a o e) fun q => by have e' : C.K.lookup a = some o:=e;rw [O.kt a q] at e';cases e'
 kt:=O.kt
 lim:=by
  obtain ⟨⟨mc,⟨o,es,ep,ho,r⟩,h⟩,ht⟩:=O.lim
  exact ⟨⟨mc,⟨o,es,ep,O.upOld ho ht,r⟩,h⟩,ht⟩
 glob:=by
  obtain ⟨⟨o,es,ep,ho,r⟩,ht⟩:=O.glob
  exact ⟨⟨o,es,ep,O.upOld ho ht,r⟩,ht⟩
 bmod:=by
  obtain ⟨bm,ob,h1,h2,h3,h4,h5,h6⟩:=O.bmod
  exact ⟨bm,ob,h1,h2,h3,h4,O.upOld h5 h4,h6⟩
private theorem Ok.back (O : Ok C mu s) (O' : Ok (C.now s mu) mu' s') : Ok C mu' s' where
 old:=fun b o e ht => O'.old b o (O.upOld e ht) ht
 tab:=O'.tab
 code:=O.code
 live:=fun a ha => by
  refine ⟨?_,(O'.live a ha).2⟩
  cases q : C.H.get? a with
  | none => rfl
  | some o =>
   by_cases ht : a ∈ C.tabs
   ·exact absurd ht (O'.notTab ha)
   ·have:=(O'.live a ha).1
    rw [O.upOld q ht] at this
    cases this
 gens:=O'.gens
 os:=O'.os
 kin:=O.kin
 kt:=O.kt
 lim:=O.lim
 glob:=O.glob
 bmod:=O.bmod
private theorem Kp.back (k : Kp (C.now s mu) nu s' s₀) : Kp C nu s' s₀:=⟨k.keep⟩
private theorem Kp.now {s₁ : Shared} (k : Kp C nu s' s₀) : Kp (C.now s₁ mu) nu s' s₀:=⟨k.keep⟩
private theorem In.now (I : In C mu nu env ρ σ s₀ s) : In (C.now s mu) mu nu env ρ σ s₀ s:=
 ⟨I.ok.now,I.act,I.kp.now,I.sub,fun x hx => (I.cells x hx).imp id fun ⟨o,e⟩ => by
  by_cases ht : x.2 ∈ C.tabs
  ·obtain ⟨o',e'⟩:=I.ok.tabAlive ht
   exact ⟨o',hideAll_get _ e' fun q => I.ok.notTab q ht⟩
  ·exact ⟨o,I.ok.upOld e ht⟩⟩
private theorem st_Def {name : PySem.Str} {params : Arguments} {body : List Stmt} {scope : Scope} {pos : Pos} {x : Addr × Addr × PySem.Str} {clos : List (PySem.Str × Addr)} {Q : Flow → Shared → Prop} (I : In C mu nu env ρ σ s₀ s) (hx : x ∈ C.T) (hcode : env.code = .ref x.1) (hq : x.2.2 = qualnameIn env name name)
  (hT : C.T.all (fun y => y.2.1 != x.2.1 || y.2.2 == x.2.2) = true) (hcl : closureFor scope env = pure clos) (hn : StOk env nu name) (hd0 : params.defaults = []) (hk0 : params.kw_defaults = []) (ha : annTrees params none env = [])
  (hco : scope.isCoroutine = false) (hgen : scope.isGenerator = false) (hkind : scope.kind = .function)
  (k : ∀ f s₁ s₂ doc pm cd ct,Def (C.now s₁ mu) f (fnX name x.2.2 params body scope clos .none .none doc pm none cd ct) body →
   In (C.now s₁ mu) mu nu env ((name,.val (.ref f)) :: ρ) σ s₀ s₂ → Ok C mu s₁ → Q .next s₂) :
  wpAny (model prog w) A (exec (.FunctionDef name params body [] none [] scope none name pos) env) Q E s:=by
 have O:=I.ok
 have hP : x.2.1 ∈ C.tabs:=List.mem_map_of_mem hx
 obtain ⟨ps,hps,htr,hent⟩:=O.tab x hx
 obtain ⟨hhd,hct,_⟩:=O.code x hx
 have hhd' : CodeHd s.heap x.1 x.2.1:=by
  obtain ⟨o,vs,file,tf,flags,tg,inF,text,tt,e,r⟩:=hhd
  exact ⟨o,vs,file,tf,flags,tg,inF,text,tt,O.old _ _ e hct,r⟩
 have hgP : mainGlobals ≠ x.2.1:=fun q => O.glob.2 (q ▸ hP)
 have hT' : ∀ y ∈ C.T,y.2.1 = x.2.1 → y.2.2 = x.2.2:=fun y hy e => by
  have:=List.all_eq_true.mp hT y hy
  simpa [e] using this
 -- the end of both roads: a function object at a new place
 have fin : ∀ (f : Addr) (doc pm cd ct : Value) (s₁ : Shared),In C mu nu env ρ σ s₀ s₁ → s₁.heap.get? f = some { cls:=.type "function",data:=.func (fnX name x.2.2 params body scope clos .none .none doc pm none cd ct) } → (∃ c',cd = .ref c' ∧ c' ∉ mu ∧ c' ∉ C.tabs ∧ s₁.heap.CodeRec (.ref c') x.2.2) → f ∉ mu →
   wpAny (model prog w) A (storeName env name (.ref f)) (fun _ s'' => Q .next s'') E s₁:=fun f doc pm cd ct s₁ I₁ hf hcr hfm => by
  obtain ⟨c',hc',hcm,hctb,c₁,o,vs,t,f1,f2,f3,f4⟩:=hcr
  cases f1
  have hft : f ∉ C.tabs:=I₁.ok.fnNotTab hf rfl
  have D : Def (C.now s₁ mu) f (fnX name x.2.2 params body scope clos .none .none doc pm none cd ct) body:=fun mu' s' O' =>
   ⟨⟨_,O'.old _ _ (hideAll_get _ hf hfm) hft,rfl⟩,rfl,hc' ▸ ⟨c',o,vs,t,rfl,O'.old _ _ (hideAll_get _ f2 hcm) hctb,f3,f4⟩,hco,hgen,hkind,rfl,rfl⟩
  exact q3l (p:=.val (.ref f)) I₁.now hn rfl fun s₂ I₂ _ => k f s₁ s₂ doc pm cd ct D I₂ I₁.ok
 refine nestDef_K hd0 hk0 ha ?_
 rw [← hq]
 cases hf : codeAmong pos ps.toList with
 | none =>
  refine makeFunction_K (mg:=C.mg) hcl I.act.gl O.globals hcode hhd' hps htr hf hgP (O.builtinsAt hP) fun c' ctv doc h' tk hx' hge hlt hrec hP' => ?_
  have O₁ : Ok C mu { s with heap:=h',toks:=tk }:=O.grow hx rfl rfl hT' hps hx' hge hrec hP'
  have hc'fresh : s.heap.get? c' = none:=Heap.get?_none_of_le hge
  obtain ⟨hc't,hc'm⟩:=O.fresh' hc'fresh
  have I₁ : In C mu nu env ρ σ s₀ { s with heap:=h',toks:=tk }:=I.next O₁ ⟨fun b o _ hb e => hx' b o (fun q => hb (q ▸ hP)) e⟩
  have I₂ : In C mu nu env ρ σ s₀ { s with heap:=h'.push (fnMade name x.2.2 params body scope clos doc ((C.mg "__name__").getD .none) c' ctv),toks:=tk }:=
   I₁.next (s':={ s with heap:=h'.push (fnMade name x.2.2 params body scope clos doc ((C.mg "__name__").getD .none) c' ctv),toks:=tk }) (O₁.push (tk:=tk)) (Kp.of_keep (s:={ s with heap:=h',toks:=tk }) (tk:=tk) fun _ _ e => Heap.get?_push_of_some _ e)
  have hfn : h'.get? h'.objs.size = none:=Ok.size_none { s with heap:=h',toks:=tk }
  exact fin _ _ _ _ _ _ I₂ (Heap.get?_push_size _ rfl) ⟨c',rfl,hc'm,hc't,hrec.push _⟩ (O₁.fresh' hfn).2
 | some cv =>
  obtain ⟨c',rfl,hc'm,hrec⟩:=hent pos cv hf
  have hc't : c' ∉ C.tabs:=fun q => by
   obtain ⟨y,hy,hyc⟩:=List.mem_map.mp q
   obtain ⟨ps₂,k1,k2,_⟩:=O.tab y hy
   obtain ⟨c₁,o,vs,t,g1,g2,g3,g4⟩:=hrec
   cases g1
   rw [hyc,g2] at k1
   cases k1
   cases g3
   have hthis : ps₂.toList[1]? = some (.str x.2.2 t):=by simpa using g4
   cases hl2 : ps₂.toList with
   | nil => rw [hl2] at hthis;cases hthis
   | cons a r =>
    cases r with
    | nil => rw [hl2] at hthis;cases hthis
    | cons b r =>
     rw [hl2] at hthis k2
     simp at hthis
     subst hthis
     cases a <;> exact k2.elim
  refine makeFunction_hit (mg:=C.mg) hcl I.act.gl O.globals hcode hhd' hps htr hf (O.builtinsAt hP) fun ctv doc h' tk hk hsz => ?_
  have O₁ : Ok C mu { s with heap:=h',toks:=tk }:=O.keep hk
  have I₁ : In C mu nu env ρ σ s₀ { s with heap:=h',toks:=tk }:=I.next O₁ (Kp.of_keep hk)
  have I₂:=I₁.next (s':={ s with heap:=h'.push (fnMade name x.2.2 params body scope clos doc ((C.mg "__name__").getD .none) c' ctv),toks:=tk }) (O₁.push (tk:=tk)) (Kp.of_keep (s:={ s with heap:=h',toks:=tk }) (tk:=tk) fun _ _ e => Heap.get?_push_of_some _ e)
  have hfn : h'.get? h'.objs.size = none:=Ok.size_none { s with heap:=h',toks:=tk }
  exact fin _ _ _ _ _ _ I₂ (Heap.get?_push_size _ rfl) ⟨c',rfl,hc'm,hc't,(hrec.keeps hk).push _⟩ (O₁.fresh' hfn).2
end
end
section
open PySem PySem.W PySem.Calls PyProof.Rows
variable {prog : Program} {w : World}
section
variable {C : Cfg} {mu mu' nu : List Addr} {s₀ s s' : Shared} {env : Env} {ρ : List (PySem.Str × PV)} {σ : List (Addr × MO)} {A : Around} {E : Value → Shared → Prop}
inductive IsLst (h : Heap) (mu : List Addr) (l : List PV) (v : Value) : Prop
 | mk (a : Addr) (vs : List Value) (n : Nat) (e : v = .ref a) (ho : h.get? a = some { cls:=.type "list",data:=.seq (List.toArray vs) n }) (hv : Sims h mu l vs) : IsLst h mu l v
private theorem IsLst.kp0 {l : List PV} {v : Value} (O : Ok C mu s) (x : IsLst s.heap mu l v) (k : Kp C [] s s') : IsLst s'.heap mu l v:=by
 obtain ⟨a,vs,n,e,ho,hv⟩:=x
 exact ⟨a,vs,n,e,k.keep _ _ (fun h => nomatch h) (O.seqNotTab (.inl rfl) ho) ho,hv.kp0 O k⟩
noncomputable def PurL (prog : Program) (w : World) (C : Cfg) (mu : List Addr) (A : Around) (env : Env) (ρ : List (PySem.Str × PV)) (σ : List (Addr × MO)) (e : Expr) (l : List PV) : Prop:=
 ∀ s,Ok C mu s → Act env mu s.heap ρ σ → ∀ (Q : Value → Shared → Prop) (E : Value → Shared → Prop),(∀ v s',Ok C mu s' → Kp C [] s s' → IsLst s'.heap mu l v → Q v s') → wpAny (model prog w) A (eval e env) Q E s
private theorem q0l {e : Expr} {l : List PV} (h : PurE prog w C mu A env ρ σ e (.lst l)) : PurL prog w C mu A env ρ σ e l:=fun s O a Q E k => h s O a _ _ fun v s' O' k' y => by
 obtain ⟨x,vs,n,e,_,ho,hv⟩:=y
 exact k v s' O' k' ⟨x,vs,n,e,ho,hv⟩
private theorem w2o {e : Expr} {l : List PV} {x : Addr} (h : PurE prog w C mu A env ρ σ e (.val (.ref x))) (hl : σ.lookup x = some (Mlst l)) : PurL prog w C mu A env ρ σ e l:=fun s O a Q E k => h s O a _ _ fun v s' O' k' y => by
 obtain ⟨_,_,vs,n,ho,hv⟩:=(a.kp O k').st x _ hl
 exact k v s' O' k' ⟨x,vs,n,y,ho,hv⟩
private theorem q0z {value slice : Expr} {pos : Pos} {l : List PV} {j : Nat} {p : PV} (hv : PurL prog w C mu A env ρ σ value l) (hi : PurE prog w C mu A env ρ σ slice (.int j)) (hx : l[j]? = some p) (hsz : l.length < 2 ^ 63)
  (hs : autoParam (∀ o i,subscripted slice false o i = operate [o,i] (getItem o i)) tR) : PurE prog w C mu A env ρ σ (.Subscript value slice pos) p:=fun s O a Q E k =>
 Subscript_ (hv s O a _ _ fun v s₁ O₁ k₁ y₁ => hi s₁ O₁ (a.kp O k₁) _ _ fun u s₂ O₂ k₂ y₂ => by
  obtain ⟨x,vs,n,rfl,ho,hvs⟩:=y₁.kp0 O₁ k₂
  obtain ⟨t,rfl⟩:=y₂
  obtain ⟨z,e1,e2⟩:=hvs.get j p hx
  have hlt:=(List.getElem?_eq_some_iff.mp hx).1
  have hl : s₂.heap.IsList x vs.toArray:=⟨_,ho,rfl,n,rfl⟩
  exact tail_any hl.typeIs slot_list_getitem.lookup (wpAny_getItem_list hl (by lia) (by lia) (by simpa using e1) (k z s₂ O₂ (k₁.trans k₂) e2)) (hs _ _))
private theorem w3z {value slice : Expr} {pos : Pos} {l : List PV} {j : Nat} {p : PV} (hv : PurL prog w C mu A env ρ σ value l) (hi : PurE prog w C mu A env ρ σ slice (.int (-((j : Int) + 1)))) (hj : j < l.length) (hx : l[l.length - 1 - j]? = some p) (hsz : l.length < 2 ^ 63)
  (hs : autoParam (∀ o i,subscripted slice false o i = operate [o,i] (getItem o i)) tR) : PurE prog w C mu A env ρ σ (.Subscript value slice pos) p:=fun s O a Q E k =>
 Subscript_ (hv s O a _ _ fun v s₁ O₁ k₁ y₁ => hi s₁ O₁ (a.kp O k₁) _ _ fun u s₂ O₂ k₂ y₂ => by
  obtain ⟨x,vs,n,rfl,ho,hvs⟩:=y₁.kp0 O₁ k₂
  obtain ⟨t,rfl⟩:=y₂
  obtain ⟨z,e1,e2⟩:=hvs.get _ p hx
  have hlen : vs.toArray.size = l.length:=by simp [hvs.length]
  have hl : s₂.heap.IsList x vs.toArray:=⟨_,ho,rfl,n,rfl⟩
  have e3 : (-((j : Int) + 1) + (vs.toArray.size : Int)).toNat = l.length - 1 - j:=by rw [hlen];with_reducible exact nf5
  exact tail_any hl.typeIs slot_list_getitem.lookup (wpAny_getItem_list_neg hl (by lia) (by rw [hlen];lia) (by lia) (by rw [e3];simpa using e1) (k z s₂ O₂ (k₁.trans k₂) e2)) (hs _ _))
private theorem w3y {value slice : Expr} {pos : Pos} {l : List PV} {j : Nat} {p : PV} (hv : PurE prog w C mu A env ρ σ value (.tup l)) (hi : PurE prog w C mu A env ρ σ slice (.int j)) (hx : l[j]? = some p) (hsz : l.length < 2 ^ 63)
  (hs : autoParam (∀ o i,subscripted slice false o i = operate [o,i] (getItem o i)) tR) : PurE prog w C mu A env ρ σ (.Subscript value slice pos) p:=fun s O a Q E k =>
 Subscript_ (hv s O a _ _ fun v s₁ O₁ k₁ y₁ => hi s₁ O₁ (a.kp O k₁) _ _ fun u s₂ O₂ k₂ y₂ => by
  obtain ⟨x,vs,n,rfl,hx',ho,hvs⟩:=y₁.kp0 O₁ k₂
  obtain ⟨t,rfl⟩:=y₂
  obtain ⟨z,e1,e2⟩:=hvs.get j p hx
  have hlt:=(List.getElem?_eq_some_iff.mp hx).1
  have hl : IsTup s₂.heap x vs.toArray:=⟨_,ho,rfl,n,rfl⟩
  refine tail_any hl.typeIs slot_tuple_getitem.lookup (PyProof.Rows.getItem_tuple (j:=j) hl (by lia) (by lia) ?_ (by simpa using e1) (k z s₂ O₂ (k₁.trans k₂) e2)) (hs _ _)
  have hlen : vs.toArray.size = l.length:=by simp [hvs.length]
  unfold seqIndex?
  rw [hlen]
  simp
  lia)
private theorem q6s {value slice : Expr} {pos : Pos} {x : PySem.Str} {j : Nat} {c : Nat} (hv : PurE prog w C mu A env ρ σ value (.str x)) (hi : PurE prog w C mu A env ρ σ slice (.int j)) (hx : x.cps[j]? = some c) (hsz : x.cps.size < 2 ^ 63)
  (hs : autoParam (∀ o i,subscripted slice false o i = operate [o,i] (getItem o i)) tR) : PurE prog w C mu A env ρ σ (.Subscript value slice pos) (.str ⟨#[c]⟩):=fun s O a Q E k =>
 Subscript_ (hv s O a _ _ fun v s₁ O₁ k₁ y₁ => hi s₁ O₁ (a.kp O k₁) _ _ fun u s₂ O₂ k₂ y₂ => by
  obtain ⟨t₁,rfl⟩:=y₁.kp0 O₁ k₂
  obtain ⟨t,rfl⟩:=y₂
  have hlt:=(Array.getElem?_eq_some_iff.mp hx).1
  refine tail_any (typeIs_str s₂ x t₁) slot_str_getitem.lookup (PyProof.Rows.getItem_str (c:=c) ?_ ?_ (k _ _ O₂.tok ((k₁.trans k₂).trans ⟨fun _ _ _ _ e => e⟩) ⟨_,rfl⟩)) (hs _ _)
  ·simp;lia
  ·have e : seqIndex? (j : Int) x.length = some j:=by
    have h1 : ¬ (j : Int) < 0:=by lia
    have h2 : (0 : Int) ≤ j ∧ (j : Int) < x.cps.size:=⟨by lia,by lia⟩
    unfold seqIndex? Str.length
    simp only [h1,if_false]
    simp [hlt]
   rw [e]
   exact hx)
private theorem w1k {x : PySem.Str} {v : Value} {px pos : Pos} {e : Expr} {es : List Expr} {ps : List PV} {z : PV} {id : String} (hf : PurE prog w C mu A env ρ σ (.Name x px) (.val (.builtin id))) (hargs : PurEs prog w C mu A env ρ σ (e :: es) ps)
  (ho : ∀ s vs,Ok C mu s → Act env mu s.heap ρ σ → Sims s.heap mu ps vs → Pur prog w C mu A (call (.builtin id) vs) z s) (he : autoParam (∀ env,starEach (e :: es) env = (false,eval e env) :: starEach es env) tR)
  (hplain : autoParam ((backTo pos (starEach es env)).any (·.1) = false) tR) : PurE prog w C mu A env ρ σ (.Call (.Name x px) (e :: es) [] pos) z:=fun s O a Q E k =>
 Call_ (hf s O a _ _ fun v s₁ O₁ k₁ y₁ => by
  cases (show v = .builtin id from y₁)
  exact PyProof.Rows.callWith_builtin1 (hargs pos s₁ O₁ (a.kp O k₁) _ _ fun vs s₂ O₂ k₂ y₂ => ho s₂ vs O₂ ((a.kp O k₁).kp O₁ k₂) y₂ _ _ fun v' s' O' k' y' => k v' s' O' ((k₁.trans k₂).trans k') y') (he env) hplain)
private theorem z0u {l : List PV} {v : Value} (O : Ok C mu s) (y : IsLst s.heap mu l v) (hsz : l.length < 2 ^ 63) : Pur prog w C mu A (call (.builtin "len") [v]) (.int l.length) s:=by
 obtain ⟨x,vs,n,rfl,ho,hvs⟩:=y
 have hlen : vs.toArray.size = l.length:=by simp [hvs.length]
 refine Pur.here O fun Q E k => call_len_list (items:=vs.toArray) ⟨_,ho,rfl,n,rfl⟩ (by rw [hlen];lia) ?_
 rw [hlen]
 exact k _ _ ⟨_,rfl⟩
private theorem op_len {l : List PV} (hsz : l.length < 2 ^ 63) : OpL prog w C mu A (fun vs => call (.builtin "len") vs) [.lst l] (.int l.length):=fun s vs O hy => by
 obtain ⟨v,r,rfl,⟨x,ws,n,e,_,ho,hv⟩,hr⟩:=hy
 cases (show r = [] from hr)
 exact z0u O ⟨x,ws,n,e,ho,hv⟩ hsz
private theorem q5n {x : PySem.Str} (hsz : x.cps.size < 2 ^ 63) : OpL prog w C mu A (fun vs => call (.builtin "len") vs) [.str x] (.int x.length):=fun s vs O hy => by
 obtain ⟨v,r,rfl,⟨t,rfl⟩,hr⟩:=hy
 cases (show r = [] from hr)
 exact Pur.here O fun Q E k => P.len_str (by unfold Str.length;lia) (k _ _ ⟨_,rfl⟩)
private theorem pur_lenM {x y : PySem.Str} {a : Addr} {l : List PV} {px py pos : Pos} (hf : PurE prog w C mu A env ρ σ (.Name x px) (.val (.builtin "len"))) (hy : PurE prog w C mu A env ρ σ (.Name y py) (.val (.ref a))) (hl : σ.lookup a = some (Mlst l)) (hsz : l.length < 2 ^ 63) :
  PurE prog w C mu A env ρ σ (.Call (.Name x px) [.Name y py] [] pos) (.int l.length):=
 w1k (v:=.none) hf (q0c hy q0g fun _ => rfl) (fun s vs O a' hy => by
  obtain ⟨v,r,rfl,y,hr⟩:=hy
  cases (show r = [] from hr)
  cases (show v = .ref a from y)
  obtain ⟨_,_,ws,n,ho,hv⟩:=a'.st a _ hl
  exact z0u O ⟨a,ws,n,rfl,ho,hv⟩ hsz) (fun _ => rfl) rfl
private theorem w2p {l : List PV} (hsz : l.length < 2 ^ 63) : OpT prog w C mu A (.lst l) (l.length != 0):=fun s v O y Q E k => by
 obtain ⟨x,vs,n,rfl,_,ho,hvs⟩:=y
 have hlen : vs.toArray.size = l.length:=by simp [hvs.length]
 refine wpAny_truthy_list (items:=vs.toArray) ⟨_,ho,rfl,n,rfl⟩ (by rw [hlen];lia) ?_
 have : (!vs.toArray.isEmpty) = (l.length != 0):=by rw [← hvs.length];cases vs <;> simp
 rw [this]
 exact k _ O.tok ⟨fun _ _ _ _ e => e⟩
private theorem q2z {x : PySem.Str} (hsz : x.cps.size < 2 ^ 63) : OpT prog w C mu A (.str x) (x.length != 0):=fun s v O y Q E k => by
 obtain ⟨t,rfl⟩:=y
 refine P.truthy_str (by unfold Str.length;lia) ?_
 have : ((x.length : Int) != 0) = (x.length != 0):=by cases x.length <;> rfl
 rw [this]
 exact k _ O.tok ⟨fun _ _ _ _ e => e⟩
private theorem Clo.ofAct {names : List (PySem.Str × NameKind)} {ρc : List (PySem.Str × PV)} {clo : List (PySem.Str × Addr)} (a : Act env mu s.heap ρ σ) (hcl : ∀ x c,clo.lookup x = some c → env.cells.lookup x = some c ∧ env.kindOf x ≠ some .local)
  (hρ : ∀ x p,ρc.lookup x = some p → ρ.lookup x = some p ∧ names.lookup x = some .free ∧ okName x = true ∧ ∃ c,clo.lookup x = some c) (hal : ∀ x ∈ clo,x.2 ∈ mu ∨ ∃ o,C.H.get? x.2 = some o) : Clo C mu s.heap clo ρc names where
 cell:=fun x c hx hc => by
  obtain ⟨h1,h2⟩:=hcl x c hc
  obtain ⟨h3,_,ov,h4,h5⟩:=a.cell x c hx h2 h1
  exact ⟨h3,ov,h4,fun p hp => h5 p (hρ x p hp).1⟩
 has:=fun x p hp => (hρ x p hp).2
 inj:=fun x y c h1 h2 => a.inj x y c (hcl x c h1).1 (hcl y c h2).1
 alive:=hal
noncomputable def FnOkC (prog : Program) (w : World) (C : Cfg) (f : Addr) (clo : List (PySem.Str × Addr)) (ρc : List (PySem.Str × PV)) (names : List (PySem.Str × NameKind)) (n : Nat) (ps : List PV) (z : PV) : Prop:=
 ∀ A mu s vs,Rm A n → Ok C mu s → Clo C mu s.heap clo ρc names → Sims s.heap mu ps vs → Pur prog w C mu A (call (.ref f) vs) z s
private theorem FnOkC.of {f : Addr} {fd : FuncData} {body : List Stmt} {n : Nat} {names : List PySem.Str} {ps : List PV} {z : PV} {ρc : List (PySem.Str × PV)} (D : Def C f fd body)
  (hbind : ∀ vs,vs.length = names.length → bindArgs fd ⟨vs,[]⟩ = pure (names.zip vs)) (hlen : names.length = ps.length)
  (hloc : names.all (fun x => fd.scope.names.lookup x == some .local && okName x) = true) (hcell : fd.scope.names.all (fun x => x.2 != .cell) = true)
  (h : ∀ A mu L s s₁,Rm A n → s.heap.get? L = none → In C (L :: mu) [L] (callEnv fd L f) ((names.zip ps).reverse ++ ρc) [] s s₁ → (∀ x ∈ fd.closure,x.2 ∈ mu ∨ ∃ o,C.H.get? x.2 = some o) →
   wpAny (model prog w) A (execs body (callEnv fd L f)) (fun fl s' => ∃ v ρ' σ',fl = .ret v ∧ In C (L :: mu) [L] (callEnv fd L f) ρ' σ' s s' ∧ Sim s'.heap (L :: mu) z v) (fun _ _ => False) s₁) : FnOkC prog w C f fd.closure ρc fd.scope.names (n + 1) ps z:=by
 intro A mu s vs r O hclo hy Q E k
 refine q1o (ρc:=ρc) (D.at O) r O hy (BindsTo.of_eq (hbind vs (by rw [hy.length,hlen]))) hlen hclo hloc hcell fun L s₁ hL I r' _ => ?_
 refine wpAny_mono (h _ mu L s s₁ r' hL I hclo.alive) (fun fl s' hq => ?_) fun _ _ f => f
 obtain ⟨v,ρ',σ',rfl,I',y⟩:=hq
 exact k v s' (I'.out hL).1 (I'.out hL).2 (y.sub fun a h => .tail _ h)
private theorem q9w {x : PySem.Str} {f : Addr} {fd : FuncData} {body : List Stmt} {px pos : Pos} {e : Expr} {es : List Expr} {ps : List PV} {z : PV} (hf : PurE prog w C mu A env ρ σ (.Name x px) (.val (.ref f))) (hargs : PurEs prog w C mu A env ρ σ (e :: es) ps)
  (D : Def C f fd body) (hfn : ∀ s vs,Ok C mu s → Act env mu s.heap ρ σ → Sims s.heap mu ps vs → Pur prog w C mu A (call (.ref f) vs) z s) (he : autoParam (∀ env,starEach (e :: es) env = (false,eval e env) :: starEach es env) tR) : PurE prog w C mu A env ρ σ (.Call (.Name x px) (e :: es) [] pos) z:=fun s O a Q E k =>
 Call_ (hf s O a _ _ fun v s₁ O₁ k₁ y₁ => by
  cases (show v = .ref f from y₁)
  obtain ⟨o,hl,hd⟩:=(D.at O₁).look
  refine callWith_function (o:=o) (fd:=fd) ?_
  have h:=hargs pos s₁ O₁ (a.kp O k₁)
  rw [he env] at h ⊢
  exact evalArgs_plain (h _ _ fun vs s₂ O₂ k₂ y₂ => ⟨⟨k₂.keep _ _ (fun h => nomatch h) (O₁.fnNotTab hl hd) hl,hd⟩,hfn s₂ vs O₂ ((a.kp O k₁).kp O₁ k₂) y₂ _ _ fun v' s' O' k' y' => k v' s' O' ((k₁.trans k₂).trans k') y'⟩))
private theorem FnOk.ofC {f : Addr} {fd : FuncData} {body : List Stmt} {n : Nat} {names : List PySem.Str} {ps : List PV} {z : PV} (D : Def C f fd body)
  (hbind : ∀ vs,vs.length = names.length → bindArgs fd ⟨vs,[]⟩ = pure (names.zip vs)) (hlen : names.length = ps.length) (hclo : fd.closure = [])
  (hloc : names.all (fun x => (fd.scope.names.lookup x == some .local || (fd.scope.names.lookup x == some .cell && ((cellsFrom 0 fd.scope.names []).lookup x).isSome)) && okName x) = true)
  (hnd : ((cellsFrom 0 fd.scope.names []).map (·.1)).Nodup)
  (h : ∀ A mu L s s₁,Rm A n → In C (q0j (callEnvC fd L f) ++ mu) (q0j (callEnvC fd L f)) (callEnvC fd L f) (names.zip ps).reverse [] s s₁ → (∀ a ∈ q0j (callEnvC fd L f),s.heap.get? a = none) →
   wpAny (model prog w) A (execs body (callEnvC fd L f)) (fun fl s' => ∃ v,fl = .ret v ∧ Ok C mu s' ∧ Kp C [] s s' ∧ Sim s'.heap mu z v) (fun _ _ => False) s₁) : FnOk prog w C f (n + 1) ps z:=by
 intro A mu r s vs O hy Q E k
 refine z1g (D.at O) r O hy (hbind vs (by rw [hy.length,hlen])) hlen hclo hloc hnd fun L s₁ _ hL I r' _ => ?_
 refine wpAny_mono (h _ mu L s s₁ r' I hL) (fun fl s' hq => ?_) fun _ _ f => f
 obtain ⟨v,rfl,O',k',y⟩:=hq
 exact k v s' O' k' y
private theorem In.outD {Ls : List Addr} {s₁ : Shared} {mu₁ : List Addr} (O₁ : Ok C mu₁ s₁) (I : In (C.now s₁ mu₁) (Ls ++ mu) Ls env ρ σ s s') (hL : ∀ L ∈ Ls,s.heap.get? L = none) : Ok C mu s' ∧ Kp C [] s s':=by
 have I' : In (C.now s₁ mu₁) (Ls ++ mu) (Ls ++ []) env ρ σ s s':=by rw [List.append_nil];exact I
 obtain ⟨h1,h2⟩:=I'.outs hL
 exact ⟨O₁.back h1,h2.back⟩
end
end
section
open PySem PySem.W PySem.Calls PyProof.Rows
noncomputable def tabL : List Addr:=[215,222,157,164]
noncomputable def TL : List (Addr × Addr × PySem.Str):=[(219,215,⟨#[95,105,110,116,50,100,105,103,105,116,115,46,60,108,111,99,97,108,115,62,46,105,110,110,101,114]⟩),(226,222,⟨#[95,100,105,103,105,116,115,50,105,110,116,46,60,108,111,99,97,108,115,62,46,105,110,110,101,114]⟩),(161,157,⟨#[95,65,99,99,117,109,117,108,97,116,111,114,46,95,95,108,101,110,95,95,46,60,108,111,99,97,108,115,62,46,60,103,101,110,101,120,112,114,62]⟩),(168,164,⟨#[95,65,99,99,117,109,117,108,97,116,111,114,46,95,95,115,116,114,95,95,46,60,108,111,99,97,108,115,62,46,60,103,101,110,101,120,112,114,62]⟩)]
noncomputable def Ks (P : Params) : Frag:=(Mine.hd.heap_270 P).filter fun p => !tabL.contains p.1
noncomputable abbrev fdOf (o : Obj) : FuncData:=match o.data with | .func fd => fd | _ => default
noncomputable abbrev bdOf (fd : FuncData) : List Stmt:=match fd.body with | .stmts b => b | _ => []
structure CfgOk (P : Params) (C : Cfg) : Prop where
 K : C.K = Ks P
 T : C.T = TL
private theorem CfgOk.now {P : Params} {C : Cfg} {s : Shared} {mu : List Addr} (h : CfgOk P C) : CfgOk P (C.now s mu):=⟨h.K,h.T⟩
variable {P : Params} {C : Cfg}
noncomputable abbrev cFmt : Addr:=111
noncomputable abbrev cAcc : Addr:=195
noncomputable abbrev q8c : Addr:=119
noncomputable abbrev a_re1 : Addr:=246
noncomputable abbrev a_re2 : Addr:=251
noncomputable abbrev a_div2 : Addr:=206
noncomputable abbrev w0p (P : Params) : FuncData:=fdOf (Mine.hd.zo_212 P)
noncomputable abbrev z2f (P : Params) : List Stmt:=bdOf (w0p P)
private theorem q8y (hC : CfgOk P C) : Def C a_div2 (w0p P) (z2f P):=.ofK ⟨Mine.hd.zo_212 P,by rw [hC.K];kernel_rfl,rfl⟩ rfl (by rw [hC.K];kernel_rfl) rfl rfl rfl rfl rfl
noncomputable abbrev a_div3 : Addr:=213
noncomputable abbrev w3b (P : Params) : FuncData:=fdOf (Mine.hd.zo_219 P)
noncomputable abbrev z2e (P : Params) : List Stmt:=bdOf (w3b P)
private theorem w3f (hC : CfgOk P C) : Def C a_div3 (w3b P) (z2e P):=.ofK ⟨Mine.hd.zo_219 P,by rw [hC.K];kernel_rfl,rfl⟩ rfl (by rw [hC.K];kernel_rfl) rfl rfl rfl rfl rfl
noncomputable abbrev a_i2d : Addr:=220
noncomputable abbrev fd_i2d (P : Params) : FuncData:=fdOf (Mine.hd.zo_226 P)
noncomputable abbrev bd_i2d (P : Params) : List Stmt:=bdOf (fd_i2d P)
private theorem z1p (hC : CfgOk P C) : Def C a_i2d (fd_i2d P) (bd_i2d P):=.ofK ⟨Mine.hd.zo_226 P,by rw [hC.K];kernel_rfl,rfl⟩ rfl (by rw [hC.K];kernel_rfl) rfl rfl rfl rfl rfl
noncomputable abbrev a_d2i : Addr:=227
noncomputable abbrev fd_d2i (P : Params) : FuncData:=fdOf (Mine.hd.zo_233 P)
noncomputable abbrev bd_d2i (P : Params) : List Stmt:=bdOf (fd_d2i P)
private theorem z1q (hC : CfgOk P C) : Def C a_d2i (fd_d2i P) (bd_d2i P):=.ofK ⟨Mine.hd.zo_233 P,by rw [hC.K];kernel_rfl,rfl⟩ rfl (by rw [hC.K];kernel_rfl) rfl rfl rfl rfl rfl
noncomputable abbrev a_dpos : Addr:=234
noncomputable abbrev z1j (P : Params) : FuncData:=fdOf (Mine.hd.zo_240 P)
noncomputable abbrev bd_dpos (P : Params) : List Stmt:=bdOf (z1j P)
private theorem w7h (hC : CfgOk P C) : Def C a_dpos (z1j P) (bd_dpos P):=.ofK ⟨Mine.hd.zo_240 P,by rw [hC.K];kernel_rfl,rfl⟩ rfl (by rw [hC.K];kernel_rfl) rfl rfl rfl rfl rfl
noncomputable abbrev a_idm : Addr:=241
noncomputable abbrev fd_idm (P : Params) : FuncData:=fdOf (Mine.hd.zo_247 P)
noncomputable abbrev bd_idm (P : Params) : List Stmt:=bdOf (fd_idm P)
private theorem z1o (hC : CfgOk P C) : Def C a_idm (fd_idm P) (bd_idm P):=.ofK ⟨Mine.hd.zo_247 P,by rw [hC.K];kernel_rfl,rfl⟩ rfl (by rw [hC.K];kernel_rfl) rfl rfl rfl rfl rfl
noncomputable abbrev w6l : Addr:=258
noncomputable abbrev w7d (P : Params) : FuncData:=fdOf (Mine.hd.zo_258 P)
noncomputable abbrev bd_quote (P : Params) : List Stmt:=bdOf (w7d P)
private theorem w4r (hC : CfgOk P C) : Def C w6l (w7d P) (bd_quote P):=.ofK ⟨Mine.hd.zo_258 P,by rw [hC.K];kernel_rfl,rfl⟩ rfl (by rw [hC.K];kernel_rfl) rfl rfl rfl rfl rfl
noncomputable abbrev q7k : Addr:=265
noncomputable abbrev q7c (P : Params) : FuncData:=fdOf (Mine.hd.zo_265 P)
noncomputable abbrev z2b (P : Params) : List Stmt:=bdOf (q7c P)
private theorem q7y (hC : CfgOk P C) : Def C q7k (q7c P) (z2b P):=.ofK ⟨Mine.hd.zo_265 P,by rw [hC.K];kernel_rfl,rfl⟩ rfl (by rw [hC.K];kernel_rfl) rfl rfl rfl rfl rfl
noncomputable abbrev a_law : Addr:=270
noncomputable abbrev fd_law (P : Params) : FuncData:=fdOf (Mine.hd.zo_270 P)
noncomputable abbrev bd_law (P : Params) : List Stmt:=bdOf (fd_law P)
private theorem def_law (hC : CfgOk P C) : Def C a_law (fd_law P) (bd_law P):=.ofK ⟨Mine.hd.zo_270 P,by rw [hC.K];kernel_rfl,rfl⟩ rfl (by rw [hC.K];kernel_rfl) rfl rfl rfl rfl rfl
noncomputable abbrev q3f : Addr:=52
noncomputable abbrev q2w (P : Params) : FuncData:=fdOf (Mine.hd.zo_68 P)
noncomputable abbrev z2c (P : Params) : List Stmt:=bdOf (q2w P)
private theorem w8v (hC : CfgOk P C) : Def C q3f (q2w P) (z2c P):=.ofK ⟨Mine.hd.zo_68 P,by rw [hC.K];kernel_rfl,rfl⟩ rfl (by rw [hC.K];kernel_rfl) rfl rfl rfl rfl rfl
noncomputable abbrev q8z : Addr:=59
noncomputable abbrev w4m (P : Params) : FuncData:=fdOf (Mine.hd.zo_75 P)
noncomputable abbrev z2d (P : Params) : List Stmt:=bdOf (w4m P)
private theorem w1u (hC : CfgOk P C) : Def C q8z (w4m P) (z2d P):=.ofK ⟨Mine.hd.zo_75 P,by rw [hC.K];kernel_rfl,rfl⟩ rfl (by rw [hC.K];kernel_rfl) rfl rfl rfl rfl rfl
noncomputable abbrev q2e : Addr:=73
noncomputable abbrev q2v (P : Params) : FuncData:=fdOf (Mine.hd.zo_89 P)
noncomputable abbrev q8o (P : Params) : List Stmt:=bdOf (q2v P)
private theorem q4s (hC : CfgOk P C) : Def C q2e (q2v P) (q8o P):=.ofK ⟨Mine.hd.zo_89 P,by rw [hC.K];kernel_rfl,rfl⟩ rfl (by rw [hC.K];kernel_rfl) rfl rfl rfl rfl rfl
noncomputable abbrev q6k : Addr:=108
noncomputable abbrev q7d (P : Params) : FuncData:=fdOf (Mine.hd.zo_124 P)
noncomputable abbrev bd_f_app (P : Params) : List Stmt:=bdOf (q7d P)
private theorem w4s (hC : CfgOk P C) : Def C q6k (q7d P) (bd_f_app P):=.ofK ⟨Mine.hd.zo_124 P,by rw [hC.K];kernel_rfl,rfl⟩ rfl (by rw [hC.K];kernel_rfl) rfl rfl rfl rfl rfl
noncomputable abbrev q5u : Addr:=132
noncomputable abbrev q4i (P : Params) : FuncData:=fdOf (Mine.hd.zo_140 P)
noncomputable abbrev z2i (P : Params) : List Stmt:=bdOf (q4i P)
private theorem w8w (hC : CfgOk P C) : Def C q5u (q4i P) (z2i P):=.ofK ⟨Mine.hd.zo_140 P,by rw [hC.K];kernel_rfl,rfl⟩ rfl (by rw [hC.K];kernel_rfl) rfl rfl rfl rfl rfl
noncomputable abbrev q4u : Addr:=139
noncomputable abbrev w4n (P : Params) : FuncData:=fdOf (Mine.hd.zo_147 P)
noncomputable abbrev z2g (P : Params) : List Stmt:=bdOf (w4n P)
private theorem q4l (hC : CfgOk P C) : Def C q4u (w4n P) (z2g P):=.ofK ⟨Mine.hd.zo_147 P,by rw [hC.K];kernel_rfl,rfl⟩ rfl (by rw [hC.K];kernel_rfl) rfl rfl rfl rfl rfl
noncomputable abbrev q4v : Addr:=147
noncomputable abbrev q8m (P : Params) : FuncData:=fdOf (Mine.hd.zo_155 P)
noncomputable abbrev w4v (P : Params) : List Stmt:=bdOf (q8m P)
private theorem q7f (hC : CfgOk P C) : Def C q4v (q8m P) (w4v P):=.ofK ⟨Mine.hd.zo_155 P,by rw [hC.K];kernel_rfl,rfl⟩ rfl (by rw [hC.K];kernel_rfl) rfl rfl rfl rfl rfl
noncomputable abbrev q6l : Addr:=155
noncomputable abbrev q7e (P : Params) : FuncData:=fdOf (Mine.hd.zo_163 P)
noncomputable abbrev bd_a_pop (P : Params) : List Stmt:=bdOf (q7e P)
private theorem q7g (hC : CfgOk P C) : Def C q6l (q7e P) (bd_a_pop P):=.ofK ⟨Mine.hd.zo_163 P,by rw [hC.K];kernel_rfl,rfl⟩ rfl (by rw [hC.K];kernel_rfl) rfl rfl rfl rfl rfl
noncomputable abbrev w3j : Addr:=162
noncomputable abbrev w7f (P : Params) : FuncData:=fdOf (Mine.hd.zo_170 P)
noncomputable abbrev bd_a_len (P : Params) : List Stmt:=bdOf (w7f P)
private theorem z1s (hC : CfgOk P C) : Def C w3j (w7f P) (bd_a_len P):=.ofK ⟨Mine.hd.zo_170 P,by rw [hC.K];kernel_rfl,rfl⟩ rfl (by rw [hC.K];kernel_rfl) rfl rfl rfl rfl rfl
noncomputable abbrev w1a : Addr:=169
noncomputable abbrev w7e (P : Params) : FuncData:=fdOf (Mine.hd.zo_177 P)
noncomputable abbrev bd_a_str (P : Params) : List Stmt:=bdOf (w7e P)
private theorem z1r (hC : CfgOk P C) : Def C w1a (w7e P) (bd_a_str P):=.ofK ⟨Mine.hd.zo_177 P,by rw [hC.K];kernel_rfl,rfl⟩ rfl (by rw [hC.K];kernel_rfl) rfl rfl rfl rfl rfl
noncomputable abbrev q3u : Addr:=177
noncomputable abbrev q5s (P : Params) : FuncData:=fdOf (Mine.hd.zo_185 P)
noncomputable abbrev w1x (P : Params) : List Stmt:=bdOf (q5s P)
private theorem q4t (hC : CfgOk P C) : Def C q3u (q5s P) (w1x P):=.ofK ⟨Mine.hd.zo_185 P,by rw [hC.K];kernel_rfl,rfl⟩ rfl (by rw [hC.K];kernel_rfl) rfl rfl rfl rfl rfl
noncomputable abbrev q9a : Addr:=184
noncomputable abbrev w4o (P : Params) : FuncData:=fdOf (Mine.hd.zo_192 P)
noncomputable abbrev z2h (P : Params) : List Stmt:=bdOf (w4o P)
private theorem w1v (hC : CfgOk P C) : Def C q9a (w4o P) (z2h P):=.ofK ⟨Mine.hd.zo_192 P,by rw [hC.K];kernel_rfl,rfl⟩ rfl (by rw [hC.K];kernel_rfl) rfl rfl rfl rfl rfl
noncomputable abbrev q5k : Addr:=192
noncomputable abbrev q5t (P : Params) : FuncData:=fdOf (Mine.hd.zo_200 P)
noncomputable abbrev w9c (P : Params) : List Stmt:=bdOf (q5t P)
private theorem w0s (hC : CfgOk P C) : Def C q5k (q5t P) (w9c P):=.ofK ⟨Mine.hd.zo_200 P,by rw [hC.K];kernel_rfl,rfl⟩ rfl (by rw [hC.K];kernel_rfl) rfl rfl rfl rfl rfl
noncomputable def gB : List (PySem.Str × Value):=[(⟨#[108,101,110]⟩,.builtin "len"),(⟨#[100,105,118,109,111,100]⟩,.builtin "divmod"),(⟨#[115,117,109]⟩,.builtin "sum"),(⟨#[115,111,114,116,101,100]⟩,.builtin "sorted"),(⟨#[109,97,120]⟩,.builtin "max"),(⟨#[109,105,110]⟩,.builtin "min"),(⟨#[97,98,115]⟩,.builtin "abs"),(⟨#[114,101,118,101,114,115,101,100]⟩,.type "reversed"),(⟨#[114,97,110,103,101]⟩,.type "range"),(⟨#[115,116,114]⟩,.type "str"),(⟨#[115,117,112,101,114]⟩,.type "super")]
noncomputable def gM : List (PySem.Str × Value):=[(⟨#[95,100,105,118,50,110,49,110]⟩,.ref a_div2),(⟨#[95,100,105,118,51,110,50,110]⟩,.ref a_div3),(⟨#[95,105,110,116,50,100,105,103,105,116,115]⟩,.ref a_i2d),(⟨#[95,100,105,103,105,116,115,50,105,110,116]⟩,.ref a_d2i),(⟨#[95,100,105,118,109,111,100,95,112,111,115]⟩,.ref a_dpos),(⟨#[105,110,116,95,100,105,118,109,111,100]⟩,.ref a_idm),(⟨#[113,117,111,116,101,100,97,116,97]⟩,.ref w6l),(⟨#[95,65,99,99,117,109,117,108,97,116,111,114]⟩,.ref cAcc),(⟨#[95,86,97,108,117,101,70,111,114,109,97,116,116,101,114]⟩,.ref cFmt),(⟨#[95,116,119,105,110,95,114,101,95,49]⟩,.ref a_re1),(⟨#[95,116,119,105,110,95,114,101,95,50]⟩,.ref a_re2),(⟨#[95,108,97,119,95,102,111,108,100,101,100]⟩,.ref q7k)]
noncomputable def gTab : List (PySem.Str × Value):=gB ++ gM
private theorem glob_m (hC : CfgOk P C) : gM.map (fun e => nsIn C.K mainGlobals e.1) = gM.map (fun e => some (some e.2)):=by rw [hC.K];kernel_rfl
private theorem glob_n (hC : CfgOk P C) : gB.map (fun e => nsIn C.K mainGlobals e.1) = gB.map (fun _ => some none):=by rw [hC.K];kernel_rfl
private theorem glob_b (hC : CfgOk P C) : gB.map (fun e => nsIn C.K builtinsNs e.1) = gB.map (fun e => some (some e.2)):=by rw [hC.K];kernel_rfl
private theorem q0e (hC : CfgOk P C) {x : PySem.Str} {v : Value} (h : gTab.lookup x = some v) : Glob C x v:=(List.mem_append.mp (q0n h)).elim
 (fun m => .inr ⟨List.map_inj_left.mp (glob_n hC) _ m,List.map_inj_left.mp (glob_b hC) _ m⟩) fun m => .inl (List.map_inj_left.mp (glob_m hC) _ m)
private theorem z1f (hC : CfgOk P C) : ∃ t,Glob C ⟨#[95,68,73,86,95,76,73,77,73,84]⟩ (.int 4000 t):=⟨501,.inl (by rw [hC.K];kernel_rfl)⟩
private theorem g_crlf (hC : CfgOk P C) : ∃ t,Glob C ⟨#[67,82,76,70]⟩ (.str ⟨#[13,10]⟩ t):=⟨641,.inl (by rw [hC.K];kernel_rfl)⟩
private theorem g_empty (hC : CfgOk P C) : ∃ t,Glob C ⟨#[69,77,80,84,89,83,84,82,73,78,71]⟩ (.str ⟨#[]⟩ t):=⟨293,.inl (by rw [hC.K];kernel_rfl)⟩
end
section
open PySem PySem.W PySem.Calls PyProof.Rows
variable {prog : Program} {w : World}
section
variable {C : Cfg} {mu mu' nu : List Addr} {s₀ s s' : Shared} {env : Env} {ρ : List (PySem.Str × PV)} {σ σ' : List (Addr × MO)} {A : Around} {E : Value → Shared → Prop}
private theorem MOAt.kp {b : Addr} {m : MO} {ds : List Addr} (O : Ok C mu s) (k : Kp C ds s s') (hds : ∀ a ∈ ds,a ∈ mu) (hb : b ∈ mu) (hn : b ∉ ds) (x : MOAt mu s.heap b m) : MOAt mu s'.heap b m:=
 x.keeps (fun o e => k.keep b o hn (O.notTab hb) e) (fun _ _ z _ => z) fun c o hc hk e => k.keep c o (fun q => hc (hds c q)) (O.seqNotTab hk e) e
private theorem In.change {ds : List Addr} (I : In C mu nu env ρ σ s₀ s) (O' : Ok C mu s') (k : Kp C ds s s') (hds : ∀ a ∈ ds,a ∈ nu ∧ a ∉ q0j env) (hσ : ∀ b m,σ'.lookup b = some m → b ∈ mu ∧ b ∉ q0j env ∧ MOAt mu s'.heap b m) : In C mu nu env ρ σ' s₀ s':=by
 have hmu : ∀ a ∈ ds,a ∈ mu:=fun a h => I.sub a (hds a h).1
 refine ⟨O',⟨hσ,I.act.kind,I.act.gl,I.act.bi,I.act.loc,?_,I.act.kinds,fun x c hx hl hc => ?_,I.act.plain,I.act.inj⟩,I.kp.trans (k.mono fun a h => (hds a h).1),I.sub,I.cells⟩
 ·obtain ⟨m,⟨o,es,ep,ho,r⟩,hv⟩:=I.act.ns
  exact ⟨m,⟨o,es,ep,k.keep _ _ (fun h => (hds _ h).2 (.head _)) (I.ok.notTab I.act.loc) ho,r⟩,fun x p h1 h2 => let ⟨v,e,y⟩:=hv x p h1 h2;⟨v,e,y.kp I.ok hmu k⟩⟩
 ·obtain ⟨h1,h2,ov,⟨o,ho,hd⟩,h4⟩:=I.act.cell x c hx hl hc
  exact ⟨h1,h2,ov,⟨o,k.keep _ _ (fun h => (hds _ h).2 (.tail _ (List.mem_map_of_mem (f:=(·.2)) (q1w hc)))) (I.ok.notTab h1) ho,hd⟩,fun p hp => let ⟨v,e,y⟩:=h4 p hp;⟨v,e,y.kp I.ok hmu k⟩⟩
private theorem In.change1 {d : Addr} {m m' : MO} (I : In C mu nu env ρ σ s₀ s) (O' : Ok C mu s') (k : Kp C [d] s s') (hl : σ.lookup d = some m) (hd : d ∈ nu) (hm : MOAt mu s'.heap d m') : In C mu nu env ρ ((d,m') :: σ) s₀ s':=by
 obtain ⟨h1,h2,_⟩:=I.act.st d m hl
 refine I.change O' k (fun a h => by simp at h;subst h;exact ⟨hd,h2⟩) fun b mb e => ?_
 rw [List.lookup_cons] at e
 cases hb : b == d with
 | true => rw [hb] at e;cases e;rw [eq_of_beq hb];exact ⟨h1,h2,hm⟩
 | false =>
  rw [hb] at e
  obtain ⟨g1,g2,g3⟩:=I.act.st b mb e
  exact ⟨g1,g2,g3.kp I.ok k (fun a h => by simp at h;subst h;exact h1) g1 fun h => by simp at h;subst h;simp at hb⟩
private theorem In.know {d : Addr} {m : MO} (I : In C mu nu env ρ σ s₀ s) (hd : d ∈ mu) (hown : d ∉ q0j env) (hm : MOAt mu s.heap d m) : In C mu (d :: nu) env ρ ((d,m) :: σ) s₀ s:=
 ⟨I.ok,⟨fun b mb e => by
  rw [List.lookup_cons] at e
  cases hb : b == d with
  | true => rw [hb] at e;cases e;rw [eq_of_beq hb];exact ⟨hd,hown,hm⟩
  | false => rw [hb] at e;exact I.act.st b mb e,I.act.kind,I.act.gl,I.act.bi,I.act.loc,I.act.ns,I.act.kinds,I.act.cell,I.act.plain,I.act.inj⟩,I.kp.mono fun _ h => .tail _ h,fun a h => by
  rcases List.mem_cons.mp h with rfl | h
  ·exact hd
  ·exact I.sub a h,I.cells⟩
private theorem q5a {x : PySem.Str} {f : Addr} {fd : FuncData} {body : List Stmt} {px pos epos : Pos} {e : Expr} {es : List Expr} {ps : List PV} {Q : Flow → Shared → Prop} (I : In C mu nu env ρ σ s₀ s) (hf : PurE prog w C mu A env ρ σ (.Name x px) (.val (.ref f))) (hargs : PurEs prog w C mu A env ρ σ (e :: es) ps)
  (D : Def C f fd body) (hfn : ∀ s₁ vs,In C mu nu env ρ σ s₀ s₁ → Sims s₁.heap mu ps vs → wpAny (model prog w) A (call (.ref f) vs) (fun _ s' => Q .next s') E s₁)
  (he : autoParam (∀ env,starEach (e :: es) env = (false,eval e env) :: starEach es env) tR)
  (hi : autoParam (interactive env = false) tR) (hsw : autoParam (swapsWith (.Call (.Name x px) (e :: es) [] pos) none epos.line env = pure false) tR) :
  wpAny (model prog w) A (exec (.Expr (.Call (.Name x px) (e :: es) [] pos) epos) env) Q E s:=
 wpAny_Expr_any (Call_ (hf s I.ok I.act _ _ fun v s₁ O₁ k₁ y₁ => by
  cases (show v = .ref f from y₁)
  obtain ⟨o,hl,hd⟩:=(D.at O₁).look
  refine callWith_function (o:=o) (fd:=fd) ?_
  have h:=hargs pos s₁ O₁ (I.act.kp I.ok k₁)
  rw [he env] at h ⊢
  exact evalArgs_plain (h _ _ fun vs s₂ O₂ k₂ y₂ => ⟨⟨k₂.keep _ _ (fun h => nomatch h) (O₁.fnNotTab hl hd) hl,hd⟩,hfn s₂ vs ((I.next O₁ k₁).next O₂ k₂) y₂⟩))) hi hsw
private theorem w4e {l : Addr} {items : Array Value} {k : Nat} {x : Int} {u : Tok} {Q : Value → Shared → Prop}
  (hl : s.heap.get? l = some { cls:=.type "list",dict:=none,data:=.seq items k,slots:=#[] })
  (hlo : -(2 ^ 63 : Int) ≤ x) (hhi : x < 2 ^ 63) (hsz : items.size * x.toNat ≤ 2 ^ 24)
  (h : Q (.ref s.heap.objs.size) { s with heap:=s.heap.push { cls:=.type "list",data:=.seq (List.foldl (fun x1 x2 => x1 ++ x2) #[] (List.replicate (if items.isEmpty = true then 0 else x.toNat) items)) } }) :
  wpAny (model prog w) A (binaryOp .Mult (.ref l) (.int x u)) Q E s:=
 wpAny_binaryOp_repeat_ref (T:="list") (U:="int") (by decide) ⟨_,hl,rfl⟩ (fun s' => typeIs_int s' x u) noFill_list_mul F.fills_int_mul F.slot_int_rmul repeat_list F.slot_int_index.lookup
  (call_meets F.slot_int_rmul (typeIs_int s x u) F.entry_int_rmul (F.args_int_rmul_2 _ _) (int___rmul___int_list x u l items k)
   ⟨hl,rfl,⟨_,hl,rfl⟩,call_meets F.slot_list_mul ⟨_,hl,rfl⟩ F.entry_list_mul (F.args_list_mul_2 _ _)
    (AutoListH.list___mul___list_int_3 l items k x u (by simp [Builtin.List.listFitsIndex];lia) (by lia) (by simp [Builtin.List.listTooLong,sizeLine];assumption))
    ⟨hl,h⟩⟩)
private theorem w5m {l : List PV} {k : Nat} (hk : l.length * k ≤ 2 ^ 20) (hk2 : k ≤ 2 ^ 20) : Op2N prog w C mu A (binaryOp .Mult) (.lst l) (.int k) ((List.replicate k l).flatten):=fun s x y O hx ⟨t,hy⟩ => by
 subst hy
 obtain ⟨a,vs,n,rfl,ha,ho,hv⟩:=hx
 have hlen : vs.toArray.size = l.length:=by simp [hv.length]
 refine PurN.alloc O fun Q E k' => ?_
 refine w4e ho (by lia) (by lia) (by rw [hlen,Int.toNat_natCast];(with_reducible refine nad ?_;decide)) ?_
 have e : ∀ (m : Nat),(List.foldl (fun x1 x2 : Array Value => x1 ++ x2) #[] (List.replicate m vs.toArray)) = ((List.replicate m vs).flatten).toArray:=fun m => by
  have : ∀ (m : Nat) (acc : List Value),(List.foldl (fun x1 x2 : Array Value => x1 ++ x2) acc.toArray (List.replicate m vs.toArray)) = (acc ++ (List.replicate m vs).flatten).toArray:=fun m => by
   induction m with
   | zero => intro acc;simp
   | succ m ih =>
    intro acc
    rw [List.replicate_succ,List.foldl_cons,List.append_toArray,ih,List.replicate_succ,List.flatten_cons,List.append_assoc]
  simpa using this m []
 have hs : ∀ m,Sims s.heap mu (List.replicate m l).flatten (List.replicate m vs).flatten:=fun m => by
  induction m with
  | zero => exact rfl
  | succ m ih => rw [List.replicate_succ,List.replicate_succ,List.flatten_cons,List.flatten_cons];exact hv.append ih
 refine k' ((List.replicate k vs).flatten) 0 s.toks _ (hs k) (fun b o e => Heap.get?_push_of_some _ e) _ (Ok.size_none s) ?_
 rw [Heap.get?_push_size _ rfl]
 by_cases hem : vs = []
 ·subst hem
  have h0 : ∀ m,(List.replicate m ([] : List Value)).flatten = []:=fun m => by induction m <;> simp_all [List.replicate_succ]
  simp [h0]
 ·have : vs.toArray.isEmpty = false:=by cases vs <;> simp at hem ⊢
  rw [this]
  simp only [Bool.false_eq_true,if_false,Int.toNat_natCast,e]
private theorem op_fdiv {a b : Int} (hb : b ≠ 0) (hp : Builtin.divisionGoesByPylong a b = false) : Op2 prog w C mu A (binaryOp .FloorDiv) (.int a) (.int b) (.int (a.fdiv b)):=fun s x y O ⟨t,hx⟩ ⟨u,hy⟩ => by subst hx hy;exact Pur.here O fun Q E k => floordiv_int hb (k _ _ ⟨_,rfl⟩) (.inl hp)
end
end
section
open PySem PySem.W PySem.Calls PyProof.Rows
variable {prog : Program} {w : World}
section
variable {C : Cfg} {mu mu' nu : List Addr} {s₀ s s' : Shared} {env : Env} {ρ : List (PySem.Str × PV)} {σ σ' : List (Addr × MO)} {A : Around} {E : Value → Shared → Prop}
private theorem q4k {x : PySem.Str} {T : String} {px pos : Pos} {e : Expr} {es : List Expr} {ps : List PV} {Q : Value → Shared → Prop} (O : Ok C mu s) (a : Act env mu s.heap ρ σ) (hf : PurE prog w C mu A env ρ σ (.Name x px) (.val (.type T))) (hargs : PurEs prog w C mu A env ρ σ (e :: es) ps)
  (h : ∀ vs s',Ok C mu s' → Kp C [] s s' → Sims s'.heap mu ps vs → wpAny (model prog w) A (call (.type T) vs) Q E s') (he : autoParam (∀ env,starEach (e :: es) env = (false,eval e env) :: starEach es env) tR)
  (hplain : autoParam ((backTo pos (starEach es env)).any (·.1) = false) tR) : wpAny (model prog w) A (eval (.Call (.Name x px) (e :: es) [] pos) env) Q E s:=
 Call_ (hf s O a _ _ fun v s₁ O₁ k₁ y₁ => by
  cases (show v = .type T from y₁)
  exact PyProof.Rows.callWith_type1 (hargs pos s₁ O₁ (a.kp O k₁) _ _ fun vs s₂ O₂ k₂ y₂ => h vs s₂ O₂ (k₁.trans k₂) y₂) (he env) hplain)
private theorem q9b (O : Ok C mu s') (k : Kp C [] s s') {a : Addr} (ha : s'.heap.get? a = none) : s.heap.get? a = none:=q7i O k ha
private theorem w6m {A : Around} {I : Addr} {fp wr : List Addr} {n m : Nat} {P : Nat → Value → Prop} {St : Nat → Heap → Prop} (h : n = m) (W : Walks prog w A I fp wr n P St) : Walks prog w A I fp wr m P St:=h ▸ W
private theorem w2y {x : PySem.Str} {px pos : Pos} {e : Expr} {l : List PV} (hA : A.handled = none) (hf : PurE prog w C mu A env ρ σ (.Name x px) (.val (.type "reversed"))) (ha : PurE prog w C mu A env ρ σ e (.lst l)) (he : autoParam (∀ env,starEach [e] env = (false,eval e env) :: starEach [] env) tR) :
  IterE prog w C mu A env ρ σ (.Call (.Name x px) [e] [] pos) l.reverse:=fun s O a Q E k =>
 q4k O a hf (q0c ha q0g he) (fun vs s₁ O₁ k₁ y => by
  obtain ⟨v,r,rfl,⟨b,ws,n,rfl,hb,ho,hv⟩,hr⟩:=y
  cases (show r = [] from hr)
  have hl : s₁.heap.IsList b ws.toArray:=⟨_,ho,rfl,n,rfl⟩
  have hlen : ws.toArray.size = l.reverse.length:=by simp [hv.length]
  refine call_reversed_list hl ?_
  have hit : ∀ (h : Heap),h.get? s₁.heap.objs.size = some (revObj b ((ws.toArray.size : Int) - 1)) → h.IsRevIter s₁.heap.objs.size b ((ws.toArray.size : Int) - 1):=fun h e => ⟨_,e,rfl,rfl⟩
  have hnew:=Ok.size_none s₁
  have hne : b ≠ s₁.heap.objs.size:=fun q => by rw [q,hnew] at ho;cases ho
  have hk : ∀ c o,s₁.heap.get? c = some o → (s₁.heap.push (revObj b ((ws.toArray.size : Int) - 1))).get? c = some o:=fun c o e => Heap.get?_push_of_some _ e
  refine wpAny_pyIter_revIter (hit _ (Heap.get?_push_size _ rfl)) (k s₁.heap.objs.size _ _ _ _ (O₁.push (tk:=s₁.toks)) (k₁.trans (Kp.of_keep (tk:=s₁.toks) hk)) (q9b O₁ k₁ hnew) (O₁.fresh' hnew).2 (O₁.fresh' hnew).1 (fun A' hA' => w6m hlen (Walks.listRev (prog:=prog) (w:=w) hA' _ b hne ws.toArray))
   ⟨Nat.zero_le _,by rw [show ((ws.toArray.size : Nat) : Int) - 1 - ((0 : Nat) : Int) = (ws.toArray.size : Int) - 1 by lia];exact hit _ (Heap.get?_push_size _ rfl),hl.push _⟩ (fun i h st => ?_) (fun c hc hci => ?_) fun i v hi hP => ?_)
  ·obtain ⟨o,h1,h2,h3⟩:=st.2.1
   exact ⟨o,h1,q2t (a:=.none) (b:=.none) (r:=[]) h2 ⟨_,h3,fun q t e => by simp [rawInt] at e⟩ (by decide)⟩
  ·simp at hc
   rcases hc with rfl | rfl
   ·exact absurd rfl hci
   ·exact ⟨hb,O₁.seqNotTab (.inl rfl) ho,_,hk _ _ ho⟩
  ·have hPi : ws[ws.length - 1 - i]? = some v:=by simpa using hP
   have hi : i < l.length:=by rw [List.length_reverse] at hi;exact hi
   have hi' : ws.length - 1 - i < l.length:=by rw [hv.length];with_reducible exact nc5
   obtain ⟨u,e1,e2⟩:=hv.get _ l[ws.length - 1 - i] (List.getElem?_eq_getElem hi')
   rw [hPi] at e1;cases e1
   refine ⟨l[ws.length - 1 - i],?_,e2.keeps (fun _ _ z _ => z) fun c o _ _ e => hk c o e⟩
   rw [List.getElem?_reverse hi,List.getElem?_eq_getElem (by with_reducible exact nc5)]
   congr 2
   rw [hv.length]) he
noncomputable def rangeL (a c : Int) (n : Nat) : List PV:=(List.range n).map fun (i : Nat) => .int (a + i * c)
private theorem q3s {r : Addr} {a b c : Int} {t u v : Tok} {n : Nat} {Q : Value → Shared → Prop} {s₀ : Shared} (O : Ok C mu s) (k₀ : Kp C [] s₀ s) (hr : IsRange s.heap r a b c t u v) (hs : Builtin.Range.small a b c = true) (hn : Builtin.Range.rangeSize a b c = n)
  (k : ∀ it s₁ fp P St,Ok C mu s₁ → Kp C [] s₀ s₁ → s₀.heap.get? it = none → it ∉ mu → it ∉ C.tabs → (∀ A' : Around,A'.handled = none → Walks prog w A' it fp [it] (rangeL a c n).length P St) → St 0 s₁.heap →
   (∀ i h,St i h → ∃ o,h.get? it = some o ∧ w1b o) → (∀ b ∈ fp,b ≠ it → b ∉ mu ∧ b ∉ C.tabs ∧ ∃ o,s₁.heap.get? b = some o) → (∀ i v,i < (rangeL a c n).length → P i v → ∃ p,(rangeL a c n)[i]? = some p ∧ Sim s₁.heap mu p v) → Q (.ref it) s₁) :
  wpAny (model prog w) A (pyIter (.ref r)) Q E s:=by
 have hnew:=Ok.size_none s
 refine wpAny_pyIter_range hr hs (k s.heap.objs.size _ _ _ _ (O.push (tk:=s.toks)) (k₀.trans (Kp.of_keep (tk:=s.toks) fun c o e => Heap.get?_push_of_some _ e)) (q9b O k₀ hnew) (O.fresh' hnew).2 (O.fresh' hnew).1
  (fun A' hA' => w6m (by simp [rangeL]) (Walks.range (prog:=prog) (w:=w) hA' s.heap.objs.size a c n)) ?_ (fun i h st => ⟨_,st,q2t (a:=.none) (b:=.none) (r:=[]) rfl ⟨_,rfl,fun q t e => by simp [rawInt] at e⟩ (by decide)⟩) (fun b hb hbi => absurd (by simpa using hb) hbi) fun i v hi hP => ?_)
 ·show IsRangeIter _ _ (a + ((0 : Nat) : Int) * c) ((n : Int) - ((0 : Nat) : Int)) c
  rw [show a + ((0 : Nat) : Int) * c = a by simp,show (n : Int) - ((0 : Nat) : Int) = n by simp,← hn]
  exact Heap.get?_push_size _ rfl
 ·obtain ⟨t,rfl⟩:=hP
  have hi' : i < n:=by simpa [rangeL] using hi
  exact ⟨.int (a + i * c),by simp [rangeL,hi'],t,rfl⟩
private theorem q5w (a b : Int) : Builtin.Range.rangeSize a b 1 = ((b - a).toNat : Nat):=by
 rw [rangeSize_one]
 split <;> lia
private theorem q0u {x : PySem.Str} {px pos : Pos} {e : Expr} {n : Nat} (hf : PurE prog w C mu A env ρ σ (.Name x px) (.val (.type "range"))) (ha : PurE prog w C mu A env ρ σ e (.int n)) (hn : n < 2 ^ 60) (he : autoParam (∀ env,starEach [e] env = (false,eval e env) :: starEach [] env) tR) :
  IterE prog w C mu A env ρ σ (.Call (.Name x px) [e] [] pos) (rangeL 0 1 n):=fun s O a Q E k =>
 q4k O a hf (q0c ha q0g he) (fun vs s₁ O₁ k₁ y => by
  obtain ⟨v,r,rfl,⟨t,rfl⟩,hr⟩:=y
  cases (show r = [] from hr)
  exact call_range_1 (q3s (O₁.push (tk:=s₁.toks + 1 + 1)) (k₁.trans (Kp.of_keep (tk:=s₁.toks + 1 + 1) fun c o e => Heap.get?_push_of_some _ e)) (IsRange.new _ _ _ _ _ _ _) (small_one (by decide) (by decide) (by lia) (by lia)) (by rw [q5w];simp) k)) he
private theorem w5t {x : PySem.Str} {px pos : Pos} {e f : Expr} {b c : Int} (hf : PurE prog w C mu A env ρ σ (.Name x px) (.val (.type "range"))) (ha : PurE prog w C mu A env ρ σ e (.int b)) (hb : PurE prog w C mu A env ρ σ f (.int c)) (h1 : -(2 ^ 60) < b ∧ b < 2 ^ 60) (h2 : -(2 ^ 60) < c ∧ c < 2 ^ 60)
  (he : autoParam (∀ env,starEach [e,f] env = (false,eval e env) :: starEach [f] env) tR) (hf' : autoParam (∀ env,starEach [f] env = (false,eval f env) :: starEach [] env) tR) (hplain : autoParam ((backTo pos (starEach [f] env)).any (·.1) = false) tR) :
  IterE prog w C mu A env ρ σ (.Call (.Name x px) [e,f] [] pos) (rangeL b 1 (c - b).toNat):=fun s O a Q E k =>
 q4k O a hf (q0c ha (q0c hb q0g hf') he) (fun vs s₁ O₁ k₁ y => by
  obtain ⟨v,r,rfl,⟨t,rfl⟩,v₂,r₂,rfl,⟨t₂,rfl⟩,hr⟩:=y
  cases (show r₂ = [] from hr)
  exact call_range_2 (q3s (O₁.push (tk:=s₁.toks + 1)) (k₁.trans (Kp.of_keep (tk:=s₁.toks + 1) fun c o e => Heap.get?_push_of_some _ e)) (IsRange.new _ _ _ _ _ _ _) (small_one (by lia) (by lia) (by lia) (by lia)) (q5w _ _) k)) he hplain
private theorem w5s {x : PySem.Str} {px pos : Pos} {e f g : Expr} {n : Nat} (hf : PurE prog w C mu A env ρ σ (.Name x px) (.val (.type "range"))) (ha : PurE prog w C mu A env ρ σ e (.int n)) (hb : PurE prog w C mu A env ρ σ f (.int 0)) (hg : PurE prog w C mu A env ρ σ g (.int (-1))) (h1 : n < 2 ^ 60)
  (he : autoParam (∀ env,starEach [e,f,g] env = (false,eval e env) :: starEach [f,g] env) tR) (hf' : autoParam (∀ env,starEach [f,g] env = (false,eval f env) :: starEach [g] env) tR) (hg' : autoParam (∀ env,starEach [g] env = (false,eval g env) :: starEach [] env) tR)
  (hplain : autoParam ((backTo pos (starEach [f,g] env)).any (·.1) = false) tR) :
  IterE prog w C mu A env ρ σ (.Call (.Name x px) [e,f,g] [] pos) (rangeL n (-1) n):=fun s O a Q E k =>
 q4k O a hf (q0c ha (q0c hb (q0c hg q0g hg') hf') he) (fun vs s₁ O₁ k₁ y => by
  obtain ⟨v,r,rfl,⟨t,rfl⟩,v₂,r₂,rfl,⟨t₂,rfl⟩,v₃,r₃,rfl,⟨t₃,rfl⟩,hr⟩:=y
  cases (show r₃ = [] from hr)
  have hsz : Builtin.Range.rangeSize (n : Int) 0 (-1) = n:=by
   unfold Builtin.Range.rangeSize
   rw [if_neg (by decide),show -(-1 : Int) = 1 by decide,Int.ediv_one]
   split <;> lia
  refine call_range_3 (by decide) (q3s (O₁.push (tk:=s₁.toks)) (k₁.trans (Kp.of_keep (tk:=s₁.toks) fun c o e => Heap.get?_push_of_some _ e)) (IsRange.new _ _ _ _ _ _ _) ?_ hsz k) (.inl (PyProof.noPylong_small (by decide)))
  unfold Builtin.Range.small
  rw [hsz]
  simp only [Builtin.Range.rangeFitsLong,Bool.and_eq_true,Bool.or_eq_true,decide_eq_true_eq,beq_iff_eq,show ¬ ((-1 : Int) > 0) by decide,if_false]
  lia) he hplain
end
end
section
open PySem PySem.W PySem.Calls PyProof.Rows
variable {prog : Program} {w : World}
private theorem q0y : ∀ (names : List (PySem.Str × NameKind)) (n : Nat) (acc : List (PySem.Str × Addr)),cellsFrom n names acc = cellsFrom n names [] ++ acc
 | [],_,_ => rfl
 | (name,kind) :: r,n,acc => by
  unfold cellsFrom
  split
  ·rw [q0y r _ ((name,n) :: acc),q0y r _ [(name,n)],List.append_assoc];rfl
  ·exact q0y r n acc
noncomputable def q3e (scope : Scope) (cl : List (PySem.Str × Addr)) (L : Addr) (env : Env) : Env:=
 { scope:=scope,locals:=L,globals:=env.globals,cells:=cellsFrom (L + 1) scope.names cl,qual:=env.qual,func:=none,code:=env.code,frame:=env.frame,builtins:=env.builtins }
private theorem w8l {M : Model} {A : Around} {E : Value → Shared → Prop} {s : Shared} {scope : Scope} {cl : List (PySem.Str × Addr)} {env : Env} {Q : Env → Shared → Prop}
  (h : Q (q3e scope cl s.heap.objs.size env) { s with heap:=pushCells (s.heap.push { cls:=.type "dict",data:=.dict #[] }) scope.names }) : wpAny M A (newFunctionEnv scope env.globals cl [] env.qual none .none (some env)) Q E s:=by
 simp only [newFunctionEnv,Option.isSome_some,if_true]
 refine wpAny_bind (wpAny_alloc ?_)
 refine wpAny_bind (wpAny_layCells _ (fun name kind cells => by cases hkc : kind == NameKind.cell <;> simp [hkc]) _ _ _ _ ?_)
 rw [show ({ s with heap:=s.heap.push { cls:=.type "dict",data:=.dict #[] } } : Shared).heap.objs.size = s.heap.objs.size + 1 from Heap.size_push ..]
 refine wpAny_bind ?_
 rw [List.forIn_nil]
 exact wpAny_pure (wpAny_pure h)
section
variable {C : Cfg} {mu mu' nu : List Addr} {s₀ s s' : Shared} {env : Env} {ρ : List (PySem.Str × PV)} {σ σ' : List (Addr × MO)} {A : Around} {E : Value → Shared → Prop}
private theorem q7u {α : Type} {x : PySem.Str} {c : α} {l r : List (PySem.Str × α)} (h : (l ++ r).lookup x = some c) : l.lookup x = some c ∨ (l.lookup x = none ∧ r.lookup x = some c):=by
 rw [List.lookup_append] at h
 cases hl : l.lookup x with
 | some d => rw [hl] at h;exact .inl (by simpa using h)
 | none => rw [hl] at h;exact .inr ⟨rfl,by simpa using h⟩
private theorem w1w {x : PySem.Str} {names : List (PySem.Str × NameKind)} (n : Nat) (h : (cellsFrom 0 names []).lookup x = none) : (cellsFrom n names []).lookup x = none:=by
 cases q : (cellsFrom n names []).lookup x with
 | none => rfl
 | some c =>
  have e:=cellsFrom_names names 0 n [] [] rfl
  have hm : x ∈ (cellsFrom 0 names []).map (·.1):=e ▸ List.mem_map_of_mem (f:=(·.1)) (q0n q)
  obtain ⟨⟨x',c'⟩,hm',rfl⟩:=List.mem_map.mp hm
  obtain ⟨d,hd⟩:=q3q hm'
  rw [h] at hd;cases hd
private theorem w8y {scope : Scope} {cl : List (PySem.Str × Addr)} {ρc : List (PySem.Str × PV)} (O : Ok C mu s) (a : Act env mu s.heap ρ σ) (hal : ∀ x ∈ env.cells,x.2 ∈ mu ∨ ∃ o,C.H.get? x.2 = some o)
  (hkind : scope.kind = .function) (hmem : ∀ x ∈ cl,x ∈ env.cells) (hcl : ∀ x c,cl.lookup x = some c → env.cells.lookup x = some c ∧ env.kindOf x ≠ some .local) (hinj : ∀ x c,cl.lookup x = some c → (cellsFrom 0 scope.names []).lookup x = none)
  (hρ : ∀ x p,ρc.lookup x = some p → ρ.lookup x = some p ∧ ((relabel scope env).names.lookup x = some .cell ∨ (relabel scope env).names.lookup x = some .free) ∧ okName x = true ∧ ∃ c,cl.lookup x = some c)
  {L : Addr} {own : List Addr} {s' : Shared} (hL : L = s.heap.objs.size) (hown : own = L :: (cellsFrom (L + 1) scope.names []).map (·.2)) (hs' : s' = { s with heap:=pushCells (s.heap.push { cls:=.type "dict",data:=.dict #[] }) scope.names }) :
  Ok C (own ++ mu) s' ∧ Kp C [] s s' ∧ (∀ b ∈ own,s.heap.get? b = none) ∧ (∀ b o,s.heap.get? b = some o → s'.heap.get? b = some o) ∧ Act { q3e scope cl L env with scope:=relabel scope env } (own ++ mu) s'.heap ρc σ:=by
 have hsz : (s.heap.push { cls:=.type "dict",data:=.dict #[] }).objs.size = L + 1:=by rw [Heap.size_push,hL]
 have ok:=cellsFrom_ok scope.names (s.heap.push { cls:=.type "dict",data:=.dict #[] }) (L + 1) [] ⟨fun _ _ hm => (nomatch hm),List.Pairwise.nil⟩ (by rw [hsz];exact Nat.le_refl _)
 rw [hsz] at ok
 have hh : s'.heap = pushCells (s.heap.push { cls:=.type "dict",data:=.dict #[] }) scope.names:=by rw [hs']
 rw [← hh] at ok
 have hk : ∀ b o,s.heap.get? b = some o → s'.heap.get? b = some o:=fun b o e => by rw [hh];exact pushCells_keeps _ _ b o (Heap.get?_push_of_some _ e)
 have hnone : ∀ b ∈ own,s.heap.get? b = none:=fun b hb => by
  rw [hown] at hb
  refine Heap.get?_none_of_le ?_
  rcases List.mem_cons.mp hb with rfl | hb
  ·exact Nat.le_of_eq hL.symm
  ·obtain ⟨⟨x,c⟩,hm,rfl⟩:=List.mem_map.mp hb
   have:=(ok.empty x c hm).2
   exact Nat.le_trans (Nat.le_of_eq hL.symm) (Nat.le_of_succ_le this)
 have hLns : s'.heap.Ns L (fun _ => none):=by
  rw [hh,hL]
  exact (Heap.Ns.new s.heap (.type "dict")).keeps (pushCells_keeps _ _)
 have halive : ∀ b ∈ own,∃ o,s'.heap.get? b = some o:=fun b hb => by
  rw [hown] at hb
  rcases List.mem_cons.mp hb with rfl | hb
  ·obtain ⟨o,_,_,ho,_⟩:=hLns;exact ⟨o,ho⟩
  ·obtain ⟨⟨x,c⟩,hm,rfl⟩:=List.mem_map.mp hb
   obtain ⟨o,ho,_⟩:=(ok.empty x c hm).1
   exact ⟨o,ho⟩
 have O' : Ok C (own ++ mu) s':=by rw [hs'] at halive hk ⊢;exact O.freshs (tk:=s.toks) (fun b hb => ⟨hnone b hb,halive b hb⟩) hk
 have live : ∀ x ∈ env.cells,∃ o,s.heap.get? x.2 = some o:=fun x hx => by
  rcases hal x hx with h | ⟨o,h⟩
  ·exact (O.live _ h).2
  ·by_cases ht : x.2 ∈ C.tabs
   ·exact O.tabAlive ht
   ·exact ⟨o,O.old _ _ h ht⟩
 have notOwn : ∀ b,(∃ o,s.heap.get? b = some o) → b ∉ own:=fun b ⟨o,e⟩ hb => by rw [hnone b hb] at e;cases e
 have cellsEq : (q3e scope cl L env).cells = cellsFrom (L + 1) scope.names [] ++ cl:=q0y _ _ _
 have up : ∀ {p : PV} {v : Value},Sim s.heap mu p v → Sim s'.heap (own ++ mu) p v:=fun y => (y.news hnone).keeps (fun _ _ z _ => z) fun b o _ _ e => hk b o e
 refine ⟨O',by rw [hs'] at hk ⊢;exact Kp.of_keep (tk:=s.toks) hk,hnone,hk,⟨fun b m e => ?_,hkind,a.gl,a.bi,?_,⟨_,hLns,fun x p e hl => ?_⟩,fun x p e => ?_,fun x c hx hl hc => ?_,fun x p e => q1s (hρ x p e).2.2.1,fun x y c h1 h2 => ?_⟩⟩
 ·obtain ⟨h1,h2,h3⟩:=a.st b m e
  refine ⟨List.mem_append_right _ h1,fun q => ?_,h3.keeps (fun o e => hk b o e) (fun c o hc e q => ?_) fun c o _ _ e => hk c o e⟩
  ·have hq : b ∈ L :: ((q3e scope cl L env).cells).map (·.2):=q
   rw [cellsEq,List.map_append] at hq
   rcases List.mem_cons.mp hq with rfl | hq
   ·exact notOwn _ (O.live _ h1).2 (by rw [hown];exact .head _)
   ·rcases List.mem_append.mp hq with hq | hq
    ·exact notOwn _ (O.live _ h1).2 (by rw [hown];exact .tail _ hq)
    ·obtain ⟨x,hx,rfl⟩:=List.mem_map.mp hq
     exact h2 (.tail _ (List.mem_map_of_mem (f:=(·.2)) (hmem x hx)))
  ·rcases List.mem_append.mp q with q | q
   ·rw [hnone c q] at e;cases e
   ·exact hc q
 ·exact List.mem_append_left _ (by rw [hown];exact .head _)
 ·have h2:=(hρ x p e).2.1
  have hl' : (relabel scope env).names.lookup x = some .local:=hl
  rw [hl'] at h2
  rcases h2 with h2 | h2 <;> cases h2
 ·obtain ⟨h1,h2,h3,c,hc⟩:=hρ x p e
  refine .inr ⟨h2,c,?_⟩
  show (q3e scope cl L env).cells.lookup x = some c
  rw [cellsEq,List.lookup_append,w1w _ (hinj x c hc),hc]
  rfl
 ·have hc' : (q3e scope cl L env).cells.lookup x = some c:=hc
  rw [cellsEq] at hc'
  rcases q7u hc' with hc' | ⟨hn,hc'⟩
  ·have hm:=q0n hc'
   obtain ⟨h1,h2⟩:=ok.empty x c hm
   refine ⟨List.mem_append_left _ (by rw [hown];exact .tail _ (List.mem_map_of_mem (f:=(·.2)) hm)),fun q => ?_,none,h1,fun p hp => ?_⟩
   ·exact Nat.ne_of_gt h2 q
   ·obtain ⟨_,_,_,d,hd⟩:=hρ x p hp
    rw [w1w _ (hinj x d hd)] at hc';cases hc'
  ·obtain ⟨h1,h2⟩:=hcl x c hc'
   obtain ⟨h3,_,ov,⟨o,ho,hd⟩,h5⟩:=a.cell x c hx h2 h1
   refine ⟨List.mem_append_right _ h3,fun q => ?_,ov,⟨o,hk _ _ ho,hd⟩,fun p hp => ?_⟩
   ·have q' : c = L:=q
    rw [q',hnone L (by rw [hown];exact .head _)] at ho;cases ho
   ·obtain ⟨v,e,y⟩:=h5 p (hρ x p hp).1
    exact ⟨v,e,up y⟩
 ·have h1' : (q3e scope cl L env).cells.lookup x = some c:=h1
  have h2' : (q3e scope cl L env).cells.lookup y = some c:=h2
  rw [cellsEq] at h1' h2'
  have mixed : ∀ {z u : PySem.Str},(cellsFrom (L + 1) scope.names []).lookup z = some c → cl.lookup u = some c → False:=fun {z u} hz hu =>
   notOwn c (live (u,c) (hmem _ (q0n hu))) (by rw [hown];exact .tail _ (List.mem_map_of_mem (f:=(·.2)) (q0n hz)))
  rcases q7u h1' with h1' | ⟨_,h1'⟩ <;> rcases q7u h2' with h2' | ⟨_,h2'⟩
  ·exact name_of_addr ok.apart (q0n h1') (q0n h2')
  ·exact (mixed h1' h2').elim
  ·exact (mixed h2' h1').elim
  ·exact a.inj x y c (hcl x c h1').1 (hcl y c h2').1
end
end
section
open PySem PySem.W PySem.Calls PyProof.Rows
variable {prog : Program} {w : World}
section
variable {C : Cfg} {mu mu' nu : List Addr} {s₀ s s' : Shared} {env : Env} {ρ : List (PySem.Str × PV)} {σ σ' : List (Addr × MO)} {A : Around} {E : Value → Shared → Prop}
noncomputable def TestsE (prog : Program) (w : World) (C : Cfg) (mu : List Addr) (A : Around) (env : Env) (ρ : List (PySem.Str × PV)) (σ : List (Addr × MO)) (ifs : List Expr) (b : Bool) : Prop:=
 ∀ s,Ok C mu s → Act env mu s.heap ρ σ → ∀ (Q : Bool → Shared → Prop) (E : Value → Shared → Prop),(∀ s',Ok C mu s' → Kp C [] s s' → Q b s') →
  wpAny (model prog w) A (forIn ifs true fun c r => if r = true then do let ok ← PySem.isTrue c env (eval c env);pure (ForInStep.yield ok) else pure (ForInStep.yield r)) Q E s
private theorem w3l : TestsE prog w C mu A env ρ σ [] true:=fun s O a Q E k => by rw [List.forIn_nil];exact wpAny_pure (k s O .refl)
private theorem q6o {c : Expr} {b : Bool} (h : PurB prog w C mu A env ρ σ c b) : TestsE prog w C mu A env ρ σ [c] b:=fun s O a Q E k => by
 rw [List.forIn_cons]
 refine wpAny_bind ?_
 rw [if_pos rfl]
 refine wpAny_bind (h s O a _ _ fun s' O' k' => wpAny_pure ?_)
 simp only [List.forIn_nil]
 exact wpAny_pure (k s' O' k')
noncomputable abbrev cEnv (scope : Scope) (cl : List (PySem.Str × Addr)) (L : Addr) (env : Env) : Env:={ q3e scope cl L env with scope:=relabel scope env }
noncomputable abbrev cOwn (scope : Scope) (L : Addr) : List Addr:=L :: (cellsFrom (L + 1) scope.names []).map (·.2)
noncomputable def q1j (prog : Program) (w : World) (C : Cfg) (mu : List Addr) (A : Around) (env : Env) (ρc : List (PySem.Str × PV)) (σ : List (Addr × MO)) (target elt : Expr) (ifs : List Expr) (scope : Scope) (cl : List (PySem.Str × Addr)) (l : List PV) (g : Nat → Option PV) : Prop:=
 ∀ (L D : Addr) (ys : List PV) (i : Nat) (p : PV),l[i]? = some p → ∃ ρ₁ : List (PySem.Str × PV),
  (∀ s v,In C (cOwn scope L ++ D :: mu) (cOwn scope L ++ [D]) (cEnv scope cl L env) ρc ((D,Mlst ys) :: σ) s s → Sim s.heap (cOwn scope L ++ D :: mu) p v →
   wpAny (model prog w) A (assign target (cEnv scope cl L env) v) (fun _ s₂ => In C (cOwn scope L ++ D :: mu) (cOwn scope L ++ [D]) (cEnv scope cl L env) ρ₁ ((D,Mlst ys) :: σ) s s₂) (fun _ _ => False) s) ∧
  (∀ y q,ρc.lookup y = some q → ρ₁.lookup y = some q) ∧
  (match g i with
   | none => TestsE prog w C (cOwn scope L ++ D :: mu) A (cEnv scope cl L env) ρ₁ ((D,Mlst ys) :: σ) ifs false
   | some z => TestsE prog w C (cOwn scope L ++ D :: mu) A (cEnv scope cl L env) ρ₁ ((D,Mlst ys) :: σ) ifs true ∧ PurE prog w C (cOwn scope L ++ D :: mu) A (cEnv scope cl L env) ρ₁ ((D,Mlst ys) :: σ) elt z)
private theorem lookup0 {d : Addr} {m : MO} {r : List (Addr × MO)} : ((d,m) :: r).lookup d = some m:=by simp
private theorem z1v {elt target iter : Expr} {ifs : List Expr} {scope : Scope} {pos : Pos} {cl : List (PySem.Str × Addr)} {ρc : List (PySem.Str × PV)} {l : List PV} {g : Nat → Option PV} {use : Option (Value → Sem Unit)} {Q : Value → Shared → Prop}
  {D it : Addr} {s₁ s₂ : Shared} {fp : List Addr} {P : Nat → Value → Prop} {St : Nat → Heap → Prop} (I₂ : In C (D :: mu) [D] env ρ ((D,Mlst []) :: σ) s s₂) (hA : A.handled = none) (O₁ : Ok C mu s₁) (hk₂ : ∀ b o,s₁.heap.get? b = some o → s₂.heap.get? b = some o) (hD₁ : s₁.heap.get? D = none)
  (hkind : scope.kind = .function) (hmem : ∀ x ∈ cl,x ∈ env.cells) (hcl : ∀ x c,cl.lookup x = some c → env.cells.lookup x = some c ∧ env.kindOf x ≠ some .local) (hinj : ∀ x c,cl.lookup x = some c → (cellsFrom 0 scope.names []).lookup x = none)
  (hρ : ∀ x p,ρc.lookup x = some p → ρ.lookup x = some p ∧ ((relabel scope env).names.lookup x = some .cell ∨ (relabel scope env).names.lookup x = some .free) ∧ okName x = true ∧ ∃ c,cl.lookup x = some c)
  (hturn : q1j prog w C mu A env ρc σ target elt ifs scope cl l g) (hsz : l.length ≤ 2 ^ 20) (ht : ∀ it v,letOwnedTupleGo target it v = pure ())
  (hit₀ : s.heap.get? it = none) (hmu : it ∉ mu) (htab : it ∉ C.tabs) (hH : C.H.get? it = none) (W : ∀ A' : Around,A'.handled = none → Walks prog w A' it fp [it] l.length P St) (hst : St 0 s₁.heap)
  (hobj : ∀ i h,St i h → ∃ o,h.get? it = some o ∧ w1b o) (hfp : ∀ b ∈ fp,b ≠ it → b ∉ mu ∧ b ∉ C.tabs ∧ ∃ o,s₁.heap.get? b = some o) (hP : ∀ i v,i < l.length → P i v → ∃ p,l[i]? = some p ∧ Sim s₁.heap mu p v)
  (hDs : s.heap.get? D = none)
  (k : ∀ D L s₁,Ok C mu s₁ → Kp C [] s s₁ → s.heap.get? D = none → MOAt (D :: mu) s₁.heap D (Mlst ((List.range l.length).filterMap g)) → s.heap.get? L = none → L ≠ D → L ∉ mu → (∃ m,s₁.heap.Ns L m) → compPost (model prog w) A E use Q (.ref D) L (.ok .next) s₁) :
  codeAny (model prog w) A (.compStart (.ListComp elt [⟨target,iter,ifs,0⟩] scope pos) 0 (.ref it) (.ref D) (cEnv scope cl s₂.heap.objs.size env)) (compPost (model prog w) A E use Q (.ref D) s₂.heap.objs.size) { s₂ with heap:=pushCells (s₂.heap.push { cls:=.type "dict",data:=.dict #[] }) scope.names }:=by
 generalize hLe : s₂.heap.objs.size = L
 obtain ⟨O₃,k₃,hno,hkeep,act₃⟩:=w8y (s:=s₂) (scope:=scope) (cl:=cl) (ρc:=ρc) (L:=L) (own:=cOwn scope L) I₂.ok I₂.act I₂.cells hkind hmem hcl hinj hρ hLe.symm rfl rfl
 generalize hs₃ : ({ s₂ with heap:=pushCells (s₂.heap.push { cls:=.type "dict",data:=.dict #[] }) scope.names } : Shared) = s₃ at O₃ k₃ hkeep act₃
 have itAlive : ∃ o,s₁.heap.get? it = some o:=let ⟨o,e,_⟩:=hobj 0 _ hst;⟨o,e⟩
 have itD : it ≠ D:=fun q => by obtain ⟨o,e⟩:=itAlive;rw [q,hD₁] at e;cases e
 have itOwn : it ∉ cOwn scope L:=fun q => by obtain ⟨o,e⟩:=itAlive;have:=hno it q;rw [hk₂ _ _ e] at this;cases this
 have itMu : it ∉ cOwn scope L ++ D :: mu:=fun q => by
  rcases List.mem_append.mp q with q | q
  ·exact itOwn q
  ·rcases List.mem_cons.mp q with q | q
   ·exact itD q
   ·exact hmu q
 have DOwn : D ∉ cOwn scope L:=fun q => by
  obtain ⟨o,e⟩:=(I₂.ok.live D (.head _)).2
  have:=hno D q
  rw [e] at this;cases this
 have I₃ : In C (cOwn scope L ++ D :: mu) (cOwn scope L ++ [D]) (cEnv scope cl L env) ρc ((D,Mlst []) :: σ) s s₃:=⟨O₃,act₃,(I₂.kp.trans (k₃.mono fun _ h => nomatch h)).mono fun a h => List.mem_append_right _ h,fun a h => by
   rcases List.mem_append.mp h with h | h
   ·exact List.mem_append_left _ h
   ·simp at h;subst h;exact List.mem_append_right _ (.head _),fun x hx => by
   have hx' : x ∈ cellsFrom (L + 1) scope.names cl:=hx
   rw [q0y] at hx'
   rcases List.mem_append.mp hx' with h | h
   ·exact .inl (List.mem_append_left _ (.tail _ (List.mem_map_of_mem (f:=(·.2)) h)))
   ·exact (I₂.cells x (hmem x h)).imp (List.mem_append_right _) id⟩
 have st₃ : St 0 s₃.heap:=(W A hA).frame _ _ _ hst fun b _ o e => hkeep b o (hk₂ b o e)
 have kb₃ : Kp C (it :: (cOwn scope L ++ [D])) s₁ s₃:=⟨fun b o _ _ e => hkeep b o (hk₂ b o e)⟩
 have loop : codeAny (model prog w) A (.compLoop (.ListComp elt [⟨target,iter,ifs,0⟩] scope pos) 0 (.ref it) (.ref D) (cEnv scope cl L env)) (compPost (model prog w) A E use Q (.ref D) L) s₃:=by
  refine codeAny_compLoop_tests (fun n s' => ∃ i,n = l.length - i ∧ i ≤ l.length ∧ In C (cOwn scope L ++ D :: mu) (cOwn scope L ++ [D]) (cEnv scope cl L env) ρc ((D,Mlst ((List.range i).filterMap g)) :: σ) s s' ∧ St i s'.heap ∧ Kp C (it :: (cOwn scope L ++ [D])) s₁ s') ?_ l.length ⟨0,by simp,Nat.zero_le _,I₃,st₃,kb₃⟩ (ht (.ref it))
  rintro n s' ⟨i,rfl,hil,I',st,kk⟩
  have noB : ∀ o,s'.heap.get? it = some o → NoBase o:=fun o e => by
   obtain ⟨o',e',x⟩:=hobj i _ st
   rw [e] at e';cases e';exact x.1
  by_cases hlt : i < l.length
  ·refine (W A hA).item i s' _ _ hlt st fun v h₂ tk₂ hPv st₂ hk₄ => ?_
   have hb : ∀ b o,b ≠ it → s'.heap.get? b = some o → h₂.get? b = some o:=fun b o hb e => hk₄ b o (by simpa using hb) e
   have I₄ : In C (cOwn scope L ++ D :: mu) (cOwn scope L ++ [D]) (cEnv scope cl L env) ρc ((D,Mlst ((List.range i).filterMap g)) :: σ) s { s' with heap:=h₂,toks:=tk₂ }:=I'.but hb noB itMu htab hH hit₀
   obtain ⟨p,hp,yp⟩:=hP i v hlt hPv
   obtain ⟨ρ₁,t1,t2,t3⟩:=hturn L D ((List.range i).filterMap g) i p hp
   have yp' : Sim s'.heap (cOwn scope L ++ D :: mu) p v:=yp.keeps (fun b o hb e q => by
     rcases List.mem_append.mp q with q | q
     ·have:=hno b q;rw [hk₂ _ _ e] at this;cases this
     ·rcases List.mem_cons.mp q with q | q
      ·rw [q,hD₁] at e;cases e
      ·exact hb q) fun b o hb hc e => kk.keep b o (fun q => by
     rcases List.mem_cons.mp q with rfl | q
     ·obtain ⟨o',e',x⟩:=hobj 0 _ hst
      rw [e] at e';cases e'
      rcases hc with hc | hc
      ·exact x.1.1 hc
      ·exact x.1.2.1 hc
     ·rcases List.mem_append.mp q with q | q
      ·have:=hno b q;rw [hk₂ _ _ e] at this;cases this
      ·simp at q;rw [q,hD₁] at e;cases e) (O₁.seqNotTab hc e) e
   have yp₂ : Sim h₂ (cOwn scope L ++ D :: mu) p v:=yp'.but hb noB
   -- the turn's end
   have fin : ∀ (s₇ : Shared) (zs : List PV),In C (cOwn scope L ++ D :: mu) (cOwn scope L ++ [D]) (cEnv scope cl L env) ρc ((D,Mlst zs) :: σ) { s' with heap:=h₂,toks:=tk₂ } s₇ → zs = (List.range (i + 1)).filterMap g →
     ∃ m,m < l.length - i ∧ ∃ i,m = l.length - i ∧ i ≤ l.length ∧ In C (cOwn scope L ++ D :: mu) (cOwn scope L ++ [D]) (cEnv scope cl L env) ρc ((D,Mlst ((List.range i).filterMap g)) :: σ) s s₇ ∧ St i s₇.heap ∧ Kp C (it :: (cOwn scope L ++ [D])) s₁ s₇:=fun s₇ zs I₇ hz => by
    refine ⟨l.length - (i + 1),by with_reducible exact na8,i + 1,rfl,hlt,hz ▸ I₇.after I₄.kp,?_,?_⟩
    ·refine (W A hA).frame _ _ _ st₂ fun b hbf o e => I₇.kp.keep b o (fun q => ?_) ?_ e
     ·by_cases hbi : b = it
      ·exact itMu (I₃.sub it (hbi ▸ q))
      ·obtain ⟨f1,_,o',f3⟩:=hfp b hbf hbi
       rcases List.mem_append.mp q with q | q
       ·have:=hno b q;rw [hk₂ _ _ f3] at this;cases this
       ·simp at q;rw [q,hD₁] at f3;cases f3
     ·by_cases hbi : b = it
      ·exact hbi ▸ htab
      ·exact (hfp b hbf hbi).2.1
    ·exact kk.trans (Kp.trans (s':={ s' with heap:=h₂,toks:=tk₂ }) ⟨fun b o h1 _ e => hb b o (fun q => h1 (q ▸ .head _)) e⟩ (I₇.kp.mono fun _ h => .tail _ h))
   refine wpAny_mono (t1 _ v I₄.rebase yp₂) (fun _ s₄ J₄ => ?_) fun _ _ f => f.elim
   have hstep : (List.range (i + 1)).filterMap g = (List.range i).filterMap g ++ (g i).toList:=by
    rw [List.range_succ,List.filterMap_append]
    congr 1
   cases hg : g i with
   | none =>
    rw [hg] at t3 hstep
    refine t3 s₄ J₄.ok J₄.act _ _ fun s₅ O₅ k₅ => ?_
    simp only [Bool.false_eq_true,if_false]
    exact fin s₅ _ ((J₄.next O₅ k₅).forget t2 fun _ _ h => h) (by rw [hstep];simp)
   | some z =>
    rw [hg] at t3 hstep
    refine t3.1 s₄ J₄.ok J₄.act _ _ fun s₅ O₅ k₅ => ?_
    rw [if_pos rfl]
    have J₅:=J₄.next O₅ k₅
    refine t3.2 s₅ J₅.ok J₅.act _ _ fun v' s₆ O₆ k₆ y₆ => ?_
    have J₆:=J₅.next O₆ k₆
    obtain ⟨hDm,_,vs,n,hol,hvs⟩:=J₆.act.st D (Mlst ((List.range i).filterMap g)) (by simp [List.lookup_cons])
    have hlen : vs.length ≤ i:=by
     rw [hvs.length]
     exact Nat.le_trans (List.length_filterMap_le _ _) (by simp)
    have hS : sizeLine = 2 ^ 24:=by decide +kernel
    refine wpAny_list_append_plain (hsz:=by simp;lia) ⟨n,hol⟩ fun h₇ hpl hsb => ?_
    obtain ⟨n',e'⟩:=hpl
    have up : ∀ {l : List PV} {vs : List Value},Sims s₆.heap (cOwn scope L ++ D :: mu) l vs → Sims h₇ (cOwn scope L ++ D :: mu) l vs:=fun y => y.keeps (fun _ _ z _ => z) fun b o hb _ e => hsb.extBut b o (fun q => hb (q ▸ hDm)) e
    have J₇:=J₆.mut (tk:=s₆.toks) (a:=D) (m:=Mlst ((List.range i).filterMap g)) (m':=Mlst ((List.range i).filterMap g ++ [z])) (by simp [List.lookup_cons]) (List.mem_append_right _ (.head _)) hsb.extBut ⟨vs ++ [v'],n',by rw [e'];simp,(up hvs).append (up ⟨_,_,rfl,y₆,rfl⟩)⟩
    refine fin _ ((List.range i).filterMap g ++ [z]) (J₇.forget t2 fun b m hm => ?_) (by rw [hstep];rfl)
    rw [List.lookup_cons] at hm ⊢
    cases hbD : b == D with
    | true => rw [hbD] at hm;exact hm
    | false => rw [hbD] at hm;rw [List.lookup_cons,hbD];exact hm
  ·have hie : i = l.length:=Nat.le_antisymm hil (Nat.le_of_not_lt hlt)
   subst hie
   refine (W A hA).done s' _ _ st fun h₂ tk₂ hk₄ => ?_
   have hb : ∀ b o,b ≠ it → s'.heap.get? b = some o → h₂.get? b = some o:=fun b o hb e => hk₄ b o (by simpa using hb) e
   have I₄ : In C (cOwn scope L ++ D :: mu) (cOwn scope L ++ [D]) (cEnv scope cl L env) ρc ((D,Mlst ((List.range l.length).filterMap g)) :: σ) s { s' with heap:=h₂,toks:=tk₂ }:=I'.but hb noB itMu htab hH hit₀
   have hLs : ∀ b ∈ cOwn scope L,s.heap.get? b = none:=fun b hb => I₂.unborn (hno b hb)
   refine k D L _ (I₄.ok.sub fun b h => List.mem_append_right _ (.tail _ h)) ⟨fun b o _ htb e => I₄.kp.keep b o (fun q => ?_) htb e⟩ hDs ?_ (hLs L (.head _)) (fun q => DOwn (q ▸ .head _)) (fun q => ?_) ?_
   ·rcases List.mem_append.mp q with q | q
    ·rw [hLs b q] at e;cases e
    ·simp at q;rw [q,hDs] at e;cases e
   ·exact (I₄.act.st D _ lookup0).2.2.keeps (fun _ e => e) (fun c o hc _ q => hc (List.mem_append_right _ q)) fun _ _ _ _ e => e
   ·obtain ⟨o,e⟩:=(I₂.ok.live L (.tail _ q)).2
    rw [hno L (.head _)] at e;cases e
   ·obtain ⟨m,hn,_⟩:=I₄.act.ns
    exact ⟨m,hn⟩
 refine codeAny_compStart_list loop ((W A hA).self 0 s₃ _ _ st₃ loop)
private theorem w0v {elt target iter : Expr} {ifs : List Expr} {scope : Scope} {pos pos' : Pos} {cl : List (PySem.Str × Addr)} {ρc : List (PySem.Str × PV)} {l : List PV} {g : Nat → Option PV} {use : Option (Value → Sem Unit)} {Q : Value → Shared → Prop}
  (O : Ok C mu s) (a : Act env mu s.heap ρ σ) (hal : ∀ x ∈ env.cells,x.2 ∈ mu ∨ ∃ o,C.H.get? x.2 = some o) (hA : A.handled = none) (hi : IterE prog w C mu A env ρ σ iter l)
  (hclos : closureFor scope env = pure cl) (hkind : scope.kind = .function) (hnames : ∀ x ∈ scope.names,x.2 = .local → scope.names.lookup x.1 = some .local)
  (hmem : ∀ x ∈ cl,x ∈ env.cells) (hcl : ∀ x c,cl.lookup x = some c → env.cells.lookup x = some c ∧ env.kindOf x ≠ some .local) (hinj : ∀ x c,cl.lookup x = some c → (cellsFrom 0 scope.names []).lookup x = none)
  (hρ : ∀ x p,ρc.lookup x = some p → ρ.lookup x = some p ∧ ((relabel scope env).names.lookup x = some .cell ∨ (relabel scope env).names.lookup x = some .free) ∧ okName x = true ∧ ∃ c,cl.lookup x = some c)
  (hturn : q1j prog w C mu A env ρc σ target elt ifs scope cl l g) (hsz : l.length ≤ 2 ^ 20) (ht : ∀ it v,letOwnedTupleGo target it v = pure ())
  (k : ∀ D L s₁,Ok C mu s₁ → Kp C [] s s₁ → s.heap.get? D = none → MOAt (D :: mu) s₁.heap D (Mlst ((List.range l.length).filterMap g)) → s.heap.get? L = none → L ≠ D → L ∉ mu → (∃ m,s₁.heap.Ns L m) → compPost (model prog w) A E use Q (.ref D) L (.ok .next) s₁)
  (hs : ∀ x,foldedSetIterable iter env x = pure x) : wpAny (model prog w) A (comprehension (.ListComp elt [⟨target,iter,ifs,0⟩] scope pos) scope env pos' (newList []) false (eval iter env) use) Q E s:=by
 refine wpAny_comprehension_free rfl hs hclos hkind hnames (hi s O a _ _ fun it s₁ fp P St O₁ k₁ hit₀ hmu htab W hst hobj hfp hP => ?_)
 have h00:=hit₀
 have hH:=O.unborn hit₀
 have I₁ : In C mu [] env ρ σ s s₁:=⟨O₁,a.kp O k₁,k₁,(fun _ h => nomatch h),hal⟩
 refine wpAny_newObj_type ?_
 have hnew:=Ok.size_none s₁
 refine w8l (z1v (D:=s₁.heap.objs.size) (s₂:={ s₁ with heap:=s₁.heap.push { cls:=.type "list",data:=.seq (List.toArray []) 0 },toks:=s₁.toks })
  (I₁.grow (O₁.push (tk:=s₁.toks)) (Kp.of_keep (tk:=s₁.toks) fun b o e => Heap.get?_push_of_some _ e) hnew (m:=Mlst []) ⟨[],0,Heap.get?_push_size _ rfl,rfl⟩ (Heap.get?_push_size _ rfl) (fun vs q => nomatch q)) hA O₁ (fun b o e => Heap.get?_push_of_some _ e) hnew
  hkind hmem hcl hinj hρ hturn hsz ht hit₀ hmu htab hH W hst hobj hfp hP (I₁.unborn hnew) k)
end
end
section
open PySem PySem.W PySem.Calls PyProof.Rows
variable {prog : Program} {w : World}
noncomputable def NoSeq (o : Obj) : Prop:=(∀ vs n,o.data ≠ .seq vs n) ∧ ∀ vs,o.data ≠ .fields vs
mutual
private theorem Sim.keepsD {h h' : Heap} {mu : List Addr} {it : Addr} (hk : ∀ b o,b ≠ it → h.get? b = some o → h'.get? b = some o) (hn : ∀ o,h.get? it = some o → NoSeq o) : ∀ {p : PV} {v : Value},Sim h mu p v → Sim h' mu p v
 | .none,_,x => x
 | .bool _,_,x => x
 | .int _,_,x => x
 | .str _,_,x => x
 | .val _,_,x => x
 | .tup l,_,⟨a,vs,n,e,ha,ho,hs⟩ => ⟨a,vs,n,e,ha,hk _ _ (fun q => (hn _ (q ▸ ho)).1 _ _ rfl) ho,Sims.keepsD hk hn hs⟩
 | .lst l,_,⟨a,vs,n,e,ha,ho,hs⟩ => ⟨a,vs,n,e,ha,hk _ _ (fun q => (hn _ (q ▸ ho)).1 _ _ rfl) ho,Sims.keepsD hk hn hs⟩
private theorem Sims.keepsD {h h' : Heap} {mu : List Addr} {it : Addr} (hk : ∀ b o,b ≠ it → h.get? b = some o → h'.get? b = some o) (hn : ∀ o,h.get? it = some o → NoSeq o) : ∀ {l : List PV} {vs : List Value},Sims h mu l vs → Sims h' mu l vs
 | [],_,x => x
 | _ :: _,_,⟨v,r,e,x,y⟩ => ⟨v,r,e,Sim.keepsD hk hn x,Sims.keepsD hk hn y⟩
end
section
variable {C : Cfg} {mu mu' nu : List Addr} {s₀ s s' : Shared} {env : Env} {ρ : List (PySem.Str × PV)} {σ σ' : List (Addr × MO)} {A : Around} {E : Value → Shared → Prop}
private theorem Ns.noSeq {h : Heap} {L : Addr} {m : PySem.Str → Option Value} (hn : h.Ns L m) : ∀ o,h.get? L = some o → NoSeq o:=fun o e => by
 obtain ⟨o',es,ep,e',hd,_⟩:=hn
 rw [e] at e';cases e'
 refine ⟨fun vs n q => ?_,fun vs q => ?_⟩
 ·rw [hd] at q;cases q
 ·rw [hd] at q;cases q
private theorem Ok.butD {it : Addr} {h' : Heap} {tk : Nat} (O : Ok C mu s) (hk : ∀ b o,b ≠ it → s.heap.get? b = some o → h'.get? b = some o) (hn : ∀ o,s.heap.get? it = some o → NoSeq o) (h1 : it ∉ mu) (h2 : it ∉ C.tabs) (h3 : C.H.get? it = none) : Ok C mu { s with heap:=h',toks:=tk } where
 old:=fun b o e ht => hk b o (fun q => by rw [q,h3] at e;cases e) (O.old b o e ht)
 tab:=fun x hx => by
  obtain ⟨ps,a,b,c⟩:=O.tab x hx
  refine ⟨ps,hk _ _ (fun q => h2 (q ▸ List.mem_map_of_mem hx)) a,b,fun pos c' e => ?_⟩
  obtain ⟨d,e1,e2,e3⟩:=c pos c' e
  refine ⟨d,e1,e2,?_⟩
  obtain ⟨c₁,o,vs,t,f1,f2,f3,f4⟩:=e3
  subst e1
  cases f1
  exact ⟨_,o,vs,t,rfl,hk _ _ (fun q => by rw [q] at f2;exact (hn o f2).2 vs f3) f2,f3,f4⟩
 code:=O.code
 live:=fun a ha => ⟨(O.live a ha).1,let ⟨o,e⟩:=(O.live a ha).2;⟨o,hk a o (fun (q : a = it) => h1 (q ▸ ha)) e⟩⟩
 gens:=O.gens
 os:=O.os
 kin:=O.kin
 kt:=O.kt
 lim:=O.lim
 glob:=O.glob
 bmod:=O.bmod
private theorem z0d {elt target iter : Expr} {ifs : List Expr} {scope : Scope} {pos : Pos} {cl : List (PySem.Str × Addr)} {ρc : List (PySem.Str × PV)} {l : List PV} {g : Nat → Option PV}
  (hal : ∀ x ∈ env.cells,x.2 ∈ mu ∨ ∃ o,C.H.get? x.2 = some o) (hA : A.handled = none) (hi : IterE prog w C mu A env ρ σ iter l)
  (hclos : closureFor scope env = pure cl) (hkind : scope.kind = .function) (hnames : ∀ x ∈ scope.names,x.2 = .local → scope.names.lookup x.1 = some .local)
  (hmem : ∀ x ∈ cl,x ∈ env.cells) (hcl : ∀ x c,cl.lookup x = some c → env.cells.lookup x = some c ∧ env.kindOf x ≠ some .local) (hinj : ∀ x c,cl.lookup x = some c → (cellsFrom 0 scope.names []).lookup x = none)
  (hρ : ∀ x p,ρc.lookup x = some p → ρ.lookup x = some p ∧ ((relabel scope env).names.lookup x = some .cell ∨ (relabel scope env).names.lookup x = some .free) ∧ okName x = true ∧ ∃ c,cl.lookup x = some c)
  (hturn : q1j prog w C mu A env ρc σ target elt ifs scope cl l g) (hsz : l.length ≤ 2 ^ 20) (ht : ∀ it v,letOwnedTupleGo target it v = pure ()) (hs : ∀ x,foldedSetIterable iter env x = pure x) :
  PurNE prog w C mu A env ρ σ (.ListComp elt [⟨target,iter,ifs,0⟩] scope pos) ((List.range l.length).filterMap g):=fun s O a Q E k => by
 rw [eval_ListComp]
 refine w0v (use:=none) O a hal hA hi hclos hkind hnames hmem hcl hinj hρ hturn hsz ht (fun D L s₁ O₁ k₁ hD hm hL hLD hLmu hns => ?_) hs
 obtain ⟨m,hns⟩:=hns
 refine ⟨m,hns,fun h' hsb => ?_⟩
 have hn:=Ns.noSeq hns
 have hLalive : ∃ o,s₁.heap.get? L = some o:=let ⟨o,_,_,e,_⟩:=hns;⟨o,e⟩
 have hf:=O.fresh' hL
 have hbut : ∀ b o,b ≠ L → s₁.heap.get? b = some o → h'.get? b = some o:=fun b o hb e => hsb.extBut b o hb e
 have O₂ : Ok C mu { s₁ with heap:=h',toks:=s₁.toks }:=O₁.butD hbut hn hLmu hf.1 (O.unborn hL)
 obtain ⟨vs,n,ho,hv⟩:=hm
 exact k D _ O₂ ⟨fun b o hb htb e => hbut b o (fun q => by rw [q,hL] at e;cases e) (k₁.keep b o hb htb e)⟩ hD ⟨vs,n,hbut _ _ (Ne.symm hLD) ho,hv.keepsD hbut hn⟩
end
end
section
open PySem PySem.W PySem.Calls PyProof.Rows
variable {prog : Program} {w : World}
section
variable {C : Cfg} {mu mu' nu : List Addr} {s₀ s s' : Shared} {env : Env} {ρ : List (PySem.Str × PV)} {σ σ' : List (Addr × MO)} {A : Around} {E : Value → Shared → Prop}
noncomputable def q2r (prog : Program) (w : World) (C : Cfg) (mu : List Addr) (A : Around) (env : Env) (ρ : List (PySem.Str × PV)) (σ : List (Addr × MO)) (e : Option Expr) (i : Option Int) : Prop:=
 match e,i with
 | none,none => True
 | some e,some i => PurE prog w C mu A env ρ σ e (.int i)
 | _,_ => False
private theorem q5d {e : Option Expr} {i : Option Int} {Q : Value → Shared → Prop} (h : q2r prog w C mu A env ρ σ e i) (O : Ok C mu s) (a : Act env mu s.heap ρ σ)
  (k : ∀ v s',Ok C mu s' → Kp C [] s s' → IsPart v i → Q v s') : wpAny (model prog w) A (evalPart e env) Q E s:=by
 cases e with
 | none =>
  cases i with
  | none => rw [evalPart_none];exact wpAny_pure (k _ s O .refl .none)
  | some i => exact h.elim
 | some e =>
  cases i with
  | none => exact h.elim
  | some i =>
   rw [evalPart_some]
   exact h s O a _ _ fun v s' O' k' y => by obtain ⟨t,rfl⟩:=y;exact k _ s' O' k' (.int i t)
noncomputable def w2k (l : List PV) (lo hi : Option Int) : List PV:=(sliceRange (sliceBounds lo hi none l.length).1 (sliceBounds lo hi none l.length).2.1 (sliceBounds lo hi none l.length).2.2).filterMap (l[·]?)
private theorem Sims.pick {h : Heap} {l : List PV} {vs : List Value} (y : Sims h mu l vs) : ∀ (is : List Nat),Sims h mu (is.filterMap (l[·]?)) (is.filterMap (vs[·]?))
 | [] => rfl
 | i :: is => by
  have ih:=Sims.pick y is
  cases hi : l[i]? with
  | none =>
   have : vs[i]? = none:=by
    rw [List.getElem?_eq_none_iff] at hi ⊢
    rw [y.length];exact hi
   rw [List.filterMap_cons,List.filterMap_cons]
   simp only [hi,this]
   exact ih
  | some p =>
   obtain ⟨v,e,z⟩:=y.get i p hi
   rw [List.filterMap_cons,List.filterMap_cons]
   simp only [hi,e]
   exact ⟨_,_,rfl,z,ih⟩
private theorem q5o {x y : PySem.Str} (hsz : x.length + y.length ≤ 2 ^ 20) : Op2 prog w C mu A (binaryOp .Add) (.str x) (.str y) (.str (x ++ y)):=fun s a b O ⟨t,ha⟩ ⟨u,hb⟩ => by
 subst ha hb
 have hS : sizeLine = 2 ^ 24:=by decide +kernel
 exact Pur.here O fun Q E k => PyProof.Rows.add_str (fun t' tk => k _ tk ⟨t',rfl⟩) (by (with_reducible refine nad ?_;decide))
private theorem w0a {x y : PySem.Str} : Op2 prog w C mu A (compareOp .Eq) (.str x) (.str y) (.bool (x == y)):=fun s a b O ⟨t,ha⟩ ⟨u,hb⟩ => by
 subst ha hb
 exact Pur.here O fun Q E k => PyProof.Rows.eq_str (k _ s.toks rfl)
private theorem w4b {x y : PySem.Str} : Op2 prog w C mu A (compareOp .NotEq) (.str x) (.str y) (.bool (x != y)):=fun s a b O ⟨t,ha⟩ ⟨u,hb⟩ => by
 subst ha hb
 exact Pur.here O fun Q E k => PyProof.Rows.ne_str (k _ s.toks rfl)
private theorem q8f {h : Heap} : ∀ {ys : List PySem.Str} {vs : List Value},Sims h mu (ys.map .str) vs → StrsAre vs ys
 | [],_,x => by cases (show _ = [] from x);exact .nil
 | y :: ys,_,⟨v,r,e,⟨t,hv⟩,z⟩ => by subst e hv;exact StrsAre.cons y t (q8f z)
private theorem w4f {x : PySem.Str} {name : PySem.Str} (hn : name = PySem.Str.ofString "join") : Meth prog w C mu A (.str x) name "str.join":=fun pl s v Q E O ⟨t,hv⟩ k => by
 subst hv hn
 exact getMethod_builtin (typeIs_str s x t) PySem.F.plainAttrs_str PySem.F.slot_str_join PySem.F.type_str_join (fun b e => by cases e) k
private theorem q6h (ns : List Int) : ∀ k,k ≤ ns.length → preSum (fun i => ns.getD i 0) k = (ns.take k).sum
 | 0,_ => by simp [preSum]
 | k + 1,h => by
  have hk : k < ns.length:=h
  simp only [preSum,q6h ns k (Nat.le_of_succ_le h)]
  rw [List.take_succ_eq_append_getElem hk,List.sum_append]
  simp [List.getD_eq_getElem?_getD,hk]
private theorem op_sum {ns : List Int} (hA : A.handled = none) (hsz : ns.length ≤ 2 ^ 20) : OpL prog w C mu A (fun vs => call (.builtin "sum") vs) [.lst (ns.map .int)] (.int ns.sum):=fun s vs O hy => by
 obtain ⟨v,r,rfl,⟨b,ws,n,rfl,hb,ho,hv⟩,hr⟩:=hy
 cases (show r = [] from hr)
 intro Q E k
 have hlen : ws.toArray.size = ns.length:=by simp [hv.length]
 have hl : s.heap.IsList b ws.toArray:=⟨_,ho,rfl,n,rfl⟩
 have hne : b ≠ s.heap.objs.size:=fun q => by rw [q,Ok.size_none] at ho;cases ho
 refine call_sum_walkG (wpAny_pyIter_list hl ⟨s.heap.objs.size,_,_,ws.toArray.size,_,_,fun i => ns.getD i 0,rfl,Walks.list (show A.in1.handled = none from hA) _ b hne ws.toArray,⟨⟨_,Heap.get?_push_size _ rfl,rfl,rfl⟩,hl.push _⟩,fun c hc => ?_,fun i v hP => ?_,fun h' tk t' hk => ?_⟩)
 ·simp at hc
  rw [Heap.size_push]
  rcases hc with rfl | rfl
  ·exact Nat.lt_succ_self _
  ·exact Nat.lt_succ_of_lt (Heap.lt_size ho)
 ·have hPi : ws[i]? = some v:=by simpa using hP
  have hi : i < ns.length:=by
   have:=(List.getElem?_eq_some_iff.mp hPi).1
   rw [hv.length,List.length_map] at this
   exact this
  obtain ⟨u,e1,t,e2⟩:=hv.get i (.int ns[i]) (by simp [hi])
  rw [hPi] at e1;cases e1
  exact ⟨t,by rw [e2];simp [List.getD_eq_getElem?_getD,hi]⟩
 ·have hkk : ∀ c o,s.heap.get? c = some o → h'.get? c = some o:=fun c o e => hk c o (by simp;exact fun q => by rw [q,Ok.size_none] at e;cases e) (Heap.get?_push_of_some _ e)
  rw [hlen,q6h ns _ (Nat.le_refl _),List.take_length]
  exact k _ _ (O.keep hkk) (Kp.of_keep hkk) ⟨t',rfl⟩
end
end
section
open PySem PySem.W PySem.Calls PyProof.Rows
variable {prog : Program} {w : World}
section
variable {C : Cfg} {mu mu' nu : List Addr} {s₀ s s' : Shared} {env : Env} {ρ : List (PySem.Str × PV)} {σ σ' : List (Addr × MO)} {A : Around} {E : Value → Shared → Prop}
private theorem MOAt.keepsD {h h' : Heap} {a it : Addr} {m : MO} (x : MOAt mu h a m) (ha : a ≠ it) (hk : ∀ b o,b ≠ it → h.get? b = some o → h'.get? b = some o) (hn : ∀ o,h.get? it = some o → NoSeq o) : MOAt mu h' a m:=by
 cases m with
 | seq c d l => obtain ⟨vs,n,e,y⟩:=x;exact ⟨vs,n,hk _ _ ha e,y.keepsD hk hn⟩
 | raw o => exact hk _ _ ha x
private theorem Act.butD {it : Addr} {h' : Heap} (a : Act env mu s.heap ρ σ) (hk : ∀ b o,b ≠ it → s.heap.get? b = some o → h'.get? b = some o) (hn : ∀ o,s.heap.get? it = some o → NoSeq o) (h1 : it ∉ mu) : Act env mu h' ρ σ where
 st:=fun b m e => let ⟨x1,x2,x3⟩:=a.st b m e;⟨x1,x2,x3.keepsD (fun (q : b = it) => h1 (q ▸ x1)) hk hn⟩
 kind:=a.kind
 gl:=a.gl
 bi:=a.bi
 loc:=a.loc
 ns:=by
  obtain ⟨m,⟨o,es,ep,ho,r⟩,hv⟩:=a.ns
  exact ⟨m,⟨o,es,ep,hk _ _ (fun q => h1 (q ▸ a.loc)) ho,r⟩,fun x p e1 e2 => let ⟨v,e,y⟩:=hv x p e1 e2;⟨v,e,y.keepsD hk hn⟩⟩
 kinds:=a.kinds
 cell:=fun x c hx hl hc => by
  obtain ⟨x1,x2,ov,⟨o,ho,hd⟩,x4⟩:=a.cell x c hx hl hc
  exact ⟨x1,x2,ov,⟨o,hk _ _ (fun q => h1 (q ▸ x1)) ho,hd⟩,fun p hp => let ⟨v,e,y⟩:=x4 p hp;⟨v,e,y.keepsD hk hn⟩⟩
 plain:=a.plain
 inj:=a.inj
private theorem In.butD {it : Addr} {h' : Heap} {tk : Nat} (I : In C mu nu env ρ σ s₀ s) (hk : ∀ b o,b ≠ it → s.heap.get? b = some o → h'.get? b = some o) (hn : ∀ o,s.heap.get? it = some o → NoSeq o) (h1 : it ∉ mu) (h2 : it ∉ C.tabs) (h3 : C.H.get? it = none) (h4 : s₀.heap.get? it = none) :
  In C mu nu env ρ σ s₀ { s with heap:=h',toks:=tk }:=
 ⟨I.ok.butD hk hn h1 h2 h3,I.act.butD hk hn h1,⟨fun b o hb ht e => hk b o (fun q => by rw [q,h4] at e;cases e) (I.kp.keep b o hb ht e)⟩,I.sub,I.cells⟩
private theorem w2g {y : PySem.Str} {py spos : Pos} {elt target iter : Expr} {ifs : List Expr} {scope : Scope} {pos : Pos} {cl : List (PySem.Str × Addr)} {ρc : List (PySem.Str × PV)} {l : List PV} {g : Nat → Option PV} {Q : Flow → Shared → Prop}
  (I : In C mu nu env ρ σ s₀ s) (hy : StOk env nu y) (hA : A.handled = none) (hi : IterE prog w C mu A env ρ σ iter l) (hsw : swapsWith (.ListComp elt [⟨target,iter,ifs,0⟩] scope pos) (some (.Name y py)) spos.line env = pure true)
  (hclos : closureFor scope env = pure cl) (hkind : scope.kind = .function) (hnames : ∀ x ∈ scope.names,x.2 = .local → scope.names.lookup x.1 = some .local)
  (hmem : ∀ x ∈ cl,x ∈ env.cells) (hcl : ∀ x c,cl.lookup x = some c → env.cells.lookup x = some c ∧ env.kindOf x ≠ some .local) (hinj : ∀ x c,cl.lookup x = some c → (cellsFrom 0 scope.names []).lookup x = none)
  (hρ : ∀ x p,ρc.lookup x = some p → ρ.lookup x = some p ∧ ((relabel scope env).names.lookup x = some .cell ∨ (relabel scope env).names.lookup x = some .free) ∧ okName x = true ∧ ∃ c,cl.lookup x = some c)
  (hturn : q1j prog w C mu A env ρc σ target elt ifs scope cl l g) (hsz : l.length ≤ 2 ^ 20) (ht : ∀ it v,letOwnedTupleGo target it v = pure ()) (hs : ∀ x,foldedSetIterable iter env x = pure x)
  (k : ∀ s',In C mu nu env ((y,.lst ((List.range l.length).filterMap g)) :: ρ) σ s₀ s' → Q .next s') : wpAny (model prog w) A (exec (.Assign [.Name y py] (.ListComp elt [⟨target,iter,ifs,0⟩] scope pos) spos) env) Q E s:=by
 rw [exec_Assign_Name_used _ _ _ _ hsw]
 refine wpAny_bind (wpAny_standAt (wpAny_bind ?_))
 show wpAny _ A (do let _ ← comprehension (.ListComp elt [⟨target,iter,ifs,0⟩] scope pos) scope env _ (newList []) false (eval iter env) (some (assign (.Name y py) env))) _ _ s
 refine wpAny_bind (wpAny_mono (w0v (use:=some (assign (.Name y py) env)) (Q:=fun _ s' => Q .next s') I.ok I.act I.cells hA hi hclos hkind hnames hmem hcl hinj hρ hturn hsz ht (fun D L s₁ O₁ k₁ hD hm hL hLD hLmu hns => ?_) hs) (fun _ s' hq => wpAny_pure (wpAny_pure hq)) fun _ _ e => e)
 show wpAny _ A (assign (.Name y py) env (.ref D)) _ _ _
 have I₁:=I.next O₁ k₁
 obtain ⟨vs,n,ho,hv⟩:=hm
 have hf:=I.ok.fresh' hL
 have yv : Sim s₁.heap mu (.lst ((List.range l.length).filterMap g)) (.ref D):=⟨D,vs,n,rfl,(I.ok.fresh' hD).2,ho,hv.sub fun _ h => .tail _ h⟩
 refine wpAny_assign_Name (q3l I₁ hy yv fun s₂ I₂ k₂ => ?_)
 obtain ⟨m,o,es,ep,hLo,r⟩:=hns
 have hns₂ : s₂.heap.Ns L m:=⟨o,es,ep,k₂.keep _ _ (fun q => hLmu (I.sub L q)) hf.1 hLo,r⟩
 exact ⟨m,hns₂,fun h' hsb => k _ (I₂.butD (tk:=s₂.toks) (fun b o hb e => hsb.extBut b o hb e) (Ns.noSeq hns₂) hLmu hf.1 (I.ok.unborn hL) (I.unborn hL))⟩
end
end
section
open PySem PySem.W PySem.Calls PyProof.Rows
variable {prog : Program} {w : World}
section
variable {C : Cfg} {mu mu' nu : List Addr} {s₀ s s' : Shared} {env : Env} {ρ : List (PySem.Str × PV)} {σ σ' : List (Addr × MO)} {A : Around} {E : Value → Shared → Prop}
private theorem w8m {x : PySem.Str} {name : PySem.Str} (hn : name = PySem.Str.ofString "count") : Meth prog w C mu A (.str x) name "str.count":=fun pl s v Q E O ⟨t,hv⟩ k => by
 subst hv hn
 exact getMethod_builtin (typeIs_str s x t) PySem.F.plainAttrs_str PySem.F.slot_str_count PySem.F.type_str_count (fun b e => by cases e) k
private theorem op_count {x y : PySem.Str} : OpL prog w C mu A (fun vs => call (.builtin "str.count") vs) [.str x,.str y] (.int (PySem.Txt.count x y)):=fun s vs O hy => by
 obtain ⟨v,r,rfl,⟨t,rfl⟩,v₂,r₂,rfl,⟨t₂,rfl⟩,hr⟩:=hy
 cases (show r₂ = [] from hr)
 exact Pur.here O fun Q E k => SC.count (k _ _ ⟨_,rfl⟩)
private theorem w1m {x : PySem.Str} {name : PySem.Str} (hn : name = PySem.Str.ofString "split") : Meth prog w C mu A (.str x) name "str.split":=fun pl s v Q E O ⟨t,hv⟩ k => by
 subst hv hn
 exact getMethod_builtin (typeIs_str s x t) PySem.F.plainAttrs_str PySem.F.slot_str_split PySem.F.type_str_split (fun b e => by cases e) k
end
end
section
open PySem PySem.W PySem.Calls PyProof.Rows
variable {prog : Program} {w : World}
section
variable {C : Cfg} {mu mu' nu : List Addr} {s₀ s s' : Shared} {env : Env} {ρ : List (PySem.Str × PV)} {σ σ' : List (Addr × MO)} {A : Around} {E : Value → Shared → Prop}
noncomputable def sSlice (x : PySem.Str) (lo hi : Option Int) : PySem.Str:=
 if (Builtin.Str.strSliceIndices lo hi 1 x.length).length == x.length then x else ⟨((Builtin.Str.strSliceIndices lo hi 1 x.length).filterMap (x.cps[·]?)).toArray⟩
private theorem partS {e : Option Expr} {i : Option Int} {Q : Value → Shared → Prop} (h : q2r prog w C mu A env ρ σ e i) (O : Ok C mu s) (a : Act env mu s.heap ρ σ)
  (k : ∀ (q : Option (Int × Tok)) s',Ok C mu s' → Kp C [] s s' → q.map (·.1) = i → Q (partValue q) s') : wpAny (model prog w) A (evalPart e env) Q E s:=
 q5d h O a fun v s' O' k' p => by
  cases p with
  | none => exact k none s' O' k' rfl
  | int i t => exact k (some (i,t)) s' O' k' rfl
end
end
section
open PySem PySem.W PySem.Calls PyProof.Rows
variable {prog : Program} {w : World}
noncomputable abbrev subO (c : Value) (d : Option Addr) (items : Array Value) (n : Nat) : Obj:={ cls:=c,dict:=d,data:=.seq items n,slots:=#[] }
private theorem w7t (c : Value) (d : Option Addr) (l : Addr) (items : Array Value) (n : Nat) (x : Value) (hsz : items.size ≤ sizeLine) :
  Meets (Builtin.«list.append» ⟨[.ref l,x],[]⟩) (fun _ R s => s.heap.get? l = some (subO c d items n) ∧ R (.ok (.ret Value.none)) { s with heap:=s.heap.update l (Obj.mapSeq fun x_1 => x_1.push x),toks:=s.toks }):=
 .of_wp fun prog w A R s h => by
  obtain ⟨hp,g,d,tk,os⟩:=s;obtain ⟨hl,h⟩:=h
  have hz' : (items.push x).size ≤ sizeLine + 1:=by rw [Array.size_push];lia
  wp_walk using (wpAny_updateSeq hl rfl (hz:=hsz) (_hz':=hz'));exact ⟨_,rfl,h⟩
private theorem sub_len (c : Value) (d : Option Addr) (l : Addr) (items : Array Value) (n : Nat) :
  Meets (Builtin.«list.__len__» ⟨[.ref l],[]⟩) (fun _ R s => s.heap.get? l = some (subO c d items n) ∧ R (.ok (.ret (.int items.size s.toks))) { s with toks:=s.toks + 1 }):=
 .of_wp fun prog w A R s h => by
  obtain ⟨hp,g,d,tk,os⟩:=s;obtain ⟨hl,h⟩:=h
  wp_walk;exact ⟨_,rfl,h⟩
private theorem sub_pop (c : Value) (d : Option Addr) (l : Addr) (items : Array Value) (n : Nat) (v : Value) (hsz : items.size + 1 ≤ sizeLine) :
  Meets (Builtin.«list.pop» ⟨[.ref l],[]⟩) (fun _ R s => s.heap.get? l = some (subO c d (items.push v) n) ∧ R (.ok (.ret v)) { s with heap:=s.heap.update l (Obj.mapSeq fun x_1 => x_1.eraseIdxIfInBounds items.size) }):=
 .of_wp fun prog w A R s h => by
  obtain ⟨hp,g,d,tk,os⟩:=s;obtain ⟨hl,h⟩:=h
  have hz' : ((items.push v).eraseIdxIfInBounds items.size).size ≤ sizeLine + 1:=by
   unfold Array.eraseIdxIfInBounds
   split
   ·rw [Array.size_eraseIdx,Array.size_push];lia
   ·rw [Array.size_push];(with_reducible refine nad ?_;decide)
  have hz : (items.push v).size ≤ sizeLine:=by rw [Array.size_push];assumption
  have e : (seqIndex? (-1) (items.push v).size).bind (fun k => Option.map (fun x => (k,x)) (items.push v)[k]?) = some (items.size,v):=by
   have : seqIndex? (-1) (items.push v).size = some items.size:=by
    unfold seqIndex?
    rw [Array.size_push]
    simp
    lia
   rw [this]
   simp
  wp_walk using (wpAny_updateSeq hl rfl (hz:=hz) (_hz':=hz'))
  rw [e]
  wp_walk using (wpAny_updateSeq hl rfl (hz:=hz) (_hz':=hz'))
  all_goals exact ⟨_,rfl,h⟩
private theorem sub_init (c : Value) (d : Option Addr) (l : Addr) (n : Nat) :
  Meets (Builtin.«list.__init__» ⟨[.ref l],[]⟩) (fun _ R s => s.heap.get? l = some (subO c d #[] n) ∧ R (.ok (.ret .none)) { s with heap:=s.heap.update l (Obj.mapSeq fun _ => #[]) }):=
 .of_wp fun prog w A R s h => by
  obtain ⟨hp,g,d,tk,os⟩:=s;obtain ⟨hl,h⟩:=h
  have hz : (#[] : Array Value).size ≤ sizeLine:=Nat.zero_le _
  have hz' : (#[] : Array Value).size ≤ sizeLine + 1:=Nat.zero_le _
  wp_walk using (wpAny_updateSeq hl rfl (hz:=hz) (_hz':=hz'))
  all_goals exact ⟨_,rfl,h⟩
private theorem w9q (c : Value) (d : Option Addr) (l : Addr) (items : Array Value) (n : Nat) (k : Int) (t : Tok) (v : Value) (h0 : 0 ≤ k) (hv : items[k.toNat]? = some v) (hfit : Builtin.List.listFitsIndex k = true) :
  Meets (Builtin.«list.__getitem__» ⟨[.ref l,.int k t],[]⟩) (fun _ R s => s.heap.get? l = some (subO c d items n) ∧ R (.ok (.ret v)) s):=
 .of_wp fun prog w A R s h => by
  obtain ⟨hl,h⟩:=h
  show wpAny _ _ (Builtin.List.listSubscript? (.int k t) >>= _) _ _ s
  refine wpAny_bind (wpAny_listSubscript_int hfit ?_)
  clear hfit
  obtain ⟨j,rfl⟩:=Int.eq_ofNat_of_zero_le h0
  have hx' : items[j]? = some v:=hv
  show wpAny _ _ ((seqItemAt l j >>= fun r => pure (r.map (j,·))) >>= _) _ _ s
  refine wpAny_bind (wpAny_bind (wpAny_seqItemAt hl rfl (wpAny_pure ?_)))
  rw [hx']
  first
  | exact wpAny_bind (wpAny_pure (wpAny_pure ⟨_,rfl,h⟩))
  | exact wpAny_pure ⟨_,rfl,h⟩
private theorem q9e {M : Model} {A : Around} {E : Value → Shared → Prop} {s : Shared} {sl : Addr} {vl vu vs : Value} {Q : Option Int → Shared → Prop} (hs : s.heap.IsSliceOf sl vl vu vs) (h : Q none s) : wpAny M A (Builtin.List.listSubscript? (.ref sl)) Q E s:=by
 obtain ⟨os,hos,hcs,hds⟩:=id hs
 have hTs : s.TypeIs (.ref sl) "slice":=⟨os,hos,hcs⟩
 unfold Builtin.List.listSubscript?
 refine wpAny_bind (wpAny_specialOf hTs slice_no_index ?_)
 simp only [Option.isNone_none,if_true]
 exact wpAny_pure h
private theorem w1h {M : Model} {A : Around} {E : Value → Shared → Prop} {s : Shared} {sl : Addr} {vl vu : Value} {lo hi : Option Int} {Q : Value × Value × Value → Shared → Prop} (hs : s.heap.IsSliceOf sl vl vu .none) (pl : IsPart vl lo) (pu : IsPart vu hi)
  (h : Q (rawPart lo,rawPart hi,rawPart none) s) : wpAny M A (Builtin.List.listSliceParts (.ref sl)) Q E s:=by
 obtain ⟨os,hos,hcs,hds⟩:=id hs
 rw [listSliceParts_eq]
 have hstep : ¬ ((rawPart none == rawInt 0) = true):=Bool.false_ne_true
 refine wpAny_bind (wpAny_field hos hds (x:=.none) rfl (wpAny_bind (wpAny_listPart .none ?_)))
 rw [if_neg hstep]
 refine wpAny_bind (wpAny_field hos hds (x:=vl) rfl (wpAny_bind (wpAny_listPart pl ?_)))
 exact wpAny_bind (wpAny_field hos hds (x:=vu) rfl (wpAny_bind (wpAny_listPart pu (wpAny_pure h))))
private theorem w9o (c : Value) (d : Option Addr) (l sl : Addr) (items : Array Value) (n : Nat) (vl vu : Value) (lo hi : Option Int) (pl : IsPart vl lo) (pu : IsPart vu hi) (hsz : items.size ≤ sizeLine) :
  Meets (Builtin.«list.__getitem__» ⟨[.ref l,.ref sl],[]⟩) (fun _ R s => s.heap.get? l = some (subO c d items n) ∧ s.heap.IsSliceOf sl vl vu .none ∧ R (.ok (.ret (.ref s.heap.objs.size))) { s with heap:=s.heap.push { cls:=.type "list",data:=.seq (slicePick items lo hi none) } }):=
 .of_wp fun prog w A R s h => by
  obtain ⟨hl,hs,h⟩:=h
  obtain ⟨os,hos,hcs,hds⟩:=id hs
  have hTs : s.TypeIs (.ref sl) "slice":=⟨os,hos,hcs⟩
  show wpAny _ _ (Builtin.List.listSubscript? (.ref sl) >>= _) _ _ s
  refine wpAny_bind (q9e hs ?_)
  show wpAny _ _ (typeOf (.ref sl) >>= _) _ _ s
  refine wpAny_bind (wpAny_typeOf hTs ?_)
  rw [if_neg (by decide)]
  refine wpAny_bind (w1h hs pl pu ?_)
  refine wpAny_bind (m:=Builtin.List.listItems (.ref l)) ?_
  unfold Builtin.List.listItems
  refine wpAny_bind (wpAny_seqItems hl rfl (wpAny_pure ?_))
  refine wpAny_bind (wpAny_of_eq (sliceIndices_raw lo hi none items.size (by simp)) ?_)
  exact wpAny_bind (wpAny_newObj_type (wpAny_pure ⟨_,rfl,h⟩) (Nat.le_trans (slicePick_size_le items lo hi none) hsz))
noncomputable def setSl (items new : Array Value) (lo hi : Option Int) : Array Value:=
 items.extract 0 (sliceBounds lo hi none items.size).1.toNat ++ new ++ items.extract (max (sliceBounds lo hi none items.size).1 (sliceBounds lo hi none items.size).2.1).toNat items.size
private theorem q6b {M : Model} {A : Around} {E : Value → Shared → Prop} {s : Shared} {keep : List Value} {Q : Unit → Shared → Prop} : ∀ {l : List Value},Q () s → wpAny M A (letGo l keep) Q E s
 | [],h => wpAny_pure h
 | _ :: r,h => wpAny_bind (wpAny_holding (wpAny_point (q6b (l:=r) h)))
private theorem w3n (c : Value) (d : Option Addr) (l sl b : Addr) (items new : Array Value) (n m : Nat) (vl vu : Value) (lo hi : Option Int) (pl : IsPart vl lo) (pu : IsPart vu hi) (hsz : items.size + new.size ≤ sizeLine) (hb : b ≠ l) (hz' : (setSl items new lo hi).size ≤ sizeLine + 1) :
  Meets (Builtin.«list.__setitem__» ⟨[.ref l,.ref sl,.ref b],[]⟩) (fun _ R s => s.heap.get? l = some (subO c d items n) ∧ s.heap.IsSliceOf sl vl vu .none ∧ s.heap.get? b = some { cls:=.type "list",data:=.seq new m } ∧
   R (.ok (.ret .none)) { s with heap:=s.heap.update l (Obj.mapSeq fun xs => xs.extract 0 (sliceBounds lo hi none items.size).1.toNat ++ new ++ xs.extract (max (sliceBounds lo hi none items.size).1 (sliceBounds lo hi none items.size).2.1).toNat xs.size) }):=
 .of_wp fun prog w A R s h => by
  obtain ⟨hl,hs,hn,h⟩:=h
  obtain ⟨os,hos,hcs,hds⟩:=id hs
  have hTs : s.TypeIs (.ref sl) "slice":=⟨os,hos,hcs⟩
  have hTb : s.TypeIs (.ref b) "list":=⟨_,hn,rfl⟩
  show wpAny _ _ (Builtin.List.listSubscript? (.ref sl) >>= _) _ _ s
  refine wpAny_bind (q9e hs ?_)
  show wpAny _ _ (typeOf (.ref sl) >>= _) _ _ s
  refine wpAny_bind (wpAny_typeOf hTs ?_)
  rw [if_neg (by decide)]
  refine wpAny_bind (w1h hs pl pu ?_)
  have hne : Builtin.List.listSameRef (.ref l) (.ref b) = false:=by
   unfold Builtin.List.listSameRef
   simp [Ne.symm hb]
  dsimp only
  rw [hne]
  simp only [Bool.false_eq_true,if_false]
  refine wpAny_bind (m:=Builtin.List.listAllItems (.ref b) _) ?_
  unfold Builtin.List.listAllItems
  refine wpAny_bind (wpAny_typeOf hTb ?_)
  rw [if_pos (by decide)]
  unfold Builtin.List.listItems
  refine wpAny_bind (m:=seqItems? (.ref b)) (wpAny_seqItems hn rfl (wpAny_pure ?_))
  refine wpAny_bind (wpAny_bind (m:=seqItems? (.ref l)) (wpAny_seqItems hl rfl (wpAny_pure ?_)))
  refine wpAny_bind (wpAny_of_eq (sliceIndices_raw lo hi none items.size (by simp)) ?_)
  have h1 : (sliceBounds lo hi none items.size).2.2 = 1:=rfl
  have hz : items.size ≤ sizeLine:=by lia
  have hlong : Builtin.List.listTooLong (items.size + new.size) = false:=by unfold Builtin.List.listTooLong;simp;assumption
  simp only [h1,hlong,beq_self_eq_true,if_true,Bool.false_eq_true,if_false]
  refine wpAny_bind (wpAny_rule ?_)
  unfold Builtin.List.listUpdate
  refine wpAny_bind (wpAny_updateSeq hl rfl (hz:=hz) (_hz':=hz') ?_)
  refine wpAny_bind (q6b (wpAny_pure ⟨_,rfl,h⟩))
end
section
set_option tactic.hygienic true
open PySem PySem.W PySem.Calls PyProof.Rows Builtin Builtin.ObjectAttr Builtin.Getset_descriptor
set_option maxHeartbeats 4000000
variable {prog : Program} {w : World}
structure MakesL (M : Model) (h : Heap) (C : Addr) : Prop where
 obj : ∃ oc od cd sl,h.get? C = some ⟨oc,od,.cls cd,sl⟩ ∧ cd.abstract = false ∧ cd.hasDel = false ∧ cd.mro.isEmpty = false
 made : Looks M h (Bind.madeBy (.ref C)) (some "list.__new__")
 base : Looks M h (Bind.staticBase (.ref C)) (.ref C)
 self : Looks M h (isSubtype (.ref C) (.ref C)) true
 top : Looks M h (isSubtype (.ref C) (.type "list")) true
 call : Looks M h (specialOf (.ref C) "__call__") (some (.builtin "type.__call__"))
 typ : Looks M h (isInstance (.ref C) (.type "type")) true
noncomputable def w2v (K : Frag) (C : Addr) : Bool:=match K.lookup C with
 | some ⟨_,_,.cls cd,sl⟩ => !cd.abstract && !cd.hasDel && (sl.toList[4]?).join == some (.builtin "list.__new__") && !cd.mro.isEmpty && cd.mro.contains (.ref C) && cd.mro.contains (.type "list") &&
   specialIn K (.ref C) "__call__" == some (some (.builtin "type.__call__")) && instIn K (.ref C) (.type "type") == some true
 | _ => false
private theorem z0q {K : Frag} {M : Model} {h : Heap} (X : K.In h) {C : Addr} (e : w2v K C = true) : MakesL M h C:=by
 unfold w2v at e
 split at e
 ·rename_i oc od cd sl ho
  simp only [Bool.and_eq_true,Bool.not_eq_true',beq_iff_eq] at e
  obtain ⟨⟨⟨⟨⟨⟨⟨e1,e2⟩,e3⟩,e4⟩,e5⟩,e6⟩,e7⟩,e8⟩:=e
  have hc : clsIn K C = some cd:=by unfold clsIn;rw [ho]
  have hm : Looks M h (mroOf (.ref C)) cd.mro:=(looks_clsIn X hc).andThen .now
  obtain ⟨c,l,hl⟩ : ∃ c l,cd.mro = c :: l:=by cases q : cd.mro with | nil => rw [q] at e4;cases e4 | cons c l => exact ⟨c,l,rfl⟩
  have made : Looks M h (Bind.madeBy (.ref C)) (some "list.__new__"):=by
   intro A Q E s k q
   unfold Bind.madeBy
   refine wpAny_bind (hm A _ E s k ?_)
   rw [hl,List.forIn_cons]
   refine wpAny_bind (wpAny_bind (wpAny_bind (wpAny_bind (wpAny_loadPart (k _ _ (X _ _ ho)) (wpAny_pure ?_)))))
   dsimp only
   rw [← Array.getElem?_toList,e3]
   exact wpAny_pure (wpAny_pure (wpAny_pure q))
  refine ⟨⟨oc,od,cd,sl,X _ _ ho,e1,e2,e4⟩,made,?_,looks_mroIn X ?_,looks_mroIn X ?_,looks_specialIn X e7,looks_instIn X e8⟩
  ·intro A Q E s k q
   unfold Bind.staticBase
   refine wpAny_bind (hm A _ E s k ?_)
   rw [hl,List.forIn_cons]
   exact wpAny_bind (wpAny_bind (wpAny_bind (made A _ E s k (wpAny_pure (wpAny_pure (wpAny_pure q))))))
  ·unfold mroIn;rw [hc,Option.bind_some,if_neg (by rw [e4];decide),e5]
  ·unfold mroIn;rw [hc,Option.bind_some,if_neg (by rw [e4];decide),e6]
 ·cases e
noncomputable abbrev subNew (C dx : Addr) : Obj:={ cls:=.ref C,dict:=some dx,data:=.seq #[] }
section
variable {A : Around} {K : Frag} {C : Addr} {R : Result → Shared → Prop} {h : Heap} {g : Array GenState} {d : Drawn} {t : Nat} {os : OsState}
private theorem q5y : builtinKind "list.__new__" = some .builtinFn ∧ splitId "list.__new__" = some ("list","__new__"):=by decide +kernel
private theorem new_L {rest : List Value} (Y : MakesL (model prog w) h C)
  (hq : R (.ok (.ret (.ref (h.objs.size + 1)))) ⟨(h.push emptyDict).push (subNew C h.objs.size),g,d,t,os⟩) :
  codeAny (model prog w) A (.call (.builtin "list.__new__") ⟨.ref C :: rest,[]⟩) R ⟨h,g,d,t,os⟩:=by
 obtain ⟨⟨oc,od,cd,sl,hC,e1,e2,e4⟩,made,base,self,top,call,typ⟩:=Y
 have hsub:=top
 have hown:=owner_list_new
 refine codeAny_of_tree ?_
 show wpAny _ A.in1 (do checkBuiltinCall "list.__new__" ⟨.ref C :: rest,[]⟩;again (.builtin "list.__new__" ⟨.ref C :: rest,[]⟩)) _ _ _
 refine wpAny_bind ?_
 simp only [checkBuiltinCall,q5y.1,q5y.2]
 unfold isType
 repeat (first | simp only [bne_self_eq_false,Bool.false_eq_true,if_false,beq_self_eq_true,if_true,Bool.not_true] | lk)
 refine ⟨plainId_quiet PySem.F.plain_list_new _,codeAny_builtin_stack PySem.F.entry_list_new rfl fun p st => ?_⟩
 rw [Around.under_plainId PySem.F.plain_list_new _]
 simp only [hown]
 have fin : ∀ A',wpAny (model prog w) A' (do
   let .ref d ← newDict | unsupported "internal:list.__new__"
   ret (← newObj (.ref C) (.seq #[]) (some d))) (fun fin s' => match fin with | .done f => R (.ok f) s' | .again c' => c'.quiet = true ∧ codeAny (model prog w) A c' R s') (fun e s' => R (.error e) s') ⟨h,g,d,t,os⟩:=by
  intro A'
  show wpAny _ _ (newDict >>= _) _ _ _
  refine wpAny_bind (wpAny_newObj_type ?_)
  refine wpAny_bind ?_
  show wpAny _ _ (newObjAsIs (.ref C) (.seq #[]) (some h.objs.size)) _ _ _
  unfold newObjAsIs classHasDel
  refine wpAny_bind (wpAny_alloc (wpAny_bind (wpAny_bind (wpAny_load (Heap.get?_push_of_some _ (Heap.get?_push_of_some _ hC)) (wpAny_pure ?_)))))
  rw [e2]
  refine wpAny_pure (wpAny_pure ?_)
  show R _ _
  rw [Heap.size_push]
  exact hq
 repeat (first | exact fin _ | simp only [bne_self_eq_false,Bool.false_eq_true,if_false,Bool.not_true] | lk)
private theorem make_L {rest : List Value} {init : Value} (Y : MakesL (model prog w) h C) (hi : Looks (model prog w) h (typeLookup (.ref C) "__init__") (some init))
  (hb : ∀ self,Looks (model prog w) h (bindSpecial init self) (init,[self]))
  (hq : codeAny (model prog w) (A.under (.builtin "type.__call__" ⟨.ref C :: rest,[]⟩)) (.call init ⟨.ref (h.objs.size + 1) :: rest,[]⟩) (InitBack (h.objs.size + 1) R) ⟨(h.push emptyDict).push (subNew C h.objs.size),g,d,t,os⟩) :
  codeAny (model prog w) A (.call (.ref C) ⟨rest,[]⟩) R ⟨h,g,d,t,os⟩:=by
 have Y':=Y
 obtain ⟨⟨oc,od,cd,sl,hC,e1,e2,e4⟩,made,base,self,top,call,typ⟩:=Y
 refine codeAny_of_tree ?_
 show wpAny _ _ (callAny (.ref C) _) _ _ _
 refine nd_load hC ?_
 show wpAny _ _ (callAny.viaDunder (.ref C) _) _ _ _
 unfold callAny.viaDunder
 refine wpAny_bind (call.at ?_)
 dsimp only
 rw [tc_bind]
 refine wpAny_bind (wpAny_pure (wpAny_bind (wpAny_pure ?_)))
 refine wpAny_pure (a:=Fin.again (.call (.builtin "type.__call__") ⟨.ref C :: rest,[]⟩)) (And.intro rfl ?_)
 refine codeAny_call_builtin_at (Code.quiet_builtin _ (by decide +kernel)) entry_typeCall (check_slot tc_kind tc_split typ (tc_args _ _ _) ?_)
 unfold Builtin.«type.__call__»
 have hm : Looks (model prog w) h (mroOf (.ref C)) cd.mro:=((Looks.ld (part:=none) hC).andThen .now).andThen .now
 repeat (first | simp only [e4,Bool.false_eq_true,if_false] | with_reducible refine wpAny_call ?_ | lk)
 refine new_L Y' ?_
 have k : ∀ b o,h.get? b = some o → ((h.push emptyDict).push (subNew C h.objs.size)).get? b = some o:=fun b o e => Heap.get?_push_of_some _ (Heap.get?_push_of_some _ e)
 have hx : ((h.push emptyDict).push (subNew C h.objs.size)).get? (h.objs.size + 1) = some (subNew C h.objs.size):=by heap_get
 have t1 : Looks (model prog w) ((h.push emptyDict).push (subNew C h.objs.size)) (typeOf (.ref (h.objs.size + 1))) (.ref C):=(Looks.ld hx).andThen .now
 have s1:=self.keeps k
 have i1:=hi.keeps k
 have b1:=(hb (.ref (h.objs.size + 1))).keeps k
 unfold isInstance callSpecial? specialOf
 repeat (first | with_reducible refine wpAny_call ?_ | lk)
 refine codeAny_mono hq fun r s' z => ?_
 rcases r with e | (v | _ | _ | _) <;> first | exact z | exact z.elim | skip
 obtain ⟨rfl,z⟩:=z
 exact wpAny_pure (wpAny_pure z)
end
end
section
open PySem PySem.W PySem.Calls PyProof.Rows
variable {prog : Program} {w : World}
private theorem q7h {M : Model} {A : Around} {E : Value → Shared → Prop} {s : Shared} {i owner n : String} {self : Value} {rest : List Value} {Q : Unit → Shared → Prop}
  (hk : builtinKind i = some .slot ∨ builtinKind i = some .method) (hs : splitId i = some (owner,n)) (hi : Looks M s.heap (isInstance self (.type owner)) true) (ha : argsOk i ⟨self :: rest,[]⟩) (q : Q () s) :
  wpAny M A (checkBuiltinCall i ⟨self :: rest,[]⟩) Q E s:=by
 rcases hk with hk | hk <;> simp only [checkBuiltinCall,hk,hs]
 all_goals
  refine wpAny_bind (hi.here ?_)
  simp only [Bool.not_true,Bool.false_eq_true,if_false]
  cases hsig : Manifest.signature? i with
  | none => exact wpAny_pure q
  | some sig =>
   simp only [argsOk,hsig] at ha
   have h2 : Bind.checkArgs i sig ⟨self :: rest,[]⟩ = pure ():=ha
   show wpAny M A (Bind.checkArgs i sig ⟨self :: rest,[]⟩) Q E s
   rw [h2];exact wpAny_pure q
section
variable {A : Around} {E : Value → Shared → Prop} {s : Shared} {K : Frag} {x Cl : Addr} {ox : Obj} {od : Option Obj}
private theorem q1c {M : Model} {name : PySem.Str} {r : Option Value} (X : K.In s.heap) (I : InstAt s.heap x ox Cl od) (hf : findIn K (.ref Cl) name = some r) : Looks M s.heap (specialOf (.ref x) name) r:=I.type.andThen (looks_findIn X hf)
private theorem w7b {M : Model} {b : Value} {r : Bool} (X : K.In s.heap) (I : InstAt s.heap x ox Cl od) (hf : mroIn K Cl b = some r) : Looks M s.heap (isInstance (.ref x) b) r:=I.type.andThen (looks_mroIn X hf)
private theorem w2d {id n : String} {B : Builtin} {rest : List Value} {S : PySem.Spec} {Q : Value → Shared → Prop} (X : K.In s.heap) (I : InstAt s.heap x ox Cl od) (hm : mroIn K Cl (.type "list") = some true)
  (hk : builtinKind id = some .slot ∨ builtinKind id = some .method) (hs : splitId id = some ("list",n)) (hp : plainId id = true) (entry : entryFor table id = some B) (args : argsOk id ⟨.ref x :: rest,[]⟩) (g : Meets (B ⟨.ref x :: rest,[]⟩) S) (h : S A (wants Q E) s) :
  wpAny (model prog w) A (call (.builtin id) (.ref x :: rest)) Q E s:=
 wpAny_call (codeAny_call_builtin hp entry (q7h hk hs (w7b X I hm) args (g prog w A (wants Q E) s h)))
private theorem q9f {T id : String} {name : PySem.Str} {args : List Value} {Q : Option Value → Shared → Prop} (X : K.In s.heap) (I : InstAt s.heap x ox Cl od) (hf : findIn K (.ref Cl) name = some (some (.builtin id))) (hb : Slot T name id)
  (h : wpAny (model prog w) A (call (.builtin id) (.ref x :: args)) (fun v => Q (some v)) E s) : wpAny (model prog w) A (callSpecial? (.ref x) name args) Q E s:=
 wpAny_bind ((q1c X I hf).here (wpAny_holding (by
  rw [hb.bind]
  exact wpAny_bind (wpAny_pure (wpAny_bind (wpAny_mono h (fun _ _ z => wpAny_pure z) fun _ _ z => z))))))
private theorem w9p {k : Value} {name : PySem.Str} {Q : Value → Shared → Prop} (X : K.In s.heap) (I : InstAt s.heap x ox Cl od) (hd : mroIn K Cl (.type "collections.deque") = some false) (h : Q k s) : wpAny (model prog w) A (sequenceKey (.ref x) k name) Q E s:=by
 unfold sequenceKey
 refine wpAny_bind (I.type.here ?_)
 show wpAny _ _ ((["collections.deque"].anyM fun n => isSubtype (.ref Cl) (.type n)) >>= _) _ _ _
 rw [List.anyM_cons]
 refine wpAny_bind (wpAny_bind ((looks_mroIn X hd).here (wpAny_pure ?_)))
 exact wpAny_pure h
private theorem q9g {i : Value} {S : PySem.Spec} {Q : Value → Shared → Prop} (X : K.In s.heap) (I : InstAt s.heap x ox Cl od) (hm : mroIn K Cl (.type "list") = some true) (hd : mroIn K Cl (.type "collections.deque") = some false)
  (hf : findIn K (.ref Cl) "__getitem__" = some (some (.builtin "list.__getitem__"))) (g : Meets (Builtin.«list.__getitem__» ⟨[.ref x,i],[]⟩) S) (h : S A (wants Q E) s) : wpAny (model prog w) A (getItem (.ref x) i) Q E s:=by
 unfold getItem
 refine wpAny_holding ?_
 refine wpAny_bind (w9p X I hd ?_)
 refine wpAny_bind (m:=callSpecial? (.ref x) (PySem.Str.ofString "__getitem__") [i]) (q9f X I hf slot_list_getitem (wpAny_mono (w2d (Q:=Q) X I hm (by decide +kernel) (n:="__getitem__") (by decide +kernel) slot_list_getitem.plain entry_list_getitem (args_list_getitem _ _) g h) (fun v s' hq => wpAny_pure hq) fun _ _ e => e))
private theorem z3b {Q : Value → Shared → Prop} {items : Array Value} {n : Nat} (X : K.In s.heap) (I : InstAt s.heap x ox Cl od) (hm : mroIn K Cl (.type "list") = some true) (hf : findIn K (.ref Cl) "__iter__" = some (some (.builtin "list.__iter__")))
  (h : Q (.ref s.heap.objs.size) { s with heap:=s.heap.push { cls:=.type "list_iterator",data:=.fields #[.ref x,.int 0 0] } }) : wpAny (model prog w) A (pyIter (.ref x)) Q E s:=by
 have hc : wpAny (model prog w) A (call (.builtin "list.__iter__") [.ref x]) (fun it s' => ∃ T' r,s'.TypeIs it T' ∧ typeLookup (.type T') "__next__" = pure (some r) ∧ Q it s') E s:=by
  refine wpAny_call (codeAny_call_builtin slot_list_iter.plain entry_list_iter (q7h (n:="__iter__") (owner:="list") (by decide +kernel) (by decide +kernel) (w7b X I hm) (args_list_iter _) ?_))
  show wpAny _ _ (do ret (← newFields "list_iterator" [.ref x,rawInt 0])) _ _ s
  exact wpAny_bind (wpAny_newObj_type (wpAny_pure ⟨"list_iterator",_,⟨_,Heap.get?_push_size _ rfl,rfl⟩,slot_listiter_next.lookup,h⟩))
 unfold pyIter
 refine wpAny_bind ((q1c X I hf).here ?_)
 show wpAny _ A (callSpecialIfBoundUnlessNone? (.ref x) "__iter__" _ >>= _) Q E s
 refine wpAny_bind ?_
 simp only [callSpecialIfBoundUnlessNone?,bindSpecialIfBound?]
 refine wpAny_holding (wpAny_bind (wpAny_bind ((q1c X I hf).here ?_)))
 simp only [slot_list_iter.bind]
 refine wpAny_bind (wpAny_askSetting (wpAny_ite ?_))
 have fin : wpAny (model prog w) A (if (Value.builtin "list.__iter__" == Value.none) = true then (((do PySem.rule "iter.none";raiseError "TypeError" s!"'{← typeNameOf (.ref x)}' object is not iterable") : Sem Value) >>= fun v => pure (some v)) else (call (.builtin "list.__iter__") [.ref x] >>= fun v => pure (some v))) (fun a s' => wpAny (model prog w) A (match a with
   | some it => do
    match ← specialOf it "__next__" with
    | none => PySem.rule "iter.non-iterator";raiseError "TypeError" s!"iter() returned non-iterator of type '{← typeNameOf it}'"
    | some _ => pure it
   | none => do
    match ← bindSpecialIfBound? (.ref x) "__getitem__" with
    | none => PySem.rule "iter.not-iterable";raiseError "TypeError" s!"'{← typeNameOf (.ref x)}' object is not iterable"
    | some _ => PySem.rule "iter.getitem-fallback";newFields "iterator" [.ref x,← mkInt 0]) Q E s') E s:=by
  simp only [builtin_beq_none,Bool.false_eq_true,if_false]
  refine wpAny_bind (wpAny_mono hc (fun it s' h' => wpAny_pure ?_) fun _ _ h' => h')
  obtain ⟨T',r,hT',hl,hQ⟩:=h'
  exact wpAny_bind (wpAny_specialOf hT' hl (wpAny_pure hQ))
 split
 ·exact wpAny_bind (wpAny_pure (wpAny_pure fin))
 ·exact wpAny_tryCatch (wpAny_bind (wpAny_pure (wpAny_pure fin)))
end
end
section
set_option tactic.hygienic true
open PySem PySem.W PySem.Calls PyProof.Rows Builtin Builtin.ObjectAttr Builtin.Getset_descriptor
variable {prog : Program} {w : World}
section
variable {A : Around} {E : Value → Shared → Prop} {s : Shared} {K : Frag} {x Cl : Addr} {ox : Obj} {od : Option Obj}
private theorem w6p {value slice : Expr} {i : Value} {ops : List Value} {Q : Value → Shared → Prop} (X : K.In s.heap) (I : InstAt s.heap x ox Cl od) (hf : findIn K (.ref Cl) "__getitem__" = some (some (.builtin "list.__getitem__")))
  (hg : wpAny (model prog w) A (getItem (.ref x) i) Q E s) (hs : subscripted slice false (.ref x) i = operate ops (getItem (.ref x) i)) : wpAny (model prog w) A (subscriptTail value slice (.ref x) i) Q E s:=by
 unfold subscriptTail getitemInPython
 refine wpAny_bind (wpAny_bind ((q1c X I hf).here ?_))
 have fin : wpAny (model prog w) A (subscripted slice false (.ref x) i) (fun r s₃ => wpAny (model prog w) A (letTemporaryGo value (.ref x) r >>= fun _ => pure r) Q E s₃) E s:=by
  rw [hs]
  exact wpAny_operating (wpAny_mono hg (fun r s₃ h₃ => wpAny_bind (wpAny_letTemporaryGo (wpAny_pure h₃))) fun _ _ x => x)
 exact wpAny_pure (wpAny_bind fin)
private theorem w5d {i v : Value} {S : PySem.Spec} {Q : Unit → Shared → Prop} (X : K.In s.heap) (I : InstAt s.heap x ox Cl od) (hm : mroIn K Cl (.type "list") = some true) (hd : mroIn K Cl (.type "collections.deque") = some false)
  (hf : findIn K (.ref Cl) "__setitem__" = some (some (.builtin "list.__setitem__"))) (g : Meets (Builtin.«list.__setitem__» ⟨[.ref x,i,v],[]⟩) S) (h : S A (wants (fun _ => Q ()) E) s) : wpAny (model prog w) A (setItem (.ref x) i v) Q E s:=by
 unfold setItem
 refine wpAny_holding ?_
 refine wpAny_bind (w9p X I hd ?_)
 refine wpAny_bind (m:=callSpecial? (.ref x) (PySem.Str.ofString "__setitem__") [i,v]) (q9f X I hf slot_list_setitem (wpAny_mono (w2d (Q:=fun _ => Q ()) X I hm (by decide +kernel) (n:="__setitem__") (by decide +kernel) slot_list_setitem.plain entry_list_setitem (args_list_setitem _ _ _) g h) (fun v s' hq => wpAny_pure hq) fun _ _ e => e))
private theorem w0m {f tf : Value} {name : PySem.Str} {pl : Sem Bool} {ga : String} {Q : Value × List Value → Shared → Prop} (hcan : (Manifest.canonical ga != "object.__getattribute__") = false) (X : K.In s.heap) (I : InstAt s.heap x ox Cl od) (hga : findIn K (.ref Cl) "__getattribute__" = some (some (.builtin ga))) (hk : findIn K (.ref Cl) "__getattr__" = some none)
  (hf : findIn K (.ref Cl) name = some (some f)) (ht : typeIn K f = some tf) (htf : (tf != .type "function" && tf != .type "method_descriptor" && tf != .type "wrapper_descriptor") = false) (hs : shadowIn od name = some false) (h : Q (f,[.ref x]) s) :
  wpAny (model prog w) A (getMethod (.ref x) name pl) Q E s:=by
 unfold getMethod
 refine wpAny_bind ((q1c X I hga).here ?_)
 dsimp only
 rw [hcan,if_neg (by decide)]
 refine wpAny_bind ((q1c X I hk).here ?_)
 refine wpAny_bind ((q1c X I hf).here (wpAny_bind ((looks_typeIn X ht).here ?_)))
 rw [htf,if_neg (by decide)]
 refine wpAny_bind (wpAny_loadPart I.at_ ?_)
 have hd:=I.dict
 cases e : ox.dict with
 | none => exact wpAny_bind (wpAny_rule (wpAny_pure h))
 | some dx =>
  cases od with
  | none => rw [e] at hd;exact hd.elim
  | some o =>
   rw [e] at hd
   obtain ⟨r,a,b⟩:=Option.map_eq_some_iff.mp hs
   refine wpAny_bind (wpAny_bind (wpAny_loadPart hd ?_))
   rw [nsLook_of a]
   refine wpAny_pure ?_
   rw [b]
   exact wpAny_bind (wpAny_rule (wpAny_pure h))
private theorem w6f {C : Addr} {cd : ClassData} (h : clsIn K C = some cd) : ∃ o,K.lookup C = some o ∧ o.data = .cls cd:=by
 unfold clsIn at h
 split at h
 ·rename_i ho
  cases h
  exact ⟨_,ho,rfl⟩
 ·cases h
private theorem w0n {cd : ClassData} {o : Obj} {name : PySem.Str} {v : Value} (hc : clsIn K Cl = some cd) (hd : cd.hasDict = true) (hf : findIn K (.ref Cl) name = some none) (hl : lookIn name o = some (some v)) : findObj K Cl (some o) name = some (.value v):=by
 refine Option.bind_eq_some_iff.mpr ⟨_,hc,Option.bind_eq_some_iff.mpr ⟨_,hf,Option.bind_eq_some_iff.mpr ⟨none,rfl,Option.bind_eq_some_iff.mpr ⟨false,rfl,?_⟩⟩⟩⟩
 exact Option.bind_eq_some_iff.mpr ⟨_,(if_pos hd).trans hl,rfl⟩
private theorem z1c {cd : ClassData} {o : Obj} {name : PySem.Str} {v : Value} {expr : Bool} {Q : Value → Shared → Prop} (X : K.In s.heap) (I : InstAt s.heap x ox Cl (some o)) (hga : findIn K (.ref Cl) "__getattribute__" = some (some (.builtin "object.__getattribute__")))
  (hc : clsIn K Cl = some cd) (hd : cd.hasDict = true) (hf : findIn K (.ref Cl) name = some none) (hl : lookIn name o = some (some v)) (hh : handedIn v = true) (h : Q v { s with toks:=s.toks + 1 }) : wpAny (model prog w) A (getAttr (.ref x) name expr) Q E s:=
 get_value X I hga (w0n hc hd hf hl) hh h
private theorem q7a {f : Addr} {Q : Value → Shared → Prop} (X : K.In s.heap) (I : InstAt s.heap x ox Cl od) (hs : findIn K (.ref Cl) "__len__" = some (some (.ref f))) (hf : typeIn K (.ref f) = some (.type "function"))
  (h : wpAny (model prog w) A (call (.ref f) [.ref x]) (fun r s' => ∃ (n : Nat) (u : Tok),r = .int n u ∧ n < 2 ^ 60 ∧ Q (.int n s'.toks) { s' with toks:=s'.toks + 1 }) E s) : wpAny (model prog w) A (Builtin.«len» ⟨[.ref x],[]⟩) (fun fin s' => ∃ r,fin = .done (.ret r) ∧ Q r s') E s:=by
 unfold Builtin.«len»
 refine wpAny_bind (m:=oneArg "len" _) (wpAny_pure ?_)
 refine wpAny_bind (m:=callSpecial? (.ref x) (Str.ofString "__len__")) (special_fn X I hs hf (wpAny_mono h (fun r s' hr => ?_) fun _ _ y => y))
 obtain ⟨n,u,rfl,hn,hq⟩:=hr
 have h1 : ¬ (n : Int) < 0:=by lia
 have h2 : ¬ (n : Int) ≥ 2 ^ 63:=by lia
 refine wpAny_bind (wpAny_holding (wpAny_pure (wpAny_bind (q6b ?_))))
 show wpAny _ _ (if (n : Int) < 0 then _ else _) _ _ _
 rw [if_neg h1]
 show wpAny _ _ (if (n : Int) ≥ 2 ^ 63 then _ else _) _ _ _
 rw [if_neg h2]
 exact wpAny_bind (wpAny_mkInt (wpAny_pure ⟨_,rfl,hq⟩))
private theorem inst_len {f : Addr} {Q : Value → Shared → Prop} (X : K.In s.heap) (I : InstAt s.heap x ox Cl od) (hs : findIn K (.ref Cl) "__len__" = some (some (.ref f))) (hf : typeIn K (.ref f) = some (.type "function"))
  (h : wpAny (model prog w) A.in1 (call (.ref f) [.ref x]) (fun r s' => ∃ (n : Nat) (u : Tok),r = .int n u ∧ n < 2 ^ 60 ∧ Q (.int n s'.toks) { s' with toks:=s'.toks + 1 }) E s) : wpAny (model prog w) A (call (.builtin "len") [.ref x]) Q E s:=
 Calls.call_function_entry kind_len plain_len entry_len (args_len1 _) (q7a X I hs hf h)
private theorem w5u {f : Addr} {Q : Bool → Shared → Prop} (X : K.In s.heap) (I : InstAt s.heap x ox Cl od) (hb : findIn K (.ref Cl) "__bool__" = some none) (hs : findIn K (.ref Cl) "__len__" = some (some (.ref f))) (hf : typeIn K (.ref f) = some (.type "function"))
  (h : wpAny (model prog w) A.in1 (call (.ref f) [.ref x]) (fun r s' => ∃ (n : Nat) (u : Tok),r = .int n u ∧ n < 2 ^ 60 ∧ Q ((n : Int) != 0) { s' with toks:=s'.toks + 1 }) E s) : wpAny (model prog w) A (truthy (.ref x)) Q E s:=by
 have key : wpAny (model prog w) A (runValue (.builtin "len" ⟨[.ref x],[]⟩)) (fun r s' => ∃ (n : Nat) (u : Tok),r = .int n u ∧ Q ((n : Int) != 0) s') E s:=by
  refine wpAny_runValue (codeAny_builtin entry_len ?_)
  rw [Around.under_plainId plain_len _]
  refine wpAny_mono (q7a (Q:=fun r s' => ∃ (n : Nat) (u : Tok),r = .int n u ∧ Q ((n : Int) != 0) s') X I hs hf (wpAny_mono h (fun r s' hr => ?_) fun _ _ e => e)) (fun fin s' h' => by obtain ⟨r,rfl,hq⟩:=h';exact hq) fun _ _ e => e
  obtain ⟨n,u,rfl,hn,hq⟩:=hr
  exact ⟨n,u,rfl,hn,n,_,rfl,hq⟩
 unfold truthy
 refine wpAny_bind (m:=callSpecial? (.ref x) (Str.ofString "__bool__")) (wpAny_bind ((q1c X I hb).here (wpAny_pure ?_)))
 refine wpAny_bind ((q1c X I hs).here ?_)
 refine wpAny_bind (wpAny_mono key (fun r s' hr => ?_) fun _ _ e => e)
 obtain ⟨n,u,rfl,hq⟩:=hr
 exact wpAny_pure hq
end
end
section
set_option tactic.hygienic true
open PySem PySem.W PySem.Calls PyProof.Rows Builtin Builtin.ObjectAttr Builtin.Getset_descriptor
set_option maxHeartbeats 4000000
variable {prog : Program} {w : World}
section
variable {A : Around} {E : Value → Shared → Prop} {s : Shared} {K : Frag} {x Cl : Addr} {ox : Obj} {od : Option Obj}
noncomputable def Stores (l : List Value) : Prop:=(∀ self,refuseLoop self "__setattr__" l = pure ()) ∧ l.contains (.type "object") = true ∧ l.isEmpty = false
private theorem w5g (C : Addr) : Stores [.ref C,.type "list",.type "object"]:=⟨fun self => by rw [refuseLoop_ref];kernel_rfl,by rw [List.contains_cons];simp,rfl⟩
private theorem w2e (C : Addr) : Stores [.ref C,.type "object"]:=⟨fun self => by rw [refuseLoop_ref];exact PySem.F.store_object.passes self,by rw [List.contains_cons];simp,rfl⟩
private theorem ck_osa {M : Model} {Q : Unit → Shared → Prop} {b c : Value} (hi : Looks M s.heap (isInstance (.ref x) (.type "object")) true) (q : Q () s) : wpAny M A (checkBuiltinCall "object.__setattr__" ⟨[.ref x,b,c],[]⟩) Q E s:=
 have:=@q7h M A E s "object.__setattr__" "object" "__setattr__" (.ref x) [b,c] Q (.inl PySem.F.store_object.kind) PySem.F.store_object.split hi
 this (PySem.F.store_object.args _ _ _) q
private theorem q8k {cd : ClassData} {dx : Addr} {es : List DictEntry} {n : Nat} {name : PySem.Str} {v : Value} {Q : Unit → Shared → Prop} (X : K.In s.heap) (I : InstAt s.heap x ox Cl (some (dictOf es n))) (hd : ox.dict = some dx) (hc : clsIn K Cl = some cd) (hm : Stores cd.mro) (hh : cd.hasDict = true)
  (hs : findIn K (.ref Cl) "__setattr__" = some (some (.builtin "object.__setattr__"))) (ht : findIn K (.ref Cl) name = some none) (hl : (getL name es).isSome = true) (hz : (putL name (PyData.keyHash w.params name) (.str name (s.toks + 1)) v es).length ≤ 1000)
  (h : ∀ h',h'.get? dx = some (dictOf (putL name (PyData.keyHash w.params name) (.str name (s.toks + 1)) v es) (putN name es n)) → Heap.ExtBut dx s.heap h' → Q () { s with heap:=h',toks:=s.toks + 2 }) :
  wpAny (model prog w) A (setAttr (.ref x) name v) Q E s:=by
 have D : s.heap.get? dx = some (dictOf es n):=by have:=I.dict;rw [hd] at this;exact this
 refine set_plain X I hs ?_
 obtain ⟨hp,gg,dr,tk,os⟩:=s
 have SF:=PySem.F.store_object
 have sub : Looks (model prog w) hp (isInstance (.ref x) (.type "object")) true:=I.type.andThen (looks_mroIn X (by unfold mroIn;rw [hc,Option.bind_some,if_neg (by rw [hm.2.2];decide),hm.2.1]))
 refine codeAny_call_builtin SF.slot.plain SF.entry (ck_osa sub ?_)
 have hmro : Looks (model prog w) hp (mroOf (.ref Cl)) cd.mro:=(looks_clsIn X hc).andThen .now
 have hty : Looks (model prog w) hp (typeOf (.ref x)) (.ref Cl):=I.type
 rw [osa_eq,refuse_eq]
 refine wpAny_bind (wpAny_bind (hty.at (wpAny_bind (hmro.at ?_))))
 rw [hm.1]
 refine wpAny_pure (wpAny_bind (hty.at (wpAny_bind ((looks_findIn (M:=model prog w) X ht).at (wpAny_bind (wpAny_pure ?_))))))
 obtain ⟨hx,hcl,hn,hdd⟩:=I
 obtain ⟨oc,odi,oda,osl⟩:=ox
 dsimp only at hcl hd D hx
 subst hcl hd
 refine wpAny_bind (wpAny_pure (wpAny_bind (wpAny_bind (wpAny_loadPart hx (wpAny_bind ((looks_clsIn (M:=model prog w) X hc).at ?_))))))
 rw [hh]
 refine wpAny_pure (a:=some dx) (wpAny_bind (wpAny_pure (wpAny_bind ?_)))
 unfold nsSet
 refine wpAny_bind (wpAny_bind (wpAny_askSetting (wpAny_pure (wpAny_bind (wpAny_mkText (wpAny_bind (wpAny_loadPart D ?_)))))))
 have c : (!es.toArray.any (·.key.isStr name) && es.toArray.any (·.refKey)) = false:=by
  rw [← Array.any_toList,← Array.any_toList]
  unfold getL at hl
  split at hl
  ·rename_i en he
   rw [List.any_eq_true.mpr ⟨en,List.mem_of_find?_eq_some he,List.find?_some he⟩];rfl
  ·split at hl
   ·cases hl
   ·rename_i z;rw [Bool.not_eq_true] at z;rw [z,Bool.and_false]
 dsimp only
 rw [aRefKeyMayBeTheName_at,c]
 have e0:=putName_dict name (PyData.keyHash w.params name) (.str name (tk + 1)) v es n
 have e1 : (hp.update dx (Obj.putName name (PyData.keyHash w.params name) (.str name (tk + 1)) v)).get? dx = some (dictOf (putL name (PyData.keyHash w.params name) (.str name (tk + 1)) v es) (putN name es n)):=
  e0 ▸ Heap.get?_update_self _ D (by rw [e0];rfl)
 have hS : sizeLine = 2 ^ 24:=by decide +kernel
 have hz5 : (putL name (PyData.keyHash w.params name) (.str name (tk + 1)) v es).toArray.size ≤ sizeLine + 1:=by
  have h0 : (putL name (PyData.keyHash w.params name) (.str name (tk + 1)) v es).length ≤ 1000:=hz
  rw [List.size_toArray];(with_reducible refine nad ?_;decide)
 refine wpAny_updatePart D ?_
 refine wpAny_bind (wpAny_lookBehind e1 (pastItsLine_dict hz5) ?_)
 exact wpAny_pure (h _ e1 fun b o hb e => by rw [Heap.get?_update_ne _ _ _ _ hb];exact e)
end
end
section
open PySem PySem.W PySem.Calls PyProof.Rows
variable {prog : Program} {w : World}
section
variable {A : Around} {E : Value → Shared → Prop} {h : Heap} {g : Array GenState} {d : Drawn} {t : Nat} {os : OsState}
private theorem own_len : ".".intercalate ("list.__len__".cutAt '.').dropLast = "list":=by decide +kernel
private theorem own_init : ".".intercalate ("list.__init__".cutAt '.').dropLast = "list":=by decide +kernel
private theorem own_pop : ".".intercalate ("list.pop".cutAt '.').dropLast = "list":=by decide +kernel
private theorem bd_len {x Cl : Addr} {ox : Obj} {Q : Fin → Shared → Prop} (hx : h.get? x = some ox) (hc : ox.cls = .ref Cl) (hi : Looks (model prog w) h (isSubtype (.ref Cl) (.type "list")) true)
  (hq : Q (.done (.ret (.ref h.objs.size))) ⟨h.push { cls:=.type "method-wrapper",data:=.fields #[.builtin "list.__len__",.ref x] },g,d,t,os⟩) :
  wpAny (model prog w) A (Builtin.«wrapper_descriptor.__get__» ⟨[.builtin "list.__len__",.ref x,.ref Cl],[]⟩) Q E ⟨h,g,d,t,os⟩:=by
 unfold Builtin.«wrapper_descriptor.__get__»
 repeat (first | (refine wpAny_loadPart_at hx ?_;rw [hc]) | (rw [own_len];with_reducible refine Looks.at hi ?_) | wp_step)
 all_goals exact hq
private theorem bd_init {x Cl : Addr} {ox : Obj} {Q : Fin → Shared → Prop} (hx : h.get? x = some ox) (hc : ox.cls = .ref Cl) (hi : Looks (model prog w) h (isSubtype (.ref Cl) (.type "list")) true)
  (hq : Q (.done (.ret (.ref h.objs.size))) ⟨h.push { cls:=.type "method-wrapper",data:=.fields #[.builtin "list.__init__",.ref x] },g,d,t,os⟩) :
  wpAny (model prog w) A (Builtin.«wrapper_descriptor.__get__» ⟨[.builtin "list.__init__",.ref x,.ref Cl],[]⟩) Q E ⟨h,g,d,t,os⟩:=by
 unfold Builtin.«wrapper_descriptor.__get__»
 repeat (first | (refine wpAny_loadPart_at hx ?_;rw [hc]) | (rw [own_init];with_reducible refine Looks.at hi ?_) | wp_step)
 all_goals exact hq
private theorem bd_pop {x Cl : Addr} {ox : Obj} {Q : Fin → Shared → Prop} (hx : h.get? x = some ox) (hc : ox.cls = .ref Cl) (hi : Looks (model prog w) h (isSubtype (.ref Cl) (.type "list")) true)
  (hq : Q (.done (.ret (.ref h.objs.size))) ⟨h.push { cls:=.type "builtin_function_or_method",data:=.fields #[.builtin "list.pop",.ref x] },g,d,t,os⟩) :
  wpAny (model prog w) A (Builtin.«method_descriptor.__get__» ⟨[.builtin "list.pop",.ref x,.ref Cl],[]⟩) Q E ⟨h,g,d,t,os⟩:=by
 unfold Builtin.«method_descriptor.__get__»
 repeat (first | (refine wpAny_loadPart_at hx ?_;rw [hc]) | (rw [own_pop];with_reducible refine Looks.at hi ?_) | wp_step)
 all_goals exact hq
private theorem sup_ga {so D x Cc : Addr} {id gid T : String} {ob : Obj} {l₀ l : List Value} {K : Frag} {name : Str} {tk : Tok} {Q : Fin → Shared → Prop}
  (hso : h.get? so = some { cls:=.type "super",dict:=none,data:=.fields #[.ref D,.ref x,.ref Cc],slots:=#[] }) (hno : Looks (model prog w) h (opaqueClassAbove (.ref Cc)) none)
  (hC : Looks (model prog w) h (mroOf (.ref Cc)) l₀) (hl : (l₀.dropWhile (· != .ref D)).drop 1 = l) (X : K.In h)
  (hf : alongIn K name l = some (some (.builtin id))) (hty : typeOf (.builtin id) = pure (.type T)) (hg : typeLookup (.type T) "__get__" = pure (some (.builtin gid))) (hxC : x ≠ Cc) (hn : (name == ("__class__" : Str)) = false)
  (hcall : ∀ (A : Around) (Q : Value → Shared → Prop) (E : Value → Shared → Prop),Q (.ref h.objs.size) ⟨h.push ob,g,d,t,os⟩ → wpAny (model prog w) A (call (.builtin gid) [.builtin id,.ref x,.ref Cc]) Q E ⟨h,g,d,t,os⟩)
  (hq : Q (.done (.ret (.ref h.objs.size))) ⟨h.push ob,g,d,t,os⟩) :
  wpAny (model prog w) A (Builtin.«super.__getattribute__» ⟨[.ref so,.str name tk],[]⟩) Q E ⟨h,g,d,t,os⟩:=by
 have hne : (Value.ref x == Value.ref Cc) = false:=by simp [hxC]
 have hdt : ({ cls:=.type "super",dict:=none,data:=.fields #[.ref D,.ref x,.ref Cc],slots:=#[] } : Obj).data = .fields #[.ref D,.ref x,.ref Cc]:=rfl
 have f0 : (#[.ref D,.ref x,.ref Cc] : Array Value)[0]? = some (.ref D):=rfl
 have f1 : (#[.ref D,.ref x,.ref Cc] : Array Value)[1]? = some (.ref x):=rfl
 have f2 : (#[.ref D,.ref x,.ref Cc] : Array Value)[2]? = some (.ref Cc):=rfl
 unfold Builtin.«super.__getattribute__»
 repeat (first
  | (with_reducible refine wpAny_field hso hdt f0 ?_) | (with_reducible refine wpAny_field hso hdt f1 ?_) | (with_reducible refine wpAny_field hso hdt f2 ?_)
  | (with_reducible refine ks_wpAny_notOpaque hno ?_)
  | (with_reducible refine Looks.at hC ?_;rw [hl])
  | (refine ks_forIn_along X (fun _ _ => rfl) rfl ?_ hf)
  | (with_reducible refine wpAny_of_eq hty ?_)
  | (with_reducible refine wpAny_of_eq hg ?_)
  | (with_reducible refine hcall _ _ _ ?_)
  | (simp only [hn,hne,Bool.or_false,Bool.false_eq_true,if_false])
  | wp_step
  | dsimp only)
 all_goals exact hq
end
end
section
open PySem PySem.W PySem.Calls PyProof.Rows
variable {prog : Program} {w : World}
section
variable {A : Around} {E : Value → Shared → Prop} {h : Heap} {g : Array GenState} {d : Drawn} {t : Nat} {os : OsState}
private theorem w7s {so D x Cc : Addr} {id gid T : String} {ob : Obj} {l₀ l : List Value} {K : Frag} {name : Str} {pl : Sem Bool} {Q : Value × List Value → Shared → Prop}
  (hso : h.get? so = some { cls:=.type "super",dict:=none,data:=.fields #[.ref D,.ref x,.ref Cc],slots:=#[] }) (hno : Looks (model prog w) h (opaqueClassAbove (.ref Cc)) none)
  (hC : Looks (model prog w) h (mroOf (.ref Cc)) l₀) (hl : (l₀.dropWhile (· != .ref D)).drop 1 = l) (X : K.In h)
  (hf : alongIn K name l = some (some (.builtin id))) (hty : typeOf (.builtin id) = pure (.type T)) (hg : typeLookup (.type T) "__get__" = pure (some (.builtin gid))) (hxC : x ≠ Cc) (hn : (name == ("__class__" : Str)) = false)
  (hcall : ∀ (t : Nat) (A : Around) (Q : Value → Shared → Prop) (E : Value → Shared → Prop),Q (.ref h.objs.size) ⟨h.push ob,g,d,t,os⟩ → wpAny (model prog w) A (call (.builtin gid) [.builtin id,.ref x,.ref Cc]) Q E ⟨h,g,d,t,os⟩)
  (hq : Q (.ref h.objs.size,[]) ⟨h.push ob,g,d,t + 1,os⟩) : wpAny (model prog w) A (getMethod (.ref so) name pl) Q E ⟨h,g,d,t,os⟩:=by
 have hlk:=PySem.F.ks_slot_super_ga.lookup
 have hcan:=PySem.F.ks_canon_super_ga
 have hT : ∀ t',(⟨h,g,d,t',os⟩ : Shared).TypeIs (.ref so) "super":=fun _ => ⟨_,hso,rfl⟩
 have run:=sup_ga (prog:=prog) (w:=w) (A:=A.in1) (t:=t + 1) (g:=g) (d:=d) (os:=os) (tk:=t) (Q:=fun fin s' => ∃ v,fin = .done (.ret v) ∧ v = .ref h.objs.size ∧ s' = ⟨h.push ob,g,d,t + 1,os⟩) (E:=fun _ _ => False) hso hno hC hl X hf hty hg hxC hn (hcall _) ⟨_,rfl,rfl,rfl⟩
 unfold getMethod
 refine wpAny_bind (wpAny_specialOf (hT _) hlk ?_)
 show wpAny _ _ (if (Manifest.canonical "super.__getattribute__" != "object.__getattribute__") = true then _ else _) _ _ _
 rw [if_pos hcan]
 unfold getAttr getAttrBy
 refine wpAny_bind (wpAny_bind (wpAny_mkText (wpAny_holding (wpAny_bind (wpAny_typeOf (hT _) (wpAny_bind (wpAny_of_eq hlk ?_)))))))
 show wpAny _ _ (getAttrByItsOwn (.ref so) (.str name t) (.type "super") (.builtin "super.__getattribute__") true false) _ _ _
 unfold getAttrByItsOwn hookBefore callGetattribute boundAndCalled
 refine wpAny_bind (wpAny_of_eq (show (if onTheHeap (.type "super") then typeLookup (.type "super") "__getattr__" else pure none) = pure none from rfl) ?_)
 refine wpAny_bind (wpAny_attempt (wpAny_holding ?_))
 show wpAny _ _ (bindSpecial (.builtin "super.__getattribute__") (.ref so) >>= _) _ _ _
 refine wpAny_bind (wpAny_of_eq (PySem.F.ks_slot_super_ga.bind _) ?_)
 refine wpAny_mono (Q:=fun v s' => v = .ref h.objs.size ∧ s' = ⟨h.push ob,g,d,t + 1,os⟩) (E:=fun _ _ => False)
  (wpAny_call_entry (rest:=[.str name t]) PySem.F.ks_slot_super_ga (hT _) PySem.F.ks_entry_super_ga (wpAny_mono run (fun fin s' hv => ?_) fun _ _ e => e) (PySem.F.ks_gaArgs_super _ _)) (fun v s' hv => ?_) fun _ _ z => z.elim
 ·obtain ⟨v,h1,h2,h3⟩:=hv
  exact ⟨v,h1,h2,h3⟩
 ·obtain ⟨rfl,rfl⟩:=hv
  exact wpAny_pure (wpAny_pure hq)
private theorem q8d {b x : Addr} {T id : String} {B : Builtin} {S : PySem.Spec} {pos : Pos} {Q : Value → Shared → Prop} (hT : T = "builtin_function_or_method" ∨ T = "method-wrapper") (hb : h.get? b = some { cls:=.type T,dict:=none,data:=.fields #[.builtin id,.ref x],slots:=#[] })
  (hck : ∀ (A : Around) (Q : Unit → Shared → Prop) (E : Value → Shared → Prop),Q () ⟨h,g,d,t,os⟩ → wpAny (model prog w) A (checkBoundCall id ⟨[.ref x],[]⟩) Q E ⟨h,g,d,t,os⟩)
  (hp : plainId id = true) (entry : entryFor table id = some B) (gm : Meets (B ⟨[.ref x],[]⟩) S) (hS : S A (wants Q E) ⟨h,g,d,t,os⟩) :
  wpAny (model prog w) A (callWith pos (.ref b) [] (backTo pos (starEach [] env)) []) Q E ⟨h,g,d,t,os⟩:=by
 have run : wpAny (model prog w) A (call (.ref b) []) Q E ⟨h,g,d,t,os⟩:=by
  refine wpAny_call (codeAny_of_tree ?_)
  show wpAny _ A.in1 (callAny (.ref b) ⟨[],[]⟩) _ _ _
  unfold callAny
  refine wpAny_bind (wpAny_load hb ?_)
  have hc : ((Value.type T == Value.type "method") || (Value.type T == Value.type "builtin_function_or_method") || (Value.type T == Value.type "method-wrapper")) = true:=by rcases hT with rfl | rfl <;> decide
  have hc2 : (Value.type T != Value.type "method") = true:=by rcases hT with rfl | rfl <;> decide
  dsimp only
  rw [if_pos hc]
  show wpAny _ A.in1 (if (Value.type T != Value.type "method") = true then _ else _) _ _ _
  rw [if_pos hc2]
  refine wpAny_bind (hck _ _ _ ?_)
  exact wpAny_pure ⟨plainId_quiet hp _,codeAny_builtin entry (by rw [Around.under_plainId hp _];exact gm prog w A (wants Q E) _ hS)⟩
 unfold callWith
 refine wpAny_bind (wpAny_holding (evalArgs_nil3 (wpAny_bind (wpAny_standAt ?_))))
 have hk : (Value.type T != Value.type "method") = true:=by rcases hT with rfl | rfl <;> decide
 have hk2 : (Value.type T == Value.type "builtin_function_or_method" || Value.type T == Value.type "method-wrapper") = true:=by rcases hT with rfl | rfl <;> decide
 refine wpAny_bind (m:=keeperOf (.ref b)) ?_
 unfold keeperOf
 refine wpAny_bind (wpAny_load hb ?_)
 show wpAny _ _ (if (Value.type T != Value.type "method") = true then _ else _) _ _ _
 rw [if_pos hk]
 refine wpAny_pure ?_
 dsimp only
 rw [if_pos hk2]
 show wpAny _ _ (call (.ref b) [] >>= _) _ _ _
 exact wpAny_bind (wpAny_mono run (fun r s₂ hr => wpAny_bind (wpAny_holding (wpAny_point (wpAny_pure hr)))) fun _ _ x => x)
private theorem w0k : builtinKind "list.__len__" = some .slot ∧ builtinKind "list.__init__" = some .slot ∧ builtinKind "list.pop" = some .method:=by decide +kernel
private theorem w0y {i : String} {x : Addr} {s : Shared} {Q : Unit → Shared → Prop} {M : Model} (hk : builtinKind i = some .slot) (ha : argsOk i ⟨[.ref x],[]⟩) (hq : Q () s) : wpAny M A (checkBoundCall i ⟨[.ref x],[]⟩) Q E s:=by
 unfold checkBoundCall
 cases hsig : Manifest.signature? i with
 | none => exact wpAny_pure hq
 | some sig =>
  simp only [argsOk,hsig] at ha
  have h2 : Bind.checkArgs i sig ⟨[.ref x],[]⟩ = pure ():=ha
  simp only [hk]
  rw [if_pos (by decide),h2]
  exact wpAny_pure hq
private theorem sig_pop : Manifest.signature? "list.pop" = some ⟨.positional,"list.pop","pop",.self,[⟨"index",.posOnly,false⟩]⟩:=by kernel_rfl
private theorem va_pop : Manifest.varargsMethods.contains "list.pop" = false:=by decide +kernel
private theorem args_pop (x : Addr) : Bind.checkArgs "list.pop" ⟨.positional,s!"{"_Accumulator"}.{Bind.lastOf "list.pop"}","pop",.self,[⟨"index",.posOnly,false⟩]⟩ ⟨[.ref x],[]⟩ = pure ():=by kernel_rfl
private theorem w9b {x Cl : Addr} {ox : Obj} {cd : ClassData} {Q : Unit → Shared → Prop} {K : Frag} (X : K.In h) (hx : h.get? x = some ox) (hc : ox.cls = .ref Cl) (hn : ∀ c,ox.data ≠ .cls c) (hcd : clsIn K Cl = some cd) (hm : mroIn K Cl (.type "module") = some false) (htc : typeIn K (.ref Cl) = some (.type "type")) (hqn : cd.qualname.toString = "_Accumulator") (hq : Q () ⟨h,g,d,t,os⟩) :
  wpAny (model prog w) A (checkBoundCall "list.pop" ⟨[.ref x],[]⟩) Q E ⟨h,g,d,t,os⟩:=by
 have hty : Looks (model prog w) h (typeOf (.ref x)) (.ref Cl):=hc ▸ (Looks.ld hx).andThen .now
 unfold checkBoundCall
 rw [sig_pop]
 simp only [w0k.2.2]
 rw [if_neg (by decide)]
 have hmod : Looks (model prog w) h (isInstance (.ref x) (.type "module")) false:=hty.andThen (looks_mroIn X hm)
 refine wpAny_bind (hmod.at ?_)
 simp only [va_pop,Bool.or_self,Bool.false_eq_true,if_false]
 refine wpAny_bind (m:=isType (.ref x)) (ks_wpAny_isType_inst hx hn ?_)
 simp only [Bool.false_eq_true,if_false]
 refine wpAny_bind (hty.at ?_)
 dsimp only
 refine wpAny_bind ((looks_clsIn (M:=model prog w) X hcd).at ?_)
 refine wpAny_bind ((looks_typeIn (M:=model prog w) X htc).at ?_)
 rw [if_pos (by decide),hqn,args_pop]
 exact wpAny_pure hq
end
end
section
open PySem PySem.W PySem.Calls PyProof.Rows
variable {prog : Program} {w : World}
section
variable {A : Around} {E : Value → Shared → Prop} {s : Shared}
noncomputable def SubAt (h : Heap) (x : Addr) (items : Array Value) : Prop:=∃ o,h.get? x = some o ∧ ∃ n,o.data = .seq items n
private theorem z3a {it l : Addr} {i : Nat} {items : Array Value} {x : Value} {Q : Option Value → Shared → Prop} (hit : s.heap.IsListIter it l i) (hl : SubAt s.heap l items) (hx : items[i]? = some x)
  (hQ : ∀ h',h'.IsListIter it l (i + 1) → Heap.SameBut it s.heap h' → Q (some x) { s with heap:=h' }) : wpAny (model prog w) A (pyNext (.ref it)) Q E s:=by
 obtain ⟨o,ho,hc,hd⟩:=id hit
 obtain ⟨ol,hol,nl,hdl⟩:=hl
 have run : wpAny (model prog w) A (call (.builtin "list_iterator.__next__") [.ref it]) (fun v s' => v = x ∧ ∃ h',h'.IsListIter it l (i + 1) ∧ Heap.SameBut it s.heap h' ∧ s' = { s with heap:=h' }) (fun _ _ => False) s:=by
  refine wpAny_call_entry slot_listiter_next hit.typeIs entry_listiter_next ?_ (args_listiter_next _)
  show wpAny _ _ (field (.ref it) 0 >>= _) _ _ s
  refine wpAny_bind (wpAny_field ho hd (x:=.ref l) rfl ?_)
  rw [if_neg (show ¬ ((Value.ref l == Value.none) = true) from Bool.false_ne_true)]
  show wpAny _ _ (field (.ref it) 1 >>= _) _ _ s
  refine wpAny_bind (wpAny_field ho hd (x:=.int i 0) rfl ?_)
  show wpAny _ _ (seqItems? (.ref l) >>= _) _ _ s
  refine wpAny_bind (wpAny_seqItems hol hdl ?_)
  simp only [Int.toNat_natCast,hx]
  refine wpAny_bind (wpAny_setField ho hd (by simp) (wpAny_pure ⟨x,rfl,rfl,_,⟨_,Heap.get?_update_self _ ho (Obj.isFreed_of_fields (Obj.data_mapFields hd _)),(Obj.cls_mapFields ..).trans hc,?_⟩,Heap.SameBut.update ..,rfl⟩))
  rw [Obj.data_mapFields hd];simp [rawInt]
 unfold pyNext
 refine wpAny_bind (wpAny_attempt (wpAny_callSpecial?_slot (name:=Str.ofString "__next__") hit.typeIs slot_listiter_next (wpAny_mono run (fun v s' hv => ?_) fun _ _ e => e.elim)))
 obtain ⟨rfl,h',h1,h2,rfl⟩:=hv
 exact wpAny_pure (hQ h' h1 h2)
private theorem z2z {it l : Addr} {i : Nat} {items : Array Value} {Q : Option Value → Shared → Prop} (hh : A.handled = none) (hit : s.heap.IsListIter it l i) (hl : SubAt s.heap l items) (hx : items[i]? = none)
  (hQ : ∀ h',Heap.ExtBut it s.heap h' → Q none { s with heap:=h' }) : wpAny (model prog w) A (pyNext (.ref it)) Q E s:=by
 obtain ⟨o,ho,hc,hd⟩:=id hit
 obtain ⟨ol,hol,nl,hdl⟩:=hl
 have run : wpAny (model prog w) A (call (.builtin "list_iterator.__next__") [.ref it]) (fun _ _ => False) (fun e s' => s'.TypeIs e "StopIteration" ∧ ∃ h',Heap.ExtBut it s.heap h' ∧ s' = { s with heap:=h' }) s:=by
  refine wpAny_call_entry slot_listiter_next hit.typeIs entry_listiter_next ?_ (args_listiter_next _)
  show wpAny _ _ (field (.ref it) 0 >>= _) _ _ s
  refine wpAny_bind (wpAny_field ho hd (x:=.ref l) rfl ?_)
  rw [if_neg (show ¬ ((Value.ref l == Value.none) = true) from Bool.false_ne_true)]
  show wpAny _ _ (field (.ref it) 1 >>= _) _ _ s
  refine wpAny_bind (wpAny_field ho hd (x:=.int i 0) rfl ?_)
  show wpAny _ _ (seqItems? (.ref l) >>= _) _ _ s
  refine wpAny_bind (wpAny_seqItems hol hdl ?_)
  simp only [Int.toNat_natCast,hx]
  refine wpAny_bind (wpAny_rule (wpAny_bind (wpAny_setField ho hd (by simp) ?_)))
  show wpAny _ _ (newExc (.type "StopIteration") [] >>= _) _ _ _
  refine wpAny_bind ?_
  simp only [newExc,newTuple]
  refine wpAny_bind (wpAny_newObj_type ?_ (by size_fits))
  refine wpAny_bind (m:=firstArgMember _ _) (wpAny_of_eq (a:=Value.none) (by first | rfl | (simp only [firstArgMember];rfl)) ?_)
  refine wpAny_newObj_type ?_ (by size_fits)
  simp only [raiseNew]
  refine wpAny_bind (wpAny_handled ?_)
  rw [show A.in1.handled = none from hh]
  exact wpAny_bind (wpAny_pure (wpAny_throw ⟨⟨_,Heap.get?_push_size _ rfl,rfl⟩,_,((Heap.SameBut.update ..).extBut.push _).push _,rfl⟩))
 unfold pyNext
 refine wpAny_bind (wpAny_attempt (wpAny_callSpecial?_slot (name:=Str.ofString "__next__") hit.typeIs slot_listiter_next (wpAny_mono run (fun v s' hv => hv.elim) fun e s' hv => ?_)))
 obtain ⟨hT,h',h1,rfl⟩:=hv
 refine wpAny_bind (wpAny_isInstance (T:="StopIteration") (b:=true) hT isSubtype_stop ?_)
 exact wpAny_pure (hQ h' h1)
private theorem SubAt.at' {h h' : Heap} {x : Addr} {items : Array Value} (a : SubAt h x items) (hk : ∀ o,h.get? x = some o → h'.get? x = some o) : SubAt h' x items:=let ⟨o,e,r⟩:=a;⟨o,hk o e,r⟩
private theorem walkSub (hh : A.handled = none) (I ax : Addr) (hne : ax ≠ I) (items : Array Value) (Ts : Nat → Addr) (vals : Nat → Array Value)
  (hit : ∀ j,j < items.size → items[j]? = some (.ref (Ts j))) (hTI : ∀ j,j < items.size → Ts j ≠ I) :
  WalksU prog w A I (I :: ax :: (List.range items.size).map Ts) [I] items.size (fun j v => j < items.size ∧ v = vals j)
   (fun j h => h.IsListIter I ax j ∧ SubAt h ax items ∧ ∀ k,k < items.size → h.IsTuple (Ts k) (vals k))
   (fun j T h => (j < items.size ∧ T = Ts j) ∧ h.IsListIter I ax (j + 1) ∧ SubAt h ax items ∧ ∀ k,k < items.size → h.IsTuple (Ts k) (vals k)) where
 sub:=fun b hb => by simp at hb;simp [hb]
 frame:=fun _ _ _ st hk => ⟨st.1.at fun o e => hk I (by simp) o e,st.2.1.at' fun o e => hk ax (by simp) o e,
  fun k hk' => (st.2.2 k hk').at fun o e => hk (Ts k) (List.mem_cons_of_mem _ (List.mem_cons_of_mem _ (List.mem_map.mpr ⟨k,List.mem_range.mpr hk',rfl⟩))) o e⟩
 item:=fun i s Q E hi st hQ => by
  refine z3a st.1 st.2.1 (x:=.ref (Ts i)) (hit i hi) fun h' hit' hs' => ?_
  have tup : ∀ k,k < items.size → h'.IsTuple (Ts k) (vals k):=fun k hk' => (st.2.2 k hk').extBut hs'.extBut (hTI k hk')
  exact hQ (Ts i) (vals i) h' s.toks ⟨hi,rfl⟩ (tup i hi) ⟨⟨hi,rfl⟩,hit',st.2.1.at' fun o e => hs'.extBut _ o hne e,tup⟩ fun b o hb e => hs'.extBut b o (fun h => hb (by simp [h])) e
 go:=fun _ _ _ _ _ s Q _ hm hQ => wpAny_letOwnedTupleGo_listiter hm.2.1 (hQ s.heap hm.2 fun _ _ _ e => e)
 apart:=fun j T _ hm hmem => by
  rcases List.mem_cons.mp hmem with e | e
  ·exact hTI j hm.1.1 (hm.1.2 ▸ e)
  ·cases e
 done:=fun s Q E st hQ => z2z hh st.1 st.2.1 (by simp) fun h' he' => hQ h' s.toks fun b o hb e => he' b o (fun h => hb (by simp [h])) e
 self:=fun _ _ _ _ st hQ => wpAny_pyIter_listiter st.1 hQ
end
section
variable {A : Around} {E : Value → Shared → Prop} {s : Shared} {I : Addr} {fp wr : List Addr} {G : Array GenState → Array GenState → Prop} {n : Nat} {P : Nat → Value → Prop} {St : Nat → Shared → Prop}
private theorem walkOn (W : WalksS prog w A I fp wr G n P St) (P0 : Value → Prop) : WalksS prog w A I fp wr G (n + 1) (fun i v => match i with | 0 => P0 v | i + 1 => P i v) (fun i s => match i with | 0 => False | i + 1 => St i s) where
 sub:=W.sub
 grefl:=W.grefl
 gtrans:=W.gtrans
 frame:=fun i s h' tk st hk hf => by cases i with | zero => exact st.elim | succ i => exact W.frame i s h' tk st hk hf
 item:=fun i s Q E hi st hQ => by
  cases i with
  | zero => exact st.elim
  | succ i => exact W.item i s Q E (by lia) st fun v s' h1 h2 h3 => hQ v s' h1 h2 h3
 done:=fun s Q E st hQ => W.done s Q E st hQ
 self:=fun i s Q E st hQ => by cases i with | zero => exact st.elim | succ i => exact W.self i s Q E st hQ
private theorem q9y (k : Int) (val : Nat → Int) : ∀ n,preSum (fun i => match i with | 0 => k | i + 1 => val i) (n + 1) = k + preSum val n
 | 0 => by simp [preSum]
 | n + 1 => by
  rw [preSum,q9y k val n]
  simp only [preSum]
  lia
private theorem z2k (a b : Value) : argsOk "sum" ⟨[a,b],[]⟩:=by unfold argsOk;kernel_rfl
private theorem z1y {x : Value} {k : Int} {tk : Tok} {Q : Value → Shared → Prop} (hk : InLong k)
  (h : wpAny (model prog w) A.in1 (pyIter x) (fun it s₂ => ∃ I fp wr G n P St val,it = .ref I ∧ WalksS prog w A.in1 I fp wr G n P St ∧ St 0 s₂ ∧ (∀ b ∈ fp,b < s₂.heap.objs.size) ∧
   (∀ i v,P i v → ∃ t,v = .int (val i) t) ∧ (∀ j,j < n → InLong (val j) ∧ InLong (k + preSum val (j + 1))) ∧ ∀ s' t',Moved wr G s₂ s' → Q (.int (k + preSum val n) t') s') E s) :
  wpAny (model prog w) A (call (.builtin "sum") [x,.int k tk]) Q E s:=by
 refine call_function_tree PySem.F.kind_sum PySem.F.plain_sum PySem.F.entry_sum (z2k _ _) ?_
 unfold Builtin.«sum»
 simp only [List.length_cons,List.length_nil]
 rw [if_neg (by decide)]
 refine wpAny_bind (wpAny_of_eq (show Builtin.Builtins.bindParams "sum" ["start"] 0 ⟨[.int k tk],[]⟩ = pure [some (.int k tk)] from rfl) ?_)
 refine wpAny_bind (wpAny_mono h (fun it s₂ h₂ => ?_) fun _ _ e => e)
 obtain ⟨I,fp,wr,G,n,P,St,val,rfl,W,hst,hfp,hval,hfit,hQ⟩:=h₂
 have hc : (decide (-(2 ^ 63) ≤ k) && decide (k < 2 ^ 63)) = true:=by obtain ⟨h1,h2⟩:=hk;simp only [Bool.and_eq_true,decide_eq_true_eq];exact ⟨h1,h2⟩
 dsimp only
 rw [if_pos (by exact hc)]
 ·refine wpAny_bind (wpAny_rule (wpAny_bind (wpAny_mkInt ?_)))
  refine wpAny_bind (wpAny_pure ?_)
  simp only [List.forIn_cons,List.forIn_nil]
  refine wpAny_bind (wpAny_bind (wpAny_bind (wpAny_isInstance (T:="int") (b:=false) (typeIs_int _ _ _) PySem.sub_int_str ?_)))
  simp only [Bool.false_eq_true,if_false]
  refine wpAny_pure (wpAny_bind (wpAny_bind (wpAny_isInstance (T:="int") (b:=false) (typeIs_int _ _ _) PySem.sub_int_bytes ?_)))
  simp only [Bool.false_eq_true,if_false]
  refine wpAny_pure (wpAny_bind (wpAny_bind (wpAny_isInstance (T:="int") (b:=false) (typeIs_int _ _ _) PySem.sub_int_bytearray ?_)))
  simp only [Bool.false_eq_true,if_false]
  refine wpAny_pure (wpAny_pure ?_)
  refine wpAny_bind (wpAny_newObj_type ?_)
  have hSf : s₂.heap.objs.size ∉ fp:=fun hm => Nat.lt_irrefl _ (hfp _ hm)
  have h0 : preSum (fun i => match i with | 0 => k | i + 1 => val i) 1 = k:=by simp [preSum]
  refine wpAny_pure ⟨plainId_quiet PySem.F.plain_sum_loop _,codeAny_sum_loopS (walkOn W fun v => ∃ t,v = .int k t) (fun i => match i with | 0 => k | i + 1 => val i) (fun i v hP => by cases i with | zero => exact hP | succ i => exact hval i v hP) (fun j hj => ?_) s₂.heap.objs.size hSf n 1 _ s₂.toks 0 (by lia) (by lia)
   (W.frame 0 s₂ _ _ hst (by first | exact Nat.le_refl _ | exact Nat.le_succ _ | lia) fun b _ o e => Heap.get?_push_of_some _ e) (by rw [h0];exact Heap.get?_push_size _ rfl) fun s' t' hm => ?_⟩
  ·cases j with
   | zero => exact ⟨hk,by rw [h0];exact hk⟩
   | succ j => exact ⟨(hfit j (by lia)).1,by rw [q9y];exact (hfit j (by lia)).2⟩
  ·rw [q9y]
   exact hQ s' t' (hm.drop_new (by first | exact Nat.le_refl _ | exact Nat.le_succ _ | lia))
end
end
section
open PySem PySem.W PySem.Calls PyProof.Rows
variable {prog : Program} {w : World}
section
variable {C : Cfg} {mu mu' nu : List Addr} {s₀ s s' : Shared} {env : Env} {ρ : List (PySem.Str × PV)} {σ σ' : List (Addr × MO)} {A : Around} {E : Value → Shared → Prop}
noncomputable def NoCode (o : Obj) : Prop:=∀ vs q t,o.data = .fields vs → vs[1]? ≠ some (.str q t)
private theorem Ok.free {wr : List Addr} (O : Ok C mu s) (hk : ∀ b o,b ∉ wr → s.heap.get? b = some o → s'.heap.get? b = some o) (hw : ∀ b ∈ wr,b ∉ mu ∧ b ∉ C.tabs ∧ C.H.get? b = none ∧ ∀ o,s.heap.get? b = some o → NoCode o) (hg : AllBare s'.gens) (ho : s'.os = s.os) : Ok C mu s' where
 old:=fun b o e ht => hk b o (fun q => by rw [(hw b q).2.2.1] at e;cases e) (O.old b o e ht)
 tab:=fun x hx => by
  obtain ⟨ps,a,b,c⟩:=O.tab x hx
  refine ⟨ps,hk _ _ (fun q => (hw _ q).2.1 (List.mem_map_of_mem hx)) a,b,fun pos c' e => ?_⟩
  obtain ⟨d,e1,e2,e3⟩:=c pos c' e
  refine ⟨d,e1,e2,?_⟩
  obtain ⟨c₁,o,vs,t,f1,f2,f3,f4⟩:=e3
  subst e1
  cases f1
  exact ⟨_,o,vs,t,rfl,hk _ _ (fun q => (hw _ q).2.2.2 o f2 vs _ t f3 f4) f2,f3,f4⟩
 code:=O.code
 live:=fun a ha => ⟨(O.live a ha).1,let ⟨o,e⟩:=(O.live a ha).2;⟨o,hk a o (fun q => (hw a q).1 ha) e⟩⟩
 gens:=hg
 os:=by rw [ho];exact O.os
 kin:=O.kin
 kt:=O.kt
 lim:=O.lim
 glob:=O.glob
 bmod:=O.bmod
private theorem ge_code {x : Addr × Addr × PySem.Str} {qual : PySem.Str} {scope : Scope} {pos : Pos} {Q : Value → Shared → Prop} (O : Ok C mu s) (hx : x ∈ C.T) (hcode : env.code = .ref x.1) (hq : x.2.2 = qual) (hT : C.T.all (fun y => y.2.1 != x.2.1 || y.2.2 == x.2.2) = true)
  (k : ∀ code s',Ok C mu s' → (∀ b o,b ≠ x.2.1 → s.heap.get? b = some o → s'.heap.get? b = some o) → s.heap.objs.size ≤ s'.heap.objs.size → s'.gens = s.gens → s'.os = s.os → Q code s') : wpAny (model prog w) A (genexprCode env pos qual scope) Q E s:=by
 have hP : x.2.1 ∈ C.tabs:=List.mem_map_of_mem hx
 obtain ⟨ps,hps,htr,hent⟩:=O.tab x hx
 obtain ⟨hhd,hct,_⟩:=O.code x hx
 obtain ⟨o,vs,file,tf,flags,tg,inF,text,tt,e1,e2,e3,e4,e5,e6,e7,e8,e9,e10⟩:=hhd
 have e1':=O.old _ _ e1 hct
 have hT' : ∀ y ∈ C.T,y.2.1 = x.2.1 → y.2.2 = qual:=fun y hy e => by
  have:=List.all_eq_true.mp hT y hy
  rw [← hq]
  simpa [e] using this
 have hok : s.heap.IsCode x.1 x.2.1 ps:=⟨o,vs,file,tf,flags,tg,inF,text,tt,_,e1',e3,e5,e6,e7,e8,e9,hps,rfl,htr,e10⟩
 have htab : s.heap.TableAt x.1 x.2.1 ps:=⟨⟨o,vs,e1',e2,e3,e4⟩,hps⟩
 cases hf : codeAmong pos ps.toList with
 | none =>
  refine wpAny_genexprCodeX hcode hok htab hf fun c' h' tk hx' hge hlt hok' hrec' htab' _ => k _ _ (O.grow hx rfl hq hT' hps hx' hge hrec' htab'.2) (fun b o hb e => hx' b o hb e) (Nat.le_trans hge (Nat.le_of_lt hlt)) rfl rfl
 | some cv =>
  unfold genexprCode codeAt
  rw [hcode,if_neg (show ¬ ((Value.ref x.1 == Value.none) = true) from Bool.false_ne_true)]
  refine wpAny_bind (wpAny_fieldsOf e1' e3 ?_)
  rw [e5]
  refine wpAny_bind (wpAny_fieldsOf hps rfl ?_)
  rw [hf]
  exact wpAny_pure (k cv s O (fun _ _ _ e => e) (Nat.le_refl _) rfl rfl)
private theorem w5v {Q : Addr → Shared → Prop} (O : Ok C mu s) (hg : env.globals = mainGlobals) (k : Q builtinsNs s) : wpAny (model prog w) A (builtinsFor env.globals env.builtins) Q E s:=by
 obtain ⟨bm,ob,h1,h2,h3,h4,h5,h6,h7,h8⟩:=O.bmod
 rw [hg]
 exact wpAny_builtinsFor O.globals h1 h2 (O.old _ _ h5 h4) h6 h7 h8 k
noncomputable abbrev pairPV (p : PySem.Str × PySem.Str) : PV:=.tup [.str p.1,.str p.2]
private theorem pairs_at {h : Heap} {l : List (PySem.Str × PySem.Str)} {vs : List Value} (y : Sims h mu (l.map pairPV) vs) {j : Nat} {p : PySem.Str × PySem.Str} (hj : l[j]? = some p) :
  ∃ T va vb n t u,vs[j]? = some (.ref T) ∧ T ∉ mu ∧ h.get? T = some { cls:=.type "tuple",data:=.seq #[va,vb] n } ∧ va = .str p.1 t ∧ vb = .str p.2 u:=by
 obtain ⟨v,e,T,ws,n,rfl,hT,hob,hws⟩:=y.get j (pairPV p) (by rw [List.getElem?_map,hj];rfl)
 obtain ⟨v₁,r,rfl,⟨t,h1⟩,v₂,r₂,rfl,⟨u,h2⟩,hr⟩:=hws
 cases (show r₂ = [] from hr)
 exact ⟨T,v₁,v₂,n,t,u,e,hT,hob,h1,h2⟩
private theorem w6n {I : Addr} {fp wr : List Addr} {G : Array GenState → Array GenState → Prop} {n m : Nat} {P P' : Nat → Value → Prop} {St : Nat → Shared → Prop} (W : WalksS prog w A I fp wr G n P St) (hn : n = m) (hP : ∀ i v,P i v → P' i v) : WalksS prog w A I fp wr G m P' St where
 sub:=W.sub
 grefl:=W.grefl
 gtrans:=W.gtrans
 frame:=W.frame
 item:=fun i s Q E hi st hQ => W.item i s Q E (hn ▸ hi) st fun v s' h1 h2 h3 => hQ v s' (hP i v h1) h2 h3
 done:=fun s Q E st hQ => W.done s Q E (hn ▸ st) hQ
 self:=W.self
private theorem q9z (n : Nat) : passing (fun _ => true) n 0 = List.range n:=by
 unfold passing
 simp
noncomputable def tAt (vs : List Value) (j : Nat) : Addr:=match vs[j]? with | some (.ref a) => a | _ => 0
noncomputable def tVals (h : Heap) (a : Addr) : Array Value:=match h.get? a with | some o => (match o.data with | .seq items _ => items | _ => #[]) | none => #[]
private theorem Act.inst {x dx Cl : Addr} {ps : List PV} {od : Obj} (a : Act env mu s.heap ρ σ) (hl : σ.lookup x = some (.seq (.ref Cl) (some dx) ps)) (hod : σ.lookup dx = some (.raw od)) : ∃ vs n,s.heap.get? x = some (subO (.ref Cl) (some dx) (List.toArray vs) n) ∧ Sims s.heap mu ps vs ∧ InstAt s.heap x (subO (.ref Cl) (some dx) (List.toArray vs) n) Cl (some od):=by
 obtain ⟨_,_,vs,n,e,y⟩:=a.st x _ hl
 exact ⟨vs,n,e,y,⟨e,rfl,rfl,(a.st dx _ hod).2.2⟩⟩
private theorem z1e {elt iter : Expr} {xa xb : PySem.Str} {pa pb pt : Pos} {kt : Nat} {scope : Scope} {cl : List (PySem.Str × Addr)} {pos : Pos} {x dx Cl : Addr} {od : Obj} {l : List (PySem.Str × PySem.Str)} {tb : Addr × Addr × PySem.Str} {g : PySem.Str × PySem.Str → PV} {Q : Value → Shared → Prop}
  (O : Ok C mu s) (a : Act env mu s.heap ρ σ) (hA : A.handled = none) (hroom : A.depth < recursionLimit)
  (hco : scope.isCoroutine = false) (hclos : closureFor scope env = pure cl) (hcell : ∀ y ∈ scope.names,y.2 ≠ .cell) (h0 : scope.names.lookup (".0" : PySem.Str) = some NameKind.local)
  (hxa : scope.names.lookup xa = some .local) (hxb : scope.names.lookup xb = some .local) (hab : xa ≠ xb) (hkind : scope.kind = .function)
  (hx : PurE prog w C mu A env ρ σ iter (.val (.ref x))) (hl : σ.lookup x = some (.seq (.ref Cl) (some dx) (l.map pairPV))) (hod : σ.lookup dx = some (.raw od))
  (hm : mroIn C.K Cl (.type "list") = some true) (hit : findIn C.K (.ref Cl) "__iter__" = some (some (.builtin "list.__iter__")))
  (htb : tb ∈ C.T) (hcode : env.code = .ref tb.1) (hq : tb.2.2 = env.qual ++ "<genexpr>") (hT : C.T.all (fun y => y.2.1 != tb.2.1 || y.2.2 == tb.2.2) = true) (hs : ∀ x,genFold iter env x = pure x)
  (helt : ∀ (A' : Around) E' L code p va vb (s₂ : Shared) m₂,A'.handled = none → A'.depth ≤ A.depth + 1 → A'.units ≤ A.units + 8 → p ∈ l → (∃ t,va = .str p.1 t) → (∃ t,vb = .str p.2 t) → C.K.In s₂.heap → s₂.heap.Ns L m₂ → m₂ xa = some va → m₂ xb = some vb →
   wpAny (model prog w) A' (eval elt (genEnv scope cl L code builtinsNs env)) (fun y s₃ => (∀ h,Sim h [] (g p) y) ∧ Keeps s₂ s₃) E' s₂)
  (k : ∀ ga s' fp wr St G,Ok C mu s' → Kp C [] s s' → WalksS prog w A.in4 ga fp wr G l.length (fun j y => ∃ p,l[j]? = some p ∧ ∀ h,Sim h [] (g p) y) St → (∀ i s,St i s → s.TypeIs (.ref ga) "generator") → St 0 s' → ga ∈ fp → (∀ b ∈ fp,b < s'.heap.objs.size) →
   (∀ s'',Moved wr G s' s'' → Ok C mu s'' ∧ Kp C [] s s'') → Q (.ref ga) s') :
  wpAny (model prog w) A (eval (.GeneratorExp elt [⟨.Tuple [.Name xa pa,.Name xb pb] kt pt,iter,[],0⟩] scope pos) env) Q E s:=by
 refine wpAny_GeneratorExp_make hco hclos hcell h0 hkind hroom (hx s O a _ _ fun v s₁ O₁ k₁ y₁ => ?_) hs
 cases (show v = .ref x from y₁)
 have a₁:=a.kp O k₁
 obtain ⟨vs,n,hox,hvs,I₁⟩:=a₁.inst hl hod
 obtain ⟨hxmu,_,_⟩:=a₁.st x _ hl
 refine z3b (items:=vs.toArray) (n:=n) O₁.K I₁ hm hit ?_
 generalize hits : s₁.heap.objs.size = it
 have hitn : s₁.heap.get? it = none:=hits ▸ Ok.size_none s₁
 have O₂ : Ok C mu { s₁ with heap:=s₁.heap.push { cls:=.type "list_iterator",data:=.fields #[.ref x,.int 0 0] } }:=O₁.push (tk:=s₁.toks)
 have up₂ : ∀ b o,s₁.heap.get? b = some o → (s₁.heap.push { cls:=.type "list_iterator",data:=.fields #[.ref x,.int 0 0] }).get? b = some o:=fun b o e => Heap.get?_push_of_some _ e
 have hit₂ : (s₁.heap.push { cls:=.type "list_iterator",data:=.fields #[.ref x,.int 0 0] }).IsListIter it x 0:=⟨_,hits ▸ Heap.get?_push_size _ rfl,rfl,rfl⟩
 refine ⟨O₂.nolimit,ge_code O₂ htb hcode hq hT fun code s₄ O₄ k₄ hsz₄ hg₄ hos₄ => w5v O₄ a.gl fun h' hn' hs' => ?_⟩
 have hPtab : tb.2.1 ∈ C.tabs:=List.mem_map_of_mem htb
 have hfr:=O₁.fresh' hitn
 have up₄ : ∀ b o,b ∉ C.tabs → s₁.heap.get? b = some o → s₄.heap.get? b = some o:=fun b o hb e => k₄ b o (fun q => hb (q ▸ hPtab)) (up₂ b o e)
 have hit₄ : s₄.heap.IsListIter it x 0:=let ⟨o,e,r⟩:=hit₂;⟨o,k₄ it o (fun q => hfr.1 (q ▸ hPtab)) e,r⟩
 have hox₄:=up₄ _ _ (O₁.notTab hxmu) hox
 have hxit : x ≠ it:=fun q => by rw [q,hitn] at hox;cases hox
 -- the new frame,the generator
 generalize hL : s₄.heap.objs.size = L at hn' hs' ⊢
 have keep' : ∀ b o,s₄.heap.get? b = some o → h'.get? b = some o:=fun b o e => hs'.extBut b o (Nat.ne_of_lt (hL ▸ Heap.lt_size e)) (Heap.get?_push_of_some _ e)
 have hsz : h'.objs.size = L + 1:=by rw [hs'.1,Heap.size_push,hL]
 generalize hgo : ({ cls:=.type "generator",data:=.fields #[.int s₄.gens.size 0,.str "<genexpr>" (s₄.toks + 1),.str (env.qual ++ "<genexpr>") (s₄.toks + 1 + 1)] } : Obj) = go
 have keep₅ : ∀ b o,s₄.heap.get? b = some o → (h'.push go).get? b = some o:=fun b o e => Heap.get?_push_of_some _ (keep' b o e)
 generalize hgs : (GenState.fresh (.compStart (.GeneratorExp elt [⟨.Tuple [.Name xa pa,.Name xb pb] kt pt,iter,[],0⟩] scope pos) 0 (.ref it) .none (genEnv scope cl L code builtinsNs env))) = gs
 have hLn : s₄.heap.get? L = none:=hL ▸ Ok.size_none s₄
 have hfrL:=O₄.fresh' hLn
 have hbare : AllBare (s₄.gens.push gs):=fun y hy => by
  rcases Array.mem_push.mp hy with hy | hy
  ·exact O₄.gens y hy
  ·rw [hy,← hgs];rfl
 have O₅ : Ok C mu { s₄ with gens:=s₄.gens.push gs,toks:=s₄.toks + 1 + 1 + 1,heap:=h'.push go }:=O₄.free (wr:=[]) (fun b o _ e => keep₅ b o e) (fun _ h => nomatch h) hbare rfl
 have kk₄ : Kp C [] s₁ s₄:=⟨fun b o _ ht e => up₄ b o ht e⟩
 have kk₅ : Kp C [] s { s₄ with gens:=s₄.gens.push gs,toks:=s₄.toks + 1 + 1 + 1,heap:=h'.push go }:=(k₁.trans kk₄).trans ⟨fun b o _ _ e => keep₅ b o e⟩
 have hclt : cStatics < L:=by obtain ⟨_,hn,_⟩:=O₄.nolimit;exact hL ▸ hn.lt
 have hcit : cStatics ≠ it:=fun q => by
  obtain ⟨mc,⟨o,es,ep,ho,r⟩,h⟩:=O₁.nolimit
  rw [q,hitn] at ho;cases ho
 have hitlt : it < L:=by obtain ⟨o,e,_⟩:=hit₄;exact hL ▸ Heap.lt_size e
 have hlen : vs.length = l.length:=by rw [hvs.length,List.length_map]
 have hwr : ∀ b ∈ [it],b ∈ List.range L:=fun b hb => by simp at hb;subst hb;exact List.mem_range.mpr hitlt
 have tup : ∀ j,j < vs.toArray.size → ∃ p va vb t u,l[j]? = some p ∧ vs[j]? = some (.ref (tAt vs j)) ∧ tAt vs j ∉ mu ∧ s₁.heap.IsTuple (tAt vs j) (tVals s₁.heap (tAt vs j)) ∧ tVals s₁.heap (tAt vs j) = #[va,vb] ∧ va = .str p.1 t ∧ vb = .str p.2 u:=fun j hj => by
  have hj' : j < l.length:=by rw [← hlen];simpa using hj
  obtain ⟨T,va,vb,n',t,u,e1,e2,e3,e4,e5⟩:=pairs_at hvs (j:=j) (p:=l[j]) (by simp [hj'])
  have eT : tAt vs j = T:=by unfold tAt;rw [e1]
  have eV : tVals s₁.heap T = #[va,vb]:=by unfold tVals;rw [e3]
  refine ⟨l[j],va,vb,t,u,by simp [hj'],by rw [eT];exact e1,by rw [eT];exact e2,?_,by rw [eT];exact eV,e4,e5⟩
  rw [eT,eV]
  exact ⟨_,e3,rfl,n',rfl⟩
 have W₀ : ∀ A' : Around,A'.handled = none → WalksU prog w A' it (it :: x :: (List.range vs.toArray.size).map (tAt vs)) [it] vs.toArray.size _ _ _:=fun A' hA' => walkSub (prog:=prog) (w:=w) hA' it x hxit vs.toArray (tAt vs) (fun j => tVals s₁.heap (tAt vs j))
  (fun j hj => by obtain ⟨_,_,_,_,_,_,e,_⟩:=tup j hj;simpa using e) (fun j hj q => by
   obtain ⟨_,_,_,_,_,_,_,_,⟨o,e,_⟩,_⟩:=tup j hj
   rw [q,hitn] at e;cases e)
 have tupT : ∀ j,j < vs.toArray.size → s₄.heap.IsTuple (tAt vs j) (tVals s₁.heap (tAt vs j)):=fun j hj => by
  obtain ⟨_,_,_,_,_,_,_,_,⟨o,e,hc,r⟩,_⟩:=tup j hj
  exact ⟨o,up₄ _ _ (O₁.seqNotTab (.inr (by obtain ⟨_,_⟩:=o;exact hc)) e) e,hc,r⟩
 have hfp : ∀ b ∈ it :: x :: (List.range vs.toArray.size).map (tAt vs),b < L:=fun b hb => by
  rcases List.mem_cons.mp hb with rfl | hb
  ·exact hitlt
  ·rcases List.mem_cons.mp hb with rfl | hb
   ·exact hL ▸ Heap.lt_size hox₄
   ·obtain ⟨j,hj,rfl⟩:=List.mem_map.mp hb
    obtain ⟨o,e,_⟩:=tupT j (List.mem_range.mp hj)
    exact hL ▸ Heap.lt_size e
 have hcw : cStatics ∉ [it]:=fun h => hcit (by simpa using h)
 have hsz5 : (h'.push go).objs.size = L + 2:=by rw [Heap.size_push,hsz]
 have haL : h'.objs.size ≠ L:=by rw [hsz];exact Nat.succ_ne_self _
 have haf : h'.objs.size ∉ List.range L:=fun hm => by have:=List.mem_range.mp hm;lia
 have hll : vs.toArray.size = l.length:=by simp [hlen]
 let F : Nat → Value → Prop:=fun j y => ∃ p,l[j]? = some p ∧ ∀ h,Sim h [] (g p) y
 have W:=WalksS.genexpQ (prog:=prog) (w:=w) (A:=A.in4) hA h'.objs.size s₄.gens.size L (List.range L) [it] (fun _ => true) vs.toArray.size F haL haf hwr hroom (List.mem_range.mpr hclt) (Nat.ne_of_lt hclt) hcw
 have hNs : (h'.push go).Ns L (fun y => if y = ".0" then some (.ref it) else none):=hn'.push _
 have hNsL : ∀ o,(h'.push go).get? L = some o → NoCode o:=fun o e vs q t => by
  obtain ⟨o',es,ep,e',hd,_⟩:=hNs
  rw [e] at e';cases e'
  rw [hd];intro h;cases h
 have hitNC : ∀ o,(h'.push go).get? it = some o → NoCode o:=fun o e vs q t => by
  obtain ⟨o',e',hc,hd⟩:=hit₄
  rw [keep₅ _ _ e'] at e;cases e
  rw [hd]
  intro h hv
  cases h
  simp at hv
 have hgen : GenAt prog w A.in4 h'.objs.size s₄.gens.size L (List.range L) [it] (fun _ => true) vs.toArray.size F 0 { s₄ with gens:=s₄.gens.push gs,toks:=s₄.toks + 1 + 1 + 1,heap:=h'.push go }:=by
  refine GenAt.freshTD (A:=A.in4) (iter:=iter) (pa:=pa) (pb:=pb) (pt:=pt) (kt:=kt) (scope:=scope) (pos:=pos) (cenv:=genEnv scope cl L code builtinsNs env) (m:=fun y => if y = ".0" then some (.ref it) else none) hA
   (fun A' hA' => (W₀ A' hA').mono_fp fun b hb => List.mem_range.mpr (hfp b hb)) (fun j vals hP => ?_) hab (fun _ => true) F hxa hxb (by simp [genEnv,hkind]) hco
   (fun hm => Nat.lt_irrefl _ (List.mem_range.mp hm)) ⟨fun A' E' i va vb s₂ m₂ _ _ _ _ _ _ _ _ => ?_,fun A' E' i va vb s₂ m₂ hA' hD hU hP _ hNs₂ ha hb hkp => ?_⟩ ⟨_,_,_,Heap.get?_push_size _ (by rw [← hgo];rfl),by rw [← hgo],by rw [← hgo],by rw [← hgo]⟩ (by rw [hgs];exact Array.getElem?_push_size ..) ⟨?_,?_,?_⟩ hNs O₅.nolimit
  ·obtain ⟨hj,rfl⟩:=hP
   obtain ⟨p,va,vb,t,u,_,_,_,_,e,_⟩:=tup j hj
   exact ⟨va,vb,e⟩
  ·rw [List.forIn_nil]
   exact wpAny_pure ⟨rfl,s₂.heap,s₂.toks,rfl,fun _ _ e => e⟩
  ·obtain ⟨hj,e⟩:=hP
   obtain ⟨p,va',vb',t,u,e1,_,_,_,e2,e3,e4⟩:=tup i hj
   rw [e2] at e
   have e5 : va = va' ∧ vb = vb':=by simpa using e
   refine wpAny_mono (helt A' E' L code p va vb s₂ m₂ hA' hD (by exact hU) (List.mem_of_getElem? e1) ⟨t,by rw [e5.1,e3]⟩ ⟨u,by rw [e5.2,e4]⟩ (fun b o hb => ?_) hNs₂ ha hb) (fun y s₃ hy => ⟨⟨p,e1,hy.1⟩,hy.2⟩) fun _ _ e => e
   have h1:=O₄.K b o hb
   refine hkp b (List.mem_range.mpr (hL ▸ Heap.lt_size h1)) (fun q => ?_) o (keep₅ _ _ h1)
   simp at q
   have h2:=O₁.K b o hb
   rw [q,hitn] at h2;cases h2
  ·obtain ⟨o,e,r⟩:=hit₄;exact ⟨o,keep₅ _ _ e,r⟩
  ·exact ⟨_,keep₅ _ _ hox₄,n,rfl⟩
  ·exact fun j hj => by obtain ⟨o,e,r⟩:=tupT j hj;exact ⟨o,keep₅ _ _ e,r⟩
 refine k h'.objs.size _ _ _ _ _ O₅ kk₅ (w6n W (by rw [q9z,List.length_range,hll]) fun i v hP => ?_) (fun i s st => st.1.typeIs) hgen (List.mem_cons_self ..) (fun b hb => ?_) fun s'' M => ?_
 ·obtain ⟨j,h1,h2⟩:=hP
  rw [q9z] at h1
  have : j = i:=by
   obtain ⟨h3,h4⟩:=List.getElem?_eq_some_iff.mp h1
   simpa using h4.symm
  rw [← this]
  exact h2
 ·have hb2 : b < L + 2:=by
   rcases List.mem_cons.mp hb with e | hb
   ·rw [e,hsz];exact Nat.lt_succ_self _
   ·rcases List.mem_cons.mp hb with e | hb
    ·rw [e];exact Nat.lt_succ_of_lt (Nat.lt_succ_self _)
    ·exact Nat.lt_succ_of_lt (Nat.lt_succ_of_lt (List.mem_range.mp hb))
  exact Nat.lt_of_lt_of_eq hb2 hsz5.symm
 ·have hw : ∀ b ∈ L :: [it],b ∉ mu ∧ b ∉ C.tabs ∧ C.H.get? b = none ∧ ∀ o,(h'.push go).get? b = some o → NoCode o:=fun b hb => by
   rcases List.mem_cons.mp hb with e | hb
   ·rw [e];exact ⟨hfrL.2,hfrL.1,O₄.unborn hLn,hNsL⟩
   ·simp at hb;rw [hb]
    exact ⟨hfr.2,hfr.1,O₁.unborn hitn,hitNC⟩
  refine ⟨O₅.free (wr:=L :: [it]) M.heap hw (GenOnlyQ.bare M.gens hbare) M.os,⟨fun b o hbs hbt e => M.heap b o (fun q => ?_) (kk₅.keep b o hbs hbt e)⟩⟩
  rcases List.mem_cons.mp q with q | q
  ·have:=(k₁.trans kk₄).keep b o hbs hbt e
   rw [q,hLn] at this;cases this
  ·have:=k₁.keep b o hbs hbt e
   simp at q
   rw [q,hitn] at this;cases this
end
end
section
open PySem PySem.W PySem.Calls PyProof.Rows
variable {prog : Program} {w : World}
section
variable {C : Cfg} {mu mu' nu : List Addr} {s₀ s s' : Shared} {env cenv : Env} {ρ : List (PySem.Str × PV)} {σ σ' : List (Addr × MO)} {A : Around} {E : Value → Shared → Prop} {K : Frag}
noncomputable def GlobK (K : Frag) (x : PySem.Str) (v : Value) : Prop:=nsIn K mainGlobals x = some (some v) ∨ (nsIn K mainGlobals x = some none ∧ nsIn K builtinsNs x = some (some v))
structure CEnv (env : Env) (L : Addr) : Prop where
 kind : env.scope.kind = .function
 gl : env.globals = mainGlobals
 bi : env.builtins = builtinsNs
 loc : env.locals = L
private theorem w7k {x : PySem.Str} {v : Value} {pos : Pos} {L : Addr} {Q : Value → Shared → Prop} (X : K.In s.heap) (c : CEnv env L) (hl : env.kindOf x = some .globalImplicit) (hv : GlobK K x v) (h : Q v s)
  (hd : autoParam ((x == ("__debug__" : PySem.Str)) = false) tR) : wpAny (model prog w) A (eval (.Name x pos) env) Q E s:=by
 refine wpAny_Name ?_ hd
 have e : loadName env x = loadGlobal env x:=by
  unfold loadName Env.blockKind
  rw [c.kind,hl]
  rfl
 rw [e]
 unfold loadGlobal
 rw [c.gl,c.bi]
 rcases hv with hv | ⟨h1,h2⟩
 ·exact wpAny_bind ((looks_nsIn X hv).here (wpAny_pure h))
 ·exact wpAny_bind ((looks_nsIn X h1).here (wpAny_bind ((looks_nsIn X h2).here (wpAny_pure h))))
private theorem w6h {x : PySem.Str} {v : Value} {pos : Pos} {L : Addr} {m : PySem.Str → Option Value} {Q : Value → Shared → Prop} (c : CEnv env L) (hn : s.heap.Ns L m) (hl : env.kindOf x = some .local) (hv : m x = some v) (h : Q v s)
  (hd : autoParam ((x == ("__debug__" : PySem.Str)) = false) tR) : wpAny (model prog w) A (eval (.Name x pos) env) Q E s:=
 wpAny_Name (wpAny_loadName_local c.kind hl (c.loc ▸ hn) hv h) hd
private theorem c_len {y : PySem.Str} {p q p' : Pos} {L : Addr} {m : PySem.Str → Option Value} {x : PySem.Str} {t : Tok} {Q : Value → Shared → Prop} (X : K.In s.heap) (c : CEnv env L) (hn : s.heap.Ns L m) (hg : env.kindOf ("len" : PySem.Str) = some .globalImplicit) (hgl : GlobK K "len" (.builtin "len"))
  (hl : env.kindOf y = some .local) (hv : m y = some (.str x t)) (hsz : x.length < 2 ^ 60) (h : ∀ t' tk,Q (.int x.length t') { s with toks:=tk }) (hd : (y == ("__debug__" : PySem.Str)) = false)
  (he : autoParam (starEach [.Name y q] env = (false,eval (.Name y q) env) :: starEach [] env) tR) (hplain : autoParam ((backTo p' (starEach [] env)).any (·.1) = false) tR) : wpAny (model prog w) A (eval (.Call (.Name "len" p) [.Name y q] [] p') env) Q E s:=by
 refine Call_ (w7k X c hg hgl ?_)
 refine PyProof.Rows.callWith_builtin1 ?_ he hplain
 rw [he]
 exact spliced_cons (w6h c hn hl hv (spliced_nil (P.len_str (by lia) (h _ _))) hd)
private theorem elt_len {xa xb : PySem.Str} {p1 p2 p3 p4 p5 p6 p7 : Pos} {L : Addr} {m : PySem.Str → Option Value} {a b : PySem.Str × PySem.Str} {va vb : Value} {E' : Value → Shared → Prop} (X : K.In s.heap) (c : CEnv env L) (hn : s.heap.Ns L m) (hg : env.kindOf ("len" : PySem.Str) = some .globalImplicit) (hgl : GlobK K "len" (.builtin "len"))
  (hxa : env.kindOf xa = some .local) (hxb : env.kindOf xb = some .local) (ha : ∃ t,va = .str a.1 t) (hb : ∃ t,vb = .str a.2 t) (hva : m xa = some va) (hvb : m xb = some vb) (h1 : a.1.length < 2 ^ 60) (h2 : a.2.length < 2 ^ 60)
  (hda : (xa == ("__debug__" : PySem.Str)) = false) (hdb : (xb == ("__debug__" : PySem.Str)) = false) :
  wpAny (model prog w) A (eval (.BinOp (.Call (.Name "len" p1) [.Name xa p2] [] p3) .Add (.Call (.Name "len" p4) [.Name xb p5] [] p6) p7) env) (fun y s₃ => (∀ h,Sim h [] (.int ((a.1.length : Int) + a.2.length)) y) ∧ Keeps s s₃) E' s:=by
 obtain ⟨t,rfl⟩:=ha
 obtain ⟨u,rfl⟩:=hb
 exact wpAny_BinOp (c_len X c hn hg hgl hxa hva h1 (fun t' tk => c_len (s:={ s with toks:=tk }) X c hn hg hgl hxb hvb h2 (fun t'' tk' => add_int ⟨fun h => ⟨_,rfl⟩,_,_,rfl,fun _ _ e => e⟩) hdb) hda)
private theorem elt_join {g xa xb : PySem.Str} {p1 p2 p3 p4 p5 p6 : Pos} {kt : Nat} {L : Addr} {m : PySem.Str → Option Value} {a : PySem.Str × PySem.Str} {va vb : Value} {t0 : Tok} {E' : Value → Shared → Prop} {name : PySem.Str} (hname : name = PySem.Str.ofString "join") (X : K.In s.heap) (c : CEnv env L) (hn : s.heap.Ns L m) (hg : env.kindOf g = some .globalImplicit) (hgl : GlobK K g (.str ⟨#[]⟩ t0))
  (hxa : env.kindOf xa = some .local) (hxb : env.kindOf xb = some .local) (ha : ∃ t,va = .str a.1 t) (hb : ∃ t,vb = .str a.2 t) (hva : m xa = some va) (hvb : m xb = some vb) (hw : a.1.length + a.2.length + 2 ≤ 1048576)
  (hdg : (g == ("__debug__" : PySem.Str)) = false) (hda : (xa == ("__debug__" : PySem.Str)) = false) (hdb : (xb == ("__debug__" : PySem.Str)) = false)
  {pl : Sem Bool} (he : autoParam (eval (.Call (.Attribute (.Name g p1) name p2) [.Tuple [.Name xa p3,.Name xb p4] kt p5] [] p6) env = (do let ov ← eval (.Name g p1) env;standAt p2.atName;let __x ← holding [ov] (getMethod ov name pl);match __x with | (f,first) => callWith p6 f first (backTo p6 (starEach [.Tuple [.Name xa p3,.Name xb p4] kt p5] env)) [])) tR) :
  wpAny (model prog w) A (eval (.Call (.Attribute (.Name g p1) name p2) [.Tuple [.Name xa p3,.Name xb p4] kt p5] [] p6) env) (fun y s₃ => (∀ h,Sim h [] (.str (PySem.Txt.join ⟨#[]⟩ [a.1,a.2])) y) ∧ Keeps s s₃) E' s:=by
 subst hname
 obtain ⟨t,rfl⟩:=ha
 obtain ⟨u,rfl⟩:=hb
 refine MethodCall_ (pl:=pl) (w7k X c hg hgl ?_ hdg) he
 refine getMethod_builtin (typeIs_str s _ t0) PySem.F.plainAttrs_str PySem.F.slot_str_join PySem.F.type_str_join (fun b e => by cases e) ?_
 refine callWith_method1 ?_ rfl rfl
 show wpAny _ _ (spliced (backTo p6 [(false,eval (.Tuple [.Name xa p3,.Name xb p4] kt p5) env)])) _ _ _
 refine spliced_cons (Tuple_ (k:=kt) ?_)
 show wpAny _ _ (spliced (backTo p5 [(false,eval (.Name xa p3) env),(false,eval (.Name xb p4) env)])) _ _ _
 refine spliced_cons (w6h c hn hxa hva (spliced_cons (w6h c hn hxb hvb (spliced_nil ?_) hdb)) hda)
 refine wpAny_newObj_type ?_ (by show 2 ≤ sizeLine;decide +kernel)
 refine spliced_nil ?_
 refine join_tupleW (items:=[Value.str a.1 t,Value.str a.2 u].toArray) (ys:=[a.1,a.2]) ⟨_,Heap.get?_push_size _ rfl,rfl,_,rfl⟩ (StrsAre.cons _ _ (StrsAre.cons _ _ .nil)) (by decide) (by simpa using hw) fun t' tk => ?_
 exact ⟨fun h => ⟨_,rfl⟩,_,tk,rfl,fun b o e => Heap.get?_push_of_some _ e⟩
noncomputable def PurTk (prog : Program) (w : World) (C : Cfg) (mu : List Addr) (A : Around) (env : Env) (ρ : List (PySem.Str × PV)) (σ : List (Addr × MO)) (e : Expr) (p : PV) : Prop:=
 ∀ s,Ok C mu s → Act env mu s.heap ρ σ → ∀ (Q : Value → Shared → Prop) (E : Value → Shared → Prop),(∀ v tk,s.toks ≤ tk → (∀ h,Sim h [] p v) → Q v { s with toks:=tk }) → wpAny (model prog w) A (eval e env) Q E s
noncomputable def GenE (prog : Program) (w : World) (C : Cfg) (mu : List Addr) (A : Around) (env : Env) (ρ : List (PySem.Str × PV)) (σ : List (Addr × MO)) (e : Expr) (ps : List PV) : Prop:=
 ∀ s,Ok C mu s → Act env mu s.heap ρ σ → ∀ (Q : Value → Shared → Prop) (E : Value → Shared → Prop),
  (∀ ga s' fp wr St G,Ok C mu s' → Kp C [] s s' → WalksS prog w A.in4 ga fp wr G ps.length (fun j y => ∃ p,ps[j]? = some p ∧ ∀ h,Sim h [] p y) St → (∀ i s,St i s → s.TypeIs (.ref ga) "generator") → St 0 s' → ga ∈ fp → (∀ b ∈ fp,b < s'.heap.objs.size) →
   (∀ s'',Moved wr G s' s'' → Ok C mu s'' ∧ Kp C [] s s'') → Q (.ref ga) s') → wpAny (model prog w) A (eval e env) Q E s
private theorem q9x (ns : List Int) : ∀ k,k ≤ ns.length → preSum (fun i => ns.getD i 0) k = (ns.take k).sum:=q6h ns
private theorem w8e {x : PySem.Str} {px pos : Pos} {e1 e2 : Expr} {ns : List Int} {k : Int} {ps : List PV} (hps : ps = ns.map .int) (hA : A.handled = none) (hf : PurE prog w C mu A env ρ σ (.Name x px) (.val (.builtin "sum"))) (hg : GenE prog w C mu A env ρ σ e1 ps) (h2 : PurTk prog w C mu A env ρ σ e2 (.int k))
  (hk : InLong k) (hns : ∀ j,j < ns.length → InLong (ns.getD j 0) ∧ InLong (k + (ns.take (j + 1)).sum))
  (he : autoParam (∀ env,starEach [e1,e2] env = (false,eval e1 env) :: starEach [e2] env) tR) (he2 : autoParam (∀ env,starEach [e2] env = (false,eval e2 env) :: starEach [] env) tR) (hplain : autoParam ((backTo pos (starEach [e2] env)).any (·.1) = false) tR) :
  PurE prog w C mu A env ρ σ (.Call (.Name x px) [e1,e2] [] pos) (.int (k + ns.sum)):=fun s O a Q E kk =>
 Call_ (hf s O a _ _ fun v s₁ O₁ k₁ y₁ => by
  subst hps
  cases (show v = .builtin "sum" from y₁)
  refine PyProof.Rows.callWith_builtin1 ?_ (he env) hplain
  rw [he,he2]
  refine spliced_cons (hg s₁ O₁ (a.kp O k₁) _ _ fun ga s₂ fp wr St G O₂ k₂ W hT hst hga hfp hM => ?_)
  refine spliced_cons (h2 s₂ O₂ ((a.kp O k₁).kp O₁ k₂) _ _ fun v₂ tk htk y₂ => ?_)
  refine spliced_nil ?_
  obtain ⟨t,rfl⟩:=y₂ s₂.heap
  have hst' : St 0 { s₂ with toks:=tk }:=W.frame 0 s₂ s₂.heap tk hst htk fun _ _ _ e => e
  refine z1y hk (W.in4_1.self 0 _ _ _ hst' ⟨ga,fp,wr,G,_,_,St,fun i => ns.getD i 0,rfl,W.in4_1,hst',hfp,fun i v hP => ?_,fun j hj => ?_,fun s' t' M => ?_⟩)
  ·obtain ⟨p,hp,hv⟩:=hP
   rw [List.getElem?_map] at hp
   obtain ⟨z,hz,rfl⟩:=Option.map_eq_some_iff.mp hp
   obtain ⟨t,e⟩:=hv s₂.heap
   exact ⟨t,by rw [e];simp [List.getD_eq_getElem?_getD,hz]⟩
  ·have hj' : j < ns.length:=by simpa using hj
   exact ⟨(hns j hj').1,by rw [q9x ns _ hj'];exact (hns j hj').2⟩
  ·have M' : Moved wr G s₂ s':=⟨M.heap,M.gens,M.drawn,M.os,Nat.le_trans htk M.toks⟩
   obtain ⟨O',k'⟩:=hM s' M'
   have e : preSum (fun i => ns.getD i 0) (ns.map PV.int).length = ns.sum:=by
    rw [List.length_map,q9x ns _ (Nat.le_refl _),List.take_length]
   rw [e]
   exact kk _ s' O' (k₁.trans k') ⟨_,rfl⟩)
private theorem strs_of {ys : List PySem.Str} {P : Nat → Value → Prop} {l : List (PySem.Str × Tok)} (hP : ∀ j v,P j v → ∃ p,(ys.map PV.str)[j]? = some p ∧ ∀ h,Sim h [] p v) (hi : ItemsOf P (strValues l).toArray ys.length) : l.map (·.1) = ys:=by
 have hsz : l.length = ys.length:=by have:=hi.1;simpa [strValues] using this
 refine List.ext_getElem (by simpa using hsz) fun j h1 h2 => ?_
 have hj : j < l.length:=by simpa using h1
 have e : (strValues l).toArray[j]? = some (.str l[j].1 l[j].2):=by simp [strValues,hj]
 obtain ⟨p,hp,hv⟩:=hP j _ (hi.2 j _ e)
 rw [List.getElem?_map] at hp
 obtain ⟨z,hz,rfl⟩:=Option.map_eq_some_iff.mp hp
 obtain ⟨t,e2⟩:=hv {}
 cases e2
 obtain ⟨h3,h4⟩:=List.getElem?_eq_some_iff.mp hz
 simp [h4]
private theorem w5k {o e1 : Expr} {name : PySem.Str} {apos pos : Pos} {sep : PySem.Str} {ys : List PySem.Str} {pl : Sem Bool} {ps : List PV} (hps : ps = ys.map .str) (hA : A.handled = none) (ho : PurE prog w C mu A env ρ σ o (.str sep)) (hg : GenE prog w C mu A env ρ σ e1 ps) (hname : name = PySem.Str.ofString "join") (hok : JoinOk sep ys = true) (hsz : ys.length ≤ 2 ^ 20)
  (he : autoParam (eval (.Call (.Attribute o name apos) [e1] [] pos) env = (do let ov ← eval o env;standAt apos.atName;let __x ← holding [ov] (getMethod ov name pl);match __x with | (f,first) => callWith pos f first (backTo pos (starEach [e1] env)) [])) tR)
  (hs : autoParam (starEach [e1] env = (false,eval e1 env) :: starEach [] env) tR) (hplain : autoParam ((backTo pos (starEach [] env)).any (·.1) = false) tR) :
  PurE prog w C mu A env ρ σ (.Call (.Attribute o name apos) [e1] [] pos) (.str (PySem.Txt.join sep ys)):=fun s O a Q E kk =>
 MethodCall_ (pl:=pl) (ho s O a _ _ fun v s₁ O₁ k₁ y₁ => by
  subst hps
  obtain ⟨t,rfl⟩:=y₁
  refine (w4f (prog:=prog) (w:=w) (C:=C) (mu:=mu) (A:=A) hname) pl s₁ _ _ _ O₁ ⟨t,rfl⟩ ?_
  refine callWith_method1 ?_ hs hplain
  rw [hs]
  refine spliced_cons (hg s₁ O₁ (a.kp O k₁) _ _ fun ga s₂ fp wr St G O₂ k₂ W hT hst hga hfp hM => ?_)
  refine spliced_nil ?_
  have hS : sizeLine = 2 ^ 24:=by decide +kernel
  refine SC.joinGen W.in4_2 hT hst hfp hga (fun i v hP => ?_) (fun s' l M hi => ?_) (by rw [List.length_map];(with_reducible refine nad ?_;decide))
  ·obtain ⟨p,hp,hv⟩:=hP
   rw [List.getElem?_map] at hp
   obtain ⟨z,hz,rfl⟩:=Option.map_eq_some_iff.mp hp
   obtain ⟨t,e⟩:=hv s₂.heap
   exact ⟨_,t,e⟩
  ·rw [List.length_map] at hi
   have el:=strs_of (fun j v h => h) hi
   rw [el]
   refine ⟨hok,fun t' k' => ?_⟩
   obtain ⟨O',k₃⟩:=hM s' M
   exact kk _ _ (O'.tok) ((k₁.trans k₃).trans ⟨fun _ _ _ _ e => e⟩) ⟨t',rfl⟩) he
end
end
section
open PySem PySem.W PySem.Calls PyProof.Rows
variable {prog : Program} {w : World}
section
variable {C : Cfg} {mu mu' nu : List Addr} {s₀ s s' : Shared} {env cenv : Env} {ρ : List (PySem.Str × PV)} {σ σ' : List (Addr × MO)} {A : Around} {E : Value → Shared → Prop} {K : Frag}
private theorem l_global {x : PySem.Str} {v : Value} {L : Addr} {Q : Value → Shared → Prop} (X : K.In s.heap) (c : CEnv env L) (hl : env.kindOf x = some .globalImplicit) (hv : GlobK K x v) (h : Q v s) : wpAny (model prog w) A (loadName env x) Q E s:=by
 have e : loadName env x = loadGlobal env x:=by
  unfold loadName Env.blockKind
  rw [c.kind,hl]
  rfl
 rw [e]
 unfold loadGlobal
 rw [c.gl,c.bi]
 rcases hv with hv | ⟨h1,h2⟩
 ·exact wpAny_bind ((looks_nsIn X hv).here (wpAny_pure h))
 ·exact wpAny_bind ((looks_nsIn X h1).here (wpAny_bind ((looks_nsIn X h2).here (wpAny_pure h))))
structure SupOk (prog : Program) (K : Frag) (D cc f : Addr) (fd : FuncData) (code : Addr) : Prop where
 sup : GlobK K "super" (.type "super")
 cell : ∃ cl d sl,K.lookup cc = some ⟨cl,d,.cell (some (.ref D)),sl⟩
 cls : ∃ cd,clsIn K D = some cd
 fn : ∃ oc od osl,K.lookup f = some ⟨oc,od,.func fd,osl⟩
 arg : ∃ ar,(fd.params.posonlyargs ++ fd.params.args).head? = some ar ∧ ar.arg = "self"
 codeEq : fd.code = .ref code
 file : ∃ cl d vs sl file tf,K.lookup code = some ⟨cl,d,.fields vs,sl⟩ ∧ vs[2]? = some (.str file tf) ∧ ((prog.main.file : PySem.Str) == file) = true
 sub : mroIn K D (.ref D) = some true
 top : (prog.main.scope.names.lookup ("super" : PySem.Str)).isSome = false
 opaq : nsIn K cStatics "thirdparty.any" = some none
 clo : fd.closure = [(("__class__" : PySem.Str),cc)]
 ks : fd.scope.names.lookup ("super" : PySem.Str) = some .globalImplicit
 kc : fd.scope.names.lookup ("__class__" : PySem.Str) = some .free
 kself : fd.scope.names.lookup ("self" : PySem.Str) = some .local
 kind : fd.scope.kind = .function
private theorem w2c {L D cc f code x dx : Addr} {fd : FuncData} {body : List Stmt} {ps : List PV} {od : Obj} {cd : ClassData} {l : List Value} {name : PySem.Str} {p0 p1 apos pos : Pos} {id gid T : String} {pl : Sem Bool} {Q : Value → Shared → Prop}
  (S : SupOk prog C.K D cc f fd code) (I : In C mu nu (callEnv fd L f) ρ σ s₀ s) (hself : ρ.lookup ("self" : PySem.Str) = some (.val (.ref x))) (hl : σ.lookup x = some (.seq (.ref D) (some dx) ps)) (hod : σ.lookup dx = some (.raw od))
  (hcd : clsIn C.K D = some cd) (hmro : (cd.mro.dropWhile (· != .ref D)).drop 1 = l) (hxD : x ≠ D)
  (hf : alongIn C.K name l = some (some (.builtin id))) (hty : typeOf (.builtin id) = pure (.type T)) (hg : typeLookup (.type T) "__get__" = pure (some (.builtin gid))) (hn : (name == ("__class__" : PySem.Str)) = false)
  {T2 : String}
  (hcall : ∀ (h : Heap) (g : Array GenState) (d : Drawn) (t : Nat) (os : OsState) (ox : Obj) (A : Around) (Q : Value → Shared → Prop) (E : Value → Shared → Prop),C.K.In h → h.get? x = some ox → ox.cls = .ref D → Q (.ref h.objs.size) ⟨h.push { cls:=.type T2,data:=.fields #[.builtin id,.ref x] },g,d,t,os⟩ →
   wpAny (model prog w) A (call (.builtin gid) [.builtin id,.ref x,.ref D]) Q E ⟨h,g,d,t,os⟩)
  (k : ∀ b s',In C mu nu (callEnv fd L f) ρ σ s₀ s' → s'.heap.get? b = some { cls:=.type T2,data:=.fields #[.builtin id,.ref x] } → wpAny (model prog w) A (callWith pos (.ref b) [] (backTo pos (starEach [] (callEnv fd L f))) []) Q E s')
  (he : autoParam (eval (.Call (.Attribute (.Call (.Name "super" p0) [] [] p1) name apos) [] [] pos) (callEnv fd L f) = (do
   let ov ← attributeBase (.Call (.Name "super" p0) [] [] p1) name (callEnv fd L f) (eval (.Call (.Name "super" p0) [] [] p1) (callEnv fd L f))
   standAt apos.atName
   let (ff,first) ← holding [ov] (getMethod ov name pl)
   callWith pos ff first (backTo pos (starEach [] (callEnv fd L f))) [])) tR) :
  _root_.PySem.wpAt (model prog w) A (.func body (callEnv fd L f)) (eval (.Call (.Attribute (.Call (.Name "super" p0) [] [] p1) name apos) [] [] pos) (callEnv fd L f)) Q E s:=by
 refine ks_wpAt_MethodCall (pl:=pl) ?_ he
 obtain ⟨oc,odf,osl,hfn⟩:=S.fn
 obtain ⟨ar,har,hars⟩:=S.arg
 obtain ⟨ccl,ccd,ccs,hcell⟩:=S.cell
 obtain ⟨fcl,fdd,fvs,fsl,file,tf,hcode,hvs,hfile⟩:=S.file
 have X:=I.ok.K
 have hcdD : ∃ oD,s.heap.get? D = some oD ∧ oD.data = .cls cd:=by
  obtain ⟨o,e,q⟩:=w6f hcd
  exact ⟨o,X _ _ e,q⟩
 obtain ⟨oD,hD1,hD2⟩:=hcdD
 obtain ⟨vs,n,hox,hvsx,IA⟩:=I.act.inst hl hod
 have cE : CEnv (callEnv fd L f) L:=⟨S.kind,I.act.gl,I.act.bi,rfl⟩
 refine ks_wpAt_super_base S.ks S.kc hn rfl (X _ _ hfn) rfl har (show (callEnv fd L f).code = .ref code from S.codeEq) (X _ _ hcode) rfl hvs hfile S.top ?_
 refine l_global X cE S.ks S.sup ⟨rfl,?_⟩
 refine wpAny_loadName_free (c:=cc) S.kind S.kc (by show fd.closure.lookup _ = _;rw [S.clo];rfl) ⟨_,X _ _ hcell,rfl⟩ ?_
 obtain ⟨m,hns,hm⟩:=I.act.ns
 obtain ⟨v,e1,y⟩:=hm "self" _ hself S.kself
 cases (show v = .ref x from y)
 rw [hars]
 refine wpAny_loadName_local S.kind S.kself hns e1 ?_
 refine ks_wpAny_isType_cls hD1 hD2 ⟨rfl,?_⟩
 obtain ⟨hh,gg,dr,tk,os⟩:=s
 refine ks_wpAny_call_super hD1 hD2 hox rfl (fun c e => by cases e) (looks_mroIn X S.sub) fun h' e kk => ?_
 have I₁ : In C mu nu (callEnv fd L f) ρ σ s₀ ⟨h',gg,dr,tk,os⟩:=I.next (s':=⟨h',gg,dr,tk,os⟩) (I.ok.keep (tk:=tk) kk) (Kp.of_keep (s:=⟨hh,gg,dr,tk,os⟩) (tk:=tk) kk)
 have X₁:=I₁.ok.K
 have hmroL : Looks (model prog w) h' (mroOf (.ref D)) cd.mro:=(looks_clsIn X₁ hcd).andThen .now
 refine w7s e (looks_opaque X₁ S.opaq) hmroL hmro X₁ hf hty hg hxD hn (fun t A Q E hq => hcall h' gg dr t os _ A Q E X₁ (kk _ _ hox) rfl hq) ?_
 refine k _ _ (I₁.next (s':=⟨h'.push { cls:=.type T2,data:=.fields #[.builtin id,.ref x] },gg,dr,tk + 1,os⟩) (I₁.ok.push (tk:=tk + 1)) (Kp.of_keep (s:=⟨h',gg,dr,tk,os⟩) (tk:=tk + 1) fun b o e => Heap.get?_push_of_some _ e)) (Heap.get?_push_size _ rfl)
end
end
section
open PySem PySem.W PySem.Calls PyProof.Rows
variable {prog : Program} {w : World}
section
variable {C : Cfg} {mu mu' nu : List Addr} {s₀ s s' : Shared} {env cenv : Env} {ρ : List (PySem.Str × PV)} {σ σ' : List (Addr × MO)} {A : Around} {E : Value → Shared → Prop} {K : Frag}
private theorem q7w {f : Addr} {fd : FuncData} {body : List Stmt} {n : Nat} {names : List PySem.Str} {ps : List PV} {vs vs0 : List Value} {cc : Addr} {Q : Value → Shared → Prop} (D : DefAt s f fd body) (r : Rm A (n + 1)) (O : Ok C mu s)
  (hy : Sims s.heap mu ps vs) (hbind : BindsTo s fd ⟨vs0,[]⟩ (names.zip vs)) (hlen : names.length = ps.length) (hclo : fd.closure = [(("__class__" : PySem.Str),cc)]) (hcc : ∃ o,C.H.get? cc = some o)
  (hloc : names.all (fun x => fd.scope.names.lookup x == some .local && okName x) = true) (hcell : fd.scope.names.all (fun x => x.2 != .cell) = true)
  (h : ∀ L s₁,s.heap.get? L = none → In C (L :: mu) [L] (callEnv fd L f) (names.zip ps).reverse [] s s₁ → Rm (A.deeper (callEnv fd L f)) n → (∀ b o,s.heap.get? b = some o → s₁.heap.get? b = some o) →
   _root_.PySem.wpAt (model prog w) (A.deeper (callEnv fd L f)) (.func body (callEnv fd L f)) (execs body (callEnv fd L f)) (fun fl s' => match fl with | .ret v => Q v s' | _ => Q .none s') (fun _ _ => False) s₁) :
  wpAny (model prog w) A (call (.ref f) vs0) Q E s:=by
 obtain ⟨o,hl,hd⟩:=D.look
 have hvl : vs.length = ps.length:=hy.length
 have hln : ∀ x ∈ names,fd.scope.names.lookup x = some .local ∧ okName x = true:=fun x hx => by
  have:=List.all_eq_true.mp hloc x hx
  rw [Bool.and_eq_true,beq_iff_eq] at this
  exact this
 have memρ : ∀ x p,(names.zip ps).reverse.lookup x = some p → x ∈ names:=fun x p e => (List.of_mem_zip (List.mem_reverse.mp (q0n e))).1
 have one : ∀ x c,fd.closure.lookup x = some c → x = ("__class__" : PySem.Str) ∧ c = cc:=fun x c e => by
  rw [hclo,List.lookup_cons] at e
  cases hx : x == ("__class__" : PySem.Str) with
  | true => rw [hx] at e;cases e;exact ⟨eq_of_beq hx,rfl⟩
  | false => rw [hx] at e;cases e
 refine wpAny_call (ks_codeAny_call_defAt (binds:=names.zip vs) r.room hl hd O.nolimit D.code D.body hbind (fun x hx => by simpa using List.all_eq_true.mp hcell x hx)
  (fun x hx => (hln x.1 (List.of_mem_zip hx).1).1) (fun h₀ hns hk => ?_) D.co D.gen D.kind)
 have hnone:=Ok.size_none s
 have hL : ∃ o,h₀.get? s.heap.objs.size = some o:=let ⟨o,_,_,ho,_⟩:=hns;⟨o,ho⟩
 obtain ⟨oL,hoL⟩:=hL
 have O₁ : Ok C (s.heap.objs.size :: mu) { s with heap:=h₀,toks:=s.toks + (names.zip vs).length }:=O.fresh hnone hoL hk (O.fresh' hnone).1
 have hy₁ : Sims h₀ (s.heap.objs.size :: mu) ps vs:=(hy.new hnone).keeps (fun _ _ z _ => z) fun b o _ _ e => hk b o e
 refine ks_wpAt_mono (h s.heap.objs.size _ hnone ⟨O₁,⟨fun _ _ e => (nomatch e),D.kind,D.gl,D.bi,.head _,⟨_,hns,fun x p e hlc => ?_⟩,fun x p e => ?_,fun x c hx hxl hc => ?_,fun x p e => ?_,fun x y c h1 h2 => ?_⟩,
  Kp.of_keep hk,fun a h => by simp at h;subst h;exact .head _,fun x hx => ?_⟩ (r.deeper _) hk) (fun fl s' hq => ?_) fun _ _ f => f.elim
 ·exact q2m names ps vs hlen hy₁ x p e
 ·exact .inl (hln x (memρ x p e)).1
 ·exact absurd (one x c hc).1 hx
 ·exact q1s (hln x (memρ x p e)).2
 ·rw [(one x c h1).1,(one y c h2).1]
 ·right
  have hx' : x ∈ fd.closure:=hx
  rw [hclo] at hx'
  simp at hx'
  rw [hx']
  exact hcc
 ·cases fl <;> exact hq
end
end
section
open PySem PySem.W PySem.Calls PyProof.Rows
variable {prog : Program} {w : World}
private theorem w2l (name : PySem.Str) (hs : Int) (key v : Value) : ∀ es : List DictEntry,(putL name hs key v es).length ≤ es.length + 1
 | [] => Nat.le_refl _
 | e :: es => by
  unfold putL
  split
  ·exact Nat.le_succ _
  ·exact Nat.succ_le_succ (w2l name hs key v es)
structure ClsOk (K : Frag) (Cl : Addr) (cd : ClassData) : Prop where
 hc : clsIn K Cl = some cd
 dict : cd.hasDict = true
 st : Stores cd.mro
 ga : findIn K (.ref Cl) "__getattribute__" = some (some (.builtin "object.__getattribute__")) ∨ (findIn K (.ref Cl) "__getattribute__" = some (some (.builtin "list.__getattribute__")) ∧ mroIn K Cl (.type "list") = some true)
 gk : findIn K (.ref Cl) "__getattr__" = some none
 sa : findIn K (.ref Cl) "__setattr__" = some (some (.builtin "object.__setattr__"))
section
variable {A : Around} {E : Value → Shared → Prop} {s : Shared} {K : Frag} {x Cl : Addr} {ox : Obj} {od : Option Obj}
private theorem q8u : Slot "list" "__getattribute__" "list.__getattribute__":=.of (owner:="list") (n:="__getattribute__") (by rw [typeLookup_type,builtinLookup_eq_fast];kernel_rfl) (by decide +kernel) (by decide +kernel) (by decide +kernel)
 (by first | exact .inl (by decide +kernel) | exact .inr (by decide +kernel)) (by rw [isSubtype_type];kernel_rfl)
private theorem args_lga (a b : Value) : argsOk "list.__getattribute__" ⟨[a,b],[]⟩:=by unfold argsOk;kernel_rfl
private theorem lk_lga : builtinKind "list.__getattribute__" = some .slot:=by decide +kernel
private theorem sp_lga : splitId "list.__getattribute__" = some ("list","__getattribute__"):=by decide +kernel
private theorem ck_lga {M : Model} {Q : Unit → Shared → Prop} {x : Addr} {b : Value} (hi : Looks M s.heap (isInstance (.ref x) (.type "list")) true) (q : Q () s) : wpAny M A (checkBuiltinCall "list.__getattribute__" ⟨[.ref x,b],[]⟩) Q E s:=
 have:=@q7h M A E s "list.__getattribute__" "list" "__getattribute__" (.ref x) [b] Q (.inl lk_lga) sp_lga hi
 this (args_lga _ _) q
private theorem w8q {cd : ClassData} {o : Obj} {name : PySem.Str} {v : Value} {expr : Bool} {Q : Value → Shared → Prop} (X : K.In s.heap) (I : InstAt s.heap x ox Cl (some o)) (hga : findIn K (.ref Cl) "__getattribute__" = some (some (.builtin "list.__getattribute__"))) (hm : mroIn K Cl (.type "list") = some true) (hgk : findIn K (.ref Cl) "__getattr__" = some none)
  (hc : clsIn K Cl = some cd) (hd : cd.hasDict = true) (hf : findIn K (.ref Cl) name = some none) (hl : lookIn name o = some (some v)) (hh : handedIn v = true) (h : Q v { s with toks:=s.toks + 1 }) : wpAny (model prog w) A (getAttr (.ref x) name expr) Q E s:=by
 obtain ⟨hp,g,d,t,os⟩:=s
 have L0:=I.type (M:=model prog w)
 have L1:=looks_findIn (M:=model prog w) X hga
 have L2:=looks_findIn (M:=model prog w) X hgk
 have L3:=looks_find (M:=model prog w) X I (w0n hc hd hf hl)
 have hi : Looks (model prog w) hp (isInstance (.ref x) (.type "list")) true:=I.type.andThen (looks_mroIn X hm)
 have run : wpAny (model prog w) A (call (.builtin "list.__getattribute__") [.ref x,.str name t]) (fun v' s' => v' = v ∧ s' = ⟨hp,g,d,t + 1,os⟩) (fun _ _ => False) ⟨hp,g,d,t + 1,os⟩:=by
  refine wpAny_call (codeAny_call_builtin q8u.plain PySem.am_entry_list_getattribute (ck_lga hi ?_))
  unfold Builtin.«object.__getattribute__»
  repeat (first | (with_reducible refine Looks.at L0 ?_) | (with_reducible refine Looks.at L3 ?_) | wp_step)
  all_goals exact ⟨rfl,rfl⟩
 unfold getAttr getAttrBy
 refine wpAny_bind (wpAny_mkText (wpAny_holding (wpAny_bind (L0.at (wpAny_bind (L1.at ?_))))))
 dsimp only
 rw [if_neg (by rw [show (Value.builtin "list.__getattribute__" == Value.builtin "object.__getattribute__") = false from by decide +kernel,Bool.and_false];exact Bool.false_ne_true)]
 unfold getAttrByItsOwn hookBefore callGetattribute boundAndCalled
 refine wpAny_bind (L2.at ?_)
 refine wpAny_bind (wpAny_attempt (wpAny_holding ?_))
 rw [if_neg (by show ¬ ((expr && onTheHeap (Value.builtin "list.__getattribute__")) = true);rw [show onTheHeap (Value.builtin "list.__getattribute__") = false from rfl,Bool.and_false];exact Bool.false_ne_true)]
 rw [q8u.bind]
 refine wpAny_bind (wpAny_pure ?_)
 show wpAny _ _ (call (.builtin "list.__getattribute__") [.ref x,.str name t]) _ _ _
 refine wpAny_mono run (fun v' s' hv => ?_) fun _ _ e => e.elim
 obtain ⟨rfl,rfl⟩:=hv
 show wpAny _ _ (handedOut v') _ _ _
 rw [handedOut_of hh]
 exact wpAny_pure h
end
section
variable {A : Around} {E : Value → Shared → Prop} {s : Shared} {K : Frag} {x Cl : Addr} {ox : Obj} {od : Option Obj} {cd : ClassData}
private theorem w7j {o : Obj} {name : PySem.Str} {v : Value} {expr : Bool} {Q : Value → Shared → Prop} (k : ClsOk K Cl cd) (X : K.In s.heap) (I : InstAt s.heap x ox Cl (some o)) (hf : findIn K (.ref Cl) name = some none) (hl : lookIn name o = some (some v)) (hh : handedIn v = true) (h : Q v { s with toks:=s.toks + 1 }) :
  wpAny (model prog w) A (getAttr (.ref x) name expr) Q E s:=by
 rcases k.ga with hg | ⟨hg,hm⟩
 ·exact z1c X I hg k.hc k.dict hf hl hh h
 ·exact w8q X I hg hm k.gk k.hc k.dict hf hl hh h
private theorem z1x : (Manifest.canonical "list.__getattribute__" != "object.__getattribute__") = false:=by decide +kernel
private theorem q8a {f tf : Value} {name : PySem.Str} {pl : Sem Bool} {Q : Value × List Value → Shared → Prop} (k : ClsOk K Cl cd) (X : K.In s.heap) (I : InstAt s.heap x ox Cl od)
  (hf : findIn K (.ref Cl) name = some (some f)) (ht : typeIn K f = some tf) (htf : (tf != .type "function" && tf != .type "method_descriptor" && tf != .type "wrapper_descriptor") = false) (hs : shadowIn od name = some false) (h : Q (f,[.ref x]) s) :
  wpAny (model prog w) A (getMethod (.ref x) name pl) Q E s:=by
 rcases k.ga with hg | ⟨hg,hm⟩
 ·exact w0m PySem.F.canon_object_ga X I hg k.gk hf ht htf hs h
 ·exact w0m z1x X I hg k.gk hf ht htf hs h
end
noncomputable def SInst (σ : List (Addr × MO)) (x dx Cl : Addr) (od : Obj) : Prop:=σ.lookup dx = some (.raw od) ∧ ((∃ ps,σ.lookup x = some (.seq (.ref Cl) (some dx) ps)) ∨ σ.lookup x = some (.raw (instObj Cl dx)))
section
variable {C : Cfg} {mu mu' nu : List Addr} {s₀ s s' : Shared} {env cenv : Env} {ρ : List (PySem.Str × PV)} {σ σ' : List (Addr × MO)} {A : Around} {E : Value → Shared → Prop} {K : Frag} {x dx Cl : Addr} {od : Obj} {cd : ClassData}
private theorem SInst.at (h : SInst σ x dx Cl od) (a : Act env mu s.heap ρ σ) : ∃ ox,InstAt s.heap x ox Cl (some od) ∧ ox.dict = some dx:=by
 obtain ⟨h1,⟨ps,h2⟩ | h2⟩:=h
 ·obtain ⟨vs,n,_,_,I⟩:=a.inst h2 h1
  exact ⟨_,I,rfl⟩
 ·have e:=(a.st x _ h2).2.2
  exact ⟨_,⟨e,rfl,rfl,(a.st dx _ h1).2.2⟩,rfl⟩
private theorem q3v {value : Expr} {name : PySem.Str} {pos : Pos} {v : Value} {p : PV} (k : ClsOk C.K Cl cd) (ho : PurE prog w C mu A env ρ σ value (.val (.ref x))) (hi : SInst σ x dx Cl od) (hf : findIn C.K (.ref Cl) name = some none) (hl : lookIn name od = some (some v)) (hh : handedIn v = true) (hv : ∀ h mu,Sim h mu p v)
  (he : eval (.Attribute value name pos) env = (do
   let o ← eval value env
   standAt pos.atName
   let r ← holding [o] (getAttr o name true)
   letTemporaryGo value o r
   pure r):=by with_unfolding_all rfl) : PurE prog w C mu A env ρ σ (.Attribute value name pos) p:=fun s O a Q E kk =>
 Attribute_any_ (ho s O a _ _ fun o s₁ O₁ k₁ y₁ => by
  cases (show o = .ref x from y₁)
  obtain ⟨ox,I,_⟩:=hi.at (a.kp O k₁)
  exact w7j k O₁.K I hf hl hh (kk v _ O₁.tok (k₁.trans ⟨fun _ _ _ _ e => e⟩) (hv _ _))) he
private theorem tk_attr {y name : PySem.Str} {py pos : Pos} {v : Value} {p : PV} (k : ClsOk C.K Cl cd) (hy : ρ.lookup y = some (.val (.ref x))) (hyl : env.kindOf y = some .local) (hd : (y == ("__debug__" : PySem.Str)) = false) (hi : SInst σ x dx Cl od) (hf : findIn C.K (.ref Cl) name = some none) (hl : lookIn name od = some (some v)) (hh : handedIn v = true) (hv : ∀ h,Sim h [] p v)
  (he : eval (.Attribute (.Name y py) name pos) env = (do
   let o ← eval (.Name y py) env
   standAt pos.atName
   let r ← holding [o] (getAttr o name true)
   letTemporaryGo (.Name y py) o r
   pure r):=by with_unfolding_all rfl) : PurTk prog w C mu A env ρ σ (.Attribute (.Name y py) name pos) p:=fun s O a Q E kk =>
 Attribute_any_ (by
  obtain ⟨m,hns,hm⟩:=a.ns
  obtain ⟨u,e1,y1⟩:=hm y _ hy hyl
  cases (show u = .ref x from y1)
  refine wpAny_Name (wpAny_loadName_local a.kind hyl hns e1 ?_) hd
  obtain ⟨ox,I,_⟩:=hi.at a
  exact w7j k O.K I hf hl hh (kk v _ (Nat.le_succ _) hv)) he
private theorem q3i {o : Expr} {name : PySem.Str} {apos pos : Pos} {f : Addr} {fd : FuncData} {body : List Stmt} {pl : Sem Bool} {Q : Value → Shared → Prop} (k : ClsOk C.K Cl cd) (O : Ok C mu s) (a : Act env mu s.heap ρ σ) (ho : PurE prog w C mu A env ρ σ o (.val (.ref x))) (hi : SInst σ x dx Cl od)
  (hf : findIn C.K (.ref Cl) name = some (some (.ref f))) (ht : typeIn C.K (.ref f) = some (.type "function")) (hsh : lookIn name od = some none) (D : Def C f fd body)
  (h : ∀ s₁,Ok C mu s₁ → Kp C [] s s₁ → wpAny (model prog w) A (call (.ref f) [.ref x]) Q E s₁)
  (he : autoParam (eval (.Call (.Attribute o name apos) [] [] pos) env = (do let ov ← eval o env;standAt apos.atName;let __x ← holding [ov] (getMethod ov name pl);match __x with | (f,first) => callWith pos f first (backTo pos (starEach [] env)) [])) tR) :
  wpAny (model prog w) A (eval (.Call (.Attribute o name apos) [] [] pos) env) Q E s:=by
 refine MethodCall_ (pl:=pl) (ho s O a _ _ fun v s₁ O₁ k₁ y₁ => ?_) he
 cases (show v = .ref x from y₁)
 have a₁:=a.kp O k₁
 obtain ⟨ox,I,_⟩:=hi.at a₁
 refine q8a k O₁.K I hf ht (by decide) (by show (lookIn name od).map (·.isSome) = some false;rw [hsh];rfl) ?_
 obtain ⟨o',hl,hd⟩:=(D.at O₁).look
 refine callWith_function (o:=o') (fd:=fd) ?_
 exact evalArgs_nil3 ⟨⟨hl,hd⟩,h s₁ O₁ k₁⟩
private theorem q4j {o e : Expr} {es : List Expr} {name : PySem.Str} {apos pos : Pos} {f : Addr} {fd : FuncData} {body : List Stmt} {ps : List PV} {pl : Sem Bool} {Q : Value → Shared → Prop} (k : ClsOk C.K Cl cd) (O : Ok C mu s) (a : Act env mu s.heap ρ σ) (ho : PurE prog w C mu A env ρ σ o (.val (.ref x))) (hi : SInst σ x dx Cl od)
  (hf : findIn C.K (.ref Cl) name = some (some (.ref f))) (ht : typeIn C.K (.ref f) = some (.type "function")) (hsh : lookIn name od = some none) (D : Def C f fd body) (ha : PurEs prog w C mu A env ρ σ (e :: es) ps)
  (h : ∀ s₁ vs,Ok C mu s₁ → Kp C [] s s₁ → Sims s₁.heap mu ps vs → wpAny (model prog w) A (call (.ref f) (.ref x :: vs)) Q E s₁)
  (he : autoParam (eval (.Call (.Attribute o name apos) (e :: es) [] pos) env = (do let ov ← eval o env;standAt apos.atName;let __x ← holding [ov] (getMethod ov name pl);match __x with | (f,first) => callWith pos f first (backTo pos (starEach (e :: es) env)) [])) tR)
  (hs : autoParam (starEach (e :: es) env = (false,eval e env) :: starEach es env) tR) : wpAny (model prog w) A (eval (.Call (.Attribute o name apos) (e :: es) [] pos) env) Q E s:=by
 refine MethodCall_ (pl:=pl) (ho s O a _ _ fun v s₁ O₁ k₁ y₁ => ?_) he
 cases (show v = .ref x from y₁)
 have a₁:=a.kp O k₁
 obtain ⟨ox,I,_⟩:=hi.at a₁
 refine q8a k O₁.K I hf ht (by decide) (by show (lookIn name od).map (·.isSome) = some false;rw [hsh];rfl) ?_
 obtain ⟨o',hl,hd⟩:=(D.at O₁).look
 refine callWith_function (o:=o') (fd:=fd) ?_
 have hp:=ha pos s₁ O₁ a₁
 rw [hs] at hp ⊢
 exact evalArgs_plain (hp _ _ fun vs s₂ O₂ k₂ y₂ => ⟨⟨k₂.keep _ _ (fun h => nomatch h) (O₁.fnNotTab hl hd) hl,hd⟩,h s₂ vs O₂ (k₁.trans k₂) y₂⟩)
private theorem w3x {o : Expr} {name : PySem.Str} {apos pos : Pos} {f : Addr} {fd : FuncData} {body : List Stmt} {z : PV} {pl : Sem Bool} (k : ClsOk C.K Cl cd) (ho : PurE prog w C mu A env ρ σ o (.val (.ref x))) (hi : SInst σ x dx Cl od)
  (hf : findIn C.K (.ref Cl) name = some (some (.ref f))) (ht : typeIn C.K (.ref f) = some (.type "function")) (hsh : lookIn name od = some none) (D : Def C f fd body)
  (h : ∀ s,Ok C mu s → Act env mu s.heap ρ σ → Pur prog w C mu A (call (.ref f) [.ref x]) z s)
  (he : autoParam (eval (.Call (.Attribute o name apos) [] [] pos) env = (do let ov ← eval o env;standAt apos.atName;let __x ← holding [ov] (getMethod ov name pl);match __x with | (f,first) => callWith pos f first (backTo pos (starEach [] env)) [])) tR) :
  PurE prog w C mu A env ρ σ (.Call (.Attribute o name apos) [] [] pos) z:=fun s O a Q E kk =>
 q3i k O a ho hi hf ht hsh D (fun s₁ O₁ k₁ => h s₁ O₁ (a.kp O k₁) _ _ fun v s' O' k' y' => kk v s' O' (k₁.trans k') y') he
private theorem q3g {o e : Expr} {name : PySem.Str} {opos pos : Pos} {p : PV} {es : List DictEntry} {n : Nat} {Q : Flow → Shared → Prop} (k : ClsOk C.K Cl cd) (I : In C mu nu env ρ σ s₀ s) (he : PurE prog w C mu A env ρ σ e p) (ho : PurE prog w C mu A env ρ σ o (.val (.ref x))) (hi : SInst σ x dx Cl (dictOf es n)) (hdn : dx ∈ nu)
  (ht : findIn C.K (.ref Cl) name = some none) (hl : (getL name es).isSome = true) (hz : es.length + 1 ≤ 1000)
  (kk : ∀ v hs t s',Sim s'.heap mu p v → In C mu nu env ρ ((dx,.raw (dictOf (putL name hs (.str name t) v es) (putN name es n))) :: σ) s₀ s' → Q .next s')
  (hsw : autoParam (swapsWith e (some (.Attribute o name opos)) pos.line env = pure false) tR) : wpAny (model prog w) A (exec (.Assign [.Attribute o name opos] e pos) env) Q E s:=by
 refine plainObj_wpAny_Assign_Attribute ?_ hsw
 refine he s I.ok I.act _ _ fun v s₁ O₁ k₁ y₁ => ?_
 have I₁:=I.next O₁ k₁
 refine ho s₁ I₁.ok I₁.act _ _ fun ov s₂ O₂ k₂ y₂ => ?_
 cases (show ov = .ref x from y₂)
 have I₂:=I₁.next O₂ k₂
 obtain ⟨ox,IA,hd⟩:=hi.at I₂.act
 have hdm:=(I₂.act.st dx _ hi.1).1
 refine q8k I₂.ok.K IA hd k.hc k.st k.dict k.sa ht hl (Nat.le_trans (w2l ..) hz) fun h' e1 e2 => ?_
 have yv:=y₁.kp0 O₁ k₂
 refine kk v _ _ _ (yv.keeps (fun _ _ z _ => z) fun b o hb _ e => e2 b o (fun q => hb (q ▸ hdm)) e) (I₂.mut (tk:=s₂.toks + 2) hi.1 hdn e2 e1)
end
end
section
open PySem PySem.W PySem.Calls PyProof.Rows
variable {prog : Program} {w : World}
structure SubOk (K : Frag) (Cl : Addr) : Prop where
 lst : mroIn K Cl (.type "list") = some true
 deq : mroIn K Cl (.type "collections.deque") = some false
 get : findIn K (.ref Cl) "__getitem__" = some (some (.builtin "list.__getitem__"))
 set : findIn K (.ref Cl) "__setitem__" = some (some (.builtin "list.__setitem__"))
 iter : findIn K (.ref Cl) "__iter__" = some (some (.builtin "list.__iter__"))
 app : findIn K (.ref Cl) "append" = some (some (.builtin "list.append"))
section
variable {C : Cfg} {mu mu' nu : List Addr} {s₀ s s' : Shared} {env cenv : Env} {ρ : List (PySem.Str × PV)} {σ σ' : List (Addr × MO)} {A : Around} {E : Value → Shared → Prop} {K : Frag} {x dx Cl : Addr} {od : Obj} {cd : ClassData} {l : List PV}
private theorem w1z {K : Frag} : typeIn K (.builtin "list.append") = some (.type "method_descriptor"):=by kernel_rfl
private theorem q8g {o e : Expr} {apos pos epos : Pos} {p : PV} {pl : Sem Bool} {name : PySem.Str} {Q : Flow → Shared → Prop} (k : ClsOk C.K Cl cd) (sk : SubOk C.K Cl) (I : In C mu nu env ρ σ s₀ s) (hl : σ.lookup x = some (.seq (.ref Cl) (some dx) l)) (hod : σ.lookup dx = some (.raw od)) (hnu : x ∈ nu) (ho : PurE prog w C mu A env ρ σ o (.val (.ref x)))
  (ha : PurEs prog w C mu A env ρ σ [e] [p]) (hsh : lookIn "append" od = some none) (hsz : l.length ≤ sizeLine) (kk : ∀ s',In C mu nu env ρ ((x,.seq (.ref Cl) (some dx) (l ++ [p])) :: σ) s₀ s' → Q .next s') (hname : name = PySem.Str.ofString "append")
  (he : autoParam (eval (.Call (.Attribute o name apos) [e] [] pos) env = (do let ov ← eval o env;standAt apos.atName;let __x ← holding [ov] (getMethod ov name pl);match __x with | (f,first) => callWith pos f first (backTo pos (starEach [e] env)) [])) tR)
  (hs : autoParam (starEach [e] env = (false,eval e env) :: starEach [] env) tR) (hplain : autoParam ((backTo pos (starEach [] env)).any (·.1) = false) tR)
  (hi : autoParam (interactive env = false) tR) (hsw : autoParam (swapsWith (.Call (.Attribute o name apos) [e] [] pos) none epos.line env = pure false) tR) :
  wpAny (model prog w) A (exec (.Expr (.Call (.Attribute o name apos) [e] [] pos) epos) env) Q E s:=by
 subst hname
 refine wpAny_Expr_any (MethodCall_ (pl:=pl) (ho s I.ok I.act _ _ fun v s₁ O₁ k₁ y₁ => ?_) he) hi hsw
 cases (show v = .ref x from y₁)
 have I₁:=I.next O₁ k₁
 obtain ⟨vs,n,hol,hvs,IA⟩:=I₁.act.inst hl hod
 refine q8a k O₁.K IA sk.app w1z (by decide) (by show (lookIn _ od).map (·.isSome) = some false;rw [show (PySem.Str.ofString "append") = ("append" : PySem.Str) from rfl,hsh];rfl) ?_
 refine callWith_method1 (ha pos s₁ I₁.ok I₁.act _ _ fun ws s₂ O₂ k₂ y₂ => ?_) hs hplain
 have I₂:=I₁.next O₂ k₂
 obtain ⟨v₁,r,rfl,z,hr⟩:=y₂
 cases (show r = [] from hr)
 obtain ⟨vs,n,hol,hvs,IA⟩:=I₂.act.inst hl hod
 have hxm:=(I₂.act.st x _ hl).1
 have hsz' : vs.toArray.size ≤ sizeLine:=by simpa [hvs.length] using hsz
 refine w2d (n:="append") I₂.ok.K IA sk.lst (by decide +kernel) (by decide +kernel) slot_list_append.plain entry_list_append (args_list_append _ _) (w7t (.ref Cl) (some dx) x vs.toArray n v₁ hsz') ⟨hol,?_⟩
 have hsb : Heap.SameBut x s₂.heap (s₂.heap.update x (Obj.mapSeq fun a => a.push v₁)):=Heap.SameBut.update ..
 have up : ∀ {l : List PV} {vs : List Value},Sims s₂.heap mu l vs → Sims (s₂.heap.update x (Obj.mapSeq fun a => a.push v₁)) mu l vs:=fun y => y.keeps (fun _ _ z _ => z) fun b o hb _ e => hsb.extBut b o (fun q => hb (q ▸ hxm)) e
 refine kk _ (I₂.mut (tk:=s₂.toks) hl hnu hsb.extBut ⟨vs ++ [v₁],n + 1,?_,(up hvs).append (up ⟨_,_,rfl,z,rfl⟩)⟩)
 rw [Heap.get?_update_self _ hol rfl]
 simp [Obj.mapSeq]
private theorem q9r {value slice : Expr} {pos : Pos} {j : Nat} {p : PV} (sk : SubOk C.K Cl) (hv : PurE prog w C mu A env ρ σ value (.val (.ref x))) (hl : σ.lookup x = some (.seq (.ref Cl) (some dx) l)) (hod : σ.lookup dx = some (.raw od)) (hi : PurE prog w C mu A env ρ σ slice (.int j)) (hx : l[j]? = some p) (hsz : l.length < 2 ^ 60)
  (hs : autoParam (∀ o i,subscripted slice false o i = operate [o,i] (getItem o i)) tR) : PurE prog w C mu A env ρ σ (.Subscript value slice pos) p:=fun s O a Q E kk =>
 Subscript_ (hv s O a _ _ fun v s₁ O₁ k₁ y₁ => hi s₁ O₁ (a.kp O k₁) _ _ fun u s₂ O₂ k₂ y₂ => by
  cases (show v = .ref x from y₁)
  obtain ⟨t,rfl⟩:=y₂
  obtain ⟨vs,n,hol,hvs,IA⟩:=((a.kp O k₁).kp O₁ k₂).inst hl hod
  obtain ⟨z,e1,e2⟩:=hvs.get j p hx
  have hlt:=(List.getElem?_eq_some_iff.mp hx).1
  have key : ∀ i : Int,i = (j : Int) → wpAny (model prog w) A (getItem (.ref x) (.int i t)) Q E s₂:=fun i hi => by
   have e1' : vs.toArray[i.toNat]? = some z:=by rw [hi];simpa using e1
   exact q9g O₂.K IA sk.lst sk.deq sk.get (w9q (.ref Cl) (some dx) x vs.toArray n i t z (by lia) e1' (fitsIndex_of (by lia) (by lia))) ⟨hol,kk z s₂ O₂ (k₁.trans k₂) e2⟩
  exact w6p O₂.K IA sk.get (key _ rfl) (hs _ _))
private theorem w2n {value : Expr} {lower upper : Option Expr} {p pos : Pos} {lo hi : Option Int} (sk : SubOk C.K Cl) (hv : PurE prog w C mu A env ρ σ value (.val (.ref x))) (hl : σ.lookup x = some (.seq (.ref Cl) (some dx) l)) (hod : σ.lookup dx = some (.raw od)) (h1 : q2r prog w C mu A env ρ σ lower lo) (h2 : q2r prog w C mu A env ρ σ upper hi) (hsz : l.length ≤ 2 ^ 20) :
  PurNE prog w C mu A env ρ σ (.Subscript value (.Slice lower upper none p) pos) (w2k l lo hi):=fun s O a Q E kk => by
 have hS : sizeLine = 2 ^ 24:=by decide +kernel
 refine Subscript_ (hv s O a _ _ fun v s₁ O₁ k₁ y₁ => wpAny_Slice (q5d h1 O₁ (a.kp O k₁) fun vl s₂ O₂ k₂ p₂ => q5d h2 O₂ ((a.kp O k₁).kp O₁ k₂) fun vu s₃ O₃ k₃ p₃ => ?_))
 rw [evalPart_none]
 refine wpAny_pure ?_
 cases (show v = .ref x from y₁)
 have a₃:=((a.kp O k₁).kp O₁ k₂).kp O₂ k₃
 have hk1 : ∀ b o,s₃.heap.get? b = some o → (s₃.heap.push { cls:=.type "slice",data:=.fields #[vl,vu,.none] }).get? b = some o:=fun b o e => Heap.get?_push_of_some _ e
 have kk1 : Kp C [] s₃ { s₃ with heap:=s₃.heap.push { cls:=.type "slice",data:=.fields #[vl,vu,.none] } }:=Kp.of_keep (tk:=s₃.toks) hk1
 have O₄ : Ok C mu { s₃ with heap:=s₃.heap.push { cls:=.type "slice",data:=.fields #[vl,vu,.none] } }:=O₃.push (tk:=s₃.toks)
 have a₄:=a₃.kp O₃ kk1
 obtain ⟨vs,n,hol,hvs,IA⟩:=a₄.inst hl hod
 have hlen : vs.toArray.size = l.length:=by simp [hvs.length]
 have hsl : (s₃.heap.push { cls:=.type "slice",data:=.fields #[vl,vu,.none] }).IsSliceOf s₃.heap.objs.size vl vu .none:=Heap.IsSliceOf.new ..
 refine w6p O₄.K IA sk.get (q9g O₄.K IA sk.lst sk.deq sk.get (w9o (.ref Cl) (some dx) x s₃.heap.objs.size vs.toArray n vl vu lo hi p₂ p₃ (by lia)) ⟨hol,hsl,?_⟩) (ops:=[.ref s₃.heap.objs.size,.ref x]) rfl
 have hk2 : ∀ b o,s₃.heap.get? b = some o → ((s₃.heap.push { cls:=.type "slice",data:=.fields #[vl,vu,.none] }).push { cls:=.type "list",data:=.seq (slicePick vs.toArray lo hi none) }).get? b = some o:=fun b o e => Heap.get?_push_of_some _ (hk1 b o e)
 have hnew : s₃.heap.get? (s₃.heap.objs.size + 1) = none:=Heap.get?_none_of_le (Nat.le_succ _)
 have esz : (s₃.heap.push { cls:=.type "slice",data:=.fields #[vl,vu,.none] }).objs.size = s₃.heap.objs.size + 1:=Heap.size_push ..
 show Q (.ref (s₃.heap.push { cls:=.type "slice",data:=.fields #[vl,vu,.none] }).objs.size) _
 rw [esz]
 refine kk _ _ (O₃.keep (tk:=s₃.toks) hk2) (((k₁.trans k₂).trans k₃).trans (Kp.of_keep (tk:=s₃.toks) hk2)) (q7i O₃ ((k₁.trans k₂).trans k₃) hnew) ?_
 refine ⟨(sliceRange (sliceBounds lo hi none l.length).1 (sliceBounds lo hi none l.length).2.1 (sliceBounds lo hi none l.length).2.2).filterMap (vs[·]?),0,?_,?_⟩
 ·have e : slicePick vs.toArray lo hi none = List.toArray ((sliceRange (sliceBounds lo hi none l.length).1 (sliceBounds lo hi none l.length).2.1 (sliceBounds lo hi none l.length).2.2).filterMap (vs[·]?)):=by
   unfold slicePick
   rw [hlen]
   simp
  rw [← e,← esz]
  exact Heap.get?_push_size _ rfl
 ·have hn4 : (s₃.heap.push { cls:=.type "slice",data:=.fields #[vl,vu,.none] }).get? (s₃.heap.objs.size + 1) = none:=Heap.get?_none_of_le (by rw [esz];exact Nat.le_refl _)
  exact ((hvs.pick _).new hn4).keeps (fun _ _ z _ => z) fun b o _ _ e => Heap.get?_push_of_some _ e
private theorem w0h (c : Value) (d : Option Addr) (items : Array Value) (n : Nat) (ff : Array Value → Array Value) : ∃ m,Obj.mapSeq ff (subO c d items n) = subO c d (ff items) m:=⟨_,rfl⟩
noncomputable def pvSet (l new : List PV) (lo hi : Option Int) : List PV:=
 l.take (sliceBounds lo hi none l.length).1.toNat ++ new ++ l.drop (max (sliceBounds lo hi none l.length).1 (sliceBounds lo hi none l.length).2.1).toNat
private theorem w8c (l new : List PV) (i : Nat) (h : i ≤ l.length) : pvSet l new (some i) none = l.take i ++ new:=by
 have h1 : ¬ ((i : Int) < 0):=by lia
 have e1 : max (0 : Int) (min (i : Int) (l.length : Int)) = i:=by lia
 have e2 : max (i : Int) (l.length : Int) = l.length:=by lia
 unfold pvSet sliceBounds
 simp [h1,e1,e2]
private theorem z0b (l new : List PV) : pvSet l new none none = new:=by
 unfold pvSet sliceBounds
 simp
private theorem ext_le {α : Type} (xs : Array α) (a b : Nat) : (xs.extract a b).size ≤ xs.size:=by
 rw [Array.size_extract]
 exact Nat.le_trans (Nat.sub_le _ _) (Nat.min_le_right _ _)
private theorem w3s {o e : Expr} {lower upper : Option Expr} {sp opos pos : Pos} {lo hi : Option Int} {new : List PV} {Q : Flow → Shared → Prop} (sk : SubOk C.K Cl) (I : In C mu nu env ρ σ s₀ s) (hl : σ.lookup x = some (.seq (.ref Cl) (some dx) l)) (hod : σ.lookup dx = some (.raw od)) (hnu : x ∈ nu) (ho : PurE prog w C mu A env ρ σ o (.val (.ref x)))
  (he : PurE prog w C mu A env ρ σ e (.lst new)) (h1 : q2r prog w C mu A env ρ σ lower lo) (h2 : q2r prog w C mu A env ρ σ upper hi) (hsz : l.length + new.length ≤ 2 ^ 20)
  (kk : ∀ s',In C mu nu env ρ ((x,.seq (.ref Cl) (some dx) (pvSet l new lo hi)) :: σ) s₀ s' → Q .next s')
  (hsw : autoParam (swapsWith e (some (.Subscript o (.Slice lower upper none sp) opos)) pos.line env = pure false) tR) : wpAny (model prog w) A (exec (.Assign [.Subscript o (.Slice lower upper none sp) opos] e pos) env) Q E s:=by
 have hS : sizeLine = 2 ^ 24:=by decide +kernel
 refine wpAny_Assign_Subscript (he s I.ok I.act _ _ fun v s₁ O₁ k₁ y₁ => ?_) hsw
 have I₁:=I.next O₁ k₁
 refine ho s₁ I₁.ok I₁.act _ _ fun ov s₂ O₂ k₂ y₂ => ?_
 cases (show ov = .ref x from y₂)
 have I₂:=I₁.next O₂ k₂
 refine wpAny_Slice (q5d h1 I₂.ok I₂.act fun vl s₃ O₃ k₃ p₃ => q5d h2 O₃ (I₂.next O₃ k₃).act fun vu s₄ O₄ k₄ p₄ => ?_)
 have I₄:=(I₂.next O₃ k₃).next O₄ k₄
 rw [evalPart_none]
 refine wpAny_pure ?_
 have hk1 : ∀ b o,s₄.heap.get? b = some o → (s₄.heap.push { cls:=.type "slice",data:=.fields #[vl,vu,.none] }).get? b = some o:=fun b o e => Heap.get?_push_of_some _ e
 have I₅ : In C mu nu env ρ σ s₀ { s₄ with heap:=s₄.heap.push { cls:=.type "slice",data:=.fields #[vl,vu,.none] } }:=I₄.next (s':={ s₄ with heap:=s₄.heap.push { cls:=.type "slice",data:=.fields #[vl,vu,.none] } }) (O₄.push (tk:=s₄.toks)) (Kp.of_keep (tk:=s₄.toks) hk1)
 have yv:=(((y₁.kp0 O₁ k₂).kp0 O₂ k₃).kp0 O₃ k₄)
 have yv5 : Sim (s₄.heap.push { cls:=.type "slice",data:=.fields #[vl,vu,.none] }) mu (.lst new) v:=yv.keeps (fun _ _ z _ => z) fun b o _ _ e => hk1 b o e
 obtain ⟨b,ws,m,rfl,hb,hbo,hws⟩:=yv5
 obtain ⟨vs,n,hol,hvs,IA⟩:=I₅.act.inst hl hod
 have hxm:=(I₅.act.st x _ hl).1
 have hbx : b ≠ x:=fun q => hb (q ▸ hxm)
 have hlen : vs.toArray.size = l.length:=by simp [hvs.length]
 have hwl : ws.toArray.size = new.length:=by simp [hws.length]
 have hsl : (s₄.heap.push { cls:=.type "slice",data:=.fields #[vl,vu,.none] }).IsSliceOf s₄.heap.objs.size vl vu .none:=Heap.IsSliceOf.new ..
 have hz' : (setSl vs.toArray ws.toArray lo hi).size ≤ sizeLine + 1:=by
  unfold setSl
  rw [Array.size_append,Array.size_append]
  exact Nat.le_trans (Nat.add_le_add (Nat.add_le_add_right (ext_le _ _ _) _) (ext_le _ _ _)) (by lia)
 refine w5d I₅.ok.K IA sk.lst sk.deq sk.set (w3n (.ref Cl) (some dx) x s₄.heap.objs.size b vs.toArray ws.toArray n m vl vu lo hi p₃ p₄ (by lia) hbx hz') ⟨hol,hsl,hbo,?_⟩
 generalize hff : (fun xs : Array Value => xs.extract 0 (sliceBounds lo hi none vs.toArray.size).1.toNat ++ ws.toArray ++ xs.extract (max (sliceBounds lo hi none vs.toArray.size).1 (sliceBounds lo hi none vs.toArray.size).2.1).toNat xs.size) = ff
 have hsb : Heap.SameBut x (s₄.heap.push { cls:=.type "slice",data:=.fields #[vl,vu,.none] }) ((s₄.heap.push { cls:=.type "slice",data:=.fields #[vl,vu,.none] }).update x (Obj.mapSeq ff)):=Heap.SameBut.update ..
 have up : ∀ {l : List PV} {vs : List Value},Sims (s₄.heap.push { cls:=.type "slice",data:=.fields #[vl,vu,.none] }) mu l vs → Sims ((s₄.heap.push { cls:=.type "slice",data:=.fields #[vl,vu,.none] }).update x (Obj.mapSeq ff)) mu l vs:=fun y => y.keeps (fun _ _ z _ => z) fun b o hb _ e => hsb.extBut b o (fun q => hb (q ▸ hxm)) e
 have hseq:=((hvs.take (sliceBounds lo hi none l.length).1.toNat).append hws).append (hvs.drop (max (sliceBounds lo hi none l.length).1 (sliceBounds lo hi none l.length).2.1).toNat)
 have ea : ∀ a b : Nat,vs.toArray.extract 0 a ++ ws.toArray ++ vs.toArray.extract b vs.toArray.size = (vs.take a ++ ws ++ vs.drop b).toArray:=fun a b => by
  apply Array.ext'
  have : (vs.drop b).take (vs.length - b) = vs.drop b:=List.take_of_length_le (by simp)
  simp [this]
 obtain ⟨m',hm'⟩:=w0h (.ref Cl) (some dx) vs.toArray n ff
 refine kk _ (I₅.mut (tk:=s₄.toks) hl hnu hsb.extBut ⟨_,m',?_,up hseq⟩)
 rw [Heap.get?_update_self _ hol (by rw [hm'];rfl),hm',← hff]
 dsimp only
 rw [ea,hlen]
end
end
section
set_option tactic.hygienic true
open PySem PySem.W PySem.Calls PyProof.Rows
variable {P : Params} {C : Cfg} {prog : Program}
noncomputable abbrev cdOf (o : Obj) : ClassData:=match o.data with | .cls cd => cd | _ => default
structure ProgOk (prog : Program) : Prop where
 file : prog.main.file = ⟨#[47,99,108,97,105,109,47,99,117,116,46,112,121]⟩
 top : (prog.main.scope.names.lookup ("super" : PySem.Str)).isSome = false
noncomputable def fileIn (K : Frag) (a : Addr) (f : PySem.Str) : Bool:=match K.lookup a with
 | some ⟨_,_,.fields vs,_⟩ => (match vs[2]? with | some (Value.str x _) => x == f | _ => false)
 | _ => false
private theorem w5y {K : Frag} {a : Addr} {f : PySem.Str} (h : fileIn K a f = true) (hp : ((prog.main.file : PySem.Str) == f) = true) : ∃ cl d vs sl file tf,K.lookup a = some ⟨cl,d,.fields vs,sl⟩ ∧ vs[2]? = some (.str file tf) ∧ ((prog.main.file : PySem.Str) == file) = true:=by
 unfold fileIn at h
 split at h
 ·rename_i cl d vs sl e
  split at h
  ·rename_i x t e2
   exact ⟨cl,d,vs,sl,x,t,e,e2,by rw [eq_of_beq h];exact hp⟩
  ·cases h
 ·cases h
noncomputable abbrev cd_acc (P : Params) : ClassData:=cdOf (Mine.hd.zo_203 P)
private theorem w2t : (cd_acc P).mro = [.ref cAcc,.type "list",.type "object"]:=by kernel_rfl
private theorem q0r (hC : CfgOk P C) : ClsOk C.K cAcc (cd_acc P):=⟨by rw [hC.K];kernel_rfl,by kernel_rfl,by rw [w2t];exact w5g _,.inr ⟨by rw [hC.K];kernel_rfl,by rw [hC.K];kernel_rfl⟩,by rw [hC.K];kernel_rfl,by rw [hC.K];kernel_rfl⟩
noncomputable abbrev cd_fmt (P : Params) : ClassData:=cdOf (Mine.hd.zo_127 P)
private theorem mro_fmt : (cd_fmt P).mro = [.ref cFmt,.type "object"]:=by kernel_rfl
private theorem q2d (hC : CfgOk P C) : ClsOk C.K cFmt (cd_fmt P):=⟨by rw [hC.K];kernel_rfl,by kernel_rfl,by rw [mro_fmt];exact w2e _,.inl (by rw [hC.K];kernel_rfl),by rw [hC.K];kernel_rfl,by rw [hC.K];kernel_rfl⟩
private theorem q2b (hC : CfgOk P C) : SubOk C.K cAcc:=⟨by rw [hC.K];kernel_rfl,by rw [hC.K];kernel_rfl,by rw [hC.K];kernel_rfl,by rw [hC.K];kernel_rfl,by rw [hC.K];kernel_rfl,by rw [hC.K];kernel_rfl⟩
private theorem m_a_init (hC : CfgOk P C) : findIn C.K (.ref cAcc) ⟨#[95,95,105,110,105,116,95,95]⟩ = some (some (.ref q5u)):=by rw [hC.K];kernel_rfl
private theorem z2x (hC : CfgOk P C) : typeIn C.K (.ref q5u) = some (.type "function"):=by rw [hC.K];kernel_rfl
private theorem w2w (hC : CfgOk P C) : findIn C.K (.ref cAcc) ⟨#[112,117,115,104]⟩ = some (some (.ref q4u)):=by rw [hC.K];kernel_rfl
private theorem w2b (hC : CfgOk P C) : typeIn C.K (.ref q4u) = some (.type "function"):=by rw [hC.K];kernel_rfl
private theorem w5p (hC : CfgOk P C) : findIn C.K (.ref cAcc) ⟨#[112,111,112,95,102,114,111,109]⟩ = some (some (.ref q4v)):=by rw [hC.K];kernel_rfl
private theorem w5b (hC : CfgOk P C) : typeIn C.K (.ref q4v) = some (.type "function"):=by rw [hC.K];kernel_rfl
private theorem z0r (hC : CfgOk P C) : findIn C.K (.ref cAcc) ⟨#[112,111,112]⟩ = some (some (.ref q6l)):=by rw [hC.K];kernel_rfl
private theorem w9l (hC : CfgOk P C) : typeIn C.K (.ref q6l) = some (.type "function"):=by rw [hC.K];kernel_rfl
private theorem z0s (hC : CfgOk P C) : findIn C.K (.ref cAcc) ⟨#[95,95,108,101,110,95,95]⟩ = some (some (.ref w3j)):=by rw [hC.K];kernel_rfl
private theorem w9m (hC : CfgOk P C) : typeIn C.K (.ref w3j) = some (.type "function"):=by rw [hC.K];kernel_rfl
private theorem m_a_str (hC : CfgOk P C) : findIn C.K (.ref cAcc) ⟨#[95,95,115,116,114,95,95]⟩ = some (some (.ref w1a)):=by rw [hC.K];kernel_rfl
private theorem t_a_str (hC : CfgOk P C) : typeIn C.K (.ref w1a) = some (.type "function"):=by rw [hC.K];kernel_rfl
private theorem w4g (hC : CfgOk P C) : findIn C.K (.ref cAcc) ⟨#[114,101,115,101,116]⟩ = some (some (.ref q3u)):=by rw [hC.K];kernel_rfl
private theorem w3m (hC : CfgOk P C) : typeIn C.K (.ref q3u) = some (.type "function"):=by rw [hC.K];kernel_rfl
private theorem m_a_only (hC : CfgOk P C) : findIn C.K (.ref cAcc) ⟨#[105,115,95,111,110,108,121,119,115]⟩ = some (some (.ref q9a)):=by rw [hC.K];kernel_rfl
private theorem z2w (hC : CfgOk P C) : typeIn C.K (.ref q9a) = some (.type "function"):=by rw [hC.K];kernel_rfl
private theorem z0t (hC : CfgOk P C) : findIn C.K (.ref cAcc) ⟨#[112,97,114,116,95,99,111,117,110,116]⟩ = some (some (.ref q5k)):=by rw [hC.K];kernel_rfl
private theorem w9n (hC : CfgOk P C) : typeIn C.K (.ref q5k) = some (.type "function"):=by rw [hC.K];kernel_rfl
private theorem m_f_init (hC : CfgOk P C) : findIn C.K (.ref cFmt) ⟨#[95,95,105,110,105,116,95,95]⟩ = some (some (.ref q3f)):=by rw [hC.K];kernel_rfl
private theorem z2u (hC : CfgOk P C) : typeIn C.K (.ref q3f) = some (.type "function"):=by rw [hC.K];kernel_rfl
private theorem m_f__str (hC : CfgOk P C) : findIn C.K (.ref cFmt) ⟨#[95,115,116,114]⟩ = some (some (.ref q8z)):=by rw [hC.K];kernel_rfl
private theorem z2v (hC : CfgOk P C) : typeIn C.K (.ref q8z) = some (.type "function"):=by rw [hC.K];kernel_rfl
private theorem w0j (hC : CfgOk P C) : findIn C.K (.ref cFmt) ⟨#[110,101,119,108,105,110,101]⟩ = some (some (.ref q2e)):=by rw [hC.K];kernel_rfl
private theorem q9d (hC : CfgOk P C) : typeIn C.K (.ref q2e) = some (.type "function"):=by rw [hC.K];kernel_rfl
private theorem m_f_app (hC : CfgOk P C) : findIn C.K (.ref cFmt) ⟨#[95,97,112,112,101,110,100,95,99,104,117,110,107]⟩ = some (some (.ref q6k)):=by rw [hC.K];kernel_rfl
private theorem t_f_app (hC : CfgOk P C) : typeIn C.K (.ref q6k) = some (.type "function"):=by rw [hC.K];kernel_rfl
noncomputable abbrev w7i : Addr:=124
noncomputable abbrev z1t (P : Params) : Obj:=Mine.hd.zo_132 P
private theorem z1l (hC : CfgOk P C) : C.K.lookup w7i = some (z1t P):=by rw [hC.K];kernel_rfl
noncomputable abbrev w0u : Addr:=140
noncomputable abbrev w4t (P : Params) : Obj:=Mine.hd.zo_148 P
private theorem w4p (hC : CfgOk P C) : C.K.lookup w0u = some (w4t P):=by rw [hC.K];kernel_rfl
noncomputable abbrev w0t : Addr:=170
noncomputable abbrev w8x (P : Params) : Obj:=Mine.hd.zo_178 P
private theorem w1s (hC : CfgOk P C) : C.K.lookup w0t = some (w8x P):=by rw [hC.K];kernel_rfl
private theorem n_bool (hC : CfgOk P C) : findIn C.K (.ref cAcc) "__bool__" = some none:=by rw [hC.K];kernel_rfl
private theorem n_size (hC : CfgOk P C) : findIn C.K (.ref cAcc) ⟨#[95,105,110,105,116,105,97,108,95,115,105,122,101]⟩ = some none:=by rw [hC.K];kernel_rfl
private theorem q7t (hC : CfgOk P C) : findIn C.K (.ref cFmt) ⟨#[95,109,97,120,108,101,110]⟩ = some none:=by rw [hC.K];kernel_rfl
private theorem q6i (hC : CfgOk P C) : findIn C.K (.ref cFmt) ⟨#[95,99,111,110,116,105,110,117,97,116,105,111,110,95,119,115]⟩ = some none:=by rw [hC.K];kernel_rfl
private theorem q4p (hC : CfgOk P C) : findIn C.K (.ref cFmt) ⟨#[95,99,111,110,116,105,110,117,97,116,105,111,110,95,119,115,95,108,101,110]⟩ = some none:=by rw [hC.K];kernel_rfl
private theorem q5x (hC : CfgOk P C) : findIn C.K (.ref cFmt) ⟨#[95,115,112,108,105,116,99,104,97,114,115]⟩ = some none:=by rw [hC.K];kernel_rfl
private theorem w4d (hC : CfgOk P C) : findIn C.K (.ref cFmt) ⟨#[95,108,105,110,101,115]⟩ = some none:=by rw [hC.K];kernel_rfl
private theorem q4w (hC : CfgOk P C) : findIn C.K (.ref cFmt) ⟨#[95,99,117,114,114,101,110,116,95,108,105,110,101]⟩ = some none:=by rw [hC.K];kernel_rfl
private theorem mk_acc (hC : CfgOk P C) : w2v C.K cAcc = true:=by rw [hC.K];kernel_rfl
private theorem mk_fmt (hC : CfgOk P C) : makesIn C.K cFmt = true:=by rw [hC.K];kernel_rfl
private theorem mod_acc (hC : CfgOk P C) : mroIn C.K cAcc (.type "module") = some false:=by rw [hC.K];kernel_rfl
private theorem ty_acc (hC : CfgOk P C) : typeIn C.K (.ref cAcc) = some (.type "type"):=by rw [hC.K];kernel_rfl
private theorem qn_acc : (cd_acc P).qualname.toString = "_Accumulator":=by kernel_rfl
private theorem al_len (hC : CfgOk P C) : alongIn C.K "__len__" [.type "list",.type "object"] = some (some (.builtin "list.__len__")):=by kernel_rfl
private theorem al_init (hC : CfgOk P C) : alongIn C.K "__init__" [.type "list",.type "object"] = some (some (.builtin "list.__init__")):=by kernel_rfl
private theorem al_pop (hC : CfgOk P C) : alongIn C.K "pop" [.type "list",.type "object"] = some (some (.builtin "list.pop")):=by kernel_rfl
private theorem q7m (hC : CfgOk P C) (hp : ProgOk prog) : SupOk prog C.K cAcc q8c q5u (q4i P) 131 where
 sup:=.inr ⟨by rw [hC.K];kernel_rfl,by rw [hC.K];kernel_rfl⟩
 cell:=⟨.type "cell",none,#[],by rw [hC.K];kernel_rfl⟩
 cls:=⟨_,(q0r hC).hc⟩
 fn:=⟨.type "function",none,#[],by rw [hC.K];kernel_rfl⟩
 arg:=⟨_,rfl,rfl⟩
 codeEq:=by kernel_rfl
 file:=w5y (f:=⟨#[47,99,108,97,105,109,47,99,117,116,46,112,121]⟩) (by rw [hC.K];kernel_rfl) (by rw [hp.file];exact beq_self_eq_true _)
 sub:=by rw [hC.K];kernel_rfl
 top:=hp.top
 opaq:=by rw [hC.K];kernel_rfl
 clo:=by kernel_rfl
 ks:=by kernel_rfl
 kc:=by kernel_rfl
 kself:=by kernel_rfl
 kind:=by kernel_rfl
private theorem q4x (hC : CfgOk P C) (hp : ProgOk prog) : SupOk prog C.K cAcc q8c q6l (q7e P) 154 where
 sup:=.inr ⟨by rw [hC.K];kernel_rfl,by rw [hC.K];kernel_rfl⟩
 cell:=⟨.type "cell",none,#[],by rw [hC.K];kernel_rfl⟩
 cls:=⟨_,(q0r hC).hc⟩
 fn:=⟨.type "function",none,#[],by rw [hC.K];kernel_rfl⟩
 arg:=⟨_,rfl,rfl⟩
 codeEq:=by kernel_rfl
 file:=w5y (f:=⟨#[47,99,108,97,105,109,47,99,117,116,46,112,121]⟩) (by rw [hC.K];kernel_rfl) (by rw [hp.file];exact beq_self_eq_true _)
 sub:=by rw [hC.K];kernel_rfl
 top:=hp.top
 opaq:=by rw [hC.K];kernel_rfl
 clo:=by kernel_rfl
 ks:=by kernel_rfl
 kc:=by kernel_rfl
 kself:=by kernel_rfl
 kind:=by kernel_rfl
private theorem q6c (hC : CfgOk P C) (hp : ProgOk prog) : SupOk prog C.K cAcc q8c q5k (q5t P) 191 where
 sup:=.inr ⟨by rw [hC.K];kernel_rfl,by rw [hC.K];kernel_rfl⟩
 cell:=⟨.type "cell",none,#[],by rw [hC.K];kernel_rfl⟩
 cls:=⟨_,(q0r hC).hc⟩
 fn:=⟨.type "function",none,#[],by rw [hC.K];kernel_rfl⟩
 arg:=⟨_,rfl,rfl⟩
 codeEq:=by kernel_rfl
 file:=w5y (f:=⟨#[47,99,108,97,105,109,47,99,117,116,46,112,121]⟩) (by rw [hC.K];kernel_rfl) (by rw [hp.file];exact beq_self_eq_true _)
 sub:=by rw [hC.K];kernel_rfl
 top:=hp.top
 opaq:=by rw [hC.K];kernel_rfl
 clo:=by kernel_rfl
 ks:=by kernel_rfl
 kc:=by kernel_rfl
 kself:=by kernel_rfl
 kind:=by kernel_rfl
end
section
open PySem PySem.W PySem.Calls PyProof.Rows
variable {prog : Program} {w : World} {P : Params} {C : Cfg}
section
variable {mu mu' nu : List Addr} {s₀ s s' : Shared} {env : Env} {ρ : List (PySem.Str × PV)} {σ σ' : List (Addr × MO)} {A : Around} {E : Value → Shared → Prop}
private theorem In.knowR {d : Addr} {m : MO} (I : In C mu nu env ρ σ s₀ s) (hd : d ∈ mu) (hown : d ∉ q0j env) (hm : MOAt mu s.heap d m) : In C mu nu env ρ ((d,m) :: σ) s₀ s:=
 ⟨I.ok,(I.know hd hown hm).act,I.kp,I.sub,I.cells⟩
noncomputable abbrev sSize : PySem.Str:="_initial_size"
inductive AccD (od : Obj) (k : Int) : Prop
 | mk (hs : Int) (t t' n : Nat) (e : od = dictOf [⟨hs,.str sSize t,.int k t'⟩] n) : AccD od k
structure AccAt (mu : List Addr) (h : Heap) (x dx : Addr) (l : List (PySem.Str × PySem.Str)) (k : Int) : Prop where
 hx : x ∈ mu
 hd : dx ∈ mu
 ne : x ≠ dx
 at_ : MOAt mu h x (.seq (.ref cAcc) (some dx) (l.map pairPV))
 dict : ∃ od,AccD od k ∧ h.get? dx = some od
noncomputable abbrev sAcc (x dx : Addr) (l : List (PySem.Str × PySem.Str)) (od : Obj) : List (Addr × MO):=[(x,.seq (.ref cAcc) (some dx) (l.map pairPV)),(dx,.raw od)]
private theorem sAcc_x {x dx : Addr} {l : List (PySem.Str × PySem.Str)} {od : Obj} : (sAcc x dx l od).lookup x = some (.seq (.ref cAcc) (some dx) (l.map pairPV)):=by simp [List.lookup_cons]
private theorem sAcc_d {x dx : Addr} {l : List (PySem.Str × PySem.Str)} {od : Obj} (h : x ≠ dx) : (sAcc x dx l od).lookup dx = some (.raw od):=by
 have : (dx == x) = false:=by simpa using Ne.symm h
 simp [List.lookup_cons,this]
private theorem q9n {x dx : Addr} {l : List (PySem.Str × PySem.Str)} {od : Obj} (h : x ≠ dx) : SInst (sAcc x dx l od) x dx cAcc od:=⟨sAcc_d h,.inl ⟨_,sAcc_x⟩⟩
private theorem AccAt.keeps {mu mu' : List Addr} {h h' : Heap} {x dx : Addr} {l : List (PySem.Str × PySem.Str)} {k : Int} (a : AccAt mu h x dx l k) (hmu : ∀ a ∈ mu,a ∈ mu') (hn : ∀ a o,a ∉ mu → h.get? a = some o → a ∉ mu') (hk : ∀ b o,h.get? b = some o → h'.get? b = some o) : AccAt mu' h' x dx l k:=
 ⟨hmu _ a.hx,hmu _ a.hd,a.ne,a.at_.keeps (fun o e => hk _ o e) hn fun b o _ _ e => hk b o e,let ⟨od,h1,h2⟩:=a.dict;⟨od,h1,hk _ _ h2⟩⟩
private theorem AccAt.ofAct {x dx : Addr} {l : List (PySem.Str × PySem.Str)} {od : Obj} {k : Int} (a : Act env mu s.heap ρ σ) (h1 : σ.lookup x = some (.seq (.ref cAcc) (some dx) (l.map pairPV))) (h2 : σ.lookup dx = some (.raw od)) (hne : x ≠ dx) (hk : AccD od k) : AccAt mu s.heap x dx l k:=
 ⟨(a.st x _ h1).1,(a.st dx _ h2).1,hne,(a.st x _ h1).2.2,od,hk,(a.st dx _ h2).2.2⟩
private theorem AccAt.tell {L : Addr} {s₁ : Shared} {x dx : Addr} {l : List (PySem.Str × PySem.Str)} {k : Int} (a : AccAt mu s.heap x dx l k) (I : In C (L :: mu) nu env ρ [] s s₁) (hL : s.heap.get? L = none) (hloc : env.locals = L) (hcells : ∀ c ∈ env.cells,∃ o,C.H.get? c.2 = some o) (hk : ∀ b o,s.heap.get? b = some o → s₁.heap.get? b = some o) :
  ∃ od,AccD od k ∧ In C (L :: mu) nu env ρ (sAcc x dx l od) s s₁:=by
 obtain ⟨od,h1,h2⟩:=a.dict
 have a' : AccAt (L :: mu) s₁.heap x dx l k:=a.keeps (fun _ h => .tail _ h) (fun b o hb e q => by rcases List.mem_cons.mp q with rfl | q;(rw [hL] at e;cases e);exact hb q) hk
 have own : ∀ b ∈ mu,(∃ o,s.heap.get? b = some o) → b ∉ q0j env:=fun b hb ⟨o,ho⟩ q => by
  rcases List.mem_cons.mp q with e | q
  ·rw [e,hloc,hL] at ho;cases ho
  ·obtain ⟨c,hc,rfl⟩:=List.mem_map.mp q
   obtain ⟨o,ho⟩:=hcells c hc
   have:=(I.ok.live c.2 (.tail _ hb)).1
   rw [ho] at this;cases this
 have hx0 : ∃ o,s.heap.get? x = some o:=let ⟨vs,n,e1,_⟩:=a.at_;⟨_,e1⟩
 have I₁ : In C (L :: mu) nu env ρ [(dx,.raw od)] s s₁:=I.knowR (m:=.raw od) a'.hd (own _ a.hd ⟨_,h2⟩) (hk _ _ h2)
 exact ⟨od,h1,I₁.knowR a'.hx (own _ a.hx hx0) a'.at_⟩
end
end
section
open PySem PySem.W PySem.Calls PyProof.Rows
variable {prog : Program} {w : World}
private theorem ty_len : typeOf (.builtin "list.__len__") = pure (.type "wrapper_descriptor"):=by show builtinType _ = _;rw [builtinType_eq_fast];kernel_rfl
private theorem w9j : typeOf (.builtin "list.__init__") = pure (.type "wrapper_descriptor"):=by show builtinType _ = _;rw [builtinType_eq_fast];kernel_rfl
private theorem ty_pop : typeOf (.builtin "list.pop") = pure (.type "method_descriptor"):=by show builtinType _ = _;rw [builtinType_eq_fast];kernel_rfl
private theorem q6p : Slot "wrapper_descriptor" "__get__" "wrapper_descriptor.__get__":=
 .of (owner:="wrapper_descriptor") (n:="__get__") (by rw [typeLookup_type,builtinLookup_eq_fast];kernel_rfl) (by decide +kernel) (by decide +kernel) (by decide +kernel)
  (by first | exact .inl (by decide +kernel) | exact .inr (by decide +kernel)) (by rw [isSubtype_type];kernel_rfl)
private theorem w3t : Slot "method_descriptor" "__get__" "method_descriptor.__get__":=
 .of (owner:="method_descriptor") (n:="__get__") (by rw [typeLookup_type,builtinLookup_eq_fast];kernel_rfl) (by decide +kernel) (by decide +kernel) (by decide +kernel)
  (by first | exact .inl (by decide +kernel) | exact .inr (by decide +kernel)) (by rw [isSubtype_type];kernel_rfl)
private theorem w1q : entryFor table "wrapper_descriptor.__get__" = some Builtin.«wrapper_descriptor.__get__»:=entryFor_of_tree (by kernel_rfl)
private theorem w8t : entryFor table "method_descriptor.__get__" = some Builtin.«method_descriptor.__get__»:=entryFor_of_tree (by kernel_rfl)
private theorem w4x (a b c : Value) : argsOk "wrapper_descriptor.__get__" ⟨[a,b,c],[]⟩:=by unfold argsOk;kernel_rfl
private theorem z2l (a b c : Value) : argsOk "method_descriptor.__get__" ⟨[a,b,c],[]⟩:=by unfold argsOk;kernel_rfl
section
variable {A : Around} {E : Value → Shared → Prop} {h : Heap} {g : Array GenState} {d : Drawn} {t : Nat} {os : OsState}
private theorem call_len {x Cl : Addr} {ox : Obj} {Q : Value → Shared → Prop} (hx : h.get? x = some ox) (hc : ox.cls = .ref Cl) (hi : Looks (model prog w) h (isSubtype (.ref Cl) (.type "list")) true)
  (hq : Q (.ref h.objs.size) ⟨h.push { cls:=.type "method-wrapper",data:=.fields #[.builtin "list.__len__",.ref x] },g,d,t,os⟩) :
  wpAny (model prog w) A (call (.builtin "wrapper_descriptor.__get__") [.builtin "list.__len__",.ref x,.ref Cl]) Q E ⟨h,g,d,t,os⟩:=
 wpAny_call_entry (rest:=[.ref x,.ref Cl]) q6p ty_len w1q (bd_len hx hc hi ⟨_,rfl,hq⟩) (w4x _ _ _)
private theorem z1z {x Cl : Addr} {ox : Obj} {Q : Value → Shared → Prop} (hx : h.get? x = some ox) (hc : ox.cls = .ref Cl) (hi : Looks (model prog w) h (isSubtype (.ref Cl) (.type "list")) true)
  (hq : Q (.ref h.objs.size) ⟨h.push { cls:=.type "method-wrapper",data:=.fields #[.builtin "list.__init__",.ref x] },g,d,t,os⟩) :
  wpAny (model prog w) A (call (.builtin "wrapper_descriptor.__get__") [.builtin "list.__init__",.ref x,.ref Cl]) Q E ⟨h,g,d,t,os⟩:=
 wpAny_call_entry (rest:=[.ref x,.ref Cl]) q6p w9j w1q (bd_init hx hc hi ⟨_,rfl,hq⟩) (w4x _ _ _)
private theorem call_pop {x Cl : Addr} {ox : Obj} {Q : Value → Shared → Prop} (hx : h.get? x = some ox) (hc : ox.cls = .ref Cl) (hi : Looks (model prog w) h (isSubtype (.ref Cl) (.type "list")) true)
  (hq : Q (.ref h.objs.size) ⟨h.push { cls:=.type "builtin_function_or_method",data:=.fields #[.builtin "list.pop",.ref x] },g,d,t,os⟩) :
  wpAny (model prog w) A (call (.builtin "method_descriptor.__get__") [.builtin "list.pop",.ref x,.ref Cl]) Q E ⟨h,g,d,t,os⟩:=
 wpAny_call_entry (rest:=[.ref x,.ref Cl]) w3t ty_pop w8t (bd_pop hx hc hi ⟨_,rfl,hq⟩) (z2l _ _ _)
private theorem ck_len (x : Addr) (A : Around) (Q : Unit → Shared → Prop) (E : Value → Shared → Prop) (s : Shared) (q : Q () s) : wpAny (model prog w) A (checkBoundCall "list.__len__" ⟨[.ref x],[]⟩) Q E s:=
 @w0y A E "list.__len__" x s Q (model prog w) w0k.1 (args_list_len _) q
private theorem ck_init (x : Addr) (A : Around) (Q : Unit → Shared → Prop) (E : Value → Shared → Prop) (s : Shared) (q : Q () s) : wpAny (model prog w) A (checkBoundCall "list.__init__" ⟨[.ref x],[]⟩) Q E s:=
 @w0y A E "list.__init__" x s Q (model prog w) w0k.2.1 (by unfold argsOk;kernel_rfl) q
end
end
local macro_rules | `(tactic| walk_at "sto") => `(tactic| exact ⟨rfl,.inl ⟨rfl,by repeat (first | exact .head _ | apply List.Mem.tail)⟩⟩)
local macro_rules | `(tactic| walk_at "pe") => `(tactic| first
 | ((with_reducible refine' q0b ?h ?d);(case h => first | exact rfl | assumption);(case d => exact rfl))
 | (with_reducible (first | exact q0t | exact q0m | exact q1m | exact w2m | exact op_add | exact op_sub | exact op_and | exact op_or | exact op_xor | exact op_le | exact op_lt | exact op_gt | exact op_eq | exact op_ne | exact op_neg | exact q0g | refine' q0k ?_ ?_ ?_ | refine' q2c ?_ ?_ | refine' op_mul ?_ | refine' op_shl ?_ ?_ | refine' op_shr ?_ | refine' op_len ?_ | refine' z0l ?_ ?_))
 | ((with_reducible refine' q0i ?_ ?_ ?_ ?m);(case m => exact rfl))
 | ((with_reducible refine' q0f ?h ?l ?d);(case h => exact q0e (by assumption) rfl);(case l => exact rfl);(case d => exact rfl))
 | (with_reducible exact pur_gint (by assumption) rfl rfl)
 | (with_reducible exact w6s (by assumption) rfl rfl)
 | ((with_reducible refine' q6t ?o (w0g ?n) w2q ?e);(case n => decide +kernel);(case e => exact rfl))
 | ((with_reducible refine' q0c ?_ ?_ ?e);(case e => exact fun _ => rfl))
 | ((with_reducible refine' z0c ?_ ?l);(case l => exact Nat.le_of_ble_eq_true rfl))
 | ((with_reducible refine' q6v ?_ ?l);(case l => exact Nat.le_of_ble_eq_true rfl))
 | ((with_reducible refine' q1a ?f ?a ?o ?e ?p);(case e => exact fun _ => rfl);(case p => exact rfl);(case f => exact q0f (q0e (by assumption) rfl) rfl rfl))
 | ((with_reducible show PurE _ _ _ _ _ _ _ _ (PySem.Expr.Constant _ _ _) _);exact q0m))
local macro_rules | `(tactic| walk_at "mem") => `(tactic| repeat (first | exact .head _ | apply List.Mem.tail))
local macro_rules | `(tactic| walk_at "stc") => `(tactic| exact ⟨rfl,.inr ⟨rfl,_,rfl,by walk_at "mem"⟩⟩)
local macro_rules | `(tactic| walk_at "look") => `(tactic| ((repeat (refine List.forall_mem_cons.mpr ⟨by first | exact rfl | assumption,?_⟩));(exact fun _ h => (nomatch h))))
section
open PySem PySem.W PySem.Calls PyProof.Rows
variable {prog : Program} {w : World} {P : Params} {C : Cfg}
section
variable {mu mu' nu : List Addr} {s₀ s s' : Shared} {env : Env} {ρ : List (PySem.Str × PV)} {σ σ' : List (Addr × MO)} {A : Around} {E : Value → Shared → Prop}
private theorem q2f (hC : CfgOk P C) (O : Ok C mu s) : ∃ o,C.H.get? q8c = some o:=by
 obtain ⟨o,e⟩ : ∃ o,C.K.lookup q8c = some o:=⟨{ cls:=.type "cell",data:=.cell (some (.ref cAcc)) },by rw [hC.K];kernel_rfl⟩
 exact ⟨o,O.kin _ _ e⟩
private theorem AccAt.neCls (hC : CfgOk P C) (O : Ok C mu s) {x dx : Addr} {l : List (PySem.Str × PySem.Str)} {k : Int} (a : AccAt mu s.heap x dx l k) : x ≠ cAcc:=fun q => by
 obtain ⟨o,e⟩ : ∃ o,C.K.lookup cAcc = some o:=by
  obtain ⟨o,e,_⟩:=w6f (q0r hC).hc
  exact ⟨o,e⟩
 have:=(O.live x a.hx).1
 rw [q,O.kin _ _ e] at this;cases this
private theorem z2p (hC : CfgOk P C) (hp : ProgOk prog) {n : Nat} {x dx : Addr} {l : List (PySem.Str × PySem.Str)} {k : Int} (r : Rm A (n + 1)) (O : Ok C mu s) (ha : AccAt mu s.heap x dx l k) (hsz : l.length ≤ 2 ^ 20) :
  Pur prog w C mu A (call (.ref q5k) [.ref x]) (.int l.length) s:=by
 intro Q E kk
 refine q7w (names:=[⟨#[115,101,108,102]⟩]) (ps:=[.val (.ref x)]) ((w0s hC).at O) r O ⟨_,_,rfl,rfl,rfl⟩ (BindsTo.of_eq rfl) rfl (q6c hC hp).clo (q2f hC O) rfl rfl fun L s₁ hL I r' hk => ?_
 obtain ⟨od,hod,I₁⟩:=ha.tell I hL rfl (fun c hc => by
  have hc' : c ∈ (q5t P).closure:=hc
  rw [(q6c hC hp).clo] at hc'
  simp at hc'
  rw [hc'];exact q2f hC O) hk
 refine ks_wpAt_execs_cons (ks_wpAt_Return_some (w2c (q6c hC hp) I₁ rfl sAcc_x (sAcc_d ha.ne) (q0r hC).hc (l:=[.type "list",.type "object"]) (by rw [w2t];rfl) (ha.neCls hC O) (al_len hC) ty_len q6p.lookup rfl
  (fun h g d t os ox A Q E X hx hc hq => call_len hx hc (looks_mroIn X (q2b hC).lst) hq) fun b s₂ I₂ hb => ?_))
 obtain ⟨vs,m,hox,hvs,IA⟩:=I₂.act.inst sAcc_x (sAcc_d ha.ne)
 obtain ⟨hh,gg,dr,tk,os⟩:=s₂
 refine q8d (.inr rfl) hb (fun A Q E hq => ck_len x A Q E _ hq) slot_list_len.plain entry_list_len (sub_len (.ref cAcc) (some dx) x vs.toArray m) ⟨hox,?_⟩
 have hl : vs.toArray.size = l.length:=by simp [hvs.length]
 have I₃:=I₂.next (s':=⟨hh,gg,dr,tk + 1,os⟩) (I₂.ok.tok (tk:=tk + 1)) ⟨fun _ _ _ _ e => e⟩
 exact kk _ _ (I₃.out hL).1 (I₃.out hL).2 ⟨_,by rw [hl]⟩
end
end
section
open PySem PySem.W PySem.Calls PyProof.Rows
set_option maxHeartbeats 2000000
variable {prog : Program} {w : World} {P : Params} {C : Cfg}
structure AccSz (l : List (PySem.Str × PySem.Str)) (k : Int) : Prop where
 len : l.length ≤ 1024
 each : ∀ p ∈ l,p.1.length ≤ 1024 ∧ p.2.length ≤ 1024
 k0 : 0 ≤ k
 k1 : k ≤ 2 ^ 20
noncomputable def lenP (p : PySem.Str × PySem.Str) : Int:=(p.1.length : Int) + p.2.length
noncomputable def accLen (l : List (PySem.Str × PySem.Str)) (k : Int) : Int:=k + (l.map lenP).sum
private theorem w5q {l : List (PySem.Str × PySem.Str)} (h : ∀ p ∈ l,p.1.length ≤ 1024 ∧ p.2.length ≤ 1024) : 0 ≤ (l.map lenP).sum ∧ (l.map lenP).sum ≤ 2048 * (l.length : Int):=by
 induction l with
 | nil => simp
 | cons p l ih =>
  have h1:=h p (.head _)
  have h2:=ih fun q hq => h q (.tail _ hq)
  simp only [List.map_cons,List.sum_cons,List.length_cons]
  have e : lenP p = (p.1.length : Int) + p.2.length:=rfl
  lia
private theorem AccSz.nonneg {l : List (PySem.Str × PySem.Str)} {k : Int} (h : AccSz l k) : 0 ≤ accLen l k ∧ accLen l k < 2 ^ 60:=by
 have h1:=w5q h.each
 have h2:=h.k0
 have h3:=h.k1
 have h4:=h.len
 unfold accLen
 lia
section
variable {mu mu' nu : List Addr} {s₀ s s' : Shared} {env : Env} {ρ : List (PySem.Str × PV)} {σ σ' : List (Addr × MO)} {A : Around} {E : Value → Shared → Prop}
private theorem GenE.ofSub {e : Expr} {l : List (PySem.Str × PySem.Str)} {g : PySem.Str × PySem.Str → PV}
  (h : ∀ s,Ok C mu s → Act env mu s.heap ρ σ → ∀ (Q : Value → Shared → Prop) (E : Value → Shared → Prop),
   (∀ ga s' fp wr St G,Ok C mu s' → Kp C [] s s' → WalksS prog w A.in4 ga fp wr G l.length (fun j y => ∃ p,l[j]? = some p ∧ ∀ h,Sim h [] (g p) y) St → (∀ i s,St i s → s.TypeIs (.ref ga) "generator") → St 0 s' → ga ∈ fp → (∀ b ∈ fp,b < s'.heap.objs.size) →
    (∀ s'',Moved wr G s' s'' → Ok C mu s'' ∧ Kp C [] s s'') → Q (.ref ga) s') → wpAny (model prog w) A (eval e env) Q E s) : GenE prog w C mu A env ρ σ e (l.map g):=fun s O a Q E k =>
 h s O a Q E fun ga s' fp wr St G O' k' W hT hst hga hfp hM => k ga s' fp wr St G O' k' (w6n W (by rw [List.length_map]) fun j y ⟨p,hp,hy⟩ => ⟨g p,by rw [List.getElem?_map,hp];rfl,hy⟩) hT hst hga hfp hM
private theorem z2o (hC : CfgOk P C) {n : Nat} {x dx : Addr} {l : List (PySem.Str × PySem.Str)} {k : Int} (r : Rm A (n + 3)) (O : Ok C mu s) (ha : AccAt mu s.heap x dx l k) (hz : AccSz l k) :
  Pur prog w C mu A (call (.ref w3j) [.ref x]) (.int (accLen l k)) s:=by
 intro Q E kk
 refine q1o (ρc:=[]) (names:=[⟨#[115,101,108,102]⟩]) (ps:=[.val (.ref x)]) ((z1s hC).at O) r O ⟨_,_,rfl,rfl,rfl⟩ (BindsTo.of_eq rfl) rfl Clo.nil rfl rfl fun L s₁ hL I r' hk => ?_
 rw [List.append_nil] at I
 obtain ⟨od,hod,I₁⟩:=ha.tell I hL rfl (fun c hc => nomatch hc) hk
 obtain ⟨hs,t,t',m,rfl⟩:=hod
 have h1:=w5q hz.each
 have h2:=hz.len
 refine q0a (q0q I₁ (w8e (ns:=l.map lenP) (ps:=l.map fun p => .int (lenP p)) (k:=k) (by rw [List.map_map];rfl) r'.none ?b ?c ?d ⟨by have:=hz.k0;lia,by have:=hz.k1;lia⟩ (fun j hj => ?e) (fun _ => rfl) (fun _ => rfl)) fun v s' I' y => ?f)
 case b => exact q0f (q0e hC rfl) rfl rfl
 case d => exact tk_attr (q0r hC) rfl rfl rfl (q9n ha.ne) (n_size hC) rfl rfl (fun h => ⟨t',rfl⟩)
 case c =>
  refine GenE.ofSub fun s O a Q E kg => z1e (cl:=[]) (x:=x) (dx:=dx) (Cl:=cAcc) (tb:=TL[2]) (g:=fun p => .int (lenP p)) O a r'.none r'.room ?a1 ?a2 ?a3 ?a4 ?a5 ?a6 ?a7 ?a8 ?a9 sAcc_x (sAcc_d ha.ne) (q2b hC).lst (q2b hC).iter ?b1 ?b2 ?b3 ?b4 (fun _ => rfl) ?b5 kg
  case a1 => exact rfl
  case a2 => exact rfl
  case a3 => decide
  case a4 => exact rfl
  case a5 => exact rfl
  case a6 => exact rfl
  case a7 => decide
  case a8 => exact rfl
  case a9 => exact q0b rfl rfl
  case b1 => rw [hC.T];decide +kernel
  case b2 => exact rfl
  case b3 => kernel_rfl
  case b4 => rw [hC.T];decide +kernel
  case b5 =>
   intro A' E' L' code p va vb s₂ m₂ hA' _ _ hp hva hvb X hn ha' hb'
   exact elt_len (b:=p) X ⟨rfl,rfl,rfl,rfl⟩ hn rfl (q0e hC rfl) rfl rfl hva hvb ha' hb' (by have:=(hz.each p hp).1;(with_reducible refine nae ?_;decide)) (by have:=(hz.each p hp).2;(with_reducible refine nae ?_;decide)) rfl rfl
 case e =>
  have hj' : j < l.length:=by simpa using hj
  have hp:=hz.each l[j] (List.getElem_mem hj')
  have e1 : (l.map lenP).getD j 0 = lenP l[j]:=by simp [List.getD_eq_getElem?_getD,hj']
  have e2:=w5q (l:=l.take (j + 1)) fun q hq => hz.each q (List.mem_of_mem_take hq)
  have e3 : ((l.map lenP).take (j + 1)) = (l.take (j + 1)).map lenP:=by rw [List.map_take]
  have e4 : (l.take (j + 1)).length ≤ l.length:=by rw [List.length_take];with_reducible exact Nat.min_le_right _ _
  have e5 : lenP l[j] = (l[j].1.length : Int) + l[j].2.length:=rfl
  have:=hz.k0
  have:=hz.k1
  rw [e1,e3]
  refine ⟨⟨?_,?_⟩,?_,?_⟩ <;> lia
 case f => exact kk v s' (I'.out hL).1 (I'.out hL).2 (y.sub fun a h => .tail _ h)
end
end
section
open PySem PySem.W PySem.Calls PyProof.Rows
set_option maxHeartbeats 2000000
variable {prog : Program} {w : World} {P : Params} {C : Cfg}
private theorem join0 : ∀ ys : List PySem.Str,(PySem.Txt.join ⟨#[]⟩ ys).cps.toList = (ys.map (·.cps.toList)).flatten:=fun ys => by
 show (PySem.Builtin.Str.glued ⟨#[]⟩ ys).cps.toList = _
 rw [StrLaws.glued_eq_join]
 induction ys with
 | nil => rfl
 | cons y ys ih =>
  cases ys with
  | nil => simp [Str.join]
  | cons z zs =>
   show (y ++ (⟨#[]⟩ : PySem.Str) ++ Str.join ⟨#[]⟩ (z :: zs)).cps.toList = _
   have e : (y ++ (⟨#[]⟩ : PySem.Str) ++ Str.join ⟨#[]⟩ (z :: zs)).cps.toList = y.cps.toList ++ (Str.join ⟨#[]⟩ (z :: zs)).cps.toList:=by
    show (y.cps ++ #[] ++ (Str.join ⟨#[]⟩ (z :: zs)).cps).toList = _
    simp
   rw [e,ih]
   simp
noncomputable def accStr (l : List (PySem.Str × PySem.Str)) : PySem.Str:=⟨((l.map fun p => p.1.cps.toList ++ p.2.cps.toList).flatten).toArray⟩
private theorem q4c {a b : PySem.Str} (h : a.cps.toList = b.cps.toList) : a = b:=by
 cases a;cases b;congr;exact Array.ext' h
private theorem join2 (a b : PySem.Str) : PySem.Txt.join ⟨#[]⟩ [a,b] = a ++ b:=q4c (by rw [join0];show _ = (a.cps ++ b.cps).toList;simp)
private theorem z2q (l : List (PySem.Str × PySem.Str)) : PySem.Txt.join ⟨#[]⟩ (l.map fun p => PySem.Txt.join ⟨#[]⟩ [p.1,p.2]) = accStr l:=q4c (by
 rw [join0,List.map_map]
 unfold accStr
 simp only [List.toList_toArray]
 congr 1
 apply List.map_congr_left
 intro p _
 show (PySem.Txt.join ⟨#[]⟩ [p.1,p.2]).cps.toList = _
 rw [join0]
 simp)
private theorem len_add (a b : PySem.Str) : (a ++ b).length = a.length + b.length:=by
 show (a.cps ++ b.cps).size = _
 exact Array.size_append
section
variable {mu mu' nu : List Addr} {s₀ s s' : Shared} {env : Env} {ρ : List (PySem.Str × PV)} {σ σ' : List (Addr × MO)} {A : Around} {E : Value → Shared → Prop}
private theorem z2y {l : List (PySem.Str × PySem.Str)} (h : ∀ p ∈ l,p.1.length ≤ 64 ∧ p.2.length ≤ 64) : ((l.map fun p => PySem.Txt.join ⟨#[]⟩ [p.1,p.2]).map (·.length)).sum ≤ 128 * l.length:=by
 induction l with
 | nil => simp
 | cons p l ih =>
  have h1:=h p (.head _)
  have h2:=ih fun q hq => h q (.tail _ hq)
  simp only [List.map_cons,List.sum_cons,List.length_cons,join2,len_add] at h2 ⊢
  lia
private theorem acc_str (hC : CfgOk P C) {n : Nat} {x dx : Addr} {l : List (PySem.Str × PySem.Str)} {k : Int} (r : Rm A (n + 3)) (O : Ok C mu s) (ha : AccAt mu s.heap x dx l k) (hz : AccSz l k) (hsm : ∀ p ∈ l,p.1.length ≤ 64 ∧ p.2.length ≤ 64) :
  Pur prog w C mu A (call (.ref w1a) [.ref x]) (.str (accStr l)) s:=by
 intro Q E kk
 refine q1o (ρc:=[]) (names:=[⟨#[115,101,108,102]⟩]) (ps:=[.val (.ref x)]) ((z1r hC).at O) r O ⟨_,_,rfl,rfl,rfl⟩ (BindsTo.of_eq rfl) rfl Clo.nil rfl rfl fun L s₁ hL I r' hk => ?_
 rw [List.append_nil] at I
 obtain ⟨od,hod,I₁⟩:=ha.tell I hL rfl (fun c hc => nomatch hc) hk
 have h2:=hz.len
 obtain ⟨t0,hg0⟩:=g_empty hC
 have hs:=z2y hsm
 refine q0a (q0q I₁ (w5k (sep:=⟨#[]⟩) (ys:=l.map fun p => PySem.Txt.join ⟨#[]⟩ [p.1,p.2]) (ps:=l.map fun p => .str (PySem.Txt.join ⟨#[]⟩ [p.1,p.2])) (by rw [List.map_map];rfl) r'.none ?b ?c rfl ?d ?e) fun v s' I' y => ?f)
 case b => exact w6s hg0 rfl rfl
 case d => exact joinOk_of_weight (by rw [List.length_map];lia) (by decide)
 case e => rw [List.length_map];(with_reducible refine nad ?_;decide)
 case c =>
  refine GenE.ofSub fun s O a Q E kg => z1e (cl:=[]) (x:=x) (dx:=dx) (Cl:=cAcc) (tb:=TL[3]) (g:=fun p => .str (PySem.Txt.join ⟨#[]⟩ [p.1,p.2])) O a r'.none r'.room ?a1 ?a2 ?a3 ?a4 ?a5 ?a6 ?a7 ?a8 ?a9 sAcc_x (sAcc_d ha.ne) (q2b hC).lst (q2b hC).iter ?b1 ?b2 ?b3 ?b4 (fun _ => rfl) ?b5 kg
  case a1 => exact rfl
  case a2 => exact rfl
  case a3 => decide
  case a4 => exact rfl
  case a5 => exact rfl
  case a6 => exact rfl
  case a7 => decide
  case a8 => exact rfl
  case a9 => exact q0b rfl rfl
  case b1 => rw [hC.T];decide +kernel
  case b2 => exact rfl
  case b3 => kernel_rfl
  case b4 => rw [hC.T];decide +kernel
  case b5 =>
   intro A' E' L' code p va vb s₂ m₂ hA' _ _ hp hva hvb X hn ha' hb'
   have:=hsm p hp
   exact elt_join rfl X ⟨rfl,rfl,rfl,rfl⟩ hn rfl hg0 rfl rfl hva hvb ha' hb' (by lia) rfl rfl rfl
 case f => exact kk v s' (I'.out hL).1 (I'.out hL).2 (by rw [← z2q];exact y.sub fun a h => .tail _ h)
end
end
section
open PySem PySem.W PySem.Calls PyProof.Rows
set_option maxHeartbeats 2000000
variable {prog : Program} {w : World} {P : Params} {C : Cfg}
section
variable {mu mu' nu : List Addr} {s₀ s s' : Shared} {env : Env} {ρ : List (PySem.Str × PV)} {σ σ' : List (Addr × MO)} {A : Around} {E : Value → Shared → Prop}
private theorem AccAt.tellW {L : Addr} {s₁ : Shared} {x dx : Addr} {l : List (PySem.Str × PySem.Str)} {k : Int} (a : AccAt mu s.heap x dx l k) (I : In C (L :: mu) nu env ρ [] s s₁) (hL : s.heap.get? L = none) (hloc : env.locals = L) (hcells : ∀ c ∈ env.cells,∃ o,C.H.get? c.2 = some o) (hk : ∀ b o,s.heap.get? b = some o → s₁.heap.get? b = some o) :
  ∃ od,AccD od k ∧ In C (L :: mu) (x :: dx :: nu) env ρ (sAcc x dx l od) s s₁:=by
 obtain ⟨od,h1,I'⟩:=a.tell I hL hloc hcells hk
 refine ⟨od,h1,?_⟩
 have hd:=I'.act.st dx _ (sAcc_d a.ne)
 have hx:=I'.act.st x _ sAcc_x
 have Id : In C (L :: mu) (dx :: nu) env ρ [(dx,.raw od)] s s₁:=I.know (m:=.raw od) hd.1 hd.2.1 hd.2.2
 exact Id.know hx.1 hx.2.1 hx.2.2
private theorem q8e {L : Addr} {x dx : Addr} {l : List (PySem.Str × PySem.Str)} {k : Int} {od : Obj} (I : In C (L :: mu) (x :: dx :: [L]) env ρ σ s s') (hL : s.heap.get? L = none) (hx : x ∈ mu) (hd : dx ∈ mu) (hne : x ≠ dx)
  (h1 : σ.lookup x = some (.seq (.ref cAcc) (some dx) (l.map pairPV))) (h2 : σ.lookup dx = some (.raw od)) (hk : AccD od k) : Ok C mu s' ∧ Kp C [x,dx] s s' ∧ AccAt mu s'.heap x dx l k:=by
 obtain ⟨_,_,e1⟩:=I.act.st x _ h1
 obtain ⟨_,_,e2⟩:=I.act.st dx _ h2
 refine ⟨I.ok.sub fun a h => .tail _ h,⟨fun b o hb ht e => I.kp.keep b o (fun q => ?_) ht e⟩,hx,hd,hne,e1.keeps (fun _ e => e) (fun _ _ h _ q => h (.tail _ q)) fun _ _ _ _ e => e,od,hk,e2⟩
 rcases List.mem_cons.mp q with q | q
 ·exact hb (q ▸ .head _)
 ·rcases List.mem_cons.mp q with q | q
  ·exact hb (q ▸ .tail _ (.head _))
  ·simp at q;rw [q,hL] at e;cases e
noncomputable def AccTo (prog : Program) (w : World) (C : Cfg) (mu : List Addr) (A : Around) (t : Sem Value) (x dx : Addr) (l : List (PySem.Str × PySem.Str)) (k : Int) (z : PV) (s : Shared) : Prop:=
 ∀ (Q : Value → Shared → Prop) (E : Value → Shared → Prop),(∀ v s',Ok C mu s' → Kp C [x,dx] s s' → AccAt mu s'.heap x dx l k → Sim s'.heap mu z v → Q v s') → wpAny (model prog w) A t Q E s
private theorem w6z {od : Obj} {k : Int} (h : AccD od k) : lookIn "append" od = some none:=by
 obtain ⟨hs,t,t',n,rfl⟩:=h
 exact rfl
private theorem w7o (hC : CfgOk P C) {n : Nat} {x dx : Addr} {l : List (PySem.Str × PySem.Str)} {k : Int} {a b : PySem.Str} {vs : List Value} (r : Rm A (n + 1)) (O : Ok C mu s) (ha : AccAt mu s.heap x dx l k) (hy : Sims s.heap mu [.str a,.str b] vs) (hsz : l.length ≤ 1024) :
  AccTo prog w C mu A (call (.ref q4u) (.ref x :: vs)) x dx (l ++ [(a,b)]) k .none s:=by
 intro Q E kk
 have hS : sizeLine = 2 ^ 24:=by decide +kernel
 have hlen:=hy.length
 obtain ⟨v₁,v₂,rfl⟩ : ∃ v₁ v₂,vs = [v₁,v₂]:=by
  exact len2 hlen
 refine q1o (ρc:=[]) (names:=[⟨#[115,101,108,102]⟩,⟨#[102,119,115]⟩,⟨#[115,116,114,105,110,103]⟩]) (ps:=[.val (.ref x),.str a,.str b]) ((q4l hC).at O) r O ⟨_,_,rfl,rfl,hy⟩ (BindsTo.of_eq rfl) rfl Clo.nil rfl rfl fun L s₁ hL I r' hk => ?_
 rw [List.append_nil] at I
 obtain ⟨od,hod,I₁⟩:=ha.tellW I hL rfl (fun c hc => nomatch hc) hk
 refine q0a (q8g (p:=.tup [.str a,.str b]) (q0r hC) (q2b hC) I₁ sAcc_x (sAcc_d ha.ne) (.head _) (q0b rfl rfl) (by repeat' walk_at "pe") (w6z hod) (by rw [List.length_map];(with_reducible refine nad ?_;decide)) (fun s' I' => ?_) rfl)
 refine wpAny_execs_nil ?_
 obtain ⟨h1,h2,h3⟩:=q8e (l:=l ++ [(a,b)]) I' hL ha.hx ha.hd ha.ne (by simp) (by
  have : (dx == x) = false:=by simpa using Ne.symm ha.ne
  simp [List.lookup_cons,this]) hod
 exact kk .none s' h1 h2 h3 rfl
end
end
section
open PySem PySem.W PySem.Calls PyProof.Rows
set_option maxHeartbeats 2000000
variable {prog : Program} {w : World} {P : Params} {C : Cfg}
section
variable {mu mu' nu : List Addr} {s₀ s s' : Shared} {env : Env} {ρ : List (PySem.Str × PV)} {σ σ' : List (Addr × MO)} {A : Around} {E : Value → Shared → Prop}
private theorem q1y {od : Obj} {k : Int} (h : AccD od k) {name : PySem.Str} (hn : (sSize == name) = false) : lookIn name od = some none:=by
 obtain ⟨hs,t,t',n,rfl⟩:=h
 show (match ([⟨hs,.str sSize t,.int k t'⟩] : List DictEntry).find? (·.key.isStr name) with | some e => some (some e.val) | none => if ([⟨hs,.str sSize t,.int k t'⟩] : List DictEntry).any (·.refKey) then none else some none) = some none
 have : (Value.str sSize t).isStr name = false:=hn
 simp [this,DictEntry.refKey]
private theorem q9u (hC : CfgOk P C) (hp : ProgOk prog) {n : Nat} {x dx : Addr} {l : List (PySem.Str × PySem.Str)} {od : Obj} {k : Int} {o : Expr} {apos pos : Pos} {pl : Sem Bool} (r : Rm A (n + 1)) (h1 : σ.lookup x = some (.seq (.ref cAcc) (some dx) (l.map pairPV))) (h2 : σ.lookup dx = some (.raw od)) (hne : x ≠ dx) (hk : AccD od k) (hsz : l.length ≤ 1024) (ho : PurE prog w C mu A env ρ σ o (.val (.ref x)))
  (he : autoParam (eval (.Call (.Attribute o ⟨#[112,97,114,116,95,99,111,117,110,116]⟩ apos) [] [] pos) env = (do let ov ← eval o env;standAt apos.atName;let __x ← holding [ov] (getMethod ov ⟨#[112,97,114,116,95,99,111,117,110,116]⟩ pl);match __x with | (f,first) => callWith pos f first (backTo pos (starEach [] env)) [])) tR) :
  PurE prog w C mu A env ρ σ (.Call (.Attribute o ⟨#[112,97,114,116,95,99,111,117,110,116]⟩ apos) [] [] pos) (.int l.length):=
 w3x (q0r hC) ho ⟨h2,.inl ⟨_,h1⟩⟩ (z0t hC) (w9n hC) (q1y hk (by decide)) (w0s hC) (fun s O a => z2p hC hp r O (AccAt.ofAct a h1 h2 hne hk) (by (with_reducible refine nad ?_;decide))) he
private theorem acc_pop0 (hC : CfgOk P C) (hp : ProgOk prog) {n : Nat} {x dx : Addr} {k : Int} (r : Rm A (n + 2)) (O : Ok C mu s) (ha : AccAt mu s.heap x dx [] k) :
  AccTo prog w C mu A (call (.ref q6l) [.ref x]) x dx [] k (.tup [.str ⟨#[]⟩,.str ⟨#[]⟩]) s:=by
 intro Q E kk
 refine q7w (names:=[⟨#[115,101,108,102]⟩]) (ps:=[.val (.ref x)]) ((q7g hC).at O) r O ⟨_,_,rfl,rfl,rfl⟩ (BindsTo.of_eq rfl) rfl (q4x hC hp).clo (q2f hC O) rfl rfl fun L s₁ hL I r' hk => ?_
 obtain ⟨od,hod,I₁⟩:=ha.tellW I hL rfl (fun c hc => by
  have hc' : c ∈ (q7e P).closure:=hc
  rw [(q4x hC hp).clo] at hc'
  simp at hc'
  rw [hc'];exact q2f hC O) hk
 refine ks_wpAt_execs_cons (wpAt_of_wpAny (st_IfT I₁ (q0i (q9u hC hp r' sAcc_x (sAcc_d ha.ne) ha.ne hod (by simp) (q0b rfl rfl)) q0m (show Op2 _ _ _ _ _ (compareOp .Eq) (.int (([] : List (PySem.Str × PySem.Str)).length : Int)) (.int 0) (.bool true) from op_eq)) fun s₂ I₂ => ?_))
 refine q0a (q0q (p:=.tup [.str ⟨#[]⟩,.str ⟨#[]⟩]) I₂ (by repeat' walk_at "pe") fun v s' I' y => ?_)
 obtain ⟨h1,h2,h3⟩:=q8e I' hL ha.hx ha.hd ha.ne sAcc_x (sAcc_d ha.ne) hod
 exact kk v s' h1 h2 h3 (y.sub fun a h => .tail _ h)
private theorem w7p (hC : CfgOk P C) (hp : ProgOk prog) {n : Nat} {x dx : Addr} {l : List (PySem.Str × PySem.Str)} {p : PySem.Str × PySem.Str} {k : Int} (r : Rm A (n + 2)) (O : Ok C mu s) (ha : AccAt mu s.heap x dx (l ++ [p]) k) (hsz : l.length < 1024) :
  AccTo prog w C mu A (call (.ref q6l) [.ref x]) x dx l k (pairPV p) s:=by
 intro Q E kk
 have hS : sizeLine = 2 ^ 24:=by decide +kernel
 refine q7w (names:=[⟨#[115,101,108,102]⟩]) (ps:=[.val (.ref x)]) ((q7g hC).at O) r O ⟨_,_,rfl,rfl,rfl⟩ (BindsTo.of_eq rfl) rfl (q4x hC hp).clo (q2f hC O) rfl rfl fun L s₁ hL I r' hk => ?_
 obtain ⟨od,hod,I₁⟩:=ha.tellW I hL rfl (fun c hc => by
  have hc' : c ∈ (q7e P).closure:=hc
  rw [(q4x hC hp).clo] at hc'
  simp at hc'
  rw [hc'];exact q2f hC O) hk
 have hne0 : (((l ++ [p]).length : Nat) : Int) ≠ 0:=by simp;lia
 refine ks_wpAt_execs_cons (wpAt_of_wpAny (st_IfN I₁ ((show ((((l ++ [p]).length : Nat) : Int) == 0) = false by rw [beq_eq_false_iff_ne];exact hne0) ▸ (q0i (q9u hC hp r' sAcc_x (sAcc_d ha.ne) ha.ne hod (by simp;with_reducible exact ng4) (q0b rfl rfl)) q0m op_eq)) fun s₂ I₂ => ?_))
 refine ks_wpAt_execs_cons (ks_wpAt_Return_some (w2c (q4x hC hp) I₂ rfl sAcc_x (sAcc_d ha.ne) (q0r hC).hc (l:=[.type "list",.type "object"]) (by rw [w2t];rfl) (ha.neCls hC O) (al_pop hC) ty_pop w3t.lookup rfl
  (fun h g d t os ox A Q E X hx hc hq => call_pop hx hc (looks_mroIn X (q2b hC).lst) hq) fun b s₃ I₃ hb => ?_))
 obtain ⟨vs,m,hox,hvs,IA⟩:=I₃.act.inst sAcc_x (sAcc_d ha.ne)
 have hvl:=hvs.length
 obtain ⟨ws,v,rfl⟩ : ∃ ws v,vs = ws ++ [v]:=by
  rcases List.eq_nil_or_concat vs with e | ⟨ws,v,e⟩
  ·rw [e] at hvl;simp at hvl
  ·exact ⟨ws,v,by rw [e];simp⟩
 have hwl : ws.length = l.length:=by simpa using hvl
 have hsplit : Sims s₃.heap (L :: mu) (l.map pairPV) ws ∧ Sim s₃.heap (L :: mu) (pairPV p) v:=by
  have e1:=hvs.take l.length
  have e2:=hvs.drop l.length
  rw [List.map_append,List.take_append_of_le_length (by simp),List.take_append_of_le_length (by lia)] at e1
  rw [List.map_append,List.drop_append_of_le_length (by simp),List.drop_append_of_le_length (by lia)] at e2
  rw [List.take_of_length_le (by simp),List.take_of_length_le (by lia)] at e1
  rw [List.drop_of_length_le (by simp),List.drop_of_length_le (by lia)] at e2
  obtain ⟨v',rr,e3,e4,_⟩:=e2
  simp at e3
  exact ⟨e1,by rw [e3.1];exact e4⟩
 obtain ⟨hs1,hs2⟩:=hsplit
 have hxm:=(I₃.act.st x _ sAcc_x).1
 obtain ⟨hh,gg,dr,tk,os⟩:=s₃
 have hox' : hh.get? x = some (subO (.ref cAcc) (some dx) (ws.toArray.push v) m):=by rw [hox];simp
 refine q8d (.inl rfl) hb (fun A Q E hq => w9b I₃.ok.K hox rfl (fun c e => by cases e) (q0r hC).hc (mod_acc hC) (ty_acc hC) qn_acc hq) PySem.F.slot_list_pop.plain PySem.F.entry_list_pop (sub_pop (.ref cAcc) (some dx) x ws.toArray m v (by rw [List.size_toArray,hwl];lia)) ⟨hox',?_⟩
 have hsb : Heap.SameBut x hh (hh.update x (Obj.mapSeq fun a => a.eraseIdxIfInBounds ws.toArray.size)):=Heap.SameBut.update ..
 obtain ⟨m',hm'⟩:=w0h (.ref cAcc) (some dx) (ws.toArray.push v) m (fun a => a.eraseIdxIfInBounds ws.toArray.size)
 have er : (ws.toArray.push v).eraseIdxIfInBounds ws.toArray.size = ws.toArray:=by
  apply Array.ext'
  unfold Array.eraseIdxIfInBounds
  simp [List.eraseIdx_append_of_length_le]
 have up : ∀ {l : List PV} {vs : List Value},Sims hh (L :: mu) l vs → Sims (hh.update x (Obj.mapSeq fun a => a.eraseIdxIfInBounds ws.toArray.size)) (L :: mu) l vs:=fun y => y.keeps (fun _ _ z _ => z) fun b o hb _ e => hsb.extBut b o (fun q => hb (q ▸ hxm)) e
 have I₄:=I₃.mut (tk:=tk) (m':=.seq (.ref cAcc) (some dx) (l.map pairPV)) sAcc_x (.head _) hsb.extBut ⟨ws,m',by rw [Heap.get?_update_self _ hox' (by rw [hm'];rfl),hm',er],up hs1⟩
 have y : Sim (hh.update x (Obj.mapSeq fun a => a.eraseIdxIfInBounds ws.toArray.size)) (L :: mu) (pairPV p) v:=hs2.keeps (fun _ _ z _ => z) fun b o hb _ e => hsb.extBut b o (fun q => hb (q ▸ hxm)) e
 obtain ⟨h1,h2,h3⟩:=q8e (l:=l) I₄ hL ha.hx ha.hd ha.ne (by simp) (by
  have : (dx == x) = false:=by simpa using Ne.symm ha.ne
  simp [List.lookup_cons,this]) hod
 exact kk v _ h1 h2 h3 (y.sub fun a h => .tail _ h)
end
end
section
open PySem PySem.W PySem.Calls PyProof.Rows
set_option maxHeartbeats 2000000
variable {prog : Program} {w : World} {P : Params} {C : Cfg}
private theorem q2n (l : List PV) (lo hi : Option Int) (a b : Nat) (h1 : (sliceBounds lo hi none l.length).1 = a) (h2 : (sliceBounds lo hi none l.length).2.1 = b) (hab : b ≤ l.length) : w2k l lo hi = (l.take b).drop a:=by
 unfold w2k
 have h3 : (sliceBounds lo hi none l.length).2.2 = 1:=rfl
 rw [h1,h2,h3,sliceRange_one]
 have:=pick_run l.toArray a (b - a)
 simp only [List.getElem?_toArray] at this
 rw [this,List.drop_take]
private theorem w3w (l : List PV) (i : Nat) (h : i ≤ l.length) : w2k l (some i) none = l.drop i:=by
 rw [q2n l (some (i : Int)) none i l.length ?_ ?_ (Nat.le_refl _),List.take_length]
 ·have h1 : ¬ ((i : Int) < 0):=by lia
  have e1 : max (0 : Int) (min (i : Int) (l.length : Int)) = i:=by lia
  unfold sliceBounds
  simp [h1,e1]
 ·unfold sliceBounds
  simp
section
variable {mu mu' nu : List Addr} {s₀ s s' : Shared} {env : Env} {ρ : List (PySem.Str × PV)} {σ σ' : List (Addr × MO)} {A : Around} {E : Value → Shared → Prop}
private theorem part0 : q2r prog w C mu A env ρ σ none none:=trivial
private theorem part1 {e : Expr} {i : Int} (h : PurE prog w C mu A env ρ σ e (.int i)) : q2r prog w C mu A env ρ σ (some e) (some i):=h
private theorem w6j (hC : CfgOk P C) {n : Nat} {x dx : Addr} {l : List (PySem.Str × PySem.Str)} {i : Nat} {k : Int} {vs : List Value} (r : Rm A (n + 1)) (O : Ok C mu s) (ha : AccAt mu s.heap x dx l k) (hy : Sims s.heap mu [.int i] vs) (hi : i ≤ l.length) (hsz : l.length ≤ 1024) :
  AccTo prog w C mu A (call (.ref q4v) (.ref x :: vs)) x dx (l.take i) k (.lst ((l.drop i).map pairPV)) s:=by
 intro Q E kk
 have hlen:=hy.length
 obtain ⟨v₁,rfl⟩ : ∃ v₁,vs = [v₁]:=by
  exact len1 hlen
 refine q1o (ρc:=[]) (names:=[⟨#[115,101,108,102]⟩,⟨#[105]⟩]) (ps:=[.val (.ref x),.int i]) ((q7f hC).at O) r O ⟨_,_,rfl,rfl,hy⟩ (binds_K (T:=w0u) O.K rfl (w4p hC) rfl rfl rfl) rfl Clo.nil rfl rfl fun L s₁ hL I r' hk => ?_
 rw [List.append_nil] at I
 obtain ⟨od,hod,I₁⟩:=ha.tellW I hL rfl (fun c hc => nomatch hc) hk
 refine q0a (q0h I₁ (by walk_at "sto") (w2n (lo:=some i) (hi:=none) (q2b hC) (q0b rfl rfl) sAcc_x (sAcc_d ha.ne) (part1 (q0b rfl rfl)) part0 (by rw [List.length_map];(with_reducible refine nad ?_;decide))).pur (fun s₂ I₂ => ?_))
 rw [w3w _ i (by rw [List.length_map];exact hi),← List.map_drop] at I₂
 refine q0a (w3s (new:=[]) (lo:=some i) (hi:=none) (q2b hC) I₂ sAcc_x (sAcc_d ha.ne) (.head _) (q0b rfl rfl) (by repeat' walk_at "pe") (part1 (q0b rfl rfl)) part0 (by rw [List.length_map];simp;(with_reducible refine nad ?_;decide)) (fun s₃ I₃ => ?_))
 rw [w8c _ _ i (by rw [List.length_map];exact hi),List.append_nil,← List.map_take] at I₃
 refine q0a (q0q I₃ (q0b rfl rfl) fun v s' I' y => ?_)
 obtain ⟨h1,h2,h3⟩:=q8e (l:=l.take i) I' hL ha.hx ha.hd ha.ne (by simp) (by
  have : (dx == x) = false:=by simpa using Ne.symm ha.ne
  simp [List.lookup_cons,this]) hod
 exact kk v s' h1 h2 h3 (y.sub fun a h => .tail _ h)
end
end
section
open PySem PySem.W PySem.Calls PyProof.Rows
set_option maxHeartbeats 2000000
variable {prog : Program} {w : World} {P : Params} {C : Cfg}
section
variable {mu mu' nu : List Addr} {s₀ s s' : Shared} {env : Env} {ρ : List (PySem.Str × PV)} {σ σ' : List (Addr × MO)} {A : Around} {E : Value → Shared → Prop}
private theorem w8j : Op2 prog w C mu A (compareOp .Is) .none .none (.bool true):=fun s x y O hx hy => by
 cases (show x = .none from hx)
 cases (show y = .none from hy)
 exact Pur.here O fun Q E k => PyProof.Rows.is_none_gen (k _ s.toks rfl)
private theorem z0i {l : List PV} : Op2 prog w C mu A (compareOp .Is) (.lst l) .none (.bool false):=fun s x y O hx hy => by
 obtain ⟨a,vs,n,rfl,_⟩:=hx
 cases (show y = .none from hy)
 exact Pur.here O fun Q E k => PyProof.Rows.is_none_gen (k _ s.toks rfl)
private theorem q7j (hC : CfgOk P C) {L x dx : Addr} {l new : List (PySem.Str × PySem.Str)} {k : Int} {od : Obj} {Q : Value → Shared → Prop} (I : In C (L :: mu) (x :: dx :: [L]) (callEnv (q5s P) L q3u) ρ (sAcc x dx l od) s₀ s) (hx : x ∈ mu) (hd : dx ∈ mu) (hne : x ≠ dx) (hL : s₀.heap.get? L = none) (hod : AccD od k)
  (hself : ρ.lookup ⟨#[115,101,108,102]⟩ = some (.val (.ref x))) (hst : ρ.lookup ⟨#[115,116,97,114,116,118,97,108]⟩ = some (.lst (new.map pairPV))) (hsz : l.length + new.length ≤ 2048)
  (kk : ∀ v s',Ok C mu s' → Kp C [x,dx] s₀ s' → AccAt mu s'.heap x dx new 0 → Sim s'.heap mu .none v → Q v s') :
  wpAny (model prog w) A (execs ((w1x P).drop 1) (callEnv (q5s P) L q3u)) (fun fl s' => match fl with | .ret v => Q v s' | _ => Q .none s') (fun _ _ => False) s:=by
 have hdx : (dx == x) = false:=by simpa using Ne.symm hne
 have hxd : (x == dx) = false:=by simpa using hne
 refine q0a (w3s (new:=new.map pairPV) (lo:=none) (hi:=none) (q2b hC) I sAcc_x (sAcc_d hne) (.head _) (q0b hself rfl) (q0b hst rfl) part0 part0 (by rw [List.length_map,List.length_map];(with_reducible refine nad ?_;decide)) (fun s₃ I₃ => ?_))
 rw [z0b] at I₃
 obtain ⟨hs,t,t',n,rfl⟩:=hod
 have hinst : SInst ((x,.seq (.ref cAcc) (some dx) (new.map pairPV)) :: sAcc x dx l (dictOf [⟨hs,.str sSize t,.int k t'⟩] n)) x dx cAcc (dictOf [⟨hs,.str sSize t,.int k t'⟩] n):=
  ⟨by rw [List.lookup_cons,hdx];exact sAcc_d hne,.inl ⟨new.map pairPV,by simp⟩⟩
 refine q0a (q3g (p:=.int 0) (q0r hC) I₃ q0m (q0b hself rfl) hinst (.tail _ (.head _)) (n_size hC) rfl (by simp) (fun v hs' t'' s₄ hv I₄ => ?_))
 obtain ⟨tv,rfl⟩:=hv
 refine wpAny_execs_nil ?_
 have hput : putL sSize hs' (.str sSize t'') (.int 0 tv) [⟨hs,.str sSize t,.int k t'⟩] = [⟨hs,.str sSize t,.int 0 tv⟩]:=by
  have : (Value.str sSize t).isStr sSize = true:=by show (sSize == sSize) = true;exact beq_self_eq_true _
  simp [putL,this]
 rw [show (⟨#[95,105,110,105,116,105,97,108,95,115,105,122,101]⟩ : PySem.Str) = sSize from rfl,hput] at I₄
 obtain ⟨h1,h2,h3⟩:=q8e (l:=new) (k:=0) I₄ hL hx hd hne (by simp [List.lookup_cons,hxd]) List.lookup_cons_self ⟨hs,t,tv,_,rfl⟩
 exact kk .none s₄ h1 h2 h3 rfl
private theorem w9f (hC : CfgOk P C) {n : Nat} {x dx : Addr} {l : List (PySem.Str × PySem.Str)} {k : Int} (r : Rm A (n + 1)) (O : Ok C mu s) (ha : AccAt mu s.heap x dx l k) (hsz : l.length ≤ 1024) :
  AccTo prog w C mu A (call (.ref q3u) [.ref x]) x dx [] 0 .none s:=by
 intro Q E kk
 refine q1o (ρc:=[]) (vs:=[.ref x,.none]) (names:=[⟨#[115,101,108,102]⟩,⟨#[115,116,97,114,116,118,97,108]⟩]) (ps:=[.val (.ref x),.none]) ((q4t hC).at O) r O ⟨_,_,rfl,rfl,_,_,rfl,rfl,rfl⟩ (binds_K (T:=w0t) O.K rfl (w1s hC) rfl rfl rfl) rfl Clo.nil rfl rfl fun L s₁ hL I r' hk => ?_
 rw [List.append_nil] at I
 obtain ⟨od,hod,I₁⟩:=ha.tellW I hL rfl (fun c hc => nomatch hc) hk
 refine q0a (st_IfT I₁ (q0i (q0b rfl rfl) w2m w8j) fun s₂ I₂ => ?_)
 refine q0a (q0h (p:=.lst []) I₂ (by walk_at "sto") (by repeat' walk_at "pe") (fun s₃ I₃ => ?_))
 exact wpAny_execs_nil (q7j (new:=[]) hC I₃ ha.hx ha.hd ha.ne hL hod rfl rfl (by simp;(with_reducible refine nad ?_;decide)) kk)
private theorem w9e (hC : CfgOk P C) {n : Nat} {x dx : Addr} {l new : List (PySem.Str × PySem.Str)} {k : Int} {vs : List Value} (r : Rm A (n + 1)) (O : Ok C mu s) (ha : AccAt mu s.heap x dx l k) (hy : Sims s.heap mu [.lst (new.map pairPV)] vs) (hsz : l.length + new.length ≤ 2048) :
  AccTo prog w C mu A (call (.ref q3u) (.ref x :: vs)) x dx new 0 .none s:=by
 intro Q E kk
 have hlen:=hy.length
 obtain ⟨v₁,rfl⟩ : ∃ v₁,vs = [v₁]:=by
  exact len1 hlen
 refine q1o (ρc:=[]) (vs:=[.ref x,v₁]) (names:=[⟨#[115,101,108,102]⟩,⟨#[115,116,97,114,116,118,97,108]⟩]) (ps:=[.val (.ref x),.lst (new.map pairPV)]) ((q4t hC).at O) r O ⟨_,_,rfl,rfl,hy⟩ (binds_K (T:=w0t) O.K rfl (w1s hC) rfl rfl rfl) rfl Clo.nil rfl rfl fun L s₁ hL I r' hk => ?_
 rw [List.append_nil] at I
 obtain ⟨od,hod,I₁⟩:=ha.tellW I hL rfl (fun c hc => nomatch hc) hk
 refine q0a (st_IfN I₁ (q0i (q0b rfl rfl) w2m z0i) fun s₂ I₂ => ?_)
 exact q7j hC I₂ ha.hx ha.hd ha.ne hL hod rfl rfl hsz kk
end
end
section
open PySem PySem.W PySem.Calls PyProof.Rows
variable {prog : Program} {w : World}
section
variable {C : Cfg} {mu mu' nu : List Addr} {s₀ s s' : Shared} {env cenv : Env} {ρ : List (PySem.Str × PV)} {σ σ' : List (Addr × MO)} {A : Around} {E : Value → Shared → Prop} {K : Frag} {x dx Cl : Addr} {od : Obj} {cd : ClassData} {l : List PV}
private theorem and_t {e1 e2 : Expr} {pos : Pos} {Q : Value → Shared → Prop} (h : wpAny (model prog w) A (eval e1 env) (fun v s₁ => v = .bool true ∧ wpAny (model prog w) A (eval e2 env) Q E s₁) E s) : wpAny (model prog w) A (eval (.BoolOp .And [e1,e2] pos) env) Q E s:=
 BoolOp_and (wpAny_mono h (fun v s₁ hv => by obtain ⟨rfl,h2⟩:=hv;exact wpAny_truthy_bool (by simp only [if_true];exact BoolOp_one h2)) fun _ _ e => e)
private theorem and_f {e1 e2 : Expr} {pos : Pos} {Q : Value → Shared → Prop} (h : wpAny (model prog w) A (eval e1 env) (fun v s₁ => v = .bool false ∧ Q v s₁) E s) : wpAny (model prog w) A (eval (.BoolOp .And [e1,e2] pos) env) Q E s:=
 BoolOp_and (wpAny_mono h (fun v s₁ hv => by obtain ⟨rfl,h2⟩:=hv;exact wpAny_truthy_bool (by simp only [Bool.false_eq_true,if_false];exact h2)) fun _ _ e => e)
private theorem or_f {e1 e2 : Expr} {pos : Pos} {Q : Value → Shared → Prop} (h : wpAny (model prog w) A (eval e1 env) (fun v s₁ => v = .bool false ∧ wpAny (model prog w) A (eval e2 env) Q E s₁) E s) : wpAny (model prog w) A (eval (.BoolOp .Or [e1,e2] pos) env) Q E s:=
 BoolOp_or (wpAny_mono h (fun v s₁ hv => by obtain ⟨rfl,h2⟩:=hv;exact wpAny_truthy_bool (by simp only [Bool.false_eq_true,if_false];exact BoolOp_one h2)) fun _ _ e => e)
private theorem or_t {e1 e2 : Expr} {pos : Pos} {Q : Value → Shared → Prop} (h : wpAny (model prog w) A (eval e1 env) (fun v s₁ => v = .bool true ∧ Q v s₁) E s) : wpAny (model prog w) A (eval (.BoolOp .Or [e1,e2] pos) env) Q E s:=
 BoolOp_or (wpAny_mono h (fun v s₁ hv => by obtain ⟨rfl,h2⟩:=hv;exact wpAny_truthy_bool (by simp only [if_true];exact h2)) fun _ _ e => e)
private theorem pur_And2 {e1 e2 : Expr} {pos : Pos} {b c : Bool} (h1 : PurE prog w C mu A env ρ σ e1 (.bool b)) (h2 : b = true → PurE prog w C mu A env ρ σ e2 (.bool c)) : PurE prog w C mu A env ρ σ (.BoolOp .And [e1,e2] pos) (.bool (b && c)):=fun s O a Q E k => by
 cases b with
 | false => exact and_f (h1 s O a _ _ fun v s₁ O₁ k₁ y₁ => ⟨y₁,k v s₁ O₁ k₁ y₁⟩)
 | true => exact and_t (h1 s O a _ _ fun v s₁ O₁ k₁ y₁ => ⟨y₁,h2 rfl s₁ O₁ (a.kp O k₁) _ _ fun v s' O' k' y' => k v s' O' (k₁.trans k') y'⟩)
private theorem pur_Or2 {e1 e2 : Expr} {pos : Pos} {b c : Bool} (h1 : PurE prog w C mu A env ρ σ e1 (.bool b)) (h2 : b = false → PurE prog w C mu A env ρ σ e2 (.bool c)) : PurE prog w C mu A env ρ σ (.BoolOp .Or [e1,e2] pos) (.bool (b || c)):=fun s O a Q E k => by
 cases b with
 | true => exact or_t (h1 s O a _ _ fun v s₁ O₁ k₁ y₁ => ⟨y₁,k v s₁ O₁ k₁ y₁⟩)
 | false => exact or_f (h1 s O a _ _ fun v s₁ O₁ k₁ y₁ => ⟨y₁,h2 rfl s₁ O₁ (a.kp O k₁) _ _ fun v s' O' k' y' => k v s' O' (k₁.trans k') y'⟩)
private theorem q5e {y : PySem.Str} {name : PySem.Str} (hn : name = PySem.Str.ofString "isspace") : Meth prog w C mu A (.str y) name "str.isspace":=fun pl s v Q E O ⟨t,hv⟩ k => by
 subst hv hn
 exact GM.isspace k
private theorem q7s {y : PySem.Str} : Op1 prog w C mu A (fun v => call (.builtin "str.isspace") [v]) (.str y) (.bool (PySem.Txt.isspace y)):=fun s v O ⟨t,hv⟩ => by
 subst hv
 exact Pur.here O fun Q E k => SC.isspace (k _ s.toks rfl)
private theorem pur_lenI {y : PySem.Str} {px pos : Pos} {e : Expr} {f : Addr} {n : Nat} (hf : PurE prog w C mu A env ρ σ (.Name y px) (.val (.builtin "len"))) (ho : PurE prog w C mu A env ρ σ e (.val (.ref x))) (hi : SInst σ x dx Cl od) (hm : findIn C.K (.ref Cl) "__len__" = some (some (.ref f))) (ht : typeIn C.K (.ref f) = some (.type "function")) (hn : n < 2 ^ 60)
  (h : ∀ s,Ok C mu s → Act env mu s.heap ρ σ → Pur prog w C mu A.in1 (call (.ref f) [.ref x]) (.int n) s) (he : autoParam (∀ env,starEach [e] env = (false,eval e env) :: starEach [] env) tR) (hplain : autoParam ((backTo pos (starEach [] env)).any (·.1) = false) tR) :
  PurE prog w C mu A env ρ σ (.Call (.Name y px) [e] [] pos) (.int n):=
 w1k (v:=.none) hf (q0c ho q0g he) (fun s vs O a hy => by
  obtain ⟨v,r,rfl,y,hr⟩:=hy
  cases (show r = [] from hr)
  cases (show v = .ref x from y)
  obtain ⟨ox,I,_⟩:=hi.at a
  intro Q E k
  refine inst_len O.K I hm ht (h s O a _ _ fun v s' O' k' y' => ?_)
  obtain ⟨t,rfl⟩:=y'
  exact ⟨n,t,rfl,hn,k _ _ O'.tok (k'.trans ⟨fun _ _ _ _ e => e⟩) ⟨_,rfl⟩⟩) he hplain
private theorem pur_strI {y : PySem.Str} {px pos : Pos} {e : Expr} {f : Addr} {z : PySem.Str} {n : Nat} (r : Rm A (n + 3)) (hf : PurE prog w C mu A env ρ σ (.Name y px) (.val (.type "str"))) (ho : PurE prog w C mu A env ρ σ e (.val (.ref x))) (hi : SInst σ x dx Cl od) (hm : findIn C.K (.ref Cl) "__str__" = some (some (.ref f))) (ht : isFn C.K (.ref f) = true)
  (h : ∀ s,Ok C mu s → Act env mu s.heap ρ σ → Pur prog w C mu A.in1.in1 (call (.ref f) [.ref x]) (.str z) s) (he : autoParam (∀ env,starEach [e] env = (false,eval e env) :: starEach [] env) tR) (hplain : autoParam ((backTo pos (starEach [] env)).any (·.1) = false) tR) :
  PurE prog w C mu A env ρ σ (.Call (.Name y px) [e] [] pos) (.str z):=fun s O a Q E k =>
 q4k O a hf (q0c ho q0g he) (fun vs s₁ O₁ k₁ hy => by
  obtain ⟨v,rr,rfl,y,hr⟩:=hy
  cases (show rr = [] from hr)
  cases (show v = .ref x from y)
  have a₁:=a.kp O k₁
  obtain ⟨ox,I,_⟩:=hi.at a₁
  refine kso_call (r.in1.in1).cu O₁.K I hm ht (h s₁ O₁ a₁ _ _ fun v s' O' k' y' => ?_)
  obtain ⟨t,rfl⟩:=y'
  exact k _ s' O' (k₁.trans k') ⟨t,rfl⟩) he hplain
private theorem pur_notI {pos : Pos} {e : Expr} {f : Addr} {n : Nat} (ho : PurE prog w C mu A env ρ σ e (.val (.ref x))) (hi : SInst σ x dx Cl od) (hb : findIn C.K (.ref Cl) "__bool__" = some none) (hm : findIn C.K (.ref Cl) "__len__" = some (some (.ref f))) (ht : typeIn C.K (.ref f) = some (.type "function")) (hn : n < 2 ^ 60)
  (h : ∀ s,Ok C mu s → Act env mu s.heap ρ σ → Pur prog w C mu A.in1 (call (.ref f) [.ref x]) (.int n) s) : PurE prog w C mu A env ρ σ (.UnaryOp .Not e pos) (.bool (!((n : Int) != 0))):=fun s O a Q E k => by
 show wpAny _ _ (do let v ← eval e env;standAt pos;holding [v] (unaryOp .Not v)) _ _ _
 refine wpAny_bind (ho s O a _ _ fun v s₁ O₁ k₁ y₁ => wpAny_bind (wpAny_standAt (wpAny_holding ?_)))
 cases (show v = .ref x from y₁)
 have a₁:=a.kp O k₁
 obtain ⟨ox,I,_⟩:=hi.at a₁
 unfold unaryOp
 refine wpAny_holding ?_
 show wpAny _ _ (truthy (.ref x) >>= fun b => pure (Value.bool (!b))) _ _ _
 refine wpAny_bind (w5u O₁.K I hb hm ht (h s₁ O₁ a₁ _ _ fun v s' O' k' y' => ?_))
 obtain ⟨t,rfl⟩:=y'
 exact ⟨n,t,rfl,hn,wpAny_pure (k _ _ O'.tok ((k₁.trans k').trans ⟨fun _ _ _ _ e => e⟩) rfl)⟩
end
end
section
open PySem PySem.W PySem.Calls PyProof.Rows
variable {prog : Program} {w : World}
section
variable {C : Cfg} {mu mu' nu : List Addr} {s₀ s s' : Shared} {env cenv : Env} {ρ : List (PySem.Str × PV)} {σ σ' : List (Addr × MO)} {A : Around} {E : Value → Shared → Prop} {K : Frag} {x dx Cl : Addr} {od : Obj} {cd : ClassData} {l : List PV}
private theorem star_tup {v : Value} {ps : List PV} {Q : List Value → Shared → Prop} (O : Ok C mu s) (y : Sim s.heap mu (.tup ps) v) (hz : ps.length ≤ 2 ^ 20) (h : ∀ s' vs,Ok C mu s' → Kp C [] s s' → Sims s'.heap mu ps vs → Q vs s') : StarOf (model prog w) A E v Q s:=by
 obtain ⟨a,vs,n,rfl,ha,ho,hv⟩:=y
 have hS : sizeLine = 2 ^ 24:=by decide +kernel
 have hT' : s.TypeIs (.ref a) "tuple":=⟨_,ho,rfl⟩
 have z : wpAny (model prog w) A (collect (.ref a)) Q E s:=by
  refine wpAny_collect_seq a (.inr rfl) ho rfl rfl (fun h' hk => ?_) (by rw [List.size_toArray,hv.length];(with_reducible refine nad ?_;decide))
  rw [List.toList_toArray]
  exact h { s with heap:=h' } vs (O.keep (tk:=s.toks) hk) (Kp.of_keep (tk:=s.toks) hk) (hv.keeps (fun _ _ z _ => z) fun b o _ _ e => hk b o e)
 unfold StarOf notIterableAtAll
 exact wpAny_bind (wpAny_specialOf hT' PySem.F.slot_tuple_iter.lookup (wpAny_pure ⟨rfl,z⟩))
private theorem w8h {a b c d : PySem.Str} (hu : A.units < cLine) : Op2 prog w C mu A (compareOp .NotEq) (.tup [.str a,.str b]) (.tup [.str c,.str d]) (.bool (!((a == c) && (b == d)))):=fun s u v O hx hy => by
 obtain ⟨a1,vs,n,rfl,_,ho,v₁,r,rfl,⟨t1,rfl⟩,v₂,r₂,rfl,⟨t2,rfl⟩,hr⟩:=hx
 cases (show r₂ = [] from hr)
 obtain ⟨a2,vs,m,rfl,_,ho2,v₁,r,rfl,⟨u1,rfl⟩,v₂,r₂,rfl,⟨u2,rfl⟩,hr⟩:=hy
 cases (show r₂ = [] from hr)
 refine Pur.here O fun Q E k => ?_
 have e:=SeqAt.RcNeAt.tuples (s:=s) (A:=A) (e:=fun j => if j = 0 then a == c else b == d) (⟨_,ho,rfl,n,rfl⟩ : s.heap.IsTuple a1 #[.str a t1,.str b t2]) (⟨_,ho2,rfl,m,rfl⟩ : s.heap.IsTuple a2 #[.str c u1,.str d u2]) hu (fun j h1 h2 => by
  match j,h1 with
  | 0,_ => exact SeqAt.EqAt.str_str _ _ _ _
  | 1,_ => exact SeqAt.EqAt.str_str _ _ _ _)
 refine e prog w E Q ?_
 have e2 : (!((List.range (min 2 2)).all (fun j => if j = 0 then a == c else b == d) && (2 == 2))) = !((a == c) && (b == d)):=by simp [List.range,List.range.loop]
 exact e2 ▸ k _ s.toks rfl
end
end
section
set_option tactic.hygienic true
open PySem PySem.W PySem.Calls PyProof.Rows
set_option maxHeartbeats 2000000
variable {prog : Program} {w : World} {P : Params} {C : Cfg}
inductive FmtD (od : Obj) (W : Int) (c : Nat) (ln x : Addr) : Prop
 | mk (h1 : Int) (t1 u1 : Nat) (h2 : Int) (t2 u2 : Nat) (h3 : Int) (t3 u3 : Nat) (h4 : Int) (t4 u4 : Nat) (h5 : Int) (t5 : Nat) (h6 : Int) (t6 n : Nat) (e : od = dictOf [⟨h1,.str "_maxlen" t1,.int W u1⟩,⟨h2,.str "_continuation_ws" t2,.str ⟨#[32]⟩ u2⟩,⟨h3,.str "_continuation_ws_len" t3,.int 1 u3⟩,⟨h4,.str "_splitchars" t4,.str ⟨#[c]⟩ u4⟩,⟨h5,.str "_lines" t5,.ref ln⟩,⟨h6,.str "_current_line" t6,.ref x⟩] n) : FmtD od W c ln x
structure FA where
 f : Addr
 df : Addr
 ln : Addr
 x : Addr
 dx : Addr
noncomputable abbrev FA.all (a : FA) : List Addr:=[a.f,a.df,a.ln,a.x,a.dx]
noncomputable abbrev FA.wr (a : FA) : List Addr:=[a.ln,a.x,a.dx]
structure FmtAt (mu : List Addr) (h : Heap) (a : FA) (W : Int) (c : Nat) (lines : List PySem.Str) (l : List (PySem.Str × PySem.Str)) (k : Int) : Prop where
 mem : ∀ b ∈ a.all,b ∈ mu
 nd : a.all.Nodup
 inst : h.get? a.f = some (instObj cFmt a.df)
 dict : ∃ od,FmtD od W c a.ln a.x ∧ h.get? a.df = some od
 lns : MOAt mu h a.ln (Mlst (lines.map .str))
 acc : AccAt mu h a.x a.dx l k
noncomputable abbrev sFmt (a : FA) (od : Obj) (lines : List PySem.Str) (l : List (PySem.Str × PySem.Str)) (od2 : Obj) : List (Addr × MO):=
 [(a.f,.raw (instObj cFmt a.df)),(a.df,.raw od),(a.ln,Mlst (lines.map .str)),(a.x,.seq (.ref cAcc) (some a.dx) (l.map pairPV)),(a.dx,.raw od2)]
section
variable {mu mu' nu : List Addr} {s₀ s s' : Shared} {env : Env} {ρ : List (PySem.Str × PV)} {σ σ' : List (Addr × MO)} {A : Around} {E : Value → Shared → Prop} {a : FA} {od od2 : Obj} {lines : List PySem.Str} {l : List (PySem.Str × PySem.Str)} {W k : Int} {c : Nat}
private theorem FA.ne (nd : a.all.Nodup) : (a.f ≠ a.df ∧ a.f ≠ a.ln ∧ a.f ≠ a.x ∧ a.f ≠ a.dx) ∧ (a.df ≠ a.ln ∧ a.df ≠ a.x ∧ a.df ≠ a.dx) ∧ (a.ln ≠ a.x ∧ a.ln ≠ a.dx) ∧ a.x ≠ a.dx:=by
 have:=nd
 simp only [FA.all,List.nodup_cons,List.mem_cons,List.not_mem_nil,or_false,not_or,List.nodup_nil,and_true] at this
 obtain ⟨⟨h1,h2,h3,h4⟩,⟨h5,h6,h7⟩,⟨h8,h9⟩,h10,_⟩:=this
 exact ⟨⟨h1,h2,h3,h4⟩,⟨h5,h6,h7⟩,⟨h8,h9⟩,h10⟩
private theorem beqF {a b : Addr} (h : a ≠ b) : (b == a) = false:=by simpa using Ne.symm h
private theorem sF_f : (sFmt a od lines l od2).lookup a.f = some (.raw (instObj cFmt a.df)):=by simp
private theorem sF_df (nd : a.all.Nodup) : (sFmt a od lines l od2).lookup a.df = some (.raw od):=by
 obtain ⟨⟨h1,h2,h3,h4⟩,⟨h5,h6,h7⟩,⟨h8,h9⟩,h10⟩:=FA.ne nd
 simp [List.lookup_cons,beqF h1]
private theorem sF_ln (nd : a.all.Nodup) : (sFmt a od lines l od2).lookup a.ln = some (Mlst (lines.map .str)):=by
 obtain ⟨⟨h1,h2,h3,h4⟩,⟨h5,h6,h7⟩,⟨h8,h9⟩,h10⟩:=FA.ne nd
 simp [List.lookup_cons,beqF h2,beqF h5]
private theorem sF_x (nd : a.all.Nodup) : (sFmt a od lines l od2).lookup a.x = some (.seq (.ref cAcc) (some a.dx) (l.map pairPV)):=by
 obtain ⟨⟨h1,h2,h3,h4⟩,⟨h5,h6,h7⟩,⟨h8,h9⟩,h10⟩:=FA.ne nd
 simp [List.lookup_cons,beqF h3,beqF h6,beqF h8]
private theorem sF_dx (nd : a.all.Nodup) : (sFmt a od lines l od2).lookup a.dx = some (.raw od2):=by
 obtain ⟨⟨h1,h2,h3,h4⟩,⟨h5,h6,h7⟩,⟨h8,h9⟩,h10⟩:=FA.ne nd
 simp [List.lookup_cons,beqF h4,beqF h7,beqF h9,beqF h10]
private theorem q4o (nd : a.all.Nodup) : SInst (sFmt a od lines l od2) a.f a.df cFmt od:=⟨sF_df nd,.inr sF_f⟩
private theorem sF_acc (nd : a.all.Nodup) : SInst (sFmt a od lines l od2) a.x a.dx cAcc od2:=⟨sF_dx nd,.inl ⟨_,sF_x nd⟩⟩
private theorem FmtAt.ofIn {L : Addr} (I : In C (L :: mu) nu env ρ (sFmt a od lines l od2) s₀ s) (hm : ∀ b ∈ a.all,b ∈ mu) (nd : a.all.Nodup) (hd : FmtD od W c a.ln a.x) (hk : AccD od2 k) : FmtAt mu s.heap a W c lines l k:=by
 obtain ⟨h1,h2⟩:=FA.ne nd
 refine ⟨hm,nd,(I.act.st _ _ sF_f).2.2,⟨od,hd,(I.act.st _ _ (sF_df nd)).2.2⟩,(I.act.st _ _ (sF_ln nd)).2.2.keeps (fun _ e => e) (fun _ _ h _ q => h (.tail _ q)) fun _ _ _ _ e => e,
  hm _ (by simp),hm _ (by simp),h2.2.2,(I.act.st _ _ (sF_x nd)).2.2.keeps (fun _ e => e) (fun _ _ h _ q => h (.tail _ q)) fun _ _ _ _ e => e,od2,hk,(I.act.st _ _ (sF_dx nd)).2.2⟩
private theorem q1x (I : Act env mu s.heap ρ (sFmt a od lines l od2)) (nd : a.all.Nodup) (hk : AccD od2 k) : AccAt mu s.heap a.x a.dx l k:=AccAt.ofAct I (sF_x nd) (sF_dx nd) (FA.ne nd).2.2.2 hk
private theorem q5h {l' : List (PySem.Str × PySem.Str)} {k' : Int} (I : In C mu nu env ρ (sFmt a od lines l od2) s₀ s) (nd : a.all.Nodup) (hnu : ∀ b ∈ a.wr,b ∈ nu) (O' : Ok C mu s') (kp : Kp C [a.x,a.dx] s s') (ha : AccAt mu s'.heap a.x a.dx l' k') :
  ∃ od2',AccD od2' k' ∧ In C mu nu env ρ (sFmt a od lines l' od2') s₀ s':=by
 obtain ⟨⟨h1,h2,h3,h4⟩,⟨h5,h6,h7⟩,⟨h8,h9⟩,h10⟩:=FA.ne nd
 obtain ⟨od2',hk',hd'⟩:=ha.dict
 have hf:=I.act.st _ _ (sF_f (a:=a) (od:=od) (lines:=lines) (l:=l) (od2:=od2))
 have hdf:=I.act.st _ _ (sF_df (od:=od) (lines:=lines) (l:=l) (od2:=od2) nd)
 have hln:=I.act.st _ _ (sF_ln (od:=od) (lines:=lines) (l:=l) (od2:=od2) nd)
 have hx:=I.act.st _ _ (sF_x (od:=od) (lines:=lines) (l:=l) (od2:=od2) nd)
 have hdx:=I.act.st _ _ (sF_dx (od:=od) (lines:=lines) (l:=l) (od2:=od2) nd)
 have hds : ∀ b ∈ [a.x,a.dx],b ∈ nu ∧ b ∉ q0j env:=fun b hb => by
  rcases List.mem_cons.mp hb with e | hb
  ·rw [e];exact ⟨hnu _ (by simp),hx.2.1⟩
  ·simp at hb;rw [hb];exact ⟨hnu _ (by simp),hdx.2.1⟩
 have hdm : ∀ b ∈ [a.x,a.dx],b ∈ mu:=fun b hb => I.sub b (hds b hb).1
 refine ⟨od2',hk',I.change O' kp hds fun b m e => ?_⟩
 simp only [sFmt,List.lookup_cons,List.lookup_nil] at e
 split at e
 ·rename_i hb;cases e;rw [eq_of_beq hb];exact ⟨hf.1,hf.2.1,hf.2.2.kp I.ok kp hdm hf.1 (by simp [h3,h4])⟩
 ·split at e
  ·rename_i hb;cases e;rw [eq_of_beq hb];exact ⟨hdf.1,hdf.2.1,hdf.2.2.kp I.ok kp hdm hdf.1 (by simp [h6,h7])⟩
  ·split at e
   ·rename_i hb;cases e;rw [eq_of_beq hb];exact ⟨hln.1,hln.2.1,hln.2.2.kp I.ok kp hdm hln.1 (by simp [h8,h9])⟩
   ·split at e
    ·rename_i hb;cases e;rw [eq_of_beq hb];exact ⟨hx.1,hx.2.1,ha.at_⟩
    ·split at e
     ·rename_i hb;cases e;rw [eq_of_beq hb];exact ⟨hdx.1,hdx.2.1,hd'⟩
     ·cases e
private theorem w7c {t : PySem.Str} (I : In C mu nu env ρ ((a.ln,Mlst (lines.map .str ++ [.str t])) :: sFmt a od lines l od2) s₀ s) (nd : a.all.Nodup) : In C mu nu env ρ (sFmt a od (lines ++ [t]) l od2) s₀ s:=by
 obtain ⟨⟨h1,h2,h3,h4⟩,⟨h5,h6,h7⟩,⟨h8,h9⟩,h10⟩:=FA.ne nd
 refine I.forget (fun _ _ h => h) fun b m e => ?_
 by_cases hb : b = a.ln
 ·subst hb
  rw [sF_ln nd] at e
  cases e
  simp
 ·have hbl : (b == a.ln) = false:=by simpa using hb
  rw [List.lookup_cons,hbl]
  simp only [sFmt,List.lookup_cons,List.lookup_nil,hbl] at e ⊢
  exact e
private theorem FmtAt.tell {L : Addr} {s₁ : Shared} (h : FmtAt mu s.heap a W c lines l k) (I : In C (L :: mu) [L] env ρ [] s s₁) (hL : s.heap.get? L = none) (hloc : env.locals = L) (hcells : env.cells = []) (hk : ∀ b o,s.heap.get? b = some o → s₁.heap.get? b = some o) :
  ∃ od od2,FmtD od W c a.ln a.x ∧ AccD od2 k ∧ In C (L :: mu) [a.ln,a.x,a.dx,L] env ρ (sFmt a od lines l od2) s s₁:=by
 obtain ⟨od,hd,hdo⟩:=h.dict
 have hne:=FA.ne h.nd
 have own : ∀ b ∈ mu,(∃ o,s.heap.get? b = some o) → b ∉ q0j env:=fun b hb ⟨o,ho⟩ q => by
  rcases List.mem_cons.mp q with e | q
  ·rw [e,hloc,hL] at ho;cases ho
  ·rw [hcells] at q;simp at q
 obtain ⟨od2,hk2,Ia⟩:=h.acc.tellW I hL hloc (fun c hc => by rw [hcells] at hc;cases hc) hk
 have up : ∀ {b : Addr} {m : MO},MOAt mu s.heap b m → MOAt (L :: mu) s₁.heap b m:=fun x => x.keeps (fun o e => hk _ o e) (fun b o hb e q => by rcases List.mem_cons.mp q with q | q;(rw [q,hL] at e;cases e);exact hb q) fun b o _ _ e => hk b o e
 have hln0 : ∃ o,s.heap.get? a.ln = some o:=let ⟨_,_,e,_⟩:=h.lns;⟨_,e⟩
 have m:=h.mem
 have Il : In C (L :: mu) (a.ln :: a.x :: a.dx :: [L]) env ρ ((a.ln,Mlst (lines.map .str)) :: sAcc a.x a.dx l od2) s s₁:=Ia.know (.tail _ (m _ (by simp))) (own _ (m _ (by simp)) hln0) (up h.lns)
 have Id : In C (L :: mu) (a.ln :: a.x :: a.dx :: [L]) env ρ ((a.df,.raw od) :: (a.ln,Mlst (lines.map .str)) :: sAcc a.x a.dx l od2) s s₁:=Il.knowR (m:=.raw od) (.tail _ (m _ (by simp))) (own _ (m _ (by simp)) ⟨_,hdo⟩) (hk _ _ hdo)
 exact ⟨od,od2,hd,hk2,Id.knowR (m:=.raw (instObj cFmt a.df)) (.tail _ (m _ (by simp))) (own _ (m _ (by simp)) ⟨_,h.inst⟩) (hk _ _ h.inst)⟩
private theorem w5x {L : Addr} (I : In C (L :: mu) [a.ln,a.x,a.dx,L] env ρ (sFmt a od lines l od2) s s') (hL : s.heap.get? L = none) (hm : ∀ b ∈ a.all,b ∈ mu) (nd : a.all.Nodup) (hd : FmtD od W c a.ln a.x) (hk : AccD od2 k) :
  Ok C mu s' ∧ Kp C a.wr s s' ∧ FmtAt mu s'.heap a W c lines l k:=by
 refine ⟨I.ok.sub fun a h => .tail _ h,⟨fun b o hb ht e => I.kp.keep b o (fun q => ?_) ht e⟩,FmtAt.ofIn I hm nd hd hk⟩
 simp only [List.mem_cons,List.not_mem_nil,or_false] at q
 rcases q with q | q | q | q
 ·exact hb (by rw [q];simp)
 ·exact hb (by rw [q];simp)
 ·exact hb (by rw [q];simp)
 ·rw [q,hL] at e;cases e
noncomputable def FmtTo (prog : Program) (w : World) (C : Cfg) (mu : List Addr) (A : Around) (t : Sem Value) (a : FA) (W : Int) (c : Nat) (lines : List PySem.Str) (l : List (PySem.Str × PySem.Str)) (k : Int) (z : PV) (s : Shared) : Prop:=
 ∀ (Q : Value → Shared → Prop) (E : Value → Shared → Prop),(∀ v s',Ok C mu s' → Kp C a.wr s s' → FmtAt mu s'.heap a W c lines l k → Sim s'.heap mu z v → Q v s') → wpAny (model prog w) A t Q E s
end
end
section
open PySem PySem.W PySem.Calls PyProof.Rows
set_option maxHeartbeats 2000000
variable {prog : Program} {w : World} {P : Params} {C : Cfg}
noncomputable def accN (l : List (PySem.Str × PySem.Str)) (k : Int) : Nat:=(accLen l k).toNat
private theorem w6k {l : List (PySem.Str × PySem.Str)} {k : Int} (h : AccSz l k) : ((accN l k : Nat) : Int) = accLen l k:=by
 unfold accN;exact Int.toNat_of_nonneg h.nonneg.1
private theorem z2r {l : List (PySem.Str × PySem.Str)} {k : Int} (h : AccSz l k) : accN l k < 2 ^ 60:=by
 have h1:=w6k h
 have h2:=h.nonneg
 lia
noncomputable def onlyWs (l : List (PySem.Str × PySem.Str)) (k : Int) : Bool:=(k == 0) && (!(((accN l k : Nat) : Int) != 0) || PySem.Txt.isspace (accStr l))
noncomputable abbrev Short (l : List (PySem.Str × PySem.Str)) : Prop:=∀ p ∈ l,p.1.length ≤ 64 ∧ p.2.length ≤ 64
section
variable {mu mu' nu : List Addr} {s₀ s s' : Shared} {env : Env} {ρ : List (PySem.Str × PV)} {σ σ' : List (Addr × MO)} {A : Around} {E : Value → Shared → Prop} {a : FA} {od od2 : Obj} {lines : List PySem.Str} {l : List (PySem.Str × PySem.Str)} {W k : Int} {c : Nat}
private theorem isFn_str (hC : CfgOk P C) : isFn C.K (.ref w1a) = true:=by unfold isFn;rw [t_a_str hC];decide
private theorem q5m (hC : CfgOk P C) {n : Nat} {x dx : Addr} {y : PySem.Str} {px pos : Pos} {e : Expr} (r : Rm A (n + 4)) (h1 : σ.lookup x = some (.seq (.ref cAcc) (some dx) (l.map pairPV))) (h2 : σ.lookup dx = some (.raw od)) (hne : x ≠ dx) (hk : AccD od k) (hz : AccSz l k)
  (hf : PurE prog w C mu A env ρ σ (.Name y px) (.val (.builtin "len"))) (ho : PurE prog w C mu A env ρ σ e (.val (.ref x))) (he : ∀ env,starEach [e] env = (false,eval e env) :: starEach [] env) :
  PurE prog w C mu A env ρ σ (.Call (.Name y px) [e] [] pos) (.int (accN l k)):=
 pur_lenI hf ho ⟨h2,.inl ⟨_,h1⟩⟩ (z0s hC) (w9m hC) (z2r hz) (fun s O a => by rw [w6k hz];exact z2o hC r.in1 O (AccAt.ofAct a h1 h2 hne hk) hz) he
private theorem q7p (hC : CfgOk P C) {n : Nat} {x dx : Addr} {y : PySem.Str} {px pos : Pos} {e : Expr} (r : Rm A (n + 5)) (h1 : σ.lookup x = some (.seq (.ref cAcc) (some dx) (l.map pairPV))) (h2 : σ.lookup dx = some (.raw od)) (hne : x ≠ dx) (hk : AccD od k) (hz : AccSz l k) (hsh : Short l)
  (hf : PurE prog w C mu A env ρ σ (.Name y px) (.val (.type "str"))) (ho : PurE prog w C mu A env ρ σ e (.val (.ref x))) (he : ∀ env,starEach [e] env = (false,eval e env) :: starEach [] env) :
  PurE prog w C mu A env ρ σ (.Call (.Name y px) [e] [] pos) (.str (accStr l)):=
 pur_strI (n:=n + 2) r hf ho ⟨h2,.inl ⟨_,h1⟩⟩ (m_a_str hC) (isFn_str hC) (fun s O a => acc_str hC r.in1.in1 O (AccAt.ofAct a h1 h2 hne hk) hz hsh) he
private theorem acc_only (hC : CfgOk P C) {n : Nat} {x dx : Addr} (r : Rm A (n + 6)) (O : Ok C mu s) (ha : AccAt mu s.heap x dx l k) (hz : AccSz l k) (hsh : Short l) :
  Pur prog w C mu A (call (.ref q9a) [.ref x]) (.bool (onlyWs l k)) s:=by
 intro Q E kk
 refine q1o (ρc:=[]) (vs:=[.ref x]) (names:=[⟨#[115,101,108,102]⟩]) (ps:=[.val (.ref x)]) ((w1v hC).at O) r O ⟨_,_,rfl,rfl,rfl⟩ (BindsTo.of_eq rfl) rfl Clo.nil rfl rfl fun L s₁ hL I r' hk => ?_
 rw [List.append_nil] at I
 obtain ⟨od,hod,I₁⟩:=ha.tell I hL rfl (fun c hc => nomatch hc) hk
 have hod':=hod
 obtain ⟨hs,t,t',m,hodE⟩:=hod'
 refine q0a (q0q I₁ (pur_And2 (b:=k == 0) ?a fun _ => pur_Or2 (b:=!(((accN l k : Nat) : Int) != 0)) (c:=PySem.Txt.isspace (accStr l)) ?b fun _ => q6t ?c (q5e rfl) q7s) fun v s' I' y => ?d)
 case a => exact q6g (q3v (p:=.int k) (v:=.int k t') (q0r hC) (q0b rfl rfl) (q9n ha.ne) (n_size hC) (by rw [hodE];rfl) rfl (fun h mu => ⟨t',rfl⟩)) q0m op_eq
 case b => exact pur_notI (q0b rfl rfl) (q9n ha.ne) (n_bool hC) (z0s hC) (w9m hC) (z2r hz) (fun s O a => by rw [w6k hz];exact z2o hC (n:=n + 1) r'.in1 O (AccAt.ofAct a sAcc_x (sAcc_d ha.ne) ha.ne hod) hz)
 case c => exact q7p (n:=n) hC r' sAcc_x (sAcc_d ha.ne) ha.ne hod hz hsh (q0f (q0e hC rfl) rfl rfl) (q0b rfl rfl) (fun _ => rfl)
 case d => exact kk v s' (I'.out hL).1 (I'.out hL).2 (y.sub fun a h => .tail _ h)
private theorem fd_cur (h : FmtD od W c a.ln a.x) : lookIn ⟨#[95,99,117,114,114,101,110,116,95,108,105,110,101]⟩ od = some (some (.ref a.x)):=by
 obtain ⟨h1,t1,u1,h2,t2,u2,h3,t3,u3,h4,t4,u4,h5,t5,h6,t6,n,rfl⟩:=h
 exact rfl
private theorem fd_lines (h : FmtD od W c a.ln a.x) : lookIn ⟨#[95,108,105,110,101,115]⟩ od = some (some (.ref a.ln)):=by
 obtain ⟨h1,t1,u1,h2,t2,u2,h3,t3,u3,h4,t4,u4,h5,t5,h6,t6,n,rfl⟩:=h
 exact rfl
private theorem fd_max (h : FmtD od W c a.ln a.x) : ∃ t,lookIn ⟨#[95,109,97,120,108,101,110]⟩ od = some (some (.int W t)):=by
 obtain ⟨h1,t1,u1,h2,t2,u2,h3,t3,u3,h4,t4,u4,h5,t5,h6,t6,n,rfl⟩:=h
 exact ⟨u1,rfl⟩
private theorem fd_split (h : FmtD od W c a.ln a.x) : ∃ t,lookIn ⟨#[95,115,112,108,105,116,99,104,97,114,115]⟩ od = some (some (.str ⟨#[c]⟩ t)):=by
 obtain ⟨h1,t1,u1,h2,t2,u2,h3,t3,u3,h4,t4,u4,h5,t5,h6,t6,n,rfl⟩:=h
 exact ⟨u4,rfl⟩
private theorem q1f (hC : CfgOk P C) {p1 p2 : Pos} (nd : a.all.Nodup) (hd : FmtD od W c a.ln a.x) (hs : ρ.lookup ⟨#[115,101,108,102]⟩ = some (.val (.ref a.f))) : PurE prog w C mu A env ρ (sFmt a od lines l od2) (.Attribute (.Name ⟨#[115,101,108,102]⟩ p1) ⟨#[95,99,117,114,114,101,110,116,95,108,105,110,101]⟩ p2) (.val (.ref a.x)):=
 q3v (q2d hC) (q0b hs rfl) (q4o nd) (q4w hC) (fd_cur hd) rfl (fun h mu => rfl)
private theorem q9t (hC : CfgOk P C) {p1 p2 : Pos} (nd : a.all.Nodup) (hd : FmtD od W c a.ln a.x) (hs : ρ.lookup ⟨#[115,101,108,102]⟩ = some (.val (.ref a.f))) : PurE prog w C mu A env ρ (sFmt a od lines l od2) (.Attribute (.Name ⟨#[115,101,108,102]⟩ p1) ⟨#[95,108,105,110,101,115]⟩ p2) (.val (.ref a.ln)):=
 q3v (q2d hC) (q0b hs rfl) (q4o nd) (w4d hC) (fd_lines hd) rfl (fun h mu => rfl)
end
end
section
open PySem PySem.W PySem.Calls PyProof.Rows
set_option maxHeartbeats 1000000
variable {prog : Program} {w : World}
section
variable {A : Around} {E : Value → Shared → Prop} {s : Shared} {K : Frag} {x Cl : Addr} {ox : Obj} {od : Option Obj}
private theorem w8s {cd : ClassData} {o : Obj} {name : PySem.Str} {f : Addr} (hc : clsIn K Cl = some cd) (hd : cd.hasDict = true) (hf : findIn K (.ref Cl) name = some (some (.ref f))) (hg : specialIn K (.ref f) "__get__" = some (some (.builtin "function.__get__"))) (ht : takesIn K (.ref f) = some false) (hl : lookIn name o = some none)
  (hcp : copiedNames.contains name = false) : findObj K Cl (some o) name = some (.bind (.builtin "function.__get__") (.ref f)):=by
 refine Option.bind_eq_some_iff.mpr ⟨_,hc,Option.bind_eq_some_iff.mpr ⟨_,hf,Option.bind_eq_some_iff.mpr ⟨_,hg,Option.bind_eq_some_iff.mpr ⟨false,ht,?_⟩⟩⟩⟩
 exact Option.bind_eq_some_iff.mpr ⟨_,(if_pos hd).trans hl,by rw [hcp];rfl⟩
private theorem fn_get {f x : Addr} {tp : Value} {fo : Obj} {Q : Value → Shared → Prop} (hfo : s.heap.get? f = some fo) (hfc : fo.cls = .type "function") (h : Q (.ref s.heap.objs.size) { s with heap:=s.heap.push (methodObj (.ref f) (.ref x)) }) (htp : tp = .ref Cl) :
  wpAny (model prog w) A (call (.builtin "function.__get__") [.ref f,.ref x,tp]) Q E s:=by
 subst htp
 obtain ⟨hp,g,d,t,os⟩:=s
 refine wpAny_call_entry (rest:=[.ref x,.ref Cl]) PySem.F.ks_slot_function_get ⟨fo,hfo,hfc⟩ PySem.F.ks_entry_function_get ?_ (PySem.F.ks_getArgs_function _ _ _)
 unfold Builtin.«function.__get__»
 repeat wp_step
 all_goals exact ⟨_,rfl,h⟩
private theorem w9d {cd : ClassData} {o : Obj} {name : PySem.Str} {f : Addr} {expr : Bool} {Q : Value → Shared → Prop} (X : K.In s.heap) (I : InstAt s.heap x ox Cl (some o)) (hga : findIn K (.ref Cl) "__getattribute__" = some (some (.builtin "list.__getattribute__"))) (hm : mroIn K Cl (.type "list") = some true) (hgk : findIn K (.ref Cl) "__getattr__" = some none)
  (hc : clsIn K Cl = some cd) (hd : cd.hasDict = true) (hf : findIn K (.ref Cl) name = some (some (.ref f))) (hg : specialIn K (.ref f) "__get__" = some (some (.builtin "function.__get__"))) (ht : takesIn K (.ref f) = some false) (hty : typeIn K (.ref f) = some (.type "function")) (hl : lookIn name o = some none) (hcp : copiedNames.contains name = false)
  (h : Q (.ref s.heap.objs.size) { s with heap:=s.heap.push (methodObj (.ref f) (.ref x)),toks:=s.toks + 1 }) : wpAny (model prog w) A (getAttr (.ref x) name expr) Q E s:=by
 obtain ⟨hp,g,d,t,os⟩:=s
 obtain ⟨fo,hfo,hfc⟩ : ∃ fo,hp.get? f = some fo ∧ fo.cls = .type "function":=by
  have h' : (K.lookup f).map (·.cls) = some (.type "function"):=hty
  cases z : K.lookup f with
  | none => rw [z] at h';cases h'
  | some fo => rw [z] at h';exact ⟨fo,X _ _ z,Option.some.inj h'⟩
 have L0:=I.type (M:=model prog w)
 have L1:=looks_findIn (M:=model prog w) X hga
 have L2:=looks_findIn (M:=model prog w) X hgk
 have L3:=looks_find (M:=model prog w) X I (w8s hc hd hf hg ht hl hcp)
 have hi : Looks (model prog w) hp (isInstance (.ref x) (.type "list")) true:=I.type.andThen (looks_mroIn X hm)
 have run : wpAny (model prog w) A (call (.builtin "list.__getattribute__") [.ref x,.str name t]) (fun v' s' => v' = .ref hp.objs.size ∧ s' = ⟨hp.push (methodObj (.ref f) (.ref x)),g,d,t + 1,os⟩) (fun _ _ => False) ⟨hp,g,d,t + 1,os⟩:=by
  refine wpAny_call (codeAny_call_builtin q8u.plain PySem.am_entry_list_getattribute (ck_lga hi ?_))
  have body : wpAny (model prog w) A.in1 (call (.builtin "function.__get__") [.ref f,.ref x,.ref Cl]) (fun v' s' => v' = .ref hp.objs.size ∧ s' = ⟨hp.push (methodObj (.ref f) (.ref x)),g,d,t + 1,os⟩) (fun _ _ => False) ⟨hp,g,d,t + 1,os⟩:=fn_get (s:=⟨hp,g,d,t + 1,os⟩) hfo hfc ⟨rfl,rfl⟩ rfl
  unfold Builtin.«object.__getattribute__»
  repeat (first | (with_reducible refine Looks.at L0 ?_) | (with_reducible refine Looks.at L3 ?_) | (refine wpAny_mono body ?_ ?_) | wp_step)
  ·rintro a s ⟨rfl,rfl⟩
   exact wpAny_pure ⟨rfl,rfl⟩
  ·exact fun _ _ e => e.elim
 unfold getAttr getAttrBy
 refine wpAny_bind (wpAny_mkText (wpAny_holding (wpAny_bind (L0.at (wpAny_bind (L1.at ?_))))))
 dsimp only
 rw [if_neg (by rw [show (Value.builtin "list.__getattribute__" == Value.builtin "object.__getattribute__") = false from by decide +kernel,Bool.and_false];exact Bool.false_ne_true)]
 unfold getAttrByItsOwn hookBefore callGetattribute boundAndCalled
 refine wpAny_bind (L2.at ?_)
 refine wpAny_bind (wpAny_attempt (wpAny_holding ?_))
 rw [if_neg (by show ¬ ((expr && onTheHeap (Value.builtin "list.__getattribute__")) = true);rw [show onTheHeap (Value.builtin "list.__getattribute__") = false from rfl,Bool.and_false];exact Bool.false_ne_true)]
 rw [q8u.bind]
 refine wpAny_bind (wpAny_pure ?_)
 show wpAny _ _ (call (.builtin "list.__getattribute__") [.ref x,.str name t]) _ _ _
 refine wpAny_mono run (fun v' s' hv => ?_) fun _ _ e => e.elim
 obtain ⟨rfl,rfl⟩:=hv
 exact wpAny_pure h
end
section
variable {C : Cfg} {mu mu' nu : List Addr} {s₀ s s' : Shared} {env cenv : Env} {ρ : List (PySem.Str × PV)} {σ σ' : List (Addr × MO)} {A : Around} {E : Value → Shared → Prop} {K : Frag} {x dx Cl : Addr} {od : Obj} {cd : ClassData} {l : List PV}
private theorem z1i {f : Addr} {fd : FuncData} {body : List Stmt} {n : Nat} {names : List PySem.Str} {ps : List PV} {vs vs0 : List Value} {ρc : List (PySem.Str × PV)} {Q : Value → Shared → Prop} (D : DefAt s f fd body) (r : Rm A (n + 1)) (O : Ok C mu s)
  (hy : Sims s.heap mu ps vs) (hbind : BindsTo s fd ⟨vs0,[]⟩ (names.zip vs)) (hlen : names.length = ps.length) (hclo : Clo C mu s.heap fd.closure ρc fd.scope.names)
  (hloc : names.all (fun x => fd.scope.names.lookup x == some .local && okName x) = true) (hcell : fd.scope.names.all (fun x => x.2 != .cell) = true)
  (h : ∀ L s₁,s.heap.get? L = none → In C (L :: mu) [L] (callEnv fd L f) ((names.zip ps).reverse ++ ρc) [] s s₁ → Rm (A.deeper (callEnv fd L f)) n → (∀ b o,s.heap.get? b = some o → s₁.heap.get? b = some o) →
   wpAny (model prog w) (A.deeper (callEnv fd L f)) (execs body (callEnv fd L f)) (fun fl s' => match fl with | .ret v => Q v s' | _ => Q .none s') (fun _ _ => False) s₁) :
  codeAny (model prog w) A (.call (.ref f) ⟨vs0,[]⟩) (fun r s' => match r with | .ok (.ret v) => Q v s' | .ok _ => False | .error e => E e s') s:=by
 obtain ⟨o,hl,hd⟩:=D.look
 have hvl : vs.length = ps.length:=hy.length
 have hln : ∀ x ∈ names,fd.scope.names.lookup x = some .local ∧ okName x = true:=fun x hx => by
  have:=List.all_eq_true.mp hloc x hx
  rw [Bool.and_eq_true,beq_iff_eq] at this
  exact this
 refine codeAny_call_def (binds:=names.zip vs) r.room hl hd O.nolimit D.code D.body hbind (fun x hx => by simpa using List.all_eq_true.mp hcell x hx)
  (fun x hx => (hln x.1 (List.of_mem_zip hx).1).1) (fun h₀ hns hk => ?_) D.co D.gen D.kind
 have hnone:=Ok.size_none s
 have hL : ∃ o,h₀.get? s.heap.objs.size = some o:=let ⟨o,_,_,ho,_⟩:=hns;⟨o,ho⟩
 obtain ⟨oL,hoL⟩:=hL
 have O₁ : Ok C (s.heap.objs.size :: mu) { s with heap:=h₀,toks:=s.toks + (names.zip vs).length }:=O.fresh hnone hoL hk (O.fresh' hnone).1
 have hy₁ : Sims h₀ (s.heap.objs.size :: mu) ps vs:=(hy.new hnone).keeps (fun _ _ z _ => z) fun b o _ _ e => hk b o e
 have memρ : ∀ x p,(names.zip ps).reverse.lookup x = some p → x ∈ names:=fun x p e => (List.of_mem_zip (List.mem_reverse.mp (q0n e))).1
 have split : ∀ x p,((names.zip ps).reverse ++ ρc).lookup x = some p → (names.zip ps).reverse.lookup x = some p ∨ ρc.lookup x = some p:=fun x p e => by
  rw [List.lookup_append] at e
  cases hq : (names.zip ps).reverse.lookup x with
  | some q => rw [hq] at e;left;simpa using e
  | none => rw [hq] at e;right;simpa using e
 have hLmu : s.heap.objs.size ∉ mu:=(O.fresh' hnone).2
 refine wpAny_mono (h s.heap.objs.size _ hnone ⟨O₁,⟨fun _ _ e => (nomatch e),D.kind,D.gl,D.bi,.head _,⟨_,hns,fun x p e hlc => ?_⟩,fun x p e => ?_,fun x c hx hxl hc => ?_,fun x p e => ?_,hclo.inj⟩,
  Kp.of_keep hk,fun a h => by simp at h;subst h;exact .head _,fun x hx => (hclo.alive x hx).imp (.tail _) id⟩ (r.deeper _) hk) (fun fl s' hq => ?_) fun _ _ f => f.elim
 ·rcases split x p e with e | e
  ·exact q2m names ps vs hlen hy₁ x p e
  ·have h1:=(hclo.has x p e).1
   rw [show (callEnv fd s.heap.objs.size f).kindOf x = fd.scope.names.lookup x from rfl,h1] at hlc;cases hlc
 ·rcases split x p e with e | e
  ·exact .inl (hln x (memρ x p e)).1
  ·obtain ⟨h1,h2,h3⟩:=hclo.has x p e
   exact .inr ⟨.inr h1,h3⟩
 ·obtain ⟨h1,ov,h2,h3⟩:=hclo.cell x c hx hc
  refine ⟨.tail _ h1,fun q => hLmu (show s.heap.objs.size ∈ mu from (show (callEnv fd s.heap.objs.size f).locals ∈ mu from q ▸ h1)),ov,h2.keeps hk,fun p e => ?_⟩
  rcases split x p e with e | e
  ·exact absurd (hln x (memρ x p e)).1 hxl
  ·obtain ⟨v,e1,e2⟩:=h3 p e
   exact ⟨v,e1,(e2.new hnone).keeps (fun _ _ z _ => z) fun b o _ _ e => hk b o e⟩
 ·rcases split x p e with e | e
  ·exact q1s (hln x (memρ x p e)).2
  ·exact q1s (hclo.has x p e).2.1
 ·cases fl <;> exact hq
noncomputable def z2s (b f : Addr) (x : Addr) (fo : Obj) (h : Heap) : Prop:=h.get? b = some (methodObj (.ref f) (.ref x)) ∧ h.get? f = some fo
private theorem w4u {M : Model} {b f x : Addr} {fo : Obj} {fd : FuncData} (hfd : fo.data = .func fd) (h : Heap) (hb : z2s b f x fo h) : ∃ k,(k = Keeper.frame ∨ k = Keeper.machine ∨ k = Keeper.boundFrame) ∧ Looks M h (keeperOf (.ref b)) k:=by
 refine ⟨.boundFrame,.inr (.inr rfl),?_⟩
 intro A Q E s k q
 unfold keeperOf
 refine wpAny_bind (wpAny_loadPart (k _ _ hb.1) ?_)
 show wpAny _ _ (load f >>= fun o => pure (match o.data with | .func _ => Keeper.boundFrame | _ => Keeper.caller)) _ _ _
 refine wpAny_bind (wpAny_loadPart (k _ _ hb.2) ?_)
 rw [hfd]
 exact wpAny_pure q
private theorem w3c {o e : Expr} {name : PySem.Str} {apos pos p : Pos} {f : Addr} {fd : FuncData} {body : List Stmt} {ps : List PV} {few : Sem Pos} {Q : Value → Shared → Prop} (k : ClsOk C.K Cl cd) (hga : findIn C.K (.ref Cl) "__getattribute__" = some (some (.builtin "list.__getattribute__"))) (hm : mroIn C.K Cl (.type "list") = some true) (O : Ok C mu s) (a : Act env mu s.heap ρ σ) (ho : PurE prog w C mu A env ρ σ o (.val (.ref x))) (hi : SInst σ x dx Cl od)
  (hf : findIn C.K (.ref Cl) name = some (some (.ref f))) (hg : specialIn C.K (.ref f) "__get__" = some (some (.builtin "function.__get__"))) (htk : takesIn C.K (.ref f) = some false) (ht : typeIn C.K (.ref f) = some (.type "function")) (hsh : lookIn name od = some none) (hcp : copiedNames.contains name = false) (D : Def C f fd body) (he1 : PurE prog w C mu A env ρ σ e (.tup ps)) (hz : ps.length ≤ 2 ^ 20)
  (h : ∀ s₁ vs,Ok C mu s₁ → Kp C [] s s₁ → Sims s₁.heap mu ps vs → codeAny (model prog w) A (.call (.ref f) ⟨.ref x :: vs,[]⟩) (fun r s' => match r with | .ok (.ret v) => Q v s' | .ok _ => False | .error e => E e s') s₁)
  (he : autoParam (eval (.Call (.Attribute o name apos) [.Starred e p] [] pos) env = (do let ov ← eval o env;standAt apos.atName;let (f,first) ← holding [ov] (do pure (← getAttr ov name true,[]));let cp ← pure pos;callWith cp f first (backTo pos (starEach [.Starred e p] env)) [])) tR)
  (hs : autoParam (starEach [.Starred e p] env = [(true,eval e env)]) tR) : wpAny (model prog w) A (eval (.Call (.Attribute o name apos) [.Starred e p] [] pos) env) Q E s:=by
 rw [he]
 refine wpAny_bind (ho s O a _ _ fun v s₁ O₁ k₁ y₁ => wpAny_bind (wpAny_standAt (wpAny_bind (wpAny_holding (wpAny_bind ?_)))))
 cases (show v = .ref x from y₁)
 have a₁:=a.kp O k₁
 obtain ⟨ox,I,_⟩:=hi.at a₁
 obtain ⟨fo,hfo,hfd⟩:=(D.at O₁).look
 refine w9d O₁.K I hga hm k.gk k.hc k.dict hf hg htk ht hsh hcp ?_
 have O₂ : Ok C mu { s₁ with heap:=s₁.heap.push (methodObj (.ref f) (.ref x)),toks:=s₁.toks + 1 }:=O₁.push
 have kk : Kp C [] s₁ { s₁ with heap:=s₁.heap.push (methodObj (.ref f) (.ref x)),toks:=s₁.toks + 1 }:=Kp.of_keep fun b o e => Heap.get?_push_of_some _ e
 have a₂:=a₁.kp O₁ kk
 generalize hb : s₁.heap.objs.size = b
 have hbo : (s₁.heap.push (methodObj (.ref f) (.ref x))).get? b = some (methodObj (.ref f) (.ref x)):=hb ▸ Heap.get?_push_size _ rfl
 have hbn : s₁.heap.get? b = none:=hb ▸ Ok.size_none s₁
 have hbf:=O₁.fresh' hbn
 have hff:=O₁.fnNotTab hfo hfd
 refine wpAny_pure (wpAny_bind (wpAny_pure ?_))
 refine ks_call (P:=z2s b f x fo) (by rw [hs];rfl) (fun h hB => w4u hfd h hB) ?_
 rw [hs]
 refine ks_lone (he1 _ O₂ a₂ _ _ fun u s₃ O₃ k₃ y₃ => star_tup O₃ y₃ hz fun s₄ vs O₄ k₄ y₄ => ?_)
 have k4:=k₃.trans k₄
 refine ⟨⟨k4.keep _ _ (fun h => nomatch h) hbf.1 hbo,k4.keep _ _ (fun h => nomatch h) hff (Heap.get?_push_of_some _ hfo)⟩,?_⟩
 refine wpAny_call (ks_codeAny_call_bound (k4.keep _ _ (fun h => nomatch h) hbf.1 hbo) ?_)
 exact (h s₄ vs O₄ ((k₁.trans kk).trans k4) y₄)
end
end
section
open PySem PySem.W PySem.Calls PyProof.Rows
set_option maxHeartbeats 2000000
variable {prog : Program} {w : World} {P : Params} {C : Cfg}
noncomputable abbrev sBlank : PySem.Str:=⟨#[32]⟩
noncomputable abbrev sEmpty : PySem.Str:=⟨#[]⟩
noncomputable def nlOf (l : List (PySem.Str × PySem.Str)) : List (PySem.Str × PySem.Str):=if l = [] then [(sEmpty,sEmpty)] else l
noncomputable def q0w (lines : List PySem.Str) (l : List (PySem.Str × PySem.Str)) (k : Int) : List PySem.Str:=if 0 < ((accN (nlOf l) k : Nat) : Int) then lines ++ [accStr (nlOf l)] else lines
structure NlOk (l : List (PySem.Str × PySem.Str)) (k : Int) : Prop where
 last : ∀ p,l.getLast? = some p → ¬ (p.1 = sBlank ∧ p.2 = sEmpty)
 only : 0 < ((accN (nlOf l) k : Nat) : Int) → onlyWs (nlOf l) k = false
 size : AccSz l k
 short : Short l
private theorem nlOf_sz {l : List (PySem.Str × PySem.Str)} {k : Int} (h : NlOk l k) : AccSz (nlOf l) k ∧ Short (nlOf l):=by
 unfold nlOf
 split
 ·refine ⟨⟨by simp,fun p hp => ?_,h.size.k0,h.size.k1⟩,fun p hp => ?_⟩
  ·simp at hp;subst hp;decide
  ·simp at hp;subst hp;decide
 ·exact ⟨h.size,h.short⟩
section
variable {mu mu' nu : List Addr} {s₀ s s' : Shared} {env : Env} {ρ : List (PySem.Str × PV)} {σ σ' : List (Addr × MO)} {A : Around} {E : Value → Shared → Prop} {a : FA} {od od2 : Obj} {lines : List PySem.Str} {l : List (PySem.Str × PySem.Str)} {W k : Int} {c : Nat}
private theorem get_push (hC : CfgOk P C) : specialIn C.K (.ref q4u) "__get__" = some (some (.builtin "function.__get__")):=by rw [hC.K];kernel_rfl
private theorem w9k (hC : CfgOk P C) : takesIn C.K (.ref q4u) = some false:=by rw [hC.K];kernel_rfl
private theorem ga_acc (hC : CfgOk P C) : findIn C.K (.ref cAcc) "__getattribute__" = some (some (.builtin "list.__getattribute__")):=by rw [hC.K];kernel_rfl
private theorem z2n (hC : CfgOk P C) {n : Nat} {x dx : Addr} {p q : PySem.Str} {vs : List Value} (r : Rm A (n + 1)) (O : Ok C mu s) (ha : AccAt mu s.heap x dx l k) (hy : Sims s.heap mu [.str p,.str q] vs) (hsz : l.length ≤ 1024) (Q : Value → Shared → Prop) (E : Value → Shared → Prop)
  (kk : ∀ v s',Ok C mu s' → Kp C [x,dx] s s' → AccAt mu s'.heap x dx (l ++ [(p,q)]) k → Sim s'.heap mu .none v → Q v s') : codeAny (model prog w) A (.call (.ref q4u) ⟨.ref x :: vs,[]⟩) (fun r s' => match r with | .ok (.ret v) => Q v s' | .ok _ => False | .error e => E e s') s:=by
 have hS : sizeLine = 2 ^ 24:=by decide +kernel
 have hlen:=hy.length
 obtain ⟨v₁,v₂,rfl⟩ : ∃ v₁ v₂,vs = [v₁,v₂]:=by
  exact len2 hlen
 refine z1i (ρc:=[]) (names:=[⟨#[115,101,108,102]⟩,⟨#[102,119,115]⟩,⟨#[115,116,114,105,110,103]⟩]) (ps:=[.val (.ref x),.str p,.str q]) ((q4l hC).at O) r O ⟨_,_,rfl,rfl,hy⟩ (BindsTo.of_eq rfl) rfl Clo.nil rfl rfl fun L s₁ hL I r' hk => ?_
 rw [List.append_nil] at I
 obtain ⟨od,hod,I₁⟩:=ha.tellW I hL rfl (fun c hc => nomatch hc) hk
 refine q0a (q8g (p:=.tup [.str p,.str q]) (q0r hC) (q2b hC) I₁ sAcc_x (sAcc_d ha.ne) (.head _) (q0b rfl rfl) (by repeat' walk_at "pe") (w6z hod) (by rw [List.length_map];(with_reducible refine nad ?_;decide)) (fun s' I' => ?_) rfl)
 refine wpAny_execs_nil ?_
 obtain ⟨h1,h2,h3⟩:=q8e (l:=l ++ [(p,q)]) I' hL ha.hx ha.hd ha.ne (by simp) (by
  have : (dx == x) = false:=by simpa using Ne.symm ha.ne
  simp [List.lookup_cons,this]) hod
 exact kk .none s' h1 h2 h3 rfl
private theorem w9g (hC : CfgOk P C) (hp : ProgOk prog) (h : NlOk l k) : ∃ l1 e,nlOf l = l1 ++ [e] ∧ ¬ (e.1 = sBlank ∧ e.2 = sEmpty) ∧
  ∀ (n : Nat) (A : Around) (mu : List Addr) (s : Shared) (x dx : Addr),Rm A (n + 2) → Ok C mu s → AccAt mu s.heap x dx l k → AccTo prog w C mu A (call (.ref q6l) [.ref x]) x dx l1 k (pairPV e) s:=by
 rcases List.eq_nil_or_concat l with e | ⟨l1,p,e⟩
 ·subst e
  exact ⟨[],(sEmpty,sEmpty),rfl,by intro q;exact absurd q.1 (by decide),fun n A mu s x dx r O ha => acc_pop0 hC hp r O ha⟩
 ·have e' : l = l1 ++ [p]:=by simpa using e
  subst e'
  have hl:=h.size.len
  refine ⟨l1,p,by unfold nlOf;rw [if_neg (by simp)],h.last p (by simp),fun n A mu s x dx r O ha => w7p hC hp r O ha (by simp at hl;(with_reducible refine nae ?_;decide))⟩
private theorem fmt_nl (hC : CfgOk P C) (hp : ProgOk prog) {n : Nat} (r : Rm A (n + 8)) (O : Ok C mu s) (ha : FmtAt mu s.heap a W c lines l k) (h : NlOk l k) (hln : lines.length ≤ 4096) :
  FmtTo prog w C mu A (call (.ref q2e) [.ref a.f]) a W c (q0w lines l k) [] 0 .none s:=by
 intro Q E kk
 have hS : sizeLine = 2 ^ 24:=by decide +kernel
 refine q1o (ρc:=[]) (vs:=[.ref a.f]) (names:=[⟨#[115,101,108,102]⟩]) (ps:=[.val (.ref a.f)]) ((q4s hC).at O) r O ⟨_,_,rfl,rfl,rfl⟩ (BindsTo.of_eq rfl) rfl Clo.nil rfl rfl fun L s₁ hL I r' hk => ?_
 rw [List.append_nil] at I
 obtain ⟨od,od2,hd,hk2,I₁⟩:=ha.tell I hL rfl rfl hk
 have nd:=ha.nd
 have hnu : ∀ b ∈ a.wr,b ∈ [a.ln,a.x,a.dx,L]:=fun b hb => by simp at hb ⊢;rcases hb with h | h | h <;> simp [h]
 obtain ⟨l1,e,hle,hne,hpop⟩:=w9g (w:=w) hC hp h
 obtain ⟨hz',hsh'⟩:=nlOf_sz h
 -- end_of_line = self._current_line.pop()
 refine q0a (wpAny_Assign_Name (q3i (q0r hC) I₁.ok I₁.act (q1f hC nd hd rfl) (sF_acc nd) (z0r hC) (w9l hC) (q1y hk2 (by decide)) (q7g hC) (fun s₂ O₂ k₂ => ?_)) rfl)
 have I₂:=I₁.next O₂ k₂
 refine hpop (n + 5) _ _ s₂ _ _ r' O₂ (q1x I₂.act nd hk2) _ _ fun v s₃ O₃ k₃ ha₃ y₃ => ?_
 obtain ⟨od3,hk3,I₃⟩:=q5h I₂ nd hnu O₃ k₃ ha₃
 refine q3l (p:=pairPV e) I₃ (by walk_at "sto") y₃ fun s₄ I₄ _ => ?_
 -- if end_of_line != (' ',''): push
 have hcond : (!((e.1 == sBlank) && (e.2 == sEmpty))) = true:=by
  cases h1 : (e.1 == sBlank) <;> cases h2 : (e.2 == sEmpty) <;> simp
  exact hne ⟨eq_of_beq h1,eq_of_beq h2⟩
 refine q0a (st_IfT I₄ (hcond ▸ q0i (q0b rfl rfl) (show PurE _ _ _ _ _ _ _ _ _ (.tup [.str sBlank,.str sEmpty]) by repeat' walk_at "pe") (w8h r'.cu)) fun s₅ I₅ => ?_)
 have hlen1 : l1.length ≤ 1024:=by have:=hz'.len;rw [hle] at this;simp at this;(with_reducible refine nad ?_;decide)
 refine q0a (wpAny_Expr_any (w3c (few:=pure default) (ps:=[.str e.1,.str e.2]) (q0r hC) (ga_acc hC) (q2b hC).lst I₅.ok I₅.act (q1f hC nd hd rfl) (sF_acc nd) (w2w hC) (get_push hC) (w9k hC) (w2b hC) (q1y hk3 (by decide)) (by decide) (q4l hC) (q0b rfl rfl) (by show 2 ≤ 2 ^ 20;decide) (fun s₆ vs O₆ k₆ y₆ => ?_)) rfl rfl)
 have I₆:=I₅.next O₆ k₆
 refine z2n hC (n:=n + 6) r' O₆ (q1x I₆.act nd hk3) y₆ hlen1 _ _ fun v s₇ O₇ k₇ ha₇ _ => ?_
 rw [show l1 ++ [(e.1,e.2)] = nlOf l from hle.symm] at ha₇
 obtain ⟨od4,hk4,I₇⟩:=q5h I₆ nd hnu O₇ k₇ ha₇
 refine wpAny_execs_nil ?_
 -- if len(self._current_line) > 0
 have hlnS : (lines.map PV.str).length ≤ sizeLine:=by rw [List.length_map];(with_reducible refine nad ?_;decide)
 have fin : ∀ (lines' : List PySem.Str) (s₈ : Shared),lines' = q0w lines l k → In C (L :: mu) [a.ln,a.x,a.dx,L] (callEnv (q2v P) L q2e) ((⟨#[101,110,100,95,111,102,95,108,105,110,101]⟩,pairPV e) :: [(⟨#[115,101,108,102]⟩,.val (.ref a.f))]) (sFmt a od lines' (nlOf l) od4) s s₈ →
   wpAny (model prog w) (A.deeper (callEnv (q2v P) L q2e)) (execs ((q8o P).drop 3) (callEnv (q2v P) L q2e)) (fun fl s' => match fl with | .ret v => Q v s' | _ => Q .none s') (fun _ _ => False) s₈:=fun lines' s₈ hl' I₈ => by
  refine q0a (wpAny_Expr_any (q3i (q0r hC) I₈.ok I₈.act (q1f hC nd hd rfl) (sF_acc nd) (w4g hC) (w3m hC) (q1y hk4 (by decide)) (q4t hC) (fun s₉ O₉ k₉ => ?_)) rfl rfl)
  have I₉:=I₈.next O₉ k₉
  refine w9f hC (n:=n + 6) r' O₉ (q1x I₉.act nd hk4) hz'.len _ _ fun v s₁₀ O₁₀ k₁₀ ha₁₀ _ => ?_
  obtain ⟨od5,hk5,I₁₀⟩:=q5h I₉ nd hnu O₁₀ k₁₀ ha₁₀
  refine wpAny_execs_nil ?_
  obtain ⟨h1,h2,h3⟩:=w5x I₁₀ hL ha.mem nd hd hk5
  rw [hl'] at h3
  exact kk .none s₁₀ h1 h2 h3 rfl
 by_cases hpos : 0 < ((accN (nlOf l) k : Nat) : Int)
 ·have hw:=h.only hpos
  refine q0a (st_IfT I₇ ((show decide ((0 : Int) < ((accN (nlOf l) k : Nat) : Int)) = true from decide_eq_true hpos) ▸ q0i (q5m (n:=n + 3) hC r' (sF_x nd) (sF_dx nd) (FA.ne nd).2.2.2 hk4 hz' (q0f (q0e hC rfl) rfl rfl) (q1f hC nd hd rfl) (fun _ => rfl)) q0m op_gt) fun s₈ I₈ => ?_)
  refine q0a (st_IfE I₈ ((show (false && false) = false from rfl) ▸ q2j (pos':=default) (q1b (w3x (z:=.bool false) (q0r hC) (q1f hC nd hd rfl) (sF_acc nd) (m_a_only hC) (z2w hC) (q1y hk4 (by decide)) (w1v hC) (fun s O a => hw ▸ acc_only hC (n:=n + 1) r' O (q1x a nd hk4) hz' hsh')) q1l) (fun h => by cases h)) fun s₉ I₉ => ?_)
  refine q0a (q4z I₉ (sF_ln nd) (.head _) (q9t hC nd hd rfl) (q0c (q7p (n:=n + 2) hC r' (sF_x nd) (sF_dx nd) (FA.ne nd).2.2.2 hk4 hz' hsh' (q0f (q0e hC rfl) rfl rfl) (q1f hC nd hd rfl) (fun _ => rfl)) q0g (fun _ => rfl)) hlnS (fun s₁₀ I₁₀ => ?_) rfl)
  refine wpAny_execs_nil (wpAny_execs_nil ?_)
  exact fin _ s₁₀ (by unfold q0w;rw [if_pos hpos]) (w7c I₁₀ nd)
 ·refine q0a (st_IfN I₇ ((show decide ((0 : Int) < ((accN (nlOf l) k : Nat) : Int)) = false from decide_eq_false hpos) ▸ q0i (q5m (n:=n + 3) hC r' (sF_x nd) (sF_dx nd) (FA.ne nd).2.2.2 hk4 hz' (q0f (q0e hC rfl) rfl rfl) (q1f hC nd hd rfl) (fun _ => rfl)) q0m op_gt) fun s₈ I₈ => ?_)
  exact fin _ s₈ (by unfold q0w;rw [if_neg hpos]) I₈
end
end
section
open PySem PySem.W PySem.Calls PyProof.Rows
set_option maxHeartbeats 2000000
variable {prog : Program} {w : World} {P : Params} {C : Cfg}
noncomputable def q1h (c : Nat) (x : PySem.Str) : Bool:=x.cps[0]? == some c
noncomputable def endsC (c : Nat) (x : PySem.Str) : Bool:=x.cps[x.cps.size - 1]? == some c
noncomputable def hitAt (c : Nat) (l : List (PySem.Str × PySem.Str)) (i : Nat) : Bool:=
 match l[i]?,l[i - 1]? with
 | some a,some b => (PySem.Txt.isspace ⟨#[c]⟩ && q1h c a.1) || endsC c b.2
 | _,_ => false
noncomputable def q0v (c : Nat) (l : List (PySem.Str × PySem.Str)) : Nat → Option Nat
 | 0 => none
 | m + 1 => if hitAt c l (m + 1) then some (m + 1) else q0v c l m
noncomputable def chunk (W : Int) (c : Nat) (lines : List PySem.Str) (l : List (PySem.Str × PySem.Str)) (k : Int) (p q : PySem.Str) : List PySem.Str × List (PySem.Str × PySem.Str) × Int:=
 if W < ((accN (l ++ [(p,q)]) k : Nat) : Int) then
  match q0v c (l ++ [(p,q)]) l.length with
  | some i => (lines ++ [accStr ((l ++ [(p,q)]).take i)],(l ++ [(p,q)]).drop i,0)
  | none => if 0 < k then (q0w lines l k,[(if p = sEmpty then sBlank else p,q)],0) else (lines,l ++ [(p,q)],k)
 else (lines,l ++ [(p,q)],k)
private theorem w8b {c : Nat} {l : List (PySem.Str × PySem.Str)} {m i : Nat} (h : q0v c l m = some i) : 1 ≤ i ∧ i ≤ m:=by
 induction m with
 | zero => cases h
 | succ m ih =>
  unfold q0v at h
  split at h
  ·cases h;lia
  ·have:=ih h;lia
structure ChOk (l : List (PySem.Str × PySem.Str)) (k : Int) (p q : PySem.Str) : Prop where
 size : AccSz (l ++ [(p,q)]) k
 short : Short (l ++ [(p,q)])
 last : ∀ p,l.getLast? = some p → ¬ (p.1 = sBlank ∧ p.2 = sEmpty)
private theorem AccSz.sub {l l' : List (PySem.Str × PySem.Str)} {k : Int} (h : AccSz l k) (hl : l'.length ≤ l.length) (hs : ∀ p ∈ l',p ∈ l) : AccSz l' k:=⟨Nat.le_trans hl h.len,fun p hp => h.each p (hs p hp),h.k0,h.k1⟩
private theorem ChOk.nl {l : List (PySem.Str × PySem.Str)} {k : Int} {p q : PySem.Str} (h : ChOk l k p q) (hk : 0 < k) : NlOk l k:=by
 refine ⟨h.last,fun _ => ?_,h.size.sub (by simp) fun p hp => by simp [hp],fun p hp => h.short p (by simp [hp])⟩
 unfold onlyWs
 have : (k == 0) = false:=by simpa using (by lia : k ≠ 0)
 rw [this];rfl
section
variable {mu mu' nu : List Addr} {s₀ s s' : Shared} {env : Env} {ρ : List (PySem.Str × PV)} {σ σ' : List (Addr × MO)} {A : Around} {E : Value → Shared → Prop} {a : FA} {od od2 : Obj} {lines : List PySem.Str} {l : List (PySem.Str × PySem.Str)} {W k : Int} {c : Nat}
private theorem w8f {value slice : Expr} {pos : Pos} {x : PySem.Str} {c : Nat} (hv : PurE prog w C mu A env ρ σ value (.str x)) (hi : PurE prog w C mu A env ρ σ slice (.int (-1))) (hx : x.cps[x.cps.size - 1]? = some c) (hsz : x.cps.size < 2 ^ 62)
  (hs : autoParam (∀ o i,subscripted slice false o i = operate [o,i] (getItem o i)) tR) : PurE prog w C mu A env ρ σ (.Subscript value slice pos) (.str ⟨#[c]⟩):=fun s O a Q E k =>
 Subscript_ (hv s O a _ _ fun v s₁ O₁ k₁ y₁ => hi s₁ O₁ (a.kp O k₁) _ _ fun u s₂ O₂ k₂ y₂ => by
  obtain ⟨t₁,rfl⟩:=y₁.kp0 O₁ k₂
  obtain ⟨t,rfl⟩:=y₂
  have hlt:=(Array.getElem?_eq_some_iff.mp hx).1
  refine tail_any (typeIs_str s₂ x t₁) slot_str_getitem.lookup (PyProof.Rows.getItem_str (c:=c) ?_ ?_ (k _ _ O₂.tok ((k₁.trans k₂).trans ⟨fun _ _ _ _ e => e⟩) ⟨_,rfl⟩)) (hs _ _)
  ·simp
  ·have e : seqIndex? (-1) x.length = some (x.cps.size - 1):=by
    unfold seqIndex? Str.length
    simp
    with_reducible exact nf2
   rw [e]
   exact hx)
private theorem w1l {x y : PySem.Str} {f : PySem.Str} {nn : Nat} {p1 p2 p3 p4 p5 p6 p7 : Pos} (hx : ρ.lookup x = some (.str f)) (hy : ρ.lookup y = some (.str ⟨#[c]⟩)) (dx : (x == ("__debug__" : PySem.Str)) = false) (dy : (y == ("__debug__" : PySem.Str)) = false) (hsz : f.cps.size < 2 ^ 60) :
  PurB prog w C mu A env ρ σ (.BoolOp .And [.Name x p1,.Compare (.Subscript (.Name x p2) (.Constant (.int 0) nn p3) p4) [.Eq] [.Name y p5] p6] p7) (q1h c f):=by
 have e : q1h c f = ((f.length != 0) && (q1h c f && true)):=by
  unfold q1h
  by_cases h : f.cps.size = 0
  ·have : f.cps[0]? = none:=Array.getElem?_eq_none (by (with_reducible refine naf ?_;decide))
   rw [this];simp [PySem.Str.length,h]
  ·have : (f.length != 0) = true:=by simpa [PySem.Str.length] using h
   rw [this];simp
 rw [e]
 refine q2j (pos':=default) (q1b (q0b hx dx) (q2z (by lia))) fun hb => q2j (pos':=default) ?_ fun _ => q5c
 have h0 : f.cps.size ≠ 0:=by simpa [PySem.Str.length] using hb
 have hx0 : f.cps[0]? = some (f.cps[0]'(by lia)):=Array.getElem?_eq_getElem _
 have e2 : q1h c f = ((⟨#[f.cps[0]'(by lia)]⟩ : PySem.Str) == ⟨#[c]⟩):=by
  unfold q1h
  rw [hx0]
  by_cases hc : f.cps[0]'(by lia) = c
  ·rw [hc];simp
  ·have h1 : (some (f.cps[0]'(by lia)) == some c) = false:=by simpa using hc
   have h2 : ((⟨#[f.cps[0]'(by lia)]⟩ : PySem.Str) == ⟨#[c]⟩) = false:=beq_eq_false_iff_ne.mpr (by simpa using hc)
   rw [h1,h2]
 rw [e2]
 exact q0i (q6s (j:=0) (q0b hx dx) q0m hx0 (by lia)) (q0b hy dy) w0a rfl
private theorem w4a {x y : PySem.Str} {f : PySem.Str} {nn : Nat} {p1 p2 p3 p3' p4 p5 p6 p7 : Pos} (hx : ρ.lookup x = some (.str f)) (hy : ρ.lookup y = some (.str ⟨#[c]⟩)) (dx : (x == ("__debug__" : PySem.Str)) = false) (dy : (y == ("__debug__" : PySem.Str)) = false) (hsz : f.cps.size < 2 ^ 60) :
  PurB prog w C mu A env ρ σ (.BoolOp .And [.Name x p1,.Compare (.Subscript (.Name x p2) (.UnaryOp .USub (.Constant (.int 1) nn p3) p3') p4) [.Eq] [.Name y p5] p6] p7) (endsC c f):=by
 have e : endsC c f = ((f.length != 0) && (endsC c f && true)):=by
  unfold endsC
  by_cases h : f.cps.size = 0
  ·have : f.cps[f.cps.size - 1]? = none:=Array.getElem?_eq_none (by lia)
   rw [this];simp [PySem.Str.length,h]
  ·have : (f.length != 0) = true:=by simpa [PySem.Str.length] using h
   rw [this];simp
 rw [e]
 refine q2j (pos':=default) (q1b (q0b hx dx) (q2z (by lia))) fun hb => q2j (pos':=default) ?_ fun _ => q5c
 have h0 : f.cps.size ≠ 0:=by simpa [PySem.Str.length] using hb
 have hx0 : f.cps[f.cps.size - 1]? = some (f.cps[f.cps.size - 1]'(by with_reducible exact ni2)):=Array.getElem?_eq_getElem _
 have e2 : endsC c f = ((⟨#[f.cps[f.cps.size - 1]'(by with_reducible exact ni2)]⟩ : PySem.Str) == ⟨#[c]⟩):=by
  unfold endsC
  rw [hx0]
  by_cases hc : f.cps[f.cps.size - 1]'(by with_reducible exact ni2) = c
  ·rw [hc];simp
  ·have h1 : (some (f.cps[f.cps.size - 1]'(by with_reducible exact ni2)) == some c) = false:=by simpa using hc
   have h2 : ((⟨#[f.cps[f.cps.size - 1]'(by with_reducible exact ni2)]⟩ : PySem.Str) == ⟨#[c]⟩) = false:=beq_eq_false_iff_ne.mpr (by simpa using hc)
   rw [h1,h2]
 rw [e2]
 exact q0i (w8f (q0b hx dx) (q2c q0m op_neg) hx0 (by lia)) (q0b hy dy) w0a rfl
end
end
section
set_option tactic.hygienic true
open PySem PySem.W PySem.Calls PyProof.Rows
set_option maxHeartbeats 4000000
variable {prog : Program} {w : World} {P : Params} {C : Cfg}
noncomputable abbrev vSelf : PySem.Str:=⟨#[115,101,108,102]⟩
noncomputable abbrev vFws : PySem.Str:=⟨#[102,119,115]⟩
noncomputable abbrev vString : PySem.Str:=⟨#[115,116,114,105,110,103]⟩
noncomputable abbrev vCh : PySem.Str:=⟨#[99,104]⟩
noncomputable abbrev vI : PySem.Str:=⟨#[105]⟩
section
variable {mu mu' nu : List Addr} {s₀ s s' : Shared} {env : Env} {ρ : List (PySem.Str × PV)} {σ σ' : List (Addr × MO)} {A : Around} {E : Value → Shared → Prop} {a : FA} {od od2 : Obj} {lines : List PySem.Str} {l : List (PySem.Str × PySem.Str)} {W k : Int} {c : Nat}
private theorem w1p {od : Obj} (h : FmtD od W c a.ln a.x) : lookIn ⟨#[110,101,119,108,105,110,101]⟩ od = some none:=by
 obtain ⟨h1,t1,u1,h2,t2,u2,h3,t3,u3,h4,t4,u4,h5,t5,h6,t6,n,rfl⟩:=h
 exact rfl
private theorem FmtAt.ofAct (I : Act env mu s.heap ρ (sFmt a od lines l od2)) (nd : a.all.Nodup) (hd : FmtD od W c a.ln a.x) (hk : AccD od2 k) : FmtAt mu s.heap a W c lines l k:=by
 obtain ⟨h1,h2⟩:=FA.ne nd
 have q1:=I.st _ _ (sF_f (a:=a) (od:=od) (lines:=lines) (l:=l) (od2:=od2))
 have q2:=I.st _ _ (sF_df (od:=od) (lines:=lines) (l:=l) (od2:=od2) nd)
 have q3:=I.st _ _ (sF_ln (od:=od) (lines:=lines) (l:=l) (od2:=od2) nd)
 have q4:=I.st _ _ (sF_x (od:=od) (lines:=lines) (l:=l) (od2:=od2) nd)
 have q5:=I.st _ _ (sF_dx (od:=od) (lines:=lines) (l:=l) (od2:=od2) nd)
 refine ⟨fun b hb => ?_,nd,q1.2.2,⟨od,hd,q2.2.2⟩,q3.2.2,q1x I nd hk⟩
 simp at hb
 rcases hb with e | e | e | e | e <;> rw [e]
 ·exact q1.1
 ·exact q2.1
 ·exact q3.1
 ·exact q4.1
 ·exact q5.1
private theorem w2z {lines' : List PySem.Str} {l' : List (PySem.Str × PySem.Str)} {k' : Int} (I : In C mu nu env ρ (sFmt a od lines l od2) s₀ s) (nd : a.all.Nodup) (hnu : ∀ b ∈ a.wr,b ∈ nu) (O' : Ok C mu s') (kp : Kp C a.wr s s') (ha : FmtAt mu s'.heap a W c lines' l' k') :
  ∃ od' od2',FmtD od' W c a.ln a.x ∧ AccD od2' k' ∧ In C mu nu env ρ (sFmt a od' lines' l' od2') s₀ s':=by
 obtain ⟨od',hd',ho'⟩:=ha.dict
 obtain ⟨od2',hk',hd2⟩:=ha.acc.dict
 have q1:=I.act.st _ _ (sF_f (a:=a) (od:=od) (lines:=lines) (l:=l) (od2:=od2))
 have q2:=I.act.st _ _ (sF_df (od:=od) (lines:=lines) (l:=l) (od2:=od2) nd)
 have q3:=I.act.st _ _ (sF_ln (od:=od) (lines:=lines) (l:=l) (od2:=od2) nd)
 have q4:=I.act.st _ _ (sF_x (od:=od) (lines:=lines) (l:=l) (od2:=od2) nd)
 have q5:=I.act.st _ _ (sF_dx (od:=od) (lines:=lines) (l:=l) (od2:=od2) nd)
 refine ⟨od',od2',hd',hk',I.change O' kp (fun b hb => ⟨hnu b hb,?_⟩) fun b m e => ?_⟩
 ·simp at hb
  rcases hb with e | e | e <;> rw [e]
  ·exact q3.2.1
  ·exact q4.2.1
  ·exact q5.2.1
 ·simp only [sFmt,List.lookup_cons,List.lookup_nil] at e
  split at e
  ·rename_i hb;cases e;rw [eq_of_beq hb];exact ⟨q1.1,q1.2.1,ha.inst⟩
  ·split at e
   ·rename_i hb;cases e;rw [eq_of_beq hb];exact ⟨q2.1,q2.2.1,ho'⟩
   ·split at e
    ·rename_i hb;cases e;rw [eq_of_beq hb];exact ⟨q3.1,q3.2.1,ha.lns⟩
    ·split at e
     ·rename_i hb;cases e;rw [eq_of_beq hb];exact ⟨q4.1,q4.2.1,ha.acc.at_⟩
     ·split at e
      ·rename_i hb;cases e;rw [eq_of_beq hb];exact ⟨q5.1,q5.2.1,hd2⟩
      ·cases e
private theorem fmt_app (hC : CfgOk P C) (hp : ProgOk prog) {n : Nat} {p q : PySem.Str} {vs : List Value} (r : Rm A (n + 9)) (O : Ok C mu s) (ha : FmtAt mu s.heap a W c lines l k) (hy : Sims s.heap mu [.str p,.str q] vs) (h : ChOk l k p q) (hln : lines.length ≤ 4095) :
  FmtTo prog w C mu A (call (.ref q6k) (.ref a.f :: vs)) a W c (chunk W c lines l k p q).1 (chunk W c lines l k p q).2.1 (chunk W c lines l k p q).2.2 .none s:=by
 intro Q E kk
 have hS : sizeLine = 2 ^ 24:=by decide +kernel
 have hlen:=hy.length
 obtain ⟨v₁,v₂,rfl⟩ : ∃ v₁ v₂,vs = [v₁,v₂]:=by
  exact len2 hlen
 refine q1o (ρc:=[]) (vs:=[.ref a.f,v₁,v₂]) (names:=[vSelf,vFws,vString]) (ps:=[.val (.ref a.f),.str p,.str q]) ((w4s hC).at O) r O ⟨_,_,rfl,rfl,hy⟩ (BindsTo.of_eq rfl) rfl Clo.nil rfl rfl fun L s₁ hL I r' hk => ?_
 rw [List.append_nil] at I
 obtain ⟨od,od2,hd,hk2,I₁⟩:=ha.tell I hL rfl rfl hk
 have nd:=ha.nd
 have hnu : ∀ b ∈ a.wr,b ∈ [a.ln,a.x,a.dx,L]:=fun b hb => by simp at hb ⊢;rcases hb with h | h | h <;> simp [h]
 have hl1 : l.length ≤ 1023:=by have:=h.size.len;simp at this;assumption
 -- push
 refine q0a (wpAny_Expr_any ?_ rfl rfl)
 refine q4j (ps:=[.str p,.str q]) (q0r hC) I₁.ok I₁.act (q1f hC nd hd rfl) (sF_acc nd) (w2w hC) (w2b hC) (q1y hk2 (by decide)) (q4l hC) (q0c (q0b rfl rfl) (q0c (q0b rfl rfl) q0g (fun _ => rfl)) (fun _ => rfl)) (fun s₂ vs O₂ k₂ y₂ => ?_)
 have I₂:=I₁.next O₂ k₂
 refine w7o hC (n:=n + 7) r' O₂ (q1x I₂.act nd hk2) y₂ (by (with_reducible refine nad ?_;decide)) _ _ fun v s₃ O₃ k₃ ha₃ _ => ?_
 obtain ⟨od3,hk3,I₃⟩:=q5h I₂ nd hnu O₃ k₃ ha₃
 have hz3 : AccSz (l ++ [(p,q)]) k:=h.size
 have hlnS : (lines.map PV.str).length ≤ sizeLine:=by rw [List.length_map];(with_reducible refine nad ?_;decide)
 -- the ends
 have out : ∀ {od6 : Obj} {lines' l' k' od4} {ρ : List (PySem.Str × PV)} {s₄ : Shared},In C (L :: mu) [a.ln,a.x,a.dx,L] (callEnv (q7d P) L q6k) ρ (sFmt a od6 lines' l' od4) s s₄ → FmtD od6 W c a.ln a.x → AccD od4 k' → chunk W c lines l k p q = (lines',l',k') → ∀ v,Sim s₄.heap mu .none v → Q v s₄:=fun {od6 lines' l' k' od4 ρ s₄} I₄ hd6 hk4 he v hv => by
  obtain ⟨h1,h2,h3⟩:=w5x I₄ hL ha.mem nd hd6 hk4
  refine kk v s₄ h1 h2 ?_ hv
  rw [he];exact h3
 obtain ⟨tW,hW⟩:=fd_max hd
 obtain ⟨tc,hc⟩:=fd_split hd
 by_cases hgt : W < ((accN (l ++ [(p,q)]) k : Nat) : Int)
 ·refine q0a (st_IfT I₃ ((show decide (W < ((accN (l ++ [(p,q)]) k : Nat) : Int)) = true from decide_eq_true hgt) ▸ q0i (q5m (n:=n + 4) hC r' (sF_x nd) (sF_dx nd) (FA.ne nd).2.2.2 hk3 hz3 (q0f (q0e hC rfl) rfl rfl) (q1f hC nd hd rfl) (fun _ => rfl)) (q3v (p:=.int W) (q2d hC) (q0b rfl rfl) (q4o nd) (q7t hC) hW rfl (fun h mu => ⟨tW,rfl⟩)) op_gt rfl) fun s₄ I₄ => ?_)
  have hm : (((l ++ [(p,q)]).length : Nat) : Int) - 1 = ((l.length : Nat) : Int):=by simp
  have hlen' : (l ++ [(p,q)]).length ≤ 1024:=h.size.len
  refine q0a (st_For (p:=.str ⟨#[c]⟩) (l:=[.str ⟨#[c]⟩]) I₄ r'.none (q3v (p:=.str ⟨#[c]⟩) (q2d hC) (q0b rfl rfl) (q4o nd) (q5x hC) hc rfl (fun h mu => ⟨tc,rfl⟩)) iter_str
   (fun i ρ σ => σ = sFmt a od lines (l ++ [(p,q)]) od3 ∧ ρ.lookup vSelf = some (.val (.ref a.f)) ∧ (i = 1 → q0v c (l ++ [(p,q)]) l.length = none))
   (fun f ρ σ _ => f = .brk ∧ σ = sFmt a od lines (l ++ [(p,q)]) od3 ∧ ρ.lookup vSelf = some (.val (.ref a.f)) ∧ ∃ j : Nat,q0v c (l ++ [(p,q)]) l.length = some j ∧ ρ.lookup vI = some (.int j)) ⟨rfl,rfl,fun h => by cases h⟩ ?turn ?kE ?kB)
  case turn =>
   intro i pv v ρ σ s₅ hp' hJ I₅ y
   refine q2a I₅ (by walk_at "sto") y fun s₆ I₆ => ?_
   refine q1r fun K hK => ?_
   obtain ⟨rfl,hself,_⟩:=hJ
   obtain ⟨rfl,rfl⟩ : i = 0 ∧ pv = .str ⟨#[c]⟩:=by
    match i,hp' with
    | 0,e => exact ⟨rfl,by simpa using e.symm⟩
   refine q0a (q3m (l:=rangeL l.length (-1) l.length) I₆ r'.none (w5s (q0f (q0e hC rfl) rfl rfl) (hm ▸ q0k (q9u (n:=n + 7) hC hp r' (sF_x nd) (sF_dx nd) (FA.ne nd).2.2.2 hk3 hlen' (q1f hC nd hd hself)) q0m op_sub) q0m (q2c q0m op_neg) (by (with_reducible refine nae ?_;decide)))
    (fun i ρ σ => σ = sFmt a od lines (l ++ [(p,q)]) od3 ∧ ρ.lookup vSelf = some (.val (.ref a.f)) ∧ ρ.lookup vCh = some (.str ⟨#[c]⟩) ∧ q0v c (l ++ [(p,q)]) l.length = q0v c (l ++ [(p,q)]) (l.length - i))
    (fun f ρ σ _ => f = .brk ∧ σ = sFmt a od lines (l ++ [(p,q)]) od3 ∧ ρ.lookup vSelf = some (.val (.ref a.f)) ∧ ∃ j : Nat,q0v c (l ++ [(p,q)]) l.length = some j ∧ ρ.lookup vI = some (.int j)) ⟨rfl,hself,rfl,rfl⟩ ?turn2 ?kE2 ?kB2)
   case kE2 =>
    rintro ρ σ s' ⟨rfl,hs,_,hsc⟩ I'
    refine q0a (wpAny_Continue (hK _ _ ⟨_,_,I',rfl,hs,fun _ => ?_⟩))
    rw [hsc]
    simp [rangeL,q0v]
   case kB2 =>
    rintro f ρ σ s' ⟨rfl,rfl,hs,j,hj,hi⟩ I'
    exact q0a (wpAny_Break (hK _ _ ⟨_,_,I',rfl,rfl,hs,j,hj,hi⟩))
   case turn2 =>
    intro i pv v ρ σ s₇ hp' hJ I₇ y
    refine q2a I₇ (by walk_at "sto") y fun s₈ I₈ => ?_
    refine q1r fun K₂ hK₂ => ?_
    obtain ⟨rfl,hself,hch,hsc⟩:=hJ
    have hi : i < l.length:=by simpa [rangeL] using (List.getElem?_eq_some_iff.mp hp').1
    obtain ⟨j,hj⟩ : ∃ j,l.length - i = j + 1:=⟨l.length - i - 1,by with_reducible exact nh9⟩
    have hpv : pv = .int ((j + 1 : Nat) : Int):=by
     simp [rangeL,hi] at hp'
     rw [← hp'];congr 1;lia
    subst hpv
    rw [hj] at hsc
    have hjl : j + 1 < (l ++ [(p,q)]).length:=by simp;with_reducible exact ni4
    obtain ⟨A1,hA1⟩ : ∃ a,(l ++ [(p,q)])[j + 1]? = some a:=⟨_,List.getElem?_eq_getElem hjl⟩
    obtain ⟨B1,hB1⟩ : ∃ a,(l ++ [(p,q)])[j]? = some a:=⟨_,List.getElem?_eq_getElem (by lia)⟩
    have hsA:=h.short A1 (List.mem_of_getElem? hA1)
    have hsB:=h.short B1 (List.mem_of_getElem? hB1)
    have hstep : hitAt c (l ++ [(p,q)]) (j + 1) = ((PySem.Txt.isspace ⟨#[c]⟩ && q1h c A1.1) || endsC c B1.2):=by
     unfold hitAt
     rw [hA1,show j + 1 - 1 = j from rfl,hB1]
    have hit : hitAt c (l ++ [(p,q)]) (j + 1) = true → q0v c (l ++ [(p,q)]) l.length = some (j + 1):=fun e => by
     rw [hsc];unfold q0v;rw [if_pos e]
    have nohit : hitAt c (l ++ [(p,q)]) (j + 1) = false → q0v c (l ++ [(p,q)]) l.length = q0v c (l ++ [(p,q)]) (l.length - (i + 1)):=fun e => by
     rw [hsc,show l.length - (i + 1) = j by with_reducible exact nb9]
     rw [q0v,if_neg (by rw [e];decide)]
    refine q0a (wpAny_mono (Q:=fun f s₉ => ∃ ρ',In C (L :: mu) [a.ln,a.x,a.dx,L] (callEnv (q7d P) L q6k) ρ' (sFmt a od lines (l ++ [(p,q)]) od3) s₇ s₉ ∧ ρ'.lookup vSelf = some (.val (.ref a.f)) ∧ ρ'.lookup vCh = some (.str ⟨#[c]⟩) ∧ ρ'.lookup vI = some (.int ((j + 1 : Nat) : Int)) ∧
     ((f = .next ∧ (PySem.Txt.isspace ⟨#[c]⟩ && q1h c A1.1) = false) ∨ (f = .brk ∧ (PySem.Txt.isspace ⟨#[c]⟩ && q1h c A1.1) = true))) (E:=fun _ _ => False) ?first (fun f s₉ hf => ?rest) fun _ _ e => e)
    case first =>
     cases hsp : PySem.Txt.isspace ⟨#[c]⟩ with
     | false =>
      exact st_IfN I₈ (hsp ▸ q1b (q6t (q0b hch rfl) (q5e rfl) q7s) q1l) fun s₉ I₉ => ⟨_,I₉,hself,hch,rfl,.inl ⟨rfl,rfl⟩⟩
     | true =>
      refine st_IfT I₈ (hsp ▸ q1b (q6t (q0b hch rfl) (q5e rfl) q7s) q1l) fun s₉ I₉ => ?_
      refine q0a (q0h (p:=.str A1.1) I₉ (by walk_at "sto") (w3y (j:=0) (l:=[.str A1.1,.str A1.2]) (q9r (j:=j + 1) (p:=pairPV A1) (q2b hC) (q1f hC nd hd hself) (sF_x nd) (sF_dx nd) (q0b rfl rfl) (by rw [List.getElem?_map,hA1];rfl) (by rw [List.length_map];(with_reducible refine nae ?_;decide))) q0m rfl (by simp)) fun s₁₀ I₁₀ => ?_)
      cases hst : q1h c A1.1 with
      | false => exact q0a (st_IfN I₁₀ (hst ▸ w1l rfl hch rfl rfl (by have:=hsA.1;simp [PySem.Str.length] at this;(with_reducible refine nae ?_;decide))) fun s₁₁ I₁₁ => wpAny_execs_nil ⟨_,I₁₁,hself,hch,rfl,.inl ⟨rfl,rfl⟩⟩)
      | true => exact q0a (st_IfT I₁₀ (hst ▸ w1l rfl hch rfl rfl (by have:=hsA.1;simp [PySem.Str.length] at this;(with_reducible refine nae ?_;decide))) fun s₁₁ I₁₁ => q0a (wpAny_Break ⟨_,I₁₁,hself,hch,rfl,.inr ⟨rfl,rfl⟩⟩))
    case rest =>
     obtain ⟨ρ',I₉,hs',hch',hi',⟨rfl,hno⟩ | ⟨rfl,hyes⟩⟩:=hf
     ·refine q0a (q0h (p:=.str B1.2) I₉ (by walk_at "sto") (w3y (j:=1) (l:=[.str B1.1,.str B1.2]) (q9r (j:=j) (p:=pairPV B1) (q2b hC) (q1f hC nd hd hs') (sF_x nd) (sF_dx nd) ((show ((j + 1 : Nat) : Int) - 1 = (j : Int) by lia) ▸ q0k (q0b hi' rfl) q0m op_sub) (by rw [List.getElem?_map,hB1];rfl) (by rw [List.length_map];(with_reducible refine nae ?_;decide))) q0m rfl (by simp)) fun s₁₀ I₁₀ => ?_)
      cases hst : endsC c B1.2 with
      | false => exact q0a (st_IfN I₁₀ (hst ▸ w4a rfl hch' rfl rfl (by have:=hsB.2;simp [PySem.Str.length] at this;(with_reducible refine nae ?_;decide))) fun s₁₁ I₁₁ => wpAny_execs_nil (hK₂ _ _ ⟨_,_,I₁₁,rfl,hs',hch',nohit (by rw [hstep,hno,hst];rfl)⟩))
      | true => exact q0a (st_IfT I₁₀ (hst ▸ w4a rfl hch' rfl rfl (by have:=hsB.2;simp [PySem.Str.length] at this;(with_reducible refine nae ?_;decide))) fun s₁₁ I₁₁ => q0a (wpAny_Break (hK₂ _ _ ⟨_,_,I₁₁,rfl,rfl,hs',j + 1,hit (by rw [hstep,hst];simp),hi'⟩)))
     ·exact hK₂ _ _ ⟨_,_,I₉,rfl,rfl,hs',j + 1,hit (by rw [hstep,hyes];rfl),hi'⟩
  case kB =>
   rintro f ρ σ s₅ ⟨rfl,rfl,hself,j,hj,hvi⟩ I₅
   obtain ⟨hj1,hj2⟩:=w8b hj
   have hjl : j ≤ (l ++ [(p,q)]).length:=by simp;lia
   refine q0a (wpAny_Assign_Name ?_ rfl)
   refine q4j (ps:=[.int j]) (q0r hC) I₅.ok I₅.act (q1f hC nd hd hself) (sF_acc nd) (w5p hC) (w5b hC) (q1y hk3 (by decide)) (q7f hC) (q0c (q0b hvi rfl) q0g (fun _ => rfl)) (fun s₆ vs O₆ k₆ y₆ => ?_)
   have I₆:=I₅.next O₆ k₆
   refine w6j hC (n:=n + 7) (i:=j) r' O₆ (q1x I₆.act nd hk3) y₆ hjl hlen' _ _ fun v s₇ O₇ k₇ ha₇ y₇ => ?_
   obtain ⟨od4,hk4,I₇⟩:=q5h I₆ nd hnu O₇ k₇ ha₇
   refine q3l (p:=.lst (((l ++ [(p,q)]).drop j).map pairPV)) I₇ (by walk_at "sto") y₇ fun s₈ I₈ _ => ?_
   refine q0a (q4z I₈ (sF_ln nd) (.head _) (q9t hC nd hd hself) (q0c (q7p (n:=n + 3) hC r' (sF_x nd) (sF_dx nd) (FA.ne nd).2.2.2 hk4 (hz3.sub (by rw [List.length_take];with_reducible exact Nat.min_le_right _ _) (fun p hp => List.mem_of_mem_take hp)) (fun p hp => h.short p (List.mem_of_mem_take hp)) (q0f (q0e hC rfl) rfl rfl) (q1f hC nd hd hself) (fun _ => rfl)) q0g (fun _ => rfl)) hlnS (fun s₁₀ I₁₀ => ?_) rfl)
   have I₁₁:=w7c I₁₀ nd
   refine q0a (wpAny_Expr_any ?_ rfl rfl)
   refine q4j (ps:=[.lst (((l ++ [(p,q)]).drop j).map pairPV)]) (q0r hC) I₁₁.ok I₁₁.act (q1f hC nd hd hself) (sF_acc nd) (w4g hC) (w3m hC) (q1y hk4 (by decide)) (q4t hC) (q0c (q0b rfl rfl) q0g (fun _ => rfl)) (fun s₁₂ vs O₁₂ k₁₂ y₁₂ => ?_)
   have I₁₂:=I₁₁.next O₁₂ k₁₂
   refine w9e hC (n:=n + 7) r' O₁₂ (q1x I₁₂.act nd hk4) y₁₂ (by rw [List.length_take,List.length_drop];lia) _ _ fun v s₁₃ O₁₃ k₁₃ ha₁₃ _ => ?_
   obtain ⟨od5,hk5,I₁₃⟩:=q5h I₁₂ nd hnu O₁₃ k₁₃ ha₁₃
   refine wpAny_execs_nil (wpAny_execs_nil (out I₁₃ hd hk5 ?_ .none rfl))
   unfold chunk
   rw [if_pos hgt,hj]
  case kE =>
   rintro ρ σ s₅ ⟨rfl,hself,hno⟩ I₅
   have hno':=hno rfl
   refine q0a (Assign_Tuple ?_ rfl rfl)
   refine q3i (q0r hC) I₅.ok I₅.act (q1f hC nd hd hself) (sF_acc nd) (z0r hC) (w9l hC) (q1y hk3 (by decide)) (q7g hC) (fun s₆ O₆ k₆ => ?_)
   have I₆:=I₅.next O₆ k₆
   refine w7p hC hp (n:=n + 6) r' O₆ (q1x I₆.act nd hk3) (by (with_reducible refine nae ?_;decide)) _ _ fun v s₇ O₇ k₇ ha₇ y₇ => ?_
   obtain ⟨od4,hk4,I₇⟩:=q5h I₆ nd hnu O₇ k₇ ha₇
   refine z2j (p:=.str p) (q:=.str q) I₇ r'.none (by walk_at "sto") (by walk_at "sto") y₇ fun s₈ I₈ => ?_
   have hk4':=hk4
   obtain ⟨hs4,t4,t4',m4,hod4⟩:=hk4'
   have hne0 : (p.length != 0) = !decide (p = sEmpty):=by
    by_cases e : p = sEmpty
    ·subst e;rfl
    ·have h1 : p.length ≠ 0:=fun q => e (q4c (by
      have : p.cps.toList = []:=by rw [← List.length_eq_zero_iff];simpa [PySem.Str.length] using q
      rw [this]))
     simp [e,h1]
   refine q0a (wpAny_mono (Q:=fun f s₉ => f = .next ∧ ∃ lines' l' k' od6 od7 p' ρ,In C (L :: mu) [a.ln,a.x,a.dx,L] (callEnv (q7d P) L q6k) ρ (sFmt a od6 lines' l' od7) s s₉ ∧ FmtD od6 W c a.ln a.x ∧ AccD od7 k' ∧ ρ.lookup vSelf = some (.val (.ref a.f)) ∧ ρ.lookup vFws = some (.str p') ∧ ρ.lookup ⟨#[112,97,114,116]⟩ = some (.str q) ∧ l'.length ≤ 1024 ∧ chunk W c lines l k p q = (lines',l' ++ [(p',q)],k')) (E:=fun _ _ => False) ?iff (fun f s₉ hf => ?rest) fun _ _ e => e)
   case iff =>
    by_cases hk0 : 0 < k
    ·refine st_IfT I₈ ((show decide (0 < k) = true from decide_eq_true hk0) ▸ q0i (q3v (p:=.int k) (v:=.int k t4') (q0r hC) (q1f hC nd hd hself) (sF_acc nd) (n_size hC) (by rw [hod4];rfl) rfl (fun h mu => ⟨t4',rfl⟩)) q0m op_gt rfl) fun s₉ I₉ => ?_
     refine q0a (wpAny_Expr_any ?_ rfl rfl)
     refine q3i (q2d hC) I₉.ok I₉.act (q0b hself rfl) (q4o nd) (w0j hC) (q9d hC) (w1p hd) (q4s hC) (fun s₁₀ O₁₀ k₁₀ => ?_)
     have I₁₀:=I₉.next O₁₀ k₁₀
     refine fmt_nl hC hp (n:=n) r' O₁₀ (FmtAt.ofAct I₁₀.act nd hd hk4) (h.nl hk0) (by (with_reducible refine nad ?_;decide)) _ _ fun v s₁₁ O₁₁ k₁₁ ha₁₁ _ => ?_
     obtain ⟨od6,od7,hd6,hk7,I₁₁⟩:=w2z I₁₀ nd hnu O₁₁ k₁₁ ha₁₁
     have hch : chunk W c lines l k p q = (q0w lines l k,[] ++ [(if p = sEmpty then sBlank else p,q)],0):=by
      unfold chunk
      rw [if_pos hgt,hno',if_pos hk0];rfl
     by_cases hpe : p = sEmpty
     ·rw [hpe] at hne0
      refine q0a (st_IfT I₁₁ (q8w (b:=false) (q1b (q0b (p:=.str p) rfl rfl) (by rw [hpe];exact q2z (by decide)))) fun s₁₂ I₁₂ => ?_)
      refine q0a (q0h (p:=.str sBlank) I₁₂ (by walk_at "sto") (by repeat' walk_at "pe") fun s₁₃ I₁₃ => wpAny_execs_nil (wpAny_execs_nil ⟨rfl,_,_,_,_,_,_,_,I₁₃,hd6,hk7,hself,rfl,rfl,by simp,by rw [hch,if_pos hpe]⟩))
     ·refine q0a (st_IfN I₁₁ ((show (!(p.length != 0)) = false by rw [hne0];simp [hpe]) ▸ q8w (q1b (q0b (p:=.str p) rfl rfl) (q2z (by have:=(h.short (p,q) (by simp)).1;simp [PySem.Str.length] at this;(with_reducible refine nae ?_;decide))))) fun s₁₂ I₁₂ => ?_)
      exact wpAny_execs_nil ⟨rfl,_,_,_,_,_,_,_,I₁₂,hd6,hk7,hself,rfl,rfl,by simp,by rw [hch,if_neg hpe]⟩
    ·refine st_IfN I₈ ((show decide (0 < k) = false from decide_eq_false hk0) ▸ q0i (q3v (p:=.int k) (v:=.int k t4') (q0r hC) (q1f hC nd hd hself) (sF_acc nd) (n_size hC) (by rw [hod4];rfl) rfl (fun h mu => ⟨t4',rfl⟩)) q0m op_gt rfl) fun s₉ I₉ => ?_
     exact ⟨rfl,_,_,_,_,_,_,_,I₉,hd,hk4,hself,rfl,rfl,by (with_reducible refine nad ?_;decide),by unfold chunk;rw [if_pos hgt,hno',if_neg hk0]⟩
   case rest =>
    obtain ⟨rfl,lines',l',k',od6,od7,p',ρ',I₉,hd6,hk7,hs',hf',hp',hl',hch⟩:=hf
    refine q0a (wpAny_Expr_any ?_ rfl rfl)
    refine q4j (ps:=[.str p',.str q]) (q0r hC) I₉.ok I₉.act (q1f hC nd hd6 hs') (sF_acc nd) (w2w hC) (w2b hC) (q1y hk7 (by decide)) (q4l hC) (q0c (q0b hf' rfl) (q0c (q0b hp' rfl) q0g (fun _ => rfl)) (fun _ => rfl)) (fun s₁₀ vs O₁₀ k₁₀ y₁₀ => ?_)
    have I₁₀:=I₉.next O₁₀ k₁₀
    refine w7o hC (n:=n + 7) r' O₁₀ (q1x I₁₀.act nd hk7) y₁₀ hl' _ _ fun v s₁₁ O₁₁ k₁₁ ha₁₁ _ => ?_
    obtain ⟨od8,hk8,I₁₁⟩:=q5h I₁₀ nd hnu O₁₁ k₁₁ ha₁₁
    exact q0a (wpAny_Return_none (out I₁₁ hd6 hk8 hch .none rfl))
 ·refine q0a (st_IfN I₃ ((show decide (W < ((accN (l ++ [(p,q)]) k : Nat) : Int)) = false from decide_eq_false hgt) ▸ q0i (q5m (n:=n + 4) hC r' (sF_x nd) (sF_dx nd) (FA.ne nd).2.2.2 hk3 hz3 (q0f (q0e hC rfl) rfl rfl) (q1f hC nd hd rfl) (fun _ => rfl)) (q3v (p:=.int W) (q2d hC) (q0b rfl rfl) (q4o nd) (q7t hC) hW rfl (fun h mu => ⟨tW,rfl⟩)) op_gt rfl) fun s₄ I₄ => wpAny_execs_nil (out I₄ hd hk3 (by unfold chunk;rw [if_neg hgt]) .none rfl))
end
end
section
open PySem PySem.W PySem.Calls PyProof.Rows
set_option maxHeartbeats 4000000
variable {prog : Program} {w : World} {P : Params} {C : Cfg}
section
variable {mu mu' nu : List Addr} {s₀ s s' : Shared} {env : Env} {ρ : List (PySem.Str × PV)} {σ σ' : List (Addr × MO)} {A : Around} {E : Value → Shared → Prop} {K : Frag}
private theorem Rm.underType {A : Around} {n : Nat} {Cl : Addr} {vals : List Value} (r : Rm A (n + 1)) : Rm (A.under (.builtin "type.__call__" ⟨.ref Cl :: vals,[]⟩)) n:=by
 have h1 : (A.under (.builtin "type.__call__" ⟨.ref Cl :: vals,[]⟩)).depth = A.depth + 1:=rfl
 have h2 : (A.under (.builtin "type.__call__" ⟨.ref Cl :: vals,[]⟩)).units = A.units + 1:=rfl
 exact ⟨r.none,by have:=r.depth;rw [h1];lia,by have:=r.units;rw [h2];lia⟩
private theorem z1h {f : Addr} {fd : FuncData} {body : List Stmt} {n : Nat} {names : List PySem.Str} {ps : List PV} {vs vs0 : List Value} {cc : Addr} {Q : Value → Shared → Prop} (D : DefAt s f fd body) (r : Rm A (n + 1)) (O : Ok C mu s)
  (hy : Sims s.heap mu ps vs) (hbind : BindsTo s fd ⟨vs0,[]⟩ (names.zip vs)) (hlen : names.length = ps.length) (hclo : fd.closure = [(("__class__" : PySem.Str),cc)]) (hcc : ∃ o,C.H.get? cc = some o)
  (hloc : names.all (fun x => fd.scope.names.lookup x == some .local && okName x) = true) (hcell : fd.scope.names.all (fun x => x.2 != .cell) = true)
  (h : ∀ L s₁,s.heap.get? L = none → In C (L :: mu) [L] (callEnv fd L f) (names.zip ps).reverse [] s s₁ → Rm (A.deeper (callEnv fd L f)) n → (∀ b o,s.heap.get? b = some o → s₁.heap.get? b = some o) →
   _root_.PySem.wpAt (model prog w) (A.deeper (callEnv fd L f)) (.func body (callEnv fd L f)) (execs body (callEnv fd L f)) (fun fl s' => match fl with | .ret v => Q v s' | _ => Q .none s') (fun _ _ => False) s₁) :
  codeAny (model prog w) A (.call (.ref f) ⟨vs0,[]⟩) (fun r s' => match r with | .ok (.ret v) => Q v s' | .ok _ => False | .error e => E e s') s:=by
 obtain ⟨o,hl,hd⟩:=D.look
 have hvl : vs.length = ps.length:=hy.length
 have hln : ∀ x ∈ names,fd.scope.names.lookup x = some .local ∧ okName x = true:=fun x hx => by
  have:=List.all_eq_true.mp hloc x hx
  rw [Bool.and_eq_true,beq_iff_eq] at this
  exact this
 have memρ : ∀ x p,(names.zip ps).reverse.lookup x = some p → x ∈ names:=fun x p e => (List.of_mem_zip (List.mem_reverse.mp (q0n e))).1
 have one : ∀ x c,fd.closure.lookup x = some c → x = ("__class__" : PySem.Str) ∧ c = cc:=fun x c e => by
  rw [hclo,List.lookup_cons] at e
  cases hx : x == ("__class__" : PySem.Str) with
  | true => rw [hx] at e;cases e;exact ⟨eq_of_beq hx,rfl⟩
  | false => rw [hx] at e;cases e
 refine ks_codeAny_call_defAt (binds:=names.zip vs) r.room hl hd O.nolimit D.code D.body hbind (fun x hx => by simpa using List.all_eq_true.mp hcell x hx)
  (fun x hx => (hln x.1 (List.of_mem_zip hx).1).1) (fun h₀ hns hk => ?_) D.co D.gen D.kind
 have hnone:=Ok.size_none s
 have hL : ∃ o,h₀.get? s.heap.objs.size = some o:=let ⟨o,_,_,ho,_⟩:=hns;⟨o,ho⟩
 obtain ⟨oL,hoL⟩:=hL
 have O₁ : Ok C (s.heap.objs.size :: mu) { s with heap:=h₀,toks:=s.toks + (names.zip vs).length }:=O.fresh hnone hoL hk (O.fresh' hnone).1
 have hy₁ : Sims h₀ (s.heap.objs.size :: mu) ps vs:=(hy.new hnone).keeps (fun _ _ z _ => z) fun b o _ _ e => hk b o e
 refine ks_wpAt_mono (h s.heap.objs.size _ hnone ⟨O₁,⟨fun _ _ e => (nomatch e),D.kind,D.gl,D.bi,.head _,⟨_,hns,fun x p e hlc => ?_⟩,fun x p e => ?_,fun x c hx hxl hc => ?_,fun x p e => ?_,fun x y c h1 h2 => ?_⟩,
  Kp.of_keep hk,fun a h => by simp at h;subst h;exact .head _,fun x hx => ?_⟩ (r.deeper _) hk) (fun fl s' hq => ?_) fun _ _ f => f.elim
 ·exact q2m names ps vs hlen hy₁ x p e
 ·exact .inl (hln x (memρ x p e)).1
 ·exact absurd (one x c hc).1 hx
 ·exact q1s (hln x (memρ x p e)).2
 ·rw [(one x c h1).1,(one y c h2).1]
 ·right
  have hx' : x ∈ fd.closure:=hx
  rw [hclo] at hx'
  simp at hx'
  rw [hx']
  exact hcc
 ·cases fl <;> exact hq
private theorem In.grows {as : List Addr} {τ : List (Addr × MO)} (I : In C mu nu env ρ σ s₀ s) (O' : Ok C (as ++ mu) s') (k : Kp C [] s s') (ha : ∀ a ∈ as,s.heap.get? a = none) (hm : ∀ b m,τ.lookup b = some m → b ∈ as ∧ MOAt (as ++ mu) s'.heap b m) :
  In C (as ++ mu) (as ++ nu) env ρ (τ ++ σ) s₀ s':=by
 have hamu : ∀ a ∈ as,a ∉ mu:=fun a h => (I.ok.fresh' (ha a h)).2
 have up : ∀ {p : PV} {v : Value},Sim s.heap mu p v → Sim s'.heap (as ++ mu) p v:=fun x => (x.news ha).keeps (fun _ _ z _ => z) fun b o hb hc e => k.keep b o (fun h => nomatch h) (I.ok.seqNotTab hc e) e
 have hown : ∀ a ∈ as,a ∉ q0j env:=fun a has q => by
  rcases List.mem_cons.mp q with q | q
  ·exact hamu a has (q ▸ I.act.loc)
  ·obtain ⟨x,h1,h2⟩:=List.mem_map.mp q
   rcases I.cells x h1 with h3 | ⟨o,h3⟩
   ·exact hamu a has (h2 ▸ h3)
   ·rw [h2,I.ok.unborn (ha a has)] at h3;cases h3
 have upM : ∀ {b : Addr} {m : MO},b ∈ mu → MOAt mu s.heap b m → MOAt (as ++ mu) s'.heap b m:=fun hb x => x.keeps (fun o e => k.keep _ o (fun h => nomatch h) (I.ok.notTab hb) e)
  (fun c o hc e q => by rcases List.mem_append.mp q with q | q;(rw [ha c q] at e;cases e);exact hc q) fun c o _ hc e => k.keep c o (fun h => nomatch h) (I.ok.seqNotTab hc e) e
 refine ⟨O',⟨fun b m' e => ?_,I.act.kind,I.act.gl,I.act.bi,List.mem_append_right _ I.act.loc,?_,I.act.kinds,fun x c hx hl hc => ?_,I.act.plain,I.act.inj⟩,(I.kp.trans (k.mono fun _ h => nomatch h)).mono fun _ h => List.mem_append_right _ h,fun b hb => ?_,fun x hx => (I.cells x hx).imp (List.mem_append_right _) id⟩
 ·rw [List.lookup_append] at e
  cases hb : τ.lookup b with
  | some m0 =>
   rw [hb] at e
   have hm0:=hm b m0 hb
   cases e
   exact ⟨List.mem_append_left _ hm0.1,hown b hm0.1,hm0.2⟩
  | none =>
   rw [hb] at e
   obtain ⟨h1,h2,h3⟩:=I.act.st b m' e
   exact ⟨List.mem_append_right _ h1,h2,upM h1 h3⟩
 ·obtain ⟨m,⟨o,es,ep,ho,r⟩,hv⟩:=I.act.ns
  exact ⟨m,⟨o,es,ep,k.keep _ _ (fun h => nomatch h) (I.ok.notTab I.act.loc) ho,r⟩,fun x p h1 h2 => let ⟨v,e,y⟩:=hv x p h1 h2;⟨v,e,up y⟩⟩
 ·obtain ⟨h1,h2,ov,⟨o,ho,hd⟩,h4⟩:=I.act.cell x c hx hl hc
  exact ⟨List.mem_append_right _ h1,h2,ov,⟨o,k.keep _ _ (fun h => nomatch h) (I.ok.notTab h1) ho,hd⟩,fun p hp => let ⟨v,e,y⟩:=h4 p hp;⟨v,e,up y⟩⟩
 ·rcases List.mem_append.mp hb with hb | hb
  ·exact List.mem_append_left _ hb
  ·exact List.mem_append_right _ (I.sub b hb)
private theorem keep_acc (hC : CfgOk P C) : keepIn C.K (.ref cAcc) = true:=by rw [hC.K];kernel_rfl
private theorem keep_fmt (hC : CfgOk P C) : keepIn C.K (.ref cFmt) = true:=by rw [hC.K];kernel_rfl
noncomputable def NewAcc (prog : Program) (w : World) (C : Cfg) (mu : List Addr) (A : Around) (t : Sem Value) (k : Int) (s : Shared) : Prop:=
 ∀ (Q : Value → Shared → Prop) (E : Value → Shared → Prop),(∀ x dx s',s.heap.get? x = none → s.heap.get? dx = none → Ok C (x :: dx :: mu) s' → Kp C [] s s' → AccAt (x :: dx :: mu) s'.heap x dx [] k → Q (.ref x) s') → wpAny (model prog w) A t Q E s
private theorem acc_new (hC : CfgOk P C) (hp : ProgOk prog) {n : Nat} {k : Int} {t0 : Tok} {vs : List Value} (r : Rm A (n + 3)) (O : Ok C mu s)
  (hb : ∀ (x : Addr) s₁ mu,Ok C mu s₁ → BindsTo s₁ (q4i P) ⟨.ref x :: vs,[]⟩ ([vSelf,(⟨#[105,110,105,116,105,97,108,95,115,105,122,101]⟩ : PySem.Str)].zip [.ref x,.int k t0])) :
  NewAcc prog w C mu A (call (.ref cAcc) vs) k s:=by
 intro Q E kk
 obtain ⟨hh,g,dr,tk,os⟩:=s
 have X : C.K.In hh:=O.K
 refine wpAny_call (make_L (z0q X (mk_acc hC)) (looks_findIn X (m_a_init hC)) (fun self => bind_fn X self (z2x hC)) ?_)
 generalize hdx : hh.objs.size = dx
 have hdn : hh.get? dx = none:=hdx ▸ Heap.get?_none_of_le (Nat.le_refl _)
 have hxn : hh.get? (dx + 1) = none:=hdx ▸ Heap.get?_none_of_le (Nat.le_succ _)
 have esz : (hh.push emptyDict).objs.size = dx + 1:=by rw [Heap.size_push,hdx]
 have hd1 : ((hh.push emptyDict).push (subNew cAcc dx)).get? dx = some emptyDict:=Heap.get?_push_of_some _ (hdx ▸ Heap.get?_push_size _ rfl)
 have hx1 : ((hh.push emptyDict).push (subNew cAcc dx)).get? (dx + 1) = some (subNew cAcc dx):=by rw [← esz];exact Heap.get?_push_size _ rfl
 have k1 : ∀ b o,hh.get? b = some o → ((hh.push emptyDict).push (subNew cAcc dx)).get? b = some o:=fun b o e => Heap.get?_push_of_some _ (Heap.get?_push_of_some _ e)
 have O₁ : Ok C mu ⟨(hh.push emptyDict).push (subNew cAcc dx),g,dr,tk,os⟩:=O.keep (tk:=tk) k1
 have hCd : C.H.get? dx = none:=O.unborn hdn
 have hCx : C.H.get? (dx + 1) = none:=O.unborn hxn
 have O₂ : Ok C ((dx + 1) :: dx :: mu) ⟨(hh.push emptyDict).push (subNew cAcc dx),g,dr,tk,os⟩:=(O₁.add' hCd hd1 (fun _ q => by cases q)).add' hCx hx1 (fun _ q => by cases q)
 have own : ∀ {L : Addr} {b : Addr},hh.get? L = none ∧ L ≠ dx ∧ L ≠ dx + 1 → (b = dx ∨ b = dx + 1) → b ∉ q0j (callEnv (q4i P) L q5u):=fun {L b} hL hb q => by
  rcases List.mem_cons.mp q with e | q
  ·have e' : b = L:=e
   rcases hb with h | h
   ·exact hL.2.1 (e' ▸ h)
   ·exact hL.2.2 (e' ▸ h)
  ·have hc : (callEnv (q4i P) L q5u).cells = [(("__class__" : PySem.Str),q8c)]:=(q7m hC hp).clo
   rw [hc] at q
   simp at q
   obtain ⟨o,e⟩:=q2f hC O₂
   rw [← q] at e
   rcases hb with h | h
   ·rw [h,hCd] at e;cases e
   ·rw [h,hCx] at e;cases e
 refine codeAny_mono (z1h (Q:=fun v s' => v = .none ∧ Q (.ref (dx + 1)) s') (E:=E) (names:=[vSelf,(⟨#[105,110,105,116,105,97,108,95,115,105,122,101]⟩ : PySem.Str)]) (ps:=[.val (.ref (dx + 1)),.int k]) ((w8w hC).at O₂) (n:=n + 1) r.underType O₂ ⟨_,_,rfl,rfl,_,_,rfl,⟨_,rfl⟩,rfl⟩ (hb _ _ _ O₂) rfl (q7m hC hp).clo (q2f hC O₂) rfl rfl fun L s₁ hL I r' hk => ?_) (fun r s' z => ?_)
 ·have hL0 : ((hh.push emptyDict).push (subNew cAcc dx)).get? L = none:=hL
  have hL1 : hh.get? L = none:=by
   cases q : hh.get? L with
   | none => rfl
   | some o => rw [k1 _ _ q] at hL0;cases hL0
  have hL' : hh.get? L = none ∧ L ≠ dx ∧ L ≠ dx + 1:=⟨hL1,fun q => (by rw [q,hd1] at hL0;cases hL0),fun q => (by rw [q,hx1] at hL0;cases hL0)⟩
  have hne : dx + 1 ≠ dx:=Nat.succ_ne_self _
  have hdx1 : (dx == dx + 1) = false:=by simp
  have hxd1 : (dx + 1 == dx) = false:=by simp
  have I₁:=I.know (d:=dx) (m:=.raw (dictOf [] 0)) (.tail _ (.tail _ (.head _))) (own hL' (.inl rfl)) (hk _ _ hd1)
  have I₂:=I₁.know (d:=dx + 1) (m:=.seq (.ref cAcc) (some dx) []) (.tail _ (.head _)) (own hL' (.inr rfl)) ⟨[],0,hk _ _ hx1,rfl⟩
  have l1 : ((dx + 1,MO.seq (.ref cAcc) (some dx) []) :: [(dx,MO.raw (dictOf [] 0))]).lookup (dx + 1) = some (.seq (.ref cAcc) (some dx) []):=by simp
  have l2 : ((dx + 1,MO.seq (.ref cAcc) (some dx) []) :: [(dx,MO.raw (dictOf [] 0))]).lookup dx = some (.raw (dictOf [] 0)):=by simp [List.lookup_cons,hdx1]
  refine ks_wpAt_execs_cons (wpAt_of_wpAny (q3g (p:=.int k) (es:=[]) (n:=0) (q0r hC) I₂ (q0b rfl rfl) (q0b rfl rfl) ⟨l2,.inl ⟨[],l1⟩⟩ (.tail _ (.head _)) (n_size hC) rfl (by decide) (fun v hs t s₃ y I₃ => ?_)))
  obtain ⟨tv,rfl⟩:=y
  have l3 : ((dx,MO.raw (dictOf (putL (⟨#[95,105,110,105,116,105,97,108,95,115,105,122,101]⟩ : PySem.Str) hs (.str ⟨#[95,105,110,105,116,105,97,108,95,115,105,122,101]⟩ t) (.int k tv) []) (putN (⟨#[95,105,110,105,116,105,97,108,95,115,105,122,101]⟩ : PySem.Str) [] 0))) :: (dx + 1,MO.seq (.ref cAcc) (some dx) []) :: [(dx,MO.raw (dictOf [] 0))]).lookup (dx + 1) = some (.seq (.ref cAcc) (some dx) []):=by simp [List.lookup_cons,hxd1]
  have l4:=List.lookup_cons_self (k:=dx) (b:=MO.raw (dictOf (putL (⟨#[95,105,110,105,116,105,97,108,95,115,105,122,101]⟩ : PySem.Str) hs (.str ⟨#[95,105,110,105,116,105,97,108,95,115,105,122,101]⟩ t) (.int k tv) []) (putN (⟨#[95,105,110,105,116,105,97,108,95,115,105,122,101]⟩ : PySem.Str) [] 0))) (es:=(dx + 1,MO.seq (.ref cAcc) (some dx) []) :: [(dx,MO.raw (dictOf [] 0))])
  have hcls : dx + 1 ≠ cAcc:=fun q => by
   obtain ⟨o,e⟩ : ∃ o,C.K.lookup cAcc = some o:=by
    obtain ⟨o,e,_⟩:=w6f (q0r hC).hc
    exact ⟨o,e⟩
   rw [q,O.kin _ _ e] at hCx;cases hCx
  refine ks_wpAt_execs_cons (ks_wpAt_Expr_any (w2c (q7m hC hp) I₃ rfl l3 l4 (q0r hC).hc (l:=[.type "list",.type "object"]) (by rw [w2t];rfl) hcls (al_init hC) w9j q6p.lookup rfl
   (fun h g d t os ox A Q E X hx hc hq => z1z hx hc (looks_mroIn X (q2b hC).lst) hq) fun b s₄ I₄ hb => ?_))
  obtain ⟨vs',m,hox,hvs,IA⟩:=I₄.act.inst l3 l4
  cases (show vs' = [] from hvs)
  obtain ⟨h4,g4,d4,t4,o4⟩:=s₄
  refine q8d (.inr rfl) hb (fun A Q E hq => ck_init (dx + 1) A Q E _ hq) PySem.F.slot_list_init.plain PySem.F.entry_list_init (sub_init (.ref cAcc) (some dx) (dx + 1) m) ⟨hox,?_⟩
  have hsb : Heap.SameBut (dx + 1) h4 (h4.update (dx + 1) (Obj.mapSeq fun _ => #[])):=Heap.SameBut.update ..
  obtain ⟨m',hm'⟩:=w0h (.ref cAcc) (some dx) #[] m (fun _ => #[])
  have I₅:=I₄.mut (tk:=t4) (m':=.seq (.ref cAcc) (some dx) []) l3 (.head _) hsb.extBut ⟨[],m',by rw [Heap.get?_update_self _ hox (by rw [hm'];rfl),hm'],rfl⟩
  refine wpAt_of_wpAny (wpAny_execs_nil ⟨rfl,?_⟩)
  obtain ⟨q1,q2,q3⟩:=I₅.act.st (dx + 1) _ List.lookup_cons_self
  obtain ⟨q4,q5,q6⟩:=I₅.act.st dx _ (by rw [List.lookup_cons,hdx1];exact l4)
  refine kk (dx + 1) dx _ hxn hdn (I₅.ok.sub fun a h => .tail _ h) ⟨fun b o _ ht e => ?_⟩ ⟨.head _,.tail _ (.head _),hne,q3.keeps (fun _ e => e) (fun _ _ h _ q => h (.tail _ q)) fun _ _ _ _ e => e,_,⟨hs,t,tv,_,rfl⟩,q6⟩
  refine I₅.kp.keep b o (fun q => ?_) ht (k1 b o e)
  simp only [List.mem_cons,List.not_mem_nil,or_false] at q
  have e' : hh.get? b = some o:=e
  rcases q with q | q | q
  ·rw [q,hxn] at e';cases e'
  ·rw [q,hdn] at e';cases e'
  ·rw [q,hL1] at e';cases e'
 ·rcases r with e | (v | _ | _ | _) <;> exact z
end
end
section
set_option tactic.hygienic true
open PySem PySem.W PySem.Calls PyProof.Rows
set_option maxHeartbeats 4000000
variable {prog : Program} {w : World} {P : Params} {C : Cfg}
section
variable {mu mu' nu : List Addr} {s₀ s s' : Shared} {env : Env} {ρ : List (PySem.Str × PV)} {σ σ' : List (Addr × MO)} {A : Around} {E : Value → Shared → Prop} {K : Frag} {x dx Cl : Addr} {cd : ClassData}
private theorem q9j {o e : Expr} {name : PySem.Str} {opos pos : Pos} {es : List DictEntry} {n : Nat} {Q : Flow → Shared → Prop} (k : ClsOk C.K Cl cd) (_I : In C mu nu env ρ σ s₀ s)
  (he : wpAny (model prog w) A (eval e env) (fun v s₁ => ∃ mu' nu' σ',In C mu' nu' env ρ σ' s₀ s₁ ∧ SInst σ' x dx Cl (dictOf es n) ∧ dx ∈ nu' ∧
   ∀ hs t s',In C mu' nu' env ρ ((dx,.raw (dictOf (putL name hs (.str name t) v es) (putN name es n))) :: σ') s₀ s' → Q .next s') E s)
  (ho : ∀ mu' σ',PurE prog w C mu' A env ρ σ' o (.val (.ref x)))
  (ht : findIn C.K (.ref Cl) name = some none) (hl : (getL name es).isSome = true) (hz : es.length + 1 ≤ 1000)
  (hsw : autoParam (swapsWith e (some (.Attribute o name opos)) pos.line env = pure false) tR) : wpAny (model prog w) A (exec (.Assign [.Attribute o name opos] e pos) env) Q E s:=by
 refine plainObj_wpAny_Assign_Attribute ?_ hsw
 refine wpAny_mono he (fun v s₁ h => ?_) fun _ _ x => x
 obtain ⟨mu',nu',σ',I₁,hi,hdn,kk⟩:=h
 refine ho mu' σ' s₁ I₁.ok I₁.act _ _ fun ov s₂ O₂ k₂ y₂ => ?_
 cases (show ov = .ref x from y₂)
 have I₂:=I₁.next O₂ k₂
 obtain ⟨ox,IA,hd⟩:=hi.at I₂.act
 have hdm:=(I₂.act.st dx _ hi.1).1
 refine q8k I₂.ok.K IA hd k.hc k.st k.dict k.sa ht hl (Nat.le_trans (w2l ..) hz) fun h' e1 e2 => ?_
 exact kk _ _ _ (I₂.mut (tk:=s₂.toks + 2) hi.1 hdn e2 e1)
private theorem In.dedup {b : Addr} {m m' : MO} (I : In C mu nu env ρ ((b,m') :: (b,m) :: σ) s₀ s) : In C mu nu env ρ ((b,m') :: σ) s₀ s:=
 I.forget (fun _ _ h => h) fun c q e => by
  rw [List.lookup_cons] at e ⊢
  cases h : c == b with
  | true => rw [h] at e;exact e
  | false => rw [h] at e;show List.lookup c ((b,m) :: σ) = _;rw [List.lookup_cons,h];exact e
private theorem w6a (hC : CfgOk P C) (hp : ProgOk prog) {n : Nat} {y : PySem.Str} {py pos : Pos} {e : Expr} {k : Int} {Q : Value → Shared → Prop} (r : Rm A (n + 3)) (I : In C mu nu env ρ σ s₀ s)
  (hf : PurE prog w C mu A env ρ σ (.Name y py) (.val (.ref cAcc))) (hk : PurE prog w C mu A env ρ σ e (.int k))
  (h : ∀ x dx od s',s.heap.get? x = none → s.heap.get? dx = none → x ≠ dx → AccD od k → In C (x :: dx :: mu) (x :: dx :: nu) env ρ ((x,.seq (.ref cAcc) (some dx) []) :: (dx,.raw od) :: σ) s₀ s' → Q (.ref x) s')
  (he : autoParam (∀ env,starEach [e] env = (false,eval e env) :: starEach [] env) tR) : wpAny (model prog w) A (eval (.Call (.Name y py) [e] [] pos) env) Q E s:=by
 refine Call_ (hf s I.ok I.act _ _ fun v s₁ O₁ k₁ y₁ => ?_)
 cases (show v = .ref cAcc from y₁)
 refine callWith_of (P:=C.K.In) ?_ (keeps_K (keep_acc hC)) ?_
 ·rw [he];rfl
 ·rw [he]
  have hargs:=q0c hk q0g he pos s₁ O₁ (I.act.kp I.ok k₁)
  rw [he] at hargs
  refine evalArgs_plain (hargs _ _ fun vs s₂ O₂ k₂ y₂ => ⟨O₂.K,?_⟩)
  obtain ⟨v,rr,rfl,⟨t0,rfl⟩,hr⟩:=y₂
  cases (show rr = [] from hr)
  refine acc_new hC hp r O₂ (t0:=t0) (fun x s₁ mu O => binds_K (T:=w7i) O.K rfl (z1l hC) rfl rfl rfl) _ _ fun x dx s₃ hx hdx O₃ k₃ ha => ?_
  have kk:=k₁.trans k₂
  have hx':=q9b O₂ kk hx
  have hdx':=q9b O₂ kk hdx
  obtain ⟨od,hod,hd⟩:=ha.dict
  refine h x dx od s₃ hx' hdx' ha.ne hod (I.grows (as:=[x,dx]) (τ:=[(x,.seq (.ref cAcc) (some dx) []),(dx,.raw od)]) O₃ (kk.trans k₃) (fun a q => ?_) fun b m q => ?_)
  ·simp at q
   rcases q with q | q <;> rw [q] <;> assumption
  ·simp only [List.lookup_cons,List.lookup_nil] at q
   split at q
   ·rename_i hb;cases q;rw [eq_of_beq hb];exact ⟨.head _,ha.at_⟩
   ·split at q
    ·rename_i hb;cases q;rw [eq_of_beq hb];exact ⟨.tail _ (.head _),hd⟩
    ·cases q
private theorem FmtAt.sub {h : Heap} {a : FA} {W k : Int} {c : Nat} {lines : List PySem.Str} {l : List (PySem.Str × PySem.Str)} (F : FmtAt mu h a W c lines l k) (hs : ∀ b ∈ mu',b ∈ mu) (hm : ∀ b ∈ a.all,b ∈ mu') : FmtAt mu' h a W c lines l k:=
 ⟨hm,F.nd,F.inst,F.dict,F.lns.keeps (fun _ e => e) (fun _ _ z _ q => z (hs _ q)) fun _ _ _ _ e => e,hm _ (by simp),hm _ (by simp),F.acc.ne,F.acc.at_.keeps (fun _ e => e) (fun _ _ z _ q => z (hs _ q)) fun _ _ _ _ e => e,F.acc.dict⟩
noncomputable def NewFmt (prog : Program) (w : World) (C : Cfg) (mu : List Addr) (A : Around) (t : Sem Value) (W : Int) (c : Nat) (k : Int) (s : Shared) : Prop:=
 ∀ (Q : Value → Shared → Prop) (E : Value → Shared → Prop),(∀ (a : FA) s',(∀ b ∈ a.all,s.heap.get? b = none) → Ok C (a.all ++ mu) s' → Kp C [] s s' → FmtAt (a.all ++ mu) s'.heap a W c [] [] k → Q (.ref a.f) s') → wpAny (model prog w) A t Q E s
noncomputable abbrev fE1 (h : Int) (t : Nat) (W : Int) (u : Nat) : DictEntry:=⟨h,.str (⟨#[95,109,97,120,108,101,110]⟩ : PySem.Str) t,.int W u⟩
noncomputable abbrev fE2 (h : Int) (t u : Nat) : DictEntry:=⟨h,.str (⟨#[95,99,111,110,116,105,110,117,97,116,105,111,110,95,119,115]⟩ : PySem.Str) t,.str sBlank u⟩
noncomputable abbrev fE3 (h : Int) (t u : Nat) : DictEntry:=⟨h,.str (⟨#[95,99,111,110,116,105,110,117,97,116,105,111,110,95,119,115,95,108,101,110]⟩ : PySem.Str) t,.int 1 u⟩
noncomputable abbrev fE4 (h : Int) (t : Nat) (c u : Nat) : DictEntry:=⟨h,.str (⟨#[95,115,112,108,105,116,99,104,97,114,115]⟩ : PySem.Str) t,.str ⟨#[c]⟩ u⟩
noncomputable abbrev fE5 (h : Int) (t : Nat) (ln : Addr) : DictEntry:=⟨h,.str (⟨#[95,108,105,110,101,115]⟩ : PySem.Str) t,.ref ln⟩
noncomputable abbrev fE6 (h : Int) (t : Nat) (x : Addr) : DictEntry:=⟨h,.str (⟨#[95,99,117,114,114,101,110,116,95,108,105,110,101]⟩ : PySem.Str) t,.ref x⟩
private theorem fmt_new (hC : CfgOk P C) (hp : ProgOk prog) {n : Nat} {k W : Int} {c : Nat} {vs : List Value} (r : Rm A (n + 6)) (O : Ok C mu s) (hy : Sims s.heap mu [.int k,.int W,.str sBlank,.str ⟨#[c]⟩] vs) :
  NewFmt prog w C mu A (call (.ref cFmt) vs) W c k s:=by
 intro Q E kk
 have hlen:=hy.length
 obtain ⟨v₁,v₂,v₃,v₄,rfl⟩ : ∃ v₁ v₂ v₃ v₄,vs = [v₁,v₂,v₃,v₄]:=by
  exact len4 hlen
 obtain ⟨hh,g,dr,tk,os⟩:=s
 have X : C.K.In hh:=O.K
 refine wpAny_call (make_core (makes_of X (mk_fmt hC)) (looks_findIn X (m_f_init hC)) (fun self => bind_fn X self (z2u hC)) (.inl rfl) ?_)
 generalize hdx : hh.objs.size = df
 have hdn : hh.get? df = none:=hdx ▸ Heap.get?_none_of_le (Nat.le_refl _)
 have hxn : hh.get? (df + 1) = none:=hdx ▸ Heap.get?_none_of_le (Nat.le_succ _)
 have esz : (hh.push emptyDict).objs.size = df + 1:=by rw [Heap.size_push,hdx]
 have hd1 : ((hh.push emptyDict).push (instObj cFmt df)).get? df = some emptyDict:=Heap.get?_push_of_some _ (hdx ▸ Heap.get?_push_size _ rfl)
 have hx1 : ((hh.push emptyDict).push (instObj cFmt df)).get? (df + 1) = some (instObj cFmt df):=by rw [← esz];exact Heap.get?_push_size _ rfl
 have k1 : ∀ b o,hh.get? b = some o → ((hh.push emptyDict).push (instObj cFmt df)).get? b = some o:=fun b o e => Heap.get?_push_of_some _ (Heap.get?_push_of_some _ e)
 have O₁ : Ok C mu ⟨(hh.push emptyDict).push (instObj cFmt df),g,dr,tk,os⟩:=O.keep (tk:=tk) k1
 have hCd : C.H.get? df = none:=O.unborn hdn
 have hCx : C.H.get? (df + 1) = none:=O.unborn hxn
 have O₂ : Ok C ((df + 1) :: df :: mu) ⟨(hh.push emptyDict).push (instObj cFmt df),g,dr,tk,os⟩:=(O₁.add' hCd hd1 (fun _ q => by cases q)).add' hCx hx1 (fun _ q => by cases q)
 have hy₂ : Sims ((hh.push emptyDict).push (instObj cFmt df)) ((df + 1) :: df :: mu) [.val (.ref (df + 1)),.int k,.int W,.str sBlank,.str ⟨#[c]⟩] [.ref (df + 1),v₁,v₂,v₃,v₄]:=
  ⟨_,_,rfl,rfl,((hy.new (a:=df) hdn).new (a:=df + 1) hxn).keeps (fun _ _ z _ => z) fun b o _ _ e => k1 b o e⟩
 refine codeAny_mono (z1i (ρc:=[]) (Q:=fun v s' => v = .none ∧ Q (.ref (df + 1)) s') (E:=E) (names:=[vSelf,(⟨#[104,101,97,100,101,114,108,101,110]⟩ : PySem.Str),(⟨#[109,97,120,108,101,110]⟩ : PySem.Str),(⟨#[99,111,110,116,105,110,117,97,116,105,111,110,95,119,115]⟩ : PySem.Str),(⟨#[115,112,108,105,116,99,104,97,114,115]⟩ : PySem.Str)]) ((w8v hC).at O₂) (n:=n + 4) r.underType O₂ hy₂ (BindsTo.of_eq rfl) rfl Clo.nil rfl rfl fun L s₁ hL I r' hk => ?_) (fun r s' z => ?_)
 ·rw [List.append_nil] at I
  have hL0 : ((hh.push emptyDict).push (instObj cFmt df)).get? L = none:=hL
  have hL1 : hh.get? L = none:=by
   cases q : hh.get? L with
   | none => rfl
   | some o => rw [k1 _ _ q] at hL0;cases hL0
  have hLd : L ≠ df:=fun q => by rw [q,hd1] at hL0;cases hL0
  have hLx : L ≠ df + 1:=fun q => by rw [q,hx1] at hL0;cases hL0
  have own : ∀ b,b ≠ L → b ∉ q0j (callEnv (q2w P) L q3f):=fun b hb q => by
   rcases List.mem_cons.mp q with e | q
   ·exact hb e
   ·cases q
  have I₁:=I.know (d:=df + 1) (m:=.raw (instObj cFmt df)) (.tail _ (.head _)) (own _ (Ne.symm hLx)) (hk _ _ hx1)
  have I₂:=I₁.know (d:=df) (m:=.raw (dictOf [] 0)) (.tail _ (.tail _ (.head _))) (own _ (Ne.symm hLd)) (hk _ _ hd1)
  have hxd1 : (df + 1 == df) = false:=by simp
  have hinst : ∀ {od : Obj} {τ : List (Addr × MO)},SInst ((df,.raw od) :: (df + 1,.raw (instObj cFmt df)) :: τ) (df + 1) df cFmt od:=⟨List.lookup_cons_self,.inr (by simp [List.lookup_cons,hxd1])⟩
  refine q0a (q3g (p:=.int W) (es:=[]) (n:=0) (q2d hC) I₂ (q0b rfl rfl) (q0b rfl rfl) hinst (.head _) (q7t hC) rfl (Nat.le_of_ble_eq_true rfl) (fun v₁ h₁ t₁ s₃ y₁ J₁ => ?_))
  obtain ⟨u₁,rfl⟩:=y₁
  have I₃ : In C (L :: (df + 1) :: df :: mu) [df,df + 1,L] (callEnv (q2w P) L q3f) _ ((df,.raw (dictOf [(fE1 h₁ t₁ W u₁)] 1)) :: [(df + 1,.raw (instObj cFmt df))]) _ s₃:=J₁.dedup
  refine q0a (q3g (p:=.str sBlank) (es:=[(fE1 h₁ t₁ W u₁)]) (n:=1) (q2d hC) I₃ (q0b rfl rfl) (q0b rfl rfl) hinst (.head _) (q6i hC) rfl (Nat.le_of_ble_eq_true rfl) (fun v₂ h₂ t₂ s₄ y₂ J₂ => ?_))
  obtain ⟨u₂,rfl⟩:=y₂
  have I₄ : In C (L :: (df + 1) :: df :: mu) [df,df + 1,L] (callEnv (q2w P) L q3f) _ ((df,.raw (dictOf [(fE1 h₁ t₁ W u₁),(fE2 h₂ t₂ u₂)] 2)) :: [(df + 1,.raw (instObj cFmt df))]) _ s₄:=J₂.dedup
  refine q0a (q3g (p:=.int 1) (es:=[(fE1 h₁ t₁ W u₁),(fE2 h₂ t₂ u₂)]) (n:=2) (q2d hC) I₄ (q1a (z:=.int 1) (q0f (q0e hC rfl) rfl rfl) (q0c (q0b (p:=.str sBlank) rfl rfl) q0g (fun _ => rfl)) (q5n (by decide)) (fun _ => rfl) rfl) (q0b rfl rfl) hinst (.head _) (q4p hC) rfl (Nat.le_of_ble_eq_true rfl) (fun v₃ h₃ t₃ s₅ y₃ J₃ => ?_))
  obtain ⟨u₃,rfl⟩:=y₃
  have I₅ : In C (L :: (df + 1) :: df :: mu) [df,df + 1,L] (callEnv (q2w P) L q3f) _ ((df,.raw (dictOf [(fE1 h₁ t₁ W u₁),(fE2 h₂ t₂ u₂),(fE3 h₃ t₃ u₃)] 3)) :: [(df + 1,.raw (instObj cFmt df))]) _ s₅:=J₃.dedup
  refine q0a (q3g (p:=.str ⟨#[c]⟩) (es:=[(fE1 h₁ t₁ W u₁),(fE2 h₂ t₂ u₂),(fE3 h₃ t₃ u₃)]) (n:=3) (q2d hC) I₅ (q0b rfl rfl) (q0b rfl rfl) hinst (.head _) (q5x hC) rfl (Nat.le_of_ble_eq_true rfl) (fun v₄ h₄ t₄ s₆ y₄ J₄ => ?_))
  obtain ⟨u₄,rfl⟩:=y₄
  have I₆ : In C (L :: (df + 1) :: df :: mu) [df,df + 1,L] (callEnv (q2w P) L q3f) _ ((df,.raw (dictOf [(fE1 h₁ t₁ W u₁),(fE2 h₂ t₂ u₂),(fE3 h₃ t₃ u₃),(fE4 h₄ t₄ c u₄)] 4)) :: [(df + 1,.raw (instObj cFmt df))]) _ s₆:=J₄.dedup
  refine q0a (q9j (x:=df + 1) (dx:=df) (es:=[(fE1 h₁ t₁ W u₁),(fE2 h₂ t₂ u₂),(fE3 h₃ t₃ u₃),(fE4 h₄ t₄ c u₄)]) (n:=4) (q2d hC) I₆ ?_ (fun mu' σ' => q0b rfl rfl) (w4d hC) rfl (Nat.le_of_ble_eq_true rfl))
  refine q6w (ps:=[]) q0g (Nat.zero_le _) _ I₆.ok I₆.act _ _ fun ln s₇ O₇ k₇ hln hm => ?_
  obtain ⟨ol,hol,hr⟩:=Mlst.notRec hm
  have I₇:=I₆.grow O₇ k₇ hln hm hol hr
  have nln:=(I₆.ok.fresh' hln).2
  simp only [List.mem_cons,not_or] at nln
  obtain ⟨nl1,nl2,nl3,nl4⟩:=nln
  have b1 : (df == ln) = false:=beqF nl3
  have b2 : (df + 1 == ln) = false:=beqF nl2
  refine ⟨_,_,_,I₇,⟨by simp [List.lookup_cons,b1],.inr (by simp [List.lookup_cons,b2,hxd1])⟩,.tail _ (.head _),fun h₅ t₅ s₈ J₅' => ?_⟩
  have J₅ : In C (ln :: L :: (df + 1) :: df :: mu) (ln :: [df,df + 1,L]) (callEnv (q2w P) L q3f) _ ((df,.raw (dictOf [(fE1 h₁ t₁ W u₁),(fE2 h₂ t₂ u₂),(fE3 h₃ t₃ u₃),(fE4 h₄ t₄ c u₄),(fE5 h₅ t₅ ln)] 5)) :: (ln,Mlst []) :: [(df,.raw (dictOf [(fE1 h₁ t₁ W u₁),(fE2 h₂ t₂ u₂),(fE3 h₃ t₃ u₃),(fE4 h₄ t₄ c u₄)] 4)),(df + 1,.raw (instObj cFmt df))]) _ s₈:=J₅'
  refine q0a (q9j (x:=df + 1) (dx:=df) (es:=[(fE1 h₁ t₁ W u₁),(fE2 h₂ t₂ u₂),(fE3 h₃ t₃ u₃),(fE4 h₄ t₄ c u₄),(fE5 h₅ t₅ ln)]) (n:=5) (q2d hC) J₅ ?_ (fun mu' σ' => q0b rfl rfl) (q4w hC) rfl (Nat.le_of_ble_eq_true rfl))
  refine w6a hC hp (n:=n + 1) r' J₅ (q0f (q0e hC rfl) rfl rfl) (q0b rfl rfl) (fun x dx od s₉ hx hdx hne hod I₉ => ?_)
  have nx:=(J₅.ok.fresh' hx).2
  have ndx:=(J₅.ok.fresh' hdx).2
  simp only [List.mem_cons,not_or] at nx ndx
  obtain ⟨nx0,nx1,nx2,nx3,nx4⟩:=nx
  obtain ⟨nd0,nd1,nd2,nd3,nd4⟩:=ndx
  have c1 : (df == x) = false:=beqF nx3
  have c2 : (df == dx) = false:=beqF nd3
  have c3 : (df + 1 == x) = false:=beqF nx2
  have c4 : (df + 1 == dx) = false:=beqF nd2
  have c5 : (x == df) = false:=beqF (Ne.symm nx3)
  have c6 : (dx == df) = false:=beqF (Ne.symm nd3)
  have c7 : (ln == df) = false:=beqF (Ne.symm nl3)
  have c8 : (ln == x) = false:=beqF nx0
  have c9 : (ln == dx) = false:=beqF nd0
  have c10 : (dx == x) = false:=beqF hne
  refine ⟨_,_,_,I₉,⟨by simp [List.lookup_cons,c1,c2],.inr (by simp [List.lookup_cons,c3,c4,hxd1,b2])⟩,.tail _ (.tail _ (.tail _ (.head _))),fun h₆ t₆ s₁₀ J₆ => ?_⟩
  refine wpAny_execs_nil ⟨rfl,?_⟩
  have nd : (FA.mk (df + 1) df ln x dx).all.Nodup:=by
   have q1 : df + 1 ≠ df:=Nat.succ_ne_self _
   simp only [FA.all,List.nodup_cons,List.mem_cons,List.not_mem_nil,or_false,not_or,List.nodup_nil,and_true]
   exact ⟨⟨q1,Ne.symm nl2,Ne.symm nx2,Ne.symm nd2⟩,⟨Ne.symm nl3,Ne.symm nx3,Ne.symm nd3⟩,⟨Ne.symm nx0,Ne.symm nd0⟩,hne,not_false⟩
  have I₁₀:=J₆.forget (ρ':=[]) (σ':=sFmt (FA.mk (df + 1) df ln x dx) (dictOf [(fE1 h₁ t₁ W u₁),(fE2 h₂ t₂ u₂),(fE3 h₃ t₃ u₃),(fE4 h₄ t₄ c u₄),(fE5 h₅ t₅ ln),(fE6 h₆ t₆ x)] 6) [] [] od) (fun _ _ h => nomatch h) (fun b m e => by
   simp only [sFmt,List.lookup_cons,List.lookup_nil] at e
   split at e
   ·rename_i hb;rw [eq_of_beq hb];cases e;simp [List.lookup_cons,c3,c4,hxd1,b2]
   ·split at e
    ·rename_i hb;rw [eq_of_beq hb];cases e;exact List.lookup_cons_self
    ·split at e
     ·rename_i hb;rw [eq_of_beq hb];cases e;simp [List.lookup_cons,c7,c8,c9]
     ·split at e
      ·rename_i hb;rw [eq_of_beq hb];cases e;simp [List.lookup_cons,c5]
      ·split at e
       ·rename_i hb;rw [eq_of_beq hb];cases e;simp [List.lookup_cons,c6,c10]
       ·cases e)
  have F:=FmtAt.ofAct (W:=W) (c:=c) (k:=k) I₁₀.act nd ⟨h₁,t₁,u₁,h₂,t₂,u₂,h₃,t₃,u₃,h₄,t₄,u₄,h₅,t₅,h₆,t₆,6,rfl⟩ hod
  have hsub : ∀ b ∈ (FA.mk (df + 1) df ln x dx).all ++ mu,b ∈ x :: dx :: ln :: L :: (df + 1) :: df :: mu:=fun b hb => by
   simp only [FA.all,List.cons_append,List.nil_append,List.mem_cons] at hb ⊢
   rcases hb with h | h | h | h | h | h <;> simp [h]
  have down : ∀ b,((hh.push emptyDict).push (instObj cFmt df)).get? b = none → hh.get? b = none:=fun b e => by
   cases q : hh.get? b with
   | none => rfl
   | some o => rw [k1 b o q] at e;cases e
  have f1 : hh.get? ln = none:=down _ (I₆.unborn hln)
  have f2 : hh.get? x = none:=down _ (J₅.unborn hx)
  have f3 : hh.get? dx = none:=down _ (J₅.unborn hdx)
  refine kk (FA.mk (df + 1) df ln x dx) s₁₀ (fun b hb => ?_) (I₁₀.ok.sub hsub) ⟨fun b o _ ht e => I₁₀.kp.keep b o (fun q => ?_) ht (k1 b o e)⟩ (F.sub hsub fun b hb => List.mem_append_left _ hb)
  ·simp only [FA.all,List.mem_cons,List.not_mem_nil,or_false] at hb
   rcases hb with h | h | h | h | h <;> rw [h] <;> assumption
  ·have e' : hh.get? b = some o:=e
   simp only [List.mem_cons,List.not_mem_nil,or_false] at q
   rcases q with h | h | h | h | h | h <;> rw [h] at e'
   ·rw [f2] at e';cases e'
   ·rw [f3] at e';cases e'
   ·rw [f1] at e';cases e'
   ·rw [hdn] at e';cases e'
   ·rw [hxn] at e';cases e'
   ·rw [hL1] at e';cases e'
 ·rcases r with e | (v | _ | _ | _) <;> exact z
end
end
section
set_option tactic.hygienic true
open PySem PySem.W PySem.Calls PyProof.Rows
set_option maxHeartbeats 4000000
variable {prog : Program} {w : World} {P : Params} {C : Cfg}
section
variable {mu mu' nu : List Addr} {s₀ s s' : Shared} {env : Env} {ρ : List (PySem.Str × PV)} {σ σ' : List (Addr × MO)} {A : Around} {E : Value → Shared → Prop} {K : Frag} {x dx Cl : Addr} {cd : ClassData} {a : FA} {od od2 : Obj} {lines : List PySem.Str} {l : List (PySem.Str × PySem.Str)} {W k : Int} {c : Nat}
private theorem w5z (hC : CfgOk P C) (hp : ProgOk prog) {n : Nat} {y : PySem.Str} {py pos : Pos} {e1 : Expr} {es : List Expr} {Q : Value → Shared → Prop} (r : Rm A (n + 6)) (I : In C mu nu env ρ σ s₀ s)
  (hf : PurE prog w C mu A env ρ σ (.Name y py) (.val (.ref cFmt))) (hargs : PurEs prog w C mu A env ρ σ (e1 :: es) [.int k,.int W,.str sBlank,.str ⟨#[c]⟩])
  (h : ∀ (a : FA) od od2 s',(∀ b ∈ a.all,s.heap.get? b = none) → a.all.Nodup → FmtD od W c a.ln a.x → AccD od2 k → In C (a.all ++ mu) (a.all ++ nu) env ρ (sFmt a od [] [] od2 ++ σ) s₀ s' → Q (.ref a.f) s')
  (he : autoParam (∀ env,starEach (e1 :: es) env = (false,eval e1 env) :: starEach es env) tR) (hpl : autoParam ((backTo pos (starEach es env)).any (·.1) = false) tR) : wpAny (model prog w) A (eval (.Call (.Name y py) (e1 :: es) [] pos) env) Q E s:=by
 refine Call_ (hf s I.ok I.act _ _ fun v s₁ O₁ k₁ y₁ => ?_)
 cases (show v = .ref cFmt from y₁)
 refine callWith_of (P:=C.K.In) ?_ (keeps_K (keep_fmt hC)) ?_
 ·rw [he]
  show ((false || (backTo pos (starEach es env)).any (·.1)) || false) = false
  rw [hpl];rfl
 ·have hargs:=hargs pos s₁ O₁ (I.act.kp I.ok k₁)
  rw [he] at hargs ⊢
  refine evalArgs_plain (hargs _ _ fun vs s₂ O₂ k₂ y₂ => ⟨O₂.K,?_⟩)
  refine fmt_new hC hp r O₂ y₂ _ _ fun a s₃ hn O₃ k₃ ha => ?_
  have kk:=k₁.trans k₂
  have hn' : ∀ b ∈ a.all,s.heap.get? b = none:=fun b hb => q9b O₂ kk (hn b hb)
  obtain ⟨od,hd,hod⟩:=ha.dict
  obtain ⟨od2,hd2,hod2⟩:=ha.acc.dict
  refine h a od od2 s₃ hn' ha.nd hd hd2 (I.grows O₃ (kk.trans k₃) hn' fun b m e => ?_)
  simp only [sFmt,List.lookup_cons,List.lookup_nil] at e
  split at e
  ·rename_i hb;cases e;rw [eq_of_beq hb];exact ⟨by simp,ha.inst⟩
  ·split at e
   ·rename_i hb;cases e;rw [eq_of_beq hb];exact ⟨by simp,hod⟩
   ·split at e
    ·rename_i hb;cases e;rw [eq_of_beq hb];exact ⟨by simp,ha.lns⟩
    ·split at e
     ·rename_i hb;cases e;rw [eq_of_beq hb];exact ⟨by simp,ha.acc.at_⟩
     ·split at e
      ·rename_i hb;cases e;rw [eq_of_beq hb];exact ⟨by simp,hod2⟩
      ·cases e
private theorem q6r {o e : Expr} {name : PySem.Str} {apos pos : Pos} {sep : PySem.Str} {ys : List PySem.Str} {pl : Sem Bool} (ho : PurE prog w C mu A env ρ σ o (.str sep)) (hl : PurL prog w C mu A env ρ σ e (ys.map .str)) (hn : name = PySem.Str.ofString "join") (hsep : sep.length ≤ 16) (hw : (ys.map (·.length)).sum + ys.length ≤ 1048576)
  (he : autoParam (eval (.Call (.Attribute o name apos) [e] [] pos) env = (do let ov ← eval o env;standAt apos.atName;let __x ← holding [ov] (getMethod ov name pl);match __x with | (f,first) => callWith pos f first (backTo pos (starEach [e] env)) [])) tR)
  (hs : autoParam (starEach [e] env = (false,eval e env) :: starEach [] env) tR) (hplain : autoParam ((backTo pos (starEach [] env)).any (·.1) = false) tR) :
  PurE prog w C mu A env ρ σ (.Call (.Attribute o name apos) [e] [] pos) (.str (PySem.Txt.join sep ys)):=fun s O a Q E k =>
 MethodCall_ (pl:=pl) (ho s O a _ _ fun v s₁ O₁ k₁ y₁ => w4f hn pl s₁ v _ _ O₁ y₁ (callWith_method1 (by
  rw [hs]
  refine spliced_cons (hl s₁ O₁ (a.kp O k₁) _ _ fun u s₂ O₂ k₂ y₂ => spliced_nil ?_)
  obtain ⟨t,rfl⟩:=y₁.kp0 O₁ k₂
  obtain ⟨b,ws,n,rfl,ho',hv⟩:=y₂
  exact join_listW ⟨_,ho',rfl,n,rfl⟩ (by simpa using q8f hv) hsep hw fun t' tk => k _ _ (O₂.tok (tk:=tk)) ((k₁.trans k₂).trans ⟨fun _ _ _ _ e => e⟩) ⟨t',rfl⟩) hs hplain)) he
private theorem fmt_str (hC : CfgOk P C) (hp : ProgOk prog) {n : Nat} {sep : PySem.Str} {vs : List Value} (r : Rm A (n + 9)) (O : Ok C mu s) (ha : FmtAt mu s.heap a W c lines l k) (hy : Sims s.heap mu [.str sep] vs) (h : NlOk l k) (hln : lines.length ≤ 4096)
  (hsep : sep.length ≤ 16) (hw : ((q0w lines l k).map (·.length)).sum + (q0w lines l k).length ≤ 1048576) :
  FmtTo prog w C mu A (call (.ref q8z) (.ref a.f :: vs)) a W c (q0w lines l k) [] 0 (.str (PySem.Txt.join sep (q0w lines l k))) s:=by
 intro Q E kk
 have hlen:=hy.length
 obtain ⟨v₁,rfl⟩ : ∃ v₁,vs = [v₁]:=by
  exact len1 hlen
 refine q1o (ρc:=[]) (vs:=[.ref a.f,v₁]) (names:=[vSelf,(⟨#[108,105,110,101,115,101,112]⟩ : PySem.Str)]) (ps:=[.val (.ref a.f),.str sep]) ((w1u hC).at O) r O ⟨_,_,rfl,rfl,hy⟩ (BindsTo.of_eq rfl) rfl Clo.nil rfl rfl fun L s₁ hL I r' hk => ?_
 rw [List.append_nil] at I
 obtain ⟨od,od2,hd,hk2,I₁⟩:=ha.tell I hL rfl rfl hk
 have nd:=ha.nd
 have hnu : ∀ b ∈ a.wr,b ∈ [a.ln,a.x,a.dx,L]:=fun b hb => by simp at hb ⊢;rcases hb with h | h | h <;> simp [h]
 refine q0a (wpAny_Expr_any ?_ rfl rfl)
 refine q3i (q2d hC) I₁.ok I₁.act (q0b rfl rfl) (q4o nd) (w0j hC) (q9d hC) (w1p hd) (q4s hC) (fun s₂ O₂ k₂ => ?_)
 have I₂:=I₁.next O₂ k₂
 refine fmt_nl hC hp (n:=n) r' O₂ (FmtAt.ofAct I₂.act nd hd hk2) h hln _ _ fun v s₃ O₃ k₃ ha₃ _ => ?_
 obtain ⟨od3,od4,hd3,hk4,I₃⟩:=w2z I₂ nd hnu O₃ k₃ ha₃
 refine q0a (q0q I₃ (q6r (q0b (p:=.str sep) rfl rfl) (w2o (q9t hC nd hd3 rfl) (sF_ln nd)) rfl hsep hw) fun v s' I' y => ?_)
 obtain ⟨h1,h2,h3⟩:=w5x I' hL ha.mem nd hd3 hk4
 exact kk v s' h1 h2 h3 (y.sub fun a h => .tail _ h)
end
end
section
open PySem PySem.W PySem.Calls PyProof.Rows
noncomputable def w2a : List PySem.Str:=(List.range 5).flatMap fun k => (List.range 5).map fun n => ⟨(List.replicate (n + 1) (97 + k)).toArray⟩
noncomputable def wHead (x : PySem.Str) : PySem.Str:=⟨(x.cps.toList.take 1).toArray⟩
noncomputable def wTail (x : PySem.Str) : PySem.Str:=⟨(x.cps.toList.drop 1).toArray⟩
structure WordOk (x : PySem.Str) : Prop where
 slice : sSlice x (some 1) none = wTail x
 picks : (Builtin.Str.strSliceIndices (some 1) none 1 x.length).length ≤ 2 ^ 20
 head : x.cps[0]? = some (x.cps.toList.headD 0)
 hd : wHead x = ⟨#[x.cps.toList.headD 0]⟩
 sp : endsC 32 (wHead x) = false
 len : 1 ≤ x.length ∧ x.length ≤ 5
 lenT : (wTail x).length + 1 = x.length
 lets : x.cps.toList.all (fun c => decide (97 ≤ c ∧ c ≤ 101)) = true
private theorem w7q : ∀ x ∈ w2a,WordOk x:=by
 have h : w2a.all (fun x => (sSlice x (some 1) none == wTail x) && decide ((Builtin.Str.strSliceIndices (some 1) none 1 x.length).length ≤ 2 ^ 20) && (x.cps[0]? == some (x.cps.toList.headD 0)) && (wHead x == ⟨#[x.cps.toList.headD 0]⟩) && !endsC 32 (wHead x) && decide (1 ≤ x.length ∧ x.length ≤ 5) && ((wTail x).length + 1 == x.length) && x.cps.toList.all (fun c => decide (97 ≤ c ∧ c ≤ 101))) = true:=by decide +kernel
 intro x hx
 have:=List.all_eq_true.mp h x hx
 simp only [Bool.and_eq_true,beq_iff_eq,decide_eq_true_eq,Bool.not_eq_true'] at this
 obtain ⟨⟨⟨⟨⟨⟨⟨h1,h2⟩,h3⟩,h4⟩,h5⟩,h6⟩,h7⟩,h8⟩:=this
 exact ⟨h1,h2,h3,h4,h5,h6,h7,h8⟩
private theorem q4a {l : List (PySem.Str × PySem.Str)} {k : Int} (hk : 0 ≤ k) : ((accN l k : Nat) : Int) = accLen l k:=by
 have h : 0 ≤ (l.map lenP).sum:=by
  induction l with
  | nil => simp
  | cons p l ih => simp only [List.map_cons,List.sum_cons,lenP];lia
 unfold accN
 exact Int.toNat_of_nonneg (by unfold accLen;lia)
private theorem q2l (l m : List (PySem.Str × PySem.Str)) (k : Int) : accLen (l ++ m) k = accLen l k + (m.map lenP).sum:=by
 unfold accLen;rw [List.map_append,List.sum_append];lia
noncomputable abbrev chunks (x : PySem.Str) : List (PySem.Str × PySem.Str):=[(sBlank,wHead x),(sEmpty,wTail x)]
private theorem q4d {x : PySem.Str} (h : WordOk x) : (wHead x).length = 1:=by rw [h.hd];rfl
private theorem q8b {x : PySem.Str} (h : WordOk x) : ((chunks x).map lenP).sum = 1 + x.length:=by
 have h1:=h.lenT
 have h2:=q4d h
 have e1 : sBlank.length = 1:=rfl
 have e2 : sEmpty.length = 0:=rfl
 simp only [chunks,List.map_cons,List.map_nil,List.sum_cons,List.sum_nil,lenP]
 lia
private theorem q6e {c : Nat} {l : List (PySem.Str × PySem.Str)} {m : Nat} (h : hitAt c l (m + 1) = true) : q0v c l (m + 1) = some (m + 1):=by unfold q0v;rw [if_pos h]
private theorem q8h {c : Nat} {l : List (PySem.Str × PySem.Str)} {m : Nat} (h : hitAt c l (m + 1) = false) : q0v c l (m + 1) = q0v c l m:=by
 rw [q0v,if_neg (by rw [h];decide)]
private theorem q6z : PySem.Txt.isspace ⟨#[32]⟩ = true:=by decide +kernel
private theorem w8z {W k : Int} {lines : List PySem.Str} {l : List (PySem.Str × PySem.Str)} {x : PySem.Str} (h : WordOk x) (hk : 0 ≤ k) (hl : l = [] → k = 0) :
  chunk W 32 (chunk W 32 lines l k sBlank (wHead x)).1 (chunk W 32 lines l k sBlank (wHead x)).2.1 (chunk W 32 lines l k sBlank (wHead x)).2.2 sEmpty (wTail x) =
   if l ≠ [] ∧ W < accLen l k + 1 + x.length then (lines ++ [accStr l],chunks x,0) else (lines,l ++ chunks x,k):=by
 have c1:=q4d h
 have c2:=h.lenT
 have e1 : sBlank.length = 1:=rfl
 have e2 : sEmpty.length = 0:=rfl
 -- the word alone
 have alone : ∀ lines : List PySem.Str,chunk W 32 lines [(sBlank,wHead x)] 0 sEmpty (wTail x) = (lines,chunks x,0):=fun lines => by
  have hs : q0v 32 ([(sBlank,wHead x)] ++ [(sEmpty,wTail x)]) 1 = none:=by
   rw [q8h (m:=0)]
   ·rfl
   ·show ((PySem.Txt.isspace ⟨#[32]⟩ && q1h 32 sEmpty) || endsC 32 (wHead x)) = false
    rw [h.sp,q6z];rfl
  unfold chunk
  split
  ·rw [show ([(sBlank,wHead x)] : List (PySem.Str × PySem.Str)).length = 1 from rfl,hs,if_neg (by decide)];rfl
  ·rfl
 have lt1 : ((accN (l ++ [(sBlank,wHead x)]) k : Nat) : Int) = accLen l k + 2:=by
  rw [q4a hk,q2l]
  simp only [List.map_cons,List.map_nil,List.sum_cons,List.sum_nil,lenP]
  lia
 have lt2 : ((accN (l ++ [(sBlank,wHead x)] ++ [(sEmpty,wTail x)]) k : Nat) : Int) = accLen l k + 1 + x.length:=by
  rw [q4a hk,q2l,q2l]
  simp only [List.map_cons,List.map_nil,List.sum_cons,List.sum_nil,lenP]
  lia
 by_cases hne : l = []
 ·subst hne
  cases hl rfl
  have f : chunk W 32 lines [] 0 sBlank (wHead x) = (lines,[(sBlank,wHead x)],0):=by
   unfold chunk
   split
   ·simp [q0v]
   ·rfl
  rw [f,if_neg (by simp)]
  exact alone lines
 ·obtain ⟨m,hm⟩ : ∃ m,l.length = m + 1:=⟨l.length - 1,by have:=List.length_pos_iff.mpr hne;with_reducible exact na4⟩
  have get1 : ∀ r : List (PySem.Str × PySem.Str),(l ++ (sBlank,wHead x) :: r)[m + 1]? = some (sBlank,wHead x):=fun r => by
   rw [List.getElem?_append_right (by lia),hm];simp
  obtain ⟨b,hb⟩ : ∃ b,l[m]? = some b:=⟨_,List.getElem?_eq_getElem (by lia)⟩
  have get0 : ∀ r : List (PySem.Str × PySem.Str),(l ++ r)[m]? = some b:=fun r => by rw [List.getElem?_append_left (by lia),hb]
  have hit1 : ∀ r,hitAt 32 (l ++ (sBlank,wHead x) :: r) (m + 1) = true:=fun r => by
   unfold hitAt
   rw [get1 r,show m + 1 - 1 = m from rfl,get0]
   show ((PySem.Txt.isspace ⟨#[32]⟩ && q1h 32 sBlank) || endsC 32 b.2) = true
   rw [q6z];rfl
  by_cases hgt : W < accLen l k + 2
  ·have f : chunk W 32 lines l k sBlank (wHead x) = (lines ++ [accStr l],[(sBlank,wHead x)],0):=by
    unfold chunk
    rw [if_pos (by rw [lt1];exact hgt),hm,q6e (hit1 [])]
    show (lines ++ [accStr ((l ++ [(sBlank,wHead x)]).take (m + 1))],(l ++ [(sBlank,wHead x)]).drop (m + 1),(0 : Int)) = _
    rw [List.take_append_of_le_length (by lia),List.take_of_length_le (by lia),List.drop_append_of_le_length (by lia),List.drop_of_length_le (by lia)]
    rfl
   rw [f,if_pos (show l ≠ [] ∧ W < accLen l k + 1 + x.length from ⟨hne,by have:=h.len.1;lia⟩)]
   exact alone _
  ·have f : chunk W 32 lines l k sBlank (wHead x) = (lines,l ++ [(sBlank,wHead x)],k):=by
    unfold chunk
    rw [if_neg (by rw [lt1];exact hgt)]
   rw [f]
   show chunk W 32 lines (l ++ [(sBlank,wHead x)]) k sEmpty (wTail x) = _
   unfold chunk
   rw [lt2]
   by_cases hgt2 : W < accLen l k + 1 + x.length
   ·rw [if_pos hgt2,if_pos (show l ≠ [] ∧ W < accLen l k + 1 + x.length from ⟨hne,hgt2⟩)]
    have miss : hitAt 32 (l ++ [(sBlank,wHead x)] ++ [(sEmpty,wTail x)]) (m + 1 + 1) = false:=by
     unfold hitAt
     have g2 : (l ++ [(sBlank,wHead x)] ++ [(sEmpty,wTail x)])[m + 1 + 1]? = some (sEmpty,wTail x):=by
      rw [List.getElem?_append_right (by simp;lia)];simp [hm]
     have g1 : (l ++ [(sBlank,wHead x)] ++ [(sEmpty,wTail x)])[m + 1]? = some (sBlank,wHead x):=by
      rw [List.append_assoc];exact get1 _
     rw [g2,show m + 1 + 1 - 1 = m + 1 from rfl,g1]
     show ((PySem.Txt.isspace ⟨#[32]⟩ && q1h 32 sEmpty) || endsC 32 (wHead x)) = false
     rw [h.sp,q6z];rfl
    have hl2 : (l ++ [(sBlank,wHead x)]).length = m + 1 + 1:=by simp [hm]
    rw [hl2,q8h miss,List.append_assoc]
    show (match q0v 32 (l ++ (sBlank,wHead x) :: [(sEmpty,wTail x)]) (m + 1) with | some i => _ | none => _) = _
    rw [q6e (hit1 _)]
    show (lines ++ [accStr ((l ++ chunks x).take (m + 1))],(l ++ chunks x).drop (m + 1),(0 : Int)) = _
    rw [List.take_append_of_le_length (by lia),List.take_of_length_le (by lia),List.drop_append_of_le_length (by lia),List.drop_of_length_le (by lia)]
    rfl
   ·rw [if_neg hgt2,if_neg (fun q => hgt2 q.2),List.append_assoc]
    rfl
end
section
set_option tactic.hygienic true
open PySem PySem.W PySem.Calls PyProof.Rows
noncomputable abbrev FSt:=List PySem.Str × List (PySem.Str × PySem.Str) × Int
noncomputable def foldW (W : Int) (st : FSt) (x : PySem.Str) : FSt:=if st.2.1 ≠ [] ∧ W < accLen st.2.1 st.2.2 + 1 + x.length then (st.1 ++ [accStr st.2.1],chunks x,0) else (st.1,st.2.1 ++ chunks x,st.2.2)
noncomputable def q1n (W head : Int) (blank x : PySem.Str) : FSt:=if W < head + blank.length + x.length then ([sEmpty],[(sBlank,x)],0) else ([],[(blank,x)],head)
private theorem w6g {W k : Int} {lines : List PySem.Str} {l : List (PySem.Str × PySem.Str)} {x : PySem.Str} (h : WordOk x) (hk : 0 ≤ k) (hl : l = [] → k = 0) :
  chunk W 32 lines l k sBlank (wHead x) = if l ≠ [] ∧ W < accLen l k + 2 then (lines ++ [accStr l],[(sBlank,wHead x)],0) else (lines,l ++ [(sBlank,wHead x)],k):=by
 have c1:=q4d h
 have e1 : sBlank.length = 1:=rfl
 have lt1 : ((accN (l ++ [(sBlank,wHead x)]) k : Nat) : Int) = accLen l k + 2:=by
  rw [q4a hk,q2l]
  simp only [List.map_cons,List.map_nil,List.sum_cons,List.sum_nil,lenP]
  lia
 by_cases hne : l = []
 ·subst hne
  cases hl rfl
  rw [if_neg (by simp)]
  unfold chunk
  split
  ·simp [q0v]
  ·rfl
 ·obtain ⟨m,hm⟩ : ∃ m,l.length = m + 1:=⟨l.length - 1,by have:=List.length_pos_iff.mpr hne;with_reducible exact na4⟩
  obtain ⟨b,hb⟩ : ∃ b,l[m]? = some b:=⟨_,List.getElem?_eq_getElem (by lia)⟩
  have hit1 : hitAt 32 (l ++ [(sBlank,wHead x)]) (m + 1) = true:=by
   unfold hitAt
   rw [show (l ++ [(sBlank,wHead x)])[m + 1]? = some (sBlank,wHead x) by rw [List.getElem?_append_right (by lia),hm];simp,show m + 1 - 1 = m from rfl,show (l ++ [(sBlank,wHead x)])[m]? = some b by rw [List.getElem?_append_left (by lia),hb]]
   show ((PySem.Txt.isspace ⟨#[32]⟩ && q1h 32 sBlank) || endsC 32 b.2) = true
   rw [q6z];rfl
  by_cases hgt : W < accLen l k + 2
  ·rw [if_pos (show l ≠ [] ∧ W < accLen l k + 2 from ⟨hne,hgt⟩)]
   unfold chunk
   rw [if_pos (by rw [lt1];exact hgt),hm,q6e hit1]
   show (lines ++ [accStr ((l ++ [(sBlank,wHead x)]).take (m + 1))],(l ++ [(sBlank,wHead x)]).drop (m + 1),(0 : Int)) = _
   rw [List.take_append_of_le_length (by lia),List.take_of_length_le (by lia),List.drop_append_of_le_length (by lia),List.drop_of_length_le (by lia)]
   rfl
  ·rw [if_neg (fun q => hgt q.2)]
   unfold chunk
   rw [if_neg (by rw [lt1];exact hgt)]
private theorem w9a {W head : Int} {blank x : PySem.Str} (hh : 0 < head) (hb : blank = sEmpty ∨ blank = sBlank) : chunk W 32 [] [] head blank x = q1n W head blank x:=by
 have lt1 : ((accN ([] ++ [(blank,x)]) head : Nat) : Int) = head + blank.length + x.length:=by
  rw [q4a (by lia)]
  simp only [List.nil_append,accLen,List.map_cons,List.map_nil,List.sum_cons,List.sum_nil,lenP]
  lia
 have hn : q0w [] [] head = [sEmpty]:=by
  have e : ((accN (nlOf []) head : Nat) : Int) = head:=by
   rw [q4a (by lia)]
   show head + (((0 : Int) + 0) + 0) = head
   lia
  unfold q0w
  rw [e,if_pos hh]
  rfl
 unfold chunk q1n
 rw [lt1]
 by_cases h : W < head + blank.length + x.length
 ·rw [if_pos h,if_pos h]
  show (if 0 < head then _ else _) = _
  rw [if_pos hh,hn]
  rcases hb with rfl | rfl <;> rfl
 ·rw [if_neg h,if_neg h]
  rfl
private theorem z0n {x : PySem.Str} (h : ∃ c ∈ x.cps.toList,97 ≤ c ∧ c ≤ 101) : PySem.Txt.isspace x = false:=by
 obtain ⟨c,hc,h1,h2⟩:=h
 have hs : Unicode.isSpace c = false:=by
  have : c = 97 ∨ c = 98 ∨ c = 99 ∨ c = 100 ∨ c = 101:=by lia
  rcases this with rfl | rfl | rfl | rfl | rfl <;> decide +kernel
 unfold PySem.Txt.isspace
 rw [Bool.and_eq_false_iff]
 right
 rw [Bool.eq_false_iff]
 intro q
 have:=Array.all_eq_true_iff_forall_mem.mp q c (by simpa using hc)
 rw [hs] at this;cases this
structure Fold (i : Nat) (st : FSt) : Prop where
 nl : st.1.length ≤ i
 lines : ∀ t ∈ st.1,t.length ≤ 4096
 len : st.2.1.length ≤ 2 * i
 each : ∀ p ∈ st.2.1,p.1.length ≤ 1 ∧ p.2.length ≤ 5
 last : ∀ p,st.2.1.getLast? = some p → ¬ (p.1 = sBlank ∧ p.2 = sEmpty)
 only : st.2.1 ≠ [] → ∃ c ∈ (accStr st.2.1).cps.toList,97 ≤ c ∧ c ≤ 101
 k0 : 0 ≤ st.2.2
 k1 : st.2.2 ≤ 2 ^ 20
private theorem q0s (l : List (PySem.Str × PySem.Str)) : (accStr l).cps.toList = (l.map fun p => p.1.cps.toList ++ p.2.cps.toList).flatten:=by unfold accStr;simp
private theorem w9h (l : List (PySem.Str × PySem.Str)) : ((accStr l).length : Int) = (l.map lenP).sum:=by
 have : (accStr l).length = ((l.map fun p => p.1.cps.toList ++ p.2.cps.toList).flatten).length:=by rw [← q0s];simp [PySem.Str.length]
 rw [this]
 induction l with
 | nil => rfl
 | cons p l ih =>
  simp only [List.map_cons,List.flatten_cons,List.length_append,List.sum_cons]
  have ih':=ih (by rw [← q0s];simp [PySem.Str.length])
  have e : lenP p = (p.1.length : Int) + p.2.length:=rfl
  rw [e,← ih']
  simp [PySem.Str.length]
private theorem w5c {l : List (PySem.Str × PySem.Str)} {b : Nat} (h : ∀ p ∈ l,p.1.length ≤ 1 ∧ p.2.length ≤ b) : (l.map lenP).sum ≤ ((b : Int) + 1) * l.length:=by
 induction l with
 | nil => simp
 | cons p l ih =>
  have h1:=h p (.head _)
  have h2:=ih fun q hq => h q (.tail _ hq)
  simp only [List.map_cons,List.sum_cons,List.length_cons]
  have e : lenP p = (p.1.length : Int) + p.2.length:=rfl
  rw [e]
  push_cast
  rw [Int.mul_add]
  lia
private theorem Fold.accStr_le {i : Nat} {st : FSt} (h : Fold i st) (hi : i ≤ 100) : (accStr st.2.1).length ≤ 4096:=by
 have h1:=w9h st.2.1
 have h2:=w5c h.each
 have h3:=h.len
 lia
private theorem Fold.letter {x : PySem.Str} (h : WordOk x) : ∃ c ∈ (wHead x).cps.toList,97 ≤ c ∧ c ≤ 101:=by
 refine ⟨x.cps.toList.headD 0,by rw [h.hd];simp,?_⟩
 have hl:=h.len.1
 have e : x.cps.toList ≠ []:=fun q => by
  have : x.length = 0:=by simp [PySem.Str.length,← Array.length_toList,q]
  lia
 have:=List.all_eq_true.mp h.lets (x.cps.toList.headD 0) (by
  cases q : x.cps.toList with
  | nil => exact absurd q e
  | cons a r => simp)
 simpa using this
private theorem Fold.chunks_only {x : PySem.Str} (h : WordOk x) (l : List (PySem.Str × PySem.Str)) : ∃ c ∈ (accStr (l ++ chunks x)).cps.toList,97 ≤ c ∧ c ≤ 101:=by
 obtain ⟨c,h1,h2⟩:=Fold.letter h
 refine ⟨c,?_,h2⟩
 rw [q0s,List.map_append,List.flatten_append]
 refine List.mem_append_right _ ?_
 simp only [chunks,List.map_cons,List.flatten_cons]
 exact List.mem_append_left _ (List.mem_append_right _ h1)
private theorem Fold.step {i : Nat} {st : FSt} {x : PySem.Str} {W : Int} (h : Fold i st) (hx : WordOk x) (hi : i ≤ 100) : Fold (i + 1) (foldW W st x):=by
 have c1:=q4d hx
 have c2:=hx.lenT
 have c3:=hx.len
 have ce : ∀ p ∈ chunks x,p.1.length ≤ 1 ∧ p.2.length ≤ 5:=fun p hp => by
  simp only [chunks,List.mem_cons,List.not_mem_nil,or_false] at hp
  rcases hp with rfl | rfl
  ·exact ⟨Nat.le_refl _,by show (wHead x).length ≤ 5;(with_reducible refine naf ?_;decide)⟩
  ·exact ⟨Nat.zero_le _,by show (wTail x).length ≤ 5;lia⟩
 have cl : ∀ l p,(l ++ chunks x).getLast? = some p → ¬ (p.1 = sBlank ∧ p.2 = sEmpty):=fun l p e q => by
  have : (l ++ chunks x).getLast? = some (sEmpty,wTail x):=by simp [chunks]
  rw [this] at e;cases e
  exact absurd (show sEmpty = sBlank from q.1) (by decide)
 unfold foldW
 split
 ·rename_i hc
  refine ⟨by simp;exact h.nl,fun t ht => ?_,by simp;lia,ce,fun p e => cl [] p e,fun _ => Fold.chunks_only hx [],(show (0 : Int) ≤ 0 by decide),(show (0 : Int) ≤ 2 ^ 20 by decide)⟩
  rcases List.mem_append.mp ht with ht | ht
  ·exact h.lines t ht
  ·simp at ht;rw [ht];exact h.accStr_le hi
 ·refine ⟨Nat.le_succ_of_le h.nl,h.lines,by simp;have:=h.len;lia,fun p hp => ?_,cl _,fun _ => Fold.chunks_only hx _,h.k0,h.k1⟩
  rcases List.mem_append.mp hp with hp | hp
  ·exact h.each p hp
  ·exact ce p hp
private theorem Fold.ne {W : Int} {st : FSt} {x : PySem.Str} : (foldW W st x).2.1 ≠ []:=by
 unfold foldW
 split <;> simp [chunks]
private theorem Fold.short {i : Nat} {st : FSt} (h : Fold i st) : Short st.2.1:=fun p hp => by have:=h.each p hp;lia
private theorem Fold.sz {i : Nat} {st : FSt} (h : Fold i st) (hi : i ≤ 100) : AccSz st.2.1 st.2.2:=⟨by have:=h.len;lia,fun p hp => by have:=h.each p hp;lia,h.k0,h.k1⟩
private theorem Fold.ch1 {i : Nat} {st : FSt} {x : PySem.Str} (h : Fold i st) (hx : WordOk x) (hi : i ≤ 100) : ChOk st.2.1 st.2.2 sBlank (wHead x):=by
 have c1:=q4d hx
 have ce : ∀ p ∈ st.2.1 ++ [(sBlank,wHead x)],p.1.length ≤ 64 ∧ p.2.length ≤ 64:=fun p hp => by
  rcases List.mem_append.mp hp with hp | hp
  ·have:=h.each p hp;lia
  ·simp only [List.mem_cons,List.not_mem_nil,or_false] at hp
   rw [hp]
   exact ⟨by show (1 : Nat) ≤ 64;decide,by show (wHead x).length ≤ 64;(with_reducible refine naf ?_;decide)⟩
 exact ⟨⟨by have:=h.len;simp;lia,fun p hp => by have:=ce p hp;lia,h.k0,h.k1⟩,ce,h.last⟩
private theorem Fold.ch2 {i : Nat} {st : FSt} {x : PySem.Str} {W : Int} (h : Fold i st) (hx : WordOk x) (hi : i ≤ 100) (hl : st.2.1 = [] → st.2.2 = 0) :
  ChOk (chunk W 32 st.1 st.2.1 st.2.2 sBlank (wHead x)).2.1 (chunk W 32 st.1 st.2.1 st.2.2 sBlank (wHead x)).2.2 sEmpty (wTail x) ∧ (chunk W 32 st.1 st.2.1 st.2.2 sBlank (wHead x)).1.length ≤ i + 1:=by
 have c1:=q4d hx
 have c2:=hx.lenT
 have c3:=hx.len
 rw [w6g hx h.k0 hl]
 have hw : wHead x ≠ sEmpty:=fun q => by rw [q] at c1;exact absurd c1 (by decide)
 split
 ·refine ⟨⟨⟨by simp,fun p hp => ?_,(show (0 : Int) ≤ 0 by decide),(show (0 : Int) ≤ 2 ^ 20 by decide)⟩,fun p hp => ?_,fun p hp => ?_⟩,by simp;exact h.nl⟩
  ·simp only [List.cons_append,List.nil_append,List.mem_cons,List.not_mem_nil,or_false] at hp
   rcases hp with rfl | rfl
   ·exact ⟨by show (1 : Nat) ≤ 1024;decide,by show (wHead x).length ≤ 1024;(with_reducible refine naf ?_;decide)⟩
   ·exact ⟨by show (0 : Nat) ≤ 1024;decide,by show (wTail x).length ≤ 1024;lia⟩
  ·simp only [List.cons_append,List.nil_append,List.mem_cons,List.not_mem_nil,or_false] at hp
   rcases hp with rfl | rfl
   ·exact ⟨by show (1 : Nat) ≤ 64;decide,by show (wHead x).length ≤ 64;(with_reducible refine naf ?_;decide)⟩
   ·exact ⟨by show (0 : Nat) ≤ 64;decide,by show (wTail x).length ≤ 64;lia⟩
  ·have : p = (sBlank,wHead x):=by simpa using hp.symm
   rw [this];exact fun q => hw q.2
 ·have ce : ∀ p ∈ st.2.1 ++ [(sBlank,wHead x)] ++ [(sEmpty,wTail x)],p.1.length ≤ 64 ∧ p.2.length ≤ 64:=fun p hp => by
   rcases List.mem_append.mp hp with hp | hp
   ·rcases List.mem_append.mp hp with hp | hp
    ·have:=h.each p hp;lia
    ·simp only [List.mem_cons,List.not_mem_nil,or_false] at hp
     rw [hp]
     exact ⟨by show (1 : Nat) ≤ 64;decide,by show (wHead x).length ≤ 64;(with_reducible refine naf ?_;decide)⟩
   ·simp only [List.mem_cons,List.not_mem_nil,or_false] at hp
    rw [hp]
    exact ⟨by show (0 : Nat) ≤ 64;decide,by show (wTail x).length ≤ 64;lia⟩
  refine ⟨⟨⟨by have:=h.len;simp;lia,fun p hp => by have:=ce p hp;lia,h.k0,h.k1⟩,ce,fun p hp => ?_⟩,Nat.le_succ_of_le h.nl⟩
  have : p = (sBlank,wHead x):=by simpa using hp.symm
  rw [this];exact fun q => hw q.2
private theorem Fold.start {head : Int} (h0 : 0 ≤ head) (h1 : head ≤ 2 ^ 20) : Fold 0 ([],[],head):=⟨Nat.le_refl _,fun _ h => (nomatch h),Nat.le_refl _,fun _ h => (nomatch h),fun _ h => (nomatch h),fun h => absurd rfl h,h0,h1⟩
private theorem w5a {x : PySem.Str} (h : WordOk x) : ∃ c ∈ x.cps.toList,97 ≤ c ∧ c ≤ 101:=by
 obtain ⟨c,h1,h2⟩:=Fold.letter h
 exact ⟨c,List.mem_of_mem_take (by rw [show (wHead x).cps.toList = x.cps.toList.take 1 by simp [wHead]] at h1;exact h1),h2⟩
private theorem Fold.headOk {W head : Int} {blank x : PySem.Str} (hx : WordOk x) (hb : blank = sEmpty ∨ blank = sBlank) (h0 : 0 ≤ head) (h1 : head ≤ 2 ^ 20) : Fold 1 (q1n W head blank x) ∧ (q1n W head blank x).2.1 ≠ []:=by
 have c3:=hx.len
 have hbl : blank.length ≤ 1:=by rcases hb with rfl | rfl <;> decide
 have hxe : x ≠ sEmpty:=fun q => by rw [q] at c3;exact absurd c3.1 (by decide)
 have only : ∀ b : PySem.Str,∃ c ∈ (accStr [(b,x)]).cps.toList,97 ≤ c ∧ c ≤ 101:=fun b => by
  obtain ⟨c,q1,q2⟩:=w5a hx
  exact ⟨c,by rw [q0s];simp [q1],q2⟩
 unfold q1n
 split
 ·refine ⟨⟨Nat.le_refl _,fun t ht => ?_,by simp,fun p hp => ?_,fun p hp => ?_,fun _ => only _,(show (0 : Int) ≤ 0 by decide),(show (0 : Int) ≤ 2 ^ 20 by decide)⟩,by simp⟩
  ·simp at ht;rw [ht];decide
  ·simp at hp;rw [hp];exact ⟨by show (1 : Nat) ≤ 1;decide,c3.2⟩
  ·have : p = (sBlank,x):=by simpa using hp.symm
   rw [this];exact fun q => hxe q.2
 ·refine ⟨⟨Nat.zero_le _,fun t ht => (nomatch ht),by simp,fun p hp => ?_,fun p hp => ?_,fun _ => only _,h0,h1⟩,by simp⟩
  ·simp at hp;rw [hp];exact ⟨hbl,c3.2⟩
  ·have : p = (blank,x):=by simpa using hp.symm
   rw [this];exact fun q => hxe q.2
private theorem Fold.chHead {head : Int} {blank x : PySem.Str} (hx : WordOk x) (hb : blank = sEmpty ∨ blank = sBlank) (h0 : 0 ≤ head) (h1 : head ≤ 2 ^ 20) : ChOk [] head blank x:=by
 have c3:=hx.len
 have hbl : blank.length ≤ 1:=by rcases hb with rfl | rfl <;> decide
 refine ⟨⟨by simp,fun p hp => ?_,h0,h1⟩,fun p hp => ?_,fun p hp => (nomatch hp)⟩
 ·simp at hp;rw [hp];exact ⟨by show blank.length ≤ 1024;(with_reducible refine nad ?_;decide),by show x.length ≤ 1024;lia⟩
 ·simp at hp;rw [hp];exact ⟨by show blank.length ≤ 64;(with_reducible refine nad ?_;decide),by show x.length ≤ 64;lia⟩
private theorem Fold.nlOk {i : Nat} {st : FSt} (h : Fold i st) (hi : i ≤ 100) : NlOk st.2.1 st.2.2:=by
 refine ⟨h.last,fun hpos => ?_,h.sz hi,h.short⟩
 unfold onlyWs
 by_cases hne : st.2.1 = []
 ·rw [hne] at hpos
  rw [q4a h.k0] at hpos
  have e : accLen (nlOf []) st.2.2 = st.2.2:=by
   show st.2.2 + (((0 : Int) + 0) + 0) = st.2.2
   lia
  rw [e] at hpos
  have : (st.2.2 == 0) = false:=by simpa using (by lia : st.2.2 ≠ 0)
  rw [this];rfl
 ·have e : nlOf st.2.1 = st.2.1:=by unfold nlOf;rw [if_neg hne]
  rw [e] at hpos ⊢
  rw [z0n (h.only hne)]
  have : (((accN st.2.1 st.2.2 : Nat) : Int) != 0) = true:=by simpa using (by lia : accN st.2.1 st.2.2 ≠ 0)
  rw [this]
  simp
private theorem Fold.nl_lines {i : Nat} {st : FSt} (h : Fold i st) (hi : i ≤ 100) : (∀ t ∈ q0w st.1 st.2.1 st.2.2,t.length ≤ 4096) ∧ (q0w st.1 st.2.1 st.2.2).length ≤ i + 1:=by
 unfold q0w
 have h1:=h.nl
 split
 ·refine ⟨fun t ht => ?_,by simp;exact h1⟩
  rcases List.mem_append.mp ht with ht | ht
  ·exact h.lines t ht
  ·simp at ht
   rw [ht]
   unfold nlOf
   split
   ·decide
   ·exact h.accStr_le hi
 ·exact ⟨h.lines,by lia⟩
private theorem q4e {l : List Nat} {b : Nat} (h : ∀ x ∈ l,x ≤ b) : l.sum ≤ b * l.length:=by
 induction l with
 | nil => simp
 | cons a l ih =>
  have h1:=h a (.head _)
  have h2:=ih fun q hq => h q (.tail _ hq)
  simp only [List.sum_cons,List.length_cons,Nat.mul_add,Nat.mul_one]
  lia
private theorem Fold.joinOk {i : Nat} {st : FSt} (h : Fold i st) (hi : i ≤ 100) : ((q0w st.1 st.2.1 st.2.2).map (·.length)).sum + (q0w st.1 st.2.1 st.2.2).length ≤ 1048576:=by
 obtain ⟨h1,h2⟩:=h.nl_lines hi
 have:=q4e (l:=(q0w st.1 st.2.1 st.2.2).map (·.length)) (b:=4096) fun x hx => by
  obtain ⟨t,ht,rfl⟩:=List.mem_map.mp hx
  exact h1 t ht
 rw [List.length_map] at this
 have : 4096 * (q0w st.1 st.2.1 st.2.2).length ≤ 4096 * 101:=Nat.mul_le_mul_left _ (by lia)
 lia
end
section
open PySem PySem.W PySem.Calls PyProof.Rows
variable {prog : Program} {w : World}
section
variable {C : Cfg} {mu mu' nu : List Addr} {s₀ s s' : Shared} {env : Env} {ρ : List (PySem.Str × PV)} {σ σ' : List (Addr × MO)} {A : Around} {E : Value → Shared → Prop}
private theorem q9s {value : Expr} {lower upper : Option Expr} {p pos : Pos} {lo hi : Option Int} {x : PySem.Str} (hv : PurE prog w C mu A env ρ σ value (.str x)) (h1 : q2r prog w C mu A env ρ σ lower lo) (h2 : q2r prog w C mu A env ρ σ upper hi) (hsz : x.length ≤ 2 ^ 20)
  (hpick : (Builtin.Str.strSliceIndices lo hi 1 x.length).length ≤ 2 ^ 20) : PurE prog w C mu A env ρ σ (.Subscript value (.Slice lower upper none p) pos) (.str (sSlice x lo hi)):=fun s O a Q E k => by
 refine Subscript_ (hv s O a _ _ fun v s₁ O₁ k₁ y₁ => wpAny_Slice (partS h1 O₁ (a.kp O k₁) fun l s₂ O₂ k₂ p₂ => partS h2 O₂ ((a.kp O k₁).kp O₁ k₂) fun u s₃ O₃ k₃ p₃ => ?_))
 rw [evalPart_none]
 refine wpAny_pure ?_
 obtain ⟨t,rfl⟩:=(y₁.kp0 O₁ k₂).kp0 O₂ k₃
 have hS : sizeLine = 2 ^ 24:=by decide +kernel
 have kk:=(k₁.trans k₂).trans k₃
 have hk : ∀ b o,s₃.heap.get? b = some o → (s₃.heap.push { cls:=.type "slice",data:=.fields #[partValue l,partValue u,.none] }).get? b = some o:=fun b o e => Heap.get?_push_of_some _ e
 refine tail_any (ops:=[.ref s₃.heap.objs.size,.str x t]) (typeIs_str _ x t) slot_str_getitem.lookup (wpAny_getItem_str_slice (l:=l) (u:=u) (st:=none) ⟨_,Heap.get?_push_size _ rfl,rfl,rfl⟩ rfl ?_) rfl
 have e : slicePicked x l u none = Builtin.Str.strSliceIndices lo hi 1 x.length:=by unfold slicePicked;rw [p₂,p₃];rfl
 unfold sliceMade
 rw [e]
 unfold sSlice at k
 by_cases hc : ((Builtin.Str.strSliceIndices lo hi 1 x.length).length == x.length) = true
 ·rw [hc] at k ⊢
  exact k _ _ (O₃.keep (tk:=s₃.toks) hk) (kk.trans (Kp.of_keep (tk:=s₃.toks) hk)) ⟨t,rfl⟩
 ·rw [Bool.not_eq_true] at hc
  rw [hc] at k ⊢
  refine ⟨?_,k _ _ (O₃.keep (tk:=s₃.toks + 1) hk) (kk.trans (Kp.of_keep (tk:=s₃.toks + 1) hk)) ⟨_,rfl⟩⟩
  show ((Builtin.Str.strSliceIndices lo hi 1 x.length).filterMap (x.cps[·]?)).toArray.size ≤ sizeLine
  rw [List.size_toArray]
  have:=List.length_filterMap_le (fun i => x.cps[i]?) (Builtin.Str.strSliceIndices lo hi 1 x.length)
  lia
noncomputable def q1z (l : List PV) (lo hi st : Option Int) : List PV:=(sliceRange (sliceBounds lo hi st l.length).1 (sliceBounds lo hi st l.length).2.1 (sliceBounds lo hi st l.length).2.2).filterMap (l[·]?)
private theorem q1i {value : Expr} {lower upper step : Option Expr} {p pos : Pos} {lo hi st : Option Int} {l : List PV} (hv : PurL prog w C mu A env ρ σ value l) (h1 : q2r prog w C mu A env ρ σ lower lo) (h2 : q2r prog w C mu A env ρ σ upper hi) (h3 : q2r prog w C mu A env ρ σ step st) (hst : st ≠ some 0) (hsz : l.length ≤ 2 ^ 20)
  (hops : ∀ o i,∃ ops,subscripted (.Slice lower upper step p) false o i = operate ops (getItem o i)) :
  PurNE prog w C mu A env ρ σ (.Subscript value (.Slice lower upper step p) pos) (q1z l lo hi st):=fun s O a Q E k => by
 refine Subscript_ (hv s O a _ _ fun v s₁ O₁ k₁ y₁ => wpAny_Slice (q5d h1 O₁ (a.kp O k₁) fun vl s₂ O₂ k₂ p₂ => q5d h2 O₂ ((a.kp O k₁).kp O₁ k₂) fun vu s₃ O₃ k₃ p₃ => q5d h3 O₃ (((a.kp O k₁).kp O₁ k₂).kp O₂ k₃) fun vs0 s₄ O₄ k₄ p₄ => ?_))
 obtain ⟨x,vs,n,rfl,ho,hvs⟩:=((y₁.kp0 O₁ k₂).kp0 O₂ k₃).kp0 O₃ k₄
 have hS : sizeLine = 2 ^ 24:=by decide +kernel
 have hlen : vs.toArray.size = l.length:=by simp [hvs.length]
 have kk:=((k₁.trans k₂).trans k₃).trans k₄
 have hl : s₄.heap.IsList x vs.toArray:=⟨_,ho,rfl,n,rfl⟩
 have hk : ∀ b o,s₄.heap.get? b = some o → ((s₄.heap.push { cls:=.type "slice",data:=.fields #[vl,vu,vs0] }).push { cls:=.type "list",data:=.seq (slicePick vs.toArray lo hi st) }).get? b = some o:=fun b o e => Heap.get?_push_of_some _ (Heap.get?_push_of_some _ e)
 have hnew : s₄.heap.get? (s₄.heap.objs.size + 1) = none:=Heap.get?_none_of_le (Nat.le_succ _)
 obtain ⟨ops,hs⟩:=hops (.ref x) (.ref s₄.heap.objs.size)
 refine tail_any (ops:=ops) (hl.push _).typeIs slot_list_getitem.lookup (wpAny_getItem_list_slice (hl.push _) (Heap.IsSliceOf.new ..) p₂ p₃ p₄ hst ?_ (by lia)) hs
 rw [Heap.size_push]
 refine k _ _ (O₄.keep (tk:=s₄.toks) hk) (kk.trans (Kp.of_keep (tk:=s₄.toks) hk)) (q7i O₄ kk hnew) ?_
 refine ⟨(sliceRange (sliceBounds lo hi st l.length).1 (sliceBounds lo hi st l.length).2.1 (sliceBounds lo hi st l.length).2.2).filterMap (vs[·]?),0,?_,((hvs.pick _).new hnew).keeps (fun _ _ z _ => z) fun b o _ _ e => hk b o e⟩
 have e : slicePick vs.toArray lo hi st = List.toArray ((sliceRange (sliceBounds lo hi st l.length).1 (sliceBounds lo hi st l.length).2.1 (sliceBounds lo hi st l.length).2.2).filterMap (vs[·]?)):=by
  unfold slicePick
  rw [hlen]
  simp
 rw [← e,show s₄.heap.objs.size + 1 = (s₄.heap.push { cls:=.type "slice",data:=.fields #[vl,vu,vs0] }).objs.size from (Heap.size_push ..).symm]
 exact Heap.get?_push_size _ rfl
private theorem sl_ops {lower upper step : Option Expr} {p : Pos} : (∀ o i,subscripted (.Slice lower upper step p) false o i = operate [i,o] (getItem o i)) ∨ (∀ o i,subscripted (.Slice lower upper step p) false o i = operate [o,i] (getItem o i)):=by
 cases step
 ·exact .inl fun _ _ => rfl
 ·exact .inr fun _ _ => rfl
private theorem q4n {lower upper step : Option Expr} {p : Pos} (o i : Value) : ∃ ops,subscripted (.Slice lower upper step p) false o i = operate ops (getItem o i):=by
 rcases (sl_ops : (∀ o i,subscripted (.Slice lower upper step p) false o i = operate [i,o] (getItem o i)) ∨ _) with h | h
 ·exact ⟨_,h o i⟩
 ·exact ⟨_,h o i⟩
end
end
section
open PySem PySem.W PySem.Calls PyProof.Rows
set_option maxHeartbeats 4000000
variable {prog : Program} {w : World} {P : Params} {C : Cfg}
noncomputable def q0o (W head : Int) (blank : PySem.Str) : List PySem.Str → FSt
 | [] => ([],[],head)
 | x :: xs => if 0 < head then xs.foldl (foldW W) (q1n W head blank x) else (x :: xs).foldl (foldW W) ([],[],head)
noncomputable def folded (W head : Int) (blank : PySem.Str) (ws : List PySem.Str) : PySem.Str:=PySem.Txt.join ⟨#[10]⟩ (q0w (q0o W head blank ws).1 (q0o W head blank ws).2.1 (q0o W head blank ws).2.2)
private theorem q3z {W head : Int} {blank : PySem.Str} {ws : List PySem.Str} {x : PySem.Str} : q0o W head blank (ws ++ [x]) = if 0 < head ∧ ws = [] then q1n W head blank x else foldW W (q0o W head blank ws) x:=by
 cases ws with
 | nil =>
  show (if 0 < head then _ else _) = _
  by_cases h : 0 < head
  ·rw [if_pos h,if_pos ⟨h,rfl⟩];rfl
  ·rw [if_neg h,if_neg (fun q => h q.1)];rfl
 | cons y ys =>
  rw [if_neg (fun q => by cases q.2),List.cons_append]
  show (if 0 < head then _ else _) = foldW W (if 0 < head then _ else _) x
  by_cases h : 0 < head
  ·rw [if_pos h,if_pos h,List.foldl_append];rfl
  ·rw [if_neg h,if_neg h,← List.cons_append,List.foldl_append];rfl
section
variable {mu mu' nu : List Addr} {s₀ s s' : Shared} {env : Env} {ρ : List (PySem.Str × PV)} {σ σ' : List (Addr × MO)} {A : Around} {E : Value → Shared → Prop} {a : FA} {od od2 : Obj} {lines : List PySem.Str} {l : List (PySem.Str × PySem.Str)} {W k : Int} {c : Nat}
private theorem fd_app {od : Obj} (h : FmtD od W c a.ln a.x) : lookIn ⟨#[95,97,112,112,101,110,100,95,99,104,117,110,107]⟩ od = some none:=by
 obtain ⟨h1,t1,u1,h2,t2,u2,h3,t3,u3,h4,t4,u4,h5,t5,h6,t6,n,rfl⟩:=h
 exact rfl
private theorem fd_str {od : Obj} (h : FmtD od W c a.ln a.x) : lookIn ⟨#[95,115,116,114]⟩ od = some none:=by
 obtain ⟨h1,t1,u1,h2,t2,u2,h3,t3,u3,h4,t4,u4,h5,t5,h6,t6,n,rfl⟩:=h
 exact rfl
private theorem q3o {e : Expr} {b b' : Bool} (h : PurB prog w C mu A env ρ σ e b) (q : b = b') : PurB prog w C mu A env ρ σ e b':=q ▸ h
private theorem pur_of {e : Expr} {p q : PV} (h : PurE prog w C mu A env ρ σ e p) (e' : p = q) : PurE prog w C mu A env ρ σ e q:=e' ▸ h
private theorem w2f (hC : CfgOk P C) (hp : ProgOk prog) {n : Nat} {o e1 e2 : Expr} {apos pos epos : Pos} {p q : PySem.Str} {pl : Sem Bool} {Q : Flow → Shared → Prop} (r : Rm A (n + 9)) (I : In C mu nu env ρ (sFmt a od lines l od2) s₀ s) (nd : a.all.Nodup) (hnu : ∀ b ∈ a.wr,b ∈ nu) (hd : FmtD od W c a.ln a.x) (hk : AccD od2 k)
  (ho : PurE prog w C mu A env ρ (sFmt a od lines l od2) o (.val (.ref a.f))) (h1 : PurE prog w C mu A env ρ (sFmt a od lines l od2) e1 (.str p)) (h2 : PurE prog w C mu A env ρ (sFmt a od lines l od2) e2 (.str q)) (h : ChOk l k p q) (hln : lines.length ≤ 4095)
  (kk : ∀ od' od2' s',FmtD od' W c a.ln a.x → AccD od2' (chunk W c lines l k p q).2.2 → In C mu nu env ρ (sFmt a od' (chunk W c lines l k p q).1 (chunk W c lines l k p q).2.1 od2') s₀ s' → Q .next s')
  (he : autoParam (eval (.Call (.Attribute o ⟨#[95,97,112,112,101,110,100,95,99,104,117,110,107]⟩ apos) [e1,e2] [] pos) env = (do let ov ← eval o env;standAt apos.atName;let __x ← holding [ov] (getMethod ov ⟨#[95,97,112,112,101,110,100,95,99,104,117,110,107]⟩ pl);match __x with | (f,first) => callWith pos f first (backTo pos (starEach [e1,e2] env)) [])) tR)
  (hs1 : autoParam (∀ env,starEach [e1,e2] env = (false,eval e1 env) :: starEach [e2] env) tR) (hs2 : autoParam (∀ env,starEach [e2] env = (false,eval e2 env) :: starEach [] env) tR)
  (hi : autoParam (interactive env = false) tR) (hsw : autoParam (swapsWith (.Call (.Attribute o ⟨#[95,97,112,112,101,110,100,95,99,104,117,110,107]⟩ apos) [e1,e2] [] pos) none epos.line env = pure false) tR) :
  wpAny (model prog w) A (exec (.Expr (.Call (.Attribute o ⟨#[95,97,112,112,101,110,100,95,99,104,117,110,107]⟩ apos) [e1,e2] [] pos) epos) env) Q E s:=by
 refine wpAny_Expr_any ?_ hi hsw
 refine q4j (pl:=pl) (q2d hC) I.ok I.act ho (q4o nd) (m_f_app hC) (t_f_app hC) (fd_app hd) (w4s hC) (q0c h1 (q0c h2 q0g hs2) hs1) (fun s₂ vs O₂ k₂ y₂ => ?_) he (hs1 env)
 have I₂:=I.next O₂ k₂
 refine fmt_app hC hp r O₂ (FmtAt.ofAct I₂.act nd hd hk) y₂ h hln _ _ fun v s₃ O₃ k₃ ha₃ _ => ?_
 obtain ⟨od3,od4,hd3,hk4,I₃⟩:=w2z I₂ nd hnu O₃ k₃ ha₃
 exact kk od3 od4 s₃ hd3 hk4 I₃
private theorem w1o (hC : CfgOk P C) (hp : ProgOk prog) {n : Nat} {W head : Int} {blank : PySem.Str} {ws : List PySem.Str} (hw : ∀ x ∈ ws,WordOk x) (hl : ws.length ≤ 100) (hb : blank = sEmpty ∨ blank = sBlank) (h0 : 0 ≤ head) (h1 : head ≤ 2 ^ 20) (hne : ws = [] → 0 < head) :
  FnOk prog w C q7k (n + 11) [.int head,.str blank,.int W,.lst (ws.map .str)] (.str (folded W head blank ws)):=by
 intro A mu r s vs O hy Q E kk
 have hlen:=hy.length
 refine q1o (ρc:=[]) (names:=[⟨#[104,101,97,100]⟩,⟨#[98,108,97,110,107]⟩,⟨#[119,105,100,116,104]⟩,⟨#[119,111,114,100,115]⟩]) ((q7y hC).at O) (n:=n + 10) r O hy (BindsTo.of_eq ?bind) rfl Clo.nil rfl rfl fun L s₁ hL I r' hk => ?_
 case bind =>
  obtain ⟨_,_,_,_,rfl⟩:=len4 hlen;rfl
 rw [List.append_nil] at I
 -- the writer
 refine q0a (wpAny_Assign_Name ?_ rfl)
 refine w5z hC hp (n:=n + 4) r' I (q0f (q0e hC rfl) rfl rfl) (k:=head) (W:=W) (c:=32) (by repeat' walk_at "pe") (fun a od od2 s₂ hn nd hd hk2 I₂ => ?_)
 rw [List.append_nil] at I₂
 have hnu : ∀ b ∈ a.wr,b ∈ a.all ++ [L]:=fun b hb => by simp at hb ⊢;rcases hb with h | h | h <;> simp [h]
 have hLn : L ∈ a.all ++ [L]:=by simp
 refine q3l (p:=.val (.ref a.f)) I₂ ⟨rfl,.inl ⟨rfl,hLn⟩⟩ rfl fun s₃ I₃ _ => ?_
 have hlw : (ws.map PV.str).length = ws.length:=List.length_map ..
 refine q0a (q3m (l:=rangeL 0 1 ws.length) I₃ r'.none (q0u (q0f (q0e hC rfl) rfl rfl) (hlw ▸ q1a (z:=.int (ws.map PV.str).length) (q0f (q0e hC rfl) rfl rfl) (q0c (q0b (p:=.lst (ws.map .str)) rfl rfl) q0g (fun _ => rfl)) (op_len (by rw [hlw];(with_reducible refine nae ?_;decide))) (fun _ => rfl) rfl) (by (with_reducible refine nae ?_;decide)))
  (fun i ρ σ => ∃ od od2,σ = sFmt a od (q0o W head blank (ws.take i)).1 (q0o W head blank (ws.take i)).2.1 od2 ∧ FmtD od W 32 a.ln a.x ∧ AccD od2 (q0o W head blank (ws.take i)).2.2 ∧ Fold i (q0o W head blank (ws.take i)) ∧ ((q0o W head blank (ws.take i)).2.1 = [] → i = 0) ∧ ρ.lookup ⟨#[119,114,105,116,101,114]⟩ = some (.val (.ref a.f)) ∧ ρ.lookup ⟨#[104,101,97,100]⟩ = some (.int head) ∧ ρ.lookup ⟨#[98,108,97,110,107]⟩ = some (.str blank) ∧ ρ.lookup ⟨#[119,111,114,100,115]⟩ = some (.lst (ws.map .str)))
  (fun _ _ _ _ => False) ?h0 ?turn ?kE (fun _ _ _ _ h _ => h.elim))
 case h0 => exact ⟨od,od2,rfl,hd,hk2,Fold.start h0 h1,fun _ => rfl,rfl,rfl,rfl,rfl⟩
 case turn =>
  intro i pv v ρ σ s₄ hp' hJ I₄ y
  refine q2a I₄ ⟨rfl,.inl ⟨rfl,hLn⟩⟩ y fun s₅ I₅ => ?_
  refine q1r fun K hK => ?_
  clear I₄ y
  obtain ⟨od,od2,rfl,hd,hk2,hF,hE,lw,lh,lb,lws⟩:=hJ
  have hi : i < ws.length:=by simpa [rangeL] using (List.getElem?_eq_some_iff.mp hp').1
  have hpv : pv = .int (i : Int):=by
   simp [rangeL,hi] at hp'
   exact hp'.symm
  subst hpv
  obtain ⟨x,hx⟩ : ∃ x,ws[i]? = some x:=⟨_,List.getElem?_eq_getElem hi⟩
  have hW : WordOk x:=hw x (List.mem_of_getElem? hx)
  have htk : ws.take (i + 1) = ws.take i ++ [x]:=by rw [List.take_add_one,hx];rfl
  have hpx : (ws.map PV.str)[i]? = some (.str x):=by rw [List.getElem?_map,hx];rfl
  have hxl:=hW.len
  have hxs : x.cps.size = x.length:=rfl
  have item : ∀ {σ p1 p2 p3},PurE prog w C (a.all ++ L :: mu) (A.deeper (callEnv (q7c P) L q7k)) (callEnv (q7c P) L q7k) ((⟨#[107]⟩,.int (i : Int)) :: ρ) σ (.Subscript (.Name ⟨#[119,111,114,100,115]⟩ p1) (.Name ⟨#[107]⟩ p2) p3) (.str x):=fun {σ p1 p2 p3} =>
   q0z (q0l (q0b lws rfl)) (q0b rfl rfl) hpx (by rw [hlw];(with_reducible refine nae ?_;decide))
  have lh' : ((⟨#[107]⟩,PV.int (i : Int)) :: ρ).lookup ⟨#[104,101,97,100]⟩ = some (.int head):=lh
  by_cases hc : 0 < head ∧ i = 0
  ·obtain ⟨hh,rfl⟩:=hc
   refine q0a (st_IfT I₅ (by refine q3o (b:=decide (0 < head) && ((((0 : Nat) : Int) == 0) && true)) ?_ (by simp [hh]);refine q2j (pos':=default) (q0i (q0b lh' rfl) q0m op_gt rfl) fun _ => ?_;refine q2j (pos':=default) ?_ fun _ => q5c;exact q0i (q0b (p:=.int ((0 : Nat) : Int)) rfl rfl) q0m op_eq rfl) fun s₆ I₆ => ?_)
   refine q0a (w2f hC hp (n:=n + 1) (p:=blank) (q:=x) r' I₆ nd hnu hd hk2 (q0b lw rfl) (q0b lb rfl) item (Fold.chHead hW hb h0 h1) (Nat.zero_le _) (fun od' od2' s₇ hd' hk' I₇ => ?_))
   have e : chunk W 32 (q0o W head blank (ws.take 0)).1 (q0o W head blank (ws.take 0)).2.1 (q0o W head blank (ws.take 0)).2.2 blank x = q0o W head blank (ws.take (0 + 1)):=by
    rw [htk,q3z,if_pos ⟨hh,rfl⟩]
    exact w9a hh hb
   rw [e] at hk' I₇
   refine wpAny_execs_nil (wpAny_execs_nil (hK _ _ ⟨_,_,I₇,od',od2',rfl,hd',hk',?_,?_,lw,lh,lb,lws⟩))
   ·rw [htk,q3z,if_pos ⟨hh,rfl⟩];exact (Fold.headOk hW hb h0 h1).1
   ·rw [htk,q3z,if_pos ⟨hh,rfl⟩];exact fun q => absurd q (Fold.headOk hW hb h0 h1).2
  ·have hc' : (decide (0 < head) && (((i : Int) == 0) && true)) = false:=by
    by_cases hh : 0 < head
    ·have : ((i : Int) == 0) = false:=by
      rw [beq_eq_false_iff_ne]
      intro q
      exact hc ⟨hh,by lia⟩
     rw [this];simp
    ·simp [hh]
   have hl0 : (q0o W head blank (ws.take i)).2.1 = [] → (q0o W head blank (ws.take i)).2.2 = 0:=fun q => by
    have:=hE q
    subst this
    show head = 0
    by_cases hh : 0 < head
    ·exact absurd ⟨hh,rfl⟩ hc
    ·lia
   refine q0a (st_IfE I₅ (by refine q3o ?_ hc';refine q2j (pos':=default) (q0i (q0b lh' rfl) q0m op_gt rfl) fun _ => ?_;refine q2j (pos':=default) ?_ fun _ => q5c;exact q0i (q0b (p:=.int (i : Int)) rfl rfl) q0m op_eq rfl) fun s₆ I₆ => ?_)
   obtain ⟨q1,q2⟩:=hF.ch2 (W:=W) hW (by lia) hl0
   refine q0a (w2f hC hp (n:=n + 1) (p:=sBlank) (q:=wHead x) r' I₆ nd hnu hd hk2 (q0b lw rfl) q1m (hW.hd ▸ q6s (j:=0) item q0m hW.head (by lia)) (hF.ch1 hW (by lia)) (by have:=hF.nl;lia) (fun od' od2' s₇ hd' hk' I₇ => ?_))
   refine q0a (w2f hC hp (n:=n + 1) (p:=sEmpty) (q:=wTail x) r' I₇ nd hnu hd' hk' (q0b lw rfl) q1m (hW.slice ▸ q9s (lo:=some 1) (hi:=none) item (part1 q0m) part0 (by lia) hW.picks) q1 (by lia) (fun od' od2' s₈ hd' hk' I₈ => ?_))
   have e:=w8z (W:=W) (lines:=(q0o W head blank (ws.take i)).1) hW hF.k0 hl0
   have e2 : q0o W head blank (ws.take (i + 1)) = foldW W (q0o W head blank (ws.take i)) x:=by
    rw [htk,q3z,if_neg (fun q => hc ⟨q.1,by
     have : (ws.take i).length = 0:=by rw [q.2];rfl
     rw [List.length_take] at this;with_reducible exact nf3⟩)]
   rw [show (if (q0o W head blank (ws.take i)).2.1 ≠ [] ∧ W < accLen (q0o W head blank (ws.take i)).2.1 (q0o W head blank (ws.take i)).2.2 + 1 + x.length then ((q0o W head blank (ws.take i)).1 ++ [accStr (q0o W head blank (ws.take i)).2.1],chunks x,(0 : Int)) else ((q0o W head blank (ws.take i)).1,(q0o W head blank (ws.take i)).2.1 ++ chunks x,(q0o W head blank (ws.take i)).2.2)) = q0o W head blank (ws.take (i + 1)) from e2.symm] at e
   rw [e] at hk' I₈
   refine wpAny_execs_nil (wpAny_execs_nil (hK _ _ ⟨_,_,I₈,od',od2',rfl,hd',hk',?_,?_,lw,lh,lb,lws⟩))
   ·rw [e2];exact hF.step hW (by lia)
   ·rw [e2];exact fun q => absurd q Fold.ne
 case kE =>
  rintro ρ σ s₄ ⟨od,od2,rfl,hd,hk2,hF,hE,lw,lh,lb,lws⟩ I₄
  have hall : ws.take (rangeL 0 1 ws.length).length = ws:=by rw [show (rangeL 0 1 ws.length).length = ws.length by simp [rangeL]];exact List.take_length ..
  rw [hall] at hk2 hF I₄
  have hrl : (rangeL 0 1 ws.length).length = ws.length:=by simp [rangeL]
  rw [hrl] at hF
  refine wpAny_execs_nil (q0a (wpAny_Return_some ?_))
  refine q4j (ps:=[.str ⟨#[10]⟩]) (q2d hC) I₄.ok I₄.act (q0b lw rfl) (q4o nd) (m_f__str hC) (z2v hC) (fd_str hd) (w1u hC) (q0c q1m q0g (fun _ => rfl)) (fun s₅ vs O₅ k₅ y₅ => ?_)
  have I₅:=I₄.next O₅ k₅
  refine fmt_str hC hp (n:=n + 1) r' O₅ (FmtAt.ofAct I₅.act nd hd hk2) y₅ (hF.nlOk hl) (by have:=hF.nl;lia) (by decide) (hF.joinOk hl) _ _ fun v s₆ O₆ k₆ ha₆ y₆ => ?_
  obtain ⟨od3,od4,hd3,hk4,I₆⟩:=w2z I₅ nd hnu O₆ k₆ ha₆
  refine kk v s₆ (I₆.ok.sub fun b h => List.mem_append_right _ (.tail _ h)) ⟨fun b o _ ht e => I₆.kp.keep b o (fun q => ?_) ht e⟩ (y₆.sub fun b h => List.mem_append_right _ (.tail _ h))
  rcases List.mem_append.mp q with q | q
  ·rw [I.unborn (hn b q)] at e;cases e
  ·simp at q;rw [q,hL] at e;cases e
end
end
section
open PySem PySem.W PySem.Calls PyProof.Rows
variable {prog : Program} {w : World}
section
variable {C : Cfg} {mu mu' nu : List Addr} {s₀ s s' : Shared} {env : Env} {ρ : List (PySem.Str × PV)} {σ σ' : List (Addr × MO)} {A : Around} {E : Value → Shared → Prop}
private theorem op_abs {a : Int} : OpL prog w C mu A (fun vs => call (.builtin "abs") vs) [.int a] (.int (if a < 0 then -a else a)):=fun s vs O hy => by
 obtain ⟨v,r,rfl,⟨t,rfl⟩,hr⟩:=hy
 cases (show r = [] from hr)
 exact Pur.here O fun Q E k => PyProof.Rows.call_abs_int fun u tk => k _ tk ⟨u,rfl⟩
private theorem op_pow {a b : Int} (hb : 0 < b) (ha : 1 < a) (ht : ¬ Builtin.Int.intTooBig (((Builtin.Int.intBits a : Nat) : Int) * b) = true) : Op2 prog w C mu A (binaryOp .Pow) (.int a) (.int b) (.int (a ^ b.toNat)):=fun s x y O ⟨t,hx⟩ ⟨u,hy⟩ => by
 subst hx hy
 exact Pur.here O fun Q E k => PySem.AutoIntOps.pow_4 (by lia) (by simp;lia) (by simp;lia) (by simp;lia) ht (k _ _ ⟨_,rfl⟩)
private theorem w8i {x : PySem.Str} {n : Nat} (hx : x.length * n ≤ 2 ^ 20) (hn : n ≤ 2 ^ 20) (hx2 : x.length ≤ 2 ^ 20) : Op2 prog w C mu A (binaryOp .Mult) (.str x) (.int n) (.str ⟨((List.replicate n x.cps.toList).flatten).toArray⟩):=fun s a b O ⟨t,hx'⟩ ⟨u,hy⟩ => by
 subst hx' hy
 have hS : sizeLine = 2 ^ 24:=by decide +kernel
 have e : (List.replicate n x.cps).foldl (· ++ ·) #[] = ((List.replicate n x.cps.toList).flatten).toArray:=by
  have : ∀ (m : Nat) (acc : List Nat),(List.foldl (fun x1 x2 : Array Nat => x1 ++ x2) acc.toArray (List.replicate m x.cps)) = (acc ++ (List.replicate m x.cps.toList).flatten).toArray:=fun m => by
   induction m with
   | zero => intro acc;simp
   | succ m ih =>
    intro acc
    rw [List.replicate_succ,List.foldl_cons,List.append_toArray,ih,List.replicate_succ,List.flatten_cons,List.append_assoc]
  simpa using this n []
 refine Pur.here O fun Q E k => PySem.P.mul_str (by simp;lia) (fun h1 h2 => ?_) (fun h1 h2 => ?_) ?_
 ·have h3 : (n : Int) ≤ 2 ^ 20:=by lia
  have h4 : (2 ^ 20 : Int) ≤ (2 ^ 63 - 1) / (n : Int):=by
   rw [Int.le_ediv_iff_mul_le (by lia)]
   have : (2 ^ 20 : Int) * n ≤ 2 ^ 20 * 2 ^ 20:=Int.mul_le_mul_of_nonneg_left h3 (by decide)
   lia
  lia
 ·unfold Builtin.Str.tooLong
  rw [Int.toNat_natCast]
  simp;(with_reducible refine nad ?_;decide)
 ·by_cases h1 : (n : Int) < 1
  ·rw [if_pos h1]
   have h0 : n = 0:=by lia
   subst h0
   exact ⟨by decide,k _ _ ⟨_,rfl⟩⟩
  ·rw [if_neg h1]
   by_cases h2 : (((n : Int) == 1) || x.length == 0) = true
   ·rw [if_pos h2]
    refine k _ _ ⟨t,?_⟩
    rw [← e]
    rw [Bool.or_eq_true,beq_iff_eq,beq_iff_eq] at h2
    rcases h2 with h2 | h2
    ·have : n = 1:=by lia
     subst this
     simp
    ·have : x.cps = #[]:=Array.eq_empty_of_size_eq_zero h2
     have hx0 : x = ⟨#[]⟩:=by cases x;simp at this;rw [this]
     rw [hx0]
     congr
     have : ∀ m,List.foldl (fun x1 x2 : Array Nat => x1 ++ x2) #[] (List.replicate m #[]) = #[]:=fun m => by
      induction m with
      | zero => rfl
      | succ m ih => rw [List.replicate_succ,List.foldl_cons];exact ih
     exact congrArg Array.toList (this n).symm
   ·rw [if_neg h2,Int.toNat_natCast,e]
    refine ⟨?_,k _ _ ⟨_,rfl⟩⟩
    show (List.toArray _).size ≤ sizeLine
    rw [List.size_toArray,List.length_flatten]
    simp
    have : x.cps.size * n ≤ 2 ^ 20:=hx
    rw [Nat.mul_comm] at this
    (with_reducible refine nad ?_;decide)
private theorem w3u {h : Heap} : ∀ l : List (PySem.Str × Tok),Sims h mu ((l.map (·.1)).map .str) (strValues l)
 | [] => rfl
 | p :: r => ⟨_,_,rfl,⟨p.2,rfl⟩,w3u r⟩
private theorem w6w {x y : PySem.Str} (hy : (y.length == 0) = false) (hsz : x.length ≤ 2 ^ 20) : OpL prog w C mu A (fun vs => call (.builtin "str.split") vs) [.str x,.str y] (.lst ((PySem.Txt.split x y).map .str)):=fun s vs O hv => by
 obtain ⟨v,r,rfl,⟨t,rfl⟩,v₂,r₂,rfl,⟨u,rfl⟩,hr⟩:=hv
 cases (show r₂ = [] from hr)
 have hS : sizeLine = 2 ^ 24:=by decide +kernel
 refine Pur.newSeq (tuple:=false) O fun Q E k => ?_
 have fin : ∀ (l : List (PySem.Str × Tok)) tk,l.map (·.1) = PySem.Txt.split x y → Q (.ref s.heap.objs.size) { s with toks:=tk,heap:=s.heap.push { cls:=.type "list",data:=.seq (strValues l).toArray } }:=fun l tk e =>
  k (strValues l) 0 tk _ (e ▸ w3u l) (fun b o e => Heap.get?_push_of_some _ e) _ (Ok.size_none s) (Heap.get?_push_size _ rfl)
 have hn : (Builtin.Str.partsBetween x (Builtin.Str.occurrences x y 0 x.length (x.length + 1)) y.length).length ≤ sizeLine:=by
  have e1:=StrLaws.occ_length_le x y 0 x.length (x.length + 1)
  rw [length_partsBetween];lia
 cases h1 : (decide (x.length < y.length) || decide (Builtin.Str.strKind x < Builtin.Str.strKind y))
 ·cases hf : (Builtin.Str.occurrences x y 0 x.length (x.length + 1)).isEmpty
  ·refine call_meets PySem.F.slot_str_split (typeIs_str _ _ _) PySem.F.entry_str_split (PySem.F.args_str_split_2 _ _) (meets_str_split_sep x y t u h1 hy hf (by (with_reducible refine nad ?_;decide)) hn) ?_
   show wants Q E _ { s with toks:=_,heap:=s.heap.push { cls:=.type "list",data:=.seq (strsFrom s.toks (Builtin.Str.partsBetween x (Builtin.Str.occurrences x y 0 x.length (x.length + 1)) y.length)).toArray } }
   rw [strsFrom_eq]
   exact fin (numbered s.toks _) _ ((numbered_texts _ _).trans ((if_neg (ne_true_of_eq_false h1)).trans (if_neg (ne_true_of_eq_false hf))).symm)
  ·exact call_meets PySem.F.slot_str_split (typeIs_str _ _ _) PySem.F.entry_str_split (PySem.F.args_str_split_2 _ _) (meets_str_split_not_found x y t u h1 hy hf)
    (fin [(x,t)] s.toks ((if_neg (ne_true_of_eq_false h1)).trans (if_pos hf)).symm)
 ·exact call_meets PySem.F.slot_str_split (typeIs_str _ _ _) PySem.F.entry_str_split (PySem.F.args_str_split_2 _ _) (meets_str_split_cannot_occur x y t u h1)
   (fin [(x,t)] s.toks (if_pos h1).symm)
private theorem q5p {l m : List PV} (hsz : l.length + m.length ≤ 2 ^ 20) : Op2N prog w C mu A (binaryOp .Add) (.lst l) (.lst m) (l ++ m):=fun s a b O ha hb => by
 obtain ⟨x,vs,n,rfl,hx,ho,hv⟩:=ha
 obtain ⟨y,ws,n2,rfl,hy,ho2,hw⟩:=hb
 have hS : sizeLine = 2 ^ 24:=by decide +kernel
 refine PurN.alloc O fun Q E k => ?_
 refine PySem.P.add_list (items:=vs.toArray) (items2:=ws.toArray) (n:=n) (n2:=n2) ho ho2 ?_ (by rw [List.size_toArray,List.size_toArray,hv.length,hw.length];(with_reducible refine nad ?_;decide))
 refine k (vs ++ ws) 0 s.toks _ (hv.append hw) (fun b o e => Heap.get?_push_of_some _ e) _ (Ok.size_none s) ?_
 rw [Heap.get?_push_size _ rfl]
 simp
private theorem z0k {l : List PV} (hu : A.units < cLine) : Op2 prog w C mu A (compareOp .Eq) (.lst l) (.lst []) (.bool (l.length == 0)):=fun s a b O ha hb => by
 obtain ⟨x,vs,n,rfl,hx,ho,hv⟩:=ha
 obtain ⟨y,ws,n2,rfl,hy,ho2,hw⟩:=hb
 cases (show ws = [] from hw)
 have hl : s.heap.IsList x vs.toArray:=⟨_,ho,rfl,n,rfl⟩
 have hb : s.heap.IsList y ([] : List Value).toArray:=⟨_,ho2,rfl,n2,rfl⟩
 refine Pur.here O fun Q E k => ?_
 cases h : (l.length == 0) with
 | true =>
  have hl0 : vs = []:=by rw [← List.length_eq_zero_iff,hv.length];simpa using h
  subst hl0
  exact PySem.SeqAt.eq_listAt (e:=fun _ => true) hl hb rfl hu (fun j h1 _ => absurd h1 (by simp)) (k _ s.toks (by rw [h];rfl))
 | false =>
  have hl0 : vs.length ≠ 0:=by rw [hv.length];simpa using h
  exact PySem.SeqAt.eq_list_lengthsAt hl hb (by simp;exact fun q => hl0 (by rw [q];rfl)) hu (k _ s.toks (by rw [h];rfl))
end
end
section
open PySem PySem.W PySem.Calls PyProof.Rows
noncomputable def q9i (sc : List Int) (k st : Nat) : List Int:=(sliceRange (sliceBounds (some (k : Int)) none (some (st : Int)) sc.length).1 (sliceBounds (some (k : Int)) none (some (st : Int)) sc.length).2.1 (sliceBounds (some (k : Int)) none (some (st : Int)) sc.length).2.2).filterMap (sc[·]?)
private theorem filterMap_map {α β : Type} (f : α → β) (l : List α) (is : List Nat) : is.filterMap ((l.map f)[·]?) = (is.filterMap (l[·]?)).map f:=by
 induction is with
 | nil => rfl
 | cons i is ih =>
  rw [List.filterMap_cons,List.filterMap_cons]
  simp only [List.getElem?_map] at ih ⊢
  cases h : l[i]? with
  | none => simp [ih]
  | some a => simp [ih]
private theorem w7u (sc : List Int) (k st : Nat) : q1z (sc.map .int) (some (k : Int)) none (some (st : Int)) = (q9i sc k st).map .int:=by
 unfold q1z q9i
 rw [filterMap_map,List.length_map]
private theorem w3q {sc : List Int} {k : Nat} (hs : sc.length ≤ 63) (hk : k < 8) : (q9i sc k 8).length ≤ 2 ^ 20:=by
 have h : ∀ n,n < 64 → ∀ k : Nat,k < 8 → (sliceRange (sliceBounds (some (k : Int)) none (some ((8 : Nat) : Int)) n).1 (sliceBounds (some (k : Int)) none (some ((8 : Nat) : Int)) n).2.1 (sliceBounds (some (k : Int)) none (some ((8 : Nat) : Int)) n).2.2).length ≤ 8:=by decide +kernel
 exact Nat.le_trans (List.length_filterMap_le _ _) (Nat.le_trans (h sc.length (by (with_reducible refine nae ?_;decide)) k hk) (by decide))
noncomputable def kAdd : List Int:=[1,0,2,0,1,3,68,0]
noncomputable def numF (sc : List Int) (k : Nat) : Int:=(q9i sc k 8).sum + kAdd.getD k 0
noncomputable def wordOf (x : Int) (k : Nat) : PySem.Str:=⟨(List.replicate (1 + (x.fmod 5).toNat) (97 + k)).toArray⟩
private theorem q5r (x : Int) (n : Nat) (hn : 0 < n) : 0 ≤ x.fmod n ∧ x.fmod n < n:=⟨Int.fmod_nonneg_of_pos _ (by lia),Int.fmod_lt_of_pos _ (by lia)⟩
noncomputable def q2g (ns : List Int) : List PySem.Str:=(List.range 5).map fun k => wordOf (ns.getD k 0) k
noncomputable def q3j (ns : List Int) : Int:=5 + (ns.getD 5 0).fmod 16
noncomputable def absI (a : Int) : Int:=if a < 0 then -a else a
noncomputable def baseOf (ns : List Int) : Int:=(32 + (absI (ns.getD 6 0)).fmod ((10 : Int) ^ (99 : Int).toNat)) * 2 ^ ((ns.getD 7 0).fmod 4200).toNat
noncomputable def roomOf (ws : List PySem.Str) (i k : Nat) : Int:=(((ws.take (k + 1)).drop i).map fun x => 1 + (x.length : Int)).sum
noncomputable def apF (ws : List PySem.Str) (W : Int) (i k : Nat) : Bool:=decide (W < roomOf ws i k)
private theorem w0l {ns : List Int} {i : Nat} (h : i < ns.length) : (ns.map PV.int)[i]? = some (.int (ns.getD i 0)):=by
 rw [List.getElem?_map,List.getD_eq_getElem?_getD,List.getElem?_eq_getElem h];rfl
private theorem w2u {α : Type} {f : Nat → α} {n i : Nat} (h : i < n) : ((List.range n).map f)[i]? = some (f i):=by
 rw [List.getElem?_map,List.getElem?_range h];rfl
end
section
open PySem PySem.Sre
noncomputable def iter : Nat → M → M
 | 0,m => m
 | k + 1,m => iter k m.step
private theorem w3r {m : M} (h : m.outcome.isSome = true) : m.step = m:=by unfold M.step;rw [if_pos h]
private theorem q5f {m : M} (h : m.outcome.isSome = true) : ∀ k,iter k m = m
 | 0 => rfl
 | k + 1 => by rw [iter,w3r h];exact q5f h k
private theorem q6y (a b : Nat) (m : M) : iter (a + b) m = iter b (iter a m):=by
 induction a generalizing m with
 | zero => simp [iter]
 | succ a ih => rw [show a + 1 + b = (a + b) + 1 by lia];exact ih m.step
private theorem q9o : ∀ (k : Nat) (m : M),M.runFor k m = iter k m
 | 0,_ => rfl
 | k + 1,m => by
  unfold M.runFor iter
  by_cases h : m.outcome.isSome = true
  ·rw [if_pos h,w3r h,q5f h]
  ·rw [if_neg h];exact q9o k m.step
noncomputable def Goes (k : Nat) (m m' : M) : Prop:=∃ j,j ≤ k ∧ iter j m = m'
private theorem Goes.trans {a b : Nat} {m m' m'' : M} (x : Goes a m m') (y : Goes b m' m'') : Goes (a + b) m m'':=by
 obtain ⟨i,h1,h2⟩:=x
 obtain ⟨j,h3,h4⟩:=y
 exact ⟨i + j,by lia,by rw [q6y,h2,h4]⟩
private theorem Goes.one {m m' : M} (h : m.step = m') : Goes 1 m m':=⟨1,Nat.le_refl _,h⟩
private theorem Goes.cons {k : Nat} {m m' m'' : M} (h : m.step = m') (y : Goes k m' m'') : Goes (k + 1) m m'':=Nat.add_comm 1 k ▸ (Goes.one h).trans y
private theorem Goes.mono {a b : Nat} {m m' : M} (x : Goes a m m') (h : a ≤ b) : Goes b m m':=let ⟨j,h1,h2⟩:=x;⟨j,Nat.le_trans h1 h,h2⟩
section
variable {M' : Model} {A : Around} {E : Value → Shared → Prop} {s : Shared}
open PySem.Builtin.Re
private theorem w7g {m' : Sre.M} {Q : Sre.M → Shared → Prop} (hm : m'.outcome.isSome = true) (hQ : Q m' s) : ∀ (t k : Nat) (m : Sre.M),iter k m = m' → k ≤ 4 * t → 0 < t → wpAny M' A (reDrive t m) Q E s
 | 0,_,_,_,_,h => by lia
 | t + 1,k,m,h,hk,_ => by
  unfold reDrive
  show wpAny M' A (if (M.runFor 4 m).outcome.isSome then pure (M.runFor 4 m) else do rule "sre.turn";reDrive t (M.runFor 4 m)) Q E s
  rw [q9o]
  by_cases ho : (iter 4 m).outcome.isSome = true
  ·rw [if_pos ho]
   have : iter 4 m = m':=by
    by_cases h4 : k ≤ 4
    ·rw [show 4 = k + (4 - k) by with_reducible exact nc4,q6y,h,q5f hm]
    ·rw [show k = 4 + (k - 4) by lia,q6y,q5f ho] at h
     exact h
   rw [this]
   exact wpAny_pure hQ
  ·rw [if_neg ho]
   have h4 : 4 < k:=by
    apply Nat.lt_of_not_le
    intro h4
    apply ho
    rw [show 4 = k + (4 - k) by with_reducible exact nc4,q6y,h,q5f hm]
    exact hm
   refine wpAny_bind (wpAny_rule ?_)
   refine w7g hm hQ t (k - 4) _ ?_ (by lia) (by lia)
   rw [← q6y,show 4 + (k - 4) = k by lia]
   exact h
private theorem rules_wp {α : Type} {t : Sem α} {Q : α → Shared → Prop} {f : Nat → Bool} {g : Nat → String} (h : wpAny M' A t Q E s) (l : List Nat) : wpAny M' A (do
  for i in l do
   if f i then rule (g i)
  t) Q E s:=by
 refine wpAny_bind ?_
 have : ∀ l : List Nat,wpAny M' A (forIn l PUnit.unit fun i _ => if f i = true then do rule (g i);pure (ForInStep.yield PUnit.unit) else pure (ForInStep.yield PUnit.unit)) (fun _ s' => wpAny M' A t Q E s') E s:=by
  intro l
  induction l with
  | nil => exact wpAny_pure h
  | cons i l ih =>
   rw [List.forIn_cons]
   refine wpAny_bind ?_
   by_cases hf : f i = true
   ·rw [if_pos hf]
    exact wpAny_bind (wpAny_rule (wpAny_pure ih))
   ·rw [if_neg hf]
    exact wpAny_pure ih
 exact this l
private theorem run_wp {m m' : Sre.M} {k : Nat} {Q : Option Sre.M → Shared → Prop} (h : Goes k m m') (hk : k ≤ 2 ^ 60) (hm : (m'.outcome = some .matched ∧ Q (some m') s) ∨ (m'.outcome = some .failed ∧ Q none s)) : wpAny M' A (reRunToEnd m) Q E s:=by
 obtain ⟨j,h1,h2⟩:=h
 unfold reRunToEnd
 have ho : m'.outcome.isSome = true:=by rcases hm with ⟨h,_⟩ | ⟨h,_⟩ <;> rw [h] <;> rfl
 refine wpAny_bind (w7g ho ?_ _ j m h2 (by lia) (by decide))
 refine rules_wp (t:=match m'.outcome with
  | some .matched => pure (some m')
  | some .failed => pure none
  | some (.stuck why) => unsupported s!"_sre:{why}"
  | none => unsupported "internal:sre:no-outcome") (f:=m'.seen.has) (g:=fun i => Sre.names.getD i "") ?_ _
 rcases hm with ⟨h,q⟩ | ⟨h,q⟩
 ·rw [h];exact wpAny_pure q
 ·rw [h];exact wpAny_pure q
end
end
section
open PySem PySem.Sre
noncomputable def c1 : Array Nat:=#[14,4,0,1,1,6,1,16,46,1]
noncomputable def fr (pc p : Nat) (first : Bool) : Sre.Frame:={ wait:=.nextStart,pc:=pc,pos:=p,outermost:=first }
noncomputable def m1 (text : Array Nat) (p : Nat) (first : Bool) (seen : Seen) (st : Nat) : M:=
 { code:=c1,text:=text,lim:=text.size,start:=p,lastStart:=text.size,pc:=5,pos:=p,handed:=p,outermost:=first,marks:=#[],frames:=[fr 5 p first],weight:=1,seen:=seen }
noncomputable def atB (text : Array Nat) (p : Nat) : Bool:=p == 0 || text.getD (p - 1) 0 == 10
private theorem m1_at (text : Array Nat) (p : Nat) (first : Bool) (seen : Seen) (st : Nat) :
  (m1 text p first seen st).step = if atB text p then { m1 text p first ((seen.add 6).add 44) st with pc:=7 } else { m1 text p first ((seen.add 6).add 44) st with answer:=some false }:=by
 rfl
private theorem m1_lit (text : Array Nat) (p : Nat) (first : Bool) (seen : Seen) (st : Nat) :
  ({ m1 text p first seen st with pc:=7 } : M).step = if p ≥ text.size then { m1 text p first (seen.add 16) st with pc:=7,answer:=some false } else
   if text.getD p 0 == 46 then { m1 text p first (seen.add 16) st with pc:=9,pos:=p + 1 } else { m1 text p first (seen.add 16) st with pc:=7,answer:=some false }:=by
 show (if p ≥ text.size then _ else match accepts c1 7 (text.getD p 0) _ with | .error why => _ | .ok (false,seen) => _ | .ok (true,seen) => _) = _
 by_cases h : p ≥ text.size
 ·rw [if_pos h,if_pos h];rfl
 ·rw [if_neg h,if_neg h]
  show (match (Except.ok (text.getD p 0 == 46,seen.add 16) : Except String (Bool × Seen)) with | .error why => _ | .ok (false,seen) => _ | .ok (true,seen) => _) = _
  cases text.getD p 0 == 46 <;> rfl
private theorem m1_fail (text : Array Nat) (p : Nat) (first : Bool) (seen : Seen) (st pc : Nat) (hl : text.size < 2 ^ 24) :
  ({ m1 text p first seen st with pc:=pc,answer:=some false } : M).step = if p < text.size then m1 text (p + 1) false seen st else { m1 text p first seen st with frames:=[],weight:=0,answer:=some false }:=by
 show (if p < text.size then _ else _) = _
 by_cases h : p < text.size
 ·rw [if_pos h,if_pos h];rfl
 ·rw [if_neg h,if_neg h];rfl
private theorem m1_succ (text : Array Nat) (p : Nat) (first : Bool) (seen : Seen) (st : Nat) :
  iter 3 ({ m1 text p first seen st with pc:=9,pos:=p + 1 } : M) = { m1 text p first (seen.add 1) st with pc:=5,pos:=p,handed:=p + 1,frames:=[],weight:=0,answer:=some true,outcome:=some .matched }:=by
 cases first <;> rfl
noncomputable def q0x (text : Array Nat) (p : Nat) : Option Nat:=
 if p < text.size then (if atB text p && text.getD p 0 == 46 then some p else q0x text (p + 1)) else none
termination_by text.size - p
private theorem m1_goes (text : Array Nat) (hl : text.size < 2 ^ 24) (st : Nat) : ∀ (k p : Nat) (first : Bool) (seen : Seen),text.size - p = k → p ≤ text.size → ∃ m',Goes (5 * k + 5) (m1 text p first seen st) m' ∧
  match q0x text p with | some q => m'.outcome = some .matched ∧ m'.start = q ∧ m'.handed = q + 1 | none => m'.outcome = some .failed:=by
 intro k
 induction k using Nat.strongRecOn with
 | ind k IH =>
  intro p first seen hk hp
  have fails : ∀ (seen : Seen) (pc : Nat),(p < text.size → q0x text p = q0x text (p + 1)) → ∃ m',Goes (5 * k + 2) ({ m1 text p first seen st with pc:=pc,answer:=some false } : M) m' ∧
    match q0x text p with | some q => m'.outcome = some .matched ∧ m'.start = q ∧ m'.handed = q + 1 | none => m'.outcome = some .failed:=fun seen pc hn => by
   have h1:=m1_fail text p first seen st pc hl
   by_cases hlt : p < text.size
   ·rw [if_pos hlt] at h1
    obtain ⟨m',g,r⟩:=IH (k - 1) (by with_reducible exact na2) (p + 1) false seen (by with_reducible exact na1) (by lia)
    rw [hn hlt]
    exact ⟨m',(Goes.cons h1 g).mono (by with_reducible exact ng1),r⟩
   ·rw [if_neg hlt] at h1
    refine ⟨_,(Goes.cons h1 (Goes.one rfl)).mono (by lia),?_⟩
    unfold q0x
    rw [if_neg hlt]
    rfl
  have h1:=m1_at text p first seen st
  by_cases ha : atB text p = true
  ·rw [if_pos ha] at h1
   have h2:=m1_lit text p first ((seen.add 6).add 44) st
   by_cases hlt : p ≥ text.size
   ·rw [if_pos hlt] at h2
    obtain ⟨m',g,r⟩:=fails _ 7 (fun h => absurd h (by lia))
    exact ⟨m',(Goes.cons h1 (Goes.cons h2 g)).mono (by lia),r⟩
   ·rw [if_neg hlt] at h2
    by_cases hd : (text.getD p 0 == 46) = true
    ·rw [if_pos hd] at h2
     refine ⟨_,(Goes.cons h1 (Goes.cons h2 ⟨3,Nat.le_refl _,m1_succ text p first _ st⟩)).mono (by lia),?_⟩
     unfold q0x
     rw [if_pos (by lia),ha,hd]
     exact ⟨rfl,rfl,rfl⟩
    ·rw [if_neg hd] at h2
     obtain ⟨m',g,r⟩:=fails _ 7 (fun h => by
      rw [q0x,if_pos h,if_neg (by rw [Bool.and_eq_true];exact fun q => hd q.2)])
     exact ⟨m',(Goes.cons h1 (Goes.cons h2 g)).mono (by lia),r⟩
  ·rw [if_neg ha] at h1
   obtain ⟨m',g,r⟩:=fails _ 5 (fun h => by
    rw [q0x,if_pos h,if_neg (by rw [Bool.and_eq_true];exact fun q => ha q.1)])
   exact ⟨m',(Goes.cons h1 g).mono (by lia),r⟩
private theorem search1 (text : Array Nat) (hl : text.size < 2 ^ 24) (p : Nat) (hp : p ≤ text.size) : ∃ m',Goes (5 * text.size + 5) (forSearch c1 text 0 p text.size false) m' ∧
  match q0x text p with | some q => m'.outcome = some .matched ∧ m'.start = q ∧ m'.handed = q + 1 | none => m'.outcome = some .failed:=by
 by_cases h : p < text.size
 ·have e : forSearch c1 text 0 p text.size false = m1 text p true (({} : Seen).add 14) 0:=by
   show (if (decide (p > text.size) || decide (text.size - p < 1)) = true then _ else _) = _
   rw [if_neg (by simp;lia)]
   rfl
  rw [e]
  obtain ⟨m',g,r⟩:=m1_goes text hl 0 (text.size - p) p true _ rfl hp
  exact ⟨m',g.mono (by lia),r⟩
 ·have e : ∃ m : M,forSearch c1 text 0 p text.size false = m ∧ m.step.outcome = some .failed:=by
   refine ⟨_,rfl,?_⟩
   show (M.step (if (decide (p > text.size) || decide (text.size - p < 1)) = true then _ else _)).outcome = _
   rw [if_pos (by simp;lia)]
   rfl
  obtain ⟨m,e,ho⟩:=e
  rw [e]
  refine ⟨m.step,(Goes.one rfl).mono (by lia),?_⟩
  unfold q0x
  rw [if_neg h]
  exact ho
noncomputable def c2 : Array Nat:=#[14,9,4,1,2,16,10,16,13,0,7,7,16,13,16,10,15,18,5,16,10,15,13,11,16,13,5,5,0,16,10,1,15,2,0,1]
noncomputable def m2 (text : Array Nat) (p : Nat) (first : Bool) (seen : Seen) : M:=
 { code:=c2,text:=text,lim:=text.size,start:=p,lastStart:=text.size,pc:=10,pos:=p,handed:=p,outermost:=first,marks:=#[],frames:=[fr 10 p first],weight:=1,seen:=seen }
noncomputable def isNl (c : Nat) : Bool:=c == 10 || c == 13
noncomputable def nextNl (text : Array Nat) (p : Nat) : Option Nat:=
 if p < text.size then (if isNl (text.getD p 0) then some p else nextNl text (p + 1)) else none
termination_by text.size - p
private theorem inSet2 (c : Nat) (seen : Seen) : ∃ seen',inSet c2 c c2.size 5 true seen = .ok (isNl c,seen'):=by
 have e : inSet c2 c c2.size 5 true seen = if (c == 10) = true then .ok (true,seen.add 16) else if (c == 13) = true then .ok (true,(seen.add 16).add 16) else .ok (false,((seen.add 16).add 16).add 0):=rfl
 rw [e]
 unfold isNl
 cases h1 : c == 10 <;> cases h2 : c == 13 <;> simp
private theorem w4z (m : M) (hc : m.code = c2) (hl : m.lim = m.text.size) : ∀ (k p : Nat) (seen : Seen),m.text.size < p + k → p ≤ m.text.size → ∃ seen',M.admitted m k p seen = .ok (nextNl m.text p,seen')
 | 0,p,seen,h,hp => by lia
 | k + 1,p,seen,h,hp => by
  unfold M.admitted
  rw [hl,hc]
  by_cases hlt : p ≥ m.text.size
  ·rw [if_pos hlt]
   unfold nextNl
   rw [if_neg (by lia)]
   exact ⟨_,rfl⟩
  ·rw [if_neg hlt]
   obtain ⟨seen',e⟩:=inSet2 (m.text.getD p 0) seen
   rw [e]
   unfold nextNl
   rw [if_pos (by lia)]
   cases hn : isNl (m.text.getD p 0)
   ·simp only [Bool.false_eq_true,if_false]
    exact w4z m hc hl k (p + 1) seen' (by lia) (by lia)
   ·exact ⟨seen',rfl⟩
noncomputable def nlLen (text : Array Nat) (p : Nat) : Nat:=if text.getD p 0 == 13 && (p + 1 < text.size && text.getD (p + 1) 0 == 10) then 2 else 1
private theorem lit_yes (m : M) {c : Nat} (h0 : m.outcome = none) (h1 : m.answer = none) (hpc : m.pc < m.code.size) (hw0 : m.word 0 = 16) (hw : m.word 1 = c) (hlt : m.pos < m.lim) (hc : m.text.getD m.pos 0 = c) :
  m.step = { m with seen:=m.seen.add 16,pc:=m.pc + 2,pos:=m.pos + 1 }:=by
 obtain ⟨code,text,lim,start,lastStart,wholeText,mustAdvance,pc,pos,handed,outermost,marks,lastmark,lastindex,loops,inner,frames,weight,answer,seen,outcome⟩:=m
 simp only at h0 h1 hpc hlt hc
 subst h0 h1
 have e16 : code.getD pc 0 = 16:=hw0
 have ew : code.getD (pc + 1) 0 = c:=hw
 unfold M.step
 simp only [Option.isSome_none,Bool.false_eq_true,if_false]
 rw [if_pos hpc]
 unfold M.exec
 rw [hw0]
 show (if pos ≥ lim then _ else match accepts code pc (text.getD pos 0) _ with | .error why => _ | .ok (false,seen) => _ | .ok (true,seen) => _) = _
 rw [if_neg (by lia)]
 unfold accepts
 rw [e16,ew,hc]
 show (match (Except.ok (c == c,_) : Except String (Bool × Seen)) with | .error why => _ | .ok (false,seen) => _ | .ok (true,seen) => _) = _
 rw [beq_self_eq_true]
 have hi : itemWidth code pc = 2:=by unfold itemWidth;rw [e16];rfl
 simp only [hi]
private theorem lit_no (m : M) {c : Nat} (h0 : m.outcome = none) (h1 : m.answer = none) (hpc : m.pc < m.code.size) (hw0 : m.word 0 = 16) (hw : m.word 1 = c) (hc : m.pos ≥ m.lim ∨ m.text.getD m.pos 0 ≠ c) :
  m.step = { m with seen:=m.seen.add 16,answer:=some false }:=by
 obtain ⟨code,text,lim,start,lastStart,wholeText,mustAdvance,pc,pos,handed,outermost,marks,lastmark,lastindex,loops,inner,frames,weight,answer,seen,outcome⟩:=m
 simp only at h0 h1 hpc hc
 subst h0 h1
 have e16 : code.getD pc 0 = 16:=hw0
 have ew : code.getD (pc + 1) 0 = c:=hw
 unfold M.step
 simp only [Option.isSome_none,Bool.false_eq_true,if_false]
 rw [if_pos hpc]
 unfold M.exec
 rw [hw0]
 show (if pos ≥ lim then _ else match accepts code pc (text.getD pos 0) _ with | .error why => _ | .ok (false,seen) => _ | .ok (true,seen) => _) = _
 by_cases hp : pos ≥ lim
 ·rw [if_pos hp];rfl
 ·rw [if_neg hp]
  have hne : text.getD pos 0 ≠ c:=hc.resolve_left hp
  unfold accepts
  rw [e16,ew]
  show (match (Except.ok (text.getD pos 0 == c,_) : Except String (Bool × Seen)) with | .error why => _ | .ok (false,seen) => _ | .ok (true,seen) => _) = _
  rw [beq_false_of_ne hne]
  rfl
noncomputable def s2 (text : Array Nat) (p : Nat) (seen : Seen) (frames : List Sre.Frame) (weight pc pos handed : Nat) (out : Bool) (answer : Option Bool) : M:=
 { code:=c2,text:=text,lim:=text.size,start:=p,lastStart:=text.size,pc:=pc,pos:=pos,handed:=handed,outermost:=out,marks:=#[],frames:=frames,weight:=weight,answer:=answer,seen:=seen }
noncomputable def bf (k p : Nat) (first : Bool) : Sre.Frame:={ wait:=.nextBranch,pc:=k,pos:=p,outermost:=first }
noncomputable def lf (p : Nat) (first : Bool) : Sre.Frame:={ wait:=.lookNot,pc:=26,pos:=p,outermost:=first }
section
variable {text : Array Nat} {p : Nat} {first : Bool} {seen : Seen} {fs : List Sre.Frame} {wt pos hd : Nat} {out : Bool}
private theorem succ2 : (s2 text p seen fs wt 35 pos hd out none).step = s2 text p (seen.add 1) fs wt 35 pos pos out (some true):=by cases out <;> rfl
private theorem yes2 {k c : Nat} (hk : c2.getD k 0 = 16) (hk1 : c2.getD (k + 1) 0 = c) (hk2 : k < 36) (hlt : pos < text.size) (hc : text.getD pos 0 = c) : (s2 text p seen fs wt k pos hd out none).step = s2 text p (seen.add 16) fs wt (k + 2) (pos + 1) hd out none:=
 lit_yes _ rfl rfl hk2 hk hk1 hlt hc
private theorem no2 {k c : Nat} (hk : c2.getD k 0 = 16) (hk1 : c2.getD (k + 1) 0 = c) (hk2 : k < 36) (hc : pos ≥ text.size ∨ text.getD pos 0 ≠ c) : (s2 text p seen fs wt k pos hd out none).step = s2 text p (seen.add 16) fs wt k pos hd out (some false):=
 lit_no _ rfl rfl hk2 hk hk1 hc
private theorem won2 {k : Nat} : ∃ m',Goes 4 (s2 text p seen [bf k p first,fr 10 p first] 2 35 pos hd first none) m' ∧ m'.outcome = some .matched ∧ m'.start = p ∧ m'.handed = pos:=by
 refine ⟨_,Goes.cons succ2 (Goes.cons (show _ = s2 text p (seen.add 1) [fr 10 p first] 1 k p pos first (some true) from rfl) (Goes.cons (show _ = s2 text p (seen.add 1) [] 0 10 p pos first (some true) from rfl) (Goes.one rfl))),rfl,rfl,rfl⟩
end
private theorem m2_goes (text : Array Nat) (p : Nat) (first : Bool) (seen : Seen) (hp : p < text.size) (hn : isNl (text.getD p 0) = true) : ∃ m',Goes 40 (m2 text p first seen) m' ∧ m'.outcome = some .matched ∧ m'.start = p ∧ m'.handed = p + nlLen text p:=by
 unfold isNl at hn
 have b0 : ∃ seen',(m2 text p first seen).step = s2 text p seen' [bf 11 p first,fr 10 p first] 2 12 p p first none:=⟨_,rfl⟩
 obtain ⟨sn,b0⟩:=b0
 by_cases h10 : text.getD p 0 = 10
 ·have hlen : nlLen text p = 1:=by unfold nlLen;rw [h10];rfl
  rw [hlen]
  obtain ⟨m',g,r⟩:=won2 (text:=text) (p:=p) (first:=first) (seen:=((((sn.add 16).add 16).add 15))) (pos:=p + 1) (hd:=p) (k:=18)
  refine ⟨m',(Goes.cons b0 (Goes.cons (no2 (c:=13) rfl rfl (by decide) (.inr (by lia))) (Goes.cons (show _ = s2 text p (sn.add 16) [bf 18 p first,fr 10 p first] 2 19 p p first none from rfl)
   (Goes.cons (yes2 (c:=10) rfl rfl (by decide) hp h10) (Goes.cons (show _ = s2 text p ((((sn.add 16).add 16).add 15)) [bf 18 p first,fr 10 p first] 2 35 (p + 1) p first none from rfl) g))))).mono (by decide),r⟩
 ·have h13 : text.getD p 0 = 13:=by rw [Bool.or_eq_true,beq_iff_eq,beq_iff_eq] at hn;exact hn.resolve_left h10
  by_cases hc : p + 1 < text.size ∧ text.getD (p + 1) 0 = 10
  ·have hlen : nlLen text p = 2:=by unfold nlLen;rw [h13,hc.2];simp [hc.1]
   rw [hlen]
   obtain ⟨m',g,r⟩:=won2 (text:=text) (p:=p) (first:=first) (seen:=((((sn.add 16).add 16).add 15))) (pos:=p + 2) (hd:=p) (k:=11)
   refine ⟨m',(Goes.cons b0 (Goes.cons (yes2 (c:=13) rfl rfl (by decide) hp h13) (Goes.cons (yes2 (c:=10) rfl rfl (by decide) hc.1 hc.2) (Goes.cons (show _ = s2 text p ((((sn.add 16).add 16).add 15)) [bf 11 p first,fr 10 p first] 2 35 (p + 2) p first none from rfl) g)))).mono (by decide),r⟩
  ·have hlen : nlLen text p = 1:=by
    unfold nlLen
    rw [if_neg]
    intro q
    simp only [Bool.and_eq_true,decide_eq_true_eq,beq_iff_eq] at q
    exact hc ⟨q.2.1,q.2.2⟩
   rw [hlen]
   have hno : p + 1 ≥ text.size ∨ text.getD (p + 1) 0 ≠ 10:=by
    by_cases h : p + 1 < text.size
    ·exact .inr fun q => hc ⟨h,q⟩
    ·exact .inl (by lia)
   obtain ⟨se,hse⟩ : ∃ se,se = ((sn.add 16).add 16):=⟨_,rfl⟩
   obtain ⟨m',g,r⟩:=won2 (text:=text) (p:=p) (first:=first) (seen:=(((((se.add 16).add 16).add 5).add 16).add 15)) (pos:=p + 1) (hd:=p + 1) (k:=23)
   refine ⟨m',(Goes.cons b0 (Goes.cons (yes2 (c:=13) rfl rfl (by decide) hp h13) (Goes.cons (hse ▸ no2 (c:=10) rfl rfl (by decide) hno) (Goes.cons (show _ = s2 text p se [bf 18 p first,fr 10 p first] 2 19 p p first none from rfl)
    (Goes.cons (no2 (c:=10) rfl rfl (by decide) (.inr h10)) (Goes.cons (show _ = s2 text p (se.add 16) [bf 23 p first,fr 10 p first] 2 24 p p first none from rfl) (Goes.cons (yes2 (c:=13) rfl rfl (by decide) hp h13)
    (Goes.cons (show _ = s2 text p (((se.add 16).add 16).add 5) [lf (p + 1) first,bf 23 p first,fr 10 p first] 3 29 (p + 1) (p + 1) false none from rfl) (Goes.cons (no2 (c:=10) rfl rfl (by decide) hno)
    (Goes.cons (show _ = s2 text p ((((se.add 16).add 16).add 5).add 16) [bf 23 p first,fr 10 p first] 2 32 (p + 1) (p + 1) first none from rfl)
    (Goes.cons (show _ = s2 text p (((((se.add 16).add 16).add 5).add 16).add 15) [bf 23 p first,fr 10 p first] 2 35 (p + 1) (p + 1) first none from rfl) g))))))))))).mono (by decide),r⟩
private theorem q3p {text : Array Nat} {q : Nat} : ∀ (k p : Nat),text.size - p = k → nextNl text p = some q → p ≤ q ∧ q < text.size ∧ isNl (text.getD q 0) = true:=by
 intro k
 induction k using Nat.strongRecOn with
 | ind k IH =>
  intro p hk h
  unfold nextNl at h
  by_cases hp : p < text.size
  ·rw [if_pos hp] at h
   by_cases hn : isNl (text.getD p 0) = true
   ·rw [if_pos hn] at h;cases h;exact ⟨Nat.le_refl _,hp,hn⟩
   ·rw [if_neg hn] at h
    obtain ⟨h1,h2⟩:=IH (k - 1) (by with_reducible exact na2) (p + 1) (by with_reducible exact na1) h
    exact ⟨by lia,h2⟩
  ·rw [if_neg hp] at h;cases h
noncomputable def m20 (text : Array Nat) (p : Nat) : M:={ code:=c2,text:=text,lim:=text.size,start:=p,lastStart:=text.size,pc:=10,pos:=p,handed:=p,marks:=#[],seen:=({} : Seen).add 14 }
private theorem w8a (text : Array Nat) (p : Nat) (h : p < text.size) : forSearch c2 text 0 p text.size false = (match M.admitted (m20 text p) (text.size + 1 - p) p (({} : Seen).add 14) with | .ok (some s,seen) => m2 text s true seen | .ok (none,seen) => { m20 text p with seen }.say false | .error why => (m20 text p).stick why):=by
 show (if (decide (p > text.size) || decide (text.size - p < 1)) = true then _ else _) = _
 rw [if_neg (by simp;lia)]
 rfl
private theorem search2 (text : Array Nat) (p : Nat) (hp : p ≤ text.size) : ∃ m',Goes 45 (forSearch c2 text 0 p text.size false) m' ∧
  match nextNl text p with | some q => m'.outcome = some .matched ∧ m'.start = q ∧ m'.handed = q + nlLen text q | none => m'.outcome = some .failed:=by
 by_cases h : p < text.size
 ·obtain ⟨seen',ha⟩:=w4z (m20 text p) rfl rfl (text.size + 1 - p) p (({} : Seen).add 14) (by show text.size < _;lia) hp
  have ha' : M.admitted (m20 text p) (text.size + 1 - p) p (({} : Seen).add 14) = .ok (nextNl text p,seen'):=ha
  rw [w8a text p h,ha']
  cases hn : nextNl text p with
  | none => exact ⟨(M.say { m20 text p with seen:=seen' } false).step,(Goes.one rfl).mono (by decide),rfl⟩
  | some q =>
   obtain ⟨h1,h2,h3⟩:=q3p _ p rfl hn
   obtain ⟨m',g,r⟩:=m2_goes text q true seen' h2 h3
   exact ⟨m',g.mono (by decide),r⟩
 ·have e : ∃ m : M,forSearch c2 text 0 p text.size false = m ∧ m.step.outcome = some .failed:=by
   refine ⟨_,rfl,?_⟩
   show (M.step (if (decide (p > text.size) || decide (text.size - p < 1)) = true then _ else _)).outcome = _
   rw [if_pos (by simp;lia)]
   rfl
  obtain ⟨m,e,ho⟩:=e
  rw [e]
  refine ⟨m.step,(Goes.one rfl).mono (by decide),?_⟩
  unfold nextNl
  rw [if_neg h]
  exact ho
end
section
open PySem PySem.W PySem.Calls PyProof.Rows
open PySem.Builtin.Re
private theorem w1f : PlainAttrs "re.Pattern":=
 ⟨⟨"object.__getattribute__",by rw [typeLookup_type,builtinLookup_eq_fast];kernel_rfl,by decide +kernel⟩,by rw [typeLookup_type,builtinLookup_eq_fast];kernel_rfl⟩
private theorem q5b : Slot "re.Pattern" "sub" "re.Pattern.sub":=
 .of (owner:="re.Pattern") (n:="sub") (by rw [typeLookup_type,builtinLookup_eq_fast];kernel_rfl) (by decide +kernel) (by decide +kernel) (by decide +kernel)
  (by first | exact .inl (by decide +kernel) | exact .inr (by decide +kernel)) (by rw [isSubtype_type];kernel_rfl)
private theorem w3k : typeOf (.builtin "re.Pattern.sub") = pure (.type "method_descriptor"):=by show builtinType _ = _;rw [builtinType_eq_fast];kernel_rfl
private theorem w3d : entryFor table "re.Pattern.sub" = some Builtin.«re.Pattern.sub»:=entryFor_of_tree (by kernel_rfl)
private theorem q6a : entryFor table "re.Pattern.sub.loop" = some Builtin.«re.Pattern.sub.loop»:=entryFor_of_tree (by kernel_rfl)
private theorem q2s : plainId "re.Pattern.sub.loop" = true:=by decide +kernel
private theorem w5f : typeLookup (.type "str") "__call__" = pure none:=by rw [typeLookup_type,builtinLookup_eq_fast];kernel_rfl
private theorem z0g : Manifest.owners.lookup (String.ofList ['n','r','e','t','t','a','P','.','e','r'].reverse) = some Manifest.sig_re_Pattern:=by kernel_rfl
private theorem w4y (a b c : Value) : argsOk "re.Pattern.sub" ⟨[a,b,c],[]⟩:=by
 unfold argsOk;rw [signature?_of (id:="re.Pattern.sub") (n:=['b','u','s']) (o:=['n','r','e','t','t','a','P','.','e','r']) (by kernel_rfl) z0g];kernel_rfl
private theorem z0p (b c : Value) : reNamed "re.Pattern.sub" "sub" ["repl","string","count"] 2 [b,c] [] = pure [some b,some c,none]:=rfl
inductive PatAt (h : Heap) (a : Addr) (code : Array Nat) : Prop
 | mk (o : Obj) (vs : Array Value) (ca : Addr) (oc : Obj) (items : Array Value) (n : Nat) (g : Int) (t : Tok) (w : Int) (t' : Tok) (h1 : h.get? a = some o) (h2 : o.cls = .type "re.Pattern") (h3 : o.dict = none) (h4 : o.data = .fields vs) (h5 : vs.getD 2 .none = .int g t) (h6 : g.toNat = 0) (h7 : vs.getD 5 .none = .ref ca) (h8 : vs.getD 6 .none = .int w t') (h9 : w.toNat = 0)
  (h10 : h.get? ca = some oc) (h11 : oc.cls = .type "tuple") (h12 : oc.data = .seq items n) (h13 : (items.map reRawOf).map (·.toNat) = code) : PatAt h a code
private theorem PatAt.keeps {h h' : Heap} {a : Addr} {code : Array Nat} (x : PatAt h a code) (k : ∀ b o,h.get? b = some o → h'.get? b = some o) : PatAt h' a code:=by
 obtain ⟨o,vs,ca,oc,items,n,g,t,w,t',h1,h2,h3,h4,h5,h6,h7,h8,h9,h10,hc,h12,h13⟩:=x
 exact ⟨o,vs,ca,oc,items,n,g,t,w,t',k _ _ h1,h2,h3,h4,h5,h6,h7,h8,h9,k _ _ h10,hc,h12,h13⟩
section
variable {prog : Program} {w : World} {A : Around} {E : Value → Shared → Prop} {s : Shared}
private theorem q4b {a : Addr} {code : Array Nat} {x : PySem.Str} {t : Tok} {Q : ReTarget → Shared → Prop} (hp : PatAt s.heap a code)
  (h : Q { pattern:=.ref a,string:=.str x t,code:=code,text:=x.cps,kind:=0,groups:=0,pos:=0,lim:=x.cps.size } s) : wpAny (model prog w) A (reWholeTarget (.ref a) (.str x t)) Q E s:=by
 obtain ⟨o,vs,ca,oc,items,n,g,t₁,w₁,t₂,h1,h2,h3,h4,h5,h6,h7,h8,h9,h10,_,h11,h12⟩:=hp
 unfold reWholeTarget
 refine wpAny_bind (wpAny_fieldsOf h1 h4 ?_)
 refine wpAny_bind (wpAny_of_eq (a:=(x.cps,0)) rfl ?_)
 rw [h8,h5,h7]
 have e0 : reRawNat (.int w₁ t₂) = 0:=h9
 have e1 : reRawNat (.int g t₁) = 0:=h6
 simp only [e0,e1]
 show wpAny _ _ (do reNoCollectionInside (.str x t) 0;_) _ _ _
 refine wpAny_bind (wpAny_of_eq (a:=()) rfl ?_)
 unfold reRawItems
 refine wpAny_bind (wpAny_bind (wpAny_seqItems h10 h11 (wpAny_pure ?_)))
 simp only [Option.getD_some,h12]
 exact wpAny_pure h
noncomputable def q1v (next : Nat → Option Nat) (len : Nat → Nat) (text rep : Array Nat) : Nat → Nat → List PySem.Str → List PySem.Str
 | 0,p,ys => if p < text.size then ys ++ [⟨text.extract p text.size⟩] else ys
 | f + 1,p,ys => match next p with
  | some q => q1v next len text rep f (q + len q) ((if p < q then ys ++ [⟨text.extract p q⟩] else ys) ++ [⟨rep⟩])
  | none => if p < text.size then ys ++ [⟨text.extract p text.size⟩] else ys
private theorem q4y {its : List Value} {ys : List PySem.Str} {y : PySem.Str} {t : Tok} (h : StrsAre its ys) : StrsAre (its ++ [.str y t]) (ys ++ [y]):=by
 induction h with
 | nil => exact StrsAre.cons y t StrsAre.nil
 | cons z u _ ih => exact StrsAre.cons z u ih
private theorem w5j {D : Addr} {its : Array Value} {k : Nat} {v : Value} {Q : Unit → Shared → Prop} (hD : s.heap.get? D = some { cls:=.type "list",data:=.seq its k }) (hz : its.size ≤ sizeLine)
  (h : ∀ h' k',h'.get? D = some { cls:=.type "list",data:=.seq (its.push v) k' } → (∀ b o,b ≠ D → s.heap.get? b = some o → h'.get? b = some o) → Q () { s with heap:=h' }) : wpAny (model prog w) A (updateSeq D (·.push v)) Q E s:=by
 refine wpAny_updateSeq hD rfl ?_ hz (by simp;assumption)
 obtain ⟨n',hd'⟩:=Obj.data_mapSeq (o:={ cls:=.type "list",data:=.seq its k }) rfl (·.push v)
 refine h _ n' ?_ fun b o hb e => (Heap.get?_update_other _ _ (Ne.symm hb)).trans e
 rw [Heap.get?_update_self _ hD rfl,← hd']
 rfl
private theorem w2h {text : Array Nat} {b e : Nat} {Q : Value → Shared → Prop} (hz : text.size ≤ 100000) (h : ∀ t k,Q (.str ⟨text.extract b e⟩ t) { s with toks:=k }) : wpAny (model prog w) A (reSlice text 0 b e) Q E s:=by
 show wpAny _ _ (mkStr ⟨text.extract b e⟩) _ _ _
 have hs : sizeLine = 2 ^ 24:=by decide +kernel
 exact wpAny_mkStr (h _ _) (by show (text.extract b e).size ≤ sizeLine;rw [Array.size_extract];lia)
private theorem w4l {a D : Addr} {code : Array Nat} {x : PySem.Str} {k p : Nat} {ys : List PySem.Str} {its : Array Value} {R : Result → Shared → Prop} {rest : Value → Sem PySem.Fin} (hsz : x.cps.size ≤ 100000) (hpat : PatAt s.heap a code) (hD : s.heap.get? D = some { cls:=.type "list",data:=.seq its k }) (hy : StrsAre its.toList ys)
  (hp : p ≤ x.cps.size) (hl : ys.length ≤ 2 * p) (hw : (ys.map (·.length)).sum ≤ 3 * p)
  (hR : ∀ h' tk t',(∀ b o,b ≠ D → s.heap.get? b = some o → h'.get? b = some o) → R (.ok (.ret (.str (Txt.join ⟨#[]⟩ (if p < x.cps.size then ys ++ [⟨x.cps.extract p x.cps.size⟩] else ys)) t'))) { s with heap:=h',toks:=tk }) :
  wpAny (model prog w) A.in1 (do
   if (p : Int).toNat < x.cps.size then updateSeq D (·.push (← reSlice x.cps 0 (p : Int).toNat x.cps.size))
   let joiner ← reSlice x.cps 0 0 0
   let text ← if ((← seqItems? (.ref D)).getD #[]).isEmpty then pure joiner
    else call (.builtin "str.join") [joiner,.ref D]
   if false = true then rest text else ret text) (fun fin s' => match fin with | .done f => R (.ok f) s' | .again c' => c'.quiet = true ∧ codeAny (model prog w) A c' R s') (fun e s' => R (.error e) s') s:=by
 have hS : sizeLine = 2 ^ 24:=by decide +kernel
 have hys:=StrsAre.length hy
 simp only [Array.length_toList] at hys
 have e0 : x.cps.extract 0 0 = #[]:=by simp
 -- behind the last slice
 have last : ∀ (h₁ : Heap) (tk₁ k₁ : Nat) (its₁ : Array Value) (ys₁ : List PySem.Str),h₁.get? D = some { cls:=.type "list",data:=.seq its₁ k₁ } → StrsAre its₁.toList ys₁ → ys₁ = (if p < x.cps.size then ys ++ [⟨x.cps.extract p x.cps.size⟩] else ys) → (∀ b o,b ≠ D → s.heap.get? b = some o → h₁.get? b = some o) →
   (ys₁.map (·.length)).sum + ys₁.length ≤ 1048576 → wpAny (model prog w) A.in1 (do
    let joiner ← reSlice x.cps 0 0 0
    let text ← if ((← seqItems? (.ref D)).getD #[]).isEmpty then pure joiner
     else call (.builtin "str.join") [joiner,.ref D]
    if false = true then rest text else ret text) (fun fin s' => match fin with | .done f => R (.ok f) s' | .again c' => c'.quiet = true ∧ codeAny (model prog w) A c' R s') (fun e s' => R (.error e) s') { s with heap:=h₁,toks:=tk₁ }:=by
  intro h₁ tk₁ k₁ its₁ ys₁ hD₁ hy₁ e₁ hk₁ hw₁
  refine wpAny_bind (w2h hsz fun t₁ kk₁ => ?_)
  rw [e0]
  refine wpAny_bind (wpAny_seqItems hD₁ rfl ?_)
  simp only [Option.getD_some]
  rw [← e₁] at hR
  cases he : its₁.isEmpty with
  | true =>
   have hn : ys₁ = []:=by
    have:=StrsAre.length hy₁
    have h2 : its₁.size = 0:=by simpa using he
    simp only [Array.length_toList,h2] at this
    exact List.length_eq_zero_iff.mp this.symm
   rw [hn] at hR
   rw [if_pos rfl]
   exact wpAny_bind (wpAny_pure (wpAny_pure (hR h₁ kk₁ t₁ hk₁)))
  | false =>
   simp only [Bool.false_eq_true,if_false]
   exact wpAny_bind (join_listW ⟨_,hD₁,rfl,_,rfl⟩ hy₁ (by decide) hw₁ fun t' k' => wpAny_pure (hR h₁ k' t' hk₁))
 by_cases hpq : p < x.cps.size
 ·show wpAny _ _ (if p < x.cps.size then _ else _) _ _ _
  rw [if_pos hpq]
  refine wpAny_bind (w2h hsz fun t₁ k₁ => ?_)
  refine wpAny_bind (w5j hD (by lia) fun h₁ k₁' hD₁ hk₁ => ?_)
  refine last h₁ k₁ k₁' _ (ys ++ [⟨x.cps.extract p x.cps.size⟩]) hD₁ (by rw [Array.toList_push];exact q4y hy) (by rw [if_pos hpq]) hk₁ ?_
  have e : Str.length ⟨x.cps.extract p x.cps.size⟩ = x.cps.size - p:=by show (x.cps.extract p x.cps.size).size = _;rw [Array.size_extract];lia
  simp only [List.length_append,List.length_singleton,List.map_append,List.map_cons,List.map_nil,List.sum_append,List.sum_cons,List.sum_nil,e]
  lia
 ·show wpAny _ _ (if p < x.cps.size then _ else _) _ _ _
  rw [if_neg hpq]
  exact last s.heap s.toks k its ys hD hy (by rw [if_neg hpq]) (fun _ _ _ e => e) (by lia)
private theorem PatAt.but {h h' : Heap} {a D : Addr} {code : Array Nat} (x : PatAt h a code) (k : ∀ b o,b ≠ D → h.get? b = some o → h'.get? b = some o) (hD : ∃ o,h.get? D = some o ∧ o.cls = .type "list") : PatAt h' a code:=by
 obtain ⟨o,vs,ca,oc,items,n,g,t,w,t',h1,h2,h3,h4,h5,h6,h7,h8,h9,h10,hc,h12,h13⟩:=x
 obtain ⟨oD,hD,hDc⟩:=hD
 refine ⟨o,vs,ca,oc,items,n,g,t,w,t',k _ _ (fun q => ?_) h1,h2,h3,h4,h5,h6,h7,h8,h9,k _ _ (fun q => ?_) h10,hc,h12,h13⟩
 ·rw [q,hD] at h1;cases h1;rw [h2] at hDc;simp at hDc
 ·rw [q,hD] at h10;cases h10;rw [hc] at hDc;simp at hDc
private theorem loop_wp {a D : Addr} {code : Array Nat} {x rep : PySem.Str} {t tr : Tok} {next : Nat → Option Nat} {len : Nat → Nat} (hsz : x.cps.size ≤ 100000) (hrep : rep.cps.size ≤ 2)
  (hs : ∀ p,p ≤ x.cps.size → ∃ m' k,k ≤ 2 ^ 60 ∧ Goes k (Sre.forSearch code x.cps 0 p x.cps.size false) m' ∧ match next p with | some q => m'.outcome = some .matched ∧ m'.start = q ∧ m'.handed = q + len q | none => m'.outcome = some .failed)
  (hn : ∀ p q,p ≤ x.cps.size → next p = some q → p ≤ q ∧ 1 ≤ len q ∧ q + len q ≤ x.cps.size) {R : Result → Shared → Prop} :
  ∀ (f : Nat) (p n : Nat) (ys : List PySem.Str) (its : Array Value) (k : Nat) (s : Shared),p ≤ x.cps.size → x.cps.size - p ≤ f → PatAt s.heap a code → s.heap.get? D = some { cls:=.type "list",data:=.seq its k } → StrsAre its.toList ys → ys.length ≤ 2 * p → (ys.map (·.length)).sum ≤ 3 * p →
   (∀ h' tk t',(∀ b o,b ≠ D → s.heap.get? b = some o → h'.get? b = some o) → R (.ok (.ret (.str (Txt.join ⟨#[]⟩ (q1v next len x.cps rep.cps f p ys)) t'))) { s with heap:=h',toks:=tk }) →
   codeAny (model prog w) A (.builtin "re.Pattern.sub.loop" ⟨[.ref a,.str x t,.str rep tr,rawInt 0,rawInt 0,rawInt n,rawInt p,rawInt p,.bool false,.ref D,.bool false],[]⟩) R s:=by
 intro f
 induction f with
 | zero =>
  intro p n ys its k s hp hf hpat hD hy hl hw hR
  have hnx : next p = none:=by
   cases h : next p with
   | none => rfl
   | some q =>
    obtain ⟨n1,n2,n3⟩:=hn p q hp h
    lia
  refine codeAny_builtin q6a ?_
  rw [Around.under_plainId q2s _]
  show wpAny _ A.in1 (do
   let t₀ ← reWholeTarget (.ref a) (.str x t)
   if (0 : Int) == 0 then reLiteralCannotBeTurned (.str rep tr)
   _) _ _ s
  refine wpAny_bind (q4b hpat ?_)
  refine wpAny_bind (wpAny_of_eq (a:=()) rfl ?_)
  show wpAny _ _ (reNextFound { pattern:=.ref a,string:=.str x t,code:=code,text:=x.cps,kind:=0,groups:=0,pos:=0,lim:=x.cps.size } p false >>= _) _ _ _
  obtain ⟨m',k',hk',g,hm⟩:=hs p hp
  rw [hnx] at hm
  refine wpAny_bind (run_wp g hk' (.inr ⟨hm,?_⟩))
  exact w4l hsz hpat hD hy hp hl hw hR
 | succ f ih =>
  intro p n ys its k s hp hf hpat hD hy hl hw hR
  refine codeAny_builtin q6a ?_
  rw [Around.under_plainId q2s _]
  show wpAny _ A.in1 (do
   let t₀ ← reWholeTarget (.ref a) (.str x t)
   if (0 : Int) == 0 then reLiteralCannotBeTurned (.str rep tr)
   _) _ _ s
  refine wpAny_bind (q4b hpat ?_)
  refine wpAny_bind (wpAny_of_eq (a:=()) rfl ?_)
  show wpAny _ _ (reNextFound { pattern:=.ref a,string:=.str x t,code:=code,text:=x.cps,kind:=0,groups:=0,pos:=0,lim:=x.cps.size } p false >>= _) _ _ _
  obtain ⟨m',k',hk',g,hm⟩:=hs p hp
  cases hnx : next p with
  | none =>
   rw [hnx] at hm
   refine wpAny_bind (run_wp g hk' (.inr ⟨hm,?_⟩))
   have hsub : q1v next len x.cps rep.cps (f + 1) p ys = if p < x.cps.size then ys ++ [⟨x.cps.extract p x.cps.size⟩] else ys:=by unfold q1v;rw [hnx]
   rw [hsub] at hR
   exact w4l hsz hpat hD hy hp hl hw hR
  | some q =>
   rw [hnx] at hm
   obtain ⟨n1,n2,n3⟩:=hn p q hp hnx
   refine wpAny_bind (run_wp g hk' (.inl ⟨hm.1,?_⟩))
   have hsub : q1v next len x.cps rep.cps (f + 1) p ys = q1v next len x.cps rep.cps f (q + len q) ((if p < q then ys ++ [⟨x.cps.extract p q⟩] else ys) ++ [rep]):=by conv => lhs;unfold q1v;rw [hnx]
   rw [hsub] at hR
   have hys:=StrsAre.length hy
   have hS : sizeLine = 2 ^ 24:=by decide +kernel
   -- behind the slice: the new text is put,and on
   have step : ∀ (h₁ : Heap) (tk₁ kk₁ : Nat) (its₁ : Array Value) (ys₁ : List PySem.Str),h₁.get? D = some { cls:=.type "list",data:=.seq its₁ kk₁ } → StrsAre its₁.toList ys₁ → ys₁ = (if p < q then ys ++ [⟨x.cps.extract p q⟩] else ys) → (∀ b o,b ≠ D → s.heap.get? b = some o → h₁.get? b = some o) →
     wpAny (model prog w) A.in1 (do
      updateSeq D (·.push (.str rep tr))
      again (.builtin "re.Pattern.sub.loop" ⟨[.ref a,.str x t,.str rep tr,rawInt 0,rawInt 0,rawInt ((n : Int) + 1),rawInt m'.handed,rawInt m'.handed,.bool (m'.handed == q),.ref D,.bool false],[]⟩)) (fun fin s' => match fin with | .done f => R (.ok f) s' | .again c' => c'.quiet = true ∧ codeAny (model prog w) A c' R s') (fun e s' => R (.error e) s') { s with heap:=h₁,toks:=tk₁ }:=by
    intro h₁ tk₁ kk₁ its₁ ys₁ hD₁ hy₁ e₁ hk₁
    have hl₁ : ys₁.length ≤ 2 * p + 1 ∧ (ys₁.map (·.length)).sum ≤ 3 * p + (q - p):=by
     rw [e₁]
     by_cases hpq : p < q
     ·rw [if_pos hpq]
      have e : Str.length ⟨x.cps.extract p q⟩ = q - p:=by show (x.cps.extract p q).size = _;rw [Array.size_extract];with_reducible exact ng2
      simp only [List.length_append,List.length_singleton,List.map_append,List.map_cons,List.map_nil,List.sum_append,List.sum_cons,List.sum_nil,e]
      lia
     ·rw [if_neg hpq];lia
    have hsz₁ : its₁.size ≤ sizeLine:=by
     have:=StrsAre.length hy₁
     simp only [Array.length_toList] at this
     lia
    refine wpAny_bind (w5j hD₁ hsz₁ fun h₂ k₂ hD₂ hk₂ => ?_)
    refine wpAny_pure ⟨plainId_quiet q2s _,?_⟩
    rw [hm.2.2]
    have eb : (q + len q == q) = false:=by rw [beq_eq_false_iff_ne];lia
    rw [eb]
    have en : rawInt ((n : Int) + 1) = rawInt ((n + 1 : Nat) : Int):=by push_cast;rfl
    rw [en]
    have hkk : ∀ b o,b ≠ D → s.heap.get? b = some o → h₂.get? b = some o:=fun b o hb e => hk₂ b o hb (hk₁ b o hb e)
    refine ih (q + len q) (n + 1) (ys₁ ++ [rep]) (its₁.push (.str rep tr)) k₂ _ n3 (by with_reducible exact na7) (hpat.but hkk ⟨_,hD,rfl⟩) hD₂ (by rw [Array.toList_push];exact q4y hy₁) ?_ ?_ fun h' tk t' hk' => ?_
    ·simp only [List.length_append,List.length_singleton];lia
    ·have e : Str.length rep ≤ 2:=hrep
     simp only [List.map_append,List.map_cons,List.map_nil,List.sum_append,List.sum_cons,List.sum_nil]
     lia
    ·rw [e₁]
     exact hR h' tk t' fun b o hb e => hk' b o hb (hkk b o hb e)
   by_cases hpq : p < q
   ·show wpAny _ _ (if p < m'.start then _ else _) _ _ _
    rw [hm.2.1,if_pos hpq]
    refine wpAny_bind (w2h hsz fun t₁ k₁ => ?_)
    refine wpAny_bind (w5j hD (by have:=hys;simp only [Array.length_toList] at this;lia) fun h₁ k₁' hD₁ hk₁ => ?_)
    exact step h₁ k₁ k₁' _ (ys ++ [⟨x.cps.extract p q⟩]) hD₁ (by rw [Array.toList_push];exact q4y hy) (by rw [if_pos hpq]) hk₁
   ·show wpAny _ _ (if p < m'.start then _ else _) _ _ _
    rw [hm.2.1,if_neg hpq]
    exact step s.heap s.toks k its ys hD hy (by rw [if_neg hpq]) fun _ _ _ e => e
private theorem sub_wp {a : Addr} {code : Array Nat} {x rep : PySem.Str} {t tr : Tok} {next : Nat → Option Nat} {len : Nat → Nat} (hsz : x.cps.size ≤ 100000) (hrep : rep.cps.size ≤ 2) (hr92 : rep.cps.contains 92 = false)
  (hs : ∀ p,p ≤ x.cps.size → ∃ m' k,k ≤ 2 ^ 60 ∧ Goes k (Sre.forSearch code x.cps 0 p x.cps.size false) m' ∧ match next p with | some q => m'.outcome = some .matched ∧ m'.start = q ∧ m'.handed = q + len q | none => m'.outcome = some .failed)
  (hn : ∀ p q,p ≤ x.cps.size → next p = some q → p ≤ q ∧ 1 ≤ len q ∧ q + len q ≤ x.cps.size) (hpat : PatAt s.heap a code) {Q : Value → Shared → Prop}
  (h : ∀ h' tk t',(∀ b o,s.heap.get? b = some o → h'.get? b = some o) → Q (.str (Txt.join ⟨#[]⟩ (q1v next len x.cps rep.cps x.cps.size 0 [])) t') { s with heap:=h',toks:=tk }) :
  wpAny (model prog w) A (call (.builtin "re.Pattern.sub") [.ref a,.str rep tr,.str x t]) Q E s:=by
 have hT : s.TypeIs (.ref a) "re.Pattern":=by
  obtain ⟨o,_,_,_,_,_,_,_,_,_,h1,h2,_⟩:=hpat
  exact ⟨o,h1,h2⟩
 refine wpAny_call (codeAny_call_builtin q5b.plain w3d (q5b.check _ _ _ _ _ _ _ _ hT (w4y _ _ _) ?_))
 show wpAny _ _ (reSubstitute "re.Pattern.sub" "sub" false ⟨[.ref a,.str rep tr,.str x t],[]⟩) _ _ _
 unfold reSubstitute
 refine wpAny_bind (wpAny_of_eq (z0p _ _) ?_)
 refine wpAny_bind (wpAny_pure ?_)
 refine wpAny_bind (wpAny_specialOf (typeIs_str s rep tr) w5f ?_)
 show wpAny _ _ (asStr? (Value.str rep tr) >>= _) _ _ _
 refine wpAny_bind (wpAny_of_eq (a:=some rep) rfl ?_)
 show wpAny _ _ (pure (!rep.cps.contains 92) >>= _) _ _ _
 refine wpAny_bind (wpAny_pure ?_)
 rw [hr92]
 show wpAny _ _ (pure (Value.str rep tr,_) >>= _) _ _ _
 refine wpAny_bind (wpAny_pure ?_)
 refine wpAny_bind (wpAny_holding (q4b hpat ?_))
 show wpAny _ _ (newList [] >>= _) _ _ _
 refine wpAny_bind (wpAny_newObj_type ?_)
 have hnew:=Ok.size_none s
 refine wpAny_pure ⟨plainId_quiet q2s _,?_⟩
 refine loop_wp (D:=s.heap.objs.size) hsz hrep hs hn x.cps.size 0 0 [] #[] 0 _ (Nat.zero_le _) (by with_reducible exact Nat.sub_le _ _) (hpat.keeps fun _ _ e => Heap.get?_push_of_some _ e) (Heap.get?_push_size _ rfl) .nil (by simp) (by simp) fun h' tk t' hk => ?_
 exact h h' tk t' fun b o e => hk b o (fun q => by rw [q,hnew] at e;cases e) (Heap.get?_push_of_some _ e)
end
end
section
open PySem PySem.W PySem.Calls PyProof.Rows
noncomputable def catS (ys : List PySem.Str) : List Nat:=(ys.map fun y => y.cps.toList).flatten
private theorem q5v (a b : PySem.Str) : (a ++ b).cps.toList = a.cps.toList ++ b.cps.toList:=by
 show (a.cps ++ b.cps).toList = _
 simp
private theorem w2x : ∀ ys : List PySem.Str,(PySem.Txt.join ⟨#[]⟩ ys).cps.toList = catS ys
 | [] => rfl
 | [x] => by
  have : PySem.Txt.join ⟨#[]⟩ [x] = x:=(PySem.StrLaws.glued_eq_join _ _).trans (join_one _ _)
  rw [this];simp [catS]
 | x :: y :: r => by
  have : PySem.Txt.join ⟨#[]⟩ (x :: y :: r) = x ++ ⟨#[]⟩ ++ PySem.Txt.join ⟨#[]⟩ (y :: r):=by
   show Builtin.Str.glued _ _ = _ ++ Builtin.Str.glued _ _
   rw [PySem.StrLaws.glued_eq_join,PySem.StrLaws.glued_eq_join];exact join_cons_cons _ _ _ _
  rw [this,q5v,q5v,w2x (y :: r)]
  simp [catS]
noncomputable def crlf : List Nat → List Nat
 | [] => []
 | 13 :: 10 :: l => 13 :: 10 :: crlf l
 | 13 :: l => 13 :: 10 :: crlf l
 | 10 :: l => 13 :: 10 :: crlf l
 | c :: l => c :: crlf l
noncomputable def dotted (bol : Bool) : List Nat → List Nat
 | [] => []
 | c :: l => if bol && c == 46 then 46 :: 46 :: dotted false l else c :: dotted (c == 10) l
noncomputable def quoteL (l : List Nat) : List Nat:=dotted true (crlf l)
noncomputable def quoteS (x : PySem.Str) : PySem.Str:=⟨(quoteL x.cps.toList).toArray⟩
private theorem w6c (l : List Nat) : (crlf l).length ≤ 2 * l.length:=by
 fun_induction crlf l <;> simp_all <;> lia
private theorem q8n {text : Array Nat} {p q : Nat} (h : p < q) (hq : q ≤ text.size) : (text.extract p q).toList = text.getD p 0 :: (text.extract (p + 1) q).toList:=by
 rw [Array.toList_extract,Array.toList_extract]
 have hp : p < text.toList.length:=by simp;with_reducible exact naa
 simp only [List.extract_eq_take_drop]
 rw [List.drop_eq_getElem_cons hp,show q - p = (q - (p + 1)) + 1 by with_reducible exact na3,List.take_succ_cons]
 congr 1
 simp [Array.getD,show p < text.size by lia]
private theorem q2x {text : Array Nat} {p : Nat} (h : p < text.size) : text.toList.drop p = text.getD p 0 :: text.toList.drop (p + 1):=by
 rw [List.drop_eq_getElem_cons (by simpa using h)]
 congr 1
 simp [Array.getD,h]
private theorem w5o {text : Array Nat} : ∀ (k p : Nat),text.size - p = k → nextNl text p = none → crlf (text.toList.drop p) = text.toList.drop p:=by
 intro k
 induction k using Nat.strongRecOn with
 | ind k IH =>
  intro p hk h
  by_cases hp : p < text.size
  ·unfold nextNl at h
   rw [if_pos hp] at h
   by_cases hn : isNl (text.getD p 0) = true
   ·rw [if_pos hn] at h;cases h
   ·rw [if_neg hn] at h
    rw [q2x hp]
    have ih:=IH (k - 1) (by with_reducible exact na2) (p + 1) (by with_reducible exact na1) h
    have h13 : text.getD p 0 ≠ 13:=fun q => hn (by rw [q];rfl)
    have h10 : text.getD p 0 ≠ 10:=fun q => hn (by rw [q];rfl)
    rw [crlf]
    ·rw [ih]
    all_goals simp_all
  ·rw [List.drop_of_length_le (by simp;lia)];rfl
private theorem z0o {text : Array Nat} {q : Nat} : ∀ (k p : Nat),text.size - p = k → nextNl text p = some q → crlf (text.toList.drop p) = (text.extract p q).toList ++ 13 :: 10 :: crlf (text.toList.drop (q + nlLen text q)):=by
 intro k
 induction k using Nat.strongRecOn with
 | ind k IH =>
  intro p hk h
  have hq:=q3p _ p rfl h
  unfold nextNl at h
  by_cases hp : p < text.size
  ·rw [if_pos hp] at h
   by_cases hn : isNl (text.getD p 0) = true
   ·rw [if_pos hn] at h
    have hpq:=Option.some.inj h
    subst hpq
    have e0 : (text.extract p p).toList = []:=by simp
    rw [e0,List.nil_append]
    unfold nlLen
    rw [q2x hp]
    unfold isNl at hn
    by_cases h10 : text.getD p 0 = 10
    ·rw [h10]
     have : ((10 : Nat) == 13 && (decide (p + 1 < text.size) && text.getD (p + 1) 0 == 10)) = false:=rfl
     rw [this]
     simp only [Bool.false_eq_true,if_false]
     rw [crlf]
    ·have h13 : text.getD p 0 = 13:=by rw [Bool.or_eq_true,beq_iff_eq,beq_iff_eq] at hn;exact hn.resolve_left h10
     rw [h13]
     by_cases hc : p + 1 < text.size ∧ text.getD (p + 1) 0 = 10
     ·rw [if_pos (by simp [hc.1,hc.2]),q2x hc.1,hc.2]
      rw [crlf]
     ·rw [if_neg (by simp only [Bool.and_eq_true,decide_eq_true_eq,beq_iff_eq];exact fun q => hc q.2)]
      by_cases h1 : p + 1 < text.size
      ·rw [q2x h1]
       have hne : text.getD (p + 1) 0 ≠ 10:=fun q => hc ⟨h1,q⟩
       rw [crlf]
       intro l e
       exact hne (List.cons.inj e).1
      ·rw [List.drop_of_length_le (by simp;lia)]
       rfl
   ·rw [if_neg hn] at h
    have ih:=IH (k - 1) (by with_reducible exact na2) (p + 1) (by with_reducible exact na1) h
    have hpq : p < q:=by have:=q3p _ (p + 1) rfl h;lia
    rw [q2x hp,q8n hpq (by lia),List.cons_append,← ih]
    have h13 : text.getD p 0 ≠ 13:=fun q => hn (by rw [q];rfl)
    have h10 : text.getD p 0 ≠ 10:=fun q => hn (by rw [q];rfl)
    rw [crlf]
    all_goals simp_all
  ·rw [if_neg hp] at h;cases h
private theorem q2p (a b : List PySem.Str) : catS (a ++ b) = catS a ++ catS b:=by simp [catS]
private theorem sub_crlf (text : Array Nat) : ∀ (f p : Nat) (ys : List PySem.Str),p ≤ text.size → text.size - p ≤ f → catS (q1v (nextNl text) (nlLen text) text #[13,10] f p ys) = catS ys ++ crlf (text.toList.drop p):=by
 intro f
 induction f using Nat.strongRecOn with
 | ind f IH =>
  intro p ys hp hf
  have fin : nextNl text p = none → catS (if p < text.size then ys ++ [⟨text.extract p text.size⟩] else ys) = catS ys ++ crlf (text.toList.drop p):=fun h => by
   rw [w5o _ p rfl h]
   by_cases hlt : p < text.size
   ·rw [if_pos hlt,q2p]
    congr 1
    have e : List.take (text.size - p) (List.drop p text.toList) = List.drop p text.toList:=List.take_of_length_le (by simp)
    simp [catS,List.extract_eq_take_drop,e]
   ·rw [if_neg hlt,List.drop_of_length_le (by simp;lia),List.append_nil]
  cases f with
  | zero =>
   refine fin ?_
   unfold nextNl
   rw [if_neg (by lia)]
  | succ f =>
   unfold q1v
   cases h : nextNl text p with
   | none => exact fin h
   | some q =>
    obtain ⟨h1,h2,h3⟩:=q3p _ p rfl h
    have hlen : 1 ≤ nlLen text q ∧ q + nlLen text q ≤ text.size:=by
     have : (nlLen text q = 2 ∧ q + 1 < text.size) ∨ nlLen text q = 1:=by
      unfold nlLen
      by_cases hc : (text.getD q 0 == 13 && (decide (q + 1 < text.size) && text.getD (q + 1) 0 == 10)) = true
      ·rw [if_pos hc]
       simp only [Bool.and_eq_true,decide_eq_true_eq] at hc
       exact .inl ⟨rfl,hc.2.1⟩
      ·rw [if_neg hc]
       exact .inr rfl
     rcases this with ⟨e,h4⟩ | e <;> rw [e] <;> lia
    rw [z0o _ p rfl h]
    show catS (q1v _ _ _ _ f _ _) = _
    rw [IH f (by lia) _ _ hlen.2 (by lia),q2p]
    have e : catS (if p < q then ys ++ [⟨text.extract p q⟩] else ys) = catS ys ++ (text.extract p q).toList:=by
     by_cases hpq : p < q
     ·rw [if_pos hpq,q2p];simp [catS]
     ·rw [if_neg hpq,show p = q by lia];simp
    rw [e]
    simp [catS,List.append_assoc]
private theorem q3x {text : Array Nat} {q : Nat} : ∀ (k p : Nat),text.size - p = k → q0x text p = some q → p ≤ q ∧ q < text.size ∧ atB text q = true ∧ text.getD q 0 = 46:=by
 intro k
 induction k using Nat.strongRecOn with
 | ind k IH =>
  intro p hk h
  unfold q0x at h
  by_cases hp : p < text.size
  ·rw [if_pos hp] at h
   by_cases hn : (atB text p && text.getD p 0 == 46) = true
   ·rw [if_pos hn] at h
    have hpq:=Option.some.inj h
    subst hpq
    rw [Bool.and_eq_true,beq_iff_eq] at hn
    exact ⟨Nat.le_refl _,hp,hn.1,hn.2⟩
   ·rw [if_neg hn] at h
    obtain ⟨h1,h2⟩:=IH (k - 1) (by with_reducible exact na2) (p + 1) (by with_reducible exact na1) h
    exact ⟨by lia,h2⟩
  ·rw [if_neg hp] at h;cases h
private theorem w3h (text : Array Nat) (p : Nat) : atB text (p + 1) = (text.getD p 0 == 10):=by
 unfold atB
 rw [Nat.add_sub_cancel]
 have : (p + 1 == 0) = false:=rfl
 rw [this,Bool.false_or]
private theorem w4c {text : Array Nat} : ∀ (k p : Nat),text.size - p = k → q0x text p = none → dotted (atB text p) (text.toList.drop p) = text.toList.drop p:=by
 intro k
 induction k using Nat.strongRecOn with
 | ind k IH =>
  intro p hk h
  by_cases hp : p < text.size
  ·unfold q0x at h
   rw [if_pos hp] at h
   by_cases hn : (atB text p && text.getD p 0 == 46) = true
   ·rw [if_pos hn] at h;cases h
   ·rw [if_neg hn] at h
    rw [q2x hp]
    unfold dotted
    rw [if_neg hn,← w3h,IH (k - 1) (by with_reducible exact na2) (p + 1) (by with_reducible exact na1) h]
  ·rw [List.drop_of_length_le (by simp;lia)];rfl
private theorem w8k {text : Array Nat} {q : Nat} : ∀ (k p : Nat),text.size - p = k → q0x text p = some q → dotted (atB text p) (text.toList.drop p) = (text.extract p q).toList ++ 46 :: 46 :: dotted (atB text (q + 1)) (text.toList.drop (q + 1)):=by
 intro k
 induction k using Nat.strongRecOn with
 | ind k IH =>
  intro p hk h
  have hq:=q3x _ p rfl h
  unfold q0x at h
  by_cases hp : p < text.size
  ·rw [if_pos hp] at h
   by_cases hn : (atB text p && text.getD p 0 == 46) = true
   ·rw [if_pos hn] at h
    have hpq:=Option.some.inj h
    subst hpq
    have e0 : (text.extract p p).toList = []:=by simp
    rw [e0,List.nil_append,q2x hp]
    conv => lhs;unfold dotted
    rw [if_pos hn,w3h,hq.2.2.2]
    rfl
   ·rw [if_neg hn] at h
    have ih:=IH (k - 1) (by with_reducible exact na2) (p + 1) (by with_reducible exact na1) h
    have hpq : p < q:=by have:=q3x _ (p + 1) rfl h;lia
    rw [q2x hp,q8n hpq (by lia),List.cons_append,← ih]
    conv => lhs;unfold dotted
    rw [if_neg hn,← w3h]
  ·rw [if_neg hp] at h;cases h
private theorem sub_dot (text : Array Nat) : ∀ (f p : Nat) (ys : List PySem.Str),p ≤ text.size → text.size - p ≤ f → catS (q1v (q0x text) (fun _ => 1) text #[46,46] f p ys) = catS ys ++ dotted (atB text p) (text.toList.drop p):=by
 intro f
 induction f using Nat.strongRecOn with
 | ind f IH =>
  intro p ys hp hf
  have fin : q0x text p = none → catS (if p < text.size then ys ++ [⟨text.extract p text.size⟩] else ys) = catS ys ++ dotted (atB text p) (text.toList.drop p):=fun h => by
   rw [w4c _ p rfl h]
   by_cases hlt : p < text.size
   ·rw [if_pos hlt,q2p]
    congr 1
    have e : List.take (text.size - p) (List.drop p text.toList) = List.drop p text.toList:=List.take_of_length_le (by simp)
    simp [catS,e]
   ·rw [if_neg hlt,List.drop_of_length_le (by simp;lia),List.append_nil]
  cases f with
  | zero =>
   refine fin ?_
   unfold q0x
   rw [if_neg (by lia)]
  | succ f =>
   unfold q1v
   cases h : q0x text p with
   | none => exact fin h
   | some q =>
    obtain ⟨h1,h2,h3⟩:=q3x _ p rfl h
    rw [w8k _ p rfl h]
    show catS (q1v _ _ _ _ f _ _) = _
    rw [IH f (by lia) (q + 1) _ (by lia) (by with_reducible exact na6),q2p]
    have e : catS (if p < q then ys ++ [⟨text.extract p q⟩] else ys) = catS ys ++ (text.extract p q).toList:=by
     by_cases hpq : p < q
     ·rw [if_pos hpq,q2p];simp [catS]
     ·rw [if_neg hpq,show p = q by lia];simp
    rw [e]
    simp [catS,List.append_assoc]
private theorem w6q {a b : PySem.Str} (h : a.cps.toList = b.cps.toList) : a = b:=by
 obtain ⟨a⟩:=a
 obtain ⟨b⟩:=b
 congr 1
 exact Array.toList_inj.mp h
noncomputable def crlfS (x : PySem.Str) : PySem.Str:=⟨(crlf x.cps.toList).toArray⟩
private theorem w3o (x : PySem.Str) : PySem.Txt.join ⟨#[]⟩ (q1v (nextNl x.cps) (nlLen x.cps) x.cps #[13,10] x.cps.size 0 []) = crlfS x:=by
 apply w6q
 rw [w2x,sub_crlf x.cps _ 0 [] (Nat.zero_le _) (by with_reducible exact Nat.sub_le _ _)]
 simp [catS,crlfS]
private theorem w5e (x : PySem.Str) : PySem.Txt.join ⟨#[]⟩ (q1v (q0x x.cps) (fun _ => 1) x.cps #[46,46] x.cps.size 0 []) = ⟨(dotted true x.cps.toList).toArray⟩:=by
 apply w6q
 rw [w2x,sub_dot x.cps _ 0 [] (Nat.zero_le _) (by with_reducible exact Nat.sub_le _ _)]
 have : atB x.cps 0 = true:=rfl
 simp [catS,this]
private theorem w9z (x : PySem.Str) : (⟨(dotted true (crlfS x).cps.toList).toArray⟩ : PySem.Str) = quoteS x:=by simp [crlfS,quoteS,quoteL]
end
section
open PySem PySem.W PySem.Calls PyProof.Rows
noncomputable def w6i : Nat → List (List Bool)
 | 0 => [[]]
 | n + 1 => (w6i n).flatMap fun l => [false :: l,true :: l]
private theorem w0z : ∀ (n : Nat) (l : List Bool),l.length = n → l ∈ w6i n
 | 0,l,h => by rw [List.length_eq_zero_iff.mp h];exact .head _
 | n + 1,l,h => by
  match l,h with
  | b :: l,h =>
   refine List.mem_flatMap.mpr ⟨l,w0z n l (by simpa using h),?_⟩
   cases b <;> simp
noncomputable def bitIx (i k : Nat) : Nat:=match i,k with
 | 0,1 => 0 | 0,2 => 1 | 0,3 => 2 | 0,4 => 3 | 1,2 => 4 | 1,3 => 5 | 1,4 => 6 | 2,3 => 7 | 2,4 => 8 | 3,4 => 9 | _,_ => 10
noncomputable def apOf (bs : List Bool) (i k : Nat) : Bool:=bs.getD (bitIx i k) false
noncomputable def bitsOf (ap : Nat → Nat → Bool) : List Bool:=[ap 0 1,ap 0 2,ap 0 3,ap 0 4,ap 1 2,ap 1 3,ap 1 4,ap 2 3,ap 2 4,ap 3 4]
noncomputable def prs : List (Nat × Nat):=[(0,1),(0,2),(0,3),(0,4),(1,2),(1,3),(1,4),(2,3),(2,4),(3,4)]
private theorem prs_at : ∀ k,k < 5 → ∀ i,i < k → prs[bitIx i k]? = some (i,k):=by decide
private theorem q5j (ap : Nat → Nat → Bool) {i k : Nat} (h : i < k) (hk : k < 5) : apOf (bitsOf ap) i k = ap i k:=by
 show (prs.map fun p => ap p.1 p.2).getD (bitIx i k) false = _
 rw [List.getD_eq_getElem?_getD,List.getElem?_map,prs_at k hk i h]
 rfl
noncomputable def stair (ap : Nat → Nat → Bool) : Bool:=(List.range 5).all fun k => (List.range 5).all fun i => (!(decide (i < k) && decide (k + 1 < 5) && ap i k) || ap i (k + 1)) && (!(decide (i + 1 < k) && ap (i + 1) k) || ap i k)
noncomputable def stairs : List (List Bool):=(w6i 10).filter fun bs => stair (apOf bs)
noncomputable def crlfT : PySem.Str:=⟨#[13,10]⟩
noncomputable def nlsT : List PySem.Str:=[⟨#[10]⟩,⟨#[13]⟩,⟨#[13,10]⟩]
noncomputable def q0d (mail : PySem.Str) : List PySem.Str:=(PySem.Txt.split mail crlfT).dropLast
noncomputable def shutS (ap : Nat → Nat → Bool) (rows : List PySem.Str) (k i : Nat) : PySem.Str:=if ap i k && q1h 46 (rows.getD i ⟨#[]⟩) then ⟨#[45]⟩ else ⟨#[]⟩
noncomputable def partS' (ap : Nat → Nat → Bool) (rows : List PySem.Str) (k i : Nat) : PySem.Str:=shutS ap rows k i ++ rows.getD i ⟨#[]⟩ ++ nlsT.getD ((i + k) % 3) ⟨#[]⟩
noncomputable def textS (ap : Nat → Nat → Bool) (rows : List PySem.Str) (k : Nat) : PySem.Str:=PySem.Txt.join ⟨#[]⟩ ((List.range k).map (partS' ap rows k))
noncomputable def mailS (ap : Nat → Nat → Bool) : Nat → PySem.Str
 | 0 => ⟨#[]⟩
 | k + 1 => quoteS (textS ap (q0d (mailS ap k)) k) ++ ⟨#[46,13,10]⟩
private theorem w0i {ap ap' : Nat → Nat → Bool} (h : ∀ i k,i < k → k < 5 → ap i k = ap' i k) : ∀ k,k ≤ 5 → mailS ap k = mailS ap' k
 | 0,_ => rfl
 | k + 1,hk => by
  show quoteS (textS ap (q0d (mailS ap k)) k) ++ _ = quoteS (textS ap' (q0d (mailS ap' k)) k) ++ _
  rw [w0i h k (by lia)]
  have : (List.range k).map (partS' ap (q0d (mailS ap' k)) k) = (List.range k).map (partS' ap' (q0d (mailS ap' k)) k):=List.map_congr_left fun i hi => by
   have hi':=List.mem_range.mp hi
   unfold partS' shutS
   rw [h i k hi' (by lia)]
  unfold textS
  rw [this]
noncomputable def dotT : PySem.Str:=⟨#[46]⟩
noncomputable def dotsS (ap : Nat → Nat → Bool) : List Int:=(q0d (mailS ap 5)).map fun r => PySem.Txt.count r dotT
noncomputable def dotL (ap : Nat → Nat → Bool) (i : Nat) : Nat:=1 + (((List.range (4 - i)).map fun j => ap i (i + 1 + j)).takeWhile (fun b => !b)).length
noncomputable def mailLv : List (List (List Nat)):=[
 [[]],
 [[46,13,10]],
 [[46,46,13,10,46,13,10],[45,46,13,10,46,13,10]],
 [[46,46,46,13,10,46,46,13,10,46,13,10],[45,46,46,13,10,46,46,13,10,46,13,10],[45,46,13,10,46,46,13,10,46,13,10],[45,46,46,13,10,45,46,13,10,46,13,10],[45,46,13,10,45,46,13,10,46,13,10]],
 [[46,46,46,46,13,10,46,46,46,13,10,46,46,13,10,46,13,10],[45,46,46,46,13,10,46,46,46,13,10,46,46,13,10,46,13,10],[45,46,46,13,10,46,46,46,13,10,46,46,13,10,46,13,10],[45,46,13,10,46,46,46,13,10,46,46,13,10,46,13,10],[45,46,46,46,13,10,45,46,46,13,10,46,46,13,10,46,13,10],[45,46,46,13,10,45,46,46,13,10,46,46,13,10,46,13,10],[45,46,13,10,45,46,46,13,10,46,46,13,10,46,13,10],[45,46,46,13,10,45,46,13,10,46,46,13,10,46,13,10],[45,46,13,10,45,46,13,10,46,46,13,10,46,13,10],[45,46,46,46,13,10,45,46,46,13,10,45,46,13,10,46,13,10],[45,46,46,13,10,45,46,46,13,10,45,46,13,10,46,13,10],[45,46,13,10,45,46,46,13,10,45,46,13,10,46,13,10],[45,46,46,13,10,45,46,13,10,45,46,13,10,46,13,10],[45,46,13,10,45,46,13,10,45,46,13,10,46,13,10]],
 [[46,46,46,46,46,13,10,46,46,46,46,13,10,46,46,46,13,10,46,46,13,10,46,13,10],[45,46,46,46,46,13,10,46,46,46,46,13,10,46,46,46,13,10,46,46,13,10,46,13,10],[45,46,46,46,13,10,46,46,46,46,13,10,46,46,46,13,10,46,46,13,10,46,13,10],[45,46,46,13,10,46,46,46,46,13,10,46,46,46,13,10,46,46,13,10,46,13,10],[45,46,13,10,46,46,46,46,13,10,46,46,46,13,10,46,46,13,10,46,13,10],[45,46,46,46,46,13,10,45,46,46,46,13,10,46,46,46,13,10,46,46,13,10,46,13,10],[45,46,46,46,13,10,45,46,46,46,13,10,46,46,46,13,10,46,46,13,10,46,13,10],[45,46,46,13,10,45,46,46,46,13,10,46,46,46,13,10,46,46,13,10,46,13,10],[45,46,13,10,45,46,46,46,13,10,46,46,46,13,10,46,46,13,10,46,13,10],[45,46,46,46,13,10,45,46,46,13,10,46,46,46,13,10,46,46,13,10,46,13,10],[45,46,46,13,10,45,46,46,13,10,46,46,46,13,10,46,46,13,10,46,13,10],[45,46,13,10,45,46,46,13,10,46,46,46,13,10,46,46,13,10,46,13,10],[45,46,46,13,10,45,46,13,10,46,46,46,13,10,46,46,13,10,46,13,10],[45,46,13,10,45,46,13,10,46,46,46,13,10,46,46,13,10,46,13,10],[45,46,46,46,46,13,10,45,46,46,46,13,10,45,46,46,13,10,46,46,13,10,46,13,10],[45,46,46,46,13,10,45,46,46,46,13,10,45,46,46,13,10,46,46,13,10,46,13,10],[45,46,46,13,10,45,46,46,46,13,10,45,46,46,13,10,46,46,13,10,46,13,10],[45,46,13,10,45,46,46,46,13,10,45,46,46,13,10,46,46,13,10,46,13,10],[45,46,46,46,13,10,45,46,46,13,10,45,46,46,13,10,46,46,13,10,46,13,10],[45,46,46,13,10,45,46,46,13,10,45,46,46,13,10,46,46,13,10,46,13,10],[45,46,13,10,45,46,46,13,10,45,46,46,13,10,46,46,13,10,46,13,10],[45,46,46,13,10,45,46,13,10,45,46,46,13,10,46,46,13,10,46,13,10],[45,46,13,10,45,46,13,10,45,46,46,13,10,46,46,13,10,46,13,10],[45,46,46,46,13,10,45,46,46,13,10,45,46,13,10,46,46,13,10,46,13,10],[45,46,46,13,10,45,46,46,13,10,45,46,13,10,46,46,13,10,46,13,10],[45,46,13,10,45,46,46,13,10,45,46,13,10,46,46,13,10,46,13,10],[45,46,46,13,10,45,46,13,10,45,46,13,10,46,46,13,10,46,13,10],[45,46,13,10,45,46,13,10,45,46,13,10,46,46,13,10,46,13,10],[45,46,46,46,46,13,10,45,46,46,46,13,10,45,46,46,13,10,45,46,13,10,46,13,10],[45,46,46,46,13,10,45,46,46,46,13,10,45,46,46,13,10,45,46,13,10,46,13,10],[45,46,46,13,10,45,46,46,46,13,10,45,46,46,13,10,45,46,13,10,46,13,10],[45,46,13,10,45,46,46,46,13,10,45,46,46,13,10,45,46,13,10,46,13,10],[45,46,46,46,13,10,45,46,46,13,10,45,46,46,13,10,45,46,13,10,46,13,10],[45,46,46,13,10,45,46,46,13,10,45,46,46,13,10,45,46,13,10,46,13,10],[45,46,13,10,45,46,46,13,10,45,46,46,13,10,45,46,13,10,46,13,10],[45,46,46,13,10,45,46,13,10,45,46,46,13,10,45,46,13,10,46,13,10],[45,46,13,10,45,46,13,10,45,46,46,13,10,45,46,13,10,46,13,10],[45,46,46,46,13,10,45,46,46,13,10,45,46,13,10,45,46,13,10,46,13,10],[45,46,46,13,10,45,46,46,13,10,45,46,13,10,45,46,13,10,46,13,10],[45,46,13,10,45,46,46,13,10,45,46,13,10,45,46,13,10,46,13,10],[45,46,46,13,10,45,46,13,10,45,46,13,10,45,46,13,10,46,13,10],[45,46,13,10,45,46,13,10,45,46,13,10,45,46,13,10,46,13,10]]]
noncomputable def mailEd : List (List (Nat × List Bool × Nat)):=[
 [(0,[],0)],
 [(0,[false],0),(0,[true],1)],
 [(0,[false,false],0),(0,[true,false],1),(1,[true,false],2),(0,[true,true],3),(1,[true,true],4)],
 [(0,[false,false,false],0),(0,[true,false,false],1),(1,[true,false,false],2),(2,[true,false,false],3),(0,[true,true,false],4),(1,[true,true,false],5),(2,[true,true,false],6),(3,[true,true,false],7),(4,[true,true,false],8),(0,[true,true,true],9),(1,[true,true,true],10),(2,[true,true,true],11),(3,[true,true,true],12),(4,[true,true,true],13)],
 [(0,[false,false,false,false],0),(0,[true,false,false,false],1),(1,[true,false,false,false],2),(2,[true,false,false,false],3),(3,[true,false,false,false],4),(0,[true,true,false,false],5),(1,[true,true,false,false],6),(2,[true,true,false,false],7),(3,[true,true,false,false],8),(4,[true,true,false,false],9),(5,[true,true,false,false],10),(6,[true,true,false,false],11),(7,[true,true,false,false],12),(8,[true,true,false,false],13),(0,[true,true,true,false],14),(1,[true,true,true,false],15),(2,[true,true,true,false],16),(3,[true,true,true,false],17),(4,[true,true,true,false],18),(5,[true,true,true,false],19),(6,[true,true,true,false],20),(7,[true,true,true,false],21),(8,[true,true,true,false],22),(9,[true,true,true,false],23),(10,[true,true,true,false],24),(11,[true,true,true,false],25),(12,[true,true,true,false],26),(13,[true,true,true,false],27),(0,[true,true,true,true],28),(1,[true,true,true,true],29),(2,[true,true,true,true],30),(3,[true,true,true,true],31),(4,[true,true,true,true],32),(5,[true,true,true,true],33),(6,[true,true,true,true],34),(7,[true,true,true,true],35),(8,[true,true,true,true],36),(9,[true,true,true,true],37),(10,[true,true,true,true],38),(11,[true,true,true,true],39),(12,[true,true,true,true],40),(13,[true,true,true,true],41)]]
noncomputable def w6y : List (List Bool × List Nat):=[
 ([false,false,false,false,false,false,false,false,false,false],[0,0,0,0,0,0]),
 ([false,false,false,true,false,false,false,false,false,false],[0,0,0,0,0,1]),
 ([false,false,true,true,false,false,false,false,false,false],[0,0,0,0,1,2]),
 ([false,true,true,true,false,false,false,false,false,false],[0,0,0,1,2,3]),
 ([true,true,true,true,false,false,false,false,false,false],[0,0,1,2,3,4]),
 ([false,false,false,true,false,false,true,false,false,false],[0,0,0,0,0,5]),
 ([false,false,true,true,false,false,true,false,false,false],[0,0,0,0,1,6]),
 ([false,true,true,true,false,false,true,false,false,false],[0,0,0,1,2,7]),
 ([true,true,true,true,false,false,true,false,false,false],[0,0,1,2,3,8]),
 ([false,false,true,true,false,true,true,false,false,false],[0,0,0,0,4,9]),
 ([false,true,true,true,false,true,true,false,false,false],[0,0,0,1,5,10]),
 ([true,true,true,true,false,true,true,false,false,false],[0,0,1,2,6,11]),
 ([false,true,true,true,true,true,true,false,false,false],[0,0,0,3,7,12]),
 ([true,true,true,true,true,true,true,false,false,false],[0,0,1,4,8,13]),
 ([false,false,false,true,false,false,true,false,true,false],[0,0,0,0,0,14]),
 ([false,false,true,true,false,false,true,false,true,false],[0,0,0,0,1,15]),
 ([false,true,true,true,false,false,true,false,true,false],[0,0,0,1,2,16]),
 ([true,true,true,true,false,false,true,false,true,false],[0,0,1,2,3,17]),
 ([false,false,true,true,false,true,true,false,true,false],[0,0,0,0,4,18]),
 ([false,true,true,true,false,true,true,false,true,false],[0,0,0,1,5,19]),
 ([true,true,true,true,false,true,true,false,true,false],[0,0,1,2,6,20]),
 ([false,true,true,true,true,true,true,false,true,false],[0,0,0,3,7,21]),
 ([true,true,true,true,true,true,true,false,true,false],[0,0,1,4,8,22]),
 ([false,false,true,true,false,true,true,true,true,false],[0,0,0,0,9,23]),
 ([false,true,true,true,false,true,true,true,true,false],[0,0,0,1,10,24]),
 ([true,true,true,true,false,true,true,true,true,false],[0,0,1,2,11,25]),
 ([false,true,true,true,true,true,true,true,true,false],[0,0,0,3,12,26]),
 ([true,true,true,true,true,true,true,true,true,false],[0,0,1,4,13,27]),
 ([false,false,false,true,false,false,true,false,true,true],[0,0,0,0,0,28]),
 ([false,false,true,true,false,false,true,false,true,true],[0,0,0,0,1,29]),
 ([false,true,true,true,false,false,true,false,true,true],[0,0,0,1,2,30]),
 ([true,true,true,true,false,false,true,false,true,true],[0,0,1,2,3,31]),
 ([false,false,true,true,false,true,true,false,true,true],[0,0,0,0,4,32]),
 ([false,true,true,true,false,true,true,false,true,true],[0,0,0,1,5,33]),
 ([true,true,true,true,false,true,true,false,true,true],[0,0,1,2,6,34]),
 ([false,true,true,true,true,true,true,false,true,true],[0,0,0,3,7,35]),
 ([true,true,true,true,true,true,true,false,true,true],[0,0,1,4,8,36]),
 ([false,false,true,true,false,true,true,true,true,true],[0,0,0,0,9,37]),
 ([false,true,true,true,false,true,true,true,true,true],[0,0,0,1,10,38]),
 ([true,true,true,true,false,true,true,true,true,true],[0,0,1,2,11,39]),
 ([false,true,true,true,true,true,true,true,true,true],[0,0,0,3,12,40]),
 ([true,true,true,true,true,true,true,true,true,true],[0,0,1,4,13,41])]
noncomputable def stepM (ap : Nat → Nat → Bool) (k : Nat) (mail : PySem.Str) : PySem.Str:=quoteS (textS ap (q0d mail) k) ++ ⟨#[46,13,10]⟩
private theorem q6d {ap ap' : Nat → Nat → Bool} {k : Nat} (h : ∀ i,i < k → ap i k = ap' i k) (m : PySem.Str) : stepM ap k m = stepM ap' k m ∧ textS ap (q0d m) k = textS ap' (q0d m) k:=by
 have : (List.range k).map (partS' ap (q0d m) k) = (List.range k).map (partS' ap' (q0d m) k):=List.map_congr_left fun i hi => by
  unfold partS' shutS
  rw [h i (List.mem_range.mp hi)]
 have e : textS ap (q0d m) k = textS ap' (q0d m) k:=by unfold textS;rw [this]
 exact ⟨by unfold stepM;rw [e],e⟩
noncomputable def rowsOk (k : Nat) (mail : PySem.Str) : Bool:=((q0d mail).length == k) && (q0d mail).all (fun r => decide (r.length ≠ 0 ∧ r.length ≤ 100)) && decide (mail.length ≤ 1000)
noncomputable def mkS (l : List Nat) : PySem.Str:=⟨l.toArray⟩
noncomputable def lvAt (k p : Nat) : PySem.Str:=mkS ((mailLv.getD k []).getD p [])
noncomputable def colAp (col : List Bool) (i _k : Nat) : Bool:=col.getD i false
noncomputable def edgeOk (k : Nat) (e : Nat × List Bool × Nat) : Bool:=decide ((textS (colAp e.2.1) (q0d (lvAt k e.1)) k).length ≤ 1000) && (stepM (colAp e.2.1) k (lvAt k e.1) == lvAt (k + 1) e.2.2)
private theorem lv_ok : ((List.range 5).all fun k => (mailLv.getD k []).all fun m => rowsOk k (mkS m)) = true:=by decide +kernel
private theorem lv_len : ((mailLv.getD 5 []).all fun m => decide ((mkS m).length ≤ 1000)) = true:=by decide +kernel
private theorem ed_ok0 : ((List.range 4).all fun k => (mailEd.getD k []).all (edgeOk k)) = true:=by decide +kernel
private theorem ed_ok4 : ((mailEd.getD 4 []).all (edgeOk 4)) = true:=by decide +kernel
private theorem ed_ok {k : Nat} (hk : k < 5) : (mailEd.getD k []).all (edgeOk k) = true:=by
 by_cases h : k = 4
 ·subst h;exact ed_ok4
 ·exact List.all_eq_true.mp ed_ok0 k (List.mem_range.mpr (by lia))
noncomputable def colOf (bs : List Bool) (k : Nat) : List Bool:=(List.range k).map fun i => apOf bs i k
noncomputable def pathOk (e : List Bool × List Nat) : Bool:=(e.2.getD 0 1 == 0) && ((List.range 5).all fun k => (mailEd.getD k []).contains (e.2.getD k 99,colOf e.1 k,e.2.getD (k + 1) 99)) && (decide (e.2.getD 5 99 < 42)) &&
 (((q0d (lvAt 5 (e.2.getD 5 99))).map fun r => PySem.Txt.count r dotT) == (List.range 5).map (fun i => ((dotL (apOf e.1) i : Nat) : Int)))
private theorem path_ok : w6y.all pathOk = true:=by decide +kernel
private theorem path_has : stairs.all (fun bs => w6y.any fun e => e.1 == bs) = true:=by decide +kernel
private theorem w8n {bs : List Bool} (h : bs ∈ stairs) : ∀ k,k ≤ 5 → (k < 5 → rowsOk k (mailS (apOf bs) k) = true ∧ (textS (apOf bs) (q0d (mailS (apOf bs) k)) k).length ≤ 1000) ∧ (k = 5 → (mailS (apOf bs) 5).length ≤ 1000 ∧ dotsS (apOf bs) = (List.range 5).map (fun i => ((dotL (apOf bs) i : Nat) : Int))):=by
 have h1:=List.all_eq_true.mp path_has bs h
 obtain ⟨e,he,h2⟩:=List.any_eq_true.mp h1
 have h3:=List.all_eq_true.mp path_ok e he
 unfold pathOk at h3
 simp only [Bool.and_eq_true,beq_iff_eq] at h3
 rw [eq_of_beq h2] at h3
 obtain ⟨⟨⟨h4,h5⟩,h6⟩,h7⟩:=h3
 have edge : ∀ k,k < 5 → (e.2.getD k 99,colOf bs k,e.2.getD (k + 1) 99) ∈ mailEd.getD k []:=fun k hk => by
  have:=List.all_eq_true.mp h5 k (List.mem_range.mpr hk)
  simpa using this
 have col : ∀ k i,i < k → apOf bs i k = colAp (colOf bs k) i k:=fun k i hi => by
  unfold colAp colOf
  rw [List.getD_eq_getElem?_getD,List.getElem?_map,List.getElem?_range hi];rfl
 have main : ∀ k,k ≤ 5 → mailS (apOf bs) k = lvAt k (e.2.getD k 99):=fun k => by
  induction k with
  | zero =>
   intro _
   have : e.2.getD 0 99 = 0:=by
    cases q : e.2 with
    | nil => rw [q] at h4;cases h4
    | cons a r => rw [q] at h4;exact h4
   rw [this];rfl
  | succ k ih =>
   intro hk
   have hE:=List.all_eq_true.mp (ed_ok (k:=k) (by lia)) _ (edge k (by lia))
   unfold edgeOk at hE
   simp only [Bool.and_eq_true,beq_iff_eq] at hE
   show stepM (apOf bs) k (mailS (apOf bs) k) = _
   rw [ih (by lia),(q6d (fun i hi => col k i hi) _).1]
   exact hE.2
 have inLv : ∀ k,k ≤ 5 → e.2.getD k 99 < (mailLv.getD k []).length:=fun k hk => by
  have hr : ∀ k,k < 5 → (mailEd.getD k []).all (fun e => decide (e.1 < (mailLv.getD k []).length)) = true:=by decide +kernel
  by_cases q : k = 5
  ·subst q;exact of_decide_eq_true h6
  ·have:=List.all_eq_true.mp (hr k (by lia)) _ (edge k (by lia))
   simpa using this
 have at_ : ∀ k,k ≤ 5 → ∃ m ∈ mailLv.getD k [],mailS (apOf bs) k = mkS m:=fun k hk => by
  have hlt:=inLv k hk
  refine ⟨_,List.getElem_mem hlt,?_⟩
  rw [main k hk]
  unfold lvAt
  rw [List.getD_eq_getElem?_getD (l:=mailLv.getD k []),List.getElem?_eq_getElem hlt]
  rfl
 intro k hk
 refine ⟨fun hk5 => ⟨?_,?_⟩,fun q => ⟨?_,?_⟩⟩
 ·obtain ⟨m,hm,e1⟩:=at_ k hk
  rw [e1]
  exact List.all_eq_true.mp (List.all_eq_true.mp lv_ok k (List.mem_range.mpr hk5)) m hm
 ·have hE:=List.all_eq_true.mp (ed_ok hk5) _ (edge k hk5)
  unfold edgeOk at hE
  simp only [Bool.and_eq_true,decide_eq_true_eq] at hE
  rw [main k hk,(q6d (fun i hi => col k i hi) _).2]
  exact hE.1
 ·obtain ⟨m,hm,e1⟩:=at_ 5 (Nat.le_refl _)
  rw [e1]
  exact of_decide_eq_true (List.all_eq_true.mp lv_len m hm)
 ·unfold dotsS
  rw [main 5 (by lia)]
  exact h7
end
section
open PySem PySem.W PySem.Calls PyProof.Rows
noncomputable def begF (ds : List Nat) : Nat → Nat → List Nat
 | 0,b => [b]
 | n + 1,b => if b < 5 then b :: begF ds n (b + ds.getD b 1) else [b]
noncomputable def dueRow (ws : List PySem.Str) (b e : Nat) : PySem.Str:=⟨#[32]⟩ ++ PySem.Txt.join ⟨#[32]⟩ ((ws.take e).drop b)
noncomputable def dueS (ws : List PySem.Str) (bg : List Nat) : PySem.Str:=PySem.Txt.join ⟨#[10]⟩ ((List.range (bg.length - 1)).map fun j => dueRow ws (bg.getD j 0) (bg.getD (j + 1) 0))
noncomputable def blankF (f : Nat) : PySem.Str:=if f % 2 = 0 then ⟨#[]⟩ else ⟨#[32]⟩
noncomputable def headF (ws : List PySem.Str) (f : Nat) : Int:=2 + ((ws.getD f ⟨#[]⟩).length : Int) - (blankF f).length
noncomputable def q2q (ws : List PySem.Str) (ds : List Nat) (f : Nat) : Int:=if 1 < ds.getD f 1 then headF ws f else 1 + ((ws.getD f ⟨#[]⟩).length : Int)
end
section
open PySem PySem.W PySem.Calls PyProof.Rows
noncomputable abbrev tl (x : PySem.Str) : List Nat:=x.cps.toList
noncomputable def rowT (l : List PySem.Str) : List Nat:=(l.map fun x => 32 :: tl x).flatten
private theorem q6n (a b : PySem.Str) : tl (a ++ b) = tl a ++ tl b:=by
 show (a.cps ++ b.cps).toList = _
 rw [Array.toList_append]
private theorem q2u (sep x y : PySem.Str) (r : List PySem.Str) : tl (PySem.Txt.join sep (x :: y :: r)) = tl x ++ tl sep ++ tl (PySem.Txt.join sep (y :: r)):=by
 show tl (PySem.Builtin.Str.glued sep _) = _ ++ tl (PySem.Builtin.Str.glued sep _)
 rw [StrLaws.glued_eq_join,StrLaws.glued_eq_join]
 show tl (x ++ sep ++ Str.join sep (y :: r)) = _
 rw [q6n,q6n]
private theorem q4m (sep x : PySem.Str) : PySem.Txt.join sep [x] = x:=by
 show PySem.Builtin.Str.glued sep _ = _
 rw [StrLaws.glued_eq_join];rfl
private theorem w3v : ∀ l : List PySem.Str,l ≠ [] → tl (⟨#[32]⟩ ++ PySem.Txt.join ⟨#[32]⟩ l) = rowT l
 | [],h => absurd rfl h
 | [x],_ => by rw [q4m,q6n];simp [rowT,tl]
 | x :: y :: r,_ => by
  have ih:=w3v (y :: r) (by simp)
  rw [q6n] at ih ⊢
  rw [q2u]
  show [32] ++ (tl x ++ [32] ++ _) = 32 :: tl x ++ rowT (y :: r)
  rw [← ih]
  simp [tl]
private theorem q6m {ws : List PySem.Str} {b e : Nat} (h : b < e) (he : e ≤ ws.length) : tl (dueRow ws b e) = rowT ((ws.take e).drop b):=by
 refine w3v _ fun q => ?_
 have:=congrArg List.length q
 rw [List.length_drop,List.length_take] at this
 simp at this
 lia
private theorem w5h (l m : List PySem.Str) : rowT (l ++ m) = rowT l ++ rowT m:=by unfold rowT;rw [List.map_append,List.flatten_append]
private theorem q8p (l m : List (PySem.Str × PySem.Str)) : tl (accStr (l ++ m)) = tl (accStr l) ++ tl (accStr m):=by
 show (accStr _).cps.toList = (accStr _).cps.toList ++ (accStr _).cps.toList
 rw [q0s,q0s,q0s,List.map_append,List.flatten_append]
private theorem wHT (x : PySem.Str) : tl (wHead x) ++ tl (wTail x) = tl x:=by
 show x.cps.toList.take 1 ++ x.cps.toList.drop 1 = x.cps.toList
 exact List.take_append_drop 1 _
private theorem q9c (x : PySem.Str) : tl (accStr (chunks x)) = rowT [x]:=by
 show (accStr _).cps.toList = _
 rw [q0s]
 show ([32] ++ tl (wHead x)) ++ (([] ++ tl (wTail x)) ++ []) = (32 :: tl x) ++ []
 rw [← wHT x]
 simp
private theorem q3y {ws : List PySem.Str} {b k : Nat} {x : PySem.Str} (hb : b ≤ k) (hx : ws[k]? = some x) : (ws.take (k + 1)).drop b = (ws.take k).drop b ++ [x]:=by
 have hk : k < ws.length:=(List.getElem?_eq_some_iff.mp hx).1
 rw [List.take_add_one,hx]
 show (ws.take k ++ [x]).drop b = _
 rw [List.drop_append_of_le_length (by rw [List.length_take];lia)]
private theorem q9p {ws : List PySem.Str} {b k : Nat} {x : PySem.Str} (hb : b ≤ k) (hx : ws[k]? = some x) (h : 0 < k) : roomOf ws b k = roomOf ws b (k - 1) + 1 + x.length:=by
 obtain ⟨k',rfl⟩ : ∃ k',k = k' + 1:=⟨k - 1,by with_reducible exact na4⟩
 show roomOf ws b (k' + 1) = roomOf ws b k' + 1 + x.length
 unfold roomOf
 rw [q3y hb hx,List.map_append,List.sum_append]
 simp
 lia
private theorem q8v {ws : List PySem.Str} {b : Nat} {x : PySem.Str} (hx : ws[b]? = some x) : roomOf ws b b = 1 + x.length:=by
 have h : (ws.take b).drop b = []:=by
  rw [List.drop_eq_nil_iff,List.length_take];with_reducible exact Nat.min_le_left _ _
 unfold roomOf
 rw [q3y (Nat.le_refl _) hx,h]
 simp
private theorem room_pos (ws : List PySem.Str) (b k : Nat) (h : b ≤ k) (hk : k < ws.length) : 0 < roomOf ws b k:=by
 have e : roomOf ws b k = (((ws.take (k + 1)).drop b).map fun x => 1 + (x.length : Int)).sum:=rfl
 have hl : ((ws.take (k + 1)).drop b).length ≠ 0:=by rw [List.length_drop,List.length_take];lia
 rw [e]
 generalize (ws.take (k + 1)).drop b = l at hl ⊢
 cases l with
 | nil => exact absurd rfl hl
 | cons a l =>
  have : ∀ l : List PySem.Str,0 ≤ (l.map fun x => 1 + (x.length : Int)).sum:=fun l => by
   induction l with
   | nil => simp
   | cons a l ih => simp only [List.map_cons,List.sum_cons];lia
  have:=this l
  simp only [List.map_cons,List.sum_cons];lia
noncomputable def q2i (ws : List PySem.Str) (ds : List Nat) : Nat → Nat → List PySem.Str
 | 0,_ => []
 | n + 1,b => if b < 5 then dueRow ws b (b + ds.getD b 1) :: q2i ws ds n (b + ds.getD b 1) else []
structure DotsOk (ds : List Nat) (ap : Nat → Nat → Bool) : Prop where
 pos : ∀ b,b < 5 → 1 ≤ ds.getD b 1
 le : ∀ b,b < 5 → b + ds.getD b 1 ≤ 5
 inn : ∀ b k,b < 5 → b < k → k < b + ds.getD b 1 → ap b k = false
 out : ∀ b,b < 5 → b + ds.getD b 1 < 5 → ap b (b + ds.getD b 1) = true
private theorem q2y {ws : List PySem.Str} {ds : List Nat} {m b : Nat} (hb : b < 5) : q2i ws ds (m + 1) b = dueRow ws b (b + ds.getD b 1) :: q2i ws ds m (b + ds.getD b 1):=by rw [q2i,if_pos hb]
private theorem q8i {ws : List PySem.Str} {ds : List Nat} {m : Nat} : q2i ws ds m 5 = []:=by cases m <;> simp [q2i]
private theorem q6j {ws : List PySem.Str} {ds : List Nat} {W : Int} (hwl : ws.length = 5) (hws : ∀ x ∈ ws,WordOk x) (D : DotsOk ds (apF ws W)) : ∀ (r k b m : Nat) (pre : List Nat) (st : FSt),r = 5 - k → b < k → k ≤ b + ds.getD b 1 → b < 5 → 5 - b ≤ m →
  st.2.1 ≠ [] → accLen st.2.1 st.2.2 = roomOf ws b (k - 1) → 0 ≤ st.2.2 → pre ++ tl (accStr st.2.1) = rowT ((ws.take k).drop b) →
  ((ws.drop k).foldl (foldW W) st).2.1 ≠ [] ∧ 0 < accLen ((ws.drop k).foldl (foldW W) st).2.1 ((ws.drop k).foldl (foldW W) st).2.2 ∧ 0 ≤ ((ws.drop k).foldl (foldW W) st).2.2 ∧
  ∃ r0 r0' rest,q2i ws ds m b = r0 :: rest ∧ tl r0 = pre ++ tl r0' ∧ ((ws.drop k).foldl (foldW W) st).1 ++ [accStr ((ws.drop k).foldl (foldW W) st).2.1] = st.1 ++ r0' :: rest:=by
 intro r
 induction r with
 | zero =>
  intro k b m pre st hr hbk hk hb hm hne hl hk0 ht
  have h5:=D.le b hb
  have hk5 : k = 5:=by lia
  subst hk5
  rw [List.drop_of_length_le (by (with_reducible refine naf ?_;decide))]
  obtain ⟨m,rfl⟩ : ∃ m',m = m' + 1:=⟨m - 1,by with_reducible exact nh1⟩
  have e : b + ds.getD b 1 = 5:=by lia
  refine ⟨hne,?_,hk0,dueRow ws b 5,accStr st.2.1,[],?_,?_,rfl⟩
  ·show 0 < accLen st.2.1 st.2.2
   rw [hl]
   exact room_pos _ _ _ (by with_reducible exact ng4) (by lia)
  ·rw [q2y hb,e,q8i]
  ·rw [q6m (by assumption) (by lia)]
   exact ht.symm
 | succ r ih =>
  intro k b m pre st hr hbk hk hb hm hne hl hk0 ht
  have hk5 : k < 5:=by lia
  obtain ⟨x,hx⟩ : ∃ x,ws[k]? = some x:=⟨_,List.getElem?_eq_getElem (by lia)⟩
  have hX:=hws x (List.mem_of_getElem? hx)
  have hd : ws.drop k = x :: ws.drop (k + 1):=by
   rw [List.drop_eq_getElem_cons (by lia)]
   rw [List.getElem?_eq_getElem (by lia)] at hx
   cases hx;rfl
  rw [hd,List.foldl_cons]
  have hroom:=q9p (ws:=ws) (b:=b) (k:=k) (by with_reducible exact na0) hx (by lia)
  have hacc : accLen (chunks x) 0 = 1 + x.length:=by
   have:=q8b hX
   unfold accLen
   lia
  by_cases hap : apF ws W b k = true
  ·-- a new row
   have hkb : k = b + ds.getD b 1:=by
    apply Decidable.byContradiction
    intro q
    have:=D.inn b k hb hbk (by lia)
    rw [this] at hap;cases hap
   have hgt : W < accLen st.2.1 st.2.2 + 1 + x.length:=by
    have:=of_decide_eq_true hap
    lia
   have e : foldW W st x = (st.1 ++ [accStr st.2.1],chunks x,0):=by unfold foldW;rw [if_pos ⟨hne,hgt⟩]
   rw [e]
   obtain ⟨m,rfl⟩ : ∃ m',m = m' + 1:=⟨m - 1,by with_reducible exact nh1⟩
   have hp:=D.pos k hk5
   have hnil : (ws.take k).drop k = []:=by rw [List.drop_eq_nil_iff,List.length_take];with_reducible exact Nat.min_le_left _ _
   obtain ⟨a1,a2,a3,r0,r0',rest,b1,b2,b3⟩:=ih (k + 1) k m [] (st.1 ++ [accStr st.2.1],chunks x,0) (by with_reducible exact nc1) (by lia) (by lia) hk5 (by with_reducible exact na5) (by simp [chunks]) (by rw [hacc];exact (q8v hx).symm) (Int.le_refl _) (by rw [q3y (Nat.le_refl _) hx,hnil];exact q9c x)
   refine ⟨a1,a2,a3,dueRow ws b k,accStr st.2.1,r0 :: rest,?_,?_,?_⟩
   ·rw [q2y hb,← hkb,b1]
   ·rw [q6m hbk (by lia)];exact ht.symm
   ·rw [b3]
    have : r0 = r0':=q4c b2
    rw [this]
    simp
  ·-- the same row
   have hkb : k < b + ds.getD b 1:=by
    apply Decidable.byContradiction
    intro q
    have e : k = b + ds.getD b 1:=by lia
    have:=D.out b hb (by lia)
    rw [← e] at this
    exact hap this
   have hgt : ¬ (W < accLen st.2.1 st.2.2 + 1 + x.length):=fun q => hap (by
    unfold apF
    rw [decide_eq_true_eq]
    lia)
   have e : foldW W st x = (st.1,st.2.1 ++ chunks x,st.2.2):=by unfold foldW;rw [if_neg fun q => hgt q.2]
   rw [e]
   exact ih (k + 1) b m pre (st.1,st.2.1 ++ chunks x,st.2.2) (by with_reducible exact nc1) (by lia) (by lia) hb hm (by simp [chunks])
    (by
     show accLen (st.2.1 ++ chunks x) st.2.2 = roomOf ws b k
     rw [q2l,q8b hX]
     lia) hk0
    (by
     show pre ++ tl (accStr (st.2.1 ++ chunks x)) = _
     rw [q8p,← List.append_assoc,ht,q9c,q3y (by with_reducible exact na0) hx,w5h])
private theorem begF_ne (ds : List Nat) (m b : Nat) : ∃ l,begF ds m b = b :: l:=by cases m <;> unfold begF <;> (try split) <;> exact ⟨_,rfl⟩
private theorem q8j {ws : List PySem.Str} {ds : List Nat} : ∀ m b,(List.range ((begF ds m b).length - 1)).map (fun j => dueRow ws ((begF ds m b).getD j 0) ((begF ds m b).getD (j + 1) 0)) = q2i ws ds m b
 | 0,b => rfl
 | m + 1,b => by
  rw [q2i,begF]
  split
  ·obtain ⟨l,hl⟩:=begF_ne ds m (b + ds.getD b 1)
   have ih:=q8j (ws:=ws) (ds:=ds) m (b + ds.getD b 1)
   rw [hl] at ih ⊢
   show (List.range (l.length + 1)).map _ = _
   rw [List.range_succ_eq_map,List.map_cons,List.map_map]
   rw [← ih]
   rfl
  ·rfl
private theorem z1k (ws : List PySem.Str) (ds : List Nat) (m b : Nat) : dueS ws (begF ds m b) = PySem.Txt.join ⟨#[10]⟩ (q2i ws ds m b):=by
 unfold dueS
 rw [q8j]
private theorem nl_end {st : FSt} (hne : st.2.1 ≠ []) (h0 : 0 < accLen st.2.1 st.2.2) (hk : 0 ≤ st.2.2) : q0w st.1 st.2.1 st.2.2 = st.1 ++ [accStr st.2.1]:=by
 have e : nlOf st.2.1 = st.2.1:=by unfold nlOf;rw [if_neg hne]
 unfold q0w
 rw [e,q4a hk,if_pos h0]
private theorem w8r {ws : List PySem.Str} {ds : List Nat} {W : Int} (hwl : ws.length = 5) (hws : ∀ x ∈ ws,WordOk x) (D : DotsOk ds (apF ws W)) {f : Nat} (hf : f < 5) : folded W 0 sBlank (ws.drop f) = dueS ws (begF ds 5 f):=by
 obtain ⟨x,hx⟩ : ∃ x,ws[f]? = some x:=⟨_,List.getElem?_eq_getElem (by lia)⟩
 have hX:=hws x (List.mem_of_getElem? hx)
 have hd : ws.drop f = x :: ws.drop (f + 1):=by
  rw [List.drop_eq_getElem_cons (by lia)]
  rw [List.getElem?_eq_getElem (by lia)] at hx
  cases hx;rfl
 have hall : q0o W 0 sBlank (ws.drop f) = (ws.drop (f + 1)).foldl (foldW W) ([],chunks x,0):=by
  rw [hd]
  show (if (0 : Int) < 0 then (ws.drop (f + 1)).foldl (foldW W) (q1n W 0 sBlank x) else (x :: ws.drop (f + 1)).foldl (foldW W) ([],[],0)) = _
  rw [if_neg (by decide),List.foldl_cons]
  have e : foldW W ([],[],0) x = (([],chunks x,0) : FSt):=by unfold foldW;rw [if_neg fun q => q.1 rfl];rfl
  rw [e]
 have hnil : (ws.take f).drop f = []:=by rw [List.drop_eq_nil_iff,List.length_take];with_reducible exact Nat.min_le_left _ _
 have hacc : accLen (chunks x) 0 = 1 + x.length:=by
  have:=q8b hX
  unfold accLen
  lia
 have hp:=D.pos f hf
 obtain ⟨a1,a2,a3,r0,r0',rest,b1,b2,b3⟩:=q6j hwl hws D (5 - (f + 1)) (f + 1) f 5 [] ([],chunks x,0) rfl (by lia) (by lia) hf (by with_reducible exact Nat.sub_le _ _) (by simp [chunks]) (by rw [hacc];exact (q8v hx).symm) (Int.le_refl _) (by rw [q3y (Nat.le_refl _) hx,hnil];exact q9c x)
 unfold folded
 rw [hall,nl_end a1 a2 a3,b3,z1k,b1,show r0 = r0' from q4c b2]
 rfl
end
section
set_option tactic.hygienic true
open PySem PySem.W PySem.Calls PyProof.Rows
private theorem w7z {x : PySem.Str} {n : Nat} (h : n ≤ x.length) : sSlice x (some (n : Int)) none = ⟨((tl x).drop n).toArray⟩:=by
 have e : Builtin.Str.strSliceIndices (some (n : Int)) none 1 x.length = Builtin.Str.strSliceIndices (some (n : Int)) (some (x.length : Int)) 1 x.length:=by
  have h2 : ¬ ((x.length : Int) < 0):=by lia
  have e2 : max (0 : Int) (min (x.length : Int) (x.length : Int)) = x.length:=by lia
  simp only [Builtin.Str.strSliceIndices,h2,if_false,e2]
  simp
 have hp:=StrLaws.sliced_plain x h (Nat.le_refl _)
 have hl : (Builtin.Str.strSliceIndices (some (n : Int)) (some (x.length : Int)) 1 x.length).length = x.length - n:=by
  rw [StrLaws.strSliceIndices_plain h (Nat.le_refl _)]
  simp
 have ht : (x.cps.toList.drop n).take (x.length - n) = x.cps.toList.drop n:=List.take_of_length_le (by rw [List.length_drop];exact Nat.le_refl _)
 unfold sSlice
 rw [e,hl,hp,ht]
 split
 ·rename_i hq
  have hq:=eq_of_beq hq
  have : n = 0 ∨ x.length = 0:=by lia
  rcases this with q | q
  ·subst q;exact q4c (by simp)
  ·refine q4c ?_
   have hx : x.cps.toList = []:=List.length_eq_zero_iff.mp q
   show tl x = _
   unfold tl
   rw [hx];simp
 ·rfl
private theorem w2i {x : PySem.Str} {a b : List Nat} (h : tl x = a ++ b) : sSlice x (some (a.length : Int)) none = ⟨b.toArray⟩:=by
 have hl : x.length = a.length + b.length:=by
  show x.cps.size = _
  rw [← Array.length_toList]
  show (tl x).length = _
  rw [h,List.length_append]
 rw [w7z (by lia),h]
 simp
private theorem join_cut {r0 r0' : PySem.Str} {rest : List PySem.Str} {pre : List Nat} (h : tl r0 = pre ++ tl r0') : tl (PySem.Txt.join ⟨#[10]⟩ (r0 :: rest)) = pre ++ tl (PySem.Txt.join ⟨#[10]⟩ (r0' :: rest)):=by
 cases rest with
 | nil => rw [q4m,q4m];exact h
 | cons y r => rw [q2u,q2u,h];simp
private theorem str_mk (x : PySem.Str) : (⟨(tl x).toArray⟩ : PySem.Str) = x:=q4c (by simp)
private theorem w5w {ws : List PySem.Str} {ds : List Nat} {W : Int} (hwl : ws.length = 5) (hws : ∀ x ∈ ws,WordOk x) (D : DotsOk ds (apF ws W)) (hds : ds.length = 5) {f : Nat} (hf : f < 5) :
  folded W (headF ws f) (blankF f) (ws.drop (f + 1)) = sSlice (dueS ws (begF ds 5 f)) (some (q2q ws ds f)) none:=by
 obtain ⟨x0,hx0⟩ : ∃ x,ws[f]? = some x:=⟨_,List.getElem?_eq_getElem (by lia)⟩
 have hX0:=hws x0 (List.mem_of_getElem? hx0)
 have hl0:=hX0.len
 have hg0 : ws.getD f ⟨#[]⟩ = x0:=by rw [List.getD_eq_getElem?_getD,hx0];rfl
 have hbl : (blankF f).length ≤ 1:=by unfold blankF;split <;> decide
 have hhead : headF ws f = 2 + (x0.length : Int) - (blankF f).length:=by unfold headF;rw [hg0]
 have hhp : 0 < headF ws f:=by lia
 have hnil : (ws.take f).drop f = []:=by rw [List.drop_eq_nil_iff,List.length_take];with_reducible exact Nat.min_le_left _ _
 have hmid1 : (ws.take (f + 1)).drop f = [x0]:=by rw [q3y (Nat.le_refl _) hx0,hnil];rfl
 have hd1:=D.pos f hf
 have hle:=D.le f hf
 have hlx : (tl x0).length = x0.length:=rfl
 rw [z1k]
 by_cases hf4 : f = 4
 ·-- no word behind
  subst hf4
  rw [List.drop_of_length_le (by (with_reducible refine naf ?_;decide))]
  have hd : ds.getD 4 1 = 1:=by lia
  have hb : q2q ws ds 4 = 1 + (x0.length : Int):=by unfold q2q;rw [if_neg (by lia),hg0]
  have e1 : q2i ws ds 5 4 = [dueRow ws 4 5]:=by
   rw [q2y (by decide),hd,q8i]
  rw [e1,q4m]
  have ht : tl (dueRow ws 4 5) = (32 :: tl x0) ++ []:=by
   rw [q6m (by decide) (by lia),hmid1]
   simp [rowT]
  have hs:=w2i ht
  rw [show (((32 :: tl x0).length : Nat) : Int) = 1 + (x0.length : Int) by rw [List.length_cons,hlx];lia] at hs
  rw [hb,hs]
  unfold folded
  have e : ((accN (nlOf []) (headF ws 4) : Nat) : Int) = headF ws 4:=by
   rw [q4a (by lia)]
   show headF ws 4 + (((0 : Int) + 0) + 0) = _
   lia
  show PySem.Txt.join ⟨#[10]⟩ (q0w [] [] (headF ws 4)) = _
  unfold q0w
  rw [e,if_pos hhp]
  exact q4c (by rfl)
 ·obtain ⟨x,hx⟩ : ∃ x,ws[f + 1]? = some x:=⟨_,List.getElem?_eq_getElem (by lia)⟩
  have hX:=hws x (List.mem_of_getElem? hx)
  have hd : ws.drop (f + 1) = x :: ws.drop (f + 1 + 1):=by
   rw [List.drop_eq_getElem_cons (by lia)]
   rw [List.getElem?_eq_getElem (by lia)] at hx
   cases hx;rfl
  have hroom : roomOf ws f (f + 1) = 2 + (x0.length : Int) + x.length:=by
   rw [q9p (by lia) hx (by lia),Nat.add_sub_cancel,q8v hx0]
   lia
  have hmid2 : (ws.take (f + 1 + 1)).drop f = [x0,x]:=by rw [q3y (by lia) hx,hmid1];rfl
  have hall : ∀ st : FSt,q1n W (headF ws f) (blankF f) x = st → q0o W (headF ws f) (blankF f) (ws.drop (f + 1)) = (ws.drop (f + 1 + 1)).foldl (foldW W) st:=fun st h => by
   rw [hd]
   show (if 0 < headF ws f then (ws.drop (f + 1 + 1)).foldl (foldW W) (q1n W (headF ws f) (blankF f) x) else _) = _
   rw [if_pos hhp,h]
  by_cases hap : apF ws W f (f + 1) = true
  ·-- the word begins a row
   have hgt : W < headF ws f + (blankF f).length + x.length:=by
    have:=of_decide_eq_true hap
    lia
   have hdf : ds.getD f 1 = 1:=by
    apply Decidable.byContradiction
    intro q
    have:=D.inn f (f + 1) hf (by lia) (by lia)
    rw [this] at hap;cases hap
   have hst : q1n W (headF ws f) (blankF f) x = ([sEmpty],[(sBlank,x)],0):=by unfold q1n;rw [if_pos hgt]
   have hp1:=D.pos (f + 1) (by lia)
   have hnil1 : (ws.take (f + 1)).drop (f + 1) = []:=by rw [List.drop_eq_nil_iff,List.length_take];with_reducible exact Nat.min_le_left _ _
   have hacc : accLen [(sBlank,x)] 0 = 1 + x.length:=by
    unfold accLen
    simp only [List.map_cons,List.map_nil,List.sum_cons,List.sum_nil,lenP]
    have : sBlank.length = 1:=rfl
    lia
   have htx : tl (accStr [(sBlank,x)]) = rowT [x]:=by
    show (accStr _).cps.toList = _
    rw [q0s]
    rfl
   obtain ⟨a1,a2,a3,r0,r0',rest,b1,b2,b3⟩:=q6j hwl hws D (5 - (f + 1 + 1)) (f + 1 + 1) (f + 1) 4 [] ([sEmpty],[(sBlank,x)],0) rfl (by lia) (by lia) (by lia) (by lia) (by simp) (by rw [hacc];exact (q8v hx).symm) (Int.le_refl _) (by rw [q3y (Nat.le_refl _) hx,hnil1];exact htx)
   unfold folded
   rw [hall _ hst,nl_end a1 a2 a3,b3,q2y hf,hdf,b1,show r0 = r0' from q4c b2]
   have hb : q2q ws ds f = 1 + (x0.length : Int):=by unfold q2q;rw [if_neg (by lia),hg0]
   have ht : tl (PySem.Txt.join ⟨#[10]⟩ (dueRow ws f (f + 1) :: r0' :: rest)) = (32 :: tl x0) ++ tl (PySem.Txt.join ⟨#[10]⟩ (sEmpty :: r0' :: rest)):=by
    rw [q2u,q2u,q6m (by lia) (by lia),hmid1]
    simp [rowT,tl,sEmpty]
   have hs:=w2i ht
   rw [show (((32 :: tl x0).length : Nat) : Int) = 1 + (x0.length : Int) by rw [List.length_cons,hlx];lia] at hs
   rw [hb,hs,str_mk]
   rfl
  ·-- the word stays behind the head
   have hgt : ¬ (W < headF ws f + (blankF f).length + x.length):=fun q => hap (by
    unfold apF
    rw [decide_eq_true_eq]
    lia)
   have hdf : 1 < ds.getD f 1:=by
    apply Decidable.byContradiction
    intro q
    have e : f + ds.getD f 1 = f + 1:=by lia
    have:=D.out f hf (by lia)
    rw [e] at this
    exact hap this
   have hst : q1n W (headF ws f) (blankF f) x = ([],[(blankF f,x)],headF ws f):=by unfold q1n;rw [if_neg hgt]
   have hacc : accLen [(blankF f,x)] (headF ws f) = roomOf ws f (f + 1):=by
    unfold accLen
    simp only [List.map_cons,List.map_nil,List.sum_cons,List.sum_nil,lenP]
    lia
   obtain ⟨pre,hpre,hpl⟩ : ∃ pre : List Nat,pre ++ tl (blankF f) = 32 :: (tl x0 ++ [32]) ∧ ((pre.length : Nat) : Int) = headF ws f:=by
    rw [hhead]
    unfold blankF
    split
    ·exact ⟨32 :: (tl x0 ++ [32]),by simp [tl],by
      simp only [List.length_cons,List.length_append,List.length_nil,hlx]
      show _ = 2 + (x0.length : Int) - ((0 : Nat) : Int)
      lia⟩
    ·exact ⟨32 :: tl x0,by simp [tl],by
      simp only [List.length_cons,hlx]
      show _ = 2 + (x0.length : Int) - ((1 : Nat) : Int)
      lia⟩
   have htx : pre ++ tl (accStr [(blankF f,x)]) = rowT [x0,x]:=by
    have : tl (accStr [(blankF f,x)]) = tl (blankF f) ++ tl x:=by
     show (accStr _).cps.toList = _
     rw [q0s]
     simp
    rw [this,← List.append_assoc,hpre]
    simp [rowT]
   obtain ⟨a1,a2,a3,r0,r0',rest,b1,b2,b3⟩:=q6j hwl hws D (5 - (f + 1 + 1)) (f + 1 + 1) f 5 pre ([],[(blankF f,x)],headF ws f) rfl (by lia) (by lia) hf (by with_reducible exact Nat.sub_le _ _) (by simp) hacc (show 0 ≤ headF ws f by lia) (by rw [hmid2];exact htx)
   unfold folded
   rw [hall _ hst,nl_end a1 a2 a3,b3,b1]
   have hb : q2q ws ds f = headF ws f:=by unfold q2q;rw [if_pos hdf]
   have hs:=w2i (join_cut (rest:=rest) b2)
   rw [hpl] at hs
   rw [hb,hs,str_mk]
   rfl
end
section
set_option tactic.hygienic true
open PySem PySem.W PySem.Calls PyProof.Rows
private theorem tw_in {α : Type} (p : α → Bool) : ∀ (l : List α) (j : Nat),j < (l.takeWhile p).length → ∃ a,l[j]? = some a ∧ p a = true
 | [],j,h => by simp at h
 | a :: l,j,h => by
  rw [List.takeWhile_cons] at h
  cases hp : p a with
  | false => rw [hp] at h;simp at h
  | true =>
   rw [hp] at h
   cases j with
   | zero => exact ⟨a,rfl,hp⟩
   | succ j =>
    obtain ⟨b,h1,h2⟩:=tw_in p l j (by simpa using h)
    exact ⟨b,by simpa using h1,h2⟩
private theorem tw_out {α : Type} (p : α → Bool) : ∀ (l : List α),(l.takeWhile p).length < l.length → ∃ a,l[(l.takeWhile p).length]? = some a ∧ p a = false
 | [],h => by simp at h
 | a :: l,h => by
  rw [List.takeWhile_cons] at h ⊢
  cases hp : p a with
  | false => exact ⟨a,by simp,hp⟩
  | true =>
   rw [hp] at h
   obtain ⟨b,h1,h2⟩:=tw_out p l (by simpa using h)
   exact ⟨b,by simpa using h1,h2⟩
private theorem tw_le {α : Type} (p : α → Bool) (l : List α) : (l.takeWhile p).length ≤ l.length:=(List.takeWhile_sublist p).length_le
noncomputable abbrev dotsOf (ap : Nat → Nat → Bool) : List Nat:=(List.range 5).map (dotL ap)
private theorem w3e (ap : Nat → Nat → Bool) {b : Nat} (h : b < 5) : (dotsOf ap).getD b 1 = dotL ap b:=by
 rw [List.getD_eq_getElem?_getD,List.getElem?_map,List.getElem?_range h];rfl
private theorem w6b (ap : Nat → Nat → Bool) {b : Nat} (h : b < 5) : 1 ≤ dotL ap b ∧ b + dotL ap b ≤ 5:=by
 have:=tw_le (fun b => !b) ((List.range (4 - b)).map fun j => ap b (b + 1 + j))
 rw [List.length_map,List.length_range] at this
 unfold dotL
 lia
private theorem dotsOk (ap : Nat → Nat → Bool) : DotsOk (dotsOf ap) ap where
 pos:=fun b h => by rw [w3e ap h];exact (w6b ap h).1
 le:=fun b h => by rw [w3e ap h];exact (w6b ap h).2
 inn:=fun b k hb hk h => by
  rw [w3e ap hb] at h
  unfold dotL at h
  obtain ⟨a,h1,h2⟩:=tw_in (fun b => !b) ((List.range (4 - b)).map fun j => ap b (b + 1 + j)) (k - b - 1) (by with_reducible exact ng9)
  rw [List.getElem?_map] at h1
  cases q : (List.range (4 - b))[k - b - 1]? with
  | none => rw [q] at h1;cases h1
  | some j =>
   rw [q] at h1
   obtain ⟨hj,hj2⟩:=List.getElem?_eq_some_iff.mp q
   rw [List.getElem_range] at hj2
   subst hj2
   have e : b + 1 + (k - b - 1) = k:=by with_reducible exact ng8
   have h1 : some (ap b (b + 1 + (k - b - 1))) = some a:=h1
   rw [e] at h1
   cases h1
   simpa using h2
 out:=fun b hb h => by
  rw [w3e ap hb] at h ⊢
  have hd : dotL ap b = 1 + (((List.range (4 - b)).map fun j => ap b (b + 1 + j)).takeWhile (fun b => !b)).length:=rfl
  obtain ⟨a,h1,h2⟩:=tw_out (fun b => !b) ((List.range (4 - b)).map fun j => ap b (b + 1 + j)) (by rw [List.length_map,List.length_range];lia)
  generalize hn : (((List.range (4 - b)).map fun j => ap b (b + 1 + j)).takeWhile (fun b => !b)).length = n at hd h1
  rw [List.getElem?_map] at h1
  cases q : (List.range (4 - b))[n]? with
  | none => rw [q] at h1;cases h1
  | some j =>
   rw [q] at h1
   obtain ⟨hj,hj2⟩:=List.getElem?_eq_some_iff.mp q
   rw [List.getElem_range] at hj2
   subst hj2
   have h1 : some (ap b (b + 1 + n)) = some a:=h1
   rw [hd,show b + (1 + n) = b + 1 + n by lia]
   cases h1
   simpa using h2
private theorem w7n (ds : List Nat) : ∀ m b,(begF ds m b).length ≤ m + 1
 | 0,b => Nat.le_refl _
 | m + 1,b => by
  rw [begF]
  split
  ·have:=w7n ds m (b + ds.getD b 1)
   rw [List.length_cons]
   lia
  ·simp
private theorem z2a {ds : List Nat} (h : ∀ b,b < 5 → b + ds.getD b 1 ≤ 5) : ∀ m b,b ≤ 5 → ∀ x ∈ begF ds m b,x ≤ 5
 | 0,b,hb,x,hx => by
  have : x = b:=by simpa [begF] using hx
  lia
 | m + 1,b,hb,x,hx => by
  rw [begF] at hx
  split at hx
  ·rename_i hlt
   rcases List.mem_cons.mp hx with q | q
   ·lia
   ·exact z2a h m _ (h b hlt) x q
  ·have : x = b:=by simpa using hx
   lia
private theorem begOk (ap : Nat → Nat → Bool) (f : Nat) (hf : f < 5) : (begF (dotsOf ap) 5 f).length ≤ 6 ∧ ∀ b ∈ begF (dotsOf ap) 5 f,b ≤ 5:=
 ⟨w7n _ 5 f,z2a (dotsOk ap).le 5 f (by with_reducible exact na0)⟩
private theorem w8u {ap ap' : Nat → Nat → Bool} (h : ∀ i k,i < k → k < 5 → ap i k = ap' i k) (i : Nat) : dotL ap i = dotL ap' i:=by
 unfold dotL
 rw [List.map_congr_left (f:=fun j => ap i (i + 1 + j)) (g:=fun j => ap' i (i + 1 + j)) fun j hj => h i (i + 1 + j) (by lia) (by have:=List.mem_range.mp hj;lia)]
private theorem w9v {ws : List PySem.Str} {i k : Nat} {x : PySem.Str} (hi : i ≤ k) (hx : ws[i]? = some x) : roomOf ws i k = 1 + x.length + roomOf ws (i + 1) k:=by
 have hl : i < (ws.take (k + 1)).length:=by
  rw [List.length_take]
  have:=(List.getElem?_eq_some_iff.mp hx).1
  lia
 have hx' : (ws.take (k + 1))[i]? = some x:=by rw [List.getElem?_take_of_lt (by lia)];exact hx
 have : (ws.take (k + 1)).drop i = x :: (ws.take (k + 1)).drop (i + 1):=by
  rw [List.drop_eq_getElem_cons hl]
  rw [List.getElem?_eq_getElem hl] at hx'
  cases hx';rfl
 unfold roomOf
 rw [this]
 simp
private theorem z2m {ws : List PySem.Str} {W : Int} {i k : Nat} (hw : ws.length = 5) (hi : i < k) (hk : k + 1 < 5) (h : apF ws W i k = true) : apF ws W i (k + 1) = true:=by
 obtain ⟨x,hx⟩ : ∃ x,ws[k + 1]? = some x:=⟨_,List.getElem?_eq_getElem (by lia)⟩
 have:=q9p (ws:=ws) (b:=i) (k:=k + 1) (by lia) hx (by lia)
 rw [Nat.add_sub_cancel] at this
 unfold apF at h ⊢
 rw [decide_eq_true_eq] at h ⊢
 lia
private theorem apF_up {ws : List PySem.Str} {W : Int} {i k : Nat} (hw : ws.length = 5) (hi : i + 1 < k) (hk : k < 5) (h : apF ws W (i + 1) k = true) : apF ws W i k = true:=by
 obtain ⟨x,hx⟩ : ∃ x,ws[i]? = some x:=⟨_,List.getElem?_eq_getElem (by lia)⟩
 have:=w9v (ws:=ws) (i:=i) (k:=k) (by lia) hx
 unfold apF at h ⊢
 rw [decide_eq_true_eq] at h ⊢
 lia
private theorem w9r {ws : List PySem.Str} {W : Int} (hw : ws.length = 5) : bitsOf (apF ws W) ∈ stairs:=by
 refine List.mem_filter.mpr ⟨w0z 10 _ rfl,?_⟩
 refine List.all_eq_true.mpr fun k hk => List.all_eq_true.mpr fun i hi => ?_
 have hk:=List.mem_range.mp hk
 have hi:=List.mem_range.mp hi
 rw [Bool.and_eq_true]
 refine ⟨?_,?_⟩
 ·by_cases h : i < k ∧ k + 1 < 5
  ·rw [q5j _ h.1 hk,q5j _ (by lia) h.2]
   cases q : apF ws W i k with
   | false => simp
   | true => rw [z2m hw h.1 h.2 q];simp
  ·have : (decide (i < k) && decide (k + 1 < 5)) = false:=by
    rw [Bool.and_eq_false_iff]
    simp only [decide_eq_false_iff_not]
    lia
   rw [this];simp
 ·by_cases h : i + 1 < k
  ·rw [q5j _ h hk,q5j _ (by lia) hk]
   cases q : apF ws W (i + 1) k with
   | false => simp
   | true => rw [apF_up hw h hk q];simp
  ·have : decide (i + 1 < k) = false:=by simpa using h
   rw [this];simp
end
section
set_option tactic.hygienic true
open PySem PySem.W PySem.Calls PyProof.Rows
variable {prog : Program} {w : World}
section
variable {C : Cfg} {mu mu' nu : List Addr} {s₀ s s' : Shared} {env : Env} {ρ : List (PySem.Str × PV)} {σ σ' : List (Addr × MO)} {A : Around} {E : Value → Shared → Prop}
structure CompSide (scope : Scope) (env : Env) (cl : List (PySem.Str × Addr)) (ρ ρc : List (PySem.Str × PV)) : Prop where
 clos : closureFor scope env = pure cl
 kind : scope.kind = .function
 names : scope.names.all (fun x => x.2 != .local || scope.names.lookup x.1 == some .local) = true
 cls : ∀ y ∈ cl,env.cells.lookup y.1 = some y.2 ∧ (env.kindOf y.1 != some .local) = true ∧ (cellsFrom 0 scope.names []).lookup y.1 = none
 rho : ∀ y ∈ ρc,ρ.lookup y.1 = some y.2 ∧ ((relabel scope env).names.lookup y.1 = some .cell ∨ (relabel scope env).names.lookup y.1 = some .free) ∧ okName y.1 = true ∧ ∃ c,cl.lookup y.1 = some c
noncomputable def q1g (env : Env) : List (PySem.Str × NameKind) → List (PySem.Str × Addr) → List (PySem.Str × Addr)
 | [],acc => acc
 | (n,k) :: r,acc => if k == .free then (match env.cells.lookup n with | some a => q1g env r ((n,a) :: acc) | none => q1g env r acc) else q1g env r acc
private theorem q2k : ∀ (names : List (PySem.Str × NameKind)) (acc : List (PySem.Str × Addr)) (y : PySem.Str × Addr),y ∈ q1g env names acc → y ∈ acc ∨ (env.cells.lookup y.1 = some y.2 ∧ (y.1,NameKind.free) ∈ names)
 | [],_,_,h => .inl h
 | (n,k) :: r,acc,y,h => by
  unfold q1g at h
  split at h
  ·rename_i hk
   rw [eq_of_beq hk]
   split at h
   ·rename_i a ha
    rcases q2k r _ y h with h | ⟨h1,h2⟩
    ·rcases List.mem_cons.mp h with h | h
     ·subst h;exact .inr ⟨ha,.head _⟩
     ·exact .inl h
    ·exact .inr ⟨h1,.tail _ h2⟩
   ·rcases q2k r _ y h with h | ⟨h1,h2⟩
    ·exact .inl h
    ·exact .inr ⟨h1,.tail _ h2⟩
  ·rcases q2k r _ y h with h | ⟨h1,h2⟩
   ·exact .inl h
   ·exact .inr ⟨h1,.tail _ h2⟩
private theorem q3d : ∀ (names : List (PySem.Str × NameKind)) (acc : List (PySem.Str × Addr)) (y : PySem.Str × Addr),y ∈ acc → y ∈ q1g env names acc
 | [],_,_,h => h
 | (n,k) :: r,acc,y,h => by
  unfold q1g
  split
  ·split
   ·exact q3d r _ y (.tail _ h)
   ·exact q3d r _ y h
  ·exact q3d r _ y h
private theorem q3c : ∀ (names : List (PySem.Str × NameKind)) (acc : List (PySem.Str × Addr)) (n : PySem.Str),(n,NameKind.free) ∈ names → (env.cells.lookup n).isSome = true → ∃ a,(n,a) ∈ q1g env names acc
 | [],_,_,h,_ => nomatch h
 | (m,k) :: r,acc,n,h,hs => by
  unfold q1g
  rcases List.mem_cons.mp h with h | h
  ·cases h
   rw [if_pos (by decide)]
   split
   ·rename_i a ha
    exact ⟨a,q3d r _ _ (.head _)⟩
   ·rename_i ha
    rw [ha] at hs;cases hs
  ·split
   ·split
    ·exact q3c r _ n h hs
    ·exact q3c r _ n h hs
   ·exact q3c r _ n h hs
private theorem w0x {scope : Scope} (h : ∀ n,(n,NameKind.free) ∈ scope.names → (env.cells.lookup n).isSome = true) : closureFor scope env = pure (q1g env scope.names []):=by
 have key : ∀ (names : List (PySem.Str × NameKind)) (acc : List (PySem.Str × Addr)),(∀ n,(n,NameKind.free) ∈ names → (env.cells.lookup n).isSome = true) →
   (forIn names acc (fun (x : PySem.Str × NameKind) (cs : List (PySem.Str × Addr)) => if (x.2 == .free) = true then (do let a ← cellOf env x.1;pure (ForInStep.yield ((x.1,a) :: cs))) else pure (ForInStep.yield cs)) : Sem (List (PySem.Str × Addr))) = pure (q1g env names acc):=by
  intro names
  induction names with
  | nil => intro acc _;rfl
  | cons x r ih =>
   intro acc h
   obtain ⟨n,k⟩:=x
   rw [List.forIn_cons]
   unfold q1g
   by_cases hk : (k == NameKind.free) = true
   ·rw [if_pos hk,if_pos hk]
    have hs:=h n (by rw [eq_of_beq hk];exact .head _)
    cases ha : env.cells.lookup n with
    | none => rw [ha] at hs;cases hs
    | some a =>
     have : cellOf env n = pure a:=by unfold cellOf;rw [ha]
     rw [this]
     simp only [pure_bind]
     exact ih _ fun m hm => h m (.tail _ hm)
   ·rw [if_neg hk,if_neg hk]
    simp only [pure_bind]
    exact ih _ fun m hm => h m (.tail _ hm)
 unfold closureFor
 have:=key scope.names [] h
 simp only [bind_pure]
 refine Eq.trans ?_ this
 congr 1
noncomputable def w6d (scope : Scope) (env : Env) : Bool:=
 scope.names.all fun x => (x.2 != .local || scope.names.lookup x.1 == some .local) && (x.2 != .free || ((env.cells.lookup x.1).isSome && env.kindOf x.1 != some .local && ((cellsFrom 0 scope.names []).lookup x.1).isNone))
noncomputable def capChk (scope : Scope) (env : Env) (n : PySem.Str) : Bool:=(scope.names.contains (n,NameKind.free)) && ((relabel scope env).names.lookup n == some .cell || (relabel scope env).names.lookup n == some .free) && okName n
noncomputable abbrev clOf (scope : Scope) (env : Env) : List (PySem.Str × Addr):=q1g env scope.names []
private theorem CompSide.of {scope : Scope} {ρc : List (PySem.Str × PV)} (hk : scope.kind = .function) (h1 : w6d scope env = true) (h2 : (ρc.map (·.1)).all (capChk scope env) = true) (h3 : ∀ y ∈ ρc,ρ.lookup y.1 = some y.2) : CompSide scope env (clOf scope env) ρ ρc:=by
 have g1 : ∀ x ∈ scope.names,(x.2 = .local → scope.names.lookup x.1 = some .local) ∧ (x.2 = .free → (env.cells.lookup x.1).isSome = true ∧ (env.kindOf x.1 != some .local) = true ∧ (cellsFrom 0 scope.names []).lookup x.1 = none):=fun x hx => by
  have:=List.all_eq_true.mp h1 x hx
  rw [Bool.and_eq_true] at this
  refine ⟨fun q => ?_,fun q => ?_⟩
  ·have h:=this.1
   rw [q] at h
   simpa using h
  ·have h:=this.2
   rw [q] at h
   simp only [bne_self_eq_false,Bool.false_or,Bool.and_eq_true] at h
   exact ⟨h.1.1,h.1.2,by simpa using h.2⟩
 have g0 : ∀ n,(n,NameKind.free) ∈ scope.names → (env.cells.lookup n).isSome = true:=fun n hn => ((g1 _ hn).2 rfl).1
 refine ⟨w0x g0,hk,List.all_eq_true.mpr fun x hx => ?_,fun y hy => ?_,fun y hy => ?_⟩
 ·by_cases q : x.2 = .local
  ·simp [q,(g1 x hx).1 q]
  ·simp [q]
 ·rcases q2k _ _ y hy with h | ⟨h4,h5⟩
  ·cases h
  ·exact ⟨h4,((g1 _ h5).2 rfl).2⟩
 ·have:=List.all_eq_true.mp h2 y.1 (List.mem_map_of_mem hy)
  unfold capChk at this
  simp only [Bool.and_eq_true,Bool.or_eq_true,beq_iff_eq] at this
  obtain ⟨⟨h4,h5⟩,h6⟩:=this
  have h4' : (y.1,NameKind.free) ∈ scope.names:=by simpa using h4
  obtain ⟨a,ha⟩:=q3c (env:=env) scope.names [] y.1 h4' (g0 _ h4')
  exact ⟨h3 y hy,h5,h6,q3q ha⟩
section
variable {scope : Scope} {cl : List (PySem.Str × Addr)} {ρc : List (PySem.Str × PV)}
private theorem CompSide.n (h : CompSide scope env cl ρ ρc) : ∀ x ∈ scope.names,x.2 = .local → scope.names.lookup x.1 = some .local:=fun x hx hl => by
 have:=List.all_eq_true.mp h.names x hx
 rw [hl] at this
 simpa using this
private theorem CompSide.mem (h : CompSide scope env cl ρ ρc) : ∀ x ∈ cl,x ∈ env.cells:=fun x hx => q0n (h.cls x hx).1
private theorem CompSide.c (h : CompSide scope env cl ρ ρc) : ∀ x c,cl.lookup x = some c → env.cells.lookup x = some c ∧ env.kindOf x ≠ some .local:=fun x c e => by
 obtain ⟨h1,h2,_⟩:=h.cls _ (q0n e)
 exact ⟨h1,by simpa using h2⟩
private theorem CompSide.i (h : CompSide scope env cl ρ ρc) : ∀ x c,cl.lookup x = some c → (cellsFrom 0 scope.names []).lookup x = none:=fun x c e => (h.cls _ (q0n e)).2.2
private theorem CompSide.r (h : CompSide scope env cl ρ ρc) : ∀ x p,ρc.lookup x = some p → ρ.lookup x = some p ∧ ((relabel scope env).names.lookup x = some .cell ∨ (relabel scope env).names.lookup x = some .free) ∧ okName x = true ∧ ∃ c,cl.lookup x = some c:=fun x p e => h.rho _ (q0n e)
private theorem w8g {elt target iter : Expr} {ifs : List Expr} {pos : Pos} {l : List PV} {g : Nat → Option PV} (hS : CompSide scope env cl ρ ρc)
  (hal : ∀ x ∈ env.cells,x.2 ∈ mu ∨ ∃ o,C.H.get? x.2 = some o) (hA : A.handled = none) (hi : IterE prog w C mu A env ρ σ iter l)
  (hturn : q1j prog w C mu A env ρc σ target elt ifs scope cl l g) (hsz : l.length ≤ 2 ^ 20) (ht : autoParam (∀ it v,letOwnedTupleGo target it v = pure ()) tR) (hs : autoParam (∀ x,foldedSetIterable iter env x = pure x) tR) :
  PurNE prog w C mu A env ρ σ (.ListComp elt [⟨target,iter,ifs,0⟩] scope pos) ((List.range l.length).filterMap g):=
 z0d hal hA hi hS.clos hS.kind hS.n hS.mem hS.c hS.i hS.r hturn hsz ht hs
private theorem w1c {y : PySem.Str} {py spos : Pos} {elt target iter : Expr} {ifs : List Expr} {pos : Pos} {l : List PV} {g : Nat → Option PV} {Q : Flow → Shared → Prop} (hS : CompSide scope env cl ρ ρc)
  (I : In C mu nu env ρ σ s₀ s) (hy : StOk env nu y) (hA : A.handled = none) (hi : IterE prog w C mu A env ρ σ iter l)
  (hturn : q1j prog w C mu A env ρc σ target elt ifs scope cl l g) (hsz : l.length ≤ 2 ^ 20)
  (k : ∀ s',In C mu nu env ((y,.lst ((List.range l.length).filterMap g)) :: ρ) σ s₀ s' → Q .next s') (hsw : autoParam (swapsWith (.ListComp elt [⟨target,iter,ifs,0⟩] scope pos) (some (.Name y py)) spos.line env = pure true) tR)
  (ht : autoParam (∀ it v,letOwnedTupleGo target it v = pure ()) tR) (hs : autoParam (∀ x,foldedSetIterable iter env x = pure x) tR) :
  wpAny (model prog w) A (exec (.Assign [.Name y py] (.ListComp elt [⟨target,iter,ifs,0⟩] scope pos) spos) env) Q E s:=
 w2g I hy hA hi hsw hS.clos hS.kind hS.n hS.mem hS.c hS.i hS.r hturn hsz ht hs k
private theorem q1k {elt target iter : Expr} {ifs : List Expr} {pos : Pos} {l : List PV} {g : Nat → Option PV} (ρc : List (PySem.Str × PV)) (h3 : ∀ y ∈ ρc,ρ.lookup y.1 = some y.2)
  (hal : ∀ x ∈ env.cells,x.2 ∈ mu ∨ ∃ o,C.H.get? x.2 = some o) (hA : A.handled = none) (hi : IterE prog w C mu A env ρ σ iter l)
  (hturn : q1j prog w C mu A env ρc σ target elt ifs scope (clOf scope env) l g) (hsz : l.length ≤ 2 ^ 20) (hk : autoParam (scope.kind = .function) tR) (h1 : autoParam (w6d scope env = true) tR) (h2 : autoParam ((ρc.map (·.1)).all (capChk scope env) = true) tR)
  (ht : autoParam (∀ it v,letOwnedTupleGo target it v = pure ()) tR) (hs : autoParam (∀ x,foldedSetIterable iter env x = pure x) tR) :
  PurNE prog w C mu A env ρ σ (.ListComp elt [⟨target,iter,ifs,0⟩] scope pos) ((List.range l.length).filterMap g):=
 w8g (CompSide.of hk h1 h2 h3) hal hA hi hturn hsz ht hs
private theorem w1e {y : PySem.Str} {py spos : Pos} {elt target iter : Expr} {ifs : List Expr} {pos : Pos} {l : List PV} {g : Nat → Option PV} {Q : Flow → Shared → Prop} (ρc : List (PySem.Str × PV)) (h3 : ∀ y ∈ ρc,ρ.lookup y.1 = some y.2)
  (I : In C mu nu env ρ σ s₀ s) (hy : StOk env nu y) (hA : A.handled = none) (hi : IterE prog w C mu A env ρ σ iter l)
  (hturn : q1j prog w C mu A env ρc σ target elt ifs scope (clOf scope env) l g) (hsz : l.length ≤ 2 ^ 20)
  (k : ∀ s',In C mu nu env ((y,.lst ((List.range l.length).filterMap g)) :: ρ) σ s₀ s' → Q .next s') (hk : autoParam (scope.kind = .function) tR) (h1 : autoParam (w6d scope env = true) tR) (h2 : autoParam ((ρc.map (·.1)).all (capChk scope env) = true) tR) (hsw : autoParam (swapsWith (.ListComp elt [⟨target,iter,ifs,0⟩] scope pos) (some (.Name y py)) spos.line env = pure true) tR)
  (ht : autoParam (∀ it v,letOwnedTupleGo target it v = pure ()) tR) (hs : autoParam (∀ x,foldedSetIterable iter env x = pure x) tR) :
  wpAny (model prog w) A (exec (.Assign [.Name y py] (.ListComp elt [⟨target,iter,ifs,0⟩] scope pos) spos) env) Q E s:=
 w1c (CompSide.of hk h1 h2 h3) I hy hA hi hturn hsz k hsw ht hs
private theorem q7z {L D : Addr} (hal : ∀ x ∈ env.cells,x.2 ∈ mu ∨ ∃ o,C.H.get? x.2 = some o) : ∀ x ∈ (cEnv scope (clOf scope env) L env).cells,x.2 ∈ cOwn scope L ++ D :: mu ∨ ∃ o,C.H.get? x.2 = some o:=fun x hx => by
 have hx' : x ∈ cellsFrom (L + 1) scope.names (clOf scope env):=hx
 rw [q0y] at hx'
 rcases List.mem_append.mp hx' with q | q
 ·exact .inl (List.mem_append_left _ (.tail _ (List.mem_map_of_mem (f:=(·.2)) q)))
 ·rcases q2k _ _ x q with h | ⟨h,_⟩
  ·cases h
  ·exact (hal x (q0n h)).imp (fun q => List.mem_append_right _ (.tail _ q)) id
private theorem q5l {x : PySem.Str} {px : Pos} {elt : Expr} {ifs : List Expr} {l : List PV} {g : Nat → Option PV} (hx : ∀ L D,StOk (cEnv scope cl L env) (cOwn scope L ++ [D]) x) (hn : ρc.lookup x = none)
  (h : ∀ L D ys i p,l[i]? = some p → match g i with
   | none => TestsE prog w C (cOwn scope L ++ D :: mu) A (cEnv scope cl L env) ((x,p) :: ρc) ((D,Mlst ys) :: σ) ifs false
   | some z => TestsE prog w C (cOwn scope L ++ D :: mu) A (cEnv scope cl L env) ((x,p) :: ρc) ((D,Mlst ys) :: σ) ifs true ∧ PurE prog w C (cOwn scope L ++ D :: mu) A (cEnv scope cl L env) ((x,p) :: ρc) ((D,Mlst ys) :: σ) elt z) :
  q1j prog w C mu A env ρc σ (.Name x px) elt ifs scope cl l g:=fun L D ys i p hp =>
 ⟨(x,p) :: ρc,fun s v I y => q2a I (hx L D) y fun s' I' => I',fun y q e => by
  rw [List.lookup_cons]
  cases hb : y == x with
  | true => rw [eq_of_beq hb,hn] at e;cases e
  | false => exact e,h L D ys i p hp⟩
private theorem q3k {x : PySem.Str} {px : Pos} {elt : Expr} {l : List PV} {z : Nat → PV} (hx : ∀ L D,StOk (cEnv scope cl L env) (cOwn scope L ++ [D]) x) (hn : ρc.lookup x = none)
  (h : ∀ L D ys i p,l[i]? = some p → PurE prog w C (cOwn scope L ++ D :: mu) A (cEnv scope cl L env) ((x,p) :: ρc) ((D,Mlst ys) :: σ) elt (z i)) :
  q1j prog w C mu A env ρc σ (.Name x px) elt [] scope cl l (fun i => some (z i)):=
 q5l hx hn fun L D ys i p hp => ⟨w3l,h L D ys i p hp⟩
private theorem q7l {x : PySem.Str} {px : Pos} {elt : Expr} {l : List PV} {z : PV → PV} (hx : ∀ L D,StOk (cEnv scope cl L env) (cOwn scope L ++ [D]) x) (hn : ρc.lookup x = none)
  (h : ∀ L D ys (i : Nat) p,l[i]? = some p → PurE prog w C (cOwn scope L ++ D :: mu) A (cEnv scope cl L env) ((x,p) :: ρc) ((D,Mlst ys) :: σ) elt (z p)) :
  q1j prog w C mu A env ρc σ (.Name x px) elt [] scope cl l (fun i => l[i]?.map z):=
 q5l hx hn fun L D ys i p hp => by
  rw [hp]
  exact ⟨w3l,h L D ys i p hp⟩
private theorem q6q {α β : Type} (f : α → Option β) (l : List α) : (List.range l.length).filterMap (fun i => l[i]?.bind f) = l.filterMap f:=by
 induction l with
 | nil => rfl
 | cons a l ih =>
  rw [List.length_cons,List.range_succ_eq_map,List.filterMap_cons,List.filterMap_map,List.filterMap_cons]
  have e : (List.range l.length).filterMap ((fun i => (a :: l)[i]?.bind f) ∘ Nat.succ) = l.filterMap f:=by
   rw [← ih];rfl
  rw [e]
  rfl
private theorem q7n {α β : Type} (z : α → β) (l : List α) : (List.range l.length).filterMap (fun i => l[i]?.map z) = l.map z:=by
 have:=q6q (fun a => some (z a)) l
 rw [show l.filterMap (fun a => some (z a)) = l.map z by induction l <;> simp_all] at this
 rw [← this]
 congr 1
 funext i
 cases l[i]? <;> rfl
private theorem q3n {z : Nat → PV} (n : Nat) : (List.range n).filterMap (fun i => some (z i)) = (List.range n).map z:=by
 induction n with
 | zero => rfl
 | succ n ih => rw [List.range_succ,List.filterMap_append,List.map_append,ih];rfl
private theorem q1e {n i : Nat} {p : PV} (h : (rangeL 0 1 n)[i]? = some p) : i < n ∧ p = .int (i : Int):=by
 have hi : i < n:=by simpa [rangeL] using (List.getElem?_eq_some_iff.mp h).1
 simp [rangeL,hi] at h
 exact ⟨hi,h.symm⟩
private theorem q1d (n : Nat) : (rangeL 0 1 n).length = n:=by simp [rangeL]
end
end
end
section
open PySem PySem.W PySem.Calls PyProof.Rows
variable {prog : Program} {w : World}
section
variable {C : Cfg} {mu mu' nu : List Addr} {s₀ s s' : Shared} {env : Env} {ρ ρc : List (PySem.Str × PV)} {σ σ' : List (Addr × MO)} {A : Around} {E : Value → Shared → Prop} {scope : Scope} {cl : List (PySem.Str × Addr)}
private theorem w1d {y : PySem.Str} {py spos : Pos} {elt target iter : Expr} {ifs : List Expr} {pos : Pos} {l : List PV} {g : Nat → Option PV} {Q : Flow → Shared → Prop} (hS : CompSide scope env cl ρ ρc)
  (I : In C mu nu env ρ σ s₀ s) (hLn : env.locals ∈ nu) (hA : A.handled = none) (hi : IterE prog w C mu A env ρ σ iter l) (hsw : swapsWith (.ListComp elt [⟨target,iter,ifs,0⟩] scope pos) (some (.Name y py)) spos.line env = pure true)
  (hturn : q1j prog w C mu A env ρc σ target elt ifs scope cl l g) (hsz : l.length ≤ 2 ^ 20) (ht : ∀ it v,letOwnedTupleGo target it v = pure ()) (hs : ∀ x,foldedSetIterable iter env x = pure x)
  (k : ∀ a s',s₀.heap.get? a = none → a ∉ mu → In C (a :: mu) (a :: nu) env ((y,.val (.ref a)) :: ρ) ((a,Mlst ((List.range l.length).filterMap g)) :: σ) s₀ s' → Q .next s') (hx : env.kindOf y = some .local) (hn : okName y = true) : wpAny (model prog w) A (exec (.Assign [.Name y py] (.ListComp elt [⟨target,iter,ifs,0⟩] scope pos) spos) env) Q E s:=by
 rw [exec_Assign_Name_used _ _ _ _ hsw]
 refine wpAny_bind (wpAny_standAt (wpAny_bind ?_))
 show wpAny _ A (do let _ ← comprehension (.ListComp elt [⟨target,iter,ifs,0⟩] scope pos) scope env _ (newList []) false (eval iter env) (some (assign (.Name y py) env))) _ _ s
 refine wpAny_bind (wpAny_mono (w0v (use:=some (assign (.Name y py) env)) (Q:=fun _ s' => Q .next s') I.ok I.act I.cells hA hi hS.clos hS.kind hS.n hS.mem hS.c hS.i hS.r hturn hsz ht (fun D L s₁ O₁ k₁ hD hm hL hLD hLmu hns => ?_) hs) (fun _ s' hq => wpAny_pure (wpAny_pure hq)) fun _ _ e => e)
 show wpAny _ A (assign (.Name y py) env (.ref D)) _ _ _
 have hf:=I.ok.fresh' hL
 have hfD:=I.ok.fresh' hD
 obtain ⟨o,ho,hr⟩:=Mlst.notRec hm
 have I₁:=I.grow O₁ k₁ hD hm ho hr
 have hLm : L ∉ D :: mu:=fun q => by
  rcases List.mem_cons.mp q with q | q
  ·exact hLD q
  ·exact hLmu q
 refine wpAny_assign_Name (q8t (p:=.val (.ref D)) I₁ (.tail _ hLn) rfl (fun s₂ I₂ k₂ => ?_) hx hn)
 obtain ⟨m,o',es,ep,hLo,r⟩:=hns
 have hns₂ : s₂.heap.Ns L m:=⟨o',es,ep,k₂.keep _ _ (fun q => hLm (I₁.sub L (by simp at q;rw [q];exact .tail _ hLn))) hf.1 hLo,r⟩
 exact ⟨m,hns₂,fun h' hsb => k D _ (I.unborn hD) hfD.2 (I₂.butD (tk:=s₂.toks) (fun b o hb e => hsb.extBut b o hb e) (Ns.noSeq hns₂) hLm hf.1 (I.ok.unborn hL) (I.unborn hL))⟩
end
noncomputable abbrev Heap1:=List Nat
noncomputable abbrev Part:=List (List Nat)
noncomputable def q4q (ap : Nat → Nat → Bool) (k : Nat) (h : List Nat) : Bool:=(h.filter fun i => !ap i k).length == 0
noncomputable def putIn (p : Part) (m k : Nat) : Part:=p.take m ++ [p.getD m [] ++ [k]] ++ p.drop (m + 1)
noncomputable def joins (ap : Nat → Nat → Bool) (k : Nat) (p : Part) : List Part:=(List.range p.length).filterMap fun m => if q4q ap k (p.getD m []) then some (putIn p m k) else none
noncomputable def nextH (ap : Nat → Nat → Bool) (k : Nat) (H : List Part) : List Part:=H.map (fun p => p ++ [[k]]) ++ H.flatMap (joins ap k)
noncomputable def heapsS (ap : Nat → Nat → Bool) : Nat → List Part
 | 0 => [[]]
 | k + 1 => nextH ap k (heapsS ap k)
noncomputable abbrev pHp (h : List Nat) : PV:=.lst (h.map fun (x : Nat) => .int (x : Int))
noncomputable abbrev pPt (p : Part) : PV:=.lst (p.map pHp)
noncomputable abbrev pHs (H : List Part) : PV:=.lst (H.map pPt)
noncomputable def PartOk (k : Nat) (p : Part) : Prop:=p.length ≤ k ∧ ∀ h ∈ p,h.length ≤ k ∧ ∀ i ∈ h,i < k
private theorem putIn_ok {k m : Nat} {p : Part} (h : PartOk k p) (hm : m < p.length) : PartOk (k + 1) (putIn p m k):=by
 obtain ⟨h1,h2⟩:=h
 refine ⟨?_,fun x hx => ?_⟩
 ·unfold putIn
  simp only [List.length_append,List.length_take,List.length_drop,List.length_cons,List.length_nil]
  lia
 ·have old : ∀ x ∈ p,x.length ≤ k + 1 ∧ ∀ i ∈ x,i < k + 1:=fun x hx => ⟨by have:=(h2 x hx).1;lia,fun i hi => by have:=(h2 x hx).2 i hi;lia⟩
  unfold putIn at hx
  rcases List.mem_append.mp hx with hx | hx
  ·rcases List.mem_append.mp hx with hx | hx
   ·exact old x (List.mem_of_mem_take hx)
   ·rw [List.mem_singleton] at hx
    subst hx
    have hmem : p.getD m [] ∈ p:=by
     rw [List.getD_eq_getElem?_getD,List.getElem?_eq_getElem hm]
     exact List.getElem_mem _
    obtain ⟨q1,q2⟩:=h2 _ hmem
    refine ⟨by simp;exact q1,fun i hi => ?_⟩
    rcases List.mem_append.mp hi with hi | hi
    ·have:=q2 i hi;lia
    ·simp at hi;lia
  ·exact old x (List.mem_of_mem_drop hx)
private theorem q5g (ap : Nat → Nat → Bool) : ∀ k,∀ p ∈ heapsS ap k,PartOk k p
 | 0,p,hp => by
  have : p = []:=by simpa [heapsS] using hp
  rw [this]
  exact ⟨Nat.le_refl _,fun _ h => nomatch h⟩
 | k + 1,p,hp => by
  have ih:=q5g ap k
  rcases List.mem_append.mp hp with hp | hp
  ·obtain ⟨q,hq,rfl⟩:=List.mem_map.mp hp
   obtain ⟨h1,h2⟩:=ih q hq
   refine ⟨by simp;exact h1,fun x hx => ?_⟩
   rcases List.mem_append.mp hx with hx | hx
   ·exact ⟨by have:=(h2 x hx).1;lia,fun i hi => by have:=(h2 x hx).2 i hi;lia⟩
   ·rw [List.mem_singleton] at hx
    subst hx
    exact ⟨by simp,fun i hi => by simp at hi;lia⟩
  ·obtain ⟨q,hq,hp⟩:=List.mem_flatMap.mp hp
   unfold joins at hp
   rw [List.mem_filterMap] at hp
   obtain ⟨m,hm,hp⟩:=hp
   split at hp
   ·cases hp;exact putIn_ok (ih q hq) (List.mem_range.mp hm)
   ·cases hp
private theorem w4i (ap : Nat → Nat → Bool) (k : Nat) (p : Part) : (joins ap k p).length ≤ p.length:=Nat.le_trans (List.length_filterMap_le _ _) (by rw [List.length_range];exact Nat.le_refl _)
private theorem q7v (ap : Nat → Nat → Bool) : ∀ k,(heapsS ap k).length ≤ (k + 1) ^ k
 | 0 => Nat.le_refl 1
 | k + 1 => by
  have ih:=q7v ap k
  have hok:=q5g ap k
  have h : ∀ H : List Part,(∀ p ∈ H,PartOk k p) → (H.flatMap (joins ap k)).length ≤ k * H.length:=fun H => by
   induction H with
   | nil => intro _;exact Nat.le_refl _
   | cons p H ihH =>
    intro hH
    rw [List.flatMap_cons,List.length_append,List.length_cons,Nat.mul_succ]
    have h1:=w4i ap k p
    have h2:=(hH p (.head _)).1
    have h3:=ihH fun q hq => hH q (.tail _ hq)
    lia
  have h1:=h _ hok
  show (nextH ap k (heapsS ap k)).length ≤ _
  unfold nextH
  rw [List.length_append,List.length_map]
  have h2 : (k + 1) * (heapsS ap k).length ≤ (k + 1) * (k + 1) ^ k:=Nat.mul_le_mul_left _ ih
  have h3 : (k + 1) ^ (k + 1) ≤ (k + 1 + 1) ^ (k + 1):=Nat.pow_le_pow_left (by lia) _
  have h4 : (k + 1) ^ (k + 1) = (k + 1) * (k + 1) ^ k:=by rw [Nat.pow_succ,Nat.mul_comm]
  have h5 : (k + 1) * (heapsS ap k).length = k * (heapsS ap k).length + (heapsS ap k).length:=Nat.succ_mul _ _
  lia
end
section
open PySem PySem.W PySem.Calls PyProof.Rows
noncomputable def pev : List Int → Int → Int
 | [],_ => 0
 | a :: l,x => a + x * pev l x
noncomputable def padd : List Int → List Int → List Int
 | [],m => m
 | l,[] => l
 | a :: l,b :: m => (a + b) :: padd l m
noncomputable def psm (c : Int) (l : List Int) : List Int:=l.map (c * ·)
noncomputable def pml (c : Int) (l : List Int) : List Int:=padd (psm c l) (0 :: l)
private theorem w5l : ∀ (l m : List Int) (x : Int),pev (padd l m) x = pev l x + pev m x
 | [],m,x => by simp [padd,pev]
 | a :: l,[],x => by simp [padd,pev]
 | a :: l,b :: m,x => by
  show a + b + x * pev (padd l m) x = a + x * pev l x + (b + x * pev m x)
  rw [w5l l m x,Int.mul_add]
  lia
private theorem pev_sm (c : Int) : ∀ (l : List Int) (x : Int),pev (psm c l) x = c * pev l x
 | [],x => by simp [psm,pev]
 | a :: l,x => by
  show c * a + x * pev (psm c l) x = c * (a + x * pev l x)
  rw [pev_sm c l x,Int.mul_add,Int.mul_left_comm]
private theorem pev_ml (c : Int) (l : List Int) (x : Int) : pev (pml c l) x = (x + c) * pev l x:=by
 unfold pml
 rw [w5l,pev_sm]
 show c * pev l x + (0 + x * pev l x) = _
 rw [Int.add_mul]
 lia
noncomputable def polyD (ds : List Nat) : List Int:=ds.foldl (fun (l : List Int) (d : Nat) => pml (1 - (d : Int)) l) [1]
noncomputable def nest (N : Nat → Nat) : List Int:=padd [(N 0 : Int)] (pml 0 (padd [(N 1 : Int)] (pml (-1) (padd [(N 2 : Int)] (pml (-2) (padd [(N 3 : Int)] (pml (-3) (padd [(N 4 : Int)] (pml (-4) [1])))))))))
private theorem w6u {B : Nat} : ∀ (ds : List Nat) (l : List Int) (v : Nat),(∀ d ∈ ds,d ≤ B) → pev l B = v → pev (ds.foldl (fun (l : List Int) (d : Nat) => pml (1 - (d : Int)) l) l) B = ((ds.foldl (fun v d => v * (B + 1 - d)) v : Nat) : Int)
 | [],l,v,_,h => h
 | d :: ds,l,v,hd,h => by
  rw [List.foldl_cons,List.foldl_cons]
  refine w6u ds _ _ (fun x hx => hd x (.tail _ hx)) ?_
  have h1:=hd d (.head _)
  rw [pev_ml,h]
  have e : ((B : Int) + (1 - (d : Int))) = ((B + 1 - d : Nat) : Int):=by lia
  rw [e,Int.natCast_mul,Int.mul_comm]
noncomputable def nestN (N : Nat → Nat) (B : Nat) : Nat → Nat
 | 0 => 1
 | n + 1 => N (4 - n) + (B - (4 - n)) * nestN N B n
private theorem pev_nest {N : Nat → Nat} {B : Nat} (hB : 4 ≤ B) : pev (nest N) B = ((nestN N B 5 : Nat) : Int):=by
 have one : ∀ a : Int,pev [a] B = a:=fun a => by show a + (B : Int) * 0 = a;lia
 have e : ∀ k : Nat,k ≤ 4 → ((B : Int) + -(k : Int)) = ((B - k : Nat) : Int):=fun k h => by lia
 have st : ∀ (l : List Int) (k m : Nat),k ≤ 4 → pev l B = (m : Int) → pev (padd [(N k : Int)] (pml (-(k : Int)) l)) B = ((N k + (B - k) * m : Nat) : Int):=fun l k m hk h => by
  rw [w5l,one,pev_ml,h,e k hk]
  push_cast
  rfl
 have h4:=st [1] 4 1 (by decide) (one 1)
 have h3:=st _ 3 _ (by decide) h4
 have h2:=st _ 2 _ (by decide) h3
 have h1:=st _ 1 _ (by decide) h2
 exact st _ 0 _ (by decide) h1
noncomputable def cntH (ap : Nat → Nat → Bool) (k : Nat) : Nat:=((heapsS ap 5).filter fun p => p.length == k).length
noncomputable def q7x (ap : Nat → Nat → Bool) : List Nat:=(List.range 5).map (dotL ap)
noncomputable def birk (ap : Nat → Nat → Bool) : Bool:=(polyD (q7x ap) == nest (cntH ap)) && (List.range 5).all (fun k => decide (cntH ap k < 28))
set_option maxHeartbeats 4000000 in
private theorem birk_ok : stairs.all (fun bs => birk (apOf bs)) = true:=by decide +kernel
end
section
set_option tactic.hygienic true
open PySem PySem.W PySem.Calls PyProof.Rows
variable {prog : Program} {w : World} {P : Params} {C : Cfg}
private theorem div0 (hC : CfgOk P C) {a b n : Int} (hb : b ≠ 0) (hp : Builtin.divisionGoesByPylong a b = false) (hn : (Builtin.Int.intBits a : Int) - n ≤ 4000) : FnOk prog w C a_div2 1 [.int a,.int b,.int n] (.tup [.int (a.fdiv b),.int (a.fmod b)]):=by
 refine FnOk.of (names:=[⟨#[97]⟩,⟨#[98]⟩,⟨#[110]⟩]) (q8y hC) (fun vs h => ?_) rfl rfl rfl rfl fun A mu L s s₁ r hL I => ?_
 ·obtain ⟨_,_,_,rfl⟩:=len3 h;rfl
 ·obtain ⟨tl,hl⟩:=z1f hC
  refine q0a (st_If (b:=decide ((Builtin.Int.intBits a : Int) - n ≤ 4000)) I (by repeat' walk_at "pe") fun s₂ I₂ => ?_)
  rw [decide_eq_true hn]
  refine q0a (q0q I₂ (p:=.tup [.int (a.fdiv b),.int (a.fmod b)]) ?_ fun v s' I' y => ⟨v,_,rfl,I',y⟩)
  repeat' walk_at "pe"
  all_goals assumption
noncomputable def dval (n : Nat) : List Int → Int
 | [] => 0
 | d :: l => d + dval n l * 2 ^ n
private theorem w0q (n : Nat) : ∀ (a b : List Int),dval n (a ++ b) = dval n a + dval n b * 2 ^ (n * a.length)
 | [],b => by simp [dval]
 | d :: a,b => by
  have e : (2 : Int) ^ (n * (a.length + 1)) = 2 ^ (n * a.length) * 2 ^ n:=by rw [Nat.mul_add,Nat.mul_one,Int.pow_add]
  simp only [List.cons_append,dval,w0q n a b,List.length_cons,e]
  rw [Int.add_mul,Int.mul_assoc,Int.add_assoc]
private theorem w1r (n : Nat) : ∀ (l : List Int),(∀ d ∈ l,0 ≤ d ∧ d < 2 ^ n) → 0 ≤ dval n l ∧ dval n l < 2 ^ (n * l.length)
 | [],_ => by simp [dval]
 | d :: l,h => by
  obtain ⟨h1,h2⟩:=h d (.head _)
  obtain ⟨h3,h4⟩:=w1r n l fun x hx => h x (.tail _ hx)
  have e : (2 : Int) ^ (n * (l.length + 1)) = 2 ^ (n * l.length) * 2 ^ n:=by rw [Nat.mul_add,Nat.mul_one,Int.pow_add]
  have hp : (0 : Int) < 2 ^ n:=Int.pow_pos (by decide)
  simp only [dval,List.length_cons,e]
  refine ⟨Int.add_nonneg h1 (Int.mul_nonneg h3 (Int.le_of_lt hp)),?_⟩
  have : (dval n l + 1) * 2 ^ n ≤ 2 ^ (n * l.length) * 2 ^ n:=Int.mul_le_mul_of_nonneg_right (by lia) (Int.le_of_lt hp)
  rw [Int.add_mul] at this
  lia
private theorem q3h {a : Int} {m : Nat} (h0 : 0 ≤ a) (h : a < 2 ^ m) : Builtin.Int.intBits a ≤ m:=by
 rw [intBits_le_iff]
 obtain ⟨k,rfl⟩:=Int.eq_ofNat_of_zero_le h0
 have : ((2 ^ m : Nat) : Int) = (2 : Int) ^ m:=by simp
 rw [← this] at h
 simp only [Int.natAbs_natCast]
 lia
noncomputable def seg {α : Type} (l : List α) (L R : Nat) : List α:=(l.drop L).take (R - L)
private theorem w9u {α : Type} (l : List α) {L M R : Nat} (h1 : L ≤ M) (h2 : M ≤ R) : seg l L R = seg l L M ++ seg l M R:=by
 unfold seg
 have e : l.drop M = (l.drop L).drop (M - L):=by rw [List.drop_drop];congr 1;with_reducible exact nc4
 rw [e]
 have e2 : R - L = (M - L) + (R - M):=by with_reducible exact nb4
 rw [e2,List.take_add]
private theorem w1i {α : Type} (l : List α) {L R : Nat} (h : R ≤ l.length) : (seg l L R).length = R - L:=by unfold seg;rw [List.length_take,List.length_drop];with_reducible exact nb5
private theorem seg_mem {α : Type} {l : List α} {L R : Nat} {x : α} (h : x ∈ seg l L R) : x ∈ l:=List.mem_of_mem_drop (List.mem_of_mem_take h)
noncomputable abbrev ib_d2i (P : Params) : List Stmt:=(fdef ((bd_d2i P).getD 0 default)).elim [] (·.2.2.1)
noncomputable abbrev is_d2i (P : Params) : PySem.Scope:=(fdef ((bd_d2i P).getD 0 default)).elim default (·.2.2.2)
noncomputable abbrev ip_d2i (P : Params) : Arguments:=(fdef ((bd_d2i P).getD 0 default)).elim default (·.2.1)
noncomputable abbrev w3g (c1 c2 c3 : Addr) : List (PySem.Str × Addr):=[(⟨#[110]⟩,c1),(⟨#[105,110,110,101,114]⟩,c2),(⟨#[100,105,103,105,116,115]⟩,c3)]
noncomputable abbrev w6e (f : Addr) (l : List Int) (n : Nat) : List (PySem.Str × PV):=[(⟨#[110]⟩,.int n),(⟨#[105,110,110,101,114]⟩,.val (.ref f)),(⟨#[100,105,103,105,116,115]⟩,.lst (l.map .int))]
private theorem clo3 {α : Type} {x a b c : PySem.Str} {p u v z : α} {Q : Prop} (h : [(a,u),(b,v),(c,z)].lookup x = some p) (h1 : x = a → p = u → Q) (h2 : x = b → p = v → Q) (h3 : x = c → p = z → Q) : Q:=by
 simp only [List.lookup_cons] at h
 split at h
 ·rename_i e;cases h;exact h1 (eq_of_beq e) rfl
 ·split at h
  ·rename_i e;cases h;exact h2 (eq_of_beq e) rfl
  ·split at h
   ·rename_i e;cases h;exact h3 (eq_of_beq e) rfl
   ·cases h
private theorem z1u (hC : CfgOk P C) {f c1 c2 c3 : Addr} {nm q : PySem.Str} {doc pm cd ct : Value} (D : Def C f (fnX nm q (ip_d2i P) (ib_d2i P) (is_d2i P) (w3g c1 c2 c3) .none .none doc pm none cd ct) (ib_d2i P))
  (l : List Int) (n : Nat) (hl : ∀ d ∈ l,0 ≤ d ∧ d < 2 ^ n) (hb : n * l.length ≤ 2 ^ 26) (hl2 : l.length ≤ 2 ^ 20) (hn : n ≤ 2 ^ 20) : ∀ (k L R : Nat),L < R → R ≤ l.length → R - L ≤ 2 ^ k →
   FnOkC prog w C f (w3g c1 c2 c3) (w6e f l n) (is_d2i P).names (k + 1) [.int L,.int R] (.int (dval n (seg l L R))):=by
 intro k
 induction k using Nat.strongRecOn with
 | ind k IH =>
  intro L R h1 h2 h3
  refine FnOkC.of (names:=[⟨#[76]⟩,⟨#[82]⟩]) D (fun vs h => ?_) rfl rfl rfl fun A mu L₀ s s₁ r hL I hal => ?_
  ·obtain ⟨_,_,rfl⟩:=len2 h;rfl
  ·by_cases he : L + 1 = R
   ·refine q0a (st_IfT I ((show ((L : Int) + 1 == (R : Int)) = true by rw [beq_iff_eq];lia) ▸ (by repeat' walk_at "pe")) fun s₂ I₂ => ?_)
    have hlt : L < l.length:=by with_reducible exact naa
    have e1 : seg l L R = [l[L]]:=by
     unfold seg
     rw [List.drop_eq_getElem_cons hlt,show R - L = 1 by lia]
     rfl
    have e2 : dval n (seg l L R) = l[L]:=by rw [e1];simp [dval]
    rw [e2]
    refine q0a (q0q I₂ (p:=.int l[L]) (q0z (l:=l.map .int) (j:=L) (q0l (by walk_at "pe")) (by walk_at "pe") (by simp [hlt]) (by simp;(with_reducible refine nae ?_;decide))) fun v s' I' y => ⟨v,_,_,rfl,I',y⟩)
   ·refine q0a (st_IfN I ((show ((L : Int) + 1 == (R : Int)) = false by rw [beq_eq_false_iff_ne];lia) ▸ (by repeat' walk_at "pe")) fun s₂ I₂ => ?_)
    obtain ⟨k,rfl⟩ : ∃ k',k = k' + 1:=⟨k - 1,by
     have : k ≠ 0:=fun q => by subst q;lia
     with_reducible exact ni1⟩
    obtain ⟨M,hM⟩ : ∃ M,M = (L + R) / 2:=⟨_,rfl⟩
    have hLM : L < M:=by with_reducible exact ne5
    have hMR : M < R:=by with_reducible exact ne2
    have hmid : ((L : Int) + R).fdiv (2 ^ (1 : Int).toNat) = (M : Int):=by
     show ((L : Int) + R).fdiv 2 = _
     rw [Int.fdiv_eq_ediv_of_nonneg _ (by decide)]
     lia
    have hs : ((M : Int) - L) * n = ((n * (M - L) : Nat) : Int):=by
     rw [← Int.ofNat_sub (by with_reducible exact na0),Nat.mul_comm];push_cast;rfl
    refine q0a (q0h I₂ (by walk_at "sto") (p:=.int (M : Int)) (hmid ▸ (by (repeat' walk_at "pe");decide)) fun s₃ I₃ => ?_)
    have hmul : IntMulOk ((M : Int) - L) n:=IntMulOk.of_le (m:=64) (n:=64) (q3h (by lia) (by lia)) (q3h (by lia) (by lia)) (by decide)
    refine q0a (q0h I₃ (by walk_at "sto") (p:=.int ((n * (M - L) : Nat) : Int)) (hs ▸ (by (repeat' walk_at "pe");exact hmul)) fun s₄ I₄ => ?_)
    have k2 : 2 ^ (k + 1) = 2 * 2 ^ k:=by rw [Nat.pow_succ];lia
    have f1:=IH k (by lia) M R hMR h2 (by lia)
    have f2:=IH k (by lia) L M hLM (by lia) (by lia)
    obtain ⟨b1,b2⟩:=w1r n (seg l M R) fun d hd => hl d (seg_mem hd)
    have hbits : (Builtin.Int.intBits (dval n (seg l M R)) : Int) + ((n * (M - L) : Nat) : Int) ≤ 2 ^ 27:=by
     have:=q3h b1 b2
     rw [w1i l h2] at this
     have e3 : n * (R - M) + n * (M - L) ≤ n * l.length:=by rw [← Nat.mul_add];exact Nat.mul_le_mul_left _ (by with_reducible exact ne9)
     lia
    have hval : dval n (seg l M R) * 2 ^ ((n * (M - L) : Nat) : Int).toNat + dval n (seg l L M) = dval n (seg l L R):=by
     rw [w9u l (Nat.le_of_lt hLM) (Nat.le_of_lt hMR),w0q,w1i l (by lia),Int.toNat_natCast,Int.add_comm]
    rw [← hval]
    have hcall : ∀ {X Y : Nat} {s : Shared} {vs : List Value} {z : PV},FnOkC prog w C f (w3g c1 c2 c3) (w6e f l n) (is_d2i P).names (k + 1) [.int X,.int Y] z → Ok C (L₀ :: mu) s →
      Act (callEnv (fnX nm q (ip_d2i P) (ib_d2i P) (is_d2i P) (w3g c1 c2 c3) .none .none doc pm none cd ct) L₀ f) (L₀ :: mu) s.heap ((⟨#[115,104,105,102,116]⟩,.int ((n * (M - L) : Nat) : Int)) :: (⟨#[109,105,100]⟩,.int M) :: (([(⟨#[76]⟩ : PySem.Str),⟨#[82]⟩].zip [PV.int L,.int R]).reverse ++ w6e f l n)) [] →
      Sims s.heap (L₀ :: mu) [.int X,.int Y] vs → Pur prog w C (L₀ :: mu) A (call (.ref f) vs) z s:=fun F O a y => by
     refine F _ _ _ _ r O (Clo.ofAct a (fun x c h => ?_) (fun x p h => ?_) fun x hx => ?_) y
     ·exact ⟨h,by refine clo3 h (fun e _ => ?_) (fun e _ => ?_) fun e _ => ?_;all_goals subst e;exact (show some NameKind.free ≠ some NameKind.local by decide)⟩
     ·refine clo3 h (fun e e' => ?_) (fun e e' => ?_) fun e e' => ?_
      all_goals subst e e';exact ⟨rfl,rfl,rfl,_,rfl⟩
     ·exact (hal x hx).imp (.tail _) id
    refine q0a (q0q I₄ (p:=.int _) (q0k (q0k (p:=.int (dval n (seg l M R))) (q9w (ps:=[.int M,.int R]) (f:=f) (by walk_at "pe") (by repeat' walk_at "pe") D (fun s vs O a y => hcall f1 O a y) (fun _ => rfl)) (by walk_at "pe") (op_shl (by lia) hbits))
     (q9w (ps:=[.int L,.int M]) (f:=f) (by walk_at "pe") (by repeat' walk_at "pe") D (fun s vs O a y => hcall f2 O a y) (fun _ => rfl)) op_add) fun v s' I' y => ⟨v,_,_,rfl,I',y⟩)
private theorem d2i (hC : CfgOk P C) {l : List Int} {n k : Nat} (hl : ∀ d ∈ l,0 ≤ d ∧ d < 2 ^ n) (hb : n * l.length ≤ 2 ^ 26) (hl2 : l.length ≤ 2 ^ 20) (hn : n ≤ 2 ^ 20) (hk : l.length ≤ 2 ^ k) : FnOk prog w C a_d2i (k + 2) [.lst (l.map .int),.int n] (.int (dval n l)):=by
 refine FnOk.ofC (names:=[⟨#[100,105,103,105,116,115]⟩,⟨#[110]⟩]) (z1q hC) (fun vs h => ?_) rfl rfl rfl (of_decide_eq_true rfl) fun A mu L s s₁ r I hL => ?_
 ·obtain ⟨_,_,rfl⟩:=len2 h;rfl
 ·refine q0a (st_Def (x:=TL[1]) I (by rw [hC.T];exact .tail _ (.head _)) rfl rfl (by rw [hC.T];decide +kernel) rfl (by walk_at "stc") rfl rfl rfl rfl rfl rfl fun f s₂ s₃ doc pm cd ct D I₃ O₂ => ?_)
  have hC':=hC.now (s:=s₂) (mu:=q0j (callEnvC (fd_d2i P) L a_d2i) ++ mu)
  refine q0a (q0q I₃ (p:=.int (dval n l)) ?_ fun v s' I' y => ⟨v,rfl,(I'.outD O₂ hL).1,(I'.outD O₂ hL).2,y.sub fun a h => List.mem_append_right _ h⟩)
  refine q9v (b:=(l.map PV.int).length != 0) (q1b (by walk_at "pe") (w2p (by simp;lia)) fun _ => rfl) (fun hne => ?_) fun he => ?_
  ·have hpos : 0 < l.length:=by
    simp at hne
    exact List.length_pos_iff.mpr hne
   have e0 : dval n l = dval n (seg l 0 l.length):=by simp [seg]
   rw [e0]
   refine q9w (ps:=[.int (0 : Nat),.int l.length]) (f:=f) (by walk_at "pe") ?_ D (fun s vs O a y => ?_) (fun _ => rfl)
   ·have e1 : (l.length : Int) = ((l.map PV.int).length : Nat):=by simp
    rw [e1]
    repeat' walk_at "pe"
    all_goals (rw [List.length_map];lia)
   ·refine z1u hC' D l n hl hb hl2 hn k 0 l.length hpos (Nat.le_refl _) (by with_reducible exact nb3) _ _ _ _ r O (Clo.ofAct a (fun x c h => ?_) (fun x p h => ?_) fun x hx => ?_) y
    ·refine ⟨?_,?_⟩
     ·refine clo3 h (fun e e' => ?_) (fun e e' => ?_) fun e e' => ?_
      all_goals subst e e';rfl
     ·refine clo3 h (fun e _ => ?_) (fun e _ => ?_) fun e _ => ?_
      all_goals subst e;exact (show some NameKind.cell ≠ some NameKind.local by decide)
    ·refine clo3 h (fun e e' => ?_) (fun e e' => ?_) fun e e' => ?_
     all_goals subst e e';exact ⟨rfl,rfl,rfl,_,rfl⟩
    ·exact I₃.cells x (by
      rcases hx with _ | ⟨_,_ | ⟨_,_ | ⟨_,hx⟩⟩⟩
      ·walk_at "mem"
      ·walk_at "mem"
      ·walk_at "mem"
      ·cases hx)
  ·have e0 : l = []:=by simpa using he
   subst e0
   exact q0m
end
section
open PySem PySem.W PySem.Calls PyProof.Rows
variable {prog : Program} {w : World} {P : Params} {C : Cfg}
private theorem z1b (x s : Nat) : x &&& (x / 2 ^ s * 2 ^ s) = x / 2 ^ s * 2 ^ s:=by
 apply Nat.eq_of_testBit_eq
 intro i
 rw [Nat.testBit_and,← Nat.shiftRight_eq_div_pow,← Nat.shiftLeft_eq,Nat.testBit_shiftLeft,Nat.testBit_shiftRight]
 by_cases h : i ≥ s
 ·simp [h]
 ·simp [h]
private theorem w8p (a b s : Nat) (h : b < 2 ^ s) : (a * 2 ^ s) &&& b = 0:=by
 apply Nat.eq_of_testBit_eq
 intro i
 rw [Nat.testBit_and,← Nat.shiftLeft_eq,Nat.testBit_shiftLeft,Nat.zero_testBit]
 by_cases hi : i ≥ s
 ·have : b.testBit i = false:=Nat.testBit_lt_two_pow (Nat.lt_of_lt_of_le h (Nat.pow_le_pow_right (by decide) hi))
  simp [this]
 ·simp [hi]
private theorem xor_low (x s : Nat) : Builtin.bitXor (x : Int) (((x : Int).fdiv (2 ^ (s : Int).toNat)) * 2 ^ (s : Int).toNat) = ((x % 2 ^ s : Nat) : Int):=by
 have e : ((x : Int).fdiv (2 ^ (s : Int).toNat)) * 2 ^ (s : Int).toNat = ((x / 2 ^ s * 2 ^ s : Nat) : Int):=by
  rw [Int.toNat_natCast,Int.fdiv_eq_ediv_of_nonneg _ (Int.le_of_lt (Int.pow_pos (by decide)))]
  push_cast
  rfl
 rw [e,bitXor_and,bitAnd_pp (by lia) (by lia),Int.toNat_natCast,Int.toNat_natCast,z1b]
 have:=Nat.div_add_mod x (2 ^ s)
 rw [Nat.mul_comm] at this
 lia
private theorem w6v (a b s : Nat) (h : b < 2 ^ s) : Builtin.bitOr (((a : Nat) : Int) * 2 ^ s) (b : Nat) = ((a * 2 ^ s + b : Nat) : Int):=by
 have e : ((a : Nat) : Int) * 2 ^ s = ((a * 2 ^ s : Nat) : Int):=by push_cast;rfl
 rw [e,bitOr_and,bitAnd_pp (by lia) (by lia),Int.toNat_natCast,Int.toNat_natCast,w8p _ _ _ h]
 push_cast
 lia
noncomputable def digs (n : Nat) : Nat → Nat → List Nat
 | _,0 => []
 | x,m + 1 => x % 2 ^ n :: digs n (x / 2 ^ n) m
private theorem q3t (n : Nat) : ∀ (m x : Nat),(digs n x m).length = m
 | 0,_ => rfl
 | m + 1,x => by simp [digs,q3t n m]
private theorem z1n (n : Nat) : ∀ (m x d : Nat),d ∈ digs n x m → d < 2 ^ n
 | 0,_,_,h => by cases h
 | m + 1,x,d,h => by
  rcases List.mem_cons.mp h with rfl | h
  ·exact Nat.mod_lt _ (Nat.pow_pos (by decide))
  ·exact z1n n m _ d h
private theorem w1t (n : Nat) : ∀ (a b x : Nat),digs n x (a + b) = digs n (x % 2 ^ (n * a)) a ++ digs n (x / 2 ^ (n * a)) b
 | 0,b,x => by simp [digs]
 | a + 1,b,x => by
  have e1 : 2 ^ (n * (a + 1)) = 2 ^ n * 2 ^ (n * a):=by rw [Nat.mul_add,Nat.mul_one,Nat.pow_add,Nat.mul_comm]
  rw [show a + 1 + b = (a + b) + 1 by lia]
  simp only [digs,List.cons_append]
  rw [w1t n a b,e1,Nat.mod_mul_right_div_self,Nat.mod_mul_right_mod,Nat.div_div_eq_div_mul]
private theorem digs_one {n x : Nat} (h : x < 2 ^ n) : digs n x 1 = [x]:=by simp [digs,Nat.mod_eq_of_lt h]
private theorem w4q (n : Nat) : ∀ (m x : Nat),x < 2 ^ (n * m) → dval n ((digs n x m).map Int.ofNat) = x
 | 0,x,h => by simp at h;subst h;rfl
 | m + 1,x,h => by
  have e1 : 2 ^ (n * (m + 1)) = 2 ^ n * 2 ^ (n * m):=by rw [Nat.mul_add,Nat.mul_one,Nat.pow_add,Nat.mul_comm]
  have h' : x / 2 ^ n < 2 ^ (n * m):=Nat.div_lt_of_lt_mul (by rw [← e1];exact h)
  simp only [digs,List.map_cons,dval,w4q n m _ h']
  have:=Nat.div_add_mod x (2 ^ n)
  have e2 : (Int.ofNat (x % 2 ^ n)) + ((x / 2 ^ n : Nat) : Int) * 2 ^ n = ((x % 2 ^ n + x / 2 ^ n * 2 ^ n : Nat) : Int):=by push_cast;rfl
  rw [e2]
  congr 1
  rw [Nat.mul_comm]
  lia
noncomputable def put {α : Type} (l : List α) (L : Nat) (ds : List α) : List α:=l.take L ++ ds ++ l.drop (L + ds.length)
private theorem w8d {α : Type} (l : List α) (L : Nat) (ds : List α) (h : L + ds.length ≤ l.length) : (put l L ds).length = l.length:=by unfold put;simp;with_reducible exact nh7
private theorem put_put {α : Type} (l : List α) (L : Nat) (a b : List α) (h : L + a.length + b.length ≤ l.length) : put (put l L a) (L + a.length) b = put l L (a ++ b):=by
 unfold put
 have h1 : (l.take L ++ a).length = L + a.length:=by simp;lia
 rw [List.take_append_of_le_length (by lia),List.take_of_length_le (Nat.le_of_eq h1)]
 have e : (List.take L l ++ a ++ List.drop (L + a.length) l).drop (L + a.length + b.length) = l.drop (L + (a ++ b).length):=by
  rw [List.drop_append,List.drop_of_length_le (by lia),List.nil_append,List.drop_drop,h1,List.length_append]
  congr 1
  with_reducible exact nh2
 rw [e]
 simp [List.append_assoc]
private theorem put_set {α : Type} (l : List α) (L : Nat) (x : α) (h : L < l.length) : put l L [x] = l.set L x:=by
 unfold put
 rw [List.set_eq_take_append_cons_drop,if_pos h]
 simp
private theorem put_all {α : Type} (l ds : List α) (h : ds.length = l.length) : put l 0 ds = ds:=by unfold put;simp [h]
noncomputable abbrev ib_i2d (P : Params) : List Stmt:=(fdef ((bd_i2d P).getD 1 default)).elim [] (·.2.2.1)
noncomputable abbrev is_i2d (P : Params) : PySem.Scope:=(fdef ((bd_i2d P).getD 1 default)).elim default (·.2.2.2)
noncomputable abbrev ip_i2d (P : Params) : Arguments:=(fdef ((bd_i2d P).getD 1 default)).elim default (·.2.1)
noncomputable abbrev q5i (c1 c2 c3 : Addr) : List (PySem.Str × Addr):=[(⟨#[110]⟩,c1),(⟨#[105,110,110,101,114]⟩,c2),(⟨#[97,95,100,105,103,105,116,115]⟩,c3)]
noncomputable abbrev w0w (f d : Addr) (n : Nat) : List (PySem.Str × PV):=[(⟨#[110]⟩,.int n),(⟨#[105,110,110,101,114]⟩,.val (.ref f)),(⟨#[97,95,100,105,103,105,116,115]⟩,.val (.ref d))]
noncomputable abbrev pvd (l : List Nat) : List PV:=l.map fun (x : Nat) => PV.int x
private theorem lk0 {d : Addr} {m : MO} {r : List (Addr × MO)} : ((d,m) :: r).lookup d = some m:=by simp [List.lookup_cons]
private theorem z1d (hC : CfgOk P C) {f d c1 c2 c3 : Addr} {nm q : PySem.Str} {doc pm cd ct : Value} (D : Def C f (fnX nm q (ip_i2d P) (ib_i2d P) (is_i2d P) (q5i c1 c2 c3) .none .none doc pm none cd ct) (ib_i2d P))
  (n len : Nat) (hb : n * len ≤ 2 ^ 26) (hl2 : len ≤ 2 ^ 20) (hn : n ≤ 2 ^ 20) : ∀ (k x L R : Nat) (l : List PV),l.length = len → L < R → R ≤ len → R - L ≤ 2 ^ k → x < 2 ^ (n * (R - L)) →
   ∀ A mu s vs (Q : Value → Shared → Prop) (E : Value → Shared → Prop),Rm A (k + 1) → Ok C mu s → Clo C mu s.heap (q5i c1 c2 c3) (w0w f d n) (is_i2d P).names → d ∈ mu → MOAt mu s.heap d (Mlst l) → Sims s.heap mu [.int x,.int L,.int R] vs →
    (∀ s',Ok C mu s' → Kp C [d] s s' → MOAt mu s'.heap d (Mlst (put l L (pvd (digs n x (R - L))))) → Q .none s') → wpAny (model prog w) A (call (.ref f) vs) Q E s:=by
 intro k
 induction k using Nat.strongRecOn with
 | ind k IH =>
  intro x L R l hl h1 h2 h3 hx A mu s vs Q E r O hclo hd hm hy K
  refine q1o (names:=[⟨#[120]⟩,⟨#[76]⟩,⟨#[82]⟩]) (ρc:=w0w f d n) (D.at O) r O hy (BindsTo.of_eq ?_) rfl hclo rfl rfl fun L₀ s₁ hL I r' hk => ?_
  ·obtain ⟨v1,_,rfl,_,v2,_,rfl,_,v3,_,rfl,_,hr⟩:=hy
   cases hr
   rfl
  ·have hdL : d ≠ L₀:=fun q => by obtain ⟨o,e⟩:=(O.live d hd).2;rw [q,hL] at e;cases e
   have hcl : ∀ x c,(q5i c1 c2 c3).lookup x = some c → d ≠ c:=fun x c hc e => by
    obtain ⟨_,ov,⟨o,ho,hdat⟩,_⟩:=hclo.cell x c (by refine clo3 hc (fun e _ => ?_) (fun e _ => ?_) fun e _ => ?_;all_goals subst e;decide) hc
    obtain ⟨vs,n,e',_⟩:=hm
    rw [e,ho] at e';cases e';cases hdat
   have hown : d ∉ q0j (callEnv (fnX nm q (ip_i2d P) (ib_i2d P) (is_i2d P) (q5i c1 c2 c3) .none .none doc pm none cd ct) L₀ f):=fun h => by
    rcases h with _ | ⟨_,_ | ⟨_,_ | ⟨_,_ | ⟨_,h⟩⟩⟩⟩
    ·exact hdL rfl
    ·exact hcl ⟨#[110]⟩ _ rfl rfl
    ·exact hcl ⟨#[105,110,110,101,114]⟩ _ rfl rfl
    ·exact hcl ⟨#[97,95,100,105,103,105,116,115]⟩ _ rfl rfl
    ·cases h
   have hm₁ : MOAt (L₀ :: mu) s₁.heap d (Mlst l):=hm.keeps (fun o e => hk _ _ e) (fun a o ha e q => by rcases List.mem_cons.mp q with rfl | q;(rw [hL] at e;cases e);exact ha q) fun a o _ _ e => hk _ _ e
   have I:=I.know (.tail _ hd) hown hm₁
   -- the way out
   have out : ∀ {ρ' σ' s'} {m' : List PV},In C (L₀ :: mu) [d,L₀] (callEnv (fnX nm q (ip_i2d P) (ib_i2d P) (is_i2d P) (q5i c1 c2 c3) .none .none doc pm none cd ct) L₀ f) ρ' ((d,Mlst m') :: σ') s s' → m' = put l L (pvd (digs n x (R - L))) → Q .none s':=fun {ρ' σ' s' m'} I' e => by
    refine K s' (I'.ok.sub fun a h => .tail _ h) ⟨fun b o hb ht e => I'.kp.keep b o (fun q => ?_) ht e⟩ ?_
    ·rcases List.mem_cons.mp q with rfl | q
     ·exact hb (.head _)
     ·simp at q;subst q;rw [hL] at e;cases e
    ·have:=(I'.act.st d (Mlst m') lk0).2.2
     rw [e] at this
     exact this.keeps (fun _ e => e) (fun _ _ h _ q => h (.tail _ q)) fun _ _ _ _ e => e
   by_cases he : L + 1 = R
   ·refine q0a (st_IfT I ((show ((L : Int) + 1 == (R : Int)) = true by rw [beq_iff_eq];lia) ▸ (by repeat' walk_at "pe")) fun s₂ I₂ => ?_)
    have e1 : R - L = 1:=by lia
    rw [e1,Nat.mul_one] at hx
    refine q0a (w7w (a:=d) (l:=l) (p:=.int x) (j:=L) I₂ lk0 (.head _) (by walk_at "pe") (by walk_at "pe") (by walk_at "pe") (by lia) (by lia) fun s₃ I₃ => ?_)
    refine q0a (wpAny_Return_none ?_)
    exact out I₃ (by rw [e1,digs_one hx];exact (put_set l L (.int x) (by lia)).symm)
   ·refine q0a (st_IfN I ((show ((L : Int) + 1 == (R : Int)) = false by rw [beq_eq_false_iff_ne];lia) ▸ (by repeat' walk_at "pe")) fun s₂ I₂ => ?_)
    obtain ⟨k,rfl⟩ : ∃ k',k = k' + 1:=⟨k - 1,by
     have : k ≠ 0:=fun q => by subst q;lia
     with_reducible exact ni1⟩
    obtain ⟨M,hM⟩ : ∃ M,M = (L + R) / 2:=⟨_,rfl⟩
    have hLM : L < M:=by with_reducible exact ne5
    have hMR : M < R:=by with_reducible exact ne2
    have hmid : ((L : Int) + R).fdiv (2 ^ (1 : Int).toNat) = (M : Int):=by
     show ((L : Int) + R).fdiv 2 = _
     rw [Int.fdiv_eq_ediv_of_nonneg _ (by decide)]
     lia
    have hs : ((M : Int) - L) * n = ((n * (M - L) : Nat) : Int):=by
     rw [← Int.ofNat_sub (by with_reducible exact na0),Nat.mul_comm];push_cast;rfl
    refine q0a (q0h I₂ (by walk_at "sto") (p:=.int (M : Int)) (hmid ▸ (by (repeat' walk_at "pe");decide)) fun s₃ I₃ => ?_)
    have hmul : IntMulOk ((M : Int) - L) n:=IntMulOk.of_le (m:=64) (n:=64) (q3h (by lia) (by lia)) (q3h (by lia) (by lia)) (by decide)
    refine q0a (q0h I₃ (by walk_at "sto") (p:=.int ((n * (M - L) : Nat) : Int)) (hs ▸ (by (repeat' walk_at "pe");exact hmul)) fun s₄ I₄ => ?_)
    obtain ⟨S,hS⟩ : ∃ S,S = n * (M - L):=⟨_,rfl⟩
    rw [← hS] at I₄
    have hup : (x : Int).fdiv (2 ^ (S : Int).toNat) = ((x / 2 ^ S : Nat) : Int):=by
     rw [Int.toNat_natCast,Int.fdiv_eq_ediv_of_nonneg _ (Int.le_of_lt (Int.pow_pos (by decide)))];push_cast;rfl
    refine q0a (q0h I₄ (by walk_at "sto") (p:=.int ((x / 2 ^ S : Nat) : Int)) (hup ▸ (by (repeat' walk_at "pe");lia)) fun s₅ I₅ => ?_)
    have e5 : n * (R - L) = S + n * (R - M):=by rw [hS,← Nat.mul_add];congr 1;with_reducible exact ne4
    have hSle : n * (R - L) ≤ n * len:=Nat.mul_le_mul_left _ (by with_reducible exact nb3)
    have hub : x / 2 ^ S < 2 ^ (n * (R - M)):=Nat.div_lt_of_lt_mul (by rw [← Nat.pow_add,← e5];exact hx)
    have hbits : (Builtin.Int.intBits ((x / 2 ^ S : Nat) : Int) : Int) + (S : Int) ≤ 2 ^ 27:=by
     have:=q3h (a:=((x / 2 ^ S : Nat) : Int)) (m:=n * (R - M)) (Int.natCast_nonneg _) (by exact_mod_cast hub)
     lia
    have hlow:=xor_low x S
    rw [hup] at hlow
    refine q0a (q0h I₅ (by walk_at "sto") (p:=.int ((x % 2 ^ S : Nat) : Int)) (hlow ▸ (by (repeat' walk_at "pe");all_goals first | assumption | lia)) fun s₆ I₆ => ?_)
    have k2 : 2 ^ (k + 1) = 2 * 2 ^ k:=by rw [Nat.pow_succ];lia
    have hlb : x % 2 ^ S < 2 ^ (n * (M - L)):=by rw [← hS];exact Nat.mod_lt _ (Nat.pow_pos (by decide))
    have hcl' : ∀ {ρ' σ' s'} ,In C (L₀ :: mu) [d,L₀] (callEnv (fnX nm q (ip_i2d P) (ib_i2d P) (is_i2d P) (q5i c1 c2 c3) .none .none doc pm none cd ct) L₀ f) (ρ' ++ ([(⟨#[120]⟩,PV.int x),(⟨#[76]⟩,.int L),(⟨#[82]⟩,.int R)].reverse ++ w0w f d n)) σ' s s' → True:=fun _ => trivial
    have clo : ∀ {σ' s'} {p1 p2 p3 p4 : PV},In C (L₀ :: mu) [d,L₀] (callEnv (fnX nm q (ip_i2d P) (ib_i2d P) (is_i2d P) (q5i c1 c2 c3) .none .none doc pm none cd ct) L₀ f) ((⟨#[108,111,119,101,114]⟩,p1) :: (⟨#[117,112,112,101,114]⟩,p2) :: (⟨#[115,104,105,102,116]⟩,p3) :: (⟨#[109,105,100]⟩,p4) :: (([(⟨#[120]⟩ : PySem.Str),⟨#[76]⟩,⟨#[82]⟩].zip [PV.int x,.int L,.int R]).reverse ++ w0w f d n)) σ' s s' →
      Clo C (L₀ :: mu) s'.heap (q5i c1 c2 c3) (w0w f d n) (is_i2d P).names:=fun I' => by
     refine Clo.ofAct I'.act (fun x c h => ⟨h,?_⟩) (fun x p h => ?_) fun x hx => ?_
     ·refine clo3 h (fun e _ => ?_) (fun e _ => ?_) fun e _ => ?_;all_goals subst e;exact (show some NameKind.free ≠ some NameKind.local by decide)
     ·refine clo3 h (fun e e' => ?_) (fun e e' => ?_) fun e e' => ?_
      all_goals subst e e';exact ⟨rfl,rfl,rfl,_,rfl⟩
     ·exact (hclo.alive x hx).imp (.tail _) id
    refine q0a (q5a (ps:=[.int (x % 2 ^ S : Nat),.int L,.int M]) (f:=f) I₆ (by walk_at "pe") (by repeat' walk_at "pe") D (fun s₇ vs I₇ y => ?_) (fun _ => rfl))
    refine IH k (by lia) (x % 2 ^ S) L M l hl hLM (by lia) (by lia) hlb _ _ _ _ _ _ r' I₇.ok (clo I₇) (.tail _ hd) (I₇.act.st d _ lk0).2.2 y fun s₈ O₈ k₈ m₈ => ?_
    have I₈:=I₇.change1 O₈ k₈ lk0 (.head _) m₈
    refine q0a (q5a (ps:=[.int (x / 2 ^ S : Nat),.int M,.int R]) (f:=f) I₈ (by walk_at "pe") (by repeat' walk_at "pe") D (fun s₉ vs I₉ y => ?_) (fun _ => rfl))
    have hdl : (pvd (digs n (x % 2 ^ S) (M - L))).length = M - L:=by simp [q3t]
    refine IH k (by lia) (x / 2 ^ S) M R (put l L (pvd (digs n (x % 2 ^ S) (M - L)))) (by rw [w8d _ _ _ (by lia),hl]) hMR h2 (by lia) hub _ _ _ _ _ _ r' I₉.ok (clo I₉) (.tail _ hd) (I₉.act.st d _ lk0).2.2 y fun s₁₀ O₁₀ k₁₀ m₁₀ => ?_
    have I₁₀:=I₉.change1 O₁₀ k₁₀ lk0 (.head _) m₁₀
    refine wpAny_execs_nil ?_
    refine out I₁₀ ?_
    have e6 : M = L + (pvd (digs n (x % 2 ^ S) (M - L))).length:=by lia
    have e7 : R - L = (M - L) + (R - M):=by with_reducible exact ne4
    have hud : (pvd (digs n (x / 2 ^ S) (R - M))).length = R - M:=by simp [q3t]
    have e8 : ∀ a b : List Nat,pvd (a ++ b) = pvd a ++ pvd b:=fun a b => List.map_append
    have h9:=put_put l L (pvd (digs n (x % 2 ^ S) (M - L))) (pvd (digs n (x / 2 ^ S) (R - M))) (by lia)
    rw [← e6] at h9
    rw [e7,w1t,← hS,e8]
    exact h9
noncomputable def ndig (a n : Nat) : Nat:=(Builtin.Int.intBits (a : Int) + n - 1) / n
private theorem i2d (hC : CfgOk P C) {a n k : Nat} (hn1 : 1 ≤ n) (hn : n ≤ 2 ^ 20) (ha : Builtin.Int.intBits (a : Int) ≤ 2 ^ 19) (hk : ndig a n ≤ 2 ^ k) : FnOk prog w C a_i2d (k + 2) [.int a,.int n] (.lst (pvd (digs n a (ndig a n)))):=by
 have hm : n * ndig a n ≤ Builtin.Int.intBits (a : Int) + n - 1:=by unfold ndig;exact Nat.mul_div_le _ _
 have hm2 : ndig a n ≤ Builtin.Int.intBits (a : Int):=by
  unfold ndig
  rw [Nat.div_le_iff_le_mul_add_pred hn1]
  have:=Nat.le_mul_of_pos_left (Builtin.Int.intBits (a : Int)) hn1
  with_reducible exact nf8
 have hab : a < 2 ^ (n * ndig a n):=by
  have h1 : Builtin.Int.intBits (a : Int) ≤ n * ndig a n:=by
   unfold ndig
   have:=Nat.lt_mul_div_succ (Builtin.Int.intBits (a : Int) + n - 1) hn1
   rw [Nat.mul_add] at this
   with_reducible exact ng3
  have h2:=intBits_le_iff.mp h1
  simpa using h2
 refine FnOk.ofC (names:=[⟨#[97]⟩,⟨#[110]⟩]) (z1p hC) (fun vs h => ?_) rfl rfl rfl (of_decide_eq_true rfl) fun A mu L s s₁ r I hL => ?_
 ·obtain ⟨_,_,rfl⟩:=len2 h;rfl
 ·have hfd : ((Builtin.Int.intBits (a : Int) : Int) + n - 1).fdiv n = ((ndig a n : Nat) : Int):=by
   have e : ((Builtin.Int.intBits (a : Int) : Int) + n - 1) = ((Builtin.Int.intBits (a : Int) + n - 1 : Nat) : Int):=by lia
   rw [e,Int.fdiv_eq_ediv_of_nonneg _ (by lia)]
   unfold ndig
   push_cast
   rfl
  have hrep : ((List.replicate (ndig a n) [PV.int 0]).flatten) = List.replicate (ndig a n) (PV.int 0):=by
   generalize ndig a n = m
   induction m with
   | zero => rfl
   | succ m ih => rw [List.replicate_succ,List.flatten_cons,ih,List.replicate_succ];rfl
  refine q0a (q9k (l:=(List.replicate (ndig a n) [PV.int 0]).flatten) I rfl (by walk_at "mem") (q4g (p:=.lst [.int 0]) (q:=.int (ndig a n : Nat)) (q6v (by repeat' walk_at "pe") (by decide +kernel)) (hfd ▸ ?_) (w5m (by simp;lia) (by lia))) fun d s₂ hd hdm I₂ => ?_)
  ·(repeat' walk_at "pe")
   exact op_fdiv (by lia) (PyProof.noPylong_small (by lia))
  rw [hrep] at I₂
  refine q0a (st_Def (x:=TL[0]) I₂ (by rw [hC.T];exact .head _) rfl rfl (by rw [hC.T];decide +kernel) rfl (by walk_at "stc") rfl rfl rfl rfl rfl rfl fun f s₃ s₄ doc pm cd ct D I₄ O₃ => ?_)
  have hC':=hC.now (s:=s₃) (mu:=d :: (q0j (callEnvC (fd_i2d P) L a_i2d) ++ mu))
  have hL' : ∀ a ∈ d :: q0j (callEnvC (fd_i2d P) L a_i2d),s.heap.get? a = none:=fun b hb => by
   rcases List.mem_cons.mp hb with rfl | hb
   ·exact hd
   ·exact hL b hb
  have fin : ∀ {ρ' σ' s'},In (C.now s₃ (d :: (q0j (callEnvC (fd_i2d P) L a_i2d) ++ mu))) (d :: (q0j (callEnvC (fd_i2d P) L a_i2d) ++ mu)) (d :: q0j (callEnvC (fd_i2d P) L a_i2d)) (callEnvC (fd_i2d P) L a_i2d) ((⟨#[105,110,110,101,114]⟩,.val (.ref f)) :: (⟨#[97,95,100,105,103,105,116,115]⟩,.val (.ref d)) :: ρ') ((d,Mlst (pvd (digs n a (ndig a n)))) :: σ') s s' →
    wpAny (model prog w) A (execs ((bd_i2d P).drop 3) (callEnvC (fd_i2d P) L a_i2d)) (fun fl s' => ∃ v,fl = .ret v ∧ Ok C mu s' ∧ Kp C [] s s' ∧ Sim s'.heap mu (.lst (pvd (digs n a (ndig a n)))) v) (fun _ _ => False) s':=fun {ρ' σ' s'} I' => by
   refine q0a (q0q I' (p:=.val (.ref d)) (by walk_at "pe") fun v s'' I'' y => ⟨v,rfl,(In.outD (Ls:=d :: q0j (callEnvC (fd_i2d P) L a_i2d)) O₃ I'' hL').1,(In.outD (Ls:=d :: q0j (callEnvC (fd_i2d P) L a_i2d)) O₃ I'' hL').2,?_⟩)
   cases (show v = .ref d from y)
   obtain ⟨vs,m,e,hv⟩:=(I''.act.st d _ lk0).2.2
   exact ⟨d,vs,m,rfl,fun h => hdm (List.mem_append_right _ h),e,hv.sub fun b h => .tail _ (List.mem_append_right _ h)⟩
  by_cases ha0 : a = 0
  ·subst ha0
   have e0 : ndig 0 n = 0:=by
    unfold ndig
    have : Builtin.Int.intBits ((0 : Nat) : Int) = 0:=by decide
    rw [this]
    exact Nat.div_eq_of_lt (by lia)
   refine q0a (st_IfN I₄ (q1b (p:=.int (0 : Nat)) (b:=((0 : Nat) : Int) != 0) (by walk_at "pe") q1t fun _ => rfl) fun s₅ I₅ => ?_)
   rw [show List.replicate (ndig 0 n) (PV.int 0) = pvd (digs n 0 (ndig 0 n)) by rw [e0];rfl] at I₅
   exact fin I₅
  ·refine q0a (st_IfT I₄ ((show ((a : Int) != 0) = true by simpa using ha0) ▸ (q1b (p:=.int a) (by walk_at "pe") q1t fun _ => rfl)) fun s₅ I₅ => ?_)
   have hpos : 0 < ndig a n:=by
    rcases Nat.eq_zero_or_pos (ndig a n) with h | h
    ·rw [h] at hab;simp at hab;exact absurd hab ha0
    ·exact h
   have hlen : (List.replicate (ndig a n) (PV.int 0)).length = ndig a n:=by simp
   refine q0a (q5a (ps:=[.int a,.int (0 : Nat),.int (List.replicate (ndig a n) (PV.int 0)).length]) (f:=f) I₅ (by walk_at "pe") ?_ D (fun s₆ vs I₆ y => ?_) (fun _ => rfl))
   ·refine q0c (by walk_at "pe") (q0c (by walk_at "pe") (q0c (pur_lenM (a:=d) ?_ (by walk_at "pe") lk0 (by rw [hlen];lia)) q0g fun _ => rfl) fun _ => rfl) fun _ => rfl
    exact q0f (q0e hC' rfl) rfl rfl
   ·rw [hlen] at y
    refine z1d hC' D n (ndig a n) (by (with_reducible refine nd4 ?_;decide)) (by lia) hn k a 0 (ndig a n) _ hlen hpos (Nat.le_refl _) (by with_reducible exact nb3) (by rw [Nat.sub_zero];exact hab) _ _ _ _ _ _ r I₆.ok (Clo.ofAct I₆.act (fun x c h => ?_) (fun x p h => ?_) fun x hx => ?_) (.head _) (I₆.act.st d _ lk0).2.2 y fun s₇ O₇ k₇ m₇ => ?_
    ·refine ⟨?_,?_⟩
     ·refine clo3 h (fun e e' => ?_) (fun e e' => ?_) fun e e' => ?_
      all_goals subst e e';rfl
     ·refine clo3 h (fun e _ => ?_) (fun e _ => ?_) fun e _ => ?_
      all_goals subst e;exact (show some NameKind.cell ≠ some NameKind.local by decide)
    ·refine clo3 h (fun e e' => ?_) (fun e e' => ?_) fun e e' => ?_
     all_goals subst e e';exact ⟨rfl,rfl,rfl,_,rfl⟩
    ·exact I₆.cells x (by
      rcases hx with _ | ⟨_,_ | ⟨_,_ | ⟨_,hx⟩⟩⟩
      ·walk_at "mem"
      ·walk_at "mem"
      ·walk_at "mem"
      ·cases hx)
    have I₇:=I₆.change1 O₇ k₇ lk0 (.head _) m₇
    refine wpAny_execs_nil ?_
    rw [Nat.sub_zero,put_all _ _ (by rw [hlen];simp [q3t])] at I₇
    exact fin I₇
end
section
set_option tactic.hygienic true
open PySem PySem.W PySem.Calls PyProof.Rows
variable {prog : Program} {w : World} {P : Params} {C : Cfg}
private theorem shadow2 {α : Type} {a b : PySem.Str} {p q p' q' : α} {r : List (PySem.Str × α)} : ∀ x z,((a,p) :: (b,q) :: r).lookup x = some z → ((a,p) :: (b,q) :: (a,p') :: (b,q') :: r).lookup x = some z:=fun x z h => by
 simp only [List.lookup_cons] at h ⊢
 split at h
 ·rename_i e;exact h
 ·split at h
  ·exact h
  ·exact h
private theorem shadow1 {α : Type} {a : PySem.Str} {p p' : α} {r : List (PySem.Str × α)} : ∀ x z,((a,p) :: r).lookup x = some z → ((a,p) :: (a,p') :: r).lookup x = some z:=fun x z h => by
 simp only [List.lookup_cons] at h ⊢
 cases hx : x == a with
 | true => rw [hx] at h;exact h
 | false => rw [hx] at h;exact h
private theorem swap2 {α : Type} {a b : PySem.Str} {p q : α} {r : List (PySem.Str × α)} (hab : (a == b) = false) : ∀ x z,((a,p) :: (b,q) :: r).lookup x = some z → ((b,q) :: (a,p) :: r).lookup x = some z:=fun x z h => by
 simp only [List.lookup_cons] at h ⊢
 by_cases h1 : x = a
 ·subst h1
  rw [hab]
  simpa using h
 ·have : (x == a) = false:=by simpa using h1
  rw [this] at h ⊢
  simpa using h
private theorem w0o (a b : Nat) : ((a : Int).fdiv b = ((a / b : Nat) : Int)) ∧ ((a : Int).fmod b = ((a % b : Nat) : Int)):=by
 rw [Int.fdiv_eq_ediv_of_nonneg _ (Int.natCast_nonneg _),Int.fmod_eq_emod_of_nonneg _ (Int.natCast_nonneg _)]
 exact ⟨by push_cast;rfl,by push_cast;rfl⟩
private theorem bitsN {a m : Nat} (h : a < 2 ^ m) : Builtin.Int.intBits (a : Int) ≤ m:=by rw [intBits_le_iff];simpa using h
private theorem noPy {a : Int} {b m : Nat} (h : b < 2 ^ m) (hm : m ≤ 9000) : Builtin.divisionGoesByPylong a b = false:=by
 refine PyProof.noPylong_of_log2 ?_
 rw [Int.natAbs_natCast]
 by_cases hb : b = 0
 ·subst hb;decide +kernel
 ·have:=(Nat.log2_lt hb).mpr h
  with_reducible exact naa
private theorem div0n (hC : CfgOk P C) {a b n m : Nat} (hb : 0 < b) (hbm : b < 2 ^ m) (hm : m ≤ 9000) (hn : a < 2 ^ (n + 4000)) : FnOk prog w C a_div2 1 [.int a,.int b,.int n] (.tup [.int (a / b : Nat),.int (a % b : Nat)]):=by
 have h:=div0 (prog:=prog) (w:=w) hC (a:=a) (b:=b) (n:=n) (by lia) (noPy hbm hm) (by have:=bitsN hn;lia)
 rw [(w0o a b).1,(w0o a b).2] at h
 exact h
private theorem q9q {a b q r : Nat} (h : a = q * b + r) (hr : r < b) : q = a / b ∧ r = a % b:=by
 subst h
 constructor
 ·rw [Nat.mul_comm,Nat.mul_add_div (by lia),Nat.div_eq_of_lt hr];rfl
 ·rw [Nat.mul_comm,Nat.mul_add_mod,Nat.mod_eq_of_lt hr]
private theorem div3 (hC : CfgOk P C) {a12 a3 b b1 b2 n : Nat} (hb : b = b1 * 2 ^ n + b2) (h1 : 0 < b1) (hb1 : b1 < 2 ^ n) (h2 : b2 < 2 ^ n) (h3 : a3 < 2 ^ n) (ha : a12 * 2 ^ n + a3 < b * 2 ^ n) (hn : n ≤ 4000) :
  FnOk prog w C a_div3 2 [.int a12,.int a3,.int b,.int b1,.int b2,.int n] (.tup [.int ((a12 * 2 ^ n + a3) / b : Nat),.int ((a12 * 2 ^ n + a3) % b : Nat)]):=by
 have hbpos : 0 < b:=by rw [hb];have:=Nat.mul_pos h1 (Nat.two_pow_pos n);lia
 have hbb : b < 2 ^ (n + n):=by
  rw [hb,Nat.pow_add]
  have : (b1 + 1) * 2 ^ n ≤ 2 ^ n * 2 ^ n:=Nat.mul_le_mul_right _ hb1
  rw [Nat.add_mul] at this
  with_reducible exact ni6
 have ha12 : a12 < b:=by
  have : a12 * 2 ^ n < b * 2 ^ n:=by lia
  exact Nat.lt_of_mul_lt_mul_right this
 refine FnOk.of (names:=[⟨#[97,49,50]⟩,⟨#[97,51]⟩,⟨#[98]⟩,⟨#[98,49]⟩,⟨#[98,50]⟩,⟨#[110]⟩]) (w3f hC) (fun vs h => ?_) rfl rfl rfl rfl fun A mu L s s₁ r hL I => ?_
 ·obtain ⟨_,_,_,_,_,_,rfl⟩:=len6 h;rfl
 ·refine q1r fun KK hKK => ?_
  -- the estimate
  have est : ∀ {Q : Flow → Shared → Prop},(∀ q r : Nat,∀ s₂,(a12 = q * b1 + r) → (a12 * 2 ^ n + a3) / b ≤ q → q < 2 ^ (n + n + 1) → r < 2 ^ (n + n + 1) → In C (L :: mu) [L] (callEnv (w3b P) L a_div3) ((⟨#[114]⟩,.int r) :: (⟨#[113]⟩,.int q) :: ([(⟨#[97,49,50]⟩ : PySem.Str),⟨#[97,51]⟩,⟨#[98]⟩,⟨#[98,49]⟩,⟨#[98,50]⟩,⟨#[110]⟩].zip [PV.int a12,.int a3,.int b,.int b1,.int b2,.int n]).reverse) [] s s₂ → Q .next s₂) →
    wpAny (model prog w) A (exec ((z2e P).headD default) (callEnv (w3b P) L a_div3)) Q (fun _ _ => False) s₁:=fun {Q} K => by
   have hsh : (a12 : Int).fdiv (2 ^ (n : Int).toNat) = ((a12 / 2 ^ n : Nat) : Int):=by
    rw [Int.toNat_natCast,Int.fdiv_eq_ediv_of_nonneg _ (Int.le_of_lt (Int.pow_pos (by decide)))];push_cast;rfl
   have hdm:=Nat.div_add_mod a12 (2 ^ n)
   have hNb : (a12 * 2 ^ n + a3) / b < 2 ^ n:=Nat.div_lt_of_lt_mul ha
   by_cases hc : a12 / 2 ^ n = b1
   ·refine st_IfT I ((show (((a12 / 2 ^ n : Nat) : Int) == (b1 : Int)) = true by rw [hc];simp) ▸ hsh ▸ (by (repeat' walk_at "pe");lia)) fun s₂ I₂ => ?_
    have hle : b1 * 2 ^ n ≤ a12:=by rw [← hc];rw [Nat.mul_comm] at hdm;lia
    have e1 : (1 : Int) * 2 ^ (n : Int).toNat - 1 = ((2 ^ n - 1 : Nat) : Int):=by
     have : 1 ≤ 2 ^ n:=Nat.one_le_two_pow
     rw [Int.toNat_natCast,Int.one_mul]
     push_cast [this]
     rfl
    have e2 : (a12 : Int) - (b1 : Int) * 2 ^ (n : Int).toNat + b1 = ((a12 - b1 * 2 ^ n + b1 : Nat) : Int):=by
     rw [Int.toNat_natCast]
     push_cast [hle]
     rfl
    refine q0a (q9l (p:=.int (2 ^ n - 1 : Nat)) (q:=.int (a12 - b1 * 2 ^ n + b1 : Nat)) I₂ r.none (by walk_at "sto") (by walk_at "sto") (e1 ▸ e2 ▸ ?_) fun s₃ I₃ => ?_)
    ·refine wpAny_execs_nil (K (2 ^ n - 1) (a12 - b1 * 2 ^ n + b1) s₃ ?_ (by with_reducible exact ng4) ?_ ?_ (I₃.forget (swap2 (by decide)) fun _ _ h => h))
     ·have h0 : 1 ≤ 2 ^ n:=Nat.one_le_two_pow
      rw [Nat.sub_mul,Nat.one_mul,Nat.mul_comm (2 ^ n) b1]
      have : b1 ≤ b1 * 2 ^ n:=Nat.le_mul_of_pos_right _ h0
      with_reducible exact nf4
     ·have : 2 ^ n ≤ 2 ^ (n + n + 1):=Nat.pow_le_pow_right (by decide) (by lia)
      have:=Nat.two_pow_pos n
      with_reducible exact ng6
     ·have : 2 ^ (n + n + 1) = 2 ^ (n + n) + 2 ^ (n + n):=by rw [Nat.pow_succ];lia
      have : 2 ^ n ≤ 2 ^ (n + n):=Nat.pow_le_pow_right (by decide) (by lia)
      lia
    ·(repeat' walk_at "pe")
     ·lia
     ·rw [show Builtin.Int.intBits 1 = 1 by decide];lia
     ·lia
     ·have:=bitsN hb1;lia
   ·refine st_IfE I ((show (((a12 / 2 ^ n : Nat) : Int) == (b1 : Int)) = false by rw [beq_eq_false_iff_ne];lia) ▸ hsh ▸ (by (repeat' walk_at "pe");lia)) fun s₂ I₂ => ?_
    have hfn:=div0n (prog:=prog) (w:=w) (m:=n) (n:=n) hC h1 hb1 (by (with_reducible refine nad ?_;decide)) (Nat.lt_of_lt_of_le (Nat.lt_trans ha12 hbb) (Nat.pow_le_pow_right (by decide) (by lia)))
    refine q0a (q4f I₂ r.none (by walk_at "sto") (by walk_at "sto") (q1q (q0f (q0e hC rfl) rfl rfl) (by repeat' walk_at "pe") (q8y hC) hfn r (fun _ => rfl)) fun s₃ I₃ => ?_)
    have hdm1:=Nat.div_add_mod a12 b1
    have hml:=Nat.mod_lt a12 h1
    rw [Nat.mul_comm] at hdm1
    refine wpAny_execs_nil (K (a12 / b1) (a12 % b1) s₃ hdm1.symm ?_ ?_ ?_ I₃)
    ·apply Nat.le_of_lt_succ
     refine Nat.div_lt_of_lt_mul ?_
     have g1 : a12 + 1 ≤ (a12 / b1 + 1) * b1:=by rw [Nat.add_mul];lia
     have g2 : (a12 + 1) * 2 ^ n ≤ (a12 / b1 + 1) * b1 * 2 ^ n:=Nat.mul_le_mul_right _ g1
     have g3 : (a12 / b1 + 1) * b1 * 2 ^ n ≤ (a12 / b1 + 1) * b:=by rw [Nat.mul_assoc];exact Nat.mul_le_mul_left _ (by lia)
     rw [Nat.add_mul] at g2
     rw [Nat.mul_comm b]
     show _ < (a12 / b1 + 1) * b
     lia
    ·have:=Nat.div_le_self a12 b1
     have : 2 ^ (n + n + 1) = 2 ^ (n + n) + 2 ^ (n + n):=by rw [Nat.pow_succ];lia
     lia
    ·have : 2 ^ (n + n + 1) = 2 ^ (n + n) + 2 ^ (n + n):=by rw [Nat.pow_succ];lia
     have : 2 ^ n ≤ 2 ^ (n + n):=Nat.pow_le_pow_right (by decide) (by lia)
     lia
  refine q0a (est fun q r₀ s₂ hq hge hqb hrb I₂ => ?_)
  have hbq:=bitsN hqb
  have hbr:=bitsN hrb
  obtain ⟨N,hN⟩ : ∃ N,N = a12 * 2 ^ n + a3:=⟨_,rfl⟩
  rw [← hN] at hge hKK
  have hor:=w6v r₀ a3 n h3
  have hr1 : (Builtin.bitOr ((r₀ : Int) * 2 ^ (n : Int).toNat) (a3 : Int)) - (q : Int) * b2 = (N : Int) - q * b:=by
   rw [Int.toNat_natCast,hor,hN,hb,hq]
   push_cast
   rw [Int.mul_add,Int.add_mul,Int.mul_assoc]
   lia
  refine q0a (q0h I₂ (by walk_at "sto") (p:=.int ((N : Int) - q * b)) (hr1 ▸ ?_) fun s₃ I₃ => ?_)
  ·(repeat' walk_at "pe")
   ·lia
   ·lia
   ·exact IntMulOk.of_le (m:=n + n + 1) (n:=n) hbq (bitsN h2) (by lia)
  have I₃:=I₃.forget (ρ':=(⟨#[114]⟩,.int ((N : Int) - q * b)) :: (⟨#[113]⟩,.int q) :: ([(⟨#[97,49,50]⟩ : PySem.Str),⟨#[97,51]⟩,⟨#[98]⟩,⟨#[98,49]⟩,⟨#[98,50]⟩,⟨#[110]⟩].zip [PV.int a12,.int a3,.int b,.int b1,.int b2,.int n]).reverse) (σ':=[]) shadow1 (fun _ _ h => nomatch h)
  refine q0a (st_While (J:=fun k ρ => ∃ q : Nat,k = q ∧ N / b ≤ q ∧ ρ = (⟨#[114]⟩,.int ((N : Int) - q * b)) :: (⟨#[113]⟩,.int q) :: ([(⟨#[97,49,50]⟩ : PySem.Str),⟨#[97,51]⟩,⟨#[98]⟩,⟨#[98,49]⟩,⟨#[98,50]⟩,⟨#[110]⟩].zip [PV.int a12,.int a3,.int b,.int b1,.int b2,.int n]).reverse) ?_ q ⟨q,rfl,hge,rfl⟩ I₃)
  rintro k ρ s₄ ⟨q,rfl,hge,rfl⟩ I₄
  have hdm:=Nat.div_add_mod N b
  have hml:=Nat.mod_lt N hbpos
  refine ⟨decide ((N : Int) - k * b < 0),by repeat' walk_at "pe",fun ht E' s₅ I₅ => ?_,fun hf s₅ I₅ => ?_⟩
  ·refine q1r fun K' hK' => ?_
   have hlt : N < k * b:=by
    have:=of_decide_eq_true ht
    have e : ((k * b : Nat) : Int) = (k : Int) * b:=by push_cast;rfl
    lia
   have hk1 : N / b < k:=(Nat.div_lt_iff_lt_mul hbpos).mpr hlt
   have hk0 : 0 < k:=Nat.lt_of_le_of_lt (Nat.zero_le _) hk1
   have e1 : (k : Int) - 1 = ((k - 1 : Nat) : Int):=by lia
   refine q0a (q1p I₅ (.head _) rfl (by walk_at "pe") (e1 ▸ op_isub) fun s₆ I₆ => ?_)
   have e2 : (N : Int) - k * b + b = (N : Int) - ((k - 1 : Nat) : Int) * b:=by rw [← e1,Int.sub_mul];lia
   refine q0a (q1p I₆ (.head _) rfl (by walk_at "pe") (e2 ▸ z0j) fun s₇ I₇ => ?_)
   exact wpAny_execs_nil (hK' _ _ ⟨rfl,k - 1,_,Nat.sub_lt (Nat.lt_of_le_of_lt (Nat.zero_le _) hk1) (by decide),⟨k - 1,rfl,Nat.le_sub_one_of_lt hk1,rfl⟩,I₇.forget shadow2 fun _ _ h => h⟩)
  ·have hlt : k * b ≤ N:=by
    have:=of_decide_eq_false hf
    have e : ((k * b : Nat) : Int) = (k : Int) * b:=by push_cast;rfl
    lia
   have hk1 : k ≤ N / b:=(Nat.le_div_iff_mul_le hbpos).mpr hlt
   have hk : k = N / b:=Nat.le_antisymm hk1 hge
   have e2 : (N : Int) - k * b = ((N % b : Nat) : Int):=by
    rw [hk,Int.mul_comm]
    have e : ((b * (N / b) : Nat) : Int) = (b : Int) * ((N / b : Nat) : Int):=by push_cast;rfl
    lia
   rw [e2] at I₅
   rw [hk] at I₅
   refine q0a (q0q I₅ (p:=.tup [.int (N / b : Nat),.int (N % b : Nat)]) (by repeat' walk_at "pe") fun v s' I' y => hKK _ _ ⟨v,_,rfl,I',y⟩)
end
section
open PySem PySem.W PySem.Calls PyProof.Rows
variable {prog : Program} {w : World} {P : Params} {C : Cfg}
private theorem w2j (a n : Nat) : (a : Int).fdiv (2 ^ (n : Int).toNat) = ((a / 2 ^ n : Nat) : Int):=by
 rw [Int.toNat_natCast,Int.fdiv_eq_ediv_of_nonneg _ (Int.le_of_lt (Int.pow_pos (by decide)))];push_cast;rfl
private theorem w3i (a n : Nat) : Builtin.bitAnd (a : Int) ((2 ^ n - 1 : Nat) : Int) = ((a % 2 ^ n : Nat) : Int):=by
 have e : ((2 ^ n - 1 : Nat) : Int) = 2 ^ n - 1:=by
  have : 1 ≤ 2 ^ n:=Nat.one_le_two_pow
  push_cast [this];rfl
 rw [e,kbt_mask]
 push_cast
 rfl
private theorem z1m {a b h q1 r1 q2 r2 : Nat} (hb : 0 < b) (e1 : q1 = (a / 2 ^ (h + h) * 2 ^ h + a / 2 ^ h % 2 ^ h) / b) (e2 : r1 = (a / 2 ^ (h + h) * 2 ^ h + a / 2 ^ h % 2 ^ h) % b) (e3 : q2 = (r1 * 2 ^ h + a % 2 ^ h) / b) (e4 : r2 = (r1 * 2 ^ h + a % 2 ^ h) % b) :
  q1 * 2 ^ h + q2 = a / b ∧ r2 = a % b:=by
 have hh : a / 2 ^ (h + h) * 2 ^ h + a / 2 ^ h % 2 ^ h = a / 2 ^ h:=by
  rw [Nat.pow_add,← Nat.div_div_eq_div_mul]
  have:=Nat.div_add_mod (a / 2 ^ h) (2 ^ h)
  rw [Nat.mul_comm] at this
  exact this
 rw [hh] at e1 e2
 have h1:=Nat.div_add_mod (a / 2 ^ h) b
 have h2:=Nat.div_add_mod (r1 * 2 ^ h + a % 2 ^ h) b
 have h3:=Nat.div_add_mod a (2 ^ h)
 have hr2 : r2 < b:=e4 ▸ Nat.mod_lt _ hb
 rw [← e1,← e2] at h1
 rw [← e3,← e4] at h2
 refine q9q ?_ hr2
 have : a / 2 ^ h * 2 ^ h = (b * q1 + r1) * 2 ^ h:=by rw [h1]
 rw [Nat.add_mul] at this
 rw [Nat.mul_comm] at h3
 have e5 : (q1 * 2 ^ h + q2) * b = b * q1 * 2 ^ h + b * q2:=by rw [Nat.add_mul,Nat.mul_comm b q1,Nat.mul_comm b q2,Nat.mul_right_comm]
 lia
private theorem div2 (hC : CfgOk P C) {a b n : Nat} (hn2 : n ≤ 7000) (hb1 : 2 ^ (n - 1) ≤ b) (hb2 : b < 2 ^ n) (ha : a < b * 2 ^ n) : FnOk prog w C a_div2 3 [.int a,.int b,.int n] (.tup [.int (a / b : Nat),.int (a % b : Nat)]):=by
 have hb0 : 0 < b:=Nat.lt_of_lt_of_le (Nat.two_pow_pos _) hb1
 by_cases hsmall : Builtin.Int.intBits (a : Int) ≤ n + 4000
 ·have hh:=div0n (prog:=prog) (w:=w) (n:=n) (m:=n) hC hb0 hb2 (by (with_reducible refine nad ?_;decide)) (by have:=intBits_le_iff.mp hsmall;simpa using this)
  exact fun A mu r => hh A mu (r.mono (by lia))
 ·have hn : 2 ≤ n:=by
   have:=bitsN (a:=a) (m:=n + n) (by rw [Nat.pow_add];exact Nat.lt_trans ha (Nat.mul_lt_mul_of_pos_right hb2 (Nat.two_pow_pos n)))
   lia
  refine FnOk.of (names:=[⟨#[97]⟩,⟨#[98]⟩,⟨#[110]⟩]) (q8y hC) (fun vs h => ?_) rfl rfl rfl rfl fun A mu L s s₁ r hL I => ?_
  ·obtain ⟨_,_,_,rfl⟩:=len3 h;rfl
  ·obtain ⟨tl,hl⟩:=z1f hC
   refine q0a (st_IfN I ((show decide ((Builtin.Int.intBits (a : Int) : Int) - n ≤ 4000) = false by rw [decide_eq_false_iff_not];lia) ▸ (by repeat' walk_at "pe")) fun s₂ I₂ => ?_)
   have hpad : Builtin.bitAnd (n : Int) 1 = ((n % 2 : Nat) : Int):=by rw [bitAnd_m1];push_cast;rfl
   refine q0a (q0h I₂ (by walk_at "sto") (p:=.int (n % 2 : Nat)) (hpad ▸ (by repeat' walk_at "pe")) fun s₃ I₃ => ?_)
   -- the rest,of padded values
   have rest : ∀ (a' b' h : Nat) (ρ : List (PySem.Str × PV)) (s₄ : Shared),In C (L :: mu) [L] (callEnv (w0p P) L a_div2) ρ [] s s₄ → ρ.lookup ⟨#[97]⟩ = some (.int a') → ρ.lookup ⟨#[98]⟩ = some (.int b') → ρ.lookup ⟨#[110]⟩ = some (.int (h + h : Nat)) → ρ.lookup ⟨#[112,97,100]⟩ = some (.int (n % 2 : Nat)) →
     1 ≤ h → h ≤ 3600 → 2 ^ (h + h - 1) ≤ b' → b' < 2 ^ (h + h) → a' < b' * 2 ^ (h + h) → a' / b' = a / b → a' % b' / 2 ^ (n % 2) = a % b →
     wpAny (model prog w) A (execs ((z2f P).drop 3) (callEnv (w0p P) L a_div2)) (fun fl s' => ∃ v ρ',fl = .ret v ∧ In C (L :: mu) [L] (callEnv (w0p P) L a_div2) ρ' [] s s' ∧ Sim s'.heap (L :: mu) (.tup [.int (a / b : Nat),.int (a % b : Nat)]) v) (fun _ _ => False) s₄:=by
    intro a' b' h ρ s₄ I₄ la lb ln lp hh1 hh2 hb1' hb2' ha' hq hr
    refine q1r fun KK hKK => ?_
    have hb0' : 0 < b':=Nat.lt_of_lt_of_le (Nat.two_pow_pos _) hb1'
    have e1 : ((h + h : Nat) : Int).fdiv (2 ^ (1 : Int).toNat) = (h : Int):=by
     show ((h + h : Nat) : Int).fdiv 2 = _
     rw [Int.fdiv_eq_ediv_of_nonneg _ (by decide)];lia
    refine q0a (q0h I₄ (by walk_at "sto") (p:=.int h) (e1 ▸ (by (repeat' walk_at "pe");decide)) fun s₅ I₅ => ?_)
    have e2 : (1 : Int) * 2 ^ (h : Int).toNat - 1 = ((2 ^ h - 1 : Nat) : Int):=by
     have : 1 ≤ 2 ^ h:=Nat.one_le_two_pow
     rw [Int.toNat_natCast,Int.one_mul]
     push_cast [this]
     rfl
    refine q0a (q0h I₅ (by walk_at "sto") (p:=.int (2 ^ h - 1 : Nat)) (e2 ▸ (by
     (repeat' walk_at "pe")
     ·lia
     ·rw [show Builtin.Int.intBits 1 = 1 by decide];lia)) fun s₆ I₆ => ?_)
    refine q0a (q9l (p:=.int (b' / 2 ^ h : Nat)) (q:=.int (b' % 2 ^ h : Nat)) I₆ r.none (by walk_at "sto") (by walk_at "sto") (w2j b' h ▸ w3i b' h ▸ ?_) fun s₇ I₇ => ?_)
    rotate_left
    ·(repeat' walk_at "pe")
     all_goals lia
    have hbd:=Nat.div_add_mod b' (2 ^ h)
    rw [Nat.mul_comm] at hbd
    have hbml:=Nat.mod_lt b' (Nat.two_pow_pos h)
    have hbh : b' / 2 ^ h < 2 ^ h:=Nat.div_lt_of_lt_mul (by rw [← Nat.pow_add];exact hb2')
    have hbp : 0 < b' / 2 ^ h:=Nat.div_pos (Nat.le_trans (Nat.pow_le_pow_right (by decide) (by with_reducible exact ni5)) hb1') (Nat.two_pow_pos h)
    have h12 : a' / 2 ^ (h + h) * 2 ^ h + a' / 2 ^ h % 2 ^ h = a' / 2 ^ h:=by
     rw [Nat.pow_add,← Nat.div_div_eq_div_mul]
     have:=Nat.div_add_mod (a' / 2 ^ h) (2 ^ h)
     rw [Nat.mul_comm] at this
     exact this
    have ha12 : a' / 2 ^ (h + h) * 2 ^ h + a' / 2 ^ h % 2 ^ h < b' * 2 ^ h:=by
     rw [h12]
     refine Nat.div_lt_of_lt_mul ?_
     rw [Nat.pow_add] at ha'
     rw [Nat.mul_comm (2 ^ h),Nat.mul_assoc]
     exact ha'
    have f1:=div3 (prog:=prog) (w:=w) hC hbd.symm hbp hbh hbml (Nat.mod_lt _ (Nat.two_pow_pos h)) ha12 (by (with_reducible refine nad ?_;decide))
    refine q0a (q4f I₇ r.none (by walk_at "sto") (by walk_at "sto") (q1q (ps:=[.int (a' / 2 ^ (h + h) : Nat),.int (a' / 2 ^ h % 2 ^ h : Nat),.int b',.int (b' / 2 ^ h : Nat),.int (b' % 2 ^ h : Nat),.int h]) (q0f (q0e hC rfl) rfl rfl) ?_ (w3f hC) f1 r (fun _ => rfl)) fun s₈ I₈ => ?_)
    ·rw [← w3i (a' / 2 ^ h) h,← w2j a' (h + h),← w2j a' h]
     (repeat' walk_at "pe")
     all_goals lia
    obtain ⟨q1,hq1⟩ : ∃ q,q = (a' / 2 ^ (h + h) * 2 ^ h + a' / 2 ^ h % 2 ^ h) / b':=⟨_,rfl⟩
    obtain ⟨r1,hr1⟩ : ∃ q,q = (a' / 2 ^ (h + h) * 2 ^ h + a' / 2 ^ h % 2 ^ h) % b':=⟨_,rfl⟩
    rw [← hq1,← hr1] at I₈
    have hr1b : r1 < b':=hr1 ▸ Nat.mod_lt _ hb0'
    have ha3 : r1 * 2 ^ h + a' % 2 ^ h < b' * 2 ^ h:=by
     have : (r1 + 1) * 2 ^ h ≤ b' * 2 ^ h:=Nat.mul_le_mul_right _ hr1b
     have:=Nat.mod_lt a' (Nat.two_pow_pos h)
     rw [Nat.add_mul] at *
     with_reducible exact ni6
    have f2:=div3 (prog:=prog) (w:=w) hC hbd.symm hbp hbh hbml (Nat.mod_lt a' (Nat.two_pow_pos h)) ha3 (by (with_reducible refine nad ?_;decide))
    refine q0a (q4f I₈ r.none (by walk_at "sto") (by walk_at "sto") (q1q (ps:=[.int r1,.int (a' % 2 ^ h : Nat),.int b',.int (b' / 2 ^ h : Nat),.int (b' % 2 ^ h : Nat),.int h]) (q0f (q0e hC rfl) rfl rfl) ?_ (w3f hC) f2 r (fun _ => rfl)) fun s₉ I₉ => ?_)
    ·rw [← w3i a' h]
     (repeat' walk_at "pe")
    obtain ⟨q2,hq2⟩ : ∃ q,q = (r1 * 2 ^ h + a' % 2 ^ h) / b':=⟨_,rfl⟩
    obtain ⟨r2,hr2⟩ : ∃ q,q = (r1 * 2 ^ h + a' % 2 ^ h) % b':=⟨_,rfl⟩
    rw [← hq2,← hr2] at I₉
    obtain ⟨g1,g2⟩:=z1m hb0' hq1 hr1 hq2 hr2
    rw [hq] at g1
    rw [← g2] at hr
    have hq2b : q2 < 2 ^ h:=hq2 ▸ Nat.div_lt_of_lt_mul ha3
    have hq1b : q1 < 2 ^ h:=hq1 ▸ Nat.div_lt_of_lt_mul ha12
    have hor : Builtin.bitOr ((q1 : Int) * 2 ^ (h : Int).toNat) (q2 : Int) = ((a / b : Nat) : Int):=by rw [Int.toNat_natCast,w6v _ _ _ hq2b,g1]
    have hbits:=bitsN hq1b
    rcases Nat.mod_two_eq_zero_or_one n with h0 | h0
    ·rw [h0] at lp hr
     have hr : r2 = a % b:=by simpa using hr
     rw [hr] at I₉
     refine q0a (st_IfN I₉ (q1b (p:=.int (0 : Nat)) (b:=((0 : Nat) : Int) != 0) (by walk_at "pe") q1t fun _ => rfl) fun s₁₀ I₁₀ => ?_)
     refine q0a (q0q I₁₀ (p:=.tup [.int (a / b : Nat),.int (a % b : Nat)]) (hor ▸ ?_) fun v s' I' y => hKK _ _ ⟨v,_,rfl,I',y⟩)
     (repeat' walk_at "pe")
     all_goals lia
    ·rw [h0] at lp hr
     have e3 : ((r2 : Nat) : Int).fdiv (2 ^ (1 : Int).toNat) = ((a % b : Nat) : Int):=by rw [← hr];exact w2j r2 1
     refine q0a (st_IfT I₉ (q1b (p:=.int (1 : Nat)) (b:=((1 : Nat) : Int) != 0) (by walk_at "pe") q1t fun _ => rfl) fun s₁₀ I₁₀ => ?_)
     refine q0a (q1p I₁₀ (.head _) rfl (by walk_at "pe") (e3 ▸ op_ishr (by decide)) fun s₁₁ I₁₁ => ?_)
     refine wpAny_execs_nil ?_
     refine q0a (q0q I₁₁ (p:=.tup [.int (a / b : Nat),.int (a % b : Nat)]) (hor ▸ ?_) fun v s' I' y => hKK _ _ ⟨v,_,rfl,I',y⟩)
     (repeat' walk_at "pe")
     all_goals lia
   rcases Nat.mod_two_eq_zero_or_one n with h0 | h0
   ·rw [h0] at I₃
    obtain ⟨h,rfl⟩ : ∃ h,n = h + h:=⟨n / 2,by lia⟩
    refine q0a (st_IfN I₃ (q1b (p:=.int (0 : Nat)) (b:=((0 : Nat) : Int) != 0) (by walk_at "pe") q1t fun _ => rfl) fun s₄ I₄ => ?_)
    exact rest a b h _ _ I₄ rfl rfl rfl (by rw [h0];rfl) (by lia) (by lia) hb1 hb2 ha rfl (by rw [h0];simp)
   ·rw [h0] at I₃
    obtain ⟨h,hh⟩ : ∃ h,n + 1 = h + h:=⟨(n + 1) / 2,by lia⟩
    have hbb:=bitsN hb2
    have hab:=bitsN (a:=a) (m:=n + n) (by rw [Nat.pow_add];exact Nat.lt_trans ha (Nat.mul_lt_mul_of_pos_right hb2 (Nat.two_pow_pos n)))
    refine q0a (st_IfT I₃ (q1b (p:=.int (1 : Nat)) (b:=((1 : Nat) : Int) != 0) (by walk_at "pe") q1t fun _ => rfl) fun s₄ I₄ => ?_)
    have e1 : (a : Int) * 2 ^ (1 : Int).toNat = ((a * 2 : Nat) : Int):=by push_cast;rfl
    have e2 : (b : Int) * 2 ^ (1 : Int).toNat = ((b * 2 : Nat) : Int):=by push_cast;rfl
    have e3 : (n : Int) + 1 = ((h + h : Nat) : Int):=by lia
    refine q0a (q1p I₄ (.head _) rfl (by walk_at "pe") (e1 ▸ z0h (by decide) (by lia)) fun s₅ I₅ => ?_)
    refine q0a (q1p I₅ (.head _) rfl (by walk_at "pe") (e2 ▸ z0h (by decide) (by lia)) fun s₆ I₆ => ?_)
    refine q0a (q1p I₆ (.head _) rfl (by walk_at "pe") (e3 ▸ z0j) fun s₇ I₇ => ?_)
    refine wpAny_execs_nil ?_
    have p1 : 2 ^ (h + h) = 2 ^ n * 2:=by rw [← hh,Nat.pow_succ]
    have p2 : 2 ^ (h + h - 1) = 2 ^ (n - 1) * 2:=by rw [← Nat.pow_succ];congr 1;with_reducible exact nd1
    refine rest (a * 2) (b * 2) h _ _ I₇ rfl rfl rfl (by rw [h0];rfl) (by lia) (by lia) (by rw [p2];lia) (by rw [p1];lia) ?_ ?_ ?_
    ·rw [p1]
     have : a * 2 < b * 2 ^ n * 2:=by lia
     calc a * 2 < b * 2 ^ n * 2:=this
      _ ≤ b * 2 ^ n * 2 * 2:=by lia
      _ = b * 2 * (2 ^ n * 2):=by rw [Nat.mul_right_comm b,Nat.mul_assoc (b * 2)]
    ·exact Nat.mul_div_mul_right a b (by decide)
    ·rw [h0,Nat.mul_mod_mul_right]
     simp
end
section
open PySem PySem.W PySem.Calls PyProof.Rows
variable {prog : Program} {w : World} {P : Params} {C : Cfg}
noncomputable def nval (n : Nat) : List Nat → Nat
 | [] => 0
 | d :: l => d + nval n l * 2 ^ n
private theorem w0b (n : Nat) : ∀ l : List Nat,dval n (l.map fun (x : Nat) => (x : Int)) = nval n l
 | [] => rfl
 | d :: l => by simp only [List.map_cons,dval,nval,w0b n l];push_cast;rfl
private theorem z0m (n m x : Nat) (h : x < 2 ^ (n * m)) : nval n (digs n x m) = x:=by
 have h1:=w4q n m x h
 have h2:=w0b n (digs n x m)
 have e : (digs n x m).map Int.ofNat = (digs n x m).map fun (x : Nat) => (x : Int):=rfl
 rw [e,h2] at h1
 exact_mod_cast h1
private theorem dpos (hC : CfgOk P C) {a b k : Nat} (hb : 0 < b) (hbb : Builtin.Int.intBits (b : Int) ≤ 7000) (ha : Builtin.Int.intBits (a : Int) ≤ 2 ^ 19) (hk : ndig a (Builtin.Int.intBits (b : Int)) ≤ 2 ^ k) : FnOk prog w C a_dpos (k + 4) [.int a,.int b] (.tup [.int (a / b : Nat),.int (a % b : Nat)]):=by
 obtain ⟨n,hn⟩ : ∃ n,n = Builtin.Int.intBits (b : Int):=⟨_,rfl⟩
 rw [← hn] at hbb hk
 have hb2 : b < 2 ^ n:=by have:=intBits_le_iff.mp (Nat.le_of_eq hn.symm);simpa using this
 have hn1 : 1 ≤ n:=by
  rcases Nat.eq_zero_or_pos n with h | h
  ·rw [h] at hb2;simp at hb2;lia
  ·exact h
 have hb1 : 2 ^ (n - 1) ≤ b:=by
  apply Nat.le_of_not_lt
  intro h
  have:=bitsN h
  lia
 obtain ⟨m,hm⟩ : ∃ m,m = ndig a n:=⟨_,rfl⟩
 have hnm : n * ndig a n ≤ Builtin.Int.intBits (a : Int) + n - 1:=by unfold ndig;exact Nat.mul_div_le _ _
 have hm2 : ndig a n ≤ Builtin.Int.intBits (a : Int):=by
  unfold ndig
  rw [Nat.div_le_iff_le_mul_add_pred hn1]
  have:=Nat.le_mul_of_pos_left (Builtin.Int.intBits (a : Int)) hn1
  with_reducible exact nf8
 have hab : a < 2 ^ (n * ndig a n):=by
  have h1 : Builtin.Int.intBits (a : Int) ≤ n * ndig a n:=by
   unfold ndig
   have:=Nat.lt_mul_div_succ (Builtin.Int.intBits (a : Int) + n - 1) hn1
   rw [Nat.mul_add] at this
   with_reducible exact ng3
  have h2:=intBits_le_iff.mp h1
  simpa using h2
 have fi:=i2d (prog:=prog) (w:=w) hC hn1 (by (with_reducible refine nad ?_;decide)) ha hk
 rw [← hm] at hnm hm2 hab fi hk
 obtain ⟨D,hD⟩ : ∃ D,D = digs n a m:=⟨_,rfl⟩
 have hDl : D.length = m:=hD ▸ q3t n m a
 have hDv : nval n D = a:=hD ▸ z0m n m a hab
 have hDb : ∀ d ∈ D,d < 2 ^ n:=fun d h => z1n n m a d (hD ▸ h)
 rw [← hD] at fi
 refine FnOk.of (names:=[⟨#[97]⟩,⟨#[98]⟩]) (w7h hC) (fun vs h => ?_) rfl rfl rfl rfl fun A mu L s s₁ r hL I => ?_
 ·obtain ⟨_,_,rfl⟩:=len2 h;rfl
 ·refine q1r fun KK hKK => ?_
  refine q0a (q0h I (by walk_at "sto") (p:=.int n) (hn ▸ (by repeat' walk_at "pe")) fun s₂ I₂ => ?_)
  refine q0a (q0h I₂ (by walk_at "sto") (q1q (ps:=[.int a,.int n]) (q0f (q0e hC rfl) rfl rfl) (by repeat' walk_at "pe") (z1p hC) fi (r.mono (by lia)) (fun _ => rfl)) fun s₃ I₃ => ?_)
  refine q0a (q0h I₃ (by walk_at "sto") (p:=.int (0 : Nat)) (by repeat' walk_at "pe") fun s₄ I₄ => ?_)
  refine q0a (w7y (l:=[]) I₄ (.head _) (q6w (by repeat' walk_at "pe") (Nat.le_of_ble_eq_true rfl)) fun d s₅ hd hdm I₅ => ?_)
  -- the loop
  refine q0a (q3m (l:=(pvd D).reverse) I₅ r.none (w2y r.none (q0f (q0e hC rfl) rfl rfl) (by walk_at "pe") (fun _ => rfl))
   (J:=fun i ρ σ => ∃ (qs : List Nat) (r : Nat),qs.length = i ∧ r < b ∧ (∀ q ∈ qs,q < 2 ^ n) ∧ nval n (D.reverse.take i).reverse = nval n qs.reverse * b + r ∧
    ρ.lookup ⟨#[98]⟩ = some (.int b) ∧ ρ.lookup ⟨#[110]⟩ = some (.int n) ∧ ρ.lookup ⟨#[114]⟩ = some (.int r) ∧ ρ.lookup ⟨#[113,95,100,105,103,105,116,115]⟩ = some (.val (.ref d)) ∧ σ.lookup d = some (Mlst (pvd qs)))
   (B:=fun _ _ _ _ => False) ?_ ?_ ?_ fun _ _ _ _ h _ => h.elim)
  ·exact ⟨[],0,rfl,hb,fun _ h => (nomatch h),by simp [nval],rfl,rfl,rfl,rfl,lk0⟩
  ·intro i p v ρ σ s₆ hp hJ I₆ y
   refine q2a I₆ (by walk_at "sto") y fun s₇ I₇ => ?_
   refine q1r fun K' hK' => ?_
   clear I₆ y
   obtain ⟨qs,r₀,hql,hr0,hqb,hval,lb,ln,lr,lq,ld⟩:=hJ
   have hrev : (pvd D).reverse = pvd D.reverse:=by simp [pvd]
   rw [hrev] at hp
   obtain ⟨dg,hdg,rfl⟩ : ∃ dg,D.reverse[i]? = some dg ∧ p = .int dg:=by
    simp only [pvd,List.getElem?_map,Option.map_eq_some_iff] at hp
    obtain ⟨dg,h1,h2⟩:=hp
    exact ⟨dg,h1,h2.symm⟩
   have hdgb : dg < 2 ^ n:=hDb dg (List.mem_reverse.mp (List.mem_of_getElem? hdg))
   have hlt : r₀ * 2 ^ n + dg < b * 2 ^ n:=by
    have : (r₀ + 1) * 2 ^ n ≤ b * 2 ^ n:=Nat.mul_le_mul_right _ hr0
    rw [Nat.add_mul] at this
    with_reducible exact ni6
   have f2:=div2 (prog:=prog) (w:=w) hC (n:=n) (by assumption) hb1 hb2 hlt
   have e1 : (r₀ : Int) * 2 ^ (n : Int).toNat + (dg : Int) = ((r₀ * 2 ^ n + dg : Nat) : Int):=by rw [Int.toNat_natCast];push_cast;rfl
   have hbr:=bitsN (Nat.lt_trans hr0 hb2)
   refine q0a (q4f I₇ r.none (by walk_at "sto") (by walk_at "sto") (q1q (ps:=[.int (r₀ * 2 ^ n + dg : Nat),.int b,.int n]) (q0f (q0e hC rfl) rfl rfl) (e1 ▸ ?_) (q8y hC) f2 (r.mono (by lia)) (fun _ => rfl)) fun s₈ I₈ => ?_)
   rotate_left
   ·(repeat' walk_at "pe")
    all_goals lia
   refine q0a (q4z (a:=d) (l:=pvd qs) (p:=.int ((r₀ * 2 ^ n + dg) / b : Nat)) I₈ ld (.head _) (by walk_at "pe") (by repeat' walk_at "pe") ?_ (fun s₉ I₉ => ?_) (by decide +kernel))
   ·simp only [pvd,List.length_map,hql]
    have hi : i < D.reverse.length:=by
     have:=List.getElem?_eq_some_iff.mp hdg
     exact this.1
    rw [List.length_reverse,hDl] at hi
    have : sizeLine = 2 ^ 24:=by decide +kernel
    lia
   refine wpAny_execs_nil (hK' _ _ ⟨_,_,I₉,qs ++ [(r₀ * 2 ^ n + dg) / b],(r₀ * 2 ^ n + dg) % b,by simp [hql],Nat.mod_lt _ hb,fun q hq => ?_,?_,lb,ln,rfl,lq,?_⟩)
   ·rcases List.mem_append.mp hq with hq | hq
    ·exact hqb q hq
    ·simp at hq
     subst hq
     exact Nat.div_lt_of_lt_mul hlt
   ·rw [List.take_add_one,hdg]
    simp only [Option.toList_some,List.reverse_append,List.reverse_cons,List.reverse_nil,List.nil_append,List.singleton_append,nval]
    rw [hval]
    have h3:=Nat.div_add_mod (r₀ * 2 ^ n + dg) b
    rw [Nat.add_mul,Nat.add_mul,Nat.mul_comm ((r₀ * 2 ^ n + dg) / b) b,Nat.mul_right_comm]
    lia
   ·rw [show pvd (qs ++ [(r₀ * 2 ^ n + dg) / b]) = pvd qs ++ [.int ((r₀ * 2 ^ n + dg) / b : Nat)] from List.map_append]
    exact lk0
  ·rintro ρ σ s₆ ⟨qs,r₀,hql,hr0,hqb,hval,lb,ln,lr,lq,ld⟩ I₆
   refine wpAny_execs_nil ?_
   have hql : qs.length = m:=by rw [hql];simp [pvd,hDl]
   have hval : a = nval n qs.reverse * b + r₀:=by
    rw [← hval,List.take_of_length_le (by simp [pvd]),List.reverse_reverse,hDv]
   obtain ⟨u1,u2⟩:=q9q hval hr0
   have hsl : sizeLine = 2 ^ 24:=by decide +kernel
   refine q0a (w7x (a:=d) (l:=pvd qs) I₆ ld (.head _) (by walk_at "pe") (by simp [pvd,hql];lia) (fun s₇ I₇ => ?_) (by decide +kernel))
   have hrev : (pvd qs).reverse = (qs.reverse.map fun (x : Nat) => (x : Int)).map PV.int:=by simp [pvd]
   rw [hrev] at I₇
   -- the list changes no more
   have I₈:=I₇.freeze (x:=⟨#[113,95,100,105,103,105,116,115]⟩) (σ':=[]) hd hdm lk0 lq (fun _ _ e => nomatch e) (fun a h => by simp at h;subst h;exact .head _)
   have fd:=d2i (prog:=prog) (w:=w) hC (l:=qs.reverse.map fun (x : Nat) => (x : Int)) (n:=n) (k:=k) (fun z hz => by
    obtain ⟨q,hq,rfl⟩:=List.mem_map.mp hz
    have:=hqb q (List.mem_reverse.mp hq)
    exact ⟨by lia,by exact_mod_cast this⟩) (by simp [hql];(with_reducible refine nd4 ?_;decide)) (by simp [hql];lia) (by (with_reducible refine nad ?_;decide)) (by simp [hql];exact hk)
   rw [w0b] at fd
   refine q0a (q0h I₈ (by walk_at "sto") (q1q (ps:=[.lst ((qs.reverse.map fun (x : Nat) => (x : Int)).map PV.int),.int n]) (q0f (q0e hC rfl) rfl rfl) (by repeat' walk_at "pe") (z1q hC) fd (r.mono (by lia)) (fun _ => rfl)) fun s₉ I₉ => ?_)
   rw [u1] at I₉
   rw [u2] at lr
   refine q0a (q0q I₉ (p:=.tup [.int (a / b : Nat),.int (a % b : Nat)]) ?_ fun v s' I' y => hKK _ _ ⟨v,_,rfl,I',y⟩)
   repeat' walk_at "pe"
end
section
open PySem PySem.W PySem.Calls PyProof.Rows
variable {prog : Program} {w : World} {P : Params} {C : Cfg}
private theorem idm (hC : CfgOk P C) {a b k : Nat} (hb : 0 < b) (hbb : Builtin.Int.intBits (b : Int) ≤ 7000) (ha : Builtin.Int.intBits (a : Int) ≤ 2 ^ 19) (hk : ndig a (Builtin.Int.intBits (b : Int)) ≤ 2 ^ k) : FnOk prog w C a_idm (k + 5) [.int a,.int b] (.tup [.int (a / b : Nat),.int (a % b : Nat)]):=by
 have fp:=dpos (prog:=prog) (w:=w) hC hb hbb ha hk
 refine FnOk.of (names:=[⟨#[97]⟩,⟨#[98]⟩]) (z1o hC) (fun vs h => ?_) rfl rfl rfl rfl fun A mu L s s₁ r hL I => ?_
 ·obtain ⟨_,_,rfl⟩:=len2 h;rfl
 ·refine q0a (st_IfE I ((show ((b : Int) == 0) = false by rw [beq_eq_false_iff_ne];lia) ▸ (by repeat' walk_at "pe")) fun s₂ I₂ => ?_)
  refine q0a (st_IfE I₂ ((show decide ((b : Int) < 0) = false by rw [decide_eq_false_iff_not];lia) ▸ (by repeat' walk_at "pe")) fun s₃ I₃ => ?_)
  refine q0a (st_IfE I₃ ((show decide ((a : Int) < 0) = false by rw [decide_eq_false_iff_not];lia) ▸ (by repeat' walk_at "pe")) fun s₄ I₄ => ?_)
  exact q0a (q0q I₄ (q1q (ps:=[.int a,.int b]) (q0f (q0e hC rfl) rfl rfl) (by repeat' walk_at "pe") (w7h hC) fp r (fun _ => rfl)) fun v s' I' y => ⟨v,_,rfl,I',y⟩)
end
section
open PySem PySem.W PySem.Calls PyProof.Rows
variable {prog : Program} {w : World} {P : Params} {C : Cfg}
open PySem.Builtin.Re
noncomputable abbrev PatK (C : Cfg) (a : Addr) (code : Array Nat) : Prop:=∀ h,C.K.In h → PatAt h a code
private theorem pat1 (hC : CfgOk P C) : PatK C a_re1 c1:=fun h X => ⟨Mine.hd.zo_249 P,_,245,Mine.hd.zo_248 P,_,_,_,_,_,_,X _ _ (by rw [hC.K];kernel_rfl),by kernel_rfl,rfl,rfl,rfl,rfl,rfl,rfl,rfl,X _ _ (by rw [hC.K];kernel_rfl),by kernel_rfl,rfl,by kernel_rfl⟩
private theorem pat2 (hC : CfgOk P C) : PatK C a_re2 c2:=fun h X => ⟨Mine.hd.zo_251 P,_,250,Mine.hd.zo_250 P,_,_,_,_,_,_,X _ _ (by rw [hC.K];kernel_rfl),by kernel_rfl,rfl,rfl,rfl,rfl,rfl,rfl,rfl,X _ _ (by rw [hC.K];kernel_rfl),by kernel_rfl,rfl,by kernel_rfl⟩
section
variable {mu : List Addr} {A : Around} {s : Shared}
private theorem w6x {a : Addr} {code : Array Nat} {name : PySem.Str} (h : PatK C a code) (hn : name = PySem.Str.ofString "sub") : Meth prog w C mu A (.val (.ref a)) name "re.Pattern.sub":=fun pl s v Q E O hv k => by
 cases (show v = .ref a from hv)
 subst hn
 obtain ⟨o,_,_,_,_,_,_,_,_,_,h1,h2,h3,_⟩:=h _ O.K
 exact getMethod_builtin ⟨o,h1,h2⟩ w1f q5b w3k (fun b e => by cases e;exact ⟨o,h1,h3⟩) k
private theorem op_crlf {a : Addr} {x : PySem.Str} (h : PatK C a c2) (hsz : x.cps.size ≤ 40000) : OpL prog w C mu A (fun vs => call (.builtin "re.Pattern.sub") vs) [.val (.ref a),.str ⟨#[13,10]⟩,.str x] (.str (crlfS x)):=fun s vs O hy => by
 obtain ⟨v,r,rfl,hv,v₂,r₂,rfl,⟨t₂,rfl⟩,v₃,r₃,rfl,⟨t₃,rfl⟩,hr⟩:=hy
 cases (show r₃ = [] from hr)
 cases (show v = .ref a from hv)
 intro Q E k
 refine sub_wp (next:=nextNl x.cps) (len:=nlLen x.cps) (by (with_reducible refine nad ?_;decide)) (by decide) (by decide +kernel) (fun p hp => ?_) (fun p q hp hq => ?_) (h _ O.K) fun h' tk t' hk => ?_
 ·obtain ⟨m',g,r⟩:=search2 x.cps p hp
  exact ⟨m',45,by decide,g,r⟩
 ·obtain ⟨h1,h2,h3⟩:=q3p _ p rfl hq
  have : (nlLen x.cps q = 2 ∧ q + 1 < x.cps.size) ∨ nlLen x.cps q = 1:=by
   unfold nlLen
   by_cases hc : (x.cps.getD q 0 == 13 && (decide (q + 1 < x.cps.size) && x.cps.getD (q + 1) 0 == 10)) = true
   ·rw [if_pos hc]
    simp only [Bool.and_eq_true,decide_eq_true_eq] at hc
    exact .inl ⟨rfl,hc.2.1⟩
   ·rw [if_neg hc]
    exact .inr rfl
  rcases this with ⟨e,h4⟩ | e <;> rw [e] <;> lia
 ·rw [w3o]
  exact k _ _ (O.keep hk) (Kp.of_keep hk) ⟨t',rfl⟩
private theorem op_dots {a : Addr} {x : PySem.Str} (h : PatK C a c1) (hsz : x.cps.size ≤ 100000) : OpL prog w C mu A (fun vs => call (.builtin "re.Pattern.sub") vs) [.val (.ref a),.str ⟨#[46,46]⟩,.str x] (.str ⟨(dotted true x.cps.toList).toArray⟩):=fun s vs O hy => by
 obtain ⟨v,r,rfl,hv,v₂,r₂,rfl,⟨t₂,rfl⟩,v₃,r₃,rfl,⟨t₃,rfl⟩,hr⟩:=hy
 cases (show r₃ = [] from hr)
 cases (show v = .ref a from hv)
 intro Q E k
 refine sub_wp (next:=q0x x.cps) (len:=fun _ => 1) hsz (by decide) (by decide +kernel) (fun p hp => ?_) (fun p q hp hq => ?_) (h _ O.K) fun h' tk t' hk => ?_
 ·obtain ⟨m',g,r⟩:=search1 x.cps (by (with_reducible refine nae ?_;decide)) p hp
  exact ⟨m',5 * x.cps.size + 5,by lia,g,r⟩
 ·obtain ⟨h1,h2,h3⟩:=q3x _ p rfl hq
  lia
 ·rw [w5e]
  exact k _ _ (O.keep hk) (Kp.of_keep hk) ⟨t',rfl⟩
end
private theorem w9y (hC : CfgOk P C) {x : PySem.Str} (hsz : x.cps.size ≤ 40000) : FnOk prog w C w6l 1 [.str x] (.str (quoteS x)):=by
 refine FnOk.of (names:=[⟨#[100,97,116,97]⟩]) (w4r hC) (fun vs h => ?_) rfl rfl rfl rfl fun A mu L s s₁ r hL I => ?_
 ·obtain ⟨_,rfl⟩:=len1 h;rfl
 ·obtain ⟨tc,hc⟩:=g_crlf hC
  refine q0a (q0q I (p:=.str (quoteS x)) (w9z x ▸ ?_) fun v s' I' y => ⟨v,_,rfl,I',y⟩)
  refine q6u (ps:=[.str ⟨#[46,46]⟩,.str (crlfS x)]) (q0f (q0e hC rfl) rfl rfl) (w6x (pat1 hC) (by decide +kernel)) ?_ (op_dots (pat1 hC) ?_)
  ·refine q0c (by walk_at "pe") (q0c ?_ q0g fun _ => rfl) fun _ => rfl
   refine q6u (ps:=[.str ⟨#[13,10]⟩,.str x]) (q0f (q0e hC rfl) rfl rfl) (w6x (pat2 hC) (by decide +kernel)) ?_ (op_crlf (pat2 hC) hsz)
   repeat' walk_at "pe"
  ·show (crlf x.cps.toList).toArray.size ≤ 100000
   have:=w6c x.cps.toList
   have e : (crlf x.cps.toList).toArray.size = (crlf x.cps.toList).length:=List.size_toArray
   have e2 : x.cps.toList.length = x.cps.size:=Array.length_toList
   rw [e]
   lia
end
section
open PySem PySem.W PySem.Calls PyProof.Rows
set_option maxHeartbeats 4000000
variable {prog : Program} {w : World} {P : Params} {C : Cfg}
noncomputable abbrev w0c : PySem.Str:=⟨#[115,99,114,105,112,116]⟩
noncomputable abbrev nm_k : PySem.Str:=⟨#[107]⟩
noncomputable abbrev q2o : PySem.Str:=⟨#[110,117,109,98,101,114,115]⟩
noncomputable abbrev q3a : PySem.Str:=⟨#[119,111,114,100,115]⟩
noncomputable abbrev q5q : PySem.Str:=⟨#[119,105,100,116,104]⟩
noncomputable abbrev w5n : PySem.Str:=⟨#[98,97,115,101]⟩
noncomputable abbrev q3w : PySem.Str:=⟨#[97,112,97,114,116]⟩
noncomputable abbrev w2s : PySem.Str:=⟨#[109,97,105,108]⟩
noncomputable abbrev w0d : PySem.Str:=⟨#[114,111,119,115]⟩
noncomputable abbrev nm_shut : PySem.Str:=⟨#[115,104,117,116]⟩
noncomputable abbrev w0f : PySem.Str:=⟨#[100,111,116,115]⟩
noncomputable abbrev q8x : PySem.Str:=⟨#[102,105,114,115,116]⟩
noncomputable abbrev q4h : PySem.Str:=⟨#[98,101,103,105,110,115]⟩
noncomputable abbrev q1u : PySem.Str:=⟨#[104,101,97,112,115]⟩
noncomputable abbrev w0e : PySem.Str:=⟨#[112,97,114,116,101,100]⟩
noncomputable abbrev w2r : PySem.Str:=⟨#[109,111,114,101]⟩
noncomputable abbrev nm_m : PySem.Str:=⟨#[109]⟩
noncomputable abbrev q3b : PySem.Str:=⟨#[118,97,108,117,101]⟩
noncomputable abbrev nm_size : PySem.Str:=⟨#[115,105,122,101]⟩
noncomputable abbrev nm_rest : PySem.Str:=⟨#[114,101,115,116]⟩
noncomputable abbrev nm_i : PySem.Str:=⟨#[105]⟩
section
variable {mu mu' nu : List Addr} {s₀ s s' : Shared} {env : Env} {ρ : List (PySem.Str × PV)} {σ σ' : List (Addr × MO)} {A : Around} {E : Value → Shared → Prop}
noncomputable abbrev lawEnv (P : Params) (L : Addr) : Env:=callEnvC (fd_law P) L a_law
noncomputable abbrev lawSt (P : Params) (i : Nat) : Stmt:=((bd_law P)[i]?).getD default
private theorem w5r (hC : CfgOk P C) {sc : List Int} {L : Addr} {Q : Flow → Shared → Prop} (hs : sc.length ≤ 63) (hA : A.handled = none) (I : In C mu nu (lawEnv P L) ρ σ s₀ s) (hsc : ρ.lookup w0c = some (.lst (sc.map .int))) (hst : StOk (lawEnv P L) nu q2o)
  (k : ∀ s',In C mu nu (lawEnv P L) ((q2o,.lst ((List.range 8).map fun k => .int (numF sc k))) :: ρ) σ s₀ s' → Q .next s') : wpAny (model prog w) A (exec (lawSt P 0) (lawEnv P L)) Q E s:=by
 refine q0h I hst (PurNE.pur (q1k [(w0c,.lst (sc.map .int))] (l:=rangeL 0 1 8) (g:=fun k => some (.int (numF sc k))) ?h3 I.cells hA ?it ?turn (by rw [q1d];decide))) (fun s' I' => ?fin)
 case h3 => walk_at "look"
 case it => exact q0u (n:=8) (q0f (q0e hC rfl) rfl rfl) q0m (by decide)
 case turn =>
  refine q3k (fun L D => by walk_at "sto") rfl fun L D ys i p hp => ?_
  obtain ⟨hi,rfl⟩:=q1e hp
  have hk : ([.int 1,.int 0,.int 2,.int 0,.int 1,.int 3,.int 68,.int 0] : List PV)[i]? = some (.int (kAdd.getD i 0)):=by
   show (kAdd.map PV.int)[i]? = _
   rw [List.getElem?_map,List.getD_eq_getElem?_getD,List.getElem?_eq_getElem (show i < kAdd.length from hi)];rfl
  with_reducible refine' q0k (p:=.int (q9i sc i 8).sum) (q:=.int (kAdd.getD i 0)) ?_ ?_ op_add
  ·with_reducible refine' q1a ?_ (q0c ?_ q0g ?_) (op_sum hA (w3q hs hi)) ?_ ?_
   ·exact q0f (q0e hC rfl) rfl rfl
   ·rw [← w7u sc i 8]
    with_reducible refine' PurNE.pur (q1i (lo:=some (i : Int)) (hi:=none) (st:=some ((8 : Nat) : Int)) (q0l ?_) (part1 ?_) part0 (part1 ?_) (by decide) ?_ q4n)
    ·exact q0b rfl rfl
    ·exact q0b rfl rfl
    ·exact q0m
    ·rw [List.length_map];(with_reducible refine nad ?_;decide)
   ·exact fun _ => rfl
   ·exact fun _ => rfl
   ·rfl
  ·with_reducible refine' q0z (q0l (q6v ?ps ?l)) ?k ?hk ?sz ?hs
   case ps => repeat' walk_at "pe"
   case l => exact Nat.le_of_ble_eq_true rfl
   case k => exact q0b rfl rfl
   case hk => exact hk
   case sz => exact Nat.lt_of_lt_of_le (by decide : 8 < 2 ^ 10) (by decide)
   case hs => exact fun _ _ => rfl
 case fin =>
  rw [q1d,q3n] at I'
  exact k s' I'
private theorem z0v (hC : CfgOk P C) {ns : List Int} {L : Addr} {Q : Flow → Shared → Prop} (hn : ns.length = 8) (hA : A.handled = none) (I : In C mu nu (lawEnv P L) ρ σ s₀ s) (hns : ρ.lookup q2o = some (.lst (ns.map .int))) (hst : StOk (lawEnv P L) nu q3a)
  (k : ∀ s',In C mu nu (lawEnv P L) ((q3a,.lst ((q2g ns).map .str)) :: ρ) σ s₀ s' → Q .next s') : wpAny (model prog w) A (exec (lawSt P 1) (lawEnv P L)) Q E s:=by
 refine q0h I hst (PurNE.pur (q1k [(q2o,.lst (ns.map .int))] (l:=rangeL 0 1 5) (g:=fun k => some (.str (wordOf (ns.getD k 0) k))) ?h3 I.cells hA ?it ?turn (by rw [q1d];decide))) (fun s' I' => ?fin)
 case h3 => walk_at "look"
 case it => exact q0u (n:=5) (q0f (q0e hC rfl) rfl rfl) q0m (by decide)
 case turn =>
  refine q3k (fun L D => by walk_at "sto") rfl fun L D ys i p hp => ?_
  obtain ⟨hi,rfl⟩:=q1e hp
  have hf : 0 ≤ (ns.getD i 0).fmod 5 ∧ (ns.getD i 0).fmod 5 < 5:=q5r (ns.getD i 0) 5 (by decide)
  have e1 : (1 : Int) + (ns.getD i 0).fmod 5 = ((1 + ((ns.getD i 0).fmod 5).toNat : Nat) : Int):=by lia
  have e2 : (⟨((List.replicate (1 + ((ns.getD i 0).fmod 5).toNat) (#[97 + i] : Array Nat).toList).flatten).toArray⟩ : PySem.Str) = wordOf (ns.getD i 0) i:=by
   unfold wordOf
   simp
  have hx : ∀ i,i < 5 → (#[97,98,99,100,101] : Array Nat)[i]? = some (97 + i):=by decide
  with_reducible refine' pur_of (q0k (p:=.str ⟨#[97 + i]⟩) (q:=.int ((1 + ((ns.getD i 0).fmod 5).toNat : Nat) : Int)) ?a ?b (w8i ?m1 ?m2 ?m3)) (congrArg PV.str e2)
  case a => with_reducible exact q6s (j:=i) q1m (q0b rfl rfl) (hx i hi) (by decide) (fun _ _ => rfl)
  case b =>
   with_reducible refine' pur_of (q0k q0m (q0k (q0z (q0l ?v) ?k (w0l (i:=i) (by lia)) ?sz ?hs) q0m (op_mod ?nz)) op_add) (congrArg PV.int e1)
   case v => exact q0b rfl rfl
   case k => exact q0b rfl rfl
   case sz => rw [List.length_map];(with_reducible refine nag ?_;decide)
   case hs => exact fun _ _ => rfl
   case nz => decide
  case m1 => show 1 * _ ≤ _;lia
  case m2 => lia
  case m3 => show 1 ≤ _;decide
 case fin =>
  rw [q1d,q3n] at I'
  refine k s' ?_
  unfold q2g
  rw [List.map_map]
  exact I'
private theorem z0w (hC : CfgOk P C) {ns : List Int} {L : Addr} {Q : Flow → Shared → Prop} (hn : ns.length = 8) (I : In C mu nu (lawEnv P L) ρ σ s₀ s) (hns : ρ.lookup q2o = some (.lst (ns.map .int))) (hst : StOk (lawEnv P L) nu q5q)
  (k : ∀ s',In C mu nu (lawEnv P L) ((q5q,.int (q3j ns)) :: ρ) σ s₀ s' → Q .next s') : wpAny (model prog w) A (exec (lawSt P 2) (lawEnv P L)) Q E s:=by
 refine q0h (p:=.int (q3j ns)) I hst ?_ k
 with_reducible refine' q0k q0m (q0k (q0z (j:=5) (q0l (q0b hns ?d)) ?k (w0l (i:=5) (by lia)) ?sz ?hs) q0m (op_mod ?nz)) op_add
 case d => rfl
 case k => exact q0m
 case sz => rw [List.length_map];(with_reducible refine nag ?_;decide)
 case hs => exact fun _ _ => rfl
 case nz => decide
private theorem w4w (ns : List Int) : 0 ≤ (32 + (absI (ns.getD 6 0)).fmod ((10 : Int) ^ (99 : Int).toNat)) ∧ (32 + (absI (ns.getD 6 0)).fmod ((10 : Int) ^ (99 : Int).toNat)) < 2 ^ 330:=by
 have h0 : (0 : Int) < (10 : Int) ^ (99 : Int).toNat:=by decide +kernel
 have h1:=Int.fmod_nonneg_of_pos (absI (ns.getD 6 0)) h0
 have h2:=Int.fmod_lt_of_pos (absI (ns.getD 6 0)) h0
 have h3 : (32 : Int) + (10 : Int) ^ (99 : Int).toNat < 2 ^ 330:=by decide +kernel
 lia
private theorem law_base (hC : CfgOk P C) {ns : List Int} {L : Addr} {Q : Flow → Shared → Prop} (hn : ns.length = 8) (I : In C mu nu (lawEnv P L) ρ σ s₀ s) (hns : ρ.lookup q2o = some (.lst (ns.map .int))) (hst : StOk (lawEnv P L) nu w5n)
  (k : ∀ s',In C mu nu (lawEnv P L) ((w5n,.int (baseOf ns)) :: ρ) σ s₀ s' → Q .next s') : wpAny (model prog w) A (exec (lawSt P 3) (lawEnv P L)) Q E s:=by
 refine q0h (p:=.int (baseOf ns)) I hst ?_ k
 have h4 : 0 ≤ (ns.getD 7 0).fmod 4200 ∧ (ns.getD 7 0).fmod 4200 < 4200:=q5r (ns.getD 7 0) 4200 (by decide)
 obtain ⟨h5,h6⟩:=w4w ns
 have hb : Builtin.Int.intBits (32 + (absI (ns.getD 6 0)).fmod ((10 : Int) ^ (99 : Int).toNat)) ≤ 330:=by
  obtain ⟨m,hm⟩:=Int.eq_ofNat_of_zero_le h5
  rw [hm] at h6 ⊢
  exact bitsN (by exact_mod_cast h6)
 have item : ∀ {j : Nat} {p1 p2 : Pos} {e : Expr},j < 8 → PurE prog w C mu A (lawEnv P L) ρ σ e (.int (j : Int)) → (∀ o i,subscripted e false o i = operate [o,i] (getItem o i)) → PurE prog w C mu A (lawEnv P L) ρ σ (.Subscript (.Name q2o p1) e p2) (.int (ns.getD j 0)):=fun {j p1 p2 e} hj he hs =>
  q0z (j:=j) (q0l (q0b hns rfl)) he (w0l (i:=j) (by lia)) (by rw [List.length_map];(with_reducible refine nag ?_;decide)) hs
 with_reducible refine' q0k (q0k q0m (q0k (q1a ?f (q0c (item (j:=6) ?j6 ?e6 ?s6) q0g ?c1) op_abs ?c2 ?c3) (q0k q0m q0m (op_pow ?b1 ?b2 ?b3)) (op_mod ?nz)) op_add) (q0k (item (j:=7) ?j7 ?e7 ?s7) q0m (op_mod ?nz2)) (op_shl ?g1 ?g2)
 case f => exact q0f (q0e hC rfl) rfl rfl
 case j6 => decide
 case j7 => decide
 case e6 => exact q0m
 case e7 => exact q0m
 case s6 => exact fun _ _ => rfl
 case s7 => exact fun _ _ => rfl
 case c1 => exact fun _ => rfl
 case c2 => exact fun _ => rfl
 case c3 => rfl
 case b1 => decide
 case b2 => decide
 case b3 => decide +kernel
 case nz => decide +kernel
 case nz2 => decide
 case g1 => exact h4.1
 case g2 =>
  show (Builtin.Int.intBits (32 + (absI (ns.getD 6 0)).fmod ((10 : Int) ^ (99 : Int).toNat)) : Int) + (ns.getD 7 0).fmod 4200 ≤ _
  lia
private theorem z1a (hC : CfgOk P C) {ws : List PySem.Str} {W : Int} {L : Addr} {Q : Flow → Shared → Prop} (hw : ws.length = 5) (hwl : ∀ x ∈ ws,x.length ≤ 5) (hA : A.handled = none) (I : In C mu nu (lawEnv P L) ρ σ s₀ s) (hws : ρ.lookup q3a = some (.lst (ws.map .str))) (hwd : ρ.lookup q5q = some (.int W)) (hst : StOk (lawEnv P L) nu q3w)
  (k : ∀ s',In C mu nu (lawEnv P L) ((q3w,.lst ((List.range 5).map fun i => .lst ((List.range 5).map fun k => .bool (apF ws W i k)))) :: ρ) σ s₀ s' → Q .next s') : wpAny (model prog w) A (exec (lawSt P 4) (lawEnv P L)) Q E s:=by
 refine q0h I hst (PurNE.pur (q1k [(q3a,.lst (ws.map .str)),(q5q,.int W)] (l:=rangeL 0 1 5) (g:=fun i => some (.lst ((List.range 5).map fun k => .bool (apF ws W i k)))) ?h3 I.cells hA ?it ?turn (by rw [q1d];decide))) (fun s' I' => ?fin)
 case h3 => walk_at "look"
 case it => exact q0u (n:=5) (q0f (q0e hC rfl) rfl rfl) q0m (by decide)
 case fin =>
  rw [q1d,q3n] at I'
  exact k s' I'
 case turn =>
  refine q3k (fun L D => by walk_at "stc") rfl fun L₁ D₁ ys i p hp => ?_
  obtain ⟨hi,rfl⟩:=q1e hp
  refine pur_of (PurNE.pur (q1k [(q3a,.lst (ws.map .str)),(q5q,.int W),(nm_i,.int (i : Int))] (l:=rangeL 0 1 5) (g:=fun k => some (.bool (apF ws W i k))) ?h3 (q7z I.cells) hA ?it ?turn (by rw [q1d];decide))) (congrArg PV.lst ((q1d 5).symm ▸ q3n 5))
  case h3 => walk_at "look"
  case it => exact q0u (n:=5) (q0f (q0e hC rfl) rfl rfl) q0m (by decide)
  case turn =>
   refine q3k (fun L D => by walk_at "sto") rfl fun L₂ D₂ ys₂ k p₂ hp₂ => ?_
   obtain ⟨hk,rfl⟩:=q1e hp₂
   have hb : ∀ i : Nat,i < 5 → ∀ k : Nat,k < 5 → (sliceBounds (some (i : Int)) (some ((k : Int) + 1)) none 5).1 = i ∧ (sliceBounds (some (i : Int)) (some ((k : Int) + 1)) none 5).2.1 = k + 1:=by decide +kernel
   have hsl : q1z (ws.map .str) (some (i : Int)) (some ((k : Int) + 1)) none = ((ws.take (k + 1)).drop i).map .str:=by
    have:=q2n (ws.map PV.str) (some (i : Int)) (some ((k : Int) + 1)) i (k + 1) (by rw [List.length_map,hw];exact (hb i hi k hk).1) (by rw [List.length_map,hw];exact (hb i hi k hk).2) (by rw [List.length_map,hw];lia)
    rw [List.map_drop,List.map_take]
    exact this
   have hlen : ((ws.take (k + 1)).drop i).length ≤ 5:=by rw [List.length_drop,List.length_take,hw];lia
   refine q6g (p:=.int (roomOf ws i k)) (q:=.int W) ?c (q0b rfl rfl) op_gt rfl
   case c =>
    with_reducible refine' q1a ?f (q0c ?l q0g ?c1) (op_sum (ns:=((ws.take (k + 1)).drop i).map fun x => 1 + (x.length : Int)) hA ?sz) ?c2 ?c3
    case f => exact q0f (q0e hC rfl) rfl rfl
    case sz => rw [List.length_map];(with_reducible refine nad ?_;decide)
    case c1 => exact fun _ => rfl
    case c2 => exact fun _ => rfl
    case c3 => rfl
    case l =>
     refine pur_of (PurNE.pur (q1k [] (l:=((ws.take (k + 1)).drop i).map .str) (g:=fun j => (((ws.take (k + 1)).drop i).map PV.str)[j]?.map fun p => match p with | .str x => .int (1 + (x.length : Int)) | p => p) (fun _ h => nomatch h) (q7z (q7z I.cells)) hA ?it ?turn (by rw [List.length_map];(with_reducible refine nad ?_;decide)))) (congrArg PV.lst ?e)
     case e =>
      rw [q7n,List.map_map,List.map_map]
      rfl
     case it =>
      refine IterE.of hA (PurNE.pur ?_) q4r
      rw [← hsl]
      refine q1i (q0l (q0b rfl rfl)) (part1 (q0b rfl rfl)) (part1 (q0k (q0b rfl rfl) q0m op_add)) part0 (by decide) (by rw [List.length_map];(with_reducible refine naf ?_;decide)) q4n
     case turn =>
      refine q7l (fun L D => by walk_at "sto") rfl fun L₃ D₃ ys₃ j p₃ hp₃ => ?_
      obtain ⟨x,hx,rfl⟩ : ∃ x,((ws.take (k + 1)).drop i)[j]? = some x ∧ p₃ = .str x:=by
       rw [List.getElem?_map] at hp₃
       cases q : ((ws.take (k + 1)).drop i)[j]? with
       | none => rw [q] at hp₃;cases hp₃
       | some x => rw [q] at hp₃;cases hp₃;exact ⟨x,rfl,rfl⟩
      have hxl:=hwl x (List.mem_of_mem_take (List.mem_of_mem_drop (List.mem_of_getElem? hx)))
      with_reducible refine' q0k q0m (q1a ?f (q0c ?ag q0g ?c1) (q5n (x:=x) ?sz) ?c2 ?c3) op_add
      case f => exact q0f (q0e hC rfl) rfl rfl
      case ag => exact q0b rfl rfl
      case sz => show x.length < _;(with_reducible refine nae ?_;decide)
      case c1 => exact fun _ => rfl
      case c2 => exact fun _ => rfl
      case c3 => rfl
end
end
section
open PySem PySem.W PySem.Calls PyProof.Rows
set_option maxHeartbeats 4000000
variable {prog : Program} {w : World} {P : Params} {C : Cfg}
section
variable {mu mu' nu : List Addr} {s₀ s s' : Shared} {env : Env} {ρ : List (PySem.Str × PV)} {σ σ' : List (Addr × MO)} {A : Around} {E : Value → Shared → Prop}
private theorem q2h {x : PySem.Str} {c : Addr} (hn : okName x = true) (hk : env.kindOf x = some .cell) (hc : env.cells.lookup x = some c) : StOk env (q0j env) x:=⟨hn,.inr ⟨hk,c,hc,.tail _ (List.mem_map_of_mem (f:=(·.2)) (q0n hc))⟩⟩
private theorem q0p {x : PySem.Str} (hn : okName x = true) (hk : env.kindOf x = some .local) : StOk env (q0j env) x:=⟨hn,.inl ⟨hk,.head _⟩⟩
private theorem w7v {c : Nat} {f : PySem.Str} {d : Nat} (h : f.cps[0]? = some d) : q1h c f = ((⟨#[d]⟩ : PySem.Str) == ⟨#[c]⟩):=by
 unfold q1h
 rw [h]
 by_cases hc : d = c
 ·rw [hc];simp
 ·have h1 : (some d == some c) = false:=by simpa using hc
  have h2 : ((⟨#[d]⟩ : PySem.Str) == ⟨#[c]⟩) = false:=beq_eq_false_iff_ne.mpr (by simpa using hc)
  rw [h1,h2]
noncomputable abbrev apPV (ap : Nat → Nat → Bool) : PV:=.lst ((List.range 5).map fun i => .lst ((List.range 5).map fun k => .bool (ap i k)))
structure LawV (ρ : List (PySem.Str × PV)) (ws : List PySem.Str) (W B : Int) (ap : Nat → Nat → Bool) : Prop where
 words : ρ.lookup q3a = some (.lst (ws.map .str))
 width : ρ.lookup q5q = some (.int W)
 base : ρ.lookup w5n = some (.int B)
 apart : ρ.lookup q3w = some (apPV ap)
private theorem w0r (l : List PySem.Str) : q1z (l.map .str) none (some (-1)) none = l.dropLast.map .str:=by
 have h : (sliceBounds none (some (-1)) none (l.map PV.str).length).1 = ((0 : Nat) : Int) ∧ (sliceBounds none (some (-1)) none (l.map PV.str).length).2.1 = ((l.length - 1 : Nat) : Int):=by
  rw [List.length_map]
  refine ⟨rfl,?_⟩
  show max (0 : Int) (min (-1 + (l.length : Int)) l.length) = _
  with_reducible exact nf1
 have:=q2n (l.map PV.str) none (some (-1)) 0 (l.length - 1) h.1 h.2 (by rw [List.length_map];with_reducible exact Nat.sub_le _ _)
 rw [List.dropLast_eq_take,List.map_take]
 exact this
private theorem q9h {l : List PySem.Str} {i : Nat} (h : i < l.length) : (l.map PV.str)[i]? = some (.str (l.getD i ⟨#[]⟩)):=by
 rw [List.getElem?_map,List.getD_eq_getElem?_getD,List.getElem?_eq_getElem h];rfl
private theorem q6f {x y : PySem.Str} {p1 p2 p3 : Pos} {l : List PySem.Str} {i : Nat} (hx : ρ.lookup x = some (.lst (l.map .str))) (hy : ρ.lookup y = some (.int (i : Int))) (h : i < l.length) (hsz : l.length ≤ 2 ^ 20) (dx : autoParam ((x == ("__debug__" : PySem.Str)) = false) tR) (dy : autoParam ((y == ("__debug__" : PySem.Str)) = false) tR) :
  PurE prog w C mu A env ρ σ (.Subscript (.Name x p1) (.Name y p2) p3) (.str (l.getD i ⟨#[]⟩)):=
 q0z (q0l (q0b hx dx)) (q0b hy dy) (q9h h) (by rw [List.length_map];(with_reducible refine nae ?_;decide)) (fun _ _ => rfl)
private theorem q7o {y z : PySem.Str} {p1 p2 p3 p4 p5 : Pos} {ap : Nat → Nat → Bool} {i k : Nat} (hx : ρ.lookup q3w = some (apPV ap)) (hy : ρ.lookup y = some (.int (i : Int))) (hz : ρ.lookup z = some (.int (k : Int))) (hi : i < 5) (hk : k < 5) (dy : autoParam ((y == ("__debug__" : PySem.Str)) = false) tR) (dz : autoParam ((z == ("__debug__" : PySem.Str)) = false) tR) :
  PurE prog w C mu A env ρ σ (.Subscript (.Subscript (.Name q3w p1) (.Name y p2) p3) (.Name z p4) p5) (.bool (ap i k)):=
 q0z (q0l (q0z (q0l (q0b hx rfl)) (q0b hy dy) (w2u (f:=fun i => PV.lst ((List.range 5).map fun k => .bool (ap i k))) hi) (by rw [List.length_map,List.length_range];decide) (fun _ _ => rfl))) (q0b hz dz) (w2u (f:=fun k => PV.bool (ap i k)) hk) (by rw [List.length_map,List.length_range];decide) (fun _ _ => rfl)
private theorem law_mail (hC : CfgOk P C) {ws : List PySem.Str} {W B : Int} {ap : Nat → Nat → Bool} {n : Nat} {L : Addr} {Q : Flow → Shared → Prop} (r : Rm A (n + 2)) (hM : ∀ k,k < 5 → rowsOk k (mailS ap k) = true ∧ (textS ap (q0d (mailS ap k)) k).length ≤ 1000) (hM5 : (mailS ap 5).length ≤ 1000)
  (I : In C mu (q0j (lawEnv P L)) (lawEnv P L) ρ σ s₀ s) (V : LawV ρ ws W B ap) (hm : ρ.lookup w2s = some (.str (mailS ap 0)))
  (k : ∀ ρ' s',In C mu (q0j (lawEnv P L)) (lawEnv P L) ρ' σ s₀ s' → LawV ρ' ws W B ap → ρ'.lookup w2s = some (.str (mailS ap 5)) → Q .next s') : wpAny (model prog w) A (exec (lawSt P 6) (lawEnv P L)) Q E s:=by
 refine q3m (l:=rangeL 0 1 5) I r.none (q0u (n:=5) (q0f (q0e hC rfl) rfl rfl) q0m (by decide)) (fun i ρ' σ' => σ' = σ ∧ LawV ρ' ws W B ap ∧ ρ'.lookup w2s = some (.str (mailS ap i))) (fun _ _ _ _ => False) ⟨rfl,V,hm⟩ ?turn ?kE (fun _ _ _ _ h _ => h.elim)
 case kE =>
  rintro ρ' σ' s' ⟨rfl,V',hm'⟩ I'
  exact wpAny_execs_nil (k ρ' s' I' V' hm')
 case turn =>
  intro i p v ρ σ' s hp hJ I y
  refine q2a I (q2h rfl rfl rfl) y fun s₁ I₁ => ?_
  refine q1r fun K hK => ?_
  obtain ⟨rfl,V,hm⟩:=hJ
  obtain ⟨hi,rfl⟩:=q1e hp
  obtain ⟨hrows,htext⟩:=hM i hi
  unfold rowsOk at hrows
  simp only [Bool.and_eq_true,decide_eq_true_eq,beq_iff_eq] at hrows
  obtain ⟨⟨hrl,hre⟩,hml⟩:=hrows
  have hrow : ∀ j,j < i → ((q0d (mailS ap i)).getD j ⟨#[]⟩).length ≠ 0 ∧ ((q0d (mailS ap i)).getD j ⟨#[]⟩).length ≤ 100:=fun j hj => by
   have:=List.all_eq_true.mp hre ((q0d (mailS ap i)).getD j ⟨#[]⟩) (by
    rw [List.getD_eq_getElem?_getD,List.getElem?_eq_getElem (by lia)]
    exact List.getElem_mem _)
   exact of_decide_eq_true this
  -- rows
  refine q0a (q0h (p:=.lst ((q0d (mailS ap i)).map .str)) I₁ (q2h rfl rfl rfl) ?rows (fun s₂ I₂ => ?_))
  case rows =>
   refine pur_of (PurNE.pur (q1i (l:=(PySem.Txt.split (mailS ap i) crlfT).map .str) (lo:=none) (hi:=some (-1)) (st:=none) (q0l ?m) part0 (part1 (q2c q0m op_neg)) part0 (by decide) ?sz q4n)) (congrArg PV.lst (w0r _))
   case m =>
    with_reducible refine' q6u (q0b ?h ?d) (w1m ?nm) (q0c q1m q0g ?c) (w6w (y:=crlfT) ?hy ?hz) ?e1 ?e2 ?e3
    case h => exact hm
    case d => rfl
    case nm => decide +kernel
    case c => exact fun _ => rfl
    case hy => rfl
    case hz => (with_reducible refine nad ?_;decide)
    case e1 => exact rfl
    case e2 => exact rfl
    case e3 => exact rfl
   case sz =>
    have h1 : (q0d (mailS ap i)).length = (PySem.Txt.split (mailS ap i) crlfT).length - 1:=List.length_dropLast ..
    rw [List.length_map]
    lia
  have hki : ∀ x,((w0d,PV.lst ((q0d (mailS ap i)).map .str)) :: (nm_k,PV.int (i : Int)) :: ρ).lookup x = ((w0d,PV.lst ((q0d (mailS ap i)).map .str)) :: (nm_k,PV.int (i : Int)) :: ρ).lookup x:=fun _ => rfl
  have V₂ : LawV ((w0d,PV.lst ((q0d (mailS ap i)).map .str)) :: (nm_k,PV.int (i : Int)) :: ρ) ws W B ap:=⟨V.words,V.width,V.base,V.apart⟩
  -- shut
  refine q0a (q0h (p:=.lst ((List.range i).map fun j => .str (shutS ap (q0d (mailS ap i)) i j))) I₂ (q2h rfl rfl rfl) ?shut (fun s₃ I₃ => ?_))
  case shut =>
   have ha:=V₂.apart
   refine pur_of (PurNE.pur (q1k [(q3w,apPV ap),(w0d,.lst ((q0d (mailS ap i)).map .str)),(nm_k,.int (i : Int))] (l:=rangeL 0 1 i) (g:=fun j => some (.str (shutS ap (q0d (mailS ap i)) i j))) ?h3 I₂.cells r.none ?it ?turn (by rw [q1d];lia))) (congrArg PV.lst (by rw [q1d,q3n]))
   case h3 => walk_at "look"
   case it => exact q0u (n:=i) (q0f (q0e hC rfl) rfl rfl) (q0b rfl rfl) (by lia)
   case turn =>
    refine q3k (fun L D => by walk_at "sto") rfl fun L₁ D₁ ys j p hp => ?_
    obtain ⟨hj,rfl⟩:=q1e hp
    obtain ⟨hr1,hr2⟩:=hrow j hj
    have hd : ((q0d (mailS ap i)).getD j ⟨#[]⟩).cps[0]? = some (((q0d (mailS ap i)).getD j ⟨#[]⟩).cps[0]'(Nat.pos_of_ne_zero hr1)):=Array.getElem?_eq_getElem _
    refine q9v (b:=ap j i && (q1h 46 ((q0d (mailS ap i)).getD j ⟨#[]⟩) && true)) ?t ?x ?y
    case t =>
     refine q2j (pos':=default) (q1b (q7o rfl rfl rfl (by lia) hi) q1l) fun _ => ?_
     refine q2j (pos':=default) ?_ fun _ => q5c
     refine q3o (q0i (q6s (j:=0) (q6f rfl rfl (by lia) (by lia)) q0m hd (by show ((q0d (mailS ap i)).getD j ⟨#[]⟩).length < _;(with_reducible refine nae ?_;decide))) q1m w0a) (w7v hd).symm
    case x =>
     intro h
     rw [Bool.and_true] at h
     refine pur_of q1m (congrArg PV.str ?_)
     unfold shutS
     rw [if_pos h]
    case y =>
     intro h
     rw [Bool.and_true] at h
     refine pur_of q1m (congrArg PV.str ?_)
     unfold shutS
     rw [if_neg (by rw [h];decide)]
  -- text
  have hsl : ∀ j,(shutS ap (q0d (mailS ap i)) i j).length ≤ 1:=fun j => by unfold shutS;split <;> decide
  have hnl : ∀ j,j < 3 → (nlsT.getD j ⟨#[]⟩).length ≤ 2:=by decide
  have hpl : ∀ j,j < i → (partS' ap (q0d (mailS ap i)) i j).length ≤ 103:=fun j hj => by
   have h1:=hsl j
   have h2:=(hrow j hj).2
   have h3:=hnl ((j + i) % 3) (Nat.mod_lt _ (by decide))
   have e : (partS' ap (q0d (mailS ap i)) i j).length = (shutS ap (q0d (mailS ap i)) i j).length + ((q0d (mailS ap i)).getD j ⟨#[]⟩).length + (nlsT.getD ((j + i) % 3) ⟨#[]⟩).length:=by
    unfold partS'
    show (_ ++ _ ++ _ : Array Nat).size = _
    rw [Array.size_append,Array.size_append];rfl
   lia
  refine q0a (q0h (p:=.str (textS ap (q0d (mailS ap i)) i)) I₃ (q0p rfl rfl) ?text (fun s₄ I₄ => ?_))
  case text =>
   refine q6r (sep:=⟨#[]⟩) (ys:=(List.range i).map (partS' ap (q0d (mailS ap i)) i)) q1m (q0l (pur_of (PurNE.pur (q1k [(nm_shut,.lst ((List.range i).map fun j => .str (shutS ap (q0d (mailS ap i)) i j))),(w0d,.lst ((q0d (mailS ap i)).map .str)),(nm_k,.int (i : Int))] (l:=rangeL 0 1 i) (g:=fun j => some (.str (partS' ap (q0d (mailS ap i)) i j))) ?h3 I₃.cells r.none ?it ?turn (by rw [q1d];lia))) (congrArg PV.lst (by rw [q1d,q3n,List.map_map];rfl)))) rfl (by decide) ?sz
   case h3 => walk_at "look"
   case it => exact q0u (n:=i) (q0f (q0e hC rfl) rfl rfl) (q0b rfl rfl) (by lia)
   case sz =>
    have:=q4e (l:=((List.range i).map (partS' ap (q0d (mailS ap i)) i)).map (·.length)) (b:=103) fun x hx => by
     rw [List.map_map] at hx
     obtain ⟨j,hj,rfl⟩:=List.mem_map.mp hx
     exact hpl j (List.mem_range.mp hj)
    rw [List.length_map,List.length_map,List.length_range] at this
    rw [List.length_map,List.length_range]
    lia
   case turn =>
    refine q3k (fun L D => by walk_at "sto") rfl fun L₁ D₁ ys j p hp => ?_
    obtain ⟨hj,rfl⟩:=q1e hp
    have hn3 : (nlsT.map PV.str)[(j + i) % 3]? = some (.str (nlsT.getD ((j + i) % 3) ⟨#[]⟩)):=q9h (by have : nlsT.length = 3:=rfl;rw [this];exact Nat.mod_lt _ (by decide))
    have h1:=hsl j
    have h2:=(hrow j hj).2
    have e3 : ((j : Int) + (i : Int)).fmod 3 = (((j + i) % 3 : Nat) : Int):=by rw [Int.fmod_eq_emod_of_nonneg _ (by decide)];lia
    refine q0k (p:=.str (shutS ap (q0d (mailS ap i)) i j ++ (q0d (mailS ap i)).getD j ⟨#[]⟩)) (q:=.str (nlsT.getD ((j + i) % 3) ⟨#[]⟩)) (q0k (p:=.str (shutS ap (q0d (mailS ap i)) i j)) (q:=.str ((q0d (mailS ap i)).getD j ⟨#[]⟩)) ?a ?b (q5o ?z1)) ?c (q5o ?z2)
    case a => exact q0z (q0l (q0b rfl rfl)) (q0b rfl rfl) (w2u (f:=fun j => PV.str (shutS ap (q0d (mailS ap i)) i j)) hj) (by rw [List.length_map,List.length_range];lia) (fun _ _ => rfl)
    case b => exact q6f rfl rfl (by lia) (by lia)
    case z1 => lia
    case z2 =>
     have h3:=hnl ((j + i) % 3) (Nat.mod_lt _ (by decide))
     have e : (shutS ap (q0d (mailS ap i)) i j ++ (q0d (mailS ap i)).getD j ⟨#[]⟩).length = (shutS ap (q0d (mailS ap i)) i j).length + ((q0d (mailS ap i)).getD j ⟨#[]⟩).length:=by
      show (_ ++ _ : Array Nat).size = _
      rw [Array.size_append];rfl
     lia
    case c =>
     with_reducible refine' q0z (q0l (q6v ?ps ?l)) ?k ?hk ?sz ?hs
     case ps => repeat' walk_at "pe"
     case l => exact Nat.le_of_ble_eq_true rfl
     case k => exact pur_of (q0k (q0k (q0b (p:=.int (j : Int)) rfl rfl) (q0b (p:=.int (i : Int)) rfl rfl) op_add) q0m (op_mod (by decide))) (congrArg PV.int e3)
     case hk => exact hn3
     case sz => exact Nat.lt_of_lt_of_le (by decide : 3 < 2 ^ 10) (by decide)
     case hs => exact fun _ _ => rfl
  -- mail
  have hq : (quoteS (textS ap (q0d (mailS ap i)) i)).length + 3 ≤ 1000:=by
   have e : (mailS ap (i + 1)).length = (quoteS (textS ap (q0d (mailS ap i)) i)).length + 3:=by
    show (_ ++ _ : Array Nat).size = _
    rw [Array.size_append];rfl
   rw [← e]
   by_cases h : i + 1 = 5
   ·rw [h];exact hM5
   ·have:=(hM (i + 1) (by lia)).1
    unfold rowsOk at this
    simp only [Bool.and_eq_true,decide_eq_true_eq] at this
    exact this.2
  refine q0a (q0h (p:=.str (mailS ap (i + 1))) I₄ (q0p rfl rfl) ?mail (fun s₅ I₅ => ?_))
  case mail =>
   refine q0k (p:=.str (quoteS (textS ap (q0d (mailS ap i)) i))) (q:=.str ⟨#[46,13,10]⟩) (q1q (q0f (q0e hC rfl) rfl rfl) (q0c (q0b rfl rfl) q0g (fun _ => rfl)) (w4r hC) (w9y hC (by show (textS ap (q0d (mailS ap i)) i).length ≤ _;(with_reducible refine nad ?_;decide))) (r.mono (by lia)) (fun _ => rfl)) q1m (q5o ?z)
   show (quoteS (textS ap (q0d (mailS ap i)) i)).length + 3 ≤ _
   (with_reducible refine nad ?_;decide)
  exact wpAny_execs_nil (hK _ _ ⟨_,_,I₅,rfl,⟨V.words,V.width,V.base,V.apart⟩,rfl⟩)
end
end
section
open PySem PySem.W PySem.Calls PyProof.Rows
set_option maxHeartbeats 4000000
variable {prog : Program} {w : World} {P : Params} {C : Cfg}
section
variable {mu mu' nu : List Addr} {s₀ s s' : Shared} {env : Env} {ρ : List (PySem.Str × PV)} {σ σ' : List (Addr × MO)} {A : Around} {E : Value → Shared → Prop}
private theorem w9t {t : Expr} {body : List Stmt} {pos : Pos} {Q : Flow → Shared → Prop} (J : Nat → List (PySem.Str × PV) → List (Addr × MO) → Prop)
  (step : ∀ n ρ σ s,J n ρ σ → In C mu nu env ρ σ s₀ s → ∃ b,PurB prog w C mu A env ρ σ t b ∧ (b = true → ∀ E' s,In C mu nu env ρ σ s₀ s → wpAny (model prog w) A (execs body env) (fun f s' => f = .next ∧ ∃ m ρ' σ',m < n ∧ J m ρ' σ' ∧ In C mu nu env ρ' σ' s₀ s') E' s)
   ∧ (b = false → ∀ s,In C mu nu env ρ σ s₀ s → Q .next s))
  (n : Nat) (h0 : J n ρ σ) (I : In C mu nu env ρ σ s₀ s) : wpAny (model prog w) A (exec (.While t body [] pos) env) Q E s:=by
 refine wpAny_While (codeAny_whileLoop (fun n s => ∃ ρ σ,J n ρ σ ∧ In C mu nu env ρ σ s₀ s) ?_ n ⟨ρ,σ,h0,I⟩)
 rintro n s ⟨ρ,σ,hJ,I⟩
 obtain ⟨b,hb,h1,h2⟩:=step n ρ σ s hJ I
 refine hb s I.ok I.act _ _ fun s' O' k' => ?_
 have I':=I.next O' k'
 cases b with
 | true =>
  refine wpAny_mono (h1 rfl _ s' I') (fun f s'' h => ?_) fun _ _ e => e
  obtain ⟨rfl,m,ρ',σ',hm,hJ',I''⟩:=h
  exact ⟨m,hm,ρ',σ',hJ',I''⟩
 | false => exact wpAny_execs_nil (h2 rfl s' I')
private theorem law_dots (hC : CfgOk P C) {ap : Nat → Nat → Bool} {L : Addr} {Q : Flow → Shared → Prop} (hA : A.handled = none) (hM5 : (mailS ap 5).length ≤ 1000) (hlen : (q0d (mailS ap 5)).length = 5)
  (I : In C mu (q0j (lawEnv P L)) (lawEnv P L) ρ σ s₀ s) (hm : ρ.lookup w2s = some (.str (mailS ap 5)))
  (k : ∀ s',In C mu (q0j (lawEnv P L)) (lawEnv P L) ((w0f,.lst ((dotsS ap).map .int)) :: ρ) σ s₀ s' → Q .next s') : wpAny (model prog w) A (exec (lawSt P 7) (lawEnv P L)) Q E s:=by
 refine w1e [] (fun _ h => nomatch h) I (q0p rfl rfl) hA (l:=(q0d (mailS ap 5)).map .str) (g:=fun j => ((q0d (mailS ap 5)).map PV.str)[j]?.map fun p => match p with | .str x => .int (PySem.Txt.count x dotT) | p => p) ?it ?turn (by rw [List.length_map];(with_reducible refine naf ?_;decide)) (fun s' I' => ?fin)
 case fin =>
  rw [q7n,List.map_map] at I'
  refine k s' ?_
  unfold dotsS
  rw [List.map_map]
  exact I'
 case it =>
  refine IterE.of hA (PurNE.pur ?_) q4r
  rw [show (q0d (mailS ap 5)).map PV.str = q1z ((PySem.Txt.split (mailS ap 5) crlfT).map .str) none (some (-1)) none from (w0r _).symm]
  refine q1i (l:=(PySem.Txt.split (mailS ap 5) crlfT).map .str) (lo:=none) (hi:=some (-1)) (st:=none) (q0l ?m) part0 (part1 (q2c q0t op_neg)) part0 (by decide) ?sz q4n
  case m =>
   with_reducible refine' q6u (q0b ?h ?d) (w1m ?nm) (q0c q1m q0g ?c) (w6w (y:=crlfT) ?hy ?hz) ?e1 ?e2 ?e3
   case h => exact hm
   case d => rfl
   case nm => decide +kernel
   case c => exact fun _ => rfl
   case hy => rfl
   case hz => (with_reducible refine nad ?_;decide)
   case e1 => exact rfl
   case e2 => exact rfl
   case e3 => exact rfl
  case sz =>
   have h1 : (q0d (mailS ap 5)).length = (PySem.Txt.split (mailS ap 5) crlfT).length - 1:=List.length_dropLast ..
   rw [List.length_map]
   lia
 case turn =>
  refine q7l (fun L D => by walk_at "sto") rfl fun L₁ D₁ ys j p hp => ?_
  obtain ⟨x,hx,rfl⟩ : ∃ x,(q0d (mailS ap 5))[j]? = some x ∧ p = .str x:=by
   rw [List.getElem?_map] at hp
   cases q : (q0d (mailS ap 5))[j]? with
   | none => rw [q] at hp;cases hp
   | some x => rw [q] at hp;cases hp;exact ⟨x,rfl,rfl⟩
  with_reducible refine' q6u (q0b ?h ?d) (w8m ?nm) (q0c q1m q0g ?c) (op_count (y:=dotT)) ?e1 ?e2 ?e3
  case h => exact rfl
  case d => rfl
  case nm => decide +kernel
  case c => exact fun _ => rfl
  case e1 => exact rfl
  case e2 => exact rfl
  case e3 => exact rfl
private theorem pvs_drop (l : List PV) (a : Nat) (h : a ≤ l.length) : q1z l (some (a : Int)) none none = l.drop a:=by
 have h1 : (sliceBounds (some (a : Int)) none none l.length).1 = ((a : Nat) : Int) ∧ (sliceBounds (some (a : Int)) none none l.length).2.1 = ((l.length : Nat) : Int):=by
  refine ⟨?_,rfl⟩
  show max (0 : Int) (min (if (a : Int) < 0 then (a : Int) + l.length else a) l.length) = _
  rw [if_neg (by lia)]
  lia
 have:=q2n l (some (a : Int)) none a l.length h1.1 h1.2 (Nat.le_refl _)
 rw [List.take_length] at this
 exact this
private theorem pvs_mid (l : List PV) (a b : Nat) (h : a ≤ l.length) (hb : b ≤ l.length) : q1z l (some (a : Int)) (some (b : Int)) none = (l.take b).drop a:=by
 have h1 : (sliceBounds (some (a : Int)) (some (b : Int)) none l.length).1 = ((a : Nat) : Int) ∧ (sliceBounds (some (a : Int)) (some (b : Int)) none l.length).2.1 = ((b : Nat) : Int):=by
  refine ⟨?_,?_⟩
  ·show max (0 : Int) (min (if (a : Int) < 0 then (a : Int) + l.length else a) l.length) = _
   rw [if_neg (by lia)]
   lia
  ·show max (0 : Int) (min (if (b : Int) < 0 then (b : Int) + l.length else b) l.length) = _
   rw [if_neg (by lia)]
   lia
 exact q2n l (some (a : Int)) (some (b : Int)) a b h1.1 h1.2 hb
private theorem q6x {l : List Nat} {i : Nat} (h : i < l.length) (d : Nat) : (l.map fun (x : Nat) => PV.int (x : Int))[i]? = some (.int ((l.getD i d : Nat) : Int)):=by
 rw [List.getElem?_map,List.getD_eq_getElem?_getD,List.getElem?_eq_getElem h];rfl
private theorem w7a (sep : PySem.Str) : ∀ ys : List PySem.Str,(PySem.Txt.join sep ys).length ≤ (ys.map (·.length)).sum + sep.length * ys.length:=fun ys => by
 show (PySem.Builtin.Str.glued sep ys).length ≤ _
 rw [StrLaws.glued_eq_join]
 induction ys with
 | nil => exact Nat.zero_le _
 | cons y ys ih =>
  cases ys with
  | nil => show y.length ≤ _;simp
  | cons z zs =>
   have e : (Str.join sep (y :: z :: zs)).length = y.length + sep.length + (Str.join sep (z :: zs)).length:=by
    show (y.cps ++ sep.cps ++ (Str.join sep (z :: zs)).cps).size = _
    rw [Array.size_append,Array.size_append];rfl
   rw [e,List.map_cons,List.sum_cons,List.length_cons,Nat.mul_succ]
   lia
private theorem w5i {n i : Nat} {p : PV} (h : (rangeL 1 1 n)[i]? = some p) : i < n ∧ p = .int ((i + 1 : Nat) : Int):=by
 have hi : i < n:=by simpa [rangeL] using (List.getElem?_eq_some_iff.mp h).1
 simp [rangeL,hi] at h
 refine ⟨hi,h.symm.trans (congrArg PV.int ?_)⟩
 lia
private theorem w1j (n : Nat) : (rangeL 1 1 n).length = n:=by simp [rangeL]
private theorem strs_mid {ws : List PySem.Str} {a b : Nat} (ha : a ≤ ws.length) (hb : b ≤ ws.length) : q1z (ws.map .str) (some (a : Int)) (some (b : Int)) none = ((ws.take b).drop a).map .str:=by
 rw [pvs_mid _ a b (by rw [List.length_map];exact ha) (by rw [List.length_map];exact hb),List.map_drop,List.map_take]
private theorem w3p {ws : List PySem.Str} {a : Nat} (ha : a ≤ ws.length) : q1z (ws.map .str) (some (a : Int)) none none = (ws.drop a).map .str:=by
 rw [pvs_drop _ a (by rw [List.length_map];exact ha),List.map_drop]
noncomputable abbrev natsPV (l : List Nat) : List PV:=l.map fun (x : Nat) => PV.int (x : Int)
structure BegOk (ds : List Nat) (f : Nat) : Prop where
 len : (begF ds 5 f).length ≤ 6
 le : ∀ b ∈ begF ds 5 f,b ≤ 5
private theorem w1g (hC : CfgOk P C) (hp : ProgOk prog) {ws : List PySem.Str} {W B : Int} {ap : Nat → Nat → Bool} {ds : List Nat} {n : Nat} {L : Addr} {Q : Flow → Shared → Prop} (r : Rm A (n + 12)) (hws : ∀ x ∈ ws,WordOk x) (hwl : ws.length = 5) (hdl : ds.length = 5) (hd1 : ∀ b,b < 5 → 1 ≤ ds.getD b 1 ∧ b + ds.getD b 1 ≤ 5)
  (hB : ∀ f,f < 5 → BegOk ds f) (h1 : ∀ f,f < 5 → folded W 0 sBlank (ws.drop f) = dueS ws (begF ds 5 f)) (h2 : ∀ f,f < 5 → folded W (headF ws f) (blankF f) (ws.drop (f + 1)) = sSlice (dueS ws (begF ds 5 f)) (some (q2q ws ds f)) none)
  (I : In C mu (q0j (lawEnv P L)) (lawEnv P L) ρ σ s₀ s) (V : LawV ρ ws W B ap) (hds : ρ.lookup w0f = some (.lst (natsPV ds)))
  (k : ∀ ρ' s',In C mu (q0j (lawEnv P L)) (lawEnv P L) ρ' σ s₀ s' → LawV ρ' ws W B ap → ρ'.lookup w0f = some (.lst (natsPV ds)) → Q .next s') : wpAny (model prog w) A (exec (lawSt P 8) (lawEnv P L)) Q E s:=by
 refine q3m (l:=rangeL 0 1 5) I r.none (q0u (n:=5) (q0f (q0e hC rfl) rfl rfl) q0t (by decide)) (fun i ρ' σ' => σ' = σ ∧ LawV ρ' ws W B ap ∧ ρ'.lookup w0f = some (.lst (natsPV ds))) (fun _ _ _ _ => False) ⟨rfl,V,hds⟩ ?turn ?kE (fun _ _ _ _ h _ => h.elim)
 case kE =>
  rintro ρ' σ' s' ⟨rfl,V',hm'⟩ I'
  exact wpAny_execs_nil (k ρ' s' I' V' hm')
 case turn =>
  intro f p v ρ σ' s hp' hJ I y
  refine q2a I (q0p rfl rfl) y fun s₁ I₁ => ?_
  refine q1r fun K hK => ?_
  obtain ⟨rfl,V,hds⟩:=hJ
  obtain ⟨hf,rfl⟩:=q1e hp'
  -- begins = [first]
  refine q0a (q9k (c:=?c) (l:=[.int (f : Int)]) I₁ ?hc ?hL (q6w (q0c (q0b rfl rfl) q0g (fun _ => rfl)) (Nat.le_of_ble_eq_true rfl)) (fun a s₂ ha hamu I₂ => ?_))
  case hc => exact rfl
  case hL => exact .tail _ (List.mem_map_of_mem (f:=(·.2)) (q0n (x:=q4h) rfl))
  have hS : sizeLine = 2 ^ 24:=by decide +kernel
  have haσ : ∀ b m,σ'.lookup b = some m → b ≠ a:=fun b m e q => hamu (q ▸ (I.act.st b m e).1)
  refine q0a (w9t (fun n ρ₁ σ₁ => ρ₁ = (q4h,.val (.ref a)) :: (q8x,.int (f : Int)) :: ρ ∧ ∃ pre b m,n = 5 - b ∧ b ≤ 5 ∧ 5 - b ≤ m ∧ pre.length + 1 ≤ 6 ∧ begF ds 5 f = pre ++ begF ds m b ∧ σ₁ = (a,Mlst (natsPV (pre ++ [b]))) :: σ') ?step (5 - f) ⟨rfl,[],f,5,rfl,by with_reducible exact na0,by with_reducible exact Nat.sub_le _ _,by simp,rfl,rfl⟩ I₂)
  case step =>
   rintro n ρ₁ σ₁ s₃ ⟨rfl,pre,b,m,rfl,hb5,hm,hpl,hbeg,rfl⟩ I₃
   refine ⟨decide ((b : Int) < 5),?test,fun hlt E' s₄ I₄ => ?body,fun hge s₄ I₄ => ?out⟩
   case test =>
    refine q0i (w3z (j:=0) (p:=.int (b : Int)) (w2o (q0b rfl rfl) List.lookup_cons_self) (q2c q0t op_neg) (by simp) (by simp) (by simp;(with_reducible refine nae ?_;decide))) q0t op_lt rfl
   case body =>
    have hb : b < 5:=by
     have:=of_decide_eq_true hlt
     lia
    obtain ⟨hd0,hd2⟩:=hd1 b hb
    refine q1r fun K' hK' => ?_
    have item : ∀ {p1 p2 p3 p4 : Pos} {nn : Nat},PurE prog w C (a :: mu) A (lawEnv P L) ((q4h,.val (.ref a)) :: (q8x,.int (f : Int)) :: ρ) ((a,Mlst (natsPV (pre ++ [b]))) :: σ') (.Subscript (.Name q4h p1) (.UnaryOp .USub (.Constant (.int 1) nn p2) p3) p4) (.int (b : Int)):=fun {p1 p2 p3 p4 nn} =>
     w3z (j:=0) (p:=.int (b : Int)) (w2o (q0b rfl rfl) List.lookup_cons_self) (q2c q0t op_neg) (by simp) (by simp) (by simp;(with_reducible refine nae ?_;decide)) (fun _ _ => rfl)
    refine q0a (q4z (a:=a) (l:=natsPV (pre ++ [b])) (p:=.int ((b + ds.getD b 1 : Nat) : Int)) I₄ List.lookup_cons_self (.head _) (q0b rfl rfl) (q0c (q0k item (q0z (q0l (q0b hds rfl)) item (q6x (by lia) 1) (by rw [List.length_map];(with_reducible refine nag ?_;decide)) (fun _ _ => rfl)) op_add) q0g (fun _ => rfl)) (by rw [List.length_map];simp;(with_reducible refine nad ?_;decide)) (fun s₅ I₅ => ?_) rfl)
    obtain ⟨m',rfl⟩ : ∃ m',m = m' + 1:=⟨m - 1,by with_reducible exact nh1⟩
    refine wpAny_execs_nil (hK' _ _ ⟨rfl,5 - (b + ds.getD b 1),_,_,by with_reducible exact nf9,⟨rfl,pre ++ [b],b + ds.getD b 1,m',rfl,hd2,by with_reducible exact na9,?_,?_,rfl⟩,?_⟩)
    ·have e : (begF ds 5 f).length ≤ 6:=(hB f hf).len
     rw [hbeg] at e
     have : begF ds (m' + 1) b = b :: begF ds m' (b + ds.getD b 1):=by rw [begF,if_pos hb]
     rw [this] at e
     have h0 : 1 ≤ (begF ds m' (b + ds.getD b 1)).length:=by cases m' <;> unfold begF <;> (try split) <;> simp
     rw [List.length_append,List.length_cons] at e
     rw [List.length_append,List.length_singleton]
     lia
    ·rw [hbeg,begF,if_pos hb];simp
    ·have:=I₅.dedup
     rw [← List.map_singleton (f:=fun (x : Nat) => PV.int (x : Int)),← List.map_append] at this
     exact this
   case out =>
    have hb : b = 5:=by
     have:=of_decide_eq_false hge
     lia
    subst hb
    have hbeg5 : begF ds 5 f = pre ++ [5]:=by
     rw [hbeg]
     cases m <;> simp [begF]
    rw [← hbeg5] at I₄
    have I₅:=I₄.freeze (x:=q4h) (σ':=σ') ha hamu List.lookup_cons_self rfl (fun b m e => ⟨by rw [List.lookup_cons,show (b == a) = false by simpa using haσ b m e];exact e,haσ b m e⟩) I.sub
    have hbl:=(hB f hf).len
    have hbe : ∀ j,(begF ds 5 f).getD j 0 ≤ 5:=fun j => by
     rw [List.getD_eq_getElem?_getD]
     cases q : (begF ds 5 f)[j]? with
     | none => exact Nat.zero_le _
     | some b => exact (hB f hf).le b (List.mem_of_getElem? q)
    have hwx : ∀ x ∈ ws,x.length ≤ 5:=fun x hx => (hws x hx).len.2
    have hrowl : ∀ a b,(((ws.take b).drop a).map (·.length)).sum ≤ 25 ∧ ((ws.take b).drop a).length ≤ 5:=fun a b => by
     have h1 : ((ws.take b).drop a).length ≤ 5:=by rw [List.length_drop,List.length_take];with_reducible exact nb2
     have h2:=q4e (l:=((ws.take b).drop a).map (·.length)) (b:=5) fun x hx => by
      obtain ⟨t,ht,rfl⟩:=List.mem_map.mp hx
      exact hwx t (List.mem_of_mem_take (List.mem_of_mem_drop ht))
     rw [List.length_map] at h2
     lia
    have hjl : ∀ a b,(PySem.Txt.join ⟨#[32]⟩ ((ws.take b).drop a)).length ≤ 30:=fun a b => by
     have:=w7a ⟨#[32]⟩ ((ws.take b).drop a)
     have h1:=hrowl a b
     have e : (⟨#[32]⟩ : PySem.Str).length = 1:=rfl
     rw [e] at this
     lia
    have hdl' : ∀ a b,(dueRow ws a b).length ≤ 31:=fun a b => by
     have e : (dueRow ws a b).length = 1 + (PySem.Txt.join ⟨#[32]⟩ ((ws.take b).drop a)).length:=by
      show (_ ++ _ : Array Nat).size = _
      rw [Array.size_append];rfl
     have:=hjl a b
     lia
    -- due
    refine q0a (q0h (p:=.str (dueS ws (begF ds 5 f))) I₅ (q0p rfl rfl) ?due (fun s₆ I₆ => ?_))
    case due =>
     refine q6r (sep:=⟨#[10]⟩) (ys:=(List.range ((begF ds 5 f).length - 1)).map fun j => dueRow ws ((begF ds 5 f).getD j 0) ((begF ds 5 f).getD (j + 1) 0)) q1m (q0l (pur_of (PurNE.pur (q1k [(q3a,.lst (ws.map .str)),(q4h,.lst (natsPV (begF ds 5 f)))] (l:=rangeL 1 1 (((begF ds 5 f).length : Int) - 1).toNat) (g:=fun j => some (.str (dueRow ws ((begF ds 5 f).getD j 0) ((begF ds 5 f).getD (j + 1) 0)))) ?h3 I₅.cells r.none ?it ?turn (by rw [w1j];lia))) (congrArg PV.lst ?eq))) rfl (by decide) ?sz
     case eq =>
      rw [w1j,q3n,List.map_map,show (((begF ds 5 f).length : Int) - 1).toNat = (begF ds 5 f).length - 1 by with_reducible exact nf6]
      rfl
     case h3 =>
      have:=V.words
      walk_at "look"
     case it =>
      refine w5t (q0f (q0e hC rfl) rfl rfl) q0t ?len (by decide) (by lia)
      have hl : (natsPV (begF ds 5 f)).length = (begF ds 5 f).length:=List.length_map ..
      exact hl ▸ q1a (z:=.int (natsPV (begF ds 5 f)).length) (q0f (q0e hC rfl) rfl rfl) (q0c (q0b (p:=.lst (natsPV (begF ds 5 f))) rfl rfl) q0g (fun _ => rfl)) (op_len (by rw [hl];(with_reducible refine nae ?_;decide))) (fun _ => rfl) rfl
     case sz =>
      have:=q4e (l:=((List.range ((begF ds 5 f).length - 1)).map fun j => dueRow ws ((begF ds 5 f).getD j 0) ((begF ds 5 f).getD (j + 1) 0)).map (·.length)) (b:=31) fun x hx => by
       rw [List.map_map] at hx
       obtain ⟨j,hj,rfl⟩:=List.mem_map.mp hx
       exact hdl' _ _
      rw [List.length_map,List.length_map,List.length_range] at this
      rw [List.length_map,List.length_range]
      with_reducible exact ng5
     case turn =>
      refine q3k (fun L D => by walk_at "sto") rfl fun L₁ D₁ ys j p hp => ?_
      obtain ⟨hj,rfl⟩:=w5i hp
      have hnl : (natsPV (begF ds 5 f)).length = (begF ds 5 f).length:=List.length_map ..
      have i1:=q6x (l:=begF ds 5 f) (i:=j) (by lia) 0
      have i2:=q6x (l:=begF ds 5 f) (i:=j + 1) (by lia) 0
      refine q0k (p:=.str ⟨#[32]⟩) (q:=.str (PySem.Txt.join ⟨#[32]⟩ ((ws.take ((begF ds 5 f).getD (j + 1) 0)).drop ((begF ds 5 f).getD j 0)))) q1m (q6r (ys:=(ws.take ((begF ds 5 f).getD (j + 1) 0)).drop ((begF ds 5 f).getD j 0)) q1m (q0l ?sl) rfl (by decide) ?z1) (q5o ?z2)
      case z1 => have:=hrowl ((begF ds 5 f).getD j 0) ((begF ds 5 f).getD (j + 1) 0);lia
      case z2 => have:=hjl ((begF ds 5 f).getD j 0) ((begF ds 5 f).getD (j + 1) 0);show 1 + _ ≤ _;lia
      case sl =>
       refine pur_of (PurNE.pur (q1i (lo:=some (((begF ds 5 f).getD j 0 : Nat) : Int)) (hi:=some (((begF ds 5 f).getD (j + 1) 0 : Nat) : Int)) (st:=none) (l:=ws.map .str) (q0l (q0b rfl rfl)) (part1 ?lo) (part1 ?hi) part0 (by decide) (by rw [List.length_map];(with_reducible refine naf ?_;decide)) q4n)) (congrArg PV.lst (strs_mid (by rw [hwl];exact hbe _) (by rw [hwl];exact hbe _)))
       case lo => exact q0z (q0l (q0b rfl rfl)) (pur_of (q0k (q0b rfl rfl) q0t op_sub) (congrArg PV.int (by lia : (((j + 1 : Nat) : Int) - 1 = (j : Int))))) i1 (by rw [hnl];(with_reducible refine nae ?_;decide)) (fun _ _ => rfl)
       case hi => exact q0z (q0l (q0b rfl rfl)) (q0b rfl rfl) i2 (by rw [hnl];(with_reducible refine nae ?_;decide)) (fun _ _ => rfl)
    have hdue : (dueS ws (begF ds 5 f)).length ≤ 200:=by
     have h1:=w7a ⟨#[10]⟩ ((List.range ((begF ds 5 f).length - 1)).map fun j => dueRow ws ((begF ds 5 f).getD j 0) ((begF ds 5 f).getD (j + 1) 0))
     have:=q4e (l:=((List.range ((begF ds 5 f).length - 1)).map fun j => dueRow ws ((begF ds 5 f).getD j 0) ((begF ds 5 f).getD (j + 1) 0)).map (·.length)) (b:=31) fun x hx => by
      rw [List.map_map] at hx
      obtain ⟨j,hj,rfl⟩:=List.mem_map.mp hx
      exact hdl' _ _
     rw [List.length_map,List.length_map,List.length_range] at this
     rw [List.length_map,List.length_range] at h1
     have e : (⟨#[10]⟩ : PySem.Str).length = 1:=rfl
     rw [e] at h1
     unfold dueS
     lia
    have hwf:=q9h (l:=ws) (i:=f) (by lia)
    have hwfk : WordOk (ws.getD f ⟨#[]⟩):=hws _ (by rw [List.getD_eq_getElem?_getD,List.getElem?_eq_getElem (by lia)];exact List.getElem_mem _)
    have hwfl:=hwfk.len
    have hpl : (ws.map PV.str).length = 5:=by rw [List.length_map,hwl]
    -- the folding from first on
    refine q0a (st_IfN I₆ (q3o (b:=(folded W 0 sBlank (ws.drop f) != dueS ws (begF ds 5 f))) ?t1 (by rw [h1 f hf];simp)) (fun s₇ I₇ => ?_))
    case t1 =>
     with_reducible refine' q0i (q1q ?fnvq (q0c q0t (q0c q1m (q0c ?wdvq (q0c ?slvq q0g ?c4vq) ?c3vq) ?c2vq) ?c1vq) (q7y hC) (w1o hC hp (n:=n + 1) ?hwvq ?hlvq ?hbvq ?h0vq ?h1vq ?hnevq) ?rvq ?c0vq) ?duevq w4b ?c5vq
     case fnvq => exact q0f (q0e hC rfl) rfl rfl
     case wdvq => exact q0b V.width rfl
     case slvq => exact pur_of (PurNE.pur (q1i (lo:=some (f : Int)) (hi:=none) (st:=none) (l:=ws.map .str) (q0l (q0b V.words rfl)) (part1 (q0b rfl rfl)) part0 part0 (by decide) (by (with_reducible refine naf ?_;decide)) q4n)) (congrArg PV.lst (w3p (by lia)))
     case c1vq => exact fun _ => rfl
     case c2vq => exact fun _ => rfl
     case c3vq => exact fun _ => rfl
     case c4vq => exact fun _ => rfl
     case c0vq => exact fun _ => rfl
     case c5vq => exact rfl
     case hwvq => exact fun x hx => hws x (List.mem_of_mem_drop hx)
     case hlvq => rw [List.length_drop];with_reducible exact nh3
     case hbvq => exact .inr rfl
     case h0vq => decide
     case h1vq => decide
     case hnevq => intro q;have:=congrArg List.length q;rw [List.length_drop,hwl] at this;simp at this;lia
     case rvq => exact r
     case duevq => exact q0b rfl rfl
    -- blank,head,behind
    have hbF : (blankF f).length ≤ 1:=by unfold blankF;split <;> decide
    refine q0a (q0h (p:=.str (blankF f)) I₇ (q0p rfl rfl) ?blank (fun s₈ I₈ => ?_))
    case blank =>
     have hm : ([PV.str ⟨#[]⟩,PV.str ⟨#[32]⟩] : List PV)[f % 2]? = some (.str (blankF f)):=by
      unfold blankF
      rcases Nat.mod_two_eq_zero_or_one f with q | q <;> rw [q] <;> rfl
     have e2 : ((f : Int)).fmod 2 = ((f % 2 : Nat) : Int):=by rw [Int.fmod_eq_emod_of_nonneg _ (by decide)];lia
     with_reducible refine' q0z (q0l (q6v ?psxq ?lxq)) ?kxq ?hkxq ?szxq ?hsxq
     case psxq => repeat' walk_at "pe"
     case lxq => exact Nat.le_of_ble_eq_true rfl
     case kxq => exact pur_of (q0k (q0b (p:=.int (f : Int)) rfl rfl) q0t (op_mod (by decide))) (congrArg PV.int e2)
     case hkxq => exact hm
     case szxq => exact Nat.lt_of_lt_of_le (by decide : 2 < 2 ^ 10) (by decide)
     case hsxq => exact fun _ _ => rfl
    have lenw : ∀ {ρ' : List (PySem.Str × PV)} {p1 p2 p3 p4 p5 : Pos},ρ'.lookup q3a = some (.lst (ws.map .str)) → ρ'.lookup q8x = some (.int (f : Int)) → PurE prog w C mu A (lawEnv P L) ρ' σ' (.Call (.Name ⟨#[108,101,110]⟩ p1) [.Subscript (.Name q3a p2) (.Name q8x p3) p4] [] p5) (.int ((ws.getD f ⟨#[]⟩).length : Int)):=fun {ρ' p1 p2 p3 p4 p5} e1 e2 =>
     q1a (q0f (q0e hC rfl) rfl rfl) (q0c (q6f e1 e2 (by lia) (by (with_reducible refine naf ?_;decide))) q0g (fun _ => rfl)) (q5n (by show (ws.getD f ⟨#[]⟩).length < _;lia)) (fun _ => rfl) rfl
    refine q0a (q0h (p:=.int (headF ws f)) I₈ (q0p rfl rfl) ?hed (fun s₉ I₉ => ?_))
    case hed =>
     with_reducible refine' q0k (q0k q0t ?lenyq op_add) (q1a ?fnyq (q0c ?blyq q0g ?c1yq) (q5n (x:=blankF f) ?szyq) ?c2yq ?c3yq) op_sub
     case lenyq => exact lenw V.words rfl
     case fnyq => exact q0f (q0e hC rfl) rfl rfl
     case blyq => exact q0b rfl rfl
     case szyq => show (blankF f).length < _;(with_reducible refine nae ?_;decide)
     case c1yq => exact fun _ => rfl
     case c2yq => exact fun _ => rfl
     case c3yq => rfl
    refine q0a (q0h (p:=.int (q2q ws ds f)) I₉ (q0p rfl rfl) ?behind (fun s₁₀ I₁₀ => ?_))
    case behind =>
     have hdv:=q6x (l:=ds) (i:=f) (by lia) 1
     refine q9v (b:=decide (1 < ((ds.getD f 1 : Nat) : Int))) ?tzq ?xzq ?yzq
     case tzq => exact q0i (q0z (q0l (q0b hds rfl)) (q0b rfl rfl) hdv (by rw [List.length_map];(with_reducible refine nag ?_;decide)) (fun _ _ => rfl)) q0t op_gt rfl
     case xzq =>
      intro q
      have q:=of_decide_eq_true q
      refine pur_of (q0b (p:=.int (headF ws f)) rfl rfl) (congrArg PV.int ?_)
      unfold q2q
      rw [if_pos (by lia)]
     case yzq =>
      intro q
      have q:=of_decide_eq_false q
      refine pur_of (q0k q0t (lenw V.words rfl) op_add) (congrArg PV.int ?_)
      unfold q2q
      rw [if_neg (by lia)]
    -- the folding behind a head
    refine q0a (st_IfN I₁₀ (q3o (b:=(folded W (headF ws f) (blankF f) (ws.drop (f + 1)) != sSlice (dueS ws (begF ds 5 f)) (some (q2q ws ds f)) none)) ?t2 (by rw [h2 f hf];simp)) (fun s₁₁ I₁₁ => ?_))
    case t2 =>
     with_reducible refine' q0i (q1q ?fnuq (q0c ?hduq (q0c ?bluq (q0c ?wduq (q0c ?sluq q0g ?c4uq) ?c3uq) ?c2uq) ?c1uq) (q7y hC) (w1o hC hp (n:=n + 1) ?hwuq ?hluq ?hbuq ?h0uq ?h1uq ?hneuq) ?ruq ?c0uq) (q9s ?dueuq (part1 ?beuq) part0 ?z1uq ?z2uq) w4b ?c5uq
     case fnuq => exact q0f (q0e hC rfl) rfl rfl
     case hduq => exact q0b rfl rfl
     case bluq => exact q0b rfl rfl
     case wduq => exact q0b V.width rfl
     case sluq => exact pur_of (PurNE.pur (q1i (lo:=some ((f + 1 : Nat) : Int)) (hi:=none) (st:=none) (l:=ws.map .str) (q0l (q0b V.words rfl)) (part1 (pur_of (q0k (q0b (p:=.int (f : Int)) rfl rfl) q0t op_add) (congrArg PV.int (by lia)))) part0 part0 (by decide) (by (with_reducible refine naf ?_;decide)) q4n)) (congrArg PV.lst (w3p (by lia)))
     case c1uq => exact fun _ => rfl
     case c2uq => exact fun _ => rfl
     case c3uq => exact fun _ => rfl
     case c4uq => exact fun _ => rfl
     case c0uq => exact fun _ => rfl
     case c5uq => exact rfl
     case hwuq => exact fun x hx => hws x (List.mem_of_mem_drop hx)
     case hluq => rw [List.length_drop];with_reducible exact nh3
     case hbuq =>
      unfold blankF
      split
      ·exact .inl rfl
      ·exact .inr rfl
     case h0uq => unfold headF;lia
     case h1uq => unfold headF;lia
     case hneuq => intro _;unfold headF;lia
     case ruq => exact r
     case dueuq => exact q0b rfl rfl
     case beuq => exact q0b rfl rfl
     case z1uq => (with_reducible refine nad ?_;decide)
     case z2uq => exact Nat.le_trans (indices_len_le _ _ _) (by (with_reducible refine nad ?_;decide))
    exact wpAny_execs_nil (hK _ _ ⟨_,_,I₁₁,rfl,⟨V.words,V.width,V.base,V.apart⟩,hds⟩)
end
end
section
open PySem PySem.W PySem.Calls PyProof.Rows
set_option maxHeartbeats 4000000
variable {prog : Program} {w : World} {P : Params} {C : Cfg}
section
variable {mu mu' nu : List Addr} {s₀ s s' : Shared} {env : Env} {ρ : List (PySem.Str × PV)} {σ σ' : List (Addr × MO)} {A : Around} {E : Value → Shared → Prop}
private theorem pvs_take (l : List PV) (b : Nat) (hb : b ≤ l.length) : q1z l none (some (b : Int)) none = l.take b:=by
 have h1 : (sliceBounds none (some (b : Int)) none l.length).1 = ((0 : Nat) : Int) ∧ (sliceBounds none (some (b : Int)) none l.length).2.1 = ((b : Nat) : Int):=by
  refine ⟨rfl,?_⟩
  show max (0 : Int) (min (if (b : Int) < 0 then (b : Int) + l.length else b) l.length) = _
  rw [if_neg (by lia)]
  lia
 have:=q2n l none (some (b : Int)) 0 b h1.1 h1.2 hb
 rw [List.drop_zero] at this
 exact this
private theorem z0a (l : List PV) (a : Nat) (h : a ≤ l.length) : q1z l (some (a : Int)) none none = l.drop a:=by
 have h1 : (sliceBounds (some (a : Int)) none none l.length).1 = ((a : Nat) : Int) ∧ (sliceBounds (some (a : Int)) none none l.length).2.1 = ((l.length : Nat) : Int):=by
  refine ⟨?_,rfl⟩
  show max (0 : Int) (min (if (a : Int) < 0 then (a : Int) + l.length else a) l.length) = _
  rw [if_neg (by lia)]
  lia
 have:=q2n l (some (a : Int)) none a l.length h1.1 h1.2 (Nat.le_refl _)
 rw [List.take_length] at this
 exact this
private theorem z0f {p : Part} {m : Nat} (h : m < p.length) : (p.map pHp)[m]? = some (pHp (p.getD m [])):=by
 rw [List.getElem?_map,List.getD_eq_getElem?_getD,List.getElem?_eq_getElem h];rfl
private theorem q7q {H : List Part} {j : Nat} {p : PV} (h : (H.map pPt)[j]? = some p) : ∃ q,H[j]? = some q ∧ p = pPt q:=by
 rw [List.getElem?_map] at h
 cases q : H[j]? with
 | none => rw [q] at h;cases h
 | some x => rw [q] at h;cases h;exact ⟨x,rfl,rfl⟩
private theorem w4k {h : Heap1} {j : Nat} {p : PV} (e : (h.map fun (x : Nat) => PV.int (x : Int))[j]? = some p) : ∃ x,h[j]? = some x ∧ p = .int (x : Int):=by
 rw [List.getElem?_map] at e
 cases q : h[j]? with
 | none => rw [q] at e;cases e
 | some x => rw [q] at e;cases e;exact ⟨x,rfl,rfl⟩
noncomputable def keepF (ap : Nat → Nat → Bool) (k : Nat) : PV → Option PV
 | .int x => if ap x.toNat k then none else some (.int x)
 | _ => none
private theorem keep_len (ap : Nat → Nat → Bool) (k : Nat) (h : Heap1) : ((h.map fun (x : Nat) => PV.int (x : Int)).filterMap (keepF ap k)).length = (h.filter fun i => !ap i k).length:=by
 induction h with
 | nil => rfl
 | cons x h ih =>
  rw [List.map_cons,List.filterMap_cons,List.filter_cons]
  have e : keepF ap k (.int (x : Int)) = if ap x k then none else some (.int (x : Int)):=by
   show (if ap (x : Int).toNat k then none else some (PV.int (x : Int))) = _
   rw [Int.toNat_natCast]
  rw [e]
  cases ap x k with
  | true => exact ih
  | false => show _ + 1 = _ + 1;rw [ih]
private theorem q5z {α : Type} (f : Nat → Option α) (n : Nat) : (List.range (n + 1)).filterMap f = (List.range n).filterMap f ++ (match f n with | some z => [z] | none => []):=by
 rw [List.range_succ,List.filterMap_append,List.filterMap_cons,List.filterMap_nil]
 cases f n <;> rfl
private theorem q9m {x : PySem.Str} {a : Addr} {nu : List Addr} (hn : okName x = true) (hk : env.kindOf x = some .local) (h : env.locals ∈ a :: nu:=by exact .tail _ (.head _)) : StOk env (a :: nu) x:=⟨hn,.inl ⟨hk,h⟩⟩
structure HeapV (ρ : List (PySem.Str × PV)) (ws : List PySem.Str) (W B : Int) (ap : Nat → Nat → Bool) (ds : List Nat) : Prop extends LawV ρ ws W B ap where
 dots : ρ.lookup w0f = some (.lst (ds.map fun (x : Nat) => PV.int (x : Int)))
private theorem z0z (hC : CfgOk P C) {ws : List PySem.Str} {W B : Int} {ap : Nat → Nat → Bool} {ds : List Nat} {n : Nat} {L : Addr} {Q : Flow → Shared → Prop} (r : Rm A (n + 2)) 
  (I : In C mu (q0j (lawEnv P L)) (lawEnv P L) ρ σ s₀ s) (V : HeapV ρ ws W B ap ds) (hh : ρ.lookup q1u = some (pHs (heapsS ap 0)))
  (k : ∀ ρ' s',In C mu (q0j (lawEnv P L)) (lawEnv P L) ρ' σ s₀ s' → HeapV ρ' ws W B ap ds → ρ'.lookup q1u = some (pHs (heapsS ap 5)) → Q .next s') : wpAny (model prog w) A (exec (lawSt P 10) (lawEnv P L)) Q E s:=by
 refine q3m (l:=rangeL 0 1 5) I r.none (q0u (n:=5) (q0f (q0e hC rfl) rfl rfl) q0t (by decide)) (fun i ρ' σ' => σ' = σ ∧ HeapV ρ' ws W B ap ds ∧ ρ'.lookup q1u = some (pHs (heapsS ap i))) (fun _ _ _ _ => False) ⟨rfl,V,hh⟩ ?turn ?kE (fun _ _ _ _ h _ => h.elim)
 case kE =>
  rintro ρ' σ' s' ⟨rfl,V',hm'⟩ I'
  exact wpAny_execs_nil (k ρ' s' I' V' hm')
 case turn =>
  intro i p v ρ σ' s hp' hJ I y
  refine q2a I (q2h rfl rfl rfl) y fun s₁ I₁ => ?_
  refine q1r fun K hK => ?_
  obtain ⟨rfl,V,hh⟩:=hJ
  obtain ⟨hi,rfl⟩:=q1e hp'
  have hok:=q5g ap i
  have hlen : (heapsS ap i).length ≤ 10000:=by
   have h1:=q7v ap i
   have h2 : ∀ i,i < 5 → (i + 1) ^ i ≤ 10000:=by decide
   exact Nat.le_trans h1 (h2 i hi)
  have hh₁ : ((nm_k,PV.int (i : Int)) :: ρ).lookup q1u = some (pHs (heapsS ap i)):=hh
  -- more = [..]
  refine q0a (w1d (l:=(heapsS ap i).map pPt) (g:=fun j => ((heapsS ap i).map pPt)[j]?.map fun p => match p with | .lst l => .lst (l ++ [.lst [.int (i : Int)]]) | p => p) (CompSide.of (ρc:=[(nm_k,PV.int (i : Int))]) rfl rfl rfl ?h3) I₁ (.head _) r.none ?it rfl ?turns (by rw [List.length_map];(with_reducible refine nad ?_;decide)) (fun _ _ => rfl) (fun _ => rfl) (fun a s₂ ha hamu I₂ => ?_) rfl rfl)
  case h3 => walk_at "look"
  case it => exact IterE.of r.none (q0b hh₁ rfl) q4r
  case turns =>
   refine q7l (fun L D => by walk_at "sto") rfl fun L₁ D₁ ys j p hp => ?_
   obtain ⟨q,hq,rfl⟩:=q7q hp
   have hqk:=hok q (List.mem_of_getElem? hq)
   refine PurNE.pur (q4g (p:=pPt q) (q:=.lst [.lst [.int (i : Int)]]) (q0b rfl rfl) ?lit (q5p ?sz))
   case lit => repeat' walk_at "pe"
   case sz => rw [List.length_map];have:=hqk.1;simp;lia
  have hu : A.units < cLine:=by
   have:=r.units
   have e : cLine = 9900:=rfl
   lia
  rw [q7n] at I₂
  have hmap : ((heapsS ap i).map pPt).map (fun p => match p with | .lst l => .lst (l ++ [.lst [.int (i : Int)]]) | p => p) = ((heapsS ap i).map fun p => p ++ [[i]]).map pPt:=by
   rw [List.map_map,List.map_map]
   refine List.map_congr_left fun q _ => ?_
   show PV.lst (q.map pHp ++ [.lst [.int (i : Int)]]) = PV.lst ((q ++ [[i]]).map pHp)
   rw [List.map_append]
   rfl
  rw [hmap] at I₂
  have haσ : ∀ b m,σ'.lookup b = some m → b ≠ a:=fun b m e q => hamu (q ▸ (I.act.st b m e).1)
  have hflat : ∀ j,((heapsS ap i).map fun p => p ++ [[i]]).length + (((heapsS ap i).take j).flatMap (joins ap i)).length ≤ 60000:=fun j => by
   have h : ∀ H : List Part,(∀ p ∈ H,PartOk i p) → (H.flatMap (joins ap i)).length ≤ 5 * H.length:=fun H => by
    induction H with
    | nil => intro _;exact Nat.le_refl _
    | cons p H ihH =>
     intro hH
     rw [List.flatMap_cons,List.length_append,List.length_cons,Nat.mul_succ]
     have h1:=w4i ap i p
     have h2:=(hH p (.head _)).1
     have h3:=ihH fun q hq => hH q (.tail _ hq)
     lia
   have h1:=h ((heapsS ap i).take j) fun p hp => hok p (List.mem_of_mem_take hp)
   have h2 : ((heapsS ap i).take j).length ≤ (heapsS ap i).length:=by rw [List.length_take];with_reducible exact Nat.min_le_right _ _
   rw [List.length_map]
   lia
  -- for parted in heaps
  refine q0a (q3m (l:=(heapsS ap i).map pPt) I₂ r.none (IterE.of r.none (q0b hh₁ rfl) q4r)
   (fun j ρ' σ'' => σ'' = (a,Mlst ((((heapsS ap i).map fun p => p ++ [[i]]) ++ ((heapsS ap i).take j).flatMap (joins ap i)).map pPt)) :: σ' ∧ HeapV ρ' ws W B ap ds ∧ ρ'.lookup q1u = some (pHs (heapsS ap i)) ∧ ρ'.lookup w2r = some (.val (.ref a)) ∧ ρ'.lookup nm_k = some (.int (i : Int)))
   (fun _ _ _ _ => False) ⟨by simp,⟨⟨V.words,V.width,V.base,V.apart⟩,V.dots⟩,hh,rfl,rfl⟩ ?turn1 ?kE1 (fun _ _ _ _ h _ => h.elim))
  case kE1 =>
   rintro ρ₃ σ₃ s₃ ⟨rfl,V₃,hh₃,hm₃,hk₃⟩ I₃
   rw [List.length_map,List.take_length] at I₃
   have I₄:=I₃.freeze (x:=w2r) (σ':=σ') ha hamu List.lookup_cons_self hm₃ (fun b m e => ⟨by rw [List.lookup_cons,show (b == a) = false by simpa using haσ b m e];exact e,haσ b m e⟩) I.sub
   refine wpAny_execs_nil (q0a (q0h (p:=pHs (heapsS ap (i + 1))) I₄ (q0p rfl rfl) (q0b rfl rfl) (fun s₅ I₅ => ?_)))
   exact wpAny_execs_nil (hK _ _ ⟨_,_,I₅,rfl,⟨⟨V₃.words,V₃.width,V₃.base,V₃.apart⟩,V₃.dots⟩,rfl⟩)
  case turn1 =>
   intro j p v ρ₃ σ₃ s₃ hp₃ hJ I₃ y₃
   refine q2a I₃ (q9m rfl rfl) y₃ fun s₄ I₄ => ?_
   refine q1r fun K hK => ?_
   obtain ⟨rfl,V₃,hh₃,hm₃,hk₃⟩:=hJ
   obtain ⟨q,hq,rfl⟩:=q7q hp₃
   have hqk:=hok q (List.mem_of_getElem? hq)
   have hql : (q.map pHp).length = q.length:=List.length_map ..
   have hq5:=hqk.1
   have htk : ((heapsS ap i).take (j + 1)).flatMap (joins ap i) = ((heapsS ap i).take j).flatMap (joins ap i) ++ joins ap i q:=by
    rw [List.take_add_one,hq,List.flatMap_append];simp
   -- for m in range(len(parted))
   refine q0a (q3m (l:=rangeL 0 1 q.length) I₄ r.none (q0u (q0f (q0e hC rfl) rfl rfl) (hql ▸ q1a (z:=.int (q.map pHp).length) (q0f (q0e hC rfl) rfl rfl) (q0c (q0b (p:=pPt q) rfl rfl) q0g (fun _ => rfl)) (op_len (by rw [hql];lia)) (fun _ => rfl) rfl) (by lia))
    (fun m ρ' σ'' => σ'' = (a,Mlst ((((heapsS ap i).map fun p => p ++ [[i]]) ++ ((heapsS ap i).take j).flatMap (joins ap i) ++ (List.range m).filterMap (fun m => if q4q ap i (q.getD m []) then some (putIn q m i) else none)).map pPt)) :: σ' ∧ HeapV ρ' ws W B ap ds ∧ ρ'.lookup q1u = some (pHs (heapsS ap i)) ∧ ρ'.lookup w2r = some (.val (.ref a)) ∧ ρ'.lookup nm_k = some (.int (i : Int)) ∧ ρ'.lookup w0e = some (pPt q))
    (fun _ _ _ _ => False) ⟨by simp,⟨⟨V₃.words,V₃.width,V₃.base,V₃.apart⟩,V₃.dots⟩,hh₃,hm₃,hk₃,rfl⟩ ?turn2 ?kE2 (fun _ _ _ _ h _ => h.elim))
   case kE2 =>
    rintro ρ₅ σ₅ s₅ ⟨rfl,V₅,hh₅,hm₅,hk₅,hp₅⟩ I₅
    rw [q1d] at I₅
    refine wpAny_execs_nil (wpAny_execs_nil (hK _ _ ⟨_,_,I₅,?_,V₅,hh₅,hm₅,hk₅⟩))
    rw [htk,← List.append_assoc]
    rfl
   case turn2 =>
    intro m p₂ v₂ ρ₅ σ₅ s₅ hp₅ hJ I₅ y₅
    refine q2a I₅ (q9m rfl rfl) y₅ fun s₆ I₆ => ?_
    refine q1r fun K hK => ?_
    obtain ⟨rfl,V₅,hh₅,hm₅,hk₅,hpt₅⟩:=hJ
    obtain ⟨hm,rfl⟩:=q1e hp₅
    have hpt₆ : ((nm_m,PV.int (m : Int)) :: ρ₅).lookup w0e = some (pPt q):=hpt₅
    have hhm : q.getD m [] ∈ q:=by
     rw [List.getD_eq_getElem?_getD,List.getElem?_eq_getElem hm]
     exact List.getElem_mem _
    obtain ⟨hh1,hh2⟩:=hqk.2 _ hhm
    have item : ∀ {p1 p2 p3 : Pos} {τ : List (Addr × MO)} ,PurE prog w C (a :: mu) A (lawEnv P L) ((nm_m,PV.int (m : Int)) :: ρ₅) τ (.Subscript (.Name w0e p1) (.Name nm_m p2) p3) (pHp (q.getD m [])):=fun {p1 p2 p3 τ} =>
     q0z (q0l (q0b hpt₆ rfl)) (q0b rfl rfl) (z0f hm) (by rw [hql];lia) (fun _ _ => rfl)
    have hS : sizeLine = 2 ^ 24:=by decide +kernel
    have hk₆ : ((nm_m,PV.int (m : Int)) :: ρ₅).lookup nm_k = some (.int (i : Int)):=hk₅
    have hap₆ : ((nm_m,PV.int (m : Int)) :: ρ₅).lookup q3w = some (apPV ap):=V₅.apart
    have hm₆ : ((nm_m,PV.int (m : Int)) :: ρ₅).lookup w2r = some (.val (.ref a)):=hm₅
    have hsz : (((heapsS ap i).map fun p => p ++ [[i]]) ++ ((heapsS ap i).take j).flatMap (joins ap i) ++ (List.range m).filterMap (fun m => if q4q ap i (q.getD m []) then some (putIn q m i) else none)).length ≤ 70000:=by
     have h1:=hflat j
     have h2:=List.length_filterMap_le (fun m => if q4q ap i (q.getD m []) then some (putIn q m i) else none) (List.range m)
     rw [List.length_range] at h2
     rw [List.length_append,List.length_append]
     lia
    have hV : HeapV ((nm_m,PV.int (m : Int)) :: ρ₅) ws W B ap ds:=⟨⟨V₅.words,V₅.width,V₅.base,V₅.apart⟩,V₅.dots⟩
    refine q0a (st_If I₆ (b:=q4q ap i (q.getD m [])) ?test (fun s₇ I₇ => ?_))
    case test =>
     refine q3o (q0i (PurNE.pur (q1k [(q3w,apPV ap),(nm_k,.int (i : Int))] (l:=(q.getD m []).map fun (x : Nat) => PV.int (x : Int)) (g:=fun t => ((q.getD m []).map fun (x : Nat) => PV.int (x : Int))[t]?.bind (keepF ap i)) ?h3 I₆.cells r.none ?it2 ?turn3 (by rw [List.length_map];lia))) (p:=.lst _) (q:=.lst []) ?nilq (z0k hu) rfl) ?eq
     case nilq => repeat' walk_at "pe"
     case h3 => walk_at "look"
     case it2 => exact IterE.of r.none item q4r
     case eq =>
      rw [q6q,keep_len]
      rfl
     case turn3 =>
      refine q5l (fun L D => by walk_at "sto") rfl fun L₁ D₁ ys t p hp => ?_
      obtain ⟨x,hx,rfl⟩:=w4k hp
      have hxi:=hh2 x (List.mem_of_getElem? hx)
      rw [hp]
      show match (if ap (x : Int).toNat i then none else some (PV.int (x : Int))) with | none => _ | some z => _
      rw [Int.toNat_natCast]
      cases hb : ap x i with
      | true =>
       exact q6o (q3o (q8w (q1b (q7o (y:=nm_i) (z:=nm_k) rfl rfl rfl (by lia) hi) q1l)) (by rw [hb];rfl))
      | false =>
       exact ⟨q6o (q3o (q8w (q1b (q7o (y:=nm_i) (z:=nm_k) rfl rfl rfl (by lia) hi) q1l)) (by rw [hb];rfl)),q0b rfl rfl⟩
    cases hb : q4q ap i (q.getD m []) with
    | false =>
     refine wpAny_execs_nil (wpAny_execs_nil (hK _ _ ⟨_,_,I₇,?_,hV,hh₅,hm₅,hk₅,hpt₅⟩))
     rw [q5z,hb]
     simp
    | true =>
     refine q0a (q4z (a:=a) (p:=pPt (putIn q m i)) I₇ List.lookup_cons_self (.head _) (q0b hm₆ rfl) (q0c ?arg q0g (fun _ => rfl)) (by rw [List.length_map];(with_reducible refine nad ?_;decide)) (fun s₈ I₈ => ?_) rfl)
     case arg =>
      have e : pPt (putIn q m i) = .lst ((q.map pHp).take m ++ [.lst ((q.getD m []).map (fun (x : Nat) => PV.int (x : Int)) ++ [.int (i : Int)])] ++ (q.map pHp).drop (m + 1)):=by
       unfold putIn
       show PV.lst ((q.take m ++ [q.getD m [] ++ [i]] ++ q.drop (m + 1)).map pHp) = _
       rw [List.map_append,List.map_append,List.map_take,List.map_drop,List.map_singleton]
       show PV.lst (_ ++ [PV.lst ((q.getD m [] ++ [i]).map _)] ++ _) = _
       rw [List.map_append]
       rfl
      refine pur_of (PurNE.pur (q4g (PurNE.pur (q4g (pur_of (PurNE.pur (q1i (lo:=none) (hi:=some (m : Int)) (st:=none) (l:=q.map pHp) (q0l (q0b hpt₆ rfl)) part0 (part1 (q0b rfl rfl)) part0 (by decide) (by lia) q4n)) (congrArg PV.lst (pvs_take _ m (by lia)))) ?mid (q5p ?z1))) (pur_of (PurNE.pur (q1i (lo:=some ((m + 1 : Nat) : Int)) (hi:=none) (st:=none) (l:=q.map pHp) (q0l (q0b hpt₆ rfl)) (part1 (pur_of (q0k (q0b (p:=.int (m : Int)) rfl rfl) q0t op_add) (congrArg PV.int (by lia)))) part0 part0 (by decide) (by lia) q4n)) (congrArg PV.lst (z0a _ (m + 1) (by lia)))) (q5p ?z2))) e.symm
      case mid =>
       refine PurNE.pur (q6w (q0c (PurNE.pur (q4g item ?one (q5p ?z3))) q0g (fun _ => rfl)) (Nat.le_of_ble_eq_true rfl))
       case one => repeat' walk_at "pe"
       case z3 => rw [List.length_map];show _ + 1 ≤ 2 ^ 20;lia
      case z1 => rw [List.length_take,hql];show min m _ + 1 ≤ 2 ^ 20;with_reducible exact nd3
      case z2 => rw [List.length_append,List.length_take,List.length_drop,hql];show min m _ + 1 + _ ≤ 2 ^ 20;with_reducible exact nd2
     refine wpAny_execs_nil (wpAny_execs_nil (hK _ _ ⟨_,_,I₈.dedup,?_,hV,hh₅,hm₅,hk₅,hpt₅⟩))
     rw [q5z,hb]
     simp
end
end
section
open PySem PySem.W PySem.Calls PyProof.Rows
set_option maxHeartbeats 4000000
variable {prog : Program} {w : World} {P : Params} {C : Cfg}
noncomputable def prodN (B : Nat) (ds : List Nat) : Nat:=ds.foldl (fun v d => v * (B + 1 - d)) 1
noncomputable def valN (B : Nat) (ds : List Nat) : Nat → Nat
 | 0 => prodN B ds
 | k + 1 => valN B ds k / (B - k)
noncomputable def countH (ap : Nat → Nat → Bool) (k : Nat) : Nat:=((heapsS ap 5).filter fun p => p.length == k).length
private theorem w6t {B : Nat} : ∀ (ds : List Nat),(∀ d ∈ ds,1 ≤ d) → ∀ v,ds.foldl (fun v d => v * (B + 1 - d)) v ≤ v * B ^ ds.length
 | [],_,v => by simp
 | d :: ds,h,v => by
  have h1:=w6t (B:=B) ds (fun x hx => h x (.tail _ hx)) (v * (B + 1 - d))
  have h2:=h d (.head _)
  rw [List.foldl_cons,List.length_cons]
  refine Nat.le_trans h1 ?_
  rw [Nat.pow_succ,Nat.mul_comm (B ^ ds.length) B,← Nat.mul_assoc]
  exact Nat.mul_le_mul_right _ (Nat.mul_le_mul_left _ (by with_reducible exact nb6))
private theorem w9i {B : Nat} {ds : List Nat} : ∀ k,valN B ds k ≤ prodN B ds
 | 0 => Nat.le_refl _
 | k + 1 => Nat.le_trans (Nat.div_le_self _ _) (w9i k)
private theorem w6o {B k m : Nat} {ds : List Nat} (hB : 32 ≤ B) (hB2 : B < 2 ^ 4600) (hk : k < 5) (hd : ∀ d ∈ ds,1 ≤ d) (hl : ds.length ≤ 5) (hm : m ≤ prodN B ds) :
  Builtin.Int.intBits ((B - k : Nat) : Int) ≤ 7000 ∧ Builtin.Int.intBits (m : Int) ≤ 2 ^ 19 ∧ ndig m (Builtin.Int.intBits ((B - k : Nat) : Int)) ≤ 2 ^ 3:=by
 obtain ⟨nb,hnb⟩ : ∃ nb,nb = Builtin.Int.intBits ((B - k : Nat) : Int):=⟨_,rfl⟩
 have h1 : nb ≤ 4600:=by rw [hnb];exact bitsN (Nat.lt_of_le_of_lt (Nat.sub_le _ _) hB2)
 have h2 : B - k < 2 ^ nb:=by have:=intBits_le_iff.mp (Nat.le_of_eq hnb.symm);simpa using this
 have h3 : B < 2 ^ (nb + 1):=by rw [Nat.pow_succ];lia
 have h4 : m < 2 ^ (5 * nb + 6):=by
  have q1 : prodN B ds ≤ B ^ 5:=by
   have:=w6t (B:=B) ds hd 1
   rw [Nat.one_mul] at this
   exact Nat.le_trans this (Nat.pow_le_pow_right (by lia) hl)
  have q2 : B ^ 5 ≤ (2 ^ (nb + 1)) ^ 5:=Nat.pow_le_pow_left (by with_reducible exact na0) 5
  rw [← Nat.pow_mul] at q2
  have q3 : 2 ^ ((nb + 1) * 5) < 2 ^ (5 * nb + 6):=Nat.pow_lt_pow_right (by decide) (by lia)
  with_reducible exact nh8
 have h5:=bitsN h4
 have hn2 : 4 ≤ nb:=by
  apply Decidable.byContradiction
  intro q
  have : 2 ^ nb ≤ 2 ^ 3:=Nat.pow_le_pow_right (by decide) (by lia)
  lia
 refine ⟨by lia,by lia,?_⟩
 rw [← hnb]
 unfold ndig
 rw [Nat.div_le_iff_le_mul_add_pred (by lia)]
 with_reducible exact nf7
private theorem z0e {B : Nat} {ds : List Nat} (hB : 32 ≤ B) (hB2 : B < 2 ^ 4600) (hd : ∀ d ∈ ds,1 ≤ d) (hl : ds.length ≤ 5) : Builtin.Int.intBits ((prodN B ds : Nat) : Int) ≤ 2 ^ 20:=by
 have:=(w6o (k:=0) hB hB2 (by decide) hd hl (Nat.le_refl _)).2.1
 (with_reducible refine nad ?_;decide)
section
variable {mu mu' nu : List Addr} {s₀ s s' : Shared} {env : Env} {ρ : List (PySem.Str × PV)} {σ σ' : List (Addr × MO)} {A : Around} {E : Value → Shared → Prop}
private theorem z0x (hC : CfgOk P C) {ws : List PySem.Str} {W : Int} {B : Nat} {ap : Nat → Nat → Bool} {ds : List Nat} {n : Nat} {L : Addr} {hp : PV} {Q : Flow → Shared → Prop} (r : Rm A (n + 2)) (hB : 32 ≤ B) (hB2 : B < 2 ^ 4600) (hd : ∀ d ∈ ds,1 ≤ d ∧ d ≤ 5) (hl : ds.length ≤ 5)
  (I : In C mu (q0j (lawEnv P L)) (lawEnv P L) ρ σ s₀ s) (V : HeapV ρ ws W (B : Int) ap ds) (hh : ρ.lookup q1u = some hp) (hv : ρ.lookup q3b = some (.int 1))
  (k : ∀ ρ' s',In C mu (q0j (lawEnv P L)) (lawEnv P L) ρ' σ s₀ s' → HeapV ρ' ws W (B : Int) ap ds → ρ'.lookup q1u = some hp → ρ'.lookup q3b = some (.int (prodN B ds : Nat)) → Q .next s') : wpAny (model prog w) A (exec (lawSt P 12) (lawEnv P L)) Q E s:=by
 have hdl : (ds.map fun (x : Nat) => PV.int (x : Int)).length = ds.length:=List.length_map ..
 refine q3m (l:=ds.map fun (x : Nat) => PV.int (x : Int)) I r.none (IterE.of r.none (q0b V.dots rfl) q4r) (fun i ρ' σ' => σ' = σ ∧ HeapV ρ' ws W (B : Int) ap ds ∧ ρ'.lookup q1u = some hp ∧ ρ'.lookup q3b = some (.int (prodN B (ds.take i) : Nat))) (fun _ _ _ _ => False) ⟨rfl,V,hh,hv⟩ ?turn ?kE (fun _ _ _ _ h _ => h.elim)
 case kE =>
  rintro ρ' σ' s' ⟨rfl,V',hh',hm'⟩ I'
  rw [hdl,List.take_length] at hm'
  exact wpAny_execs_nil (k ρ' s' I' V' hh' hm')
 case turn =>
  intro i p v ρ σ' s hp' hJ I y
  refine q2a I (q0p rfl rfl) y fun s₁ I₁ => ?_
  refine q1r fun K hK => ?_
  obtain ⟨rfl,V,hh,hv⟩:=hJ
  obtain ⟨d,hx,rfl⟩:=w4k hp'
  obtain ⟨hd1,hd5⟩:=hd d (List.mem_of_getElem? hx)
  have hv₁ : ((nm_size,PV.int (d : Int)) :: ρ).lookup q3b = some (.int (prodN B (ds.take i) : Nat)):=hv
  have e : ((prodN B (ds.take i) : Nat) : Int) * ((B + 1 - d : Nat) : Int) = ((prodN B (ds.take (i + 1)) : Nat) : Int):=by
   rw [List.take_add_one,hx]
   unfold prodN
   rw [List.foldl_append]
   show _ = (((_ * (B + 1 - d) : Nat)) : Int)
   rw [Int.natCast_mul]
  have hb1:=z0e (ds:=ds.take i) hB hB2 (fun d h => (hd d (List.mem_of_mem_take h)).1) (by rw [List.length_take];with_reducible exact ni3)
  have hb2 : Builtin.Int.intBits ((B + 1 - d : Nat) : Int) ≤ 2 ^ 20:=Nat.le_trans (bitsN (m:=4600) (by with_reducible exact ng7)) (by decide)
  refine q0a (q1p (p:=.int ((B + 1 - d : Nat) : Int)) I₁ (.head _) hv₁ ?ex (op_imul (.of_bits hb1 hb2)) (fun s₂ I₂ => ?_))
  case ex => exact pur_of (q0k (q0k (q0b V.base rfl) q0t op_add) (q0b (p:=.int (d : Int)) rfl rfl) op_sub) (congrArg PV.int (by lia))
  rw [e] at I₂
  exact wpAny_execs_nil (hK _ _ ⟨_,_,I₂,rfl,⟨⟨V.words,V.width,V.base,V.apart⟩,V.dots⟩,hh,rfl⟩)
noncomputable def keepL (k : Nat) : PV → Option PV
 | .lst l => if l.length == k then some (.lst l) else none
 | _ => none
private theorem w4h (k : Nat) (H : List Part) : ((H.map pPt).filterMap (keepL k)).length = (H.filter fun p => p.length == k).length:=by
 induction H with
 | nil => rfl
 | cons x H ih =>
  rw [List.map_cons,List.filterMap_cons,List.filter_cons]
  have e : keepL k (pPt x) = if x.length == k then some (pPt x) else none:=by
   show (if (x.map pHp).length == k then some (PV.lst (x.map pHp)) else none) = _
   rw [List.length_map]
  rw [e]
  cases x.length == k with
  | false => exact ih
  | true => show _ + 1 = _ + 1;rw [ih]
private theorem law_divs (hC : CfgOk P C) {ws : List PySem.Str} {W : Int} {B : Nat} {ap : Nat → Nat → Bool} {ds : List Nat} {n : Nat} {L : Addr} {Q : Flow → Shared → Prop} (r : Rm A (n + 8)) (hB : 32 ≤ B) (hB2 : B < 2 ^ 4600) (hd : ∀ d ∈ ds,1 ≤ d ∧ d ≤ 5) (hl : ds.length ≤ 5)
  (hc : ∀ k,k < 5 → valN B ds k % (B - k) = countH ap k)
  (I : In C mu (q0j (lawEnv P L)) (lawEnv P L) ρ σ s₀ s) (V : HeapV ρ ws W (B : Int) ap ds) (hh : ρ.lookup q1u = some (pHs (heapsS ap 5))) (hv : ρ.lookup q3b = some (.int (prodN B ds : Nat)))
  (k : ∀ ρ' s',In C mu (q0j (lawEnv P L)) (lawEnv P L) ρ' σ s₀ s' → ρ'.lookup q3b = some (.int (valN B ds 5 : Nat)) → Q .next s') : wpAny (model prog w) A (exec (lawSt P 13) (lawEnv P L)) Q E s:=by
 refine q3m (l:=rangeL 0 1 5) I r.none (q0u (n:=5) (q0f (q0e hC rfl) rfl rfl) q0t (by decide)) (fun i ρ' σ' => σ' = σ ∧ HeapV ρ' ws W (B : Int) ap ds ∧ ρ'.lookup q1u = some (pHs (heapsS ap 5)) ∧ ρ'.lookup q3b = some (.int (valN B ds i : Nat))) (fun _ _ _ _ => False) ⟨rfl,V,hh,hv⟩ ?turn ?kE (fun _ _ _ _ h _ => h.elim)
 case kE =>
  rintro ρ' σ' s' ⟨rfl,V',hh',hm'⟩ I'
  exact wpAny_execs_nil (k ρ' s' I' hm')
 case turn =>
  intro i p v ρ σ' s hp' hJ I y
  refine q2a I (q2h rfl rfl rfl) y fun s₁ I₁ => ?_
  refine q1r fun K hK => ?_
  obtain ⟨rfl,V,hh,hv⟩:=hJ
  obtain ⟨hi,rfl⟩:=q1e hp'
  have hlen : (heapsS ap 5).length ≤ 10000:=Nat.le_trans (q7v ap 5) (by decide)
  have hv₁ : ((nm_k,PV.int (i : Int)) :: ρ).lookup q3b = some (.int (valN B ds i : Nat)):=hv
  have hh₁ : ((nm_k,PV.int (i : Int)) :: ρ).lookup q1u = some (pHs (heapsS ap 5)):=hh
  obtain ⟨b1,b2,b3⟩:=w6o (k:=i) (m:=valN B ds i) hB hB2 hi (fun d h => (hd d h).1) hl (w9i i)
  have e : ((B : Int) - (i : Int)) = ((B - i : Nat) : Int):=by lia
  refine q0a (q4f (p:=.int (valN B ds (i + 1) : Nat)) (q:=.int ((countH ap i : Nat) : Int)) I₁ r.none (q0p rfl rfl) (q0p rfl rfl) ?call (fun s₂ I₂ => ?_))
  case call =>
   have f:=idm (prog:=prog) (w:=w) hC (a:=valN B ds i) (b:=B - i) (k:=3) (by lia) b1 b2 b3
   rw [hc i hi] at f
   exact q1q (q0f (q0e hC rfl) rfl rfl) (q0c (q0b hv₁ rfl) (q0c (pur_of (q0k (q0b V.base rfl) (q0b (p:=.int (i : Int)) rfl rfl) op_sub) (congrArg PV.int e)) q0g (fun _ => rfl)) (fun _ => rfl)) (z1o hC) f (r.mono (by lia)) (fun _ => rfl)
  have hh₂ : ((nm_rest,PV.int ((countH ap i : Nat) : Int)) :: (q3b,PV.int (valN B ds (i + 1) : Nat)) :: (nm_k,PV.int (i : Int)) :: ρ).lookup q1u = some (pHs (heapsS ap 5)):=hh
  refine q0a (st_IfN I₂ (q3o (b:=(((countH ap i : Nat) : Int) != ((countH ap i : Nat) : Int))) ?test (by simp)) (fun s₃ I₃ => ?_))
  case test =>
   refine q0i (q0b rfl rfl) (pur_of (q1a (q0f (q0e hC rfl) rfl rfl) (q0c (PurNE.pur (q1k [(nm_k,.int (i : Int))] (l:=(heapsS ap 5).map pPt) (g:=fun t => ((heapsS ap 5).map pPt)[t]?.bind (keepL i)) ?h3 I₂.cells r.none ?it ?turn2 (by rw [List.length_map];(with_reducible refine nad ?_;decide)))) q0g (fun _ => rfl)) (op_len ?lsz) (fun _ => rfl) rfl) (congrArg PV.int ?eqn)) op_ne rfl
   case h3 => walk_at "look"
   case it => exact IterE.of r.none (q0b hh₂ rfl) q4r
   case lsz =>
    rw [q6q,w4h]
    have:=List.length_filter_le (fun p : Part => p.length == i) (heapsS ap 5)
    lia
   case eqn => rw [q6q,w4h];rfl
   case turn2 =>
    refine q5l (fun L D => by walk_at "sto") rfl fun L₁ D₁ ys t p hp => ?_
    obtain ⟨q,hq,rfl⟩:=q7q hp
    have hqk:=(q5g ap 5 q (List.mem_of_getElem? hq)).1
    have hql : (q.map pHp).length = q.length:=List.length_map ..
    have hte : ∀ b,((q.map pHp).length == i) = b → ((((q.map pHp).length : Nat) : Int) == (i : Int)) = b:=fun b h => by
     rw [← h]
     rw [Bool.eq_iff_iff,beq_iff_eq,beq_iff_eq]
     lia
    rw [hp]
    show match (if (q.map pHp).length == i then some (PV.lst (q.map pHp)) else none) with | none => _ | some z => _
    cases hb : (q.map pHp).length == i with
    | false => exact q6o (q3o (q0i (q1a (q0f (q0e hC rfl) rfl rfl) (q0c (q0b (p:=pPt q) rfl rfl) q0g (fun _ => rfl)) (op_len (by rw [hql];(with_reducible refine nae ?_;decide))) (fun _ => rfl) rfl) (q0b (p:=.int (i : Int)) rfl rfl) op_eq rfl) (hte _ hb))
    | true => exact ⟨q6o (q3o (q0i (q1a (q0f (q0e hC rfl) rfl rfl) (q0c (q0b (p:=pPt q) rfl rfl) q0g (fun _ => rfl)) (op_len (by rw [hql];(with_reducible refine nae ?_;decide))) (fun _ => rfl) rfl) (q0b (p:=.int (i : Int)) rfl rfl) op_eq rfl) (hte _ hb)),q0b rfl rfl⟩
  exact wpAny_execs_nil (hK _ _ ⟨_,_,I₃,rfl,⟨⟨V.words,V.width,V.base,V.apart⟩,V.dots⟩,hh,rfl⟩)
end
end
section
open PySem PySem.W PySem.Calls PyProof.Rows
set_option maxHeartbeats 4000000
variable {prog : Program} {w : World} {P : Params} {C : Cfg}
structure LawOk (ws : List PySem.Str) (W : Int) (B : Nat) (ap : Nat → Nat → Bool) (ds : List Nat) : Prop where
 hws : ∀ x ∈ ws,WordOk x
 hwl : ws.length = 5
 hB : 32 ≤ B
 hB2 : B < 2 ^ 4600
 mail : ∀ k,k < 5 → rowsOk k (mailS ap k) = true ∧ (textS ap (q0d (mailS ap k)) k).length ≤ 1000
 mail5 : (mailS ap 5).length ≤ 1000
 dots : dotsS ap = ds.map fun (x : Nat) => (x : Int)
 dlen : ds.length = 5
 d1 : ∀ b,b < 5 → 1 ≤ ds.getD b 1 ∧ b + ds.getD b 1 ≤ 5
 d5 : ∀ d ∈ ds,1 ≤ d ∧ d ≤ 5
 beg : ∀ f,f < 5 → BegOk ds f
 fold : ∀ f,f < 5 → folded W 0 sBlank (ws.drop f) = dueS ws (begF ds 5 f)
 head : ∀ f,f < 5 → folded W (headF ws f) (blankF f) (ws.drop (f + 1)) = sSlice (dueS ws (begF ds 5 f)) (some (q2q ws ds f)) none
 rests : ∀ k,k < 5 → valN B ds k % (B - k) = countH ap k
 last : valN B ds 5 = 1
noncomputable abbrev numsOf (sc : List Int) : List Int:=(List.range 8).map (numF sc)
section
variable {mu mu' nu : List Addr} {s₀ s s' : Shared} {env : Env} {ρ : List (PySem.Str × PV)} {σ σ' : List (Addr × MO)} {A : Around} {E : Value → Shared → Prop}
private theorem z0y (hC : CfgOk P C) (hp : ProgOk prog) {sc : List Int} {B : Nat} {ds : List Nat} (hs : sc.length ≤ 63) (hBe : baseOf (numsOf sc) = (B : Int)) (K : LawOk (q2g (numsOf sc)) (q3j (numsOf sc)) B (apF (q2g (numsOf sc)) (q3j (numsOf sc))) ds) :
  FnOk prog w C a_law 13 [.lst (sc.map .int)] (.bool true):=by
 refine FnOk.ofC (names:=[w0c]) (def_law hC) (fun vs h => ?_) rfl rfl rfl (of_decide_eq_true rfl) fun A mu L s s₁ r I hL => ?_
 ·obtain ⟨_,rfl⟩:=len1 h;rfl
 refine q1r fun K' hK => ?_
 have hn8 : (numsOf sc).length = 8:=by rw [List.length_map,List.length_range]
 refine q0a (w5r hC hs r.none I rfl (q2h rfl rfl rfl) fun s₂ I₂ => ?_)
 have hns : ((List.range 8).map fun k => PV.int (numF sc k)) = (numsOf sc).map .int:=by rw [List.map_map];rfl
 rw [hns] at I₂
 refine q0a (z0v hC hn8 r.none I₂ rfl (q2h rfl rfl rfl) fun s₃ I₃ => ?_)
 refine q0a (z0w hC hn8 I₃ rfl (q2h rfl rfl rfl) fun s₄ I₄ => ?_)
 refine q0a (law_base hC hn8 I₄ rfl (q0p rfl rfl) fun s₅ I₅ => ?_)
 rw [hBe] at I₅
 refine q0a (z1a hC K.hwl (fun x hx => (K.hws x hx).len.2) r.none I₅ rfl rfl (q2h rfl rfl rfl) fun s₆ I₆ => ?_)
 refine q0a (q0h (p:=.str ⟨#[]⟩) I₆ (q0p rfl rfl) q1m fun s₇ I₇ => ?_)
 refine q0a (law_mail hC (n:=10) r K.mail K.mail5 I₇ ⟨rfl,rfl,rfl,rfl⟩ rfl fun ρ₈ s₈ I₈ V₈ hm₈ => ?_)
 have hrl : (q0d (mailS (apF (q2g (numsOf sc)) (q3j (numsOf sc))) 5)).length = 5:=by
  have:=congrArg List.length K.dots
  rw [List.length_map,K.dlen] at this
  unfold dotsS at this
  rw [List.length_map] at this
  exact this
 refine q0a (law_dots hC r.none K.mail5 hrl I₈ hm₈ fun s₉ I₉ => ?_)
 rw [K.dots,List.map_map] at I₉
 refine q0a (w1g hC hp (n:=0) r K.hws K.hwl K.dlen K.d1 K.beg K.fold K.head I₉ ⟨V₈.words,V₈.width,V₈.base,V₈.apart⟩ rfl fun ρ₁₀ s₁₀ I₁₀ V₁₀ hd₁₀ => ?_)
 refine q0a (q0h (p:=.lst [.lst []]) I₁₀ (q0p rfl rfl) (by repeat' walk_at "pe") fun s₁₁ I₁₁ => ?_)
 refine q0a (z0z hC (n:=10) r I₁₁ ⟨⟨V₁₀.words,V₁₀.width,V₁₀.base,V₁₀.apart⟩,hd₁₀⟩ rfl fun ρ₁₂ s₁₂ I₁₂ V₁₂ hh₁₂ => ?_)
 refine q0a (q0h (p:=.int 1) I₁₂ (q0p rfl rfl) q0t fun s₁₃ I₁₃ => ?_)
 refine q0a (z0x hC (n:=10) r K.hB K.hB2 K.d5 (Nat.le_of_eq K.dlen) I₁₃ ⟨⟨V₁₂.words,V₁₂.width,V₁₂.base,V₁₂.apart⟩,V₁₂.dots⟩ hh₁₂ rfl fun ρ₁₄ s₁₄ I₁₄ V₁₄ hh₁₄ hv₁₄ => ?_)
 refine q0a (law_divs hC (n:=4) r K.hB K.hB2 K.d5 (Nat.le_of_eq K.dlen) K.rests I₁₄ V₁₄ hh₁₄ hv₁₄ fun ρ₁₅ s₁₅ I₁₅ hv₁₅ => ?_)
 rw [K.last] at hv₁₅
 refine q0a (q0q I₁₅ (p:=.bool true) ?ret fun v s' I' y => ?_)
 case ret => exact pur_of (q6g (q0b hv₁₅ rfl) q0t op_eq rfl) (congrArg PV.bool rfl)
 have I'' : In C (q0j (lawEnv P L) ++ mu) (q0j (lawEnv P L) ++ []) (lawEnv P L) ρ₁₅ [] s s':=by rw [List.append_nil];exact I'
 obtain ⟨h1,h2⟩:=I''.outs hL
 exact hK _ _ ⟨v,rfl,h1,h2,y⟩
end
end
section
open PySem PySem.W PySem.Calls PyProof.Rows
private theorem w3a {α : Type} {p q : α → Bool} {l : List α} (h : ∀ x ∈ l,p x = q x) : l.filter p = l.filter q:=by
 induction l with
 | nil => rfl
 | cons a l ih =>
  rw [List.filter_cons,List.filter_cons,h a (.head _),ih fun x hx => h x (.tail _ hx)]
private theorem q8q {α β : Type} {f g : α → Option β} {l : List α} (h : ∀ x ∈ l,f x = g x) : l.filterMap f = l.filterMap g:=by
 induction l with
 | nil => rfl
 | cons a l ih =>
  rw [List.filterMap_cons,List.filterMap_cons,h a (.head _),ih fun x hx => h x (.tail _ hx)]
private theorem q8l {ap ap' : Nat → Nat → Bool} (h : ∀ i k,i < k → k < 5 → ap i k = ap' i k) : ∀ k,k ≤ 5 → heapsS ap k = heapsS ap' k
 | 0,_ => rfl
 | k + 1,hk => by
  have ih:=q8l h k (by lia)
  have hok:=q5g ap' k
  show nextH ap k (heapsS ap k) = nextH ap' k (heapsS ap' k)
  rw [ih]
  unfold nextH
  refine congrArg _ ?_
  have : ∀ H : List Part,(∀ p ∈ H,PartOk k p) → H.flatMap (joins ap k) = H.flatMap (joins ap' k):=fun H => by
   induction H with
   | nil => intro _;rfl
   | cons p H ihH =>
    intro hH
    rw [List.flatMap_cons,List.flatMap_cons,ihH fun q hq => hH q (.tail _ hq)]
    refine congrArg (· ++ _) ?_
    unfold joins
    refine q8q fun m hm => ?_
    have hm:=List.mem_range.mp hm
    have hmem : p.getD m [] ∈ p:=by
     rw [List.getD_eq_getElem?_getD,List.getElem?_eq_getElem hm]
     exact List.getElem_mem _
    have e : q4q ap k (p.getD m []) = q4q ap' k (p.getD m []):=by
     unfold q4q
     rw [w3a fun i hi => by rw [h i k (((hH p (.head _)).2 _ hmem).2 i hi) (by lia)]]
    rw [e]
  exact this _ hok
private theorem w1y {N : Nat → Nat} {B : Nat} {ds : List Nat} (hB : 32 ≤ B) (hN : ∀ k,k < 5 → N k < 28) (h : prodN B ds = nestN N B 5) : ∀ k,k ≤ 5 → valN B ds k = nestN N B (5 - k)
 | 0,_ => h
 | k + 1,hk => by
  have ih:=w1y hB hN h k (by lia)
  have h1:=hN k (by lia)
  obtain ⟨n,hn⟩ : ∃ n,5 - k = n + 1:=⟨4 - k,by with_reducible exact nh6⟩
  have e : 4 - n = k:=by lia
  show valN B ds k / (B - k) = _
  rw [ih,hn,show 5 - (k + 1) = n by with_reducible exact nb9]
  show (N (4 - n) + (B - (4 - n)) * nestN N B n) / (B - k) = _
  rw [e,Nat.add_mul_div_left _ _ (by lia),Nat.div_eq_of_lt (by lia)]
  lia
private theorem w9x {N : Nat → Nat} {B : Nat} {ds : List Nat} (hB : 32 ≤ B) (hN : ∀ k,k < 5 → N k < 28) (h : prodN B ds = nestN N B 5) (k : Nat) (hk : k < 5) : valN B ds k % (B - k) = N k:=by
 rw [w1y hB hN h k (by with_reducible exact na0)]
 have h1:=hN k hk
 obtain ⟨n,hn⟩ : ∃ n,5 - k = n + 1:=⟨4 - k,by with_reducible exact nh5⟩
 have e : 4 - n = k:=by lia
 rw [hn]
 show (N (4 - n) + (B - (4 - n)) * nestN N B n) % (B - k) = _
 rw [e,Nat.add_mul_mod_self_left,Nat.mod_eq_of_lt (by lia)]
private theorem z2t (x : Int) {k : Nat} (hk : k < 5) : wordOf x k ∈ w2a:=by
 have h : 0 ≤ x.fmod 5 ∧ x.fmod 5 < 5:=q5r x 5 (by decide)
 refine List.mem_flatMap.mpr ⟨k,List.mem_range.mpr hk,List.mem_map.mpr ⟨(x.fmod 5).toNat,List.mem_range.mpr (by lia),?_⟩⟩
 unfold wordOf
 rw [Nat.add_comm]
private theorem base_nat (ns : List Int) : ∃ B : Nat,baseOf ns = (B : Int) ∧ 32 ≤ B ∧ B < 2 ^ 4600:=by
 have h0 : (0 : Int) < (10 : Int) ^ (99 : Int).toNat:=by decide +kernel
 have h1:=Int.fmod_nonneg_of_pos (absI (ns.getD 6 0)) h0
 obtain ⟨_,h2⟩:=w4w ns
 obtain ⟨b,hb⟩:=Int.eq_ofNat_of_zero_le (a:=32 + (absI (ns.getD 6 0)).fmod ((10 : Int) ^ (99 : Int).toNat)) (by assumption)
 have h3 : 0 ≤ (ns.getD 7 0).fmod 4200 ∧ (ns.getD 7 0).fmod 4200 < 4200:=q5r (ns.getD 7 0) 4200 (by decide)
 have hb32 : 32 ≤ b:=by lia
 have hb330 : b < 2 ^ 330:=by
  rw [hb] at h2
  exact_mod_cast h2
 refine ⟨b * 2 ^ ((ns.getD 7 0).fmod 4200).toNat,?_,?_,?_⟩
 ·unfold baseOf
  rw [hb]
  push_cast
  rfl
 ·exact Nat.le_trans hb32 (Nat.le_mul_of_pos_right _ (Nat.two_pow_pos _))
 ·have h4 : 2 ^ ((ns.getD 7 0).fmod 4200).toNat ≤ 2 ^ 4200:=Nat.pow_le_pow_right (by decide) (by lia)
  have h5 : b * 2 ^ ((ns.getD 7 0).fmod 4200).toNat < 2 ^ 330 * 2 ^ 4200:=Nat.lt_of_le_of_lt (Nat.mul_le_mul_left _ h4) ((Nat.mul_lt_mul_right (Nat.two_pow_pos _)).mpr hb330)
  rw [← Nat.pow_add] at h5
  exact Nat.lt_of_lt_of_le h5 (Nat.pow_le_pow_right (by decide) (by decide))
private theorem law_ok (ns : List Int) {B : Nat} (hB : 32 ≤ B) (hB2 : B < 2 ^ 4600) : LawOk (q2g ns) (q3j ns) B (apF (q2g ns) (q3j ns)) (dotsOf (apF (q2g ns) (q3j ns))):=by
 have hwl : (q2g ns).length = 5:=by unfold q2g;rw [List.length_map,List.length_range]
 have hws : ∀ x ∈ q2g ns,WordOk x:=fun x hx => by
  unfold q2g at hx
  obtain ⟨k,hk,rfl⟩:=List.mem_map.mp hx
  exact w7q _ (z2t _ (List.mem_range.mp hk))
 have D:=dotsOk (apF (q2g ns) (q3j ns))
 have hst:=w9r (W:=q3j ns) hwl
 generalize q3j ns = W at D hst ⊢
 generalize q2g ns = ws at hwl hws D hst ⊢
 have cg : ∀ i k,i < k → k < 5 → apOf (bitsOf (apF ws W)) i k = apF ws W i k:=fun i k h hk => q5j _ h hk
 have hdl : dotsOf (apOf (bitsOf (apF ws W))) = dotsOf (apF ws W):=List.map_congr_left fun i _ => w8u cg i
 have M:=w8n hst
 have hm : ∀ k,k ≤ 5 → mailS (apOf (bitsOf (apF ws W))) k = mailS (apF ws W) k:=fun k hk => w0i cg k hk
 have tx : ∀ k,k < 5 → textS (apOf (bitsOf (apF ws W))) (q0d (mailS (apF ws W) k)) k = textS (apF ws W) (q0d (mailS (apF ws W) k)) k:=fun k hk => (q6d (fun i hi => cg i k hi hk) _).2
 have hb:=List.all_eq_true.mp birk_ok _ hst
 unfold birk at hb
 rw [Bool.and_eq_true] at hb
 have hH : ∀ k,cntH (apOf (bitsOf (apF ws W))) k = countH (apF ws W) k:=fun k => by
  unfold cntH countH
  rw [q8l cg 5 (Nat.le_refl _)]
 have hN : ∀ k,k < 5 → cntH (apOf (bitsOf (apF ws W))) k < 28:=fun k hk => of_decide_eq_true (List.all_eq_true.mp hb.2 k (List.mem_range.mpr hk))
 have hd5 : ∀ d ∈ dotsOf (apF ws W),1 ≤ d ∧ d ≤ 5:=fun d hd => by
  obtain ⟨i,hi,rfl⟩:=List.mem_map.mp hd
  have:=w6b (apF ws W) (List.mem_range.mp hi)
  lia
 have hP : prodN B (dotsOf (apF ws W)) = nestN (cntH (apOf (bitsOf (apF ws W)))) B 5:=by
  have h1:=congrArg (fun l => pev l (B : Int)) (eq_of_beq hb.1)
  have h2:=pev_nest (N:=cntH (apOf (bitsOf (apF ws W)))) (B:=B) (by lia)
  have h3:=w6u (B:=B) (q7x (apOf (bitsOf (apF ws W)))) [1] 1 (fun d hd => by
   rw [show q7x (apOf (bitsOf (apF ws W))) = dotsOf (apF ws W) from hdl] at hd
   have:=(hd5 d hd).2
   lia) (by show (1 : Int) + (B : Int) * 0 = 1;lia)
  have h1 : pev (polyD (q7x (apOf (bitsOf (apF ws W))))) (B : Int) = pev (nest (cntH (apOf (bitsOf (apF ws W))))) (B : Int):=h1
  rw [h2] at h1
  have h3 : pev (polyD (q7x (apOf (bitsOf (apF ws W))))) (B : Int) = _:=h3
  rw [h3] at h1
  rw [show q7x (apOf (bitsOf (apF ws W))) = dotsOf (apF ws W) from hdl] at h1
  exact Int.ofNat_inj.mp h1
 exact {
  hws:=hws
  hwl:=hwl
  hB:=hB
  hB2:=hB2
  mail:=fun k hk => by
   have:=(M k (by with_reducible exact na0)).1 hk
   rw [hm k (by with_reducible exact na0),tx k hk] at this
   exact this
  mail5:=by
   have:=((M 5 (Nat.le_refl _)).2 rfl).1
   rw [hm 5 (Nat.le_refl _)] at this
   exact this
  dots:=by
   have:=((M 5 (Nat.le_refl _)).2 rfl).2
   unfold dotsS at this ⊢
   rw [hm 5 (Nat.le_refl _)] at this
   rw [this,← hdl,List.map_map]
   rfl
  dlen:=by rw [List.length_map,List.length_range]
  d1:=fun b hb => ⟨D.pos b hb,D.le b hb⟩
  d5:=hd5
  beg:=fun f hf => ⟨(begOk _ f hf).1,(begOk _ f hf).2⟩
  fold:=fun f hf => w8r hwl hws D hf
  head:=fun f hf => w5w hwl hws D (by rw [List.length_map,List.length_range]) hf
  rests:=fun k hk => by rw [w9x hB hN hP k hk,hH]
  last:=w1y hB hN hP 5 (Nat.le_refl _) }
section
variable {prog : Program} {w : World} {P : Params} {C : Cfg}
private theorem law_true (hC : CfgOk P C) (hp : ProgOk prog) {sc : List Int} (hs : sc.length ≤ 63) : FnOk prog w C a_law 13 [.lst (sc.map .int)] (.bool true):=by
 obtain ⟨B,h1,h2,h3⟩:=base_nat (numsOf sc)
 exact z0y hC hp hs h1 (law_ok _ h2 h3)
end
end
section
set_option tactic.hygienic true
open PySem PySem.W PySem.Calls PyProof.Rows
private theorem w1n {K : Frag} {t : List Addr} {a : Addr} (h : a ∈ t) : (K.filter fun p => !t.contains p.1).lookup a = none:=by
 induction K with
 | nil => rfl
 | cons x K ih =>
  rw [List.filter_cons]
  split
  ·rename_i hx
   rw [List.lookup_cons]
   cases q : a == x.1 with
   | false => exact ih
   | true =>
    rw [← eq_of_beq q] at hx
    simp [h] at hx
  ·exact ih
private theorem w8o {K : Frag} {t : List Addr} {a : Addr} {o : Obj} (h : (K.filter fun p => !t.contains p.1).lookup a = some o) : K.lookup a = some o:=by
 have ha : a ∉ t:=fun q => by rw [w1n q] at h;cases h
 induction K with
 | nil => exact h
 | cons x K ih =>
  rw [List.filter_cons] at h
  rw [List.lookup_cons]
  split at h
  ·rw [List.lookup_cons] at h
   cases q : a == x.1 with
   | true => rw [q] at h;exact h
   | false => rw [q] at h;exact ih h
  ·rename_i hx
   cases q : a == x.1 with
   | true =>
    rw [← eq_of_beq q] at hx
    simp [ha] at hx
   | false => exact ih h
noncomputable abbrev w6r (P : Params) (mg : PySem.Str → Option Value) (s : Shared) : Cfg:=⟨s.heap,TL,s.os,Ks P,mg⟩
private theorem q8s {P : Params} {h : Heap} (KX : (Mine.hd.heap_270 P).In h) : ∀ x ∈ TL,h.get? x.2.1 = some (tabObj #[]):=fun x hx => by
 rcases hx with _ | ⟨_,_ | ⟨_,_ | ⟨_,_ | ⟨_,hx⟩⟩⟩⟩
 ·exact KX 215 _ (by kernel_rfl)
 ·exact KX 222 _ (by kernel_rfl)
 ·exact KX 157 _ (by kernel_rfl)
 ·exact KX 164 _ (by kernel_rfl)
 ·cases hx
private theorem z1w {P : Params} {h : Heap} (KX : (Mine.hd.heap_270 P).In h) : ∀ x ∈ TL,CodeHd h x.1 x.2.1:=fun x hx => by
 rcases hx with _ | ⟨_,_ | ⟨_,_ | ⟨_,_ | ⟨_,hx⟩⟩⟩⟩
 ·exact ⟨_,_,_,_,_,_,_,_,_,KX 219 (Mine.hd.zo_225 P) (by kernel_rfl),by kernel_rfl,rfl,rfl,rfl,rfl,rfl,rfl,rfl,by decide⟩
 ·exact ⟨_,_,_,_,_,_,_,_,_,KX 226 (Mine.hd.zo_232 P) (by kernel_rfl),by kernel_rfl,rfl,rfl,rfl,rfl,rfl,rfl,rfl,by decide⟩
 ·exact ⟨_,_,_,_,_,_,_,_,_,KX 161 (Mine.hd.zo_169 P) (by kernel_rfl),by kernel_rfl,rfl,rfl,rfl,rfl,rfl,rfl,rfl,by decide⟩
 ·exact ⟨_,_,_,_,_,_,_,_,_,KX 168 (Mine.hd.zo_176 P) (by kernel_rfl),by kernel_rfl,rfl,rfl,rfl,rfl,rfl,rfl,rfl,by decide⟩
 ·cases hx
private theorem w7r : ∀ x ∈ TL,x.1 ∉ TL.map (·.2.1):=by decide +kernel
private theorem ok_start {P : Params} {mg : PySem.Str → Option Value} {s : Shared} (KX : (Mine.hd.heap_270 P).In s.heap) (hg : s.gens = #[]) (hlim : s.heap.NoLimit) (hns : s.heap.Ns mainGlobals mg)
  (hbm : ∃ bm ob,mg "__builtins__" = some (.ref bm) ∧ bm ≠ builtinsNs ∧ s.heap.get? bm = some ob ∧ ob.cls = .type "module" ∧ ob.dict = some builtinsNs ∧ ob.data = .plain) : Ok (w6r P mg s) [] s where
 old:=fun _ _ e _ => e
 tab:=fun x hx => ⟨#[],q8s KX x hx,trivial,fun pos c' e => nomatch e⟩
 code:=fun x hx => ⟨z1w KX x hx,w7r x hx,_,q8s KX x hx⟩
 live:=fun _ h => nomatch h
 gens:=.of_eq hg
 os:=rfl
 kin:=fun a o e => KX a o (w8o (t:=tabL) e)
 kt:=fun a ha => w1n (t:=tabL) ha
 lim:=⟨hlim,(by decide +kernel : cStatics ∉ TL.map (·.2.1))⟩
 glob:=⟨hns,(by decide +kernel : mainGlobals ∉ TL.map (·.2.1))⟩
 bmod:=by
  obtain ⟨bm,ob,h1,h2,h3,h4,h5,h6⟩:=hbm
  refine ⟨bm,ob,h1,h2,fun q => ?_,fun q => ?_,h3,h4,h5,h6⟩
  ·obtain ⟨o,es,ep,ho,hd,_⟩:=hns
   rw [← q,h3] at ho
   cases ho
   rw [h6] at hd;cases hd
  ·obtain ⟨x,hx,rfl⟩:=List.mem_map.mp q
   have h3 : s.heap.get? x.2.1 = some ob:=h3
   rw [q8s KX x hx] at h3
   cases h3
   cases h6
private theorem oldK_of {C : Cfg} {mu : List Addr} {s' : Shared} (O : Ok C mu s') (h0 : ∀ x ∈ C.T,C.H.get? x.2.1 = some (tabObj #[])) : OldK C.H s'.heap where
 old:=fun b o e => by
  by_cases hb : b ∈ C.tabs
  ·obtain ⟨x,hx,rfl⟩:=List.mem_map.mp hb
   have e : C.H.get? x.2.1 = some o:=e
   rw [h0 x hx] at e;cases e
   obtain ⟨ps,hp,_⟩:=O.tab x hx
   have ht:=(O.code x hx).1.tab (h0 x hx)
   exact .inr (.inl ⟨ht.isCodeTable,rfl,#[],ps,rfl,by
    show s'.heap.get? x.2.1 = _
    rw [hp,Array.empty_append]⟩)
  ·exact .inl (O.old b o e hb)
 there:=fun b o e => by
  by_cases hb : b ∈ C.tabs
  ·obtain ⟨x,hx,rfl⟩:=List.mem_map.mp hb
   obtain ⟨ps,hp,_⟩:=O.tab x hx
   exact ⟨_,hp⟩
  ·exact ⟨o,O.old b o e hb⟩
private theorem w4j {h : Heap} {mu : List Addr} : ∀ {vs : List Value} {ns : List Int},IntsAre vs ns → Sims h mu (ns.map .int) vs
 | _,_,.nil => rfl
 | _,_,.cons m t r => ⟨_,_,rfl,⟨t,rfl⟩,w4j r⟩
private theorem good_end {c : ClaimW} {cl : PySem.Str → Option Addr} {mean : ExcName → Option Value} {args : List WData} {s₁ s' : Shared} (hK : OldK s₁.heap s'.heap) (hos : s'.os = s₁.os) (hg : AllBare s'.gens) (hr : ∀ cls,c.raises args cls = false) (hp : c.post args (.bool true) args = true) :
  GoodWG c cl mean args s₁ (.ok (.ret (.bool true))) s':=⟨.inl ⟨_,_,[],rfl,hr,ReadsW.bool true,hp,fun _ => ⟨List.nodup_nil,fun _ hm => (nomatch hm)⟩⟩,hK,hos,hg⟩
private theorem w9w : Rm callerA 13:=⟨rfl,by decide,by decide⟩
private theorem law_run {prog : Program} {w : World} {mg : PySem.Str → Option Value} {s₁ : Shared} {c : ClaimW} {cl : PySem.Str → Option Addr} {mean : ExcName → Option Value} {args : List WData} {sc : List Int} {its : List Value} {a : Addr} (hp : ProgOk prog) (KX : (Mine.hd.heap_270 w.params).In s₁.heap) (hg : s₁.gens = #[]) (hlim : s₁.heap.NoLimit) (hns : s₁.heap.Ns mainGlobals mg)
  (hbm : ∃ bm ob,mg "__builtins__" = some (.ref bm) ∧ bm ≠ builtinsNs ∧ s₁.heap.get? bm = some ob ∧ ob.cls = .type "module" ∧ ob.dict = some builtinsNs ∧ ob.data = .plain)
  (hl : s₁.heap.get? a = some { cls:=.type "list",data:=.seq its.toArray }) (hi : IntsAre its sc) (hs : ¬ ((63 : Nat) : Int) < (sc.length : Int)) (hr : ∀ cls,c.raises args cls = false) (hpost : c.post args (.bool true) args = true) :
  wpAny (model prog w) callerA (call (.ref a_law) [.ref a]) (fun v s' => GoodWG c cl mean args s₁ (.ok (.ret v)) s') (fun e s' => GoodWG c cl mean args s₁ (.error e) s') s₁:=by
 have O:=ok_start (P:=w.params) (mg:=mg) KX hg hlim hns hbm
 have K:=law_true (prog:=prog) (w:=w) (P:=w.params) (C:=w6r w.params mg s₁) ⟨rfl,rfl⟩ hp (sc:=sc) (by lia)
 refine K callerA [] w9w s₁ [.ref a] O ⟨_,_,rfl,⟨a,its,0,rfl,(fun h => nomatch h),hl,w4j hi⟩,rfl⟩ _ _ fun v s' O' k' y' => ?_
 cases (show v = .bool true from y')
 exact good_end (oldK_of O' (q8s KX)) O'.os O'.gens hr hpost
end
section
open PySem PySem.W PySem.W.X PySem.Calls PyProof.Rows
set_option maxHeartbeats 8000000
noncomputable def hdAs : List Addr:=[0,2,3,51,52,58,59,72,73,107,108,110,111,119,124,131,132,138,139,140,146,147,154,155,157,161,162,164,168,169,170,176,177,183,184,191,192,194,195,205,206,212,213,215,219,220,222,226,227,233,234,240,241,245,246,250,251,257,258,264,265,269,270]
noncomputable abbrev pw : Program:=PySem.Challenge.rw_sr0073_01.row.prog
noncomputable def vw : Program:={ pw with main:={ pw.main with body:=[0,1,3,4,5,6,8,9,10,11,12,13,14,16,17,18,19,21,22].map fun i => (pw.main.body[i]?).getD default } }
noncomputable def lo : List PySem.Str:=[PySem.Str.ofString "_Accumulator",PySem.Str.ofString "_twin_re_1",PySem.Str.ofString "_twin_re_2"]
noncomputable abbrev xt (s : Shared) : Bool:=xlAt vw [] s && recOk (RowW.records PySem.Challenge.rw_sr0073_01.row.toRowW) s
private theorem left01 : LeftO pw vw lo xt (obsZ hdAs) (valZ Mine.hd.heap_270 271 670) 3208:=fun w => by kernel_rfl
end
section
open PySem PySem.W PySem.W.X PySem.Calls PyProof.Rows
set_option maxHeartbeats 8000000
private theorem hd_keys (P : Params) : hdAs = (Mine.hd.heap_270 P).map (·.1):=rfl
private theorem hd_law (P : Params) : nsIn (Mine.hd.heap_270 P) mainGlobals (PySem.Str.ofString "law") = some (some (.ref 270)):=by kernel_rfl
noncomputable abbrev HeadGoal : Prop:=∀ (w : World) (s₀ s₁ : Shared) (mg mb : PySem.Str → Option Value),(Mine.hd.heap_270 w.params).In s₁.heap → s₁.gens = #[] → s₁.heap.NoLimit → s₁.heap.Ns mainGlobals mg →
 (∃ bm ob,mg "__builtins__" = some (.ref bm) ∧ bm ≠ builtinsNs ∧ s₁.heap.get? bm = some ob ∧ ob.cls = .type "module" ∧ ob.dict = some builtinsNs ∧ ob.data = .plain) →
 ∀ (sc : List Int) (its : List Value),s₁.heap.get? 271 = some { cls:=.type "list",data:=.seq its.toArray } → IntsAre its sc → ¬ ((63 : Nat) : Int) < (sc.length : Int) →
 ∀ args,(∀ cls,PySem.Challenge.rw_sr0073_01.row.claim.raises args cls = false) → PySem.Challenge.rw_sr0073_01.row.claim.post args (.bool true) args = true →
 wpAny (model pw w) callerA (call (.ref 270) [.ref 271]) (fun v s' => GoodWG PySem.Challenge.rw_sr0073_01.row.claim (classAt s₀.heap) (ExcName.means s₀.heap) args s₁ (.ok (.ret v)) s')
  (fun e s' => GoodWG PySem.Challenge.rw_sr0073_01.row.claim (classAt s₀.heap) (ExcName.means s₀.heap) args s₁ (.error e) s') s₁
private theorem head01 (H : HeadGoal) : PySem.Challenge.rw_sr0073_01.Holds:=by
 refine holds_law (by kernel_rfl) fun said => ?_
 refine holds_openX (q:=vw) (loose:=lo) (Xt:=xt) (XP:=XL vw []) (Yf:=obsZ hdAs) (Ya:=valZ Mine.hd.heap_270 271 670) (N:=3208) left01 (fun s e => xl_of s (Bool.and_eq_true_iff.mp e).1) XL.keeps (by rfl) (by rfl) (by rfl) (fun s e => recFacts_of (Bool.and_eq_true_iff.mp e).2) (by rfl) (by assumption) (by decide +kernel) ⟨rfl,rfl,rfl,rfl,rfl,by decide +kernel⟩ ?hw ?hc
 case hw => w_witness2
 case hc =>
  intro w s₀ s₁ mg mb G y fa o pm cd doc dV kV ho hd hcd hD hmg hg args vals as L hpre hlay hrd hwl hlo
  have y1 : hdAs.map s₀.heap.get? = (Mine.hd.heap_270 w.params).map fun p => some p.2:=congrArg Prod.fst y
  have KX : (Mine.hd.heap_270 w.params).In s₁.heap:=(Frag.in_of (hd_keys w.params) y1).keeps L.keeps
  have ZN : s₀.heap.objs.size = 271:=congrArg (fun x => x.2.1) y
  have T:=G.T
  have hfa:=mg_of KX T.g (hd_law w.params)
  clear ho hd hcd hD
  have hmg' : mg (PySem.Str.ofString "law") = some (.ref fa):=hmg
  rw [hfa] at hmg'
  cases hmg'
  clear hmg
  wrow_args hpre hlay hrd hwl hlo
  obtain ⟨hat,hsz⟩:=script_at L
  rw [ZN] at hat hsz
  subst hat
  refine H w s₀ s₁ mg mb KX hg T.nolimit T.g T.bmain _ _ (script_obj L (by assumption)) (by assumption) ?hs _ (fun _ => rfl) ?hp
  case hs => assumption
  case hp => first | rfl | wrow_post
end
section
open PySem PySem.W PySem.Calls PyProof.Rows
private theorem prog_ok : ProgOk PySem.Challenge.rw_sr0073_01.row.prog:=⟨by kernel_rfl,by kernel_rfl⟩
theorem law_end : PySem.Challenge.rw_sr0073_01.Holds:=head01 fun w s₀ s₁ mg mb KX hg hlim hns hbm sc its hl hi hs args hr hp => law_run prog_ok KX hg hlim hns hbm hl hi hs hr hp
end
end Mine
theorem PySem.Challenge.cw_sr0073_01_holds : PySem.Challenge.rw_sr0073_01.Holds := by
  exact Mine.law_end
