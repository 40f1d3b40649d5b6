import PyProof.Rows.All
import Wide.All
import OpenK.AllK
import Wide.FinOn
import PySem.Challenge.RW_il0098_01
set_option Elab.async false
set_option bootstrap.genMatcherCode false
set_option compiler.extract_closed false
set_option maxRecDepth 100000
set_option maxHeartbeats 0
set_option linter.all false
open PySem PySem.W PyProof.Rows PySem.Challenge
namespace Mine
section
section
variable {a b c d n m k j s x:Nat}
theorem ar1 (h:913≤a:=by assumption):a - 900+900=a:=Nat.sub_add_cancel (Nat.le_trans (by decide) h)
theorem ar1' (h:913≤a:=by assumption):a=a - 900+900:=(ar1 h).symm
theorem ar2 (h:913≤a:=by assumption):13≤a - 900:=Nat.le_sub_of_add_le h
theorem ar3 (h:913≤a:=by assumption):a+1 - 900+900=a+1:=ar1 (Nat.le_succ_of_le h)
theorem ar4 (h:913≤a:=by assumption):13≤a+1 - 900:=ar2 (Nat.le_succ_of_le h)
theorem ar5 (h:913≤a:=by assumption):a+1 - 900+899=a:=Nat.succ.inj (ar3 h)
theorem ar8 (h:913≤a:=by assumption):a+2 - 900+900=a+2:=ar3 (Nat.le_succ_of_le h)
theorem ar6 (h:913≤a:=by assumption):a+2 - 900+899=a+1:=Nat.succ.inj (ar8 h)
theorem ar7 (h:913≤a:=by assumption):a+2 - 900+898=a:=Nat.succ.inj (ar6 h)
theorem ar6' (h:913≤a:=by assumption):a+1=a+2 - 900+899:=(ar6 h).symm
theorem ar9 (h:913≤a:=by assumption):13≤a+2 - 900:=ar4 (Nat.le_succ_of_le h)
theorem ar10 (h:13≤a:=by assumption):913≤a+900:=Nat.add_le_add_right h 900
theorem ar10' (h:13≤a:=by assumption):913≤a+900+0:=ar10 h
theorem ar11 (h:a+k≤n:=by assumption) (hk:j≤k:=by decide) (hn:n≤m:=by decide):a+j≤m:=Nat.le_trans (Nat.add_le_add_left hk a) (Nat.le_trans h hn)
theorem ar12 (h:a+k≤n:=by assumption) (hn:n≤m:=by decide):a≤m:=Nat.le_trans (Nat.le_add_right a k) (Nat.le_trans h hn)
theorem ar13 (h:a≤n:=by assumption) (hn:n≤m:=by decide):a≤m:=Nat.le_trans h hn
theorem ar14 (h:a≤n:=by assumption) (hn:n+j≤m:=by decide):a+j≤m:=Nat.le_trans (Nat.add_le_add_right h j) hn
theorem ar15 (h:a≤b:=by assumption):a≤b+1:=Nat.le_succ_of_le h
theorem ar16 (h:a < b:=by assumption):a+1≤b:=h
theorem ar17 (h:a+0=b:=by assumption):b≤a:=Nat.le_of_eq h.symm
theorem ar18 (h:0 < a:=by assumption):1+(a - 1)=a:=Nat.add_sub_cancel' h
theorem ar19 (h:0 < a:=by assumption):a - 1+1=a:=Nat.sub_add_cancel h
theorem ar20 (h:a+(b+1)=c:=by assumption):a+1+b=c:=by rw [Nat.add_right_comm];exact h
theorem ar21 (h:a+(b+1)=c:=by assumption):a < c:=by rw [←h];exact Nat.lt_add_of_pos_right (Nat.succ_pos b)
theorem ar22 (h:a+(b+1)=c:=by assumption) (k:b=0:=by assumption):a+1=c:=by rw [k] at h;exact h
theorem ar22' (h:a+(b+1)=c:=by assumption) (k:b=0:=by assumption):c - 1=a:=by rw [k] at h;rw [←h];rfl
theorem ar23 (h:a+(b+1)≤c:=by assumption):a+1+b≤c:=by rw [Nat.add_right_comm];exact h
theorem ar24 (h:a+(b+1)≤c:=by assumption):a < c:=Nat.lt_of_lt_of_le (ar21 rfl) h
theorem ar24' (h:a+(b+1)≤c:=by assumption):a+1≤c:=ar24 h
theorem ar25 (h:a+(b+1)≤n:=by assumption) (k:c≤a+1:=by assumption):c+b≤n:=Nat.le_trans (Nat.add_le_add_right k b) (ar23 h)
theorem ar26 (h:a+(b+1)≤n:=by assumption):a - 1+b≤n:=ar25 h (Nat.le_trans (Nat.sub_le a 1) (Nat.le_succ a))
theorem ar27 (h:a≤n:=by assumption) (k:s=m:=by assumption) (hn:n≤m:=by decide):a≤s:=by rw [k];exact Nat.le_trans h hn
theorem arp0 (h:a % 2=0:=by assumption):(a+1) % 2=1:=by rw [Nat.add_mod,h]
theorem arp1 (h:a % 2=1:=by assumption):(a+1) % 2=0:=by rw [Nat.add_mod,h]
theorem arp2 (h:¬a % 2=0:=by assumption):a % 2=1:=(Nat.mod_two_eq_zero_or_one a).resolve_left h
theorem arp3 (h:a % 2=0:=by assumption):(a+1+1) % 2=0:=arp1 (arp0 h)
theorem arp4 (h:(a+1+1) % 2=0:=by assumption):a % 2=0:=(Nat.add_mod_right a 2).symm.trans h
theorem arp5 (h:a % 2≠0:=by assumption):a % 2=1:=arp2 h
theorem ar29 (h:a≠0:=by assumption):(a - 1).succ=a:=Nat.succ_pred_eq_of_ne_zero h
theorem ar29' (h:a≠0:=by assumption):a - 1+1=a:=ar29 h
theorem ar30:a+(b+1) - 1 - b=a:=Nat.add_sub_cancel a b
theorem ar31:a+1 - 1 - a=0:=Nat.sub_self a
theorem ar32 (h:a≤k:=by assumption):k+1 - a=k - a+1:=Nat.sub_add_comm h
theorem ar33:(2 * a+1) / 2=a:=Nat.mul_add_div (by decide) a 1
theorem ar34:1+a+b=a+1+b:=by rw [Nat.add_comm 1 a]
theorem ar35 (h:a=b+(c+1):=by assumption):a=b+1+c:=(ar20 h.symm).symm
theorem ar36 (h:a≤b:=by assumption):a+(b - a)=b:=Nat.add_sub_cancel' h
theorem ar37 (h:a≤b:=by assumption) (k:b - a=0:=by assumption):a=b:=Nat.le_antisymm h (Nat.sub_eq_zero_iff_le.mp k)
theorem ar38 (h:b - a=c+1:=by assumption):a < b:=Nat.lt_of_sub_pos (by rw [h];exact Nat.succ_pos c)
theorem ar39 (h:a < n:=by assumption):a / k < n:=Nat.lt_of_le_of_lt (Nat.div_le_self a k) h
theorem ar40 (h:0 < a:=by assumption) (k:a - 1=0:=by assumption):0+1=a:=by rw [←ar19 h,k]
theorem ar41 (h:a≤b:=by assumption) (k:0 < a:=by assumption):a - 1+1≤b:=by rw [ar19 k];exact h
theorem ar42 (h:b≤c:=by assumption) (k:a≤b+1:=by assumption):a≤c+1:=Nat.le_trans k (Nat.succ_le_succ h)
theorem ar43 (h:a < b:=by assumption) (k:b=c:=by assumption):a < c:=k▸h
theorem ar43' (h:a < b:=by assumption) (k:c=b:=by assumption):a < c:=k▸h
theorem ar44 (h:a≤b:=by assumption) (k:b=c:=by assumption):a≤c:=k▸h
theorem ar44' (h:a≤b:=by assumption) (k:c=b:=by assumption):a≤c:=k▸h
theorem ar45 (h:a+(n+1) * (d+1)≤s:=by assumption):a+1≤s:=Nat.le_trans (Nat.add_le_add_left (Nat.mul_pos (Nat.succ_pos n) (Nat.succ_pos d)) a) h
theorem ar46 (h:a≤b:=by assumption) (k:b≤a:=by assumption):a=b:=Nat.le_antisymm h k
theorem ar47:((a:Nat):Int)+1=((a+1:Nat):Int):=rfl
theorem ar48 (h:a < b:=by assumption):0 < b:=Nat.zero_lt_of_lt h
theorem ar49 (h:a≠0:=by assumption):0 < a:=Nat.pos_of_ne_zero h
theorem ar50 (h:a+b≤c:=by assumption):b≤c:=Nat.le_trans (Nat.le_add_left b a) h
theorem ar51 (h:a < b:=by assumption):a≤b:=Nat.le_of_lt h
theorem ar52 (h:¬a < b:=by assumption):b≤a:=Nat.le_of_not_lt h
theorem ar53 (h:¬a≤b:=by assumption):b < a:=Nat.lt_of_not_le h
theorem ar55 (h:a≤4:=by assumption) (k:b≤c:=by assumption):b+a≤c+4+0:=by show b+a≤c+4;exact Nat.add_le_add k h
theorem ar56:a+c - a=c:=Nat.add_sub_cancel_left a c
theorem ar60:(2 * a+1) % 2=1:=Nat.mul_add_mod 2 a 1
theorem ar61:2 * a+1 < n↔a < n / 2:=by
 rw [Nat.lt_div_iff_mul_lt (by decide),Nat.mul_comm a];exact Nat.lt_sub_iff_add_lt.symm
theorem ar62:¬(2 * a+2) % 2=1:=by rw [Nat.mul_add_mod];decide
theorem ar63:(2 * a+2) / 2 - 1=a:=congrArg (· - 1) (Nat.mul_add_div (by decide) a 2)
theorem ar64 (h:a < b:=by assumption):a+1+(b - (a+1))=b:=Nat.add_sub_cancel' h
theorem ar65 (h:0 < n:=by assumption):(-1+(n:Int)).toNat=n - 1:=by
 rw [Int.add_comm];exact Int.toNat_sub n 1
theorem ar66 (a:Nat):a % 3=0∨a % 3=1∨a % 3=2:=match a % 3,Nat.mod_lt a (show 0 < 3 by decide) with
 | 0,_=>.inl rfl
 | 1,_=>.inr (.inl rfl)
 | 2,_=>.inr (.inr rfl)
theorem ar67 (h:n - k=a+1:=by assumption):a+1+k=n:=by
 rw [←h];exact Nat.sub_add_cancel (Nat.le_of_lt (Nat.lt_of_sub_pos (by rw [h];exact Nat.succ_pos a)))
theorem ar68 (h:n - k=a+1:=by assumption):n - a=k+1:=by
 rw [←ar67 h,Nat.add_assoc,Nat.add_sub_cancel_left,Nat.add_comm]
theorem ar69 (h:1≤a:=by assumption):a=a - 1+1:=(Nat.sub_add_cancel h).symm
theorem ar70 (h:a+1=b:=by assumption):b - 1=a:=by rw [←h];rfl
theorem ar71 (h:a+(b - 1)≤n:=by assumption) (k:0 < a:=by assumption):b≤n:=Nat.le_trans (by
 cases b with
 | zero=>exact Nat.zero_le _
 | succ b=>show b+1≤a+b;rw [Nat.add_comm b 1];exact Nat.add_le_add_right k b) h
theorem ar72 (h:a≤n:=by assumption) (k:0 < a:=by assumption):1+(a - 1)≤n:=by rw [ar18 k];exact h
theorem ar73 (h:a≤n:=by assumption):0+(a - 1)≤n:=by rw [Nat.zero_add];exact Nat.le_trans (Nat.sub_le a 1) h
theorem ar74 (h:¬a - 1 < a:=by assumption):a=0:=by
 cases a with
 | zero=>rfl
 | succ a=>exact absurd (Nat.lt_succ_self a) h
theorem ar75 (h:a - 1 < a:=by assumption):a - 1+1=a:=Nat.sub_add_cancel (Nat.lt_of_le_of_lt (Nat.zero_le _) h)
theorem ar76 (h:0 < a:=by assumption):a=(a - 1).succ:=(Nat.succ_pred_eq_of_pos h).symm
theorem ar77 (h:912 < a:=by assumption):13≤a - 900:=ar2 h
theorem ar78 (h:912 < a:=by assumption):a - 900+900=a:=ar1 h
end
noncomputable def prog:Program:=by
 refine (?a:∀ x:Program,x=pw_il0098_01→Program) ?x ?h
 ·exact fun x _=>x
 rotate_left
 ·delta pw_il0098_01
  conv=>rhs;reduce
theorem prog_eq:pw_il0098_01=prog:=by kernel_rfl
noncomputable def said.tw5303714198823723606:Program:=prog
theorem said.te5303714198823723606:pw_il0098_01=said.tw5303714198823723606:=prog_eq
set_option Elab.async true in
theorem said:PySem.Challenge.rw_il0098_01.wellSaid=true:=by k_qdec
noncomputable def st (i:Nat):Stmt:=prog.main.body.getD i default
noncomputable def sub (s:Stmt) (j:Nat):Stmt:=match s with
 | .ClassDef _ _ _ b _ _ _ _ _ _ _=>b.getD j default
 | _=>default
noncomputable def fA (s:Stmt):Arguments:=match s with
 | .FunctionDef _ a _ _ _ _ _ _ _ _=>a
 | _=>default
noncomputable def fB (s:Stmt):List Stmt:=match s with
 | .FunctionDef _ _ b _ _ _ _ _ _ _=>b
 | _=>[]
noncomputable def fS (s:Stmt):Scope:=match s with
 | .FunctionDef _ _ _ _ _ _ sc _ _ _=>sc
 | _=>default
noncomputable def E (P:Params) (k:Str) (t:Tok) (v:Value):DictEntry:=⟨PyData.keyHash P k,.str k t,v⟩
noncomputable def o0 (P:Params):Obj:=⟨(.type "dict"),none,(.dict ⟨[E P ⟨⟨[95,95,110,97,109,101,95,95]⟩⟩ 1 (.str ⟨⟨[98,117,105,108,116,105,110,115]⟩⟩ 160),E P ⟨⟨[95,95,100,111,99,95,95]⟩⟩ 2 (.builtin "builtins.__doc__:str#opaque"),E P ⟨⟨[95,95,112,97,99,107,97,103,101,95,95]⟩⟩ 3 (.builtin "builtins.__package__:str#opaque"),E P ⟨⟨[95,95,108,111,97,100,101,114,95,95]⟩⟩ 4 (.builtin "builtins.__loader__:shared#opaque"),E P ⟨⟨[95,95,115,112,101,99,95,95]⟩⟩ 5 (.builtin "builtins.__spec__#opaque"),E P ⟨⟨[95,95,98,117,105,108,100,95,99,108,97,115,115,95,95]⟩⟩ 6 (.builtin "__build_class__"),E P ⟨⟨[95,95,105,109,112,111,114,116,95,95]⟩⟩ 7 (.builtin "__import__"),E P ⟨⟨[97,98,115]⟩⟩ 8 (.builtin "abs"),E P ⟨⟨[97,108,108]⟩⟩ 9 (.builtin "all"),E P ⟨⟨[97,110,121]⟩⟩ 10 (.builtin "any"),E P ⟨⟨[97,115,99,105,105]⟩⟩ 11 (.builtin "ascii"),E P ⟨⟨[98,105,110]⟩⟩ 12 (.builtin "bin"),E P ⟨⟨[98,114,101,97,107,112,111,105,110,116]⟩⟩ 13 (.builtin "breakpoint"),E P ⟨⟨[99,97,108,108,97,98,108,101]⟩⟩ 14 (.builtin "callable"),E P ⟨⟨[99,104,114]⟩⟩ 15 (.builtin "chr"),E P ⟨⟨[99,111,109,112,105,108,101]⟩⟩ 16 (.builtin "compile"),E P ⟨⟨[100,101,108,97,116,116,114]⟩⟩ 17 (.builtin "delattr"),E P ⟨⟨[100,105,114]⟩⟩ 18 (.builtin "dir"),E P ⟨⟨[100,105,118,109,111,100]⟩⟩ 19 (.builtin "divmod"),E P ⟨⟨[101,118,97,108]⟩⟩ 20 (.builtin "eval"),E P ⟨⟨[101,120,101,99]⟩⟩ 21 (.builtin "exec"),E P ⟨⟨[102,111,114,109,97,116]⟩⟩ 22 (.builtin "format"),E P ⟨⟨[103,101,116,97,116,116,114]⟩⟩ 23 (.builtin "getattr"),E P ⟨⟨[103,108,111,98,97,108,115]⟩⟩ 24 (.builtin "globals"),E P ⟨⟨[104,97,115,97,116,116,114]⟩⟩ 25 (.builtin "hasattr"),E P ⟨⟨[104,97,115,104]⟩⟩ 26 (.builtin "hash"),E P ⟨⟨[104,101,120]⟩⟩ 27 (.builtin "hex"),E P ⟨⟨[105,100]⟩⟩ 28 (.builtin "id"),E P ⟨⟨[105,110,112,117,116]⟩⟩ 29 (.builtin "input"),E P ⟨⟨[105,115,105,110,115,116,97,110,99,101]⟩⟩ 30 (.builtin "isinstance"),E P ⟨⟨[105,115,115,117,98,99,108,97,115,115]⟩⟩ 31 (.builtin "issubclass"),E P ⟨⟨[105,116,101,114]⟩⟩ 32 (.builtin "iter"),E P ⟨⟨[97,105,116,101,114]⟩⟩ 33 (.builtin "aiter"),E P ⟨⟨[108,101,110]⟩⟩ 34 (.builtin "len"),E P ⟨⟨[108,111,99,97,108,115]⟩⟩ 35 (.builtin "locals"),E P ⟨⟨[109,97,120]⟩⟩ 36 (.builtin "max"),E P ⟨⟨[109,105,110]⟩⟩ 37 (.builtin "min"),E P ⟨⟨[110,101,120,116]⟩⟩ 38 (.builtin "next"),E P ⟨⟨[97,110,101,120,116]⟩⟩ 39 (.builtin "anext"),E P ⟨⟨[111,99,116]⟩⟩ 40 (.builtin "oct"),E P ⟨⟨[111,114,100]⟩⟩ 41 (.builtin "ord"),E P ⟨⟨[112,111,119]⟩⟩ 42 (.builtin "pow"),E P ⟨⟨[112,114,105,110,116]⟩⟩ 43 (.builtin "print"),E P ⟨⟨[114,101,112,114]⟩⟩ 44 (.builtin "repr"),E P ⟨⟨[114,111,117,110,100]⟩⟩ 45 (.builtin "round"),E P ⟨⟨[115,101,116,97,116,116,114]⟩⟩ 46 (.builtin "setattr"),E P ⟨⟨[115,111,114,116,101,100]⟩⟩ 47 (.builtin "sorted"),E P ⟨⟨[115,117,109]⟩⟩ 48 (.builtin "sum"),E P ⟨⟨[118,97,114,115]⟩⟩ 49 (.builtin "vars"),E P ⟨⟨[78,111,110,101]⟩⟩ 50 .none,E P ⟨⟨[69,108,108,105,112,115,105,115]⟩⟩ 51 .ellipsis,E P ⟨⟨[78,111,116,73,109,112,108,101,109,101,110,116,101,100]⟩⟩ 52 .notImplemented,E P ⟨⟨[70,97,108,115,101]⟩⟩ 53 (.bool false),E P ⟨⟨[84,114,117,101]⟩⟩ 54 (.bool true),E P ⟨⟨[98,111,111,108]⟩⟩ 55 (.type "bool"),E P ⟨⟨[109,101,109,111,114,121,118,105,101,119]⟩⟩ 56 (.type "memoryview"),E P ⟨⟨[98,121,116,101,97,114,114,97,121]⟩⟩ 57 (.type "bytearray"),E P ⟨⟨[98,121,116,101,115]⟩⟩ 58 (.type "bytes"),E P ⟨⟨[99,108,97,115,115,109,101,116,104,111,100]⟩⟩ 59 (.type "classmethod"),E P ⟨⟨[99,111,109,112,108,101,120]⟩⟩ 60 (.type "complex"),E P ⟨⟨[100,105,99,116]⟩⟩ 61 (.type "dict"),E P ⟨⟨[101,110,117,109,101,114,97,116,101]⟩⟩ 62 (.type "enumerate"),E P ⟨⟨[102,105,108,116,101,114]⟩⟩ 63 (.type "filter"),E P ⟨⟨[102,108,111,97,116]⟩⟩ 64 (.type "float"),E P ⟨⟨[102,114,111,122,101,110,115,101,116]⟩⟩ 65 (.type "frozenset"),E P ⟨⟨[112,114,111,112,101,114,116,121]⟩⟩ 66 (.type "property"),E P ⟨⟨[105,110,116]⟩⟩ 67 (.type "int"),E P ⟨⟨[108,105,115,116]⟩⟩ 68 (.type "list"),E P ⟨⟨[109,97,112]⟩⟩ 69 (.type "map"),E P ⟨⟨[111,98,106,101,99,116]⟩⟩ 70 (.type "object"),E P ⟨⟨[114,97,110,103,101]⟩⟩ 71 (.type "range"),E P ⟨⟨[114,101,118,101,114,115,101,100]⟩⟩ 72 (.type "reversed"),E P ⟨⟨[115,101,116]⟩⟩ 73 (.type "set"),E P ⟨⟨[115,108,105,99,101]⟩⟩ 74 (.type "slice"),E P ⟨⟨[115,116,97,116,105,99,109,101,116,104,111,100]⟩⟩ 75 (.type "staticmethod"),E P ⟨⟨[115,116,114]⟩⟩ 76 (.type "str"),E P ⟨⟨[115,117,112,101,114]⟩⟩ 77 (.type "super"),E P ⟨⟨[116,117,112,108,101]⟩⟩ 78 (.type "tuple"),E P ⟨⟨[116,121,112,101]⟩⟩ 79 (.type "type"),E P ⟨⟨[122,105,112]⟩⟩ 80 (.type "zip"),E P ⟨⟨[95,95,100,101,98,117,103,95,95]⟩⟩ 81 (.bool true),E P ⟨⟨[66,97,115,101,69,120,99,101,112,116,105,111,110]⟩⟩ 82 (.type "BaseException"),E P ⟨⟨[66,97,115,101,69,120,99,101,112,116,105,111,110,71,114,111,117,112]⟩⟩ 83 (.type "BaseExceptionGroup"),E P ⟨⟨[69,120,99,101,112,116,105,111,110]⟩⟩ 84 (.type "Exception"),E P ⟨⟨[71,101,110,101,114,97,116,111,114,69,120,105,116]⟩⟩ 85 (.type "GeneratorExit"),E P ⟨⟨[75,101,121,98,111,97,114,100,73,110,116,101,114,114,117,112,116]⟩⟩ 86 (.type "KeyboardInterrupt"),E P ⟨⟨[83,121,115,116,101,109,69,120,105,116]⟩⟩ 87 (.type "SystemExit"),E P ⟨⟨[65,114,105,116,104,109,101,116,105,99,69,114,114,111,114]⟩⟩ 88 (.type "ArithmeticError"),E P ⟨⟨[65,115,115,101,114,116,105,111,110,69,114,114,111,114]⟩⟩ 89 (.type "AssertionError"),E P ⟨⟨[65,116,116,114,105,98,117,116,101,69,114,114,111,114]⟩⟩ 90 (.type "AttributeError"),E P ⟨⟨[66,117,102,102,101,114,69,114,114,111,114]⟩⟩ 91 (.type "BufferError"),E P ⟨⟨[69,79,70,69,114,114,111,114]⟩⟩ 92 (.type "EOFError"),E P ⟨⟨[73,109,112,111,114,116,69,114,114,111,114]⟩⟩ 93 (.type "ImportError"),E P ⟨⟨[76,111,111,107,117,112,69,114,114,111,114]⟩⟩ 94 (.type "LookupError"),E P ⟨⟨[77,101,109,111,114,121,69,114,114,111,114]⟩⟩ 95 (.type "MemoryError"),E P ⟨⟨[78,97,109,101,69,114,114,111,114]⟩⟩ 96 (.type "NameError"),E P ⟨⟨[79,83,69,114,114,111,114]⟩⟩ 97 (.type "OSError"),E P ⟨⟨[82,101,102,101,114,101,110,99,101,69,114,114,111,114]⟩⟩ 98 (.type "ReferenceError"),E P ⟨⟨[82,117,110,116,105,109,101,69,114,114,111,114]⟩⟩ 99 (.type "RuntimeError"),E P ⟨⟨[83,116,111,112,65,115,121,110,99,73,116,101,114,97,116,105,111,110]⟩⟩ 100 (.type "StopAsyncIteration"),E P ⟨⟨[83,116,111,112,73,116,101,114,97,116,105,111,110]⟩⟩ 101 (.type "StopIteration"),E P ⟨⟨[83,121,110,116,97,120,69,114,114,111,114]⟩⟩ 102 (.type "SyntaxError"),E P ⟨⟨[83,121,115,116,101,109,69,114,114,111,114]⟩⟩ 103 (.type "SystemError"),E P ⟨⟨[84,121,112,101,69,114,114,111,114]⟩⟩ 104 (.type "TypeError"),E P ⟨⟨[86,97,108,117,101,69,114,114,111,114]⟩⟩ 105 (.type "ValueError"),E P ⟨⟨[87,97,114,110,105,110,103]⟩⟩ 106 (.type "Warning"),E P ⟨⟨[70,108,111,97,116,105,110,103,80,111,105,110,116,69,114,114,111,114]⟩⟩ 107 (.type "FloatingPointError"),E P ⟨⟨[79,118,101,114,102,108,111,119,69,114,114,111,114]⟩⟩ 108 (.type "OverflowError"),E P ⟨⟨[90,101,114,111,68,105,118,105,115,105,111,110,69,114,114,111,114]⟩⟩ 109 (.type "ZeroDivisionError"),E P ⟨⟨[66,121,116,101,115,87,97,114,110,105,110,103]⟩⟩ 110 (.type "BytesWarning"),E P ⟨⟨[68,101,112,114,101,99,97,116,105,111,110,87,97,114,110,105,110,103]⟩⟩ 111 (.type "DeprecationWarning"),E P ⟨⟨[69,110,99,111,100,105,110,103,87,97,114,110,105,110,103]⟩⟩ 112 (.type "EncodingWarning"),E P ⟨⟨[70,117,116,117,114,101,87,97,114,110,105,110,103]⟩⟩ 113 (.type "FutureWarning"),E P ⟨⟨[73,109,112,111,114,116,87,97,114,110,105,110,103]⟩⟩ 114 (.type "ImportWarning"),E P ⟨⟨[80,101,110,100,105,110,103,68,101,112,114,101,99,97,116,105,111,110,87,97,114,110,105,110,103]⟩⟩ 115 (.type "PendingDeprecationWarning"),E P ⟨⟨[82,101,115,111,117,114,99,101,87,97,114,110,105,110,103]⟩⟩ 116 (.type "ResourceWarning"),E P ⟨⟨[82,117,110,116,105,109,101,87,97,114,110,105,110,103]⟩⟩ 117 (.type "RuntimeWarning"),E P ⟨⟨[83,121,110,116,97,120,87,97,114,110,105,110,103]⟩⟩ 118 (.type "SyntaxWarning"),E P ⟨⟨[85,110,105,99,111,100,101,87,97,114,110,105,110,103]⟩⟩ 119 (.type "UnicodeWarning"),E P ⟨⟨[85,115,101,114,87,97,114,110,105,110,103]⟩⟩ 120 (.type "UserWarning"),E P ⟨⟨[66,108,111,99,107,105,110,103,73,79,69,114,114,111,114]⟩⟩ 121 (.type "BlockingIOError"),E P ⟨⟨[67,104,105,108,100,80,114,111,99,101,115,115,69,114,114,111,114]⟩⟩ 122 (.type "ChildProcessError"),E P ⟨⟨[67,111,110,110,101,99,116,105,111,110,69,114,114,111,114]⟩⟩ 123 (.type "ConnectionError"),E P ⟨⟨[70,105,108,101,69,120,105,115,116,115,69,114,114,111,114]⟩⟩ 124 (.type "FileExistsError"),E P ⟨⟨[70,105,108,101,78,111,116,70,111,117,110,100,69,114,114,111,114]⟩⟩ 125 (.type "FileNotFoundError"),E P ⟨⟨[73,110,116,101,114,114,117,112,116,101,100,69,114,114,111,114]⟩⟩ 126 (.type "InterruptedError"),E P ⟨⟨[73,115,65,68,105,114,101,99,116,111,114,121,69,114,114,111,114]⟩⟩ 127 (.type "IsADirectoryError"),E P ⟨⟨[78,111,116,65,68,105,114,101,99,116,111,114,121,69,114,114,111,114]⟩⟩ 128 (.type "NotADirectoryError"),E P ⟨⟨[80,101,114,109,105,115,115,105,111,110,69,114,114,111,114]⟩⟩ 129 (.type "PermissionError"),E P ⟨⟨[80,114,111,99,101,115,115,76,111,111,107,117,112,69,114,114,111,114]⟩⟩ 130 (.type "ProcessLookupError"),E P ⟨⟨[84,105,109,101,111,117,116,69,114,114,111,114]⟩⟩ 131 (.type "TimeoutError"),E P ⟨⟨[73,110,100,101,110,116,97,116,105,111,110,69,114,114,111,114]⟩⟩ 132 (.type "IndentationError"),E P ⟨⟨[95,73,110,99,111,109,112,108,101,116,101,73,110,112,117,116,69,114,114,111,114]⟩⟩ 133 (.type "_IncompleteInputError"),E P ⟨⟨[73,110,100,101,120,69,114,114,111,114]⟩⟩ 134 (.type "IndexError"),E P ⟨⟨[75,101,121,69,114,114,111,114]⟩⟩ 135 (.type "KeyError"),E P ⟨⟨[77,111,100,117,108,101,78,111,116,70,111,117,110,100,69,114,114,111,114]⟩⟩ 136 (.type "ModuleNotFoundError"),E P ⟨⟨[78,111,116,73,109,112,108,101,109,101,110,116,101,100,69,114,114,111,114]⟩⟩ 137 (.type "NotImplementedError"),E P ⟨⟨[80,121,116,104,111,110,70,105,110,97,108,105,122,97,116,105,111,110,69,114,114,111,114]⟩⟩ 138 (.type "PythonFinalizationError"),E P ⟨⟨[82,101,99,117,114,115,105,111,110,69,114,114,111,114]⟩⟩ 139 (.type "RecursionError"),E P ⟨⟨[85,110,98,111,117,110,100,76,111,99,97,108,69,114,114,111,114]⟩⟩ 140 (.type "UnboundLocalError"),E P ⟨⟨[85,110,105,99,111,100,101,69,114,114,111,114]⟩⟩ 141 (.type "UnicodeError"),E P ⟨⟨[66,114,111,107,101,110,80,105,112,101,69,114,114,111,114]⟩⟩ 142 (.type "BrokenPipeError"),E P ⟨⟨[67,111,110,110,101,99,116,105,111,110,65,98,111,114,116,101,100,69,114,114,111,114]⟩⟩ 143 (.type "ConnectionAbortedError"),E P ⟨⟨[67,111,110,110,101,99,116,105,111,110,82,101,102,117,115,101,100,69,114,114,111,114]⟩⟩ 144 (.type "ConnectionRefusedError"),E P ⟨⟨[67,111,110,110,101,99,116,105,111,110,82,101,115,101,116,69,114,114,111,114]⟩⟩ 145 (.type "ConnectionResetError"),E P ⟨⟨[84,97,98,69,114,114,111,114]⟩⟩ 146 (.type "TabError"),E P ⟨⟨[85,110,105,99,111,100,101,68,101,99,111,100,101,69,114,114,111,114]⟩⟩ 147 (.type "UnicodeDecodeError"),E P ⟨⟨[85,110,105,99,111,100,101,69,110,99,111,100,101,69,114,114,111,114]⟩⟩ 148 (.type "UnicodeEncodeError"),E P ⟨⟨[85,110,105,99,111,100,101,84,114,97,110,115,108,97,116,101,69,114,114,111,114]⟩⟩ 149 (.type "UnicodeTranslateError"),E P ⟨⟨[69,120,99,101,112,116,105,111,110,71,114,111,117,112]⟩⟩ 150 (.type "ExceptionGroup"),E P ⟨⟨[69,110,118,105,114,111,110,109,101,110,116,69,114,114,111,114]⟩⟩ 151 (.type "OSError"),E P ⟨⟨[73,79,69,114,114,111,114]⟩⟩ 152 (.type "OSError"),E P ⟨⟨[111,112,101,110]⟩⟩ 153 (.builtin "open"),E P ⟨⟨[113,117,105,116]⟩⟩ 154 (.builtin "builtins.quit#opaque"),E P ⟨⟨[101,120,105,116]⟩⟩ 155 (.builtin "builtins.exit#opaque"),E P ⟨⟨[99,111,112,121,114,105,103,104,116]⟩⟩ 156 (.builtin "builtins.copyright#opaque"),E P ⟨⟨[99,114,101,100,105,116,115]⟩⟩ 157 (.builtin "builtins.credits#opaque"),E P ⟨⟨[108,105,99,101,110,115,101]⟩⟩ 158 (.builtin "builtins.license#opaque"),E P ⟨⟨[104,101,108,112]⟩⟩ 159 (.builtin "builtins.help#opaque")]⟩ 159),⟨[]⟩⟩
noncomputable def o2 (P:Params):Obj:=⟨.none,none,(.dict ⟨[E P ⟨⟨[105,109,112,111,114,116,46,108,111,97,100,101,100,46,95,115,114,101]⟩⟩ 183 (.bool true),E P ⟨⟨[99,108,97,115,115,46,95,102,114,111,122,101,110,95,105,109,112,111,114,116,108,105,98,46,66,117,105,108,116,105,110,73,109,112,111,114,116,101,114]⟩⟩ 185 (.ref 14),E P ⟨⟨[119,97,116,99,104,101,100,46,105,109,112,111,114,116]⟩⟩ 206 (.ref 18),E P ⟨⟨[99,108,97,115,115,46,95,102,114,111,122,101,110,95,105,109,112,111,114,116,108,105,98,46,77,111,100,117,108,101,83,112,101,99]⟩⟩ 216 (.ref 22),E P ⟨⟨[115,121,115,46,109,111,100,117,108,101,115,46,98,111,111,107,101,100,45,101,112,111,99,104]⟩⟩ 245 (.int (4) 0),E P ⟨⟨[105,109,112,111,114,116,46,108,97,116,101,114,45,108,97,105,100,46,95,115,114,101]⟩⟩ 270 (.bool true),E P ⟨⟨[119,97,116,99,104,101,100,46,108,105,98,114,97,114,121]⟩⟩ 272 (.ref 27),E P ⟨⟨[119,97,116,99,104,101,100,46,108,105,98,114,97,114,121,45,111,98,106,101,99,116,115]⟩⟩ 0 (.str ⟨⟨[12,30]⟩⟩ 0),E P ⟨⟨[119,97,116,99,104,101,100,46,108,105,98,114,97,114,121,45,100,101,101,112,46,95,115,114,101]⟩⟩ 273 (.str ⟨⟨[4,0,0,11,4,0,0,11,4,0,0,3,4,0,0,11,8,4,100,105,99,116,2]⟩⟩ 0),E P ⟨⟨[105,109,112,111,114,116,46,108,111,97,100,101,100,46,95,99,111,108,108,101,99,116,105,111,110,115]⟩⟩ 280 (.bool true),E P ⟨⟨[115,121,115,46,109,111,100,117,108,101,115,46,108,97,110,100,101,100,46,95,99,111,108,108,101,99,116,105,111,110,115]⟩⟩ 294 (.bool true),E P ⟨⟨[105,109,112,111,114,116,46,108,97,116,101,114,45,108,97,105,100,46,95,99,111,108,108,101,99,116,105,111,110,115]⟩⟩ 309 (.bool true),E P ⟨⟨[119,97,116,99,104,101,100,46,108,105,98,114,97,114,121,45,100,101,101,112,46,95,99,111,108,108,101,99,116,105,111,110,115]⟩⟩ 311 (.str ⟨⟨[4,0,0,29,4,0,0,29,4,0,0,3,4,0,0,29,8,4,100,105,99,116,2]⟩⟩ 0),E P ⟨⟨[116,121,112,101,46,95,95,115,117,98,99,108,97,115,115,101,115,95,95,46,79,83,69,114,114,111,114,46,48]⟩⟩ 589 (.int (195) 0),E P ⟨⟨[116,121,112,101,46,95,95,115,117,98,99,108,97,115,115,101,115,95,95,46,79,83,69,114,114,111,114,46,110]⟩⟩ 590 (.int (1) 0)]⟩ 15),⟨[]⟩⟩
noncomputable def o3 (P:Params):Obj:=⟨(.type "dict"),none,(.dict ⟨[E P ⟨⟨[95,95,110,97,109,101,95,95]⟩⟩ 165 (.str ⟨⟨[108,97,119,95,105,108,48,48,57,56,95,48,49]⟩⟩ 1430),E P ⟨⟨[95,95,100,111,99,95,95]⟩⟩ 166 .none,E P ⟨⟨[95,95,112,97,99,107,97,103,101,95,95]⟩⟩ 167 .none,E P ⟨⟨[95,95,108,111,97,100,101,114,95,95]⟩⟩ 168 (.builtin "__main__.__loader__#opaque"),E P ⟨⟨[95,95,115,112,101,99,95,95]⟩⟩ 169 .none,E P ⟨⟨[95,95,97,110,110,111,116,97,116,105,111,110,115,95,95]⟩⟩ 170 (.ref 6),E P ⟨⟨[95,95,98,117,105,108,116,105,110,115,95,95]⟩⟩ 171 (.ref 4),E P ⟨⟨[95,95,102,105,108,101,95,95]⟩⟩ 173 (.str ⟨⟨[47,99,108,97,105,109,47,99,117,116,46,112,121]⟩⟩ 172),E P ⟨⟨[95,95,99,97,99,104,101,100,95,95]⟩⟩ 174 .none,E P ⟨⟨[95,115,114,101]⟩⟩ 275 (.ref 12),E P ⟨⟨[100,101,113,117,101]⟩⟩ 317 (.type "collections.deque"),E P ⟨⟨[95,119,97,108,108]⟩⟩ 330 (.ref 44),E P ⟨⟨[95,105,116,101,114,95,101,115,99,97,112,101,100,95,99,104,97,114,115]⟩⟩ 342 (.ref 51),E P ⟨⟨[95,115,116,114,105,112,95,113,117,111,116,101,100,95,114,101,97,108,110,97,109,101,115]⟩⟩ 354 (.ref 58),E P ⟨⟨[95,112,108,97,105,110,95,110,97,109,101]⟩⟩ 365 (.ref 65),E P ⟨⟨[65,66,67,77,101,116,97]⟩⟩ 391 (.ref 82),E P ⟨⟨[95,65,66,67,76,105,107,101]⟩⟩ 434 (.ref 115),E P ⟨⟨[95,97,98,99,95,112,108,97,105,110,95,109,101,116,97]⟩⟩ 441 (.ref 124),E P ⟨⟨[102,115,112,97,116,104]⟩⟩ 453 (.ref 131),E P ⟨⟨[95,99,104,101,99,107,95,97,114,103,95,116,121,112,101,115]⟩⟩ 466 (.ref 742),E P ⟨⟨[99,104,101,99,107,95,97,114,103,95,116,121,112,101,115,95,103,101,110,101,114,105,99,112,97,116,104]⟩⟩ 467 (.ref 138),E P ⟨⟨[95,103,101,116,95,115,101,112]⟩⟩ 476 (.ref 145),E P ⟨⟨[106,111,105,110]⟩⟩ 487 (.ref 756),E P ⟨⟨[106,111,105,110,95,112,111,115,105,120,112,97,116,104]⟩⟩ 488 (.ref 152),E P ⟨⟨[115,112,108,105,116,114,111,111,116]⟩⟩ 497 (.ref 159),E P ⟨⟨[110,111,114,109,112,97,116,104]⟩⟩ 512 (.ref 166),E P ⟨⟨[95,116,119,105,110,95,114,101,95,49]⟩⟩ 552 (.ref 171),E P ⟨⟨[95,119,104,101,110,99,101]⟩⟩ 562 (.ref 178),E P ⟨⟨[95,105,110,100,101,120]⟩⟩ 570 (.ref 185),E P ⟨⟨[85,110,115,117,112,112,111,114,116,101,100,79,112,101,114,97,116,105,111,110]⟩⟩ 592 (.ref 195),E P ⟨⟨[73,79,66,97,115,101]⟩⟩ 624 (.ref 215),E P ⟨⟨[66,117,102,102,101,114,101,100,73,79,66,97,115,101]⟩⟩ 642 (.ref 230),E P ⟨⟨[84,101,120,116,73,79,66,97,115,101]⟩⟩ 660 (.ref 242),E P ⟨⟨[66,121,116,101,115,73,79]⟩⟩ 922 (.ref 472),E P ⟨⟨[83,116,114,105,110,103,73,79]⟩⟩ 1209 (.ref 719),E P ⟨⟨[95,107,105,110,100]⟩⟩ 1220 (.ref 728),E P ⟨⟨[95,102,115,112,97,116,104]⟩⟩ 1229 (.ref 735),E P ⟨⟨[99,104,101,99,107,95,97,114,103,95,116,121,112,101,115,95,112,97,116,104]⟩⟩ 1240 (.ref 742),E P ⟨⟨[105,115,97,98,115]⟩⟩ 1247 (.ref 749),E P ⟨⟨[106,111,105,110,95,112,97,116,104]⟩⟩ 1259 (.ref 756),E P ⟨⟨[100,105,114,110,97,109,101]⟩⟩ 1269 (.ref 763),E P ⟨⟨[115,104,108,101,120]⟩⟩ 1410 (.ref 854),E P ⟨⟨[115,112,108,105,116]⟩⟩ 1420 (.ref 866),E P ⟨⟨[95,102,105,110,100,95,117,110,115,97,102,101]⟩⟩ 1422 (.ref 867),E P ⟨⟨[113,117,111,116,101]⟩⟩ 1429 (.ref 874),E P ⟨⟨[95,108,97,119,95,112,97,114,116]⟩⟩ 1439 (.ref 881),E P ⟨⟨[95,108,97,119,95,115,116,114,117,99,107]⟩⟩ 1445 (.ref 886),E P ⟨⟨[95,108,97,119,95,119,111,114,100,115]⟩⟩ 1457 (.ref 893),E P ⟨⟨[95,108,97,119,95,112,97,116,104]⟩⟩ 1466 (.ref 900),E P ⟨⟨[95,108,97,119,95,114,101,97,100]⟩⟩ 1473 (.ref 907),E P ⟨⟨[108,97,119]⟩⟩ 1479 (.ref 912)]⟩ 51),⟨[]⟩⟩
noncomputable def o50 (P:Params):Obj:=⟨(.type "code"),none,(.fields ⟨[(.str ⟨⟨[95,105,116,101,114,95,101,115,99,97,112,101,100,95,99,104,97,114,115]⟩⟩ 333),(.str ⟨⟨[95,105,116,101,114,95,101,115,99,97,112,101,100,95,99,104,97,114,115]⟩⟩ 334),(.str ⟨⟨[47,99,108,97,105,109,47,99,117,116,46,112,121]⟩⟩ 335),(.int (7) 0),(.int (1) 0),(.int (0) 0),(.int (0) 0),(.int (35) 0),(.ref 45),(.bool true),(.int (318) 0),(.ref 46),.none,(.ref 47),(.ref 48),(.ref 49),(.int (340) 0),(.int (7) 0),(.str ⟨⟨[47,99,108,97,105,109,47,99,117,116,46,112,121]⟩⟩ 341)]⟩),⟨[]⟩⟩
noncomputable def o51 (P:Params):Obj:=⟨(.type "function"),none,(.func ⟨⟨⟨[95,105,116,101,114,95,101,115,99,97,112,101,100,95,99,104,97,114,115]⟩⟩,⟨⟨[95,105,116,101,114,95,101,115,99,97,112,101,100,95,99,104,97,114,115]⟩⟩,fA (st 4),.stmts (fB (st 4)),fS (st 4),3,[],.none,.none,.none,(.str ⟨⟨[99,112,121,51,49,51,46,101,109,97,105,108,46,117,116,105,108,115]⟩⟩ 331),none,(.ref 50),.none,0⟩),⟨[]⟩⟩
noncomputable def o57 (P:Params):Obj:=⟨(.type "code"),none,(.fields ⟨[(.str ⟨⟨[95,115,116,114,105,112,95,113,117,111,116,101,100,95,114,101,97,108,110,97,109,101,115]⟩⟩ 343),(.str ⟨⟨[95,115,116,114,105,112,95,113,117,111,116,101,100,95,114,101,97,108,110,97,109,101,115]⟩⟩ 344),(.str ⟨⟨[47,99,108,97,105,109,47,99,117,116,46,112,121]⟩⟩ 345),(.int (20) 0),(.int (1) 0),(.int (0) 0),(.int (0) 0),(.int (3) 0),(.ref 52),(.bool true),(.int (318) 0),(.ref 53),.none,(.ref 54),(.ref 55),(.ref 56),(.int (352) 0),(.int (20) 0),(.str ⟨⟨[47,99,108,97,105,109,47,99,117,116,46,112,121]⟩⟩ 353)]⟩),⟨[]⟩⟩
noncomputable def o58 (P:Params):Obj:=⟨(.type "function"),none,(.func ⟨⟨⟨[95,115,116,114,105,112,95,113,117,111,116,101,100,95,114,101,97,108,110,97,109,101,115]⟩⟩,⟨⟨[95,115,116,114,105,112,95,113,117,111,116,101,100,95,114,101,97,108,110,97,109,101,115]⟩⟩,fA (st 5),.stmts (fB (st 5)),fS (st 5),3,[],.none,.none,.none,(.str ⟨⟨[99,112,121,51,49,51,46,101,109,97,105,108,46,117,116,105,108,115]⟩⟩ 331),none,(.ref 57),.none,0⟩),⟨[]⟩⟩
noncomputable def o130 (P:Params):Obj:=⟨(.type "code"),none,(.fields ⟨[(.str ⟨⟨[102,115,112,97,116,104]⟩⟩ 444),(.str ⟨⟨[102,115,112,97,116,104]⟩⟩ 445),(.str ⟨⟨[47,99,108,97,105,109,47,99,117,116,46,112,121]⟩⟩ 446),(.int (69) 0),(.int (1) 0),(.int (0) 0),(.int (0) 0),(.int (3) 0),(.ref 125),(.bool true),(.int (318) 0),(.ref 126),.none,(.ref 127),(.ref 128),(.ref 129),(.int (451) 0),(.int (69) 0),(.str ⟨⟨[47,99,108,97,105,109,47,99,117,116,46,112,121]⟩⟩ 452)]⟩),⟨[]⟩⟩
noncomputable def o131 (P:Params):Obj:=⟨(.type "function"),none,(.func ⟨⟨⟨[102,115,112,97,116,104]⟩⟩,⟨⟨[102,115,112,97,116,104]⟩⟩,fA (st 14),.stmts (fB (st 14)),fS (st 14),3,[],.none,.none,.none,(.str ⟨⟨[111,115]⟩⟩ 442),none,(.ref 130),.none,0⟩),⟨[]⟩⟩
noncomputable def o144 (P:Params):Obj:=⟨(.type "code"),none,(.fields ⟨[(.str ⟨⟨[95,103,101,116,95,115,101,112]⟩⟩ 470),(.str ⟨⟨[95,103,101,116,95,115,101,112]⟩⟩ 471),(.str ⟨⟨[47,99,108,97,105,109,47,99,117,116,46,112,121]⟩⟩ 472),(.int (99) 0),(.int (1) 0),(.int (0) 0),(.int (0) 0),(.int (3) 0),(.ref 139),(.bool true),(.int (318) 0),(.ref 140),.none,(.ref 141),(.ref 142),(.ref 143),(.int (474) 0),(.int (99) 0),(.str ⟨⟨[47,99,108,97,105,109,47,99,117,116,46,112,121]⟩⟩ 475)]⟩),⟨[]⟩⟩
noncomputable def o145 (P:Params):Obj:=⟨(.type "function"),none,(.func ⟨⟨⟨[95,103,101,116,95,115,101,112]⟩⟩,⟨⟨[95,103,101,116,95,115,101,112]⟩⟩,fA (st 19),.stmts (fB (st 19)),fS (st 19),3,[],.none,.none,.none,(.str ⟨⟨[99,112,121,51,49,51,46,112,111,115,105,120,112,97,116,104]⟩⟩ 468),none,(.ref 144),.none,0⟩),⟨[]⟩⟩
noncomputable def o151 (P:Params):Obj:=⟨(.type "code"),none,(.fields ⟨[(.str ⟨⟨[106,111,105,110]⟩⟩ 477),(.str ⟨⟨[106,111,105,110]⟩⟩ 478),(.str ⟨⟨[47,99,108,97,105,109,47,99,117,116,46,112,121]⟩⟩ 479),(.int (104) 0),(.int (1) 0),(.int (0) 0),(.int (0) 0),(.int (7) 0),(.ref 146),(.bool true),(.int (318) 0),(.ref 147),.none,(.ref 148),(.ref 149),(.ref 150),(.int (485) 0),(.int (104) 0),(.str ⟨⟨[47,99,108,97,105,109,47,99,117,116,46,112,121]⟩⟩ 486)]⟩),⟨[]⟩⟩
noncomputable def o152 (P:Params):Obj:=⟨(.type "function"),none,(.func ⟨⟨⟨[106,111,105,110]⟩⟩,⟨⟨[106,111,105,110]⟩⟩,fA (st 20),.stmts (fB (st 20)),fS (st 20),3,[],.none,.none,.none,(.str ⟨⟨[99,112,121,51,49,51,46,112,111,115,105,120,112,97,116,104]⟩⟩ 468),none,(.ref 151),.none,0⟩),⟨[]⟩⟩
noncomputable def o158 (P:Params):Obj:=⟨(.type "code"),none,(.fields ⟨[(.str ⟨⟨[115,112,108,105,116,114,111,111,116]⟩⟩ 489),(.str ⟨⟨[115,112,108,105,116,114,111,111,116]⟩⟩ 490),(.str ⟨⟨[47,99,108,97,105,109,47,99,117,116,46,112,121]⟩⟩ 491),(.int (122) 0),(.int (1) 0),(.int (0) 0),(.int (0) 0),(.int (3) 0),(.ref 153),(.bool true),(.int (318) 0),(.ref 154),.none,(.ref 155),(.ref 156),(.ref 157),(.int (495) 0),(.int (122) 0),(.str ⟨⟨[47,99,108,97,105,109,47,99,117,116,46,112,121]⟩⟩ 496)]⟩),⟨[]⟩⟩
noncomputable def o159 (P:Params):Obj:=⟨(.type "function"),none,(.func ⟨⟨⟨[115,112,108,105,116,114,111,111,116]⟩⟩,⟨⟨[115,112,108,105,116,114,111,111,116]⟩⟩,fA (st 22),.stmts (fB (st 22)),fS (st 22),3,[],.none,.none,.none,(.str ⟨⟨[99,112,121,51,49,51,46,112,111,115,105,120,112,97,116,104]⟩⟩ 468),none,(.ref 158),.none,0⟩),⟨[]⟩⟩
noncomputable def o165 (P:Params):Obj:=⟨(.type "code"),none,(.fields ⟨[(.str ⟨⟨[110,111,114,109,112,97,116,104]⟩⟩ 498),(.str ⟨⟨[110,111,114,109,112,97,116,104]⟩⟩ 499),(.str ⟨⟨[47,99,108,97,105,109,47,99,117,116,46,112,121]⟩⟩ 500),(.int (136) 0),(.int (1) 0),(.int (0) 0),(.int (0) 0),(.int (3) 0),(.ref 160),(.bool true),(.int (318) 0),(.ref 161),.none,(.ref 162),(.ref 163),(.ref 164),(.int (510) 0),(.int (136) 0),(.str ⟨⟨[47,99,108,97,105,109,47,99,117,116,46,112,121]⟩⟩ 511)]⟩),⟨[]⟩⟩
noncomputable def o166 (P:Params):Obj:=⟨(.type "function"),none,(.func ⟨⟨⟨[110,111,114,109,112,97,116,104]⟩⟩,⟨⟨[110,111,114,109,112,97,116,104]⟩⟩,fA (st 23),.stmts (fB (st 23)),fS (st 23),3,[],.none,.none,.none,(.str ⟨⟨[99,112,121,51,49,51,46,112,111,115,105,120,112,97,116,104]⟩⟩ 468),none,(.ref 165),.none,0⟩),⟨[]⟩⟩
noncomputable def o170 (P:Params):Obj:=⟨(.type "tuple"),none,(.seq ⟨[(.int (14) 0),(.int (17) 0),(.int (4) 0),(.int (1) 0),(.int (1) 0),(.int (21) 0),(.int (9) 0),(.int (0) 0),(.int (604043296) 0),(.int (1) 0),(.int (0) 0),(.int (0) 0),(.int (0) 0),(.int (0) 0),(.int (0) 0),(.int (8) 0),(.int (4) 0),(.int (0) 0),(.int (13) 0),(.int (14) 0),(.int (21) 0),(.int (9) 0),(.int (0) 0),(.int (604043296) 0),(.int (1) 0),(.int (0) 0),(.int (0) 0),(.int (0) 0),(.int (0) 0),(.int (0) 0),(.int (8) 0),(.int (4) 0),(.int (0) 0),(.int (1) 0)]⟩ 0),⟨[]⟩⟩
noncomputable def o171 (P:Params):Obj:=⟨(.type "re.Pattern"),none,(.fields ⟨[(.str ⟨⟨[91,94,92,119,64,37,43,61,58,44,46,47,45,93]⟩⟩ 514),(.int (256) 551),(.int (0) 0),.none,.none,(.ref 170),(.int (0) 0)]⟩),⟨[]⟩⟩
noncomputable def o184 (P:Params):Obj:=⟨(.type "code"),none,(.fields ⟨[(.str ⟨⟨[95,105,110,100,101,120]⟩⟩ 563),(.str ⟨⟨[95,105,110,100,101,120]⟩⟩ 564),(.str ⟨⟨[47,99,108,97,105,109,47,99,117,116,46,112,121]⟩⟩ 565),(.int (168) 0),(.int (2) 0),(.int (0) 0),(.int (0) 0),(.int (3) 0),(.ref 179),(.bool true),(.int (318) 0),(.ref 180),.none,(.ref 181),(.ref 182),(.ref 183),(.int (568) 0),(.int (168) 0),(.str ⟨⟨[47,99,108,97,105,109,47,99,117,116,46,112,121]⟩⟩ 569)]⟩),⟨[]⟩⟩
noncomputable def o185 (P:Params):Obj:=⟨(.type "function"),none,(.func ⟨⟨⟨[95,105,110,100,101,120]⟩⟩,⟨⟨[95,105,110,100,101,120]⟩⟩,fA (st 27),.stmts (fB (st 27)),fS (st 27),3,[],.none,.none,.none,(.str ⟨⟨[105,111]⟩⟩ 553),none,(.ref 184),.none,0⟩),⟨[]⟩⟩
noncomputable def o211 (P:Params):Obj:=⟨(.type "code"),none,(.fields ⟨[(.str ⟨⟨[95,95,110,101,119,95,95]⟩⟩ 607),(.str ⟨⟨[73,79,66,97,115,101,46,95,95,110,101,119,95,95]⟩⟩ 608),(.str ⟨⟨[47,99,108,97,105,109,47,99,117,116,46,112,121]⟩⟩ 609),(.int (180) 0),(.int (1) 0),(.int (1) 0),(.int (0) 0),(.int (15) 0),(.ref 206),(.bool true),(.int (318) 0),(.ref 207),.none,(.ref 208),(.ref 209),(.ref 210),(.int (613) 0),(.int (180) 0),(.str ⟨⟨[47,99,108,97,105,109,47,99,117,116,46,112,121]⟩⟩ 614)]⟩),⟨[]⟩⟩
noncomputable def o212 (P:Params):Obj:=⟨(.type "function"),none,(.func ⟨⟨⟨[95,95,110,101,119,95,95]⟩⟩,⟨⟨[73,79,66,97,115,101,46,95,95,110,101,119,95,95]⟩⟩,fA (sub (st 29) 1),.stmts (fB (sub (st 29) 1)),fS (sub (st 29) 1),3,[],.none,.none,.none,(.str ⟨⟨[105,111]⟩⟩ 553),none,(.ref 211),.none,0⟩),⟨[]⟩⟩
noncomputable def o214 (P:Params):Obj:=⟨(.type "dict"),none,(.dict ⟨[E P ⟨⟨[95,95,109,111,100,117,108,101,95,95]⟩⟩ 600 (.str ⟨⟨[105,111]⟩⟩ 605),E P ⟨⟨[95,95,102,105,114,115,116,108,105,110,101,110,111,95,95]⟩⟩ 604 (.int (177) 603),E P ⟨⟨[95,95,110,101,119,95,95]⟩⟩ 615 (.ref 216),E P ⟨⟨[95,95,115,116,97,116,105,99,95,97,116,116,114,105,98,117,116,101,115,95,95]⟩⟩ 616 (.ref 213),E P ⟨⟨[95,95,100,105,99,116,95,95]⟩⟩ 619 (.ref 217),E P ⟨⟨[95,95,119,101,97,107,114,101,102,95,95]⟩⟩ 621 (.ref 218),E P ⟨⟨[95,95,100,111,99,95,95]⟩⟩ 622 .none]⟩ 4),⟨[]⟩⟩
noncomputable def o215 (P:Params):Obj:=⟨(.type "type"),none,(.cls ⟨⟨⟨[73,79,66,97,115,101]⟩⟩,[(.type "object")],[(.ref 215),(.type "object")],214,⟨⟨[73,79,66,97,115,101]⟩⟩,true,[],[(.ref 230),(.ref 242)],false,none,false⟩),⟨[none,none,(some (.str ⟨⟨[73,79,66,97,115,101]⟩⟩ 593)),(some (.str ⟨⟨[73,79,66,97,115,101]⟩⟩ 601)),(some .none),(some (.bool true))]⟩⟩
noncomputable def o216 (P:Params):Obj:=⟨(.type "staticmethod"),none,(.fields ⟨[(.ref 212)]⟩),⟨[]⟩⟩
noncomputable def o241 (P:Params):Obj:=⟨(.type "dict"),none,(.dict ⟨[E P ⟨⟨[95,95,109,111,100,117,108,101,95,95]⟩⟩ 650 (.str ⟨⟨[105,111]⟩⟩ 655),E P ⟨⟨[95,95,102,105,114,115,116,108,105,110,101,110,111,95,95]⟩⟩ 654 (.int (186) 653),E P ⟨⟨[95,95,115,116,97,116,105,99,95,97,116,116,114,105,98,117,116,101,115,95,95]⟩⟩ 657 (.ref 240),E P ⟨⟨[95,95,100,111,99,95,95]⟩⟩ 658 .none]⟩ 2),⟨[]⟩⟩
noncomputable def o242 (P:Params):Obj:=⟨(.type "type"),none,(.cls ⟨⟨⟨[84,101,120,116,73,79,66,97,115,101]⟩⟩,[(.ref 215)],[(.ref 242),(.ref 215),(.type "object")],241,⟨⟨[84,101,120,116,73,79,66,97,115,101]⟩⟩,true,[],[(.ref 719)],false,none,false⟩),⟨[(some (.ref 233)),none,(some (.str ⟨⟨[84,101,120,116,73,79,66,97,115,101]⟩⟩ 643)),(some (.str ⟨⟨[84,101,120,116,73,79,66,97,115,101]⟩⟩ 651)),(some .none),(some (.bool true))]⟩⟩
noncomputable def o472 (P:Params):Obj:=⟨(.type "type"),none,(.cls ⟨⟨⟨[66,121,116,101,115,73,79]⟩⟩,[(.ref 230)],[(.ref 472),(.ref 230),(.ref 215),(.type "object")],471,⟨⟨[66,121,116,101,115,73,79]⟩⟩,true,[],[],false,none,false⟩),⟨[(some (.ref 245)),none,(some (.str ⟨⟨[66,121,116,101,115,73,79]⟩⟩ 661)),(some (.str ⟨⟨[66,121,116,101,115,73,79]⟩⟩ 669)),(some .none),(some (.bool true))]⟩⟩
noncomputable def o482 (P:Params):Obj:=⟨(.type "tuple"),none,(.seq ⟨[(.str ⟨⟨[]⟩⟩ 937),(.str ⟨⟨[10]⟩⟩ 938)]⟩ 0),⟨[]⟩⟩
noncomputable def o488 (P:Params):Obj:=⟨(.type "code"),none,(.fields ⟨[(.str ⟨⟨[95,95,105,110,105,116,95,95]⟩⟩ 939),(.str ⟨⟨[83,116,114,105,110,103,73,79,46,95,95,105,110,105,116,95,95]⟩⟩ 940),(.str ⟨⟨[47,99,108,97,105,109,47,99,117,116,46,112,121]⟩⟩ 941),(.int (361) 0),(.int (3) 0),(.int (0) 0),(.int (0) 0),(.int (3) 0),(.ref 483),(.bool true),(.int (318) 0),(.ref 484),.none,(.ref 485),(.ref 486),(.ref 487),(.int (945) 0),(.int (361) 0),(.str ⟨⟨[47,99,108,97,105,109,47,99,117,116,46,112,121]⟩⟩ 946)]⟩),⟨[]⟩⟩
noncomputable def o489 (P:Params):Obj:=⟨(.type "function"),none,(.func ⟨⟨⟨[95,95,105,110,105,116,95,95]⟩⟩,⟨⟨[83,116,114,105,110,103,73,79,46,95,95,105,110,105,116,95,95]⟩⟩,fA (sub (st 33) 1),.stmts (fB (sub (st 33) 1)),fS (sub (st 33) 1),3,[],(.ref 482),.none,.none,(.str ⟨⟨[105,111]⟩⟩ 553),none,(.ref 488),.none,0⟩),⟨[]⟩⟩
noncomputable def o495 (P:Params):Obj:=⟨(.type "code"),none,(.fields ⟨[(.str ⟨⟨[95,95,116,114,97,110,115,108,97,116,101,100]⟩⟩ 948),(.str ⟨⟨[83,116,114,105,110,103,73,79,46,95,95,116,114,97,110,115,108,97,116,101,100]⟩⟩ 949),(.str ⟨⟨[47,99,108,97,105,109,47,99,117,116,46,112,121]⟩⟩ 950),(.int (374) 0),(.int (2) 0),(.int (0) 0),(.int (0) 0),(.int (3) 0),(.ref 490),(.bool true),(.int (318) 0),(.ref 491),.none,(.ref 492),(.ref 493),(.ref 494),(.int (954) 0),(.int (374) 0),(.str ⟨⟨[47,99,108,97,105,109,47,99,117,116,46,112,121]⟩⟩ 955)]⟩),⟨[]⟩⟩
noncomputable def o496 (P:Params):Obj:=⟨(.type "function"),none,(.func ⟨⟨⟨[95,95,116,114,97,110,115,108,97,116,101,100]⟩⟩,⟨⟨[83,116,114,105,110,103,73,79,46,95,95,116,114,97,110,115,108,97,116,101,100]⟩⟩,fA (sub (st 33) 2),.stmts (fB (sub (st 33) 2)),fS (sub (st 33) 2),3,[],.none,.none,.none,(.str ⟨⟨[105,111]⟩⟩ 553),none,(.ref 495),.none,0⟩),⟨[]⟩⟩
noncomputable def o502 (P:Params):Obj:=⟨(.type "code"),none,(.fields ⟨[(.str ⟨⟨[95,95,99,104,101,99,107]⟩⟩ 957),(.str ⟨⟨[83,116,114,105,110,103,73,79,46,95,95,99,104,101,99,107]⟩⟩ 958),(.str ⟨⟨[47,99,108,97,105,109,47,99,117,116,46,112,121]⟩⟩ 959),(.int (382) 0),(.int (1) 0),(.int (0) 0),(.int (0) 0),(.int (3) 0),(.ref 497),(.bool true),(.int (318) 0),(.ref 498),.none,(.ref 499),(.ref 500),(.ref 501),(.int (961) 0),(.int (382) 0),(.str ⟨⟨[47,99,108,97,105,109,47,99,117,116,46,112,121]⟩⟩ 962)]⟩),⟨[]⟩⟩
noncomputable def o503 (P:Params):Obj:=⟨(.type "function"),none,(.func ⟨⟨⟨[95,95,99,104,101,99,107]⟩⟩,⟨⟨[83,116,114,105,110,103,73,79,46,95,95,99,104,101,99,107]⟩⟩,fA (sub (st 33) 3),.stmts (fB (sub (st 33) 3)),fS (sub (st 33) 3),3,[],.none,.none,.none,(.str ⟨⟨[105,111]⟩⟩ 553),none,(.ref 502),.none,0⟩),⟨[]⟩⟩
noncomputable def o658 (P:Params):Obj:=⟨(.type "tuple"),none,(.seq ⟨[(.int (-1) 1130)]⟩ 0),⟨[]⟩⟩
noncomputable def o664 (P:Params):Obj:=⟨(.type "code"),none,(.fields ⟨[(.str ⟨⟨[114,101,97,100]⟩⟩ 1131),(.str ⟨⟨[83,116,114,105,110,103,73,79,46,114,101,97,100]⟩⟩ 1132),(.str ⟨⟨[47,99,108,97,105,109,47,99,117,116,46,112,121]⟩⟩ 1133),(.int (504) 0),(.int (2) 0),(.int (2) 0),(.int (0) 0),(.int (3) 0),(.ref 659),(.bool true),(.int (318) 0),(.ref 660),.none,(.ref 661),(.ref 662),(.ref 663),(.int (1138) 0),(.int (504) 0),(.str ⟨⟨[47,99,108,97,105,109,47,99,117,116,46,112,121]⟩⟩ 1139)]⟩),⟨[]⟩⟩
noncomputable def o665 (P:Params):Obj:=⟨(.type "function"),none,(.func ⟨⟨⟨[114,101,97,100]⟩⟩,⟨⟨[83,116,114,105,110,103,73,79,46,114,101,97,100]⟩⟩,fA (sub (st 33) 25),.stmts (fB (sub (st 33) 25)),fS (sub (st 33) 25),3,[],(.ref 658),.none,.none,(.str ⟨⟨[105,111]⟩⟩ 553),none,(.ref 664),.none,0⟩),⟨[]⟩⟩
noncomputable def o718 (P:Params):Obj:=⟨(.type "dict"),none,(.dict ⟨[E P ⟨⟨[95,95,109,111,100,117,108,101,95,95]⟩⟩ 930 (.str ⟨⟨[95,105,111]⟩⟩ 935),E P ⟨⟨[95,95,102,105,114,115,116,108,105,110,101,110,111,95,95]⟩⟩ 934 (.int (358) 933),E P ⟨⟨[95,95,105,110,105,116,95,95]⟩⟩ 947 (.ref 489),E P ⟨⟨[95,83,116,114,105,110,103,73,79,95,95,116,114,97,110,115,108,97,116,101,100]⟩⟩ 956 (.ref 496),E P ⟨⟨[95,83,116,114,105,110,103,73,79,95,95,99,104,101,99,107]⟩⟩ 963 (.ref 503),E P ⟨⟨[95,83,116,114,105,110,103,73,79,95,95,99,104,101,99,107,95,100,111,116]⟩⟩ 970 (.ref 510),E P ⟨⟨[95,83,116,114,105,110,103,73,79,95,95,108,105,110,101]⟩⟩ 985 (.ref 517),E P ⟨⟨[99,108,111,115,101,100]⟩⟩ 993 (.ref 525),E P ⟨⟨[108,105,110,101,95,98,117,102,102,101,114,105,110,103]⟩⟩ 1001 (.ref 533),E P ⟨⟨[110,101,119,108,105,110,101,115]⟩⟩ 1009 (.ref 541),E P ⟨⟨[101,110,99,111,100,105,110,103]⟩⟩ 1017 (.ref 549),E P ⟨⟨[101,114,114,111,114,115]⟩⟩ 1025 (.ref 557),E P ⟨⟨[99,108,111,115,101]⟩⟩ 1032 (.ref 564),E P ⟨⟨[95,95,101,110,116,101,114,95,95]⟩⟩ 1039 (.ref 571),E P ⟨⟨[95,95,101,120,105,116,95,95]⟩⟩ 1047 (.ref 578),E P ⟨⟨[114,101,97,100,97,98,108,101]⟩⟩ 1054 (.ref 585),E P ⟨⟨[119,114,105,116,97,98,108,101]⟩⟩ 1061 (.ref 592),E P ⟨⟨[115,101,101,107,97,98,108,101]⟩⟩ 1068 (.ref 599),E P ⟨⟨[105,115,97,116,116,121]⟩⟩ 1075 (.ref 606),E P ⟨⟨[102,108,117,115,104]⟩⟩ 1082 (.ref 613),E P ⟨⟨[102,105,108,101,110,111]⟩⟩ 1089 (.ref 620),E P ⟨⟨[100,101,116,97,99,104]⟩⟩ 1096 (.ref 627),E P ⟨⟨[103,101,116,118,97,108,117,101]⟩⟩ 1103 (.ref 634),E P ⟨⟨[116,101,108,108]⟩⟩ 1110 (.ref 641),E P ⟨⟨[115,101,101,107]⟩⟩ 1120 (.ref 649),E P ⟨⟨[116,114,117,110,99,97,116,101]⟩⟩ 1128 (.ref 657),E P ⟨⟨[114,101,97,100]⟩⟩ 1140 (.ref 665),E P ⟨⟨[114,101,97,100,108,105,110,101]⟩⟩ 1150 (.ref 673),E P ⟨⟨[114,101,97,100,108,105,110,101,115]⟩⟩ 1160 (.ref 681),E P ⟨⟨[95,95,105,116,101,114,95,95]⟩⟩ 1167 (.ref 688),E P ⟨⟨[95,95,110,101,120,116,95,95]⟩⟩ 1175 (.ref 695),E P ⟨⟨[119,114,105,116,101]⟩⟩ 1187 (.ref 702),E P ⟨⟨[119,114,105,116,101,108,105,110,101,115]⟩⟩ 1195 (.ref 709),E P ⟨⟨[95,95,114,101,112,114,95,95]⟩⟩ 1202 (.ref 716),E P ⟨⟨[95,95,115,116,97,116,105,99,95,97,116,116,114,105,98,117,116,101,115,95,95]⟩⟩ 1206 (.ref 717),E P ⟨⟨[95,95,100,111,99,95,95]⟩⟩ 1207 .none]⟩ 2),⟨[]⟩⟩
noncomputable def o719 (P:Params):Obj:=⟨(.type "type"),none,(.cls ⟨⟨⟨[83,116,114,105,110,103,73,79]⟩⟩,[(.ref 242)],[(.ref 719),(.ref 242),(.ref 215),(.type "object")],718,⟨⟨[83,116,114,105,110,103,73,79]⟩⟩,true,[],[],false,none,false⟩),⟨[(some (.ref 475)),none,(some (.str ⟨⟨[83,116,114,105,110,103,73,79]⟩⟩ 923)),(some (.str ⟨⟨[83,116,114,105,110,103,73,79]⟩⟩ 931)),(some .none),(some (.bool true))]⟩⟩
noncomputable def o771 (P:Params):Obj:=⟨(.type "tuple"),none,(.seq ⟨[.none,.none,(.bool false),(.bool false)]⟩ 0),⟨[]⟩⟩
noncomputable def o777 (P:Params):Obj:=⟨(.type "code"),none,(.fields ⟨[(.str ⟨⟨[95,95,105,110,105,116,95,95]⟩⟩ 1284),(.str ⟨⟨[115,104,108,101,120,46,95,95,105,110,105,116,95,95]⟩⟩ 1285),(.str ⟨⟨[47,99,108,97,105,109,47,99,117,116,46,112,121]⟩⟩ 1286),(.int (631) 0),(.int (5) 0),(.int (0) 0),(.int (0) 0),(.int (3) 0),(.ref 772),(.bool true),(.int (318) 0),(.ref 773),.none,(.ref 774),(.ref 775),(.ref 776),(.int (1293) 0),(.int (631) 0),(.str ⟨⟨[47,99,108,97,105,109,47,99,117,116,46,112,121]⟩⟩ 1294)]⟩),⟨[]⟩⟩
noncomputable def o778 (P:Params):Obj:=⟨(.type "function"),none,(.func ⟨⟨⟨[95,95,105,110,105,116,95,95]⟩⟩,⟨⟨[115,104,108,101,120,46,95,95,105,110,105,116,95,95]⟩⟩,fA (sub (st 44) 0),.stmts (fB (sub (st 44) 0)),fS (sub (st 44) 0),3,[],(.ref 771),.none,.none,(.str ⟨⟨[99,112,121,51,49,51,46,115,104,108,101,120]⟩⟩ 1270),none,(.ref 777),.none,0⟩),⟨[]⟩⟩
noncomputable def o784 (P:Params):Obj:=⟨(.type "code"),none,(.fields ⟨[(.str ⟨⟨[112,117,110,99,116,117,97,116,105,111,110,95,99,104,97,114,115]⟩⟩ 1296),(.str ⟨⟨[115,104,108,101,120,46,112,117,110,99,116,117,97,116,105,111,110,95,99,104,97,114,115]⟩⟩ 1297),(.str ⟨⟨[47,99,108,97,105,109,47,99,117,116,46,112,121]⟩⟩ 1298),(.int (672) 0),(.int (1) 0),(.int (0) 0),(.int (0) 0),(.int (3) 0),(.ref 779),(.bool true),(.int (318) 0),(.ref 780),.none,(.ref 781),(.ref 782),(.ref 783),(.int (1300) 0),(.int (672) 0),(.str ⟨⟨[47,99,108,97,105,109,47,99,117,116,46,112,121]⟩⟩ 1301)]⟩),⟨[]⟩⟩
noncomputable def o785 (P:Params):Obj:=⟨(.type "function"),none,(.func ⟨⟨⟨[112,117,110,99,116,117,97,116,105,111,110,95,99,104,97,114,115]⟩⟩,⟨⟨[115,104,108,101,120,46,112,117,110,99,116,117,97,116,105,111,110,95,99,104,97,114,115]⟩⟩,fA (sub (st 44) 1),.stmts (fB (sub (st 44) 1)),fS (sub (st 44) 1),3,[],.none,.none,.none,(.str ⟨⟨[99,112,121,51,49,51,46,115,104,108,101,120]⟩⟩ 1270),none,(.ref 784),.none,0⟩),⟨[]⟩⟩
noncomputable def o786 (P:Params):Obj:=⟨(.type "property"),none,(.fields ⟨[(.ref 785),.none,.none,.none,(.str ⟨⟨[112,117,110,99,116,117,97,116,105,111,110,95,99,104,97,114,115]⟩⟩ 1303),(.bool false)]⟩),⟨[]⟩⟩
noncomputable def o814 (P:Params):Obj:=⟨(.type "code"),none,(.fields ⟨[(.str ⟨⟨[103,101,116,95,116,111,107,101,110]⟩⟩ 1328),(.str ⟨⟨[115,104,108,101,120,46,103,101,116,95,116,111,107,101,110]⟩⟩ 1329),(.str ⟨⟨[47,99,108,97,105,109,47,99,117,116,46,112,121]⟩⟩ 1330),(.int (699) 0),(.int (1) 0),(.int (0) 0),(.int (0) 0),(.int (3) 0),(.ref 809),(.bool true),(.int (318) 0),(.ref 810),.none,(.ref 811),(.ref 812),(.ref 813),(.int (1337) 0),(.int (699) 0),(.str ⟨⟨[47,99,108,97,105,109,47,99,117,116,46,112,121]⟩⟩ 1338)]⟩),⟨[]⟩⟩
noncomputable def o815 (P:Params):Obj:=⟨(.type "function"),none,(.func ⟨⟨⟨[103,101,116,95,116,111,107,101,110]⟩⟩,⟨⟨[115,104,108,101,120,46,103,101,116,95,116,111,107,101,110]⟩⟩,fA (sub (st 44) 5),.stmts (fB (sub (st 44) 5)),fS (sub (st 44) 5),3,[],.none,.none,.none,(.str ⟨⟨[99,112,121,51,49,51,46,115,104,108,101,120]⟩⟩ 1270),none,(.ref 814),.none,0⟩),⟨[]⟩⟩
noncomputable def o821 (P:Params):Obj:=⟨(.type "code"),none,(.fields ⟨[(.str ⟨⟨[114,101,97,100,95,116,111,107,101,110]⟩⟩ 1340),(.str ⟨⟨[115,104,108,101,120,46,114,101,97,100,95,116,111,107,101,110]⟩⟩ 1341),(.str ⟨⟨[47,99,108,97,105,109,47,99,117,116,46,112,121]⟩⟩ 1342),(.int (726) 0),(.int (1) 0),(.int (0) 0),(.int (0) 0),(.int (3) 0),(.ref 816),(.bool true),(.int (318) 0),(.ref 817),.none,(.ref 818),(.ref 819),(.ref 820),(.int (1348) 0),(.int (726) 0),(.str ⟨⟨[47,99,108,97,105,109,47,99,117,116,46,112,121]⟩⟩ 1349)]⟩),⟨[]⟩⟩
noncomputable def o822 (P:Params):Obj:=⟨(.type "function"),none,(.func ⟨⟨⟨[114,101,97,100,95,116,111,107,101,110]⟩⟩,⟨⟨[115,104,108,101,120,46,114,101,97,100,95,116,111,107,101,110]⟩⟩,fA (sub (st 44) 6),.stmts (fB (sub (st 44) 6)),fS (sub (st 44) 6),3,[],.none,.none,.none,(.str ⟨⟨[99,112,121,51,49,51,46,115,104,108,101,120]⟩⟩ 1270),none,(.ref 821),.none,0⟩),⟨[]⟩⟩
noncomputable def o843 (P:Params):Obj:=⟨(.type "code"),none,(.fields ⟨[(.str ⟨⟨[95,95,105,116,101,114,95,95]⟩⟩ 1368),(.str ⟨⟨[115,104,108,101,120,46,95,95,105,116,101,114,95,95]⟩⟩ 1369),(.str ⟨⟨[47,99,108,97,105,109,47,99,117,116,46,112,121]⟩⟩ 1370),(.int (873) 0),(.int (1) 0),(.int (0) 0),(.int (0) 0),(.int (3) 0),(.ref 838),(.bool true),(.int (318) 0),(.ref 839),.none,(.ref 840),(.ref 841),(.ref 842),(.int (1372) 0),(.int (873) 0),(.str ⟨⟨[47,99,108,97,105,109,47,99,117,116,46,112,121]⟩⟩ 1373)]⟩),⟨[]⟩⟩
noncomputable def o844 (P:Params):Obj:=⟨(.type "function"),none,(.func ⟨⟨⟨[95,95,105,116,101,114,95,95]⟩⟩,⟨⟨[115,104,108,101,120,46,95,95,105,116,101,114,95,95]⟩⟩,fA (sub (st 44) 9),.stmts (fB (sub (st 44) 9)),fS (sub (st 44) 9),3,[],.none,.none,.none,(.str ⟨⟨[99,112,121,51,49,51,46,115,104,108,101,120]⟩⟩ 1270),none,(.ref 843),.none,0⟩),⟨[]⟩⟩
noncomputable def o850 (P:Params):Obj:=⟨(.type "code"),none,(.fields ⟨[(.str ⟨⟨[95,95,110,101,120,116,95,95]⟩⟩ 1375),(.str ⟨⟨[115,104,108,101,120,46,95,95,110,101,120,116,95,95]⟩⟩ 1376),(.str ⟨⟨[47,99,108,97,105,109,47,99,117,116,46,112,121]⟩⟩ 1377),(.int (876) 0),(.int (1) 0),(.int (0) 0),(.int (0) 0),(.int (3) 0),(.ref 845),(.bool true),(.int (318) 0),(.ref 846),.none,(.ref 847),(.ref 848),(.ref 849),(.int (1380) 0),(.int (876) 0),(.str ⟨⟨[47,99,108,97,105,109,47,99,117,116,46,112,121]⟩⟩ 1381)]⟩),⟨[]⟩⟩
noncomputable def o851 (P:Params):Obj:=⟨(.type "function"),none,(.func ⟨⟨⟨[95,95,110,101,120,116,95,95]⟩⟩,⟨⟨[115,104,108,101,120,46,95,95,110,101,120,116,95,95]⟩⟩,fA (sub (st 44) 10),.stmts (fB (sub (st 44) 10)),fS (sub (st 44) 10),3,[],.none,.none,.none,(.str ⟨⟨[99,112,121,51,49,51,46,115,104,108,101,120]⟩⟩ 1270),none,(.ref 850),.none,0⟩),⟨[]⟩⟩
noncomputable def o853 (P:Params):Obj:=⟨(.type "dict"),none,(.dict ⟨[E P ⟨⟨[95,95,109,111,100,117,108,101,95,95]⟩⟩ 1279 (.str ⟨⟨[99,112,121,51,49,51,46,115,104,108,101,120]⟩⟩ 1270),E P ⟨⟨[95,95,102,105,114,115,116,108,105,110,101,110,111,95,95]⟩⟩ 1283 (.int (629) 1282),E P ⟨⟨[95,95,105,110,105,116,95,95]⟩⟩ 1295 (.ref 778),E P ⟨⟨[112,117,110,99,116,117,97,116,105,111,110,95,99,104,97,114,115]⟩⟩ 1303 (.ref 786),E P ⟨⟨[112,117,115,104,95,116,111,107,101,110]⟩⟩ 1311 (.ref 793),E P ⟨⟨[112,117,115,104,95,115,111,117,114,99,101]⟩⟩ 1320 (.ref 801),E P ⟨⟨[112,111,112,95,115,111,117,114,99,101]⟩⟩ 1327 (.ref 808),E P ⟨⟨[103,101,116,95,116,111,107,101,110]⟩⟩ 1339 (.ref 815),E P ⟨⟨[114,101,97,100,95,116,111,107,101,110]⟩⟩ 1350 (.ref 822),E P ⟨⟨[115,111,117,114,99,101,104,111,111,107]⟩⟩ 1358 (.ref 829),E P ⟨⟨[101,114,114,111,114,95,108,101,97,100,101,114]⟩⟩ 1367 (.ref 837),E P ⟨⟨[95,95,105,116,101,114,95,95]⟩⟩ 1374 (.ref 844),E P ⟨⟨[95,95,110,101,120,116,95,95]⟩⟩ 1382 (.ref 851),E P ⟨⟨[95,95,115,116,97,116,105,99,95,97,116,116,114,105,98,117,116,101,115,95,95]⟩⟩ 1403 (.ref 852),E P ⟨⟨[95,95,100,105,99,116,95,95]⟩⟩ 1405 (.ref 855),E P ⟨⟨[95,95,119,101,97,107,114,101,102,95,95]⟩⟩ 1407 (.ref 856),E P ⟨⟨[95,95,100,111,99,95,95]⟩⟩ 1408 .none]⟩ 4),⟨[]⟩⟩
noncomputable def o854 (P:Params):Obj:=⟨(.type "type"),none,(.cls ⟨⟨⟨[115,104,108,101,120]⟩⟩,[(.type "object")],[(.ref 854),(.type "object")],853,⟨⟨[115,104,108,101,120]⟩⟩,true,[],[],false,none,false⟩),⟨[none,none,(some (.str ⟨⟨[115,104,108,101,120]⟩⟩ 1272)),(some (.str ⟨⟨[115,104,108,101,120]⟩⟩ 1280)),(some (.builtin "object.__new__")),(some (.bool true))]⟩⟩
noncomputable def o859 (P:Params):Obj:=⟨(.type "tuple"),none,(.seq ⟨[(.bool false),(.bool true)]⟩ 0),⟨[]⟩⟩
noncomputable def o865 (P:Params):Obj:=⟨(.type "code"),none,(.fields ⟨[(.str ⟨⟨[115,112,108,105,116]⟩⟩ 1411),(.str ⟨⟨[115,112,108,105,116]⟩⟩ 1412),(.str ⟨⟨[47,99,108,97,105,109,47,99,117,116,46,112,121]⟩⟩ 1413),(.int (881) 0),(.int (3) 0),(.int (0) 0),(.int (0) 0),(.int (3) 0),(.ref 860),(.bool true),(.int (318) 0),(.ref 861),.none,(.ref 862),(.ref 863),(.ref 864),(.int (1418) 0),(.int (881) 0),(.str ⟨⟨[47,99,108,97,105,109,47,99,117,116,46,112,121]⟩⟩ 1419)]⟩),⟨[]⟩⟩
noncomputable def o866 (P:Params):Obj:=⟨(.type "function"),none,(.func ⟨⟨⟨[115,112,108,105,116]⟩⟩,⟨⟨[115,112,108,105,116]⟩⟩,fA (st 45),.stmts (fB (st 45)),fS (st 45),3,[],(.ref 859),.none,.none,(.str ⟨⟨[99,112,121,51,49,51,46,115,104,108,101,120]⟩⟩ 1270),none,(.ref 865),.none,0⟩),⟨[]⟩⟩
noncomputable def o867 (P:Params):Obj:=⟨(.type "builtin_function_or_method"),none,(.fields ⟨[(.builtin "re.Pattern.search"),(.ref 171)]⟩),⟨[]⟩⟩
noncomputable def o873 (P:Params):Obj:=⟨(.type "code"),none,(.fields ⟨[(.str ⟨⟨[113,117,111,116,101]⟩⟩ 1423),(.str ⟨⟨[113,117,111,116,101]⟩⟩ 1424),(.str ⟨⟨[47,99,108,97,105,109,47,99,117,116,46,112,121]⟩⟩ 1425),(.int (890) 0),(.int (1) 0),(.int (0) 0),(.int (0) 0),(.int (3) 0),(.ref 868),(.bool true),(.int (318) 0),(.ref 869),.none,(.ref 870),(.ref 871),(.ref 872),(.int (1427) 0),(.int (890) 0),(.str ⟨⟨[47,99,108,97,105,109,47,99,117,116,46,112,121]⟩⟩ 1428)]⟩),⟨[]⟩⟩
noncomputable def o874 (P:Params):Obj:=⟨(.type "function"),none,(.func ⟨⟨⟨[113,117,111,116,101]⟩⟩,⟨⟨[113,117,111,116,101]⟩⟩,fA (st 47),.stmts (fB (st 47)),fS (st 47),3,[],.none,.none,.none,(.str ⟨⟨[99,112,121,51,49,51,46,115,104,108,101,120]⟩⟩ 1270),none,(.ref 873),.none,0⟩),⟨[]⟩⟩
noncomputable def o880 (P:Params):Obj:=⟨(.type "code"),none,(.fields ⟨[(.str ⟨⟨[95,108,97,119,95,112,97,114,116]⟩⟩ 1432),(.str ⟨⟨[95,108,97,119,95,112,97,114,116]⟩⟩ 1433),(.str ⟨⟨[47,99,108,97,105,109,47,99,117,116,46,112,121]⟩⟩ 1434),(.int (897) 0),(.int (1) 0),(.int (0) 0),(.int (0) 0),(.int (3) 0),(.ref 875),(.bool true),(.int (318) 0),(.ref 876),.none,(.ref 877),(.ref 878),(.ref 879),(.int (1437) 0),(.int (897) 0),(.str ⟨⟨[47,99,108,97,105,109,47,99,117,116,46,112,121]⟩⟩ 1438)]⟩),⟨[]⟩⟩
noncomputable def o881 (P:Params):Obj:=⟨(.type "function"),none,(.func ⟨⟨⟨[95,108,97,119,95,112,97,114,116]⟩⟩,⟨⟨[95,108,97,119,95,112,97,114,116]⟩⟩,fA (st 49),.stmts (fB (st 49)),fS (st 49),3,[],.none,.none,.none,(.str ⟨⟨[108,97,119,95,105,108,48,48,57,56,95,48,49]⟩⟩ 1430),none,(.ref 880),.none,0⟩),⟨[]⟩⟩
noncomputable def o885 (P:Params):Obj:=⟨(.type "code"),none,(.fields ⟨[(.str ⟨⟨[95,108,97,119,95,115,116,114,117,99,107]⟩⟩ 1440),(.str ⟨⟨[95,108,97,119,95,115,116,114,117,99,107]⟩⟩ 1441),(.str ⟨⟨[47,99,108,97,105,109,47,99,117,116,46,112,121]⟩⟩ 1442),(.int (900) 0),(.int (2) 0),(.int (0) 0),(.int (0) 0),(.int (3) 0),(.ref 882),(.bool true),(.int (318) 0),(.ref 883),.none,.none,.none,(.ref 884),(.int (1443) 0),(.int (900) 0),(.str ⟨⟨[47,99,108,97,105,109,47,99,117,116,46,112,121]⟩⟩ 1444)]⟩),⟨[]⟩⟩
noncomputable def o886 (P:Params):Obj:=⟨(.type "function"),none,(.func ⟨⟨⟨[95,108,97,119,95,115,116,114,117,99,107]⟩⟩,⟨⟨[95,108,97,119,95,115,116,114,117,99,107]⟩⟩,fA (st 50),.stmts (fB (st 50)),fS (st 50),3,[],.none,.none,.none,(.str ⟨⟨[108,97,119,95,105,108,48,48,57,56,95,48,49]⟩⟩ 1430),none,(.ref 885),.none,0⟩),⟨[]⟩⟩
noncomputable def o892 (P:Params):Obj:=⟨(.type "code"),none,(.fields ⟨[(.str ⟨⟨[95,108,97,119,95,119,111,114,100,115]⟩⟩ 1446),(.str ⟨⟨[95,108,97,119,95,119,111,114,100,115]⟩⟩ 1447),(.str ⟨⟨[47,99,108,97,105,109,47,99,117,116,46,112,121]⟩⟩ 1448),(.int (913) 0),(.int (1) 0),(.int (0) 0),(.int (0) 0),(.int (3) 0),(.ref 887),(.bool true),(.int (318) 0),(.ref 888),.none,(.ref 889),(.ref 890),(.ref 891),(.int (1455) 0),(.int (913) 0),(.str ⟨⟨[47,99,108,97,105,109,47,99,117,116,46,112,121]⟩⟩ 1456)]⟩),⟨[]⟩⟩
noncomputable def o893 (P:Params):Obj:=⟨(.type "function"),none,(.func ⟨⟨⟨[95,108,97,119,95,119,111,114,100,115]⟩⟩,⟨⟨[95,108,97,119,95,119,111,114,100,115]⟩⟩,fA (st 51),.stmts (fB (st 51)),fS (st 51),3,[],.none,.none,.none,(.str ⟨⟨[108,97,119,95,105,108,48,48,57,56,95,48,49]⟩⟩ 1430),none,(.ref 892),.none,0⟩),⟨[]⟩⟩
noncomputable def o899 (P:Params):Obj:=⟨(.type "code"),none,(.fields ⟨[(.str ⟨⟨[95,108,97,119,95,112,97,116,104]⟩⟩ 1458),(.str ⟨⟨[95,108,97,119,95,112,97,116,104]⟩⟩ 1459),(.str ⟨⟨[47,99,108,97,105,109,47,99,117,116,46,112,121]⟩⟩ 1460),(.int (921) 0),(.int (1) 0),(.int (0) 0),(.int (0) 0),(.int (3) 0),(.ref 894),(.bool true),(.int (318) 0),(.ref 895),.none,(.ref 896),(.ref 897),(.ref 898),(.int (1464) 0),(.int (921) 0),(.str ⟨⟨[47,99,108,97,105,109,47,99,117,116,46,112,121]⟩⟩ 1465)]⟩),⟨[]⟩⟩
noncomputable def o900 (P:Params):Obj:=⟨(.type "function"),none,(.func ⟨⟨⟨[95,108,97,119,95,112,97,116,104]⟩⟩,⟨⟨[95,108,97,119,95,112,97,116,104]⟩⟩,fA (st 52),.stmts (fB (st 52)),fS (st 52),3,[],.none,.none,.none,(.str ⟨⟨[108,97,119,95,105,108,48,48,57,56,95,48,49]⟩⟩ 1430),none,(.ref 899),.none,0⟩),⟨[]⟩⟩
noncomputable def o906 (P:Params):Obj:=⟨(.type "code"),none,(.fields ⟨[(.str ⟨⟨[95,108,97,119,95,114,101,97,100]⟩⟩ 1467),(.str ⟨⟨[95,108,97,119,95,114,101,97,100]⟩⟩ 1468),(.str ⟨⟨[47,99,108,97,105,109,47,99,117,116,46,112,121]⟩⟩ 1469),(.int (929) 0),(.int (1) 0),(.int (0) 0),(.int (0) 0),(.int (3) 0),(.ref 901),(.bool true),(.int (318) 0),(.ref 902),.none,(.ref 903),(.ref 904),(.ref 905),(.int (1471) 0),(.int (929) 0),(.str ⟨⟨[47,99,108,97,105,109,47,99,117,116,46,112,121]⟩⟩ 1472)]⟩),⟨[]⟩⟩
noncomputable def o907 (P:Params):Obj:=⟨(.type "function"),none,(.func ⟨⟨⟨[95,108,97,119,95,114,101,97,100]⟩⟩,⟨⟨[95,108,97,119,95,114,101,97,100]⟩⟩,fA (st 53),.stmts (fB (st 53)),fS (st 53),3,[],.none,.none,.none,(.str ⟨⟨[108,97,119,95,105,108,48,48,57,56,95,48,49]⟩⟩ 1430),none,(.ref 906),.none,0⟩),⟨[]⟩⟩
noncomputable def o911 (P:Params):Obj:=⟨(.type "code"),none,(.fields ⟨[(.str ⟨⟨[108,97,119]⟩⟩ 1474),(.str ⟨⟨[108,97,119]⟩⟩ 1475),(.str ⟨⟨[47,99,108,97,105,109,47,99,117,116,46,112,121]⟩⟩ 1476),(.int (934) 0),(.int (1) 0),(.int (0) 0),(.int (0) 0),(.int (3) 0),(.ref 908),(.bool true),(.int (318) 0),(.ref 909),.none,.none,.none,(.ref 910),(.int (1477) 0),(.int (934) 0),(.str ⟨⟨[47,99,108,97,105,109,47,99,117,116,46,112,121]⟩⟩ 1478)]⟩),⟨[]⟩⟩
noncomputable def o912 (P:Params):Obj:=⟨(.type "function"),none,(.func ⟨⟨⟨[108,97,119]⟩⟩,⟨⟨[108,97,119]⟩⟩,fA (st 54),.stmts (fB (st 54)),fS (st 54),3,[],.none,.none,.none,(.str ⟨⟨[108,97,119,95,105,108,48,48,57,56,95,48,49]⟩⟩ 1430),none,(.ref 911),.none,0⟩),⟨[]⟩⟩
noncomputable def KL (P:Params):List (Nat×Obj):=[(0,o0 P),(2,o2 P),(3,o3 P),(50,o50 P),(51,o51 P),(57,o57 P),(58,o58 P),(130,o130 P),(131,o131 P),(144,o144 P),(145,o145 P),(151,o151 P),(152,o152 P),(158,o158 P),(159,o159 P),(165,o165 P),(166,o166 P),(170,o170 P),(171,o171 P),(184,o184 P),(185,o185 P),(211,o211 P),(212,o212 P),(214,o214 P),(215,o215 P),(216,o216 P),(241,o241 P),(242,o242 P),(472,o472 P),(482,o482 P),(488,o488 P),(489,o489 P),(495,o495 P),(496,o496 P),(502,o502 P),(503,o503 P),(658,o658 P),(664,o664 P),(665,o665 P),(718,o718 P),(719,o719 P),(771,o771 P),(777,o777 P),(778,o778 P),(784,o784 P),(785,o785 P),(786,o786 P),(814,o814 P),(815,o815 P),(821,o821 P),(822,o822 P),(843,o843 P),(844,o844 P),(850,o850 P),(851,o851 P),(853,o853 P),(854,o854 P),(859,o859 P),(865,o865 P),(866,o866 P),(867,o867 P),(873,o873 P),(874,o874 P),(880,o880 P),(881,o881 P),(885,o885 P),(886,o886 P),(892,o892 P),(893,o893 P),(899,o899 P),(900,o900 P),(906,o906 P),(907,o907 P),(911,o911 P),(912,o912 P)]
noncomputable def KA:List Nat:=[0,2,3,50,51,57,58,130,131,144,145,151,152,158,159,165,166,170,171,184,185,211,212,214,215,216,241,242,472,482,488,489,495,496,502,503,658,664,665,718,719,771,777,778,784,785,786,814,815,821,822,843,844,850,851,853,854,859,865,866,867,873,874,880,881,885,886,892,893,899,900,906,907,911,912]
noncomputable def treeOf (l:List Obj):BT:=(l.foldl (fun (x:BT×Nat) o=>(x.1.ins x.2 o,x.2+1)) (BT.nil,0)).1
noncomputable def Full (t:BT) (n:Nat):Prop:=∀ i,(t.get i).isSome=decide (i < n)
theorem Full.ins:∀ {t:BT} {n:Nat} (o:Obj),Full t n→(t.ins n o).get n=some o
 | .nil,n,o,h=>by
   have:n=0:=by
    rcases Nat.eq_zero_or_pos n with h0 | h0
    ·exact h0
    ·have:=h 0;simp [BT.get,h0] at this
   subst this;rfl
 | .node v l r,n,o,h=>by
   have hn:n≠0:=by
    intro h0;subst h0
    have:=h 0
    rw [BT.get_node] at this;simp at this
   rw [BT.ins_node,if_neg hn]
   by_cases q:n % 2=1
   ·rw [if_pos q,BT.get_node,if_neg hn,if_pos q]
    refine Full.ins o fun i=>?_
    have:=h (2 * i+1)
    rw [BT.get_node,if_neg (Nat.succ_ne_zero _),if_pos ar60,show (2 * i+1) / 2=i by exact ar33] at this
    rw [this]
    exact decide_eq_decide.mpr ar61
   ·rw [if_neg q,BT.get_node,if_neg hn,if_neg q]
    refine Full.ins o fun i=>?_
    have:=h (2 * i+2)
    rw [BT.get_node,if_neg (Nat.succ_ne_zero _),if_neg ar62,show (2 * i+2) / 2 - 1=i by exact ar63] at this
    rw [this]
    exact decide_eq_decide.mpr (by lia)
theorem Full.step {t:BT} {n:Nat} (o:Obj) (h:Full t n):Full (t.ins n o) (n+1):=by
 intro i
 have g:=h.ins o
 rw [BT.get_ins o t n (by rw [g];rfl)]
 by_cases e:i=n
 ·subst e;simp
 ·rw [if_neg e,h i]
  exact decide_eq_decide.mpr (by lia)
theorem treeOf_go:∀ (l done:List Obj) (t:BT),Full t done.length→(∀ i,(h:i < done.length)→t.get i=some done[i])→
 ∀ i,(h:i < (done++l).length)→((l.foldl (fun (x:BT×Nat) o=>(x.1.ins x.2 o,x.2+1)) (t,done.length)).1).get i=some (done++l)[i]
 | [],done,t,_,hd,i,h=>by simpa using hd i (by simpa using h)
 | o::l,done,t,F,hd,i,h=>by
   have g:=F.ins o
   have key:=treeOf_go l (done++[o]) (t.ins done.length o) (by rw [List.length_append];exact F.step o) (fun j hj=>by
    rw [BT.get_ins o t done.length (by rw [g];rfl)]
    by_cases e:j=done.length
    ·subst e;simp
    ·rw [if_neg e]
     have hj':j < done.length:=by rw [List.length_append] at hj;simp at hj;lia
     rw [hd j hj',List.getElem_append_left hj']) i (by simpa using h)
   rw [List.length_append] at key
   simpa using key
theorem treeOf_get (l:List Obj) (i:Nat) (h:i < l.length):(treeOf l).get i=some l[i]:=by
 have:=treeOf_go l [] .nil (fun i=>by simp [BT.get]) (fun i h=>absurd h (Nat.not_lt_zero i)) i (by simpa using h)
 simpa [treeOf] using this
theorem treeOf_list (l:List Obj):(treeOf l).list l.length=l:=by
 unfold BT.list
 apply List.ext_getElem
 ·simp
 ·intro i h1 h2
  simp only [List.getElem_map,List.getElem_range]
  rw [treeOf_get l i h2];rfl
noncomputable def toT (s:Shared):SharedT:=⟨treeOf s.heap.objs.toList,s.heap.objs.size,s.heap.life,s.gens,s.drawn,s.toks,s.os⟩
theorem toT_abs (s:Shared):(toT s).abs=s:=by
 obtain ⟨⟨⟨l⟩,life⟩,g,d,t,os⟩:=s
 show (⟨absHeap (treeOf l) l.length life,g,d,t,os⟩:Shared)=_
 unfold absHeap
 rw [treeOf_list]
theorem segGo_top {tb:String→Option Builtin} {p:Program} {w:World} {n₀:Nat} {ann:Option Value}:∀ {n:Nat} {s s':Shared} {t t':Thread},segGo tb p w n₀ ann 0 n s t=some (s',t')→through t'=true→topRun tb p w n₀ ann (n+1) s t=some s'
 | 0,s,s',t,t',h,k=>by
   obtain ⟨rfl,rfl⟩:s=s'∧t=t':=by simpa [segGo] using h
   unfold topRun;rw [k]
 | n+1,s,s',t,t',h,k=>by
   unfold segGo at h
   unfold topRun
   have e:through t=(endAt 0 t).isSome:=by
    obtain ⟨cur,code,pos,stk⟩:=t
    unfold through endAt
    cases stk with
    | nil=>cases cur <;> first | rfl | (rename_i f;cases f <;> rfl)
    | cons=>rfl
   cases he:endAt 0 t with
   | some f=>rw [he] at h;cases h
   | none=>
     rw [he] at h e
     rw [show through t=false from e]
     cases hk:stepOk n₀ ann t with
     | false=>rw [hk] at h;cases h
     | true=>
       rw [hk] at h
       cases hs:step (denote tb) p w s t with
       | halt o s₂=>rw [hs] at h;cases h
       | go s₂ t₂=>rw [hs] at h;exact segGo_top h k
noncomputable def topFromT (go:SharedT→Nat→Option Value→Thread→Option (SharedT×Thread)) (p:Program) (mods:List Str) (s₀:Shared):Option Shared:=
 match s₀.heap.isNs mainGlobals && s₀.gens.size == 0 with
 | true=>match go (toT s₀) s₀.heap.objs.size (s₀.heap.nsMap mainGlobals "__annotations__") (topStub p) with
   | some (s₁,t₁)=>match through t₁ with
     | true=>match staticsOk mods s₀.heap s₁.abs.heap && namesBound p s₁.abs.heap && gensDone s₁.abs && laidKept s₀.heap s₁.abs.heap with
       | true=>some s₁.abs
       | false=>none
     | false=>none
   | none=>none
 | false=>none
theorem topFromT_spec {p:Program} {w:World} {n N:Nat} (hN:n < N) {s₀ s:Shared} (h:topFromT (fun s m a t=>segGoT treeTable p w m a 0 n s t) p (importedModules p.main.body) s₀=some s):topFrom treeTable p w N s₀=some s:=by
 unfold topFromT at h
 unfold topFrom
 cases hc:(s₀.heap.isNs mainGlobals && s₀.gens.size == 0) with
 | false=>rw [hc] at h;cases h
 | true=>
   rw [hc] at h
   dsimp only at h⊢
   cases hg:segGoT treeTable p w s₀.heap.objs.size (s₀.heap.nsMap mainGlobals "__annotations__") 0 n (toT s₀) (topStub p) with
   | none=>rw [hg] at h;cases h
   | some r=>
     obtain ⟨s₁,t₁⟩:=r
     rw [hg] at h
     dsimp only at h
     cases ht:through t₁ with
     | false=>rw [ht] at h;cases h
     | true=>
       rw [ht] at h
       have h1:=segGo_of hg
       rw [toT_abs] at h1
       have h2:=topRun_mono (N - (n+1)) _ _ _ _ (segGo_top h1 ht)
       rw [show n+1+(N - (n+1))=N by exact ar64] at h2
       rw [h2]
       exact h
theorem left_of {p q:Program} {loose:List Str} {Xt:Shared→Bool} {α:Type} {Yf:Shared→α} {Ya:World→α} {N n:Nat} (hN:n < N)
 (h:∀ w:World,(((importEnds treeTable (opening p) w N (start (opening p)).1 (start (opening p)).2).bind (fenceModules? p)).bind (topFromT (fun s m a t=>segGoT treeTable p w m a 0 n s t) p (importedModules p.main.body))).map (fun s=>(openSeen q loose (importedModules p.main.body) Xt true s,Yf s))=some (openGood q loose,Ya w)):
 LeftO p q loose Xt Yf Ya N:=fun w=>by
 obtain ⟨s,e,e'⟩:=Option.map_eq_some_iff.mp (h w)
 obtain ⟨s₀,e1,e2⟩:=Option.bind_eq_some_iff.mp e
 unfold openEnds fencedOpening
 rw [e1]
 show (topFrom treeTable p w N s₀).map _=_
 rw [topFromT_spec hN e2]
 exact congrArg some e'
noncomputable abbrev fGo:=@PySem.W.Fast.tw10295753902157049106
noncomputable abbrev fTab:=@PySem.W.Fast.tw14364793385576792824
noncomputable abbrev fImp:=@PySem.W.Fast.tw10274390034422433532
noncomputable abbrev fStart:=@PySem.W.Fast.tw1435165496053646825
noncomputable abbrev fFence:=@PySem.W.Fast.tw14289696077712309145
noncomputable abbrev fSeen:=@PySem.W.Fast.tw4187177175401517315
noncomputable abbrev fMods:=@PySem.W.Fast.tw5923862056798008813
noncomputable def lawSt:Stmt:=st 54
noncomputable def view:Program:={ prog with main:={ prog.main with body:=[lawSt] } }
noncomputable def looseNames:List Str:=[⟨⟨[95,115,114,101]⟩⟩,⟨⟨[100,101,113,117,101]⟩⟩,⟨⟨[95,119,97,108,108]⟩⟩,⟨⟨[95,105,116,101,114,95,101,115,99,97,112,101,100,95,99,104,97,114,115]⟩⟩,⟨⟨[95,115,116,114,105,112,95,113,117,111,116,101,100,95,114,101,97,108,110,97,109,101,115]⟩⟩,⟨⟨[95,112,108,97,105,110,95,110,97,109,101]⟩⟩,⟨⟨[65,66,67,77,101,116,97]⟩⟩,⟨⟨[95,65,66,67,76,105,107,101]⟩⟩,⟨⟨[95,97,98,99,95,112,108,97,105,110,95,109,101,116,97]⟩⟩,⟨⟨[102,115,112,97,116,104]⟩⟩,⟨⟨[95,99,104,101,99,107,95,97,114,103,95,116,121,112,101,115]⟩⟩,⟨⟨[99,104,101,99,107,95,97,114,103,95,116,121,112,101,115,95,103,101,110,101,114,105,99,112,97,116,104]⟩⟩,⟨⟨[95,103,101,116,95,115,101,112]⟩⟩,⟨⟨[106,111,105,110]⟩⟩,⟨⟨[106,111,105,110,95,112,111,115,105,120,112,97,116,104]⟩⟩,⟨⟨[115,112,108,105,116,114,111,111,116]⟩⟩,⟨⟨[110,111,114,109,112,97,116,104]⟩⟩,⟨⟨[95,116,119,105,110,95,114,101,95,49]⟩⟩,⟨⟨[95,119,104,101,110,99,101]⟩⟩,⟨⟨[95,105,110,100,101,120]⟩⟩,⟨⟨[85,110,115,117,112,112,111,114,116,101,100,79,112,101,114,97,116,105,111,110]⟩⟩,⟨⟨[73,79,66,97,115,101]⟩⟩,⟨⟨[66,117,102,102,101,114,101,100,73,79,66,97,115,101]⟩⟩,⟨⟨[84,101,120,116,73,79,66,97,115,101]⟩⟩,⟨⟨[66,121,116,101,115,73,79]⟩⟩,⟨⟨[83,116,114,105,110,103,73,79]⟩⟩,⟨⟨[95,107,105,110,100]⟩⟩,⟨⟨[95,102,115,112,97,116,104]⟩⟩,⟨⟨[99,104,101,99,107,95,97,114,103,95,116,121,112,101,115,95,112,97,116,104]⟩⟩,⟨⟨[105,115,97,98,115]⟩⟩,⟨⟨[106,111,105,110,95,112,97,116,104]⟩⟩,⟨⟨[100,105,114,110,97,109,101]⟩⟩,⟨⟨[115,104,108,101,120]⟩⟩,⟨⟨[115,112,108,105,116]⟩⟩,⟨⟨[95,102,105,110,100,95,117,110,115,97,102,101]⟩⟩,⟨⟨[113,117,111,116,101]⟩⟩,⟨⟨[95,108,97,119,95,112,97,114,116]⟩⟩,⟨⟨[95,108,97,119,95,115,116,114,117,99,107]⟩⟩,⟨⟨[95,108,97,119,95,119,111,114,100,115]⟩⟩,⟨⟨[95,108,97,119,95,112,97,116,104]⟩⟩,⟨⟨[95,108,97,119,95,114,101,97,100]⟩⟩]
noncomputable def HK:Hook:=kHook KL KA (fun _=>rfl)
noncomputable abbrev XtF (s:Shared):Bool:=xlAt view [] s && recOk ([]:WRecords) s
theorem topk:∀ w:World,(((fImp fTab (opening prog) w 12090 (fStart (opening prog)).1 (fStart (opening prog)).2).bind (fFence prog)).bind (topFromT (fun s m a t=>fGo fTab prog w m a 0 5995 s t) prog (fMods prog.main.body))).map (fun s=>(fSeen view looseNames (fMods prog.main.body) XtF true s,HK.obs s))=some (openGood view looseNames,HK.val w):=fun w=>by kernel_rfl
noncomputable def fP (s:Stmt):Pos:=match s with
 | .FunctionDef _ _ _ _ _ _ _ _ _ p=>p
 | _=>default
theorem left:LeftO pw_il0098_01 view looseNames XtF HK.obs HK.val 12090:=by
 refine left_of (n:=5995) (by decide) ?_
 rw [prog_eq,PySem.W.Fast.te10295753902157049106,PySem.W.Fast.te14364793385576792824,PySem.W.Fast.te10274390034422433532,PySem.W.Fast.te1435165496053646825,PySem.W.Fast.te14289696077712309145,PySem.W.Fast.te4187177175401517315,PySem.W.Fast.te5923862056798008813]
 exact topk
theorem head (walk:WalkO view looseNames (XL view []) HK.says PySem.Challenge.rw_il0098_01.row.toRowW ⟨⟨⟨[108,97,119]⟩⟩,fA lawSt,fB lawSt,fS lawSt,fP lawSt⟩ [] fun f vs=>PySem.call f vs):PySem.Challenge.rw_il0098_01.Holds:=by
 refine holds_law said fun said'=>?_
 refine holds_open (q:=view) (loose:=looseNames) (Xt:=XtF) (XP:=XL view []) (Yf:=HK.obs) (Ya:=HK.val) (YP:=HK.says) (N:=12090) left HK.of HK.keeps (fun s e=>xl_of s (Bool.and_eq_true_iff.mp e).1) XL.keeps ?h1 ?h2 ?h3 (fun s e=>recFacts_of (Bool.and_eq_true_iff.mp e).2) ?h4 said' ?h5 ⟨?b1,?b2,?b3,?b4,?b5,?b6⟩ ?hw walk
 case h1=>kernel_rfl
 case h2=>kernel_rfl
 case h3=>kernel_rfl
 case h4=>rfl
 case h5=>decide+kernel
 case b1=>rfl
 case b2=>rfl
 case b3=>rfl
 case b4=>rfl
 case b5=>rfl
 case b6=>decide+kernel
 case hw=>w_witness2
noncomputable abbrev Cell:=Addr×Obj
structure Unk where
 b:Nat→Nat
 t:Nat→Nat
 u:Nat→Nat→Tok
 p:Nat→Pos
 l:Nat→List (Code×Pos)
 v:Nat→Nat→Value
inductive Side where
 | nat (n:Nat)
 | code (c:Code)
 | cells (T:List Cell)
 | val (v:Value)
 | envs (l:Option (List Env))
structure EOut where
 eqs:List (Side×Side)
 conds:List Prop
 post:Nat→Nat→(Nat→Tok)→Result×List Cell
noncomputable abbrev ERule:=Option (List Env)→List Nat→Code→List Cell→Option EOut
structure EOutV where
 eqs:List (Side×Side)
 conds:List Prop
 post:Nat→Nat→(Nat→Tok)→(Nat→Value)→Result×List Cell
noncomputable abbrev ERuleV:=Option (List Env)→List Nat→Code→List Cell→Option EOutV
noncomputable def tab {α:Type} (f:Nat→Option α) (l:List (Nat×α)):Nat→Option α:=List.rec f (fun p _ ih i=>match Nat.beq i p.1 with
 | true=>some p.2
 | false=>ih i) l
theorem tab_cons {α:Type} {P:α→Prop} {f:Nat→Option α} {l:List (Nat×α)} {n:Nat} {a:α} (h:P a) (k:∀ i R,tab f l i=some R→P R):∀ i R,tab f ((n,a)::l) i=some R→P R:=fun i R e=>by
 cases q:Nat.beq i n with
 | true=>
   have e:(match Nat.beq i n with | true=>some a | false=>tab f l i)=some R:=e
   rw [q] at e;cases e;exact h
 | false=>
   have e:(match Nat.beq i n with | true=>some a | false=>tab f l i)=some R:=e
   rw [q] at e;exact k i R e
inductive Ev where
 | den
 | eff (i:Nat) (js:List Nat)
 | note (m:Nat) (js:List Nat)
inductive Kont where
 | base
 | ret (c:Option Code) (d:Nat) (k:Result→Sem Fin) (κ:Kont)
 | onr (c:Code) (d:Nat) (env:Env) (h:Value→Sem Fin) (κ:Kont)
structure RV where
 prog:Program
 params:Params
 den:Code→Sem Fin
 look:Nat→Option Obj
 callT:Addr→FuncData→Args→Sem Fin
 ok:Code→Bool
 rules:Nat→Option ERule
 keepG:Bool
 inn:Code→Option (Sem Fin×Env×(Value→Sem Fin))
 fr:Option (List Env)
 rv:Nat→Option ERuleV
structure Out where
 r:Fin ⊕ Value
 T:List Cell
 sz:Nat
 toks:Nat
 eqs:List (Side×Side)
 conds:List Prop
noncomputable abbrev Rest:=List Cell→Nat→Nat→Nat→Nat→Nat→Nat→List (Nat×Nat)→Nat→List (Ev×Nat)→List (Side×Side)→List Prop→Option Out
noncomputable abbrev RunTy:=Option Code→Bool→Kont→Nat→Sem Fin→Rest
noncomputable def plainFn (fd:FuncData):Bool:=match fd.scope.isGenerator with
 | true=>false
 | false=>match fd.scope.isCoroutine with
   | true=>false
   | false=>match fd.body with
     | .stmts _=>true
     | .expr _=>false
noncomputable def dOf:Kont→Nat
 | .base=>0
 | .ret _ d _ _=>d
 | .onr _ d _ _ _=>d
noncomputable def pushE (l:List Env) (x:Option (List Env)):Option (List Env):=match l with
 | []=>x
 | e::es=>match x with
   | none=>none
   | some y=>some ((e::es)++y)
noncomputable def frK (fr:Option (List Env)):Kont→Option (List Env)
 | .base=>fr
 | .ret c _ _ κ=>match c with
   | none=>frK fr κ
   | some c=>pushE c.envs (frK fr κ)
 | .onr _ _ _ _ κ=>frK fr κ
noncomputable def plainEnv (env:Env):Bool:=match env.scope.kind with
 | .module=>false
 | _=>match env.scope.isGenerator with
   | true=>false
   | false=>match env.scope.isCoroutine with
     | true=>false
     | false=>true
noncomputable def backV (vb:Value):List Env→Value
 | []=>vb
 | caller::_=>match caller.frame with
   | none=>.notImplemented
   | some a=>.ref a
noncomputable def vbN:Value→Value
 | .none=>.none
 | _=>.notImplemented
noncomputable def readyO (env:Env) (back:Value) (o:Obj):Obj:=
 { o with slots:=#[some env.code,some (.ref env.globals),o.slots.getD 2 none,some back,o.slots.getD 4 none,env.func.map Value.ref,some (.ref env.builtins)]++(env.cells.map fun c=>some (.ref c.2)).toArray }
noncomputable def readyT (vb:Value):List Env→List Nat→List Cell→Option (List Cell×List (Side×Side))
 | [],_,T=>some (T,[])
 | env::outer,js,T=>match env.frame with
   | none=>none
   | some f=>match js with
     | []=>none
     | j::js=>match T[j]? with
       | none=>none
       | some z=>match z.2.slots.getD 3 none with
         | some _=>some (T,[(.nat f,.nat z.1)])
         | none=>match plainEnv env with
           | false=>none
           | true=>match z.2.isFreed with
             | true=>none
             | false=>match readyT vb outer js (T.set j (z.1,readyO env (backV vb outer) z.2)) with
               | none=>none
               | some r=>some (r.1,(.nat f,.nat z.1)::r.2)
noncomputable def fieldsN (o:Obj):Option (List Value):=match o.data with
 | .fields vs=>some vs.toList
 | _=>none
noncomputable def tbO (head:Value) (f:Nat) (v:Nat→Value):Obj:=
 { cls:=.type "traceback",data:=.fields ⟨[head,.ref f,.none,rawInt f,.none,v 0,v 1,v 2,v 3,v 4,v 5]⟩ }
noncomputable def noneV:Value→Option Unit
 | .none=>some ()
 | _=>none
noncomputable def uncL {α:Type}:List α→Option (α×List α)
 | []=>none
 | a::l=>some (a,l)
noncomputable def entryT (env':Env) (outer:List Env) (e head:Value) (f:Nat) (v:Nat→Value) (je:Nat) (js:List Nat) (T:List Cell) (a:Nat) (es:List (Side×Side)):Option (List Cell×Bool×List (Side×Side)):=
 (readyT (vbN (v 6)) (env'::outer) js T).bind fun r=>(r.1[je]?).bind fun x=>(fieldsN x.2).bind fun vs=>(vs[1]?).bind fun _=>
   some ((a,tbO head f v)::r.1.set je (x.1,Obj.mapFields (·.setIfInBounds 1 (.ref a)) x.2),true,(.val e,.val (.ref x.1))::es++r.2)
noncomputable def noteS (m:Nat) (e head w3:Value) (f f':Nat) (E:Env×List Env) (je:Nat) (K:Nat×List Nat) (x y:Cell) (v:Nat→Value) (T:List Cell) (a:Nat):Option (List Cell×Bool×List (Side×Side)):=match m with
 | 0=>some (T,false,[(.val e,.val (.ref x.1)),(.val head,.val (.ref y.1)),(.val w3,.val (rawInt f))])
 | _+1=>(noneV w3).bind fun _=>entryT E.1 E.2 e head f v je K.2 (T.set K.1 (y.1,Obj.mapFields (·.setIfInBounds 3 .none) y.2)) a [(.val e,.val (.ref x.1)),(.val head,.val (.ref y.1)),(.nat f,.nat f')]
noncomputable def noteM (m:Nat) (e head:Value) (f f':Nat) (E:Env×List Env) (J:Nat×List Nat) (x:Cell) (v:Nat→Value) (T:List Cell) (a:Nat):Option (List Cell×Bool×List (Side×Side)):=match m with
 | 0=>(noneV head).bind fun _=>entryT E.1 E.2 e .none f v J.1 J.2 T a [(.val e,.val (.ref x.1)),(.nat f,.nat f')]
 | m+1=>(uncL J.2).bind fun K=>(T[K.1]?).bind fun y=>(fieldsN y.2).bind fun ws=>(ws[3]?).bind fun w3=>noteS m e head w3 f f' E J.1 K x y v T a
noncomputable def noteT (F:Option (List Env)) (env:Env) (e:Value) (m:Nat) (js:List Nat) (v:Nat→Value) (T:List Cell) (a:Nat):Option (List Cell×Bool×List (Side×Side)):=
 env.frame.bind fun f=>F.bind fun F=>(uncL F).bind fun E=>E.1.frame.bind fun f'=>(uncL js).bind fun J=>(T[J.1]?).bind fun x=>(fieldsN x.2).bind fun vs=>(vs[1]?).bind fun head=>noteM m e head f f' E J x v T a
section
variable (V:RV) (ρ:Unk)
noncomputable def retK (ih:RunTy) (r:Result) (κ:Kont):Rest:=match κ with
 | .base=>fun _ _ _ _ _ _ _ _ _ _ _ _=>none
 | .ret c d k κ'=>ih c false κ' d (k r)
 | .onr ..=>fun _ _ _ _ _ _ _ _ _ _ _ _=>none
noncomputable def enterK (ih:RunTy) (c':Code) (κ:Kont) (d:Nat):Rest:=match V.inn c' with
 | none=>ih (some c') false κ d (V.den c')
 | some r=>ih (some c') false (.onr c' d r.2.1 r.2.2 κ) d r.1
noncomputable def noteK (ih:RunTy) (e:Value) (c:Code) (d:Nat) (env:Env) (h:Value→Sem Fin) (κ:Kont):Rest:=fun T b o tk ti k sk ls cs cl eqs conds=>match cs with
 | _+1=>none
 | 0=>match cl with
   | []=>none
   | ev::cl=>match ev.1 with
     | .note m js=>match noteT (pushE c.envs (frK V.fr κ)) env e m js (ρ.v k) T (b+o) with
       | none=>none
       | some r=>match r.2.1 with
         | true=>ih (some c) false κ d (h e) r.1 b (o+1) tk ti (k+1) sk ls ev.2 cl (r.2.2++eqs) conds
         | false=>ih (some c) false κ d (h e) r.1 b o tk ti (k+1) sk ls ev.2 cl (r.2.2++eqs) conds
     | _=>none
noncomputable def callO:Code→Option (Value×Args)
 | .call f args=>some (f,args)
 | _=>none
noncomputable def refO:Value→Option Nat
 | .ref a=>some a
 | _=>none
noncomputable def funcO:Data→Option FuncData
 | .func fd=>some fd
 | _=>none
noncomputable def callFd (c':Code):Option (Nat×FuncData×Args):=(callO c').bind fun q=>(refO q.1).bind fun a=>(V.look a).bind fun o=>(funcO o.data).bind fun fd=>some (a,fd,q.2)
noncomputable def autoK (ih:RunTy) (c':Code) (κ:Kont):Rest:=match callFd V c' with
 | none=>enterK V ih c' κ (dOf κ+4)
 | some p=>match plainFn p.2.1 with
   | true=>ih (some c') true κ (dOf κ+4) (V.callT p.1 p.2.1 p.2.2)
   | false=>fun _ _ _ _ _ _ _ _ _ _ _ _=>none
noncomputable def ruleV (i:Nat):Option ERuleV:=match V.rules i with
 | some R=>some fun F js c T=>(R F js c T).map fun eo=>⟨eo.eqs,eo.conds,fun b t u _=>eo.post b t u⟩
 | none=>V.rv i
noncomputable def goI (ih:RunTy) (c':Code) (κ:Kont):Rest:=fun T b o tk ti k sk ls cs cl eqs conds=>match cs with
 | cs+1=>autoK V ih c' κ T b o tk ti k sk ls cs cl eqs conds
 | 0=>match cl with
   | []=>autoK V ih c' κ T b o tk ti k sk ls 0 [] eqs conds
   | e::cl=>match e.1 with
     | .den=>enterK V ih c' κ (dOf κ+4) T b o tk ti k sk ls e.2 cl eqs conds
     | .note ..=>none
     | .eff i js=>match ruleV V i with
       | none=>none
       | some R=>match R (frK V.fr κ) js c' T with
         | none=>none
         | some eo=>retK ih (eo.post (ρ.b k) (ρ.t k) (ρ.u k) (ρ.v k)).1 κ (eo.post (ρ.b k) (ρ.t k) (ρ.u k) (ρ.v k)).2 (ρ.b k+900) 0 (ρ.t k) 0 (k+1) sk ls e.2 cl (eo.eqs++eqs) (eo.conds++conds)
noncomputable def goK (ih:RunTy) (c':Code) (κ:Kont):Rest:=match V.ok c' with
 | false=>fun _ _ _ _ _ _ _ _ _ _ _ _=>none
 | true=>match Nat.blt (dOf κ) 44 with
   | false=>fun _ _ _ _ _ _ _ _ _ _ _ _=>none
   | true=>goI V ρ ih c' κ
noncomputable def stepK (ih:RunTy):RunTy:=fun c en κ d t=>match t with
 | .pure fin=>match en with
   | true=>match fin with
     | .again c'=>match V.ok c' with
       | true=>enterK V ih c' κ d
       | false=>fun _ _ _ _ _ _ _ _ _ _ _ _=>none
     | .done _=>fun _ _ _ _ _ _ _ _ _ _ _ _=>none
   | false=>match κ with
     | .base=>fun T b o tk ti _ _ _ _ _ eqs conds=>some ⟨.inl fin,T,b+o,tk+ti,eqs,conds⟩
     | .ret c₀ d₀ k₀ κ₀=>match fin with
       | .done f=>ih c₀ false κ₀ d₀ (k₀ (.ok f))
       | .again c'=>goK V ρ ih c' (.ret c₀ d₀ k₀ κ₀)
     | .onr _ _ _ _ κ₀=>ih c false κ₀ d (.pure fin)
 | .raise e=>match en with
   | true=>fun _ _ _ _ _ _ _ _ _ _ _ _=>none
   | false=>match κ with
     | .base=>fun T b o tk ti _ _ _ _ _ eqs conds=>some ⟨.inr e,T,b+o,tk+ti,eqs,conds⟩
     | .ret c₀ d₀ k₀ κ₀=>ih c₀ false κ₀ d₀ (k₀ (.error e))
     | .onr c₀ d₀ env h κ₀=>noteK V ρ ih e c₀ d₀ env h κ₀
 | .rule _ k=>ih c en κ d (k ())
 | .at _ k=>ih c en κ d (k ())
 | .point _ k=>ih c en κ d (k ())
 | .ask k=>ih c en κ d (k ⟨V.prog,V.params⟩)
 | .fresh k=>fun T b o tk ti=>ih c en κ d (k (tk+ti)) T b o tk (ti+1)
 | .handled own k=>match own with
   | false=>ih c en κ d (k none)
   | true=>fun _ _ _ _ _ _ _ _ _ _ _ _=>none
 | .load a _ k=>fun T b o tk ti n sk ls cs cl eqs conds=>match sk with
   | sk+1=>match V.look a with
     | some x=>ih c en κ d (k x) T b o tk ti n sk ls cs cl eqs conds
     | none=>none
   | 0=>match ls with
     | []=>none
     | j::ls=>match T[j.1]? with
       | some x=>ih c en κ d (k x.2) T b o tk ti n j.2 ls cs cl ((.nat a,.nat x.1)::eqs) conds
       | none=>none
 | .loadIfAlive a k=>fun T b o tk ti n sk ls cs cl eqs conds=>match sk with
   | sk+1=>match V.look a with
     | some x=>ih c en κ d (k (some x)) T b o tk ti n sk ls cs cl eqs conds
     | none=>none
   | 0=>match ls with
     | []=>none
     | j::ls=>match T[j.1]? with
       | some x=>ih c en κ d (k (some x.2)) T b o tk ti n j.2 ls cs cl ((.nat a,.nat x.1)::eqs) conds
       | none=>none
 | .update a _ f k=>fun T b o tk ti n sk ls cs cl eqs conds=>match sk with
   | _+1=>none
   | 0=>match ls with
     | []=>none
     | j::ls=>match T[j.1]? with
       | some x=>match (f x.2).isFreed with
         | true=>none
         | false=>ih c en κ d (k ()) (T.set j.1 (x.1,f x.2)) b o tk ti n j.2 ls cs cl ((.nat a,.nat x.1)::eqs) conds
       | none=>none
 | .alloc x k=>fun T b o=>match x.isFreed with
   | true=>fun _ _ _ _ _ _ _ _ _=>none
   | false=>ih c en κ d (k (b+o)) ((b+o,x)::T) b (o+1)
 | .stack k=>match c with
   | none=>fun _ _ _ _ _ _ _ _ _ _ _ _=>none
   | some c₁=>fun T b o tk ti n=>ih c en κ d (k ((c₁,ρ.p n)::ρ.l n)) T b o tk ti (n+1)
 | .call c' hd _ _ k=>match en with
   | true=>fun _ _ _ _ _ _ _ _ _ _ _ _=>none
   | false=>match hd with
     | some _=>fun _ _ _ _ _ _ _ _ _ _ _ _=>none
     | none=>goK V ρ ih c' (.ret c d k κ)
 | _=>fun _ _ _ _ _ _ _ _ _ _ _ _=>none
noncomputable def run (n:Nat):RunTy:=Nat.rec (fun _ _ _ _ _ _ _ _ _ _ _ _ _ _ _ _ _=>none) (fun _ ih=>stepK V ρ ih) n
end
theorem run_succ (V:RV) (ρ:Unk) (n:Nat):run V ρ (n+1)=stepK V ρ (run V ρ n):=rfl
noncomputable def okIds:List String:=["proto.getattr_hooked","tuple_iterator.__next__","str.__eq__","tuple.__iter__","str.__len__","str.__contains__","str.__add__","int.__neg__","int.__ge__","int.__le__","str_ascii_iterator.__next__",
 "enumerate.__next__","len","object.__setattr__","list.__getitem__","str.__getitem__","int.__add__","generator.__next__","int.__lt__","list_iterator.__next__","object.__init__","type.__call__","list.__add__","int.__new__","int.__gt__",
 "property.__get__","list.append","int.__mod__","int.__eq__","int.__bool__","tuple.__contains__","int.__ne__","str.split","issubclass","str.replace","issubclass.nested","str.__ne__","str.startswith","int.__floordiv__","int.__pow__",
 "list.__iter__","str.endswith","proto.let_go","NoneType.__eq__","range_iterator.__next__","isinstance","object.__str__","str.__new__","int.__sub__","str.join","int.__repr__","int.__rmul__","str.__mul__","getset_descriptor.__get__",
 "collections.deque.__len__","object.__getattribute__","sum","proto.collect","enumerate.__iter__","type.__getattribute__","range.__iter__","range.__new__","collections.deque.__init__","collections.deque.__new__","object.__new__","str.__iter__",
 "enumerate.__new__","staticmethod.__get__","list.__ne__","generator.__iter__","list.__new__","list.__init__","list.__len__","list.count","type.__new__","tuple.__getitem__","int.__index__","re.Pattern.search","list.pop","str.__bool__","list.__bool__","type.__eq__","object.__eq__","NoneType.__ne__","object.__ne__","object.__hash__","str.__hash__","getattr","range.__len__","list.__eq__","proto.index","str.rfind","type.__class__","object.__class__","range_iterator.__iter__","list_iterator.__iter__","tuple_iterator.__iter__","dict_keyiterator.__iter__","str_iterator.__iter__","str_ascii_iterator.__iter__","sum.loop","list.extend","list.extend.loop","list.count.loop","list.__eq__.loop","list.__contains__.loop","proto.contains_iter","proto.is","proto.unchain","isinstance.nested","iter","list.__contains__","proto.getattr_quiet","proto.slot","tuple.__len__","list.__iadd__","list.__mul__","range_iterator.__length_hint__","str.join.loop","tuple.__new__","tuple.__bool__","dict.__bool__","collections.deque.__bool__","NoneType.__bool__","bool.__bool__","super.__getattribute__","function.__get__","method.__call__","wrapper_descriptor.__get__","method_descriptor.__get__","classmethod.__get__","object.__init_subclass__","ValueError.__new__","ValueError.__init__","StopIteration.__new__","StopIteration.__init__","Exception.__new__","Exception.__init__","BaseException.__init__","BaseException.__new__"]
noncomputable def okc:Code→Bool
 | .call ..=>true
 | .builtin id _=>okIds.any fun x=>Nat.beq (PySem.code x) (PySem.code id)
 | .func ..=>true
 | .forLoop ..=>true
 | .whileLoop ..=>true
 | .block ..=>true
 | .compStart ..=>true
 | .compLoop ..=>true
 | _=>false
@[irreducible] noncomputable def ktK (P:Params):X.KT:=X.KT.of (KL P)
@[irreducible] noncomputable def lookK (P:Params) (a:Nat):Option Obj:=(ktK P).get a
noncomputable abbrev fDen:Code→Sem Fin:=PySem.W.Fast.tw11892475500146522536 fTab
noncomputable abbrev fBind:=@PySem.W.Fast.tw9782568553167038054
noncomputable abbrev fEnv:=@PySem.W.Fast.tw11113344188204177931
noncomputable def callTF (a:Addr) (fd:FuncData) (args:Args):Sem Fin:=do
 let compiled ←match fd.code with
  | .none=>pure fd.qualname
  | c=>do match ←field c 1 with
    | .str q _=>pure q
    | _=>pure fd.qualname
 let env ←fEnv fd.scope fd.globals fd.closure (←fBind fd args) (compiled++".<locals>.") (some a) fd.code none fd.builtins
 again (match fd.body with | .stmts b=>.func b env | .expr e=>.expr e env)
noncomputable def VK (P:Params) (rules:Nat→Option ERule):RV:=⟨prog,P,fDen,lookK P,callTF,okc,rules,true,fun _=>none,none,fun _=>none⟩
noncomputable def VL (P:Params) (rules:Nat→Option ERule):RV:=⟨prog,P,fDen,lookK P,callTF,okc,rules,false,fun _=>none,none,fun _=>none⟩
noncomputable abbrev fExecs:=PySem.W.Fast.tw12563942051412417395
noncomputable abbrev fWhileTurn:=PySem.W.Fast.tw12362719219628433562
noncomputable abbrev fForTurn:=PySem.W.Fast.tw15207555903498437823
noncomputable abbrev fSetFlight:=PySem.W.Fast.tw5670386056902412789
noncomputable abbrev fTrees:=PySem.W.Fast.tw1623429502029203251
noncomputable def bodyT (body:List Stmt) (env:Env):Sem Fin:=.point [] fun _=>(fExecs body env).bind fun f=>.pure (.done (.ret (match f with | .ret v=>v | _=>.none)))
noncomputable def innF:Code→Option (Sem Fin×Env×(Value→Sem Fin))
 | .func body env=>some (bodyT body env,env,fun e=>(fSetFlight e none).bind fun _=>.raise e)
 | .whileLoop test body orelse env=>some (fWhileTurn test body orelse env,env,fun e=>(fTrees e).bind fun _=>.raise e)
 | _=>none
noncomputable def VR (P:Params) (rules:Nat→Option ERule) (rv:Nat→Option ERuleV) (fr:Option (List Env)):RV:=⟨prog,P,fDen,lookK P,callTF,okc,rules,true,innF,fr,rv⟩
noncomputable def callB (f:Addr) (args:List Value):Sem Fin:=.call (.call (.ref f) ⟨args,[]⟩) none false [] fun | .ok f=>.pure (.done f) | .error e=>.raise e
end
section
open Sem (wp)
noncomputable def callTree (a:Addr) (fd:FuncData) (args:Args):Sem Fin:=do
 let compiled ←match fd.code with
  | .none=>pure fd.qualname
  | c=>do match ←field c 1 with
    | .str q _=>pure q
    | _=>pure fd.qualname
 let env ←newFunctionEnv fd.scope fd.globals fd.closure (←bindArgs fd args) (compiled++".<locals>.") (some a) fd.code none fd.builtins
 again (match fd.body with | .stmts b=>.func b env | .expr e=>.expr e env)
noncomputable def ofEn:Bool→Sem Fin→Sem Fin
 | false,t=>t
 | true,t=>t.bind fun fin=>Sem.bind enterFrame fun _=>.pure fin
noncomputable def headT (cd:Value) (qn:Str) (k:Str→Sem Fin):Sem Fin:=match cd with
 | .none=>k qn
 | c=>Sem.bind (field c 1) fun v=>match v with
   | .str q _=>k q
   | _=>k qn
theorem headT_bind {cd:Value} {qn:Str} {k1 k2:Str→Sem Fin} {f:Fin→Sem Fin} (hk:∀ q,k1 q=(k2 q).bind f):headT cd qn k1=(headT cd qn k2).bind f:=by
 have e:k1=fun q=>(k2 q).bind f:=funext hk
 subst e
 cases cd <;> first
  | rfl
  | (show Sem.bind _ _=Sem.bind (Sem.bind _ _) _
     rw [Sem.bind_assoc]
     congr 1;funext v
     cases v <;> rfl)
theorem plainFn_scope {fd:FuncData} (h:plainFn fd=true):fd.scope.isGenerator=false∧fd.scope.isCoroutine=false:=by
 unfold plainFn at h
 revert h
 cases fd.scope.isGenerator <;> cases fd.scope.isCoroutine <;> simp
theorem callFunction_eq {a:Addr} {fd:FuncData} {args:Args} (h:plainFn fd=true):callFunction a fd args=ofEn true (callTree a fd args):=by
 obtain ⟨h1,h2⟩:=plainFn_scope h
 unfold callFunction
 simp only [h1,h2]
 exact headT_bind (cd:=fd.code) (qn:=fd.qualname) (k1:=fun q=>do
  let env ←newFunctionEnv fd.scope fd.globals fd.closure (←bindArgs fd args) (q++".<locals>.") (some a) fd.code none fd.builtins
  enterFrame
  again (match fd.body with | .stmts b=>.func b env | .expr e=>.expr e env))
  (k2:=fun q=>do
    let env ←newFunctionEnv fd.scope fd.globals fd.closure (←bindArgs fd args) (q++".<locals>.") (some a) fd.code none fd.builtins
    again (match fd.body with | .stmts b=>.func b env | .expr e=>.expr e env)) fun q=>by
  show Sem.bind _ _=Sem.bind (Sem.bind _ _) _
  rw [Sem.bind_assoc]
  congr 1;funext binds
  show Sem.bind _ _=Sem.bind (Sem.bind _ _) _
  rw [Sem.bind_assoc]
  rfl
noncomputable abbrev Fr:=Addr→Option Obj
noncomputable def GR (V:RV) (g g':Array GenState):Prop:=(V.keepG=true→g'=g)∧(AllBare g→AllBare g')
theorem GR.refl (V:RV) (g:Array GenState):GR V g g:=⟨fun _=>rfl,id⟩
theorem GR.trans {V:RV} {g g' g'':Array GenState} (a:GR V g g') (b:GR V g' g''):GR V g g'':=⟨fun k=>(b.1 k).trans (a.1 k),fun x=>b.2 (a.2 x)⟩
theorem GR.cast {V V':RV} {g g':Array GenState} (k:V'.keepG=true→V.keepG=true) (h:GR V g g'):GR V' g g':=⟨fun q=>h.1 (k q),h.2⟩
structure Rep (V:RV) (h₀:Fr) (h:Heap) (T:List Cell) (sz:Nat):Prop where
 size:h.objs.size=sz
 own:∀ (i:Nat) (c:Cell),T[i]? =some c→h.get? c.1=some c.2
 inj:∀ (i j:Nat) (c c':Cell),T[i]? =some c→T[j]? =some c'→c.1=c'.1→i=j
 stat:∀ a o,V.look a=some o→h.get? a=some o
 sep:∀ (i:Nat) (c:Cell),T[i]? =some c→V.look c.1=none
 frame:∀ b o,h₀ b=some o→h.get? b=some o
 fresh:∀ (i:Nat) (c:Cell),T[i]? =some c→h₀ c.1=none
theorem Rep.alloc {V:RV} {h₀:Fr} {h:Heap} {T:List Cell} {sz:Nat} (D:Rep V h₀ h T sz) {x:Obj} (hf:x.isFreed=false):Rep V h₀ (h.push x) ((sz,x)::T) (sz+1):=by
 refine ⟨by rw [Heap.size_push,D.size],?_,?_,fun a o e=>Heap.get?_push_of_some _ (D.stat a o e),?_,?_,?_⟩
 ·intro i c e
  cases i with
  | zero=>
    obtain rfl:(sz,x)=c:=by simpa using e
    show (h.push x).get? sz=some x
    rw [←D.size];exact Heap.get?_push_size _ hf
  | succ i=>exact Heap.get?_push_of_some _ (D.own i c (by simpa using e))
 ·intro i j c c' e e' q
  have lt:∀ (k:Nat) (d:Cell),T[k]? =some d→d.1 < sz:=fun k d z=>by
   rw [←D.size];exact Heap.lt_size (D.own k d z)
  cases i with
  | zero=>
    cases j with
    | zero=>rfl
    | succ j=>
      obtain rfl:(sz,x)=c:=by simpa using e
      have:=lt j c' (by simpa using e')
      exact absurd (show sz=c'.1 from q) (Nat.ne_of_gt this)
  | succ i=>
    cases j with
    | zero=>
      obtain rfl:(sz,x)=c':=by simpa using e'
      have:=lt i c (by simpa using e)
      exact absurd (show c.1=sz from q) (Nat.ne_of_lt this)
    | succ j=>rw [D.inj i j c c' (by simpa using e) (by simpa using e') q]
 ·intro i c e
  cases i with
  | zero=>
    obtain rfl:(sz,x)=c:=by simpa using e
    cases q:V.look sz with
    | none=>rfl
    | some o=>
      have:=Heap.lt_size (D.stat sz o q)
      rw [D.size] at this;exact absurd this (Nat.lt_irrefl _)
  | succ i=>exact D.sep i c (by simpa using e)
 ·intro b o e
  exact Heap.get?_push_of_some _ (D.frame b o e)
 ·intro i c e
  cases i with
  | zero=>
    obtain rfl:(sz,x)=c:=by simpa using e
    cases q:h₀ sz with
    | none=>rfl
    | some o=>
      have:=Heap.lt_size (D.frame sz o q)
      rw [D.size] at this;exact absurd this (Nat.lt_irrefl _)
  | succ i=>exact D.fresh i c (by simpa using e)
theorem Rep.update {V:RV} {h₀:Fr} {h:Heap} {T:List Cell} {sz:Nat} (D:Rep V h₀ h T sz) {j:Nat} {x:Cell} {f:Obj→Obj} (e:T[j]? =some x) (hf:(f x.2).isFreed=false):
 Rep V h₀ (h.update x.1 f) (T.set j (x.1,f x.2)) sz:=by
 have hs:Heap.SameBut x.1 h (h.update x.1 f):=Heap.SameBut.update ..
 have hj:j < T.length:=by
  rcases Nat.lt_or_ge j T.length with q | q
  ·exact q
  ·rw [List.getElem?_eq_none q] at e;cases e
 have look:∀ (i:Nat) (c:Cell),(T.set j (x.1,f x.2))[i]? =some c→(i=j∧c=(x.1,f x.2))∨(i≠j∧T[i]? =some c):=by
  intro i c q
  rw [List.getElem?_set] at q
  by_cases hi:j=i
  ·subst hi
   simp [hj] at q
   exact .inl ⟨rfl,q.symm⟩
  ·rw [if_neg hi] at q
   exact .inr ⟨Ne.symm hi,q⟩
 refine ⟨by rw [hs.1,D.size],?_,?_,?_,?_,?_,?_⟩
 ·intro i c q
  rcases look i c q with ⟨rfl,rfl⟩ | ⟨hi,q⟩
  ·exact Heap.get?_update_self f (D.own _ _ e) hf
  ·have ne:c.1≠x.1:=fun z=>hi (D.inj i j c x q e z)
   exact (hs.2 _ ne).trans (D.own i c q)
 ·intro i k c c' q q' z
  rcases look i c q with ⟨h1,h2⟩ | ⟨h1,h2⟩ <;> rcases look k c' q' with ⟨h3,h4⟩ | ⟨h3,h4⟩
  ·rw [h1,h3]
  ·rw [h1];exact D.inj _ _ x c' e h4 (by rw [←z,h2])
  ·rw [h3];exact D.inj _ _ c x h2 e (by rw [z,h4])
  ·exact D.inj _ _ c c' h2 h4 z
 ·intro a o q
  have ne:a≠x.1:=fun z=>by
   have:=D.sep j x e
   rw [←z,q] at this;cases this
  exact (hs.2 _ ne).trans (D.stat a o q)
 ·intro i c q
  rcases look i c q with ⟨rfl,rfl⟩ | ⟨hi,q⟩
  ·exact D.sep _ x e
  ·exact D.sep i c q
 ·intro b o q
  have ne:b≠x.1:=fun z=>by
   have:=D.fresh j x e
   rw [←z,q] at this;cases this
  exact (hs.2 _ ne).trans (D.frame b o q)
 ·intro i c q
  rcases look i c q with ⟨rfl,rfl⟩ | ⟨hi,q⟩
  ·exact D.fresh _ x e
  ·exact D.fresh i c q
inductive Cx where
 | any (A:Around)
 | own (A:Around) (c:Code)
noncomputable def Cx.sat:Cx→Ctx→Prop
 | .any A,Γ=>Γ.In A
 | .own A c,Γ=>Γ.code=c∧Γ.Below A
noncomputable def Cx.inA:Cx→Around
 | .any A=>A
 | .own A c=>A.under c
theorem Cx.sat_in {X:Cx} {Γ:Ctx} (h:X.sat Γ):Γ.In X.inA:=by
 cases X with
 | any A=>exact h
 | own A c=>exact h.1▸h.2.in
noncomputable def wpX {α:Type} (M:Model) (X:Cx) (t:Sem α) (Q:α→Shared→Prop) (E:Value→Shared→Prop) (s:Shared):Prop:=
 ∀ Γ p,X.sat Γ→wp M Γ t (fun a _ s'=>Q a s') (fun e _ s'=>E e s') p s
noncomputable def QC (M:Model) (A:Around) (R:Result→Shared→Prop):Fin→Shared→Prop:=fun fin s'=>match fin with
 | .done f=>R (.ok f) s'
 | .again c'=>c'.quiet=true∧codeAny M A c' R s'
noncomputable def QE (R:Result→Shared→Prop):Value→Shared→Prop:=fun e s'=>R (.error e) s'
theorem code_own {M:Model} {A:Around} {c:Code} {R:Result→Shared→Prop} {s:Shared} (h:wpX M (.own A c) (M.den c) (QC M A R) (QE R) s):codeAny M A c R s:=
 codeAny_of_own fun Γ p hc hΓ=>h Γ p ⟨hc,hΓ⟩
theorem wpX_call {α:Type} {M:Model} {X:Cx} {c':Code} {g:Bool} {l:List Value} {k:Result→Sem α} {Q:α→Shared→Prop} {E:Value→Shared→Prop} {s:Shared}
 (h:codeAny M (X.inA.mark none) c' (fun r s'=>wpX M X (k r) Q E s') s):wpX M X (.call c' none g l k) Q E s:=fun Γ p hΓ=>
 wpCode_mono (fun r s' q=>q Γ p hΓ) (h _ p rfl ((Cx.sat_in hΓ).enter c' none p (by intro x;cases x)))
theorem wpX_any {α:Type} {M:Model} {A:Around} {t:Sem α} {Q:α→Shared→Prop} {E:Value→Shared→Prop} {s:Shared} (h:wpX M (.any A) t Q E s):wpAny M A t Q E s:=fun Γ p hΓ=>h Γ p hΓ
noncomputable def XofA (A:Around):Option Code→Cx
 | none=>.any A
 | some c=>.own A c
noncomputable def Aof (A₀:Around):Kont→Around
 | .base=>A₀
 | .ret c _ _ κ=>(XofA (Aof A₀ κ) c).inA.mark none
 | .onr _ _ _ _ κ=>Aof A₀ κ
noncomputable def FrOk (fr:Option (List Env)) (A:Around):Prop:=∀ l,fr=some l→A.frames=some l
theorem FrOk.push {fr:Option (List Env)} {A:Around} (h:FrOk fr A) (es:List Env) (l:List Env) (e:pushE es fr=some l):pushEnvs es A.frames=some l:=by
 cases es with
 | nil=>exact h l e
 | cons a es=>
   cases fr with
   | none=>cases e
   | some y=>
     rw [h y rfl]
     exact e
theorem FrOk.aof {fr:Option (List Env)} {A₀:Around} (h:FrOk fr A₀):∀ κ,FrOk (frK fr κ) (Aof A₀ κ)
 | .base=>h
 | .ret c d k κ=>by
   have ih:=FrOk.aof h κ
   cases c with
   | none=>exact fun l e=>ih l e
   | some c=>exact fun l e=>ih.push c.envs l e
 | .onr c d env hh κ=>FrOk.aof h κ
section
variable (M:Model) (A₀:Around) (Q₀:Fin→Shared→Prop) (E₀:Value→Shared→Prop)
noncomputable def qe:Kont→(Fin→Shared→Prop)×(Value→Shared→Prop)
 | .base=>(Q₀,E₀)
 | .ret c _ k κ=>
   (QC M ((XofA (Aof A₀ κ) c).inA.mark none) (fun r s=>wpX M (XofA (Aof A₀ κ) c) (k r) (qe κ).1 (qe κ).2 s),QE (fun r s=>wpX M (XofA (Aof A₀ κ) c) (k r) (qe κ).1 (qe κ).2 s))
 | .onr c _ env h κ=>((qe κ).1,fun e s=>wpX M (.own (Aof A₀ κ) c) (Sem.bind (noteFrame e env) fun _=>h e) (qe κ).1 (qe κ).2 s)
noncomputable def QK (κ:Kont):Fin→Shared→Prop:=(qe M A₀ Q₀ E₀ κ).1
noncomputable def EK (κ:Kont):Value→Shared→Prop:=(qe M A₀ Q₀ E₀ κ).2
noncomputable def endK:Kont→Result→Shared→Prop
 | .ret c _ k κ=>fun r s=>wpX M (XofA (Aof A₀ κ) c) (k r) (QK M A₀ Q₀ E₀ κ) (EK M A₀ Q₀ E₀ κ) s
 | _=>fun _ _=>False
theorem endK_ret (c:Option Code) (d:Nat) (k:Result→Sem Fin) (κ:Kont) (r:Result) (s:Shared):endK M A₀ Q₀ E₀ (.ret c d k κ) r s=wpX M (XofA (Aof A₀ κ) c) (k r) (QK M A₀ Q₀ E₀ κ) (EK M A₀ Q₀ E₀ κ) s:=rfl
end
noncomputable def InvK (B:Nat) (A₀:Around):Kont→Prop
 | .base=>A₀.depth≤B∧A₀.handled=none
 | .ret c d _ κ=>InvK B A₀ κ∧(XofA (Aof A₀ κ) c).inA.depth≤B+d
 | .onr c d _ _ κ=>InvK B A₀ κ∧(XofA (Aof A₀ κ) (some c)).inA.depth≤B+d
theorem InvK.depth {B:Nat} {A₀:Around}:∀ {κ:Kont},InvK B A₀ κ→(Aof A₀ κ).depth≤B+dOf κ
 | .base,h=>h.1
 | .ret ..,h=>h.2
 | .onr c d env hh κ,h=>Nat.le_trans (Nat.le_add_right _ _) h.2
theorem InvK.handled {B:Nat} {A₀:Around}:∀ {κ:Kont},InvK B A₀ κ→(Aof A₀ κ).handled=none
 | .base,h=>h.2
 | .ret c d k κ,h=>by
   have ih:=InvK.handled h.1
   show ((XofA (Aof A₀ κ) c).inA.mark none).handled=none
   cases c with
   | none=>simpa [XofA,Cx.inA,Around.mark] using ih
   | some c=>simpa [XofA,Cx.inA,Around.mark,Around.under] using ih
 | .onr c d env hh κ,h=>by
   show (Aof A₀ κ).handled=none
   exact InvK.handled h.1
theorem inA_handled {A:Around} (h:A.handled=none) (c:Option Code):(XofA A c).inA.handled=none:=by
 cases c with
 | none=>exact h
 | some c=>simpa [XofA,Cx.inA,Around.under] using h
noncomputable def InnOk (V:RV) (prog:Program) (w:World):Prop:=∀ c r,V.inn c=some r→∀ (X:Cx) (Q:Fin→Shared→Prop) (E:Value→Shared→Prop) (s:Shared),
 wpX (model prog w) X r.1 Q (fun e s'=>wpX (model prog w) X (Sem.bind (noteFrame e r.2.1) fun _=>r.2.2 e) Q E s') s→wpX (model prog w) X (denote table c) Q E s
structure VOk (V:RV) (prog:Program) (w:World):Prop where
 inn:InnOk V prog w
 prog:V.prog=prog
 params:V.params=w.params
 den:V.den=denote table
 okc:∀ c,V.ok c=true→c.quiet=true∧c.weight≤4
 callT:∀ a fd args,V.callT a fd args=callTree a fd args
 nolimit:∀ h:Heap,(∀ a o,V.look a=some o→h.get? a=some o)→h.NoLimit
noncomputable def RuleOk (B:Nat) (V:RV) (prog:Program) (w:World) (R:ERule):Prop:=
 ∀ (F:Option (List Env)) (js:List Nat) (c:Code) (T:List Cell) (eo:EOut),R F js c T=some eo→(∀ e∈eo.eqs,e.1=e.2)→(∀ p∈eo.conds,p)→
  ∀ (A:Around) (h₀:Fr) (h:Heap) (sz:Nat) (g:Array GenState) (dr:Drawn) (tok:Nat) (os:OsState),FrOk F A→A.handled=none→A.depth≤B→Rep V h₀ h T sz→913≤sz→
   codeAny (model prog w) A c (fun r s'=>∃ b t u g',(eo.post b t u).1=r∧Rep V h₀ s'.heap (eo.post b t u).2 (b+900)∧13≤b∧GR V g g'∧s'=⟨s'.heap,g',dr,t,os⟩) ⟨h,g,dr,tok,os⟩
noncomputable def RuleVOk (B:Nat) (V:RV) (prog:Program) (w:World) (R:ERuleV):Prop:=
 ∀ (F:Option (List Env)) (js:List Nat) (c:Code) (T:List Cell) (eo:EOutV),R F js c T=some eo→(∀ e∈eo.eqs,e.1=e.2)→(∀ p∈eo.conds,p)→
  ∀ (A:Around) (h₀:Fr) (h:Heap) (sz:Nat) (g:Array GenState) (dr:Drawn) (tok:Nat) (os:OsState),FrOk F A→A.handled=none→A.depth≤B→Rep V h₀ h T sz→913≤sz→
   codeAny (model prog w) A c (fun r s'=>∃ b t u v g',(eo.post b t u v).1=r∧Rep V h₀ s'.heap (eo.post b t u v).2 (b+900)∧13≤b∧GR V g g'∧s'=⟨s'.heap,g',dr,t,os⟩) ⟨h,g,dr,tok,os⟩
noncomputable def Agree (k:Nat) (ρ σ:Unk):Prop:=∀ i,i < k→ρ.b i=σ.b i∧ρ.t i=σ.t i∧ρ.u i=σ.u i∧ρ.p i=σ.p i∧ρ.l i=σ.l i∧ρ.v i=σ.v i
noncomputable def RMono (r:Rest):Prop:=∀ T b o tk ti k sk ls cs cl eqs conds out,r T b o tk ti k sk ls cs cl eqs conds=some out→(∀ e∈eqs,e∈out.eqs)∧(∀ p∈conds,p∈out.conds)
noncomputable def Mono (ih:RunTy):Prop:=∀ c en κ d t,RMono (ih c en κ d t)
theorem rmono_none:RMono (fun _ _ _ _ _ _ _ _ _ _ _ _=>none):=fun _ _ _ _ _ _ _ _ _ _ _ _ _ h=>by cases h
section
variable {V:RV} {ρ:Unk} {ih:RunTy} (I:Mono ih)
include I
theorem retK_mono (r:Result) (κ:Kont):RMono (retK ih r κ):=by
 cases κ with
 | base=>exact rmono_none
 | ret c d k κ=>exact I _ _ _ _ _
 | onr c d env h κ=>exact rmono_none
theorem enterK_mono (c':Code) (κ:Kont) (d:Nat):RMono (enterK V ih c' κ d):=by
 unfold enterK
 cases V.inn c' with
 | none=>exact I _ _ _ _ _
 | some r=>exact I _ _ _ _ _
theorem noteK_mono (e:Value) (c:Code) (d:Nat) (env:Env) (hh:Value→Sem Fin) (κ:Kont):RMono (noteK V ρ ih e c d env hh κ):=by
 intro T b o tk ti k sk ls cs cl eqs conds out h
 unfold noteK at h
 split at h
 ·cases h
 ·split at h
  ·cases h
  ·split at h
   ·split at h
    ·cases h
    ·split at h
     ·have z:=I _ _ _ _ _ _ _ _ _ _ _ _ _ _ _ _ _ _ h
      exact ⟨fun e he=>z.1 e (List.mem_append_right _ he),z.2⟩
     ·have z:=I _ _ _ _ _ _ _ _ _ _ _ _ _ _ _ _ _ _ h
      exact ⟨fun e he=>z.1 e (List.mem_append_right _ he),z.2⟩
   ·cases h
theorem autoK_mono (c':Code) (κ:Kont):RMono (autoK V ih c' κ):=by
 unfold autoK
 cases callFd V c' with
 | none=>exact enterK_mono I _ _ _
 | some p=>
   dsimp only
   cases plainFn p.2.1 with
   | true=>exact I _ _ _ _ _
   | false=>exact rmono_none
theorem goI_mono (c':Code) (κ:Kont):RMono (goI V ρ ih c' κ):=by
 intro T b o tk ti k sk ls cs cl eqs conds out h
 cases cs with
 | succ cs=>exact autoK_mono I _ _ _ _ _ _ _ _ _ _ _ _ _ _ _ h
 | zero=>
   cases cl with
   | nil=>exact autoK_mono I _ _ _ _ _ _ _ _ _ _ _ _ _ _ _ h
   | cons e cl=>
     unfold goI at h
     dsimp only at h
     cases he:e.1 with
     | den=>rw [he] at h;exact enterK_mono I _ _ _ _ _ _ _ _ _ _ _ _ _ _ _ _ h
     | note m js=>rw [he] at h;cases h
     | eff i js=>
       rw [he] at h
       dsimp only at h
       cases hr:ruleV V i with
       | none=>rw [hr] at h;cases h
       | some R=>
         rw [hr] at h
         dsimp only at h
         cases ho:R (frK V.fr κ) js c' T with
         | none=>rw [ho] at h;cases h
         | some eo=>
           rw [ho] at h
           have z:=retK_mono I _ _ _ _ _ _ _ _ _ _ _ _ _ _ _ h
           exact ⟨fun e he=>z.1 e (List.mem_append_right _ he),fun p hp=>z.2 p (List.mem_append_right _ hp)⟩
theorem goK_mono (c':Code) (κ:Kont):RMono (goK V ρ ih c' κ):=by
 unfold goK
 cases V.ok c' with
 | false=>exact rmono_none
 | true=>
   dsimp only
   cases Nat.blt (dOf κ) 44 with
   | false=>exact rmono_none
   | true=>exact goI_mono I _ _
theorem stepK_mono:Mono (stepK V ρ ih):=by
 intro c en κ d t T b o tk ti k sk ls cs cl eqs conds out h
 cases t with
 | pure fin=>
   cases en with
   | true=>
     cases fin with
     | done f=>cases h
     | again c'=>
       unfold stepK at h;dsimp only at h
       cases hok:V.ok c' with
       | false=>rw [hok] at h;cases h
       | true=>rw [hok] at h;exact enterK_mono I _ _ _ _ _ _ _ _ _ _ _ _ _ _ _ _ h
   | false=>
     cases κ with
     | base=>cases h;exact ⟨fun _ x=>x,fun _ x=>x⟩
     | ret c₀ d₀ k₀ κ₀=>
       cases fin with
       | done f=>exact I _ _ _ _ _ _ _ _ _ _ _ _ _ _ _ _ _ _ h
       | again c'=>exact goK_mono I _ _ _ _ _ _ _ _ _ _ _ _ _ _ _ h
     | onr c₀ d₀ env hh κ₀=>exact I _ _ _ _ _ _ _ _ _ _ _ _ _ _ _ _ _ _ h
 | raise e=>
   cases en with
   | true=>cases h
   | false=>
     cases κ with
     | base=>cases h;exact ⟨fun _ x=>x,fun _ x=>x⟩
     | ret c₀ d₀ k₀ κ₀=>exact I _ _ _ _ _ _ _ _ _ _ _ _ _ _ _ _ _ _ h
     | onr c₀ d₀ env hh κ₀=>exact noteK_mono I _ _ _ _ _ _ _ _ _ _ _ _ _ _ _ _ _ _ _ h
 | rule tag k=>exact I _ _ _ _ _ _ _ _ _ _ _ _ _ _ _ _ _ _ h
 | «at» q k=>exact I _ _ _ _ _ _ _ _ _ _ _ _ _ _ _ _ _ _ h
 | point l k=>exact I _ _ _ _ _ _ _ _ _ _ _ _ _ _ _ _ _ _ h
 | ask k=>exact I _ _ _ _ _ _ _ _ _ _ _ _ _ _ _ _ _ _ h
 | fresh k=>exact I _ _ _ _ _ _ _ _ _ _ _ _ _ _ _ _ _ _ h
 | handled own k=>
   cases own with
   | false=>exact I _ _ _ _ _ _ _ _ _ _ _ _ _ _ _ _ _ _ h
   | true=>cases h
 | load a q k=>
   unfold stepK at h;dsimp only at h
   split at h
   ·split at h
    ·exact I _ _ _ _ _ _ _ _ _ _ _ _ _ _ _ _ _ _ h
    ·cases h
   ·split at h
    ·cases h
    ·split at h
     ·have z:=I _ _ _ _ _ _ _ _ _ _ _ _ _ _ _ _ _ _ h
      exact ⟨fun e he=>z.1 e (List.mem_cons_of_mem _ he),z.2⟩
     ·cases h
 | loadIfAlive a k=>
   unfold stepK at h;dsimp only at h
   split at h
   ·split at h
    ·exact I _ _ _ _ _ _ _ _ _ _ _ _ _ _ _ _ _ _ h
    ·cases h
   ·split at h
    ·cases h
    ·split at h
     ·have z:=I _ _ _ _ _ _ _ _ _ _ _ _ _ _ _ _ _ _ h
      exact ⟨fun e he=>z.1 e (List.mem_cons_of_mem _ he),z.2⟩
     ·cases h
 | update a q f k=>
   unfold stepK at h;dsimp only at h
   split at h
   ·cases h
   ·split at h
    ·cases h
    ·split at h
     ·rename_i x _
      cases hfr:(f x.2).isFreed with
      | true=>rw [hfr] at h;cases h
      | false=>
        rw [hfr] at h
        have z:=I _ _ _ _ _ _ _ _ _ _ _ _ _ _ _ _ _ _ h
        exact ⟨fun e he=>z.1 e (List.mem_cons_of_mem _ he),z.2⟩
     ·cases h
 | alloc x k=>
   unfold stepK at h;dsimp only at h
   cases hfr:x.isFreed with
   | true=>rw [hfr] at h;cases h
   | false=>
     rw [hfr] at h
     exact I _ _ _ _ _ _ _ _ _ _ _ _ _ _ _ _ _ _ h
 | stack k=>
   cases c with
   | none=>cases h
   | some c=>exact I _ _ _ _ _ _ _ _ _ _ _ _ _ _ _ _ _ _ h
 | call c' hd g l k=>
   cases en with
   | true=>cases h
   | false=>
     cases hd with
     | some _=>cases h
     | none=>exact goK_mono I _ _ _ _ _ _ _ _ _ _ _ _ _ _ _ h
 | unsupported=>cases h
 | finish=>cases h
 | register=>cases h
 | choose=>cases h
 | os=>cases h
 | newGen=>cases h
 | genState=>cases h
 | resume=>cases h
 | yield=>cases h
 | fork=>cases h
 | thread=>cases h
 | await=>cases h
end
theorem run_mono (V:RV) (ρ:Unk):∀ n,Mono (run V ρ n)
 | 0=>fun _ _ _ _ _ _ _ _ _ _ _ _ _ _ _ _ _ _ h=>by cases h
 | n+1=>stepK_mono (run_mono V ρ n)
theorem keptBack_nil2 {M:Model} {A:Around} {E:Value→Shared→Prop} {s:Shared} {env:Env} {Q:Value→Shared→Prop} (h1:Q .none s) (h2:Q .notImplemented s):wpAny M A (keptBack env false []) Q E s:=by
 simp only [keptBack]
 split
 ·exact wpAny_pure h1
 ·exact wpAny_bind (wpAny_underTheClaimsCaller fun b=>wpAny_pure (by cases b <;> assumption))
section
variable {V:RV} {h₀:Fr} {g:Array GenState} {dr:Drawn} {tok:Nat} {os:OsState} {M:Model} {A:Around} {E:Value→Shared→Prop}
theorem plainEnv_spec {env:Env} (h:plainEnv env=true):env.scope.kind≠.module∧env.scope.isGenerator=false∧env.scope.isCoroutine=false:=by
 unfold plainEnv at h
 refine ⟨?_,?_,?_⟩
 ·intro e;rw [e] at h;cases h
 ·revert h;cases env.scope.kind <;> cases env.scope.isGenerator <;> simp
 ·revert h;cases env.scope.kind <;> cases env.scope.isGenerator <;> cases env.scope.isCoroutine <;> simp
theorem readyO_freed {env:Env} {b:Value} {o:Obj} (h:o.isFreed=false):(readyO env b o).isFreed=false:=by
 obtain ⟨c,d,dt,sl⟩:=o
 cases dt <;> first | rfl | exact h
theorem ready_wp:∀ (l:List Env) (js:List Nat) (T:List Cell) (h:Heap) (sz:Nat) {Q:Unit→Shared→Prop},Rep V h₀ h T sz→(∀ vb,∃ r,readyT (vbN vb) l js T=some r∧∀ e∈r.2,e.1=e.2)→
 (∀ vb r h',readyT (vbN vb) l js T=some r→Rep V h₀ h' r.1 sz→Q () ⟨h',g,dr,tok,os⟩)→wpAny M A (readyFrames l) Q E ⟨h,g,dr,tok,os⟩
 | [],js,T,h,sz,Q,D,H,hq=>by
   simp only [readyFrames]
   exact wpAny_pure (hq .none (T,[]) h rfl D)
 | env::outer,js,T,h,sz,Q,D,H,hq=>by
   cases hf:env.frame with
   | none=>obtain ⟨r,h1,_⟩:=H .none;simp [readyT,hf] at h1
   | some f=>
     cases js with
     | nil=>obtain ⟨r,h1,_⟩:=H .none;simp [readyT,hf] at h1
     | cons j js=>
       cases hT:T[j]? with
       | none=>obtain ⟨r,h1,_⟩:=H .none;simp [readyT,hf,hT] at h1
       | some z=>
         cases hsl:z.2.slots.getD 3 none with
         | some v3=>
           have hr:∀ vb,readyT vb (env::outer) (j::js) T=some (T,[(.nat f,.nat z.1)]):=fun vb=>by simp only [readyT,hf,hT,hsl]
           obtain ⟨r,h1,h2⟩:=H .none
           rw [hr] at h1
           obtain rfl:=Option.some.inj h1
           obtain rfl:f=z.1:=Side.nat.inj (h2 _ (.head _))
           simp only [readyFrames,hf]
           refine wpAny_bind (wpAny_load (D.own _ _ hT) ?_)
           rw [if_pos (by rw [hsl];rfl)]
           exact wpAny_pure (hq .none _ h (hr _) D)
         | none=>
           cases hp:plainEnv env with
           | false=>obtain ⟨r,h1,_⟩:=H .none;simp [readyT,hf,hT,hsl,hp] at h1
           | true=>
             cases hfr:z.2.isFreed with
             | true=>obtain ⟨r,h1,_⟩:=H .none;simp [readyT,hf,hT,hsl,hp,hfr] at h1
             | false=>
               obtain ⟨p1,p2,p3⟩:=plainEnv_spec hp
               have hr:∀ vb,readyT vb (env::outer) (j::js) T=(match readyT vb outer js (T.set j (z.1,readyO env (backV vb outer) z.2)) with
                | none=>none
                | some r=>some (r.1,(.nat f,.nat z.1)::r.2)):=fun vb=>by
                simp only [readyT,hf,hT,hsl,hp,hfr]
                all_goals (cases readyT vb outer js (T.set j (z.1,readyO env (backV vb outer) z.2)) <;> rfl)
               have hea:f=z.1:=by
                obtain ⟨r,h1,h2⟩:=H .none
                rw [hr] at h1
                split at h1
                ·cases h1
                ·cases h1;exact Side.nat.inj (h2 _ (.head _))
               subst hea
               simp only [readyFrames,hf]
               refine wpAny_bind (wpAny_load (D.own _ _ hT) ?_)
               rw [if_neg (by rw [hsl];decide)]
               refine wpAny_bind (wpAny_of_eq (a:=false) (by simp [behindIsImport,p1]) ?_)
               have step:∀ vx vb,vbN vx=vb→wpAny M A (do
                update z.1 fun o=>{ o with slots:=#[some env.code,some (.ref env.globals),o.slots.getD 2 none,some (backV vb outer),o.slots.getD 4 none,env.func.map Value.ref,some (.ref env.builtins)]++(env.cells.map fun c=>some (.ref c.2)).toArray }
                readyFrames outer) Q E ⟨h,g,dr,tok,os⟩:=by
                rintro vx vb rfl
                have D2:=D.update (f:=readyO env (backV (vbN vx) outer)) hT (readyO_freed hfr)
                refine wpAny_bind (wpAny_update (D.own _ _ hT) ?_)
                cases outer with
                | nil=>
                  simp only [readyFrames]
                  refine wpAny_pure (hq vx (T.set j (z.1,readyO env (backV (vbN vx) []) z.2),[(.nat z.1,.nat z.1)]) _ ?_ D2)
                  rw [hr];rfl
                | cons e2 outer=>
                  refine ready_wp (e2::outer) js _ _ sz D2 (fun vb'=>?_) fun vb' r h' hr' D'=>?_
                  ·obtain ⟨r,h1,h2⟩:=H vb'
                   rw [hr] at h1
                   split at h1
                   ·cases h1
                   ·rename_i r' hr'
                    cases h1
                    exact ⟨r',hr',fun e he=>h2 e (.tail _ he)⟩
                  ·refine hq vb' (r.1,(.nat z.1,.nat z.1)::r.2) h' ?_ D'
                   rw [hr]
                   show (match readyT (vbN vb') (e2::outer) js (T.set j (z.1,readyO env (backV (vbN vx) (e2::outer)) z.2)) with | none=>none | some r=>_)=_
                   rw [hr']
               cases outer with
               | nil=>exact wpAny_bind (keptBack_nil2 (step .none _ rfl) (step .notImplemented _ rfl))
               | cons e2 outer=>
                 refine wpAny_bind (m:=keptBack env false (e2::outer)) (wpAny_of_eq (a:=backV .none (e2::outer)) ?_ (step .none _ rfl))
                 simp only [keptBack,p2,p3,backV]
                 cases e2.frame <;> rfl
theorem ofE {α:Type} {x:Option α} {P:α→Prop} (h:x.elim True P) {a:α} (e:x=some a):P a:=by rw [e] at h;exact h
theorem fieldsN_all (d:Data):(match d with | .fields vs=>some vs.toList | _=>none:Option (List Value)).elim True fun l=>d= .fields l.toArray:=by cases d <;> first | exact rfl | exact trivial
theorem fieldsN_spec {o:Obj} {l:List Value} (h:fieldsN o=some l):o.data= .fields l.toArray:=ofE (fieldsN_all o.data) h
noncomputable def sixV (a b c d e f:Value) (vb:Value):Nat→Value
 | 0=>a
 | 1=>b
 | 2=>c
 | 3=>d
 | 4=>e
 | 5=>f
 | _=>vb
theorem bndE {α β:Type} {x:Option α} {f:α→Option β} {b:β} (h:x.bind f=some b):∃ a,x=some a∧f a=some b:=Option.bind_eq_some_iff.mp h
theorem bndO {α β:Type} {x:Option α} {a:α} (h:x=some a) (f:α→Option β):x.bind f=f a:=by rw [h];rfl
theorem noneV_all (v:Value):(noneV v).elim True fun _=>v= .none:=by cases v <;> first | exact rfl | exact trivial
theorem noneV_spec {v:Value} {u:Unit} (h:noneV v=some u):v= .none:=ofE (P:=fun _=>v= .none) (noneV_all v) h
theorem uncL_spec {α:Type} {l l':List α} {a:α} (h:uncL l=some (a,l')):l=a::l':=by
 cases l with
 | nil=>cases h
 | cons a l=>cases h;rfl
theorem entryT_inv {env':Env} {outer:List Env} {e head:Value} {f:Nat} {v:Nat→Value} {je:Nat} {js:List Nat} {T:List Cell} {a:Nat} {es:List (Side×Side)} {r:List Cell×Bool×List (Side×Side)} (h:entryT env' outer e head f v je js T a es=some r):
 ∃ r0 x vs y,readyT (vbN (v 6)) (env'::outer) js T=some r0∧r0.1[je]? =some x∧fieldsN x.2=some vs∧vs[1]? =some y∧((a,tbO head f v)::r0.1.set je (x.1,Obj.mapFields (·.setIfInBounds 1 (.ref a)) x.2),true,(.val e,.val (.ref x.1))::es++r0.2)=r:=by
 obtain ⟨r0,h0,h⟩:=bndE h
 obtain ⟨x,h1,h⟩:=bndE h
 obtain ⟨vs,h2,h⟩:=bndE h
 obtain ⟨y,h3,h⟩:=bndE h
 exact ⟨r0,x,vs,y,h0,h1,h2,h3,Option.some.inj h⟩
theorem at_lt {vs:List Value} {i:Nat} {y:Value} (h:vs[i]? =some y):i < vs.toArray.size:=(List.getElem?_eq_some_iff.mp h).1
theorem at_arr {vs:List Value} {i:Nat} {y:Value} (h:vs[i]? =some y):vs.toArray[i]? =some y:=List.getElem?_toArray.trans h
theorem entry_wp {env env':Env} {outer:List Env} {e head:Value} {f:Nat} {je:Nat} {js:List Nat} {T:List Cell} {h:Heap} {sz:Nat} {es:List (Side×Side)} {hn:Bool} {Q:Unit→Shared→Prop}
 (hfr:A.frames=some (env'::outer)) (hf:env.frame=some f) (hf':env'.frame=some f) (D:Rep V h₀ h T sz)
 (H:∀ v,∃ r,entryT env' outer e head f v je js T sz es=some r∧∀ q∈r.2.2,q.1=q.2)
 (hq:∀ v r h',entryT env' outer e head f v je js T sz es=some r→Rep V h₀ h' r.1 (sz+1)→Q () ⟨h',g,dr,tok,os⟩):
 wpAny M A (do let a ←PySem.frameOf env;let pl ←entryPlaceOf f hn;let b ←EntryCells.newEntry head a .none (rawInt f) .none pl;setField e 1 b) Q E ⟨h,g,dr,tok,os⟩:=by
 unfold PySem.frameOf
 refine wpAny_bind (wpAny_bind (wpAny_frameEnvs hfr ?_))
 have hdw:((env'::outer).dropWhile fun x=>x.frame != env.frame)=env'::outer:=by
  rw [List.dropWhile_cons,if_neg]
  simp [hf,hf']
 rw [hdw]
 unfold frameObject
 have Hr:∀ vb,∃ r,readyT (vbN vb) (env'::outer) js T=some r∧∀ q∈r.2,q.1=q.2:=by
  intro vb
  obtain ⟨r,h1,h2⟩:=H fun _=>vb
  obtain ⟨r0,x,vs,y,k, -, -, -,rfl⟩:=entryT_inv h1
  exact ⟨r0,k,fun q hq=>h2 q (List.mem_append_right _ hq)⟩
 refine wpAny_bind (wpAny_bind (ready_wp _ js T h sz D Hr fun vb r h' hr D'=>wpAny_pure ?_))
 rw [hf']
 refine wpAny_pure (wpAny_bind (wpAny_entryPlaceOf fun pl hpl=>?_))
 obtain ⟨a,b,c,d,e5,f5,hsix⟩:∃ a b c d e5 f5,(if pl.isEmpty then List.replicate 6 Value.none else pl)=[a,b,c,d,e5,f5]:=by
  rcases hpl with rfl | ⟨a,b,c,d,c9,b10,_,rfl⟩
  ·exact ⟨_,_,_,_,_,_,rfl⟩
  ·exact ⟨_,_,_,_,_,_,rfl⟩
 unfold EntryCells.newEntry newFields
 refine wpAny_bind (wpAny_newObj_type ?_ (hpl.sizeOk5 _ _ _ _ _))
 rw [hsix]
 obtain ⟨r2,h1,h2⟩:=H (sixV a b c d e5 f5 vb)
 obtain ⟨r',x,vs,y,b0,hx,hvs,hy,e0⟩:=entryT_inv h1
 obtain rfl:r=r':=Option.some.inj (hr.symm.trans b0)
 subst e0
 obtain rfl:e= .ref x.1:=Side.val.inj (h2 _ (.head _))
 have hd:=fieldsN_spec hvs
 have D2:=D'.alloc (x:=tbO head f (sixV a b c d e5 f5 vb)) rfl
 have hx2:((sz,tbO head f (sixV a b c d e5 f5 vb))::r.1)[je+1]? =some x:=hx
 have D3:=D2.update (f:=Obj.mapFields (·.setIfInBounds 1 (.ref sz))) hx2 (Obj.isFreed_of_fields (Obj.data_mapFields hd _))
 have ho:=D2.own _ _ hx2
 have e1:h'.objs.size=sz:=D'.size
 show wpAny M A (setField (.ref x.1) 1 (.ref h'.objs.size)) Q E ⟨h'.push _,g,dr,tok,os⟩
 rw [e1]
 exact wpAny_setField ho hd (at_lt hy) (hq _ _ _ h1 D3)
noncomputable def NoteInv (F:Option (List Env)) (env:Env) (e:Value) (m:Nat) (js:List Nat) (T:List Cell) (a:Nat):Prop:=
 ∃ (f f':Nat) (env':Env) (outer:List Env) (je:Nat) (x:Cell) (vs:List Value),env.frame=some f∧F=some (env'::outer)∧env'.frame=some f'∧T[je]? =some x∧fieldsN x.2=some vs∧e= .ref x.1∧
  ((vs[1]? =some .none∧f=f'∧∃ (je:Nat) (js':List Nat) (es:List (Side×Side)),∀ v,noteT F env e m js v T a=entryT env' outer (.ref x.1) .none f v je js' T a es)∨
    ∃ (jh:Nat) (y:Cell) (ws:List Value),T[jh]? =some y∧fieldsN y.2=some ws∧vs[1]? =some (.ref y.1)∧
     ((ws[3]? =some (rawInt f)∧∃ es,∀ v,noteT F env e m js v T a=some (T,false,es))∨
       (ws[3]? =some .none∧f=f'∧∃ (je:Nat) (js':List Nat) (es:List (Side×Side)),∀ v,noteT F env e m js v T a=entryT env' outer (.ref x.1) (.ref y.1) f v je js' (T.set jh (y.1,Obj.mapFields (·.setIfInBounds 3 .none) y.2)) a es)))
structure NoteA (F:Option (List Env)) (env:Env) (e:Value) (m:Nat) (js:List Nat) (T:List Cell) (a:Nat) (v0:Nat→Value) (r0:Option (List Cell×Bool×List (Side×Side))) (f f':Nat) (env':Env) (outer:List Env) (je:Nat) (js1:List Nat) (x:Cell) (vs:List Value) (head:Value):Prop where
 hf:env.frame=some f
 hF:F=some (env'::outer)
 hf':env'.frame=some f'
 hT:T[je]? =some x
 hv:fieldsN x.2=some vs
 hh:vs[1]? =some head
 k:noteM m e head f f' (env',outer) (je,js1) x v0 T a=r0
 hN:∀ v,noteT F env e m js v T a=noteM m e head f f' (env',outer) (je,js1) x v T a
theorem noteT_a {F:Option (List Env)} {env:Env} {e:Value} {m:Nat} {js:List Nat} {v0:Nat→Value} {T:List Cell} {a:Nat} {r0:List Cell×Bool×List (Side×Side)} (k0:noteT F env e m js v0 T a=some r0):
 ∃ f f' env' outer je js1 x vs head,NoteA F env e m js T a v0 (some r0) f f' env' outer je js1 x vs head:=by
 obtain ⟨f,hf,k1⟩:=bndE k0
 obtain ⟨F',hF',k2⟩:=bndE k1
 obtain ⟨⟨env',outer⟩,hu,k3⟩:=bndE k2
 obtain ⟨f',hf',k4⟩:=bndE k3
 obtain ⟨⟨je,js1⟩,hu1,k5⟩:=bndE k4
 obtain ⟨x,hT,k6⟩:=bndE k5
 obtain ⟨vs,hv,k7⟩:=bndE k6
 obtain ⟨head,hh,h0⟩:=bndE k7
 exact ⟨f,f',env',outer,je,js1,x,vs,head,hf,hF'.trans (congrArg some (uncL_spec hu)),hf',hT,hv,hh,h0,fun v=>(bndO hf _).trans ((bndO hF' _).trans ((bndO hu _).trans ((bndO hf' _).trans ((bndO hu1 _).trans ((bndO hT _).trans ((bndO hv _).trans (bndO hh _)))))))⟩
structure NoteB (m:Nat) (e head:Value) (f f':Nat) (E:Env×List Env) (je:Nat) (js1:List Nat) (x:Cell) (T:List Cell) (a:Nat) (v0:Nat→Value) (r0:Option (List Cell×Bool×List (Side×Side))) (K:Nat×List Nat) (y:Cell) (ws:List Value) (w3:Value):Prop where
 hT:T[K.1]? =some y
 hw:fieldsN y.2=some ws
 h3:ws[3]? =some w3
 k:noteS m e head w3 f f' E je K x y v0 T a=r0
 hN:∀ v,noteM (m+1) e head f f' E (je,js1) x v T a=noteS m e head w3 f f' E je K x y v T a
theorem noteM_b {m:Nat} {e head:Value} {f f':Nat} {E:Env×List Env} {je:Nat} {js1:List Nat} {x:Cell} {T:List Cell} {a:Nat} {v0:Nat→Value} {r0:List Cell×Bool×List (Side×Side)} (k0:noteM (m+1) e head f f' E (je,js1) x v0 T a=some r0):
 ∃ K y ws w3,NoteB m e head f f' E je js1 x T a v0 (some r0) K y ws w3:=by
 obtain ⟨K,hu2,k1⟩:=bndE k0
 obtain ⟨y,hT2,k2⟩:=bndE k1
 obtain ⟨ws,hw,k3⟩:=bndE k2
 obtain ⟨w3,h3,k4⟩:=bndE k3
 exact ⟨K,y,ws,w3,hT2,hw,h3,k4,fun v=>(bndO hu2 _).trans ((bndO hT2 _).trans ((bndO hw _).trans (bndO h3 _)))⟩
theorem note_fin {env env':Env} {outer:List Env} {e head:Value} {f je:Nat} {js:List Nat} {T:List Cell} {h:Heap} {sz:Nat} {es:List (Side×Side)} {hn:Bool} {Q:Unit→Shared→Prop} {N:(Nat→Value)→Option (List Cell×Bool×List (Side×Side))}
 (hfr:A.frames=some (env'::outer)) (hf:env.frame=some f) (hf':env'.frame=some f) (D:Rep V h₀ h T sz) (hN:∀ v,N v=entryT env' outer e head f v je js T sz es)
 (H:∀ v,∃ r,N v=some r∧∀ q∈r.2.2,q.1=q.2)
 (hq:∀ v r h',N v=some r→Rep V h₀ h' r.1 (match r.2.1 with | true=>sz+1 | false=>sz)→Q () ⟨h',g,dr,tok,os⟩):
 wpAny M A (do let a ←PySem.frameOf env;let pl ←entryPlaceOf f hn;let b ←EntryCells.newEntry head a .none (rawInt f) .none pl;setField e 1 b) Q E ⟨h,g,dr,tok,os⟩:=
 entry_wp hfr hf hf' D (fun v=>by rw [←hN];exact H v) fun v r h' hr D'=>hq v r h' ((hN v).trans hr) (by
  obtain ⟨_,_,_,_, -, -, -, -,e1⟩:=entryT_inv hr
  rw [←e1] at D'⊢
  exact D')
theorem note_wp {F:Option (List Env)} {env:Env} {e:Value} {m:Nat} {js:List Nat} {T:List Cell} {h:Heap} {sz:Nat} {Q:Unit→Shared→Prop}
 (hF:FrOk F A) (D:Rep V h₀ h T sz)
 (H:∀ v,∃ r,noteT F env e m js v T sz=some r∧∀ q∈r.2.2,q.1=q.2)
 (hq:∀ v r h',noteT F env e m js v T sz=some r→Rep V h₀ h' r.1 (match r.2.1 with | true=>sz+1 | false=>sz)→Q () ⟨h',g,dr,tok,os⟩):
 wpAny M A (noteFrame e env) Q E ⟨h,g,dr,tok,os⟩:=by
 obtain ⟨r0,k0,hr0⟩:=H fun _=>.none
 obtain ⟨f,f',env',outer,je,js1,x,vs,head,N⟩:=noteT_a k0
 have k:=N.k
 have hN:=N.hN
 have hd:=fieldsN_spec N.hv
 have ho:=D.own _ _ N.hT
 have hf:=N.hf
 have hfr:=hF _ N.hF
 clear k0 hF
 unfold noteFrame
 rw [hf]
 cases m with
 | zero=>
   obtain ⟨u,hn0,k1⟩:=bndE k
   obtain ⟨_,_,_,_, -, -, -, -,e1⟩:=entryT_inv k1
   rw [←e1] at hr0
   have he:=Side.val.inj (hr0 _ (.tail _ (.head _)))
   have hh:=noneV_spec hn0▸N.hh
   rw [he]
   refine wpAny_bind (wpAny_field ho hd (at_arr hh) ?_)
   exact note_fin (hn:=(Value.none != Value.none)) hfr hf (Side.nat.inj (hr0 _ (.tail _ (.tail _ (.head _))))▸N.hf') D (fun v=>(hN v).trans (by rw [←he];exact bndO hn0 _)) H hq
 | succ m=>
   obtain ⟨K,y,ws,w3,M⟩:=noteM_b k
   have k:=M.k
   have hd2:=fieldsN_spec M.hw
   have ho2:=D.own _ _ M.hT
   have hN:=fun v=>(hN v).trans (M.hN v)
   cases m with
   | zero=>
     rw [←Option.some.inj k] at hr0
     have he:=Side.val.inj (hr0 _ (.head _))
     have hh:=Side.val.inj (hr0 _ (.tail _ (.head _)))▸N.hh
     have h3:=Side.val.inj (hr0 _ (.tail _ (.tail _ (.head _))))▸M.h3
     rw [he]
     refine wpAny_bind (wpAny_field ho hd (at_arr hh) ?_)
     refine wpAny_bind (wpAny_field ho2 hd2 (at_arr h3) ?_)
     rw [show (rawInt f == rawInt f)=true from beq_self_eq_true _]
     exact wpAny_pure (hq (fun _=>.none) _ h (hN _) D)
   | succ m=>
     obtain ⟨u,hn0,k1⟩:=bndE k
     obtain ⟨_,_,_,_, -, -, -, -,e1⟩:=entryT_inv k1
     rw [←e1] at hr0
     have he:=Side.val.inj (hr0 _ (.tail _ (.head _)))
     have eh:=Side.val.inj (hr0 _ (.tail _ (.tail _ (.head _))))
     have hh:=eh▸N.hh
     have h3:=noneV_spec hn0▸M.h3
     rw [he]
     refine wpAny_bind (wpAny_field ho hd (at_arr hh) ?_)
     refine wpAny_bind (wpAny_field ho2 hd2 (at_arr h3) ?_)
     refine wpAny_bind (wpAny_setField ho2 hd2 (at_lt h3) ?_)
     exact note_fin (hn:=(Value.ref y.1 != Value.none)) hfr hf (Side.nat.inj (hr0 _ (.tail _ (.tail _ (.tail _ (.head _)))))▸N.hf') (D.update (f:=Obj.mapFields (·.setIfInBounds 3 .none)) M.hT (Obj.isFreed_of_fields (Obj.data_mapFields hd2 _))) (fun v=>(hN v).trans (by rw [←he,←eh];exact bndO hn0 _)) H hq
end
section
variable {B:Nat} {prog:Program} {w:World} {V:RV} {A₀:Around} {Q₀:Fin→Shared→Prop} {E₀:Value→Shared→Prop} {h₀:Fr} {g₀:Array GenState} {dr:Drawn} {os:OsState}
noncomputable def Good (V:RV) (Q₀:Fin→Shared→Prop) (E₀:Value→Shared→Prop) (h₀:Fr) (g₀:Array GenState) (dr:Drawn) (os:OsState) (x:Option Out):Prop:=
 ∃ o,x=some o∧(∀ e∈o.eqs,e.1=e.2)∧(∀ p∈o.conds,p)∧∀ h' g',Rep V h₀ h' o.T o.sz→GR V g₀ g'→913≤o.sz→(match o.r with
  | .inl fin=>Q₀ fin ⟨h',g',dr,o.toks,os⟩
  | .inr e=>E₀ e ⟨h',g',dr,o.toks,os⟩)
noncomputable def Snd (B:Nat) (prog:Program) (w:World) (V:RV) (A₀:Around) (Q₀:Fin→Shared→Prop) (E₀:Value→Shared→Prop) (h₀:Fr) (g₀:Array GenState) (dr:Drawn) (os:OsState) (r:Unk→RunTy):Prop:=
 ∀ (σ:Unk) c en κ d t T b o tk ti k sk ls cs cl eqs conds h g,GR V g₀ g→(∀ ρ,Agree k ρ σ→Good V Q₀ E₀ h₀ g₀ dr os (r ρ c en κ d t T b o tk ti k sk ls cs cl eqs conds))→
  Rep V h₀ h T (b+o)→913≤b+o→InvK B A₀ κ→(XofA (Aof A₀ κ) c).inA.depth≤B+d→(en=true→d≤48∧(∃ c₀ d₀ k₀ κ₀,κ= .ret c₀ d₀ k₀ κ₀)∧dOf κ+4≤d)→
  wpX (model prog w) (XofA (Aof A₀ κ) c) (ofEn en t) (QK (model prog w) A₀ Q₀ E₀ κ) (EK (model prog w) A₀ Q₀ E₀ κ) ⟨h,g,dr,tk+ti,os⟩
theorem Good.not_none:¬Good V Q₀ E₀ h₀ g₀ dr os none:=fun ⟨_,h,_⟩=>by cases h
theorem Agree.refl (k:Nat) (σ:Unk):Agree k σ σ:=fun _ _=>⟨rfl,rfl,rfl,rfl,rfl,rfl⟩
noncomputable def Unk.put (σ:Unk) (k b t:Nat) (u:Nat→Tok):Unk:={ σ with b:=fun i=>if i=k then b else σ.b i,t:=fun i=>if i=k then t else σ.t i,u:=fun i=>if i=k then u else σ.u i }
noncomputable def Unk.putS (σ:Unk) (k:Nat) (p:Pos) (l:List (Code×Pos)):Unk:={ σ with p:=fun i=>if i=k then p else σ.p i,l:=fun i=>if i=k then l else σ.l i }
theorem Agree.of_put {σ ρ:Unk} {k b t:Nat} {u:Nat→Tok} (h:Agree (k+1) ρ (σ.put k b t u)):Agree k ρ σ∧ρ.b k=b∧ρ.t k=t∧ρ.u k=u:=by
 refine ⟨fun i hi=>?_,?_,?_,?_⟩
 ·have:=h i (Nat.lt_succ_of_lt hi)
  simpa [Unk.put,Nat.ne_of_lt hi] using this
 ·have:=(h k (Nat.lt_succ_self k)).1;simpa [Unk.put] using this
 ·have:=(h k (Nat.lt_succ_self k)).2.1;simpa [Unk.put] using this
 ·have:=(h k (Nat.lt_succ_self k)).2.2.1;simpa [Unk.put] using this
noncomputable def Unk.putV (σ:Unk) (k:Nat) (v:Nat→Value):Unk:={ σ with v:=fun i=>if i=k then v else σ.v i }
theorem Agree.of_putV {σ ρ:Unk} {k:Nat} {v:Nat→Value} (h:Agree (k+1) ρ (σ.putV k v)):Agree k ρ σ∧ρ.v k=v:=by
 refine ⟨fun i hi=>?_,?_⟩
 ·have:=h i (Nat.lt_succ_of_lt hi)
  simpa [Unk.putV,Nat.ne_of_lt hi] using this
 ·have:=(h k (Nat.lt_succ_self k)).2.2.2.2.2;simpa [Unk.putV] using this
theorem Agree.of_putPV {σ ρ:Unk} {k b t:Nat} {u:Nat→Tok} {v:Nat→Value} (h:Agree (k+1) ρ ((σ.put k b t u).putV k v)):Agree k ρ σ∧ρ.b k=b∧ρ.t k=t∧ρ.u k=u∧ρ.v k=v:=by
 refine ⟨fun i hi=>?_,?_,?_,?_,?_⟩
 ·have:=h i (Nat.lt_succ_of_lt hi)
  simpa [Unk.put,Unk.putV,Nat.ne_of_lt hi] using this
 ·have:=(h k (Nat.lt_succ_self k)).1;simpa [Unk.put,Unk.putV] using this
 ·have:=(h k (Nat.lt_succ_self k)).2.1;simpa [Unk.put,Unk.putV] using this
 ·have:=(h k (Nat.lt_succ_self k)).2.2.1;simpa [Unk.put,Unk.putV] using this
 ·have:=(h k (Nat.lt_succ_self k)).2.2.2.2.2;simpa [Unk.put,Unk.putV] using this
theorem Agree.of_putS {σ ρ:Unk} {k:Nat} {p:Pos} {l:List (Code×Pos)} (h:Agree (k+1) ρ (σ.putS k p l)):Agree k ρ σ∧ρ.p k=p∧ρ.l k=l:=by
 refine ⟨fun i hi=>?_,?_,?_⟩
 ·have:=h i (Nat.lt_succ_of_lt hi)
  simpa [Unk.putS,Nat.ne_of_lt hi] using this
 ·have:=(h k (Nat.lt_succ_self k)).2.2.2.1;simpa [Unk.putS] using this
 ·have:=(h k (Nat.lt_succ_self k)).2.2.2.2.1;simpa [Unk.putS] using this
variable (hfr:FrOk V.fr A₀) (hB:B≤800) (O:VOk V prog w) (HR:∀ i R,V.rules i=some R→RuleOk (B+48) V prog w R) (HV:∀ i R,V.rv i=some R→RuleVOk (B+48) V prog w R)
 {n:Nat} (IH:Snd B prog w V A₀ Q₀ E₀ h₀ g₀ dr os (fun ρ=>run V ρ n))
include hfr hB O HR HV IH
omit hfr hB HR HV in
theorem enterK_sound {σ:Unk} {c':Code} {κ:Kont} {d:Nat} {T b o tk ti k sk ls cs cl eqs conds h} {g:Array GenState} (hg:GR V g₀ g)
 (H:∀ ρ,Agree k ρ σ→Good V Q₀ E₀ h₀ g₀ dr os (enterK V (run V ρ n) c' κ d T b o tk ti k sk ls cs cl eqs conds))
 (D:Rep V h₀ h T (b+o)) (hb:913≤b+o) (I:InvK B A₀ κ) (dep:(XofA (Aof A₀ κ) (some c')).inA.depth≤B+d):
 wpX (model prog w) (.own (Aof A₀ κ) c') (denote table c') (QK (model prog w) A₀ Q₀ E₀ κ) (EK (model prog w) A₀ Q₀ E₀ κ) ⟨h,g,dr,tk+ti,os⟩:=by
 cases hin:V.inn c' with
 | none=>
   have z:=IH σ (some c') false κ d (V.den c') T b o tk ti k sk ls cs cl eqs conds h g hg (fun ρ hρ=>by
    have:=H ρ hρ
    unfold enterK at this
    rw [hin] at this
    exact this) D hb I dep (by intro e;cases e)
   rw [O.den] at z
   exact z
 | some r=>
   have z:=IH σ (some c') false (.onr c' d r.2.1 r.2.2 κ) d r.1 T b o tk ti k sk ls cs cl eqs conds h g hg (fun ρ hρ=>by
    have:=H ρ hρ
    unfold enterK at this
    rw [hin] at this
    exact this) D hb ⟨I,dep⟩ dep (by intro e;cases e)
   exact O.inn c' r hin _ _ _ _ z
omit hB HR HV in
theorem noteK_sound {σ:Unk} {e:Value} {c:Code} {d:Nat} {env:Env} {hh:Value→Sem Fin} {κ:Kont} {T b o tk ti k sk ls cs cl eqs conds h} {g:Array GenState} (hg:GR V g₀ g)
 (H:∀ ρ,Agree k ρ σ→Good V Q₀ E₀ h₀ g₀ dr os (noteK V ρ (run V ρ n) e c d env hh κ T b o tk ti k sk ls cs cl eqs conds))
 (D:Rep V h₀ h T (b+o)) (hb:913≤b+o) (I:InvK B A₀ κ) (dep:(XofA (Aof A₀ κ) (some c)).inA.depth≤B+d):
 wpX (model prog w) (.own (Aof A₀ κ) c) (Sem.bind (noteFrame e env) fun _=>hh e) (QK (model prog w) A₀ Q₀ E₀ κ) (EK (model prog w) A₀ Q₀ E₀ κ) ⟨h,g,dr,tk+ti,os⟩:=by
 cases cs with
 | succ cs=>exact absurd (H σ (Agree.refl _ _)) Good.not_none
 | zero=>
 cases cl with
 | nil=>exact absurd (H σ (Agree.refl _ _)) Good.not_none
 | cons ev cl=>
 obtain ⟨ev,sx⟩:=ev
 cases ev with
 | den=>exact absurd (H σ (Agree.refl _ _)) Good.not_none
 | eff i js=>exact absurd (H σ (Agree.refl _ _)) Good.not_none
 | note m js=>
 have H2:∀ ρ,Agree k ρ σ→Good V Q₀ E₀ h₀ g₀ dr os (match noteT (pushE c.envs (frK V.fr κ)) env e m js (ρ.v k) T (b+o) with
  | none=>none
  | some r=>match r.2.1 with
    | true=>run V ρ n (some c) false κ d (hh e) r.1 b (o+1) tk ti (k+1) sk ls sx cl (r.2.2++eqs) conds
    | false=>run V ρ n (some c) false κ d (hh e) r.1 b o tk ti (k+1) sk ls sx cl (r.2.2++eqs) conds):=H
 have H3:∀ v,∃ r,noteT (pushE c.envs (frK V.fr κ)) env e m js v T (b+o)=some r∧∀ q∈r.2.2,q.1=q.2:=by
  intro v
  have z:=H2 (σ.putV k v) fun i hi=>by simp [Unk.putV,Nat.ne_of_lt hi]
  rw [show (σ.putV k v).v k=v by simp [Unk.putV]] at z
  split at z
  ·exact absurd z Good.not_none
  ·rename_i r hr
   refine ⟨r,hr,?_⟩
   split at z
   ·obtain ⟨out,ho,q1,q2,q3⟩:=z
    exact fun q hq=>q1 q ((run_mono V _ n _ _ _ _ _ _ _ _ _ _ _ _ _ _ _ _ _ _ ho).1 q (List.mem_append_left _ hq))
   ·obtain ⟨out,ho,q1,q2,q3⟩:=z
    exact fun q hq=>q1 q ((run_mono V _ n _ _ _ _ _ _ _ _ _ _ _ _ _ _ _ _ _ _ ho).1 q (List.mem_append_left _ hq))
 have hF:FrOk (pushE c.envs (frK V.fr κ)) ((Aof A₀ κ).under c):=fun l e=>(hfr.aof κ).push c.envs l e
 intro Γ p hΓ
 rw [Sem.wp_bind]
 have nw:=note_wp (M:=model prog w) (A:=(Aof A₀ κ).under c) (E:=fun e s'=>EK (model prog w) A₀ Q₀ E₀ κ e s') (g:=g) (dr:=dr) (tok:=tk+ti) (os:=os) (h₀:=h₀) (V:=V)
  (Q:=fun _ s'=>∀ p',wp (model prog w) Γ (hh e) (fun a _ s'=>QK (model prog w) A₀ Q₀ E₀ κ a s') (fun e _ s'=>EK (model prog w) A₀ Q₀ E₀ κ e s') p' s') hF D H3 (fun v r h' hr D' p'=>by
    have H4:∀ ρ,Agree (k+1) ρ (σ.putV k v)→Good V Q₀ E₀ h₀ g₀ dr os (match r.2.1 with
     | true=>run V ρ n (some c) false κ d (hh e) r.1 b (o+1) tk ti (k+1) sk ls sx cl (r.2.2++eqs) conds
     | false=>run V ρ n (some c) false κ d (hh e) r.1 b o tk ti (k+1) sk ls sx cl (r.2.2++eqs) conds):=fun ρ hρ=>by
     obtain ⟨a1,a2⟩:=hρ.of_putV
     have:=H2 ρ a1
     rw [a2,hr] at this
     exact this
    revert D' H4
    cases r.2.1 with
    | true=>exact fun D' H4=>IH (σ.putV k v) _ _ _ _ _ _ _ _ _ _ _ _ _ _ _ _ _ h' _ hg H4 D' (Nat.le_succ_of_le hb) I dep (by intro e;cases e) Γ p' hΓ
    | false=>exact fun D' H4=>IH (σ.putV k v) _ _ _ _ _ _ _ _ _ _ _ _ _ _ _ _ _ h' _ hg H4 D' hb I dep (by intro e;cases e) Γ p' hΓ) Γ p (Cx.sat_in hΓ)
 exact Sem.wp_mono _ _ _ (fun _ p' s' z=>z p') (fun _ _ _ z=>z) p _ nw
omit hfr hB O IH in
theorem ruleV_ok (i:Nat) (R:ERuleV) (h:ruleV V i=some R):RuleVOk (B+48) V prog w R:=by
 unfold ruleV at h
 cases hr:V.rules i with
 | none=>rw [hr] at h;exact HV i R h
 | some R0=>
   rw [hr] at h
   cases h
   intro F js c T eo he h1 h2 A h₀ h sz g dr tok os a1 a2 a3 a4 a5
   obtain ⟨e0,h0,rfl⟩:=Option.map_eq_some_iff.mp he
   exact codeAny_mono (HR i R0 hr F js c T e0 h0 h1 h2 A h₀ h sz g dr tok os a1 a2 a3 a4 a5) fun r s' ⟨b,t,u,g',q⟩=>⟨b,t,u,fun _=>.none,g',q⟩
omit hfr hB O HR HV IH in
theorem callO_all (c:Code):(callO c).elim True fun q=>c= .call q.1 q.2:=by cases c <;> first | exact rfl | exact trivial
omit hfr hB O HR HV IH in
theorem refO_all (v:Value):(refO v).elim True fun a=>v= .ref a:=by cases v <;> first | exact rfl | exact trivial
omit hfr hB O HR HV IH in
theorem funcO_all (d:Data):(funcO d).elim True fun fd=>d= .func fd:=by cases d <;> first | exact rfl | exact trivial
omit hfr hB O HR HV IH in
theorem callFd_spec {c':Code} {p:Nat×FuncData×Args} (h:callFd V c'=some p):∃ o,c'= .call (.ref p.1) p.2.2∧V.look p.1=some o∧o.data= .func p.2.1:=by
 obtain ⟨q,h1,k1⟩:=bndE h
 obtain ⟨a,h2,k2⟩:=bndE k1
 obtain ⟨o,h3,k3⟩:=bndE k2
 obtain ⟨fd,h4,k4⟩:=bndE k3
 cases k4
 exact ⟨o,(ofE (callO_all _) h1).trans (by rw [ofE (refO_all _) h2]),h3,ofE (funcO_all _) h4⟩
omit hfr hB O HR HV IH in
theorem auto_call {c':Code} {X:Around} {R:Result→Shared→Prop} {a:Nat} {fd:FuncData} {args:Args} {ob:Obj} {h:Heap} {g:Array GenState} {tok:Nat} (e:c'= .call (.ref a) args) (hp:plainFn fd=true) (hl:h.get? a=some ob) (hd:ob.data= .func fd)
 (q:wpX (model prog w) (.own X c') (callFunction a fd args) (QC (model prog w) X R) (QE R) ⟨h,g,dr,tok,os⟩):codeAny (model prog w) X c' R ⟨h,g,dr,tok,os⟩:=by
 subst e
 refine code_own fun Γ p hΓ=>?_
 show wp _ _ (callAny (.ref a) args) _ _ _ _
 refine ⟨ob,hl,?_⟩
 obtain ⟨x,y,dt,z⟩:=ob
 obtain rfl:dt= .func fd:=hd
 exact q Γ p hΓ
omit hfr hB HR HV in
theorem autoK_sound {σ:Unk} {c':Code} {c:Option Code} {d₀:Nat} {k₀:Result→Sem Fin} {κ₀:Kont} {T b o tk ti k sk ls cs cl eqs conds h} {g:Array GenState} (hg:GR V g₀ g) (hd:d₀ < 44)
 (H:∀ ρ,Agree k ρ σ→Good V Q₀ E₀ h₀ g₀ dr os (autoK V (run V ρ n) c' (.ret c d₀ k₀ κ₀) T b o tk ti k sk ls cs cl eqs conds))
 (D:Rep V h₀ h T (b+o)) (hb:913≤b+o) (I:InvK B A₀ (.ret c d₀ k₀ κ₀)) (dep1:(XofA (Aof A₀ (.ret c d₀ k₀ κ₀)) (some c')).inA.depth≤B+(d₀+4)):
 codeAny (model prog w) (Aof A₀ (.ret c d₀ k₀ κ₀)) c' (endK (model prog w) A₀ Q₀ E₀ (.ret c d₀ k₀ κ₀)) ⟨h,g,dr,tk+ti,os⟩:=by
 unfold autoK at H
 cases hc:callFd V c' with
 | none=>rw [hc] at H;exact code_own (enterK_sound O IH hg H D hb I dep1)
 | some p=>
   rw [hc] at H
   dsimp only at H
   cases hp:plainFn p.2.1 with
   | false=>rw [hp] at H;exact absurd (H σ (Agree.refl _ _)) Good.not_none
   | true=>
     rw [hp] at H
     have z:=IH σ _ _ _ _ _ _ _ _ _ _ _ _ _ _ _ _ _ h _ hg H D hb I dep1 (fun _=>⟨by show d₀+4≤48;lia,⟨_,_,_,_,rfl⟩,Nat.le_refl _⟩)
     rw [O.callT,←callFunction_eq hp] at z
     obtain ⟨_,e1,e2,e3⟩:=callFd_spec hc
     exact auto_call e1 hp (D.stat _ _ e2) e3 z
omit hB in
theorem goI_sound {σ:Unk} {c':Code} {c:Option Code} {d₀:Nat} {k₀:Result→Sem Fin} {κ₀:Kont} {T b o tk ti k sk ls cs cl eqs conds h} {g:Array GenState} (hg:GR V g₀ g) (hw:c'.weight≤4) (hd:d₀ < 44)
 (H:∀ ρ,Agree k ρ σ→Good V Q₀ E₀ h₀ g₀ dr os (goI V ρ (run V ρ n) c' (.ret c d₀ k₀ κ₀) T b o tk ti k sk ls cs cl eqs conds))
 (D:Rep V h₀ h T (b+o)) (hb:913≤b+o) (I:InvK B A₀ (.ret c d₀ k₀ κ₀)):
 codeAny (model prog w) (Aof A₀ (.ret c d₀ k₀ κ₀)) c' (endK (model prog w) A₀ Q₀ E₀ (.ret c d₀ k₀ κ₀)) ⟨h,g,dr,tk+ti,os⟩:=by
 have hdep:(Aof A₀ (.ret c d₀ k₀ κ₀)).depth≤B+d₀:=I.depth
 have dep1:(XofA (Aof A₀ (.ret c d₀ k₀ κ₀)) (some c')).inA.depth≤B+(d₀+4):=by
  show (Aof A₀ (.ret c d₀ k₀ κ₀)).depth+c'.weight≤_
  rw [←Nat.add_assoc];exact Nat.add_le_add hdep hw
 cases cs with
 | succ cs=>exact autoK_sound O IH hg hd H D hb I dep1
 | zero=>
   cases cl with
   | nil=>exact autoK_sound (cs:=0) (cl:=[]) O IH hg hd H D hb I dep1
   | cons e cl=>
     obtain ⟨e,s⟩:=e
     cases e with
     | den=>exact code_own (enterK_sound (cs:=s) (cl:=cl) O IH hg H D hb I dep1)
     | note m js=>exact absurd (H σ (Agree.refl _ _)) Good.not_none
     | eff i js=>
       unfold goI at H
       dsimp only at H
       cases hR:ruleV V i with
       | none=>rw [hR] at H;exact absurd (H σ (Agree.refl _ _)) Good.not_none
       | some R=>
         rw [hR] at H
         dsimp only at H
         cases he:R (frK V.fr (.ret c d₀ k₀ κ₀)) js c' T with
         | none=>rw [he] at H;exact absurd (H σ (Agree.refl _ _)) Good.not_none
         | some eo=>
           rw [he] at H
           dsimp only at H
           obtain ⟨out,ho,q1,q2, -⟩:=H σ (Agree.refl _ _)
           have mono:=retK_mono (run_mono V σ n) _ _ _ _ _ _ _ _ _ _ _ _ _ _ _ ho
           refine codeAny_mono (ruleV_ok HR HV i R hR _ js c' T eo he (fun e he=>q1 e (mono.1 e (List.mem_append_left _ he))) (fun p hp=>q2 p (mono.2 p (List.mem_append_left _ hp))) _ h₀ h _ g dr (tk+ti) os (hfr.aof _) I.handled (Nat.le_trans hdep (Nat.add_le_add_left (Nat.le_of_lt (Nat.lt_trans hd (by decide))) B)) D hb) fun r s' hr=>?_
           clear ho q1 q2 mono
           obtain ⟨b',t',u',v',g',hr,D',hb',hgr,hs⟩:=hr
           rw [endK_ret,hs]
           exact IH ((σ.put k b' t' u').putV k v') c false κ₀ d₀ (k₀ r) (eo.post b' t' u' v').2 (b'+900) 0 t' 0 (k+1) sk ls s cl (eo.eqs++eqs) (eo.conds++conds) s'.heap _ (hg.trans hgr) (fun ρ hρ=>by
            obtain ⟨a1,a2,a3,a4,a5⟩:=hρ.of_putPV
            have:=H ρ a1
            rw [a2,a3,a4,a5] at this
            rw [←hr]
            exact this) D' (ar10) I.1 I.2 (by intro e;cases e)
theorem goK_sound {σ:Unk} {c':Code} {c:Option Code} {d₀:Nat} {k₀:Result→Sem Fin} {κ₀:Kont} {T b o tk ti k sk ls cs cl eqs conds h} {g:Array GenState} (hg:GR V g₀ g)
 (H:∀ ρ,Agree k ρ σ→Good V Q₀ E₀ h₀ g₀ dr os (goK V ρ (run V ρ n) c' (.ret c d₀ k₀ κ₀) T b o tk ti k sk ls cs cl eqs conds))
 (D:Rep V h₀ h T (b+o)) (hb:913≤b+o) (I:InvK B A₀ (.ret c d₀ k₀ κ₀)):
 c'.quiet=true∧codeAny (model prog w) (Aof A₀ (.ret c d₀ k₀ κ₀)) c' (endK (model prog w) A₀ Q₀ E₀ (.ret c d₀ k₀ κ₀)) ⟨h,g,dr,tk+ti,os⟩:=by
 unfold goK at H
 cases hok:V.ok c' with
 | false=>rw [hok] at H;exact absurd (H σ (Agree.refl _ _)) Good.not_none
 | true=>
   rw [hok] at H
   dsimp only at H
   cases hdp:Nat.blt (dOf (.ret c d₀ k₀ κ₀)) 44 with
   | false=>rw [hdp] at H;exact absurd (H σ (Agree.refl _ _)) Good.not_none
   | true=>
     rw [hdp] at H
     obtain ⟨hq,hw⟩:=O.okc c' hok
     exact ⟨hq,goI_sound hfr O HR HV IH hg hw (Nat.le_of_ble_eq_true hdp) H D hb I⟩
theorem stepK_sound:Snd B prog w V A₀ Q₀ E₀ h₀ g₀ dr os (fun ρ=>run V ρ (n+1)):=by
 intro σ c en κ d t T b o tk ti k sk ls cs cl eqs conds h g hg H D hb I hdep hen
 replace H:∀ ρ,Agree k ρ σ→Good V Q₀ E₀ h₀ g₀ dr os (stepK V ρ (run V ρ n) c en κ d t T b o tk ti k sk ls cs cl eqs conds):=H
 cases t with
 | pure fin=>
   cases en with
   | true=>
     obtain ⟨hd,hκ,hdo⟩:=hen rfl
     cases fin with
     | done f=>exact absurd (H σ (Agree.refl _ _)) Good.not_none
     | again c'=>
       cases hok:V.ok c' with
       | false=>
         have:=H σ (Agree.refl _ _)
         unfold stepK at this;dsimp only at this;rw [hok] at this
         exact absurd this Good.not_none
       | true=>
         obtain ⟨hq,hw⟩:=O.okc c' hok
         obtain ⟨c₀,d₀,k₀,κ₀,rfl⟩:=hκ
         have H2:∀ ρ,Agree k ρ σ→Good V Q₀ E₀ h₀ g₀ dr os (enterK V (run V ρ n) c' (.ret c₀ d₀ k₀ κ₀) d T b o tk ti k sk ls cs cl eqs conds):=fun ρ hρ=>by
          have:=H ρ hρ
          unfold stepK at this;dsimp only at this;rw [hok] at this
          exact this
         have hA:=I.depth
         have dep1:(XofA (Aof A₀ (.ret c₀ d₀ k₀ κ₀)) (some c')).inA.depth≤B+d:=by
          show (Aof A₀ (.ret c₀ d₀ k₀ κ₀)).depth+c'.weight≤_
          lia
         have z:=enterK_sound O IH hg H2 D hb I dep1
         intro Γ p hΓ
         show wp _ _ (Sem.bind enterFrame fun _=>Sem.pure (PySem.Fin.again c')) _ _ _ _
         rw [Sem.wp_bind]
         exact wpAny_enterFrame (A:=(XofA (Aof A₀ (.ret c₀ d₀ k₀ κ₀)) c).inA) (O.nolimit h D.stat) (by rw [show recursionLimit=1000 from rfl];lia) ⟨hq,code_own z⟩ Γ p (Cx.sat_in hΓ)
   | false=>
     cases κ with
     | base=>
       obtain ⟨out,ho,q1,q2,q3⟩:=H σ (Agree.refl _ _)
       have ho:some (⟨.inl fin,T,b+o,tk+ti,eqs,conds⟩:Out)=some out:=ho
       cases ho
       intro Γ p hΓ
       exact q3 h _ D hg hb
     | ret c₀ d₀ k₀ κ₀=>
       cases fin with
       | done f=>
         intro Γ p hΓ
         show endK (model prog w) A₀ Q₀ E₀ (.ret c₀ d₀ k₀ κ₀) _ _
         rw [endK_ret]
         exact IH σ _ _ _ _ _ _ _ _ _ _ _ _ _ _ _ _ _ h _ hg H D hb I.1 I.2 (by intro e;cases e)
       | again c'=>
         intro Γ p hΓ
         exact (goK_sound hfr hB O HR HV IH hg H D hb I)
     | onr c₀ d₀ env hh κ₀=>
       exact IH σ c false κ₀ d (.pure fin) T b o tk ti k sk ls cs cl eqs conds h g hg H D hb I.1 hdep (by intro e;cases e)
 | raise e=>
   cases en with
   | true=>exact absurd (H σ (Agree.refl _ _)) Good.not_none
   | false=>
     cases κ with
     | base=>
       obtain ⟨out,ho,q1,q2,q3⟩:=H σ (Agree.refl _ _)
       have ho:some (⟨.inr e,T,b+o,tk+ti,eqs,conds⟩:Out)=some out:=ho
       cases ho
       intro Γ p hΓ
       exact q3 h _ D hg hb
     | ret c₀ d₀ k₀ κ₀=>
       intro Γ p hΓ
       show endK (model prog w) A₀ Q₀ E₀ (.ret c₀ d₀ k₀ κ₀) _ _
       rw [endK_ret]
       exact IH σ _ _ _ _ _ _ _ _ _ _ _ _ _ _ _ _ _ h _ hg H D hb I.1 I.2 (by intro e;cases e)
     | onr c₀ d₀ env hh κ₀=>
       intro Γ p hΓ
       exact noteK_sound hfr O IH hg H D hb I.1 I.2
 | rule tag k=>
   have e:ofEn en (.rule tag k)= .rule tag fun x=>ofEn en (k x):=by cases en <;> rfl
   rw [e]
   intro Γ p hΓ
   exact IH σ _ _ _ _ _ _ _ _ _ _ _ _ _ _ _ _ _ h _ hg H D hb I hdep hen Γ p hΓ
 | «at» q k=>
   have e:ofEn en (.at q k)= .at q fun x=>ofEn en (k x):=by cases en <;> rfl
   rw [e]
   intro Γ p hΓ
   exact IH σ _ _ _ _ _ _ _ _ _ _ _ _ _ _ _ _ _ h _ hg H D hb I hdep hen Γ q hΓ
 | point l k=>
   have e:ofEn en (.point l k)= .point l fun x=>ofEn en (k x):=by cases en <;> rfl
   rw [e]
   intro Γ p hΓ
   exact IH σ _ _ _ _ _ _ _ _ _ _ _ _ _ _ _ _ _ h _ hg H D hb I hdep hen Γ p hΓ
 | ask k=>
   have e:ofEn en (.ask k)= .ask fun x=>ofEn en (k x):=by cases en <;> rfl
   rw [e]
   intro Γ p hΓ
   have z:=IH σ _ _ _ _ _ _ _ _ _ _ _ _ _ _ _ _ _ h _ hg H D hb I hdep hen Γ p hΓ
   rw [O.prog,O.params] at z
   exact z
 | fresh k=>
   have e:ofEn en (.fresh k)= .fresh fun x=>ofEn en (k x):=by cases en <;> rfl
   rw [e]
   intro Γ p hΓ
   exact IH σ _ _ _ _ _ _ _ _ _ (ti+1) _ _ _ _ _ _ _ h _ hg H D hb I hdep hen Γ p hΓ
 | handled own k=>
   cases own with
   | true=>exact absurd (H σ (Agree.refl _ _)) Good.not_none
   | false=>
     have e:ofEn en (.handled false k)= .handled false fun x=>ofEn en (k x):=by cases en <;> rfl
     rw [e]
     intro Γ p hΓ
     have z:=IH σ _ _ _ _ _ _ _ _ _ _ _ _ _ _ _ _ _ h _ hg H D hb I hdep hen Γ p hΓ
     have hh:Γ.handled=none:=(Cx.sat_in hΓ).1.trans (inA_handled I.handled c)
     show wp _ _ (ofEn en (k Γ.handled)) _ _ _ _
     rw [hh]
     exact z
 | load a q k=>
   have e:ofEn en (.load a q k)= .load a q fun x=>ofEn en (k x):=by cases en <;> rfl
   rw [e]
   intro Γ p hΓ
   cases sk with
   | succ sk=>
     cases hl:V.look a with
     | none=>
       have:=H σ (Agree.refl _ _)
       unfold stepK at this;dsimp only at this;rw [hl] at this
       exact absurd this Good.not_none
     | some x=>
       exact ⟨x,D.stat a x hl,IH σ _ _ _ _ _ _ _ _ _ _ _ sk ls _ _ _ _ h _ hg (fun ρ hρ=>by
        have:=H ρ hρ
        unfold stepK at this;dsimp only at this;rw [hl] at this
        exact this) D hb I hdep hen Γ p hΓ⟩
   | zero=>
     cases ls with
     | nil=>exact absurd (H σ (Agree.refl _ _)) Good.not_none
     | cons j ls=>
       cases hl:T[j.1]? with
       | none=>
         have:=H σ (Agree.refl _ _)
         unfold stepK at this;dsimp only at this;rw [hl] at this
         exact absurd this Good.not_none
       | some x=>
         have H2:∀ ρ,Agree _ ρ σ→Good V Q₀ E₀ h₀ g₀ dr os (run V ρ n c en κ d (k x.2) T b o tk ti _ j.2 ls cs cl ((.nat a,.nat x.1)::eqs) conds):=fun ρ hρ=>by
          have:=H ρ hρ
          unfold stepK at this;dsimp only at this;rw [hl] at this
          exact this
         obtain ⟨out,ho,q1,q2,q3⟩:=H2 σ (Agree.refl _ _)
         have ea:a=x.1:=Side.nat.inj (q1 (.nat a,.nat x.1) ((run_mono V σ n _ _ _ _ _ _ _ _ _ _ _ _ _ _ _ _ _ _ ho).1 _ (List.mem_cons_self ..)))
         exact ⟨x.2,by rw [ea];exact D.own _ _ hl,IH σ _ _ _ _ _ _ _ _ _ _ _ _ _ _ _ _ _ h _ hg H2 D hb I hdep hen Γ p hΓ⟩
 | loadIfAlive a k=>
   have e:ofEn en (.loadIfAlive a k)= .loadIfAlive a fun x=>ofEn en (k x):=by cases en <;> rfl
   rw [e]
   intro Γ p hΓ
   show wp _ _ (ofEn en (k (h.get? a))) _ _ _ _
   cases sk with
   | succ sk=>
     cases hl:V.look a with
     | none=>
       have:=H σ (Agree.refl _ _)
       unfold stepK at this;dsimp only at this;rw [hl] at this
       exact absurd this Good.not_none
     | some x=>
       rw [D.stat a x hl]
       exact IH σ _ _ _ _ _ _ _ _ _ _ _ sk ls _ _ _ _ h _ hg (fun ρ hρ=>by
        have:=H ρ hρ
        unfold stepK at this;dsimp only at this;rw [hl] at this
        exact this) D hb I hdep hen Γ p hΓ
   | zero=>
     cases ls with
     | nil=>exact absurd (H σ (Agree.refl _ _)) Good.not_none
     | cons j ls=>
       cases hl:T[j.1]? with
       | none=>
         have:=H σ (Agree.refl _ _)
         unfold stepK at this;dsimp only at this;rw [hl] at this
         exact absurd this Good.not_none
       | some x=>
         have H2:∀ ρ,Agree _ ρ σ→Good V Q₀ E₀ h₀ g₀ dr os (run V ρ n c en κ d (k (some x.2)) T b o tk ti _ j.2 ls cs cl ((.nat a,.nat x.1)::eqs) conds):=fun ρ hρ=>by
          have:=H ρ hρ
          unfold stepK at this;dsimp only at this;rw [hl] at this
          exact this
         obtain ⟨out,ho,q1,q2,q3⟩:=H2 σ (Agree.refl _ _)
         have ea:a=x.1:=Side.nat.inj (q1 (.nat a,.nat x.1) ((run_mono V σ n _ _ _ _ _ _ _ _ _ _ _ _ _ _ _ _ _ _ ho).1 _ (List.mem_cons_self ..)))
         rw [ea,D.own _ _ hl]
         exact IH σ _ _ _ _ _ _ _ _ _ _ _ _ _ _ _ _ _ h _ hg H2 D hb I hdep hen Γ p hΓ
 | update a q f k=>
   have e:ofEn en (.update a q f k)= .update a q f fun x=>ofEn en (k x):=by cases en <;> rfl
   rw [e]
   intro Γ p hΓ
   cases sk with
   | succ sk=>exact absurd (H σ (Agree.refl _ _)) Good.not_none
   | zero=>
     cases ls with
     | nil=>exact absurd (H σ (Agree.refl _ _)) Good.not_none
     | cons j ls=>
       cases hl:T[j.1]? with
       | none=>
         have:=H σ (Agree.refl _ _)
         unfold stepK at this;dsimp only at this;rw [hl] at this
         exact absurd this Good.not_none
       | some x=>
         cases hfr:(f x.2).isFreed with
         | true=>
           have:=H σ (Agree.refl _ _)
           unfold stepK at this;dsimp only at this;rw [hl] at this;dsimp only at this;rw [hfr] at this
           exact absurd this Good.not_none
         | false=>
           have H2:∀ ρ,Agree _ ρ σ→Good V Q₀ E₀ h₀ g₀ dr os (run V ρ n c en κ d (k ()) (T.set j.1 (x.1,f x.2)) b o tk ti _ j.2 ls cs cl ((.nat a,.nat x.1)::eqs) conds):=fun ρ hρ=>by
            have:=H ρ hρ
            unfold stepK at this;dsimp only at this;rw [hl] at this;dsimp only at this;rw [hfr] at this
            exact this
           obtain ⟨out,ho,q1,q2,q3⟩:=H2 σ (Agree.refl _ _)
           have ea:a=x.1:=Side.nat.inj (q1 (.nat a,.nat x.1) ((run_mono V σ n _ _ _ _ _ _ _ _ _ _ _ _ _ _ _ _ _ _ ho).1 _ (List.mem_cons_self ..)))
           rw [ea]
           exact ⟨by show (h.get? x.1).isSome=true;rw [D.own _ _ hl];rfl,IH σ _ _ _ _ _ _ _ _ _ _ _ _ _ _ _ _ _ _ _ hg H2 (D.update hl hfr) hb I hdep hen Γ p hΓ⟩
 | alloc x k=>
   have e:ofEn en (.alloc x k)= .alloc x fun y=>ofEn en (k y):=by cases en <;> rfl
   rw [e]
   intro Γ p hΓ
   cases hfr:x.isFreed with
   | true=>
     have:=H σ (Agree.refl _ _)
     unfold stepK at this;dsimp only at this;rw [hfr] at this
     exact absurd this Good.not_none
   | false=>
     have z:=IH σ c en κ d (k (b+o)) ((b+o,x)::T) b (o+1) tk ti _ sk ls cs cl eqs conds (h.push x) _ hg (fun ρ hρ=>by
      have:=H ρ hρ
      unfold stepK at this;dsimp only at this;rw [hfr] at this
      exact this) (D.alloc hfr) (Nat.le_succ_of_le hb) I hdep hen Γ p hΓ
     show wp _ _ (ofEn en (k h.objs.size)) _ _ _ _
     rw [D.size]
     exact z
 | stack k=>
   have e:ofEn en (.stack k)= .stack fun x=>ofEn en (k x):=by cases en <;> rfl
   rw [e]
   cases c with
   | none=>exact absurd (H σ (Agree.refl _ _)) Good.not_none
   | some c₁=>
     intro Γ p hΓ
     have hc:Γ.code=c₁:=hΓ.1
     show wp _ _ (ofEn en (k ((Γ.code,p)::Γ.below))) _ _ _ _
     rw [hc]
     exact IH (σ.putS _ p Γ.below) (some c₁) en κ d (k ((c₁,p)::Γ.below)) T b o tk ti _ sk ls cs cl eqs conds h _ hg (fun ρ hρ=>by
      obtain ⟨a1,a2,a3⟩:=hρ.of_putS
      have:=H ρ a1
      unfold stepK at this;dsimp only at this;rw [a2,a3] at this
      exact this) D hb I hdep hen Γ p hΓ
 | call c' hd gd l k=>
   cases en with
   | true=>exact absurd (H σ (Agree.refl _ _)) Good.not_none
   | false=>
     cases hd with
     | some _=>exact absurd (H σ (Agree.refl _ _)) Good.not_none
     | none=>
       refine wpX_call (codeAny_mono (goK_sound hfr hB O HR HV IH (c:=c) (d₀:=d) (k₀:=k) (κ₀:=κ) hg H D hb ⟨I,hdep⟩).2 fun r s' hr=>?_)
       rw [endK_ret] at hr
       exact hr
 | unsupported=>exact absurd (H σ (Agree.refl _ _)) Good.not_none
 | finish=>exact absurd (H σ (Agree.refl _ _)) Good.not_none
 | register=>exact absurd (H σ (Agree.refl _ _)) Good.not_none
 | choose=>exact absurd (H σ (Agree.refl _ _)) Good.not_none
 | os=>exact absurd (H σ (Agree.refl _ _)) Good.not_none
 | newGen=>exact absurd (H σ (Agree.refl _ _)) Good.not_none
 | genState=>exact absurd (H σ (Agree.refl _ _)) Good.not_none
 | resume=>exact absurd (H σ (Agree.refl _ _)) Good.not_none
 | yield=>exact absurd (H σ (Agree.refl _ _)) Good.not_none
 | fork=>exact absurd (H σ (Agree.refl _ _)) Good.not_none
 | thread=>exact absurd (H σ (Agree.refl _ _)) Good.not_none
 | await=>exact absurd (H σ (Agree.refl _ _)) Good.not_none
end
section
variable {B:Nat} {prog:Program} {w:World} {V:RV} {A₀:Around} {Q₀:Fin→Shared→Prop} {E₀:Value→Shared→Prop} {h₀:Fr} {g₀:Array GenState} {dr:Drawn} {os:OsState}
theorem run_sound (hfr:FrOk V.fr A₀) (hB:B≤800) (O:VOk V prog w) (HR:∀ i R,V.rules i=some R→RuleOk (B+48) V prog w R) (HV:∀ i R,V.rv i=some R→RuleVOk (B+48) V prog w R):∀ n,Snd B prog w V A₀ Q₀ E₀ h₀ g₀ dr os (fun ρ=>run V ρ n)
 | 0=>fun σ _ _ _ _ _ _ _ _ _ _ _ _ _ _ _ _ _ _ _ _ H _ _ _ _ _=>absurd (H σ (Agree.refl _ _)) Good.not_none
 | n+1=>stepK_sound hfr hB O HR HV (run_sound hfr hB O HR HV n)
end
theorem fDen_eq:fDen=denote table:=by
 show PySem.W.Fast.tw11892475500146522536 PySem.W.Fast.tw14364793385576792824=_
 rw [←PySem.W.Fast.te11892475500146522536,←PySem.W.Fast.te14364793385576792824,table_eq_tree]
theorem callTF_eq (a:Addr) (fd:FuncData) (args:Args):callTF a fd args=callTree a fd args:=by
 unfold callTF callTree fEnv fBind
 rw [←PySem.W.Fast.te9782568553167038054,←PySem.W.Fast.te11113344188204177931]
 all_goals rfl
theorem okIds_plain:okIds.all (fun id=>plainId id || id == "type.__call__")=true:=by decide+kernel
theorem weight_le {c:Code} (h1:c.frames≤1) (h2:c.isGuard=false) (h3:c.isCaller=false):c.weight≤4:=by
 unfold Code.weight
 rw [h2,h3]
 cases c.isCreation
 ·exact Nat.le_trans h1 (by decide)
 ·exact Nat.le_trans (Nat.add_le_add_right h1 1) (by decide)
theorem if_le (b:Bool):(if b=true then 1 else 0)≤1:=by cases b <;> decide
theorem okc_spec (c:Code) (h:okc c=true):c.quiet=true∧c.weight≤4:=by
 cases c with
 | builtin id args=>
   obtain ⟨x,hx,hc⟩:=List.any_eq_true.mp (show (okIds.any fun x=>Nat.beq (PySem.code x) (PySem.code id))=true from h)
   obtain rfl:x=id:=code_inj _ _ (Nat.eq_of_beq_eq_true hc)
   rcases Bool.or_eq_true_iff.mp (List.all_eq_true.mp okIds_plain x hx) with q | q
   ·exact ⟨plainId_quiet q args,by rw [plainId_weight q args];decide⟩
   ·obtain rfl:x="type.__call__":=beq_iff_eq.mp q
    exact ⟨Code.quiet_builtin args (by decide+kernel),weight_le (Nat.le_trans (Nat.le_of_eq (show (Code.builtin "type.__call__" args).frames=0 by kernel_rfl)) (by decide)) (by kernel_rfl) (by kernel_rfl)⟩
 | call | func | forLoop | whileLoop | block=>exact ⟨rfl,Nat.le_of_ble_eq_true (by kernel_rfl)⟩
 | compStart e d it acc env=>exact ⟨rfl,weight_le (Nat.le_trans (Nat.le_of_eq (show (Code.compStart e d it acc env).frames=(if (Code.compStart e d it acc env).isFrame=true then 1 else 0) by kernel_rfl)) (if_le _)) (by kernel_rfl) (by kernel_rfl)⟩
 | compLoop e d it acc env=>exact ⟨rfl,weight_le (Nat.le_trans (Nat.le_of_eq (show (Code.compLoop e d it acc env).frames=(if (Code.compLoop e d it acc env).isFrame=true then 1 else 0) by kernel_rfl)) (if_le _)) (by kernel_rfl) (by kernel_rfl)⟩
 | _=>cases h
theorem look2 (P:Params):lookK P 2=some (o2 P):=by kernel_rfl
noncomputable def strKeyB (e:DictEntry):Bool:=match e.key with | .str ..=>true | _=>false
noncomputable def dictOfObj (o:Obj):Array DictEntry:=match o.data with | .dict es _=>es | _=>#[]
theorem o2_shape (P:Params):(o2 P).data= .dict (dictOfObj (o2 P)) 15:=by kernel_rfl
theorem o2_keys (P:Params):(dictOfObj (o2 P)).toList.all strKeyB=true:=by kernel_rfl
theorem o2_none (P:Params):nsFind (dictOfObj (o2 P)) ⟨⟨[115,121,115,46,114,101,99,117,114,115,105,111,110,108,105,109,105,116]⟩⟩=none:=by kernel_rfl
theorem limit_name:(("sys.recursionlimit":String):Str)=⟨⟨[115,121,115,46,114,101,99,117,114,115,105,111,110,108,105,109,105,116]⟩⟩:=by decide+kernel
theorem o2_limit (P:Params) (h:Heap) (hg:h.get? 2=some (o2 P)):h.NoLimit:=by
 refine ⟨fun name=>nsFind (dictOfObj (o2 P)) name,⟨o2 P,_,15,hg,o2_shape P,fun e he=>?_,fun _=>rfl⟩,?_⟩
 ·have:=List.all_eq_true.mp (o2_keys P) e (Array.mem_toList_iff.mpr he)
  unfold strKeyB at this
  split at this
  ·rename_i n t q;exact ⟨n,t,q⟩
  ·cases this
 ·show nsFind _ _=none
  rw [limit_name];exact o2_none P
theorem VK_limit (P:Params) (rules:Nat→Option ERule) (h:Heap) (hs:∀ a o,(VK P rules).look a=some o→h.get? a=some o):h.NoLimit:=o2_limit P h (hs 2 (o2 P) (look2 P))
theorem innF_ok (w:World) (V:RV) (hV:V.inn=innF):InnOk V pw_il0098_01 w:=by
 intro c r hr X Q E s hz
 rw [hV] at hr
 cases c with
 | func body env=>
   cases hr
   intro Γ p hΓ
   have z:=hz Γ p hΓ
   show wp _ Γ (.point [] fun _=>Sem.bind ((execs body env).onRaise (leaving env)) fun f=>match f with | .ret v=>ret v | _=>ret .none) _ _ p s
   have z:wp (model pw_il0098_01 w) Γ (Sem.bind (fExecs body env) fun f=>.pure (.done (.ret (match f with | .ret v=>v | _=>.none)))) (fun a _ s'=>Q a s') (fun e _ s'=>wpX (model pw_il0098_01 w) X (Sem.bind (noteFrame e env) fun _=>(fSetFlight e none).bind fun _=>.raise e) Q E s') p s:=z
   show wp _ Γ (Sem.bind ((execs body env).onRaise (leaving env)) fun f=>match f with | .ret v=>ret v | _=>ret .none) _ _ p s
   rw [Sem.wp_bind] at z⊢
   rw [Sem.wp_onRaise]
   unfold fExecs fSetFlight at z
   rw [←PySem.W.Fast.te12563942051412417395,←PySem.W.Fast.te5670386056902412789] at z
   refine Sem.wp_mono _ _ _ (fun f p' s' h=>?_) (fun e p' s' h=>?_) p s z
   ·cases f <;> exact h
   ·have:=h Γ p' hΓ
    rw [Sem.wp_bind] at this
    show wp _ Γ (leaving env e) _ _ p' s'
    unfold leaving
    show wp _ Γ (Sem.bind (noteFrame e env) fun _=>setFlight e none) _ _ p' s'
    rw [Sem.wp_bind]
    refine Sem.wp_mono _ _ _ (fun _ p2 s2 h2=>?_) (fun _ _ _ h2=>h2) _ _ this
    rw [Sem.wp_bind] at h2
    exact h2
 | whileLoop test body orelse env=>
   cases hr
   intro Γ p hΓ
   have z:=hz Γ p hΓ
   show wp _ Γ ((whileTurn test body orelse env).onRaise (fun x=>do noteFrame x env;theTreesLotGoes x)) _ _ p s
   rw [Sem.wp_onRaise]
   dsimp only at z
   unfold fWhileTurn fTrees at z
   rw [←PySem.W.Fast.te12362719219628433562,←PySem.W.Fast.te1623429502029203251] at z
   refine Sem.wp_mono _ _ _ (fun f p' s' h=>h) (fun e p' s' h=>?_) p s z
   have:=h Γ p' hΓ
   rw [Sem.wp_bind] at this
   show wp _ Γ (Sem.bind (noteFrame e env) fun _=>theTreesLotGoes e) _ _ p' s'
   rw [Sem.wp_bind]
   refine Sem.wp_mono _ _ _ (fun _ p2 s2 h2=>?_) (fun _ _ _ h2=>h2) _ _ this
   rw [Sem.wp_bind] at h2
   exact h2
 | _=>cases hr
theorem VR_ok (w:World) (rules:Nat→Option ERule) (rv:Nat→Option ERuleV) (fr:Option (List Env)):VOk (VR w.params rules rv fr) pw_il0098_01 w where
 inn:=innF_ok w _ rfl
 prog:=prog_eq.symm
 params:=rfl
 den:=fDen_eq
 okc:=okc_spec
 callT:=callTF_eq
 nolimit:=VK_limit w.params rules
theorem VK_ok (w:World) (rules:Nat→Option ERule):VOk (VK w.params rules) pw_il0098_01 w where
 inn:=fun _ _ h=>nomatch h
 prog:=prog_eq.symm
 params:=rfl
 den:=fDen_eq
 okc:=okc_spec
 callT:=callTF_eq
 nolimit:=VK_limit w.params rules
theorem VL_ok (w:World) (rules:Nat→Option ERule):VOk (VL w.params rules) pw_il0098_01 w where
 inn:=fun _ _ h=>nomatch h
 prog:=prog_eq.symm
 params:=rfl
 den:=fDen_eq
 okc:=okc_spec
 callT:=callTF_eq
 nolimit:=VK_limit w.params rules
end
section
open PySem.Calls
open Sem (wp)
noncomputable abbrev MM (w:World):Model:=model pw_il0098_01 w
noncomputable def lhsOf {β:Type} (view:Out→β) (x:Option Out):Option β×List Side:=(x.map view,(x.map fun o=>o.eqs.map (·.1)).getD [])
noncomputable def rhsOf {β:Type} (v:β) (x:Option Out):Option β×List Side:=(some v,(x.map fun o=>o.eqs.map (·.2)).getD [])
theorem eqs_of:∀ {l:List (Side×Side)},l.map (·.1)=l.map (·.2)→∀ e∈l,e.1=e.2
 | [],_,_,h=>nomatch h
 | p::l,h,e,he=>by
   simp only [List.map_cons,List.cons.injEq] at h
   rcases List.mem_cons.mp he with rfl | he
   ·exact h.1
   ·exact eqs_of h.2 e he
theorem use_run {β:Type} {view:Out→β} {v:β} {x:Option Out} (h:lhsOf view x=rhsOf v x):∃ o,x=some o∧view o=v∧∀ e∈o.eqs,e.1=e.2:=by
 cases x with
 | none=>cases (Prod.mk.inj h).1
 | some o=>
   obtain ⟨h1,h2⟩:=Prod.mk.inj h
   exact ⟨o,rfl,Option.some.inj h1,eqs_of h2⟩
noncomputable def mkR (name:String) (spec:List Nat→List Value→Option (List Prop×(Nat→Value))):ERule:=fun _ js c T=>match c with
 | .call f a=>match f with
   | .builtin id=>match Nat.beq (PySem.code id) (PySem.code name) with
     | true=>match a.kw with
       | []=>match spec js a.pos with
         | some r=>some ⟨[],r.1,fun b t u=>(.ok (.ret (r.2 (u 0))),T)⟩
         | none=>none
       | _::_=>none
     | false=>none
   | _=>none
 | _=>none
theorem mkR_ok {B:Nat} {V:RV} {w:World} {name:String} {spec:List Nat→List Value→Option (List Prop×(Nat→Value))}
 (h:∀ js args cs mk,spec js args=some (cs,mk)→(∀ p∈cs,p)→∀ (A:Around) (R:Result→Shared→Prop) (s:Shared),(∀ u k,R (.ok (.ret (mk u))) { s with toks:=k })→codeAny (MM w) A (.call (.builtin name) ⟨args,[]⟩) R s):
 RuleOk B V pw_il0098_01 w (mkR name spec):=by
 intro F js c T eo he h1 h2 A h₀ h' sz g dr tok os hF hA hd D hsz
 unfold mkR at he
 cases c with
 | call f a=>
   cases f with
   | builtin id=>
     dsimp only at he
     cases hc:Nat.beq (PySem.code id) (PySem.code name) with
     | false=>rw [hc] at he;cases he
     | true=>
       obtain rfl:id=name:=code_inj _ _ (Nat.eq_of_beq_eq_true hc)
       rw [hc] at he
       obtain ⟨pos,kw⟩:=a
       cases kw with
       | cons=>cases he
       | nil=>
         dsimp only at he
         cases hs:spec js pos with
         | none=>rw [hs] at he;cases he
         | some r=>
           rw [hs] at he
           obtain ⟨cs,mk⟩:=r
           cases he
           refine h js pos cs mk hs h2 A _ _ fun u k=>⟨sz - 900,k,fun _=>u,g,rfl,?_,ar2,GR.refl _ _,rfl⟩
           rw [show sz - 900+900=sz by exact ar1]
           exact D
   | _=>cases he
 | _=>cases he
theorem code_gives {w:World} {A:Around} {R:Result→Shared→Prop} {s:Shared} {T:String} {name:Str} {id:String} {B:Builtin} {self:Value} {rest:List Value} {m:Made} (slot:Slot T name id) (hT:s.TypeIs self T)
 (entry:entryFor table id=some B) (args:argsOk id ⟨self::rest,[]⟩) (g:Gives (B ⟨self::rest,[]⟩) m) (h:m.post (fun v s'=>R (.ok (.ret v)) s') s):
 codeAny (MM w) A (.call (.builtin id) ⟨self::rest,[]⟩) R s:=
 codeAny_call_builtin slot.plain entry (slot.check _ _ _ _ _ _ _ _ hT args (g _ w A R s h))
noncomputable def decR (P:Prop) [Decidable P] (js:List Nat):Option (List Prop×(Nat→Value)):=match js with
 | []=>none
 | j::_=>match j with
   | 0=>some ([¬P],fun _=>.bool false)
   | 1=>some ([P],fun _=>.bool true)
   | _+2=>some ([],fun _=>.bool (decide P))
theorem decR_spec {P:Prop} [Decidable P] {js cs mk} (h:decR P js=some (cs,mk)) (hc:∀ p∈cs,p):∃ b:Bool,(b=true↔P)∧mk=fun _=>.bool b:=by
 cases js with
 | nil=>cases h
 | cons j js=>
   rcases j with _ | _ | j
   ·cases h;exact ⟨false,⟨(fun x=>nomatch x),fun x=>absurd x (hc _ (.head _))⟩,rfl⟩
   ·cases h;exact ⟨true,⟨(fun _=>hc _ (.head _)),fun _=>rfl⟩,rfl⟩
   ·cases h;exact ⟨decide P,decide_eq_true_iff,rfl⟩
noncomputable def eqSpec (js:List Nat) (args:List Value):Option (List Prop×(Nat→Value)):=match args with
 | [.str x _,.str y _]=>decR (x=y) js
 | _=>none
noncomputable def neSpec (js:List Nat) (args:List Value):Option (List Prop×(Nat→Value)):=match args with
 | [.str x _,.str y _]=>decR (x≠y) js
 | _=>none
noncomputable def addSpec (_:List Nat) (args:List Value):Option (List Prop×(Nat→Value)):=match args with
 | [.str x _,.str y _]=>some ([(x++y).length≤sizeLine],fun u=>.str (x++y) u)
 | _=>none
noncomputable def inSpec (js:List Nat) (args:List Value):Option (List Prop×(Nat→Value)):=match args with
 | [.str x _,.str y _]=>decR ((Builtin.Str.occurrences x y 0 x.length 1).isEmpty=false) js
 | _=>none
noncomputable def ltSpec (js:List Nat) (args:List Value):Option (List Prop×(Nat→Value)):=match args with
 | [.int x _,.int y _]=>decR (x < y) js
 | _=>none
noncomputable def geSpec (js:List Nat) (args:List Value):Option (List Prop×(Nat→Value)):=match args with
 | [.int x _,.int y _]=>decR (x≥y) js
 | _=>none
noncomputable def gtSpec (js:List Nat) (args:List Value):Option (List Prop×(Nat→Value)):=match args with
 | [.int x _,.int y _]=>decR (x > y) js
 | _=>none
noncomputable def ieqSpec (js:List Nat) (args:List Value):Option (List Prop×(Nat→Value)):=match args with
 | [.int x _,.int y _]=>decR (x=y) js
 | _=>none
noncomputable def ineSpec (js:List Nat) (args:List Value):Option (List Prop×(Nat→Value)):=match args with
 | [.int x _,.int y _]=>decR (x≠y) js
 | _=>none
theorem eqSpec_ok {B:Nat} {V:RV} {w:World}:RuleOk B V pw_il0098_01 w (mkR "str.__eq__" eqSpec):=mkR_ok (by
 intro js args cs mk hs hc A R s hR
 unfold eqSpec at hs
 split at hs
 ·rename_i x t y u
  obtain ⟨b,hb,rfl⟩:=decR_spec hs hc
  refine code_gives F.slot_str_eq (typeIs_str _ _ _) F.entry_str_eq (F.args_str_eq_2 _ _) (gives_str_eq x y t u) ?_
  show R (.ok (.ret (.bool _))) _
  rw [show (x.cps.toList == y.cps.toList)=b from by rw [Bool.eq_iff_iff,hb,beq_iff_eq];exact ⟨fun z=>by obtain ⟨⟨l⟩⟩:=x;obtain ⟨⟨l'⟩⟩:=y;exact congrArg (fun l=>(⟨⟨l⟩⟩:Str)) z,fun z=>by rw [z]⟩]
  exact hR 0 s.toks
 ·cases hs)
theorem neSpec_ok {B:Nat} {V:RV} {w:World}:RuleOk B V pw_il0098_01 w (mkR "str.__ne__" neSpec):=mkR_ok (by
 intro js args cs mk hs hc A R s hR
 unfold neSpec at hs
 split at hs
 ·rename_i x t y u
  obtain ⟨b,hb,rfl⟩:=decR_spec hs hc
  refine code_gives F.slot_str_ne (typeIs_str _ _ _) F.entry_str_ne (F.args_str_ne_2 _ _) (gives_str_ne x y t u) ?_
  show R (.ok (.ret (.bool _))) _
  rw [show (x.cps.toList != y.cps.toList)=b from by rw [Bool.eq_iff_iff,hb,bne_iff_ne];exact not_congr ⟨fun z=>by obtain ⟨⟨l⟩⟩:=x;obtain ⟨⟨l'⟩⟩:=y;exact congrArg (fun l=>(⟨⟨l⟩⟩:Str)) z,fun z=>by rw [z]⟩]
  exact hR 0 s.toks
 ·cases hs)
theorem inSpec_ok {B:Nat} {V:RV} {w:World}:RuleOk B V pw_il0098_01 w (mkR "str.__contains__" inSpec):=mkR_ok (by
 intro js args cs mk hs hc A R s hR
 unfold inSpec at hs
 split at hs
 ·rename_i x t y u
  obtain ⟨b,hb,rfl⟩:=decR_spec hs hc
  refine code_gives F.slot_str_contains (typeIs_str _ _ _) F.entry_str_contains (F.args_str_contains_2 _ _) (gives_str_contains x y t u) ?_
  show R (.ok (.ret (.bool _))) _
  rw [show (!(Builtin.Str.occurrences x y 0 x.length 1).isEmpty)=b from by rw [Bool.eq_iff_iff,hb,Bool.not_eq_true']]
  exact hR 0 s.toks
 ·cases hs)
theorem ltSpec_ok {B:Nat} {V:RV} {w:World}:RuleOk B V pw_il0098_01 w (mkR "int.__lt__" ltSpec):=mkR_ok (by
 intro js args cs mk hs hc A R s hR
 unfold ltSpec at hs
 split at hs
 ·rename_i x t y u
  obtain ⟨b,hb,rfl⟩:=decR_spec hs hc
  refine code_gives F.slot_int_lt (typeIs_int _ _ _) F.entry_int_lt (F.args_int_lt_2 _ _) (gives_int_lt x y t u) ?_
  show R (.ok (.ret (.bool _))) _
  rw [show decide (x < y)=b from by rw [Bool.eq_iff_iff,hb,decide_eq_true_eq]]
  exact hR 0 s.toks
 ·cases hs)
theorem geSpec_ok {B:Nat} {V:RV} {w:World}:RuleOk B V pw_il0098_01 w (mkR "int.__ge__" geSpec):=mkR_ok (by
 intro js args cs mk hs hc A R s hR
 unfold geSpec at hs
 split at hs
 ·rename_i x t y u
  obtain ⟨b,hb,rfl⟩:=decR_spec hs hc
  refine code_gives F.slot_int_ge (typeIs_int _ _ _) F.entry_int_ge (F.args_int_ge_2 _ _) (gives_int_ge x y t u) ?_
  show R (.ok (.ret (.bool _))) _
  rw [show decide (x≥y)=b from by rw [Bool.eq_iff_iff,hb,decide_eq_true_eq]]
  exact hR 0 s.toks
 ·cases hs)
theorem gtSpec_ok {B:Nat} {V:RV} {w:World}:RuleOk B V pw_il0098_01 w (mkR "int.__gt__" gtSpec):=mkR_ok (by
 intro js args cs mk hs hc A R s hR
 unfold gtSpec at hs
 split at hs
 ·rename_i x t y u
  obtain ⟨b,hb,rfl⟩:=decR_spec hs hc
  refine code_gives F.slot_int_gt (typeIs_int _ _ _) F.entry_int_gt (F.args_int_gt_2 _ _) (gives_int_gt x y t u) ?_
  show R (.ok (.ret (.bool _))) _
  rw [show decide (x > y)=b from by rw [Bool.eq_iff_iff,hb,decide_eq_true_eq]]
  exact hR 0 s.toks
 ·cases hs)
theorem ieqSpec_ok {B:Nat} {V:RV} {w:World}:RuleOk B V pw_il0098_01 w (mkR "int.__eq__" ieqSpec):=mkR_ok (by
 intro js args cs mk hs hc A R s hR
 unfold ieqSpec at hs
 split at hs
 ·rename_i x t y u
  obtain ⟨b,hb,rfl⟩:=decR_spec hs hc
  refine code_gives F.slot_int_eq (typeIs_int _ _ _) F.entry_int_eq (F.args_int_eq_2 _ _) (gives_int_eq x y t u) ?_
  show R (.ok (.ret (.bool _))) _
  rw [show (x == y)=b from by rw [Bool.eq_iff_iff,hb,beq_iff_eq]]
  exact hR 0 s.toks
 ·cases hs)
theorem ineSpec_ok {B:Nat} {V:RV} {w:World}:RuleOk B V pw_il0098_01 w (mkR "int.__ne__" ineSpec):=mkR_ok (by
 intro js args cs mk hs hc A R s hR
 unfold ineSpec at hs
 split at hs
 ·rename_i x t y u
  obtain ⟨b,hb,rfl⟩:=decR_spec hs hc
  refine code_gives F.slot_int_ne (typeIs_int _ _ _) F.entry_int_ne (F.args_int_ne_2 _ _) (gives_int_ne x y t u) ?_
  show R (.ok (.ret (.bool _))) _
  rw [show (x != y)=b from by rw [Bool.eq_iff_iff,hb,bne_iff_ne]]
  exact hR 0 s.toks
 ·cases hs)
theorem addSpec_ok {B:Nat} {V:RV} {w:World}:RuleOk B V pw_il0098_01 w (mkR "str.__add__" addSpec):=mkR_ok (by
 intro js args cs mk hs hc A R s hR
 unfold addSpec at hs
 split at hs
 ·rename_i x t y u
  cases hs
  have hl:=hc _ (.head _)
  refine code_gives F.slot_str_add (typeIs_str _ _ _) F.entry_str_add (F.args_str_add_2 _ _) (gives_str_add x y t u) ?_
  by_cases h1:x.length=0
  ·have e:x++y=y:=by
    obtain ⟨⟨l⟩⟩:=x
    obtain ⟨⟨l'⟩⟩:=y
    have:l=[]:=List.eq_nil_of_length_eq_zero (by simpa [Str.length] using h1)
    subst this
    exact Str.empty_append _
   rw [if_pos (beq_iff_eq.mpr h1)]
   rw [e] at hR
   exact hR u s.toks
  ·rw [if_neg (by simpa using h1)]
   by_cases h2:y.length=0
   ·have e:x++y=x:=by
     obtain ⟨⟨l⟩⟩:=x
     obtain ⟨⟨l'⟩⟩:=y
     have:l'=[]:=List.eq_nil_of_length_eq_zero (by simpa [Str.length] using h2)
     subst this
     exact Str.append_empty _
    rw [if_pos (beq_iff_eq.mpr h2)]
    rw [e] at hR
    exact hR t s.toks
   ·rw [if_neg (by simpa using h2)]
    exact ⟨hl,hR _ _⟩
 ·cases hs)
noncomputable def mulSpec (_:List Nat) (args:List Value):Option (List Prop×(Nat→Value)):=match args with
 | [.str x _,.int n _]=>some ([x.length=1,0≤n,n≤65536],fun u=>.str ⟨(List.replicate n.toNat (x.cps.getD 0 0)).toArray⟩ u)
 | _=>none
theorem fold_rep (c:Nat):∀ (n:Nat) (a:Array Nat),(List.replicate n #[c]).foldl (·++·) a=a++(List.replicate n c).toArray
 | 0,a=>by simp
 | n+1,a=>by
   rw [List.replicate_succ,List.foldl_cons,fold_rep c n,List.replicate_succ]
   apply Array.ext'
   simp
theorem mulSpec_ok {B:Nat} {V:RV} {w:World}:RuleOk B V pw_il0098_01 w (mkR "str.__mul__" mulSpec):=mkR_ok (by
 intro js args cs mk hs hc A R s hR
 unfold mulSpec at hs
 split at hs
 ·rename_i x t n u
  cases hs
  have h1:x.length=1:=hc _ (.head _)
  have h2:0≤n:=hc _ (.tail _ (.head _))
  have h3:n≤65536:=hc _ (.tail _ (.tail _ (.head _)))
  obtain ⟨⟨l⟩⟩:=x
  obtain ⟨c,rfl⟩:∃ c,l=[c]:=by
   match l,h1 with
   | [c],_=>exact ⟨c,rfl⟩
  have hsz:sizeLine=16777216:=by decide
  refine code_gives F.slot_str_mul (typeIs_str _ _ _) F.entry_str_mul (F.args_str_mul_2 _ _) (gives_str_mul _ n t u (by simp;lia) (fun a b=>?_) (fun a b=>?_)) ?_
  ·have h4:1≤n:=by lia
   have:(2 ^ 63 - 1:Int) / n≥1:=(Int.le_ediv_iff_mul_le (by lia)).mpr (by lia)
   show ¬((1:Int) > _)
   lia
  ·show Builtin.Str.tooLong (1 * n.toNat)=false
   unfold Builtin.Str.tooLong
   simp
   lia
  ·by_cases q:n < 1
   ·rw [if_pos q]
    have:n.toNat=0:=by lia
    rw [this] at hR
    refine ⟨by decide,?_⟩
    exact hR _ _
   ·rw [if_neg q]
    by_cases q2:(n == 1 || (⟨⟨[c]⟩⟩:Str).length == 0)=true
    ·rw [if_pos q2]
     have:n=1:=by simpa [Str.length] using q2
     subst this
     exact hR t s.toks
    ·rw [if_neg q2]
     have e:(List.replicate n.toNat (⟨[c]⟩:Array Nat)).foldl (·++·) #[]=(List.replicate n.toNat c).toArray:=by
      have:=fold_rep c n.toNat #[]
      rw [Array.empty_append] at this
      exact this
     show _∧_
     rw [e]
     refine ⟨?_,hR _ _⟩
     show (List.replicate n.toNat c).toArray.size≤_
     simp
     lia
 ·cases hs)
noncomputable def strIt (o:Obj):Option (Str×Tok×Int×Tok):=match o with
 | ⟨.type ty,_,.fields vs,_⟩=>match Nat.beq (PySem.code ty) (PySem.code "str_ascii_iterator") with
   | true=>match vs.toList with
     | [.str s t,.int i z]=>some (s,t,i,z)
     | _=>none
   | false=>none
 | _=>none
noncomputable def excCells (b:Nat) (nm:String):List Cell:=[(b+899,{ cls:=.type nm,data:=.fields #[.ref (b+898),.none,.none,.none,.bool false,.none] }),(b+898,{ cls:=.type "tuple",data:=.seq #[] })]
noncomputable def mkH (name:String) (spec:List Nat→List Value→List Cell→Option EOut):ERule:=fun _ js c T=>match c with
 | .call f a=>match f with
   | .builtin id=>match Nat.beq (PySem.code id) (PySem.code name) with
     | true=>match a.kw with
       | []=>spec js a.pos T
       | _::_=>none
     | false=>none
   | _=>none
 | _=>none
noncomputable def CodeOk (B:Nat) (V:RV) (w:World) (c:Code) (T:List Cell) (eo:EOut):Prop:=
 ∀ (A:Around) (h₀:Fr) (h:Heap) (sz:Nat) (g:Array GenState) (dr:Drawn) (tok:Nat) (os:OsState),A.handled=none→A.depth≤B→Rep V h₀ h T sz→913≤sz→
     codeAny (MM w) A c (fun r s'=>∃ b t u g',(eo.post b t u).1=r∧Rep V h₀ s'.heap (eo.post b t u).2 (b+900)∧13≤b∧GR V g g'∧s'=⟨s'.heap,g',dr,t,os⟩) ⟨h,g,dr,tok,os⟩
theorem mkH_ok {B:Nat} {V:RV} {w:World} {name:String} {spec:List Nat→List Value→List Cell→Option EOut}
 (H:∀ js args T eo,spec js args T=some eo→(∀ e∈eo.eqs,e.1=e.2)→(∀ p∈eo.conds,p)→CodeOk B V w (.call (.builtin name) ⟨args,[]⟩) T eo):
 RuleOk B V pw_il0098_01 w (mkH name spec):=by
 intro F js c T eo he h1 h2 A h₀ h' sz g dr tok os hF hA hd D hsz
 unfold mkH at he
 cases c with
 | call f a=>
   cases f with
   | builtin id=>
     dsimp only at he
     cases hc:Nat.beq (PySem.code id) (PySem.code name) with
     | false=>rw [hc] at he;cases he
     | true=>
       obtain rfl:id=name:=code_inj _ _ (Nat.eq_of_beq_eq_true hc)
       rw [hc] at he
       obtain ⟨pos,kw⟩:=a
       cases kw with
       | cons=>cases he
       | nil=>exact H js pos T eo he h1 h2 A h₀ h' sz g dr tok os hA hd D hsz
   | _=>cases he
 | _=>cases he
noncomputable def strNextS (js:List Nat) (args:List Value) (T:List Cell):Option EOut:=match args with
 | [.ref it]=>match js with
   | [j,d]=>(T[j]?).bind fun x=>(strIt x.2).bind fun r=>match d with
     | 0=>some ⟨[(.nat it,.nat x.1)],[r.1.cps[r.2.2.1.toNat]? =none],fun b t u=>(.error (.ref (b+899)),excCells b "StopIteration"++T.set j (x.1,Obj.mapFields (·.setIfInBounds 0 .none) x.2))⟩
     | _+1=>some ⟨[(.nat it,.nat x.1)],[r.1.cps[r.2.2.1.toNat]? =some (r.1.cps.getD r.2.2.1.toNat 0)],fun b t u=>(.ok (.ret (.str ⟨#[r.1.cps.getD r.2.2.1.toNat 0]⟩ (u 0))),T.set j (x.1,Obj.mapFields (·.setIfInBounds 1 (.int (r.2.2.1+1) 0)) x.2))⟩
   | _=>none
 | _=>none
noncomputable abbrev strNextR:ERule:=mkH "str_ascii_iterator.__next__" strNextS
theorem strIt_spec {o:Obj} {r} (h:strIt o=some r):o.cls= .type "str_ascii_iterator"∧o.data= .fields #[.str r.1 r.2.1,.int r.2.2.1 r.2.2.2]:=by
 obtain ⟨c,d,dt,sl⟩:=o
 unfold strIt at h
 split at h
 ·rename_i ty d' vs sl' heq
  cases heq
  cases hc:Nat.beq (PySem.code ty) (PySem.code "str_ascii_iterator") with
  | false=>rw [hc] at h;cases h
  | true=>
    rw [hc] at h
    obtain rfl:ty=_:=code_inj _ _ (Nat.eq_of_beq_eq_true hc)
    dsimp only at h
    split at h
    ·rename_i s t i z hv
     cases h
     obtain ⟨l⟩:=vs
     simp only at hv
     subst hv
     exact ⟨rfl,rfl⟩
    ·cases h
 ·cases h
theorem mapFields_ok {o:Obj} {vs:Array Value} (f:Array Value→Array Value) (h:o.data= .fields vs):(Obj.mapFields f o).isFreed=false:=Obj.isFreed_of_fields (Obj.data_mapFields h f)
theorem newExc_rule {V:RV} {w:World} {A:Around} {α:Type} {Q:α→Shared→Prop} {E:Value→Shared→Prop} {h₀:Fr} {h:Heap} {T:List Cell} {sz:Nat} {g:Array GenState} {dr:Drawn} {tok:Nat} {os:OsState} (hA:A.handled=none) (D:Rep V h₀ h T sz)
 (hE:∀ h',Rep V h₀ h' ((sz+1,{ cls:=.type "StopIteration",data:=.fields #[.ref sz,.none,.none,.none,.bool false,.none] })::(sz,{ cls:=.type "tuple",data:=.seq #[] })::T) (sz+2)→E (.ref (sz+1)) ⟨h',g,dr,tok,os⟩):
 wpAny (MM w) A (newExc (.type "StopIteration") [] >>= fun e=>(raiseNew e:Sem α)) Q E ⟨h,g,dr,tok,os⟩:=by
 refine wpAny_bind ?_
 simp only [newExc,newTuple]
 have D2:=D.alloc (x:={ cls:=.type "tuple",data:=.seq #[] }) rfl
 refine wpAny_bind (wpAny_newObj_type ?_ (by size_fits))
 refine wpAny_bind (m:=firstArgMember _ _) (wpAny_of_eq (a:=Value.none) (by first | rfl | (simp only [firstArgMember];rfl)) ?_)
 refine wpAny_newObj_type ?_ (by size_fits)
 have D3:=D2.alloc (x:={ cls:=.type "StopIteration",data:=.fields #[.ref sz,.none,.none,.none,.bool false,.none] }) rfl
 simp only [raiseNew]
 refine wpAny_bind (wpAny_handled ?_)
 rw [hA]
 refine wpAny_bind (wpAny_pure (wpAny_throw ?_))
 have e1:h.objs.size=sz:=D.size
 have e2:(h.push { cls:=.type "tuple",data:=.seq #[] }).objs.size=sz+1:=D2.size
 have e3:(⟨h.push { cls:=.type "tuple",data:=.seq #[] },g,dr,tok,os⟩:Shared).heap.objs.size=sz+1:=e2
 rw [e3]
 refine hE _ ?_
 rw [e1]
 exact D3
theorem strNextR_ok {B:Nat} {V:RV} {w:World}:RuleOk B V pw_il0098_01 w strNextR:=mkH_ok (by
 intro js args T eo he h1 h2 A h₀ h sz g dr tok os hA hd D hsz
 unfold strNextS at he
 split at he
 ·rename_i it
  split at he
  ·rename_i j d
   replace he:=bndE he;obtain ⟨x,hT,he⟩:=he
   replace he:=bndE he;obtain ⟨r,hs,he⟩:=he
   obtain ⟨hcls,hdat⟩:=strIt_spec hs
   have hx:=D.own _ _ hT
   have ea:it=x.1:=by
    cases d with
    | zero=>cases he;exact Side.nat.inj (h1 _ (.head _))
    | succ d=>cases he;exact Side.nat.inj (h1 _ (.head _))
   subst ea
   have hTy:(⟨h,g,dr,tok,os⟩:Shared).TypeIs (.ref x.1) "str_ascii_iterator":=⟨x.2,hx,hcls⟩
   refine codeAny_call_builtin F.slot_str_ascii_iterator_next.plain F.entry_str_ascii_iterator_next (F.slot_str_ascii_iterator_next.check _ _ _ _ _ _ _ _ hTy (F.args_str_ascii_iterator_next_1 _) ?_)
   show wpAny _ _ (field (.ref x.1) 0 >>= _) _ _ _
   refine wpAny_bind (wpAny_field hx hdat (x:=.str r.1 r.2.1) rfl ?_)
   show wpAny _ _ (field (.ref x.1) 1 >>= _) _ _ _
   refine wpAny_bind (wpAny_field hx hdat (x:=.int r.2.2.1 r.2.2.2) rfl ?_)
   cases d with
   | zero=>
     cases he
     have hn:r.1.cps[r.2.2.1.toNat]? =none:=h2 _ (.head _)
     dsimp only
     rw [hn]
     refine wpAny_bind (wpAny_rule (wpAny_bind (wpAny_setField hx hdat (by simp) (wpAny_bind (wpAny_letGo ?_)))))
     have D1:=D.update (f:=Obj.mapFields (·.setIfInBounds 0 .none)) hT (mapFields_ok _ hdat)
     refine newExc_rule (A:=A.in1) hA D1 fun h' D3=>⟨sz+2 - 900,tok,fun _=>0,g,?_,?_,by exact ar9,GR.refl _ _,rfl⟩
     ·show Except.error (Value.ref (sz+2 - 900+899))=_
      rw [show sz+2 - 900+899=sz+1 by exact ar6]
     ·rw [show sz+2 - 900+900=sz+2 by exact ar8]
      show Rep V h₀ h' (excCells (sz+2 - 900) "StopIteration"++_) _
      unfold excCells
      rw [show sz+2 - 900+899=sz+1 by exact ar6,show sz+2 - 900+898=sz by exact ar7]
      exact D3
   | succ d=>
     cases he
     have hn:r.1.cps[r.2.2.1.toNat]? =some (r.1.cps.getD r.2.2.1.toNat 0):=h2 _ (.head _)
     dsimp only
     rw [hn]
     refine wpAny_bind (wpAny_setField hx hdat (by simp) (wpAny_bind (wpAny_mkStr (wpAny_pure ?_))))
     have D1:=D.update (f:=Obj.mapFields (·.setIfInBounds 1 (.int (r.2.2.1+1) 0))) hT (mapFields_ok _ hdat)
     refine ⟨sz - 900,tok+1,fun _=>tok,g,rfl,?_,by exact ar2,GR.refl _ _,rfl⟩
     rw [show sz - 900+900=sz by exact ar1]
     exact D1
  ·cases he
 ·cases he)
noncomputable abbrev PFin:=PySem.Fin
noncomputable def tokV:Value→Tok
 | .int _ t=>t
 | .str _ t=>t
 | .float _ t=>t
 | .bytes _ t=>t
 | _=>0
noncomputable def tokO (o:Obj):List Tok:=match o.data with
 | .dict es _=>es.toList.flatMap fun e=>[tokV e.key,tokV e.val]
 | .fields vs=>vs.toList.map tokV
 | .seq vs _=>vs.toList.map tokV
 | _=>[]
noncomputable def tokT (T:List Cell) (i:Nat):Tok:=(T.flatMap fun c=>tokO c.2).getD i 0
noncomputable def tokR:PFin ⊕ Value→Tok
 | .inl (.done (.ret v))=>tokV v
 | _=>0
noncomputable abbrev St:=(Nat→Tok)→List Cell
structure Want where
 r:Tok→PFin ⊕ Value
 conds:List Prop
 st:St
noncomputable def lhsW (x:Option Out):Option ((PFin ⊕ Value)×List Prop×List Cell×List Side):=x.map fun o=>(o.r,o.conds,o.T,o.eqs.map (·.1))
noncomputable def rhsW (v:Nat→Want) (x:Option Out):Option ((PFin ⊕ Value)×List Prop×List Cell×List Side):=x.map fun o=>((v o.sz).r (tokR o.r),(v o.sz).conds,(v o.sz).st (tokT o.T),o.eqs.map (·.2))
noncomputable def isOk (x:Option Out):Bool:=match x with | some _=>true | none=>false
noncomputable abbrev PathOk (v:Nat→Want) (x:Option Out):Prop:=(isOk x,lhsW x)=(true,rhsW v x)
theorem PathOk.use {v:Nat→Want} {x:Option Out} (h:PathOk v x):∃ o,x=some o∧(∀ e∈o.eqs,e.1=e.2)∧∃ tr τ,o.r=(v o.sz).r tr∧o.conds=(v o.sz).conds∧o.T=(v o.sz).st τ:=by
 obtain ⟨h1,h2⟩:=Prod.mk.inj h
 cases x with
 | none=>cases h1
 | some o=>
   have h3:=Option.some.inj h2
   obtain ⟨a,h3⟩:=Prod.mk.inj h3
   obtain ⟨b,h3⟩:=Prod.mk.inj h3
   obtain ⟨c,d⟩:=Prod.mk.inj h3
   exact ⟨o,rfl,eqs_of d,_,_,a,b,c⟩
structure Orc where
 sk:Nat
 ls:List (Nat×Nat)
 cs:Nat
 cl:List (Ev×Nat)
noncomputable abbrev runO (P:Params) (rules:Nat→Option ERule) (ρ:Unk) (n:Nat) (t:Sem PFin) (T:List Cell) (b tk:Nat) (o:Orc):Option Out:=
 run (VK P rules) ρ n none false .base 0 t T (b+900) 0 tk 0 0 o.sk o.ls o.cs o.cl [] []
section
variable {B:Nat} {w:World} {rules:Nat→Option ERule} {A:Around} {Q:PFin→Shared→Prop} {E:Value→Shared→Prop} {h₀:Fr} {h:Heap} {g:Array GenState} {dr:Drawn} {os:OsState}
theorem by_pathV {V:RV} (O:VOk V pw_il0098_01 w) (HR:∀ i R,V.rules i=some R→RuleOk (B+48) V pw_il0098_01 w R) {n:Nat} {t:Sem PFin} {T:List Cell} {b tk:Nat} {o:Orc} {v:Unk→Nat→Want}
 (path:∀ ρ,PathOk (v ρ) (run V ρ n none false .base 0 t T (b+900) 0 tk 0 0 o.sk o.ls o.cs o.cl [] []))
 (hB:B≤800) (hA:A.depth≤B∧A.handled=none) (D:Rep V h₀ h T (b+900)) (hb:13≤b)
 (fin:∀ ρ sz,(∀ p∈(v ρ sz).conds,p)∧∀ h' g' tr τ tok,913≤sz→GR V g g'→Rep V h₀ h' ((v ρ sz).st τ) sz→(match (v ρ sz).r tr with
   | .inl fin=>Q fin ⟨h',g',dr,tok,os⟩
   | .inr e=>E e ⟨h',g',dr,tok,os⟩)) (hfr:FrOk V.fr A:=by intro l e;exact nomatch (show (none:Option (List Env))=some l from e)) (HV:∀ i R,V.rv i=some R→RuleVOk (B+48) V pw_il0098_01 w R:=by intro i R e;exact nomatch (show (none:Option ERuleV)=some R from e)):
 wpAny (MM w) A t Q E ⟨h,g,dr,tk,os⟩:=by
 refine wpX_any ?_
 exact run_sound (Q₀:=Q) (E₀:=E) (A₀:=A) (h₀:=h₀) (g₀:=g) (dr:=dr) (os:=os) hfr hB O HR HV n ⟨fun _=>0,fun _=>0,fun _ _=>0,fun _=>default,fun _=>[],fun _ _=>.none⟩ none false .base 0 t T (b+900) 0 tk 0 0 o.sk o.ls o.cs o.cl [] [] h g (GR.refl _ _)
  (fun ρ _=>by
    obtain ⟨out,h1,h2,tr,τ,h3,h4,h5⟩:=(path ρ).use
    obtain ⟨q1,q2⟩:=fin ρ out.sz
    refine ⟨out,h1,h2,by rw [h4];exact q1,fun h' g' D' hg hsz=>?_⟩
    rw [h5] at D'
    have:=q2 h' g' tr τ out.toks hsz hg D'
    rw [←h3] at this
    exact this) D (ar10) hA hA.1 (by intro e;cases e)
theorem by_path (HR:∀ i R,rules i=some R→RuleOk (B+48) (VK w.params rules) pw_il0098_01 w R) {n:Nat} {t:Sem PFin} {T:List Cell} {b tk:Nat} {o:Orc} {v:Unk→Nat→Want}
 (path:∀ ρ,PathOk (v ρ) (runO w.params rules ρ n t T b tk o))
 (hB:B≤800) (hA:A.depth≤B∧A.handled=none) (D:Rep (VK w.params rules) h₀ h T (b+900)) (hb:13≤b)
 (fin:∀ ρ sz,(∀ p∈(v ρ sz).conds,p)∧∀ h' tr τ tok,913≤sz→Rep (VK w.params rules) h₀ h' ((v ρ sz).st τ) sz→(match (v ρ sz).r tr with
   | .inl fin=>Q fin ⟨h',g,dr,tok,os⟩
   | .inr e=>E e ⟨h',g,dr,tok,os⟩)):
 wpAny (MM w) A t Q E ⟨h,g,dr,tk,os⟩:=
 by_pathV (V:=VK w.params rules) (VK_ok w rules) HR path hB hA D hb fun ρ sz=>⟨(fin ρ sz).1,fun h' g' tr τ tok hsz hg D'=>by
  obtain rfl:=hg.1 rfl
  exact (fin ρ sz).2 h' tr τ tok hsz D'⟩
end
noncomputable def Pb (P:Params) (b:Bool):Params:={ P with followText:=fun s=>match Nat.beq (PySem.code s) (PySem.code "special-get-raises") with
 | true=>b
 | false=>P.followText s }
theorem Pb_self (P:Params):Pb P (P.followText "special-get-raises")=P:=by
 have h:(fun s=>match Nat.beq (PySem.code s) (PySem.code "special-get-raises") with
  | true=>P.followText "special-get-raises"
  | false=>P.followText s)=P.followText:=by
  funext s
  cases hc:Nat.beq (PySem.code s) (PySem.code "special-get-raises") with
  | false=>rfl
  | true=>rw [code_inj _ _ (Nat.eq_of_beq_eq_true hc)]
 unfold Pb
 rw [h]
@[elab_as_elim] theorem fP2 {C:Params→Prop} (h0:∀ P,C (Pb P false)) (h1:∀ P,C (Pb P true)) (P:Params):C P:=by
 have h:∀ b,C (Pb P b):=fun b=>by
  cases b
  ·exact h0 P
  ·exact h1 P
 exact Pb_self P▸h _
theorem forP {C:Params→Prop} (h:∀ P b,C (Pb P b)) (P:Params):C P:=Pb_self P▸h P _
noncomputable def frO (es:List DictEntry) (n:Nat):Obj:=⟨.type "frame",none,.dict ⟨es⟩ n,⟨[]⟩⟩
noncomputable def envF (o:Obj) (a L:Addr):Env:=match o.data with
 | .func fd=>{ scope:=fd.scope,locals:=L,globals:=fd.globals,cells:=[],qual:=fd.qualname++".<locals>.",func:=some a,code:=fd.code,frame:=some L,builtins:=fd.builtins }
 | _=>default
noncomputable def loopC (s:Stmt) (it:Value) (env:Env):Code:=match s with
 | .For tgt _ body orelse _=>.forLoop tgt it body orelse env
 | .While test body orelse _=>.whileLoop test body orelse env
 | _=>default
noncomputable def stm (f:Stmt) (j:Nat):Stmt:=(fB f).getD j default
noncomputable def itO (ty:String) (vs:List Value):Obj:=⟨.type ty,none,.fields ⟨vs⟩,⟨[]⟩⟩
theorem code_path {B:Nat} {w:World} {rules:Nat→Option ERule} {A:Around} {R:Result→Shared→Prop} {h₀:Fr} {h:Heap} {g:Array GenState} {dr:Drawn} {os:OsState}
 (HR:∀ i R,rules i=some R→RuleOk (B+48) (VK w.params rules) pw_il0098_01 w R) {c:Code} {n:Nat} {T:List Cell} {b tk:Nat} {o:Orc} {v:Unk→Nat→Want}
 (path:∀ ρ,PathOk (v ρ) (runO w.params rules ρ n (fDen c) T b tk o))
 (hw:c.weight≤4) (hB:B≤800) (hA:A.depth+4≤B∧A.handled=none) (D:Rep (VK w.params rules) h₀ h T (b+900)) (hb:13≤b)
 (fin:∀ ρ sz,(∀ p∈(v ρ sz).conds,p)∧∀ h' tr τ tok,913≤sz→Rep (VK w.params rules) h₀ h' ((v ρ sz).st τ) sz→(match (v ρ sz).r tr with
   | .inl (.done f)=>R (.ok f) ⟨h',g,dr,tok,os⟩
   | .inl (.again c')=>c'.quiet=true∧codeAny (MM w) A c' R ⟨h',g,dr,tok,os⟩
   | .inr e=>R (.error e) ⟨h',g,dr,tok,os⟩)):
 codeAny (MM w) A c R ⟨h,g,dr,tk,os⟩:=by
 refine codeAny_of_tree ?_
 show wpAny _ _ (denote table c) _ _ _
 rw [←fDen_eq]
 refine by_path (B:=B) HR path hB ⟨?_,?_⟩ D hb fun ρ sz=>?_
 ·show A.depth+c.weight≤B
  lia
 ·exact hA.2
 ·obtain ⟨h1,h2⟩:=fin ρ sz
  refine ⟨h1,fun h' tr τ tok hsz D'=>?_⟩
  have:=h2 h' tr τ tok hsz D'
  revert this
  cases (v ρ sz).r tr with
  | inl f=>cases f <;> exact id
  | inr e=>exact id
theorem inj_of_nodup {T:List Cell} (h:(T.map (·.1)).Nodup):∀ (i j:Nat) (c c':Cell),T[i]? =some c→T[j]? =some c'→c.1=c'.1→i=j:=by
 intro i j c c' h1 h2 h3
 have a1:(T.map (·.1))[i]? =some c.1:=by rw [List.getElem?_map,h1];rfl
 have a2:(T.map (·.1))[j]? =some c.1:=by rw [List.getElem?_map,h2,h3];rfl
 obtain ⟨l1,e1⟩:=List.getElem?_eq_some_iff.mp a1
 obtain ⟨l2,e2⟩:=List.getElem?_eq_some_iff.mp a2
 exact (List.getElem_inj h).mp (e1.trans e2.symm)
theorem nodup_of_inj {T:List Cell} (h:∀ (i j:Nat) (c c':Cell),T[i]? =some c→T[j]? =some c'→c.1=c'.1→i=j):(T.map (·.1)).Nodup:=by
 rw [List.nodup_iff_pairwise_ne,List.pairwise_iff_getElem]
 intro i j hi hj hij e
 simp only [List.getElem_map] at e
 rw [List.length_map] at hi hj
 have:=h i j T[i] T[j] (List.getElem?_eq_getElem _) (List.getElem?_eq_getElem _) e
 lia
theorem mem_cell {T:List Cell} {a:Addr} (h:a∈T.map (·.1)):∃ (i:Nat) (c:Cell),T[i]? =some c∧c.1=a:=by
 obtain ⟨c,hc,rfl⟩:=List.mem_map.mp h
 obtain ⟨i,hi⟩:=List.mem_iff_getElem?.mp hc
 exact ⟨i,c,hi,rfl⟩
theorem cell_mem {T:List Cell} {i:Nat} {c:Cell} (h:T[i]? =some c):c.1∈T.map (·.1):=List.mem_map_of_mem (List.mem_of_getElem? h)
theorem Rep.nodup {V:RV} {h₀:Fr} {h:Heap} {T:List Cell} {sz:Nat} (D:Rep V h₀ h T sz):(T.map (·.1)).Nodup:=nodup_of_inj D.inj
theorem Rep.ofMem {V:RV} {h₀:Fr} {h:Heap} {T:List Cell} {sz:Nat} (size:h.objs.size=sz) (own:∀ c∈T,h.get? c.1=some c.2) (nd:(T.map (·.1)).Nodup)
 (stat:∀ a o,V.look a=some o→h.get? a=some o) (sep:∀ a∈T.map (·.1),V.look a=none) (frame:∀ b o,h₀ b=some o→h.get? b=some o) (fresh:∀ a∈T.map (·.1),h₀ a=none):Rep V h₀ h T sz:=
 ⟨size,fun i c e=>own c (List.mem_of_getElem? e),inj_of_nodup nd,stat,fun i c e=>sep _ (cell_mem e),frame,fun i c e=>fresh _ (cell_mem e)⟩
theorem Rep.ownM {V:RV} {h₀:Fr} {h:Heap} {T:List Cell} {sz:Nat} (D:Rep V h₀ h T sz) {c:Cell} (hc:c∈T):h.get? c.1=some c.2:=by
 obtain ⟨i,hi⟩:=List.mem_iff_getElem?.mp hc
 exact D.own i c hi
theorem Rep.sepM {V:RV} {h₀:Fr} {h:Heap} {T:List Cell} {sz:Nat} (D:Rep V h₀ h T sz) {a:Addr} (ha:a∈T.map (·.1)):V.look a=none:=by
 obtain ⟨i,c,h1,rfl⟩:=mem_cell ha
 exact D.sep i c h1
theorem Rep.freshM {V:RV} {h₀:Fr} {h:Heap} {T:List Cell} {sz:Nat} (D:Rep V h₀ h T sz) {a:Addr} (ha:a∈T.map (·.1)):h₀ a=none:=by
 obtain ⟨i,c,h1,rfl⟩:=mem_cell ha
 exact D.fresh i c h1
theorem Rep.lt {V:RV} {h₀:Fr} {h:Heap} {T:List Cell} {sz:Nat} (D:Rep V h₀ h T sz) {a:Addr} (ha:a∈T.map (·.1)):a < sz:=by
 obtain ⟨i,c,h1,rfl⟩:=mem_cell ha
 rw [←D.size];exact Heap.lt_size (D.own i c h1)
theorem Rep.sub {V:RV} {h₀:Fr} {h:Heap} {S T:List Cell} {sz:Nat} (D:Rep V h₀ h T sz) (sl:S.Sublist T):Rep V h₀ h S sz:=
 have sm:(S.map (·.1)).Sublist (T.map (·.1)):=sl.map _
 .ofMem D.size (fun c hc=>D.ownM (sl.subset hc)) (D.nodup.sublist sm) D.stat (fun a ha=>D.sepM (sm.subset ha)) D.frame fun a ha=>D.freshM (sm.subset ha)
theorem Rep.drop {V:RV} {h₀:Fr} {h:Heap} {X T:List Cell} {sz:Nat} (D:Rep V h₀ h (X++T) sz):Rep V h₀ h T sz:=D.sub (List.sublist_append_right X T)
noncomputable def frOf (h:Heap) (S:List Cell):Fr:=fun a=>match (S.map (·.1)).contains a with
 | true=>none
 | false=>h.get? a
theorem frOf_in {h:Heap} {S:List Cell} {a:Addr} (ha:a∈S.map (·.1)):frOf h S a=none:=by
 unfold frOf
 rw [List.contains_iff_mem.mpr ha]
theorem frOf_out {h:Heap} {S:List Cell} {a:Addr} (ha:a∉S.map (·.1)):frOf h S a=h.get? a:=by
 unfold frOf
 rw [show (S.map (·.1)).contains a=false from by rw [Bool.eq_false_iff];exact fun q=>ha (List.contains_iff_mem.mp q)]
theorem Rep.base {V:RV} {h₀:Fr} {h:Heap} {S R:List Cell} {sz:Nat} (D:Rep V h₀ h (S++R) sz):Rep V (frOf h S) h S sz:=by
 have D':=D.sub (List.sublist_append_left S R)
 refine .ofMem D.size (fun c hc=>D'.ownM hc) D'.nodup D.stat (fun a ha=>D'.sepM ha) (fun b o e=>?_) fun a ha=>frOf_in ha
 by_cases hb:b∈S.map (·.1)
 ·rw [frOf_in hb] at e;cases e
 ·rw [frOf_out hb] at e;exact e
theorem Rep.glue {V:RV} {h₀:Fr} {h h':Heap} {S S' R:List Cell} {sz sz':Nat} (D:Rep V h₀ h (S++R) sz) (D':Rep V (frOf h S) h' S' sz'):Rep V h₀ h' (S'++R) sz':=by
 have nd:=D.nodup
 rw [List.map_append] at nd
 obtain ⟨n1,n2,n3⟩:=List.nodup_append.mp nd
 have out:∀ a∈R.map (·.1),a∉S.map (·.1):=fun a ha hb=>n3 a hb a ha rfl
 have memR:∀ a∈R.map (·.1),a∈(S++R).map (·.1):=fun a ha=>by rw [List.map_append];exact List.mem_append_right _ ha
 have hR:∀ c∈R,frOf h S c.1=some c.2:=fun c hc=>by
  rw [frOf_out (out _ (List.mem_map_of_mem hc))]
  exact D.ownM (List.mem_append_right _ hc)
 have keep:∀ b o,h₀ b=some o→frOf h S b=some o:=fun b o e=>by
  rw [frOf_out fun hb=>?_]
  ·exact D.frame b o e
  ·have:=D.freshM (a:=b) (by rw [List.map_append];exact List.mem_append_left _ hb)
   rw [e] at this;cases this
 refine .ofMem D'.size (fun c hc=>?_) ?_ D'.stat (fun a ha=>?_) (fun b o e=>D'.frame b o (keep b o e)) fun a ha=>?_
 ·rcases List.mem_append.mp hc with q | q
  ·exact D'.ownM q
  ·exact D'.frame _ _ (hR c q)
 ·rw [List.map_append]
  refine List.nodup_append.mpr ⟨D'.nodup,n2,fun a ha b hb e=>?_⟩
  subst e
  obtain ⟨c,hc,rfl⟩:=List.mem_map.mp hb
  have:=D'.freshM ha
  rw [hR c hc] at this;cases this
 ·rw [List.map_append] at ha
  rcases List.mem_append.mp ha with q | q
  ·exact D'.sepM q
  ·exact D.sepM (memR a q)
 ·rw [List.map_append] at ha
  rcases List.mem_append.mp ha with q | q
  ·cases e:h₀ a with
   | none=>rfl
   | some o=>
     have:=D'.freshM q
     rw [keep a o e] at this;cases this
  ·exact D.freshM (memR a q)
noncomputable def nodupB:List Nat→Bool
 | []=>true
 | a::l=>match l.any (Nat.beq a) with
   | true=>false
   | false=>nodupB l
theorem nodupB_spec:∀ {l:List Nat},nodupB l=true→l.Nodup
 | [],_=>List.Pairwise.nil
 | a::l,h=>by
   unfold nodupB at h
   split at h
   ·cases h
   ·rename_i q
    refine List.nodup_cons.mpr ⟨fun m=>?_,nodupB_spec h⟩
    rw [List.any_eq_false] at q
    exact q a m (Nat.beq_refl a)
noncomputable def permC (is:List Nat) (T:List Cell):List Cell:=is.filterMap (T[·]?)
noncomputable def restI (js:List Nat) (n:Nat):List Nat:=(List.range n).filter fun i=>!(js.any (Nat.beq i))
theorem Rep.perm {V:RV} {h₀:Fr} {h:Heap} {T:List Cell} {sz:Nat} (D:Rep V h₀ h T sz) {is:List Nat} (nd:is.Nodup):Rep V h₀ h (permC is T) sz:=by
 have mem:∀ c∈permC is T,∃ i,i∈is∧T[i]? =some c:=fun c hc=>List.mem_filterMap.mp hc
 have memA:∀ a∈(permC is T).map (·.1),a∈T.map (·.1):=fun a ha=>by
  obtain ⟨c,hc,rfl⟩:=List.mem_map.mp ha
  obtain ⟨i,_,hi⟩:=mem c hc
  exact cell_mem hi
 refine .ofMem D.size (fun c hc=>?_) ?_ D.stat (fun a ha=>D.sepM (memA a ha)) D.frame fun a ha=>D.freshM (memA a ha)
 ·obtain ⟨i,_,hi⟩:=mem c hc
  exact D.own i c hi
 ·rw [List.nodup_iff_pairwise_ne,List.pairwise_map]
  unfold permC
  rw [List.pairwise_filterMap]
  refine List.Pairwise.imp (fun {i j} hij c hc c' hc' e=>hij (D.inj i j c c' hc hc' e)) nd
theorem permC_append (is js:List Nat) (T:List Cell):permC (is++js) T=permC is T++permC js T:=List.filterMap_append ..
structure LSpec where
 c₀:Code
 st:St
 conds:List Prop
 r:Nat→(Nat→Tok)→Result
 st':Nat→St
noncomputable def LoopOk (B:Nat) (V:RV) (w:World) (s:LSpec):Prop:=
 (∀ p∈s.conds,p)→∀ (τ:Nat→Tok) (A:Around) (h₀:Fr) (h:Heap) (b:Nat) (g:Array GenState) (dr:Drawn) (tok:Nat) (os:OsState),A.handled=none→A.depth≤B→13≤b→Rep V h₀ h (s.st τ) (b+900)→
   codeAny (MM w) A s.c₀ (fun x s'=>∃ u b' t g',s.r b' u=x∧Rep V h₀ s'.heap (s.st' b' u) (b'+900)∧13≤b'∧GR V g g'∧s'=⟨s'.heap,g',dr,t,os⟩) ⟨h,g,dr,tok,os⟩
noncomputable def loopG (f:Code→List Cell→LSpec):ERule:=fun _ js c T=>match nodupB (js++restI js T.length) with
 | false=>none
 | true=>some ⟨[(.code c,.code (f c (permC js T)).c₀),(.cells (permC js T),.cells ((f c (permC js T)).st (tokT (permC js T))))],(f c (permC js T)).conds,
    fun b t u=>((f c (permC js T)).r b u,(f c (permC js T)).st' b u++permC (restI js T.length) T)⟩
theorem loopG_ok {B:Nat} {V:RV} {w:World} {f:Code→List Cell→LSpec} (H:∀ c S,LoopOk B V w (f c S)):RuleOk B V pw_il0098_01 w (loopG f):=by
 intro F js c T eo he h1 h2 A h₀ h sz g dr tok os hF hA hd D hsz
 unfold loopG at he
 cases hn:nodupB (js++restI js T.length) with
 | false=>rw [hn] at he;cases he
 | true=>
   rw [hn] at he
   cases he
   have hc:c=(f c (permC js T)).c₀:=Side.code.inj (h1 _ (.head _))
   have hT:permC js T=(f c (permC js T)).st (tokT (permC js T)):=Side.cells.inj (h1 _ (.tail _ (.head _)))
   have D0:=D.perm (nodupB_spec hn)
   rw [permC_append] at D0
   generalize hS:permC js T=S at *
   have z:=H c S h2 (tokT S) A (frOf h S) h (sz - 900) g dr tok os hA hd (ar2) (by rw [←hT,show sz - 900+900=sz by exact ar1];exact D0.base)
   rw [←hc] at z
   exact codeAny_mono z fun x s' ⟨u,b',t,g',hr,D',hb,hg,hs⟩=>⟨b',t,u,g',hr,D0.glue D',hb,hg,hs⟩
noncomputable def vAt (T:List Cell) (i k:Nat):Value:=match T[i]? with
 | none=>.none
 | some x=>match x.2.data with
   | .dict es _=>((es.toList[k]?).map (·.val)).getD .none
   | .fields vs=>vs.toList.getD k .none
   | .seq vs _=>vs.toList.getD k .none
   | _=>.none
noncomputable def aAt (T:List Cell) (i:Nat):Nat:=match T[i]? with
 | none=>0
 | some x=>x.1
noncomputable def sOf:Value→Str
 | .str s _=>s
 | _=>default
noncomputable def iOf:Value→Int
 | .int s _=>s
 | _=>0
noncomputable def bOf:Value→Bool
 | .bool s=>s
 | _=>false
noncomputable def decL:Nat→Nat→List (Nat×Nat)
 | 0,_=>[]
 | f+1,n=>match n with
   | 0=>[]
   | m+1=>((m % 65536) % 64,(m % 65536) / 64)::decL f (m / 65536)
noncomputable def orcN (sk n cs:Nat) (cl:List (Ev×Nat)):Orc:=⟨sk,decL 4000 n,cs,cl⟩
noncomputable def strIterS (js:List Nat) (args:List Value) (T:List Cell):Option EOut:=match args with
 | [.str s t]=>some ⟨[],[s.cps.all (· < 128)=true],fun b _ _=>(.ok (.ret (.ref (b+899))),(b+899,itO "str_ascii_iterator" [.str s t,.int 0 0])::T)⟩
 | _=>none
noncomputable abbrev strIterR:ERule:=mkH "str.__iter__" strIterS
theorem strIterR_ok {B:Nat} {V:RV} {w:World}:RuleOk B V pw_il0098_01 w strIterR:=mkH_ok (by
 intro js args T eo he h1 h2 A h₀ h sz g dr tok os hA hd D hsz
 unfold strIterS at he
 split at he
 ·rename_i x t
  cases he
  have ha:x.cps.all (· < 128)=true:=h2 _ (.head _)
  refine codeAny_call_builtin F.slot_str_iter.plain F.entry_str_iter (F.slot_str_iter.check _ _ _ _ _ _ _ _ (typeIs_str _ _ _) (F.args_str_iter_1 _) ?_)
  show wpAny _ _ (do ret (←newFields (if (true && x.cps.all (· < 128))=true then "str_ascii_iterator" else "str_iterator") [.str x t,rawInt 0])) _ _ _
  rw [ha]
  have D1:=D.alloc (x:=itO "str_ascii_iterator" [.str x t,.int 0 0]) rfl
  refine wpAny_bind (wpAny_newObj_type (wpAny_pure ⟨sz+1 - 900,tok,fun _=>0,g,?_,?_,ar4,GR.refl _ _,rfl⟩))
  ·show Except.ok (Flow.ret (Value.ref (sz+1 - 900+899)))=Except.ok (Flow.ret (Value.ref h.objs.size))
   rw [D.size,show sz+1 - 900+899=sz by exact ar5]
  ·rw [show sz+1 - 900+900=sz+1 by exact ar3]
   show Rep V h₀ _ ((sz+1 - 900+899,_)::T) _
   rw [show sz+1 - 900+899=sz by exact ar5]
   exact D1
 ·cases he)
noncomputable def lastC (m:Nat) (T:List Cell):List Cell:=T.drop (T.length - m)
noncomputable def lhsF (m:Nat) (x:Option Out):Option ((PFin ⊕ Value)×List Prop×List Cell×List Side):=x.map fun o=>(o.r,o.conds,lastC m o.T,o.eqs.map (·.1))
noncomputable def rhsF (m:Nat) (v:Nat→Want) (x:Option Out):Option ((PFin ⊕ Value)×List Prop×List Cell×List Side):=x.map fun o=>((v o.sz).r (tokR o.r),(v o.sz).conds,(v o.sz).st (tokT (lastC m o.T)),o.eqs.map (·.2))
noncomputable abbrev PathF (m:Nat) (v:Nat→Want) (x:Option Out):Prop:=(isOk x,lhsF m x)=(true,rhsF m v x)
theorem PathF.use {m:Nat} {v:Nat→Want} {x:Option Out} (h:PathF m v x):∃ o,x=some o∧(∀ e∈o.eqs,e.1=e.2)∧∃ tr τ,o.r=(v o.sz).r tr∧o.conds=(v o.sz).conds∧lastC m o.T=(v o.sz).st τ:=by
 obtain ⟨h1,h2⟩:=Prod.mk.inj h
 cases x with
 | none=>cases h1
 | some o=>
   have h3:=Option.some.inj h2
   obtain ⟨a,h3⟩:=Prod.mk.inj h3
   obtain ⟨b,h3⟩:=Prod.mk.inj h3
   obtain ⟨c,d⟩:=Prod.mk.inj h3
   exact ⟨o,rfl,eqs_of d,_,_,a,b,c⟩
theorem Rep.cast {V V':RV} {h₀:Fr} {h:Heap} {T:List Cell} {sz:Nat} (e:V.look=V'.look) (D:Rep V h₀ h T sz):Rep V' h₀ h T sz:=
 ⟨D.size,D.own,D.inj,e▸D.stat,e▸D.sep,D.frame,D.fresh⟩
theorem LoopOk.cast {B:Nat} {V V':RV} {w:World} {s:LSpec} (e:V.look=V'.look) (k:V'.keepG=true→V.keepG=true) (H:LoopOk B V w s):LoopOk B V' w s:=by
 intro hc τ A h₀ h b g dr tok os hA hd hb D
 refine codeAny_mono (H hc τ A h₀ h b g dr tok os hA hd hb (D.cast e.symm)) fun x s' ⟨u,b',t,g',hr,D',hb',hg,hs⟩=>⟨u,b',t,g',hr,D'.cast e,hb',GR.cast k hg,hs⟩
noncomputable def Pc (P:Params) (b:Bool):Params:={ P with followText:=fun s=>match Nat.beq (PySem.code s) (PySem.code "comprehension-iter-twice") with
 | true=>b
 | false=>P.followText s }
theorem Pc_self (P:Params):Pc P (P.followText "comprehension-iter-twice")=P:=by
 have h:(fun s=>match Nat.beq (PySem.code s) (PySem.code "comprehension-iter-twice") with
  | true=>P.followText "comprehension-iter-twice"
  | false=>P.followText s)=P.followText:=by
  funext s
  cases hc:Nat.beq (PySem.code s) (PySem.code "comprehension-iter-twice") with
  | false=>rfl
  | true=>rw [code_inj _ _ (Nat.eq_of_beq_eq_true hc)]
 unfold Pc
 rw [h]
@[elab_as_elim] theorem fP4 {C:Params→Prop} (h0:∀ P,C (Pc (Pb P false) false)) (h1:∀ P,C (Pc (Pb P false) true)) (h2:∀ P,C (Pc (Pb P true) false)) (h3:∀ P,C (Pc (Pb P true) true)) (P:Params):C P:=
 fP2 (fun P=>by
  have h:∀ c,C (Pc (Pb P false) c):=fun c=>by
   cases c
   ·exact h0 P
   ·exact h1 P
  exact Pc_self (Pb P false)▸h _) (fun P=>by
  have h:∀ c,C (Pc (Pb P true) c):=fun c=>by
   cases c
   ·exact h2 P
   ·exact h3 P
  exact Pc_self (Pb P true)▸h _) P
noncomputable def kRet:Result→Sem PFin
 | .ok f=>.pure (.done f)
 | .error e=>.raise e
noncomputable abbrev runC (V:RV) (ρ:Unk) (n:Nat) (c:Code) (T:List Cell) (b tk:Nat) (o:Orc):Option Out:=
 run V ρ (n+1) none false .base 0 (.call c none false [] kRet) T (b+900) 0 tk 0 0 o.sk o.ls o.cs o.cl [] []
theorem call_path {V:RV} {B:Nat} {w:World} {A:Around} {R:Result→Shared→Prop} {h₀:Fr} {h:Heap} {g:Array GenState} {dr:Drawn} {os:OsState} (O:VOk V pw_il0098_01 w)
 (HR:∀ i R,V.rules i=some R→RuleOk (B+48) V pw_il0098_01 w R) {n:Nat} {c:Code} {m:Nat} {T:List Cell} {b tk:Nat} {o:Orc} {v:Unk→Nat→Want}
 (path:∀ ρ,PathF m (v ρ) (runC V ρ n c T b tk o))
 (hB:B≤800) (hA:A.depth≤B∧A.handled=none) (D:Rep V h₀ h T (b+900)) (hb:13≤b)
 (fin:∀ ρ sz,(∀ p∈(v ρ sz).conds,p)∧∀ h' g' tr τ tok,913≤sz→GR V g g'→Rep V h₀ h' ((v ρ sz).st τ) sz→(match (v ρ sz).r tr with
   | .inl (.done f)=>R (.ok f) ⟨h',g',dr,tok,os⟩
   | .inl (.again c')=>False
   | .inr e=>R (.error e) ⟨h',g',dr,tok,os⟩)) (hfr:FrOk V.fr A:=by intro l e;exact nomatch (show (none:Option (List Env))=some l from e)) (HV:∀ i R,V.rv i=some R→RuleVOk (B+48) V pw_il0098_01 w R:=by intro i R e;exact nomatch (show (none:Option ERuleV)=some R from e)):
 codeAny (MM w) A c R ⟨h,g,dr,tk,os⟩:=by
 have hs:=run_sound (Q₀:=fun f s=>match f with
  | .done f=>R (.ok f) s
  | .again _=>False) (E₀:=fun e s=>R (.error e) s) (A₀:=A) (h₀:=h₀) (g₀:=g) (dr:=dr) (os:=os) hfr hB O HR HV n
 have z:=(goK_sound hfr hB O HR HV hs (σ:=⟨fun _=>0,fun _=>0,fun _ _=>0,fun _=>default,fun _=>[],fun _ _=>.none⟩) (c':=c) (c:=none) (d₀:=0) (k₀:=kRet) (κ₀:=.base) (T:=T) (b:=b+900) (o:=0) (tk:=tk) (ti:=0) (k:=0)
  (sk:=o.sk) (ls:=o.ls) (cs:=o.cs) (cl:=o.cl) (eqs:=[]) (conds:=[]) (h:=h) (g:=g) (GR.refl _ _) (fun ρ _=>by
    obtain ⟨out,h1,h2,tr,τ,h3,h4,h5⟩:=(path ρ).use
    obtain ⟨q1,q2⟩:=fin ρ out.sz
    refine ⟨out,h1,h2,by rw [h4];exact q1,fun h' g' D' hg hsz=>?_⟩
    have D2:Rep V h₀ h' (lastC m out.T) out.sz:=D'.sub (List.drop_sublist _ _)
    rw [h5] at D2
    have:=q2 h' g' tr τ out.toks hsz hg D2
    rw [←h3] at this
    revert this
    cases out.r with
    | inl f=>cases f <;> exact id
    | inr e=>exact id) D (ar10) ⟨⟨hA.1,hA.2⟩,hA.1⟩).2
 intro Γ p hc hΓ
 refine wpCode_mono (fun r s hr=>?_) (z Γ p hc hΓ)
 rw [endK_ret] at hr
 have hIn:(Γ.goto (.block [] default)).In A:=by
  obtain ⟨e1,e2,e3,e4,e5⟩:=hΓ
  have w0:(Code.block [] default).weight=0:=by decide
  have u0:(Code.block [] default).cUnits=0:=by decide
  refine ⟨e1,by show frameCount Γ.below+(Code.block [] default).weight≤_;rw [w0];exact e2,fun l hl=>?_,fun g hg=>?_,?_⟩
  ·show (Code.block [] default).envs++envsOf Γ.below=l
   rw [e3 l hl];rfl
  ·show (Code.block [] default).guards++guardsOf Γ.below=g
   rw [e4 g hg,show (Code.block [] default).guards=[] by decide];rfl
  ·show (Code.block [] default).cUnits+unitsOf Γ.below≤_
   rw [u0];lia
 have hr:=hr _ p hIn
 cases r with
 | ok f=>exact hr
 | error e=>exact hr
noncomputable def floordivSpec (_:List Nat) (args:List Value):Option (List Prop×(Nat→Value)):=match args with
 | [.int x _,.int y _]=>some ([(y == 0)=false,Builtin.divisionGoesByPylong x y=false],fun u=>.int (x.fdiv y) u)
 | _=>none
noncomputable def modSpec (js:List Nat) (args:List Value):Option (List Prop×(Nat→Value)):=match args with
 | [.int x _,.int y _]=>match js with
   | k::_=>some ([(y == 0)=false,x.fmod y=(k:Int)],fun u=>.int (k:Int) u)
   | []=>some ([(y == 0)=false],fun u=>.int (x.fmod y) u)
 | _=>none
noncomputable def figs (n:Int):Str:=((toString n:String):Str)
noncomputable def reprSpec (_:List Nat) (args:List Value):Option (List Prop×(Nat→Value)):=match args with
 | [.int x _]=>some ([x.natAbs.log2 < 1920,(figs x).length≤sizeLine],fun u=>.str (figs x) u)
 | _=>none
theorem floordivSpec_ok {B:Nat} {V:RV} {w:World}:RuleOk B V pw_il0098_01 w (mkR "int.__floordiv__" floordivSpec):=mkR_ok (by
 intro js args cs mk hs hc A R s hR
 unfold floordivSpec at hs
 split at hs
 ·rename_i x t y u
  cases hs
  have h1:=hc _ (.head _)
  have h2:=hc _ (.tail _ (.head _))
  refine code_gives F.slot_int_floordiv (typeIs_int _ _ _) F.entry_int_floordiv (F.args_int_floordiv_2 _ _) (AutoIntG4.int___floordiv___int_int_1 x t y u (by rw [h1];decide) (by rw [h2];decide)) ?_
  exact hR _ _
 ·cases hs)
theorem modSpec_ok {B:Nat} {V:RV} {w:World}:RuleOk B V pw_il0098_01 w (mkR "int.__mod__" modSpec):=mkR_ok (by
 intro js args cs mk hs hc A R s hR
 unfold modSpec at hs
 split at hs
 ·rename_i x t y u
  split at hs
  ·rename_i k js
   cases hs
   have h1:(y == 0)=false:=hc _ (.head _)
   have h2:x.fmod y=(k:Int):=hc _ (.tail _ (.head _))
   refine code_gives F.slot_int_mod (typeIs_int _ _ _) F.entry_int_mod (F.args_int_mod_2 _ _) (AutoIntG6.int___mod___int_int_1 x t y u (by rw [h1];decide)) ?_
   rw [h2]
   exact hR _ _
  ·cases hs
   have h1:(y == 0)=false:=hc _ (.head _)
   refine code_gives F.slot_int_mod (typeIs_int _ _ _) F.entry_int_mod (F.args_int_mod_2 _ _) (AutoIntG6.int___mod___int_int_1 x t y u (by rw [h1];decide)) ?_
   exact hR _ _
 ·cases hs)
theorem reprSpec_ok {B:Nat} {V:RV} {w:World}:RuleOk B V pw_il0098_01 w (mkR "int.__repr__" reprSpec):=mkR_ok (by
 intro js args cs mk hs hc A R s hR
 unfold reprSpec at hs
 split at hs
 ·rename_i x t
  cases hs
  have h1:=hc _ (.head _)
  refine code_gives F.slot_int_repr (typeIs_int _ _ _) F.entry_int_repr (F.args_int_repr_1 _) (gives_int_repr x t h1) ?_
  exact ⟨hc _ (.tail _ (.head _)),hR _ _⟩
 ·cases hs)
noncomputable def lenSpec (js:List Nat) (args:List Value):Option (List Prop×(Nat→Value)):=match args with
 | [.str x _]=>match js with
   | []=>some ([],fun u=>.int (x.length:Int) u)
   | j::_=>match j with
     | 0=>some ([x.length=0],fun u=>.int 0 u)
     | _+1=>some ([x.length≠0],fun u=>.int (Int.ofNat (Nat.succ (x.length - 1))) u)
 | _=>none
theorem lenSpec_ok {B:Nat} {V:RV} {w:World}:RuleOk B V pw_il0098_01 w (mkR "str.__len__" lenSpec):=mkR_ok (by
 intro js args cs mk hs hc A R s hR
 unfold lenSpec at hs
 split at hs
 ·rename_i x t
  refine code_gives F.slot_str_len (typeIs_str _ _ _) F.entry_str_len (F.args_str_len_1 _) (gives_str_len x t) ?_
  rcases js with _ | ⟨_ | j,js⟩
  ·cases hs
   exact hR _ _
  ·cases hs
   have h1:x.length=0:=hc _ (.head _)
   rw [h1]
   exact hR _ _
  ·cases hs
   have h1:x.length≠0:=hc _ (.head _)
   have e:(x.length:Int)=Int.ofNat (Nat.succ (x.length - 1)):=by
    show Int.ofNat x.length=_
    rw [show Nat.succ (x.length - 1)=x.length by exact ar29]
   rw [e]
   exact hR _ _
 ·cases hs)
noncomputable def iaddSpec (_:List Nat) (args:List Value):Option (List Prop×(Nat→Value)):=match args with
 | [.int x _,.int y _]=>some ([],fun u=>.int (x+y) u)
 | _=>none
theorem iaddSpec_ok {B:Nat} {V:RV} {w:World}:RuleOk B V pw_il0098_01 w (mkR "int.__add__" iaddSpec):=mkR_ok (by
 intro js args cs mk hs hc A R s hR
 unfold iaddSpec at hs
 split at hs
 ·rename_i x t y u
  cases hs
  refine code_gives F.slot_int_add (typeIs_int _ _ _) F.entry_int_add (F.args_int_add_2 _ _) (gives_int_add x y t u) ?_
  exact hR _ _
 ·cases hs)
noncomputable def isubSpec (_:List Nat) (args:List Value):Option (List Prop×(Nat→Value)):=match args with
 | [.int x _,.int y _]=>some ([],fun u=>.int (x - y) u)
 | _=>none
theorem isubSpec_ok {B:Nat} {V:RV} {w:World}:RuleOk B V pw_il0098_01 w (mkR "int.__sub__" isubSpec):=mkR_ok (by
 intro js args cs mk hs hc A R s hR
 unfold isubSpec at hs
 split at hs
 ·rename_i x t y u
  cases hs
  refine code_gives F.slot_int_sub (typeIs_int _ _ _) F.entry_int_sub (F.args_int_sub_2 _ _) (gives_int_sub x y t u) ?_
  exact hR _ _
 ·cases hs)
noncomputable def leSpec (js:List Nat) (args:List Value):Option (List Prop×(Nat→Value)):=match args with
 | [.int x _,.int y _]=>decR (x≤y) js
 | _=>none
theorem leSpec_ok {B:Nat} {V:RV} {w:World}:RuleOk B V pw_il0098_01 w (mkR "int.__le__" leSpec):=mkR_ok (by
 intro js args cs mk hs hc A R s hR
 unfold leSpec at hs
 split at hs
 ·rename_i x t y u
  obtain ⟨b,hb,rfl⟩:=decR_spec hs hc
  refine code_gives F.slot_int_le (typeIs_int _ _ _) F.entry_int_le (F.args_int_le_2 _ _) (gives_int_le x y t u) ?_
  show R (.ok (.ret (.bool _))) _
  rw [show decide (x≤y)=b from by rw [Bool.eq_iff_iff,hb,decide_eq_true_eq]]
  exact hR 0 s.toks
 ·cases hs)
noncomputable def startsB (x y:Str):Bool:=(0+y.length≤x.length && Builtin.Str.subAt x y 0)
noncomputable def endsB (x y:Str):Bool:=(0+y.length≤x.length && Builtin.Str.subAt x y (x.length - y.length))
noncomputable def startsSpec (js:List Nat) (args:List Value):Option (List Prop×(Nat→Value)):=match args with
 | [.str x _,.str y _]=>decR (startsB x y=true) js
 | _=>none
theorem startsSpec_ok {B:Nat} {V:RV} {w:World}:RuleOk B V pw_il0098_01 w (mkR "str.startswith" startsSpec):=mkR_ok (by
 intro js args cs mk hs hc A R s hR
 unfold startsSpec at hs
 split at hs
 ·rename_i x t y u
  obtain ⟨b,hb,rfl⟩:=decR_spec hs hc
  refine code_gives F.slot_str_startswith (typeIs_str _ _ _) F.entry_str_startswith (F.args_str_startswith_2 _ _) (gives_str_startswith x y t u) ?_
  show R (.ok (.ret (.bool (startsB x y)))) _
  rw [show startsB x y=b from by rw [Bool.eq_iff_iff,hb]]
  exact hR 0 s.toks
 ·cases hs)
noncomputable def endsSpec (js:List Nat) (args:List Value):Option (List Prop×(Nat→Value)):=match args with
 | [.str x _,.str y _]=>decR (endsB x y=true) js
 | _=>none
theorem endsSpec_ok {B:Nat} {V:RV} {w:World}:RuleOk B V pw_il0098_01 w (mkR "str.endswith" endsSpec):=mkR_ok (by
 intro js args cs mk hs hc A R s hR
 unfold endsSpec at hs
 split at hs
 ·rename_i x t y u
  obtain ⟨b,hb,rfl⟩:=decR_spec hs hc
  refine code_gives F.slot_str_endswith (typeIs_str _ _ _) F.entry_str_endswith (F.args_str_endswith_2 _ _) (gives_str_endswith x y t u) ?_
  show R (.ok (.ret (.bool (endsB x y)))) _
  rw [show endsB x y=b from by rw [Bool.eq_iff_iff,hb]]
  exact hR 0 s.toks
 ·cases hs)
end
section
open PySem.Calls
noncomputable def rules0:Nat→Option ERule:=tab (fun _=>none) [(0,mkR "str.__eq__" eqSpec),(1,mkR "str.__ne__" neSpec),(2,mkR "str.__contains__" inSpec),(3,mkR "str.__add__" addSpec),(4,mkR "int.__lt__" ltSpec),(5,mkR "int.__ge__" geSpec),(6,mkR "int.__gt__" gtSpec),(7,mkR "int.__eq__" ieqSpec),(8,mkR "int.__ne__" ineSpec),(9,strNextR),(10,mkR "str.__mul__" mulSpec),(11,strIterR),(13,mkR "int.__floordiv__" floordivSpec),(14,mkR "int.__mod__" modSpec),(15,mkR "int.__repr__" reprSpec),(16,mkR "int.__add__" iaddSpec),(17,mkR "int.__sub__" isubSpec),(18,mkR "int.__le__" leSpec),(19,mkR "str.__len__" lenSpec),(21,mkR "str.startswith" startsSpec),(22,mkR "str.endswith" endsSpec)]
theorem rules0_ok {B:Nat} {w:World} {V:RV}:∀ i R,rules0 i=some R→RuleOk B V pw_il0098_01 w R:=by
 exact tab_cons (eqSpec_ok) (tab_cons (neSpec_ok) (tab_cons (inSpec_ok) (tab_cons (addSpec_ok) (tab_cons (ltSpec_ok) (tab_cons (geSpec_ok) (tab_cons (gtSpec_ok) (tab_cons (ieqSpec_ok) (tab_cons (ineSpec_ok) (tab_cons (strNextR_ok) (tab_cons (mulSpec_ok) (tab_cons (strIterR_ok) (tab_cons (floordivSpec_ok) (tab_cons (modSpec_ok) (tab_cons (reprSpec_ok) (tab_cons (iaddSpec_ok) (tab_cons (isubSpec_ok) (tab_cons (leSpec_ok) (tab_cons (lenSpec_ok) (tab_cons (startsSpec_ok) (tab_cons (endsSpec_ok) (fun _ _ h=>nomatch h)))))))))))))))))))))
end
section
open PySem.Calls
open Sem (wp)
open PySem.Builtin.Str in
noncomputable def replS (x y z:Str):Str:=glued z (partsBetween x (occurrences x y 0 x.length (x.length+1)) y.length)
open PySem.Builtin.Str in
noncomputable def replaceSpec (_:List Nat) (args:List Value):Option (List Prop×(Nat→Value)):=match args with
 | [.str x _,.str y u,.str z v]=>some ([y.length≠0,(u == 0 || v == 0)=false,(u == v)=false,(y == z)=false,
    x.length+(occurrences x y 0 x.length (x.length+1)).length * z.length≤sizeLine,(replS x y z).length≤sizeLine],fun u=>.str (replS x y z) u)
 | _=>none
open PySem.Builtin.Str in
theorem replaceSpec_ok {B:Nat} {V:RV} {w:World}:RuleOk B V pw_il0098_01 w (mkR "str.replace" replaceSpec):=mkR_ok (by
 intro js args cs mk hs hc A R s hR
 unfold replaceSpec at hs
 split at hs
 ·rename_i x t y u z v
  cases hs
  have h1:y.length≠0:=hc _ (.head _)
  have h2:(u == 0 || v == 0)=false:=hc _ (.tail _ (.head _))
  have h3:(u == v)=false:=hc _ (.tail _ (.tail _ (.head _)))
  have h4:(y == z)=false:=hc _ (.tail _ (.tail _ (.tail _ (.head _))))
  have h5:x.length+(occurrences x y 0 x.length (x.length+1)).length * z.length≤sizeLine:=hc _ (.tail _ (.tail _ (.tail _ (.tail _ (.head _)))))
  have h6:(replS x y z).length≤sizeLine:=hc _ (.tail _ (.tail _ (.tail _ (.tail _ (.tail _ (.head _))))))
  refine code_gives F.slot_str_replace (typeIs_str _ _ _) F.entry_str_replace (F.args_str_replace_3 _ _ _) (gives_str_replace x y z t u v fun _=>⟨h2,h3,h4,by unfold tooLong;simp;exact ar13⟩) ?_
  by_cases he:(occurrences x y 0 x.length (x.length+1)).isEmpty=true
  ·rw [if_pos (by rw [he];rfl)]
   have e:replS x y z=x:=by
    unfold replS
    rw [List.isEmpty_iff.mp he]
    show (⟨(x.cps.extract 0 x.length)⟩:Str)=x
    rw [show x.length=x.cps.size from rfl,Array.extract_size]
   rw [e] at hR
   exact hR t s.toks
  ·rw [if_neg (by simp [he,h1])]
   exact ⟨h6,hR _ _⟩
 ·cases hs)
open PySem.Builtin PySem.Builtin.Re
noncomputable def seqOf (o:Obj):Array Value:=match o.data with
 | .seq vs _=>vs
 | _=>#[]
noncomputable def fieldsO (o:Obj):Array Value:=match o.data with
 | .fields vs=>vs
 | _=>#[]
noncomputable def tgt (P:Params) (x:Str) (t:Tok):ReTarget:=⟨.ref 171,.str x t,((seqOf (o170 P)).map reRawOf).map (·.toNat),x.cps,0,0,0,x.cps.size⟩
noncomputable def searchT (P:Params) (x:Str) (t:Tok):Sem PFin:=reAnswer (tgt P x t) (Sre.forSearch (tgt P x t).code x.cps 0 0 x.cps.size false)
theorem o171_fields (P:Params):(o171 P).data= .fields (fieldsO (o171 P)):=by kernel_rfl
noncomputable def seqN (o:Obj):Nat:=match o.data with
 | .seq _ n=>n
 | _=>0
theorem o170_seq (P:Params):(o170 P).data= .seq (seqOf (o170 P)) (seqN (o170 P)):=by kernel_rfl
theorem o171_6 (P:Params):(fieldsO (o171 P)).getD 6 .none= .int 0 0:=by kernel_rfl
theorem o171_5 (P:Params):(fieldsO (o171 P)).getD 5 .none= .ref 170:=by kernel_rfl
theorem o171_2 (P:Params):(fieldsO (o171 P)).getD 2 .none= .int 0 0:=by kernel_rfl
theorem search_tree {w:World} {A:Around} {Q:PFin→Shared→Prop} {E:Value→Shared→Prop} {s:Shared} (P:Params) (h1:s.heap.get? 171=some (o171 P)) (h2:s.heap.get? 170=some (o170 P)) (x:Str) (t:Tok) (hx:x.length < 2 ^ 63)
 (h:wpAny (MM w) A (searchT P x t) Q E s):wpAny (MM w) A (Builtin.«re.Pattern.search» ⟨[.ref 171,.str x t],[]⟩) Q E s:=by
 show wpAny _ _ (reTarget "re.Pattern.search" "search" ⟨[.ref 171,.str x t],[]⟩ >>= fun t=>reAnswer t (Sre.forSearch t.code t.text t.groups t.pos t.lim false)) _ _ _
 refine wpAny_bind ?_
 unfold reTarget
 refine wpAny_bind (wpAny_of_eq (a:=[some (.str x t),none,none]) (by rfl) ?_)
 dsimp only
 refine wpAny_bind (wpAny_pure ?_)
 refine wpAny_bind (wpAny_pure ?_)
 refine wpAny_bind (wpAny_fieldsOf h1 (o171_fields P) ?_)
 refine wpAny_bind (wpAny_of_eq (a:=(x.cps,0)) (by rfl) ?_)
 dsimp only
 rw [o171_6,o171_5,o171_2,if_neg (by decide),if_neg (by decide)]
 refine wpAny_bind (wpAny_of_eq (a:=()) (by rfl) ?_)
 refine wpAny_bind ?_
 unfold reRawItems
 refine wpAny_bind (wpAny_seqItems h2 (o170_seq P) (wpAny_pure (wpAny_pure ?_)))
 rw [show Min.min ((2 ^ 63 - 1:Int)).toNat x.cps.size=x.cps.size from Nat.min_eq_right (by show x.cps.size≤9223372036854775807;have:x.cps.size < 2 ^ 63:=hx;lia),show Min.min (Int.toNat 0) x.cps.size=0 from Nat.zero_min _]
 exact h
noncomputable def searchS (js:List Nat) (args:List Value) (T:List Cell):Option EOut:=match args with
 | [.ref a,.str x _]=>match js with
   | 0::_=>some ⟨[(.nat a,.nat 171)],[x.length < 2 ^ 63,∃ l,x=⟨⟨47::97::32::l⟩⟩],fun _ _ u=>(.ok (.ret (.ref (u 0))),T)⟩
   | _::_=>some ⟨[(.nat a,.nat 171)],[x.length < 2 ^ 63,∃ l,x=⟨⟨39::l⟩⟩],fun _ _ u=>(.ok (.ret (.ref (u 0))),T)⟩
   | []=>none
 | _=>none
noncomputable def mkB (name:String) (spec:List Nat→List Value→List Cell→Option EOut):ERule:=fun _ js c T=>match c with
 | .builtin i a=>match Nat.beq (PySem.code i) (PySem.code name) with
    | true=>match a.kw with
      | []=>spec js a.pos T
      | _::_=>none
    | false=>none
 | _=>none
theorem search_path0 (P:Params):∀ (ρ:Unk) (l:List Nat) (t:Tok) (T:List Cell) (b tk:Nat),
 PathOk (fun sz=>⟨fun _=>.inl (.done (.ret (.ref (b+901)))),[],fun _=>(b+901,itO "re.Match" [.str ⟨⟨47::97::32::l⟩⟩ t,.ref 171,.int 0 0,.int ((l.length+3:Nat):Int) 0,.int (-1) 0,.ref (b+900)])::(b+900,⟨.type "tuple",none,.seq ⟨[.int 2 0,.int 3 0]⟩ 0,⟨[]⟩⟩)::T⟩)
  (runO P rules0 ρ 100 (searchT P ⟨⟨47::97::32::l⟩⟩ t) T b tk ⟨1000,[],1000,[]⟩):=
 fP2 (by intros;kernel_rfl) (by intros;kernel_rfl) P
theorem search_path1 (P:Params):∀ (ρ:Unk) (l:List Nat) (t:Tok) (T:List Cell) (b tk:Nat),
 PathOk (fun sz=>⟨fun _=>.inl (.done (.ret (.ref (b+901)))),[],fun _=>(b+901,itO "re.Match" [.str ⟨⟨39::l⟩⟩ t,.ref 171,.int 0 0,.int ((l.length+1:Nat):Int) 0,.int (-1) 0,.ref (b+900)])::(b+900,⟨.type "tuple",none,.seq ⟨[.int 0 0,.int 1 0]⟩ 0,⟨[]⟩⟩)::T⟩)
  (runO P rules0 ρ 100 (searchT P ⟨⟨39::l⟩⟩ t) T b tk ⟨1000,[],1000,[]⟩):=
 fP2 (by intros;kernel_rfl) (by intros;kernel_rfl) P
noncomputable abbrev searchR:ERule:=mkB "re.Pattern.search" searchS
theorem entry_search:entryFor table "re.Pattern.search"=some Builtin.«re.Pattern.search»:=entryFor_of_tree (by kernel_rfl)
theorem look171 (P:Params):lookK P 171=some (o171 P):=by kernel_rfl
theorem look170 (P:Params):lookK P 170=some (o170 P):=by kernel_rfl
theorem w_search (a:Args):(Code.builtin "re.Pattern.search" a).weight=0:=plainId_weight (by decide+kernel) a
theorem searchR_ok {B:Nat} (hB:B≤800) {V:RV} {w:World} (hV:V.look=lookK w.params):RuleOk B V pw_il0098_01 w searchR:=by
 intro F js c T eo he h1 h2 A h₀ h sz g dr tok os hF hA hd D hsz
 unfold searchR mkB at he
 cases c with
 | builtin i a=>
   dsimp only at he
   cases hc:Nat.beq (PySem.code i) (PySem.code "re.Pattern.search") with
   | false=>rw [hc] at he;cases he
   | true=>
     obtain rfl:i="re.Pattern.search":=code_inj _ _ (Nat.eq_of_beq_eq_true hc)
     rw [hc] at he
     obtain ⟨pos,kw⟩:=a
     cases kw with
     | cons=>cases he
     | nil=>
       dsimp only at he
       unfold searchS at he
       split at he
       ·rename_i a x t
        have D':Rep (VK w.params rules0) h₀ h T (sz - 900+900):=by
         rw [show sz - 900+900=sz by exact ar1]
         exact D.cast hV
        have s1:h.get? 171=some (o171 w.params):=D'.stat _ _ (look171 _)
        have s2:h.get? 170=some (o170 w.params):=D'.stat _ _ (look170 _)
        have dep:(A.under (.builtin "re.Pattern.search" ⟨[.ref a,.str x t],[]⟩)).depth≤B:=by
         show A.depth+_≤B
         rw [w_search];exact hd
        split at he
        ·rename_i j js
         cases he
         obtain rfl:a=171:=Side.nat.inj (h1 _ (.head _))
         have hx:x.length < 2 ^ 63:=h2 _ (.head _)
         obtain ⟨l,rfl⟩:=h2 _ (.tail _ (.head _))
         refine codeAny_builtin entry_search (search_tree w.params s1 s2 _ t hx ?_)
         refine by_path (B:=B) rules0_ok (fun ρ=>search_path0 w.params ρ l t T (sz - 900) tok) hB ⟨dep,hA⟩ D' (ar2) fun ρ sz2=>And.intro (fun p hp=>nomatch hp) fun h' tr τ tok2 hsz2 D2=>?_
         refine ⟨sz2 - 900,tok2,fun _=>sz - 900+901,g,rfl,?_,ar2,GR.refl _ _,rfl⟩
         rw [show sz2 - 900+900=sz2 by exact ar1]
         exact ((D2.drop (X:=[_,_])).cast hV.symm)
        ·rename_i j js _
         cases he
         obtain rfl:a=171:=Side.nat.inj (h1 _ (.head _))
         have hx:x.length < 2 ^ 63:=h2 _ (.head _)
         obtain ⟨l,rfl⟩:=h2 _ (.tail _ (.head _))
         refine codeAny_builtin entry_search (search_tree w.params s1 s2 _ t hx ?_)
         refine by_path (B:=B) rules0_ok (fun ρ=>search_path1 w.params ρ l t T (sz - 900) tok) hB ⟨dep,hA⟩ D' (ar2) fun ρ sz2=>And.intro (fun p hp=>nomatch hp) fun h' tr τ tok2 hsz2 D2=>?_
         refine ⟨sz2 - 900,tok2,fun _=>sz - 900+901,g,rfl,?_,ar2,GR.refl _ _,rfl⟩
         rw [show sz2 - 900+900=sz2 by exact ar1]
         exact ((D2.drop (X:=[_,_])).cast hV.symm)
        ·cases he
       ·cases he
 | _=>cases he
end
section
open PySem.Calls
noncomputable def mkRB (name:String) (spec:List Nat→List Value→Option (List Prop×(Nat→Value))):ERule:=fun _ js c T=>match c with
 | .builtin i a=>match Nat.beq (PySem.code i) (PySem.code name) with
    | true=>match a.kw with
      | []=>match spec js a.pos with
        | some r=>some ⟨[],r.1,fun b t u=>(.ok (.ret (r.2 (u 0))),T)⟩
        | none=>none
      | _::_=>none
    | false=>none
 | _=>none
theorem mkRB_ok {B:Nat} {V:RV} {w:World} {name:String} {spec:List Nat→List Value→Option (List Prop×(Nat→Value))}
 (h:∀ js args cs mk,spec js args=some (cs,mk)→(∀ p∈cs,p)→∀ (A:Around) (R:Result→Shared→Prop) (s:Shared),(∀ u k,R (.ok (.ret (mk u))) { s with toks:=k })→codeAny (MM w) A (.builtin name ⟨args,[]⟩) R s):
 RuleOk B V pw_il0098_01 w (mkRB name spec):=by
 intro F js c T eo he h1 h2 A h₀ h' sz g dr tok os hF hA hd D hsz
 unfold mkRB at he
 cases c with
 | builtin i a=>
    dsimp only at he
    cases hc:Nat.beq (PySem.code i) (PySem.code name) with
    | false=>rw [hc] at he;cases he
    | true=>
      obtain rfl:i=name:=code_inj _ _ (Nat.eq_of_beq_eq_true hc)
      rw [hc] at he
      obtain ⟨pos,kw⟩:=a
      cases kw with
      | cons=>cases he
      | nil=>
        dsimp only at he
        cases hs:spec js pos with
        | none=>rw [hs] at he;cases he
        | some r=>
          rw [hs] at he
          obtain ⟨cs,mk⟩:=r
          cases he
          refine h js pos cs mk hs h2 A _ _ fun u k=>⟨sz - 900,k,fun _=>u,g,rfl,?_,ar2,GR.refl _ _,rfl⟩
          rw [show sz - 900+900=sz by exact ar1]
          exact D
 | _=>cases he
noncomputable def lenBSpec (js:List Nat) (args:List Value):Option (List Prop×(Nat→Value)):=match lenSpec js args with
 | some r=>some ((match args with | [.str x _]=>x.length < 2 ^ 63 | _=>True)::r.1,r.2)
 | none=>none
theorem lenBSpec_ok {B:Nat} {V:RV} {w:World}:RuleOk B V pw_il0098_01 w (mkRB "len" lenBSpec):=mkRB_ok (by
 intro js args cs mk hs hc A R s hR
 unfold lenBSpec at hs
 cases h1:lenSpec js args with
 | none=>rw [h1] at hs;cases hs
 | some r=>
   rw [h1] at hs
   cases hs
   have hc':∀ p∈r.1,p:=fun p hp=>hc p (.tail _ hp)
   have h0:=hc _ (.head _)
   unfold lenSpec at h1
   split at h1
   ·rename_i x t
    have hfit:¬(x.length:Int)≥2 ^ 63:=by
     have:x.length < 2 ^ 63:=h0
     lia
    have key:∀ v,(∃ u,v=r.2 u)→(∃ k,v=Value.int (x.length:Int) k)∨True:=fun _ _=>.inr trivial
    have hv:∀ tk,r.2 tk= .int (x.length:Int) tk:=by
     intro tk
     rcases js with _ | ⟨_ | j,js⟩
     ·cases h1;rfl
     ·cases h1
      have h1:x.length=0:=hc' _ (.head _)
      rw [h1];rfl
     ·cases h1
      have h1:x.length≠0:=hc' _ (.head _)
      show Value.int (Int.ofNat (Nat.succ (x.length - 1))) tk=Value.int (Int.ofNat x.length) tk
      rw [show Nat.succ (x.length - 1)=x.length by exact ar29]
    refine codeAny_builtin entry_len ?_
    rw [Around.under_plainId plain_len _]
    refine wpAny_mono (wpAny_len_body (Q:=fun v s'=>R (.ok (.ret v)) s') (typeIs_str _ _ _) F.slot_str_len F.entry_str_len (F.args_str_len_1 _) (gives_str_len x t) (by lia) hfit ?_) (fun fin s' h'=>by obtain ⟨r,rfl,hq⟩:=h';exact hq) fun _ _ e=>e
    have:=hR (s.toks+1) (s.toks+1+1)
    rw [hv] at this
    exact this
   ·cases h1)
noncomputable def rules1:Nat→Option ERule:=tab rules0 [(20,mkRB "len" lenBSpec),(23,mkR "str.replace" replaceSpec),(26,searchR)]
theorem rules1_ok {B:Nat} (hB:B≤800) {V:RV} {w:World} (hV:V.look=lookK w.params):∀ i R,rules1 i=some R→RuleOk B V pw_il0098_01 w R:=by
 exact tab_cons (lenBSpec_ok) (tab_cons (replaceSpec_ok) (tab_cons (searchR_ok hB hV) (rules0_ok)))
end
section
open PySem.Calls
open Sem (wp)
noncomputable def lhsI (is:List Nat) (x:Option Out):Option ((PFin ⊕ Value)×List Prop×List Cell×List Side):=x.map fun o=>(o.r,o.conds,permC is o.T,o.eqs.map (·.1))
noncomputable def rhsI (is:List Nat) (v:Nat→Want) (x:Option Out):Option ((PFin ⊕ Value)×List Prop×List Cell×List Side):=x.map fun o=>((v o.sz).r (tokR o.r),(v o.sz).conds,(v o.sz).st (tokT (permC is o.T)),o.eqs.map (·.2))
noncomputable abbrev PathI (is:List Nat) (v:Nat→Want) (x:Option Out):Prop:=(isOk x,lhsI is x)=(true,rhsI is v x)
theorem PathI.use {is:List Nat} {v:Nat→Want} {x:Option Out} (h:PathI is v x):∃ o,x=some o∧(∀ e∈o.eqs,e.1=e.2)∧∃ tr τ,o.r=(v o.sz).r tr∧o.conds=(v o.sz).conds∧permC is o.T=(v o.sz).st τ:=by
 obtain ⟨h1,h2⟩:=Prod.mk.inj h
 cases x with
 | none=>cases h1
 | some o=>
   have h3:=Option.some.inj h2
   obtain ⟨a,h3⟩:=Prod.mk.inj h3
   obtain ⟨b,h3⟩:=Prod.mk.inj h3
   obtain ⟨c,d⟩:=Prod.mk.inj h3
   exact ⟨o,rfl,eqs_of d,_,_,a,b,c⟩
noncomputable abbrev runV (V:RV) (ρ:Unk) (n:Nat) (t:Sem PFin) (T:List Cell) (b tk:Nat) (o:Orc):Option Out:=
 run V ρ n none false .base 0 t T (b+900) 0 tk 0 0 o.sk o.ls o.cs o.cl [] []
section
variable {V:RV} {B:Nat} {w:World} {A:Around} {h₀:Fr} {h:Heap} {g:Array GenState} {dr:Drawn} {os:OsState}
theorem by_pathI {Q:PFin→Shared→Prop} {E:Value→Shared→Prop} (O:VOk V pw_il0098_01 w) (HR:∀ i R,V.rules i=some R→RuleOk (B+48) V pw_il0098_01 w R) {n:Nat} {t:Sem PFin} {is:List Nat} (hn:nodupB is=true) {T:List Cell} {b tk:Nat} {o:Orc} {v:Unk→Nat→Want}
 (path:∀ ρ,PathI is (v ρ) (runV V ρ n t T b tk o))
 (hB:B≤800) (hA:A.depth≤B∧A.handled=none) (D:Rep V h₀ h T (b+900)) (hb:13≤b)
 (fin:∀ ρ sz,(∀ p∈(v ρ sz).conds,p)∧∀ h' g' tr τ tok,913≤sz→GR V g g'→Rep V h₀ h' ((v ρ sz).st τ) sz→(match (v ρ sz).r tr with
   | .inl fin=>Q fin ⟨h',g',dr,tok,os⟩
   | .inr e=>E e ⟨h',g',dr,tok,os⟩)) (hfr:FrOk V.fr A:=by intro l e;exact nomatch (show (none:Option (List Env))=some l from e)) (HV:∀ i R,V.rv i=some R→RuleVOk (B+48) V pw_il0098_01 w R:=by intro i R e;exact nomatch (show (none:Option ERuleV)=some R from e)):
 wpAny (MM w) A t Q E ⟨h,g,dr,tk,os⟩:=by
 refine wpX_any ?_
 exact run_sound (Q₀:=Q) (E₀:=E) (A₀:=A) (h₀:=h₀) (g₀:=g) (dr:=dr) (os:=os) hfr hB O HR HV n ⟨fun _=>0,fun _=>0,fun _ _=>0,fun _=>default,fun _=>[],fun _ _=>.none⟩ none false .base 0 t T (b+900) 0 tk 0 0 o.sk o.ls o.cs o.cl [] [] h g (GR.refl _ _)
  (fun ρ _=>by
    obtain ⟨out,h1,h2,tr,τ,h3,h4,h5⟩:=(path ρ).use
    obtain ⟨q1,q2⟩:=fin ρ out.sz
    refine ⟨out,h1,h2,by rw [h4];exact q1,fun h' g' D' hg hsz=>?_⟩
    have D':=D'.perm (nodupB_spec hn)
    rw [h5] at D'
    have:=q2 h' g' tr τ out.toks hsz hg D'
    rw [←h3] at this
    exact this) D (ar10) hA hA.1 (by intro e;cases e)
theorem call_pathI {R:Result→Shared→Prop} (O:VOk V pw_il0098_01 w)
 (HR:∀ i R,V.rules i=some R→RuleOk (B+48) V pw_il0098_01 w R) {n:Nat} {c:Code} {is:List Nat} (hn:nodupB is=true) {T:List Cell} {b tk:Nat} {o:Orc} {v:Unk→Nat→Want}
 (path:∀ ρ,PathI is (v ρ) (runC V ρ n c T b tk o))
 (hB:B≤800) (hA:A.depth≤B∧A.handled=none) (D:Rep V h₀ h T (b+900)) (hb:13≤b)
 (fin:∀ ρ sz,(∀ p∈(v ρ sz).conds,p)∧∀ h' g' tr τ tok,913≤sz→GR V g g'→Rep V h₀ h' ((v ρ sz).st τ) sz→(match (v ρ sz).r tr with
   | .inl (.done f)=>R (.ok f) ⟨h',g',dr,tok,os⟩
   | .inl (.again c')=>False
   | .inr e=>R (.error e) ⟨h',g',dr,tok,os⟩)) (hfr:FrOk V.fr A:=by intro l e;exact nomatch (show (none:Option (List Env))=some l from e)) (HV:∀ i R,V.rv i=some R→RuleVOk (B+48) V pw_il0098_01 w R:=by intro i R e;exact nomatch (show (none:Option ERuleV)=some R from e)):
 codeAny (MM w) A c R ⟨h,g,dr,tk,os⟩:=by
 have hs:=run_sound (Q₀:=fun f s=>match f with
  | .done f=>R (.ok f) s
  | .again _=>False) (E₀:=fun e s=>R (.error e) s) (A₀:=A) (h₀:=h₀) (g₀:=g) (dr:=dr) (os:=os) hfr hB O HR HV n
 have z:=(goK_sound hfr hB O HR HV hs (σ:=⟨fun _=>0,fun _=>0,fun _ _=>0,fun _=>default,fun _=>[],fun _ _=>.none⟩) (c':=c) (c:=none) (d₀:=0) (k₀:=kRet) (κ₀:=.base) (T:=T) (b:=b+900) (o:=0) (tk:=tk) (ti:=0) (k:=0)
  (sk:=o.sk) (ls:=o.ls) (cs:=o.cs) (cl:=o.cl) (eqs:=[]) (conds:=[]) (h:=h) (g:=g) (GR.refl _ _) (fun ρ _=>by
    obtain ⟨out,h1,h2,tr,τ,h3,h4,h5⟩:=(path ρ).use
    obtain ⟨q1,q2⟩:=fin ρ out.sz
    refine ⟨out,h1,h2,by rw [h4];exact q1,fun h' g' D' hg hsz=>?_⟩
    have D2:=D'.perm (nodupB_spec hn)
    rw [h5] at D2
    have:=q2 h' g' tr τ out.toks hsz hg D2
    rw [←h3] at this
    revert this
    cases out.r with
    | inl f=>cases f <;> exact id
    | inr e=>exact id) D (ar10) ⟨⟨hA.1,hA.2⟩,hA.1⟩).2
 intro Γ p hc hΓ
 refine wpCode_mono (fun r s hr=>?_) (z Γ p hc hΓ)
 rw [endK_ret] at hr
 have hIn:(Γ.goto (.block [] default)).In A:=by
  obtain ⟨e1,e2,e3,e4,e5⟩:=hΓ
  have w0:(Code.block [] default).weight=0:=by decide
  have u0:(Code.block [] default).cUnits=0:=by decide
  refine ⟨e1,by show frameCount Γ.below+(Code.block [] default).weight≤_;rw [w0];exact e2,fun l hl=>?_,fun g hg=>?_,?_⟩
  ·show (Code.block [] default).envs++envsOf Γ.below=l
   rw [e3 l hl];rfl
  ·show (Code.block [] default).guards++guardsOf Γ.below=g
   rw [e4 g hg,show (Code.block [] default).guards=[] by decide];rfl
  ·show (Code.block [] default).cUnits+unitsOf Γ.below≤_
   rw [u0];lia
 have hr:=hr _ p hIn
 cases r with
 | ok f=>exact hr
 | error e=>exact hr
end
noncomputable def bnd:Value→Option (Option (Int×Tok))
 | .none=>some none
 | .int i t=>some (some (i,t))
 | _=>none
theorem bnd_spec {v:Value} {p:Option (Int×Tok)} (h:bnd v=some p):partValue p=v:=by
 unfold bnd at h
 split at h
 ·cases h;rfl
 ·cases h;rfl
 ·cases h
noncomputable def sliceO (o:Obj):Option (Option (Int×Tok)×Option (Int×Tok)):=match o with
 | ⟨.type ty,_,.fields vs,_⟩=>match Nat.beq (PySem.code ty) (PySem.code "slice") with
   | true=>match vs.toList with
     | [a,b,.none]=>(bnd a).bind fun x=>(bnd b).bind fun y=>some (x,y)
     | _=>none
   | false=>none
 | _=>none
theorem sliceO_spec {o:Obj} {r} (h:sliceO o=some r):o.cls= .type "slice"∧o.data= .fields #[partValue r.1,partValue r.2,partValue none]:=by
 obtain ⟨c,d,dt,sl⟩:=o
 unfold sliceO at h
 split at h
 ·rename_i ty d' vs sl' heq
  cases heq
  cases hc:Nat.beq (PySem.code ty) (PySem.code "slice") with
  | false=>rw [hc] at h;cases h
  | true=>
    rw [hc] at h
    obtain rfl:ty=_:=code_inj _ _ (Nat.eq_of_beq_eq_true hc)
    dsimp only at h
    split at h
    ·rename_i a b hv
     replace h:=bndE h;obtain ⟨x,hx,h⟩:=h
     replace h:=bndE h;obtain ⟨y,hy,h⟩:=h
     cases h
     obtain ⟨l⟩:=vs
     simp only at hv
     subst hv
     refine ⟨rfl,?_⟩
     rw [bnd_spec hx,bnd_spec hy]
     rfl
    ·cases h
 ·cases h
noncomputable def sliceS (x:Str) (l u:Option (Int×Tok)):Str:=Txt.slice x (l.map (·.1)) (u.map (·.1))
noncomputable def strSliceS (js:List Nat) (args:List Value) (T:List Cell):Option EOut:=match args with
 | [.str x _,.ref a]=>match js with
   | j::_=>(T[j]?).bind fun c=>(sliceO c.2).bind fun r=>some ⟨[(.nat a,.nat c.1)],[x.length≤sizeLine],fun b _ u=>(.ok (.ret (.str (sliceS x r.1 r.2) (u 0))),T)⟩
   | []=>none
 | _=>none
noncomputable abbrev strSliceR:ERule:=mkH "str.__getitem__" strSliceS
theorem strSliceR_ok {B:Nat} {V:RV} {w:World}:RuleOk B V pw_il0098_01 w strSliceR:=mkH_ok (by
 intro js args T eo he h1 h2 A h₀ h sz g dr tok os hA hd D hsz
 unfold strSliceS at he
 split at he
 ·rename_i x t a
  split at he
  ·rename_i j js
   replace he:=bndE he;obtain ⟨c,hT,he⟩:=he
   replace he:=bndE he;obtain ⟨r,hr,he⟩:=he
   cases he
   obtain rfl:a=c.1:=Side.nat.inj (h1 _ (.head _))
   have hx:x.length≤sizeLine:=h2 _ (.head _)
   obtain ⟨hcls,hdat⟩:=sliceO_spec hr
   have hc:=D.own _ _ hT
   have hle:(sliceS x r.1 r.2).length≤sizeLine:=Nat.le_trans (Txt.slice_le x _ _) hx
   have key:∀ R:Result→Shared→Prop,(∀ u k,R (.ok (.ret (.str (sliceS x r.1 r.2) u))) ⟨h,g,dr,k,os⟩)→codeAny (MM w) A (.call (.builtin "str.__getitem__") ⟨[.str x t,.ref c.1],[]⟩) R ⟨h,g,dr,tok,os⟩:=by
    intro R fin
    refine codeAny_call_builtin F.slot_str_getitem.plain F.entry_str_getitem (F.slot_str_getitem.check _ _ _ _ _ _ _ _ (typeIs_str _ _ _) (F.args_str_getitem_2 _ _) ?_)
    refine meets_str_getitem_slice x t c.1 r.1 r.2 none rfl _ w A R ⟨h,g,dr,tok,os⟩ ⟨⟨c.2,hc,hcls,hdat⟩,?_⟩
    unfold sliceMade
    unfold sliceS Txt.slice at fin hle
    split
    ·rename_i q
     rw [if_pos (by exact q)] at fin
     exact fin _ _
    ·rename_i q
     rw [if_neg (by exact q)] at fin hle
     exact ⟨hle,fin _ _⟩
   refine key _ fun u k=>⟨sz - 900,k,fun _=>u,g,rfl,by rw [show sz - 900+900=sz by exact ar1];exact D,ar2,GR.refl _ _,rfl⟩
  ·cases he
 ·cases he)
end
section
open PySem.Calls
noncomputable def rules2:Nat→Option ERule:=tab rules1 [(24,strSliceR)]
theorem rules2_ok {B:Nat} (hB:B≤800) {V:RV} {w:World} (hV:V.look=lookK w.params):∀ i R,rules2 i=some R→RuleOk B V pw_il0098_01 w R:=by
 exact tab_cons (strSliceR_ok) (rules1_ok hB hV)
noncomputable def dicO (es:List DictEntry) (n:Nat):Obj:=⟨.type "dict",none,.dict ⟨es⟩ n,⟨[]⟩⟩
noncomputable def insO (cls:Addr) (d:Addr):Obj:=⟨.ref cls,some d,.plain,⟨[]⟩⟩
noncomputable def stIO (P:Params) (S D:Nat) (text:Str) (k:Int):St:=fun τ=>[(S,insO 719 D),(D,dicO [E P ⟨⟨[95,83,116,114,105,110,103,73,79,95,95,110,101,119,108,105,110,101]⟩⟩ (τ 0) (.str ⟨⟨[10]⟩⟩ (τ 1)),E P ⟨⟨[95,83,116,114,105,110,103,73,79,95,95,98,117,102]⟩⟩ (τ 2) (.str text (τ 3)),E P ⟨⟨[95,83,116,114,105,110,103,73,79,95,95,112,111,115]⟩⟩ (τ 4) (.int k (τ 5))] 3)]
noncomputable abbrev tailS (x:Str):Str:=Txt.slice (x++⟨⟨[32]⟩⟩) none (some (-1))
theorem read_mid (P:Params):∀ (ρ:Unk) (τ:Nat→Tok) (S D:Nat) (text:Str) (k:Int) (t:Tok) (b tk:Nat),
 PathI [5,6] (fun _=>⟨fun u=>.inl (.done (.ret (.str (tailS (Txt.slice text (some k) (some (k+1)))) u))),[((Txt.slice text (some k) (some (k+1)))++⟨⟨[32]⟩⟩:Str).length≤sizeLine,((Txt.slice text (some k) (some (k+1)))++⟨⟨[32]⟩⟩:Str).length≤sizeLine,text.length≤sizeLine,k+1 < (text.length:Int),¬(k≥(text.length:Int)),text.length < 2 ^ 63],stIO P S D text (k+1)⟩)
  (runC (VK P rules2) ρ 500 (.call (.ref 665) ⟨[.ref S,.int 1 t],[]⟩) (stIO P S D text k τ) b tk (orcN 2 72222922600302292757518794906510727142548270404869540308935928794229418413200034791763797434235208617399803393154929064330647223782503694776119250094210550037816586191737494053830704481566981560663915062297180584333108248513148560080164750207238654515499561221145342661874677753508584973024627261965848965826796125093759267848773182358315079871812980824433066131790561281 21 [(.eff 20 [],0),(.eff 5 [0],2),(.eff 16 [],0),(.eff 4 [1],0),(.eff 16 [],3),(.eff 24 [0],0),(.eff 3 [],2),(.eff 24 [0],100000)])):=
 fP2 (by intros;kernel_rfl) (by intros;kernel_rfl) P
theorem read_last (P:Params):∀ (ρ:Unk) (τ:Nat→Tok) (S D:Nat) (text:Str) (k:Int) (t:Tok) (b tk:Nat),
 PathI [5,6] (fun _=>⟨fun u=>.inl (.done (.ret (.str (tailS (Txt.slice text (some k) (some (text.length:Int)))) u))),[((Txt.slice text (some k) (some (text.length:Int)))++⟨⟨[32]⟩⟩:Str).length≤sizeLine,((Txt.slice text (some k) (some (text.length:Int)))++⟨⟨[32]⟩⟩:Str).length≤sizeLine,text.length≤sizeLine,¬(k+1 < (text.length:Int)),¬(k≥(text.length:Int)),text.length < 2 ^ 63],stIO P S D text (text.length:Int)⟩)
  (runC (VK P rules2) ρ 500 (.call (.ref 665) ⟨[.ref S,.int 1 t],[]⟩) (stIO P S D text k τ) b tk (orcN 2 3915212479325009141185279135149409744661985495043111130561166608638738263433768326056796018168078050449259802708194012320930137398996073094571019330500871374783218788146661418755271383836952347525234352025196625915889451705205041105042881907568579068828223270258978925589080393400450346907412457044060782840772520111705477922857543390148039130315030529 21 [(.eff 20 [],0),(.eff 5 [0],2),(.eff 16 [],0),(.eff 4 [0],3),(.eff 24 [0],0),(.eff 3 [],2),(.eff 24 [0],100000)])):=
 fP2 (by intros;kernel_rfl) (by intros;kernel_rfl) P
theorem read_end (P:Params):∀ (ρ:Unk) (τ:Nat→Tok) (S D:Nat) (text:Str) (k:Int) (t:Tok) (b tk:Nat),
 PathI [3,4] (fun _=>⟨fun u=>.inl (.done (.ret (.str ⟨⟨[]⟩⟩ u))),[k≥(text.length:Int),text.length < 2 ^ 63],stIO P S D text k⟩)
  (runC (VK P rules2) ρ 500 (.call (.ref 665) ⟨[.ref S,.int 1 t],[]⟩) (stIO P S D text k τ) b tk (orcN 2 426772928052851447820337884612501202258002822593811580323909465813077781530690330264515985188943174190443539059515628505856963331859909716931098768951771421809107449018560719069850114573335735566016089450011517474204686492396532275712086912335873 21 [(.eff 20 [],0),(.eff 5 [1],100000)])):=
 fP2 (by intros;kernel_rfl) (by intros;kernel_rfl) P
noncomputable def rulesA:Nat→Option ERule
 | 0=>some (mkR "str.__eq__" eqSpec)
 | 1=>some (mkR "str.__ne__" neSpec)
 | 2=>some (mkR "str.__contains__" inSpec)
 | 3=>some (mkR "str.__add__" addSpec)
 | 4=>some (mkR "int.__lt__" ltSpec)
 | 5=>some (mkR "int.__ge__" geSpec)
 | 6=>some (mkR "int.__gt__" gtSpec)
 | 7=>some (mkR "int.__eq__" ieqSpec)
 | 8=>some (mkR "int.__ne__" ineSpec)
 | 9=>some strNextR
 | 10=>some (mkR "str.__mul__" mulSpec)
 | _=>none
noncomputable def stE (P:Params) (L it:Nat) (path:Str) (rounds:Int) (e:Bool) (i:Int) (most:Int) (edge text sign:Str) (k:Int):St:=fun τ=>
 [(L,frO [E P ⟨⟨[112,97,116,104]⟩⟩ (τ 0) (.str path (τ 1)),E P ⟨⟨[114,111,117,110,100,115]⟩⟩ (τ 2) (.int rounds (τ 3)),E P ⟨⟨[101,115,99,97,112,101,100]⟩⟩ (τ 4) (.bool e),E P ⟨⟨[105,110,115,105,100,101]⟩⟩ (τ 6) (.int i (τ 7)),E P ⟨⟨[109,111,115,116]⟩⟩ (τ 8) (.int most (τ 9)),E P ⟨⟨[101,100,103,101]⟩⟩ (τ 10) (.str edge (τ 11)),E P ⟨⟨[116,101,120,116]⟩⟩ (τ 12) (.str text (τ 13)),E P ⟨⟨[115,105,103,110]⟩⟩ (τ 14) (.str sign (τ 15))] 8),(it,itO "str_ascii_iterator" [.str path (τ 16),.int k 0])]
noncomputable def codeE (P:Params) (L it:Nat):Code:=loopC (stm (st 50) 3) (.ref it) (envF (o886 P) 886 L)
noncomputable def sgn (path:Str) (k:Int):Str:=⟨⟨[path.cps.getD k.toNat 0]⟩⟩
theorem struck_A (P:Params):∀ (ρ:Unk) (τ:Nat→Tok) (L it:Nat) (path:Str) (rounds:Int) (e:Bool) (i:Int) (most:Int) (edge text sign:Str) (k:Int) (b tk:Nat),
 PathOk (fun _=>⟨fun _=>.inl (.again (codeE P L it)),[(text++⟨(List.replicate (most - i).toNat 39).toArray⟩).length≤sizeLine,(⟨⟨[39]⟩⟩:Str).length=1,0≤most - i,most - i≤65536,sgn path k=⟨⟨[39]⟩⟩,path.cps[k.toNat]? =some (path.cps.getD k.toNat 0)],stE P L it path rounds (decide (sgn path k=⟨⟨[92]⟩⟩)) (i) most edge (text++⟨(List.replicate (most - i).toNat 39).toArray⟩) (sgn path k) (k+1)⟩)
  (runO P rulesA ρ 100 (fDen (codeE P L it)) (stE P L it path rounds e i most edge text sign k τ) b tk ⟨0,[(1,0),(0,0),(0,0),(0,0),(0,0),(0,0),(0,0),(0,0),(0,0),(0,0),(0,0),(0,100000)],0,[(.eff 9 [1,1],0),(.eff 0 [1],4),(.eff 10 [],0),(.eff 3 [],0),(.eff 0 [2],100000)]⟩):=
 fP2 (by intros;kernel_rfl) (by intros;kernel_rfl) P
theorem struck_B (P:Params):∀ (ρ:Unk) (τ:Nat→Tok) (L it:Nat) (path:Str) (rounds:Int) (e:Bool) (i:Int) (most:Int) (edge text sign:Str) (k:Int) (b tk:Nat),
 PathOk (fun _=>⟨fun _=>.inl (.again (codeE P L it)),[sgn path k=⟨⟨[34]⟩⟩,¬sgn path k=⟨⟨[39]⟩⟩,path.cps[k.toNat]? =some (path.cps.getD k.toNat 0)],stE P L it path rounds (decide (sgn path k=⟨⟨[92]⟩⟩)) (1 - i) most edge (text) (sgn path k) (k+1)⟩)
  (runO P rulesA ρ 100 (fDen (codeE P L it)) (stE P L it path rounds false i most edge text sign k τ) b tk ⟨0,[(1,0),(0,0),(0,0),(0,0),(0,0),(0,0),(0,0),(0,0),(0,0),(0,0),(0,0),(0,100000)],0,[(.eff 9 [1,1],0),(.eff 0 [0],0),(.eff 0 [1],2),(.eff 0 [2],100000)]⟩):=
 fP2 (by intros;kernel_rfl) (by intros;kernel_rfl) P
theorem struck_C0 (P:Params):∀ (ρ:Unk) (τ:Nat→Tok) (L it:Nat) (path:Str) (rounds:Int) (e:Bool) (i:Int) (most:Int) (edge text sign:Str) (k:Int) (b tk:Nat),
 PathOk (fun _=>⟨fun _=>.inl (.again (codeE P L it)),[(text++sgn path k).length≤sizeLine,sgn path k=⟨⟨[34]⟩⟩,¬sgn path k=⟨⟨[39]⟩⟩,path.cps[k.toNat]? =some (path.cps.getD k.toNat 0)],stE P L it path rounds (decide (sgn path k=⟨⟨[92]⟩⟩)) (0) most edge (text++sgn path k) (sgn path k) (k+1)⟩)
  (runO P rulesA ρ 100 (fDen (codeE P L it)) (stE P L it path rounds true 0 most edge text sign k τ) b tk ⟨0,[(1,0),(0,0),(0,0),(0,0),(0,0),(0,0),(0,0),(0,0),(0,0),(0,0),(0,0),(0,0),(0,0),(0,100000)],0,[(.eff 9 [1,1],0),(.eff 0 [0],0),(.eff 0 [1],2),(.eff 3 [],0),(.eff 0 [2],100000)]⟩):=
 fP2 (by intros;kernel_rfl) (by intros;kernel_rfl) P
theorem struck_C1 (P:Params):∀ (ρ:Unk) (τ:Nat→Tok) (L it:Nat) (path:Str) (rounds:Int) (e:Bool) (i:Int) (most:Int) (edge text sign:Str) (k:Int) (b tk:Nat),
 PathOk (fun _=>⟨fun _=>.inl (.again (codeE P L it)),[sgn path k=⟨⟨[34]⟩⟩,¬sgn path k=⟨⟨[39]⟩⟩,path.cps[k.toNat]? =some (path.cps.getD k.toNat 0)],stE P L it path rounds (decide (sgn path k=⟨⟨[92]⟩⟩)) (1) most edge (text) (sgn path k) (k+1)⟩)
  (runO P rulesA ρ 100 (fDen (codeE P L it)) (stE P L it path rounds true 1 most edge text sign k τ) b tk ⟨0,[(1,0),(0,0),(0,0),(0,0),(0,0),(0,0),(0,0),(0,0),(0,0),(0,100000)],0,[(.eff 9 [1,1],0),(.eff 0 [0],0),(.eff 0 [1],2),(.eff 0 [2],100000)]⟩):=
 fP2 (by intros;kernel_rfl) (by intros;kernel_rfl) P
theorem struck_D0 (P:Params):∀ (ρ:Unk) (τ:Nat→Tok) (L it:Nat) (path:Str) (rounds:Int) (e:Bool) (i:Int) (most:Int) (edge text sign:Str) (k:Int) (b tk:Nat),
 PathOk (fun _=>⟨fun _=>.inl (.again (codeE P L it)),[(text++sgn path k).length≤sizeLine,¬sgn path k=⟨⟨[34]⟩⟩,¬sgn path k=⟨⟨[39]⟩⟩,path.cps[k.toNat]? =some (path.cps.getD k.toNat 0)],stE P L it path rounds (decide (sgn path k=⟨⟨[92]⟩⟩)) (0) most edge (text++sgn path k) (sgn path k) (k+1)⟩)
  (runO P rulesA ρ 100 (fDen (codeE P L it)) (stE P L it path rounds e 0 most edge text sign k τ) b tk ⟨0,[(1,0),(0,0),(0,0),(0,0),(0,0),(0,0),(0,0),(0,0),(0,0),(0,0),(0,0),(0,0),(0,100000)],0,[(.eff 9 [1,1],0),(.eff 0 [0],0),(.eff 0 [0],2),(.eff 3 [],0),(.eff 0 [2],100000)]⟩):=
 fP2 (by intros;kernel_rfl) (by intros;kernel_rfl) P
theorem struck_D1 (P:Params):∀ (ρ:Unk) (τ:Nat→Tok) (L it:Nat) (path:Str) (rounds:Int) (e:Bool) (i:Int) (most:Int) (edge text sign:Str) (k:Int) (b tk:Nat),
 PathOk (fun _=>⟨fun _=>.inl (.again (codeE P L it)),[¬sgn path k=⟨⟨[34]⟩⟩,¬sgn path k=⟨⟨[39]⟩⟩,path.cps[k.toNat]? =some (path.cps.getD k.toNat 0)],stE P L it path rounds (decide (sgn path k=⟨⟨[92]⟩⟩)) (1) most edge (text) (sgn path k) (k+1)⟩)
  (runO P rulesA ρ 100 (fDen (codeE P L it)) (stE P L it path rounds e 1 most edge text sign k τ) b tk ⟨0,[(1,0),(0,0),(0,0),(0,0),(0,0),(0,0),(0,0),(0,0),(0,100000)],0,[(.eff 9 [1,1],0),(.eff 0 [0],0),(.eff 0 [0],2),(.eff 0 [2],100000)]⟩):=
 fP2 (by intros;kernel_rfl) (by intros;kernel_rfl) P
noncomputable def stE0 (P:Params) (L it:Nat) (path:Str) (rounds:Int) (e:Bool) (i:Int) (most:Int) (edge text:Str) (k:Int):St:=fun τ=>
 [(L,frO [E P ⟨⟨[112,97,116,104]⟩⟩ (τ 0) (.str path (τ 1)),E P ⟨⟨[114,111,117,110,100,115]⟩⟩ (τ 2) (.int rounds (τ 3)),E P ⟨⟨[101,115,99,97,112,101,100]⟩⟩ (τ 4) (.bool e),E P ⟨⟨[105,110,115,105,100,101]⟩⟩ (τ 6) (.int i (τ 7)),E P ⟨⟨[109,111,115,116]⟩⟩ (τ 8) (.int most (τ 9)),E P ⟨⟨[101,100,103,101]⟩⟩ (τ 10) (.str edge (τ 11)),E P ⟨⟨[116,101,120,116]⟩⟩ (τ 12) (.str text (τ 13))] 7),(it,itO "str_ascii_iterator" [.str path (τ 14),.int k 0])]
noncomputable def stEz (P:Params) (L it:Nat) (path:Str) (rounds:Int) (e:Bool) (i:Int) (most:Int) (edge text sign:Str) (k:Int):St:=fun τ=>
 [(L,frO [E P ⟨⟨[112,97,116,104]⟩⟩ (τ 0) (.str path (τ 1)),E P ⟨⟨[114,111,117,110,100,115]⟩⟩ (τ 2) (.int rounds (τ 3)),E P ⟨⟨[101,115,99,97,112,101,100]⟩⟩ (τ 4) (.bool e),E P ⟨⟨[105,110,115,105,100,101]⟩⟩ (τ 6) (.int i (τ 7)),E P ⟨⟨[109,111,115,116]⟩⟩ (τ 8) (.int most (τ 9)),E P ⟨⟨[101,100,103,101]⟩⟩ (τ 10) (.str edge (τ 11)),E P ⟨⟨[116,101,120,116]⟩⟩ (τ 12) (.str text (τ 13)),E P ⟨⟨[115,105,103,110]⟩⟩ (τ 14) (.str sign (τ 15))] 8),(it,itO "str_ascii_iterator" [.none,.int k 0])]
theorem struck_D0_first (P:Params):∀ (ρ:Unk) (τ:Nat→Tok) (L it:Nat) (path:Str) (rounds:Int) (e:Bool) (most:Int) (edge text:Str) (k:Int) (b tk:Nat),
 PathOk (fun _=>⟨fun _=>.inl (.again (codeE P L it)),[(text++sgn path k).length≤sizeLine,¬sgn path k=⟨⟨[34]⟩⟩,¬sgn path k=⟨⟨[39]⟩⟩,path.cps[k.toNat]? =some (path.cps.getD k.toNat 0)],stE P L it path rounds (decide (sgn path k=⟨⟨[92]⟩⟩)) 0 most edge (text++sgn path k) (sgn path k) (k+1)⟩)
  (runO P rulesA ρ 100 (fDen (codeE P L it)) (stE0 P L it path rounds e 0 most edge text k τ) b tk ⟨0,[(1,0),(0,0),(0,0),(0,0),(0,0),(0,0),(0,0),(0,0),(0,0),(0,0),(0,0),(0,0),(0,100000)],0,[(.eff 9 [1,1],0),(.eff 0 [0],0),(.eff 0 [0],2),(.eff 3 [],0),(.eff 0 [2],100000)]⟩):=
 fP2 (by intros;kernel_rfl) (by intros;kernel_rfl) P
theorem struck_end (P:Params):∀ (ρ:Unk) (τ:Nat→Tok) (L it:Nat) (path:Str) (rounds:Int) (e:Bool) (i:Int) (most:Int) (edge text sign:Str) (k:Int) (b tk:Nat),
 PathOk (fun _=>⟨fun _=>.inl (.again (.block [] (envF (o886 P) 886 L))),[path.cps[k.toNat]? =none],fun τ=>excCells (ρ.b 0) "StopIteration"++stEz P L it path rounds e i most edge text sign k (fun j=>τ (j+6))⟩)
  (runO P rulesA ρ 100 (fDen (codeE P L it)) (stE P L it path rounds e i most edge text sign k τ) b tk ⟨0,[(1,0),(0,100000)],0,[(.eff 9 [1,0],100000)]⟩):=
 fP2 (by intros;kernel_rfl) (by intros;kernel_rfl) P
theorem rulesA_ok {B:Nat} {w:World} {V:RV}:∀ i R,rulesA i=some R→RuleOk B V pw_il0098_01 w R:=by
 intro i R h
 match i,h with
 | 0,h=>cases h;exact eqSpec_ok
 | 1,h=>cases h;exact neSpec_ok
 | 2,h=>cases h;exact inSpec_ok
 | 3,h=>cases h;exact addSpec_ok
 | 4,h=>cases h;exact ltSpec_ok
 | 5,h=>cases h;exact geSpec_ok
 | 6,h=>cases h;exact gtSpec_ok
 | 7,h=>cases h;exact ieqSpec_ok
 | 8,h=>cases h;exact ineSpec_ok
 | 9,h=>cases h;exact strNextR_ok
 | 10,h=>cases h;exact mulSpec_ok
theorem blk_path (P:Params) (rules:Nat→Option ERule) (ρ:Unk) (env:Env) (T:List Cell) (b tk:Nat):
 PathOk (fun _=>⟨fun _=>.inl (.done .next),[],fun _=>T⟩) (runO P rules ρ 5 (fDen (.block [] env)) T b tk ⟨0,[],0,[]⟩):=by
 kernel_rfl
structure SS where
 e:Bool
 i:Int
 text:Str
 sign:Str
noncomputable def rep39 (n:Int):Str:=⟨(List.replicate n.toNat 39).toArray⟩
noncomputable def one (c:Nat):Str:=⟨⟨[c]⟩⟩
noncomputable def sstep (most:Int) (s:SS) (c:Nat):SS:=
 if c=39 then ⟨decide (c=92),s.i,s.text++rep39 (most - s.i),one c⟩
 else if c=34∧s.e=false then ⟨decide (c=92),1 - s.i,s.text,one c⟩
 else if s.i=0 then ⟨decide (c=92),s.i,s.text++one c,one c⟩
 else ⟨decide (c=92),s.i,s.text,one c⟩
theorem sgn_eq {path:Str} {k:Nat} {c:Nat} (h:path.cps[k]? =some c):sgn path (k:Int)=one c:=by
 unfold sgn one
 rw [Int.toNat_natCast,Array.getD_eq_getD_getElem?,h]
 rfl
theorem codeE_w (P:Params) (L it:Nat):(codeE P L it).weight≤4:=Nat.le_of_ble_eq_true (by kernel_rfl)
theorem codeE_q (P:Params) (L it:Nat):(codeE P L it).quiet=true:=by kernel_rfl
theorem one_inj {c d:Nat}:one c=one d↔c=d:=⟨fun h=>by simpa [one] using h,fun h=>by rw [h]⟩
theorem len_app (a b:Str):(a++b).length=a.length+b.length:=by
 show (a.cps++b.cps).size=_
 rw [Array.size_append];rfl
theorem struck_turns {w:World} {B:Nat} {A:Around} {h₀:Fr} {g:Array GenState} {dr:Drawn} {os:OsState} (hB:B≤800) (hA:A.depth+4≤B∧A.handled=none)
 (L it:Nat) (path:Str) (rounds most:Int) (edge:Str) (hm:1≤most∧most≤65536):
 ∀ (n k:Nat) (s:SS) (τ:Nat→Tok) (h:Heap) (b tk:Nat),path.cps.size=k+n→(s.i=0∨s.i=1)→s.text.length+n * 65537≤sizeLine→13≤b→
  Rep (VK w.params rulesA) h₀ h (stE w.params L it path rounds s.e s.i most edge s.text s.sign (k:Int) τ) (b+900)→
  codeAny (MM w) A (codeE w.params L it) (fun x s'=>∃ u b' t,Except.ok PySem.Flow.next=x∧Rep (VK w.params rulesA) h₀ s'.heap (let f:=(path.cps.toList.drop k).foldl (sstep most) s;stEz w.params L it path rounds f.e f.i most edge f.text f.sign (path.cps.size:Int) u) (b'+900)∧13≤b'∧s'=⟨s'.heap,g,dr,t,os⟩) ⟨h,g,dr,tk,os⟩:=by
 intro n
 induction n with
 | zero=>
   intro k s τ h b tk hk hi hl hb D
   have ho:path.cps[k]? =none:=Array.getElem?_eq_none (by lia)
   have hd:path.cps.toList.drop k=[]:=List.drop_eq_nil_of_le (by simp;lia)
   refine code_path rulesA_ok (fun ρ=>struck_end w.params ρ τ L it path rounds s.e s.i most edge s.text s.sign k b tk) (codeE_w ..) hB hA D hb fun ρ sz=>⟨?_,?_⟩
   ·intro p hp
    cases List.mem_singleton.mp hp
    exact ho
   ·intro h' tr τ' tok hsz D'
    refine ⟨rfl,?_⟩
    obtain ⟨b',rfl⟩:∃ b',sz=b'+900:=⟨sz - 900,by exact ar1'⟩
    refine code_path (h₀:=h₀) rulesA_ok (fun ρ=>blk_path w.params rulesA ρ _ _ b' tok) (Nat.le_of_ble_eq_true rfl) hB hA D'.drop (by lia) fun ρ sz2=>And.intro (fun p hp=>nomatch hp) fun h2 tr2 τ2 tok2 hsz2 D2=>?_
    refine ⟨fun j=>τ' (j+6),sz2 - 900,tok2,rfl,?_,by exact ar2,rfl⟩
    rw [hd,show sz2 - 900+900=sz2 by exact ar1,show path.cps.size=k by lia]
    exact D2
 | succ n ih=>
   intro k s τ h b tk hk hi hl hb D
   obtain ⟨c,hc⟩:∃ c,path.cps[k]? =some c:=⟨_,Array.getElem?_eq_getElem (by lia)⟩
   have hs:=sgn_eq hc
   have hg:path.cps[(k:Int).toNat]? =some (path.cps.getD (k:Int).toNat 0):=by rw [Int.toNat_natCast,Array.getD_eq_getD_getElem?,hc];rfl
   have hd:path.cps.toList.drop k=c::path.cps.toList.drop (k+1):=by
    rw [List.drop_eq_getElem_cons (by simp;lia)]
    congr 1
    have:=Array.getElem?_eq_getElem (xs:=path.cps) (i:=k) (by lia)
    rw [hc] at this
    simpa using (Option.some.inj this).symm
   have h92:decide (sgn path (k:Int)=⟨⟨[92]⟩⟩)=decide (c=92):=by rw [hs];exact decide_eq_decide.mpr one_inj
   have next:∀ (s':SS) (P':Prop),sstep most s c=s'→(s'.i=0∨s'.i=1)→s'.text.length+n * 65537≤sizeLine→
    ∀ h' (τ':Nat→Tok) sz tok,913≤sz→Rep (VK w.params rulesA) h₀ h' (stE w.params L it path rounds s'.e s'.i most edge s'.text s'.sign ((k:Int)+1) τ') sz→
    (codeE w.params L it).quiet=true∧codeAny (MM w) A (codeE w.params L it) (fun x s'=>∃ u b' t,Except.ok PySem.Flow.next=x∧Rep (VK w.params rulesA) h₀ s'.heap (let f:=(path.cps.toList.drop k).foldl (sstep most) s;stEz w.params L it path rounds f.e f.i most edge f.text f.sign (path.cps.size:Int) u) (b'+900)∧13≤b'∧s'=⟨s'.heap,g,dr,t,os⟩) ⟨h',g,dr,tok,os⟩:=by
    intro s' _ e1 e2 e3 h' τ' sz tok hsz D'
    refine ⟨codeE_q ..,?_⟩
    rw [hd,List.foldl_cons,e1]
    refine ih (k+1) s' τ' h' (sz - 900) tok (by exact ar35) e2 e3 (by exact ar2) ?_
    rw [show sz - 900+900=sz by exact ar1]
    exact D'
   by_cases c39:c=39
   ·have e1:sstep most s c=⟨decide (c=92),s.i,s.text++rep39 (most - s.i),one c⟩:=by unfold sstep;rw [if_pos c39]
    have hr:(rep39 (most - s.i)).length≤65536:=by
     unfold rep39 Str.length
     simp
     lia
    have hl':(s.text++rep39 (most - s.i)).length+n * 65537≤sizeLine:=by rw [len_app];lia
    refine code_path rulesA_ok (fun ρ=>struck_A w.params ρ τ L it path rounds s.e s.i most edge s.text s.sign k b tk) (codeE_w ..) hB hA D hb fun ρ sz=>⟨?_,?_⟩
    ·intro p hp
     simp only [List.mem_cons,List.not_mem_nil,or_false] at hp
     rcases hp with rfl | rfl | rfl | rfl | rfl | rfl
     ·show (s.text++rep39 (most - s.i)).length≤sizeLine
      exact ar12
     ·rfl
     ·lia
     ·lia
     ·rw [hs,c39];rfl
     ·exact hg
    ·intro h' tr τ' tok hsz D'
     refine next _ True e1 hi hl' h' τ' sz tok hsz ?_
     have D':=D'
     dsimp only at D'
     rw [h92,hs] at D'
     exact D'
   ·obtain ⟨e,i,text,sign⟩:=s
    dsimp only at hi hl D next⊢
    by_cases c34:c=34
    ·cases e with
     | false=>
       refine code_path rulesA_ok (fun ρ=>struck_B w.params ρ τ L it path rounds false i most edge text sign k b tk) (codeE_w ..) hB hA D hb fun ρ sz=>⟨?_,?_⟩
       ·intro p hp
        simp only [List.mem_cons,List.not_mem_nil,or_false] at hp
        rcases hp with rfl | rfl | rfl
        ·rw [hs,c34];rfl
        ·rw [hs];exact fun q=>c39 (one_inj.mp q)
        ·exact hg
       ·intro h' tr τ' tok hsz D'
        refine next _ True (by unfold sstep;rw [if_neg c39,if_pos ⟨c34,rfl⟩]) (by rcases hi with rfl | rfl <;> simp) ?_ h' τ' sz tok hsz ?_
        ·exact Nat.le_trans (Nat.add_le_add_left (Nat.mul_le_mul_right _ (Nat.le_succ n)) _) hl
        ·dsimp only at D'
         rw [h92,hs] at D'
         exact D'
     | true=>
       rcases hi with rfl | rfl
       ·refine code_path rulesA_ok (fun ρ=>struck_C0 w.params ρ τ L it path rounds true 0 most edge text sign k b tk) (codeE_w ..) hB hA D hb fun ρ sz=>⟨?_,?_⟩
        ·intro p hp
         simp only [List.mem_cons,List.not_mem_nil,or_false] at hp
         rcases hp with rfl | rfl | rfl | rfl
         ·show (text++sgn path (k:Int)).length≤sizeLine;rw [hs,len_app];show _+1≤_;exact ar45
         ·rw [hs,c34];rfl
         ·rw [hs];exact fun q=>c39 (one_inj.mp q)
         ·exact hg
        ·intro h' tr τ' tok hsz D'
         refine next _ True (by unfold sstep;rw [if_neg c39,if_neg (by simp),if_pos rfl]) (.inl rfl) ?_ h' τ' sz tok hsz ?_
         ·show (text++one c).length+n * 65537≤sizeLine;rw [len_app];have:(one c).length=1:=rfl;lia
         ·dsimp only at D'
          rw [h92,hs] at D'
          exact D'
       ·refine code_path rulesA_ok (fun ρ=>struck_C1 w.params ρ τ L it path rounds true 1 most edge text sign k b tk) (codeE_w ..) hB hA D hb fun ρ sz=>⟨?_,?_⟩
        ·intro p hp
         simp only [List.mem_cons,List.not_mem_nil,or_false] at hp
         rcases hp with rfl | rfl | rfl
         ·rw [hs,c34];rfl
         ·rw [hs];exact fun q=>c39 (one_inj.mp q)
         ·exact hg
        ·intro h' tr τ' tok hsz D'
         refine next _ True (by unfold sstep;rw [if_neg c39,if_neg (by simp),if_neg (show ¬((1:Int)=0) by decide)]) (.inr rfl) ?_ h' τ' sz tok hsz ?_
         ·exact Nat.le_trans (Nat.add_le_add_left (Nat.mul_le_mul_right _ (Nat.le_succ n)) _) hl
         ·dsimp only at D'
          rw [h92,hs] at D'
          exact D'
    ·rcases hi with rfl | rfl
     ·refine code_path rulesA_ok (fun ρ=>struck_D0 w.params ρ τ L it path rounds e 0 most edge text sign k b tk) (codeE_w ..) hB hA D hb fun ρ sz=>⟨?_,?_⟩
      ·intro p hp
       simp only [List.mem_cons,List.not_mem_nil,or_false] at hp
       rcases hp with rfl | rfl | rfl | rfl
       ·show (text++sgn path (k:Int)).length≤sizeLine;rw [hs,len_app];show _+1≤_;exact ar45
       ·rw [hs];exact fun q=>c34 (one_inj.mp q)
       ·rw [hs];exact fun q=>c39 (one_inj.mp q)
       ·exact hg
      ·intro h' tr τ' tok hsz D'
       refine next _ True (by unfold sstep;rw [if_neg c39,if_neg (fun q=>c34 q.1),if_pos rfl]) (.inl rfl) ?_ h' τ' sz tok hsz ?_
       ·show (text++one c).length+n * 65537≤sizeLine;rw [len_app];have:(one c).length=1:=rfl;lia
       ·dsimp only at D'
        rw [h92,hs] at D'
        exact D'
     ·refine code_path rulesA_ok (fun ρ=>struck_D1 w.params ρ τ L it path rounds e 1 most edge text sign k b tk) (codeE_w ..) hB hA D hb fun ρ sz=>⟨?_,?_⟩
      ·intro p hp
       simp only [List.mem_cons,List.not_mem_nil,or_false] at hp
       rcases hp with rfl | rfl | rfl
       ·rw [hs];exact fun q=>c34 (one_inj.mp q)
       ·rw [hs];exact fun q=>c39 (one_inj.mp q)
       ·exact hg
      ·intro h' tr τ' tok hsz D'
       refine next _ True (by unfold sstep;rw [if_neg c39,if_neg (fun q=>c34 q.1),if_neg (show ¬((1:Int)=0) by decide)]) (.inr rfl) ?_ h' τ' sz tok hsz ?_
       ·exact Nat.le_trans (Nat.add_le_add_left (Nat.mul_le_mul_right _ (Nat.le_succ n)) _) hl
       ·dsimp only at D'
        rw [h92,hs] at D'
        exact D'
noncomputable def struckEnd (most:Int) (edge path:Str):SS:=path.cps.toList.foldl (sstep most) ⟨false,0,edge,one 0⟩
noncomputable def FirstOk (path:Str):Prop:=∃ c,path.cps[0]? =some c∧c≠34∧c≠39
noncomputable def struckL (P:Params) (L it:Nat) (path:Str) (rounds most:Int) (edge text:Str):LSpec where
 c₀:=codeE P L it
 st:=stE0 P L it path rounds false 0 most edge text 0
 conds:=[FirstOk path,1≤most,most≤65536,text.length+path.length * 65537≤sizeLine]
 r:=fun _ _=>.ok .next
 st':=fun _=>stEz P L it path rounds (struckEnd most text path).e (struckEnd most text path).i most edge (struckEnd most text path).text (struckEnd most text path).sign (path.cps.size:Int)
theorem struckL_ok {B:Nat} (hB:B≤796) {w:World} (L it:Nat) (path:Str) (rounds most:Int) (edge text:Str):LoopOk B (VK w.params rulesA) w (struckL w.params L it path rounds most edge text):=by
 intro hc τ A h₀ h b g dr tok os hA hd hb D
 obtain ⟨c,h1,h34,h39⟩:FirstOk path:=hc _ (.head _)
 have hm1:1≤most:=hc _ (.tail _ (.head _))
 have hm2:most≤65536:=hc _ (.tail _ (.tail _ (.head _)))
 have hl:text.length+path.length * 65537≤sizeLine:=hc _ (.tail _ (.tail _ (.tail _ (.head _))))
 have hsz:1≤path.cps.size:=by
  rcases Nat.lt_or_ge 0 path.cps.size with q | q
  ·exact q
  ·rw [Array.getElem?_eq_none q] at h1;cases h1
 have hs:sgn path ((0:Nat):Int)=one c:=sgn_eq h1
 have hd0:path.cps.toList=c::path.cps.toList.drop 1:=by
  have:=List.drop_eq_getElem_cons (l:=path.cps.toList) (i:=0) (by simp;lia)
  rw [List.drop_zero] at this
  rw [this]
  congr 1
  have q:=Array.getElem?_eq_getElem (xs:=path.cps) (i:=0) (by lia)
  rw [h1] at q
  simpa using (Option.some.inj q).symm
 have hl':(text++one c).length+(path.cps.size - 1) * 65537≤sizeLine:=by
  rw [len_app]
  have:(one c).length=1:=rfl
  have e:path.length=(path.cps.size - 1)+1:=by show path.cps.size=_;exact ar69
  rw [e] at hl
  lia
 refine code_path (B:=B+4) rulesA_ok (fun ρ=>struck_D0_first w.params ρ τ L it path rounds false most edge text 0 b tok) (codeE_w ..) (ar14) ⟨by lia,hA⟩ D hb fun ρ sz=>⟨?_,?_⟩
 ·intro p hp
  simp only [List.mem_cons,List.not_mem_nil,or_false] at hp
  rcases hp with rfl | rfl | rfl | rfl
  ·show (text++sgn path ((0:Nat):Int)).length≤sizeLine
   rw [hs];exact ar12
  ·show ¬sgn path ((0:Nat):Int)=_
   rw [hs];exact fun q=>h34 (one_inj.mp q)
  ·show ¬sgn path ((0:Nat):Int)=_
   rw [hs];exact fun q=>h39 (one_inj.mp q)
  ·show path.cps[0]? =some (path.cps.getD 0 0)
   rw [Array.getD_eq_getD_getElem?,h1];rfl
 ·intro h' tr τ' tok' hsz' D'
  refine ⟨codeE_q ..,?_⟩
  have e1:sstep most ⟨false,0,text,one 0⟩ c=⟨decide (c=92),0,text++one c,one c⟩:=by
   unfold sstep
   rw [if_neg h39,if_neg (fun q=>h34 q.1),if_pos rfl]
  have z:=struck_turns (w:=w) (A:=A) (h₀:=h₀) (g:=g) (dr:=dr) (os:=os) (B:=B+4) (ar14) ⟨by lia,hA⟩ L it path rounds most edge ⟨hm1,hm2⟩ (path.cps.size - 1) 1 ⟨decide (c=92),0,text++one c,one c⟩ τ' h' (sz - 900) tok' (by lia) (.inl rfl) hl' (ar2) (by
   rw [show sz - 900+900=sz by exact ar1]
   have D':=D'
   dsimp only at D'
   rw [show (0:Int)=((0:Nat):Int) from rfl,hs,show decide (one c=⟨⟨[92]⟩⟩)=decide (c=92) from decide_eq_decide.mpr one_inj] at D'
   exact D')
  refine codeAny_mono z fun x s' ⟨u,b',t,hx,D2,hb',hs'⟩=>⟨u,b',t,g,hx,?_,hb',GR.refl _ _,hs'⟩
  show Rep _ _ _ (stEz w.params L it path rounds (struckEnd most text path).e (struckEnd most text path).i most edge (struckEnd most text path).text (struckEnd most text path).sign (path.cps.size:Int) u) _
  have e2:struckEnd most text path=(path.cps.toList.drop 1).foldl (sstep most) ⟨decide (c=92),0,text++one c,one c⟩:=by
   unfold struckEnd
   conv=>lhs;rw [hd0]
   rw [List.foldl_cons,e1]
  rw [e2]
  exact D2
noncomputable def rulesS (P:Params):Nat→Option ERule
 | 11=>some strIterR
 | 12=>some (loopG fun _ S=>struckL P (aAt S 0) (aAt S 1) (sOf (vAt S 0 0)) (iOf (vAt S 0 1)) (iOf (vAt S 0 4)) (sOf (vAt S 0 5)) (sOf (vAt S 0 6)))
 | n=>rulesA n
theorem rulesS_ok {B:Nat} (hB:B≤796) {w:World}:∀ i R,(VK w.params (rulesS w.params)).rules i=some R→RuleOk B (VK w.params (rulesS w.params)) pw_il0098_01 w R:=by
 intro i R h
 change rulesS w.params i=some R at h
 unfold rulesS at h
 split at h
 ·cases h;exact strIterR_ok
 ·cases h;exact loopG_ok fun c S=>LoopOk.cast (V:=VK w.params rulesA) rfl id (struckL_ok hB _ _ _ _ _ _ _)
 ·exact rulesA_ok _ _ h
theorem struck_call1 (P:Params):∀ (ρ:Unk) (path:Str) (t t':Tok) (b tk:Nat),
 PathF 0 (fun _=>⟨fun u=>.inl (.done (.ret (.str ((struckEnd 2 ⟨⟨[39]⟩⟩ path).text++⟨⟨[39]⟩⟩) u))),[((struckEnd 2 ⟨⟨[39]⟩⟩ path).text++⟨⟨[39]⟩⟩).length≤sizeLine,FirstOk path,(1:Int)≤2,(2:Int)≤65536,(⟨⟨[39]⟩⟩:Str).length+path.length * 65537≤sizeLine,path.cps.all (· < 128)=true],fun _=>[]⟩)
  (runC (VK P (rulesS P)) ρ 600 (.call (.ref 886) ⟨[.str path t,.int 1 t'],[]⟩) [] b tk (match P.followText "comprehension-iter-twice" with
 | true=>(orcN 1 76718278845234069370713466921740639788991741954448234391888944151448748087741404606692364034496683855226463705084678632325404281646415641013192044798956827223687466187103281973522446159415790240618662079120923404407442458073998942491898484668091801512451585203682356661955962633504588900683945326739916608005216817294579098751527383516637176097955392772860360722770873999947861412383161150681169699710067877142725842003964815772689002781303791188750854076883775080141521415744384828410435240512614473783479681572188313376371709727418411680957513884303361 54 [(.eff 11 [],0),(.eff 12 [15,0],0),(.eff 3 [],100000)])
 | false=>(orcN 1 1415202455633518432193253933540146545398095003039316393268325882901076785766008047332031085816498481760090961200637462891866578780197000853450129425894493621876886023962135610895927418706881362648430016142361751378538142301574613306374114419796221448473904476454993276931642723616789485020357381619969991719859800257765875351060540182837204044286090505951541849249325880113907615420169998688851673760057022183729440737338801565677724831071049243558870327856366885627744905658204884423100984563054217372190461293945331361931620311784434433628107702269371115582378684916498433 56 [(.eff 11 [],0),(.eff 12 [15,0],0),(.eff 3 [],100000)]))):=
 fP4 (by intros;kernel_rfl) (by intros;kernel_rfl) (by intros;kernel_rfl) (by intros;kernel_rfl) P
theorem struck_call2 (P:Params):∀ (ρ:Unk) (path:Str) (t t':Tok) (b tk:Nat),
 PathF 0 (fun _=>⟨fun u=>.inl (.done (.ret (.str ((struckEnd 5 ⟨⟨[39,39,39]⟩⟩ path).text++⟨⟨[39,39,39]⟩⟩) u))),[((struckEnd 5 ⟨⟨[39,39,39]⟩⟩ path).text++⟨⟨[39,39,39]⟩⟩).length≤sizeLine,FirstOk path,(1:Int)≤5,(5:Int)≤65536,(⟨⟨[39,39,39]⟩⟩:Str).length+path.length * 65537≤sizeLine,path.cps.all (· < 128)=true],fun _=>[]⟩)
  (runC (VK P (rulesS P)) ρ 600 (.call (.ref 886) ⟨[.str path t,.int 2 t'],[]⟩) [] b tk (match P.followText "comprehension-iter-twice" with
 | true=>(orcN 1 850857786957162114265021833886913479556660785703177109615997177875252313988921385080107595912069264890837730182560755951424967440582766064257590620741629644743594102766202087314039996958155295450954280074669898472632276107765987587744656678654848239416870204374195577757717565436680301552712534562958576793433872850207936007828952913496276895692795922512749079871041418582622371521738695839150621279706466489803427881384921786422242119983360168179426636666148922847045193506843133963690235507515453424239008389182841035896261652441596344252718516606681629031259256079890036859969135992859767452208278580037479844260312355068927092827845777405913619238710214636876447382560547467755521 68 [(.eff 11 [],0),(.eff 12 [15,0],0),(.eff 3 [],100000)])
 | false=>(orcN 1 15695555839121654453940078366419734675785382037013217108137686261417277293467495273688003999973791375423811632057151807854155953442303322712002132571069980778748656552821514360146324564809039404703748902427581005250639819127243904091243859667116350314882375693262986099320947871125114164490534897664158259891394751221849963039985585685213149724547113893732908142424468782801511802824069411356603555208094735296974229000435553490607623980544859534907414947895726443959485511355469829977673233410688203462421251618567495111622218940094404097270725184627783722365223340398842519251279277610526043549684910743762462947359289349912045122317077238152375980352255939217377415046405741539995325211067115903188993 70 [(.eff 11 [],0),(.eff 12 [15,0],0),(.eff 3 [],100000)]))):=
 fP4 (by intros;kernel_rfl) (by intros;kernel_rfl) (by intros;kernel_rfl) (by intros;kernel_rfl) P
theorem struck_call3 (P:Params):∀ (ρ:Unk) (path:Str) (t t':Tok) (b tk:Nat),
 PathF 0 (fun _=>⟨fun u=>.inl (.done (.ret (.str ((struckEnd 14 ⟨⟨[39,39,39,39,39,39,39,39]⟩⟩ path).text++⟨⟨[39,39,39,39,39,39,39,39]⟩⟩) u))),[((struckEnd 14 ⟨⟨[39,39,39,39,39,39,39,39]⟩⟩ path).text++⟨⟨[39,39,39,39,39,39,39,39]⟩⟩).length≤sizeLine,FirstOk path,(1:Int)≤14,(14:Int)≤65536,(⟨⟨[39,39,39,39,39,39,39,39]⟩⟩:Str).length+path.length * 65537≤sizeLine,path.cps.all (· < 128)=true],fun _=>[]⟩)
  (runC (VK P (rulesS P)) ρ 600 (.call (.ref 886) ⟨[.str path t,.int 3 t'],[]⟩) [] b tk (match P.followText "comprehension-iter-twice" with
 | true=>(orcN 1 9436590399611312538080083662424937519974759583623278022036492500944515492418284373582946611913370316036526100107030431312885403943036079371369375933161814119776737076362510661814098780793704193999710265128784343013390666519793266336345555682910214046088580780983017645392505570467989893439980711353747929527802164791841395487367597334214820064990368570296122267466551214417077828580465211050844919919120238742433760141881209210883802911915966910328992610284163263542032424828037142296640074716065380500288611284838575899921425754196960722305875617529289391153422260912316298887187681153099184356950863513850375420455379002576750048492075120882381677948360364646412522583802089513582024617398221625973638927555149875617088886801853159562256303679113130167046113971235256801530494756073280967028684287494718052433921 82 [(.eff 11 [],0),(.eff 12 [15,0],0),(.eff 3 [],100000)])
 | false=>(orcN 1 174074368030054429033153662682457133904078528354799774659604215487260464926640726199202167612411722545325781448409316083808723649213646466759559623453020943590205709944848693301958668954350212357875200070460133083331380615958165630043729211888487846915072802313888242836091660129494643684852429873561079538102887663143575683918996538280934618417151973894458618335761147493713658224482806706801907704693098974490337293190350517362571999732702690821550946891246651325787509881924495189845535182507459132009333646903631587347189249525870241995724201694459725990652505646756443867701067854122464579170701409312300697949370249430554583436949049442413585959652632905695273894390598357133576507632332657279595584257804066938131976990138681742241909402911303221540446679795381710336657373803510548972434852133466726449993424134168539463483393 84 [(.eff 11 [],0),(.eff 12 [15,0],0),(.eff 3 [],100000)]))):=
 fP4 (by intros;kernel_rfl) (by intros;kernel_rfl) (by intros;kernel_rfl) (by intros;kernel_rfl) P
theorem slice_nat (x:Str) {a b:Nat} (hab:a≤b) (hb:b≤x.length):Txt.slice x (some (a:Int)) (some (b:Int))=⟨((x.cps.toList.drop a).take (b - a)).toArray⟩:=StrLaws.sliceText_nat x hab hb
theorem tail_one (c:Nat):tailS (one c)=one c:=by
 have h:=StrLaws.sliceText_to_neg (x:=one c++⟨⟨[32]⟩⟩) (j:= -1) (by decide) (by show -((2:Nat):Int)≤ -1;decide)
 refine Eq.trans h ?_
 rfl
theorem slice_one {x:Str} {k c:Nat} (h:x.cps[k]? =some c):Txt.slice x (some (k:Int)) (some ((k+1:Nat):Int))=one c:=by
 have hk:k < x.cps.size:=by
  rcases Nat.lt_or_ge k x.cps.size with q | q
  ·exact q
  ·rw [Array.getElem?_eq_none q] at h;cases h
 rw [slice_nat x (Nat.le_succ k) (show k+1≤x.length from hk),show k+1 - k=1 by exact ar56,List.drop_eq_getElem_cons (by simpa using hk)]
 have q:=Array.getElem?_eq_getElem (xs:=x.cps) (i:=k) hk
 rw [h] at q
 have:=Option.some.inj q
 simp [one,this]
noncomputable def readCode (S:Nat) (t:Tok):Code:=.call (.ref 665) ⟨[.ref S,.int 1 t],[]⟩
noncomputable def readC (P:Params) (S D:Nat) (text:Str) (k:Nat) (t:Tok):LSpec where
 c₀:=readCode S t
 st:=stIO P S D text (k:Int)
 conds:=[k < text.length,text.length≤sizeLine]
 r:=fun _ u=>.ok (.ret (.str (one (text.cps.getD k 0)) (u 0)))
 st':=fun _ u=>stIO P S D text ((k+1:Nat):Int) (fun j=>u (j+1))
noncomputable def readE (P:Params) (S D:Nat) (text:Str) (k:Nat) (t:Tok):LSpec where
 c₀:=readCode S t
 st:=stIO P S D text (k:Int)
 conds:=[k=text.length,text.length≤sizeLine]
 r:=fun _ u=>.ok (.ret (.str ⟨⟨[]⟩⟩ (u 0)))
 st':=fun _ u=>stIO P S D text (k:Int) (fun j=>u (j+1))
theorem sizeLine_lt {n:Nat} (h:n≤sizeLine):n < 2 ^ 63:=by
 have:sizeLine=16777216:=by decide
 lia
noncomputable def consT (t:Tok) (τ:Nat→Tok):Nat→Tok
 | 0=>t
 | j+1=>τ j
theorem readC_ok {B:Nat} (hB:B≤700) {w:World} (S D:Nat) (text:Str) (k:Nat) (t:Tok):LoopOk B (VK w.params rules2) w (readC w.params S D text k t):=by
 intro hc τ A h₀ h b g dr tok os hA hd hb D₀
 have h1:k < text.length:=hc _ (.head _)
 have h2:text.length≤sizeLine:=hc _ (.tail _ (.head _))
 have hget:text.cps[k]? =some (text.cps.getD k 0):=by
  rw [Array.getD_eq_getD_getElem?,Array.getElem?_eq_getElem h1];rfl
 have hone:=slice_one hget
 have hl:=sizeLine_lt h2
 have h3:(1:Nat)≤sizeLine:=by decide
 have h4:((one (text.cps.getD k 0))++⟨⟨[32]⟩⟩:Str).length≤sizeLine:=by
  show 2≤sizeLine
  decide
 have e1:((k:Int)+1)=((k+1:Nat):Int):=by exact ar47
 by_cases q:(k:Int)+1 < (text.length:Int)
 ·refine call_pathI (VK_ok w rules2) (rules2_ok (by exact ar14) rfl) rfl (fun ρ=>read_mid w.params ρ τ S D text k t b tok) (B:=B) (by exact ar13) ⟨hd,hA⟩ D₀ hb fun ρ sz=>And.intro ?_ fun h' g' tr τ' tok' hsz hg D'=>?_
  ·rw [e1,hone]
   intro p hp
   simp only [List.mem_cons,List.not_mem_nil,or_false] at hp
   rcases hp with rfl | rfl | rfl | rfl | rfl | rfl
   ·exact h4
   ·exact h4
   ·exact h2
   ·lia
   ·lia
   ·exact hl
  ·refine ⟨consT tr τ',sz - 900,tok',g',?_,?_,by exact ar2,hg,rfl⟩
   ·show Except.ok (Flow.ret (Value.str (one (text.cps.getD k 0)) tr))=Except.ok (Flow.ret (Value.str (tailS (Txt.slice text (some (k:Int)) (some ((k:Int)+1)))) tr))
    rw [e1,hone,tail_one]
   ·rw [show sz - 900+900=sz by exact ar1]
    show Rep _ _ _ (stIO w.params S D text ((k+1:Nat):Int) τ') _
    rw [←e1]
    exact D'
 ·have e2:(text.length:Int)=((k+1:Nat):Int):=by lia
  refine call_pathI (VK_ok w rules2) (rules2_ok (by exact ar14) rfl) rfl (fun ρ=>read_last w.params ρ τ S D text k t b tok) (B:=B) (by exact ar13) ⟨hd,hA⟩ D₀ hb fun ρ sz=>And.intro ?_ fun h' g' tr τ' tok' hsz hg D'=>?_
  ·rw [e2,hone]
   intro p hp
   simp only [List.mem_cons,List.not_mem_nil,or_false] at hp
   rcases hp with rfl | rfl | rfl | rfl | rfl | rfl
   ·exact h4
   ·exact h4
   ·exact h2
   ·lia
   ·lia
   ·exact hl
  ·refine ⟨consT tr τ',sz - 900,tok',g',?_,?_,by exact ar2,hg,rfl⟩
   ·show Except.ok (Flow.ret (Value.str (one (text.cps.getD k 0)) tr))=Except.ok (Flow.ret (Value.str (tailS (Txt.slice text (some (k:Int)) (some (text.length:Int)))) tr))
    rw [e2,hone,tail_one]
   ·rw [show sz - 900+900=sz by exact ar1]
    show Rep _ _ _ (stIO w.params S D text ((k+1:Nat):Int) τ') _
    rw [←e2]
    exact D'
theorem readE_ok {B:Nat} (hB:B≤700) {w:World} (S D:Nat) (text:Str) (k:Nat) (t:Tok):LoopOk B (VK w.params rules2) w (readE w.params S D text k t):=by
 intro hc τ A h₀ h b g dr tok os hA hd hb D₀
 have h1:k=text.length:=hc _ (.head _)
 have h2:text.length≤sizeLine:=hc _ (.tail _ (.head _))
 have hl:=sizeLine_lt h2
 refine call_pathI (VK_ok w rules2) (rules2_ok (by exact ar14) rfl) rfl (fun ρ=>read_end w.params ρ τ S D text k t b tok) (B:=B) (by exact ar13) ⟨hd,hA⟩ D₀ hb fun ρ sz=>And.intro ?_ fun h' g' tr τ' tok' hsz hg D'=>?_
 ·intro p hp
  simp only [List.mem_cons,List.not_mem_nil,or_false] at hp
  rcases hp with rfl | rfl
  ·lia
  ·exact hl
 ·refine ⟨consT tr τ',sz - 900,tok',g',rfl,?_,by exact ar2,hg,rfl⟩
  rw [show sz - 900+900=sz by exact ar1]
  exact D'
end
section
open PySem.Calls
open Sem (wp)
noncomputable def strsOf:List Value→Option (List Str)
 | []=>some []
 | .str s _::l=>(strsOf l).map (s::·)
 | _::_=>none
theorem strsOf_spec:∀ {l:List Value} {ys:List Str},strsOf l=some ys→StrsAre l ys
 | [],ys,h=>by cases h;exact .nil
 | .str s t::l,ys,h=>by
   unfold strsOf at h
   obtain ⟨zs,hz,rfl⟩:=Option.map_eq_some_iff.mp h
   exact .cons s t (strsOf_spec hz)
 | .none::l,ys,h=>by cases h
 | .bool _::l,ys,h=>by cases h
 | .int ..::l,ys,h=>by cases h
 | .float ..::l,ys,h=>by cases h
 | .bytes ..::l,ys,h=>by cases h
 | .ref _::l,ys,h=>by cases h
 | .type _::l,ys,h=>by cases h
 | .builtin _::l,ys,h=>by cases h
 | .notImplemented::l,ys,h=>by cases h
 | .ellipsis::l,ys,h=>by cases h
noncomputable def tupO (o:Obj):Option (List Str):=match o with
 | ⟨.type ty,_,.seq vs _,_⟩=>match Nat.beq (PySem.code ty) (PySem.code "tuple") with
   | true=>strsOf vs.toList
   | false=>none
 | _=>none
noncomputable def tupInS (js:List Nat) (args:List Value) (T:List Cell):Option EOut:=match args with
 | [.ref a,.str x _]=>match js with
   | [j,d]=>(T[j]?).bind fun c=>(tupO c.2).bind fun ys=>match d with
     | 0=>some ⟨[(.nat a,.nat c.1)],[ys.any (· == x)=false],fun _ _ _=>(.ok (.ret (.bool false)),T)⟩
     | _+1=>some ⟨[(.nat a,.nat c.1)],[ys.any (· == x)=true],fun _ _ _=>(.ok (.ret (.bool true)),T)⟩
   | _=>none
 | _=>none
noncomputable abbrev tupInR:ERule:=mkH "tuple.__contains__" tupInS
theorem tupO_spec {o:Obj} {ys} (h:tupO o=some ys):∃ vs n,o.cls= .type "tuple"∧o.data= .seq vs n∧StrsAre vs.toList ys:=by
 obtain ⟨c,d,dt,sl⟩:=o
 unfold tupO at h
 split at h
 ·rename_i ty d' vs n sl' heq
  cases heq
  cases hc:Nat.beq (PySem.code ty) (PySem.code "tuple") with
  | false=>rw [hc] at h;cases h
  | true=>
    rw [hc] at h
    obtain rfl:ty=_:=code_inj _ _ (Nat.eq_of_beq_eq_true hc)
    exact ⟨vs,n,rfl,rfl,strsOf_spec h⟩
 ·cases h
theorem tupIn_any {w:World} {A:Around} {R:Result→Shared→Prop} {s:Shared} {a:Addr} {o:Obj} {ys:List Str} {x:Str} {u:Tok} (ho:s.heap.get? a=some o) (h:tupO o=some ys) (hR:R (.ok (.ret (.bool (ys.any (· == x))))) s):
 codeAny (MM w) A (.call (.builtin "tuple.__contains__") ⟨[.ref a,.str x u],[]⟩) R s:=by
 obtain ⟨vs,n,h1,h2,h3⟩:=tupO_spec h
 have hT:s.TypeIs (.ref a) "tuple":=⟨o,ho,h1⟩
 refine codeAny_call_builtin PySem.F.slot_tuple_contains.plain PySem.F.entry_tuple_contains (PySem.F.slot_tuple_contains.check _ _ _ _ _ _ _ _ hT (PySem.F.args_tuple_contains_2 _ _) ?_)
 exact tuple_contains_strs ⟨o,ho,h1,n,h2⟩ h3 hR
theorem tupInR_ok {B:Nat} {V:RV} {w:World}:RuleOk B V pw_il0098_01 w tupInR:=mkH_ok (by
 intro js args T eo he h1 h2 A h₀ h sz g dr tok os hA hd D hsz
 unfold tupInS at he
 split at he
 ·rename_i a x t
  split at he
  ·rename_i j d
   replace he:=bndE he;obtain ⟨c,hT,he⟩:=he
   replace he:=bndE he;obtain ⟨ys,hy,he⟩:=he
   have hc:=D.own _ _ hT
   cases d with
   | zero=>
     cases he
     obtain rfl:a=c.1:=Side.nat.inj (h1 _ (.head _))
     have hf:ys.any (· == x)=false:=h2 _ (.head _)
     refine tupIn_any hc hy ?_
     rw [hf]
     exact ⟨sz - 900,tok,fun _=>0,g,rfl,by rw [show sz - 900+900=sz by exact ar1];exact D,ar2,GR.refl _ _,rfl⟩
   | succ d=>
     cases he
     obtain rfl:a=c.1:=Side.nat.inj (h1 _ (.head _))
     have hf:ys.any (· == x)=true:=h2 _ (.head _)
     refine tupIn_any hc hy ?_
     rw [hf]
     exact ⟨sz - 900,tok,fun _=>0,g,rfl,by rw [show sz - 900+900=sz by exact ar1];exact D,ar2,GR.refl _ _,rfl⟩
  ·cases he
 ·cases he)
noncomputable abbrev runL (V:RV) (ρ:Unk) (n:Nat) (c:Code) (T:List Cell) (b tk:Nat) (o:Orc):Option Out:=
 run V ρ n (some c) false .base 0 (fDen c) T (b+900) 0 tk 0 0 o.sk o.ls o.cs o.cl [] []
noncomputable abbrev runR (V:RV) (ρ:Unk) (n:Nat) (c:Code) (T:List Cell) (b tk:Nat) (o:Orc):Option Out:=
 enterK V (run V ρ n) c .base 0 T (b+900) 0 tk 0 0 o.sk o.ls o.cs o.cl [] []
noncomputable abbrev Post:=Result→List Cell→Nat→Prop
noncomputable def LR (V:RV) (P:Post) (h₀:Fr) (g:Array GenState) (dr:Drawn) (os:OsState) (x:Result) (s':Shared):Prop:=
 ∃ T b' t g',P x T b'∧Rep V h₀ s'.heap T (b'+900)∧13≤b'∧GR V g g'∧s'=⟨s'.heap,g',dr,t,os⟩
noncomputable def LF (B:Nat) (V:RV) (w:World) (c:Code) (st:St) (P:Post):Prop:=
 ∀ (τ:Nat→Tok) (A:Around) (h₀:Fr) (h:Heap) (b:Nat) (g:Array GenState) (dr:Drawn) (tok:Nat) (os:OsState),FrOk V.fr A→A.handled=none→A.depth≤B→13≤b→Rep V h₀ h (st τ) (b+900)→
  codeAny (MM w) A c (LR V P h₀ g dr os) ⟨h,g,dr,tok,os⟩
noncomputable def EndOk (B:Nat) (V:RV) (w:World) (P:Post) (st:St) (sz:Nat):PFin ⊕ Value→Prop
 | .inl (.done f)=>∀ τ,P (.ok f) (st τ) (sz - 900)
 | .inl (.again c')=>c'.quiet=true∧LF B V w c' st P
 | .inr e=>∀ τ,P (.error e) (st τ) (sz - 900)
noncomputable def EndC (P:Post) (st:St) (sz:Nat):PFin ⊕ Value→Prop
 | .inl (.done f)=>∀ τ,P (.ok f) (st τ) (sz - 900)
 | .inl (.again _)=>False
 | .inr e=>∀ τ,P (.error e) (st τ) (sz - 900)
theorem LR.trans {V:RV} {P:Post} {h₀:Fr} {g g':Array GenState} {dr:Drawn} {os:OsState} {x:Result} {s':Shared} (hg:GR V g g'):LR V P h₀ g' dr os x s'→LR V P h₀ g dr os x s':=fun ⟨T,b',t,g2,p1,p2,p3,p4,p5⟩=>⟨T,b',t,g2,p1,p2,p3,hg.trans p4,p5⟩
section
variable {B:Nat} {V:RV} {w:World} {c:Code} {st:St} {P:Post}
theorem LF.loop (O:VOk V pw_il0098_01 w) (HR:∀ i R,V.rules i=some R→RuleOk (B+52) V pw_il0098_01 w R) (hB:B+4≤800) {n:Nat} {is:List Nat} (hn:nodupB is=true) {o:Orc} {v:Unk→Nat→Want}
 (path:∀ τ b tk ρ,PathI is (v ρ) (runL V ρ n c (st τ) b tk o)) (hw:c.weight≤4)
 (fin:∀ ρ sz,(∀ p∈(v ρ sz).conds,p)∧(913≤sz→∀ tr,EndOk B V w P (v ρ sz).st sz ((v ρ sz).r tr))) (HV:∀ i R,V.rv i=some R→RuleVOk (B+52) V pw_il0098_01 w R:=by intro i R e;exact nomatch (show (none:Option ERuleV)=some R from e)):LF B V w c st P:=by
 intro τ A h₀ h b g dr tok os hfr hA hd hb D
 refine code_own ?_
 show wpX (MM w) (.own A c) (denote table c) _ _ _
 rw [←fDen_eq]
 refine run_sound (Q₀:=QC (MM w) A (LR V P h₀ g dr os)) (E₀:=QE (LR V P h₀ g dr os)) (A₀:=A) (h₀:=h₀) (g₀:=g) (dr:=dr) (os:=os) (B:=B+4) hfr hB O HR HV n ⟨fun _=>0,fun _=>0,fun _ _=>0,fun _=>default,fun _=>[],fun _ _=>.none⟩ (some c) false .base 0 (fDen c) (st τ) (b+900) 0 tok 0 0 o.sk o.ls o.cs o.cl [] [] h g (GR.refl _ _)
  (fun ρ _=>?_) D (ar10) ⟨by lia,hA⟩ (by show A.depth+c.weight≤_;exact ar55) (by intro e;cases e)
 obtain ⟨out,h1,h2,tr,τ',h3,h4,h5⟩:=(path τ b tok ρ).use
 obtain ⟨q1,q2⟩:=fin ρ out.sz
 refine ⟨out,h1,h2,by rw [h4];exact q1,fun h' g' D' hg hsz=>?_⟩
 have D':=D'.perm (nodupB_spec hn)
 rw [h5] at D'
 have q:=q2 hsz tr
 rw [←h3] at q
 have es:out.sz - 900+900=out.sz:=ar1
 revert q
 cases out.r with
 | inl f=>
   cases f with
   | done f=>exact fun q=>⟨_,out.sz - 900,out.toks,g',q τ',by rw [es];exact D',ar2,hg,rfl⟩
   | again c'=>
     intro q
     refine ⟨q.1,?_⟩
     exact codeAny_mono (q.2 τ' A h₀ h' (out.sz - 900) g' dr out.toks os hfr hA hd (ar2) (by rw [es];exact D')) fun x s'=>LR.trans hg
 | inr e=>exact fun q=>⟨_,out.sz - 900,out.toks,g',q τ',by rw [es];exact D',ar2,hg,rfl⟩
theorem LF.loopR (O:VOk V pw_il0098_01 w) (HR:∀ i R,V.rules i=some R→RuleOk (B+52) V pw_il0098_01 w R) (hB:B+4≤800) {n:Nat} {is:List Nat} (hn:nodupB is=true) {o:Orc} {v:Unk→Nat→Want}
 (path:∀ τ b tk ρ,PathI is (v ρ) (runR V ρ n c (st τ) b tk o)) (hw:c.weight≤4)
 (fin:∀ ρ sz,(∀ p∈(v ρ sz).conds,p)∧(913≤sz→∀ tr,EndOk B V w P (v ρ sz).st sz ((v ρ sz).r tr))) (HV:∀ i R,V.rv i=some R→RuleVOk (B+52) V pw_il0098_01 w R:=by intro i R e;exact nomatch (show (none:Option ERuleV)=some R from e)):LF B V w c st P:=by
 intro τ A h₀ h b g dr tok os hfr hA hd hb D
 refine code_own ?_
 refine enterK_sound (Q₀:=QC (MM w) A (LR V P h₀ g dr os)) (E₀:=QE (LR V P h₀ g dr os)) (A₀:=A) (h₀:=h₀) (g₀:=g) (dr:=dr) (os:=os) (B:=B+4) (n:=n) (κ:=.base) (d:=0) (sk:=o.sk) (ls:=o.ls) (cs:=o.cs) (cl:=o.cl) (eqs:=[]) (conds:=[]) (k:=0) (b:=b+900) (o:=0) (tk:=tok) (ti:=0) (T:=st τ) O (run_sound hfr hB O HR HV n) (σ:=⟨fun _=>0,fun _=>0,fun _ _=>0,fun _=>default,fun _=>[],fun _ _=>.none⟩) (GR.refl _ _) (fun ρ _=>?_) D (ar10) ⟨by lia,hA⟩ (by show A.depth+c.weight≤_;exact ar55)
 obtain ⟨out,h1,h2,tr,τ',h3,h4,h5⟩:=(path τ b tok ρ).use
 obtain ⟨q1,q2⟩:=fin ρ out.sz
 refine ⟨out,h1,h2,by rw [h4];exact q1,fun h' g' D' hg hsz=>?_⟩
 have D':=D'.perm (nodupB_spec hn)
 rw [h5] at D'
 have q:=q2 hsz tr
 rw [←h3] at q
 have es:out.sz - 900+900=out.sz:=ar1
 revert q
 cases out.r with
 | inl f=>
   cases f with
   | done f=>exact fun q=>⟨_,out.sz - 900,out.toks,g',q τ',by rw [es];exact D',ar2,hg,rfl⟩
   | again c'=>
     intro q
     refine ⟨q.1,?_⟩
     exact codeAny_mono (q.2 τ' A h₀ h' (out.sz - 900) g' dr out.toks os hfr hA hd (ar2) (by rw [es];exact D')) fun x s'=>LR.trans hg
 | inr e=>exact fun q=>⟨_,out.sz - 900,out.toks,g',q τ',by rw [es];exact D',ar2,hg,rfl⟩
theorem LF.call (O:VOk V pw_il0098_01 w) (HR:∀ i R,V.rules i=some R→RuleOk (B+48) V pw_il0098_01 w R) (hB:B≤800) {n:Nat} {is:List Nat} (hn:nodupB is=true) {o:Orc} {v:Unk→Nat→Want}
 (path:∀ τ b tk ρ,PathI is (v ρ) (runC V ρ n c (st τ) b tk o))
 (fin:∀ ρ sz,(∀ p∈(v ρ sz).conds,p)∧(913≤sz→∀ tr,EndC P (v ρ sz).st sz ((v ρ sz).r tr))) (HV:∀ i R,V.rv i=some R→RuleVOk (B+48) V pw_il0098_01 w R:=by intro i R e;exact nomatch (show (none:Option ERuleV)=some R from e)):LF B V w c st P:=by
 intro τ A h₀ h b g dr tok os hfr hA hd hb D
 refine call_pathI (hfr:=hfr) (HV:=HV) O HR hn (fun ρ=>path τ b tok ρ) hB ⟨hd,hA⟩ D hb fun ρ sz=>⟨(fin ρ sz).1,fun h' g' tr τ' tok' hsz hg D'=>?_⟩
 have q:=(fin ρ sz).2 hsz tr
 have es:sz - 900+900=sz:=ar1
 revert q
 cases (v ρ sz).r tr with
 | inl f=>
   cases f with
   | done f=>exact fun q=>⟨_,sz - 900,tok',g',q τ',by rw [es];exact D',ar2,hg,rfl⟩
   | again c'=>exact fun q=>q
 | inr e=>exact fun q=>⟨_,sz - 900,tok',g',q τ',by rw [es];exact D',ar2,hg,rfl⟩
theorem LF.mono {P':Post} (h:LF B V w c st P) (k:∀ x T b,P x T b→P' x T b):LF B V w c st P':=fun τ A h₀ hh b g dr tok os hfr hA hd hb D=>
 codeAny_mono (h τ A h₀ hh b g dr tok os hfr hA hd hb D) fun x s' ⟨T,b',t,g2,p1,p⟩=>⟨T,b',t,g2,k _ _ _ p1,p⟩
theorem LF.cast {V':RV} (e:V.look=V'.look) (k:V'.keepG=true→V.keepG=true) (kf:∀ l,V.fr=some l→V'.fr=some l) (h:LF B V w c st P):LF B V' w c st P:=fun τ A h₀ hh b g dr tok os hfr hA hd hb D=>
 codeAny_mono (h τ A h₀ hh b g dr tok os (fun l q=>hfr l (kf l q)) hA hd hb (D.cast e.symm)) fun x s' ⟨T,b',t,g2,p1,p2,p3,p4,p5⟩=>⟨T,b',t,g2,p1,p2.cast e,p3,GR.cast k p4,p5⟩
noncomputable def PostS (s:LSpec):Post:=fun x T b=>∃ u,s.r b u=x∧T=s.st' b u
end
theorem LF.toSpec {B:Nat} {V:RV} {w:World} {s:LSpec} (hn:V.fr=none) (h:(∀ p∈s.conds,p)→LF B V w s.c₀ s.st (PostS s)):LoopOk B V w s:=by
 intro hc τ A h₀ hh b g dr tok os hA hd hb D
 refine codeAny_mono (h hc τ A h₀ hh b g dr tok os (fun l q=>by rw [hn] at q;cases q) hA hd hb D) fun x s' ⟨T,b',t,g2,⟨u,p1,p2⟩,p3,p4,p5,p6⟩=>⟨u,b',t,g2,p1,?_,p4,p5,p6⟩
 rw [←p2];exact p3
noncomputable def loopF (f:Code→List Cell→LSpec) (fr:Code→List Cell→Option (List Env)):ERule:=fun F js c T=>match nodupB (js++restI js T.length) with
 | false=>none
 | true=>some ⟨[(.envs F,.envs (fr c (permC js T))),(.code c,.code (f c (permC js T)).c₀),(.cells (permC js T),.cells ((f c (permC js T)).st (tokT (permC js T))))],(f c (permC js T)).conds,
    fun b t u=>((f c (permC js T)).r b u,(f c (permC js T)).st' b u++permC (restI js T.length) T)⟩
theorem loopF_ok {B:Nat} {V:RV} {w:World} {f:Code→List Cell→LSpec} {fr:Code→List Cell→Option (List Env)} {V':Code→List Cell→RV}
 (H:∀ c S,(∀ p∈(f c S).conds,p)→LF B (V' c S) w (f c S).c₀ (f c S).st (PostS (f c S))) (e1:∀ c S,(V' c S).look=V.look) (e2:∀ c S,V.keepG=true→(V' c S).keepG=true) (e3:∀ c S,(V' c S).fr=fr c S):RuleOk B V pw_il0098_01 w (loopF f fr):=by
 intro F js c T eo he h1 h2 A h₀ h sz g dr tok os hF hA hd D hsz
 unfold loopF at he
 cases hn:nodupB (js++restI js T.length) with
 | false=>rw [hn] at he;cases he
 | true=>
   rw [hn] at he
   cases he
   have hE:F=fr c (permC js T):=Side.envs.inj (h1 _ (.head _))
   have hc:c=(f c (permC js T)).c₀:=Side.code.inj (h1 _ (.tail _ (.head _)))
   have hT:permC js T=(f c (permC js T)).st (tokT (permC js T)):=Side.cells.inj (h1 _ (.tail _ (.tail _ (.head _))))
   have D0:=D.perm (nodupB_spec hn)
   rw [permC_append] at D0
   generalize hS:permC js T=S at *
   have z:=H c S h2 (tokT S) A (frOf h S) h (sz - 900) g dr tok os (fun l q=>hF l (by rw [hE,←e3];exact q)) hA hd (ar2) (by rw [←hT,show sz - 900+900=sz by exact ar1];exact D0.base.cast (e1 c S).symm)
   rw [←hc] at z
   refine codeAny_mono z fun x s' ⟨T',b',t,g',⟨u,hr,p2⟩,D',hb,hg,hs⟩=>⟨b',t,u,g',hr,?_,hb,GR.cast (e2 c S) hg,hs⟩
   rw [p2] at D'
   exact D0.glue (D'.cast (e1 c S))
structure LSpecV where
 c₀:Code
 st:St
 conds:List Prop
 r:Nat→(Nat→Tok)→Result
 st':Nat→(Nat→Value)→St
noncomputable def PostV (s:LSpecV):Post:=fun x T b=>∃ u v,s.r b u=x∧T=s.st' b v u
noncomputable def loopV (f:Code→List Cell→LSpecV) (fr:Code→List Cell→Option (List Env)):ERuleV:=fun F js c T=>match nodupB (js++restI js T.length) with
 | false=>none
 | true=>some ⟨[(.envs F,.envs (fr c (permC js T))),(.code c,.code (f c (permC js T)).c₀),(.cells (permC js T),.cells ((f c (permC js T)).st (tokT (permC js T))))],(f c (permC js T)).conds,
    fun b t u v=>((f c (permC js T)).r b u,(f c (permC js T)).st' b v u++permC (restI js T.length) T)⟩
theorem loopV_ok {B:Nat} {V:RV} {w:World} {f:Code→List Cell→LSpecV} {fr:Code→List Cell→Option (List Env)} {V':Code→List Cell→RV}
 (H:∀ c S,(∀ p∈(f c S).conds,p)→LF B (V' c S) w (f c S).c₀ (f c S).st (PostV (f c S))) (e1:∀ c S,(V' c S).look=V.look) (e2:∀ c S,V.keepG=true→(V' c S).keepG=true) (e3:∀ c S,(V' c S).fr=fr c S):RuleVOk B V pw_il0098_01 w (loopV f fr):=by
 intro F js c T eo he h1 h2 A h₀ h sz g dr tok os hF hA hd D hsz
 unfold loopV at he
 cases hn:nodupB (js++restI js T.length) with
 | false=>rw [hn] at he;cases he
 | true=>
   rw [hn] at he
   cases he
   have hE:F=fr c (permC js T):=Side.envs.inj (h1 _ (.head _))
   have hc:c=(f c (permC js T)).c₀:=Side.code.inj (h1 _ (.tail _ (.head _)))
   have hT:permC js T=(f c (permC js T)).st (tokT (permC js T)):=Side.cells.inj (h1 _ (.tail _ (.tail _ (.head _))))
   have D0:=D.perm (nodupB_spec hn)
   rw [permC_append] at D0
   generalize hS:permC js T=S at *
   have z:=H c S h2 (tokT S) A (frOf h S) h (sz - 900) g dr tok os (fun l q=>hF l (by rw [hE,←e3];exact q)) hA hd (ar2) (by rw [←hT,show sz - 900+900=sz by exact ar1];exact D0.base.cast (e1 c S).symm)
   rw [←hc] at z
   refine codeAny_mono z fun x s' ⟨T',b',t,g',⟨u,v,hr,p2⟩,D',hb,hg,hs⟩=>⟨b',t,u,v,g',hr,?_,hb,GR.cast (e2 c S) hg,hs⟩
   rw [p2] at D'
   exact D0.glue (D'.cast (e1 c S))
theorem c0:∀ p∈([]:List Prop),p:=fun _ h=>nomatch h
theorem cC {q:Prop} {l:List Prop} (h:q) (k:∀ p∈l,p):∀ p∈q::l,p:=fun p hp=>by
 rcases List.mem_cons.mp hp with rfl | hp
 ·exact h
 ·exact k p hp
theorem blkL (P:Params) (rules:Nat→Option ERule) (keepG:Bool) (ρ:Unk) (env:Env) (T:List Cell) (b tk:Nat):
 PathOk (fun _=>⟨fun _=>.inl (.done .next),[],fun _=>T⟩) (runL ⟨prog,P,fDen,lookK P,callTF,okc,rules,keepG,fun _=>none,none,fun _=>none⟩ ρ 5 (.block [] env) T b tk ⟨0,[],0,[]⟩):=by
 kernel_rfl
end
section
open PySem.Calls
noncomputable def wordS:Str:=⟨⟨[97,98,99,100,102,101,103,104,105,106,107,108,109,110,111,112,113,114,115,116,117,118,119,120,121,122,65,66,67,68,69,70,71,72,73,74,75,76,77,78,79,80,81,82,83,84,85,86,87,88,89,90,48,49,50,51,52,53,54,55,56,57,95,223,224,225,226,227,228,229,230,231,232,233,234,235,236,237,238,239,240,241,242,243,244,245,246,248,249,250,251,252,253,254,255,192,193,194,195,196,197,198,199,200,201,202,203,204,205,206,207,208,209,210,211,212,213,214,216,217,218,219,220,221,222]⟩⟩
noncomputable def stTok (P:Params) (L X XD S D Q1 Q2:Nat) (quoted:Bool) (es nch:Str) (sv:Tok→Value) (token text:Str) (k:Nat):St:=fun τ=>[(L,frO [E P ⟨⟨[115,101,108,102]⟩⟩ (τ 0) (.ref X),E P ⟨⟨[113,117,111,116,101,100]⟩⟩ (τ 2) (.bool quoted),E P ⟨⟨[101,115,99,97,112,101,100,115,116,97,116,101]⟩⟩ (τ 4) (.str es (τ 5)),E P ⟨⟨[110,101,120,116,99,104,97,114]⟩⟩ (τ 6) (.str nch (τ 7))] 4),(X,insO 854 XD),(XD,dicO [E P ⟨⟨[105,110,115,116,114,101,97,109]⟩⟩ (τ 8) (.ref S),E P ⟨⟨[105,110,102,105,108,101]⟩⟩ (τ 10) .none,E P ⟨⟨[112,111,115,105,120]⟩⟩ (τ 12) (.bool true),E P ⟨⟨[101,111,102]⟩⟩ (τ 14) .none,E P ⟨⟨[99,111,109,109,101,110,116,101,114,115]⟩⟩ (τ 16) (.str ⟨⟨[]⟩⟩ (τ 17)),E P ⟨⟨[119,111,114,100,99,104,97,114,115]⟩⟩ (τ 18) (.str wordS (τ 19)),E P ⟨⟨[119,104,105,116,101,115,112,97,99,101]⟩⟩ (τ 20) (.str ⟨⟨[32,9,13,10]⟩⟩ (τ 21)),E P ⟨⟨[119,104,105,116,101,115,112,97,99,101,95,115,112,108,105,116]⟩⟩ (τ 22) (.bool true),E P ⟨⟨[113,117,111,116,101,115]⟩⟩ (τ 24) (.str ⟨⟨[39,34]⟩⟩ (τ 25)),E P ⟨⟨[101,115,99,97,112,101]⟩⟩ (τ 26) (.str ⟨⟨[92]⟩⟩ (τ 27)),E P ⟨⟨[101,115,99,97,112,101,100,113,117,111,116,101,115]⟩⟩ (τ 28) (.str ⟨⟨[34]⟩⟩ (τ 29)),E P ⟨⟨[115,116,97,116,101]⟩⟩ (τ 30) (sv (τ 31)),E P ⟨⟨[112,117,115,104,98,97,99,107]⟩⟩ (τ 32) (.ref Q1),E P ⟨⟨[108,105,110,101,110,111]⟩⟩ (τ 34) (.int 1 (τ 35)),E P ⟨⟨[100,101,98,117,103]⟩⟩ (τ 36) (.int 0 (τ 37)),E P ⟨⟨[116,111,107,101,110]⟩⟩ (τ 38) (.str token (τ 39)),E P ⟨⟨[102,105,108,101,115,116,97,99,107]⟩⟩ (τ 40) (.ref Q2),E P ⟨⟨[115,111,117,114,99,101]⟩⟩ (τ 42) .none,E P ⟨⟨[95,112,117,110,99,116,117,97,116,105,111,110,95,99,104,97,114,115]⟩⟩ (τ 44) (.str ⟨⟨[]⟩⟩ (τ 45))] 19),(S,insO 719 D),(D,dicO [E P ⟨⟨[95,83,116,114,105,110,103,73,79,95,95,110,101,119,108,105,110,101]⟩⟩ (τ 46) (.str ⟨⟨[10]⟩⟩ (τ 47)),E P ⟨⟨[95,83,116,114,105,110,103,73,79,95,95,98,117,102]⟩⟩ (τ 48) (.str text (τ 49)),E P ⟨⟨[95,83,116,114,105,110,103,73,79,95,95,112,111,115]⟩⟩ (τ 50) (.int (k:Int) (τ 51))] 3)]
noncomputable def stTok0 (P:Params) (L X XD S D Q1 Q2:Nat) (quoted:Bool) (es:Str) (sv:Tok→Value) (token text:Str) (k:Nat):St:=fun τ=>[(L,frO [E P ⟨⟨[115,101,108,102]⟩⟩ (τ 0) (.ref X),E P ⟨⟨[113,117,111,116,101,100]⟩⟩ (τ 2) (.bool quoted),E P ⟨⟨[101,115,99,97,112,101,100,115,116,97,116,101]⟩⟩ (τ 4) (.str es (τ 5))] 3),(X,insO 854 XD),(XD,dicO [E P ⟨⟨[105,110,115,116,114,101,97,109]⟩⟩ (τ 6) (.ref S),E P ⟨⟨[105,110,102,105,108,101]⟩⟩ (τ 8) .none,E P ⟨⟨[112,111,115,105,120]⟩⟩ (τ 10) (.bool true),E P ⟨⟨[101,111,102]⟩⟩ (τ 12) .none,E P ⟨⟨[99,111,109,109,101,110,116,101,114,115]⟩⟩ (τ 14) (.str ⟨⟨[]⟩⟩ (τ 15)),E P ⟨⟨[119,111,114,100,99,104,97,114,115]⟩⟩ (τ 16) (.str wordS (τ 17)),E P ⟨⟨[119,104,105,116,101,115,112,97,99,101]⟩⟩ (τ 18) (.str ⟨⟨[32,9,13,10]⟩⟩ (τ 19)),E P ⟨⟨[119,104,105,116,101,115,112,97,99,101,95,115,112,108,105,116]⟩⟩ (τ 20) (.bool true),E P ⟨⟨[113,117,111,116,101,115]⟩⟩ (τ 22) (.str ⟨⟨[39,34]⟩⟩ (τ 23)),E P ⟨⟨[101,115,99,97,112,101]⟩⟩ (τ 24) (.str ⟨⟨[92]⟩⟩ (τ 25)),E P ⟨⟨[101,115,99,97,112,101,100,113,117,111,116,101,115]⟩⟩ (τ 26) (.str ⟨⟨[34]⟩⟩ (τ 27)),E P ⟨⟨[115,116,97,116,101]⟩⟩ (τ 28) (sv (τ 29)),E P ⟨⟨[112,117,115,104,98,97,99,107]⟩⟩ (τ 30) (.ref Q1),E P ⟨⟨[108,105,110,101,110,111]⟩⟩ (τ 32) (.int 1 (τ 33)),E P ⟨⟨[100,101,98,117,103]⟩⟩ (τ 34) (.int 0 (τ 35)),E P ⟨⟨[116,111,107,101,110]⟩⟩ (τ 36) (.str token (τ 37)),E P ⟨⟨[102,105,108,101,115,116,97,99,107]⟩⟩ (τ 38) (.ref Q2),E P ⟨⟨[115,111,117,114,99,101]⟩⟩ (τ 40) .none,E P ⟨⟨[95,112,117,110,99,116,117,97,116,105,111,110,95,99,104,97,114,115]⟩⟩ (τ 42) (.str ⟨⟨[]⟩⟩ (τ 43))] 19),(S,insO 719 D),(D,dicO [E P ⟨⟨[95,83,116,114,105,110,103,73,79,95,95,110,101,119,108,105,110,101]⟩⟩ (τ 44) (.str ⟨⟨[10]⟩⟩ (τ 45)),E P ⟨⟨[95,83,116,114,105,110,103,73,79,95,95,98,117,102]⟩⟩ (τ 46) (.str text (τ 47)),E P ⟨⟨[95,83,116,114,105,110,103,73,79,95,95,112,111,115]⟩⟩ (τ 48) (.int (k:Int) (τ 49))] 3)]
noncomputable def codeT (P:Params) (L:Nat):Code:=loopC (stm (sub (st 44) 6) 2) .none (envF (o822 P) 822 L)
noncomputable def tOf:Code→Tok
 | .call _ ⟨[_,.int _ t],_⟩=>t
 | _=>0
noncomputable def rules3 (P:Params):Nat→Option ERule:=tab rules2 [(41,loopG fun c T=>readC P (aAt T 0) (aAt T 1) (sOf (vAt T 1 1)) (iOf (vAt T 1 2)).toNat (tOf c)),(42,loopG fun c T=>readE P (aAt T 0) (aAt T 1) (sOf (vAt T 1 1)) (iOf (vAt T 1 2)).toNat (tOf c)),(27,tupInR)]
theorem rules3_ok {B:Nat} (hB:B≤700) {V:RV} {w:World} (hV:V.look=lookK w.params) (hg:V.keepG=true):∀ i R,rules3 w.params i=some R→RuleOk B V pw_il0098_01 w R:=by
 exact tab_cons (loopG_ok fun c S=>LoopOk.cast (V:=VK w.params rules2) hV.symm (fun _=>rfl) (readC_ok hB _ _ _ _ _)) (tab_cons (loopG_ok fun c S=>LoopOk.cast (V:=VK w.params rules2) hV.symm (fun _=>rfl) (readE_ok hB _ _ _ _ _)) (tab_cons (tupInR_ok) (rules2_ok (ar13) hV)))
noncomputable abbrev hasB (x y:Str):Prop:=(Builtin.Str.occurrences x y 0 x.length 1).isEmpty=false
theorem tok_A_word (P:Params):∀ (rv:Nat→Option ERuleV) (fr:Option (List Env)) (ρ:Unk) (τ:Nat→Tok) (L X XD S D Q1 Q2:Nat) (quoted:Bool) (es nch:Str) (token text:Str) (k:Nat) (b tk:Nat),
 PathI [4,5,6,1,2] (fun _=>⟨(fun _=>.inl (.again (codeT P L))),[(token++(one (text.cps.getD k 0))).length≤sizeLine,hasB wordS (one (text.cps.getD k 0)),¬hasB ⟨⟨[92]⟩⟩ (one (text.cps.getD k 0)),¬hasB ⟨⟨[39,34]⟩⟩ (one (text.cps.getD k 0)),¬hasB ⟨⟨[]⟩⟩ (one (text.cps.getD k 0)),¬hasB ⟨⟨[32,9,13,10]⟩⟩ (one (text.cps.getD k 0)),(one (text.cps.getD k 0)).length < 2 ^ 63,(one (text.cps.getD k 0)).length≠0,([⟨⟨[97]⟩⟩,⟨⟨[99]⟩⟩]:List Str).any (· == ⟨⟨[97]⟩⟩)=true,¬(one (text.cps.getD k 0))=⟨⟨[10]⟩⟩,k < text.length,text.length≤sizeLine],stTok P L X XD S D Q1 Q2 quoted es (one (text.cps.getD k 0)) (fun t=>.str ⟨⟨[97]⟩⟩ t) (token++(one (text.cps.getD k 0))) text (k+1)⟩)
  (runL (VR P (rules3 P) rv fr) ρ 900 (codeT P L) (stTok P L X XD S D Q1 Q2 quoted es nch (fun t=>.str ⟨⟨[97]⟩⟩ t) token text k τ) b tk (orcN 0 3654748968999532098788426444860444099287055626153016283535380025069970944174725181461770437898469250231707085314240462425462527003338740826080755453311875856199696240060800879191222553736619817888974967599770267269161390592643211637322168010150558296994713357415257469028648639215723948499121834440800707699264116299936594357981711919557921552607756924163133583880292749944592814083973760251569352820112735747614405727543959549295399989083982811380575148573703337165395268024442567760149628804419435484691400911257633580690277897747278403906685721181651024955833653221792315228530327549958332660023279303316560669651476458095619775126274364987934218949041463725854705809595876656878193490395137 9 [(.eff 41 [4,5],0),(.eff 0 [0],16),(.eff 27 [0,1],0),(.eff 20 [1],1),(.eff 2 [0],1),(.eff 2 [0],5),(.eff 2 [0],2),(.eff 2 [0],1),(.eff 2 [1],1),(.eff 3 [],100000)])):=
 fP2 (by intros;kernel_rfl) (by intros;kernel_rfl) P
theorem tok_A_other (P:Params):∀ (rv:Nat→Option ERuleV) (fr:Option (List Env)) (ρ:Unk) (τ:Nat→Tok) (L X XD S D Q1 Q2:Nat) (quoted:Bool) (es nch:Str) (token text:Str) (k:Nat) (b tk:Nat),
 PathI [5,6,7,2,3] (fun _=>⟨(fun _=>.inl (.again (codeT P L))),[(token++(one (text.cps.getD k 0))).length≤sizeLine,¬hasB ⟨⟨[]⟩⟩ (one (text.cps.getD k 0)),¬hasB ⟨⟨[39,34]⟩⟩ (one (text.cps.getD k 0)),¬hasB wordS (one (text.cps.getD k 0)),¬hasB ⟨⟨[92]⟩⟩ (one (text.cps.getD k 0)),¬hasB ⟨⟨[39,34]⟩⟩ (one (text.cps.getD k 0)),¬hasB ⟨⟨[]⟩⟩ (one (text.cps.getD k 0)),¬hasB ⟨⟨[32,9,13,10]⟩⟩ (one (text.cps.getD k 0)),(one (text.cps.getD k 0)).length < 2 ^ 63,(one (text.cps.getD k 0)).length≠0,([⟨⟨[97]⟩⟩,⟨⟨[99]⟩⟩]:List Str).any (· == ⟨⟨[97]⟩⟩)=true,¬(one (text.cps.getD k 0))=⟨⟨[10]⟩⟩,k < text.length,text.length≤sizeLine],stTok P L X XD S D Q1 Q2 quoted es (one (text.cps.getD k 0)) (fun t=>.str ⟨⟨[97]⟩⟩ t) (token++(one (text.cps.getD k 0))) text (k+1)⟩)
  (runL (VR P (rules3 P) rv fr) ρ 900 (codeT P L) (stTok P L X XD S D Q1 Q2 quoted es nch (fun t=>.str ⟨⟨[97]⟩⟩ t) token text k τ) b tk (orcN 0 9437622526308293965736773949556601671733890767471709052730475847277308167080998630707511940375493718581085905283202474844859472582447803337655583562819499443185254891687828704068621615499505347484107749710504804723642678641963515747461122152304727817503263115054944887256864055516826257264554901840712479676033392028835807082018771129159877962288616625116462298741924713045196801059132116469973238705143141347375275641062000910944667259021929615722973354855812075745347271845882106603340303026190264506362197801119660425231298782491136239021956944010330206577523995852162743626741800048356980667266073644362424806119228827942669492403435240962408015520452248766551328505899497470093009766612163236119601196326954877202363647162805122956197073864444238736343904061724506379717236492242096066887020169489852957589505 9 [(.eff 41 [4,5],0),(.eff 0 [0],16),(.eff 27 [0,1],0),(.eff 20 [1],1),(.eff 2 [0],1),(.eff 2 [0],5),(.eff 2 [0],2),(.eff 2 [0],1),(.eff 2 [0],1),(.eff 2 [0],6),(.eff 2 [0],1),(.eff 3 [],100000)])):=
 fP2 (by intros;kernel_rfl) (by intros;kernel_rfl) P
theorem tok_A_esc (P:Params):∀ (rv:Nat→Option ERuleV) (fr:Option (List Env)) (ρ:Unk) (τ:Nat→Tok) (L X XD S D Q1 Q2:Nat) (quoted:Bool) (es nch:Str) (token text:Str) (k:Nat) (b tk:Nat),
 PathI [4,5,6,1,2] (fun _=>⟨(fun _=>.inl (.again (codeT P L))),[hasB ⟨⟨[92]⟩⟩ (one (text.cps.getD k 0)),¬hasB ⟨⟨[39,34]⟩⟩ (one (text.cps.getD k 0)),¬hasB ⟨⟨[]⟩⟩ (one (text.cps.getD k 0)),¬hasB ⟨⟨[32,9,13,10]⟩⟩ (one (text.cps.getD k 0)),(one (text.cps.getD k 0)).length < 2 ^ 63,(one (text.cps.getD k 0)).length≠0,([⟨⟨[97]⟩⟩,⟨⟨[99]⟩⟩]:List Str).any (· == ⟨⟨[97]⟩⟩)=true,¬(one (text.cps.getD k 0))=⟨⟨[10]⟩⟩,k < text.length,text.length≤sizeLine],stTok P L X XD S D Q1 Q2 quoted ⟨⟨[97]⟩⟩ (one (text.cps.getD k 0)) (fun t=>.str (one (text.cps.getD k 0)) t) token text (k+1)⟩)
  (runL (VR P (rules3 P) rv fr) ρ 900 (codeT P L) (stTok P L X XD S D Q1 Q2 quoted es nch (fun t=>.str ⟨⟨[97]⟩⟩ t) token text k τ) b tk (orcN 0 2500680721558473047765071693370369449765976001164050185463567283173667799010576990972453837052803927149607586398796579646671258520616900236070877116261166803616736993215756299740408483774409918910664458509705984909898660167467185000877930364211944809834123475344801612344551965914707568441298185035557757850507150502005981145883539981750604674098113136063684780402538020035537940844019177911333937607069959508762142701858616521882820193318070374368790597460159484579755251607130244342936441076369616668628506354928563520818324529520257394435305333420312569563583158017255134153737644066793412048975566290486876976388325709504067988401392804036609 9 [(.eff 41 [4,5],0),(.eff 0 [0],16),(.eff 27 [0,1],0),(.eff 20 [1],1),(.eff 2 [0],1),(.eff 2 [0],5),(.eff 2 [0],2),(.eff 2 [1],100000)])):=
 fP2 (by intros;kernel_rfl) (by intros;kernel_rfl) P
theorem tok_A_quote (P:Params):∀ (rv:Nat→Option ERuleV) (fr:Option (List Env)) (ρ:Unk) (τ:Nat→Tok) (L X XD S D Q1 Q2:Nat) (quoted:Bool) (es nch:Str) (token text:Str) (k:Nat) (b tk:Nat),
 PathI [4,5,6,1,2] (fun _=>⟨(fun _=>.inl (.again (codeT P L))),[hasB ⟨⟨[39,34]⟩⟩ (one (text.cps.getD k 0)),¬hasB ⟨⟨[]⟩⟩ (one (text.cps.getD k 0)),¬hasB ⟨⟨[32,9,13,10]⟩⟩ (one (text.cps.getD k 0)),(one (text.cps.getD k 0)).length < 2 ^ 63,(one (text.cps.getD k 0)).length≠0,([⟨⟨[97]⟩⟩,⟨⟨[99]⟩⟩]:List Str).any (· == ⟨⟨[97]⟩⟩)=true,¬(one (text.cps.getD k 0))=⟨⟨[10]⟩⟩,k < text.length,text.length≤sizeLine],stTok P L X XD S D Q1 Q2 quoted es (one (text.cps.getD k 0)) (fun t=>.str (one (text.cps.getD k 0)) t) token text (k+1)⟩)
  (runL (VR P (rules3 P) rv fr) ρ 900 (codeT P L) (stTok P L X XD S D Q1 Q2 quoted es nch (fun t=>.str ⟨⟨[97]⟩⟩ t) token text k τ) b tk (orcN 0 1415335130815146975748567023171517105825012522687866153567246800735532940178699925865887654737080207235530836342890178963417511477939522230634369594200173247985102093680972577136764423199338699792984047264236023147937644566494371766788046873122802122502345671303565448217987531553621065030533604092057071023706045290354449518108863188908125910044276754916180300930399507718357075486765440969387250390998178390593864497149587241580671655558889695915497534373276009580532238544502985725689192971599616966274675268288158432596585729578907282161776791363326416860888159788072961 9 [(.eff 41 [4,5],0),(.eff 0 [0],16),(.eff 27 [0,1],0),(.eff 20 [1],1),(.eff 2 [0],1),(.eff 2 [0],5),(.eff 2 [1],100000)])):=
 fP2 (by intros;kernel_rfl) (by intros;kernel_rfl) P
theorem tok_A_blank (P:Params):∀ (rv:Nat→Option ERuleV) (fr:Option (List Env)) (ρ:Unk) (τ:Nat→Tok) (L X XD S D Q1 Q2:Nat) (quoted:Bool) (es nch:Str) (token text:Str) (k:Nat) (b tk:Nat),
 PathI [4,5,6,1,2] (fun _=>⟨(fun _=>.inl (.done .next)),[token.length < 2 ^ 63,token.length≠0,hasB ⟨⟨[32,9,13,10]⟩⟩ (one (text.cps.getD k 0)),(one (text.cps.getD k 0)).length < 2 ^ 63,(one (text.cps.getD k 0)).length≠0,([⟨⟨[97]⟩⟩,⟨⟨[99]⟩⟩]:List Str).any (· == ⟨⟨[97]⟩⟩)=true,¬(one (text.cps.getD k 0))=⟨⟨[10]⟩⟩,k < text.length,text.length≤sizeLine],stTok P L X XD S D Q1 Q2 quoted es (one (text.cps.getD k 0)) (fun t=>.str ⟨⟨[32]⟩⟩ t) token text (k+1)⟩)
  (runL (VR P (rules3 P) rv fr) ρ 900 (codeT P L) (stTok P L X XD S D Q1 Q2 quoted es nch (fun t=>.str ⟨⟨[97]⟩⟩ t) token text k τ) b tk (orcN 0 801051307883968109190309902532943496036139789897648755766132184210883332142284609570263619253657022097781189020002017838639030268843626000399242464379034347321297241295080933729826074215452936969296852003788394900017915896519370389316659319139862551411430531179214699559961473641918443056934834370956929683208601250693203773579692984530952209261924009122123334922423829691267228045636584824552612414925772791444515069892656413384154017991328757484049610610847088158723456661191921561992490955980275713 9 [(.eff 41 [4,5],0),(.eff 0 [0],16),(.eff 27 [0,1],0),(.eff 20 [1],1),(.eff 2 [1],6),(.eff 20 [1],100000)])):=
 fP2 (by intros;kernel_rfl) (by intros;kernel_rfl) P
theorem tok_A_end (P:Params):∀ (rv:Nat→Option ERuleV) (fr:Option (List Env)) (ρ:Unk) (τ:Nat→Tok) (L X XD S D Q1 Q2:Nat) (quoted:Bool) (es nch:Str) (token text:Str) (k:Nat) (b tk:Nat),
 PathI [4,5,6,1,2] (fun _=>⟨(fun _=>.inl (.done .next)),[(⟨⟨[]⟩⟩:Str).length < 2 ^ 63,(⟨⟨[]⟩⟩:Str).length=0,([⟨⟨[97]⟩⟩,⟨⟨[99]⟩⟩]:List Str).any (· == ⟨⟨[97]⟩⟩)=true,¬(⟨⟨[]⟩⟩:Str)=⟨⟨[10]⟩⟩,k=text.length,text.length≤sizeLine],stTok P L X XD S D Q1 Q2 quoted es ⟨⟨[]⟩⟩ (fun _=>.none) token text k⟩)
  (runL (VR P (rules3 P) rv fr) ρ 900 (codeT P L) (stTok P L X XD S D Q1 Q2 quoted es nch (fun t=>.str ⟨⟨[97]⟩⟩ t) token text k τ) b tk (orcN 0 24577723011507614418358541065146842482304826162857408673050395493956337483854206572335553865066544950585101579397976771900651059298389130837943908663801549843697059291401435182935095104831835589485078768763945284282624310149934633193148984063417650767149417843165104411746090271676468283644599147951434099099801057720543057144384025961227267993578160326978185289646681349830760793325428151781717356201239511041 9 [(.eff 42 [4,5],0),(.eff 0 [0],16),(.eff 27 [0,1],0),(.eff 20 [0],100000)])):=
 fP2 (by intros;kernel_rfl) (by intros;kernel_rfl) P
theorem tok_E_any (P:Params):∀ (rv:Nat→Option ERuleV) (fr:Option (List Env)) (ρ:Unk) (τ:Nat→Tok) (L X XD S D Q1 Q2:Nat) (quoted:Bool) (es nch:Str) (token text:Str) (k:Nat) (b tk:Nat),
 PathI [3,4,5,0,1] (fun _=>⟨(fun _=>.inl (.again (codeT P L))),[(token++(one (text.cps.getD k 0))).length≤sizeLine,(one (text.cps.getD k 0)).length < 2 ^ 63,(one (text.cps.getD k 0)).length≠0,¬(one (text.cps.getD k 0))=⟨⟨[10]⟩⟩,k < text.length,text.length≤sizeLine],stTok P L X XD S D Q1 Q2 quoted ⟨⟨[97]⟩⟩ (one (text.cps.getD k 0)) (fun t=>.str ⟨⟨[97]⟩⟩ t) (token++(one (text.cps.getD k 0))) text (k+1)⟩)
  (runL (VR P (rules3 P) rv fr) ρ 900 (codeT P L) (stTok P L X XD S D Q1 Q2 quoted ⟨⟨[97]⟩⟩ nch (fun t=>.str ⟨⟨[92]⟩⟩ t) token text k τ) b tk (orcN 0 43424399308831777183913577469511266906557436323956509405064753222269481690658535021506587330589003042940901441380304769598809247374592689938669536781066436275693617784446912019606924832099661857561608270870506538460966223237349632207206301883548725204916690271774082297557019298712525443168797540747770983923683896791786844041887180848464362936876584346442893077243016613062798913842375279430187274260567350569306994286987497831393388221187573167575760104289000713138451121742938113 9 [(.eff 41 [4,5],0),(.eff 0 [0],15),(.eff 20 [1],4),(.eff 3 [],100000)])):=
 fP2 (by intros;kernel_rfl) (by intros;kernel_rfl) P
theorem tok_Q_close (P:Params):∀ (rv:Nat→Option ERuleV) (fr:Option (List Env)) (ρ:Unk) (τ:Nat→Tok) (L X XD S D Q1 Q2:Nat) (quoted:Bool) (es nch:Str) (token text:Str) (k:Nat) (b tk:Nat),
 PathI [3,4,5,0,1] (fun _=>⟨(fun _=>.inl (.again (codeT P L))),[(one (text.cps.getD k 0))=⟨⟨[39]⟩⟩,(one (text.cps.getD k 0)).length < 2 ^ 63,(one (text.cps.getD k 0)).length≠0,¬(one (text.cps.getD k 0))=⟨⟨[10]⟩⟩,k < text.length,text.length≤sizeLine],stTok P L X XD S D Q1 Q2 true es (one (text.cps.getD k 0)) (fun t=>.str ⟨⟨[97]⟩⟩ t) token text (k+1)⟩)
  (runL (VR P (rules3 P) rv fr) ρ 900 (codeT P L) (stTok P L X XD S D Q1 Q2 quoted es nch (fun t=>.str ⟨⟨[39]⟩⟩ t) token text k τ) b tk (orcN 0 20329898346086997116504588448914635628898097440389021745370263241811485094502856253056738242831335787265492457686758385362878908523043332494366812854890100032154802392304252705791260969878063071864608679145877055826881051082318671260211181642216438706431255254652525919794484403217080781085150218514761014662475047014444681428667940585330100472339536092758797032643378592867642318651393 9 [(.eff 41 [4,5],0),(.eff 0 [0],11),(.eff 20 [1],1),(.eff 0 [1],100000)])):=
 fP2 (by intros;kernel_rfl) (by intros;kernel_rfl) P
theorem tok_Q_other (P:Params):∀ (rv:Nat→Option ERuleV) (fr:Option (List Env)) (ρ:Unk) (τ:Nat→Tok) (L X XD S D Q1 Q2:Nat) (quoted:Bool) (es nch:Str) (token text:Str) (k:Nat) (b tk:Nat),
 PathI [3,4,5,0,1] (fun _=>⟨(fun _=>.inl (.again (codeT P L))),[(token++(one (text.cps.getD k 0))).length≤sizeLine,¬hasB ⟨⟨[92]⟩⟩ (one (text.cps.getD k 0)),¬(one (text.cps.getD k 0))=⟨⟨[39]⟩⟩,(one (text.cps.getD k 0)).length < 2 ^ 63,(one (text.cps.getD k 0)).length≠0,¬(one (text.cps.getD k 0))=⟨⟨[10]⟩⟩,k < text.length,text.length≤sizeLine],stTok P L X XD S D Q1 Q2 true es (one (text.cps.getD k 0)) (fun t=>.str ⟨⟨[39]⟩⟩ t) (token++(one (text.cps.getD k 0))) text (k+1)⟩)
  (runL (VR P (rules3 P) rv fr) ρ 900 (codeT P L) (stTok P L X XD S D Q1 Q2 quoted es nch (fun t=>.str ⟨⟨[39]⟩⟩ t) token text k τ) b tk (orcN 0 8363235094590750764703404615930895078820379706077631872258912329906726250294935463727576981299855183466955557079409530704954295828311917188172694104186028056282744195847066132367460276942653092268737973982014484132504123492360168923823081916054608621082508773584043191097798423914061459592250485200244617414142627914334375863104361756342348658071789298449242121003012628694682785880432280314999343829454248139852542079826342866441426648703067881473 9 [(.eff 41 [4,5],0),(.eff 0 [0],11),(.eff 20 [1],1),(.eff 0 [0],2),(.eff 2 [0],1),(.eff 3 [],100000)])):=
 fP2 (by intros;kernel_rfl) (by intros;kernel_rfl) P
theorem tok_Q_esc (P:Params):∀ (rv:Nat→Option ERuleV) (fr:Option (List Env)) (ρ:Unk) (τ:Nat→Tok) (L X XD S D Q1 Q2:Nat) (quoted:Bool) (es nch:Str) (token text:Str) (k:Nat) (b tk:Nat),
 PathI [3,4,5,0,1] (fun _=>⟨(fun _=>.inl (.again (codeT P L))),[(token++(one (text.cps.getD k 0))).length≤sizeLine,hasB ⟨⟨[92]⟩⟩ (one (text.cps.getD k 0)),¬(one (text.cps.getD k 0))=⟨⟨[39]⟩⟩,(one (text.cps.getD k 0)).length < 2 ^ 63,(one (text.cps.getD k 0)).length≠0,¬(one (text.cps.getD k 0))=⟨⟨[10]⟩⟩,k < text.length,text.length≤sizeLine],stTok P L X XD S D Q1 Q2 true es (one (text.cps.getD k 0)) (fun t=>.str ⟨⟨[39]⟩⟩ t) (token++(one (text.cps.getD k 0))) text (k+1)⟩)
  (runL (VR P (rules3 P) rv fr) ρ 900 (codeT P L) (stTok P L X XD S D Q1 Q2 quoted es nch (fun t=>.str ⟨⟨[39]⟩⟩ t) token text k τ) b tk (orcN 0 52496877525702392874586949989363293166835619824133585396300289568084137894193151378435148112917328775491970007796500413623181769748231238454479665765262755209683393576798075122868894986408752829059849617691115674912125412074610552589126115815209503316997365153587512304967584755178467787347838433644074271440638857046335738436992852701675756864803294569388223216685534559972245954790266287481662817508771422918499468018097830537536515100693117812880315561243488341599993699537559335253003316156766749851649 9 [(.eff 41 [4,5],0),(.eff 0 [0],11),(.eff 20 [1],1),(.eff 0 [0],2),(.eff 2 [1],5),(.eff 3 [],100000)])):=
 fP2 (by intros;kernel_rfl) (by intros;kernel_rfl) P
theorem tok_S_word (P:Params):∀ (rv:Nat→Option ERuleV) (fr:Option (List Env)) (ρ:Unk) (τ:Nat→Tok) (L X XD S D Q1 Q2:Nat) (token text:Str) (k:Nat) (b tk:Nat),
 PathI [3,4,5,0,1] (fun _=>⟨(fun _=>.inl (.again (codeT P L))),[hasB wordS (one (text.cps.getD k 0)),¬hasB ⟨⟨[92]⟩⟩ (one (text.cps.getD k 0)),¬hasB ⟨⟨[]⟩⟩ (one (text.cps.getD k 0)),¬hasB ⟨⟨[32,9,13,10]⟩⟩ (one (text.cps.getD k 0)),(one (text.cps.getD k 0)).length < 2 ^ 63,(one (text.cps.getD k 0)).length≠0,¬(one (text.cps.getD k 0))=⟨⟨[10]⟩⟩,k < text.length,text.length≤sizeLine],stTok P L X XD S D Q1 Q2 false ⟨⟨[32]⟩⟩ (one (text.cps.getD k 0)) (fun t=>.str ⟨⟨[97]⟩⟩ t) (one (text.cps.getD k 0)) text (k+1)⟩)
  (runL (VR P (rules3 P) rv fr) ρ 900 (codeT P L) (stTok0 P L X XD S D Q1 Q2 false ⟨⟨[32]⟩⟩ (fun t=>.str ⟨⟨[32]⟩⟩ t) token text k τ) b tk (orcN 0 154274457418181673005767526765592616678750333122200381711904825649718010170551713427604524608786969167806570657940620843903936162362166786793671585849661524923180242123770631220738913028159202255817144389353288510603489273435504058900277287366887825465006476074326036393592781145018640697490218116451615476266241400270468685512159033666053719789756459427026960534001955242762787602693524843751485163132382860889842640313447810040057053889925816154891318140205262831617 9 [(.eff 41 [4,5],0),(.eff 0 [0],7),(.eff 20 [1],1),(.eff 2 [0],1),(.eff 2 [0],2),(.eff 2 [0],1),(.eff 2 [1],100000)])):=
 fP2 (by intros;kernel_rfl) (by intros;kernel_rfl) P
theorem tok_S_quote (P:Params):∀ (rv:Nat→Option ERuleV) (fr:Option (List Env)) (ρ:Unk) (τ:Nat→Tok) (L X XD S D Q1 Q2:Nat) (token text:Str) (k:Nat) (b tk:Nat),
 PathI [4,5,6,1,2] (fun _=>⟨(fun _=>.inl (.again (codeT P L))),[hasB ⟨⟨[39,34]⟩⟩ (one (text.cps.getD k 0)),¬hasB ⟨⟨[]⟩⟩ (one (text.cps.getD k 0)),¬hasB wordS (one (text.cps.getD k 0)),¬hasB ⟨⟨[92]⟩⟩ (one (text.cps.getD k 0)),¬hasB ⟨⟨[]⟩⟩ (one (text.cps.getD k 0)),¬hasB ⟨⟨[32,9,13,10]⟩⟩ (one (text.cps.getD k 0)),(one (text.cps.getD k 0)).length < 2 ^ 63,(one (text.cps.getD k 0)).length≠0,¬(one (text.cps.getD k 0))=⟨⟨[10]⟩⟩,k < text.length,text.length≤sizeLine],stTok P L X XD S D Q1 Q2 false ⟨⟨[32]⟩⟩ (one (text.cps.getD k 0)) (fun t=>.str (one (text.cps.getD k 0)) t) token text (k+1)⟩)
  (runL (VR P (rules3 P) rv fr) ρ 900 (codeT P L) (stTok0 P L X XD S D Q1 Q2 false ⟨⟨[32]⟩⟩ (fun t=>.str ⟨⟨[32]⟩⟩ t) token text k τ) b tk (orcN 0 17864040839774976056338052665721056131760177583051123103401886632712026562263245259989422274818500677883058119382799551068064838023145963597177362006968623959673762881709503577717015999210265550674713895395715906231221840289263537567226720692791439472696875203214952640072009888489585722191097034638079442756603939216520160660620037427396745659270697868550958695586292968467340174413517533396450610957521049950208321881085440065700641626850125077128521076470315163434884414758481032072308122922438305805489602951975703477074597653177133695107073 9 [(.eff 41 [4,5],0),(.eff 0 [0],7),(.eff 20 [1],1),(.eff 2 [0],1),(.eff 2 [0],2),(.eff 2 [0],1),(.eff 2 [0],5),(.eff 2 [0],1),(.eff 2 [1],100000)])):=
 fP2 (by intros;kernel_rfl) (by intros;kernel_rfl) P
theorem tok_N_end (P:Params):∀ (rv:Nat→Option ERuleV) (fr:Option (List Env)) (ρ:Unk) (τ:Nat→Tok) (L X XD S D Q1 Q2:Nat) (token text:Str) (k:Nat) (b tk:Nat),
 PathI [3,4,5,0,1] (fun _=>⟨(fun _=>.inl (.done .next)),[¬(⟨⟨[]⟩⟩:Str)=⟨⟨[10]⟩⟩,k=text.length,text.length≤sizeLine],stTok P L X XD S D Q1 Q2 false ⟨⟨[32]⟩⟩ ⟨⟨[]⟩⟩ (fun _=>.none) ⟨⟨[]⟩⟩ text k⟩)
  (runL (VR P (rules3 P) rv fr) ρ 900 (codeT P L) (stTok0 P L X XD S D Q1 Q2 false ⟨⟨[32]⟩⟩ (fun _=>.none) token text k τ) b tk (orcN 0 353034839257086552220425065955790911892388450654481047502590778116298172922179745265096401400618497545126709755092290409191718934986445778503909869441378931668599954900467273067906949210111185351524316156878641608748302337 9 [(.eff 42 [4,5],0),(.eff 0 [0],100000)])):=
 fP2 (by intros;kernel_rfl) (by intros;kernel_rfl) P
noncomputable def outerC (L2 L3 L4 L5 L6:Nat) (es2 es3 es4 es5 es6:List DictEntry) (n2 n3 n4 n5 n6:Nat):List Cell:=[(L2,frO es2 n2),(L3,frO es3 n3),(L4,frO es4 n4),(L5,frO es5 n5),(L6,frO es6 n6)]
noncomputable def outerE (P:Params) (L2 L3 L4 L5 L6:Nat):List Env:=[envF (o815 P) 815 L2,envF (o851 P) 851 L3,envF (o866 P) 866 L4,envF (o907 P) 907 L5,envF (o912 P) 912 L6]
noncomputable def outerR (P:Params) (L2 L3 L4 L5 L6:Nat) (es2 es3 es4 es5 es6:List DictEntry) (n2 n3 n4 n5 n6:Nat) (vb:Value):List Cell:=[(L2,readyO (envF (o815 P) 815 L2) (.ref L3) (frO es2 n2)),(L3,readyO (envF (o851 P) 851 L3) (.ref L4) (frO es3 n3)),(L4,readyO (envF (o866 P) 866 L4) (.ref L5) (frO es4 n4)),(L5,readyO (envF (o907 P) 907 L5) (.ref L6) (frO es5 n5)),(L6,readyO (envF (o912 P) 912 L6) (vbN vb) (frO es6 n6))]
noncomputable def excO (nm:String) (a0 tb:Nat):Obj:={ cls:=.type nm,data:=.fields #[.ref a0,.ref tb,.none,.none,.bool false,.none] }
theorem tok_Q_end (P:Params):∀ (rv:Nat→Option ERuleV) (ρ:Unk) (τ:Nat→Tok) (L X XD S D Q1 Q2:Nat) (L2 L3 L4 L5 L6:Nat) (es2 es3 es4 es5 es6:List DictEntry) (n2 n3 n4 n5 n6:Nat) (quoted:Bool) (es nch:Str) (token text:Str) (k:Nat) (b tk:Nat),
 PathI [2,0,10,11,12,13,14] (fun sz=>⟨fun _=>.inr (.ref (ρ.b 2+901)),[(⟨⟨[]⟩⟩:Str).length < 2 ^ 63,(⟨⟨[]⟩⟩:Str).length=0,¬((⟨⟨[]⟩⟩:Str)=(⟨⟨[10]⟩⟩:Str)),k=text.length,text.length≤sizeLine],
  fun τ=>(ρ.b 2+901,excO "ValueError" (ρ.b 2+902) (ρ.b 2+903))::(ρ.b 2+903,tbO .none L (ρ.v 4))::outerR P L2 L3 L4 L5 L6 es2 es3 es4 es5 es6 n2 n3 n4 n5 n6 (ρ.v 4 6)⟩)
  (runR (VR P (rules3 P) rv (some (envF (o822 P) 822 L::outerE P L2 L3 L4 L5 L6))) ρ 900 (codeT P L) (stTok P L X XD S D Q1 Q2 quoted es nch (fun t=>.str ⟨⟨[39]⟩⟩ t) token text k τ++outerC L2 L3 L4 L5 L6 es2 es3 es4 es5 es6 n2 n3 n4 n5 n6) b tk (orcN 0 1102017122693075121163163646222952359223138232030036323812293971549451029677170783021613068292408762334716961730864645130308099601732074777996650405045321353274964028824840850208982637351752070873222507233627277322541583585423771001613016920822085634607251379427204716735257241375354123456178364127812728284209647532152360695498135304774086543133322507389366832332801 9 [(.eff 42 [4,5],0),(.eff 0 [0],11),(.eff 20 [0],9),(.note 0 [1,6,9,10,11,12,13],100000)])):=
 fP2 (by intros;kernel_rfl) (by intros;kernel_rfl) P
end
section
open PySem.Calls
open Sem (wp)
noncomputable def Turn (B:Nat) (V:RV) (w:World) (c:Code) (st:St) (c':Code) (st':St):Prop:=
 ∀ (τ:Nat→Tok) (A:Around) (h₀:Fr) (h:Heap) (b:Nat) (g:Array GenState) (dr:Drawn) (tok:Nat) (os:OsState) (R:Result→Shared→Prop),FrOk V.fr A→A.handled=none→A.depth≤B→13≤b→Rep V h₀ h (st τ) (b+900)→
  (∀ τ' h' b' g' tok',13≤b'→GR V g g'→Rep V h₀ h' (st' τ') (b'+900)→codeAny (MM w) A c' R ⟨h',g',dr,tok',os⟩)→codeAny (MM w) A c R ⟨h,g,dr,tok,os⟩
section
variable {B:Nat} {V:RV} {w:World} {c c':Code} {st st':St} {P:Post}
theorem Turn.loop (O:VOk V pw_il0098_01 w) (HR:∀ i R,V.rules i=some R→RuleOk (B+52) V pw_il0098_01 w R) (hB:B+4≤800) {n:Nat} {is:List Nat} (hn:nodupB is=true) {o:Orc} {v:Unk→Nat→Want}
 (path:∀ τ b tk ρ,PathI is (v ρ) (runL V ρ n c (st τ) b tk o)) (hw:c.weight≤4) (hq:c'.quiet=true)
 (fin:∀ ρ sz,(∀ p∈(v ρ sz).conds,p)∧(∀ tr,(v ρ sz).r tr= .inl (.again c'))∧(v ρ sz).st=st')
 (HV:∀ i R,V.rv i=some R→RuleVOk (B+52) V pw_il0098_01 w R:=by intro i R e;exact nomatch (show (none:Option ERuleV)=some R from e)):Turn B V w c st c' st':=by
 intro τ A h₀ h b g dr tok os R hfr hA hd hb D K
 refine code_own ?_
 show wpX (MM w) (.own A c) (denote table c) _ _ _
 rw [←fDen_eq]
 refine run_sound (Q₀:=QC (MM w) A R) (E₀:=QE R) (A₀:=A) (h₀:=h₀) (g₀:=g) (dr:=dr) (os:=os) (B:=B+4) hfr hB O HR HV n ⟨fun _=>0,fun _=>0,fun _ _=>0,fun _=>default,fun _=>[],fun _ _=>.none⟩ (some c) false .base 0 (fDen c) (st τ) (b+900) 0 tok 0 0 o.sk o.ls o.cs o.cl [] [] h g (GR.refl _ _)
  (fun ρ _=>?_) D (ar10) ⟨by lia,hA⟩ (by show A.depth+c.weight≤_;exact ar55) (by intro e;cases e)
 obtain ⟨out,h1,h2,tr,τ',h3,h4,h5⟩:=(path τ b tok ρ).use
 obtain ⟨q1,q2,q3⟩:=fin ρ out.sz
 refine ⟨out,h1,h2,by rw [h4];exact q1,fun h' g' D' hg hsz=>?_⟩
 have D':=D'.perm (nodupB_spec hn)
 rw [h5,q3] at D'
 rw [h3,q2 tr]
 have es:out.sz - 900+900=out.sz:=ar1
 exact ⟨hq,K τ' h' (out.sz - 900) g' out.toks (ar2) hg (by rw [es];exact D')⟩
theorem Turn.lf (t:Turn B V w c st c' st') (h:LF B V w c' st' P):LF B V w c st P:=fun τ A h₀ hh b g dr tok os hfr hA hd hb D=>
 t τ A h₀ hh b g dr tok os _ hfr hA hd hb D fun τ' h' b' g' tok' hb' hg D'=>codeAny_mono (h τ' A h₀ h' b' g' dr tok' os hfr hA hd hb' D') fun x s'=>LR.trans hg
theorem Turn.frame (t:Turn B V w c st c' st') (R₀:List Cell):Turn B V w c (fun τ=>st τ++R₀) c' (fun τ=>st' τ++R₀):=fun τ A h₀ hh b g dr tok os R hfr hA hd hb D K=>
 t τ A (frOf hh (st τ)) hh b g dr tok os R hfr hA hd hb D.base fun τ' h' b' g' tok' hb' hg D'=>K τ' h' b' g' tok' hb' hg (D.glue D')
theorem LF.frame (t:LF B V w c st P) (R₀:List Cell):LF B V w c (fun τ=>st τ++R₀) (fun x T b=>∃ T',P x T' b∧T=T'++R₀):=fun τ A h₀ hh b g dr tok os hfr hA hd hb D=>
 codeAny_mono (t τ A (frOf hh (st τ)) hh b g dr tok os hfr hA hd hb D.base) fun x s' ⟨T,b',t',g2,p1,p2,p3,p4,p5⟩=>⟨T++R₀,b',t',g2,⟨T,p1,rfl⟩,D.glue p2,p3,p4,p5⟩
end
end
section
open PySem.Calls
noncomputable def alph:List Nat:=[32,34,39,46,47,48,49,50,51,52,53,54,55,56,57,92,97,98,115,120]
inductive Md where
 | A | Q | E
noncomputable def svM:Md→Tok→Value
 | .A=>fun t=>.str ⟨⟨[97]⟩⟩ t
 | .Q=>fun t=>.str ⟨⟨[39]⟩⟩ t
 | .E=>fun t=>.str ⟨⟨[92]⟩⟩ t
structure TE where
 tok:Str
 q:Bool
 l:List Nat
 e:Bool
noncomputable def tkR:Md→Bool→Str→List Nat→Option TE
 | .A,q,t,[]=>some ⟨t,q,[],true⟩
 | .A,q,t,c::l=>if c=32 then some ⟨t,q,l,false⟩ else if c=39 then tkR .Q q t l else if c=92 then tkR .E q t l else tkR .A q (t++one c) l
 | .Q,_,_,[]=>none
 | .Q,_,t,c::l=>if c=39 then tkR .A true t l else tkR .Q true (t++one c) l
 | .E,_,_,[]=>none
 | .E,q,t,c::l=>tkR .A q (t++one c) l
noncomputable def okR:Md→List Nat→Prop
 | .A,[]=>True
 | .A,c::l=>c∈alph∧c≠34∧(if c=32 then True else if c=39 then okR .Q l else if c=92 then okR .E l else okR .A l)
 | .Q,[]=>True
 | .Q,c::l=>c∈alph∧(if c=39 then okR .A l else okR .Q l)
 | .E,[]=>False
 | .E,c::l=>c∈alph∧okR .A l
theorem sgn_facts:∀ c∈alph,(hasB ⟨⟨[32,9,13,10]⟩⟩ (one c)↔c=32)∧¬hasB ⟨⟨[]⟩⟩ (one c)∧(hasB ⟨⟨[39,34]⟩⟩ (one c)↔c=39∨c=34)∧(hasB ⟨⟨[92]⟩⟩ (one c)↔c=92)∧(hasB wordS (one c)↔c≠32∧c≠34∧c≠39∧c≠46∧c≠47∧c≠92)∧¬(one c=⟨⟨[10]⟩⟩):=by decide+kernel
theorem one_lt (c:Nat):(one c).length < 2 ^ 63:=by show 1 < 2 ^ 63;decide
theorem one_ne (c:Nat):(one c).length≠0:=by show 1≠0;decide
theorem tup_fact:([⟨⟨[97]⟩⟩,⟨⟨[99]⟩⟩]:List Str).any (· == ⟨⟨[97]⟩⟩)=true:=by decide
theorem codeT_w (P:Params) (L:Nat):(codeT P L).weight≤4:=Nat.le_of_ble_eq_true (by kernel_rfl)
theorem codeT_q (P:Params) (L:Nat):(codeT P L).quiet=true:=by kernel_rfl
theorem drop_cons {l:List Nat} {k c:Nat} {r:List Nat} (h:l.drop k=c::r):k < l.length∧l.getD k 0=c∧l.drop (k+1)=r:=by
 have hk:k < l.length:=by
  rcases Nat.lt_or_ge k l.length with q | q
  ·exact q
  ·rw [List.drop_eq_nil_of_le q] at h;cases h
 rw [List.drop_eq_getElem_cons hk] at h
 obtain ⟨h1,h2⟩:=List.cons.inj h
 refine ⟨hk,?_,h2⟩
 rw [List.getD_eq_getElem?_getD,List.getElem?_eq_getElem hk]
 exact h1
theorem getD_list (x:Str) (k:Nat):x.cps.getD k 0=x.cps.toList.getD k 0:=by
 rw [Array.getD_eq_getD_getElem?,List.getD_eq_getElem?_getD,Array.getElem?_toList]
noncomputable def nextM:Md→Nat→Option (Md)
 | .A,c=>if c=32 then none else if c=39 then some .Q else if c=92 then some .E else some .A
 | .Q,c=>if c=39 then some .A else some .Q
 | .E,_=>some .A
noncomputable def nextT:Md→Str→Nat→Str
 | .A,t,c=>if c=39 then t else if c=92 then t else t++one c
 | .Q,t,c=>if c=39 then t else t++one c
 | .E,t,c=>t++one c
noncomputable def nextQ:Md→Bool→Bool
 | .Q,_=>true
 | _,q=>q
section
variable {B:Nat} {w:World} (hB:B+52≤700) (rv:Nat→Option ERuleV) (fr:Option (List Env)) (HV:∀ i R,rv i=some R→RuleVOk (B+52) (VR w.params (rules3 w.params) rv fr) pw_il0098_01 w R)
 (L X XD S D Q1 Q2:Nat) (text:Str) (ht:text.length≤sizeLine)
include hB HV ht
theorem tok_turn (k:Nat) (m m':Md) (q:Bool) (es nch t:Str) (c:Nat) (hk:k < text.length) (hc:text.cps.getD k 0=c) (ha:c∈alph) (hdq:m= .A→c≠34) (hm:nextM m c=some m') (hes:m= .E→es=⟨⟨[97]⟩⟩) (hl:t.length+1≤sizeLine):
 ∃ es',(es'=es∨es'=⟨⟨[97]⟩⟩)∧(m'= .E→es'=⟨⟨[97]⟩⟩)∧Turn B (VR w.params (rules3 w.params) rv fr) w (codeT w.params L) (stTok w.params L X XD S D Q1 Q2 q es nch (svM m) t text k) (codeT w.params L) (stTok w.params L X XD S D Q1 Q2 (nextQ m q) es' (one c) (svM m') (nextT m t c) text (k+1)):=by
 obtain ⟨f1,f2,f3,f4,f5,f6⟩:=sgn_facts c ha
 have HR:=rules3_ok (B:=B+52) hB (V:=VR w.params (rules3 w.params) rv fr) (w:=w) rfl rfl
 have O:=VR_ok w (rules3 w.params) rv fr
 have hadd:(t++one c).length≤sizeLine:=by rw [len_app];exact hl
 have g1:=one_lt c
 have g2:=one_ne c
 have g3:=tup_fact
 subst hc
 cases m with
 | A=>
   have hdq:=hdq rfl
   simp only [nextM] at hm
   split at hm
   ·cases hm
   ·rename_i n32
    have w1:¬hasB ⟨⟨[32,9,13,10]⟩⟩ (one (text.cps.getD k 0)):=fun z=>n32 (f1.mp z)
    split at hm
    ·rename_i c39
     cases hm
     have w2:hasB ⟨⟨[39,34]⟩⟩ (one (text.cps.getD k 0)):=f3.mpr (.inl c39)
     refine ⟨es,.inl rfl,(fun z=>by cases z),Turn.loop O HR (ar11) rfl (fun τ b tk ρ=>tok_A_quote w.params rv fr ρ τ L X XD S D Q1 Q2 q es nch t text k b tk) (codeT_w ..) (codeT_q ..) (fun ρ sz=>⟨?_,fun tr=>rfl,?_⟩) HV⟩
     ·repeat' (first | exact c0 | refine cC ?_ ?_)
      all_goals assumption
     ·dsimp only [svM,nextT,nextQ]
      rw [if_pos c39,c39]
      rfl
    ·rename_i n39
     have w2:¬hasB ⟨⟨[39,34]⟩⟩ (one (text.cps.getD k 0)):=fun z=>(f3.mp z).elim n39 hdq
     split at hm
     ·rename_i c92
      cases hm
      have w3:hasB ⟨⟨[92]⟩⟩ (one (text.cps.getD k 0)):=f4.mpr c92
      refine ⟨⟨⟨[97]⟩⟩,.inr rfl,(fun _=>rfl),Turn.loop O HR (ar11) rfl (fun τ b tk ρ=>tok_A_esc w.params rv fr ρ τ L X XD S D Q1 Q2 q es nch t text k b tk) (codeT_w ..) (codeT_q ..) (fun ρ sz=>⟨?_,fun tr=>rfl,?_⟩) HV⟩
      ·repeat' (first | exact c0 | refine cC ?_ ?_)
       all_goals assumption
      ·dsimp only [svM,nextT,nextQ]
       rw [if_neg n39,if_pos c92,c92]
       rfl
     ·rename_i n92
      cases hm
      have w3:¬hasB ⟨⟨[92]⟩⟩ (one (text.cps.getD k 0)):=fun z=>n92 (f4.mp z)
      by_cases wd:hasB wordS (one (text.cps.getD k 0))
      ·refine ⟨es,.inl rfl,(fun z=>by cases z),Turn.loop O HR (ar11) rfl (fun τ b tk ρ=>tok_A_word w.params rv fr ρ τ L X XD S D Q1 Q2 q es nch t text k b tk) (codeT_w ..) (codeT_q ..) (fun ρ sz=>⟨?_,fun tr=>rfl,?_⟩) HV⟩
       ·repeat' (first | exact c0 | refine cC ?_ ?_)
        all_goals assumption
       ·dsimp only [svM,nextT,nextQ]
        rw [if_neg n39,if_neg n92]
      ·refine ⟨es,.inl rfl,(fun z=>by cases z),Turn.loop O HR (ar11) rfl (fun τ b tk ρ=>tok_A_other w.params rv fr ρ τ L X XD S D Q1 Q2 q es nch t text k b tk) (codeT_w ..) (codeT_q ..) (fun ρ sz=>⟨?_,fun tr=>rfl,?_⟩) HV⟩
       ·repeat' (first | exact c0 | refine cC ?_ ?_)
        all_goals assumption
       ·dsimp only [svM,nextT,nextQ]
        rw [if_neg n39,if_neg n92]
 | Q=>
   simp only [nextM] at hm
   split at hm
   ·rename_i c39
    cases hm
    have w1:one (text.cps.getD k 0)=⟨⟨[39]⟩⟩:=by rw [c39];rfl
    refine ⟨es,.inl rfl,(fun z=>by cases z),Turn.loop O HR (ar11) rfl (fun τ b tk ρ=>tok_Q_close w.params rv fr ρ τ L X XD S D Q1 Q2 q es nch t text k b tk) (codeT_w ..) (codeT_q ..) (fun ρ sz=>⟨?_,fun tr=>rfl,?_⟩) HV⟩
    ·repeat' (first | exact c0 | refine cC ?_ ?_)
     all_goals assumption
    ·dsimp only [svM,nextT,nextQ]
     rw [if_pos c39]
   ·rename_i n39
    cases hm
    have w1:¬one (text.cps.getD k 0)=⟨⟨[39]⟩⟩:=fun z=>n39 (one_inj.mp (z.trans rfl))
    by_cases c92:text.cps.getD k 0=92
    ·have w3:hasB ⟨⟨[92]⟩⟩ (one (text.cps.getD k 0)):=f4.mpr c92
     refine ⟨es,.inl rfl,(fun z=>by cases z),Turn.loop O HR (ar11) rfl (fun τ b tk ρ=>tok_Q_esc w.params rv fr ρ τ L X XD S D Q1 Q2 q es nch t text k b tk) (codeT_w ..) (codeT_q ..) (fun ρ sz=>⟨?_,fun tr=>rfl,?_⟩) HV⟩
     ·repeat' (first | exact c0 | refine cC ?_ ?_)
      all_goals assumption
     ·dsimp only [svM,nextT,nextQ]
      rw [if_neg n39]
    ·have w3:¬hasB ⟨⟨[92]⟩⟩ (one (text.cps.getD k 0)):=fun z=>c92 (f4.mp z)
     refine ⟨es,.inl rfl,(fun z=>by cases z),Turn.loop O HR (ar11) rfl (fun τ b tk ρ=>tok_Q_other w.params rv fr ρ τ L X XD S D Q1 Q2 q es nch t text k b tk) (codeT_w ..) (codeT_q ..) (fun ρ sz=>⟨?_,fun tr=>rfl,?_⟩) HV⟩
     ·repeat' (first | exact c0 | refine cC ?_ ?_)
      all_goals assumption
     ·dsimp only [svM,nextT,nextQ]
      rw [if_neg n39]
 | E=>
   cases hm
   obtain rfl:=hes rfl
   refine ⟨⟨⟨[97]⟩⟩,.inl rfl,(fun z=>rfl),Turn.loop O HR (ar11) rfl (fun τ b tk ρ=>tok_E_any w.params rv fr ρ τ L X XD S D Q1 Q2 q nch nch t text k b tk) (codeT_w ..) (codeT_q ..) (fun ρ sz=>⟨?_,fun tr=>rfl,rfl⟩) HV⟩
   repeat' (first | exact c0 | refine cC ?_ ?_)
   all_goals assumption
theorem tok_good:∀ (l:List Nat) (k:Nat) (m:Md) (q:Bool) (ce:Nat) (nch t:Str) (r:TE),text.cps.toList.drop k=l→okR m l→tkR m q t l=some r→(m= .E→ce=97)→0 < r.tok.length→t.length+l.length≤sizeLine→k≤text.length→
 LF B (VR w.params (rules3 w.params) rv fr) w (codeT w.params L) (stTok w.params L X XD S D Q1 Q2 q (one ce) nch (svM m) t text k) (fun x T b=>x= .ok .next∧∃ ce' τ,T=stTok w.params L X XD S D Q1 Q2 r.q (one ce') (if r.e then ⟨⟨[]⟩⟩ else one 32) (if r.e then fun _=>.none else fun t=>.str ⟨⟨[32]⟩⟩ t) r.tok text (text.length - r.l.length) τ):=by
 have HR:=rules3_ok (B:=B+52) hB (V:=VR w.params (rules3 w.params) rv fr) (w:=w) rfl rfl
 have O:=VR_ok w (rules3 w.params) rv fr
 intro l
 induction l with
 | nil=>
   intro k m q ce nch t r hd hok ht' he hpos hl hkl
   have hk:k=text.length:=by
    have:text.cps.toList.length≤k:=List.drop_eq_nil_iff.mp hd
    have e:text.cps.toList.length=text.length:=Array.length_toList
    lia
   cases m with
   | Q=>cases ht'
   | E=>cases ht'
   | A=>
     cases ht'
     refine LF.loop O HR (ar11) rfl (fun τ b tk ρ=>tok_A_end w.params rv fr ρ τ L X XD S D Q1 Q2 q (one ce) nch t text k b tk) (codeT_w ..) (fun ρ sz=>⟨?_,fun hsz tr τ=>?_⟩) HV
     ·have g1:(⟨⟨[]⟩⟩:Str).length < 2 ^ 63:=by decide
      have g2:(⟨⟨[]⟩⟩:Str).length=0:=rfl
      have g3:=tup_fact
      have g4:¬(⟨⟨[]⟩⟩:Str)=⟨⟨[10]⟩⟩:=by decide
      repeat' (first | exact c0 | refine cC ?_ ?_)
      all_goals assumption
     ·refine ⟨rfl,ce,τ,?_⟩
      show _=stTok w.params L X XD S D Q1 Q2 q (one ce) ⟨⟨[]⟩⟩ (fun _=>.none) t text (text.length - 0) τ
      rw [Nat.sub_zero,←hk]
 | cons c l ih=>
   intro k m q ce nch t r hd hok ht' he hpos hl hkl
   obtain ⟨hk0,hc0,hd'⟩:=drop_cons hd
   have hk:k < text.length:=by
    have e:text.cps.toList.length=text.length:=Array.length_toList
    exact ar43
   have hc:text.cps.getD k 0=c:=by rw [getD_list];exact hc0
   have hl2:t.length+1≤sizeLine:=by simp only [List.length_cons] at hl;exact ar24'
   have go:∀ m',nextM m c=some m'→c∈alph→(m= .A→c≠34)→okR m' l→tkR m' (nextQ m q) (nextT m t c) l=some r→
    LF B (VR w.params (rules3 w.params) rv fr) w (codeT w.params L) (stTok w.params L X XD S D Q1 Q2 q (one ce) nch (svM m) t text k) (fun x T b=>x= .ok .next∧∃ ce' τ,T=stTok w.params L X XD S D Q1 Q2 r.q (one ce') (if r.e then ⟨⟨[]⟩⟩ else one 32) (if r.e then fun _=>.none else fun t=>.str ⟨⟨[32]⟩⟩ t) r.tok text (text.length - r.l.length) τ):=by
    intro m' hm ha hdq hok' htr
    obtain ⟨es',h1,h2,h3⟩:=tok_turn hB rv fr HV L X XD S D Q1 Q2 text ht k m m' q (one ce) nch t c hk hc ha hdq hm (fun z=>by rw [he z];rfl) hl2
    obtain ⟨ce',hce,hce2⟩:∃ ce',es'=one ce'∧(m'= .E→ce'=97):=by
     rcases h1 with rfl | rfl
     ·exact ⟨ce,rfl,fun z=>one_inj.mp (h2 z)⟩
     ·exact ⟨97,rfl,fun _=>rfl⟩
    subst hce
    refine h3.lf (ih (k+1) m' (nextQ m q) ce' (one c) (nextT m t c) r hd' hok' htr hce2 hpos ?_ (ar16))
    have:(nextT m t c).length≤t.length+1:=by
     unfold nextT
     repeat' split
     all_goals first | (rw [len_app];exact Nat.le_refl _) | exact Nat.le_succ _
    simp only [List.length_cons] at hl
    exact ar25
   cases m with
   | A=>
     obtain ⟨ha,hdq,hok⟩:=hok
     unfold tkR at ht'
     by_cases c32:c=32
     ·rw [if_pos c32] at ht'
      cases ht'
      obtain ⟨f1,f2,f3,f4,f5,f6⟩:=sgn_facts c ha
      subst hc
      refine LF.loop O HR (ar11) rfl (fun τ b tk ρ=>tok_A_blank w.params rv fr ρ τ L X XD S D Q1 Q2 q (one ce) nch t text k b tk) (codeT_w ..) (fun ρ sz=>⟨?_,fun hsz tr τ=>?_⟩) HV
      ·have g0:t.length≠0:=Nat.ne_of_gt hpos
       have g00:t.length < 2 ^ 63:=sizeLine_lt (ar12)
       have g1:=one_lt (text.cps.getD k 0)
       have g2:=one_ne (text.cps.getD k 0)
       have g3:=tup_fact
       have g4:=f1.mpr c32
       repeat' (first | exact c0 | refine cC ?_ ?_)
       all_goals assumption
      ·refine ⟨rfl,ce,τ,?_⟩
       have e1:text.length - l.length=k+1:=by
        have:=congrArg List.length hd
        rw [List.length_drop,List.length_cons] at this
        have e:text.cps.toList.length=text.length:=Array.length_toList
        rw [e] at this
        exact ar68
       show _=stTok w.params L X XD S D Q1 Q2 q (one ce) (one 32) (fun t=>.str ⟨⟨[32]⟩⟩ t) t text (text.length - l.length) τ
       rw [e1]
       dsimp only
       rw [c32]
     ·rw [if_neg c32] at ht' hok
      by_cases c39:c=39
      ·rw [if_pos c39] at ht' hok
       exact go .Q (by simp only [nextM];rw [if_neg c32,if_pos c39]) ha (fun _=>hdq) hok (by simp only [nextT,nextQ];rw [if_pos c39];exact ht')
      ·rw [if_neg c39] at ht' hok
       by_cases c92:c=92
       ·rw [if_pos c92] at ht' hok
        exact go .E (by simp only [nextM];rw [if_neg c32,if_neg c39,if_pos c92]) ha (fun _=>hdq) hok (by simp only [nextT,nextQ];rw [if_neg c39,if_pos c92];exact ht')
       ·rw [if_neg c92] at ht' hok
        exact go .A (by simp only [nextM];rw [if_neg c32,if_neg c39,if_neg c92]) ha (fun _=>hdq) hok (by simp only [nextT,nextQ];rw [if_neg c39,if_neg c92];exact ht')
   | Q=>
     obtain ⟨ha,hok⟩:=hok
     unfold tkR at ht'
     by_cases c39:c=39
     ·rw [if_pos c39] at ht' hok
      exact go .A (by simp only [nextM];rw [if_pos c39]) ha (fun z=>by cases z) hok (by simp only [nextT,nextQ];rw [if_pos c39];exact ht')
     ·rw [if_neg c39] at ht' hok
      exact go .Q (by simp only [nextM];rw [if_neg c39]) ha (fun z=>by cases z) hok (by simp only [nextT,nextQ];rw [if_neg c39];exact ht')
   | E=>
     obtain ⟨ha,hok⟩:=hok
     exact go .A rfl ha (fun z=>by cases z) hok ht'
end
section
variable {B:Nat} {w:World} (hB:B+52≤700) (rv:Nat→Option ERuleV)
 (L X XD S D Q1 Q2:Nat) (L2 L3 L4 L5 L6:Nat) (es2 es3 es4 es5 es6:List DictEntry) (n2 n3 n4 n5 n6:Nat) (HV:∀ i R,rv i=some R→RuleVOk (B+52) (VR w.params (rules3 w.params) rv (some (envF (o822 w.params) 822 L::outerE w.params L2 L3 L4 L5 L6))) pw_il0098_01 w R) (text:Str) (ht:text.length≤sizeLine)
include hB HV ht
theorem tok_bad:∀ (l:List Nat) (k:Nat) (m:Md) (q:Bool) (ce:Nat) (nch t:Str),text.cps.toList.drop k=l→okR m l→tkR m q t l=none→(m= .E→ce=97)→t.length+l.length≤sizeLine→k≤text.length→
 LF B (VR w.params (rules3 w.params) rv (some (envF (o822 w.params) 822 L::outerE w.params L2 L3 L4 L5 L6))) w (codeT w.params L) (fun τ=>stTok w.params L X XD S D Q1 Q2 q (one ce) nch (svM m) t text k τ++outerC L2 L3 L4 L5 L6 es2 es3 es4 es5 es6 n2 n3 n4 n5 n6)
  (fun x T b=>∃ a a0 tb v,x= .error (.ref a)∧T=(a,excO "ValueError" a0 tb)::(tb,tbO .none L v)::outerR w.params L2 L3 L4 L5 L6 es2 es3 es4 es5 es6 n2 n3 n4 n5 n6 (v 6)):=by
 have HR:=rules3_ok (B:=B+52) hB (V:=VR w.params (rules3 w.params) rv (some (envF (o822 w.params) 822 L::outerE w.params L2 L3 L4 L5 L6))) (w:=w) rfl rfl
 have O:=VR_ok w (rules3 w.params) rv (some (envF (o822 w.params) 822 L::outerE w.params L2 L3 L4 L5 L6))
 intro l
 induction l with
 | nil=>
   intro k m q ce nch t hd hok ht' he hl hkl
   have hk:k=text.length:=by
    have:text.cps.toList.length≤k:=List.drop_eq_nil_iff.mp hd
    have e:text.cps.toList.length=text.length:=Array.length_toList
    lia
   cases m with
   | A=>cases ht'
   | E=>exact hok.elim
   | Q=>
     refine LF.loopR O HR (ar11) rfl (fun τ b tk ρ=>tok_Q_end w.params rv ρ τ L X XD S D Q1 Q2 L2 L3 L4 L5 L6 es2 es3 es4 es5 es6 n2 n3 n4 n5 n6 q (one ce) nch t text k b tk) (codeT_w ..) (fun ρ sz=>⟨?_,fun hsz tr τ=>?_⟩) HV
     ·have g1:(⟨⟨[]⟩⟩:Str).length < 2 ^ 63:=by decide
      have g2:(⟨⟨[]⟩⟩:Str).length=0:=rfl
      have g4:¬(⟨⟨[]⟩⟩:Str)=⟨⟨[10]⟩⟩:=by decide
      repeat' (first | exact c0 | refine cC ?_ ?_)
      all_goals assumption
     ·exact ⟨_,_,_,ρ.v 4,rfl,rfl⟩
 | cons c l ih=>
   intro k m q ce nch t hd hok ht' he hl hkl
   obtain ⟨hk0,hc0,hd'⟩:=drop_cons hd
   have hk:k < text.length:=by
    have e:text.cps.toList.length=text.length:=Array.length_toList
    exact ar43
   have hc:text.cps.getD k 0=c:=by rw [getD_list];exact hc0
   have hl2:t.length+1≤sizeLine:=by simp only [List.length_cons] at hl;exact ar24'
   have go:∀ m',nextM m c=some m'→c∈alph→(m= .A→c≠34)→okR m' l→tkR m' (nextQ m q) (nextT m t c) l=none→
    LF B (VR w.params (rules3 w.params) rv (some (envF (o822 w.params) 822 L::outerE w.params L2 L3 L4 L5 L6))) w (codeT w.params L) (fun τ=>stTok w.params L X XD S D Q1 Q2 q (one ce) nch (svM m) t text k τ++outerC L2 L3 L4 L5 L6 es2 es3 es4 es5 es6 n2 n3 n4 n5 n6)
     (fun x T b=>∃ a a0 tb v,x= .error (.ref a)∧T=(a,excO "ValueError" a0 tb)::(tb,tbO .none L v)::outerR w.params L2 L3 L4 L5 L6 es2 es3 es4 es5 es6 n2 n3 n4 n5 n6 (v 6)):=by
    intro m' hm ha hdq hok' htr
    obtain ⟨es',h1,h2,h3⟩:=tok_turn hB rv _ HV L X XD S D Q1 Q2 text ht k m m' q (one ce) nch t c hk hc ha hdq hm (fun z=>by rw [he z];rfl) hl2
    obtain ⟨ce',hce,hce2⟩:∃ ce',es'=one ce'∧(m'= .E→ce'=97):=by
     rcases h1 with rfl | rfl
     ·exact ⟨ce,rfl,fun z=>one_inj.mp (h2 z)⟩
     ·exact ⟨97,rfl,fun _=>rfl⟩
    subst hce
    refine (h3.frame (outerC L2 L3 L4 L5 L6 es2 es3 es4 es5 es6 n2 n3 n4 n5 n6)).lf (ih (k+1) m' (nextQ m q) ce' (one c) (nextT m t c) hd' hok' htr hce2 ?_ (ar16))
    have:(nextT m t c).length≤t.length+1:=by
     unfold nextT
     repeat' split
     all_goals first | (rw [len_app];exact Nat.le_refl _) | exact Nat.le_succ _
    simp only [List.length_cons] at hl
    exact ar25
   cases m with
   | A=>
     obtain ⟨ha,hdq,hok⟩:=hok
     unfold tkR at ht'
     by_cases c32:c=32
     ·rw [if_pos c32] at ht'
      cases ht'
     ·rw [if_neg c32] at ht' hok
      by_cases c39:c=39
      ·rw [if_pos c39] at ht' hok
       exact go .Q (by simp only [nextM];rw [if_neg c32,if_pos c39]) ha (fun _=>hdq) hok (by simp only [nextT,nextQ];rw [if_pos c39];exact ht')
      ·rw [if_neg c39] at ht' hok
       by_cases c92:c=92
       ·rw [if_pos c92] at ht' hok
        exact go .E (by simp only [nextM];rw [if_neg c32,if_neg c39,if_pos c92]) ha (fun _=>hdq) hok (by simp only [nextT,nextQ];rw [if_neg c39,if_pos c92];exact ht')
       ·rw [if_neg c92] at ht' hok
        exact go .A (by simp only [nextM];rw [if_neg c32,if_neg c39,if_neg c92]) ha (fun _=>hdq) hok (by simp only [nextT,nextQ];rw [if_neg c39,if_neg c92];exact ht')
   | Q=>
     obtain ⟨ha,hok⟩:=hok
     unfold tkR at ht'
     by_cases c39:c=39
     ·rw [if_pos c39] at ht' hok
      exact go .A (by simp only [nextM];rw [if_pos c39]) ha (fun z=>by cases z) hok (by simp only [nextT,nextQ];rw [if_pos c39];exact ht')
     ·rw [if_neg c39] at ht' hok
      exact go .Q (by simp only [nextM];rw [if_neg c39]) ha (fun z=>by cases z) hok (by simp only [nextT,nextQ];rw [if_neg c39];exact ht')
   | E=>
     obtain ⟨ha,hok⟩:=hok
     exact go .A rfl ha (fun z=>by cases z) hok ht'
end
end
section
open PySem.Calls
open Sem (wp)
noncomputable def seqO (ty:String) (vs:List Value) (n:Nat):Obj:=⟨.type ty,none,.seq ⟨vs⟩ n,⟨[]⟩⟩
noncomputable def itemsO (name:String) (o:Obj):Option (List Value×Nat):=match o with
 | ⟨.type ty,none,.seq vs n,sl⟩=>match Nat.beq (PySem.code ty) (PySem.code name) with
   | true=>match sl.toList with
     | []=>some (vs.toList,n)
     | _::_=>none
   | false=>none
 | _=>none
theorem itemsO_spec {name:String} {o:Obj} {r} (h:itemsO name o=some r):o=seqO name r.1 r.2:=by
 obtain ⟨c,d,dt,sl⟩:=o
 unfold itemsO at h
 split at h
 ·rename_i ty vs n sl' heq
  cases heq
  cases hc:Nat.beq (PySem.code ty) (PySem.code name) with
  | false=>rw [hc] at h;cases h
  | true=>
    rw [hc] at h
    obtain rfl:ty=_:=code_inj _ _ (Nat.eq_of_beq_eq_true hc)
    dsimp only at h
    split at h
    ·rename_i hsl
     cases h
     obtain ⟨l⟩:=vs
     obtain ⟨s⟩:=sl
     simp only at hsl
     subst hsl
     rfl
    ·cases h
 ·cases h
noncomputable def AllS (vs:List Value):Prop:=∀ v∈vs,∃ s t,v= .str s t
noncomputable def txs (vs:List Value):List Str:=vs.map sOf
theorem AllS.nil:AllS []:=fun _ h=>nomatch h
theorem AllS.cons {s:Str} {t:Tok} {vs:List Value} (h:AllS vs):AllS (.str s t::vs):=fun v hv=>by
 rcases List.mem_cons.mp hv with rfl | hv
 ·exact ⟨s,t,rfl⟩
 ·exact h v hv
theorem AllS.append {a b:List Value} (h:AllS a) (k:AllS b):AllS (a++b):=fun v hv=>(List.mem_append.mp hv).elim (h v) (k v)
theorem AllS.sub {a b:List Value} (h:AllS b) (k:∀ v∈a,v∈b):AllS a:=fun v hv=>h v (k v hv)
theorem AllS.vals:∀ {vs:List Value},AllS vs→vs=strValues (vs.map fun v=>(sOf v,tokV v))
 | [],_=>rfl
 | v::vs,h=>by
   obtain ⟨s,t,rfl⟩:=h v (List.mem_cons_self ..)
   have:=AllS.vals (vs:=vs) (fun x hx=>h x (List.mem_cons_of_mem _ hx))
   show Value.str s t::vs=Value.str s t::strValues _
   rw [←this]
theorem AllS.strsFrom:∀ (l:List Str) (t:Nat),AllS (strsFrom t l)
 | [],_=>.nil
 | x::l,t=>.cons (AllS.strsFrom l (t+1))
theorem txs_strsFrom:∀ (l:List Str) (t:Nat),txs (strsFrom t l)=l
 | [],_=>rfl
 | x::l,t=>by show x::txs (strsFrom (t+1) l)=_;rw [txs_strsFrom l]
theorem txs_append (a b:List Value):txs (a++b)=txs a++txs b:=List.map_append ..
theorem rep_back {V:RV} {h₀:Fr} {h:Heap} {T:List Cell} {sz:Nat} (D:Rep V h₀ h T sz) (hs:913≤sz):Rep V h₀ h T (sz - 900+900):=by
 rw [show sz - 900+900=sz by exact ar1];exact D
noncomputable def appS (js:List Nat) (args:List Value) (T:List Cell):Option EOut:=match args with
 | [.ref l,v]=>match js with
   | j::_=>(T[j]?).bind fun c=>(itemsO "list" c.2).bind fun r=>some ⟨[(.nat l,.nat c.1)],[r.1.length < sizeLine],fun b _ u=>(.ok (.ret .none),T.set j (c.1,seqO "list" (r.1++[v]) (u 0)))⟩
   | []=>none
 | _=>none
noncomputable abbrev appR:ERule:=mkH "list.append" appS
theorem mapSeq_push (vs:List Value) (n:Nat) (v:Value):∃ n',Obj.mapSeq (·.push v) (seqO "list" vs n)=seqO "list" (vs++[v]) n':=⟨_,by simp [Obj.mapSeq,seqO];rfl⟩
theorem appR_ok {B:Nat} {V:RV} {w:World}:RuleOk B V pw_il0098_01 w appR:=mkH_ok (by
 intro js args T eo he h1 h2 A h₀ h sz g dr tok os hA hd D hsz
 unfold appS at he
 split at he
 ·rename_i l v
  split at he
  ·rename_i j js
   replace he:=bndE he;obtain ⟨c,hT,he⟩:=he
   replace he:=bndE he;obtain ⟨r,hr,he⟩:=he
   cases he
   obtain rfl:l=c.1:=Side.nat.inj (h1 _ (.head _))
   have hl:r.1.length < sizeLine:=h2 _ (.head _)
   have hc:=D.own _ _ hT
   have ho:=itemsO_spec hr
   rw [ho] at hc
   have key:∀ R:Result→Shared→Prop,R (.ok (.ret .none)) ⟨h.update c.1 (Obj.mapSeq fun x_1=>x_1.push v),g,dr,tok,os⟩→codeAny (MM w) A (.call (.builtin "list.append") ⟨[.ref c.1,v],[]⟩) R ⟨h,g,dr,tok,os⟩:=by
    intro R hR
    refine codeAny_call_builtin PySem.F.slot_list_append.plain PySem.F.entry_list_append (PySem.F.slot_list_append.check _ _ _ _ _ _ _ _ ⟨_,hc,rfl⟩ (PySem.F.args_list_append_2 _ _) ?_)
    exact AutoListH.list_append_list_val_0 c.1 ⟨r.1⟩ r.2 v (by show r.1.length≤_;exact ar51) _ w A R ⟨h,g,dr,tok,os⟩ ⟨hc,hR⟩
   have D2:=D.update (f:=Obj.mapSeq fun x_1=>x_1.push v) hT (by rw [ho];rfl)
   obtain ⟨n',hn'⟩:=mapSeq_push r.1 r.2 v
   rw [ho,hn'] at D2
   exact key _ ⟨sz - 900,tok,fun _=>n',g,rfl,rep_back D2 hsz,ar2,GR.refl _ _,rfl⟩
  ·cases he
 ·cases he)
noncomputable def popS (js:List Nat) (args:List Value) (T:List Cell):Option EOut:=match args with
 | [.ref l]=>match js with
   | j::_=>(T[j]?).bind fun c=>(itemsO "list" c.2).bind fun r=>some ⟨[(.nat l,.nat c.1)],[r.1.getLast? =some (.str (sOf (r.1.getLastD .none)) (tokV (r.1.getLastD .none))),r.1.length≤sizeLine],fun b _ u=>(.ok (.ret (.str (sOf (r.1.getLastD .none)) (tokV (r.1.getLastD .none)))),T.set j (c.1,seqO "list" r.1.dropLast (u 0)))⟩
   | []=>none
 | _=>none
noncomputable def llenS (js:List Nat) (args:List Value) (T:List Cell):Option EOut:=match args with
 | [.ref l]=>match js with
   | j::d=>(T[j]?).bind fun c=>(itemsO "list" c.2).bind fun r=>match d with
     | []=>some ⟨[(.nat l,.nat c.1)],[],fun b _ u=>(.ok (.ret (.int (r.1.length:Int) (u 0))),T)⟩
     | 0::_=>some ⟨[(.nat l,.nat c.1)],[r.1=[]],fun b _ u=>(.ok (.ret (.int 0 (u 0))),T)⟩
     | (_+1)::_=>some ⟨[(.nat l,.nat c.1)],[r.1≠[]],fun b _ u=>(.ok (.ret (.int (Int.ofNat (Nat.succ (r.1.length - 1))) (u 0))),T)⟩
   | []=>none
 | _=>none
noncomputable abbrev llenR:ERule:=mkH "list.__len__" llenS
theorem llenR_ok {B:Nat} {V:RV} {w:World}:RuleOk B V pw_il0098_01 w llenR:=mkH_ok (by
 intro js args T eo he h1 h2 A h₀ h sz g dr tok os hA hd D hsz
 unfold llenS at he
 split at he
 ·rename_i l
  split at he
  ·rename_i j d
   replace he:=bndE he;obtain ⟨c,hT,he⟩:=he
   replace he:=bndE he;obtain ⟨r,hr,he⟩:=he
   have hc:=D.own _ _ hT
   have ho:=itemsO_spec hr
   rw [ho] at hc
   have key:∀ R:Result→Shared→Prop,(∀ u k,R (.ok (.ret (.int (r.1.length:Int) u))) ⟨h,g,dr,k,os⟩)→codeAny (MM w) A (.call (.builtin "list.__len__") ⟨[.ref c.1],[]⟩) R ⟨h,g,dr,tok,os⟩:=by
    intro R hR
    refine codeAny_call_builtin PySem.F.slot_list_len.plain PySem.F.entry_list_len (PySem.F.slot_list_len.check _ _ _ _ _ _ _ _ ⟨_,hc,rfl⟩ (PySem.F.args_list_len_1 _) ?_)
    exact AutoListH.list___len___list_0 c.1 ⟨r.1⟩ r.2 _ w A _ ⟨h,g,dr,tok,os⟩ ⟨hc,hR _ _⟩
   split at he
   ·cases he
    obtain rfl:l=c.1:=Side.nat.inj (h1 _ (.head _))
    exact key _ fun u k=>⟨sz - 900,k,fun _=>u,g,rfl,rep_back D hsz,ar2,GR.refl _ _,rfl⟩
   ·cases he
    obtain rfl:l=c.1:=Side.nat.inj (h1 _ (.head _))
    have hz:r.1=[]:=h2 _ (.head _)
    rw [hz] at key
    exact key _ fun u k=>⟨sz - 900,k,fun _=>u,g,rfl,rep_back D hsz,ar2,GR.refl _ _,rfl⟩
   ·cases he
    obtain rfl:l=c.1:=Side.nat.inj (h1 _ (.head _))
    have hz:r.1≠[]:=h2 _ (.head _)
    have e:r.1.length=Nat.succ (r.1.length - 1):=by
     have:=List.length_pos_iff.mpr hz
     exact ar76
    refine key _ fun u k=>⟨sz - 900,k,fun _=>u,g,?_,rep_back D hsz,ar2,GR.refl _ _,rfl⟩
    show Except.ok (Flow.ret (Value.int (Int.ofNat (Nat.succ (r.1.length - 1))) u))=Except.ok (Flow.ret (Value.int (Int.ofNat r.1.length) u))
    rw [←e]
  ·cases he
 ·cases he)
noncomputable def laddS (js:List Nat) (args:List Value) (T:List Cell):Option EOut:=match args with
 | [.ref a,.ref b]=>match js with
   | j::k::_=>(T[j]?).bind fun c=>(itemsO "list" c.2).bind fun r=>(T[k]?).bind fun c'=>(itemsO "list" c'.2).bind fun r'=>
      some ⟨[(.nat a,.nat c.1),(.nat b,.nat c'.1)],[r.1.length+r'.1.length≤sizeLine],fun b _ u=>(.ok (.ret (.ref (b+899))),(b+899,seqO "list" (r.1++r'.1) 0)::T)⟩
   | _=>none
 | _=>none
noncomputable abbrev laddR:ERule:=mkH "list.__add__" laddS
theorem laddR_ok {B:Nat} {V:RV} {w:World}:RuleOk B V pw_il0098_01 w laddR:=mkH_ok (by
 intro js args T eo he h1 h2 A h₀ h sz g dr tok os hA hd D hsz
 unfold laddS at he
 split at he
 ·rename_i a b
  split at he
  ·rename_i j k js
   replace he:=bndE he;obtain ⟨c,hT,he⟩:=he
   replace he:=bndE he;obtain ⟨r,hr,he⟩:=he
   replace he:=bndE he;obtain ⟨c',hT',he⟩:=he
   replace he:=bndE he;obtain ⟨r',hr',he⟩:=he
   cases he
   obtain rfl:a=c.1:=Side.nat.inj (h1 _ (.head _))
   obtain rfl:b=c'.1:=Side.nat.inj (h1 _ (.tail _ (.head _)))
   have hl:r.1.length+r'.1.length≤sizeLine:=h2 _ (.head _)
   have hc:=D.own _ _ hT
   have hc':=D.own _ _ hT'
   rw [itemsO_spec hr] at hc
   rw [itemsO_spec hr'] at hc'
   have e:(⟨r.1⟩++⟨r'.1⟩:Array Value)=⟨r.1++r'.1⟩:=by simp
   have key:∀ R:Result→Shared→Prop,R (.ok (.ret (.ref h.objs.size))) ⟨h.push (seqO "list" (r.1++r'.1) 0),g,dr,tok,os⟩→codeAny (MM w) A (.call (.builtin "list.__add__") ⟨[.ref c.1,.ref c'.1],[]⟩) R ⟨h,g,dr,tok,os⟩:=by
    intro R hR
    refine codeAny_call_builtin PySem.F.slot_list_add.plain PySem.F.entry_list_add (PySem.F.slot_list_add.check _ _ _ _ _ _ _ _ ⟨_,hc,rfl⟩ (PySem.F.args_list_add_2 _ _) ?_)
    refine list_addW c.1 c'.1 ⟨r.1⟩ ⟨r'.1⟩ r.2 r'.2 none none ⟨[]⟩ ⟨[]⟩ hl _ w A R ⟨h,g,dr,tok,os⟩ ⟨hc,hc',?_⟩
    rw [e];exact hR
   have D2:=D.alloc (x:=seqO "list" (r.1++r'.1) 0) rfl
   refine key _ ⟨sz+1 - 900,tok,fun _=>0,g,?_,?_,ar4,GR.refl _ _,rfl⟩
   ·show Except.ok (Flow.ret (Value.ref (sz+1 - 900+899)))=Except.ok (Flow.ret (Value.ref h.objs.size))
    rw [D.size,show sz+1 - 900+899=sz by exact ar5]
   ·rw [show sz+1 - 900+900=sz+1 by exact ar3]
    show Rep V h₀ _ ((sz+1 - 900+899,_)::T) _
    rw [show sz+1 - 900+899=sz by exact ar5]
    exact D2
  ·cases he
 ·cases he)
noncomputable def itOf (name:String) (o:Obj):Option (Nat×Int×Tok):=match o with
 | ⟨.type ty,_,.fields vs,_⟩=>match Nat.beq (PySem.code ty) (PySem.code name) with
   | true=>match vs.toList with
     | [.ref s,.int i z]=>some (s,i,z)
     | _=>none
   | false=>none
 | _=>none
theorem itOf_spec {name:String} {o:Obj} {r} (h:itOf name o=some r):o.cls= .type name∧o.data= .fields #[.ref r.1,.int r.2.1 r.2.2]:=by
 obtain ⟨c,d,dt,sl⟩:=o
 unfold itOf at h
 split at h
 ·rename_i ty d' vs sl' heq
  cases heq
  cases hc:Nat.beq (PySem.code ty) (PySem.code name) with
  | false=>rw [hc] at h;cases h
  | true=>
    rw [hc] at h
    obtain rfl:ty=_:=code_inj _ _ (Nat.eq_of_beq_eq_true hc)
    dsimp only at h
    split at h
    ·rename_i s i z hv
     cases h
     obtain ⟨l⟩:=vs
     simp only at hv
     subst hv
     exact ⟨rfl,rfl⟩
    ·cases h
 ·cases h
noncomputable abbrev vAtI (vs:List Value) (i:Int):Value:=vs.getD i.toNat .none
noncomputable def seqNextS (itn ln:String) (js:List Nat) (args:List Value) (T:List Cell):Option EOut:=match args with
 | [.ref it]=>match js with
   | [j,k,d]=>(T[j]?).bind fun x=>(itOf itn x.2).bind fun r=>(T[k]?).bind fun y=>(itemsO ln y.2).bind fun q=>match d with
     | 0=>some ⟨[(.nat it,.nat x.1),(.nat r.1,.nat y.1)],[q.1[r.2.1.toNat]? =none],fun b t u=>(.error (.ref (b+899)),excCells b "StopIteration"++T.set j (x.1,Obj.mapFields (·.setIfInBounds 0 .none) x.2))⟩
     | _+1=>some ⟨[(.nat it,.nat x.1),(.nat r.1,.nat y.1)],[q.1[r.2.1.toNat]? =some (.str (sOf (vAtI q.1 r.2.1)) (tokV (vAtI q.1 r.2.1)))],fun b t u=>(.ok (.ret (.str (sOf (vAtI q.1 r.2.1)) (tokV (vAtI q.1 r.2.1)))),T.set j (x.1,Obj.mapFields (·.setIfInBounds 1 (.int (r.2.1+1) 0)) x.2))⟩
   | _=>none
 | _=>none
noncomputable abbrev listNextR:ERule:=mkH "list_iterator.__next__" (seqNextS "list_iterator" "list")
noncomputable abbrev tupNextR:ERule:=mkH "tuple_iterator.__next__" (seqNextS "tuple_iterator" "tuple")
section
variable {B:Nat} {V:RV} {w:World}
theorem listNextR_ok:RuleOk B V pw_il0098_01 w listNextR:=mkH_ok (by
 intro js args T eo he h1 h2 A h₀ h sz g dr tok os hA hd D hsz
 unfold seqNextS at he
 split at he
 ·rename_i it
  split at he
  ·rename_i j k d
   replace he:=bndE he;obtain ⟨x,hT,he⟩:=he
   replace he:=bndE he;obtain ⟨r,hr,he⟩:=he
   replace he:=bndE he;obtain ⟨y,hK,he⟩:=he
   replace he:=bndE he;obtain ⟨q,hq,he⟩:=he
   obtain ⟨hcls,hdat⟩:=itOf_spec hr
   have ho:=itemsO_spec hq
   have hx:=D.own _ _ hT
   have ea:it=x.1∧r.1=y.1:=by
    cases d with
    | zero=>cases he;exact ⟨Side.nat.inj (h1 _ (.head _)),Side.nat.inj (h1 _ (.tail _ (.head _)))⟩
    | succ d=>cases he;exact ⟨Side.nat.inj (h1 _ (.head _)),Side.nat.inj (h1 _ (.tail _ (.head _)))⟩
   obtain ⟨rfl,er⟩:=ea
   rw [er] at hdat
   have hTy:(⟨h,g,dr,tok,os⟩:Shared).TypeIs (.ref x.1) "list_iterator":=⟨x.2,hx,hcls⟩
   refine codeAny_call_builtin slot_listiter_next.plain entry_listiter_next (slot_listiter_next.check _ _ _ _ _ _ _ _ hTy (args_listiter_next _) ?_)
   have hy:=D.own _ _ hK
   rw [ho] at hy
   show wpAny _ _ (field (.ref x.1) 0 >>= _) _ _ _
   refine wpAny_bind (wpAny_field hx hdat (x:=.ref y.1) rfl ?_)
   rw [if_neg (by simp)]
   refine wpAny_bind (wpAny_field hx hdat (x:=.int r.2.1 r.2.2) rfl ?_)
   refine wpAny_bind (wpAny_seqItems hy rfl ?_)
   dsimp only
   cases d with
   | succ d=>
     cases he
     have hv:q.1[r.2.1.toNat]? =some (.str (sOf (vAtI q.1 r.2.1)) (tokV (vAtI q.1 r.2.1))):=h2 _ (.head _)
     have hv':(⟨q.1⟩:Array Value)[r.2.1.toNat]? =some (.str (sOf (vAtI q.1 r.2.1)) (tokV (vAtI q.1 r.2.1))):=by simpa using hv
     rw [hv']
     have D1:=D.update (f:=Obj.mapFields (·.setIfInBounds 1 (.int (r.2.1+1) 0))) hT (mapFields_ok _ hdat)
     exact wpAny_bind (wpAny_setField hx hdat (by simp) (wpAny_pure ⟨sz - 900,tok,fun _=>0,g,rfl,rep_back D1 hsz,by exact ar2,GR.refl _ _,rfl⟩))
   | zero=>
     cases he
     have hv:q.1[r.2.1.toNat]? =none:=h2 _ (.head _)
     have hv':(⟨q.1⟩:Array Value)[r.2.1.toNat]? =none:=by simpa using hv
     rw [hv']
     refine wpAny_bind (wpAny_rule (wpAny_bind (wpAny_setField hx hdat (by simp) ?_)))
     have D1:=D.update (f:=Obj.mapFields (·.setIfInBounds 0 .none)) hT (mapFields_ok _ hdat)
     refine newExc_rule (A:=A.in1) hA D1 fun h' D3=>⟨sz+2 - 900,tok,fun _=>0,g,?_,?_,by exact ar9,GR.refl _ _,rfl⟩
     ·show Except.error (Value.ref (sz+2 - 900+899))=_
      rw [show sz+2 - 900+899=sz+1 by exact ar6]
     ·rw [show sz+2 - 900+900=sz+2 by exact ar8]
      show Rep V h₀ h' (excCells (sz+2 - 900) "StopIteration"++_) _
      unfold excCells
      rw [show sz+2 - 900+899=sz+1 by exact ar6,show sz+2 - 900+898=sz by exact ar7]
      exact D3
  ·cases he
 ·cases he)
theorem args_tupnext (a:Value):argsOk "tuple_iterator.__next__" ⟨[a],[]⟩:=by unfold argsOk;kernel_rfl
theorem tupNextR_ok:RuleOk B V pw_il0098_01 w tupNextR:=mkH_ok (by
 intro js args T eo he h1 h2 A h₀ h sz g dr tok os hA hd D hsz
 unfold seqNextS at he
 split at he
 ·rename_i it
  split at he
  ·rename_i j k d
   replace he:=bndE he;obtain ⟨x,hT,he⟩:=he
   replace he:=bndE he;obtain ⟨r,hr,he⟩:=he
   replace he:=bndE he;obtain ⟨y,hK,he⟩:=he
   replace he:=bndE he;obtain ⟨q,hq,he⟩:=he
   obtain ⟨hcls,hdat⟩:=itOf_spec hr
   have ho:=itemsO_spec hq
   have hx:=D.own _ _ hT
   have ea:it=x.1∧r.1=y.1:=by
    cases d with
    | zero=>cases he;exact ⟨Side.nat.inj (h1 _ (.head _)),Side.nat.inj (h1 _ (.tail _ (.head _)))⟩
    | succ d=>cases he;exact ⟨Side.nat.inj (h1 _ (.head _)),Side.nat.inj (h1 _ (.tail _ (.head _)))⟩
   obtain ⟨rfl,er⟩:=ea
   rw [er] at hdat
   have hTy:(⟨h,g,dr,tok,os⟩:Shared).TypeIs (.ref x.1) "tuple_iterator":=⟨x.2,hx,hcls⟩
   refine codeAny_call_builtin PySem.F.slot_tuple_iterator_next.plain PySem.F.entry_tuple_iterator_next (PySem.F.slot_tuple_iterator_next.check _ _ _ _ _ _ _ _ hTy (args_tupnext _) ?_)
   have hy:=D.own _ _ hK
   rw [ho] at hy
   show wpAny _ _ (field (.ref x.1) 0 >>= _) _ _ _
   refine wpAny_bind (wpAny_field hx hdat (x:=.ref y.1) rfl ?_)
   rw [if_neg (by simp)]
   refine wpAny_bind (wpAny_field hx hdat (x:=.int r.2.1 r.2.2) rfl ?_)
   refine wpAny_bind (wpAny_seqItems hy rfl ?_)
   dsimp only
   cases d with
   | succ d=>
     cases he
     have hv:q.1[r.2.1.toNat]? =some (.str (sOf (vAtI q.1 r.2.1)) (tokV (vAtI q.1 r.2.1))):=h2 _ (.head _)
     have hv':(⟨q.1⟩:Array Value)[r.2.1.toNat]? =some (.str (sOf (vAtI q.1 r.2.1)) (tokV (vAtI q.1 r.2.1))):=by simpa using hv
     rw [hv']
     have D1:=D.update (f:=Obj.mapFields (·.setIfInBounds 1 (.int (r.2.1+1) 0))) hT (mapFields_ok _ hdat)
     exact wpAny_bind (wpAny_setField hx hdat (by simp) (wpAny_pure ⟨sz - 900,tok,fun _=>0,g,rfl,rep_back D1 hsz,by exact ar2,GR.refl _ _,rfl⟩))
   | zero=>
     cases he
     have hv:q.1[r.2.1.toNat]? =none:=h2 _ (.head _)
     have hv':(⟨q.1⟩:Array Value)[r.2.1.toNat]? =none:=by simpa using hv
     rw [hv']
     refine wpAny_bind (wpAny_rule (wpAny_bind (wpAny_setField hx hdat (by simp) ?_)))
     have D1:=D.update (f:=Obj.mapFields (·.setIfInBounds 0 .none)) hT (mapFields_ok _ hdat)
     refine newExc_rule (A:=A.in1) hA D1 fun h' D3=>⟨sz+2 - 900,tok,fun _=>0,g,?_,?_,by exact ar9,GR.refl _ _,rfl⟩
     ·show Except.error (Value.ref (sz+2 - 900+899))=_
      rw [show sz+2 - 900+899=sz+1 by exact ar6]
     ·rw [show sz+2 - 900+900=sz+2 by exact ar8]
      show Rep V h₀ h' (excCells (sz+2 - 900) "StopIteration"++_) _
      unfold excCells
      rw [show sz+2 - 900+899=sz+1 by exact ar6,show sz+2 - 900+898=sz by exact ar7]
      exact D3
  ·cases he
 ·cases he)
end
noncomputable def joinS2 (js:List Nat) (args:List Value) (T:List Cell):Option EOut:=match args with
 | [.str sep t,.ref l]=>match js with
   | j::_=>(T[j]?).bind fun c=>(itemsO "list" c.2).bind fun r=>some ⟨[(.nat l,.nat c.1)],[AllS r.1,Builtin.Str.tooLong ((txs r.1).toArray.foldl (·+·.length+sep.length) 0)=false,(Builtin.Str.glued sep (txs r.1)).length≤sizeLine],
      fun b _ u=>(.ok (.ret (.str (Builtin.Str.glued sep (txs r.1)) (u 0))),T)⟩
   | []=>none
 | _=>none
noncomputable abbrev joinR:ERule:=mkH "str.join" joinS2
theorem glued_one (sep x:Str):Builtin.Str.glued sep [x]=x:=rfl
theorem joinR_ok {B:Nat} {V:RV} {w:World}:RuleOk B V pw_il0098_01 w joinR:=mkH_ok (by
 intro js args T eo he h1 h2 A h₀ h sz g dr tok os hA hd D hsz
 unfold joinS2 at he
 split at he
 ·rename_i sep t l
  split at he
  ·rename_i j js
   replace he:=bndE he;obtain ⟨c,hT,he⟩:=he
   replace he:=bndE he;obtain ⟨r,hr,he⟩:=he
   cases he
   obtain rfl:l=c.1:=Side.nat.inj (h1 _ (.head _))
   have hS:AllS r.1:=h2 _ (.head _)
   have hL:=h2 _ (.tail _ (.head _))
   have hG:=h2 _ (.tail _ (.tail _ (.head _)))
   have hc:=D.own _ _ hT
   have ho:=itemsO_spec hr
   rw [ho] at hc
   have hm:(r.1.map fun v=>(sOf v,tokV v)).map Prod.fst=txs r.1:=by rw [List.map_map];rfl
   have hcs:(joinMade sep (r.1.map fun v=>(sOf v,tokV v)))= .str (Builtin.Str.glued sep (txs r.1))∨∃ k,joinMade sep (r.1.map fun v=>(sOf v,tokV v))= .val (.str (Builtin.Str.glued sep (txs r.1)) k):=by
    match hz:r.1 with
    | []=>exact .inl rfl
    | [v]=>exact .inr ⟨tokV v,rfl⟩
    | v::v2::rest=>
      left
      rw [hz] at hm
      exact congrArg (fun l=>Made.str (Builtin.Str.glued sep l)) hm
   have key:∀ R:Result→Shared→Prop,(∀ u k,R (.ok (.ret (.str (Builtin.Str.glued sep (txs r.1)) u))) ⟨h,g,dr,k,os⟩)→codeAny (MM w) A (.call (.builtin "str.join") ⟨[.str sep t,.ref c.1],[]⟩) R ⟨h,g,dr,tok,os⟩:=by
    intro R hR
    refine codeAny_call_builtin PySem.F.slot_str_join.plain PySem.F.entry_str_join (PySem.F.slot_str_join.check _ _ _ _ _ _ _ _ (typeIs_str _ _ _) (PySem.F.args_str_join_2 _ _) ?_)
    refine meets_str_join_list sep t c.1 (r.1.map fun v=>(sOf v,tokV v)) (by rw [hm];exact hL) _ w A R ⟨h,g,dr,tok,os⟩ ⟨⟨_,hc,rfl,r.2,?_⟩,?_⟩
    ·show Data.seq ⟨r.1⟩ r.2=Data.seq (strValues (r.1.map fun v=>(sOf v,tokV v))).toArray r.2
     rw [←hS.vals]
    ·rcases hcs with e | ⟨k,e⟩
     ·rw [e];exact ⟨hG,hR _ _⟩
     ·rw [e];exact hR _ _
   exact key _ fun u k=>⟨sz - 900,k,fun _=>u,g,rfl,rep_back D hsz,by exact ar2,GR.refl _ _,rfl⟩
  ·cases he
 ·cases he)
open PySem.Builtin.Str in
noncomputable def splitS (x y:Str):List Str:=if (decide (x.length < y.length) || decide (strKind x < strKind y))=true∨(occurrences x y 0 x.length (x.length+1)).isEmpty=true then [x] else partsBetween x (occurrences x y 0 x.length (x.length+1)) y.length
noncomputable def splitS2 (js:List Nat) (args:List Value) (T:List Cell):Option EOut:=match args with
 | [.str x _,.str y _]=>some ⟨[],[y.length≠0,x.length≤sizeLine,(splitS x y).length≤sizeLine],fun b _ u=>(.ok (.ret (.ref (b+899))),(b+899,seqO "list" (strsFrom (u 0) (splitS x y)) 0)::T)⟩
 | _=>none
noncomputable abbrev splitR:ERule:=mkH "str.split" splitS2
theorem splitR_ok {B:Nat} {V:RV} {w:World}:RuleOk B V pw_il0098_01 w splitR:=mkH_ok (by
 intro js args T eo he h1 h2 A h₀ h sz g dr tok os hA hd D hsz
 unfold splitS2 at he
 split at he
 ·rename_i x t y u
  cases he
  have hy:y.length≠0:=h2 _ (.head _)
  have hx:x.length≤sizeLine:=h2 _ (.tail _ (.head _))
  have hp:(splitS x y).length≤sizeLine:=h2 _ (.tail _ (.tail _ (.head _)))
  have hy':(y.length == 0)=false:=by simpa using hy
  have key:∀ R:Result→Shared→Prop,(∀ k tk,R (.ok (.ret (.ref h.objs.size))) ⟨h.push (seqO "list" (strsFrom k (splitS x y)) 0),g,dr,tk,os⟩)→codeAny (MM w) A (.call (.builtin "str.split") ⟨[.str x t,.str y u],[]⟩) R ⟨h,g,dr,tok,os⟩:=by
   intro R hR
   refine codeAny_call_builtin PySem.F.slot_str_split.plain PySem.F.entry_str_split (PySem.F.slot_str_split.check _ _ _ _ _ _ _ _ (typeIs_str _ _ _) (PySem.F.args_str_split_2 _ _) ?_)
   unfold splitS at hR hp
   cases hk:(decide (x.length < y.length) || decide (Builtin.Str.strKind x < Builtin.Str.strKind y)) with
   | true=>
     rw [if_pos (.inl hk)] at hR
     exact meets_str_split_cannot_occur x y t u hk _ w A R ⟨h,g,dr,tok,os⟩ (hR t tok)
   | false=>
     cases hf:(Builtin.Str.occurrences x y 0 x.length (x.length+1)).isEmpty with
     | true=>
       rw [if_pos (.inr hf)] at hR
       exact meets_str_split_not_found x y t u hk hy' hf _ w A R ⟨h,g,dr,tok,os⟩ (hR t tok)
     | false=>
       have hno:¬((decide (x.length < y.length) || decide (Builtin.Str.strKind x < Builtin.Str.strKind y))=true∨(Builtin.Str.occurrences x y 0 x.length (x.length+1)).isEmpty=true):=by rw [hk,hf];simp
       rw [if_neg hno] at hR hp
       exact meets_str_split_sep x y t u hk hy' hf hx hp _ w A R ⟨h,g,dr,tok,os⟩ (hR tok _)
  refine key _ fun k tk=>⟨sz+1 - 900,tk,fun _=>k,g,?_,?_,by exact ar4,GR.refl _ _,rfl⟩
  ·show Except.ok (Flow.ret (Value.ref (sz+1 - 900+899)))=Except.ok (Flow.ret (Value.ref h.objs.size))
   rw [D.size,show sz+1 - 900+899=sz by exact ar5]
  ·rw [show sz+1 - 900+900=sz+1 by exact ar3]
   show Rep V h₀ _ ((sz+1 - 900+899,_)::T) _
   rw [show sz+1 - 900+899=sz by exact ar5]
   exact D.alloc (x:=seqO "list" (strsFrom k (splitS x y)) 0) rfl
 ·cases he)
noncomputable def lgetS (js:List Nat) (args:List Value) (T:List Cell):Option EOut:=match args with
 | [.ref l,.int i t]=>match js with
   | [j,d]=>(T[j]?).bind fun c=>(itemsO "list" c.2).bind fun r=>match d with
     | 0=>some ⟨[(.nat l,.nat c.1)],[i=0,r.1.head? =some (.str (sOf (r.1.headD .none)) (tokV (r.1.headD .none)))],fun b _ u=>(.ok (.ret (.str (sOf (r.1.headD .none)) (tokV (r.1.headD .none)))),T)⟩
     | _+1=>some ⟨[(.nat l,.nat c.1)],[i= -1,r.1.getLast? =some (.str (sOf (r.1.getLastD .none)) (tokV (r.1.getLastD .none)))],fun b _ u=>(.ok (.ret (.str (sOf (r.1.getLastD .none)) (tokV (r.1.getLastD .none)))),T)⟩
   | _=>none
 | _=>none
noncomputable abbrev lgetR:ERule:=mkH "list.__getitem__" lgetS
theorem seq0 {n k:Nat} (h:seqIndex? 0 n=some k):k=0:=by
 unfold seqIndex? at h
 simp only [Int.lt_irrefl,↓reduceIte] at h
 split at h
 ·cases h;rfl
 ·cases h
theorem lget_tree {w:World} {A:Around} {R:Result→Shared→Prop} {s:Shared} {l:Nat} {vs:List Value} {n:Nat} {i:Int} {t:Tok} {v:Value} (hl:s.heap.get? l=some (seqO "list" vs n)) (hf:Builtin.List.listFitsIndex i=true) (hi0:i=0∨i= -1)
 (hi:(seqIndex? i vs.length).bind (fun k=>vs[k]?)=some v) (hR:R (.ok (.ret v)) s):codeAny (MM w) A (.call (.builtin "list.__getitem__") ⟨[.ref l,.int i t],[]⟩) R s:=by
 refine codeAny_call_builtin PySem.F.slot_list_getitem.plain PySem.F.entry_list_getitem (PySem.F.slot_list_getitem.check _ _ _ _ _ _ _ _ ⟨_,hl,rfl⟩ (PySem.F.args_list_getitem_2 _ _) ?_)
 show wpAny _ _ (Builtin.List.listSubscript? (.int i t) >>= _) _ _ s
 refine wpAny_bind (wpAny_listSubscript_int hf ?_)
 obtain ⟨k,hk,hv⟩:=bndE hi
 have e1:(⟨vs⟩:Array Value).size=vs.length:=rfl
 have e2:(⟨vs⟩:Array Value)[k]? =some v:=by simpa using hv
 rcases hi0 with rfl | rfl
 ·obtain rfl:k=0:=seq0 hk
  show wpAny _ _ ((seqItemAt l 0 >>= fun r=>pure (r.map (0,·))) >>= _) _ _ s
  refine wpAny_bind (wpAny_bind (wpAny_seqItemAt hl rfl (wpAny_pure ?_)))
  rw [e2]
  first
   | exact wpAny_pure hR
   | exact wpAny_bind (wpAny_pure (wpAny_pure hR))
 ·show wpAny _ _ ((Builtin.List.listItems (.ref l) >>= fun xs=>pure ((seqIndex? (-1) xs.size).bind fun i=>xs[i]?.map (i,·))) >>= _) _ _ s
  refine wpAny_bind (wpAny_bind ?_)
  show wpAny _ _ (seqItems? (.ref l) >>= _) _ _ s
  refine wpAny_bind (wpAny_seqItems hl rfl (wpAny_pure (wpAny_pure ?_)))
  rw [e1,hk]
  simp only [Option.bind_some,e2,Option.map_some]
  first
   | exact wpAny_pure hR
   | exact wpAny_bind (wpAny_pure (wpAny_pure hR))
theorem lgetR_ok {B:Nat} {V:RV} {w:World}:RuleOk B V pw_il0098_01 w lgetR:=mkH_ok (by
 intro js args T eo he h1 h2 A h₀ h sz g dr tok os hA hd D hsz
 unfold lgetS at he
 split at he
 ·rename_i l i t
  split at he
  ·rename_i j d
   replace he:=bndE he;obtain ⟨c,hT,he⟩:=he
   replace he:=bndE he;obtain ⟨r,hr,he⟩:=he
   have hc:=D.own _ _ hT
   rw [itemsO_spec hr] at hc
   cases d with
   | zero=>
     cases he
     obtain rfl:l=c.1:=Side.nat.inj (h1 _ (.head _))
     obtain rfl:i=0:=h2 _ (.head _)
     have hv:r.1.head? =some (.str (sOf (r.1.headD .none)) (tokV (r.1.headD .none))):=h2 _ (.tail _ (.head _))
     refine lget_tree (i:=0) hc (by decide) (.inl rfl) ?_ ⟨sz - 900,tok,fun _=>0,g,rfl,rep_back D hsz,by exact ar2,GR.refl _ _,rfl⟩
     revert hv
     cases r.1 with
     | nil=>intro hv;cases hv
     | cons v vs=>
       intro hv
       have:seqIndex? 0 (v::vs).length=some 0:=by
        unfold seqIndex?
        simp
       rw [this]
       exact hv
   | succ d=>
     cases he
     obtain rfl:l=c.1:=Side.nat.inj (h1 _ (.head _))
     obtain rfl:i= -1:=h2 _ (.head _)
     have hv:r.1.getLast? =some (.str (sOf (r.1.getLastD .none)) (tokV (r.1.getLastD .none))):=h2 _ (.tail _ (.head _))
     have hpos:0 < r.1.length:=by
      rcases Nat.eq_zero_or_pos r.1.length with q | q
      ·rw [List.eq_nil_of_length_eq_zero q] at hv;cases hv
      ·exact q
     refine lget_tree (i:= -1) hc (by decide) (.inr rfl) ?_ ⟨sz - 900,tok,fun _=>0,g,rfl,rep_back D hsz,by exact ar2,GR.refl _ _,rfl⟩
     have:=seqIndex_neg (k:= -1) (n:=r.1.length) (by decide) (Int.neg_le_neg (Int.ofNat_le.mpr hpos))
     rw [this]
     show r.1[(-1+(r.1.length:Int)).toNat]? =_
     rw [show (-1+(r.1.length:Int)).toNat=r.1.length - 1 by exact ar65,←List.getLast?_eq_getElem?]
     exact hv
  ·cases he
 ·cases he)
noncomputable def lsliceS (js:List Nat) (args:List Value) (T:List Cell):Option EOut:=match args with
 | [.ref l,.ref a]=>match js with
   | [j,k,d]=>(T[j]?).bind fun c=>(itemsO "list" c.2).bind fun r=>(T[k]?).bind fun x=>(sliceO x.2).bind fun q=>match d with
     | 0=>some ⟨[(.nat l,.nat c.1),(.nat a,.nat x.1)],[q.1.map (·.1)=none,q.2.map (·.1)=some (-1),r.1.length≤sizeLine],fun b _ u=>(.ok (.ret (.ref (b+899))),(b+899,seqO "list" r.1.dropLast 0)::T)⟩
     | _+1=>some ⟨[(.nat l,.nat c.1),(.nat a,.nat x.1)],[q.1.map (·.1)=some 1,q.2.map (·.1)=none,r.1.length≤sizeLine],fun b _ u=>(.ok (.ret (.ref (b+899))),(b+899,seqO "list" r.1.tail 0)::T)⟩
   | _=>none
 | _=>none
noncomputable abbrev lsliceR:ERule:=mkH "list.__getitem__" lsliceS
theorem isPart_pv (p:Option (Int×Tok)):IsPart (partValue p) (p.map (·.1)):=by
 cases p with
 | none=>exact .none
 | some q=>exact .int q.1 q.2
theorem lslice_tree {w:World} {A:Around} {R:Result→Shared→Prop} {s:Shared} {l a:Nat} {vs:List Value} {n:Nat} {x:Obj} {q:Option (Int×Tok)×Option (Int×Tok)} (hl:s.heap.get? l=some (seqO "list" vs n)) (ha:s.heap.get? a=some x) (hq:sliceO x=some q)
 (hsz:vs.length≤sizeLine) (hR:R (.ok (.ret (.ref s.heap.objs.size))) { s with heap:=s.heap.push { cls:=.type "list",data:=.seq (slicePick ⟨vs⟩ (q.1.map (·.1)) (q.2.map (·.1)) none) } }):
 codeAny (MM w) A (.call (.builtin "list.__getitem__") ⟨[.ref l,.ref a],[]⟩) R s:=by
 obtain ⟨hcs,hds⟩:=sliceO_spec hq
 have hTs:s.TypeIs (.ref a) "slice":=⟨x,ha,hcs⟩
 refine codeAny_call_builtin PySem.F.slot_list_getitem.plain PySem.F.entry_list_getitem (PySem.F.slot_list_getitem.check _ _ _ _ _ _ _ _ ⟨_,hl,rfl⟩ (PySem.F.args_list_getitem_2 _ _) ?_)
 show wpAny _ _ (Builtin.List.listSubscript? (.ref a) >>= _) _ _ s
 refine wpAny_bind ?_
 unfold Builtin.List.listSubscript?
 refine wpAny_bind (wpAny_specialOf hTs slice_no_index ?_)
 simp only [Option.isNone_none,if_true]
 refine wpAny_pure ?_
 show wpAny _ _ (typeOf (.ref a) >>= _) _ _ s
 refine wpAny_bind (wpAny_typeOf hTs ?_)
 rw [if_neg (by decide)]
 rw [listSliceParts_eq]
 refine wpAny_bind (wpAny_bind (wpAny_field ha hds (x:=partValue none) rfl (wpAny_bind (wpAny_listPart (k:=none) .none ?_))))
 rw [if_neg (by decide)]
 refine wpAny_bind (wpAny_field ha hds (x:=partValue q.1) rfl (wpAny_bind (wpAny_listPart (isPart_pv q.1) ?_)))
 refine wpAny_bind (wpAny_field ha hds (x:=partValue q.2) rfl (wpAny_bind (wpAny_listPart (isPart_pv q.2) (wpAny_pure ?_))))
 refine wpAny_bind (m:=Builtin.List.listItems (.ref l)) ?_
 unfold Builtin.List.listItems
 refine wpAny_bind (wpAny_seqItems hl rfl (wpAny_pure ?_))
 refine wpAny_bind (wpAny_of_eq (sliceIndices_raw (q.1.map (·.1)) (q.2.map (·.1)) none (⟨vs⟩:Array Value).size (by simp)) ?_)
 refine wpAny_bind (wpAny_newObj_type (wpAny_pure hR) (Nat.le_trans (slicePick_size_le ⟨vs⟩ (q.1.map (·.1)) (q.2.map (·.1)) none) hsz))
theorem lsliceR_ok {B:Nat} {V:RV} {w:World}:RuleOk B V pw_il0098_01 w lsliceR:=mkH_ok (by
 intro js args T eo he h1 h2 A h₀ h sz g dr tok os hA hd D hsz
 unfold lsliceS at he
 split at he
 ·rename_i l a
  split at he
  ·rename_i j k d
   replace he:=bndE he;obtain ⟨c,hT,he⟩:=he
   replace he:=bndE he;obtain ⟨r,hr,he⟩:=he
   replace he:=bndE he;obtain ⟨x,hK,he⟩:=he
   replace he:=bndE he;obtain ⟨q,hq,he⟩:=he
   have hc:=D.own _ _ hT
   rw [itemsO_spec hr] at hc
   have hx:=D.own _ _ hK
   have key:∀ (lo hi:Option Int) (vs':List Value),q.1.map (·.1)=lo→q.2.map (·.1)=hi→r.1.length≤sizeLine→slicePick ⟨r.1⟩ lo hi none=⟨vs'⟩→∀ R:Result→Shared→Prop,R (.ok (.ret (.ref sz))) ⟨h.push (seqO "list" vs' 0),g,dr,tok,os⟩→
    codeAny (MM w) A (.call (.builtin "list.__getitem__") ⟨[.ref c.1,.ref x.1],[]⟩) R ⟨h,g,dr,tok,os⟩:=by
    intro lo hi vs' e1 e2 hl e3 R hR
    refine lslice_tree hc hx hq hl ?_
    rw [e1,e2,e3]
    show R (.ok (.ret (.ref h.objs.size))) _
    rw [D.size]
    exact hR
   have fin:∀ vs':List Value,(∃ (b:Nat) (t:Tok) (u:Nat→Tok) (g':Array GenState),(Except.ok (PySem.Flow.ret (.ref (b+899))):Result)=Except.ok (PySem.Flow.ret (Value.ref sz))∧Rep V h₀ (h.push (seqO "list" vs' 0)) ((b+899,seqO "list" vs' 0)::T) (b+900)∧13≤b∧GR V g g'∧(⟨h.push (seqO "list" vs' 0),g,dr,tok,os⟩:Shared)=⟨h.push (seqO "list" vs' 0),g',dr,t,os⟩):=by
    intro vs'
    refine ⟨sz+1 - 900,tok,fun _=>0,g,?_,?_,by exact ar4,GR.refl _ _,rfl⟩
    ·rw [show sz+1 - 900+899=sz by exact ar5]
    ·rw [show sz+1 - 900+900=sz+1 by exact ar3,show sz+1 - 900+899=sz by exact ar5]
     exact D.alloc (x:=seqO "list" vs' 0) rfl
   cases d with
   | zero=>
     cases he
     obtain rfl:l=c.1:=Side.nat.inj (h1 _ (.head _))
     obtain rfl:a=x.1:=Side.nat.inj (h1 _ (.tail _ (.head _)))
     refine key none (some (-1)) r.1.dropLast (h2 _ (.head _)) (h2 _ (.tail _ (.head _))) (h2 _ (.tail _ (.tail _ (.head _)))) ?_ _ ?_
     ·have:=slicePick_butLast ⟨r.1⟩ 1 (by decide)
      rw [show (-((1:Nat):Int))= -1 from rfl] at this
      rw [this]
      show (⟨r.1.take (r.1.length - 1)⟩:Array Value)=_
      rw [List.dropLast_eq_take]
     ·exact fin _
   | succ d=>
     cases he
     obtain rfl:l=c.1:=Side.nat.inj (h1 _ (.head _))
     obtain rfl:a=x.1:=Side.nat.inj (h1 _ (.tail _ (.head _)))
     refine key (some 1) none r.1.tail (h2 _ (.head _)) (h2 _ (.tail _ (.head _))) (h2 _ (.tail _ (.tail _ (.head _)))) ?_ _ ?_
     ·have:=slicePick_from' ⟨r.1⟩ 1
      rw [show ((1:Nat):Int)=1 from rfl] at this
      rw [this,←List.drop_one]
     ·exact fin _
  ·cases he
 ·cases he)
noncomputable abbrev popR:ERule:=mkH "list.pop" popS
theorem erase_last (vs:List Value):(⟨vs⟩:Array Value).eraseIdxIfInBounds (vs.length - 1)=⟨vs.dropLast⟩:=by
 unfold Array.eraseIdxIfInBounds
 split
 ·rename_i hh
  apply Array.ext'
  rw [Array.toList_eraseIdx]
  show vs.eraseIdx (vs.length - 1)=vs.dropLast
  have:vs.length - 1 < vs.length:=hh
  exact List.eraseIdx_eq_dropLast (by exact ar75)
 ·rename_i hh
  have:vs.length=0:=by
   have:¬(vs.length - 1 < vs.length):=hh
   exact ar74
  rw [List.eq_nil_of_length_eq_zero this];rfl
theorem mapSeq_pop (vs:List Value) (n:Nat):∃ n',Obj.mapSeq (·.eraseIdxIfInBounds (vs.length - 1)) (seqO "list" vs n)=seqO "list" vs.dropLast n':=by
 have e:=erase_last vs
 refine ⟨if (⟨vs.dropLast⟩:Array Value).size == (⟨vs⟩:Array Value).size then n else n+1,?_⟩
 show (⟨.type "list",none,.seq ((⟨vs⟩:Array Value).eraseIdxIfInBounds (vs.length - 1)) (if ((⟨vs⟩:Array Value).eraseIdxIfInBounds (vs.length - 1)).size == (⟨vs⟩:Array Value).size then n else n+1),⟨[]⟩⟩:Obj)=_
 rw [e]
 rfl
theorem popR_ok {B:Nat} {V:RV} {w:World}:RuleOk B V pw_il0098_01 w popR:=mkH_ok (by
 intro js args T eo he h1 h2 A h₀ h sz g dr tok os hA hd D hsz
 unfold popS at he
 split at he
 ·rename_i l
  split at he
  ·rename_i j js
   replace he:=bndE he;obtain ⟨c,hT,he⟩:=he
   replace he:=bndE he;obtain ⟨r,hr,he⟩:=he
   cases he
   obtain rfl:l=c.1:=Side.nat.inj (h1 _ (.head _))
   have hv:r.1.getLast? =some (.str (sOf (r.1.getLastD .none)) (tokV (r.1.getLastD .none))):=h2 _ (.head _)
   have hl:r.1.length≤sizeLine:=h2 _ (.tail _ (.head _))
   have hc:=D.own _ _ hT
   have ho:=itemsO_spec hr
   rw [ho] at hc
   have hpos:0 < r.1.length:=by
    rcases Nat.eq_zero_or_pos r.1.length with q | q
    ·rw [List.eq_nil_of_length_eq_zero q] at hv;cases hv
    ·exact q
   have D2:=D.update (f:=Obj.mapSeq (·.eraseIdxIfInBounds (r.1.length - 1))) hT (by rw [ho];rfl)
   obtain ⟨n',hn'⟩:=mapSeq_pop r.1 r.2
   rw [ho,hn'] at D2
   refine codeAny_call_builtin PySem.F.slot_list_pop.plain PySem.F.entry_list_pop (PySem.F.slot_list_pop.check _ _ _ _ _ _ _ _ ⟨_,hc,rfl⟩ (PySem.F.args_list_pop_1 _) ?_)
   show wpAny _ _ (Builtin.List.listItems (.ref c.1) >>= _) _ _ _
   refine wpAny_bind ?_
   unfold Builtin.List.listItems
   refine wpAny_bind (wpAny_seqItems hc rfl (wpAny_pure ?_))
   have e0:(⟨r.1⟩:Array Value).isEmpty=false:=by
    cases hz:r.1 with
    | nil=>rw [hz] at hpos;cases hpos
    | cons a b=>rfl
   rw [if_neg (by rw [e0];decide)]
   have e1:=seqIndex_neg (k:= -1) (n:=r.1.length) (by decide) (Int.neg_le_neg (Int.ofNat_le.mpr hpos))
   rw [show (-1+(r.1.length:Int)).toNat=r.1.length - 1 by exact ar65] at e1
   have e2:(⟨r.1⟩:Array Value)[r.1.length - 1]? =some (.str (sOf (r.1.getLastD .none)) (tokV (r.1.getLastD .none))):=by
    rw [List.getLast?_eq_getElem?] at hv
    simpa using hv
   have e3:(⟨r.1⟩:Array Value).size=r.1.length:=rfl
   dsimp only
   rw [e3,e1]
   simp only [Option.bind_some,e2,Option.map_some]
   refine wpAny_bind (wpAny_updateSeq hc rfl (wpAny_pure ⟨sz - 900,tok,fun _=>n',g,rfl,rep_back D2 hsz,by exact ar2,GR.refl _ _,rfl⟩) hl ?_)
   have:((⟨r.1⟩:Array Value).eraseIdxIfInBounds (r.1.length - 1)).size≤r.1.length:=by
    unfold Array.eraseIdxIfInBounds
    split
    ·rw [Array.size_eraseIdx];exact Nat.sub_le _ _
    ·exact Nat.le_refl _
   lia
  ·cases he
 ·cases he)
noncomputable def countS (js:List Nat) (args:List Value) (T:List Cell):Option EOut:=match args with
 | [.ref l,.str x t]=>match js with
   | j::_=>(T[j]?).bind fun c=>(itemsO "list" c.2).bind fun r=>some ⟨[(.nat l,.nat c.1)],[AllS r.1],fun b _ u=>(.ok (.ret (.int ((txs r.1).countP (· == x):Nat) (u 0))),T)⟩
   | []=>none
 | _=>none
noncomputable abbrev countR:ERule:=mkH "list.count" countS
theorem countR_ok {B:Nat} {V:RV} {w:World}:RuleOk B V pw_il0098_01 w countR:=mkH_ok (by
 intro js args T eo he h1 h2 A h₀ h sz g dr tok os hA hd D hsz
 unfold countS at he
 split at he
 ·rename_i l x t
  split at he
  ·rename_i j js
   replace he:=bndE he;obtain ⟨c,hT,he⟩:=he
   replace he:=bndE he;obtain ⟨r,hr,he⟩:=he
   cases he
   obtain rfl:l=c.1:=Side.nat.inj (h1 _ (.head _))
   have hS:AllS r.1:=h2 _ (.head _)
   have hc:=D.own _ _ hT
   rw [itemsO_spec hr] at hc
   have key:∀ R:Result→Shared→Prop,(∀ u k,R (.ok (.ret (.int ((txs r.1).countP (· == x):Nat) u))) ⟨h,g,dr,k,os⟩)→codeAny (MM w) A (.call (.builtin "list.count") ⟨[.ref c.1,.str x t],[]⟩) R ⟨h,g,dr,tok,os⟩:=by
    intro R hR
    refine codeAny_call_builtin PySem.F.slot_list_count.plain PySem.F.entry_list_count (PySem.F.slot_list_count.check _ _ _ _ _ _ _ _ ⟨_,hc,rfl⟩ (PySem.F.args_list_count_2 _ _) ?_)
    refine SeqAt.list_countAt c.1 ⟨r.1⟩ r.2 none ⟨[]⟩ (.str x t) (fun y=>sOf y == x) _ w A R ⟨h,g,dr,tok,os⟩ ⟨hc,fun y hy=>?_,?_⟩
    ·obtain ⟨s,u,rfl⟩:=hS y (by simpa using hy)
     exact SeqAt.EqAt.str_str s u x t
    ·have e:(r.1.countP fun y=>sOf y == x)=(txs r.1).countP (· == x):=by
      unfold txs
      rw [List.countP_map]
      rfl
     show R (.ok (.ret (.int ((r.1.countP fun y=>sOf y == x:Nat):Int) tok))) _
     rw [e]
     exact hR _ _
   exact key _ fun u k=>⟨sz - 900,k,fun _=>u,g,rfl,rep_back D hsz,by exact ar2,GR.refl _ _,rfl⟩
  ·cases he
 ·cases he)
noncomputable def lneS (js:List Nat) (args:List Value) (T:List Cell):Option EOut:=match args with
 | [.ref a,.ref b]=>match js with
   | [j,k,d]=>(T[j]?).bind fun c=>(itemsO "list" c.2).bind fun r=>(T[k]?).bind fun c'=>(itemsO "list" c'.2).bind fun r'=>match d with
     | 0=>some ⟨[(.nat a,.nat c.1),(.nat b,.nat c'.1)],[AllS r.1,AllS r'.1,txs r.1=txs r'.1],fun b _ u=>(.ok (.ret (.bool false)),T)⟩
     | _+1=>some ⟨[(.nat a,.nat c.1),(.nat b,.nat c'.1)],[AllS r.1,AllS r'.1,¬txs r.1=txs r'.1],fun b _ u=>(.ok (.ret (.bool true)),T)⟩
   | _=>none
 | _=>none
noncomputable abbrev lneR:ERule:=mkH "list.__ne__" lneS
theorem lne_tree {w:World} {A:Around} {R:Result→Shared→Prop} {s:Shared} {a b:Nat} {vs ws:List Value} {n m:Nat} (ha:s.heap.get? a=some (seqO "list" vs n)) (hb:s.heap.get? b=some (seqO "list" ws m)) (hv:AllS vs) (hw:AllS ws)
 (hR:R (.ok (.ret (.bool (decide (¬txs vs=txs ws))))) s):codeAny (MM w) A (.call (.builtin "list.__ne__") ⟨[.ref a,.ref b],[]⟩) R s:=by
 refine codeAny_call_builtin PySem.F.slot_list_ne.plain PySem.F.entry_list_ne (PySem.F.slot_list_ne.check _ _ _ _ _ _ _ _ ⟨_,ha,rfl⟩ (PySem.F.args_list_ne_2 _ _) ?_)
 by_cases hsz:vs.length=ws.length
 ·refine SeqAt.list_neAt a b ⟨vs⟩ ⟨ws⟩ n m none none ⟨[]⟩ ⟨[]⟩ hsz (fun j=>sOf (vs.getD j .none) == sOf (ws.getD j .none)) _ w A R s ⟨ha,hb,fun j h1 h2=>?_,?_⟩
  ·have e1:(⟨vs⟩:Array Value)[j]=vs.getD j .none:=by
    have:j < vs.length:=h1
    simp [List.getD_eq_getElem?_getD,this]
   have e2:(⟨ws⟩:Array Value)[j]=ws.getD j .none:=by
    have:j < ws.length:=h2
    simp [List.getD_eq_getElem?_getD,this]
   rw [e1,e2]
   obtain ⟨s1,t1,q1⟩:=hv (vs.getD j .none) (by rw [←e1];exact List.getElem_mem _)
   obtain ⟨s2,t2,q2⟩:=hw (ws.getD j .none) (by rw [←e2];exact List.getElem_mem _)
   rw [q1,q2]
   exact SeqAt.EqAt.str_str s1 t1 s2 t2
  ·have e:(!(List.range (⟨vs⟩:Array Value).size).all fun j=>sOf (vs.getD j .none) == sOf (ws.getD j .none))=decide (¬txs vs=txs ws):=by
    rw [Bool.eq_iff_iff,Bool.not_eq_true',decide_eq_true_eq,←Bool.not_eq_true,not_congr]
    rw [List.all_eq_true]
    constructor
    ·intro H
     apply List.ext_getElem (by simpa [txs] using hsz)
     intro j h1 h2
     simp only [txs,List.length_map] at h1 h2
     have:=H j (List.mem_range.mpr h1)
     simp only [beq_iff_eq] at this
     simp only [txs,List.getElem_map]
     rw [List.getD_eq_getElem?_getD,List.getElem?_eq_getElem h1,List.getD_eq_getElem?_getD,List.getElem?_eq_getElem h2] at this
     exact this
    ·intro H j hj
     have hj:j < vs.length:=List.mem_range.mp hj
     simp only [beq_iff_eq]
     have h2:j < ws.length:=hsz▸hj
     have:(txs vs)[j]? =(txs ws)[j]?:=by rw [H]
     simp only [txs,List.getElem?_map,List.getElem?_eq_getElem hj,List.getElem?_eq_getElem h2,Option.map_some] at this
     rw [List.getD_eq_getElem?_getD,List.getElem?_eq_getElem hj,List.getD_eq_getElem?_getD,List.getElem?_eq_getElem h2]
     exact Option.some.inj this
   rw [e]
   exact hR
 ·refine SeqAt.list_ne_lengthsAt a b ⟨vs⟩ ⟨ws⟩ n m none none ⟨[]⟩ ⟨[]⟩ (by simpa using hsz) _ w A R s ⟨ha,hb,?_⟩
  have:decide (¬txs vs=txs ws)=true:=decide_eq_true (fun q=>hsz (by have:=congrArg List.length q;simpa [txs] using this))
  rw [this] at hR
  exact hR
theorem lneR_ok {B:Nat} {V:RV} {w:World}:RuleOk B V pw_il0098_01 w lneR:=mkH_ok (by
 intro js args T eo he h1 h2 A h₀ h sz g dr tok os hA hd D hsz
 unfold lneS at he
 split at he
 ·rename_i a b
  split at he
  ·rename_i j k d
   replace he:=bndE he;obtain ⟨c,hT,he⟩:=he
   replace he:=bndE he;obtain ⟨r,hr,he⟩:=he
   replace he:=bndE he;obtain ⟨c',hT',he⟩:=he
   replace he:=bndE he;obtain ⟨r',hr',he⟩:=he
   have hc:=D.own _ _ hT
   have hc':=D.own _ _ hT'
   rw [itemsO_spec hr] at hc
   rw [itemsO_spec hr'] at hc'
   cases d with
   | zero=>
     cases he
     obtain rfl:a=c.1:=Side.nat.inj (h1 _ (.head _))
     obtain rfl:b=c'.1:=Side.nat.inj (h1 _ (.tail _ (.head _)))
     have h3:txs r.1=txs r'.1:=h2 _ (.tail _ (.tail _ (.head _)))
     refine lne_tree hc hc' (h2 _ (.head _)) (h2 _ (.tail _ (.head _))) ?_
     rw [show decide (¬txs r.1=txs r'.1)=false from decide_eq_false (fun q=>q h3)]
     exact ⟨sz - 900,tok,fun _=>0,g,rfl,rep_back D hsz,by exact ar2,GR.refl _ _,rfl⟩
   | succ d=>
     cases he
     obtain rfl:a=c.1:=Side.nat.inj (h1 _ (.head _))
     obtain rfl:b=c'.1:=Side.nat.inj (h1 _ (.tail _ (.head _)))
     have h3:¬txs r.1=txs r'.1:=h2 _ (.tail _ (.tail _ (.head _)))
     refine lne_tree hc hc' (h2 _ (.head _)) (h2 _ (.tail _ (.head _))) ?_
     rw [show decide (¬txs r.1=txs r'.1)=true from decide_eq_true h3]
     exact ⟨sz - 900,tok,fun _=>0,g,rfl,rep_back D hsz,by exact ar2,GR.refl _ _,rfl⟩
  ·cases he
 ·cases he)
end
section
open PySem.Calls
noncomputable def lenLS (js:List Nat) (T:List Cell) (l:Nat):Option EOut:=match js with
 | j::d=>(T[j]?).bind fun c=>(itemsO "list" c.2).bind fun r=>match d with
   | []=>some ⟨[(.nat l,.nat c.1)],[r.1.length≤sizeLine],fun b _ u=>(.ok (.ret (.int (r.1.length:Int) (u 0))),T)⟩
   | 0::_=>some ⟨[(.nat l,.nat c.1)],[r.1=[]],fun b _ u=>(.ok (.ret (.int 0 (u 0))),T)⟩
   | (_+1)::_=>some ⟨[(.nat l,.nat c.1)],[r.1≠[],r.1.length≤sizeLine],fun b _ u=>(.ok (.ret (.int (Int.ofNat (Nat.succ (r.1.length - 1))) (u 0))),T)⟩
 | []=>none
noncomputable def lenLR:ERule:=fun _ js c T=>match c with
 | .builtin i a=>match Nat.beq (PySem.code i) (PySem.code "len") with
   | true=>match a.kw with
     | []=>match a.pos with
       | [.ref l]=>lenLS js T l
       | _=>none
     | _::_=>none
   | false=>none
 | _=>none
theorem lenLR_ok {B:Nat} {V:RV} {w:World}:RuleOk B V pw_il0098_01 w lenLR:=by
 intro F js c T eo he h1 h2 A h₀ h sz g dr tok os hF hA hd D hsz
 unfold lenLR at he
 cases c with
 | builtin i a=>
   dsimp only at he
   cases hc:Nat.beq (PySem.code i) (PySem.code "len") with
   | false=>rw [hc] at he;cases he
   | true=>
     obtain rfl:i="len":=code_inj _ _ (Nat.eq_of_beq_eq_true hc)
     rw [hc] at he
     obtain ⟨pos,kw⟩:=a
     cases kw with
     | cons=>cases he
     | nil=>
       dsimp only at he
       split at he
       ·rename_i l
        unfold lenLS at he
        split at he
        ·rename_i j d
         replace he:=bndE he;obtain ⟨c,hT,he⟩:=he
         replace he:=bndE he;obtain ⟨r,hr,he⟩:=he
         have hc:=D.own _ _ hT
         rw [itemsO_spec hr] at hc
         have key:r.1.length≤sizeLine→∀ R:Result→Shared→Prop,(∀ u k,R (.ok (.ret (.int (r.1.length:Int) u))) ⟨h,g,dr,k,os⟩)→codeAny (MM w) A (.builtin "len" ⟨[.ref c.1],[]⟩) R ⟨h,g,dr,tok,os⟩:=by
          intro hl R hR
          refine codeAny_builtin entry_len ?_
          rw [Around.under_plainId plain_len _]
          have hl':r.1.length≤16777216:=Nat.le_trans hl (by decide)
          refine wpAny_mono (wpAny_len_body_list (Q:=fun v s'=>R (.ok (.ret v)) s') ⟨_,hc,rfl,r.2,rfl⟩ (by show (r.1.length:Int) < 2 ^ 63;lia) ?_) (fun fin s' h'=>by obtain ⟨r,rfl,hq⟩:=h';exact hq) fun _ _ e=>e
          exact hR _ _
         split at he
         ·cases he
          obtain rfl:l=c.1:=Side.nat.inj (h1 _ (.head _))
          exact key (h2 _ (.head _)) _ fun u k=>⟨sz - 900,k,fun _=>u,g,rfl,rep_back D hsz,ar2,GR.refl _ _,rfl⟩
         ·cases he
          obtain rfl:l=c.1:=Side.nat.inj (h1 _ (.head _))
          have hz:r.1=[]:=h2 _ (.head _)
          have hl0:r.1.length≤sizeLine:=by rw [hz];decide
          have:=key hl0
          rw [hz] at this
          exact this _ fun u k=>⟨sz - 900,k,fun _=>u,g,rfl,rep_back D hsz,ar2,GR.refl _ _,rfl⟩
         ·cases he
          obtain rfl:l=c.1:=Side.nat.inj (h1 _ (.head _))
          have hz:r.1≠[]:=h2 _ (.head _)
          have e:r.1.length=Nat.succ (r.1.length - 1):=by
           have:=List.length_pos_iff.mpr hz
           exact ar76
          refine key (h2 _ (.tail _ (.head _))) _ fun u k=>⟨sz - 900,k,fun _=>u,g,?_,rep_back D hsz,ar2,GR.refl _ _,rfl⟩
          show Except.ok (Flow.ret (Value.int (Int.ofNat (Nat.succ (r.1.length - 1))) u))=Except.ok (Flow.ret (Value.int (Int.ofNat r.1.length) u))
          rw [←e]
        ·cases he
       ·cases he
 | _=>cases he
noncomputable def rules6:Nat→Option ERule:=tab rules2 [(27,tupInR),(50,appR),(51,popR),(52,llenR),(53,laddR),(54,lgetR),(55,lsliceR),(56,joinR),(57,splitR),(58,countR),(59,lneR),(60,listNextR),(61,tupNextR),(62,lenLR)]
theorem rules6_ok {B:Nat} (hB:B≤800) {V:RV} {w:World} (hV:V.look=lookK w.params):∀ i R,rules6 i=some R→RuleOk B V pw_il0098_01 w R:=by
 exact tab_cons (tupInR_ok) (tab_cons (appR_ok) (tab_cons (popR_ok) (tab_cons (llenR_ok) (tab_cons (laddR_ok) (tab_cons (lgetR_ok) (tab_cons (lsliceR_ok) (tab_cons (joinR_ok) (tab_cons (splitR_ok) (tab_cons (countR_ok) (tab_cons (lneR_ok) (tab_cons (listNextR_ok) (tab_cons (tupNextR_ok) (tab_cons (lenLR_ok) (rules2_ok hB hV))))))))))))))
theorem LF.block {B:Nat} {V:RV} {w:World} {st:St} (env:Env):LF B V w (.block [] env) st (fun x T b=>x= .ok .next∧∃ τ,T=st τ):=fun τ A h₀ h b g dr tok os hfr hA hd hb D=>by
 refine codeAny_block ?_
 rw [show execs [] env=pure PySem.Flow.next from PySem.execs.eq_1 env]
 exact wpAny_pure ⟨st τ,b,tok,g,⟨rfl,τ,rfl⟩,D,hb,GR.refl _ _,rfl⟩
noncomputable def vsAt (T:List Cell) (i:Nat):List Value:=match T[i]? with
 | none=>[]
 | some x=>match x.2.data with
   | .seq vs _=>vs.toList
   | _=>[]
noncomputable def enAt (T:List Cell) (i:Nat):Nat:=match T[i]? with
 | none=>0
 | some x=>match x.2.data with
   | .seq _ n=>n
   | _=>0
noncomputable def refV:Value→Nat
 | .ref a=>a
 | _=>0
theorem vAtI_nat {vs:List Value} {k:Nat} {v:Value} (h:vs[k]? =some v):vAtI vs (k:Int)=v:=by
 show vs.getD ((k:Int)).toNat .none=v
 rw [Int.toNat_natCast,List.getD_eq_getElem?_getD,h];rfl
theorem drop_split {α:Type} {l:List α} {k:Nat} (h:k < l.length):∃ v,l[k]? =some v∧l.drop k=v::l.drop (k+1):=⟨l[k],List.getElem?_eq_getElem h,List.drop_eq_getElem_cons h⟩
theorem AllS.at {vs:List Value} (h:AllS vs) {k:Nat} {v:Value} (hv:vs[k]? =some v):v= .str (sOf v) (tokV v):=by
 obtain ⟨s,t,rfl⟩:=h v (List.mem_of_getElem? hv)
 rfl
theorem str_empty_iff {s:Str}:s.length=0↔s=⟨⟨[]⟩⟩:=by
 obtain ⟨⟨l⟩⟩:=s
 constructor
 ·intro h
  have:l=[]:=List.eq_nil_of_length_eq_zero h
  rw [this]
 ·intro h;rw [h];rfl
noncomputable def dqO:Obj:=itO "collections.deque" [.none,.int 0 0]
noncomputable def stLex (P:Params) (X XD S D Q1 Q2:Nat) (sv:Tok→Value) (text:Str) (k:Nat):St:=fun τ=>[(X,insO 854 XD),(XD,dicO [E P ⟨⟨[105,110,115,116,114,101,97,109]⟩⟩ (τ 0) (.ref S),E P ⟨⟨[105,110,102,105,108,101]⟩⟩ (τ 2) .none,E P ⟨⟨[112,111,115,105,120]⟩⟩ (τ 4) (.bool true),E P ⟨⟨[101,111,102]⟩⟩ (τ 6) .none,E P ⟨⟨[99,111,109,109,101,110,116,101,114,115]⟩⟩ (τ 8) (.str ⟨⟨[]⟩⟩ (τ 9)),E P ⟨⟨[119,111,114,100,99,104,97,114,115]⟩⟩ (τ 10) (.str wordS (τ 11)),E P ⟨⟨[119,104,105,116,101,115,112,97,99,101]⟩⟩ (τ 12) (.str ⟨⟨[32,9,13,10]⟩⟩ (τ 13)),E P ⟨⟨[119,104,105,116,101,115,112,97,99,101,95,115,112,108,105,116]⟩⟩ (τ 14) (.bool true),E P ⟨⟨[113,117,111,116,101,115]⟩⟩ (τ 16) (.str ⟨⟨[39,34]⟩⟩ (τ 17)),E P ⟨⟨[101,115,99,97,112,101]⟩⟩ (τ 18) (.str ⟨⟨[92]⟩⟩ (τ 19)),E P ⟨⟨[101,115,99,97,112,101,100,113,117,111,116,101,115]⟩⟩ (τ 20) (.str ⟨⟨[34]⟩⟩ (τ 21)),E P ⟨⟨[115,116,97,116,101]⟩⟩ (τ 22) (sv (τ 23)),E P ⟨⟨[112,117,115,104,98,97,99,107]⟩⟩ (τ 24) (.ref Q1),E P ⟨⟨[108,105,110,101,110,111]⟩⟩ (τ 26) (.int 1 (τ 27)),E P ⟨⟨[100,101,98,117,103]⟩⟩ (τ 28) (.int 0 (τ 29)),E P ⟨⟨[116,111,107,101,110]⟩⟩ (τ 30) (.str ⟨⟨[]⟩⟩ (τ 31)),E P ⟨⟨[102,105,108,101,115,116,97,99,107]⟩⟩ (τ 32) (.ref Q2),E P ⟨⟨[115,111,117,114,99,101]⟩⟩ (τ 34) .none,E P ⟨⟨[95,112,117,110,99,116,117,97,116,105,111,110,95,99,104,97,114,115]⟩⟩ (τ 36) (.str ⟨⟨[]⟩⟩ (τ 37))] 19),(S,insO 719 D),(D,dicO [E P ⟨⟨[95,83,116,114,105,110,103,73,79,95,95,110,101,119,108,105,110,101]⟩⟩ (τ 38) (.str ⟨⟨[10]⟩⟩ (τ 39)),E P ⟨⟨[95,83,116,114,105,110,103,73,79,95,95,98,117,102]⟩⟩ (τ 40) (.str text (τ 41)),E P ⟨⟨[95,83,116,114,105,110,103,73,79,95,95,112,111,115]⟩⟩ (τ 42) (.int (k:Int) (τ 43))] 3),(Q1,dqO),(Q2,dqO)]
noncomputable def restS (text:Str) (k:Nat):List Nat:=text.cps.toList.drop k
noncomputable def tkS:List Nat→Option TE
 | []=>none
 | c::l=>if c=39 then tkR .Q false ⟨⟨[]⟩⟩ l else tkR .A false (one c) l
noncomputable def okS:List Nat→Prop
 | []=>False
 | c::l=>c∈alph∧(if c=39 then okR .Q l else (c≠32∧c≠34∧c≠46∧c≠47∧c≠92)∧okR .A l)
noncomputable def teD:TE:=⟨⟨⟨[]⟩⟩,false,[],true⟩
noncomputable def tkV (text:Str) (k:Nat):TE:=(tkS (restS text k)).getD teD
noncomputable def svE (e:Bool):Tok→Value:=if e then fun _=>.none else fun t=>.str ⟨⟨[32]⟩⟩ t
noncomputable def nchE (e:Bool):Str:=if e then ⟨⟨[]⟩⟩ else one 32
noncomputable def sv32:Tok→Value:=fun t=>.str ⟨⟨[32]⟩⟩ t
noncomputable def svN:Tok→Value:=fun _=>.none
noncomputable def esAt (T:List Cell) (i:Nat):List DictEntry:=match T[i]? with
 | none=>[]
 | some x=>match x.2.data with
   | .dict es _=>es.toList
   | _=>[]
noncomputable def nAt (T:List Cell) (i:Nat):Nat:=match T[i]? with
 | none=>0
 | some x=>match x.2.data with
   | .dict _ n=>n
   | _=>0
noncomputable def tokGS (P:Params) (qb:Bool) (L X XD S D Q1 Q2:Nat) (text:Str) (k:Nat):LSpec where
 c₀:=codeT P L
 st:=stTok0 P L X XD S D Q1 Q2 false ⟨⟨[32]⟩⟩ sv32 ⟨⟨[]⟩⟩ text k
 conds:=[okS (restS text k),(tkS (restS text k)).isSome=true,(tkV text k).q=qb,0 < (tkV text k).tok.length,text.length≤sizeLine,k≤text.length]
 r:=fun _ _=>.ok .next
 st':=fun _ u=>stTok P L X XD S D Q1 Q2 qb (one (u 0)) (nchE (tkV text k).e) (svE (tkV text k).e) (tkV text k).tok text (text.length - (tkV text k).l.length) (fun j=>u (j+1))
noncomputable def tokNS (P:Params) (L X XD S D Q1 Q2:Nat) (text:Str) (k:Nat):LSpec where
 c₀:=codeT P L
 st:=stTok0 P L X XD S D Q1 Q2 false ⟨⟨[32]⟩⟩ svN ⟨⟨[]⟩⟩ text k
 conds:=[text.length≤sizeLine,k=text.length]
 r:=fun _ _=>.ok .next
 st':=fun _ u=>stTok P L X XD S D Q1 Q2 false ⟨⟨[32]⟩⟩ ⟨⟨[]⟩⟩ svN ⟨⟨[]⟩⟩ text k u
noncomputable def tokBS (P:Params) (L X XD S D Q1 Q2 L2 L3 L4 L5 L6:Nat) (es2 es3 es4 es5 es6:List DictEntry) (n2 n3 n4 n5 n6:Nat) (text:Str) (k:Nat):LSpecV where
 c₀:=codeT P L
 st:=fun τ=>stTok0 P L X XD S D Q1 Q2 false ⟨⟨[32]⟩⟩ sv32 ⟨⟨[]⟩⟩ text k τ++outerC L2 L3 L4 L5 L6 es2 es3 es4 es5 es6 n2 n3 n4 n5 n6
 conds:=[okS (restS text k),tkS (restS text k)=none,text.length≤sizeLine,k≤text.length]
 r:=fun _ u=>.error (.ref (u 0))
 st':=fun _ v u=>(u 0,excO "ValueError" (u 1) (u 2))::(u 2,tbO .none L v)::outerR P L2 L3 L4 L5 L6 es2 es3 es4 es5 es6 n2 n3 n4 n5 n6 (v 6)
section
variable {B:Nat} {w:World} (hB:B+52≤700) (L X XD S D Q1 Q2:Nat) (text:Str) (k:Nat)
include hB
theorem noRV {V:RV}:∀ i R,(fun _=>none:Nat→Option ERuleV) i=some R→RuleVOk (B+52) V pw_il0098_01 w R:=fun _ _ h=>nomatch h
theorem okS_word {c:Nat} (h:c≠32∧c≠34∧c≠46∧c≠47∧c≠92) (h39:c≠39) (ha:c∈alph):hasB wordS (one c)∧¬hasB ⟨⟨[92]⟩⟩ (one c)∧¬hasB ⟨⟨[]⟩⟩ (one c)∧¬hasB ⟨⟨[32,9,13,10]⟩⟩ (one c)∧¬(one c=⟨⟨[10]⟩⟩):=by
 obtain ⟨f1,f2,f3,f4,f5,f6⟩:=sgn_facts c ha
 exact ⟨f5.mpr ⟨h.1,h.2.1,h39,h.2.2.1,h.2.2.2.1,h.2.2.2.2⟩,fun z=>h.2.2.2.2 (f4.mp z),f2,fun z=>h.1 (f1.mp z),f6⟩
theorem tokGS_ok (qb:Bool):LoopOk B (VR w.params (rules3 w.params) (fun _=>none) none) w (tokGS w.params qb L X XD S D Q1 Q2 text k):=by
 refine LF.toSpec rfl fun hc=>?_
 have c1:okS (restS text k):=hc _ (.head _)
 have c2:(tkS (restS text k)).isSome=true:=hc _ (.tail _ (.head _))
 have c3:(tkV text k).q=qb:=hc _ (.tail _ (.tail _ (.head _)))
 have c4:0 < (tkV text k).tok.length:=hc _ (.tail _ (.tail _ (.tail _ (.head _))))
 have ht:text.length≤sizeLine:=hc _ (.tail _ (.tail _ (.tail _ (.tail _ (.head _)))))
 have hk:k≤text.length:=hc _ (.tail _ (.tail _ (.tail _ (.tail _ (.tail _ (.head _))))))
 have HR:=rules3_ok (B:=B+52) hB (V:=VR w.params (rules3 w.params) (fun _=>none) none) (w:=w) rfl rfl
 have O:=VR_ok w (rules3 w.params) (fun _=>none) none
 have HV:=noRV (B:=B) (w:=w) hB (V:=VR w.params (rules3 w.params) (fun _=>none) none)
 unfold tkV at c3 c4
 cases hr:restS text k with
 | nil=>rw [hr] at c1;exact c1.elim
 | cons c l=>
   obtain ⟨hk0,hc0,hd'⟩:=drop_cons hr
   have e:text.cps.toList.length=text.length:=Array.length_toList
   have hkl:k < text.length:=ar43
   have hgd:text.cps.getD k 0=c:=by rw [getD_list];exact hc0
   have hlen:l.length+1+k=text.length:=by
    have:=congrArg List.length hr
    unfold restS at this
    rw [List.length_drop,List.length_cons] at this
    exact (ar67 this).trans e
   obtain ⟨r,hr2⟩:=Option.isSome_iff_exists.mp c2
   have hV:tkV text k=r:=by unfold tkV;rw [hr2];rfl
   rw [hr2] at c3 c4
   have c3:r.q=qb:=c3
   have c4:0 < r.tok.length:=c4
   rw [hr] at c1 hr2
   obtain ⟨ha,c1⟩:=c1
   have fin:∀ x T b,(x= .ok .next∧∃ ce' τ,T=stTok w.params L X XD S D Q1 Q2 r.q (one ce') (if r.e then ⟨⟨[]⟩⟩ else one 32) (if r.e then fun _=>.none else fun t=>.str ⟨⟨[32]⟩⟩ t) r.tok text (text.length - r.l.length) τ)→PostS (tokGS w.params qb L X XD S D Q1 Q2 text k) x T b:=by
    rintro x T b ⟨rfl,ce',τ,rfl⟩
    refine ⟨consT ce' τ,rfl,?_⟩
    show _=stTok w.params L X XD S D Q1 Q2 qb (one ce') (nchE (tkV text k).e) (svE (tkV text k).e) (tkV text k).tok text (text.length - (tkV text k).l.length) τ
    rw [hV,c3]
    rfl
   have g1:=one_lt (text.cps.getD k 0)
   have g2:=one_ne (text.cps.getD k 0)
   by_cases c39:c=39
   ·rw [if_pos c39] at c1
    simp only [tkS] at hr2
    rw [if_pos c39] at hr2
    subst hgd
    obtain ⟨f1,f2,f3,f4,f5,f6⟩:=sgn_facts _ ha
    refine LF.loop O HR (ar11) rfl (fun τ b tk ρ=>tok_S_quote w.params (fun _=>none) none ρ τ L X XD S D Q1 Q2 ⟨⟨[]⟩⟩ text k b tk) (codeT_w ..) (fun ρ sz=>⟨?_,fun hsz tr=>⟨codeT_q ..,?_⟩⟩) HV
    ·have w1:=f3.mpr (.inl c39)
     have w2:¬hasB wordS (one (text.cps.getD k 0)):=fun z=>(f5.mp z).2.2.1 c39
     have w3:¬hasB ⟨⟨[92]⟩⟩ (one (text.cps.getD k 0)):=fun z=>by have:=f4.mp z;lia
     have w4:¬hasB ⟨⟨[32,9,13,10]⟩⟩ (one (text.cps.getD k 0)):=fun z=>by have:=f1.mp z;lia
     repeat' (first | exact c0 | refine cC ?_ ?_)
     all_goals assumption
    ·refine (LF.mono ?_ fin)
     have:=tok_good (B:=B) hB (fun _=>none) none HV L X XD S D Q1 Q2 text ht l (k+1) .Q false 32 (one (text.cps.getD k 0)) ⟨⟨[]⟩⟩ r hd' c1 hr2 (fun z=>by cases z) c4 (by show 0+l.length≤_;lia) (ar16)
     have e2:(svM .Q)=fun t=>Value.str (one (text.cps.getD k 0)) t:=by rw [c39];rfl
     rw [e2] at this
     exact this
   ·rw [if_neg c39] at c1
    simp only [tkS] at hr2
    rw [if_neg c39] at hr2
    subst hgd
    obtain ⟨w1,w2,w3,w4,w5⟩:=okS_word hB c1.1 c39 ha
    refine LF.loop O HR (ar11) rfl (fun τ b tk ρ=>tok_S_word w.params (fun _=>none) none ρ τ L X XD S D Q1 Q2 ⟨⟨[]⟩⟩ text k b tk) (codeT_w ..) (fun ρ sz=>⟨?_,fun hsz tr=>⟨codeT_q ..,?_⟩⟩) HV
    ·repeat' (first | exact c0 | refine cC ?_ ?_)
     all_goals assumption
    ·refine (LF.mono ?_ fin)
     exact tok_good (B:=B) hB (fun _=>none) none HV L X XD S D Q1 Q2 text ht l (k+1) .A false 32 (one (text.cps.getD k 0)) (one (text.cps.getD k 0)) r hd' c1.2 hr2 (fun z=>by cases z) c4 (by show 1+l.length≤_;lia) (ar16)
theorem tokNS_ok:LoopOk B (VR w.params (rules3 w.params) (fun _=>none) none) w (tokNS w.params L X XD S D Q1 Q2 text k):=by
 refine LF.toSpec rfl fun hc=>?_
 have ht:text.length≤sizeLine:=hc _ (.head _)
 have hk:k=text.length:=hc _ (.tail _ (.head _))
 have HR:=rules3_ok (B:=B+52) hB (V:=VR w.params (rules3 w.params) (fun _=>none) none) (w:=w) rfl rfl
 have O:=VR_ok w (rules3 w.params) (fun _=>none) none
 have HV:=noRV (B:=B) (w:=w) hB (V:=VR w.params (rules3 w.params) (fun _=>none) none)
 refine LF.loop O HR (ar11) rfl (fun τ b tk ρ=>tok_N_end w.params (fun _=>none) none ρ τ L X XD S D Q1 Q2 ⟨⟨[]⟩⟩ text k b tk) (codeT_w ..) (fun ρ sz=>⟨?_,fun hsz tr τ=>⟨τ,rfl,rfl⟩⟩) HV
 have g4:¬(⟨⟨[]⟩⟩:Str)=⟨⟨[10]⟩⟩:=by decide
 repeat' (first | exact c0 | refine cC ?_ ?_)
 all_goals assumption
theorem tokBS_ok (L2 L3 L4 L5 L6:Nat) (es2 es3 es4 es5 es6:List DictEntry) (n2 n3 n4 n5 n6:Nat) (hc:∀ p∈(tokBS w.params L X XD S D Q1 Q2 L2 L3 L4 L5 L6 es2 es3 es4 es5 es6 n2 n3 n4 n5 n6 text k).conds,p):
 LF B (VR w.params (rules3 w.params) (fun _=>none) (some (envF (o822 w.params) 822 L::outerE w.params L2 L3 L4 L5 L6))) w (codeT w.params L) (tokBS w.params L X XD S D Q1 Q2 L2 L3 L4 L5 L6 es2 es3 es4 es5 es6 n2 n3 n4 n5 n6 text k).st (PostV (tokBS w.params L X XD S D Q1 Q2 L2 L3 L4 L5 L6 es2 es3 es4 es5 es6 n2 n3 n4 n5 n6 text k)):=by
 have c1:okS (restS text k):=hc _ (.head _)
 have c2:tkS (restS text k)=none:=hc _ (.tail _ (.head _))
 have ht:text.length≤sizeLine:=hc _ (.tail _ (.tail _ (.head _)))
 have hk:k≤text.length:=hc _ (.tail _ (.tail _ (.tail _ (.head _))))
 generalize hfr:(some (envF (o822 w.params) 822 L::outerE w.params L2 L3 L4 L5 L6))=fr
 have HR:=rules3_ok (B:=B+52) hB (V:=VR w.params (rules3 w.params) (fun _=>none) fr) (w:=w) rfl rfl
 have O:=VR_ok w (rules3 w.params) (fun _=>none) fr
 have HV:=noRV (B:=B) (w:=w) hB (V:=VR w.params (rules3 w.params) (fun _=>none) fr)
 cases hr:restS text k with
 | nil=>rw [hr] at c1;exact c1.elim
 | cons c l=>
   obtain ⟨hk0,hc0,hd'⟩:=drop_cons hr
   have e:text.cps.toList.length=text.length:=Array.length_toList
   have hkl:k < text.length:=ar43
   have hgd:text.cps.getD k 0=c:=by rw [getD_list];exact hc0
   have hlen:l.length+1+k=text.length:=by
    have:=congrArg List.length hr
    unfold restS at this
    rw [List.length_drop,List.length_cons] at this
    exact (ar67 this).trans e
   rw [hr] at c1 c2
   obtain ⟨ha,c1⟩:=c1
   have fin:∀ x T (b:Nat),(∃ a a0 tb v,x= .error (.ref a)∧T=(a,excO "ValueError" a0 tb)::(tb,tbO .none L v)::outerR w.params L2 L3 L4 L5 L6 es2 es3 es4 es5 es6 n2 n3 n4 n5 n6 (v 6))→PostV (tokBS w.params L X XD S D Q1 Q2 L2 L3 L4 L5 L6 es2 es3 es4 es5 es6 n2 n3 n4 n5 n6 text k) x T b:=by
    rintro x T b ⟨a,a0,tb,v,rfl,rfl⟩
    exact ⟨consT a (consT a0 (consT tb fun _=>0)),v,rfl,rfl⟩
   have g1:=one_lt (text.cps.getD k 0)
   have g2:=one_ne (text.cps.getD k 0)
   by_cases c39:c=39
   ·rw [if_pos c39] at c1
    simp only [tkS] at c2
    rw [if_pos c39] at c2
    subst hgd
    obtain ⟨f1,f2,f3,f4,f5,f6⟩:=sgn_facts _ ha
    have t1:Turn B (VR w.params (rules3 w.params) (fun _=>none) fr) w (codeT w.params L) (stTok0 w.params L X XD S D Q1 Q2 false ⟨⟨[32]⟩⟩ sv32 ⟨⟨[]⟩⟩ text k) (codeT w.params L) (stTok w.params L X XD S D Q1 Q2 false (one 32) (one (text.cps.getD k 0)) (svM .Q) ⟨⟨[]⟩⟩ text (k+1)):=by
     refine Turn.loop O HR (ar11) rfl (fun τ b tk ρ=>tok_S_quote w.params (fun _=>none) fr ρ τ L X XD S D Q1 Q2 ⟨⟨[]⟩⟩ text k b tk) (codeT_w ..) (codeT_q ..) (fun ρ sz=>⟨?_,fun tr=>rfl,?_⟩) HV
     ·have w1:=f3.mpr (.inl c39)
      have w2:¬hasB wordS (one (text.cps.getD k 0)):=fun z=>(f5.mp z).2.2.1 c39
      have w3:¬hasB ⟨⟨[92]⟩⟩ (one (text.cps.getD k 0)):=fun z=>by have:=f4.mp z;lia
      have w4:¬hasB ⟨⟨[32,9,13,10]⟩⟩ (one (text.cps.getD k 0)):=fun z=>by have:=f1.mp z;lia
      repeat' (first | exact c0 | refine cC ?_ ?_)
      all_goals assumption
     ·have e2:(svM .Q)=fun t=>Value.str (one (text.cps.getD k 0)) t:=by rw [c39];rfl
      rw [e2];rfl
    refine LF.mono ((t1.frame _).lf ?_) fin
    subst hfr
    exact tok_bad (B:=B) hB (fun _=>none) L X XD S D Q1 Q2 L2 L3 L4 L5 L6 es2 es3 es4 es5 es6 n2 n3 n4 n5 n6 HV text ht l (k+1) .Q false 32 (one (text.cps.getD k 0)) ⟨⟨[]⟩⟩ hd' c1 c2 (fun z=>by cases z) (by show 0+l.length≤_;lia) (ar16)
   ·rw [if_neg c39] at c1
    simp only [tkS] at c2
    rw [if_neg c39] at c2
    subst hgd
    obtain ⟨w1,w2,w3,w4,w5⟩:=okS_word hB c1.1 c39 ha
    have t1:Turn B (VR w.params (rules3 w.params) (fun _=>none) fr) w (codeT w.params L) (stTok0 w.params L X XD S D Q1 Q2 false ⟨⟨[32]⟩⟩ sv32 ⟨⟨[]⟩⟩ text k) (codeT w.params L) (stTok w.params L X XD S D Q1 Q2 false (one 32) (one (text.cps.getD k 0)) (svM .A) (one (text.cps.getD k 0)) text (k+1)):=by
     refine Turn.loop O HR (ar11) rfl (fun τ b tk ρ=>tok_S_word w.params (fun _=>none) fr ρ τ L X XD S D Q1 Q2 ⟨⟨[]⟩⟩ text k b tk) (codeT_w ..) (codeT_q ..) (fun ρ sz=>⟨?_,fun tr=>rfl,rfl⟩) HV
     repeat' (first | exact c0 | refine cC ?_ ?_)
     all_goals assumption
    refine LF.mono ((t1.frame _).lf ?_) fin
    subst hfr
    exact tok_bad (B:=B) hB (fun _=>none) L X XD S D Q1 Q2 L2 L3 L4 L5 L6 es2 es3 es4 es5 es6 n2 n3 n4 n5 n6 HV text ht l (k+1) .A false 32 (one (text.cps.getD k 0)) (one (text.cps.getD k 0)) hd' c1.2 c2 (fun z=>by cases z) (by show 1+l.length≤_;lia) (ar16)
end
noncomputable def rules4 (P:Params):Nat→Option ERule:=tab (rules3 P) [(43,loopG fun c T=>tokGS P true (aAt T 0) (aAt T 1) (aAt T 2) (aAt T 3) (aAt T 4) (refV (vAt T 2 12)) (refV (vAt T 2 16)) (sOf (vAt T 4 1)) (iOf (vAt T 4 2)).toNat),(44,loopG fun c T=>tokGS P false (aAt T 0) (aAt T 1) (aAt T 2) (aAt T 3) (aAt T 4) (refV (vAt T 2 12)) (refV (vAt T 2 16)) (sOf (vAt T 4 1)) (iOf (vAt T 4 2)).toNat),(45,loopG fun c T=>tokNS P (aAt T 0) (aAt T 1) (aAt T 2) (aAt T 3) (aAt T 4) (refV (vAt T 2 12)) (refV (vAt T 2 16)) (sOf (vAt T 4 1)) (iOf (vAt T 4 2)).toNat)]
noncomputable def rv4 (P:Params):Nat→Option ERuleV
 | 46=>some (loopV (fun c T=>tokBS P (aAt T 0) (aAt T 1) (aAt T 2) (aAt T 3) (aAt T 4) (refV (vAt T 2 12)) (refV (vAt T 2 16)) (aAt T 5) (aAt T 6) (aAt T 7) (aAt T 8) (aAt T 9) (esAt T 5) (esAt T 6) (esAt T 7) (esAt T 8) (esAt T 9) (nAt T 5) (nAt T 6) (nAt T 7) (nAt T 8) (nAt T 9) (sOf (vAt T 4 1)) (iOf (vAt T 4 2)).toNat)
    (fun c T=>some (envF (o822 P) 822 (aAt T 0)::outerE P (aAt T 5) (aAt T 6) (aAt T 7) (aAt T 8) (aAt T 9))))
 | _=>none
theorem rules4_ok {B:Nat} (hB:B+52≤700) {V:RV} {w:World} (hV:V.look=lookK w.params) (hg:V.keepG=true):∀ i R,rules4 w.params i=some R→RuleOk B V pw_il0098_01 w R:=by
 exact tab_cons (loopG_ok fun c S=>LoopOk.cast (V:=VR w.params (rules3 w.params) (fun _=>none) none) hV.symm (fun _=>rfl) (tokGS_ok hB _ _ _ _ _ _ _ _ _ _)) (tab_cons (loopG_ok fun c S=>LoopOk.cast (V:=VR w.params (rules3 w.params) (fun _=>none) none) hV.symm (fun _=>rfl) (tokGS_ok hB _ _ _ _ _ _ _ _ _ _)) (tab_cons (loopG_ok fun c S=>LoopOk.cast (V:=VR w.params (rules3 w.params) (fun _=>none) none) hV.symm (fun _=>rfl) (tokNS_ok hB _ _ _ _ _ _ _ _ _)) (rules3_ok (ar12) hV hg)))
theorem rv4_ok {B:Nat} (hB:B+52≤700) {V:RV} {w:World} (hV:V.look=lookK w.params) (hg:V.keepG=true):∀ i R,rv4 w.params i=some R→RuleVOk B V pw_il0098_01 w R:=by
 intro i R h
 unfold rv4 at h
 split at h
 ·cases h
  exact loopV_ok (V':=fun c T=>VR w.params (rules3 w.params) (fun _=>none) (some (envF (o822 w.params) 822 (aAt T 0)::outerE w.params (aAt T 5) (aAt T 6) (aAt T 7) (aAt T 8) (aAt T 9)))) (fun c S hc=>tokBS_ok hB _ _ _ _ _ _ _ _ _ _ _ _ _ _ _ _ _ _ _ _ _ _ _ _ hc) (fun _ _=>hV.symm) (fun _ _ _=>rfl) (fun _ _=>rfl)
 ·cases h
noncomputable def tbN (head:Value) (f:Nat) (v:Nat→Value):Obj:=
 { cls:=.type "traceback",data:=.fields ⟨[head,.ref f,.none,.none,.none,v 0,v 1,v 2,v 3,v 4,v 5]⟩ }
noncomputable def putT (i a:Nat) (τ:Nat→Tok):Nat→Tok:=fun j=>match Nat.beq j i with
 | true=>a
 | false=>τ j
noncomputable def nextC (X:Nat):Code:=.call (.ref 851) ⟨[.ref X],[]⟩
noncomputable abbrev tkK (text:Str) (k:Nat):Nat:=text.length - (tkV text k).l.length
noncomputable def fr3 (P:Params) (L4 L5 L6:Nat):Option (List Env):=some [envF (o866 P) 866 L4,envF (o907 P) 907 L5,envF (o912 P) 912 L6]
noncomputable def out3 (L4 L5 L6:Nat) (es4 es5 es6:List DictEntry) (n4 n5 n6:Nat):List Cell:=[(L4,frO es4 n4),(L5,frO es5 n5),(L6,frO es6 n6)]
noncomputable def out3R (P:Params) (L4 L5 L6:Nat) (es4 es5 es6:List DictEntry) (n4 n5 n6:Nat) (vb:Value):List Cell:=[(L4,readyO (envF (o866 P) 866 L4) (.ref L5) (frO es4 n4)),(L5,readyO (envF (o907 P) 907 L5) (.ref L6) (frO es5 n5)),(L6,readyO (envF (o912 P) 912 L6) (vbN vb) (frO es6 n6))]
theorem next_q (P:Params):∀ (ρ:Unk) (τ:Nat→Tok) (X XD S D Q1 Q2:Nat) (text:Str) (k:Nat) (b tk:Nat),
 PathI [1,2,3,4,7,8] (fun _=>⟨fun u=>.inl (.done (.ret (.str (tkV text k).tok u))),[okS (restS text k),(tkS (restS text k)).isSome=true,(tkV text k).q=true,0 < (tkV text k).tok.length,text.length≤sizeLine,k≤text.length],fun τ=>stLex P X XD S D Q1 Q2 (svE (tkV text k).e) text (tkK text k) (putT 23 (ρ.u 0 32) τ)⟩)
  (runC (VK P (rules4 P)) ρ 900 (nextC X) (stLex P X XD S D Q1 Q2 sv32 text k τ) b tk (orcN 1 2354078180241499610121448344631577320162594912882357377662003599540887349563071114254889457642355754785554705097328644863916421933585946840413133694250488820115909786230199961978464837305260874828793323891264499992326484054372832231432840684164035362611803829186543480491039497110391897072468163404215275455111367492500933730120942688578603665850472349819029066198912728194079186867713318136635618672078061508016381394287236415973857577109324726654629980967862273 7 [(.eff 43 [0,3,4,5,6],100000)])):=
 fP2 (by intros;kernel_rfl) (by intros;kernel_rfl) P
theorem next_u (P:Params):∀ (ρ:Unk) (τ:Nat→Tok) (X XD S D Q1 Q2:Nat) (text:Str) (k:Nat) (b tk:Nat),
 PathI [1,2,3,4,7,8] (fun _=>⟨fun u=>.inl (.done (.ret (.str (tkV text k).tok u))),[¬(tkV text k).tok=⟨⟨[]⟩⟩,okS (restS text k),(tkS (restS text k)).isSome=true,(tkV text k).q=false,0 < (tkV text k).tok.length,text.length≤sizeLine,k≤text.length],fun τ=>stLex P X XD S D Q1 Q2 (svE (tkV text k).e) text (tkK text k) (putT 23 (ρ.u 0 32) τ)⟩)
  (runC (VK P (rules4 P)) ρ 900 (nextC X) (stLex P X XD S D Q1 Q2 sv32 text k τ) b tk (orcN 1 154276867620306918448919238713775051254175820210658173102457067899511593340965428543808435496049426745626113153258530069801626627839488612133315129786400035315116263750382384708220671577637576692778742177632017533908239222225925703275760672166858813196549803677031159930289495185961080639891700339433395591816042712865415223863739883938228429188900165015098259739314020617859999114490132139814417968048202077023764232072779813537393478058391066681526844754137209438209 7 [(.eff 44 [0,3,4,5,6],4),(.eff 0 [0],100000)])):=
 fP2 (by intros;kernel_rfl) (by intros;kernel_rfl) P
theorem next_end (P:Params):∀ (ρ:Unk) (τ:Nat→Tok) (X XD S D Q1 Q2:Nat) (L4 L5 L6:Nat) (es4 es5 es6:List DictEntry) (n4 n5 n6:Nat) (text:Str) (k:Nat) (b tk:Nat),
 PathI [2,0,13,14,15] (fun _=>⟨fun _=>.inr (.ref (ρ.b 1+901)),[(⟨⟨[]⟩⟩:Str)=(⟨⟨[]⟩⟩:Str),text.length≤sizeLine,k=text.length],fun τ=>(ρ.b 1+901,excO "StopIteration" (ρ.b 1+902) (ρ.b 1+903))::(ρ.b 1+903,tbN .none (b+900) (ρ.v 3))::out3R P L4 L5 L6 es4 es5 es6 n4 n5 n6 (ρ.v 3 6)⟩)
  (runC (VR P (rules4 P) (rv4 P) (fr3 P L4 L5 L6)) ρ 900 (nextC X) (stLex P X XD S D Q1 Q2 svN text k τ++out3 L4 L5 L6 es4 es5 es6 n4 n5 n6) b tk (orcN 1 7348151264576744986898129522416156468371918023806646832450883819699580254318499796490289217458124493830535778074101207401926161429107512329073387628323771432735628458639670376502140935586390320039902933720979858938285273117596482235089272692783338739686042716132570898039674191223214874701411407474878761367550826487070985946726470514954360435662906840457452493022572533914460625755278698107914105268698370166639878360184779101196299090796114397396943628117896564176956648911339412061979368533285124665843403904258843511956283162842100792135253236069333389442535514771660214140347649829248828090595221241857 7 [(.eff 45 [0,3,4,5,6],4),(.eff 0 [1],26),(.note 0 [1,9,12,13,14],100000)])):=
 fP2 (by intros;kernel_rfl) (by intros;kernel_rfl) P
theorem next_bad (P:Params):∀ (ρ:Unk) (τ:Nat→Tok) (X XD S D Q1 Q2:Nat) (L4 L5 L6:Nat) (es4 es5 es6:List DictEntry) (n4 n5 n6:Nat) (text:Str) (k:Nat) (b tk:Nat),
 PathI [2,0,6,7,8] (fun _=>⟨fun _=>.inr (.ref (ρ.u 0 0)),[okS (restS text k),tkS (restS text k)=none,text.length≤sizeLine,k≤text.length],fun τ=>(ρ.u 0 0,excO "ValueError" (ρ.u 0 1) (ρ.b 0+901))::(ρ.b 0+901,tbN (.ref (ρ.b 0+900)) (b+900) (ρ.v 3))::out3R P L4 L5 L6 es4 es5 es6 n4 n5 n6 (ρ.v 0 6)⟩)
  (runC (VR P (rules4 P) (rv4 P) (fr3 P L4 L5 L6)) ρ 900 (nextC X) (stLex P X XD S D Q1 Q2 sv32 text k τ++out3 L4 L5 L6 es4 es5 es6 n4 n5 n6) b tk (orcN 1 353007260574956316188906909250631832438667978887711675544992530433514741751510970170766515888915186030545960094364201058381639234855033238929782374241071487988022981827461321630826982441409320494867178664043552514945122305 7 [(.eff 46 [0,3,4,5,6,1,2,9,10,11],0),(.note 1 [0,1],0),(.note 2 [0,1,2],0),(.note 2 [1,0,4],100000)])):=
 fP2 (by intros;kernel_rfl) (by intros;kernel_rfl) P
end
section
open PySem.Calls
open Sem (wp)
noncomputable abbrev fPyNext:=PySem.W.Fast.tw9404975358583537561
noncomputable abbrev fAssign:=PySem.W.Fast.tw17772580674575903948
noncomputable def nextT1 (it:Value):Sem PFin:=(fPyNext it).bind fun r=>.pure (.done (match r with | none=>.brk | some v=>.ret v))
noncomputable def restT (s:Stmt) (it:Value) (env:Env) (v:Value):Sem PFin:=match s with
 | .For target _ body orelse _=>(fAssign target env v).bind fun _=>(fExecs body env).bind fun f=>match f with
   | .next=>.pure (.again (.forLoop target it body orelse env))
   | .cont=>.pure (.again (.forLoop target it body orelse env))
   | .brk=>.pure (.done .next)
   | .ret v=>.pure (.done (.ret v))
 | _=>.pure (.done .brk)
noncomputable def isTupFor (s:Stmt):Prop:=∃ elts x1 tp iter body orelse pos,s= .For (.Tuple elts x1 tp) iter body orelse pos
section
variable {w:World} {A:Around} {s:Shared}
theorem wp_nextT1 {it:Value} {Q:Option Value→Shared→Prop} {E:Value→Shared→Prop} (h:wpAny (MM w) A (nextT1 it) (fun fin s'=>match fin with | .done .brk=>Q none s' | .done (.ret v)=>Q (some v) s' | _=>False) E s):wpAny (MM w) A (pyNext it) Q E s:=by
 intro Γ p hΓ
 have z:=h Γ p hΓ
 unfold nextT1 fPyNext at z
 rw [←PySem.W.Fast.te9404975358583537561,Sem.wp_bind] at z
 refine Sem.wp_mono _ _ _ (fun r p' s' q=>?_) (fun _ _ _ q=>q) p s z
 cases r with
 | none=>exact q
 | some v=>exact q
theorem restT_eq {target iter:Expr} {body orelse:List Stmt} {pos:Pos} {it:Value} {env:Env} {v:Value}:restT (.For target iter body orelse pos) it env v=((assign target env v).bind fun _=>(execs body env).bind fun f=>match f with
 | .next=>.pure (.again (.forLoop target it body orelse env))
 | .cont=>.pure (.again (.forLoop target it body orelse env))
 | .brk=>.pure (.done .next)
 | .ret v=>.pure (.done (.ret v))):=by
 unfold restT fAssign fExecs
 rw [←PySem.W.Fast.te17772580674575903948,←PySem.W.Fast.te12563942051412417395]
theorem wpAny_letOwned {elts:List Expr} {x1} {pos:Pos} {e it a:Addr} {i:Int} {item:Value} {Q:Unit→Shared→Prop} {E:Value→Shared→Prop} (he:s.heap.get? e=some (itO "enumerate" [.int a 0,.bool false,.ref it,.int i 0,.none,item]))
 (hQ:Q () { s with heap:=s.heap.update e (Obj.mapFields (·.setIfInBounds 0 .none)) }):wpAny (MM w) A (letOwnedTupleGo (.Tuple elts x1 pos) (.ref e) (.ref a)) Q E s:=by
 unfold letOwnedTupleGo
 refine wpAny_bind (wpAny_load he ?_)
 show wpAny _ A (if (["enumerate","zip","dict_itemiterator","dict_reverseitemiterator","odict_iterator","itertools.zip_longest","itertools.pairwise"].contains "enumerate" &&
  (#[rawInt a,.bool false,.ref it,rawInt i,.none,item]:Array Value)[0]? == some (rawInt a))=true then _ else _) Q E s
 rw [if_pos (by simp)]
 refine wpAny_bind (wpAny_rule ?_)
 show wpAny _ A (setField (.ref e) 0 .none) Q E s
 exact wpAny_setField he rfl (by simp [itO]) hQ
end
section
variable {B:Nat} {V:RV} {w:World}
theorem LF.enum {P:Post} (hn:V.fr=none) (O:VOk V pw_il0098_01 w) (HR:∀ i R,V.rules i=some R→RuleOk (B+52) V pw_il0098_01 w R) (hB:B+4≤800) {n:Nat} {is1 is2:List Nat} (hn1:nodupB is1=true) (hn2:nodupB is2=true) {o1 o2:Orc}
 {sm:Stmt} (hs:isTupFor sm) {EN it:Addr} {i:Int} {item:Nat→(Nat→Tok)→Value} {env:Env} {st:St} {stA stB:Nat→St} {j:Nat}
 {v1:Unk→Nat→Want} (path1:∀ τ b tk ρ,PathI is1 (v1 ρ) (runV V ρ n (nextT1 (.ref EN)) (st τ) b tk o1))
 (fin1:∀ ρ sz,(∀ p∈(v1 ρ sz).conds,p)∧∃ U,(∀ tr,(v1 ρ sz).r tr= .inl (.done (.ret (.ref U))))∧(v1 ρ sz).st=stA U)
 (hj:∀ U τ,(stA U τ)[j]? =some (EN,itO "enumerate" [.int U 0,.bool false,.ref it,.int i 0,.none,item U τ]))
 (hset:∀ U τ,(stA U τ).set j (EN,itO "enumerate" [.none,.bool false,.ref it,.int i 0,.none,item U τ])=stB U τ)
 {v2:Nat→Nat→Unk→Nat→Want} (path2:∀ U τ b tk ρ,PathI is2 (v2 U b ρ) (runV V ρ n (restT sm (.ref EN) env (.ref U)) (stB U τ) b tk o2))
 (hw:(loopC sm (.ref EN) env).weight≤4)
 (fin2:∀ U b ρ sz,(∀ p∈(v2 U b ρ sz).conds,p)∧(913≤sz→∀ tr,∃ f,(v2 U b ρ sz).r tr= .inl f∧EndOk B V w P (v2 U b ρ sz).st sz (.inl f)))
 (HV:∀ i R,V.rv i=some R→RuleVOk (B+52) V pw_il0098_01 w R:=by intro i R e;exact nomatch (show (none:Option ERuleV)=some R from e)):LF B V w (loopC sm (.ref EN) env) st P:=by
 obtain ⟨elts,x1,tpos,iter,body,orelse,pos,rfl⟩:=hs
 intro τ A h₀ h b g dr tok os hfr hA hd hb D
 refine codeAny_of_tree ?_
 show wpAny _ _ ((forTurn (.Tuple elts x1 tpos) (.ref EN) body orelse env).onRaise (fun x=>do noteFrame x env;theTreesLotGoes x)) _ _ _
 refine wpAny_onRaise (wpAny_mono (E:=fun _ _=>False) ?_ (fun _ _ q=>q) fun _ _ (x:False)=>x.elim)
 simp only [forTurn]
 refine wpAny_bind (wpAny_standAt (wpAny_bind (wpAny_onRaise (wp_nextT1 ?_))))
 have hd1:(A.under (loopC (.For (.Tuple elts x1 tpos) iter body orelse pos) (.ref EN) env)).depth≤B+4:=by
  show A.depth+_≤_;exact ar55
 have ha1:(A.under (loopC (.For (.Tuple elts x1 tpos) iter body orelse pos) (.ref EN) env)).handled=none:=hA
 refine by_pathI (B:=B+4) (hfr:=by intro l e;rw [hn] at e;cases e) (HV:=HV) O HR hn1 (fun ρ=>path1 τ b tok ρ) (ar11) ⟨hd1,ha1⟩ D hb fun ρ sz=>⟨(fin1 ρ sz).1,fun h1 g1 tr1 τ1 tok1 hsz hg D1=>?_⟩
 obtain ⟨-,U,e1,e2⟩:=fin1 ρ sz
 rw [e1 tr1]
 rw [e2] at D1
 show wpAny _ _ _ _ _ _
 refine wpAny_bind (wpAny_letOwned (D1.own _ _ (hj U τ1)) ?_)
 have D2:=D1.update (f:=Obj.mapFields (·.setIfInBounds 0 .none)) (hj U τ1) rfl
 have D3:Rep V h₀ (h1.update EN (Obj.mapFields (·.setIfInBounds 0 .none))) (stB U τ1) sz:=by
  rw [←hset];exact D2
 have es:sz=sz - 900+900:=ar1'
 rw [es] at D3
 have rest:=by_pathI (A:=A.under (loopC (.For (.Tuple elts x1 tpos) iter body orelse pos) (.ref EN) env)) (B:=B+4) (dr:=dr) (os:=os) (g:=g1) (Q:=fun fin s'=>match fin with
  | .done f=>LR V P h₀ g dr os (.ok f) s'
  | .again c'=>c'.quiet=true∧codeAny (MM w) A c' (LR V P h₀ g dr os) s') (E:=fun _ _=>False) (hfr:=by intro l e;rw [hn] at e;cases e) (HV:=HV) O HR hn2 (fun ρ=>path2 U τ1 (sz - 900) tok1 ρ) (ar11) ⟨hd1,ha1⟩ D3 (ar2) fun ρ2 sz2=>⟨(fin2 U (sz - 900) ρ2 sz2).1,fun h3 g3 tr3 τ3 tok3 hsz3 hg3 D4=>by
    obtain ⟨f,q0,q⟩:=(fin2 U (sz - 900) ρ2 sz2).2 hsz3 tr3
    have es:sz2 - 900+900=sz2:=ar1
    rw [q0]
    revert q
    cases f with
    | done f=>exact fun q=>⟨_,sz2 - 900,tok3,g3,q τ3,by rw [es];exact D4,ar2,hg.trans hg3,rfl⟩
    | again c'=>
      intro q
      refine ⟨q.1,?_⟩
      exact codeAny_mono (q.2 τ3 A h₀ h3 (sz2 - 900) g3 dr tok3 os hfr hA hd (ar2) (by rw [es];exact D4)) fun x s'=>LR.trans (hg.trans hg3)⟩
 rw [restT_eq] at rest
 exact rest
end
noncomputable def enumS (js:List Nat) (args:List Value) (T:List Cell):Option EOut:=match args with
 | [.type ty,v]=>match Nat.beq (PySem.code ty) (PySem.code "enumerate") with
   | true=>match v with
     | .ref l=>match js with
       | [j]=>(T[j]?).bind fun x=>(itemsO "list" x.2).bind fun q=>some ⟨[(.nat l,.nat x.1)],[],fun b t u=>(.ok (.ret (.ref (b+899))),(b+899,itO "enumerate" [.none,.bool false,.ref (b+898),.int 0 0,.none,.none])::(b+898,itO "list_iterator" [.ref x.1,.int 0 0])::T)⟩
       | _=>none
     | .str s t=>some ⟨[],[s.cps.all (· < 128)=true],fun b _ u=>(.ok (.ret (.ref (b+899))),(b+899,itO "enumerate" [.none,.bool false,.ref (b+898),.int 0 0,.none,.none])::(b+898,itO "str_ascii_iterator" [.str s t,.int 0 0])::T)⟩
     | _=>none
   | false=>none
 | _=>none
noncomputable abbrev enumR:ERule:=mkH "enumerate.__new__" enumS
theorem enum_post {V:RV} {h₀:Fr} {h:Heap} {T:List Cell} {sz:Nat} {o:Obj} (D:Rep V h₀ h T sz) (hsz:913≤sz) (ho:o.isFreed=false):
 Rep V h₀ ((h.push o).push (itO "enumerate" [.none,.bool false,.ref h.objs.size,.int 0 0,.none,.none])) ((sz+2 - 900+899,itO "enumerate" [.none,.bool false,.ref (sz+2 - 900+898),.int 0 0,.none,.none])::(sz+2 - 900+898,o)::T) (sz+2 - 900+900):=by
 rw [show sz+2 - 900+899=sz+1 by exact ar6,show sz+2 - 900+898=sz by exact ar7,show sz+2 - 900+900=sz+1+1 by exact ar8]
 have D1:=D.alloc (x:=o) ho
 have hz:h.objs.size=sz:=D.size
 rw [hz]
 exact D1.alloc (x:=itO "enumerate" [.none,.bool false,.ref sz,.int 0 0,.none,.none]) rfl
theorem enumR_ok {B:Nat} {V:RV} {w:World}:RuleOk B V pw_il0098_01 w enumR:=mkH_ok (by
 intro js args T eo he h1 h2 A h₀ h sz g dr tok os hA hd D hsz
 unfold enumS at he
 split at he
 ·rename_i ty v
  cases hc:Nat.beq (PySem.code ty) (PySem.code "enumerate") with
  | false=>rw [hc] at he;cases he
  | true=>
    obtain rfl:ty="enumerate":=code_inj _ _ (Nat.eq_of_beq_eq_true hc)
    rw [hc] at he
    dsimp only at he
    have hz:h.objs.size=sz:=D.size
    have ev:∀ (o:Obj),(h.push o).objs.size=sz+2 - 900+899:=fun o=>by rw [Heap.size_push,hz];exact ar6'
    split at he
    ·rename_i l
     split at he
     ·rename_i j
      replace he:=bndE he;obtain ⟨x,hT,he⟩:=he
      replace he:=bndE he;obtain ⟨q,hq,he⟩:=he
      cases he
      obtain rfl:l=x.1:=Side.nat.inj (h1 _ (.head _))
      have ho:=itemsO_spec hq
      have hx:=D.own _ _ hT
      rw [ho] at hx
      have key:∀ R:Result→Shared→Prop,R (.ok (.ret (.ref (h.push (itO "list_iterator" [.ref x.1,.int 0 0])).objs.size))) ⟨(h.push (itO "list_iterator" [.ref x.1,.int 0 0])).push (itO "enumerate" [.none,.bool false,.ref h.objs.size,.int 0 0,.none,.none]),g,dr,tok,os⟩→
       codeAny (MM w) A (.call (.builtin "enumerate.__new__") ⟨[.type "enumerate",.ref x.1],[]⟩) R ⟨h,g,dr,tok,os⟩:=fun R hR=>
       codeAny_call_builtin F.called_enumerate.plain F.entry_enumerate_new (wpAny_of_eq (F.newCall_enumerate_1 _) (meets_enumerate_newL x.1 ⟨q.1⟩ q.2 none #[] pw_il0098_01 w A R _ ⟨hx,hR⟩))
      refine key _ ⟨sz+2 - 900,tok,fun _=>0,g,?_,enum_post D hsz rfl,by exact ar9,GR.refl _ _,rfl⟩
      show Except.ok (Flow.ret (Value.ref _))=Except.ok (Flow.ret (Value.ref _))
      rw [ev]
     ·cases he
    ·rename_i s t
     cases he
     have ha:s.cps.all (· < 128)=true:=h2 _ (.head _)
     have hi:strIterType s="str_ascii_iterator":=by unfold strIterType;rw [ha];rfl
     have m:=meets_enumerate_newS s t
     rw [hi] at m
     have key:∀ R:Result→Shared→Prop,R (.ok (.ret (.ref (h.push (itO "str_ascii_iterator" [.str s t,.int 0 0])).objs.size))) ⟨(h.push (itO "str_ascii_iterator" [.str s t,.int 0 0])).push (itO "enumerate" [.none,.bool false,.ref h.objs.size,.int 0 0,.none,.none]),g,dr,tok,os⟩→
      codeAny (MM w) A (.call (.builtin "enumerate.__new__") ⟨[.type "enumerate",.str s t],[]⟩) R ⟨h,g,dr,tok,os⟩:=fun R hR=>
      codeAny_call_builtin F.called_enumerate.plain F.entry_enumerate_new (wpAny_of_eq (F.newCall_enumerate_1 _) (m pw_il0098_01 w A R _ hR))
     refine key _ ⟨sz+2 - 900,tok,fun _=>0,g,?_,enum_post D hsz rfl,by exact ar9,GR.refl _ _,rfl⟩
     show Except.ok (Flow.ret (Value.ref _))=Except.ok (Flow.ret (Value.ref _))
     rw [ev]
    ·cases he
 ·cases he)
noncomputable abbrev fEval:=PySem.W.Fast.tw14044960220447912780
noncomputable abbrev fIsTrue:=PySem.W.Fast.tw15418851999007992765
noncomputable abbrev fPyIter:=PySem.W.Fast.tw8711993805878244202
noncomputable def evalT1 (e:Expr) (env:Env):Sem PFin:=(fEval e env).bind fun v=>.pure (.done (.ret v))
noncomputable def testT1 (e:Expr) (env:Env):Sem PFin:=(fIsTrue e env (fEval e env)).bind fun b=>.pure (.done (match b with | true=>.brk | false=>.next))
noncomputable def execsT1 (l:List Stmt) (env:Env):Sem PFin:=(fExecs l env).bind fun f=>.pure (.done f)
noncomputable def asgT1 (t:Expr) (v:Value) (env:Env):Sem PFin:=(fAssign t env v).bind fun _=>.pure (.done .next)
noncomputable def iterT1 (v:Value):Sem PFin:=(fPyIter v).bind fun v=>.pure (.done (.ret v))
section
variable {w:World} {A:Around} {s:Shared} {E:Value→Shared→Prop}
theorem wp_enc {α:Type} {m:Sem α} {f:α→PFin} {Q:α→Shared→Prop} {Q':PFin→Shared→Prop} (h:wpAny (MM w) A (m.bind fun a=>.pure (f a)) Q' E s) (k:∀ a s',Q' (f a) s'→Q a s'):wpAny (MM w) A m Q E s:=by
 intro Γ p hΓ
 have z:=h Γ p hΓ
 rw [Sem.wp_bind] at z
 exact Sem.wp_mono _ _ _ (fun r p' s' q=>k _ _ q) (fun _ _ _ q=>q) p s z
theorem wp_evalT1 {e:Expr} {env:Env} {Q:Value→Shared→Prop} (h:wpAny (MM w) A (evalT1 e env) (fun fin s'=>match fin with | .done (.ret v)=>Q v s' | _=>False) E s):wpAny (MM w) A (eval e env) Q E s:=by
 unfold evalT1 fEval at h
 rw [←PySem.W.Fast.te14044960220447912780] at h
 exact wp_enc h fun a s' q=>q
theorem wp_testT1 {e:Expr} {env:Env} {Q:Bool→Shared→Prop} (h:wpAny (MM w) A (testT1 e env) (fun fin s'=>match fin with | .done .brk=>Q true s' | .done .next=>Q false s' | _=>False) E s):wpAny (MM w) A (isTrue e env (eval e env)) Q E s:=by
 unfold testT1 fEval fIsTrue at h
 rw [←PySem.W.Fast.te14044960220447912780,←PySem.W.Fast.te15418851999007992765] at h
 exact wp_enc h fun a s' q=>by cases a <;> exact q
theorem wp_execsT1 {l:List Stmt} {env:Env} {Q:Flow→Shared→Prop} (h:wpAny (MM w) A (execsT1 l env) (fun fin s'=>match fin with | .done f=>Q f s' | _=>False) E s):wpAny (MM w) A (execs l env) Q E s:=by
 unfold execsT1 fExecs at h
 rw [←PySem.W.Fast.te12563942051412417395] at h
 exact wp_enc h fun a s' q=>q
theorem wp_asgT1 {t:Expr} {v:Value} {env:Env} {Q:Unit→Shared→Prop} (h:wpAny (MM w) A (asgT1 t v env) (fun fin s'=>match fin with | .done _=>Q () s' | _=>False) E s):wpAny (MM w) A (assign t env v) Q E s:=by
 unfold asgT1 fAssign at h
 rw [←PySem.W.Fast.te17772580674575903948] at h
 exact wp_enc h fun a s' q=>q
theorem wp_iterT1 {v:Value} {Q:Value→Shared→Prop} (h:wpAny (MM w) A (iterT1 v) (fun fin s'=>match fin with | .done (.ret v)=>Q v s' | _=>False) E s):wpAny (MM w) A (pyIter v) Q E s:=by
 unfold iterT1 fPyIter at h
 rw [←PySem.W.Fast.te8711993805878244202] at h
 exact wp_enc h fun a s' q=>q
theorem execs_app (l1 l2:List Stmt) (env:Env):execs (l1++l2) env=(execs l1 env).bind fun f=>match f with | .next=>execs l2 env | f=>.pure f:=by
 induction l1 with
 | nil=>rfl
 | cons a l ih=>
   rw [List.cons_append,execs_cons,execs_cons]
   show Sem.bind _ _=Sem.bind (Sem.bind _ _) _
   rw [Sem.bind_assoc]
   congr 1;funext f
   cases f with
   | next=>exact ih
   | cont=>rfl
   | brk=>rfl
   | ret v=>rfl
theorem wpAny_execs_app {l1 l2:List Stmt} {env:Env} {Q:Flow→Shared→Prop} (h:wpAny (MM w) A (execs l1 env) (fun f s'=>match f with | .next=>wpAny (MM w) A (execs l2 env) Q E s' | f=>Q f s') E s):wpAny (MM w) A (execs (l1++l2) env) Q E s:=by
 rw [execs_app]
 refine wpAny_bind (wpAny_mono h (fun f s' q=>?_) fun _ _ x=>x)
 cases f with
 | next=>exact q
 | cont=>exact wpAny_pure q
 | brk=>exact wpAny_pure q
 | ret v=>exact wpAny_pure q
end
section
variable {w:World} {A:Around} {R:GenEnd} {Y:Protocol} {n:Nat} {s₀:Shared} {c:Code} {fs:List Frame} {s:Shared} {env:Env}
 {K:Flow→Sem Fin} {H:Value→Sem Fin} {gd:Bool→Bool} {lv:List Value→List Value}
theorem seg_part {α:Type} {m:Sem α} {K:α→Sem Fin} {H:Value→Sem Fin} (h:wpAny (MM w) (A.over c fs) m (fun a s'=>Seg (MM w) A R Y n s₀ c (K a) fs s') (fun _ _=>False) s):Seg (MM w) A R Y n s₀ c (m.wrap K H gd lv) fs s:=
 seg_wrap (wpAny_mono h (fun _ _ q=>q) fun _ _ (q:False)=>q.elim)
theorem seg_If {test:Expr} {body orelse:List Stmt} {pos:Pos}
 (h:wpAny (MM w) (A.over c fs) (isTrue test env (eval test env)) (fun b s'=>Seg (MM w) A R Y n s₀ c ((if b=true then execs body env else execs orelse env).wrap K H gd lv) fs s') (fun _ _=>False) s):
 Seg (MM w) A R Y n s₀ c ((exec (.If test body orelse pos) env).wrap K H gd lv) fs s:=by
 rw [arm_exec_If]
 show Seg (MM w) A R Y n s₀ c (.at pos fun _=>((isTrue test env (eval test env)) >>= fun b=>if b=true then execs body env else execs orelse env).wrap K H gd lv) fs s
 refine seg_at ?_
 rw [Sem.bind_eq_wrap',Sem.wrap_wrap]
 exact seg_part h
theorem seg_For {target iter:Expr} {body orelse:List Stmt} {pos:Pos} (hs:∀ x,foldedSetIterable iter env x=pure x)
 (h:wpAny (MM w) (A.over c fs) (eval iter env) (fun x s₁=>wpAny (MM w) (A.over c fs) (pyIter x) (fun it s₂=>
   ∀ p,Seg (MM w) A R Y n s₀ (.forLoop target it body orelse env) ((MM w).den (.forLoop target it body orelse env))
    [.ret (fun r=>((match r with | .ok f=>(.pure f:Sem Flow) | .error e=>.raise e).onRaise fun (x:Value)=>do
     if (←field x 1) == Value.none then unsupported "frame.own-activation:exception-without-traceback"
     setFlight x env.frame).wrap K H gd lv) none (gd false) (lv []) c p []] s₂) (fun _ _=>False) s₁) (fun _ _=>False) s) (hfs:fs=[]):
 Seg (MM w) A R Y n s₀ c ((exec (.For target iter body orelse pos) env).wrap K H gd lv) fs s:=by
 subst hfs
 rw [exec_For]
 show Seg (MM w) A R Y n s₀ c (.at pos fun _=>((eval iter env) >>= fun x=>(foldedSetIterable iter env x) >>= fun x=>(standAt iter.pos) >>= fun _=>(holding [x] (pyIter x)) >>= fun it=>runOwn (.forLoop target it body orelse env) env).wrap K H gd lv) [] s
 refine seg_at ?_
 rw [Sem.bind_eq_wrap',Sem.wrap_wrap]
 refine seg_part (wpAny_mono h (fun x s₁ h₁=>?_) fun _ _ q=>q)
 rw [hs]
 show Seg (MM w) A R Y n s₀ c (.at iter.pos fun _=>((holding [x] (pyIter x)) >>= fun it=>runOwn (.forLoop target it body orelse env) env).wrap K H gd lv) [] s₁
 refine seg_at ?_
 rw [Sem.bind_eq_wrap',Sem.wrap_wrap]
 refine seg_part (wpAny_holding (wpAny_mono h₁ (fun it s₂ h₂=>?_) fun _ _ q=>q))
 exact seg_call fun p=>h₂ p
theorem seg_forLoop {target:Expr} {it:Value} {body orelse:List Stmt} {c:Code} (hc:c= .forLoop target it body orelse env)
 (h:wpAny (MM w) (A.over c fs) (pyNext it) (fun r s₁=>match r with
   | none=>Seg (MM w) A R Y n s₀ (.block orelse env) ((MM w).den (.block orelse env)) fs s₁
   | some v=>wpAny (MM w) (A.over c fs) (letOwnedTupleGo target it v) (fun _ s₂=>wpAny (MM w) (A.over c fs) (assign target env v) (fun _ s₃=>
      Seg (MM w) A R Y n s₀ c ((execs body env).wrap (fun f=>match f with
       | .next | .cont=>.pure (.again c)
       | .brk=>.pure (.done .next)
       | .ret v=>.pure (.done (.ret v))) (fun e=>(do noteFrame e env;theTreesLotGoes e:Sem Unit).wrap (fun _=>.raise e) .raise id id) id id) fs s₃) (fun _ _=>False) s₂) (fun _ _=>False) s₁) (fun _ _=>False) s):
 Seg (MM w) A R Y n s₀ c ((MM w).den c) fs s:=by
 subst hc
 show Seg _ A R Y n s₀ _ ((forTurn target it body orelse env).onRaise (fun x=>do noteFrame x env;theTreesLotGoes x)) fs s
 unfold forTurn
 rw [Sem.onRaise_eq_wrap]
 show Seg (MM w) A R Y n s₀ _ (.at target.pos fun _=>Sem.wrap _ _ _ _ (((pyNext it).onRaise _) >>= _)) fs s
 refine seg_at ?_
 rw [Sem.bind_eq_wrap',Sem.wrap_wrap,Sem.onRaise_eq_wrap,Sem.wrap_wrap]
 refine seg_part (wpAny_mono h (fun r s₁ h₁=>?_) fun _ _ q=>q)
 cases r with
 | none=>exact seg_again rfl h₁
 | some v=>
   show Seg (MM w) A R Y n s₀ _ (((letOwnedTupleGo target it v) >>= fun _=>(assign target env v) >>= fun _=>(execs body env) >>= fun f=>_).wrap _ _ _ _) fs s₁
   rw [Sem.bind_eq_wrap',Sem.wrap_wrap]
   refine seg_part (wpAny_mono h₁ (fun _ s₂ h₂=>?_) fun _ _ q=>q)
   rw [Sem.bind_eq_wrap',Sem.wrap_wrap]
   refine seg_part (wpAny_mono h₂ (fun _ s₃ h₃=>?_) fun _ _ q=>q)
   rw [Sem.bind_eq_wrap',Sem.wrap_wrap]
   rw [Sem.wrap_congr (execs body env) _ _ (K':=fun f=>match f with
    | .next | .cont=>.pure (.again (.forLoop target it body orelse env))
    | .brk=>.pure (.done .next)
    | .ret v=>.pure (.done (.ret v))) (H':=(fun e=>(do noteFrame e env;theTreesLotGoes e:Sem Unit).wrap (fun _=>.raise e) .raise id id))
    (fun f=>by cases f <;> rfl)
    (fun e=>by first | exact Sem.bind_eq_wrap _ _ | (show (do noteFrame e env;theTreesLotGoes e:Sem Unit).bind (fun _=>.raise e)=_;rw [Sem.bind_eq_wrap]))]
   exact h₃
end
end
section
open PySem.Calls
theorem lex_q (P:Params):∀ (ρ:Unk) (τ:Nat→Tok) (X XD S D Q1 Q2:Nat) (text:Str) (k:Nat) (b tk:Nat),
 PathI [1,2,3,4,7,8] (fun _=>⟨fun u=>.inl (.done (.ret (.str (tkV text k).tok u))),[okS (restS text k),(tkS (restS text k)).isSome=true,(tkV text k).q=true,0 < (tkV text k).tok.length,text.length≤sizeLine,k≤text.length],fun τ=>stLex P X XD S D Q1 Q2 (svE (tkV text k).e) text (tkK text k) (putT 23 (ρ.u 0 32) τ)⟩)
  (runV (VK P (rules4 P)) ρ 900 (nextT1 (.ref X)) (stLex P X XD S D Q1 Q2 sv32 text k τ) b tk (orcN 0 154276867620306918448919238713775051254175820210658173102457067899511593340965428543808435496049426745626113153258530069801626627839488612133315129786400035315116263750382384708220671577637576692779799274537910271497108458987377933119182647077374221524127175749569313537460764482626643366541273556858652292226178579988541192937206100038687369845176555917739888882411944554927173590562460017402551905293307838989361571056008325757262730173436705286037830432709821923649 7 [(.eff 43 [0,3,4,5,6],100000)])):=
 fP2 (by intros;kernel_rfl) (by intros;kernel_rfl) P
theorem lex_u (P:Params):∀ (ρ:Unk) (τ:Nat→Tok) (X XD S D Q1 Q2:Nat) (text:Str) (k:Nat) (b tk:Nat),
 PathI [1,2,3,4,7,8] (fun _=>⟨fun u=>.inl (.done (.ret (.str (tkV text k).tok u))),[¬(tkV text k).tok=⟨⟨[]⟩⟩,okS (restS text k),(tkS (restS text k)).isSome=true,(tkV text k).q=false,0 < (tkV text k).tok.length,text.length≤sizeLine,k≤text.length],fun τ=>stLex P X XD S D Q1 Q2 (svE (tkV text k).e) text (tkK text k) (putT 23 (ρ.u 0 32) τ)⟩)
  (runV (VK P (rules4 P)) ρ 900 (nextT1 (.ref X)) (stLex P X XD S D Q1 Q2 sv32 text k τ) b tk (orcN 0 10110688796364434207468371228345961758993666553325694032442626401862391781193510325047029628669095231201352951611951026654519402682088725684768940345681512714411459461145059964237949932512056226137947647353291901102210365667798266889880251411127259181649087933777914097191452356507145380815942473445107013505256175230347852111134057033775738335323761214429479550275683655212072901967225299914877695954006971319829412713121697859986618978034716946040543297807136157742465345 7 [(.eff 44 [0,3,4,5,6],4),(.eff 0 [0],100000)])):=
 fP2 (by intros;kernel_rfl) (by intros;kernel_rfl) P
theorem lex_end (P:Params):∀ (ρ:Unk) (τ:Nat→Tok) (X XD S D Q1 Q2:Nat) (L4 L5 L6:Nat) (es4 es5 es6:List DictEntry) (n4 n5 n6:Nat) (text:Str) (k:Nat) (b tk:Nat),
 PathI [13,14,15] (fun _=>⟨fun _=>.inl (.done .brk),[(⟨⟨[]⟩⟩:Str)=(⟨⟨[]⟩⟩:Str),text.length≤sizeLine,k=text.length],fun τ=>out3R P L4 L5 L6 es4 es5 es6 n4 n5 n6 (ρ.v 3 6)⟩)
  (runV (VR P (rules4 P) (rv4 P) (fr3 P L4 L5 L6)) ρ 900 (nextT1 (.ref X)) (stLex P X XD S D Q1 Q2 svN text k τ++out3 L4 L5 L6 es4 es5 es6 n4 n5 n6) b tk (orcN 0 31561055604175480709458740352599472130817813235810299270303896631545041520151745536529446449241152254459230512148796269671598164431268804244182073702329744800870605951480568119113271385465860218591915838027547274711885096640211983873349321141683103191963387199251185621023522287584427655553486346252430617302148597023134182928648787031294576632291965985130937984770293573368796225218236804933032261739192813715169830472411718105858583244934635575705139674747204307250113384286255408164314763296653861705889022570588040555239477597516719331844936851231162285711599002027585955480283955264832714476788794889538008842561 7 [(.eff 45 [0,3,4,5,6],4),(.eff 0 [1],26),(.note 0 [1,9,12,13,14],100000)])):=
 fP2 (by intros;kernel_rfl) (by intros;kernel_rfl) P
theorem lex_bad (P:Params):∀ (ρ:Unk) (τ:Nat→Tok) (X XD S D Q1 Q2:Nat) (L4 L5 L6:Nat) (es4 es5 es6:List DictEntry) (n4 n5 n6:Nat) (text:Str) (k:Nat) (b tk:Nat),
 PathI [2,0,6,7,8] (fun _=>⟨fun _=>.inr (.ref (ρ.u 0 0)),[okS (restS text k),tkS (restS text k)=none,text.length≤sizeLine,k≤text.length],fun τ=>(ρ.u 0 0,excO "ValueError" (ρ.u 0 1) (ρ.b 0+901))::(ρ.b 0+901,tbN (.ref (ρ.b 0+900)) (b+900) (ρ.v 3))::out3R P L4 L5 L6 es4 es5 es6 n4 n5 n6 (ρ.v 0 6)⟩)
  (runV (VR P (rules4 P) (rv4 P) (fr3 P L4 L5 L6)) ρ 900 (nextT1 (.ref X)) (stLex P X XD S D Q1 Q2 sv32 text k τ++out3 L4 L5 L6 es4 es5 es6 n4 n5 n6) b tk (orcN 0 1516202018512148766369709972615311726151161473566649899578875354235385597838147791920206023796611535007962976922448751475042429403031070060016506500579932352964895387195534995916577903512744382866862611443573164241844965839242068289 7 [(.eff 46 [0,3,4,5,6,1,2,9,10,11],0),(.note 1 [0,1],0),(.note 2 [0,1,2],0),(.note 2 [1,0,4],100000)])):=
 fP2 (by intros;kernel_rfl) (by intros;kernel_rfl) P
noncomputable def stP (P:Params) (L it SL NL W:Nat) (vs nm:List Value) (e:Nat) (i:Int) (name:Str):St:=fun τ=>[(L,frO [E P ⟨⟨[119,111,114,100,115]⟩⟩ (τ 0) (.ref W),E P ⟨⟨[110,97,109,101,115]⟩⟩ (τ 2) (.ref NL),E P ⟨⟨[110,97,109,101]⟩⟩ (τ 4) (.str name (τ 5))] 3),(it,itO "list_iterator" [.ref SL,.int i 0]),(SL,seqO "list" vs 0),(NL,seqO "list" nm e)]
noncomputable def stP0 (P:Params) (L it SL NL W:Nat) (vs nm:List Value) (e:Nat) (i:Int):St:=fun τ=>[(L,frO [E P ⟨⟨[119,111,114,100,115]⟩⟩ (τ 0) (.ref W),E P ⟨⟨[110,97,109,101,115]⟩⟩ (τ 2) (.ref NL)] 2),(it,itO "list_iterator" [.ref SL,.int i 0]),(SL,seqO "list" vs 0),(NL,seqO "list" nm e)]
noncomputable def stPz (P:Params) (L it SL NL W:Nat) (vs nm:List Value) (e:Nat) (i:Int) (name:Str):St:=fun τ=>[(L,frO [E P ⟨⟨[119,111,114,100,115]⟩⟩ (τ 0) (.ref W),E P ⟨⟨[110,97,109,101,115]⟩⟩ (τ 2) (.ref NL),E P ⟨⟨[110,97,109,101]⟩⟩ (τ 4) (.str name (τ 5))] 3),(NL,seqO "list" nm e)]
noncomputable def codeP (P:Params) (L it:Nat):Code:=loopC (stm (st 52) 1) (.ref it) (envF (o900 P) 900 L)
theorem path_dots (P:Params):∀ (ρ:Unk) (τ:Nat→Tok) (L it SL NL W:Nat) (vs nm:List Value) (e:Nat) (k:Nat) (name:Str) (b tk:Nat),
 PathI [2,3,4,0] (fun _=>⟨(fun _=>.inl (.again (codeP P L it))),[(none:Option Int)=none,some (-1:Int)=some (-1),nm.length≤sizeLine,(sOf (vAtI vs (k:Int)))=(⟨⟨[46,46]⟩⟩:Str),vs[(k:Int).toNat]? =some (.str (sOf (vAtI vs (k:Int))) (tokV (vAtI vs (k:Int))))],stP P L it SL (ρ.b 2+899) W vs nm.dropLast 0 ((k:Int)+1) (sOf (vAtI vs (k:Int)))⟩)
  (runL (VK P rules6) ρ 300 (codeP P L it) (stP P L it SL NL W vs nm e (k:Int) name τ) b tk (orcN 0 1427314595962428535570965498351446342910789877762 0 [(.eff 60 [1,2,1],0),(.eff 0 [1],2),(.eff 55 [4,0,0],100000)])):=
 fP2 (by intros;kernel_rfl) (by intros;kernel_rfl) P
theorem path_name (P:Params):∀ (ρ:Unk) (τ:Nat→Tok) (L it SL NL W:Nat) (vs nm:List Value) (e:Nat) (k:Nat) (name:Str) (b tk:Nat),
 PathI [0,1,2,3] (fun _=>⟨(fun _=>.inl (.again (codeP P L it))),[nm.length < sizeLine,(sOf (vAtI vs (k:Int))).length < 2 ^ 63,(sOf (vAtI vs (k:Int))).length≠0,¬((sOf (vAtI vs (k:Int)))=(⟨⟨[46,46]⟩⟩:Str)),vs[(k:Int).toNat]? =some (.str (sOf (vAtI vs (k:Int))) (tokV (vAtI vs (k:Int))))],stP P L it SL NL W vs (nm++[.str (sOf (vAtI vs (k:Int))) (tokV (vAtI vs (k:Int)))]) (ρ.u 3 0) ((k:Int)+1) (sOf (vAtI vs (k:Int)))⟩)
  (runL (VK P rules6) ρ 300 (codeP P L it) (stP P L it SL NL W vs nm e (k:Int) name τ) b tk (orcN 0 93537566380019459612313713646669867968135053428457474 0 [(.eff 60 [1,2,1],0),(.eff 0 [0],0),(.eff 20 [1],0),(.eff 50 [3],100000)])):=
 fP2 (by intros;kernel_rfl) (by intros;kernel_rfl) P
theorem path_empty (P:Params):∀ (ρ:Unk) (τ:Nat→Tok) (L it SL NL W:Nat) (vs nm:List Value) (e:Nat) (k:Nat) (name:Str) (b tk:Nat),
 PathI [0,1,2,3] (fun _=>⟨(fun _=>.inl (.again (codeP P L it))),[(sOf (vAtI vs (k:Int))).length < 2 ^ 63,(sOf (vAtI vs (k:Int))).length=0,¬((sOf (vAtI vs (k:Int)))=(⟨⟨[46,46]⟩⟩:Str)),vs[(k:Int).toNat]? =some (.str (sOf (vAtI vs (k:Int))) (tokV (vAtI vs (k:Int))))],stP P L it SL NL W vs nm e ((k:Int)+1) (sOf (vAtI vs (k:Int)))⟩)
  (runL (VK P rules6) ρ 300 (codeP P L it) (stP P L it SL NL W vs nm e (k:Int) name τ) b tk (orcN 0 1180610067742964284719106 0 [(.eff 60 [1,2,1],0),(.eff 0 [0],0),(.eff 20 [0],100000)])):=
 fP2 (by intros;kernel_rfl) (by intros;kernel_rfl) P
theorem path_first (P:Params):∀ (ρ:Unk) (τ:Nat→Tok) (L it SL NL W:Nat) (vs nm:List Value) (e:Nat) (k:Nat) (name:Str) (b tk:Nat),
 PathI [0,1,2,3] (fun _=>⟨(fun _=>.inl (.again (codeP P L it))),[(sOf (vAtI vs (k:Int))).length < 2 ^ 63,(sOf (vAtI vs (k:Int))).length=0,¬((sOf (vAtI vs (k:Int)))=(⟨⟨[46,46]⟩⟩:Str)),vs[(k:Int).toNat]? =some (.str (sOf (vAtI vs (k:Int))) (tokV (vAtI vs (k:Int))))],stP P L it SL NL W vs nm e ((k:Int)+1) (sOf (vAtI vs (k:Int)))⟩)
  (runL (VK P rules6) ρ 300 (codeP P L it) (stP0 P L it SL NL W vs nm e (k:Int) τ) b tk (orcN 0 1180610067742964284719106 0 [(.eff 60 [1,2,1],0),(.eff 0 [0],0),(.eff 20 [0],100000)])):=
 fP2 (by intros;kernel_rfl) (by intros;kernel_rfl) P
theorem path_end (P:Params):∀ (ρ:Unk) (τ:Nat→Tok) (L it SL NL W:Nat) (vs nm:List Value) (e:Nat) (k:Nat) (name:Str) (b tk:Nat),
 PathI [2,5] (fun _=>⟨(fun _=>.inl (.again (.block [] (envF (o900 P) 900 L)))),[vs[(k:Int).toNat]? =none],stPz P L it SL NL W vs nm e ((k:Int)+1) name⟩)
  (runL (VK P rules6) ρ 300 (codeP P L it) (stP P L it SL NL W vs nm e (k:Int) name τ) b tk (orcN 0 4194369538 0 [(.eff 60 [1,2,0],100000)])):=
 fP2 (by intros;kernel_rfl) (by intros;kernel_rfl) P
noncomputable def pathStep (nm:List Value) (v:Value):List Value:=if sOf v=⟨⟨[46,46]⟩⟩ then nm.dropLast else if sOf v=⟨⟨[]⟩⟩ then nm else nm++[v]
theorem codeP_w (P:Params) (L it:Nat):(codeP P L it).weight≤4:=Nat.le_of_ble_eq_true (by kernel_rfl)
theorem codeP_q (P:Params) (L it:Nat):(codeP P L it).quiet=true:=by kernel_rfl
section
variable {B:Nat} {w:World} (hB:B+52≤800) (L it SL W:Nat) (vs:List Value) (hS:AllS vs) (hsz:∀ v∈vs,(sOf v).length≤sizeLine)
include hB hS hsz
omit hB hS hsz in
theorem last_at {k:Nat} (h:k+1=vs.length):vAtI vs (k:Int)=vs.getLastD .none:=by
 have:vs.getLast? =vs[k]?:=by rw [List.getLast?_eq_getElem?];congr 1;exact ar70
 rw [List.getLastD_eq_getLast?,this]
 show vs.getD ((k:Int)).toNat .none=_
 rw [Int.toNat_natCast,List.getD_eq_getElem?_getD]
theorem path_loop:∀ (n k NL:Nat) (nm:List Value) (e:Nat) (name:Str),k+n=vs.length→nm.length+n≤sizeLine→
 LF B (VK w.params rules6) w (codeP w.params L it) (stP w.params L it SL NL W vs nm e (k:Int) name)
  (fun x T b=>x= .ok .next∧∃ NL' e' τ,T=stPz w.params L it SL NL' W vs ((vs.drop k).foldl pathStep nm) e' 0 (if n=0 then name else sOf (vs.getLastD .none)) τ):=by
 have HR:=rules6_ok (B:=B+52) hB (V:=VK w.params rules6) (w:=w) rfl
 have O:=VK_ok w rules6
 intro n
 induction n with
 | zero=>
   intro k NL nm e name hk hl
   have hn:vs[((k:Nat):Int).toNat]? =none:=by rw [Int.toNat_natCast];exact List.getElem?_eq_none (ar17)
   refine LF.loop O HR (ar11) rfl (fun τ b tk ρ=>path_end w.params ρ τ L it SL NL W vs nm e k name b tk) (codeP_w ..) (fun ρ sz=>⟨cC hn c0,fun hsz tr=>⟨rfl,?_⟩⟩)
   refine (LF.block _).mono ?_
   rintro x T b ⟨rfl,τ,rfl⟩
   refine ⟨rfl,NL,e,τ,?_⟩
   rw [List.drop_eq_nil_of_le (ar17)]
   rfl
 | succ n ih=>
   intro k NL nm e name hk hl
   obtain ⟨v,hv,hd⟩:=drop_split (l:=vs) (k:=k) (ar21)
   have hs:=hS.at hv
   have hat:=vAtI_nat hv
   have hc1:vs[((k:Nat):Int).toNat]? =some (.str (sOf (vAtI vs (k:Int))) (tokV (vAtI vs (k:Int)))):=by rw [Int.toNat_natCast,hat,←hs];exact hv
   have e1:((k:Int)+1)=((k+1:Nat):Int):=ar47
   have hlt:(sOf (vAtI vs (k:Int))).length < 2 ^ 63:=by rw [hat];exact sizeLine_lt (hsz v (List.mem_of_getElem? hv))
   have enm:(if n=0 then sOf (vAtI vs (k:Int)) else sOf (vs.getLastD .none))=(if n+1=0 then name else sOf (vs.getLastD .none)):=by
    rw [if_neg (Nat.succ_ne_zero n)]
    split
    ·rename_i hn0;rw [last_at vs (ar22)]
    ·rfl
   rw [hd,List.foldl_cons,←enm]
   by_cases h1:sOf v=⟨⟨[46,46]⟩⟩
   ·refine LF.loop O HR (ar11) rfl (fun τ b tk ρ=>path_dots w.params ρ τ L it SL NL W vs nm e k name b tk) (codeP_w ..) (fun ρ sz=>⟨?_,fun hsz tr=>⟨codeP_q ..,?_⟩⟩)
    ·exact cC rfl (cC rfl (cC (ar12) (cC (by rw [hat];exact h1) (cC hc1 c0))))
    ·rw [e1,show pathStep nm v=nm.dropLast by unfold pathStep;rw [if_pos h1]]
     exact ih (k+1) _ nm.dropLast 0 _ (ar20) (by rw [List.length_dropLast];exact ar26)
   ·by_cases h2:sOf v=⟨⟨[]⟩⟩
    ·refine LF.loop O HR (ar11) rfl (fun τ b tk ρ=>path_empty w.params ρ τ L it SL NL W vs nm e k name b tk) (codeP_w ..) (fun ρ sz=>⟨?_,fun hsz tr=>⟨codeP_q ..,?_⟩⟩)
     ·exact cC hlt (cC (by rw [hat,h2];rfl) (cC (by rw [hat];exact h1) (cC hc1 c0)))
     ·rw [e1,show pathStep nm v=nm by unfold pathStep;rw [if_neg h1,if_pos h2]]
      exact ih (k+1) NL nm e _ (ar20) (by lia)
    ·refine LF.loop O HR (ar11) rfl (fun τ b tk ρ=>path_name w.params ρ τ L it SL NL W vs nm e k name b tk) (codeP_w ..) (fun ρ sz=>⟨?_,fun hsz tr=>⟨codeP_q ..,?_⟩⟩)
     ·exact cC (ar24) (cC hlt (cC (by rw [hat];exact fun q=>h2 (str_empty_iff.mp q)) (cC (by rw [hat];exact h1) (cC hc1 c0))))
     ·have e2:(Value.str (sOf (vAtI vs (k:Int))) (tokV (vAtI vs (k:Int))))=v:=by rw [hat];exact hs.symm
      rw [e1,show pathStep nm v=nm++[v] by unfold pathStep;rw [if_neg h1,if_neg h2]]
      have:=ih (k+1) NL (nm++[v]) (ρ.u 3 0) (sOf (vAtI vs (k:Int))) (ar20) (by rw [List.length_append];show nm.length+1+n≤_;exact ar23)
      rw [←e2] at this⊢
      exact this
end
noncomputable def pathS (P:Params) (L it SL NL W:Nat) (vs:List Value):LSpec where
 c₀:=codeP P L it
 st:=stP0 P L it SL NL W vs [] 0 0
 conds:=[AllS vs,∀ v∈vs,(sOf v).length≤sizeLine,vs.length≤sizeLine,sOf (vAtI vs 0)=⟨⟨[]⟩⟩,0 < vs.length]
 r:=fun _ _=>.ok .next
 st':=fun _ u=>stPz P L it SL (u 0) W vs (vs.foldl pathStep []) (u 1) 0 (sOf (vs.getLastD .none)) (fun j=>u (j+2))
theorem pathS_ok {B:Nat} (hB:B+52≤800) {w:World} (L it SL NL W:Nat) (vs:List Value):LoopOk B (VK w.params rules6) w (pathS w.params L it SL NL W vs):=by
 refine LF.toSpec rfl fun hc=>?_
 have hS:AllS vs:=hc _ (.head _)
 have hz:∀ v∈vs,(sOf v).length≤sizeLine:=hc _ (.tail _ (.head _))
 have hl:vs.length≤sizeLine:=hc _ (.tail _ (.tail _ (.head _)))
 have h0:sOf (vAtI vs 0)=⟨⟨[]⟩⟩:=hc _ (.tail _ (.tail _ (.tail _ (.head _))))
 have hp:0 < vs.length:=hc _ (.tail _ (.tail _ (.tail _ (.tail _ (.head _)))))
 have HR:=rules6_ok (B:=B+52) hB (V:=VK w.params rules6) (w:=w) rfl
 have O:=VK_ok w rules6
 obtain ⟨v,hv,hd⟩:=drop_split (l:=vs) (k:=0) hp
 have hs:=hS.at hv
 have hat:=vAtI_nat hv
 have h0':sOf (vAtI vs ((0:Nat):Int))=⟨⟨[]⟩⟩:=h0
 have hc1:vs[((0:Nat):Int).toNat]? =some (.str (sOf (vAtI vs ((0:Nat):Int))) (tokV (vAtI vs ((0:Nat):Int)))):=by rw [Int.toNat_natCast,hat,←hs];exact hv
 refine LF.loop O HR (ar11) rfl (fun τ b tk ρ=>path_first w.params ρ τ L it SL NL W vs [] 0 0 ⟨⟨[]⟩⟩ b tk) (codeP_w ..) (fun ρ sz=>⟨?_,fun hsz tr=>⟨codeP_q ..,?_⟩⟩)
 ·exact cC (by rw [h0'];decide) (cC (by rw [h0'];rfl) (cC (by rw [h0'];decide) (cC hc1 c0)))
 ·have:=path_loop (w:=w) hB L it SL W vs hS hz (vs.length - 1) 1 NL [] 0 (sOf (vAtI vs ((0:Nat):Int))) (ar18) (by exact ar73)
  refine LF.mono this ?_
  rintro x T b ⟨rfl,NL',e',τ,rfl⟩
  refine ⟨consT NL' (consT e' τ),rfl,?_⟩
  have e1:(vs.drop 1).foldl pathStep []=vs.foldl pathStep []:=by
   rw [show vs.drop 1=vs.drop (0+1) from rfl]
   conv=>rhs;rw [←List.drop_zero (l:=vs),hd,List.foldl_cons]
   congr 1
   unfold pathStep
   rw [hat] at h0'
   rw [if_neg (by rw [h0'];decide),if_pos h0']
  have e2:(if vs.length - 1=0 then sOf (vAtI vs ((0:Nat):Int)) else sOf (vs.getLastD .none))=sOf (vs.getLastD .none):=by
   split
   ·rw [last_at vs (ar40)]
   ·rfl
  rw [e1,e2]
  rfl
noncomputable def rules7 (P:Params):Nat→Option ERule:=tab rules6 [(70,loopG fun c T=>pathS P (aAt T 0) (aAt T 1) (aAt T 2) (aAt T 3) (refV (vAt T 0 0)) (vsAt T 2))]
theorem rules7_ok {B:Nat} (hB:B+52≤800) {V:RV} {w:World} (hV:V.look=lookK w.params):∀ i R,rules7 w.params i=some R→RuleOk B V pw_il0098_01 w R:=by
 exact tab_cons (loopG_ok fun c S=>LoopOk.cast (V:=VK w.params rules6) hV.symm (fun _=>rfl) (pathS_ok hB _ _ _ _ _ _)) (rules6_ok (ar12) hV)
theorem path_call (P:Params):∀ (ρ:Unk) (τ:Nat→Tok) (W e:Nat) (ws:List Value) (b tk:Nat),
 PathI [2] (fun _=>⟨fun u=>.inl (.done (.ret (.str (⟨⟨[47]⟩⟩++Builtin.Str.glued ⟨⟨[47]⟩⟩ (txs ((strsFrom (ρ.u 1 0) (splitS (Builtin.Str.glued ⟨⟨[47]⟩⟩ (txs ws)) ⟨⟨[47]⟩⟩)).foldl pathStep []))) u))),[((⟨⟨[47]⟩⟩:Str)++(Builtin.Str.glued (⟨⟨[47]⟩⟩:Str) (txs ((strsFrom (ρ.u 1 0) (splitS (Builtin.Str.glued ⟨⟨[47]⟩⟩ (txs ws)) ⟨⟨[47]⟩⟩)).foldl pathStep [])))).length≤sizeLine,AllS ((strsFrom (ρ.u 1 0) (splitS (Builtin.Str.glued ⟨⟨[47]⟩⟩ (txs ws)) ⟨⟨[47]⟩⟩)).foldl pathStep []),Builtin.Str.tooLong ((txs ((strsFrom (ρ.u 1 0) (splitS (Builtin.Str.glued ⟨⟨[47]⟩⟩ (txs ws)) ⟨⟨[47]⟩⟩)).foldl pathStep [])).toArray.foldl (·+·.length+(⟨⟨[47]⟩⟩:Str).length) 0)=false,(Builtin.Str.glued (⟨⟨[47]⟩⟩:Str) (txs ((strsFrom (ρ.u 1 0) (splitS (Builtin.Str.glued ⟨⟨[47]⟩⟩ (txs ws)) ⟨⟨[47]⟩⟩)).foldl pathStep []))).length≤sizeLine,AllS (strsFrom (ρ.u 1 0) (splitS (Builtin.Str.glued ⟨⟨[47]⟩⟩ (txs ws)) ⟨⟨[47]⟩⟩)),∀ v∈(strsFrom (ρ.u 1 0) (splitS (Builtin.Str.glued ⟨⟨[47]⟩⟩ (txs ws)) ⟨⟨[47]⟩⟩)),(sOf v).length≤sizeLine,(strsFrom (ρ.u 1 0) (splitS (Builtin.Str.glued ⟨⟨[47]⟩⟩ (txs ws)) ⟨⟨[47]⟩⟩)).length≤sizeLine,sOf (vAtI (strsFrom (ρ.u 1 0) (splitS (Builtin.Str.glued ⟨⟨[47]⟩⟩ (txs ws)) ⟨⟨[47]⟩⟩)) 0)=⟨⟨[]⟩⟩,0 < (strsFrom (ρ.u 1 0) (splitS (Builtin.Str.glued ⟨⟨[47]⟩⟩ (txs ws)) ⟨⟨[47]⟩⟩)).length,(⟨⟨[47]⟩⟩:Str).length≠0,(Builtin.Str.glued (⟨⟨[47]⟩⟩:Str) (txs ws)).length≤sizeLine,(splitS (Builtin.Str.glued (⟨⟨[47]⟩⟩:Str) (txs ws)) (⟨⟨[47]⟩⟩:Str)).length≤sizeLine,AllS ws,Builtin.Str.tooLong ((txs ws).toArray.foldl (·+·.length+(⟨⟨[47]⟩⟩:Str).length) 0)=false,(Builtin.Str.glued (⟨⟨[47]⟩⟩:Str) (txs ws)).length≤sizeLine],fun _=>[(W,seqO "list" ws e)]⟩)
  (runC (VK P (rules7 P)) ρ 300 (.call (.ref 900) ⟨[.ref W],[]⟩) [(W,seqO "list" ws e)] b tk (orcN 1 1427269993791445970978453874935748926001031217153 1 [(.eff 56 [2],0),(.eff 57 [],2),(.eff 70 [3,0,1,2],0),(.eff 56 [1],0),(.eff 3 [],100000)])):=
 fP2 (by intros;kernel_rfl) (by intros;kernel_rfl) P
noncomputable def pathStepT (nm:List Str) (x:Str):List Str:=if x=⟨⟨[46,46]⟩⟩ then nm.dropLast else if x=⟨⟨[]⟩⟩ then nm else nm++[x]
theorem txs_pathStep (nm:List Value) (v:Value):txs (pathStep nm v)=pathStepT (txs nm) (sOf v):=by
 unfold pathStep pathStepT
 split
 ·unfold txs;rw [List.map_dropLast]
 ·split
  ·rfl
  ·rw [txs_append];rfl
theorem txs_path:∀ (vs nm:List Value),txs (vs.foldl pathStep nm)=(txs vs).foldl pathStepT (txs nm)
 | [],_=>rfl
 | v::vs,nm=>by
   rw [List.foldl_cons,txs_path vs,txs_pathStep]
   rfl
theorem AllS_path:∀ (vs nm:List Value),AllS vs→AllS nm→AllS (vs.foldl pathStep nm)
 | [],_,_,h=>h
 | v::vs,nm,hv,hn=>by
   rw [List.foldl_cons]
   refine AllS_path vs _ (fun x hx=>hv x (List.mem_cons_of_mem _ hx)) ?_
   unfold pathStep
   split
   ·exact hn.sub fun x hx=>(List.dropLast_sublist nm).subset hx
   ·split
    ·exact hn
    ·exact hn.append fun x hx=>by rw [List.mem_singleton.mp hx];exact hv v (List.mem_cons_self ..)
noncomputable def piecesP (ws:List Str):List Str:=splitS (Builtin.Str.glued ⟨⟨[47]⟩⟩ ws) ⟨⟨[47]⟩⟩
noncomputable def pathT (ws:List Str):List Str:=(piecesP ws).foldl pathStepT []
noncomputable def pathCS (W e:Nat) (ws:List Value):LSpec where
 c₀:=.call (.ref 900) ⟨[.ref W],[]⟩
 st:=fun _=>[(W,seqO "list" ws e)]
 conds:=[AllS ws,Builtin.Str.tooLong ((txs ws).toArray.foldl (·+·.length+1) 0)=false,(Builtin.Str.glued ⟨⟨[47]⟩⟩ (txs ws)).length≤sizeLine,(piecesP (txs ws)).length≤sizeLine,∀ x∈piecesP (txs ws),x.length≤sizeLine,(piecesP (txs ws)).head? =some ⟨⟨[]⟩⟩,
  Builtin.Str.tooLong ((pathT (txs ws)).toArray.foldl (·+·.length+1) 0)=false,(⟨⟨[47]⟩⟩++Builtin.Str.glued ⟨⟨[47]⟩⟩ (pathT (txs ws))).length≤sizeLine]
 r:=fun _ u=>.ok (.ret (.str (⟨⟨[47]⟩⟩++Builtin.Str.glued ⟨⟨[47]⟩⟩ (pathT (txs ws))) (u 0)))
 st':=fun _ _=>[(W,seqO "list" ws e)]
theorem strsFrom_len:∀ (l:List Str) (t:Nat),(strsFrom t l).length=l.length
 | [],_=>rfl
 | x::l,t=>by show (strsFrom (t+1) l).length+1=_;rw [strsFrom_len l];rfl
theorem pathCS_ok {B:Nat} (hB:B+100≤800) {w:World} (W e:Nat) (ws:List Value):LoopOk B (VK w.params (rules7 w.params)) w (pathCS W e ws):=by
 refine LF.toSpec rfl fun hc=>?_
 have hS:AllS ws:=hc _ (.head _)
 have c2:=hc _ (.tail _ (.head _))
 have c3:=hc _ (.tail _ (.tail _ (.head _)))
 have c4:=hc _ (.tail _ (.tail _ (.tail _ (.head _))))
 have c5:=hc _ (.tail _ (.tail _ (.tail _ (.tail _ (.head _)))))
 have c6:=hc _ (.tail _ (.tail _ (.tail _ (.tail _ (.tail _ (.head _))))))
 have c7:=hc _ (.tail _ (.tail _ (.tail _ (.tail _ (.tail _ (.tail _ (.head _)))))))
 have c8:=hc _ (.tail _ (.tail _ (.tail _ (.tail _ (.tail _ (.tail _ (.tail _ (.head _))))))))
 have O:=VK_ok w (rules7 w.params)
 have HR:=rules7_ok (B:=B+48) (ar13) (V:=VK w.params (rules7 w.params)) (w:=w) rfl
 have txe:∀ t:Nat,txs ((strsFrom t (splitS (Builtin.Str.glued ⟨⟨[47]⟩⟩ (txs ws)) ⟨⟨[47]⟩⟩)).foldl pathStep [])=pathT (txs ws):=fun t=>by
  rw [txs_path,txs_strsFrom];rfl
 have c8':(Builtin.Str.glued ⟨⟨[47]⟩⟩ (pathT (txs ws))).length≤sizeLine:=by rw [len_app] at c8;exact ar50
 refine LF.call O HR (ar12) rfl (fun τ b tk ρ=>path_call w.params ρ τ W e ws b tk) (fun ρ sz=>⟨?_,fun hsz tr τ=>⟨consT tr fun _=>0,?_,rfl⟩⟩)
 ·have key:=txe (ρ.u 1 0)
  refine cC ?_ (cC (AllS_path _ _ (AllS.strsFrom _ _) .nil) (cC ?_ (cC ?_ (cC (AllS.strsFrom _ _) (cC ?_ (cC ?_ (cC ?_ (cC ?_ (cC ?_ (cC c3 (cC c4 (cC hS (cC c2 (cC c3 c0))))))))))))))
  ·rw [key];exact c8
  ·rw [key];exact c7
  ·rw [key];exact c8'
  ·intro v hv
   have:sOf v∈txs (strsFrom (ρ.u 1 0) (piecesP (txs ws))):=List.mem_map_of_mem hv
   rw [txs_strsFrom] at this
   exact c5 _ this
  ·rw [strsFrom_len];exact c4
  ·show sOf ((strsFrom (ρ.u 1 0) (piecesP (txs ws))).getD 0 .none)=_
   revert c6
   cases piecesP (txs ws) with
   | nil=>intro c6;cases c6
   | cons x l=>intro c6;cases c6;rfl
  ·rw [strsFrom_len]
   show 0 < (piecesP (txs ws)).length
   revert c6
   cases piecesP (txs ws) with
   | nil=>intro c6;cases c6
   | cons x l=>intro c6;exact Nat.succ_pos _
  ·show (1:Nat)≠0;decide
 ·show Except.ok (Flow.ret (Value.str _ tr))=Except.ok (Flow.ret (Value.str _ tr))
  rw [txe]
noncomputable def stN (P:Params) (L it SL NL:Nat) (path:Str) (vs nm:List Value) (e:Nat) (i:Int) (name:Str):St:=fun τ=>[(L,frO [E P ⟨⟨[112,97,116,104]⟩⟩ (τ 0) (.str path (τ 1)),E P ⟨⟨[115,101,112]⟩⟩ (τ 2) (.str ⟨⟨[47]⟩⟩ (τ 3)),E P ⟨⟨[100,111,116]⟩⟩ (τ 4) (.str ⟨⟨[46]⟩⟩ (τ 5)),E P ⟨⟨[100,111,116,100,111,116]⟩⟩ (τ 6) (.str ⟨⟨[46,46]⟩⟩ (τ 7)),E P ⟨⟨[95]⟩⟩ (τ 8) (.str ⟨⟨[]⟩⟩ (τ 9)),E P ⟨⟨[105,110,105,116,105,97,108,95,115,108,97,115,104,101,115]⟩⟩ (τ 10) (.str ⟨⟨[47]⟩⟩ (τ 11)),E P ⟨⟨[99,111,109,112,115]⟩⟩ (τ 12) (.ref SL),E P ⟨⟨[110,101,119,95,99,111,109,112,115]⟩⟩ (τ 14) (.ref NL),E P ⟨⟨[99,111,109,112]⟩⟩ (τ 16) (.str name (τ 17))] 9),(it,itO "list_iterator" [.ref SL,.int i 0]),(SL,seqO "list" vs 0),(NL,seqO "list" nm e)]
noncomputable def stN0 (P:Params) (L it SL NL:Nat) (path:Str) (vs nm:List Value) (e:Nat) (i:Int):St:=fun τ=>[(L,frO [E P ⟨⟨[112,97,116,104]⟩⟩ (τ 0) (.str path (τ 1)),E P ⟨⟨[115,101,112]⟩⟩ (τ 2) (.str ⟨⟨[47]⟩⟩ (τ 3)),E P ⟨⟨[100,111,116]⟩⟩ (τ 4) (.str ⟨⟨[46]⟩⟩ (τ 5)),E P ⟨⟨[100,111,116,100,111,116]⟩⟩ (τ 6) (.str ⟨⟨[46,46]⟩⟩ (τ 7)),E P ⟨⟨[95]⟩⟩ (τ 8) (.str ⟨⟨[]⟩⟩ (τ 9)),E P ⟨⟨[105,110,105,116,105,97,108,95,115,108,97,115,104,101,115]⟩⟩ (τ 10) (.str ⟨⟨[47]⟩⟩ (τ 11)),E P ⟨⟨[99,111,109,112,115]⟩⟩ (τ 12) (.ref SL),E P ⟨⟨[110,101,119,95,99,111,109,112,115]⟩⟩ (τ 14) (.ref NL)] 8),(it,itO "list_iterator" [.ref SL,.int i 0]),(SL,seqO "list" vs 0),(NL,seqO "list" nm e)]
noncomputable def stNz (P:Params) (L SL NL:Nat) (path:Str) (nm:List Value) (e:Nat) (name:Str):St:=fun τ=>[(L,frO [E P ⟨⟨[112,97,116,104]⟩⟩ (τ 0) (.str path (τ 1)),E P ⟨⟨[115,101,112]⟩⟩ (τ 2) (.str ⟨⟨[47]⟩⟩ (τ 3)),E P ⟨⟨[100,111,116]⟩⟩ (τ 4) (.str ⟨⟨[46]⟩⟩ (τ 5)),E P ⟨⟨[100,111,116,100,111,116]⟩⟩ (τ 6) (.str ⟨⟨[46,46]⟩⟩ (τ 7)),E P ⟨⟨[95]⟩⟩ (τ 8) (.str ⟨⟨[]⟩⟩ (τ 9)),E P ⟨⟨[105,110,105,116,105,97,108,95,115,108,97,115,104,101,115]⟩⟩ (τ 10) (.str ⟨⟨[47]⟩⟩ (τ 11)),E P ⟨⟨[99,111,109,112,115]⟩⟩ (τ 12) (.ref SL),E P ⟨⟨[110,101,119,95,99,111,109,112,115]⟩⟩ (τ 14) (.ref NL),E P ⟨⟨[99,111,109,112]⟩⟩ (τ 16) (.str name (τ 17))] 9),(NL,seqO "list" nm e)]
noncomputable def codeN (P:Params) (L it:Nat):Code:=loopC (stm (st 23) 6) (.ref it) (envF (o166 P) 166 L)
theorem norm_empty (P:Params):∀ (ρ:Unk) (τ:Nat→Tok) (L it SL NL:Nat) (path:Str) (vs nm:List Value) (e:Nat) (k:Nat) (name:Str) (b tk:Nat),
 PathI [0,1,2,3] (fun _=>⟨(fun _=>.inl (.again (codeN P L it))),[(sOf (vAtI vs (k:Int))).length < 2 ^ 63,(sOf (vAtI vs (k:Int))).length=0,vs[(k:Int).toNat]? =some (.str (sOf (vAtI vs (k:Int))) (tokV (vAtI vs (k:Int))))],stN P L it SL NL path vs nm e ((k:Int)+1) (sOf (vAtI vs (k:Int)))⟩)
  (runL (VK P rules6) ρ 300 (codeN P L it) (stN P L it SL NL path vs nm e (k:Int) name τ) b tk (orcN 0 18014679988753727490 0 [(.eff 60 [1,2,1],0),(.eff 20 [0],100000)])):=
 fP2 (by intros;kernel_rfl) (by intros;kernel_rfl) P
theorem norm_dot (P:Params):∀ (ρ:Unk) (τ:Nat→Tok) (L it SL NL:Nat) (path:Str) (vs nm:List Value) (e:Nat) (k:Nat) (name:Str) (b tk:Nat),
 PathI [0,1,2,3] (fun _=>⟨(fun _=>.inl (.again (codeN P L it))),[(sOf (vAtI vs (k:Int)))=(⟨⟨[46]⟩⟩:Str),(sOf (vAtI vs (k:Int))).length < 2 ^ 63,(sOf (vAtI vs (k:Int))).length≠0,vs[(k:Int).toNat]? =some (.str (sOf (vAtI vs (k:Int))) (tokV (vAtI vs (k:Int))))],stN P L it SL NL path vs nm e ((k:Int)+1) (sOf (vAtI vs (k:Int)))⟩)
  (runL (VK P rules6) ρ 300 (codeN P L it) (stN P L it SL NL path vs nm e (k:Int) name τ) b tk (orcN 0 77372461399602907363351265282 0 [(.eff 60 [1,2,1],0),(.eff 20 [1],0),(.eff 0 [1],100000)])):=
 fP2 (by intros;kernel_rfl) (by intros;kernel_rfl) P
theorem norm_name (P:Params):∀ (ρ:Unk) (τ:Nat→Tok) (L it SL NL:Nat) (path:Str) (vs nm:List Value) (e:Nat) (k:Nat) (name:Str) (b tk:Nat),
 PathI [0,1,2,3] (fun _=>⟨(fun _=>.inl (.again (codeN P L it))),[nm.length < sizeLine,(sOf (vAtI vs (k:Int)))≠(⟨⟨[46,46]⟩⟩:Str),¬((sOf (vAtI vs (k:Int)))=(⟨⟨[46]⟩⟩:Str)),(sOf (vAtI vs (k:Int))).length < 2 ^ 63,(sOf (vAtI vs (k:Int))).length≠0,vs[(k:Int).toNat]? =some (.str (sOf (vAtI vs (k:Int))) (tokV (vAtI vs (k:Int))))],stN P L it SL NL path vs (nm++[.str (sOf (vAtI vs (k:Int))) (tokV (vAtI vs (k:Int)))]) (ρ.u 4 0) ((k:Int)+1) (sOf (vAtI vs (k:Int)))⟩)
  (runL (VK P rules6) ρ 300 (codeN P L it) (stN P L it SL NL path vs nm e (k:Int) name τ) b tk (orcN 0 26328484318387417047268080943415688051541804619296769458953816965122 0 [(.eff 60 [1,2,1],0),(.eff 20 [1],0),(.eff 0 [0],0),(.eff 1 [1],0),(.eff 50 [3],100000)])):=
 fP2 (by intros;kernel_rfl) (by intros;kernel_rfl) P
theorem norm_dots (P:Params):∀ (ρ:Unk) (τ:Nat→Tok) (L it SL NL:Nat) (path:Str) (vs nm:List Value) (e:Nat) (k:Nat) (name:Str) (b tk:Nat),
 PathI [0,1,2,3] (fun _=>⟨(fun _=>.inl (.again (codeN P L it))),[nm.getLast? =some (.str (sOf (nm.getLastD .none)) (tokV (nm.getLastD .none))),nm.length≤sizeLine,nm≠[],nm.length≤sizeLine,¬((sOf (nm.getLastD .none))=(⟨⟨[46,46]⟩⟩:Str)),(-1:Int)= -1,nm.getLast? =some (.str (sOf (nm.getLastD .none)) (tokV (nm.getLastD .none))),nm≠[],nm.length≤sizeLine,¬((sOf (vAtI vs (k:Int)))≠(⟨⟨[46,46]⟩⟩:Str)),¬((sOf (vAtI vs (k:Int)))=(⟨⟨[46]⟩⟩:Str)),(sOf (vAtI vs (k:Int))).length < 2 ^ 63,(sOf (vAtI vs (k:Int))).length≠0,vs[(k:Int).toNat]? =some (.str (sOf (vAtI vs (k:Int))) (tokV (vAtI vs (k:Int))))],stN P L it SL NL path vs nm.dropLast (ρ.u 8 0) ((k:Int)+1) (sOf (vAtI vs (k:Int)))⟩)
  (runL (VK P rules6) ρ 300 (codeN P L it) (stN P L it SL NL path vs nm e (k:Int) name τ) b tk (orcN 0 2521886006998976548800907070734465027562313961681601995927047866151640871178402864939372538856643091400386831210298540034 0 [(.eff 60 [1,2,1],0),(.eff 20 [1],0),(.eff 0 [0],0),(.eff 1 [0],3),(.eff 62 [3,1],2),(.eff 54 [3,1],0),(.eff 0 [0],0),(.eff 62 [3,1],0),(.eff 51 [3],100000)])):=
 fP2 (by intros;kernel_rfl) (by intros;kernel_rfl) P
theorem norm_dots0 (P:Params):∀ (ρ:Unk) (τ:Nat→Tok) (L it SL NL:Nat) (path:Str) (vs nm:List Value) (e:Nat) (k:Nat) (name:Str) (b tk:Nat),
 PathI [0,1,2,3] (fun _=>⟨(fun _=>.inl (.again (codeN P L it))),[nm=[],nm=[],¬((sOf (vAtI vs (k:Int)))≠(⟨⟨[46,46]⟩⟩:Str)),¬((sOf (vAtI vs (k:Int)))=(⟨⟨[46]⟩⟩:Str)),(sOf (vAtI vs (k:Int))).length < 2 ^ 63,(sOf (vAtI vs (k:Int))).length≠0,vs[(k:Int).toNat]? =some (.str (sOf (vAtI vs (k:Int))) (tokV (vAtI vs (k:Int))))],stN P L it SL NL path vs nm e ((k:Int)+1) (sOf (vAtI vs (k:Int)))⟩)
  (runL (VK P rules6) ρ 300 (codeN P L it) (stN P L it SL NL path vs nm e (k:Int) name τ) b tk (orcN 0 1725544428129820384223938793710660083669594995964252397913107267353378818 0 [(.eff 60 [1,2,1],0),(.eff 20 [1],0),(.eff 0 [0],0),(.eff 1 [0],3),(.eff 62 [3,0],0),(.eff 62 [3,0],100000)])):=
 fP2 (by intros;kernel_rfl) (by intros;kernel_rfl) P
theorem norm_first (P:Params):∀ (ρ:Unk) (τ:Nat→Tok) (L it SL NL:Nat) (path:Str) (vs nm:List Value) (e:Nat) (k:Nat) (name:Str) (b tk:Nat),
 PathI [0,1,2,3] (fun _=>⟨(fun _=>.inl (.again (codeN P L it))),[nm.length < sizeLine,(sOf (vAtI vs (k:Int)))≠(⟨⟨[46,46]⟩⟩:Str),¬((sOf (vAtI vs (k:Int)))=(⟨⟨[46]⟩⟩:Str)),(sOf (vAtI vs (k:Int))).length < 2 ^ 63,(sOf (vAtI vs (k:Int))).length≠0,vs[(k:Int).toNat]? =some (.str (sOf (vAtI vs (k:Int))) (tokV (vAtI vs (k:Int))))],stN P L it SL NL path vs (nm++[.str (sOf (vAtI vs (k:Int))) (tokV (vAtI vs (k:Int)))]) (ρ.u 4 0) ((k:Int)+1) (sOf (vAtI vs (k:Int)))⟩)
  (runL (VK P rules6) ρ 300 (codeN P L it) (stN0 P L it SL NL path vs nm e (k:Int) τ) b tk (orcN 0 26328484318387417047268080943415688051541804619296769458953816965122 0 [(.eff 60 [1,2,1],0),(.eff 20 [1],0),(.eff 0 [0],0),(.eff 1 [1],0),(.eff 50 [3],100000)])):=
 fP2 (by intros;kernel_rfl) (by intros;kernel_rfl) P
theorem norm_end (P:Params):∀ (ρ:Unk) (τ:Nat→Tok) (L it SL NL:Nat) (path:Str) (vs nm:List Value) (e:Nat) (k:Nat) (name:Str) (b tk:Nat),
 PathI [2,5] (fun _=>⟨(fun _=>.inl (.again (.block [] (envF (o166 P) 166 L)))),[vs[(k:Int).toNat]? =none],stNz P L SL NL path nm e name⟩)
  (runL (VK P rules6) ρ 300 (codeN P L it) (stN P L it SL NL path vs nm e (k:Int) name τ) b tk (orcN 0 4194369538 0 [(.eff 60 [1,2,0],100000)])):=
 fP2 (by intros;kernel_rfl) (by intros;kernel_rfl) P
noncomputable def normStep (nm:List Value) (v:Value):List Value:=if sOf v=⟨⟨[]⟩⟩∨sOf v=⟨⟨[46]⟩⟩ then nm else if sOf v=⟨⟨[46,46]⟩⟩ then nm.dropLast else nm++[v]
theorem codeN_w (P:Params) (L it:Nat):(codeN P L it).weight≤4:=Nat.le_of_ble_eq_true (by kernel_rfl)
theorem codeN_q (P:Params) (L it:Nat):(codeN P L it).quiet=true:=by kernel_rfl
noncomputable def NoDD (nm:List Value):Prop:=∀ v∈nm,sOf v≠⟨⟨[46,46]⟩⟩
theorem normStep_noDD {nm:List Value} {v:Value} (h:NoDD nm):NoDD (normStep nm v):=by
 unfold normStep
 split
 ·exact h
 ·split
  ·exact fun x hx=>h x ((List.dropLast_sublist nm).subset hx)
  ·rename_i h1 h2
   intro x hx
   rcases List.mem_append.mp hx with q | q
   ·exact h x q
   ·rw [List.mem_singleton.mp q];exact h2
theorem getLast_str {nm:List Value} (hS:AllS nm) (h:nm≠[]):nm.getLast? =some (.str (sOf (nm.getLastD .none)) (tokV (nm.getLastD .none))):=by
 rw [List.getLastD_eq_getLast?]
 cases hq:nm.getLast? with
 | none=>exact absurd (List.getLast?_eq_none_iff.mp hq) h
 | some v=>
   obtain ⟨s,t,rfl⟩:=hS v (List.mem_of_getLast? hq)
   rfl
section
variable {B:Nat} {w:World} (hB:B+52≤800) (L it SL:Nat) (path:Str) (vs:List Value) (hS:AllS vs) (hsz:∀ v∈vs,(sOf v).length≤sizeLine)
include hB hS hsz
theorem norm_loop:∀ (n k NL:Nat) (nm:List Value) (e:Nat) (name:Str),k+n=vs.length→nm.length+n≤sizeLine→AllS nm→NoDD nm→
 LF B (VK w.params rules6) w (codeN w.params L it) (stN w.params L it SL NL path vs nm e (k:Int) name)
  (fun x T b=>x= .ok .next∧∃ e' τ,T=stNz w.params L SL NL path ((vs.drop k).foldl normStep nm) e' (if n=0 then name else sOf (vs.getLastD .none)) τ):=by
 have HR:=rules6_ok (B:=B+52) hB (V:=VK w.params rules6) (w:=w) rfl
 have O:=VK_ok w rules6
 intro n
 induction n with
 | zero=>
   intro k NL nm e name hk hl hN hD
   have hn:vs[((k:Nat):Int).toNat]? =none:=by rw [Int.toNat_natCast];exact List.getElem?_eq_none (ar17)
   refine LF.loop O HR (ar11) rfl (fun τ b tk ρ=>norm_end w.params ρ τ L it SL NL path vs nm e k name b tk) (codeN_w ..) (fun ρ sz=>⟨cC hn c0,fun hsz tr=>⟨rfl,?_⟩⟩)
   refine (LF.block _).mono ?_
   rintro x T b ⟨rfl,τ,rfl⟩
   refine ⟨rfl,e,τ,?_⟩
   rw [List.drop_eq_nil_of_le (ar17)]
   rfl
 | succ n ih=>
   intro k NL nm e name hk hl hN hD
   obtain ⟨v,hv,hd⟩:=drop_split (l:=vs) (k:=k) (ar21)
   have hs:=hS.at hv
   have hat:=vAtI_nat hv
   have hc1:vs[((k:Nat):Int).toNat]? =some (.str (sOf (vAtI vs (k:Int))) (tokV (vAtI vs (k:Int)))):=by rw [Int.toNat_natCast,hat,←hs];exact hv
   have e1:((k:Int)+1)=((k+1:Nat):Int):=ar47
   have hlt:(sOf (vAtI vs (k:Int))).length < 2 ^ 63:=by rw [hat];exact sizeLine_lt (hsz v (List.mem_of_getElem? hv))
   have enm:(if n=0 then sOf (vAtI vs (k:Int)) else sOf (vs.getLastD .none))=(if n+1=0 then name else sOf (vs.getLastD .none)):=by
    rw [if_neg (Nat.succ_ne_zero n)]
    split
    ·rename_i hn0;rw [last_at vs (ar22)]
    ·rfl
   rw [hd,List.foldl_cons,←enm]
   by_cases h2:sOf v=⟨⟨[]⟩⟩
   ·refine LF.loop O HR (ar11) rfl (fun τ b tk ρ=>norm_empty w.params ρ τ L it SL NL path vs nm e k name b tk) (codeN_w ..) (fun ρ sz=>⟨?_,fun hsz tr=>⟨codeN_q ..,?_⟩⟩)
    ·exact cC hlt (cC (by rw [hat,h2];rfl) (cC hc1 c0))
    ·rw [e1,show normStep nm v=nm by unfold normStep;rw [if_pos (.inl h2)]]
     exact ih (k+1) NL nm e _ (ar20) (by lia) hN hD
   ·have hne:(sOf (vAtI vs (k:Int))).length≠0:=by rw [hat];exact fun q=>h2 (str_empty_iff.mp q)
    by_cases h3:sOf v=⟨⟨[46]⟩⟩
    ·refine LF.loop O HR (ar11) rfl (fun τ b tk ρ=>norm_dot w.params ρ τ L it SL NL path vs nm e k name b tk) (codeN_w ..) (fun ρ sz=>⟨?_,fun hsz tr=>⟨codeN_q ..,?_⟩⟩)
     ·exact cC (by rw [hat];exact h3) (cC hlt (cC hne (cC hc1 c0)))
     ·rw [e1,show normStep nm v=nm by unfold normStep;rw [if_pos (.inr h3)]]
      exact ih (k+1) NL nm e _ (ar20) (by lia) hN hD
    ·by_cases h1:sOf v=⟨⟨[46,46]⟩⟩
     ·by_cases h0:nm=[]
      ·refine LF.loop O HR (ar11) rfl (fun τ b tk ρ=>norm_dots0 w.params ρ τ L it SL NL path vs nm e k name b tk) (codeN_w ..) (fun ρ sz=>⟨?_,fun hsz tr=>⟨codeN_q ..,?_⟩⟩)
       ·exact cC h0 (cC h0 (cC (by rw [hat];exact fun q=>q h1) (cC (by rw [hat];exact h3) (cC hlt (cC hne (cC hc1 c0))))))
       ·rw [e1,show normStep nm v=nm by unfold normStep;rw [if_neg (by rintro (q | q);exact h2 q;exact h3 q),if_pos h1,h0];rfl]
        exact ih (k+1) NL nm e _ (ar20) (by lia) hN hD
      ·have hgl:=getLast_str hN h0
       have hdd:¬sOf (nm.getLastD .none)=⟨⟨[46,46]⟩⟩:=by
        refine hD _ ?_
        rw [List.getLastD_eq_getLast?]
        cases hq:nm.getLast? with
        | none=>rw [hq] at hgl;cases hgl
        | some x=>exact List.mem_of_getLast? hq
       refine LF.loop O HR (ar11) rfl (fun τ b tk ρ=>norm_dots w.params ρ τ L it SL NL path vs nm e k name b tk) (codeN_w ..) (fun ρ sz=>⟨?_,fun hsz tr=>⟨codeN_q ..,?_⟩⟩)
       ·exact cC hgl (cC (ar12) (cC h0 (cC (ar12) (cC hdd (cC rfl (cC hgl (cC h0 (cC (ar12) (cC (by rw [hat];exact fun q=>q h1) (cC (by rw [hat];exact h3) (cC hlt (cC hne (cC hc1 c0)))))))))))))
       ·rw [e1,show normStep nm v=nm.dropLast by unfold normStep;rw [if_neg (by rintro (q | q);exact h2 q;exact h3 q),if_pos h1]]
        exact ih (k+1) NL nm.dropLast _ _ (ar20) (by rw [List.length_dropLast];exact ar26) (hN.sub fun x hx=>(List.dropLast_sublist nm).subset hx) (fun x hx=>hD x ((List.dropLast_sublist nm).subset hx))
     ·refine LF.loop O HR (ar11) rfl (fun τ b tk ρ=>norm_name w.params ρ τ L it SL NL path vs nm e k name b tk) (codeN_w ..) (fun ρ sz=>⟨?_,fun hsz tr=>⟨codeN_q ..,?_⟩⟩)
      ·exact cC (ar24) (cC (by rw [hat];exact h1) (cC (by rw [hat];exact h3) (cC hlt (cC hne (cC hc1 c0)))))
      ·have e2:(Value.str (sOf (vAtI vs (k:Int))) (tokV (vAtI vs (k:Int))))=v:=by rw [hat];exact hs.symm
       have en:normStep nm v=nm++[v]:=by unfold normStep;rw [if_neg (by rintro (q | q);exact h2 q;exact h3 q),if_neg h1]
       have:=ih (k+1) NL (nm++[v]) (ρ.u 4 0) (sOf (vAtI vs (k:Int))) (ar20) (by rw [List.length_append];show nm.length+1+n≤_;exact ar23) (hN.append (by intro x hx;rw [List.mem_singleton.mp hx];exact ⟨_,_,hs⟩)) (by rw [←en];exact normStep_noDD hD)
       rw [e1,en]
       rw [←e2] at this⊢
       exact this
end
noncomputable def normS (P:Params) (L it SL NL:Nat) (path:Str) (vs:List Value):LSpec where
 c₀:=codeN P L it
 st:=stN0 P L it SL NL path vs [] 0 0
 conds:=[AllS vs,∀ v∈vs,(sOf v).length≤sizeLine,vs.length≤sizeLine,sOf (vAtI vs 0)≠⟨⟨[]⟩⟩∧sOf (vAtI vs 0)≠⟨⟨[46]⟩⟩∧sOf (vAtI vs 0)≠⟨⟨[46,46]⟩⟩,0 < vs.length]
 r:=fun _ _=>.ok .next
 st':=fun _ u=>stNz P L SL NL path (vs.foldl normStep []) (u 0) (sOf (vs.getLastD .none)) (fun j=>u (j+1))
theorem normS_ok {B:Nat} (hB:B+52≤800) {w:World} (L it SL NL:Nat) (path:Str) (vs:List Value):LoopOk B (VK w.params rules6) w (normS w.params L it SL NL path vs):=by
 refine LF.toSpec rfl fun hc=>?_
 have hS:AllS vs:=hc _ (.head _)
 have hz:∀ v∈vs,(sOf v).length≤sizeLine:=hc _ (.tail _ (.head _))
 have hl:vs.length≤sizeLine:=hc _ (.tail _ (.tail _ (.head _)))
 obtain ⟨n1,n2,n3⟩:sOf (vAtI vs 0)≠⟨⟨[]⟩⟩∧sOf (vAtI vs 0)≠⟨⟨[46]⟩⟩∧sOf (vAtI vs 0)≠⟨⟨[46,46]⟩⟩:=hc _ (.tail _ (.tail _ (.tail _ (.head _))))
 have hp:0 < vs.length:=hc _ (.tail _ (.tail _ (.tail _ (.tail _ (.head _)))))
 have HR:=rules6_ok (B:=B+52) hB (V:=VK w.params rules6) (w:=w) rfl
 have O:=VK_ok w rules6
 obtain ⟨v,hv,hd⟩:=drop_split (l:=vs) (k:=0) hp
 have hs:=hS.at hv
 have hat:=vAtI_nat hv
 have hat0:vAtI vs 0=v:=hat
 have hc1:vs[((0:Nat):Int).toNat]? =some (.str (sOf (vAtI vs ((0:Nat):Int))) (tokV (vAtI vs ((0:Nat):Int)))):=by rw [Int.toNat_natCast,hat,←hs];exact hv
 rw [hat0] at n1 n2 n3
 refine LF.loop O HR (ar11) rfl (fun τ b tk ρ=>norm_first w.params ρ τ L it SL NL path vs [] 0 0 ⟨⟨[]⟩⟩ b tk) (codeN_w ..) (fun ρ sz=>⟨?_,fun hsz tr=>⟨codeN_q ..,?_⟩⟩)
 ·exact cC (by decide) (cC (by rw [hat];exact n3) (cC (by rw [hat];exact n2) (cC (by rw [hat];exact sizeLine_lt (hz v (List.mem_of_getElem? hv))) (cC (by rw [hat];exact fun q=>n1 (str_empty_iff.mp q)) (cC hc1 c0)))))
 ·have e2:(Value.str (sOf (vAtI vs ((0:Nat):Int))) (tokV (vAtI vs ((0:Nat):Int))))=v:=by rw [hat];exact hs.symm
  have en:normStep [] v=[v]:=by unfold normStep;rw [if_neg (by rintro (q | q);exact n1 q;exact n2 q),if_neg n3];rfl
  have:=norm_loop (w:=w) hB L it SL path vs hS hz (vs.length - 1) 1 NL [v] (ρ.u 4 0) (sOf (vAtI vs ((0:Nat):Int))) (ar18) (by exact ar72) (by intro x hx;rw [List.mem_singleton.mp hx];exact ⟨_,_,hs⟩) (by intro x hx;rw [List.mem_singleton.mp hx];exact n3)
  rw [←e2] at this
  refine LF.mono this ?_
  rintro x T b ⟨rfl,e',τ,rfl⟩
  refine ⟨consT e' τ,rfl,?_⟩
  rw [e2]
  have e1:(vs.drop 1).foldl normStep [v]=vs.foldl normStep []:=by
   conv=>rhs;rw [←List.drop_zero (l:=vs),hd,List.foldl_cons,en]
  have e3:(if vs.length - 1=0 then sOf (vAtI vs ((0:Nat):Int)) else sOf (vs.getLastD .none))=sOf (vs.getLastD .none):=by
   split
   ·rw [last_at vs (ar40)]
   ·rfl
  rw [e1,e3]
  rfl
noncomputable def rules8 (P:Params):Nat→Option ERule:=tab (rules7 P) [(71,loopG fun c T=>normS P (aAt T 0) (aAt T 1) (aAt T 2) (aAt T 3) (sOf (vAt T 0 0)) (vsAt T 2))]
theorem rules8_ok {B:Nat} (hB:B+52≤800) {V:RV} {w:World} (hV:V.look=lookK w.params):∀ i R,rules8 w.params i=some R→RuleOk B V pw_il0098_01 w R:=by
 exact tab_cons (loopG_ok fun c S=>LoopOk.cast (V:=VK w.params rules6) hV.symm (fun _=>rfl) (normS_ok hB _ _ _ _ _ _)) (rules7_ok hB hV)
theorem norm_call (P:Params):∀ (ρ:Unk) (τ:Nat→Tok) (p:Str) (t:Tok) (b tk:Nat),
 PathI [] (fun _=>⟨fun u=>.inl (.done (.ret (.str (⟨⟨[47]⟩⟩++Builtin.Str.glued ⟨⟨[47]⟩⟩ (txs ((strsFrom (ρ.u 6 0) (splitS (Txt.slice p (some (1:Int)) none) ⟨⟨[47]⟩⟩)).foldl normStep []))) u))),[((⟨⟨[47]⟩⟩:Str)++(Builtin.Str.glued (⟨⟨[47]⟩⟩:Str) (txs ((strsFrom (ρ.u 6 0) (splitS (Txt.slice p (some (1:Int)) none) ⟨⟨[47]⟩⟩)).foldl normStep [])))).length < 2 ^ 63,((⟨⟨[47]⟩⟩:Str)++(Builtin.Str.glued (⟨⟨[47]⟩⟩:Str) (txs ((strsFrom (ρ.u 6 0) (splitS (Txt.slice p (some (1:Int)) none) ⟨⟨[47]⟩⟩)).foldl normStep [])))).length≠0,((⟨⟨[47]⟩⟩:Str)++(Builtin.Str.glued (⟨⟨[47]⟩⟩:Str) (txs ((strsFrom (ρ.u 6 0) (splitS (Txt.slice p (some (1:Int)) none) ⟨⟨[47]⟩⟩)).foldl normStep [])))).length≤sizeLine,AllS ((strsFrom (ρ.u 6 0) (splitS (Txt.slice p (some (1:Int)) none) ⟨⟨[47]⟩⟩)).foldl normStep []),Builtin.Str.tooLong ((txs ((strsFrom (ρ.u 6 0) (splitS (Txt.slice p (some (1:Int)) none) ⟨⟨[47]⟩⟩)).foldl normStep [])).toArray.foldl (·+·.length+(⟨⟨[47]⟩⟩:Str).length) 0)=false,(Builtin.Str.glued (⟨⟨[47]⟩⟩:Str) (txs ((strsFrom (ρ.u 6 0) (splitS (Txt.slice p (some (1:Int)) none) ⟨⟨[47]⟩⟩)).foldl normStep []))).length≤sizeLine,AllS (strsFrom (ρ.u 6 0) (splitS (Txt.slice p (some (1:Int)) none) ⟨⟨[47]⟩⟩)),∀ v∈(strsFrom (ρ.u 6 0) (splitS (Txt.slice p (some (1:Int)) none) ⟨⟨[47]⟩⟩)),(sOf v).length≤sizeLine,(strsFrom (ρ.u 6 0) (splitS (Txt.slice p (some (1:Int)) none) ⟨⟨[47]⟩⟩)).length≤sizeLine,sOf (vAtI (strsFrom (ρ.u 6 0) (splitS (Txt.slice p (some (1:Int)) none) ⟨⟨[47]⟩⟩)) 0)≠⟨⟨[]⟩⟩∧sOf (vAtI (strsFrom (ρ.u 6 0) (splitS (Txt.slice p (some (1:Int)) none) ⟨⟨[47]⟩⟩)) 0)≠⟨⟨[46]⟩⟩∧sOf (vAtI (strsFrom (ρ.u 6 0) (splitS (Txt.slice p (some (1:Int)) none) ⟨⟨[47]⟩⟩)) 0)≠⟨⟨[46,46]⟩⟩,0 < (strsFrom (ρ.u 6 0) (splitS (Txt.slice p (some (1:Int)) none) ⟨⟨[47]⟩⟩)).length,(⟨⟨[47]⟩⟩:Str).length≠0,(Txt.slice p (some (1:Int)) none).length≤sizeLine,(splitS (Txt.slice p (some (1:Int)) none) (⟨⟨[47]⟩⟩:Str)).length≤sizeLine,p.length≤sizeLine,(Txt.slice p (some (1:Int)) (some (2:Int)))≠(⟨⟨[47]⟩⟩:Str),p.length≤sizeLine,¬((Txt.slice p none (some (1:Int)))≠(⟨⟨[47]⟩⟩:Str)),p.length≤sizeLine,p.length < 2 ^ 63,p.length≠0],fun _=>[]⟩)
  (runC (VK P (rules8 P)) ρ 800 (.call (.ref 166) ⟨[.str p t],[]⟩) [] b tk (orcN 1 17862366243552898362067390477162785468793917360432026911382634715750888968568966546065827931803446786179360233843543641728338452641209664227622018503075794059477883508292319811934919149817044574346373528604486453888297096554852971132136490351661018106477147245744113217953900413938068771970489751128680608380693070347152586243176498987788033764221337347532174086322671065987997949403191887231149356462105087922942800263073300244722505514506008419087900861336094463062759611050853128871198628840383422854312053780920255795567002771937004162711553 17 [(.eff 20 [1],17),(.eff 24 [0],0),(.eff 1 [0],0),(.eff 24 [0],0),(.eff 1 [1],0),(.eff 24 [0],10),(.eff 57 [],2),(.eff 71 [15,0,2,1],0),(.eff 56 [1],0),(.eff 3 [],0),(.eff 20 [1],100000)])):=
 fP2 (by intros;kernel_rfl) (by intros;kernel_rfl) P
noncomputable def normStepT (nm:List Str) (x:Str):List Str:=if x=⟨⟨[]⟩⟩∨x=⟨⟨[46]⟩⟩ then nm else if x=⟨⟨[46,46]⟩⟩ then nm.dropLast else nm++[x]
theorem txs_normStep (nm:List Value) (v:Value):txs (normStep nm v)=normStepT (txs nm) (sOf v):=by
 unfold normStep normStepT
 split
 ·rfl
 ·split
  ·unfold txs;rw [List.map_dropLast]
  ·rw [txs_append];rfl
theorem txs_norm:∀ (vs nm:List Value),txs (vs.foldl normStep nm)=(txs vs).foldl normStepT (txs nm)
 | [],_=>rfl
 | v::vs,nm=>by
   rw [List.foldl_cons,txs_norm vs,txs_normStep]
   rfl
theorem AllS_norm:∀ (vs nm:List Value),AllS vs→AllS nm→AllS (vs.foldl normStep nm)
 | [],_,_,h=>h
 | v::vs,nm,hv,hn=>by
   rw [List.foldl_cons]
   refine AllS_norm vs _ (fun x hx=>hv x (List.mem_cons_of_mem _ hx)) ?_
   unfold normStep
   split
   ·exact hn
   ·split
    ·exact hn.sub fun x hx=>(List.dropLast_sublist nm).subset hx
    ·exact hn.append fun x hx=>by rw [List.mem_singleton.mp hx];exact hv v (List.mem_cons_self ..)
noncomputable def normT (r:Str):List Str:=(splitS r ⟨⟨[47]⟩⟩).foldl normStepT []
noncomputable def normCS (p:Str) (t:Tok) (r:Str):LSpec where
 c₀:=.call (.ref 166) ⟨[.str p t],[]⟩
 st:=fun _=>[]
 conds:=[p=⟨⟨47::r.cps.toList⟩⟩,p.length≤sizeLine,r.cps.toList.head?≠some 47,r.cps.toList≠[],(splitS r ⟨⟨[47]⟩⟩).length≤sizeLine,∀ x∈splitS r ⟨⟨[47]⟩⟩,x.length≤sizeLine,
  ∃ x,(splitS r ⟨⟨[47]⟩⟩).head? =some x∧x≠⟨⟨[]⟩⟩∧x≠⟨⟨[46]⟩⟩∧x≠⟨⟨[46,46]⟩⟩,
  Builtin.Str.tooLong ((normT r).toArray.foldl (·+·.length+1) 0)=false,(⟨⟨[47]⟩⟩++Builtin.Str.glued ⟨⟨[47]⟩⟩ (normT r)).length≤sizeLine]
 r:=fun _ u=>.ok (.ret (.str (⟨⟨[47]⟩⟩++Builtin.Str.glued ⟨⟨[47]⟩⟩ (normT r)) (u 0)))
 st':=fun _ _=>[]
theorem slice_tail (r:List Nat):Txt.slice (⟨⟨47::r⟩⟩:Str) (some (1:Int)) none=⟨⟨r⟩⟩:=by
 have:=StrLaws.sliceText_from (x:=(⟨⟨47::r⟩⟩:Str)) (i:=1) ⟨by decide,by simp;lia⟩
 refine Eq.trans this ?_
 have e:(((47::r).length:Int) - 1).toNat=r.length:=by rw [List.length_cons];lia
 show (⟨(((47::r).drop 1).take (((47::r).length:Int) - 1).toNat).toArray⟩:Str)=_
 rw [e]
 simp
theorem slice_head (r:List Nat):Txt.slice (⟨⟨47::r⟩⟩:Str) none (some (1:Int))=⟨⟨[47]⟩⟩:=by
 have:=StrLaws.sliceText_to (x:=(⟨⟨47::r⟩⟩:Str)) (j:=1) ⟨by decide,by simp;lia⟩
 refine Eq.trans this ?_
 simp
theorem slice_second (c:Nat) (r:List Nat):Txt.slice (⟨⟨47::c::r⟩⟩:Str) (some (1:Int)) (some (2:Int))=⟨⟨[c]⟩⟩:=by
 have:=slice_nat (⟨⟨47::c::r⟩⟩:Str) (a:=1) (b:=2) (by decide) (by show 2≤(47::c::r).length;simp)
 refine Eq.trans this ?_
 simp
theorem normCS_ok {B:Nat} (hB:B+100≤800) {w:World} (p:Str) (t:Tok) (r:Str):LoopOk B (VK w.params (rules8 w.params)) w (normCS p t r):=by
 refine LF.toSpec rfl fun hc=>?_
 have c1:p=⟨⟨47::r.cps.toList⟩⟩:=hc _ (.head _)
 have c2:p.length≤sizeLine:=hc _ (.tail _ (.head _))
 have c3:r.cps.toList.head?≠some 47:=hc _ (.tail _ (.tail _ (.head _)))
 have c4:r.cps.toList≠[]:=hc _ (.tail _ (.tail _ (.tail _ (.head _))))
 have c5:(splitS r ⟨⟨[47]⟩⟩).length≤sizeLine:=hc _ (.tail _ (.tail _ (.tail _ (.tail _ (.head _)))))
 have c6:∀ x∈splitS r ⟨⟨[47]⟩⟩,x.length≤sizeLine:=hc _ (.tail _ (.tail _ (.tail _ (.tail _ (.tail _ (.head _))))))
 obtain ⟨x0,c7,c71,c72,c73⟩:∃ x,(splitS r ⟨⟨[47]⟩⟩).head? =some x∧x≠⟨⟨[]⟩⟩∧x≠⟨⟨[46]⟩⟩∧x≠⟨⟨[46,46]⟩⟩:=hc _ (.tail _ (.tail _ (.tail _ (.tail _ (.tail _ (.tail _ (.head _)))))))
 have c8:Builtin.Str.tooLong ((normT r).toArray.foldl (·+·.length+1) 0)=false:=hc _ (.tail _ (.tail _ (.tail _ (.tail _ (.tail _ (.tail _ (.tail _ (.head _))))))))
 have c9:(⟨⟨[47]⟩⟩++Builtin.Str.glued ⟨⟨[47]⟩⟩ (normT r)).length≤sizeLine:=hc _ (.tail _ (.tail _ (.tail _ (.tail _ (.tail _ (.tail _ (.tail _ (.tail _ (.head _)))))))))
 have O:=VK_ok w (rules8 w.params)
 have HR:=rules8_ok (B:=B+48) (ar13) (V:=VK w.params (rules8 w.params)) (w:=w) rfl
 have hr:(⟨⟨r.cps.toList⟩⟩:Str)=r:=rfl
 have htl:Txt.slice p (some (1:Int)) none=r:=by rw [c1];exact slice_tail _
 have hhd:Txt.slice p none (some (1:Int))=⟨⟨[47]⟩⟩:=by rw [c1];exact slice_head _
 have hsec:Txt.slice p (some (1:Int)) (some (2:Int))≠⟨⟨[47]⟩⟩:=by
  rw [c1]
  cases hq:r.cps.toList with
  | nil=>exact absurd hq c4
  | cons c l=>
    rw [slice_second]
    intro q
    rw [hq] at c3
    apply c3
    have:c=47:=by simpa using q
    rw [this];rfl
 have txe:∀ t:Nat,txs ((strsFrom t (splitS (Txt.slice p (some (1:Int)) none) ⟨⟨[47]⟩⟩)).foldl normStep [])=normT r:=fun t=>by
  rw [htl,txs_norm,txs_strsFrom];rfl
 have c9':(Builtin.Str.glued ⟨⟨[47]⟩⟩ (normT r)).length≤sizeLine:=by rw [len_app] at c9;exact ar50
 have hpl:p.length≠0:=by rw [c1];show (47::r.cps.toList).length≠0;simp
 refine LF.call O HR (ar12) rfl (fun τ b tk ρ=>norm_call w.params ρ τ p t b tk) (fun ρ sz=>⟨?_,fun hsz tr τ=>⟨consT tr fun _=>0,?_,rfl⟩⟩)
 ·have key:=txe (ρ.u 6 0)
  refine cC ?_ (cC ?_ (cC ?_ (cC (AllS_norm _ _ (AllS.strsFrom _ _) .nil) (cC ?_ (cC ?_ (cC (AllS.strsFrom _ _) (cC ?_ (cC ?_ (cC ?_ (cC ?_ (cC ?_ (cC ?_ (cC ?_ (cC c2 (cC hsec (cC c2 (cC ?_ (cC c2 (cC (sizeLine_lt c2) (cC hpl c0))))))))))))))))))))
  ·rw [key];exact sizeLine_lt c9
  ·rw [key,len_app];show 1+_≠0;lia
  ·rw [key];exact c9
  ·rw [key];exact c8
  ·rw [key];exact c9'
  ·intro v hv
   have:sOf v∈txs (strsFrom (ρ.u 6 0) (splitS (Txt.slice p (some (1:Int)) none) ⟨⟨[47]⟩⟩)):=List.mem_map_of_mem hv
   rw [txs_strsFrom,htl] at this
   exact c6 _ this
  ·rw [strsFrom_len,htl];exact c5
  ·rw [htl]
   show sOf ((strsFrom (ρ.u 6 0) (splitS r ⟨⟨[47]⟩⟩)).getD 0 .none)≠_∧sOf ((strsFrom (ρ.u 6 0) (splitS r ⟨⟨[47]⟩⟩)).getD 0 .none)≠_∧sOf ((strsFrom (ρ.u 6 0) (splitS r ⟨⟨[47]⟩⟩)).getD 0 .none)≠_
   revert c7
   cases splitS r ⟨⟨[47]⟩⟩ with
   | nil=>intro c7;cases c7
   | cons x l=>intro c7;cases c7;exact ⟨c71,c72,c73⟩
  ·rw [strsFrom_len,htl]
   revert c7
   cases splitS r ⟨⟨[47]⟩⟩ with
   | nil=>intro c7;cases c7
   | cons x l=>intro c7;exact Nat.succ_pos _
  ·show (1:Nat)≠0;decide
  ·rw [htl];rw [c1] at c2;exact Nat.le_trans (Nat.le_succ _) c2
  ·rw [htl];exact c5
  ·rw [hhd];exact fun q=>q rfl
 ·show Except.ok (Flow.ret (Value.str _ tr))=Except.ok (Flow.ret (Value.str _ tr))
  rw [txe]
noncomputable def stJ (P:Params) (L it U:Nat) (a:Str) (vs:List Value) (i:Int) (q x:Str):St:=fun τ=>[(L,frO [E P ⟨⟨[97]⟩⟩ (τ 0) (.str a (τ 1)),E P ⟨⟨[112]⟩⟩ (τ 2) (.ref U),E P ⟨⟨[115,101,112]⟩⟩ (τ 4) (.str ⟨⟨[47]⟩⟩ (τ 5)),E P ⟨⟨[112,97,116,104]⟩⟩ (τ 6) (.str q (τ 7)),E P ⟨⟨[98]⟩⟩ (τ 8) (.str x (τ 9))] 5),(it,itO "tuple_iterator" [.ref U,.int i 0]),(U,seqO "tuple" vs 0)]
noncomputable def stJ0 (P:Params) (L it U:Nat) (a:Str) (vs:List Value) (i:Int) (q:Str):St:=fun τ=>[(L,frO [E P ⟨⟨[97]⟩⟩ (τ 0) (.str a (τ 1)),E P ⟨⟨[112]⟩⟩ (τ 2) (.ref U),E P ⟨⟨[115,101,112]⟩⟩ (τ 4) (.str ⟨⟨[47]⟩⟩ (τ 5)),E P ⟨⟨[112,97,116,104]⟩⟩ (τ 6) (.str q (τ 7))] 4),(it,itO "tuple_iterator" [.ref U,.int i 0]),(U,seqO "tuple" vs 0)]
noncomputable def stJz (P:Params) (L U:Nat) (a q x:Str):St:=fun τ=>[(L,frO [E P ⟨⟨[97]⟩⟩ (τ 0) (.str a (τ 1)),E P ⟨⟨[112]⟩⟩ (τ 2) (.ref U),E P ⟨⟨[115,101,112]⟩⟩ (τ 4) (.str ⟨⟨[47]⟩⟩ (τ 5)),E P ⟨⟨[112,97,116,104]⟩⟩ (τ 6) (.str q (τ 7)),E P ⟨⟨[98]⟩⟩ (τ 8) (.str x (τ 9))] 5)]
noncomputable def codeJ (P:Params) (L it:Nat):Code:=loopC ((match stm (st 20) 3 with | .Try b ..=>b | _=>[]).getD 0 default) (.ref it) (envF (o152 P) 152 L)
noncomputable def NS (x:Str):Prop:=¬(startsB x ⟨⟨[47]⟩⟩=true)
noncomputable def NE (x:Str):Prop:=x.length≠0∧¬(endsB x ⟨⟨[47]⟩⟩=true)
noncomputable abbrev jV (vs:List Value) (k:Nat):Str:=sOf (vAtI vs (k:Int))
theorem join_app0 (P:Params):∀ (ρ:Unk) (τ:Nat→Tok) (L it U:Nat) (a:Str) (vs:List Value) (k:Nat) (q x:Str) (b tk:Nat),
 PathI [2,3,4] (fun _=>⟨fun _=>.inl (.again (codeJ P L it)),[(q++(⟨⟨[47]⟩⟩++jV vs k)).length≤sizeLine,(⟨⟨[47]⟩⟩++jV vs k:Str).length≤sizeLine,¬(endsB q ⟨⟨[47]⟩⟩=true),q.length < 2 ^ 63,q.length≠0,NS (jV vs k),vs[(k:Int).toNat]? =some (.str (jV vs k) (tokV (vAtI vs (k:Int))))],stJ P L it U a vs ((k:Int)+1) (q++(⟨⟨[47]⟩⟩++jV vs k)) (jV vs k)⟩)
  (runL (VK P rules6) ρ 300 (codeJ P L it) (stJ0 P L it U a vs (k:Int) q τ) b tk (orcN 0 10831248691390331798235198656144538584930992293565085317144244402831687337520389578971570940140709109737842128229699156913804083202 0 [(.eff 61 [1,2,1],8),(.eff 21 [0],0),(.eff 20 [1],0),(.eff 22 [0],0),(.eff 3 [],0),(.eff 3 [],100000)])):=
 fP2 (by intros;kernel_rfl) (by intros;kernel_rfl) P
theorem join_new0 (P:Params):∀ (ρ:Unk) (τ:Nat→Tok) (L it U:Nat) (a:Str) (vs:List Value) (k:Nat) (q x:Str) (b tk:Nat),
 PathI [2,3,4] (fun _=>⟨fun _=>.inl (.again (codeJ P L it)),[startsB (jV vs k) ⟨⟨[47]⟩⟩=true,vs[(k:Int).toNat]? =some (.str (jV vs k) (tokV (vAtI vs (k:Int))))],stJ P L it U a vs ((k:Int)+1) (jV vs k) (jV vs k)⟩)
  (runL (VK P rules6) ρ 300 (codeJ P L it) (stJ0 P L it U a vs (k:Int) q τ) b tk (orcN 0 8959398927258434067500835420446411964726189599454276294681395833776266978253062930463834082701707181096962 0 [(.eff 61 [1,2,1],8),(.eff 21 [1],100000)])):=
 fP2 (by intros;kernel_rfl) (by intros;kernel_rfl) P
theorem join_app (P:Params):∀ (ρ:Unk) (τ:Nat→Tok) (L it U:Nat) (a:Str) (vs:List Value) (k:Nat) (q x:Str) (b tk:Nat),
 PathI [2,3,4] (fun _=>⟨fun _=>.inl (.again (codeJ P L it)),[(q++(⟨⟨[47]⟩⟩++jV vs k)).length≤sizeLine,(⟨⟨[47]⟩⟩++jV vs k:Str).length≤sizeLine,¬(endsB q ⟨⟨[47]⟩⟩=true),q.length < 2 ^ 63,q.length≠0,NS (jV vs k),vs[(k:Int).toNat]? =some (.str (jV vs k) (tokV (vAtI vs (k:Int))))],stJ P L it U a vs ((k:Int)+1) (q++(⟨⟨[47]⟩⟩++jV vs k)) (jV vs k)⟩)
  (runL (VK P rules6) ρ 300 (codeJ P L it) (stJ P L it U a vs (k:Int) q x τ) b tk (orcN 0 10831248691390331798235198656144538584930992293565085317144244402831687337520389578971570940140709109737842128229699156913804083202 0 [(.eff 61 [1,2,1],8),(.eff 21 [0],0),(.eff 20 [1],0),(.eff 22 [0],0),(.eff 3 [],0),(.eff 3 [],100000)])):=
 fP2 (by intros;kernel_rfl) (by intros;kernel_rfl) P
theorem join_new (P:Params):∀ (ρ:Unk) (τ:Nat→Tok) (L it U:Nat) (a:Str) (vs:List Value) (k:Nat) (q x:Str) (b tk:Nat),
 PathI [2,3,4] (fun _=>⟨fun _=>.inl (.again (codeJ P L it)),[startsB (jV vs k) ⟨⟨[47]⟩⟩=true,vs[(k:Int).toNat]? =some (.str (jV vs k) (tokV (vAtI vs (k:Int))))],stJ P L it U a vs ((k:Int)+1) (jV vs k) (jV vs k)⟩)
  (runL (VK P rules6) ρ 300 (codeJ P L it) (stJ P L it U a vs (k:Int) q x τ) b tk (orcN 0 8959398927258434067500835420446411964726189599454276294681395833776266978253062930463834082701707181096962 0 [(.eff 61 [1,2,1],8),(.eff 21 [1],100000)])):=
 fP2 (by intros;kernel_rfl) (by intros;kernel_rfl) P
theorem join_end (P:Params):∀ (ρ:Unk) (τ:Nat→Tok) (L it U:Nat) (a:Str) (vs:List Value) (k:Nat) (q x:Str) (b tk:Nat),
 PathI [2] (fun _=>⟨fun _=>.inl (.again (.block [] (envF (o152 P) 152 L))),[vs[(k:Int).toNat]? =none],stJz P L U a q x⟩)
  (runL (VK P rules6) ρ 300 (codeJ P L it) (stJ P L it U a vs (k:Int) q x τ) b tk (orcN 0 4194369538 0 [(.eff 61 [1,2,0],100000)])):=
 fP2 (by intros;kernel_rfl) (by intros;kernel_rfl) P
noncomputable def jstep (q x:Str):Str:=if startsB x ⟨⟨[47]⟩⟩=true then x else q++(⟨⟨[47]⟩⟩++x)
noncomputable def JOk:Str→List Str→Prop
 | _,[]=>True
 | q,x::xs=>(NS x→NE q∧(q++(⟨⟨[47]⟩⟩++x)).length≤sizeLine)∧JOk (jstep q x) xs
theorem codeJ_w (P:Params) (L it:Nat):(codeJ P L it).weight≤4:=Nat.le_of_ble_eq_true (by kernel_rfl)
theorem codeJ_q (P:Params) (L it:Nat):(codeJ P L it).quiet=true:=by kernel_rfl
section
variable {B:Nat} {w:World} (hB:B+52≤800) (L it U:Nat) (a:Str) (vs:List Value) (hS:AllS vs)
include hB hS
theorem join_turn (k:Nat) (q x:Str) (b0:Bool) (hk:k < vs.length) {xs:List Str} (hx:JOk q (jV vs k::xs)) {P:Post}
 (h:LF B (VK w.params rules6) w (codeJ w.params L it) (stJ w.params L it U a vs ((k+1:Nat):Int) (jstep q (jV vs k)) (jV vs k)) P):
 LF B (VK w.params rules6) w (codeJ w.params L it) (match b0 with | true=>stJ0 w.params L it U a vs (k:Int) q | false=>stJ w.params L it U a vs (k:Int) q x) P:=by
 have HR:=rules6_ok (B:=B+52) hB (V:=VK w.params rules6) (w:=w) rfl
 have O:=VK_ok w rules6
 obtain ⟨v,hv,hd⟩:=drop_split (l:=vs) (k:=k) hk
 have hs:=hS.at hv
 have hat:=vAtI_nat hv
 have hc1:vs[((k:Nat):Int).toNat]? =some (.str (jV vs k) (tokV (vAtI vs (k:Int)))):=by unfold jV;rw [Int.toNat_natCast,hat,←hs];exact hv
 have e1:((k:Int)+1)=((k+1:Nat):Int):=ar47
 by_cases h1:startsB (jV vs k) ⟨⟨[47]⟩⟩=true
 ·rw [show jstep q (jV vs k)=jV vs k by unfold jstep;rw [if_pos h1]] at h
  cases b0
  ·exact LF.loop O HR (ar11) rfl (fun τ b tk ρ=>join_new w.params ρ τ L it U a vs k q x b tk) (codeJ_w ..) (fun ρ sz=>⟨cC h1 (cC hc1 c0),fun hsz tr=>⟨codeJ_q ..,by rw [e1];exact h⟩⟩)
  ·exact LF.loop O HR (ar11) rfl (fun τ b tk ρ=>join_new0 w.params ρ τ L it U a vs k q x b tk) (codeJ_w ..) (fun ρ sz=>⟨cC h1 (cC hc1 c0),fun hsz tr=>⟨codeJ_q ..,by rw [e1];exact h⟩⟩)
 ·obtain ⟨⟨n1,n2⟩,n3⟩:=hx.1 h1
  rw [show jstep q (jV vs k)=q++(⟨⟨[47]⟩⟩++jV vs k) by unfold jstep;rw [if_neg h1]] at h
  have l1:q.length≤sizeLine:=by rw [len_app] at n3;exact ar12
  have l2:(⟨⟨[47]⟩⟩++jV vs k:Str).length≤sizeLine:=by rw [len_app] at n3;exact ar50
  cases b0
  ·exact LF.loop O HR (ar11) rfl (fun τ b tk ρ=>join_app w.params ρ τ L it U a vs k q x b tk) (codeJ_w ..) (fun ρ sz=>⟨cC n3 (cC l2 (cC n2 (cC (sizeLine_lt l1) (cC n1 (cC h1 (cC hc1 c0)))))),fun hsz tr=>⟨codeJ_q ..,by rw [e1];exact h⟩⟩)
  ·exact LF.loop O HR (ar11) rfl (fun τ b tk ρ=>join_app0 w.params ρ τ L it U a vs k q x b tk) (codeJ_w ..) (fun ρ sz=>⟨cC n3 (cC l2 (cC n2 (cC (sizeLine_lt l1) (cC n1 (cC h1 (cC hc1 c0)))))),fun hsz tr=>⟨codeJ_q ..,by rw [e1];exact h⟩⟩)
theorem join_loop:∀ (n k:Nat) (q x:Str),k+n=vs.length→JOk q (txs (vs.drop k))→
 LF B (VK w.params rules6) w (codeJ w.params L it) (stJ w.params L it U a vs (k:Int) q x) (fun y T b=>y= .ok .next∧∃ τ,T=stJz w.params L U a ((txs (vs.drop k)).foldl jstep q) (if n=0 then x else sOf (vs.getLastD .none)) τ):=by
 have HR:=rules6_ok (B:=B+52) hB (V:=VK w.params rules6) (w:=w) rfl
 have O:=VK_ok w rules6
 intro n
 induction n with
 | zero=>
   intro k q x hk hq
   have hn:vs[((k:Nat):Int).toNat]? =none:=by rw [Int.toNat_natCast];exact List.getElem?_eq_none (ar17)
   refine LF.loop O HR (ar11) rfl (fun τ b tk ρ=>join_end w.params ρ τ L it U a vs k q x b tk) (codeJ_w ..) (fun ρ sz=>⟨cC hn c0,fun hsz tr=>⟨rfl,?_⟩⟩)
   refine (LF.block _).mono ?_
   rintro y T b ⟨rfl,τ,rfl⟩
   refine ⟨rfl,τ,?_⟩
   rw [List.drop_eq_nil_of_le (ar17)]
   rfl
 | succ n ih=>
   intro k q x hk hq
   obtain ⟨v,hv,hd⟩:=drop_split (l:=vs) (k:=k) (ar21)
   have hat:=vAtI_nat hv
   have e:txs (vs.drop k)=jV vs k::txs (vs.drop (k+1)):=by rw [hd];show sOf v::_=_;unfold jV;rw [hat];rfl
   rw [e] at hq⊢
   have ex:(if n=0 then jV vs k else sOf (vs.getLastD .none))=(if n+1=0 then x else sOf (vs.getLastD .none)):=by
    rw [if_neg (Nat.succ_ne_zero n)]
    split
    ·unfold jV;rw [last_at vs (ar22)]
    ·rfl
   rw [List.foldl_cons,←ex]
   exact join_turn hB L it U a vs hS k q x false (ar21) hq (ih (k+1) _ _ (ar20) hq.2)
end
noncomputable def joinLS (P:Params) (L it U:Nat) (a:Str) (vs:List Value) (q:Str):LSpec where
 c₀:=codeJ P L it
 st:=stJ0 P L it U a vs 0 q
 conds:=[AllS vs,0 < vs.length,JOk q (txs vs)]
 r:=fun _ _=>.ok .next
 st':=fun _ u=>stJz P L U a ((txs vs).foldl jstep q) (sOf (vs.getLastD .none)) u
theorem joinLS_ok {B:Nat} (hB:B+52≤800) {w:World} (L it U:Nat) (a:Str) (vs:List Value) (q:Str):LoopOk B (VK w.params rules6) w (joinLS w.params L it U a vs q):=by
 refine LF.toSpec rfl fun hc=>?_
 have hS:AllS vs:=hc _ (.head _)
 have hp:0 < vs.length:=hc _ (.tail _ (.head _))
 have hq:JOk q (txs vs):=hc _ (.tail _ (.tail _ (.head _)))
 obtain ⟨v,hv,hd⟩:=drop_split (l:=vs) (k:=0) hp
 have hat:=vAtI_nat hv
 have e:txs vs=jV vs 0::txs (vs.drop 1):=by
  conv=>lhs;rw [←List.drop_zero (l:=vs),hd]
  show sOf v::_=_
  unfold jV;rw [hat];rfl
 rw [e] at hq
 refine join_turn hB L it U a vs hS 0 q ⟨⟨[]⟩⟩ true hp hq ((join_loop hB L it U a vs hS (vs.length - 1) 1 _ _ (ar18) hq.2).mono ?_)
 rintro y T b ⟨rfl,τ,rfl⟩
 refine ⟨τ,rfl,?_⟩
 have ex:(if vs.length - 1=0 then jV vs 0 else sOf (vs.getLastD .none))=sOf (vs.getLastD .none):=by
  split
  ·unfold jV;rw [last_at vs (ar40)]
  ·rfl
 show _=stJz w.params L U a ((txs vs).foldl jstep q) (sOf (vs.getLastD .none)) τ
 rw [ex,e];rfl
noncomputable def rules12 (P:Params):Nat→Option ERule:=tab rules6 [(73,loopG fun c T=>joinLS P (aAt T 0) (aAt T 1) (aAt T 2) (sOf (vAt T 0 0)) (vsAt T 2) (sOf (vAt T 0 3)))]
theorem rules12_ok {B:Nat} (hB:B+52≤800) {V:RV} {w:World} (hV:V.look=lookK w.params):∀ i R,rules12 w.params i=some R→RuleOk B V pw_il0098_01 w R:=by
 exact tab_cons (loopG_ok fun c S=>LoopOk.cast (V:=VK w.params rules6) hV.symm (fun _=>rfl) (joinLS_ok hB _ _ _ _ _ _)) (rules6_ok (ar12) hV)
noncomputable def jcW (a:Str) (vs:List Value) (_:Nat):Want:=⟨fun u=>.inl (.done (.ret (.str ((txs vs).foldl jstep a) u))),[AllS vs,0 < vs.length,JOk a (txs vs)],fun _=>[]⟩
noncomputable def jcO:Orc:=(orcN 1 858113115528858678944271768162322958009910212807180723238665268644292522001806517207015348263141136321786039854851960946276392577725679053587558651738183499777 20 [(.eff 73 [4,0,5],100000)])
noncomputable def jcR (a:Str) (t:Tok) (vs:List Value) (P:Params) (ρ:Unk) (b tk:Nat):Option Out:=runC (VK P (rules12 P)) ρ 600 (.call (.ref 152) ⟨.str a t::vs,[]⟩) [] b tk (orcN 1 858113115528858678944271768162322958009910212807180723238665268644292522001806517207015348263141136321786039854851960946276392577725679053587558651738183499777 20 [(.eff 73 [4,0,5],100000)])
theorem join_call1 (a:Str) (t:Tok) (v1:Value) (P:Params):∀ (ρ:Unk) (b tk:Nat),
 PathI [] (jcW a [v1])
  (jcR a t [v1] P ρ b tk):=
 fP2 (by intros;kernel_rfl) (by intros;kernel_rfl) P
theorem join_call2 (a:Str) (t:Tok) (v1 v2:Value) (P:Params):∀ (ρ:Unk) (b tk:Nat),
 PathI [] (jcW a [v1,v2])
  (jcR a t [v1,v2] P ρ b tk):=
 fP2 (by intros;kernel_rfl) (by intros;kernel_rfl) P
theorem join_call3 (a:Str) (t:Tok) (v1 v2 v3:Value) (P:Params):∀ (ρ:Unk) (b tk:Nat),
 PathI [] (jcW a [v1,v2,v3])
  (jcR a t [v1,v2,v3] P ρ b tk):=
 fP2 (by intros;kernel_rfl) (by intros;kernel_rfl) P
theorem join_call4 (a:Str) (t:Tok) (v1 v2 v3 v4:Value) (P:Params):∀ (ρ:Unk) (b tk:Nat),
 PathI [] (jcW a [v1,v2,v3,v4])
  (jcR a t [v1,v2,v3,v4] P ρ b tk):=
 fP2 (by intros;kernel_rfl) (by intros;kernel_rfl) P
theorem join_call5 (a:Str) (t:Tok) (v1 v2 v3 v4 v5:Value) (P:Params):∀ (ρ:Unk) (b tk:Nat),
 PathI [] (jcW a [v1,v2,v3,v4,v5])
  (jcR a t [v1,v2,v3,v4,v5] P ρ b tk):=
 fP2 (by intros;kernel_rfl) (by intros;kernel_rfl) P
theorem join_call6 (a:Str) (t:Tok) (v1 v2 v3 v4 v5 v6:Value) (P:Params):∀ (ρ:Unk) (b tk:Nat),
 PathI [] (jcW a [v1,v2,v3,v4,v5,v6])
  (jcR a t [v1,v2,v3,v4,v5,v6] P ρ b tk):=
 fP2 (by intros;kernel_rfl) (by intros;kernel_rfl) P
theorem join_call7 (a:Str) (t:Tok) (v1 v2 v3 v4 v5 v6 v7:Value) (P:Params):∀ (ρ:Unk) (b tk:Nat),
 PathI [] (jcW a [v1,v2,v3,v4,v5,v6,v7])
  (jcR a t [v1,v2,v3,v4,v5,v6,v7] P ρ b tk):=
 fP2 (by intros;kernel_rfl) (by intros;kernel_rfl) P
noncomputable def joinCS (a:Str) (t:Tok) (vs:List Value):LSpec where
 c₀:=.call (.ref 152) ⟨.str a t::vs,[]⟩
 st:=fun _=>[]
 conds:=[AllS vs,0 < vs.length,JOk a (txs vs),vs.length≤7]
 r:=fun _ u=>.ok (.ret (.str ((txs vs).foldl jstep a) (u 0)))
 st':=fun _ _=>[]
theorem joinCS_ok {B:Nat} (hB:B+100≤800) {w:World} (a:Str) (t:Tok) (vs:List Value):LoopOk B (VK w.params (rules12 w.params)) w (joinCS a t vs):=by
 refine LF.toSpec rfl fun hc=>?_
 have c1:AllS vs:=hc _ (.head _)
 have c2:0 < vs.length:=hc _ (.tail _ (.head _))
 have c3:JOk a (txs vs):=hc _ (.tail _ (.tail _ (.head _)))
 have c4:vs.length≤7:=hc _ (.tail _ (.tail _ (.tail _ (.head _))))
 have key:(∀ b tk ρ,PathI [] (jcW a vs) (jcR a t vs w.params ρ b tk))→LF B (VK w.params (rules12 w.params)) w (joinCS a t vs).c₀ (joinCS a t vs).st (PostS (joinCS a t vs)):=fun h=>
  LF.call (n:=600) (is:=[]) (o:=jcO) (v:=fun _=>jcW a vs) (VK_ok w (rules12 w.params)) (rules12_ok (B:=B+48) (ar13) rfl) (ar12) rfl (fun τ b tk ρ=>h b tk ρ) (fun ρ sz=>⟨cC c1 (cC c2 (cC c3 c0)),fun hsz tr τ=>⟨fun _=>tr,rfl,rfl⟩⟩)
 clear hc c1 c3
 cases vs with
 | nil=>exact absurd c2 (Nat.lt_irrefl 0)
 | cons v1 vs=>
 cases vs with
 | nil=>exact key fun b tk ρ=>join_call1 a t v1 w.params ρ b tk
 | cons v2 vs=>
   cases vs with
   | nil=>exact key fun b tk ρ=>join_call2 a t v1 v2 w.params ρ b tk
   | cons v3 vs=>
     cases vs with
     | nil=>exact key fun b tk ρ=>join_call3 a t v1 v2 v3 w.params ρ b tk
     | cons v4 vs=>
       cases vs with
       | nil=>exact key fun b tk ρ=>join_call4 a t v1 v2 v3 v4 w.params ρ b tk
       | cons v5 vs=>
         cases vs with
         | nil=>exact key fun b tk ρ=>join_call5 a t v1 v2 v3 v4 v5 w.params ρ b tk
         | cons v6 vs=>
           cases vs with
           | nil=>exact key fun b tk ρ=>join_call6 a t v1 v2 v3 v4 v5 v6 w.params ρ b tk
           | cons v7 vs=>
             cases vs with
             | nil=>exact key fun b tk ρ=>join_call7 a t v1 v2 v3 v4 v5 v6 v7 w.params ρ b tk
             | cons v8 vs=>simp only [List.length_cons] at c4;lia
noncomputable def stW (P:Params) (L EN it SL WL PL:Nat) (text:Str) (vs ws:List Value) (e k:Nat) (turn:Int) (strand q:Str):St:=fun τ=>[(L,frO [E P ⟨⟨[116,101,120,116]⟩⟩ (τ 0) (.str text (τ 1)),E P ⟨⟨[115,116,114,97,110,100,115]⟩⟩ (τ 2) (.ref SL),E P ⟨⟨[119,111,114,100,115]⟩⟩ (τ 4) (.ref WL),E P ⟨⟨[116,117,114,110]⟩⟩ (τ 6) (.int turn (τ 7)),E P ⟨⟨[115,116,114,97,110,100]⟩⟩ (τ 8) (.str strand (τ 9)),E P ⟨⟨[112,105,101,99,101,115]⟩⟩ (τ 10) (.ref PL)] 6),(EN,itO "enumerate" [.none,.bool false,.ref it,.int ((k:Int)) 0,.none,(.str q (τ 17))]),(it,itO "list_iterator" [.ref SL,.int ((k:Int)) 0]),(SL,seqO "list" vs 0),(WL,seqO "list" ws e)]
noncomputable def stW0 (P:Params) (L EN it SL WL:Nat) (text:Str) (vs ws:List Value) (e k:Nat):St:=fun τ=>[(L,frO [E P ⟨⟨[116,101,120,116]⟩⟩ (τ 0) (.str text (τ 1)),E P ⟨⟨[115,116,114,97,110,100,115]⟩⟩ (τ 2) (.ref SL),E P ⟨⟨[119,111,114,100,115]⟩⟩ (τ 4) (.ref WL)] 3),(EN,itO "enumerate" [.none,.bool false,.ref it,.int ((k:Int)) 0,.none,.none]),(it,itO "list_iterator" [.ref SL,.int ((k:Int)) 0]),(SL,seqO "list" vs 0),(WL,seqO "list" ws e)]
noncomputable def stWA (P:Params) (L EN it SL WL PL:Nat) (text:Str) (vs ws:List Value) (e k:Nat) (turn:Int) (strand q:Str) (x:Str) (tx:Tok) (U:Nat):St:=fun τ=>[(L,frO [E P ⟨⟨[116,101,120,116]⟩⟩ (τ 0) (.str text (τ 1)),E P ⟨⟨[115,116,114,97,110,100,115]⟩⟩ (τ 2) (.ref SL),E P ⟨⟨[119,111,114,100,115]⟩⟩ (τ 4) (.ref WL),E P ⟨⟨[116,117,114,110]⟩⟩ (τ 6) (.int turn (τ 7)),E P ⟨⟨[115,116,114,97,110,100]⟩⟩ (τ 8) (.str strand (τ 9)),E P ⟨⟨[112,105,101,99,101,115]⟩⟩ (τ 10) (.ref PL)] 6),(EN,itO "enumerate" [.int U 0,.bool false,.ref it,.int ((k:Int)+1) 0,.none,(.str x tx)]),(it,itO "list_iterator" [.ref SL,.int ((k:Int)+1) 0]),(U,seqO "tuple" [.int (k:Int) (τ 20),.str x tx] 0),(SL,seqO "list" vs 0),(WL,seqO "list" ws e)]
noncomputable def stWA0 (P:Params) (L EN it SL WL:Nat) (text:Str) (vs ws:List Value) (e k:Nat) (x:Str) (tx:Tok) (U:Nat):St:=fun τ=>[(L,frO [E P ⟨⟨[116,101,120,116]⟩⟩ (τ 0) (.str text (τ 1)),E P ⟨⟨[115,116,114,97,110,100,115]⟩⟩ (τ 2) (.ref SL),E P ⟨⟨[119,111,114,100,115]⟩⟩ (τ 4) (.ref WL)] 3),(EN,itO "enumerate" [.int U 0,.bool false,.ref it,.int ((k:Int)+1) 0,.none,(.str x tx)]),(it,itO "list_iterator" [.ref SL,.int ((k:Int)+1) 0]),(U,seqO "tuple" [.int (k:Int) (τ 14),.str x tx] 0),(SL,seqO "list" vs 0),(WL,seqO "list" ws e)]
noncomputable def stWB (P:Params) (L EN it SL WL PL:Nat) (text:Str) (vs ws:List Value) (e k:Nat) (turn:Int) (strand q:Str) (x:Str) (tx:Tok) (U:Nat):St:=fun τ=>[(L,frO [E P ⟨⟨[116,101,120,116]⟩⟩ (τ 0) (.str text (τ 1)),E P ⟨⟨[115,116,114,97,110,100,115]⟩⟩ (τ 2) (.ref SL),E P ⟨⟨[119,111,114,100,115]⟩⟩ (τ 4) (.ref WL),E P ⟨⟨[116,117,114,110]⟩⟩ (τ 6) (.int turn (τ 7)),E P ⟨⟨[115,116,114,97,110,100]⟩⟩ (τ 8) (.str strand (τ 9)),E P ⟨⟨[112,105,101,99,101,115]⟩⟩ (τ 10) (.ref PL)] 6),(EN,itO "enumerate" [.none,.bool false,.ref it,.int ((k:Int)+1) 0,.none,(.str x tx)]),(it,itO "list_iterator" [.ref SL,.int ((k:Int)+1) 0]),(U,seqO "tuple" [.int (k:Int) (τ 20),.str x tx] 0),(SL,seqO "list" vs 0),(WL,seqO "list" ws e)]
noncomputable def stWB0 (P:Params) (L EN it SL WL:Nat) (text:Str) (vs ws:List Value) (e k:Nat) (x:Str) (tx:Tok) (U:Nat):St:=fun τ=>[(L,frO [E P ⟨⟨[116,101,120,116]⟩⟩ (τ 0) (.str text (τ 1)),E P ⟨⟨[115,116,114,97,110,100,115]⟩⟩ (τ 2) (.ref SL),E P ⟨⟨[119,111,114,100,115]⟩⟩ (τ 4) (.ref WL)] 3),(EN,itO "enumerate" [.none,.bool false,.ref it,.int ((k:Int)+1) 0,.none,(.str x tx)]),(it,itO "list_iterator" [.ref SL,.int ((k:Int)+1) 0]),(U,seqO "tuple" [.int (k:Int) (τ 14),.str x tx] 0),(SL,seqO "list" vs 0),(WL,seqO "list" ws e)]
noncomputable def stWz (P:Params) (L SL WL PL:Nat) (text:Str) (vs ws:List Value) (e:Nat) (turn:Int) (strand:Str):St:=fun τ=>[(L,frO [E P ⟨⟨[116,101,120,116]⟩⟩ (τ 0) (.str text (τ 1)),E P ⟨⟨[115,116,114,97,110,100,115]⟩⟩ (τ 2) (.ref SL),E P ⟨⟨[119,111,114,100,115]⟩⟩ (τ 4) (.ref WL),E P ⟨⟨[116,117,114,110]⟩⟩ (τ 6) (.int turn (τ 7)),E P ⟨⟨[115,116,114,97,110,100]⟩⟩ (τ 8) (.str strand (τ 9)),E P ⟨⟨[112,105,101,99,101,115]⟩⟩ (τ 10) (.ref PL)] 6),(SL,seqO "list" vs 0),(WL,seqO "list" ws e)]
noncomputable def codeW (P:Params) (L EN:Nat):Code:=loopC (stm (st 51) 1) (.ref EN) (envF (o893 P) 893 L)
noncomputable def evenP (x:Str):List Str:=splitS (replS x ⟨⟨[92,34]⟩⟩ ⟨⟨[34]⟩⟩) ⟨⟨[32]⟩⟩
theorem words_next (P:Params):∀ (L EN it SL WL PL:Nat) (text:Str) (vs ws:List Value) (e k:Nat) (turn:Int) (strand q:Str) (ρ:Unk) (τ:Nat→Tok) (b tk:Nat),
 PathI [1,2,3,0,4,5] (fun _=>⟨(fun _=>.inl (.done (.ret (.ref (ρ.b 0+900))))),[vs[(k:Int).toNat]? =some (.str (sOf (vAtI vs (k:Int))) (tokV (vAtI vs (k:Int))))],stWA P L EN it SL WL PL text vs ws e k turn strand q (sOf (vAtI vs (k:Int))) (tokV (vAtI vs (k:Int))) (ρ.b 0+900)⟩)
  (runV (VK P rules6) ρ 900 (nextT1 (.ref EN)) (stW P L EN it SL WL PL text vs ws e k turn strand q τ) b tk (orcN 0 485689989054894606326439309722503522533346043431315260449512241646534216271996876095490 2 [(.eff 60 [2,3,1],100000)])):=
 fP2 (by intros;kernel_rfl) (by intros;kernel_rfl) P
theorem words_next0 (P:Params):∀ (L EN it SL WL:Nat) (text:Str) (vs ws:List Value) (e k:Nat) (ρ:Unk) (τ:Nat→Tok) (b tk:Nat),
 PathI [1,2,3,0,4,5] (fun _=>⟨(fun _=>.inl (.done (.ret (.ref (ρ.b 0+900))))),[vs[(k:Int).toNat]? =some (.str (sOf (vAtI vs (k:Int))) (tokV (vAtI vs (k:Int))))],stWA0 P L EN it SL WL text vs ws e k (sOf (vAtI vs (k:Int))) (tokV (vAtI vs (k:Int))) (ρ.b 0+900)⟩)
  (runV (VK P rules6) ρ 900 (nextT1 (.ref EN)) (stW0 P L EN it SL WL text vs ws e k τ) b tk (orcN 0 485689989054894606326439309722503522533346043431315260449512241646534216271996876095490 2 [(.eff 60 [2,3,1],100000)])):=
 fP2 (by intros;kernel_rfl) (by intros;kernel_rfl) P
theorem words_even (P:Params):∀ (L EN it SL WL PL:Nat) (text:Str) (vs ws:List Value) (e k:Nat) (turn:Int) (strand q:Str) (x:Str) (tx:Tok) (U:Nat) (ρ:Unk) (τ:Nat→Tok) (b tk:Nat),
 PathI [12,13,14,16,0] (fun _=>⟨(fun _=>.inl (.again (codeW P L EN))),[(ws.dropLast++[(Value.str (sOf (ws.getLastD .none)++sOf ((strsFrom (ρ.u 2 0) (evenP x)).headD .none)) (ρ.u 6 0))]).length+(strsFrom (ρ.u 2 0) (evenP x)).tail.length≤sizeLine,some (1:Int)=some 1,(none:Option Int)=none,(strsFrom (ρ.u 2 0) (evenP x)).length≤sizeLine,ws.dropLast.length+[(Value.str (sOf (ws.getLastD .none)++sOf ((strsFrom (ρ.u 2 0) (evenP x)).headD .none)) (ρ.u 6 0))].length≤sizeLine,((sOf (ws.getLastD .none))++(sOf ((strsFrom (ρ.u 2 0) (evenP x)).headD .none))).length≤sizeLine,(0:Int)=0,(strsFrom (ρ.u 2 0) (evenP x)).head? =some (.str (sOf ((strsFrom (ρ.u 2 0) (evenP x)).headD .none)) (tokV ((strsFrom (ρ.u 2 0) (evenP x)).headD .none))),(-1:Int)= -1,ws.getLast? =some (.str (sOf (ws.getLastD .none)) (tokV (ws.getLastD .none))),(none:Option Int)=none,some (-1:Int)=some (-1),ws.length≤sizeLine,(⟨⟨[32]⟩⟩:Str).length≠0,(replS x (⟨⟨[92,34]⟩⟩:Str) (⟨⟨[34]⟩⟩:Str)).length≤sizeLine,(splitS (replS x (⟨⟨[92,34]⟩⟩:Str) (⟨⟨[34]⟩⟩:Str)) (⟨⟨[32]⟩⟩:Str)).length≤sizeLine,(⟨⟨[92,34]⟩⟩:Str).length≠0,(ρ.t 0+1 == 0 || ρ.t 0+2 == 0)=false,(ρ.t 0+1 == ρ.t 0+2)=false,((⟨⟨[92,34]⟩⟩:Str) == (⟨⟨[34]⟩⟩:Str))=false,x.length+(Builtin.Str.occurrences x (⟨⟨[92,34]⟩⟩:Str) 0 x.length (x.length+1)).length * (⟨⟨[34]⟩⟩:Str).length≤sizeLine,(replS x (⟨⟨[92,34]⟩⟩:Str) (⟨⟨[34]⟩⟩:Str)).length≤sizeLine,((2:Int) == 0)=false,(k:Int).fmod (2:Int)=(0:Int)],stW P L EN it SL (ρ.b 9+899) (ρ.b 2+899) text vs (ws.dropLast++[Value.str (sOf (ws.getLastD .none)++sOf ((strsFrom (ρ.u 2 0) (evenP x)).headD .none)) (ρ.u 6 0)]++(strsFrom (ρ.u 2 0) (evenP x)).tail) 0 (k+1) (k:Int) x x⟩)
  (runV (VK P rules6) ρ 900 (restT (stm (st 51) 1) (.ref EN) (envF (o893 P) 893 L) (.ref U)) (stWB P L EN it SL WL PL text vs ws e k turn strand q x tx U τ) b tk (orcN 0 40883112361648254432680646656977826590143882942666710694080765509054360895469077124038120692356738216703502671703260068380488282775382398117275032342797338625762242132912642211761291286341617649368874396372508122004837818979367917598023437686655457584367491774346323532465032319193679961775545778180 8 [(.eff 14 [0],2),(.eff 23 [],0),(.eff 57 [],2),(.eff 55 [11,0,0],2),(.eff 54 [12,1],0),(.eff 54 [2,0],0),(.eff 3 [],0),(.eff 53 [1,0],0),(.eff 55 [5,0,1],0),(.eff 53 [2,0],100000)])):=
 fP2 (by intros;kernel_rfl) (by intros;kernel_rfl) P
theorem words_first (P:Params):∀ (L EN it SL WL:Nat) (text:Str) (vs ws:List Value) (e k:Nat) (x:Str) (tx:Tok) (U:Nat) (ρ:Unk) (τ:Nat→Tok) (b tk:Nat),
 PathI [12,13,14,16,0] (fun _=>⟨(fun _=>.inl (.again (codeW P L EN))),[(ws.dropLast++[(Value.str (sOf (ws.getLastD .none)++sOf ((strsFrom (ρ.u 2 0) (evenP x)).headD .none)) (ρ.u 6 0))]).length+(strsFrom (ρ.u 2 0) (evenP x)).tail.length≤sizeLine,some (1:Int)=some 1,(none:Option Int)=none,(strsFrom (ρ.u 2 0) (evenP x)).length≤sizeLine,ws.dropLast.length+[(Value.str (sOf (ws.getLastD .none)++sOf ((strsFrom (ρ.u 2 0) (evenP x)).headD .none)) (ρ.u 6 0))].length≤sizeLine,((sOf (ws.getLastD .none))++(sOf ((strsFrom (ρ.u 2 0) (evenP x)).headD .none))).length≤sizeLine,(0:Int)=0,(strsFrom (ρ.u 2 0) (evenP x)).head? =some (.str (sOf ((strsFrom (ρ.u 2 0) (evenP x)).headD .none)) (tokV ((strsFrom (ρ.u 2 0) (evenP x)).headD .none))),(-1:Int)= -1,ws.getLast? =some (.str (sOf (ws.getLastD .none)) (tokV (ws.getLastD .none))),(none:Option Int)=none,some (-1:Int)=some (-1),ws.length≤sizeLine,(⟨⟨[32]⟩⟩:Str).length≠0,(replS x (⟨⟨[92,34]⟩⟩:Str) (⟨⟨[34]⟩⟩:Str)).length≤sizeLine,(splitS (replS x (⟨⟨[92,34]⟩⟩:Str) (⟨⟨[34]⟩⟩:Str)) (⟨⟨[32]⟩⟩:Str)).length≤sizeLine,(⟨⟨[92,34]⟩⟩:Str).length≠0,(ρ.t 0+1 == 0 || ρ.t 0+2 == 0)=false,(ρ.t 0+1 == ρ.t 0+2)=false,((⟨⟨[92,34]⟩⟩:Str) == (⟨⟨[34]⟩⟩:Str))=false,x.length+(Builtin.Str.occurrences x (⟨⟨[92,34]⟩⟩:Str) 0 x.length (x.length+1)).length * (⟨⟨[34]⟩⟩:Str).length≤sizeLine,(replS x (⟨⟨[92,34]⟩⟩:Str) (⟨⟨[34]⟩⟩:Str)).length≤sizeLine,((2:Int) == 0)=false,(k:Int).fmod (2:Int)=(0:Int)],stW P L EN it SL (ρ.b 9+899) (ρ.b 2+899) text vs (ws.dropLast++[Value.str (sOf (ws.getLastD .none)++sOf ((strsFrom (ρ.u 2 0) (evenP x)).headD .none)) (ρ.u 6 0)]++(strsFrom (ρ.u 2 0) (evenP x)).tail) 0 (k+1) (k:Int) x x⟩)
  (runV (VK P rules6) ρ 900 (restT (stm (st 51) 1) (.ref EN) (envF (o893 P) 893 L) (.ref U)) (stWB0 P L EN it SL WL text vs ws e k x tx U τ) b tk (orcN 0 40883112361648254432680646656977826590143882942666710694080765509054360895469077124038120692356738216703502671703260068380488282775382398117275032342797338625762242132912642211761291286341617649368874396372508122004837818979367917598023437686655457584367491774346323532465032319193679961775545778180 8 [(.eff 14 [0],2),(.eff 23 [],0),(.eff 57 [],2),(.eff 55 [11,0,0],2),(.eff 54 [12,1],0),(.eff 54 [2,0],0),(.eff 3 [],0),(.eff 53 [1,0],0),(.eff 55 [5,0,1],0),(.eff 53 [2,0],100000)])):=
 fP2 (by intros;kernel_rfl) (by intros;kernel_rfl) P
theorem words_odd (P:Params):∀ (L EN it SL WL PL:Nat) (text:Str) (vs ws:List Value) (e k:Nat) (turn:Int) (strand q:Str) (x:Str) (tx:Tok) (U:Nat) (ρ:Unk) (τ:Nat→Tok) (b tk:Nat),
 PathI [11,12,13,15,0] (fun _=>⟨(fun _=>.inl (.again (codeW P L EN))),[(ws.dropLast++[(Value.str (sOf (ws.getLastD .none)++sOf (([Value.str x tx]:List Value).headD .none)) (ρ.u 4 0))]).length+([Value.str x tx]:List Value).tail.length≤sizeLine,some (1:Int)=some 1,(none:Option Int)=none,([Value.str x tx]:List Value).length≤sizeLine,ws.dropLast.length+[(Value.str (sOf (ws.getLastD .none)++sOf (([Value.str x tx]:List Value).headD .none)) (ρ.u 4 0))].length≤sizeLine,((sOf (ws.getLastD .none))++(sOf (([Value.str x tx]:List Value).headD .none))).length≤sizeLine,(0:Int)=0,([Value.str x tx]:List Value).head? =some (.str (sOf (([Value.str x tx]:List Value).headD .none)) (tokV (([Value.str x tx]:List Value).headD .none))),(-1:Int)= -1,ws.getLast? =some (.str (sOf (ws.getLastD .none)) (tokV (ws.getLastD .none))),(none:Option Int)=none,some (-1:Int)=some (-1),ws.length≤sizeLine,((2:Int) == 0)=false,(k:Int).fmod (2:Int)=(1:Int)],stW P L EN it SL (ρ.b 7+899) (b+903) text vs (ws.dropLast++[Value.str (sOf (ws.getLastD .none)++sOf (([.str x tx]:List Value).headD .none)) (ρ.u 4 0)]++([.str x tx]:List Value).tail) 0 (k+1) (k:Int) x x⟩)
  (runV (VK P rules6) ρ 900 (restT (stm (st 51) 1) (.ref EN) (envF (o893 P) 893 L) (.ref U)) (stWB P L EN it SL WL PL text vs ws e k turn strand q x tx U τ) b tk (orcN 0 145243723476809411859779137676285189733702733756032675987403804904401207853709911281925904580582295426667514706102921552207611221980856065845850214575408676010629149021210461973193834517571699635994130787760943052586900985984306650928186998661250649434705179062675841314013200701980676 8 [(.eff 14 [1],4),(.eff 55 [10,0,0],2),(.eff 54 [11,1],0),(.eff 54 [2,0],0),(.eff 3 [],0),(.eff 53 [1,0],0),(.eff 55 [5,0,1],0),(.eff 53 [2,0],100000)])):=
 fP2 (by intros;kernel_rfl) (by intros;kernel_rfl) P
theorem words_end (P:Params):∀ (L EN it SL WL PL:Nat) (text:Str) (vs ws:List Value) (e k:Nat) (turn:Int) (strand q:Str) (ρ:Unk) (τ:Nat→Tok) (b tk:Nat),
 PathI [2,5,6] (fun _=>⟨(fun _=>.inl (.again (.block [] (envF (o893 P) 893 L)))),[vs[(k:Int).toNat]? =none],stWz P L SL WL PL text vs ws e turn strand⟩)
  (runL (VK P rules6) ρ 900 (codeW P L EN) (stW P L EN it SL WL PL text vs ws e k turn strand q τ) b tk (orcN 0 1180610068305918533173250 2 [(.eff 60 [2,3,0],100000)])):=
 fP2 (by intros;kernel_rfl) (by intros;kernel_rfl) P
noncomputable def piecesW (k:Nat) (x:Str):List Str:=if k % 2=0 then evenP x else [x]
noncomputable def wordsStep (k:Nat) (ws:List Str) (x:Str):List Str:=ws.dropLast++[ws.getLastD default++(piecesW k x).headD default]++(piecesW k x).tail
noncomputable def wordsGo:Nat→List Str→List Str→List Str
 | _,ws,[]=>ws
 | k,ws,x::xs=>wordsGo (k+1) (wordsStep k ws x) xs
noncomputable def wordsOk:Nat→List Str→List Str→Prop
 | _,_,[]=>True
 | k,ws,x::xs=>ws≠[]∧ws.length≤sizeLine∧(ws.getLastD default++(piecesW k x).headD default).length≤sizeLine∧(wordsStep k ws x).length≤sizeLine∧piecesW k x≠[]∧
    (k % 2=0→(replS x ⟨⟨[92,34]⟩⟩ ⟨⟨[34]⟩⟩).length≤sizeLine∧x.length+(Builtin.Str.occurrences x ⟨⟨[92,34]⟩⟩ 0 x.length (x.length+1)).length≤sizeLine)∧wordsOk (k+1) (wordsStep k ws x) xs
theorem sOf_lastD {ws:List Value}:sOf (ws.getLastD .none)=(txs ws).getLastD default:=by
 unfold txs
 rw [List.getLastD_eq_getLast?,List.getLastD_eq_getLast?,List.getLast?_map]
 cases ws.getLast? <;> rfl
theorem sOf_headD {ws:List Value}:sOf (ws.headD .none)=(txs ws).headD default:=by
 cases ws <;> rfl
theorem txs_tail (ws:List Value):txs ws.tail=(txs ws).tail:=by cases ws <;> rfl
theorem txs_dropLast (ws:List Value):txs ws.dropLast=(txs ws).dropLast:=by unfold txs;rw [List.map_dropLast]
theorem txs_new {ws ps:List Value} {t:Tok}:txs (ws.dropLast++[.str (sOf (ws.getLastD .none)++sOf (ps.headD .none)) t]++ps.tail)=
 (txs ws).dropLast++[(txs ws).getLastD default++(txs ps).headD default]++(txs ps).tail:=by
 rw [txs_append,txs_append,txs_dropLast,txs_tail,sOf_lastD,sOf_headD]
 rfl
theorem txs_len (ws:List Value):(txs ws).length=ws.length:=by unfold txs;rw [List.length_map]
theorem AllS_new {ws ps:List Value} {s:Str} {t:Tok} (h:AllS ws) (k:AllS ps):AllS (ws.dropLast++[.str s t]++ps.tail):=
 ((h.sub fun x hx=>(List.dropLast_sublist ws).subset hx).append (AllS.cons AllS.nil)).append (k.sub fun x hx=>(List.tail_sublist ps).subset hx)
theorem AllS.lastD {ws:List Value} (h:AllS ws) (hn:ws≠[]):ws.getLast? =some (.str (sOf (ws.getLastD .none)) (tokV (ws.getLastD .none))):=by
 obtain ⟨v,hv⟩:∃ v,ws.getLast? =some v:=⟨_,List.getLast?_eq_some_getLast hn⟩
 rw [List.getLastD_eq_getLast?,hv]
 obtain ⟨s,t,rfl⟩:=h v (List.mem_of_getLast? hv)
 rfl
theorem AllS.headD {ws:List Value} (h:AllS ws) (hn:ws≠[]):ws.head? =some (.str (sOf (ws.headD .none)) (tokV (ws.headD .none))):=by
 cases ws with
 | nil=>exact (hn rfl).elim
 | cons v l=>obtain ⟨s,t,rfl⟩:=h v (.head _);rfl
theorem codeW_w (P:Params) (L it:Nat):(codeW P L it).weight≤4:=Nat.le_of_ble_eq_true (by kernel_rfl)
theorem codeW_q (P:Params) (L it:Nat):(codeW P L it).quiet=true:=by kernel_rfl
theorem codeW_t:isTupFor (stm (st 51) 1):=⟨_,_,_,_,_,_,_,rfl⟩
theorem len_new {ws ps:List Value} {s:Str} {t:Tok}:(ws.dropLast++[Value.str s t]++ps.tail).length=((txs ws).dropLast++[(txs ws).getLastD default++(txs ps).headD default]++(txs ps).tail).length:=by
 rw [List.length_append,List.length_append,List.length_append,List.length_append,←txs_dropLast,←txs_tail,txs_len,txs_len];rfl
theorem fmodE {k:Nat} (h:k % 2=0):(k:Int).fmod 2=0:=by rw [Int.fmod_eq_emod_of_nonneg _ (by decide)];lia
theorem fmodO {k:Nat} (h:k % 2≠0):(k:Int).fmod 2=1:=by rw [Int.fmod_eq_emod_of_nonneg _ (by decide)];lia
section
variable {B:Nat} {w:World} (hB:B+52≤800) (L EN it SL:Nat) (text:Str) (vs:List Value) (hS:AllS vs)
include hB hS
theorem words_loop:∀ (n k WL PL:Nat) (ws:List Value) (e:Nat) (turn:Int) (strand q:Str),k+n=vs.length→AllS ws→wordsOk k (txs ws) (txs (vs.drop k))→
 LF B (VK w.params rules6) w (codeW w.params L EN) (stW w.params L EN it SL WL PL text vs ws e k turn strand q)
  (fun x T b=>x= .ok .next∧∃ WL' PL' ws' e' τ,AllS ws'∧txs ws'=wordsGo k (txs ws) (txs (vs.drop k))∧T=stWz w.params L SL WL' PL' text vs ws' e' (if n=0 then turn else ((vs.length - 1:Nat):Int)) (if n=0 then strand else sOf (vs.getLastD .none)) τ):=by
 have HR:=rules6_ok (B:=B+52) hB (V:=VK w.params rules6) (w:=w) rfl
 have O:=VK_ok w rules6
 intro n
 induction n with
 | zero=>
   intro k WL PL ws e turn strand q hk hA hO
   have hn:vs[((k:Nat):Int).toNat]? =none:=by rw [Int.toNat_natCast];exact List.getElem?_eq_none (ar17)
   refine LF.loop O HR (ar11) rfl (fun τ b tk ρ=>words_end w.params L EN it SL WL PL text vs ws e k turn strand q ρ τ b tk) (codeW_w ..) (fun ρ sz=>⟨cC hn c0,fun hsz tr=>⟨rfl,?_⟩⟩)
   refine (LF.block _).mono ?_
   rintro x T b ⟨rfl,τ,rfl⟩
   refine ⟨rfl,WL,PL,ws,e,τ,hA,?_,rfl⟩
   rw [List.drop_eq_nil_of_le (ar17)]
   rfl
 | succ n ih=>
   intro k WL PL ws e turn strand q hk hA hO
   obtain ⟨v,hv,hd⟩:=drop_split (l:=vs) (k:=k) (ar21)
   have hs:=hS.at hv
   have hat:=vAtI_nat hv
   have hc1:vs[((k:Nat):Int).toNat]? =some (.str (sOf (vAtI vs (k:Int))) (tokV (vAtI vs (k:Int)))):=by rw [Int.toNat_natCast,hat,←hs];exact hv
   have enm:(if n=0 then sOf (vAtI vs (k:Int)) else sOf (vs.getLastD .none))=(if n+1=0 then strand else sOf (vs.getLastD .none)):=by
    rw [if_neg (Nat.succ_ne_zero n)]
    split
    ·rename_i hn0;rw [last_at vs (ar22)]
    ·rfl
   have enk:(if n=0 then (k:Int) else ((vs.length - 1:Nat):Int))=(if n+1=0 then turn else ((vs.length - 1:Nat):Int)):=by
    rw [if_neg (Nat.succ_ne_zero n)]
    split
    ·rename_i hn0;rw [show vs.length - 1=k by exact ar22']
    ·rfl
   rw [hd] at hO⊢
   rw [←enm,←enk]
   rw [show txs (v::vs.drop (k+1))=sOf v::txs (vs.drop (k+1)) from rfl] at hO⊢
   obtain ⟨o1,o2,o3,o4,o5,o6,o7⟩:=hO
   have hws:ws≠[]:=by rintro rfl;exact o1 rfl
   have hwl:ws.length≤sizeLine:=by rw [←txs_len];exact o2
   have hl1:ws.dropLast.length+1≤sizeLine:=by rw [List.length_dropLast];have:=List.length_pos_iff.mpr hws;exact ar41
   have ex:sOf (vAtI vs (k:Int))=sOf v:=by rw [hat]
   by_cases hk2:k % 2=0
   ·obtain ⟨o61,o62⟩:=o6 hk2
    have ep:piecesW k (sOf v)=evenP (sOf v):=if_pos hk2
    refine LF.enum rfl O HR (ar11) rfl rfl codeW_t (fun τ b tk ρ=>words_next w.params L EN it SL WL PL text vs ws e k turn strand q ρ τ b tk) (fun ρ sz=>⟨cC hc1 c0,_,fun tr=>rfl,rfl⟩) (fun U τ=>rfl) (fun U τ=>rfl) (j:=1) (it:=it) (i:=(k:Int)+1) (item:=fun _ _=>.str (sOf (vAtI vs (k:Int))) (tokV (vAtI vs (k:Int)))) (stA:=stWA w.params L EN it SL WL PL text vs ws e k turn strand q (sOf (vAtI vs (k:Int))) (tokV (vAtI vs (k:Int))))
     (stB:=stWB w.params L EN it SL WL PL text vs ws e k turn strand q (sOf (vAtI vs (k:Int))) (tokV (vAtI vs (k:Int))))
     (fun U τ b tk ρ=>words_even w.params L EN it SL WL PL text vs ws e k turn strand q _ _ U ρ τ b tk) (codeW_w ..) (fun U b ρ sz=>⟨?_,fun hsz tr=>⟨_,rfl,codeW_q ..,?_⟩⟩)
    ·have tp:∀ u,txs (strsFrom u (evenP (sOf v)))=piecesW k (sOf v):=fun u=>by rw [txs_strsFrom,ep]
     have ne:strsFrom (ρ.u 2 0) (evenP (sOf v))≠[]:=fun z=>o5 (by rw [←tp (ρ.u 2 0),z];rfl)
     have hlen:(strsFrom (ρ.u 2 0) (evenP (sOf v))).length≤sizeLine:=by
      rw [←txs_len,tp]
      have:(wordsStep k (txs ws) (sOf v)).length=(txs ws).dropLast.length+1+(piecesW k (sOf v)).tail.length:=by
       unfold wordsStep;rw [List.length_append,List.length_append];rfl
      rw [List.length_tail] at this
      have q:(wordsStep k (txs ws) (sOf v)).length≤sizeLine:=by assumption
      rw [this] at q
      exact ar71 q (Nat.succ_pos _)
     rw [ex]
     refine cC ?_ (cC rfl (cC rfl (cC hlen (cC hl1 (cC ?_ (cC rfl (cC (AllS.headD (AllS.strsFrom _ _) ne) (cC rfl (cC (hA.lastD hws) (cC rfl (cC rfl (cC hwl (cC (by decide) (cC o61 (cC ?_ (cC (by decide) (cC ?_ (cC ?_ (cC (by decide) (cC ?_ (cC o61 (cC (by decide) (cC (fmodE hk2) c0)))))))))))))))))))))))
     ·have:=o4
      unfold wordsStep at this
      rw [←tp (ρ.u 2 0),←len_new (s:=sOf (ws.getLastD .none)++sOf ((strsFrom (ρ.u 2 0) (evenP (sOf v))).headD .none)) (t:=ρ.u 6 0),List.length_append] at this
      exact this
     ·rw [sOf_lastD,sOf_headD,tp];exact o3
     ·have:=hlen
      rw [←txs_len,txs_strsFrom] at this
      exact this
     ·simp
     ·simp
     ·rw [show (⟨⟨[34]⟩⟩:Str).length=1 from rfl,Nat.mul_one];exact o62
    ·rw [ex]
     have e1:txs (ws.dropLast++[Value.str (sOf (ws.getLastD .none)++sOf ((strsFrom (ρ.u 2 0) (evenP (sOf v))).headD .none)) (ρ.u 6 0)]++(strsFrom (ρ.u 2 0) (evenP (sOf v))).tail)=wordsStep k (txs ws) (sOf v):=by
      rw [txs_new,txs_strsFrom];unfold wordsStep;rw [ep]
     have:=ih (k+1) (ρ.b 9+899) (ρ.b 2+899) _ 0 (k:Int) (sOf v) (sOf v) (ar20) (AllS_new (s:=sOf (ws.getLastD .none)++sOf ((strsFrom (ρ.u 2 0) (evenP (sOf v))).headD .none)) (t:=ρ.u 6 0) hA (AllS.strsFrom (evenP (sOf v)) (ρ.u 2 0))) (by rw [e1];exact o7)
     rw [e1] at this
     exact this
   ·have ep:piecesW k (sOf v)=[sOf v]:=if_neg hk2
    refine LF.enum rfl O HR (ar11) rfl rfl codeW_t (fun τ b tk ρ=>words_next w.params L EN it SL WL PL text vs ws e k turn strand q ρ τ b tk) (fun ρ sz=>⟨cC hc1 c0,_,fun tr=>rfl,rfl⟩) (fun U τ=>rfl) (fun U τ=>rfl) (j:=1) (it:=it) (i:=(k:Int)+1) (item:=fun _ _=>.str (sOf (vAtI vs (k:Int))) (tokV (vAtI vs (k:Int)))) (stA:=stWA w.params L EN it SL WL PL text vs ws e k turn strand q (sOf (vAtI vs (k:Int))) (tokV (vAtI vs (k:Int))))
     (stB:=stWB w.params L EN it SL WL PL text vs ws e k turn strand q (sOf (vAtI vs (k:Int))) (tokV (vAtI vs (k:Int))))
     (fun U τ b tk ρ=>words_odd w.params L EN it SL WL PL text vs ws e k turn strand q _ _ U ρ τ b tk) (codeW_w ..) (fun U b ρ sz=>⟨?_,fun hsz tr=>⟨_,rfl,codeW_q ..,?_⟩⟩)
    ·rw [ex]
     refine cC ?_ (cC rfl (cC rfl (cC (by show 1≤_;decide) (cC hl1 (cC ?_ (cC rfl (cC rfl (cC rfl (cC (hA.lastD hws) (cC rfl (cC rfl (cC hwl (cC (by decide) (cC (fmodO hk2) c0))))))))))))))
     ·rw [List.length_append];exact hl1
     ·rw [sOf_lastD];rw [ep] at o3;exact o3
    ·rw [ex]
     have e1:txs (ws.dropLast++[Value.str (sOf (ws.getLastD .none)++sOf (([.str (sOf v) (tokV (vAtI vs (k:Int)))]:List Value).headD .none)) (ρ.u 4 0)]++([.str (sOf v) (tokV (vAtI vs (k:Int)))]:List Value).tail)=wordsStep k (txs ws) (sOf v):=by
      rw [txs_new];unfold wordsStep;rw [ep];rfl
     have:=ih (k+1) (ρ.b 7+899) (b+903) _ 0 (k:Int) (sOf v) (sOf v) (ar20) (AllS_new (s:=sOf (ws.getLastD .none)++sOf (([.str (sOf v) (tokV (vAtI vs (k:Int)))]:List Value).headD .none)) (t:=ρ.u 4 0) hA (AllS.cons (s:=sOf v) (t:=tokV (vAtI vs (k:Int))) AllS.nil)) (by rw [e1];exact o7)
     rw [e1] at this
     exact this
theorem words_loop0 (WL:Nat) (ws:List Value) (e:Nat) (hv0:0 < vs.length) (hA:AllS ws) (hO:wordsOk 0 (txs ws) (txs vs)):
 LF B (VK w.params rules6) w (codeW w.params L EN) (stW0 w.params L EN it SL WL text vs ws e 0)
  (fun x T b=>x= .ok .next∧∃ WL' PL' ws' e' τ,AllS ws'∧txs ws'=wordsGo 0 (txs ws) (txs vs)∧T=stWz w.params L SL WL' PL' text vs ws' e' ((vs.length - 1:Nat):Int) (sOf (vs.getLastD .none)) τ):=by
 have HR:=rules6_ok (B:=B+52) hB (V:=VK w.params rules6) (w:=w) rfl
 have O:=VK_ok w rules6
 obtain ⟨v,hv,hd⟩:=drop_split (l:=vs) (k:=0) hv0
 have hs:=hS.at hv
 have hat:=vAtI_nat hv
 have hc1:vs[((0:Nat):Int).toNat]? =some (.str (sOf (vAtI vs ((0:Nat):Int))) (tokV (vAtI vs ((0:Nat):Int)))):=by rw [Int.toNat_natCast,hat,←hs];exact hv
 rw [List.drop_zero] at hd
 have hO':=hO
 rw [hd,show txs (v::vs.drop (0+1))=sOf v::txs (vs.drop (0+1)) from rfl] at hO'
 obtain ⟨o1,o2,o3,o4,o5,o6,o7⟩:=hO'
 have hws:ws≠[]:=by rintro rfl;exact o1 rfl
 have hwl:ws.length≤sizeLine:=by rw [←txs_len];exact o2
 have hl1:ws.dropLast.length+1≤sizeLine:=by rw [List.length_dropLast];have:=List.length_pos_iff.mpr hws;exact ar41
 have ex:sOf (vAtI vs ((0:Nat):Int))=sOf v:=by rw [hat]
 have enm:(if vs.length - 1=0 then sOf v else sOf (vs.getLastD .none))=sOf (vs.getLastD .none):=by
  split
  ·rename_i hn0;rw [←ex,last_at vs (ar40)]
  ·rfl
 have enk:(if vs.length - 1=0 then ((0:Nat):Int) else ((vs.length - 1:Nat):Int))=((vs.length - 1:Nat):Int):=by
  split
  ·rename_i hn0;rw [hn0]
  ·rfl
 have ego:wordsGo 0 (txs ws) (txs vs)=wordsGo 1 (wordsStep 0 (txs ws) (sOf v)) (txs (vs.drop (0+1))):=by
  conv=>lhs;rw [hd]
  rfl
 rw [←enm,←enk,ego]
 obtain ⟨o61,o62⟩:=o6 rfl
 have ep:piecesW 0 (sOf v)=evenP (sOf v):=rfl
 refine LF.enum rfl O HR (ar11) rfl rfl codeW_t (fun τ b tk ρ=>words_next0 w.params L EN it SL WL text vs ws e 0 ρ τ b tk) (fun ρ sz=>⟨cC hc1 c0,_,fun tr=>rfl,rfl⟩) (fun U τ=>rfl) (fun U τ=>rfl) (j:=1) (it:=it) (i:=((0:Nat):Int)+1) (item:=fun _ _=>.str (sOf (vAtI vs ((0:Nat):Int))) (tokV (vAtI vs ((0:Nat):Int)))) (stA:=stWA0 w.params L EN it SL WL text vs ws e 0 (sOf (vAtI vs ((0:Nat):Int))) (tokV (vAtI vs ((0:Nat):Int))))
  (stB:=stWB0 w.params L EN it SL WL text vs ws e 0 (sOf (vAtI vs ((0:Nat):Int))) (tokV (vAtI vs ((0:Nat):Int))))
  (fun U τ b tk ρ=>words_first w.params L EN it SL WL text vs ws e 0 _ _ U ρ τ b tk) (codeW_w ..) (fun U b ρ sz=>⟨?_,fun hsz tr=>⟨_,rfl,codeW_q ..,?_⟩⟩)
 ·have tp:∀ u,txs (strsFrom u (evenP (sOf v)))=piecesW 0 (sOf v):=fun u=>by rw [txs_strsFrom,ep]
  have ne:strsFrom (ρ.u 2 0) (evenP (sOf v))≠[]:=fun z=>o5 (by rw [←tp (ρ.u 2 0),z];rfl)
  have hlen:(strsFrom (ρ.u 2 0) (evenP (sOf v))).length≤sizeLine:=by
   rw [←txs_len,tp]
   have:(wordsStep 0 (txs ws) (sOf v)).length=(txs ws).dropLast.length+1+(piecesW 0 (sOf v)).tail.length:=by
    unfold wordsStep;rw [List.length_append,List.length_append];rfl
   rw [List.length_tail] at this
   have q:(wordsStep 0 (txs ws) (sOf v)).length≤sizeLine:=by assumption
   rw [this] at q
   exact ar71 q (Nat.succ_pos _)
  rw [ex]
  refine cC ?_ (cC rfl (cC rfl (cC hlen (cC hl1 (cC ?_ (cC rfl (cC (AllS.headD (AllS.strsFrom _ _) ne) (cC rfl (cC (hA.lastD hws) (cC rfl (cC rfl (cC hwl (cC (by decide) (cC o61 (cC ?_ (cC (by decide) (cC ?_ (cC ?_ (cC (by decide) (cC ?_ (cC o61 (cC (by decide) (cC (fmodE rfl) c0)))))))))))))))))))))))
  ·have:=o4
   unfold wordsStep at this
   rw [←tp (ρ.u 2 0),←len_new (s:=sOf (ws.getLastD .none)++sOf ((strsFrom (ρ.u 2 0) (evenP (sOf v))).headD .none)) (t:=ρ.u 6 0),List.length_append] at this
   exact this
  ·rw [sOf_lastD,sOf_headD,tp];exact o3
  ·have:=hlen
   rw [←txs_len,txs_strsFrom] at this
   exact this
  ·simp
  ·simp
  ·rw [show (⟨⟨[34]⟩⟩:Str).length=1 from rfl,Nat.mul_one];exact o62
 ·rw [ex]
  have e1:txs (ws.dropLast++[Value.str (sOf (ws.getLastD .none)++sOf ((strsFrom (ρ.u 2 0) (evenP (sOf v))).headD .none)) (ρ.u 6 0)]++(strsFrom (ρ.u 2 0) (evenP (sOf v))).tail)=wordsStep 0 (txs ws) (sOf v):=by
   rw [txs_new,txs_strsFrom];unfold wordsStep;rw [ep]
  have:=words_loop (w:=w) hB L EN it SL text vs hS (vs.length - 1) 1 (ρ.b 9+899) (ρ.b 2+899) _ 0 ((0:Nat):Int) (sOf v) (sOf v) (ar18) (AllS_new (s:=sOf (ws.getLastD .none)++sOf ((strsFrom (ρ.u 2 0) (evenP (sOf v))).headD .none)) (t:=ρ.u 6 0) hA (AllS.strsFrom (evenP (sOf v)) (ρ.u 2 0))) (by rw [e1];exact o7)
  rw [e1] at this
  exact this
end
noncomputable def strsU (u:Nat→Tok):List Str→List Value
 | []=>[]
 | x::l=>.str x (u 0)::strsU (fun i=>u (i+1)) l
theorem strsU_of:∀ {vs:List Value},AllS vs→∃ u,vs=strsU u (txs vs)
 | [],_=>⟨fun _=>0,rfl⟩
 | v::vs,h=>by
   obtain ⟨s,t,rfl⟩:=h v (.head _)
   obtain ⟨u,hu⟩:=strsU_of (vs:=vs) fun x hx=>h x (.tail _ hx)
   refine ⟨consT t u,?_⟩
   show _=Value.str s t::strsU u (txs vs)
   rw [←hu]
theorem AllS_strsU:∀ (l:List Str) (u:Nat→Tok),AllS (strsU u l)
 | [],_=>.nil
 | x::l,u=>.cons (AllS_strsU l _)
theorem txs_strsU:∀ (l:List Str) (u:Nat→Tok),txs (strsU u l)=l
 | [],_=>rfl
 | x::l,u=>by show x::txs (strsU _ l)=_;rw [txs_strsU l]
theorem strsU_len (l:List Str) (u:Nat→Tok):(strsU u l).length=l.length:=by rw [←txs_len,txs_strsU]
noncomputable def wordsS (P:Params) (L EN it SL WL:Nat) (text:Str) (vs:List Value) (x0:Str) (t0:Tok) (e:Nat):LSpec where
 c₀:=codeW P L EN
 st:=stW0 P L EN it SL WL text vs [.str x0 t0] e 0
 conds:=[AllS vs,0 < vs.length,wordsOk 0 [x0] (txs vs)]
 r:=fun _ _=>.ok .next
 st':=fun _ u=>stWz P L SL (u 0) (u 1) text vs (strsU (fun i=>u (2 * i+3)) (wordsGo 0 [x0] (txs vs))) (u 2) ((vs.length - 1:Nat):Int) (sOf (vs.getLastD .none)) (fun i=>u (2 * i+4))
theorem wordsS_ok {B:Nat} (hB:B+52≤800) {w:World} (L EN it SL WL:Nat) (text:Str) (vs:List Value) (x0:Str) (t0:Tok) (e:Nat):LoopOk B (VK w.params rules6) w (wordsS w.params L EN it SL WL text vs x0 t0 e):=by
 refine LF.toSpec rfl fun hc=>?_
 refine (words_loop0 (w:=w) hB L EN it SL text vs (hc _ (.head _)) WL [.str x0 t0] e (hc _ (.tail _ (.head _))) (.cons .nil) (hc _ (.tail _ (.tail _ (.head _))))).mono ?_
 rintro x T b ⟨rfl,WL',PL',ws',e',τ,hA,hw,rfl⟩
 obtain ⟨u,hu⟩:=strsU_of hA
 refine ⟨consT WL' (consT PL' (consT e' fun i=>if i % 2=0 then u (i / 2) else τ (i / 2))),rfl,?_⟩
 show _=stWz _ _ _ _ _ _ _ (strsU (fun i=>(if (2 * i) % 2=0 then u (2 * i / 2) else τ (2 * i / 2))) _) _ _ _ (fun i=>if (2 * i+1) % 2=0 then u ((2 * i+1) / 2) else τ ((2 * i+1) / 2))
 rw [show (fun i=>(if (2 * i) % 2=0 then u (2 * i / 2) else τ (2 * i / 2)))=u from funext fun i=>by rw [if_pos (by lia)];congr 1;lia,
  show (fun i=>if (2 * i+1) % 2=0 then u ((2 * i+1) / 2) else τ ((2 * i+1) / 2))=τ from funext fun i=>by rw [if_neg (by lia)];congr 1;exact ar33,show wordsGo 0 [x0] (txs vs)=txs ws' from hw.symm,←hu]
 rfl
noncomputable def rules9 (P:Params):Nat→Option ERule:=tab rules6 [(72,loopG fun c T=>wordsS P (aAt T 0) (aAt T 1) (aAt T 2) (aAt T 3) (aAt T 4) (sOf (vAt T 0 0)) (vsAt T 3) (sOf (vAt T 4 0)) (tokV (vAt T 4 0)) (enAt T 4)),(80,enumR)]
theorem rules9_ok {B:Nat} (hB:B+52≤800) {V:RV} {w:World} (hV:V.look=lookK w.params):∀ i R,rules9 w.params i=some R→RuleOk B V pw_il0098_01 w R:=by
 exact tab_cons (loopG_ok fun c S=>LoopOk.cast (V:=VK w.params rules6) hV.symm (fun _=>rfl) (wordsS_ok hB _ _ _ _ _ _ _ _ _ _)) (tab_cons (enumR_ok) (rules6_ok (ar12) hV))
theorem words_call1 (P:Params):∀ (ρ:Unk) (τ:Nat→Tok) (text:Str) (t:Tok) (b tk:Nat),
 PathI [2] (fun _=>⟨fun _=>.inl (.done (.ret (.ref (ρ.u 2 0)))),[((2:Int) == 0)=false,(((strsFrom (ρ.u 0 0) (splitS text ⟨⟨[39]⟩⟩)).length:Int):Int).fmod (2:Int)=(1:Int),(strsFrom (ρ.u 0 0) (splitS text ⟨⟨[39]⟩⟩)).length≤sizeLine,AllS (strsFrom (ρ.u 0 0) (splitS text ⟨⟨[39]⟩⟩)),0 < (strsFrom (ρ.u 0 0) (splitS text ⟨⟨[39]⟩⟩)).length,wordsOk 0 [⟨⟨[]⟩⟩] (txs (strsFrom (ρ.u 0 0) (splitS text ⟨⟨[39]⟩⟩))),(⟨⟨[39]⟩⟩:Str).length≠0,text.length≤sizeLine,(splitS text (⟨⟨[39]⟩⟩:Str)).length≤sizeLine],fun _=>[(ρ.u 2 0,seqO "list" (strsU (fun i=>ρ.u 2 (2 * i+3)) (wordsGo 0 [⟨⟨[]⟩⟩] (txs (strsFrom (ρ.u 0 0) (splitS text ⟨⟨[39]⟩⟩))))) (ρ.u 2 2))]⟩)
  (runC (VK P (rules9 P)) ρ 300 (.call (.ref 893) ⟨[.str text t],[]⟩) [] b tk (orcN 1 5386463326646699936067155731222824411345112108793120897571481203718394362737763697618062877832380468172317114952379329882003581841383263466321357384586037271558460834353127010076968340610422285380017014961562596737025 1 [(.eff 57 [],10),(.eff 80 [4],4),(.eff 72 [8,0,1,6,7],1),(.eff 62 [1],0),(.eff 14 [1],100000)])):=
 fP2 (by intros;kernel_rfl) (by intros;kernel_rfl) P
theorem words_call0 (P:Params):∀ (ρ:Unk) (τ:Nat→Tok) (text:Str) (t:Tok) (b tk:Nat),
 PathI [] (fun _=>⟨fun _=>.inl (.done (.ret .none)),[((2:Int) == 0)=false,(((strsFrom (ρ.u 0 0) (splitS text ⟨⟨[39]⟩⟩)).length:Int):Int).fmod (2:Int)=(0:Int),(strsFrom (ρ.u 0 0) (splitS text ⟨⟨[39]⟩⟩)).length≤sizeLine,AllS (strsFrom (ρ.u 0 0) (splitS text ⟨⟨[39]⟩⟩)),0 < (strsFrom (ρ.u 0 0) (splitS text ⟨⟨[39]⟩⟩)).length,wordsOk 0 [⟨⟨[]⟩⟩] (txs (strsFrom (ρ.u 0 0) (splitS text ⟨⟨[39]⟩⟩))),(⟨⟨[39]⟩⟩:Str).length≠0,text.length≤sizeLine,(splitS text (⟨⟨[39]⟩⟩:Str)).length≤sizeLine],fun _=>[]⟩)
  (runC (VK P (rules9 P)) ρ 300 (.call (.ref 893) ⟨[.str text t],[]⟩) [] b tk (orcN 1 82190910202384012316875782366577773314569324764806755044247120673985962995074368360052059178790020217344725039513877040040834907954491552026386507972286748993061908723068361980330662966616273193748449153066795009 1 [(.eff 57 [],10),(.eff 80 [4],4),(.eff 72 [8,0,1,6,7],1),(.eff 62 [1],0),(.eff 14 [0],100000)])):=
 fP2 (by intros;kernel_rfl) (by intros;kernel_rfl) P
noncomputable def strandsT (text:Str):List Str:=splitS text ⟨⟨[39]⟩⟩
noncomputable def wordsT (text:Str):List Str:=wordsGo 0 [⟨⟨[]⟩⟩] (strandsT text)
noncomputable def wordsC1 (text:Str) (t:Tok):LSpec where
 c₀:=.call (.ref 893) ⟨[.str text t],[]⟩
 st:=fun _=>[]
 conds:=[text.length≤sizeLine,(strandsT text).length≤sizeLine,strandsT text≠[],wordsOk 0 [⟨⟨[]⟩⟩] (strandsT text),(strandsT text).length % 2=1]
 r:=fun _ u=>.ok (.ret (.ref (u 0)))
 st':=fun _ u=>[(u 0,seqO "list" (strsU (fun i=>u (i+2)) (wordsT text)) (u 1))]
noncomputable def wordsC0 (text:Str) (t:Tok):LSpec where
 c₀:=.call (.ref 893) ⟨[.str text t],[]⟩
 st:=fun _=>[]
 conds:=[text.length≤sizeLine,(strandsT text).length≤sizeLine,strandsT text≠[],wordsOk 0 [⟨⟨[]⟩⟩] (strandsT text),(strandsT text).length % 2=0]
 r:=fun _ u=>.ok (.ret .none)
 st':=fun _ u=>[]
theorem wordsC1_ok {B:Nat} (hB:B+100≤800) {w:World} (text:Str) (t:Tok):LoopOk B (VK w.params (rules9 w.params)) w (wordsC1 text t):=by
 refine LF.toSpec rfl fun hc=>?_
 have c1:text.length≤sizeLine:=hc _ (.head _)
 have c2:(strandsT text).length≤sizeLine:=hc _ (.tail _ (.head _))
 have c3:strandsT text≠[]:=hc _ (.tail _ (.tail _ (.head _)))
 have c4:wordsOk 0 [⟨⟨[]⟩⟩] (strandsT text):=hc _ (.tail _ (.tail _ (.tail _ (.head _))))
 have c5:(strandsT text).length % 2=1:=hc _ (.tail _ (.tail _ (.tail _ (.tail _ (.head _)))))
 have O:=VK_ok w (rules9 w.params)
 have HR:=rules9_ok (B:=B+48) (ar13) (V:=VK w.params (rules9 w.params)) (w:=w) rfl
 refine LF.call O HR (ar12) rfl (fun τ b tk ρ=>words_call1 w.params ρ τ text t b tk) (fun ρ sz=>⟨?_,fun hsz tr τ=>⟨consT (ρ.u 2 0) (consT (ρ.u 2 2) fun i=>ρ.u 2 (2 * i+3)),rfl,?_⟩⟩)
 ·have hl:(strsFrom (ρ.u 0 0) (splitS text ⟨⟨[39]⟩⟩)).length=(strandsT text).length:=strsFrom_len _ _
  have ht:txs (strsFrom (ρ.u 0 0) (splitS text ⟨⟨[39]⟩⟩))=strandsT text:=txs_strsFrom _ _
  rw [hl,ht]
  refine cC (by decide) (cC (fmodO (by lia)) (cC c2 (cC (AllS.strsFrom _ _) (cC (List.length_pos_iff.mpr c3) (cC c4 (cC (by decide) (cC c1 (cC c2 c0))))))))
 ·show [(_,seqO "list" (strsU _ (wordsGo 0 [⟨⟨[]⟩⟩] (txs (strsFrom (ρ.u 0 0) (splitS text ⟨⟨[39]⟩⟩))))) _)]=_
  rw [txs_strsFrom];rfl
theorem wordsC0_ok {B:Nat} (hB:B+100≤800) {w:World} (text:Str) (t:Tok):LoopOk B (VK w.params (rules9 w.params)) w (wordsC0 text t):=by
 refine LF.toSpec rfl fun hc=>?_
 have c1:text.length≤sizeLine:=hc _ (.head _)
 have c2:(strandsT text).length≤sizeLine:=hc _ (.tail _ (.head _))
 have c3:strandsT text≠[]:=hc _ (.tail _ (.tail _ (.head _)))
 have c4:wordsOk 0 [⟨⟨[]⟩⟩] (strandsT text):=hc _ (.tail _ (.tail _ (.tail _ (.head _))))
 have c5:(strandsT text).length % 2=0:=hc _ (.tail _ (.tail _ (.tail _ (.tail _ (.head _)))))
 have O:=VK_ok w (rules9 w.params)
 have HR:=rules9_ok (B:=B+48) (ar13) (V:=VK w.params (rules9 w.params)) (w:=w) rfl
 refine LF.call O HR (ar12) rfl (fun τ b tk ρ=>words_call0 w.params ρ τ text t b tk) (fun ρ sz=>⟨?_,fun hsz tr τ=>⟨fun _=>0,rfl,rfl⟩⟩)
 have hl:(strsFrom (ρ.u 0 0) (splitS text ⟨⟨[39]⟩⟩)).length=(strandsT text).length:=strsFrom_len _ _
 have ht:txs (strsFrom (ρ.u 0 0) (splitS text ⟨⟨[39]⟩⟩))=strandsT text:=txs_strsFrom _ _
 rw [hl,ht]
 exact cC (by decide) (cC (fmodE c5) (cC c2 (cC (AllS.strsFrom _ _) (cC (List.length_pos_iff.mpr c3) (cC c4 (cC (by decide) (cC c1 (cC c2 c0))))))))
noncomputable def fdO (o:Obj):FuncData:=match o.data with | .func fd=>fd | _=>default
noncomputable def rules10 (P:Params):Nat→Option ERule:=tab rules6 [(80,enumR)]
theorem rules10_ok {B:Nat} (hB:B≤800) {V:RV} {w:World} (hV:V.look=lookK w.params):∀ i R,rules10 w.params i=some R→RuleOk B V pw_il0098_01 w R:=by
 exact tab_cons (enumR_ok) (rules6_ok hB hV)
noncomputable def gF1 (P:Params) (C:Nat) (x:Str):St:=fun τ=>[(C,frO [E P ⟨⟨[97,100,100,114]⟩⟩ (τ 0) (.str x (τ 1))] 1)]
noncomputable def gF3 (P:Params) (C:Nat) (x:Str):St:=fun τ=>[(C,frO [E P ⟨⟨[97,100,100,114]⟩⟩ (τ 0) (.str x (τ 1)),E P ⟨⟨[112,111,115]⟩⟩ (τ 2) (.int 0 (τ 3)),E P ⟨⟨[101,115,99,97,112,101]⟩⟩ (τ 4) (.bool false)] 3)]
noncomputable def gF4 (P:Params) (C:Nat) (x:Str) (p:Int) (e:Bool) (c:Str):St:=fun τ=>[(C,frO [E P ⟨⟨[97,100,100,114]⟩⟩ (τ 0) (.str x (τ 1)),E P ⟨⟨[112,111,115]⟩⟩ (τ 2) (.int p (τ 3)),E P ⟨⟨[101,115,99,97,112,101]⟩⟩ (τ 4) (.bool e),E P ⟨⟨[99,104]⟩⟩ (τ 6) (.str c (τ 7))] 4)]
noncomputable def gI (P:Params) (C EN it:Nat) (x:Str):St:=fun τ=>[(C,frO [E P ⟨⟨[97,100,100,114]⟩⟩ (τ 0) (.str x (τ 1)),E P ⟨⟨[112,111,115]⟩⟩ (τ 2) (.int 0 (τ 3)),E P ⟨⟨[101,115,99,97,112,101]⟩⟩ (τ 4) (.bool false)] 3),(EN,itO "enumerate" [.none,.bool false,.ref it,.int (0) 0,.none,.none]),(it,itO "str_ascii_iterator" [.str x (τ 12),.int (0) 0])]
noncomputable def gT (P:Params) (C EN it:Nat) (x:Str) (k:Nat) (p:Int) (e:Bool) (c q:Str):St:=fun τ=>[(C,frO [E P ⟨⟨[97,100,100,114]⟩⟩ (τ 0) (.str x (τ 1)),E P ⟨⟨[112,111,115]⟩⟩ (τ 2) (.int p (τ 3)),E P ⟨⟨[101,115,99,97,112,101]⟩⟩ (τ 4) (.bool e),E P ⟨⟨[99,104]⟩⟩ (τ 6) (.str c (τ 7))] 4),(EN,itO "enumerate" [.none,.bool false,.ref it,.int ((k:Int)) 0,.none,(.str q (τ 13))]),(it,itO "str_ascii_iterator" [.str x (τ 14),.int ((k:Int)) 0])]
noncomputable def gIA (P:Params) (C EN it U:Nat) (x d:Str) (F:Value):St:=fun τ=>[(C,frO [E P ⟨⟨[97,100,100,114]⟩⟩ (τ 0) (.str x (τ 1)),E P ⟨⟨[112,111,115]⟩⟩ (τ 2) (.int 0 (τ 3)),E P ⟨⟨[101,115,99,97,112,101]⟩⟩ (τ 4) (.bool false)] 3),(EN,itO "enumerate" [F,.bool false,.ref it,.int (((0:Nat):Int)+1) 0,.none,(.str d (τ 11))]),(it,itO "str_ascii_iterator" [.str x (τ 12),.int (((0:Nat):Int)+1) 0]),(U,seqO "tuple" [.int (((0:Nat):Int)) (τ 14),.str d (τ 15)] 0)]
noncomputable def gTA (P:Params) (C EN it U:Nat) (x:Str) (k:Nat) (p:Int) (e:Bool) (c d:Str) (F:Value):St:=fun τ=>[(C,frO [E P ⟨⟨[97,100,100,114]⟩⟩ (τ 0) (.str x (τ 1)),E P ⟨⟨[112,111,115]⟩⟩ (τ 2) (.int p (τ 3)),E P ⟨⟨[101,115,99,97,112,101]⟩⟩ (τ 4) (.bool e),E P ⟨⟨[99,104]⟩⟩ (τ 6) (.str c (τ 7))] 4),(EN,itO "enumerate" [F,.bool false,.ref it,.int ((k:Int)+1) 0,.none,(.str d (τ 13))]),(it,itO "str_ascii_iterator" [.str x (τ 14),.int ((k:Int)+1) 0]),(U,seqO "tuple" [.int ((k:Int)) (τ 16),.str d (τ 17)] 0)]
noncomputable def gU3 (P:Params) (C U:Nat) (x:Str) (p:Int) (c:Str):St:=fun τ=>[(C,frO [E P ⟨⟨[97,100,100,114]⟩⟩ (τ 0) (.str x (τ 1)),E P ⟨⟨[112,111,115]⟩⟩ (τ 2) (.int 0 (τ 3)),E P ⟨⟨[101,115,99,97,112,101]⟩⟩ (τ 4) (.bool false)] 3),(U,seqO "tuple" [.int (p) (τ 6),.str c (τ 7)] 0)]
noncomputable def gU4 (P:Params) (C U:Nat) (x:Str) (p0:Int) (e:Bool) (c0:Str) (p:Int) (c:Str):St:=fun τ=>[(C,frO [E P ⟨⟨[97,100,100,114]⟩⟩ (τ 0) (.str x (τ 1)),E P ⟨⟨[112,111,115]⟩⟩ (τ 2) (.int p0 (τ 3)),E P ⟨⟨[101,115,99,97,112,101]⟩⟩ (τ 4) (.bool e),E P ⟨⟨[99,104]⟩⟩ (τ 6) (.str c0 (τ 7))] 4),(U,seqO "tuple" [.int (p) (τ 8),.str c (τ 9)] 0)]
noncomputable def envG (P:Params) (C:Nat):Env:=envF (o51 P) 51 C
noncomputable def codeG (P:Params) (C EN:Nat):Code:=loopC (stm (st 4) 2) (.ref EN) (envG P C)
noncomputable def forTgt:Stmt→Expr | .For t ..=>t | _=>default
noncomputable def forIter:Stmt→Expr | .For _ i ..=>i | _=>default
noncomputable def forBody:Stmt→List Stmt | .For _ _ b ..=>b | _=>[]
noncomputable def ifTest:Stmt→Expr | .If t ..=>t | _=>default
noncomputable def ifBody:Stmt→List Stmt | .If _ b ..=>b | _=>[]
noncomputable def ifElse:Stmt→List Stmt | .If _ _ o _=>o | _=>[]
noncomputable def exprE:Stmt→Expr | .Expr e _=>e | _=>default
noncomputable def yieldO:Expr→Option Expr | .Yield o _=>o | _=>none
noncomputable def yieldE (s:Stmt):Expr:=(yieldO (exprE s)).getD default
noncomputable def gIf1:Stmt:=(forBody (stm (st 4) 2)).getD 0 default
noncomputable def gIf2:Stmt:=(ifElse gIf1).getD 0 default
theorem gen_enter (P:Params):∀ (x:Str) (t:Tok) (ρ:Unk) (b tk:Nat),
 PathI [0] (fun _=>⟨(fun _=>.inl (.again (.func (fB (st 4)) (envG P (b+900))))),[],gF1 P (b+900) x⟩)
  (runV (VK P (rules10 P)) ρ 400 (callTF 51 (fdO (o51 P)) ⟨[.str x t],[]⟩) [] b tk (orcN 1 4194369537 100000 [])):=
 fP2 (by intros;kernel_rfl) (by intros;kernel_rfl) P
theorem gen_pre (P:Params):∀ (C:Nat) (x:Str) (ρ:Unk) (τ:Nat→Tok) (b tk:Nat),
 PathI [0] (fun _=>⟨(fun tr=>.inl (.done .next)),[],gF3 P C x⟩)
  (runV (VK P (rules10 P)) ρ 400 (execsT1 ((fB (st 4)).take 2) (envG P C)) (gF1 P C x τ) b tk (orcN 0 18014679988753727489 100000 [])):=
 fP2 (by intros;kernel_rfl) (by intros;kernel_rfl) P
theorem gen_iter (P:Params):∀ (C:Nat) (x:Str) (ρ:Unk) (τ:Nat→Tok) (b tk:Nat),
 PathI [2,0,1] (fun _=>⟨(fun tr=>.inl (.done (.ret (.ref (ρ.b 0+899))))),[x.cps.all (· < 128)=true],gI P C (ρ.b 0+899) (ρ.b 0+898) x⟩)
  (runV (VK P (rules10 P)) ρ 400 (evalT1 (forIter (stm (st 4) 2)) (envG P C)) (gF3 P C x τ) b tk (orcN 2 1180610067742964284719105 2 [(.eff 80 [],100000)])):=
 fP2 (by intros;kernel_rfl) (by intros;kernel_rfl) P
theorem gen_pyiter (P:Params):∀ (C EN it:Nat) (x:Str) (ρ:Unk) (τ:Nat→Tok) (b tk:Nat),
 PathI [0,1,2] (fun _=>⟨(fun tr=>.inl (.done (.ret (.ref EN)))),[],gI P C EN it x⟩)
  (runV (VK P (rules10 P)) ρ 400 (iterT1 (.ref EN)) (gI P C EN it x τ) b tk (orcN 0 18014961468025470978 100000 [])):=
 fP2 (by intros;kernel_rfl) (by intros;kernel_rfl) P
theorem gen_next0 (P:Params):∀ (C EN it:Nat) (x:Str) (ρ:Unk) (τ:Nat→Tok) (b tk:Nat),
 PathI [1,2,3,0] (fun _=>⟨(fun tr=>.inl (.done (.ret (.ref (ρ.b 0+900))))),[x.cps[((0:Nat):Int).toNat]? =some (x.cps.getD ((0:Nat):Int).toNat 0)],gIA P C EN it (ρ.b 0+900) x (sgn x ((0:Nat):Int)) (.int (ρ.b 0+900:Nat) 0)⟩)
  (runV (VK P (rules10 P)) ρ 400 (nextT1 (.ref EN)) (gI P C EN it x τ) b tk (orcN 0 485689989054894606326439309722503522533346043431315260449512241646534216271996876095490 2 [(.eff 9 [2,1],100000)])):=
 fP2 (by intros;kernel_rfl) (by intros;kernel_rfl) P
theorem gen_next (P:Params):∀ (C EN it:Nat) (x:Str) (k:Nat) (p:Int) (e:Bool) (c q:Str) (ρ:Unk) (τ:Nat→Tok) (b tk:Nat),
 PathI [1,2,3,0] (fun _=>⟨(fun tr=>.inl (.done (.ret (.ref (ρ.b 0+900))))),[x.cps[(k:Int).toNat]? =some (x.cps.getD (k:Int).toNat 0)],gTA P C EN it (ρ.b 0+900) x k p e c (sgn x (k:Int)) (.int (ρ.b 0+900:Nat) 0)⟩)
  (runV (VK P (rules10 P)) ρ 400 (nextT1 (.ref EN)) (gT P C EN it x k p e c q τ) b tk (orcN 0 485689989054894606326439309722503522533346043431315260449512241646534216271996876095490 2 [(.eff 9 [2,1],100000)])):=
 fP2 (by intros;kernel_rfl) (by intros;kernel_rfl) P
theorem gen_end (P:Params):∀ (C EN it:Nat) (x:Str) (k:Nat) (p:Int) (e:Bool) (c q:Str) (ρ:Unk) (τ:Nat→Tok) (b tk:Nat),
 PathI [2] (fun _=>⟨(fun tr=>.inl (.done .brk)),[x.cps[(k:Int).toNat]? =none],gF4 P C x p e c⟩)
  (runV (VK P (rules10 P)) ρ 400 (nextT1 (.ref EN)) (gT P C EN it x k p e c q τ) b tk (orcN 0 1180610068305918533173250 2 [(.eff 9 [2,0],100000)])):=
 fP2 (by intros;kernel_rfl) (by intros;kernel_rfl) P
theorem gen_assign0 (P:Params):∀ (C U:Nat) (x:Str) (p:Int) (c:Str) (ρ:Unk) (τ:Nat→Tok) (b tk:Nat),
 PathI [3] (fun _=>⟨(fun tr=>.inl (.done .next)),[],gF4 P C x p false c⟩)
  (runV (VK P (rules10 P)) ρ 400 (asgT1 (forTgt (stm (st 4) 2)) (.ref U) (envG P C)) (gU3 P C U x p c τ) b tk (orcN 0 199804394404964084718355388578249291162150641693315270118171747504729692105349560936044032932386971288829553275403231531752624124008319843337968418818 100000 [])):=
 fP2 (by intros;kernel_rfl) (by intros;kernel_rfl) P
theorem gen_assign (P:Params):∀ (C U:Nat) (x:Str) (p0:Int) (e:Bool) (c0:Str) (p:Int) (c:Str) (ρ:Unk) (τ:Nat→Tok) (b tk:Nat),
 PathI [3] (fun _=>⟨(fun tr=>.inl (.done .next)),[],gF4 P C x p e c⟩)
  (runV (VK P (rules10 P)) ρ 400 (asgT1 (forTgt (stm (st 4) 2)) (.ref U) (envG P C)) (gU4 P C U x p0 e c0 p c τ) b tk (orcN 0 199804394404964084718355388578249291162150641693315270118171747504729692105349560936044032932386971288829553275403231531752624124008319843337968418818 100000 [])):=
 fP2 (by intros;kernel_rfl) (by intros;kernel_rfl) P
theorem gen_esc1 (P:Params):∀ (C:Nat) (x:Str) (p:Int) (c:Str) (ρ:Unk) (τ:Nat→Tok) (b tk:Nat),
 PathI [0] (fun _=>⟨(fun tr=>.inl (.done .brk)),[],gF4 P C x p true c⟩)
  (runV (VK P (rules10 P)) ρ 400 (testT1 (ifTest gIf1) (envG P C)) (gF4 P C x p true c τ) b tk (orcN 0 64001 100000 [])):=
 fP2 (by intros;kernel_rfl) (by intros;kernel_rfl) P
theorem gen_esc0 (P:Params):∀ (C:Nat) (x:Str) (p:Int) (c:Str) (ρ:Unk) (τ:Nat→Tok) (b tk:Nat),
 PathI [0] (fun _=>⟨(fun tr=>.inl (.done .next)),[],gF4 P C x p false c⟩)
  (runV (VK P (rules10 P)) ρ 400 (testT1 (ifTest gIf1) (envG P C)) (gF4 P C x p false c τ) b tk (orcN 0 64001 100000 [])):=
 fP2 (by intros;kernel_rfl) (by intros;kernel_rfl) P
theorem gen_bs1 (P:Params):∀ (C:Nat) (x:Str) (p:Int) (c:Str) (ρ:Unk) (τ:Nat→Tok) (b tk:Nat),
 PathI [0] (fun _=>⟨(fun tr=>.inl (.done .brk)),[c=(⟨⟨[92]⟩⟩:Str)],gF4 P C x p false c⟩)
  (runV (VK P (rules10 P)) ρ 400 (testT1 (ifTest gIf2) (envG P C)) (gF4 P C x p false c τ) b tk (orcN 0 64001 0 [(.eff 0 [1],100000)])):=
 fP2 (by intros;kernel_rfl) (by intros;kernel_rfl) P
theorem gen_bs0 (P:Params):∀ (C:Nat) (x:Str) (p:Int) (c:Str) (ρ:Unk) (τ:Nat→Tok) (b tk:Nat),
 PathI [0] (fun _=>⟨(fun tr=>.inl (.done .next)),[¬(c=(⟨⟨[92]⟩⟩:Str))],gF4 P C x p false c⟩)
  (runV (VK P (rules10 P)) ρ 400 (testT1 (ifTest gIf2) (envG P C)) (gF4 P C x p false c τ) b tk (orcN 0 64001 0 [(.eff 0 [0],100000)])):=
 fP2 (by intros;kernel_rfl) (by intros;kernel_rfl) P
theorem gen_tup1 (P:Params):∀ (C:Nat) (x:Str) (p:Int) (c:Str) (ρ:Unk) (τ:Nat→Tok) (b tk:Nat),
 PathI [0,1] (fun _=>⟨(fun tr=>.inl (.done (.ret (.ref (ρ.b 0+900))))),[((⟨⟨[92]⟩⟩:Str)++c).length≤sizeLine],fun τ=>(ρ.b 0+900,seqO "tuple" [.int p (τ 0),.str (⟨⟨[92]⟩⟩++c) (τ 1)] 0)::gF4 P C x p true c (fun j=>τ (j+2))⟩)
  (runV (VK P (rules10 P)) ρ 400 (evalT1 (yieldE ((ifBody gIf1).getD 0 default)) (envG P C)) (gF4 P C x p true c τ) b tk (orcN 0 4194369537 0 [(.eff 3 [],100000)])):=
 fP2 (by intros;kernel_rfl) (by intros;kernel_rfl) P
theorem gen_tup2 (P:Params):∀ (C:Nat) (x:Str) (p:Int) (c:Str) (ρ:Unk) (τ:Nat→Tok) (b tk:Nat),
 PathI [0,1] (fun _=>⟨(fun tr=>.inl (.done (.ret (.ref (b+900))))),[],fun τ=>(b+900,seqO "tuple" [.int p (τ 0),.str c (τ 1)] 0)::gF4 P C x p false c (fun j=>τ (j+2))⟩)
  (runV (VK P (rules10 P)) ρ 400 (evalT1 (yieldE ((ifElse gIf2).getD 0 default)) (envG P C)) (gF4 P C x p false c τ) b tk (orcN 0 4194369537 100000 [])):=
 fP2 (by intros;kernel_rfl) (by intros;kernel_rfl) P
theorem gen_set0 (P:Params):∀ (C:Nat) (x:Str) (p:Int) (c:Str) (ρ:Unk) (τ:Nat→Tok) (b tk:Nat),
 PathI [0] (fun _=>⟨(fun tr=>.inl (.done .next)),[],gF4 P C x p false c⟩)
  (runV (VK P (rules10 P)) ρ 400 (execsT1 ((ifBody gIf1).drop 1) (envG P C)) (gF4 P C x p true c τ) b tk (orcN 0 4194369537 100000 [])):=
 fP2 (by intros;kernel_rfl) (by intros;kernel_rfl) P
theorem gen_set1 (P:Params):∀ (C:Nat) (x:Str) (p:Int) (c:Str) (ρ:Unk) (τ:Nat→Tok) (b tk:Nat),
 PathI [0] (fun _=>⟨(fun tr=>.inl (.done .next)),[],gF4 P C x p true c⟩)
  (runV (VK P (rules10 P)) ρ 400 (execsT1 (ifBody gIf2) (envG P C)) (gF4 P C x p false c τ) b tk (orcN 0 4194369537 100000 [])):=
 fP2 (by intros;kernel_rfl) (by intros;kernel_rfl) P
theorem gen_after (P:Params):∀ (C:Nat) (x:Str) (p:Int) (c:Str) (ρ:Unk) (τ:Nat→Tok) (b tk:Nat),
 PathI [0] (fun _=>⟨(fun tr=>.inl (.done .next)),[],gF4 P C x p false c⟩)
  (runV (VK P (rules10 P)) ρ 400 (execsT1 ((fB (st 4)).drop 3) (envG P C)) (gF4 P C x p false c τ) b tk (orcN 0 64001 100000 [])):=
 fP2 (by intros;kernel_rfl) (by intros;kernel_rfl) P
noncomputable def opV (op:Option Int) (t:Tok):Value:=match op with | none=>.none | some i=>.int i t
noncomputable def envS (P:Params) (L:Nat):Env:=envF (o58 P) 58 L
noncomputable def codeS (P:Params) (L G:Nat):Code:=loopC (stm (st 5) 4) (.ref G) (envS P L)
noncomputable def sF1 (P:Params) (L:Nat) (x:Str):St:=fun τ=>[(L,frO [E P ⟨⟨[97,100,100,114]⟩⟩ (τ 0) (.str x (τ 1))] 1)]
noncomputable def sF4 (P:Params) (L RL:Nat) (x:Str) (rs:List Value) (e:Nat):St:=fun τ=>[(L,frO [E P ⟨⟨[97,100,100,114]⟩⟩ (τ 0) (.str x (τ 1)),E P ⟨⟨[115,116,97,114,116]⟩⟩ (τ 2) (.int 0 (τ 3)),E P ⟨⟨[111,112,101,110,95,112,111,115]⟩⟩ (τ 4) .none,E P ⟨⟨[114,101,115,117,108,116]⟩⟩ (τ 6) (.ref RL)] 4),(RL,seqO "list" rs e)]
noncomputable def sN (P:Params) (L RL:Nat) (x:Str) (s0:Int) (p:Int) (c:Str) (rs:List Value) (e:Nat):St:=fun τ=>[(L,frO [E P ⟨⟨[97,100,100,114]⟩⟩ (τ 0) (.str x (τ 1)),E P ⟨⟨[115,116,97,114,116]⟩⟩ (τ 2) (.int s0 (τ 3)),E P ⟨⟨[111,112,101,110,95,112,111,115]⟩⟩ (τ 4) .none,E P ⟨⟨[114,101,115,117,108,116]⟩⟩ (τ 6) (.ref RL),E P ⟨⟨[112,111,115]⟩⟩ (τ 8) (.int p (τ 9)),E P ⟨⟨[99,104]⟩⟩ (τ 10) (.str c (τ 11))] 6),(RL,seqO "list" rs e)]
noncomputable def sO (P:Params) (L RL:Nat) (x:Str) (s0 op:Int) (p:Int) (c:Str) (rs:List Value) (e:Nat):St:=fun τ=>[(L,frO [E P ⟨⟨[97,100,100,114]⟩⟩ (τ 0) (.str x (τ 1)),E P ⟨⟨[115,116,97,114,116]⟩⟩ (τ 2) (.int s0 (τ 3)),E P ⟨⟨[111,112,101,110,95,112,111,115]⟩⟩ (τ 4) (.int op (τ 5)),E P ⟨⟨[114,101,115,117,108,116]⟩⟩ (τ 6) (.ref RL),E P ⟨⟨[112,111,115]⟩⟩ (τ 8) (.int p (τ 9)),E P ⟨⟨[99,104]⟩⟩ (τ 10) (.str c (τ 11))] 6),(RL,seqO "list" rs e)]
noncomputable def sU (U:Nat) (p:Int) (c:Str):St:=fun τ=>[(U,seqO "tuple" [.int p (τ 0),.str c (τ 1)] 0)]
noncomputable def wU (s:St) (U:Nat) (p:Int) (c:Str):St:=fun τ=>(U,seqO "tuple" [.int p (τ 0),.str c (τ 1)] 0)::s fun j=>τ (j+2)
theorem str_enter (P:Params):∀ (x:Str) (t:Tok) (ρ:Unk) (b tk:Nat),
 PathI [0] (fun _=>⟨(fun _=>.inl (.again (.func (fB (st 5)) (envS P (b+900))))),[],sF1 P (b+900) x⟩)
  (runV (VK P (rules10 P)) ρ 400 (callTF 58 (fdO (o58 P)) ⟨[.str x t],[]⟩) [] b tk (orcN 1 4194369537 100000 [])):=
 fP2 (by intros;kernel_rfl) (by intros;kernel_rfl) P
theorem str_plain (P:Params):∀ (x:Str) (t:Tok) (ρ:Unk) (τ:Nat→Tok) (b tk:Nat),
 PathI [] (fun _=>⟨(fun _=>.inl (.done (.ret (.str x t)))),[¬(hasB x (⟨⟨[34]⟩⟩:Str))],fun _=>[]⟩)
  (runC (VK P (rules10 P)) ρ 400 (.call (.ref 58) ⟨[.str x t],[]⟩) [] b tk (orcN 1 18014679988753727489 1 [(.eff 2 [0],100000)])):=
 fP2 (by intros;kernel_rfl) (by intros;kernel_rfl) P
theorem str_pre (P:Params):∀ (L:Nat) (x:Str) (ρ:Unk) (τ:Nat→Tok) (b tk:Nat),
 PathI [1,0] (fun _=>⟨(fun tr=>.inl (.done .next)),[hasB x (⟨⟨[34]⟩⟩:Str)],sF4 P L (ρ.b 0+900) x [] 0⟩)
  (runV (VK P (rules10 P)) ρ 400 (execsT1 ((fB (st 5)).take 4) (envS P L)) (sF1 P L x τ) b tk (orcN 0 5070760859655816220916811240112129 0 [(.eff 2 [1],100000)])):=
 fP2 (by intros;kernel_rfl) (by intros;kernel_rfl) P
noncomputable def callFn:Expr→Expr | .Call f ..=>f | _=>default
noncomputable def callArgs:Expr→List Expr | .Call _ a ..=>a | _=>[]
noncomputable def callArg (e:Expr):Expr:=(callArgs e).headD default
theorem str_callee (P:Params):∀ (L RL:Nat) (x:Str) (rs:List Value) (e:Nat) (ρ:Unk) (τ:Nat→Tok) (b tk:Nat),
 PathI [0,1] (fun _=>⟨(fun tr=>.inl (.done (.ret (.ref 51)))),[],sF4 P L RL x rs e⟩)
  (runV (VK P (rules10 P)) ρ 400 (evalT1 (callFn (forIter (stm (st 5) 4))) (envS P L)) (sF4 P L RL x rs e τ) b tk (orcN 100000 0 100000 [])):=
 fP2 (by intros;kernel_rfl) (by intros;kernel_rfl) P
theorem str_arg (P:Params):∀ (L RL:Nat) (x:Str) (rs:List Value) (e:Nat) (ρ:Unk) (τ:Nat→Tok) (b tk:Nat),
 PathI [0,1] (fun _=>⟨(fun _=>.inl (.done (.ret (.str x (τ 1))))),[],fun _=>sF4 P L RL x rs e τ⟩)
  (runV (VK P (rules10 P)) ρ 400 (evalT1 (callArg (forIter (stm (st 5) 4))) (envS P L)) (sF4 P L RL x rs e τ) b tk (orcN 0 64001 100000 [])):=
 fP2 (by intros;kernel_rfl) (by intros;kernel_rfl) P
theorem str_w1f (P:Params):∀ (L RL G U:Nat) (x:Str) (s0 op:Int) (p0:Int) (c0:Str) (p:Int) (c:Str) (rs:List Value) (e:Nat) (ρ:Unk) (τ:Nat→Tok) (b tk:Nat),
 PathI [4,5] (fun _=>⟨(fun tr=>.inl (.again (codeS P L G))),[¬(c=(⟨⟨[34]⟩⟩:Str))],sN P L RL x 0 p c rs e⟩)
  (runV (VK P (rules10 P)) ρ 400 (restT (stm (st 5) 4) (.ref G) (envS P L) (.ref U)) (wU (sF4 P L RL x rs e) U p c τ) b tk (orcN 0 13094585381758515950114525325505686364336231699503811832288676108303296286175356886923873065289732679235168348033296838616865582444168984261263816558444545 8 [(.eff 0 [0],100000)])):=
 fP2 (by intros;kernel_rfl) (by intros;kernel_rfl) P
theorem str_w1 (P:Params):∀ (L RL G U:Nat) (x:Str) (s0 op:Int) (p0:Int) (c0:Str) (p:Int) (c:Str) (rs:List Value) (e:Nat) (ρ:Unk) (τ:Nat→Tok) (b tk:Nat),
 PathI [4,5] (fun _=>⟨(fun tr=>.inl (.again (codeS P L G))),[¬(c=(⟨⟨[34]⟩⟩:Str))],sN P L RL x s0 p c rs e⟩)
  (runV (VK P (rules10 P)) ρ 400 (restT (stm (st 5) 4) (.ref G) (envS P L) (.ref U)) (wU (sN P L RL x s0 p0 c0 rs e) U p c τ) b tk (orcN 0 13094585381758515950114525325505686364336231699503811832288676108303296286175356886923873065289732679235168348033296838616865582444168984261263816558444545 8 [(.eff 0 [0],100000)])):=
 fP2 (by intros;kernel_rfl) (by intros;kernel_rfl) P
theorem str_w1o (P:Params):∀ (L RL G U:Nat) (x:Str) (s0 op:Int) (p0:Int) (c0:Str) (p:Int) (c:Str) (rs:List Value) (e:Nat) (ρ:Unk) (τ:Nat→Tok) (b tk:Nat),
 PathI [4,5] (fun _=>⟨(fun tr=>.inl (.again (codeS P L G))),[¬(c=(⟨⟨[34]⟩⟩:Str))],sO P L RL x s0 op p c rs e⟩)
  (runV (VK P (rules10 P)) ρ 400 (restT (stm (st 5) 4) (.ref G) (envS P L) (.ref U)) (wU (sO P L RL x s0 op p0 c0 rs e) U p c τ) b tk (orcN 0 13094585381758515950114525325505686364336231699503811832288676108303296286175356886923873065289732679235168348033296838616865582444168984261263816558444545 8 [(.eff 0 [0],100000)])):=
 fP2 (by intros;kernel_rfl) (by intros;kernel_rfl) P
theorem str_w2 (P:Params):∀ (L RL G U:Nat) (x:Str) (s0 op:Int) (p0:Int) (c0:Str) (p:Int) (c:Str) (rs:List Value) (e:Nat) (ρ:Unk) (τ:Nat→Tok) (b tk:Nat),
 PathI [4,5] (fun _=>⟨(fun tr=>.inl (.again (codeS P L G))),[c=(⟨⟨[34]⟩⟩:Str)],sO P L RL x s0 p p c rs e⟩)
  (runV (VK P (rules10 P)) ρ 400 (restT (stm (st 5) 4) (.ref G) (envS P L) (.ref U)) (wU (sN P L RL x s0 p0 c0 rs e) U p c τ) b tk (orcN 0 241552465288637630638527815646133137239483685301298458021000333099425063180654289042912720496212405316710885719174796832076225007328295946919815568331894991007374299499659265 8 [(.eff 0 [1],100000)])):=
 fP2 (by intros;kernel_rfl) (by intros;kernel_rfl) P
theorem str_w3 (P:Params):∀ (L RL G U:Nat) (x:Str) (s0 op:Int) (p0:Int) (c0:Str) (p:Int) (c:Str) (rs:List Value) (e:Nat) (ρ:Unk) (τ:Nat→Tok) (b tk:Nat),
 PathI [5,6] (fun _=>⟨(fun tr=>.inl (.again (codeS P L G))),[rs.length < sizeLine,x.length≤sizeLine,s0≠op,c=(⟨⟨[34]⟩⟩:Str)],sN P L RL x (p+1) p c (rs++[.str (Txt.slice x (some s0) (some op)) (ρ.u 2 0)]) (ρ.u 3 0)⟩)
  (runV (VK P (rules10 P)) ρ 400 (restT (stm (st 5) 4) (.ref G) (envS P L) (.ref U)) (wU (sO P L RL x s0 op p0 c0 rs e) U p c τ) b tk (orcN 0 1516273088957803672725659566826352697375931556351103274511360894891933482277011071927223005719877936989032316404790410421578136808617861460222802274455855884262668090113676877707833567811210023909094987808173112711961556483227844609 8 [(.eff 0 [1],0),(.eff 8 [1],0),(.eff 24 [0],0),(.eff 50 [6],0),(.eff 16 [],100000)])):=
 fP2 (by intros;kernel_rfl) (by intros;kernel_rfl) P
theorem str_w4 (P:Params):∀ (L RL G U:Nat) (x:Str) (s0 op:Int) (p0:Int) (c0:Str) (p:Int) (c:Str) (rs:List Value) (e:Nat) (ρ:Unk) (τ:Nat→Tok) (b tk:Nat),
 PathI [4,5] (fun _=>⟨(fun tr=>.inl (.again (codeS P L G))),[¬(s0≠op),c=(⟨⟨[34]⟩⟩:Str)],sN P L RL x (p+1) p c rs e⟩)
  (runV (VK P (rules10 P)) ρ 400 (restT (stm (st 5) 4) (.ref G) (envS P L) (.ref U)) (wU (sO P L RL x s0 op p0 c0 rs e) U p c τ) b tk (orcN 0 4455856507553108389320362925973921638194005105103837162354680870762271814315708947904918595413680538552561563954868350265733009707994044735454280785933056485365400317982844829473208197078646785 8 [(.eff 0 [1],0),(.eff 8 [0],0),(.eff 16 [],100000)])):=
 fP2 (by intros;kernel_rfl) (by intros;kernel_rfl) P
theorem str_end (P:Params):∀ (L RL G U:Nat) (x:Str) (s0 op:Int) (p0:Int) (c0:Str) (p:Int) (c:Str) (rs:List Value) (e:Nat) (ρ:Unk) (τ:Nat→Tok) (b tk:Nat),
 PathI [] (fun _=>⟨(fun tr=>.inl (.done (.ret (.str (Builtin.Str.glued ⟨⟨[]⟩⟩ (txs (rs++[Value.str (Txt.slice x (some s0) none) (ρ.u 2 0)]))) tr)))),[AllS (rs++[Value.str (Txt.slice x (some s0) none) (ρ.u 2 0)]),Builtin.Str.tooLong ((txs (rs++[Value.str (Txt.slice x (some s0) none) (ρ.u 2 0)])).toArray.foldl (·+·.length+(⟨⟨[]⟩⟩:Str).length) 0)=false,(Builtin.Str.glued (⟨⟨[]⟩⟩:Str) (txs (rs++[Value.str (Txt.slice x (some s0) none) (ρ.u 2 0)]))).length≤sizeLine,rs.length < sizeLine,x.length≤sizeLine,s0 < Int.ofNat (Nat.succ (x.length - 1)),x.length < 2 ^ 63,x.length≠0],fun _=>[]⟩)
  (runV (VK P (rules10 P)) ρ 400 (execsT1 ((fB (st 5)).drop 5) (envS P L)) (sN P L RL x s0 p c rs e τ) b tk (orcN 0 1427292294536644501680824782094105526580960886913 1 [(.eff 20 [1],0),(.eff 4 [1],0),(.eff 24 [0],0),(.eff 50 [2],0),(.eff 56 [2],100000)])):=
 fP2 (by intros;kernel_rfl) (by intros;kernel_rfl) P
end
section
open PySem.Calls
open Sem (wp)
noncomputable def genY:Nat→Bool→List Nat→List (Nat×Str)
 | _,_,[]=>[]
 | k,true,c::l=>(k,⟨⟨[92]⟩⟩++one c)::genY (k+1) false l
 | k,false,c::l=>if c=92 then genY (k+1) true l else (k,one c)::genY (k+1) false l
noncomputable def genE:Bool→List Nat→Bool
 | e,[]=>e
 | true,_::l=>genE false l
 | false,c::l=>if c=92 then genE true l else genE false l
noncomputable def frR (h₀:Fr) (Rs:List Nat) (h:Heap):Fr:=fun b=>match Rs.contains b with
 | true=>h.get? b
 | false=>h₀ b
theorem frR_in {h₀:Fr} {Rs:List Nat} {h:Heap} {b:Nat} (hb:b∈Rs):frR h₀ Rs h b=h.get? b:=by
 unfold frR;rw [List.contains_iff_mem.mpr hb]
theorem frR_out {h₀:Fr} {Rs:List Nat} {h:Heap} {b:Nat} (hb:b∉Rs):frR h₀ Rs h b=h₀ b:=by
 unfold frR;rw [show Rs.contains b=false from by rw [Bool.eq_false_iff];exact fun q=>hb (List.contains_iff_mem.mp q)]
theorem Rep.toGen {V:RV} {h₀:Fr} {h:Heap} {T R₀:List Cell} {sz:Nat} (D:Rep V h₀ h (T++R₀) sz):Rep V (frR h₀ (R₀.map (·.1)) h) h T sz:=by
 have nd:=D.nodup
 rw [List.map_append] at nd
 obtain ⟨n1,n2,n3⟩:=List.nodup_append.mp nd
 have D':=D.sub (List.sublist_append_left T R₀)
 refine .ofMem D.size (fun c hc=>D'.ownM hc) D'.nodup D.stat (fun a ha=>D'.sepM ha) (fun b o e=>?_) fun a ha=>?_
 ·by_cases hb:b∈R₀.map (·.1)
  ·rw [frR_in hb] at e;exact e
  ·rw [frR_out hb] at e;exact D.frame b o e
 ·rw [frR_out (fun hb=>n3 a ha a hb rfl)];exact D'.freshM ha
theorem Rep.ofGen {V:RV} {h₀:Fr} {h h':Heap} {T R₀ S':List Cell} {sz sz':Nat} (D:Rep V h₀ h (T++R₀) sz) (D':Rep V (frR h₀ (R₀.map (·.1)) h) h' S' sz'):Rep V h₀ h' (S'++R₀) sz':=by
 have nd:=D.nodup
 rw [List.map_append] at nd
 obtain ⟨n1,n2,n3⟩:=List.nodup_append.mp nd
 have DR:Rep V h₀ h R₀ sz:=D.drop
 have hR:∀ c∈R₀,frR h₀ (R₀.map (·.1)) h c.1=some c.2:=fun c hc=>by
  rw [frR_in (List.mem_map_of_mem hc)];exact DR.ownM hc
 have out:∀ a∈S'.map (·.1),a∉R₀.map (·.1):=fun a ha hb=>by
  obtain ⟨c,hc,rfl⟩:=List.mem_map.mp hb
  have:=D'.freshM ha
  rw [hR c hc] at this;cases this
 refine .ofMem D'.size (fun c hc=>?_) ?_ D'.stat (fun a ha=>?_) (fun b o e=>?_) fun a ha=>?_
 ·rcases List.mem_append.mp hc with hc | hc
  ·exact D'.ownM hc
  ·exact D'.frame _ _ (hR c hc)
 ·rw [List.map_append]
  exact List.nodup_append.mpr ⟨D'.nodup,n2,fun a ha b hb e=>out a ha (e▸hb)⟩
 ·rw [List.map_append] at ha
  rcases List.mem_append.mp ha with ha | ha
  ·exact D'.sepM ha
  ·exact DR.sepM ha
 ·have hb:b∉R₀.map (·.1):=fun hb=>by rw [DR.freshM hb] at e;cases e
  exact D'.frame b o (by rw [frR_out hb];exact e)
 ·rw [List.map_append] at ha
  rcases List.mem_append.mp ha with ha | ha
  ·have:=D'.freshM ha
   rw [frR_out (out a ha)] at this;exact this
  ·exact DR.freshM ha
theorem by_pathIR {V:RV} {B:Nat} {w:World} {A:Around} {h₀:Fr} {h:Heap} {g:Array GenState} {dr:Drawn} {os:OsState} {Q:PFin→Shared→Prop} {E:Value→Shared→Prop} (O:VOk V pw_il0098_01 w)
 (HR:∀ i R,V.rules i=some R→RuleOk (B+48) V pw_il0098_01 w R) (hk:V.keepG=true) (hfr:V.fr=none) {n:Nat} {t:Sem PFin} {is:List Nat} (hn:nodupB is=true) {st:St} {τ:Nat→Tok} {R₀:List Cell} {sz tk:Nat} {o:Orc} {v:Nat→Unk→Nat→Want}
 (path:∀ τ b tk ρ,PathI is (v b ρ) (runV V ρ n t (st τ) b tk o))
 (hB:B≤800) (hd:A.depth≤B) (hA:A.handled=none) (D:Rep V h₀ h (st τ++R₀) sz) (hsz:913≤sz)
 (fin:∀ ρ sz',(∀ p∈(v (sz - 900) ρ sz').conds,p)∧∀ h' tr τ' tok',913≤sz'→Rep V h₀ h' ((v (sz - 900) ρ sz').st τ'++R₀) sz'→(match (v (sz - 900) ρ sz').r tr with
   | .inl fin=>Q fin ⟨h',g,dr,tok',os⟩
   | .inr e=>E e ⟨h',g,dr,tok',os⟩))
 (HV:∀ i R,V.rv i=some R→RuleVOk (B+48) V pw_il0098_01 w R:=by intro i R e;exact nomatch (show (none:Option ERuleV)=some R from e)):
 wpAny (MM w) A t Q E ⟨h,g,dr,tk,os⟩:=by
 refine by_pathI (hfr:=by intro l e;rw [hfr] at e;cases e) (HV:=HV) O HR hn (fun ρ=>path τ (sz - 900) tk ρ) hB ⟨hd,hA⟩ (h₀:=frOf h (st τ)) (by rw [show sz - 900+900=sz by exact ar1];exact D.base) (ar2) fun ρ sz'=>⟨(fin ρ sz').1,fun h' g' tr τ' tok' hsz' hg D'=>?_⟩
 obtain rfl:=hg.1 hk
 exact (fin ρ sz').2 h' tr τ' tok' hsz' (D.glue D')
noncomputable def YG (V:RV) (h₀:Fr) (Rs:List Nat) (ys:List (Nat×Str)):Protocol:=fun m s₀ v s' kap=>∃ (T:List Cell) (U tk sz:Nat) (pt:Nat×Str) (t1 t2:Tok),v= .ref U∧ys[ys.length - 1 - m]? =some pt∧913≤sz∧
 s'=⟨s'.heap,s₀.gens,s₀.drawn,tk,s₀.os⟩∧Rep V (frR h₀ Rs s₀.heap) s'.heap ((U,seqO "tuple" [.int (pt.1:Int) t1,.str pt.2 t2] 0)::T) sz∧
 ∀ s'' sz'',913≤sz''→Rep V (frR h₀ Rs s''.heap) s''.heap T sz''→kap (.send .none) s''
noncomputable def PG (V:RV) (h₀:Fr) (Rs:List Nat) (n:Nat) (s₀ s₁:Shared):Prop:=n=0∧∃ tk sz,s₁=⟨s₁.heap,s₀.gens,s₀.drawn,tk,s₀.os⟩∧913≤sz∧Rep V (frR h₀ Rs s₀.heap) s₁.heap [] sz
noncomputable def RG (V:RV) (h₀:Fr) (Rs:List Nat):GenEnd:=fun n s₀ r s₁=>r= .ok (.ret .none)∧PG V h₀ Rs n s₀ s₁
theorem sgn_one {x:Str} {k:Nat} {c:Nat} (h:x.cps.toList[k]? =some c):sgn x (k:Int)=one c:=by
 unfold sgn one
 rw [Int.toNat_natCast]
 have:x.cps.getD k 0=c:=by
  rw [Array.getD_eq_getD_getElem?,←Array.getElem?_toList,h];rfl
 rw [this]
theorem cps_at {x:Str} {k:Nat} {c:Nat} (h:x.cps.toList[k]? =some c):x.cps[((k:Nat):Int).toNat]? =some (x.cps.getD ((k:Nat):Int).toNat 0):=by
 rw [Int.toNat_natCast,Array.getD_eq_getD_getElem?,←Array.getElem?_toList,h];rfl
noncomputable def tailG (EN it:Nat) (x q:Str) (k:Int) (t1 t2:Tok):List Cell:=[(EN,itO "enumerate" [.none,.bool false,.ref it,.int k 0,.none,.str q t1]),(it,itO "str_ascii_iterator" [.str x t2,.int k 0])]
theorem gT_mk (P:Params) (C EN it:Nat) (x:Str) (k:Nat) (p:Int) (e:Bool) (c q:Str) (τ:Nat→Tok) (t1 t2:Tok):gF4 P C x p e c τ++tailG EN it x q (k:Int) t1 t2=gT P C EN it x k p e c q (fun i=>if i < 8 then τ i else if i=13 then t1 else t2):=rfl
noncomputable def forElse:Stmt→List Stmt | .For _ _ _ o _=>o | _=>[]
noncomputable def loopElse:Stmt→List Stmt | .For _ _ _ o _=>o | _=>[]
noncomputable def sG:Stmt:=stm (st 4) 2
theorem sG_for:isTupFor sG:=⟨_,_,_,_,_,_,_,rfl⟩
theorem sG_else:loopElse sG=[]:=by kernel_rfl
theorem sG_body:forBody sG=[gIf1]:=by kernel_rfl
theorem gIf1_if:∃ pos,gIf1= .If (ifTest gIf1) (ifBody gIf1) (ifElse gIf1) pos:=⟨_,rfl⟩
theorem gIf1_else:ifElse gIf1=[gIf2]:=by kernel_rfl
theorem gIf1_body:ifBody gIf1=(ifBody gIf1).getD 0 default::(ifBody gIf1).drop 1:=by kernel_rfl
theorem gIf1_y:∃ yp pos,(ifBody gIf1).getD 0 default= .Expr (.Yield (some (yieldE ((ifBody gIf1).getD 0 default))) yp) pos:=⟨_,_,rfl⟩
theorem gIf2_if:∃ pos,gIf2= .If (ifTest gIf2) (ifBody gIf2) (ifElse gIf2) pos:=⟨_,rfl⟩
theorem gIf2_else:ifElse gIf2=[(ifElse gIf2).getD 0 default]:=by kernel_rfl
theorem gIf2_y:∃ yp pos,(ifElse gIf2).getD 0 default= .Expr (.Yield (some (yieldE ((ifElse gIf2).getD 0 default))) yp) pos:=⟨_,_,rfl⟩
theorem envG_co (P:Params) (C:Nat):(envG P C).scope.isCoroutine=false:=by kernel_rfl
theorem envG_int (P:Params) (C:Nat):interactive (envG P C)=false:=by kernel_rfl
theorem codeG_q (P:Params) (C EN:Nat):(codeG P C EN).quiet=true:=by kernel_rfl
theorem codeG_w (P:Params) (C EN:Nat):(codeG P C EN).weight≤4:=Nat.le_of_ble_eq_true (by kernel_rfl)
theorem funcG_w (P:Params) (C:Nat):(Code.func (fB (st 4)) (envG P C)).weight≤4:=Nat.le_of_ble_eq_true (by kernel_rfl)
section
variable {w:World} {h₀:Fr} {Rs:List Nat} {x:Str} {ys:List (Nat×Str)} {A:Around} {C EN it:Nat} {cB:Code} {pF kpF:Pos} {kk:Result→Sem Fin} {lvF:List Value}
noncomputable abbrev VG (w:World):RV:=VK w.params (rules10 w.params)
noncomputable abbrev SegG (w:World) (h₀:Fr) (Rs:List Nat) (ys:List (Nat×Str)) (A:Around) (n:Nat) (s₀:Shared) (c:Code) (t:Sem Fin) (fs:List Frame) (s:Shared):Prop:=Seg (MM w) A (RG (VG w) h₀ Rs) (YG (VG w) h₀ Rs ys) n s₀ c t fs s
noncomputable def GL (w:World) (h₀:Fr) (Rs:List Nat) (ys:List (Nat×Str)) (A:Around) (x:Str) (C EN it:Nat) (F:Frame) (k:Nat) (l:List Nat):Prop:=
 ∀ (p:Int) (e:Bool) (c q:Str) (pre:List (Nat×Str)),ys=pre++genY k e l→genE e l=false→∀ (s₀:Shared) (h:Heap) (tok sz:Nat) (τ:Nat→Tok),913≤sz→Rep (VG w) (frR h₀ Rs s₀.heap) h (gT w.params C EN it x k p e c q τ) sz→
  SegG w h₀ Rs ys A (genY k e l).length s₀ (codeG w.params C EN) ((MM w).den (codeG w.params C EN)) [F] ⟨h,s₀.gens,s₀.drawn,tok,s₀.os⟩
theorem fsG (kk:Result→Sem Fin) (lvF:List Value) (cB:Code) (pF:Pos):splitAtGen [Frame.ret kk none false lvF cB pF []]=none:=rfl
theorem over_ok (hd:A.depth≤600) (hA:A.handled=none) (hw:cB.weight≤4) {c:Code} (hc:c.weight≤4):(A.over c [Frame.ret kk none false lvF cB pF []]).depth≤700∧(A.over c [Frame.ret kk none false lvF cB pF []]).handled=none:=by
 refine ⟨?_,hA⟩
 show A.depth+frameCount [(cB,pF)]+c.weight≤700
 rw [frameCount_cons]
 show A.depth+(cB.weight+0)+c.weight≤700
 lia
theorem gen_body (hd:A.depth≤600) (hA:A.handled=none) (hw:cB.weight≤4) {k ch:Nat} {r:List Nat} (e:Bool) (pre:List (Nat×Str)) (hys:ys=pre++genY k e (ch::r)) (hE:genE e (ch::r)=false)
 (ih:GL w h₀ Rs ys A x C EN it (.ret kk none false lvF cB pF []) (k+1) r) (s₀:Shared) (h:Heap) (tok sz:Nat) (τ:Nat→Tok) (t1 t2:Tok) (hsz:913≤sz)
 (D:Rep (VG w) (frR h₀ Rs s₀.heap) h (gF4 w.params C x (k:Int) e (one ch) τ++tailG EN it x (one ch) ((k:Int)+1) t1 t2) sz):
 SegG w h₀ Rs ys A (genY k e (ch::r)).length s₀ (codeG w.params C EN) ((execs (forBody sG) (envG w.params C)).wrap (fun f=>match f with
  | .next | .cont=>.pure (.again (codeG w.params C EN))
  | .brk=>.pure (.done .next)
  | .ret v=>.pure (.done (.ret v))) (fun e=>(do noteFrame e (envG w.params C);theTreesLotGoes e:Sem Unit).wrap (fun _=>.raise e) .raise id id) id id) [.ret kk none false lvF cB pF []] ⟨h,s₀.gens,s₀.drawn,tok,s₀.os⟩:=by
 have O:=VK_ok w (rules10 w.params)
 have HR:=rules10_ok (B:=700+48) (by decide) (V:=VG w) (w:=w) rfl
 obtain ⟨hd1,hA1⟩:=over_ok (kk:=kk) (lvF:=lvF) (pF:=pF) hd hA hw (codeG_w w.params C EN)
 have e1:((k:Int)+1)=((k+1:Nat):Int):=ar47
 obtain ⟨pos1,hi1⟩:=gIf1_if
 obtain ⟨pos2,hi2⟩:=gIf2_if
 obtain ⟨yp1,ypos1,hy1⟩:=gIf1_y
 obtain ⟨yp2,ypos2,hy2⟩:=gIf2_y
 rw [sG_body]
 refine seg_execs_cons ?_
 conv=>rw [hi1]
 refine seg_If ?_
 cases e with
 | true=>
   refine wp_testT1 (by_pathIR O HR rfl rfl rfl (fun τ b tk ρ=>gen_esc1 w.params C x (k:Int) (one ch) ρ τ b tk) (by decide) hd1 hA1 D hsz fun ρ sz1=>⟨c0,fun h1 tr τ1 tok1 hsz1 D1=>?_⟩)
   show SegG _ _ _ _ _ _ _ _ _ _ _
   rw [if_pos rfl,gIf1_body]
   refine seg_execs_cons ?_
   rw [hy1]
   refine seg_Expr_Yield rfl rfl rfl ?_ (envG_co _ _) (envG_int _ _)
   refine wpAny_mono (E:=fun _ _=>False) (wp_evalT1 (by_pathIR O HR rfl rfl rfl (fun τ b tk ρ=>gen_tup1 w.params C x (k:Int) (one ch) ρ τ b tk) (by decide) hd1 hA1 D1 hsz1 fun ρ2 sz2=>⟨cC (by have e:((⟨⟨[92]⟩⟩:Str)++one ch).length=2:=rfl;rw [e];decide) c0,fun h2 tr2 τ2 tok2 hsz2 D2=>?_⟩)) (fun _ _ q=>q) fun _ _ (q:False)=>q.elim
   intro kap hkap
   refine ⟨gF4 w.params C x (k:Int) true (one ch) (fun j=>τ2 (j+2))++tailG EN it x (one ch) ((k:Int)+1) t1 t2,ρ2.b 0+900,tok2,sz2,(k,((⟨⟨[92]⟩⟩:Str)++one ch)),τ2 0,τ2 1,rfl,?_,hsz2,rfl,D2,fun s'' sz'' hsz'' D''=>hkap .none s'' ?_⟩
   ·rw [show ys=pre++(k,((⟨⟨[92]⟩⟩:Str)++one ch))::genY (k+1) false r from hys]
    rw [show (pre++(k,((⟨⟨[92]⟩⟩:Str)++one ch))::genY (k+1) false r).length - 1 - (genY (k+1) false r).length=pre.length by rw [List.length_append,List.length_cons];exact ar30]
    rw [List.getElem?_append_right (Nat.le_refl _),Nat.sub_self];rfl
   ·show SegG _ _ _ _ _ _ _ _ ((execs ((ifBody gIf1).drop 1) (envG w.params C)).wrap _ _ _ _) _ _
    obtain ⟨h3,g3,dr3,tok3,os3⟩:=s''
    refine seg_part (wp_execsT1 (by_pathIR O HR rfl rfl rfl (fun τ b tk ρ=>gen_set0 w.params C x (k:Int) (one ch) ρ τ b tk) (by decide) hd1 hA1 D'' hsz'' fun ρ4 sz4=>⟨c0,fun h4 tr4 τ4 tok4 hsz4 D4=>?_⟩))
    show SegG _ _ _ _ _ _ _ _ (.pure (.again (codeG w.params C EN))) _ _
    refine seg_again (codeG_q ..) ?_
    rw [e1,gT_mk] at D4
    refine ih (k:Int) false (one ch) (one ch) (pre++[(k,((⟨⟨[92]⟩⟩:Str)++one ch))]) ?_ hE ⟨h3,g3,dr3,tok3,os3⟩ h4 tok4 sz4 _ hsz4 D4
    rw [List.append_assoc];exact hys
 | false=>
   refine wp_testT1 (by_pathIR O HR rfl rfl rfl (fun τ b tk ρ=>gen_esc0 w.params C x (k:Int) (one ch) ρ τ b tk) (by decide) hd1 hA1 D hsz fun ρ sz1=>⟨c0,fun h1 tr τ1 tok1 hsz1 D1=>?_⟩)
   show SegG _ _ _ _ _ _ _ _ _ _ _
   rw [if_neg Bool.false_ne_true,gIf1_else]
   refine seg_execs_cons ?_
   conv=>rw [hi2]
   refine seg_If ?_
   by_cases h92:ch=92
   ·have ey:genY k false (ch::r)=genY (k+1) true r:=if_pos h92
    have eE:genE false (ch::r)=genE true r:=if_pos h92
    rw [ey] at hys⊢
    rw [eE] at hE
    refine wp_testT1 (by_pathIR O HR rfl rfl rfl (fun τ b tk ρ=>gen_bs1 w.params C x (k:Int) (one ch) ρ τ b tk) (by decide) hd1 hA1 D1 hsz1 fun ρ2 sz2=>⟨cC (by rw [h92];rfl) c0,fun h2 tr2 τ2 tok2 hsz2 D2=>?_⟩)
    show SegG _ _ _ _ _ _ _ _ _ _ _
    rw [if_pos rfl]
    refine seg_part (wp_execsT1 (by_pathIR O HR rfl rfl rfl (fun τ b tk ρ=>gen_set1 w.params C x (k:Int) (one ch) ρ τ b tk) (by decide) hd1 hA1 D2 hsz2 fun ρ4 sz4=>⟨c0,fun h4 tr4 τ4 tok4 hsz4 D4=>?_⟩))
    show SegG _ _ _ _ _ _ _ _ (.pure (.again (codeG w.params C EN))) _ _
    refine seg_again (codeG_q ..) ?_
    rw [e1,gT_mk] at D4
    exact ih (k:Int) true (one ch) (one ch) pre hys hE s₀ h4 tok4 sz4 _ hsz4 D4
   ·have ey:genY k false (ch::r)=(k,one ch)::genY (k+1) false r:=if_neg h92
    have eE:genE false (ch::r)=genE false r:=if_neg h92
    rw [ey] at hys⊢
    rw [eE] at hE
    refine wp_testT1 (by_pathIR O HR rfl rfl rfl (fun τ b tk ρ=>gen_bs0 w.params C x (k:Int) (one ch) ρ τ b tk) (by decide) hd1 hA1 D1 hsz1 fun ρ2 sz2=>⟨cC (fun q=>h92 (by injection q with q;injection q with q;injection q)) c0,fun h2 tr2 τ2 tok2 hsz2 D2=>?_⟩)
    show SegG _ _ _ _ _ _ _ _ _ _ _
    rw [if_neg Bool.false_ne_true,gIf2_else]
    refine seg_execs_cons ?_
    rw [hy2]
    refine seg_Expr_Yield rfl rfl rfl ?_ (envG_co _ _) (envG_int _ _)
    refine wpAny_mono (E:=fun _ _=>False) (wp_evalT1 (by_pathIR (v:=fun b ρ _=>⟨fun tr=>.inl (.done (.ret (.ref (b+900)))),[],fun τ=>(b+900,seqO "tuple" [.int (k:Int) (τ 0),.str (one ch) (τ 1)] 0)::gF4 w.params C x (k:Int) false (one ch) (fun j=>τ (j+2))⟩) O HR rfl rfl rfl (fun τ b tk ρ=>gen_tup2 w.params C x (k:Int) (one ch) ρ τ b tk) (by decide) hd1 hA1 D2 hsz2 fun ρ3 sz3=>⟨c0,fun h3 tr3 τ3 tok3 hsz3 D3=>?_⟩)) (fun _ _ q=>q) fun _ _ (q:False)=>q.elim
    intro kap hkap
    refine ⟨gF4 w.params C x (k:Int) false (one ch) (fun j=>τ3 (j+2))++tailG EN it x (one ch) ((k:Int)+1) t1 t2,sz2 - 900+900,tok3,sz3,(k,one ch),τ3 0,τ3 1,rfl,?_,hsz3,rfl,D3,fun s'' sz'' hsz'' D''=>hkap .none s'' ?_⟩
    ·rw [hys]
     rw [show (pre++(k,one ch)::genY (k+1) false r).length - 1 - (genY (k+1) false r).length=pre.length by rw [List.length_append,List.length_cons];exact ar30]
     rw [List.getElem?_append_right (Nat.le_refl _),Nat.sub_self];rfl
    ·show SegG _ _ _ _ _ _ _ _ (.pure (.again (codeG w.params C EN))) _ _
     refine seg_again (codeG_q ..) ?_
     obtain ⟨h4,g4,dr4,tok4,os4⟩:=s''
     rw [e1,gT_mk] at D''
     refine ih (k:Int) false (one ch) (one ch) (pre++[(k,one ch)]) ?_ hE ⟨h4,g4,dr4,tok4,os4⟩ h4 tok4 sz'' _ hsz'' D''
     rw [List.append_assoc];exact hys
end
theorem codeG_eq (P:Params) (C EN:Nat):codeG P C EN= .forLoop (forTgt sG) (.ref EN) (forBody sG) (loopElse sG) (envG P C):=by
 obtain ⟨elts,x1,tp,iter,body,orelse,pos,hs⟩:=sG_for
 show loopC sG _ _=_
 rw [hs];rfl
theorem sG_tgt:∃ elts x1 tp,forTgt sG= .Tuple elts x1 tp:=by
 obtain ⟨elts,x1,tp,iter,body,orelse,pos,hs⟩:=sG_for
 exact ⟨elts,x1,tp,by rw [hs];rfl⟩
theorem sG_eq:∃ pos,sG= .For (forTgt sG) (forIter sG) (forBody sG) (loopElse sG) pos:=by
 obtain ⟨elts,x1,tp,iter,body,orelse,pos,hs⟩:=sG_for
 exact ⟨pos,by rw [hs];rfl⟩
section
variable {w:World} {h₀:Fr} {Rs:List Nat} {x:Str} {ys:List (Nat×Str)} {A:Around} {C EN it:Nat} {cB:Code} {pF kpF:Pos} {kk:Result→Sem Fin} {lvF:List Value}
theorem gen_loop (hd:A.depth≤600) (hA:A.handled=none) (hw:cB.weight≤4)
 (HK:∀ (s₀:Shared) (h:Heap) (tok sz:Nat) (τ:Nat→Tok) (p:Int) (c:Str),913≤sz→Rep (VG w) (frR h₀ Rs s₀.heap) h (gF4 w.params C x p false c τ) sz→SegG w h₀ Rs ys A 0 s₀ cB (kk (.ok .next)) [] ⟨h,s₀.gens,s₀.drawn,tok,s₀.os⟩):
 ∀ (l:List Nat) (k:Nat),x.cps.toList.drop k=l→GL w h₀ Rs ys A x C EN it (.ret kk none false lvF cB pF []) k l:=by
 have O:=VK_ok w (rules10 w.params)
 have HR:=rules10_ok (B:=700+48) (by decide) (V:=VG w) (w:=w) rfl
 obtain ⟨hd1,hA1⟩:=over_ok (kk:=kk) (lvF:=lvF) (pF:=pF) hd hA hw (codeG_w w.params C EN)
 intro l
 induction l with
 | nil=>
   intro k hk p e c q pre hys hE s₀ h tok sz τ hsz D
   obtain rfl:e=false:=by cases e <;> first | rfl | exact hE
   have hn:x.cps[((k:Nat):Int).toNat]? =none:=by
    rw [Int.toNat_natCast,←Array.getElem?_toList]
    exact List.getElem?_eq_none (List.drop_eq_nil_iff.mp hk)
   refine seg_forLoop (codeG_eq ..) ?_
   refine wp_nextT1 (by_pathIR (R₀:=[]) O HR rfl rfl rfl (fun τ b tk ρ=>gen_end w.params C EN it x k p false c q ρ τ b tk) (by decide) hd1 hA1 (by rw [List.append_nil];exact D) hsz fun ρ sz1=>⟨cC hn c0,fun h1 tr τ1 tok1 hsz1 D1=>?_⟩)
   show SegG _ _ _ _ _ _ _ (.block (loopElse sG) _) _ _ _
   rw [sG_else]
   show SegG _ _ _ _ _ _ _ (.block [] _) (leafOf (.ok .next)) _ _
   rw [List.append_nil] at D1
   exact seg_leaf (.ok .next) (HK s₀ h1 tok1 sz1 τ1 p c hsz1 D1)
 | cons ch r ih=>
   intro k hk p e c q pre hys hE s₀ h tok sz τ hsz D
   have hat:x.cps.toList[k]? =some ch:=by rw [←List.head?_drop,hk];rfl
   have hr:x.cps.toList.drop (k+1)=r:=by rw [←List.drop_drop,hk];rfl
   obtain ⟨elts,x1,tp,ht⟩:=sG_tgt
   refine seg_forLoop (codeG_eq ..) ?_
   refine wp_nextT1 (by_pathIR (R₀:=[]) O HR rfl rfl rfl (fun τ b tk ρ=>gen_next w.params C EN it x k p e c q ρ τ b tk) (by decide) hd1 hA1 (by rw [List.append_nil];exact D) hsz fun ρ sz1=>⟨cC (cps_at hat) c0,fun h1 tr τ1 tok1 hsz1 D1=>?_⟩)
   show wpAny _ _ (letOwnedTupleGo (forTgt sG) (.ref EN) (.ref (ρ.b 0+900))) _ _ _
   rw [List.append_nil] at D1
   have D1:Rep (VG w) (frR h₀ Rs s₀.heap) h1 (gTA w.params C EN it (ρ.b 0+900) x k p e c (sgn x (k:Int)) (.int (ρ.b 0+900:Nat) 0) τ1) sz1:=D1
   rw [sgn_one hat] at D1
   have key:=wpAny_letOwned (w:=w) (A:=A.over (codeG w.params C EN) [.ret kk none false lvF cB pF []]) (elts:=elts) (x1:=x1) (pos:=tp) (s:=⟨h1,s₀.gens,s₀.drawn,tok1,s₀.os⟩) (E:=fun _ _=>False) (a:=ρ.b 0+900) (D1.own 1 _ rfl)
    (Q:=fun _ s₂=>wpAny (MM w) (A.over (codeG w.params C EN) [.ret kk none false lvF cB pF []]) (assign (forTgt sG) (envG w.params C) (.ref (ρ.b 0+900))) (fun _ s₃=>
      SegG w h₀ Rs ys A (genY k e (ch::r)).length s₀ (codeG w.params C EN) ((execs (forBody sG) (envG w.params C)).wrap (fun f=>match f with
       | .next | .cont=>.pure (.again (codeG w.params C EN))
       | .brk=>.pure (.done .next)
       | .ret v=>.pure (.done (.ret v))) (fun e=>(do noteFrame e (envG w.params C);theTreesLotGoes e:Sem Unit).wrap (fun _=>.raise e) .raise id id) id id) [.ret kk none false lvF cB pF []] s₃) (fun _ _=>False) s₂) ?_
   ·rw [ht];rw [ht] at key;exact key
   have D2:=D1.update (f:=Obj.mapFields (·.setIfInBounds 0 .none)) (j:=1) rfl rfl
   have D3:Rep (VG w) (frR h₀ Rs s₀.heap) (h1.update EN (Obj.mapFields (·.setIfInBounds 0 .none))) (gU4 w.params C (ρ.b 0+900) x p e c (k:Int) (one ch) (fun i=>if i < 8 then τ1 i else τ1 (i+8))++tailG EN it x (one ch) ((k:Int)+1) (τ1 13) (τ1 14)) sz1:=D2.perm (is:=[0,3,1,2]) (nodupB_spec rfl)
   refine wp_asgT1 (by_pathIR O HR rfl rfl rfl (fun τ b tk ρ'=>gen_assign w.params C (ρ.b 0+900) x p e c (k:Int) (one ch) ρ' τ b tk) (by decide) hd1 hA1 D3 hsz1 fun ρ2 sz2=>⟨c0,fun h2 tr2 τ2 tok2 hsz2 D4=>?_⟩)
   exact gen_body hd hA hw e pre hys hE (ih (k+1) hr) s₀ h2 tok2 sz2 τ2 _ _ hsz2 D4
theorem gen_first (hd:A.depth≤600) (hA:A.handled=none) (hw:cB.weight≤4)
 (HK:∀ (s₀:Shared) (h:Heap) (tok sz:Nat) (τ:Nat→Tok) (p:Int) (c:Str),913≤sz→Rep (VG w) (frR h₀ Rs s₀.heap) h (gF4 w.params C x p false c τ) sz→SegG w h₀ Rs ys A 0 s₀ cB (kk (.ok .next)) [] ⟨h,s₀.gens,s₀.drawn,tok,s₀.os⟩)
 {ch:Nat} {r:List Nat} (hk:x.cps.toList=ch::r) (hys:ys=genY 0 false (ch::r)) (hE:genE false (ch::r)=false) (s₀:Shared) (h:Heap) (tok sz:Nat) (τ:Nat→Tok) (hsz:913≤sz) (D:Rep (VG w) (frR h₀ Rs s₀.heap) h (gI w.params C EN it x τ) sz):
 SegG w h₀ Rs ys A (genY 0 false (ch::r)).length s₀ (codeG w.params C EN) ((MM w).den (codeG w.params C EN)) [.ret kk none false lvF cB pF []] ⟨h,s₀.gens,s₀.drawn,tok,s₀.os⟩:=by
 have O:=VK_ok w (rules10 w.params)
 have HR:=rules10_ok (B:=700+48) (by decide) (V:=VG w) (w:=w) rfl
 obtain ⟨hd1,hA1⟩:=over_ok (kk:=kk) (lvF:=lvF) (pF:=pF) hd hA hw (codeG_w w.params C EN)
 have hat:x.cps.toList[0]? =some ch:=by rw [hk];rfl
 have hr:x.cps.toList.drop (0+1)=r:=by rw [hk];rfl
 obtain ⟨elts,x1,tp,ht⟩:=sG_tgt
 refine seg_forLoop (codeG_eq ..) ?_
 refine wp_nextT1 (by_pathIR (R₀:=[]) O HR rfl rfl rfl (fun τ b tk ρ=>gen_next0 w.params C EN it x ρ τ b tk) (by decide) hd1 hA1 (by rw [List.append_nil];exact D) hsz fun ρ sz1=>⟨cC (cps_at hat) c0,fun h1 tr τ1 tok1 hsz1 D1=>?_⟩)
 show wpAny _ _ (letOwnedTupleGo (forTgt sG) (.ref EN) (.ref (ρ.b 0+900))) _ _ _
 rw [List.append_nil] at D1
 have D1:Rep (VG w) (frR h₀ Rs s₀.heap) h1 (gIA w.params C EN it (ρ.b 0+900) x (sgn x ((0:Nat):Int)) (.int (ρ.b 0+900:Nat) 0) τ1) sz1:=D1
 rw [sgn_one hat] at D1
 have key:=wpAny_letOwned (w:=w) (A:=A.over (codeG w.params C EN) [.ret kk none false lvF cB pF []]) (elts:=elts) (x1:=x1) (pos:=tp) (s:=⟨h1,s₀.gens,s₀.drawn,tok1,s₀.os⟩) (E:=fun _ _=>False) (a:=ρ.b 0+900) (D1.own 1 _ rfl)
  (Q:=fun _ s₂=>wpAny (MM w) (A.over (codeG w.params C EN) [.ret kk none false lvF cB pF []]) (assign (forTgt sG) (envG w.params C) (.ref (ρ.b 0+900))) (fun _ s₃=>
    SegG w h₀ Rs ys A (genY 0 false (ch::r)).length s₀ (codeG w.params C EN) ((execs (forBody sG) (envG w.params C)).wrap (fun f=>match f with
     | .next | .cont=>.pure (.again (codeG w.params C EN))
     | .brk=>.pure (.done .next)
     | .ret v=>.pure (.done (.ret v))) (fun e=>(do noteFrame e (envG w.params C);theTreesLotGoes e:Sem Unit).wrap (fun _=>.raise e) .raise id id) id id) [.ret kk none false lvF cB pF []] s₃) (fun _ _=>False) s₂) ?_
 ·rw [ht];rw [ht] at key;exact key
 have D2:=D1.update (f:=Obj.mapFields (·.setIfInBounds 0 .none)) (j:=1) rfl rfl
 have D3:Rep (VG w) (frR h₀ Rs s₀.heap) (h1.update EN (Obj.mapFields (·.setIfInBounds 0 .none))) (gU3 w.params C (ρ.b 0+900) x ((0:Nat):Int) (one ch) (fun i=>if i < 6 then τ1 i else τ1 (i+8))++tailG EN it x (one ch) (((0:Nat):Int)+1) (τ1 11) (τ1 12)) sz1:=D2.perm (is:=[0,3,1,2]) (nodupB_spec rfl)
 refine wp_asgT1 (by_pathIR O HR rfl rfl rfl (fun τ b tk ρ'=>gen_assign0 w.params C (ρ.b 0+900) x ((0:Nat):Int) (one ch) ρ' τ b tk) (by decide) hd1 hA1 D3 hsz1 fun ρ2 sz2=>⟨c0,fun h2 tr2 τ2 tok2 hsz2 D4=>?_⟩)
 exact gen_body hd hA hw false [] hys hE (gen_loop hd hA hw HK r (0+1) hr) s₀ h2 tok2 sz2 τ2 _ _ hsz2 D4
end
theorem seg_execs_app {w:World} {A:Around} {R:GenEnd} {Y:Protocol} {n:Nat} {s₀:Shared} {c:Code} {fs:List Frame} {s:Shared} {env:Env} {K:Flow→Sem Fin} {H:Value→Sem Fin} {gd:Bool→Bool} {lv:List Value→List Value} {l l1 l2:List Stmt} (hl:l=l1++l2)
 (h:Seg (MM w) A R Y n s₀ c ((execs l1 env).wrap (fun f=>match f with | .next=>(execs l2 env).wrap K H gd lv | f=>K f) H gd lv) fs s):Seg (MM w) A R Y n s₀ c ((execs l env).wrap K H gd lv) fs s:=by
 subst hl
 have e:(execs (l1++l2) env).wrap K H gd lv=(execs l1 env).wrap (fun f=>match f with | .next=>(execs l2 env).wrap K H gd lv | f=>K f) H gd lv:=by
  rw [execs_app,Sem.bind_eq_wrap,Sem.wrap_wrap]
  exact Sem.wrap_congr _ _ _ (fun f=>by cases f <;> rfl) (fun _=>rfl)
 rw [e]
 exact h
theorem bodyG_eq:fB (st 4)=(fB (st 4)).take 2++(sG::(fB (st 4)).drop 3):=by kernel_rfl
theorem sG_fold (P:Params) (C:Nat) (x:Value):foldedSetIterable (forIter sG) (envG P C) x=pure x:=by kernel_rfl
theorem gen_start {w:World} {h₀:Fr} {Rs:List Nat} {x:Str} {A:Around} {C:Nat} (hd:A.depth≤600) (hA:A.handled=none) {ch:Nat} {r:List Nat} (hk:x.cps.toList=ch::r) (hE:genE false (ch::r)=false) (ha:x.cps.all (· < 128)=true)
 (s₀:Shared) (sz:Nat) (τ:Nat→Tok) (hsz:913≤sz) (D:Rep (VG w) (frR h₀ Rs s₀.heap) s₀.heap (gF1 w.params C x τ) sz):
 (GenState.fresh (.func (fB (st 4)) (envG w.params C))).Goes (MM w) A (RG (VG w) h₀ Rs) (YG (VG w) h₀ Rs (genY 0 false (ch::r))) (genY 0 false (ch::r)).length (.send .none) s₀:=by
 have O:=VK_ok w (rules10 w.params)
 have HR:=rules10_ok (B:=700+48) (by decide) (V:=VG w) (w:=w) rfl
 have hd1:(A.over (.func (fB (st 4)) (envG w.params C)) []).depth≤700:=by
  show A.depth+0+_≤700
  have:=funcG_w w.params C
  lia
 have hA1:(A.over (.func (fB (st 4)) (envG w.params C)) []).handled=none:=hA
 obtain ⟨pos,hs⟩:=sG_eq
 refine ⟨rfl,?_⟩
 refine seg_func ?_
 refine seg_execs_app bodyG_eq ?_
 obtain ⟨h,g,dr,tok,os⟩:=s₀
 refine seg_part (wp_execsT1 (by_pathIR (R₀:=[]) O HR rfl rfl rfl (fun τ b tk ρ=>gen_pre w.params C x ρ τ b tk) (by decide) hd1 hA1 (by rw [List.append_nil];exact D) hsz fun ρ1 sz1=>⟨c0,fun h1 tr1 τ1 tok1 hsz1 D1=>?_⟩))
 show Seg _ _ _ _ _ _ _ ((execs (sG::(fB (st 4)).drop 3) (envG w.params C)).wrap _ _ _ _) _ _
 refine seg_execs_cons ?_
 conv=>rw [hs]
 refine seg_For (sG_fold w.params C) ?_ rfl
 refine wp_evalT1 (by_pathIR (R₀:=[]) O HR rfl rfl rfl (fun τ b tk ρ=>gen_iter w.params C x ρ τ b tk) (by decide) hd1 hA1 D1 hsz1 fun ρ2 sz2=>⟨cC ha c0,fun h2 tr2 τ2 tok2 hsz2 D2=>?_⟩)
 refine wp_iterT1 (by_pathIR (R₀:=[]) O HR rfl rfl rfl (fun τ b tk ρ=>gen_pyiter w.params C (ρ2.b 0+899) (ρ2.b 0+898) x ρ τ b tk) (by decide) hd1 hA1 D2 hsz2 fun ρ3 sz3=>⟨c0,fun h3 tr3 τ3 tok3 hsz3 D3=>?_⟩)
 intro p
 rw [←codeG_eq]
 rw [List.append_nil] at D3
 refine gen_first hd hA (funcG_w w.params C) ?_ hk rfl hE ⟨h,g,dr,tok,os⟩ h3 tok3 sz3 τ3 hsz3 D3
 intro s₄ h4 tok4 sz4 τ4 p4 c4 hsz4 D4
 show Seg _ _ _ _ _ _ _ ((execs ((fB (st 4)).drop 3) (envG w.params C)).wrap _ _ _ _) _ _
 refine seg_part (wp_execsT1 (by_pathIR (R₀:=[]) O HR rfl rfl rfl (fun τ b tk ρ=>gen_after w.params C x p4 c4 ρ τ b tk) (by decide) hd1 hA1 (by rw [List.append_nil];exact D4) hsz4 fun ρ5 sz5=>⟨c0,fun h5 tr5 τ5 tok5 hsz5 D5=>?_⟩))
 show Seg _ _ _ _ _ _ _ (leafOf (.ok (.ret .none))) _ _
 rw [List.append_nil] at D5
 exact seg_end (.ok (.ret .none)) ⟨rfl,rfl,tok5,sz5,rfl,hsz5,D5.drop (X:=gF4 w.params C x p4 false c4 τ5) (T:=[])⟩
theorem callGen_eq {a:Addr} {fd:FuncData} {args:Args} (h1:fd.scope.isGenerator=true) (h2:fd.scope.isCoroutine=false):callFunction a fd args=(callTree a fd args).bind fun fin=>match fin with
 | .again c=>(do enterFrame;ret (←newGenerator c fd.name fd.qualname):Sem Fin)
 | .done f=>.pure (.done f):=by
 unfold callFunction
 simp only [h1,h2]
 exact headT_bind (cd:=fd.code) (qn:=fd.qualname) (k1:=fun q=>do
  let env ←newFunctionEnv fd.scope fd.globals fd.closure (←bindArgs fd args) (q++".<locals>.") (some a) fd.code none fd.builtins
  enterFrame
  ret (←newGenerator (match fd.body with | .stmts b=>.func b env | .expr e=>.expr e env) fd.name fd.qualname))
  (k2:=fun q=>do
    let env ←newFunctionEnv fd.scope fd.globals fd.closure (←bindArgs fd args) (q++".<locals>.") (some a) fd.code none fd.builtins
    again (match fd.body with | .stmts b=>.func b env | .expr e=>.expr e env)) fun q=>by
  show Sem.bind _ _=Sem.bind (Sem.bind _ _) _
  rw [Sem.bind_assoc]
  congr 1;funext binds
  show Sem.bind _ _=Sem.bind (Sem.bind _ _) _
  rw [Sem.bind_assoc]
  rfl
theorem look51 (P:Params):lookK P 51=some (o51 P):=by kernel_rfl
theorem look58 (P:Params):lookK P 58=some (o58 P):=by kernel_rfl
theorem o51_gen (P:Params):(fdO (o51 P)).scope.isGenerator=true:=by kernel_rfl
theorem o51_co (P:Params):(fdO (o51 P)).scope.isCoroutine=false:=by kernel_rfl
theorem o51_data (P:Params):(o51 P).data= .func (fdO (o51 P)):=by kernel_rfl
theorem o58_data (P:Params):(o58 P).data= .func (fdO (o58 P)):=by kernel_rfl
theorem call51_w (args:Args):(Code.call (.ref 51) args).weight=0:=rfl
noncomputable def genO (g:Nat) (nm qn:Value):Obj:=⟨.type "generator",none,.fields ⟨[.int g 0,nm,qn]⟩,⟨[]⟩⟩
theorem mkText_nl {M:Model} {A:Around} {E:Value→Shared→Prop} {s:Shared} {x:Str} {Q:Value→Shared→Prop} (h:Q (.str x s.toks) { s with toks:=s.toks+1 }):wpAny M A (mkText x) Q E s:=wpAny_mkText h
theorem gen_make {w:World} {A:Around} {h₀:Fr} {h:Heap} {g:Array GenState} {dr:Drawn} {os:OsState} {tok sz:Nat} {T:List Cell} {x:Str} {t:Tok} {R:Result→Shared→Prop} (hd:A.depth≤600) (hA:A.handled=none) (D:Rep (VG w) h₀ h T sz) (hsz:913≤sz)
 (k:∀ h' C G tok' sz' τ nm qn,913≤sz'→Rep (VG w) h₀ h' ((G,genO g.size nm qn)::(gF1 w.params C x τ++T)) sz'→R (.ok (.ret (.ref G))) ⟨h',g.push (.fresh (.func (fB (st 4)) (envG w.params C))),dr,tok',os⟩):
 codeAny (MM w) A (.call (.ref 51) ⟨[.str x t],[]⟩) R ⟨h,g,dr,tok,os⟩:=by
 have O:=VK_ok w (rules10 w.params)
 have HR:=rules10_ok (B:=700+48) (by decide) (V:=VG w) (w:=w) rfl
 refine codeAny_of_tree ?_
 show wpAny _ _ (callAny (.ref 51) ⟨[.str x t],[]⟩) _ _ _
 simp only [callAny]
 refine wpAny_bind (wpAny_load (D.stat 51 _ (look51 w.params)) ?_)
 simp only [o51_data]
 rw [callGen_eq (o51_gen _) (o51_co _),←callTF_eq]
 have hd1:(A.under (.call (.ref 51) ⟨[.str x t],[]⟩)).depth≤700:=by
  show A.depth+0≤700;exact ar14
 have hA1:(A.under (.call (.ref 51) ⟨[.str x t],[]⟩)).handled=none:=hA
 refine wpAny_bind (by_pathIR (R₀:=T) (st:=fun _=>[]) (τ:=fun _=>0) (v:=fun b ρ _=>⟨fun _=>.inl (.again (.func (fB (st 4)) (envG w.params (b+900)))),[],gF1 w.params (b+900) x⟩) O HR rfl rfl rfl (fun τ b tk ρ=>gen_enter w.params x t ρ b tk) (by decide) hd1 hA1 D hsz fun ρ sz1=>⟨c0,fun h1 tr τ1 tok1 hsz1 D1=>?_⟩)
 show wpAny _ _ (do enterFrame;ret (←newGenerator (.func (fB (st 4)) (envG w.params (sz - 900+900))) _ _):Sem Fin) _ _ _
 refine wpAny_bind (wpAny_enterFrame (O.nolimit h1 D1.stat) (by show _ < 1000;lia) ?_)
 simp only [newGenerator,newFields]
 have D2:=fun nm qn=>D1.alloc (x:=genO g.size nm qn) rfl
 refine wpAny_bind (wpAny_bind (wpAny_newGen (wpAny_bind (wpAny_mkText (wpAny_bind (wpAny_mkText (wpAny_newObj_type (wpAny_pure ?_) (by size_fits))))))))
 have hz:h1.objs.size=sz1:=D1.size
 show R (.ok (.ret (.ref h1.objs.size))) _
 rw [hz]
 exact k _ _ _ _ _ _ _ _ (ar15) (D2 _ _)
theorem Rep.reorder {V:RV} {h₀:Fr} {h:Heap} {T T':List Cell} {sz:Nat} (D:Rep V h₀ h T sz) (p:T'.Perm T):Rep V h₀ h T' sz:=by
 have pm:(T'.map (·.1)).Perm (T.map (·.1)):=p.map _
 exact .ofMem D.size (fun c hc=>D.ownM (p.mem_iff.mp hc)) (pm.nodup_iff.mpr D.nodup) D.stat (fun a ha=>D.sepM (pm.mem_iff.mp ha)) D.frame fun a ha=>D.freshM (pm.mem_iff.mp ha)
theorem Rep.extend {V:RV} {h₀:Fr} {h h':Heap} {T:List Cell} {sz:Nat} (D:Rep V h₀ h T sz) (k:∀ b o,h.get? b=some o→h'.get? b=some o):Rep V h₀ h' T h'.objs.size:=
 ⟨rfl,fun i c e=>k _ _ (D.own i c e),D.inj,fun a o e=>k _ _ (D.stat a o e),D.sep,fun b o e=>k _ _ (D.frame b o e),D.fresh⟩
theorem look912 (P:Params):(lookK P 912).isSome=true:=by kernel_rfl
theorem big_of {w:World} {h₀:Fr} {h:Heap} {T:List Cell} {sz:Nat} (D:Rep (VG w) h₀ h T sz):913≤sz:=by
 obtain ⟨o,ho⟩:=Option.isSome_iff_exists.mp (look912 w.params)
 have:912 < sz:=by rw [←D.size];exact Heap.lt_size (D.stat 912 o ho)
 exact ar16
theorem letGo_gen {w:World} {A:Around} {E:Value→Shared→Prop} {s:Shared} {t:Expr} {G U:Addr} {gi:Nat} {nm qn:Value} {Q:Unit→Shared→Prop} (ho:s.heap.get? G=some (genO gi nm qn)) (h:Q () s):wpAny (MM w) A (letOwnedTupleGo t (.ref G) (.ref U)) Q E s:=by
 unfold letOwnedTupleGo
 split
 ·refine wpAny_bind (wpAny_load ho ?_)
  exact wpAny_pure h
 ·refine wpAny_bind (wpAny_load ho ?_)
  exact wpAny_pure h
 ·exact wpAny_pure h
theorem for_turn {w:World} {A:Around} {R:Result→Shared→Prop} {s:Shared} {sm:Stmt} {it:Value} {env:Env} (hs:isTupFor sm)
 (h:wpAny (MM w) (A.under (loopC sm it env)) (pyNext it) (fun r s₁=>match r with
   | none=>codeAny (MM w) A (.block (loopElse sm) env) R s₁
   | some v=>wpAny (MM w) (A.under (loopC sm it env)) (letOwnedTupleGo (forTgt sm) it v) (fun _ s₂=>wpAny (MM w) (A.under (loopC sm it env)) (restT sm it env v) (fun fin s'=>match fin with
      | .done f=>R (.ok f) s'
      | .again c'=>c'.quiet=true∧codeAny (MM w) A c' R s') (fun _ _=>False) s₂) (fun _ _=>False) s₁) (fun _ _=>False) s):codeAny (MM w) A (loopC sm it env) R s:=by
 obtain ⟨elts,x1,tpos,iter,body,orelse,pos,rfl⟩:=hs
 refine codeAny_of_tree ?_
 show wpAny _ _ ((forTurn (.Tuple elts x1 tpos) it body orelse env).onRaise (fun x=>do noteFrame x env;theTreesLotGoes x)) _ _ _
 refine wpAny_onRaise (wpAny_mono (E:=fun _ _=>False) ?_ (fun _ _ q=>q) fun _ _ (x:False)=>x.elim)
 simp only [forTurn]
 refine wpAny_bind (wpAny_standAt (wpAny_bind (wpAny_onRaise (wpAny_mono h (fun r s₁ h₁=>?_) fun _ _ (x:False)=>x.elim))))
 cases r with
 | none=>exact wpAny_pure ⟨rfl,h₁⟩
 | some v=>
   refine wpAny_bind (wpAny_mono h₁ (fun _ s₂ h₂=>?_) fun _ _ (x:False)=>x.elim)
   rw [restT_eq] at h₂
   exact h₂
noncomputable def stripStep (x:Str) (S:Int×Option Int×List Str) (y:Nat×Str):Int×Option Int×List Str:=
 if y.2=⟨⟨[34]⟩⟩ then match S.2.1 with
  | none=>(S.1,some (y.1:Int),S.2.2)
  | some o=>if S.1≠o then ((y.1:Int)+1,none,S.2.2++[Txt.slice x (some S.1) (some o)]) else ((y.1:Int)+1,none,S.2.2)
 else S
noncomputable def sX (P:Params) (L RL:Nat) (x:Str) (s0:Int) (op:Option Int) (p:Int) (c:Str) (rs:List Value) (e:Nat):St:=match op with
 | none=>sN P L RL x s0 p c rs e
 | some o=>sO P L RL x s0 o p c rs e
theorem sX_shape (P:Params) (L RL:Nat) (x:Str) (s0:Int) (op:Option Int) (p:Int) (c:Str) (rs:List Value) (e:Nat) (τ:Nat→Tok):∃ F,sX P L RL x s0 op p c rs e τ=[(L,F),(RL,seqO "list" rs e)]:=by
 cases op <;> exact ⟨_,rfl⟩
noncomputable def sSt:Stmt:=stm (st 5) 4
theorem sS_for:isTupFor sSt:=⟨_,_,_,_,_,_,_,rfl⟩
theorem sS_else:loopElse sSt=[]:=by kernel_rfl
theorem codeS_q (P:Params) (L G:Nat):(codeS P L G).quiet=true:=by kernel_rfl
theorem codeS_w (P:Params) (L G:Nat):(codeS P L G).weight≤4:=Nat.le_of_ble_eq_true (by kernel_rfl)
section
variable {w:World} {h₀:Fr} {x:Str} {A:Around} {L RL G gi:Nat} {nm qn:Value} {ys:List (Nat×Str)} {R:Result→Shared→Prop} {dr:Drawn} {os:OsState}
noncomputable def GA (w:World) (h₀:Fr) (Rs:List Nat) (ys:List (Nat×Str)) (A:Around) (n:Nat) (gs:GenState) (T:List Cell):Prop:=
 ∀ s'' sz'',913≤sz''→Rep (VG w) (frR h₀ Rs s''.heap) s''.heap T sz''→gs.Goes (MM w) A (RG (VG w) h₀ Rs) (YG (VG w) h₀ Rs ys) n (.send .none) s''
theorem perm3 {α:Type} (u a b c:α) (T:List α):([u,a,b]++(T++[c])).Perm ((u::T)++[a,b,c]):=by
 show (u::a::b::(T++[c])).Perm (u::(T++[a,b,c]))
 refine .cons u ?_
 exact ((List.Perm.cons a (List.perm_middle (l₁:=T) (a:=b) (l₂:=[c])).symm).trans (List.perm_middle (l₁:=T) (a:=a) (l₂:=[b,c])).symm)
theorem perm2 {α:Type} (a b c:α) (T:List α):(T++[a,b,c]).Perm ([a,b]++(T++[c])):=
 (List.perm_middle (l₁:=T) (a:=a) (l₂:=[b,c])).trans (List.Perm.cons a (List.perm_middle (l₁:=T) (a:=b) (l₂:=[c])))
theorem next_gen {B:Around} {Q:Option Value→Shared→Prop} {E:Value→Shared→Prop} (hd:B.depth≤600) (hA:B.handled=none) {n:Nat} {gs:GenState} {T:List Cell} {F RO:Obj} {h:Heap} {g:Array GenState} {tok sz:Nat}
 (hgs:g[gi]? =some gs) (ga:GA w h₀ [L,RL,G] ys B.in1 n gs T) (hsz:913≤sz) (D:Rep (VG w) h₀ h (T++[(L,F),(RL,RO),(G,genO gi nm qn)]) sz)
 (hS:∀ m,n=m+1→∀ h1 g1 gs' T' U tk1 sz1 pt t1 t2,GenOnly gi g g1→ys[ys.length - 1 - m]? =some pt→913≤sz1→g1[gi]? =some gs'→GA w h₀ [L,RL,G] ys B.in1 m gs' T'→Rep (VG w) h₀ h1 (((U,seqO "tuple" [.int ((pt:Nat×Str).1:Int) t1,.str pt.2 t2] 0)::T')++[(L,F),(RL,RO),(G,genO gi nm qn)]) sz1→
   Q (some (.ref U)) ⟨h1,g1,dr,tk1,os⟩)
 (hE:n=0→∀ h1 g1 tk1 sz1,(GenOnly gi g g1∧∀ x,g1[gi]? =some x→x.bare=true)→913≤sz1→Rep (VG w) h₀ h1 [(L,F),(RL,RO),(G,genO gi nm qn)] sz1→Q none ⟨h1,g1,dr,tk1,os⟩):
 wpAny (MM w) B (pyNext (.ref G)) Q E ⟨h,g,dr,tok,os⟩:=by
 have O:=VK_ok w (rules10 w.params)
 have DG:=D.toGen
 have hG:h.get? G=some (genO gi nm qn):=D.ownM (c:=(G,genO gi nm qn)) (by simp)
 refine wpAny_pyNext_gen (P:=PG (VG w) h₀ [L,RL,G]) (Y:=YG (VG w) h₀ [L,RL,G] ys) (n:=n) hA (O.nolimit h D.stat) (by show _ < 1000;lia) (g:=gi) ⟨_,_,_,hG,rfl,rfl,rfl⟩ hgs (ga _ sz hsz DG) (fun v s₁ gs' hY=>?_) (fun s₁ hP h' hk=>?_)
 ·obtain ⟨T',U,tk,sz1,pt,t1,t2,rfl,hi,hsz1,hs1,D1,kap⟩:=hY
  obtain ⟨h1,g1,d1,k1,o1⟩:=s₁
  cases hs1
  have D2:=D.ofGen D1
  cases n with
  | zero=>
    have D3:Rep (VG w) h₀ h1 (T'++[(L,F),(RL,RO),(G,genO gi nm qn)]) sz1:=D2.drop (X:=[(U,_)])
    exact (kap ⟨h1,g,dr,tk,os⟩ sz1 hsz1 D3.toGen).elim
  | succ m=>
    exact hS m rfl h1 _ gs' T' U tk sz1 pt t1 t2 ((GenOnly.setGen (⟨h1,g,dr,tk,os⟩:Shared) gi .running).trans (GenOnly.setGen ((⟨h1,g,dr,tk,os⟩:Shared).setGen gi .running) gi gs')) hi hsz1 (setGen_self (s:=(⟨h1,g,dr,tk,os⟩:Shared).setGen gi .running) (gs:=.running) (setGen_self (s:=⟨h1,g,dr,tk,os⟩) hgs)) (fun s'' sz'' z D''=>kap s'' sz'' z D'') D2
 ·obtain ⟨hn,tk,sz1,hs1,hsz1,D1⟩:=hP
  obtain ⟨h1,g1,d1,k1,o1⟩:=s₁
  cases hs1
  have D2:=(D.ofGen D1).extend hk
  exact hE hn h' _ tk _ ⟨(GenOnly.setGen (⟨h1,g,dr,tk,os⟩:Shared) gi .running).trans (GenOnly.setGen ((⟨h1,g,dr,tk,os⟩:Shared).setGen gi .running) gi .finished),fun x hx=>by have hx':=(setGen_self (s:=(⟨h1,g,dr,tk,os⟩:Shared).setGen gi .running) (gs:=.running) (x:=.finished) (setGen_self (s:=⟨h1,g,dr,tk,os⟩) hgs)).symm.trans hx;cases hx';rfl⟩ (big_of D2) D2
theorem str_loop {ga:Array GenState} (hd:A.depth≤590) (hA:A.handled=none) (hx:x.length≤sizeLine)
 (hR:∀ h' g' tok' sz' τ' rs' e' (s0':Int) (p:Int) (c:Str),GenOnlyQ gi ga g'→AllS rs'→ys.foldl (stripStep x) (0,none,[])=(s0',none,txs rs')→913≤sz'→Rep (VG w) h₀ h' (sN w.params L RL x s0' p c rs' e' τ'++[(G,genO gi nm qn)]) sz'→R (.ok .next) ⟨h',g',dr,tok',os⟩):
 ∀ (l pre:List (Nat×Str)),ys=pre++l→∀ (s0:Int) (op:Option Int) (rs:List Value),AllS rs→pre.foldl (stripStep x) (0,none,[])=(s0,op,txs rs)→(l.foldl (stripStep x) (s0,op,txs rs)).2.1=none→rs.length+l.length < sizeLine→
  ∀ (p0:Int) (c0':Str) (e:Nat) (h:Heap) (g:Array GenState) (tok sz:Nat) (τ:Nat→Tok) (gs:GenState) (T:List Cell),GenOnly gi ga g→g[gi]? =some gs→GA w h₀ [L,RL,G] ys (A.under (codeS w.params L G)).in1 l.length gs T→913≤sz→
   Rep (VG w) h₀ h (T++(sX w.params L RL x s0 op p0 c0' rs e τ++[(G,genO gi nm qn)])) sz→codeAny (MM w) A (codeS w.params L G) R ⟨h,g,dr,tok,os⟩:=by
 have O:=VK_ok w (rules10 w.params)
 have HR:=rules10_ok (B:=700+48) (by decide) (V:=VG w) (w:=w) rfl
 have hw:=codeS_w w.params L G
 have hd1:(A.under (codeS w.params L G)).depth≤600:=by show A.depth+_≤600;lia
 have hA1:(A.under (codeS w.params L G)).handled=none:=hA
 intro l
 induction l with
 | nil=>
   intro pre hys s0 op rs hAS hf hop hlen p0 c0' e h g tok sz τ gs T hgo hgs ga hsz D
   obtain rfl:op=none:=hop
   refine for_turn sS_for ?_
   refine next_gen hd1 hA1 hgs ga hsz D (fun m hm=>absurd hm (by simp)) (fun _ h1 g1 tk1 sz1 hgq hsz1 D1=>?_)
   show codeAny _ _ (.block (loopElse sSt) _) _ _
   rw [sS_else]
   refine codeAny_block ?_
   rw [show execs [] _=pure PySem.Flow.next from PySem.execs.eq_1 _]
   exact wpAny_pure (hR h1 g1 tk1 sz1 τ rs e s0 p0 c0' (.inr ⟨hgo.trans hgq.1,hgq.2⟩) hAS (by rw [hys,List.append_nil];exact hf) hsz1 D1)
 | cons y l ih=>
   intro pre hys s0 op rs hAS hf hop hlen p0 c0' e h g tok sz τ gs T hgo hgs ga hsz D
   obtain ⟨p,c⟩:=y
   have hys':ys=(pre++[(p,c)])++l:=by rw [List.append_assoc];exact hys
   have hf':(pre++[(p,c)]).foldl (stripStep x) (0,none,[])=stripStep x (s0,op,txs rs) (p,c):=by
    rw [List.foldl_append,hf];rfl
   obtain ⟨F,hF⟩:=sX_shape w.params L RL x s0 op p0 c0' rs e τ
   refine for_turn sS_for ?_
   refine next_gen hd1 hA1 hgs ga hsz (by rw [hF] at D;exact D) (fun m hm h1 g1 gs' T' U tk1 sz1 pt t1 t2 hgo1 hi hsz1 hgs' ga' D1=>?_) (fun hm=>absurd hm (by simp))
   obtain rfl:m=l.length:=by simpa using hm.symm
   have hpt:pt=(p,c):=by
    rw [hys,show (pre++(p,c)::l).length - 1 - l.length=pre.length by rw [List.length_append,List.length_cons];exact ar30,List.getElem?_append_right (Nat.le_refl _),Nat.sub_self] at hi
    exact (Option.some.inj hi).symm
   subst hpt
   show wpAny _ _ (letOwnedTupleGo (forTgt sSt) (.ref G) (.ref U)) _ _ _
   refine letGo_gen (gi:=gi) (nm:=nm) (qn:=qn) (D1.ownM (c:=(G,genO gi nm qn)) (by simp)) ?_
   have D2:=D1.reorder (perm3 (U,seqO "tuple" [.int (p:Int) t1,.str c t2] 0) (L,F) (RL,seqO "list" rs e) (G,genO gi nm qn) T')
   have D3:Rep (VG w) h₀ h1 (wU (sX w.params L RL x s0 op p0 c0' rs e) U (p:Int) c (consT t1 (consT t2 τ))++(T'++[(G,genO gi nm qn)])) sz1:=by
    show Rep (VG w) h₀ h1 ((U,_)::(sX w.params L RL x s0 op p0 c0' rs e τ++(T'++[(G,genO gi nm qn)]))) sz1
    rw [hF];exact D2
   have back:∀ (s0':Int) (op':Option Int) (rs':List Value) (e':Nat) h2 tk2 sz2 τ2,AllS rs'→rs'.length+l.length < sizeLine→stripStep x (s0,op,txs rs) (p,c)=(s0',op',txs rs')→913≤sz2→Rep (VG w) h₀ h2 (sX w.params L RL x s0' op' (p:Int) c rs' e' τ2++(T'++[(G,genO gi nm qn)])) sz2→
    (codeS w.params L G).quiet=true∧codeAny (MM w) A (codeS w.params L G) R ⟨h2,g1,dr,tk2,os⟩:=fun s0' op' rs' e' h2 tk2 sz2 τ2 hAS' hlen' hst hsz2 D4=>by
    refine ⟨codeS_q ..,ih (pre++[(p,c)]) hys' s0' op' rs' hAS' (by rw [hf',hst]) (by rw [←hst];exact hop) hlen' (p:Int) c e' h2 g1 tk2 sz2 τ2 gs' T' (hgo.trans hgo1) hgs' ga' hsz2 ?_⟩
    obtain ⟨F',hF'⟩:=sX_shape w.params L RL x s0' op' (p:Int) c rs' e' τ2
    rw [hF'] at D4⊢
    exact D4.reorder (perm2 _ _ _ _)
   have hl1:rs.length+l.length < sizeLine:=by rw [List.length_cons] at hlen;lia
   have hl2:rs.length < sizeLine:=by lia
   by_cases hc:c=⟨⟨[34]⟩⟩
   ·cases op with
    | none=>
      refine by_pathIR O HR rfl rfl rfl (fun τ b tk ρ=>str_w2 w.params L RL G U x s0 0 p0 c0' (p:Int) c rs e ρ τ b tk) (by decide) (Nat.le_trans hd1 (by decide)) hA1 D3 hsz1 fun ρ sz2=>⟨cC hc c0,fun h2 tr2 τ2 tok2 hsz2 D4=>?_⟩
      exact back s0 (some (p:Int)) rs e h2 tok2 sz2 τ2 hAS hl1 (by unfold stripStep;rw [if_pos hc]) hsz2 D4
    | some o=>
      by_cases hne:s0≠o
      ·refine by_pathIR O HR rfl rfl rfl (fun τ b tk ρ=>str_w3 w.params L RL G U x s0 o p0 c0' (p:Int) c rs e ρ τ b tk) (by decide) (Nat.le_trans hd1 (by decide)) hA1 D3 hsz1 fun ρ sz2=>⟨cC hl2 (cC hx (cC hne (cC hc c0))),fun h2 tr2 τ2 tok2 hsz2 D4=>?_⟩
       exact back ((p:Int)+1) none (rs++[Value.str (Txt.slice x (some s0) (some o)) (ρ.u 2 0)]) (ρ.u 3 0) h2 tok2 sz2 τ2 (hAS.append (.cons .nil)) (by rw [List.length_append];show rs.length+1+_ < _;rw [List.length_cons] at hlen;lia) (by unfold stripStep;rw [if_pos hc];show (if s0≠o then _ else _)=_;rw [if_pos hne,txs_append];rfl) hsz2 D4
      ·refine by_pathIR O HR rfl rfl rfl (fun τ b tk ρ=>str_w4 w.params L RL G U x s0 o p0 c0' (p:Int) c rs e ρ τ b tk) (by decide) (Nat.le_trans hd1 (by decide)) hA1 D3 hsz1 fun ρ sz2=>⟨cC hne (cC hc c0),fun h2 tr2 τ2 tok2 hsz2 D4=>?_⟩
       exact back ((p:Int)+1) none rs e h2 tok2 sz2 τ2 hAS hl1 (by unfold stripStep;rw [if_pos hc];show (if s0≠o then _ else _)=_;rw [if_neg hne]) hsz2 D4
   ·have hst:stripStep x (s0,op,txs rs) (p,c)=(s0,op,txs rs):=by unfold stripStep;rw [if_neg hc]
    cases op with
    | none=>
      refine by_pathIR O HR rfl rfl rfl (fun τ b tk ρ=>str_w1 w.params L RL G U x s0 0 p0 c0' (p:Int) c rs e ρ τ b tk) (by decide) (Nat.le_trans hd1 (by decide)) hA1 D3 hsz1 fun ρ sz2=>⟨cC hc c0,fun h2 tr2 τ2 tok2 hsz2 D4=>?_⟩
      exact back s0 none rs e h2 tok2 sz2 τ2 hAS hl1 hst hsz2 D4
    | some o=>
      refine by_pathIR O HR rfl rfl rfl (fun τ b tk ρ=>str_w1o w.params L RL G U x s0 o p0 c0' (p:Int) c rs e ρ τ b tk) (by decide) (Nat.le_trans hd1 (by decide)) hA1 D3 hsz1 fun ρ sz2=>⟨cC hc c0,fun h2 tr2 τ2 tok2 hsz2 D4=>?_⟩
      exact back s0 (some o) rs e h2 tok2 sz2 τ2 hAS hl1 hst hsz2 D4
end
theorem by_pathIS {V:RV} {B:Nat} {w:World} {A:Around} {h₀:Fr} {h:Heap} {g:Array GenState} {dr:Drawn} {os:OsState} {Q:PFin→Shared→Prop} {E:Value→Shared→Prop} (O:VOk V pw_il0098_01 w)
 (HR:∀ i R,V.rules i=some R→RuleOk (B+48) V pw_il0098_01 w R) (hk:V.keepG=true) (hfr:V.fr=none) {n:Nat} {t:Sem PFin} {is:List Nat} (hn:nodupB is=true) {S R₀:List Cell} {sz tk:Nat} {o:Orc} {v:Nat→Unk→Nat→Want}
 (path:∀ b tk ρ,PathI is (v b ρ) (runV V ρ n t S b tk o))
 (hB:B≤800) (hd:A.depth≤B) (hA:A.handled=none) (D:Rep V h₀ h (S++R₀) sz) (hsz:913≤sz)
 (fin:∀ ρ sz',(∀ p∈(v (sz - 900) ρ sz').conds,p)∧∀ h' tr τ' tok',913≤sz'→Rep V h₀ h' ((v (sz - 900) ρ sz').st τ'++R₀) sz'→(match (v (sz - 900) ρ sz').r tr with
   | .inl fin=>Q fin ⟨h',g,dr,tok',os⟩
   | .inr e=>E e ⟨h',g,dr,tok',os⟩))
 (HV:∀ i R,V.rv i=some R→RuleVOk (B+48) V pw_il0098_01 w R:=by intro i R e;exact nomatch (show (none:Option ERuleV)=some R from e)):
 wpAny (MM w) A t Q E ⟨h,g,dr,tk,os⟩:=
 by_pathIR (st:=fun _=>S) (τ:=fun _=>0) O HR hk hfr hn (fun _ b tk ρ=>path b tk ρ) hB hd hA D hsz fin HV
theorem codeS_eq (P:Params) (L G:Nat):codeS P L G= .forLoop (forTgt sSt) (.ref G) (forBody sSt) (loopElse sSt) (envS P L):=by
 obtain ⟨elts,x1,tp,iter,body,orelse,pos,hs⟩:=sS_for
 show loopC sSt _ _=_
 rw [hs];rfl
theorem sS_eq:∃ pos,sSt= .For (forTgt sSt) (forIter sSt) (forBody sSt) (loopElse sSt) pos:=by
 obtain ⟨elts,x1,tp,iter,body,orelse,pos,hs⟩:=sS_for
 exact ⟨pos,by rw [hs];rfl⟩
theorem sS_call:∃ id p y q pos,forIter sSt= .Call (.Name id p) [.Name y q] [] pos∧callFn (forIter sSt)= .Name id p∧callArg (forIter sSt)= .Name y q:=⟨_,_,_,_,_,rfl,rfl,rfl⟩
theorem sS_fold (P:Params) (L:Nat) (x:Value):foldedSetIterable (forIter sSt) (envS P L) x=pure x:=by kernel_rfl
theorem bodyS_eq:fB (st 5)=(fB (st 5)).take 4++(sSt::(fB (st 5)).drop 5):=by kernel_rfl
theorem o58_plain (P:Params):plainFn (fdO (o58 P))=true:=by kernel_rfl
theorem funcS_q (P:Params) (L:Nat):(Code.func (fB (st 5)) (envS P L)).quiet=true:=by kernel_rfl
noncomputable def stripF (x:Str):Int×Option Int×List Str:=(genY 0 false x.cps.toList).foldl (stripStep x) (0,none,[])
noncomputable def stripT (x:Str):Str:=Builtin.Str.glued ⟨⟨[]⟩⟩ ((stripF x).2.2++[Txt.slice x (some (stripF x).1) none])
noncomputable def stripCS (x:Str) (t:Tok):LSpec where
 c₀:=.call (.ref 58) ⟨[.str x t],[]⟩
 st:=fun _=>[]
 conds:=[x.length≤sizeLine,x.cps.all (· < 128)=true,hasB x ⟨⟨[34]⟩⟩,x.cps.toList.head? =some 39,genE false x.cps.toList=false,(stripF x).2.1=none,(genY 0 false x.cps.toList).length < sizeLine,(stripF x).2.2.length < sizeLine,(stripF x).1 < (x.length:Int),
  Builtin.Str.tooLong (((stripF x).2.2++[Txt.slice x (some (stripF x).1) none]).toArray.foldl (·+·.length+(⟨⟨[]⟩⟩:Str).length) 0)=false,(stripT x).length≤sizeLine]
 r:=fun _ u=>.ok (.ret (.str (stripT x) (u 0)))
 st':=fun _ _=>[]
noncomputable def stripC0 (x:Str) (t:Tok):LSpec where
 c₀:=.call (.ref 58) ⟨[.str x t],[]⟩
 st:=fun _=>[]
 conds:=[¬hasB x ⟨⟨[34]⟩⟩]
 r:=fun _ u=>.ok (.ret (.str x t))
 st':=fun _ _=>[]
theorem stripC0_ok {B:Nat} (hB:B≤700) {w:World} (x:Str) (t:Tok):LoopOk B (VK w.params (rules10 w.params)) w (stripC0 x t):=by
 refine LF.toSpec rfl fun hc=>?_
 exact LF.call (VK_ok w (rules10 w.params)) (rules10_ok (B:=B+48) (ar14) rfl) (ar13) rfl (fun τ b tk ρ=>str_plain w.params x t ρ τ b tk) (fun ρ sz=>⟨hc,fun hsz tr τ=>⟨fun _=>0,rfl,rfl⟩⟩)
theorem stripCS_ok {B:Nat} (hB:B≤500) {w:World} (x:Str) (t:Tok):LoopOk B (VL w.params (rules10 w.params)) w (stripCS x t):=by
 refine LF.toSpec rfl fun hc=>?_
 have hx:x.length≤sizeLine:=hc _ (.head _)
 have ha:x.cps.all (· < 128)=true:=hc _ (.tail _ (.head _))
 have hq:hasB x ⟨⟨[34]⟩⟩:=hc _ (.tail _ (.tail _ (.head _)))
 have hh:x.cps.toList.head? =some 39:=hc _ (.tail _ (.tail _ (.tail _ (.head _))))
 have hE:genE false x.cps.toList=false:=hc _ (.tail _ (.tail _ (.tail _ (.tail _ (.head _)))))
 have hop:(stripF x).2.1=none:=hc _ (.tail _ (.tail _ (.tail _ (.tail _ (.tail _ (.head _))))))
 have hl:(genY 0 false x.cps.toList).length < sizeLine:=hc _ (.tail _ (.tail _ (.tail _ (.tail _ (.tail _ (.tail _ (.head _)))))))
 have hl2:(stripF x).2.2.length < sizeLine:=hc _ (.tail _ (.tail _ (.tail _ (.tail _ (.tail _ (.tail _ (.tail _ (.head _))))))))
 have hlt:(stripF x).1 < (x.length:Int):=hc _ (.tail _ (.tail _ (.tail _ (.tail _ (.tail _ (.tail _ (.tail _ (.tail _ (.head _)))))))))
 have htl:Builtin.Str.tooLong (((stripF x).2.2++[Txt.slice x (some (stripF x).1) none]).toArray.foldl (·+·.length+(⟨⟨[]⟩⟩:Str).length) 0)=false:=hc _ (.tail _ (.tail _ (.tail _ (.tail _ (.tail _ (.tail _ (.tail _ (.tail _ (.tail _ (.head _))))))))))
 have hgl:(stripT x).length≤sizeLine:=hc _ (.tail _ (.tail _ (.tail _ (.tail _ (.tail _ (.tail _ (.tail _ (.tail _ (.tail _ (.tail _ (.head _)))))))))))
 obtain ⟨r,hr⟩:∃ r,x.cps.toList=39::r:=by
  revert hh
  cases x.cps.toList with
  | nil=>intro hh;cases hh
  | cons a r=>intro hh;cases hh;exact ⟨r,rfl⟩
 have hlen:x.length≠0:=by
  show x.cps.size≠0
  rw [←Array.length_toList,hr];exact Nat.succ_ne_zero _
 intro τ A h₀ h b g dr tok os hfr hA hd hb D0
 have D:Rep (VG w) h₀ h ([]++[]) (b+900):=Rep.cast (V:=VL w.params (rules10 w.params)) (V':=VG w) rfl D0
 have hsz:913≤b+900:=ar10
 have O:=VK_ok w (rules10 w.params)
 have HR:=rules10_ok (B:=700+48) (by decide) (V:=VG w) (w:=w) rfl
 refine codeAny_of_tree ?_
 show wpAny _ _ (callAny (.ref 58) ⟨[.str x t],[]⟩) _ _ _
 simp only [callAny]
 refine wpAny_bind (wpAny_load (D.stat 58 _ (look58 w.params)) ?_)
 simp only [o58_data]
 rw [callFunction_eq (o58_plain _),←callTF_eq]
 show wpAny _ _ ((callTF _ _ _).bind fun fin=>Sem.bind enterFrame fun _=>.pure fin) _ _ _
 have hd1:(A.under (.call (.ref 58) ⟨[.str x t],[]⟩)).depth≤700:=by
  show A.depth+0≤700;lia
 have hA1:(A.under (.call (.ref 58) ⟨[.str x t],[]⟩)).handled=none:=hA
 refine wpAny_bind (by_pathIR (R₀:=[]) (st:=fun _=>[]) (τ:=fun _=>0) (v:=fun b ρ _=>⟨fun _=>.inl (.again (.func (fB (st 5)) (envS w.params (b+900)))),[],sF1 w.params (b+900) x⟩) O HR rfl rfl rfl (fun τ b tk ρ=>str_enter w.params x t ρ b tk) (by decide) hd1 hA1 D hsz fun ρ sz1=>⟨c0,fun h1 tr τ1 tok1 hsz1 D1=>?_⟩)
 generalize b+900 - 900+900=L at D1⊢
 refine wpAny_bind (wpAny_enterFrame (O.nolimit h1 D1.stat) (Nat.lt_of_le_of_lt hd1 (by decide)) (wpAny_pure ⟨funcS_q ..,?_⟩))
 refine codeAny_func ?_
 refine wpAny_mono (E:=fun _ _=>False) ?_ (fun _ _ q=>q) fun _ _ (q:False)=>q.elim
 have hd2:(A.deeper (envS w.params L)).depth≤510:=by show A.depth+1≤510;lia
 have hd2':(A.deeper (envS w.params L)).depth≤700:=ar13
 have hA2:(A.deeper (envS w.params L)).handled=none:=hA
 rw [show execs (fB (st 5)) (envS w.params L)=execs ((fB (st 5)).take 4++(sSt::(fB (st 5)).drop 5)) (envS w.params L) from congrArg (execs · _) bodyS_eq]
 refine wpAny_execs_app (wp_execsT1 (by_pathIR O HR rfl rfl rfl (fun τ b tk ρ=>str_pre w.params L x ρ τ b tk) (by decide) hd2' hA2 D1 hsz1 fun ρ2 sz2=>⟨cC hq c0,fun h2 tr2 τ2 tok2 hsz2 D2=>?_⟩))
 show wpAny _ _ (execs (sSt::(fB (st 5)).drop 5) (envS w.params L)) _ _ _
 have D2:Rep (VG w) h₀ h2 (sF4 w.params L (ρ2.b 0+900) x [] 0 τ2++[]) sz2:=D2
 generalize ρ2.b 0+900=RL at D2
 obtain ⟨pos,hs⟩:=sS_eq
 obtain ⟨id,p,y,q,pos2,hi,hf,hg⟩:=sS_call
 refine wpAny_execs_cons ?_
 conv=>rw [hs]
 refine wpAny_For ?_ (sS_fold w.params L)
 conv=>rw [hi]
 refine wpAny_Call_Name_kw ?_
 rw [←hf]
 refine wp_evalT1 (by_pathIR O HR rfl rfl rfl (fun τ b tk ρ=>str_callee w.params L RL x [] 0 ρ τ b tk) (by decide) hd2' hA2 D2 hsz2 fun ρ3 sz3=>⟨c0,fun h3 tr3 τ3 tok3 hsz3 D3=>?_⟩)
 show wpAny _ _ (callWith pos2 (.ref 51) [] [(false,eval (.Name y q) (envS w.params L))] []) _ _ _
 refine callWith_function (o:=o51 w.params) (fd:=fdO (o51 w.params)) (evalArgs_plain (spliced_cons ?_))
 rw [←hg]
 refine wp_evalT1 (by_pathIS (v:=fun b ρ _=>⟨(fun _=>.inl (.done (.ret (.str x (τ3 1))))),[],fun _=>sF4 w.params L RL x [] 0 τ3⟩) O HR rfl rfl rfl (fun b tk ρ=>str_arg w.params L RL x [] 0 ρ τ3 b tk) (by decide) hd2' hA2 D3 hsz3 fun ρ4 sz4=>⟨c0,fun h4 tr4 τ4 tok4 hsz4 D4=>?_⟩)
 show wpAny _ _ (spliced []) _ _ _
 refine spliced_nil ⟨⟨D4.stat 51 _ (look51 w.params),o51_data _⟩,wpAny_call ?_⟩
 refine gen_make (A:=A.deeper (envS w.params L)) (by lia) hA2 D4 hsz4 fun h5 C G tok5 sz5 τ5 nm qn hsz5 D5=>?_
 show wpAny _ _ (pyIter (.ref G)) _ _ _
 refine wpAny_pyIter_gen (g:=g.size) ⟨_,nm,qn,D5.ownM (c:=(G,genO g.size nm qn)) (by simp),rfl,rfl,rfl⟩ ?_
 rw [←codeS_eq]
 have D6:Rep (VG w) h₀ h5 (gF1 w.params C x τ5++(sF4 w.params L RL x [] 0 τ3++[(G,genO g.size nm qn)])) sz5:=D5.reorder (by
  show ([_]++([_,_]++[_])).Perm (_::([_]++([_,_]++[])))
  exact (List.perm_append_comm (l₁:=[_,_,_]) (l₂:=[(G,genO g.size nm qn)])))
 have hyr:genY 0 false x.cps.toList=(0,one 39)::genY 1 false r:=by rw [hr];rfl
 have hd3:(A.deeper (envS w.params L)).depth≤590:=by lia
 have hdc:((A.deeper (envS w.params L)).under (codeS w.params L G)).depth≤600:=by
  have:=codeS_w w.params L G
  show (A.deeper (envS w.params L)).depth+_≤600
  lia
 have ga:GA w h₀ [L,RL,G] (genY 0 false x.cps.toList) ((A.deeper (envS w.params L)).under (codeS w.params L G)).in1 (genY 0 false x.cps.toList).length (.fresh (.func (fB (st 4)) (envG w.params C))) (gF1 w.params C x τ5):=fun s'' sz'' hz D''=>by
  rw [hr] at hE⊢
  exact gen_start (A:=((A.deeper (envS w.params L)).under (codeS w.params L G)).in1) (by exact hdc) hA2 hr hE ha s'' sz'' τ5 hz D''
 have fin:∀ (h':Heap) (g':Array GenState) (tok' sz':Nat) (τ':Nat→Tok) (rs':List Value) (e':Nat) (s0':Int) (p':Int) (c':Str),GenOnlyQ g.size (g.push (.fresh (.func (fB (st 4)) (envG w.params C)))) g'→AllS rs'→(genY 0 false x.cps.toList).foldl (stripStep x) (0,none,[])=(s0',none,txs rs')→913≤sz'→
  Rep (VG w) h₀ h' (sN w.params L RL x s0' p' c' rs' e' τ'++[(G,genO g.size nm qn)]) sz'→wpAny (MM w) (A.deeper (envS w.params L)) (execs ((fB (st 5)).drop 5) (envS w.params L)) (fun f s'=>LR (VL w.params (rules10 w.params)) (PostS (stripCS x t)) h₀ g dr os (.ok (.ret (match f with | .ret v=>v | _=>.none))) s') (fun _ _=>False) ⟨h',g',dr,tok',os⟩:=by
  intro h' g' tok' sz' τ' rs' e' s0' p' c' hgq hAS hfo hsz' D'
  have e1:(stripF x).1=s0':=by unfold stripF;rw [hfo]
  have e2:(stripF x).2.2=txs rs':=by unfold stripF;rw [hfo]
  have et:∀ u,txs (rs'++[Value.str (Txt.slice x (some s0') none) u])=(stripF x).2.2++[Txt.slice x (some (stripF x).1) none]:=fun u=>by rw [txs_append,e1,e2];rfl
  refine wp_execsT1 (by_pathIR O HR rfl rfl rfl (fun τ b tk ρ=>str_end w.params L RL G 0 x s0' 0 0 ⟨⟨[]⟩⟩ p' c' rs' e' ρ τ b tk) (by decide) hd2' hA2 D' hsz' fun ρ7 sz7=>⟨?_,fun h7 tr7 τ7 tok7 hsz7 D7=>?_⟩)
  ·refine cC (hAS.append (.cons .nil)) (cC ?_ (cC ?_ (cC ?_ (cC hx (cC ?_ (cC (sizeLine_lt hx) (cC hlen c0)))))))
   ·rw [et];exact htl
   ·rw [et];exact hgl
   ·rw [e2,txs_len] at hl2;exact hl2
   ·rw [e1] at hlt
    rw [show Nat.succ (x.length - 1)=x.length by exact ar29];exact hlt
  ·refine ⟨[],sz7 - 900,tok7,g',⟨consT tr7 fun _=>0,?_,rfl⟩,?_,ar2,⟨(fun k=>nomatch k),fun hb=>AllBare.moved (AllBare.push hb rfl) hgq⟩,rfl⟩
   ·show Except.ok (Flow.ret (Value.str (stripT x) tr7))=Except.ok (Flow.ret (Value.str _ tr7))
    rw [et];rfl
   ·rw [show sz7 - 900+900=sz7 by exact ar1]
    exact Rep.cast (V:=VG w) (V':=VL w.params (rules10 w.params)) rfl (D7.sub (List.nil_sublist _))
 refine for_turn sS_for ?_
 have hgs:(g.push (.fresh (.func (fB (st 4)) (envG w.params C))))[g.size]? =some (.fresh (.func (fB (st 4)) (envG w.params C))):=Array.getElem?_push_size ..
 refine next_gen hdc hA2 hgs ga hsz5 D6 (fun m hm h6 g6 gs6 T6 U tk6 sz6 pt t1 t2 hgo6 hi hsz6 hgs6 ga6 D7=>?_) (fun hm=>by rw [hyr] at hm;cases hm)
 have hm':m=(genY 1 false r).length:=by rw [hyr] at hm;simpa using hm.symm
 have hpt:pt=(0,one 39):=by
  rw [hyr,hm',show ((0,one 39)::genY 1 false r).length - 1 - (genY 1 false r).length=0 by rw [List.length_cons];exact ar31] at hi
  exact (Option.some.inj hi).symm
 subst hpt hm'
 show wpAny _ _ (letOwnedTupleGo (forTgt sSt) (.ref G) (.ref U)) _ _ _
 refine letGo_gen (gi:=g.size) (nm:=nm) (qn:=qn) (D7.ownM (c:=(G,genO g.size nm qn)) (by simp)) ?_
 have D8:=D7.reorder (perm3 (U,seqO "tuple" [.int ((0:Nat):Int) t1,.str (one 39) t2] 0) _ (RL,seqO "list" [] 0) (G,genO g.size nm qn) T6)
 have D9:Rep (VG w) h₀ h6 (wU (sF4 w.params L RL x [] 0) U ((0:Nat):Int) (one 39) (consT t1 (consT t2 τ3))++(T6++[(G,genO g.size nm qn)])) sz6:=D8
 refine by_pathIR O HR rfl rfl rfl (fun τ b tk ρ=>str_w1f w.params L RL G U x 0 0 0 ⟨⟨[]⟩⟩ ((0:Nat):Int) (one 39) [] 0 ρ τ b tk) (by decide) (Nat.le_trans hdc (by decide)) hA2 D9 hsz6 fun ρ7 sz7=>⟨cC (by unfold one;decide) c0,fun h7 tr7 τ7 tok7 hsz7 D10=>?_⟩
 refine ⟨codeS_q ..,?_⟩
 have hstep:stripStep x (0,none,[]) (0,one 39)=(0,none,[]):=by unfold stripStep;rw [if_neg (by unfold one;decide)]
 refine str_loop (w:=w) (x:=x) (ys:=genY 0 false x.cps.toList) (ga:=g.push (.fresh (.func (fB (st 4)) (envG w.params C)))) hd3 hA2 hx (fun h' g' tok' sz' τ' rs' e' s0' p' c' hgq hAS hfo hsz' D'=>fin h' g' tok' sz' τ' rs' e' s0' p' c' hgq hAS hfo hsz' D') (genY 1 false r) [(0,one 39)] hyr 0 none [] .nil hstep ?_ (by rw [hyr,List.length_cons] at hl;show 0+_ < _;lia) ((0:Nat):Int) (one 39) 0 h7 g6 tok7 sz7 τ7 gs6 T6 hgo6 hgs6 ga6 hsz7 ?_
 ·have:=hop
  unfold stripF at this
  rw [hyr,List.foldl_cons,hstep] at this
  exact this
 ·exact D10.reorder (perm2 _ _ _ _)
theorem by_pathIF {V:RV} {B:Nat} {w:World} {A:Around} {h₀:Fr} {h:Heap} {g:Array GenState} {dr:Drawn} {os:OsState} {Q:PFin→Shared→Prop} {E:Value→Shared→Prop} (O:VOk V pw_il0098_01 w)
 (HR:∀ i R,V.rules i=some R→RuleOk (B+48) V pw_il0098_01 w R) (HV:∀ i R,V.rv i=some R→RuleVOk (B+48) V pw_il0098_01 w R) (hk:V.keepG=true) (hfr:FrOk V.fr A) {n:Nat} {t:Sem PFin} {is:List Nat} (hn:nodupB is=true) {S R₀:List Cell} {sz tk:Nat} {o:Orc} {v:Nat→Unk→Nat→Want}
 (path:∀ b tk ρ,PathI is (v b ρ) (runV V ρ n t S b tk o))
 (hB:B≤800) (hd:A.depth≤B) (hA:A.handled=none) (D:Rep V h₀ h (S++R₀) sz) (hsz:913≤sz)
 (fin:∀ ρ sz',(∀ p∈(v (sz - 900) ρ sz').conds,p)∧∀ h' tr τ' tok',913≤sz'→Rep V h₀ h' ((v (sz - 900) ρ sz').st τ'++R₀) sz'→(match (v (sz - 900) ρ sz').r tr with
   | .inl fin=>Q fin ⟨h',g,dr,tok',os⟩
   | .inr e=>E e ⟨h',g,dr,tok',os⟩)):
 wpAny (MM w) A t Q E ⟨h,g,dr,tk,os⟩:=by
 refine by_pathI (hfr:=hfr) (HV:=HV) O HR hn (fun ρ=>path (sz - 900) tk ρ) hB ⟨hd,hA⟩ (h₀:=frOf h S) (by rw [show sz - 900+900=sz by exact ar1];exact D.base) (by exact ar2) fun ρ sz'=>⟨(fin ρ sz').1,fun h' g' tr τ' tok' hsz' hg D'=>?_⟩
 obtain rfl:=hg.1 hk
 exact (fin ρ sz').2 h' tr τ' tok' hsz' (D.glue D')
theorem tkR_suf:∀ (l:List Nat) (m:Md) (q:Bool) (t:Str) (te:TE),tkR m q t l=some te→(∃ pre,l=pre++te.l)∧(te.e=true→te.l=[])
 | [],.A,q,t,te,h=>by cases h;exact ⟨⟨[],rfl⟩,fun _=>rfl⟩
 | [],.Q,q,t,te,h=>by cases h
 | [],.E,q,t,te,h=>by cases h
 | c::l,.A,q,t,te,h=>by
   unfold tkR at h
   split at h
   ·cases h;exact ⟨⟨[c],rfl⟩,fun h=>nomatch h⟩
   ·split at h
    ·obtain ⟨⟨p,hp⟩,k⟩:=tkR_suf l _ _ _ _ h;exact ⟨⟨c::p,by rw [hp];rfl⟩,k⟩
    ·split at h
     ·obtain ⟨⟨p,hp⟩,k⟩:=tkR_suf l _ _ _ _ h;exact ⟨⟨c::p,by rw [hp];rfl⟩,k⟩
     ·obtain ⟨⟨p,hp⟩,k⟩:=tkR_suf l _ _ _ _ h;exact ⟨⟨c::p,by rw [hp];rfl⟩,k⟩
 | c::l,.Q,q,t,te,h=>by
   unfold tkR at h
   split at h
   ·obtain ⟨⟨p,hp⟩,k⟩:=tkR_suf l _ _ _ _ h;exact ⟨⟨c::p,by rw [hp];rfl⟩,k⟩
   ·obtain ⟨⟨p,hp⟩,k⟩:=tkR_suf l _ _ _ _ h;exact ⟨⟨c::p,by rw [hp];rfl⟩,k⟩
 | c::l,.E,q,t,te,h=>by
   unfold tkR at h
   obtain ⟨⟨p,hp⟩,k⟩:=tkR_suf l _ _ _ _ h;exact ⟨⟨c::p,by rw [hp];rfl⟩,k⟩
theorem tkS_suf {l:List Nat} {te:TE} (h:tkS l=some te):(∃ c pre,l=c::(pre++te.l))∧(te.e=true→te.l=[]):=by
 cases l with
 | nil=>cases h
 | cons c l=>
   change (if c=39 then tkR .Q false ⟨⟨[]⟩⟩ l else tkR .A false (one c) l)=some te at h
   split at h
   ·obtain ⟨⟨p,hp⟩,k⟩:=tkR_suf l _ _ _ _ h;exact ⟨⟨c,p,by rw [←hp]⟩,k⟩
   ·obtain ⟨⟨p,hp⟩,k⟩:=tkR_suf l _ _ _ _ h;exact ⟨⟨c,p,by rw [←hp]⟩,k⟩
inductive Lx:List Nat→List Str→Prop
 | last {l te}:okS l→tkS l=some te→0 < te.tok.length→te.e=true→Lx l [te.tok]
 | more {l te ts}:okS l→tkS l=some te→0 < te.tok.length→te.e=false→Lx te.l ts→Lx l (te.tok::ts)
inductive Bx:List Nat→Prop
 | bad {l}:okS l→tkS l=none→Bx l
 | more {l te}:okS l→tkS l=some te→0 < te.tok.length→te.e=false→Bx te.l→Bx l
theorem rest_next {text:Str} {k:Nat} {te:TE} (h:tkS (restS text k)=some te):restS text (tkK text k)=te.l∧tkK text k≤text.length∧tkV text k=te:=by
 have hv:tkV text k=te:=by unfold tkV;rw [h];rfl
 obtain ⟨⟨c,p,hp⟩, -⟩:=tkS_suf h
 obtain ⟨q,hq⟩:∃ q,text.cps.toList=q++te.l:=⟨text.cps.toList.take k++(c::p),by
  rw [List.append_assoc,List.cons_append,←hp];exact (List.take_append_drop k _).symm⟩
 refine ⟨?_,by unfold tkK;lia,hv⟩
 unfold tkK restS
 rw [hv]
 have hl:text.length=q.length+te.l.length:=by
  show text.cps.size=_
  rw [←Array.length_toList,hq,List.length_append]
 rw [show text.length - te.l.length=q.length by lia,hq,List.drop_left]
section
variable {w:World} {A:Around} {h₀:Fr} {g:Array GenState} {dr:Drawn} {os:OsState} {X XD S D Q1 Q2 LS L4 L5 L6:Nat} {es4 es5 es6:List DictEntry} {n4 n5 n6:Nat} {text:Str} {res:Value} {R:Result→Shared→Prop}
noncomputable abbrev VX (w:World) (L4 L5 L6:Nat):RV:=VR w.params (rules4 w.params) (rv4 w.params) (fr3 w.params L4 L5 L6)
theorem lex_step (hd:A.depth≤520) (hA:A.handled=none) (ht:text.length≤sizeLine) {k:Nat} {te:TE} (hk:k≤text.length) (ho:okS (restS text k)) (hte:tkS (restS text k)=some te) (hl:0 < te.tok.length) {h:Heap} {tok sz:Nat} {τ:Nat→Tok} {acc:List Value} {e:Nat} {R₀:List Cell} (ha:acc.length < sizeLine) (hsz:913≤sz)
 (D0:Rep (VX w L4 L5 L6) h₀ h (stLex w.params X XD S D Q1 Q2 sv32 text k τ++(R₀++[(LS,seqO "list" acc e)])) sz)
 (K:∀ h' tok' sz' τ' t e',913≤sz'→Rep (VX w L4 L5 L6) h₀ h' (stLex w.params X XD S D Q1 Q2 (svE te.e) text (tkK text k) τ'++(R₀++[(LS,seqO "list" (acc++[.str te.tok t]) e')])) sz'→
   codeAny (MM w) A (.builtin "list.extend.loop" ⟨[.ref LS,.ref X,res],[]⟩) R ⟨h',g,dr,tok',os⟩):
 codeAny (MM w) A (.builtin "list.extend.loop" ⟨[.ref LS,.ref X,res],[]⟩) R ⟨h,g,dr,tok,os⟩:=by
 have O:=VK_ok w (rules4 w.params)
 have HR:=rules4_ok (B:=526+48) (by decide) (V:=VK w.params (rules4 w.params)) (w:=w) rfl rfl
 obtain ⟨r1,r2,r3⟩:=rest_next hte
 have D1:Rep (VK w.params (rules4 w.params)) h₀ h _ sz:=Rep.cast (V:=VX w L4 L5 L6) (V':=VK w.params (rules4 w.params)) rfl D0
 refine codeAny_builtin PySem.F.entry_extend_loop ?_
 rw [Around.under_plainId PySem.F.plain_extend_loop _]
 show wpAny _ A.in1 (pyNext (.ref X) >>= _) _ _ _
 have hsome:(tkS (restS text k)).isSome=true:=by rw [hte];rfl
 have go:∀ h' tr tok' sz' τ',913≤sz'→Rep (VK w.params (rules4 w.params)) h₀ h' (stLex w.params X XD S D Q1 Q2 (svE (tkV text k).e) text (tkK text k) τ'++(R₀++[(LS,seqO "list" acc e)])) sz'→
  wpAny (MM w) A.in1 (updateSeq LS (·.push (.str (tkV text k).tok tr)) >>= fun _=>again (.builtin "list.extend.loop" ⟨[.ref LS,.ref X,res],[]⟩)) (fun fin s'=>match fin with | .done f=>R (.ok f) s' | .again c'=>c'.quiet=true∧codeAny (MM w) A c' R s') (fun e s'=>R (.error e) s') ⟨h',g,dr,tok',os⟩:=by
  intro h' tr tok' sz' τ' hsz' D2
  rw [r3] at D2⊢
  have hi:(stLex w.params X XD S D Q1 Q2 (svE te.e) text (tkK text k) τ'++(R₀++[(LS,seqO "list" acc e)]))[6+R₀.length]? =some (LS,seqO "list" acc e):=by
   rw [List.getElem?_append_right (by show 6≤_;lia)]
   show (R₀++[(LS,seqO "list" acc e)])[6+R₀.length - 6]? =_
   rw [show 6+R₀.length - 6=R₀.length by exact ar56,List.getElem?_append_right (Nat.le_refl _),Nat.sub_self];rfl
  have hc:=D2.own _ _ hi
  have D3:=D2.update (f:=Obj.mapSeq (·.push (.str te.tok tr))) hi rfl
  obtain ⟨n',hn'⟩:=mapSeq_push acc e (.str te.tok tr)
  rw [hn'] at D3
  have hset:(stLex w.params X XD S D Q1 Q2 (svE te.e) text (tkK text k) τ'++(R₀++[(LS,seqO "list" acc e)])).set (6+R₀.length) (LS,seqO "list" (acc++[.str te.tok tr]) n')=stLex w.params X XD S D Q1 Q2 (svE te.e) text (tkK text k) τ'++(R₀++[(LS,seqO "list" (acc++[.str te.tok tr]) n')]):=by
   rw [List.set_append_right _ _ (by show 6≤_;lia)]
   show _++(R₀++[(LS,seqO "list" acc e)]).set (6+R₀.length - 6) _=_
   rw [show 6+R₀.length - 6=R₀.length by exact ar56,List.set_append_right _ _ (Nat.le_refl _),Nat.sub_self];rfl
  rw [hset] at D3
  refine wpAny_bind (wpAny_updateSeq hc rfl (wpAny_pure ⟨plainId_quiet PySem.F.plain_extend_loop _,K _ tok' sz' τ' tr n' hsz' (Rep.cast (V:=VK w.params (rules4 w.params)) (V':=VX w L4 L5 L6) rfl D3)⟩) ?_ ?_)
  ·show acc.length≤sizeLine;exact ar51
  ·show (acc.toArray.push _).size≤sizeLine+1
   rw [Array.size_push];show acc.length+1≤_;lia
 cases hq:(tkV text k).q with
 | true=>
   refine wpAny_bind (wp_nextT1 (by_pathIR O HR rfl rfl rfl (fun τ b tk ρ=>lex_q w.params ρ τ X XD S D Q1 Q2 text k b tk) (by decide) (by show A.depth≤526;exact ar13) hA D1 hsz fun ρ sz1=>⟨cC ho (cC hsome (cC hq (cC (by rw [r3];exact hl) (cC ht (cC hk c0))))),fun h1 tr τ1 tok1 hsz1 D2=>?_⟩))
   exact go h1 tr tok1 sz1 _ hsz1 D2
 | false=>
   refine wpAny_bind (wp_nextT1 (by_pathIR O HR rfl rfl rfl (fun τ b tk ρ=>lex_u w.params ρ τ X XD S D Q1 Q2 text k b tk) (by decide) (by show A.depth≤526;exact ar13) hA D1 hsz fun ρ sz1=>⟨cC (fun z=>by rw [r3] at z;rw [z] at hl;exact absurd hl (by decide)) (cC ho (cC hsome (cC hq (cC (by rw [r3];exact hl) (cC ht (cC hk c0)))))),fun h1 tr τ1 tok1 hsz1 D2=>?_⟩))
   exact go h1 tr tok1 sz1 _ hsz1 D2
theorem lex_good (hd:A.depth≤520) (hA:A.handled=none) (hfr:FrOk (fr3 w.params L4 L5 L6) A) (ht:text.length≤sizeLine)
 (hR:∀ h' tok' sz' vb acc' e' ts,913≤sz'→AllS acc'→Lx (restS text 0) ts→txs acc'=ts→Rep (VX w L4 L5 L6) h₀ h' (out3R w.params L4 L5 L6 es4 es5 es6 n4 n5 n6 vb++[(LS,seqO "list" acc' e')]) sz'→R (.ok (.ret res)) ⟨h',g,dr,tok',os⟩):
 ∀ {l ts},Lx l ts→∀ (k:Nat) (acc:List Value) (e:Nat) (h:Heap) (tok sz:Nat) (τ:Nat→Tok),restS text k=l→k≤text.length→AllS acc→acc.length+ts.length≤sizeLine→(∀ ts',Lx l ts'→Lx (restS text 0) (txs acc++ts'))→913≤sz→
  Rep (VX w L4 L5 L6) h₀ h (stLex w.params X XD S D Q1 Q2 sv32 text k τ++(out3 L4 L5 L6 es4 es5 es6 n4 n5 n6++[(LS,seqO "list" acc e)])) sz→
  codeAny (MM w) A (.builtin "list.extend.loop" ⟨[.ref LS,.ref X,res],[]⟩) R ⟨h,g,dr,tok,os⟩:=by
 intro l ts L
 induction L with
 | @last l te ho hte hl he=>
   intro k acc e h tok sz τ hk hkl hAS hlen hpre hsz D0
   have hlast:=Lx.last ho hte hl he
   subst hk
   obtain ⟨r1,r2,r3⟩:=rest_next hte
   refine lex_step hd hA ht hkl ho hte hl (by have:acc.length+1≤sizeLine:=hlen;exact ar24) hsz D0 fun h1 tok1 sz1 τ1 t e1 hsz1 D1=>?_
   have O:=VR_ok w (rules4 w.params) (rv4 w.params) (fr3 w.params L4 L5 L6)
   have HR:=rules4_ok (B:=526+48) (by decide) (V:=VX w L4 L5 L6) (w:=w) rfl rfl
   have HV:=rv4_ok (B:=526+48) (by decide) (V:=VX w L4 L5 L6) (w:=w) rfl rfl
   have hK:tkK text k=text.length:=by
    unfold tkK;rw [r3,(tkS_suf hte).2 he];rfl
   rw [he] at D1
   refine codeAny_builtin PySem.F.entry_extend_loop ?_
   rw [Around.under_plainId PySem.F.plain_extend_loop _]
   show wpAny _ A.in1 (pyNext (.ref X) >>= _) _ _ _
   have D2:Rep (VX w L4 L5 L6) h₀ h1 ((stLex w.params X XD S D Q1 Q2 svN text (tkK text k) τ1++out3 L4 L5 L6 es4 es5 es6 n4 n5 n6)++[(LS,seqO "list" (acc++[.str te.tok t]) e1)]) sz1:=by rw [List.append_assoc];exact D1
   refine wpAny_bind (wp_nextT1 (by_pathIF (A:=A.in1) O HR HV rfl hfr rfl (fun b tk ρ=>lex_end w.params ρ τ1 X XD S D Q1 Q2 L4 L5 L6 es4 es5 es6 n4 n5 n6 text (tkK text k) b tk) (by decide) (by show A.depth≤526;exact ar13) hA D2 hsz1 fun ρ sz2=>⟨cC rfl (cC ht (cC hK c0)),fun h2 tr τ2 tok2 hsz2 D3=>?_⟩))
   exact wpAny_pure (hR h2 tok2 sz2 _ _ e1 (txs acc++[te.tok]) hsz2 (hAS.append (.cons .nil)) (hpre _ hlast) (by rw [txs_append];rfl) D3)
 | @more l te ts ho hte hl he L ih=>
   intro k acc e h tok sz τ hk hkl hAS hlen hpre hsz D0
   subst hk
   obtain ⟨r1,r2,r3⟩:=rest_next hte
   rw [List.length_cons] at hlen
   refine lex_step hd hA ht hkl ho hte hl (by exact ar24) hsz D0 fun h1 tok1 sz1 τ1 t e1 hsz1 D1=>?_
   rw [he] at D1
   refine ih (tkK text k) (acc++[Value.str te.tok t]) e1 h1 tok1 sz1 τ1 r1 r2 (hAS.append (.cons .nil)) (by rw [List.length_append];show acc.length+1+_≤_;exact ar23) (fun ts' L'=>?_) hsz1 D1
   rw [txs_append,List.append_assoc]
   exact hpre _ (Lx.more ho hte hl he L')
theorem lex_badL (hd:A.depth≤520) (hA:A.handled=none) (hfr:FrOk (fr3 w.params L4 L5 L6) A) (ht:text.length≤sizeLine)
 (hR:∀ h' tok' sz' ea a1 tb hd' fr' v vb,913≤sz'→Rep (VX w L4 L5 L6) h₀ h' ((ea,excO "ValueError" a1 tb)::(tb,tbN (.ref hd') fr' v)::out3R w.params L4 L5 L6 es4 es5 es6 n4 n5 n6 vb) sz'→R (.error (.ref ea)) ⟨h',g,dr,tok',os⟩):
 ∀ {l},Bx l→∀ (k:Nat) (acc:List Value) (e:Nat) (h:Heap) (tok sz:Nat) (τ:Nat→Tok),restS text k=l→k≤text.length→acc.length+l.length≤sizeLine→913≤sz→
  Rep (VX w L4 L5 L6) h₀ h (stLex w.params X XD S D Q1 Q2 sv32 text k τ++(out3 L4 L5 L6 es4 es5 es6 n4 n5 n6++[(LS,seqO "list" acc e)])) sz→
  codeAny (MM w) A (.builtin "list.extend.loop" ⟨[.ref LS,.ref X,res],[]⟩) R ⟨h,g,dr,tok,os⟩:=by
 intro l L
 induction L with
 | @bad l ho hte=>
   intro k acc e h tok sz τ hk hkl hlen hsz D0
   subst hk
   have O:=VR_ok w (rules4 w.params) (rv4 w.params) (fr3 w.params L4 L5 L6)
   have HR:=rules4_ok (B:=526+48) (by decide) (V:=VX w L4 L5 L6) (w:=w) rfl rfl
   have HV:=rv4_ok (B:=526+48) (by decide) (V:=VX w L4 L5 L6) (w:=w) rfl rfl
   refine codeAny_builtin PySem.F.entry_extend_loop ?_
   rw [Around.under_plainId PySem.F.plain_extend_loop _]
   show wpAny _ A.in1 (pyNext (.ref X) >>= _) _ _ _
   have D2:Rep (VX w L4 L5 L6) h₀ h ((stLex w.params X XD S D Q1 Q2 sv32 text k τ++out3 L4 L5 L6 es4 es5 es6 n4 n5 n6)++[(LS,seqO "list" acc e)]) sz:=by rw [List.append_assoc];exact D0
   refine wpAny_bind (wp_nextT1 (by_pathIF (A:=A.in1) (v:=fun b ρ _=>⟨fun _=>.inr (.ref (ρ.u 0 0)),[okS (restS text k),tkS (restS text k)=none,text.length≤sizeLine,k≤text.length],fun τ=>(ρ.u 0 0,excO "ValueError" (ρ.u 0 1) (ρ.b 0+901))::(ρ.b 0+901,tbN (.ref (ρ.b 0+900)) (b+900) (ρ.v 3))::out3R w.params L4 L5 L6 es4 es5 es6 n4 n5 n6 (ρ.v 0 6)⟩) O HR HV rfl hfr rfl (fun b tk ρ=>lex_bad w.params ρ τ X XD S D Q1 Q2 L4 L5 L6 es4 es5 es6 n4 n5 n6 text k b tk) (by decide) (by show A.depth≤526;exact ar13) hA D2 hsz fun ρ sz2=>⟨cC ho (cC hte (cC ht (cC hkl c0))),fun h2 tr τ2 tok2 hsz2 D3=>?_⟩))
   exact hR h2 tok2 sz2 _ _ _ _ _ _ _ hsz2 (D3.sub (List.sublist_append_left _ _))
 | @more l te ho hte hl he L ih=>
   intro k acc e h tok sz τ hk hkl hlen hsz D0
   subst hk
   obtain ⟨r1,r2,r3⟩:=rest_next hte
   obtain ⟨⟨c,p,hp⟩, -⟩:=tkS_suf hte
   have hlt:te.l.length < (restS text k).length:=by rw [hp,List.length_cons,List.length_append];lia
   refine lex_step hd hA ht hkl ho hte hl (by lia) hsz D0 fun h1 tok1 sz1 τ1 t e1 hsz1 D1=>?_
   rw [he] at D1
   exact ih (tkK text k) (acc++[Value.str te.tok t]) e1 h1 tok1 sz1 τ1 r1 r2 (by rw [List.length_append];show acc.length+1+_≤_;lia) hsz1 D1
end
end
section
open PySem.Calls
noncomputable abbrev fHint:=PySem.W.Fast.tw15112759502256325868
noncomputable def hintT1 (x:Value):Sem PFin:=(fHint x).bind fun b=>.pure (.done (match b with | true=>.brk | false=>.next))
theorem wp_hintT1 {w:World} {A:Around} {s:Shared} {E:Value→Shared→Prop} {x:Value} {Q:Bool→Shared→Prop} (h:wpAny (MM w) A (hintT1 x) (fun fin s'=>match fin with | .done .brk=>Q true s' | .done .next=>Q false s' | _=>False) E s):wpAny (MM w) A (Builtin.List.listLengthHint x) Q E s:=by
 unfold hintT1 fHint at h
 rw [←PySem.W.Fast.te15112759502256325868] at h
 exact wp_enc h fun a s' q=>by cases a <;> exact q
theorem lexI_path (P:Params):∀ (ρ:Unk) (τ:Nat→Tok) (X XD S D Q1 Q2:Nat) (text:Str) (k:Nat) (b tk:Nat),
 PathI [1,2,3,4,5,6] (fun _=>⟨fun u=>.inl (.done (.ret (.ref X))),[],stLex P X XD S D Q1 Q2 sv32 text k⟩)
  (runV (VK P (rules4 P)) ρ 900 (iterT1 (.ref X)) (stLex P X XD S D Q1 Q2 sv32 text k τ) b tk (orcN 0 77373670325422521992546943169 100000 [])):=
 fP2 (by intros;kernel_rfl) (by intros;kernel_rfl) P
theorem lexH_path (P:Params):∀ (ρ:Unk) (τ:Nat→Tok) (X XD S D Q1 Q2:Nat) (text:Str) (k:Nat) (b tk:Nat),
 PathI [0,1,2,3,4,5] (fun _=>⟨fun u=>.inl (.done .brk),[],stLex P X XD S D Q1 Q2 sv32 text k⟩)
  (runV (VK P (rules4 P)) ρ 900 (hintT1 (.ref X)) (stLex P X XD S D Q1 Q2 sv32 text k τ) b tk (orcN 0 4194369729 100000 [])):=
 fP2 (by intros;kernel_rfl) (by intros;kernel_rfl) P
end
section
open PySem.Calls
open Sem (wp)
theorem upd_last {V:RV} {h₀:Fr} {h:Heap} {T:List Cell} {LS:Nat} {o o':Obj} {sz:Nat} {f:Obj→Obj} (D:Rep V h₀ h (T++[(LS,o)]) sz) (hf:f o=o') (hfr:o'.isFreed=false):Rep V h₀ (h.update LS f) (T++[(LS,o')]) sz:=by
 have hi:(T++[(LS,o)])[T.length]? =some (LS,o):=by
  rw [List.getElem?_append_right (Nat.le_refl _),Nat.sub_self];rfl
 have D2:=D.update (f:=f) hi (by show (f o).isFreed=false;rw [hf];exact hfr)
 have e:(T++[(LS,o)]).set T.length (LS,f o)=T++[(LS,o')]:=by
  rw [List.set_append_right _ _ (Nat.le_refl _),Nat.sub_self,hf];rfl
 rw [e] at D2
 exact D2
theorem own_last {V:RV} {h₀:Fr} {h:Heap} {T:List Cell} {LS:Nat} {o:Obj} {sz:Nat} (D:Rep V h₀ h (T++[(LS,o)]) sz):h.get? LS=some o:=D.ownM (c:=(LS,o)) (by simp)
theorem mapSeq_any (f:Array Value→Array Value) (vs:List Value) (n:Nat):∃ n',Obj.mapSeq f (seqO "list" vs n)=seqO "list" (f ⟨vs⟩).toList n':=⟨_,by simp [Obj.mapSeq,seqO];rfl⟩
section
variable {w:World} {A:Around} {h₀:Fr} {g:Array GenState} {dr:Drawn} {os:OsState} {X XD S D Q1 Q2 LS L4 L5 L6:Nat} {text:Str} {R:Result→Shared→Prop}
theorem lex_init (hd:A.depth≤520) (hA:A.handled=none) {h:Heap} {tok sz:Nat} {τ:Nat→Tok} {e:Nat} {R₀:List Cell} (hsz:913≤sz)
 (D0:Rep (VX w L4 L5 L6) h₀ h (stLex w.params X XD S D Q1 Q2 sv32 text 0 τ++(R₀++[(LS,seqO "list" [] e)])) sz)
 (K:∀ h' tok' sz' τ' e',913≤sz'→Rep (VX w L4 L5 L6) h₀ h' (stLex w.params X XD S D Q1 Q2 sv32 text 0 τ'++(R₀++[(LS,seqO "list" [] e')])) sz'→
   codeAny (MM w) A (.builtin "list.extend.loop" ⟨[.ref LS,.ref X,.none],[]⟩) R ⟨h',g,dr,tok',os⟩):
 codeAny (MM w) A (.call (.builtin "list.__init__") ⟨[.ref LS,.ref X],[]⟩) R ⟨h,g,dr,tok,os⟩:=by
 have O:=VK_ok w (rules4 w.params)
 have HR:=rules4_ok (B:=526+48) (by decide) (V:=VK w.params (rules4 w.params)) (w:=w) rfl rfl
 have D1:Rep (VK w.params (rules4 w.params)) h₀ h ((stLex w.params X XD S D Q1 Q2 sv32 text 0 τ++R₀)++[(LS,seqO "list" [] e)]) sz:=by
  rw [List.append_assoc];exact Rep.cast (V:=VX w L4 L5 L6) (V':=VK w.params (rules4 w.params)) rfl D0
 have hne:LS≠X:=by
  have nd:=D1.nodup
  rw [List.append_assoc,List.map_append] at nd
  obtain ⟨-, -,n3⟩:=List.nodup_append.mp nd
  exact fun q=>n3 X (by show X∈X::_;exact .head _) LS (by rw [List.map_append];exact List.mem_append_right _ (.head _)) q.symm
 have hS:=own_last D1
 refine codeAny_call_builtin PySem.F.slot_list_init.plain PySem.F.entry_list_init (PySem.F.slot_list_init.check _ _ _ _ _ _ _ _ ⟨_,hS,rfl⟩ (PySem.F.args_list_init_2 _ _) ?_)
 have hd1:A.in1.depth≤526:=by show A.depth≤526;exact ar13
 have hA1:A.in1.handled=none:=hA
 show wpAny _ A.in1 (do let old ←Builtin.List.listItems (.ref LS);Builtin.List.listUpdate (.ref LS) (fun _=>#[]);letGo old.toList.reverse;Builtin.List.listExtendWith (.ref LS) (.ref X) .none) _ _ _
 refine wpAny_bind ?_
 unfold Builtin.List.listItems
 refine wpAny_bind (wpAny_seqItems hS rfl (wpAny_pure ?_))
 show wpAny _ A.in1 (updateSeq LS (fun _=>#[]) >>= fun _=>letGo (#[]:Array Value).toList.reverse >>= fun _=>Builtin.List.listExtendWith (.ref LS) (.ref X) .none) _ _ _
 refine wpAny_bind (wpAny_updateSeq hS rfl ?_)
 obtain ⟨n1,e1⟩:=mapSeq_any (fun _=>#[]) [] e
 have D2:=upd_last D1 e1 rfl
 refine wpAny_bind (wpAny_letGo ?_)
 unfold Builtin.List.listExtendWith
 have hX:(h.update LS (Obj.mapSeq fun _=>#[])).get? X=some (insO 854 XD):=D2.ownM (c:=(X,insO 854 XD)) (by
  rw [List.append_assoc];exact List.mem_append_left _ (.head _))
 refine wpAny_bind (m:=typeOf (.ref X)) (show wpAny _ _ (load X >>= fun o=>pure o.cls) _ _ _ from wpAny_bind (wpAny_load hX (wpAny_pure ?_)))
 have h1:Builtin.List.listSameRef (.ref LS) (.ref X)=false:=by simp [Builtin.List.listSameRef,hne]
 have h2:((insO 854 XD).cls == Value.type "list")=false:=rfl
 have h3:((insO 854 XD).cls == Value.type "tuple")=false:=rfl
 simp only [h1,h2,h3,Bool.or_false,Bool.false_eq_true,if_false]
 have D3:Rep (VK w.params (rules4 w.params)) h₀ (h.update LS (Obj.mapSeq fun _=>#[])) (stLex w.params X XD S D Q1 Q2 sv32 text 0 τ++(R₀++[(LS,seqO "list" [] n1)])) sz:=by rw [←List.append_assoc];exact D2
 refine wpAny_bind (wp_iterT1 (by_pathIR O HR rfl rfl rfl (fun τ b tk ρ=>lexI_path w.params ρ τ X XD S D Q1 Q2 text 0 b tk) (by decide) hd1 hA1 D3 hsz fun ρ sz1=>⟨c0,fun h4 tr4 τ4 tok4 hsz4 D4=>?_⟩))
 show wpAny _ _ _ _ _ _
 refine wpAny_bind (wpAny_holding (wp_hintT1 (by_pathIR O HR rfl rfl rfl (fun τ b tk ρ=>lexH_path w.params ρ τ X XD S D Q1 Q2 text 0 b tk) (by decide) hd1 hA1 D4 hsz4 fun ρ5 sz5=>⟨c0,fun h5 tr5 τ5 tok5 hsz5 D5=>?_⟩)))
 show wpAny _ A.in1 (rule "list.extend.makes-room" >>= fun _=>Builtin.List.listTouch (.ref LS) >>= fun _=>
  again (.builtin "list.extend.loop" ⟨[.ref LS,.ref X,.none],[]⟩)) _ _ _
 refine wpAny_bind (wpAny_rule ?_)
 refine wpAny_bind ?_
 show wpAny _ A.in1 (updateSeq LS (·.push .none) >>= fun _=>updateSeq LS (·.pop)) _ _ _
 have D6:Rep (VK w.params (rules4 w.params)) h₀ h5 ((stLex w.params X XD S D Q1 Q2 sv32 text 0 τ5++R₀)++[(LS,seqO "list" [] n1)]) sz5:=by rw [List.append_assoc];exact D5
 refine wpAny_bind (wpAny_updateSeq (own_last D6) rfl ?_)
 obtain ⟨n2,e2⟩:=mapSeq_any (·.push Value.none) [] n1
 have D7:=upd_last D6 e2 rfl
 refine wpAny_updateSeq (own_last D7) rfl ?_
 obtain ⟨n3,e3⟩:=mapSeq_any (·.pop) [Value.none] n2
 have D8:=upd_last D7 e3 rfl
 refine wpAny_pure ⟨plainId_quiet PySem.F.plain_extend_loop _,K _ tok5 sz5 τ5 n3 hsz5 ?_⟩
 rw [←List.append_assoc]
 exact Rep.cast (V:=VK w.params (rules4 w.params)) (V':=VX w L4 L5 L6) rfl D8
end
end
section
open PySem.Calls
open Classical in
noncomputable def toksOf (l:List Nat):List Str:=if h:∃ ts,Lx l ts then h.choose else []
theorem Lx.unique:∀ {l ts},Lx l ts→∀ {ts'},Lx l ts'→ts=ts':=by
 intro l ts h
 induction h with
 | last ho hte hl he=>
   intro ts' h'
   cases h' with
   | last _ hte' _ _=>rw [hte] at hte';cases hte';rfl
   | more _ hte' _ he' _=>rw [hte] at hte';cases hte';rw [he] at he';cases he'
 | more ho hte hl he L ih=>
   intro ts' h'
   cases h' with
   | last _ hte' _ he'=>rw [hte] at hte';cases hte';rw [he] at he';cases he'
   | more _ hte' _ _ L'=>rw [hte] at hte';cases hte';rw [ih L']
theorem toksOf_eq {l:List Nat} {ts:List Str} (h:Lx l ts):toksOf l=ts:=by
 have hx:∃ ts,Lx l ts:=⟨ts,h⟩
 unfold toksOf
 rw [dif_pos hx]
 exact hx.choose_spec.unique h
noncomputable def lexGS (P:Params) (X XD S D Q1 Q2 LS:Nat) (L4 L5 L6:Nat) (es4 es5 es6:List DictEntry) (n4 n5 n6:Nat) (text:Str) (e:Nat):LSpecV where
 c₀:=.call (.builtin "list.__init__") ⟨[.ref LS,.ref X],[]⟩
 st:=fun τ=>stLex P X XD S D Q1 Q2 sv32 text 0 τ++(out3 L4 L5 L6 es4 es5 es6 n4 n5 n6++[(LS,seqO "list" [] e)])
 conds:=[text.length≤sizeLine,Lx text.cps.toList (toksOf text.cps.toList),(toksOf text.cps.toList).length≤sizeLine]
 r:=fun _ _=>.ok (.ret .none)
 st':=fun _ v u=>out3R P L4 L5 L6 es4 es5 es6 n4 n5 n6 (v 0)++[(LS,seqO "list" (strsU (fun i=>u (i+1)) (toksOf text.cps.toList)) (u 0))]
noncomputable def lexBS (P:Params) (X XD S D Q1 Q2 LS:Nat) (L4 L5 L6:Nat) (es4 es5 es6:List DictEntry) (n4 n5 n6:Nat) (text:Str) (e:Nat):LSpecV where
 c₀:=.call (.builtin "list.__init__") ⟨[.ref LS,.ref X],[]⟩
 st:=fun τ=>stLex P X XD S D Q1 Q2 sv32 text 0 τ++(out3 L4 L5 L6 es4 es5 es6 n4 n5 n6++[(LS,seqO "list" [] e)])
 conds:=[text.length≤sizeLine,Bx text.cps.toList]
 r:=fun _ u=>.error (.ref (u 0))
 st':=fun _ v u=>(u 0,excO "ValueError" (u 1) (u 2))::(u 2,tbN (.ref (u 3)) (u 4) (fun i=>v (i+1)))::out3R P L4 L5 L6 es4 es5 es6 n4 n5 n6 (v 0)
noncomputable def consV (v:Value) (k:Nat→Value):Nat→Value
 | 0=>v
 | n+1=>k n
theorem rest0 (text:Str):restS text 0=text.cps.toList:=rfl
theorem lexGS_ok {B:Nat} (hB:B≤520) {w:World} (X XD S D Q1 Q2 LS:Nat) (L4 L5 L6:Nat) (es4 es5 es6:List DictEntry) (n4 n5 n6:Nat) (text:Str) (e:Nat) (hc:∀ p∈(lexGS w.params X XD S D Q1 Q2 LS L4 L5 L6 es4 es5 es6 n4 n5 n6 text e).conds,p):
 LF B (VX w L4 L5 L6) w (lexGS w.params X XD S D Q1 Q2 LS L4 L5 L6 es4 es5 es6 n4 n5 n6 text e).c₀ (lexGS w.params X XD S D Q1 Q2 LS L4 L5 L6 es4 es5 es6 n4 n5 n6 text e).st (PostV (lexGS w.params X XD S D Q1 Q2 LS L4 L5 L6 es4 es5 es6 n4 n5 n6 text e)):=by
 intro τ A h₀ h b g dr tok os hfr hA hd hb D
 have ht:text.length≤sizeLine:=hc _ (.head _)
 have hL:Lx text.cps.toList (toksOf text.cps.toList):=hc _ (.tail _ (.head _))
 have hl:(toksOf text.cps.toList).length≤sizeLine:=hc _ (.tail _ (.tail _ (.head _)))
 refine lex_init (w:=w) (A:=A) (by lia) hA (ar10) D fun h1 tok1 sz1 τ1 e1 hsz1 D1=>?_
 refine lex_good (w:=w) (A:=A) (by lia) hA hfr ht (fun h' tok' sz' vb acc' e' ts hsz hAS hL' htx D'=>?_) hL 0 [] e1 h1 tok1 sz1 τ1 rfl (Nat.zero_le _) .nil (by show 0+_≤_;lia) (fun ts' L'=>L') hsz1 D1
 obtain ⟨u,hu⟩:=strsU_of hAS
 have e1:txs acc'=toksOf text.cps.toList:=by rw [htx];exact hL'.unique hL
 refine ⟨_,sz' - 900,tok',g,⟨consT e' u,fun _=>vb,rfl,rfl⟩,?_,ar2,GR.refl _ _,rfl⟩
 rw [show sz' - 900+900=sz' by exact ar1]
 show Rep _ _ _ (out3R w.params L4 L5 L6 es4 es5 es6 n4 n5 n6 vb++[(LS,seqO "list" (strsU u (toksOf text.cps.toList)) e')]) _
 rw [←e1,←hu];exact D'
theorem lexBS_ok {B:Nat} (hB:B≤520) {w:World} (X XD S D Q1 Q2 LS:Nat) (L4 L5 L6:Nat) (es4 es5 es6:List DictEntry) (n4 n5 n6:Nat) (text:Str) (e:Nat) (hc:∀ p∈(lexBS w.params X XD S D Q1 Q2 LS L4 L5 L6 es4 es5 es6 n4 n5 n6 text e).conds,p):
 LF B (VX w L4 L5 L6) w (lexBS w.params X XD S D Q1 Q2 LS L4 L5 L6 es4 es5 es6 n4 n5 n6 text e).c₀ (lexBS w.params X XD S D Q1 Q2 LS L4 L5 L6 es4 es5 es6 n4 n5 n6 text e).st (PostV (lexBS w.params X XD S D Q1 Q2 LS L4 L5 L6 es4 es5 es6 n4 n5 n6 text e)):=by
 intro τ A h₀ h b g dr tok os hfr hA hd hb D
 have ht:text.length≤sizeLine:=hc _ (.head _)
 have hL:Bx text.cps.toList:=hc _ (.tail _ (.head _))
 refine lex_init (w:=w) (A:=A) (by lia) hA (ar10) D fun h1 tok1 sz1 τ1 e1 hsz1 D1=>?_
 refine lex_badL (w:=w) (A:=A) (by lia) hA hfr ht (fun h' tok' sz' ea a1 tb hd' fr' v vb hsz D'=>?_) hL 0 [] e1 h1 tok1 sz1 τ1 rfl (Nat.zero_le _) (by show 0+text.cps.toList.length≤_;rw [Array.length_toList];show 0+text.length≤_;lia) hsz1 D1
 refine ⟨_,sz' - 900,tok',g,⟨consT ea (consT a1 (consT tb (consT hd' (consT fr' fun _=>0)))),consV vb v,rfl,rfl⟩,?_,ar2,GR.refl _ _,rfl⟩
 rw [show sz' - 900+900=sz' by exact ar1]
 exact D'
noncomputable def rv5 (P:Params):Nat→Option ERuleV:=tab (rv4 P) [(90,loopV (fun c T=>lexGS P (aAt T 0) (aAt T 1) (aAt T 2) (aAt T 3) (aAt T 4) (aAt T 5) (aAt T 9) (aAt T 6) (aAt T 7) (aAt T 8) (esAt T 6) (esAt T 7) (esAt T 8) (nAt T 6) (nAt T 7) (nAt T 8) (sOf (vAt T 3 1)) (enAt T 9)) (fun c T=>fr3 P (aAt T 6) (aAt T 7) (aAt T 8))),(91,loopV (fun c T=>lexBS P (aAt T 0) (aAt T 1) (aAt T 2) (aAt T 3) (aAt T 4) (aAt T 5) (aAt T 9) (aAt T 6) (aAt T 7) (aAt T 8) (esAt T 6) (esAt T 7) (esAt T 8) (nAt T 6) (nAt T 7) (nAt T 8) (sOf (vAt T 3 1)) (enAt T 9)) (fun c T=>fr3 P (aAt T 6) (aAt T 7) (aAt T 8)))]
theorem rv5_ok {B:Nat} (hB:B≤520) {V:RV} {w:World} (hV:V.look=lookK w.params) (hg:V.keepG=true):∀ i R,rv5 w.params i=some R→RuleVOk B V pw_il0098_01 w R:=by
 exact tab_cons (loopV_ok (V':=fun c T=>VX w (aAt T 6) (aAt T 7) (aAt T 8)) (fun c S hc=>lexGS_ok hB _ _ _ _ _ _ _ _ _ _ _ _ _ _ _ _ _ _ hc) (fun _ _=>hV.symm) (fun _ _ _=>rfl) (fun _ _=>rfl)) (tab_cons (loopV_ok (V':=fun c T=>VX w (aAt T 6) (aAt T 7) (aAt T 8)) (fun c S hc=>lexBS_ok hB _ _ _ _ _ _ _ _ _ _ _ _ _ _ _ _ _ _ hc) (fun _ _=>hV.symm) (fun _ _ _=>rfl) (fun _ _=>rfl)) (rv4_ok (ar14) hV hg))
noncomputable def fr2 (P:Params) (L5 L6:Nat):Option (List Env):=some [envF (o907 P) 907 L5,envF (o912 P) 912 L6]
noncomputable abbrev VY (P:Params) (L5 L6:Nat):RV:=VR P (rules4 P) (rv5 P) (fr2 P L5 L6)
noncomputable def out2R (P:Params) (L5 L6:Nat) (es5 es6:List DictEntry) (n5 n6:Nat) (vb:Value):List Cell:=[(L5,readyO (envF (o907 P) 907 L5) (.ref L6) (frO es5 n5)),(L6,readyO (envF (o912 P) 912 L6) (vbN vb) (frO es6 n6))]
theorem split_good (P:Params):∀ (ρ:Unk) (τ:Nat→Tok) (L5 L6:Nat) (es5 es6:List DictEntry) (n5 n6:Nat) (text:Str) (t:Tok) (b tk:Nat),
 PathI [1,2,3] (fun _=>⟨fun u=>.inl (.done (.ret (.ref (b+913)))),[text.length≤sizeLine,Lx text.cps.toList (toksOf text.cps.toList),(toksOf text.cps.toList).length≤sizeLine],fun τ=>out2R P L5 L6 es5 es6 n5 n6 (ρ.v 1 0)++[(b+913,seqO "list" (strsU (fun i=>ρ.u 1 (i+1)) (toksOf text.cps.toList)) (ρ.u 1 0))]⟩)
  (runC (VY P L5 L6) ρ 2000 (.call (.ref 866) ⟨[.str text t],[]⟩) [(L5,frO es5 n5),(L6,frO es6 n6)] b tk (orcN 2 2033493346195444027935801746310945323973450016926267768503132480549409973847562886831347170446178648688343141623160657666756026795041437787050755160324345342790378468016132904449602783700595685031375630845518273220084889090279784491314532090011346524284170020103150112368906347691352059804546882321060741456071881546642626916299523749299332610625881552235038395654780826590479524314333141021164011631827190866038676271262271580606284070370851979581901653333927947226003343517341310952419925162470914577838701538185465151324177709063639903879446134600991036540525772537312969983311580900755266112442837997857545596069590273955101973168013283420628292298071711067609897925699272490101603066314532055111966771661614063721066176890697482125854396960703682330869148988984611633766176450513369631248620194144520632912150879420166660036325478165127819665478150949296718083331892927965609613603806793019430374136890055425530120199628229108988027702570091743744194554482882808911786820673289347911204162125816887170423712748172563765073157337752285732829598369564704025790380015720876610764071276120674087389460820769150683212576836442982183258735450646371911006449894866606309721363518260109616009157764005400948611805705802739894910910979664647136580676678606867736819472632207219126677446468959630615411777905476443768577063748420642807663243306385399973945951302873016467762011253801489421683372369574486040905357300845288926624629979862218430498492867274943118215147239056712268920879798482279720927210485890015085646044641635206076462123029136719933721170005016003925851626679211614853145835706088013599167248316878165208999340467457091719743531394508176808424679006036623361 112 [(.eff 90 [11,12,5,6,2,1,13,14,15,0],100000)])):=
 fP2 (by intros;kernel_rfl) (by intros;kernel_rfl) P
theorem split_bad (P:Params):∀ (ρ:Unk) (τ:Nat→Tok) (L5 L6:Nat) (es5 es6:List DictEntry) (n5 n6:Nat) (text:Str) (t:Tok) (b tk:Nat),
 PathI [1,0,4,5] (fun _=>⟨fun u=>.inr (.ref (ρ.u 1 0)),[text.length≤sizeLine,Bx text.cps.toList],fun τ=>(ρ.u 1 0,excO "ValueError" (ρ.u 1 1) (ρ.b 1+900))::(ρ.b 1+900,tbN (.ref (ρ.u 1 2)) (b+900) (ρ.v 2))::out2R P L5 L6 es5 es6 n5 n6 (ρ.v 1 0)⟩)
  (runC (VY P L5 L6) ρ 2000 (.call (.ref 866) ⟨[.str text t],[]⟩) [(L5,frO es5 n5),(L6,frO es6 n6)] b tk (orcN 2 572377492261613637178856064042042109752633092530653306478887477061822664365217767945348417518619152350906480740566813119791562728931876817069031692053144707942284274696005093538102540601958686892015348658278003189832376396934878350049771481111903660861113655452716990008734051035699562362158848598846376586475137128910747938836540923166832836666127104551136385100711738337799683848385894759178918928821885067616707376507690772455296176484796266993630244118257400100968178533902950201869853093610196000065649718815848440207171769103393402159474577269013771712346541080427887502371479490298879518297309925221512673160217617865920762546878420649431448189807895038696752653460326764393168885504010878665256169384982601564104006266753977525293123238411788673070375914874821351549710321028054885369869602193709626791823996551367369012261764247936974790544523343186495436711051279502423141374832094474480221224347797586985616860087887231988899916670882341396942129141275399899816432012976874881583246470351935595968920637500441473223227003560638502301934961043030537599409432731869901158440322945026448677703766984924801765692531427856243205335858199966406795375503794643009454263983742670458914826938645215699008665377433439065839617590925261200676352190234722348865630560598843678501106847474819533638790593739192953887680431353818478413139037500395978418969840642483895361859322071803957927172239915713255263403177410527332460694657165339126760729392819717060825720576595861588749593472164285952178249300154583464271946407708356603827907340942267547162956892121562135042176791050742724880750943330753992662878229621795924326194535230993756221856243961683651198432368436072418171005318529025 112 [(.eff 91 [11,12,5,6,2,1,13,14,15,0],0),(.note 2 [0,1,2],100000)])):=
 fP2 (by intros;kernel_rfl) (by intros;kernel_rfl) P
end
section
open PySem.Calls
open Sem (wp)
theorem LF.callB {B:Nat} {V:RV} {w:World} {c:Code} {st:St} {P:Post} (O:VOk V pw_il0098_01 w) (HR:∀ i R,V.rules i=some R→RuleOk (B+48) V pw_il0098_01 w R) (HV:∀ i R,V.rv i=some R→RuleVOk (B+48) V pw_il0098_01 w R) (hB:B≤800) {n:Nat} {is:List Nat} (hn:nodupB is=true) {o:Orc} {v:Nat→Unk→Nat→Want}
 (path:∀ τ b tk ρ,PathI is (v b ρ) (runC V ρ n c (st τ) b tk o))
 (fin:∀ b ρ sz,(∀ p∈(v b ρ sz).conds,p)∧(913≤sz→∀ tr,EndC P (v b ρ sz).st sz ((v b ρ sz).r tr))):LF B V w c st P:=by
 intro τ A h₀ h b g dr tok os hfr hA hd hb D
 refine call_pathI (hfr:=hfr) (HV:=HV) O HR hn (fun ρ=>path τ b tok ρ) hB ⟨hd,hA⟩ D hb fun ρ sz=>⟨(fin b ρ sz).1,fun h' g' tr τ' tok' hsz hg D'=>?_⟩
 have q:=(fin b ρ sz).2 hsz tr
 have es:sz - 900+900=sz:=ar1
 revert q
 cases (v b ρ sz).r tr with
 | inl f=>
   cases f with
   | done f=>exact fun q=>⟨_,sz - 900,tok',g',q τ',by rw [es];exact D',ar2,hg,rfl⟩
   | again c'=>exact fun q=>q
 | inr e=>exact fun q=>⟨_,sz - 900,tok',g',q τ',by rw [es];exact D',ar2,hg,rfl⟩
noncomputable def splitGS (P:Params) (L5 L6:Nat) (es5 es6:List DictEntry) (n5 n6:Nat) (text:Str) (t:Tok):LSpecV where
 c₀:=.call (.ref 866) ⟨[.str text t],[]⟩
 st:=fun _=>[(L5,frO es5 n5),(L6,frO es6 n6)]
 conds:=[text.length≤sizeLine,Lx text.cps.toList (toksOf text.cps.toList),(toksOf text.cps.toList).length≤sizeLine]
 r:=fun _ u=>.ok (.ret (.ref (u 0)))
 st':=fun _ v u=>out2R P L5 L6 es5 es6 n5 n6 (v 0)++[(u 0,seqO "list" (strsU (fun i=>u (i+2)) (toksOf text.cps.toList)) (u 1))]
noncomputable def splitBS (P:Params) (L5 L6:Nat) (es5 es6:List DictEntry) (n5 n6:Nat) (text:Str) (t:Tok):LSpecV where
 c₀:=.call (.ref 866) ⟨[.str text t],[]⟩
 st:=fun _=>[(L5,frO es5 n5),(L6,frO es6 n6)]
 conds:=[text.length≤sizeLine,Bx text.cps.toList]
 r:=fun _ u=>.error (.ref (u 0))
 st':=fun _ v u=>(u 0,excO "ValueError" (u 1) (u 2))::(u 2,tbN (.ref (u 3)) (u 4) (fun i=>v (i+1)))::out2R P L5 L6 es5 es6 n5 n6 (v 0)
section
variable {B:Nat} {w:World} (L5 L6:Nat) (es5 es6:List DictEntry) (n5 n6:Nat) (text:Str) (t:Tok)
theorem splitGS_ok (hB:B≤470) (hc:∀ p∈(splitGS w.params L5 L6 es5 es6 n5 n6 text t).conds,p):
 LF B (VY w.params L5 L6) w (splitGS w.params L5 L6 es5 es6 n5 n6 text t).c₀ (splitGS w.params L5 L6 es5 es6 n5 n6 text t).st (PostV (splitGS w.params L5 L6 es5 es6 n5 n6 text t)):=
 LF.callB (VR_ok w _ _ _) (rules4_ok (B:=B+48) (by lia) rfl rfl) (rv5_ok (B:=B+48) (ar14) rfl rfl) (ar13) rfl
  (v:=fun b ρ _=>⟨fun u=>.inl (.done (.ret (.ref (b+913)))),[text.length≤sizeLine,Lx text.cps.toList (toksOf text.cps.toList),(toksOf text.cps.toList).length≤sizeLine],fun τ=>out2R w.params L5 L6 es5 es6 n5 n6 (ρ.v 1 0)++[(b+913,seqO "list" (strsU (fun i=>ρ.u 1 (i+1)) (toksOf text.cps.toList)) (ρ.u 1 0))]⟩)
  (fun τ b tk ρ=>split_good w.params ρ τ L5 L6 es5 es6 n5 n6 text t b tk) fun b ρ sz=>⟨hc,fun hsz tr τ=>⟨consT (b+913) (consT (ρ.u 1 0) fun i=>ρ.u 1 (i+1)),fun _=>ρ.v 1 0,rfl,rfl⟩⟩
theorem splitBS_ok (hB:B≤470) (hc:∀ p∈(splitBS w.params L5 L6 es5 es6 n5 n6 text t).conds,p):
 LF B (VY w.params L5 L6) w (splitBS w.params L5 L6 es5 es6 n5 n6 text t).c₀ (splitBS w.params L5 L6 es5 es6 n5 n6 text t).st (PostV (splitBS w.params L5 L6 es5 es6 n5 n6 text t)):=
 LF.callB (VR_ok w _ _ _) (rules4_ok (B:=B+48) (by lia) rfl rfl) (rv5_ok (B:=B+48) (ar14) rfl rfl) (ar13) rfl
  (v:=fun b ρ _=>⟨fun u=>.inr (.ref (ρ.u 1 0)),[text.length≤sizeLine,Bx text.cps.toList],fun τ=>(ρ.u 1 0,excO "ValueError" (ρ.u 1 1) (ρ.b 1+900))::(ρ.b 1+900,tbN (.ref (ρ.u 1 2)) (b+900) (ρ.v 2))::out2R w.params L5 L6 es5 es6 n5 n6 (ρ.v 1 0)⟩)
  (fun τ b tk ρ=>split_bad w.params ρ τ L5 L6 es5 es6 n5 n6 text t b tk) fun b ρ sz=>⟨hc,fun hsz tr τ=>⟨consT (ρ.u 1 0) (consT (ρ.u 1 1) (consT (ρ.b 1+900) (consT (ρ.u 1 2) (consT (b+900) fun _=>0)))),consV (ρ.v 1 0) (ρ.v 2),rfl,rfl⟩⟩
end
noncomputable def argSt:Code→Str
 | .call _ ⟨.str s _::_,_⟩=>s
 | _=>default
noncomputable def argTk:Code→Tok
 | .call _ ⟨.str _ t::_,_⟩=>t
 | _=>0
noncomputable def rv6 (P:Params):Nat→Option ERuleV:=tab (fun _=>none) [(92,loopV (fun c T=>splitGS P (aAt T 0) (aAt T 1) (esAt T 0) (esAt T 1) (nAt T 0) (nAt T 1) (argSt c) (argTk c)) (fun c T=>fr2 P (aAt T 0) (aAt T 1))),(93,loopV (fun c T=>splitBS P (aAt T 0) (aAt T 1) (esAt T 0) (esAt T 1) (nAt T 0) (nAt T 1) (argSt c) (argTk c)) (fun c T=>fr2 P (aAt T 0) (aAt T 1)))]
theorem rv6_ok {B:Nat} (hB:B≤470) {V:RV} {w:World} (hV:V.look=lookK w.params) (hg:V.keepG=true):∀ i R,rv6 w.params i=some R→RuleVOk B V pw_il0098_01 w R:=by
 exact tab_cons (loopV_ok (V':=fun c T=>VY w.params (aAt T 0) (aAt T 1)) (fun c S hc=>splitGS_ok _ _ _ _ _ _ _ _ hB hc) (fun _ _=>hV.symm) (fun _ _ _=>rfl) (fun _ _=>rfl)) (tab_cons (loopV_ok (V':=fun c T=>VY w.params (aAt T 0) (aAt T 1)) (fun c S hc=>splitBS_ok _ _ _ _ _ _ _ _ hB hc) (fun _ _=>hV.symm) (fun _ _ _=>rfl) (fun _ _=>rfl)) (fun _ _ h=>nomatch h))
end
section
open PySem.Calls
noncomputable def rF (P:Params) (L5:Nat) (text:Str):St:=fun τ=>[(L5,frO [E P ⟨⟨[116,101,120,116]⟩⟩ (τ 0) (.str text (τ 1))] 1)]
noncomputable def rEs (P:Params) (text:Str) (τ:Nat→Tok):List DictEntry:=[E P ⟨⟨[116,101,120,116]⟩⟩ (τ 0) (.str text (τ 1))]
noncomputable def fr1 (P:Params) (L6:Nat):Option (List Env):=some [envF (o912 P) 912 L6]
noncomputable abbrev VZ (P:Params) (L6:Nat):RV:=VR P (rules4 P) (rv6 P) (fr1 P L6)
noncomputable def out1R (P:Params) (L6:Nat) (es6:List DictEntry) (n6:Nat) (vb:Value):List Cell:=[(L6,readyO (envF (o912 P) 912 L6) (vbN vb) (frO es6 n6))]
noncomputable def sT:Stmt:=stm (st 53) 0
noncomputable def tryBody:Stmt→List Stmt | .Try b ..=>b | _=>[]
theorem read_good (P:Params):∀ (ρ:Unk) (τ:Nat→Tok) (L6:Nat) (es6:List DictEntry) (n6:Nat) (text:Str) (t:Tok) (b tk:Nat),
 PathI [1,2] (fun _=>⟨fun u=>.inl (.done (.ret (.ref (ρ.u 0 0)))),[text.length≤sizeLine,Lx text.cps.toList (toksOf text.cps.toList),(toksOf text.cps.toList).length≤sizeLine],fun τ=>out1R P L6 es6 n6 (ρ.v 0 0)++[(ρ.u 0 0,seqO "list" (strsU (fun i=>ρ.u 0 (i+2)) (toksOf text.cps.toList)) (ρ.u 0 1))]⟩)
  (runC (VZ P L6) ρ 900 (.call (.ref 907) ⟨[.str text t],[]⟩) [(L6,frO es6 n6)] b tk (orcN 1 274882206171137 1 [(.eff 92 [0,1],100000)])):=
 fP2 (by intros;kernel_rfl) (by intros;kernel_rfl) P
theorem read_enter (P:Params):∀ (ρ:Unk) (text:Str) (t:Tok) (b tk:Nat),
 PathI [0] (fun _=>⟨fun _=>.inl (.again (.func (fB (st 53)) (envF (o907 P) 907 (b+900)))),[],rF P (b+900) text⟩)
  (runV (VK P (rules4 P)) ρ 400 (callTF 907 (fdO (o907 P)) ⟨[.str text t],[]⟩) [] b tk (orcN 1 4194369537 100000 [])):=
 fP2 (by intros;kernel_rfl) (by intros;kernel_rfl) P
theorem read_try (P:Params):∀ (ρ:Unk) (τ:Nat→Tok) (L5 L6:Nat) (es6:List DictEntry) (n6:Nat) (text:Str) (b tk:Nat),
 PathI [0,1,2,3] (fun _=>⟨fun _=>.inr (.ref (ρ.u 0 0)),[text.length≤sizeLine,Bx text.cps.toList],fun _=>(ρ.u 0 0,excO "ValueError" (ρ.u 0 1) (ρ.u 0 2))::(ρ.u 0 2,tbN (.ref (ρ.u 0 3)) (ρ.u 0 4) (fun i=>ρ.v 0 (i+1)))::out2R P L5 L6 (rEs P text τ) es6 1 n6 (ρ.v 0 0)⟩)
  (runV (VR P (rules4 P) (rv6 P) (fr2 P L5 L6)) ρ 400 (execsT1 (tryBody sT) (envF (o907 P) 907 L5)) (rF P L5 text τ++[(L6,frO es6 n6)]) b tk (orcN 1 64001 0 [(.eff 93 [0,1],100000)])):=
 fP2 (by intros;kernel_rfl) (by intros;kernel_rfl) P
end
section
open PySem.Calls
open Sem (wp)
theorem look907 (P:Params):lookK P 907=some (o907 P):=by kernel_rfl
theorem o907_data (P:Params):(o907 P).data= .func (fdO (o907 P)):=by kernel_rfl
theorem o907_plain (P:Params):plainFn (fdO (o907 P))=true:=by kernel_rfl
noncomputable abbrev envR (P:Params) (L5:Nat):Env:=envF (o907 P) 907 L5
theorem funcR_q (P:Params) (L:Nat):(Code.func (fB (st 53)) (envR P L)).quiet=true:=by kernel_rfl
theorem bodyR_eq:fB (st 53)=[sT]:=by kernel_rfl
theorem sT_eq:∃ p1 k p2 p3 p4 p5,sT= .Try (tryBody sT) [.ExceptHandler (some (.Name ⟨⟨[86,97,108,117,101,69,114,114,111,114]⟩⟩ p1)) none [.Return (some (.Constant .none k p2)) p3] p4] [] [] p5:=⟨_,_,_,_,_,_,rfl⟩
theorem envR_kind (P:Params) (L:Nat):(envR P L).scope.kind= .function:=by kernel_rfl
theorem envR_kindOf (P:Params) (L:Nat):(envR P L).kindOf ⟨⟨[86,97,108,117,101,69,114,114,111,114]⟩⟩=some .globalImplicit:=by kernel_rfl
noncomputable def gAd (P:Params):Nat:=(fdO (o907 P)).globals
noncomputable def bAd (P:Params):Nat:=(fdO (o907 P)).builtins
theorem envR_g (P:Params) (L:Nat):(envR P L).globals=gAd P:=by kernel_rfl
theorem envR_b (P:Params) (L:Nat):(envR P L).builtins=bAd P:=by kernel_rfl
noncomputable def gO (P:Params):Obj:=(lookK P (gAd P)).getD default
noncomputable def bO (P:Params):Obj:=(lookK P (bAd P)).getD default
theorem look_g (P:Params):lookK P (gAd P)=some (gO P):=by kernel_rfl
theorem look_b (P:Params):lookK P (bAd P)=some (bO P):=by kernel_rfl
noncomputable def dictN (o:Obj):Nat:=match o.data with | .dict _ n=>n | _=>0
theorem gO_shape (P:Params):(gO P).data= .dict (dictOfObj (gO P)) (dictN (gO P)):=by kernel_rfl
theorem bO_shape (P:Params):(bO P).data= .dict (dictOfObj (bO P)) (dictN (bO P)):=by kernel_rfl
theorem gO_keys (P:Params):(dictOfObj (gO P)).toList.all strKeyB=true:=by kernel_rfl
theorem bO_keys (P:Params):(dictOfObj (bO P)).toList.all strKeyB=true:=by kernel_rfl
theorem gO_none (P:Params):nsFind (dictOfObj (gO P)) ⟨⟨[86,97,108,117,101,69,114,114,111,114]⟩⟩=none:=by kernel_rfl
theorem bO_some (P:Params):nsFind (dictOfObj (bO P)) ⟨⟨[86,97,108,117,101,69,114,114,111,114]⟩⟩=some (.type "ValueError"):=by kernel_rfl
theorem ns_of {h:Heap} {a:Nat} {o:Obj} (hg:h.get? a=some o) (hs:o.data= .dict (dictOfObj o) (dictN o)) (hk:(dictOfObj o).toList.all strKeyB=true):h.Ns a (fun name=>nsFind (dictOfObj o) name):=
 ⟨o,_,_,hg,hs,(by
   intro e he
   have:=List.all_eq_true.mp hk e (Array.mem_toList_iff.mpr he)
   unfold strKeyB at this
   split at this
   ·rename_i n t q;exact ⟨n,t,q⟩
   ·cases this),fun _=>rfl⟩
theorem name_ne:((⟨⟨[86,97,108,117,101,69,114,114,111,114]⟩⟩:Str) == ("__debug__":Str))=false:=by decide+kernel
theorem eval_VE {w:World} {A:Around} {E:Value→Shared→Prop} {h:Heap} {g:Array GenState} {dr:Drawn} {tok:Nat} {os:OsState} {L:Nat} {pos:Pos} {Q:Value→Shared→Prop} (hs:∀ a o,lookK w.params a=some o→h.get? a=some o) (hQ:Q (.type "ValueError") ⟨h,g,dr,tok,os⟩):
 wpAny (MM w) A (eval (.Name ⟨⟨[86,97,108,117,101,69,114,114,111,114]⟩⟩ pos) (envR w.params L)) Q E ⟨h,g,dr,tok,os⟩:=by
 refine Name_function_global (envR_kind ..) (envR_kindOf ..) ?_ name_ne
 exact loadGlobal_builtin (mg:=fun name=>nsFind (dictOfObj (gO w.params)) name) (mb:=fun name=>nsFind (dictOfObj (bO w.params)) name) (by rw [envR_g];exact ns_of (hs _ _ (look_g _)) (gO_shape _) (gO_keys _)) (gO_none _) (by rw [envR_b];exact ns_of (hs _ _ (look_b _)) (bO_shape _) (bO_keys _)) (bO_some _) hQ
theorem ve_base:isSubtype (.type "ValueError") (.type "BaseException")=pure true:=by rw [isSubtype_type];kernel_rfl
theorem ve_meta:isSubtype (.type ((Manifest.find? "ValueError").elim "type" fun x=>x.metatype)) (.type "tuple")=pure false:=by
 rw [isSubtype_type];kernel_rfl
theorem ve_self:isSubtype (.type "ValueError") (.type "ValueError")=pure true:=by rw [isSubtype_type];kernel_rfl
noncomputable def readGS (P:Params) (L6:Nat) (es6:List DictEntry) (n6:Nat) (text:Str) (t:Tok):LSpecV where
 c₀:=.call (.ref 907) ⟨[.str text t],[]⟩
 st:=fun _=>[(L6,frO es6 n6)]
 conds:=[text.length≤sizeLine,Lx text.cps.toList (toksOf text.cps.toList),(toksOf text.cps.toList).length≤sizeLine]
 r:=fun _ u=>.ok (.ret (.ref (u 0)))
 st':=fun _ v u=>out1R P L6 es6 n6 (v 0)++[(u 0,seqO "list" (strsU (fun i=>u (i+2)) (toksOf text.cps.toList)) (u 1))]
noncomputable def readBS (P:Params) (L6:Nat) (es6:List DictEntry) (n6:Nat) (text:Str) (t:Tok):LSpecV where
 c₀:=.call (.ref 907) ⟨[.str text t],[]⟩
 st:=fun _=>[(L6,frO es6 n6)]
 conds:=[text.length≤sizeLine,Bx text.cps.toList]
 r:=fun _ u=>.ok (.ret .none)
 st':=fun _ v u=>out1R P L6 es6 n6 (v 0)
section
variable {B:Nat} {w:World} (L6:Nat) (es6:List DictEntry) (n6:Nat) (text:Str) (t:Tok)
theorem readGS_ok (hB:B≤420) (hc:∀ p∈(readGS w.params L6 es6 n6 text t).conds,p):
 LF B (VZ w.params L6) w (readGS w.params L6 es6 n6 text t).c₀ (readGS w.params L6 es6 n6 text t).st (PostV (readGS w.params L6 es6 n6 text t)):=
 LF.callB (VR_ok w _ _ _) (rules4_ok (B:=B+48) (by lia) rfl rfl) (rv6_ok (B:=B+48) (ar14) rfl rfl) (ar13) rfl
  (v:=fun b ρ _=>⟨fun u=>.inl (.done (.ret (.ref (ρ.u 0 0)))),[text.length≤sizeLine,Lx text.cps.toList (toksOf text.cps.toList),(toksOf text.cps.toList).length≤sizeLine],fun τ=>out1R w.params L6 es6 n6 (ρ.v 0 0)++[(ρ.u 0 0,seqO "list" (strsU (fun i=>ρ.u 0 (i+2)) (toksOf text.cps.toList)) (ρ.u 0 1))]⟩)
  (fun τ b tk ρ=>read_good w.params ρ τ L6 es6 n6 text t b tk) fun b ρ sz=>⟨hc,fun hsz tr τ=>⟨ρ.u 0,ρ.v 0,rfl,rfl⟩⟩
end
section
variable {B:Nat} {w:World} (L6:Nat) (es6:List DictEntry) (n6:Nat) (text:Str) (t:Tok)
theorem readBS_ok (hB:B≤400) (hc:∀ p∈(readBS w.params L6 es6 n6 text t).conds,p):
 LF B (VZ w.params L6) w (readBS w.params L6 es6 n6 text t).c₀ (readBS w.params L6 es6 n6 text t).st (PostV (readBS w.params L6 es6 n6 text t)):=by
 intro τ A h₀ h b g dr tok os hfr hA hd hb D0
 have ht:text.length≤sizeLine:=hc _ (.head _)
 have hB':Bx text.cps.toList:=hc _ (.tail _ (.head _))
 have D:Rep (VK w.params (rules4 w.params)) h₀ h ([]++[(L6,frO es6 n6)]) (b+900):=Rep.cast (V:=VZ w.params L6) (V':=VK w.params (rules4 w.params)) rfl D0
 have hsz:913≤b+900:=ar10
 have O:=VK_ok w (rules4 w.params)
 have HR:=rules4_ok (B:=496+48) (by decide) (V:=VK w.params (rules4 w.params)) (w:=w) rfl rfl
 refine codeAny_of_tree ?_
 show wpAny _ _ (callAny (.ref 907) ⟨[.str text t],[]⟩) _ _ _
 simp only [callAny]
 refine wpAny_bind (wpAny_load (D.stat 907 _ (look907 w.params)) ?_)
 simp only [o907_data]
 rw [callFunction_eq (o907_plain _),←callTF_eq]
 show wpAny _ _ ((callTF _ _ _).bind fun fin=>Sem.bind enterFrame fun _=>.pure fin) _ _ _
 have hd1:(A.under (.call (.ref 907) ⟨[.str text t],[]⟩)).depth≤496:=by
  show A.depth+0≤496;lia
 have hA1:(A.under (.call (.ref 907) ⟨[.str text t],[]⟩)).handled=none:=hA
 refine wpAny_bind (by_pathIR (R₀:=[(L6,frO es6 n6)]) (st:=fun _=>[]) (τ:=fun _=>0) (v:=fun b ρ _=>⟨fun _=>.inl (.again (.func (fB (st 53)) (envR w.params (b+900)))),[],rF w.params (b+900) text⟩) O HR rfl rfl rfl (fun τ b tk ρ=>read_enter w.params ρ text t b tk) (by decide) hd1 hA1 D hsz fun ρ sz1=>⟨c0,fun h1 tr τ1 tok1 hsz1 D1=>?_⟩)
 generalize b+900 - 900+900=L5 at D1⊢
 refine wpAny_bind (wpAny_enterFrame (O.nolimit h1 D1.stat) (Nat.lt_of_le_of_lt hd1 (by decide)) (wpAny_pure ⟨funcR_q ..,?_⟩))
 refine codeAny_func ?_
 refine wpAny_mono (E:=fun _ _=>False) ?_ (fun _ _ q=>q) fun _ _ (q:False)=>q.elim
 have hd2:(A.deeper (envR w.params L5)).depth≤410:=by show A.depth+1≤410;lia
 have hA2:(A.deeper (envR w.params L5)).handled=none:=hA
 have hF:FrOk (fr2 w.params L5 L6) (A.deeper (envR w.params L5)):=by
  intro l e
  cases e
  show A.frames.map (envR w.params L5::·)=_
  rw [hfr _ rfl];rfl
 rw [show execs (fB (st 53)) (envR w.params L5)=execs [sT] (envR w.params L5) from congrArg (execs · _) bodyR_eq]
 refine wpAny_execs_cons ?_
 obtain ⟨p1,k,p2,p3,p4,p5,hs⟩:=sT_eq
 conv=>rw [hs]
 refine wpAny_Try_except ?_
 have OY:=VR_ok w (rules4 w.params) (rv6 w.params) (fr2 w.params L5 L6)
 have HRY:=rules4_ok (B:=410+48) (by decide) (V:=VR w.params (rules4 w.params) (rv6 w.params) (fr2 w.params L5 L6)) (w:=w) rfl rfl
 have HVY:=rv6_ok (B:=410+48) (by decide) (V:=VR w.params (rules4 w.params) (rv6 w.params) (fr2 w.params L5 L6)) (w:=w) rfl rfl
 have D2:Rep (VR w.params (rules4 w.params) (rv6 w.params) (fr2 w.params L5 L6)) h₀ h1 ((rF w.params L5 text τ1++[(L6,frO es6 n6)])++[]) sz1:=Rep.cast (V:=VK w.params (rules4 w.params)) (V':=VR w.params (rules4 w.params) (rv6 w.params) (fr2 w.params L5 L6)) rfl (by rw [List.append_nil];exact D1)
 refine wp_execsT1 (by_pathIF (v:=fun b ρ _=>⟨fun _=>.inr (.ref (ρ.u 0 0)),[text.length≤sizeLine,Bx text.cps.toList],fun _=>(ρ.u 0 0,excO "ValueError" (ρ.u 0 1) (ρ.u 0 2))::(ρ.u 0 2,tbN (.ref (ρ.u 0 3)) (ρ.u 0 4) (fun i=>ρ.v 0 (i+1)))::out2R w.params L5 L6 (rEs w.params text τ1) es6 1 n6 (ρ.v 0 0)⟩) OY HRY HVY rfl hF rfl (fun b tk ρ=>read_try w.params ρ τ1 L5 L6 es6 n6 text b tk) (by decide) hd2 hA2 D2 hsz1 fun ρ2 sz2=>⟨cC ht (cC hB' c0),fun h2 tr2 τ2 tok2 hsz2 D3=>?_⟩)
 dsimp only
 rw [List.append_nil] at D3
 have D3:Rep (VR w.params (rules4 w.params) (rv6 w.params) (fr2 w.params L5 L6)) h₀ h2 ((ρ2.u 0 0,excO "ValueError" (ρ2.u 0 1) (ρ2.u 0 2))::(ρ2.u 0 2,tbN (.ref (ρ2.u 0 3)) (ρ2.u 0 4) (fun i=>ρ2.v 0 (i+1)))::out2R w.params L5 L6 (rEs w.params text τ1) es6 1 n6 (ρ2.v 0 0)) sz2:=D3
 generalize ρ2.u 0 0=ea at D3⊢
 generalize ρ2.u 0 1=a1 at D3
 generalize ρ2.u 0 2=tb at D3
 generalize ρ2.u 0 3=hd3 at D3
 generalize ρ2.u 0 4=fr3' at D3
 generalize ρ2.v 0 0=vb at D3
 generalize (fun i=>ρ2.v 0 (i+1))=vv at D3
 refine note_wp (m:=2) (js:=[0,1,2]) hF D3 (fun v=>⟨_,rfl,?_⟩) fun v r h3 hr D4=>?_
 ·intro q hq
  repeat (rcases List.mem_cons.mp hq with rfl | hq;· rfl)
  cases hq
 ·cases hr
  have D4:Rep (VR w.params (rules4 w.params) (rv6 w.params) (fr2 w.params L5 L6)) h₀ h3 ((sz2,tbO (.ref tb) L5 v)::(ea,excO "ValueError" a1 sz2)::(tb,tbN (.ref hd3) fr3' vv)::out2R w.params L5 L6 (rEs w.params text τ1) es6 1 n6 vb) (sz2+1):=D4
  refine wpAny_setFlight_none (tb:=sz2) (D4.own 1 _ rfl) rfl rfl (D4.own 0 _ rfl) rfl (by show 3 < 11;decide) ?_
  have D5:=D4.update (f:=Obj.mapFields (·.setIfInBounds 3 .none)) (j:=0) rfl rfl
  refine wpAny_handleBy_builtin (X:="ValueError") (T:="ValueError") (b:=true) ve_base ve_meta ve_self ?_
  refine eval_VE (fun a o e=>D5.stat a o e) ⟨rfl,⟨_,D5.own 1 _ rfl,rfl⟩,?_⟩
  rw [if_pos rfl]
  refine wpAny_setFlight_none (tb:=sz2) (D5.own 1 _ rfl) rfl rfl (D5.own 0 _ rfl) rfl (by show 3 < 11;decide) ?_
  have D6:=D5.update (f:=Obj.mapFields (·.setIfInBounds 3 .none)) (j:=0) rfl rfl
  refine wpAny_execs_cons (wpAny_Return_some (show wpAny _ _ (pure Value.none) _ _ _ from wpAny_pure ?_))
  refine ⟨_,sz2+1 - 900,tok2,g,⟨fun _=>0,fun _=>vb,rfl,rfl⟩,?_,ar4,GR.refl _ _,rfl⟩
  rw [show sz2+1 - 900+900=sz2+1 by exact ar3]
  refine Rep.cast (V:=VR w.params (rules4 w.params) (rv6 w.params) (fr2 w.params L5 L6)) (V':=VZ w.params L6) rfl (D6.sub ?_)
  exact List.sublist_append_right [_,_,_,_] [(L6,readyO (envF (o912 w.params) 912 L6) (vbN vb) (frO es6 n6))]
end
end
section
open PySem.Calls
noncomputable def partConds (n:Int) (k:Nat):List Prop:=[((7:Int) == 0)=false,n.fmod 7=(k:Int),(figs (n.fdiv 7)++⟨⟨[92,34]⟩⟩).length≤sizeLine,(figs (n.fdiv 7)++⟨⟨[39,115]⟩⟩).length≤sizeLine,(figs (n.fdiv 7)++⟨⟨[32,120]⟩⟩).length≤sizeLine,
 (n.fdiv 7).natAbs.log2 < 1920,(figs (n.fdiv 7)).length≤sizeLine,((7:Int) == 0)=false,Builtin.divisionGoesByPylong n 7=false]
theorem part_call0 (P:Params):∀ (ρ:Unk) (n:Int) (t:Tok) (b tk:Nat),
 PathF 0 (fun _=>⟨fun u=>.inl (.done (.ret (.str (figs (n.fdiv 7)) u))),partConds n 0,fun _=>[]⟩)
  (runC (VK P rules0) ρ 200 (.call (.ref 881) ⟨[.int n t],[]⟩) [] b tk (orcN 1 1725463547055690514026302962654206729407147150290287474465554867318489089 1 [(.eff 13 [],6),(.eff 15 [],2),(.eff 3 [],0),(.eff 3 [],0),(.eff 3 [],0),(.eff 14 [0],100000)])):=
 fP2 (by intros;kernel_rfl) (by intros;kernel_rfl) P
theorem part_call1 (P:Params):∀ (ρ:Unk) (n:Int) (t:Tok) (b tk:Nat),
 PathF 0 (fun _=>⟨fun u=>.inl (.done (.ret (.str (figs (n.fdiv 7)++⟨⟨[32,120]⟩⟩) u))),partConds n 1,fun _=>[]⟩)
  (runC (VK P rules0) ρ 200 (.call (.ref 881) ⟨[.int n t],[]⟩) [] b tk (orcN 1 1725463547055690514026302962654206729407147150290287474465554867318489089 1 [(.eff 13 [],6),(.eff 15 [],2),(.eff 3 [],0),(.eff 3 [],0),(.eff 3 [],0),(.eff 14 [1],100000)])):=
 fP2 (by intros;kernel_rfl) (by intros;kernel_rfl) P
theorem part_call2 (P:Params):∀ (ρ:Unk) (n:Int) (t:Tok) (b tk:Nat),
 PathF 0 (fun _=>⟨fun u=>.inl (.done (.ret (.str (figs (n.fdiv 7)++⟨⟨[39,115]⟩⟩) u))),partConds n 2,fun _=>[]⟩)
  (runC (VK P rules0) ρ 200 (.call (.ref 881) ⟨[.int n t],[]⟩) [] b tk (orcN 1 1725463547055690514026302962654206729407147150290287474465554867318489089 1 [(.eff 13 [],6),(.eff 15 [],2),(.eff 3 [],0),(.eff 3 [],0),(.eff 3 [],0),(.eff 14 [2],100000)])):=
 fP2 (by intros;kernel_rfl) (by intros;kernel_rfl) P
theorem part_call3 (P:Params):∀ (ρ:Unk) (n:Int) (t:Tok) (b tk:Nat),
 PathF 0 (fun _=>⟨fun u=>.inl (.done (.ret (.str (⟨⟨[39]⟩⟩) u))),partConds n 3,fun _=>[]⟩)
  (runC (VK P rules0) ρ 200 (.call (.ref 881) ⟨[.int n t],[]⟩) [] b tk (orcN 1 1725463547055690514026302962654206729407147150290287474465554867318489089 1 [(.eff 13 [],6),(.eff 15 [],2),(.eff 3 [],0),(.eff 3 [],0),(.eff 3 [],0),(.eff 14 [3],100000)])):=
 fP2 (by intros;kernel_rfl) (by intros;kernel_rfl) P
theorem part_call4 (P:Params):∀ (ρ:Unk) (n:Int) (t:Tok) (b tk:Nat),
 PathF 0 (fun _=>⟨fun u=>.inl (.done (.ret (.str (⟨⟨[34]⟩⟩) u))),partConds n 4,fun _=>[]⟩)
  (runC (VK P rules0) ρ 200 (.call (.ref 881) ⟨[.int n t],[]⟩) [] b tk (orcN 1 1725463547055690514026302962654206729407147150290287474465554867318489089 1 [(.eff 13 [],6),(.eff 15 [],2),(.eff 3 [],0),(.eff 3 [],0),(.eff 3 [],0),(.eff 14 [4],100000)])):=
 fP2 (by intros;kernel_rfl) (by intros;kernel_rfl) P
theorem part_call5 (P:Params):∀ (ρ:Unk) (n:Int) (t:Tok) (b tk:Nat),
 PathF 0 (fun _=>⟨fun u=>.inl (.done (.ret (.str (⟨⟨[46,46]⟩⟩) u))),partConds n 5,fun _=>[]⟩)
  (runC (VK P rules0) ρ 200 (.call (.ref 881) ⟨[.int n t],[]⟩) [] b tk (orcN 1 1725463547055690514026302962654206729407147150290287474465554867318489089 1 [(.eff 13 [],6),(.eff 15 [],2),(.eff 3 [],0),(.eff 3 [],0),(.eff 3 [],0),(.eff 14 [5],100000)])):=
 fP2 (by intros;kernel_rfl) (by intros;kernel_rfl) P
theorem part_call6 (P:Params):∀ (ρ:Unk) (n:Int) (t:Tok) (b tk:Nat),
 PathF 0 (fun _=>⟨fun u=>.inl (.done (.ret (.str (figs (n.fdiv 7)++⟨⟨[92,34]⟩⟩) u))),partConds n 6,fun _=>[]⟩)
  (runC (VK P rules0) ρ 200 (.call (.ref 881) ⟨[.int n t],[]⟩) [] b tk (orcN 1 1725463547055690514026302962654206729407147150290287474465554867318489089 1 [(.eff 13 [],6),(.eff 15 [],2),(.eff 3 [],0),(.eff 3 [],0),(.eff 3 [],0),(.eff 14 [6],100000)])):=
 fP2 (by intros;kernel_rfl) (by intros;kernel_rfl) P
noncomputable abbrev qIn (x:Str):Str:=replS x ⟨⟨[39]⟩⟩ ⟨⟨[39,34,39,34,39]⟩⟩
noncomputable abbrev quoteS (x:Str):Str:=⟨⟨[39]⟩⟩++qIn x++⟨⟨[39]⟩⟩
theorem quote_call0 (P:Params):∀ (ρ:Unk) (x:Str) (t:Tok) (b tk:Nat),
 PathF 0 (fun _=>⟨fun u=>.inl (.done (.ret (.str (quoteS x) u))),[(quoteS x).length≤sizeLine,(⟨⟨[39]⟩⟩++qIn x:Str).length≤sizeLine,
  (⟨⟨[39]⟩⟩:Str).length≠0,(ρ.t 1+1 == 0 || ρ.t 1+2 == 0)=false,(ρ.t 1+1 == ρ.t 1+2)=false,((⟨⟨[39]⟩⟩:Str) == ⟨⟨[39,34,39,34,39]⟩⟩)=false,
  x.length+(Builtin.Str.occurrences x ⟨⟨[39]⟩⟩ 0 x.length (x.length+1)).length * (⟨⟨[39,34,39,34,39]⟩⟩:Str).length≤sizeLine,(qIn x).length≤sizeLine,x.length < 2 ^ 63,∃ l,x=⟨⟨47::97::32::l⟩⟩,x.length < 2 ^ 63,x.length≠0],fun _=>[]⟩)
  (runC (VK P rules1) ρ 200 (.call (.ref 874) ⟨[.str x t],[]⟩) [] b tk (orcN 1 1180610157815231710035969 1 [(.eff 20 [1],1),(.eff 26 [0],0),(.eff 23 [],0),(.eff 3 [],0),(.eff 3 [],100000)])):=
 fP2 (by intros;kernel_rfl) (by intros;kernel_rfl) P
theorem quote_call1 (P:Params):∀ (ρ:Unk) (x:Str) (t:Tok) (b tk:Nat),
 PathF 0 (fun _=>⟨fun u=>.inl (.done (.ret (.str (quoteS x) u))),[(quoteS x).length≤sizeLine,(⟨⟨[39]⟩⟩++qIn x:Str).length≤sizeLine,
  (⟨⟨[39]⟩⟩:Str).length≠0,(ρ.t 1+1 == 0 || ρ.t 1+2 == 0)=false,(ρ.t 1+1 == ρ.t 1+2)=false,((⟨⟨[39]⟩⟩:Str) == ⟨⟨[39,34,39,34,39]⟩⟩)=false,
  x.length+(Builtin.Str.occurrences x ⟨⟨[39]⟩⟩ 0 x.length (x.length+1)).length * (⟨⟨[39,34,39,34,39]⟩⟩:Str).length≤sizeLine,(qIn x).length≤sizeLine,x.length < 2 ^ 63,∃ l,x=⟨⟨39::l⟩⟩,x.length < 2 ^ 63,x.length≠0],fun _=>[]⟩)
  (runC (VK P rules1) ρ 200 (.call (.ref 874) ⟨[.str x t],[]⟩) [] b tk (orcN 1 1180610157815231710035969 1 [(.eff 20 [1],1),(.eff 26 [1],0),(.eff 23 [],0),(.eff 3 [],0),(.eff 3 [],100000)])):=
 fP2 (by intros;kernel_rfl) (by intros;kernel_rfl) P
theorem PathF.toI {v:Nat→Want} {x:Option Out} (h:PathF 0 v x):PathI [] v x:=by
 have e1:lhsF 0 x=lhsI [] x:=by
  unfold lhsF lhsI
  cases x with
  | none=>rfl
  | some o=>show some (_,_,lastC 0 o.T,_)=some (_,_,permC [] o.T,_);rw [show lastC 0 o.T=[] from by unfold lastC;rw [Nat.sub_zero,List.drop_length]];rfl
 have e2:rhsF 0 v x=rhsI [] v x:=by
  unfold rhsF rhsI
  cases x with
  | none=>rfl
  | some o=>show some (_,_,(v o.sz).st (tokT (lastC 0 o.T)),_)=some (_,_,(v o.sz).st (tokT (permC [] o.T)),_);rw [show lastC 0 o.T=[] from by unfold lastC;rw [Nat.sub_zero,List.drop_length]];rfl
 unfold PathI
 rw [←e1,←e2];exact h
noncomputable def partT (n:Nat):Str:=match n % 7 with
 | 0=>figs ((n:Int).fdiv 7)
 | 1=>figs ((n:Int).fdiv 7)++⟨⟨[32,120]⟩⟩
 | 2=>figs ((n:Int).fdiv 7)++⟨⟨[39,115]⟩⟩
 | 3=>⟨⟨[39]⟩⟩
 | 4=>⟨⟨[34]⟩⟩
 | 5=>⟨⟨[46,46]⟩⟩
 | _=>figs ((n:Int).fdiv 7)++⟨⟨[92,34]⟩⟩
noncomputable def partCS (n:Nat) (t:Tok):LSpec where
 c₀:=.call (.ref 881) ⟨[.int (n:Int) t],[]⟩
 st:=fun _=>[]
 conds:=partConds (n:Int) (n % 7)
 r:=fun _ u=>.ok (.ret (.str (partT n) (u 0)))
 st':=fun _ _=>[]
theorem partCS_ok {B:Nat} (hB:B≤700) {w:World} (n:Nat) (t:Tok):LoopOk B (VK w.params rules0) w (partCS n t):=by
 refine LF.toSpec rfl fun hc=>?_
 have O:=VK_ok w rules0
 have HR:=rules0_ok (B:=B+48) (w:=w) (V:=VK w.params rules0)
 have hm:n % 7 < 7:=Nat.mod_lt _ (by decide)
 have key:∀ k,n % 7=k→partT n=partT n:=fun _ _=>rfl
 match hk:n % 7,hm with
 | 0,_=>rw [show (partCS n t).conds=partConds (n:Int) 0 from by show partConds _ (n % 7)=_;rw [hk]] at hc
        exact LF.call O HR (ar13) rfl (fun τ b tk ρ=>(part_call0 w.params ρ n t b tk).toI) (fun ρ sz=>⟨hc,fun hsz tr τ=>⟨fun _=>tr,by show Except.ok (Flow.ret (Value.str (partT n) tr))=_;unfold partT;rw [hk];rfl,rfl⟩⟩)
 | 1,_=>rw [show (partCS n t).conds=partConds (n:Int) 1 from by show partConds _ (n % 7)=_;rw [hk]] at hc
        exact LF.call O HR (ar13) rfl (fun τ b tk ρ=>(part_call1 w.params ρ n t b tk).toI) (fun ρ sz=>⟨hc,fun hsz tr τ=>⟨fun _=>tr,by show Except.ok (Flow.ret (Value.str (partT n) tr))=_;unfold partT;rw [hk];rfl,rfl⟩⟩)
 | 2,_=>rw [show (partCS n t).conds=partConds (n:Int) 2 from by show partConds _ (n % 7)=_;rw [hk]] at hc
        exact LF.call O HR (ar13) rfl (fun τ b tk ρ=>(part_call2 w.params ρ n t b tk).toI) (fun ρ sz=>⟨hc,fun hsz tr τ=>⟨fun _=>tr,by show Except.ok (Flow.ret (Value.str (partT n) tr))=_;unfold partT;rw [hk];rfl,rfl⟩⟩)
 | 3,_=>rw [show (partCS n t).conds=partConds (n:Int) 3 from by show partConds _ (n % 7)=_;rw [hk]] at hc
        exact LF.call O HR (ar13) rfl (fun τ b tk ρ=>(part_call3 w.params ρ n t b tk).toI) (fun ρ sz=>⟨hc,fun hsz tr τ=>⟨fun _=>tr,by show Except.ok (Flow.ret (Value.str (partT n) tr))=_;unfold partT;rw [hk];rfl,rfl⟩⟩)
 | 4,_=>rw [show (partCS n t).conds=partConds (n:Int) 4 from by show partConds _ (n % 7)=_;rw [hk]] at hc
        exact LF.call O HR (ar13) rfl (fun τ b tk ρ=>(part_call4 w.params ρ n t b tk).toI) (fun ρ sz=>⟨hc,fun hsz tr τ=>⟨fun _=>tr,by show Except.ok (Flow.ret (Value.str (partT n) tr))=_;unfold partT;rw [hk];rfl,rfl⟩⟩)
 | 5,_=>rw [show (partCS n t).conds=partConds (n:Int) 5 from by show partConds _ (n % 7)=_;rw [hk]] at hc
        exact LF.call O HR (ar13) rfl (fun τ b tk ρ=>(part_call5 w.params ρ n t b tk).toI) (fun ρ sz=>⟨hc,fun hsz tr τ=>⟨fun _=>tr,by show Except.ok (Flow.ret (Value.str (partT n) tr))=_;unfold partT;rw [hk];rfl,rfl⟩⟩)
 | 6,_=>rw [show (partCS n t).conds=partConds (n:Int) 6 from by show partConds _ (n % 7)=_;rw [hk]] at hc
        exact LF.call O HR (ar13) rfl (fun τ b tk ρ=>(part_call6 w.params ρ n t b tk).toI) (fun ρ sz=>⟨hc,fun hsz tr τ=>⟨fun _=>tr,by show Except.ok (Flow.ret (Value.str (partT n) tr))=_;unfold partT;rw [hk];rfl,rfl⟩⟩)
 | m+7,h=>exact absurd h (by lia)
noncomputable def quoteCS (x:Str) (t:Tok):LSpec where
 c₀:=.call (.ref 874) ⟨[.str x t],[]⟩
 st:=fun _=>[]
 conds:=[(quoteS x).length≤sizeLine,x.length+(Builtin.Str.occurrences x ⟨⟨[39]⟩⟩ 0 x.length (x.length+1)).length * 5≤sizeLine,x.length≤sizeLine,(∃ l,x=⟨⟨47::97::32::l⟩⟩)∨(∃ l,x=⟨⟨39::l⟩⟩)]
 r:=fun _ u=>.ok (.ret (.str (quoteS x) (u 0)))
 st':=fun _ _=>[]
noncomputable def mostN:Nat→Int | 1=>2 | 2=>5 | _=>14
noncomputable def edgeN:Nat→Str | 1=>⟨⟨[39]⟩⟩ | 2=>⟨⟨[39,39,39]⟩⟩ | _=>⟨⟨[39,39,39,39,39,39,39,39]⟩⟩
noncomputable def struckT (r:Nat) (path:Str):Str:=(struckEnd (mostN r) (edgeN r) path).text++edgeN r
noncomputable def struckCS (path:Str) (r:Nat) (t t':Tok):LSpec where
 c₀:=.call (.ref 886) ⟨[.str path t,.int (r:Int) t'],[]⟩
 st:=fun _=>[]
 conds:=[(struckT r path).length≤sizeLine,FirstOk path,8+path.length * 65537≤sizeLine,path.cps.all (· < 128)=true,r=1∨r=2∨r=3]
 r:=fun _ u=>.ok (.ret (.str (struckT r path) (u 0)))
 st':=fun _ _=>[]
theorem struckCS_ok {B:Nat} (hB:B≤690) {w:World} (path:Str) (r:Nat) (t t':Tok):LoopOk B (VK w.params (rulesS w.params)) w (struckCS path r t t'):=by
 refine LF.toSpec rfl fun hc=>?_
 have O:=VK_ok w (rulesS w.params)
 have HR:=rulesS_ok (B:=B+48) (ar14) (w:=w)
 have h1:(struckT r path).length≤sizeLine:=hc _ (.head _)
 have h2:FirstOk path:=hc _ (.tail _ (.head _))
 have h3:8+path.length * 65537≤sizeLine:=hc _ (.tail _ (.tail _ (.head _)))
 have h4:path.cps.all (· < 128)=true:=hc _ (.tail _ (.tail _ (.tail _ (.head _))))
 have h5:r=1∨r=2∨r=3:=hc _ (.tail _ (.tail _ (.tail _ (.tail _ (.head _)))))
 rcases h5 with rfl | rfl | rfl
 ·exact LF.call O HR (ar13) rfl (fun τ b tk ρ=>(struck_call1 w.params ρ path t t' b tk).toI) (fun ρ sz=>⟨cC h1 (cC h2 (cC (by decide) (cC (by decide) (cC (by show 1+_≤_;lia) (cC h4 c0))))),fun hsz tr τ=>⟨fun _=>tr,rfl,rfl⟩⟩)
 ·exact LF.call O HR (ar13) rfl (fun τ b tk ρ=>(struck_call2 w.params ρ path t t' b tk).toI) (fun ρ sz=>⟨cC h1 (cC h2 (cC (by decide) (cC (by decide) (cC (by show 3+_≤_;lia) (cC h4 c0))))),fun hsz tr τ=>⟨fun _=>tr,rfl,rfl⟩⟩)
 ·exact LF.call O HR (ar13) rfl (fun τ b tk ρ=>(struck_call3 w.params ρ path t t' b tk).toI) (fun ρ sz=>⟨cC h1 (cC h2 (cC (by decide) (cC (by decide) (cC (by show 8+_≤_;exact ar13) (cC h4 c0))))),fun hsz tr τ=>⟨fun _=>tr,rfl,rfl⟩⟩)
theorem quoteCS_ok {B:Nat} (hB:B≤690) {w:World} (x:Str) (t:Tok):LoopOk B (VK w.params rules1) w (quoteCS x t):=by
 refine LF.toSpec rfl fun hc=>?_
 have O:=VK_ok w rules1
 have HR:=rules1_ok (B:=B+48) (ar14) (w:=w) (V:=VK w.params rules1) rfl
 have h1:(quoteS x).length≤sizeLine:=hc _ (.head _)
 have h2:x.length+(Builtin.Str.occurrences x ⟨⟨[39]⟩⟩ 0 x.length (x.length+1)).length * 5≤sizeLine:=hc _ (.tail _ (.head _))
 have h3:x.length≤sizeLine:=hc _ (.tail _ (.tail _ (.head _)))
 have h4:(∃ l,x=⟨⟨47::97::32::l⟩⟩)∨(∃ l,x=⟨⟨39::l⟩⟩):=hc _ (.tail _ (.tail _ (.tail _ (.head _))))
 have e1:(quoteS x).length=(⟨⟨[39]⟩⟩++qIn x:Str).length+1:=by unfold quoteS;rw [len_app];rfl
 have e2:(⟨⟨[39]⟩⟩++qIn x:Str).length=1+(qIn x).length:=by rw [len_app];rfl
 have hne:x.length≠0:=by
  rcases h4 with ⟨l,rfl⟩ | ⟨l,rfl⟩ <;> exact Nat.succ_ne_zero _
 have hlt:=sizeLine_lt h3
 rcases h4 with h4 | h4
 ·exact LF.call O HR (ar13) rfl (fun τ b tk ρ=>(quote_call0 w.params ρ x t b tk).toI) (fun ρ sz=>⟨cC h1 (cC (by lia) (cC (by decide) (cC (by simp) (cC (by simp) (cC (by decide) (cC h2 (cC (by lia) (cC hlt (cC h4 (cC hlt (cC hne c0))))))))))),fun hsz tr τ=>⟨fun _=>tr,rfl,rfl⟩⟩)
 ·exact LF.call O HR (ar13) rfl (fun τ b tk ρ=>(quote_call1 w.params ρ x t b tk).toI) (fun ρ sz=>⟨cC h1 (cC (by lia) (cC (by decide) (cC (by simp) (cC (by simp) (cC (by decide) (cC h2 (cC (by lia) (cC hlt (cC h4 (cC hlt (cC hne c0))))))))))),fun hsz tr τ=>⟨fun _=>tr,rfl,rfl⟩⟩)
end
section
open PySem.Calls
open Sem (wp)
noncomputable def ltakeS (js:List Nat) (args:List Value) (T:List Cell):Option EOut:=match args with
 | [.ref l,.ref a]=>match js with
   | [j,k]=>(T[j]?).bind fun c=>(itemsO "list" c.2).bind fun r=>(T[k]?).bind fun x=>(sliceO x.2).bind fun q=>
      some ⟨[(.nat l,.nat c.1),(.nat a,.nat x.1)],[q.1.map (·.1)=none,q.2.map (·.1)=some 5,r.1.length≤sizeLine],fun b _ u=>(.ok (.ret (.ref (b+899))),(b+899,seqO "list" (r.1.take 5) 0)::T)⟩
   | _=>none
 | _=>none
noncomputable abbrev ltakeR:ERule:=mkH "list.__getitem__" ltakeS
theorem pick5 (vs:List Value):slicePick ⟨vs⟩ none (some 5) none=⟨vs.take 5⟩:=slicePick_upto' ⟨vs⟩ 5
theorem ltakeR_ok {B:Nat} {V:RV} {w:World}:RuleOk B V pw_il0098_01 w ltakeR:=mkH_ok (by
 intro js args T eo he h1 h2 A h₀ h sz g dr tok os hA hd D hsz
 unfold ltakeS at he
 split at he
 ·rename_i l a
  split at he
  ·rename_i j k
   replace he:=bndE he;obtain ⟨c,hT,he⟩:=he
   replace he:=bndE he;obtain ⟨r,hr,he⟩:=he
   replace he:=bndE he;obtain ⟨x,hK,he⟩:=he
   replace he:=bndE he;obtain ⟨q,hq,he⟩:=he
   have hc:=D.own _ _ hT
   rw [itemsO_spec hr] at hc
   have hx:=D.own _ _ hK
   cases he
   obtain rfl:l=c.1:=Side.nat.inj (h1 _ (.head _))
   obtain rfl:a=x.1:=Side.nat.inj (h1 _ (.tail _ (.head _)))
   have e1:q.1.map (·.1)=none:=h2 _ (.head _)
   have e2:q.2.map (·.1)=some 5:=h2 _ (.tail _ (.head _))
   refine lslice_tree hc hx hq (h2 _ (.tail _ (.tail _ (.head _)))) ?_
   rw [e1,e2,pick5]
   refine ⟨sz+1 - 900,tok,fun _=>0,g,?_,?_,by exact ar4,GR.refl _ _,rfl⟩
   ·show Except.ok (Flow.ret (Value.ref _))=Except.ok (Flow.ret (Value.ref _))
    rw [D.size,show sz+1 - 900+899=sz by exact ar5]
   ·show Rep V h₀ _ ((sz+1 - 900+899,_)::T) _
    rw [show sz+1 - 900+900=sz+1 by exact ar3,show sz+1 - 900+899=sz by exact ar5]
    exact D.alloc (x:=seqO "list" (r.1.take 5) 0) rfl
  ·cases he
 ·cases he)
noncomputable def collS (js:List Nat) (T:List Cell) (l:Nat):Option EOut:=match js with
 | j::_=>(T[j]?).bind fun c=>(itemsO "list" c.2).bind fun r=>some ⟨[(.nat l,.nat c.1)],[r.1.length≤sizeLine,r.1≠[]],fun b _ u=>(.ok (.ret (.ref (b+899))),(b+899,seqO "list" r.1 1)::T)⟩
 | []=>none
noncomputable def collR:ERule:=fun _ js c T=>match c with
 | .builtin i a=>match Nat.beq (PySem.code i) (PySem.code "proto.collect") with
   | true=>match a.kw with
     | []=>match a.pos with
       | [.ref l]=>collS js T l
       | _=>none
     | _::_=>none
   | false=>none
 | _=>none
theorem collR_ok {B:Nat} {V:RV} {w:World}:RuleOk B V pw_il0098_01 w collR:=by
 intro F js c T eo he h1 h2 A h₀ h sz g dr tok os hF hA hd D hsz
 unfold collR at he
 cases c with
 | builtin i a=>
   dsimp only at he
   cases hc:Nat.beq (PySem.code i) (PySem.code "proto.collect") with
   | false=>rw [hc] at he;cases he
   | true=>
     obtain rfl:i="proto.collect":=code_inj _ _ (Nat.eq_of_beq_eq_true hc)
     rw [hc] at he
     obtain ⟨pos,kw⟩:=a
     cases kw with
     | cons=>cases he
     | nil=>
       dsimp only at he
       split at he
       ·rename_i l
        unfold collS at he
        split at he
        ·rename_i j d
         replace he:=bndE he;obtain ⟨c,hT,he⟩:=he
         replace he:=bndE he;obtain ⟨r,hr,he⟩:=he
         have hc:=D.own _ _ hT
         rw [itemsO_spec hr] at hc
         cases he
         obtain rfl:l=c.1:=Side.nat.inj (h1 _ (.head _))
         have hl:r.1.length≤sizeLine:=h2 _ (.head _)
         refine codeAny_builtin PySem.F.entry_proto_collect ?_
         rw [Around.under_plainId PySem.F.plain_proto_collect _]
         show wpAny _ A.in1 (newList [] >>= fun l=>again (.builtin "list.__iadd__" ⟨[l,.ref c.1],[]⟩)) _ _ _
         refine wpAny_bind (wpAny_newObj_type ?_)
         refine wpAny_pure ⟨plainId_quiet PySem.F.plain_list_iadd _,codeAny_builtin PySem.F.entry_list_iadd ?_⟩
         rw [Around.under_plainId PySem.F.plain_list_iadd _]
         show wpAny _ A.in1 (Builtin.List.listExtendWith (.ref h.objs.size) (.ref c.1) (.ref h.objs.size)) _ _ _
         have hS:(h.push { cls:=.type "list",data:=.seq ([]:List Value).toArray }).get? h.objs.size=some { cls:=.type "list",data:=.seq #[] 0 }:=Heap.get?_push_size _ rfl
         refine wpAny_mono (wpAny_extend_seq (hsz:=hl) (A:=A) (R:=fun r' s'=>∃ b t u g',(Except.ok (PySem.Flow.ret (.ref (b+899))):Result)=r'∧Rep V h₀ s'.heap ((b+899,seqO "list" r.1 1)::T) (b+900)∧13≤b∧GR V g g'∧s'=⟨s'.heap,g',dr,t,os⟩)
          (s:=⟨h.push { cls:=.type "list",data:=.seq ([]:List Value).toArray },g,dr,tok,os⟩) _ c.1 _ 0 (.inl rfl) hS (Heap.get?_push_of_some _ hc) rfl rfl ?_) (fun fin s' h=>h) fun _ _ h=>h
         have hne:r.1≠[]:=h2 _ (.tail _ (.head _))
         have D1:=D.alloc (x:=seqO "list" [] 0) rfl
         have D2:=D1.update (f:=Obj.mapSeq (·++⟨r.1⟩)) (j:=0) rfl rfl
         have e:Obj.mapSeq (·++(⟨r.1⟩:Array Value)) (seqO "list" [] 0)=seqO "list" r.1 1:=by
          obtain ⟨vs,n⟩:=r
          cases vs with
          | nil=>exact absurd rfl hne
          | cons v vs=>
            show (⟨.type "list",none,.seq ((⟨[]⟩:Array Value)++⟨v::vs⟩) (if ((⟨[]⟩:Array Value)++⟨v::vs⟩).size == 0 then 0 else 1),⟨[]⟩⟩:Obj)=_
            have e1:(⟨[]⟩:Array Value)++⟨v::vs⟩=⟨v::vs⟩:=Array.empty_append
            rw [e1]
            rfl
         have hb:13≤sz+1 - 900:=ar4
         refine ⟨sz+1 - 900,tok,fun _=>0,g,?_,?_,hb,GR.refl _ _,rfl⟩
         ·show Except.ok (PySem.Flow.ret (.ref (sz+1 - 900+899)))=Except.ok (PySem.Flow.ret (.ref h.objs.size))
          rw [D.size,show sz+1 - 900+899=sz by exact ar5]
         ·have q1:sz+1 - 900+900=sz+1:=ar3
          have q2:sz+1 - 900+899=sz:=ar5
          rw [q1,q2,←e]
          show Rep V h₀ ((h.push _).update h.objs.size _) _ _
          rw [D.size]
          exact D2
        ·cases he
       ·cases he
 | _=>cases he
noncomputable def AllI (vs:List Value):Prop:=∀ v∈vs,∃ n t,v= .int n t
noncomputable def valI (vs:List Value) (i:Nat):Int:=iOf (vs.getD i .none)
noncomputable def isum (vs:List Value):Int:=preSum (valI vs) vs.length
theorem Rep.lose {V:RV} {h₀:Fr} {h h':Heap} {x y:Cell} {R:List Cell} {sz:Nat} (D:Rep V h₀ h (x::y::R) sz) (k:∀ b o,b≠x.1→b≠y.1→h.get? b=some o→h'.get? b=some o):Rep V h₀ h' R h'.objs.size:=by
 have nd:=D.nodup
 have n1:=List.nodup_cons.mp nd
 have n2:=List.nodup_cons.mp n1.2
 have D':=D.sub (S:=R) ((List.sublist_cons_self y R).trans (List.sublist_cons_self x _))
 have sx:=D.sepM (a:=x.1) (by simp)
 have sy:=D.sepM (a:=y.1) (by simp)
 have fx:=D.freshM (a:=x.1) (by simp)
 have fy:=D.freshM (a:=y.1) (by simp)
 refine .ofMem rfl (fun c hc=>k _ _ (fun e=>n1.1 ?_) (fun e=>n2.1 ?_) (D'.ownM hc)) n2.2 (fun a o e=>k _ _ (fun q=>?_) (fun q=>?_) (D.stat a o e)) (fun a ha=>D'.sepM ha) (fun b o e=>k _ _ (fun q=>?_) (fun q=>?_) (D.frame b o e)) (fun a ha=>D'.freshM ha)
 ·show x.1∈_
  rw [←e];exact List.mem_cons_of_mem _ (List.mem_map_of_mem hc)
 ·show y.1∈_
  rw [←e];exact List.mem_map_of_mem hc
 ·rw [q,sx] at e;cases e
 ·rw [q,sy] at e;cases e
 ·rw [q,fx] at e;cases e
 ·rw [q,fy] at e;cases e
noncomputable def sumS (js:List Nat) (T:List Cell) (I S:Nat) (x y:Value):Option EOut:=match js with
 | [i,s,l]=>(T[i]?).bind fun ci=>(itOf "list_iterator" ci.2).bind fun ri=>(T[s]?).bind fun cs=>(itemsO "list" cs.2).bind fun rs=>(T[l]?).bind fun cl=>(itemsO "list" cl.2).bind fun rl=>match nodupB ([i,s,l]++restI [i,s,l] T.length) with
   | false=>none
   | true=>some ⟨[(.nat I,.nat ci.1),(.nat S,.nat cs.1),(.nat ri.1,.nat cl.1),(.val (.int ri.2.1 ri.2.2),.val (.int 0 0)),(.val x,.val (rawInt 0)),(.val y,.val (rawInt 0)),(.val (rs.1.headD .none),.val (.int 0 (tokV (rs.1.headD .none))))],[AllI rl.1,rs.1.length=1],
      fun b _ u=>(.ok (.ret (.int (isum rl.1) (u 0))),cl::permC (restI [i,s,l] T.length) T)⟩
 | _=>none
noncomputable def sumR:ERule:=fun _ js c T=>match c with
 | .builtin i a=>match Nat.beq (PySem.code i) (PySem.code "sum.loop") with
   | true=>match a.kw with
     | []=>match a.pos with
       | [.ref I,.ref S,x,y]=>sumS js T I S x y
       | _=>none
     | _::_=>none
   | false=>none
 | _=>none
theorem sumR_ok {B:Nat} {V:RV} {w:World} (hV:V.look=lookK w.params):RuleOk B V pw_il0098_01 w sumR:=by
 intro F js c T eo he h1 h2 A h₀ h sz g dr tok os hF hA hd D hsz
 unfold sumR at he
 cases c with
 | builtin i a=>
   dsimp only at he
   cases hc:Nat.beq (PySem.code i) (PySem.code "sum.loop") with
   | false=>rw [hc] at he;cases he
   | true=>
     obtain rfl:i="sum.loop":=code_inj _ _ (Nat.eq_of_beq_eq_true hc)
     rw [hc] at he
     obtain ⟨pos,kw⟩:=a
     cases kw with
     | cons=>cases he
     | nil=>
       dsimp only at he
       split at he
       ·rename_i I S x y
        unfold sumS at he
        split at he
        ·rename_i i s l
         replace he:=bndE he;obtain ⟨ci,hTi,he⟩:=he
         replace he:=bndE he;obtain ⟨ri,hri,he⟩:=he
         replace he:=bndE he;obtain ⟨cs,hTs,he⟩:=he
         replace he:=bndE he;obtain ⟨rs,hrs,he⟩:=he
         replace he:=bndE he;obtain ⟨cl,hTl,he⟩:=he
         replace he:=bndE he;obtain ⟨rl,hrl,he⟩:=he
         cases hn:nodupB ([i,s,l]++restI [i,s,l] T.length) with
         | false=>rw [hn] at he;cases he
         | true=>
           rw [hn] at he
           cases he
           obtain rfl:I=ci.1:=Side.nat.inj (h1 _ (.head _))
           obtain rfl:S=cs.1:=Side.nat.inj (h1 _ (.tail _ (.head _)))
           have e3:ri.1=cl.1:=Side.nat.inj (h1 _ (.tail _ (.tail _ (.head _))))
           have e4:(Value.int ri.2.1 ri.2.2)= .int 0 0:=Side.val.inj (h1 _ (.tail _ (.tail _ (.tail _ (.head _)))))
           obtain rfl:x=rawInt 0:=Side.val.inj (h1 _ (.tail _ (.tail _ (.tail _ (.tail _ (.head _))))))
           obtain rfl:y=rawInt 0:=Side.val.inj (h1 _ (.tail _ (.tail _ (.tail _ (.tail _ (.tail _ (.head _)))))))
           have e7:rs.1.headD .none= .int 0 (tokV (rs.1.headD .none)):=Side.val.inj (h1 _ (.tail _ (.tail _ (.tail _ (.tail _ (.tail _ (.tail _ (.head _))))))))
           have hI:AllI rl.1:=h2 _ (.head _)
           have hr1:rs.1.length=1:=h2 _ (.tail _ (.head _))
           have nd:=nodupB_spec hn
           have hi:=D.own _ _ hTi
           have hs:=D.own _ _ hTs
           have hl:=D.own _ _ hTl
           rw [itemsO_spec hrs] at hs
           rw [itemsO_spec hrl] at hl
           have ne:∀ {a b:Nat} {x y:Cell},T[a]? =some x→T[b]? =some y→a≠b→x.1≠y.1:=fun h1 h2 h3 e=>h3 (D.inj _ _ _ _ h1 h2 e)
           simp only [List.cons_append,List.nil_append,List.nodup_cons,List.mem_cons,not_or] at nd
           obtain ⟨⟨n1,n2, -⟩,⟨n3, -⟩, -⟩:=nd
           obtain ⟨v,hv⟩:∃ v,rs.1=[v]:=by
            match hq:rs.1,hr1 with
            | [v],_=>exact ⟨v,rfl⟩
           rw [hv] at hs e7
           have e7:v= .int 0 (tokV v):=e7
           obtain ⟨q1,q2⟩:=itOf_spec hri
           have W:=Walks.list (prog:=pw_il0098_01) (w:=w) (A:=A.in1) hA ci.1 cl.1 (ne hTl hTi (Ne.symm n2)) ⟨rl.1⟩
           refine codeAny_sum_loopG W (valI rl.1) (fun j v hj=>?_) cs.1 ?_ rl.1.length 0 _ (tokV v) rs.2 0 (.inl rfl) rfl (Nat.zero_le _) ⟨⟨ci.2,hi,q1,?_⟩,⟨_,hl,rfl,rl.2,rfl⟩⟩ ?_ fun h' tk t' hk=>?_
           ·have hj':rl.1[j]? =some v:=by simpa using hj
            obtain ⟨n,t,rfl⟩:=hI v (List.mem_of_getElem? hj')
            refine ⟨t,?_⟩
            unfold valI
            rw [List.getD_eq_getElem?_getD,hj'];rfl
           ·simp only [List.mem_cons,List.not_mem_nil,or_false,not_or]
            exact ⟨ne hTs hTi (Ne.symm n1),ne hTs hTl n3⟩
           ·rw [q2,e3]
            have a:ri.2.1=0:=congrArg iOf e4
            have b:ri.2.2=0:=congrArg tokV e4
            rw [a,b];rfl
           ·show h.get? cs.1=some (⟨.type "list",none,.seq #[.int 0 (tokV v)] rs.2,#[]⟩)
            rw [hs,←e7];rfl
           ·have D1:=D.perm (is:=[i,s]++(l::restI [i,s,l] T.length)) (nodupB_spec hn)
            have ep:permC ([i,s]++(l::restI [i,s,l] T.length)) T=ci::cs::(cl::permC (restI [i,s,l] T.length) T):=by
             unfold permC
             simp [hTi,hTs,hTl]
            rw [ep] at D1
            have D2:=D1.lose (h':=h') fun b o h1 h2 e=>hk b o (by simpa using h1) h2 e
            obtain ⟨o,ho⟩:=Option.isSome_iff_exists.mp (look912 w.params)
            have hb:912 < h'.objs.size:=Heap.lt_size (D2.stat 912 o (by rw [hV];exact ho))
            have hb2:13≤h'.objs.size - 900:=by exact ar77
            refine ⟨h'.objs.size - 900,tk,fun _=>t',g,rfl,?_,hb2,GR.refl _ _,rfl⟩
            rw [show h'.objs.size - 900+900=h'.objs.size by exact ar78]
            exact D2
        ·cases he
       ·cases he
 | _=>cases he
end
section
open PySem.Calls
noncomputable def argV (i:Nat):Code→Value
 | .call _ a=>a.pos.getD i .none
 | _=>.none
noncomputable def argVs:Code→List Value
 | .call _ a=>a.pos.tail
 | _=>[]
noncomputable def rulesL (P:Params):Nat→Option ERule:=tab rules6 [(100,loopG fun c _=>partCS (iOf (argV 0 c)).toNat (tokV (argV 0 c))),(101,loopG fun c _=>quoteCS (argSt c) (argTk c)),(102,loopG fun c _=>struckCS (argSt c) (iOf (argV 1 c)).toNat (argTk c) (tokV (argV 1 c))),(103,loopG fun c _=>stripCS (argSt c) (argTk c)),(104,loopG fun c _=>stripC0 (argSt c) (argTk c)),(105,loopG fun c _=>wordsC1 (argSt c) (argTk c)),(106,loopG fun c _=>wordsC0 (argSt c) (argTk c)),(107,loopG fun c T=>pathCS (aAt T 0) (enAt T 0) (vsAt T 0)),(108,loopG fun c T=>normCS (argSt c) (argTk c) ⟨⟨(argSt c).cps.toList.tail⟩⟩),(109,loopG fun c T=>joinCS (argSt c) (argTk c) (argVs c)),(64,ltakeR),(65,collR),(66,sumR)]
theorem rulesL_ok {B:Nat} (hB:B≤500) {V:RV} {w:World} (hV:V.look=lookK w.params) (hg:V.keepG=false):∀ i R,rulesL w.params i=some R→RuleOk B V pw_il0098_01 w R:=by
 have k:∀ {V':RV},V.keepG=true→V'.keepG=true:=fun q=>by rw [hg] at q;cases q
 exact tab_cons (loopG_ok fun c S=>LoopOk.cast (V:=VK w.params rules0) hV.symm k (partCS_ok (ar13) _ _)) (tab_cons (loopG_ok fun c S=>LoopOk.cast (V:=VK w.params rules1) hV.symm k (quoteCS_ok (ar13) _ _)) (tab_cons (loopG_ok fun c S=>LoopOk.cast (V:=VK w.params (rulesS w.params)) hV.symm k (struckCS_ok (ar13) _ _ _ _)) (tab_cons (loopG_ok fun c S=>LoopOk.cast (V:=VL w.params (rules10 w.params)) hV.symm k (stripCS_ok (ar13) _ _)) (tab_cons (loopG_ok fun c S=>LoopOk.cast (V:=VK w.params (rules10 w.params)) hV.symm k (stripC0_ok (ar13) _ _)) (tab_cons (loopG_ok fun c S=>LoopOk.cast (V:=VK w.params (rules9 w.params)) hV.symm k (wordsC1_ok (ar14) _ _)) (tab_cons (loopG_ok fun c S=>LoopOk.cast (V:=VK w.params (rules9 w.params)) hV.symm k (wordsC0_ok (ar14) _ _)) (tab_cons (loopG_ok fun c S=>LoopOk.cast (V:=VK w.params (rules7 w.params)) hV.symm k (pathCS_ok (ar14) _ _ _)) (tab_cons (loopG_ok fun c S=>LoopOk.cast (V:=VK w.params (rules8 w.params)) hV.symm k (normCS_ok (ar14) _ _ _)) (tab_cons (loopG_ok fun c S=>LoopOk.cast (V:=VK w.params (rules12 w.params)) hV.symm k (joinCS_ok (ar14) _ _ _)) (tab_cons (ltakeR_ok) (tab_cons (collR_ok) (tab_cons (sumR_ok hV) (rules6_ok (ar13) hV)))))))))))))
noncomputable def rvL (P:Params):Nat→Option ERuleV:=tab (fun _=>none) [(111,loopV (fun c T=>readGS P (aAt T 0) (esAt T 0) (nAt T 0) (argSt c) (argTk c)) (fun c T=>fr1 P (aAt T 0))),(112,loopV (fun c T=>readBS P (aAt T 0) (esAt T 0) (nAt T 0) (argSt c) (argTk c)) (fun c T=>fr1 P (aAt T 0)))]
theorem rvL_ok {B:Nat} (hB:B≤400) {V:RV} {w:World} (hV:V.look=lookK w.params) (hg:V.keepG=false):∀ i R,rvL w.params i=some R→RuleVOk B V pw_il0098_01 w R:=by
 exact tab_cons (loopV_ok (V':=fun c T=>VZ w.params (aAt T 0)) (fun c S hc=>readGS_ok _ _ _ _ _ (ar13) hc) (fun _ _=>hV.symm) (fun _ _ q=>by rw [hg] at q;cases q) (fun _ _=>rfl)) (tab_cons (loopV_ok (V':=fun c T=>VZ w.params (aAt T 0)) (fun c S hc=>readBS_ok _ _ _ _ _ hB hc) (fun _ _=>hV.symm) (fun _ _ q=>by rw [hg] at q;cases q) (fun _ _=>rfl)) (fun _ _ h=>nomatch h))
noncomputable def VW (P:Params) (L:Nat):RV:=⟨prog,P,fDen,lookK P,callTF,okc,rulesL P,false,fun _=>none,fr1 P L,rvL P⟩
theorem VW_ok (w:World) (L:Nat):VOk (VW w.params L) pw_il0098_01 w where
 inn:=fun _ _ h=>nomatch h
 prog:=prog_eq.symm
 params:=rfl
 den:=fDen_eq
 callT:=callTF_eq
 okc:=okc_spec
 nolimit:=VK_limit w.params (rulesL w.params)
noncomputable def envL (P:Params) (L:Nat):Env:=envF (o912 P) 912 L
noncomputable def lS1 (P:Params) (L SC:Nat):St:=fun τ=>[(L,frO [E P ⟨⟨[115,99,114,105,112,116]⟩⟩ (τ 0) (.ref SC)] 1)]
noncomputable def lS2 (P:Params) (L SC CL:Nat):St:=fun τ=>[(L,frO [E P ⟨⟨[115,99,114,105,112,116]⟩⟩ (τ 0) (.ref SC),E P ⟨⟨[99,101,108,108,115]⟩⟩ (τ 2) (.ref CL)] 2)]
noncomputable def lS4 (P:Params) (L SC CL PL:Nat) (r:Int):St:=fun τ=>[(L,frO [E P ⟨⟨[115,99,114,105,112,116]⟩⟩ (τ 0) (.ref SC),E P ⟨⟨[99,101,108,108,115]⟩⟩ (τ 2) (.ref CL),E P ⟨⟨[114,111,117,110,100,115]⟩⟩ (τ 4) (.int r (τ 5)),E P ⟨⟨[112,97,114,116,115]⟩⟩ (τ 6) (.ref PL)] 4)]
noncomputable def lS5 (P:Params) (L SC CL PL:Nat) (r:Int) (x:Str):St:=fun τ=>[(L,frO [E P ⟨⟨[115,99,114,105,112,116]⟩⟩ (τ 0) (.ref SC),E P ⟨⟨[99,101,108,108,115]⟩⟩ (τ 2) (.ref CL),E P ⟨⟨[114,111,117,110,100,115]⟩⟩ (τ 4) (.int r (τ 5)),E P ⟨⟨[112,97,114,116,115]⟩⟩ (τ 6) (.ref PL),E P ⟨⟨[116,101,120,116]⟩⟩ (τ 8) (.str x (τ 9))] 5)]
noncomputable def lS6 (P:Params) (L SC CL PL:Nat) (r:Int) (x:Str) (k:Int):St:=fun τ=>[(L,frO [E P ⟨⟨[115,99,114,105,112,116]⟩⟩ (τ 0) (.ref SC),E P ⟨⟨[99,101,108,108,115]⟩⟩ (τ 2) (.ref CL),E P ⟨⟨[114,111,117,110,100,115]⟩⟩ (τ 4) (.int r (τ 5)),E P ⟨⟨[112,97,114,116,115]⟩⟩ (τ 6) (.ref PL),E P ⟨⟨[116,101,120,116]⟩⟩ (τ 8) (.str x (τ 9)),E P ⟨⟨[116,117,114,110]⟩⟩ (τ 10) (.int k (τ 11))] 6)]
noncomputable def lS7 (P:Params) (L SC CL PL:Nat) (r:Int) (x:Str) (k:Int) (y:Str):St:=fun τ=>[(L,frO [E P ⟨⟨[115,99,114,105,112,116]⟩⟩ (τ 0) (.ref SC),E P ⟨⟨[99,101,108,108,115]⟩⟩ (τ 2) (.ref CL),E P ⟨⟨[114,111,117,110,100,115]⟩⟩ (τ 4) (.int r (τ 5)),E P ⟨⟨[112,97,114,116,115]⟩⟩ (τ 6) (.ref PL),E P ⟨⟨[116,101,120,116]⟩⟩ (τ 8) (.str x (τ 9)),E P ⟨⟨[116,117,114,110]⟩⟩ (τ 10) (.int k (τ 11)),E P ⟨⟨[108,101,102,116]⟩⟩ (τ 12) (.str y (τ 13))] 7)]
noncomputable def lS8 (P:Params) (L SC CL PL:Nat) (r:Int) (x:Str) (k:Int) (y:Str) (wv:Value):St:=fun τ=>[(L,frO [E P ⟨⟨[115,99,114,105,112,116]⟩⟩ (τ 0) (.ref SC),E P ⟨⟨[99,101,108,108,115]⟩⟩ (τ 2) (.ref CL),E P ⟨⟨[114,111,117,110,100,115]⟩⟩ (τ 4) (.int r (τ 5)),E P ⟨⟨[112,97,114,116,115]⟩⟩ (τ 6) (.ref PL),E P ⟨⟨[116,101,120,116]⟩⟩ (τ 8) (.str x (τ 9)),E P ⟨⟨[116,117,114,110]⟩⟩ (τ 10) (.int k (τ 11)),E P ⟨⟨[108,101,102,116]⟩⟩ (τ 12) (.str y (τ 13)),E P ⟨⟨[119,111,114,100,115]⟩⟩ (τ 14) wv] 8)]
noncomputable def lE7 (P:Params) (L SC CL PL:Nat) (r:Int) (x:Str) (k:Int) (y:Str) (τ:Nat→Tok):List DictEntry:=[E P ⟨⟨[115,99,114,105,112,116]⟩⟩ (τ 0) (.ref SC),E P ⟨⟨[99,101,108,108,115]⟩⟩ (τ 2) (.ref CL),E P ⟨⟨[114,111,117,110,100,115]⟩⟩ (τ 4) (.int r (τ 5)),E P ⟨⟨[112,97,114,116,115]⟩⟩ (τ 6) (.ref PL),E P ⟨⟨[116,101,120,116]⟩⟩ (τ 8) (.str x (τ 9)),E P ⟨⟨[116,117,114,110]⟩⟩ (τ 10) (.int k (τ 11)),E P ⟨⟨[108,101,102,116]⟩⟩ (τ 12) (.str y (τ 13))]
noncomputable def lE8 (P:Params) (L SC CL PL:Nat) (r:Int) (x:Str) (k:Int) (y:Str) (wv:Value) (τ:Nat→Tok):List DictEntry:=[E P ⟨⟨[115,99,114,105,112,116]⟩⟩ (τ 0) (.ref SC),E P ⟨⟨[99,101,108,108,115]⟩⟩ (τ 2) (.ref CL),E P ⟨⟨[114,111,117,110,100,115]⟩⟩ (τ 4) (.int r (τ 5)),E P ⟨⟨[112,97,114,116,115]⟩⟩ (τ 6) (.ref PL),E P ⟨⟨[116,101,120,116]⟩⟩ (τ 8) (.str x (τ 9)),E P ⟨⟨[116,117,114,110]⟩⟩ (τ 10) (.int k (τ 11)),E P ⟨⟨[108,101,102,116]⟩⟩ (τ 12) (.str y (τ 13)),E P ⟨⟨[119,111,114,100,115]⟩⟩ (τ 14) wv]
noncomputable def lR8 (P:Params) (L SC CL PL:Nat) (r:Int) (x:Str) (k:Int) (y:Str) (wv:Value) (vb:Value):St:=fun τ=>[(L,readyO (envL P L) (vbN vb) (frO (lE8 P L SC CL PL r x k y wv τ) 8))]
theorem law_cells0 (P:Params):∀ (L SC e:Nat) (ρ:Unk) (τ:Nat→Tok) (b tk:Nat),
 PathI [11,0,12] (fun _=>⟨(fun _=>.inl (.done .next)),[(none:Option Int)=none,some (5:Int)=some 5,([Value.int 23 (ρ.t 0+0),Value.int 43 (ρ.t 0+1),Value.int 16 (ρ.t 0+2),Value.int 4 (ρ.t 0+3),Value.int 17 (ρ.t 0+4)]:List Value).length≤sizeLine,(none:Option Int)=none,some (5:Int)=some 5,([]:List Value).length≤sizeLine],fun τ=>lS2 P L SC (ρ.b 1+899) τ++[((ρ.b 1+899),seqO "list" [Value.int 23 (ρ.t 0+0),Value.int 43 (ρ.t 0+1),Value.int 16 (ρ.t 0+2),Value.int 4 (ρ.t 0+3),Value.int 17 (ρ.t 0+4)] 0),(SC,seqO "list" [] e)]⟩)
  (runV (VW P L) ρ 400 (execsT1 (((fB (st 54)).drop 0).take 1) (envL P L)) (lS1 P L SC τ++[(SC,seqO "list" [] e)]) b tk (match P.followText "comprehension-iter-twice" with | true=>(orcN 0 46526400552698872061463028018360973212123700060378394464236812529513849177183807807776454117315745432134320398887127078160445455549610524673 0 [(.eff 64 [2,0],8),(.eff 64 [1,0],100000)]) | false=>(orcN 0 858260603666534725052409181638921560629935942045609972390157219360806419417636932887722469456591874105492030876535288706086182610227412923643554101369740918785 0 [(.eff 64 [2,0],10),(.eff 64 [1,0],100000)]))):=
 fP4 (by intros;kernel_rfl) (by intros;kernel_rfl) (by intros;kernel_rfl) (by intros;kernel_rfl) P
theorem law_cells1 (P:Params):∀ (L SC e:Nat) (n1:Int) (t1:Tok) (ρ:Unk) (τ:Nat→Tok) (b tk:Nat),
 PathI [11,0,12] (fun _=>⟨(fun _=>.inl (.done .next)),[(none:Option Int)=none,some (5:Int)=some 5,([Value.int (n1.fmod 1000000) (ρ.u 1 0),Value.int 23 (ρ.t 1+0),Value.int 43 (ρ.t 1+1),Value.int 16 (ρ.t 1+2),Value.int 4 (ρ.t 1+3),Value.int 17 (ρ.t 1+4)]:List Value).length≤sizeLine,((1000000:Int) == 0)=false,(none:Option Int)=none,some (5:Int)=some 5,([Value.int n1 t1]:List Value).length≤sizeLine],fun τ=>lS2 P L SC (ρ.b 2+899) τ++[((ρ.b 2+899),seqO "list" [Value.int (n1.fmod 1000000) (ρ.u 1 0),Value.int 23 (ρ.t 1+0),Value.int 43 (ρ.t 1+1),Value.int 16 (ρ.t 1+2),Value.int 4 (ρ.t 1+3)] 0),(SC,seqO "list" [Value.int n1 t1] e)]⟩)
  (runV (VW P L) ρ 400 (execsT1 (((fB (st 54)).drop 0).take 1) (envL P L)) (lS1 P L SC τ++[(SC,seqO "list" [Value.int n1 t1] e)]) b tk (match P.followText "comprehension-iter-twice" with | true=>(orcN 0 5387389124689225349860167019945182115009712460042226600836864365439837412017629159517230051168417525263784265453377038294852587718385212651518006549792362521162831835901720563052804215756301264037983431959069816193025 0 [(.eff 64 [2,0],14),(.eff 14 [],7),(.eff 64 [1,0],100000)]) | false=>(orcN 0 99379788408628256348938452698745307847993025860837632210428661885944210881090510856310801578392665071599353503516380490827682649082241552707596382322545689118431560528164693935296851787291376335529515196484285487619575765399697262575617 0 [(.eff 64 [2,0],16),(.eff 14 [],7),(.eff 64 [1,0],100000)]))):=
 fP4 (by intros;kernel_rfl) (by intros;kernel_rfl) (by intros;kernel_rfl) (by intros;kernel_rfl) P
theorem law_cells2 (P:Params):∀ (L SC e:Nat) (n1 n2:Int) (t1 t2:Tok) (ρ:Unk) (τ:Nat→Tok) (b tk:Nat),
 PathI [11,0,12] (fun _=>⟨(fun _=>.inl (.done .next)),[(none:Option Int)=none,some (5:Int)=some 5,([Value.int (n1.fmod 1000000) (ρ.u 1 0),Value.int (n2.fmod 1000000) (ρ.u 2 0),Value.int 23 (ρ.t 2+0),Value.int 43 (ρ.t 2+1),Value.int 16 (ρ.t 2+2),Value.int 4 (ρ.t 2+3),Value.int 17 (ρ.t 2+4)]:List Value).length≤sizeLine,((1000000:Int) == 0)=false,((1000000:Int) == 0)=false,(none:Option Int)=none,some (5:Int)=some 5,([Value.int n1 t1,Value.int n2 t2]:List Value).length≤sizeLine],fun τ=>lS2 P L SC (ρ.b 3+899) τ++[((ρ.b 3+899),seqO "list" [Value.int (n1.fmod 1000000) (ρ.u 1 0),Value.int (n2.fmod 1000000) (ρ.u 2 0),Value.int 23 (ρ.t 2+0),Value.int 43 (ρ.t 2+1),Value.int 16 (ρ.t 2+2)] 0),(SC,seqO "list" [Value.int n1 t1,Value.int n2 t2] e)]⟩)
  (runV (VW P L) ρ 400 (execsT1 (((fB (st 54)).drop 0).take 1) (envL P L)) (lS1 P L SC τ++[(SC,seqO "list" [Value.int n1 t1,Value.int n2 t2] e)]) b tk (match P.followText "comprehension-iter-twice" with | true=>(orcN 0 145243723476808883573309013811970144145316904319802503758606796344548511714168155750957703911773912642070593177309909654911540253508781871220128921120932905255663194249434319447775290922161161951182467210109016948292260291168059895931295386600323279786583897259015014405524804539187201 0 [(.eff 64 [2,0],14),(.eff 14 [],13),(.eff 14 [],7),(.eff 64 [1,0],100000)]) | false=>(orcN 0 2679273795289333144716511993396032658183229991390087481031873390549083850579159786501502833717036070304384186282959832985943751439170525160305968300899199953965270052556730928507445509304256303852457875024494586794566664509709824862070547414724599548014256206631079842274876502375078309061846375201964033 0 [(.eff 64 [2,0],16),(.eff 14 [],13),(.eff 14 [],7),(.eff 64 [1,0],100000)]))):=
 fP4 (by intros;kernel_rfl) (by intros;kernel_rfl) (by intros;kernel_rfl) (by intros;kernel_rfl) P
theorem law_cells3 (P:Params):∀ (L SC e:Nat) (n1 n2 n3:Int) (t1 t2 t3:Tok) (ρ:Unk) (τ:Nat→Tok) (b tk:Nat),
 PathI [11,0,12] (fun _=>⟨(fun _=>.inl (.done .next)),[(none:Option Int)=none,some (5:Int)=some 5,([Value.int (n1.fmod 1000000) (ρ.u 1 0),Value.int (n2.fmod 1000000) (ρ.u 2 0),Value.int (n3.fmod 1000000) (ρ.u 3 0),Value.int 23 (ρ.t 3+0),Value.int 43 (ρ.t 3+1),Value.int 16 (ρ.t 3+2),Value.int 4 (ρ.t 3+3),Value.int 17 (ρ.t 3+4)]:List Value).length≤sizeLine,((1000000:Int) == 0)=false,((1000000:Int) == 0)=false,((1000000:Int) == 0)=false,(none:Option Int)=none,some (5:Int)=some 5,([Value.int n1 t1,Value.int n2 t2,Value.int n3 t3]:List Value).length≤sizeLine],fun τ=>lS2 P L SC (ρ.b 4+899) τ++[((ρ.b 4+899),seqO "list" [Value.int (n1.fmod 1000000) (ρ.u 1 0),Value.int (n2.fmod 1000000) (ρ.u 2 0),Value.int (n3.fmod 1000000) (ρ.u 3 0),Value.int 23 (ρ.t 3+0),Value.int 43 (ρ.t 3+1)] 0),(SC,seqO "list" [Value.int n1 t1,Value.int n2 t2,Value.int n3 t3] e)]⟩)
  (runV (VW P L) ρ 400 (execsT1 (((fB (st 54)).drop 0).take 1) (envL P L)) (lS1 P L SC τ++[(SC,seqO "list" [Value.int n1 t1,Value.int n2 t2,Value.int n3 t3] e)]) b tk (match P.followText "comprehension-iter-twice" with | true=>(orcN 0 3915763038673142797169442605933873558185464844848490412446511924697736000606138104636683563678923300163968316353745230987440635311817744718404592838279073816491299095989091092780284167359844160188919819500405009974434858134450426238141075260798495707703867060035968515957436719479983699093813360110791650385576801110638494573308993366083752105615753217 0 [(.eff 64 [2,0],14),(.eff 14 [],13),(.eff 14 [],13),(.eff 14 [],7),(.eff 64 [1,0],100000)]) | false=>(orcN 0 72233078627694702669931655535254694916248775433808921707168454923753712935432551379897658618334832377810301400629635594911185633177060267730023921617922196234513304740481712911900198758754401884058011118011536862066352788298125609596782611814143380730679444208668779910450142203962673954920178184937633505357029175144555074201650588929752440207854311477397265499585445889 0 [(.eff 64 [2,0],16),(.eff 14 [],13),(.eff 14 [],13),(.eff 14 [],7),(.eff 64 [1,0],100000)]))):=
 fP4 (by intros;kernel_rfl) (by intros;kernel_rfl) (by intros;kernel_rfl) (by intros;kernel_rfl) P
theorem law_cells4 (P:Params):∀ (L SC e:Nat) (n1 n2 n3 n4:Int) (t1 t2 t3 t4:Tok) (ρ:Unk) (τ:Nat→Tok) (b tk:Nat),
 PathI [11,0,12] (fun _=>⟨(fun _=>.inl (.done .next)),[(none:Option Int)=none,some (5:Int)=some 5,([Value.int (n1.fmod 1000000) (ρ.u 1 0),Value.int (n2.fmod 1000000) (ρ.u 2 0),Value.int (n3.fmod 1000000) (ρ.u 3 0),Value.int (n4.fmod 1000000) (ρ.u 4 0),Value.int 23 (ρ.t 4+0),Value.int 43 (ρ.t 4+1),Value.int 16 (ρ.t 4+2),Value.int 4 (ρ.t 4+3),Value.int 17 (ρ.t 4+4)]:List Value).length≤sizeLine,((1000000:Int) == 0)=false,((1000000:Int) == 0)=false,((1000000:Int) == 0)=false,((1000000:Int) == 0)=false,(none:Option Int)=none,some (5:Int)=some 5,([Value.int n1 t1,Value.int n2 t2,Value.int n3 t3,Value.int n4 t4]:List Value).length≤sizeLine],fun τ=>lS2 P L SC (ρ.b 5+899) τ++[((ρ.b 5+899),seqO "list" [Value.int (n1.fmod 1000000) (ρ.u 1 0),Value.int (n2.fmod 1000000) (ρ.u 2 0),Value.int (n3.fmod 1000000) (ρ.u 3 0),Value.int (n4.fmod 1000000) (ρ.u 4 0),Value.int 23 (ρ.t 4+0)] 0),(SC,seqO "list" [Value.int n1 t1,Value.int n2 t2,Value.int n3 t3,Value.int n4 t4] e)]⟩)
  (runV (VW P L) ρ 400 (execsT1 (((fB (st 54)).drop 0).take 1) (envL P L)) (lS1 P L SC τ++[(SC,seqO "list" [Value.int n1 t1,Value.int n2 t2,Value.int n3 t3,Value.int n4 t4] e)]) b tk (match P.followText "comprehension-iter-twice" with | true=>(orcN 0 105568762683827657997073780506381737248324339915898981649745786843499345708849887927809860050997599748008606166736684836542743449378144906122495666398818802614806997789826266165723341030684228770689556340618014821184844066067830474323324603115707505019577254372407929563250272449085666625303981320960180805434366247325636489043271113363150245337929997110161588555935460201287893308560995039896151030101127518120851996673 0 [(.eff 64 [2,0],14),(.eff 14 [],13),(.eff 14 [],13),(.eff 14 [],13),(.eff 14 [],7),(.eff 64 [1,0],100000)]) | false=>(orcN 0 1947399947406747909272422223697119274490502806502682786893643281934374403078101153621697891247295828428723238672561890047679406708227469550329965259331981095381926670404923105902157132432667128647534749659251402195526235968249629359979006686849916230054813361229798461885873554148624620118269141732146632379175872725513573157937251899993022197208898507711105107310857564619625945033881596954377419328097169111223093981150987058953559670785 0 [(.eff 64 [2,0],16),(.eff 14 [],13),(.eff 14 [],13),(.eff 14 [],13),(.eff 14 [],7),(.eff 64 [1,0],100000)]))):=
 fP4 (by intros;kernel_rfl) (by intros;kernel_rfl) (by intros;kernel_rfl) (by intros;kernel_rfl) P
theorem law_cells5 (P:Params):∀ (L SC e:Nat) (n1 n2 n3 n4 n5:Int) (t1 t2 t3 t4 t5:Tok) (rest:List Value) (ρ:Unk) (τ:Nat→Tok) (b tk:Nat),
 PathI [11,0,12] (fun _=>⟨(fun _=>.inl (.done .next)),[(none:Option Int)=none,some (5:Int)=some 5,([Value.int (n1.fmod 1000000) (ρ.u 1 0),Value.int (n2.fmod 1000000) (ρ.u 2 0),Value.int (n3.fmod 1000000) (ρ.u 3 0),Value.int (n4.fmod 1000000) (ρ.u 4 0),Value.int (n5.fmod 1000000) (ρ.u 5 0),Value.int 23 (ρ.t 5+0),Value.int 43 (ρ.t 5+1),Value.int 16 (ρ.t 5+2),Value.int 4 (ρ.t 5+3),Value.int 17 (ρ.t 5+4)]:List Value).length≤sizeLine,((1000000:Int) == 0)=false,((1000000:Int) == 0)=false,((1000000:Int) == 0)=false,((1000000:Int) == 0)=false,((1000000:Int) == 0)=false,(none:Option Int)=none,some (5:Int)=some 5,((Value.int n1 t1::Value.int n2 t2::Value.int n3 t3::Value.int n4 t4::Value.int n5 t5::rest):List Value).length≤sizeLine],fun τ=>lS2 P L SC (ρ.b 6+899) τ++[((ρ.b 6+899),seqO "list" [Value.int (n1.fmod 1000000) (ρ.u 1 0),Value.int (n2.fmod 1000000) (ρ.u 2 0),Value.int (n3.fmod 1000000) (ρ.u 3 0),Value.int (n4.fmod 1000000) (ρ.u 4 0),Value.int (n5.fmod 1000000) (ρ.u 5 0)] 0),(SC,seqO "list" (Value.int n1 t1::Value.int n2 t2::Value.int n3 t3::Value.int n4 t4::Value.int n5 t5::rest) e)]⟩)
  (runV (VW P L) ρ 400 (execsT1 (((fB (st 54)).drop 0).take 1) (envL P L)) (lS1 P L SC τ++[(SC,seqO "list" (Value.int n1 t1::Value.int n2 t2::Value.int n3 t3::Value.int n4 t4::Value.int n5 t5::rest) e)]) b tk (match P.followText "comprehension-iter-twice" with | true=>(orcN 0 2846128211673076299754567807476405580974361884765955134787966034862622096502301513927165516992452220636206636571875986328450215420839527444849405714950104934466675920561858759199154692586416821621624153618192955997843992974855962644902554372800990084857225529061639290873949471667351480246893297723593326265190378681817332993090932739433840878379107615508489417172579076781783533765404528282287836796228676423610338982748106792317661036272230585313987271300079204945736880291712661127169 0 [(.eff 64 [2,0],14),(.eff 14 [],13),(.eff 14 [],13),(.eff 14 [],13),(.eff 14 [],13),(.eff 14 [],7),(.eff 64 [1,0],100000)]) | false=>(orcN 0 52501798721697884518110166409424143729359392124615269204738317812999684645282550329465383441196765585638102995340727356384867348840890510704801416024997422392283689769256690893703095562632136622514868879821249574767999537115664964679767294200953137874120601040552505344015091529029902245776070973695294801924100610143720518000302951903250645759077505973751145306633452830421878950674273940284087372237237684345777177953443304802673570949507380337757311560151210270130665755976025586028353908902068551352321 0 [(.eff 64 [2,0],16),(.eff 14 [],13),(.eff 14 [],13),(.eff 14 [],13),(.eff 14 [],13),(.eff 14 [],7),(.eff 64 [1,0],100000)]))):=
 fP4 (by intros;kernel_rfl) (by intros;kernel_rfl) (by intros;kernel_rfl) (by intros;kernel_rfl) P
theorem law_enter (P:Params):∀ (ρ:Unk) (SC:Nat) (b tk:Nat),
 PathI [0] (fun _=>⟨fun _=>.inl (.again (.func (fB (st 54)) (envL P (b+900)))),[],lS1 P (b+900) SC⟩)
  (runV (VK P (rules4 P)) ρ 400 (callTF 912 (fdO (o912 P)) ⟨[.ref SC],[]⟩) [] b tk (orcN 1 4194369537 100000 [])):=
 fP2 (by intros;kernel_rfl) (by intros;kernel_rfl) P
theorem law_parts0 (P:Params):∀ (L SC CL e:Nat) (n1 n2 n3 n4 n5:Nat) (t1 t2 t3 t4 t5:Tok) (ρ:Unk) (τ:Nat→Tok) (b tk:Nat),
 PathI [10,8] (fun _=>⟨(fun _=>.inl (.done .next)),[((3:Int) == 0)=false,(isum [Value.int (n1:Int) t1,Value.int (n2:Int) t2,Value.int (n3:Int) t3,Value.int (n4:Int) t4,Value.int (n5:Int) t5]).fmod (3:Int)=(0:Int),AllI [Value.int (n1:Int) t1,Value.int (n2:Int) t2,Value.int (n3:Int) t3,Value.int (n4:Int) t4,Value.int (n5:Int) t5],([Value.none]:List Value).length=1]++((partCS n5 t5).conds++((partCS n4 t4).conds++((partCS n3 t3).conds++((partCS n2 t2).conds++((partCS n1 t1).conds++[]))))),fun τ=>lS4 P L SC CL (b+901) 1 τ++[((b+901),seqO "list" [.str (partT n1) (ρ.u 0 0),.str (partT n2) (ρ.u 1 0),.str (partT n3) (ρ.u 2 0),.str (partT n4) (ρ.u 3 0),.str (partT n5) (ρ.u 4 0)] 5)]⟩)
  (runV (VW P L) ρ 800 (execsT1 (((fB (st 54)).drop 1).take 1) (envL P L)) (lS2 P L SC CL τ++[(CL,seqO "list" [.int (n1:Int) t1,.int (n2:Int) t2,.int (n3:Int) t3,.int (n4:Int) t4,.int (n5:Int) t5] e)]) b tk (match P.followText "comprehension-iter-twice" with | true=>(orcN 0 398406319479739406945710238097734113823834289830232424109452586099148906105779482091927259818890493553060757473715875312207705835356926384396018119148186292657442571152132513135474382136478068232895491588583549738859822190642577762680455992991664052657208752031391820719483584515944180105540088344275854010844286851776645863933988567046850839879529756984807141610474632180190519176867882639612475136646222320032423030210064399795458659854091186410669972330175244084604595794240704597800103243696965489434009450665298940682333135914330900915592145544613832685542645004952654912611856547841 6 [(.eff 100 [],5),(.eff 100 [],5),(.eff 100 [],5),(.eff 100 [],5),(.eff 100 [],9),(.eff 66 [1,0,8],0),(.eff 14 [0],0),(.eff 16 [],100000)]) | false=>(orcN 0 7349299412791317196471776742862005882619714558462033705318720578081456717393251414876256919669219313144913855964770618413133699015929377823984703977038645143185398296162618528780597311260830957041194038953334211026406987641294212238010403311571890443205645350350835342851029757410979738439476909888348013689018822772097316870389939606235336548936404939834099074939751790664837645427140238856156616689223944026865556567830480345356347460318917399283229181569782301378559268019396076741643198789802766051834381636010221471883842489223424601463810812413852861633935404612514416181233546853340751551214890647553 8 [(.eff 100 [],5),(.eff 100 [],5),(.eff 100 [],5),(.eff 100 [],5),(.eff 100 [],9),(.eff 66 [1,0,8],0),(.eff 14 [0],0),(.eff 16 [],100000)]))):=
 fP4 (by intros;kernel_rfl) (by intros;kernel_rfl) (by intros;kernel_rfl) (by intros;kernel_rfl) P
theorem law_parts1 (P:Params):∀ (L SC CL e:Nat) (n1 n2 n3 n4 n5:Nat) (t1 t2 t3 t4 t5:Tok) (ρ:Unk) (τ:Nat→Tok) (b tk:Nat),
 PathI [10,8] (fun _=>⟨(fun _=>.inl (.done .next)),[((3:Int) == 0)=false,(isum [Value.int (n1:Int) t1,Value.int (n2:Int) t2,Value.int (n3:Int) t3,Value.int (n4:Int) t4,Value.int (n5:Int) t5]).fmod (3:Int)=(1:Int),AllI [Value.int (n1:Int) t1,Value.int (n2:Int) t2,Value.int (n3:Int) t3,Value.int (n4:Int) t4,Value.int (n5:Int) t5],([Value.none]:List Value).length=1]++((partCS n5 t5).conds++((partCS n4 t4).conds++((partCS n3 t3).conds++((partCS n2 t2).conds++((partCS n1 t1).conds++[]))))),fun τ=>lS4 P L SC CL (b+901) 2 τ++[((b+901),seqO "list" [.str (partT n1) (ρ.u 0 0),.str (partT n2) (ρ.u 1 0),.str (partT n3) (ρ.u 2 0),.str (partT n4) (ρ.u 3 0),.str (partT n5) (ρ.u 4 0)] 5)]⟩)
  (runV (VW P L) ρ 800 (execsT1 (((fB (st 54)).drop 1).take 1) (envL P L)) (lS2 P L SC CL τ++[(CL,seqO "list" [.int (n1:Int) t1,.int (n2:Int) t2,.int (n3:Int) t3,.int (n4:Int) t4,.int (n5:Int) t5] e)]) b tk (match P.followText "comprehension-iter-twice" with | true=>(orcN 0 398406319479739406945710238097734113823834289830232424109452586099148906105779482091927259818890493553060757473715875312207705835356926384396018119148186292657442571152132513135474382136478068232895491588583549738859822190642577762680455992991664052657208752031391820719483584515944180105540088344275854010844286851776645863933988567046850839879529756984807141610474632180190519176867882639612475136646222320032423030210064399795458659854091186410669972330175244084604595794240704597800103243696965489434009450665298940682333135914330900915592145544613832685542645004952654912611856547841 6 [(.eff 100 [],5),(.eff 100 [],5),(.eff 100 [],5),(.eff 100 [],5),(.eff 100 [],9),(.eff 66 [1,0,8],0),(.eff 14 [1],0),(.eff 16 [],100000)]) | false=>(orcN 0 7349299412791317196471776742862005882619714558462033705318720578081456717393251414876256919669219313144913855964770618413133699015929377823984703977038645143185398296162618528780597311260830957041194038953334211026406987641294212238010403311571890443205645350350835342851029757410979738439476909888348013689018822772097316870389939606235336548936404939834099074939751790664837645427140238856156616689223944026865556567830480345356347460318917399283229181569782301378559268019396076741643198789802766051834381636010221471883842489223424601463810812413852861633935404612514416181233546853340751551214890647553 8 [(.eff 100 [],5),(.eff 100 [],5),(.eff 100 [],5),(.eff 100 [],5),(.eff 100 [],9),(.eff 66 [1,0,8],0),(.eff 14 [1],0),(.eff 16 [],100000)]))):=
 fP4 (by intros;kernel_rfl) (by intros;kernel_rfl) (by intros;kernel_rfl) (by intros;kernel_rfl) P
theorem law_parts2 (P:Params):∀ (L SC CL e:Nat) (n1 n2 n3 n4 n5:Nat) (t1 t2 t3 t4 t5:Tok) (ρ:Unk) (τ:Nat→Tok) (b tk:Nat),
 PathI [10,8] (fun _=>⟨(fun _=>.inl (.done .next)),[((3:Int) == 0)=false,(isum [Value.int (n1:Int) t1,Value.int (n2:Int) t2,Value.int (n3:Int) t3,Value.int (n4:Int) t4,Value.int (n5:Int) t5]).fmod (3:Int)=(2:Int),AllI [Value.int (n1:Int) t1,Value.int (n2:Int) t2,Value.int (n3:Int) t3,Value.int (n4:Int) t4,Value.int (n5:Int) t5],([Value.none]:List Value).length=1]++((partCS n5 t5).conds++((partCS n4 t4).conds++((partCS n3 t3).conds++((partCS n2 t2).conds++((partCS n1 t1).conds++[]))))),fun τ=>lS4 P L SC CL (b+901) 3 τ++[((b+901),seqO "list" [.str (partT n1) (ρ.u 0 0),.str (partT n2) (ρ.u 1 0),.str (partT n3) (ρ.u 2 0),.str (partT n4) (ρ.u 3 0),.str (partT n5) (ρ.u 4 0)] 5)]⟩)
  (runV (VW P L) ρ 800 (execsT1 (((fB (st 54)).drop 1).take 1) (envL P L)) (lS2 P L SC CL τ++[(CL,seqO "list" [.int (n1:Int) t1,.int (n2:Int) t2,.int (n3:Int) t3,.int (n4:Int) t4,.int (n5:Int) t5] e)]) b tk (match P.followText "comprehension-iter-twice" with | true=>(orcN 0 398406319479739406945710238097734113823834289830232424109452586099148906105779482091927259818890493553060757473715875312207705835356926384396018119148186292657442571152132513135474382136478068232895491588583549738859822190642577762680455992991664052657208752031391820719483584515944180105540088344275854010844286851776645863933988567046850839879529756984807141610474632180190519176867882639612475136646222320032423030210064399795458659854091186410669972330175244084604595794240704597800103243696965489434009450665298940682333135914330900915592145544613832685542645004952654912611856547841 6 [(.eff 100 [],5),(.eff 100 [],5),(.eff 100 [],5),(.eff 100 [],5),(.eff 100 [],9),(.eff 66 [1,0,8],0),(.eff 14 [2],0),(.eff 16 [],100000)]) | false=>(orcN 0 7349299412791317196471776742862005882619714558462033705318720578081456717393251414876256919669219313144913855964770618413133699015929377823984703977038645143185398296162618528780597311260830957041194038953334211026406987641294212238010403311571890443205645350350835342851029757410979738439476909888348013689018822772097316870389939606235336548936404939834099074939751790664837645427140238856156616689223944026865556567830480345356347460318917399283229181569782301378559268019396076741643198789802766051834381636010221471883842489223424601463810812413852861633935404612514416181233546853340751551214890647553 8 [(.eff 100 [],5),(.eff 100 [],5),(.eff 100 [],5),(.eff 100 [],5),(.eff 100 [],9),(.eff 66 [1,0,8],0),(.eff 14 [2],0),(.eff 16 [],100000)]))):=
 fP4 (by intros;kernel_rfl) (by intros;kernel_rfl) (by intros;kernel_rfl) (by intros;kernel_rfl) P
theorem law_even0 (P:Params):∀ (L SC CL PL e:Nat) (r:Int) (p1 p2 p3 p4 p5:Str) (u1 u2 u3 u4 u5:Tok) (ρ:Unk) (τ:Nat→Tok) (b tk:Nat),
 PathI [0,1] (fun _=>⟨(fun _=>.inl (.done .next)),[((2:Int) == 0)=false,(((txs [.str p1 u1,.str p2 u2,.str p3 u3,.str p4 u4,.str p5 u5]).countP (· == (⟨⟨[34]⟩⟩:Str)):Nat):Int).fmod (2:Int)=(0:Int),AllS [.str p1 u1,.str p2 u2,.str p3 u3,.str p4 u4,.str p5 u5]],fun τ=>lS4 P L SC CL PL r τ++[(PL,seqO "list" [.str p1 u1,.str p2 u2,.str p3 u3,.str p4 u4,.str p5 u5] e)]⟩)
  (runV (VW P L) ρ 400 (execsT1 (((fB (st 54)).drop 2).take 1) (envL P L)) (lS4 P L SC CL PL r τ++[(PL,seqO "list" [.str p1 u1,.str p2 u2,.str p3 u3,.str p4 u4,.str p5 u5] e)]) b tk (orcN 0 1180628514768517266014209 0 [(.eff 58 [1],0),(.eff 14 [0],100000)])):=
 fP2 (by intros;kernel_rfl) (by intros;kernel_rfl) P
theorem law_even1 (P:Params):∀ (L SC CL PL e:Nat) (r:Int) (p1 p2 p3 p4 p5:Str) (u1 u2 u3 u4 u5:Tok) (ρ:Unk) (τ:Nat→Tok) (b tk:Nat),
 PathI [2,0] (fun _=>⟨(fun _=>.inl (.done .next)),[((2:Int) == 0)=false,(((txs [.str p1 u1,.str p2 u2,.str p3 u3,.str p4 u4,.str p5 u5]).countP (· == (⟨⟨[34]⟩⟩:Str)):Nat):Int).fmod (2:Int)=(1:Int),AllS [.str p1 u1,.str p2 u2,.str p3 u3,.str p4 u4,.str p5 u5]],fun τ=>lS4 P L SC CL (ρ.b 1+901) r τ++[((ρ.b 1+901),seqO "list" [.str p1 u1,.str p2 u2,.str p3 u3,.str p4 u4,.str p5 u5,.str ⟨⟨[34]⟩⟩ (τ 13)] 0)]⟩)
  (runV (VW P L) ρ 400 (execsT1 (((fB (st 54)).drop 2).take 1) (envL P L)) (lS4 P L SC CL PL r τ++[(PL,seqO "list" [.str p1 u1,.str p2 u2,.str p3 u3,.str p4 u4,.str p5 u5] e)]) b tk (orcN 0 1725517467771777094158057260392402893005227678939076828377213361589452801 0 [(.eff 58 [1],0),(.eff 14 [1],100000)])):=
 fP2 (by intros;kernel_rfl) (by intros;kernel_rfl) P
noncomputable abbrev ljR (P:Params) (L SC CL PL e:Nat) (r:Int) (ρ:Unk) (τ:Nat→Tok) (b tk:Nat) (vs:List Value):Option Out:=runV (VW P L) ρ 400 (execsT1 (((fB (st 54)).drop 3).take 1) (envL P L)) (lS4 P L SC CL PL r τ++[(PL,seqO "list" vs e)]) b tk (orcN 1 1180628514768787848953857 0 [(.eff 65 [1],0),(.eff 109 [],100000)])
noncomputable def ljW (P:Params) (L SC CL PL e:Nat) (r:Int) (vs:List Value) (_:Nat):Want:=⟨(fun _=>.inl (.done .next)),(joinCS ⟨⟨[47,97,32,98]⟩⟩ 0 vs).conds++[vs.length≤sizeLine,vs≠[]],fun τ=>lS5 P L SC CL PL r ((txs vs).foldl jstep ⟨⟨[47,97,32,98]⟩⟩) τ++[(PL,seqO "list" vs e)]⟩
theorem law_join5 (L SC CL PL e:Nat) (r:Int) (p1 p2 p3 p4 p5:Str) (u1 u2 u3 u4 u5:Tok) (P:Params):∀ (ρ:Unk) (τ:Nat→Tok) (b tk:Nat),
 PathI [1,2] (ljW P L SC CL PL e r [.str p1 u1,.str p2 u2,.str p3 u3,.str p4 u4,.str p5 u5])
  (ljR P L SC CL PL e r ρ τ b tk [.str p1 u1,.str p2 u2,.str p3 u3,.str p4 u4,.str p5 u5]):=
 fP2 (by intros;kernel_rfl) (by intros;kernel_rfl) P
theorem law_join6 (L SC CL PL e:Nat) (r:Int) (p1 p2 p3 p4 p5 p6:Str) (u1 u2 u3 u4 u5 u6:Tok) (P:Params):∀ (ρ:Unk) (τ:Nat→Tok) (b tk:Nat),
 PathI [1,2] (ljW P L SC CL PL e r [.str p1 u1,.str p2 u2,.str p3 u3,.str p4 u4,.str p5 u5,.str p6 u6])
  (ljR P L SC CL PL e r ρ τ b tk [.str p1 u1,.str p2 u2,.str p3 u3,.str p4 u4,.str p5 u5,.str p6 u6]):=
 fP2 (by intros;kernel_rfl) (by intros;kernel_rfl) P
theorem law_quote1 (P:Params):∀ (L SC CL PL:Nat) (x:Str) (ρ:Unk) (τ:Nat→Tok) (b tk:Nat),
 PathI [4] (fun _=>⟨(fun _=>.inl (.done .next)),((quoteCS x 0).conds++[]),fun τ=>lS6 P L SC CL PL 1 (quoteS x) 0 τ⟩)
  (runV (VW P L) ρ 400 (execsT1 (((fB (st 54)).drop 4).take 1) (envL P L)) (lS5 P L SC CL PL 1 x τ) b tk (orcN 2 13093767021619357174065112095084846052778768103322320009154030058448521226696632128786860577553645824038789991791467767282905140704646027923229559979311105 11 [(.eff 101 [],100000)])):=
 fP2 (by intros;kernel_rfl) (by intros;kernel_rfl) P
theorem law_quote2 (P:Params):∀ (L SC CL PL:Nat) (x:Str) (ρ:Unk) (τ:Nat→Tok) (b tk:Nat),
 PathI [4] (fun _=>⟨(fun _=>.inl (.done .next)),((quoteCS (quoteS x) 0).conds++((quoteCS x 0).conds++[])),fun τ=>lS6 P L SC CL PL 2 (quoteS (quoteS x)) 1 τ⟩)
  (runV (VW P L) ρ 400 (execsT1 (((fB (st 54)).drop 4).take 1) (envL P L)) (lS5 P L SC CL PL 2 x τ) b tk (orcN 2 353007260574953747763173731329317878924836873884235303827231313529659662683694415400644088055202809622575472244082818590909626079363072321063739530380628775345662221717953395273821740658171877915407177385336466208540655617 11 [(.eff 101 [],3),(.eff 101 [],100000)])):=
 fP2 (by intros;kernel_rfl) (by intros;kernel_rfl) P
theorem law_quote3 (P:Params):∀ (L SC CL PL:Nat) (x:Str) (ρ:Unk) (τ:Nat→Tok) (b tk:Nat),
 PathI [4] (fun _=>⟨(fun _=>.inl (.done .next)),((quoteCS (quoteS (quoteS x)) 0).conds++((quoteCS (quoteS x) 0).conds++((quoteCS x 0).conds++[]))),fun τ=>lS6 P L SC CL PL 3 (quoteS (quoteS (quoteS x))) 2 τ⟩)
  (runV (VW P L) ρ 400 (execsT1 (((fB (st 54)).drop 4).take 1) (envL P L)) (lS5 P L SC CL PL 3 x τ) b tk (orcN 2 9517056918217701736935910866047333695385943911038604531041736133602186833888388263024937440116206991526574400419469906445008626264289910108403064577929916690293545880749950670226630599659767371842408290341152789704570112478948516452349924345001826696640762806117090543187536250960894558209 11 [(.eff 101 [],3),(.eff 101 [],3),(.eff 101 [],100000)])):=
 fP2 (by intros;kernel_rfl) (by intros;kernel_rfl) P
theorem law_strip_true (P:Params):∀ (L SC CL PL:Nat) (r:Int) (x:Str) (k:Int) (ρ:Unk) (τ:Nat→Tok) (b tk:Nat),
 PathI [0] (fun _=>⟨(fun _=>.inl (.done .next)),(stripCS x 0).conds++[],fun τ=>lS7 P L SC CL PL r x k (stripT x) τ⟩)
  (runV (VW P L) ρ 400 (execsT1 (((fB (st 54)).drop 5).take 1) (envL P L)) (lS6 P L SC CL PL r x k τ) b tk (orcN 1 274882201976897 0 [(.eff 103 [],100000)])):=
 fP2 (by intros;kernel_rfl) (by intros;kernel_rfl) P
theorem law_strip_false (P:Params):∀ (L SC CL PL:Nat) (r:Int) (x:Str) (k:Int) (ρ:Unk) (τ:Nat→Tok) (b tk:Nat),
 PathI [0] (fun _=>⟨(fun _=>.inl (.done .next)),(stripC0 x 0).conds++[],fun τ=>lS7 P L SC CL PL r x k x τ⟩)
  (runV (VW P L) ρ 400 (execsT1 (((fB (st 54)).drop 5).take 1) (envL P L)) (lS6 P L SC CL PL r x k τ) b tk (orcN 1 274882201976897 0 [(.eff 104 [],100000)])):=
 fP2 (by intros;kernel_rfl) (by intros;kernel_rfl) P
theorem law_struck (P:Params):∀ (L SC CL PL e:Nat) (r:Nat) (x:Str) (k:Int) (y:Str) (vs:List Value) (ρ:Unk) (τ:Nat→Tok) (b tk:Nat),
 PathI [2] (fun _=>⟨(fun _=>.inl (.done .next)),[¬(y≠struckT r (Builtin.Str.glued ⟨⟨[47]⟩⟩ (txs ([.str ⟨⟨[47,97,32,98]⟩⟩ (tk+1)]++vs))))]++((struckCS (Builtin.Str.glued ⟨⟨[47]⟩⟩ (txs ([.str ⟨⟨[47,97,32,98]⟩⟩ (tk+1)]++vs))) r 0 0).conds++[AllS ([.str ⟨⟨[47,97,32,98]⟩⟩ (tk+1)]++vs),Builtin.Str.tooLong ((txs ([.str ⟨⟨[47,97,32,98]⟩⟩ (tk+1)]++vs)).toArray.foldl (·+·.length+(⟨⟨[47]⟩⟩:Str).length) 0)=false,(Builtin.Str.glued ⟨⟨[47]⟩⟩ (txs ([.str ⟨⟨[47,97,32,98]⟩⟩ (tk+1)]++vs))).length≤sizeLine,1+vs.length≤sizeLine]),fun τ=>lS7 P L SC CL PL (r:Int) x k y τ⟩)
  (runV (VW P L) ρ 400 (execsT1 (((fB (st 54)).drop 6).take 1) (envL P L)) (lS7 P L SC CL PL (r:Int) x k y τ++[(PL,seqO "list" vs e)]) b tk (orcN 0 77374879251242699571654164545 0 [(.eff 53 [0,2],0),(.eff 56 [0],0),(.eff 102 [],0),(.eff 1 [0],100000)])):=
 fP2 (by intros;kernel_rfl) (by intros;kernel_rfl) P
theorem law_read_true (P:Params):∀ (L SC CL PL:Nat) (r:Int) (x:Str) (k:Int) (y:Str) (ρ:Unk) (τ:Nat→Tok) (b tk:Nat),
 PathI [0,1] (fun _=>⟨(fun _=>.inl (.done .next)),(readGS P L (lE7 P L SC CL PL r x k y τ) 7 y 0).conds++[],fun τ=>lR8 P L SC CL PL r x k y (.ref (ρ.u 0 0)) (ρ.v 0 0) τ++[(ρ.u 0 0,seqO "list" (strsU (fun i=>ρ.u 0 (i+2)) (toksOf y.cps.toList)) (ρ.u 0 1))]⟩)
  (runV (VW P L) ρ 400 (execsT1 (((fB (st 54)).drop 7).take 1) (envL P L)) (lS7 P L SC CL PL r x k y τ) b tk (orcN 1 274882201976897 0 [(.eff 111 [0],100000)])):=
 fP2 (by intros;kernel_rfl) (by intros;kernel_rfl) P
theorem law_read_false (P:Params):∀ (L SC CL PL:Nat) (r:Int) (x:Str) (k:Int) (y:Str) (ρ:Unk) (τ:Nat→Tok) (b tk:Nat),
 PathI [0] (fun _=>⟨(fun _=>.inl (.done .next)),(readBS P L (lE7 P L SC CL PL r x k y τ) 7 y 0).conds++[],fun τ=>lR8 P L SC CL PL r x k y .none (ρ.v 0 0) τ⟩)
  (runV (VW P L) ρ 400 (execsT1 (((fB (st 54)).drop 7).take 1) (envL P L)) (lS7 P L SC CL PL r x k y τ) b tk (orcN 1 274882201976897 0 [(.eff 112 [0],100000)])):=
 fP2 (by intros;kernel_rfl) (by intros;kernel_rfl) P
noncomputable def sIf8:Stmt:=((fB (st 54)).drop 8).headD default
noncomputable def cmp1:Expr→Expr | .Compare l ..=>l | _=>default
noncomputable def cmp2:Expr→List Expr | .Compare _ _ r _=>r | _=>[]
noncomputable def cmpL (s:Stmt):Expr:=cmp1 (ifTest s)
noncomputable def cmpR (s:Stmt):Expr:=(cmp2 (ifTest s)).headD default
theorem law_cmp_l (P:Params):∀ (L SC CL PL:Nat) (r:Int) (x:Str) (k:Int) (y:Str) (wv vb:Value) (ρ:Unk) (τ:Nat→Tok) (b tk:Nat),
 PathI [0] (fun _=>⟨(fun _=>.inl (.done (.ret wv))),[],lR8 P L SC CL PL r x k y wv vb⟩)
  (runV (VW P L) ρ 100 (evalT1 (cmpL sIf8) (envL P L)) (lR8 P L SC CL PL r x k y wv vb τ) b tk (orcN 0 64001 100000 [])):=
 fP2 (by intros;kernel_rfl) (by intros;kernel_rfl) P
theorem law_cmp_r (P:Params):∀ (L SC CL PL:Nat) (r:Int) (x:Str) (k:Int) (y:Str) (wv vb:Value) (ρ:Unk) (τ:Nat→Tok) (b tk:Nat),
 PathI [1,0] (fun _=>⟨(fun _=>.inl (.done (.ret (.ref (ρ.u 0 0))))),(wordsC1 y 0).conds++[],fun τ=>lR8 P L SC CL PL r x k y wv vb τ++[(ρ.u 0 0,seqO "list" (strsU (fun i=>ρ.u 0 (i+2)) (wordsT y)) (ρ.u 0 1))]⟩)
  (runV (VW P L) ρ 100 (evalT1 (cmpR sIf8) (envL P L)) (lR8 P L SC CL PL r x k y wv vb τ) b tk (orcN 1 64001 0 [(.eff 105 [],100000)])):=
 fP2 (by intros;kernel_rfl) (by intros;kernel_rfl) P
theorem law_cmp_none (P:Params):∀ (L SC CL PL:Nat) (r:Int) (x:Str) (k:Int) (y:Str) (vb:Value) (ρ:Unk) (τ:Nat→Tok) (b tk:Nat),
 PathI [0] (fun _=>⟨(fun _=>.inl (.done .next)),(wordsC0 y 0).conds++[],lR8 P L SC CL PL r x k y .none vb⟩)
  (runV (VW P L) ρ 100 (execsT1 (((fB (st 54)).drop 8).take 1) (envL P L)) (lR8 P L SC CL PL r x k y .none vb τ) b tk (orcN 0 4194369601 0 [(.eff 106 [],100000)])):=
 fP2 (by intros;kernel_rfl) (by intros;kernel_rfl) P
theorem law_end_none (P:Params):∀ (L SC CL PL:Nat) (r:Int) (x:Str) (k:Int) (y:Str) (vb:Value) (ρ:Unk) (τ:Nat→Tok) (b tk:Nat),
 PathI [] (fun _=>⟨(fun _=>.inl (.done (.ret (.bool true)))),[],fun _=>[]⟩)
  (runV (VW P L) ρ 100 (execsT1 (((fB (st 54)).drop 9).take 1) (envL P L)) (lR8 P L SC CL PL r x k y .none vb τ) b tk (orcN 0 64001 100000 [])):=
 fP2 (by intros;kernel_rfl) (by intros;kernel_rfl) P
noncomputable abbrev leR (P:Params) (L SC CL PL W e:Nat) (r:Int) (x:Str) (k:Int) (y:Str) (vb:Value) (ρ:Unk) (τ:Nat→Tok) (b tk:Nat) (vs:List Value):Option Out:=runV (VW P L) ρ 200 (execsT1 (((fB (st 54)).drop 9).take 1) (envL P L)) (lR8 P L SC CL PL r x k y (.ref W) vb τ++[(W,seqO "list" vs e)]) b tk (orcN 0 1180628568530237817684097 0 [(.eff 65 [1],0),(.eff 109 [],0),(.eff 108 [],0),(.eff 107 [2],0),(.eff 0 [1],100000)])
noncomputable def leW (W e:Nat) (vs:List Value) (_:Nat):Want:=⟨(fun _=>.inl (.done (.ret (.bool true)))),[(⟨⟨[47]⟩⟩++Builtin.Str.glued ⟨⟨[47]⟩⟩ (normT ⟨⟨((txs vs).foldl jstep ⟨⟨[47]⟩⟩).cps.toList.tail⟩⟩))=(⟨⟨[47]⟩⟩++Builtin.Str.glued ⟨⟨[47]⟩⟩ (pathT (txs vs)))]++((pathCS W e vs).conds++((normCS ((txs vs).foldl jstep ⟨⟨[47]⟩⟩) 0 ⟨⟨((txs vs).foldl jstep ⟨⟨[47]⟩⟩).cps.toList.tail⟩⟩).conds++((joinCS ⟨⟨[47]⟩⟩ 0 vs).conds++[vs.length≤sizeLine,vs≠[]]))),fun _=>[]⟩
theorem law_end1 (L SC CL PL W e:Nat) (r:Int) (x:Str) (k:Int) (y:Str) (vb:Value) (p1:Str) (u1:Tok) (P:Params):∀ (ρ:Unk) (τ:Nat→Tok) (b tk:Nat),
 PathI [] (leW W e [.str p1 u1])
  (leR P L SC CL PL W e r x k y vb ρ τ b tk [.str p1 u1]):=
 fP2 (by intros;kernel_rfl) (by intros;kernel_rfl) P
theorem law_end2 (L SC CL PL W e:Nat) (r:Int) (x:Str) (k:Int) (y:Str) (vb:Value) (p1 p2:Str) (u1 u2:Tok) (P:Params):∀ (ρ:Unk) (τ:Nat→Tok) (b tk:Nat),
 PathI [] (leW W e [.str p1 u1,.str p2 u2])
  (leR P L SC CL PL W e r x k y vb ρ τ b tk [.str p1 u1,.str p2 u2]):=
 fP2 (by intros;kernel_rfl) (by intros;kernel_rfl) P
theorem law_end3 (L SC CL PL W e:Nat) (r:Int) (x:Str) (k:Int) (y:Str) (vb:Value) (p1 p2 p3:Str) (u1 u2 u3:Tok) (P:Params):∀ (ρ:Unk) (τ:Nat→Tok) (b tk:Nat),
 PathI [] (leW W e [.str p1 u1,.str p2 u2,.str p3 u3])
  (leR P L SC CL PL W e r x k y vb ρ τ b tk [.str p1 u1,.str p2 u2,.str p3 u3]):=
 fP2 (by intros;kernel_rfl) (by intros;kernel_rfl) P
theorem law_end4 (L SC CL PL W e:Nat) (r:Int) (x:Str) (k:Int) (y:Str) (vb:Value) (p1 p2 p3 p4:Str) (u1 u2 u3 u4:Tok) (P:Params):∀ (ρ:Unk) (τ:Nat→Tok) (b tk:Nat),
 PathI [] (leW W e [.str p1 u1,.str p2 u2,.str p3 u3,.str p4 u4])
  (leR P L SC CL PL W e r x k y vb ρ τ b tk [.str p1 u1,.str p2 u2,.str p3 u3,.str p4 u4]):=
 fP2 (by intros;kernel_rfl) (by intros;kernel_rfl) P
theorem law_end5 (L SC CL PL W e:Nat) (r:Int) (x:Str) (k:Int) (y:Str) (vb:Value) (p1 p2 p3 p4 p5:Str) (u1 u2 u3 u4 u5:Tok) (P:Params):∀ (ρ:Unk) (τ:Nat→Tok) (b tk:Nat),
 PathI [] (leW W e [.str p1 u1,.str p2 u2,.str p3 u3,.str p4 u4,.str p5 u5])
  (leR P L SC CL PL W e r x k y vb ρ τ b tk [.str p1 u1,.str p2 u2,.str p3 u3,.str p4 u4,.str p5 u5]):=
 fP2 (by intros;kernel_rfl) (by intros;kernel_rfl) P
theorem law_end6 (L SC CL PL W e:Nat) (r:Int) (x:Str) (k:Int) (y:Str) (vb:Value) (p1 p2 p3 p4 p5 p6:Str) (u1 u2 u3 u4 u5 u6:Tok) (P:Params):∀ (ρ:Unk) (τ:Nat→Tok) (b tk:Nat),
 PathI [] (leW W e [.str p1 u1,.str p2 u2,.str p3 u3,.str p4 u4,.str p5 u5,.str p6 u6])
  (leR P L SC CL PL W e r x k y vb ρ τ b tk [.str p1 u1,.str p2 u2,.str p3 u3,.str p4 u4,.str p5 u5,.str p6 u6]):=
 fP2 (by intros;kernel_rfl) (by intros;kernel_rfl) P
theorem law_end7 (L SC CL PL W e:Nat) (r:Int) (x:Str) (k:Int) (y:Str) (vb:Value) (p1 p2 p3 p4 p5 p6 p7:Str) (u1 u2 u3 u4 u5 u6 u7:Tok) (P:Params):∀ (ρ:Unk) (τ:Nat→Tok) (b tk:Nat),
 PathI [] (leW W e [.str p1 u1,.str p2 u2,.str p3 u3,.str p4 u4,.str p5 u5,.str p6 u6,.str p7 u7])
  (leR P L SC CL PL W e r x k y vb ρ τ b tk [.str p1 u1,.str p2 u2,.str p3 u3,.str p4 u4,.str p5 u5,.str p6 u6,.str p7 u7]):=
 fP2 (by intros;kernel_rfl) (by intros;kernel_rfl) P
end
section
section
variable {a b c d n m k j s x:Nat}
theorem ar80 (h:a≤k+s:=by assumption):a≤k+1+(s - 1):=by
 cases s with
 | zero=>exact Nat.le_succ_of_le h
 | succ s=>exact Nat.le_trans h (Nat.le_of_eq (Nat.add_right_comm k 1 s).symm)
theorem ar81 (h:0 < s→a=k+s:=by assumption):0 < s - 1→a=k+1+(s - 1):=by
 cases s with
 | zero=>exact fun q=>absurd q (Nat.lt_irrefl 0)
 | succ s=>exact fun _=>(h (Nat.succ_pos s)).trans (Nat.add_right_comm k 1 s).symm
theorem ar83:k+(s+1)=k+1+s:=(Nat.add_right_comm k 1 s).symm
theorem ar84 (h:b≠0:=by assumption):k+b=k+1+(b - 1):=by
 cases b with
 | zero=>exact absurd rfl h
 | succ b=>exact ar83
theorem ar85 (h:a=k+(s+1):=by assumption):k+1 - a=0:=by
 rw [h];exact Nat.sub_eq_zero_of_le (Nat.add_le_add_left (Nat.succ_le_succ (Nat.zero_le s)) k)
theorem ar86 (h:b - 1=0):k+b≤k+1:=Nat.add_le_add_left (Nat.sub_eq_zero_iff_le.mp h) k
theorem ar87 (h:min b (n - a)=b:=by assumption) (k:b≠0:=by assumption):a+b≤n:=by
 have q:b≤n - a:=h▸Nat.min_le_right b (n - a)
 exact Nat.add_le_of_le_sub' (Nat.le_of_lt (Nat.lt_of_sub_pos (Nat.lt_of_lt_of_le (Nat.pos_of_ne_zero k) q))) q
theorem ar88 (h:a≤b+1:=by assumption):a+c≤b+(c+1):=Nat.le_trans (Nat.add_le_add_right h c) (Nat.le_of_eq ar83.symm)
end
end
section
open PySem.Calls
open PySem.Builtin PySem.Builtin.Str PySem.StrLaws
noncomputable abbrev L (x:Str):List Nat:=x.cps.toList
theorem L_len (x:Str):(L x).length=x.length:=by simp [L,Str.length]
theorem L_inj {x y:Str} (h:L x=L y):x=y:=Str.ext' (Array.toList_inj.mp h)
noncomputable def ofL (l:List Nat):Str:=⟨l.toArray⟩
theorem L_of (l:List Nat):L (ofL l)=l:=by simp [L,ofL]
theorem of_L (x:Str):ofL (L x)=x:=L_inj (L_of _)
theorem L_app (x y:Str):L (x++y)=L x++L y:=by simp [L,Str.cps_append]
noncomputable def cutsL (y:List Nat):Nat→Nat→List Nat→List Nat
 | _,_,[]=>[]
 | k,s+1,_::l=>cutsL y (k+1) s l
 | k,0,c::l=>if (c::l).take y.length=y then k::cutsL y (k+1) (y.length - 1) l else cutsL y (k+1) 0 l
theorem sub_iff {x y:Str} {i:Nat} (hy:y.length≠0):(i+y.length≤x.length∧subAt x y i=true)↔((L x).drop i).take (L y).length=L y:=by
 rw [subAt_eq]
 have e1:=L_len x
 have e2:=L_len y
 have e3:L y=y.cps.toList:=rfl
 constructor
 ·rintro ⟨h1,h2⟩
  rw [e2];exact eq_of_beq h2
 ·intro h
  have h3:=congrArg List.length h
  rw [List.length_take,List.length_drop,e1,e2] at h3
  rw [e2] at h
  refine ⟨by lia,beq_iff_eq.mpr h⟩
theorem occ_go {x y:Str} (hy:y.length≠0):∀ (m k s:Nat) (st:Array Nat×Nat),k+m=x.length+1→st.1.size≤k→st.2≤k+s→(0 < s→st.2=k+s)→
 (forIn (List.range' k m) st (occBody x y x.length (x.length+1))).run.fst.toList=st.1.toList++cutsL (L y) k s ((L x).drop k)
 | 0,k,s,st,hk,_,_,_=>by
   rw [List.drop_eq_nil_of_le (by rw [L_len];exact Nat.le_trans (Nat.le_succ _) (Nat.le_of_eq hk.symm))]
   show st.1.toList=_
   cases s <;> simp [cutsL]
 | m+1,k,s,st,hk,h1,h2,h3=>by
   rw [List.range'_succ,List.forIn_cons]
   unfold occBody
   have ih:=fun (s':Nat) (st':Array Nat×Nat)=>occ_go (x:=x) (y:=y) hy m (k+1) s' st' (by exact ar20)
   have hd:((L x).drop k).drop 1=(L x).drop (k+1):=by rw [List.drop_drop]
   have hsub:=sub_iff (x:=x) (y:=y) (i:=k) hy
   have hl:(L y).length=y.length:=L_len y
   cases hr:(L x).drop k with
   | nil=>
     rw [hr] at hd hsub
     have hnf:¬(((st.fst.size < x.length+1∧st.snd≤k)∧k+y.length≤x.length)∧subAt x y k=true):=fun z=>by
      have:=hsub.mp ⟨z.1.2,z.2⟩
      rw [List.take_nil] at this
      rw [←this] at hl
      exact hy hl.symm
     rw [if_neg hnf]
     have:=ih 0 (st.1,k+1) (by show st.1.size≤k+1;exact ar15) (by simp) (by simp)
     have z:=ih (s - 1) st (by exact ar15) (by exact ar80) (by exact ar81)
     rw [←hd] at z
     have e:cutsL (L y) (k+1) (s - 1) ([].drop 1)=cutsL (L y) k s []:=by
      cases s <;> simp [cutsL]
     rw [←e]
     exact z
   | cons c r=>
     rw [hr] at hd hsub
     have hd:r=(L x).drop (k+1):=hd
     cases s with
     | succ s=>
       have h3:=h3 (Nat.succ_pos s)
       have hnf:¬(((st.fst.size < x.length+1∧st.snd≤k)∧k+y.length≤x.length)∧subAt x y k=true):=fun z=>by
        exact Nat.not_le_of_gt (ar21 h3.symm) z.1.1.2
       rw [if_neg hnf]
       have z:=ih s st (by exact ar15) (Nat.le_of_eq (h3.trans ar83)) (fun _=>h3.trans ar83)
       rw [←hd] at z
       exact z
     | zero=>
       by_cases hc:(c::r).take (L y).length=L y
       ·have hf:=hsub.mpr hc
        rw [if_pos ⟨⟨⟨Nat.lt_of_le_of_lt h1 (ar21 hk),h2⟩,hf.1⟩,hf.2⟩]
        have z:=ih ((L y).length - 1) (st.1.push k,k+y.length) (by rw [Array.size_push];exact Nat.succ_le_succ h1) (by rw [hl];exact Nat.le_of_eq ar84) (by intro _;rw [hl];exact ar84)
        rw [←hd] at z
        have e:cutsL (L y) k 0 (c::r)=k::cutsL (L y) (k+1) ((L y).length - 1) r:=by
         show (if (c::r).take (L y).length=L y then _ else _)=_
         rw [if_pos hc]
        rw [e]
        rw [Array.toList_push,List.append_assoc] at z
        exact z
       ·have hnf:¬(((st.fst.size < x.length+1∧st.snd≤k)∧k+y.length≤x.length)∧subAt x y k=true):=fun z=>hc (hsub.mp ⟨z.1.2,z.2⟩)
        rw [if_neg hnf]
        have z:=ih 0 st (by exact ar15) (Nat.le_succ_of_le h2) (fun q=>absurd q (Nat.lt_irrefl 0))
        rw [←hd] at z
        have e:cutsL (L y) k 0 (c::r)=cutsL (L y) (k+1) 0 r:=by
         show (if (c::r).take (L y).length=L y then _ else _)=_
         rw [if_neg hc]
        rw [e]
        exact z
theorem occ_list {x y:Str} (hy:y.length≠0):occurrences x y 0 x.length (x.length+1)=cutsL (L y) 0 0 (L x):=by
 rw [occ_eq]
 have:=occ_go (x:=x) hy (x.length+1) 0 0 (#[],0) (by lia) (by simp) (by simp) (by simp)
 rw [List.drop_zero] at this
 simpa using this
noncomputable def partsL (y:List Nat):Nat→List Nat→List Nat→List (List Nat)
 | _,cur,[]=>[cur]
 | s+1,cur,_::l=>partsL y s cur l
 | 0,cur,c::l=>if (c::l).take y.length=y then cur::partsL y (y.length - 1) [] l else partsL y 0 (cur++[c]) l
theorem parts_go {x:Str} {y:List Nat} (hy:y.length≠0):∀ (r:List Nat) (k s a:Nat),(L x).drop k=r→k≤x.length→(s=0→a≤k)→(0 < s→a=k+s)→
 (partsFrom x y.length a (cutsL y k s r)).map L=partsL y s (((L x).drop a).take (k - a)) r
 | [],k,s,a,hr,hk,h1,h2=>by
   have hkn:k=x.length:=by
    have:=congrArg List.length hr
    rw [List.length_drop,L_len,List.length_nil] at this
    exact ar37
   have e:cutsL y k s []=[]:=by cases s <;> rfl
   have e2:∀ cur,partsL y s cur []=[cur]:=by intro cur;cases s <;> rfl
   rw [e,e2,hkn]
   show [(strSub x a x.length).cps.toList]=_
   rw [strSub_toList]
 | c::r,k,s,a,hr,hk,h1,h2=>by
   have hd:(L x).drop (k+1)=r:=by rw [←List.drop_drop,hr];rfl
   have hlt:k < x.length:=by
    have:=congrArg List.length hr
    rw [List.length_drop,L_len,List.length_cons] at this
    exact ar38
   have hg:(L x)[k]? =some c:=by
    have:=congrArg (·[0]?) hr
    simpa using this
   cases s with
   | succ s=>
     have ha:=h2 (Nat.succ_pos s)
     have ih:=parts_go (x:=x) hy r (k+1) s a hd (by exact ar16) (fun e=>by rw [ha,e];exact Nat.le_refl _) (fun _=>ha.trans ar83)
     show (partsFrom x y.length a (cutsL y (k+1) s r)).map L=partsL y s (((L x).drop a).take (k - a)) r
     rw [ih,show k+1 - a=0 by exact ar85,show k - a=0 from Nat.sub_eq_zero_of_le (Nat.le_of_lt (ar21 ha.symm))]
   | zero=>
     have ha:=h1 rfl
     by_cases hc:(c::r).take y.length=y
     ·have e1:cutsL y k 0 (c::r)=k::cutsL y (k+1) (y.length - 1) r:=by
       show (if _ then _ else _)=_
       rw [if_pos hc]
      have e2:∀ cur,partsL y 0 cur (c::r)=cur::partsL y (y.length - 1) [] r:=by
       intro cur
       show (if _ then _ else _)=_
       rw [if_pos hc]
      rw [e1,e2]
      have ih:=parts_go (x:=x) hy r (k+1) (y.length - 1) (k+y.length) hd (by exact ar16) ar86 (fun _=>ar84)
      show (strSub x a k).cps.toList::(partsFrom x y.length (k+y.length) (cutsL y (k+1) (y.length - 1) r)).map L=_
      rw [ih,strSub_toList,show k+1 - (k+y.length)=0 from Nat.sub_eq_zero_of_le (Nat.add_le_add_left (Nat.pos_of_ne_zero hy) k),List.take_zero]
     ·have e1:cutsL y k 0 (c::r)=cutsL y (k+1) 0 r:=by
       show (if _ then _ else _)=_
       rw [if_neg hc]
      have e2:∀ cur,partsL y 0 cur (c::r)=partsL y 0 (cur++[c]) r:=by
       intro cur
       show (if _ then _ else _)=_
       rw [if_neg hc]
      rw [e1,e2]
      have ih:=parts_go (x:=x) hy r (k+1) 0 a hd (by exact ar16) (fun _=>Nat.le_succ_of_le ha) (fun q=>absurd q (Nat.lt_irrefl 0))
      rw [ih]
      congr 1
      rw [show k+1 - a=(k - a)+1 by exact ar32,List.take_add_one,List.getElem?_drop,show a+(k - a)=k by exact ar36,hg]
      rfl
theorem between_list {x y:Str} (hy:y.length≠0):(partsBetween x (occurrences x y 0 x.length (x.length+1)) y.length).map L=partsL (L y) 0 [] (L x):=by
 rw [partsBetween_eq,occ_list hy]
 have:=parts_go (x:=x) (y:=L y) (by rw [L_len];exact hy) (L x) 0 0 0 (List.drop_zero ..) (by lia) (by decide) (by decide)
 rw [L_len] at this
 rw [this]
 rfl
theorem cuts_none {y:List Nat}:∀ (l:List Nat) (k:Nat) (cur:List Nat),cutsL y k 0 l=[]→partsL y 0 cur l=[cur++l]
 | [],k,cur,h=>by show [cur]=_;rw [List.append_nil]
 | c::l,k,cur,h=>by
   unfold cutsL at h
   split at h
   ·cases h
   ·rename_i q
    show (if _ then _ else _)=_
    rw [if_neg q,cuts_none l (k+1) _ h]
    simp
theorem cuts_short {y:List Nat} (hy:y.length≠0):∀ (l:List Nat) (k:Nat),l.length < y.length→cutsL y k 0 l=[]
 | [],k,h=>rfl
 | c::l,k,h=>by
   show (if _ then _ else _)=_
   rw [if_neg (fun q=>by have:=congrArg List.length q;rw [List.length_take] at this;lia)]
   exact cuts_short hy l (k+1) (by rw [List.length_cons] at h;lia)
theorem split_list {x y:Str} (hy:y.length≠0) (hk:y.cps.all (· < 256)=true):(splitS x y).map L=partsL (L y) 0 [] (L x):=by
 unfold splitS
 have kx:decide (Builtin.Str.strKind x < Builtin.Str.strKind y)=false:=by
  have e:Builtin.Str.strKind y=1:=by unfold Builtin.Str.strKind;rw [if_pos hk]
  rw [e]
  have:1≤Builtin.Str.strKind x:=by unfold Builtin.Str.strKind;split <;> (try split) <;> decide
  simp;lia
 rw [kx]
 split
 ·rename_i h
  have h0:cutsL (L y) 0 0 (L x)=[]:=by
   rcases h with h | h
   ·refine cuts_short (by rw [L_len];exact hy) _ _ ?_
    rw [L_len,L_len]
    simpa using h
   ·rw [occ_list hy] at h
    exact List.isEmpty_iff.mp h
  rw [cuts_none _ _ _ h0]
  rfl
 ·exact between_list hy
noncomputable def gl (z:List Nat):List (List Nat)→List Nat
 | []=>[]
 | p::ps=>p++ps.flatMap (z++·)
theorem glued_fold (z:Str):∀ (ps:List Str) (acc:Array Nat),(ps.foldl (fun acc p=>acc++z.cps++p.cps) acc).toList=acc.toList++(ps.map L).flatMap (L z++·)
 | [],acc=>by simp
 | p::ps,acc=>by
   rw [List.foldl_cons,glued_fold z ps]
   simp [L]
theorem glued_list (z:Str) (ps:List Str):L (glued z ps)=gl (L z) (ps.map L):=by
 cases ps with
 | nil=>rfl
 | cons p ps=>
   show (List.foldl _ p.cps ps).toList=_
   rw [glued_fold]
   rfl
noncomputable def replL (y z:List Nat):Nat→List Nat→List Nat
 | _,[]=>[]
 | s+1,_::l=>replL y z s l
 | 0,c::l=>if (c::l).take y.length=y then z++replL y z (y.length - 1) l else c::replL y z 0 l
theorem partsL_ne (y:List Nat):∀ (l:List Nat) (s:Nat) (cur:List Nat),∃ p ps,partsL y s cur l=p::ps
 | [],s,cur=>⟨cur,[],by cases s <;> rfl⟩
 | c::l,s+1,cur=>partsL_ne y l s cur
 | c::l,0,cur=>by
   show ∃ p ps,(if (c::l).take y.length=y then cur::partsL y (y.length - 1) [] l else partsL y 0 (cur++[c]) l)=p::ps
   split
   ·exact ⟨_,_,rfl⟩
   ·exact partsL_ne y l 0 _
theorem gl_parts (y z:List Nat):∀ (l:List Nat) (s:Nat) (cur:List Nat),gl z (partsL y s cur l)=cur++replL y z s l
 | [],s,cur=>by cases s <;> simp [partsL,replL,gl]
 | c::l,s+1,cur=>gl_parts y z l s cur
 | c::l,0,cur=>by
   show gl z (if (c::l).take y.length=y then cur::partsL y (y.length - 1) [] l else partsL y 0 (cur++[c]) l)=cur++(if (c::l).take y.length=y then z++replL y z (y.length - 1) l else c::replL y z 0 l)
   split
   ·have ih:=gl_parts y z l (y.length - 1) []
    obtain ⟨p,ps,e⟩:=partsL_ne y l (y.length - 1) []
    rw [e] at ih⊢
    show cur++(p::ps).flatMap (z++·)=_
    rw [List.flatMap_cons,List.append_assoc]
    show cur++(z++gl z (p::ps))=_
    rw [ih];rfl
   ·rw [gl_parts y z l 0]
    simp
theorem repl_list {x y z:Str} (hy:y.length≠0):L (replS x y z)=replL (L y) (L z) 0 (L x):=by
 unfold replS
 rw [glued_list,between_list hy,gl_parts]
 rfl
theorem repl1 (d:Nat) (z:List Nat):∀ l,replL [d] z 0 l=l.flatMap fun c=>if c=d then z else [c]
 | []=>rfl
 | c::l=>by
   have e:((c::l).take [d].length=[d])↔c=d:=by simp
   show (if (c::l).take [d].length=[d] then z++replL [d] z 0 l else c::replL [d] z 0 l)=_
   rw [repl1 d z l,List.flatMap_cons]
   by_cases h:c=d
   ·rw [if_pos (e.mpr h),if_pos h]
   ·rw [if_neg (fun q=>h (e.mp q)),if_neg h];rfl
inductive Au where
 | N | F | K | S | D
noncomputable def isLet (c:Nat):Bool:=(decide (48≤c) && decide (c≤57)) || c == 97 || c == 98 || c == 115 || c == 120
noncomputable def dlt:Au→Nat→Option Au
 | .N,c=>if isLet c=true then some .F else if c=47 then some .N else if c=39 then some .N else if c=46 then some .D else none
 | .F,c=>if isLet c=true then some .F else if c=47 then some .N else if c=39 then some .N else if c=32 then some .S else if c=92 then some .K else none
 | .K,c=>if c=34 then some .N else none
 | .S,c=>if isLet c=true then some .F else none
 | .D,c=>if c=46 then some .N else none
noncomputable def okA:Au→List Nat→Prop
 | s,[]=>s= .N∨s= .F
 | s,c::l=>∃ s',dlt s c=some s'∧okA s' l
theorem let_alph {c:Nat} (h:isLet c=true):c∈alph∧c≠32∧c≠34∧c≠39∧c≠46∧c≠47∧c≠92:=by
 unfold isLet at h
 have hc:c≤120:=by
  simp only [Bool.or_eq_true,Bool.and_eq_true,decide_eq_true_eq,beq_iff_eq] at h
  lia
 have key:∀ c∈List.range 121,((decide (48≤c) && decide (c≤57)) || c == 97 || c == 98 || c == 115 || c == 120)=true→c∈alph∧c≠32∧c≠34∧c≠39∧c≠46∧c≠47∧c≠92:=by decide+kernel
 exact key c (List.mem_range.mpr (by lia)) h
theorem iteS {α:Type} {p:Prop} [Decidable p] {x y:Option α} {b:α} (h:(if p then x else y)=some b):(p∧x=some b)∨y=some b:=by
 by_cases q:p
 ·exact .inl ⟨q,(if_pos q).symm.trans h⟩
 ·exact .inr ((if_neg q).symm.trans h)
noncomputable def DltC (s:Au) (c:Nat) (s':Au):Prop:=
 (isLet c=true∧s'= .F∧(s= .N∨s= .F∨s= .S))∨(c=47∧s'= .N∧(s= .N∨s= .F))∨(c=39∧s'= .N∧(s= .N∨s= .F))∨(c=46∧s'= .D∧s= .N)∨(c=46∧s'= .N∧s= .D)∨(c=32∧s'= .S∧s= .F)∨(c=92∧s'= .K∧s= .F)∨(c=34∧s'= .N∧s= .K)
theorem dlt_cases {s s':Au} {c:Nat} (h:dlt s c=some s'):DltC s c s':=by
 cases s <;> (repeat (replace h:=iteS h;rcases h with ⟨a,e⟩ | h;· cases e;repeat (first | exact ⟨a,rfl,by simp⟩ | exact .inl ⟨a,rfl,by simp⟩ | refine .inr ?_))) <;> cases h
noncomputable def wd:Bool→List Nat→List Nat→List (List Nat)
 | _,cur,[]=>[cur]
 | true,cur,c::l=>if c=39 then wd false cur l else wd true (cur++[c]) l
 | false,cur,c::l=>if c=39 then wd true cur l else if c=32 then cur::wd false [] l else if c=92 then wd false cur l else wd false (cur++[c]) l
noncomputable def fin:Bool→List Nat→Bool
 | q,[]=>q
 | q,c::l=>fin (if c=39 then !q else q) l
noncomputable def isQ:Md→Bool
 | .Q=>true
 | _=>false
noncomputable def okMS:Md→Au→Prop
 | .A,s=>s= .N∨s= .F∨s= .D
 | .E,s=>s= .K
 | .Q,_=>True
noncomputable def EndT (q:Bool) (t:Str) (l:List Nat) (te:TE):Prop:=
 0 < te.tok.length∧((te.e=true∧wd q (L t) l=[L te.tok])∨(te.e=false∧∃ ts',Lx te.l ts'∧wd q (L t) l=L te.tok::ts'.map L))
theorem L_one (t:Str) (c:Nat):L (t++one c)=L t++[c]:=L_app _ _
theorem one_pos (t:Str) (c:Nat):0 < (t++one c).length:=by rw [len_app];exact Nat.succ_pos _
theorem lx_go:∀ (l:List Nat) (m:Md) (s:Au) (t:Str) (qd:Bool),okA s l→okMS m s→0 < t.length→fin (isQ m) l=false→okR m l∧∃ te,tkR m qd t l=some te∧EndT (isQ m) t l te
 | [],.A,s,t,qd,ho,hm,ht,hf=>⟨trivial,⟨t,qd,[],true⟩,rfl,ht,.inl ⟨rfl,rfl⟩⟩
 | [],.E,s,t,qd,ho,hm,ht,hf=>by
   rcases ho with h | h <;> (rw [h] at hm;cases hm)
 | [],.Q,s,t,qd,ho,hm,ht,hf=>nomatch hf
 | c::l,.A,s,t,qd,⟨s',hd,ho⟩,hm,ht,hf=>by
   unfold okR tkR
   have hf:fin (if c=39 then true else false) l=false:=hf
   by_cases h32:c=32
   ·subst h32
    rcases dlt_cases hd with h | h | h | h | h | ⟨h,hs',hs⟩ | h | h
    ·exact absurd (let_alph h.1).2.1 (by simp)
    all_goals first | (exfalso;have:=h.1;lia) | skip
    subst hs'
    refine ⟨⟨by decide,by decide,trivial⟩,⟨t,qd,l,false⟩,rfl,ht,.inr ⟨rfl,?_⟩⟩
    rw [if_neg (by decide)] at hf
    show ∃ ts',Lx l ts'∧wd false (L t) (32::l)=L t::ts'.map L
    have e:wd false (L t) (32::l)=L t::wd false [] l:=rfl
    rw [e]
    cases l with
    | nil=>rcases ho with h | h <;> cases h
    | cons d l=>
      obtain ⟨s2,hd2,ho2⟩:=ho
      rcases dlt_cases hd2 with ⟨hl,hs2, -⟩ | h | h | h | h | h | h | h
      all_goals first | (exfalso;rcases h with ⟨_,_,h | h⟩ <;> cases h;done) | (exfalso;have:=h.2.2;cases this;done) | skip
      obtain ⟨a1,a2,a3,a4,a5,a6,a7⟩:=let_alph hl
      subst hs2
      have hf2:fin false l=false:=by
       have:fin (if d=39 then !false else false) l=false:=hf
       rw [if_neg a4] at this;exact this
      obtain ⟨r1,te,r2,r3,r4⟩:=lx_go l .A .F (one d) false ho2 (.inr (.inl rfl)) (by show 0 < 1;decide) hf2
      have hS:tkS (d::l)=some te:=by
       show (if d=39 then _ else _)=_
       rw [if_neg a4];exact r2
      have hO:okS (d::l):=⟨a1,by rw [if_neg a4];exact ⟨⟨a2,a3,a5,a6,a7⟩,r1⟩⟩
      have e2:wd false [] (d::l)=wd false (L (one d)) l:=by
       show (if d=39 then _ else if d=32 then _ else if d=92 then _ else _)=_
       rw [if_neg a4,if_neg a2,if_neg a7];rfl
      rw [e2]
      rcases r4 with ⟨q1,q2⟩ | ⟨q1,ts',q2,q3⟩
      ·refine ⟨_,Lx.last hO hS r3 q1,?_⟩
       have q2:wd false (L (one d)) l=[L te.tok]:=q2
       rw [q2];rfl
      ·refine ⟨_,Lx.more hO hS r3 q1 q2,?_⟩
       have q3:wd false (L (one d)) l=L te.tok::ts'.map L:=q3
       rw [q3];rfl
   ·rw [if_neg h32,if_neg h32]
    by_cases h39:c=39
    ·subst h39
     rw [if_pos rfl,if_pos rfl]
     rw [if_pos rfl] at hf
     obtain ⟨r1,te,r2,r3⟩:=lx_go l .Q s' t qd ho trivial ht hf
     exact ⟨⟨by decide,by decide,r1⟩,te,r2,r3⟩
    ·rw [if_neg h39,if_neg h39]
     rw [if_neg h39] at hf
     by_cases h92:c=92
     ·subst h92
      rw [if_pos rfl,if_pos rfl]
      have hs':s'= .K:=by
       rcases dlt_cases hd with h | h | h | h | h | h | h | h
       ·exact absurd (let_alph h.1).2.2.2.2.2.2 (by simp)
       all_goals first | exact h.2.1 | (exfalso;have:=h.1;lia)
      subst hs'
      obtain ⟨r1,te,r2,r3⟩:=lx_go l .E .K t qd ho rfl ht hf
      exact ⟨⟨by decide,by decide,r1⟩,te,r2,r3⟩
     ·rw [if_neg h92,if_neg h92]
      have hw:wd false (L t) (c::l)=wd false (L (t++one c)) l:=by
       show (if c=39 then _ else if c=32 then _ else if c=92 then _ else _)=_
       rw [if_neg h39,if_neg h32,if_neg h92,L_one]
      have hx:c∈alph∧c≠34∧okMS .A s':=by
       rcases dlt_cases hd with h | h | h | h | h | h | h | h
       ·exact ⟨(let_alph h.1).1,(let_alph h.1).2.2.1,.inr (.inl h.2.1)⟩
       ·rw [h.1];exact ⟨by decide,by decide,.inl h.2.1⟩
       ·exact absurd h.1 h39
       ·rw [h.1];exact ⟨by decide,by decide,.inr (.inr h.2.1)⟩
       ·rw [h.1];exact ⟨by decide,by decide,.inl h.2.1⟩
       ·exact absurd h.1 h32
       ·exact absurd h.1 h92
       ·exfalso;rw [h.2.2] at hm;rcases hm with h | h | h <;> cases h
      obtain ⟨r1,te,r2,r3⟩:=lx_go l .A s' (t++one c) qd ho hx.2.2 (one_pos _ _) hf
      refine ⟨⟨hx.1,hx.2.1,r1⟩,te,r2,?_⟩
      unfold EndT
      rw [show isQ .A=false from rfl,hw]
      exact r3
 | c::l,.E,s,t,qd,⟨s',hd,ho⟩,hm,ht,hf=>by
   have hs:s= .K:=hm
   subst hs
   rcases dlt_cases hd with ⟨_,_,h | h | h⟩ | ⟨_,_,h | h⟩ | ⟨_,_,h | h⟩ | ⟨_,_,h⟩ | ⟨_,_,h⟩ | ⟨_,_,h⟩ | ⟨_,_,h⟩ | ⟨h,hs', -⟩
   all_goals first | (cases h;done) | skip
   subst h hs'
   obtain ⟨r1,te,r2,r3⟩:=lx_go l .A .N (t++one 34) qd ho (.inl rfl) (one_pos _ _) hf
   refine ⟨⟨by decide,r1⟩,te,r2,?_⟩
   have hw:wd false (L t) (34::l)=wd false (L (t++one 34)) l:=by
    show wd false (L t++[34]) l=_
    rw [L_one]
   unfold EndT
   rw [show isQ .E=false from rfl,hw]
   exact r3
 | c::l,.Q,s,t,qd,⟨s',hd,ho⟩,hm,ht,hf=>by
   unfold okR tkR
   have hf:fin (if c=39 then false else true) l=false:=hf
   by_cases h39:c=39
   ·subst h39
    rw [if_pos rfl,if_pos rfl]
    rw [if_pos rfl] at hf
    have hs':s'= .N:=by
     rcases dlt_cases hd with h | h | h | h | h | h | h | h
     ·exact absurd (let_alph h.1).2.2.2.1 (by simp)
     all_goals first | exact h.2.1 | (exfalso;have:=h.1;lia)
    subst hs'
    obtain ⟨r1,te,r2,r3⟩:=lx_go l .A .N t true ho (.inl rfl) ht hf
    exact ⟨⟨by decide,r1⟩,te,r2,r3⟩
   ·rw [if_neg h39,if_neg h39]
    rw [if_neg h39] at hf
    have hw:wd true (L t) (c::l)=wd true (L (t++one c)) l:=by
     show (if c=39 then _ else _)=_
     rw [if_neg h39,L_one]
    have hx:c∈alph:=by
     rcases dlt_cases hd with h | h | h | h | h | h | h | h
     ·exact (let_alph h.1).1
     all_goals (rw [h.1];decide)
    obtain ⟨r1,te,r2,r3⟩:=lx_go l .Q s' (t++one c) true ho trivial (one_pos _ _) hf
    refine ⟨⟨hx,r1⟩,te,r2,?_⟩
    unfold EndT
    rw [show isQ .Q=true from rfl,hw]
    exact r3
theorem bx_go:∀ (l:List Nat) (m:Md) (s:Au) (t:Str) (qd:Bool),okA s l→okMS m s→0 < t.length→fin (isQ m) l=true→okR m l∧(tkR m qd t l=none∨∃ te,tkR m qd t l=some te∧0 < te.tok.length∧te.e=false∧Bx te.l)
 | [],.A,s,t,qd,ho,hm,ht,hf=>nomatch hf
 | [],.E,s,t,qd,ho,hm,ht,hf=>nomatch hf
 | [],.Q,s,t,qd,ho,hm,ht,hf=>⟨trivial,.inl rfl⟩
 | c::l,.A,s,t,qd,⟨s',hd,ho⟩,hm,ht,hf=>by
   unfold okR tkR
   have hf:fin (if c=39 then true else false) l=true:=hf
   by_cases h32:c=32
   ·subst h32
    rcases dlt_cases hd with h | h | h | h | h | ⟨h,hs',hs⟩ | h | h
    ·exact absurd (let_alph h.1).2.1 (by simp)
    all_goals first | (exfalso;have:=h.1;lia) | skip
    subst hs'
    refine ⟨⟨by decide,by decide,trivial⟩,.inr ⟨⟨t,qd,l,false⟩,rfl,ht,rfl,?_⟩⟩
    rw [if_neg (by decide)] at hf
    show Bx l
    cases l with
    | nil=>rcases ho with h | h <;> cases h
    | cons d l=>
      obtain ⟨s2,hd2,ho2⟩:=ho
      rcases dlt_cases hd2 with ⟨hl,hs2, -⟩ | h | h | h | h | h | h | h
      all_goals first | (exfalso;rcases h with ⟨_,_,h | h⟩ <;> cases h;done) | (exfalso;have:=h.2.2;cases this;done) | skip
      obtain ⟨a1,a2,a3,a4,a5,a6,a7⟩:=let_alph hl
      subst hs2
      have hf2:fin false l=true:=by
       have:fin (if d=39 then !false else false) l=true:=hf
       rw [if_neg a4] at this;exact this
      obtain ⟨r1,r2⟩:=bx_go l .A .F (one d) false ho2 (.inr (.inl rfl)) (by show 0 < 1;decide) hf2
      have hO:okS (d::l):=⟨a1,by rw [if_neg a4];exact ⟨⟨a2,a3,a5,a6,a7⟩,r1⟩⟩
      have hS:tkS (d::l)=tkR .A false (one d) l:=by
       show (if d=39 then _ else _)=_
       rw [if_neg a4]
      rcases r2 with q | ⟨te,q1,q2,q3,q4⟩
      ·exact .bad hO (hS.trans q)
      ·exact .more hO (hS.trans q1) q2 q3 q4
   ·rw [if_neg h32,if_neg h32]
    by_cases h39:c=39
    ·subst h39
     rw [if_pos rfl,if_pos rfl]
     rw [if_pos rfl] at hf
     obtain ⟨r1,r2⟩:=bx_go l .Q s' t qd ho trivial ht hf
     exact ⟨⟨by decide,by decide,r1⟩,r2⟩
    ·rw [if_neg h39,if_neg h39]
     rw [if_neg h39] at hf
     by_cases h92:c=92
     ·subst h92
      rw [if_pos rfl,if_pos rfl]
      have hs':s'= .K:=by
       rcases dlt_cases hd with h | h | h | h | h | h | h | h
       ·exact absurd (let_alph h.1).2.2.2.2.2.2 (by simp)
       all_goals first | exact h.2.1 | (exfalso;have:=h.1;lia)
      subst hs'
      obtain ⟨r1,r2⟩:=bx_go l .E .K t qd ho rfl ht hf
      exact ⟨⟨by decide,by decide,r1⟩,r2⟩
     ·rw [if_neg h92,if_neg h92]
      have hx:c∈alph∧c≠34∧okMS .A s':=by
       rcases dlt_cases hd with h | h | h | h | h | h | h | h
       ·exact ⟨(let_alph h.1).1,(let_alph h.1).2.2.1,.inr (.inl h.2.1)⟩
       ·rw [h.1];exact ⟨by decide,by decide,.inl h.2.1⟩
       ·exact absurd h.1 h39
       ·rw [h.1];exact ⟨by decide,by decide,.inr (.inr h.2.1)⟩
       ·rw [h.1];exact ⟨by decide,by decide,.inl h.2.1⟩
       ·exact absurd h.1 h32
       ·exact absurd h.1 h92
       ·exfalso;rw [h.2.2] at hm;rcases hm with h | h | h <;> cases h
      obtain ⟨r1,r2⟩:=bx_go l .A s' (t++one c) qd ho hx.2.2 (one_pos _ _) hf
      exact ⟨⟨hx.1,hx.2.1,r1⟩,r2⟩
 | c::l,.E,s,t,qd,⟨s',hd,ho⟩,hm,ht,hf=>by
   have hs:s= .K:=hm
   subst hs
   rcases dlt_cases hd with ⟨_,_,h | h | h⟩ | ⟨_,_,h | h⟩ | ⟨_,_,h | h⟩ | ⟨_,_,h⟩ | ⟨_,_,h⟩ | ⟨_,_,h⟩ | ⟨_,_,h⟩ | ⟨h,hs', -⟩
   all_goals first | (cases h;done) | skip
   subst h hs'
   obtain ⟨r1,r2⟩:=bx_go l .A .N (t++one 34) qd ho (.inl rfl) (one_pos _ _) hf
   exact ⟨⟨by decide,r1⟩,r2⟩
 | c::l,.Q,s,t,qd,⟨s',hd,ho⟩,hm,ht,hf=>by
   unfold okR tkR
   have hf:fin (if c=39 then false else true) l=true:=hf
   by_cases h39:c=39
   ·subst h39
    rw [if_pos rfl,if_pos rfl]
    rw [if_pos rfl] at hf
    have hs':s'= .N:=by
     rcases dlt_cases hd with h | h | h | h | h | h | h | h
     ·exact absurd (let_alph h.1).2.2.2.1 (by simp)
     all_goals first | exact h.2.1 | (exfalso;have:=h.1;lia)
    subst hs'
    obtain ⟨r1,r2⟩:=bx_go l .A .N t true ho (.inl rfl) ht hf
    exact ⟨⟨by decide,r1⟩,r2⟩
   ·rw [if_neg h39,if_neg h39]
    rw [if_neg h39] at hf
    have hx:c∈alph:=by
     rcases dlt_cases hd with h | h | h | h | h | h | h | h
     ·exact (let_alph h.1).1
     all_goals (rw [h.1];decide)
    obtain ⟨r1,r2⟩:=bx_go l .Q s' (t++one c) true ho trivial (one_pos _ _) hf
    exact ⟨⟨hx,r1⟩,r2⟩
noncomputable def edgeL (r:Nat):List Nat:=List.replicate (match r with | 1=>1 | 2=>3 | _=>8) 39
theorem lx_edge {r:Nat} (hr:r=1∨r=2∨r=3) {l:List Nat} (ho:okA .N (47::l)) (hf:fin false (edgeL r++47::l)=false):∃ ts,Lx (edgeL r++47::l) ts∧wd false [] (edgeL r++47::l)=ts.map L:=by
 obtain ⟨s',hd,ho⟩:=ho
 have hs':s'= .N:=by
  rcases dlt_cases hd with h | h | h | h | h | h | h | h
  ·exact absurd (let_alph h.1).2.2.2.2.2.1 (by simp)
  all_goals first | exact h.2.1 | (exfalso;have:=h.1;lia)
 subst hs'
 have key:∀ (m:Md),okMS m .N→m≠.E→fin (isQ m) l=false→(∀ te,tkR m true (one 47) l=some te→tkS (edgeL r++47::l)=some te)→(okR m l→okS (edgeL r++47::l))→wd false [] (edgeL r++47::l)=wd (isQ m) (L (one 47)) l→∃ ts,Lx (edgeL r++47::l) ts∧wd false [] (edgeL r++47::l)=ts.map L:=by
  intro m hm _ hf hS hO hW
  obtain ⟨r1,te,r2,r3,r4⟩:=lx_go l m .N (one 47) true ho hm (by show 0 < 1;decide) hf
  rw [hW]
  rcases r4 with ⟨q1,q2⟩ | ⟨q1,ts',q2,q3⟩
  ·exact ⟨_,.last (hO r1) (hS te r2) r3 q1,by rw [q2];rfl⟩
  ·exact ⟨_,.more (hO r1) (hS te r2) r3 q1 q2,by rw [q3];rfl⟩
 rcases hr with rfl | rfl | rfl
 ·exact key .Q trivial (by simp) hf (fun te h=>h) (fun h=>⟨by decide,by decide,h⟩) rfl
 ·exact key .Q trivial (by simp) hf (fun te h=>h) (fun h=>⟨by decide,by decide,by decide,by decide,by decide,h⟩) rfl
 ·exact key .A (.inl rfl) (by simp) hf (fun te h=>h) (fun h=>⟨by decide,by decide,by decide,by decide,by decide,by decide,by decide,by decide,by decide,by decide,by decide,by decide,by decide,h⟩) rfl
theorem bx_edge {r:Nat} (hr:r=1∨r=2∨r=3) {l:List Nat} (ho:okA .N (47::l)) (hf:fin false (edgeL r++47::l)=true):Bx (edgeL r++47::l):=by
 obtain ⟨s',hd,ho⟩:=ho
 have hs':s'= .N:=by
  rcases dlt_cases hd with h | h | h | h | h | h | h | h
  ·exact absurd (let_alph h.1).2.2.2.2.2.1 (by simp)
  all_goals first | exact h.2.1 | (exfalso;have:=h.1;lia)
 subst hs'
 have key:∀ (m:Md),okMS m .N→fin (isQ m) l=true→tkS (edgeL r++47::l)=tkR m true (one 47) l→(okR m l→okS (edgeL r++47::l))→Bx (edgeL r++47::l):=by
  intro m hm hf hS hO
  obtain ⟨r1,r2⟩:=bx_go l m .N (one 47) true ho hm (by show 0 < 1;decide) hf
  rcases r2 with q | ⟨te,q1,q2,q3,q4⟩
  ·exact .bad (hO r1) (hS.trans q)
  ·exact .more (hO r1) (hS.trans q1) q2 q3 q4
 rcases hr with rfl | rfl | rfl
 ·exact key .Q trivial hf rfl (fun h=>⟨by decide,by decide,h⟩)
 ·exact key .Q trivial hf rfl (fun h=>⟨by decide,by decide,by decide,by decide,by decide,h⟩)
 ·exact key .A (.inl rfl) hf rfl (fun h=>⟨by decide,by decide,by decide,by decide,by decide,by decide,by decide,by decide,by decide,by decide,by decide,by decide,by decide,h⟩)
theorem parts1_ne {d c:Nat} (h:c≠d) (cur l:List Nat):partsL [d] 0 cur (c::l)=partsL [d] 0 (cur++[c]) l:=by
 show (if (c::l).take [d].length=[d] then _ else _)=_
 rw [if_neg (by simpa using h)]
theorem parts1_eq (d:Nat) (cur l:List Nat):partsL [d] 0 cur (d::l)=cur::partsL [d] 0 [] l:=by
 show (if (d::l).take [d].length=[d] then _ else _)=_
 rw [if_pos (by simp)];rfl
theorem parts1_app {d:Nat}:∀ (x l cur:List Nat),d∉x→partsL [d] 0 cur (x++d::l)=(cur++x)::partsL [d] 0 [] l
 | [],l,cur,h=>by rw [List.nil_append,parts1_eq,List.append_nil]
 | c::x,l,cur,h=>by
   rw [List.cons_append,parts1_ne (fun e=>h (by rw [e];exact List.mem_cons_self ..)),parts1_app x l _ (fun q=>h (List.mem_cons_of_mem _ q))]
   simp
theorem parts1_none {d:Nat}:∀ (x cur:List Nat),d∉x→partsL [d] 0 cur x=[cur++x]
 | [],cur,h=>by show [cur]=_;simp
 | c::x,cur,h=>by
   rw [parts1_ne (fun e=>h (by rw [e];exact List.mem_cons_self ..)),parts1_none x _ (fun q=>h (List.mem_cons_of_mem _ q))]
   simp
theorem parts1_cur {d:Nat}:∀ (x cur a:List Nat),∃ p ps,partsL [d] 0 a x=p::ps∧partsL [d] 0 (cur++a) x=(cur++p)::ps
 | [],cur,a=>⟨a,[],rfl,rfl⟩
 | c::x,cur,a=>by
   by_cases h:c=d
   ·subst h
    rw [parts1_eq,parts1_eq]
    exact ⟨_,_,rfl,rfl⟩
   ·rw [parts1_ne h,parts1_ne h,List.append_assoc]
    exact parts1_cur x cur (a++[c])
noncomputable def kOk:List Nat→Prop
 | []=>True
 | c::l=>(c=92→l.head? =some 34)∧kOk l
theorem kOk_left:∀ {x l:List Nat} {d:Nat},d≠34→kOk (x++d::l)→kOk x
 | [],l,d,hd,h=>trivial
 | c::x,l,d,hd,h=>⟨fun e=>by
    have:=h.1 e
    cases x with
    | nil=>exact absurd (Option.some.inj this) hd
    | cons a x=>exact this,kOk_left hd h.2⟩
theorem kOk_right:∀ {x l:List Nat},kOk (x++l)→kOk l
 | [],l,h=>h
 | c::x,l,h=>kOk_right h.2
theorem okA_kOk:∀ {l:List Nat} {s:Au},okA s l→kOk l
 | [],s,h=>trivial
 | c::l,s,⟨s',hd,ho⟩=>⟨fun e=>by
    subst e
    have hs':s'= .K:=by
     rcases dlt_cases hd with h | h | h | h | h | h | h | h
     ·exact absurd (let_alph h.1).2.2.2.2.2.2 (by simp)
     all_goals first | exact h.2.1 | (exfalso;have:=h.1;lia)
    subst hs'
    cases l with
    | nil=>rcases ho with h | h <;> cases h
    | cons a l=>
      obtain ⟨s2,hd2, -⟩:=ho
      rcases dlt_cases hd2 with ⟨_,_,h | h | h⟩ | ⟨_,_,h | h⟩ | ⟨_,_,h | h⟩ | ⟨_,_,h⟩ | ⟨_,_,h⟩ | ⟨_,_,h⟩ | ⟨_,_,h⟩ | ⟨h,hs', -⟩
      all_goals first | (cases h;done) | skip
      rw [h];rfl,okA_kOk ho⟩
noncomputable abbrev unL (x:List Nat):List Nat:=replL [92,34] [34] 0 x
theorem un_ne {c:Nat} (h:c≠92) (l:List Nat):unL (c::l)=c::unL l:=by
 show (if (c::l).take [92,34].length=[92,34] then _ else _)=_
 rw [if_neg (by intro e;exact h (by simpa using congrArg List.head? e))]
theorem un_eq (l:List Nat):unL (92::34::l)=34::unL l:=by
 show (if (92::34::l).take [92,34].length=[92,34] then _ else _)=_
 rw [if_pos (by simp)];rfl
theorem wd_even:∀ (n:Nat) (x rest cur:List Nat),x.length=n→39∉x→kOk x→wd false cur (x++rest)=(partsL [32] 0 cur (unL x)).dropLast++wd false ((partsL [32] 0 cur (unL x)).getLastD []) rest:=by
 intro n
 induction n using Nat.strongRecOn with
 | _ n ih=>
 intro x rest cur hn h39 hk
 cases x with
 | nil=>rfl
 | cons c x=>
   have hc39:c≠39:=fun e=>h39 (e▸List.mem_cons_self ..)
   have hx39:39∉x:=fun q=>h39 (List.mem_cons_of_mem _ q)
   rw [List.length_cons] at hn
   by_cases h32:c=32
   ·subst h32
    rw [un_ne (by decide),parts1_eq]
    have e:wd false cur (32::x++rest)=cur::wd false [] (x++rest):=rfl
    rw [e,ih x.length (ar21) x rest [] rfl hx39 hk.2]
    obtain ⟨p,ps,e2⟩:=partsL_ne [32] (unL x) 0 []
    rw [e2];rfl
   ·by_cases h92:c=92
    ·subst h92
     have hh:=hk.1 rfl
     cases x with
     | nil=>cases hh
     | cons d x=>
       obtain rfl:d=34:=Option.some.inj hh
       rw [un_eq,parts1_ne (by decide)]
       have e:wd false cur (92::34::x++rest)=wd false (cur++[34]) (x++rest):=rfl
       rw [e,ih x.length (by rw [List.length_cons] at hn;lia) x rest _ rfl (fun q=>hx39 (List.mem_cons_of_mem _ q)) hk.2.2]
    ·rw [un_ne h92,parts1_ne h32]
     have e:wd false cur (c::x++rest)=wd false (cur++[c]) (x++rest):=by
      show (if c=39 then _ else if c=32 then _ else if c=92 then _ else _)=_
      rw [if_neg hc39,if_neg h32,if_neg h92];rfl
     rw [e,ih x.length (ar21) x rest _ rfl hx39 hk.2]
theorem wd_odd:∀ (x rest cur:List Nat),39∉x→wd true cur (x++rest)=wd true (cur++x) rest
 | [],rest,cur,h=>by rw [List.append_nil];rfl
 | c::x,rest,cur,h=>by
   have e:wd true cur (c::x++rest)=wd true (cur++[c]) (x++rest):=by
    show (if c=39 then _ else _)=_
    rw [if_neg (fun e=>h (by rw [e];exact List.mem_cons_self ..))];rfl
   rw [e,wd_odd x rest _ (fun q=>h (List.mem_cons_of_mem _ q))]
   simp
noncomputable def pcL (k:Nat) (x:List Nat):List (List Nat):=if k % 2=0 then partsL [32] 0 [] (unL x) else [x]
noncomputable def stepL (k:Nat) (ws:List (List Nat)) (x:List Nat):List (List Nat):=ws.dropLast++[ws.getLastD []++(pcL k x).headD []]++(pcL k x).tail
noncomputable def goL:Nat→List (List Nat)→List (List Nat)→List (List Nat)
 | _,ws,[]=>ws
 | k,ws,x::xs=>goL (k+1) (stepL k ws x) xs
theorem stepL_one {k:Nat} (pre:List (List Nat)) (cur x:List Nat) (h39:39∉x) (hk:kOk x):
 ∃ pre' cur',stepL k (pre++[cur]) x=pre++pre'++[cur']∧∀ rest,wd (decide (k % 2=1)) cur (x++rest)=pre'++wd (decide (k % 2=1)) cur' rest:=by
 unfold stepL pcL
 rw [List.dropLast_concat,show (pre++[cur]).getLastD []=cur by simp [List.getLastD_eq_getLast?]]
 by_cases h:k % 2=0
 ·rw [if_pos h,show decide (k % 2=1)=false by simp;lia]
  obtain ⟨p,ps,e1,e2⟩:=parts1_cur (d:=32) (unL x) cur []
  rw [List.append_nil] at e2
  have key:=fun rest=>wd_even _ x rest cur rfl h39 hk
  rw [e2] at key
  rw [e1]
  refine ⟨((cur++p)::ps).dropLast,((cur++p)::ps).getLastD [],?_,key⟩
  show pre++[cur++p]++ps=_
  rw [List.append_assoc,List.append_assoc]
  congr 1
  have:((cur++p)::ps).getLastD []=((cur++p)::ps).getLast (by simp):=by rw [List.getLastD_eq_getLast?,List.getLast?_eq_some_getLast (by simp)];rfl
  rw [this,List.dropLast_concat_getLast];rfl
 ·rw [if_neg h,show decide (k % 2=1)=true by simp;exact arp2]
  refine ⟨[],cur++x,?_,fun rest=>wd_odd x rest cur h39⟩
  simp
theorem split39:∀ (l:List Nat),39∉l∨∃ x r,l=x++39::r∧39∉x
 | []=>.inl (by simp)
 | c::l=>by
   by_cases h:c=39
   ·exact .inr ⟨[],l,by rw [h];rfl,by simp⟩
   ·rcases split39 l with q | ⟨x,r,e,q⟩
    ·exact .inl fun m=>(List.mem_cons.mp m).elim (fun e=>h e.symm) q
    ·exact .inr ⟨c::x,r,by rw [e];rfl,fun m=>(List.mem_cons.mp m).elim (fun e=>h e.symm) q⟩
theorem goL_wd:∀ (n:Nat) (l:List Nat) (k:Nat) (pre:List (List Nat)) (cur:List Nat),l.length=n→kOk l→goL k (pre++[cur]) (partsL [39] 0 [] l)=pre++wd (decide (k % 2=1)) cur l:=by
 intro n
 induction n using Nat.strongRecOn with
 | _ n ih=>
 intro l k pre cur hn hk
 rcases split39 l with q | ⟨x,r,e,q⟩
 ·rw [parts1_none l [] q]
  obtain ⟨pre',cur',e1,e2⟩:=stepL_one (k:=k) pre cur l q hk
  have e2:=e2 []
  rw [List.append_nil] at e2
  show stepL k (pre++[cur]) ([]++l)=_
  rw [List.nil_append,e1,e2,List.append_assoc]
  congr 2
 ·subst e
  have hx:=kOk_left (by decide) hk
  have hr:kOk r:=(kOk_right hk).2
  rw [parts1_app x r [] q]
  obtain ⟨pre',cur',e1,e2⟩:=stepL_one (k:=k) pre cur x q hx
  show goL (k+1) (stepL k (pre++[cur]) ([]++x)) (partsL [39] 0 [] r)=_
  rw [List.nil_append,e1,e2,ih r.length (by rw [List.length_append,List.length_cons] at hn;lia) r (k+1) (pre++pre') cur' rfl hr,List.append_assoc]
  congr 2
  rcases Nat.mod_two_eq_zero_or_one k with h | h
  ·rw [show decide (k % 2=1)=false by simp;lia,show decide ((k+1) % 2=1)=true by simp;exact arp0];rfl
  ·rw [show decide (k % 2=1)=true by simp;lia,show decide ((k+1) % 2=1)=false by simp;exact arp1];rfl
theorem L_default:L (default:Str)=[]:=rfl
theorem lastD_L (ws:List Str):L (ws.getLastD default)=(ws.map L).getLastD []:=by
 rw [List.getLastD_eq_getLast?,List.getLastD_eq_getLast?,List.getLast?_map]
 cases ws.getLast? <;> rfl
theorem headD_L (ws:List Str):L (ws.headD default)=(ws.map L).headD []:=by
 cases ws <;> rfl
theorem replS_un (x:Str):L (replS x ⟨⟨[92,34]⟩⟩ ⟨⟨[34]⟩⟩)=unL (L x):=repl_list (by decide)
theorem pieces_L (k:Nat) (x:Str):(piecesW k x).map L=pcL k (L x):=by
 unfold piecesW pcL
 split
 ·unfold evenP
  rw [split_list (by decide) (by decide+kernel),replS_un]
 ·rfl
theorem step_L (k:Nat) (ws:List Str) (x:Str):(wordsStep k ws x).map L=stepL k (ws.map L) (L x):=by
 unfold wordsStep stepL
 rw [←pieces_L,List.map_append,List.map_append,List.map_dropLast,List.map_tail]
 congr 3
 show [L (_++_)]=_
 rw [L_app,lastD_L,headD_L]
theorem go_L:∀ (xs:List Str) (k:Nat) (ws:List Str),(wordsGo k ws xs).map L=goL k (ws.map L) (xs.map L)
 | [],k,ws=>rfl
 | x::xs,k,ws=>by
   show (wordsGo (k+1) (wordsStep k ws x) xs).map L=_
   rw [go_L xs,step_L];rfl
theorem strands_L (x:Str):(strandsT x).map L=partsL [39] 0 [] (L x):=split_list (by decide) (by decide+kernel)
theorem words_L {x:Str} (h:kOk (L x)):(wordsT x).map L=wd false [] (L x):=by
 unfold wordsT
 rw [go_L,strands_L]
 exact goL_wd _ (L x) 0 [] [] rfl h
theorem map_L_inj {a b:List Str} (h:a.map L=b.map L):a=b:=List.map_inj_right (fun x y e=>L_inj e) |>.mp h
theorem fin_parts:∀ (l cur:List Nat) (q:Bool),fin q l=decide (((partsL [39] 0 cur l).length+(if q=true then 1 else 0)) % 2=0)
 | [],cur,q=>by cases q <;> simp [fin,partsL]
 | c::l,cur,q=>by
   by_cases h:c=39
   ·subst h
    rw [parts1_eq]
    show fin (!q) l=_
    rw [fin_parts l [] (!q),List.length_cons]
    congr 1
    cases q
    ·simp
    ·simp;constructor <;> (intro h;lia)
   ·rw [parts1_ne h]
    show fin (if c=39 then !q else q) l=_
    rw [if_neg h]
    exact fin_parts l _ q
theorem strands_mod (x:Str):(strandsT x).length % 2=(if fin false (L x)=true then 0 else 1):=by
 have h:=fin_parts (L x) [] false
 rw [←strands_L,List.length_map] at h
 rw [h]
 by_cases q:(strandsT x).length % 2=0
 ·simp [q]
 ·have:(strandsT x).length % 2=1:=arp2
  simp [this]
noncomputable def wgt (ws:List (List Nat)):Nat:=(ws.map List.length).sum+ws.length
theorem wgt_cons (w:List Nat) (ws:List (List Nat)):wgt (w::ws)=w.length+1+wgt ws:=by
 unfold wgt;rw [List.map_cons,List.sum_cons,List.length_cons];lia
theorem wgt_app (a b:List (List Nat)):wgt (a++b)=wgt a+wgt b:=by
 unfold wgt;rw [List.map_append,List.sum_append,List.length_append];lia
theorem wgt_mem {ws:List (List Nat)} {w:List Nat} (h:w∈ws):w.length < wgt ws:=by
 induction ws with
 | nil=>cases h
 | cons a ws ih=>
   rw [wgt_cons]
   rcases List.mem_cons.mp h with rfl | h
   ·lia
   ·have:=ih h;lia
theorem wgt_len (ws:List (List Nat)):ws.length≤wgt ws:=Nat.le_add_left ..
theorem parts_wgt (d:Nat):∀ (l cur:List Nat),wgt (partsL [d] 0 cur l)=cur.length+l.length+1
 | [],cur=>by show wgt [cur]=_;rw [wgt_cons];rfl
 | c::l,cur=>by
   by_cases h:c=d
   ·subst h
    rw [parts1_eq,wgt_cons,parts_wgt c l,List.length_nil,List.length_cons];lia
   ·rw [parts1_ne h,parts_wgt d l,List.length_append,List.length_cons,List.length_cons,List.length_nil];lia
theorem un_len:∀ (n:Nat) (l:List Nat),l.length=n→(unL l).length≤l.length:=by
 intro n
 induction n using Nat.strongRecOn with
 | _ n ih=>
 intro l hn
 cases l with
 | nil=>exact Nat.le_refl _
 | cons c l=>
   rw [List.length_cons] at hn
   show (if (c::l).take [92,34].length=[92,34] then [34]++replL [92,34] [34] 1 l else c::unL l).length≤_
   split
   ·cases l with
    | nil=>simp [replL]
    | cons d l=>
      have:=ih l.length (by rw [List.length_cons] at hn;lia) l rfl
      show (34::unL l).length≤_
      simp only [List.length_cons];lia
   ·have:=ih l.length (ar21) l rfl
    simp only [List.length_cons];lia
theorem pc_wgt (k:Nat) (x:List Nat):wgt (pcL k x)≤x.length+1:=by
 unfold pcL
 split
 ·rw [parts_wgt]
  have:=un_len _ x rfl
  show 0+_+1≤_
  lia
 ·rw [wgt_cons];show _+1+0≤_;lia
theorem pc_ne (k:Nat) (x:List Nat):pcL k x≠[]:=by
 unfold pcL
 split
 ·obtain ⟨p,ps,e⟩:=partsL_ne [32] (unL x) 0 []
  rw [e];simp
 ·simp
theorem last_split (ws:List (List Nat)) (h:ws≠[]):ws=ws.dropLast++[ws.getLastD []]:=by
 have:ws.getLastD []=ws.getLast h:=by rw [List.getLastD_eq_getLast?,List.getLast?_eq_some_getLast h];rfl
 rw [this,List.dropLast_concat_getLast]
theorem step_wgt (k:Nat) (ws:List (List Nat)) (x:List Nat) (h:ws≠[]):wgt (stepL k ws x)≤wgt ws+x.length∧(ws.getLastD []++(pcL k x).headD []).length≤wgt ws+x.length:=by
 have hp:=pc_wgt k x
 have hn:=pc_ne k x
 have hw:=last_split ws h
 unfold stepL
 generalize pcL k x=P at *
 cases P with
 | nil=>exact absurd rfl hn
 | cons p ps=>
   rw [wgt_cons] at hp
   generalize ws.dropLast=I at *
   generalize ws.getLastD []=c at *
   subst hw
   show wgt (I++[c++p]++ps)≤_∧(c++p).length≤_
   rw [wgt_app,wgt_app,wgt_app,wgt_cons,wgt_cons,List.length_append]
   show _∧_≤wgt I+(c.length+1+0)+x.length
   constructor
   ·show wgt I+(c.length+p.length+1+0)+wgt ps≤wgt I+(c.length+1+0)+x.length
    lia
   ·lia
theorem wordsOk_of:∀ (xs:List Str) (k:Nat) (ws:List Str),ws≠[]→wgt (ws.map L)+wgt (xs.map L)≤1000000→wordsOk k ws xs
 | [],k,ws,h,hb=>trivial
 | x::xs,k,ws,h,hb=>by
   have hne:ws.map L≠[]:=fun e=>h (List.map_eq_nil_iff.mp e)
   obtain ⟨s1,s2⟩:=step_wgt k (ws.map L) (L x) hne
   rw [List.map_cons,wgt_cons] at hb
   have hx:(L x).length=x.length:=L_len x
   have hs:sizeLine=16777216:=by decide
   have e1:=step_L k ws x
   have l1:=wgt_len (ws.map L)
   have l2:=wgt_len ((wordsStep k ws x).map L)
   rw [List.length_map] at l1 l2
   rw [e1] at l2
   refine ⟨h,by lia,?_,by lia,?_,fun hk=>⟨?_,?_⟩,wordsOk_of xs (k+1) _ ?_ ?_⟩
   ·rw [←L_len,L_app,lastD_L,headD_L,pieces_L];lia
   ·intro e
    have:=congrArg (List.map L) e
    rw [pieces_L] at this
    exact pc_ne _ _ this
   ·rw [←L_len,replS_un]
    have:=un_len _ (L x) rfl
    lia
   ·have:=occ_length_le x ⟨⟨[92,34]⟩⟩ 0 x.length (x.length+1)
    lia
   ·unfold wordsStep
    intro e
    have:=congrArg List.length e
    simp at this
   ·rw [e1];lia
theorem strands_ok {x:Str} (h:x.length≤400000):(strandsT x).length≤sizeLine∧strandsT x≠[]∧wordsOk 0 [⟨⟨[]⟩⟩] (strandsT x):=by
 have hs:sizeLine=16777216:=by decide
 have e:=strands_L x
 have w:wgt ((strandsT x).map L)=x.length+1:=by
  rw [e,parts_wgt,L_len];show 0+_+1=_;lia
 have l:=wgt_len ((strandsT x).map L)
 rw [List.length_map] at l
 refine ⟨by lia,fun q=>?_,wordsOk_of _ _ _ (by simp) ?_⟩
 ·rw [q] at w;exact absurd w (by show ¬(0=x.length+1);lia)
 ·rw [w]
  show wgt [[]]+_≤_
  rw [wgt_cons];show 0+1+0+_≤_;lia
noncomputable def wj:Bool→List Nat→List Nat
 | _,[]=>[]
 | true,c::l=>if c=39 then wj false l else c::wj true l
 | false,c::l=>if c=39 then wj true l else if c=32 then 47::wj false l else if c=92 then wj false l else c::wj false l
theorem gl_wd:∀ (l:List Nat) (q:Bool) (cur:List Nat),gl [47] (wd q cur l)=cur++wj q l∧∃ w ws,wd q cur l=w::ws
 | [],q,cur=>by
   cases q <;> exact ⟨by simp [wd,wj,gl],⟨cur,[],rfl⟩⟩
 | c::l,true,cur=>by
   show gl [47] (if c=39 then wd false cur l else wd true (cur++[c]) l)=cur++(if c=39 then wj false l else c::wj true l)∧∃ w ws,(if c=39 then wd false cur l else wd true (cur++[c]) l)=w::ws
   split
   ·exact gl_wd l false cur
   ·obtain ⟨h1,h2⟩:=gl_wd l true (cur++[c])
    exact ⟨by rw [h1];simp,h2⟩
 | c::l,false,cur=>by
   show gl [47] (if c=39 then wd true cur l else if c=32 then cur::wd false [] l else if c=92 then wd false cur l else wd false (cur++[c]) l)=cur++(if c=39 then wj true l else if c=32 then 47::wj false l else if c=92 then wj false l else c::wj false l)∧
    ∃ w ws,(if c=39 then wd true cur l else if c=32 then cur::wd false [] l else if c=92 then wd false cur l else wd false (cur++[c]) l)=w::ws
   split
   ·exact gl_wd l true cur
   ·split
    ·obtain ⟨h1,w,ws,h2⟩:=gl_wd l false []
     refine ⟨?_,_,_,rfl⟩
     rw [h2] at h1⊢
     show cur++(w::ws).flatMap ([47]++·)=_
     rw [List.flatMap_cons]
     show cur++([47]++w++ws.flatMap ([47]++·))=_
     rw [List.append_assoc]
     show cur++([47]++gl [47] (w::ws))=_
     rw [h1];rfl
    ·split
     ·exact gl_wd l false cur
     ·obtain ⟨h1,h2⟩:=gl_wd l false (cur++[c])
      exact ⟨by rw [h1];simp,h2⟩
noncomputable def stp (o:Option Bool) (c:Nat):Option Bool:=match o with
 | none=>none
 | some true=>if c=46 then some false else none
 | some false=>some (c == 46)
noncomputable def auD:Au→Bool
 | .D=>true
 | _=>false
noncomputable def auQ (q:Bool) (s:Au):Prop:=q=true∨s≠.S∨True
theorem wj_dots:∀ (l:List Nat) (q:Bool) (s:Au),okA s l→(wj q l).foldl stp (some (auD s))=some false
 | [],q,s,h=>by
   have e:wj q []=[]:=by cases q <;> rfl
   rw [e]
   rcases h with rfl | rfl <;> rfl
 | c::l,q,s,⟨s',hd,ho⟩=>by
   have ih:=fun q=>wj_dots l q s' ho
   rcases dlt_cases hd with ⟨h,hs',hs⟩ | ⟨h,hs',hs⟩ | ⟨h,hs',hs⟩ | ⟨h,hs',hs⟩ | ⟨h,hs',hs⟩ | ⟨h,hs',hs⟩ | ⟨h,hs',hs⟩ | ⟨h,hs',hs⟩
   ·obtain ⟨-,a2,a3,a4,a5,a6,a7⟩:=let_alph h
    have e:wj q (c::l)=c::wj q l:=by
     cases q
     ·show (if c=39 then _ else if c=32 then _ else if c=92 then _ else _)=_
      rw [if_neg a4,if_neg a2,if_neg a7]
     ·show (if c=39 then _ else _)=_
      rw [if_neg a4]
    have hsd:auD s=false:=by rcases hs with rfl | rfl | rfl <;> rfl
    rw [e,List.foldl_cons,hsd,show stp (some false) c=some false by show some (c == 46)=_;simp [a5]]
    have:=ih q
    rw [hs'] at this;exact this
   ·subst h hs'
    have e:wj q (47::l)=47::wj q l:=by cases q <;> rfl
    have hsd:auD s=false:=by rcases hs with rfl | rfl <;> rfl
    rw [e,List.foldl_cons,hsd];exact ih q
   ·subst h hs'
    have e:wj q (39::l)=wj (!q) l:=by cases q <;> rfl
    have hsd:auD s=false:=by rcases hs with rfl | rfl <;> rfl
    rw [e,hsd];exact ih (!q)
   ·subst h hs' hs
    have e:wj q (46::l)=46::wj q l:=by cases q <;> rfl
    rw [e,List.foldl_cons];exact ih q
   ·subst h hs' hs
    have e:wj q (46::l)=46::wj q l:=by cases q <;> rfl
    rw [e,List.foldl_cons];exact ih q
   ·subst h hs' hs
    have e:∃ d,d≠46∧wj q (32::l)=d::wj q l:=by
     cases q
     ·exact ⟨47,by decide,rfl⟩
     ·exact ⟨32,by decide,rfl⟩
    obtain ⟨d,hd,e⟩:=e
    rw [e,List.foldl_cons,show stp (some (auD .F)) d=some false by show some (d == 46)=_;simp [hd]]
    exact ih q
   ·subst h hs' hs
    cases q
    ·exact ih false
    ·show (92::wj true l).foldl stp _=_
     rw [List.foldl_cons];exact ih true
   ·subst h hs' hs
    have e:wj q (34::l)=34::wj q l:=by cases q <;> rfl
    rw [e,List.foldl_cons];exact ih q
theorem stp_none:∀ l:List Nat,l.foldl stp none=none
 | []=>rfl
 | _::l=>stp_none l
theorem parts_dots:∀ (l cur:List Nat) (d:Bool),cur.foldl stp (some false)=some d→l.foldl stp (some d)=some false→∀ p∈partsL [47] 0 cur l,p.foldl stp (some false)=some false
 | [],cur,d,h1,h2,p,hp=>by
   obtain rfl:p=cur:=List.mem_singleton.mp hp
   rw [h1];exact h2
 | c::l,cur,d,h1,h2,p,hp=>by
   rw [List.foldl_cons] at h2
   by_cases h:c=47
   ·subst h
    rw [parts1_eq] at hp
    have hd:d=false:=by
     cases d
     ·rfl
     ·exfalso
      rw [show stp (some true) 47=none from rfl,stp_none] at h2
      cases h2
    subst hd
    rcases List.mem_cons.mp hp with rfl | hp
    ·exact h1
    ·exact parts_dots l [] false rfl h2 p hp
   ·rw [parts1_ne h] at hp
    cases hst:stp (some d) c with
    | none=>rw [hst,stp_none] at h2;cases h2
    | some d'=>
      rw [hst] at h2
      exact parts_dots l (cur++[c]) d' (by rw [List.foldl_append,h1];exact hst) h2 p hp
theorem one_dot {p:List Nat} (h:p.foldl stp (some false)=some false):p≠[46]:=fun e=>by
 rw [e] at h;cases h
noncomputable def joinT (p:Str) (xs:List Str):Str:=xs.foldl (fun p x=>p++(⟨⟨[47]⟩⟩++x)) p
theorem joinT_L:∀ (xs:List Str) (p:Str),L (joinT p xs)=L p++(xs.map L).flatMap ([47]++·)
 | [],p=>by simp [joinT]
 | x::xs,p=>by
   show L (joinT (p++(⟨⟨[47]⟩⟩++x)) xs)=_
   rw [joinT_L xs,L_app,L_app]
   simp
   rfl
theorem wd_head:∀ (l:List Nat) (q:Bool) (c:Nat) (cur:List Nat),∃ w ws,wd q (c::cur) l=(c::w)::ws
 | [],q,c,cur=>⟨cur,[],by cases q <;> rfl⟩
 | d::l,true,c,cur=>by
   show ∃ w ws,(if d=39 then wd false (c::cur) l else wd true (c::cur++[d]) l)=(c::w)::ws
   split
   ·exact wd_head l false c cur
   ·exact wd_head l true c (cur++[d])
 | d::l,false,c,cur=>by
   show ∃ w ws,(if d=39 then wd true (c::cur) l else if d=32 then (c::cur)::wd false [] l else if d=92 then wd false (c::cur) l else wd false (c::cur++[d]) l)=(c::w)::ws
   split
   ·exact wd_head l true c cur
   ·split
    ·exact ⟨_,_,rfl⟩
    ·split
     ·exact wd_head l false c cur
     ·exact wd_head l false c (cur++[d])
noncomputable def endsLet (w:List Nat):Prop:=∃ c,w.getLast? =some c∧isLet c=true
noncomputable def opensLet (w:List Nat):Prop:=∃ c,w.head? =some c∧isLet c=true
theorem wd_props:∀ (l:List Nat) (s:Au) (q:Bool) (cur:List Nat),okA s l→(s= .F→endsLet cur)→(s= .S→q=true)→(∀ w∈(wd q cur l).dropLast,endsLet w)∧(∀ w∈(wd q cur l).tail,opensLet w)
 | [],s,q,cur,h,h1,h2=>by
   have e:wd q cur []=[cur]:=by cases q <;> rfl
   rw [e];refine ⟨?_,?_⟩ <;> (intro w hw;cases hw)
 | c::l,s,q,cur,⟨s',hd,ho⟩,h1,h2=>by
   have ap:isLet c=true→endsLet (cur++[c]):=fun h=>⟨c,by simp,h⟩
   have st:∀ {s2:Au},s2= .N∨s2= .D∨s2= .K→∀ cur:List Nat,s2= .F→endsLet cur:=by
    intro s2 h cur e;rw [e] at h;rcases h with h | h | h <;> cases h
   have st2:∀ {s2:Au} {q:Bool},s2= .N∨s2= .D∨s2= .K∨s2= .F→s2= .S→q=true:=by
    intro s2 q h e;rw [e] at h;rcases h with h | h | h | h <;> cases h
   rcases dlt_cases hd with ⟨h,hs',hs⟩ | ⟨h,hs',hs⟩ | ⟨h,hs',hs⟩ | ⟨h,hs',hs⟩ | ⟨h,hs',hs⟩ | ⟨h,hs',hs⟩ | ⟨h,hs',hs⟩ | ⟨h,hs',hs⟩
   ·obtain ⟨-,a2,a3,a4,a5,a6,a7⟩:=let_alph h
    have e:wd q cur (c::l)=wd q (cur++[c]) l:=by
     cases q
     ·show (if c=39 then _ else if c=32 then _ else if c=92 then _ else _)=_
      rw [if_neg a4,if_neg a2,if_neg a7]
     ·show (if c=39 then _ else _)=_
      rw [if_neg a4]
    rw [e];exact wd_props l s' q _ ho (fun _=>ap h) (st2 (.inr (.inr (.inr hs'))))
   ·subst h
    have e:wd q cur (47::l)=wd q (cur++[47]) l:=by cases q <;> rfl
    rw [e];exact wd_props l s' q _ ho (st (.inl hs') _) (st2 (.inl hs'))
   ·subst h
    have e:wd q cur (39::l)=wd (!q) cur l:=by cases q <;> rfl
    rw [e];exact wd_props l s' (!q) _ ho (st (.inl hs') _) (st2 (.inl hs'))
   ·subst h
    have e:wd q cur (46::l)=wd q (cur++[46]) l:=by cases q <;> rfl
    rw [e];exact wd_props l s' q _ ho (st (.inr (.inl hs')) _) (st2 (.inr (.inl hs')))
   ·subst h
    have e:wd q cur (46::l)=wd q (cur++[46]) l:=by cases q <;> rfl
    rw [e];exact wd_props l s' q _ ho (st (.inl hs') _) (st2 (.inl hs'))
   ·subst h hs'
    cases q
    ·have e:wd false cur (32::l)=cur::wd false [] l:=rfl
     rw [e]
     cases l with
     | nil=>rcases ho with h | h <;> cases h
     | cons d l=>
       obtain ⟨s2,hd2,ho2⟩:=ho
       rcases dlt_cases hd2 with ⟨hl,hs2, -⟩ | h | h | h | h | h | h | h
       all_goals first | (exfalso;rcases h with ⟨_,_,h | h⟩ <;> cases h;done) | (exfalso;have:=h.2.2;cases this;done) | skip
       obtain ⟨-,a2,a3,a4,a5,a6,a7⟩:=let_alph hl
       have e2:wd false [] (d::l)=wd false [d] l:=by
        show (if d=39 then _ else if d=32 then _ else if d=92 then _ else _)=_
        rw [if_neg a4,if_neg a2,if_neg a7];rfl
       rw [e2]
       obtain ⟨q1,q2⟩:=wd_props l s2 false [d] ho2 (fun _=>⟨d,rfl,hl⟩) (st2 (.inr (.inr (.inr hs2))))
       obtain ⟨w,ws,e3⟩:=wd_head l false d []
       rw [e3] at q1 q2⊢
       refine ⟨fun v hv=>?_,fun v hv=>?_⟩
       ·rw [List.dropLast_cons_of_ne_nil (by simp)] at hv
        rcases List.mem_cons.mp hv with rfl | hv
        ·exact h1 hs
        ·exact q1 v hv
       ·rcases List.mem_cons.mp hv with rfl | hv
        ·exact ⟨d,rfl,hl⟩
        ·exact q2 v hv
    ·have e:wd true cur (32::l)=wd true (cur++[32]) l:=rfl
     rw [e];exact wd_props l .S true _ ho (fun e=>nomatch e) (fun _=>rfl)
   ·subst h
    have e:∃ cur',wd q cur (92::l)=wd q cur' l:=by cases q <;> exact ⟨_,rfl⟩
    obtain ⟨cur',e⟩:=e
    rw [e];exact wd_props l s' q _ ho (st (.inr (.inr hs')) _) (st2 (.inr (.inr (.inl hs'))))
   ·subst h
    have e:wd q cur (34::l)=wd q (cur++[34]) l:=by cases q <;> rfl
    rw [e];exact wd_props l s' q _ ho (st (.inl hs') _) (st2 (.inl hs'))
theorem wd_count:∀ (l:List Nat) (q:Bool) (cur:List Nat),(wd q cur l).length≤l.count 32+1
 | [],q,cur=>by cases q <;> simp [wd]
 | c::l,true,cur=>by
   show (if c=39 then wd false cur l else wd true (cur++[c]) l).length≤_
   have:=List.count_le_count_cons (a:=32) (b:=c) (l:=l)
   split
   ·have:=wd_count l false cur;exact ar42
   ·have:=wd_count l true (cur++[c]);exact ar42
 | c::l,false,cur=>by
   show (if c=39 then wd true cur l else if c=32 then cur::wd false [] l else if c=92 then wd false cur l else wd false (cur++[c]) l).length≤_
   have:=List.count_le_count_cons (a:=32) (b:=c) (l:=l)
   split
   ·have:=wd_count l true cur;exact ar42
   ·split
    ·rename_i h
     subst h
     have:=wd_count l false []
     rw [List.count_cons_self,List.length_cons];lia
    ·split
     ·have:=wd_count l false cur;exact ar42
     ·have:=wd_count l false (cur++[c]);exact ar42
theorem subAt_start (x:Str) (d:Nat):startsB x ⟨⟨[d]⟩⟩=true↔(L x).head? =some d:=by
 unfold startsB
 rw [Bool.and_eq_true,decide_eq_true_eq]
 have:=subAt_one x d 0
 rw [List.head?_eq_getElem?]
 exact this
theorem subAt_end (x:Str) (d:Nat):endsB x ⟨⟨[d]⟩⟩=true↔(L x).getLast? =some d:=by
 unfold endsB
 rw [Bool.and_eq_true,decide_eq_true_eq]
 have:=subAt_one x d (x.length - 1)
 rw [List.getLast?_eq_getElem?,L_len]
 have h1:(⟨⟨[d]⟩⟩:Str).length=1:=rfl
 rw [h1] at this⊢
 refine Iff.trans ⟨fun h=>⟨by lia,h.2⟩,fun h=>⟨by have:=h.1;exact ar50,h.2⟩⟩ this
theorem NS_let {x:Str} (h:opensLet (L x)):NS x:=fun q=>by
 obtain ⟨c,h1,h2⟩:=h
 rw [subAt_start,h1] at q
 cases q
 exact absurd h2 (by decide)
theorem NE_let {x:Str} (h:endsLet (L x)):NE x:=by
 obtain ⟨c,h1,h2⟩:=h
 refine ⟨fun q=>?_,fun q=>?_⟩
 ·rw [←L_len] at q
  rw [List.length_eq_zero_iff.mp q] at h1
  cases h1
 ·rw [subAt_end,h1] at q
  cases q
  exact absurd h2 (by decide)
theorem NE_app {q x:Str} (h:NE x):NE (q++(⟨⟨[47]⟩⟩++x)):=by
 refine ⟨?_,fun k=>h.2 ?_⟩
 ·rw [len_app,len_app]
  have:=h.1
  lia
 ·rw [subAt_end,L_app,L_app,List.getLast?_append,List.getLast?_append] at k
  rw [subAt_end]
  cases hx:(L x).getLast? with
  | none=>
    rw [List.getLast?_eq_none_iff] at hx
    have:=h.1
    rw [←L_len,hx] at this
    exact absurd rfl this
  | some c=>rw [hx] at k;exact k
theorem joinT_len:∀ (xs:List Str) (p:Str),p.length≤(joinT p xs).length
 | [],p=>Nat.le_refl _
 | x::xs,p=>by
   have:=joinT_len xs (p++(⟨⟨[47]⟩⟩++x))
   rw [len_app] at this
   exact Nat.le_trans (Nat.le_add_right _ _) this
theorem JOk_nil (q:Str):JOk q []:=trivial
theorem JOk_cons {q x:Str} {xs:List Str} (h:NE q∧(q++(⟨⟨[47]⟩⟩++x)).length≤sizeLine) (k:JOk (jstep q x) xs):JOk q (x::xs):=⟨fun _=>h,k⟩
theorem joinT_cons (q x:Str) (xs:List Str):joinT q (x::xs)=joinT (q++(⟨⟨[47]⟩⟩++x)) xs:=rfl
theorem jok_app:∀ (xs:List Str) (q:Str),NE q→(∀ x∈xs,NS x)→(∀ x∈xs.dropLast,NE x)→(joinT q xs).length≤sizeLine→JOk q xs∧xs.foldl jstep q=joinT q xs:=by
 intro xs
 induction xs with
 | nil=>exact fun q hq h1 h2 hl=>⟨JOk_nil q,rfl⟩
 | cons x xs ih=>
   intro q hq h1 h2 hl
   have hs:=h1 x (List.mem_cons_self ..)
   have e:jstep q x=q++(⟨⟨[47]⟩⟩++x):=by unfold jstep;rw [if_neg hs]
   rw [joinT_cons] at hl⊢
   have hl1:=Nat.le_trans (joinT_len xs _) hl
   rw [List.foldl_cons,e]
   by_cases hx:xs=[]
   ·subst hx
    exact ⟨JOk_cons ⟨hq,hl1⟩ (JOk_nil _),rfl⟩
   ·rw [List.dropLast_cons_of_ne_nil hx] at h2
    have hx2:NE x:=h2 x (List.mem_cons_self ..)
    obtain ⟨a,b⟩:=ih _ (NE_app (q:=q) hx2) (fun z hz=>h1 z (List.mem_cons_of_mem _ hz)) (fun z hz=>h2 z (List.mem_cons_of_mem _ hz)) hl
    exact ⟨JOk_cons ⟨hq,hl1⟩ (by rw [e];exact a),b⟩
theorem pathStep_norm {x:Str} (h:x≠⟨⟨[46]⟩⟩) (nm:List Str):normStepT nm x=pathStepT nm x:=by
 unfold normStepT pathStepT
 by_cases h1:x=⟨⟨[]⟩⟩
 ·subst h1
  rw [if_pos (.inl rfl),if_neg (by decide),if_pos rfl]
 ·rw [if_neg (fun q=>q.elim h1 h)]
  split
  ·rfl
  ·rfl
theorem fold_norm:∀ (ps nm:List Str),(∀ x∈ps,x≠⟨⟨[46]⟩⟩)→ps.foldl normStepT nm=ps.foldl pathStepT nm
 | [],nm,h=>rfl
 | x::ps,nm,h=>by
   rw [List.foldl_cons,List.foldl_cons,pathStep_norm (h x (List.mem_cons_self ..)),fold_norm ps _ fun y hy=>h y (List.mem_cons_of_mem _ hy)]
theorem wgt_drop (ws:List (List Nat)):wgt ws.dropLast≤wgt ws:=by
 cases ws with
 | nil=>exact Nat.le_refl _
 | cons a ws=>
   have:=last_split (a::ws) (by simp)
   conv=>rhs;rw [this,wgt_app]
   lia
theorem fold_wgt:∀ (ps nm:List Str),wgt ((ps.foldl pathStepT nm).map L)≤wgt (nm.map L)+wgt (ps.map L)
 | [],nm=>Nat.le_add_right _ _
 | x::ps,nm=>by
   rw [List.foldl_cons]
   refine Nat.le_trans (fold_wgt ps _) ?_
   have:wgt ((pathStepT nm x).map L)≤wgt (nm.map L)+((L x).length+1):=by
    unfold pathStepT
    split
    ·rw [List.map_dropLast]
     have:=wgt_drop (nm.map L);lia
    ·split
     ·lia
     ·rw [List.map_append,wgt_app,List.map_cons,wgt_cons];show _+((L x).length+1+0)≤_;lia
   rw [List.map_cons,wgt_cons];lia
theorem fold_len:∀ (ps:List Str) (n:Nat),ps.foldl (fun n (s:Str)=>n+s.length+1) n=n+wgt (ps.map L)
 | [],n=>rfl
 | x::ps,n=>by rw [List.foldl_cons,fold_len ps,List.map_cons,wgt_cons,L_len];lia
theorem long_ok {ps:List Str} (h:wgt (ps.map L)≤sizeLine):Builtin.Str.tooLong (ps.toArray.foldl (·+·.length+1) 0)=false:=by
 unfold tooLong
 rw [List.foldl_toArray,fold_len]
 simp;exact ar13
theorem gl_len (z:List Nat) (hz:z.length=1):∀ ps:List (List Nat),(gl z ps).length≤wgt ps
 | []=>Nat.le_refl _
 | p::ps=>by
   have:∀ qs:List (List Nat),(qs.flatMap (z++·)).length=wgt qs:=by
    intro qs
    induction qs with
    | nil=>rfl
    | cons q qs ih=>rw [List.flatMap_cons,List.length_append,ih,wgt_cons,List.length_append,hz];exact ar34
   show (p++ps.flatMap (z++·)).length≤_
   rw [List.length_append,this,wgt_cons];lia
theorem glued_len (ps:List Str):(Builtin.Str.glued ⟨⟨[47]⟩⟩ ps).length≤wgt (ps.map L):=by
 rw [←L_len,glued_list]
 exact gl_len _ rfl _
theorem okA_rep:∀ (n:Nat) {l:List Nat},okA .N l→okA .N (List.replicate n 39++l)
 | 0,l,h=>h
 | n+1,l,h=>by rw [List.replicate_succ];exact ⟨.N,rfl,okA_rep n h⟩
theorem wj_len:∀ (l:List Nat) (q:Bool),(wj q l).length≤l.length
 | [],q=>by cases q <;> exact Nat.le_refl _
 | c::l,true=>by
   show (if c=39 then wj false l else c::wj true l).length≤l.length+1
   split
   ·have:=wj_len l false;exact ar15
   ·exact Nat.succ_le_succ (wj_len l true)
 | c::l,false=>by
   show (if c=39 then wj true l else if c=32 then 47::wj false l else if c=92 then wj false l else c::wj false l).length≤l.length+1
   split
   ·have:=wj_len l true;exact ar15
   ·split
    ·exact Nat.succ_le_succ (wj_len l false)
    ·split
     ·have:=wj_len l false;exact ar15
     ·exact Nat.succ_le_succ (wj_len l false)
structure LeftOk (x:Str):Prop where
 form:∃ r l,(r=1∨r=2∨r=3)∧L x=edgeL r++47::97::l∧okA .N (47::97::l)
 blanks:(L x).count 32≤6
 len:x.length≤10000
structure GoodWords (x:Str) (ws:List Str) (r:Str):Prop where
 lx:Lx (L x) ws
 words:wordsT x=ws
 odd:(strandsT x).length % 2=1
 len:0 < ws.length∧ws.length≤7
 starts:startsB (ws.headD ⟨⟨[]⟩⟩) ⟨⟨[47]⟩⟩=true
 ns:∀ y∈ws.tail,NS y
 ne:∀ y∈ws.dropLast,NE y
 join:joinT (ws.headD ⟨⟨[]⟩⟩) ws.tail=⟨⟨47::r.cps.toList⟩⟩
 joinLen:(joinT (ws.headD ⟨⟨[]⟩⟩) ws.tail).length≤sizeLine
 head:r.cps.toList.head?≠some 47
 nil:r.cps.toList≠[]
 splitLen:(splitS r ⟨⟨[47]⟩⟩).length≤sizeLine
 splitEach:∀ y∈splitS r ⟨⟨[47]⟩⟩,y.length≤sizeLine
 first:∃ y,(splitS r ⟨⟨[47]⟩⟩).head? =some y∧y≠⟨⟨[]⟩⟩∧y≠⟨⟨[46]⟩⟩∧y≠⟨⟨[46,46]⟩⟩
 normLong:Builtin.Str.tooLong ((normT r).toArray.foldl (·+·.length+1) 0)=false
 normLen:(⟨⟨[47]⟩⟩++Builtin.Str.glued ⟨⟨[47]⟩⟩ (normT r)).length≤sizeLine
 joinLong:Builtin.Str.tooLong (ws.toArray.foldl (·+·.length+1) 0)=false
 glueLen:(Builtin.Str.glued ⟨⟨[47]⟩⟩ ws).length≤sizeLine
 pieces:(piecesP ws).length≤sizeLine
 piecesEach:∀ y∈piecesP ws,y.length≤sizeLine
 piecesHead:(piecesP ws).head? =some ⟨⟨[]⟩⟩
 same:pathT ws=normT r
theorem wgt_words {x:Str} {ws:List Str} (h:ws.map L=wd false [] (L x)):ws≠[]∧wgt (ws.map L)≤(L x).length+1∧joinT (ws.headD ⟨⟨[]⟩⟩) ws.tail=Builtin.Str.glued ⟨⟨[47]⟩⟩ ws∧L (Builtin.Str.glued ⟨⟨[47]⟩⟩ ws)=wj false (L x):=by
 obtain ⟨h1,w,W,h2⟩:=gl_wd (L x) false []
 cases ws with
 | nil=>rw [h2] at h;cases h
 | cons v ws=>
   have e:L (Builtin.Str.glued ⟨⟨[47]⟩⟩ (v::ws))=gl [47] ((v::ws).map L):=glued_list _ _
   have e2:L (joinT v ws)=gl [47] ((v::ws).map L):=joinT_L ws v
   have e3:gl [47] ((v::ws).map L)=wj false (L x):=by rw [h,h1];rfl
   refine ⟨by simp,?_,L_inj (e2.trans e.symm),e.trans e3⟩
   have:=wj_len (L x) false
   rw [←e3] at this
   have key:∀ ps:List (List Nat),ps≠[]→(gl [47] ps).length+1=wgt ps:=by
    intro ps hps
    cases ps with
    | nil=>exact absurd rfl hps
    | cons p ps=>
      have k2:∀ qs:List (List Nat),(qs.flatMap ([47]++·)).length=wgt qs:=by
       intro qs
       induction qs with
       | nil=>rfl
       | cons q qs ih=>rw [List.flatMap_cons,List.length_append,ih,wgt_cons,List.length_append];show 1+_+_=_;exact ar34
      show (p++ps.flatMap ([47]++·)).length+1=_
      rw [List.length_append,k2,wgt_cons];lia
   rw [←key _ (by simp)];lia
theorem good_words {x:Str} (h:LeftOk x) (hf:fin false (L x)=false):∃ ws r,GoodWords x ws r:=by
 obtain ⟨rr,l,hr,hx,ho⟩:=h.form
 have hs:sizeLine=16777216:=by decide
 have hxl:=h.len
 have hlen:=L_len x
 have hokx:okA .N (L x):=by rw [hx];exact okA_rep _ ho
 obtain ⟨ws,hlx,hws⟩:=lx_edge hr ho (by rw [←hx];exact hf)
 rw [←hx] at hlx hws
 have hws:=hws.symm
 obtain ⟨w0,w1,w2,w3⟩:=wgt_words hws
 have hwt:wordsT x=ws:=map_L_inj ((words_L (okA_kOk hokx)).trans hws.symm)
 have hJ:∃ r',wj false (L x)=47::97::r':=by
  rw [hx]
  rcases hr with rfl | rfl | rfl
  ·exact ⟨_,rfl⟩
  ·exact ⟨_,rfl⟩
  ·exact ⟨_,rfl⟩
 obtain ⟨r',hJ⟩:=hJ
 have hJl:=wj_len (L x) false
 rw [hJ] at hJl
 have hr1:L (ofL (97::r'))=97::r':=L_of _
 have hJG:Builtin.Str.glued ⟨⟨[47]⟩⟩ ws=⟨⟨47::(ofL (97::r')).cps.toList⟩⟩:=L_inj (by rw [w3,hJ];show _=47::(ofL (97::r')).cps.toList;exact congrArg _ hr1.symm)
 have hsp:(splitS (ofL (97::r')) ⟨⟨[47]⟩⟩).map L=partsL [47] 0 [] (97::r'):=by rw [split_list (by decide) (by decide+kernel),hr1]
 have hpc:piecesP ws=⟨⟨[]⟩⟩::splitS (ofL (97::r')) ⟨⟨[47]⟩⟩:=map_L_inj (by
  unfold piecesP
  rw [split_list (by decide) (by decide+kernel),w3,hJ,List.map_cons,hsp]
  exact parts1_eq 47 [] _)
 have hsw:wgt ((splitS (ofL (97::r')) ⟨⟨[47]⟩⟩).map L)=r'.length+2:=by
  rw [hsp,parts_wgt,List.length_cons];show 0+_+1=_;lia
 have hdots:=wj_dots (L x) false .N hokx
 rw [hJ] at hdots
 have hnd:∀ y∈splitS (ofL (97::r')) ⟨⟨[47]⟩⟩,y≠⟨⟨[46]⟩⟩:=fun y hy e=>by
  have hm:L y∈partsL [47] 0 [] (47::97::r'):=by
   rw [parts1_eq,←hsp]
   exact List.mem_cons_of_mem _ (List.mem_map_of_mem hy)
  have:=parts_dots _ [] false rfl hdots _ hm
  exact one_dot this (by rw [e])
 have hsame:pathT ws=normT (ofL (97::r')):=by
  unfold pathT normT
  rw [hpc,List.foldl_cons,show pathStepT [] ⟨⟨[]⟩⟩=[] from by unfold pathStepT;rw [if_neg (by decide),if_pos rfl],fold_norm _ _ hnd]
 have hpw:wgt ((pathT ws).map L)≤r'.length+2:=by
  unfold pathT
  rw [hpc,List.foldl_cons,show pathStepT [] ⟨⟨[]⟩⟩=[] from by unfold pathStepT;rw [if_neg (by decide),if_pos rfl]]
  have:=fold_wgt (splitS (ofL (97::r')) ⟨⟨[47]⟩⟩) []
  rw [hsw] at this
  exact Nat.le_trans this (by show 0+_≤_;lia)
 rw [List.length_cons,List.length_cons] at hJl
 obtain ⟨p1,p2⟩:=wd_props (L x) .N false [] hokx (fun e=>nomatch e) (fun e=>nomatch e)
 rw [←hws] at p1 p2
 have hcnt:=wd_count (L x) false []
 rw [←hws,List.length_map] at hcnt
 have hb:=h.blanks
 have hsl:=wgt_len ((splitS (ofL (97::r')) ⟨⟨[47]⟩⟩).map L)
 rw [List.length_map] at hsl
 have each:∀ y∈splitS (ofL (97::r')) ⟨⟨[47]⟩⟩,y.length≤sizeLine:=fun y hy=>by
  have:=wgt_mem (List.mem_map_of_mem (f:=L) hy)
  rw [L_len] at this;lia
 refine ⟨ws,ofL (97::r'),hlx,hwt,?_,⟨List.length_pos_iff.mpr w0,ar42⟩,?_,?_,?_,w2.trans hJG,?_,?_,?_,by lia,each,?_,?_,?_,?_,?_,?_,?_,?_,hsame⟩
 ·rw [strands_mod,hf];rfl
 ·rw [subAt_start]
  cases ws with
  | nil=>exact absurd rfl w0
  | cons v ws=>
    show (L v).head? =some 47
    have hh:∃ w W,wd false [] (L x)=(47::w)::W:=by
     rw [hx]
     rcases hr with rfl | rfl | rfl
     ·exact wd_head (97::l) true 47 []
     ·exact wd_head (97::l) true 47 []
     ·exact wd_head (97::l) false 47 []
    obtain ⟨w,W,hh⟩:=hh
    rw [hh] at hws
    rw [(List.cons.inj hws).1];rfl
 ·intro y hy
  exact NS_let (p2 _ (by rw [←List.map_tail];exact List.mem_map_of_mem hy))
 ·intro y hy
  exact NE_let (p1 _ (by rw [←List.map_dropLast];exact List.mem_map_of_mem hy))
 ·rw [w2,←L_len,w3,hJ,List.length_cons,List.length_cons];lia
 ·show (L (ofL (97::r'))).head?≠_
  rw [hr1];simp
 ·show L (ofL (97::r'))≠_
  rw [hr1];simp
 ·obtain ⟨p,ps,e1,e2⟩:=parts1_cur (d:=47) r' [97] []
  have e3:partsL [47] 0 [] (97::r')=([97]++p)::ps:=by rw [parts1_ne (by decide)];exact e2
  rw [e3] at hsp
  cases hS:splitS (ofL (97::r')) ⟨⟨[47]⟩⟩ with
  | nil=>rw [hS] at hsp;cases hsp
  | cons y ys=>
    rw [hS] at hsp
    have hy:L y=97::p:=(List.cons.inj hsp).1
    refine ⟨y,rfl,fun e=>?_,fun e=>?_,fun e=>?_⟩ <;> (rw [e] at hy;cases hy)
 ·rw [←hsame];exact long_ok (by lia)
 ·rw [←hsame,←L_len,L_app,List.length_append,L_len,L_len]
  have:=glued_len (pathT ws)
  show 1+_≤_
  lia
 ·exact long_ok (by lia)
 ·rw [←L_len,w3,hJ,List.length_cons,List.length_cons];lia
 ·rw [hpc,List.length_cons];lia
 ·intro y hy
  rw [hpc] at hy
  rcases List.mem_cons.mp hy with rfl | hy
  ·show 0≤_;decide
  ·exact each y hy
 ·rw [hpc];rfl
theorem bad_words {x:Str} (h:LeftOk x) (hf:fin false (L x)=true):Bx (L x)∧(strandsT x).length % 2=0:=by
 obtain ⟨rr,l,hr,hx,ho⟩:=h.form
 refine ⟨?_,by rw [strands_mod,hf];rfl⟩
 rw [hx]
 exact bx_edge hr ho (by rw [←hx];exact hf)
noncomputable def st1:Bool→Bool→List Nat→List Nat
 | _,_,[]=>[]
 | true,i,c::l=>(if i=true then [] else [c])++st1 false i l
 | false,i,c::l=>if c=34 then st1 false (!i) l else (if i=true then [] else [c])++st1 (c == 92) i l
noncomputable def cl1:Bool→Bool→List Nat→Bool
 | _,i,[]=>i
 | true,i,_::l=>cl1 false i l
 | false,i,c::l=>if c=34 then cl1 false (!i) l else cl1 (c == 92) i l
theorem genE_cons (c:Nat) (l:List Nat):genE false (c::l)=genE (c == 92) l:=by
 show (if c=92 then genE true l else genE false l)=_
 by_cases h:c=92
 ·rw [if_pos h,h];rfl
 ·rw [if_neg h,show (c == 92)=false by simpa using h]
theorem st1_app:∀ (a b:List Nat) (e i:Bool),st1 e i (a++b)=st1 e i a++st1 (genE e a) (cl1 e i a) b
 | [],b,e,i=>by cases e <;> rfl
 | c::a,b,true,i=>by
   show (if i=true then [] else [c])++st1 false i (a++b)=((if i=true then [] else [c])++st1 false i a)++st1 (genE false a) (cl1 false i a) b
   rw [st1_app a b false i,List.append_assoc]
 | c::a,b,false,i=>by
   rw [genE_cons]
   show (if c=34 then st1 false (!i) (a++b) else (if i=true then [] else [c])++st1 (c == 92) i (a++b))=(if c=34 then st1 false (!i) a else (if i=true then [] else [c])++st1 (c == 92) i a)++st1 (genE (c == 92) a) (if c=34 then cl1 false (!i) a else cl1 (c == 92) i a) b
   split
   ·rename_i h
    rw [h,st1_app a b false (!i)];rfl
   ·rw [st1_app a b _ i,List.append_assoc]
theorem cl1_app:∀ (a b:List Nat) (e i:Bool),cl1 e i (a++b)=cl1 (genE e a) (cl1 e i a) b
 | [],b,e,i=>by cases e <;> rfl
 | c::a,b,true,i=>cl1_app a b false i
 | c::a,b,false,i=>by
   rw [genE_cons]
   show (if c=34 then cl1 false (!i) (a++b) else cl1 (c == 92) i (a++b))=cl1 (genE (c == 92) a) (if c=34 then cl1 false (!i) a else cl1 (c == 92) i a) b
   split
   ·rename_i h
    rw [h,cl1_app a b false (!i)];rfl
   ·exact cl1_app a b _ i
theorem genE_app:∀ (a b:List Nat) (e:Bool),genE e (a++b)=genE (genE e a) b
 | [],b,e=>by cases e <;> rfl
 | c::a,b,true=>genE_app a b false
 | c::a,b,false=>by
   rw [genE_cons,List.cons_append,genE_cons]
   exact genE_app a b _
theorem st1_len:∀ (l:List Nat) (e i:Bool),(st1 e i l).length≤l.length
 | [],e,i=>by cases e <;> exact Nat.le_refl _
 | c::l,true,i=>by
   show ((if i=true then [] else [c])++st1 false i l).length≤l.length+1
   have:=st1_len l false i
   rw [List.length_append]
   split
   ·exact Nat.le_trans (Nat.le_of_eq (Nat.zero_add _)) (Nat.le_succ_of_le this)
   ·exact Nat.le_trans (Nat.le_of_eq (Nat.add_comm 1 _)) (Nat.succ_le_succ this)
 | c::l,false,i=>by
   show (if c=34 then st1 false (!i) l else (if i=true then [] else [c])++st1 (c == 92) i l).length≤l.length+1
   split
   ·have:=st1_len l false (!i);exact ar15
   ·have:=st1_len l (c == 92) i
    rw [List.length_append]
    split
    ·exact Nat.le_trans (Nat.le_of_eq (Nat.zero_add _)) (Nat.le_succ_of_le this)
    ·exact Nat.le_trans (Nat.le_of_eq (Nat.add_comm 1 _)) (Nat.succ_le_succ this)
theorem st1_none:∀ (l:List Nat) (e:Bool),34∉l→st1 e false l=l
 | [],e,h=>by cases e <;> rfl
 | c::l,true,h=>by
   show [c]++st1 false false l=_
   rw [st1_none l false fun q=>h (List.mem_cons_of_mem _ q)];rfl
 | c::l,false,h=>by
   show (if c=34 then _ else [c]++st1 (c == 92) false l)=_
   rw [if_neg (fun e=>h (by rw [e];exact List.mem_cons_self ..)),st1_none l _ fun q=>h (List.mem_cons_of_mem _ q)];rfl
theorem genY_len:∀ (l:List Nat) (k:Nat) (e:Bool),(genY k e l).length≤l.length
 | [],k,e=>by cases e <;> exact Nat.le_refl _
 | c::l,k,true=>Nat.succ_le_succ (genY_len l (k+1) false)
 | c::l,k,false=>by
   show (if c=92 then genY (k+1) true l else (k,one c)::genY (k+1) false l).length≤l.length+1
   split
   ·have:=genY_len l (k+1) true;exact ar15
   ·exact Nat.succ_le_succ (genY_len l (k+1) false)
noncomputable def fl (rs:List Str):List Nat:=(rs.map L).flatten
theorem fl_app (a b:List Str):fl (a++b)=fl a++fl b:=by unfold fl;rw [List.map_append,List.flatten_append]
theorem L_slice {x:Str} {a b:Nat} (h:a≤b) (hb:b≤x.length):L (Txt.slice x (some (a:Int)) (some (b:Int)))=((L x).drop a).take (b - a):=by
 rw [slice_nat x h hb]
theorem L_from {x:Str} {a:Nat} (h:a≤x.length):L (Txt.slice x (some (a:Int)) none)=(L x).drop a:=by
 have:=StrLaws.sliceText_from (x:=x) (i:=(a:Int)) ⟨Int.natCast_nonneg a,Int.ofNat_le.mpr (Nat.le_trans h (Nat.le_of_eq (L_len x).symm))⟩
 have e:Txt.slice x (some (a:Int)) none=StrLaws.sliceText x (some (a:Int)) none:=rfl
 rw [e,this]
 show ((L x).drop (a:Int).toNat).take (((L x).length:Int) - a).toNat=_
 rw [Int.toNat_natCast]
 refine List.take_of_length_le ?_
 rw [List.length_drop];exact Nat.le_of_eq (Int.toNat_sub _ _).symm
theorem two_ne (c:Nat):(⟨⟨[92]⟩⟩++one c:Str)≠⟨⟨[34]⟩⟩:=fun e=>by
 have:=congrArg Str.length e
 rw [len_app] at this
 exact absurd this (by show ¬(1+1=1);decide)
noncomputable def StripEnd (x:Str) (S:Int×Option Int×List Str) (s0 n:Nat) (w:List Nat):Prop:=
 ∃ (s1:Nat) (rs1:List Str),S=((s1:Int),none,rs1)∧s1≤x.length∧fl rs1++(L x).drop s1=w∧rs1.length≤n∧(s1=s0∨(0 < s1∧(L x)[s1 - 1]? =some 34))
theorem StripEnd.mono {x:Str} {S:Int×Option Int×List Str} {s0 s0' n n':Nat} {w w':List Nat} (h:StripEnd x S s0 n w) (e:w=w') (hn:n≤n') (hs:s0=s0'∨(0 < s0∧(L x)[s0 - 1]? =some 34)):StripEnd x S s0' n' w':=by
 obtain ⟨s1,rs1,a,b,c,d,f⟩:=h
 refine ⟨s1,rs1,a,b,c.trans e,Nat.le_trans d hn,?_⟩
 rcases f with f | f
 ·rcases hs with hs | hs
  ·exact .inl (f.trans hs)
  ·exact .inr (f▸hs)
 ·exact .inr f
theorem take_one {x:Str} {s0 k c:Nat} {r:List Nat} (h:(L x).drop k=c::r) (hs:s0≤k):((L x).drop s0).take (k+1 - s0)=((L x).drop s0).take (k - s0)++[c]:=by
 have hg:(L x)[k]? =some c:=by
  have:=congrArg (·[0]?) h
  simpa using this
 rw [show k+1 - s0=(k - s0)+1 by exact ar32,List.take_add_one,List.getElem?_drop,show s0+(k - s0)=k by exact ar36,hg]
 rfl
theorem strip_go (x:Str):∀ (rest:List Nat) (k:Nat) (e:Bool),(L x).drop k=rest→k≤x.length→
 (∀ (s0:Nat) (rs:List Str),s0≤k→cl1 e false rest=false→StripEnd x ((genY k e rest).foldl (stripStep x) ((s0:Int),none,rs)) s0 (rs.length+rest.length) (fl rs++((L x).drop s0).take (k - s0)++st1 e false rest))∧
 (∀ (s0 o:Nat) (rs:List Str),s0≤o→o < k→cl1 e true rest=false→StripEnd x ((genY k e rest).foldl (stripStep x) ((s0:Int),some (o:Int),rs)) s0 (rs.length+rest.length) (fl rs++((L x).drop s0).take (o - s0)++st1 e true rest))
 | [],k,e,hd,hk=>by
   have hkn:k=x.length:=by
    have:=congrArg List.length hd
    rw [List.length_drop,L_len,List.length_nil] at this
    exact ar37
   constructor
   ·intro s0 rs hs hc
    have eg:genY k e []=[]:=by cases e <;> rfl
    have es:st1 e false []=[]:=by cases e <;> rfl
    rw [eg,es,hkn,List.append_nil]
    refine ⟨s0,rs,rfl,by exact ar44,?_,Nat.le_refl _,.inl rfl⟩
    congr 1
    exact (List.take_of_length_le (by rw [List.length_drop,L_len];exact Nat.le_refl _)).symm
   ·intro s0 o rs hs ho hc
    cases e <;> cases hc
 | c::rest,k,e,hd,hk=>by
   have hd':(L x).drop (k+1)=rest:=by rw [←List.drop_drop,hd];rfl
   have hlt:k < x.length:=by
    have:=congrArg List.length hd
    rw [List.length_drop,L_len,List.length_cons] at this
    exact ar38
   have hg:(L x)[k]? =some c:=by
    have:=congrArg (·[0]?) hd
    simpa using this
   have ih:=fun e'=>strip_go x rest (k+1) e' hd' (by exact ar16)
   cases e with
   | true=>
     have stay:∀ S,stripStep x S (k,⟨⟨[92]⟩⟩++one c)=S:=fun S=>by
      unfold stripStep
      rw [if_neg (two_ne c)]
     constructor
     ·intro s0 rs hs hc
      show StripEnd x (((k,⟨⟨[92]⟩⟩++one c)::genY (k+1) false rest).foldl (stripStep x) _) _ _ _
      rw [List.foldl_cons,stay]
      refine ((ih false).1 s0 rs (by exact ar15) hc).mono ?_ (Nat.le_succ _) (.inl rfl)
      rw [take_one hd hs]
      show _=fl rs++((L x).drop s0).take (k - s0)++([c]++st1 false false rest)
      simp only [List.append_assoc]
     ·intro s0 o rs hs ho hc
      show StripEnd x (((k,⟨⟨[92]⟩⟩++one c)::genY (k+1) false rest).foldl (stripStep x) _) _ _ _
      rw [List.foldl_cons,stay]
      exact ((ih false).2 s0 o rs hs (Nat.lt_succ_of_lt ho) hc).mono rfl (Nat.le_succ _) (.inl rfl)
   | false=>
     by_cases h34:c=34
     ·subst h34
      have eg:genY k false (34::rest)=(k,one 34)::genY (k+1) false rest:=rfl
      constructor
      ·intro s0 rs hs hc
       rw [eg,List.foldl_cons]
       have es:stripStep x ((s0:Int),none,rs) (k,one 34)=((s0:Int),some (k:Int),rs):=rfl
       rw [es]
       exact ((ih false).2 s0 k rs hs (Nat.lt_succ_self k) hc).mono rfl (Nat.le_succ _) (.inl rfl)
      ·intro s0 o rs hs ho hc
       rw [eg,List.foldl_cons]
       have es:∃ rs',stripStep x ((s0:Int),some (o:Int),rs) (k,one 34)=(((k+1:Nat):Int),none,rs')∧fl rs'=fl rs++((L x).drop s0).take (o - s0)∧rs'.length≤rs.length+1:=by
        unfold stripStep
        rw [if_pos (show (k,one 34).2=⟨⟨[34]⟩⟩ from rfl)]
        show ∃ rs',(if (s0:Int)≠(o:Int) then _ else _)=_∧_
        by_cases q:(s0:Int)=(o:Int)
        ·rw [if_neg (by simpa using q)]
         refine ⟨rs,rfl,?_,Nat.le_succ _⟩
         rw [show o - s0=0 from Nat.sub_eq_zero_of_le (Nat.le_of_eq (Int.ofNat.inj q).symm)];simp
        ·rw [if_pos q]
         refine ⟨rs++[Txt.slice x (some (s0:Int)) (some (o:Int))],rfl,?_,by simp⟩
         rw [fl_app]
         congr 1
         show L _++[]=_
         rw [List.append_nil,L_slice hs (Nat.le_of_lt (Nat.lt_of_lt_of_le ho hk))]
       obtain ⟨rs',e1,e2,e3⟩:=es
       rw [e1]
       refine ((ih false).1 (k+1) rs' (Nat.le_refl _) hc).mono ?_ ar88 (.inr ⟨Nat.succ_pos k,hg⟩)
       rw [e2,Nat.sub_self,List.take_zero,List.append_nil];rfl
     ·have stay:∀ S,stripStep x S (k,one c)=S:=fun S=>by
       unfold stripStep
       rw [if_neg (show ¬(k,one c).2=⟨⟨[34]⟩⟩ from fun q=>h34 (one_inj.mp q))]
      have fold:∀ S,(genY k false (c::rest)).foldl (stripStep x) S=(genY (k+1) (c == 92) rest).foldl (stripStep x) S:=fun S=>by
       show (if c=92 then genY (k+1) true rest else (k,one c)::genY (k+1) false rest).foldl (stripStep x) S=_
       by_cases h92:c=92
       ·rw [if_pos h92,h92];rfl
       ·rw [if_neg h92,List.foldl_cons,stay,show (c == 92)=false by simpa using h92]
      have ec:∀ i,cl1 false i (c::rest)=cl1 (c == 92) i rest:=fun i=>by
       show (if c=34 then _ else _)=_
       rw [if_neg h34]
      have est:∀ i,st1 false i (c::rest)=(if i=true then [] else [c])++st1 (c == 92) i rest:=fun i=>by
       show (if c=34 then _ else _)=_
       rw [if_neg h34]
      constructor
      ·intro s0 rs hs hc
       rw [ec] at hc
       rw [fold]
       refine ((ih (c == 92)).1 s0 rs (by exact ar15) hc).mono ?_ (Nat.le_succ _) (.inl rfl)
       rw [take_one hd hs,est]
       simp only [List.append_assoc]
       rfl
      ·intro s0 o rs hs ho hc
       rw [ec] at hc
       rw [fold]
       refine ((ih (c == 92)).2 s0 o rs hs (Nat.lt_succ_of_lt ho) hc).mono ?_ (Nat.le_succ _) (.inl rfl)
       rw [est];rfl
structure StripOk (x:Str) (w:List Nat):Prop where
 text:L (stripT x)=w
 open_:(stripF x).2.1=none
 parts:(stripF x).2.2.length≤x.length
 start:(stripF x).1 < (x.length:Int)
 long:Builtin.Str.tooLong (((stripF x).2.2++[Txt.slice x (some (stripF x).1) none]).toArray.foldl (·+·.length+(⟨⟨[]⟩⟩:Str).length) 0)=false
theorem gl_nil:∀ ps:List (List Nat),gl [] ps=ps.flatten
 | []=>rfl
 | p::ps=>by
   show p++ps.flatMap ([]++·)=_
   rw [List.flatten_cons]
   congr 1
   induction ps with
   | nil=>rfl
   | cons q qs ih=>rw [List.flatMap_cons,List.flatten_cons,ih];rfl
theorem sum_fl:∀ (ps:List Str) (n:Nat),ps.foldl (fun n (s:Str)=>n+s.length+(⟨⟨[]⟩⟩:Str).length) n=n+(fl ps).length
 | [],n=>rfl
 | p::ps,n=>by
   rw [List.foldl_cons,sum_fl ps]
   show n+p.length+0+_=n+(L p++fl ps).length
   rw [List.length_append,L_len];exact Nat.add_assoc n p.length _
theorem strip_ok {x:Str} (hl:x.length≤sizeLine) (hlast:(L x).getLast? =some 39) (hc:cl1 false false (L x)=false):StripOk x (st1 false false (L x)):=by
 obtain ⟨s1,rs1,a,b,c,d,f⟩:=(strip_go x (L x) 0 false (List.drop_zero ..) (Nat.zero_le _)).1 0 [] (Nat.le_refl _) hc
 have a:stripF x=((s1:Int),none,rs1):=a
 have hlen:=L_len x
 have c:fl rs1++(L x).drop s1=st1 false false (L x):=by rw [c];rfl
 have hpos:0 < x.length:=by
  rcases Nat.eq_zero_or_pos x.length with q | q
  ·rw [←hlen] at q
   rw [List.length_eq_zero_iff.mp q] at hlast;cases hlast
  ·exact q
 have hs1:s1 < x.length:=by
  rcases f with f | ⟨f1,f2⟩
  ·rw [f];exact hpos
  ·rcases Nat.lt_or_ge s1 x.length with q | q
   ·exact q
   ·exfalso
    rw [List.getLast?_eq_getElem?,hlen,show x.length - 1=s1 - 1 by rw [Nat.le_antisymm b q],f2] at hlast
    cases hlast
 have ht:L (stripT x)=st1 false false (L x):=by
  unfold stripT
  rw [a,glued_list,show L (⟨⟨[]⟩⟩:Str)=[] from rfl,gl_nil]
  show fl (rs1++_)=_
  rw [fl_app,←c]
  congr 1
  show L _++[]=_
  rw [List.append_nil,L_from b]
 refine ⟨ht,by rw [a],by rw [a];have d:rs1.length≤0+(L x).length:=d;rw [Nat.zero_add,hlen] at d;exact d,by rw [a];exact Int.ofNat_lt.mpr hs1,?_⟩
 unfold tooLong
 rw [List.foldl_toArray,sum_fl]
 have e:fl ((stripF x).2.2++[Txt.slice x (some (stripF x).1) none])=st1 false false (L x):=by
  rw [a,fl_app,←c]
  congr 1
  show L _++[]=_
  rw [List.append_nil,L_from b]
 rw [e]
 have:=st1_len (L x) false false
 simp;lia
noncomputable def Qc (c:Nat):List Nat:=if c=39 then [39,34,39,34,39] else [c]
noncomputable def aL:Nat→List Nat
 | 0=>[39]
 | r+1=>(aL r).flatMap Qc
noncomputable def eL:Nat→List Nat
 | 0=>[]
 | r+1=>39::(eL r).flatMap Qc
noncomputable def fL:Nat→List Nat
 | 0=>[]
 | r+1=>(fL r).flatMap Qc++[39]
noncomputable def AL (r c:Nat):List Nat:=if c=39 then aL r else [c]
noncomputable def qN:Nat→Str→Str
 | 0,x=>x
 | r+1,x=>quoteS (qN r x)
theorem quote_L (x:Str):L (quoteS x)=39::(L x).flatMap Qc++[39]:=by
 unfold quoteS
 rw [L_app,L_app,repl_list (by decide)]
 show [39]++replL [39] [39,34,39,34,39] 0 (L x)++[39]=_
 rw [repl1];rfl
theorem AL_succ (r c:Nat):(AL r c).flatMap Qc=AL (r+1) c:=by
 unfold AL
 by_cases h:c=39
 ·rw [if_pos h,if_pos h];rfl
 ·rw [if_neg h,if_neg h]
  show Qc c++[]=_
  unfold Qc
  rw [if_neg h];rfl
theorem AL_zero (p:List Nat):p.flatMap (AL 0)=p:=by
 induction p with
 | nil=>rfl
 | cons c p ih=>
   rw [List.flatMap_cons,ih]
   unfold AL aL
   by_cases h:c=39
   ·rw [if_pos h,h];rfl
   ·rw [if_neg h];rfl
theorem qN_L:∀ (r:Nat) (x:Str),L (qN r x)=eL r++(L x).flatMap (AL r)++fL r
 | 0,x=>by
   rw [AL_zero]
   show L x=[]++L x++[]
   simp
 | r+1,x=>by
   show L (quoteS (qN r x))=_
   rw [quote_L,qN_L r x]
   rw [List.flatMap_append,List.flatMap_append,List.flatMap_assoc]
   rw [show (fun c=>(AL r c).flatMap Qc)=AL (r+1) from funext fun c=>AL_succ r c]
   show 39::((eL r).flatMap Qc++(L x).flatMap (AL (r+1))++(fL r).flatMap Qc)++[39]=(39::(eL r).flatMap Qc)++_++((fL r).flatMap Qc++[39])
   simp only [List.cons_append,List.append_assoc]
noncomputable def moL (r:Nat):Nat:=match r with | 1=>2 | 2=>5 | _=>14
noncomputable def bN (i:Bool):Nat:=if i=true then 1 else 0
noncomputable abbrev R3 (r:Nat):Prop:=r=1∨r=2∨r=3
theorem aL_st {r:Nat} (h:R3 r) (i:Bool):st1 false i (aL r)=List.replicate (moL r - bN i) 39∧genE false (aL r)=false∧cl1 false i (aL r)=i:=by
 rcases h with rfl | rfl | rfl <;> cases i <;> decide
theorem eL_st {r:Nat} (h:R3 r):st1 false false (eL r)=edgeL r∧genE false (eL r)=false∧cl1 false false (eL r)=false:=by
 rcases h with rfl | rfl | rfl <;> decide
theorem fL_st {r:Nat} (h:R3 r):st1 false false (fL r)=edgeL r∧genE false (fL r)=false∧cl1 false false (fL r)=false:=by
 rcases h with rfl | rfl | rfl <;> decide
theorem aL_len {r:Nat} (h:R3 r):(aL r).length≤53:=by
 rcases h with rfl | rfl | rfl <;> decide
theorem most_eq {r:Nat} (h:R3 r):mostN r=(moL r:Int):=by
 rcases h with rfl | rfl | rfl <;> rfl
theorem edge_eq {r:Nat} (h:R3 r):L (edgeN r)=edgeL r:=by
 rcases h with rfl | rfl | rfl <;> rfl
theorem rep_L (n:Int):L (rep39 n)=List.replicate n.toNat 39:=L_of _
theorem mo_pos {r:Nat} (h:R3 r):2≤moL r:=by
 rcases h with rfl | rfl | rfl <;> decide
theorem struck_go {r:Nat} (hr:R3 r):∀ (p:List Nat) (S:SS) (e i:Bool),kOk p→(e=true→p.head? =some 34)→S.e=e→S.i=(bN i:Int)→
 L (p.foldl (sstep (mostN r)) S).text=L S.text++st1 e i (p.flatMap (AL r))∧(p.foldl (sstep (mostN r)) S).i=(bN (cl1 e i (p.flatMap (AL r))):Int)∧genE e (p.flatMap (AL r))=false
 | [],S,e,i,hk,he,h1,h2=>by
   have e0:e=false:=by
    cases e
    ·rfl
    ·exact nomatch he rfl
   subst e0
   exact ⟨by show L S.text=_++[];rw [List.append_nil],h2,rfl⟩
 | c::p,S,e,i,hk,he,h1,h2=>by
   rw [List.foldl_cons,List.flatMap_cons]
   have hmp:=mo_pos hr
   have hbi:bN i≤1:=by cases i <;> decide
   by_cases h39:c=39
   ·subst h39
    have e0:e=false:=by
     cases e
     ·rfl
     ·exact nomatch (he rfl)
    subst e0
    obtain ⟨a1,a2,a3⟩:=aL_st hr i
    have eA:AL r 39=aL r:=if_pos rfl
    rw [eA,st1_app,cl1_app,genE_app,a1,a2,a3]
    have es:sstep (mostN r) S 39=⟨decide ((39:Nat)=92),S.i,S.text++rep39 (mostN r - S.i),one 39⟩:=if_pos rfl
    rw [es]
    obtain ⟨q1,q2,q3⟩:=struck_go hr p ⟨decide ((39:Nat)=92),S.i,S.text++rep39 (mostN r - S.i),one 39⟩ false i hk.2 (fun e=>nomatch e) rfl h2
    refine ⟨?_,q2,q3⟩
    rw [q1]
    show L (S.text++rep39 (mostN r - S.i))++_=_
    rw [L_app,rep_L,h2,most_eq hr,List.append_assoc,show ((moL r:Int) - (bN i:Int)).toNat=moL r - bN i by lia]
   ·have eA:AL r c=[c]:=if_neg h39
    rw [eA]
    by_cases h34:c=34
    ·subst h34
     cases e with
     | true=>
       have es:sstep (mostN r) S 34=if S.i=0 then ⟨decide ((34:Nat)=92),S.i,S.text++one 34,one 34⟩ else ⟨decide ((34:Nat)=92),S.i,S.text,one 34⟩:=by
        unfold sstep
        rw [if_neg h39,if_neg (fun q=>by rw [h1] at q;exact nomatch q.2)]
       have key:∀ S',S'.e=false→S'.i=S.i→L S'.text=L S.text++(if i=true then [] else [34])→L (p.foldl (sstep (mostN r)) S').text=L S.text++st1 true i ([34]++p.flatMap (AL r))∧(p.foldl (sstep (mostN r)) S').i=(bN (cl1 true i ([34]++p.flatMap (AL r))):Int)∧genE true ([34]++p.flatMap (AL r))=false:=by
        intro S' g1 g2 g3
        obtain ⟨q1,q2,q3⟩:=struck_go hr p S' false i hk.2 (fun e=>nomatch e) g1 (g2.trans h2)
        refine ⟨?_,q2,q3⟩
        rw [q1,g3,List.append_assoc];rfl
       rw [es]
       cases i with
       | true=>rw [if_neg (by rw [h2];decide)];exact key _ rfl rfl (by simp)
       | false=>rw [if_pos (by rw [h2];rfl)];exact key _ rfl rfl (L_app _ _)
     | false=>
       have es:sstep (mostN r) S 34=⟨decide ((34:Nat)=92),1 - S.i,S.text,one 34⟩:=by
        unfold sstep
        rw [if_neg h39,if_pos ⟨rfl,h1⟩]
       rw [es]
       obtain ⟨q1,q2,q3⟩:=struck_go hr p ⟨decide ((34:Nat)=92),1 - S.i,S.text,one 34⟩ false (!i) hk.2 (fun e=>nomatch e) rfl (by show 1 - S.i=_;rw [h2];cases i <;> rfl)
       exact ⟨q1,q2,q3⟩
    ·have e0:e=false:=by
      cases e
      ·rfl
      ·exact absurd (Option.some.inj (he rfl)) h34
     subst e0
     have es:sstep (mostN r) S c=if S.i=0 then ⟨decide (c=92),S.i,S.text++one c,one c⟩ else ⟨decide (c=92),S.i,S.text,one c⟩:=by
      unfold sstep
      rw [if_neg h39,if_neg (fun q=>h34 q.1)]
     have e1:∀ l,st1 false i ([c]++l)=(if i=true then [] else [c])++st1 (c == 92) i l:=fun l=>by
      show (if c=34 then _ else _)=_
      rw [if_neg h34];rfl
     have e2:∀ l,cl1 false i ([c]++l)=cl1 (c == 92) i l:=fun l=>by
      show (if c=34 then _ else _)=_
      rw [if_neg h34];rfl
     have key:∀ S',S'.e=decide (c=92)→S'.i=S.i→L S'.text=L S.text++(if i=true then [] else [c])→L (p.foldl (sstep (mostN r)) S').text=L S.text++st1 false i ([c]++p.flatMap (AL r))∧(p.foldl (sstep (mostN r)) S').i=(bN (cl1 false i ([c]++p.flatMap (AL r))):Int)∧genE false ([c]++p.flatMap (AL r))=false:=by
      intro S' g1 g2 g3
      obtain ⟨q1,q2,q3⟩:=struck_go hr p S' (c == 92) i hk.2 (fun e=>hk.1 (by simpa using e)) (g1.trans (by by_cases h:c=92 <;> simp [h])) (g2.trans h2)
      refine ⟨?_,?_,?_⟩
      ·rw [q1,g3,List.append_assoc,e1]
      ·rw [q2,e2]
      ·show genE false (c::_)=_
       rw [genE_cons];exact q3
     rw [es]
     cases i with
     | true=>rw [if_neg (by rw [h2];decide)];exact key _ rfl rfl (by simp)
     | false=>rw [if_pos (by rw [h2];rfl)];exact key _ rfl rfl (L_app _ _)
theorem struck_eq {r:Nat} (hr:R3 r) {path:Str} (hk:kOk (L path)) (hc:cl1 false false ((L path).flatMap (AL r))=false):
 L (struckT r path)=edgeL r++st1 false false ((L path).flatMap (AL r))++edgeL r∧st1 false false (L (qN r path))=L (struckT r path)∧cl1 false false (L (qN r path))=false∧genE false (L (qN r path))=false:=by
 obtain ⟨q1,q2,q3⟩:=struck_go hr (L path) ⟨false,0,edgeN r,one 0⟩ false false hk (fun e=>nomatch e) rfl rfl
 have e1:L (struckT r path)=edgeL r++st1 false false ((L path).flatMap (AL r))++edgeL r:=by
  unfold struckT struckEnd
  rw [L_app,q1,edge_eq hr]
 obtain ⟨a1,a2,a3⟩:=eL_st hr
 obtain ⟨b1,b2,b3⟩:=fL_st hr
 refine ⟨e1,?_,?_,?_⟩
 ·rw [e1,qN_L,List.append_assoc,st1_app,st1_app,a1,a2,a3,q3,hc,b1,←List.append_assoc]
 ·rw [qN_L,List.append_assoc,cl1_app,cl1_app,a2,a3,q3,hc,b3]
 ·rw [qN_L,List.append_assoc,genE_app,genE_app,a2,q3,b2]
theorem fL_last {r:Nat} (hr:R3 r):(fL r).getLast? =some 39:=by
 rcases hr with rfl | rfl | rfl <;> decide
theorem eL_head {r:Nat} (hr:R3 r):∃ t,eL r=39::t:=by
 rcases hr with rfl | rfl | rfl <;> exact ⟨_,rfl⟩
theorem qN_last {r:Nat} (hr:R3 r) (path:Str):(L (qN r path)).getLast? =some 39:=by
 rw [qN_L,List.getLast?_append,fL_last hr];rfl
theorem qN_head {r:Nat} (hr:R3 r) (path:Str):(L (qN r path)).head? =some 39:=by
 obtain ⟨t,e⟩:=eL_head hr
 rw [qN_L,e];rfl
theorem strip_struck {r:Nat} (hr:R3 r) {path:Str} (hk:kOk (L path)) (hc:cl1 false false ((L path).flatMap (AL r))=false) (hl:(qN r path).length≤sizeLine):stripT (qN r path)=struckT r path∧StripOk (qN r path) (L (struckT r path)):=by
 obtain ⟨e1,e2,e3,e4⟩:=struck_eq hr hk hc
 have z:=strip_ok hl (qN_last hr path) e3
 rw [e2] at z
 exact ⟨L_inj z.text,z⟩
theorem has_iff (x:Str) (c:Nat):hasB x ⟨⟨[c]⟩⟩↔c∈L x:=by
 have:=found_one x c
 show (occurrences x ⟨⟨[c]⟩⟩ 0 x.length 1).isEmpty=false↔_
 have e:(!(occurrences x ⟨⟨[c]⟩⟩ 0 x.length 1).isEmpty)=decide (c∈L x):=this
 cases h:(occurrences x ⟨⟨[c]⟩⟩ 0 x.length 1).isEmpty <;> rw [h] at e
 ·simpa using e.symm
 ·simp at e⊢;exact e
theorem plain_struck {r:Nat} (hr:R3 r) {path:Str} (hk:kOk (L path)) (hc:cl1 false false ((L path).flatMap (AL r))=false) (hn:¬hasB (qN r path) ⟨⟨[34]⟩⟩):qN r path=struckT r path:=by
 obtain ⟨e1,e2,e3,e4⟩:=struck_eq hr hk hc
 rw [has_iff] at hn
 rw [st1_none _ _ hn] at e2
 exact L_inj e2
theorem figs_L (k:Nat):L (figs (k:Int))=(Nat.toDigits 10 k).map Char.toNat:=by
 show (Str.ofString (toString (k:Int))).cps.toList=_
 rw [Str.ofString_eq_toList]
 show ((Nat.repr k).toList.map Char.toNat)=_
 rw [Nat.toList_repr]
structure DigL (d:List Nat):Prop where
 dig:∀ c∈d,48≤c∧c≤57
 pos:1≤d.length
 le:d.length≤6
theorem figs_dig {k:Nat} (h:k < 1000000):DigL (L (figs (k:Int))):=by
 rw [figs_L]
 refine ⟨fun c hc=>?_,?_,?_⟩
 ·obtain ⟨ch,hch,rfl⟩:=List.mem_map.mp hc
  have:=Nat.isDigit_of_mem_toDigits (by decide) (by decide) hch
  unfold Char.isDigit at this
  simp only [Bool.and_eq_true,decide_eq_true_eq] at this
  exact ⟨this.1,this.2⟩
 ·rw [List.length_map];exact toDigits_len_ge 10 k
 ·rw [List.length_map];exact toDigits_len_pow (by decide) (by decide) h
noncomputable def PartL (w:List Nat):Prop:=(∃ d,DigL d∧(w=d∨w=d++[32,120]∨w=d++[39,115]∨w=d++[92,34]))∨w=[39]∨w=[34]∨w=[46,46]
theorem part_L {n:Nat} (h:n < 1000000):PartL (L (partT n)):=by
 have e:(n:Int).fdiv 7=((n / 7:Nat):Int):=by
  rw [Int.fdiv_eq_ediv_of_nonneg _ (by decide)];rfl
 have hd:DigL (L (figs ((n:Int).fdiv 7))):=by rw [e];exact figs_dig (ar39)
 unfold partT
 have hm:n % 7 < 7:=Nat.mod_lt _ (by decide)
 match hk:n % 7,hm with
 | 0,_=>exact .inl ⟨_,hd,.inl rfl⟩
 | 1,_=>exact .inl ⟨_,hd,.inr (.inl (L_app _ _))⟩
 | 2,_=>exact .inl ⟨_,hd,.inr (.inr (.inl (L_app _ _)))⟩
 | 3,_=>exact .inr (.inl rfl)
 | 4,_=>exact .inr (.inr (.inl rfl))
 | 5,_=>exact .inr (.inr (.inr rfl))
 | 6,_=>exact .inl ⟨_,hd,.inr (.inr (.inr (L_app _ _)))⟩
 | m+7,h=>exact absurd h (by lia)
theorem dig_let {c:Nat} (h:48≤c∧c≤57):isLet c=true∧c≠39∧c≠34∧c≠92∧c≠32∧c < 128∧c≠47:=by
 refine ⟨?_,by lia,by lia,by lia,by lia,by lia,by lia⟩
 unfold isLet
 rw [decide_eq_true h.1,decide_eq_true h.2];rfl
noncomputable def runA:Au→List Nat→Option Au
 | s,[]=>some s
 | s,c::l=>(dlt s c).bind fun s'=>runA s' l
theorem runA_app:∀ (a b:List Nat) (s:Au),runA s (a++b)=(runA s a).bind fun s'=>runA s' b
 | [],b,s=>rfl
 | c::a,b,s=>by
   show (dlt s c).bind (fun s'=>runA s' (a++b))=((dlt s c).bind fun s'=>runA s' a).bind _
   cases dlt s c with
   | none=>rfl
   | some s'=>exact runA_app a b s'
theorem okA_run:∀ {l:List Nat} {s s':Au},runA s l=some s'→(s'= .N∨s'= .F)→okA s l
 | [],s,s',h,e=>by cases h;exact e
 | c::l,s,s',h,e=>by
   obtain ⟨s2,h1,h2⟩:=bndE h
   exact ⟨s2,h1,okA_run h2 e⟩
noncomputable abbrev NF (s:Au):Prop:=s= .N∨s= .F
theorem run_dig:∀ (d:List Nat) (s:Au),(∀ c∈d,48≤c∧c≤57)→NF s→runA s d=some (if d=[] then s else .F)
 | [],s,h,e=>rfl
 | c::d,s,h,e=>by
   have hl:=(dig_let (h c (List.mem_cons_self ..))).1
   have hd:dlt s c=some .F:=by
    rcases e with rfl | rfl
    ·show (if isLet c=true then _ else _)=_
     rw [if_pos hl]
    ·show (if isLet c=true then _ else _)=_
     rw [if_pos hl]
   show (dlt s c).bind (fun s'=>runA s' d)=_
   rw [hd]
   show runA .F d=_
   rw [run_dig d .F (fun x hx=>h x (List.mem_cons_of_mem _ hx)) (.inr rfl),if_neg (List.cons_ne_nil c d)]
   split <;> rfl
theorem run_rep:∀ (n:Nat) (s:Au),NF s→∃ s',NF s'∧runA s (List.replicate n 39)=some s'
 | 0,s,h=>⟨s,h,rfl⟩
 | n+1,s,h=>by
   have hd:dlt s 39=some .N:=by rcases h with rfl | rfl <;> rfl
   rw [List.replicate_succ]
   show ∃ s',NF s'∧(dlt s 39).bind _=some s'
   rw [hd]
   exact run_rep n .N (.inl rfl)
theorem run_rep1 (n:Nat) (s:Au) (h:NF s) (hn:0 < n):runA s (List.replicate n 39)=some .N:=by
 cases n with
 | zero=>lia
 | succ n=>
   have hd:dlt s 39=some .N:=by rcases h with rfl | rfl <;> rfl
   rw [List.replicate_succ]
   show (dlt s 39).bind _=_
   rw [hd]
   show runA .N (List.replicate n 39)=_
   clear hd h hn
   induction n with
   | zero=>rfl
   | succ n ih=>rw [List.replicate_succ];exact ih
theorem pass:∀ (a X:List Nat) (i:Bool),(∀ c∈a,c≠34∧c≠92)→st1 false i (a++X)=(if i=true then [] else a)++st1 false i X∧cl1 false i (a++X)=cl1 false i X∧genE false (a++X)=genE false X
 | [],X,i,h=>⟨by cases i <;> rfl,rfl,rfl⟩
 | c::a,X,i,h=>by
   obtain ⟨h1,h2⟩:=h c (List.mem_cons_self ..)
   obtain ⟨q1,q2,q3⟩:=pass a X i fun x hx=>h x (List.mem_cons_of_mem _ hx)
   have e:(c == 92)=false:=by simpa using h2
   refine ⟨?_,?_,?_⟩
   ·show (if c=34 then _ else (if i=true then [] else [c])++st1 (c == 92) i (a++X))=_
    rw [if_neg h1,e,q1]
    cases i <;> rfl
   ·show (if c=34 then _ else cl1 (c == 92) i (a++X))=_
    rw [if_neg h1,e,q2]
   ·rw [List.cons_append,genE_cons,e,q3]
theorem flat_dig {r:Nat}:∀ (d:List Nat),(∀ c∈d,48≤c∧c≤57)→d.flatMap (AL r)=d
 | [],h=>rfl
 | c::d,h=>by
   rw [List.flatMap_cons,flat_dig d fun x hx=>h x (List.mem_cons_of_mem _ hx)]
   unfold AL
   rw [if_neg (dig_let (h c (List.mem_cons_self ..))).2.1];rfl
structure PartR (r:Nat) (w:List Nat) (i:Bool):Prop where
 cl:cl1 false i ((47::w).flatMap (AL r))=(if w=[34] then !i else i)
 esc:genE false ((47::w).flatMap (AL r))=false
 run:∀ s,NF s→∃ s',NF s'∧runA s (st1 false i ((47::w).flatMap (AL r)))=some s'
 blank:(st1 false i ((47::w).flatMap (AL r))).count 32≤(if w=[34] then 0 else 1)
theorem count_dig {d:List Nat} (h:∀ c∈d,48≤c∧c≤57):d.count 32=0:=List.count_eq_zero.mpr fun q=>absurd (h 32 q).1 (by decide)
theorem part_tail {r:Nat} (hr:R3 r) {d t:List Nat} (hd:DigL d) (i:Bool) (hcl:cl1 false i (t.flatMap (AL r))=i) (hes:genE false (t.flatMap (AL r))=false)
 (hrun:i=false→∃ s',NF s'∧runA .F (st1 false i (t.flatMap (AL r)))=some s') (hin:i=true→∃ n,st1 false i (t.flatMap (AL r))=List.replicate n 39) (hbl:(st1 false i (t.flatMap (AL r))).count 32≤1):PartR r (d++t) i:=by
 have e1:(47::(d++t)).flatMap (AL r)=(47::d)++t.flatMap (AL r):=by
  rw [List.flatMap_cons,List.flatMap_append,flat_dig d hd.dig];rfl
 obtain ⟨q1,q2,q3⟩:=pass (47::d) (t.flatMap (AL r)) i fun c hc=>by
  rcases List.mem_cons.mp hc with rfl | hc
  ·decide
  ·have:=dig_let (hd.dig c hc);exact ⟨this.2.2.1,this.2.2.2.1⟩
 have hne:d++t≠[34]:=fun e=>by
  cases hdd:d with
  | nil=>have:=hd.pos;rw [hdd] at this;exact absurd this (by decide)
  | cons c d'=>
    rw [hdd] at e
    have hc:c=34:=(List.cons.inj e).1
    have:=hd.dig c (by rw [hdd];exact List.mem_cons_self ..)
    lia
 have hdn:d≠[]:=fun e=>by have:=hd.pos;rw [e] at this;exact absurd this (by decide)
 refine ⟨?_,?_,?_,?_⟩
 ·rw [e1,q2,hcl,if_neg hne]
 ·rw [e1,q3,hes]
 ·intro s hs
  rw [e1,q1]
  cases i with
  | true=>
    obtain ⟨n,e⟩:=hin rfl
    rw [e]
    exact run_rep n s hs
  | false=>
    obtain ⟨s',h1,h2⟩:=hrun rfl
    refine ⟨s',h1,?_⟩
    show runA s ((47::d)++_)=_
    rw [runA_app]
    have h47:dlt s 47=some .N:=by rcases hs with rfl | rfl <;> rfl
    have:runA s (47::d)=some .F:=by
     show (dlt s 47).bind _=_
     rw [h47]
     show runA .N d=_
     rw [run_dig d .N hd.dig (.inl rfl),if_neg hdn]
    rw [this];exact h2
 ·rw [e1,q1,if_neg hne,List.count_append]
  have:((if i=true then [] else 47::d):List Nat).count 32=0:=by
   cases i
   ·show (47::d).count 32=0
    rw [List.count_cons,count_dig hd.dig];rfl
   ·rfl
  lia
theorem part_run {r:Nat} (hr:R3 r) {w:List Nat} (hw:PartL w) (i:Bool):PartR r w i:=by
 have h32:AL r 32=[32]:=rfl
 have hmp:=mo_pos hr
 obtain ⟨a1,a2,a3⟩:=aL_st hr i
 rcases hw with ⟨d,hd,rfl | rfl | rfl | rfl⟩ | rfl | rfl | rfl
 ·have:=part_tail hr (t:=[]) hd i rfl rfl (fun _=>by cases i <;> exact ⟨.F,.inr rfl,rfl⟩) (fun _=>by cases i <;> exact ⟨0,rfl⟩) (by cases i <;> exact Nat.zero_le _)
  rw [List.append_nil] at this;exact this
 ·exact part_tail hr (t:=[32,120]) hd i rfl rfl (fun e=>by subst e;exact ⟨.F,.inr rfl,rfl⟩) (fun e=>by subst e;exact ⟨0,rfl⟩) (by cases i <;> first | exact Nat.zero_le _ | exact Nat.le_refl _)
 ·have e:[39,115].flatMap (AL r)=aL r++[115]:=rfl
  have es:st1 false i ([39,115].flatMap (AL r))=List.replicate (moL r - bN i) 39++(if i=true then [] else [115]):=by
   rw [e,st1_app,a1,a2,a3];cases i <;> rfl
  refine part_tail hr (t:=[39,115]) hd i (by rw [e,cl1_app,a2,a3];rfl) (by rw [e,genE_app,a2];rfl) (fun e0=>?_) (fun e0=>?_) ?_
  ·subst e0
   refine ⟨.F,.inr rfl,?_⟩
   rw [es,runA_app,run_rep1 _ .F (.inr rfl) (by show 0 < moL r - 0;lia)];rfl
  ·subst e0
   refine ⟨moL r - bN true,?_⟩
   rw [es];exact List.append_nil _
  ·rw [es,List.count_append,List.count_replicate]
   cases i <;> exact Nat.zero_le _
 ·exact part_tail hr (t:=[92,34]) hd i rfl rfl (fun e=>by subst e;exact ⟨.N,.inl rfl,rfl⟩) (fun e=>by subst e;exact ⟨0,rfl⟩) (by cases i <;> first | exact Nat.zero_le _ | exact Nat.le_refl _)
 ·have e:(47::[39]).flatMap (AL r)=[47]++aL r:=by
   show [47]++(aL r++[])=_
   rw [List.append_nil]
  obtain ⟨q1,q2,q3⟩:=pass [47] (aL r) i (by decide)
  refine ⟨by rw [e,q2,a3];rfl,by rw [e,q3,a2],fun s hs=>?_,?_⟩
  ·rw [e,q1,a1]
   cases i with
   | true=>exact run_rep _ s hs
   | false=>
     refine ⟨.N,.inl rfl,?_⟩
     have h47:dlt s 47=some .N:=by rcases hs with rfl | rfl <;> rfl
     show (dlt s 47).bind _=_
     rw [h47]
     exact run_rep1 _ .N (.inl rfl) (by show 0 < moL r - 0;lia)
  ·rw [e,q1,a1,List.count_append,List.count_replicate]
   cases i <;> exact Nat.zero_le _
 ·have e:(47::[34]).flatMap (AL r)=[47,34]:=rfl
  refine ⟨by rw [e];rfl,by rw [e];rfl,fun s hs=>?_,by rw [e];cases i <;> decide⟩
  rw [e]
  cases i with
  | true=>exact ⟨s,hs,rfl⟩
  | false=>
    have h47:dlt s 47=some .N:=by rcases hs with rfl | rfl <;> rfl
    refine ⟨.N,.inl rfl,?_⟩
    show (dlt s 47).bind _=_
    rw [h47];rfl
 ·have e:(47::[46,46]).flatMap (AL r)=[47,46,46]:=rfl
  refine ⟨by rw [e];rfl,by rw [e];rfl,fun s hs=>?_,by rw [e];cases i <;> decide⟩
  rw [e]
  cases i with
  | true=>exact ⟨s,hs,rfl⟩
  | false=>
    have h47:dlt s 47=some .N:=by rcases hs with rfl | rfl <;> rfl
    refine ⟨.N,.inl rfl,?_⟩
    show (dlt s 47).bind _=_
    rw [h47];rfl
noncomputable def hang (ws:List (List Nat)):List Nat:=ws.flatMap ([47]++·)
theorem parts_run {r:Nat} (hr:R3 r):∀ (ws:List (List Nat)) (i:Bool),(∀ w∈ws,PartL w)→
 cl1 false i ((hang ws).flatMap (AL r))=(if ws.count [34] % 2=0 then i else !i)∧genE false ((hang ws).flatMap (AL r))=false∧(∀ s,NF s→∃ s',NF s'∧runA s (st1 false i ((hang ws).flatMap (AL r)))=some s')∧
  (st1 false i ((hang ws).flatMap (AL r))).count 32+ws.count [34]≤ws.length
 | [],i,h=>⟨rfl,rfl,fun s hs=>⟨s,hs,rfl⟩,by cases i <;> exact Nat.le_refl _⟩
 | w::ws,i,h=>by
   have p:=part_run hr (h w (List.mem_cons_self ..)) i
   obtain ⟨q1,q2,q3,q4⟩:=parts_run hr ws (if w=[34] then !i else i) fun x hx=>h x (List.mem_cons_of_mem _ hx)
   have e:(hang (w::ws)).flatMap (AL r)=(47::w).flatMap (AL r)++(hang ws).flatMap (AL r):=by
    show ((47::w)++hang ws).flatMap (AL r)=_
    rw [List.flatMap_append]
   rw [e,cl1_app,genE_app,st1_app,p.esc,p.cl]
   refine ⟨?_,q2,fun s hs=>?_,?_⟩
   ·rw [q1,List.count_cons]
    by_cases hw:w=[34]
    ·rw [if_pos hw,hw]
     rcases Nat.mod_two_eq_zero_or_one (ws.count [34]) with k | k
     ·rw [if_pos k,if_neg (by simp;exact arp0)]
     ·rw [if_neg (by lia),if_pos (by simp;exact arp1)];cases i <;> rfl
    ·rw [if_neg hw,show (w == [34])=false by simpa using hw];rfl
   ·obtain ⟨s',h1,h2⟩:=p.run s hs
    obtain ⟨s2,h3,h4⟩:=q3 s' h1
    exact ⟨s2,h3,by rw [runA_app,h2];exact h4⟩
   ·have pb:=p.blank
    rw [List.count_append,List.count_cons,List.length_cons]
    by_cases hw:w=[34]
    ·rw [if_pos hw] at pb
     rw [show (w == [34])=true by simpa using hw]
     simp only [if_true];lia
    ·rw [if_neg hw] at pb
     rw [show (w == [34])=false by simpa using hw]
     simp only [Bool.false_eq_true,if_false];lia
structure PartsOk (ws:List Str):Prop where
 each:∀ w∈ws,PartL (L w)
 even:(ws.map L).count [34] % 2=0
 len:ws.length=5∨(ws.length=6∧0 < (ws.map L).count [34])
noncomputable abbrev ab:Str:=⟨⟨[47,97,32,98]⟩⟩
noncomputable def pathOf (ws:List Str):Str:=joinT ab ws
theorem path_L (ws:List Str):L (pathOf ws)=[47,97,32,98]++hang (ws.map L):=joinT_L ws ab
theorem part_len {w:List Nat} (h:PartL w):1≤w.length∧w.length≤8:=by
 rcases h with ⟨d,hd,rfl | rfl | rfl | rfl⟩ | rfl | rfl | rfl
 ·exact ⟨hd.pos,Nat.le_trans hd.le (by decide)⟩
 ·have:=hd.pos;have:=hd.le;rw [List.length_append];show 1≤_+2∧_+2≤8;lia
 ·have:=hd.pos;have:=hd.le;rw [List.length_append];show 1≤_+2∧_+2≤8;lia
 ·have:=hd.pos;have:=hd.le;rw [List.length_append];show 1≤_+2∧_+2≤8;lia
 ·decide
 ·decide
 ·decide
theorem hang_len:∀ (ws:List (List Nat)),(∀ w∈ws,PartL w)→(hang ws).length≤9 * ws.length
 | [],h=>Nat.le_refl _
 | w::ws,h=>by
   have:=(part_len (h w (List.mem_cons_self ..))).2
   have ih:=hang_len ws fun x hx=>h x (List.mem_cons_of_mem _ hx)
   show ((47::w)++hang ws).length≤9 * (ws.length+1)
   rw [List.length_append,List.length_cons];lia
theorem hang_wgt:∀ ws:List (List Nat),(hang ws).length=wgt ws
 | []=>rfl
 | w::ws=>by
   show ((47::w)++hang ws).length=_
   rw [List.length_append,hang_wgt ws,wgt_cons,List.length_cons]
theorem kOk_app:∀ {a b:List Nat},kOk a→kOk b→kOk (a++b)
 | [],b,ha,hb=>hb
 | c::a,b,ha,hb=>⟨fun e=>by
    have:=ha.1 e
    cases a with
    | nil=>cases this
    | cons d a=>exact this,kOk_app ha.2 hb⟩
theorem kOk_plain:∀ {a:List Nat},92∉a→kOk a
 | [],h=>trivial
 | c::a,h=>⟨fun e=>absurd (by rw [e];exact List.mem_cons_self ..) h,kOk_plain fun q=>h (List.mem_cons_of_mem _ q)⟩
theorem part_signs {w:List Nat} (h:PartL w):kOk w∧(∀ c∈w,c < 128)∧w.head?≠some 47∧w.getLast?≠some 47:=by
 have dg:∀ {d:List Nat},DigL d→92∉d∧(∀ c∈d,c < 128)∧47∉d:=fun hd=>⟨fun q=>absurd (hd.dig _ q) (by decide),fun c hc=>by have:=hd.dig c hc;lia,fun q=>absurd (hd.dig _ q) (by decide)⟩
 have hh:∀ {w:List Nat},47∉w→w.head?≠some 47∧w.getLast?≠some 47:=fun h=>⟨fun e=>h (List.mem_of_head? e),fun e=>h (List.mem_of_getLast? e)⟩
 rcases h with ⟨d,hd,rfl | rfl | rfl | rfl⟩ | rfl | rfl | rfl
 ·obtain ⟨a,b,c⟩:=dg hd;exact ⟨kOk_plain a,b,hh c⟩
 all_goals first
  | (obtain ⟨a,b,c⟩:=dg hd
     refine ⟨kOk_app (kOk_plain a) (by simp [kOk]),fun x hx=>?_,hh fun hx=>?_⟩
     ·rcases List.mem_append.mp hx with q | q
      ·exact b x q
      ·simp at q;lia
     ·rcases List.mem_append.mp hx with q | q
      ·exact c q
      ·simp at q)
  | exact ⟨by simp [kOk],by decide,by decide,by decide⟩
theorem hang_signs:∀ (ws:List (List Nat)),(∀ w∈ws,PartL w)→kOk (hang ws)∧∀ c∈hang ws,c < 128
 | [],h=>⟨trivial,fun c hc=>by cases hc⟩
 | w::ws,h=>by
   obtain ⟨a,b, -⟩:=part_signs (h w (List.mem_cons_self ..))
   obtain ⟨q1,q2⟩:=hang_signs ws fun x hx=>h x (List.mem_cons_of_mem _ hx)
   refine ⟨kOk_app (a:=[47]++w) (kOk_app (by simp [kOk]) a) q1,fun c hc=>?_⟩
   rcases List.mem_append.mp (show c∈([47]++w)++hang ws from hc) with q | q
   ·rcases List.mem_append.mp q with q | q
    ·rw [List.mem_singleton.mp q];decide
    ·exact b c q
   ·exact q2 c q
theorem flat_len {r:Nat} (hr:R3 r):∀ l:List Nat,(l.flatMap (AL r)).length≤53 * l.length
 | []=>Nat.le_refl _
 | c::l=>by
   have ih:=flat_len hr l
   have:(AL r c).length≤53:=by
    unfold AL
    split
    ·exact aL_len hr
    ·show 1≤53;decide
   rw [List.flatMap_cons,List.length_append,List.length_cons];lia
structure PathOk' (ws:List Str) (r:Nat):Prop where
 len:(pathOf ws).length≤58
 kok:kOk (L (pathOf ws))
 ascii:∀ c∈L (pathOf ws),c < 128
 closed:cl1 false false ((L (pathOf ws)).flatMap (AL r))=false
 left:LeftOk (struckT r (pathOf ws))
theorem path_ok {ws:List Str} (h:PartsOk ws) {r:Nat} (hr:R3 r):PathOk' ws r:=by
 have hp:∀ w∈ws.map L,PartL w:=fun w hw=>by
  obtain ⟨x,hx,rfl⟩:=List.mem_map.mp hw
  exact h.each x hx
 have hlen:ws.length≤6:=by rcases h.len with q | q <;> lia
 obtain ⟨k1,k2⟩:=hang_signs (ws.map L) hp
 have hl:=hang_len (ws.map L) hp
 rw [List.length_map] at hl
 obtain ⟨q1,q2,q3,q4⟩:=parts_run hr (ws.map L) false hp
 rw [if_pos h.even] at q1
 rw [List.length_map] at q4
 have e1:(L (pathOf ws)).flatMap (AL r)=[47,97,32,98]++(hang (ws.map L)).flatMap (AL r):=by
  rw [path_L,List.flatMap_append];rfl
 obtain ⟨p1,p2,p3⟩:=pass [47,97,32,98] ((hang (ws.map L)).flatMap (AL r)) false (by decide)
 have hk:kOk (L (pathOf ws)):=by rw [path_L];exact kOk_app (by simp [kOk]) k1
 have hc:cl1 false false ((L (pathOf ws)).flatMap (AL r))=false:=by rw [e1,p2,q1]
 have hpl:(pathOf ws).length≤58:=by
  rw [←L_len,path_L,List.length_append];show 4+_≤_;lia
 refine ⟨hpl,hk,fun c hc=>?_,hc,?_⟩
 ·rw [path_L] at hc
  rcases List.mem_append.mp hc with q | q
  ·exact (by decide:∀ c∈[47,97,32,98],c < 128) c q
  ·exact k2 c q
 ·obtain ⟨s1, -⟩:=struck_eq hr hk hc
  rw [e1,p1] at s1
  obtain ⟨s',t1,t2⟩:=q3 .F (.inr rfl)
  obtain ⟨n,hn⟩:∃ n,edgeL r=List.replicate n 39:=⟨_,rfl⟩
  obtain ⟨u',v1,v2⟩:=run_rep n s' t1
  have hrun:runA .N (47::97::([32,98]++st1 false false ((hang (ws.map L)).flatMap (AL r))++edgeL r))=some u':=by
   show runA .F (st1 false false ((hang (ws.map L)).flatMap (AL r))++edgeL r)=_
   rw [runA_app,t2,hn]
   exact v2
  refine ⟨⟨r,[32,98]++st1 false false ((hang (ws.map L)).flatMap (AL r))++edgeL r,hr,?_,okA_run hrun v1⟩,?_,?_⟩
  ·rw [s1]
   show edgeL r++([47,97,32,98]++st1 false false _)++edgeL r=_
   simp only [List.append_assoc];rfl
  ·rw [s1,List.count_append,List.count_append,show (edgeL r).count 32=0 from by unfold edgeL;rw [List.count_replicate];rfl]
   show 0+([47,97,32,98]++st1 false false _).count 32+0≤6
   rw [List.count_append,show ([47,97,32,98]:List Nat).count 32=1 from rfl]
   rcases h.len with q | q <;> lia
  ·rw [←L_len,s1,List.length_append,List.length_append]
   have a1:=st1_len ((hang (ws.map L)).flatMap (AL r)) false false
   have a2:=flat_len hr (hang (ws.map L))
   have a3:(edgeL r).length≤8:=by unfold edgeL;rw [List.length_replicate];rcases hr with rfl | rfl | rfl <;> decide
   show (edgeL r).length+([47,97,32,98]++st1 false false _).length+_≤_
   rw [List.length_append]
   show _+(4+_)+_≤_
   lia
theorem quote_len (x:Str):(quoteS x).length≤5 * x.length+2:=by
 rw [←L_len,quote_L,←L_len x]
 have:∀ l:List Nat,(l.flatMap Qc).length≤5 * l.length:=by
  intro l
  induction l with
  | nil=>exact Nat.le_refl _
  | cons c l ih=>
    have:(Qc c).length≤5:=by
     unfold Qc
     split
     ·decide
     ·show 1≤5;decide
    rw [List.flatMap_cons,List.length_append,List.length_cons];lia
 have:=this (L x)
 rw [List.length_append,List.length_cons]
 show _+1+1≤_
 lia
theorem qN_len {ws:List Str} (h:(pathOf ws).length≤58):∀ i,i≤3→(qN i (pathOf ws)).length≤10000
 | 0,_=>by show (pathOf ws).length≤_;exact ar13
 | 1,_=>by have:=quote_len (pathOf ws);show (quoteS (pathOf ws)).length≤_;lia
 | 2,_=>by
   have a:=quote_len (pathOf ws)
   have b:=quote_len (quoteS (pathOf ws))
   show (quoteS (quoteS (pathOf ws))).length≤_;lia
 | 3,_=>by
   have a:=quote_len (pathOf ws)
   have b:=quote_len (quoteS (pathOf ws))
   have c:=quote_len (quoteS (quoteS (pathOf ws)))
   show (quoteS (quoteS (quoteS (pathOf ws)))).length≤_;lia
 | n+4,h=>absurd h (by lia)
theorem sizeL:sizeLine=16777216:=by decide
theorem quote_conds {ws:List Str} (h:(pathOf ws).length≤58) (i:Nat) (hi:i < 3) (t:Tok):∀ p∈(quoteCS (qN i (pathOf ws)) t).conds,p:=by
 have l1:=qN_len h i (ar51)
 have l2:=qN_len h (i+1) (ar16)
 have hs:=sizeL
 refine cC ?_ (cC ?_ (cC ?_ (cC ?_ c0)))
 ·show (qN (i+1) (pathOf ws)).length≤_;exact ar13
 ·have:=occ_length_le (qN i (pathOf ws)) ⟨⟨[39]⟩⟩ 0 (qN i (pathOf ws)).length ((qN i (pathOf ws)).length+1)
  lia
 ·exact ar13
 ·cases i with
  | zero=>
    left
    refine ⟨98::hang (ws.map L),L_inj ?_⟩
    show L (pathOf ws)=_
    rw [path_L];rfl
  | succ i=>
    right
    refine ⟨(L (qN i (pathOf ws))).flatMap Qc++[39],L_inj ?_⟩
    show L (quoteS _)=_
    rw [quote_L];rfl
theorem strip_conds {ws:List Str} {r:Nat} (hr:R3 r) (h:PathOk' ws r) (hq:hasB (qN r (pathOf ws)) ⟨⟨[34]⟩⟩) (t:Tok):∀ p∈(stripCS (qN r (pathOf ws)) t).conds,p:=by
 have l1:=qN_len h.len r (by rcases hr with rfl | rfl | rfl <;> decide)
 have hs:=sizeL
 obtain ⟨e1,z⟩:=strip_struck hr h.kok h.closed (ar13)
 obtain ⟨-, -, -,e4⟩:=struck_eq hr h.kok h.closed
 refine cC (ar13) (cC ?_ (cC hq (cC (qN_head hr _) (cC e4 (cC z.open_ (cC ?_ (cC ?_ (cC z.start (cC z.long (cC ?_ c0))))))))))
 ·rw [Array.all_eq_true_iff_forall_mem]
  intro c hc
  have hc:c∈L (qN r (pathOf ws)):=Array.mem_toList_iff.mpr hc
  have hA:∀ c∈AL r c,True:=fun _ _=>trivial
  rw [qN_L] at hc
  have key:∀ c,c∈eL r∨c∈aL r∨c∈fL r→c < 128:=by
   rcases hr with rfl | rfl | rfl <;> (intro c hc;rcases hc with hc | hc | hc <;> (revert hc;revert c;decide))
  have:c < 128:=by
   rcases List.mem_append.mp hc with q | q
   ·rcases List.mem_append.mp q with q | q
    ·exact key c (.inl q)
    ·obtain ⟨d,hd,hc⟩:=List.mem_flatMap.mp q
     unfold AL at hc
     split at hc
     ·exact key c (.inr (.inl hc))
     ·rw [List.mem_singleton.mp hc];exact h.ascii d hd
   ·exact key c (.inr (.inr q))
  simpa using this
 ·have:=genY_len (L (qN r (pathOf ws))) 0 false
  rw [L_len] at this
  show (genY 0 false (L (qN r (pathOf ws)))).length < _
  lia
 ·have:=z.parts;lia
 ·rw [e1]
  have:=h.left.len;exact ar13
theorem struck_conds {ws:List Str} {r:Nat} (hr:R3 r) (h:PathOk' ws r) (t t':Tok):∀ p∈(struckCS (pathOf ws) r t t').conds,p:=by
 have hs:=sizeL
 have hl:=h.left.len
 have hp:=h.len
 refine cC (ar13) (cC ⟨47,?_,by decide,by decide⟩ (cC (by lia) (cC ?_ (cC hr c0))))
 ·rw [←Array.getElem?_toList]
  show (L (pathOf ws))[0]? =_
  rw [path_L];rfl
 ·rw [Array.all_eq_true_iff_forall_mem]
  intro c hc
  have:=h.ascii c (Array.mem_toList_iff.mpr hc)
  simpa using this
theorem join_conds {vs:List Value} (hA:AllS vs) (h:PartsOk (txs vs)) (t:Tok):(∀ p∈(joinCS ab t vs).conds,p)∧(txs vs).foldl jstep ab=pathOf (txs vs):=by
 have hs:=sizeL
 have hp:=(path_ok h (r:=1) (.inl rfl)).len
 have hl:vs.length=(txs vs).length:=by unfold txs;rw [List.length_map]
 have hn:∀ x∈txs vs,NS x∧NE x:=fun x hx=>by
  obtain ⟨-, -,a,b⟩:=part_signs (h.each x hx)
  have c:=(part_len (h.each x hx)).1
  rw [L_len] at c
  exact ⟨fun q=>a ((subAt_start x 47).mp q),by lia,fun q=>b ((subAt_end x 47).mp q)⟩
 obtain ⟨j1,j2⟩:=jok_app (txs vs) ab ⟨by decide,fun q=>by rw [subAt_end] at q;cases q⟩ (fun x hx=>(hn x hx).1) (fun x hx=>(hn x ((List.dropLast_sublist _).subset hx)).2) (by show (pathOf (txs vs)).length≤_;exact ar13)
 have h5:5≤vs.length∧vs.length≤7:=by rw [hl];rcases h.len with q | q <;> lia
 exact ⟨cC hA (cC (by lia) (cC j1 (cC h5.2 c0))),j2⟩
theorem parts_even {ns:List Nat} (hn:∀ n∈ns,n < 1000000) (hl:ns.length=5) (he:(ns.map partT).countP (· == ⟨⟨[34]⟩⟩) % 2=0):PartsOk (ns.map partT)∧True:=by
 refine ⟨⟨fun w hw=>?_,?_,?_⟩,trivial⟩
 ·obtain ⟨n,h,rfl⟩:=List.mem_map.mp hw
  exact part_L (hn n h)
 ·rw [←he]
  congr 1
  rw [List.count_eq_countP,List.countP_map]
  refine List.countP_congr fun x _=>?_
  show (L x == [34])=true↔(x == ⟨⟨[34]⟩⟩)=true
  rw [beq_iff_eq,beq_iff_eq]
  exact ⟨fun e=>L_inj e,fun e=>by rw [e]⟩
 ·rw [List.length_map];exact .inl hl
theorem parts_odd {ns:List Nat} (hn:∀ n∈ns,n < 1000000) (hl:ns.length=5) (he:(ns.map partT).countP (· == ⟨⟨[34]⟩⟩) % 2=1):PartsOk (ns.map partT++[⟨⟨[34]⟩⟩]):=by
 have e:((ns.map partT).map L).count [34]=(ns.map partT).countP (· == ⟨⟨[34]⟩⟩):=by
  rw [List.count_eq_countP,List.countP_map]
  refine List.countP_congr fun x _=>?_
  show (L x == [34])=true↔(x == ⟨⟨[34]⟩⟩)=true
  rw [beq_iff_eq,beq_iff_eq]
  exact ⟨fun e=>L_inj e,fun e=>by rw [e]⟩
 refine ⟨fun w hw=>?_,?_,?_⟩
 ·rcases List.mem_append.mp hw with hw | hw
  ·obtain ⟨n,h,rfl⟩:=List.mem_map.mp hw
   exact part_L (hn n h)
  ·rw [List.mem_singleton.mp hw];exact .inr (.inr (.inl rfl))
 ·rw [List.map_append,List.count_append,e]
  show (_+1) % 2=0
  exact arp1
 ·right
  rw [List.length_append,List.length_map,hl,List.map_append,List.count_append]
  exact ⟨rfl,Nat.succ_pos _⟩
theorem part_conds {n:Nat} (h:n < 1000000) (t:Tok):∀ p∈(partCS n t).conds,p:=by
 have hs:=sizeL
 have e:(n:Int).fdiv 7=((n / 7:Nat):Int):=by
  rw [Int.fdiv_eq_ediv_of_nonneg _ (by decide)];rfl
 have hd:DigL (L (figs ((n:Int).fdiv 7))):=by rw [e];exact figs_dig (ar39)
 have hl:=hd.le
 rw [L_len] at hl
 show ∀ p∈partConds (n:Int) (n % 7),p
 unfold partConds
 have hm:(n:Int).fmod 7=((n % 7:Nat):Int):=by
  rw [Int.fmod_eq_emod_of_nonneg _ (by decide)];rfl
 have two:∀ a b:Nat,(figs ((n:Int).fdiv 7)++⟨⟨[a,b]⟩⟩:Str).length≤sizeLine:=fun a b=>by
  rw [len_app];show _+2≤_;exact ar14
 have hlog:((n:Int).fdiv 7).natAbs.log2 < 1920:=by
  rw [e,Int.natAbs_natCast]
  by_cases h0:n / 7=0
  ·rw [h0];decide
  ·refine (Nat.log2_lt h0).mpr (Nat.lt_of_lt_of_le (show n / 7 < 2 ^ 20 by lia) (Nat.pow_le_pow_right (by decide) (by decide)))
 refine cC (by decide) (cC hm (cC (two _ _) (cC (two _ _) (cC (two _ _) (cC hlog (cC (ar13) (cC (by decide) (cC ?_ c0))))))))
 unfold Builtin.divisionGoesByPylong
 rfl
end
section
open PySem.Calls
open Sem (wp)
theorem Rep.takeIn {V:RV} {h h':Heap} {T S:List Cell} {sz:Nat} (D:Rep V (fun a=>h.get? a) h' T sz) (hS:∀ c∈S,h.get? c.1=some c.2) (nd:(S.map (·.1)).Nodup) (sep:∀ c∈S,V.look c.1=none):Rep V (frOf h S) h' (T++S) sz:=by
 have fr:∀ a∈T.map (·.1),a∉S.map (·.1):=fun a ha hb=>by
  obtain ⟨c,hc,rfl⟩:=List.mem_map.mp hb
  have:=D.freshM ha
  rw [hS c hc] at this;cases this
 refine .ofMem D.size (fun c hc=>?_) ?_ D.stat (fun a ha=>?_) (fun b o e=>?_) fun a ha=>?_
 ·rcases List.mem_append.mp hc with q | q
  ·exact D.ownM q
  ·exact D.frame _ _ (hS c q)
 ·rw [List.map_append]
  exact List.nodup_append.mpr ⟨D.nodup,nd,fun a ha b hb e=>fr a ha (e▸hb)⟩
 ·rw [List.map_append] at ha
  rcases List.mem_append.mp ha with q | q
  ·exact D.sepM q
  ·obtain ⟨c,hc,rfl⟩:=List.mem_map.mp q
   exact sep c hc
 ·by_cases hb:b∈S.map (·.1)
  ·rw [frOf_in hb] at e;cases e
  ·rw [frOf_out hb] at e;exact D.frame b o e
 ·rw [List.map_append] at ha
  rcases List.mem_append.mp ha with q | q
  ·rw [frOf_out (fr a q)];exact D.freshM q
  ·exact frOf_in q
theorem Rep.giveBack {V:RV} {h h':Heap} {T S:List Cell} {sz:Nat} (D:Rep V (frOf h S) h' (T++S) sz) (hS:∀ c∈S,h.get? c.1=some c.2):Rep V (fun a=>h.get? a) h' T sz:=by
 have DT:=D.sub (List.sublist_append_left T S)
 have nd:=D.nodup
 rw [List.map_append] at nd
 obtain ⟨n1,n2,n3⟩:=List.nodup_append.mp nd
 refine .ofMem D.size (fun c hc=>DT.ownM hc) n1 D.stat (fun a ha=>DT.sepM ha) (fun b o e=>?_) fun a ha=>?_
 ·by_cases hb:b∈S.map (·.1)
  ·obtain ⟨c,hc,rfl⟩:=List.mem_map.mp hb
   rw [hS c hc] at e
   cases e
   exact D.ownM (List.mem_append_right _ hc)
  ·exact D.frame b o (by rw [frOf_out hb];exact e)
 ·have:=DT.freshM ha
  rw [frOf_out (fun hb=>n3 a ha a hb rfl)] at this;exact this
section
variable {w:World} {A:Around} {L:Nat} {h₀:Fr} {h:Heap} {g:Array GenState} {dr:Drawn} {os:OsState}
theorem by_pathW {Q:PFin→Shared→Prop} {E:Value→Shared→Prop} (hfr:FrOk (fr1 w.params L) A) {n:Nat} {t:Sem PFin} {is:List Nat} (hn:nodupB is=true) {S R₀:List Cell} {sz tk:Nat} {o:Orc} {v:Nat→Nat→Unk→Nat→Want}
 (path:∀ b tk ρ,PathI is (v b tk ρ) (runV (VW w.params L) ρ n t S b tk o)) (hd:A.depth≤310) (hA:A.handled=none) (D:Rep (VW w.params L) h₀ h (S++R₀) sz) (hsz:913≤sz)
 (fin:∀ ρ sz',(∀ p∈(v (sz - 900) tk ρ sz').conds,p)∧∀ h' g' tr τ' tok',913≤sz'→(AllBare g→AllBare g')→Rep (VW w.params L) h₀ h' ((v (sz - 900) tk ρ sz').st τ'++R₀) sz'→(match (v (sz - 900) tk ρ sz').r tr with
   | .inl fin=>Q fin ⟨h',g',dr,tok',os⟩
   | .inr e=>E e ⟨h',g',dr,tok',os⟩)):
 wpAny (MM w) A t Q E ⟨h,g,dr,tk,os⟩:=by
 refine by_pathI (B:=310) (hfr:=hfr) (HV:=rvL_ok (B:=310+48) (by decide) rfl rfl) (VW_ok w L) (rulesL_ok (B:=310+48) (by decide) rfl rfl) hn (fun ρ=>path (sz - 900) tk ρ) (by decide) ⟨hd,hA⟩ (h₀:=frOf h S) (by rw [show sz - 900+900=sz by exact ar1];exact D.base) (ar2) fun ρ sz'=>⟨(fin ρ sz').1,fun h' g' tr τ' tok' hsz' hg D'=>?_⟩
 exact (fin ρ sz').2 h' g' tr τ' tok' hsz' hg.2 (D.glue D')
theorem law_step {i:Nat} {rest:List Stmt} {Q:PySem.Flow→Shared→Prop} {E:Value→Shared→Prop} (hfr:FrOk (fr1 w.params L) A) {n:Nat} {is:List Nat} (hn:nodupB is=true) {S R₀:List Cell} {sz tk:Nat} {o:Orc} {v:Nat→Nat→Unk→Nat→Want}
 (path:∀ b tk ρ,PathI is (v b tk ρ) (runV (VW w.params L) ρ n (execsT1 (((fB (st 54)).drop i).take 1) (envL w.params L)) S b tk o)) (hr:∀ b tk ρ sz tr,(v b tk ρ sz).r tr= .inl (.done .next))
 (hd:A.depth≤310) (hA:A.handled=none) (D:Rep (VW w.params L) h₀ h (S++R₀) sz) (hsz:913≤sz)
 (fin:∀ ρ sz',(∀ p∈(v (sz - 900) tk ρ sz').conds,p)∧∀ h' g' τ' tok',913≤sz'→(AllBare g→AllBare g')→Rep (VW w.params L) h₀ h' ((v (sz - 900) tk ρ sz').st τ'++R₀) sz'→wpAny (MM w) A (execs rest (envL w.params L)) Q E ⟨h',g',dr,tok',os⟩):
 wpAny (MM w) A (execs (((fB (st 54)).drop i).take 1++rest) (envL w.params L)) Q E ⟨h,g,dr,tk,os⟩:=by
 refine wpAny_execs_app (wp_execsT1 (by_pathW hfr hn path hd hA D hsz fun ρ sz'=>⟨(fin ρ sz').1,fun h' g' tr τ' tok' hsz' hg D'=>?_⟩))
 rw [hr]
 exact (fin ρ sz').2 h' g' τ' tok' hsz' hg D'
end
theorem bodyL_eq:fB (st 54)=((fB (st 54)).drop 0).take 1++(((fB (st 54)).drop 1).take 1++(((fB (st 54)).drop 2).take 1++(((fB (st 54)).drop 3).take 1++(((fB (st 54)).drop 4).take 1++(((fB (st 54)).drop 5).take 1++(((fB (st 54)).drop 6).take 1++(((fB (st 54)).drop 7).take 1++(((fB (st 54)).drop 8).take 1++(((fB (st 54)).drop 9).take 1++[]))))))))):=by kernel_rfl
theorem funcL_q (P:Params) (L:Nat):(Code.func (fB (st 54)) (envL P L)).quiet=true:=by kernel_rfl
theorem o912_data (P:Params):(o912 P).data= .func (fdO (o912 P)):=by kernel_rfl
theorem o912_plain (P:Params):plainFn (fdO (o912 P))=true:=by kernel_rfl
theorem look912' (P:Params):lookK P 912=some (o912 P):=by kernel_rfl
structure LawAt (w:World) (A:Around) (L:Nat):Prop where
 fr:FrOk (fr1 w.params L) A
 depth:A.depth≤310
 handled:A.handled=none
 units:A.units < cLine
section
variable {w:World} {A:Around} {L:Nat} {h₀:Fr} {dr:Drawn} {os:OsState} {R:PySem.Flow→Shared→Prop} {g₀:Array GenState}
noncomputable def Ends (w:World) (L:Nat) (h₀:Fr) (dr:Drawn) (os:OsState) (g₀:Array GenState) (R:PySem.Flow→Shared→Prop):Prop:=
 ∀ h g tok sz,Rep (VW w.params L) h₀ h [] sz→(AllBare g₀→AllBare g)→R (.ret (.bool true)) ⟨h,g,dr,tok,os⟩
theorem law_bad (X:LawAt w A L) (hE:Ends w L h₀ dr os g₀ R) {SC CL PL:Nat} {r:Int} {x:Str} {k:Int} {y:Str} {vb:Value} (hy:LeftOk y) (hf:fin false (PySem.Str.cps y).toList=true) {h:Heap} {g:Array GenState} {tok sz:Nat} {τ:Nat→Tok} (hsz:913≤sz) (hg:AllBare g₀→AllBare g)
 (D:Rep (VW w.params L) h₀ h (lR8 w.params L SC CL PL r x k y .none vb τ++[]) sz):
 wpAny (MM w) A (execs (((fB (st 54)).drop 8).take 1++(((fB (st 54)).drop 9).take 1++[])) (envL w.params L)) R (fun _ _=>False) ⟨h,g,dr,tok,os⟩:=by
 obtain ⟨-,b2⟩:=bad_words hy hf
 have hl:=hy.len
 have hs:=sizeL
 obtain ⟨c1,c2,c3⟩:=strands_ok (x:=y) (ar13)
 refine law_step X.fr rfl (fun b tk ρ=>law_cmp_none w.params L SC CL PL r x k y vb ρ τ b tk) (fun _ _ _ _ _=>rfl) X.depth X.handled D hsz fun ρ1 sz1=>⟨cC (ar13) (cC c1 (cC c2 (cC c3 (cC b2 c0)))),fun h1 g1 τ1 tok1 hsz1 hg1 D1=>?_⟩
 refine wpAny_execs_app (wp_execsT1 (by_pathW X.fr rfl (fun b tk ρ=>law_end_none w.params L SC CL PL r x k y vb ρ τ1 b tk) X.depth X.handled D1 hsz1 fun ρ2 sz2=>⟨c0,fun h2 g2 tr2 τ2 tok2 hsz2 hg2 D2=>?_⟩))
 exact hE h2 g2 tok2 sz2 (by rw [←List.append_nil ([]:List Cell)];exact D2) fun q=>hg2 (hg1 (hg q))
end
theorem cA {a b:List Prop} (h:∀ p∈a,p) (k:∀ p∈b,p):∀ p∈a++b,p:=fun p hp=>(List.mem_append.mp hp).elim (h p) (k p)
theorem AllS_cut {v:Value} {vs:List Value} (h:AllS (v::vs)):(∃ s t,v= .str s t)∧AllS vs:=⟨h v (List.mem_cons_self ..),fun u hu=>h u (List.mem_cons_of_mem _ hu)⟩
theorem glued_path (ps:List Str):Builtin.Str.glued ⟨⟨[47]⟩⟩ (ab::ps)=pathOf ps:=L_inj (by
 rw [glued_list,path_L];rfl)
theorem sIf8_eq:∃ p1 p2,sIf8= .If (.Compare (cmpL sIf8) [.NotEq] [cmpR sIf8] p1) (ifBody sIf8) [] p2:=⟨_,_,rfl⟩
theorem sIf8_marks:behindInMarks .NotEq (cmpR sIf8)=false:=by kernel_rfl
theorem p8_eq:((fB (st 54)).drop 8).take 1=[sIf8]:=by kernel_rfl
theorem end_conds {y:Str} {ws:List Str} {rr:Str} (G:GoodWords y ws rr) {vs:List Value} (hA:AllS vs) (hv:txs vs=ws) (W e:Nat):∀ p∈(leW W e vs 0).conds,p:=by
 subst hv
 have hs:=sizeL
 have hl:vs.length=(txs vs).length:=by unfold txs;rw [List.length_map]
 have g1:=G.len
 have hj:JOk ⟨⟨[47]⟩⟩ (txs vs)∧(txs vs).foldl jstep ⟨⟨[47]⟩⟩=joinT ((txs vs).headD ⟨⟨[]⟩⟩) (txs vs).tail:=by
  have a:=G.starts
  have b:=G.ns
  have c:=G.ne
  have d:=G.joinLen
  generalize txs vs=ws at *
  cases ws with
  | nil=>exact absurd g1.1 (Nat.lt_irrefl 0)
  | cons x xs=>
    have a:startsB x ⟨⟨[47]⟩⟩=true:=a
    have e:jstep ⟨⟨[47]⟩⟩ x=x:=by unfold jstep;rw [if_pos a]
    cases xs with
    | nil=>exact ⟨⟨fun q=>absurd a q,trivial⟩,e⟩
    | cons z zs=>
      rw [List.dropLast_cons_of_ne_nil (by simp)] at c
      obtain ⟨j1,j2⟩:=jok_app (z::zs) x (c x (List.mem_cons_self ..)) b (fun q hq=>c q (List.mem_cons_of_mem _ hq)) d
      exact ⟨⟨fun q=>absurd a q,by rw [e];exact j1⟩,by rw [List.foldl_cons,e];exact j2⟩
 have ej:(⟨⟨(joinT ((txs vs).headD ⟨⟨[]⟩⟩) (txs vs).tail).cps.toList.tail⟩⟩:Str)=rr:=by rw [G.join];rfl
 have ne:vs≠[]:=fun e0=>by
  subst e0
  exact absurd g1.1 (Nat.lt_irrefl 0)
 unfold leW
 dsimp only
 rw [hj.2,ej]
 refine cA (cC (by rw [G.same]) c0) (cA ?_ (cA ?_ (cA ?_ (cC (by lia) (cC ne c0)))))
 ·exact cC hA (cC G.joinLong (cC G.glueLen (cC G.pieces (cC G.piecesEach (cC G.piecesHead (cC (by rw [G.same];exact G.normLong) (cC (by rw [G.same];exact G.normLen) c0)))))))
 ·exact cC G.join (cC G.joinLen (cC G.head (cC G.nil (cC G.splitLen (cC G.splitEach (cC G.first (cC G.normLong (cC G.normLen c0))))))))
 ·exact cC hA (cC (by lia) (cC hj.1 (cC (by lia) c0)))
section
variable {w:World} {A:Around} {L:Nat} {h₀:Fr} {dr:Drawn} {os:OsState} {R:PySem.Flow→Shared→Prop} {g₀:Array GenState}
theorem end_w (X:LawAt w A L) (hE:Ends w L h₀ dr os g₀ R) {SC CL PL:Nat} {r:Int} {x:Str} {k:Int} {y:Str} {vb:Value} {W e:Nat} {vs:List Value} {rr:Str} (hA:AllS vs) (path:∀ ρ τ b tk,PathI [] (leW W e vs) (leR w.params L SC CL PL W e r x k y vb ρ τ b tk vs)) (G:GoodWords y (txs vs) rr) {h:Heap} {g:Array GenState} {tok sz:Nat} {τ:Nat→Tok} (hsz:913≤sz) (hg:AllBare g₀→AllBare g)
 (D:Rep (VW w.params L) h₀ h ((lR8 w.params L SC CL PL r x k y (.ref W) vb τ++[(W,seqO "list" vs e)])++[]) sz):
 wpAny (MM w) A (execs (((fB (st 54)).drop 9).take 1++[]) (envL w.params L)) R (fun _ _=>False) ⟨h,g,dr,tok,os⟩:=
 wpAny_execs_app (wp_execsT1 (by_pathW (v:=fun _ _ _=>leW W e vs) X.fr rfl (fun b tk ρ=>path ρ τ b tk) X.depth X.handled D hsz fun ρ2 sz2=>⟨end_conds G hA rfl W e,fun h2 g2 tr2 τ2 tok2 hsz2 hg2 D2=>hE h2 g2 tok2 sz2 (by rw [←List.append_nil ([]:List Cell)];exact D2) fun q=>hg2 (hg q)⟩))
theorem law_ends (P:Params) (L SC CL PL W e:Nat) (r:Int) (x:Str) (k:Int) (y:Str) (vb:Value) (ρ:Unk) (τ:Nat→Tok) (b tk:Nat) {vs:List Value} (hA:AllS vs) (h0:0 < vs.length) (h7:vs.length≤7):
 PathI [] (leW W e vs) (leR P L SC CL PL W e r x k y vb ρ τ b tk vs):=by
 cases vs with
 | nil=>exact absurd h0 (Nat.lt_irrefl 0)
 | cons v vs=>
  have hB:=AllS_cut hA
  clear hA
  obtain ⟨⟨p1,t1,rfl⟩,hA⟩:=hB
  cases vs with
  | nil=>exact law_end1 L SC CL PL W e r x k y vb _ _ P ρ τ b tk
  | cons v vs=>
   have hB:=AllS_cut hA
   clear hA
   obtain ⟨⟨p2,t2,rfl⟩,hA⟩:=hB
   cases vs with
   | nil=>exact law_end2 L SC CL PL W e r x k y vb _ _ _ _ P ρ τ b tk
   | cons v vs=>
    have hB:=AllS_cut hA
    clear hA
    obtain ⟨⟨p3,t3,rfl⟩,hA⟩:=hB
    cases vs with
    | nil=>exact law_end3 L SC CL PL W e r x k y vb _ _ _ _ _ _ P ρ τ b tk
    | cons v vs=>
     have hB:=AllS_cut hA
     clear hA
     obtain ⟨⟨p4,t4,rfl⟩,hA⟩:=hB
     cases vs with
     | nil=>exact law_end4 L SC CL PL W e r x k y vb _ _ _ _ _ _ _ _ P ρ τ b tk
     | cons v vs=>
      have hB:=AllS_cut hA
      clear hA
      obtain ⟨⟨p5,t5,rfl⟩,hA⟩:=hB
      cases vs with
      | nil=>exact law_end5 L SC CL PL W e r x k y vb _ _ _ _ _ _ _ _ _ _ P ρ τ b tk
      | cons v vs=>
       have hB:=AllS_cut hA
       clear hA
       obtain ⟨⟨p6,t6,rfl⟩,hA⟩:=hB
       cases vs with
       | nil=>exact law_end6 L SC CL PL W e r x k y vb _ _ _ _ _ _ _ _ _ _ _ _ P ρ τ b tk
       | cons v vs=>
        have hB:=AllS_cut hA
        clear hA
        obtain ⟨⟨p7,t7,rfl⟩,hA⟩:=hB
        cases vs with
        | nil=>exact law_end7 L SC CL PL W e r x k y vb _ _ _ _ _ _ _ _ _ _ _ _ _ _ P ρ τ b tk
        | cons v vs=>exact absurd h7 (by simp only [List.length_cons];lia)
theorem law_good (X:LawAt w A L) (hE:Ends w L h₀ dr os g₀ R) {SC CL PL:Nat} {r:Int} {x:Str} {k:Int} {y:Str} {vb:Value} {W e:Nat} {ws:List Str} {rr:Str} {u:Nat→Tok} (hy:LeftOk y) (G:GoodWords y ws rr) {h:Heap} {g:Array GenState} {tok sz:Nat} {τ:Nat→Tok} (hsz:913≤sz) (hg:AllBare g₀→AllBare g)
 (D:Rep (VW w.params L) h₀ h (lR8 w.params L SC CL PL r x k y (.ref W) vb τ++[(W,seqO "list" (strsU u ws) e)]) sz):
 wpAny (MM w) A (execs (((fB (st 54)).drop 8).take 1++(((fB (st 54)).drop 9).take 1++[])) (envL w.params L)) R (fun _ _=>False) ⟨h,g,dr,tok,os⟩:=by
 have hl:=hy.len
 have hs:=sizeL
 obtain ⟨c1,c2,c3⟩:=strands_ok (x:=y) (ar13)
 refine wpAny_execs_app ?_
 rw [p8_eq]
 refine wpAny_execs_cons ?_
 obtain ⟨p1,p2,hs8⟩:=sIf8_eq
 conv=>rw [hs8]
 refine wpAny_If (wpAny_isTrue_Compare1 ?_ sIf8_marks)
 refine wp_evalT1 (by_pathW X.fr rfl (fun b tk ρ=>law_cmp_l w.params L SC CL PL r x k y (.ref W) vb ρ τ b tk) X.depth X.handled D hsz fun ρ1 sz1=>⟨c0,fun h1 g1 tr1 τ1 tok1 hsz1 hg1 D1=>?_⟩)
 refine wp_evalT1 (by_pathW X.fr rfl (fun b tk ρ=>law_cmp_r w.params L SC CL PL r x k y (.ref W) vb ρ τ1 b tk) X.depth X.handled D1 hsz1 fun ρ2 sz2=>⟨cA (cC (ar13) (cC c1 (cC c2 (cC c3 (cC G.odd c0))))) c0,fun h2 g2 tr2 τ2 tok2 hsz2 hg2 D2=>?_⟩)
 have D2:Rep (VW w.params L) h₀ h2 ((lR8 w.params L SC CL PL r x k y (.ref W) vb τ2++[(ρ2.u 0 0,seqO "list" (strsU (fun i=>ρ2.u 0 (i+2)) (wordsT y)) (ρ2.u 0 1))])++[(W,seqO "list" (strsU u ws) e)]) sz2:=D2
 have hW:h2.get? W=some (seqO "list" (strsU u ws) e):=D2.ownM (c:=(W,seqO "list" (strsU u ws) e)) (by simp)
 have hU:h2.get? (ρ2.u 0 0)=some (seqO "list" (strsU (fun i=>ρ2.u 0 (i+2)) (wordsT y)) (ρ2.u 0 1)):=D2.ownM (c:=(ρ2.u 0 0,seqO "list" (strsU (fun i=>ρ2.u 0 (i+2)) (wordsT y)) (ρ2.u 0 1))) (by simp)
 refine cmp_ofNotEq (wpAny_richCompare_same_room (T:="list") (id:="list.__ne__") ⟨_,hW,rfl⟩ ⟨_,hU,rfl⟩ PySem.F.slot_list_ne (wpAny_call (lne_tree hW hU (AllS_strsU _ _) (AllS_strsU _ _) ⟨by simp,?_⟩)) X.units)
 rw [txs_strsU,txs_strsU,G.words]
 have e0:decide (¬ws=ws)=false:=by simp
 rw [e0]
 refine wpAny_truthy_bool ?_
 show wpAny (MM w) A (execs [] (envL w.params L)) _ _ _
 rw [show execs [] _=pure PySem.Flow.next from PySem.execs.eq_1 _]
 refine wpAny_pure ?_
 show wpAny (MM w) A (execs [] (envL w.params L)) _ _ _
 rw [show execs [] _=pure PySem.Flow.next from PySem.execs.eq_1 _]
 refine wpAny_pure ?_
 have hsz3:=hsz2
 have hg3:AllBare g₀→AllBare g2:=fun q=>hg2 (hg1 (hg q))
 have D4:Rep (VW w.params L) h₀ h2 ((lR8 w.params L SC CL PL r x k y (.ref W) vb τ2++[(W,seqO "list" (strsU u ws) e)])++[]) sz2:=by
  rw [List.append_nil]
  exact D2.sub (List.Sublist.append (List.sublist_append_left _ _) (List.Sublist.refl _))
 have hls:(strsU u ws).length=ws.length:=by rw [←congrArg List.length (txs_strsU ws u)];unfold txs;rw [List.length_map]
 exact end_w X hE (AllS_strsU _ _) (fun ρ τ b tk=>law_ends w.params L SC CL PL W e r x k y vb ρ τ b tk (AllS_strsU _ _) (by rw [hls];exact G.len.1) (by rw [hls];exact G.len.2)) (by rw [txs_strsU];exact G) hsz3 hg3 D4
theorem law_from7 (X:LawAt w A L) (hE:Ends w L h₀ dr os g₀ R) {SC CL PL:Nat} {r:Int} {x:Str} {k:Int} {y:Str} (hy:LeftOk y) {h:Heap} {g:Array GenState} {tok sz:Nat} {τ:Nat→Tok} (hsz:913≤sz) (hg:AllBare g₀→AllBare g)
 (D:Rep (VW w.params L) h₀ h (lS7 w.params L SC CL PL r x k y τ++[]) sz):
 wpAny (MM w) A (execs (((fB (st 54)).drop 7).take 1++(((fB (st 54)).drop 8).take 1++(((fB (st 54)).drop 9).take 1++[]))) (envL w.params L)) R (fun _ _=>False) ⟨h,g,dr,tok,os⟩:=by
 have hl:=hy.len
 have hs:=sizeL
 cases hf:fin false (PySem.Str.cps y).toList with
 | false=>
   obtain ⟨ws,rr,G⟩:=good_words hy hf
   have et:toksOf y.cps.toList=ws:=toksOf_eq G.lx
   have g1:=G.len
   refine law_step X.fr rfl (fun b tk ρ=>law_read_true w.params L SC CL PL r x k y ρ τ b tk) (fun _ _ _ _ _=>rfl) X.depth X.handled D hsz fun ρ1 sz1=>⟨cA (cC (ar13) (cC (by rw [et];exact G.lx) (cC (by rw [et];lia) c0))) c0,fun h1 g1 τ1 tok1 hsz1 hg1 D1=>?_⟩
   have D1:Rep (VW w.params L) h₀ h1 ((lR8 w.params L SC CL PL r x k y (.ref (ρ1.u 0 0)) (ρ1.v 0 0) τ1++[(ρ1.u 0 0,seqO "list" (strsU (fun i=>ρ1.u 0 (i+2)) (toksOf y.cps.toList)) (ρ1.u 0 1))])++[]) sz1:=D1
   rw [et,List.append_nil] at D1
   exact law_good X hE hy G hsz1 (fun q=>hg1 (hg q)) D1
 | true=>
   obtain ⟨b1,b2⟩:=bad_words hy hf
   refine law_step X.fr rfl (fun b tk ρ=>law_read_false w.params L SC CL PL r x k y ρ τ b tk) (fun _ _ _ _ _=>rfl) X.depth X.handled D hsz fun ρ1 sz1=>⟨cA (cC (ar13) (cC b1 c0)) c0,fun h1 g1 τ1 tok1 hsz1 hg1 D1=>?_⟩
   exact law_bad X hE hy hf hsz1 (fun q=>hg1 (hg q)) D1
theorem law_six (X:LawAt w A L) (hE:Ends w L h₀ dr os g₀ R) {SC CL PL e:Nat} {r:Nat} {x:Str} {k:Int} {y:Str} {vs:List Value} (hA:AllS vs) (hr:R3 r) (hp:PartsOk (txs vs)) (hy:y=struckT r (pathOf (txs vs))) {h:Heap} {g:Array GenState} {tok sz:Nat} {τ:Nat→Tok} (hsz:913≤sz) (hg:AllBare g₀→AllBare g)
 (D:Rep (VW w.params L) h₀ h ((lS7 w.params L SC CL PL (r:Int) x k y τ++[(PL,seqO "list" vs e)])++[]) sz):
 wpAny (MM w) A (execs (((fB (st 54)).drop 6).take 1++(((fB (st 54)).drop 7).take 1++(((fB (st 54)).drop 8).take 1++(((fB (st 54)).drop 9).take 1++[])))) (envL w.params L)) R (fun _ _=>False) ⟨h,g,dr,tok,os⟩:=by
 have P:=path_ok hp hr
 have hs:=sizeL
 have hpl:=P.len
 have ep:∀ t:Tok,Builtin.Str.glued ⟨⟨[47]⟩⟩ (txs ([.str ⟨⟨[47,97,32,98]⟩⟩ t]++vs))=pathOf (txs vs):=fun t=>glued_path (txs vs)
 have hl:vs.length=(txs vs).length:=by unfold txs;rw [List.length_map]
 refine law_step X.fr rfl (fun b tk ρ=>law_struck w.params L SC CL PL e r x k y vs ρ τ b tk) (fun _ _ _ _ _=>rfl) X.depth X.handled D hsz fun ρ1 sz1=>⟨?_,fun h1 g1 τ1 tok1 hsz1 hg1 D1=>?_⟩
 ·dsimp only
  rw [ep]
  refine cA (cC (fun q=>q hy) c0) (cA (struck_conds hr P 0 0) (cC (.cons hA) (cC ?_ (cC (ar13) (cC ?_ c0)))))
  ·refine long_ok (ps:=ab::txs vs) ?_
   rw [List.map_cons,wgt_cons]
   have e1:wgt ((txs vs).map Mine.L)+3≤(pathOf (txs vs)).length:=by
    rw [←L_len,path_L,List.length_append,hang_wgt];show _+3≤4+_;lia
   show 4+1+wgt ((txs vs).map Mine.L)≤_
   lia
  ·rcases hp.len with q | q <;> lia
 ·have D1:Rep (VW w.params L) h₀ h1 (lS7 w.params L SC CL PL (r:Int) x k y τ1++[]) sz1:=D1
  exact law_from7 X hE (by rw [hy];exact P.left) hsz1 (fun q=>hg1 (hg q)) D1
theorem law_five (X:LawAt w A L) (hE:Ends w L h₀ dr os g₀ R) {SC CL PL e:Nat} {r:Nat} {k:Int} {vs:List Value} (hA:AllS vs) (hr:R3 r) (hp:PartsOk (txs vs)) {h:Heap} {g:Array GenState} {tok sz:Nat} {τ:Nat→Tok} (hsz:913≤sz) (hg:AllBare g₀→AllBare g)
 (D:Rep (VW w.params L) h₀ h (lS6 w.params L SC CL PL (r:Int) (qN r (pathOf (txs vs))) k τ++[(PL,seqO "list" vs e)]) sz):
 wpAny (MM w) A (execs (((fB (st 54)).drop 5).take 1++(((fB (st 54)).drop 6).take 1++(((fB (st 54)).drop 7).take 1++(((fB (st 54)).drop 8).take 1++(((fB (st 54)).drop 9).take 1++[]))))) (envL w.params L)) R (fun _ _=>False) ⟨h,g,dr,tok,os⟩:=by
 have P:=path_ok hp hr
 have hs:=sizeL
 have hq:=qN_len P.len r (by rcases hr with rfl | rfl | rfl <;> decide)
 by_cases hb:hasB (qN r (pathOf (txs vs))) ⟨⟨[34]⟩⟩
 ·refine law_step X.fr rfl (fun b tk ρ=>law_strip_true w.params L SC CL PL (r:Int) (qN r (pathOf (txs vs))) k ρ τ b tk) (fun _ _ _ _ _=>rfl) X.depth X.handled D hsz fun ρ1 sz1=>⟨cA (strip_conds hr P hb 0) c0,fun h1 g1 τ1 tok1 hsz1 hg1 D1=>?_⟩
  exact law_six X hE hA hr hp (strip_struck hr P.kok P.closed (ar13)).1 hsz1 (fun q=>hg1 (hg q)) (by rw [List.append_nil];exact D1)
 ·refine law_step X.fr rfl (fun b tk ρ=>law_strip_false w.params L SC CL PL (r:Int) (qN r (pathOf (txs vs))) k ρ τ b tk) (fun _ _ _ _ _=>rfl) X.depth X.handled D hsz fun ρ1 sz1=>⟨cA (cC hb c0) c0,fun h1 g1 τ1 tok1 hsz1 hg1 D1=>?_⟩
  exact law_six X hE hA hr hp (plain_struck hr P.kok P.closed hb) hsz1 (fun q=>hg1 (hg q)) (by rw [List.append_nil];exact D1)
theorem law_three (X:LawAt w A L) (hE:Ends w L h₀ dr os g₀ R) {SC CL PL e:Nat} {r:Nat} {vs:List Value} (hA:AllS vs) (hr:R3 r) (hp:PartsOk (txs vs)) (path:∀ ρ τ b tk,PathI [1,2] (ljW w.params L SC CL PL e (r:Int) vs) (ljR w.params L SC CL PL e (r:Int) ρ τ b tk vs)) {h:Heap} {g:Array GenState} {tok sz:Nat} {τ:Nat→Tok} (hsz:913≤sz) (hg:AllBare g₀→AllBare g)
 (D:Rep (VW w.params L) h₀ h ((lS4 w.params L SC CL PL (r:Int) τ++[(PL,seqO "list" vs e)])++[]) sz):
 wpAny (MM w) A (execs (((fB (st 54)).drop 3).take 1++(((fB (st 54)).drop 4).take 1++(((fB (st 54)).drop 5).take 1++(((fB (st 54)).drop 6).take 1++(((fB (st 54)).drop 7).take 1++(((fB (st 54)).drop 8).take 1++(((fB (st 54)).drop 9).take 1++[]))))))) (envL w.params L)) R (fun _ _=>False) ⟨h,g,dr,tok,os⟩:=by
 have P:=path_ok hp hr
 have hs:=sizeL
 obtain ⟨j1,j2⟩:=join_conds hA hp 0
 have hl:vs.length=(txs vs).length:=by unfold txs;rw [List.length_map]
 have h5:5≤vs.length∧vs.length≤6:=by rcases hp.len with q | q <;> lia
 refine law_step (v:=fun _ _ _=>ljW w.params L SC CL PL e (r:Int) vs) X.fr rfl (fun b tk ρ=>path ρ τ b tk) (fun _ _ _ _ _=>rfl) X.depth X.handled D hsz fun ρ1 sz1=>⟨cA j1 (cC (by lia) (cC (fun q=>by rw [q] at h5;exact absurd h5.1 (by decide)) c0)),fun h1 g1 τ1 tok1 hsz1 hg1 D1=>?_⟩
 have D1:Rep (VW w.params L) h₀ h1 (lS5 w.params L SC CL PL (r:Int) (pathOf (txs vs)) τ1++[(PL,seqO "list" vs e)]) sz1:=by
  rw [←j2,←List.append_nil (lS5 w.params L SC CL PL (r:Int) _ τ1++_)];exact D1
 rcases hr with rfl | rfl | rfl
 ·refine law_step X.fr rfl (fun b tk ρ=>law_quote1 w.params L SC CL PL (pathOf (txs vs)) ρ τ1 b tk) (fun _ _ _ _ _=>rfl) X.depth X.handled D1 hsz1 fun ρ2 sz2=>⟨(cA (quote_conds P.len 0 (by decide) 0) c0),fun h2 g2 τ2 tok2 hsz2 hg2 D2=>?_⟩
  exact law_five (r:=1) X hE hA (by decide) hp hsz2 (fun q=>hg2 (hg1 (hg q))) D2
 ·refine law_step X.fr rfl (fun b tk ρ=>law_quote2 w.params L SC CL PL (pathOf (txs vs)) ρ τ1 b tk) (fun _ _ _ _ _=>rfl) X.depth X.handled D1 hsz1 fun ρ2 sz2=>⟨(cA (quote_conds P.len 1 (by decide) 0) (cA (quote_conds P.len 0 (by decide) 0) c0)),fun h2 g2 τ2 tok2 hsz2 hg2 D2=>?_⟩
  exact law_five (r:=2) X hE hA (by decide) hp hsz2 (fun q=>hg2 (hg1 (hg q))) D2
 ·refine law_step X.fr rfl (fun b tk ρ=>law_quote3 w.params L SC CL PL (pathOf (txs vs)) ρ τ1 b tk) (fun _ _ _ _ _=>rfl) X.depth X.handled D1 hsz1 fun ρ2 sz2=>⟨(cA (quote_conds P.len 2 (by decide) 0) (cA (quote_conds P.len 1 (by decide) 0) (cA (quote_conds P.len 0 (by decide) 0) c0))),fun h2 g2 τ2 tok2 hsz2 hg2 D2=>?_⟩
  exact law_five (r:=3) X hE hA (by decide) hp hsz2 (fun q=>hg2 (hg1 (hg q))) D2
end
theorem fmodN {c m k:Nat} (hm:0 < m) (h:c % m=k):((c:Nat):Int).fmod ((m:Nat):Int)=(k:Int):=by
 rw [Int.fmod_eq_emod_of_nonneg _ (Int.natCast_nonneg m),←h];rfl
noncomputable def Five (n1 n2 n3 n4 n5:Nat):Prop:=∀ n∈[n1,n2,n3,n4,n5],n < 1000000
theorem five {n1 n2 n3 n4 n5:Nat} (h1:n1 < 1000000:=by first | assumption | decide) (h2:n2 < 1000000:=by first | assumption | decide) (h3:n3 < 1000000:=by first | assumption | decide) (h4:n4 < 1000000:=by first | assumption | decide) (h5:n5 < 1000000:=by first | assumption | decide):Five n1 n2 n3 n4 n5:=by
 intro n h
 repeat (rcases List.mem_cons.mp h with rfl | h;· assumption)
 cases h
theorem AllI.nil:AllI []:=fun _ h=>nomatch h
theorem AllI.cons {n:Int} {t:Tok} {vs:List Value} (h:AllI vs):AllI (.int n t::vs):=fun v hv=>by
 rcases List.mem_cons.mp hv with rfl | hv
 ·exact ⟨n,t,rfl⟩
 ·exact h v hv
section
variable {w:World} {A:Around} {L:Nat} {h₀:Fr} {dr:Drawn} {os:OsState} {R:PySem.Flow→Shared→Prop} {g₀:Array GenState}
theorem law_two (X:LawAt w A L) (hE:Ends w L h₀ dr os g₀ R) {SC CL PL e r:Nat} {n1 n2 n3 n4 n5:Nat} {t1 t2 t3 t4 t5:Tok} (hn:Five n1 n2 n3 n4 n5) (hr:R3 r) {h:Heap} {g:Array GenState} {tok sz:Nat} {τ:Nat→Tok} (hsz:913≤sz) (hg:AllBare g₀→AllBare g)
 (D:Rep (VW w.params L) h₀ h ((lS4 w.params L SC CL PL (r:Int) τ++[(PL,seqO "list" [.str (partT n1) t1,.str (partT n2) t2,.str (partT n3) t3,.str (partT n4) t4,.str (partT n5) t5] e)])++[]) sz):
 wpAny (MM w) A (execs (((fB (st 54)).drop 2).take 1++(((fB (st 54)).drop 3).take 1++(((fB (st 54)).drop 4).take 1++(((fB (st 54)).drop 5).take 1++(((fB (st 54)).drop 6).take 1++(((fB (st 54)).drop 7).take 1++(((fB (st 54)).drop 8).take 1++(((fB (st 54)).drop 9).take 1++[])))))))) (envL w.params L)) R (fun _ _=>False) ⟨h,g,dr,tok,os⟩:=by
 have hA:AllS [.str (partT n1) t1,.str (partT n2) t2,.str (partT n3) t3,.str (partT n4) t4,.str (partT n5) t5]:=(.cons (.cons (.cons (.cons (.cons .nil)))))
 rcases Nat.mod_two_eq_zero_or_one ((([n1,n2,n3,n4,n5].map partT).countP (· == ⟨⟨[34]⟩⟩))) with k | k
 ·refine law_step X.fr rfl (fun b tk ρ=>law_even0 w.params L SC CL PL e (r:Int) (partT n1) (partT n2) (partT n3) (partT n4) (partT n5) t1 t2 t3 t4 t5 ρ τ b tk) (fun _ _ _ _ _=>rfl) X.depth X.handled D hsz fun ρ1 sz1=>⟨cC (by decide) (cC (fmodN (m:=2) (k:=0) (by decide) k) (cC hA c0)),fun h1 g1 τ1 tok1 hsz1 hg1 D1=>?_⟩
  exact law_three X hE hA hr (parts_even hn rfl k).1 (fun ρ τ b tk=>law_join5 L SC CL PL e (r:Int) _ _ _ _ _ _ _ _ _ _ w.params ρ τ b tk) hsz1 (fun q=>hg1 (hg q)) D1
 ·refine law_step X.fr rfl (fun b tk ρ=>law_even1 w.params L SC CL PL e (r:Int) (partT n1) (partT n2) (partT n3) (partT n4) (partT n5) t1 t2 t3 t4 t5 ρ τ b tk) (fun _ _ _ _ _=>rfl) X.depth X.handled D hsz fun ρ1 sz1=>⟨cC (by decide) (cC (fmodN (m:=2) (k:=1) (by decide) k) (cC hA c0)),fun h1 g1 τ1 tok1 hsz1 hg1 D1=>?_⟩
  exact law_three X hE (.cons (.cons (.cons (.cons (.cons (.cons .nil)))))) hr (parts_odd hn rfl k) (fun ρ τ b tk=>law_join6 L SC CL _ _ (r:Int) _ _ _ _ _ _ _ _ _ _ _ _ w.params ρ τ b tk) hsz1 (fun q=>hg1 (hg q)) D1
theorem law_one (X:LawAt w A L) (hE:Ends w L h₀ dr os g₀ R) {SC CL e:Nat} {n1 n2 n3 n4 n5:Nat} {t1 t2 t3 t4 t5:Tok} (hn:Five n1 n2 n3 n4 n5) {h:Heap} {g:Array GenState} {tok sz:Nat} {τ:Nat→Tok} (hsz:913≤sz) (hg:AllBare g₀→AllBare g)
 (D:Rep (VW w.params L) h₀ h ((lS2 w.params L SC CL τ++[(CL,seqO "list" [.int (n1:Int) t1,.int (n2:Int) t2,.int (n3:Int) t3,.int (n4:Int) t4,.int (n5:Int) t5] e)])++[]) sz):
 wpAny (MM w) A (execs (((fB (st 54)).drop 1).take 1++(((fB (st 54)).drop 2).take 1++(((fB (st 54)).drop 3).take 1++(((fB (st 54)).drop 4).take 1++(((fB (st 54)).drop 5).take 1++(((fB (st 54)).drop 6).take 1++(((fB (st 54)).drop 7).take 1++(((fB (st 54)).drop 8).take 1++(((fB (st 54)).drop 9).take 1++[]))))))))) (envL w.params L)) R (fun _ _=>False) ⟨h,g,dr,tok,os⟩:=by
 have es:isum [Value.int (n1:Int) t1,Value.int (n2:Int) t2,Value.int (n3:Int) t3,Value.int (n4:Int) t4,Value.int (n5:Int) t5]=((n1+n2+n3+n4+n5:Nat):Int):=by
  show ((((0+(n1:Int))+(n2:Int))+(n3:Int))+(n4:Int))+(n5:Int)=_
  lia
 have hI:AllI [Value.int (n1:Int) t1,Value.int (n2:Int) t2,Value.int (n3:Int) t3,Value.int (n4:Int) t4,Value.int (n5:Int) t5]:=(.cons (.cons (.cons (.cons (.cons .nil)))))
 have c5:=part_conds (hn n5 (by simp)) t5
 have c4:=part_conds (hn n4 (by simp)) t4
 have c3:=part_conds (hn n3 (by simp)) t3
 have c2:=part_conds (hn n2 (by simp)) t2
 have c1:=part_conds (hn n1 (by simp)) t1
 rcases ar66 (n1+n2+n3+n4+n5) with k | k | k
 ·refine law_step X.fr rfl (fun b tk ρ=>law_parts0 w.params L SC CL e n1 n2 n3 n4 n5 t1 t2 t3 t4 t5 ρ τ b tk) (fun _ _ _ _ _=>rfl) X.depth X.handled D hsz fun ρ1 sz1=>⟨cA (cC (by decide) (cC (by rw [es];exact fmodN (m:=3) (k:=0) (by decide) k) (cC hI (cC rfl c0)))) (cA c5 (cA c4 (cA c3 (cA c2 (cA c1 c0))))),fun h1 g1 τ1 tok1 hsz1 hg1 D1=>?_⟩
  exact law_two (r:=1) X hE hn (by decide) hsz1 (fun q=>hg1 (hg q)) D1
 ·refine law_step X.fr rfl (fun b tk ρ=>law_parts1 w.params L SC CL e n1 n2 n3 n4 n5 t1 t2 t3 t4 t5 ρ τ b tk) (fun _ _ _ _ _=>rfl) X.depth X.handled D hsz fun ρ1 sz1=>⟨cA (cC (by decide) (cC (by rw [es];exact fmodN (m:=3) (k:=1) (by decide) k) (cC hI (cC rfl c0)))) (cA c5 (cA c4 (cA c3 (cA c2 (cA c1 c0))))),fun h1 g1 τ1 tok1 hsz1 hg1 D1=>?_⟩
  exact law_two (r:=2) X hE hn (by decide) hsz1 (fun q=>hg1 (hg q)) D1
 ·refine law_step X.fr rfl (fun b tk ρ=>law_parts2 w.params L SC CL e n1 n2 n3 n4 n5 t1 t2 t3 t4 t5 ρ τ b tk) (fun _ _ _ _ _=>rfl) X.depth X.handled D hsz fun ρ1 sz1=>⟨cA (cC (by decide) (cC (by rw [es];exact fmodN (m:=3) (k:=2) (by decide) k) (cC hI (cC rfl c0)))) (cA c5 (cA c4 (cA c3 (cA c2 (cA c1 c0))))),fun h1 g1 τ1 tok1 hsz1 hg1 D1=>?_⟩
  exact law_two (r:=3) X hE hn (by decide) hsz1 (fun q=>hg1 (hg q)) D1
theorem mod_nat (x:Int):∃ n:Nat,x.fmod 1000000=(n:Int)∧n < 1000000:=by
 have h1:=Int.fmod_nonneg_of_pos x (b:=1000000) (by decide)
 have h2:=Int.fmod_lt_of_pos x (b:=1000000) (by decide)
 exact ⟨(x.fmod 1000000).toNat,(Int.toNat_of_nonneg h1).symm,(Int.toNat_lt h1).mpr h2⟩
theorem law_pre {h0:Heap} (X:LawAt w A L) (hE:Ends w L (fun a=>h0.get? a) dr os g₀ R) {SC CL e:Nat} {vs:List Value} (hSc:∀ c∈[(SC,seqO "list" vs 0)],h0.get? c.1=some c.2) {i1 i2 i3 i4 i5:Int} {n1 n2 n3 n4 n5:Nat} {t1 t2 t3 t4 t5:Tok} (e1:i1=(n1:Int)) (e2:i2=(n2:Int)) (e3:i3=(n3:Int)) (e4:i4=(n4:Int)) (e5:i5=(n5:Int)) (hn:Five n1 n2 n3 n4 n5) {h:Heap} {g:Array GenState} {tok sz:Nat} {τ:Nat→Tok} (hsz:913≤sz) (hg:AllBare g₀→AllBare g)
 (D:Rep (VW w.params L) (frOf h0 [(SC,seqO "list" vs 0)]) h ((lS2 w.params L SC CL τ++[(CL,seqO "list" [.int i1 t1,.int i2 t2,.int i3 t3,.int i4 t4,.int i5 t5] e),(SC,seqO "list" vs 0)])++[]) sz):
 wpAny (MM w) A (execs (((fB (st 54)).drop 1).take 1++(((fB (st 54)).drop 2).take 1++(((fB (st 54)).drop 3).take 1++(((fB (st 54)).drop 4).take 1++(((fB (st 54)).drop 5).take 1++(((fB (st 54)).drop 6).take 1++(((fB (st 54)).drop 7).take 1++(((fB (st 54)).drop 8).take 1++(((fB (st 54)).drop 9).take 1++[]))))))))) (envL w.params L)) R (fun _ _=>False) ⟨h,g,dr,tok,os⟩:=by
 subst e1 e2 e3 e4 e5
 rw [List.append_nil] at D
 exact law_one X hE hn hsz hg (by rw [List.append_nil];exact Rep.giveBack (T:=lS2 w.params L SC CL τ++[(CL,seqO "list" [.int (n1:Int) t1,.int (n2:Int) t2,.int (n3:Int) t3,.int (n4:Int) t4,.int (n5:Int) t5] e)]) D hSc)
theorem law_zero {h0:Heap} (X:LawAt w A L) (hE:Ends w L (fun a=>h0.get? a) dr os g₀ R) {SC:Nat} {vs:List Value} (hv:AllI vs) (hl:vs.length≤63) (hS:h0.get? SC=some (seqO "list" vs 0)) (hN:lookK w.params SC=none) {h:Heap} {g:Array GenState} {tok sz:Nat} {τ:Nat→Tok} (hsz:913≤sz) (hg:AllBare g₀→AllBare g)
 (D:Rep (VW w.params L) (fun a=>h0.get? a) h (lS1 w.params L SC τ) sz):
 wpAny (MM w) A (execs (((fB (st 54)).drop 0).take 1++(((fB (st 54)).drop 1).take 1++(((fB (st 54)).drop 2).take 1++(((fB (st 54)).drop 3).take 1++(((fB (st 54)).drop 4).take 1++(((fB (st 54)).drop 5).take 1++(((fB (st 54)).drop 6).take 1++(((fB (st 54)).drop 7).take 1++(((fB (st 54)).drop 8).take 1++(((fB (st 54)).drop 9).take 1++[])))))))))) (envL w.params L)) R (fun _ _=>False) ⟨h,g,dr,tok,os⟩:=by
 have hs:=sizeL
 have hSc:∀ c∈[(SC,seqO "list" vs 0)],h0.get? c.1=some c.2:=fun c hc=>by rw [List.mem_singleton.mp hc];exact hS
 have D0:Rep (VW w.params L) (frOf h0 [(SC,seqO "list" vs 0)]) h ((lS1 w.params L SC τ++[(SC,seqO "list" vs 0)])++[]) sz:=by
  rw [List.append_nil]
  exact D.takeIn hSc (by simp) fun c hc=>by rw [List.mem_singleton.mp hc];exact hN
 cases vs with
 | nil=>
   refine law_step X.fr rfl (fun b tk ρ=>law_cells0 w.params L SC 0 ρ τ b tk) (fun _ _ _ _ _=>rfl) X.depth X.handled D0 hsz fun ρ1 sz1=>⟨cC rfl (cC rfl (cC (by rw [hs];show 5≤16777216;decide) (cC rfl (cC rfl (cC (by rw [hs];exact Nat.le_trans hl (by decide)) c0))))),fun h1 g1 τ1 tok1 hsz1 hg1 D1=>?_⟩
   exact law_pre (n1:=23) (n2:=43) (n3:=16) (n4:=4) (n5:=17) X hE hSc rfl rfl rfl rfl rfl five hsz1 (fun q=>hg1 (hg q)) D1
 | cons v1 vs=>
   obtain ⟨m1,s1,rfl⟩:=hv v1 (by simp)
   cases vs with
   | nil=>
     obtain ⟨n1,e1,q1⟩:=mod_nat m1
     refine law_step X.fr rfl (fun b tk ρ=>law_cells1 w.params L SC 0 m1 s1 ρ τ b tk) (fun _ _ _ _ _=>rfl) X.depth X.handled D0 hsz fun ρ1 sz1=>⟨cC rfl (cC rfl (cC (by rw [hs];show 6≤16777216;decide) (cC (by decide) (cC rfl (cC rfl (cC (by rw [hs];exact Nat.le_trans hl (by decide)) c0)))))),fun h1 g1 τ1 tok1 hsz1 hg1 D1=>?_⟩
     exact law_pre (n1:=n1) (n2:=23) (n3:=43) (n4:=16) (n5:=4) X hE hSc e1 rfl rfl rfl rfl five hsz1 (fun q=>hg1 (hg q)) D1
   | cons v2 vs=>
     obtain ⟨m2,s2,rfl⟩:=hv v2 (by simp)
     cases vs with
     | nil=>
       obtain ⟨n1,e1,q1⟩:=mod_nat m1
       obtain ⟨n2,e2,q2⟩:=mod_nat m2
       refine law_step X.fr rfl (fun b tk ρ=>law_cells2 w.params L SC 0 m1 m2 s1 s2 ρ τ b tk) (fun _ _ _ _ _=>rfl) X.depth X.handled D0 hsz fun ρ1 sz1=>⟨cC rfl (cC rfl (cC (by rw [hs];show 7≤16777216;decide) (cC (by decide) (cC (by decide) (cC rfl (cC rfl (cC (by rw [hs];exact Nat.le_trans hl (by decide)) c0))))))),fun h1 g1 τ1 tok1 hsz1 hg1 D1=>?_⟩
       exact law_pre (n1:=n1) (n2:=n2) (n3:=23) (n4:=43) (n5:=16) X hE hSc e1 e2 rfl rfl rfl five hsz1 (fun q=>hg1 (hg q)) D1
     | cons v3 vs=>
       obtain ⟨m3,s3,rfl⟩:=hv v3 (by simp)
       cases vs with
       | nil=>
         obtain ⟨n1,e1,q1⟩:=mod_nat m1
         obtain ⟨n2,e2,q2⟩:=mod_nat m2
         obtain ⟨n3,e3,q3⟩:=mod_nat m3
         refine law_step X.fr rfl (fun b tk ρ=>law_cells3 w.params L SC 0 m1 m2 m3 s1 s2 s3 ρ τ b tk) (fun _ _ _ _ _=>rfl) X.depth X.handled D0 hsz fun ρ1 sz1=>⟨cC rfl (cC rfl (cC (by rw [hs];show 8≤16777216;decide) (cC (by decide) (cC (by decide) (cC (by decide) (cC rfl (cC rfl (cC (by rw [hs];exact Nat.le_trans hl (by decide)) c0)))))))),fun h1 g1 τ1 tok1 hsz1 hg1 D1=>?_⟩
         exact law_pre (n1:=n1) (n2:=n2) (n3:=n3) (n4:=23) (n5:=43) X hE hSc e1 e2 e3 rfl rfl five hsz1 (fun q=>hg1 (hg q)) D1
       | cons v4 vs=>
         obtain ⟨m4,s4,rfl⟩:=hv v4 (by simp)
         cases vs with
         | nil=>
           obtain ⟨n1,e1,q1⟩:=mod_nat m1
           obtain ⟨n2,e2,q2⟩:=mod_nat m2
           obtain ⟨n3,e3,q3⟩:=mod_nat m3
           obtain ⟨n4,e4,q4⟩:=mod_nat m4
           refine law_step X.fr rfl (fun b tk ρ=>law_cells4 w.params L SC 0 m1 m2 m3 m4 s1 s2 s3 s4 ρ τ b tk) (fun _ _ _ _ _=>rfl) X.depth X.handled D0 hsz fun ρ1 sz1=>⟨cC rfl (cC rfl (cC (by rw [hs];show 9≤16777216;decide) (cC (by decide) (cC (by decide) (cC (by decide) (cC (by decide) (cC rfl (cC rfl (cC (by rw [hs];exact Nat.le_trans hl (by decide)) c0))))))))),fun h1 g1 τ1 tok1 hsz1 hg1 D1=>?_⟩
           exact law_pre (n1:=n1) (n2:=n2) (n3:=n3) (n4:=n4) (n5:=23) X hE hSc e1 e2 e3 e4 rfl five hsz1 (fun q=>hg1 (hg q)) D1
         | cons v5 vs=>
           obtain ⟨m5,s5,rfl⟩:=hv v5 (by simp)
           obtain ⟨n1,e1,q1⟩:=mod_nat m1
           obtain ⟨n2,e2,q2⟩:=mod_nat m2
           obtain ⟨n3,e3,q3⟩:=mod_nat m3
           obtain ⟨n4,e4,q4⟩:=mod_nat m4
           obtain ⟨n5,e5,q5⟩:=mod_nat m5
           refine law_step X.fr rfl (fun b tk ρ=>law_cells5 w.params L SC 0 m1 m2 m3 m4 m5 s1 s2 s3 s4 s5 vs ρ τ b tk) (fun _ _ _ _ _=>rfl) X.depth X.handled D0 hsz fun ρ1 sz1=>⟨cC rfl (cC rfl (cC (by rw [hs];show 10≤16777216;decide) (cC (by decide) (cC (by decide) (cC (by decide) (cC (by decide) (cC (by decide) (cC rfl (cC rfl (cC (by rw [hs];exact Nat.le_trans hl (by decide)) c0)))))))))),fun h1 g1 τ1 tok1 hsz1 hg1 D1=>?_⟩
           exact law_pre (n1:=n1) (n2:=n2) (n3:=n3) (n4:=n4) (n5:=n5) X hE hSc e1 e2 e3 e4 e5 five hsz1 (fun q=>hg1 (hg q)) D1
end
noncomputable def notL (o:Obj):Bool:=match o.cls with
 | .type s=>!(Nat.beq (PySem.code s) (PySem.code "list"))
 | _=>true
theorem notL_list (vs:List Value):notL (seqO "list" vs 0)=false:=by kernel_rfl
theorem notL_tuple:notL (seqO "tuple" [] 0)=true:=by kernel_rfl
theorem KL_notL (P:Params):(KL P).all (fun p=>notL p.2)=true:=by kernel_rfl
theorem KA_nd:nodupB KA=true:=by kernel_rfl
theorem KL_KA (P:Params):(KL P).map (·.1)=KA:=by kernel_rfl
theorem KL_nodup (P:Params):((KL P).map (·.1)).Nodup:=by rw [KL_KA];exact nodupB_spec KA_nd
theorem allIn_of_mem {h:Heap}:∀ {K:List (Nat×Obj)},(∀ p∈K,h.get? p.1=some p.2)→PySem.W.X.AllIn h K
 | [],_=>trivial
 | p::K,hl=>⟨hl p (List.mem_cons_self ..),allIn_of_mem fun q hq=>hl q (List.mem_cons_of_mem _ hq)⟩
theorem holds_gen {K:List (Nat×Obj)} {h:Heap} (hm:∀ p∈K,h.get? p.1=some p.2):PySem.W.X.KT.Holds h 1 0 (PySem.W.X.KT.of K):=PySem.W.X.holds_of (allIn_of_mem hm)
theorem look_gen {K:List (Nat×Obj)} {h:Heap} (hm:∀ p∈K,h.get? p.1=some p.2) {a:Nat} {o:Obj} (e:PySem.W.X.KT.get (PySem.W.X.KT.of K) a=some o):h.get? a=some o:=PySem.W.X.kt_at (holds_gen hm) e
theorem look_eq (P:Params) (a:Nat):∃ K,K=KL P∧lookK P a=PySem.W.X.KT.get (PySem.W.X.KT.of K) a:=by
 unfold lookK ktK
 exact ⟨_,rfl,rfl⟩
theorem look_of_mem {P:Params} {h:Heap} (hm:∀ p∈KL P,h.get? p.1=some p.2) {a:Nat} {o:Obj} (e:lookK P a=some o):h.get? a=some o:=by
 obtain ⟨K,hK,h1⟩:=look_eq P a
 rw [←hK] at hm
 rw [h1] at e
 exact look_gen hm e
theorem look_list {P:Params} {h:Heap} (hm:∀ p∈KL P,h.get? p.1=some p.2) {SC:Nat} {vs:List Value} (hS:h.get? SC=some (seqO "list" vs 0)):lookK P SC=none:=by
 cases e:lookK P SC with
 | none=>rfl
 | some o=>
   exfalso
   have h1:=look_of_mem hm e
   rw [hS] at h1
   cases h1
   have h2:∀ p∈KL P,(h.update SC (fun _=>seqO "tuple" [] 0)).get? p.1=some p.2:=fun p hp=>by
    have hne:p.1≠SC:=fun q=>by
     have a:=hm p hp
     rw [q,hS] at a
     have b:=List.all_eq_true.mp (KL_notL P) p hp
     rw [←Option.some.inj a,notL_list] at b
     cases b
    exact (Heap.get?_update_other _ _ (Ne.symm hne)).trans (hm p hp)
   have h3:=look_of_mem h2 e
   rw [Heap.get?_update_self _ hS rfl] at h3
   have h4:notL (seqO "tuple" [] 0)=notL (seqO "list" vs 0):=congrArg notL (Option.some.inj h3)
   rw [notL_list,notL_tuple] at h4
   cases h4
theorem law_true {w:World} {h:Heap} {g:Array GenState} {dr:Drawn} {tok:Nat} {os:OsState} (hm:∀ p∈KL w.params,h.get? p.1=some p.2) {SC:Nat} {vs:List Value} (hv:AllI vs) (hl:vs.length≤63) (hS:h.get? SC=some (seqO "list" vs 0)):
 codeAny (MM w) callerA (.call (.ref 912) ⟨[.ref SC],[]⟩) (fun r s'=>r= .ok (.ret (.bool true))∧(∀ b o,h.get? b=some o→s'.heap.get? b=some o)∧s'.os=os∧(AllBare g→AllBare s'.gens)) ⟨h,g,dr,tok,os⟩:=by
 have hst:∀ a o,lookK w.params a=some o→h.get? a=some o:=fun a o e=>look_of_mem hm e
 have hN:=look_list hm hS
 have hsz:913≤h.objs.size:=Heap.lt_size (hst 912 _ (look912' w.params))
 have O:=VK_ok w (rules4 w.params)
 have HR:=rules4_ok (B:=496+48) (by decide) (V:=VK w.params (rules4 w.params)) (w:=w) rfl rfl
 have D:Rep (VK w.params (rules4 w.params)) (fun a=>h.get? a) h ([]++[]) h.objs.size:=
  ⟨rfl,fun i c e=>by simp at e,fun i j c c' e=>by simp at e,fun a o e=>hst a o e,fun i c e=>by simp at e,fun b o e=>e,fun i c e=>by simp at e⟩
 refine codeAny_of_tree ?_
 show wpAny _ _ (callAny (.ref 912) ⟨[.ref SC],[]⟩) _ _ _
 simp only [callAny]
 refine wpAny_bind (wpAny_load (hst 912 _ (look912' w.params)) ?_)
 simp only [o912_data]
 rw [callFunction_eq (o912_plain _),←callTF_eq]
 show wpAny _ _ ((callTF _ _ _).bind fun fin=>Sem.bind enterFrame fun _=>.pure fin) _ _ _
 have hd1:(callerA.under (.call (.ref 912) ⟨[.ref SC],[]⟩)).depth≤496:=by
  show 1+300+0≤496;decide
 have hA1:(callerA.under (.call (.ref 912) ⟨[.ref SC],[]⟩)).handled=none:=rfl
 refine wpAny_bind (by_pathIR (R₀:=[]) (st:=fun _=>[]) (τ:=fun _=>0) (v:=fun b ρ _=>⟨fun _=>.inl (.again (.func (fB (st 54)) (envL w.params (b+900)))),[],lS1 w.params (b+900) SC⟩) O HR rfl rfl rfl (fun τ b tk ρ=>law_enter w.params ρ SC b tk) (by decide) hd1 hA1 D hsz fun ρ sz1=>⟨c0,fun h1 tr τ1 tok1 hsz1 D1=>?_⟩)
 generalize h.objs.size - 900+900=L at D1⊢
 refine wpAny_bind (wpAny_enterFrame (O.nolimit h1 D1.stat) (Nat.lt_of_le_of_lt hd1 (by decide)) (wpAny_pure ⟨funcL_q ..,?_⟩))
 refine codeAny_func ?_
 refine wpAny_mono (E:=fun _ _=>False) ?_ (fun _ _ q=>q) fun _ _ (q:False)=>q.elim
 have X:LawAt w (callerA.deeper (envL w.params L)) L:=by
  refine ⟨fun l e=>?_,?_,rfl,?_⟩
  ·cases e;rfl
  ·show 1+300+1≤310;decide
  ·show 4+3 < 9900;decide
 rw [show execs (fB (st 54)) (envL w.params L)=execs _ (envL w.params L) from congrArg (execs · _) bodyL_eq]
 have D2:Rep (VW w.params L) (fun a=>h.get? a) h1 (lS1 w.params L SC τ1) sz1:=by
  rw [List.append_nil] at D1
  exact Rep.cast (V:=VK w.params (rules4 w.params)) (V':=VW w.params L) rfl D1
 refine law_zero (g₀:=g) X (fun h' g' tok' sz' D' hg'=>?_) hv hl hS hN hsz1 id D2
 exact ⟨rfl,fun b o e=>D'.frame b o e,rfl,hg'⟩
theorem lookup_nodup:∀ {K:List (Nat×Obj)},(K.map (·.1)).Nodup→∀ p∈K,K.lookup p.1=some p.2
 | [],_,p,hp=>nomatch hp
 | (a,b)::K,nd,p,hp=>by
   rw [List.map_cons,List.nodup_cons] at nd
   rcases List.mem_cons.mp hp with rfl | hp'
   ·exact List.lookup_cons_self
   ·have ne:(p.1 == a)=false:=by
     rw [beq_eq_false_iff_ne]
     intro e
     have:=List.mem_map_of_mem (f:=(·.1)) hp'
     rw [e] at this
     exact nd.1 this
    rw [List.lookup_cons,ne]
    exact lookup_nodup nd.2 p hp'
theorem in_mem {K:List (Nat×Obj)} {h:Heap} (nd:(K.map (·.1)).Nodup) (X:Frag.In K h):∀ p∈K,h.get? p.1=some p.2:=fun p hp=>X _ _ (lookup_nodup nd p hp)
theorem says_in {w:World} {h:Heap} (Y:HK.says w h):Frag.In (KL w.params) h:=Y
theorem law_at (P:Params):nsIn (KL P) mainGlobals ⟨⟨[108,97,119]⟩⟩=some (some (.ref 912)):=by kernel_rfl
theorem ints_of {P:Params} {h:Heap}:∀ {xs:List WData} {vs:List Value},WShape.hasItems R xs .int=true→WellAll P h vs xs→AllI vs∧vs.length=xs.length
 | [],vs,_,hw=>by cases hw;exact ⟨.nil,rfl⟩
 | x::xs,vs,hx,hw=>by
   cases hw with
   | cons h1 h2=>
     have hx':WShape.has R x .int=true∧WShape.hasItems R xs .int=true:=by simpa [WShape.hasItems] using hx
     obtain ⟨i,rfl⟩:=hasW_int hx'.1
     cases h1
     obtain ⟨a,b⟩:=ints_of hx'.2 h2
     exact ⟨.cons a,by rw [List.length_cons,List.length_cons,b]⟩
theorem args_of {P:Params} {h:Heap} {args:List WData} {vals:List Value} (hpre:PySem.Challenge.rw_il0098_01.row.toRowW.claim.pre args=true) (hw:WellAll P h vals args):∃ SC vs,vals=[.ref SC]∧AllI vs∧vs.length≤63∧h.get? SC=some (seqO "list" vs 0):=by
 obtain ⟨p1,p2⟩:=pre_splitW hpre
 obtain ⟨d,r,rfl,q1,q2⟩:=hasAllW_cons p1
 obtain rfl:=hasAllW_nil q2
 obtain ⟨xs,rfl,hx⟩:=hasW_list q1
 have hlen:xs.length≤63:=by
  have p3:(WTm.and (.not (.lt (.lit (.int 63)) (.len (.arg 0)))) (.lit (.bool true))).holds [] { args:=[.list xs] }=true:=p2
  rcases Nat.lt_or_ge 63 xs.length with q | q
  ·exfalso
   have e:(WTm.lt (.lit (.int 63)) (.len (.arg 0))).value [] { args:=[.list xs] }=some (.bool true):=by
    show ((some (decide ((63:Int) < (xs.length:Int)))).map WData.bool)=_
    rw [decide_eq_true (by lia)];rfl
   unfold WTm.holds at p3
   rw [show (WTm.and (.not (.lt (.lit (.int 63)) (.len (.arg 0)))) (.lit (.bool true))).value [] { args:=[.list xs] }=some (.bool false) from by
    show (match (match (WTm.lt (.lit (.int 63)) (.len (.arg 0))).value [] { args:=[.list xs] } with | some (.bool b)=>some (WData.bool (!b)) | _=>none) with | some (.bool false)=>some (WData.bool false) | some (.bool true)=>_ | _=>none)=_
    rw [e];rfl] at p3
   cases p3
  ·exact q
 cases hw with
 | cons h1 h2=>
   cases h2
   cases h1 with
   | list g1 g2=>
     obtain ⟨a,b⟩:=ints_of hx g2
     exact ⟨_,_,rfl,a,by lia,g1⟩
end
end Mine
open PySem.Calls
open Sem (wp)
theorem PySem.Challenge.cw_il0098_01_holds : PySem.Challenge.rw_il0098_01.Holds := by
 refine Mine.head ?_
 intro w s₀ s₁ mg mb G Y a o pm cd doc dV kV h1 h2 h3 h4 h5 hgens args vals as hpre hlay hrd hwell hlow
 have X:=Mine.says_in Y
 have hm:=Mine.in_mem (Mine.KL_nodup w.params) X
 have e1:mg ⟨⟨[108,97,119]⟩⟩=some (.ref 912):=mg_of X G.T.g (Mine.law_at w.params)
 have e2:=e1.symm.trans h5
 cases e2
 obtain ⟨SC,vs,rfl,hv,hl,hS⟩:=Mine.args_of hpre hwell
 obtain ⟨hp1,g1,d1,k1,o1⟩:=s₁
 refine wpAny_call (codeAny_mono (Mine.law_true hm hv hl hS) fun r s' hr=>?_)
 obtain ⟨rfl,hk,ho,hb⟩:=hr
 refine ⟨.inl ⟨.bool true,.bool true,[],rfl,fun cls=>rfl,.bool true,?_,fun _=>⟨List.nodup_nil,fun a ha=>by cases ha⟩⟩,.of_keep hk,ho,hb (AllBare.of_eq hgens)⟩
 kernel_rfl
