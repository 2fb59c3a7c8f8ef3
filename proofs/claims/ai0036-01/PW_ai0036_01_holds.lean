import PyProof.Rows.All
import Wide.All
import OpenK.AllK
import Wide.FinOn
import PySem.Challenge.RW_ai0036_01
set_option Elab.async false
set_option maxRecDepth 100000
set_option linter.all false
set_option backward.match.sparseCases false
set_option genSizeOf false
set_option genSizeOfSpec false
set_option genInjectivity false
open Option.some(inj)
open Nat(le_refl le_trans lt_of_lt_of_le le_of_ble_eq_true zero_le ne_of_lt ne_of_gt lt_irrefl ble_eq_true_of_le le_of_succ_le le_add_right add_assoc)
open List(length_append length_map length_cons length_drop length_take map_cons cons_prefix_cons append_assoc)
noncomputable section
set_option maxHeartbeats 2000000
namespace Mine.Internal
noncomputable abbrev zL{α:Type _}:=@List.casesOn.{0} α
noncomputable abbrev zO{α:Type _}:=@Option.casesOn.{0} α
noncomputable abbrev zB:=@Bool.casesOn.{0}
noncomputable abbrev zN:=@Nat.casesOn.{0}
noncomputable abbrev zX:=@PySem.Expr.casesOn.{0}
noncomputable abbrev zC:=@PySem.CmpOp.casesOn.{0}
theorem xle{k N:Nat}(h:k≤N):∃ n,N=n+k:=Nat.exists_eq_add_of_le' h
section
variable {b M k a j x c N:Nat}
theorem lwp{s:Nat}(h:b≤M+k)(q:a+k≤b+s):a≤M+s:=Nat.le_of_add_le_add_right (le_trans q (Nat.add_right_comm M k s ▸ Nat.add_le_add_right h s))
theorem lw(h:(OfNat.ofNat b:Nat)≤M+OfNat.ofNat k)(q:Nat.ble (a+k) (b+j)=true):(OfNat.ofNat a:Nat)≤M+OfNat.ofNat j:=lwp h (le_of_ble_eq_true q)
theorem ln(h:(OfNat.ofNat b:Nat)≤N)(q:Nat.ble a b=true):(OfNat.ofNat a:Nat)≤N:=le_trans (le_of_ble_eq_true q) h
theorem lz(h:(OfNat.ofNat b:Nat)≤M+OfNat.ofNat k)(q:Nat.ble (a+k) b=true):(OfNat.ofNat a:Nat)≤M:=lw (j:=0) h q
theorem lj(q:Nat.ble a j=true):(OfNat.ofNat a:Nat)≤M+OfNat.ofNat j:=le_trans (le_of_ble_eq_true q) (Nat.le_add_left ..)
theorem ls(h:x+OfNat.ofNat b≤M+OfNat.ofNat k)(q:Nat.ble (a+k) (b+j)=true):x+OfNat.ofNat a≤M+OfNat.ofNat j:=
 lwp h (by rw[add_assoc,add_assoc];exact Nat.add_le_add_left (le_of_ble_eq_true q) x)
theorem lt(h:x+OfNat.ofNat b≤M+OfNat.ofNat k)(q:Nat.ble (a+k) b=true):x+OfNat.ofNat a≤M:=ls (j:=0) h q
theorem lx(h:x+OfNat.ofNat b≤M+OfNat.ofNat k)(q:Nat.ble (a+k) (b+j)=true):(OfNat.ofNat a:Nat)≤M+OfNat.ofNat j:=lw (b:=b) (k:=k) (le_trans (Nat.le_add_left _ x) h) q
theorem lv(h:x+OfNat.ofNat b≤N)(q:Nat.ble a b=true):(OfNat.ofNat a:Nat)≤N:=ln (b:=b) (le_trans (Nat.le_add_left _ x) h) q
theorem ly(h:x+OfNat.ofNat b≤M+OfNat.ofNat k)(q:Nat.ble (a+k) b=true):(OfNat.ofNat a:Nat)≤M:=lx (j:=0) h q
theorem ll(h:x≤OfNat.ofNat b)(q:Nat.ble b c=true):x≤OfNat.ofNat c:=le_trans h (le_of_ble_eq_true q)
theorem ld(q:Nat.ble a c=true):(OfNat.ofNat a:Nat)≤OfNat.ofNat c:=le_of_ble_eq_true q
theorem lsub(h:(OfNat.ofNat b:Nat)≤N)(q:Nat.ble k b=true):N=N-OfNat.ofNat k+OfNat.ofNat k:=(Nat.sub_add_cancel (ln h q)).symm
theorem lsux(h:x+OfNat.ofNat b≤N)(q:Nat.ble k b=true):N=N-OfNat.ofNat k+OfNat.ofNat k:=(Nat.sub_add_cancel (lv h q)).symm
variable {j2 j3 j4 j5 j6:Nat}
theorem Tw(h:(OfNat.ofNat b:Nat)≤M+OfNat.ofNat k)(q:Nat.ble (a+k) (b+(j+j2))=true):(OfNat.ofNat a:Nat)≤M+OfNat.ofNat j+OfNat.ofNat j2:=by
 rw[add_assoc];exact lwp h (le_of_ble_eq_true q)
theorem T4(h:(OfNat.ofNat b:Nat)≤M+OfNat.ofNat k)(q:Nat.ble (a+k) (b+(j+(j2+j3)))=true):(OfNat.ofNat a:Nat)≤M+OfNat.ofNat j+OfNat.ofNat j2+OfNat.ofNat j3:=by
 rw[add_assoc,add_assoc];exact lwp h (le_of_ble_eq_true q)
theorem TW(h:(OfNat.ofNat b:Nat)≤M+OfNat.ofNat k)(q:Nat.ble (a+k) (b+(j+(j2+(j3+j4))))=true):(OfNat.ofNat a:Nat)≤M+OfNat.ofNat j+OfNat.ofNat j2+OfNat.ofNat j3+OfNat.ofNat j4:=by
 rw[add_assoc,add_assoc,add_assoc];exact lwp h (le_of_ble_eq_true q)
theorem Uh(h:(OfNat.ofNat b:Nat)≤M+OfNat.ofNat k)(q:Nat.ble (a+k) (b+(j+(j2+(j3+(j4+j5)))))=true):(OfNat.ofNat a:Nat)≤M+OfNat.ofNat j+OfNat.ofNat j2+OfNat.ofNat j3+OfNat.ofNat j4+OfNat.ofNat j5:=by
 rw[add_assoc,add_assoc,add_assoc,add_assoc];exact lwp h (le_of_ble_eq_true q)
theorem Td(h:(OfNat.ofNat b:Nat)≤M+OfNat.ofNat k)(q:Nat.ble (a+k) (b+(j+(j2+(j3+(j4+(j5+j6))))))=true):(OfNat.ofNat a:Nat)≤M+OfNat.ofNat j+OfNat.ofNat j2+OfNat.ofNat j3+OfNat.ofNat j4+OfNat.ofNat j5+OfNat.ofNat j6:=by
 rw[add_assoc,add_assoc,add_assoc,add_assoc,add_assoc];exact lwp h (le_of_ble_eq_true q)
theorem nn{α:Type _}{x:α}{P:Prop}(h:none=some x):P:=nomatch h
theorem nf{P:Prop}(h:false=true):P:=nomatch h
end
section
variable {α β γ:Type _}{P:Prop}
theorem ob{x:Option β}{f:β→Option γ}{y:γ}(h:x.bind f=some y)(k:∀ o,x=some o→f o=some y→P):P:=by
 cases x with
 | none=>exact nn h
 | some o=>exact k o rfl h
theorem oc{b:Bool}{x:Option γ}{y:γ}(h:(bif b then x else none)=some y)(k:b=true→x=some y→P):P:=by
 cases b with
 | false=>exact nn h
 | true=>exact k rfl h
theorem mif{c:Prop}[Decidable c]{a b:Option γ}{y:γ}(h:(if c then a else b)=some y)(k:c→a=some y→P)(l:¬c→b=some y→P):P:=by
 by_cases q:c
 ·rw[if_pos q] at h;exact k q h
 ·rw[if_neg q] at h;exact l q h
theorem om{x:Option α}{f:α→β}{y:β}(h:x.map f=some y)(k:∀ a,x=some a→f a=y→P):P:=by
 cases x with
 | none=>exact nn h
 | some a=>exact k a rfl (inj h)
end
theorem ed{α0 α1:Sort _}{p:α0→α1→Prop}{P:Prop}(h:∃ x0 x1,p x0 x1)(k:∀ x0 x1,p x0 x1→P):P:=h.elim fun x0 h=>h.elim fun x1 h=>k x0 x1 h
theorem gy{α0 α1 α2:Sort _}{p:α0→α1→α2→Prop}{P:Prop}(h:∃ x0 x1 x2,p x0 x1 x2)(k:∀ x0 x1 x2,p x0 x1 x2→P):P:=h.elim fun x0 h=>h.elim fun x1 h=>h.elim fun x2 h=>k x0 x1 x2 h
theorem jI{α0 α1 α2 α3:Sort _}{p:α0→α1→α2→α3→Prop}{P:Prop}(h:∃ x0 x1 x2 x3,p x0 x1 x2 x3)(k:∀ x0 x1 x2 x3,p x0 x1 x2 x3→P):P:=h.elim fun x0 h=>h.elim fun x1 h=>h.elim fun x2 h=>h.elim fun x3 h=>k x0 x1 x2 x3 h
theorem RV{α0 α1 α2 α3 α4:Sort _}{p:α0→α1→α2→α3→α4→Prop}{P:Prop}(h:∃ x0 x1 x2 x3 x4,p x0 x1 x2 x3 x4)(k:∀ x0 x1 x2 x3 x4,p x0 x1 x2 x3 x4→P):P:=h.elim fun x0 h=>h.elim fun x1 h=>h.elim fun x2 h=>h.elim fun x3 h=>h.elim fun x4 h=>k x0 x1 x2 x3 x4 h
theorem Sk{α0 α1 α2 α3 α4 α5:Sort _}{p:α0→α1→α2→α3→α4→α5→Prop}{P:Prop}(h:∃ x0 x1 x2 x3 x4 x5,p x0 x1 x2 x3 x4 x5)(k:∀ x0 x1 x2 x3 x4 x5,p x0 x1 x2 x3 x4 x5→P):P:=h.elim fun x0 h=>h.elim fun x1 h=>h.elim fun x2 h=>h.elim fun x3 h=>h.elim fun x4 h=>h.elim fun x5 h=>k x0 x1 x2 x3 x4 x5 h
theorem ee{p0 p1 p2 P:Prop}(h:p0∧p1∧p2)(k:p0→p1→p2→P):P:=k h.1 h.2.1 h.2.2
theorem pK{p0 p1 p2 p3 P:Prop}(h:p0∧p1∧p2∧p3)(k:p0→p1→p2→p3→P):P:=k h.1 h.2.1 h.2.2.1 h.2.2.2
theorem I5{p0 p1 p2 p3 p4 P:Prop}(h:p0∧p1∧p2∧p3∧p4)(k:p0→p1→p2→p3→p4→P):P:=k h.1 h.2.1 h.2.2.1 h.2.2.2.1 h.2.2.2.2
theorem pG{p0 p1 p2 p3 p4 p5 P:Prop}(h:p0∧p1∧p2∧p3∧p4∧p5)(k:p0→p1→p2→p3→p4→p5→P):P:=k h.1 h.2.1 h.2.2.1 h.2.2.2.1 h.2.2.2.2.1 h.2.2.2.2.2
theorem Pr{p0 p1 p2 p3 p4 p5 p6 P:Prop}(h:p0∧p1∧p2∧p3∧p4∧p5∧p6)(k:p0→p1→p2→p3→p4→p5→p6→P):P:=k h.1 h.2.1 h.2.2.1 h.2.2.2.1 h.2.2.2.2.1 h.2.2.2.2.2.1 h.2.2.2.2.2.2
theorem Tl{p0 p1 p2 p3 p4 p5 p6 p7 P:Prop}(h:p0∧p1∧p2∧p3∧p4∧p5∧p6∧p7)(k:p0→p1→p2→p3→p4→p5→p6→p7→P):P:=k h.1 h.2.1 h.2.2.1 h.2.2.2.1 h.2.2.2.2.1 h.2.2.2.2.2.1 h.2.2.2.2.2.2.1 h.2.2.2.2.2.2.2
@[elab_as_elim] theorem len0 {α β:Type _} {C:List α→Prop} {l:List α} (h:l.length=([]:List β).length) (k:C []):C l:=by
 cases l with
 | nil=>exact k
 | cons=>cases h
@[elab_as_elim] theorem lenS {α β:Type _} {C:List α→Prop} {l:List α} {m:List β} {b:β} (h:l.length=(b :: m).length) (k:∀ x r,r.length=m.length→C (x :: r)):C l:=by
 cases l with
 | nil=>cases h
 | cons x r=>exact k x r (Nat.succ.inj h)
theorem ZT{p:Prop}[Decidable p](h:p:=by ext):decide p=true:=decide_eq_true h
theorem ZF{p:Prop}[Decidable p](h:¬p:=by ext):decide p=false:=decide_eq_false h
end Mine.Internal
end
open Mine.Internal
local macro_rules | `(tactic| rfl') => `(tactic| kernel_rfl)
local macro_rules | `(tactic| exists $t,$ts,*) => `(tactic| first | exact $t ‹_› (by with_reducible_and_instances rfl) | exists $ts,*)
local macro_rules | `(tactic| ext) => `(tactic|
 first
 | (with_reducible first
 | exists lw,ln,lz,Tw,T4,TW,Uh,Td,lx,ls,ly,lt,ll,lsub,lsux,lw
 | exact lj (by with_reducible_and_instances rfl)
 | exact ld (by with_reducible_and_instances rfl)
 | exact Nat.sub_lt_self ‹_› ‹_›
 | exact Nat.sub_le _ _
 | exact zero_le _
 | exact le_refl _
 | assumption
 | exact Nat.le_of_lt ‹_›
 | fail)
 | lia
 | omega)
noncomputable section
open PySem PySem.W
set_option maxHeartbeats 2000000
namespace Mine.Internal
section
variable (p:Params)(g:Obj)
noncomputable section
noncomputable abbrev prog:Program:=PySem.Challenge.pw_ai0036_01
noncomputable def tp(i:Nat):Stmt:=prog.main.body.getD i (.Pass default)
noncomputable def mt(i j:Nat):Stmt:=match tp i with
 | .ClassDef _ _ _ b _ _ _ _ _ _ _=>b.getD j (.Pass default)
 | _=>.Pass default
noncomputable def sD:Stmt→Arguments
 | .FunctionDef _ a _ _ _ _ _ _ _ _=>a
 | _=>default
noncomputable def br:Stmt→List Stmt
 | .FunctionDef _ _ b _ _ _ _ _ _ _=>b
 | _=>[]
noncomputable def aJ:Stmt→Scope
 | .FunctionDef _ _ _ _ _ _ s _ _ _=>s
 | _=>default
noncomputable def fn(name qual:Str)(st:Stmt)(gl:Addr)(mod code:Value)(blt:Addr):FuncData:=
 {name,qualname:=qual,params:=sD st,body:=.stmts (br st),scope:=aJ st,globals:=gl,closure:=[],defaults:=.none,kwdefaults:=.none,pyModule:=mod,code,builtins:=blt }
noncomputable def sh(p:Params)(n:Str):Int:=if n.cps.isEmpty then 0 else reduceHash (p.strHash n.cps)
noncomputable def en(p:Params)(n:Str)(t:Tok)(v:Value):DictEntry:=⟨sh p n,.str n t,v⟩
structure aF where
 d:Addr
 s:Str
 i:Int
 r:Int
 ts:Tok
 ti:Tok
 tr:Tok
 t1:Tok
 t2:Tok
 t3:Tok
noncomputable def aY(d:Addr):Obj:=⟨.ref 218,some d,.plain,#[]⟩
noncomputable def aR(p:Params)(e:aF):Obj:=⟨.type "dict",none,.dict #[en p "s" e.t1 (.str e.s e.ts),en p "substring_i" e.t2 (.int e.i e.ti),en p "result" e.t3 (.int e.r e.tr)] 3,#[]⟩
def Pc:Obj:=⟨.none,none,.dict #[en p "type.__subclasses__.Exception.0" 3266 (.int 900 0),en p "type.__subclasses__.Exception.n" 3267 (.int 3 0),en p "type.__subclasses__.Exception.1" 3286 (.int 913 0),en p "type.__subclasses__.Exception.2" 3306 (.int 926 0)] 4,#[]⟩
def Pq:Obj:=⟨(.type "dict"),none,.dict #[en p "__name__" 165 (.str "law_ai0036_01" 3310),en p "__doc__" 166 .none,en p "__package__" 167 .none,en p "__loader__" 168 (.builtin "__main__.__loader__#opaque"),en p "__spec__" 169 .none,en p "__annotations__" 170 (.ref 6),en p "__builtins__" 171 (.ref 4),en p "__file__" 173 (.str "/claim/cut.py" 172),en p "__cached__" 174 .none,en p "_wall" 193 (.ref 21),en p "BaseStemmer" 435 (.ref 197),en p "Among" 470 (.ref 218),en p "PortugueseStemmer" 3249 (.ref 888),en p "lab0" 3269 (.ref 900),en p "lab1" 3289 (.ref 913),en p "lab2" 3309 (.ref 926),en p "_law_vowels" 3317 (.ref 936),en p "_law_letters" 3323 (.ref 943),en p "_law_parts" 3329 (.ref 950),en p "_law_nouns" 3335 (.ref 957),en p "_law_verbs" 3456 (.ref 958),en p "_law_last" 3464 (.ref 959),en p "_law_form" 3469 (.ref 960),en p "_law_ends" 3475 (.ref 965),en p "_law_word" 3487 (.ref 972),en p "_law_end" 3498 (.ref 979),en p "_law_cut" 3506 (.ref 986),en p "_law_less" 3516 (.ref 993),en p "_law_behind" 3524 (.ref 1000),en p "_law_first" 3532 (.ref 1007),en p "_law_noun" 3547 (.ref 1014),en p "_law_formed" 3555 (.ref 1021),en p "_law_stem" 3567 (.ref 1028),en p "law" 3573 (.ref 1033)] 34,#[]⟩
noncomputable def qY(p:Params):Obj:=⟨(.type "module"),(some 0),.plain,#[]⟩
noncomputable def ry(p:Params):Obj:=⟨(.type "module"),(some 3),.plain,#[]⟩
noncomputable def sd(p:Params):Obj:=⟨(.type "dict"),none,.dict #[] 0,#[]⟩
noncomputable def oC(a:Str)(t:Tok)(b:Str)(u v:Tok)(l c f:Int)(r x y z w:Addr)(k j:Int)(e:Tok):Obj:=⟨.type "code",none,.fields #[.str a t,.str b u,.str "/claim/cut.py" v,.int l 0,.int c 0,.int 0 0,.int 0 0,.int f 0,.ref r,.bool true,.int 181 0,.ref x,.none,.ref y,.ref z,.ref w,.int k 0,.int j 0,.str "/claim/cut.py" e],#[]⟩
def nh(p:Params):Obj:=oC "_wall" 187 "_wall" 188 189 1 1 3 15 16 17 18 19 191 1 192
noncomputable def oF(a b:Str)(s:Stmt)(m:Str)(t:Tok)(c:Addr):Obj:=⟨.type "function",none,.func (fn a b s 3 (.str m t) (.ref c) 0),#[]⟩
def nl(p:Params):Obj:=oF "_wall" "_wall" (tp 0) "__main__" 164 20
def mU(p:Params):Obj:=oC "__init__" 208 "BaseStemmer.__init__" 209 210 7 1 3 29 30 31 32 33 212 7 213
def ng(p:Params):Obj:=oF "__init__" "BaseStemmer.__init__" (mt 2 0) "snowballstemmer.basestemmer" 194 34
def lU(p:Params):Obj:=oC "set_current" 215 "BaseStemmer.set_current" 216 217 10 2 3 36 37 38 39 40 220 10 221
def m6(p:Params):Obj:=oF "set_current" "BaseStemmer.set_current" (mt 2 1) "snowballstemmer.basestemmer" 194 41
def m7(p:Params):Obj:=oC "get_current" 223 "BaseStemmer.get_current" 224 225 18 1 3 43 44 45 46 47 227 18 228
def md(p:Params):Obj:=oF "get_current" "BaseStemmer.get_current" (mt 2 2) "snowballstemmer.basestemmer" 194 48
def nk(p:Params):Obj:=oC "copy_from" 230 "BaseStemmer.copy_from" 231 232 21 2 3 50 51 52 53 54 235 21 236
def nc(p:Params):Obj:=oF "copy_from" "BaseStemmer.copy_from" (mt 2 3) "snowballstemmer.basestemmer" 194 55
def mW(p:Params):Obj:=oC "in_grouping" 238 "BaseStemmer.in_grouping" 239 240 24 2 3 57 58 59 60 61 243 24 244
def oG(p:Params):Obj:=oF "in_grouping" "BaseStemmer.in_grouping" (mt 2 4) "snowballstemmer.basestemmer" 194 62
def oz(p:Params):Obj:=oC "go_in_grouping" 246 "BaseStemmer.go_in_grouping" 247 248 32 2 3 64 65 66 67 68 251 32 252
def nq(p:Params):Obj:=oF "go_in_grouping" "BaseStemmer.go_in_grouping" (mt 2 5) "snowballstemmer.basestemmer" 194 69
def pg(p:Params):Obj:=oC "in_grouping_b" 254 "BaseStemmer.in_grouping_b" 255 256 39 2 3 71 72 73 74 75 259 39 260
def pE(p:Params):Obj:=oF "in_grouping_b" "BaseStemmer.in_grouping_b" (mt 2 6) "snowballstemmer.basestemmer" 194 76
def m8(p:Params):Obj:=oC "go_in_grouping_b" 262 "BaseStemmer.go_in_grouping_b" 263 264 42 2 3 78 79 80 81 82 267 42 268
def m9(p:Params):Obj:=oF "go_in_grouping_b" "BaseStemmer.go_in_grouping_b" (mt 2 7) "snowballstemmer.basestemmer" 194 83
def nr(p:Params):Obj:=oC "out_grouping" 270 "BaseStemmer.out_grouping" 271 272 45 2 3 85 86 87 88 89 275 45 276
def nb(p:Params):Obj:=oF "out_grouping" "BaseStemmer.out_grouping" (mt 2 8) "snowballstemmer.basestemmer" 194 90
def jq(p:Params):Obj:=oC "go_out_grouping" 278 "BaseStemmer.go_out_grouping" 279 280 53 2 3 92 93 94 95 96 283 53 284
def pv(p:Params):Obj:=oF "go_out_grouping" "BaseStemmer.go_out_grouping" (mt 2 9) "snowballstemmer.basestemmer" 194 97
def gV(p:Params):Obj:=oC "out_grouping_b" 286 "BaseStemmer.out_grouping_b" 287 288 60 2 3 99 100 101 102 103 291 60 292
def fK(p:Params):Obj:=oF "out_grouping_b" "BaseStemmer.out_grouping_b" (mt 2 10) "snowballstemmer.basestemmer" 194 104
def gw(p:Params):Obj:=oC "go_out_grouping_b" 294 "BaseStemmer.go_out_grouping_b" 295 296 63 2 3 106 107 108 109 110 299 63 300
def gs(p:Params):Obj:=oF "go_out_grouping_b" "BaseStemmer.go_out_grouping_b" (mt 2 11) "snowballstemmer.basestemmer" 194 111
def gT(p:Params):Obj:=oC "eq_s" 302 "BaseStemmer.eq_s" 303 304 66 2 3 113 114 115 116 117 307 66 308
def gP(p:Params):Obj:=oF "eq_s" "BaseStemmer.eq_s" (mt 2 12) "snowballstemmer.basestemmer" 194 118
def gJ(p:Params):Obj:=oC "eq_s_b" 310 "BaseStemmer.eq_s_b" 311 312 69 2 3 120 121 122 123 124 315 69 316
def g9(p:Params):Obj:=oF "eq_s_b" "BaseStemmer.eq_s_b" (mt 2 13) "snowballstemmer.basestemmer" 194 125
def g6(p:Params):Obj:=oC "find_among" 318 "BaseStemmer.find_among" 319 320 75 2 3 127 128 129 130 131 335 75 336
def iV(p:Params):Obj:=oF "find_among" "BaseStemmer.find_among" (mt 2 14) "snowballstemmer.basestemmer" 194 132
def jd(p:Params):Obj:=oC "find_among_b" 338 "BaseStemmer.find_among_b" 339 340 120 2 3 134 135 136 137 138 355 120 356
def iM(p:Params):Obj:=oF "find_among_b" "BaseStemmer.find_among_b" (mt 2 15) "snowballstemmer.basestemmer" 194 139
def jf(p:Params):Obj:=oC "replace_s" 358 "BaseStemmer.replace_s" 359 360 165 4 3 141 142 143 144 145 366 165 367
def gK(p:Params):Obj:=oF "replace_s" "BaseStemmer.replace_s" (mt 2 16) "snowballstemmer.basestemmer" 194 146
def gX(p:Params):Obj:=oC "slice_from" 369 "BaseStemmer.slice_from" 370 371 175 2 3 148 149 150 151 152 374 175 375
def iZ(p:Params):Obj:=oF "slice_from" "BaseStemmer.slice_from" (mt 2 17) "snowballstemmer.basestemmer" 194 153
def ja(p:Params):Obj:=oC "slice_del" 377 "BaseStemmer.slice_del" 378 379 183 1 3 155 156 157 158 159 381 183 382
def iO(p:Params):Obj:=oF "slice_del" "BaseStemmer.slice_del" (mt 2 18) "snowballstemmer.basestemmer" 194 160
def kc(p:Params):Obj:=oC "insert" 384 "BaseStemmer.insert" 385 386 186 4 3 162 163 164 165 166 391 186 392
def iU(p:Params):Obj:=oF "insert" "BaseStemmer.insert" (mt 2 19) "snowballstemmer.basestemmer" 194 167
def gH(p:Params):Obj:=oC "slice_to" 394 "BaseStemmer.slice_to" 395 396 189 1 3 169 170 171 172 173 398 189 399
def jb(p:Params):Obj:=oF "slice_to" "BaseStemmer.slice_to" (mt 2 20) "snowballstemmer.basestemmer" 194 174
def iL(p:Params):Obj:=oC "assign_to" 401 "BaseStemmer.assign_to" 402 403 192 1 3 176 177 178 179 180 405 192 406
def kh(p:Params):Obj:=oF "assign_to" "BaseStemmer.assign_to" (mt 2 21) "snowballstemmer.basestemmer" 194 181
def iN(p:Params):Obj:=oC "stemWord" 408 "BaseStemmer.stemWord" 409 410 195 2 3 183 184 185 186 187 413 195 414
def kK(p:Params):Obj:=oF "stemWord" "BaseStemmer.stemWord" (mt 2 22) "snowballstemmer.basestemmer" 194 188
noncomputable def gW(p:Params):Obj:=⟨(.type "code"),none,.fields #[(.str "stemWords" 416),(.str "BaseStemmer.stemWords" 417),(.str "/claim/cut.py" 418),(.int 200 0),(.int 2 0),(.int 0 0),(.int 0 0),(.int 3 0),(.ref 190),(.bool true),(.int 181 0),(.ref 191),.none,.none,.none,(.ref 192),(.int 419 0),(.int 200 0),(.str "/claim/cut.py" 420)],#[]⟩
def iR(p:Params):Obj:=oF "stemWords" "BaseStemmer.stemWords" (mt 2 23) "snowballstemmer.basestemmer" 194 193
def iP:Obj:=⟨(.type "dict"),none,.dict #[en p "__module__" 203 (.str "snowballstemmer.basestemmer" 194),en p "__firstlineno__" 207 (.int 5 206),en p "__init__" 214 (.ref 35),en p "set_current" 222 (.ref 42),en p "get_current" 229 (.ref 49),en p "copy_from" 237 (.ref 56),en p "in_grouping" 245 (.ref 63),en p "go_in_grouping" 253 (.ref 70),en p "in_grouping_b" 261 (.ref 77),en p "go_in_grouping_b" 269 (.ref 84),en p "out_grouping" 277 (.ref 91),en p "go_out_grouping" 285 (.ref 98),en p "out_grouping_b" 293 (.ref 105),en p "go_out_grouping_b" 301 (.ref 112),en p "eq_s" 309 (.ref 119),en p "eq_s_b" 317 (.ref 126),en p "find_among" 337 (.ref 133),en p "find_among_b" 357 (.ref 140),en p "replace_s" 368 (.ref 147),en p "slice_from" 376 (.ref 154),en p "slice_del" 383 (.ref 161),en p "insert" 393 (.ref 168),en p "slice_to" 400 (.ref 175),en p "assign_to" 407 (.ref 182),en p "stemWord" 415 (.ref 189),en p "stemWords" 421 (.ref 194),en p "__static_attributes__" 428 (.ref 195),en p "__dict__" 430 (.ref 198),en p "__weakref__" 432 (.ref 199),en p "__doc__" 433 .none] 4,#[]⟩
noncomputable def ER(p:Params):Obj:=⟨(.type "type"),none,.cls { name:="BaseStemmer",bases:=[(.type "object")],mro:=[(.ref 197),(.type "object")],ns:=196,qualname:="BaseStemmer",subclasses:=[(.ref 888)] },#[none,none,some (.str "BaseStemmer" 196),some (.str "BaseStemmer" 204),some (.builtin "object.__new__"),some (.bool true)]⟩
def gR(p:Params):Obj:=oC "__init__" 450 "Among.__init__" 451 452 205 4 3 209 210 211 212 213 457 205 458
def ky(p:Params):Obj:=oF "__init__" "Among.__init__" (mt 4 0) "snowballstemmer.among" 436 214
def g5:Obj:=⟨(.type "dict"),none,.dict #[en p "__module__" 445 (.str "snowballstemmer.among" 436),en p "__firstlineno__" 449 (.int 203 448),en p "__init__" 459 (.ref 215),en p "__static_attributes__" 463 (.ref 216),en p "__dict__" 465 (.ref 219),en p "__weakref__" 467 (.ref 220),en p "__doc__" 468 .none] 4,#[]⟩
noncomputable def gU(p:Params):Obj:=⟨(.type "type"),none,.cls { name:="Among",bases:=[(.type "object")],mro:=[(.ref 218),(.type "object")],ns:=217,qualname:="Among",subclasses:=[] },#[none,none,some (.str "Among" 438),some (.str "Among" 446),some (.builtin "object.__new__"),some (.bool true)]⟩
def jX(p:Params):Obj:=oC "r_prelude" 518 "PortugueseStemmer.r_prelude" 519 520 216 1 3 231 232 233 234 235 524 216 525
def jc(p:Params):Obj:=oF "r_prelude" "PortugueseStemmer.r_prelude" (mt 6 4) "snowballstemmer.portuguese_stemmer" 471 236
def je(p:Params):Obj:=oC "r_mark_regions" 527 "PortugueseStemmer.r_mark_regions" 528 529 238 1 3 238 239 240 241 242 536 238 537
def kF(p:Params):Obj:=oF "r_mark_regions" "PortugueseStemmer.r_mark_regions" (mt 6 5) "snowballstemmer.portuguese_stemmer" 471 243
def mj(p:Params):Obj:=oC "r_postlude" 539 "PortugueseStemmer.r_postlude" 540 541 317 1 3 245 246 247 248 249 545 317 546
def jN(p:Params):Obj:=oF "r_postlude" "PortugueseStemmer.r_postlude" (mt 6 6) "snowballstemmer.portuguese_stemmer" 471 250
def me(p:Params):Obj:=oC "r_RV" 548 "PortugueseStemmer.r_RV" 549 550 339 1 3 252 253 254 255 256 552 339 553
def mM(p:Params):Obj:=oF "r_RV" "PortugueseStemmer.r_RV" (mt 6 7) "snowballstemmer.portuguese_stemmer" 471 257
def mu(p:Params):Obj:=oC "r_R2" 555 "PortugueseStemmer.r_R2" 556 557 342 1 3 259 260 261 262 263 559 342 560
def mh(p:Params):Obj:=oF "r_R2" "PortugueseStemmer.r_R2" (mt 6 8) "snowballstemmer.portuguese_stemmer" 471 264
def mq(p:Params):Obj:=oC "r_standard_suffix" 562 "PortugueseStemmer.r_standard_suffix" 563 564 345 1 3 266 267 268 269 270 571 345 572
def mL(p:Params):Obj:=oF "r_standard_suffix" "PortugueseStemmer.r_standard_suffix" (mt 6 9) "snowballstemmer.portuguese_stemmer" 471 271
def mF(p:Params):Obj:=oC "r_verb_suffix" 574 "PortugueseStemmer.r_verb_suffix" 575 576 455 1 3 273 274 275 276 277 579 455 580
def oh(p:Params):Obj:=oF "r_verb_suffix" "PortugueseStemmer.r_verb_suffix" (mt 6 10) "snowballstemmer.portuguese_stemmer" 471 278
def ot(p:Params):Obj:=oC "r_residual_suffix" 582 "PortugueseStemmer.r_residual_suffix" 583 584 469 1 3 280 281 282 283 284 586 469 587
def my(p:Params):Obj:=oF "r_residual_suffix" "PortugueseStemmer.r_residual_suffix" (mt 6 11) "snowballstemmer.portuguese_stemmer" 471 285
def ph(p:Params):Obj:=oC "r_residual_form" 589 "PortugueseStemmer.r_residual_form" 590 591 479 1 3 287 288 289 290 291 597 479 598
def pz(p:Params):Obj:=oF "r_residual_form" "PortugueseStemmer.r_residual_form" (mt 6 12) "snowballstemmer.portuguese_stemmer" 471 292
def mr(p:Params):Obj:=oC "_stem" 600 "PortugueseStemmer._stem" 601 602 523 1 3 294 295 296 297 298 613 523 614
def qD(p:Params):Obj:=oF "_stem" "PortugueseStemmer._stem" (mt 6 13) "snowballstemmer.portuguese_stemmer" 471 299
noncomputable def pf(p:Params):Obj:=⟨(.type "list"),none,.seq #[(.ref 302),(.ref 305),(.ref 308)] 0,#[]⟩
noncomputable def mf(p:Params):Obj:=⟨(.type "list"),none,.seq #[(.ref 312),(.ref 315),(.ref 318)] 0,#[]⟩
noncomputable def mS(p:Params):Obj:=⟨(.type "list"),none,.seq #[(.ref 322),(.ref 325),(.ref 328),(.ref 331)] 0,#[]⟩
noncomputable def pd(p:Params):Obj:=⟨(.type "list"),none,.seq #[(.ref 335),(.ref 338),(.ref 341)] 0,#[]⟩
noncomputable def oE(p:Params):Obj:=⟨(.type "list"),none,.seq #[(.ref 345),(.ref 348),(.ref 351)] 0,#[]⟩
noncomputable def qE(p:Params):Obj:=⟨(.type "list"),none,.seq #[(.ref 355),(.ref 358),(.ref 361),(.ref 364),(.ref 367),(.ref 370),(.ref 373),(.ref 376),(.ref 379),(.ref 382),(.ref 385),(.ref 388),(.ref 391),(.ref 394),(.ref 397),(.ref 400),(.ref 403),(.ref 406),(.ref 409),(.ref 412),(.ref 415),(.ref 418),(.ref 421),(.ref 424),(.ref 427),(.ref 430),(.ref 433),(.ref 436),(.ref 439),(.ref 442),(.ref 445),(.ref 448),(.ref 451),(.ref 454),(.ref 457),(.ref 460),(.ref 463),(.ref 466),(.ref 469),(.ref 472),(.ref 475),(.ref 478),(.ref 481),(.ref 484),(.ref 487)] 0,#[]⟩
noncomputable def AX(p:Params):Obj:=⟨(.type "list"),none,.seq #[(.ref 491),(.ref 494),(.ref 497),(.ref 500),(.ref 503),(.ref 506),(.ref 509),(.ref 512),(.ref 515),(.ref 518),(.ref 521),(.ref 524),(.ref 527),(.ref 530),(.ref 533),(.ref 536),(.ref 539),(.ref 542),(.ref 545),(.ref 548),(.ref 551),(.ref 554),(.ref 557),(.ref 560),(.ref 563),(.ref 566),(.ref 569),(.ref 572),(.ref 575),(.ref 578),(.ref 581),(.ref 584),(.ref 587),(.ref 590),(.ref 593),(.ref 596),(.ref 599),(.ref 602),(.ref 605),(.ref 608),(.ref 611),(.ref 614),(.ref 617),(.ref 620),(.ref 623),(.ref 626),(.ref 629),(.ref 632),(.ref 635),(.ref 638),(.ref 641),(.ref 644),(.ref 647),(.ref 650),(.ref 653),(.ref 656),(.ref 659),(.ref 662),(.ref 665),(.ref 668),(.ref 671),(.ref 674),(.ref 677),(.ref 680),(.ref 683),(.ref 686),(.ref 689),(.ref 692),(.ref 695),(.ref 698),(.ref 701),(.ref 704),(.ref 707),(.ref 710),(.ref 713),(.ref 716),(.ref 719),(.ref 722),(.ref 725),(.ref 728),(.ref 731),(.ref 734),(.ref 737),(.ref 740),(.ref 743),(.ref 746),(.ref 749),(.ref 752),(.ref 755),(.ref 758),(.ref 761),(.ref 764),(.ref 767),(.ref 770),(.ref 773),(.ref 776),(.ref 779),(.ref 782),(.ref 785),(.ref 788),(.ref 791),(.ref 794),(.ref 797),(.ref 800),(.ref 803),(.ref 806),(.ref 809),(.ref 812),(.ref 815),(.ref 818),(.ref 821),(.ref 824),(.ref 827),(.ref 830),(.ref 833),(.ref 836),(.ref 839),(.ref 842),(.ref 845),(.ref 848)] 0,#[]⟩
noncomputable def EM(p:Params):Obj:=⟨(.type "list"),none,.seq #[(.ref 852),(.ref 855),(.ref 858),(.ref 861),(.ref 864),(.ref 867),(.ref 870)] 0,#[]⟩
noncomputable def E5(p:Params):Obj:=⟨(.type "list"),none,.seq #[(.ref 874),(.ref 877),(.ref 880),(.ref 883)] 0,#[]⟩
def Fg:Obj:=⟨(.type "dict"),none,.dict #[en p "__module__" 480 (.str "snowballstemmer.portuguese_stemmer" 471),en p "__firstlineno__" 484 (.int 210 483),en p "g_v" 511 (.ref 230),en p "I_p2" 513 (.int 0 512),en p "I_p1" 515 (.int 0 514),en p "I_pV" 517 (.int 0 516),en p "r_prelude" 526 (.ref 237),en p "r_mark_regions" 538 (.ref 244),en p "r_postlude" 547 (.ref 251),en p "r_RV" 554 (.ref 258),en p "r_R2" 561 (.ref 265),en p "r_standard_suffix" 573 (.ref 272),en p "r_verb_suffix" 581 (.ref 279),en p "r_residual_suffix" 588 (.ref 286),en p "r_residual_form" 599 (.ref 293),en p "_stem" 615 (.ref 300),en p "a_0" 656 (.ref 310),en p "a_1" 697 (.ref 320),en p "a_2" 757 (.ref 333),en p "a_3" 800 (.ref 343),en p "a_4" 843 (.ref 353),en p "a_5" 1473 (.ref 489),en p "a_6" 3082 (.ref 850),en p "a_7" 3181 (.ref 872),en p "a_8" 3238 (.ref 885),en p "__static_attributes__" 3246 (.ref 886),en p "__doc__" 3247 .none] 2,#[]⟩
noncomputable def zu(p:Params):Obj:=⟨(.type "type"),none,.cls { name:="PortugueseStemmer",bases:=[(.ref 197)],mro:=[(.ref 888),(.ref 197),(.type "object")],ns:=887,qualname:="PortugueseStemmer",subclasses:=[] },#[some (.ref 223),none,some (.str "PortugueseStemmer" 473),some (.str "PortugueseStemmer" 481),some (.builtin "object.__new__"),some (.bool true)]⟩
def yg:Obj:=⟨(.type "dict"),none,.dict #[en p "__module__" 3257 (.str "snowballstemmer.portuguese_stemmer" 471),en p "__firstlineno__" 3261 (.int 594 3260),en p "__static_attributes__" 3262 (.ref 898),en p "__weakref__" 3264 (.ref 901),en p "__doc__" 3265 .none] 3,#[]⟩
noncomputable def y1(p:Params):Obj:=⟨(.type "type"),none,.cls { name:="lab0",bases:=[(.type "Exception")],mro:=[(.ref 900),(.type "Exception"),(.type "BaseException"),(.type "object")],ns:=899,qualname:="lab0",subclasses:=[] },#[some (.ref 891),none,some (.str "lab0" 3250),some (.str "lab0" 3258),some (.builtin "Exception.__new__"),some (.bool true)]⟩
def AT:Obj:=⟨(.type "dict"),none,.dict #[en p "__module__" 3277 (.str "snowballstemmer.portuguese_stemmer" 471),en p "__firstlineno__" 3281 (.int 596 3280),en p "__static_attributes__" 3282 (.ref 911),en p "__weakref__" 3284 (.ref 914),en p "__doc__" 3285 .none] 3,#[]⟩
noncomputable def Ak(p:Params):Obj:=⟨(.type "type"),none,.cls { name:="lab1",bases:=[(.type "Exception")],mro:=[(.ref 913),(.type "Exception"),(.type "BaseException"),(.type "object")],ns:=912,qualname:="lab1",subclasses:=[] },#[some (.ref 904),none,some (.str "lab1" 3270),some (.str "lab1" 3278),some (.builtin "Exception.__new__"),some (.bool true)]⟩
def zf:Obj:=⟨(.type "dict"),none,.dict #[en p "__module__" 3297 (.str "snowballstemmer.portuguese_stemmer" 471),en p "__firstlineno__" 3301 (.int 598 3300),en p "__static_attributes__" 3302 (.ref 924),en p "__weakref__" 3304 (.ref 927),en p "__doc__" 3305 .none] 3,#[]⟩
noncomputable def zx(p:Params):Obj:=⟨(.type "type"),none,.cls { name:="lab2",bases:=[(.type "Exception")],mro:=[(.ref 926),(.type "Exception"),(.type "BaseException"),(.type "object")],ns:=925,qualname:="lab2",subclasses:=[] },#[some (.ref 917),none,some (.str "lab2" 3290),some (.str "lab2" 3298),some (.builtin "Exception.__new__"),some (.bool true)]⟩
def Ft(p:Params):Obj:=oC "_law_vowels" 3312 "_law_vowels" 3313 3314 601 0 3 930 931 932 933 934 3315 601 3316
def EW(p:Params):Obj:=oF "_law_vowels" "_law_vowels" (tp 11) "law_ai0036_01" 3310 935
def E6(p:Params):Obj:=oC "_law_letters" 3318 "_law_letters" 3319 3320 603 0 3 937 938 939 940 941 3321 603 3322
def Fr(p:Params):Obj:=oF "_law_letters" "_law_letters" (tp 12) "law_ai0036_01" 3310 942
def E3(p:Params):Obj:=oC "_law_parts" 3324 "_law_parts" 3325 3326 605 0 3 944 945 946 947 948 3327 605 3328
def Fs(p:Params):Obj:=oF "_law_parts" "_law_parts" (tp 13) "law_ai0036_01" 3310 949
def Fv(p:Params):Obj:=oC "_law_nouns" 3330 "_law_nouns" 3331 3332 607 0 3 951 952 953 954 955 3333 607 3334
def E7(p:Params):Obj:=oF "_law_nouns" "_law_nouns" (tp 14) "law_ai0036_01" 3310 956
noncomputable def yK(p:Params):Obj:=⟨(.type "list"),none,.seq #[(.str "ada" 3336),(.str "ida" 3337),(.str "ia" 3338),(.str "aria" 3339),(.str "eria" 3340),(.str "iria" 3341),(.str "ara" 3342),(.str "era" 3343),(.str "ira" 3344),(.str "ava" 3345),(.str "asse" 3346),(.str "esse" 3347),(.str "isse" 3348),(.str "aste" 3349),(.str "este" 3350),(.str "iste" 3351),(.str "ei" 3352),(.str "arei" 3353),(.str "erei" 3354),(.str "irei" 3355),(.str "am" 3356),(.str "iam" 3357),(.str "ariam" 3358),(.str "eriam" 3359),(.str "iriam" 3360),(.str "aram" 3361),(.str "eram" 3362),(.str "iram" 3363),(.str "avam" 3364),(.str "em" 3365),(.str "arem" 3366),(.str "erem" 3367),(.str "irem" 3368),(.str "assem" 3369),(.str "essem" 3370),(.str "issem" 3371),(.str "ado" 3372),(.str "ido" 3373),(.str "ando" 3374),(.str "endo" 3375),(.str "indo" 3376),(.str "ara~o" 3377),(.str "era~o" 3378),(.str "ira~o" 3379),(.str "ar" 3380),(.str "er" 3381),(.str "ir" 3382),(.str "as" 3383),(.str "adas" 3384),(.str "idas" 3385),(.str "ias" 3386),(.str "arias" 3387),(.str "erias" 3388),(.str "irias" 3389),(.str "aras" 3390),(.str "eras" 3391),(.str "iras" 3392),(.str "avas" 3393),(.str "es" 3394),(.str "ardes" 3395),(.str "erdes" 3396),(.str "irdes" 3397),(.str "ares" 3398),(.str "eres" 3399),(.str "ires" 3400),(.str "asses" 3401),(.str "esses" 3402),(.str "isses" 3403),(.str "astes" 3404),(.str "estes" 3405),(.str "istes" 3406),(.str "is" 3407),(.str "ais" 3408),(.str "eis" 3409),(.str "areis" 3410),(.str "ereis" 3411),(.str "ireis" 3412),(.str "áreis" 3413),(.str "éreis" 3414),(.str "íreis" 3415),(.str "ásseis" 3416),(.str "ésseis" 3417),(.str "ísseis" 3418),(.str "áveis" 3419),(.str "íeis" 3420),(.str "aríeis" 3421),(.str "eríeis" 3422),(.str "iríeis" 3423),(.str "ados" 3424),(.str "idos" 3425),(.str "amos" 3426),(.str "áramos" 3427),(.str "éramos" 3428),(.str "íramos" 3429),(.str "ávamos" 3430),(.str "íamos" 3431),(.str "aríamos" 3432),(.str "eríamos" 3433),(.str "iríamos" 3434),(.str "emos" 3435),(.str "aremos" 3436),(.str "eremos" 3437),(.str "iremos" 3438),(.str "ássemos" 3439),(.str "êssemos" 3440),(.str "íssemos" 3441),(.str "imos" 3442),(.str "armos" 3443),(.str "ermos" 3444),(.str "irmos" 3445),(.str "ámos" 3446),(.str "arás" 3447),(.str "erás" 3448),(.str "irás" 3449),(.str "eu" 3450),(.str "iu" 3451),(.str "ou" 3452),(.str "ará" 3453),(.str "erá" 3454),(.str "irá" 3455)] 0,#[]⟩
noncomputable def Ao(p:Params):Obj:=⟨(.type "list"),none,.seq #[(.str "a" 3457),(.str "i" 3458),(.str "o" 3459),(.str "os" 3460),(.str "á" 3461),(.str "í" 3462),(.str "ó" 3463)] 0,#[]⟩
noncomputable def BO(p:Params):Obj:=⟨(.type "list"),none,.seq #[(.str "e" 3465),(.str "ç" 3466),(.str "é" 3467),(.str "ê" 3468)] 0,#[]⟩
noncomputable def Fo(p:Params):Obj:=⟨(.type "code"),none,.fields #[(.str "_law_ends" 3470),(.str "_law_ends" 3471),(.str "/claim/cut.py" 3472),(.int 612 0),(.int 0 0),(.int 0 0),(.int 0 0),(.int 3 0),(.ref 961),(.bool true),(.int 181 0),(.ref 962),.none,.none,.none,(.ref 963),(.int 3473 0),(.int 612 0),(.str "/claim/cut.py" 3474)],#[]⟩
def Fi(p:Params):Obj:=oF "_law_ends" "_law_ends" (tp 18) "law_ai0036_01" 3310 964
def Fq(p:Params):Obj:=oC "_law_word" 3476 "_law_word" 3477 3478 615 2 3 966 967 968 969 970 3485 615 3486
def EF(p:Params):Obj:=oF "_law_word" "_law_word" (tp 19) "law_ai0036_01" 3310 971
def Fb(p:Params):Obj:=oC "_law_end" 3488 "_law_end" 3489 3490 627 3 3 973 974 975 976 977 3496 627 3497
def EN(p:Params):Obj:=oF "_law_end" "_law_end" (tp 20) "law_ai0036_01" 3310 978
def EJ(p:Params):Obj:=oC "_law_cut" 3499 "_law_cut" 3500 3501 633 2 3 980 981 982 983 984 3504 633 3505
def Fe(p:Params):Obj:=oF "_law_cut" "_law_cut" (tp 21) "law_ai0036_01" 3310 985
def Fd(p:Params):Obj:=oC "_law_less" 3507 "_law_less" 3508 3509 635 3 3 987 988 989 990 991 3514 635 3515
def Fp(p:Params):Obj:=oF "_law_less" "_law_less" (tp 22) "law_ai0036_01" 3310 992
def E9(p:Params):Obj:=oC "_law_behind" 3517 "_law_behind" 3518 3519 638 2 3 994 995 996 997 998 3522 638 3523
def zD(p:Params):Obj:=oF "_law_behind" "_law_behind" (tp 23) "law_ai0036_01" 3310 999
def Bi(p:Params):Obj:=oC "_law_first" 3525 "_law_first" 3526 3527 644 1 3 1001 1002 1003 1004 1005 3530 644 3531
def zo(p:Params):Obj:=oF "_law_first" "_law_first" (tp 24) "law_ai0036_01" 3310 1006
def yj(p:Params):Obj:=oC "_law_noun" 3533 "_law_noun" 3534 3535 657 4 3 1008 1009 1010 1011 1012 3545 657 3546
def yT(p:Params):Obj:=oF "_law_noun" "_law_noun" (tp 25) "law_ai0036_01" 3310 1013
def Bt(p:Params):Obj:=oC "_law_formed" 3548 "_law_formed" 3549 3550 684 2 3 1015 1016 1017 1018 1019 3553 684 3554
def zv(p:Params):Obj:=oF "_law_formed" "_law_formed" (tp 26) "law_ai0036_01" 3310 1020
def yW(p:Params):Obj:=oC "_law_stem" 3556 "_law_stem" 3557 3558 693 1 3 1022 1023 1024 1025 1026 3565 693 3566
def BS(p:Params):Obj:=oF "_law_stem" "_law_stem" (tp 27) "law_ai0036_01" 3310 1027
noncomputable def Ap(p:Params):Obj:=⟨(.type "code"),none,.fields #[(.str "law" 3568),(.str "law" 3569),(.str "/claim/cut.py" 3570),(.int 709 0),(.int 1 0),(.int 0 0),(.int 0 0),(.int 3 0),(.ref 1029),(.bool true),(.int 181 0),(.ref 1030),.none,.none,.none,(.ref 1031),(.int 3571 0),(.int 709 0),(.str "/claim/cut.py" 3572)],#[]⟩
def rL(p:Params):Obj:=oF "law" "law" (tp 28) "law_ai0036_01" 3310 1032
noncomputable def aE(d:Addr)(s:Str)(i r:Int)(a b c e f g:Tok):aF:=⟨d,s,i,r,a,b,c,e,f,g⟩
def H.am0:aF:=aE 301 "" (-1) 3 616 618 619 625 627 629
def H.am1:aF:=aE 304 "ã" 0 1 630 631 632 638 640 642
def H.am2:aF:=aE 307 "õ" 0 2 643 644 645 651 653 655
def H.am3:aF:=aE 311 "" (-1) 3 657 659 660 666 668 670
def H.am4:aF:=aE 314 "a~" 0 1 671 672 673 679 681 683
def H.am5:aF:=aE 317 "o~" 0 2 684 685 686 692 694 696
def H.am6:aF:=aE 321 "ic" (-1) (-1) 698 700 702 708 710 712
def H.am7:aF:=aE 324 "ad" (-1) (-1) 713 715 717 723 725 727
def H.am8:aF:=aE 327 "os" (-1) (-1) 728 730 732 738 740 742
def H.am9:aF:=aE 330 "iv" (-1) 1 743 745 746 752 754 756
def H.am10:aF:=aE 334 "ante" (-1) 1 758 760 761 767 769 771
def H.am11:aF:=aE 337 "avel" (-1) 1 772 774 775 781 783 785
def H.am12:aF:=aE 340 "ível" (-1) 1 786 788 789 795 797 799
def H.am13:aF:=aE 344 "ic" (-1) 1 801 803 804 810 812 814
def H.am14:aF:=aE 347 "abil" (-1) 1 815 817 818 824 826 828
def H.am15:aF:=aE 350 "iv" (-1) 1 829 831 832 838 840 842
def H.am16:aF:=aE 354 "ica" (-1) 1 844 846 847 853 855 857
def H.am17:aF:=aE 357 "ância" (-1) 1 858 860 861 867 869 871
def H.am18:aF:=aE 360 "ência" (-1) 4 872 874 875 881 883 885
def H.am19:aF:=aE 363 "logia" (-1) 2 886 888 889 895 897 899
def H.am20:aF:=aE 366 "ira" (-1) 9 900 902 903 909 911 913
def H.am21:aF:=aE 369 "adora" (-1) 1 914 916 917 923 925 927
def H.am22:aF:=aE 372 "osa" (-1) 1 928 930 931 937 939 941
def H.am23:aF:=aE 375 "ista" (-1) 1 942 944 945 951 953 955
def H.am24:aF:=aE 378 "iva" (-1) 8 956 958 959 965 967 969
def H.am25:aF:=aE 381 "eza" (-1) 1 970 972 973 979 981 983
def H.am26:aF:=aE 384 "idade" (-1) 7 984 986 987 993 995 997
def H.am27:aF:=aE 387 "ante" (-1) 1 998 1000 1001 1007 1009 1011
def H.am28:aF:=aE 390 "mente" (-1) 6 1012 1014 1015 1021 1023 1025
def H.am29:aF:=aE 393 "amente" 12 5 1026 1027 1028 1034 1036 1038
def H.am30:aF:=aE 396 "ável" (-1) 1 1039 1041 1042 1048 1050 1052
def H.am31:aF:=aE 399 "ível" (-1) 1 1053 1055 1056 1062 1064 1066
def H.am32:aF:=aE 402 "ico" (-1) 1 1067 1069 1070 1076 1078 1080
def H.am33:aF:=aE 405 "ismo" (-1) 1 1081 1083 1084 1090 1092 1094
def H.am34:aF:=aE 408 "oso" (-1) 1 1095 1097 1098 1104 1106 1108
def H.am35:aF:=aE 411 "amento" (-1) 1 1109 1111 1112 1118 1120 1122
def H.am36:aF:=aE 414 "imento" (-1) 1 1123 1125 1126 1132 1134 1136
def H.am37:aF:=aE 417 "ivo" (-1) 8 1137 1139 1140 1146 1148 1150
def H.am38:aF:=aE 420 "aça~o" (-1) 1 1151 1153 1154 1160 1162 1164
def H.am39:aF:=aE 423 "uça~o" (-1) 3 1165 1167 1168 1174 1176 1178
def H.am40:aF:=aE 426 "ador" (-1) 1 1179 1181 1182 1188 1190 1192
def H.am41:aF:=aE 429 "icas" (-1) 1 1193 1195 1196 1202 1204 1206
def H.am42:aF:=aE 432 "ências" (-1) 4 1207 1209 1210 1216 1218 1220
def H.am43:aF:=aE 435 "logias" (-1) 2 1221 1223 1224 1230 1232 1234
def H.am44:aF:=aE 438 "iras" (-1) 9 1235 1237 1238 1244 1246 1248
def H.am45:aF:=aE 441 "adoras" (-1) 1 1249 1251 1252 1258 1260 1262
def H.am46:aF:=aE 444 "osas" (-1) 1 1263 1265 1266 1272 1274 1276
def H.am47:aF:=aE 447 "istas" (-1) 1 1277 1279 1280 1286 1288 1290
def H.am48:aF:=aE 450 "ivas" (-1) 8 1291 1293 1294 1300 1302 1304
def H.am49:aF:=aE 453 "ezas" (-1) 1 1305 1307 1308 1314 1316 1318
def H.am50:aF:=aE 456 "idades" (-1) 7 1319 1321 1322 1328 1330 1332
def H.am51:aF:=aE 459 "adores" (-1) 1 1333 1335 1336 1342 1344 1346
def H.am52:aF:=aE 462 "antes" (-1) 1 1347 1349 1350 1356 1358 1360
def H.am53:aF:=aE 465 "aço~es" (-1) 1 1361 1363 1364 1370 1372 1374
def H.am54:aF:=aE 468 "uço~es" (-1) 3 1375 1377 1378 1384 1386 1388
def H.am55:aF:=aE 471 "icos" (-1) 1 1389 1391 1392 1398 1400 1402
def H.am56:aF:=aE 474 "ismos" (-1) 1 1403 1405 1406 1412 1414 1416
def H.am57:aF:=aE 477 "osos" (-1) 1 1417 1419 1420 1426 1428 1430
def H.am58:aF:=aE 480 "amentos" (-1) 1 1431 1433 1434 1440 1442 1444
def H.am59:aF:=aE 483 "imentos" (-1) 1 1445 1447 1448 1454 1456 1458
def H.am60:aF:=aE 486 "ivos" (-1) 8 1459 1461 1462 1468 1470 1472
def H.am61:aF:=aE 490 "ada" (-1) 1 1474 1476 1477 1483 1485 1487
def H.am62:aF:=aE 493 "ida" (-1) 1 1488 1490 1491 1497 1499 1501
def H.am63:aF:=aE 496 "ia" (-1) 1 1502 1504 1505 1511 1513 1515
def H.am64:aF:=aE 499 "aria" 2 1 1516 1517 1518 1524 1526 1528
def H.am65:aF:=aE 502 "eria" 2 1 1529 1530 1531 1537 1539 1541
def H.am66:aF:=aE 505 "iria" 2 1 1542 1543 1544 1550 1552 1554
def H.am67:aF:=aE 508 "ara" (-1) 1 1555 1557 1558 1564 1566 1568
def H.am68:aF:=aE 511 "era" (-1) 1 1569 1571 1572 1578 1580 1582
def H.am69:aF:=aE 514 "ira" (-1) 1 1583 1585 1586 1592 1594 1596
def H.am70:aF:=aE 517 "ava" (-1) 1 1597 1599 1600 1606 1608 1610
def H.am71:aF:=aE 520 "asse" (-1) 1 1611 1613 1614 1620 1622 1624
def H.am72:aF:=aE 523 "esse" (-1) 1 1625 1627 1628 1634 1636 1638
def H.am73:aF:=aE 526 "isse" (-1) 1 1639 1641 1642 1648 1650 1652
def H.am74:aF:=aE 529 "aste" (-1) 1 1653 1655 1656 1662 1664 1666
def H.am75:aF:=aE 532 "este" (-1) 1 1667 1669 1670 1676 1678 1680
def H.am76:aF:=aE 535 "iste" (-1) 1 1681 1683 1684 1690 1692 1694
def H.am77:aF:=aE 538 "ei" (-1) 1 1695 1697 1698 1704 1706 1708
def H.am78:aF:=aE 541 "arei" 16 1 1709 1710 1711 1717 1719 1721
def H.am79:aF:=aE 544 "erei" 16 1 1722 1723 1724 1730 1732 1734
def H.am80:aF:=aE 547 "irei" 16 1 1735 1736 1737 1743 1745 1747
def H.am81:aF:=aE 550 "am" (-1) 1 1748 1750 1751 1757 1759 1761
def H.am82:aF:=aE 553 "iam" 20 1 1762 1763 1764 1770 1772 1774
def H.am83:aF:=aE 556 "ariam" 21 1 1775 1776 1777 1783 1785 1787
def H.am84:aF:=aE 559 "eriam" 21 1 1788 1789 1790 1796 1798 1800
def H.am85:aF:=aE 562 "iriam" 21 1 1801 1802 1803 1809 1811 1813
def H.am86:aF:=aE 565 "aram" 20 1 1814 1815 1816 1822 1824 1826
def H.am87:aF:=aE 568 "eram" 20 1 1827 1828 1829 1835 1837 1839
def H.am88:aF:=aE 571 "iram" 20 1 1840 1841 1842 1848 1850 1852
def H.am89:aF:=aE 574 "avam" 20 1 1853 1854 1855 1861 1863 1865
def H.am90:aF:=aE 577 "em" (-1) 1 1866 1868 1869 1875 1877 1879
def H.am91:aF:=aE 580 "arem" 29 1 1880 1881 1882 1888 1890 1892
def H.am92:aF:=aE 583 "erem" 29 1 1893 1894 1895 1901 1903 1905
def H.am93:aF:=aE 586 "irem" 29 1 1906 1907 1908 1914 1916 1918
def H.am94:aF:=aE 589 "assem" 29 1 1919 1920 1921 1927 1929 1931
def H.am95:aF:=aE 592 "essem" 29 1 1932 1933 1934 1940 1942 1944
def H.am96:aF:=aE 595 "issem" 29 1 1945 1946 1947 1953 1955 1957
def H.am97:aF:=aE 598 "ado" (-1) 1 1958 1960 1961 1967 1969 1971
def H.am98:aF:=aE 601 "ido" (-1) 1 1972 1974 1975 1981 1983 1985
def H.am99:aF:=aE 604 "ando" (-1) 1 1986 1988 1989 1995 1997 1999
def H.am100:aF:=aE 607 "endo" (-1) 1 2000 2002 2003 2009 2011 2013
def H.am101:aF:=aE 610 "indo" (-1) 1 2014 2016 2017 2023 2025 2027
def H.am102:aF:=aE 613 "ara~o" (-1) 1 2028 2030 2031 2037 2039 2041
def H.am103:aF:=aE 616 "era~o" (-1) 1 2042 2044 2045 2051 2053 2055
def H.am104:aF:=aE 619 "ira~o" (-1) 1 2056 2058 2059 2065 2067 2069
def H.am105:aF:=aE 622 "ar" (-1) 1 2070 2072 2073 2079 2081 2083
def H.am106:aF:=aE 625 "er" (-1) 1 2084 2086 2087 2093 2095 2097
def H.am107:aF:=aE 628 "ir" (-1) 1 2098 2100 2101 2107 2109 2111
def H.am108:aF:=aE 631 "as" (-1) 1 2112 2114 2115 2121 2123 2125
def H.am109:aF:=aE 634 "adas" 47 1 2126 2127 2128 2134 2136 2138
def H.am110:aF:=aE 637 "idas" 47 1 2139 2140 2141 2147 2149 2151
def H.am111:aF:=aE 640 "ias" 47 1 2152 2153 2154 2160 2162 2164
def H.am112:aF:=aE 643 "arias" 50 1 2165 2166 2167 2173 2175 2177
def H.am113:aF:=aE 646 "erias" 50 1 2178 2179 2180 2186 2188 2190
def H.am114:aF:=aE 649 "irias" 50 1 2191 2192 2193 2199 2201 2203
def H.am115:aF:=aE 652 "aras" 47 1 2204 2205 2206 2212 2214 2216
def H.am116:aF:=aE 655 "eras" 47 1 2217 2218 2219 2225 2227 2229
def H.am117:aF:=aE 658 "iras" 47 1 2230 2231 2232 2238 2240 2242
def H.am118:aF:=aE 661 "avas" 47 1 2243 2244 2245 2251 2253 2255
def H.am119:aF:=aE 664 "es" (-1) 1 2256 2258 2259 2265 2267 2269
def H.am120:aF:=aE 667 "ardes" 58 1 2270 2271 2272 2278 2280 2282
def H.am121:aF:=aE 670 "erdes" 58 1 2283 2284 2285 2291 2293 2295
def H.am122:aF:=aE 673 "irdes" 58 1 2296 2297 2298 2304 2306 2308
def H.am123:aF:=aE 676 "ares" 58 1 2309 2310 2311 2317 2319 2321
def H.am124:aF:=aE 679 "eres" 58 1 2322 2323 2324 2330 2332 2334
def H.am125:aF:=aE 682 "ires" 58 1 2335 2336 2337 2343 2345 2347
def H.am126:aF:=aE 685 "asses" 58 1 2348 2349 2350 2356 2358 2360
def H.am127:aF:=aE 688 "esses" 58 1 2361 2362 2363 2369 2371 2373
def H.am128:aF:=aE 691 "isses" 58 1 2374 2375 2376 2382 2384 2386
def H.am129:aF:=aE 694 "astes" 58 1 2387 2388 2389 2395 2397 2399
def H.am130:aF:=aE 697 "estes" 58 1 2400 2401 2402 2408 2410 2412
def H.am131:aF:=aE 700 "istes" 58 1 2413 2414 2415 2421 2423 2425
def H.am132:aF:=aE 703 "is" (-1) 1 2426 2428 2429 2435 2437 2439
def H.am133:aF:=aE 706 "ais" 71 1 2440 2441 2442 2448 2450 2452
def H.am134:aF:=aE 709 "eis" 71 1 2453 2454 2455 2461 2463 2465
def H.am135:aF:=aE 712 "areis" 73 1 2466 2467 2468 2474 2476 2478
def H.am136:aF:=aE 715 "ereis" 73 1 2479 2480 2481 2487 2489 2491
def H.am137:aF:=aE 718 "ireis" 73 1 2492 2493 2494 2500 2502 2504
def H.am138:aF:=aE 721 "áreis" 73 1 2505 2506 2507 2513 2515 2517
def H.am139:aF:=aE 724 "éreis" 73 1 2518 2519 2520 2526 2528 2530
def H.am140:aF:=aE 727 "íreis" 73 1 2531 2532 2533 2539 2541 2543
def H.am141:aF:=aE 730 "ásseis" 73 1 2544 2545 2546 2552 2554 2556
def H.am142:aF:=aE 733 "ésseis" 73 1 2557 2558 2559 2565 2567 2569
def H.am143:aF:=aE 736 "ísseis" 73 1 2570 2571 2572 2578 2580 2582
def H.am144:aF:=aE 739 "áveis" 73 1 2583 2584 2585 2591 2593 2595
def H.am145:aF:=aE 742 "íeis" 73 1 2596 2597 2598 2604 2606 2608
def H.am146:aF:=aE 745 "aríeis" 84 1 2609 2610 2611 2617 2619 2621
def H.am147:aF:=aE 748 "eríeis" 84 1 2622 2623 2624 2630 2632 2634
def H.am148:aF:=aE 751 "iríeis" 84 1 2635 2636 2637 2643 2645 2647
def H.am149:aF:=aE 754 "ados" (-1) 1 2648 2650 2651 2657 2659 2661
def H.am150:aF:=aE 757 "idos" (-1) 1 2662 2664 2665 2671 2673 2675
def H.am151:aF:=aE 760 "amos" (-1) 1 2676 2678 2679 2685 2687 2689
def H.am152:aF:=aE 763 "áramos" 90 1 2690 2691 2692 2698 2700 2702
def H.am153:aF:=aE 766 "éramos" 90 1 2703 2704 2705 2711 2713 2715
def H.am154:aF:=aE 769 "íramos" 90 1 2716 2717 2718 2724 2726 2728
def H.am155:aF:=aE 772 "ávamos" 90 1 2729 2730 2731 2737 2739 2741
def H.am156:aF:=aE 775 "íamos" 90 1 2742 2743 2744 2750 2752 2754
def H.am157:aF:=aE 778 "aríamos" 95 1 2755 2756 2757 2763 2765 2767
def H.am158:aF:=aE 781 "eríamos" 95 1 2768 2769 2770 2776 2778 2780
def H.am159:aF:=aE 784 "iríamos" 95 1 2781 2782 2783 2789 2791 2793
def H.am160:aF:=aE 787 "emos" (-1) 1 2794 2796 2797 2803 2805 2807
def H.am161:aF:=aE 790 "aremos" 99 1 2808 2809 2810 2816 2818 2820
def H.am162:aF:=aE 793 "eremos" 99 1 2821 2822 2823 2829 2831 2833
def H.am163:aF:=aE 796 "iremos" 99 1 2834 2835 2836 2842 2844 2846
def H.am164:aF:=aE 799 "ássemos" 99 1 2847 2848 2849 2855 2857 2859
def H.am165:aF:=aE 802 "êssemos" 99 1 2860 2861 2862 2868 2870 2872
def H.am166:aF:=aE 805 "íssemos" 99 1 2873 2874 2875 2881 2883 2885
def H.am167:aF:=aE 808 "imos" (-1) 1 2886 2888 2889 2895 2897 2899
def H.am168:aF:=aE 811 "armos" (-1) 1 2900 2902 2903 2909 2911 2913
def H.am169:aF:=aE 814 "ermos" (-1) 1 2914 2916 2917 2923 2925 2927
def H.am170:aF:=aE 817 "irmos" (-1) 1 2928 2930 2931 2937 2939 2941
def H.am171:aF:=aE 820 "ámos" (-1) 1 2942 2944 2945 2951 2953 2955
def H.am172:aF:=aE 823 "arás" (-1) 1 2956 2958 2959 2965 2967 2969
def H.am173:aF:=aE 826 "erás" (-1) 1 2970 2972 2973 2979 2981 2983
def H.am174:aF:=aE 829 "irás" (-1) 1 2984 2986 2987 2993 2995 2997
def H.am175:aF:=aE 832 "eu" (-1) 1 2998 3000 3001 3007 3009 3011
def H.am176:aF:=aE 835 "iu" (-1) 1 3012 3014 3015 3021 3023 3025
def H.am177:aF:=aE 838 "ou" (-1) 1 3026 3028 3029 3035 3037 3039
def H.am178:aF:=aE 841 "ará" (-1) 1 3040 3042 3043 3049 3051 3053
def H.am179:aF:=aE 844 "erá" (-1) 1 3054 3056 3057 3063 3065 3067
def H.am180:aF:=aE 847 "irá" (-1) 1 3068 3070 3071 3077 3079 3081
def H.am181:aF:=aE 851 "a" (-1) 1 3083 3085 3086 3092 3094 3096
def H.am182:aF:=aE 854 "i" (-1) 1 3097 3099 3100 3106 3108 3110
def H.am183:aF:=aE 857 "o" (-1) 1 3111 3113 3114 3120 3122 3124
def H.am184:aF:=aE 860 "os" (-1) 1 3125 3127 3128 3134 3136 3138
def H.am185:aF:=aE 863 "á" (-1) 1 3139 3141 3142 3148 3150 3152
def H.am186:aF:=aE 866 "í" (-1) 1 3153 3155 3156 3162 3164 3166
def H.am187:aF:=aE 869 "ó" (-1) 1 3167 3169 3170 3176 3178 3180
def H.am188:aF:=aE 873 "e" (-1) 1 3182 3184 3185 3191 3193 3195
def H.am189:aF:=aE 876 "ç" (-1) 2 3196 3198 3199 3205 3207 3209
def H.am190:aF:=aE 879 "é" (-1) 1 3210 3212 3213 3219 3221 3223
def H.am191:aF:=aE 882 "ê" (-1) 1 3224 3226 3227 3233 3235 3237
def amongs:List aF:=[H.am0,H.am1,H.am2,H.am3,H.am4,H.am5,H.am6,H.am7,H.am8,H.am9,H.am10,H.am11,H.am12,H.am13,H.am14,H.am15,H.am16,H.am17,H.am18,H.am19,H.am20,H.am21,H.am22,H.am23,H.am24,H.am25,H.am26,H.am27,H.am28,H.am29,H.am30,H.am31,H.am32,H.am33,H.am34,H.am35,H.am36,H.am37,H.am38,H.am39,H.am40,H.am41,H.am42,H.am43,H.am44,H.am45,H.am46,H.am47,H.am48,H.am49,H.am50,H.am51,H.am52,H.am53,H.am54,H.am55,H.am56,H.am57,H.am58,H.am59,H.am60,H.am61,H.am62,H.am63,H.am64,H.am65,H.am66,H.am67,H.am68,H.am69,H.am70,H.am71,H.am72,H.am73,H.am74,H.am75,H.am76,H.am77,H.am78,H.am79,H.am80,H.am81,H.am82,H.am83,H.am84,H.am85,H.am86,H.am87,H.am88,H.am89,H.am90,H.am91,H.am92,H.am93,H.am94,H.am95,H.am96,H.am97,H.am98,H.am99,H.am100,H.am101,H.am102,H.am103,H.am104,H.am105,H.am106,H.am107,H.am108,H.am109,H.am110,H.am111,H.am112,H.am113,H.am114,H.am115,H.am116,H.am117,H.am118,H.am119,H.am120,H.am121,H.am122,H.am123,H.am124,H.am125,H.am126,H.am127,H.am128,H.am129,H.am130,H.am131,H.am132,H.am133,H.am134,H.am135,H.am136,H.am137,H.am138,H.am139,H.am140,H.am141,H.am142,H.am143,H.am144,H.am145,H.am146,H.am147,H.am148,H.am149,H.am150,H.am151,H.am152,H.am153,H.am154,H.am155,H.am156,H.am157,H.am158,H.am159,H.am160,H.am161,H.am162,H.am163,H.am164,H.am165,H.am166,H.am167,H.am168,H.am169,H.am170,H.am171,H.am172,H.am173,H.am174,H.am175,H.am176,H.am177,H.am178,H.am179,H.am180,H.am181,H.am182,H.am183,H.am184,H.am185,H.am186,H.am187,H.am188,H.am189,H.am190,H.am191]
noncomputable def OE(p:Params):Frag:=[(888,zu p),(197,ER p),(887,Fg p),(196,iP p),(218,gU p),(217,g5 p),(900,y1 p),(913,Ak p),(926,zx p),(899,yg p),(912,AT p),(925,zf p),(3,Pq p),(2,Pc p),(4,qY p),(5,ry p),(6,sd p),(20,nh p),(21,nl p),(34,mU p),(35,ng p),(41,lU p),(42,m6 p),(48,m7 p),(49,md p),(55,nk p),(56,nc p),(62,mW p),(63,oG p),(69,oz p),(70,nq p),(76,pg p),(77,pE p),(83,m8 p),(84,m9 p),(90,nr p),(91,nb p),(97,jq p),(98,pv p),(104,gV p),(105,fK p),(111,gw p),(112,gs p),(118,gT p),(119,gP p),(125,gJ p),(126,g9 p),(132,g6 p),(133,iV p),(139,jd p),(140,iM p),(146,jf p),(147,gK p),(153,gX p),(154,iZ p),(160,ja p),(161,iO p),(167,kc p),(168,iU p),(174,gH p),(175,jb p),(181,iL p),(182,kh p),(188,iN p),(189,kK p),(193,gW p),(194,iR p),(214,gR p),(215,ky p),(236,jX p),(237,jc p),(243,je p),(244,kF p),(250,mj p),(251,jN p),(257,me p),(258,mM p),(264,mu p),(265,mh p),(271,mq p),(272,mL p),(278,mF p),(279,oh p),(285,ot p),(286,my p),(292,ph p),(293,pz p),(299,mr p),(300,qD p),(310,pf p),(320,mf p),(333,mS p),(343,pd p),(353,oE p),(489,qE p),(850,AX p),(872,EM p),(885,E5 p),(935,Ft p),(936,EW p),(942,E6 p),(943,Fr p),(949,E3 p),(950,Fs p),(956,Fv p),(957,E7 p),(958,yK p),(959,Ao p),(960,BO p),(964,Fo p),(965,Fi p),(971,Fq p),(972,EF p),(978,Fb p),(979,EN p),(985,EJ p),(986,Fe p),(992,Fd p),(993,Fp p),(999,E9 p),(1000,zD p),(1006,Bi p),(1007,zo p),(1013,yj p),(1014,yT p),(1020,Bt p),(1021,zv p),(1027,yW p),(1028,BS p),(1032,Ap p),(1033,rL p),(0,boot_o_0 p)]
noncomputable def TT(p:Params):Frag:=amongs.flatMap fun e=>[(e.d+1,aY e.d),(e.d,aR p e)]
noncomputable def K(p:Params):Frag:=OE p++TT p
end
end
end Mine.Internal
end
noncomputable section
open PySem PySem.W PyProof.Rows PySem.Calls
set_option maxHeartbeats 2000000
namespace Mine.Internal
section
set_option tactic.hygienic false
section
inductive V where
 | none
 | bool (b:Bool)
 | int (i:Int)
 | str (s:List Nat)
 | list (xs:List V)
 | dict (kv:List (List Nat×V))
 | amg (s:List Nat) (i r:Int)
 | self
 | gv
 | addr (a:Addr)
 | bi (id:String)
 | ty (n:String)
noncomputable abbrev zV:=@Internal.V.casesOn.{0}
structure Cx where
 w:World
 hB:Heap
 x:Addr
 dx:Addr
noncomputable abbrev Cx.M(c:Cx):Model:=model prog c.w
mutual
inductive bq(c:Cx)(h:Heap):Value→V→Prop
 | none:bq c h .none .none
 | bool (b:Bool):bq c h (.bool b) (.bool b)
 | int (i:Int) (t:Tok):bq c h (.int i t) (.int i)
 | str (l:List Nat) (t:Tok) (hl:l.length≤1048576):bq c h (.str ⟨l.toArray⟩ t) (.str l)
 | list {a:Addr} {o:Obj} {vs:List Value} {n:Nat} {xs:List V} (ho:h.get? a=some o) (hc:o.cls=.type "list") (hd:o.data=.seq vs.toArray n) (hn:a≠c.dx) (hb:xs.length≤1048576) (hr:RepL c h vs xs):bq c h (.ref a) (.list xs)
 | dict {a:Addr} {o:Obj} {kvs:List (Str×Value)} {kv:List (List Nat×V)} (ho:h.get? a=some o) (hd:o.IsDictOf (PySem.strKind prog c.w) kvs) (hn:a≠c.dx) (hl:(a==sysModules)=false) (hr:RepE c h kvs kv):bq c h (.ref a) (.dict kv)
 | amg (e:aF) (he:e∈amongs):bq c h (.ref (e.d+1)) (.amg e.s.cps.toList e.i e.r)
 | self:bq c h (.ref c.x) .self
 | gv:bq c h (.ref 230) .gv
 | addr (a:Addr):bq c h (.ref a) (.addr a)
 | bi (id:String) (hh:handedIn (.builtin id)=true):bq c h (.builtin id) (.bi id)
 | ty (n:String):bq c h (.type n) (.ty n)
inductive RepL(c:Cx)(h:Heap):List Value→List V→Prop
 | nil:RepL c h [] []
 | cons {v:Value} {x:V} {vs:List Value} {xs:List V} (hv:bq c h v x) (hr:RepL c h vs xs):RepL c h (v :: vs) (x :: xs)
inductive RepE(c:Cx)(h:Heap):List (Str×Value)→List (List Nat×V)→Prop
 | nil:RepE c h [] []
 | cons {k:List Nat} {v:Value} {x:V} {es:List (Str×Value)} {kv:List (List Nat×V)} (hv:bq c h v x) (hr:RepE c h es kv):RepE c h ((⟨k.toArray⟩,v) :: es) ((k,x) :: kv)
end
def dA(D:Addr→Prop)(h h':Heap):Prop:=
 ∀ b o,h.get? b=some o→¬ D b→(o.cls≠.type "frame" → h'.get? b=some o)∧(o.cls=.type "frame" → ∃ sl,h'.get? b=some { o with slots:=sl })
theorem dA.refl{D:Addr→Prop}{h:Heap}:dA D h h:=fun b o e _=>⟨fun _=>e,fun _=>⟨o.slots,e⟩⟩
theorem dA.trans{D:Addr→Prop}{h₁ h₂ h₃:Heap}(x:dA D h₁ h₂)(y:dA D h₂ h₃):dA D h₁ h₃:=fun b o e n=>by
 refine⟨fun q=>((y b o (((x b o e n).1) q) n).1) q,fun q=>?_⟩;obtain⟨sl,e₁⟩:=(x b o e n).2 q;obtain⟨sl',e₂⟩:=(y b _ e₁ n).2 q;exact⟨sl',e₂⟩
theorem dA.mono{D D':Addr→Prop}{h h':Heap}(x:dA D h h')(q:∀ b o,h.get? b=some o→D b→D' b):dA D' h h':=fun b o e n=>x b o e (fun d=>n (q b o e d))
theorem dA.of_keeps{D:Addr→Prop}{h h':Heap}(k:∀ b o,h.get? b=some o→h'.get? b=some o):dA D h h':=fun b o e _=>⟨fun _=>k b o e,fun _=>⟨o.slots,k b o e⟩⟩
theorem dA.of_but{D:Addr→Prop}{h h':Heap}{a:Addr}(k:Heap.SameBut a h h')(d:D a):dA D h h':=fun b o e n=>by
 have q:h'.get? b=some o:=(k.2 b (fun z=>n (z ▸ d))).trans e;exact⟨fun _=>q,fun _=>⟨o.slots,q⟩⟩
abbrev only(a:Addr):Addr→Prop:=fun b=>b=a
abbrev two(a L:Addr):Addr→Prop:=fun b=>b=a∨b=L
theorem dA.wide{a L:Addr}{h h':Heap}(x:dA (only a) h h'):dA (two a L) h h':=x.mono fun _ _ _ q=>.inl q
theorem Obj.IsDictOf.isDict{c:Cx}{o:Obj}{kvs:List (Str×Value)}(h:o.IsDictOf (PySem.strKind prog c.w) kvs):o.cls=.type "dict":=by
 refine ed (h) fun es ep zz=>And.elim (fun hx _=>?_) zz
 exact hx.1
theorem Obj.IsDictOf.noF{c:Cx}{o:Obj}{kvs:List (Str×Value)}(h:o.IsDictOf (PySem.strKind prog c.w) kvs):∀ vs,o.data≠.fields vs:=by
 refine ed (h) fun es ep zz=>ee zz fun _ hd _=>?_
 rw[hd];intro _ q;cases q
def dT(c:Cx)(h h':Heap):Prop:=∀ b o,h.get? b=some o→b≠c.dx→o.cls≠.type "frame" → (∀ vs,o.data≠.fields vs)→h'.get? b=some o
section
variable {c:Cx}{h h':Heap}
theorem bq.hold(x:dT c h h'){v:Value}{y:V}(r:bq c h v y):bq c h' v y:=
 bq.rec (motive_1:=fun v y _=>bq c h' v y) (motive_2:=fun v y _=>RepL c h' v y) (motive_3:=fun v y _=>RepE c h' v y)
  .none .bool .int .str (fun ho hc hd hn hb _ i=>.list (x _ _ ho hn (by rw[hc];decide) (by rw[hd];intro _ q;cases q)) hc hd hn hb i)
  (fun ho hd hn hl _ i=>.dict (x _ _ ho hn (by rw[Internal.Obj.IsDictOf.isDict hd];decide) (Internal.Obj.IsDictOf.noF hd)) hd hn hl i)
  .amg .self .gv .addr .bi .ty .nil (fun _ _ a b=>.cons a b) .nil (fun _ _ a b=>.cons a b) r
theorem RepL.hold(x:dT c h h'){v:List Value}:∀ {y:List V},RepL c h v y→RepL c h' v y:=
 fun r=>RepL.rec (motive_1:=fun _ _ _=>True) (motive_2:=fun v y _=>RepL c h' v y) (motive_3:=fun _ _ _=>True)
  trivial (fun _=>trivial) (fun _ _=>trivial) (fun _ _ _=>trivial) (fun _ _ _ _ _ _ _=>trivial) (fun _ _ _ _ _ _=>trivial) (fun _ _=>trivial) trivial trivial (fun _=>trivial) (fun _ _=>trivial) (fun _=>trivial)
  .nil (fun a _ _ b=>.cons (a.hold x) b) trivial (fun _ _ _ _=>trivial) r
theorem RepE.hold(x:dT c h h'){v:List (Str×Value)}:∀ {y:List (List Nat×V)},RepE c h v y→RepE c h' v y:=
 fun r=>RepE.rec (motive_1:=fun _ _ _=>True) (motive_2:=fun _ _ _=>True) (motive_3:=fun v y _=>RepE c h' v y)
  trivial (fun _=>trivial) (fun _ _=>trivial) (fun _ _ _=>trivial) (fun _ _ _ _ _ _ _=>trivial) (fun _ _ _ _ _ _=>trivial) (fun _ _=>trivial) trivial trivial (fun _=>trivial) (fun _ _=>trivial) (fun _=>trivial)
  trivial (fun _ _ _ _=>trivial) .nil (fun a _ _ b=>.cons (a.hold x) b) r
theorem dA.hold(x:dA (only c.dx) h h'):dT c h h':=fun b o e n q _=>(x b o e n).1 q
theorem bq.ext(x:dA (only c.dx) h h'){v:Value}{y:V}(r:bq c h v y):bq c h' v y:=r.hold x.hold
theorem RepL.ext(x:dA (only c.dx) h h'){v:List Value}{y:List V}(r:RepL c h v y):RepL c h' v y:=r.hold x.hold
theorem RepE.ext(x:dA (only c.dx) h h'){v:List (Str×Value)}{y:List (List Nat×V)}(r:RepE c h v y):RepE c h' v y:=r.hold x.hold
end
noncomputable def look(l:List (Str×V))(n:Str):Option V:=match l with
 | []=>none
 | p :: r=>if p.1=n then some p.2 else look r n
noncomputable def put(l:List (Str×V))(n:Str)(v:V):List (Str×V):=match l with
 | []=>[(n,v)]
 | p :: r=>if p.1=n then (n,v) :: r else p :: put r n v
theorem d9(n:Str)(v:V)(m:Str):∀ l,look (put l n v) m=if m=n then some v else look l m
 | []=>by unfold put look;by_cases h:n=m<;>simp[h,eq_comm,look]
 | p :: r=>by
  unfold put;by_cases h:p.1=n
  ·rw[if_pos h];unfold look;by_cases q:n=m
   ·simp[q]
   ·have:p.1≠m:=fun e=>q (h.symm.trans e)
    simp[q,Ne.symm q,this]
  ·rw[if_neg h];unfold look;by_cases q:p.1=m
   ·have:m≠n:=fun e=>h (q.trans e)
    simp[q,this]
   ·simp only[q,if_false];exact d9 n v m r
structure dE(c:Cx)(h:Heap)(env:Env)(ρ:List (Str×V)):Prop where
 ns:∃ m o,h.Ns env.locals m∧h.get? env.locals=some o∧(o.cls=.type "frame" ∨ o.cls=.type "dict")∧env.locals≠c.dx∧c.hB.get? env.locals=none∧
  ∀ n V,look ρ n=some V→∃ v,bq c h v V∧((env.kindOf n=some .local∧m n=some v)∨
   ((env.kindOf n=some .cell∨env.kindOf n=some .free)∧∃ cl o,env.cells.lookup n=some cl∧h.get? cl=some o∧o.cls=.type "cell" ∧ o.data=.cell (some v)∧cl≠c.dx))
structure bS(c:Cx)(h:Heap)(Y:List (Str×V)):Prop where
 inst:∃ o,h.get? c.x=some o∧o.cls=.ref 888∧o.dict=some c.dx∧o.data=.plain
 flds:∃ m o es ep,h.Ns c.dx m∧h.get? c.dx=some o∧o.cls=.type "dict" ∧ o.data=.dict es ep∧es.size≤Y.length∧∀ n,match look Y n with
  | some V=>∃ v,m n=some v∧bq c h v V
  | none=>m n=none
structure bP(env:Env):Prop where
 kind:env.scope.kind=.function
 glob:env.globals=mainGlobals
 blt:env.builtins=builtinsNs
def bp(c:Cx)(h:Heap):List Env→Prop
 | []=>True
 | env :: r=>(bP env∧env.scope.isGenerator=false∧env.scope.isCoroutine=false)∧(∃ L o es n,env.frame=some L∧c.hB.get? L=none∧h.get? L=some o∧o.cls=.type "frame" ∧ o.data=.dict es n)∧bp c h r
noncomputable def ar(c:Nat):Bool:=[97,101,105,111,117,225,226,233,234,237,243,244,250].contains c
structure cv(c:Cx):Prop where
 k:(K c.w.params).In c.hB
 dx:c.hB.get? c.dx=none
 seer:c.hB.NoSeer
 nolimit:c.hB.NoLimit
 gv:∃ S n,c.hB.SetOf (PySem.strKind prog c.w) 230 S n∧n<scanBound∧∀ k:Nat,S ⟨#[k]⟩=ar k
structure tx(c:Cx)(A:Around)(h:Heap):Prop where
 base:∀ b o,c.hB.get? b=some o→h.get? b=some o
 frames:∃ env l,A.frames=some (env :: l)∧bp c h (env :: l)
 handled:A.handled=none
def fq(s s':Shared):Prop:=s'.gens=s.gens∧s'.os=s.os
theorem fq.refl(s:Shared):fq s s:=⟨rfl,rfl⟩
theorem fq.trans{a b d:Shared}(x:fq a b)(y:fq b d):fq a d:=⟨y.1.trans x.1,y.2.trans x.2⟩
theorem tx.k{c:Cx}{A:Around}{h:Heap}(B:cv c)(a:tx c A h):(K c.w.params).In h:=B.k.keeps a.base
theorem bp.map{c:Cx}{h h':Heap}(k:∀ L o es n,c.hB.get? L=none→h.get? L=some o→o.cls=.type "frame" → o.data=.dict es n→∃ o' es' n',h'.get? L=some o'∧o'.cls=.type "frame" ∧ o'.data=.dict es' n'){l:List Env}:bp c h l→bp c h' l:=by
 induction l with
 | nil=>exact fun _=>trivial
 | cons env r ih=>
  intro F;refine jI (F.2.1) fun L o es n zz=>I5 zz fun hf hb ho hc hd=>?_
  refine gy (k L o es n hb ho hc hd) fun o' es' n' q=>?_
  exact⟨F.1,⟨L,o',es',n',hf,hb,q⟩,ih F.2.2⟩
theorem bp.ext{c:Cx}{h h':Heap}{L₀:Addr}(x:dA (two c.dx L₀) h h')(hd:∀ o,h.get? c.dx=some o→o.cls=.type "dict")(h0:∀ o es n,h.get? L₀=some o→o.cls=.type "frame" → o.data=.dict es n→∃ o' es n,h'.get? L₀=some o'∧o'.cls=.type "frame" ∧ o'.data=.dict es n){l:List Env}:bp c h l→bp c h' l:=
 bp.map fun L o es n hb ho hc hdt=>by
  by_cases e:L=L₀
  ·rw[e] at ho ⊢;exact h0 o es n ho hc hdt
  ·obtain⟨sl,q⟩:=((x L o ho fun q=>q.elim (fun q=>absurd (hc.symm.trans (hd o (q ▸ ho))) (by decide)) e).2) hc;exact⟨_,es,n,q,hc,hdt⟩
end
noncomputable section
abbrev af:=List (Str×V)
inductive Fl where
 | next | brk | cont
 | ret (v:V)
 | exc (k:Addr)
structure Fn where
 f:Addr
 st:Stmt
 cd:Addr
 nm:Str
 qual:Str
 mod:Value
 ps:List Str
noncomputable def clamp(n i:Int):Int:=if i<0 then max 0 (n+i) else min i n
noncomputable def bM(l:List Nat)(a b:Option Int):List Nat:=
 (l.take (match b with | some i=>clamp l.length i | none=>l.length).toNat).drop (match a with | some i=>clamp l.length i | none=>0).toNat
noncomputable def fW(l:List V)(a b:Option Int):List V:=
 (l.take (match b with | some i=>clamp l.length i | none=>l.length).toNat).drop (match a with | some i=>clamp l.length i | none=>0).toNat
noncomputable def mI(a b l:List Nat):List Nat:=(Txt.replace ⟨l.toArray⟩ ⟨a.toArray⟩ ⟨b.toArray⟩).cps.toList
noncomputable def cK(e l:List Nat):Bool:=Nat.ble e.length l.length&&(l.drop (l.length-e.length)==e)
noncomputable def dZ:Nat:=1048576
noncomputable def BQ(l:List Nat):Option V:=bif Nat.ble l.length dZ then some (.str l) else none
noncomputable def bW(x:List Nat):List V→Option Bool
 | []=>some false
 | .str y :: r=>(bW x r).map fun b=>(x==y)||b
 | _=>none
noncomputable def gG:List V→List V→Option Bool
 | [],[]=>some true
 | .str x :: r,.str y :: q=>(gG r q).map fun b=>(x==y)&&b
 | _,_=>none
noncomputable def pA(k:List Nat):List (List Nat×V)→Option V
 | []=>none
 | p :: r=>bif p.1==k then some p.2 else pA k r
noncomputable def MU(op:Operator)(a b:Int):Option V:=match op with
 | .Add=>some (.int (a+b))
 | .Sub=>some (.int (a-b))
 | .RShift=>bif decide (b=1) then some (.int (a.fdiv 2)) else none
 | .FloorDiv=>bif decide (0<b) then some (.int (a.fdiv b)) else none
 | .Mod=>bif decide (0<b) then some (.int (a.fmod b)) else none
 | .Pow=>bif decide (a=64)&&(decide (0≤b)&&decide (b≤4)) then some (.int (64 ^ b.toNat)) else none
 | _=>none
noncomputable def zn(op:Operator):Bool:=match op with
 | .Add=>true
 | _=>false
noncomputable def pJ(op:Operator)(a b:V):Option V:=match a with
 | .int a=>match b with
  | .int b=>MU op a b
  | _=>none
 | .str a=>match b with
  | .str b=>bif zn op then BQ (a++b) else none
  | _=>none
 | .list a=>match b with
  | .list b=>bif zn op then (bif Nat.ble (a.length+b.length) dZ then some (.list (a++b)) else none) else none
  | _=>none
 | _=>none
noncomputable def LO(op:CmpOp)(a b:Int):Option Bool:=match op with
 | .Lt=>some (decide (a<b))
 | .LtE=>some (decide (a≤b))
 | .Gt=>some (decide (b<a))
 | .GtE=>some (decide (b≤a))
 | .Eq=>some (decide (a=b))
 | .NotEq=>some (!decide (a=b))
 | _=>none
noncomputable def Ke(op:CmpOp)(b:Bool):Option Bool:=match op with
 | .Eq=>some b
 | .NotEq=>some (!b)
 | _=>none
noncomputable def Eu(op:CmpOp)(b:Option Bool):Option Bool:=match op with
 | .In=>b
 | .NotIn=>b.map (!·)
 | _=>none
noncomputable def BH(op:CmpOp)(b:Bool):Option Bool:=match op with
 | .Is=>some b
 | _=>none
noncomputable def NC(op:CmpOp)(b:Option Bool):Option Bool:=match op with
 | .NotEq=>b.map (!·)
 | _=>none
noncomputable def JA(l:List Nat):Option Bool:=match l with
 | [c]=>some (ar c)
 | _=>none
noncomputable def gO(op:CmpOp)(a b:V):Option Bool:=match a with
 | .int a=>match b with
  | .int b=>LO op a b
  | _=>none
 | .str a=>match b with
  | .str b=>Ke op (a==b)
  | .gv=>Eu op (JA a)
  | .list l=>Eu op (bW a l)
  | .none=>BH op false
  | _=>none
 | .none=>match b with
  | .none=>BH op true
  | _=>none
 | .list a=>match b with
  | .list b=>NC op (gG a b)
  | _=>none
 | _=>none
noncomputable def cF(n i:Int):Option Nat:=bif decide (0≤i) then (bif decide (i<n) then some i.toNat else none) else (bif decide (0≤n+i) then some (n+i).toNat else none)
noncomputable def dn(a i:V):Option V:=match a,i with
 | .str l,.int i=>(cF l.length i).bind fun k=>(l[k]?).map fun c=>.str [c]
 | .list l,.int i=>(cF l.length i).bind fun k=>l[k]?
 | .dict kv,.str k=>pA k kv
 | _,_=>none
noncomputable def bg(a st:Int):Nat→List V
 | 0=>[]
 | n+1=>.int a :: bg (a+st) st n
noncomputable def DR(a:Int):Bool:=decide (-2097152≤a)&&decide (a≤2097152)
noncomputable def cD(a b st:Int):Option (List V):=
 bif DR a&&DR b then
  (bif decide (st=1) then some (bg a 1 (b-a).toNat) else bif decide (st=-1) then some (bg a (-1) (a-b).toNat)
  else bif decide (st=4) then some (bg a 4 ((b-a+3).fdiv 4).toNat) else none)
 else none
noncomputable def ce:Const→Option V
 | .none=>some .none
 | .bool b=>some (.bool b)
 | .int i=>some (.int i)
 | .str s=>BQ s.cps.toList
 | _=>none
noncomputable def amgs(k n:Nat):V:=.list (((amongs.drop k).take n).map fun e=>.amg e.s.cps.toList e.i e.r)
noncomputable def A7(l:List String):V:=.list (l.map fun s=>.str (Str.ofString s).cps.toList)
noncomputable def pj:List (Str×V):=[("g_v",.gv),("a_0",amgs 0 3),("a_1",amgs 3 3),("a_2",amgs 6 4),("a_3",amgs 10 3),("a_4",amgs 13 3),("a_5",amgs 16 45),("a_6",amgs 61 120),("a_7",amgs 181 7),("a_8",amgs 188 4)]
def bK(n:Str):Option V:=look pj n
noncomputable def sq:List Str:=["current", "cursor", "limit", "limit_backward", "bra", "ket", "I_pV", "I_p1", "I_p2"]
def dN(n:Str):Bool:=sq.any fun m=>decide (m=n)
noncomputable def qf(a:V)(n:Str)(Y:af):Option V:=match a with
 | .self=>bif dN n then look Y n else none
 | .addr a=>bif Nat.beq a 888 then bK n else none
 | .amg s i r=>if n="s" then some (.str s) else if n="substring_i" then some (.int i) else if n="result" then some (.int r) else none
 | _=>none
def cN:Fn:=⟨42,(mt 2 1),41, "set_current", "BaseStemmer.set_current",.str "snowballstemmer.basestemmer" 194,["self", "value"]⟩
def cP:Fn:=⟨49,(mt 2 2),48, "get_current", "BaseStemmer.get_current",.str "snowballstemmer.basestemmer" 194,["self"]⟩
def cO:Fn:=⟨63,(mt 2 4),62, "in_grouping", "BaseStemmer.in_grouping",.str "snowballstemmer.basestemmer" 194,["self", "s"]⟩
def aj:Fn:=⟨70,(mt 2 5),69, "go_in_grouping", "BaseStemmer.go_in_grouping",.str "snowballstemmer.basestemmer" 194,["self", "s"]⟩
def ct:Fn:=⟨91,(mt 2 8),90, "out_grouping", "BaseStemmer.out_grouping",.str "snowballstemmer.basestemmer" 194,["self", "s"]⟩
def ac:Fn:=⟨98,(mt 2 9),97, "go_out_grouping", "BaseStemmer.go_out_grouping",.str "snowballstemmer.basestemmer" 194,["self", "s"]⟩
def fS:Fn:=⟨126,(mt 2 13),125, "eq_s_b", "BaseStemmer.eq_s_b",.str "snowballstemmer.basestemmer" 194,["self", "s"]⟩
def an:Fn:=⟨133,(mt 2 14),132, "find_among", "BaseStemmer.find_among",.str "snowballstemmer.basestemmer" 194,["self", "v"]⟩
def am:Fn:=⟨140,(mt 2 15),139, "find_among_b", "BaseStemmer.find_among_b",.str "snowballstemmer.basestemmer" 194,["self", "v"]⟩
def bU:Fn:=⟨147,(mt 2 16),146, "replace_s", "BaseStemmer.replace_s",.str "snowballstemmer.basestemmer" 194,["self", "c_bra", "c_ket", "s"]⟩
def bV:Fn:=⟨154,(mt 2 17),153, "slice_from", "BaseStemmer.slice_from",.str "snowballstemmer.basestemmer" 194,["self", "s"]⟩
def cQ:Fn:=⟨161,(mt 2 18),160, "slice_del", "BaseStemmer.slice_del",.str "snowballstemmer.basestemmer" 194,["self"]⟩
def aW:Fn:=⟨189,(mt 2 22),188, "stemWord", "BaseStemmer.stemWord",.str "snowballstemmer.basestemmer" 194,["self", "word"]⟩
def bN:Fn:=⟨194,(mt 2 23),193, "stemWords", "BaseStemmer.stemWords",.str "snowballstemmer.basestemmer" 194,["self", "words"]⟩
def aX:Fn:=⟨237,(mt 6 4),236, "r_prelude", "PortugueseStemmer.r_prelude",.str "snowballstemmer.portuguese_stemmer" 471,["self"]⟩
def az:Fn:=⟨244,(mt 6 5),243, "r_mark_regions", "PortugueseStemmer.r_mark_regions",.str "snowballstemmer.portuguese_stemmer" 471,["self"]⟩
def aO:Fn:=⟨251,(mt 6 6),250, "r_postlude", "PortugueseStemmer.r_postlude",.str "snowballstemmer.portuguese_stemmer" 471,["self"]⟩
def qM:Fn:=⟨258,(mt 6 7),257, "r_RV", "PortugueseStemmer.r_RV",.str "snowballstemmer.portuguese_stemmer" 471,["self"]⟩
def rz:Fn:=⟨265,(mt 6 8),264, "r_R2", "PortugueseStemmer.r_R2",.str "snowballstemmer.portuguese_stemmer" 471,["self"]⟩
def aw:Fn:=⟨272,(mt 6 9),271, "r_standard_suffix", "PortugueseStemmer.r_standard_suffix",.str "snowballstemmer.portuguese_stemmer" 471,["self"]⟩
def dg:Fn:=⟨279,(mt 6 10),278, "r_verb_suffix", "PortugueseStemmer.r_verb_suffix",.str "snowballstemmer.portuguese_stemmer" 471,["self"]⟩
def cy:Fn:=⟨286,(mt 6 11),285, "r_residual_suffix", "PortugueseStemmer.r_residual_suffix",.str "snowballstemmer.portuguese_stemmer" 471,["self"]⟩
def ao:Fn:=⟨293,(mt 6 12),292, "r_residual_form", "PortugueseStemmer.r_residual_form",.str "snowballstemmer.portuguese_stemmer" 471,["self"]⟩
def bA:Fn:=⟨300,(mt 6 13),299, "_stem", "PortugueseStemmer._stem",.str "snowballstemmer.portuguese_stemmer" 471,["self"]⟩
def dX:Fn:=⟨936,(tp 11),935, "_law_vowels", "_law_vowels",.str "law_ai0036_01" 3310,[]⟩
def dG:Fn:=⟨943,(tp 12),942, "_law_letters", "_law_letters",.str "law_ai0036_01" 3310,[]⟩
def eA:Fn:=⟨950,(tp 13),949, "_law_parts", "_law_parts",.str "law_ai0036_01" 3310,[]⟩
def eD:Fn:=⟨957,(tp 14),956, "_law_nouns", "_law_nouns",.str "law_ai0036_01" 3310,[]⟩
def bH:Fn:=⟨965,(tp 18),964, "_law_ends", "_law_ends",.str "law_ai0036_01" 3310,[]⟩
def bO:Fn:=⟨972,(tp 19),971, "_law_word", "_law_word",.str "law_ai0036_01" 3310,["numbers", "ends"]⟩
def cE:Fn:=⟨979,(tp 20),978, "_law_end", "_law_end",.str "law_ai0036_01" 3310,["word", "ends", "low"]⟩
def eI:Fn:=⟨986,(tp 21),985, "_law_cut", "_law_cut",.str "law_ai0036_01" 3310,["word", "end"]⟩
def de:Fn:=⟨993,(tp 22),992, "_law_less", "_law_less",.str "law_ai0036_01" 3310,["word", "ends", "low"]⟩
def bj:Fn:=⟨1000,(tp 23),999, "_law_behind", "_law_behind",.str "law_ai0036_01" 3310,["word", "at"]⟩
def aL:Fn:=⟨1007,(tp 24),1006, "_law_first", "_law_first",.str "law_ai0036_01" 3310,["word"]⟩
def ag:Fn:=⟨1014,(tp 25),1013, "_law_noun", "_law_noun",.str "law_ai0036_01" 3310,["word", "first", "one", "two"]⟩
def aU:Fn:=⟨1021,(tp 26),1020, "_law_formed", "_law_formed",.str "law_ai0036_01" 3310,["word", "first"]⟩
def aZ:Fn:=⟨1028,(tp 27),1027, "_law_stem", "_law_stem",.str "law_ai0036_01" 3310,["word"]⟩
def eH:Fn:=⟨1033,(tp 28),1032, "law", "law",.str "law_ai0036_01" 3310,["script"]⟩
def meths:List (Str×Fn):=[("set_current",cN),("get_current",cP),("in_grouping",cO),("go_in_grouping",aj),("out_grouping",ct),("go_out_grouping",ac),("eq_s_b",fS),("find_among",an),("find_among_b",am),("replace_s",bU),("slice_from",bV),("slice_del",cQ),("stemWord",aW),("stemWords",bN),("r_prelude",aX),("r_mark_regions",az),("r_postlude",aO),("r_RV",qM),("r_R2",rz),("r_standard_suffix",aw),("r_verb_suffix",dg),("r_residual_suffix",cy),("r_residual_form",ao),("_stem",bA)]
noncomputable def vS(n:Str):List (Str×Fn)→Option Fn
 | []=>none
 | p :: r=>if p.1=n then some p.2 else vS n r
def bJ(n:Str):Option Fn:=vS n meths
def fns:List Fn:=[dX,dG,eA,eD,bH,bO,cE,eI,de,bj,aL,ag,aU,aZ,eH]
noncomputable def wb(a:Addr):List Fn→Option Fn
 | []=>none
 | p :: r=>bif Nat.beq p.f a then some p else wb a r
def eX(a:Addr):Option Fn:=wb a fns
noncomputable def DC:V:=A7 ["ada", "ida", "ia", "aria", "eria", "iria", "ara", "era", "ira", "ava", "asse", "esse", "isse", "aste", "este", "iste", "ei", "arei", "erei", "irei", "am", "iam", "ariam", "eriam", "iriam", "aram", "eram", "iram", "avam", "em", "arem", "erem", "irem", "assem", "essem", "issem", "ado", "ido", "ando", "endo", "indo", "ara~o", "era~o", "ira~o", "ar", "er", "ir", "as", "adas", "idas", "ias", "arias", "erias", "irias", "aras", "eras", "iras", "avas", "es", "ardes", "erdes", "irdes", "ares", "eres", "ires", "asses", "esses", "isses", "astes", "estes", "istes", "is", "ais", "eis", "areis", "ereis", "ireis", "áreis", "éreis", "íreis", "ásseis", "ésseis", "ísseis", "áveis", "íeis", "aríeis", "eríeis", "iríeis", "ados", "idos", "amos", "áramos", "éramos", "íramos", "ávamos", "íamos", "aríamos", "eríamos", "iríamos", "emos", "aremos", "eremos", "iremos", "ássemos", "êssemos", "íssemos", "imos", "armos", "ermos", "irmos", "ámos", "arás", "erás", "irás", "eu", "iu", "ou", "ará", "erá", "irá"]
noncomputable def I4:V:=A7 ["a", "i", "o", "os", "á", "í", "ó"]
noncomputable def HC:V:=A7 ["e", "ç", "é", "ê"]
noncomputable def globs:List (Str×V):=[("_law_vowels",.addr 936),("_law_letters",.addr 943),("_law_parts",.addr 950),("_law_nouns",.addr 957),("_law_ends",.addr 965),("_law_word",.addr 972),("_law_end",.addr 979),("_law_cut",.addr 986),("_law_less",.addr 993),("_law_behind",.addr 1000),("_law_first",.addr 1007),("_law_noun",.addr 1014),("_law_formed",.addr 1021),("_law_stem",.addr 1028),("law",.addr 1033),("PortugueseStemmer",.addr 888),("lab0",.addr 900),("lab1",.addr 913),("lab2",.addr 926),("_law_verbs",DC),("_law_last",I4),("_law_form",HC),("len",.bi "len"),("ord",.bi "ord"),("min",.bi "min"),("range",.ty "range"),("list",.ty "list")]
def glob(n:Str):Option V:=look globs n
end
noncomputable section
structure Ev where
 E:Scope→af→af→Expr→Option (V×af)
 T:Scope→af→af→Expr→Option (Bool×af)
 S:Scope→af→af→Stmt→Option (Fl×af×af)
 SS:Scope→af→af→List Stmt→Option (Fl×af×af)
 W:Scope→af→af→Expr→List Stmt→Option (Fl×af×af)
 F:Scope→af→af→Str→List V→List Stmt→Option (Fl×af×af)
 C:Fn→List V→af→Option (V×af)
 L:Scope→af→af→Expr→Str→List V→Option (List V×af)
noncomputable def dl(E:Scope→af→af→Expr→Option (V×af))(sc:Scope)(ρ:af):af→List Expr→Option (List V×af)
 | Y,[]=>some ([],Y)
 | Y,e :: r=>match E sc ρ Y e with
  | some (v,Y)=>match dl E sc ρ Y r with
   | some (vs,Y)=>some (v :: vs,Y)
   | none=>none
  | none=>none
noncomputable def dz(E:Scope→af→af→Expr→Option (V×af))(sc:Scope)(ρ Y:af):Option Expr→Option (Option Int×af)
 | none=>some (none,Y)
 | some e=>match E sc ρ Y e with
  | some (.int i,Y)=>some (some i,Y)
  | _=>none
noncomputable def Ds(e:Expr):Option Str:=match e with
 | .Constant (.str a) _ _=>some a
 | _=>none
noncomputable def IS(e:Expr):Option Int:=match e with
 | .Constant (.int a) _ _=>some a
 | _=>none
@[elab_as_elim] theorem strC_eq {e:Expr} {a:Str} {C:Expr→Prop} (h:Ds e=some a) (k:∀ m p,C (.Constant (.str a) m p)):C e:=by
 induction e using zX with
 | Constant c m q=>induction c using Const.casesOn with
  | str a=>cases h;exact k _ _
  | _=>exact nn h
 | _=>exact nn h
@[elab_as_elim] theorem intC_eq {e:Expr} {a:Int} {C:Expr→Prop} (h:IS e=some a) (k:∀ m p,C (.Constant (.int a) m p)):C e:=by
 induction e using zX with
 | Constant c m q=>induction c using Const.casesOn with
  | int a=>cases h;exact k _ _
  | _=>exact nn h
 | _=>exact nn h
noncomputable def kR:List (Option Expr)→List Expr→Option (List (List Nat×V))
 | [],[]=>some []
 | some k :: ks,v :: vs=>(Ds k).bind fun k=>(IS v).bind fun i=>(kR ks vs).map fun r=>(k.cps.toList,.int i) :: r
 | _,_=>none
noncomputable def kB(e:Expr):Option Str:=match e with
 | .Name id _=>some id
 | _=>none
@[elab_as_elim] theorem nameE_eq {e:Expr} {a:Str} {C:Expr→Prop} (h:kB e=some a) (k:∀ p,C (.Name a p)):C e:=by
 induction e using zX with
 | Name=>obtain rfl:=inj h;exact k _
 | _=>exact nn h
noncomputable def vQ(e:Expr):Bool:=match e with
 | .Call .. => true
 | _=>false
@[elab_as_elim] theorem isCallE_eq {e:Expr} {C:Expr→Prop} (h:vQ e=true) (k:∀ f as ks p,C (.Call f as ks p)):C e:=by
 induction e using zX with
 | Call=>exact k _ _ _ _
 | _=>exact nf h
noncomputable def ud(e:Expr):Option (Option Expr×Option Expr):=match e with
 | .Slice l u s _=>match s with
  | none=>some (l,u)
  | some _=>none
 | _=>none
@[elab_as_elim] theorem sliceE_eq {e:Expr} {a:Option Expr×Option Expr} {C:Expr→Prop} (h:ud e=some a) (k:∀ p,C (.Slice a.1 a.2 none p)):C e:=by
 induction e using zX with
 | Slice l u s=>induction s using zO with
  | none=>obtain rfl:=inj h;exact k _
  | some _=>exact nn h
 | _=>exact nn h
noncomputable def Br(e:Expr):Option Expr:=match e with
 | .Call f as ks _=>match as with
  | []=>match ks with
   | []=>(kB f).map fun _=>f
   | _=>none
  | _=>none
 | _=>none
@[elab_as_elim] theorem raiseE_eq {e nm:Expr} {C:Expr→Expr→Prop} (h:Br e=some nm) (k:∀ id np cp,C (.Call (.Name id np) [] [] cp) (.Name id np)):C e nm:=by
 induction e using zX with
 | Call f as ks=>induction as using zL with
  | nil=>induction ks using zL with
   | nil=>
    obtain⟨id,e,rfl⟩:=Option.map_eq_some_iff.mp h;exact nameE_eq (C:=fun f=>C (.Call f [] [] _) f) e fun p=>k _ _ _
   | cons=>exact nn h
  | cons=>exact nn h
 | _=>exact nn h
noncomputable def Bw(l:List Stmt):Bool:=match l with
 | [s]=>match s with
  | .Pass _=>true
  | _=>false
 | _=>false
@[elab_as_elim] theorem isPass_eq {l:List Stmt} {C:List Stmt→Prop} (h:Bw l=true) (k:∀ p,C [.Pass p]):C l:=by
 induction l using zL with
 | nil=>exact nf h
 | cons s r=>induction r using zL with
  | nil=>induction s using Stmt.casesOn with
   | Pass=>exact k _
   | _=>exact nf h
  | cons=>exact nf h
noncomputable def Mp(l:List ExceptHandler):Option Str:=match l with
 | [x]=>match x with
  | .ExceptHandler t nm b _=>match t,nm with
   | some t,none=>bif Bw b then kB t else none
   | _,_=>none
 | _=>none
@[elab_as_elim] theorem tryE_eq {l:List ExceptHandler} {a:Str} {C:List ExceptHandler→Prop} (h:Mp l=some a) (k:∀ p1 p2 p3,C [.ExceptHandler (some (.Name a p1)) none [.Pass p2] p3]):C l:=by
 induction l using zL with
 | nil=>exact nn h
 | cons x r=>induction r using zL with
  | cons=>exact nn h
  | nil=>induction x using PySem.ExceptHandler.casesOn with
   | ExceptHandler t nm b p=>induction t using zO with
    | none=>exact nn h
    | some t=>induction nm using zO with
     | some=>exact nn h
     | none=>exact oc h fun q h=>isPass_eq (C:=fun b=>C [.ExceptHandler (some t) none b p]) q fun p2=>nameE_eq (C:=fun t=>C [.ExceptHandler (some t) none _ p]) h fun p1=>k _ _ _
noncomputable def NP(l:List Comprehension):Option (Str×Expr):=match l with
 | [g]=>match g.ifs with
  | []=>bif decide (g.is_async=0) then (kB g.target).map fun x=>(x,g.iter) else none
  | _=>none
 | _=>none
@[elab_as_elim] theorem genE_eq {l:List Comprehension} {a:Str×Expr} {C:List Comprehension→Prop} (h:NP l=some a) (k:∀ p,C [⟨.Name a.1 p,a.2,[],0⟩]):C l:=by
 induction l using zL with
 | nil=>exact nn h
 | cons g r=>induction r using zL with
  | cons=>exact nn h
  | nil=>
   obtain⟨t,it,ifs,ia⟩:=g
   induction ifs using zL with
   | cons=>exact nn h
   | nil=>
    refine oc h fun q h=>om h fun x e h=>?_
    obtain rfl:ia=0:=of_decide_eq_true q;obtain rfl:=h;exact nameE_eq (C:=fun t=>C [⟨t,it,[],0⟩]) e fun p=>k _
noncomputable def Ia(op:UnaryOp):Bool:=match op with
 | .USub=>true
 | _=>false
noncomputable def IA(op:UnaryOp):Bool:=match op with
 | .Not=>true
 | _=>false
noncomputable def uM(v:V):Option Int:=match v with
 | .int i=>some i
 | _=>none
@[elab_as_elim] theorem intV_eq {v:V} {a:Int} {C:V→Prop} (h:uM v=some a) (k:C (.int a)):C v:=by
 induction v using zV with
 | int=>obtain rfl:=inj h;exact k
 | _=>exact nn h
noncomputable def rargs(vs:List V):Option (Int×Int×Int):=match vs with
 | [x]=>(uM x).map fun b=>(0,b,1)
 | [x,y]=>(uM x).bind fun a=>(uM y).map fun b=>(a,b,1)
 | [x,y,z]=>(uM x).bind fun a=>(uM y).bind fun b=>(uM z).map fun s=>(a,b,s)
 | _=>none
@[elab_as_elim] theorem rargs_eq {vs:List V} {a b s:Int} {C:List V→Int→Int→Int→Prop} (h:rargs vs=some (a,b,s)) (k1:∀ b,C [.int b] 0 b 1) (k2:∀ a b,C [.int a,.int b] a b 1) (k3:∀ a b s,C [.int a,.int b,.int s] a b s):C vs a b s:=by
 induction vs using zL with
 | nil=>exact nn h
 | cons x r=>induction r using zL with
  | nil=>
   refine om h fun c e h=>?_
   cases h;exact intV_eq e (k1 _)
  | cons y r=>induction r using zL with
   | nil=>
    refine ob h fun c e h=>om h fun d e2 h=>?_
    cases h;refine intV_eq e ?_;exact intV_eq e2 (k2 _ _)
   | cons z r=>induction r using zL with
    | nil=>
     refine ob h fun c e h=>ob h fun d e2 h=>om h fun f e3 h=>?_
     cases h;refine intV_eq e ?_;refine intV_eq e2 ?_;exact intV_eq e3 (k3 _ _ _)
    | cons=>exact nn h
noncomputable def yF:Expr→Bool
 | .Name .. => true
 | _=>false
noncomputable def Hf:V→Bool
 | .str _=>true
 | _=>false
noncomputable def dU(base:Expr)(v:V):Bool:=match base with
 | .Name .. => true
 | .Call .. => true
 | _=>Hf v
noncomputable def Rl(id:String)(x:V):Option V:=match x with
 | .str l=>if id="len" then some (.int l.length) else if id="ord" then (match l with | [c]=>some (.int c) | _=>none) else none
 | .list l=>if id="len" then some (.int l.length) else none
 | _=>none
noncomputable def Rt(id:String)(x y:V):Option V:=match x with
 | .int a=>match y with
  | .int b=>if id="min" then some (.int (min a b)) else none
  | _=>none
 | _=>none
noncomputable def Sm(id:String)(x:V):Option V:=match x with
 | .dict kv=>if id="list" then (bif Nat.ble kv.length 1024&&kv.all (fun p=>Nat.ble p.1.length 1048576) then some (.list (kv.map fun p=>.str p.1)) else none) else none
 | _=>none
noncomputable def fs(f:V)(args:List V):Option V:=match f with
 | .bi id=>match args with
  | [x]=>Rl id x
  | [x,y]=>Rt id x y
  | _=>none
 | .ty id=>match args with
  | [x]=>Sm id x
  | _=>none
 | _=>none
noncomputable def kU:Expr→Bool
 | .Call (.Name ..) [] [] _=>false
 | _=>true
noncomputable def fA:Expr→Bool
 | .ListComp .. => true
 | .SetComp .. => true
 | .DictComp .. => true
 | _=>false
noncomputable def ax(o:Expr)(args:List Expr)(apos pos:Pos):Bool:=kU o&&(Nat.ble args.length 20&&apos.endLine==pos.line)
noncomputable def cH:V→Bool
 | .str _=>true
 | .int _=>true
 | .bool _=>true
 | .none=>true
 | _=>false
noncomputable def ch(l:af):Bool:=l.all fun p=>cH p.2
noncomputable def cq(sc csc:Scope):Scope:={ csc with names:=csc.names.map fun (n,k)=>if (k==.free&&sc.kind==.function&&sc.names.lookup n==some .cell) then (n,.cell) else (n,k) }
noncomputable def cf(csc:Scope)(ρ:af):af:=ρ.filter fun p=>csc.names.lookup p.1==some .free
noncomputable def dk(sc:Scope)(ρ:af)(csc:Scope)(x:Str):Bool:=
 (csc.kind==.function)&&((csc.names.lookup x==some .local)&&csc.names.all fun p=>
  !(p.2==.cell)&&((!(p.2==.local)||csc.names.lookup p.1==some .local)&&(!(p.2==.free)||((sc.names.lookup p.1==some .cell||sc.names.lookup p.1==some .free)&&(look ρ p.1).isSome))))
noncomputable def xS(op:Operator)(a b:V):Option V:=match a with
 | .int a=>match b with
  | .int b=>match op with
   | .Add=>some (.int (a+b))
   | .Sub=>some (.int (a-b))
   | _=>none
  | _=>none
 | _=>none
noncomputable def ff(a:Nat):Bool:=Nat.beq a 900||Nat.beq a 913||Nat.beq a 926
noncomputable def params(f:Fn):List Str:=f.ps
noncomputable def fj(E:Scope→af→af→Expr→Option (V×af))(sc:Scope)(ρ Y:af)(it:Expr):Option (List V×af):=match it with
 | .Name y p=>match E sc ρ Y (.Name y p) with
  | some (.list xs,Y)=>some (xs,Y)
  | _=>none
 | .Call f args ks _=>match ks with
  | []=>(kB f).bind fun g=>if g="range" then (match sc.names.lookup g with
   | some .globalImplicit=>(match dl E sc ρ Y args with
    | some (vs,Y)=>(rargs vs).bind fun p=>(cD p.1 p.2.1 p.2.2).map fun xs=>(xs,Y)
    | none=>none)
   | _=>none) else none
  | _=>none
 | _=>none
def ev:Nat→Ev
 | 0=>⟨fun _ _ _ _=>none,fun _ _ _ _=>none,fun _ _ _ _=>none,fun _ _ _ _=>none,fun _ _ _ _ _=>none,fun _ _ _ _ _ _=>none,fun _ _ _=>none,fun _ _ _ _ _ _=>none⟩
 | n+1=>
  let r:=ev n
  {E:=fun sc ρ Y e=>match e with
    | .Constant c _ _=>(ce c).map fun v=>(v,Y)
    | .Name id _=>if id="__debug__" then none else if id="__classdict__" then none else match sc.names.lookup id with
      | some .globalImplicit=>(glob id).map fun v=>(v,Y)
      | some .local | some .cell | some .free=>(look ρ id).map fun v=>(v,Y)
      | _=>none
    | .Attribute o attr _=>(kB o).bind fun _=>match r.E sc ρ Y o with
      | some (v,Y)=>(qf v attr Y).map fun v=>(v,Y)
      | none=>none
    | .Subscript v i _=>match ud i with
     | some (l,u)=>(match r.E sc ρ Y v with
      | some (.str t,Y)=>match dz r.E sc ρ Y l with
        | some (a,Y)=>match dz r.E sc ρ Y u with
         | some (b,Y)=>some (.str (bM t a b),Y)
         | none=>none
        | none=>none
      | some (.list t,Y)=>bif yF v then (match dz r.E sc ρ Y l with
        | some (a,Y)=>match dz r.E sc ρ Y u with
         | some (b,Y)=>some (.list (fW t a b),Y)
         | none=>none
        | none=>none) else none
      | _=>none)
     | none=>match r.E sc ρ Y v with
      | some (a,Y)=>bif dU v a then (match r.E sc ρ Y i with
        | some (b,Y)=>(dn a b).map fun v=>(v,Y)
        | none=>none) else none
      | none=>none
    | .Call f args ks pos=>match ks with
     | []=>match f with
      | .Attribute o name apos=>(match ax o args apos pos,r.E sc ρ Y o with
      | true,some (.self,Y)=>match bJ name with
        | some f=>(match look Y name with
         | none=>(match dl r.E sc ρ Y args with
          | some (vs,Y)=>r.C f (.self :: vs) Y
          | none=>none)
         | some _=>none)
        | none=>none
      | true,some (.str t,Y)=>
        if name="endswith" then (match dl r.E sc ρ Y args with
         | some ([.str u],Y)=>some (.bool (cK u t),Y)
         | _=>none)
        else if name="replace" then (match args with
         | [x,z]=>(Ds x).bind fun a=>(Ds z).bind fun b=>
          bif (Nat.ble b.cps.size 8)&&!(a==b) then (BQ (mI a.cps.toList b.cps.toList t)).map fun v=>(v,Y) else none
         | _=>none)
        else none
      | _,_=>none)
      | .Name id p=>(match r.E sc ρ Y (.Name id p) with
      | some (.addr a,Y)=>match eX a with
        | some f=>match dl r.E sc ρ Y args with
         | some (vs,Y)=>r.C f vs Y
         | none=>none
        | none=>none
      | some (f,Y)=>match dl r.E sc ρ Y args with
        | some (vs,Y)=>(fs f vs).map fun v=>(v,Y)
        | none=>none
      | none=>none)
      | _=>none
     | _=>none
    | .BinOp a op b _=>match r.E sc ρ Y a with
      | some (x,Y)=>match r.E sc ρ Y b with
        | some (y,Y)=>(pJ op x y).map fun v=>(v,Y)
        | none=>none
      | none=>none
    | .UnaryOp op x _=>bif Ia op then (IS x).map fun i=>(.int (-i),Y) else none
    | .Compare a ops bs _=>match ops with
     | [op]=>match bs with
      | [b]=>(match r.E sc ρ Y a with
       | some (x,Y)=>match r.E sc ρ Y b with
        | some (y,Y)=>(gO op x y).map fun v=>(.bool v,Y)
        | none=>none
       | none=>none)
      | _=>none
     | _=>none
    | .IfExp t a b _=>match r.T sc ρ Y t with
      | some (true,Y)=>r.E sc ρ Y a
      | some (false,Y)=>r.E sc ρ Y b
      | none=>none
    | .List es _=>match dl r.E sc ρ Y es with
      | some (vs,Y)=>bif Nat.ble vs.length 64 then some (.list vs,Y) else none
      | none=>none
    | .Dict ks vs _=>(kR ks vs).bind fun kv=>bif Nat.ble kv.length 64&&(Nat.ble 1 kv.length&&decide ((kv.map (·.1)).Nodup)) then some (.dict kv,Y) else none
    | .ListComp elt gens csc _=>(NP gens).bind fun p=>match fj r.E sc ρ Y p.2 with
      | some (xs,Y)=>bif dk sc ρ csc p.1&&(ch Y&&Nat.ble xs.length 1048576) then
         (match r.L (cq sc csc) (cf csc ρ) Y elt p.1 xs with
         | some (vs,Y)=>some (.list vs,Y)
         | none=>none)
        else none
      | none=>none
    | _=>none
   T:=fun sc ρ Y e=>match e with
    | .UnaryOp op x _=>bif IA op then (match r.T sc ρ Y x with
      | some (b,Y)=>some (!b,Y)
      | none=>none) else none
    | .BoolOp op vs _=>match vs with
     | [a,b]=>match op with
      | .And=>(match r.T sc ρ Y a with
       | some (false,Y)=>some (false,Y)
       | some (true,Y)=>r.T sc ρ Y b
       | none=>none)
      | .Or=>(match r.T sc ρ Y a with
       | some (true,Y)=>some (true,Y)
       | some (false,Y)=>r.T sc ρ Y b
       | none=>none)
     | _=>none
    | .Compare .. | .Constant .. | .Name .. | .Call .. => match r.E sc ρ Y e with
      | some (.bool b,Y)=>some (b,Y)
      | _=>none
    | _=>none
   S:=fun sc ρ Y st=>match st with
    | .Expr e _=>bif vQ e then (match r.E sc ρ Y e with
      | some (_,Y)=>some (.next,ρ,Y)
      | none=>none) else none
    | .Pass _=>some (.next,ρ,Y)
    | .Break _=>some (.brk,ρ,Y)
    | .Continue _=>some (.cont,ρ,Y)
    | .Return e _=>match e with
     | none=>some (.ret .none,ρ,Y)
     | some e=>match r.E sc ρ Y e with
      | some (v,Y)=>some (.ret v,ρ,Y)
      | none=>none
    | .Assign ts e _=>match ts with
     | [t]=>match t with
      | .Name id _=>(match fA e,sc.names.lookup id with
       | false,some .local=>(match r.E sc ρ Y e with
        | some (v,Y)=>some (.next,put ρ id v,Y)
        | none=>none)
       | _,_=>none)
      | .Attribute o attr _=>(kB o).bind fun _=>(match fA e,r.E sc ρ Y e with
       | false,some (v,Y)=>(match r.E sc ρ Y o with
        | some (.self,Y)=>bif dN attr&&Nat.ble Y.length 100 then some (.next,ρ,put Y attr v) else none
        | _=>none)
       | _,_=>none)
      | _=>none
     | _=>none
    | .AugAssign t op e _=>match t with
     | .Name id p=>(match sc.names.lookup id,look ρ id with
      | some .local,some a=>match r.E sc ρ Y e with
        | some (b,Y)=>(xS op a b).map fun v=>(.next,put ρ id v,Y)
        | none=>none
      | _,_=>none)
     | .Attribute o attr _=>(kB o).bind fun _=>(match r.E sc ρ Y o with
      | some (.self,Y)=>match dN attr,look Y attr with
        | true,some a=>match r.E sc ρ Y e with
         | some (b,Y)=>bif Nat.ble Y.length 100 then (xS op a b).map fun v=>(.next,ρ,put Y attr v) else none
         | none=>none
        | _,_=>none
      | _=>none)
     | _=>none
    | .If t a b _=>match r.T sc ρ Y t with
      | some (true,Y)=>r.SS sc ρ Y a
      | some (false,Y)=>r.SS sc ρ Y b
      | none=>none
    | .While t b o _=>match o with
     | []=>r.W sc ρ Y t b
     | _=>none
    | .For t it b o _=>match o with
     | []=>(kB t).bind fun x=>match sc.names.lookup x,fj r.E sc ρ Y it with
      | some .local,some (xs,Y)=>r.F sc ρ Y x xs b
      | _,_=>none
     | _=>none
    | .Assert t m _=>match m with
     | none=>(match r.T sc ρ Y t with
      | some (true,Y)=>some (.next,ρ,Y)
      | _=>none)
     | some _=>none
    | .Raise e c _=>match e,c with
     | some x,none=>(Br x).bind fun nm=>match r.E sc ρ Y nm with
      | some (.addr a,Y)=>bif ff a then some (.exc a,ρ,Y) else none
      | _=>none
     | _,_=>none
    | .Try b hs o f _=>match o with
     | []=>match f with
      | []=>(Mp hs).bind fun id=>(match r.SS sc ρ Y b with
      | some (.exc k,ρ,Y)=>match decide (id="__debug__"),sc.names.lookup id,glob id with
        | false,some .globalImplicit,some (.addr a)=>bif ff a then (bif Nat.beq a k then some (.next,ρ,Y) else some (.exc k,ρ,Y)) else none
        | _,_,_=>none
      | x=>x)
      | _=>none
     | _=>none
    | _=>none
   SS:=fun sc ρ Y l=>match l with
    | []=>some (.next,ρ,Y)
    | st :: rest=>match r.S sc ρ Y st with
      | some (.next,ρ,Y)=>r.SS sc ρ Y rest
      | x=>x
   W:=fun sc ρ Y t b=>match r.T sc ρ Y t with
    | some (true,Y)=>match r.SS sc ρ Y b with
      | some (.next,ρ,Y) | some (.cont,ρ,Y)=>r.W sc ρ Y t b
      | some (.brk,ρ,Y)=>some (.next,ρ,Y)
      | x=>x
    | some (false,Y)=>some (.next,ρ,Y)
    | none=>none
   F:=fun sc ρ Y x xs b=>match xs with
    | []=>some (.next,ρ,Y)
    | v :: rest=>match r.SS sc (put ρ x v) Y b with
      | some (.next,ρ,Y) | some (.cont,ρ,Y)=>r.F sc ρ Y x rest b
      | some (.brk,ρ,Y)=>some (.next,ρ,Y)
      | y=>y
   C:=fun f vs Y=>bif Nat.beq (params f).length vs.length then (match r.SS (aJ f.st) ((params f).zip vs) Y (br f.st) with
      | some (.ret v,_,Y)=>some (v,Y)
      | some (.next,_,Y)=>some (.none,Y)
      | _=>none) else none
   L:=fun sc ρ Y e x xs=>match xs with
    | []=>some ([],Y)
    | v :: rest=>match r.E sc ((x,v) :: ρ) Y e with
      | some (.str y,Y)=>bif ch Y then
         (match r.L sc ρ Y e x rest with
         | some (ys,Y)=>some (.str y :: ys,Y)
         | none=>none)
        else none
      | _=>none }
section
variable {γ:Type}{P:Prop}{y:γ}
theorem m2{x:Option (V×af)}{f:V→af→Option γ}(h:(match x with | some (v,s)=>f v s | none=>none)=some y)(k:∀ v s,x=some (v,s)→f v s=some y→P):P:=by
 induction x using zO with
 | none=>exact nn h
 | some z=>exact k z.1 z.2 rfl h
theorem ml{x:Option (List V×af)}{f:List V→af→Option γ}(h:(match x with | some (v,s)=>f v s | none=>none)=some y)(k:∀ v s,x=some (v,s)→f v s=some y→P):P:=by
 induction x using zO with
 | none=>exact nn h
 | some z=>exact k z.1 z.2 rfl h
theorem mtt{x:Option (Bool×af)}{f g:af→Option γ}(h:(match x with | some (true,s)=>f s | some (false,s)=>g s | none=>none)=some y)(k:∀ s,x=some (true,s)→f s=some y→P)(l:∀ s,x=some (false,s)→g s=some y→P):P:=by
 induction x using zO with
 | none=>exact nn h
 | some z=>obtain⟨a,b⟩:=z;induction a using zB with
  | true=>exact k b rfl h
  | false=>exact l b rfl h
theorem mbl{b:Bool}{x:Option NameKind}{w:Option γ}(h:(match b,x with | false,some .local=>w | _,_=>none)=some y)(k:b=false→x=some .local→w=some y→P):P:=by
 induction b using zB with
 | true=>exact nn h
 | false=>induction x using zO with
  | none=>exact nn h
  | some z=>induction z using NameKind.casesOn with
   | «local» => exact k rfl rfl h
   | _=>exact nn h
theorem mbp{b:Bool}{x:Option (V×af)}{f:V→af→Option γ}(h:(match b,x with | false,some (v,s)=>f v s | _,_=>none)=some y)(k:∀ v s,b=false→x=some (v,s)→f v s=some y→P):P:=by
 induction b using zB with
 | true=>exact nn h
 | false=>induction x using zO with
  | none=>exact nn h
  | some z=>exact k z.1 z.2 rfl rfl h
theorem mse{x:Option (V×af)}{f:af→Option γ}(h:(match x with | some (.self,s)=>f s | _=>none)=some y)(k:∀ s,x=some (.self,s)→f s=some y→P):P:=by
 induction x using zO with
 | none=>exact nn h
 | some z=>obtain⟨a,b⟩:=z;induction a using zV with
  | self=>exact k b rfl h
  | _=>exact nn h
theorem mbo{x:Option (V×af)}{f:Bool→af→Option γ}(h:(match x with | some (.bool a,s)=>f a s | _=>none)=some y)(k:∀ a s,x=some (.bool a,s)→f a s=some y→P):P:=by
 induction x using zO with
 | none=>exact nn h
 | some z=>obtain⟨a,b⟩:=z;induction a using zV with
  | bool c=>exact k c b rfl h
  | _=>exact nn h
theorem mad{x:Option (V×af)}{f:Addr→af→Option γ}(h:(match x with | some (.addr a,s)=>f a s | _=>none)=some y)(k:∀ a s,x=some (.addr a,s)→f a s=some y→P):P:=by
 induction x using zO with
 | none=>exact nn h
 | some z=>obtain⟨a,b⟩:=z;induction a using zV with
  | addr c=>exact k c b rfl h
  | _=>exact nn h
theorem mi{x:Option (V×af)}{f:Int→af→Option γ}(h:(match x with | some (.int a,s)=>f a s | _=>none)=some y)(k:∀ a s,x=some (.int a,s)→f a s=some y→P):P:=by
 induction x using zO with
 | none=>exact nn h
 | some z=>obtain⟨a,b⟩:=z;induction a using zV with
  | int c=>exact k c b rfl h
  | _=>exact nn h
theorem ms{x:Option (V×af)}{f:List Nat→af→Option γ}(h:(match x with | some (.str a,s)=>f a s | _=>none)=some y)(k:∀ a s,x=some (.str a,s)→f a s=some y→P):P:=by
 induction x using zO with
 | none=>exact nn h
 | some z=>obtain⟨a,b⟩:=z;induction a using zV with
  | str c=>exact k c b rfl h
  | _=>exact nn h
theorem msl{x:Option (V×af)}{f:List Nat→af→Option γ}{g:List V→af→Option γ}(h:(match x with | some (.str a,s)=>f a s | some (.list a,s)=>g a s | _=>none)=some y)(k:∀ a s,x=some (.str a,s)→f a s=some y→P)(l:∀ a s,x=some (.list a,s)→g a s=some y→P):P:=by
 induction x using zO with
 | none=>exact nn h
 | some z=>obtain⟨a,b⟩:=z;induction a using zV with
  | str c=>exact k c b rfl h
  | list c=>exact l c b rfl h
  | _=>exact nn h
theorem mo{x:Option (Option Int×af)}{f:Option Int→af→Option γ}(h:(match x with | some (a,s)=>f a s | none=>none)=some y)(k:∀ a s,x=some (a,s)→f a s=some y→P):P:=by
 induction x using zO with
 | none=>exact nn h
 | some z=>exact k z.1 z.2 rfl h
theorem mcs{b:Bool}{x:Option (V×af)}{f:af→Option γ}{g:List Nat→af→Option γ}(h:(match b,x with | true,some (.self,s)=>f s | true,some (.str t,s)=>g t s | _,_=>none)=some y)(k:∀ s,b=true→x=some (.self,s)→f s=some y→P)(l:∀ t s,b=true→x=some (.str t,s)→g t s=some y→P):P:=by
 induction b using zB with
 | false=>exact nn h
 | true=>induction x using zO with
  | none=>exact nn h
  | some z=>obtain⟨a,b⟩:=z;induction a using zV with
   | self=>exact k b rfl rfl h
   | str t=>exact l t b rfl rfl h
   | _=>exact nn h
theorem mfn{x:Option Fn}{f:Fn→Option γ}(h:(match x with | some a=>f a | none=>none)=some y)(k:∀ a,x=some a→f a=some y→P):P:=by
 induction x using zO with
 | none=>exact nn h
 | some z=>exact k z rfl h
theorem mnl{x:Option V}{f:Option γ}(h:(match x with | none=>f | some _=>none)=some y)(k:x=none→f=some y→P):P:=by
 induction x using zO with
 | none=>exact k rfl h
 | some z=>exact nn h
theorem mes{x:Option (List V×af)}{f:List Nat→af→Option γ}(h:(match x with | some ([.str u],s)=>f u s | _=>none)=some y)(k:∀ u s,x=some ([.str u],s)→f u s=some y→P):P:=by
 induction x using zO with
 | none=>exact nn h
 | some z=>obtain⟨a,b⟩:=z;induction a using zL with
  | nil=>exact nn h
  | cons a r=>induction r using zL with
   | nil=>induction a using zV with
    | str u=>exact k u b rfl h
    | _=>exact nn h
   | cons _ _=>induction a using zV<;>exact nn h
def LP(f:af→af→Option (Fl×af×af))(y:Fl×af×af)(fl:Fl)(l s:af):Prop:=match fl with
 | .next=>f l s=some y
 | .cont=>f l s=some y
 | .brk=>(Fl.next,l,s)=y
 | .ret v=>(Fl.ret v,l,s)=y
 | .exc k=>(Fl.exc k,l,s)=y
theorem mlp{x:Option (Fl×af×af)}{f:af→af→Option (Fl×af×af)}{y:Fl×af×af}(h:(match x with | some (.next,l,s) | some (.cont,l,s)=>f l s | some (.brk,l,s)=>some (.next,l,s) | x=>x)=some y)(k:∀ fl l s,x=some (fl,l,s)→LP f y fl l s→P):P:=by
 induction x using zO with
 | none=>exact nn h
 | some z=>
  obtain⟨fl,l,s⟩:=z;refine k fl l s rfl ?_
  induction fl using Fl.casesOn<;>first | exact h | exact inj h
theorem mll{x:Option NameKind}{z:Option (List V×af)}{f:List V→af→Option γ}(h:(match x,z with | some .local,some (xs,s)=>f xs s | _,_=>none)=some y)(k:∀ xs s,x=some .local→z=some (xs,s)→f xs s=some y→P):P:=by
 induction x using zO with
 | none=>exact nn h
 | some w=>induction z using zO with
  | none=>induction w using NameKind.casesOn<;>exact nn h
  | some a=>induction w using NameKind.casesOn with
   | «local» => exact k a.1 a.2 rfl rfl h
   | _=>exact nn h
theorem mli{x:Option (V×af)}{f:List V→af→Option γ}(h:(match x with | some (.list a,s)=>f a s | _=>none)=some y)(k:∀ a s,x=some (.list a,s)→f a s=some y→P):P:=by
 induction x using zO with
 | none=>exact nn h
 | some z=>obtain⟨a,b⟩:=z;induction a using zV with
  | list c=>exact k c b rfl h
  | _=>exact nn h
theorem mgi{x:Option NameKind}{f:Option γ}(h:(match x with | some .globalImplicit=>f | _=>none)=some y)(k:x=some .globalImplicit→f=some y→P):P:=by
 induction x using zO with
 | none=>exact nn h
 | some z=>induction z using NameKind.casesOn with
  | globalImplicit=>exact k rfl h
  | _=>exact nn h
theorem mtr{x:Option (Bool×af)}{f:af→Option γ}(h:(match x with | some (true,s)=>f s | _=>none)=some y)(k:∀ s,x=some (true,s)→f s=some y→P):P:=by
 induction x using zO with
 | none=>exact nn h
 | some z=>obtain⟨a,b⟩:=z;induction a using zB with
  | true=>exact k b rfl h
  | false=>exact nn h
theorem mtry{x:Option (Fl×af×af)}{f:Addr→af→af→Option (Fl×af×af)}{y:Fl×af×af}(h:(match x with | some (.exc k,l,s)=>f k l s | x=>x)=some y)(k:∀ k l s,x=some (.exc k,l,s)→f k l s=some y→P)(l:x=some y→(∀ k,y.1≠.exc k)→P):P:=by
 induction x using zO with
 | none=>exact nn h
 | some z=>
  obtain⟨fl,a,b⟩:=z
  induction fl using Fl.casesOn with
  | exc e=>exact k e a b rfl h
  | _=>exact l h (by obtain rfl:=inj h;exact fun _ q=>nomatch q)
theorem mdg{b:Bool}{x:Option NameKind}{z:Option V}{f:Addr→Option γ}(h:(match b,x,z with | false,some .globalImplicit,some (.addr a)=>f a | _,_,_=>none)=some y)(k:∀ a,b=false→x=some .globalImplicit→z=some (.addr a)→f a=some y→P):P:=by
 induction b using zB with
 | true=>exact nn h
 | false=>induction x using zO with
  | none=>exact nn h
  | some w=>induction w using NameKind.casesOn with
   | globalImplicit=>induction z using zO with
    | none=>exact nn h
    | some v=>induction v using zV with
     | addr a=>exact k a rfl rfl rfl h
     | _=>exact nn h
   | _=>exact nn h
theorem mnx{x:Option (Fl×af×af)}{f:af→af→Option (Fl×af×af)}{y:Fl×af×af}(h:(match x with | some (.next,l,s)=>f l s | x=>x)=some y)(k:∀ l s,x=some (.next,l,s)→f l s=some y→P)(l:x=some y→y.1≠.next→P):P:=by
 induction x using zO with
 | none=>exact nn h
 | some z=>
  obtain⟨fl,a,b⟩:=z
  induction fl using Fl.casesOn with
  | next=>exact k a b rfl h
  | _=>exact l h (by obtain rfl:=inj h;exact fun q=>nomatch q)
theorem Ui{x:List Expr}{f:Expr→Expr→Option γ}(h:(match x with | [a,b]=>f a b | _=>none)=some y)(k:∀ a b,x=[a,b]→f a b=some y→P):P:=by
 induction x using zL with
 | nil=>exact nn h
 | cons a r=>induction r using zL with
  | nil=>exact nn h
  | cons b r=>induction r using zL with
   | nil=>exact k a b rfl h
   | cons _ _=>exact nn h
theorem mca{x:Option (V×af)}{f:Addr→af→Option γ}{g:V→af→Option γ}(h:(match x with | some (.addr a,s)=>f a s | some (v,s)=>g v s | none=>none)=some y)(k:∀ a s,x=some (.addr a,s)→f a s=some y→P)(l:∀ v s,x=some (v,s)→g v s=some y→P):P:=by
 induction x using zO with
 | none=>exact nn h
 | some z=>obtain⟨a,b⟩:=z;induction a using zV with
  | addr a=>exact k a b rfl h
  | _=>exact l _ b rfl h
theorem mft{x:Option (Bool×af)}{f g:af→Option γ}(h:(match x with | some (false,s)=>f s | some (true,s)=>g s | none=>none)=some y)(k:∀ s,x=some (false,s)→f s=some y→P)(l:∀ s,x=some (true,s)→g s=some y→P):P:=by
 induction x using zO with
 | none=>exact nn h
 | some z=>obtain⟨a,b⟩:=z;induction a using zB with
  | true=>exact l b rfl h
  | false=>exact k b rfl h
theorem TH{x:Option (Bool×af)}{f:Bool→af→Option γ}(h:(match x with | some (b,s)=>f b s | none=>none)=some y)(k:∀ b s,x=some (b,s)→f b s=some y→P):P:=by
 induction x using zO with
 | none=>exact nn h
 | some z=>exact k z.1 z.2 rfl h
theorem mla{x:Option NameKind}{z:Option V}{f:V→Option γ}(h:(match x,z with | some .local,some a=>f a | _,_=>none)=some y)(k:∀ a,x=some .local→z=some a→f a=some y→P):P:=by
 induction x using zO with
 | none=>exact nn h
 | some w=>induction z using zO with
  | none=>induction w using NameKind.casesOn<;>exact nn h
  | some a=>induction w using NameKind.casesOn with
   | «local» => exact k a rfl rfl h
   | _=>exact nn h
theorem mta{b:Bool}{z:Option V}{f:V→Option γ}(h:(match b,z with | true,some a=>f a | _,_=>none)=some y)(k:∀ a,b=true→z=some a→f a=some y→P):P:=by
 induction b using zB with
 | false=>exact nn h
 | true=>induction z using zO with
  | none=>exact nn h
  | some a=>exact k a rfl rfl h
end
end
end
abbrev jG(h h':Heap):Prop:=∀ b o,h.get? b=some o→h'.get? b=some o
theorem bq.keeps{c:Cx}{h h':Heap}(k:jG h h'){v:Value}{y:V}(r:bq c h v y):bq c h' v y:=r.ext (.of_keeps k)
theorem RepL.keeps{c:Cx}{h h':Heap}(k:jG h h'){v:List Value}{y:List V}(r:RepL c h v y):RepL c h' v y:=r.ext (.of_keeps k)
structure bE(c:Cx)(A:Around)(env:Env)(ρ Y:af)(s:Shared):Prop where
 act:tx c A s.heap
 vars:dE c s.heap env ρ
 self:bS c s.heap Y
 tk:0<s.toks
def PE(c:Cx)(A:Around)(env:Env)(ρ Y':af)(y:V)(s:Shared)(v:Value)(s':Shared):Prop:=
 bE c A env ρ Y' s'∧bq c s'.heap v y∧dA (only c.dx) s.heap s'.heap∧fq s s'
theorem bp.keeps{c:Cx}{h h':Heap}(k:jG h h'){l:List Env}:bp c h l→bp c h' l:=
 bp.map fun _ o es n _ ho hc hd=>⟨o,es,n,k _ _ ho,hc,hd⟩
theorem tx.keeps{c:Cx}{A:Around}{h h':Heap}(k:jG h h')(a:tx c A h):tx c A h':=
 ⟨fun b o e=>k _ _ (a.base b o e),let ⟨v,l,e,f⟩:=a.frames;⟨v,l,e,f.keeps k⟩,a.handled⟩
theorem dE.keeps{c:Cx}{h h':Heap}{env:Env}{ρ:af}(k:jG h h')(v:dE c h env ρ):dE c h' env ρ:=by
 refine ed (v.ns) fun m o zz=>pG zz fun hn ho hc hd hb hl=>?_
 refine⟨m,o,hn.keeps k,k _ _ ho,hc,hd,hb,fun n V e=>?_⟩;obtain⟨w,r,q⟩:=hl n V e;refine⟨w,r.keeps k,q.imp id fun ⟨q1,cl,oc,a,b,d⟩=>⟨q1,cl,oc,a,k _ _ b,d⟩⟩
theorem bS.keeps{c:Cx}{h h':Heap}{Y:af}(k:jG h h')(v:bS c h Y):bS c h' Y:=by
 obtain⟨⟨o,ho,r⟩,⟨m,od,es,ep,hn,hod,hc,hd,hz,hl⟩⟩:=v;refine⟨⟨o,k _ _ ho,r⟩,⟨m,od,es,ep,hn.keeps k,k _ _ hod,hc,hd,hz,fun n=>?_⟩⟩;have:=hl n;split at this
 ·rename_i V e;obtain⟨w,a,b⟩:=this;exact⟨w,a,b.keeps k⟩
 ·exact this
theorem bE.grow{c:Cx}{A:Around}{env:Env}{ρ Y:af}{s s':Shared}(N:bE c A env ρ Y s)(k:jG s.heap s'.heap)(t:0<s'.toks):bE c A env ρ Y s':=
 ⟨N.act.keeps k,N.vars.keeps k,N.self.keeps k,t⟩
theorem PE.of{c:Cx}{A:Around}{env:Env}{ρ Y:af}{y:V}{s s':Shared}{v:Value}(N:bE c A env ρ Y s)(k:jG s.heap s'.heap)(t:0<s'.toks)(r:bq c s'.heap v y)(g:s'.gens=s.gens)(o:s'.os=s.os):PE c A env ρ Y y s v s':=
 ⟨N.grow k t,r,.of_keeps k,g,o⟩
theorem PE.here{c:Cx}{A:Around}{env:Env}{ρ Y:af}{y:V}{s:Shared}{v:Value}(N:bE c A env ρ Y s)(r:bq c s.heap v y):PE c A env ρ Y y s v s:=
 ⟨N,r,.refl,.refl s⟩
theorem PE.tok{c:Cx}{A:Around}{env:Env}{ρ Y:af}{y:V}{s:Shared}{v:Value}{t:Nat}(N:bE c A env ρ Y s)(r:bq c s.heap v y)(ht:0<t):PE c A env ρ Y y s v { s with toks:=t }:=
 .of N (fun _ _ e=>e) ht r rfl rfl
theorem B3{c:Cx}{A:Around}{E:Value→Shared→Prop}{env:Env}{ρ Y:af}{s:Shared}{n:Str}{V:V}{pos:Pos}{Q:Value→Shared→Prop}(O:bP env)(N:bE c A env ρ Y s)(hl:look ρ n=some V)(hd:n≠"__debug__")(hcd:n≠"__classdict__")
  (h:∀ v,bq c s.heap v V→Q v s):wpAny c.M A (eval (.Name n pos) env) Q E s:=by
 refine ed (N.vars.ns) fun m o zz=>pG zz fun hn ho hc hx hb hl'=>?_
 obtain⟨v,r,q⟩:=hl' n V hl;refine wpAny_Name ?_ (by simpa using hd);rcases q with ⟨q,e⟩ | ⟨q | q,cl,oc,e1,e2,e3,e4,e5⟩
 ·exact wpAny_loadName_local O.kind q hn e (h v r)
 ·exact wpAny_loadName_cell O.kind q e1 ⟨oc,e2,e4⟩ (h v r)
 ·exact wpAny_loadName_free O.kind q e1 ⟨oc,e2,e4⟩ (h v r) (by simpa using hcd)
noncomputable def gval(K:Frag)(n:Str):Option Value:=match nsIn K 3 n with
 | some (some v)=>some v
 | some none=>(match nsIn K 0 n with
  | some (some v)=>some v
  | _=>none)
 | none=>none
theorem oU{K:Frag}{M:Model}{h:Heap}{env:Env}(X:K.In h)(O:bP env){n:Str}{v:Value}(e:gval K n=some v):Looks M h (loadGlobal env n) v:=by
 unfold gval at e;unfold loadGlobal;rw[O.glob,O.blt];split at e
 ·rename_i w q;cases e;exact (looks_nsIn X q).andThen .now
 ·rename_i q;split at e
  ·rename_i w q2;cases e;exact (looks_nsIn X q).andThen ((looks_nsIn X q2).andThen .now)
  ·cases e
 ·cases e
theorem lI{c:Cx}{A:Around}{E:Value→Shared→Prop}{env:Env}{s:Shared}{n:Str}{v:Value}{pos:Pos}{Q:Value→Shared→Prop}(B:cv c)(O:bP env)(N:tx c A s.heap)(hk:env.kindOf n=some .globalImplicit)(hd:n≠"__debug__")
  (e:gval (K c.w.params) n=some v) (h:Q v s):wpAny c.M A (eval (.Name n pos) env) Q E s:=
 Name_function_global O.kind hk ((oU (N.k B) O e).here h) (by simpa using hd)
inductive pm(p:Params):Value→V→Prop
 | addr (a:Addr):pm p (.ref a) (.addr a)
 | bi (id:String) (hh:handedIn (.builtin id)=true):pm p (.builtin id) (.bi id)
 | ty (n:String):pm p (.type n) (.ty n)
 | gv:pm p (.ref 230) .gv
 | texts {a:Addr} {d:Option Addr} {vs:List Value} {n:Nat} {sl} {xs:List V} (ho:(K p).lookup a=some ⟨.type "list",d,.seq vs.toArray n,sl⟩) (hx:vs.map (fun v=>match v with | .str s _=>V.str s.cps.toList | _=>.none)=xs) (hv:vs.all (fun v=>match v with | .str s _=>Nat.ble s.cps.toList.length 1048576 | _=>false)=true) (hb:Nat.ble vs.length 1048576=true):pm p (.ref a) (.list xs)
 | amgs {a:Addr} {d:Option Addr} {n k m:Nat} {sl} (ho:(K p).lookup a=some ⟨.type "list",d,.seq (((amongs.drop k).take m).map fun e=>.ref (e.d+1)).toArray n,sl⟩):pm p (.ref a) (amgs k m)
theorem xg{c:Cx}{h:Heap}{vs:List Value}:vs.all (fun v=>match v with | .str s _=>Nat.ble s.cps.toList.length 1048576 | _=>false)=true→RepL c h vs (vs.map (fun v=>match v with | .str s _=>V.str s.cps.toList | _=>.none)):=by
 induction vs with
 | nil=>exact fun _=>.nil
 | cons v r ih=>
  intro e;rw[List.all_cons,Bool.and_eq_true] at e;refine .cons ?_ (ih e.2);have e:=e.1
  induction v using Value.casesOn with
  | str s t=>obtain⟨⟨l⟩⟩:=s;exact .str l t (le_of_ble_eq_true e)
  | _=>exact nf e
theorem pW{c:Cx}{h:Heap}:∀ {l:List aF},(∀ e∈l,e∈amongs)→RepL c h (l.map fun e=>.ref (e.d+1)) (l.map fun e=>.amg e.s.cps.toList e.i e.r)
 | [],_=>.nil
 | e :: r,q=>.cons (.amg e (q e (.head _))) (pW fun x hx=>q x (.tail _ hx))
theorem Eo:amongs.length≤1048576:=le_of_ble_eq_true (by rfl')
theorem pm.rep{c:Cx}{h:Heap}(B:cv c)(k:∀ b o,c.hB.get? b=some o→h.get? b=some o){v:Value}{y:V}(x:pm c.w.params v y):bq c h v y:=by
 have ne:∀ {a o},(K c.w.params).lookup a=some o→a≠c.dx:=fun e q=>by
  subst q;have:=B.k _ _ e;rw[B.dx] at this;cases this
 cases x with
 | addr a=>exact .addr a
 | bi id hh=>exact .bi id hh
 | ty n=>exact .ty n
 | gv=>exact .gv
 | texts ho hx hv hb=>subst hx;exact .list (k _ _ (B.k _ _ ho)) rfl rfl (ne ho) (by rw[length_map];exact le_of_ble_eq_true hb) (xg hv)
 | amgs ho=>exact .list (k _ _ (B.k _ _ ho)) rfl rfl (ne ho) (by rw[length_map,length_take,length_drop];exact le_trans (Nat.min_le_right _ _) (le_trans (Nat.sub_le _ _) Eo)) (pW fun e he=>List.mem_of_mem_drop (List.mem_of_mem_take he))
theorem yp(n:Str)(v:V):∀ l:af,l.length≤(put l n v).length∧(look l n=none→(put l n v).length=l.length+1)
 | []=>⟨zero_le _,fun _=>rfl⟩
 | p :: r=>by
  unfold put look;by_cases h:p.1=n
  ·simp[h]
  ·simp only[h,if_false,length_cons];obtain⟨a,b⟩:=yp n v r;exact⟨by ext,fun q=>by rw[b q]⟩
theorem An{es:Array DictEntry}{n:Nat}(h:es.size≤1000):(Data.dict es n).pastItsLine=none:=pastItsLine_dict (by rw[sizeLine_eq];ext)
theorem wn{name:Str}{h:Int}{key v c:Value}{d:Option Addr}{es:Array DictEntry}{n i:Nat}{s:Array (Option Value)}(hi:es.findIdx? (·.key.isStr name)=some i):Obj.putName name h key v ⟨c,d,.dict es n,s⟩=⟨c,d,.dict (es.modify i fun e=>{ e with val:=v }) n,s⟩:=by
 rw[Obj.putName_eq];unfold Obj.putNameByArray;simp only[hi]
theorem vq{name:Str}{h:Int}{key v c:Value}{d:Option Addr}{es:Array DictEntry}{n:Nat}{s:Array (Option Value)}(hi:es.findIdx? (·.key.isStr name)=none):Obj.putName name h key v ⟨c,d,.dict es n,s⟩=⟨c,d,.dict (es.push ⟨h,key,v⟩) (n+1),s⟩:=by
 rw[Obj.putName_eq];unfold Obj.putNameByArray;simp only[hi]
theorem nA{M:Model}{A:Around}{E:Value→Shared→Prop}{s:Shared}{a:Addr}{m}{o:Obj}{es:Array DictEntry}{ep:Nat}{name:Str}{v:Value}{Q:Unit→Shared→Prop}(hn:s.heap.Ns a m)(ho:s.heap.get? a=some o)(hd:o.data=.dict es ep)
  (h:∀ h' o' es' ep',h'.Ns a (fun x=>if x=name then some v else m x)→Heap.SameBut a s.heap h'→h'.get? a=some o'→o'.cls=o.cls→o'.data=.dict es' ep'→es'.size≤es.size+1→(∀ w,m name=some w→es'.size=es.size)→Q () { s with heap:=h',toks:=s.toks+1 }):
  wpAny M A (nsSet a name v) Q E s:=by
 intro Γ p _;have hn':=hn;obtain⟨o₁,es₁,ep₁,ho₁,hd₁,hk,hm⟩:=hn;obtain rfl:o₁=o:=inj (ho₁.symm.trans ho);obtain⟨rfl,rfl⟩:es₁=es∧ep₁=ep:=by rw[hd₁] at hd;cases hd;exact⟨rfl,rfl⟩
 simp only[nsSet,strHash,Sem.wp_bind',Sem.wp_cmd_ask,Sem.wp_pure',Sem.wp_cmd_mkText];rw[Sem.wp_loadPart_of M Γ _ p { s with toks:=s.toks+1 } (o:=o₁) _ ho];have hany:es₁.any (·.refKey)=false:=by
  rw[Array.any_eq_false'];intro e he;obtain⟨n,t,h⟩:=hk e he;simp[DictEntry.refKey,h]
 simp only[hd,aRefKeyMayBeTheName_eq,aRefKeyMayBeTheNameByArray,hany,Bool.and_false,Bool.false_eq_true,if_false,Sem.wp_cmd_updatePart];refine⟨by rw[ho];rfl,?_⟩;obtain⟨c,d,dt,sl⟩:=o₁;subst hd;have hf:nsFind es₁ name=m name:=hm name;cases hi:es₁.findIdx? (·.key.isStr name) with
 | some i=>
  have g:∀ (hh:Int) (key:Value),(s.heap.update a (Obj.putName name hh key v)).get? a=some ⟨c,d,.dict (es₁.modify i fun e=>{ e with val:=v }) ep₁,sl⟩:=fun hh key=>(Heap.get?_update_self _ ho (by rw[wn hi];rfl)).trans (congrArg some (wn hi))
  refine h _ _ _ ep₁ ⟨_,_,ep₁,g _ _,rfl,hk.modify _ _,fun x=>?_⟩ (Heap.SameBut.update ..) (g _ _) rfl rfl (by rw[Array.size_modify];exact Nat.le_succ _) (fun _ _=>Array.size_modify);show _=if x=name then some v else m x
  rw[←hm];exact findBy_modify (fun n v=>v.isStr n) Value.isStr_inj es₁ name x v i hi
 | none=>
  have g:∀ (hh:Int) (key:Value),(s.heap.update a (Obj.putName name hh key v)).get? a=some ⟨c,d,.dict (es₁.push ⟨hh,key,v⟩) (ep₁+1),sl⟩:=fun hh key=>(Heap.get?_update_self _ ho (by rw[vq hi];rfl)).trans (congrArg some (vq hi))
  refine h _ _ _ (ep₁+1) ⟨_,_,ep₁+1,g _ _,rfl,hk.push _ _ _ _,fun x=>?_⟩ (Heap.SameBut.update ..) (g _ _) rfl rfl (Nat.le_of_eq (Array.size_push _)) (fun w q=>?_)
  ·show _=if x=name then some v else m x
   rw[←hm];exact findBy_push (fun n v=>v.isStr n) es₁ name x _ _ v (fun y=>by
    show (name==y)=decide (y=name);by_cases h:y=name
    ·subst h;simp
    ·have:¬ name=y:=fun e=>h e.symm
     simp[h,this]) hi
  ·rw[q] at hf;unfold nsFind at hf;rw[findBy_of_findIdx?,hi] at hf;cases hf
noncomputable def vX(K:Frag)(n:Str):Bool:=(match findIn K (.ref 888) n with
 | some none=>true
 | some (some a)=>specialIn K a "__get__" == some none
 | none=>false)&&takerIn K 888 n==some none
theorem DV(p:Params):sq.all (vX (K p))=true:=by rfl'
theorem zp{p:Params}{n:Str}(h:dN n=true):vX (K p) n=true:=by
 obtain⟨m,hm,e⟩:=List.any_eq_true.mp h;obtain rfl:=of_decide_eq_true e;exact List.all_eq_true.mp (DV p) m hm
theorem Od(p:Params):(clsIn (K p) 888).any (·.hasDict)=true:=by rfl'
theorem Aa(p:Params):∃ cd,clsIn (K p) 888=some cd∧cd.hasDict=true:=any_some (Od p)
theorem EC(p:Params):findIn (K p) (.ref 888) "__getattribute__"=some (some (.builtin "object.__getattribute__")):=by rfl'
theorem MZ(p:Params):findIn (K p) (.ref 888) "__setattr__"=some (some (.builtin "object.__setattr__")):=by rfl'
theorem L7(p:Params):plainOver (K p) 888=true:=by rfl'
theorem pT{h:Heap}{a:Addr}{m}{o:Obj}(hn:h.Ns a m)(ho:h.get? a=some o)(n:Str):lookIn n o=some (m n):=by
 refine gy (hn) fun o₁ es ep zz=>pK zz fun ho₁ hd hk hm=>?_
 obtain rfl:o₁=o:=inj (ho₁.symm.trans ho);unfold lookIn;rw[hd];dsimp only;have e:=hm n;unfold nsFind findBy at e;rw[←Array.find?_toList] at e;cases hf:es.toList.find? (fun e=>e.key.isStr n) with
 | some en=>rw[hf] at e;simp only[Option.map_some] at e ⊢;rw[e]
 | none=>
  rw[hf] at e;simp only[Option.map_none] at e;have hany:es.toList.any (·.refKey)=false:=by
   rw[List.any_eq_false];intro x hx;obtain⟨n,t,h⟩:=hk x (Array.mem_toList_iff.mp hx);simp[DictEntry.refKey,h]
  simp only[hany,Bool.false_eq_true,if_false,e]
theorem bS.at{c:Cx}{h:Heap}{Y:af}(v:bS c h Y):∃ ox od,InstAt h c.x ox 888 (some od)∧h.get? c.dx=some od∧ox.dict=some c.dx:=by
 obtain⟨⟨o,ho,hc,hd,hp⟩,⟨m,od,es,ep,hn,hod,_⟩⟩:=v;exact⟨o,od,⟨ho,hc,by unfold notCls;rw[hp],by rw[hd];exact hod⟩,hod,hd⟩
theorem bq.handed{c:Cx}{h:Heap}{v:Value}{y:V}(r:bq c h v y):handedIn v=true:=by
 cases r<;>first | rfl | assumption
theorem vk{c:Cx}{A:Around}{E:Value→Shared→Prop}{env:Env}{ρ Y:af}{s:Shared}{n:Str}{V:V}{expr:Bool}{Q:Value→Shared→Prop}(B:cv c)(N:bE c A env ρ Y s)(hf:dN n=true)(hl:look Y n=some V)
  (h:∀ v,bq c s.heap v V→Q v { s with toks:=s.toks+1 }):wpAny c.M A (getAttr (.ref c.x) n expr) Q E s:=by
 refine ed (N.self.at) fun ox od zz=>ee zz fun I hod hdx=>?_
 refine jI (N.self.flds) fun m od' es ep zz=>pG zz fun hn hod' hc hd hz hm=>?_
 obtain rfl:od=od':=inj (hod.symm.trans hod');have:=hm n;rw[hl] at this;obtain⟨v,e,r⟩:=this;have X:=N.act.k B;have fo:=zp (p:=c.w.params) hf;unfold vX at fo;simp only[Bool.and_eq_true,beq_iff_eq] at fo;obtain⟨cd,hcd,hh⟩:=Aa c.w.params;have own:PySem.W.ownOf cd (some od) n=some (some v):=by
  unfold PySem.W.ownOf;rw[hh,if_pos rfl];rw[←e];exact pT hn hod n
 have hfo:findObj (K c.w.params) 888 (some od) n=some (.value v):=by
  unfold findObj;rw[hcd,Option.bind_some];split at fo
  ·rename_i q;rw[q,Option.bind_some,Option.bind_some,Option.bind_some];show (PySem.W.ownOf cd (some od) n).bind _=_;rw[own];rfl
  ·rename_i a q;have fo1:=fo.1;rw[beq_iff_eq] at fo1;rw[q,Option.bind_some];dsimp only;rw[fo1,Option.bind_some,Option.bind_some];show (PySem.W.ownOf cd (some od) n).bind _=_;rw[own];rfl
  ·exact absurd fo.1 (by decide)
 have hv:handedIn v=true:=r.handed;exact get_value X I (EC _) hfo hv (h v r)
end Mine.Internal
namespace Mine.Internal
theorem Ns.slots{h h':Heap}{a:Addr}{m}{o:Obj}(n:h.Ns a m)(ho:h.get? a=some o){sl}(e:h'.get? a=some { o with slots:=sl }):h'.Ns a m:=by
 refine gy (n) fun o₁ es ep zz=>pK zz fun ho₁ hd hk hm=>?_
 obtain rfl:o₁=o:=inj (ho₁.symm.trans ho);exact⟨_,es,ep,e,hd,hk,hm⟩
theorem dE.ext{c:Cx}{h h':Heap}{env:Env}{ρ:af}(x:dA (only c.dx) h h')(v:dE c h env ρ):dE c h' env ρ:=by
 refine ed (v.ns) fun m o zz=>pG zz fun hn ho hc hd hb hl=>?_
 have cells:∀ n V,look ρ n=some V→∃ v,bq c h' v V∧((env.kindOf n=some .local∧m n=some v)∨
   ((env.kindOf n=some .cell∨env.kindOf n=some .free)∧∃ cl o,env.cells.lookup n=some cl∧h'.get? cl=some o∧o.cls=.type "cell" ∧ o.data=.cell (some v)∧cl≠c.dx)):=fun n V e=>by
  obtain⟨w,r,q⟩:=hl n V e;exact⟨w,r.ext x,q.imp id fun ⟨q1,cl,oc,a,b,d,f,g⟩=>⟨q1,cl,oc,a,((x _ _ b g).1) (by rw[d];decide),d,f,g⟩⟩
 rcases hc with hc | hc
 ·obtain⟨sl,e⟩:=((x _ _ ho hd).2) hc;exact⟨m,_,Ns.slots hn ho e,e,.inl hc,hd,hb,cells⟩
 ·have e:=((x _ _ ho hd).1) (by rw[hc];decide);refine gy (hn) fun o₁ es ep zz=>And.elim (fun ho₁ r=>?_) zz
  obtain rfl:o₁=o:=inj (ho₁.symm.trans ho);exact⟨m,o₁,⟨o₁,es,ep,e,r⟩,e,.inr hc,hd,hb,cells⟩
theorem bp.ext1{c:Cx}{h h':Heap}(x:dA (only c.dx) h h')(hd:∀ o,h.get? c.dx=some o→o.cls=.type "dict"){l:List Env}:bp c h l→bp c h' l:=
 bp.map fun L o es n hb ho hc hdt=>by
  obtain⟨sl,q⟩:=((x L o ho fun q=>absurd (hc.symm.trans (hd o ((show L=c.dx from q) ▸ ho))) (by decide)).2) hc;exact⟨_,es,n,q,hc,hdt⟩
theorem bS.dxDict{c:Cx}{h:Heap}{Y:af}(v:bS c h Y):∀ o,h.get? c.dx=some o→o.cls=.type "dict":=fun o e=>by
 refine jI (v.flds) fun _ od _ _ zz=>pK zz fun _ hod hc _=>?_
 obtain rfl:=inj (hod.symm.trans e);exact hc
theorem bS.neX{c:Cx}{h:Heap}{Y:af}(v:bS c h Y):c.x≠c.dx:=fun e=>by
 refine Exists.elim (v.inst) fun o zz=>ee zz fun ho hc _=>?_
 rw[e] at ho;exact absurd (hc.symm.trans (v.dxDict o ho)) (by intro q;cases q)
theorem bE.ext{c:Cx}{A:Around}{env:Env}{ρ Y Y':af}{s s':Shared}(N:bE c A env ρ Y s)(x:dA (only c.dx) s.heap s'.heap)(b:∀ b o,c.hB.get? b=some o→s'.heap.get? b=some o)(S:bS c s'.heap Y')(t:0<s'.toks):bE c A env ρ Y' s':=
 ⟨⟨b,let ⟨v,l,e,f⟩:=N.act.frames;⟨v,l,e,f.ext1 x N.self.dxDict⟩,N.act.handled⟩,N.vars.ext x,S,t⟩
theorem bS.put{c:Cx}{h h':Heap}{Y:af}{n:Str}{V:V}{v:Value}{m}{o':Obj}{es es':Array DictEntry}{ep':Nat}(S:bS c h Y)(hs:Heap.SameBut c.dx h h')(hn:h.Ns c.dx m)(hm:∀ n,match look Y n with | some V=>∃ v,m n=some v∧bq c h v V | none=>m n=none)(hz:es.size≤Y.length)
  (hn':h'.Ns c.dx (fun x=>if x=n then some v else m x)) (ho':h'.get? c.dx=some o') (hc':o'.cls=.type "dict") (hd':o'.data=.dict es' ep') (z1:es'.size≤es.size+1) (z2:∀ w,m n=some w→es'.size=es.size) (r:bq c h v V):bS c h' (put Y n V):=by
 have x:dA (only c.dx) h h':=dA.of_but hs rfl;refine Exists.elim (S.inst) fun o zz=>pK zz fun ho hc hd hp=>?_
 refine⟨⟨o,(hs.2 _ S.neX).trans ho,hc,hd,hp⟩,⟨_,o',es',ep',hn',ho',hc',hd',?_,fun k=>?_⟩⟩
 ·obtain⟨p1,p2⟩:=yp n V Y;have:=hm n;split at this
  ·obtain⟨w,e,_⟩:=this;rw[z2 w e];ext
  ·rename_i e;rw[p2 e];ext
 ·rw[d9];by_cases e:k=n
  ·subst e;simp only[if_true];exact⟨v,rfl,r.ext x⟩
  ·simp only[if_neg e];have:=hm k;cases hk:look Y k with
   | some U=>
    rw[hk] at this;obtain⟨w,a,b⟩:=this;exact⟨w,a,b.ext x⟩
   | none=>rw[hk] at this;exact this
theorem wm{c:Cx}{A:Around}{E:Value→Shared→Prop}{env:Env}{ρ Y:af}{s:Shared}{n:Str}{V:V}{v:Value}{Q:Unit→Shared→Prop}(B:cv c)(N:bE c A env ρ Y s)(hf:dN n=true)(hl:Y.length≤100)(r:bq c s.heap v V)
  (h:∀ h' tk,0<tk→bE c A env ρ (put Y n V) { s with heap:=h',toks:=tk }→dA (only c.dx) s.heap h'→Q () { s with heap:=h',toks:=tk }):wpAny c.M A (setAttr (.ref c.x) n v) Q E s:=by
 obtain⟨ox,od,I,hod,hdx⟩:=N.self.at;obtain⟨m,od',es,ep,hn,hod',hc,hd,hz,hm⟩:=N.self.flds;obtain rfl:od=od':=inj (hod.symm.trans hod');have X:=N.act.k B;have fo:=zp (p:=c.w.params) hf;unfold vX at fo;simp only[Bool.and_eq_true,beq_iff_eq] at fo;obtain⟨cd,hcd,hh⟩:=Aa c.w.params;obtain⟨heap,gens,drawn,toks,os⟩:=s;refine set_plain X I (MZ _) (osa_open (s:=⟨heap,gens,drawn,toks+1,os⟩) X I (L7 _) fo.2 fun b=>?_);obtain⟨hx,hcl,hno, -⟩:=I;obtain⟨oc,odi,oda,osl⟩:=ox;dsimp only at hcl hdx;subst hcl hdx;refine wpAny_bind (wpAny_pure (wpAny_bind (wpAny_bind (wpAny_loadPart hx (wpAny_bind ((looks_clsIn (h:=heap) X hcd).at ?_))))));rw[hh];refine wpAny_pure (a:=some c.dx) (wpAny_bind (wpAny_pure (wpAny_bind ?_)));refine nA hn hod hd fun h' o' es' ep' hn' hs ho' hc' hd' z1 z2=>?_
 have x:dA (only c.dx) heap h':=dA.of_but hs rfl;have S':=N.self.put hs hn hm hz hn' ho' (hc'.trans hc) hd' z1 z2 r;refine wpAny_bind (wpAny_lookBehind ho' (by rw[hd'];exact An (by ext)) ?_);refine wpAny_pure (h _ _ (Nat.succ_pos _) (N.ext x (fun b o e=>(hs.2 b fun q=>by subst q;rw[B.dx] at e;cases e).trans (N.act.base b o e)) S' (Nat.succ_pos _)) x)
section
set_option tactic.hygienic false
theorem Qs(p:Params):amongs.map (fun e=>(K p).lookup (e.d+1))=amongs.map fun e=>some (aY e.d):=by rfl'
theorem PJ(p:Params):amongs.map (fun e=>(K p).lookup e.d)=amongs.map fun e=>some (aR p e):=by rfl'
theorem lP{α β:Type}{f g:α→β}:∀ {l:List α},l.map f=l.map g→∀ a∈l,f a=g a
 | x :: r,e,a,h=>by
  rw[map_cons,map_cons,List.cons.injEq] at e;cases h with
  | head=>exact e.1
  | tail _ h=>exact lP e.2 a h
theorem fT{n:Str}{V:V}:∀ {l:af},look l n=some V→(n,V)∈l
 | p :: r,e=>by
  unfold look at e;split at e
  ·rename_i q;cases e;subst q;exact .head _
  ·exact .tail _ (fT e)
theorem eG{n:Str}{f:Fn}:∀ {l:List (Str×Fn)},vS n l=some f→(n,f)∈l
 | p :: r,e=>by
  unfold vS at e;split at e
  ·rename_i q;cases e;subst q;exact .head _
  ·exact .tail _ (eG e)
theorem lN{a:Addr}{f:Fn}:∀ {l:List Fn},wb a l=some f→f∈l∧f.f=a
 | p :: r,e=>by
  unfold wb at e;cases q:Nat.beq p.f a with
  | true=>rw[q] at e;cases e;exact⟨.head _,Nat.eq_of_beq_eq_true q⟩
  | false=>rw[q] at e;exact⟨.tail _ (lN e).1,(lN e).2⟩
noncomputable def uf(o:Obj):List Value:=match o.data with | .seq xs _=>xs.toList | _=>[]
def Ay(p:Params)(q:Str×V):Prop:=∃ v,gval (K p) q.1=some v∧pm p v q.2
theorem uI(p:Params):∀ q∈globs,Ay p q:=by
 unfold globs
 repeat' (first | exact List.forall_mem_nil _ | refine List.forall_mem_cons.mpr ⟨?_,?_⟩)
 ·exact⟨.ref 936,by rfl',.addr _⟩
 ·exact⟨.ref 943,by rfl',.addr _⟩
 ·exact⟨.ref 950,by rfl',.addr _⟩
 ·exact⟨.ref 957,by rfl',.addr _⟩
 ·exact⟨.ref 965,by rfl',.addr _⟩
 ·exact⟨.ref 972,by rfl',.addr _⟩
 ·exact⟨.ref 979,by rfl',.addr _⟩
 ·exact⟨.ref 986,by rfl',.addr _⟩
 ·exact⟨.ref 993,by rfl',.addr _⟩
 ·exact⟨.ref 1000,by rfl',.addr _⟩
 ·exact⟨.ref 1007,by rfl',.addr _⟩
 ·exact⟨.ref 1014,by rfl',.addr _⟩
 ·exact⟨.ref 1021,by rfl',.addr _⟩
 ·exact⟨.ref 1028,by rfl',.addr _⟩
 ·exact⟨.ref 1033,by rfl',.addr _⟩
 ·exact⟨.ref 888,by rfl',.addr _⟩
 ·exact⟨.ref 900,by rfl',.addr _⟩
 ·exact⟨.ref 913,by rfl',.addr _⟩
 ·exact⟨.ref 926,by rfl',.addr _⟩
 ·exact⟨.ref 958,by rfl',.texts (d:=none) (n:=0) (sl := #[]) (vs:=uf (yK p)) (by rfl') (by rfl') (by rfl') (by rfl')⟩
 ·exact⟨.ref 959,by rfl',.texts (d:=none) (n:=0) (sl := #[]) (vs:=uf (Ao p)) (by rfl') (by rfl') (by rfl') (by rfl')⟩
 ·exact⟨.ref 960,by rfl',.texts (d:=none) (n:=0) (sl := #[]) (vs:=uf (BO p)) (by rfl') (by rfl') (by rfl') (by rfl')⟩
 ·exact⟨.builtin "len",by rfl',.bi _ (by rfl')⟩
 ·exact⟨.builtin "ord",by rfl',.bi _ (by rfl')⟩
 ·exact⟨.builtin "min",by rfl',.bi _ (by rfl')⟩
 ·exact⟨.type "range",by rfl',.ty _⟩
 ·exact⟨.type "list",by rfl',.ty _⟩
theorem wu(p:Params){n:Str}{V:V}(h:glob n=some V):∃ v,gval (K p) n=some v∧pm p v V:=uI p _ (fT h)
def B7(p:Params)(q:Str×V):Prop:=∃ v,findCls (K p) (.ref 888) (.type "type") q.1=some (.val v)∧pm p v q.2∧handedIn v=true
theorem x7(p:Params):∀ q∈pj.tail,B7 p q:=by
 unfold pj;dsimp only[List.tail]
 repeat' (first | exact List.forall_mem_nil _ | refine List.forall_mem_cons.mpr ⟨?_,?_⟩)
 ·exact⟨.ref 310,by rfl',.amgs (d:=none) (n:=0) (sl := #[]) (by rfl'),by rfl⟩
 ·exact⟨.ref 320,by rfl',.amgs (d:=none) (n:=0) (sl := #[]) (by rfl'),by rfl⟩
 ·exact⟨.ref 333,by rfl',.amgs (d:=none) (n:=0) (sl := #[]) (by rfl'),by rfl⟩
 ·exact⟨.ref 343,by rfl',.amgs (d:=none) (n:=0) (sl := #[]) (by rfl'),by rfl⟩
 ·exact⟨.ref 353,by rfl',.amgs (d:=none) (n:=0) (sl := #[]) (by rfl'),by rfl⟩
 ·exact⟨.ref 489,by rfl',.amgs (d:=none) (n:=0) (sl := #[]) (by rfl'),by rfl⟩
 ·exact⟨.ref 850,by rfl',.amgs (d:=none) (n:=0) (sl := #[]) (by rfl'),by rfl⟩
 ·exact⟨.ref 872,by rfl',.amgs (d:=none) (n:=0) (sl := #[]) (by rfl'),by rfl⟩
 ·exact⟨.ref 885,by rfl',.amgs (d:=none) (n:=0) (sl := #[]) (by rfl'),by rfl⟩
theorem B6(p:Params)(es:Array (Int×Value))(ep:Nat)(t:SetTable):findCls ((230,⟨.type "set",none,.set es ep t,#[]⟩) :: K p) (.ref 888) (.type "type") "g_v"=some (.val (.ref 230)):=by rfl'
theorem AF(p:Params)(es:Array (Int×Value))(ep:Nat)(t:SetTable):readsIn ((230,⟨.type "set",none,.set es ep t,#[]⟩) :: K p) 888 (.type "type")=true:=by rfl'
theorem zG(p:Params):readsIn (K p) 888 (.type "type")=true:=by rfl'
theorem Cc{c:Cx}{A:Around}{E:Value→Shared→Prop}{env:Env}{ρ Y:af}{s:Shared}{n:Str}{V:V}{expr:Bool}{Q:Value→Shared→Prop}(B:cv c)(N:bE c A env ρ Y s)(hl:bK n=some V)
  (h:∀ v,bq c s.heap v V→Q v { s with toks:=s.toks+1 }):wpAny c.M A (getAttr (.ref 888) n expr) Q E s:=by
 by_cases q:n="g_v"
 ·subst q;have hl:some Internal.V.gv=some V:=hl;cases hl;refine ed (B.gv) fun S k zz=>And.elim (fun zn2 _=>?_) zz
  obtain⟨o,es,ep,t,ho,⟨h1,h2,h3⟩,hd,_⟩:=zn2;obtain⟨oc,od,dt,sl⟩:=o;dsimp only at h1 h2 h3 hd;subst h1 h2 h3 hd;refine cls_value (K:=(230,⟨.type "set",none,.set es ep t,#[]⟩) :: K c.w.params) (fun a o e=>?_) (AF _ es ep t) (B6 _ es ep t) rfl (h _ .gv);rw[List.lookup_cons] at e;split at e
  ·rename_i q;cases e;rw[beq_iff_eq.mp q];exact N.act.base _ _ ho
  ·exact N.act.k B _ _ e
 have hl:look pj.tail n=some V:=by
  unfold bK pj look at hl;rw[if_neg (fun e=>q e.symm)] at hl;exact hl
 refine Exists.elim (x7 c.w.params _ (fT hl)) fun v zz=>ee zz fun e st hh=>?_
 exact cls_value (N.act.k B) (zG _) e hh (h v (st.rep B N.act.base))
theorem IB:amongs.all (fun e=>Nat.ble e.s.cps.toList.length 1048576)=true:=by rfl'
theorem yH(p:Params):findIn (K p) (.ref 218) "__getattribute__"=some (some (.builtin "object.__getattribute__")):=by rfl'
theorem G7{c:Cx}{A:Around}{E:Value→Shared→Prop}{env:Env}{ρ Y:af}{s:Shared}{e:aF}{n:Str}{V:V}{expr:Bool}{Q:Value→Shared→Prop}(B:cv c)(N:bE c A env ρ Y s)(he:e∈amongs)
  (hn:qf (.amg e.s.cps.toList e.i e.r) n Y=some V) (h:∀ v,bq c s.heap v V→Q v { s with toks:=s.toks+1 }):wpAny c.M A (getAttr (.ref (e.d+1)) n expr) Q E s:=by
 have X:=N.act.k B;have ho:=X _ _ (lP (Qs c.w.params) e he);have hd:=X _ _ (lP (PJ c.w.params) e he);have I:InstAt s.heap (e.d+1) (aY e.d) 218 (some (aR c.w.params e)):=⟨ho,rfl,rfl,hd⟩;unfold qf at hn;dsimp only at hn;split at hn
 ·rename_i q;subst q;cases hn;have hle:=le_of_ble_eq_true (List.all_eq_true.mp IB e he);obtain⟨d,⟨⟨l⟩⟩,i,r,ts,ti,tr,t1,t2,t3⟩:=e;exact get_value X I (yH _) (v:=.str ⟨⟨l⟩⟩ ts) (by rfl') rfl (h _ (.str l ts hle))
 ·split at hn
  ·rename_i q;subst q;cases hn;exact get_value X I (yH _) (v:=.int e.i e.ti) (by rfl') rfl (h _ (.int _ _))
  ·split at hn
   ·rename_i q;subst q;cases hn;exact get_value X I (yH _) (v:=.int e.r e.tr) (by rfl') rfl (h _ (.int _ _))
   ·cases hn
structure bv(n:Nat)(A:Around):Prop where
 d:A.depth+n<850
 u:A.units+12*n<9800
theorem bv.less{n m:Nat}{A:Around}(r:bv n A)(h:m≤n):bv m A:=⟨by have:=r.d;ext,by have:=r.u;ext⟩
section
variable {c:Cx}{A:Around}{E:Value→Shared→Prop}{env:Env}{ρ Y:af}{s:Shared}{Q:Value→Shared→Prop}
theorem As{n:Nat}(B:cv c)(N:bE c A env ρ Y s)(r:bv n A):PySem.PylongRoom c.M A s:=by
 refine ed (N.act.frames) fun e l zz=>And.elim (fun hf zn3=>?_) zz
 obtain⟨⟨o,g,k⟩,_⟩:=zn3;exact PySem.PylongRoom.of (B.nolimit.keeps N.act.base) (by have:=r.d;show A.depth+100<1000;ext) (SeerAt.of (B.seer.keeps N.act.base) rfl hf g k o.blt o.glob)
theorem PE.step{y:V}{v:Value}{t:Nat}(N:bE c A env ρ Y s)(r:bq c s.heap v y):PE c A env ρ Y y s v { s with toks:=s.toks+t }:=
 .tok N r (by have:=N.tk;ext)
theorem AS{k:Const}{y:V}{n:Nat}{pos:Pos}(hk:ce k=some y)(N:bE c A env ρ Y s)(h:∀ v s',PE c A env ρ Y y s v s'→Q v s'):wpAny c.M A (eval (.Constant k n pos) env) Q E s:=by
 rw[arm_eval_Constant];cases k with
 | none=>cases hk;exact wpAny_pure (h _ _ (.here N .none))
 | bool b=>cases hk;exact wpAny_pure (h _ _ (.here N (.bool b)))
 | int i=>cases hk;exact wpAny_mkInt (h _ _ (.step N (.int i _)))
 | str x=>
  obtain⟨⟨l⟩⟩:=x;unfold ce BQ at hk;dsimp only at hk;cases q:Nat.ble l.length dZ with
  | false=>rw[q] at hk;cases hk
  | true=>rw[q] at hk;cases hk;exact wpAny_mkText (h _ _ (.step N (.str l _ (le_of_ble_eq_true q))))
 | _=>cases hk
theorem gY{x:List Nat}:(⟨x.toArray⟩:Str).length=x.length:=by simp[Str.length]
theorem bS.dxLt{h:Heap}(S:bS c h Y):c.dx<h.objs.size:=by
 refine jI (S.flds) fun _ od _ _ zz=>ee zz fun _ hod _=>?_
 exact Heap.lt_size hod
theorem cM(h:Heap)(o:Obj):jG h (h.push o):=fun _ _ e=>Heap.get?_push_of_some o e
theorem sx{vs:List Value}{xs:List V}(N:bE c A env ρ Y s)(hb:xs.length≤1048576)(r:RepL c s.heap vs xs):PE c A env ρ Y (.list xs) s (.ref s.heap.objs.size) { s with heap:=s.heap.push { cls:=.type "list",data:=.seq vs.toArray } }:=
 .of N (cM _ _) N.tk (.list (Heap.get?_push_size _ rfl) rfl rfl (ne_of_gt N.self.dxLt) hb (r.keeps (cM _ _))) rfl rfl
theorem RepL.append{h:Heap}{vs ws:List Value}{xs ys:List V}(r:RepL c h vs xs)(q:RepL c h ws ys):RepL c h (vs++ws) (xs++ys):=
 RepL.rec (motive_1:=fun _ _ _=>True) (motive_2:=fun a b _=>RepL c h (a++ws) (b++ys)) (motive_3:=fun _ _ _=>True)
  trivial (fun _=>trivial) (fun _ _=>trivial) (fun _ _ _=>trivial) (fun _ _ _ _ _ _ _=>trivial) (fun _ _ _ _ _ _=>trivial) (fun _ _=>trivial) trivial trivial (fun _=>trivial) (fun _ _=>trivial) (fun _=>trivial)
  q (fun a _ _ b=>.cons a b) trivial (fun _ _ _ _=>trivial) r
theorem RepL.length{h:Heap}{vs:List Value}{xs:List V}(r:RepL c h vs xs):vs.length=xs.length:=
 RepL.rec (motive_1:=fun _ _ _=>True) (motive_2:=fun a b _=>a.length=b.length) (motive_3:=fun _ _ _=>True)
  trivial (fun _=>trivial) (fun _ _=>trivial) (fun _ _ _=>trivial) (fun _ _ _ _ _ _ _=>trivial) (fun _ _ _ _ _ _=>trivial) (fun _ _=>trivial) trivial trivial (fun _=>trivial) (fun _ _=>trivial) (fun _=>trivial)
  rfl (fun _ _ _ b=>congrArg Nat.succ b) trivial (fun _ _ _ _=>trivial) r
def IZ(c:Cx)(h:Heap)(v:Value):V→Prop
 | .none=>v=.none
 | .bool b=>v=.bool b
 | .int i=>∃ t,v=.int i t
 | .str l=>∃ t,v=.str ⟨l.toArray⟩ t∧l.length≤1048576
 | .list xs=>∃ a o vs n,v=.ref a∧h.get? a=some o∧o.cls=.type "list" ∧ o.data=.seq vs.toArray n∧a≠c.dx∧xs.length≤1048576∧RepL c h vs xs
 | .dict kv=>∃ a o kvs,v=.ref a∧h.get? a=some o∧o.IsDictOf (PySem.strKind prog c.w) kvs∧a≠c.dx∧(a==sysModules)=false∧RepE c h kvs kv
 | .amg _ _ _=>True
 | .self=>v=.ref c.x
 | .gv=>v=.ref 230
 | .addr b=>v=.ref b
 | .bi b=>v=.builtin b
 | .ty b=>v=.type b
theorem bq.inv{h:Heap}{v:Value}{x:V}(r:bq c h v x):IZ c h v x:=by
 cases r with
 | none=>exact rfl
 | bool b=>exact rfl
 | int i t=>exact⟨t,rfl⟩
 | str l t hl=>exact⟨t,rfl,hl⟩
 | list ho hc hd hn hb hr=>exact⟨_,_,_,_,rfl,ho,hc,hd,hn,hb,hr⟩
 | dict ho hd hn hl hr=>exact⟨_,_,_,rfl,ho,hd,hn,hl,hr⟩
 | amg=>exact trivial
 | self=>exact rfl
 | gv=>exact rfl
 | addr b=>exact rfl
 | bi b hh=>exact rfl
 | ty b=>exact rfl
def DY(c:Cx)(h:Heap)(vs:List Value):List V→Prop
 | []=>vs=[]
 | x :: xs=>∃ v ws,vs=v :: ws∧bq c h v x∧RepL c h ws xs
theorem RepL.inv{h:Heap}{vs:List Value}{xs:List V}(r:RepL c h vs xs):DY c h vs xs:=by
 cases r with
 | nil=>exact rfl
 | cons a b=>exact⟨_,_,rfl,a,b⟩
theorem bq.inv_str{h:Heap}{v:Value}{l:List Nat}(r:bq c h v (.str l)):∃ t,v=.str ⟨l.toArray⟩ t∧l.length≤1048576:=r.inv
theorem bq.inv_list{h:Heap}{v:Value}{xs:List V}(r:bq c h v (.list xs)):∃ a o vs n,v=.ref a∧h.get? a=some o∧o.cls=.type "list" ∧ o.data=.seq vs.toArray n∧a≠c.dx∧xs.length≤1048576∧RepL c h vs xs:=r.inv
theorem bq.inv_dict{h:Heap}{v:Value}{kv:List (List Nat×V)}(r:bq c h v (.dict kv)):∃ a o kvs,v=.ref a∧h.get? a=some o∧o.IsDictOf (PySem.strKind prog c.w) kvs∧a≠c.dx∧(a==sysModules)=false∧RepE c h kvs kv:=r.inv
theorem bq.inv_int{h:Heap}{v:Value}{i:Int}(r:bq c h v (.int i)):∃ t,v=.int i t:=r.inv
theorem bq.inv_bool{h:Heap}{v:Value}{b:Bool}(r:bq c h v (.bool b)):v=.bool b:=r.inv
theorem bq.inv_addr{h:Heap}{v:Value}{b:Addr}(r:bq c h v (.addr b)):v=.ref b:=r.inv
theorem bq.inv_self{h:Heap}{v:Value}(r:bq c h v .self):v=.ref c.x:=r.inv
theorem bq.inv_bi{h:Heap}{v:Value}{b:String}(r:bq c h v (.bi b)):v=.builtin b:=r.inv
theorem bq.inv_ty{h:Heap}{v:Value}{b:String}(r:bq c h v (.ty b)):v=.type b:=r.inv
section
variable {h:Heap}{v:Value}{C:Value→Prop}
@[elab_as_elim] theorem bq.eself (r:bq c h v .self) (k:C (.ref c.x)):C v:=by rw[r.inv_self];exact k
@[elab_as_elim] theorem bq.eint {i:Int} (r:bq c h v (.int i)) (k:∀ t,C (.int i t)):C v:=by obtain⟨t,rfl⟩:=r.inv_int;exact k t
@[elab_as_elim] theorem bq.estr {l:List Nat} (r:bq c h v (.str l)) (k:∀ t,l.length≤1048576→C (.str ⟨l.toArray⟩ t)):C v:=by obtain⟨t,rfl,q⟩:=r.inv_str;exact k t q
@[elab_as_elim] theorem bq.elist {xs:List V} (r:bq c h v (.list xs)) (k:∀ a o vs n,h.get? a=some o→o.cls=.type "list" → o.data=.seq vs.toArray n→a≠c.dx→xs.length≤1048576→RepL c h vs xs→C (.ref a)):C v:=by
 obtain⟨a,o,vs,n,rfl,h1,h2,h3,h4,h5,h6⟩:=r.inv_list;exact k a o vs n h1 h2 h3 h4 h5 h6
@[elab_as_elim] theorem bq.edict {kv:List (List Nat×V)} (r:bq c h v (.dict kv)) (k:∀ a o kvs,h.get? a=some o→o.IsDictOf (PySem.strKind prog c.w) kvs→a≠c.dx→(a==sysModules)=false→RepE c h kvs kv→C (.ref a)):C v:=by
 obtain⟨a,o,kvs,rfl,h1,h2,h3,h4,h5⟩:=r.inv_dict;exact k a o kvs h1 h2 h3 h4 h5
@[elab_as_elim] theorem RepL.e1 {C:List Value→Prop} {vs:List Value} {x:V} (r:RepL c h vs [x]) (k:∀ v,bq c h v x→C [v]):C vs:=by
 obtain⟨v,ws,rfl,a,b⟩:=r.inv;obtain rfl:ws=[]:=b.inv;exact k v a
@[elab_as_elim] theorem RepL.e2 {C:List Value→Prop} {vs:List Value} {x y:V} (r:RepL c h vs [x,y]) (k:∀ v w,bq c h v x→bq c h w y→C [v,w]):C vs:=by
 obtain⟨v,ws,rfl,a,b⟩:=r.inv;exact b.e1 (C:=fun z=>C (v :: z)) fun w d=>k v w a d
end
theorem bq.inv_none{h:Heap}{v:Value}(r:bq c h v .none):v=.none:=r.inv
theorem bq.inv_gv{h:Heap}{v:Value}(r:bq c h v .gv):v=.ref 230:=r.inv
theorem DO{n:Nat}{op:Operator}{a b:Int}{z:V}{t u:Tok}(B:cv c)(R:bv n A)(N:bE c A env ρ Y s)(hz:MU op a b=some z)
  (h:∀ r s',PE c A env ρ Y z s r s'→Q r s'):wpAny c.M A (binaryOp op (.int a t) (.int b u)) Q E s:=by
 have go:∀ {i:Int} {r:Value} {s':Shared},z=.int i→PE c A env ρ Y (.int i) s r s'→Q r s':=fun e p=>by subst e;exact h _ _ p
 clear h
 induction op using PySem.Operator.casesOn with
 | Add=>exact PySem.P.add_int (go (inj hz).symm (.step N (.int _ _)))
 | Sub=>exact PySem.P.sub_int (go (inj hz).symm (.step N (.int _ _)))
 | RShift=>
   refine oc hz fun q hz=>?_
   obtain rfl:=of_decide_eq_true q;exact PyProof.Rows.rshift_int (by decide) (go (inj hz).symm (.step N (.int _ _)))
 | FloorDiv=>exact oc hz fun q hz=>PyProof.Rows.floordiv_int (Int.ne_of_gt (of_decide_eq_true q)) (go (inj hz).symm (.step N (.int _ _))) (.inr (As B N R))
 | Mod=>exact oc hz fun q hz=>PyProof.Rows.mod_int (Int.ne_of_gt (of_decide_eq_true q)) (go (inj hz).symm (.step N (.int _ _)))
 | Pow=>
   refine oc hz fun q hy=>?_
   rw[Bool.and_eq_true,Bool.and_eq_true,decide_eq_true_eq,decide_eq_true_eq,decide_eq_true_eq] at q;obtain⟨rfl,q1,q2⟩:=q;refine PyProof.Rows.pow_int q1 ?_ (go (inj hy).symm (.step N (.int _ _)));have:Builtin.Int.intBits 64=7:=by decide+kernel
   rw[this];ext
 | _=>exact nn hz
@[elab_as_elim] theorem isAdd_eq {op:Operator} {C:Operator→Prop} (h:zn op=true) (k:C .Add):C op:=by
 induction op using PySem.Operator.casesOn with
 | Add=>exact k
 | _=>exact nf h
theorem add_str{a b:List Nat}{z:V}{t u:Tok}(N:bE c A env ρ Y s)(hz:BQ (a++b)=some z)
  (h:∀ r s',PE c A env ρ Y z s r s'→Q r s'):wpAny c.M A (binaryOp .Add (.str ⟨a.toArray⟩ t) (.str ⟨b.toArray⟩ u)) Q E s:=by
 refine oc hz fun q hz=>?_
 obtain rfl:=inj hz;have q:=le_of_ble_eq_true q;refine PySem.P.add_str ?_;split
 ·rename_i e;have:a=[]:=by simpa [Str.length] using e
  subst this;exact h _ _ (.here N (.str _ _ q))
 ·split
  ·rename_i e;have:b=[]:=by simpa [Str.length] using e
   subst this;rw[List.append_nil] at h q;exact h _ _ (.here N (.str _ _ q))
  ·refine⟨?_,?_⟩
   ·show (a.toArray++b.toArray).size≤sizeLine;rw[List.append_toArray,List.size_toArray];exact le_trans q (by decide)
   ·have e:((⟨a.toArray⟩:Str)++(⟨b.toArray⟩:Str))=⟨(a++b).toArray⟩:=by
     show Str.mk (a.toArray++b.toArray)=_;rw[List.append_toArray]
    rw[e];exact h _ _ (.step N (.str _ _ q))
theorem zq{a b:List V}{z:V}{v w:Value}(N:bE c A env ρ Y s)(hz:(bif Nat.ble (a.length+b.length) dZ then some (V.list (a++b)) else none)=some z)(hv:bq c s.heap v (.list a))(hw:bq c s.heap w (.list b))
  (h:∀ r s',PE c A env ρ Y z s r s'→Q r s'):wpAny c.M A (binaryOp .Add v w) Q E s:=by
 refine oc hz fun q hz=>?_
 obtain rfl:=inj hz;have q:=le_of_ble_eq_true q;refine hv.elist fun l o vs k ho hc hd _ _ hr=>?_
 refine hw.elist fun l2 o2 ws k2 ho2 hc2 hd2 _ _ hr2=>?_
 obtain⟨cls,dd,data,sl⟩:=o;obtain⟨cls2,dd2,data2,sl2⟩:=o2;obtain rfl:cls=_:=hc;obtain rfl:data=_:=hd;obtain rfl:cls2=_:=hc2;obtain rfl:data2=_:=hd2;refine PySem.concat_meets ⟨_,ho,rfl⟩ ⟨_,ho2,rfl⟩ noFill_list_add seq_list_add PySem.F.slot_list_add PySem.F.entry_list_add (PySem.F.args_list_add_2 _ _) (list_addW l l2 vs.toArray ws.toArray k k2 dd dd2 sl sl2 (by
  have:=hr.length;have:=hr2.length;have z:dZ=1048576:=rfl;rw[sizeLine_eq];simp only[List.size_toArray];ext)) ⟨ho,ho2,?_⟩
 rw[List.append_toArray];exact h _ _ (sx N (by rw[length_append];exact q) (hr.append hr2))
theorem F6{n:Nat}{op:Operator}{x y z:V}{v w:Value}(B:cv c)(R:bv n A)(N:bE c A env ρ Y s)(hz:pJ op x y=some z)(hv:bq c s.heap v x)(hw:bq c s.heap w y)
  (h:∀ r s',PE c A env ρ Y z s r s'→Q r s'):wpAny c.M A (binaryOp op v w) Q E s:=by
 induction x using zV with
 | int a=>induction y using zV with
  | int b=>
   refine hv.eint fun _=>?_
   exact hw.eint fun _=>DO B R N hz h
  | _=>exact nn hz
 | str a=>induction y using zV with
  | str b=>
    refine oc hz fun q hz=>?_
    refine isAdd_eq q ?_;refine hv.estr fun _ _=>?_
    exact hw.estr fun _ _=>add_str N hz h
  | _=>exact nn hz
 | list a=>induction y using zV with
  | list b=>
    refine oc hz fun q hz=>?_
    refine isAdd_eq q ?_;exact zq N hz hv hw h
  | _=>exact nn hz
 | _=>exact nn hz
end
section
variable {c:Cx}{A:Around}{E:Value→Shared→Prop}{env:Env}{ρ Y:af}{s:Shared}{Q:Value→Shared→Prop}
theorem rR(a b:List Nat):((⟨a.toArray⟩:Str)==⟨b.toArray⟩)=(a==b):=by
 rw[Bool.eq_iff_iff,beq_iff_eq,beq_iff_eq];exact⟨fun e=>by injection e with e;injection e,fun e=>by rw[e]⟩
theorem Bm(a b:List Nat):((⟨a.toArray⟩:Str)==⟨b.toArray⟩)=(b==a):=by rw[rR,Bool.beq_comm]
theorem pQ{h:Heap}{x:List Nat}{xs:List V}:∀ {vs:List Value} {b:Bool},RepL c h vs xs→bW x xs=some b→∃ ys:List Str,StrsAre vs ys∧ys.any (· == ⟨x.toArray⟩)=b:=by
 induction xs with
 | nil=>
  intro vs b r e;obtain rfl:=r.inv;exact⟨[],.nil,inj e⟩
 | cons y r ih=>
  intro vs b q e;obtain⟨v,ws,rfl,hv,hr⟩:=q.inv
  induction y using zV with
  | str z=>
   obtain⟨b',e',rfl⟩:=Option.map_eq_some_iff.mp (show (bW x r).map (fun b=>(x==z)||b)=some b from e);obtain⟨t,rfl,_⟩:=hv.inv_str;obtain⟨ys,i,a⟩:=ih hr e';refine⟨⟨z.toArray⟩ :: ys,.cons _ _ i,?_⟩;rw[List.any_cons,a,Bm]
  | _=>exact nn e
noncomputable def gE(l:List Value)(j:Nat):Str:=match l[j]? with
 | some (.str x _)=>x
 | _=>⟨#[]⟩
theorem o9{e:Nat→Bool}{n:Nat}:(List.range (n+1)).all e=(e 0&&(List.range n).all fun j=>e (j+1)):=by
 rw[List.range_succ_eq_map,List.all_cons,List.all_map];rfl
theorem uh{h:Heap}{A:Around}{s:Shared}{xs:List V}:∀ {vs ws:List Value} {ys:List V} {b:Bool},RepL c h vs xs→RepL c h ws ys→gG xs ys=some b→
  vs.length=ws.length∧(∀ j (h1:j<vs.length) (h2:j<ws.length),SeqAt.EqAt A s vs[j] ws[j] (gE vs j==gE ws j))∧((List.range vs.length).all fun j=>gE vs j==gE ws j)=b:=by
 induction xs with
 | nil=>
  intro vs ws ys b r1 r2 e;obtain rfl:=r1.inv
  induction ys using zL with
  | nil=>
   obtain rfl:=r2.inv;exact⟨rfl,fun j h1=>absurd h1 (Nat.not_lt_zero _),inj e⟩
  | cons _ _=>exact nn e
 | cons x r ih=>
  intro vs ws ys b r1 r2 e
  induction ys using zL with
  | nil=>induction x using zV<;>exact nn e
  | cons y r'=>
   obtain⟨v,vs',rfl,hv,hr⟩:=r1.inv;obtain⟨w,ws',rfl,hw,hr2⟩:=r2.inv
   induction x using zV with
   | str x=>induction y using zV with
    | str y=>
     obtain⟨t,rfl,_⟩:=hv.inv_str;obtain⟨t2,rfl,_⟩:=hw.inv_str;obtain⟨b',e',rfl⟩:=Option.map_eq_some_iff.mp (show (gG r r').map (fun b=>(x==y)&&b)=some b from e);obtain⟨a1,a2,a3⟩:=ih hr hr2 e';refine⟨by rw[length_cons,length_cons,a1],fun j h1 h2=>?_,?_⟩
     ·induction j using zN with
      | zero=>exact SeqAt.EqAt.str_str _ _ _ _
      | succ j=>exact a2 j (Nat.lt_of_succ_lt_succ h1) (Nat.lt_of_succ_lt_succ h2)
     ·rw[length_cons,o9];exact congr (congrArg and (rR _ _)) a3
    | _=>exact nn e
   | _=>exact nn e
theorem Cq{op:CmpOp}{i j:Int}{b:Bool}{t u:Tok}(hz:LO op i j=some b)(now:Q (.bool b) s):wpAny c.M A (compareOp op (.int i t) (.int j u)) Q E s:=by
 induction op using zC with
 | Lt=>exact PySem.P.lt_int (inj hz ▸ now)
 | LtE=>exact PySem.P.le_int (inj hz ▸ now)
 | Gt=>exact PySem.P.gt_int (inj hz ▸ now)
 | GtE=>exact PySem.P.ge_int (inj hz ▸ now)
 | Eq=>obtain rfl:=inj hz;exact PySem.P.eq_int now
 | NotEq=>obtain rfl:=inj hz;exact PySem.P.ne_int now
 | _=>exact nn hz
theorem B9{op:CmpOp}{i j:List Nat}{b:Bool}{t u:Tok}(hz:Ke op (i==j)=some b)(now:Q (.bool b) s):wpAny c.M A (compareOp op (.str ⟨i.toArray⟩ t) (.str ⟨j.toArray⟩ u)) Q E s:=by
 induction op using zC with
 | Eq=>obtain rfl:=inj hz;exact PySem.P.eq_str now
 | NotEq=>obtain rfl:=inj hz;exact PySem.P.ne_str now
 | _=>exact nn hz
theorem IH{op:CmpOp}{l:List Nat}{b:Bool}{t:Tok}(B:cv c)(N:bE c A env ρ Y s)(hz:Eu op (JA l)=some b)(h:∀ s',PE c A env ρ Y (.bool b) s (.bool b) s'→Q (.bool b) s'):wpAny c.M A (compareOp op (.str ⟨l.toArray⟩ t) (.ref 230)) Q E s:=by
 refine ed (B.gv) fun S m zz=>ee zz fun zn2 hm hk=>?_
 refine jI (zn2) fun o es ep t zz=>And.elim (fun ho r=>?_) zz
 have set:s.heap.SetOf (PySem.strKind prog c.w) 230 S m:=⟨o,es,ep,t,N.act.base _ _ ho,r⟩
 induction l using zL with
 | nil=>induction op using zC<;>exact nn hz
 | cons k r=>induction r using zL with
  | cons _ _=>induction op using zC<;>exact nn hz
  | nil=>induction op using zC with
   | In=>
    obtain rfl:=inj hz;refine wpAny_inSet_of (knd:=PySem.strKind prog c.w) (k:=⟨#[k]⟩) (strKind_is _ _ _ _) rfl set ?_;rw[hk];exact h _ (.step N (.bool _))
   | NotIn=>
    obtain rfl:=inj hz;refine wpAny_notInSet_of (knd:=PySem.strKind prog c.w) (k:=⟨#[k]⟩) (strKind_is _ _ _ _) rfl set ?_;rw[hk];exact h _ (.step N (.bool _))
   | _=>exact nn hz
theorem Ae{op:CmpOp}{l:List Nat}{ys:List V}{b:Bool}{t:Tok}{w:Value}(hz:Eu op (bW l ys)=some b)(hw:bq c s.heap w (.list ys))(now:Q (.bool b) s):wpAny c.M A (compareOp op (.str ⟨l.toArray⟩ t) w) Q E s:=by
 refine hw.elist fun _ _ _ _ ho hc hd _ _ hr=>?_
 induction op using zC with
 | In=>
  obtain⟨ys,i,rfl⟩:=pQ hr hz;exact in_list_strs ⟨_,ho,hc,_,hd⟩ i now
 | NotIn=>
   refine om hz fun b' e' e=>?_
   obtain⟨ys,i,rfl⟩:=pQ hr e';exact notin_list_strs ⟨_,ho,hc,_,hd⟩ i (e ▸ now)
 | _=>exact nn hz
theorem IJ{n:Nat}{op:CmpOp}{i j:List V}{b:Bool}{v w:Value}(R:bv n A)(hz:NC op (gG i j)=some b)(hv:bq c s.heap v (.list i))(hw:bq c s.heap w (.list j))(now:Q (.bool b) s):wpAny c.M A (compareOp op v w) Q E s:=by
 induction op using zC with
 | NotEq=>
  refine om hz fun b' e' e=>?_
  obtain rfl:=e;refine hv.elist fun l1 o1 vs n1 ho hc hd _ _ hr=>?_
  refine hw.elist fun l2 o2 ws n2 ho2 hc2 hd2 _ _ hr2=>?_
  obtain⟨a1,a2,a3⟩:=uh (A:=A.in1) (s:=s) hr hr2 e';refine SeqAt.RcNeAt.lists ⟨_,ho,hc,_,hd⟩ ⟨_,ho2,hc2,_,hd2⟩ (by simpa using a1) (by have:=R.u;show A.units<9900;ext) (e:=fun j=>gE vs j==gE ws j) (fun j h1 h2=>a2 j (by simpa using h1) (by simpa using h2)) prog c.w E Q ?_;have:(List.range vs.toArray.size).all (fun j=>gE vs j==gE ws j)=b':=by rw[List.size_toArray];exact a3
  rw[this];exact now
 | _=>exact nn hz
@[elab_as_elim] theorem cmpIs_eq {op:CmpOp} {r b:Bool} {C:CmpOp→Bool→Prop} (h:BH op r=some b) (k:C .Is r):C op b:=by
 induction op using zC with
 | Is=>obtain rfl:=inj h;exact k
 | _=>exact nn h
theorem BG{n:Nat}{op:CmpOp}{x y:V}{b:Bool}{v w:Value}(B:cv c)(R:bv n A)(N:bE c A env ρ Y s)(hz:gO op x y=some b)(hv:bq c s.heap v x)(hw:bq c s.heap w y)
  (h:∀ s',PE c A env ρ Y (.bool b) s (.bool b) s'→Q (.bool b) s'):wpAny c.M A (compareOp op v w) Q E s:=by
 have now:=h s (.here N (.bool b))
 induction x using zV with
 | int i=>induction y using zV with
  | int j=>
   refine hv.eint fun _=>?_
   exact hw.eint fun _=>Cq hz now
  | _=>exact nn hz
 | str i=>
  refine hv.estr fun _ _=>?_
  induction y using zV with
  | str j=>exact hw.estr fun _ _=>B9 hz now
  | gv=>rw[hw.inv_gv];exact IH B N hz h
  | list l=>exact Ae hz hw now
  | none=>
   rw[hw.inv_none];clear h hw
   revert now
   exact cmpIs_eq hz fun now=>is_str_none now
  | _=>exact nn hz
 | none=>induction y using zV with
  | none=>
   rw[hv.inv_none,hw.inv_none];clear h
   revert now
   exact cmpIs_eq hz fun now=>wpAny_is_self rfl now
  | _=>exact nn hz
 | list i=>induction y using zV with
  | list j=>exact IJ R hz hv hw now
  | _=>exact nn hz
 | _=>exact nn hz
end
end
end Mine.Internal
end
noncomputable section
open PySem PySem.W PyProof.Rows PySem.Calls PySem.Builtin.Str
set_option maxHeartbeats 2000000
namespace Mine.Internal
section
set_option tactic.hygienic false
section
variable {c:Cx}{A:Around}{E:Value→Shared→Prop}{env:Env}{ρ Y:af}{s:Shared}{Q:Value→Shared→Prop}
theorem kn{value slice:Expr}{o i:Value}{ops:List Value}{T id:String}(hT:s.TypeIs o T)(hl:typeLookup (.type T) "__getitem__"=pure (some (.builtin id)))
  (hs:subscripted slice false o i=operate ops (getItem o i)) (h:wpAny c.M A (getItem o i) Q E s):wpAny c.M A (subscriptTail value slice o i) Q E s:=by
 have fin:wpAny c.M A (subscripted slice false o i) (fun r s₃=>wpAny c.M A (letTemporaryGo value o r >>= fun _=>pure r) Q E s₃) E s:=by
  rw[hs];exact wpAny_operating (wpAny_mono h (fun r s₃ h₃=>wpAny_bind (wpAny_letTemporaryGo (wpAny_pure h₃))) fun _ _ x=>x)
 unfold subscriptTail;refine wpAny_bind ?_;rw[getitemInPython_of_ne hT.not_modules];refine wpAny_bind (wpAny_specialOf hT hl ?_)
 first
  | exact wpAny_pure (wpAny_bind fin)
  | exact wpAny_bind (wpAny_pure (wpAny_bind fin))
  | exact wpAny_bind fin
theorem jF{n:Nat}{i:Int}{k:Nat}(h:cF n i=some k):k<n∧((0≤i∧i=k)∨(i<0∧i+n=k)):=by
 have h:(bif decide (0≤i) then (bif decide (i<(n:Int)) then some i.toNat else none) else (bif decide (0≤(n:Int)+i) then some ((n:Int)+i).toNat else none))=some k:=h;by_cases q:0≤i
 ·rw[decide_eq_true q,cond_true] at h;by_cases q2:i<(n:Int)
  ·rw[decide_eq_true q2] at h;obtain rfl:=inj h;exact⟨(Int.toNat_lt q).mpr q2,.inl ⟨q,(Int.toNat_of_nonneg q).symm⟩⟩
  ·rw[decide_eq_false q2] at h;exact nn h
 ·rw[decide_eq_false q,cond_false] at h;have q:=Int.not_le.mp q;by_cases q2:0≤(n:Int)+i
  ·rw[decide_eq_true q2] at h;obtain rfl:=inj h;exact⟨(Int.toNat_lt q2).mpr (by ext),.inr ⟨q,by rw[Int.add_comm,Int.toNat_of_nonneg q2]⟩⟩
  ·rw[decide_eq_false q2] at h;exact nn h
theorem tD{n:Nat}{i:Int}{k:Nat}(h:cF n i=some k):seqIndex? i n=some k:=by
 obtain⟨h1,h2⟩:=jF h;have e:(if i<0 then i+(n:Int) else i)=k:=by
  rcases h2 with ⟨a,b⟩ | ⟨a,b⟩
  ·rw[if_neg (Int.not_lt.mpr a),b]
  ·rw[if_pos a,b]
 unfold seqIndex?;simp only[e];rw[if_pos (by rw[Bool.and_eq_true,decide_eq_true_eq,decide_eq_true_eq];exact⟨Int.natCast_nonneg k,Int.ofNat_lt.mpr h1⟩),Int.toNat_natCast]
theorem RepL.at{h:Heap}{z:V}{xs:List V}:∀ {vs:List Value} {k:Nat},RepL c h vs xs→xs[k]?=some z→∃ v,vs[k]?=some v∧bq c h v z:=by
 induction xs with
 | nil=>intro vs k _ e;exact nn e
 | cons x r ih=>
  intro vs k q e;refine ed (q.inv) fun v ws zz=>ee zz fun zq2 hv hr=>?_
  subst zq2
  induction k using zN with
  | zero=>obtain rfl:=inj e;exact⟨v,rfl,hv⟩
  | succ k=>exact ih (k:=k) hr e
theorem RepE.inv{h:Heap}{kvs:List (Str×Value)}{kv:List (List Nat×V)}(r:RepE c h kvs kv):match kv with | []=>kvs=[] | p :: kv=>∃ v es,kvs=(⟨p.1.toArray⟩,v) :: es∧bq c h v p.2∧RepE c h es kv:=by
 cases r with
 | nil=>exact rfl
 | cons a b=>exact⟨_,_,rfl,a,b⟩
theorem RepE.at{h:Heap}{k:List Nat}{z:V}{kv:List (List Nat×V)}:∀ {kvs:List (Str×Value)},RepE c h kvs kv→pA k kv=some z→∃ v,valueAt kvs ⟨k.toArray⟩=some v∧bq c h v z:=by
 induction kv with
 | nil=>intro _ _ e;exact nn e
 | cons p kv ih=>
  intro kvs r e;refine ed (r.inv) fun v es zz=>ee zz fun zq2 hv hr=>?_
  subst zq2;have e:(bif p.1==k then some p.2 else pA k kv)=some z:=e;unfold valueAt;rw[List.find?_cons];cases q:p.1==k with
  | true=>
   rw[q] at e;obtain rfl:=inj e;rw[beq_iff_eq.mp q];simp only[decide_true];exact⟨v,rfl,hv⟩
  | false=>
   rw[q] at e;have:decide (Str.mk p.1.toArray=Str.mk k.toArray)=false:=by
    rw[decide_eq_false_iff_not];intro e;rw[←rR,e,beq_self_eq_true] at q;cases q
   simp only[this];exact ih hr e
theorem sN{n k:Nat}{i:Int}(p:k<n∧((0≤i∧i=k)∨(i<0∧i+n=k)))(h:n≤2097152):i<2 ^ 63∧-2 ^ 63≤i∧-(n:Int)≤i:=by ext
theorem CN{value slice:Expr}{x y z:V}{v w:Value}(B:cv c)(N:bE c A env ρ Y s)(hz:dn x y=some z)(hv:bq c s.heap v x)(hw:bq c s.heap w y)
  (hs:subscripted slice false v w=operate [v,w] (getItem v w)) (h:∀ r s',PE c A env ρ Y z s r s'→Q r s'):wpAny c.M A (subscriptTail value slice v w) Q E s:=by
 induction x using zV with
 | str l=>induction y using zV with
  | int i=>
   obtain⟨t,rfl,hl⟩:=hv.inv_str;obtain⟨u,rfl⟩:=hw.inv_int;obtain⟨k,hk,hz⟩:=Option.bind_eq_some_iff.mp hz;obtain⟨n,hn,rfl⟩:=Option.map_eq_some_iff.mp hz;have p:=jF hk;refine kn (typeIs_str s _ t) PySem.F.slot_str_getitem.lookup hs (PySem.P.getItem_str (c:=n) ?_ ?_ (h _ _ (.step N (.str [n] _ (by simp)))))
   ·have q:=sN p (le_trans hl (by decide));exact Bool.or_eq_false_iff.2 ⟨decide_eq_false (Int.not_lt.2 q.2.1),decide_eq_false (Int.not_le.2 q.1)⟩
   ·rw[gY,tD hk];simpa using hn
  | _=>exact nn hz
 | list l=>induction y using zV with
  | int i=>
   refine jI (hv.inv_list) fun a o vs n zz=>Pr zz fun zq4 ho hc hd hn hb hr=>?_
   subst zq4;obtain⟨u,rfl⟩:=hw.inv_int;obtain⟨k,hk,hz⟩:=Option.bind_eq_some_iff.mp hz;obtain⟨v,e,r⟩:=hr.at hz;have p:=jF hk;have hsz:vs.toArray.size=l.length:=by rw[List.size_toArray,hr.length]
   have hx:vs.toArray[k]?=some v:=by simpa using e
   have L:s.heap.IsList a vs.toArray:=⟨o,ho,hc,n,hd⟩;refine kn L.typeIs list_getitem_lookup hs ?_;have q:=sN p (by ext);rcases p.2 with ⟨p1,p2⟩ | ⟨p1,p2⟩
   ·exact wpAny_getItem_list L p1 q.1 (by rw[p2];exact hx) (h _ _ (.here N r))
   ·exact wpAny_getItem_list_neg L p1 (hsz ▸ q.2.2) q.2.1 (by rw[hsz,p2];exact hx) (h _ _ (.here N r))
  | _=>exact nn hz
 | dict kv=>induction y using zV with
  | str k=>
   refine gy (hv.inv_dict) fun a o kvs zz=>pG zz fun zq3 ho hd hn hl hr=>?_
   subst zq3;obtain⟨t,rfl,_⟩:=hw.inv_str;obtain⟨v,e,r⟩:=hr.at hz;have D:s.heap.DictOf (PySem.strKind prog c.w) a kvs:=Heap.dictOf_iff.mpr ⟨o,ho,hd⟩;exact kn D.typeIs slot_dict_getitem.lookup hs (wpAny_getItem_of (strKind_is _ _ _ _) D.mapOf e (h _ _ (.step N r)))
  | _=>exact nn hz
 | _=>exact nn hz
theorem jY{n:Nat}(i:Int):(clamp n i).toNat=(max 0 (min (if i<0 then i+n else i) (n:Int))).toNat:=by
 unfold clamp;by_cases h:i<0
 ·rw[if_pos h,if_pos h,Int.min_eq_left (by ext),Int.add_comm]
 ·rw[if_neg h,if_neg h,Int.max_eq_right (Int.le_min.mpr ⟨Int.not_lt.mp h,Int.natCast_nonneg n⟩)]
def F5(n:Nat)(a:Option Int):Nat:=(match a with | some i=>clamp n i | none=>0).toNat
def C8(n:Nat)(b:Option Int):Nat:=(match b with | some i=>clamp n i | none=>(n:Int)).toNat
theorem oy(a b:Option Int)(n:Nat):strSliceIndices a b 1 n=sliceRange (F5 n a) (C8 n b) 1:=by
 unfold strSliceIndices F5 C8;simp only[show (1:Int) > 0 by decide,if_true]
 congr 1
 ·induction a using zO with
  | none=>rfl
  | some i=>dsimp only;rw[jY,Int.toNat_of_nonneg (Int.le_max_left _ _)]
 ·induction b using zO with
  | none=>simp
  | some i=>dsimp only;rw[jY,Int.toNat_of_nonneg (Int.le_max_left _ _)]
theorem DM(n:Nat)(b:Option Int):C8 n b≤n:=by
 induction b using zO with
 | none=>exact le_refl n
 | some i=>
  show (clamp n i).toNat≤n;rw[jY];exact Int.toNat_le.2 (Int.max_le.2 ⟨Int.natCast_nonneg n,Int.min_le_right _ _⟩)
theorem oZ(l:List Nat)(a b:Option Int):bM l a b=(l.take (C8 l.length b)).drop (F5 l.length a):=rfl
theorem wA(l:List Nat)(a b:Option Int):(strSliceIndices a b 1 l.length).filterMap (l.toArray[·]?)=bM l a b:=by
 rw[oy,sliceRange_one,pick_run,oZ,List.drop_take]
theorem Px{a b n:Nat}(h:a-b=n)(k:a≤n)(p:0<n):n≤a∧b=0:=by
 have e:a=n:=Nat.le_antisymm k (h ▸ Nat.sub_le a b);subst e;exact⟨le_refl _,Nat.eq_zero_of_not_pos fun q=>ne_of_lt (Nat.sub_lt p q) h⟩
theorem tJ(l:List Nat)(a b:Option Int)(h:(strSliceIndices a b 1 l.length).length=l.length):bM l a b=l:=by
 rw[oy,sliceRange_one,length_map,List.length_range] at h;have:=DM l.length b;rw[oZ]
 induction l using zL with
 | nil=>rw[List.take_nil,List.drop_nil]
 | cons x r=>
  have q:=Px h this (Nat.succ_pos _);rw[q.2,List.drop_zero,List.take_of_length_le q.1]
theorem wG(vs:List Value)(a b:Option Int):slicePick vs.toArray a b none=((vs.take (match b with | some i=>clamp vs.length i | none=>vs.length).toNat).drop (match a with | some i=>clamp vs.length i | none=>0).toNat).toArray:=by
 have e:∀ i:Int,clipAt vs.length i=(clamp vs.length i).toNat:=fun i=>(jY i).symm
 rw[slicePick_plain,List.size_toArray,List.drop_take]
 induction a using zO<;>induction b using zO<;>simp only[Option.elim,e,Int.toNat_natCast]<;>rfl
theorem RepL.take{h:Heap}{xs:List V}:∀ {vs:List Value},RepL c h vs xs→∀ k:Nat,RepL c h (vs.take k) (xs.take k):=by
 induction xs with
 | nil=>intro vs r k;obtain rfl:=r.inv;induction k using zN<;>exact .nil
 | cons x r ih=>
  intro vs q k;refine ed (q.inv) fun v ws zz=>ee zz fun zq2 hv hr=>?_
  subst zq2
  induction k using zN with
  | zero=>exact .nil
  | succ k=>exact .cons hv (ih hr k)
theorem RepL.drop{h:Heap}{xs:List V}:∀ {vs:List Value},RepL c h vs xs→∀ k:Nat,RepL c h (vs.drop k) (xs.drop k):=by
 induction xs with
 | nil=>intro vs r k;obtain rfl:=r.inv;induction k using zN<;>exact .nil
 | cons x r ih=>
  intro vs q k
  induction k using zN with
  | zero=>exact q
  | succ k=>
   refine ed (q.inv) fun v ws zz=>ee zz fun zq2 hv hr=>?_
   subst zq2;exact ih hr k
inductive lr:Value→Option Int→Prop
 | none:lr .none none
 | int (i:Int) (t:Tok):lr (.int i t) (some i)
theorem lr.is{v:Value}{o:Option Int}(p:lr v o):IsPart v o:=by cases p<;>constructor
theorem lr.val{v:Value}{o:Option Int}(p:lr v o):∃ q:Option (Int×Tok),v=partValue q∧o=q.map (·.1):=by
 cases p with
 | none=>exact⟨.none,rfl,rfl⟩
 | int i t=>exact⟨some (i,t),rfl,rfl⟩
theorem rm{value slice:Expr}{l:List Nat}{v va vb:Value}{a b:Option Int}(N:bE c A env ρ Y s)(hv:bq c s.heap v (.str l))(pa:lr va a)(pb:lr vb b)
  (hs:∀ i,subscripted slice false v i=operate [i,v] (getItem v i)) (h:∀ r s',PE c A env ρ Y (.str (bM l a b)) s r s'→Q r s'):
  wpAny c.M A (subscriptTail value slice v (.ref s.heap.objs.size)) Q E { s with heap:=s.heap.push { cls:=.type "slice",data:=.fields #[va,vb,.none] } }:=by
 obtain⟨t,rfl,hl⟩:=hv.inv_str;obtain⟨qa,rfl,rfl⟩:=pa.val;obtain⟨qb,rfl,rfl⟩:=pb.val;refine kn (typeIs_str _ _ t) PySem.F.slot_str_getitem.lookup (hs _) (wpAny_getItem_str_slice (l:=qa) (u:=qb) (st:=none) ⟨_,Heap.get?_push_size _ rfl,rfl,rfl⟩ rfl ?_);have e:slicePicked ⟨l.toArray⟩ qa qb none=strSliceIndices (qa.map (·.1)) (qb.map (·.1)) 1 l.length:=by unfold slicePicked;rw[gY];rfl
 have sl:(bM l (qa.map (·.1)) (qb.map (·.1))).length≤l.length:=by
  unfold bM;rw[length_drop,length_take];exact le_trans (Nat.sub_le _ _) (Nat.min_le_right _ _)
 unfold sliceMade;rw[e];split
 ·rename_i q;simp only[Option.map_none,Option.getD_none,Bool.and_eq_true,beq_iff_eq] at q;have q2:=q.2;rw[gY] at q2;have same:=tJ l _ _ q2;rw[same] at h;exact h _ _ (.of N (cM _ _) N.tk (.str l t hl) rfl rfl)
 ·have fm:(strSliceIndices (qa.map (·.1)) (qb.map (·.1)) 1 l.length).filterMap (l.toArray[·]?)=bM l (qa.map (·.1)) (qb.map (·.1)):=wA l _ _;show (Made.str ⟨((strSliceIndices (qa.map (·.1)) (qb.map (·.1)) 1 l.length).filterMap (l.toArray[·]?)).toArray⟩).post _ _;rw[fm];refine⟨?_,h _ _ (.of N (cM _ _) (Nat.succ_pos _) (.str _ _ (le_trans sl hl)) rfl rfl)⟩;show (bM _ _ _).toArray.size≤sizeLine;rw[List.size_toArray];exact le_trans (le_trans sl hl) (by decide)
theorem pO{value slice:Expr}{l:List V}{v va vb:Value}{a b:Option Int}(N:bE c A env ρ Y s)(hv:bq c s.heap v (.list l))(pa:lr va a)(pb:lr vb b)
  (hs:∀ i,subscripted slice false v i=operate [i,v] (getItem v i)) (h:∀ r s',PE c A env ρ Y (.list (fW l a b)) s r s'→Q r s'):
  wpAny c.M A (subscriptTail value slice v (.ref s.heap.objs.size)) Q E { s with heap:=s.heap.push { cls:=.type "slice",data:=.fields #[va,vb,.none] } }:=by
 refine jI (hv.inv_list) fun ad o vs n zz=>Pr zz fun zq4 ho hc hd hn hb hr=>?_
 subst zq4;have L:s.heap.IsList ad vs.toArray:=⟨o,ho,hc,n,hd⟩;have hsz:vs.toArray.size≤sizeLine:=by rw[List.size_toArray,hr.length];exact le_trans hb (by decide)
 refine kn (Heap.IsList.typeIs (s:={ s with heap:=s.heap.push _ }) (L.push _)) list_getitem_lookup (hs _) (wpAny_getItem_list_slice (L.push _) (Heap.IsSliceOf.new ..) pa.is pb.is .none (by simp) ?_ hsz);rw[wG];have K:jG s.heap ((s.heap.push { cls:=.type "slice",data:=.fields #[va,vb,.none] }).push { cls:=.type "list",data:=.seq ((vs.take (match b with | some i=>clamp vs.length i | none=>vs.length).toNat).drop (match a with | some i=>clamp vs.length i | none=>0).toNat).toArray }):=
  fun _ _ e=>Heap.get?_push_of_some _ (Heap.get?_push_of_some _ e)
 have len:(fW l a b).length≤1048576:=by
  unfold fW;rw[length_drop,length_take];exact le_trans (Nat.sub_le _ _) (le_trans (Nat.min_le_right _ _) hb)
 refine h _ _ (.of N K N.tk (.list (Heap.get?_push_size _ rfl) rfl rfl ?_ len (RepL.keeps K ?_)) rfl rfl)
 ·rw[Heap.size_push];exact ne_of_gt (Nat.lt_succ_of_lt N.self.dxLt)
 ·unfold fW;rw[hr.length];exact (hr.take _).drop _
end
section
variable {c:Cx}{A:Around}{E:Value→Shared→Prop}{env:Env}{ρ Y:af}{s:Shared}{Q:Value→Shared→Prop}
theorem Dc{a z:V}{n:Str}{v:Value}{expr:Bool}(B:cv c)(N:bE c A env ρ Y s)(hz:qf a n Y=some z)(hv:bq c s.heap v a)
  (h:∀ r s',PE c A env ρ Y z s r s'→Q r s'):wpAny c.M A (getAttr v n expr) Q E s:=by
 have hz':=hz
 induction a using zV with
 | self=>
  rw[hv.inv_self];exact oc hz fun q hz=>vk B N q hz fun v r=>h _ _ (.step N r)
 | addr a=>
  rw[hv.inv_addr];exact oc hz fun q hz=>by
   rw[Nat.eq_of_beq_eq_true q];exact Cc B N hz fun v r=>h _ _ (.step N r)
 | amg=>cases hv with
  | amg e he=>exact G7 (Y:=Y) B N he hz' fun v r=>h _ _ (.step N r)
 | _=>exact nn hz
theorem tS{n:Str}{z:V}{pos:Pos}(B:cv c)(O:bP env)(N:bE c A env ρ Y s)(hk:env.kindOf n=some .globalImplicit)(hd:n≠"__debug__")(hz:glob n=some z)
  (h:∀ r s',PE c A env ρ Y z s r s'→Q r s'):wpAny c.M A (eval (.Name n pos) env) Q E s:=by
 obtain⟨v,e,st⟩:=wu c.w.params hz;exact lI B O N.act hk hd e (h _ _ (.here N (st.rep B N.act.base)))
theorem RepE.length{h:Heap}{kvs:List (Str×Value)}{kv:List (List Nat×V)}(r:RepE c h kvs kv):kvs.length=kv.length:=
 RepE.rec (motive_1:=fun _ _ _=>True) (motive_2:=fun _ _ _=>True) (motive_3:=fun a b _=>a.length=b.length)
  trivial (fun _=>trivial) (fun _ _=>trivial) (fun _ _ _=>trivial) (fun _ _ _ _ _ _ _=>trivial) (fun _ _ _ _ _ _=>trivial) (fun _ _=>trivial) trivial trivial (fun _=>trivial) (fun _ _=>trivial) (fun _=>trivial)
  trivial (fun _ _ _ _=>trivial) rfl (fun _ _ _ b=>congrArg Nat.succ b) r
theorem RepE.keeps{h h':Heap}(k:jG h h'){v:List (Str×Value)}{y:List (List Nat×V)}(r:RepE c h v y):RepE c h' v y:=r.ext (.of_keeps k)
theorem M4{h:Heap}{kv:List (List Nat×V)}:∀ {kvs:List (Str×Value)} {vs:List Value},RepE c h kvs kv→kv.all (fun p=>Nat.ble p.1.length 1048576)=true→vs.length=kvs.length→
  (∀ (j:Nat) (v:Value),vs[j]?=some v→∃ (k:Str) (x:Value),kvs[j]?=some (k,x)∧(PySem.strKind prog c.w).is k v=true)→RepL c h vs (kv.map fun p=>.str p.1):=by
 induction kv with
 | nil=>
  intro kvs vs r _ hl _;rw[r.length] at hl;obtain rfl:=List.eq_nil_of_length_eq_zero hl;exact .nil
 | cons p kv ih=>
  intro kvs vs r ha hl hj
  induction vs using zL with
  | nil=>rw[r.length] at hl;cases hl
  | cons v vs=>
   cases r with | cons hv hr=>
   rw[List.all_cons,Bool.and_eq_true] at ha;obtain⟨k',x,e,hk⟩:=hj 0 v rfl;obtain⟨rfl,rfl⟩:=Prod.mk.inj (inj e);obtain⟨t,rfl⟩:=Value.isStrOf_shape hk;exact .cons (.str _ t (le_of_ble_eq_true ha.1)) (ih hr ha.2 (Nat.succ.inj hl) fun j u hu=>hj (j+1) u hu)
theorem Ir{id:String}{x z:V}{v:Value}(N:bE c A env ρ Y s)(hz:Rl id x=some z)(hv:bq c s.heap v x)
  (h:∀ r s',PE c A env ρ Y z s r s'→Q r s'):wpAny c.M A (call (.builtin id) [v]) Q E s:=by
 induction x using zV with
 | str l=>
  refine hv.estr fun t hl=>?_
  refine mif hz (fun q hz=>?_) fun _ hz=>mif hz (fun q hz=>?_) fun _ hz=>nn hz
  ·rw[q];obtain rfl:=inj hz;refine PySem.P.len_str ?_ ?_
   ·rw[gY];ext
   ·rw[gY];exact h _ _ (.step (t:=2) N (.int _ _))
  ·rw[q]
   induction l using zL with
   | nil=>exact nn hz
   | cons k r=>induction r using zL with
    | cons _ _=>exact nn hz
    | nil=>
     obtain rfl:=inj hz;exact PySem.P.ord_of_char (h _ _ (.step N (.int _ _)))
 | list l=>
  refine hv.elist fun a o ws n ho hc hd hn hb hr=>?_
  refine mif hz (fun q hz=>?_) fun _ hz=>nn hz
  rw[q];obtain rfl:=inj hz;have sz:ws.toArray.size=l.length:=by rw[List.size_toArray,hr.length]
  refine call_len_list ⟨o,ho,hc,n,hd⟩ (by rw[sz];ext) ?_;rw[sz];exact h _ _ (.step (t:=2) N (.int _ _))
 | _=>exact nn hz
theorem Hd{id:String}{x y z:V}{v w:Value}(N:bE c A env ρ Y s)(hz:Rt id x y=some z)(hv:bq c s.heap v x)(hw:bq c s.heap w y)
  (h:∀ r s',PE c A env ρ Y z s r s'→Q r s'):wpAny c.M A (call (.builtin id) [v,w]) Q E s:=by
 induction x using zV with
 | int a=>induction y using zV with
  | int b=>
   refine hv.eint fun t=>?_
   refine hw.eint fun u=>?_
   refine mif hz (fun q hz=>?_) fun _ hz=>nn hz
   rw[q];obtain rfl:=inj hz;refine wpAny_mono (wpAny_toks_of (n:=s.toks) (le_refl _) (min_two_ints (Q:=fun r s'=>∃ h' tk,s'={ s with heap:=h',toks:=tk }∧jG s.heap h'∧r=if b<a then .int b u else .int a t) N.act.handled fun h' tk k=>⟨h',tk,rfl,k,rfl⟩)) (fun r s' hh=>?_) fun _ _ x=>x.2
   obtain⟨htk,h',tk,rfl,hk,rfl⟩:=hh;refine h _ _ (.of N hk (lt_of_lt_of_le N.tk htk) ?_ rfl rfl);by_cases q:b<a
   ·rw[if_pos q,Int.min_eq_right (Int.le_of_lt q)];exact .int _ _
   ·rw[if_neg q,Int.min_eq_left (Int.not_lt.mp q)];exact .int _ _
  | _=>exact nn hz
 | _=>exact nn hz
theorem Gp{id:String}{x z:V}{v:Value}(N:bE c A env ρ Y s)(hz:Sm id x=some z)(hv:bq c s.heap v x)
  (h:∀ r s',PE c A env ρ Y z s r s'→Q r s'):wpAny c.M A (call (.type id) [v]) Q E s:=by
 induction x using zV with
 | dict kv=>
  refine hv.edict fun a o kvs ho hd hn hl hr=>?_
  refine mif hz (fun q hz=>oc hz fun q2 hz=>?_) fun _ hz=>nn hz
  rw[q];obtain rfl:=inj hz;rw[Bool.and_eq_true] at q2;have D:s.heap.DictOf (PySem.strKind prog c.w) a kvs:=Heap.dictOf_iff.mpr ⟨o,ho,hd⟩;obtain⟨ep,hat⟩:=D.dictAt;have lenE:kvs.length=kv.length:=hr.length;have hl1:=le_of_ble_eq_true q2.1;refine wpAny_mono (wpAny_toks_of (n:=s.toks) (le_refl _) (PySem.W.kdl_call (Q:=fun r s'=>∃ h' tk,s'={ s with heap:=h',toks:=tk }∧jG s.heap h'∧r=.ref s.heap.objs.size∧∃ acc' c',h'.get? s.heap.objs.size=some { cls:=.type "list",dict:=none,data:=.seq acc' c',slots := #[] }∧ItemsOf (fun i v=>∃ k x,kvs[i]?=some (k,x)∧(PySem.strKind prog c.w).is k v=true) acc' kvs.length)
   (PySem.W.kdl_dict (knd:=PySem.strKind prog c.w) (kvs:=kvs) (ep:=ep) hl) N.act.handled hat (by rw[lenE,sizeLine_eq];ext) fun h' tk acc' c' hk hD hacc=>⟨h',tk,rfl,hk,rfl,acc',c',hD,hacc⟩)) (fun r s' hh=>?_) fun _ _ x=>x.2
  obtain⟨htk,h',tk,rfl,hk,rfl,acc',c',hD,hacc⟩:=hh;exact h _ _ (.of N hk (lt_of_lt_of_le N.tk htk) (.list (vs:=acc'.toList) (n:=c') hD rfl (by simp) (ne_of_gt N.self.dxLt) (by rw[length_map];ext) (M4 (hr.keeps hk) q2.2 (by rw[Array.length_toList];exact hacc.1) fun j v e=>hacc.2 j v (by rw[←Array.getElem?_toList];exact e))) rfl rfl)
 | _=>exact nn hz
theorem Lo{f z:V}{fv:Value}{args:List V}{vs:List Value}(B:cv c)(N:bE c A env ρ Y s)(hz:fs f args=some z)(hf:bq c s.heap fv f)(ha:RepL c s.heap vs args)
  (h:∀ r s',PE c A env ρ Y z s r s'→Q r s'):wpAny c.M A (call fv vs) Q E s:=by
 induction f using zV with
 | bi id=>
  rw[hf.inv_bi]
  induction args using zL with
  | nil=>exact nn hz
  | cons x r=>induction r using zL with
   | nil=>exact ha.e1 fun v hv=>Ir N hz hv h
   | cons y r=>induction r using zL with
    | nil=>exact ha.e2 fun v w hv hw=>Hd N hz hv hw h
    | cons _ _=>exact nn hz
 | ty id=>
  rw[hf.inv_ty]
  induction args using zL with
  | nil=>exact nn hz
  | cons x r=>induction r using zL with
   | nil=>exact ha.e1 fun v hv=>Gp N hz hv h
   | cons _ _=>exact nn hz
 | _=>exact nn hz
theorem C9(e l:List Nat):Txt.endswith ⟨l.toArray⟩ ⟨e.toArray⟩=cK e l:=by
 unfold Txt.endswith cK;rw[StrLaws.subAt_eq,gY,gY];rw[Bool.eq_iff_iff];simp only[Bool.and_eq_true,decide_eq_true_eq,beq_iff_eq,Nat.zero_add];constructor
 ·rintro⟨h1,h2⟩
  refine⟨ble_eq_true_of_le h1,?_⟩;rw[List.take_of_length_le (by simp;ext)] at h2;exact h2
 ·rintro⟨h1,h2⟩
  have h1:=le_of_ble_eq_true h1;refine⟨h1,?_⟩;rw[List.take_of_length_le (by simp;ext)];exact h2
theorem DQ{l e:List Nat}{v u:Value}{Q:Value→Shared→Prop}(N:bE c A env ρ Y s)(hv:bq c s.heap v (.str l))(hu:bq c s.heap u (.str e))
  (h:PE c A env ρ Y (.bool (cK e l)) s (.bool (cK e l)) s→Q (.bool (cK e l)) s):wpAny c.M A (call (.builtin "str.endswith") [v,u]) Q E s:=by
 obtain⟨t,rfl,_⟩:=hv.inv_str;obtain⟨t',rfl,_⟩:=hu.inv_str;refine SC.endswith ?_;rw[C9];exact h (.here N (.bool _))
theorem Dq{l:List Nat}{a b:Str}{v:Value}{t u:Tok}{z:V}(N:bE c A env ρ Y s)(hv:bq c s.heap v (.str l))(ht:t≠0)(hu:u≠0)(htu:t≠u)(hab:(a==b)=false)(hb:b.cps.size≤8)
  (hz:BQ (mI a.cps.toList b.cps.toList l)=some z) (h:∀ r s',PE c A env ρ Y z s r s'→Q r s'):wpAny c.M A (call (.builtin "str.replace") [v,.str a t,.str b u]) Q E s:=by
 obtain⟨w,rfl,hl⟩:=hv.inv_str;refine wpAny_mono (wpAny_toks_of (n:=s.toks) (le_refl _) (SC.replace (Q:=fun r s'=>∃ k t',s'={ s with toks:=k }∧r=.str (Txt.replace ⟨l.toArray⟩ a b) t') ht hu htu hab ?_ fun t' k=>⟨k,t',rfl,rfl⟩)) (fun r s' hh=>?_) fun _ _ x=>x.2
 ·rw[gY];have h1:(l.length+1)*b.length≤(l.length+1)*8:=Nat.mul_le_mul_left _ hb;ext
 ·obtain⟨hk,k,t',rfl,rfl⟩:=hh;unfold BQ at hz;cases q:Nat.ble (mI a.cps.toList b.cps.toList l).length dZ with
  | false=>rw[q] at hz;cases hz
  | true=>
   rw[q] at hz;cases hz;have e:Txt.replace ⟨l.toArray⟩ a b=⟨(mI a.cps.toList b.cps.toList l).toArray⟩:=by
    unfold mI;simp
   rw[e];exact h _ _ (.tok N (.str _ _ (le_of_ble_eq_true q)) (lt_of_lt_of_le N.tk hk))
noncomputable def uP:Expr→Bool
 | .Set .. => true
 | _=>false
noncomputable def rY:Expr→Bool
 | .Starred .. => true
 | _=>false
theorem nG{n:Nat}{sc:Scope}{ρ Y:af}{e:Expr}{r:V×af}(h:(ev n).E sc ρ Y e=some r):uP e=false∧rY e=false:=by
 induction n using zN with
 | zero=>cases h
 | succ n=>induction e using zX<;>first | exact⟨rfl,rfl⟩ | cases h
theorem qj{e:Expr}(h:uP e=false)(op:CmpOp):behindInMarks op e=false:=by
 induction e using zX<;>first | rfl | cases h
theorem Je{e:Expr}(h:uP e=false)(env:Env)(x:Value):foldedSetIterable e env x=pure x:=by
 induction e using zX<;>first | rfl | cases h
theorem nU{e:Expr}(h:rY e=false)(r:List Expr)(env:Env):starEach (e :: r) env=(false,eval e env) :: starEach r env:=by
 induction e using zX<;>first | rfl | cases h
theorem oI{o:Expr}(h:kU o=true)(attr:Str)(env:Env)(t:Sem Value):attributeBase o attr env t=t:=by
 induction o using zX with
 | Call f args kw pos=>induction f using zX with
  | Name id p=>induction args using zL with
   | nil=>induction kw using zL with
    | nil=>exact nf h
    | cons _ _=>rfl
   | cons _ _=>rfl
  | _=>rfl
 | _=>rfl
end
def PN(c:Cx)(A:Around)(env:Env)(ρ Y':af)(s s':Shared):Prop:=
 bE c A env ρ Y' s'∧dA (only c.dx) s.heap s'.heap∧fq s s'
section
variable {c:Cx}{A:Around}{env:Env}{ρ Y Y' Y'':af}{s s' s'':Shared}{v v':Value}{y y':V}
theorem PE.pn(h:PE c A env ρ Y y s v s'):PN c A env ρ Y s s':=⟨h.1,h.2.2⟩
theorem PN.pe(h:PN c A env ρ Y s s')(r:bq c s'.heap v y):PE c A env ρ Y y s v s':=⟨h.1,r,h.2⟩
theorem PN.trans(a:PN c A env ρ Y s s')(b:PN c A env ρ Y' s' s''):PN c A env ρ Y' s s'':=⟨b.1,a.2.1.trans b.2.1,a.2.2.trans b.2.2⟩
theorem PN.thenPE(a:PN c A env ρ Y s s')(b:PE c A env ρ Y' y s' v s''):PE c A env ρ Y' y s v s'':=(a.trans b.pn).pe b.2.1
theorem PE.thenPE(a:PE c A env ρ Y y s v s')(b:PE c A env ρ Y' y' s' v' s''):PE c A env ρ Y' y' s v' s'':=a.pn.thenPE b
theorem PE.rep2(a:PE c A env ρ Y y s v s')(b:PE c A env ρ Y' y' s' v' s''):bq c s''.heap v y:=a.2.1.ext b.2.2.1
theorem pk{Q:Value→Shared→Prop}(k:∀ v s',PE c A env ρ Y' y s v s'→Q v s')(h:(y',Y)=(y,Y')):∀ v s',PE c A env ρ Y y' s v s'→Q v s':=by
 cases h;exact k
theorem PN.refl(N:bE c A env ρ Y s):PN c A env ρ Y s s:=⟨N,.refl,.refl s⟩
end
def PS(c:Cx)(A:Around)(env:Env)(ρ' Y':af)(s s':Shared):Prop:=
 bE c A env ρ' Y' s'∧dA (two c.dx env.locals) s.heap s'.heap∧fq s s'
def fM(c:Cx)(h:Heap):Flow→Fl→Prop
 | .next,.next=>True
 | .brk,.brk=>True
 | .cont,.cont=>True
 | .ret v,.ret y=>bq c h v y
 | _,_=>False
@[elab_as_elim] theorem fM.el {c:Cx} {h:Heap} {f:Flow} {fl:Fl} {C:Flow→Fl→Prop} (fr:fM c h f fl) (k1:C .next .next) (k2:C .brk .brk) (k3:C .cont .cont) (k4:∀ v y,bq c h v y→C (.ret v) (.ret y)):C f fl:=by
 induction f using PySem.Flow.casesOn<;>induction fl using Fl.casesOn<;>first | exact fr.elim | exact k1 | exact k2 | exact k3 | exact k4 _ _ fr
def Mb(h:Heap)(e:Addr)(k:Addr):Prop:=∃ oe vs a0,h.get? e=some oe∧oe.cls=.ref k∧oe.data=.fields vs∧vs[1]?=some .none∧vs[0]?=some a0
def JI(h₀ h:Heap)(L e:Addr)(k:Addr):Prop:=
 ∃ oe vs a0 T oT ts,h.get? e=some oe∧oe.cls=.ref k∧oe.data=.fields vs∧vs[0]?=some a0∧vs[1]?=some (.ref T)∧T≠e∧h₀.get? T=none∧h.get? T=some oT∧oT.data=.fields ts∧ts[3]?=some (rawInt L)
def da(c:Cx)(A:Around)(env:Env)(ρ' Y':af)(s:Shared)(fl:Fl)(held:Bool)(x:Value)(s':Shared):Prop:=
 ∃ k e,fl=.exc k∧ff k=true∧x=.ref e∧s.heap.get? e=none∧PS c A env ρ' Y' s s'∧((held=false∧Mb s'.heap e k)∨JI s.heap s'.heap env.locals e k)
structure aD(c:Cx)(A:Around)(env:Env)(s:Shared):Prop where
 ok:bP env
 top:∃ l,A.frames=some (env :: l)
 frame:env.frame=some env.locals
 cls:∃ o,s.heap.get? env.locals=some o∧o.cls=.type "frame"
abbrev bY(c:Cx)(n:Nat):Prop:=∀ (A:Around) (E:Value→Shared→Prop) (env:Env) (ρ Y:af) (s:Shared) (Q:Value→Shared→Prop) (e:Expr) (y:V) (Y':af),
 (ev n).E env.scope ρ Y e=some (y,Y')→bP env→bv n A→bE c A env ρ Y s→(∀ v s',PE c A env ρ Y' y s v s'→Q v s')→wpAny c.M A (eval e env) Q E s
abbrev lG(c:Cx)(n:Nat):Prop:=∀ (A:Around) (E:Value→Shared→Prop) (env:Env) (ρ Y:af) (s:Shared) (Q:Bool→Shared→Prop) (e:Expr) (b:Bool) (Y':af),
 (ev n).T env.scope ρ Y e=some (b,Y')→bP env→bv n A→bE c A env ρ Y s→(∀ s',PN c A env ρ Y' s s'→Q b s')→wpAny c.M A (isTrue e env (eval e env)) Q E s
abbrev rd(c:Cx)(n:Nat):Prop:=∀ (A:Around) (E:Value→Shared→Prop) (env:Env) (ρ Y:af) (s:Shared) (Q:Value→Shared→Prop) (f:Fn) (args:List V) (vs:List Value) (y:V) (Y':af),
 (ev n).C f args Y=some (y,Y')→f∈fns++meths.map (·.2)→bv n A→bE c A env ρ Y s→RepL c s.heap vs args→(∀ v s',PE c A env ρ Y' y s v s'→Q v s')→wpAny c.M A (call (.ref f.f) vs) Q E s
abbrev rk(c:Cx)(n:Nat):Prop:=∀ (A:Around) (E:Value→Shared→Prop) (env:Env) (ρ Y:af) (s:Shared) (Q:Flow→Shared→Prop) (st:Stmt) (fl:Fl) (ρ' Y':af),
 (ev n).S env.scope ρ Y st=some (fl,ρ',Y')→aD c A env s→bv n A→bE c A env ρ Y s→
 (∀ f s',PS c A env ρ' Y' s s'→fM c s'.heap f fl→Q f s')→(∀ x s',da c A env ρ' Y' s fl false x s'→E x s')→wpAny c.M A (exec st env) Q E s
abbrev nR(c:Cx)(n:Nat):Prop:=∀ (A:Around) (E:Value→Shared→Prop) (env:Env) (ρ Y:af) (s:Shared) (Q:Flow→Shared→Prop) (st:List Stmt) (fl:Fl) (ρ' Y':af),
 (ev n).SS env.scope ρ Y st=some (fl,ρ',Y')→aD c A env s→bv n A→bE c A env ρ Y s→
 (∀ f s',PS c A env ρ' Y' s s'→fM c s'.heap f fl→Q f s')→(∀ x s',da c A env ρ' Y' s fl false x s'→E x s')→wpAny c.M A (execs st env) Q E s
structure d8(c:Cx)(n:Nat):Prop where
 E:bY c n
 T:lG c n
 C:rd c n
 S:rk c n
 SS:nR c n
section
variable {c:Cx}{A:Around}{E:Value→Shared→Prop}{env:Env}{ρ Y Y':af}{s:Shared}
def PA(c:Cx)(A:Around)(env:Env)(ρ Y':af)(ys:List V)(s:Shared)(vs:List Value)(s':Shared):Prop:=PN c A env ρ Y' s s'∧RepL c s'.heap vs ys
theorem pB{n:Nat}(H:bY c n)(O:bP env)(R:bv n A){pos:Pos}{args:List Expr}:∀ {ys:List V} {Y:af} {s:Shared} {Q:List Value→Shared→Prop},dl (ev n).E env.scope ρ Y args=some (ys,Y')→bE c A env ρ Y s→
  (∀ vs s',PA c A env ρ Y' ys s vs s'→Q vs s')→wpAny c.M A (spliced (backTo pos (starEach args env))) Q E s:=by
 induction args with
 | nil=>exact fun h N k=>by cases h;exact spliced_nil (k _ _ ⟨.refl N,.nil⟩)
 | cons e r ih=>
  refine fun {ys} {Y} {s} {Q} h N k=>m2 h fun v Y1 h1 h=>ml h fun vs Y2 h2 h=>?_
  cases h;rw[nU (nG h1).2];exact spliced_cons (H A E env ρ Y s _ e v Y1 h1 O R N fun v1 s1 p1=>ih h2 p1.1 fun vs2 s2 p2=>k _ _ ⟨p1.pn.trans p2.1,.cons (p1.2.1.ext p2.1.2.1) p2.2⟩)
theorem jO{n:Nat}{pos:Pos}{args:List Expr}:∀ {ys:List V} {Y:af},dl (ev n).E env.scope ρ Y args=some (ys,Y')→(backTo pos (starEach args env)).any (·.1)=false:=by
 induction args with
 | nil=>exact fun _=>rfl
 | cons e r ih=>
  refine fun h=>m2 h fun v Y1 h1 h=>ml h fun vs Y2 h2 h=>?_
  cases h;rw[nU (nG h1).2];exact ih h2
theorem hY{n:Nat}(H:bY c n)(O:bP env)(R:bv n A){pos:Pos}{f:Value}{args:List Expr}{ys:List V}{Y:af}{s:Shared}{Q:Args→Shared→Prop}(h:dl (ev n).E env.scope ρ Y args=some (ys,Y'))(N:bE c A env ρ Y s)
  (k:∀ vs s',PA c A env ρ Y' ys s vs s'→Q ⟨vs,[]⟩ s'):wpAny c.M A (evalArgs f true (backTo pos (starEach args env)) []) Q E s:=by
 induction args using zL with
 | nil=>cases h;exact evalArgs_nil3 (k _ _ ⟨.refl N,.nil⟩)
 | cons e r=>
  refine m2 h fun v Y1 h1 _=>?_
  have S:=nU (nG h1).2 r env;have sp:=pB (E:=E) (pos:=pos) H O R h N (Q:=fun vs s'=>Q ⟨vs,[]⟩ s') k;rw[S] at sp ⊢;exact evalArgs_plain sp
end
end
section
variable {c:Cx}{A:Around}{E:Value→Shared→Prop}{env:Env}{ρ Y Y':af}{s:Shared}{Q:Value→Shared→Prop}{n:Nat}{y:V}
theorem pD{id:Str}{pos:Pos}(B:cv c)(h:(ev (n+1)).E env.scope ρ Y (.Name id pos)=some (y,Y'))(O:bP env)(N:bE c A env ρ Y s)
  (k:∀ v s',PE c A env ρ Y' y s v s'→Q v s'):wpAny c.M A (eval (.Name id pos) env) Q E s:=by
 dsimp only[ev] at h;by_cases hd:id="__debug__"
 ·rw[if_pos hd] at h;exact nn h
 by_cases hcd:id="__classdict__"
 ·rw[if_neg hd,if_pos hcd] at h;exact nn h
 rw[if_neg hd,if_neg hcd] at h;have lcl:(look ρ id).map (fun v=>(v,Y))=some (y,Y')→wpAny c.M A (eval (.Name id pos) env) Q E s:=fun h=>
  om h fun z e h=>B3 O N e hd hcd fun v r=>pk k h _ _ (.here N r)
 cases hk:env.scope.names.lookup id with
 | none=>rw[hk] at h;exact nn h
 | some z=>
  rw[hk] at h;cases z with
  | globalImplicit=>exact om h fun z e h=>tS B O N hk hd e (pk k h)
  | globalExplicit=>exact nn h
  | _=>exact lcl h
theorem IM{id n':Str}{p pos:Pos}(B:cv c)(H:bY c n)(h:(ev (n+1)).E env.scope ρ Y (.Attribute (.Name id p) n' pos)=some (y,Y'))(O:bP env)(R:bv n A)(N:bE c A env ρ Y s)
  (k:∀ v s',PE c A env ρ Y' y s v s'→Q v s'):wpAny c.M A (eval (.Attribute (.Name id p) n' pos) env) Q E s:=by
 refine m2 h fun v Y1 h1 h=>om h fun z e h=>?_
 rw[arm_eval_Attribute,oI rfl];exact wpAny_bind (H A E env ρ Y s _ _ v Y1 h1 O R N fun v1 s1 p1=>wpAny_bind (wpAny_standAt (wpAny_bind (wpAny_holding (Dc B p1.1 e p1.2.1 fun r s' p=>wpAny_bind (wpAny_letTemporaryGo (wpAny_pure (pk k h _ _ (p1.thenPE p)))))))))
end
section
set_option tactic.hygienic false
def u0(f:Fn):FuncData:=fn f.nm f.qual f.st 3 f.mod (.ref f.cd) 0
def vT(f:Fn):Obj:=⟨.type "function",none,.func (u0 f),#[]⟩
def yB(f:Fn):Bool:=((aJ f.st).kind==.function)&&(!(aJ f.st).isGenerator&&(!(aJ f.st).isCoroutine&&decide f.ps.Nodup))
def LW(f:Fn)(k:Nat):Bool:=f.ps.all fun n=>(aJ f.st).names.lookup n==some .local||((aJ f.st).names.lookup n==some .cell&&((cellsFrom k (aJ f.st).names []).lookup n).isSome)
structure aM(p:Params)(f:Fn):Prop where
 obj:(K p).lookup f.f=some (vT f)
 code:codeIn (K p) (.ref f.cd) f.qual=true
 bind:∀ vs:List Value,vs.length=f.ps.length→bindArgs (u0 f) ⟨vs,[]⟩=pure (f.ps.zip vs)
 chk:yB f=true
 cell:∀ k,LW f k=true
structure A8(p:Params)(n:Str)(a:Addr):Prop where
 find:findIn (K p) (.ref 888) n=some (some (.ref a))
 type:typeIn (K p) (.ref a)=some (.type "function")
theorem sX{fd:FuncData}(h:bindArgs fd ⟨[],[]⟩=pure []):∀ vs:List Value,vs.length=([]:List Str).length→bindArgs fd ⟨vs,[]⟩=pure (([]:List Str).zip vs):=by
 intro vs h0;exact len0 h0 h
theorem ew{fd:FuncData}{a:Str}(h:∀ v,bindArgs fd ⟨[v],[]⟩=pure [(a,v)]):∀ vs:List Value,vs.length=[a].length→bindArgs fd ⟨vs,[]⟩=pure ([a].zip vs):=by
 intro vs h0;refine lenS h0 fun v r0 h1=>?_
 exact len0 h1 (h v)
theorem eK{fd:FuncData}{a b:Str}(h:∀ v w,bindArgs fd ⟨[v,w],[]⟩=pure [(a,v),(b,w)]):∀ vs:List Value,vs.length=[a,b].length→bindArgs fd ⟨vs,[]⟩=pure ([a,b].zip vs):=by
 intro vs h0;refine lenS h0 fun v r0 h1=>?_
 refine lenS h1 fun w r1 h2=>?_
 exact len0 h2 (h v w)
theorem E4{fd:FuncData}{a b d:Str}(h:∀ v w x,bindArgs fd ⟨[v,w,x],[]⟩=pure [(a,v),(b,w),(d,x)]):∀ vs:List Value,vs.length=[a,b,d].length→bindArgs fd ⟨vs,[]⟩=pure ([a,b,d].zip vs):=by
 intro vs h0;refine lenS h0 fun v r0 h1=>?_
 refine lenS h1 fun w r1 h2=>?_
 refine lenS h2 fun x r2 h3=>?_
 exact len0 h3 (h v w x)
theorem EX{fd:FuncData}{a b d e:Str}(h:∀ v w x y,bindArgs fd ⟨[v,w,x,y],[]⟩=pure [(a,v),(b,w),(d,x),(e,y)]):∀ vs:List Value,vs.length=[a,b,d,e].length→bindArgs fd ⟨vs,[]⟩=pure ([a,b,d,e].zip vs):=by
 intro vs h0;refine lenS h0 fun v r0 h1=>?_
 refine lenS h1 fun w r1 h2=>?_
 refine lenS h2 fun x r2 h3=>?_
 refine lenS h3 fun y r3 h4=>?_
 exact len0 h4 (h v w x y)
theorem jl(p:Params):aM p dX:=⟨by rfl',by rfl',sX ( by rfl'),by rfl',fun k=>by rfl'⟩
theorem iJ(p:Params):aM p dG:=⟨by rfl',by rfl',sX ( by rfl'),by rfl',fun k=>by rfl'⟩
theorem kG(p:Params):aM p eA:=⟨by rfl',by rfl',sX ( by rfl'),by rfl',fun k=>by rfl'⟩
theorem kJ(p:Params):aM p eD:=⟨by rfl',by rfl',sX ( by rfl'),by rfl',fun k=>by rfl'⟩
theorem kW(p:Params):aM p bH:=⟨by rfl',by rfl',sX ( by rfl'),by rfl',fun k=>by rfl'⟩
theorem kY(p:Params):aM p bO:=⟨by rfl',by rfl',eK (fun v0 v1=>by rfl'),by rfl',fun k=>by rfl'⟩
theorem mZ(p:Params):aM p cE:=⟨by rfl',by rfl',E4 (fun v0 v1 v2=>by rfl'),by rfl',fun k=>by rfl'⟩
theorem nj(p:Params):aM p eI:=⟨by rfl',by rfl',eK (fun v0 v1=>by rfl'),by rfl',fun k=>by rfl'⟩
theorem lE(p:Params):aM p de:=⟨by rfl',by rfl',E4 (fun v0 v1 v2=>by rfl'),by rfl',fun k=>by rfl'⟩
theorem jr(p:Params):aM p bj:=⟨by rfl',by rfl',eK (fun v0 v1=>by rfl'),by rfl',fun k=>by rfl'⟩
theorem kr(p:Params):aM p aL:=⟨by rfl',by rfl',ew (fun v0=>by rfl'),by rfl',fun k=>by rfl'⟩
theorem lF(p:Params):aM p ag:=⟨by rfl',by rfl',EX (fun v0 v1 v2 v3=>by rfl'),by rfl',fun k=>by rfl'⟩
theorem jD(p:Params):aM p aU:=⟨by rfl',by rfl',eK (fun v0 v1=>by rfl'),by rfl',fun k=>by rfl'⟩
theorem lZ(p:Params):aM p aZ:=⟨by rfl',by rfl',ew (fun v0=>by rfl'),by rfl',fun k=>by rfl'⟩
theorem sW(p:Params):aM p eH:=⟨by rfl',by rfl',ew (fun v0=>by rfl'),by rfl',fun k=>by rfl'⟩
theorem iF(p:Params):aM p cN:=⟨by rfl',by rfl',eK (fun v0 v1=>by rfl'),by rfl',fun k=>by rfl'⟩
theorem iG(p:Params):aM p cP:=⟨by rfl',by rfl',ew (fun v0=>by rfl'),by rfl',fun k=>by rfl'⟩
theorem iI(p:Params):aM p cO:=⟨by rfl',by rfl',eK (fun v0 v1=>by rfl'),by rfl',fun k=>by rfl'⟩
theorem f0(p:Params):aM p aj:=⟨by rfl',by rfl',eK (fun v0 v1=>by rfl'),by rfl',fun k=>by rfl'⟩
theorem hH(p:Params):aM p ct:=⟨by rfl',by rfl',eK (fun v0 v1=>by rfl'),by rfl',fun k=>by rfl'⟩
theorem fR(p:Params):aM p ac:=⟨by rfl',by rfl',eK (fun v0 v1=>by rfl'),by rfl',fun k=>by rfl'⟩
theorem oO(p:Params):aM p fS:=⟨by rfl',by rfl',eK (fun v0 v1=>by rfl'),by rfl',fun k=>by rfl'⟩
theorem jk(p:Params):aM p an:=⟨by rfl',by rfl',eK (fun v0 v1=>by rfl'),by rfl',fun k=>by rfl'⟩
theorem gQ(p:Params):aM p am:=⟨by rfl',by rfl',eK (fun v0 v1=>by rfl'),by rfl',fun k=>by rfl'⟩
theorem jM(p:Params):aM p bU:=⟨by rfl',by rfl',EX (fun v0 v1 v2 v3=>by rfl'),by rfl',fun k=>by rfl'⟩
theorem jv(p:Params):aM p bV:=⟨by rfl',by rfl',eK (fun v0 v1=>by rfl'),by rfl',fun k=>by rfl'⟩
theorem jL(p:Params):aM p cQ:=⟨by rfl',by rfl',ew (fun v0=>by rfl'),by rfl',fun k=>by rfl'⟩
theorem kZ(p:Params):aM p aW:=⟨by rfl',by rfl',eK (fun v0 v1=>by rfl'),by rfl',fun k=>by rfl'⟩
theorem jZ(p:Params):aM p bN:=⟨by rfl',by rfl',eK (fun v0 v1=>by rfl'),by rfl',fun k=>by rfl'⟩
theorem jK(p:Params):aM p aX:=⟨by rfl',by rfl',ew (fun v0=>by rfl'),by rfl',fun k=>by rfl'⟩
theorem gb(p:Params):aM p az:=⟨by rfl',by rfl',ew (fun v0=>by rfl'),by rfl',fun k=>by rfl'⟩
theorem jx(p:Params):aM p aO:=⟨by rfl',by rfl',ew (fun v0=>by rfl'),by rfl',fun k=>by rfl'⟩
theorem ru(p:Params):aM p qM:=⟨by rfl',by rfl',ew (fun v0=>by rfl'),by rfl',fun k=>by rfl'⟩
theorem rB(p:Params):aM p rz:=⟨by rfl',by rfl',ew (fun v0=>by rfl'),by rfl',fun k=>by rfl'⟩
theorem eZ(p:Params):aM p aw:=⟨by rfl',by rfl',ew (fun v0=>by rfl'),by rfl',fun k=>by rfl'⟩
theorem gB(p:Params):aM p dg:=⟨by rfl',by rfl',ew (fun v0=>by rfl'),by rfl',fun k=>by rfl'⟩
theorem eY(p:Params):aM p cy:=⟨by rfl',by rfl',ew (fun v0=>by rfl'),by rfl',fun k=>by rfl'⟩
theorem fH(p:Params):aM p ao:=⟨by rfl',by rfl',ew (fun v0=>by rfl'),by rfl',fun k=>by rfl'⟩
theorem qQ(p:Params):aM p bA:=⟨by rfl',by rfl',ew (fun v0=>by rfl'),by rfl',fun k=>by rfl'⟩
theorem oW(p:Params):∀ f∈fns,aM p f:=by
 unfold fns
 repeat' (first | exact List.forall_mem_nil _ | refine List.forall_mem_cons.mpr ⟨?_,?_⟩)
 ·exact jl p
 ·exact iJ p
 ·exact kG p
 ·exact kJ p
 ·exact kW p
 ·exact kY p
 ·exact mZ p
 ·exact nj p
 ·exact lE p
 ·exact jr p
 ·exact kr p
 ·exact lF p
 ·exact jD p
 ·exact lZ p
 ·exact sW p
theorem fZ(p:Params):∀ q∈meths,aM p q.2∧A8 p q.1 q.2.f:=by
 unfold meths
 repeat' (first | exact List.forall_mem_nil _ | refine List.forall_mem_cons.mpr ⟨?_,?_⟩)
 ·exact⟨iF p,by rfl',by rfl'⟩
 ·exact⟨iG p,by rfl',by rfl'⟩
 ·exact⟨iI p,by rfl',by rfl'⟩
 ·exact⟨f0 p,by rfl',by rfl'⟩
 ·exact⟨hH p,by rfl',by rfl'⟩
 ·exact⟨fR p,by rfl',by rfl'⟩
 ·exact⟨oO p,by rfl',by rfl'⟩
 ·exact⟨jk p,by rfl',by rfl'⟩
 ·exact⟨gQ p,by rfl',by rfl'⟩
 ·exact⟨jM p,by rfl',by rfl'⟩
 ·exact⟨jv p,by rfl',by rfl'⟩
 ·exact⟨jL p,by rfl',by rfl'⟩
 ·exact⟨kZ p,by rfl',by rfl'⟩
 ·exact⟨jZ p,by rfl',by rfl'⟩
 ·exact⟨jK p,by rfl',by rfl'⟩
 ·exact⟨gb p,by rfl',by rfl'⟩
 ·exact⟨jx p,by rfl',by rfl'⟩
 ·exact⟨ru p,by rfl',by rfl'⟩
 ·exact⟨rB p,by rfl',by rfl'⟩
 ·exact⟨eZ p,by rfl',by rfl'⟩
 ·exact⟨gB p,by rfl',by rfl'⟩
 ·exact⟨eY p,by rfl',by rfl'⟩
 ·exact⟨fH p,by rfl',by rfl'⟩
 ·exact⟨qQ p,by rfl',by rfl'⟩
def ya(h:Heap)(a:Addr)(v:Option Value):Prop:=∃ o,h.get? a=some o∧o.cls=.type "cell" ∧ o.data=.cell v
theorem ya.keeps{h h':Heap}{a:Addr}{v:Option Value}(k:jG h h')(x:ya h a v):ya h' a v:=let ⟨o,e,d⟩:=x;⟨o,k _ _ e,d⟩
theorem ya.but{h h':Heap}{a b:Addr}{v:Option Value}(x:ya h a v)(k:Heap.SameBut b h h')(n:a≠b):ya h' a v:=let ⟨o,e,d⟩:=x;⟨o,(k.2 _ n).trans e,d⟩
theorem hO:∀ (names:List (Str×NameKind)) (h:Heap) (acc:List (Str×Addr)),(∀ n a,(n,a)∈acc→ya h a none)→∀ n a,(n,a)∈cellsFrom h.objs.size names acc→ya (pushCells h names) a none
 | [],_,_,x=>x
 | (name,kind) :: r,h,acc,x=>by
  unfold pushCells cellsFrom;split
  ·have:=hO r (h.push { cls:=.type "cell",data:=.cell none }) ((name,h.objs.size) :: acc) (fun n a hm=>by
    rcases List.mem_cons.mp hm with e | hm
    ·cases e;exact⟨_,Heap.get?_push_size _ rfl,rfl,rfl⟩
    ·exact (x n a hm).keeps (cM _ _))
   rwa [Heap.size_push] at this
  ·exact hO r h acc x
structure Laid(s₀:Shared)(env:Env)(m cm:Str→Option Value)(s:Shared):Prop where
 same:∃ h tk,s={ s₀ with heap:=h,toks:=tk }∧s₀.toks≤tk
 ns:s.heap.Ns env.locals m
 obj:∃ o es ep,s.heap.get? env.locals=some o∧o.cls=.type "frame" ∧ o.data=.dict es ep
 keep:jG s₀.heap s.heap
 cell:∀ n a,env.cells.lookup n=some a→ya s.heap a (cm n)
 apart:env.cells.Pairwise fun x y=>x.2≠y.2
 above:∀ n a,(n,a)∈env.cells→env.locals<a
section
variable {M:Model}{A:Around}{E:Value→Shared→Prop}{s₀ s:Shared}{env:Env}{m cm:Str→Option Value}
theorem ui{n:Str}{v:Value}{Q:Unit→Shared→Prop}(X:Laid s₀ env m cm s)(hk:env.scope.kind=.function)(hl:env.kindOf n=some .local)(hL:s₀.heap.get? env.locals=none)
  (h:∀ s',Laid s₀ env (fun y=>if y=n then some v else m y) cm s'→Q () s'):wpAny M A (storeName env n v) Q E s:=by
 rw[storeName_local hl (by rw[hk];rfl)];refine gy (X.obj) fun o es ep zz=>ee zz fun ho hc hd=>?_
 refine nA X.ns ho hd fun h' o' es' ep' hn' hs ho' hc' hd' _ _=>h _ ?_
 refine ed (X.same) fun h₁ tk zz=>And.elim (fun zq2 ht=>?_) zz
 subst zq2;exact⟨⟨h',tk+1,rfl,Nat.le_succ_of_le ht⟩,hn',⟨o',es',ep',ho',hc'.trans hc,hd'⟩,fun b o e=>(hs.2 b fun q=>by rw[q,hL] at e;cases e).trans (X.keep b o e),
  fun n a e=>(X.cell n a e).but hs (ne_of_gt (X.above n a (mem_of_lookup e))),X.apart,X.above⟩
theorem w8{n:Str}{a:Addr}{v:Value}{Q:Unit→Shared→Prop}(X:Laid s₀ env m cm s)(hk:env.scope.kind=.function)(hl:env.kindOf n=some .cell)(hc:env.cells.lookup n=some a)(hL:s₀.heap.objs.size≤env.locals)
  (h:∀ s',Laid s₀ env m (fun y=>if y=n then some v else cm y) s'→Q () s'):wpAny M A (storeName env n v) Q E s:=by
 have lt:=X.above n a (mem_of_lookup hc);unfold storeName;simp only[hl,hk];refine wpAny_bind (wpAny_cellOf hc ?_);refine Exists.elim (X.cell n a hc) fun o zz=>ee zz fun ho hoc hd=>?_
 unfold cellSet;refine wpAny_bind (wpAny_load ho ?_);rw[hd];refine wpAny_update ho (h _ ?_);have hs:Heap.SameBut a s.heap (s.heap.update a fun o=>{ o with data:=.cell (some v) }):=Heap.SameBut.update ..;refine ed (X.same) fun h₁ tk zz=>And.elim (fun zq2 ht=>?_) zz
 subst zq2;refine gy (X.obj) fun oL es ep zz=>And.elim (fun hoL r=>?_) zz
 refine⟨⟨_,tk,rfl,ht⟩,X.ns.sameBut hs (ne_of_lt lt),⟨oL,es,ep,(hs.2 _ (ne_of_lt lt)).trans hoL,r⟩,fun b o e=>(hs.2 b fun q=>?_).trans (X.keep b o e),fun k a' e=>?_,X.apart,X.above⟩
 ·have:=Heap.lt_size e;rw[q] at this;exact lt_irrefl _ (lt_of_lt_of_le (Nat.lt_trans lt this) hL)
 ·by_cases q:k=n
  ·subst q;rw[hc] at e;cases e;simp only[if_true];exact⟨_,Heap.get?_update_self _ ho rfl,hoc,rfl⟩
  ·rw[if_neg q];exact (X.cell k a' e).but hs fun z=>q (name_of_addr X.apart (mem_of_lookup e) (z ▸ mem_of_lookup hc))
theorem jy(f:Str×Value→PUnit→Sem (ForInStep PUnit))(hf:∀ n v u,f (n,v) u=(do storeName env n v;pure (.yield ⟨⟩)))(hk:env.scope.kind=.function)(hL:s₀.heap.objs.size≤env.locals):
  ∀ (binds:List (Str×Value)) (m cm:Str→Option Value) (s:Shared) (Q:PUnit→Shared→Prop),Laid s₀ env m cm s→
   (∀ x∈binds,env.kindOf x.1=some .local∨(env.kindOf x.1=some .cell∧(env.cells.lookup x.1).isSome=true))→
   (∀ s',Laid s₀ env (bindL env.kindOf binds m) (bindC env.kindOf binds cm) s'→Q ⟨⟩ s')→wpAny M A (forIn binds ⟨⟩ f) Q E s
 | [],m,cm,s,Q,x,_,h=>by rw[List.forIn_nil];exact wpAny_pure (h s x)
 | (n,v) :: r,m,cm,s,Q,x,hkind,h=>by
  rw[List.forIn_cons,hf];have hr:∀ y∈r,env.kindOf y.1=some .local∨(env.kindOf y.1=some .cell∧(env.cells.lookup y.1).isSome=true):=fun y hy=>hkind y (.tail _ hy)
  rcases hkind (n,v) (.head _) with hl | ⟨hl,hc⟩
  ·refine wpAny_bind (wpAny_bind (ui x hk hl (Heap.get?_none_of_le hL) fun s' x'=>wpAny_pure (jy f hf hk hL r _ _ s' Q x' hr fun s'' x''=>h s'' ?_)));unfold bindL bindC;rw[if_pos hl,if_pos hl];exact x''
  ·obtain⟨a,hc⟩:=Option.isSome_iff_exists.mp hc;have hnl:¬ env.kindOf n=some .local:=by rw[hl];decide
   refine wpAny_bind (wpAny_bind (w8 x hk hl hc hL fun s' x'=>wpAny_pure (jy f hf hk hL r _ _ s' Q x' hr fun s'' x''=>h s'' ?_)));unfold bindL bindC;rw[if_neg hnl,if_neg hnl];exact x''
theorem vE{scope:Scope}{globals:Addr}{binds:List (Str×Value)}{qual:Str}{func:Option Addr}{code:Value}{builtins:Addr}{Q:Env→Shared→Prop}
  (hk:scope.kind=.function)
  (hkind:∀ x∈binds,scope.names.lookup x.1=some .local∨(scope.names.lookup x.1=some .cell∧((cellsFrom (s.heap.objs.size+1) scope.names []).lookup x.1).isSome=true))
  (hQ:∀ env,env=newEnv scope s.heap.objs.size globals (cellsFrom (s.heap.objs.size+1) scope.names []) qual func code none builtins→
   ∀ s',Laid s env (bindL env.kindOf binds fun _=>none) (bindC env.kindOf binds fun _=>none) s'→Q env s'):
  wpAny M A (newFunctionEnv scope globals [] binds qual func code none builtins) Q E s:=by
 simp only[newFunctionEnv,Option.isSome_none,Bool.false_eq_true,if_false];refine wpAny_bind (wpAny_alloc ?_);refine wpAny_bind (wpAny_layCells _ (fun name kind cells=>by cases kind==NameKind.cell<;>simp) _ _ _ _ ?_);have ok:=cellsFrom_ok scope.names (s.heap.push { cls:=.type "frame",data:=.dict #[] }) (s.heap.objs.size+1) [] ⟨fun _ _ hm=>(nomatch hm),List.Pairwise.nil⟩ (by rw[Heap.size_push];exact le_refl _);have okc:=hO scope.names (s.heap.push { cls:=.type "frame",data:=.dict #[] }) [] (fun _ _ hm=>(nomatch hm));rw[Heap.size_push] at ok okc;rw[show ({ s with heap:=s.heap.push { cls:=.type "frame",data:=.dict #[] } }:Shared).heap.objs.size=s.heap.objs.size+1 from Heap.size_push ..];refine wpAny_bind (jy (s₀:=s) (env:=newEnv scope s.heap.objs.size globals (cellsFrom (s.heap.objs.size+1) scope.names []) qual func code none builtins)
  _ (fun _ _ _=>rfl) hk (le_refl _) binds (fun _=>none) (fun _=>none) _ _
  ⟨⟨_,_,rfl,le_refl _⟩,(Heap.Ns.new s.heap (.type "frame")).keeps (pushCells_keeps _ _),⟨_,_,_,pushCells_keeps _ _ _ _ (Heap.get?_push_size _ rfl),rfl,rfl⟩,fun b o e=>pushCells_keeps _ _ b o (Heap.get?_push_of_some _ e),
   fun n a hc=>okc n a (mem_of_lookup hc),ok.apart,fun n a hm=>(ok.empty n a hm).2⟩
  hkind fun s' x=>wpAny_pure (hQ _ rfl s' x))
end
theorem ol{kindOf:Str→Option NameKind}{n:Str}:∀ {l:List (Str×Value)} {m:Str→Option Value},(∀ v,(n,v) ∉ l)→bindL kindOf l m n=m n
 | [],_,_=>rfl
 | (k,v) :: r,m,h=>by
  unfold bindL;have hn:n≠k:=fun q=>h v (by rw[q];exact .head _)
  rw[ol fun v q=>h v (.tail _ q)];split
  ·simp[hn]
  ·rfl
theorem n9{kindOf:Str→Option NameKind}{n:Str}:∀ {l:List (Str×Value)} {m:Str→Option Value},(∀ v,(n,v) ∉ l)→bindC kindOf l m n=m n
 | [],_,_=>rfl
 | (k,v) :: r,m,h=>by
  unfold bindC;have hn:n≠k:=fun q=>h v (by rw[q];exact .head _)
  rw[n9 fun v q=>h v (.tail _ q)];split
  ·rfl
  ·simp[hn]
theorem db{α:Type}{n:Str}{v:α}:∀ {ps:List Str} {vs:List α},(n,v)∈ps.zip vs→n∈ps
 | p :: ps,x :: vs,h=>by
  rw[List.zip_cons_cons] at h;rcases List.mem_cons.mp h with e | h
  ·cases e;exact .head _
  ·exact .tail _ (db h)
theorem tR{kindOf:Str→Option NameKind}{n:Str}{v:Value}(hk:kindOf n=some .local):∀ {ps:List Str} {vs:List Value} {m:Str→Option Value},ps.Nodup→(n,v)∈ps.zip vs→bindL kindOf (ps.zip vs) m n=some v
 | p :: ps,x :: vs,m,hd,h=>by
  rw[List.zip_cons_cons] at h ⊢;obtain⟨h1,h2⟩:=List.nodup_cons.mp hd;unfold bindL;rcases List.mem_cons.mp h with e | h
  ·cases e;rw[ol fun w q=>h1 (db q),if_pos hk];simp
  ·exact tR hk h2 h
theorem pu{kindOf:Str→Option NameKind}{n:Str}{v:Value}(hk:kindOf n=some .cell):∀ {ps:List Str} {vs:List Value} {m:Str→Option Value},ps.Nodup→(n,v)∈ps.zip vs→bindC kindOf (ps.zip vs) m n=some v
 | p :: ps,x :: vs,m,hd,h=>by
  rw[List.zip_cons_cons] at h ⊢;obtain⟨h1,h2⟩:=List.nodup_cons.mp hd;unfold bindC;rcases List.mem_cons.mp h with e | h
  ·cases e;rw[n9 fun w q=>h1 (db q),if_neg (by rw[hk];decide)];simp
  ·exact pu hk h2 h
theorem sZ{c:Cx}{h:Heap}{n:Str}{V:V}:∀ {ps:List Str} {vs:List Value} {Vs:List Internal.V},RepL c h vs Vs→look (ps.zip Vs) n=some V→∃ v,(n,v)∈ps.zip vs∧bq c h v V
 | [],_,_,_,e=>by cases e
 | p :: ps,_,_,.nil,e=>by cases e
 | p :: ps,_,_,.cons (v:=v) hv hr,e=>by
  rw[List.zip_cons_cons] at e ⊢;unfold look at e;split at e
  ·rename_i q;cases e;have q:p=n:=q;subst q;exact⟨v,.head _,hv⟩
  ·obtain⟨w,a,b⟩:=sZ hr e;exact⟨w,.tail _ a,b⟩
end
theorem C0(p:Params){f:Fn}(h:f∈fns++meths.map (·.2)):aM p f:=by
 rcases List.mem_append.mp h with h | h
 ·exact oW p f h
 ·obtain⟨q,hq,rfl⟩:=List.mem_map.mp h;exact (fZ p q hq).1
theorem fq.of{s s':Shared}(x:∃ h tk,s'={ s with heap:=h,toks:=tk }∧s.toks≤tk):fq s s':=by
 obtain⟨h,tk,rfl,_⟩:=x;exact⟨rfl,rfl⟩
set_option backward.match.sparseCases true in
theorem qg{c:Cx}{n:Nat}(B:cv c)(H:nR c n){A:Around}{env:Env}{ρ Y:af}{s:Shared}{Rs:Result→Shared→Prop}{f:Fn}{args:List V}{vs:List Value}{y:V}{Y':af}(G:aM c.w.params f)
  (h:(ev (n+1)).C f args Y=some (y,Y')) (R:bv (n+1) A) (N:bE c A env ρ Y s) (ha:RepL c s.heap vs args) (k:∀ v s',PE c A env ρ Y' y s v s'→Rs (.ok (.ret v)) s'):codeAny c.M A (.call (.ref f.f) ⟨vs,[]⟩) Rs s:=by
 have X:=N.act.k B;have C:=G.chk;unfold yB at C;simp only[Bool.and_eq_true,beq_iff_eq,Bool.not_eq_true',decide_eq_true_eq] at C;refine pK (C) fun ck cg cc cn=>?_
 dsimp only[ev] at h;cases hq:Nat.beq (params f).length args.length with
 | false=>rw[hq] at h;cases h
 | true=>
  rw[hq] at h;have hlen:vs.length=f.ps.length:=by rw[ha.length];exact (Nat.eq_of_beq_eq_true hq).symm
  obtain⟨fl,ρ',Y2,hS,hfl⟩:∃ fl ρ' Y2,(ev n).SS (aJ f.st) ((params f).zip args) Y (br f.st)=some (fl,ρ',Y2)∧((fl=.ret y∧Y'=Y2)∨(fl=.next∧y=.none∧Y'=Y2)):=by
   simp only[cond_true] at h;split at h
   ·rename_i v x sl e;cases h;exact⟨_,_,_,e,.inl ⟨rfl,rfl⟩⟩
   ·rename_i x sl e;cases h;exact⟨_,_,_,e,.inr ⟨rfl,rfl,rfl⟩⟩
   ·cases h
  clear h;have hslf:Y'=Y2:=by rcases hfl with ⟨_,e⟩ | ⟨_,_,e⟩<;>exact e
  subst hslf;refine codeAny_call_function (fd:=u0 f) (body:=br f.st) ?_ (X _ _ G.obj) rfl cc cg rfl (codeRec_of X G.code) ?_
  ·have:=R.d;show A.depth<1000;ext
  rw[G.bind vs hlen];refine wpAny_pure (vE (scope:=aJ f.st) ck (fun x hx=>?_) fun env' he s₁ L=>?_)
  ·have:=List.all_eq_true.mp (G.cell (s.heap.objs.size+1)) x.1 (db hx);simp only[Bool.or_eq_true,beq_iff_eq,Bool.and_eq_true] at this;exact this
  refine⟨B.nolimit.keeps fun b o e=>L.keep _ _ (N.act.base b o e),codeAny_func ?_⟩;have hL:env'.locals=s.heap.objs.size:=by rw[he];rfl
  have hsc:env'.scope=aJ f.st:=by rw[he];rfl
  have hfr:env'.frame=some env'.locals:=by rw[he];rfl
  have O:bP env':=⟨by rw[hsc];exact ck,by rw[he];rfl,by rw[he];rfl⟩;have hbL:c.hB.get? env'.locals=none:=by
   cases e:c.hB.get? env'.locals with
   | none=>rfl
   | some o=>have:=Heap.lt_size (N.act.base _ _ e);rw[hL] at this;exact absurd this (lt_irrefl _)
  have hdx:env'.locals≠c.dx:=by rw[hL];exact ne_of_gt N.self.dxLt
  refine gy (L.obj) fun o es ep zz=>ee zz fun ho hoc hod=>?_
  refine ed (N.act.frames) fun fe fr zz=>And.elim (fun hfe hF=>?_) zz
  refine ed (L.same) fun h₁ tk zz=>And.elim (fun hs1 htk=>?_) zz
  have N':bE c (A.deeper env') env' ((params f).zip args) Y s₁:=by
   refine⟨⟨fun b o e=>L.keep _ _ (N.act.base b o e),⟨env',fe :: fr,by show A.frames.map (env' :: ·)=_;rw[hfe];rfl,⟨⟨O,by rw[hsc];exact cg,by rw[hsc];exact cc⟩,⟨env'.locals,o,es,ep,hfr,hbL,ho,hoc,hod⟩,hF.keeps L.keep⟩⟩,N.act.handled⟩,⟨_,o,L.ns,ho,.inl hoc,hdx,hbL,fun nm V e=>?_⟩,N.self.keeps L.keep,by rw[hs1];exact lt_of_lt_of_le N.tk htk⟩;obtain⟨v,hm,r⟩:=sZ ha e;refine⟨v,r.keeps L.keep,?_⟩;have:=List.all_eq_true.mp (G.cell 0) nm (db hm);simp only[Bool.or_eq_true,beq_iff_eq,Bool.and_eq_true] at this;have kd:env'.kindOf nm=(aJ f.st).names.lookup nm:=by unfold Env.kindOf;rw[hsc]
   rcases this with q | ⟨q,_⟩
   ·exact .inl ⟨kd.trans q,tR (kd.trans q) cn hm⟩
   ·have:=List.all_eq_true.mp (G.cell (s.heap.objs.size+1)) nm (db hm);simp only[Bool.or_eq_true,beq_iff_eq,Bool.and_eq_true,q] at this;rcases this with z | ⟨_,z⟩
    ·cases z
    obtain⟨a,ha'⟩:=Option.isSome_iff_exists.mp z;have ha2:env'.cells.lookup nm=some a:=by rw[he];exact ha'
    refine Exists.elim (L.cell nm a ha2) fun oc zz=>ee zz fun e1 e2 e3=>?_
    rw[pu (kd.trans q) cn hm] at e3;refine .inr ⟨.inl (kd.trans q),a,oc,ha2,e1,e2,e3,?_⟩;have:=L.above nm a (mem_of_lookup ha2);rw[hL] at this;exact ne_of_gt (Nat.lt_trans N.self.dxLt this)
  have back:∀ f' s',PS c (A.deeper env') env' ρ' Y' s₁ s'→fM c s'.heap f' fl→Rs (.ok (.ret (match f' with | .ret v=>v | _=>.none))) s':=fun f' s' p fr'=>by
   obtain⟨pn,px,ps⟩:=p;have x:dA (only c.dx) s.heap s'.heap:=fun b o e nd=>px b o (L.keep _ _ e) fun q=>q.elim nd fun q=>by
    rw[hL] at q;subst q;exact lt_irrefl _ (Heap.lt_size e)
   have N2:bE c A env ρ Y' s':=N.ext x pn.act.base pn.self pn.tk;refine k _ _ ⟨N2,?_,x,(fq.of L.same).trans ps⟩;rcases hfl with ⟨rfl,_⟩ | ⟨rfl,rfl,_⟩
   ·induction f' using PySem.Flow.casesOn<;>first | exact fr' | exact fr'.elim
   ·induction f' using PySem.Flow.casesOn<;>first | exact .none | exact fr'.elim
  refine H (A.deeper env') _ env' ((params f).zip args) Y s₁ _ (br f.st) fl ρ' Y' (by rw[hsc];exact hS) ⟨O,⟨fe :: fr,by show A.frames.map (env' :: ·)=_;rw[hfe];rfl⟩,hfr,⟨o,ho,hoc⟩⟩ ⟨by have:=R.d;show A.depth+1+n<850;ext,by have:=R.u;show A.units+3+12*n<9800;ext⟩ N' (fun f' s' p q=>back f' s' p q) fun x s' t=>?_
  refine ed (t) fun kk e zz=>And.elim (fun hk _=>?_) zz
  rcases hfl with ⟨rfl,_⟩ | ⟨rfl,_⟩<;>cases hk
theorem uu{c:Cx}{n:Nat}(B:cv c)(H:nR c n):rd c (n+1):=by
 intro A E env ρ Y s Q f args vs y Y' h hf R N ha k;exact wpAny_call (qg B H (C0 c.w.params hf) h R N ha k)
section
set_option tactic.hygienic false
section
variable {c:Cx}{A:Around}{E:Value→Shared→Prop}{env:Env}{ρ Y Y':af}{s:Shared}{Q:Value→Shared→Prop}{n:Nat}{y:V}
theorem vr(H:bY c n)(O:bP env)(R:bv n A){o:Option Expr}{a:Option Int}(h:dz (ev n).E env.scope ρ Y o=some (a,Y'))(N:bE c A env ρ Y s)
  (k:∀ v s',PN c A env ρ Y' s s'→lr v a→Q v s'):wpAny c.M A (evalPart o env) Q E s:=by
 induction o using zO with
 | none=>cases h;exact wpAny_pure (k _ _ (.refl N) .none)
 | some e=>
  exact mi h fun i sl h1 h=>by
   cases h;refine H A E env ρ Y s _ e _ _ h1 O R N fun v s' p=>k _ _ p.pn ?_
   obtain⟨t,rfl⟩:=p.2.1.inv_int;exact .int _ _
theorem Ei{v:Expr}{l u:Option Expr}{p pos:Pos}(H:bY c n)(h:(ev (n+1)).E env.scope ρ Y (.Subscript v (.Slice l u none p) pos)=some (y,Y'))(O:bP env)(R:bv n A)(N:bE c A env ρ Y s)
  (k:∀ v s',PE c A env ρ Y' y s v s'→Q v s'):wpAny c.M A (eval (.Subscript v (.Slice l u none p) pos) env) Q E s:=by
 dsimp only[ev] at h;have go:∀ {z:V} {Y1:af} {w:Option Int→Option Int→V},(ev n).E env.scope ρ Y v=some (z,Y1)→
   (match dz (ev n).E env.scope ρ Y1 l with
    | some (a,Y)=>(match dz (ev n).E env.scope ρ Y u with | some (b,Y)=>some (w a b,Y) | none=>none)
    | none=>none)=some (y,Y')→
   (∀ {s₁:Shared} {v1 va vb:Value} {a b:Option Int},bE c A env ρ Y' s₁→bq c s₁.heap v1 z→lr va a→lr vb b→(∀ r s',PE c A env ρ Y' (w a b) s₁ r s'→Q r s')→
    wpAny c.M A (subscriptTail v (.Slice l u none p) v1 (.ref s₁.heap.objs.size)) Q E { s₁ with heap:=s₁.heap.push { cls:=.type "slice",data:=.fields #[va,vb,.none] } })→
   wpAny c.M A (eval (.Subscript v (.Slice l u none p) pos) env) Q E s:=fun h1 h2 tail=>by
  refine mo h2 fun a sl2 ha h2=>mo h2 fun b sl3 hb h2=>?_
  cases h2;refine Subscript_ (H A E env ρ Y s _ v _ _ h1 O R N fun v1 s1 p1=>wpAny_Slice (vr H O R ha p1.1 fun va s2 p2 pa=>vr H O R hb p2.1 fun vb s3 p3 pb=>?_));rw[evalPart_none];exact wpAny_pure (tail p3.1 ((p1.2.1.ext p2.2.1).ext p3.2.1) pa pb fun r s' p=>k _ _ (p1.pn.trans (p2.trans p3) |>.thenPE p))
 exact msl h (fun t sl h1 h=>go h1 h fun N1 r pa pb q=>rm N1 r pa pb (fun _=>rfl) q) fun t sl h1 h=>oc h fun _ h=>go h1 h fun N1 r pa pb q=>pO N1 r pa pb (fun _=>rfl) q
theorem mw{v i:Expr}{pos:Pos}(B:cv c)(H:bY c n)(hs:∀ o w,subscripted i false o w=operate [o,w] (getItem o w))
  (h:(match (ev n).E env.scope ρ Y v with
   | some (a,Y)=>bif dU v a then (match (ev n).E env.scope ρ Y i with | some (b,Y)=>(dn a b).map fun v=>(v,Y) | none=>none) else none
   | none=>none)=some (y,Y')) (O:bP env) (R:bv n A) (N:bE c A env ρ Y s)
  (k:∀ v s',PE c A env ρ Y' y s v s'→Q v s'):wpAny c.M A (eval (.Subscript v i pos) env) Q E s:=m2 h fun a sl h1 h=>oc h fun _ h=>m2 h fun b sl2 h2 h=>om h fun z hz h=>
 Subscript_ (H A E env ρ Y s _ v _ _ h1 O R N fun v1 s1 p1=>H A E env ρ _ s1 _ i _ _ h2 O R p1.1 fun v2 s2 p2=>
  CN B p2.1 hz (p1.rep2 p2) p2.2.1 (hs _ _) fun r s' p=>pk k h _ _ (p1.thenPE (p2.thenPE p)))
theorem Lj{a b:Expr}{op:Operator}{pos:Pos}(B:cv c)(H:bY c n)(h:(ev (n+1)).E env.scope ρ Y (.BinOp a op b pos)=some (y,Y'))(O:bP env)(R:bv n A)(N:bE c A env ρ Y s)
  (k:∀ v s',PE c A env ρ Y' y s v s'→Q v s'):wpAny c.M A (eval (.BinOp a op b pos) env) Q E s:=by
 dsimp only[ev] at h;exact m2 h fun x sl h1 h=>m2 h fun z sl2 h2 h=>om h fun w hw h=>
  wpAny_BinOp (H A E env ρ Y s _ a _ _ h1 O R N fun v1 s1 p1=>H A E env ρ _ s1 _ b _ _ h2 O R p1.1 fun v2 s2 p2=>
   F6 B R p2.1 hw (p1.rep2 p2) p2.2.1 fun r s' p=>pk k h _ _ (p1.thenPE (p2.thenPE p)))
theorem yv{a b:Expr}{op:CmpOp}{pos:Pos}(B:cv c)(H:bY c n)(h:(ev (n+1)).E env.scope ρ Y (.Compare a [op] [b] pos)=some (y,Y'))(O:bP env)(R:bv n A)(N:bE c A env ρ Y s)
  (k:∀ v s',PE c A env ρ Y' y s v s'→Q v s'):wpAny c.M A (eval (.Compare a [op] [b] pos) env) Q E s:=by
 dsimp only[ev] at h;exact m2 h fun x sl h1 h=>m2 h fun z sl2 h2 h=>om h fun w hw h=>
  wpAny_Compare1 (H A E env ρ Y s _ a _ _ h1 O R N fun v1 s1 p1=>H A E env ρ _ s1 _ b _ _ h2 O R p1.1 fun v2 s2 p2=>
   BG B R p2.1 hw (p1.rep2 p2) p2.2.1 fun s' p=>pk k h _ _ (p1.thenPE (p2.thenPE p))) (qj (nG h2).1 op)
theorem OA{i:Int}{m:Nat}{p pos:Pos}(h:(ev (n+1)).E env.scope ρ Y (.UnaryOp .USub (.Constant (.int i) m p) pos)=some (y,Y'))(N:bE c A env ρ Y s)
  (k:∀ v s',PE c A env ρ Y' y s v s'→Q v s'):wpAny c.M A (eval (.UnaryOp .USub (.Constant (.int i) m p) pos) env) Q E s:=by
 cases h;refine wpAny_UnaryOp ?_;rw[arm_eval_Constant];exact wpAny_mkInt (PySem.P.neg_int (k _ _ (.step (t:=2) N (.int _ _))))
theorem PW{t a b:Expr}{pos:Pos}(H:bY c n)(HT:lG c n)(h:(ev (n+1)).E env.scope ρ Y (.IfExp t a b pos)=some (y,Y'))(O:bP env)(R:bv n A)(N:bE c A env ρ Y s)
  (k:∀ v s',PE c A env ρ Y' y s v s'→Q v s'):wpAny c.M A (eval (.IfExp t a b pos) env) Q E s:=by
 dsimp only[ev] at h;exact mtt h (fun sl h1 h=>wpAny_IfExp (HT A E env ρ Y s _ t _ _ h1 O R N fun s1 p1=>H A E env ρ _ s1 _ a _ _ h O R p1.1 fun v s2 p2=>k _ _ (p1.thenPE p2)))
  fun sl h1 h=>wpAny_IfExp (HT A E env ρ Y s _ t _ _ h1 O R N fun s1 p1=>H A E env ρ _ s1 _ b _ _ h O R p1.1 fun v s2 p2=>k _ _ (p1.thenPE p2))
theorem Gr{es:List Expr}{pos:Pos}(H:bY c n)(h:(ev (n+1)).E env.scope ρ Y (.List es pos)=some (y,Y'))(O:bP env)(R:bv n A)(N:bE c A env ρ Y s)
  (k:∀ v s',PE c A env ρ Y' y s v s'→Q v s'):wpAny c.M A (eval (.List es pos) env) Q E s:=by
 dsimp only[ev] at h;refine ml h fun vs sl h1 h=>oc h fun q h=>?_
 have q:=le_of_ble_eq_true q;rw[arm_eval_List];refine wpAny_bind (wpAny_standAt (wpAny_bind (pB H O R h1 N fun ws s' p=>wpAny_newObj_type (pk k (inj h) _ _ (p.1.thenPE (sx p.1.1 (by ext) p.2))) ?_)));show ws.toArray.size≤sizeLine;rw[List.size_toArray,p.2.length,sizeLine_eq];ext
end
section
variable {c:Cx}{A:Around}{E:Value→Shared→Prop}{env:Env}{ρ Y Y':af}{s:Shared}{Q:Value→Shared→Prop}{n:Nat}{y:V}
theorem sf{name:Str}{f:Fn}{pl:Sem Bool}{Q:Value×List Value→Shared→Prop}(B:cv c)(N:bE c A env ρ Y s)(hm:bJ name=some f)(hl:look Y name=none)(k:Q (.ref f.f,[.ref c.x]) s):
  wpAny c.M A (getMethod (.ref c.x) name pl) Q E s:=by
 refine ed (N.self.at) fun ox od zz=>ee zz fun I hod hdx=>?_
 refine jI (N.self.flds) fun m od' es ep zz=>pG zz fun hn hod' hc hd hz hmm=>?_
 obtain rfl:od=od':=inj (hod.symm.trans hod');have G:=(fZ c.w.params _ (eG hm)).2;have:=hmm name;rw[hl] at this;refine method_fn (N.act.k B) I (EC _) (by rfl') G.find G.type ?_ k;unfold PySem.W.shadowIn;dsimp only;rw[pT hn hod,this];rfl
theorem pP{o:Expr}{args:List Expr}{apos pos:Pos}(h:ax o args apos pos=true):kU o=true∧args.length≤20∧(apos.endLine==pos.line)=true:=by
 unfold ax at h;rw[Bool.and_eq_true,Bool.and_eq_true] at h;exact⟨h.1,le_of_ble_eq_true h.2.1,h.2.2⟩
theorem qd{o:Expr}{name:Str}{apos pos:Pos}{args:List Expr}{ys:List V}{sl1 sl2:af}{z:V}(H:bY c n)(O:bP env)(R:bv n A)(hok:ax o args apos pos=true)
  (h1:(ev n).E env.scope ρ Y o=some (z,sl1)) (h2:dl (ev n).E env.scope ρ sl1 args=some (ys,sl2)) (N:bE c A env ρ Y s)
  (k:∀ v s1,PE c A env ρ sl1 z s v s1→∀ pl:Sem Bool,wpAny c.M A (getMethod v name pl) (fun fx s2=>∀ p:Pos,wpAny c.M A (callWith p fx.1 fx.2 (backTo pos (starEach args env)) []) Q E s2) E s1):
  wpAny c.M A (eval (.Call (.Attribute o name apos) args [] pos) env) Q E s:=by
 obtain⟨g1,g2,g3⟩:=pP hok;have few:methodCallForm (args.length+([]:List Keyword).length) (backTo pos (starEach args env)) (backToKw pos (keywordEach [] env))=true:=by
  have ns:=jO (n:=n) (pos:=pos) h2;unfold methodCallForm;have:(backTo pos (starEach args env)).all (fun x=>!x.1)=true:=by
   rw[List.all_eq_true];intro x hx;cases q:x.1 with
   | false=>rfl
   | true=>
    have:(backTo pos (starEach args env)).any (·.1)=true:=List.any_eq_true.mpr ⟨x,hx,q⟩;rw[ns] at this;cases this
  rw[this,show backToKw pos (keywordEach [] env)=[] from rfl];exact decide_eq_true (show args.length+0+0<30 by ext)
 rw[arm_eval_Call,oI g1];refine wpAny_bind (H A E env ρ Y s _ o z sl1 h1 O R N fun v s1 p1=>wpAny_bind (wpAny_standAt ?_));unfold methodCall;rw[few];refine wpAny_bind (wpAny_holding ?_);refine wpAny_mono (k v s1 p1 _) (fun fx s2 hh=>?_) fun _ _ x=>x
 refine wpAny_bind ?_;unfold methodCallPos;rw[g3];simp only[Bool.not_true,Bool.false_or,if_true];exact wpAny_pure (hh pos)
theorem hJ{o:Expr}{name:Str}{apos pos:Pos}{args:List Expr}(B:cv c)(H:d8 c n)(h:(ev (n+1)).E env.scope ρ Y (.Call (.Attribute o name apos) args [] pos)=some (y,Y'))(O:bP env)(R:bv n A)(N:bE c A env ρ Y s)
  (k:∀ v s',PE c A env ρ Y' y s v s'→Q v s'):wpAny c.M A (eval (.Call (.Attribute o name apos) args [] pos) env) Q E s:=by
 dsimp only[ev] at h;refine mcs h (fun sl1 hok h1 h=>mfn h fun f hf h=>mnl h fun hl h=>ml h fun vs sl2 h2 h=>qd H.E O R hok h1 h2 N fun v s1 p1 pl=>?_)
  fun t sl1 hok h1 h=>mif h (fun hn h=>mes h fun u sl2 h2 h=>?_) fun _ h=>mif h (fun hn h=>Ui h fun x1 x2 e h=>ob h fun a e1 h=>ob h fun b e2 h=>oc h fun q h=>om h fun z hz hE=>?_) fun _ h=>nn h
 ·have G:=(fZ c.w.params _ (eG hf)).1;refine p1.2.1.eself ?_;refine sf B p1.1 hf hl fun p=>?_
  refine callWith_function (o:=vT f) (fd:=u0 f) (hY H.E O R h2 p1.1 fun ws s2 p2=>⟨⟨p2.1.1.act.k B _ _ G.obj,rfl⟩,?_⟩);exact H.C A E env ρ sl2 s2 Q f _ _ y Y' h (List.mem_append_right _ (List.mem_map.mpr ⟨_,eG hf,rfl⟩)) R p2.1.1 (.cons .self p2.2) fun r s3 p3=>k _ _ (p1.pn.trans p2.1 |>.thenPE p3)
 ·rw[hn];refine qd H.E O R hok h1 h2 N fun v s1 p1 pl=>?_
  obtain⟨tk,rfl,hl⟩:=p1.2.1.inv_str;refine GM.endswith fun p=>callWith_builtin (jO h2) (hY H.E O R h2 p1.1 fun ws s2 p2=>?_)
  refine p2.2.e1 fun w hu=>?_
  exact DQ p2.1.1 (p1.2.1.ext p2.1.2.1) hu fun p3=>pk k (inj h) _ _ (p1.pn.trans p2.1 |>.thenPE p3)
 ·subst hn e
  revert hok
  refine strC_eq e1 fun m1 q1=>?_
  refine strC_eq e2 fun m2 q2 hok=>?_
  rw[Bool.and_eq_true,Bool.not_eq_true'] at q;obtain⟨g1,g2,g3⟩:=pP hok;rw[arm_eval_Call,oI g1];refine wpAny_bind (H.E A E env ρ Y s _ o _ _ h1 O R N fun v s1 p1=>wpAny_bind (wpAny_standAt ?_));obtain⟨tk,rfl,hl⟩:=p1.2.1.inv_str;unfold methodCall;refine wpAny_bind (wpAny_holding (GM.replace (wpAny_bind ?_)));unfold methodCallPos;rw[g3,Bool.or_true,if_pos rfl];refine wpAny_pure (callWith_builtin rfl (evalArgs_plain (spliced_cons (Constant_str (k:=m1) (pos:=q1) (spliced_cons (Constant_str (k:=m2) (pos:=q2) (spliced_nil ?_)))))));have p2:PE c A env ρ sl1 (.str t) s1 (.str ⟨t.toArray⟩ tk) { s1 with toks:=s1.toks+1+1 }:=.step (t:=2) p1.1 p1.2.1;exact Dq (t:=s1.toks) (u:=s1.toks+1) p2.1 p2.2.1 (ne_of_gt p1.1.tk) (Nat.succ_ne_zero _) (ne_of_lt (Nat.lt_succ_self _)) q.2 (le_of_ble_eq_true q.1) hz fun r s' p3=>pk k hE _ _ (p1.thenPE (p2.thenPE p3))
theorem ye{f z:V}{args:List V}(h:fs f args=some z):(∃ id,f=.bi id)∨∃ id,f=.ty id:=by
 induction f using zV with
 | bi id=>exact .inl ⟨id,rfl⟩
 | ty id=>exact .inr ⟨id,rfl⟩
 | _=>exact nn h
theorem Hv{id:Str}{p pos:Pos}{args:List Expr}(B:cv c)(H:d8 c n)(h:(ev (n+1)).E env.scope ρ Y (.Call (.Name id p) args [] pos)=some (y,Y'))(O:bP env)(R:bv n A)(N:bE c A env ρ Y s)
  (k:∀ v s',PE c A env ρ Y' y s v s'→Q v s'):wpAny c.M A (eval (.Call (.Name id p) args [] pos) env) Q E s:=by
 refine Call_Name rfl ?_;dsimp only[ev] at h;refine mca h (fun a sl1 h1 h=>mfn h fun f hf h=>ml h fun vs sl2 h2 hC=>H.E A E env ρ Y s _ _ _ _ h1 O R N fun v s1 p1=>?_)
  fun f sl1 h1 h=>ml h fun vs sl2 h2 h=>om h fun z hz h=>H.E A E env ρ Y s _ _ _ _ h1 O R N fun v s1 p1=>?_
 ·obtain rfl:=p1.2.1.inv_addr;obtain⟨mem,rfl⟩:=lN hf;have G:=oW c.w.params f mem;exact callWith_function (o:=vT f) (fd:=u0 f) (hY H.E O R h2 p1.1 fun ws s2 p2=>⟨⟨p2.1.1.act.k B _ _ G.obj,rfl⟩,
   H.C A E env ρ sl2 s2 Q f _ _ y Y' hC (List.mem_append_left _ mem) R p2.1.1 p2.2 fun r s3 p3=>k _ _ (p1.pn.trans p2.1 |>.thenPE p3)⟩)
 ·have fin:wpAny c.M A (evalArgs v true (backTo pos (starEach args env)) []) (fun a s₁=>wpAny c.M A (call v ([]++a.pos) a.kw) Q E s₁) E s1:=
   hY H.E O R h2 p1.1 fun ws s2 p2=>Lo B p2.1.1 hz (p1.2.1.ext p2.1.2.1) p2.2 fun r s3 p3=>pk k h _ _ (p1.pn.trans p2.1 |>.thenPE p3)
  rcases ye hz with ⟨id,rfl⟩ | ⟨id,rfl⟩
  ·obtain rfl:=p1.2.1.inv_bi;exact callWith_builtin (jO h2) fin
  ·obtain rfl:=p1.2.1.inv_ty;exact PyProof.Rows.callWith_type (jO h2) fin
theorem Ml{b:Bool}{e:Expr}(h:(match (ev n).E env.scope ρ Y e with | some (.bool b,Y)=>some (b,Y) | _=>none)=some (b,Y')):(ev n).E env.scope ρ Y e=some (.bool b,Y'):=
 mbo h fun a d h1 h=>by cases h;exact h1
theorem qN{b:Bool}{e:Expr}{Q:Bool→Shared→Prop}(H:bY c n)(O:bP env)(R:bv n A)(N:bE c A env ρ Y s)(k:∀ s',PN c A env ρ Y' s s'→Q b s')(he:isTrue e env (eval e env)=(do let v ← eval e env;standAt e.pos;holding [v] (truthy v)))
  (h:(match (ev n).E env.scope ρ Y e with | some (.bool b,Y)=>some (b,Y) | _=>none)=some (b,Y')):wpAny c.M A (isTrue e env (eval e env)) Q E s:=
 wpAny_isTrue_value (H A E env ρ Y s _ _ _ _ (Ml h) O R N fun v s' p=>p.2.1.inv_bool ▸ wpAny_truthy_bool (k _ p.pn)) he
theorem LH{b:Bool}{x:Expr}{pos:Pos}{Q:Bool→Shared→Prop}(H:lG c n)(h:(ev (n+1)).T env.scope ρ Y (.UnaryOp .Not x pos)=some (b,Y'))(O:bP env)(R:bv n A)(N:bE c A env ρ Y s)(k:∀ s',PN c A env ρ Y' s s'→Q b s'):
  wpAny c.M A (isTrue (.UnaryOp .Not x pos) env (eval (.UnaryOp .Not x pos) env)) Q E s:=
 TH h fun a d h1 h=>by
  cases h;exact wpAny_isTrue_Not (H A E env ρ Y s _ x _ _ h1 O R N fun s' p=>k _ p)
theorem MG{b:Bool}{x y:Expr}{pos:Pos}{Q:Bool→Shared→Prop}(H:lG c n)(h:(ev (n+1)).T env.scope ρ Y (.BoolOp .And [x,y] pos)=some (b,Y'))(O:bP env)(R:bv n A)(N:bE c A env ρ Y s)(k:∀ s',PN c A env ρ Y' s s'→Q b s'):
  wpAny c.M A (isTrue (.BoolOp .And [x,y] pos) env (eval (.BoolOp .And [x,y] pos) env)) Q E s:=by
 dsimp only[ev] at h;refine mft h (fun d h1 h=>?_) fun d h1 h=>?_
 ·cases h;exact isTrue_and (H A E env ρ Y s _ x _ _ h1 O R N fun s' p=>k _ p)
 ·refine isTrue_and (H A E env ρ Y s _ x _ _ h1 O R N fun s1 p1=>?_);rw[if_pos rfl];refine isTrue_and (H A E env ρ _ s1 _ y _ _ h O R p1.1 fun s2 p2=>?_)
  induction b using zB with
  | true=>rw[if_pos rfl];exact isTrue_and_nil (k _ (p1.trans p2))
  | false=>rw[if_neg Bool.false_ne_true];exact k _ (p1.trans p2)
theorem QQ{b:Bool}{x y:Expr}{pos:Pos}{Q:Bool→Shared→Prop}(H:lG c n)(h:(ev (n+1)).T env.scope ρ Y (.BoolOp .Or [x,y] pos)=some (b,Y'))(O:bP env)(R:bv n A)(N:bE c A env ρ Y s)(k:∀ s',PN c A env ρ Y' s s'→Q b s'):
  wpAny c.M A (isTrue (.BoolOp .Or [x,y] pos) env (eval (.BoolOp .Or [x,y] pos) env)) Q E s:=by
 dsimp only[ev] at h;refine mtt h (fun d h1 h=>?_) fun d h1 h=>?_
 ·cases h;exact isTrue_or (H A E env ρ Y s _ x _ _ h1 O R N fun s' p=>k _ p)
 ·refine isTrue_or (H A E env ρ Y s _ x _ _ h1 O R N fun s1 p1=>?_);rw[if_neg Bool.false_ne_true];refine isTrue_or (H A E env ρ _ s1 _ y _ _ h O R p1.1 fun s2 p2=>?_)
  induction b using zB with
  | true=>rw[if_pos rfl];exact k _ (p1.trans p2)
  | false=>rw[if_neg Bool.false_ne_true];exact isTrue_or_nil (k _ (p1.trans p2))
theorem y5{b:Bool}{x y:Expr}{op:CmpOp}{pos:Pos}{Q:Bool→Shared→Prop}(H:bY c n)(h1:(ev n).E env.scope ρ Y (.Compare x [op] [y] pos)=some (.bool b,Y'))(O:bP env)(R:bv n A)(N:bE c A env ρ Y s)(k:∀ s',PN c A env ρ Y' s s'→Q b s'):
  wpAny c.M A (isTrue (.Compare x [op] [y] pos) env (eval (.Compare x [op] [y] pos) env)) Q E s:=by
 have go:=H A E env ρ Y s (fun v s'=>wpAny c.M A (truthy v) Q E s') _ _ _ h1 O R N fun v s' p=>p.2.1.inv_bool ▸ wpAny_truthy_bool (k _ p.pn)
 intro Γ p hΓ;have g:=go Γ p hΓ;rw[eval_Compare1] at g;rw[isTrue_Compare1];simp only[Sem.wp_bind',Sem.wp_holding,Sem.wp_cmd_standAt,Sem.wp_operate] at g ⊢;exact Sem.wp_mono c.M Γ _ (fun a p₁ s₁ h₁=>Sem.wp_mono c.M Γ _ (fun b _ s₂ h₂=>Sem.wp_mono c.M Γ _ (fun c p₃ s₃ h₃=>h₃ Γ p₃ hΓ) (fun _ _ _ h'=>h') _ _ h₂) (fun _ _ _ h'=>h') _ _ h₁) (fun _ _ _ h'=>h') _ _ g
theorem H9{sc:Scope}{l:Expr}{ops:List CmpOp}{cs:List Expr}{pos:Pos}{r:V×af}{P:List CmpOp→List Expr→Prop}(h:(ev n).E sc ρ Y (.Compare l ops cs pos)=some r)(k:∀ op e,(ev n).E sc ρ Y (.Compare l [op] [e] pos)=some r→P [op] [e]):P ops cs:=by
 induction n using zN with
 | zero=>exact nn h
 | succ n=>induction ops using zL with
  | nil=>exact nn h
  | cons op r=>induction r using zL with
   | cons _ _=>exact nn h
   | nil=>induction cs using zL with
    | nil=>exact nn h
    | cons rr r=>induction r using zL with
     | cons _ _=>exact nn h
     | nil=>exact k op rr h
theorem Di(H:d8 c n):lG c (n+1):=by
 intro A E env ρ Y s Q e b Y' h O R N k;replace R:bv n A:=R.less (Nat.le_succ n)
 induction e using zX with
 | UnaryOp op x pos=>induction op using UnaryOp.casesOn with
  | Not=>exact LH H.T h O R N k
  | _=>exact nn h
 | BoolOp op vs pos=>induction vs using zL with
  | nil=>induction op using PySem.BoolOp.casesOn<;>exact nn h
  | cons a r=>induction r using zL with
   | nil=>induction op using PySem.BoolOp.casesOn<;>exact nn h
   | cons b' r=>induction r using zL with
    | cons _ _=>induction op using PySem.BoolOp.casesOn<;>exact nn h
    | nil=>induction op using PySem.BoolOp.casesOn with
     | And=>exact MG H.T h O R N k
     | Or=>exact QQ H.T h O R N k
 | Constant k' m pos=>exact qN H.E O R N k rfl h
 | Name id pos=>exact qN H.E O R N k rfl h
 | Call f args kw pos=>exact qN H.E O R N k rfl h
 | Compare l ops cs pos=>exact H9 (P:=fun ops cs=>wpAny c.M A (isTrue (.Compare l ops cs pos) env (eval (.Compare l ops cs pos) env)) Q E s) (Ml h) fun op e h1=>y5 H.E h1 O R N k
 | _=>exact nn h
end
theorem dT.of_ext{c:Cx}{h h':Heap}{L:Addr}(x:dA (two c.dx L) h h')(hL:∀ o,h.get? L=some o→o.cls=.type "frame"):dT c h h':=fun b o e n q _=>
 (x b o e fun z=>z.elim n fun z=>by subst z;exact q (hL o e)).1 q
section
variable {c:Cx}{A:Around}{E:Value→Shared→Prop}{env:Env}{ρ Y Y':af}{s s' s'':Shared}{n:Nat}
theorem aD.isF(F:aD c A env s):∀ o,s.heap.get? env.locals=some o→o.cls=.type "frame":=fun o e=>by
 obtain⟨o',e',q⟩:=F.cls;obtain rfl:=inj (e'.symm.trans e);exact q
theorem bE.neL(N:bE c A env ρ Y s):env.locals≠c.dx:=by
 obtain⟨m,o,_,_,_,hd,_⟩:=N.vars.ns;exact hd
theorem bE.noB(N:bE c A env ρ Y s):c.hB.get? env.locals=none:=by
 obtain⟨m,o,_,_,_,_,hb,_⟩:=N.vars.ns;exact hb
theorem bS.hold{h h':Heap}(x:dT c h h')(d:h'.get? c.dx=h.get? c.dx)(v:bS c h Y):bS c h' Y:=by
 have nx:=v.neX;obtain⟨⟨o,ho,hc,r⟩,⟨m,od,es,ep,hn,hod,hcd,hd,hz,hl⟩⟩:=v;refine⟨⟨o,x _ _ ho nx (by rw[hc];intro q;cases q) (by rw[r.2];intro _ q;cases q),hc,r⟩,⟨m,od,es,ep,?_,d.trans hod,hcd,hd,hz,fun k=>?_⟩⟩
 ·refine gy (hn) fun o' es' ep' zz=>And.elim (fun a r'=>?_) zz
  exact⟨o',es',ep',d.trans a,r'⟩
 ·have:=hl k;split at this
  ·obtain⟨w,a,b⟩:=this;exact⟨w,a,b.hold x⟩
  ·exact this
theorem PE.ps{y:V}{v:Value}(p:PE c A env ρ Y' y s v s'):PS c A env ρ Y' s s':=⟨p.1,p.2.2.1.wide,p.2.2.2⟩
theorem PN.ps(p:PN c A env ρ Y' s s'):PS c A env ρ Y' s s':=⟨p.1,p.2.1.wide,p.2.2⟩
theorem PS.trans{ρ₁ ρ₂ Y₁ Y₂:af}(a:PS c A env ρ₁ Y₁ s s')(b:PS c A env ρ₂ Y₂ s' s''):PS c A env ρ₂ Y₂ s s'':=⟨b.1,a.2.1.trans b.2.1,a.2.2.trans b.2.2⟩
theorem aD.on{ρ₁ Y₁:af}(F:aD c A env s)(p:PS c A env ρ₁ Y₁ s s'):aD c A env s':=by
 obtain⟨fe,l,hf,hF⟩:=p.1.act.frames;obtain⟨l',hl'⟩:=F.top;obtain⟨rfl,rfl⟩:env=fe∧l'=l:=by rw[hl'] at hf;cases hf;exact⟨rfl,rfl⟩
 obtain⟨_,⟨L,o,es,n,a,b,d,e,g⟩,_⟩:=hF;rw[F.frame] at a;cases a;exact⟨F.ok,F.top,F.frame,o,d,e⟩
theorem aD.onE{y:V}{v:Value}(F:aD c A env s)(p:PE c A env ρ Y' y s v s'):aD c A env s':=F.on p.ps
theorem gI{id:Str}{v:Value}{y:V}{Q:Unit→Shared→Prop}(F:aD c A env s)(N:bE c A env ρ Y s)(hk:env.kindOf id=some .local)(r:bq c s.heap v y)
  (k:∀ s',PS c A env (put ρ id y) Y s s'→Q () s'):wpAny c.M A (storeName env id v) Q E s:=by
 have isF:=F.isF;have neL:=N.neL;have noB:=N.noB;refine ed (N.vars.ns) fun m o zz=>pG zz fun hn ho hc hd hb hl=>?_
 refine ed (N.act.frames) fun fe l zz=>And.elim (fun hf hF=>?_) zz
 obtain⟨l',hl'⟩:=F.top;obtain⟨rfl,rfl⟩:env=fe∧l'=l:=by rw[hl'] at hf;cases hf;exact⟨rfl,rfl⟩
 refine jI (hF.2.1) fun L o2 es ep zz=>I5 zz fun a b d e g=>?_
 rw[F.frame] at a;cases a;obtain rfl:=inj (ho.symm.trans d);rw[storeName_local hk (by rw[F.ok.kind];rfl)];refine nA hn ho g fun h' o' es' ep' hn' hs ho' hc' hd' _ _=>k _ ?_
 have x:dA (two c.dx env.locals) s.heap h':=dA.of_but hs (.inr rfl);have H:dT c s.heap h':=dT.of_ext x isF;refine⟨⟨⟨fun b o e=>(hs.2 b fun q=>by rw[q,noB] at e;cases e).trans (N.act.base b o e),⟨env,l',hl',hF.ext x N.self.dxDict fun _ _ _ _ _ _=>⟨o',es',ep',ho',hc'.trans e,hd'⟩⟩,N.act.handled⟩,?_,N.self.hold H (hs.2 _ (Ne.symm neL)),Nat.succ_pos _⟩,x,rfl,rfl⟩;refine⟨_,o',hn',ho',.inl (hc'.trans e),neL,noB,fun nm V' e'=>?_⟩;rw[d9] at e';by_cases q:nm=id
 ·subst q;simp only[if_true] at e';cases e';exact⟨v,r.hold H,.inl ⟨hk,by simp⟩⟩
 ·simp only[if_neg q] at e';obtain⟨w,rw',z⟩:=hl nm V' e';refine⟨w,rw'.hold H,z.imp (fun ⟨z1,z2⟩=>⟨z1,by simp[q,z2]⟩) fun ⟨z1,cl,oc,z2,z3,z4,z5,z6⟩=>⟨z1,cl,oc,z2,H _ _ z3 z6 (by rw[z4];decide) (by rw[z5];intro _ q;cases q),z4,z5,z6⟩⟩
end
section
variable {c:Cx}{A:Around}{E:Value→Shared→Prop}{env:Env}{ρ Y ρ' Y':af}{s s' s'':Shared}{n:Nat}{fl:Fl}{Q:Flow→Shared→Prop}
theorem oV{e:Expr}(h:fA e=false)(t:Option Expr)(line:Nat):swapsWith e t line env=pure false:=by
 induction e using zX<;>first | rfl | cases h
theorem yN{op:Operator}{x y z:V}{v w:Value}{Q:Value→Shared→Prop}(N:bE c A env ρ Y s)(hz:xS op x y=some z)(hv:bq c s.heap v x)(hw:bq c s.heap w y)
  (h:∀ r s',PE c A env ρ Y z s r s'→Q r s'):wpAny c.M A (inplaceOp op v w) Q E s:=by
 induction x using zV with
 | int a=>induction y using zV with
  | int b=>
   refine hv.eint fun _=>?_
   refine hw.eint fun _=>?_
   induction op using PySem.Operator.casesOn with
   | Add=>obtain rfl:=inj hz;exact PySem.P.iadd_int (h _ _ (.step N (.int _ _)))
   | Sub=>obtain rfl:=inj hz;exact PySem.P.isub_int (h _ _ (.step N (.int _ _)))
   | _=>exact nn hz
  | _=>exact nn hz
 | _=>exact nn hz
structure At(c:Cx)(A:Around)(E:Value→Shared→Prop)(env:Env)(s:Shared)(Q:Flow→Shared→Prop)(fl:Fl)(ρ' Y':af):Prop where
 q:∀ f s',PS c A env ρ' Y' s s'→fM c s'.heap f fl→Q f s'
 e:∀ x s',da c A env ρ' Y' s fl false x s'→E x s'
theorem At.of{f:Fl}{l d:af}(k:At c A E env s Q fl ρ' Y')(h:(f,l,d)=(fl,ρ',Y')):At c A E env s Q f l d:=by
 cases h;exact k
theorem At.os{f:Fl}{l d:af}(k:At c A E env s Q fl ρ' Y')(h:some (f,l,d)=some (fl,ρ',Y')):At c A E env s Q f l d:=k.of (inj h)
theorem FY{f:Expr}{as:List Expr}{ks:List Keyword}{p pos:Pos}(H:bY c n)(h:(ev (n+1)).S env.scope ρ Y (.Expr (.Call f as ks p) pos)=some (fl,ρ',Y'))(F:aD c A env s)(R:bv n A)(N:bE c A env ρ Y s)
  (k:At c A E env s Q fl ρ' Y'):wpAny c.M A (exec (.Expr (.Call f as ks p) pos) env) Q E s:=by
 dsimp only[ev] at h;exact m2 h fun v sl h1 h=>wpAny_Expr_any (H A E env ρ Y s _ _ _ _ h1 F.ok R N fun v s' q=>(k.os h).q _ _ q.ps trivial) (by unfold interactive;rw[F.ok.kind];rfl) rfl
theorem A1{e:Expr}{pos:Pos}(H:bY c n)(h:(ev (n+1)).S env.scope ρ Y (.Return (some e) pos)=some (fl,ρ',Y'))(F:aD c A env s)(R:bv n A)(N:bE c A env ρ Y s)
  (k:At c A E env s Q fl ρ' Y'):wpAny c.M A (exec (.Return (some e) pos) env) Q E s:=by
 dsimp only[ev] at h;exact m2 h fun v sl h1 h=>wpAny_Return_some (H A E env ρ Y s _ _ _ _ h1 F.ok R N fun v s' q=>(k.os h).q _ _ q.ps q.2.1)
theorem yz{id:Str}{e:Expr}{p pos:Pos}(H:bY c n)(h:(ev (n+1)).S env.scope ρ Y (.Assign [.Name id p] e pos)=some (fl,ρ',Y'))(F:aD c A env s)(R:bv n A)(N:bE c A env ρ Y s)
  (k:At c A E env s Q fl ρ' Y'):wpAny c.M A (exec (.Assign [.Name id p] e pos) env) Q E s:=mbl h fun hc hk h=>m2 h fun v sl h1 h=>wpAny_Assign_Name (H A E env ρ Y s _ _ _ _ h1 F.ok R N fun v s1 q=>gI (F.onE q) q.1 hk q.2.1 fun s2 p2=>(k.os h).q _ _ (q.ps.trans p2) trivial) (oV hc _ _)
theorem xK{id attr:Str}{e:Expr}{p1 p2 pos:Pos}(B:cv c)(H:bY c n)(h:(ev (n+1)).S env.scope ρ Y (.Assign [.Attribute (.Name id p1) attr p2] e pos)=some (fl,ρ',Y'))(F:aD c A env s)(R:bv n A)(N:bE c A env ρ Y s)
  (k:At c A E env s Q fl ρ' Y'):wpAny c.M A (exec (.Assign [.Attribute (.Name id p1) attr p2] e pos) env) Q E s:=by
 refine mbp h fun v sl hc h1 h=>mse h fun sl2 h2 h=>oc h fun q h=>?_
 rw[Bool.and_eq_true] at q;refine plainObj_wpAny_Assign_Attribute (H A E env ρ Y s _ _ _ _ h1 F.ok R N fun v s1 p1=>H A E env ρ _ s1 _ _ _ _ h2 F.ok R p1.1 fun v2 s2 p2=>?_) (oV hc _ _);obtain rfl:=p2.2.1.inv_self;exact wm B p2.1 q.1 (le_of_ble_eq_true q.2) (p1.rep2 p2) fun h' tk ht N' x=>(k.os h).q _ _ ((p1.thenPE p2).ps.trans ⟨N',x.wide,rfl,rfl⟩) trivial
theorem KP{id:Str}{op:Operator}{e:Expr}{p pos:Pos}(H:bY c n)(h:(ev (n+1)).S env.scope ρ Y (.AugAssign (.Name id p) op e pos)=some (fl,ρ',Y'))(F:aD c A env s)(R:bv n A)(N:bE c A env ρ Y s)
  (k:At c A E env s Q fl ρ' Y'):wpAny c.M A (exec (.AugAssign (.Name id p) op e pos) env) Q E s:=by
 refine mla h fun a hk hl h=>m2 h fun b sl h1 h=>om h fun z hz h=>?_
 have k:=k.of h;refine wpAny_AugAssign_Name ?_;refine ed (N.vars.ns) fun m o zz=>pG zz fun hn _ _ _ _ hl'=>?_
 obtain⟨v0,r0,q0⟩:=hl' id a hl;have hm:m id=some v0:=by
  rcases q0 with q0 | ⟨q0,_⟩
  ·exact q0.2
  ·rw[show env.kindOf id=some .local from hk] at q0;rcases q0 with q0 | q0<;>cases q0
 refine wpAny_loadName_local F.ok.kind hk hn hm (H A E env ρ Y s _ _ _ _ h1 F.ok R N fun v s1 p1=>yN p1.1 hz (r0.ext p1.2.2.1) p1.2.1 fun r s2 p2=>?_);have p:=p1.thenPE p2;exact gI (F.onE p) p.1 hk p.2.1 fun s3 p3=>k.q _ _ (p.ps.trans p3) trivial
theorem xh{id attr:Str}{op:Operator}{e:Expr}{p1 p2 pos:Pos}(B:cv c)(H:bY c n)(h:(ev (n+1)).S env.scope ρ Y (.AugAssign (.Attribute (.Name id p1) attr p2) op e pos)=some (fl,ρ',Y'))(F:aD c A env s)(R:bv n A)
  (N:bE c A env ρ Y s) (k:At c A E env s Q fl ρ' Y'):wpAny c.M A (exec (.AugAssign (.Attribute (.Name id p1) attr p2) op e pos) env) Q E s:=by
 refine mse h fun sl1 h1 h=>mta h fun a hf hl h=>m2 h fun b sl2 h2 h=>oc h fun q h=>om h fun z hz h=>?_
 have k:=k.of h;refine wpAny_AugAssign_AttributeAny (H A E env ρ Y s _ _ _ _ h1 F.ok R N fun v s1 p1=>?_);obtain rfl:=p1.2.1.inv_self;refine vk B p1.1 hf hl fun v0 r0=>?_
 have p1':PE c A env ρ sl1 a s v0 { s1 with toks:=s1.toks+1 }:=p1.thenPE (.step p1.1 r0);refine H A E env ρ sl1 _ _ _ _ _ h2 F.ok R p1'.1 fun v s2 p2=>yN p2.1 hz (p1'.rep2 p2) p2.2.1 fun r s3 p3=>?_
 have p:=p1'.thenPE (p2.thenPE p3);exact wm B p.1 hf (le_of_ble_eq_true q) p.2.1 fun h' tk ht N' x=>k.q _ _ (p.ps.trans ⟨N',x.wide,rfl,rfl⟩) trivial
theorem PS.fresh{ρ₁ Y₁:af}(p:PS c A env ρ₁ Y₁ s s'){e:Addr}(h:s'.heap.get? e=none):s.heap.get? e=none:=by
 cases q:s.heap.get? e with
 | none=>rfl
 | some o=>
  exfalso
  by_cases d:two c.dx env.locals e
  ·rcases d with d | d
   ·subst d;refine jI (p.1.self.flds) fun _ od _ _ zz=>ee zz fun _ hod _=>?_
    rw[h] at hod;cases hod
   ·subst d;refine ed (p.1.vars.ns) fun m o' zz=>ee zz fun _ ho _=>?_
    rw[h] at ho;cases ho
  ·have:=p.2.1 e o q d;by_cases w:o.cls=.type "frame"
   ·obtain⟨sl,z⟩:=this.2 w;rw[h] at z;cases z
   ·have z:=this.1 w;rw[h] at z;cases z
theorem da.after{ρ₁ Y₁:af}{b:Bool}{x:Value}(p:PS c A env ρ₁ Y₁ s s')(t:da c A env ρ' Y' s' fl b x s''):da c A env ρ' Y' s fl b x s'':=by
 refine ed (t) fun k e zz=>pG zz fun h1 h2 h3 h4 h5 h6=>?_
 refine⟨k,e,h1,h2,h3,p.fresh h4,p.trans h5,h6.imp id fun h=>?_⟩;refine Sk h fun oe vs a0 T oT ts h=>?_
 exact⟨oe,vs,a0,T,oT,ts,h.1,h.2.1,h.2.2.1,h.2.2.2.1,h.2.2.2.2.1,h.2.2.2.2.2.1,p.fresh h.2.2.2.2.2.2.1,h.2.2.2.2.2.2.2⟩
theorem At.after{ρ₁ Y₁:af}(k:At c A E env s Q fl ρ' Y')(p:PS c A env ρ₁ Y₁ s s'):At c A E env s' Q fl ρ' Y':=
 ⟨fun f s'' a b=>k.q _ _ (p.trans a) b,fun x s'' t=>k.e _ _ (t.after p)⟩
theorem xc{t:Expr}{a b:List Stmt}{pos:Pos}(H:d8 c n)(h:(ev (n+1)).S env.scope ρ Y (.If t a b pos)=some (fl,ρ',Y'))(F:aD c A env s)(R:bv n A)(N:bE c A env ρ Y s)
  (k:At c A E env s Q fl ρ' Y'):wpAny c.M A (exec (.If t a b pos) env) Q E s:=by
 have go:∀ {x:List Stmt} {sl:af} {s1:Shared},(ev n).SS env.scope ρ sl x=some (fl,ρ',Y')→PN c A env ρ sl s s1→wpAny c.M A (execs x env) Q E s1:=fun h2 p1=>
  H.SS A E env ρ _ _ _ _ _ _ _ h2 (F.on p1.ps) R p1.1 (k.after p1.ps).q (k.after p1.ps).e
 exact mtt h (fun sl h1 h=>wpAny_If (H.T A E env ρ Y s _ _ _ _ h1 F.ok R N fun s1 p1=>go h p1)) fun sl h1 h=>wpAny_If (H.T A E env ρ Y s _ _ _ _ h1 F.ok R N fun s1 p1=>go h p1)
end
section
variable {c:Cx}{A:Around}{E:Value→Shared→Prop}{env:Env}{ρ Y ρ' Y':af}{s s' s'':Shared}{n:Nat}{fl:Fl}
noncomputable abbrev frs(l:List Env):List Addr:=l.filterMap (·.frame)
theorem bp.at{h:Heap}{l:List Env}:bp c h l→∀ a∈frs l,∃ o es n,h.get? a=some o∧o.cls=.type "frame" ∧ o.data=.dict es n∧c.hB.get? a=none:=by
 induction l with
 | nil=>exact fun _ a ha=>by cases ha
 | cons env r ih=>
  intro F a ha;refine jI (F.2.1) fun L o es n zz=>ee zz fun hf hb hr=>?_
  have ha:a∈List.filterMap (·.frame) (env :: r):=ha;rw[List.filterMap_cons,hf] at ha;rcases List.mem_cons.mp ha with e | ha
  ·subst e;exact⟨o,es,n,hr.1,hr.2.1,hr.2.2,hb⟩
  ·exact ih F.2.2 a ha
theorem sV{env:Env}{r:List Env}{L:Addr}(hf:env.frame=some L):frs (env :: r)=L :: frs r:=by
 show List.filterMap (·.frame) (env :: r)=_;rw[List.filterMap_cons,hf]
theorem bp.fun{h base:Heap}{l:List Env}:bp c h l→(∀ a∈frs l,base.get? a=none)→h.FunFrames base l:=by
 induction l with
 | nil=>exact fun _ _=>trivial
 | cons env r ih=>
  intro F hn;refine jI (F.2.1) fun L o es n zz=>ee zz fun hf hb hr=>?_
  rw[sV hf] at hn;exact⟨(by rw[F.1.1.kind];intro q;cases q),⟨L,o,hf,hn L (.head _),hr.1,by rw[hr.2.2];intro _ q;cases q⟩,ih F.2.2 fun a ha=>hn a (.tail _ ha)⟩
def R3(l:List Env)(base h:Heap)(e T:Addr):Prop:=∀ b o,h.get? b=some o→b ∉ frs l→b≠e→b≠T→base.get? b=some o
theorem Be{l:List Env}{h h' base:Heap}{e T:Addr}(F:bp c h l)(C:R3 l base h e T)(k:base.StaysIn h')(u:h.UpToSlots h'):dA (two e T) h h':=fun b o ho nd=>by
 by_cases m:b∈frs l
 ·refine gy (F.at b m) fun o' es n zz=>pK zz fun ho' hc hd _=>?_
  obtain rfl:=inj (ho.symm.trans ho');exact⟨fun q=>(q hc).elim,fun _=>u b o ho (by rw[hd];intro _ q;cases q)⟩
 ·have:=k b o (C b o ho m (fun q=>nd (.inl q)) fun q=>nd (.inr q));exact⟨fun _=>this,fun _=>⟨o.slots,this⟩⟩
theorem bE.calm{h':Heap}{e T:Addr}(N:bE c A env ρ Y s)(x:dA (two e T) s.heap h')(he:∀ o,s.heap.get? e=some o→∃ vs,o.data=.fields vs)(hT:∀ o,s.heap.get? T=some o→∃ vs,o.data=.fields vs)
  (bk:∀ b o,c.hB.get? b=some o→h'.get? b=some o) (u:s.heap.UpToSlots h'):bE c A env ρ Y { s with heap:=h' }:=by
 have keep:∀ b o,s.heap.get? b=some o→o.cls≠.type "frame" → (∀ vs,o.data≠.fields vs)→h'.get? b=some o:=fun b o ho hc hd=>(x b o ho fun q=>by
  rcases q with q | q
  ·subst q;obtain⟨vs,z⟩:=he o ho;exact hd vs z
  ·subst q;obtain⟨vs,z⟩:=hT o ho;exact hd vs z).1 hc
 have H:dT c s.heap h':=fun b o ho _ hc hd=>keep b o ho hc hd
 have fr:∀ b o es n,s.heap.get? b=some o→o.cls=.type "frame" → o.data=.dict es n→∃ sl,h'.get? b=some { o with slots:=sl }:=fun b o es n ho hc hd=>u b o ho (by rw[hd];intro _ q;cases q)
 refine ed (N.act.frames) fun env0 l zz=>And.elim (fun hf hF=>?_) zz
 have hF':∀ {l:List Env},bp c s.heap l→bp c h' l:=by
  intro l
  induction l with
  | nil=>intro _;trivial
  | cons env r ih=>
   rintro⟨k,⟨L,o,es,n,hf,hb,ho,hc,hdt⟩,hr⟩
   obtain⟨sl,q⟩:=fr L o es n ho hc hdt;exact⟨k,⟨L,_,es,n,hf,hb,q,hc,hdt⟩,ih hr⟩
 refine ed (N.vars.ns) fun m o zz=>pG zz fun hn ho hc hd hb hl=>?_
 refine gy (id hn) fun o₁ es ep zz=>ee zz fun ho₁ hdt hr=>?_
 obtain rfl:=inj (ho.symm.trans ho₁);refine jI (N.self.flds) fun _ od des dep zz=>I5 zz fun _ hod hdc hdd _=>?_
 have dx:h'.get? c.dx=s.heap.get? c.dx:=by rw[hod];exact keep _ _ hod (by rw[hdc];decide) (by rw[hdd];intro _ q;cases q)
 refine⟨⟨bk,⟨env0,l,hf,hF' hF⟩,N.act.handled⟩,?_,N.self.hold H dx,N.tk⟩
 ·obtain⟨sl,q⟩:=u _ _ ho (by rw[hdt];intro _ q;cases q);refine⟨m,_,Ns.slots hn ho q,q,hc,hd,hb,fun nm V e'=>?_⟩;obtain⟨v,r,z⟩:=hl nm V e';exact⟨v,r.hold H,z.imp id fun ⟨z1,cl,oc,z2,z3,z4,z5,z6⟩=>⟨z1,cl,oc,z2,keep _ _ z3 (by rw[z4];decide) (by rw[z5];intro _ q;cases q),z4,z5,z6⟩⟩
end
structure lV(c:Cx)(A:Around)(env:Env)(l:List Env)(s s1:Shared)(k e:Addr)(base:Heap)(a0:Value)(T:Addr):Prop where
 top:A.frames=some (env :: l)
 fr:bp c s1.heap (env :: l)
 cov:R3 (env :: l) base s1.heap e T
 eF:∀ o,s1.heap.get? e=some o→∃ vs,o.data=.fields vs
 tF:∀ o,s1.heap.get? T=some o→∃ vs,o.data=.fields vs
 eN:s.heap.get? e=none
 tN:s.heap.get? T=none
section
variable {c:Cx}{A:Around}{E:Value→Shared→Prop}{env:Env}{ρ Y ρ' Y':af}{s s1 s' s'':Shared}{n:Nat}{fl:Fl}{l:List Env}{k e T:Addr}{base h':Heap}{a0:Value}
theorem lV.hB(K:lV c A env l s s1 k e base a0 T)(p:PS c A env ρ Y s s1)(N0:bE c A env ρ' Y' s)(st:base.StaysIn h'):∀ b o,c.hB.get? b=some o→h'.get? b=some o:=fun b o hb=>by
 refine st b o (K.cov b o (p.1.act.base b o hb) (fun m=>?_) (fun q=>?_) fun q=>?_)
 ·refine gy (K.fr.at b m) fun _ _ _ zz=>pK zz fun _ _ _ z=>?_
  rw[hb] at z;cases z
 ·subst q;have:=N0.act.base _ _ hb;rw[K.eN] at this;cases this
 ·subst q;have:=N0.act.base _ _ hb;rw[K.tN] at this;cases this
theorem fJ(K:lV c A env l s s1 k e base a0 T)(N0:bE c A env ρ' Y' s)(p:PS c A env ρ Y s s1)(st:base.StaysIn h')(u:s1.heap.UpToSlots h'):PS c A env ρ Y s { s1 with heap:=h' }:=by
 have x:=Be K.fr K.cov st u;refine⟨p.1.calm x K.eF K.tF (K.hB p N0 st) u,?_,p.2.2⟩
 let D:Addr→Prop:=fun b=>(b=c.dx∨b=env.locals)∨b=e∨b=T
 have x1:dA D s.heap s1.heap:=p.2.1.mono fun _ _ _ q=>.inl q
 have x2:dA D s1.heap h':=x.mono fun _ _ _ q=>.inr q
 refine (x1.trans x2).mono fun b o ho q=>?_
 rcases q with q | q | q
 ·exact q
 ·subst q;rw[K.eN] at ho;cases ho
 ·subst q;rw[K.tN] at ho;cases ho
theorem mA{L:Addr}(K:lV c A env l s s1 k e base a0 T)(p:PS c A env ρ Y s s1)(hh:Heap.HeldW base (env :: l) e (.ref k) a0 L h')(u:s1.heap.UpToSlots h'):JI s.heap h' L e k:=by
 obtain⟨_,_,_,oe,vs,T',oT,ts,he,⟨hc,h0⟩,hd,h1,hb,hne,hT,hdT,h3⟩:=hh;refine⟨oe,vs,a0,T',oT,ts,he,hc,hd,h0,h1,hne,?_,hT,hdT,h3⟩;by_cases q:T'=T
 ·subst q;exact K.tN
 refine p.fresh ?_;cases z:s1.heap.get? T' with
 | none=>rfl
 | some o=>
  exfalso
  by_cases m:T'∈frs (env :: l)
  ·refine gy (K.fr.at T' m) fun o' es n zz=>pK zz fun ho' _ hd' _=>?_
   obtain⟨sl,w⟩:=u T' o' ho' (by rw[hd'];intro _ q;cases q);rw[hT] at w;cases w;rw[hd'] at hdT;cases hdT
  ·have:=K.cov T' o z m hne q;rw[hb] at this;cases this
theorem wi{b:Bool}{x:Value}{Q:Unit→Shared→Prop}(F:aD c A env s)(N0:bE c A env ρ' Y' s)(t:da c A env ρ Y s fl b x s1)
  (k:∀ k e l base a0 T h',fl=.exc k→ff k=true→x=.ref e→lV c A env l s s1 k e base a0 T→PS c A env ρ Y s s1→Heap.HeldW base (env :: l) e (.ref k) a0 env.locals h'→s1.heap.UpToSlots h'→Q () { s1 with heap:=h' }):
  wpAny c.M A (noteFrame x env) Q E s1:=by
 refine ed (t) fun kk e zz=>pG zz fun hfl hex zq4 heN p st=>?_
 subst zq4;obtain⟨l,hl⟩:=F.top;refine ed (p.1.act.frames) fun fe l' zz=>And.elim (fun hf hF=>?_) zz
 obtain⟨rfl,rfl⟩:env=fe∧l=l':=by rw[hl] at hf;cases hf;exact⟨rfl,rfl⟩
 rcases st with ⟨_,oe,vs,a0,he,hc,hd,h1,h0⟩ | ⟨oe,vs,a0,T,oT,ts,he,hc,hd,h0,h1,hne,hTn,hT,hdT,h3⟩
 ·have none_frs:∀ a∈frs (env :: l),(hideAll s1.heap (e :: frs (env :: l))).get? a=none:=fun a m=>hideAll_none _ (.tail _ m)
  unfold noteFrame;simp only[F.frame];refine wpAny_bind (wpAny_field he hd h1 ?_);rw[if_neg (by decide)];refine wpAny_entryW (base:=hideAll s1.heap (e :: frs (env :: l))) hl (hF.fun none_frs) F.frame he (fun b o q=>of_hideAll _ q) (hideAll_none _ (.head _)) hd (Array.getElem?_eq_some_iff.mp h1).1 h0 fun h' hN=>?_
  refine pK (hN) fun k1 k2 k3 k4=>?_
  rw[hc] at k3;obtain⟨oe',vs',T,oT,ts,he',hc',hd',h1',hb,hne,hT,hdT,h3⟩:=id k3;have hTs:s1.heap.get? T=none:=by
   cases z:s1.heap.get? T with
   | none=>rfl
   | some o=>
    exfalso
    by_cases m:T∈frs (env :: l)
    ·refine gy (hF.at T m) fun o' es n zz=>pK zz fun ho' _ hdd _=>?_
     obtain⟨sl,w⟩:=k4 T o' ho' (by rw[hdd];intro _ q;cases q);rw[hT] at w;cases w;rw[hdd] at hdT;cases hdT
    ·have:=hideAll_get (e :: frs (env :: l)) z (fun q=>by
      rcases List.mem_cons.mp q with q | q
      ·exact hne q
      ·exact m q)
     rw[hb] at this;cases this
  refine k kk e l _ a0 T h' hfl hex rfl ⟨hl,hF,fun b o hb' m ne _=>hideAll_get _ hb' fun q=>?_,fun o z=>?_,fun o z=>?_,heN,p.fresh hTs⟩ p ⟨k1,hideAll_none _ (.head _),k2,k3⟩ k4
  ·rcases List.mem_cons.mp q with q | q
   ·exact ne q
   ·exact m q
  ·rw[he] at z;cases z;exact⟨vs,hd⟩
  ·rw[hTs] at z;cases z
 ·refine wpAny_noteFrame_againW (base:=hideAll s1.heap (e :: T :: frs (env :: l))) (cls:=.ref kk) (a0:=a0) F.frame ⟨oe,vs,T,oT,ts,he,⟨hc,h0⟩,hd,h1,hideAll_none _ (.tail _ (.head _)),hne,hT,hdT,h3⟩ ?_;refine k kk e l (hideAll s1.heap (e :: T :: frs (env :: l))) a0 T s1.heap hfl hex rfl ⟨hl,hF,fun b o hb' m ne nT=>hideAll_get _ hb' fun q=>?_,fun o z=>?_,fun o z=>?_,heN,hTn⟩ p
   ⟨fun b o q=>of_hideAll _ q,hideAll_none _ (.head _),hF.fun fun a m=>hideAll_none _ (.tail _ (.tail _ m)),⟨oe,vs,T,oT,ts,he,⟨hc,h0⟩,hd,h1,hideAll_none _ (.tail _ (.head _)),hne,hT,hdT,h3⟩⟩ (.refl _)
  ·rcases List.mem_cons.mp q with q | q
   ·exact ne q
   rcases List.mem_cons.mp q with q | q
   ·exact nT q
   ·exact m q
  ·rw[he] at z;cases z;exact⟨vs,hd⟩
  ·rw[hT] at z;cases z;exact⟨ts,hdT⟩
theorem sn{b:Bool}{x:Value}{E':Value→Shared→Prop}(F:aD c A env s)(N0:bE c A env ρ' Y' s)(t:da c A env ρ Y s fl b x s1)(k:∀ s2,da c A env ρ Y s fl true x s2→E' x s2):
  notedBy c.M A env E' x s1:=by
 unfold notedBy;refine wi F N0 t fun kk e l base a0 T h' hfl hex hx K p hh u=>k _ ?_
 exact⟨kk,e,hfl,hex,hx,K.eN,fJ K N0 p hh.1 u,.inr (mA K p hh u)⟩
theorem vN{x:Value}(F:aD c A env s)(N0:bE c A env ρ' Y' s)(t:da c A env ρ Y s fl true x s1)(k:∀ s2,da c A env ρ Y s fl false x s2→E x s2):cameBackBy c.M A env E x s1:=by
 refine ed (t) fun kk e zz=>pG zz fun hfl hex zq4 heN p st=>?_
 subst zq4;rcases st with ⟨q,_⟩ | ⟨oe,vs,a0,T,oT,ts,he,hc,hd,h0,h1,hne,hTn,hT,hdT,h3⟩
 ·cases q
 unfold cameBackBy;refine wpAny_bind (wpAny_field he hd h1 ?_);rw[if_neg (show ¬ ((Value.ref T==Value.none)=true) from by simp)];obtain⟨l,hl⟩:=F.top;refine ed (p.1.act.frames) fun fe l' zz=>And.elim (fun hf hF=>?_) zz
 obtain⟨rfl,rfl⟩:env=fe∧l=l':=by rw[hl] at hf;cases hf;exact⟨rfl,rfl⟩
 rw[F.frame];have hsz3:3<ts.size:=(Array.getElem?_eq_some_iff.mp h3).1;have other:∀ b,b≠T→(s1.heap.update T (Obj.mapFields (·.setIfInBounds 3 ((some env.locals).elim Value.none fun f=>rawInt f)))).get? b=s1.heap.get? b:=
  fun b hb=>Heap.get?_update_other _ _ (Ne.symm hb)
 have noRecord:∀ b o,s1.heap.get? b=some o→(∀ vs,o.data≠.fields vs)→b≠T:=fun b o hb hnf q=>by
  rw[q,hT] at hb;injection hb with hb;subst hb;exact hnf ts hdT
 have K:lV c A env l s s1 kk e (hideAll s1.heap (e :: T :: frs (env :: l))) a0 T:=⟨hl,hF,fun b o hb' m ne nT=>hideAll_get _ hb' fun q=>by
   rcases List.mem_cons.mp q with q | q
   ·exact ne q
   rcases List.mem_cons.mp q with q | q
   ·exact nT q
   ·exact m q,fun o z=>by rw[he] at z;cases z;exact⟨vs,hd⟩,fun o z=>by rw[hT] at z;cases z;exact⟨ts,hdT⟩,heN,hTn⟩
 have st:(hideAll s1.heap (e :: T :: frs (env :: l))).StaysIn (s1.heap.update T (Obj.mapFields (·.setIfInBounds 3 ((some env.locals).elim Value.none fun f=>rawInt f)))):=fun b o q=>by
  refine (other b fun z=>?_).trans (of_hideAll _ q);subst z;rw[hideAll_none _ (.tail _ (.head _))] at q;cases q
 have u:s1.heap.UpToSlots (s1.heap.update T (Obj.mapFields (·.setIfInBounds 3 ((some env.locals).elim Value.none fun f=>rawInt f)))):=fun b o hb hnf=>⟨o.slots,(other b (noRecord b o hb hnf)).trans hb⟩
 unfold setFlight;refine wpAny_bind (wpAny_field he hd h1 ?_);rw[if_pos (show (Value.ref T != Value.none)=true from by simp)];refine wpAny_setField hT hdT hsz3 (k _ ⟨kk,e,hfl,hex,rfl,heN,fJ K N0 p st u,.inr ⟨oe,vs,a0,T,_,_,(other e (Ne.symm hne)).trans he,hc,hd,h0,h1,hne,hTn,Heap.get?_update_self _ hT (Obj.isFreed_of_fields (Obj.data_mapFields hdT _)),Obj.data_mapFields hdT _,by simp[hsz3]⟩⟩)
end
theorem la{a:Nat}(h:ff a=true):a=900∨a=913∨a=926:=by
 unfold ff at h;simp only[Bool.or_eq_true] at h;rcases h with (h | h) | h
 ·exact .inl (Nat.eq_of_beq_eq_true h)
 ·exact .inr (.inl (Nat.eq_of_beq_eq_true h))
 ·exact .inr (.inr (Nat.eq_of_beq_eq_true h))
theorem GY(p:Params){k a:Nat}(hk:ff k=true)(ha:ff a=true):exmOne (K p) (.ref k) (.ref a)=some (Nat.beq a k):=by
 rcases la hk with rfl | rfl | rfl<;>rcases la ha with rfl | rfl | rfl<;>rfl'
noncomputable def D8(es:Array DictEntry):Bool:=es.all fun e=>match e.key with | .str _ _=>true | _=>false
theorem lh{h:Heap}{p:Params}(X:(K p).In h){a:Addr}{o:Obj}{es:Array DictEntry}{ep:Nat}(ho:(K p).lookup a=some o)(hd:o.data=.dict es ep)(hk:D8 es=true):h.Ns a (nsFind es):=
 ⟨o,es,ep,X _ _ ho,hd,(fun e he=>by
  have hx:=Array.all_eq_true_iff_forall_mem.mp hk e he;cases hk:e.key<;>rw[hk] at hx<;>first | exact⟨_,_,rfl⟩ | cases hx),fun _=>rfl⟩
section
variable {c:Cx}{A:Around}{E:Value→Shared→Prop}{env:Env}{ρ Y ρ' Y':af}{s s' s'':Shared}{n:Nat}{fl:Fl}{Q:Flow→Shared→Prop}
theorem raised{a:Addr}{args:List Value}{h':Heap}{e:Addr}(ha:ff a=true)(p:PN c A env ρ Y' s s')(m:Heap.MadeExcOf s'.heap h' e (.ref a) args):da c A env ρ Y' s (.exc a) false (.ref e) { s' with heap:=h' }:=by
 have q:PS c A env ρ Y' s { s' with heap:=h' }:=p.ps.trans ⟨p.1.grow (s':={ s' with heap:=h' }) m.keeps p.1.tk,.of_keeps m.keeps,rfl,rfl⟩;obtain⟨t,ht,_⟩:=m.there;exact⟨a,e,rfl,ha,rfl,p.ps.fresh m.new,q,.inl ⟨rfl,_,_,_,ht,rfl,rfl,rfl,rfl⟩⟩
theorem DU{id:Str}{np cp pos:Pos}(B:cv c)(H:bY c n)(h:(ev (n+1)).S env.scope ρ Y (.Raise (some (.Call (.Name id np) [] [] cp)) none pos)=some (fl,ρ',Y'))(F:aD c A env s)(R:bv n A)(N:bE c A env ρ Y s)
  (k:At c A E env s Q fl ρ' Y'):wpAny c.M A (exec (.Raise (some (.Call (.Name id np) [] [] cp)) none pos) env) Q E s:=by
 refine mad h fun a sl h1 h=>oc h fun q h=>?_
 have k:=k.os h;have nm:∀ (Q':Value→Shared→Prop),(∀ s1,PN c A env ρ sl s s1→Q' (.ref a) s1)→wpAny c.M A (eval (.Name id np) env) Q' E s:=fun Q' hq=>
  H A E env ρ Y s _ _ _ _ h1 F.ok R N fun v s1 p1=>p1.2.1.inv_addr ▸ hq s1 p1.pn
 clear h h1;rcases la q with rfl | rfl | rfl
 ·refine wpAny_Raise_call_sub (C:=900) (N:=899) PySem.F.excBase_Exception N.act.handled rfl (mN:=nsFind _) ?_ (nm _ fun s1 p1=>⟨rfl,evalArgs_nil3 ⟨rfl,zero_le _,(p1.1.act.k B) 900 (y1 c.w.params) (by rfl'),lh (p1.1.act.k B) (o:=yg c.w.params) (by rfl') rfl (by rfl'),fun h' e m=>k.e _ _ (raised q p1 m)⟩⟩);rfl'
 ·refine wpAny_Raise_call_sub (C:=913) (N:=912) PySem.F.excBase_Exception N.act.handled rfl (mN:=nsFind _) ?_ (nm _ fun s1 p1=>⟨rfl,evalArgs_nil3 ⟨rfl,zero_le _,(p1.1.act.k B) 913 (Ak c.w.params) (by rfl'),lh (p1.1.act.k B) (o:=AT c.w.params) (by rfl') rfl (by rfl'),fun h' e m=>k.e _ _ (raised q p1 m)⟩⟩);rfl'
 ·refine wpAny_Raise_call_sub (C:=926) (N:=925) PySem.F.excBase_Exception N.act.handled rfl (mN:=nsFind _) ?_ (nm _ fun s1 p1=>⟨rfl,evalArgs_nil3 ⟨rfl,zero_le _,(p1.1.act.k B) 926 (zx c.w.params) (by rfl'),lh (p1.1.act.k B) (o:=zf c.w.params) (by rfl') rfl (by rfl'),fun h' e m=>k.e _ _ (raised q p1 m)⟩⟩);rfl'
theorem fM.exc{h:Heap}{f:Flow}{k:Addr}{P:Prop}(fr:fM c h f (.exc k)):P:=by
 induction f using PySem.Flow.casesOn<;>exact fr.elim
theorem bZ{b:List Stmt}{id:Str}{p1 p2 p3 pos:Pos}(B:cv c)(H:d8 c n)(h:(ev (n+1)).S env.scope ρ Y (.Try b [.ExceptHandler (some (.Name id p1)) none [.Pass p2] p3] [] [] pos)=some (fl,ρ',Y'))(F:aD c A env s)(R:bv n A)
  (N:bE c A env ρ Y s) (k:At c A E env s Q fl ρ' Y'):wpAny c.M A (exec (.Try b [.ExceptHandler (some (.Name id p1)) none [.Pass p2] p3] [] [] pos) env) Q E s:=by
 rw[arm_exec_Try];refine wpAny_bind (wpAny_standAt (wpAny_tryStmt_except ?_));refine mtry h (fun kk ρ1 Y1 hb h=>mdg h fun a hd hk hg h=>oc h fun qa h=>H.SS A _ env ρ Y s _ b _ _ _ hb F R N (fun f s1 p fr=>fr.exc) fun x s1 t=>wi F N t fun k1 e l base a0 T h1 hfl hex hx C p hh u=>?_) fun hb hne=>?_
 ·obtain rfl:kk=k1:=by cases hfl;rfl
  rw[hx];refine wpAny_landsW hh fun h2 fly u2=>?_
  have u12:=u.trans u2;have X2:(K c.w.params).In h2:=(fJ C N p fly.1 u12).1.act.k B;refine wpAny_handleBy_cons (codeAny_handlers_test ?_) (by intro q;cases q);obtain⟨v,ev',st⟩:=wu c.w.params hg;cases st;refine Name_function_global F.ok.kind hk ((oU X2 F.ok ev').here ?_) (by simpa using of_decide_eq_false hd);obtain⟨oe,he,hc⟩:=fly.there;refine (exm_one X2 (show Looks c.M h2 (typeOf (.ref e)) (.ref kk) by rw[←hc];exact (Looks.ld he).andThen .now) (GY _ hex qa)).here ?_;cases qk:Nat.beq a kk with
  | true=>
   rw[qk] at h;rw[if_pos rfl];refine codeAny_handlers_suite (lands_againW fly fun h3 fly3 u3=>wpAny_execs_cons (wpAny_bind (wpAny_standAt (wpAny_pure (wpAny_execs_nil ?_)))));have q:=fJ C N p fly3.1 (u12.trans u3);exact (k.os h).q _ _ q trivial
  | false=>
   rw[qk] at h;have k:=k.os h;rw[if_neg Bool.false_ne_true];refine wpAny_handleBy_nil ?_;obtain⟨_,_,_,oe,ws,T',oT,ts,he,hc',hd',h1',_⟩:=(show _ from fly);unfold PySem.passOn;refine wpAny_bind (wpAny_field he hd' h1' ?_);rw[if_neg (show ¬ ((Value.ref T'==Value.none)=true) from by simp),F.frame];have fin:wpAny c.M A (setFlight (.ref e) (some env.locals) >>= fun _=>throw (Value.ref e):Sem Flow) Q E { s1 with heap:=h2 }:=
    wpAny_bind (setFlight_onW fly fun h3 held3 u3=>by
     have q:=fJ C N p held3.1 (u12.trans u3);have q2:=mA C p held3 (u12.trans u3);exact wpAny_throw (k.e _ _ ⟨kk,e,rfl,hex,rfl,C.eN,q,.inr q2⟩))
   first
    | exact fin
    | exact wpAny_bind (wpAny_pure fin)
 ·refine H.SS A _ env ρ Y s _ b _ _ _ hb F R N (fun f s1 p fr=>?_) fun x s1 t=>?_
  ·induction f using PySem.Flow.casesOn with
   | next=>exact wpAny_execs_nil (k.q _ _ p fr)
   | _=>exact k.q _ _ p fr
  ·refine ed (t) fun kk e zz=>And.elim (fun q _=>?_) zz
   exact absurd q (hne kk)
end
section
variable {c:Cx}{A:Around}{E:Value→Shared→Prop}{env:Env}{ρ Y ρ' Y':af}{s s' s'':Shared}{n N:Nat}{fl:Fl}{Q:Flow→Shared→Prop}{R:Result→Shared→Prop}
theorem ql{f:Fl}{l d:af}(ro:∀ f s',PS c A env ρ' Y' s s'→fM c s'.heap f fl→R (.ok f) s')(h:(f,l,d)=(fl,ρ',Y')):∀ g s',PS c A env l d s s'→fM c s'.heap g f→R (.ok g) s':=by
 cases h;exact ro
theorem da.lp{f:Fl}{l d:af}{b:Bool}{x:Value}{w:af→af→Option (Fl×af×af)}(t:da c A env l d s f b x s')(h:LP w (fl,ρ',Y') f l d):da c A env ρ' Y' s fl b x s':=by
 obtain⟨k,e,rfl,r⟩:=t;have h:(Fl.exc k,l,d)=(fl,ρ',Y'):=h;cases h;exact⟨k,e,rfl,r⟩
theorem BD(H:∀ m≤N,d8 c m){k:Nat}{t:Expr}{b:List Stmt}(hk:k≤N)(h:(ev k).W env.scope ρ Y t b=some (fl,ρ',Y'))(F:aD c A env s)(Rm:bv N A)(N0:bE c A env ρ Y s)
  (ro:∀ f s',PS c A env ρ' Y' s s'→fM c s'.heap f fl→R (.ok f) s') (re:∀ x s',da c A env ρ' Y' s fl true x s'→R (.error x) s'):codeAny c.M A (.whileLoop t b [] env) R s:=by
 refine codeAny_whileLoop (fun m s'=>∃ ρ1 Y1,m≤N∧(ev m).W env.scope ρ1 Y1 t b=some (fl,ρ',Y')∧PS c A env ρ1 Y1 s s') ?_ k ⟨ρ,Y,hk,h,⟨N0,.refl,.refl s⟩⟩
 rintro m s1 ⟨ρ1,Y1,hm,h,p⟩
 induction m using zN with
 | zero=>cases h
 | succ m=>
  have Hm:=H m (le_of_succ_le hm);have Rm':bv m A:=Rm.less (le_of_succ_le hm);dsimp only[ev] at h;refine mtt h (fun sl2 ht h=>mlp h fun f1 ρ2 Y2 hs lp=>Hm.T A _ env ρ1 Y1 s1 _ t _ _ ht F.ok Rm' p.1 fun s2 p2=>?_) fun sl2 ht h=>Hm.T A _ env _ Y1 s1 _ t _ _ ht F.ok Rm' p.1 fun s2 p2=>?_
  ·rw[if_pos rfl];have q2:=p.trans p2.ps;refine Hm.SS A _ env ρ1 sl2 s2 _ b _ _ _ hs (F.on q2) Rm' p2.1 (fun f s3 p3 fr=>?_) fun x s3 th=>sn F N0 (th.after q2) fun s4 t4=>re x s4 (t4.lp lp)
   have p3:=q2.trans p3;clear hs
   revert lp
   exact fr.el (fun lp=>⟨m,Nat.lt_succ_self m,ρ2,Y2,le_of_succ_le hm,lp,p3⟩) (fun lp=>ql ro lp _ _ p3 trivial) (fun lp=>⟨m,Nat.lt_succ_self m,ρ2,Y2,le_of_succ_le hm,lp,p3⟩) fun v y r lp=>ql ro lp _ _ p3 r
  ·rw[if_neg Bool.false_ne_true];exact wpAny_execs_nil (ql ro (inj h) _ _ (p.trans p2.ps) trivial)
theorem dK{t:Expr}{b:List Stmt}{pos:Pos}(H:∀ m≤n,d8 c m)(h:(ev (n+1)).S env.scope ρ Y (.While t b [] pos)=some (fl,ρ',Y'))(F:aD c A env s)(Rm:bv n A)(N0:bE c A env ρ Y s)
  (k:At c A E env s Q fl ρ' Y'):wpAny c.M A (exec (.While t b [] pos) env) Q E s:=
 wpAny_While (BD H (le_refl n) h F Rm N0 (fun f s' p fr=>k.q _ _ p fr) fun x s' th=>vN F N0 th fun s2 t2=>k.e _ _ t2)
theorem qy{ρ1 Y1:af}{I:Addr}{h1:Heap}{tk:Nat}(N0:bE c A env ρ Y s)(p:PS c A env ρ1 Y1 s s')(hI:s.heap.get? I=none)(hf:∀ o,s'.heap.get? I=some o→∃ vs,o.data=.fields vs)
  (k:∀ b o,b≠I→s'.heap.get? b=some o→h1.get? b=some o) (ht:s'.toks≤tk):PS c A env ρ1 Y1 s { s' with heap:=h1,toks:=tk }:=by
 have x:dA (two I I) s'.heap h1:=fun b o ho nd=>by
  have:=k b o (fun q=>nd (.inl q)) ho;exact⟨fun _=>this,fun _=>⟨o.slots,this⟩⟩
 have u:s'.heap.UpToSlots h1:=fun b o ho hd=>⟨o.slots,k b o (fun q=>by subst q;obtain⟨vs,z⟩:=hf o ho;exact hd vs z) ho⟩
 have N1:=p.1.calm x hf hf (fun b o hb=>k b o (fun q=>by subst q;have:=N0.act.base _ _ hb;rw[hI] at this;cases this) (p.1.act.base b o hb)) u;refine⟨⟨N1.act,N1.vars,N1.self,lt_of_lt_of_le p.1.tk ht⟩,?_,p.2.2⟩
 let D:Addr→Prop:=fun b=>(b=c.dx∨b=env.locals)∨b=I
 have x1:dA D s.heap s'.heap:=p.2.1.mono fun _ _ _ q=>.inl q
 have x2:dA D s'.heap h1:=x.mono fun _ _ _ q=>.inr (q.elim id id)
 refine (x1.trans x2).mono fun b o ho q=>?_
 rcases q with q | q
 ·exact q
 ·subst q;rw[hI] at ho;cases ho
end
section
variable {c:Cx}{A:Around}{E:Value→Shared→Prop}{env:Env}{ρ Y ρ' Y':af}{s s' s'':Shared}{n N:Nat}{fl:Fl}{Q:Flow→Shared→Prop}{R:Result→Shared→Prop}
structure yY(c:Cx)(A:Around)(env:Env)(s s2:Shared)(I:Addr)(fp:List Addr)(xs:List V)(P:Nat→Value→Prop)(St:Nat→Heap→Prop):Prop where
 walks:Walks prog c.w A I fp [I] xs.length P St
 new:s.heap.get? I=none
 rec_:∀ i h,St i h→∀ o,h.get? I=some o→∃ vs,o.data=.fields vs
 cls:∀ i h,St i h→∀ b∈fp,∀ o,h.get? b=some o→o.cls≠.type "frame"
 apart:∀ b∈fp,b≠c.dx∧b≠env.locals
 reps:∀ i v y h,xs[i]?=some y→P i v→dT c s2.heap h→bq c h v y
theorem yY.body{I:Addr}{fp:List Addr}{xs:List V}{P:Nat→Value→Prop}{St:Nat→Heap→Prop}(W:yY c A env s s' I fp xs P St){i:Nat}{h h':Heap}(st:St i h)(x:dA (two c.dx env.locals) h h'):St i h':=
 W.walks.frame i h h' st fun b hb o e=>(x b o e fun q=>q.elim (W.apart b hb).1 (W.apart b hb).2).1 (W.cls i h st b hb o e)
theorem Iu(H:∀ m≤N,d8 c m){k:Nat}{x:Str}{b:List Stmt}{px:Pos}{I:Addr}{fp:List Addr}{xs:List V}{P:Nat→Value→Prop}{St:Nat→Heap→Prop}{s2:Shared}(hk:k≤N)(h:(ev k).F env.scope ρ Y x xs b=some (fl,ρ',Y'))
  (F:aD c A env s) (Rm:bv N A) (N0:bE c A env ρ0 Y0 s) (hx:env.kindOf x=some .local) (p:PS c A env ρ Y s s2) (W:yY c A env s s2 I fp xs P St) (st:St 0 s2.heap)
  (ro:∀ f s',PS c A env ρ' Y' s s'→fM c s'.heap f fl→R (.ok f) s') (re:∀ x s',da c A env ρ' Y' s fl true x s'→R (.error x) s'):codeAny c.M A (.forLoop (.Name x px) (.ref I) b [] env) R s2:=by
 have isF:∀ {ρ1 Y1:af} {s1:Shared},PS c A env ρ1 Y1 s s1→∀ o,s1.heap.get? env.locals=some o→o.cls=.type "frame":=fun q=>(F.on q).isF
 refine codeAny_forLoop (fun m s'=>∃ i ρ1 Y1,m≤N∧(ev m).F env.scope ρ1 Y1 x (xs.drop i) b=some (fl,ρ',Y')∧PS c A env ρ1 Y1 s s'∧St i s'.heap∧i≤xs.length∧dT c s2.heap s'.heap) ?_ k
  ⟨0,ρ,Y,hk,h,p,st,zero_le _,fun _ _ e _ _ _=>e⟩
 rintro m s1 ⟨i,ρ1,Y1,hm,h,p,st,hi,hold⟩
 induction m using zN with
 | zero=>cases h
 | succ m=>
  have Hm:=H m (le_of_succ_le hm);have Rm':bv m A:=Rm.less (le_of_succ_le hm);by_cases hlt:i<xs.length
  ·have hd:xs.drop i=xs[i] :: xs.drop (i+1):=List.drop_eq_getElem_cons hlt;rw[hd] at h;dsimp only[ev] at h;refine wpAny_with_toks (n:=s1.toks) (le_refl _) (W.walks.item i _ _ _ hlt st fun v h1 tk1 hP st1 hk1 htk=>?_);have p1:=qy (h1:=h1) (tk:=tk1) N0 p W.new (W.rec_ i _ st) (fun b o ne e=>hk1 b o (by simpa using ne) e) htk;have hold1:dT c s2.heap h1:=fun b o e1 e2 e3 e4=>hk1 b o (fun q=>by
    have q:b=I:=by simpa using q
    subst q;obtain⟨vs,z⟩:=W.rec_ i _ st _ (hold b o e1 e2 e3 e4);exact e4 vs z) (hold b o e1 e2 e3 e4)
   have F1:=F.on p1;refine wpAny_assign_Name (gI (y:=xs[i]) F1 p1.1 hx (W.reps i v _ h1 (by simp[hlt]) hP hold1) fun s3 p3=>?_);have q3:=p1.trans p3;have st3:St (i+1) s3.heap:=W.body st1 p3.2.1;have hold3:dT c s2.heap s3.heap:=fun b o e1 e2 e3 e4=>(dT.of_ext p3.2.1 F1.isF) b o (hold1 b o e1 e2 e3 e4) e2 e3 e4
   have F3:=F.on q3;refine mlp h fun f1 ρ2 Y2 hs lp=>Hm.SS A _ env _ Y1 s3 _ b _ _ _ hs F3 Rm' p3.1 (fun f s4 p4 fr=>?_) fun x s4 th=>sn F N0 (th.after q3) fun s5 t5=>re x s5 (t5.lp lp)
   have st4:=W.body st3 p4.2.1;have hold4:dT c s2.heap s4.heap:=fun b o e1 e2 e3 e4=>(dT.of_ext p4.2.1 F3.isF) b o (hold3 b o e1 e2 e3 e4) e2 e3 e4
   have p4:=q3.trans p4;clear hs
   revert lp
   exact fr.el (fun lp=>⟨m,Nat.lt_succ_self m,i+1,ρ2,Y2,le_of_succ_le hm,lp,p4,st4,hlt,hold4⟩) (fun lp=>ql ro lp _ _ p4 trivial) (fun lp=>⟨m,Nat.lt_succ_self m,i+1,ρ2,Y2,le_of_succ_le hm,lp,p4,st4,hlt,hold4⟩) fun v y r lp=>ql ro lp _ _ p4 r
  ·obtain rfl:i=xs.length:=Nat.le_antisymm hi (Nat.not_lt.mp hlt);rw[List.drop_length] at h;refine wpAny_with_toks (n:=s1.toks) (le_refl _) (W.walks.done _ _ _ st fun h1 tk1 hk1 htk=>?_);have p1:=qy (h1:=h1) (tk:=tk1) N0 p W.new (W.rec_ _ _ st) (fun b o ne e=>hk1 b o (by simpa using ne) e) htk;exact wpAny_execs_nil (ql ro (inj h) _ _ p1 trivial)
end
structure qp(c:Cx)(A:Around)(s1 s2:Shared)(I:Addr)(fp:List Addr)(xs:List V)(P:Nat→Value→Prop)(St:Nat→Heap→Prop):Prop where
 walks:Walks prog c.w A I fp [I] xs.length P St
 new:s1.heap.get? I=none
 live:∀ b∈fp,∃ o,s2.heap.get? b=some o
 rec_:∀ i h,St i h→∀ o,h.get? I=some o→∃ vs,o.data=.fields vs
 cls:∀ i h,St i h→∀ b∈fp,∀ o,h.get? b=some o→o.cls≠.type "frame"
 apart:∀ b∈fp,b≠c.dx
 reps:∀ i v y h,xs[i]?=some y→P i v→dT c s2.heap h→bq c h v y
 inI:I∈fp
section
variable {c:Cx}{A:Around}{E:Value→Shared→Prop}{env:Env}{ρ Y ρ' Y' Y1:af}{s s' s'':Shared}{n N:Nat}{fl:Fl}{Q:Flow→Shared→Prop}{R:Result→Shared→Prop}
theorem eE{h:Heap}(o:Obj)(hf:o.isFreed=false):(h.push o).get? h.objs.size=some o:=Heap.get?_push_size _ hf
theorem PS.ne_size(p:PS c A env ρ Y s s'):s.heap.get? s'.heap.objs.size=none:=p.fresh (Heap.get?_none_of_le (le_refl _))
theorem mE(a st:Int):∀ n,(bg a st n).length=n
 | 0=>rfl
 | n+1=>by unfold bg;rw[length_cons,mE]
theorem o6(st:Int):∀ (n i:Nat) (a:Int) (y:V),(bg a st n)[i]?=some y→y=.int (a+i*st)
 | 0,_,_,_,h=>by simp[bg] at h
 | n+1,0,a,y,h=>by
  unfold bg at h;simp only[List.getElem?_cons_zero,Option.some.injEq] at h;rw[←h];simp
 | n+1,i+1,a,y,h=>by
  unfold bg at h;rw[List.getElem?_cons_succ] at h;rw[o6 st n i _ y h]
  congr 1
  rw[Int.natCast_succ,Int.add_mul,Int.one_mul];ext
theorem nO{x:Int}(h:-9223372036854775808≤x)(k:x<9223372036854775808):Builtin.Range.rangeFitsLong x=true:=by
 unfold Builtin.Range.rangeFitsLong;rw[Bool.and_eq_true];exact⟨decide_eq_true h,decide_eq_true k⟩
theorem EU(a b:Int):Builtin.Range.rangeSize a b 4=(((b-a+3) / 4).toNat:Int):=by
 show (if a<b then (b-a-1) / 4+1 else 0)=_;by_cases q:a<b
 ·rw[if_pos q,←Int.add_mul_ediv_right _ _ (by decide:(4:Int)≠0),show b-a-1+1*4=b-a+3 by ext,Int.toNat_of_nonneg (Int.ediv_nonneg (by ext) (by decide))]
 ·rw[if_neg q,Int.toNat_of_nonpos (Int.lt_add_one_iff.mp (Int.ediv_lt_of_lt_mul (by decide) (by ext)))];rfl
theorem F8{a b:Int}(ha:-2097152≤a)(ha':a≤2097152)(hb:-2097152≤b)(hb':b≤2097152):Builtin.Range.small a b 4=true:=by
 have h4:Builtin.Range.rangeFitsLong (Builtin.Range.rangeSize a b 4)=true:=by
  have q:(b-a+3) / 4≤((4194307:Nat):Int):=Int.ediv_le_of_le_mul (by decide) (by ext);rw[EU];exact nO (Int.le_trans (by decide) (Int.natCast_nonneg _)) (Int.lt_of_le_of_lt (Int.ofNat_le.mpr (Int.toNat_le.mpr q)) (by decide))
 unfold Builtin.Range.small;rw[nO (Int.le_trans (by decide) ha) (Int.lt_of_le_of_lt ha' (by decide)),nO (x:=b) (Int.le_trans (by decide) hb) (Int.lt_of_le_of_lt hb' (by decide)),h4,if_pos (by decide),nO (x:=b+_) (by ext) (by ext),Bool.or_true];rfl
theorem zP{a:Int}(h:DR a=true):(-2097152≤a∧a≤2097152)∧-2 ^ 62≤a∧a<2 ^ 62:=by
 unfold DR at h;rw[Bool.and_eq_true,decide_eq_true_eq,decide_eq_true_eq] at h;exact⟨h,Int.le_trans (by decide) h.1,Int.lt_of_le_of_lt h.2 (by decide)⟩
theorem pU{a b st:Int}{xs:List V}(h:cD a b st=some xs):xs=bg a st xs.length∧Builtin.Range.rangeSize a b st=(xs.length:Int)∧Builtin.Range.small a b st=true∧st≠0:=by
 refine oc h fun q h=>?_
 rw[Bool.and_eq_true] at q;obtain⟨⟨a1,a2⟩,a3,a4⟩:=zP q.1;obtain⟨⟨b1,b2⟩,b3,b4⟩:=zP q.2;clear q;have go:∀ {st:Int} {n:Nat},some (bg a st n)=some xs→Builtin.Range.rangeSize a b st=(n:Int)→Builtin.Range.small a b st=true→st≠0→xs=bg a st xs.length∧Builtin.Range.rangeSize a b st=(xs.length:Int)∧Builtin.Range.small a b st=true∧st≠0:=fun e h1 h2 h3=>by
  obtain rfl:=inj e;rw[mE];exact⟨rfl,h1,h2,h3⟩
 cases q1:decide (st=1) with
 | true=>rw[q1] at h;obtain rfl:=of_decide_eq_true q1;exact go h (rangeSize_nat a b) (small_one a3 a4 b3 b4) (by decide)
 | false=>
  rw[q1] at h;cases q2:decide (st=-1) with
  | true=>rw[q2] at h;obtain rfl:=of_decide_eq_true q2;exact go h (rangeSize_downNat a b) (small_down a3 a4 b3 b4) (by decide)
  | false=>
   rw[q2] at h;refine oc h fun q3 h=>?_
   obtain rfl:=of_decide_eq_true q3;rw[Int.fdiv_eq_ediv_of_nonneg _ (by decide)] at h;exact go h (EU a b) (F8 a1 a2 b1 b2) (by decide)
theorem vh{a b st:Int}{xs ys:List V}{vs:List Value}{Q:Value→Shared→Prop}(B:cv c)(Rm:bv n A)(N0:bE c A env ρ Y s)(hx:cD a b st=some xs)(hv:rargs ys=some (a,b,st))(ha:RepL c s.heap vs ys)
  (k:∀ h' tk t u v,jG s.heap h'→0<tk→IsRange h' s.heap.objs.size a b st t u v→Q (.ref s.heap.objs.size) { s with heap:=h',toks:=tk }):wpAny c.M A (call (.type "range") vs) Q E s:=by
 have tkp:=N0.tk;have st0:=(pU hx).2.2.2;clear hx
 revert ha k st0
 refine rargs_eq hv (fun b ha k _=>?_) (fun a b ha k _=>?_) fun a b st ha k st0=>?_
 ·refine ha.e1 fun v h1=>?_
  exact h1.eint fun t=>call_range_1 (k _ _ _ _ _ (cM _ _) (by ext) (IsRange.new ..))
 ·refine ha.e2 fun v w h1 h2=>?_
  refine h1.eint fun t=>?_
  exact h2.eint fun u=>call_range_2 (k _ _ _ _ _ (cM _ _) (by ext) (IsRange.new ..))
 ·refine ed (ha.inv) fun v1 ws zz=>ee zz fun zq2 h1 r=>?_
  subst zq2;refine r.e2 fun v w h2 h3=>?_
  refine h1.eint fun t=>?_
  refine h2.eint fun u=>?_
  exact h3.eint fun v=>call_range_3 st0 (k _ _ _ _ _ (cM _ _) tkp (IsRange.new ..)) (.inr (As B N0 Rm))
theorem CK{p:Addr→Prop}{a:Addr}(h:p a):∀ x∈[a],p x:=fun x hx=>List.mem_singleton.mp hx ▸ h
theorem GE{p:Addr→Prop}{a b:Addr}(h:p a)(k:p b):∀ x∈[a,b],p x:=fun x hx=>(List.mem_cons.mp hx).elim (fun q=>q ▸ h) fun q=>CK k x q
theorem kj{h:Heap}{a:Addr}{o o':Obj}{P:Obj→Prop}(e:h.get? a=some o)(k:P o)(e':h.get? a=some o'):P o':=inj (e.symm.trans e') ▸ k
theorem wP{v:Value}{xs:List V}{Q':Value→Shared→Prop}(N0:bE c A env ρ Y s)(hv:bq c s.heap v (.list xs))
  (k:∀ s2 I fp P St,jG s.heap s2.heap→fq s s2→0<s2.toks→s.heap.objs.size≤s2.heap.objs.size→qp c A s s2 I fp xs P St→St 0 s2.heap→Q' (.ref I) s2):wpAny c.M A (pyIter v) Q' E s:=by
 refine hv.elist fun a o vs m ho hc hd hn hb hr=>?_
 have L:s.heap.IsList a vs.toArray:=⟨o,ho,hc,m,hd⟩;refine wpAny_pyIter_list L ?_;have K:jG s.heap (s.heap.push { cls:=.type "list_iterator",data:=.fields #[.ref a,.int 0 0] }):=cM _ _;have hsz:vs.toArray.size=xs.length:=by rw[List.size_toArray,hr.length]
 have neI:a≠s.heap.objs.size:=ne_of_lt (Heap.lt_size ho);refine k _ s.heap.objs.size [s.heap.objs.size,a] (fun i v=>vs.toArray[i]?=some v) (fun i h=>h.IsListIter s.heap.objs.size a i∧h.IsList a vs.toArray) K ⟨rfl,rfl⟩ N0.tk (by rw[Heap.size_push];exact Nat.le_succ _) ?_ ⟨⟨_,eE _ rfl,rfl,rfl⟩,L.push _⟩;refine⟨hsz ▸ Walks.list N0.act.handled _ a neI vs.toArray,Heap.get?_none_of_le (le_refl _),GE ⟨_,eE _ rfl⟩ ⟨_,K _ _ ho⟩,fun i h st o e=>?_,fun i h st=>GE (fun o e=>?_) fun o e=>?_,GE (ne_of_gt N0.self.dxLt) hn,fun i v z h hz hP hold=>?_,.head _⟩
 ·refine Exists.elim (st.1) fun o' zz=>ee zz fun e' _ d=>?_
  exact kj (P:=fun o=>∃ vs,o.data=.fields vs) e' ⟨_,d⟩ e
 ·refine Exists.elim (st.1) fun o' zz=>ee zz fun e' d _=>?_
  exact kj (P:=fun o=>o.cls≠_) e' (by rw[d];decide) e
 ·refine Exists.elim (st.2) fun o' zz=>ee zz fun e' d _=>?_
  exact kj (P:=fun o=>o.cls≠_) e' (by rw[d];decide) e
 ·obtain⟨v',e',r⟩:=hr.at hz;have hP:vs.toArray[i]?=some v:=hP;rw[List.getElem?_toArray,e'] at hP;exact inj hP ▸ (r.keeps K).hold hold
theorem jg{a b st:Int}{xs:List V}{h':Heap}{tk:Nat}{t u v:Tok}{Q':Value→Shared→Prop}(N0:bE c A env ρ Y s)(hx:cD a b st=some xs)(K:jG s.heap h')(ht:0<tk)(hr:IsRange h' s.heap.objs.size a b st t u v)
  (k:∀ s2 I fp P St,jG s.heap s2.heap→fq s s2→0<s2.toks→s.heap.objs.size≤s2.heap.objs.size→qp c A s s2 I fp xs P St→St 0 s2.heap→Q' (.ref I) s2):wpAny c.M A (pyIter (.ref s.heap.objs.size)) Q' E { s with heap:=h',toks:=tk }:=by
 refine pK (pU hx) fun e1 e2 e3 e4=>?_
 refine wpAny_pyIter_range hr e3 ?_;rw[e2];have hlt:s.heap.objs.size≤h'.objs.size:=Nat.le_of_lt (Heap.lt_size hr);have hs:=eE (h:=h') { cls:=.type "range_iterator",data:=.fields #[rawInt a,rawInt (xs.length:Int),rawInt st] } rfl;refine k _ h'.objs.size [h'.objs.size] _ _ (fun b o e=>cM _ _ _ _ (K b o e)) ⟨rfl,rfl⟩ ht (by rw[Heap.size_push];exact Nat.le_succ_of_le hlt) ⟨Walks.range N0.act.handled _ a st xs.length,Heap.get?_none_of_le hlt,CK ⟨_,hs⟩,fun i h st' o e=>?_,fun i h st'=>CK fun o e=>?_,CK (ne_of_gt (lt_of_lt_of_le N0.self.dxLt hlt)),fun i w z h hz hP hold=>?_,.head _⟩ ?_
 ·exact kj (P:=fun o=>∃ vs,o.data=.fields vs) st' ⟨_,rfl⟩ e
 ·exact kj (P:=fun o=>o.cls≠_) st' (show Value.type "range_iterator"≠Value.type "frame" by decide) e
 ·obtain⟨t',rfl⟩:=hP;rw[e1] at hz;rw[o6 st _ i a z hz];exact .int _ _
 ·show IsRangeIter _ _ _ _ _;simpa using hs
theorem vg:glob "range"=some (.ty "range"):=by rfl'
theorem qO{it:Expr}{xs:List V}{Q':Value→Shared→Prop}(B:cv c)(H:bY c n)(O:bP env)(R:bv n A)(N0:bE c A env ρ Y s)(h:fj (ev n).E env.scope ρ Y it=some (xs,Y1))
  (k:∀ s1 s2 I fp P St,PN c A env ρ Y1 s s1→jG s1.heap s2.heap→fq s1 s2→0<s2.toks→s1.heap.objs.size≤s2.heap.objs.size→qp c A s1 s2 I fp xs P St→St 0 s2.heap→Q' (.ref I) s2):
  wpAny c.M A (eval it env) (fun xv s₁=>wpAny c.M A (pyIter xv) Q' E s₁) E s:=by
 induction it using zX with
 | Name y p=>
  refine mli h fun zs sl h1 h=>?_
  cases h;exact H A E env ρ Y s _ _ _ _ h1 O R N0 fun v s1 p1=>wP p1.1 p1.2.1 fun s2 I fp P St=>k s1 s2 I fp P St p1.pn
 | Call f args ks cp=>induction ks using zL with
  | cons=>exact nn h
  | nil=>
   refine ob h fun g e0 h=>mif h (fun hg h=>mgi h fun hk h=>ml h fun ys sl ha h=>ob h fun p hp h=>om h fun zs hx e=>?_) fun _ h=>nn h
   cases e;obtain⟨a,b,st⟩:=p;rw[hg] at e0 hk;refine nameE_eq e0 fun gp=>?_
   refine Call_Name rfl (tS B O N0 hk (by decide) vg fun v s1 p1=>?_);rw[p1.2.1.inv_ty];refine PyProof.Rows.callWith_type (jO ha) (hY H O R ha p1.1 fun vs s1 p2=>?_);exact vh (vs:=[]++vs) B R p2.1.1 hx hp p2.2 fun h' tk t u v K ht hr=>jg p2.1.1 hx K ht hr fun s2 I fp P St=>k s1 s2 I fp P St (p1.pn.trans p2.1)
 | _=>exact nn h
theorem gS{E0:Scope→af→af→Expr→Option (V×af)}{sc:Scope}{it:Expr}{r:List V×af}(h:fj E0 sc ρ Y it=some r)(env:Env)(x:Value):foldedSetIterable it env x=pure x:=by
 induction it using zX<;>first | rfl | exact nn h
theorem yY.of{I:Addr}{fp:List Addr}{xs:List V}{P:Nat→Value→Prop}{St:Nat→Heap→Prop}(F:aD c A env s)(p:PS c A env ρ Y s s')(K:jG s'.heap s''.heap)(W:qp c A s' s'' I fp xs P St)(st:St 0 s''.heap):yY c A env s s'' I fp xs P St:=
 ⟨W.walks,p.fresh W.new,W.rec_,W.cls,fun b hb=>⟨W.apart b hb,fun q=>by
  obtain⟨o',e',z⟩:=(F.on p).cls;exact W.cls 0 _ st b hb o' (q ▸ K _ _ e') z⟩,W.reps⟩
theorem BI{x:Str}{it:Expr}{px pos:Pos}{b:List Stmt}(B:cv c)(H:∀ m≤n,d8 c m)(h:(ev (n+1)).S env.scope ρ Y (.For (.Name x px) it b [] pos)=some (fl,ρ',Y'))(F:aD c A env s)(Rm:bv n A)(N0:bE c A env ρ Y s)
  (k:At c A E env s Q fl ρ' Y'):wpAny c.M A (exec (.For (.Name x px) it b [] pos) env) Q E s:=
 mll h fun xs sl hx hi h=>wpAny_For (qO B (H n (le_refl n)).E F.ok Rm N0 hi fun s1 s2 I fp P St p K sm tk _ W st=>
  Iu H (le_refl n) h F Rm N0 hx (p.ps.trans ⟨p.1.grow K tk,.of_keeps K,sm⟩) (.of F p.ps K W st) st (fun f s' p fr=>k.q _ _ p fr) fun x s' th=>vN F N0 th fun s2 t2=>k.e _ _ t2) (gS hi env)
end
section
variable {c:Cx}{A:Around}{E:Value→Shared→Prop}{env:Env}{ρ Y ρ' Y':af}{s s' s'':Shared}{n N:Nat}{fl:Fl}{Q:Flow→Shared→Prop}{R:Result→Shared→Prop}
theorem yU(H:d8 c n):nR c (n+1):=by
 intro A E env ρ Y s Q st fl ρ' Y' h F Rm N0 kq ke;have Rm':bv n A:=Rm.less (Nat.le_succ n);have k:At c A E env s Q fl ρ' Y':=⟨kq,ke⟩;clear kq ke
 induction st using zL with
 | nil=>exact wpAny_execs_nil ((k.os h).q _ _ ⟨N0,.refl,.refl s⟩ trivial)
 | cons st rest=>
  refine mnx h (fun ρ1 Y1 h1 h=>?_) fun h hne=>?_
  ·refine wpAny_execs_cons (H.S A E env ρ Y s _ st _ _ _ h1 F Rm' N0 (fun f s1 p1 fr=>?_) fun x s1 th=>by obtain⟨_,_,z,_⟩:=th;cases z);have go:wpAny c.M A (execs rest env) Q E s1:=H.SS A E env ρ1 Y1 s1 _ rest _ _ _ h (F.on p1) Rm' p1.1 (k.after p1).q (k.after p1).e
   induction f using PySem.Flow.casesOn<;>first | exact fr.elim | exact go
  ·refine wpAny_execs_cons (H.S A E env ρ Y s _ st _ _ _ h F Rm' N0 (fun f s1 p1 fr=>?_) k.e)
   induction f using PySem.Flow.casesOn with
   | next=>induction fl using Fl.casesOn<;>first | exact fr.elim | exact (hne rfl).elim
   | _=>exact k.q _ _ p1 fr
theorem Ec(B:cv c)(H:∀ m≤n,d8 c m):rk c (n+1):=by
 intro A E env ρ Y s Q st fl ρ' Y' h F Rm N0 kq ke;have Rm':bv n A:=Rm.less (Nat.le_succ n);have k:At c A E env s Q fl ρ' Y':=⟨kq,ke⟩;have Hn:=H n (le_refl n);have here:∀ {f:Flow} {fl1:Fl},some (fl1,ρ,Y)=some (fl,ρ',Y')→fM c s.heap f fl1→Q f s:=fun e fr=>(k.os e).q _ _ ⟨N0,.refl,.refl s⟩ fr
 clear kq ke Rm
 induction st using PySem.Stmt.casesOn with
 | Expr e p=>
  refine oc h fun q _=>?_
  revert h
  exact isCallE_eq q fun _ _ _ _ h=>FY Hn.E h F Rm' N0 k
 | Pass p=>exact wpAny_bind (wpAny_standAt (wpAny_pure (here h trivial)))
 | Break p=>exact wpAny_bind (wpAny_standAt (wpAny_pure (here h trivial)))
 | Continue p=>exact wpAny_bind (wpAny_standAt (wpAny_pure (here h trivial)))
 | Return v p=>induction v using zO with
  | none=>exact wpAny_Return_none (here h .none)
  | some e=>exact A1 Hn.E h F Rm' N0 k
 | Assign ts e p=>induction ts using zL with
  | nil=>exact nn h
  | cons t r=>induction r using zL with
   | cons _ _=>induction t using zX<;>exact nn h
   | nil=>induction t using zX with
    | Name id q=>exact yz Hn.E h F Rm' N0 k
    | Attribute o a q=>
     refine ob h fun id e _=>?_
     revert h
     exact nameE_eq e fun _ h=>xK B Hn.E h F Rm' N0 k
    | _=>exact nn h
 | AugAssign t op e p=>induction t using zX with
  | Name id q=>exact KP Hn.E h F Rm' N0 k
  | Attribute o a q=>
   refine ob h fun id e _=>?_
   revert h
   exact nameE_eq e fun _ h=>xh B Hn.E h F Rm' N0 k
  | _=>exact nn h
 | If t a b p=>exact xc Hn h F Rm' N0 k
 | While t b r p=>induction r using zL with
  | nil=>exact dK H h F Rm' N0 k
  | cons _ _=>exact nn h
 | For t it b r p=>induction r using zL with
  | cons _ _=>exact nn h
  | nil=>
   refine ob h fun x e _=>?_
   revert h
   exact nameE_eq e fun _ h=>BI B H h F Rm' N0 k
 | Assert t m p=>induction m using zO with
  | none=>exact mtr h fun sl q h=>wpAny_Assert_holds (Hn.T A E env ρ Y s _ _ _ _ q F.ok Rm' N0 fun s' p=>⟨rfl,(k.os h).q _ _ p.ps trivial⟩)
  | some _=>exact nn h
 | Raise e c p=>induction e using zO with
  | none=>exact nn h
  | some e=>induction c using zO with
   | some _=>exact nn h
   | none=>
    refine ob h fun nm e _=>?_
    clear here
    revert h
    exact raiseE_eq e fun _ _ _ h=>DU B Hn.E h F Rm' N0 k
 | Try b hs o f p=>induction o using zL with
  | cons _ _=>exact nn h
  | nil=>induction f using zL with
   | cons _ _=>exact nn h
   | nil=>
    refine ob h fun id e _=>?_
    revert h
    exact tryE_eq e fun _ _ _ h=>bZ B Hn h F Rm' N0 k
 | _=>exact nn h
end
noncomputable def kV(env:Env):List (Str×NameKind)→List (Str×Addr)→List (Str×Addr)
 | [],acc=>acc
 | (n,k) :: r,acc=>if k==.free then kV env r ((n,(env.cells.lookup n).getD 0) :: acc) else kV env r acc
theorem lg{env:Env}{n:Str}:∀ {names:List (Str×NameKind)} {acc:List (Str×Addr)},acc.lookup n=some ((env.cells.lookup n).getD 0)→(kV env names acc).lookup n=some ((env.cells.lookup n).getD 0)
 | [],_,h=>h
 | (m,k) :: r,acc,h=>by
  unfold kV;split
  ·refine lg ?_;rw[List.lookup_cons];cases q:n==m with
   | true=>obtain rfl:=beq_iff_eq.mp q;rfl
   | false=>exact h
  ·exact lg h
theorem rb{env:Env}{n:Str}:∀ {names:List (Str×NameKind)} {acc:List (Str×Addr)},(n,NameKind.free)∈names→(kV env names acc).lookup n=some ((env.cells.lookup n).getD 0)
 | (m,k) :: r,acc,h=>by
  unfold kV;rcases List.mem_cons.mp h with e | h
  ·cases e;simp only[beq_self_eq_true,if_true];exact lg (by rw[List.lookup_cons];simp)
  ·split
   ·exact rb h
   ·exact rb h
theorem oN{scope:Scope}{env:Env}(h:∀ n,(n,NameKind.free)∈scope.names→∃ a,env.cells.lookup n=some a):closureFor scope env=pure (kV env scope.names []):=by
 unfold closureFor;have go:∀ (names:List (Str×NameKind)) (acc:List (Str×Addr)),(∀ n,(n,NameKind.free)∈names→∃ a,env.cells.lookup n=some a)→
   (forIn names acc fun x cs=>(do
    if x.2==.free then do let a ← cellOf env x.1;pure (ForInStep.yield ((x.1,a) :: cs)) else pure (ForInStep.yield cs):Sem (ForInStep (List (Str×Addr)))))=pure (kV env names acc):=by
  intro names
  induction names with
  | nil=>intro acc _;rfl
  | cons p r ih=>
   intro acc h;obtain⟨m,k⟩:=p;rw[List.forIn_cons];unfold kV;cases q:k==NameKind.free with
   | true=>
    obtain rfl:=beq_iff_eq.mp q;obtain⟨a,ha⟩:=h m (.head _);have hc:cellOf env m=pure a:=by unfold cellOf;rw[ha]
    simp only[if_true,hc,pure_bind,ha,Option.getD_some];exact ih _ fun n hn=>h n (.tail _ hn)
   | false=>
    simp only[Bool.false_eq_true,if_false,pure_bind];exact ih _ fun n hn=>h n (.tail _ hn)
 have:=go scope.names [] h;rw[bind_pure];refine Eq.trans ?_ this
 congr 1
theorem oi{env:Env}:∀ {names:List (Str×NameKind)} {x:Str},names.lookup x=some .free→
  (names.map fun (n,k)=>if (k==NameKind.free&&env.scope.kind==.function&&env.kindOf n==some .cell) then (n,NameKind.cell) else (n,k)).lookup x=some .free∨
  (names.map fun (n,k)=>if (k==NameKind.free&&env.scope.kind==.function&&env.kindOf n==some .cell) then (n,NameKind.cell) else (n,k)).lookup x=some .cell
 | [],_,h=>by cases h
 | (m,k) :: r,x,h=>by
  rw[map_cons];rw[List.lookup_cons] at h;dsimp only;cases q:x==m with
  | true=>
   rw[q] at h;cases h;split
   ·right;rw[List.lookup_cons,q]
   ·left;rw[List.lookup_cons,q]
  | false=>
   rw[q] at h;have:=oi (env:=env) h;split
   ·rw[List.lookup_cons,q];exact this
   ·rw[List.lookup_cons,q];exact this
theorem ki{M:Model}{A:Around}{E:Value→Shared→Prop}{s:Shared}{scope:Scope}{gl:Addr}{cl:List (Str×Addr)}{qual:Str}{env:Env}{Q:Env→Shared→Prop}(hc:∀ x∈scope.names,x.2≠.cell)
  (h:Q (newEnv scope s.heap.objs.size gl cl qual none .none (some env) builtinsNs) { s with heap:=s.heap.push { cls:=.type "dict",data:=.dict #[] } }):wpAny M A (newFunctionEnv scope gl cl [] qual none .none (some env)) Q E s:=by
 simp only[newFunctionEnv,Option.isSome_some,if_true];refine wpAny_bind (wpAny_alloc ?_);have e:∀ (names:List (Str×NameKind)) (acc:List (Str×Addr)),(∀ x∈names,x.2≠.cell)→∀ (f:Str×NameKind→List (Str×Addr)→Sem (ForInStep (List (Str×Addr)))),(∀ x cs,x.2≠.cell→f x cs=pure (.yield cs))→forIn names acc f=pure acc:=by
  intro names
  induction names with
  | nil=>intro acc _ f _;rfl
  | cons p r ih=>
   intro acc hn f hf;rw[List.forIn_cons,hf p acc (hn p (.head _)),pure_bind];exact ih acc (fun x hx=>hn x (.tail _ hx)) f hf
 refine wpAny_bind (wpAny_of_eq (e _ _ hc _ fun x cs hx=>?_) ?_)
 ·obtain⟨n,k⟩:=x;cases k<;>first | rfl | exact absurd rfl hx
 ·exact wpAny_bind (wpAny_pure (wpAny_pure h))
theorem hG{n:Str}{f:Str→Bool}:∀ {l:af},look (l.filter fun p=>f p.1) n=if f n then look l n else none
 | []=>by simp[look]
 | p :: r=>by
  rw[List.filter_cons];by_cases q:p.1=n
  ·subst q;cases hf:f p.1 with
   | true=>simp[look]
   | false=>
    have:=hG (n:=p.1) (f:=f) (l:=r);rw[hf] at this;simpa using this
  ·have:=hG (n:=n) (f:=f) (l:=r);split
   ·unfold look;rw[if_neg q,if_neg q];exact this
   ·rw[this]
    conv=>rhs;unfold look
    rw[if_neg q]
end
section
variable {c:Cx}{A:Around}{E:Value→Shared→Prop}{env:Env}{ρ Y Y' Y1:af}{s s1 s2:Shared}{n N:Nat}{y:V}
def jE(a:Addr)(h h':Heap):Prop:=∀ b o,b≠a→h.get? b=some o→h'.get? b=some o
theorem jt{c':Cx}{hp hp':Heap}{w:Value}{v:V}(h:cH v=true)(r:bq c hp w v):bq c' hp' w v:=by
 induction v using zV with
 | none=>rw[r.inv_none];exact .none
 | bool b=>rw[r.inv_bool];exact .bool b
 | int i=>exact r.eint fun t=>.int i t
 | str l=>exact r.estr fun t hl=>.str l t hl
 | _=>exact nf h
theorem uJ{hp hp':Heap}{w:Value}{v:V}(h:cH v=true)(r:bq c hp w v):bq c hp' w v:=jt h r
theorem bS.but{h h':Heap}{a:Addr}(v:bS c h Y)(hs:ch Y=true)(k:jE a h h')(nx:c.x≠a)(nd:c.dx≠a):bS c h' Y:=by
 obtain⟨⟨o,ho,r⟩,⟨m,od,es,ep,hn,hod,hc,hd,hz,hl⟩⟩:=v;refine⟨⟨o,k _ _ nx ho,r⟩,⟨m,od,es,ep,?_,k _ _ nd hod,hc,hd,hz,fun n=>?_⟩⟩
 ·refine gy (hn) fun o' es' ep' zz=>And.elim (fun e r'=>?_) zz
  exact⟨o',es',ep',k _ _ nd e,r'⟩
 ·have:=hl n;split at this
  ·rename_i V e;obtain⟨w,p,q⟩:=this;have hmem:=fT e;exact⟨w,p,uJ (List.all_eq_true.mp hs _ hmem) q⟩
  ·exact this
theorem bp.but{h h':Heap}{a:Addr}(k:jE a h h'){l:List Env}:bp c h l→(∀ b∈frs l,b≠a)→bp c h' l:=by
 induction l with
 | nil=>exact fun _ _=>trivial
 | cons env r ih=>
  intro F hn;refine jI (F.2.1) fun L o es n zz=>ee zz fun hf hb hr=>?_
  rw[sV hf] at hn;exact⟨F.1,⟨L,o,es,n,hf,hb,k _ _ (hn L (.head _)) hr.1,hr.2⟩,ih F.2.2 fun b hb'=>hn b (.tail _ hb')⟩
theorem tx.but{h h' h1:Heap}{a:Addr}(v:tx c A h)(w:tx c A h1)(k:jE a h h')(n1:h1.get? a=none):tx c A h':=by
 refine ed (w.frames) fun e1 l1 zz=>And.elim (fun f1 F1=>?_) zz
 refine⟨fun b o e=>k _ _ (fun q=>?_) (v.base b o e),?_,v.handled⟩
 ·subst q;have:=w.base _ _ e;rw[n1] at this;cases this
 ·refine ed (v.frames) fun e2 l2 zz=>And.elim (fun f2 F2=>?_) zz
  obtain⟨rfl,rfl⟩:e1=e2∧l1=l2:=by rw[f1] at f2;cases f2;exact⟨rfl,rfl⟩
  refine⟨e1,l1,f1,F2.but k fun b hb q=>?_⟩;subst q;refine gy (F1.at b hb) fun o _ _ zz=>And.elim (fun ho _=>?_) zz
  rw[n1] at ho;cases ho
end
section
set_option tactic.hygienic false
structure ow(c:Cx)(A:Around)(s1 s2:Shared)(D C:Addr)(St:Nat→Heap→Prop)(i:Nat)(Y1:af)(ys:Array Value)(done:List V)(s':Shared):Prop where
 ext:dA (only c.dx) s1.heap s'.heap
 act:tx c A s'.heap
 self:bS c s'.heap Y1
 simple:ch Y1=true
 st:St i s'.heap
 hold:dT c s2.heap s'.heap
 acc:s'.heap.PlainList D ys
 reps:∀ h,RepL c h ys.toList done
 cns:∃ m o es ep,s'.heap.Ns C m∧s'.heap.get? C=some o∧o.cls=.type "dict" ∧ o.data=.dict es ep
 same:fq s1 s'
 tk:0<s'.toks
 len:ys.size=i
section
variable {c:Cx}{A:Around}{E:Value→Shared→Prop}{env:Env}{ρ Y Y' Y1 Y2:af}{s s1 s2 s':Shared}{n N:Nat}{y:V}
theorem ik{h h':Heap}{a:Addr}(x:dA (only c.dx) s1.heap h)(k:jE a h h')(n1:s1.heap.get? a=none):dA (only c.dx) s1.heap h':=by
 let D:Addr→Prop:=fun b=>b=c.dx∨b=a
 have x1:dA D s1.heap h:=x.mono fun _ _ _ q=>.inl q
 have x2:dA D h h':=fun b o e nd=>by
  have:=k b o (fun q=>nd (.inr q)) e;exact⟨fun _=>this,fun _=>⟨o.slots,this⟩⟩
 refine (x1.trans x2).mono fun b o ho q=>?_
 rcases q with q | q
 ·exact q
 ·subst q;rw[n1] at ho;cases ho
theorem PlainList.ext{h h':Heap}{D:Addr}{ys:Array Value}(x:dA (only c.dx) h h')(nd:D≠c.dx)(p:h.PlainList D ys):h'.PlainList D ys:=p.at fun o e=>by
 obtain⟨m,e'⟩:=p;obtain rfl:=inj (e'.symm.trans e);exact (x _ _ e nd).1 (by show Value.type "list"≠Value.type "frame";decide)
theorem dT.ext1{h0 h h':Heap}(x:dT c h0 h)(y:dA (only c.dx) h h'):dT c h0 h':=fun b o e1 e2 e3 e4=>(y b o (x b o e1 e2 e3 e4) e2).1 e3
theorem dT.but{h0 h h':Heap}{a:Addr}(x:dT c h0 h)(k:jE a h h')(n0:∀ o,h0.get? a=some o→∃ vs,o.data=.fields vs):dT c h0 h':=fun b o e1 e2 e3 e4=>k b o (fun q=>by
 subst q;obtain⟨vs,z⟩:=n0 o e1;exact e4 vs z) (x b o e1 e2 e3 e4)
theorem Ns.but{h h':Heap}{a:Addr}{m:Str→Option Value}(n:h.Ns a m)(k:∀ o,h.get? a=some o→h'.get? a=some o):h'.Ns a m:=by
 refine gy (n) fun o es ep zz=>And.elim (fun e r=>?_) zz
 exact⟨o,es,ep,k o e,r⟩
structure CF(c:Cx)(s1 s2:Shared)(I D C:Addr)(fp:List Addr):Prop where
 Dd:D≠c.dx
 Cd:C≠c.dx
 xI:c.x≠I
 dI:c.dx≠I
 xD:c.x≠D
 xC:c.x≠C
 DI:D≠I
 CI:C≠I
 nD:s1.heap.get? D=none
 nC:s1.heap.get? C=none
 mD:s2.heap.get? D=none
 mC:s2.heap.get? C=none
 fD:D ∉ fp
 fC:C ∉ fp
theorem CF.of{I D C:Addr}{fp:List Addr}{xs:List V}{P:Nat→Value→Prop}{St:Nat→Heap→Prop}(N1:bE c A env ρ Y1 s1)(W:qp c A s1 s2 I fp xs P St)(hD:s2.heap.objs.size≤D)(hC:s2.heap.objs.size≤C)(h12:s1.heap.objs.size≤s2.heap.objs.size):CF c s1 s2 I D C fp:=by
 have fresh2:∀ a,s2.heap.objs.size≤a→s2.heap.get? a=none:=fun a ha=>Heap.get?_none_of_le ha
 have nfp:∀ a,s2.heap.objs.size≤a→a ∉ fp:=fun a ha m=>by obtain⟨o,e⟩:=W.live a m;exact nn ((fresh2 a ha).symm.trans e)
 obtain⟨o,ho,_⟩:=N1.self.inst;have xlt:=lt_of_lt_of_le (Heap.lt_size ho) h12;have dlt:=lt_of_lt_of_le N1.self.dxLt h12;exact⟨ne_of_gt (lt_of_lt_of_le dlt hD),ne_of_gt (lt_of_lt_of_le dlt hC),fun q=>nn (W.new.symm.trans (q ▸ ho)),fun q=>W.apart I W.inI q.symm,ne_of_lt (lt_of_lt_of_le xlt hD),ne_of_lt (lt_of_lt_of_le xlt hC),
  fun q=>nfp D hD (q ▸ W.inI),fun q=>nfp C hC (q ▸ W.inI),Heap.get?_none_of_le (le_trans h12 hD),Heap.get?_none_of_le (le_trans h12 hC),fresh2 D hD,fresh2 C hC,nfp D hD,nfp C hC⟩
theorem xE{csc:Scope}{x:Str}{C:Addr}{cl:List (Str×Addr)}{h2:Heap}{v:Value}{y:V}{m:Str→Option Value}{o2:Obj}(hcl:cl=kV env csc.names [])(hok:dk env.scope ρ csc x=true)(N1:bE c A env ρ Y1 s1)(ext2:dA (only c.dx) s1.heap h2)
  (n2:h2.Ns C (fun w=>if w=x then some v else m w)) (g2:h2.get? C=some o2) (c2:o2.cls=.type "dict") (Cd:C≠c.dx) (nC:s1.heap.get? C=none) (kx:(compEnvC csc cl C env).kindOf x=some .local) (r:bq c h2 v y):dE c h2 (compEnvC csc cl C env) ((x,y) :: cf csc ρ):=by
 refine⟨_,o2,n2,g2,.inr c2,Cd,?_,fun nm V e=>?_⟩
 ·show c.hB.get? C=none;cases q:c.hB.get? C with
  | none=>rfl
  | some o=>exact nn (nC.symm.trans (N1.act.base _ _ q))
 ·by_cases q:x=nm
  ·subst q;obtain rfl:y=V:=inj ((if_pos rfl).symm.trans e);exact⟨v,r,.inl ⟨kx,if_pos rfl⟩⟩
  ·replace e:look (cf csc ρ) nm=some V:=(if_neg q).symm.trans e;unfold cf at e;rw[hG (f:=fun n=>csc.names.lookup n==some .free)] at e;refine mif e (fun hf e=>?_) fun _ e=>nn e
   have hf:=beq_iff_eq.mp hf;have mem:=mem_of_lookup hf;unfold dk at hok;rw[Bool.and_eq_true,Bool.and_eq_true] at hok;have ok:=List.all_eq_true.mp hok.2.2 _ mem;simp only[Bool.and_eq_true,Bool.or_eq_true,Bool.not_eq_true',beq_iff_eq,beq_eq_false_iff_ne] at ok;refine ed (N1.vars.ns) fun m0 o0 zz=>pG zz fun _ _ _ _ _ hl0=>?_
   obtain⟨v',r',w⟩:=hl0 nm V e;have kd:env.scope.names.lookup nm=some .cell∨env.scope.names.lookup nm=some .free:=(ok.2.2.resolve_left fun z=>z rfl).1;obtain⟨a,oc,w1,w2,w3,w4,w5⟩:∃ a oc,env.cells.lookup nm=some a∧s1.heap.get? a=some oc∧oc.cls=.type "cell" ∧ oc.data=.cell (some v')∧a≠c.dx:=by
    rcases w with ⟨w,_⟩ | ⟨_,w⟩
    ·rcases kd with z | z<;>(rw[show env.scope.names.lookup nm=some .local from w] at z;cases z)
    ·exact w
   refine⟨v',r'.ext ext2,.inr ⟨(oi (env:=env) hf).symm,a,oc,?_,(ext2 _ _ w2 w5).1 (by rw[w3];decide),w3,w4,w5⟩⟩;show cl.lookup nm=some a;rw[hcl,rb mem,w1];rfl
theorem qo{elt it:Expr}{x:Str}{px pos:Pos}{csc:Scope}{I D C:Addr}{fp:List Addr}{xs total:List V}{P:Nat→Value→Prop}{St:Nat→Heap→Prop}{cl:List (Str×Addr)}{R:Result→Shared→Prop}(B:cv c)(H:∀ m≤N,d8 c m)(O:bP env)(Rm:bv N A)
  (N1:bE c A env ρ Y1 s1) (W:qp c A s1 s2 I fp xs P St) (hcl:cl=kV env csc.names []) (hok:dk env.scope ρ csc x=true) (hlen:xs.length≤1048576)
  (hD:s2.heap.objs.size≤D) (hC:s2.heap.objs.size≤C) (hDC:D≠C) (h12:s1.heap.objs.size≤s2.heap.objs.size)
  {k:Nat} (hk:k≤N) (h:(ev k).L (cq env.scope csc) (cf csc ρ) Y2 elt x xs=some (total,Y')) (st:ow c A s1 s2 D C St 0 Y2 #[] [] s)
  (ro:∀ ys s',ow c A s1 s2 D C St xs.length Y' ys total s'→∀ h5 tk,jE I s'.heap h5→s'.toks≤tk→R (.ok .next) { s' with heap:=h5,toks:=tk }):
  codeAny c.M A (.compLoop (.ListComp elt [⟨.Name x px,it,[],0⟩] csc pos) 0 (.ref I) (.ref D) (compEnvC csc cl C env)) R s:=by
 have K:CF c s1 s2 I D C fp:=.of N1 W hD hC h12;have ok12:csc.kind=.function∧csc.names.lookup x=some .local:=by
  unfold dk at hok;rw[Bool.and_eq_true,Bool.and_eq_true,beq_iff_eq,beq_iff_eq] at hok;exact⟨hok.1,hok.2.1⟩
 have oC:bP (compEnvC csc cl C env):=⟨ok12.1,O.glob,O.blt⟩;have kx:(compEnvC csc cl C env).kindOf x=some .local:=lookup_relabel_local ok12.2;refine codeAny_compLoop_tests (fun m s'=>∃ i Y3 ys done rest,m≤N∧(ev m).L (cq env.scope csc) (cf csc ρ) Y3 elt x (xs.drop i)=some (rest,Y')∧total=done++rest∧i≤xs.length∧ow c A s1 s2 D C St i Y3 ys done s') ?_ k
  ⟨0,Y2,#[],[],total,hk,h,rfl,zero_le _,st⟩
 clear st h hk hD hC h12 ok12
 rintro m s3 ⟨i,Y3,ys,done,rest,hm,h,htot,hi,S⟩
 induction m using zN with
 | zero=>exact nn h
 | succ m=>
  have Hm:=H m (le_of_succ_le hm);have Rm':bv m A:=Rm.less (le_of_succ_le hm);by_cases hlt:i<xs.length
  ·rw[List.drop_eq_getElem_cons hlt] at h;dsimp only[ev] at h;refine ms h fun z Y4 he h=>oc h fun hs4 h=>ml h fun rest' Y5 hL h=>?_
   cases h;refine wpAny_with_toks (n:=s3.toks) (le_refl _) (W.walks.item i _ _ _ hlt S.st fun v h1 tk1 hP st1 hk1 htk=>?_);have k1:jE I s3.heap h1:=fun b o ne e=>hk1 b o (by simpa using ne) e
   refine jI (S.cns) fun mC oC' esC epC zz=>pK zz fun nC gC cC dC=>?_
   have gC1:=k1 _ _ K.CI gC;refine wpAny_assign_Name ?_;rw[storeName_local kx (by rw[oC.kind];rfl)];refine nA (s:={ s3 with heap:=h1,toks:=tk1 }) (Ns.but nC fun o e=>k1 _ _ K.CI e) gC1 dC fun h2 o2 es2 ep2 n2 hs2 g2 c2 d2 _ _=>?_
   have k2:jE C h1 h2:=fun b o ne e=>(hs2.2 b ne).trans e
   rw[List.forIn_nil];refine wpAny_pure ?_;simp only[if_true];have ext2:dA (only c.dx) s1.heap h2:=ik (ik S.ext k1 W.new) k2 K.nC;have hold2:dT c s2.heap h2:=dT.but (fun b o e1 e2 e3 e4=>k1 b o (fun q=>by
    obtain⟨vs,w⟩:=W.rec_ i _ S.st _ (q ▸ S.hold b o e1 e2 e3 e4);exact e4 vs w) (S.hold b o e1 e2 e3 e4)) k2 fun o e=>nn (K.mC.symm.trans e)
   have st2:St (i+1) h2:=W.walks.frame _ _ _ st1 fun b hb o e=>k2 b o (fun q=>K.fC (q ▸ hb)) e
   have acc2:h2.PlainList D ys:=(S.acc.at fun o e=>k1 _ _ K.DI e).at fun o e=>k2 _ _ hDC e
   refine Hm.E A _ (compEnvC csc cl C env) _ Y3 _ _ elt _ _ he oC Rm' ⟨(S.act.but N1.act k1 W.new).but N1.act k2 K.nC,xE hcl hok N1 ext2 n2 g2 (c2.trans cC) K.Cd K.nC kx (W.reps i v xs[i] h2 (by simp[hlt]) hP hold2),(S.self.but S.simple k1 K.xI K.dI).but S.simple k2 K.xC (Ne.symm K.Cd),Nat.succ_pos _⟩ fun v4 s4 p4=>?_
   have st4:St (i+1) s4.heap:=W.walks.frame _ _ _ st2 fun b hb o e=>(p4.2.2.1 b o e (W.apart b hb)).1 (W.cls _ _ st2 b hb o e)
   have gC4:=(p4.2.2.1 C o2 g2 K.Cd).1 (by rw[c2,cC];decide);refine wpAny_list_append_plain (PlainList.ext p4.2.2.1 K.Dd acc2) (fun h5 hp5 hs5=>?_) (by rw[S.len,sizeLine_eq];ext);have k5:jE D s4.heap h5:=fun b o ne e=>(hs5.2 b ne).trans e
   obtain⟨t,rfl,hzl⟩:=p4.2.1.inv_str;refine⟨m,Nat.lt_succ_self m,i+1,Y4,ys.push (.str ⟨z.toArray⟩ t),done++[.str z],rest',le_of_succ_le hm,hL,by rw[htot,append_assoc];rfl,hlt,?_⟩;refine⟨ik (ext2.trans p4.2.2.1) k5 K.nD,p4.1.act.but N1.act k5 K.nD,p4.1.self.but hs4 k5 K.xD (Ne.symm K.Dd),hs4,W.walks.frame _ _ _ st4 fun b hb o e=>k5 b o (fun q=>K.fD (q ▸ hb)) e,
    (hold2.ext1 p4.2.2.1).but k5 (fun o e=>nn (K.mD.symm.trans e)),hp5,fun hh=>?_,⟨_,o2,es2,ep2,Ns.but n2 fun o e=>inj (g2.symm.trans e) ▸ k5 _ _ (Ne.symm hDC) gC4,k5 _ _ (Ne.symm hDC) gC4,c2.trans cC,d2⟩,(S.same.trans ⟨rfl,rfl⟩).trans p4.2.2.2,p4.1.tk,by rw[Array.size_push,S.len]⟩
   rw[Array.toList_push];exact (S.reps hh).append (.cons (.str z t hzl) .nil)
  ·obtain rfl:i=xs.length:=Nat.le_antisymm hi (Nat.not_lt.mp hlt);rw[List.drop_length] at h;cases h;refine wpAny_with_toks (n:=s3.toks) (le_refl _) (W.walks.done _ _ _ S.st fun h5 tk5 hk5 htk=>?_);rw[List.append_nil] at htot;exact ro ys s3 (htot ▸ S) h5 tk5 (fun b o ne e=>hk5 b o (by simpa using ne) e) htk
end
end
section
variable {c:Cx}{A:Around}{E:Value→Shared→Prop}{env:Env}{ρ Y Y':af}{s:Shared}{n:Nat}{y:V}{Q:Value→Shared→Prop}
theorem EO{sc:Scope}{cl:af}{elt:Expr}{x:Str}{m:Nat}:∀ {xs:List V} {Y Y':af} {vs:List V},(ev m).L sc cl Y elt x xs=some (vs,Y')→vs.length=xs.length:=by
 induction m with
 | zero=>exact fun h=>nn h
 | succ m ih=>
  intro xs Y Y' vs h
  induction xs using zL with
  | nil=>obtain⟨rfl,_⟩:=Prod.mk.inj (inj h);rfl
  | cons v rest=>
   dsimp only[ev] at h;refine ms h fun z sl he h=>oc h fun _ h=>ml h fun ys sl2 hL h=>?_
   obtain⟨rfl,_⟩:=Prod.mk.inj (inj h);rw[length_cons,length_cons,ih hL]
theorem HX{elt it:Expr}{x:Str}{px pos:Pos}{csc:Scope}(B:cv c)(H:∀ m≤n,d8 c m)(h:(ev (n+1)).E env.scope ρ Y (.ListComp elt [⟨.Name x px,it,[],0⟩] csc pos)=some (y,Y'))(O:bP env)(R:bv n A)(N:bE c A env ρ Y s)
  (k:∀ v s',PE c A env ρ Y' y s v s'→Q v s'):wpAny c.M A (eval (.ListComp elt [⟨.Name x px,it,[],0⟩] csc pos) env) Q E s:=by
 have h:(match fj (ev n).E env.scope ρ Y it with
   | some (xs,Y)=>bif dk env.scope ρ csc x&&(ch Y&&Nat.ble xs.length 1048576) then
     (match (ev n).L (cq env.scope csc) (cf csc ρ) Y elt x xs with | some (vs,Y)=>some (V.list vs,Y) | none=>none)
    else none
   | none=>none)=some (y,Y'):=h
 split at h
 ·rename_i xs Y1 hit;cases hc:(dk env.scope ρ csc x&&(ch Y1&&Nat.ble xs.length 1048576)) with
  | false=>rw[hc] at h;cases h
  | true=>
   rw[hc] at h;dsimp only[cond_true] at h;split at h
   ·rename_i vs Y2 hL;cases h;rw[Bool.and_eq_true,Bool.and_eq_true] at hc;obtain⟨hok,hsim,hlen⟩:=hc;have hlen:=le_of_ble_eq_true hlen;have hok':=hok;unfold dk at hok';simp only[Bool.and_eq_true,beq_iff_eq] at hok';obtain⟨ok1,ok2,ok3⟩:=hok';have okp:∀ p∈csc.names,p.2≠.cell∧(p.2=.local→csc.names.lookup p.1=some .local)∧(p.2=.free→(env.scope.names.lookup p.1=some .cell∨env.scope.names.lookup p.1=some .free)∧(look ρ p.1).isSome=true):=fun p hp=>by
     have ok:=List.all_eq_true.mp ok3 p hp;simp only[Bool.and_eq_true,Bool.or_eq_true,Bool.not_eq_true',beq_iff_eq,beq_eq_false_iff_ne] at ok;exact⟨ok.1,fun z=>ok.2.1.resolve_left fun w=>w z,fun z=>ok.2.2.resolve_left fun w=>w z⟩
    have hcells:∀ nm,(nm,NameKind.free)∈csc.names→∃ a,env.cells.lookup nm=some a:=fun nm hm=>by
     obtain⟨kd,hs⟩:=(okp _ hm).2.2 rfl;obtain⟨V,hV⟩:=Option.isSome_iff_exists.mp hs;refine ed (N.vars.ns) fun m0 o0 zz=>pG zz fun _ _ _ _ _ hl0=>?_
     obtain⟨v',r',w⟩:=hl0 nm V hV;rcases w with ⟨w,_⟩ | ⟨_,a,oc,w,_⟩
     ·rcases kd with z | z<;>(rw[show env.scope.names.lookup nm=some .local from w] at z;cases z)
     ·exact⟨a,w⟩
    have cellNot:∀ z∈csc.names,z.2≠.cell:=fun z hz=>(okp z hz).1
    rw[eval_ListComp];refine wpAny_comprehension_free (use:=none) (cl:=kV env csc.names []) rfl (gS hit env) (oN hcells) ok1 (fun z hz hl=>(okp z hz).2.1 hl) ?_;refine qO B (H n (le_refl n)).E O R N hit fun s1 s2 I fp P St pn K sm tk h12 W st=>?_
    refine wpAny_newObj_type (ki cellNot ?_);have hs2:(s2.heap.push { cls:=.type "list",data:=.seq ([]:List Value).toArray }).objs.size=s2.heap.objs.size+1:=Heap.size_push ..;have K3:jG s2.heap ((s2.heap.push { cls:=.type "list",data:=.seq ([]:List Value).toArray }).push { cls:=.type "dict",data:=.dict #[] }):=fun b o e=>Heap.get?_push_of_some _ (Heap.get?_push_of_some _ e)
    have st3:St 0 ((s2.heap.push { cls:=.type "list",data:=.seq ([]:List Value).toArray }).push { cls:=.type "dict",data:=.dict #[] }):=W.walks.frame _ _ _ st fun b _ o e=>K3 b o e
    have K13:jG s1.heap ((s2.heap.push { cls:=.type "list",data:=.seq ([]:List Value).toArray }).push { cls:=.type "dict",data:=.dict #[] }):=fun b o e=>K3 b o (K b o e)
    have init:ow c A s1 s2 s2.heap.objs.size (s2.heap.push { cls:=.type "list",data:=.seq ([]:List Value).toArray }).objs.size St 0 Y1 #[] [] { s2 with heap:=(s2.heap.push { cls:=.type "list",data:=.seq ([]:List Value).toArray }).push { cls:=.type "dict",data:=.dict #[] } }:=by
     refine⟨.of_keeps K13,pn.1.act.keeps K13,pn.1.self.keeps K13,hsim,st3,fun b o e _ _ _=>K3 b o e,⟨0,Heap.get?_push_of_some _ (eE _ rfl)⟩,fun _=>.nil,⟨_,_,_,_,Heap.Ns.new _ _,eE _ rfl,rfl,rfl⟩,sm.trans ⟨rfl,rfl⟩,tk,rfl⟩
    have go:=qo (px:=px) (pos:=pos) (it:=it) (R:=compPost c.M A E none Q (.ref s2.heap.objs.size) (s2.heap.push { cls:=.type "list",data:=.seq ([]:List Value).toArray }).objs.size) B H O R pn.1 W rfl hok hlen (le_refl _) (by rw[hs2];exact Nat.le_succ _) (by rw[hs2];exact ne_of_lt (Nat.lt_succ_self _)) h12 (le_refl n) hL init
     (fun ys s' S h5 tk5 k5 htk=>?_)
    ·exact codeAny_compStart_list go (W.walks.self 0 _ _ _ st3 go)
    ·refine jI (S.cns) fun m o es ep zz=>pK zz fun nC gC cC dC=>?_
     have hC1:s1.heap.get? (s2.heap.push { cls:=.type "list",data:=.seq ([]:List Value).toArray }).objs.size=none:=Heap.get?_none_of_le (by rw[hs2];ext);have hCI:(s2.heap.push { cls:=.type "list",data:=.seq ([]:List Value).toArray }).objs.size≠I:=fun q=>by
      obtain⟨o,e⟩:=W.live I W.inI;have:=Heap.lt_size e;rw[←q,hs2] at this;exact absurd this (Nat.not_lt.mpr (Nat.le_succ _))
     have hDI:s2.heap.objs.size≠I:=fun q=>by
      obtain⟨o,e⟩:=W.live I W.inI;have:=Heap.lt_size e;rw[←q] at this;exact lt_irrefl _ this
     refine⟨m,?_,fun h6 hs6=>?_⟩
     ·refine gy (nC) fun o' es' ep' zz=>And.elim (fun e r=>?_) zz
      exact⟨o',es',ep',k5 _ _ hCI e,r⟩
     ·have k6:jE (s2.heap.push { cls:=.type "list",data:=.seq ([]:List Value).toArray }).objs.size h5 h6:=fun b o ne e=>(hs6.2 b ne).trans e
      have xI:c.x≠I:=fun q=>by obtain⟨o,ho,_⟩:=pn.1.self.inst;rw[q,W.new] at ho;cases ho
      have dI:c.dx≠I:=fun q=>W.apart I W.inI q.symm
      have xlt:c.x<s1.heap.objs.size:=by obtain⟨o,ho,_⟩:=pn.1.self.inst;exact Heap.lt_size ho
      have dlt:=pn.1.self.dxLt;have ext6:dA (only c.dx) s1.heap h6:=ik (ik S.ext k5 W.new) k6 hC1;have act6:tx c A h6:=(S.act.but pn.1.act k5 W.new).but pn.1.act k6 hC1;have self6:bS c h6 Y':=(S.self.but S.simple k5 xI dI).but S.simple k6 (ne_of_lt (by rw[hs2];exact Nat.lt_succ_of_lt (lt_of_lt_of_le xlt h12))) (ne_of_lt (by rw[hs2];exact Nat.lt_succ_of_lt (lt_of_lt_of_le dlt h12)));have acc6:h6.PlainList s2.heap.objs.size ys:=(S.acc.at fun o e=>k5 _ _ hDI e).at fun o e=>k6 _ _ (by rw[hs2];exact ne_of_lt (Nat.lt_succ_self _)) e
      obtain⟨nn,e6⟩:=acc6;have tk6:0<tk5:=lt_of_lt_of_le S.tk htk;have N6:bE c A env ρ Y' { s' with heap:=h6,toks:=tk5 }:=⟨act6,pn.1.vars.ext ext6,self6,tk6⟩;refine k _ _ ⟨N6,.list (vs:=ys.toList) (n:=nn) e6 rfl (by simp) (ne_of_gt (lt_of_lt_of_le dlt h12)) (by rw[EO hL];exact hlen) (S.reps _),pn.2.1.trans ext6,pn.2.2.trans S.same⟩
   ·cases h
 ·cases h
end
section
set_option tactic.hygienic false
inductive KV:List (Str×Value)→List (Str×Int)→Prop
 | nil:KV [] []
 | cons {k:Str} {i:Int} {t:Tok} {a:List (Str×Value)} {b:List (Str×Int)} (h:KV a b):KV ((k,.int i t) :: a) ((k,i) :: b)
theorem KV.keys{a:List (Str×Value)}{b:List (Str×Int)}(h:KV a b):a.map (·.1)=b.map (·.1):=by
 induction h with
 | nil=>rfl
 | cons _ ih=>rw[map_cons,map_cons,ih]
theorem KV.append{a a':List (Str×Value)}{b b':List (Str×Int)}(h:KV a b)(h':KV a' b'):KV (a++a') (b++b'):=by
 induction h with
 | nil=>exact h'
 | cons _ ih=>exact .cons ih
theorem KV.length{a:List (Str×Value)}{b:List (Str×Int)}(h:KV a b):a.length=b.length:=by
 have:=congrArg List.length h.keys;simpa using this
structure Ax(M:Model)(t:Sem Value×Sem Value)(q:Str×Int):Prop where
 k:∀ (A:Around) (E:Value→Shared→Prop) (s:Shared) (Q:Value→Shared→Prop),Q (.str q.1 s.toks) { s with toks:=s.toks+1 }→wpAny M A t.1 Q E s
 v:∀ (A:Around) (E:Value→Shared→Prop) (s:Shared) (Q:Value→Shared→Prop),Q (.int q.2 s.toks) { s with toks:=s.toks+1 }→wpAny M A t.2 Q E s
inductive cG(M:Model):List (Sem Value×Sem Value)→List (Str×Int)→Prop
 | nil:cG M [] []
 | cons {t:Sem Value×Sem Value} {q:Str×Int} {l:List (Sem Value×Sem Value)} {r:List (Str×Int)} (h:Ax M t q) (hr:cG M l r):cG M (t :: l) (q :: r)
theorem cG.snoc{M:Model}{t:Sem Value×Sem Value}{q:Str×Int}{l:List (Sem Value×Sem Value)}{r:List (Str×Int)}(h:cG M l r)(hq:Ax M t q):cG M (l++[t]) (r++[q]):=by
 induction h with
 | nil=>exact .cons hq .nil
 | cons a _ ih=>exact .cons a ih
section
variable {c:Cx}{A:Around}{E:Value→Shared→Prop}{s:Shared}
theorem rG{kvs:List (Str×Value)}{k:Str}{v:Value}(h:k ∉ kvs.map (·.1)):stored kvs k v=kvs++[(k,v)]:=by
 unfold stored;rw[if_neg];rw[List.any_eq_true]
 rintro⟨x,hx,he⟩
 exact h (List.mem_map.mpr ⟨x,hx,of_decide_eq_true he⟩)
theorem uS{l:List (Sem Value×Sem Value)}{r:List (Str×Int)}(h:cG c.M l r):∀ {s:Shared} {Q:List (Value×Value)→Shared→Prop},(∀ vs kvs tk,Carries (PySem.strKind prog c.w) vs kvs→KV kvs r→s.toks≤tk→Q vs { s with toks:=tk })→wpAny c.M A (evalPairs l) Q E s:=by
 induction h with
 | nil=>intro s Q k;exact evalPairs_nil (k [] [] s.toks trivial .nil (le_refl _))
 | @cons t q l r hp hr ih=>
  intro s Q k;obtain⟨a,b⟩:=t;obtain⟨n,i⟩:=q;refine evalPairs_cons (hp.k A E s _ (hp.v A E _ _ (ih fun vs kvs tk hc hv ht=>?_)));exact k _ ((n,.int i (s.toks+1)) :: kvs) tk ⟨strKind_is _ _ _ _,rfl,hc⟩ (.cons hv) (by have:s.toks+1+1≤tk:=ht;ext)
theorem ww{d:Addr}{l:List (Sem Value×Sem Value)}{r:List (Str×Int)}(h:cG c.M l r)(f:Sem Value×Sem Value→PUnit→Sem (ForInStep PUnit))
  (hf:∀ a b u,f (a,b) u=(do let kv ← a;let vv ← holding [kv] b;holding [kv,vv] (dictSet d kv vv);pure (.yield ⟨⟩))):
  ∀ {acc:List (Str×Value)} {racc:List (Str×Int)} {s:Shared} {Q:PUnit→Shared→Prop},s.heap.DictOf (PySem.strKind prog c.w) d acc→KV acc racc→((racc++r).map (·.1)).Nodup→racc.length+r.length≤1024→
   (∀ h' acc' tk,h'.DictOf (PySem.strKind prog c.w) d acc'→KV acc' (racc++r)→Heap.SameBut d s.heap h'→s.toks≤tk→Q ⟨⟩ { s with heap:=h',toks:=tk })→wpAny c.M A (forIn l ⟨⟩ f) Q E s:=by
 induction h with
 | nil=>intro acc racc s Q hm hv hn hz k;rw[List.forIn_nil];exact wpAny_pure (k s.heap acc s.toks hm (by simpa using hv) (.refl _ _) (le_refl _))
 | @cons t q l r hp hr ih=>
  intro acc racc s Q hm hv hn hz k;obtain⟨a,b⟩:=t;obtain⟨n,i⟩:=q;rw[List.forIn_cons,hf];refine wpAny_bind (wpAny_bind (hp.k A E s _ (wpAny_bind (wpAny_holding (hp.v A E _ _ (wpAny_bind (wpAny_holding ?_)))))));have nf:n ∉ acc.map (·.1):=by
   rw[hv.keys];rw[List.map_append,map_cons,List.nodup_append] at hn;exact fun m=>hn.2.2 n m n (.head _) rfl
  have hl:=hv.length;refine wpAny_dictSet_pairs (strKind_is _ _ _ _) (by exact hm) (fun h' hm' hs=>?_) (by rw[hl,sizeLine_eq];simp at hz;ext);rw[rG nf] at hm';refine wpAny_pure ?_;refine ih hm' (hv.append (.cons .nil)) (by simpa using hn) (by simp at hz ⊢;ext) fun h'' acc' tk a1 a2 a3 a4=>?_
  have a4:s.toks+1+1+1≤tk:=a4;exact k h'' acc' tk a1 (by simpa using a2) (hs.trans a3) (by ext)
theorem y2{l:List (Sem Value×Sem Value)}{r:List (Str×Int)}{Q:Addr→Shared→Prop}(h:cG c.M l r)(hn:(r.map (·.1)).Nodup)(hz:r.length≤1024)
  (k:∀ h' kvs tk,h'.DictOf (PySem.strKind prog c.w) s.heap.objs.size kvs→KV kvs r→jG s.heap h'→s.heap.objs.size<h'.objs.size→s.toks≤tk→Q s.heap.objs.size { s with heap:=h',toks:=tk }):wpAny c.M A (subDict l) Q E s:=by
 have D0:(s.heap.push { cls:=.type "dict",data:=.dict #[] }).DictOf (PySem.strKind prog c.w) s.heap.objs.size []:=Heap.DictOf.new _;have keep:∀ {h'},Heap.SameBut s.heap.objs.size (s.heap.push { cls:=.type "dict",data:=.dict #[] }) h'→jG s.heap h'∧s.heap.objs.size<h'.objs.size:=fun hs=>
  ⟨fun b o e=>(hs.2 b (ne_of_lt (Heap.lt_size e))).trans (cM _ _ _ _ e),by rw[hs.1,Heap.size_push];exact Nat.lt_succ_self _⟩
 by_cases hlen:l.length≤15
 ·refine wpAny_subDict (knd:=PySem.strKind prog c.w) hlen (uS h fun vs kvs tk hc hv ht=>⟨kvs,hc,D0,fun h' hd hs=>?_⟩);rw[merged_nil_of_nodup _ (by rw[hv.keys];exact hn)] at hd;obtain⟨k1,k2⟩:=keep hs;exact k h' kvs _ hd hv k1 k2 (le_trans ht (le_add_right _ _))
 ·unfold subDict;refine wpAny_bind (wpAny_alloc ?_);refine wpAny_bind (wpAny_holding ?_);rw[if_neg hlen];refine wpAny_bind (wpAny_rule ?_);refine wpAny_bind (ww (d:=s.heap.objs.size) h _ (fun _ _ _=>rfl) D0 .nil (by simpa using hn) (by simpa using hz) fun h' acc' tk a1 a2 a3 a4=>?_);obtain⟨k1,k2⟩:=keep a3;exact wpAny_pure (wpAny_pure (k h' acc' tk a1 a2 k1 k2 a4))
end
end
section
variable {c:Cx}{A:Around}{E:Value→Shared→Prop}{s:Shared}
theorem wY{d:Addr}{kvs:List (Str×Value)}{k:Str}{key v:Value}{Q:Unit→Shared→Prop}(hkey:(PySem.strKind prog c.w).is k key=true)(hm:s.heap.DictOf (PySem.strKind prog c.w) d kvs)(hf:k ∉ kvs.map (·.1))(hsz:kvs.length≤16777216)
  (hQ:∀ h',h'.DictOf (PySem.strKind prog c.w) d (kvs++[(k,v)])→Heap.SameBut d s.heap h'→Q () { s with heap:=h' }):wpAny c.M A (dictPut d ((PySem.strKind prog c.w).hash k) key v) Q E s:=by
 refine gy (hm) fun o es ep zz=>pG zz fun ho hc hd hk hp hn=>?_
 have hes:es.size≤sizeLine:=by
  have e1:=hp.length;have e2:es.toList.length=es.size:=by simp
  rw[sizeLine_eq];ext
 unfold dictPut;refine wpAny_bind (wpAny_dictFind_of hkey ho hd hk ?_);have hidx:(es.findIdx? fun e=>(PySem.strKind prog c.w).is k e.key)=kvs.findIdx? fun kv=>decide (kv.1=k):=by
  rw[←hp.findIdx k];obtain⟨l⟩:=es;simp
 cases hi:es.findIdx? fun e=>(PySem.strKind prog c.w).is k e.key with
 | some i=>
  have:=any_of_findIdx_some (hidx ▸ hi);rw[List.any_eq_true] at this;obtain⟨x,hx,he⟩:=this;exact absurd (List.mem_map.mpr ⟨x,hx,of_decide_eq_true he⟩) hf
 | none=>
  refine wpAny_updateDictKeys (hz:=hes) ho hd (hQ _ ⟨_,_,ep+1,Heap.get?_update_self _ ho (Obj.isFreed_of_dict (Obj.data_mapDictKeys hd _)),hc.mapDictKeys _,Obj.data_mapDictKeys hd _,hk.push hkey _,?_,?_⟩ (Heap.SameBut.update ..))
  ·have:=hp.append hkey ((PySem.strKind prog c.w).hash k) v;obtain⟨l⟩:=es;simpa using this
  ·rw[List.map_append,List.nodup_append];refine⟨hn,by simp,?_⟩;intro a ha b hb;simp only[map_cons,List.map_nil,List.mem_singleton] at hb;subst hb;exact fun e=>hf (e ▸ ha)
set_option backward.match.sparseCases true in
theorem BA{d sub:Addr}{acc kvs2:List (Str×Value)}{Q:Unit→Shared→Prop}(hd:s.heap.DictOf (PySem.strKind prog c.w) d acc)(hs:s.heap.DictOf (PySem.strKind prog c.w) sub kvs2)(hm:(sub==sysModules)=false)(hne:d≠sub)(hacc:acc≠[])
  (hn:((acc++kvs2).map (·.1)).Nodup) (hz:acc.length+kvs2.length≤1024) (k:∀ h',h'.DictOf (PySem.strKind prog c.w) d (acc++kvs2)→Heap.SameBut d s.heap h'→Q () { s with heap:=h' }):wpAny c.M A (mergeMapping d (.ref sub) false) Q E s:=by
 refine gy (id hd) fun o1 es1 ep1 zz=>pG zz fun ho1 hx1 hd1 hk1 hp1 hn1=>?_
 refine gy (id hs) fun o2 es2 ep2 zz=>pG zz fun ho2 hx2 hd2 hk2 hp2 hn2=>?_
 have he1:es1.isEmpty=false:=by
  cases q:es1.isEmpty with
  | false=>rfl
  | true=>
   have e1:=hp1.length;have e2:es1.toList.length=es1.size:=by simp
   rw[Array.isEmpty_iff.mp q] at e1;simp at e1;exact absurd (List.length_eq_zero_iff.mp e1.symm) hacc
 unfold mergeMapping;refine wpAny_bind (m:=isInstance (.ref sub) (.type "dict")) (wpAny_isInstance hs.typeIs isSubtype_dict_dict ?_);rw[if_pos rfl];refine wpAny_bind (wpAny_specialOf hs.typeIs PySem.F.slot_dict_iter.lookup (wpAny_bind (wpAny_pure ?_)));simp only[beq_self_eq_true];rw[hm];simp only[Bool.false_eq_true,if_false];refine wpAny_bind (wpAny_dictEntries ho1 hd1 ?_);rw[he1];simp only[Bool.false_eq_true,if_false];refine wpAny_bind (wpAny_dictEntries ho2 hd2 (wpAny_bind (wpAny_dictEpoch ho2 hd2 ?_)));have hsz:es2.size=kvs2.length:=by rw[←hp2.length];simp
 have loop:∀ (f:Nat→PUnit→Sem (ForInStep PUnit)),(∀ i u,f i u=(do
    let es ← dictEntries sub
    match es[i]? with
    | some e=>do
     holding [e.key,e.val] (dictPut d e.hash e.key e.val)
     let ep ← dictEpoch sub
     if (ep != ep2)=true then do
       unsupported "dict.changed-during-merge"
       pure (ForInStep.yield PUnit.unit)
      else pure (ForInStep.yield PUnit.unit)
    | _=>do
     unsupported "dict.changed-during-merge"
     pure (ForInStep.yield PUnit.unit)))→
   ∀ (k i:Nat) (s':Shared) (Q':PUnit→Shared→Prop),i+k=kvs2.length→s'.heap.DictOf (PySem.strKind prog c.w) d (acc++kvs2.take i)→Heap.SameBut d s.heap s'.heap→(∀ h',h'.DictOf (PySem.strKind prog c.w) d (acc++kvs2)→Heap.SameBut d s.heap h'→Q' ⟨⟩ { s' with heap:=h' })→
    wpAny c.M A (forIn (List.range' i k) ⟨⟩ f) Q' E s':=by
  intro f hf k
  induction k with
  | zero=>
   intro i s' Q' hi hd' sb kq;rw[List.range'_zero,List.forIn_nil];rw[List.take_of_length_le (by ext)] at hd';exact wpAny_pure (kq _ hd' sb)
  | succ k ih=>
   intro i s' Q' hi hd' sb kq;rw[List.range'_succ,List.forIn_cons,hf];have g2:s'.heap.get? sub=some o2:=(sb.2 _ (Ne.symm hne)).trans ho2;have hlt:i<kvs2.length:=by ext
   refine wpAny_bind (wpAny_bind (wpAny_dictEntries g2 hd2 ?_));have hi2:i<es2.size:=by ext
   rw[Array.getElem?_eq_getElem hi2];dsimp only;obtain⟨hk',hv'⟩:(PySem.strKind prog c.w).is (kvs2[i]).1 es2[i].key=true∧es2[i].val=(kvs2[i]).2:=by
    have:∀ {l:List DictEntry} {m:List (Str×Value)},Pairs (PySem.strKind prog c.w) l m→∀ (j:Nat) (e:DictEntry) (q:Str×Value),l[j]?=some e→m[j]?=some q→(PySem.strKind prog c.w).is q.1 e.key=true∧e.val=q.2:=by
     intro l m hp
     induction hp with
     | nil=>intro j e q h1;simp at h1
     | cons a b _ ih=>
      intro j e q h1 h2
      induction j using zN with
      | zero=>simp at h1 h2;subst h1 h2;exact⟨a,b⟩
      | succ j=>simp at h1 h2;exact ih j e q h1 h2
    exact this hp2 i _ _ (by simp[hi2]) (by simp[hlt])
   obtain⟨k0,hk0,hh0⟩:=hk2 es2[i] (Array.getElem_mem hi2);have ek:k0=(kvs2[i]).1:=(PySem.strKind prog c.w).inj _ _ _ hk0 hk';rw[hh0,ek,hv'];have nf:(kvs2[i]).1 ∉ (acc++kvs2.take i).map (·.1):=fun m=>by
    have e:kvs2=kvs2.take i++kvs2[i] :: kvs2.drop (i+1):=by rw[←List.drop_eq_getElem_cons hlt,List.take_append_drop]
    rw[e,←append_assoc,List.map_append,map_cons,List.nodup_append] at hn;exact hn.2.2 _ m _ (.head _) rfl
   refine wpAny_bind (wpAny_holding (wY hk' hd' nf (by rw[length_append,length_take];ext) fun h' hd'' sb'=>?_));have g3:h'.get? sub=some o2:=(sb'.2 _ (Ne.symm hne)).trans g2;refine wpAny_bind (wpAny_dictEpoch g3 hd2 ?_);simp only[bne_self_eq_false,Bool.false_eq_true,if_false];refine wpAny_pure ?_;refine ih (i+1) _ Q' (by ext) ?_ (sb.trans sb') kq;rw[List.take_add_one,List.getElem?_eq_getElem hlt];rw[append_assoc] at hd'';exact hd''
 rw[hsz,List.range_eq_range'];refine wpAny_bind (loop _ (fun _ _=>rfl) kvs2.length 0 s _ (by ext) (by simpa using hd) (.refl _ _) fun h' a b=>wpAny_pure (k h' a b))
end
section
set_option tactic.hygienic false
noncomputable def rN(run:List (Sem Value×Sem Value))(main:Option Addr):Sem (Option Addr):=
 if run.isEmpty=true then pure main
 else match main with
  | none=>do let a ← subDict run;pure (some a)
  | some d=>do
   let sub ← holding [.ref d] (subDict run)
   (holding [.ref d,.ref sub] (mergeMapping d (.ref sub) false)).onRaise fun x=>do let _ ← holding [.ref d,x] (runValue (.builtin "proto.let_go" {}));pure ()
   pure (some d)
def o5(c:Cx)(s0 s:Shared)(main:Option Addr)(racc:List (Str×Int)):Prop:=
 ∃ h tk,s={ s0 with heap:=h,toks:=tk }∧s0.toks≤tk∧jG s0.heap h∧s0.heap.objs.size≤h.objs.size∧
  match main with
  | none=>racc=[]
  | some d=>s0.heap.objs.size≤d∧racc≠[]∧∃ acc,h.DictOf (PySem.strKind prog c.w) d acc∧KV acc racc
section
variable {c:Cx}{A:Around}{E:Value→Shared→Prop}{s0 s:Shared}
theorem sM{run:List (Sem Value×Sem Value)}{main:Option Addr}{racc r:List (Str×Int)}{Q:Option Addr→Shared→Prop}(big:1<s0.heap.objs.size)(S:o5 c s0 s main racc)(P:cG c.M run r)(hr:r≠[])(hn:((racc++r).map (·.1)).Nodup)(hz:racc.length+r.length≤1024)
  (k:∀ d s',o5 c s0 s' (some d) (racc++r)→Q (some d) s'):wpAny c.M A (rN run main) Q E s:=by
 have hrun:run.isEmpty=false:=by
  induction run using zL with
  | nil=>cases P;exact absurd rfl hr
  | cons _ _=>rfl
 obtain⟨h,tk,rfl,ht,K,hle,M⟩:=S;have hnr:(r.map (·.1)).Nodup:=by rw[List.map_append,List.nodup_append] at hn;exact hn.2.1
 unfold rN;rw[hrun];simp only[Bool.false_eq_true,if_false]
 induction main using zO with
 | none=>
  dsimp only at M ⊢;subst M;refine wpAny_bind (y2 P hnr (by ext) fun h' kvs tk' D kv K' hlt ht'=>wpAny_pure (k _ _ ⟨h',tk',rfl,le_trans ht ht',fun b o e=>K' _ _ (K _ _ e),Nat.le_of_lt (Nat.lt_of_le_of_lt hle hlt),hle,by simpa using hr,kvs,D,by simpa using kv⟩))
 | some d=>
  dsimp only at M ⊢;obtain⟨hd,hracc,acc,Da,ka⟩:=M;refine wpAny_bind (wpAny_holding (y2 P hnr (by ext) fun h' kvs tk' D kv K' hlt ht'=>?_));have dlt:d<h.objs.size:=by obtain⟨o,_,_,ho,_⟩:=Da;exact Heap.lt_size ho
  refine wpAny_bind (wpAny_onRaise (wpAny_holding (BA (Da.keep K') D ?_ (ne_of_lt dlt) ?_ ?_ ?_ fun h2 D2 sb=>wpAny_pure (k _ _ ⟨h2,tk',rfl,le_trans ht ht',fun b o e=>(sb.2 b (ne_of_lt (lt_of_lt_of_le (Heap.lt_size e) hd))).trans (K' _ _ (K _ _ e)),?_,hd,?_,_,D2,ka.append kv⟩))))
  ·have:1<h.objs.size:=lt_of_lt_of_le big hle;show (h.objs.size==1)=false;rw[beq_eq_false_iff_ne];exact ne_of_gt this
  ·intro q;have:=ka.length;rw[q] at this;exact hracc (List.length_eq_zero_iff.mp this.symm)
  ·rw[List.map_append,ka.keys,kv.keys,←List.map_append];exact hn
  ·rw[ka.length,kv.length];exact hz
  ·rw[sb.1];exact Nat.le_of_lt (Nat.lt_of_le_of_lt hle hlt)
  ·intro q;exact hr (List.append_eq_nil_iff.mp q).2
theorem xk(big:1<s0.heap.objs.size)(f:(Option (Sem Value)×Sem Value)→(Option Addr×List (Sem Value×Sem Value))→Sem (ForInStep (Option Addr×List (Sem Value×Sem Value))))
  (hf:∀ (p:Sem Value×Sem Value) (main:Option Addr) (run:List (Sem Value×Sem Value)),f (some p.1,p.2) (main,run)=
   if ((run++[(p.1,p.2)]).length==17)=true then (do let main ← rN (run++[(p.1,p.2)]) main;pure (.yield (main,[]))) else pure (.yield (main,run++[(p.1,p.2)]))):
  ∀ {P:List (Sem Value×Sem Value)} {r:List (Str×Int)},cG c.M P r→∀ {s:Shared} {main:Option Addr} {run:List (Sem Value×Sem Value)} {racc rr:List (Str×Int)} {Q:Option Addr×List (Sem Value×Sem Value)→Shared→Prop},o5 c s0 s main racc→cG c.M run rr→
   (((racc++rr)++r).map (·.1)).Nodup→((racc++rr)++r).length≤1024→
   (∀ main' run' racc' rr' s',o5 c s0 s' main' racc'→cG c.M run' rr'→racc'++rr'=(racc++rr)++r→Q (main',run') s')→wpAny c.M A (forIn (P.map fun p=>(some p.1,p.2)) (main,run) f) Q E s:=by
 intro P r h
 induction h with
 | nil=>intro s main run racc rr Q S R hn hz k;rw[List.map_nil,List.forIn_nil];exact wpAny_pure (k _ _ _ _ _ S R (by simp))
 | @cons t q l r hp hr ih=>
  intro s main run racc rr Q S R hn hz k;have R':cG c.M (run++[(t.1,t.2)]) (rr++[q]):=R.snoc hp;have e:racc++rr++q :: r=racc++(rr++[q])++r:=by simp
  rw[e] at hn hz k;rw[map_cons,List.forIn_cons,hf];split
  ·refine wpAny_bind (wpAny_bind (sM big S R' (by simp) ?_ ?_ fun d s' S'=>wpAny_pure ?_))
   ·rw[List.map_append,List.nodup_append] at hn;exact hn.1
   ·simp at hz ⊢;ext
   ·exact ih (rr:=[]) S' .nil (by simpa using hn) (by simpa using hz) fun main' run' racc' rr' s'' a b d=>k _ _ _ _ _ a b (by simpa using d)
  ·refine wpAny_bind (wpAny_pure ?_);exact ih S R' hn hz k
theorem EB{P:List (Sem Value×Sem Value)}{r:List (Str×Int)}{Q:Value→Shared→Prop}(big:1<s0.heap.objs.size)(h:cG c.M P r)(hr:r≠[])(hn:(r.map (·.1)).Nodup)(hz:r.length≤1024)
  (k:∀ d s',o5 c s0 s' (some d) r→Q (.ref d) s'):wpAny c.M A (dictDisplay (P.map fun p=>(some p.1,p.2))) Q E s0:=by
 unfold dictDisplay;dsimp only;refine wpAny_bind (xk (s0:=s0) (racc:=[]) (rr:=[]) big _ (fun p main run=>rfl) h ⟨s0.heap,s0.toks,rfl,le_refl _,fun _ _ e=>e,le_refl _,rfl⟩ .nil (by simpa using hn) (by simpa using hz) fun main' run' racc' rr' s' S R e=>?_);have e:racc'++rr'=r:=by simpa using e
 show wpAny c.M A (rN run' main' >>= _) Q E s';by_cases q:rr'=[]
 ·subst q;cases R;have e:racc'=r:=by simpa using e
  subst e;refine wpAny_bind (wpAny_pure ?_)
  induction main' using zO with
  | none=>
   refine ed (S) fun h tk zz=>I5 zz fun zq2 _ _ _ M=>?_
   subst zq2;exact absurd M hr
  | some d=>exact wpAny_pure (k d s' S)
 ·refine wpAny_bind (sM big S R q (by rw[e];exact hn) (by rw[←length_append,e];exact hz) fun d s'' S'=>?_);rw[e] at S';exact wpAny_pure (k d s'' S')
end
section
variable {c:Cx}{A:Around}{E:Value→Shared→Prop}{env:Env}{ρ Y Y':af}{s:Shared}{n:Nat}{y:V}{Q:Value→Shared→Prop}
theorem Ig(p:Params):(K p).lookup 888=some (zu p):=by rfl'
theorem sJ{pos:Pos}{ks:List (Option Expr)}:∀ {vs:List Expr} {kv:List (List Nat×V)},kR ks vs=some kv→∃ P r,(evalEachOpt ks env).zip ((evalEach vs env).map fun v=>(do let x ← v;standAt pos;pure x:Sem Value))=P.map (fun p=>(some p.1,p.2))∧cG c.M P r∧kv=r.map fun q=>(q.1.cps.toList,V.int q.2):=by
 induction ks with
 | nil=>
  intro vs kv h
  induction vs using zL with
  | nil=>obtain rfl:=inj h;exact⟨[],[],rfl,.nil,rfl⟩
  | cons=>exact nn h
 | cons ko ks ih=>
  intro vs kv h
  induction ko using zO with
  | none=>induction vs using zL<;>exact nn h
  | some ke=>induction vs using zL with
   | nil=>exact nn h
   | cons v vs=>
    refine ob h fun k e1 h=>ob h fun i e2 h=>om h fun kv' hK e=>?_
    obtain rfl:=e;refine ed (ih hK) fun P r zz=>ee zz fun e hp zq4=>?_
    subst zq4;refine strC_eq e1 fun m1 p1=>?_
    refine intC_eq e2 fun m2 p2=>?_
    refine⟨(eval (.Constant (.str k) m1 p1) env,do let x ← eval (.Constant (.int i) m2 p2) env;standAt pos;pure x) :: P,(k,i) :: r,?_,.cons ⟨fun A E s Q q=>?_,fun A E s Q q=>?_⟩ hp,rfl⟩
    ·rw[map_cons,←e];rfl
    ·exact Constant_str (env:=env) (k:=m1) (pos:=p1) q
    ·exact wpAny_bind (by rw[arm_eval_Constant];exact wpAny_mkInt (wpAny_bind (wpAny_standAt (wpAny_pure q))))
theorem F7{h:Heap}{kvs:List (Str×Value)}{r:List (Str×Int)}(k:KV kvs r):RepE c h kvs (r.map fun q=>(q.1.cps.toList,V.int q.2)):=by
 induction k with
 | nil=>exact .nil
 | @cons k i t a b _ ih=>
  obtain⟨⟨l⟩⟩:=k;exact .cons (.int i t) ih
theorem Hh{ks:List (Option Expr)}{vs:List Expr}{pos:Pos}(B:cv c)(h:(ev (n+1)).E env.scope ρ Y (.Dict ks vs pos)=some (y,Y'))(N:bE c A env ρ Y s)
  (k:∀ v s',PE c A env ρ Y' y s v s'→Q v s'):wpAny c.M A (eval (.Dict ks vs pos) env) Q E s:=by
 refine ob h fun kv hk h=>oc h fun q h=>?_
 rw[Bool.and_eq_true,Bool.and_eq_true,decide_eq_true_eq] at q;obtain⟨q1,q2,q3⟩:=q;have q1:=le_of_ble_eq_true q1;have q2:=le_of_ble_eq_true q2;refine ed (sJ (c:=c) (env:=env) (pos:=pos) hk) fun P r zz=>ee zz fun e hp zq4=>?_
 subst zq4;rw[length_map] at q1 q2;have big:1<s.heap.objs.size:=lt_of_lt_of_le (by decide:1<889) (Heap.lt_size (N.act.base _ _ (B.k _ _ (Ig c.w.params))));have hn:(r.map (·.1)).Nodup:=by
  rw[List.map_map] at q3;have:(r.map ((fun x=>x.1) ∘ fun q=>(q.1.cps.toList,V.int q.2)))=(r.map (·.1)).map fun k=>k.cps.toList:=by rw[List.map_map];rfl
  rw[this] at q3;exact List.Pairwise.of_map _ (fun a b hab e=>hab (by rw[e])) q3
 rw[arm_eval_Dict,e];refine wpAny_bind (wpAny_standAt (EB big hp (by intro z;rw[z] at q2;simp at q2) hn (by ext) fun d s' S=>?_));obtain⟨h',tk,rfl,ht,K,hle,hd,_,acc,D,kva⟩:=S;obtain⟨o,ho,hod⟩:=Heap.dictOf_iff.mp D;have dd:d≠c.dx:=ne_of_gt (lt_of_lt_of_le N.self.dxLt hd);have d1:(d==sysModules)=false:=by
  show (d==1)=false;rw[beq_eq_false_iff_ne];exact ne_of_gt (lt_of_lt_of_le big hd)
 exact pk k (inj h) _ _ (.of N K (lt_of_lt_of_le N.tk ht) (.dict ho hod dd d1 (F7 kva)) rfl rfl)
theorem uL{m:Nat}{sc:Scope}{l0 l1:af}{a b d:Option Expr}{p:Pos}:(ev m).E sc l0 l1 (.Slice a b d p)=none:=by cases m<;>rfl
theorem Dm(B:cv c)(H:∀ m≤n,d8 c m):bY c (n+1):=by
 intro A E env ρ Y s Q e y Y' h O R N k;have R':bv n A:=R.less (Nat.le_succ n);have Hn:=H n (le_refl n);clear R
 induction e using zX with
 | Constant kk m pos=>exact om h fun z hz e=>AS hz N (pk k e)
 | Name id pos=>exact pD B h O N k
 | Attribute o n' pos=>
  refine ob h fun id e _=>?_
  revert h
  exact nameE_eq e fun _ h=>IM B Hn.E h O R' N k
 | Subscript v i pos=>
  cases q:ud i with
  | some p=>
   revert h
   exact sliceE_eq q fun _ h=>Ei Hn.E h O R' N k
  | none=>
   have h:(match (ev n).E env.scope ρ Y v with
     | some (a,Y)=>bif dU v a then (match (ev n).E env.scope ρ Y i with | some (b,Y)=>(dn a b).map fun v=>(v,Y) | none=>none) else none
     | none=>none)=some (y,Y'):=by
    dsimp only[ev] at h;rw[q] at h;exact h
   refine mw B Hn.E (fun _ _=>?_) h O R' N k;clear q
   induction i using zX with
   | Slice l u st p=>
    exact m2 h fun a sl _ h=>oc h fun _ h=>by rw[uL] at h;exact nn h
   | _=>rfl
 | Call f args kw pos=>
  induction kw using zL with
  | cons _ _=>exact nn h
  | nil=>
   induction f using zX with
   | Attribute o name apos=>exact hJ B Hn h O R' N k
   | Name id p=>exact Hv B Hn h O R' N k
   | _=>exact nn h
 | BinOp a op b pos=>exact Lj B Hn.E h O R' N k
 | UnaryOp op x pos=>
  induction op using PySem.UnaryOp.casesOn with
  | USub=>
   refine om h fun i e _=>?_
   revert h
   exact intC_eq e fun _ _ h=>OA h N k
  | _=>exact nn h
 | Compare a ops bs pos=>
  induction ops using zL with
  | nil=>exact nn h
  | cons op r=>induction r using zL with
   | cons _ _=>exact nn h
   | nil=>induction bs using zL with
    | nil=>exact nn h
    | cons b r=>induction r using zL with
     | cons _ _=>exact nn h
     | nil=>exact yv B Hn.E h O R' N k
 | IfExp t a b pos=>exact PW Hn.E Hn.T h O R' N k
 | List es pos=>exact Gr Hn.E h O R' N k
 | Dict ks vs pos=>exact Hh B h N k
 | ListComp elt gens csc pos=>
  refine ob h fun p e _=>?_
  revert h
  exact genE_eq e fun _ h=>HX B H h O R' N k
 | _=>exact nn h
theorem sound{c:Cx}(B:cv c):∀ n,d8 c n:=by
 intro n
 induction n using Nat.strongRecOn with
 | ind n ih=>
  induction n using zN with
  | zero=>
   refine⟨?_,?_,?_,?_,?_⟩
   ·intro _ _ _ _ _ _ _ _ _ _ h;cases h
   ·intro _ _ _ _ _ _ _ _ _ _ h;cases h
   ·intro _ _ _ _ _ _ _ _ _ _ _ _ h;cases h
   ·intro _ _ _ _ _ _ _ _ _ _ _ h;cases h
   ·intro _ _ _ _ _ _ _ _ _ _ _ h;cases h
  | succ n=>
   have H:∀ m≤n,d8 c m:=fun m hm=>ih m (Nat.lt_succ_of_le hm)
   have Hn:=H n (le_refl n);exact⟨Dm B H,Di Hn,uu B Hn.SS,Ec B H,yU Hn⟩
end
def qZ:Fn:=⟨35,mt 2 0,34, "__init__", "BaseStemmer.__init__",.str "snowballstemmer.basestemmer" 194,["self"]⟩
theorem ri(p:Params):aM p qZ:=⟨by rfl',by rfl',ew (fun v0=>by rfl'),by rfl',fun k=>by rfl'⟩
noncomputable def Y0:af:=[("current",.str []),("cursor",.int 0),("limit",.int 0),("limit_backward",.int 0),("bra",.int 0),("ket",.int 0)]
theorem Ej:(ev (20+1)).C qZ [.self] []=some (.none,Y0):=by rfl'
theorem yS(p:Params):makesIn (K p) 888=true:=by rfl'
theorem Ez(p:Params):findIn (K p) (.ref 888) "__init__"=some (some (.ref 35)):=by rfl'
theorem QZ(p:Params):typeIn (K p) (.ref 35)=some (.type "function"):=by rfl'
theorem vO(p:Params):keepIn (K p) (.ref 888)=true:=by rfl'
section
variable {c:Cx}{A:Around}{E:Value→Shared→Prop}{env:Env}{ρ Y Y':af}{s:Shared}{n:Nat}{y:V}{Q:Value→Shared→Prop}
noncomputable abbrev Am(A:Around):Around:=A.under (.builtin "type.__call__" ⟨[.ref 888],[]⟩)
theorem wH:(Code.builtin "type.__call__" ⟨[.ref 888],[]⟩).weight≤4:=by decide+kernel
theorem zg:(Code.builtin "type.__call__" ⟨[.ref 888],[]⟩).cUnits≤16:=by decide+kernel
theorem qA(A:Around):(Am A).frames=A.frames:=by
 unfold Am Around.under;dsimp only;cases A.frames<;>rfl
theorem vm(B:cv c)(Rm:bv 60 A)(act:tx c A s.heap)(vars:dE c s.heap env ρ)(tk:0<s.toks)(hdx:c.dx=s.heap.objs.size)(hx:c.x=s.heap.objs.size+1)
  (k:∀ s',bE c A env ρ Y0 s'→dA (only c.dx) s.heap s'.heap→fq s s'→Q (.ref c.x) s'):wpAny c.M A (call (.ref 888) []) Q E s:=by
 obtain⟨hh,g,d,t,os⟩:=s;have X:(K c.w.params).In hh:=B.k.keeps act.base;refine wpAny_call (make_core (makes_of X (yS _)) (looks_findIn X (Ez _)) (fun self=>bind_fn X self (QZ _)) (.inl rfl) ?_);have K1:jG hh ((hh.push emptyDict).push (instObj 888 hh.objs.size)):=fun b o e=>Heap.get?_push_of_some _ (Heap.get?_push_of_some _ e)
 have hx':c.x=hh.objs.size+1:=hx;have hdx':c.dx=hh.objs.size:=hdx;have gx:((hh.push emptyDict).push (instObj 888 hh.objs.size)).get? c.x=some (instObj 888 hh.objs.size):=by
  rw[hx',←Heap.size_push hh emptyDict];exact eE _ rfl
 have gd:((hh.push emptyDict).push (instObj 888 hh.objs.size)).get? c.dx=some emptyDict:=by
  rw[hdx'];exact Heap.get?_push_of_some _ (eE _ rfl)
 have N:bE c (Am A) env ρ [] ⟨(hh.push emptyDict).push (instObj 888 hh.objs.size),g,d,t,os⟩:=by
  refine⟨⟨fun b o e=>K1 _ _ (act.base b o e),?_,act.handled⟩,vars.keeps K1,⟨⟨_,gx,rfl,by rw[hdx'],rfl⟩,⟨fun _=>none,emptyDict,#[],0,?_,gd,rfl,rfl,le_refl _,fun n=>rfl⟩⟩,tk⟩
  ·obtain⟨e1,l1,f1,F1⟩:=act.frames;exact⟨e1,l1,(qA A).trans f1,F1.keeps K1⟩
  ·rw[hdx'];exact (Heap.Ns.new hh (.type "dict")).keeps fun b o e=>Heap.get?_push_of_some _ e
 rw[←hx'];refine qg (f:=qZ) B (sound B 20).SS (ri _) Ej ⟨by have:=Rm.d;have:=wH;show A.depth+_+21<850;ext,by have:=Rm.u;have:=zg;show A.units+_+12*21<9800;ext⟩ N (.cons .self .nil) fun v s' p=>?_
 have r:=p.2.1;cases r;exact⟨rfl,k s' ⟨⟨p.1.act.base,(by obtain⟨e1,l1,f1,F1⟩:=p.1.act.frames;exact⟨e1,l1,(qA A).symm.trans f1,F1⟩),p.1.act.handled⟩,p.1.vars,p.1.self,p.1.tk⟩ ((dA.of_keeps K1).trans p.2.2.1) p.2.2.2⟩
end
end
noncomputable def mG:V→Bool
 | .list xs=>xs.all cH
 | .dict _=>false
 | _=>true
section
variable {c:Cx}{A:Around}{E:Value→Shared→Prop}{env:Env}{ρ Y Y':af}{s:Shared}{n:Nat}{y:V}
theorem sP{h h':Heap}{xs:List V}(q:xs.all cH=true){vs:List Value}(r:RepL c h vs xs):RepL c h' vs xs:=by
 induction xs generalizing vs with
 | nil=>obtain rfl:vs=[]:=r.inv;exact .nil
 | cons x xs ih=>
  refine ed (r.inv) fun v ws zz=>ee zz fun zq2 hv hr=>?_
  subst zq2;rw[List.all_cons,Bool.and_eq_true] at q;exact .cons (jt q.1 hv) (ih q.2 hr)
theorem ov{h h':Heap}{a:Addr}{v:Value}(hf:mG y=true)(r:bq c h v y)(k:jE a h h')(ha:∃ o,h.get? a=some o∧o.cls≠.type "list"):bq c h' v y:=by
 cases r with
 | none=>exact .none
 | bool b=>exact .bool b
 | int i t=>exact .int i t
 | str l t hl=>exact .str l t hl
 | list ho hc hd hn hb hr=>
  refine .list (k _ _ (fun q=>?_) ho) hc hd hn hb (sP hf hr);subst q;obtain⟨o,e,z⟩:=ha;rw[ho] at e;cases e;exact z hc
 | dict=>cases hf
 | amg e he=>exact .amg e he
 | self=>exact .self
 | gv=>exact .gv
 | addr a=>exact .addr a
 | bi id hh=>exact .bi id hh
 | ty n=>exact .ty n
theorem dE.but{h h':Heap}{a:Addr}(v:dE c h env ρ)(hf:∀ n V,look ρ n=some V→mG V=true)(k:jE a h h')(ha:∃ o,h.get? a=some o∧o.cls=.type "dict")(hL:env.locals≠a):dE c h' env ρ:=by
 refine ed (v.ns) fun m o zz=>pG zz fun hn ho hc hd hb hl=>?_
 refine⟨m,o,?_,k _ _ hL ho,hc,hd,hb,fun n V e=>?_⟩
 ·refine gy (hn) fun o' es ep zz=>And.elim (fun e r=>?_) zz
  exact⟨o',es,ep,k _ _ hL e,r⟩
 ·obtain⟨w,r,q⟩:=hl n V e;refine⟨w,ov (hf n V e) r k (by obtain⟨o2,e2,z2⟩:=ha;exact⟨o2,e2,by rw[z2];decide⟩),q.imp id fun ⟨q1,cl,oc,a1,b,d,f,g⟩=>⟨q1,cl,oc,a1,k _ _ (fun z=>?_) b,d,f,g⟩⟩;subst z;obtain⟨o2,e2,z2⟩:=ha;rw[b] at e2;cases e2;rw[d] at z2;exact absurd z2 (by decide)
theorem Iz{sc:Scope}{cl:af}{elt:Expr}{x:Str}{m:Nat}:∀ {xs:List V} {Y Y':af} {vs:List V},(ev m).L sc cl Y elt x xs=some (vs,Y')→vs.all cH=true:=by
 induction m with
 | zero=>exact fun h=>nn h
 | succ m ih=>
  intro xs Y Y' vs h
  induction xs using zL with
  | nil=>obtain⟨rfl,_⟩:=Prod.mk.inj (inj h);rfl
  | cons v rest=>
   dsimp only[ev] at h;refine ms h fun z sl he h=>oc h fun _ h=>ml h fun ys sl2 hL h=>?_
   obtain⟨rfl,_⟩:=Prod.mk.inj (inj h);rw[List.all_cons,ih hL];rfl
theorem uj{t:Str}{tp:Pos}{elt it:Expr}{x:Str}{px pos spos:Pos}{csc:Scope}{Y1:af}{xs vs:List V}{Q:Flow→Shared→Prop}(B:cv c)(H:∀ m≤n,d8 c m)
  (hsw:swapsWith (.ListComp elt [⟨.Name x px,it,[],0⟩] csc pos) (some (.Name t tp)) spos.line env=pure true) (hk:env.kindOf t=some .local) (hit:fj (ev n).E env.scope ρ Y it=some (xs,Y1)) (hok:dk env.scope ρ csc x=true) (hsim:ch Y1=true) (hlen:xs.length≤1048576)
  (hL:(ev n).L (cq env.scope csc) (cf csc ρ) Y1 elt x xs=some (vs,Y')) (hflat:∀ n V,look ρ n=some V→mG V=true) (F:aD c A env s) (R:bv n A) (N:bE c A env ρ Y s)
  (k:∀ s',PS c A env (put ρ t (.list vs)) Y' s s'→Q .next s'):wpAny c.M A (exec (.Assign [.Name t tp] (.ListComp elt [⟨.Name x px,it,[],0⟩] csc pos) spos) env) Q E s:=by
 have hok':=hok;unfold dk at hok';simp only[Bool.and_eq_true,beq_iff_eq] at hok';obtain⟨ok1,ok2,ok3⟩:=hok';have okp:∀ p∈csc.names,p.2≠.cell∧(p.2=.local→csc.names.lookup p.1=some .local)∧(p.2=.free→(env.scope.names.lookup p.1=some .cell∨env.scope.names.lookup p.1=some .free)∧(look ρ p.1).isSome=true):=fun p hp=>by
  have ok:=List.all_eq_true.mp ok3 p hp;simp only[Bool.and_eq_true,Bool.or_eq_true,Bool.not_eq_true',beq_iff_eq,beq_eq_false_iff_ne] at ok;exact⟨ok.1,fun z=>ok.2.1.resolve_left fun w=>w z,fun z=>ok.2.2.resolve_left fun w=>w z⟩
 have hcells:∀ nm,(nm,NameKind.free)∈csc.names→∃ a,env.cells.lookup nm=some a:=fun nm hm=>by
  obtain⟨kd,hs⟩:=(okp _ hm).2.2 rfl;obtain⟨V,hV⟩:=Option.isSome_iff_exists.mp hs;refine ed (N.vars.ns) fun m0 o0 zz=>pG zz fun _ _ _ _ _ hl0=>?_
  obtain⟨v',r',w⟩:=hl0 nm V hV;rcases w with ⟨w,_⟩ | ⟨_,a,oc,w,_⟩
  ·rcases kd with z | z<;>(rw[show env.scope.names.lookup nm=some .local from w] at z;cases z)
  ·exact⟨a,w⟩
 have cellNot:∀ z∈csc.names,z.2≠.cell:=fun z hz=>(okp z hz).1
 rw[exec_Assign_Name_used _ _ _ _ hsw];refine wpAny_bind (wpAny_standAt (wpAny_bind ?_));show wpAny _ A (do let _ ← comprehension (.ListComp elt [⟨.Name x px,it,[],0⟩] csc pos) csc env _ (newList []) false (eval it env) (some (assign (.Name t tp) env))) _ _ s;refine wpAny_bind (wpAny_mono (wpAny_comprehension_free (use:=some (assign (.Name t tp) env)) (cl:=kV env csc.names []) (Q:=fun _ s'=>Q .next s') rfl (gS hit env) (oN hcells) ok1 (fun z hz hl=>(okp z hz).2.1 hl) ?_) (fun _ s' hq=>wpAny_pure (wpAny_pure hq)) fun _ _ e=>e);refine qO B (H n (le_refl n)).E F.ok R N hit fun s1 s2 I fp P St pn K sm tk h12 W st=>?_
 refine wpAny_newObj_type (ki cellNot ?_);have hs2:(s2.heap.push { cls:=.type "list",data:=.seq ([]:List Value).toArray }).objs.size=s2.heap.objs.size+1:=Heap.size_push ..;have K3:jG s2.heap ((s2.heap.push { cls:=.type "list",data:=.seq ([]:List Value).toArray }).push { cls:=.type "dict",data:=.dict #[] }):=fun b o e=>Heap.get?_push_of_some _ (Heap.get?_push_of_some _ e)
 have st3:St 0 ((s2.heap.push { cls:=.type "list",data:=.seq ([]:List Value).toArray }).push { cls:=.type "dict",data:=.dict #[] }):=W.walks.frame _ _ _ st fun b _ o e=>K3 b o e
 have K13:jG s1.heap ((s2.heap.push { cls:=.type "list",data:=.seq ([]:List Value).toArray }).push { cls:=.type "dict",data:=.dict #[] }):=fun b o e=>K3 b o (K b o e)
 have init:ow c A s1 s2 s2.heap.objs.size (s2.heap.push { cls:=.type "list",data:=.seq ([]:List Value).toArray }).objs.size St 0 Y1 #[] [] { s2 with heap:=(s2.heap.push { cls:=.type "list",data:=.seq ([]:List Value).toArray }).push { cls:=.type "dict",data:=.dict #[] } }:=by
  refine⟨.of_keeps K13,pn.1.act.keeps K13,pn.1.self.keeps K13,hsim,st3,fun b o e _ _ _=>K3 b o e,⟨0,Heap.get?_push_of_some _ (eE _ rfl)⟩,fun _=>.nil,⟨_,_,_,_,Heap.Ns.new _ _,eE _ rfl,rfl,rfl⟩,sm.trans ⟨rfl,rfl⟩,tk,rfl⟩
 have go:=qo (px:=px) (pos:=pos) (it:=it) (R:=compPost c.M A E (some (assign (.Name t tp) env)) (fun _ s'=>Q .next s') (.ref s2.heap.objs.size) (s2.heap.push { cls:=.type "list",data:=.seq ([]:List Value).toArray }).objs.size) B H F.ok R pn.1 W rfl hok hlen (le_refl _) (by rw[hs2];exact Nat.le_succ _) (by rw[hs2];exact ne_of_lt (Nat.lt_succ_self _)) h12 (le_refl n) hL init
  (fun ys s' S h5 tk5 k5 htk=>?_)
 ·exact codeAny_compStart_list go (W.walks.self 0 _ _ _ st3 go)
 ·refine jI (S.cns) fun m o es ep zz=>pK zz fun nC gC cC dC=>?_
  generalize hCdef:(s2.heap.push { cls:=.type "list",data:=.seq ([]:List Value).toArray }).objs.size=C at*;have hC1:s1.heap.get? C=none:=Heap.get?_none_of_le (by rw[hs2];exact Nat.le_succ_of_le h12);have hCI:C≠I:=fun q=>by
   obtain⟨o,e⟩:=W.live I W.inI;have:=Heap.lt_size e;rw[←q,hs2] at this;exact absurd this (Nat.not_lt.mpr (Nat.le_succ _))
  have hDI:s2.heap.objs.size≠I:=fun q=>by
   obtain⟨o,e⟩:=W.live I W.inI;have:=Heap.lt_size e;rw[←q] at this;exact lt_irrefl _ this
  have xI:c.x≠I:=fun q=>by obtain⟨o,ho,_⟩:=pn.1.self.inst;rw[q,W.new] at ho;cases ho
  have dI:c.dx≠I:=fun q=>W.apart I W.inI q.symm
  have xlt:c.x<s1.heap.objs.size:=by obtain⟨o,ho,_⟩:=pn.1.self.inst;exact Heap.lt_size ho
  have dlt:=pn.1.self.dxLt;have F1:=F.on pn.ps;have Llt:env.locals<s1.heap.objs.size:=by obtain⟨o,ho,_⟩:=F1.cls;exact Heap.lt_size ho
  have CL:C≠env.locals:=ne_of_gt (by rw[hs2];exact Nat.lt_succ_of_lt (lt_of_lt_of_le Llt h12));have Cd:C≠c.dx:=ne_of_gt (by rw[hs2];exact Nat.lt_succ_of_lt (lt_of_lt_of_le dlt h12));have Cx:c.x≠C:=ne_of_lt (by rw[hs2];exact Nat.lt_succ_of_lt (lt_of_lt_of_le xlt h12));have ext5:dA (only c.dx) s1.heap h5:=ik S.ext k5 W.new;have act5:tx c A h5:=S.act.but pn.1.act k5 W.new;have self5:bS c h5 Y':=S.self.but S.simple k5 xI dI;have acc5:h5.PlainList s2.heap.objs.size ys:=S.acc.at fun o e=>k5 _ _ hDI e
  obtain⟨nn,e5⟩:=acc5;have N5:bE c A env ρ Y' { s' with heap:=h5,toks:=tk5 }:=⟨act5,pn.1.vars.ext ext5,self5,lt_of_lt_of_le S.tk htk⟩;have P5:PN c A env ρ Y' s { s' with heap:=h5,toks:=tk5 }:=⟨N5,pn.2.1.trans ext5,pn.2.2.trans S.same⟩;have r5:bq c h5 (.ref s2.heap.objs.size) (.list vs):=.list (vs:=ys.toList) (n:=nn) e5 rfl (by simp) (ne_of_gt (lt_of_lt_of_le dlt h12)) (by rw[EO hL];exact hlen) (S.reps _);show wpAny c.M A (assign (.Name t tp) env (.ref s2.heap.objs.size)) _ E _;refine wpAny_assign_Name (gI (F.on P5.ps) N5 hk r5 fun s6 p6=>?_);have gC5:=k5 _ _ hCI gC;have gC6:s6.heap.get? C=some o:=(p6.2.1 C o gC5 fun q=>q.elim Cd CL).1 (by rw[cC];decide);have nC6:s6.heap.Ns C m:=by
   refine gy (nC) fun o' es' ep' zz=>And.elim (fun e r=>?_) zz
   obtain rfl:=inj (gC.symm.trans e);exact⟨o,es',ep',gC6,r⟩
  refine⟨m,nC6,fun h7 hs7=>?_⟩;have k7:jE C s6.heap h7:=fun b o ne e=>(hs7.2 b ne).trans e
  have PS6:=P5.ps.trans p6;have flat':∀ nm V,look (put ρ t (.list vs)) nm=some V→mG V=true:=fun nm V e=>by
   rw[d9] at e;split at e
   ·cases e;exact Iz hL
   ·exact hflat nm V e
  refine k _ ⟨⟨PS6.1.act.but pn.1.act k7 hC1,PS6.1.vars.but flat' k7 ⟨o,gC6,cC⟩ CL.symm,PS6.1.self.but S.simple k7 Cx Cd.symm,PS6.1.tk⟩,?_,PS6.2.2⟩;have nS:s.heap.get? C=none:=pn.ps.fresh hC1
  let D:Addr→Prop:=fun b=>(b=c.dx∨b=env.locals)∨b=C
  have x1:dA D s.heap s6.heap:=PS6.2.1.mono fun _ _ _ q=>.inl q
  have x2:dA D s6.heap h7:=fun b o e nd=>by
   have:=k7 b o (fun q=>nd (.inr q)) e;exact⟨fun _=>this,fun _=>⟨o.slots,this⟩⟩
  refine (x1.trans x2).mono fun b o ho q=>?_
  rcases q with q | q
  ·exact q
  ·subst q;rw[nS] at ho;cases ho
end
section
set_option tactic.hygienic false
noncomputable def xz:Stmt→Expr
 | .Assign (t :: _) _ _=>t
 | _=>.Constant .none 0 default
noncomputable def bo:Stmt→Expr
 | .Assign _ v _=>v
 | .Return (some e) _=>e
 | _=>.Constant .none 0 default
noncomputable def Bh:Stmt→Pos
 | .Assign _ _ p=>p
 | .Return _ p=>p
 | _=>default
noncomputable def rh:Expr→Expr
 | .Call f _ _ _=>f
 | e=>e
noncomputable def uw:Expr→Expr
 | .Call _ (a :: _) _ _=>a
 | e=>e
noncomputable def CZ:Expr→Expr
 | .Attribute o _ _=>o
 | e=>e
noncomputable def g7:Expr→Expr
 | .Compare l _ _ _=>l
 | e=>e
noncomputable def Cu:Expr→Expr
 | .Compare _ _ (r :: _) _=>r
 | e=>e
noncomputable def mH:Expr→Expr
 | .ListComp e _ _ _=>e
 | e=>e
noncomputable def cI:Expr→Scope
 | .ListComp _ _ s _=>s
 | _=>default
noncomputable def FX:Expr→Expr
 | .ListComp _ (⟨_,i,_,_⟩ :: _) _ _=>i
 | e=>e
noncomputable def Fk:Expr→Expr
 | .ListComp _ (⟨t,_,_,_⟩ :: _) _ _=>t
 | e=>e
def aH(i:Nat):Stmt:=(br eH.st).getD i (.Pass default)
theorem yP:br eH.st=[aH 0,aH 1,aH 2,aH 3,aH 4,aH 5,aH 6]:=by rfl'
theorem HN:aH 0=.Assign [.Name "stemmer" (xz (aH 0)).pos] (.Call (.Name "PortugueseStemmer" (rh (bo (aH 0))).pos) [] [] (bo (aH 0)).pos) (Bh (aH 0)):=by rfl'
theorem uH:aH 1=.Assign [.Name "ends" (xz (aH 1)).pos] (.Call (.Name "_law_ends" (rh (bo (aH 1))).pos) [] [] (bo (aH 1)).pos) (Bh (aH 1)):=by rfl'
theorem Gv:aH 3=.Assign [.Name "due" (xz (aH 3)).pos] (.ListComp (mH (bo (aH 3))) [⟨.Name "word" (Fk (bo (aH 3))).pos,.Name "words" (FX (bo (aH 3))).pos,[],0⟩] (cI (bo (aH 3))) (bo (aH 3)).pos) (Bh (aH 3)):=by rfl'
theorem FD:aH 6=.Return (some (.Compare (.Call (.Attribute (.Call (.Name "PortugueseStemmer" (rh (CZ (rh (g7 (bo (aH 6)))))).pos) [] [] (CZ (rh (g7 (bo (aH 6))))).pos) "stemWord" (rh (g7 (bo (aH 6)))).pos) [uw (g7 (bo (aH 6)))] [] (g7 (bo (aH 6))).pos) [.Eq] [Cu (bo (aH 6))] (bo (aH 6)).pos)) (Bh (aH 6)):=by rfl'
def bf:Scope:=aJ eH.st
theorem vu(p:Params):gval (K p) "PortugueseStemmer"=some (.ref 888):=by rfl'
theorem AC:∀ ρ:af,dk bf ρ (cI (bo (aH 3))) "word"=true:=fun ρ=>by rfl'
theorem wT:(xz (aH 3)).pos.line=(bo (aH 3)).pos.line:=by rfl'
theorem yX:(cI (bo (aH 3))).names.any (fun x=>x.1==("due":Str)&&(x.2==.local||x.2==.cell))=false:=by rfl'
theorem CY:((rh (g7 (bo (aH 6)))).pos.endLine==(g7 (bo (aH 6))).pos.line)=true:=by rfl'
theorem xj:rY (uw (g7 (bo (aH 6))))=false:=by rfl'
theorem uz{id:Str}{p pos:Pos}{attr:Str}{env:Env}{t:Sem Value}(h:(id != "super")=true):attributeBase (.Call (.Name id p) [] [] pos) attr env t=t:=by
 unfold attributeBase;dsimp only;rw[h];simp
section
variable {c:Cx}{A:Around}{E:Value→Shared→Prop}{env:Env}{ρ Y Y':af}{s:Shared}{n:Nat}{y:V}
theorem aD.ofNow(O:bP env)(top:∃ l,A.frames=some (env :: l))(hf:env.frame=some env.locals)(N:bE c A env ρ Y s):aD c A env s:=by
 refine⟨O,top,hf,?_⟩;obtain⟨fe,l,hfr,hF⟩:=N.act.frames;obtain⟨l',hl'⟩:=top;obtain⟨rfl,rfl⟩:env=fe∧l'=l:=by rw[hl'] at hfr;cases hfr;exact⟨rfl,rfl⟩
 obtain⟨_,⟨L,o,es,n,a,b,d,e,g⟩,_⟩:=hF;rw[hf] at a;cases a;exact⟨o,d,e⟩
theorem C1{id:Str}{a:Addr}{v:Value}{v0:Option Value}{Q:Unit→Shared→Prop}(O:bP env)(N:bE c A env ρ Y s)(hk:env.kindOf id=some .cell)(hc:env.cells.lookup id=some a)(ha:ya s.heap a v0)(hap:∀ n b,env.cells.lookup n=some b→n≠id→b≠a)
  (hs:ch Y=true) (hf:∀ n V,look ρ n=some V→mG V=true) (hy:mG y=true) (r:bq c s.heap v y) (hB:c.hB.get? a=none)
  (k:∀ s',bE c A env (put ρ id y) Y s'→jE a s.heap s'.heap→ya s'.heap a (some v)→fq s s'→Q () s'):wpAny c.M A (storeName env id v) Q E s:=by
 refine Exists.elim (ha) fun o zz=>ee zz fun ho hoc hod=>?_
 unfold storeName;simp only[show env.kindOf id=some .cell from hk,O.kind];refine wpAny_bind (wpAny_cellOf hc ?_);unfold cellSet;refine wpAny_bind (wpAny_load ho ?_);rw[hod];have hsb:Heap.SameBut a s.heap (s.heap.update a fun o=>{ o with data:=.cell (some v) }):=Heap.SameBut.update ..;have kb:jE a s.heap (s.heap.update a fun o=>{ o with data:=.cell (some v) }):=fun b o ne e=>(hsb.2 b ne).trans e
 refine wpAny_update ho (k _ ?_ kb ⟨_,Heap.get?_update_self _ ho rfl,hoc,rfl⟩ ⟨rfl,rfl⟩);have na:∃ o,s.heap.get? a=some o∧o.cls≠.type "list":=⟨o,ho,by rw[hoc];decide⟩;have nx:c.x≠a:=fun q=>by
  refine Exists.elim (N.self.inst) fun o' zz=>ee zz fun ho' hc' _=>?_
  rw[q,ho] at ho';cases ho';rw[hoc] at hc';cases hc'
 have nd:c.dx≠a:=fun q=>by
  have:=N.self.dxDict o (q ▸ ho);rw[hoc] at this;exact absurd this (by decide)
 refine ed (N.act.frames) fun fe l zz=>And.elim (fun hfr hF=>?_) zz
 refine ed (N.vars.ns) fun m oL zz=>pG zz fun hn hL hLc hd hb hl=>?_
 have nL:env.locals≠a:=fun q=>by
  rw[q,ho] at hL;cases hL;rw[hoc] at hLc;rcases hLc with z | z<;>exact absurd z (by decide)
 refine⟨⟨fun b o' e=>kb _ _ (fun q=>by subst q;rw[hB] at e;cases e) (N.act.base b o' e),⟨fe,l,hfr,hF.but kb fun b hbm q=>?_⟩,N.act.handled⟩,⟨m,oL,?_,kb _ _ nL hL,hLc,hd,hb,fun nm V e=>?_⟩,N.self.but hs kb nx nd,N.tk⟩
 ·subst q;refine gy (hF.at b hbm) fun o' _ _ zz=>ee zz fun ho' hc' _=>?_
  rw[ho] at ho';cases ho';rw[hoc] at hc';exact absurd hc' (by decide)
 ·refine gy (hn) fun o' es ep zz=>And.elim (fun e r'=>?_) zz
  exact⟨o',es,ep,kb _ _ nL e,r'⟩
 ·rw[d9] at e;by_cases q:nm=id
  ·subst q;simp only[if_true] at e;cases e;exact⟨v,ov hy r kb na,.inr ⟨.inl hk,a,_,hc,Heap.get?_update_self _ ho rfl,hoc,rfl,Ne.symm nd⟩⟩
  ·simp only[if_neg q] at e;obtain⟨w,r',z⟩:=hl nm V e;exact⟨w,ov (hf nm V e) r' kb na,z.imp (fun q=>q) fun ⟨z1,cl,oc,z2,z3,z4,z5,z6⟩=>⟨z1,cl,oc,z2,kb _ _ (hap nm cl z2 q) z3,z4,z5,z6⟩⟩
end
noncomputable def ρ1(nums:List V):af:=[("script",.list nums),("stemmer",.self)]
noncomputable def ρ2(nums ends:List V):af:=[("script",.list nums),("stemmer",.self),("ends",.list ends)]
noncomputable def tm(nums ends words:List V):af:=[("script",.list nums),("stemmer",.self),("ends",.list ends),("words",.list words)]
noncomputable def CB(nums ends words due:List V):af:=[("script",.list nums),("stemmer",.self),("ends",.list ends),("words",.list words),("due",.list due)]
noncomputable def pM(words due:List V):af:=[("words",.list words),("due",.list due)]
structure uU(n:Nat)(nums ends words due:List V)(locA slfA locB slfB slfC slfD:af)(w0 d0:List Nat):Prop where
 f1:(ev n).E bf (ρ1 nums) Y0 (bo (aH 1))=some (.list ends,Y0)
 f2:(ev n).S bf (ρ2 nums ends) Y0 (aH 2)=some (Fl.next,tm nums ends words,Y0)
 f3i:fj (ev n).E bf (tm nums ends words) Y0 (.Name "words" (FX (bo (aH 3))).pos)=some (words,Y0)
 f3:(ev n).L (cq bf (cI (bo (aH 3)))) (cf (cI (bo (aH 3))) (tm nums ends words)) Y0 (mH (bo (aH 3))) "word" words=some (due,Y0)
 f4a:(ev n).S bf (CB nums ends words due) Y0 (aH 4)=some (Fl.next,locA,slfA)
 f4b:(ev n).S bf locA slfA (aH 5)=some (Fl.next,locB,slfB)
 b1:look locB "words"=some (.list words)
 b2:look locB "due"=some (.list due)
 f5:dl (ev n).E bf (pM words due) Y0 [uw (g7 (bo (aH 6)))]=some ([.str w0],Y0)
 f6:(ev n).C aW [.self,.str w0] Y0=some (.str d0,slfC)
 f7:(ev n).E bf (pM words due) slfC (Cu (bo (aH 6)))=some (.str d0,slfD)
 numsS:nums.all cH=true
 numsL:nums.length≤1048576
 endsS:ends.all cH=true
 wordsS:words.all cH=true
 wordsL:words.length≤1048576
 dueS:due.all cH=true
structure kg(w:World)(hB:Heap):Prop where
 k:(K w.params).In hB
 seer:hB.NoSeer
 nolimit:hB.NoLimit
 gv:∃ S n,hB.SetOf (PySem.strKind prog w) 230 S n∧n<scanBound∧∀ k:Nat,S ⟨#[k]⟩=ar k
theorem kg.base{w:World}{hB h:Heap}(B:kg w hB)(k:∀ b o,hB.get? b=some o→h.get? b=some o):cv ⟨w,hB,h.objs.size+1,h.objs.size⟩:=by
 refine⟨B.k,?_,B.seer,B.nolimit,B.gv⟩;show hB.get? h.objs.size=none;cases q:hB.get? h.objs.size with
 | none=>rfl
 | some o=>exact absurd (Heap.lt_size (k _ _ q)) (lt_irrefl _)
theorem A9{c c':Cx}{h h':Heap}{xs:List V}(q:xs.all cH=true){vs:List Value}(r:RepL c h vs xs):RepL c' h' vs xs:=by
 induction xs generalizing vs with
 | nil=>obtain rfl:vs=[]:=r.inv;exact .nil
 | cons x xs ih=>
  refine ed (r.inv) fun v ws zz=>ee zz fun zq2 hv hr=>?_
  subst zq2;rw[List.all_cons,Bool.and_eq_true] at q;exact .cons (jt q.1 hv) (ih q.2 hr)
theorem bp.cx{c c':Cx}(h0:c.hB=c'.hB){h:Heap}{l:List Env}:bp c h l→bp c' h l:=by
 induction l with
 | nil=>exact fun _=>trivial
 | cons env r ih=>
  intro F;refine jI (F.2.1) fun L o es n zz=>ee zz fun hf hb hr=>?_
  exact⟨F.1,⟨L,o,es,n,hf,h0 ▸ hb,hr⟩,ih F.2.2⟩
theorem I2{c:Cx}{A:Around}{E:Value→Shared→Prop}{env:Env}{ρ Y:af}{s:Shared}{n:Nat}{words due:List V}{slfC slfD:af}{w0 d0:List Nat}{Q:Flow→Shared→Prop}(B0:kg c.w c.hB)(hsc:env.scope=bf)(F:aD c A env s)(R:bv (n+61) A)(N:bE c A env ρ Y s)
  (b1:look ρ "words"=some (.list words)) (b2:look ρ "due"=some (.list due)) (wS:words.all cH=true) (dS:due.all cH=true)
  (f5:dl (ev n).E bf (pM words due) Y0 [uw (g7 (bo (aH 6)))]=some ([.str w0],Y0)) (f6:(ev n).C aW [.self,.str w0] Y0=some (.str d0,slfC)) (f7:(ev n).E bf (pM words due) slfC (Cu (bo (aH 6)))=some (.str d0,slfD))
  (k:∀ s',(∀ b o,c.hB.get? b=some o→s'.heap.get? b=some o)→fq s s'→Q (.ret (.bool true)) s'):wpAny c.M A (exec (aH 6) env) Q E s:=by
 have O:=F.ok;rw[FD];refine wpAny_Return_some ?_;refine wpAny_Compare1 ?_ (qj (by rfl') _);rw[arm_eval_Call,uz (by decide)]
 let c2:Cx:=⟨c.w,c.hB,s.heap.objs.size+1,s.heap.objs.size⟩
 have B2:cv c2:=B0.base N.act.base;have act2:tx c2 A s.heap:=⟨N.act.base,(by obtain⟨e1,l1,f1,F1⟩:=N.act.frames;exact⟨e1,l1,f1,bp.cx (c:=c) (c':=c2) rfl F1⟩),N.act.handled⟩;have vars2:dE c2 s.heap env (pM words due):=by
  refine ed (N.vars.ns) fun m o zz=>pG zz fun hn ho hc hd hb hl=>?_
  have lt:∀ {a o},s.heap.get? a=some o→a≠c2.dx:=fun e=>ne_of_lt (Heap.lt_size e)
  have one:∀ nm xs,look ρ nm=some (.list xs)→xs.all cH=true→∃ v,bq c2 s.heap v (.list xs)∧((env.kindOf nm=some .local∧m nm=some v)∨
   ((env.kindOf nm=some .cell∨env.kindOf nm=some .free)∧∃ cl o,env.cells.lookup nm=some cl∧s.heap.get? cl=some o∧o.cls=.type "cell" ∧ o.data=.cell (some v)∧cl≠c2.dx)):=fun nm xs e hs=>by
   obtain⟨v,r,q⟩:=hl nm _ e;refine jI (r.inv_list) fun a o' vs k' zz=>Pr zz fun zq4 ho' hc' hd' _ hb' hr'=>?_
   subst zq4;exact⟨.ref a,.list ho' hc' hd' (lt ho') hb' (A9 hs hr'),q.imp (fun q=>q) fun ⟨q1,cl,oc,a1,b,d,f,g⟩=>⟨q1,cl,oc,a1,b,d,f,lt b⟩⟩
  refine⟨m,o,hn,ho,hc,lt ho,hb,fun nm V e=>?_⟩;unfold pM look at e;split at e
  ·rename_i q;cases e;have q:Str.ofString "words"=nm:=q;subst q;exact one _ _ b1 wS
  ·unfold look at e;split at e
   ·rename_i q;cases e;have q:Str.ofString "due"=nm:=q;subst q;exact one _ _ b2 dS
   ·cases e
 have hk:env.kindOf "PortugueseStemmer"=some .globalImplicit:=by unfold Env.kindOf;rw[hsc];exact (by rfl')
 refine wpAny_bind (Call_Name0 (lI (c:=c2) B2 O act2 hk (by decide) (vu _) ?_));show wpAny c2.M A (callWith (CZ (rh (g7 (bo (aH 6))))).pos (.ref 888) [] (backTo (CZ (rh (g7 (bo (aH 6))))).pos (starEach [] env)) []) _ E s;refine callWith_K0 (act2.k B2) (vO _) (vm (c:=c2) B2 (R.less (by ext)) act2 vars2 N.tk rfl rfl fun s1 N1 x1 sm1=>?_);refine wpAny_bind (wpAny_standAt ?_);have H:=sound B2;have R':bv n A:=R.less (by ext);unfold methodCall;have few:methodCallForm ([uw (g7 (bo (aH 6)))].length+([]:List Keyword).length) (backTo (g7 (bo (aH 6))).pos (starEach [uw (g7 (bo (aH 6)))] env)) (backToKw (g7 (bo (aH 6))).pos (keywordEach [] env))=true:=by
  rw[nU xj];rfl
 rw[few];refine wpAny_bind (wpAny_holding ?_);have hm:bJ "stemWord"=some aW:=by rfl'
 refine sf B2 N1 hm (by rfl) ?_;refine wpAny_bind ?_;unfold methodCallPos;rw[CY];simp only[Bool.not_true,Bool.false_or,if_true];refine wpAny_pure ?_;have G:=(fZ c2.w.params _ (eG hm)).1;have mem:aW∈fns++meths.map (·.2):=List.mem_append_right _ (List.mem_map.mpr ⟨_,eG hm,rfl⟩);refine callWith_function (o:=vT aW) (fd:=u0 aW) (hY (c:=c2) (H n).E O R' (Y':=Y0) (ys:=[.str w0]) (by rw[hsc];exact f5) N1 fun ws s2 p2=>?_);refine⟨⟨p2.1.1.act.k B2 _ _ G.obj,rfl⟩,?_⟩;refine (H n).C A E env (pM words due) Y0 s2 _ aW _ _ (.str d0) slfC f6 mem R' p2.1.1 (.cons .self p2.2) fun r s3 p3=>?_
 refine (H n).E A E env (pM words due) slfC s3 _ _ (.str d0) slfD (by rw[hsc];exact f7) O R' p3.1 fun r2 s4 p4=>?_
 refine BG (c:=c2) (b:=true) (x:=.str d0) (y:=.str d0) B2 R' p4.1 (by show some (d0==d0)=_;rw[beq_self_eq_true]) (p3.rep2 p4) p4.2.1 fun s5 p5=>k s5 p5.1.act.base ((((sm1.trans p2.1.2.2).trans p3.2.2.2).trans p4.2.2.2).trans p5.2.2.2)
theorem Aw{w:World}{hB:Heap}(B0:kg w hB){A:Around}{s:Shared}{Rs:Result→Shared→Prop}{n:Nat}{a:Addr}{o:Obj}{vs:List Value}{m:Nat}{nums ends words due:List V}{locA slfA locB slfB slfC slfD:af}{w0 d0:List Nat}
  (L:uU n nums ends words due locA slfA locB slfB slfC slfD w0 d0) (hs:∀ b o,hB.get? b=some o→s.heap.get? b=some o) (tk:0<s.toks) (hh:A.handled=none) (hf:A.frames=some []) (R:bv (n+70) A)
  (ho:s.heap.get? a=some o) (hc:o.cls=.type "list") (hd:o.data=.seq vs.toArray m) (hr:∀ c h,RepL c h vs nums) (k:∀ s',(∀ b o,hB.get? b=some o→s'.heap.get? b=some o)→fq s s'→Rs (.ok (.ret (.bool true))) s'):codeAny (model prog w) A (.call (.ref 1033) ⟨[.ref a],[]⟩) Rs s:=by
 have G:=oW w.params eH (by unfold fns;simp);have C:=G.chk;unfold yB at C;simp only[Bool.and_eq_true,beq_iff_eq,Bool.not_eq_true',decide_eq_true_eq] at C;refine pK (C) fun ck cg cc cn=>?_
 have X:(K w.params).In s.heap:=B0.k.keeps hs;refine codeAny_call_function (fd:=u0 eH) (body:=br eH.st) ?_ (X _ _ G.obj) rfl cc cg rfl (codeRec_of X G.code) ?_
 ·have:=R.d;show A.depth<1000;ext
 rw[G.bind [.ref a] rfl];refine wpAny_pure (vE (scope:=aJ eH.st) ck (fun x hx=>?_) fun env he s₁ Ld=>?_)
 ·have:=List.all_eq_true.mp (G.cell (s.heap.objs.size+1)) x.1 (db hx);simp only[Bool.or_eq_true,beq_iff_eq,Bool.and_eq_true] at this;exact this
 refine⟨B0.nolimit.keeps fun b o e=>Ld.keep _ _ (hs b o e),codeAny_func ?_⟩;have hL:env.locals=s.heap.objs.size:=by rw[he];rfl
 have hsc:env.scope=bf:=by rw[he];rfl
 have hfr:env.frame=some env.locals:=by rw[he];rfl
 have O:bP env:=⟨by rw[hsc];exact ck,by rw[he];rfl,by rw[he];rfl⟩;have base1:∀ b o,hB.get? b=some o→s₁.heap.get? b=some o:=fun b o e=>Ld.keep _ _ (hs b o e)
 have hbL:hB.get? env.locals=none:=by
  cases e:hB.get? env.locals with
  | none=>rfl
  | some o=>have:=Heap.lt_size (hs _ _ e);rw[hL] at this;exact absurd this (lt_irrefl _)
 refine gy (Ld.obj) fun oL es ep zz=>ee zz fun hoL hocL hodL=>?_
 refine ed (Ld.same) fun h₁ tk1 zz=>And.elim (fun hs1 htk1=>?_) zz
 have tk1:0<s₁.toks:=by rw[hs1];exact lt_of_lt_of_le tk htk1
 obtain⟨c,hcw,hcB,hcx,hcd⟩:∃ c:Cx,c.w=w∧c.hB=hB∧c.x=s₁.heap.objs.size+1∧c.dx=s₁.heap.objs.size:=⟨⟨w,hB,s₁.heap.objs.size+1,s₁.heap.objs.size⟩,rfl,rfl,rfl,rfl⟩;have B:cv c:=by
  have:=B0.base base1;obtain⟨cw,cB,cx,cd⟩:=c;dsimp only at hcw hcB hcx hcd;subst hcw hcB hcx hcd;exact this
 subst hcw hcB;have H:=sound B;have R1:bv (n+65) (A.deeper env):=⟨by have:=R.d;show A.depth+1+(n+65)<850;ext,by have:=R.u;show A.units+3+12*(n+65)<9800;ext⟩;have Rn:bv n (A.deeper env):=R1.less (by ext);have top:∃ l,(A.deeper env).frames=some (env :: l):=⟨[],by show A.frames.map (env :: ·)=_;rw[hf];rfl⟩;have act:tx c (A.deeper env) s₁.heap:=⟨base1,⟨env,[],by show A.frames.map (env :: ·)=_;rw[hf];rfl,⟨⟨O,by rw[hsc];exact cg,by rw[hsc];exact cc⟩,⟨env.locals,oL,es,ep,hfr,hbL,hoL,hocL,hodL⟩,trivial⟩⟩,hh⟩;have Llt:env.locals<s₁.heap.objs.size:=Heap.lt_size hoL;have cellAt:∀ nm,(∀ k,((cellsFrom k bf.names []).lookup nm).isSome=true)→∃ b,env.cells.lookup nm=some b:=fun nm hq=>by
  obtain⟨b,hb⟩:=Option.isSome_iff_exists.mp (hq (s.heap.objs.size+1));exact⟨b,by rw[he];exact hb⟩
 obtain⟨as,has⟩:=cellAt "script" (fun k=>by rfl');obtain⟨ae,hae⟩:=cellAt "ends" (fun k=>by rfl');have kS:env.kindOf "script"=some .cell:=by unfold Env.kindOf;rw[hsc];exact (by rfl')
 have kE:env.kindOf "ends"=some .cell:=by unfold Env.kindOf;rw[hsc];exact (by rfl')
 have kT:env.kindOf "stemmer"=some .local:=by unfold Env.kindOf;rw[hsc];exact (by rfl')
 have kD:env.kindOf "due"=some .local:=by unfold Env.kindOf;rw[hsc];exact (by rfl')
 have kP:env.kindOf "PortugueseStemmer"=some .globalImplicit:=by unfold Env.kindOf;rw[hsc];exact (by rfl')
 have vars:dE c s₁.heap env [("script",.list nums)]:=by
  refine⟨_,oL,Ld.ns,hoL,.inl hocL,by rw[hcd];exact ne_of_lt Llt,hbL,fun nm V e=>?_⟩;unfold look at e;split at e
  ·rename_i q;cases e;have q:Str.ofString "script"=nm:=q;subst q;refine Exists.elim (Ld.cell _ as has) fun oc zz=>ee zz fun e1 e2 e3=>?_
   have bc:=pu (m:=fun _=>none) (v:=Value.ref a) (kindOf:=env.kindOf) kS (ps:=eH.ps) (vs:=[.ref a]) cn (.head _);rw[bc] at e3;exact⟨.ref a,.list (Ld.keep _ _ ho) hc hd (by rw[hcd];exact ne_of_lt (Heap.lt_size (Ld.keep _ _ ho))) L.numsL (hr _ _),.inr ⟨.inl kS,as,oc,has,e1,e2,e3,by rw[hcd];exact ne_of_lt (Heap.lt_size e1)⟩⟩
  ·cases e
 rw[yP];refine wpAny_execs_cons ?_;rw[HN];refine wpAny_Assign_Name (Call_Name0 (lI (c:=c) B O act kP (by decide) (vu _) ?_)) rfl;show wpAny c.M (A.deeper env) (callWith (bo (aH 0)).pos (.ref 888) [] (backTo (bo (aH 0)).pos (starEach [] env)) []) _ _ s₁;refine callWith_K0 (act.k B) (vO _) (vm (c:=c) B (R1.less (by ext)) act vars tk1 hcd hcx fun s2 N2 x2 sm2=>?_);refine gI (aD.ofNow O top hfr N2) N2 kT .self fun s3 p3=>?_
 have N3:bE c (A.deeper env) env (ρ1 nums) Y0 s3:=p3.1;have F3:=aD.ofNow O top hfr N3;refine wpAny_execs_cons ?_;obtain⟨tp,e1,sp,hS1,hv1,hq1⟩:∃ tp e sp,aH 1=.Assign [.Name "ends" tp] e sp∧bo (aH 1)=e∧fA e=false:=⟨_,_,_,uH,congrArg bo uH,rfl⟩;rw[hS1];have f1:=L.f1;rw[hv1,←hsc] at f1;refine wpAny_Assign_Name ((H n).E _ _ env (ρ1 nums) Y0 s3 _ e1 _ _ f1 O Rn N3 fun v4 s4 p4=>?_) (oV hq1 _ _);have lae:env.locals<ae:=Ld.above _ _ (mem_of_lookup hae);have cae:ya s₁.heap ae (bindC env.kindOf (eH.ps.zip [.ref a]) (fun _=>none) "ends"):=Ld.cell _ ae hae;refine Exists.elim (cae) fun oe zz=>ee zz fun ge gec ged=>?_
 have nae:ae≠c.dx:=by rw[hcd];exact ne_of_lt (Heap.lt_size ge)
 have g2:s2.heap.get? ae=some oe:=(x2 _ _ ge nae).1 (by rw[gec];decide);have g3:s3.heap.get? ae=some oe:=(p3.2.1 _ _ g2 fun q=>q.elim nae fun q=>absurd q (ne_of_gt lae)).1 (by rw[gec];decide);have g4:s4.heap.get? ae=some oe:=(p4.2.2.1 _ _ g3 nae).1 (by rw[gec];decide);have hBae:c.hB.get? ae=none:=by
  cases e:c.hB.get? ae with
  | none=>rfl
  | some o=>
   have:=Heap.lt_size (hs _ _ e);rw[←hL] at this;exact absurd (Nat.lt_trans this lae) (lt_irrefl _)
 have flat1:∀ nm V,look (ρ1 nums) nm=some V→mG V=true:=fun nm V e=>by
  have m:=fT e;simp only[ρ1,List.mem_cons,List.mem_nil_iff,or_false] at m;rcases m with m | m<;>cases m
  ·exact L.numsS
  ·rfl
 refine C1 O p4.1 kE hae ⟨oe,g4,gec,ged⟩ (fun nm b hb hn q=>hn (name_of_addr Ld.apart (mem_of_lookup hb) (q ▸ mem_of_lookup hae))) rfl flat1 (y:=.list ends) L.endsS p4.2.1 hBae fun s5 N5 _ _ sm5=>?_
 have N5:bE c (A.deeper env) env (ρ2 nums ends) Y0 s5:=N5;refine wpAny_execs_cons ?_;have f2:=L.f2;rw[←hsc] at f2;refine (H n).S _ _ env (ρ2 nums ends) Y0 s5 _ _ _ _ _ f2 (aD.ofNow O top hfr N5) Rn N5 (fun f s6 p6 fr=>?_) (fun x s' t=>by obtain⟨_,_,z,_⟩:=t;cases z);cases f<;>first | exact fr.elim | skip
 have N6:=p6.1;refine wpAny_execs_cons ?_;rw[Gv];have flat3:∀ nm V,look (tm nums ends words) nm=some V→mG V=true:=fun nm V e=>by
  have m:=fT e;simp only[tm,List.mem_cons,List.mem_nil_iff,or_false] at m;rcases m with m | m | m | m<;>cases m
  ·exact L.numsS
  ·rfl
  ·exact L.endsS
  ·exact L.wordsS
 have hsw:swapsWith (.ListComp (mH (bo (aH 3))) [⟨.Name "word" (Fk (bo (aH 3))).pos,.Name "words" (FX (bo (aH 3))).pos,[],0⟩] (cI (bo (aH 3))) (bo (aH 3)).pos) (some (.Name "due" (xz (aH 3)).pos)) (Bh (aH 3)).line env=pure true:=by
  show (pure (env.blockKind==.function&&env.kindOf "due" == some .local&&(xz (aH 3)).pos.line==(bo (aH 3)).pos.line&&!((cI (bo (aH 3))).names.any fun x=>x.1==("due":Str)&&(x.2==.local||x.2==.cell))):Sem Bool)=pure true;have bk:env.blockKind=.function:=by unfold Env.blockKind;rw[O.kind];rfl
  rw[bk,kD,wT,yX];rfl
 refine uj B (fun m _=>H m) hsw kD (by rw[hsc];exact L.f3i) (by rw[hsc];exact AC _) rfl L.wordsL (by rw[hsc];exact L.f3) flat3 (aD.ofNow O top hfr N6) Rn N6 fun s7 p7=>?_
 have N7:bE c (A.deeper env) env (CB nums ends words due) Y0 s7:=p7.1;refine wpAny_execs_cons ?_;have f4a:=L.f4a;rw[←hsc] at f4a;refine (H n).S _ _ env (CB nums ends words due) Y0 s7 _ _ _ _ _ f4a (aD.ofNow O top hfr N7) Rn N7 (fun f s8 p8 fr=>?_) (fun x s' t=>by obtain⟨_,_,z,_⟩:=t;cases z);cases f<;>first | exact fr.elim | skip
 refine wpAny_execs_cons ?_;have f4b:=L.f4b;rw[←hsc] at f4b;refine (H n).S _ _ env locA slfA s8 _ _ _ _ _ f4b (aD.ofNow O top hfr p8.1) Rn p8.1 (fun f s9 p9 fr=>?_) (fun x s' t=>by obtain⟨_,_,z,_⟩:=t;cases z);cases f<;>first | exact fr.elim | skip
 refine wpAny_execs_cons ?_;refine I2 (c:=c) ⟨B.k,B.seer,B.nolimit,B.gv⟩ hsc (aD.ofNow O top hfr p9.1) (R1.less (by ext)) p9.1 L.b1 L.b2 L.wordsS L.dueS L.f5 L.f6 L.f7 fun s10 hb10 sm10=>?_
 exact k s10 hb10 (((((((((fq.of Ld.same).trans sm2).trans p3.2.2).trans p4.2.2.2).trans sm5).trans p6.2.2).trans p7.2.2).trans p8.2.2).trans p9.2.2 |>.trans sm10)
end
end Mine.Internal
end
noncomputable section
open PySem PySem.W PyProof.Rows
set_option maxHeartbeats 2000000
namespace Mine.Internal.H
section
set_option tactic.hygienic false
noncomputable section
structure ST where
 tree:BT
 n:Nat
 toks:Nat
noncomputable def ST.ld(S:ST)(a:Addr):Option Obj:=match S.tree.get a with
 | some o=>alive o
 | none=>none
structure GW where
 s:∀ α:Type,Ctx→Pos→ST→Sem α→Option (Except Value α×Pos×ST)
 c:Ctx→Pos→ST→Sem Fin→Option (Result×ST)
noncomputable def both(den:Code→Sem Fin)(set:Setting):Nat→GW
 | 0=>⟨fun _ _ _ _ _=>none,fun _ _ _ _=>none⟩
 | n+1=>
  {s:=fun α Γ p S t=>match t with
    | .pure a=>some (.ok a,p,S)
    | .raise e=>some (.error e,p,S)
    | .rule _ k=>(both den set n).s α Γ p S (k ())
    | .at p' k=>(both den set n).s α Γ p' S (k ())
    | .load a _ k=>(ST.ld S a).bind fun o=>(both den set n).s α Γ p S (k o)
    | .update a _ f k=>(ST.ld S a).bind fun _=>(both den set n).s α Γ p { S with tree:=S.tree.set a f } (k ())
    | .loadIfAlive a k=>(ST.ld S a).bind fun o=>(both den set n).s α Γ p S (k (some o))
    | .point _ k=>(both den set n).s α Γ p S (k ())
    | .alloc o k=>bif ((S.tree.ins S.n o).get S.n).isSome then (both den set n).s α Γ p { S with tree:=S.tree.ins S.n o,n:=S.n+1 } (k S.n) else none
    | .fresh k=>(both den set n).s α Γ p { S with toks:=S.toks+1 } (k S.toks)
    | .ask k=>(both den set n).s α Γ p S (k set)
    | .call c h _ _ k=>((both den set n).c (Γ.enter c h p) p S (den c)).bind fun x=>(both den set n).s α Γ p x.2 (k x.1)
    | .handled own k=>(both den set n).s α Γ p S (k (if own then Γ.own else Γ.handled))
    | .stack k=>(both den set n).s α Γ p S (k ((Γ.code,p) :: Γ.below))
    | .thread k=>(both den set n).s α Γ p S (k 0)
    | _=>none
   c:=fun Γ p S t=>((both den set n).s Fin Γ p S t).bind fun x=>match x.1 with
    | .ok f=>match f with
     | .done f=>some (.ok f,x.2.2)
     | .again c=>bif c.quiet then (both den set n).c (Γ.goto c) x.2.1 x.2.2 (den c) else none
    | .error e=>some (.error e,x.2.2) }
noncomputable def upto(den:Code→Sem Fin)(set:Setting)(stop:Code→Bool)(α:Type)(Γ:Ctx):Nat→Pos→ST→Sem α→Option ((Code×Option Value×(Result→Sem α))×Pos×ST)
 | 0,_,_,_=>none
 | n+1,p,S,t=>match t with
    | .rule _ k=>upto den set stop α Γ n p S (k ())
    | .at p' k=>upto den set stop α Γ n p' S (k ())
    | .load a _ k=>(ST.ld S a).bind fun o=>upto den set stop α Γ n p S (k o)
    | .update a _ f k=>(ST.ld S a).bind fun _=>upto den set stop α Γ n p { S with tree:=S.tree.set a f } (k ())
    | .loadIfAlive a k=>(ST.ld S a).bind fun o=>upto den set stop α Γ n p S (k (some o))
    | .point _ k=>upto den set stop α Γ n p S (k ())
    | .alloc o k=>bif ((S.tree.ins S.n o).get S.n).isSome then upto den set stop α Γ n p { S with tree:=S.tree.ins S.n o,n:=S.n+1 } (k S.n) else none
    | .fresh k=>upto den set stop α Γ n p { S with toks:=S.toks+1 } (k S.toks)
    | .ask k=>upto den set stop α Γ n p S (k set)
    | .call c h _ _ k=>bif stop c then some ((c,h,k),p,S) else ((both den set n).c (Γ.enter c h p) p S (den c)).bind fun x=>upto den set stop α Γ n p x.2 (k x.1)
    | .handled own k=>upto den set stop α Γ n p S (k (if own then Γ.own else Γ.handled))
    | .stack k=>upto den set stop α Γ n p S (k ((Γ.code,p) :: Γ.below))
    | .thread k=>upto den set stop α Γ n p S (k 0)
    | _=>none
end
structure bG(w:World)(os:OsState)(x:Option (Addr×Obj))(S:ST)(s:Shared):Prop where
 size:s.heap.objs.size=S.n
 get:∀ a o,S.ld a=some o→s.heap.get? a=some o
 toks:s.toks=S.toks
 gens:s.gens = #[]
 drawn:s.drawn=boot_drawn
 os:s.os=os
 other:∀ a o,x=some (a,o)→a<S.n∧S.ld a=none∧s.heap.get? a=some o
section
variable {w:World}{os:OsState}{x:Option (Addr×Obj)}{S:ST}{s:Shared}
theorem lR{h:Heap}{a:Addr}{o:Obj}(e:h.objs[a]?=some o):h.get? a=alive o:=by
 unfold Heap.get?;rw[e];obtain⟨c,d,dt,sl⟩:=o;cases dt<;>rfl
theorem bG.fresh(D:bG w os x S s):bG w os x { S with toks:=S.toks+1 } { s with toks:=s.toks+1 }:=⟨D.size,D.get,by show s.toks+1=S.toks+1;rw[D.toks],D.gens,D.drawn,D.os,D.other⟩
theorem bG.alloc(D:bG w os x S s){o:Obj}(h:((S.tree.ins S.n o).get S.n).isSome=true):bG w os x { S with tree:=S.tree.ins S.n o,n:=S.n+1 } { s with heap:=s.heap.push o }:=by
 refine⟨?_,fun a o' e=>?_,D.toks,D.gens,D.drawn,D.os,fun a o' e=>?_⟩
 rotate_right
 ·obtain⟨h1,h2,h3⟩:=D.other a o' e;refine⟨Nat.lt_succ_of_lt h1,?_,Heap.get?_push_of_some _ h3⟩;unfold ST.ld at h2 ⊢;dsimp only;rw[BT.get_ins o _ _ h,if_neg (ne_of_lt h1)];exact h2
 ·show (s.heap.objs.push o).size=S.n+1;rw[Array.size_push,D.size]
 ·unfold ST.ld at e;dsimp only at e;rw[BT.get_ins o _ _ h] at e;by_cases q:a=S.n
  ·subst q;rw[if_pos rfl] at e;have:(s.heap.push o).objs[S.n]?=some o:=by
    show (s.heap.objs.push o)[S.n]?=some o;rw[←D.size,Array.getElem?_push_size]
   exact (lR this).trans e
  ·rw[if_neg q] at e;exact Heap.get?_push_of_some _ (D.get a o' e)
theorem bG.update(D:bG w os x S s){a:Addr}{o:Obj}{f:Obj→Obj}(h:S.ld a=some o):bG w os x { S with tree:=S.tree.set a f } { s with heap:=s.heap.update a f }:=by
 refine⟨?_,fun b o' e=>?_,D.toks,D.gens,D.drawn,D.os,fun b o' e=>?_⟩
 rotate_right
 ·obtain⟨h1,h2,h3⟩:=D.other b o' e;have q:b≠a:=fun q=>by subst q;rw[h2] at h;cases h
  refine⟨h1,?_,(Heap.get?_update_ne _ _ _ _ q).trans h3⟩;unfold ST.ld at h2 ⊢;dsimp only;rw[BT.get_set,if_neg q];exact h2
 ·show (s.heap.objs.modify a f).size=S.n;rw[Array.size_modify,D.size]
 ·unfold ST.ld at e;dsimp only at e;rw[BT.get_set] at e;by_cases q:b=a
  ·subst q;rw[if_pos rfl] at e;have g:=D.get b o h;unfold ST.ld at h;cases ht:S.tree.get b with
   | none=>rw[ht] at h;cases h
   | some o₁=>
    rw[ht] at h e;have h:alive o₁=some o:=h;have e:alive (f o₁)=some o':=e;obtain⟨o₂,e₂⟩:∃ o₂,s.heap.objs[b]?=some o₂:=by
     cases hx:s.heap.objs[b]? with
     | none=>unfold Heap.get? at g;rw[hx] at g;cases g
     | some o₂=>exact⟨o₂,rfl⟩
    have q₂:alive o₂=some o:=(lR e₂).symm.trans g;have al:∀ {x y:Obj},alive x=some y→x=y:=fun {x y} hxy=>by
     obtain⟨c,d,dt,sl⟩:=x;cases dt<;>cases hxy<;>rfl
    have hh:o₁=o₂:=(al h).trans (al q₂).symm;have:(s.heap.update b f).objs[b]?=some (f o₂):=by
     show (s.heap.objs.modify b f)[b]?=_;rw[Array.getElem?_modify,if_pos rfl,e₂];rfl
    rw[lR this,←hh];exact e
  ·rw[if_neg q] at e;exact (Heap.get?_update_ne _ _ _ _ q).trans (D.get b o' e)
end
section
variable {w:World}{os:OsState}{ox:Option (Addr×Obj)}{den:Code→Sem Fin}{pr:Program}
def rk(w:World)(os:OsState)(ox:Option (Addr×Obj))(M:Model)(b:GW):Prop:=∀ (α:Type) (Γ:Ctx) (p:Pos) (S:ST) (t:Sem α) (r:Except Value α) (p':Pos) (S':ST),b.s α Γ p S t=some (r,p',S')→
 ∀ s,bG w os ox S s→∀ (Q:α→Pos→Shared→Prop) (E:Value→Pos→Shared→Prop),(∀ s',bG w os ox S' s'→match r with | .ok a=>Q a p' s' | .error e=>E e p' s')→Sem.wp M Γ t Q E p s
def rd(w:World)(os:OsState)(ox:Option (Addr×Obj))(M:Model)(b:GW):Prop:=∀ (Γ:Ctx) (p:Pos) (S:ST) (t:Sem Fin) (r:Result) (S':ST),b.c Γ p S t=some (r,S')→
 ∀ s,bG w os ox S s→∀ (R:Result→Shared→Prop),(∀ s',bG w os ox S' s'→R r s')→Sem.wp M Γ t (Sem.finPost M Γ R) (fun e _ s'=>R (.error e) s') p s
theorem fV(n:Nat):rk w os ox ⟨den,pr,w⟩ (both den ⟨pr,w.params⟩ n)∧rd w os ox ⟨den,pr,w⟩ (both den ⟨pr,w.params⟩ n):=by
 induction n with
 | zero=>exact⟨fun _ _ _ _ _ _ _ _ h=>nn h,fun _ _ _ _ _ _ h=>nn h⟩
 | succ n ih=>
  obtain⟨ihs,ihc⟩:=ih;constructor
  ·intro α Γ p S t r p' S' h s D Q E k;have ihs:=fun t p S h s D=>ihs α Γ p S t r p' S' h s D Q E k
   induction t using Sem.casesOn with
   | pure a=>cases h;exact k s D
   | raise e=>cases h;exact k s D
   | load a pt kk=>exact ob h fun o e h=>⟨o,D.get a o e,ihs _ _ _ h s D⟩
   | update a pt f kk=>exact ob h fun o e h=>⟨by rw[D.get a o e];rfl,ihs _ _ _ h _ (D.update e)⟩
   | loadIfAlive a kk=>
    refine ob h fun o e h=>?_
    show Sem.wp _ Γ (kk (s.heap.get? a)) Q E p s;rw[D.get a o e];exact ihs _ _ _ h s D
   | alloc o kk=>
    refine oc h fun e h=>?_
    show Sem.wp _ Γ (kk s.heap.objs.size) Q E p _;rw[D.size];exact ihs _ _ _ h _ (D.alloc e)
   | fresh kk=>
    show Sem.wp _ Γ (kk s.toks) Q E p _;rw[D.toks];have D':=D.fresh;rw[D.toks] at D';exact ihs _ _ _ h _ D'
   | call c hd g l kk=>exact ob h fun x e h=>(wpCode_iff_wp _ _ _ _ _).mpr (ihc _ _ _ _ _ _ e s D _ fun s' D'=>ihs _ _ _ h s' D')
   | _=>first | exact ihs _ _ _ h s D | exact nn h
  ·intro Γ p S t r S' h s D R k;refine ob h fun x e h=>ihs _ _ _ _ _ _ _ _ e s D _ _ fun s' D'=>?_
   obtain⟨r',p',S₁⟩:=x
   induction r' using Except.casesOn with
   | error e=>cases h;exact k s' D'
   | ok f=>
    induction f using PySem.Fin.casesOn with
    | done f=>cases h;exact k s' D'
    | again c=>exact oc h fun q h=>⟨q,(wpCode_iff_wp _ _ _ _ _).mpr (ihc _ _ _ _ _ _ h s' D' R k)⟩
theorem uY{stop:Code→Bool}{α:Type}{Γ:Ctx}{Q:α→Pos→Shared→Prop}{E:Value→Pos→Shared→Prop}(n:Nat):∀ (p:Pos) (S:ST) (t:Sem α) (c:Code) (hd:Option Value) (k:Result→Sem α) (p':Pos) (S':ST),
  upto den ⟨pr,w.params⟩ stop α Γ n p S t=some ((c,hd,k),p',S')→∀ s,bG w os ox S s→
  (∀ s',bG w os ox S' s'→wpCode ⟨den,pr,w⟩ (Γ.enter c hd p') (fun r s''=>Sem.wp ⟨den,pr,w⟩ Γ (k r) Q E p' s'') p' s')→Sem.wp ⟨den,pr,w⟩ Γ t Q E p s:=by
 induction n with
 | zero=>exact fun _ _ _ _ _ _ _ _ h=>nn h
 | succ n ih=>
  intro p S t c hd k p' S' h s D K;have ihc:=(fV (w:=w) (os:=os) (ox:=ox) (den:=den) (pr:=pr) n).2;have ihs:=fun t p S h s D=>ih p S t c hd k p' S' h s D K
  clear ih
  induction t using Sem.casesOn with
   | load a pt kk=>exact ob h fun o e h=>⟨o,D.get a o e,ihs _ _ _ h s D⟩
   | update a pt f kk=>exact ob h fun o e h=>⟨by rw[D.get a o e];rfl,ihs _ _ _ h _ (D.update e)⟩
   | loadIfAlive a kk=>
    refine ob h fun o e h=>?_
    show Sem.wp _ Γ (kk (s.heap.get? a)) Q E p s;rw[D.get a o e];exact ihs _ _ _ h s D
   | alloc o kk=>
    refine oc h fun e h=>?_
    show Sem.wp _ Γ (kk s.heap.objs.size) Q E p _;rw[D.size];exact ihs _ _ _ h _ (D.alloc e)
   | fresh kk=>
    show Sem.wp _ Γ (kk s.toks) Q E p _;rw[D.toks];have D':=D.fresh;rw[D.toks] at D';exact ihs _ _ _ h _ D'
   | call c' hd' g l kk=>
    have h:(bif stop c' then some ((c',hd',kk),p,S) else ((both den ⟨pr,w.params⟩ n).c (Γ.enter c' hd' p) p S (den c')).bind fun x=>upto den ⟨pr,w.params⟩ stop α Γ n p x.2 (kk x.1))=_:=h;cases q:stop c' with
    | true=>rw[q] at h;cases h;exact K s D
    | false=>
     rw[q] at h;exact ob h fun x e h=>(wpCode_iff_wp _ _ _ _ _).mpr (ihc _ _ _ _ _ _ e s D _ fun s' D'=>ihs _ _ _ h s' D')
   | _=>first | exact ihs _ _ _ h s D | exact nn h
end
end
section
variable (p:Params)(g:Obj)
noncomputable section
noncomputable abbrev nd:=BT.node
noncomputable abbrev lf(o:Obj):BT:=.node o .nil .nil
noncomputable abbrev lD(p:Params)(e:aF):BT:=lf (aR p e)
noncomputable abbrev lO(d:Addr):BT:=lf (aY d)
noncomputable abbrev u:Obj:=⟨.none,none,.freed,#[]⟩
def T0:=nd (boot_o_0 p) (nd (boot_o_1 p) (nd (boot_o_3 p) (lf (boot_o_7 p)) .nil) (nd (ry p) (lf (boot_o_9 p)) .nil)) (nd (boot_o_2 p) (nd (qY p) (lf (boot_o_8 p)) .nil) (nd (sd p) (lf (boot_o_10 p)) .nil))
def S0(p:Params):ST:=⟨T0 p,11,181⟩
noncomputable def dF(p:Params):Obj:=⟨(.type "code"),none,.fields #[(.str "<module>" 182),(.str "<module>" 183),(.str "/claim/cut.py" 184),(.int 1 0),(.int 0 0),(.int 0 0),(.int 0 0),(.int 0 0),(.ref 11),(.bool false),(.int 181 0),(.ref 12),.none,.none,.none,.none,(.int 185 0),(.int 1 0),(.str "/claim/cut.py" 186)],#[]⟩
noncomputable def Ct(p:Params):Obj:=⟨.none,none,.fields #[],#[]⟩
noncomputable def dv(p:Params):Obj:=⟨(.type "frame"),none,.plain,#[some (.ref 13),some (.ref 3),some (.ref 3),none,some (.str "__main__" 164),none,some (.ref 0)]⟩
def j0:BT:=lf u
def T1:=nd (boot_o_0 p) (nd (boot_o_1 p) (nd (boot_o_3 p) (lf (boot_o_7 p)) j0) (nd (ry p) (lf (boot_o_9 p)) (lf (dF p)))) (nd (boot_o_2 p) (nd (qY p) (lf (boot_o_8 p)) (lf (Ct p))) (nd (sd p) (lf (boot_o_10 p)) (lf (dv p))))
def S1(p:Params):ST:=⟨T1 p,15,187⟩
noncomputable def dB(p:Params):Obj:=⟨(.type "tuple"),none,.seq #[(.ref 197)] 0,#[]⟩
noncomputable def yd(p:Params):Obj:=⟨.none,none,.fields #[],#[]⟩
noncomputable def fz:Obj:=⟨(.type "dict"),none,.dict #[en p "__name__" 165 (.str "snowballstemmer.portuguese_stemmer" 471),en p "__doc__" 166 .none,en p "__package__" 167 .none,en p "__loader__" 168 (.builtin "__main__.__loader__#opaque"),en p "__spec__" 169 .none,en p "__annotations__" 170 (.ref 6),en p "__builtins__" 171 (.ref 4),en p "__file__" 173 (.str "/claim/cut.py" 172),en p "__cached__" 174 .none,en p "_wall" 193 (.ref 21),en p "BaseStemmer" 435 (.ref 197),en p "Among" 470 (.ref 218)] 12,#[]⟩
noncomputable def Bb:Obj:=⟨(.type "dict"),none,.dict #[en p "__module__" 480 (.str "snowballstemmer.portuguese_stemmer" 471),en p "__qualname__" 482 (.str "PortugueseStemmer" 481),en p "__firstlineno__" 484 (.int 210 483)] 3,#[]⟩
noncomputable def eT(p:Params):Obj:=⟨(.type "type"),none,.cls { name:="BaseStemmer",bases:=[(.type "object")],mro:=[(.ref 197),(.type "object")],ns:=196,qualname:="BaseStemmer",subclasses:=[] },#[none,none,some (.str "BaseStemmer" 196),some (.str "BaseStemmer" 204),some (.builtin "object.__new__"),some (.bool true)]⟩
noncomputable def d7(p:Params):Obj:=⟨(.type "frame"),none,.plain,#[some (.ref 228),some (.ref 3),some (.ref 225),none,some (.str "snowballstemmer.portuguese_stemmer" 471),none,some (.ref 0)]⟩
noncomputable def cV(p:Params):Obj:=⟨(.type "code"),none,.fields #[(.str "PortugueseStemmer" 475),(.str "PortugueseStemmer" 476),(.str "/claim/cut.py" 477),(.int 210 0),(.int 0 0),(.int 0 0),(.int 0 0),(.int 0 0),(.ref 226),(.bool false),(.int 181 0),(.ref 227),.none,.none,.none,.none,(.int 478 0),(.int 210 0),(.str "/claim/cut.py" 479)],#[]⟩
noncomputable def dV(p:Params):Obj:=⟨.none,none,.fields #[(.int 1 0),(.int 0 0),(.ref 20),(.int 5 0),(.int 0 0),(.ref 27),(.int 203 0),(.int 0 0),(.ref 207),(.int 210 0),(.int 0 0),(.ref 228)],#[]⟩
noncomputable def ea(p:Params):Obj:=⟨(.type "tuple"),none,.seq #[] 0,#[]⟩
def j1:BT:=nd u j0 j0
def j2:BT:=nd u j0 .nil
def j3:=nd (fz p) (nd (boot_o_7 p) (nd u (nd u (nd (oG p) j0 j0) (nd u j0 (lf (dB p)))) (nd u j1 (nd (gw p) (lf (jb p)) .nil))) (nd u (nd u j1 (nd u (lf (kc p)) .nil)) (nd (nk p) (nd u j0 (lf (ky p))) (nd (gP p) j0 .nil)))) (nd u (nd u (nd (ng p) j1 (nd u j0 (lf (yd p)))) (nd u (nd (m8 p) (lf (gK p)) j0) j2)) (nd u (nd u (nd u (lf (jd p)) j0) j2) (nd u (nd (nb p) j0 j0) j2)))
def j4:=nd u (nd (lU p) j1 (nd (fK p) j0 .nil)) (nd u (nd u (lf (gX p)) (lf (g5 p))) j2)
def j5:=nd (dF p) (nd (nl p) (nd u (nd (oz p) (lf (iV p)) (lf (eT p))) (nd u j0 (lf (d7 p)))) (nd u j1 (nd u (lf (iL p)) .nil))) (nd u (nd u (nd (pE p) j0 j0) j2) (nd u j1 (nd (gJ p) (lf (kK p)) .nil)))
def j6:=nd (qY p) (nd (boot_o_8 p) (nd u (nd u j1 (nd u (lf (ja p)) j0)) (nd (m7 p) j1 (nd (gs p) j0 .nil))) (nd u (nd u j1 (nd (gV p) (lf (iU p)) .nil)) (nd (nc p) j1 j2))) (nd (dV p) (nd (nh p) (nd u (nd u (lf (g6 p)) (lf (iP p))) (nd u j0 (lf (cV p)))) (nd u (nd (m9 p) j0 j0) j2)) (nd u (nd u (nd (pg p) (lf (iM p)) j0) j2) (nd u j1 (nd u (lf (iN p)) .nil))))
def j7:=nd (boot_o_10 p) (nd u (nd (mU p) (nd u j0 (lf (iR p))) (nd (pv p) j0 (lf (ea p)))) (nd u (nd u (lf (jf p)) j0) j2)) (nd u (nd (m6 p) j1 j2) (nd u (nd (nr p) (lf (iZ p)) (lf (gU p))) j2))
def j8:=nd u (nd u j0 (lf (gR p))) (nd (gT p) (lf (kh p)) .nil)
def j9:=nd u (nd u j1 (nd u (lf (gH p)) .nil)) (nd (mW p) j1 (nd (g9 p) j0 .nil))
def T6:=nd (boot_o_0 p) (nd (boot_o_1 p) (j3 p) (nd (ry p) (nd (boot_o_9 p) (nd u (nd u (nd u j0 (lf (gW p))) (nd (jq p) (lf (iO p)) (lf (Bb p)))) (nd (md p) j1 j2)) (j4 p)) (j5 p))) (nd (boot_o_2 p) (j6 p) (nd (sd p) (j7 p) (nd (dv p) (nd u (nd u (nd (nq p) j0 j0) j2) (j8 p)) (j9 p))))
def S6(p:Params):ST:=⟨T6 p,230,485⟩
noncomputable def zl:Obj:=⟨(.type "dict"),none,.dict #[en p "__module__" 480 (.str "snowballstemmer.portuguese_stemmer" 471),en p "__qualname__" 482 (.str "PortugueseStemmer" 481),en p "__firstlineno__" 484 (.int 210 483),en p "g_v" 511 (.ref 230)] 4,#[]⟩
def T7:=nd (boot_o_0 p) (nd (boot_o_1 p) (j3 p) (nd (ry p) (nd (boot_o_9 p) (nd u (nd u (nd u j0 (lf (gW p))) (nd (jq p) (lf (iO p)) (lf (zl p)))) (nd (md p) j1 j2)) (j4 p)) (j5 p))) (nd (boot_o_2 p) (j6 p) (nd (sd p) (j7 p) (nd (dv p) (nd u (nd u (nd (nq p) j0 j0) (nd u j0 (lf g))) (j8 p)) (j9 p))))
def S7(p:Params)(g:Obj):ST:=⟨T7 p g,231,512⟩
noncomputable def dy(p:Params):Obj:=⟨.none,none,.fields #[(.int 216 0),(.int 4 0),(.ref 236),(.int 238 0),(.int 4 0),(.ref 243),(.int 317 0),(.int 4 0),(.ref 250),(.int 339 0),(.int 4 0),(.ref 257),(.int 342 0),(.int 4 0),(.ref 264),(.int 345 0),(.int 4 0),(.ref 271),(.int 455 0),(.int 4 0),(.ref 278),(.int 469 0),(.int 4 0),(.ref 285),(.int 479 0),(.int 4 0),(.ref 292),(.int 523 0),(.int 4 0),(.ref 299)],#[]⟩
noncomputable def wI:Obj:=⟨(.type "dict"),none,.dict #[en p "__module__" 480 (.str "snowballstemmer.portuguese_stemmer" 471),en p "__qualname__" 482 (.str "PortugueseStemmer" 481),en p "__firstlineno__" 484 (.int 210 483),en p "g_v" 511 (.ref 230),en p "I_p2" 513 (.int 0 512),en p "I_p1" 515 (.int 0 514),en p "I_pV" 517 (.int 0 516),en p "r_prelude" 526 (.ref 237),en p "r_mark_regions" 538 (.ref 244),en p "r_postlude" 547 (.ref 251),en p "r_RV" 554 (.ref 258),en p "r_R2" 561 (.ref 265),en p "r_standard_suffix" 573 (.ref 272),en p "r_verb_suffix" 581 (.ref 279),en p "r_residual_suffix" 588 (.ref 286),en p "r_residual_form" 599 (.ref 293),en p "_stem" 615 (.ref 300)] 17,#[]⟩
def wC:BT:=nd u j2 j0
def Sr:=nd u (nd (kc p) j0 .nil) j0
def R9:=nd u (nd u (lf (mr p)) .nil) j0
def SE:=nd u (nd u (lf (pz p)) .nil) (lf (d7 p))
def SJ:=nd (gV p) (nd (iU p) j0 .nil) j0
def SB:=nd u (nd u (lf (ph p)) .nil) (lf (cV p))
def Sn:=nd u (nd u (lf (qD p)) .nil) (lf (jX p))
def RN:=nd (pv p) j2 (lf (ea p))
def Rx:=nd (boot_o_0 p) (nd (boot_o_1 p) (nd (fz p) (nd (boot_o_7 p) (nd u (nd u (nd (oG p) j2 j0) (nd u j2 (lf (dB p)))) (nd u (nd u (nd u (lf (mq p)) .nil) j0) (nd (gw p) (lf (jb p)) j0))) (nd u (nd u wC (Sr p)) (nd (nk p) (nd u (nd u (lf (oh p)) .nil) (lf (ky p))) (nd (gP p) j0 j0)))) (nd u (nd u (nd (ng p) wC (nd u j2 (lf (dy p)))) (nd u (nd (m8 p) (nd (gK p) j0 .nil) j0) (nd u j0 (lf (je p))))) (nd u (nd u (nd u (nd (jd p) j0 .nil) j0) (R9 p)) (nd u (nd (nb p) j2 j0) (nd u j0 (lf (jN p))))))) (nd (ry p) (nd (boot_o_9 p) (nd u (nd u (nd u (nd u (lf (me p)) .nil) (lf (gW p))) (nd (jq p) (nd (iO p) j0 .nil) (lf (wI p)))) (nd (md p) wC j1)) (nd u (nd (lU p) (nd u (nd u (lf (mh p)) .nil) j0) (nd (fK p) j2 j0)) (nd u (nd u (nd (gX p) j0 .nil) (lf (g5 p))) j1))) (nd (dF p) (nd (nl p) (nd u (nd (oz p) (nd (iV p) j0 .nil) (lf (eT p))) (SE p)) (nd u wC (nd u (lf (iL p)) j0))) (nd u (nd u (nd (pE p) j2 j0) (nd u j0 (lf (jc p)))) (nd u (nd u (nd u (lf (ot p)) .nil) j0) (nd (gJ p) (lf (kK p)) j0)))))) (nd (boot_o_2 p) (nd (qY p) (nd (boot_o_8 p) (nd u (nd u wC (nd u (nd (ja p) j0 .nil) j0)) (nd (m7 p) (nd u (nd u (lf (mL p)) .nil) j0) (nd (gs p) j0 j0))) (nd u (nd u (nd u (nd u (lf (mu p)) .nil) j0) (SJ p)) (nd (nc p) wC j1))) (nd (dV p) (nd (nh p) (nd u (nd u (nd (g6 p) j0 .nil) (lf (iP p))) (SB p)) (nd u (nd (m9 p) j2 j0) (nd u j0 (lf (kF p))))) (nd u (nd u (nd (pg p) (nd (iM p) j0 .nil) j0) (Sn p)) (nd u wC (nd u (lf (iN p)) j0))))) (nd (sd p) (nd (boot_o_10 p) (nd u (nd (mU p) (nd u (nd u (lf (mM p)) .nil) (lf (iR p))) (RN p)) (nd u (nd u (nd (jf p) j0 .nil) j0) j1)) (nd u (nd (m6 p) wC wC) (nd u (nd (nr p) (nd (iZ p) j0 .nil) (lf (gU p))) (nd u j0 (lf (mj p)))))) (nd (dv p) (nd u (nd u (nd (nq p) j2 j0) (nd u j2 (lf g))) (nd u (nd u (nd u (lf (mF p)) .nil) (lf (gR p))) (nd (gT p) (lf (kh p)) j0))) (nd u (nd u wC (nd u (lf (gH p)) j0)) (nd (mW p) (nd u (nd u (lf (my p)) .nil) j0) (nd (g9 p) j0 j0))))))
def QE(p:Params)(g:Obj):ST:=⟨Rx p g,301,616⟩
noncomputable def qw:Obj:=⟨(.type "dict"),none,.dict #[en p "__module__" 480 (.str "snowballstemmer.portuguese_stemmer" 471),en p "__qualname__" 482 (.str "PortugueseStemmer" 481),en p "__firstlineno__" 484 (.int 210 483),en p "g_v" 511 (.ref 230),en p "I_p2" 513 (.int 0 512),en p "I_p1" 515 (.int 0 514),en p "I_pV" 517 (.int 0 516),en p "r_prelude" 526 (.ref 237),en p "r_mark_regions" 538 (.ref 244),en p "r_postlude" 547 (.ref 251),en p "r_RV" 554 (.ref 258),en p "r_R2" 561 (.ref 265),en p "r_standard_suffix" 573 (.ref 272),en p "r_verb_suffix" 581 (.ref 279),en p "r_residual_suffix" 588 (.ref 286),en p "r_residual_form" 599 (.ref 293),en p "_stem" 615 (.ref 300),en p "a_0" 656 (.ref 310),en p "a_1" 697 (.ref 320),en p "a_2" 757 (.ref 333),en p "a_3" 800 (.ref 343),en p "a_4" 843 (.ref 353)] 22,#[]⟩
def Sj:=nd (dB p) (lO 350) .nil
def Rk:=nd (ky p) (lf (pd p)) .nil
def SD:=nd (gW p) (lD p am6) .nil
def SP:=nd (qw p) (lf (oE p)) .nil
def Sw:=nd (eT p) (lO 324) .nil
def RD:=nd (kK p) (lD p am5) .nil
def RB:=nd (iP p) (lD p am7) .nil
def Se:=nd (kh p) (lf (pf p)) .nil
def Q5:=nd (boot_o_0 p) (nd (boot_o_1 p) (nd (fz p) (nd (boot_o_7 p) (nd u (nd u (nd (oG p) j2 j2) (nd u j2 (Sj p))) (nd u (nd u (nd u (lf (mq p)) .nil) (nd u (lO 334) .nil)) (nd (gw p) (nd (jb p) j0 .nil) j0))) (nd u (nd u (nd u j2 (nd u (lD p am8) .nil)) (Sr p)) (nd (nk p) (nd u (nd u (lf (oh p)) .nil) (Rk p)) (nd (gP p) (nd u (lD p am3) .nil) j0)))) (nd u (nd u (nd (ng p) (nd u j2 j2) (nd u j2 (lf (dy p)))) (nd u (nd (m8 p) (nd (gK p) j0 .nil) j2) (nd u (nd u (lD p am2) .nil) (lf (je p))))) (nd u (nd u (nd u (nd (jd p) j0 .nil) (nd u (lO 330) .nil)) (R9 p)) (nd u (nd (nb p) j2 (nd u (lD p am14) .nil)) (nd u (nd u (lO 314) .nil) (lf (jN p))))))) (nd (ry p) (nd (boot_o_9 p) (nd u (nd u (nd u (nd u (lf (me p)) .nil) (SD p)) (nd (jq p) (nd (iO p) j0 .nil) (SP p))) (nd (md p) (nd u j2 (nd u (lD p am11) .nil)) (nd u (nd u (lO 304) .nil) j0))) (nd u (nd (lU p) (nd u (nd u (lf (mh p)) .nil) j2) (nd (fK p) j2 j0)) (nd u (nd u (nd (gX p) j0 .nil) (nd (g5 p) (lO 344) .nil)) wC))) (nd (dF p) (nd (nl p) (nd u (nd (oz p) (nd (iV p) j0 .nil) (Sw p)) (SE p)) (nd u (nd u j2 (nd u (lO 340) .nil)) (nd u (nd (iL p) j0 .nil) j0))) (nd u (nd u (nd (pE p) j2 (nd u (lf (mS p)) .nil)) (nd u (nd u (lD p am0) .nil) (lf (jc p)))) (nd u (nd u (nd u (lf (ot p)) .nil) j2) (nd (gJ p) (RD p) j0)))))) (nd (boot_o_2 p) (nd (qY p) (nd (boot_o_8 p) (nd u (nd u (nd u j2 (nd u (lf (mf p)) .nil)) (nd u (nd (ja p) j0 .nil) j2)) (nd (m7 p) (nd u (nd u (lf (mL p)) .nil) j2) (nd (gs p) (nd u (lD p am1) .nil) j0))) (nd u (nd u (nd u (nd u (lf (mu p)) .nil) (nd u (lO 327) .nil)) (SJ p)) (nd (nc p) (nd u j2 (nd u (lD p am13) .nil)) (nd u (nd u (lO 311) .nil) j0)))) (nd (dV p) (nd (nh p) (nd u (nd u (nd (g6 p) j0 .nil) (RB p)) (SB p)) (nd u (nd (m9 p) j2 (nd u (lD p am12) .nil)) (nd u (nd u (lO 307) .nil) (lf (kF p))))) (nd u (nd u (nd (pg p) (nd (iM p) j0 .nil) j2) (Sn p)) (nd u (nd u j2 (nd u (lO 347) .nil)) (nd u (nd (iN p) j0 .nil) j0))))) (nd (sd p) (nd (boot_o_10 p) (nd u (nd (mU p) (nd u (nd u (lf (mM p)) .nil) (nd (iR p) (lO 321) .nil)) (RN p)) (nd u (nd u (nd (jf p) j0 .nil) (nd u (lO 337) .nil)) wC)) (nd u (nd (m6 p) (nd u j2 (nd u (lD p am9) .nil)) wC) (nd u (nd (nr p) (nd (iZ p) j0 .nil) (nd (gU p) j0 .nil)) (nd u (nd u (lD p am4) .nil) (lf (mj p)))))) (nd (dv p) (nd u (nd u (nd (nq p) j2 j2) (nd u j2 (lf g))) (nd u (nd u (nd u (lf (mF p)) .nil) (nd (gR p) j0 .nil)) (nd (gT p) (Se p) j0))) (nd u (nd u (nd u j2 (nd u (lD p am10) .nil)) (nd u (nd (gH p) (lO 301) .nil) j0)) (nd (mW p) (nd u (nd u (lf (my p)) .nil) (nd u (lD p am15) .nil)) (nd (g9 p) (nd u (lO 317) .nil) j0))))))
def Jf(p:Params)(g:Obj):ST:=⟨Q5 p g,354,844⟩
noncomputable def iq:Obj:=⟨(.type "dict"),none,.dict #[en p "__module__" 480 (.str "snowballstemmer.portuguese_stemmer" 471),en p "__qualname__" 482 (.str "PortugueseStemmer" 481),en p "__firstlineno__" 484 (.int 210 483),en p "g_v" 511 (.ref 230),en p "I_p2" 513 (.int 0 512),en p "I_p1" 515 (.int 0 514),en p "I_pV" 517 (.int 0 516),en p "r_prelude" 526 (.ref 237),en p "r_mark_regions" 538 (.ref 244),en p "r_postlude" 547 (.ref 251),en p "r_RV" 554 (.ref 258),en p "r_R2" 561 (.ref 265),en p "r_standard_suffix" 573 (.ref 272),en p "r_verb_suffix" 581 (.ref 279),en p "r_residual_suffix" 588 (.ref 286),en p "r_residual_form" 599 (.ref 293),en p "_stem" 615 (.ref 300),en p "a_0" 656 (.ref 310),en p "a_1" 697 (.ref 320),en p "a_2" 757 (.ref 333),en p "a_3" 800 (.ref 343),en p "a_4" 843 (.ref 353),en p "a_5" 1473 (.ref 489)] 23,#[]⟩
def RE:=nd u (lf (mq p)) (lD p am31)
def RS:BT:=nd u (lO 334) (lO 462)
def Ss:=nd (ky p) (lf (pd p)) (lD p am55)
def Rw:=nd (dy p) (lO 354) (lD p am59)
def Sb:=nd (fz p) (nd (boot_o_7 p) (nd u (nd u (nd (oG p) j1 (nd u j0 (lD p am47))) (nd u (nd u j0 (lO 414)) (nd (dB p) (lO 350) j0))) (nd u (nd u (RE p) RS) (nd (gw p) (nd (jb p) j0 j0) (nd u (lO 366) .nil)))) (nd u (nd u (nd u (nd u j0 (lO 390)) (nd u (lD p am8) j0)) (nd u (nd (kc p) j0 (lD p am39)) (nd u j0 (lO 486)))) (nd (nk p) (nd u (nd u (lf (oh p)) j0) (Ss p)) (nd (gP p) (nd u (lD p am3) (lO 438)) (nd u (lD p am23) .nil))))) (nd u (nd u (nd (ng p) (nd u (nd u j0 (lD p am27)) (nd u j0 (lO 450))) (nd u j1 (Rw p))) (nd u (nd (m8 p) (nd (gK p) j0 (lO 402)) j1) (nd u (nd u (lD p am2) (lD p am43)) (nd (je p) j0 .nil)))) (nd u (nd u (nd u (nd (jd p) j0 j0) (nd u (lO 330) (lD p am51))) (nd u (nd u (lf (mr p)) (lO 426)) (nd u (lD p am19) .nil))) (nd u (nd (nb p) (nd u j0 (lD p am35)) (nd u (lD p am14) (lO 474))) (nd u (nd u (lO 314) j0) (nd (jN p) (lO 378) .nil)))))
def RF:=nd u (lf (me p)) (lO 384)
def RW:=nd u (RF p) (nd (gW p) (lD p am6) j0)
def PT:=nd (iO p) j0 (lD p am37)
def Rg:=nd (iq p) (lf (oE p)) (lO 480)
def SR:=nd u (lD p am11) (lD p am53)
def Rq:=nd (md p) (nd u j1 (SR p)) (nd u (nd u (lO 304) (lO 432)) (nd u (lD p am21) .nil))
def SI:=nd u (lf (mh p)) (lD p am29)
def Sf:=nd u (SI p) (nd u j0 (lO 456))
def SK:=nd u (lO 360) (lf (qE p))
def Ri:=nd u (nd u (nd (gX p) j0 (lO 408)) (nd (g5 p) (lO 344) j0)) (nd u (nd u j0 (lD p am45)) j2)
def Sl:=nd u (lf (pz p)) (lO 420)
def Sz:=nd (d7 p) (lD p am17) j0
def SN:BT:=nd u (lO 340) (lO 468)
def R7:=nd (dF p) (nd (nl p) (nd u (nd (oz p) (nd (iV p) j0 j0) (nd (eT p) (lO 324) (lD p am49))) (nd u (Sl p) (Sz p))) (nd u (nd u (nd u j0 (lD p am33)) SN) (nd u (nd (iL p) j0 j0) (nd u (lO 372) .nil)))) (nd u (nd u (nd (pE p) (nd u j0 (lO 396)) (nd u (lf (mS p)) j0)) (nd u (nd u (lD p am0) (lD p am41)) (nd (jc p) j0 .nil))) (nd u (nd u (nd u (lf (ot p)) j0) (nd u j0 (lD p am57))) (nd (gJ p) (nd (kK p) (lD p am5) (lO 444)) (nd u (lD p am25) .nil))))
def Rf:=nd u (lf (mL p)) (lO 399)
def Rh:=nd u (lf (ph p)) (lD p am38)
def Sy:=nd u (lD p am12) (lD p am54)
def Rj:=nd (kF p) (lD p am22) .nil
def RZ:=nd (ea p) (lD p am16) j0
def Su:BT:=nd u (lO 337) (lO 465)
def RH:=nd (mj p) (lD p am24) .nil
def Ro:=nd u (lf (mF p)) (lO 405)
def RC:=nd u (lD p am10) (lD p am52)
def Sh:=nd u (lf (my p)) (lD p am36)
def RP:=nd (boot_o_2 p) (nd (qY p) (nd (boot_o_8 p) (nd u (nd u (nd u (nd u j0 (lD p am26)) (nd u (lf (mf p)) (lO 447))) (nd u (nd (ja p) j0 j0) (nd u j0 (lD p am58)))) (nd (m7 p) (nd u (Rf p) j1) (nd (gs p) (nd u (lD p am1) (lD p am42)) j2))) (nd u (nd u (nd u (nd u (lf (mu p)) j0) (nd u (lO 327) (lD p am50))) (nd (gV p) (nd (iU p) j0 (lO 423)) (nd u (lD p am18) j0))) (nd (nc p) (nd u (nd u j0 (lD p am34)) (nd u (lD p am13) (lO 471))) (nd u (nd u (lO 311) j0) (nd u (lO 375) .nil))))) (nd (dV p) (nd (nh p) (nd u (nd u (nd (g6 p) j0 (lO 387)) (nd (iP p) (lD p am7) j0)) (nd u (Rh p) (nd (cV p) j0 (lO 483)))) (nd u (nd (m9 p) j1 (Sy p)) (nd u (nd u (lO 307) (lO 435)) (Rj p)))) (nd u (nd u (nd (pg p) (nd (iM p) j0 (lD p am30)) (nd u j0 (lO 459))) (nd u (nd u (lf (qD p)) j0) (nd (jX p) (lO 363) .nil))) (nd u (nd u (nd u j0 (lO 411)) (nd u (lO 347) j0)) (nd u (nd (iN p) j0 (lD p am46)) j2))))) (nd (sd p) (nd (boot_o_10 p) (nd u (nd (mU p) (nd u (nd u (lf (mM p)) j0) (nd (iR p) (lO 321) (lD p am48))) (nd (pv p) (nd u j0 (lO 417)) (RZ p))) (nd u (nd u (nd (jf p) j0 (lD p am32)) Su) (nd u j1 (nd u (lO 369) .nil)))) (nd u (nd (m6 p) (nd u (nd u j0 (lO 393)) (nd u (lD p am9) j0)) (nd u (nd u j0 (lD p am40)) j2)) (nd u (nd (nr p) (nd (iZ p) j0 j0) (nd (gU p) j0 (lD p am56))) (nd u (nd u (lD p am4) (lO 441)) (RH p))))) (nd (dv p) (nd u (nd u (nd (nq p) (nd u j0 (lD p am28)) (nd u j0 (lO 453))) (nd u j1 (nd g (lO 357) (lD p am60)))) (nd u (nd u (Ro p) (nd (gR p) j0 j0)) (nd (gT p) (nd (kh p) (lf (pf p)) (lD p am44)) j2))) (nd u (nd u (nd u j1 (RC p)) (nd u (nd (gH p) (lO 301) (lO 429)) (nd u (lD p am20) .nil))) (nd (mW p) (nd u (Sh p) (nd u (lD p am15) (lO 477))) (nd (g9 p) (nd u (lO 317) j0) (nd u (lO 381) .nil))))))
def P8:=nd (boot_o_0 p) (nd (boot_o_1 p) (Sb p) (nd (ry p) (nd (boot_o_9 p) (nd u (nd u (RW p) (nd (jq p) (PT p) (Rg p))) (Rq p)) (nd u (nd (lU p) (Sf p) (nd (fK p) j1 (SK p))) (Ri p))) (R7 p))) (RP p g)
def Fy(p:Params)(g:Obj):ST:=⟨P8 p g,490,1474⟩
def yD:=nd (boot_o_0 p) (nd (boot_o_1 p) (nd (fz p) (nd (boot_o_7 p) (nd u (nd u (nd (oG p) j1 j2) (nd u (nd u j0 (lO 414)) (Sj p))) (nd u (nd u (RE p) (nd u (lO 334) .nil)) (nd (gw p) (nd (jb p) j0 .nil) (nd u (lO 366) .nil)))) (nd u (nd u (nd u (nd u j0 (lO 390)) (nd u (lD p am8) .nil)) (nd u (nd (kc p) j0 .nil) j2)) (nd (nk p) (nd u (nd u (lf (oh p)) j0) (Rk p)) (nd (gP p) (nd u (lD p am3) .nil) (nd u (lD p am23) .nil))))) (nd u (nd u (nd (ng p) (nd u (nd u j0 (lD p am27)) j2) (nd u j1 (nd (dy p) (lO 354) .nil))) (nd u (nd (m8 p) (nd (gK p) j0 (lO 402)) j2) (nd u (nd u (lD p am2) .nil) (nd (je p) j0 .nil)))) (nd u (nd u (nd u (nd (jd p) j0 j0) (nd u (lO 330) .nil)) (nd u (nd u (lf (mr p)) .nil) (nd u (lD p am19) .nil))) (nd u (nd (nb p) (nd u j0 (lD p am35)) (nd u (lD p am14) .nil)) (nd u (nd u (lO 314) .nil) (nd (jN p) (lO 378) .nil)))))) (nd (ry p) (nd (boot_o_9 p) (nd u (nd u (nd u (RF p) (SD p)) (nd (jq p) (PT p) (SP p))) (nd (md p) (nd u j1 (nd u (lD p am11) .nil)) (nd u (nd u (lO 304) .nil) (nd u (lD p am21) .nil)))) (nd u (nd (lU p) (nd u (SI p) j2) (nd (fK p) j2 (nd u (lO 360) .nil))) (nd u (nd u (nd (gX p) j0 (lO 408)) (nd (g5 p) (lO 344) .nil)) (nd u j2 j2)))) (nd (dF p) (nd (nl p) (nd u (nd (oz p) (nd (iV p) j0 j0) (Sw p)) (nd u (Sl p) (nd (d7 p) (lD p am17) .nil))) (nd u (nd u (nd u j0 (lD p am33)) (nd u (lO 340) .nil)) (nd u (nd (iL p) j0 .nil) (nd u (lO 372) .nil)))) (nd u (nd u (nd (pE p) (nd u j0 (lO 396)) (nd u (lf (mS p)) .nil)) (nd u (nd u (lD p am0) .nil) (nd (jc p) j0 .nil))) (nd u (nd u (nd u (lf (ot p)) j0) j2) (nd (gJ p) (RD p) (nd u (lD p am25) .nil))))))) (nd (boot_o_2 p) (nd (qY p) (nd (boot_o_8 p) (nd u (nd u (nd u (nd u j0 (lD p am26)) (nd u (lf (mf p)) .nil)) (nd u (nd (ja p) j0 j0) j2)) (nd (m7 p) (nd u (Rf p) j2) (nd (gs p) (nd u (lD p am1) .nil) j2))) (nd u (nd u (nd u (nd u (lf (mu p)) j0) (nd u (lO 327) .nil)) (nd (gV p) (nd (iU p) j0 .nil) (nd u (lD p am18) .nil))) (nd (nc p) (nd u (nd u j0 (lD p am34)) (nd u (lD p am13) .nil)) (nd u (nd u (lO 311) .nil) (nd u (lO 375) .nil))))) (nd (dV p) (nd (nh p) (nd u (nd u (nd (g6 p) j0 (lO 387)) (RB p)) (nd u (Rh p) (nd (cV p) j0 .nil))) (nd u (nd (m9 p) j1 (nd u (lD p am12) .nil)) (nd u (nd u (lO 307) .nil) (Rj p)))) (nd u (nd u (nd (pg p) (nd (iM p) j0 (lD p am30)) j2) (nd u (nd u (lf (qD p)) .nil) (nd (jX p) (lO 363) .nil))) (nd u (nd u (nd u j0 (lO 411)) (nd u (lO 347) .nil)) (nd u (nd (iN p) j0 .nil) j2))))) (nd (sd p) (nd (boot_o_10 p) (nd u (nd (mU p) (nd u (nd u (lf (mM p)) j0) (nd (iR p) (lO 321) .nil)) (nd (pv p) (nd u j0 (lO 417)) (nd (ea p) (lD p am16) .nil))) (nd u (nd u (nd (jf p) j0 (lD p am32)) (nd u (lO 337) .nil)) (nd u j2 (nd u (lO 369) .nil)))) (nd u (nd (m6 p) (nd u (nd u j0 (lO 393)) (nd u (lD p am9) .nil)) (nd u j2 j2)) (nd u (nd (nr p) (nd (iZ p) j0 j0) (nd (gU p) j0 .nil)) (nd u (nd u (lD p am4) .nil) (RH p))))) (nd (dv p) (nd u (nd u (nd (nq p) (nd u j0 (lD p am28)) j2) (nd u j1 (nd g (lO 357) .nil))) (nd u (nd u (Ro p) (nd (gR p) j0 .nil)) (nd (gT p) (Se p) j2))) (nd u (nd u (nd u j1 (nd u (lD p am10) .nil)) (nd u (nd (gH p) (lO 301) .nil) (nd u (lD p am20) .nil))) (nd (mW p) (nd u (Sh p) (nd u (lD p am15) .nil)) (nd (g9 p) (nd u (lO 317) .nil) (nd u (lO 381) .nil)))))))
def uo(p:Params)(g:Obj):ST:=⟨yD p g,423,1165⟩
def A6:=nd (boot_o_0 p) (nd (boot_o_1 p) (Sb p) (nd (ry p) (nd (boot_o_9 p) (nd u (nd u (RW p) (nd (jq p) (PT p) (nd (qw p) (lf (oE p)) (lO 480)))) (Rq p)) (nd u (nd (lU p) (Sf p) (nd (fK p) j1 (nd u (lO 360) .nil))) (Ri p))) (R7 p))) (RP p g)
def uv(p:Params)(g:Obj):ST:=⟨A6 p g,489,1473⟩
def SM:=nd u (nd u (lO 574) .nil) (lD p am47)
def Sv:=nd (jb p) (nd u (lD p am84) .nil) j0
def Rd:=nd (kc p) (nd u (lO 550) .nil) (lD p am39)
def Q7:=nd (oh p) (lD p am76) .nil
def SA:=nd u (nd (aR p am3) j0 .nil) (lO 438)
def QG:=nd (aR p am2) (lO 562) .nil
def RQ:=nd u (nd (mr p) j0 .nil) (lO 426)
def Qa:=nd (aY 314) (lD p am88) .nil
def Qd:=nd (aR p am6) (lD p am90) .nil
def Q2:BT:=nd (aY 304) j0 .nil
def RU:=nd u (nd u (lD p am82) .nil) j0
def RL:=nd u (nd u (lO 568) .nil) (lD p am45)
def Sq:BT:=nd (aY 324) (lO 580) .nil
def Ra:=nd (eT p) Sq (lD p am49)
def Sg:=nd u (nd (pz p) j0 .nil) (lO 420)
def Sd:=nd (iL p) (nd u (lD p am86) .nil) j0
def QO:=nd (aR p am0) (lO 556) .nil
def Ql:=nd (ot p) (lD p am78) .nil
def RM:=nd (kK p) (nd (aR p am5) j0 .nil) (lO 444)
def R4:=nd u (nd (mf p) j0 .nil) (lO 447)
def Q3:=nd (aR p am1) (lO 559) .nil
def Qy:=nd (mu p) (lD p am71) .nil
def Qq:=nd (aY 311) (lD p am87) .nil
def QV:=nd (aR p am7) (lD p am91) .nil
def R5:=nd u (nd (ph p) (lO 547) .nil) (lD p am38)
def Qb:BT:=nd (aY 307) j0 .nil
def QL:=nd (qD p) (lD p am83) .nil
def SU:=nd (iN p) (nd u (lO 571) .nil) (lD p am46)
def Qk:=nd (mM p) (lD p am69) .nil
def Sp:BT:=nd (aY 321) (lO 577) .nil
def RX:=nd (iR p) Sp (lD p am48)
def Sc:=nd u (nd u (lD p am85) .nil) j0
def RJ:=nd u (nd u (lO 553) .nil) (lD p am40)
def R8:=nd u (nd (aR p am4) j0 .nil) (lO 441)
def Rv:=nd u (nd u (lD p am81) .nil) j0
def RT:=nd (kh p) (nd (pf p) (lO 565) .nil) (lD p am44)
def QM:BT:=nd (aY 301) j0 .nil
def PX:=nd (aY 317) (lD p am89) .nil
def BW:=nd (boot_o_0 p) (nd (boot_o_1 p) (nd (fz p) (nd (boot_o_7 p) (nd u (nd u (nd (oG p) (nd u (nd u (lD p am68) .nil) j0) (SM p)) (nd u (nd u j2 (lO 414)) (nd (dB p) (lO 350) j0))) (nd u (nd u (nd u (nd (mq p) (lO 526) .nil) (lD p am31)) RS) (nd (gw p) (Sv p) (nd u (lO 366) j0)))) (nd u (nd u (nd u (nd u j2 (lO 390)) (nd u (lD p am8) j0)) (nd u (Rd p) (nd u j0 (lO 486)))) (nd (nk p) (nd u (nd u (Q7 p) j0) (Ss p)) (nd (gP p) (SA p) (nd u (lD p am23) (lO 502)))))) (nd u (nd u (nd (ng p) (nd u (nd u (nd u (lO 514) .nil) (lD p am27)) (nd u j2 (lO 450))) (nd u (nd u (nd u (lD p am80) .nil) j0) (Rw p))) (nd u (nd (m8 p) (nd (gK p) j2 (lO 402)) j1) (nd u (nd u (QG p) (lD p am43)) (nd (je p) j0 (lD p am64))))) (nd u (nd u (nd u (nd (jd p) (nd u (lD p am72) .nil) j0) (nd u (lO 330) (lD p am51))) (nd u (RQ p) (nd u (lD p am19) (lO 490)))) (nd u (nd (nb p) (nd u (nd u (lO 538) .nil) (lD p am35)) (nd u (lD p am14) (lO 474))) (nd u (nd u (Qa p) j0) (nd (jN p) (lO 378) j0)))))) (nd (ry p) (nd (boot_o_9 p) (nd u (nd u (nd u (nd u (nd (me p) j0 .nil) (lO 384)) (nd (gW p) (Qd p) j0)) (nd (jq p) (nd (iO p) (nd u (lO 544) .nil) (lD p am37)) (Rg p))) (nd (md p) (nd u (nd u (nd u (lD p am74) .nil) j0) (SR p)) (nd u (nd u Q2 (lO 432)) (nd u (lD p am21) (lO 496))))) (nd u (nd (lU p) (nd u (nd u (nd (mh p) (lO 520) .nil) (lD p am29)) (nd u j0 (lO 456))) (nd (fK p) (RU p) (SK p))) (nd u (nd u (nd (gX p) j2 (lO 408)) (nd (g5 p) (lO 344) j0)) (nd u (RL p) (nd u j0 (lD p am66)))))) (nd (dF p) (nd (nl p) (nd u (nd (oz p) (nd (iV p) (nd u (lD p am70) .nil) j0) (Ra p)) (nd u (Sg p) (Sz p))) (nd u (nd u (nd u (nd u (lO 532) .nil) (lD p am33)) SN) (nd u (Sd p) (nd u (lO 372) j0)))) (nd u (nd u (nd (pE p) (nd u j2 (lO 396)) (nd u (lf (mS p)) j0)) (nd u (nd u (QO p) (lD p am41)) (nd (jc p) j0 (lD p am62)))) (nd u (nd u (nd u (Ql p) j0) (nd u j0 (lD p am57))) (nd (gJ p) (RM p) (nd u (lD p am25) (lO 508)))))))) (nd (boot_o_2 p) (nd (qY p) (nd (boot_o_8 p) (nd u (nd u (nd u (nd u (nd u (lO 511) .nil) (lD p am26)) (R4 p)) (nd u (nd (ja p) (nd u (lD p am79) .nil) j0) (nd u j0 (lD p am58)))) (nd (m7 p) (nd u (nd u (nd (mL p) j0 .nil) (lO 399)) j1) (nd (gs p) (nd u (Q3 p) (lD p am42)) (nd u j0 (lD p am63))))) (nd u (nd u (nd u (nd u (Qy p) j0) (nd u (lO 327) (lD p am50))) (nd (gV p) (nd (iU p) j2 (lO 423)) (nd u (lD p am18) j0))) (nd (nc p) (nd u (nd u (nd u (lO 535) .nil) (lD p am34)) (nd u (lD p am13) (lO 471))) (nd u (nd u (Qq p) j0) (nd u (lO 375) j0))))) (nd (dV p) (nd (nh p) (nd u (nd u (nd (g6 p) j2 (lO 387)) (nd (iP p) (QV p) j0)) (nd u (R5 p) (nd (cV p) j0 (lO 483)))) (nd u (nd (m9 p) (nd u (nd u (lD p am75) .nil) j0) (Sy p)) (nd u (nd u Qb (lO 435)) (nd (kF p) (lD p am22) (lO 499))))) (nd u (nd u (nd (pg p) (nd (iM p) (nd u (lO 523) .nil) (lD p am30)) (nd u j0 (lO 459))) (nd u (nd u (QL p) j0) (nd (jX p) (lO 363) j0))) (nd u (nd u (nd u j2 (lO 411)) (nd u (lO 347) j0)) (nd u (SU p) (nd u j0 (lD p am67))))))) (nd (sd p) (nd (boot_o_10 p) (nd u (nd (mU p) (nd u (nd u (Qk p) j0) (RX p)) (nd (pv p) (nd u j2 (lO 417)) (RZ p))) (nd u (nd u (nd (jf p) (nd u (lO 529) .nil) (lD p am32)) Su) (nd u (Sc p) (nd u (lO 369) j0)))) (nd u (nd (m6 p) (nd u (nd u j2 (lO 393)) (nd u (lD p am9) j0)) (nd u (RJ p) (nd u j0 (lD p am61)))) (nd u (nd (nr p) (nd (iZ p) (nd u (lD p am77) .nil) j0) (nd (gU p) j0 (lD p am56))) (nd u (R8 p) (nd (mj p) (lD p am24) (lO 505)))))) (nd (dv p) (nd u (nd u (nd (nq p) (nd u (nd u (lO 517) .nil) (lD p am28)) (nd u j2 (lO 453))) (nd u (Rv p) (nd g (lO 357) (lD p am60)))) (nd u (nd u (nd u (nd (mF p) j0 .nil) (lO 405)) (nd (gR p) j0 j0)) (nd (gT p) (RT p) (nd u j0 (lD p am65))))) (nd u (nd u (nd u (nd u (nd u (lD p am73) .nil) j0) (RC p)) (nd u (nd (gH p) QM (lO 429)) (nd u (lD p am20) (lO 493)))) (nd (mW p) (nd u (nd u (nd (my p) (lO 541) .nil) (lD p am36)) (nd u (lD p am15) (lO 477))) (nd (g9 p) (nd u (PX p) j0) (nd u (lO 381) j0)))))))
def ul(p:Params)(g:Obj):ST:=⟨BW p g,583,1893⟩
def Qn:BT:=nd (aY 414) (lO 670) .nil
def Qi:=nd (aY 350) (lD p am100) .nil
def RA:=nd (aR p am31) (lD p am116) .nil
def Sx:=nd u (nd (mq p) (lO 526) .nil) (RA p)
def Rc:BT:=nd (aY 334) j0 .nil
def R6:BT:=nd (aY 366) (lO 622) .nil
def HJ:BT:=nd (aY 390) (lO 646) .nil
def Md:=nd (aR p am8) (lD p am92) .nil
def OC:=nd (aR p am23) (lD p am108) .nil
def Ku:=nd (aR p am27) (lD p am112) .nil
def MB:=nd u (nd u (lO 514) .nil) (Ku p)
def JZ:=nd u (nd u (lD p am80) .nil) j2
def Gu:BT:=nd (aY 354) (lO 610) .nil
def GK:BT:=nd (aY 402) (lO 658) .nil
def Kv:=nd (jd p) (nd u (lD p am72) .nil) j2
def Mo:BT:=nd (aY 330) (lO 586) .nil
def OT:=nd (aR p am19) (lD p am104) .nil
def JD:=nd (aR p am35) (lD p am120) .nil
def JP:=nd u (nd u (lO 538) .nil) (JD p)
def KH:BT:=nd (aY 378) (lO 634) .nil
def Ng:BT:=nd (aY 384) (lO 640) .nil
def Kg:=nd u (nd (me p) j0 .nil) Ng
def Pa:=nd (aR p am37) (lD p am122) .nil
def KR:=nd (iO p) (nd u (lO 544) .nil) (Pa p)
def Ci:=nd (oE p) j0 .nil
def Lg:=nd u (nd u (lD p am74) .nil) j2
def Nl:=nd (aR p am21) (lD p am106) .nil
def Mn:=nd (aR p am29) (lD p am114) .nil
def KJ:=nd u (nd (mh p) (lO 520) .nil) (Mn p)
def KA:BT:=nd (aY 360) (lO 616) .nil
def HV:BT:=nd (aY 408) (lO 664) .nil
def Km:=nd (iV p) (nd u (lD p am70) .nil) j2
def GV:=nd (aR p am17) (lD p am102) .nil
def Nm:=nd (aR p am33) (lD p am118) .nil
def On:=nd u (nd u (lO 532) .nil) (Nm p)
def LZ:BT:=nd (aY 372) (lO 628) .nil
def Hr:BT:=nd (aY 396) (lO 652) .nil
def Nh:=nd (aR p am25) (lD p am110) .nil
def NU:=nd (aR p am26) (lD p am111) .nil
def O9:=nd (ja p) (nd u (lD p am79) .nil) j2
def K4:BT:=nd (aY 399) (lO 655) .nil
def Jx:=nd u (nd (mL p) j0 .nil) K4
def J6:BT:=nd (aY 327) (lO 583) .nil
def Ib:=nd (aR p am18) (lD p am103) .nil
def Nc:=nd (aR p am34) (lD p am119) .nil
def Lv:=nd u (nd u (lO 535) .nil) (Nc p)
def Kx:BT:=nd (aY 375) (lO 631) .nil
def G2:BT:=nd (aY 387) (lO 643) .nil
def NM:=nd u (nd u (lD p am75) .nil) j2
def L1:=nd (aR p am22) (lD p am107) .nil
def Ob:=nd (aR p am30) (lD p am115) .nil
def Ji:=nd (iM p) (nd u (lO 523) .nil) (Ob p)
def Lw:BT:=nd (aY 363) (lO 619) .nil
def Gs:BT:=nd (aY 411) (lO 667) .nil
def Iw:BT:=nd (aY 417) (lO 673) .nil
def GD:=nd (aR p am16) (lD p am101) .nil
def MQ:=nd (aR p am32) (lD p am117) .nil
def J0:=nd (jf p) (nd u (lO 529) .nil) (MQ p)
def LN:BT:=nd (aY 369) (lO 625) .nil
def Go:BT:=nd (aY 393) (lO 649) .nil
def Mz:=nd (aR p am9) (lD p am93) .nil
def NA:=nd (iZ p) (nd u (lD p am77) .nil) j2
def Kr:=nd (aR p am24) (lD p am109) .nil
def O6:=nd (aR p am28) (lD p am113) .nil
def OD:=nd u (nd u (lO 517) .nil) (O6 p)
def Hl:BT:=nd (aY 357) (lO 613) .nil
def OO:BT:=nd (aY 405) (lO 661) .nil
def KY:=nd u (nd (mF p) j0 .nil) OO
def LU:=nd u (nd u (lD p am73) .nil) j2
def Mh:=nd (aR p am20) (lD p am105) .nil
def LX:=nd (aR p am36) (lD p am121) .nil
def Jn:=nd u (nd (my p) (lO 541) .nil) (LX p)
def JB:BT:=nd (aY 381) (lO 637) .nil
def AN:=nd (boot_o_0 p) (nd (boot_o_1 p) (nd (fz p) (nd (boot_o_7 p) (nd u (nd u (nd (oG p) (nd u (nd u (lD p am68) .nil) j2) (SM p)) (nd u (nd u j2 Qn) (nd (dB p) (Qi p) j0))) (nd u (nd u (Sx p) (nd u Rc (lO 462))) (nd (gw p) (Sv p) (nd u R6 j0)))) (nd u (nd u (nd u (nd u j2 HJ) (nd u (Md p) j0)) (nd u (Rd p) (nd u j2 (lO 486)))) (nd (nk p) (nd u (nd u (Q7 p) j2) (nd (ky p) (nd (pd p) (lO 598) .nil) (lD p am55))) (nd (gP p) (SA p) (nd u (OC p) (lO 502)))))) (nd u (nd u (nd (ng p) (nd u (MB p) (nd u j2 (lO 450))) (nd u (JZ p) (nd (dy p) Gu (lD p am59)))) (nd u (nd (m8 p) (nd (gK p) j2 GK) (nd u (nd u (lD p am96) .nil) j0)) (nd u (nd u (QG p) (lD p am43)) (nd (je p) j2 (lD p am64))))) (nd u (nd u (nd u (Kv p) (nd u Mo (lD p am51))) (nd u (RQ p) (nd u (OT p) (lO 490)))) (nd u (nd (nb p) (JP p) (nd u (nd (aR p am14) j0 .nil) (lO 474))) (nd u (nd u (Qa p) j0) (nd (jN p) KH j0)))))) (nd (ry p) (nd (boot_o_9 p) (nd u (nd u (nd u (Kg p) (nd (gW p) (Qd p) j0)) (nd (jq p) (KR p) (nd (iq p) (Ci p) (lO 480)))) (nd (md p) (nd u (Lg p) (nd u (nd (aR p am11) (lO 592) .nil) (lD p am53))) (nd u (nd u Q2 (lO 432)) (nd u (Nl p) (lO 496))))) (nd u (nd (lU p) (nd u (KJ p) (nd u j2 (lO 456))) (nd (fK p) (RU p) (nd u KA (lf (qE p))))) (nd u (nd u (nd (gX p) j2 HV) (nd (g5 p) (nd (aY 344) (lD p am98) .nil) j0)) (nd u (RL p) (nd u j2 (lD p am66)))))) (nd (dF p) (nd (nl p) (nd u (nd (oz p) (Km p) (Ra p)) (nd u (Sg p) (nd (d7 p) (GV p) j0))) (nd u (nd u (On p) (nd u (nd (aY 340) j0 .nil) (lO 468))) (nd u (Sd p) (nd u LZ j0)))) (nd u (nd u (nd (pE p) (nd u j2 Hr) (nd u (nd (mS p) (lD p am94) .nil) j0)) (nd u (nd u (QO p) (lD p am41)) (nd (jc p) j2 (lD p am62)))) (nd u (nd u (nd u (Ql p) j2) (nd u (nd u (lO 604) .nil) (lD p am57))) (nd (gJ p) (RM p) (nd u (Nh p) (lO 508)))))))) (nd (boot_o_2 p) (nd (qY p) (nd (boot_o_8 p) (nd u (nd u (nd u (nd u (nd u (lO 511) .nil) (NU p)) (R4 p)) (nd u (O9 p) (nd u (nd u (lO 607) .nil) (lD p am58)))) (nd (m7 p) (nd u (Jx p) (nd u (nd u (lD p am95) .nil) j0)) (nd (gs p) (nd u (Q3 p) (lD p am42)) (nd u j2 (lD p am63))))) (nd u (nd u (nd u (nd u (Qy p) j2) (nd u J6 (lD p am50))) (nd (gV p) (nd (iU p) j2 (lO 423)) (nd u (Ib p) j0))) (nd (nc p) (nd u (Lv p) (nd u (nd (aR p am13) j0 .nil) (lO 471))) (nd u (nd u (Qq p) j0) (nd u Kx j0))))) (nd (dV p) (nd (nh p) (nd u (nd u (nd (g6 p) j2 G2) (nd (iP p) (QV p) j0)) (nd u (R5 p) (nd (cV p) j2 (lO 483)))) (nd u (nd (m9 p) (NM p) (nd u (nd (aR p am12) (lO 595) .nil) (lD p am54))) (nd u (nd u Qb (lO 435)) (nd (kF p) (L1 p) (lO 499))))) (nd u (nd u (nd (pg p) (Ji p) (nd u j2 (lO 459))) (nd u (nd u (QL p) j0) (nd (jX p) Lw j0))) (nd u (nd u (nd u j2 Gs) (nd u (nd (aY 347) (lD p am99) .nil) j0)) (nd u (SU p) (nd u j2 (lD p am67))))))) (nd (sd p) (nd (boot_o_10 p) (nd u (nd (mU p) (nd u (nd u (Qk p) j2) (RX p)) (nd (pv p) (nd u j2 Iw) (nd (ea p) (GD p) j0))) (nd u (nd u (J0 p) (nd u (nd (aY 337) j0 .nil) (lO 465))) (nd u (Sc p) (nd u LN j0)))) (nd u (nd (m6 p) (nd u (nd u j2 Go) (nd u (Mz p) j0)) (nd u (RJ p) (nd u j2 (lD p am61)))) (nd u (nd (nr p) (NA p) (nd (gU p) (nd u (lO 601) .nil) (lD p am56))) (nd u (R8 p) (nd (mj p) (Kr p) (lO 505)))))) (nd (dv p) (nd u (nd u (nd (nq p) (OD p) (nd u j2 (lO 453))) (nd u (Rv p) (nd g Hl (lD p am60)))) (nd u (nd u (KY p) (nd (gR p) (nd u (lD p am97) .nil) j0)) (nd (gT p) (RT p) (nd u j2 (lD p am65))))) (nd u (nd u (nd u (LU p) (nd u (nd (aR p am10) (lO 589) .nil) (lD p am52))) (nd u (nd (gH p) QM (lO 429)) (nd u (Mh p) (lO 493)))) (nd (mW p) (nd u (Jn p) (nd u (nd (aR p am15) j0 .nil) (lO 477))) (nd (g9 p) (nd u (PX p) j0) (nd u JB j0)))))))
def uT(p:Params)(g:Obj):ST:=⟨AN p g,676,2309⟩
def Kp:=nd u (nd u (lD p am68) (lO 766)) j2
def LI:=nd (aR p am47) (lD p am132) .nil
def OG:BT:=nd (aY 462) (lO 718) .nil
def Jr:=nd u R6 (nd u (lD p am148) .nil)
def Lb:=nd (aR p am39) (lD p am124) .nil
def HS:BT:=nd (aY 486) (lO 742) .nil
def Lc:=nd (aR p am55) (lD p am140) .nil
def O5:=nd (ky p) (nd (pd p) (lO 598) .nil) (Lc p)
def KC:BT:=nd (aY 438) (lO 694) .nil
def Nr:=nd u (OC p) (nd (aY 502) j0 .nil)
def OU:BT:=nd (aY 450) (lO 706) .nil
def FN:=nd (aR p am59) (lD p am144) .nil
def J2:=nd u (nd u (lD p am96) .nil) j2
def Nw:=nd (aR p am43) (lD p am128) .nil
def MR:=nd (je p) j2 (nd (aR p am64) (lO 754) .nil)
def O2:=nd (aR p am51) (lD p am136) .nil
def Om:BT:=nd (aY 426) (lO 682) .nil
def Lx:=nd u (OT p) (nd (aY 490) j0 .nil)
def LJ:BT:=nd (aY 474) (lO 730) .nil
def Mv:=nd u (nd (aR p am14) j0 .nil) LJ
def MW:=nd (jN p) KH (nd u (lD p am152) .nil)
def Dt:BT:=nd (aY 480) (lO 736) .nil
def Kl:=nd (aR p am53) (lD p am138) .nil
def Kb:BT:=nd (aY 432) (lO 688) .nil
def NZ:=nd u (Nl p) (nd (aY 496) j0 .nil)
def JM:BT:=nd (aY 456) (lO 712) .nil
def OY:=nd u KA (nd (qE p) (lD p am146) .nil)
def Oc:=nd (g5 p) (nd (aY 344) (lD p am98) .nil) j2
def Ko:=nd (aR p am45) (lD p am130) .nil
def Np:=nd u j2 (nd (aR p am66) (lO 760) .nil)
def Nx:=nd (aR p am49) (lD p am134) .nil
def NW:BT:=nd (aY 420) (lO 676) .nil
def Jk:BT:=nd (aY 468) (lO 724) .nil
def Mg:BT:=nd u (nd (aY 340) j0 .nil) Jk
def JT:=nd u LZ (nd u (lD p am150) .nil)
def OM:=nd (aR p am41) (lD p am126) .nil
def LY:=nd (jc p) j2 (nd (aR p am62) (lO 748) .nil)
def LD:=nd (aR p am57) (lD p am142) .nil
def Kq:=nd u (nd u (lO 604) .nil) (LD p)
def MA:BT:=nd (aY 444) (lO 700) .nil
def Ll:=nd u (Nh p) (nd (aY 508) j0 .nil)
def KF:=nd u (nd u (lO 511) j0) (NU p)
def Oh:BT:=nd (aY 447) (lO 703) .nil
def Lh:=nd (aR p am58) (lD p am143) .nil
def Mq:=nd u (nd u (lO 607) .nil) (Lh p)
def Kw:=nd (aR p am42) (lD p am127) .nil
def NO:=nd u j2 (nd (aR p am63) (lO 751) .nil)
def L5:=nd (aR p am50) (lD p am135) .nil
def Ou:BT:=nd (aY 423) (lO 679) .nil
def Mc:BT:=nd (aY 471) (lO 727) .nil
def Oj:=nd u (nd (aR p am13) j0 .nil) Mc
def LE:=nd u Kx (nd u (lD p am151) .nil)
def MK:=nd (aR p am38) (lD p am123) .nil
def FH:BT:=nd (aY 483) (lO 739) .nil
def Jg:=nd (aR p am54) (lD p am139) .nil
def MD:=nd u (nd (aR p am12) (lO 595) .nil) (Jg p)
def M3:BT:=nd (aY 435) (lO 691) .nil
def J7:=nd (kF p) (L1 p) (nd (aY 499) j0 .nil)
def Oe:BT:=nd (aY 459) (lO 715) .nil
def JX:=nd (jX p) Lw (nd u (lD p am147) .nil)
def Oz:=nd u (nd (aY 347) (lD p am99) .nil) j2
def Ni:=nd (aR p am46) (lD p am131) .nil
def Jz:=nd u j2 (nd (aR p am67) (lO 763) .nil)
def Oq:=nd (aR p am48) (lD p am133) .nil
def NF:BT:=nd (aY 465) (lO 721) .nil
def OJ:BT:=nd u (nd (aY 337) j0 .nil) NF
def IV:=nd u LN (nd u (lD p am149) .nil)
def Jt:=nd (aR p am40) (lD p am125) .nil
def L4:=nd u j2 (nd (aR p am61) (lO 745) .nil)
def NN:=nd (aR p am56) (lD p am141) .nil
def J5:=nd (gU p) (nd u (lO 601) .nil) (NN p)
def NK:BT:=nd (aY 441) (lO 697) .nil
def J4:=nd (mj p) (Kr p) (nd (aY 505) j0 .nil)
def Lz:BT:=nd (aY 453) (lO 709) .nil
def IG:=nd (aR p am60) (lD p am145) .nil
def Kj:=nd (gR p) (nd u (lD p am97) .nil) j2
def O0:=nd (aR p am44) (lD p am129) .nil
def Jv:=nd u j2 (nd (aR p am65) (lO 757) .nil)
def Nu:=nd (aR p am52) (lD p am137) .nil
def Lp:BT:=nd (aY 429) (lO 685) .nil
def MF:=nd u (Mh p) (nd (aY 493) j0 .nil)
def Mf:BT:=nd (aY 477) (lO 733) .nil
def Op:=nd u (nd (aR p am15) j0 .nil) Mf
def KI:=nd u JB (nd u (lD p am153) .nil)
def AA:=nd (boot_o_0 p) (nd (boot_o_1 p) (nd (fz p) (nd (boot_o_7 p) (nd u (nd u (nd (oG p) (Kp p) (nd u (nd u (lO 574) .nil) (LI p))) (nd u (nd u j2 Qn) (nd (dB p) (Qi p) j2))) (nd u (nd u (Sx p) (nd u Rc OG)) (nd (gw p) (nd (jb p) (nd u (lD p am84) .nil) j2) (Jr p)))) (nd u (nd u (nd u (nd u j2 HJ) (nd u (Md p) j2)) (nd u (nd (kc p) (nd u (lO 550) .nil) (Lb p)) (nd u j2 HS))) (nd (nk p) (nd u (nd u (Q7 p) j2) (O5 p)) (nd (gP p) (nd u (nd (aR p am3) j0 .nil) KC) (Nr p))))) (nd u (nd u (nd (ng p) (nd u (MB p) (nd u j2 OU)) (nd u (JZ p) (nd (dy p) Gu (FN p)))) (nd u (nd (m8 p) (nd (gK p) j2 GK) (J2 p)) (nd u (nd u (QG p) (Nw p)) (MR p)))) (nd u (nd u (nd u (Kv p) (nd u Mo (O2 p))) (nd u (nd u (nd (mr p) j0 .nil) Om) (Lx p))) (nd u (nd (nb p) (JP p) (Mv p)) (nd u (nd u (Qa p) j2) (MW p)))))) (nd (ry p) (nd (boot_o_9 p) (nd u (nd u (nd u (Kg p) (nd (gW p) (Qd p) j2)) (nd (jq p) (KR p) (nd (iq p) (Ci p) Dt))) (nd (md p) (nd u (Lg p) (nd u (nd (aR p am11) (lO 592) .nil) (Kl p))) (nd u (nd u Q2 Kb) (NZ p)))) (nd u (nd (lU p) (nd u (KJ p) (nd u j2 JM)) (nd (fK p) (nd u (nd u (lD p am82) .nil) j2) (OY p))) (nd u (nd u (nd (gX p) j2 HV) (Oc p)) (nd u (nd u (nd u (lO 568) .nil) (Ko p)) (Np p))))) (nd (dF p) (nd (nl p) (nd u (nd (oz p) (Km p) (nd (eT p) Sq (Nx p))) (nd u (nd u (nd (pz p) j0 .nil) NW) (nd (d7 p) (GV p) j2))) (nd u (nd u (On p) Mg) (nd u (nd (iL p) (nd u (lD p am86) .nil) j2) (JT p)))) (nd u (nd u (nd (pE p) (nd u j2 Hr) (nd u (nd (mS p) (lD p am94) .nil) j2)) (nd u (nd u (QO p) (OM p)) (LY p))) (nd u (nd u (nd u (Ql p) j2) (Kq p)) (nd (gJ p) (nd (kK p) (nd (aR p am5) j0 .nil) MA) (Ll p))))))) (nd (boot_o_2 p) (nd (qY p) (nd (boot_o_8 p) (nd u (nd u (nd u (KF p) (nd u (nd (mf p) j0 .nil) Oh)) (nd u (O9 p) (Mq p))) (nd (m7 p) (nd u (Jx p) (nd u (nd u (lD p am95) .nil) j2)) (nd (gs p) (nd u (Q3 p) (Kw p)) (NO p)))) (nd u (nd u (nd u (nd u (Qy p) j2) (nd u J6 (L5 p))) (nd (gV p) (nd (iU p) j2 Ou) (nd u (Ib p) j2))) (nd (nc p) (nd u (Lv p) (Oj p)) (nd u (nd u (Qq p) j2) (LE p))))) (nd (dV p) (nd (nh p) (nd u (nd u (nd (g6 p) j2 G2) (nd (iP p) (QV p) j2)) (nd u (nd u (nd (ph p) (lO 547) .nil) (MK p)) (nd (cV p) j2 FH))) (nd u (nd (m9 p) (NM p) (MD p)) (nd u (nd u Qb M3) (J7 p)))) (nd u (nd u (nd (pg p) (Ji p) (nd u j2 Oe)) (nd u (nd u (QL p) j2) (JX p))) (nd u (nd u (nd u j2 Gs) (Oz p)) (nd u (nd (iN p) (nd u (lO 571) .nil) (Ni p)) (Jz p)))))) (nd (sd p) (nd (boot_o_10 p) (nd u (nd (mU p) (nd u (nd u (Qk p) j2) (nd (iR p) Sp (Oq p))) (nd (pv p) (nd u j2 Iw) (nd (ea p) (GD p) j2))) (nd u (nd u (J0 p) OJ) (nd u (nd u (nd u (lD p am85) .nil) j2) (IV p)))) (nd u (nd (m6 p) (nd u (nd u j2 Go) (nd u (Mz p) j2)) (nd u (nd u (nd u (lO 553) .nil) (Jt p)) (L4 p))) (nd u (nd (nr p) (NA p) (J5 p)) (nd u (nd u (nd (aR p am4) j0 .nil) NK) (J4 p))))) (nd (dv p) (nd u (nd u (nd (nq p) (OD p) (nd u j2 Lz)) (nd u (nd u (nd u (lD p am81) .nil) j2) (nd g Hl (IG p)))) (nd u (nd u (KY p) (Kj p)) (nd (gT p) (nd (kh p) (nd (pf p) (lO 565) .nil) (O0 p)) (Jv p)))) (nd u (nd u (nd u (LU p) (nd u (nd (aR p am10) (lO 589) .nil) (Nu p))) (nd u (nd (gH p) QM Lp) (MF p))) (nd (mW p) (nd u (Jn p) (Op p)) (nd (g9 p) (nd u (PX p) j2) (KI p)))))))
def uN(p:Params)(g:Obj):ST:=⟨AA p g,769,2716⟩
def Js:=nd (oG p) (Kp p) (nd u (nd u (lO 574) j0) (LI p))
def JY:=nd u (nd u j0 (lD p am164)) Qn
def Ow:=nd u (nd u (nd (mq p) (lO 526) j0) (RA p)) (nd u (nd (aY 334) j0 (lD p am180)) OG)
def Ny:=nd (jb p) (nd u (lD p am84) (lO 814)) j2
def J9:=nd (aR p am8) (lD p am92) (lO 838)
def MO:=nd u (nd u (nd u j0 (lD p am156)) HJ) (nd u (J9 p) j2)
def NB:=nd (kc p) (nd u (lO 550) j0) (Lb p)
def IO:=nd (oh p) (lD p am76) (lO 790)
def Oa:=nd (gP p) (nd u (nd (aR p am3) j0 (lD p am172)) KC) (Nr p)
def LA:=nd u (nd u (nd u (lO 514) j0) (Ku p)) (nd u (nd u j0 (lD p am176)) OU)
def M7:=nd u (nd u (lD p am80) (lO 802)) j2
def OV:=nd (gK p) (nd u j0 (lD p am160)) GK
def Jh:=nd u (nd (aR p am2) (lO 562) j0) (Nw p)
def O8:BT:=nd (aY 330) (lO 586) j0
def NS:=nd u (nd (jd p) (nd u (lD p am72) (lO 778)) j2) (nd u O8 (O2 p))
def O4:=nd u (nd (mr p) j0 (lD p am168)) Om
def Lu:=nd u (nd u (lO 538) j0) (JD p)
def Pb:=nd (aY 314) (lD p am88) (lO 826)
def Lr:=nd u (nd u (Pb p) j2) (MW p)
def OZ:=nd (fz p) (nd (boot_o_7 p) (nd u (nd u (Js p) (nd u (JY p) (nd (dB p) (Qi p) j2))) (nd u (Ow p) (nd (gw p) (Ny p) (Jr p)))) (nd u (nd u (MO p) (nd u (NB p) (nd u j2 HS))) (nd (nk p) (nd u (nd u (IO p) j2) (O5 p)) (Oa p)))) (nd u (nd u (nd (ng p) (LA p) (nd u (M7 p) (nd (dy p) Gu (FN p)))) (nd u (nd (m8 p) (OV p) (J2 p)) (nd u (Jh p) (MR p)))) (nd u (nd u (NS p) (nd u (O4 p) (Lx p))) (nd u (nd (nb p) (Lu p) (Mv p)) (Lr p))))
def NT:=nd (aR p am6) (lD p am90) (lO 832)
def Il:=nd u (nd u (nd (me p) j0 (lD p am154)) Ng) (nd (gW p) (NT p) j2)
def Gl:=nd (iO p) (nd u (lO 544) j0) (Pa p)
def K6:=nd u (nd u (nd u (lD p am74) (lO 784)) j2) (nd u (nd (aR p am11) (lO 592) j0) (Kl p))
def Ka:=nd u (nd (aY 304) j0 (lD p am170)) Kb
def M0:=nd (md p) (K6 p) (nd u (Ka p) (NZ p))
def M2:=nd u (nd u (nd (mh p) (lO 520) j0) (Mn p)) (nd u (nd u j0 (lD p am178)) JM)
def J8:=nd u (nd u (lD p am82) (lO 808)) j2
def NR:=nd (gX p) (nd u j0 (lD p am162)) HV
def KM:=nd u (nd u (nd u (lO 568) j0) (Ko p)) (Np p)
def KG:=nd u (nd (lU p) (M2 p) (nd (fK p) (J8 p) (OY p))) (nd u (nd u (NR p) (Oc p)) (KM p))
def MX:BT:=nd (aY 324) (lO 580) j0
def Mw:=nd (oz p) (nd (iV p) (nd u (lD p am70) (lO 772)) j2) (nd (eT p) MX (Nx p))
def N8:=nd u (nd (pz p) j0 (lD p am166)) NW
def MN:=nd u (nd u (lO 532) j0) (Nm p)
def Os:=nd (iL p) (nd u (lD p am86) (lO 820)) j2
def J3:=nd (mS p) (lD p am94) (lO 844)
def My:=nd (pE p) (nd u (nd u j0 (lD p am158)) Hr) (nd u (J3 p) j2)
def OQ:=nd u (nd (aR p am0) (lO 556) j0) (OM p)
def IU:=nd (ot p) (lD p am78) (lO 796)
def No:=nd (gJ p) (nd (kK p) (nd (aR p am5) j0 (lD p am174)) MA) (Ll p)
def Lf:=nd (dF p) (nd (nl p) (nd u (Mw p) (nd u (N8 p) (nd (d7 p) (GV p) j2))) (nd u (nd u (MN p) Mg) (nd u (Os p) (JT p)))) (nd u (nd u (My p) (nd u (OQ p) (LY p))) (nd u (nd u (nd u (IU p) j2) (Kq p)) (No p)))
def MY:=nd u (KF p) (nd u (nd (mf p) j0 (lD p am175)) Oh)
def L3:=nd (ja p) (nd u (lD p am79) (lO 799)) j2
def NI:=nd u (nd u (nd (mL p) j0 (lD p am159)) K4) (nd u (nd u (lD p am95) (lO 847)) j2)
def KU:=nd u (nd (aR p am1) (lO 559) j0) (Kw p)
def MI:BT:=nd (aY 327) (lO 583) j0
def LL:=nd u (nd u (nd (mu p) (lD p am71) (lO 775)) j2) (nd u MI (L5 p))
def Ms:=nd (iU p) (nd u j0 (lD p am167)) Ou
def OS:=nd u (nd u (lO 535) j0) (Nc p)
def Nd:=nd (aY 311) (lD p am87) (lO 823)
def Nv:=nd u (nd u (Nd p) j2) (LE p)
def ML:=nd (aR p am7) (lD p am91) (lO 835)
def Kd:=nd u (nd (g6 p) (nd u j0 (lD p am155)) G2) (nd (iP p) (ML p) j2)
def Nz:=nd u (nd (ph p) (lO 547) j0) (MK p)
def MC:=nd u (nd u (lD p am75) (lO 787)) j2
def Nf:=nd u (nd (aY 307) j0 (lD p am171)) M3
def Nb:=nd (pg p) (nd (iM p) (nd u (lO 523) j0) (Ob p)) (nd u (nd u j0 (lD p am179)) Oe)
def Ie:=nd (qD p) (lD p am83) (lO 811)
def K8:=nd u (nd u j0 (lD p am163)) Gs
def LK:=nd u (nd (iN p) (nd u (lO 571) j0) (Ni p)) (Jz p)
def Og:=nd (qY p) (nd (boot_o_8 p) (nd u (nd u (MY p) (nd u (L3 p) (Mq p))) (nd (m7 p) (NI p) (nd (gs p) (KU p) (NO p)))) (nd u (nd u (LL p) (nd (gV p) (Ms p) (nd u (Ib p) j2))) (nd (nc p) (nd u (OS p) (Oj p)) (Nv p)))) (nd (dV p) (nd (nh p) (nd u (Kd p) (nd u (Nz p) (nd (cV p) j2 FH))) (nd u (nd (m9 p) (MC p) (MD p)) (nd u (Nf p) (J7 p)))) (nd u (nd u (Nb p) (nd u (nd u (Ie p) j2) (JX p))) (nd u (nd u (K8 p) (Oz p)) (LK p))))
def JE:BT:=nd (aY 321) (lO 577) j0
def Na:=nd u (nd u (nd (mM p) (lD p am69) (lO 769)) j2) (nd (iR p) JE (Oq p))
def JC:=nd u (nd u j0 (lD p am165)) Iw
def Mu:=nd (mU p) (Na p) (nd (pv p) (JC p) (nd (ea p) (GD p) j2))
def JV:=nd (jf p) (nd u (lO 529) j0) (MQ p)
def FL:=nd u (nd u (lD p am85) (lO 817)) j2
def LG:=nd (aR p am9) (lD p am93) (lO 841)
def LQ:=nd u (nd u (nd u j0 (lD p am157)) Go) (nd u (LG p) j2)
def O1:=nd u (nd u (lO 553) j0) (Jt p)
def Jm:=nd (iZ p) (nd u (lD p am77) (lO 793)) j2
def NV:=nd u (nd u (nd (aR p am4) j0 (lD p am173)) NK) (J4 p)
def N9:=nd u (nd (m6 p) (LQ p) (nd u (O1 p) (L4 p))) (nd u (nd (nr p) (Jm p) (J5 p)) (NV p))
def Kt:=nd (nq p) (nd u (nd u (lO 517) j0) (O6 p)) (nd u (nd u j0 (lD p am177)) Lz)
def Kf:=nd u (nd u (lD p am81) (lO 805)) j2
def MS:=nd u (nd (mF p) j0 (lD p am161)) OO
def Ov:=nd (gT p) (nd (kh p) (nd (pf p) (lO 565) j0) (O0 p)) (Jv p)
def Kn:=nd u (nd u (nd u (lD p am73) (lO 781)) j2) (nd u (nd (aR p am10) (lO 589) j0) (Nu p))
def JK:=nd (gH p) (nd (aY 301) j0 (lD p am169)) Lp
def KW:=nd u (nd (my p) (lO 541) j0) (LX p)
def M9:=nd (aY 317) (lD p am89) (lO 829)
def JF:=nd (g9 p) (nd u (M9 p) j2) (KI p)
def Kh:=nd (dv p) (nd u (nd u (Kt p) (nd u (Kf p) (nd g Hl (IG p)))) (nd u (nd u (MS p) (Kj p)) (Ov p))) (nd u (nd u (Kn p) (nd u (JK p) (MF p))) (nd (mW p) (nd u (KW p) (Op p)) (JF p)))
def vU:=nd (boot_o_0 p) (nd (boot_o_1 p) (OZ p) (nd (ry p) (nd (boot_o_9 p) (nd u (nd u (Il p) (nd (jq p) (Gl p) (nd (iq p) (Ci p) Dt))) (M0 p)) (KG p)) (Lf p))) (nd (boot_o_2 p) (Og p) (nd (sd p) (nd (boot_o_10 p) (nd u (Mu p) (nd u (nd u (JV p) OJ) (nd u (FL p) (IV p)))) (N9 p)) (Kh p g)))
def rK(p:Params)(g:Obj):ST:=⟨vU p g,850,3082⟩
noncomputable def x8:Obj:=⟨(.type "dict"),none,.dict #[en p "__module__" 480 (.str "snowballstemmer.portuguese_stemmer" 471),en p "__qualname__" 482 (.str "PortugueseStemmer" 481),en p "__firstlineno__" 484 (.int 210 483),en p "g_v" 511 (.ref 230),en p "I_p2" 513 (.int 0 512),en p "I_p1" 515 (.int 0 514),en p "I_pV" 517 (.int 0 516),en p "r_prelude" 526 (.ref 237),en p "r_mark_regions" 538 (.ref 244),en p "r_postlude" 547 (.ref 251),en p "r_RV" 554 (.ref 258),en p "r_R2" 561 (.ref 265),en p "r_standard_suffix" 573 (.ref 272),en p "r_verb_suffix" 581 (.ref 279),en p "r_residual_suffix" 588 (.ref 286),en p "r_residual_form" 599 (.ref 293),en p "_stem" 615 (.ref 300),en p "a_0" 656 (.ref 310),en p "a_1" 697 (.ref 320),en p "a_2" 757 (.ref 333),en p "a_3" 800 (.ref 343),en p "a_4" 843 (.ref 353),en p "a_5" 1473 (.ref 489),en p "a_6" 3082 (.ref 850)] 24,#[]⟩
def OF:=nd u (JV p) (nd u (nd (aY 337) j0 (lf (AX p))) NF)
def Ru:=nd (boot_o_0 p) (nd (boot_o_1 p) (OZ p) (nd (ry p) (nd (boot_o_9 p) (nd u (nd u (Il p) (nd (jq p) (Gl p) (nd (x8 p) (Ci p) Dt))) (M0 p)) (KG p)) (Lf p))) (nd (boot_o_2 p) (Og p) (nd (sd p) (nd (boot_o_10 p) (nd u (Mu p) (nd u (OF p) (nd u (FL p) (IV p)))) (N9 p)) (Kh p g)))
def Pn(p:Params)(g:Obj):ST:=⟨Ru p g,851,3083⟩
noncomputable def xe:Obj:=⟨(.type "dict"),none,.dict #[en p "__module__" 480 (.str "snowballstemmer.portuguese_stemmer" 471),en p "__qualname__" 482 (.str "PortugueseStemmer" 481),en p "__firstlineno__" 484 (.int 210 483),en p "g_v" 511 (.ref 230),en p "I_p2" 513 (.int 0 512),en p "I_p1" 515 (.int 0 514),en p "I_pV" 517 (.int 0 516),en p "r_prelude" 526 (.ref 237),en p "r_mark_regions" 538 (.ref 244),en p "r_postlude" 547 (.ref 251),en p "r_RV" 554 (.ref 258),en p "r_R2" 561 (.ref 265),en p "r_standard_suffix" 573 (.ref 272),en p "r_verb_suffix" 581 (.ref 279),en p "r_residual_suffix" 588 (.ref 286),en p "r_residual_form" 599 (.ref 293),en p "_stem" 615 (.ref 300),en p "a_0" 656 (.ref 310),en p "a_1" 697 (.ref 320),en p "a_2" 757 (.ref 333),en p "a_3" 800 (.ref 343),en p "a_4" 843 (.ref 353),en p "a_5" 1473 (.ref 489),en p "a_6" 3082 (.ref 850),en p "a_7" 3181 (.ref 872),en p "a_8" 3238 (.ref 885)] 26,#[]⟩
def Kc:=nd (aY 350) (lD p am100) (lD p am185)
def M6:=nd (aY 366) (lO 622) (lD p am190)
def NG:BT:=nd (aY 354) (lO 610) (lO 866)
def JJ:=nd (aR p am19) (lD p am104) j0
def O7:=nd (aR p am21) (lD p am106) j0
def J1:=nd (aY 360) (lO 616) (lD p am188)
def JO:=nd (aY 344) (lD p am98) (lD p am183)
def KN:=nd (aR p am17) (lD p am102) (lD p am187)
def Mm:=nd (aY 372) (lO 628) (lf (E5 p))
def Oo:=nd (aR p am18) (lD p am103) (lf (EM p))
def Of:=nd (aR p am12) (lO 595) (lO 851)
def Kz:=nd (aR p am22) (lD p am107) j0
def OI:=nd (aY 363) (lO 619) (lD p am189)
def JG:=nd (aY 347) (lD p am99) (lD p am184)
def ON:=nd (aR p am16) (lD p am101) (lD p am186)
def MJ:=nd (aY 369) (lO 625) (lD p am191)
def Mi:BT:=nd (aY 357) (lO 613) (lO 869)
def LT:=nd (aR p am20) (lD p am105) j0
def R0:=nd (boot_o_0 p) (nd (boot_o_1 p) (nd (fz p) (nd (boot_o_7 p) (nd u (nd u (Js p) (nd u (JY p) (nd (dB p) (Kc p) j2))) (nd u (Ow p) (nd (gw p) (Ny p) (nd u (M6 p) (nd u (lD p am148) .nil))))) (nd u (nd u (MO p) (nd u (NB p) (nd u j1 HS))) (nd (nk p) (nd u (nd u (IO p) j2) (nd (ky p) (nd (pd p) (lO 598) (lO 854)) (Lc p))) (Oa p)))) (nd u (nd u (nd (ng p) (LA p) (nd u (M7 p) (nd (dy p) NG (FN p)))) (nd u (nd (m8 p) (OV p) (nd u (nd u (lD p am96) (lD p am181)) j2)) (nd u (Jh p) (nd (je p) (nd u j0 (lO 882)) (nd (aR p am64) (lO 754) .nil))))) (nd u (nd u (NS p) (nd u (O4 p) (nd u (JJ p) (nd (aY 490) j0 .nil)))) (nd u (nd (nb p) (Lu p) (nd u (nd (aR p am14) j0 j0) LJ)) (Lr p))))) (nd (ry p) (nd (boot_o_9 p) (nd u (nd u (Il p) (nd (jq p) (Gl p) (nd (xe p) (nd (oE p) j0 j0) Dt))) (nd (md p) (K6 p) (nd u (Ka p) (nd u (O7 p) (nd (aY 496) j0 .nil))))) (nd u (nd (lU p) (M2 p) (nd (fK p) (J8 p) (nd u (J1 p) (nd (qE p) (lD p am146) .nil)))) (nd u (nd u (NR p) (nd (g5 p) (JO p) j2)) (KM p)))) (nd (dF p) (nd (nl p) (nd u (Mw p) (nd u (N8 p) (nd (d7 p) (KN p) j2))) (nd u (nd u (MN p) (nd u (nd (aY 340) j0 j0) Jk)) (nd u (Os p) (nd u (Mm p) (nd u (lD p am150) .nil))))) (nd u (nd u (My p) (nd u (OQ p) (nd (jc p) (nd u j0 (lO 876)) (nd (aR p am62) (lO 748) .nil)))) (nd u (nd u (nd u (IU p) j2) (nd u (nd u (lO 604) (lO 860)) (LD p))) (No p)))))) (nd (boot_o_2 p) (nd (qY p) (nd (boot_o_8 p) (nd u (nd u (MY p) (nd u (L3 p) (nd u (nd u (lO 607) (lO 863)) (Lh p)))) (nd (m7 p) (NI p) (nd (gs p) (KU p) (nd u (nd u j0 (lO 879)) (nd (aR p am63) (lO 751) .nil))))) (nd u (nd u (LL p) (nd (gV p) (Ms p) (nd u (Oo p) j2))) (nd (nc p) (nd u (OS p) (nd u (nd (aR p am13) j0 j0) Mc)) (Nv p)))) (nd (dV p) (nd (nh p) (nd u (Kd p) (nd u (Nz p) (nd (cV p) j1 FH))) (nd u (nd (m9 p) (MC p) (nd u (Of p) (Jg p))) (nd u (Nf p) (nd (kF p) (Kz p) (nd (aY 499) j0 .nil))))) (nd u (nd u (Nb p) (nd u (nd u (Ie p) j2) (nd (jX p) (OI p) (nd u (lD p am147) .nil)))) (nd u (nd u (K8 p) (nd u (JG p) j2)) (LK p))))) (nd (sd p) (nd (boot_o_10 p) (nd u (nd (mU p) (Na p) (nd (pv p) (JC p) (nd (ea p) (ON p) j2))) (nd u (OF p) (nd u (FL p) (nd u (MJ p) (nd u (lD p am149) .nil))))) (nd u (nd (m6 p) (LQ p) (nd u (O1 p) (nd u (nd u j0 (lO 873)) (nd (aR p am61) (lO 745) .nil)))) (nd u (nd (nr p) (Jm p) (nd (gU p) (nd u (lO 601) (lO 857)) (NN p))) (NV p)))) (nd (dv p) (nd u (nd u (Kt p) (nd u (Kf p) (nd g Mi (IG p)))) (nd u (nd u (MS p) (nd (gR p) (nd u (lD p am97) (lD p am182)) j2)) (Ov p))) (nd u (nd u (Kn p) (nd u (JK p) (nd u (LT p) (nd (aY 493) j0 .nil)))) (nd (mW p) (nd u (KW p) (nd u (nd (aR p am15) j0 j0) Mf)) (JF p))))))
def Ph(p:Params)(g:Obj):ST:=⟨R0 p g,886,3239⟩
def T9:=nd (boot_o_0 p) (nd (boot_o_1 p) (nd (Pq p) (nd (boot_o_7 p) (nd u (nd u (nd (oG p) (nd u (nd u (nd (aR p am68) j0 .nil) (lO 766)) j1) (nd u (nd u (lO 574) j0) (nd (aR p am47) (lD p am132) (lf (Ao p))))) (nd u (nd u (nd u j0 (lD p am164)) (nd (aY 414) (lO 670) j0)) (nd u (Kc p) j1))) (nd u (nd u (nd u (nd (mq p) (lO 526) j0) (nd (aR p am31) (lD p am116) j0)) (nd u (nd (aY 334) j0 (lD p am180)) (nd (aY 462) (lO 718) j0))) (nd (gw p) (nd (jb p) (nd u (lD p am84) (lO 814)) (nd u j0 (lf (Fr p)))) (nd u (M6 p) (nd u (lD p am148) (lf (zo p))))))) (nd u (nd u (nd u (nd u (nd u j2 (lD p am156)) (nd (aY 390) (lO 646) j0)) (nd u (J9 p) j1)) (nd u (nd (kc p) (nd u (lO 550) j0) (nd (aR p am39) (lD p am124) (lf (Ft p)))) (nd u j1 (nd (aY 486) (lO 742) (lf (E9 p)))))) (nd (nk p) (nd u (nd u (IO p) j1) (nd (ky p) (nd (pd p) (lO 598) (lO 854)) (nd (aR p am55) (lD p am140) j0))) (nd (gP p) (nd u (nd (aR p am3) j0 (lD p am172)) (nd (aY 438) (lO 694) j0)) (nd u (nd (aR p am23) (lD p am108) (lf (Fg p))) (nd (aY 502) j0 j0)))))) (nd u (nd u (nd (ng p) (nd u (nd u (nd u (nd (aY 514) (lf (yW p)) .nil) j0) (nd (aR p am27) (lD p am112) (lf (yg p)))) (nd u (nd u j0 (lD p am176)) (nd (aY 450) (lO 706) j0))) (nd u (nd u (nd u (lD p am80) (lO 802)) j1) (nd u NG (nd (aR p am59) (lD p am144) j0)))) (nd u (nd (m8 p) (nd (gK p) (nd u j0 (lD p am160)) (nd (aY 402) (lO 658) j0)) (nd u (nd u (lD p am96) (lD p am181)) (nd u j0 (lf (EN p))))) (nd u (nd u (nd (aR p am2) (lO 562) j0) (nd (aR p am43) (lD p am128) j0)) (nd (je p) (nd u j0 (lO 882)) (nd (aR p am64) (lO 754) j0))))) (nd u (nd u (nd u (nd (jd p) (nd u (lD p am72) (lO 778)) j1) (nd u O8 (nd (aR p am51) (lD p am136) (lf (Fq p))))) (nd u (nd u (nd (mr p) j0 (lD p am168)) (nd (aY 426) (lO 682) j0)) (nd u (JJ p) (nd (aY 490) j0 j0)))) (nd u (nd (nb p) (nd u (nd u (lO 538) j0) (nd (aR p am35) (lD p am120) j0)) (nd u (nd (aR p am14) j0 j0) (nd (aY 474) (lO 730) j0))) (nd u (nd u (Pb p) j1) (nd (jN p) (nd (aY 378) (lO 634) j0) (nd u (lD p am152) j0))))))) (nd (ry p) (nd (boot_o_9 p) (nd u (nd u (nd u (nd u (nd (me p) j2 (lD p am154)) (nd (aY 384) (lO 640) j0)) (nd (gW p) (NT p) j1)) (nd (jq p) (nd (iO p) (nd u (lO 544) j0) (nd (aR p am37) (lD p am122) j0)) (nd u (nd (oE p) j0 j0) (nd (aY 480) (lO 736) (lf (Fp p)))))) (nd (md p) (nd u (nd u (nd u (lD p am74) (lO 784)) (nd u j0 (lf (Ak p)))) (nd u (nd (aR p am11) (lO 592) j0) (nd (aR p am53) (lD p am138) j0))) (nd u (nd u (nd (aY 304) j0 (lD p am170)) (nd (aY 432) (lO 688) j0)) (nd u (O7 p) (nd (aY 496) j0 j0))))) (nd u (nd (lU p) (nd u (nd u (nd (mh p) (nd (aY 520) (lf (rL p)) .nil) j0) (nd (aR p am29) (lD p am114) j0)) (nd u (nd u j0 (lD p am178)) (nd (aY 456) (lO 712) j0))) (nd (fK p) (nd u (nd u (lD p am82) (lO 808)) j1) (nd u (J1 p) (nd (qE p) (lD p am146) j0)))) (nd u (nd u (nd (gX p) (nd u j0 (lD p am162)) (nd (aY 408) (lO 664) j0)) (nd (g5 p) (JO p) (nd u j0 (lf (EJ p))))) (nd u (nd u (nd u (lO 568) j0) (nd (aR p am45) (lD p am130) j0)) (nd u j1 (nd (aR p am66) (lO 760) j0)))))) (nd u (nd (nl p) (nd u (nd (oz p) (nd (iV p) (nd u (nd (aR p am70) j0 .nil) (lO 772)) j1) (nd (ER p) MX (nd (aR p am49) (lD p am134) (lf (Fi p))))) (nd u (nd u (nd (pz p) j0 (lD p am166)) (nd (aY 420) (lO 676) j0)) (nd u (KN p) j1))) (nd u (nd u (nd u (nd u (lO 532) j0) (nd (aR p am33) (lD p am118) j0)) (nd u (nd (aY 340) j0 j0) (nd (aY 468) (lO 724) j0))) (nd u (nd (iL p) (nd u (lD p am86) (lO 820)) (nd u j0 (lf (E3 p)))) (nd u (Mm p) (nd u (lD p am150) (lf (yj p))))))) (nd u (nd u (nd (pE p) (nd u (nd u j0 (lD p am158)) (nd (aY 396) (lO 652) j0)) (nd u (J3 p) j1)) (nd u (nd u (nd (aR p am0) (lO 556) j0) (nd (aR p am41) (lD p am126) j0)) (nd (jc p) (nd u j0 (lO 876)) (nd (aR p am62) (lO 748) j0)))) (nd u (nd u (nd u (IU p) (nd u j0 (lf (zf p)))) (nd u (nd u (lO 604) (lO 860)) (nd (aR p am57) (lD p am142) j0))) (nd (gJ p) (nd (kK p) (nd (aR p am5) j0 (lD p am174)) (nd (aY 444) (lO 700) (lf (E7 p)))) (nd u (nd (aR p am25) (lD p am110) j0) (nd (aY 508) j0 (lf (zv p)))))))))) (nd (Pc p) (nd (qY p) (nd (boot_o_8 p) (nd u (nd u (nd u (nd u (nd u (nd (aY 511) j0 .nil) j0) (nd (aR p am26) (lD p am111) j0)) (nd u (nd (mf p) j0 (lD p am175)) (nd (aY 447) (lO 703) (lf (BO p))))) (nd u (nd (ja p) (nd u (lD p am79) (lO 799)) j1) (nd u (nd u (lO 607) (lO 863)) (nd (aR p am58) (lD p am143) (lf (Fd p)))))) (nd (m7 p) (nd u (nd u (nd (mL p) j0 (lD p am159)) (nd (aY 399) (lO 655) (lf (AT p)))) (nd u (nd u (lD p am95) (lO 847)) j1)) (nd (gs p) (nd u (nd (aR p am1) (lO 559) j0) (nd (aR p am42) (lD p am127) j0)) (nd u (nd u j0 (lO 879)) (nd (aR p am63) (lO 751) j0))))) (nd u (nd u (nd u (nd u (nd (mu p) (nd (aR p am71) (lf (Ap p)) .nil) (lO 775)) j1) (nd u MI (nd (aR p am50) (lD p am135) j0))) (nd (gV p) (nd (iU p) (nd u j0 (lD p am167)) (nd (aY 423) (lO 679) (lf (EW p)))) (nd u (Oo p) (nd u j0 (lf (zD p)))))) (nd (nc p) (nd u (nd u (nd u (lO 535) j0) (nd (aR p am34) (lD p am119) j0)) (nd u (nd (aR p am13) j0 j0) (nd (aY 471) (lO 727) j0))) (nd u (nd u (Nd p) j1) (nd u (nd (aY 375) (lO 631) (lf (zu p))) (nd u (lD p am151) j0)))))) (nd u (nd (nh p) (nd u (nd u (nd (g6 p) (nd u (nd u (lf (BS p)) .nil) (lD p am155)) (nd (aY 387) (lO 643) (lf (y1 p)))) (nd (iP p) (ML p) (nd u j0 (lf (Fo p))))) (nd u (nd u (nd (ph p) (lO 547) j0) (nd (aR p am38) (lD p am123) j0)) (nd u j1 (nd (aY 483) (lO 739) j0)))) (nd u (nd (m9 p) (nd u (nd u (lD p am75) (lO 787)) j1) (nd u (Of p) (nd (aR p am54) (lD p am139) j0))) (nd u (nd u (nd (aY 307) j0 (lD p am171)) (nd (aY 435) (lO 691) j0)) (nd (kF p) (Kz p) (nd (aY 499) j0 j0))))) (nd u (nd u (nd (pg p) (nd (iM p) (nd u (lO 523) j0) (nd (aR p am30) (lD p am115) j0)) (nd u (nd u j0 (lD p am179)) (nd (aY 459) (lO 715) (lf (EF p))))) (nd u (nd u (Ie p) j1) (nd (jX p) (OI p) (nd u (lD p am147) j0)))) (nd u (nd u (nd u (nd u j0 (lD p am163)) (nd (aY 411) (lO 667) j0)) (nd u (JG p) j1)) (nd u (nd (iN p) (nd u (lO 571) j0) (nd (aR p am46) (lD p am131) (lf (Fv p)))) (nd u j1 (nd (aR p am67) (lO 763) (lf (Bt p))))))))) (nd (sd p) (nd (boot_o_10 p) (nd u (nd (mU p) (nd u (nd u (nd (mM p) (nd (aR p am69) j0 .nil) (lO 769)) j1) (nd (iR p) JE (nd (aR p am48) (lD p am133) j0))) (nd (pv p) (nd u (nd u j0 (lD p am165)) (nd (aY 417) (lO 673) j0)) (nd u (ON p) j1))) (nd u (nd u (nd (jf p) (nd u (lO 529) j0) (nd (aR p am32) (lD p am117) j0)) (nd u (nd (aY 337) j0 (lf (AX p))) (nd (aY 465) (lO 721) (lf (Fb p))))) (nd u (nd u (nd u (lD p am85) (lO 817)) j1) (nd u (MJ p) (nd u (lD p am149) j0))))) (nd u (nd (m6 p) (nd u (nd u (nd u j0 (lD p am157)) (nd (aY 393) (lO 649) j0)) (nd u (LG p) j1)) (nd u (nd u (nd u (lO 553) j0) (nd (aR p am40) (lD p am125) j0)) (nd u (nd u j0 (lO 873)) (nd (aR p am61) (lO 745) j0)))) (nd u (nd (nr p) (nd (iZ p) (nd u (lD p am77) (lO 793)) j1) (nd (gU p) (nd u (lO 601) (lO 857)) (nd (aR p am56) (lD p am141) (lf (Fe p))))) (nd u (nd u (nd (aR p am4) j0 (lD p am173)) (nd (aY 441) (lO 697) j0)) (nd (mj p) (nd (aR p am24) (lD p am109) j0) (nd (aY 505) j0 j0)))))) (nd u (nd u (nd u (nd (nq p) (nd u (nd u (nd (aY 517) j0 .nil) j0) (nd (aR p am28) (lD p am113) j0)) (nd u (nd u j0 (lD p am177)) (nd (aY 453) (lO 709) j0))) (nd u (nd u (nd u (lD p am81) (lO 805)) j1) (nd g Mi (nd (aR p am60) (lD p am145) j0)))) (nd u (nd u (nd u (nd (mF p) j0 (lD p am161)) (nd (aY 405) (lO 661) j0)) (nd (gR p) (nd u (lD p am97) (lD p am182)) j1)) (nd (gT p) (nd (kh p) (nd (pf p) (lO 565) j0) (nd (aR p am44) (lD p am129) (lf (Fs p)))) (nd u j1 (nd (aR p am65) (lO 757) (lf (yT p))))))) (nd u (nd u (nd u (nd u (nd u (lD p am73) (lO 781)) j1) (nd u (nd (aR p am10) (lO 589) j0) (nd (aR p am52) (lD p am137) j0))) (nd u (nd (gH p) (nd (aY 301) j0 (lD p am169)) (nd (aY 429) (lO 685) (lf (E6 p)))) (nd u (LT p) (nd (aY 493) j0 (lf (Bi p)))))) (nd (mW p) (nd u (nd u (nd (my p) (lO 541) j0) (nd (aR p am36) (lD p am121) (lf (zx p)))) (nd u (nd (aR p am15) j0 j0) (nd (aY 477) (lO 733) j0))) (nd (g9 p) (nd u (M9 p) (nd u j0 (lf (yK p)))) (nd u (nd (aY 381) (lO 637) j0) (nd u (lD p am153) j0))))))))
def S9(p:Params)(g:Obj):ST:=⟨T9 p g,1034,3574⟩
end
end
noncomputable section
abbrev iY:Code→Sem Fin:=PySem.W.Fast.tw11892475500146522536 PySem.W.Fast.tw14364793385576792824
theorem zZ:denote table=iY:=by rw[table_eq_tree,PySem.W.Fast.te11892475500146522536,PySem.W.Fast.te14364793385576792824]
noncomputable def lay:BT→BT→BT
 | .node v l r,.node v' l' r'=>.node (match v'.data with | .freed=>u | _=>v) (lay l l') (lay r r')
 | _,_=>.nil
noncomputable abbrev stg(p:Params):Setting:=⟨prog,p⟩
noncomputable def Γ0:Ctx:=⟨.builtin "claim.caller" {},none,none,[],none⟩
noncomputable def env0:Env:={ scope:=prog.main.scope,locals:=mainNs,globals:=mainNs,cells:=[],code:=.ref 13,frame:=some 14 }
noncomputable def c0:Code:=.body prog.main.body env0
noncomputable def Γ1:Ctx:=Γ0.enter c0 none default
noncomputable def wx:Pos:=⟨210,0,593,89⟩
noncomputable def Fj:Stmt→List Stmt×Scope
 | .ClassDef _ _ _ b _ _ s _ _ _ _=>(b,s)
 | _=>([],default)
def mO:List Stmt:=(Fj (tp 6)).1
def dO:Env:={ scope:=(Fj (tp 6)).2,locals:=225,globals:=3,cells:=[],qual:="PortugueseStemmer.",code:=.ref 228,frame:=some 229 }
def c6:Code:=.body mO dO
def Γ2:Ctx:=Γ1.enter c6 none wx
noncomputable def yE(n:Nat):Code→Bool
 | .body b _=>Nat.beq b.length n
 | _=>false
noncomputable abbrev Q1{α:Type}(x:Option ((Code×Option Value×(Result→Sem α))×Pos×ST)):Result→Sem α:=match x with
 | some ((_,_,k),_,_)=>k
 | none=>fun _=>.unsupported ""
noncomputable abbrev seen(T:BT)(x:Pos×ST):Pos×BT×Nat×Nat:=(x.1,lay x.2.tree T,x.2.n,x.2.toks)
noncomputable abbrev want(pos:Pos)(S:ST):Pos×BT×Nat×Nat:=(pos,S.tree,S.n,S.toks)
noncomputable def zJ:Sem Fin:=do
 let code ← moduleCode prog.main
 let frame ← newBodyFrame code mainNs mainNs
 let _ ← run (.body (behindTheImports prog) { scope:=prog.main.scope,locals:=mainNs,globals:=mainNs,cells:=[],code,frame:=some frame })
 ret .none
def U1(p:Params):=upto iY (stg p) (yE 29) Fin Γ0 5000 default (S0 p) zJ
def U2(p:Params):=upto iY (stg p) (yE 23) Fin Γ1 5000 default (S1 p) (iY c0)
theorem u1(p:Params):(U1 p).map (fun x=>(x.1.1,x.1.2.1,seen (T1 p) x.2))=some (c0,none,want default (S1 p)):=by rfl'
theorem u2(p:Params):(U2 p).map (fun x=>(x.1.1,x.1.2.1,seen (T6 p) x.2))=some (c6,none,want wx (S6 p)):=by rfl'
end
noncomputable section
noncomputable abbrev aI(es:Array (Int×Value))(m:Nat)(t:SetTable)(sl:Array (Option Value)):Obj:=⟨.type "set",none,.set es m t,sl⟩
noncomputable def ej{α:Type}:Except Value α→Option α
 | .ok a=>some a
 | .error _=>none
def sts(a b:Nat):List Stmt:=(mO.take b).drop a
theorem Ua(p:Params)(es:Array (Int×Value))(m:Nat)(t:SetTable)(sl:Array (Option Value)):
  ((both iY (stg p) 5000).s Flow Γ2 ⟨211,4,211,7⟩ (S7 p (aI es m t sl)) (execs (sts 1 14) dO)).map (fun x=>(ej x.1,seen (Rx p (aI es m t sl)) x.2))=some (some .next,want ⟨523,4,584,19⟩ (QE p (aI es m t sl))):=by rfl'
theorem TX(p:Params)(es:Array (Int×Value))(m:Nat)(t:SetTable)(sl:Array (Option Value)):
  ((both iY (stg p) 5000).s Flow Γ2 ⟨523,4,584,19⟩ (QE p (aI es m t sl)) (execs (sts 14 19) dO)).map (fun x=>(ej x.1,seen (Q5 p (aI es m t sl)) x.2))=some (some .next,want ⟨589,4,589,7⟩ (Jf p (aI es m t sl))):=by rfl'
theorem TV(p:Params)(es:Array (Int×Value))(m:Nat)(t:SetTable)(sl:Array (Option Value)):
  ((both iY (stg p) 5000).s Flow Γ2 ⟨591,4,591,7⟩ (Pn p (aI es m t sl)) (execs (sts 21 23) dO)).map (fun x=>(ej x.1,seen (R0 p (aI es m t sl)) x.2))=some (some .next,want ⟨593,4,593,7⟩ (Ph p (aI es m t sl))):=by rfl'
theorem r9(p:Params)(es:Array (Int×Value))(m:Nat)(t:SetTable)(sl:Array (Option Value)):
  ((both iY (stg p) 5000).c Γ1 wx (Ph p (aI es m t sl)) (Q1 (U2 p) (.ok .next))).map (fun x=>(x.1,lay x.2.tree (T9 p (aI es m t sl)),x.2.n,x.2.toks))=some (.ok .next,T9 p (aI es m t sl),1034,3574):=by rfl'
end
end Mine.Internal.H
end
noncomputable section
open PySem PySem.W PyProof.Rows PySem.Calls
set_option maxHeartbeats 2000000
namespace Mine.Internal.H
section
set_option tactic.hygienic false
theorem ii{w:World}:model prog w=⟨iY,prog,w⟩:=by rw[←zZ];rfl
section
variable {w:World}{os:OsState}{ox:Option (Addr×Obj)}
theorem rQ:∀ (t m:BT) (a:Nat) (o:Obj),(lay t m).get a=some o→(match o.data with | .freed=>False | _=>True)→t.get a=some o
 | .nil,m,a,o,h,_=>by cases m<;>cases h
 | .node v l r,.nil,a,o,h,_=>by cases h
 | .node v l r,.node v' l' r',a,o,h,q=>by
  have e:lay (.node v l r) (.node v' l' r')=.node (match v'.data with | .freed=>u | _=>v) (lay l l') (lay r r'):=rfl;rw[e,BT.get_node] at h;rw[BT.get_node];split at h
  ·rename_i h0;rw[if_pos h0];have h:=inj h
   revert h
   cases hd:v'.data<;>intro h<;>first | (dsimp only at h;subst h;rfl) | skip
   dsimp only at h;subst h;exact absurd q (fun z=>z)
  ·rename_i h0;rw[if_neg h0];split at h
   ·rename_i h1;rw[if_pos h1];exact rQ l l' _ o h q
   ·rename_i h1;rw[if_neg h1];exact rQ r r' _ o h q
theorem bG.lay{S S':ST}{s:Shared}(D:bG w os none S s)(ht:lay S.tree S'.tree=S'.tree)(hn:S.n=S'.n)(hk:S.toks=S'.toks):bG w os none S' s:=by
 refine⟨D.size.trans hn,fun a o e=>D.get a o ?_,D.toks.trans hk,D.gens,D.drawn,D.os,fun a o e=>by cases e⟩;unfold ST.ld at e ⊢;rw[←ht] at e;cases hg:(Internal.H.lay S.tree S'.tree).get a with
 | none=>rw[hg] at e;cases e
 | some o₁=>
  rw[hg] at e;have e:alive o₁=some o:=e;have q:match o₁.data with | .freed=>False | _=>True:=by
   obtain⟨c,d,dt,sl⟩:=o₁;cases dt<;>first | trivial | cases e
  rw[rQ _ _ _ _ hg q];exact e
theorem rJ{p':Pos}{S' S:ST}{pos:Pos}(h:seen S.tree (p',S')=want pos S):p'=pos∧lay S'.tree S.tree=S.tree∧S'.n=S.n∧S'.toks=S.toks:=by
 have h:(p',lay S'.tree S.tree,S'.n,S'.toks)=(pos,S.tree,S.n,S.toks):=h;simp only[Prod.mk.injEq] at h;exact h
theorem jU{n:Nat}{α:Type}{Γ:Ctx}{p pos:Pos}{S S':ST}{t:Sem α}{a:α}
  (h:((both iY (stg w.params) n).s α Γ p S t).map (fun x=>(ej x.1,seen S'.tree x.2))=some (some a,want pos S'))
  {s:Shared} (D:bG w os none S s) {Q:α→Pos→Shared→Prop} {E:Value→Pos→Shared→Prop} (k:∀ s',bG w os none S' s'→Q a pos s'):Sem.wp (model prog w) Γ t Q E p s:=by
 obtain⟨⟨r,p',S₁⟩,h1,h2⟩:=Option.map_eq_some_iff.mp h;obtain⟨h3,h4⟩:=Prod.mk.inj h2;refine pK (rJ h4) fun e1 e2 e3 e4=>?_
 have m:model prog w=⟨iY,prog,w⟩:=ii;rw[m];refine (fV (w:=w) (os:=os) (ox:=none) (den:=iY) (pr:=prog) n).1 _ _ _ _ _ _ _ _ h1 s D Q E fun s' D'=>?_
 induction r using Except.casesOn with
 | error e=>cases h3
 | ok b=>cases h3;subst e1;exact k s' (D'.lay e2 e3 e4)
theorem E8{n:Nat}{Γ:Ctx}{p:Pos}{S S':ST}{t:Sem Fin}{r:Result}{R:Result→Shared→Prop}
  (h:((both iY (stg w.params) n).c Γ p S t).map (fun x=>(x.1,lay x.2.tree S'.tree,x.2.n,x.2.toks))=some (r,S'.tree,S'.n,S'.toks))
  {s:Shared} (D:bG w os none S s) (k:∀ s',bG w os none S' s'→R r s'):Sem.wp (model prog w) Γ t (Sem.finPost (model prog w) Γ R) (fun e _ s'=>R (.error e) s') p s:=by
 obtain⟨⟨r',S₁⟩,h1,h2⟩:=Option.map_eq_some_iff.mp h;simp only[Prod.mk.injEq] at h2;obtain⟨e1,e2,e3,e4⟩:=h2;have m:model prog w=⟨iY,prog,w⟩:=ii;rw[m];refine (fV (w:=w) (os:=os) (ox:=none) (den:=iY) (pr:=prog) n).2 _ _ _ _ _ _ h1 s D R fun s' D'=>?_
 subst e1;exact k s' (D'.lay e2 e3 e4)
theorem EV{n:Nat}{α:Type}{stop:Code→Bool}{Γ:Ctx}{p pos:Pos}{S S':ST}{t:Sem α}{c:Code}{hd:Option Value}
  (h:(upto iY (stg w.params) stop α Γ n p S t).map (fun x=>(x.1.1,x.1.2.1,seen S'.tree x.2))=some (c,hd,want pos S'))
  {s:Shared} (D:bG w os none S s) {Q:α→Pos→Shared→Prop} {E:Value→Pos→Shared→Prop}
  (k:∀ s',bG w os none S' s'→wpCode (model prog w) (Γ.enter c hd pos) (fun r s''=>Sem.wp (model prog w) Γ (Q1 (upto iY (stg w.params) stop α Γ n p S t) r) Q E pos s'') pos s'):Sem.wp (model prog w) Γ t Q E p s:=by
 obtain⟨⟨⟨c',hd',kk⟩,p',S₁⟩,h1,h2⟩:=Option.map_eq_some_iff.mp h;obtain⟨e1,h2⟩:=Prod.mk.inj h2;obtain⟨e2,e3⟩:=Prod.mk.inj h2;refine pK (rJ e3) fun f1 f2 f3 f4=>?_
 dsimp only at e1 e2;have m:model prog w=⟨iY,prog,w⟩:=ii;subst e1 e2 f1;rw[m] at k ⊢;refine uY (w:=w) (os:=os) (ox:=none) (den:=iY) (pr:=prog) n _ _ _ _ _ _ _ _ h1 s D fun s' D'=>?_
 have:=k s' (D'.lay f2 f3 f4);rw[h1] at this;exact this
end
noncomputable section
def C6(st:Setting)(n:Nat)(Γ:Ctx)(env:Env):Pos→ST→List Expr→Option (List Value×Pos×ST)
 | p,S,[]=>some ([],p,S)
 | p,S,e :: r=>((both iY st n).s Value Γ p S (eval e env)).bind fun x=>match x.1 with
  | .ok v=>(C6 st n Γ env x.2.1 x.2.2 r).map fun y=>(v :: y.1,y.2)
  | .error _=>none
end
theorem zh(pos:Pos)(e:Expr)(es:List Expr)(env:Env)(h:kdsPlain e=true):spliced (backTo pos (starEach (e :: es) env))=(do
  let v ← eval e env
  let r ← holding [v] (spliced (backTo pos (starEach es env)))
  pure ([v]++r)):=by
 cases e<;>first | rfl | cases h
theorem xU{w:World}{os:OsState}{Γ:Ctx}{env:Env}{pos:Pos}{n:Nat}{E:Value→Pos→Shared→Prop}{l2:List Expr}(l1:List Expr):∀ (p:Pos) (S:ST) (vs:List Value) (p':Pos) (S':ST) (Q:List Value→Pos→Shared→Prop),l1.all kdsPlain=true→C6 (stg w.params) n Γ env p S l1=some (vs,p',S')→
  ∀ s,bG w os none S s→(∀ s',bG w os none S' s'→Sem.wp (model prog w) Γ (spliced (backTo pos (starEach l2 env))) (fun v2=>Q (vs++v2)) E p' s')→Sem.wp (model prog w) Γ (spliced (backTo pos (starEach (l1++l2) env))) Q E p s:=by
 induction l1 with
 | nil=>exact fun p S vs p' S' Q _ h s D k=>by cases h;exact k s D
 | cons e l1 ih=>
  intro p S vs p' S' Q hp h s D k;rw[List.all_cons,Bool.and_eq_true] at hp;rw[List.cons_append,zh _ _ _ _ hp.1,Sem.wp_bind'];have m:model prog w=⟨iY,prog,w⟩:=ii;refine ob h fun x h1 h=>?_
  obtain⟨r,p₁,S₁⟩:=x
  induction r using Except.casesOn with
  | error e=>exact nn h
  | ok v=>
   refine om h fun y h2 h=>?_
   obtain⟨vs',x⟩:=y;cases h;have b:=(fV (w:=w) (os:=os) (ox:=none) (den:=iY) (pr:=prog) n).1 _ _ _ _ _ _ _ _ h1 s D (fun v p' s'=>Sem.wp (model prog w) Γ (holding [v] (spliced (backTo pos (starEach (l1++l2) env))) >>= fun r=>pure ([v]++r)) Q E p' s') E;rw[←m] at b;refine b fun s₁ D₁=>?_
   dsimp only;rw[Sem.wp_bind',Sem.wp_holding];exact ih p₁ S₁ vs' p' S' (fun r p' s'=>Q ([v]++r) p' s') hp.2 h2 s₁ D₁ fun s' D'=>k s' D'
theorem qC{w:World}{os:OsState}{Γ:Ctx}{env:Env}{pos p p':Pos}{n:Nat}{E:Value→Pos→Shared→Prop}{l1 l2:List Expr}{S S':ST}{vs:List Value}{Q:List Value→Pos→Shared→Prop}(hp:l1.all kdsPlain=true)
  (h:(C6 (stg w.params) n Γ env p S l1).map (fun x=>(x.1,seen S'.tree x.2))=some (vs,want p' S'))
  {s:Shared} (D:bG w os none S s) (k:∀ s',bG w os none S' s'→Sem.wp (model prog w) Γ (spliced (backTo pos (starEach l2 env))) (fun v2=>Q (vs++v2)) E p' s'):Sem.wp (model prog w) Γ (spliced (backTo pos (starEach (l1++l2) env))) Q E p s:=by
 obtain⟨⟨vs',p₁,S₁⟩,h1,h2⟩:=Option.map_eq_some_iff.mp h;obtain⟨h3,h4⟩:=Prod.mk.inj h2;refine pK (rJ h4) fun e1 e2 e3 e4=>?_
 dsimp only at h3;subst h3 e1;exact xU l1 _ _ _ _ _ _ hp h1 s D fun s' D'=>k s' (D'.lay e2 e3 e4)
end
noncomputable section
def stm(i:Nat):Stmt:=mO.getD i (.Pass default)
noncomputable def pH:Stmt→List Expr
 | .Assign ts _ _=>ts
 | _=>[]
noncomputable def lQ:Stmt→Expr
 | .Assign _ v _=>v
 | _=>.Constant .none 0 default
noncomputable def wD:Stmt→Pos
 | .Assign _ _ p=>p
 | _=>default
noncomputable def Tv:Expr→List Expr
 | .List es _=>es
 | _=>[]
noncomputable def ES:Expr→Pos
 | .List _ p=>p
 | _=>default
def elt(i:Nat):List Expr:=Tv (lQ (stm i))
def els(i a b:Nat):List Expr:=((elt i).take b).drop a
def vsl(a b:Nat):List Value:=((amongs.drop a).take (b-a)).map fun e=>.ref (e.d+1)
def mT(i k:Nat):Pos:=((elt i).getD k (.Constant .none 0 default)).pos
def vM(i:Nat)(vs:List Value):Sem Flow:=do
 let v ← newList vs
 assignStores dO v (← swappedStores (pH (stm i)) (lQ (stm i)) dO) ((assignEach (pH (stm i)) dO).map (·.2))
variable (p:Params)(es:Array (Int×Value))(m:Nat)(t:SetTable)(sl:Array (Option Value))
theorem Uo:(C6 (stg p) 5000 Γ2 dO (ES (lQ (stm 19))) (Jf p (aI es m t sl)) (els 19 0 23)).map (fun x=>(x.1,seen (yD p (aI es m t sl)) x.2))=some (vsl 16 39,want (mT 19 22) (uo p (aI es m t sl))):=by rfl'
theorem Uj:(C6 (stg p) 5000 Γ2 dO (mT 19 22) (uo p (aI es m t sl)) (els 19 23 45)).map (fun x=>(x.1,seen (A6 p (aI es m t sl)) x.2))=some (vsl 39 61,want (mT 19 44) (uv p (aI es m t sl))):=by rfl'
theorem TY:((both iY (stg p) 5000).s Flow Γ2 (mT 19 44) (uv p (aI es m t sl)) (vM 19 (vsl 16 39++(vsl 39 61++[])))).map (fun x=>(ej x.1,seen (P8 p (aI es m t sl)) x.2))=some (some .next,want ⟨590,4,590,7⟩ (Fy p (aI es m t sl))):=by rfl'
theorem TQ:((both iY (stg p) 50).s Bool Γ2 (wD (stm 19)) (Jf p (aI es m t sl)) (swapsWithSole (pH (stm 19)) (lQ (stm 19)) (wD (stm 19)).line dO)).map (fun x=>(ej x.1,seen (Q5 p (aI es m t sl)) x.2))=some (some false,want (wD (stm 19)) (Jf p (aI es m t sl))):=by rfl'
theorem Up:(C6 (stg p) 5000 Γ2 dO (ES (lQ (stm 20))) (Fy p (aI es m t sl)) (els 20 0 31)).map (fun x=>(x.1,seen (BW p (aI es m t sl)) x.2))=some (vsl 61 92,want (mT 20 30) (ul p (aI es m t sl))):=by rfl'
theorem Uk:(C6 (stg p) 5000 Γ2 dO (mT 20 30) (ul p (aI es m t sl)) (els 20 31 62)).map (fun x=>(x.1,seen (AN p (aI es m t sl)) x.2))=some (vsl 92 123,want (mT 20 61) (uT p (aI es m t sl))):=by rfl'
theorem S4:(C6 (stg p) 5000 Γ2 dO (mT 20 61) (uT p (aI es m t sl)) (els 20 62 93)).map (fun x=>(x.1,seen (AA p (aI es m t sl)) x.2))=some (vsl 123 154,want (mT 20 92) (uN p (aI es m t sl))):=by rfl'
theorem TA:(C6 (stg p) 5000 Γ2 dO (mT 20 92) (uN p (aI es m t sl)) (els 20 93 120)).map (fun x=>(x.1,seen (vU p (aI es m t sl)) x.2))=some (vsl 154 181,want (mT 20 119) (rK p (aI es m t sl))):=by rfl'
theorem Ud:((both iY (stg p) 5000).s Flow Γ2 (mT 20 119) (rK p (aI es m t sl)) (vM 20 (vsl 61 92++(vsl 92 123++(vsl 123 154++(vsl 154 181++[])))))).map (fun x=>(ej x.1,seen (Ru p (aI es m t sl)) x.2))=some (some .next,want ⟨591,4,591,7⟩ (Pn p (aI es m t sl))):=by rfl'
theorem TP:((both iY (stg p) 50).s Bool Γ2 (wD (stm 20)) (Fy p (aI es m t sl)) (swapsWithSole (pH (stm 20)) (lQ (stm 20)) (wD (stm 20)).line dO)).map (fun x=>(ej x.1,seen (P8 p (aI es m t sl)) x.2))=some (some false,want (wD (stm 20)) (Fy p (aI es m t sl))):=by rfl'
end
section
set_option tactic.hygienic false
noncomputable section
def st0:Stmt:=mO.getD 0 (.Pass default)
noncomputable def Ti:Expr→List Expr
 | .Set es _ _=>es
 | _=>[]
noncomputable def Ur:Expr→Pos
 | .Set _ _ p=>p
 | _=>default
def nZ:List Expr:=Ti (lQ st0)
noncomputable def vow:List Nat:=[97,101,105,111,117,225,226,233,234,237,243,244,250]
noncomputable def SQ:Expr→Option Nat
 | .Constant c _ _=>match c with
  | .str s=>match s.cps.toList with
   | [c]=>some c
   | _=>none
  | _=>none
 | _=>none
@[elab_as_elim] theorem cOf_eq {e:Expr} {c:Nat} {C:Expr→Prop} (h:SQ e=some c) (k:∀ m p,C (.Constant (.str ⟨#[c]⟩) m p)):C e:=by
 induction e using zX with
 | Constant d m p=>induction d using Const.casesOn with
  | str s=>
   obtain⟨⟨l⟩⟩:=s
   induction l using zL with
   | nil=>exact nn h
   | cons a r=>induction r using zL with
    | nil=>obtain rfl:=inj h;exact k _ _
    | cons=>exact nn h
  | _=>exact nn h
 | _=>exact nn h
noncomputable def vals:List Nat→Nat→List Value
 | [],_=>[]
 | c :: cs,t=>.str ⟨#[c]⟩ t :: vals cs (t+1)
section
variable {w:World}{A:Around}{E:Value→Shared→Prop}{env:Env}
theorem Ts(es:List Expr):∀ (cs:List Nat),es.map SQ=cs.map some→∀ (s:Shared) (Q:List Value→Shared→Prop),Q (vals cs s.toks) { s with toks:=s.toks+cs.length }→KdsAll (model prog w) A E env es Q s:=by
 induction es with
 | nil=>
  intro cs e s Q h
  induction cs using zL with
  | nil=>exact h
  | cons=>cases e
 | cons e es ih=>
  intro cs q s Q h
  induction cs using zL with
  | nil=>cases q
  | cons c cs=>
   obtain⟨q1,q2⟩:=List.cons.inj q;show wpAny _ _ (eval e env) _ _ _;refine cOf_eq q1 fun m p=>?_
   refine Constant_str (ih cs q2 _ _ ?_);show Q (.str ⟨#[c]⟩ s.toks :: vals cs (s.toks+1)) { s with toks:=s.toks+1+cs.length };rw[add_assoc,Nat.add_comm 1];exact h
theorem Ty{u:Bool}{a:Addr}{Q:Value→Shared→Prop}(cs:List Nat):∀ (t:Nat) (s:Shared) (S:Str→Bool) (n:Nat),s.heap.SetOf (PySem.strKind prog w) a S n→n+cs.length<scanBound→
  (∀ h' S' n',Heap.SameBut a s.heap h'→h'.SetOf (PySem.strKind prog w) a S' n'→n'<scanBound→(∀ k,S' k=(S k||cs.any fun c=>decide (k=⟨#[c]⟩)))→
   KdsFill (model prog w) A E u a Q [] { s with heap:=h',toks:=s.toks+cs.length })→KdsFill (model prog w) A E u a Q (vals cs t) s:=by
 induction cs with
 | nil=>
  intro t s S n hS hb k;obtain⟨hh,g,d,tk,os⟩:=s;exact k hh S n (Heap.SameBut.refl _ _) hS hb (fun k=>by rw[List.any_nil,Bool.or_false])
 | cons c cs ih=>
  intro t s S n hS hb k;rw[length_cons] at hb;refine kds_fill_cons (v:=.str ⟨#[c]⟩ t) ?_;unfold setAdd;have hkey:(PySem.strKind prog w).is ⟨#[c]⟩ (.str ⟨#[c]⟩ t)=true:=strKind_is prog w _ _;refine wpAny_holding (wpAny_bind ((PySem.strKind prog w).pyHash hkey ?_));refine wpAny_setAddHashed_of (knd:=PySem.strKind prog w) (s:={ s with toks:=s.toks+1 }) hkey rfl hS (by ext) fun h' hsb hS'=>ih (t+1) _ _ _ hS' (by split<;>ext) fun h2 S2 n2 hsb2 hS2 hn2 e=>?_
  have:=k h2 S2 n2 (hsb.trans hsb2) hS2 hn2 fun k'=>by rw[e k',List.any_cons,Bool.or_assoc]
  show KdsFill _ _ _ _ _ _ _ { s with heap:=h2,toks:=s.toks+1+cs.length };rw[add_assoc,Nat.add_comm 1];exact this
theorem S8{a:Addr}{Q:Value→Shared→Prop}{s:Shared}{S:Str→Bool}{n:Nat}(u:Bool)(hS:s.heap.SetOf (PySem.strKind prog w) a S n)(hb:n<scanBound)
  (k:∀ h',Heap.SameBut a s.heap h'→h'.SetOf (PySem.strKind prog w) a S n→Q (.ref a) { s with heap:=h' }):KdsFill (model prog w) A E u a Q [] s:=by
 induction u using zB with
 | false=>
  refine kds_fill_nil rfl ?_;obtain⟨hh,g,d,tk,os⟩:=s;exact k hh (Heap.SameBut.refl _ _) hS
 | true=>
  refine kds_fill_unled rfl ?_;refine jI (hS) fun o es ep t zz=>Tl zz fun ho hex hd hel hmem hb' hf hn=>?_
  have hf':({ t with led:=false }:SetTable).fits es.size=true:=by cases t;exact hf
  unfold setUnled;refine wpAny_bind (wpAny_setState_of ho hd hf ?_);dsimp only;refine wpAny_storeSet_of ho hd ?_ (fits_of_scanBound hb');obtain⟨_,hS⟩:=SetOf_store (knd:=PySem.strKind prog w) ho hex hd hel hmem hb' hf';rw[hn] at hS;exact k _ (Heap.SameBut.update s.heap a (Obj.putSet es { t with led:=false })) hS
end
theorem set_plain:nZ.all kdsPlain=true:=by rfl'
theorem DG:nZ.length=13:=by rfl'
theorem HW:lQ st0=.Set nZ 0 (Ur (lQ st0)):=by rfl'
def A2:Around:=⟨none,frameCount Γ2.below+Γ2.code.weight,none,none,Γ2.units⟩
theorem Qt:Γ2.In A2:=⟨rfl,le_refl _,fun l h=>(by cases h),fun g h=>(by cases h),le_refl _⟩
end
def iS(w:World)(o:Obj):Prop:=∃ S n,o.SetObjOf (PySem.strKind prog w) S n∧n<scanBound∧∀ k:Nat,S ⟨#[k]⟩=ar k
noncomputable def Pe(p:Params)(g:Obj):ST:=⟨(T6 p).ins 230 g,231,511⟩
theorem Gc(p:Params)(g:Obj):(((T6 p).ins 230 g).get 230).isSome=true:=by rfl'
theorem Cg(p:Params):(S6 p).ld 228=some (cV p):=by rfl'
theorem kcode(p:Params):kdsCode [(228,cV p)] dO.code=true:=by rfl'
theorem Co(k:Nat):(false||vow.any fun c=>decide ((⟨#[k]⟩:Str)=⟨#[c]⟩))=ar k:=by
 have e:∀ c:Nat,decide ((⟨#[k]⟩:Str)=⟨#[c]⟩)=(k==c):=fun c=>by
  by_cases q:k=c
  ·subst q;simp
  ·have:(⟨#[k]⟩:Str)≠⟨#[c]⟩:=fun h=>q (by simpa using h)
   rw[decide_eq_false this,beq_eq_false_iff_ne.mpr q]
 simp only[e,Bool.false_or,vow,ar];rfl
theorem Az{w:World}{A:Around}{E:Value→Shared→Prop}{K:Frag}{elts:List Expr}{k:Nat}{pos:Pos}{env:Env}{Q:Value→Shared→Prop}{s:Shared}(X:K.In s.heap)(hc:kdsCode K env.code=true)
  (hroad:(displayRoad k elts==.constants)=false) (hp:elts.all kdsPlain=true) (hlen:elts.length≤30)
  (h:∀ led:Bool,KdsAll (model prog w) A E env elts (fun vs s'=>KdsFill (model prog w) A E (displayRoad k elts==.unsure) s.heap.objs.size Q vs s') { s with heap:=s.heap.push { cls:=.type "set",dict:=none,data:=.set #[] 0 (.fresh 0 0 led) } }):
  wpAny (model prog w) A (eval (.Set elts k pos) env) Q E s:=by
 rw[arm_eval_Set];refine wpAny_bind (wpAny_standAt ?_);refine wpAny_bind (kds_main X hc fun b=>?_);rw[kds_star elts hp,List.map_map];refine kds_core (ts:=(evalEach elts env).map fun t=>do let v ← t;standAt pos;pure v) hroad ?_ ?_ ?_ fun led=>?_
 ·refine List.findIdx?_eq_none_iff.mpr fun x hx=>?_
  obtain⟨t,_,rfl⟩:=List.mem_map.mp hx;rfl
 ·rw[length_map,kds_len];exact hlen
 ·rw[List.map_map];rfl
 ·exact kds_all pos elts _ _ (h led)
theorem zi{w:World}{os:OsState}{s:Shared}(D:bG w os none (S6 w.params) s){p:Pos}{Q:Value→Pos→Shared→Prop}{E:Value→Pos→Shared→Prop}
  (k:∀ s' es m t p',bG w os none (Pe w.params (aI es m t #[])) s'→iS w (aI es m t #[])→Q (.ref 230) p' s'):Sem.wp (model prog w) Γ2 (eval (lQ st0) dO) Q E p s:=by
 have main:wpAny (model prog w) A2 (eval (lQ st0) dO) (fun v s'=>∃ es m t,v=.ref 230∧bG w os none (Pe w.params (aI es m t #[])) s'∧iS w (aI es m t #[])) (fun _ _=>False) s:=by
  have X:PySem.W.Frag.In [(228,cV w.params)] s.heap:=fun a o e=>by
   rw[List.lookup_cons] at e;by_cases q:a=228
   ·subst q;cases e;exact D.get _ _ (Cg _)
   ·rw[beq_eq_false_iff_ne.mpr q] at e;cases e
  have sz:s.heap.objs.size=230:=D.size;rw[HW];refine Az X (kcode _) (by rfl') set_plain (by rw[DG];decide) fun led=>?_
  ·refine Ts nZ vow (by rfl') _ _ ?_;have hS:(s.heap.push { cls:=.type "set",dict:=none,data:=.set #[] 0 (.fresh 0 0 led) }).SetOf (PySem.strKind prog w) s.heap.objs.size (fun _=>false) 0:=
    (setObjOf_fresh led).setOf (Heap.get?_push_size _ rfl) (by decide)
   refine Ty vow _ _ (fun _=>false) 0 hS (by decide) fun h' S' n' hsb hS' hn e=>?_
   refine S8 _ hS' hn fun h2 hsb2 hS2=>?_
   obtain⟨o,ho,hso⟩:=hS2.objOf;obtain⟨⟨x1,x2,x3⟩,es,ep,t,hd,r⟩:=id hso;have eo:o=aI es ep t #[]:=by
    obtain⟨c,d,dt,sl⟩:=o;dsimp only at x1 x2 x3 hd;subst x1 x2 x3 hd;rfl
   subst eo;rw[sz] at ho;refine⟨es,ep,t,by rw[sz],⟨?_,fun a o' g=>?_,?_,D.gens,D.drawn,D.os,fun a o' g=>by cases g⟩,⟨S',n',hso,hn,fun k=>?_⟩⟩
   ·show h2.objs.size=231;rw[hsb2.1,hsb.1];show (s.heap.objs.push _).size=231;rw[Array.size_push,sz]
   ·unfold ST.ld Pe at g;dsimp only at g;rw[BT.get_ins _ _ _ (Gc _ _)] at g;by_cases q:a=230
    ·subst q;rw[if_pos rfl] at g;have g:some (aI es ep t #[])=some o':=g;cases g;exact ho
    ·rw[if_neg q] at g;have ne:a≠s.heap.objs.size:=by rw[sz];exact q
     exact (hsb2.2 a ne).trans ((hsb.2 a ne).trans (Heap.get?_push_of_some _ (D.get a o' g)))
   ·show s.toks+vow.length+vow.length=511;rw[D.toks];rfl
   ·rw[e];exact Co k
 refine Sem.wp_mono _ _ _ (fun v p' s' ⟨es,m,t,e,d,o⟩=>?_) (fun _ _ _ h=>h.elim) p s (main Γ2 p Qt);subst e;exact k s' es m t p' d o
section
variable {w:World}{os:OsState}{Γ:Ctx}{env:Env}{E:Value→Pos→Shared→Prop}{p:Pos}{s:Shared}
theorem vc{l2:List Stmt}:∀ (l1:List Stmt) (p:Pos) (s:Shared) (Q:Flow→Pos→Shared→Prop),Sem.wp (model prog w) Γ (execs l1 env) (fun f p' s'=>match f with | .next=>Sem.wp (model prog w) Γ (execs l2 env) Q E p' s' | f=>Q f p' s') E p s→
  Sem.wp (model prog w) Γ (execs (l1++l2) env) Q E p s
 | [],p,s,Q,h=>h
 | st :: l1,p,s,Q,h=>by
  rw[List.cons_append,execs_cons,Sem.wp_bind'];rw[execs_cons,Sem.wp_bind'] at h;refine Sem.wp_mono _ _ _ (fun f p' s' h'=>?_) (fun _ _ _ h'=>h') _ _ h;cases f<;>first | exact vc l1 p' s' Q h' | exact h'
theorem rv{st:Stmt}{rest:List Stmt}{Q:Flow→Pos→Shared→Prop}(h:Sem.wp (model prog w) Γ (exec st env) (fun f p' s'=>match f with | .next=>Sem.wp (model prog w) Γ (execs rest env) Q E p' s' | f=>Q f p' s') E p s):
  Sem.wp (model prog w) Γ (execs (st :: rest) env) Q E p s:=by
 rw[execs_cons,Sem.wp_bind'];refine Sem.wp_mono _ _ _ (fun f p' s' h'=>?_) (fun _ _ _ h'=>h') _ _ h;cases f<;>exact h'
theorem vZ{t:List Expr}{es:List Expr}{lp pos:Pos}{Q:Flow→Pos→Shared→Prop}{S:ST}{n:Nat}
  (hz:((both iY (stg w.params) n).s Bool Γ pos S (swapsWithSole t (.List es lp) pos.line env)).map (fun x=>(ej x.1,seen S.tree x.2))=some (some false,want pos S)) (D:bG w os none S s)
  (h:∀ s',bG w os none S s'→Sem.wp (model prog w) Γ (spliced (backTo lp (starEach es env))) (fun vs p' s'=>Sem.wp (model prog w) Γ (do
   let v ← newList vs
   assignStores env v (← swappedStores t (.List es lp) env) ((assignEach t env).map (·.2))) Q E p' s') E lp s'):Sem.wp (model prog w) Γ (exec (.Assign t (.List es lp) pos) env) Q E p s:=by
 rw[arm_exec_Assign,Sem.wp_bind'];show Sem.wp _ _ (_ >>= _) _ _ pos s;rw[Sem.wp_bind'];refine jU hz D fun s' D'=>?_
 rw[if_neg Bool.false_ne_true,Sem.wp_bind',arm_eval_List,Sem.wp_bind'];show Sem.wp _ _ (_ >>= _) _ _ lp s';rw[Sem.wp_bind'];refine Sem.wp_mono _ _ _ (fun vs p' s'' h'=>?_) (fun _ _ _ h'=>h') _ _ (h s' D');rw[Sem.wp_bind'] at h';exact h'
end
noncomputable section
variable (p:Params)(es:Array (Int×Value))(m:Nat)(t:SetTable)(sl:Array (Option Value))
theorem ub:mO=st0 :: (sts 1 14++(sts 14 19++(stm 19 :: (stm 20 :: sts 21 23)))):=by rfl'
theorem Bg:stm 19=.Assign (pH (stm 19)) (.List (els 19 0 23++(els 19 23 45++[])) (ES (lQ (stm 19)))) (wD (stm 19)):=by rfl'
theorem EY:stm 20=.Assign (pH (stm 20)) (.List (els 20 0 31++(els 20 31 62++(els 20 62 93++(els 20 93 120++[])))) (ES (lQ (stm 20)))) (wD (stm 20)):=by rfl'
theorem GQ:st0=.Assign (pH st0) (lQ st0) (wD st0):=by rfl'
theorem TJ:((both iY (stg p) 500).s Unit Γ2 wx (S6 p) (blockStart mO dO)).map (fun x=>(ej x.1,seen (T6 p) x.2))=some (some (),want wx (S6 p)):=by rfl'
theorem SV:((both iY (stg p) 500).s Bool Γ2 (wD st0) (S6 p) (swapsWithSole (pH st0) (lQ st0) (wD st0).line dO)).map (fun x=>(ej x.1,seen (T6 p) x.2))=some (some false,want (wD st0) (S6 p)):=by rfl'
theorem r6(p':Pos):((both iY (stg p) 500).s Flow Γ2 p' (Pe p (aI es m t sl)) (do assignStores dO (.ref 230) (← swappedStores (pH st0) (lQ st0) dO) ((assignEach (pH st0) dO).map (·.2)))).map (fun x=>(ej x.1,seen (T7 p (aI es m t sl)) x.2))=some (some .next,want ⟨211,4,211,7⟩ (S7 p (aI es m t sl))):=by rfl'
end
end
theorem pY:(els 19 0 23).all kdsPlain=true∧(els 19 23 45).all kdsPlain=true∧(els 20 0 31).all kdsPlain=true∧(els 20 31 62).all kdsPlain=true∧(els 20 62 93).all kdsPlain=true∧(els 20 93 120).all kdsPlain=true:=by
 refine⟨by rfl',by rfl',by rfl',by rfl',by rfl',by rfl'⟩
theorem vI{w:World}{Γ:Ctx}{env:Env}{pos p:Pos}{s:Shared}{Q:List Value→Pos→Shared→Prop}{E:Value→Pos→Shared→Prop}(h:Q [] p s):Sem.wp (model prog w) Γ (spliced (backTo pos (starEach [] env))) Q E p s:=h
section
variable {w:World}{os:OsState}{E:Value→Pos→Shared→Prop}{s:Shared}{Q:Flow→Pos→Shared→Prop}{es:Array (Int×Value)}{m:Nat}{t:SetTable}
noncomputable abbrev P(w:World):Params:=w.params
theorem PO(D:bG w os none (Jf w.params (aI es m t #[])) s)(k:∀ s',bG w os none (Fy w.params (aI es m t #[])) s'→Q .next ⟨590,4,590,7⟩ s')(p:Pos):Sem.wp (model prog w) Γ2 (exec (stm 19) dO) Q E p s:=by
 have pl:=pY;rw[Bg];have z:=TQ w.params es m t #[];rw[show lQ (stm 19)=.List (els 19 0 23++(els 19 23 45++[])) (ES (lQ (stm 19))) from congrArg lQ Bg] at z;refine vZ z D fun s1 D1=>?_
 refine qC (S':=uo w.params (aI es m t #[])) pl.1 (Uo w.params es m t #[]) D1 fun s2 D2=>?_
 refine qC (S':=uv w.params (aI es m t #[])) pl.2.1 (Uj w.params es m t #[]) D2 fun s3 D3=>?_
 refine vI ?_;have e:=TY w.params es m t #[];unfold vM at e;rw[show lQ (stm 19)=.List (els 19 0 23++(els 19 23 45++[])) (ES (lQ (stm 19))) from congrArg lQ Bg] at e;exact jU (S':=Fy w.params (aI es m t #[])) e D3 k
theorem QD(D:bG w os none (Fy w.params (aI es m t #[])) s)(k:∀ s',bG w os none (Pn w.params (aI es m t #[])) s'→Q .next ⟨591,4,591,7⟩ s')(p:Pos):Sem.wp (model prog w) Γ2 (exec (stm 20) dO) Q E p s:=by
 have pl:=pY;have eq:=congrArg lQ EY;rw[EY];have z:=TP w.params es m t #[];rw[show lQ (stm 20)=.List _ (ES (lQ (stm 20))) from eq] at z;refine vZ z D fun s1 D1=>?_
 refine qC (S':=ul w.params (aI es m t #[])) pl.2.2.1 (Up w.params es m t #[]) D1 fun s2 D2=>?_
 refine qC (S':=uT w.params (aI es m t #[])) pl.2.2.2.1 (Uk w.params es m t #[]) D2 fun s3 D3=>?_
 refine qC (S':=uN w.params (aI es m t #[])) pl.2.2.2.2.1 (S4 w.params es m t #[]) D3 fun s4 D4=>?_
 refine qC (S':=rK w.params (aI es m t #[])) pl.2.2.2.2.2 (TA w.params es m t #[]) D4 fun s5 D5=>?_
 refine vI ?_;have e:=Ud w.params es m t #[];unfold vM at e;rw[show lQ (stm 20)=.List _ (ES (lQ (stm 20))) from eq] at e;exact jU (S':=Pn w.params (aI es m t #[])) e D5 k
theorem Ue(D:bG w os none (S6 w.params) s)(k:∀ s' es m t,bG w os none (S7 w.params (aI es m t #[])) s'→iS w (aI es m t #[])→Q .next ⟨211,4,211,7⟩ s')(p:Pos):Sem.wp (model prog w) Γ2 (exec st0 dO) Q E p s:=by
 rw[GQ,arm_exec_Assign,Sem.wp_bind'];show Sem.wp _ _ (_ >>= _) _ _ (wD st0) s;rw[Sem.wp_bind'];refine jU (S':=S6 w.params) (SV w.params) D fun s1 D1=>?_
 rw[if_neg Bool.false_ne_true,Sem.wp_bind'];refine zi D1 fun s2 es m t p' D2 ok=>?_
 exact jU (S':=S7 w.params (aI es m t #[])) (r6 w.params es m t #[] p') D2 fun s3 D3=>k s3 es m t D3 ok
theorem B5(D:bG w os none (S6 w.params) s){R:Result→Shared→Prop}(k:∀ s' es m t,bG w os none (Ph w.params (aI es m t #[])) s'→iS w (aI es m t #[])→R (.ok .next) s'):wpCode (model prog w) Γ2 R wx s:=by
 rw[wpCode_iff_wp];show Sem.wp (model prog w) Γ2 ((blockStart mO dO).bind (fun _=>((execs mO dO).onRaise (leaving dO)).bind fun f=>(Sem.pure (Fin.done f):Sem Fin))) _ _ _ _;rw[Sem.wp_bind];refine jU (S':=S6 w.params) (TJ w.params) D fun s1 D1=>?_
 rw[Sem.wp_bind,Sem.wp_onRaise,ub];refine rv (Ue D1 (fun s2 es m t D2 ok=>?_) _);dsimp only;refine vc _ _ _ _ (jU (S':=QE w.params (aI es m t #[])) (Ua w.params es m t #[]) D2 fun s3 D3=>?_);dsimp only;refine vc _ _ _ _ (jU (S':=Jf w.params (aI es m t #[])) (TX w.params es m t #[]) D3 fun s4 D4=>?_);dsimp only;refine rv (PO D4 (fun s5 D5=>?_) _);dsimp only;refine rv (QD D5 (fun s6 D6=>?_) _);dsimp only;refine jU (S':=Ph w.params (aI es m t #[])) (TV w.params es m t #[]) D6 fun s7 D7=>?_
 exact k s7 es m t D7 ok
theorem Em(D:bG w os none (S1 w.params) s){R:Result→Shared→Prop}(k:∀ s' es m t,bG w os none (S9 w.params (aI es m t #[])) s'→iS w (aI es m t #[])→R (.ok .next) s'):wpCode (model prog w) Γ1 R default s:=by
 rw[wpCode_iff_wp];have e:(model prog w).den Γ1.code=iY c0:=congrFun zZ c0;rw[e];refine EV (S':=S6 w.params) (u2 w.params) D fun s1 D1=>?_
 refine B5 D1 fun s2 es m t D2 ok=>?_
 exact E8 (S':=S9 w.params (aI es m t #[])) (r9 w.params es m t #[]) D2 fun s3 D3=>k s3 es m t D3 ok
end
section
set_option tactic.hygienic false
theorem PZ(p:Params)(es:Array (Int×Value))(m:Nat)(t:SetTable)(sl:Array (Option Value)):
  ((both iY (stg p) 5000).c Γ0 default (S9 p (aI es m t sl)) (Q1 (U1 p) (.ok .next))).map (fun x=>(x.1,lay x.2.tree (T9 p (aI es m t sl)),x.2.n,x.2.toks))=some (.ok (.ret .none),T9 p (aI es m t sl),1034,3574):=by rfl'
section
variable {w:World}{os:OsState}{s:Shared}
theorem Hk(D:bG w os none (S0 w.params) s){R:Result→Shared→Prop}(k:∀ s' es m t,bG w os none (S9 w.params (aI es m t #[])) s'→iS w (aI es m t #[])→R (.ok (.ret .none)) s'):
  Sem.wp (model prog w) Γ0 zJ (Sem.finPost (model prog w) Γ0 R) (fun e _ s'=>R (.error e) s') default s:=by
 refine EV (S':=S1 w.params) (u1 w.params) D fun s1 D1=>?_
 refine Em D1 fun s2 es m t D2 ok=>?_
 exact E8 (S':=S9 w.params (aI es m t #[])) (PZ w.params es m t #[]) D2 fun s3 D3=>k s3 es m t D3 ok
end
theorem gh{s s':Shared}{t:Thread}{o:Outcome}{P:Prop}(h:Step.go s t=.halt o s'):P:=nomatch h
noncomputable def wj(o:Outcome):Bool:=match o with | .done _=>false | _=>true
theorem hh{s s':Shared}{o:Outcome}{f:Flow}{P:Prop}(q:wj o=true)(h:Step.halt o s=.halt (.done f) s'):P:=by
 injection h with h;rw[h] at q;cases q
theorem ih{c:Prop}[Decidable c]{a b x:Step}{P:Prop}(ha:a=x→P)(hb:b=x→P)(h:ite c a b=x):P:=by
 by_cases q:c
 ·exact ha (by rw[←h,if_pos q])
 ·exact hb (by rw[←h,if_neg q])
theorem IY{s s':Shared}{o:Outcome}{f:Flow}{P:Prop}(q:wj o=true)(h:finish o s=.halt (.done f) s'):P:=
 ih (hh rfl) (hh q) h
theorem xQ{den:Code→Sem Fin}{pr:Program}{w:World}{s s':Shared}{t:Thread}{f:Flow}(h:step den pr w s t=.halt (.done f) s'):through t=true:=by
 obtain⟨heap,gens,drawn,toks,os⟩:=s;obtain⟨J,code,pos,stack⟩:=t
 induction J using Sem.casesOn with
 | pure v=>
  induction v using PySem.Fin.casesOn with
  | again=>exact gh h
  | done=>
   induction stack using zL with
   | nil=>rfl
   | cons x _=>induction x using Frame.casesOn<;>exact gh h
 | raise=>
  induction stack using zL with
  | nil=>exact IY (by rfl) h
  | cons x _=>induction x using Frame.casesOn<;>exact gh h
 | load a=>
  dsimp only[step] at h;generalize heap.get? a=o at h
  induction o using zO<;>first | exact gh h | exact hh (by rfl) h
 | genState a=>
  dsimp only[step] at h;generalize gens[a]?=o at h
  induction o using zO<;>first | exact gh h | exact hh (by rfl) h
 | resume a r=>
  dsimp only[step] at h;generalize gens[a]?=o at h
  induction o using zO with
  | none=>exact hh (by rfl) h
  | some x=>induction x using GenState.casesOn with
   | fresh=>induction r using Resume.casesOn with
    | send v=>induction v using Value.casesOn<;>exact gh h
    | throw=>exact gh h
   | _=>exact gh h
 | yield=>
  dsimp only[step] at h;generalize splitAtGen stack=o at h
  induction o using zO<;>first | exact gh h | exact hh (by rfl) h
 | _=>first | exact gh h | exact hh (by rfl) h | exact ih (hh (by rfl)) (hh (by rfl)) h | exact ih (hh (by rfl)) gh h | exact ih gh (hh (by rfl)) h
theorem pR{den:Code→Sem Fin}{pr:Program}{w:World}{o:Outcome}{s':Shared}:∀ (n:Nat) (s:Shared) (t:Thread),runN den pr w n s t=.halted o s'→∃ m s₁ t₁,runN den pr w m s t=.running s₁ t₁∧step den pr w s₁ t₁=.halt o s'
 | 0,s,t,h=>by cases h
 | n+1,s,t,h=>by
  simp only[runN] at h;cases hs:step den pr w s t with
  | halt o₂ s₂=>simp only[hs] at h;cases h;exact⟨0,s,t,rfl,hs⟩
  | go s₂ t₂=>
   simp only[hs] at h;refine gy (pR n s₂ t₂ h) fun m s₁ t₁ zz=>And.elim (fun a b=>?_) zz
   exact⟨m+1,s₁,t₁,by simp only[runN,hs];exact a,b⟩
theorem ur{s' s'':Shared}(h:s''.forget=s'.forget)(g:s'.gens = #[]):s''=s':=by
 obtain⟨h1,g1,d1,t1,o1⟩:=s';obtain⟨h2,g2,d2,t2,o2⟩:=s'';simp only[Shared.forget,Shared.mk.injEq] at h g ⊢;obtain⟨a,b,c,d,e⟩:=h;subst g;refine⟨a,?_,c,d,e⟩;have b:g2.map GenState.forget = #[]:=by rw[b];simp
 have:=congrArg Array.size b;rw[Array.size_map] at this;exact Array.eq_empty_of_size_eq_zero this
theorem B4{w:World}{s:Shared}(hz:s.asleep)(D:bG w s.os none (S0 w.params) s):∃ s₁ es m t,(∃ n t₁,schedN (denote table) prog w n (.single s (topStub prog))=.running (.single s₁ t₁)∧through t₁=true)∧s₁.heap.life=s.heap.life∧
  bG w s.os none (S9 w.params (aI es m t #[])) s₁∧iS w (aI es m t #[]):=by
 have W:=Hk (R:=fun r s'=>(r=.ok (.ret .none)∧∃ es m t,bG w s.os none (S9 w.params (aI es m t #[])) s'∧iS w (aI es m t #[]))∧leftWithCleanup s'.gens=false) D
  (fun s' es m t D' ok=>⟨⟨rfl,es,m,t,D',ok⟩,by rw[D'.gens];simp[leftWithCleanup]⟩)
 obtain⟨n,r,s',hn,hr,es,m,t,D',ok⟩:=(wp_iff_halts (M:=model prog w) zJ (fun r s'=>r=.ok (.ret .none)∧∃ es m t,bG w s.os none (S9 w.params (aI es m t #[])) s'∧iS w (aI es m t #[])) default s).mp W;subst hr;refine Exists.elim (runNI_real (denote table) prog w hn (outcomeOf_ends _)) fun s'' zz=>ee zz fun hrun hf hc=>?_
 obtain rfl:=ur hf D'.gens;have hne:∀ k s₂,runN (denote table) prog w k s (topStub prog)≠.halted (.unsupported "lifetime:generator-with-cleanup-left-suspended") s₂:=by
  intro k s₂ hk;have a:=runN_mono (denote table) prog w n k s (topStub prog) _ s'' hrun;have b:=runN_mono (denote table) prog w k n s (topStub prog) _ s₂ hk;rw[Nat.add_comm,b] at a;injection a with a1 _
  cases a1
 refine gy (pR n s (topStub prog) hrun) fun k s₁ t₁ zz=>And.elim (fun e1 e2=>?_) zz
 have e3:=step_halt_same (denote table) prog w _ _ _ _ e2;subst e3;refine⟨s'',es,m,t,⟨k,t₁,?_,xQ e2⟩,?_,D',ok⟩
 ·rw[schedN_eq_runN (denote table) prog w s (topStub prog) hz ⟨hc,hne⟩ k,e1];rfl
 ·exact runN_life _ _ _ hrun
theorem Pg(i:Nat):BT.nil.get i=none:=rfl
noncomputable def mx:BT→Nat
 | .nil=>0
 | .node _ l r=>max 1 (max (2*mx l) (2*mx r+1))
theorem HM{o:Obj}:∀ (t:BT) (a:Nat),t.get a=some o→a<mx t:=by
 intro t
 induction t with
 | nil=>intro a h;exact Internal.nn h
 | node v l r il ir=>
  intro a h;rw[BT.get_node] at h;show a<max 1 (max (2*mx l) (2*mx r+1));by_cases h0:a=0
  ·rw[h0];exact lt_of_lt_of_le Nat.one_pos (Nat.le_max_left _ _)
  ·rw[if_neg h0] at h;by_cases h1:a % 2=1
   ·rw[if_pos h1] at h;have:=il _ h;exact lt_of_lt_of_le (show a<2*mx l by ext) (le_trans (Nat.le_max_left _ _) (Nat.le_max_right _ _))
   ·rw[if_neg h1] at h;have:=ir _ h;exact lt_of_lt_of_le (show a<2*mx r+1 by ext) (le_trans (Nat.le_max_right _ _) (Nat.le_max_right _ _))
theorem NQ(p:Params)(a:Nat)(o:Obj)(h:(T0 p).get a=some o):a<11:=HM (T0 p) a h
theorem Ls:∀ a,a<11→a=0∨a=1∨a=2∨a=3∨a=4∨a=5∨a=6∨a=7∨a=8∨a=9∨a=10:=by decide
theorem JN(p:Params)(a:Nat)(o:Obj)(e:(S0 p).ld a=some o):(boot_heap p).get? a=some o:=by
 have lt:a<11:=by
  unfold ST.ld at e;cases h:(S0 p).tree.get a with
  | none=>rw[h] at e;cases e
  | some o'=>exact NQ p a o' h
 have key:∀ k,(S0 p).ld k=(boot_heap p).get? k→(S0 p).ld k=some o→(boot_heap p).get? k=some o:=fun k h1 h2=>h1 ▸ h2
 rcases Ls a lt with rfl | rfl | rfl | rfl | rfl | rfl | rfl | rfl | rfl | rfl | rfl
 all_goals exact key _ (by rfl') e
theorem M8{w:World}{s:Shared}(h1:s.heap=boot_heap w.params)(h2:s.gens = #[])(h3:s.drawn=boot_drawn)(h4:s.toks=boot_toks):bG w s.os none (S0 w.params) s:=
 ⟨by rw[h1];rfl,fun a o e=>by rw[h1];exact JN _ _ _ e,h4,h2,h3,rfl,fun a o e=>by cases e⟩
noncomputable def Hs(p:Params):Heap:=⟨#[boot_o_0 p,boot_o_1 p,Pc p,Pq p,qY p,ry p,sd p],(boot_heap p).life⟩
section
variable (p:Params)
theorem l1:staticsOk (importedModules prog.main.body) (boot_heap p) (Hs p)=true:=by rfl'
theorem l2:namesBound prog (Hs p)=true:=by rfl'
theorem l3:laidKept (boot_heap p) (Hs p)=true:=by rfl'
theorem l4:(Hs p).accountedOkI (importedModules prog.main.body)=true:=by rfl'
theorem l5:(Hs p).isNs mainGlobals=true:=by rfl'
theorem l6:(Hs p).isNs builtinsNs=true:=by rfl'
theorem l8:globalOf (Hs p) "__builtins__"=some (.ref 4):=by rfl'
theorem l7:(Hs p).bltView=bltViewBooted:=by rfl'
end
theorem Gm(p:Params)(g:Obj):(K p).map (fun x=>(S9 p g).ld x.1)=(K p).map (fun x=>some x.2):=by rfl'
theorem oY{a:Addr}{o:Obj}:∀ {l:Frag},l.lookup a=some o→(a,o)∈l
 | [],h=>by cases h
 | (b,x) :: r,h=>by
  rw[List.lookup_cons] at h;by_cases q:a=b
  ·subst q;rw[beq_self_eq_true] at h;cases h;exact .head _
  ·rw[beq_eq_false_iff_ne.mpr q] at h;exact .tail _ (oY h)
theorem lP{α β:Type}{f g:α→β}:∀ {l:List α},l.map f=l.map g→∀ x∈l,f x=g x
 | [],_,x,h=>by cases h
 | a :: r,e,x,h=>by
  obtain⟨e1,e2⟩:=List.cons.inj e;cases h with
  | head=>exact e1
  | tail _ h=>exact lP e2 x h
section
variable {w:World}{os:OsState}{g:Obj}{s:Shared}
theorem QC(D:bG w os none (S9 w.params g) s):(K w.params).In s.heap:=fun a o e=>D.get a o (lP (Gm w.params g) (a,o) (oY e))
theorem HF(p:Params)(g:Obj):[(S9 p g).ld 0,(S9 p g).ld 1,(S9 p g).ld 2,(S9 p g).ld 3,(S9 p g).ld 4,(S9 p g).ld 5,(S9 p g).ld 6]=[some (boot_o_0 p),some (boot_o_1 p),some (Pc p),some (Pq p),some (qY p),some (ry p),some (sd p)]:=by rfl'
theorem boots(p:Params)(g:Obj):[0,1,4,5,6,7,8,9,10].map (S9 p g).ld=[0,1,4,5,6,7,8,9,10].map fun a=>(boot_heap p).get? a:=by rfl'
theorem Qp(p:Params)(es:Array (Int×Value))(m:Nat)(t:SetTable)(sl:Array (Option Value)):(S9 p (aI es m t sl)).ld 230=some (aI es m t sl):=by rfl'
theorem nH(D:bG w os none (S9 w.params g) s)(a:Nat)(h:a<7):s.heap.get? a=(Hs w.params).get? a∧((Hs w.params).get? a).isSome=true:=by
 have L:=HF w.params g;simp only[List.cons.injEq,and_true] at L;refine Pr (L) fun h0 h1 h2 h3 h4 h5 h6=>?_
 have:a=0∨a=1∨a=2∨a=3∨a=4∨a=5∨a=6:=by ext
 rcases this with rfl | rfl | rfl | rfl | rfl | rfl | rfl
 ·rw[D.get _ _ h0];exact⟨rfl,rfl⟩
 ·rw[D.get _ _ h1];exact⟨rfl,rfl⟩
 ·rw[D.get _ _ h2];exact⟨rfl,rfl⟩
 ·rw[D.get _ _ h3];exact⟨rfl,rfl⟩
 ·rw[D.get _ _ h4];exact⟨rfl,rfl⟩
 ·rw[D.get _ _ h5];exact⟨rfl,rfl⟩
 ·rw[D.get _ _ h6];exact⟨rfl,rfl⟩
theorem jQ(D:bG w os none (S9 w.params g) s)(a:Nat)(o:Obj)(e:(Hs w.params).get? a=some o):s.heap.get? a=some o:=by
 have lt:a<7:=by
  cases Nat.lt_or_ge a 7 with
  | inl h=>exact h
  | inr h=>
   exfalso
   have:(Hs w.params).get? a=none:=by
    unfold Heap.get?;have:(Hs w.params).objs[a]?=none:=by
     rw[Array.getElem?_eq_none];exact h
    rw[this]
   rw[this] at e;cases e
 rw[(nH D a lt).1,e]
theorem mP(D:bG w os none (S9 w.params g) s)(k:Str):staticOf s.heap k=staticOf (Hs w.params) k:=by
 unfold staticOf;rw[(nH D cStatics (by decide)).1]
theorem fg(D:bG w os none (S9 w.params g) s)(k:Str):globalOf s.heap k=globalOf (Hs w.params) k:=by
 unfold globalOf;rw[(nH D mainNs (by decide)).1]
theorem qI(D:bG w os none (S9 w.params g) s)(k:Str):builtinOf s.heap k=builtinOf (Hs w.params) k:=by
 unfold builtinOf;rw[(nH D builtinsNs (by decide)).1]
theorem noseer(p:Params):(Hs p).noSeerOk=true:=by rfl'
theorem nolim(p:Params):(Hs p).nsMap cStatics "sys.recursionlimit"=none:=by rfl'
theorem RG(p:Params):(Hs p).isNs cStatics=true:=by rfl'
theorem nB(p:Params):(Hs p).nsMap mainGlobals "__builtins__"=some (.ref 4):=by rfl'
theorem Si(p:Params):(Hs p).get? 4=some (qY p):=by rfl'
theorem seer(p:Params):(Hs p).NoSeer:=by
 have e:=noseer p;unfold Heap.noSeerOk at e;simp only[Bool.and_eq_true,Option.isNone_iff_eq_none] at e;obtain⟨⟨⟨⟨c1,c2⟩,c3⟩,m1⟩,m2⟩:=e;exact⟨⟨_,.of_isNs c1,c2,c3⟩,⟨_,.of_isNs m1,m2⟩,⟨_,.of_isNs (l6 p),fun x hx=>Heap.of_bltView (l6 p) (l7 p) x hx⟩,⟨_,4,qY p,.of_isNs (l5 p),nB p,Si p,rfl,rfl⟩⟩
theorem oa{h h':Heap}(x:h.NoSeer)(hk:∀ b o,h.get? b=some o→h'.get? b=some o):h'.NoSeer:=by
 obtain⟨⟨mc,a1,a2⟩,⟨mm,b1,b2⟩,⟨mb,c1,c2⟩,⟨mg,bm,ob,d1,d2,d3,d4⟩⟩:=x;exact⟨⟨mc,a1.keeps hk,a2⟩,⟨mm,b1.keeps hk,b2⟩,⟨mb,c1.keeps hk,c2⟩,⟨mg,bm,ob,d1.keeps hk,d2,hk _ _ d3,d4⟩⟩
theorem DD{es:Array (Int×Value)}{m:Nat}{t:SetTable}(D:bG w os none (S9 w.params (aI es m t #[])) s)(ok:iS w (aI es m t #[])):Internal.kg w s.heap:=by
 refine ed (ok) fun S n zz=>ee zz fun hso hn e=>?_
 refine⟨QC D,oa (seer w.params) (jQ D),?_,⟨S,n,hso.setOf (D.get _ _ (Qp _ _ _ _ _)) hn,hn,e⟩⟩;exact Heap.NoLimit.keeps ⟨_,.of_isNs (RG w.params),nolim w.params⟩ (jQ D)
theorem uV{h h':Heap}(B:Internal.kg w h)(hk:∀ b o,h.get? b=some o→h'.get? b=some o):Internal.kg w h':=by
 refine ed (B.gv) fun S n zz=>ee zz fun zn2 hn e=>?_
 refine jI (zn2) fun o es ep t zz=>And.elim (fun ho r=>?_) zz
 exact⟨B.k.keeps hk,oa B.seer hk,B.nolimit.keeps hk,⟨S,n,⟨o,es,ep,t,hk _ _ ho,r⟩,hn,e⟩⟩
end
theorem Dv(p:Params)(a:Nat)(h:a<11):a=0∨a=1∨a=2∨a=3∨a=4∨a=5∨a=6∨a=7∨a=8∨a=9∨a=10:=Ls a h
theorem Cy:opening prog=plainProg prog.main.scope.names:=by rfl'
theorem Al(s:Shared):fenceModules? prog s=some s:=by rfl'
theorem ran{w:World}{s s₁:Shared}{es:Array (Int×Value)}{m:Nat}{t:SetTable}(hh:s.heap=boot_heap w.params)
  (hrun:∃ n t₁,schedN (denote table) prog w n (.single s (topStub prog))=.running (.single s₁ t₁)∧through t₁=true) (hl:s₁.heap.life=s.heap.life) (D:bG w s.os none (S9 w.params (aI es m t #[])) s₁):TopRan prog w s s₁:=by
 have nsS1:(Hs w.params).isNs cStatics=true:=RG w.params;refine⟨hrun,hl,Shared.rest_eq D.os,fun b o hb hn=>?_,?_,?_,?_,?_,?_,?_,?_,?_⟩
 ·rw[hh] at hb hn;have lt:b<11:=Heap.lt_size hb;have ne2:b≠2:=fun q=>hn (.inr (.inl q))
  have ne3:b≠3:=fun q=>hn (.inl q)
  have L:=boots w.params (aI es m t #[]);simp only[map_cons,List.map_nil,List.cons.injEq,and_true] at L;obtain⟨h0,h1,h4,h5,h6,h7,h8,h9,h10⟩:=L;rcases Dv w.params b lt with rfl | rfl | rfl | rfl | rfl | rfl | rfl | rfl | rfl | rfl | rfl
  ·exact D.get _ _ (h0.trans hb)
  ·exact D.get _ _ (h1.trans hb)
  ·exact absurd rfl ne2
  ·exact absurd rfl ne3
  ·exact D.get _ _ (h4.trans hb)
  ·exact D.get _ _ (h5.trans hb)
  ·exact D.get _ _ (h6.trans hb)
  ·exact D.get _ _ (h7.trans hb)
  ·exact D.get _ _ (h8.trans hb)
  ·exact D.get _ _ (h9.trans hb)
  ·exact D.get _ _ (h10.trans hb)
 ·have A:=Heap.accountedI_of_ok (l4 w.params);unfold staticsAccountedI at A ⊢;simp only[mP D];exact A
 ·have A:=statics_of_ok (l1 w.params);unfold staticsBehindTheTop at A ⊢;simp only[mP D,hh];exact A
 ·refine gy (Pin.keysAreStrs_of (l5 w.params)) fun o es' n zz=>ee zz fun a b c=>?_
  exact⟨o,es',n,jQ D _ _ a,b,c⟩
 ·intro x hx;rw[qI D,Pin.builtinOf_eq (l6 w.params)];exact Heap.of_bltView (l6 w.params) (l7 w.params) x hx
 ·exact⟨4,qY w.params,(fg D _).trans (l8 w.params),jQ D _ _ (Si w.params),rfl,rfl⟩
 ·rw[D.gens];exact fun g hg=>by simp at hg
 ·intro x v hv;rw[fg D] at hv;exact names_of_bound (l2 w.params) x v hv
 ·intro x hx;rw[fg D,hh];exact laid_of_kept (l3 w.params) x hx
theorem head(w:World):(∃ s,AfterRun (opening prog) w s)∧∀ s,AfterRun (opening prog) w s→∃ s₀,fenceModules? prog s=some s₀∧s₀.gens = #[]∧∃ s₁,TopRan prog w s₀ s₁∧s₁.asleep∧s₁.gens = #[]∧Internal.kg w s₁.heap∧0<s₁.toks∧
  (∀ a o,(Hs w.params).get? a=some o→s₁.heap.get? a=some o)∧(∀ k,globalOf s₁.heap k=globalOf (Hs w.params) k):=by
 obtain⟨s,hs,hv⟩:=Option.map_eq_some_iff.mp (boot_plain w prog.main.scope.names);rw[←Cy,←table_eq_tree] at hs;have A:=AfterImport.of_importEnds hs;refine⟨⟨s,A⟩,fun s' hs'=>?_⟩;obtain rfl:s'=s:=AfterImport.unique hs' A;obtain⟨h1,h2,h3,h4⟩:s'.heap=boot_heap w.params∧s'.gens = #[]∧s'.drawn=boot_drawn∧s'.toks=boot_toks:=by simpa using hv
 have z:s'.asleep:=A.life;refine jI (B4 z (M8 h1 h2 h3 h4)) fun s₁ es m t zz=>pK zz fun hrun hl D ok=>?_
 refine⟨s',Al s',h2,s₁,ran h1 hrun hl D,Shared.asleep_of_life hl z,D.gens,DD D ok,?_,jQ D,fg D⟩;rw[D.toks];show 0<3574;decide
end
noncomputable abbrev row:OpenRow:=PySem.Challenge.rw_ai0036_01.row
theorem GR{d:WData}(h:WShape.has [] d .int=true):∃ i,d=.int i:=by
 cases d<;>first | exact⟨_,rfl⟩ | exact absurd h Bool.false_ne_true
theorem vo:∀ {xs:List WData},WShape.hasItems [] xs .int=true→∃ is:List Int,xs=is.map .int
 | [],_=>⟨[],rfl⟩
 | x :: xs,h=>by
  have h:=Bool.and_eq_true_iff.mp (show (WShape.has [] x .int&&WShape.hasItems [] xs .int)=true from h);obtain⟨i,rfl⟩:=GR h.1;obtain⟨is,rfl⟩:=vo h.2;exact⟨i :: is,rfl⟩
theorem FU{args:List WData}(h:WShape.hasAll [] args [.list .int]=true):∃ is:List Int,args=[.list (is.map .int)]:=by
 obtain⟨d,r,rfl,h1,h2⟩:=hasAllW_cons h;have:r=[]:=by
  induction r using zL with
  | nil=>rfl
  | cons x y=>exact absurd h2 Bool.false_ne_true
 subst this;cases d<;>first
  | (obtain⟨is,rfl⟩:=vo (show WShape.hasItems [] _ .int=true from (Bool.or_false _).symm.trans h1);exact⟨is,rfl⟩)
  | exact absurd h1 Bool.false_ne_true
section
variable {R:WRecords}{cl:Str→Option Addr}{P:Params}{ord:List DictEntry→List DictEntry}
theorem sw:∀ (is:List Int) (s:Shared) (r:List Value×Shared),layAllW R cl P ord (is.map .int) s=some r→s.toks≤r.2.toks
 | [],s,r,h=>by simp only[List.map_nil,layAllW,Option.some.injEq] at h;subst h;exact le_refl _
 | i :: is,s,r,h=>by
  obtain⟨a,q,ha,hq,rfl⟩:=layAllW_cons h;simp only[layW,Option.some.injEq] at ha;subst ha;have:=sw is _ q hq;exact le_of_succ_le this
theorem xi{is:List Int}{s:Shared}{r:List Value×Shared}(h:layAllW R cl P ord [.list (is.map .int)] s=some r):s.toks≤r.2.toks:=by
 obtain⟨a,q,ha,hq,rfl⟩:=layAllW_cons h;simp only[layAllW,Option.some.injEq] at hq;subst hq;simp only[layW] at ha;split at ha
 ·rename_i r' hr';simp only[Option.some.injEq] at ha;subst ha;exact sw is s r' hr'
 ·cases ha
end
section
variable {R:WRecords}{cl:Str→Option Addr}{h:Heap}{vs:List Value}{v:Value}
def RI(R:WRecords)(cl:Str→Option Addr)(h:Heap)(v:Value)(d:WData):Prop:=match d with
 | .int i=>∃ t,v=.int i t
 | .list xs=>∃ (a:Addr) (o:Obj) (us:Array Value) (n:Nat) (as:List Addr),v=.ref a∧h.get? a=some o∧o.cls=.type "list" ∧ o.data=.seq us n∧ReadsAllW R cl h us.toList xs as
 | _=>True
theorem zU{d:WData}{as:List Addr}(x:ReadsW R cl h v d as):RI R cl h v d:=by
 induction x using ReadsW.casesOn with
 | int i t=>exact⟨t,rfl⟩
 | list h1 h2 h3 h4=>exact⟨_,_,_,_,_,rfl,h1,h2,h3,h4⟩
 | _=>exact trivial
def Uc(R:WRecords)(cl:Str→Option Addr)(h:Heap)(vs:List Value)(ds:List WData):Prop:=match ds with
 | []=>vs=[]
 | d :: r=>∃ (v:Value) (ws:List Value) (as bs:List Addr),vs=v :: ws∧ReadsW R cl h v d as∧ReadsAllW R cl h ws r bs
theorem qH{ds:List WData}{as:List Addr}(x:ReadsAllW R cl h vs ds as):Uc R cl h vs ds:=by
 induction x using ReadsAllW.casesOn with
 | nil=>exact rfl
 | cons h1 h2=>exact⟨_,_,_,_,rfl,h1,h2⟩
end
theorem ue{R:WRecords}{cl:Str→Option Addr}{h:Heap}{vs:List Value}{is:List Int}{as:List Addr}(x:ReadsAllW R cl h vs [.list (is.map .int)] as):∃ (a:Addr) (o:Obj) (us:List Value) (n:Nat),vs=[.ref a]∧h.get? a=some o∧o.cls=.type "list" ∧ o.data=.seq us.toArray n∧∀ c h',Internal.RepL c h' us (is.map Internal.V.int):=by
 obtain⟨v,ws,_,_,rfl,h1,h2⟩:=qH x;obtain rfl:ws=[]:=qH h2;obtain⟨a,o,us,n,as,rfl,ho,hc,hd,hr⟩:=zU h1;refine⟨a,o,us.toList,n,rfl,ho,hc,by rw[hd,Array.toArray_toList],fun c h'=>?_⟩;generalize us.toList=l at hr;clear hd x h1 h2
 induction is generalizing l as with
 | nil=>obtain rfl:l=[]:=qH hr;exact .nil
 | cons i is ih=>
  obtain⟨v,ws,as',bs,rfl,h1,h2⟩:=qH hr;obtain⟨t,rfl⟩:=zU h1;exact .cons (.int _ _) (ih _ _ h2)
theorem GG(p:Params):(Hs p).nsMap mainGlobals "law"=some (.ref 1033):=by rfl'
theorem za(p:Params):globalOf (Hs p) "law"=some (.ref 1033):=by rfl'
theorem zk(p:Params):(K p).lookup 1033=some (rL p):=by rfl'
theorem qe:(sD (tp 28)).defaults=[]∧kwWritten? (sD (tp 28)).kwonlyargs (sD (tp 28)).kw_defaults=some []:=⟨by rfl',by rfl'⟩
def KZ(nums:List Int):Prop:=∃ (n:Nat) (ends words due:List Internal.V) (locA slfA locB slfB slfC slfD:Internal.af) (w0 d0:List Nat),n≤470∧Internal.uU n (nums.map Internal.V.int) ends words due locA slfA locB slfB slfC slfD w0 d0
theorem pins(w:World){h:Heap}(B:Internal.kg w h)(hg:∀ k,globalOf h k=globalOf (Hs w.params) k):∀ n∈(if row.pinned then [row.name] else []),isTheDefsW prog h n:=by
 intro n hn;have e:n=("law":Str):=by
  have:row.pinned=true∧n=row.name:=by simpa using hn
  exact this.2
 subst e;refine⟨1033,rL w.params,_,sD (tp 28),br (tp 28),aJ (tp 28),(hg _).trans (za _),B.k _ _ (zk _),rfl,(by rfl'),rfl,rfl,rfl,rfl,rfl,rfl,rfl,rfl,?_⟩;exact⟨.inl ⟨qe.1,rfl⟩,[],qe.2,.inl ⟨rfl,rfl⟩⟩
theorem wJ(args:List WData):row.toRowW.claim.post args (.bool true) args=true:=by rfl'
set_option backward.match.sparseCases true in
theorem xw(said:row.wellSaid=true)(H:∀ nums:List Int,nums.length≤63→KZ nums):row.Holds:=by
 refine⟨said,⟨[.list []],by decide+kernel,by decide+kernel⟩,⟨⟨rfl,rfl,rfl,rfl,rfl,by decide+kernel⟩,by rfl',rfl⟩,⟨[.list []],by decide+kernel,by decide+kernel⟩,fun w=>⟨(head w).1,fun s' hs'=>?_⟩⟩;obtain⟨s₀,hf,hg0,s,hT,hz,hgens,B,tk,hk,hglob⟩:=(head w).2 s' hs';refine⟨s₀,hf,hg0,s,hT,pins w B hglob,(fun x hx=>nomatch hx),(fun x hx=>nomatch hx),?_⟩;refine ClaimW.callFrom_of_specG (c:=row.toRowW.claim) hz hgens fun args hpre hlay ord hord=>?_
 have hsp:=pre_splitW hpre;obtain⟨⟨vs,s₁⟩,hlaid⟩:=Option.isSome_iff_exists.mp (layAllW_isSome (P:=w.params) (ord:=ord) (R:=row.toRowW.records) (cl:=classAt s.heap) (fun c hc=>nomatch hc) args row.args s hsp.1);have keeps:=layAllW_keeps _ _ _ hlaid;have hal:=layAllW_rest _ _ _ hlaid;refine Exists.elim (reads_layAllW hord _ _ _ hlaid hlay s₁.heap (fun _ _ e=>e)) fun as zz=>ee zz fun hrd hin hold=>?_
 have L:PySem.W.Laid row.toRowW.records w s s₁ args vs as:=⟨⟨ord,hord,hlaid⟩,hrd,hin,hold,keeps,hal.1.trans hgens,hal.2.2.1⟩;obtain⟨is,rfl⟩:=FU hsp.1;have len:is.length≤63:=by
  have h:=hsp.2;unfold WTm.holds at h;rw[show row.toRowW.pre=.and (.not (.lt (.lit (.int 63)) (.len (.arg 0)))) (.lit (.bool true)) from rfl] at h;have e:WTm.value ([]:WRecords) (.and (.not (.lt (.lit (.int 63)) (.len (.arg 0)))) (.lit (.bool true))) { args:=[.list (is.map .int)] }=some (.bool (!decide ((63:Int)<((is.map WData.int).length:Nat)))):=by
   cases q:decide ((63:Int)<((is.map WData.int).length:Nat))<;>simp only[WTm.value,less?,Num.less?,List.getElem?_cons_zero,Option.map_some,q]<;>rfl
  have h:(match WTm.value ([]:WRecords) (.and (.not (.lt (.lit (.int 63)) (.len (.arg 0)))) (.lit (.bool true))) { args:=[.list (is.map .int)] } with | some (.bool true)=>true | _=>false)=true:=h;rw[e,length_map] at h;cases q:decide ((63:Int)<(is.length:Nat)) with
  | false=>have:=of_decide_eq_false q;ext
  | true=>rw[q] at h;cases h
 refine jI (ue hrd) fun a o us m zz=>I5 zz fun zq4 ho hc hd hr=>?_
 subst zq4;obtain⟨n,ends,words,due,locA,slfA,locB,slfB,slfC,slfD,w0,d0,hn,run⟩:=H is len;have tk1:0<s₁.toks:=lt_of_lt_of_le tk (xi hlaid);refine⟨[.ref a],s₁,hlaid,?_⟩;have hNs:s₁.heap.Ns mainNs ((Hs w.params).nsMap mainGlobals):=(Heap.Ns.of_isNs (l5 w.params)).keeps fun b o e=>keeps _ _ (hk _ _ e)
 refine wpAny_bind (wpAny_nsGet hNs ?_);rw[show (Hs w.params).nsMap mainGlobals row.name=some (.ref 1033) from GG w.params];refine wpAny_bind (wpAny_call ?_);refine Internal.Aw (uV B keeps) run (fun _ _ e=>e) tk1 rfl rfl ⟨by show 1+claimMargin+(n+70)<850;have:claimMargin=300:=rfl;ext,by show 4+12*(n+70)<9800;ext⟩ ho hc hd hr fun s2 hs2 sm=>?_
 refine wpAny_pure ?_;have G:GoodWG row.toRowW.claim (classAt s.heap) (ExcName.means s.heap) [.list (is.map .int)] s₁ (.ok (.ret (.bool true))) s2:=by
  refine⟨.inl ⟨.bool true,.bool true,[],rfl,fun cls=>rfl,.bool true,wJ _,fun _=>⟨.nil,fun _ h=>nomatch h⟩⟩,.of_keep hs2,sm.2,?_⟩;exact .of_eq (sm.1.trans L.gens)
 have z:=G.laid (c:=row.toRowW.claim) rfl rfl (ident_freeW rfl rfl rfl) L;exact⟨_,rfl,z.1,z.2.1,z.2.2,fun q=>by cases q⟩
theorem ws:PySem.Challenge.rw_ai0036_01.wellSaid=true:=by
 unfold OpenLaw.wellSaid OpenRow.wellSaid OpenRow.partSaid looksOpen
 repeat' with_reducible apply look_both
 all_goals decide +kernel
theorem xn(H:∀ nums:List Int,nums.length≤63→KZ nums):PySem.Challenge.rw_ai0036_01.Holds:=holds_law ws fun said=>xw said H
end Mine.Internal.H
end
noncomputable section
open PySem PySem.W PyProof.Rows PySem.Calls
set_option maxHeartbeats 2000000
namespace Mine.Internal.P
section
set_option tactic.hygienic false
section
variable {n:Nat}{sc:Scope}{ρ Y ρ' Y':af}{st:Stmt}{rest:List Stmt}{r:Option (Fl×af×af)}
noncomputable def aK(J:List Nat)(c l lb τ κ pV p1 p2:Int):af:=[("current",.str J),("cursor",.int c),("limit",.int l),("limit_backward",.int lb),("bra",.int τ),("ket",.int κ),("I_pV",.int pV),("I_p1",.int p1),("I_p2",.int p2)]
theorem er:(ev (n+1)).SS sc ρ Y []=some (Fl.next,ρ,Y):=rfl
theorem aa(h:(ev n).S sc ρ Y st=some (.next,ρ',Y'))(k:(ev n).SS sc ρ' Y' rest=r):(ev (n+1)).SS sc ρ Y (st :: rest)=r:=by
 show (match (ev n).S sc ρ Y st with | some (Fl.next,ρ,Y)=>(ev n).SS sc ρ Y rest | x=>x)=r;rw[h];exact k
theorem jP{x:Fl}(hx:x≠.next)(h:(ev n).S sc ρ Y st=some (x,ρ',Y')):(ev (n+1)).SS sc ρ Y (st :: rest)=some (x,ρ',Y'):=by
 show (match (ev n).S sc ρ Y st with | some (Fl.next,ρ,Y)=>(ev n).SS sc ρ Y rest | x=>x)=_;rw[h];cases x<;>first | rfl | exact absurd rfl hx
theorem bd{v:V}(h:(ev n).S sc ρ Y st=some (.ret v,ρ',Y')):(ev (n+1)).SS sc ρ Y (st :: rest)=some (.ret v,ρ',Y'):=jP (fun q=>by cases q) h
theorem xc{t:Expr}{a b:List Stmt}{p:Pos}{c:Bool}(h:(ev n).T sc ρ Y t=some (c,Y'))(k:(bif c then (ev n).SS sc ρ Y' a else (ev n).SS sc ρ Y' b)=r):(ev (n+1)).S sc ρ Y (.If t a b p)=r:=by
 show (match (ev n).T sc ρ Y t with | some (true,Y)=>(ev n).SS sc ρ Y a | some (false,Y)=>(ev n).SS sc ρ Y b | none=>none)=r;rw[h];cases c<;>exact k
theorem bQ{t:Expr}{a b:List Stmt}{p:Pos}{c:Bool}(h:(ev n).T sc ρ Y t=some (c,Y'))(hc:c=true)(k:(ev n).SS sc ρ Y' a=r):(ev (n+1)).S sc ρ Y (.If t a b p)=r:=xc h (by rw[hc];exact k)
theorem bD{t:Expr}{a b:List Stmt}{p:Pos}{c:Bool}(h:(ev n).T sc ρ Y t=some (c,Y'))(hc:c=false)(k:(ev n).SS sc ρ Y' b=r):(ev (n+1)).S sc ρ Y (.If t a b p)=r:=xc h (by rw[hc];exact k)
theorem dK{t:Expr}{b:List Stmt}{p:Pos}(k:(ev n).W sc ρ Y t b=r):(ev (n+1)).S sc ρ Y (.While t b [] p)=r:=k
theorem PK{t:Expr}{b:List Stmt}{c:Bool}(h:(ev n).T sc ρ Y t=some (c,Y'))(hc:c=false):(ev (n+1)).W sc ρ Y t b=some (.next,ρ,Y'):=by
 show (match (ev n).T sc ρ Y t with
    | some (true,Y)=>match (ev n).SS sc ρ Y b with
     | some (Fl.next,ρ,Y) | some (.cont,ρ,Y)=>(ev n).W sc ρ Y t b
     | some (.brk,ρ,Y)=>some (Fl.next,ρ,Y)
     | x=>x
    | some (false,Y)=>some (Fl.next,ρ,Y)
    | none=>none)=_
 rw[h,hc]
theorem I8{t:Expr}{b:List Stmt}{c:Bool}{x:Fl}{Y₁:af}(h:(ev n).T sc ρ Y t=some (c,Y₁))(hc:c=true)(hb:(ev n).SS sc ρ Y₁ b=some (x,ρ',Y'))(k:(match x with | .next | .cont=>(ev n).W sc ρ' Y' t b | .brk=>some (.next,ρ',Y') | x=>some (x,ρ',Y'))=r):(ev (n+1)).W sc ρ Y t b=r:=by
 show (match (ev n).T sc ρ Y t with
    | some (true,Y)=>match (ev n).SS sc ρ Y b with
     | some (Fl.next,ρ,Y) | some (.cont,ρ,Y)=>(ev n).W sc ρ Y t b
     | some (.brk,ρ,Y)=>some (Fl.next,ρ,Y)
     | x=>x
    | some (false,Y)=>some (Fl.next,ρ,Y)
    | none=>none)=_
 rw[h,hc];dsimp only;rw[hb];cases x<;>exact k
theorem fN{f:Fn}{vs:List V}{v:V}(hl:(params f).length=vs.length)(h:(ev n).SS (aJ f.st) ((params f).zip vs) Y (br f.st)=some (.ret v,ρ',Y')):(ev (n+1)).C f vs Y=some (v,Y'):=by
 show (bif Nat.beq (params f).length vs.length then (match (ev n).SS (aJ f.st) ((params f).zip vs) Y (br f.st) with
     | some (.ret v,_,Y)=>some (v,Y)
     | some (.next,_,Y)=>some (.none,Y)
     | _=>none) else none)=_
 rw[h,hl,Nat.beq_refl];rfl
theorem pi{f:Fn}{vs:List V}(hl:(params f).length=vs.length)(h:(ev n).SS (aJ f.st) ((params f).zip vs) Y (br f.st)=some (.next,ρ',Y')):(ev (n+1)).C f vs Y=some (.none,Y'):=by
 show (bif Nat.beq (params f).length vs.length then (match (ev n).SS (aJ f.st) ((params f).zip vs) Y (br f.st) with
     | some (.ret v,_,Y)=>some (v,Y)
     | some (.next,_,Y)=>some (.none,Y)
     | _=>none) else none)=_
 rw[h,hl,Nat.beq_refl];rfl
end
section
variable {J:List Nat}{c l lb τ κ pV p1 p2:Int}{n:Nat}
theorem dY{k:Nat}{x:Nat}(h:J[k]?=some x):dn (.str J) (.int k)=some (.str [x]):=by
 have hk:k<J.length:=by
  rcases Nat.lt_or_ge k J.length with q | q
  ·exact q
  ·rw[List.getElem?_eq_none q] at h;cases h
 have:cF J.length (k:Int)=some k:=by
  unfold cF;rw[decide_eq_true (show (0:Int)≤k by ext),decide_eq_true (show (k:Int)<J.length by ext)];rfl
 show (cF J.length (k:Int)).bind (fun k=>(J[k]?).map fun c=>V.str [c])=_;rw[this];show (J[k]?).map _=_;rw[h];rfl
theorem dD{n:Nat}{sc:Scope}{ρ Y:af}{a i:Expr}{p:Pos}{t:List Nat}{k:Int}{v:V}(hi:∀ l u q,i≠.Slice l u none q)(ha:(ev n).E sc ρ Y a=some (.str t,Y))(hb:dU a (.str t)=true)(he:(ev n).E sc ρ Y i=some (.int k,Y))(hv:dn (.str t) (.int k)=some v):(ev (n+1)).E sc ρ Y (.Subscript a i p)=some (v,Y):=by
 have:(ev (n+1)).E sc ρ Y (.Subscript a i p)=(match (ev n).E sc ρ Y a with
     | some (a',Y)=>bif dU a a' then (match (ev n).E sc ρ Y i with
      | some (b,Y)=>(dn a' b).map fun v=>(v,Y)
      | none=>none) else none
     | none=>none):=by
  induction i using zX with
  | Slice l u s q=>
   induction s using zO with
   | none=>exact absurd rfl (hi l u q)
   | some s=>rfl
  | _=>rfl
 rw[this,ha];dsimp only;rw[hb,he];show (dn (.str t) (.int k)).map _=_;rw[hv];rfl
theorem qm{n:Nat}{sc:Scope}{ρ Y:af}{a b:Expr}{p:Pos}{x:Nat}(ha:(ev n).E sc ρ Y a=some (.str [x],Y))(hb:(ev n).E sc ρ Y b=some (.gv,Y)):(ev (n+2)).T sc ρ Y (.Compare a [.NotIn] [b] p)=some (!ar x,Y):=by
 show (match (ev (n+1)).E sc ρ Y (.Compare a [.NotIn] [b] p) with | some (V.bool b,Y)=>some (b,Y) | _=>none)=_;have:(ev (n+1)).E sc ρ Y (.Compare a [.NotIn] [b] p)=some (.bool (!ar x),Y):=by
  show (match (ev n).E sc ρ Y a with
     | some (x,Y)=>match (ev n).E sc ρ Y b with
      | some (y,Y)=>(gO .NotIn x y).map fun v=>(V.bool v,Y)
      | none=>none
     | none=>none)=_
  rw[ha];dsimp only;rw[hb];rfl
 rw[this]
theorem BE{n:Nat}{sc:Scope}{ρ Y:af}{a b:Expr}{p:Pos}{x:Nat}(ha:(ev n).E sc ρ Y a=some (.str [x],Y))(hb:(ev n).E sc ρ Y b=some (.gv,Y)):(ev (n+2)).T sc ρ Y (.Compare a [.In] [b] p)=some (ar x,Y):=by
 show (match (ev (n+1)).E sc ρ Y (.Compare a [.In] [b] p) with | some (V.bool b,Y)=>some (b,Y) | _=>none)=_;have:(ev (n+1)).E sc ρ Y (.Compare a [.In] [b] p)=some (.bool (ar x),Y):=by
  show (match (ev n).E sc ρ Y a with
     | some (x,Y)=>match (ev n).E sc ρ Y b with
      | some (y,Y)=>(gO .In x y).map fun v=>(V.bool v,Y)
      | none=>none
     | none=>none)=_
  rw[ha];dsimp only;rw[hb];rfl
 rw[this]
theorem rD(h:l≤c):(ev (n+8)).C cO [.self,.gv] (aK J c l lb τ κ pV p1 p2)=some (.bool false,aK J c l lb τ κ pV p1 p2):=
 fN rfl (bd (bQ (c:=decide (l≤c)) rfl (decide_eq_true h) (bd rfl)))
theorem zT{k x:Nat}(h:¬ l≤(k:Int))(hx:J[k]?=some x):(ev (n+10)).C cO [.self,.gv] (aK J k l lb τ κ pV p1 p2)=some (.bool (ar x),aK J (bif ar x then (k+1:Int) else k) l lb τ κ pV p1 p2):=by
 cases hv:ar x
 ·refine fN rfl (aa (bD (c:=decide (l≤(k:Int))) rfl (decide_eq_false h) rfl) (bd (bQ (c:=!ar x) (qm (dD (fun _ _ _ q=>by cases q) rfl rfl rfl (dY hx)) rfl) (by rw[hv];rfl) (bd rfl))))
 ·refine fN rfl (aa (bD (c:=decide (l≤(k:Int))) rfl (decide_eq_false h) rfl) (aa (bD (c:=!ar x) (qm (dD (fun _ _ _ q=>by cases q) rfl rfl rfl (dY hx)) rfl) (by rw[hv];rfl) rfl) (aa rfl (bd rfl))))
end
noncomputable def aG(l:List Stmt)(i:Nat):Stmt:=l.getD i (.Pass default)
def ai(f:Fn)(i:Nat):Stmt:=aG (br f.st) i
noncomputable def iH:Stmt→Expr
 | .While t _ _ _=>t
 | .If t _ _ _=>t
 | _=>.Constant .none 0 default
noncomputable def dj:Stmt→List Stmt
 | .While _ b _ _=>b
 | .If _ b _ _=>b
 | .Try b _ _ _ _=>b
 | .For _ _ b _ _=>b
 | _=>[]
noncomputable def E2:Stmt→List Stmt
 | .If _ _ b _=>b
 | _=>[]
noncomputable def skip(p:Nat→Bool)(l:List Nat)(k:Nat):Nat:=k+((l.drop k).takeWhile p).length
theorem ig{l:List Nat}{k x:Nat}(h:l[k]?=some x):l.drop k=x :: l.drop (k+1):=by
 obtain⟨hk,e⟩:=List.getElem?_eq_some_iff.1 h;rw[List.drop_eq_getElem_cons hk,e]
theorem cL{l:List Nat}{k x:Nat}(h:l[k]?=some x):k<l.length:=(List.getElem?_eq_some_iff.1 h).1
theorem dc{l:List Nat}{k:Nat}(h:k<l.length):∃ x,l[k]?=some x:=⟨_,List.getElem?_eq_some_iff.2 ⟨h,rfl⟩⟩
theorem ij{p:Nat→Bool}{l:List Nat}{k x:Nat}(h:l[k]?=some x)(hp:p x=false):skip p l k=k:=by
 unfold skip;rw[ig h,List.takeWhile_cons,hp];rfl
theorem km{p:Nat→Bool}{l:List Nat}{k x:Nat}(h:l[k]?=some x)(hp:p x=true):skip p l k=skip p l (k+1):=by
 unfold skip;rw[ig h,List.takeWhile_cons,hp];simp only[if_true,length_cons];ext
theorem gM{p:Nat→Bool}{l:List Nat}{k:Nat}(h:l.length≤k):skip p l k=k:=by
 unfold skip;rw[List.drop_eq_nil_of_le h];rfl
theorem En{p:Nat→Bool}{l:List Nat}{k:Nat}:k≤skip p l k:=le_add_right _ _
theorem kI{p:Nat→Bool}{l:List Nat}{k:Nat}(h:k≤l.length):skip p l k≤l.length:=by
 unfold skip;have:=(List.takeWhile_prefix p (l:=l.drop k)).length_le;rw[length_drop] at this;ext
section
variable {J:List Nat}{c l lb τ κ pV p1 p2:Int}{n:Nat}
noncomputable def kL:af:=[("self",.self),("s",.gv)]
def ay(c:Nat):Bool:=!ar c
theorem Aj(m:Nat):∀ k:Nat,J.length-k=m→k≤J.length→(ev (n+m+12)).W (aJ ac.st) kL (aK J k J.length lb τ κ pV p1 p2) (iH (ai ac 0)) (dj (ai ac 0))=some ((if skip ay J k<J.length then Fl.ret (V.bool true) else Fl.next),kL,aK J (skip ay J k) J.length lb τ κ pV p1 p2):=by
 induction m with
 | zero=>
  intro k hm hk;have e:k=J.length:=by ext
  rw[gM (by ext),if_neg (by ext)];exact PK (c:=decide ((k:Int)<J.length)) rfl (ZF)
 | succ m ih=>
  intro k hm hk;have hi:=ih (k+1) (by ext) (by ext);rw[show ((k+1:Nat):Int)=(k:Int)+1 from rfl] at hi;rw[show n+(m+1)+12=n+m+12+1 by ext];obtain⟨x,hx⟩:=dc (show k<J.length by ext);cases hv:ar x
  ·rw[km hx (by unfold ay;rw[hv];rfl)];refine I8 (c:=decide ((k:Int)<J.length)) (x:=.next) rfl (ZT) (aa (bD (c:=ar x) (BE (dD (fun _ _ _ q=>by cases q) rfl rfl rfl (dY hx)) rfl) hv rfl) (aa rfl rfl)) ?_;exact hi
  ·rw[ij hx (by unfold ay;rw[hv];rfl),if_pos (by ext)];refine I8 (c:=decide ((k:Int)<J.length)) (x:=.ret (.bool true)) rfl (ZT) (bd (bQ (c:=ar x) (BE (dD (fun _ _ _ q=>by cases q) rfl rfl rfl (dY hx)) rfl) hv (bd rfl))) rfl
theorem Cl(m:Nat):∀ k:Nat,J.length-k=m→k≤J.length→(ev (n+m+12)).W (aJ aj.st) kL (aK J k J.length lb τ κ pV p1 p2) (iH (ai aj 0)) (dj (ai aj 0))=some ((if skip ar J k<J.length then Fl.ret (V.bool true) else Fl.next),kL,aK J (skip ar J k) J.length lb τ κ pV p1 p2):=by
 induction m with
 | zero=>
  intro k hm hk;have e:k=J.length:=by ext
  rw[gM (by ext),if_neg (by ext)];exact PK (c:=decide ((k:Int)<J.length)) rfl (ZF)
 | succ m ih=>
  intro k hm hk;have hi:=ih (k+1) (by ext) (by ext);rw[show ((k+1:Nat):Int)=(k:Int)+1 from rfl] at hi;rw[show n+(m+1)+12=n+m+12+1 by ext];obtain⟨x,hx⟩:=dc (show k<J.length by ext);cases hv:ar x
  ·rw[ij hx hv,if_pos (by ext)];refine I8 (c:=decide ((k:Int)<J.length)) (x:=.ret (.bool true)) rfl (ZT) (bd (bQ (c:=!ar x) (qm (dD (fun _ _ _ q=>by cases q) rfl rfl rfl (dY hx)) rfl) (by rw[hv];rfl) (bd rfl))) rfl
  ·rw[km hx hv];refine I8 (c:=decide ((k:Int)<J.length)) (x:=.next) rfl (ZT) (aa (bD (c:=!ar x) (qm (dD (fun _ _ _ q=>by cases q) rfl rfl rfl (dY hx)) rfl) (by rw[hv];rfl) rfl) (aa rfl rfl)) ?_;exact hi
theorem gm{f:Fn}{vs:List V}{v:V}{ρ ρ' Y Y':af}{body:List Stmt}(hl:(params f).length=vs.length)(hp:(params f).zip vs=ρ)(hb:br f.st=body)(h:(ev n).SS (aJ f.st) ρ Y body=some (.ret v,ρ',Y')):(ev (n+1)).C f vs Y=some (v,Y'):=by
 subst hp hb;exact fN hl h
noncomputable def BX:Stmt→Pos
 | .While _ _ _ p=>p
 | .If _ _ _ p=>p
 | _=>default
theorem tz:br ac.st=[ai ac 0,ai ac 1]:=by rfl'
theorem vL:br aj.st=[ai aj 0,ai aj 1]:=by rfl'
theorem qB:ai ac 0=.While (iH (ai ac 0)) (dj (ai ac 0)) [] (BX (ai ac 0)):=by rfl'
theorem ss:ai aj 0=.While (iH (ai aj 0)) (dj (ai aj 0)) [] (BX (ai aj 0)):=by rfl'
theorem jo{k:Nat}(hn:J.length+20≤n)(hk:k≤J.length):(ev n).C ac [.self,.gv] (aK J k J.length lb τ κ pV p1 p2)=some (.bool (decide (skip ay J k<J.length)),aK J (skip ay J k) J.length lb τ κ pV p1 p2):=by
 have:=Aj (n:=n-(J.length-k)-15) (lb:=lb) (τ:=τ) (κ:=κ) (pV:=pV) (p1:=p1) (p2:=p2) (J.length-k) k rfl hk;obtain⟨j,hj⟩:∃ j,j=n-(J.length-k)-15+(J.length-k):=⟨_,rfl⟩;rw[←hj] at this;rw[show n=j+15 by ext]
 revert this
 generalize skip ay J k=kk;intro this;by_cases q:kk<J.length
 ·rw[decide_eq_true q];rw[if_pos q] at this;refine gm (ρ':=kL) (ρ:=kL) rfl (by rfl') (tz) (bd ?_);rw[qB];exact dK this
 ·rw[decide_eq_false q];rw[if_neg q] at this;refine gm (ρ':=kL) (ρ:=kL) rfl (by rfl') (tz) (aa (ρ':=kL) (Y':=aK J kk J.length lb τ κ pV p1 p2) ?_ ?_)
  ·rw[qB];exact dK this
  ·exact bd rfl
theorem lA{k:Nat}(hn:J.length+20≤n)(hk:k≤J.length):(ev n).C aj [.self,.gv] (aK J k J.length lb τ κ pV p1 p2)=some (.bool (decide (skip ar J k<J.length)),aK J (skip ar J k) J.length lb τ κ pV p1 p2):=by
 have:=Cl (n:=n-(J.length-k)-15) (lb:=lb) (τ:=τ) (κ:=κ) (pV:=pV) (p1:=p1) (p2:=p2) (J.length-k) k rfl hk;obtain⟨j,hj⟩:∃ j,j=n-(J.length-k)-15+(J.length-k):=⟨_,rfl⟩;rw[←hj] at this;rw[show n=j+15 by ext]
 revert this
 generalize skip ar J k=kk;intro this;by_cases q:kk<J.length
 ·rw[decide_eq_true q];rw[if_pos q] at this;refine gm (ρ':=kL) (ρ:=kL) rfl (by rfl') (vL) (bd ?_);rw[ss];exact dK this
 ·rw[decide_eq_false q];rw[if_neg q] at this;refine gm (ρ':=kL) (ρ:=kL) rfl (by rfl') (vL) (aa (ρ':=kL) (Y':=aK J kk J.length lb τ κ pV p1 p2) ?_ ?_)
  ·rw[ss];exact dK this
  ·exact bd rfl
theorem ou(h:l≤c):(ev (n+8)).C ct [.self,.gv] (aK J c l lb τ κ pV p1 p2)=some (.bool false,aK J c l lb τ κ pV p1 p2):=
 fN rfl (bd (bQ (c:=decide (l≤c)) rfl (decide_eq_true h) (bd rfl)))
theorem wr{k x:Nat}(h:¬ l≤(k:Int))(hx:J[k]?=some x):(ev (n+10)).C ct [.self,.gv] (aK J k l lb τ κ pV p1 p2)=some (.bool (ay x),aK J (bif ar x then (k:Int) else k+1) l lb τ κ pV p1 p2):=by
 unfold ay;cases hv:ar x
 ·refine fN rfl (aa (bD (c:=decide (l≤(k:Int))) rfl (decide_eq_false h) rfl) (bd (bQ (c:=!ar x) (qm (dD (fun _ _ _ q=>by cases q) rfl rfl rfl (dY hx)) rfl) (by rw[hv];rfl) (aa rfl (bd rfl)))))
 ·refine fN rfl (aa (bD (c:=decide (l≤(k:Int))) rfl (decide_eq_false h) rfl) (aa (bD (c:=!ar x) (qm (dD (fun _ _ _ q=>by cases q) rfl rfl rfl (dY hx)) rfl) (by rw[hv];rfl) rfl) (bd rfl)))
end
section
variable {n:Nat}{sc:Scope}{ρ Y ρ' Y' Y₁:af}{st:Stmt}{rest b:List Stmt}{r:Option (Fl×af×af)}{x:Fl}
def IR(sc:Scope)(id:Str)(x:Fl)(ρ Y:af):Option (Fl×af×af):=match x with
 | .exc k=>match decide (id="__debug__"),sc.names.lookup id,glob id with
  | false,some .globalImplicit,some (.addr a)=>bif ff a then (bif Nat.beq a k then some (.next,ρ,Y) else some (.exc k,ρ,Y)) else none
  | _,_,_=>none
 | x=>some (x,ρ,Y)
theorem bZ{id:Str}{p q u v:Pos}(h:(ev n).SS sc ρ Y b=some (x,ρ',Y'))(k:IR sc id x ρ' Y'=r):(ev (n+1)).S sc ρ Y (.Try b [.ExceptHandler (some (.Name id p)) none [.Pass q] u] [] [] v)=r:=by
 show (match (ev n).SS sc ρ Y b with
     | some (.exc k,ρ,Y)=>match decide (id="__debug__"),sc.names.lookup id,glob id with
      | false,some .globalImplicit,some (.addr a)=>bif ff a then (bif Nat.beq a k then some (Fl.next,ρ,Y) else some (.exc k,ρ,Y)) else none
      | _,_,_=>none
     | x=>x)=r
 rw[h];cases x<;>exact k
noncomputable def qt(x:Fl)(w:Option (Fl×af×af))(ρ Y:af):Option (Fl×af×af):=match x with
 | .next=>w
 | .cont=>w
 | .brk=>some (.next,ρ,Y)
 | x=>some (x,ρ,Y)
theorem Lq{t:Expr}{c:Bool}(h:(ev n).T sc ρ Y t=some (c,Y₁))(hc:c=true)(hb:(ev n).SS sc ρ Y₁ b=some (x,ρ',Y'))(k:qt x ((ev n).W sc ρ' Y' t b) ρ' Y'=r):(ev (n+1)).W sc ρ Y t b=r:=by
 refine I8 h hc hb ?_;cases x<;>exact k
theorem dw{kk:Nat}{p q:Pos}(h:(ev (n+2)).SS sc ρ Y b=some (x,ρ',Y'))(k:qt x ((ev (n+2)).W sc ρ' Y' (.Constant (.bool true) kk q) b) ρ' Y'=r):(ev (n+4)).S sc ρ Y (.While (.Constant (.bool true) kk q) b [] p)=r:=by
 show (ev (n+3)).W sc ρ Y (.Constant (.bool true) kk q) b=r;exact Lq (c:=true) rfl rfl h k
theorem oK{o:Expr}{name:Str}{apos pos p:Pos}{args:List Expr}{f:Fn}{vs:List V}{c:Bool}(ho:(ev n).E sc ρ Y o=some (.self,Y))(hok:ax o args apos pos=true)(hm:bJ name=some f)(hl:look Y name=none)(ha:dl (ev n).E sc ρ Y args=some (vs,Y))(hc:(ev n).C f (.self :: vs) Y=some (.bool c,Y')):(ev (n+3)).T sc ρ Y (.UnaryOp .Not (.Call (.Attribute o name apos) args [] pos) p)=some (!c,Y'):=by
 have e:(ev (n+1)).E sc ρ Y (.Call (.Attribute o name apos) args [] pos)=some (.bool c,Y'):=by
  show (match ax o args apos pos,(ev n).E sc ρ Y o with
     | true,some (.self,Y)=>match bJ name with
      | some f=>(match look Y name with
       | none=>(match dl (ev n).E sc ρ Y args with
        | some (vs,Y)=>(ev n).C f (.self :: vs) Y
        | none=>none)
       | some _=>none)
      | none=>none
     | true,some (.str t,Y)=>_
     | _,_=>_)=_
  rw[hok,ho];dsimp only;rw[hm];dsimp only;rw[hl];dsimp only;rw[ha];exact hc
 have t:(ev (n+2)).T sc ρ Y (.Call (.Attribute o name apos) args [] pos)=some (c,Y'):=by
  show (match (ev (n+1)).E sc ρ Y (.Call (.Attribute o name apos) args [] pos) with | some (V.bool b,Y)=>some (b,Y) | _=>none)=_;rw[e]
 show (match (ev (n+2)).T sc ρ Y (.Call (.Attribute o name apos) args [] pos) with | some (b,Y)=>some (!b,Y) | none=>none)=_;rw[t]
theorem aS{o:Expr}{name:Str}{apos pos p q:Pos}{args:List Expr}{f:Fn}{vs:List V}(ho:(ev n).E sc ρ Y o=some (.self,Y))(hok:ax o args apos pos=true)(hm:bJ name=some f)(hl:look Y name=none)(ha:dl (ev n).E sc ρ Y args=some (vs,Y))(hc:(ev n).C f (.self :: vs) Y=some (.bool true,Y')):(ev (n+4)).S sc ρ Y (.If (.UnaryOp .Not (.Call (.Attribute o name apos) args [] pos) p) b [] q)=some (.next,ρ,Y'):=
 xc (oK ho hok hm hl ha hc) rfl
theorem be{o:Expr}{name:Str}{apos pos p q:Pos}{args:List Expr}{f:Fn}{vs:List V}(ho:(ev n).E sc ρ Y o=some (.self,Y))(hok:ax o args apos pos=true)(hm:bJ name=some f)(hl:look Y name=none)(ha:dl (ev n).E sc ρ Y args=some (vs,Y))(hc:(ev n).C f (.self :: vs) Y=some (.bool false,Y'))(k:(ev (n+3)).SS sc ρ Y' b=r):(ev (n+4)).S sc ρ Y (.If (.UnaryOp .Not (.Call (.Attribute o name apos) args [] pos) p) b [] q)=r:=
 xc (oK ho hok hm hl ha hc) k
end
section
variable {J:List Nat}{c l lb τ κ pV p1 p2:Int}{n:Nat}
def aQ(w:List Nat):Nat:=
 if w.length<2 then w.length else
 match w[0]?,w[1]? with
 | some x,some y=>if ar y=false then min (skip ay w 2+1) w.length else if ar x=false then min 3 w.length else min (skip ar w 2+1) w.length
 | _,_=>w.length
def ap(w:List Nat)(at':Nat):Nat:=min (skip ar w (skip ay w at')+1) w.length
theorem vj{k x:Nat}(hx:J[k]?=some x)(hv:ar x=false):(ev (n+10)).C cO [.self,.gv] (aK J k J.length lb τ κ pV p1 p2)=some (.bool false,aK J k J.length lb τ κ pV p1 p2):=by
 have:=zT (n:=n) (lb:=lb) (τ:=τ) (κ:=κ) (pV:=pV) (p1:=p1) (p2:=p2) (l:=J.length) (by have:=cL hx;ext) hx;rw[hv] at this;exact this
theorem qc{k x:Nat}(hx:J[k]?=some x)(hv:ar x=true):(ev (n+10)).C cO [.self,.gv] (aK J k J.length lb τ κ pV p1 p2)=some (.bool true,aK J (k+1:Nat) J.length lb τ κ pV p1 p2):=by
 have:=zT (n:=n) (lb:=lb) (τ:=τ) (κ:=κ) (pV:=pV) (p1:=p1) (p2:=p2) (l:=J.length) (by have:=cL hx;ext) hx;rw[hv] at this;exact this
theorem lJ{k x:Nat}(hx:J[k]?=some x)(hv:ar x=false):(ev (n+10)).C ct [.self,.gv] (aK J k J.length lb τ κ pV p1 p2)=some (.bool true,aK J (k+1:Nat) J.length lb τ κ pV p1 p2):=by
 have:=wr (n:=n) (lb:=lb) (τ:=τ) (κ:=κ) (pV:=pV) (p1:=p1) (p2:=p2) (l:=J.length) (by have:=cL hx;ext) hx;rw[show ay x=true by unfold ay;rw[hv];rfl,hv] at this;exact this
theorem pw{k x:Nat}(hx:J[k]?=some x)(hv:ar x=true):(ev (n+10)).C ct [.self,.gv] (aK J k J.length lb τ κ pV p1 p2)=some (.bool false,aK J k J.length lb τ κ pV p1 p2):=by
 have:=wr (n:=n) (lb:=lb) (τ:=τ) (κ:=κ) (pV:=pV) (p1:=p1) (p2:=p2) (l:=J.length) (by have:=cL hx;ext) hx;rw[show ay x=false by unfold ay;rw[hv];rfl,hv] at this;exact this
noncomputable def rg:af:=[("self",.self),("v_1",.int (0:Nat))]
end
section
variable {n:Nat}{sc:Scope}{ρ Y ρ' Y' Y₁:af}{st:Stmt}{rest b:List Stmt}
theorem bh(h:(ev n).S sc ρ Y st=some (.brk,ρ',Y')):(ev (n+1)).SS sc ρ Y (st :: rest)=some (.brk,ρ',Y'):=jP (fun q=>by cases q) h
theorem aB{k:Addr}(h:(ev n).S sc ρ Y st=some (.exc k,ρ',Y')):(ev (n+1)).SS sc ρ Y (st :: rest)=some (.exc k,ρ',Y'):=jP (fun q=>by cases q) h
theorem CU(h:(ev n).S sc ρ Y st=some (.cont,ρ',Y')):(ev (n+1)).SS sc ρ Y (st :: rest)=some (.cont,ρ',Y'):=jP (fun q=>by cases q) h
end
section
variable {J:List Nat}{lb τ κ pV p1 p2:Int}{n:Nat}
noncomputable abbrev Ey(J:List Nat)(lb τ κ:Int):af:=aK J (0:Nat) J.length lb τ κ J.length J.length J.length
theorem sR{k:Nat}(hn:J.length+20≤n)(hk:k≤J.length)(h:skip ay J k<J.length):(ev n).C ac [.self,.gv] (aK J k J.length lb τ κ pV p1 p2)=some (.bool true,aK J (skip ay J k) J.length lb τ κ pV p1 p2):=by
 rw[jo hn hk,decide_eq_true h]
theorem tI{k:Nat}(hn:J.length+20≤n)(hk:k≤J.length)(h:¬ skip ay J k<J.length):(ev n).C ac [.self,.gv] (aK J k J.length lb τ κ pV p1 p2)=some (.bool false,aK J (skip ay J k) J.length lb τ κ pV p1 p2):=by
 rw[jo hn hk,decide_eq_false h]
theorem Ca{k:Nat}(hn:J.length+20≤n)(hk:k≤J.length)(h:skip ar J k<J.length):(ev n).C aj [.self,.gv] (aK J k J.length lb τ κ pV p1 p2)=some (.bool true,aK J (skip ar J k) J.length lb τ κ pV p1 p2):=by
 rw[lA hn hk,decide_eq_true h]
theorem Ex{k:Nat}(hn:J.length+20≤n)(hk:k≤J.length)(h:¬ skip ar J k<J.length):(ev n).C aj [.self,.gv] (aK J k J.length lb τ κ pV p1 p2)=some (.bool false,aK J (skip ar J k) J.length lb τ κ pV p1 p2):=by
 rw[lA hn hk,decide_eq_false h]
theorem zK{x y:Nat}(hx:J[0]?=some x)(hy:J[1]?=some y):aQ J=if ar y=false then min (skip ay J 2+1) J.length else if ar x=false then min 3 J.length else min (skip ar J 2+1) J.length:=by
 unfold aQ;rw[if_neg (by have:=cL hy;ext),hx,hy]
def FZ:Stmt:=aG (dj (ai az 4)) 0
def Tp:Stmt:=aG (dj FZ) 1
def Ja:Stmt:=aG (dj Tp) 1
def Nq:Stmt:=aG (dj FZ) 4
noncomputable def df:af:=[("self",.self),("v_1",.int (0:Nat)),("v_2",.int (0:Nat))]
noncomputable def cZ:af:=[("self",.self),("v_1",.int (0:Nat)),("v_2",.int (0:Nat)),("v_3",.int (1:Nat))]
abbrev mQ:Scope:=aJ az.st
theorem L6{y:Nat}(hn:J.length+60≤n)(hy:J[1]?=some y)(hc:ar y=false)(hs:skip ay J 2<J.length):(ev (n+20)).S mQ df (aK J (1:Nat) J.length lb τ κ pV p1 p2) Ja=some (.next,cZ,aK J (skip ay J 2+1:Nat) J.length lb τ κ pV p1 p2):=by
 have l2:2≤J.length:=cL hy;have H:=fun (m:Nat) (hm:J.length+20≤m)=>sR (n:=m) (lb:=lb) (τ:=τ) (κ:=κ) (pV:=pV) (p1:=p1) (p2:=p2) (k:=2) hm l2 hs
 generalize skip ay J 2=s at*;refine dw (x:=.brk) (aa (ρ':=cZ) rfl (bh (bZ (x:=.brk) (aa (Y':=aK J (2:Nat) J.length lb τ κ pV p1 p2) (aS rfl rfl rfl rfl rfl (lJ (k:=1) hy hc)) (aa (Y':=aK J s J.length lb τ κ pV p1 p2) (aS rfl rfl rfl rfl rfl (H _ (by ext))) (aa rfl (bh rfl)))) rfl))) rfl
end
end
section
variable {J:List Nat}{lb τ κ pV p1 p2:Int}{n:Nat}
theorem Qw{y:Nat}(hn:J.length+60≤n)(hy:J[1]?=some y)(hc:ar y=false)(hs:¬ skip ay J 2<J.length):(ev (n+20)).S mQ df (aK J (1:Nat) J.length lb τ κ pV p1 p2) Ja=some (.exc 913,cZ,aK J (1:Nat) J.length lb τ κ pV p1 p2):=by
 have l2:2≤J.length:=cL hy;have H:=fun (m:Nat) (hm:J.length+20≤m)=>tI (n:=m) (lb:=lb) (τ:=τ) (κ:=κ) (pV:=pV) (p1:=p1) (p2:=p2) (k:=2) hm l2 hs
 generalize skip ay J 2=s at*;refine dw (x:=.exc 913) (aa (ρ':=cZ) rfl (aa (ρ':=cZ) (Y':=aK J s J.length lb τ κ pV p1 p2) (bZ (x:=.exc 926) (aa (Y':=aK J (2:Nat) J.length lb τ κ pV p1 p2) (aS rfl rfl rfl rfl rfl (lJ (k:=1) hy hc)) (aB (be rfl rfl rfl rfl rfl (H _ (by ext)) (aB rfl)))) rfl) (aa (ρ':=cZ) (Y':=aK J (1:Nat) J.length lb τ κ pV p1 p2) rfl (aB (be rfl rfl rfl rfl rfl (vj (k:=1) hy hc) (aB rfl)))))) rfl
theorem Ma{y:Nat}(hn:J.length+60≤n)(hy:J[1]?=some y)(hc:ar y=true)(hs:skip ar J 2<J.length):(ev (n+20)).S mQ df (aK J (1:Nat) J.length lb τ κ pV p1 p2) Ja=some (.next,cZ,aK J (skip ar J 2+1:Nat) J.length lb τ κ pV p1 p2):=by
 have l2:2≤J.length:=cL hy;have H:=fun (m:Nat) (hm:J.length+20≤m)=>Ca (n:=m) (lb:=lb) (τ:=τ) (κ:=κ) (pV:=pV) (p1:=p1) (p2:=p2) (k:=2) hm l2 hs
 generalize skip ar J 2=s at*;refine dw (x:=.brk) (aa (ρ':=cZ) rfl (aa (ρ':=cZ) (Y':=aK J (1:Nat) J.length lb τ κ pV p1 p2) (bZ (x:=.exc 926) (aB (be rfl rfl rfl rfl rfl (pw (k:=1) hy hc) (aB rfl))) rfl) (aa (ρ':=cZ) (Y':=aK J (1:Nat) J.length lb τ κ pV p1 p2) rfl (aa (Y':=aK J (2:Nat) J.length lb τ κ pV p1 p2) (aS rfl rfl rfl rfl rfl (qc (k:=1) hy hc)) (aa (Y':=aK J s J.length lb τ κ pV p1 p2) (aS rfl rfl rfl rfl rfl (H _ (by ext))) (aa rfl (bh rfl))))))) rfl
theorem Q0{y:Nat}(hn:J.length+60≤n)(hy:J[1]?=some y)(hc:ar y=true)(hs:¬ skip ar J 2<J.length):(ev (n+20)).S mQ df (aK J (1:Nat) J.length lb τ κ pV p1 p2) Ja=some (.exc 913,cZ,aK J (skip ar J 2:Nat) J.length lb τ κ pV p1 p2):=by
 have l2:2≤J.length:=cL hy;have H:=fun (m:Nat) (hm:J.length+20≤m)=>Ex (n:=m) (lb:=lb) (τ:=τ) (κ:=κ) (pV:=pV) (p1:=p1) (p2:=p2) (k:=2) hm l2 hs
 generalize skip ar J 2=s at*;refine dw (x:=.exc 913) (aa (ρ':=cZ) rfl (aa (ρ':=cZ) (Y':=aK J (1:Nat) J.length lb τ κ pV p1 p2) (bZ (x:=.exc 926) (aB (be rfl rfl rfl rfl rfl (pw (k:=1) hy hc) (aB rfl))) rfl) (aa (ρ':=cZ) (Y':=aK J (1:Nat) J.length lb τ κ pV p1 p2) rfl (aa (Y':=aK J (2:Nat) J.length lb τ κ pV p1 p2) (aS rfl rfl rfl rfl rfl (qc (k:=1) hy hc)) (aB (be rfl rfl rfl rfl rfl (H _ (by ext)) (aB rfl))))))) rfl
noncomputable def dp:af:=[("self",.self),("v_1",.int (0:Nat)),("v_2",.int (0:Nat)),("v_4",.int (1:Nat))]
theorem Nk{y:Nat}(hn:J.length+60≤n)(hy:J[1]?=some y)(hc:ar y=false)(hs:skip ay J 2<J.length):(ev (n+20)).S mQ df (aK J (1:Nat) J.length lb τ κ pV p1 p2) Nq=some (.next,dp,aK J (skip ay J 2+1:Nat) J.length lb τ κ pV p1 p2):=by
 have l2:2≤J.length:=cL hy;have H:=fun (m:Nat) (hm:J.length+20≤m)=>sR (n:=m) (lb:=lb) (τ:=τ) (κ:=κ) (pV:=pV) (p1:=p1) (p2:=p2) (k:=2) hm l2 hs
 generalize skip ay J 2=s at*;refine dw (x:=.brk) (aa (ρ':=dp) rfl (bh (bZ (x:=.brk) (aa (Y':=aK J (2:Nat) J.length lb τ κ pV p1 p2) (aS rfl rfl rfl rfl rfl (lJ (k:=1) hy hc)) (aa (Y':=aK J s J.length lb τ κ pV p1 p2) (aS rfl rfl rfl rfl rfl (H _ (by ext))) (aa rfl (bh rfl)))) rfl))) rfl
theorem QB{y:Nat}(hn:J.length+60≤n)(hy:J[1]?=some y)(hc:ar y=false)(hs:¬ skip ay J 2<J.length):(ev (n+20)).S mQ df (aK J (1:Nat) J.length lb τ κ pV p1 p2) Nq=some (.exc 900,dp,aK J (1:Nat) J.length lb τ κ pV p1 p2):=by
 have l2:2≤J.length:=cL hy;have H:=fun (m:Nat) (hm:J.length+20≤m)=>tI (n:=m) (lb:=lb) (τ:=τ) (κ:=κ) (pV:=pV) (p1:=p1) (p2:=p2) (k:=2) hm l2 hs
 generalize skip ay J 2=s at*;refine dw (x:=.exc 900) (aa (ρ':=dp) rfl (aa (ρ':=dp) (Y':=aK J s J.length lb τ κ pV p1 p2) (bZ (x:=.exc 913) (aa (Y':=aK J (2:Nat) J.length lb τ κ pV p1 p2) (aS rfl rfl rfl rfl rfl (lJ (k:=1) hy hc)) (aB (be rfl rfl rfl rfl rfl (H _ (by ext)) (aB rfl)))) rfl) (aa (ρ':=dp) (Y':=aK J (1:Nat) J.length lb τ κ pV p1 p2) rfl (aB (be rfl rfl rfl rfl rfl (vj (k:=1) hy hc) (aB rfl)))))) rfl
theorem Qe{y:Nat}(hn:J.length+60≤n)(hy:J[1]?=some y)(hc:ar y=true)(hs:2<J.length):(ev (n+20)).S mQ df (aK J (1:Nat) J.length lb τ κ pV p1 p2) Nq=some (.next,dp,aK J (3:Nat) J.length lb τ κ pV p1 p2):=by
 refine dw (x:=.brk) (aa (ρ':=dp) rfl (aa (ρ':=dp) (Y':=aK J (1:Nat) J.length lb τ κ pV p1 p2) (bZ (x:=.exc 913) (aB (be rfl rfl rfl rfl rfl (pw (k:=1) hy hc) (aB rfl))) rfl) (aa (ρ':=dp) (Y':=aK J (1:Nat) J.length lb τ κ pV p1 p2) rfl (aa (Y':=aK J (2:Nat) J.length lb τ κ pV p1 p2) (aS rfl rfl rfl rfl rfl (qc (k:=1) hy hc)) (aa (bD (c:=decide ((J.length:Int)≤(2:Nat))) rfl (ZF) rfl) (aa rfl (bh rfl))))))) rfl
theorem JU{y:Nat}(hn:J.length+60≤n)(hy:J[1]?=some y)(hc:ar y=true)(hs:¬ 2<J.length):(ev (n+20)).S mQ df (aK J (1:Nat) J.length lb τ κ pV p1 p2) Nq=some (.exc 900,dp,aK J (2:Nat) J.length lb τ κ pV p1 p2):=by
 refine dw (x:=.exc 900) (aa (ρ':=dp) rfl (aa (ρ':=dp) (Y':=aK J (1:Nat) J.length lb τ κ pV p1 p2) (bZ (x:=.exc 913) (aB (be rfl rfl rfl rfl rfl (pw (k:=1) hy hc) (aB rfl))) rfl) (aa (ρ':=dp) (Y':=aK J (1:Nat) J.length lb τ κ pV p1 p2) rfl (aa (Y':=aK J (2:Nat) J.length lb τ κ pV p1 p2) (aS rfl rfl rfl rfl rfl (qc (k:=1) hy hc)) (aB (bQ (c:=decide ((J.length:Int)≤(2:Nat))) rfl (ZT) (aB rfl))))))) rfl
end
section
set_option tactic.hygienic false
section
variable {J:List Nat}{lb τ κ pV p1 p2:Int}{n:Nat}
theorem Nt{x:Nat}{k:Nat}(hx:J[0]?=some x)(hv:ar x=true)(h:(ev (n+20)).S mQ df (aK J (1:Nat) J.length lb τ κ pV p1 p2) Ja=some (.next,cZ,aK J (k:Nat) J.length lb τ κ pV p1 p2)):(ev (n+27)).S mQ rg (aK J (0:Nat) J.length lb τ κ pV p1 p2) FZ=some (.next,cZ,aK J (k:Nat) J.length lb τ κ pV p1 p2):=by
 refine dw (x:=.brk) (aa (ρ':=df) (Y':=aK J (0:Nat) J.length lb τ κ pV p1 p2) rfl (bh (bZ (x:=.brk) (aa (Y':=aK J (1:Nat) J.length lb τ κ pV p1 p2) (aS rfl rfl rfl rfl rfl (qc (k:=0) hx hv)) (aa (ρ':=cZ) (Y':=aK J k J.length lb τ κ pV p1 p2) ?_ (bh rfl))) rfl))) rfl;exact h
theorem yG{x:Nat}{k:Nat}(hx:J[0]?=some x)(hv:ar x=true)(h:(ev (n+20)).S mQ df (aK J (1:Nat) J.length lb τ κ pV p1 p2) Ja=some (.exc 913,cZ,aK J (k:Nat) J.length lb τ κ pV p1 p2)):(ev (n+27)).S mQ rg (aK J (0:Nat) J.length lb τ κ pV p1 p2) FZ=some (.exc 900,cZ,aK J (0:Nat) J.length lb τ κ pV p1 p2):=by
 refine dw (x:=.exc 900) (aa (ρ':=df) (Y':=aK J (0:Nat) J.length lb τ κ pV p1 p2) rfl (aa (ρ':=cZ) (Y':=aK J (k:Nat) J.length lb τ κ pV p1 p2) (bZ (x:=.exc 913) (aa (Y':=aK J (1:Nat) J.length lb τ κ pV p1 p2) (aS rfl rfl rfl rfl rfl (qc (k:=0) hx hv)) (aB ?_)) rfl) (aa (ρ':=cZ) (Y':=aK J (0:Nat) J.length lb τ κ pV p1 p2) rfl (aB (be rfl rfl rfl rfl rfl (pw (k:=0) hx hv) (aB rfl)))))) rfl;exact h
theorem zj{x:Nat}{k:Nat}{y:Fl}(hy:y=.next∨y=.exc 900)(hx:J[0]?=some x)(hv:ar x=false)(h:(ev (n+20)).S mQ df (aK J (1:Nat) J.length lb τ κ pV p1 p2) Nq=some (y,dp,aK J (k:Nat) J.length lb τ κ pV p1 p2)):(ev (n+27)).S mQ rg (aK J (0:Nat) J.length lb τ κ pV p1 p2) FZ=some (y,dp,aK J (k:Nat) J.length lb τ κ pV p1 p2):=by
 rcases hy with rfl | rfl
 ·refine dw (x:=.brk) (aa (ρ':=df) (Y':=aK J (0:Nat) J.length lb τ κ pV p1 p2) rfl (aa (ρ':=df) (Y':=aK J (0:Nat) J.length lb τ κ pV p1 p2) (bZ (x:=.exc 913) (aB (be rfl rfl rfl rfl rfl (vj (k:=0) hx hv) (aB rfl))) rfl) (aa (ρ':=df) (Y':=aK J (0:Nat) J.length lb τ κ pV p1 p2) rfl (aa (Y':=aK J (1:Nat) J.length lb τ κ pV p1 p2) (aS rfl rfl rfl rfl rfl (lJ (k:=0) hx hv)) (aa (ρ':=dp) (Y':=aK J k J.length lb τ κ pV p1 p2) ?_ (bh rfl)))))) rfl;exact h
 ·refine dw (x:=.exc 900) (aa (ρ':=df) (Y':=aK J (0:Nat) J.length lb τ κ pV p1 p2) rfl (aa (ρ':=df) (Y':=aK J (0:Nat) J.length lb τ κ pV p1 p2) (bZ (x:=.exc 913) (aB (be rfl rfl rfl rfl rfl (vj (k:=0) hx hv) (aB rfl))) rfl) (aa (ρ':=df) (Y':=aK J (0:Nat) J.length lb τ κ pV p1 p2) rfl (aa (Y':=aK J (1:Nat) J.length lb τ κ pV p1 p2) (aS rfl rfl rfl rfl rfl (lJ (k:=0) hx hv)) (aB (ρ':=dp) (Y':=aK J k J.length lb τ κ pV p1 p2) ?_))))) rfl;exact h
theorem Ee{ρ':af}{k:Nat}(h:(ev (n+27)).S mQ rg (Ey J lb τ κ) FZ=some (.next,ρ',aK J (k:Nat) J.length lb τ κ J.length J.length J.length))(hs:∃ (a:V) (r:af),ρ'=(("self",V.self):Str×V) :: (("v_1",a):Str×V) :: r):(ev (n+29)).S mQ rg (Ey J lb τ κ) (ai az 4)=some (.next,ρ',aK J (k:Nat) J.length lb τ κ k J.length J.length):=by
 obtain⟨a,r,rfl⟩:=hs;refine bZ (x:=.next) (aa (ρ':=(("self",V.self):Str×V) :: (("v_1",a):Str×V) :: r) (Y':=aK J (k:Nat) J.length lb τ κ J.length J.length J.length) ?_ (aa rfl er)) rfl;exact h
theorem wZ{ρ':af}{k:Nat}(h:(ev (n+27)).S mQ rg (Ey J lb τ κ) FZ=some (.exc 900,ρ',aK J (k:Nat) J.length lb τ κ J.length J.length J.length)):(ev (n+29)).S mQ rg (Ey J lb τ κ) (ai az 4)=some (.next,ρ',aK J (k:Nat) J.length lb τ κ J.length J.length J.length):=by
 refine bZ (x:=.exc 900) (aB (Y':=aK J (k:Nat) J.length lb τ κ J.length J.length J.length) ?_) rfl;exact h
theorem QS(hn:J.length+60≤n):∃ ρ' c',(ev (n+29)).S mQ rg (Ey J lb τ κ) (ai az 4)=some (.next,ρ',aK J (c':Nat) J.length lb τ κ (aQ J:Nat) J.length J.length)∧∃ (r:af),ρ'=(("self",V.self):Str×V) :: (("v_1",V.int (0:Nat)):Str×V) :: r:=by
 match hx:J[0]?,hy:J[1]? with
 | none,_=>
  have h0:J=[]:=by
   induction J using zL with
   | nil=>rfl
   | cons a l=>simp at hx
  subst h0;refine⟨_,0,bZ (x:=.exc 900) (aB (ρ':=df) (Y':=aK [] (0:Nat) (0:Nat) lb τ κ (0:Nat) (0:Nat) (0:Nat)) (dw (x:=.exc 900) (aa (ρ':=df) (Y':=aK [] (0:Nat) (0:Nat) lb τ κ (0:Nat) (0:Nat) (0:Nat)) rfl (aa (ρ':=df) (Y':=aK [] (0:Nat) (0:Nat) lb τ κ (0:Nat) (0:Nat) (0:Nat)) (bZ (x:=.exc 913) (aB (be rfl rfl rfl rfl rfl (rD (by decide)) (aB rfl))) rfl) (aa (ρ':=df) (Y':=aK [] (0:Nat) (0:Nat) lb τ κ (0:Nat) (0:Nat) (0:Nat)) rfl (aB (be rfl rfl rfl rfl rfl (ou (by decide)) (aB rfl)))))) rfl)) rfl,_,rfl⟩
 | some x,none=>
  have h1:J.length=1:=by
   have:=cL hx;have:=List.getElem?_eq_none_iff.1 hy;ext
  have e:aQ J=J.length:=by unfold aQ;rw[if_pos (by ext)]
  rw[e];cases hv:ar x
  ·refine⟨_,1,wZ (zj (k:=1) (.inr rfl) hx hv ?_),_,rfl⟩;refine dw (x:=.exc 900) (aa (ρ':=dp) rfl (aa (ρ':=dp) (Y':=aK J (1:Nat) J.length lb τ κ J.length J.length J.length) (bZ (x:=.exc 913) (aB (be rfl rfl rfl rfl rfl (ou (by rw[h1];decide)) (aB rfl))) rfl) (aa (ρ':=dp) (Y':=aK J (1:Nat) J.length lb τ κ J.length J.length J.length) rfl (aB (be rfl rfl rfl rfl rfl (rD (by rw[h1];decide)) (aB rfl)))))) rfl
  ·refine⟨_,0,wZ (yG (k:=1) hx hv ?_),_,rfl⟩;refine dw (x:=.exc 913) (aa (ρ':=cZ) rfl (aa (ρ':=cZ) (Y':=aK J (1:Nat) J.length lb τ κ J.length J.length J.length) (bZ (x:=.exc 926) (aB (be rfl rfl rfl rfl rfl (ou (by rw[h1];decide)) (aB rfl))) rfl) (aa (ρ':=cZ) (Y':=aK J (1:Nat) J.length lb τ κ J.length J.length J.length) rfl (aB (be rfl rfl rfl rfl rfl (rD (by rw[h1];decide)) (aB rfl)))))) rfl
 | some x,some y=>
  have l2:2≤J.length:=cL hy;rw[zK hx hy];cases hc:ar y
  ·rw[if_pos rfl];by_cases hs:skip ay J 2<J.length
   ·rw[Nat.min_eq_left (by ext)];cases hv:ar x
    ·exact⟨_,_,Ee (zj (.inl rfl) hx hv (Nk hn hy hc hs)) ⟨_,_,rfl⟩,_,rfl⟩
    ·exact⟨_,_,Ee (Nt hx hv (L6 hn hy hc hs)) ⟨_,_,rfl⟩,_,rfl⟩
   ·rw[Nat.min_eq_right (by ext)];cases hv:ar x
    ·exact⟨_,_,wZ (zj (.inr rfl) hx hv (QB hn hy hc hs)),_,rfl⟩
    ·exact⟨_,_,wZ (yG hx hv (Qw hn hy hc hs)),_,rfl⟩
  ·rw[if_neg (by decide)];cases hv:ar x
   ·rw[if_pos rfl];by_cases hs:2<J.length
    ·rw[Nat.min_eq_left (by ext)];exact⟨_,_,Ee (zj (.inl rfl) hx hv (Qe hn hy hc hs)) ⟨_,_,rfl⟩,_,rfl⟩
    ·rw[Nat.min_eq_right (by ext)];exact⟨_,_,wZ (zj (.inr rfl) hx hv (JU hn hy hc hs)),_,rfl⟩
   ·rw[if_neg (by decide)];by_cases hs:skip ar J 2<J.length
    ·rw[Nat.min_eq_left (by ext)];exact⟨_,_,Ee (Nt hx hv (Ma hn hy hc hs)) ⟨_,_,rfl⟩,_,rfl⟩
    ·rw[Nat.min_eq_right (by ext)];exact⟨_,_,wZ (yG hx hv (Q0 hn hy hc hs)),_,rfl⟩
end
section
variable {J:List Nat}{lb τ κ pV p1 p2:Int}{n:Nat}
noncomputable def co(a b:V)(r:af):af:=((("self":Str),V.self):Str×V) :: ((("v_1":Str),a):Str×V) :: r
def Jd:Stmt:=ai az 7
theorem qh(p:Nat→Bool):∀ (m k:Nat),J.length-k=m→skip p J k<J.length→∃ x,J[skip p J k]?=some x∧p x=false
 | 0,k,hm,hk=>absurd hk (by have:=En (p:=p) (l:=J) (k:=k);ext)
 | m+1,k,hm,hk=>by
  obtain⟨x,hx⟩:=dc (show k<J.length by ext);cases hp:p x
  ·rw[ij hx hp];exact⟨x,hx,hp⟩
  ·rw[km hx hp] at hk ⊢;exact qh p m (k+1) (by ext) hk
theorem o8{k:Nat}(hk:skip ay J k<J.length):skip ar J (skip ay J k)=skip ar J (skip ay J k+1):=by
 obtain⟨x,hx,hv⟩:=qh ay _ k rfl hk;exact km hx (by unfold ay at hv;cases q:ar x<;>simp_all)
theorem qs{k:Nat}(h:skip ay J k<J.length)(h2:skip ar J (skip ay J k+1)<J.length):ap J k=skip ar J (skip ay J k+1)+1:=by
 unfold ap;rw[o8 h];exact Nat.min_eq_left (by ext)
theorem l9{k:Nat}(hk:k≤J.length)(h:¬ skip ay J k<J.length):ap J k=J.length:=by
 unfold ap;have:=kI (p:=ay) hk;have e:skip ay J k=J.length:=by ext
 rw[e,gM (le_refl _)];exact Nat.min_eq_right (by ext)
theorem qv{k:Nat}(h:skip ay J k<J.length)(h2:¬ skip ar J (skip ay J k+1)<J.length):ap J k=J.length:=by
 unfold ap;rw[o8 h];exact Nat.min_eq_right (by ext)
def GO(f:Fn)(J:List Nat)(lb τ κ pV p1 p2:Int)(k a:Nat)(b:Bool):Prop:=∀ m,J.length+20≤m→(ev m).C f [.self,.gv] (aK J k J.length lb τ κ pV p1 p2)=some (.bool b,aK J a J.length lb τ κ pV p1 p2)
theorem zQ{k a:Nat}(hk:k≤J.length)(h:skip ay J k=a):GO ac J lb τ κ pV p1 p2 k a (decide (a<J.length)):=fun m hm=>by subst h;exact jo hm hk
theorem C2{k a:Nat}(hk:k≤J.length)(h:skip ar J k=a):GO aj J lb τ κ pV p1 p2 k a (decide (a<J.length)):=fun m hm=>by subst h;exact lA hm hk
theorem Qh{r:af}{v:V}(hn:J.length+60≤n){a:Nat}(H1:GO ac J lb τ κ pV J.length J.length 0 a false):(ev (n+30)).S mQ (co v v r) (aK J (0:Nat) J.length lb τ κ pV J.length J.length) Jd=some (.next,co v v r,aK J (a:Nat) J.length lb τ κ pV J.length J.length):=by
 unfold GO at*;refine bZ (x:=.exc 900) (aB (ρ':=co v v r) (Y':=aK J (a:Nat) J.length lb τ κ pV J.length J.length) (be (f:=ac) (vs:=[.gv]) (Y':=aK J (a:Nat) J.length lb τ κ pV J.length J.length) rfl rfl rfl rfl rfl (H1 _ (by ext)) (aB rfl))) rfl
theorem Qr{r:af}{v:V}(hn:J.length+60≤n){a b:Nat}(H1:GO ac J lb τ κ pV J.length J.length 0 a true)(H2:GO aj J lb τ κ pV J.length J.length (a+1) b false):(ev (n+30)).S mQ (co v v r) (aK J (0:Nat) J.length lb τ κ pV J.length J.length) Jd=some (.next,co v v r,aK J (b:Nat) J.length lb τ κ pV J.length J.length):=by
 unfold GO at*;refine bZ (x:=.exc 900) (aa (ρ':=co v v r) (Y':=aK J (a:Nat) J.length lb τ κ pV J.length J.length) (aS (f:=ac) (vs:=[.gv]) (Y':=aK J (a:Nat) J.length lb τ κ pV J.length J.length) rfl rfl rfl rfl rfl (H1 _ (by ext))) (aa (ρ':=co v v r) (Y':=aK J (a+1:Nat) J.length lb τ κ pV J.length J.length) rfl (aB (ρ':=co v v r) (Y':=aK J (b:Nat) J.length lb τ κ pV J.length J.length) (be (f:=aj) (vs:=[.gv]) (Y':=aK J (b:Nat) J.length lb τ κ pV J.length J.length) rfl rfl rfl rfl rfl (H2 _ (by ext)) (aB rfl))))) rfl
theorem PU{r:af}{v:V}(hn:J.length+60≤n){a b c:Nat}(H1:GO ac J lb τ κ pV J.length J.length 0 a true)(H2:GO aj J lb τ κ pV J.length J.length (a+1) b true)(H3:GO ac J lb τ κ pV (b+1:Nat) J.length (b+1) c false):(ev (n+30)).S mQ (co v v r) (aK J (0:Nat) J.length lb τ κ pV J.length J.length) Jd=some (.next,co v v r,aK J (c:Nat) J.length lb τ κ pV (b+1:Nat) J.length):=by
 unfold GO at*;refine bZ (x:=.exc 900) (aa (ρ':=co v v r) (Y':=aK J (a:Nat) J.length lb τ κ pV J.length J.length) (aS (f:=ac) (vs:=[.gv]) (Y':=aK J (a:Nat) J.length lb τ κ pV J.length J.length) rfl rfl rfl rfl rfl (H1 _ (by ext))) (aa (ρ':=co v v r) (Y':=aK J (a+1:Nat) J.length lb τ κ pV J.length J.length) rfl (aa (ρ':=co v v r) (Y':=aK J (b:Nat) J.length lb τ κ pV J.length J.length) (aS (f:=aj) (vs:=[.gv]) (Y':=aK J (b:Nat) J.length lb τ κ pV J.length J.length) rfl rfl rfl rfl rfl (H2 _ (by ext))) (aa (ρ':=co v v r) (Y':=aK J (b+1:Nat) J.length lb τ κ pV J.length J.length) rfl (aa (ρ':=co v v r) (Y':=aK J (b+1:Nat) J.length lb τ κ pV (b+1:Nat) J.length) rfl (aB (ρ':=co v v r) (Y':=aK J (c:Nat) J.length lb τ κ pV (b+1:Nat) J.length) (be (f:=ac) (vs:=[.gv]) (Y':=aK J (c:Nat) J.length lb τ κ pV (b+1:Nat) J.length) rfl rfl rfl rfl rfl (H3 _ (by ext)) (aB rfl)))))))) rfl
theorem QH{r:af}{v:V}(hn:J.length+60≤n){a b c d:Nat}(H1:GO ac J lb τ κ pV J.length J.length 0 a true)(H2:GO aj J lb τ κ pV J.length J.length (a+1) b true)(H3:GO ac J lb τ κ pV (b+1:Nat) J.length (b+1) c true)(H4:GO aj J lb τ κ pV (b+1:Nat) J.length (c+1) d false):(ev (n+30)).S mQ (co v v r) (aK J (0:Nat) J.length lb τ κ pV J.length J.length) Jd=some (.next,co v v r,aK J (d:Nat) J.length lb τ κ pV (b+1:Nat) J.length):=by
 unfold GO at*;refine bZ (x:=.exc 900) (aa (ρ':=co v v r) (Y':=aK J (a:Nat) J.length lb τ κ pV J.length J.length) (aS (f:=ac) (vs:=[.gv]) (Y':=aK J (a:Nat) J.length lb τ κ pV J.length J.length) rfl rfl rfl rfl rfl (H1 _ (by ext))) (aa (ρ':=co v v r) (Y':=aK J (a+1:Nat) J.length lb τ κ pV J.length J.length) rfl (aa (ρ':=co v v r) (Y':=aK J (b:Nat) J.length lb τ κ pV J.length J.length) (aS (f:=aj) (vs:=[.gv]) (Y':=aK J (b:Nat) J.length lb τ κ pV J.length J.length) rfl rfl rfl rfl rfl (H2 _ (by ext))) (aa (ρ':=co v v r) (Y':=aK J (b+1:Nat) J.length lb τ κ pV J.length J.length) rfl (aa (ρ':=co v v r) (Y':=aK J (b+1:Nat) J.length lb τ κ pV (b+1:Nat) J.length) rfl (aa (ρ':=co v v r) (Y':=aK J (c:Nat) J.length lb τ κ pV (b+1:Nat) J.length) (aS (f:=ac) (vs:=[.gv]) (Y':=aK J (c:Nat) J.length lb τ κ pV (b+1:Nat) J.length) rfl rfl rfl rfl rfl (H3 _ (by ext))) (aa (ρ':=co v v r) (Y':=aK J (c+1:Nat) J.length lb τ κ pV (b+1:Nat) J.length) rfl (aB (ρ':=co v v r) (Y':=aK J (d:Nat) J.length lb τ κ pV (b+1:Nat) J.length) (be (f:=aj) (vs:=[.gv]) (Y':=aK J (d:Nat) J.length lb τ κ pV (b+1:Nat) J.length) rfl rfl rfl rfl rfl (H4 _ (by ext)) (aB rfl)))))))))) rfl
theorem QR{r:af}{v:V}(hn:J.length+60≤n){a b c d:Nat}(H1:GO ac J lb τ κ pV J.length J.length 0 a true)(H2:GO aj J lb τ κ pV J.length J.length (a+1) b true)(H3:GO ac J lb τ κ pV (b+1:Nat) J.length (b+1) c true)(H4:GO aj J lb τ κ pV (b+1:Nat) J.length (c+1) d true):(ev (n+30)).S mQ (co v v r) (aK J (0:Nat) J.length lb τ κ pV J.length J.length) Jd=some (.next,co v v r,aK J (d+1:Nat) J.length lb τ κ pV (b+1:Nat) (d+1:Nat)):=by
 unfold GO at*;refine bZ (x:=.next) (aa (ρ':=co v v r) (Y':=aK J (a:Nat) J.length lb τ κ pV J.length J.length) (aS (f:=ac) (vs:=[.gv]) (Y':=aK J (a:Nat) J.length lb τ κ pV J.length J.length) rfl rfl rfl rfl rfl (H1 _ (by ext))) (aa (ρ':=co v v r) (Y':=aK J (a+1:Nat) J.length lb τ κ pV J.length J.length) rfl (aa (ρ':=co v v r) (Y':=aK J (b:Nat) J.length lb τ κ pV J.length J.length) (aS (f:=aj) (vs:=[.gv]) (Y':=aK J (b:Nat) J.length lb τ κ pV J.length J.length) rfl rfl rfl rfl rfl (H2 _ (by ext))) (aa (ρ':=co v v r) (Y':=aK J (b+1:Nat) J.length lb τ κ pV J.length J.length) rfl (aa (ρ':=co v v r) (Y':=aK J (b+1:Nat) J.length lb τ κ pV (b+1:Nat) J.length) rfl (aa (ρ':=co v v r) (Y':=aK J (c:Nat) J.length lb τ κ pV (b+1:Nat) J.length) (aS (f:=ac) (vs:=[.gv]) (Y':=aK J (c:Nat) J.length lb τ κ pV (b+1:Nat) J.length) rfl rfl rfl rfl rfl (H3 _ (by ext))) (aa (ρ':=co v v r) (Y':=aK J (c+1:Nat) J.length lb τ κ pV (b+1:Nat) J.length) rfl (aa (ρ':=co v v r) (Y':=aK J (d:Nat) J.length lb τ κ pV (b+1:Nat) J.length) (aS (f:=aj) (vs:=[.gv]) (Y':=aK J (d:Nat) J.length lb τ κ pV (b+1:Nat) J.length) rfl rfl rfl rfl rfl (H4 _ (by ext))) (aa (ρ':=co v v r) (Y':=aK J (d+1:Nat) J.length lb τ κ pV (b+1:Nat) J.length) rfl (aa (ρ':=co v v r) (Y':=aK J (d+1:Nat) J.length lb τ κ pV (b+1:Nat) (d+1:Nat)) rfl er)))))))))) rfl
end
section
variable {n:Nat}{sc:Scope}{ρ Y Y':af}{v:V}
theorem pD{id:Str}{p:Pos}(hd:id≠"__debug__")(hc:id≠"__classdict__")(hk:sc.names.lookup id=some .local)(hl:look ρ id=some v):(ev (n+1)).E sc ρ Y (.Name id p)=some (v,Y):=by
 show (if id="__debug__" then none else if id="__classdict__" then none else match sc.names.lookup id with
     | some .globalImplicit=>(glob id).map fun v=>(v,Y)
     | some .local | some .cell | some .free=>(look ρ id).map fun v=>(v,Y)
     | _=>none)=_
 rw[if_neg hd,if_neg hc,hk];dsimp only;rw[hl];rfl
theorem jA{id attr:Str}{p q pos:Pos}{e:Expr}(hc:fA e=false)(he:(ev n).E sc ρ Y e=some (v,Y'))(hs:(ev n).E sc ρ Y' (.Name id p)=some (.self,Y'))(hf:dN attr=true)(hl:Nat.ble Y'.length 100=true):(ev (n+1)).S sc ρ Y (.Assign [.Attribute (.Name id p) attr q] e pos)=some (.next,ρ,put Y' attr v):=by
 show (match fA e,(ev n).E sc ρ Y e with
     | false,some (v,Y)=>match (ev n).E sc ρ Y (.Name id p) with
      | some (.self,Y)=>bif dN attr&&Nat.ble Y.length 100 then some (Fl.next,ρ,put Y attr v) else none
      | _=>none
     | _,_=>none)=_
 rw[hc,he];dsimp only;rw[hs];dsimp only;rw[hf,hl];rfl
end
section
variable {J:List Nat}{lb τ κ pV p1 p2:Int}{n:Nat}
theorem oQ:ap J J.length=J.length:=l9 (le_refl _) (by rw[gM (le_refl _)];ext)
theorem Gh{r:af}{v:V}(hn:J.length+60≤n):∃ c':Nat,(ev (n+30)).S mQ (co v v r) (aK J (0:Nat) J.length lb τ κ pV J.length J.length) Jd=some (.next,co v v r,aK J c' J.length lb τ κ pV (ap J 0:Nat) (ap J (ap J 0):Nat)):=by
 by_cases ha:skip ay J 0<J.length
 ·by_cases hb:skip ar J (skip ay J 0+1)<J.length
  ·rw[qs ha hb];have h1:∀ p1 p2,GO ac J lb τ κ pV p1 p2 0 (skip ay J 0) true:=fun p1 p2=>(decide_eq_true ha) ▸ zQ (zero_le _) rfl
   have h2:∀ p1 p2,GO aj J lb τ κ pV p1 p2 (skip ay J 0+1) (skip ar J (skip ay J 0+1)) true:=fun p1 p2=>(decide_eq_true hb) ▸ C2 (by ext) rfl
   generalize skip ar J (skip ay J 0+1)=b at*;generalize skip ay J 0=a at*;by_cases hc:skip ay J (b+1)<J.length
   ·have h3:∀ p1 p2,GO ac J lb τ κ pV p1 p2 (b+1) (skip ay J (b+1)) true:=fun p1 p2=>(decide_eq_true hc) ▸ zQ (by ext) rfl
    by_cases hd:skip ar J (skip ay J (b+1)+1)<J.length
    ·rw[qs hc hd];have h4:∀ p1 p2,GO aj J lb τ κ pV p1 p2 (skip ay J (b+1)+1) (skip ar J (skip ay J (b+1)+1)) true:=fun p1 p2=>(decide_eq_true hd) ▸ C2 (by ext) rfl
     exact⟨_,QR hn (h1 _ _) (h2 _ _) (h3 _ _) (h4 _ _)⟩
    ·rw[qv hc hd];have h4:∀ p1 p2,GO aj J lb τ κ pV p1 p2 (skip ay J (b+1)+1) (skip ar J (skip ay J (b+1)+1)) false:=fun p1 p2=>(decide_eq_false hd) ▸ C2 (by ext) rfl
     exact⟨_,QH hn (h1 _ _) (h2 _ _) (h3 _ _) (h4 _ _)⟩
   ·rw[l9 (by ext) hc];have h3:∀ p1 p2,GO ac J lb τ κ pV p1 p2 (b+1) (skip ay J (b+1)) false:=fun p1 p2=>(decide_eq_false hc) ▸ zQ (by ext) rfl
    exact⟨_,PU hn (h1 _ _) (h2 _ _) (h3 _ _)⟩
  ·rw[qv ha hb,oQ];exact⟨_,Qr hn ((decide_eq_true ha) ▸ zQ (zero_le _) rfl) ((decide_eq_false hb) ▸ C2 (by ext) rfl)⟩
 ·rw[l9 (zero_le _) ha,oQ];exact⟨_,Qh hn ((decide_eq_false ha) ▸ zQ (zero_le _) rfl)⟩
theorem xd(hn:J.length+60≤n):∃ ρ',(ev (n+37)).SS mQ [("self",.self)] (Ey J lb τ κ) ((br az.st).drop 3)=some (.ret (.bool true),ρ',aK J (0:Nat) J.length lb τ κ (aQ J:Nat) (ap J 0:Nat) (ap J (ap J 0):Nat)):=by
 obtain⟨ρ',c',h4,r,hr⟩:=QS (lb:=lb) (τ:=τ) (κ:=κ) (n:=n+6) (J:=J) (by ext);subst hr;obtain⟨c7,h7⟩:=Gh (J:=J) (lb:=lb) (τ:=τ) (κ:=κ) (pV:=(aQ J:Nat)) (n:=n+2) (r:=put r "v_5" (.int (0:Nat))) (v:=.int (0:Nat)) (by ext);generalize aQ J=fo at*;generalize ap J (ap J 0)=b2 at*;generalize ap J 0=b1 at*;refine⟨co (.int (0:Nat)) (.int (0:Nat)) (put r "v_5" (.int (0:Nat))),?_⟩;refine aa (ρ':=rg) (Y':=Ey J lb τ κ) rfl ?_;refine aa (ρ':=co (.int (0:Nat)) (.int (0:Nat)) r) (Y':=aK J c' J.length lb τ κ fo J.length J.length) h4 ?_;refine aa (ρ':=co (.int (0:Nat)) (.int (0:Nat)) r) (Y':=aK J (0:Nat) J.length lb τ κ fo J.length J.length) rfl ?_;refine aa (ρ':=co (.int (0:Nat)) (.int (0:Nat)) (put r "v_5" (.int (0:Nat)))) (Y':=aK J (0:Nat) J.length lb τ κ fo J.length J.length) rfl ?_;refine aa (ρ':=co (.int (0:Nat)) (.int (0:Nat)) (put r "v_5" (.int (0:Nat)))) (Y':=aK J c7 J.length lb τ κ fo b1 b2) h7 ?_;refine aa (ρ':=co (.int (0:Nat)) (.int (0:Nat)) (put r "v_5" (.int (0:Nat)))) (Y':=aK J (0:Nat) J.length lb τ κ fo b1 b2) ?_ (bd rfl);refine jA (v:=.int (0:Nat)) (Y':=aK J c7 J.length lb τ κ fo b1 b2) rfl (pD (by decide) (by decide) rfl ?_) rfl rfl rfl;show look (put r "v_5" (.int (0:Nat))) "v_5"=_;rw[d9,if_pos rfl]
end
end
noncomputable def ak(J:List Nat)(c l lb τ κ:Int)(tl:af):af:=((("current":Str),V.str J):Str×V) :: ((("cursor":Str),V.int c):Str×V) :: ((("limit":Str),V.int l):Str×V) :: ((("limit_backward":Str),V.int lb):Str×V) :: ((("bra":Str),V.int τ):Str×V) :: ((("ket":Str),V.int κ):Str×V) :: tl
noncomputable def aV(pV p1 p2:Int):af:=[("I_pV",.int pV),("I_p1",.int p1),("I_p2",.int p2)]
section
variable {J:List Nat}{c l lb τ κ pV p1 p2:Int}{n:Nat}{tl:af}
theorem Dz:aK J c l lb τ κ pV p1 p2=ak J c l lb τ κ (aV pV p1 p2):=rfl
def eg(tl:af):Prop:=tl=[]∨∃ a b c,tl=aV a b c
theorem pZ:br az.st=ai az 0 :: ai az 1 :: ai az 2 :: (br az.st).drop 3:=by rfl'
theorem zM(ht:eg tl)(hn:J.length+110≤n):(ev n).C az [.self] (ak J (0:Nat) J.length lb τ κ tl)=some (.bool true,aK J (0:Nat) J.length lb τ κ (aQ J:Nat) (ap J 0:Nat) (ap J (ap J 0):Nat)):=by
 obtain⟨n,rfl⟩:∃ m,n=m+41:=⟨n-41,by ext⟩;obtain⟨ρ',h⟩:=xd (J:=J) (lb:=lb) (τ:=τ) (κ:=κ) (n:=n) (by ext);generalize aQ J=fo at*;generalize ap J (ap J 0)=b2 at*;generalize ap J 0=b1 at*;rcases ht with rfl | ⟨x,y,z,rfl⟩
 ·refine gm (n:=n+40) (ρ':=ρ') (ρ:=[("self",.self)]) rfl rfl pZ ?_;refine aa (n:=n+39) (ρ':=[("self",.self)]) (Y':=ak J (0:Nat) J.length lb τ κ [("I_pV",.int J.length)]) rfl ?_;refine aa (n:=n+38) (ρ':=[("self",.self)]) (Y':=ak J (0:Nat) J.length lb τ κ [("I_pV",.int J.length),("I_p1",.int J.length)]) rfl ?_;refine aa (n:=n+37) (ρ':=[("self",.self)]) (Y':=Ey J lb τ κ) rfl ?_;rw[h]
 ·refine gm (n:=n+40) (ρ':=ρ') (ρ:=[("self",.self)]) rfl rfl pZ ?_;refine aa (n:=n+39) (ρ':=[("self",.self)]) (Y':=ak J (0:Nat) J.length lb τ κ (aV J.length y z)) rfl ?_;refine aa (n:=n+38) (ρ':=[("self",.self)]) (Y':=ak J (0:Nat) J.length lb τ κ (aV J.length J.length z)) rfl ?_;refine aa (n:=n+37) (ρ':=[("self",.self)]) (Y':=Ey J lb τ κ) rfl ?_;rw[h]
end
section
variable {J s:List Nat}{c l lb τ κ:Int}{n:Nat}{tl:af}
theorem CE:(ev (n+8)).C cP [.self] (ak J c l lb τ κ tl)=some (.str J,ak J c l lb τ κ tl):=rfl
theorem CS(ht:eg tl):(ev (n+20)).C cN [.self,.str s] (ak J c l lb τ κ tl)=some (.none,ak s (0:Nat) s.length (0:Nat) (0:Nat) s.length tl):=by
 rcases ht with rfl | ⟨x,y,z,rfl⟩
 ·refine pi (ρ':=[("self",.self),("value",.str s)]) rfl ?_;refine aa (ρ':=[("self",.self),("value",.str s)]) (Y':=ak s c l lb τ κ []) rfl ?_;refine aa (ρ':=[("self",.self),("value",.str s)]) (Y':=ak s (0:Nat) l lb τ κ []) rfl ?_;refine aa (ρ':=[("self",.self),("value",.str s)]) (Y':=ak s (0:Nat) s.length lb τ κ []) rfl ?_;refine aa (ρ':=[("self",.self),("value",.str s)]) (Y':=ak s (0:Nat) s.length (0:Nat) τ κ []) rfl ?_;refine aa (ρ':=[("self",.self),("value",.str s)]) (Y':=ak s (0:Nat) s.length (0:Nat) (0:Nat) κ []) rfl ?_;refine aa (ρ':=[("self",.self),("value",.str s)]) (Y':=ak s (0:Nat) s.length (0:Nat) (0:Nat) s.length []) rfl ?_;exact er
 ·refine pi (ρ':=[("self",.self),("value",.str s)]) rfl ?_;refine aa (ρ':=[("self",.self),("value",.str s)]) (Y':=ak s c l lb τ κ (aV x y z)) rfl ?_;refine aa (ρ':=[("self",.self),("value",.str s)]) (Y':=ak s (0:Nat) l lb τ κ (aV x y z)) rfl ?_;refine aa (ρ':=[("self",.self),("value",.str s)]) (Y':=ak s (0:Nat) s.length lb τ κ (aV x y z)) rfl ?_;refine aa (ρ':=[("self",.self),("value",.str s)]) (Y':=ak s (0:Nat) s.length (0:Nat) τ κ (aV x y z)) rfl ?_;refine aa (ρ':=[("self",.self),("value",.str s)]) (Y':=ak s (0:Nat) s.length (0:Nat) (0:Nat) κ (aV x y z)) rfl ?_;refine aa (ρ':=[("self",.self),("value",.str s)]) (Y':=ak s (0:Nat) s.length (0:Nat) (0:Nat) s.length (aV x y z)) rfl ?_;exact er
end
noncomputable def spl(J:List Nat)(a b:Nat)(s:List Nat):List Nat:=J.take a++s++J.drop b
theorem lm{n a:Nat}(h:a≤n):(clamp n (a:Int)).toNat=a:=by
 unfold clamp;rw[if_neg (by ext)];ext
theorem iu{J:List Nat}{a:Nat}(h:a≤J.length):bM J (some (0:Nat)) (some (a:Int))=J.take a:=by
 show (J.take (clamp J.length (a:Int)).toNat).drop (clamp J.length ((0:Nat):Int)).toNat=_;rw[lm h,lm (zero_le _)];rfl
theorem gL{J:List Nat}{b:Nat}(h:b≤J.length):bM J (some (b:Int)) none=J.drop b:=by
 show (J.take ((J.length:Int)).toNat).drop (clamp J.length (b:Int)).toNat=_;rw[lm h,show ((J.length:Int)).toNat=J.length by ext,List.take_length]
section
set_option tactic.hygienic false
section
variable {n:Nat}{sc:Scope}{ρ Y:af}{v e l u:Expr}{t:List Nat}{i j:Int}{p:Pos}
theorem tK(hv:(ev n).E sc ρ Y v=some (.str t,Y))(hl:(ev n).E sc ρ Y l=some (.int i,Y))(hu:(ev n).E sc ρ Y u=some (.int j,Y)){q:Pos}:(ev (n+1)).E sc ρ Y (.Subscript v (.Slice (some l) (some u) none q) p)=some (.str (bM t (some i) (some j)),Y):=by
 have o1:dz (ev n).E sc ρ Y (some l)=some (some i,Y):=by unfold dz;dsimp only;rw[hl]
 have o2:dz (ev n).E sc ρ Y (some u)=some (some j,Y):=by unfold dz;dsimp only;rw[hu]
 show (match (ev n).E sc ρ Y v with
     | some (.str t,Y)=>match dz (ev n).E sc ρ Y (some l) with
      | some (a,Y)=>match dz (ev n).E sc ρ Y (some u) with
       | some (b,Y)=>some (V.str (bM t a b),Y)
       | none=>none
      | none=>none
     | some (.list t,Y)=>_
     | _=>_)=_
 rw[hv];dsimp only;rw[o1];dsimp only;rw[o2]
theorem vB(hv:(ev n).E sc ρ Y v=some (.str t,Y))(hl:(ev n).E sc ρ Y l=some (.int i,Y)){q:Pos}:(ev (n+1)).E sc ρ Y (.Subscript v (.Slice (some l) none none q) p)=some (.str (bM t (some i) none),Y):=by
 have o1:dz (ev n).E sc ρ Y (some l)=some (some i,Y):=by unfold dz;dsimp only;rw[hl]
 show (match (ev n).E sc ρ Y v with
     | some (.str t,Y)=>match dz (ev n).E sc ρ Y (some l) with
      | some (a,Y)=>match dz (ev n).E sc ρ Y none with
       | some (b,Y)=>some (V.str (bM t a b),Y)
       | none=>none
      | none=>none
     | some (.list t,Y)=>_
     | _=>_)=_
 rw[hv];dsimp only;rw[o1];rfl
theorem oR{a b:Expr}{x y:List Nat}(ha:(ev n).E sc ρ Y a=some (.str x,Y))(hb:(ev n).E sc ρ Y b=some (.str y,Y))(hs:(x++y).length≤1048576):(ev (n+1)).E sc ρ Y (.BinOp a .Add b p)=some (.str (x++y),Y):=by
 show (match (ev n).E sc ρ Y a with
     | some (x,Y)=>match (ev n).E sc ρ Y b with
      | some (y,Y)=>(pJ .Add x y).map fun v=>(v,Y)
      | none=>none
     | none=>none)=_
 rw[ha];dsimp only;rw[hb];show (BQ (x++y)).map _=_;unfold BQ dZ;rw[ble_eq_true_of_le hs];rfl
end
end
section
variable {J s:List Nat}{lb τ κ:Int}{n:Nat}{x y z:Int}
noncomputable def eP(a b:Nat)(s:List Nat):af:=[("self",.self),("c_bra",.int a),("c_ket",.int b),("s",.str s),("adjustment",.int (s.length-((b:Int)-a)))]
theorem wo{a b k:Nat}(ha:a≤b)(hk:k≤a)(hkb:k<b)(hb:b≤J.length)(hs:(spl J a b s).length≤1048576):(ev (n+30)).C bU [.self,.int a,.int b,.str s] (ak J k J.length lb τ κ (aV x y z))=some (.int (s.length-((b:Int)-a)),ak (spl J a b s) k ((J.length:Int)+(s.length-((b:Int)-a))) lb τ κ (aV x y z)):=by
 have e1:=iu (J:=J) (a:=a) (by ext);have e2:=gL (J:=J) (b:=b) hb;refine fN (ρ':=eP a b s) rfl ?_;refine aa (ρ':=eP a b s) (Y':=ak J k J.length lb τ κ (aV x y z)) rfl ?_;refine aa (ρ':=eP a b s) (Y':=ak (spl J a b s) k J.length lb τ κ (aV x y z)) ?_ ?_
 ·refine jA (v:=.str (spl J a b s)) (Y':=ak J k J.length lb τ κ (aV x y z)) rfl ?_ rfl rfl rfl;unfold spl;rw[←e1,←e2];unfold spl at hs;rw[←e1,←e2] at hs;refine oR (oR (tK rfl rfl rfl) rfl ?_) (vB rfl rfl) hs;simp only[length_append] at hs ⊢;ext
 ·refine aa (ρ':=eP a b s) (Y':=ak (spl J a b s) k ((J.length:Int)+(s.length-((b:Int)-a))) lb τ κ (aV x y z)) rfl ?_;refine aa (ρ':=eP a b s) (Y':=ak (spl J a b s) k ((J.length:Int)+(s.length-((b:Int)-a))) lb τ κ (aV x y z)) ?_ (bd rfl);exact bD (c:=decide ((b:Int)≤k)) rfl (ZF) (aa (bD (c:=decide ((a:Int)<k)) rfl (ZF) er) er)
end
section
set_option tactic.hygienic false
section
variable {n:Nat}{sc:Scope}{ρ Y Y':af}
theorem cW{t:Expr}{p:Pos}{c:Bool}(h:(ev n).T sc ρ Y t=some (c,Y))(hc:c=true):(ev (n+1)).S sc ρ Y (.Assert t none p)=some (.next,ρ,Y):=by
 show (match (ev n).T sc ρ Y t with
     | some (true,Y)=>some (Fl.next,ρ,Y)
     | _=>none)=_
 rw[h,hc]
theorem qL{f:Expr}{as:List Expr}{ks:List Keyword}{p q:Pos}{v:V}(h:(ev n).E sc ρ Y (.Call f as ks p)=some (v,Y')):(ev (n+1)).S sc ρ Y (.Expr (.Call f as ks p) q)=some (.next,ρ,Y'):=by
 show (match (ev n).E sc ρ Y (.Call f as ks p) with
     | some (_,Y)=>some (Fl.next,ρ,Y)
     | none=>none)=_
 rw[h]
theorem hJ{o:Expr}{name:Str}{apos pos:Pos}{args:List Expr}{f:Fn}{vs:List V}{v:V}(ho:(ev n).E sc ρ Y o=some (.self,Y))(hok:ax o args apos pos=true)(hm:bJ name=some f)(hl:look Y name=none)(ha:dl (ev n).E sc ρ Y args=some (vs,Y))(hc:(ev n).C f (.self :: vs) Y=some (v,Y')):(ev (n+1)).E sc ρ Y (.Call (.Attribute o name apos) args [] pos)=some (v,Y'):=by
 show (match ax o args apos pos,(ev n).E sc ρ Y o with
     | true,some (.self,Y)=>match bJ name with
      | some f=>(match look Y name with
       | none=>(match dl (ev n).E sc ρ Y args with
        | some (vs,Y)=>(ev n).C f (.self :: vs) Y
        | none=>none)
       | some _=>none)
      | none=>none
     | true,some (.str t,Y)=>_
     | _,_=>_)=_
 rw[hok,ho];dsimp only;rw[hm];dsimp only;rw[hl];dsimp only;rw[ha];exact hc
end
section
variable {J J' s:List Nat}{lb k' L':Int}{n:Nat}{x y z r:Int}
theorem tj{a b k:Nat}(ha:a≤b)(hb:b≤J.length)(H:(ev (n+30)).C bU [.self,.int a,.int b,.str s] (ak J k J.length lb a b (aV x y z))=some (.int r,ak J' k' L' lb a b (aV x y z))):(ev (n+38)).C bV [.self,.str s] (ak J k J.length lb a b (aV x y z))=some (.none,ak J' k' L' lb a ((a:Int)+s.length) (aV x y z)):=by
 refine pi (ρ':=[("self",.self),("s",.str s)]) rfl ?_;refine aa (ρ':=[("self",.self),("s",.str s)]) (Y':=ak J k J.length lb a b (aV x y z)) (cW (c:=decide ((0:Int)≤a)) rfl (ZT)) ?_;refine aa (ρ':=[("self",.self),("s",.str s)]) (Y':=ak J k J.length lb a b (aV x y z)) (cW (c:=decide ((a:Int)≤b)) rfl (ZT)) ?_;refine aa (ρ':=[("self",.self),("s",.str s)]) (Y':=ak J k J.length lb a b (aV x y z)) (cW (c:=decide ((b:Int)≤J.length)) rfl (ZT)) ?_;refine aa (ρ':=[("self",.self),("s",.str s)]) (Y':=ak J k J.length lb a b (aV x y z)) (cW (c:=decide ((J.length:Int)≤J.length)) rfl (ZT)) ?_;refine aa (ρ':=[("self",.self),("s",.str s)]) (Y':=ak J' k' L' lb a b (aV x y z)) (qL (v:=.int r) (hJ (f:=bU) (vs:=[.int a,.int b,.str s]) rfl rfl rfl rfl rfl ?_)) ?_
 ·rw[H]
 ·exact aa rfl er
end
end
theorem zt{n:Nat}{sc:Scope}{ρ Y Y':af}{e:Expr}{p:Pos}{v:V}(h:(ev n).E sc ρ Y e=some (v,Y')):(ev (n+1)).S sc ρ Y (.Return (some e) p)=some (.ret v,ρ,Y'):=by
 show (match (ev n).E sc ρ Y e with
     | some (v,Y)=>some (Fl.ret v,ρ,Y)
     | none=>none)=_
 rw[h]
section
variable {J:List Nat}{lb:Int}{n:Nat}{x y z:Int}
theorem wq{a b k:Nat}(hk:k≤a)(hab:a<b)(hb:b≤J.length)(hs:J.length≤1048576):(ev (n+42)).C cQ [.self] (ak J k J.length lb a b (aV x y z))=some (.none,ak (J.take a++J.drop b) k (J.take a++J.drop b).length lb a a (aV x y z)):=by
 have hl:(J.take a++J.drop b).length=J.length-(b-a):=by rw[length_append,length_take,length_drop];ext
 have e:spl J a b []=J.take a++J.drop b:=by unfold spl;rw[List.append_nil]
 have H:=wo (n:=n) (J:=J) (s:=[]) (lb:=lb) (τ:=a) (κ:=b) (x:=x) (y:=y) (z:=z) (a:=a) (b:=b) (k:=k) (by ext) hk (by ext) hb (by rw[e,hl];ext);have F:=tj (a:=a) (b:=b) (k:=k) (by ext) hb H;rw[e] at F;have el:(J.length:Int)+(([]:List Nat).length-((b:Int)-a))=(J.take a++J.drop b).length:=by rw[hl,List.length_nil];ext
 have ek:(a:Int)+([]:List Nat).length=a:=by rw[List.length_nil];ext
 rw[el,ek] at F;refine fN (ρ':=[("self",.self)]) rfl (bd (zt (hJ (f:=bV) (vs:=[.str []]) rfl rfl rfl rfl rfl ?_)));rw[F]
end
section
set_option tactic.hygienic false
section
variable {J:List Nat}{c l lb τ κ:Int}{n:Nat}{x y z:Int}
theorem zR{n:Nat}{sc:Scope}{ρ Y:af}{o e:Expr}{apos pos:Pos}{t u:List Nat}(hok:ax o [e] apos pos=true)(ho:(ev (n+1)).E sc ρ Y o=some (.str t,Y))(he:(ev (n+1)).E sc ρ Y e=some (.str u,Y)):(ev (n+3)).T sc ρ Y (.Call (.Attribute o "endswith" apos) [e] [] pos)=some (cK u t,Y):=by
 have ha:dl (ev (n+1)).E sc ρ Y [e]=some ([.str u],Y):=by
  unfold dl;rw[he];rfl
 have q:(ev (n+2)).E sc ρ Y (.Call (.Attribute o "endswith" apos) [e] [] pos)=some (.bool (cK u t),Y):=by
  show (match ax o [e] apos pos,(ev (n+1)).E sc ρ Y o with
     | true,some (.self,Y)=>_
     | true,some (.str t,Y)=>
      if ("endswith":Str)="endswith" then (match dl (ev (n+1)).E sc ρ Y [e] with
       | some ([.str u],Y)=>some (V.bool (cK u t),Y)
       | _=>none)
      else _
     | _,_=>_)=_
  rw[hok,ho];dsimp only;rw[if_pos rfl,ha]
 show (match (ev (n+2)).E sc ρ Y (.Call (.Attribute o "endswith" apos) [e] [] pos) with | some (V.bool b,Y)=>some (b,Y) | _=>none)=_;rw[q]
end
end
section
variable {J u:List Nat}{l τ κ:Int}{n:Nat}{x y z:Int}
noncomputable def HI(u:List Nat):af:=[("self",.self),("s",.str u)]
theorem De{k:Nat}(hk:k≤J.length):(ev (n+20)).C fS [.self,.str u] (ak J k l (0:Nat) τ κ (aV x y z))=some (.bool (cK u (J.take k)),ak J (bif cK u (J.take k) then (k:Int)-u.length else k) l (0:Nat) τ κ (aV x y z)):=by
 have e1:=iu (J:=J) (a:=k) hk;cases hv:cK u (J.take k)
 ·refine fN (ρ':=HI u) rfl ?_;refine aa (ρ':=HI u) (Y':=ak J k l (0:Nat) τ κ (aV x y z)) (bD (c:=cK u (J.take k)) (zR (t:=J.take k) (u:=u) rfl ?_ rfl) hv rfl) (bd rfl);rw[←e1];exact tK rfl rfl rfl
 ·refine fN (ρ':=HI u) rfl ?_;refine bd (bQ (c:=cK u (J.take k)) (zR (t:=J.take k) (u:=u) rfl ?_ rfl) hv (aa rfl (bd rfl)));rw[←e1];exact tK rfl rfl rfl
end
end Mine.Internal.P
end
noncomputable section
set_option maxHeartbeats 2000000
namespace Mine.Internal.P
section
set_option tactic.hygienic false
noncomputable def ey:List Nat→List Nat→Bool
 | _,[]=>false
 | [],_ :: _=>true
 | y :: t,x :: e=>if y<x then true else if x<y then false else ey t e
noncomputable def lcp:List Nat→List Nat→Nat
 | x :: e,y :: t=>if x=y then lcp e t+1 else 0
 | _,_=>0
theorem jJ(x:Nat)(e t:List Nat):lcp (x :: e) (x :: t)=lcp e t+1:=by
 show (if x=x then lcp e t+1 else 0)=_;rw[if_pos rfl]
theorem uG{x y:Nat}(h:x≠y)(e t:List Nat):lcp (x :: e) (y :: t)=0:=by
 show (if x=y then lcp e t+1 else 0)=_;rw[if_neg h]
theorem tG:∀ e t,lcp e t≤e.length
 | [],t=>by cases t<;>exact le_refl _
 | x :: e,[]=>zero_le _
 | x :: e,y :: t=>by
  unfold lcp;split
  ·exact Nat.succ_le_succ (tG e t)
  ·exact zero_le _
theorem pF:∀ e t,lcp e t≤t.length
 | [],t=>by cases t<;>exact zero_le _
 | x :: e,[]=>zero_le _
 | x :: e,y :: t=>by
  unfold lcp;split
  ·exact Nat.succ_le_succ (pF e t)
  ·exact zero_le _
theorem tc:∀ (q:Nat) (e t:List Nat),q≤lcp e t→lcp e t=q+lcp (e.drop q) (t.drop q)∧ey t e=ey (t.drop q) (e.drop q)
 | 0,e,t,_=>⟨by simp,rfl⟩
 | q+1,[],t,h=>by cases t<;>exact absurd h (Nat.not_succ_le_zero _)
 | q+1,x :: e,[],h=>absurd h (Nat.not_succ_le_zero _)
 | q+1,x :: e,y :: t,h=>by
  unfold lcp at h;split at h
  ·rename_i q';subst q';obtain⟨a,b⟩:=tc q e t (by ext);refine⟨?_,?_⟩
   ·rw[jJ];simp only[List.drop_succ_cons];ext
   ·show ey (x :: t) (x :: e)=_;rw[show ey (x :: t) (x :: e)=ey t e by rw[ey];simp];simp only[List.drop_succ_cons];exact b
  ·exact absurd h (Nat.not_succ_le_zero _)
theorem squeeze:∀ (q:Nat) (a b k t:List Nat),q≤lcp a t→q≤lcp b t→ey a k=true→ey k b=true→q≤lcp k t
 | 0,_,_,_,_,_,_,_,_=>zero_le _
 | q+1,a,b,k,t,ha,hb,h1,h2=>by
  induction t using zL with
  | nil=>cases a<;>exact absurd ha (Nat.not_succ_le_zero _)
  | cons y t=>
   induction a using zL with
   | nil=>exact absurd ha (Nat.not_succ_le_zero _)
   | cons x a=>
    induction b using zL with
    | nil=>exact absurd hb (Nat.not_succ_le_zero _)
    | cons z b=>
     unfold lcp at ha hb;split at ha
     ·split at hb
      ·rename_i e1 e2;subst e1 e2
       induction k using zL with
       | nil=>cases h1
       | cons v k=>
        rw[ey] at h1 h2;by_cases p1:z<v
        ·rw[if_neg (by ext),if_pos p1] at h2;cases h2
        ·rw[if_neg p1] at h1;by_cases p2:v<z
         ·rw[if_pos p2] at h1;cases h1
         ·have:v=z:=by ext
          subst this;rw[if_neg (lt_irrefl _)] at h1 h2;rw[if_neg (lt_irrefl _)] at h2;have:=squeeze q a b k t (by ext) (by ext) h1 h2;unfold lcp;rw[if_pos rfl];ext
      ·exact absurd hb (Nat.not_succ_le_zero _)
     ·exact absurd ha (Nat.not_succ_le_zero _)
section
variable {a b c q r n x y:Nat}{e t:List Nat}
theorem pa(h:q<a):a-1-q<a:=Nat.lt_of_le_of_lt (Nat.sub_le _ _) (Nat.sub_lt (Nat.zero_lt_of_lt h) Nat.one_pos)
theorem pc(h:q<a):(a:Int)-1-q=((a-1-q:Nat):Int):=by
 rw[Int.ofNat_sub (Nat.le_sub_one_of_lt h),Int.ofNat_sub (Nat.succ_le_of_lt (Nat.zero_lt_of_lt h))];rfl
theorem ps(h:r+1=a-q):q<a∧r=a-(q+1):=⟨Nat.lt_of_sub_pos (h ▸ Nat.succ_pos r),by rw[Nat.sub_add_eq,←h];rfl⟩
theorem S3(h:b≤c)(e:q=c-b):(c:Int)-q=b:=Int.sub_eq_iff_eq_add.mpr (congrArg Nat.cast (show c=b+q by rw[e,Nat.add_sub_cancel' h]))
theorem RY(h:b≤c)(e:q<c-b):¬ (c:Int)-q=b:=fun z=>by
 have h1:c=b+q:=Int.ofNat_inj.mp (Int.sub_eq_iff_eq_add.mp z);rw[h1,Nat.add_sub_cancel_left] at e;exact lt_irrefl _ e
theorem Um(h:c≤n)(e:q=n-c):(c:Int)+q=n:=congrArg Nat.cast (show c+q=n by rw[e,Nat.add_sub_cancel' h])
theorem SH(h:c≤n)(e:q<n-c):¬ (c:Int)+q=n:=fun z=>ne_of_lt (Nat.add_lt_of_lt_sub' e) (Int.ofNat_inj.mp z)
theorem Av:((0:Int)<0↔ey t []=true):=⟨fun h=>absurd h (by decide),fun h=>by cases t<;>exact nf h⟩
theorem zb:((-1:Int)<0↔ey [] (y :: e)=true):=⟨fun _=>rfl,fun _=>by decide⟩
theorem v5:ey (x :: t) (x :: e)=ey t e:=by rw[ey,if_neg (lt_irrefl _),if_neg (lt_irrefl _)]
theorem EI(h:x≠y):((x:Int)-y<0↔ey (x :: t) (y :: e)=true):=by
 rw[ey];by_cases h:x<y
 ·rw[if_pos h];exact⟨fun _=>rfl,fun _=>Int.sub_neg_of_lt (Int.ofNat_lt.mpr h)⟩
 ·rw[if_neg h,if_pos (Nat.lt_of_le_of_ne (Nat.not_lt.mp h) (Ne.symm ‹x≠y›))];exact⟨fun z=>absurd (Int.ofNat_lt.mp (Int.lt_of_sub_neg z)) h,fun h=>nf h⟩
theorem vJ:lcp [] t=0:=by cases t<;>rfl
theorem zd(h:x≠y):(!decide ((x:Int)-y=0))=true:=by rw[decide_eq_false (fun q=>h (by ext))];rfl
end
theorem lH:∀ (a b c:List Nat),ey a b=true→ey b c=true→ey a c=true
 | a,b,[],h1,h2=>by cases b<;>cases h2
 | a,[],z :: c,h1,h2=>by cases a<;>cases h1
 | [],y :: b,z :: c,h1,h2=>rfl
 | x :: a,y :: b,z :: c,h1,h2=>by
  rw[ey] at h1 h2 ⊢;by_cases p1:x<y
  ·by_cases p2:y<z
   ·rw[if_pos (by ext)]
   ·rw[if_neg p2] at h2;by_cases p3:z<y
    ·rw[if_pos p3] at h2;cases h2
    ·rw[if_pos (by ext)]
  ·rw[if_neg p1] at h1;by_cases p4:y<x
   ·rw[if_pos p4] at h1;cases h1
   ·rw[if_neg p4] at h1;have:x=y:=by ext
    subst this;by_cases p2:x<z
    ·rw[if_pos p2]
    ·rw[if_neg p2] at h2 ⊢;by_cases p3:z<x
     ·rw[if_pos p3] at h2;cases h2
     ·rw[if_neg p3] at h2 ⊢;exact lH a b c h1 h2
theorem rs:∀ (e t:List Nat),e <+: t↔lcp e t=e.length
 | [],t=>by cases t<;>simp[lcp]
 | x :: e,[]=>by simp[lcp]
 | x :: e,y :: t=>by
  rw[cons_prefix_cons,rs e t];by_cases q:x=y
  ·subst q;rw[jJ,length_cons];simp
  ·rw[uG q,length_cons];simp[q]
theorem jw:∀ (e t:List Nat),e <+: t→ey t e=false
 | [],t,_=>by cases t<;>rfl
 | x :: e,[],h=>by simp at h
 | x :: e,y :: t,h=>by
  rw[cons_prefix_cons] at h;obtain⟨rfl,h⟩:=h;rw[ey,if_neg (lt_irrefl _),if_neg (lt_irrefl _)];exact jw e t h
theorem vy:∀ (a e t:List Nat),a <+: t→ey a e=true→ey t e=false→a <+: e
 | [],e,t,_,_,_=>List.nil_prefix
 | x :: a,[],t,_,h,_=>by cases h
 | x :: a,z :: e,[],h,_,_=>by simp at h
 | x :: a,z :: e,y :: t,h,h1,h2=>by
  rw[cons_prefix_cons] at h;obtain⟨rfl,h⟩:=h;rw[ey] at h1 h2;by_cases p:x<z
  ·rw[if_pos p] at h2;cases h2
  ·rw[if_neg p] at h1 h2;by_cases p':z<x
   ·rw[if_pos p'] at h1;cases h1
   ·rw[if_neg p'] at h1 h2;have:x=z:=by ext
    subst this;rw[cons_prefix_cons];exact⟨rfl,vy a e t h h1 h2⟩
section
variable (e:Nat→List Nat)(sub:Nat→Int)(t:List Nat)
noncomputable def nt:Nat→Nat→Nat→Nat→Nat→Bool→Option (Nat×Nat)
 | 0,_,_,_,_,_=>none
 | f+1,i,j,ci,cj,fk=>
  let k:=i+(j-i) / 2
  let q:=min ci cj
  let c:=q+lcp ((e k).drop q) (t.drop q)
  if ey (t.drop q) ((e k).drop q) then
   (if k-i≤1 then (if 0<i then some (i,ci) else if k=i then some (i,ci) else if fk then some (i,ci) else nt f i k ci c true) else nt f i k ci c fk)
  else
   (if j-k≤1 then (if 0<k then some (k,c) else if j=k then some (k,c) else if fk then some (k,c) else nt f k j c cj true) else nt f k j c cj fk)
noncomputable def CR:Nat→Nat→Nat→Option (Option Nat)
 | 0,_,_=>none
 | f+1,i,c=>if (e i).length≤c then some (some i) else if sub i<0 then some none else CR f (sub i).toNat c
structure mv(N:Nat):Prop where
 two:2≤N
 sorted:∀ a b,a<b→b<N→ey (e a) (e b)=true
 none:∀ i,i<N→sub i<0→∀ m,m<N→e m <+: e i→m=i
 some:∀ i,i<N→0≤sub i→(sub i).toNat<i∧e (sub i).toNat <+: e i∧∀ m,m<N→e m <+: e i→m=i∨e m <+: e (sub i).toNat
 first:sub 0<0
structure Ix(N i c:Nat):Prop where
 lt:i<N
 at':(ey t (e i)=false∧c=lcp (e i) t∧∀ m,i<m→m<N→ey t (e m)=true)∨(i=0∧c=0∧∀ m,m<N→ey t (e m)=true)
variable {e sub t}
theorem si{N:Nat}(T:mv e sub N)(f:Nat):∀ (i j ci cj:Nat) (fk:Bool),i<j→j≤N→(fk=true→i=0∧j=1)→((i=0∧ci=0)∨(0<i∧ey t (e i)=false∧ci=lcp (e i) t))→((j=N∧cj=0)∨(j<N∧ey t (e j)=true∧cj=lcp (e j) t))→(fk=false→2≤j-i)→
  j-i+(if fk then 0 else 1)<f→∃ i' c',nt e t f i j ci cj fk=some (i',c')∧Ix e t N i' c':=by
 induction f with
 | zero=>exact fun i j ci cj fk _ _ _ _ _ _ h=>absurd h (Nat.not_lt_zero _)
 | succ f ih=>
  intro i j ci cj fk hij hj hfk hi hjj h2 hf;have hk1:i≤i+(j-i) / 2:=le_add_right _ _;have hk2:i+(j-i) / 2<j:=Nat.add_lt_of_lt_sub' (Nat.div_lt_self (Nat.sub_pos_of_lt hij) (by decide));have kN:=lt_of_lt_of_le hk2 hj;have hik:fk=false→i<i+(j-i) / 2:=fun q=>Nat.lt_add_of_pos_right (Nat.div_pos (h2 q) (by decide))
  unfold nt;dsimp only;generalize i+(j-i) / 2=k at hk1 hk2 kN hik ⊢;have hq:min ci cj≤lcp (e k) t:=by
   rcases hi with ⟨a,b⟩ | ⟨a,b,c⟩
   ·rw[b];exact le_trans (Nat.min_le_left _ _) (zero_le _)
   ·rcases hjj with ⟨a',b'⟩ | ⟨a',b',c'⟩
    ·rw[b'];exact le_trans (Nat.min_le_right _ _) (zero_le _)
    ·have hfk':fk=false:=by
      induction fk using zB with
      | false=>rfl
      | true=>exact absurd a (by rw[(hfk rfl).1];decide)
     exact squeeze _ (e i) (e j) _ t (c ▸ Nat.min_le_left _ _) (c' ▸ Nat.min_le_right _ _) (T.sorted _ _ (hik hfk') kN) (T.sorted _ _ hk2 a')
  obtain⟨d1,d2⟩:=tc _ _ _ hq;have up:∀ a m,a<m→m<N→ey t (e a)=true→ey t (e m)=true:=fun a m h1 h2 h3=>lH _ _ _ h3 (T.sorted a m h1 h2)
  have jup:∀ m,j≤m→m<N→ey t (e m)=true:=fun m h1 h3=>by
   rcases hjj with ⟨a',b'⟩ | ⟨a',b',c'⟩
   ·exact absurd h3 (by rw[←a'];exact Nat.not_lt.mpr h1)
   ·by_cases q:j=m
    ·subst q;exact b'
    ·exact up j m (Nat.lt_of_le_of_ne h1 q) h3 b'
  rw[←d1,←d2];have k0:fk=false→0<k:=fun q=>Nat.lt_of_le_of_lt (zero_le _) (hik q)
  cases hlt:ey t (e k) with
  | true=>
   rw[if_pos rfl];have kup:∀ m,k≤m→m<N→ey t (e m)=true:=fun m h1 h3=>by
    by_cases q:k=m
    ·subst q;exact hlt
    ·exact up k m (Nat.lt_of_le_of_ne h1 q) h3 hlt
   by_cases c1:k-i≤1
   ·rw[if_pos c1];by_cases c2:0<i
    ·rw[if_pos c2];rcases hi with ⟨a,b⟩ | ⟨a,b,c⟩
     ·exact absurd c2 (by rw[a];decide)
     ·exact⟨i,ci,rfl,Nat.lt_of_le_of_lt hk1 kN,.inl ⟨b,c,fun m h1 h3=>kup m (le_trans (Nat.sub_le_iff_le_add'.mp c1) h1) h3⟩⟩
    ·rw[if_neg c2];have i0:i=0:=Nat.eq_zero_of_not_pos c2;have ci0:ci=0:=by
      rcases hi with ⟨a,b⟩ | ⟨a,b,c⟩
      ·exact b
      ·exact absurd a c2
     subst i0 ci0;by_cases c3:k=0
     ·rw[if_pos c3];exact⟨0,0,rfl,Nat.lt_of_le_of_lt hk1 kN,.inr ⟨rfl,rfl,fun m h3=>kup m (c3 ▸ zero_le m) h3⟩⟩
     ·rw[if_neg c3]
      induction fk using zB with
      | true=>exact absurd (lt_of_lt_of_le hk2 (Nat.le_of_eq (hfk rfl).2)) (fun z=>c3 (Nat.lt_one_iff.mp z))
      | false=>
       rw[if_neg Bool.false_ne_true];have hf:j-0+1<f+1:=hf;exact ih 0 k 0 (lcp (e k) t) true (by ext) (by ext) (fun _=>⟨rfl,by ext⟩) (.inl ⟨rfl,rfl⟩) (.inr ⟨kN,hlt,rfl⟩) (fun q=>by cases q) (show k-0+0<f by ext)
   ·rw[if_neg c1]
    induction fk using zB with
    | true=>have:=(hfk rfl).2;ext
    | false=>
     have hf:j-i+1<f+1:=hf;exact ih i k ci (lcp (e k) t) false (by ext) (by ext) (fun q=>by cases q) hi (.inr ⟨kN,hlt,rfl⟩) (fun _=>Nat.lt_of_not_le c1) (show _+1<f by have:=hik rfl;ext)
  | false=>
   rw[if_neg Bool.false_ne_true];by_cases c1:j-k≤1
   ·rw[if_pos c1];have fin:Ix e t N k (lcp (e k) t):=⟨kN,.inl ⟨hlt,rfl,fun m h1 h3=>jup m (le_trans (Nat.sub_le_iff_le_add'.mp c1) h1) h3⟩⟩;by_cases c2:0<k
    ·rw[if_pos c2];exact⟨k,_,rfl,fin⟩
    ·rw[if_neg c2];by_cases c3:j=k
     ·exact absurd c3 (ne_of_gt hk2)
     ·rw[if_neg c3]
      induction fk using zB with
      | true=>rw[if_pos rfl];exact⟨k,_,rfl,fin⟩
      | false=>exact absurd (k0 rfl) c2
   ·rw[if_neg c1]
    induction fk using zB with
    | true=>have:=(hfk rfl).2;ext
    | false=>
     have:=k0 rfl;have hf:j-i+1<f+1:=hf;have h22:=h2 rfl;exact ih k j (lcp (e k) t) cj false (by ext) (by ext) (fun q=>by cases q) (.inr ⟨this,hlt,rfl⟩) hjj (fun _=>Nat.lt_of_not_le c1) (show _+1<f by have:=hik rfl;ext)
def uy(e:Nat→List Nat)(t:List Nat)(N:Nat):Option Nat→Prop
 | none=>∀ m,m<N→¬ e m <+: t
 | some i=>i<N∧e i <+: t∧∀ m,m<N→e m <+: t→(e m).length≤(e i).length
theorem tw{N:Nat}(T:mv e sub N)(c:Nat):∀ (f i:Nat),i<f→i<N→(∀ m,m<N→e m <+: t→e m <+: e i)→(∀ q,q≤(e i).length→(q≤lcp (e i) t↔q≤c))→∃ r,CR e sub f i c=some r∧uy e t N r
 | 0,i,h,_,_,_=>absurd h (Nat.not_lt_zero _)
 | f+1,i,h,hi,hp,hc=>by
  unfold CR;by_cases q:(e i).length≤c
  ·rw[if_pos q];have:=(hc _ (le_refl _)).mpr q;have pre:e i <+: t:=(rs _ _).mpr (Nat.le_antisymm (tG _ _) this);exact⟨_,rfl,hi,pre,fun m h1 h3=>(hp m h1 h3).length_le⟩
  ·rw[if_neg q];have np:¬ e i <+: t:=fun h=>q ((hc _ (le_refl _)).mp (Nat.le_of_eq ((rs _ _).mp h).symm))
   by_cases s:sub i<0
   ·rw[if_pos s];refine⟨_,rfl,fun m h1 h3=>?_⟩;have:=T.none i hi s m h1 (hp m h1 h3);subst this;exact np h3
   ·rw[if_neg s];obtain⟨s1,s2,s3⟩:=T.some i hi (by ext);refine tw T c f _ (by ext) (by ext) (fun m h1 h3=>?_) (fun q' h1=>?_)
    ·rcases s3 m h1 (hp m h1 h3) with e1 | e1
     ·subst e1;exact absurd h3 np
     ·exact e1
    ·have:=hc q' (le_trans h1 s2.length_le);rw[←this];obtain⟨r,hr⟩:=s2;have key:∀ (a r t:List Nat) (q:Nat),q≤a.length→(q≤lcp a t↔q≤lcp (a++r) t):=by
      intro a
      induction a with
      | nil=>
       intro r t q h;have:q=0:=by simpa using h
       subst this;simp
      | cons x a ih=>
       intro r t q h
       induction t using zL with
       | nil=>simp[lcp]
       | cons y t=>
        induction q using zN with
        | zero=>simp
        | succ q=>
         simp only[List.cons_append,lcp];split
         ·have:=ih r t q (by simpa using h);ext
         ·rfl
     have:=key (e (sub i).toNat) r t q' h1;rw[hr] at this;exact this
theorem mK{N i c f:Nat}(T:mv e sub N)(F:Ix e t N i c)(hf:i<f):∃ r,CR e sub f i c=some r∧uy e t N r:=by
 rcases F.at' with ⟨a,b,d⟩ | ⟨a,b,d⟩
 ·refine tw T c f i hf F.lt (fun m h1 h3=>?_) (fun q h=>by rw[b]);by_cases q:m=i
  ·subst q;exact List.prefix_rfl
  ·by_cases q2:i<m
   ·have:=d m q2 h1;rw[jw _ _ h3] at this;cases this
   ·exact vy _ _ _ h3 (T.sorted m i (by ext) F.lt) a
 ·subst a b
  induction f using zN with
  | zero=>exact absurd hf (Nat.not_lt_zero _)
  | succ f=>
   have best:uy e t N none:=fun m h1 h3=>by
    have:=d m h1;rw[jw _ _ h3] at this;cases this
   have ne:¬ (e 0).length≤0:=fun h=>by
    have:e 0=[]:=List.eq_nil_of_length_eq_zero (by ext);exact best 0 F.lt (by rw[this];exact List.nil_prefix)
   refine⟨none,?_,best⟩;unfold CR;rw[if_neg ne,if_pos T.first]
end
end
end Mine.Internal.P
end
noncomputable section
open PySem PySem.W PyProof.Rows PySem.Calls
set_option maxHeartbeats 2000000
namespace Mine.Internal.P
section
set_option tactic.hygienic false
section
variable {n:Nat}{sc:Scope}{ρ Y ρ' Y':af}{r:Option (Fl×af×af)}
theorem dh{id:Str}{p pos:Pos}{e:Expr}{v:V}(hc:fA e=false)(hk:sc.names.lookup id=some .local)(he:(ev n).E sc ρ Y e=some (v,Y')):(ev (n+1)).S sc ρ Y (.Assign [.Name id p] e pos)=some (.next,put ρ id v,Y'):=by
 show (match fA e,sc.names.lookup id with
     | false,some .local=>match (ev n).E sc ρ Y e with
      | some (v,Y)=>some (Fl.next,put ρ id v,Y)
      | none=>none
     | _,_=>none)=_
 rw[hc,hk];dsimp only;rw[he]
theorem jj{x:Str}{v:V}{rest:List V}{b:List Stmt}{y:Fl}(h:(ev n).SS sc (put ρ x v) Y b=some (y,ρ',Y'))(k:qt y ((ev n).F sc ρ' Y' x rest b) ρ' Y'=r):(ev (n+1)).F sc ρ Y x (v :: rest) b=r:=by
 show (match (ev n).SS sc (put ρ x v) Y b with
     | some (Fl.next,ρ,Y) | some (.cont,ρ,Y)=>(ev n).F sc ρ Y x rest b
     | some (.brk,ρ,Y)=>some (Fl.next,ρ,Y)
     | y=>y)=r
 rw[h];cases y<;>exact k
theorem v7{id:Str}{p q:Pos}{a:Expr}{x:Nat}(hi:(ev n).E sc ρ Y (.Name id p)=some (.bi "ord",Y))(ha:(ev n).E sc ρ Y a=some (.str [x],Y)):(ev (n+1)).E sc ρ Y (.Call (.Name id p) [a] [] q)=some (.int x,Y):=by
 have h:dl (ev n).E sc ρ Y [a]=some ([.str [x]],Y):=by unfold dl;rw[ha];rfl
 show (match (ev n).E sc ρ Y (.Name id p) with
     | some (.addr a',Y)=>match eX a' with
      | some f=>match dl (ev n).E sc ρ Y [a] with
       | some (vs,Y)=>(ev n).C f vs Y
       | none=>none
      | none=>none
     | some (f,Y)=>match dl (ev n).E sc ρ Y [a] with
      | some (vs,Y)=>(fs f vs).map fun v=>(v,Y)
      | none=>none
     | none=>none)=_
 rw[hi];dsimp only;rw[h];rfl
theorem mw{a b:Expr}{p:Pos}{x y:Int}(ha:(ev n).E sc ρ Y a=some (.int x,Y))(hb:(ev n).E sc ρ Y b=some (.int y,Y)):(ev (n+1)).E sc ρ Y (.BinOp a .Sub b p)=some (.int (x-y),Y):=by
 show (match (ev n).E sc ρ Y a with
     | some (x,Y)=>match (ev n).E sc ρ Y b with
      | some (y,Y)=>(pJ .Sub x y).map fun v=>(v,Y)
      | none=>none
     | none=>none)=_
 rw[ha];dsimp only;rw[hb];rfl
theorem pq{t:List Nat}{z:Int}{k x:Nat}(hz:z=(k:Int))(h:t[k]?=some x):dn (.str t) (.int z)=some (.str [x]):=by
 subst hz;exact dY h
theorem rZ{l:List V}{z:Int}{k:Nat}{v:V}(hz:z=(k:Int))(h:l[k]?=some v):dn (.list l) (.int z)=some v:=by
 subst hz;have hk:k<l.length:=by
  rcases Nat.lt_or_ge k l.length with q | q
  ·exact q
  ·rw[List.getElem?_eq_none q] at h;cases h
 have:cF l.length (k:Int)=some k:=by
  unfold cF;rw[decide_eq_true (show (0:Int)≤k by ext),decide_eq_true (show (k:Int)<l.length by ext)];rfl
 show (cF l.length (k:Int)).bind (fun k=>l[k]?)=_;rw[this];exact h
theorem fP{a i:Expr}{p:Pos}{t:List V}{k:Int}{v:V}(hi:∀ l u q,i≠.Slice l u none q)(ha:(ev n).E sc ρ Y a=some (.list t,Y))(hb:dU a (.list t)=true)(he:(ev n).E sc ρ Y i=some (.int k,Y))(hv:dn (.list t) (.int k)=some v):(ev (n+1)).E sc ρ Y (.Subscript a i p)=some (v,Y):=by
 have:(ev (n+1)).E sc ρ Y (.Subscript a i p)=(match (ev n).E sc ρ Y a with
     | some (a',Y)=>bif dU a a' then (match (ev n).E sc ρ Y i with
      | some (b,Y)=>(dn a' b).map fun v=>(v,Y)
      | none=>none) else none
     | none=>none):=by
  induction i using zX with
  | Slice l u s q=>
   induction s using zO with
   | none=>exact absurd rfl (hi l u q)
   | some s=>rfl
  | _=>rfl
 rw[this,ha];dsimp only;rw[hb,he];show (dn (.list t) (.int k)).map _=_;rw[hv];rfl
end
noncomputable def bu(tb:List V)(i j c lb ci cj:Int)(fk:Bool)(tl:af):af:=((("self":Str),V.self):Str×V) :: ((("v":Str),V.list tb):Str×V) :: ((("i":Str),V.int i):Str×V) :: ((("j":Str),V.int j):Str×V) :: ((("c":Str),V.int c):Str×V) :: ((("lb":Str),V.int lb):Str×V) :: ((("common_i":Str),V.int ci):Str×V) :: ((("common_j":Str),V.int cj):Str×V) :: ((("first_key_inspected":Str),V.bool fk):Str×V) :: tl
noncomputable def kT(k d q:Int)(w:V)(tl:af):af:=((("k":Str),V.int k):Str×V) :: ((("diff":Str),V.int d):Str×V) :: ((("common":Str),V.int q):Str×V) :: ((("w":Str),w):Str×V) :: tl
noncomputable def iT:Option Int→af
 | none=>[]
 | some x=>[((("i2":Str),V.int x):Str×V)]
abbrev lY:Scope:=aJ am.st
def fX:List Stmt:=dj (ai am 7)
def Ii:List Stmt:=dj (aG fX 4)
theorem cS{n:Nat}{sc:Scope}{ρ Y:af}{a b:Expr}{p:Pos}{x y:Int}(ha:(ev n).E sc ρ Y a=some (.int x,Y))(hb:(ev n).E sc ρ Y b=some (.int y,Y)):(ev (n+2)).T sc ρ Y (.Compare a [.Eq] [b] p)=some (decide (x=y),Y):=by
 show (match (ev (n+1)).E sc ρ Y (.Compare a [.Eq] [b] p) with | some (V.bool b,Y)=>some (b,Y) | _=>none)=_;have:(ev (n+1)).E sc ρ Y (.Compare a [.Eq] [b] p)=some (.bool (decide (x=y)),Y):=by
  show (match (ev n).E sc ρ Y a with
     | some (x,Y)=>match (ev n).E sc ρ Y b with
      | some (y,Y)=>(gO .Eq x y).map fun v=>(V.bool v,Y)
      | none=>none
     | none=>none)=_
  rw[ha];dsimp only;rw[hb];rfl
 rw[this]
section
variable {J s:List Nat}{c lb:Nat}{l τ κ i j ci cj k:Int}{fk:Bool}{tb:List V}{sub res:Int}{tl:af}
noncomputable def back(J:List Nat)(c lb:Nat):List Nat:=((J.take c).drop lb).reverse
theorem sH(hc:c≤J.length)(hlb:lb≤c):(back J c lb).length=c-lb:=by
 unfold back;rw[List.length_reverse,length_drop,length_take];ext
theorem Eg(hc:c≤J.length)(hlb:lb≤c){q:Nat}(hq:q<c-lb):(back J c lb)[q]?=J[c-1-q]?:=by
 have e:lb+(c-lb-1-q)=c-1-q:=by
  rw[Nat.sub_right_comm c lb 1,Nat.sub_right_comm _ lb q];exact Nat.add_sub_cancel' (Nat.le_sub_of_add_le (Nat.le_sub_of_add_le (by ext)))
 unfold back;rw[List.getElem?_reverse (by rw[length_drop,length_take,Nat.min_eq_left hc];exact hq),length_drop,length_take,List.getElem?_drop,Nat.min_eq_left hc,e,List.getElem?_take,if_pos (pa (lt_of_lt_of_le hq (Nat.sub_le _ _)))]
theorem FM{q:Nat}(hq:q<s.length):s.reverse[q]?=s[s.length-1-q]?:=by
 rw[List.getElem?_reverse hq]
theorem LF(hc:c≤J.length)(hlb:lb≤c)(r:Nat):∀ (q:Nat) (o:Option Int),r=s.length-q→q≤c-lb→
  ∃ d q' o',(ev (n+r+20)).F lY (bu tb i j c lb ci cj fk (kT k 0 q (.amg s sub res) (iT o))) (ak J c l lb τ κ tl) "i2" (bg ((s.length:Int)-1-q) (-1) r) Ii
   = some (.next,bu tb i j c lb ci cj fk (kT k d q' (.amg s sub res) (iT o')),ak J c l lb τ κ tl)∧(d<0↔ey ((back J c lb).drop q) (s.reverse.drop q)=true)∧q'=((q+lcp (s.reverse.drop q) ((back J c lb).drop q):Nat):Int):=by
 induction r with
 | zero=>
  intro q o hq hq2;rw[show s.reverse.drop q=[] from List.drop_eq_nil_of_le (by rw[List.length_reverse];exact Nat.le_of_sub_eq_zero hq.symm),vJ];exact⟨0,q,o,rfl,Av,rfl⟩
 | succ r ih=>
  intro q o hq hq2;obtain⟨hsq,hr⟩:=ps hq;obtain⟨y,hy⟩:=dc (l:=s) (k:=s.length-1-q) (pa hsq);have hys:s.reverse[q]?=some y:=(FM hsq).trans hy;have put2:put (bu tb i j c lb ci cj fk (kT k 0 q (.amg s sub res) (iT o))) "i2" (.int ((s.length:Int)-1-q))=bu tb i j c lb ci cj fk (kT k 0 q (.amg s sub res) (iT (some ((s.length:Int)-1-q)))):=by cases o<;>rfl
  rw[ig hys];rw[show n+(r+1)+20=n+r+20+1 from rfl];by_cases he:q=c-lb
  ·rw[show (back J c lb).drop q=[] from List.drop_eq_nil_of_le (by rw[sH hc hlb];exact Nat.le_of_eq he.symm)];refine⟨-1,q,some ((s.length:Int)-1-q),jj (y:=.brk) ?_ rfl,zb,rfl⟩;rw[put2];exact bh (bQ (c:=decide ((c:Int)-q=lb)) (cS rfl rfl) (decide_eq_true (S3 hlb he)) (aa rfl (bh rfl)))
  ·have hlt:=Nat.lt_of_le_of_ne hq2 he;have hqc:=lt_of_lt_of_le hlt (Nat.sub_le _ _);obtain⟨x,hx⟩:=dc (l:=J) (k:=c-1-q) (lt_of_lt_of_le (pa hqc) hc);rw[ig ((Eg hc hlb hlt).trans hx)];have dif:(ev (n+r+18)).S lY (bu tb i j c lb ci cj fk (kT k 0 q (.amg s sub res) (iT (some ((s.length:Int)-1-q))))) (ak J c l lb τ κ tl) (aG Ii 1)=some (.next,bu tb i j c lb ci cj fk (kT k ((x:Int)-y) q (.amg s sub res) (iT (some ((s.length:Int)-1-q)))),ak J c l lb τ κ tl):=
    dh (v:=.int ((x:Int)-y)) rfl rfl (mw (v7 rfl (dD (fun _ _ _ q=>by cases q) rfl rfl rfl (pq (pc hqc) hx))) (v7 rfl (dD (fun _ _ _ q=>by cases q) rfl rfl rfl (pq (pc hsq) hy))))
   by_cases hxy:x=y
   ·subst hxy;obtain⟨d,q',o',h1,h2,h3⟩:=ih (q+1) (some ((s.length:Int)-1-q)) hr hlt;rw[v5,jJ];refine⟨d,q',o',jj (y:=.next) (ρ':=bu tb i j c lb ci cj fk (kT k 0 ((q+1:Nat):Int) (.amg s sub res) (iT (some ((s.length:Int)-1-q))))) (Y':=ak J c l lb τ κ tl) ?_ ?_,h2,by rw[h3,Nat.add_right_comm];rfl⟩
    ·rw[put2];refine aa (bD (c:=decide ((c:Int)-q=lb)) (cS rfl rfl) (decide_eq_false (RY hlb hlt)) rfl) ?_;refine aa dif ?_;rw[Int.sub_self];exact aa (bD (c:=!decide ((0:Int)=0)) rfl rfl rfl) (aa rfl rfl)
    ·show (ev (n+r+20)).F _ _ _ _ (bg ((s.length:Int)-1-q+-1) (-1) r) _=_;rw[show ((s.length:Int)-1-q+-1)=(s.length:Int)-1-((q+1:Nat):Int) from Int.sub_sub _ _ _];exact h1
   ·rw[uG (Ne.symm hxy)];refine⟨(x:Int)-y,q,some ((s.length:Int)-1-q),jj (y:=.brk) ?_ rfl,EI hxy,rfl⟩;rw[put2];refine aa (bD (c:=decide ((c:Int)-q=lb)) (cS rfl rfl) (decide_eq_false (RY hlb hlt)) rfl) ?_;refine aa dif ?_;exact bh (bQ (c:=!decide ((x:Int)-y=0)) rfl (zd hxy) (bh rfl))
end
structure aC where
 s:List Nat
 i:Int
 r:Int
noncomputable def e0:aC:=⟨[],0,0⟩
noncomputable def aC.v(x:aC):V:=.amg x.s x.i x.r
noncomputable def eR(T:List aC)(k:Nat):List Nat:=(T.getD k e0).s.reverse
noncomputable def eS(T:List aC)(k:Nat):Int:=(T.getD k e0).i
section
variable {n:Nat}{sc:Scope}{ρ Y Y':af}{r:Option (Fl×af×af)}
theorem oj{N:Nat}{x:Str}{q p2:Pos}{it:Expr}{b:List Stmt}{xs:List V}(e:N=n+1)(h2:sc.names.lookup x=some .local)(hi:fj (ev n).E sc ρ Y it=some (xs,Y'))(k:(ev n).F sc ρ Y' x xs b=r):(ev N).S sc ρ Y (.For (.Name x q) it b [] p2)=r:=by
 subst e;show (match sc.names.lookup x,fj (ev n).E sc ρ Y it with
  | some .local,some (xs,Y)=>(ev n).F sc ρ Y x xs b
  | _,_=>none)=r
 rw[h2,hi];exact k
theorem kH{E:Scope→af→af→Expr→Option (V×af)}{p q:Pos}{args:List Expr}{ys xs:List V}{a:Int×Int×Int}(h1:sc.names.lookup ("range":Str)=some .globalImplicit)(ha:dl E sc ρ Y args=some (ys,Y'))(hp:rargs ys=some a)(hr:cD a.1 a.2.1 a.2.2=some xs):fj E sc ρ Y (.Call (.Name "range" p) args [] q)=some (xs,Y'):=by
 show (if ("range":Str)="range" then (match sc.names.lookup ("range":Str) with
   | some .globalImplicit=>(match dl E sc ρ Y args with
    | some (vs,Y)=>(rargs vs).bind fun p=>(cD p.1 p.2.1 p.2.2).map fun xs=>(xs,Y)
    | none=>none)
   | _=>none) else none)=_
 rw[if_pos rfl,h1,ha];show (rargs ys).bind _=_;rw[hp];show (cD a.1 a.2.1 a.2.2).map _=_;rw[hr];rfl
theorem BI{x g:Str}{q p q2 p2:Pos}{args:List Expr}{b:List Stmt}{a b' st:Int}{xs:List V}(hg:g="range")(h1:sc.names.lookup g=some .globalImplicit)(h2:sc.names.lookup x=some .local)(ha:dl (ev n).E sc ρ Y args=some ([.int a,.int b',.int st],Y))(hr:cD a b' st=some xs)(k:(ev n).F sc ρ Y x xs b=r):
  (ev (n+1)).S sc ρ Y (.For (.Name x q) (.Call (.Name g p) args [] q2) b [] p2)=r:=by
 subst hg;exact oj rfl h2 (kH h1 ha rfl hr) k
theorem sE{a:Int}{m:Nat}(h1:-2097152≤a)(h2:a≤2097152)(hm:(a+1).toNat=m):cD a (-1) (-1)=some (bg a (-1) m):=by
 unfold cD DR;rw[decide_eq_true h1,decide_eq_true h2];show some (bg a (-1) (a-(-1)).toNat)=_;rw[←hm];congr 3
end
section
variable {J:List Nat}{c lb:Nat}{l τ κ:Int}{T:List aC}{tl:af}
def TL(tl:af):Prop:=tl=[]∨∃ k d q w o,tl=kT k d q w (iT o)
theorem yu:fX=aG fX 0 :: aG fX 1 :: aG fX 2 :: aG fX 3 :: aG fX 4 :: aG fX 5 :: aG fX 6 :: []:=by rfl'
theorem Et{k:Nat}{x:aC}(h:T[k]?=some x):(T.map aC.v)[k]?=some (.amg x.s x.i x.r):=by
 rw[List.getElem?_map,h];rfl
theorem Hg(n:Nat){i j ci cj k:Nat}{fk:Bool}{x:aC}{tL:af}(ht:TL tL)(hij:i≤j)(hk:i+(j-i) / 2=k)(hx:T[k]?=some x):∃ o,∀ r,
  (ev (n+20)).SS lY (bu (T.map aC.v) i j c lb ci cj fk (kT k 0 (min ci cj:Nat) (.amg x.s x.i x.r) (iT o))) (ak J c l lb τ κ tl) [aG fX 4,aG fX 5,aG fX 6]=r→
  (ev (n+24)).SS lY (bu (T.map aC.v) i j c lb ci cj fk tL) (ak J c l lb τ κ tl) fX=r:=by
 have ek:(i:Int)+((j:Int)-i).fdiv 2=(k:Int):=by
  rw[Int.fdiv_eq_ediv_of_nonneg _ (by ext)];ext
 have eq:min (ci:Int) (cj:Int)=((min ci cj:Nat):Int):=by ext
 have hw:=rZ (l:=T.map aC.v) (z:=(k:Int)) rfl (Et hx);rcases ht with rfl | ⟨k0,d0,q0,w0,o,rfl⟩
 ·refine⟨none,fun r h=>?_⟩;rw[yu];refine aa (ρ':=bu (T.map aC.v) i j c lb ci cj fk [((("k":Str),V.int k):Str×V)]) (Y':=ak J c l lb τ κ tl) (dh (v:=.int k) rfl rfl ?_) ?_
  ·rw[←ek];rfl
  refine aa (ρ':=bu (T.map aC.v) i j c lb ci cj fk [((("k":Str),V.int k):Str×V),((("diff":Str),V.int 0):Str×V)]) (Y':=ak J c l lb τ κ tl) rfl ?_;refine aa (ρ':=bu (T.map aC.v) i j c lb ci cj fk [((("k":Str),V.int k):Str×V),((("diff":Str),V.int 0):Str×V),((("common":Str),V.int (min ci cj:Nat)):Str×V)]) (Y':=ak J c l lb τ κ tl) (dh (v:=.int (min ci cj:Nat)) rfl rfl ?_) ?_
  ·rw[←eq];rfl
  refine aa (ρ':=bu (T.map aC.v) i j c lb ci cj fk (kT k 0 (min ci cj:Nat) (.amg x.s x.i x.r) (iT none))) (Y':=ak J c l lb τ κ tl) (dh (v:=.amg x.s x.i x.r) rfl rfl (fP (fun _ _ _ q=>by cases q) rfl rfl rfl hw)) ?_;exact h
 ·refine⟨o,fun r h=>?_⟩;rw[yu];refine aa (ρ':=bu (T.map aC.v) i j c lb ci cj fk (kT k d0 q0 w0 (iT o))) (Y':=ak J c l lb τ κ tl) (dh (v:=.int k) rfl rfl ?_) ?_
  ·rw[←ek];rfl
  refine aa (ρ':=bu (T.map aC.v) i j c lb ci cj fk (kT k 0 q0 w0 (iT o))) (Y':=ak J c l lb τ κ tl) rfl ?_;refine aa (ρ':=bu (T.map aC.v) i j c lb ci cj fk (kT k 0 (min ci cj:Nat) w0 (iT o))) (Y':=ak J c l lb τ κ tl) (dh (v:=.int (min ci cj:Nat)) rfl rfl ?_) ?_
  ·rw[←eq];rfl
  refine aa (ρ':=bu (T.map aC.v) i j c lb ci cj fk (kT k 0 (min ci cj:Nat) (.amg x.s x.i x.r) (iT o))) (Y':=ak J c l lb τ κ tl) (dh (v:=.amg x.s x.i x.r) rfl rfl (fP (fun _ _ _ q=>by cases q) rfl rfl rfl hw)) ?_;exact h
end
section
variable {J:List Nat}{c lb:Nat}{l τ κ:Int}{T:List aC}{tl:af}
noncomputable def CT:Stmt→List Expr
 | .For _ (.Call _ a _ _) _ _ _=>a
 | _=>[]
noncomputable def tE:Stmt→Pos×Pos×Pos×Pos
 | .For (.Name _ a) (.Call (.Name _ b) _ _ c) _ _ d=>(a,b,c,d)
 | _=>default
theorem PY:aG fX 4=.For (.Name "i2" (tE (aG fX 4)).1) (.Call (.Name "range" (tE (aG fX 4)).2.1) (CT (aG fX 4)) [] (tE (aG fX 4)).2.2.1) Ii [] (tE (aG fX 4)).2.2.2:=by rfl'
theorem Bd(n:Nat){i j ci cj k d:Int}{q:Nat}{fk:Bool}{x:aC}{o:Option Int}:dl (ev (n+20)).E lY (bu (T.map aC.v) i j c lb ci cj fk (kT k d q (.amg x.s x.i x.r) (iT o))) (ak J c l lb τ κ tl) (CT (aG fX 4))=some ([.int ((x.s.length:Int)-1-q),.int (-1),.int (-1)],ak J c l lb τ κ tl):=rfl
theorem Ok(n:Nat){i j ci cj k:Int}{q:Nat}{fk:Bool}{x:aC}{o:Option Int}(hc:c≤J.length)(hlb:lb≤c)(hs:x.s.length≤100)(hl:J.length≤1000)(hq:q≤c-lb):∃ d o',
  (ev (n+130)).S lY (bu (T.map aC.v) i j c lb ci cj fk (kT k 0 q (.amg x.s x.i x.r) (iT o))) (ak J c l lb τ κ tl) (aG fX 4)=
   some (.next,bu (T.map aC.v) i j c lb ci cj fk (kT k d ((q+lcp (x.s.reverse.drop q) ((back J c lb).drop q):Nat):Int) (.amg x.s x.i x.r) (iT o')),ak J c l lb τ κ tl)∧(d<0↔ey ((back J c lb).drop q) (x.s.reverse.drop q)=true):=by
 obtain⟨r,hr⟩:∃ r,r=x.s.length-q:=⟨_,rfl⟩;obtain⟨m,hm⟩:∃ m,n+129=m+r+20:=⟨n+109-r,by ext⟩;obtain⟨d,q',o',h1,h2,h3⟩:=LF (J:=J) (s:=x.s) (c:=c) (lb:=lb) (l:=l) (τ:=τ) (κ:=κ) (i:=i) (j:=j) (ci:=ci) (cj:=cj) (k:=k) (fk:=fk) (tb:=T.map aC.v) (sub:=x.i) (res:=x.r) (tl:=tl) (n:=m) hc hlb r q o hr hq;refine⟨d,o',?_,h2⟩;rw[h3] at h1;rw[←hm] at h1;show (ev (n+129+1)).S _ _ _ _=_;rw[PY];exact BI rfl rfl rfl (Bd (n+109)) (sE (by ext) (by ext) (by ext)) h1
end
noncomputable def T5:Stmt→Expr×Pos
 | .While t _ _ p=>(t,p)
 | _=>(.Constant .none 0 default,default)
noncomputable def cT:Expr→Nat×Pos
 | .Constant _ k p=>(k,p)
 | _=>default
theorem wz:ai am 7=.While (.Constant (.bool true) (cT (iH (ai am 7))).1 (cT (iH (ai am 7))).2) fX [] (BX (ai am 7)):=by rfl'
section
variable {n:Nat}{sc:Scope}{ρ Y ρ' Y':af}{b:List Stmt}{r:Option (Fl×af×af)}{x:Fl}
theorem gN{kk:Nat}{q:Pos}(h:(ev (n+2)).SS sc ρ Y b=some (x,ρ',Y'))(k:qt x ((ev (n+2)).W sc ρ' Y' (.Constant (.bool true) kk q) b) ρ' Y'=r):(ev (n+3)).W sc ρ Y (.Constant (.bool true) kk q) b=r:=
 Lq (c:=true) rfl rfl h k
theorem pI{m:Nat}{kk:Nat}{q:Pos}(e:m=n+2)(h:(ev m).SS sc ρ Y b=some (x,ρ',Y'))(k:qt x ((ev m).W sc ρ' Y' (.Constant (.bool true) kk q) b) ρ' Y'=r):(ev (m+1)).W sc ρ Y (.Constant (.bool true) kk q) b=r:=by
 subst e;exact gN h k
theorem z9{i j:Nat}(h:i<j):i+(j-i) / 2<j:=Nat.add_lt_of_lt_sub' (Nat.div_lt_self (Nat.sub_pos_of_lt h) (by decide))
theorem ile{a b:Nat}(h:b-a≤1):(b:Int)-a≤1:=Int.sub_right_le_of_le_add (Int.ofNat_le.mpr (Nat.sub_le_iff_le_add.mp h))
theorem igt{a b:Nat}(h:¬ b-a≤1):¬ (b:Int)-a≤1:=fun z=>h (Nat.sub_le_iff_le_add.mpr (Int.ofNat_le.mp (Int.le_add_of_sub_right_le z)))
def KT(tl:af):Prop:=∃ k d q w o,tl=kT k d q w (iT o)
theorem EQ{e:Nat→List Nat}{t:List Nat}{L:Int→Int→Int→Int→Bool→af→af}{S tk:af}{f a b ca cb i' c':Nat}{fk:Bool}{W0:Option (Fl×af×af)}{Wf:af→Option (Fl×af×af)}(kt:KT tk)(hab:a≤b)
  (h:(if b-a≤1 then (if 0<a then some (a,ca) else if b=a then some (a,ca) else if fk then some (a,ca) else nt e t f a b ca cb true) else nt e t f a b ca cb fk)=some (i',c'))
  (s1:(b:Int)-a≤1→(0:Int)<a→W0=some (.next,L a b ca cb fk tk,S)) (s2:(b:Int)-a≤1→¬ (0:Int)<a→(b:Int)=a→W0=some (.next,L a b ca cb fk tk,S))
  (s3:(b:Int)-a≤1→¬ (0:Int)<a→¬ (b:Int)=a→fk=true→W0=some (.next,L a b ca cb fk tk,S)) (s4:(b:Int)-a≤1→¬ (0:Int)<a→¬ (b:Int)=a→fk=false→W0=Wf (L a b ca cb true tk))
  (s5:¬ (b:Int)-a≤1→W0=Wf (L a b ca cb fk tk)) (go:∀ fk,a<b→nt e t f a b ca cb fk=some (i',c')→∃ j' cj' fk' tL',Wf (L a b ca cb fk tk)=some (.next,L i' j' c' cj' fk' tL',S)∧KT tL'):
  ∃ j' cj' fk' tL',W0=some (.next,L i' j' c' cj' fk' tL',S)∧KT tL':=by
 by_cases c1:b-a≤1
 ·rw[if_pos c1] at h;by_cases c2:0<a
  ·rw[if_pos c2] at h;cases h;exact⟨b,cb,fk,tk,s1 (ile c1) (Int.natCast_pos.mpr c2),kt⟩
  ·rw[if_neg c2] at h;have c2:=fun q=>c2 (Int.natCast_pos.mp q)
   by_cases c3:b=a
   ·rw[if_pos c3] at h;cases h;exact⟨b,cb,fk,tk,s2 (ile c1) c2 (congrArg Nat.cast c3),kt⟩
   ·rw[if_neg c3] at h;have c4:=fun q=>c3 (Int.ofNat_inj.mp q)
    induction fk using zB with
    | true=>rw[if_pos rfl] at h;cases h;exact⟨b,cb,true,tk,s3 (ile c1) c2 c4 rfl,kt⟩
    | false=>rw[if_neg Bool.false_ne_true] at h;rw[s4 (ile c1) c2 c4 rfl];exact go _ (Nat.lt_of_le_of_ne hab (Ne.symm c3)) h
 ·rw[if_neg c1] at h;rw[s5 (igt c1)];exact go _ (Nat.lt_of_sub_pos (Nat.lt_trans Nat.zero_lt_one (Nat.lt_of_not_le c1))) h
end
section
variable {J:List Nat}{c lb:Nat}{l τ κ:Int}{T:List aC}{tl:af}
theorem NH(n:Nat){i j ci cj k d q:Int}{fk:Bool}{w:V}{o:Option Int}(h:d<0):(ev (n+20)).S lY (bu (T.map aC.v) i j c lb ci cj fk (kT k d q w (iT o))) (ak J c l lb τ κ tl) (aG fX 5)=some (.next,bu (T.map aC.v) i k c lb ci q fk (kT k d q w (iT o)),ak J c l lb τ κ tl):=
 bQ (c:=decide (d<0)) rfl (decide_eq_true h) rfl
theorem KK(n:Nat){i j ci cj k d q:Int}{fk:Bool}{w:V}{o:Option Int}(h:¬ d<0):(ev (n+20)).S lY (bu (T.map aC.v) i j c lb ci cj fk (kT k d q w (iT o))) (ak J c l lb τ κ tl) (aG fX 5)=some (.next,bu (T.map aC.v) k j c lb q cj fk (kT k d q w (iT o)),ak J c l lb τ κ tl):=
 bD (c:=decide (d<0)) rfl (decide_eq_false h) rfl
theorem LC(n:Nat){i j ci cj:Int}{fk:Bool}{tL:af}(h:¬ j-i≤1):(ev (n+20)).SS lY (bu (T.map aC.v) i j c lb ci cj fk tL) (ak J c l lb τ κ tl) [aG fX 6]=some (.next,bu (T.map aC.v) i j c lb ci cj fk tL,ak J c l lb τ κ tl):=
 aa (bD (c:=decide (j-i≤1)) rfl (decide_eq_false h) rfl) rfl
theorem Hy(n:Nat){i j ci cj:Int}{fk:Bool}{tL:af}(h:j-i≤1)(hi:0<i):(ev (n+20)).SS lY (bu (T.map aC.v) i j c lb ci cj fk tL) (ak J c l lb τ κ tl) [aG fX 6]=some (.brk,bu (T.map aC.v) i j c lb ci cj fk tL,ak J c l lb τ κ tl):=
 bh (bQ (c:=decide (j-i≤1)) rfl (decide_eq_true h) (bh (bQ (c:=decide (0<i)) rfl (decide_eq_true hi) (bh rfl))))
theorem K0(n:Nat){i j ci cj:Int}{fk:Bool}{tL:af}(h:j-i≤1)(hi:¬ 0<i)(he:j=i):(ev (n+20)).SS lY (bu (T.map aC.v) i j c lb ci cj fk tL) (ak J c l lb τ κ tl) [aG fX 6]=some (.brk,bu (T.map aC.v) i j c lb ci cj fk tL,ak J c l lb τ κ tl):=
 bh (bQ (c:=decide (j-i≤1)) rfl (decide_eq_true h) (aa (bD (c:=decide (0<i)) rfl (decide_eq_false hi) rfl) (bh (bQ (c:=decide (j=i)) (cS rfl rfl) (decide_eq_true he) (bh rfl)))))
theorem NJ(n:Nat){i j ci cj:Int}{tL:af}(h:j-i≤1)(hi:¬ 0<i)(he:¬ j=i):(ev (n+20)).SS lY (bu (T.map aC.v) i j c lb ci cj true tL) (ak J c l lb τ κ tl) [aG fX 6]=some (.brk,bu (T.map aC.v) i j c lb ci cj true tL,ak J c l lb τ κ tl):=
 bh (bQ (c:=decide (j-i≤1)) rfl (decide_eq_true h) (aa (bD (c:=decide (0<i)) rfl (decide_eq_false hi) rfl) (aa (bD (c:=decide (j=i)) (cS rfl rfl) (decide_eq_false he) rfl) (bh (bQ (c:=true) rfl rfl (bh rfl))))))
theorem LB(n:Nat){i j ci cj:Int}{tL:af}(h:j-i≤1)(hi:¬ 0<i)(he:¬ j=i):(ev (n+20)).SS lY (bu (T.map aC.v) i j c lb ci cj false tL) (ak J c l lb τ κ tl) [aG fX 6]=some (.next,bu (T.map aC.v) i j c lb ci cj true tL,ak J c l lb τ κ tl):=
 aa (bQ (c:=decide (j-i≤1)) rfl (decide_eq_true h) (aa (bD (c:=decide (0<i)) rfl (decide_eq_false hi) rfl) (aa (bD (c:=decide (j=i)) (cS rfl rfl) (decide_eq_false he) rfl) (aa (bD (c:=false) rfl rfl rfl) rfl)))) rfl
abbrev Re(J:List Nat)(c lb:Nat)(l τ κ:Int)(T:List aC)(tl:af)(kk:Nat)(qq:Pos)(f:Nat):Prop:=∀ (i j ci cj:Nat) (fk:Bool) (tL:af) (i' c':Nat),TL tL→i<j→j≤T.length→ci≤c-lb→cj≤c-lb→nt (eR T) (back J c lb) f i j ci cj fk=some (i',c')→
  ∃ j' cj' fk' tL',(ev (f+170)).W lY (bu (T.map aC.v) i j c lb ci cj fk tL) (ak J c l lb τ κ tl) (.Constant (.bool true) kk qq) fX=some (.next,bu (T.map aC.v) i' j' c lb c' cj' fk' tL',(ak J c l lb τ κ tl))∧KT tL'
theorem FA{kk:Nat}{qq:Pos}{f i j ci cj k cc i' c':Nat}{fk lt:Bool}{tL:af}{d:Int}{x:aC}{o:Option Int}(ih:Re J c lb l τ κ T tl kk qq f)(hk0:i≤k)(hk1:k≤j)(hj:j≤T.length)(hci:ci≤c-lb)(hcj:cj≤c-lb)(hcc:cc≤c-lb)(hd:d<0↔lt=true)
  (turn:∀ r,(ev (f+165)).SS lY (bu (T.map aC.v) i j c lb ci cj fk (kT k d cc (.amg x.s x.i x.r) (iT o))) (ak J c l lb τ κ tl) [aG fX 5,aG fX 6]=r→(ev (f+170)).SS lY (bu (T.map aC.v) i j c lb ci cj fk tL) (ak J c l lb τ κ tl) fX=r)
  (h:(if lt=true then (if k-i≤1 then (if 0<i then some (i,ci) else if k=i then some (i,ci) else if fk then some (i,ci) else nt (eR T) (back J c lb) f i k ci cc true) else nt (eR T) (back J c lb) f i k ci cc fk) else (if j-k≤1 then (if 0<k then some (k,cc) else if j=k then some (k,cc) else if fk then some (k,cc) else nt (eR T) (back J c lb) f k j cc cj true) else nt (eR T) (back J c lb) f k j cc cj fk))=some (i',c')):
  ∃ j' cj' fk' tL',(ev (f+171)).W lY (bu (T.map aC.v) i j c lb ci cj fk tL) (ak J c l lb τ κ tl) (.Constant (.bool true) kk qq) fX=some (.next,bu (T.map aC.v) i' j' c lb c' cj' fk' tL',(ak J c l lb τ κ tl))∧KT tL':=by
 have both:∀ a b ca cb:Nat,a≤b→b≤T.length→ca≤c-lb→cb≤c-lb→(ev (f+144+20)).S lY (bu (T.map aC.v) i j c lb ci cj fk (kT k d cc (.amg x.s x.i x.r) (iT o))) (ak J c l lb τ κ tl) (aG fX 5)=some (.next,bu (T.map aC.v) a b c lb ca cb fk (kT k d cc (.amg x.s x.i x.r) (iT o)),(ak J c l lb τ κ tl))→(if b-a≤1 then (if 0<a then some (a,ca) else if b=a then some (a,ca) else if fk then some (a,ca) else nt (eR T) (back J c lb) f a b ca cb true) else nt (eR T) (back J c lb) f a b ca cb fk)=some (i',c')→
   ∃ j' cj' fk' tL',(ev (f+171)).W lY (bu (T.map aC.v) i j c lb ci cj fk tL) (ak J c l lb τ κ tl) (.Constant (.bool true) kk qq) fX=some (.next,bu (T.map aC.v) i' j' c lb c' cj' fk' tL',(ak J c l lb τ κ tl))∧KT tL':=fun a b ca cb hab hb hca hcb s5 h=>by
  have fin:∀ {y:Fl} {g:Bool},(ev (f+144+20)).SS lY (bu (T.map aC.v) a b c lb ca cb fk (kT k d cc (.amg x.s x.i x.r) (iT o))) (ak J c l lb τ κ tl) [aG fX 6]=some (y,bu (T.map aC.v) a b c lb ca cb g (kT k d cc (.amg x.s x.i x.r) (iT o)),(ak J c l lb τ κ tl))→(ev (f+170)).SS lY (bu (T.map aC.v) i j c lb ci cj fk tL) (ak J c l lb τ κ tl) fX=some (y,bu (T.map aC.v) a b c lb ca cb g (kT k d cc (.amg x.s x.i x.r) (iT o)),(ak J c l lb τ κ tl)):=fun hz=>turn _ (by
   rw[show f+165=f+144+20+1 from rfl];exact aa s5 hz)
  exact EQ (L:=fun i j ci cj fk tL=>bu (T.map aC.v) i j c lb ci cj fk tL) (Wf:=fun z=>(ev (f+170)).W lY z (ak J c l lb τ κ tl) (.Constant (.bool true) kk qq) fX) ⟨_,_,_,_,_,rfl⟩ hab h (fun h1 h2=>pI rfl (fin (Hy _ h1 h2)) rfl) (fun h1 h2 h3=>pI rfl (fin (K0 _ h1 h2 h3)) rfl) (fun h1 h2 h3 q=>by subst q;exact pI rfl (fin (NJ _ h1 h2 h3)) rfl)
   (fun h1 h2 h3 q=>by subst q;exact pI rfl (fin (LB _ h1 h2 h3)) rfl) (fun h1=>pI rfl (fin (LC _ h1)) rfl) fun g hlt h=>ih a b ca cb g _ i' c' (.inr ⟨_,_,_,_,_,rfl⟩) hlt hb hca hcb h
 induction lt using zB with
 | true=>exact both i k ci cc hk0 (le_trans hk1 hj) hci hcc (NH (J:=J) (c:=c) (lb:=lb) (l:=l) (τ:=τ) (κ:=κ) (T:=T) (tl:=tl) (f+144) (hd.mpr rfl)) ((if_pos rfl).symm.trans h)
 | false=>exact both k j cc cj hk1 hj hcc hcj (KK (J:=J) (c:=c) (lb:=lb) (l:=l) (τ:=τ) (κ:=κ) (T:=T) (tl:=tl) (f+144) fun z=>nf (hd.mp z)) ((if_neg Bool.false_ne_true).symm.trans h)
theorem C7{kk:Nat}{qq:Pos}(hc:c≤J.length)(hlb:lb≤c)(hl:J.length≤1000)(hs:∀ x∈T,x.s.length≤100)(f:Nat):Re J c lb l τ κ T tl kk qq f:=by
 induction f with
 | zero=>exact fun i j ci cj fk tL i' c' _ _ _ _ _ h=>nn h
 | succ f ih=>
  intro i j ci cj fk tL i' c' ht hij hj hci hcj h;have hk1:=z9 hij;obtain⟨x,hx⟩:∃ x,T[i+(j-i) / 2]?=some x:=⟨_,List.getElem?_eq_getElem (lt_of_lt_of_le hk1 hj)⟩;have ex:eR T (i+(j-i) / 2)=x.s.reverse:=by
   unfold eR;rw[List.getD_eq_getElem?_getD,hx];rfl
  unfold nt at h;dsimp only at h;rw[ex] at h;obtain⟨o,H⟩:=Hg (J:=J) (c:=c) (lb:=lb) (l:=l) (τ:=τ) (κ:=κ) (T:=T) (tl:=tl) (f+146) (i:=i) (j:=j) (ci:=ci) (cj:=cj) (fk:=fk) ht (Nat.le_of_lt hij) rfl hx;have hs:=hs x (List.mem_of_getElem? hx);have hq:min ci cj≤c-lb:=le_trans (Nat.min_le_left _ _) hci;obtain⟨d,o',F,hd⟩:=Ok (J:=J) (c:=c) (lb:=lb) (l:=l) (τ:=τ) (κ:=κ) (T:=T) (tl:=tl) (f+35) (i:=i) (j:=j) (ci:=ci) (cj:=cj) (k:=(i+(j-i) / 2:Nat)) (q:=min ci cj) (fk:=fk) (x:=x) (o:=o) hc hlb hs hl hq;have hcc:min ci cj+lcp (x.s.reverse.drop (min ci cj)) ((back J c lb).drop (min ci cj))≤c-lb:=by
   have:=pF (x.s.reverse.drop (min ci cj)) ((back J c lb).drop (min ci cj));rw[length_drop,sH hc hlb] at this;exact Nat.add_sub_cancel' hq ▸ Nat.add_le_add_left this _
  rw[show f+1+170=f+171 from rfl];rw[show f+35+130=f+165 from rfl] at F;exact FA ih (le_add_right _ _) (Nat.le_of_lt hk1) hj hci hcj hcc hd (fun r hr=>by
   rw[show f+170=f+146+24 from rfl];refine H r ?_;rw[show f+146+20=f+165+1 from rfl];exact aa F hr) h
end
def xp:List Stmt:=dj (ai am 8)
theorem xB:ai am 8=.While (.Constant (.bool true) (cT (iH (ai am 8))).1 (cT (iH (ai am 8))).2) xp [] (BX (ai am 8)):=by rfl'
theorem FC:xp=aG xp 0 :: aG xp 1 :: aG xp 2 :: aG xp 3 :: []:=by rfl'
theorem Bx:br am.st=ai am 0 :: ai am 1 :: ai am 2 :: ai am 3 :: ai am 4 :: ai am 5 :: ai am 6 :: ai am 7 :: ai am 8 :: ai am 9 :: []:=by rfl'
noncomputable def iK(T:List aC):Option Nat→Int
 | none=>0
 | some m=>(T.getD m e0).r
noncomputable def gt(T:List aC):Option Nat→Nat
 | none=>0
 | some m=>(T.getD m e0).s.length
section
variable {J:List Nat}{c lb:Nat}{l τ κ:Int}{T:List aC}{tl:af}
theorem sK{kk:Nat}{qq:Pos}{j cj:Int}{fk:Bool}{ci:Nat}{k d q:Int}{o:Option Int}(htl:tl.length≤50)(hT:∀ i<T.length,0≤eS T i→(eS T i).toNat<i):∀ (f i:Nat) (w:V) (r:Option Nat),i<T.length→CR (eR T) (eS T) f i ci=some r→
  ∃ ρ',(ev (30+f)).W lY (bu (T.map aC.v) i j c lb ci cj fk (kT k d q w (iT o))) (ak J c l lb τ κ tl) (.Constant (.bool true) kk qq) xp=some (.ret (.int (iK T r)),ρ',ak J ((c:Int)-gt T r) l lb τ κ tl)
 | 0,i,w,r,_,h=>by cases h
 | f+1,i,w,r,hi,h=>by
  obtain⟨x,hx⟩:∃ x,T[i]?=some x:=⟨_,List.getElem?_eq_some_iff.2 ⟨hi,rfl⟩⟩;have gx:T.getD i e0=x:=by rw[List.getD_eq_getElem?_getD,hx];rfl
  have ex:(eR T i).length=x.s.length:=by unfold eR;rw[gx,List.length_reverse]
  have es:eS T i=x.i:=by unfold eS;rw[gx]
  unfold CR at h;rw[ex,es] at h;have hw:=rZ (l:=T.map aC.v) (z:=(i:Int)) rfl (Et hx);have e1:30+(f+1)=(28+f)+3:=by ext
  rw[e1];have e2:28+f+2=30+f:=by ext
  have hd:∀ r',(ev (29+f)).SS lY (bu (T.map aC.v) i j c lb ci cj fk (kT k d q (.amg x.s x.i x.r) (iT o))) (ak J c l lb τ κ tl) [aG xp 1,aG xp 2,aG xp 3]=r'→(ev (28+f+2)).SS lY (bu (T.map aC.v) i j c lb ci cj fk (kT k d q w (iT o))) (ak J c l lb τ κ tl) xp=r':=fun r' hr=>by
   rw[FC,show 28+f+2=(29+f)+1 by ext];refine aa (ρ':=bu (T.map aC.v) i j c lb ci cj fk (kT k d q (.amg x.s x.i x.r) (iT o))) (Y':=ak J c l lb τ κ tl) ?_ hr;rw[show 29+f=(25+f)+1+1+1+1 by ext];exact dh (v:=.amg x.s x.i x.r) rfl rfl (fP (fun _ _ _ q=>by cases q) rfl rfl rfl hw)
  by_cases c1:x.s.length≤ci
  ·rw[if_pos c1] at h;cases h;have e3:29+f=(9+f)+20:=by ext
   have:iK T (some i)=x.r:=by show (T.getD i e0).r=x.r;rw[gx]
   rw[this];have:gt T (some i)=x.s.length:=by show (T.getD i e0).s.length=_;rw[gx]
   rw[this];refine⟨_,gN (x:=.ret (.int x.r)) (ρ':=bu (T.map aC.v) i j c lb ci cj fk (kT k d q (.amg x.s x.i x.r) (iT o))) (Y':=ak J ((c:Int)-x.s.length) l lb τ κ tl) (hd _ ?_) rfl⟩;rw[e3];exact bd (bQ (c:=decide ((x.s.length:Int)≤ci)) rfl (ZT) (aa (ρ':=bu (T.map aC.v) i j c lb ci cj fk (kT k d q (.amg x.s x.i x.r) (iT o))) (Y':=ak J ((c:Int)-x.s.length) l lb τ κ tl) (jA (v:=.int ((c:Int)-x.s.length)) (Y':=ak J c l lb τ κ tl) rfl rfl rfl rfl (ble_eq_true_of_le (by show tl.length+6≤100;ext))) (bd rfl)))
  ·rw[if_neg c1] at h;have e3:29+f=(9+f)+20:=by ext
   have s1:(ev ((9+f)+19)).S lY (bu (T.map aC.v) i j c lb ci cj fk (kT k d q (.amg x.s x.i x.r) (iT o))) (ak J c l lb τ κ tl) (aG xp 1)=some (.next,bu (T.map aC.v) i j c lb ci cj fk (kT k d q (.amg x.s x.i x.r) (iT o)),ak J c l lb τ κ tl):=
    bD (c:=decide ((x.s.length:Int)≤ci)) rfl (ZF) rfl
   have s2:(ev ((9+f)+18)).S lY (bu (T.map aC.v) i j c lb ci cj fk (kT k d q (.amg x.s x.i x.r) (iT o))) (ak J c l lb τ κ tl) (aG xp 2)=some (.next,bu (T.map aC.v) x.i j c lb ci cj fk (kT k d q (.amg x.s x.i x.r) (iT o)),ak J c l lb τ κ tl):=rfl;by_cases c2:x.i<0
   ·rw[if_pos c2] at h;cases h;have:ak J ((c:Int)-gt T none) l lb τ κ tl=ak J c l lb τ κ tl:=by show ak J ((c:Int)-(0:Nat)) l lb τ κ tl=_;rw[show (c:Int)-(0:Nat)=c by ext]
    rw[this];refine⟨_,gN (x:=.ret (.int 0)) (ρ':=bu (T.map aC.v) x.i j c lb ci cj fk (kT k d q (.amg x.s x.i x.r) (iT o))) (Y':=ak J c l lb τ κ tl) (hd _ ?_) rfl⟩;rw[e3];refine aa s1 (aa s2 (bd (bQ (c:=decide (x.i<0)) rfl (decide_eq_true c2) (bd rfl))))
   ·rw[if_neg c2] at h;have hlt:=hT i hi (by rw[es];ext);rw[es] at hlt;obtain⟨ρ',hw2⟩:=sK htl hT f x.i.toNat (.amg x.s x.i x.r) r (by ext) h;refine⟨ρ',gN (x:=.next) (ρ':=bu (T.map aC.v) x.i.toNat j c lb ci cj fk (kT k d q (.amg x.s x.i x.r) (iT o))) (Y':=ak J c l lb τ κ tl) (hd _ ?_) ?_⟩
    ·rw[e3];refine aa s1 (aa s2 ?_);rw[show x.i=((x.i.toNat:Nat):Int) by ext];exact aa (bD (c:=decide (((x.i.toNat:Nat):Int)<0)) rfl (ZF) rfl) rfl
    ·rw[e2];exact hw2
theorem Ep(hc:c≤J.length)(hlb:lb≤c)(hl:J.length≤1000)(htl:tl.length≤50)(hs:∀ x∈T,x.s.length≤100)(ok:mv (eR T) (eS T) T.length){n:Nat}(hn:T.length+190≤n):
  ∃ r,uy (eR T) (back J c lb) T.length r∧(ev n).C am [.self,.list (T.map aC.v)] (ak J c l lb τ κ tl)=some (.int (iK T r),ak J ((c:Int)-gt T r) l lb τ κ tl):=by
 have two:=ok.two;obtain⟨m,hm⟩:∃ m,n=m+190:=⟨n-190,by ext⟩;obtain⟨i',c',h1,F⟩:=si (t:=back J c lb) ok (m+10) 0 T.length 0 0 false (by ext) (le_refl _) (fun q=>by cases q) (.inl ⟨rfl,rfl⟩) (.inl ⟨rfl,rfl⟩) (fun _=>two) (show T.length-0+1<m+10 by ext);obtain⟨r,h2,B⟩:=mK (f:=m+149) ok F (by have:=F.lt;ext);refine⟨r,B,?_⟩;obtain⟨j',cj',fk',tL',hw,k,d,q,w,o,rfl⟩:=C7 (J:=J) (c:=c) (lb:=lb) (l:=l) (τ:=τ) (κ:=κ) (T:=T) (tl:=tl) (kk:=(cT (iH (ai am 7))).1) (qq:=(cT (iH (ai am 7))).2) hc hlb hl hs (m+10) 0 T.length 0 0 false [] i' c' (.inl rfl) (by ext) (le_refl _) (zero_le _) (zero_le _) h1;obtain⟨ρ',hw2⟩:=sK (J:=J) (c:=c) (lb:=lb) (l:=l) (τ:=τ) (κ:=κ) (T:=T) (tl:=tl) (kk:=(cT (iH (ai am 8))).1) (qq:=(cT (iH (ai am 8))).2) (j:=j') (cj:=cj') (fk:=fk') (k:=k) (d:=d) (q:=q) (o:=o) htl (fun i hi hs=>(ok.some i hi hs).1) (m+149) i' w r F.lt h2;rw[hm];have nx:∀ {a b:af},ai am 0=ai am 0:=fun {_ _}=>rfl
 refine gm (n:=m+189) (ρ:=[("self",.self),("v",.list (T.map aC.v))]) (ρ':=ρ') rfl rfl Bx ?_;refine aa (n:=m+188) (ρ':=[("self",.self),("v",.list (T.map aC.v)),("i",.int (0:Nat))]) (Y':=ak J c l lb τ κ tl) rfl ?_;refine aa (n:=m+187) (ρ':=[("self",.self),("v",.list (T.map aC.v)),("i",.int (0:Nat)),("j",.int T.length)]) (Y':=ak J c l lb τ κ tl) (dh (v:=.int T.length) rfl rfl ?_) ?_
 ·show some (V.int ((T.map aC.v).length:Int),ak J c l lb τ κ tl)=_;rw[length_map]
 refine aa (n:=m+186) (ρ':=[("self",.self),("v",.list (T.map aC.v)),("i",.int (0:Nat)),("j",.int T.length),("c",.int c)]) (Y':=ak J c l lb τ κ tl) rfl ?_;refine aa (n:=m+185) (ρ':=[("self",.self),("v",.list (T.map aC.v)),("i",.int (0:Nat)),("j",.int T.length),("c",.int c),("lb",.int lb)]) (Y':=ak J c l lb τ κ tl) rfl ?_;refine aa (n:=m+184) (ρ':=[("self",.self),("v",.list (T.map aC.v)),("i",.int (0:Nat)),("j",.int T.length),("c",.int c),("lb",.int lb),("common_i",.int (0:Nat))]) (Y':=ak J c l lb τ κ tl) rfl ?_;refine aa (n:=m+183) (ρ':=[("self",.self),("v",.list (T.map aC.v)),("i",.int (0:Nat)),("j",.int T.length),("c",.int c),("lb",.int lb),("common_i",.int (0:Nat)),("common_j",.int (0:Nat))]) (Y':=ak J c l lb τ κ tl) rfl ?_;refine aa (n:=m+182) (ρ':=bu (T.map aC.v) (0:Nat) T.length c lb (0:Nat) (0:Nat) false []) (Y':=ak J c l lb τ κ tl) rfl ?_;refine aa (n:=m+181) (ρ':=bu (T.map aC.v) i' j' c lb c' cj' fk' (kT k d q w (iT o))) (Y':=ak J c l lb τ κ tl) ?_ ?_
 ·obtain⟨a,ha⟩:∃ a,a=m+10+170:=⟨_,rfl⟩;rw[←ha] at hw;rw[wz,show m+181=a+1 by ext];exact dK hw
 ·refine bd (n:=m+180) ?_;obtain⟨a,ha⟩:∃ a,a=30+(m+149):=⟨_,rfl⟩;rw[←ha] at hw2;rw[xB,show m+180=a+1 by ext];exact dK hw2
end
def ah(ends:List (List Nat))(t:List Nat):List Nat:=ends.foldl (fun f e=>bif Nat.blt f.length e.length&&cK e t then e else f) []
theorem lW(e t:List Nat):cK e t=true↔e <:+ t:=by
 unfold cK;rw[Bool.and_eq_true,beq_iff_eq];constructor
 ·rintro⟨h1,h2⟩
  exact⟨t.take (t.length-e.length),by rw[show t.take (t.length-e.length)++e=t.take (t.length-e.length)++t.drop (t.length-e.length) by rw[h2]];exact List.take_append_drop _ _⟩
 ·rintro⟨r,rfl⟩
  refine⟨ble_eq_true_of_le (by simp),?_⟩;rw[length_append,Nat.add_sub_cancel];simp
structure tU(ends:List (List Nat))(t f:List Nat):Prop where
 mem:f=[]∨f∈ends
 suf:f <:+ t
 max:∀ e∈ends,e <:+ t→e.length≤f.length
theorem o7{t:List Nat}:∀ (ends:List (List Nat)) (f:List Nat),f <:+ t→∃ g,ends.foldl (fun f e=>bif Nat.blt f.length e.length&&cK e t then e else f) f=g∧(g=f∨g∈ends)∧g <:+ t∧f.length≤g.length∧∀ e∈ends,e <:+ t→e.length≤g.length
 | [],f,h=>⟨f,rfl,.inl rfl,h,le_refl _,fun e he=>nomatch he⟩
 | e :: r,f,h=>by
  rw[List.foldl_cons];cases q:Nat.blt f.length e.length&&cK e t with
  | true=>
   rw[Bool.and_eq_true] at q;have lt:f.length<e.length:=le_of_ble_eq_true q.1;obtain⟨g,a,b,c,d,m⟩:=o7 r e ((lW _ _).mp q.2);refine⟨g,a,b.elim (fun h=>.inr (h ▸ .head _)) (fun h=>.inr (.tail _ h)),c,by ext,fun x hx hs=>?_⟩;cases hx with
   | head=>exact d
   | tail _ hx=>exact m x hx hs
  | false=>
   obtain⟨g,a,b,c,d,m⟩:=o7 r f h;refine⟨g,a,b.imp (fun h=>h) (fun h=>.tail _ h),c,d,fun x hx hs=>?_⟩;cases hx with
   | head=>
    rw[(lW _ _).mpr hs,Bool.and_true] at q;have:¬ f.length<e.length:=fun h=>by rw[show Nat.blt f.length e.length=true from ble_eq_true_of_le h] at q;cases q
    ext
   | tail _ hx=>exact m x hx hs
theorem eb(ends:List (List Nat))(t:List Nat):tU ends t (ah ends t):=by
 refine Exists.elim (o7 (t:=t) ends [] (List.nil_suffix)) fun g zz=>I5 zz fun a b c d m=>?_
 unfold ah;rw[a];exact⟨b,c,m⟩
theorem IC{a b t:List Nat}(ha:a <:+ t)(hb:b <:+ t)(h:a.length=b.length):a=b:=by
 rw[List.suffix_iff_eq_drop] at ha hb;rw[ha,hb,h]
theorem tU.eq{ends:List (List Nat)}{t f g:List Nat}(a:tU ends t f)(b:tU ends t g):f=g:=by
 refine IC a.suf b.suf ?_;rcases a.mem with h1 | h1<;>rcases b.mem with h2 | h2
 ·rw[h1,h2]
 ·have:=a.max g h2 b.suf;rw[h1] at this ⊢;simp at this;rw[this]
 ·have:=b.max f h1 a.suf;rw[h2] at this ⊢;simp at this;rw[this]
 ·have:=a.max g h2 b.suf;have:=b.max f h1 a.suf;ext
section
variable {T:List aC}{J:List Nat}{c lb:Nat}
noncomputable def kindOf(T:List aC)(f:List Nat):Int:=match T.find? (fun x=>x.s==f) with
 | some x=>x.r
 | none=>0
theorem uZ(T:List aC)(m:Nat)(t:List Nat):eR T m <+: t.reverse↔(T.getD m e0).s <:+ t:=by
 unfold eR;rw[List.reverse_prefix]
theorem jS{m:Nat}(h:m<T.length):T.getD m e0∈T:=by
 rw[List.getD_eq_getElem?_getD,List.getElem?_eq_getElem h];exact List.getElem_mem h
theorem oo{x:aC}(h:x∈T):∃ m,m<T.length∧T.getD m e0=x:=by
 obtain⟨m,hm,e⟩:=List.getElem_of_mem h;exact⟨m,hm,by rw[List.getD_eq_getElem?_getD,List.getElem?_eq_getElem hm,←e];rfl⟩
theorem eJ:∀ a,ey a a=false
 | []=>rfl
 | x :: a=>by rw[ey,if_neg (lt_irrefl _),if_neg (lt_irrefl _)];exact eJ a
theorem y4(ok:mv (eR T) (eS T) T.length)(ne:∀ x∈T,x.s≠[]){r:Option Nat}(B:uy (eR T) (back J c lb) T.length r):
  gt T r=(ah (T.map aC.s) ((J.take c).drop lb)).length∧iK T r=kindOf T (ah (T.map aC.s) ((J.take c).drop lb)):=by
 have I:=eb (T.map aC.s) ((J.take c).drop lb)
 induction r using zO with
 | none=>
  have B:∀ m,m<T.length→¬ eR T m <+: back J c lb:=B;have:ah (T.map aC.s) ((J.take c).drop lb)=[]:=by
   rcases I.mem with h | h
   ·exact h
   ·exfalso
    obtain⟨x,hx,e⟩:=List.mem_map.mp h;obtain⟨m,hm,em⟩:=oo hx;refine B m hm ?_;unfold back;rw[uZ,em,e];exact I.suf
  rw[this];refine⟨rfl,?_⟩;unfold kindOf;have:T.find? (fun x=>x.s==[])=none:=by
   rw[List.find?_eq_none];intro x hx;have:=ne x hx;simpa using this
  rw[this];rfl
 | some m=>
  obtain⟨hm,h1,h2⟩:=B;unfold back at h1;rw[uZ] at h1;have:tU (T.map aC.s) ((J.take c).drop lb) (T.getD m e0).s:=by
   refine⟨.inr (List.mem_map.mpr ⟨_,jS hm,rfl⟩),h1,fun e he hs=>?_⟩;obtain⟨x,hx,rfl⟩:=List.mem_map.mp he;obtain⟨k,hk,ek⟩:=oo hx;have:=h2 k hk (by unfold back;rw[uZ,ek];exact hs);unfold eR at this;rw[ek,List.length_reverse,List.length_reverse] at this;exact this
  rw[I.eq this];refine⟨rfl,?_⟩;unfold kindOf;cases hf:T.find? (fun x=>x.s==(T.getD m e0).s) with
  | none=>
   rw[List.find?_eq_none] at hf;exact absurd (hf _ (jS hm)) (by simp)
  | some x=>
   have hx:=List.mem_of_find?_eq_some hf;have he:x.s=(T.getD m e0).s:=by simpa using List.find?_some hf
   obtain⟨k,hk,ek⟩:=oo hx;have:k=m:=by
    rcases Nat.lt_trichotomy k m with q | q | q
    ·have:=ok.sorted k m q hm;unfold eR at this;rw[ek,he,eJ] at this;cases this
    ·exact q
    ·have:=ok.sorted m k q hk;unfold eR at this;rw[ek,he,eJ] at this;cases this
   subst this;show (T.getD k e0).r=x.r;rw[ek]
end
noncomputable def xx(a b:aC):Bool:=a.s.reverse.isPrefixOf b.s.reverse
def nP:List aC→Bool
 | x :: y :: r=>ey x.s.reverse y.s.reverse&&nP (y :: r)
 | _=>true
noncomputable def qS(T:List aC)(x:aC)(i:Nat):Bool:=bif decide (x.i<0) then T.all (fun y=>!xx y x||y.s==x.s)
 else decide (x.i.toNat<i)&&(xx (T.getD x.i.toNat e0) x&&T.all (fun y=>!xx y x||(y.s==x.s||xx y (T.getD x.i.toNat e0))))
noncomputable def nX(T:List aC):List aC→Nat→Bool
 | [],_=>true
 | x :: r,i=>qS T x i&&nX T r (i+1)
def jB(T:List aC):Bool:=(decide (2≤T.length)&&decide (eS T 0<0))&&(nP T&&(nX T T 0&&T.all fun x=>Nat.ble 1 x.s.length&&Nat.ble x.s.length 100))
theorem gg:∀ (T:List aC),nP T=true→∀ a,a+1<T.length→ey (eR T a) (eR T (a+1))=true
 | [],_,a,h=>by simp at h
 | [x],_,a,h=>by simp at h
 | x :: y :: r,hs,a,h=>by
  unfold nP at hs;rw[Bool.and_eq_true] at hs
  induction a using zN with
  | zero=>exact hs.1
  | succ a=>exact gg (y :: r) hs.2 a (by simpa using h)
theorem fU(T:List aC):∀ (l:List aC) (i:Nat),nX T l i=true→∀ k,k<l.length→qS T (l.getD k e0) (i+k)=true
 | [],_,_,k,h=>by simp at h
 | x :: r,i,hs,k,h=>by
  unfold nX at hs;rw[Bool.and_eq_true] at hs
  induction k using zN with
  | zero=>exact hs.1
  | succ k=>
   have:=fU T r (i+1) hs.2 k (by simpa using h);rw[show i+1+k=i+(k+1) by ext] at this;exact this
theorem zc{T:List aC}(h:jB T=true):mv (eR T) (eS T) T.length∧(∀ x∈T,x.s≠[])∧∀ x∈T,x.s.length≤100:=by
 unfold jB at h;simp only[Bool.and_eq_true,decide_eq_true_eq,List.all_eq_true] at h;refine pK (h) fun zn0 h3 h4 h5=>?_
 obtain⟨h1,h2⟩:=zn0;have sorted:∀ a b,a<b→b<T.length→ey (eR T a) (eR T b)=true:=by
  intro a b hab hb;obtain⟨d,rfl⟩:∃ d,b=a+1+d:=⟨b-a-1,by ext⟩
  induction d with
  | zero=>exact gg T h3 a hb
  | succ d ih=>exact lH _ _ _ (ih (by ext) (by ext)) (gg T h3 (a+1+d) hb)
 have same:∀ a b,a<T.length→b<T.length→(T.getD a e0).s=(T.getD b e0).s→a=b:=by
  intro a b ha hb e;rcases Nat.lt_trichotomy a b with q | q | q
  ·have:=sorted a b q hb;unfold eR at this;rw[e,eJ] at this;cases this
  ·exact q
  ·have:=sorted b a q ha;unfold eR at this;rw[e,eJ] at this;cases this
 have pre:∀ a b,xx (T.getD a e0) (T.getD b e0)=true↔eR T a <+: eR T b:=by
  intro a b;unfold xx eR;exact List.isPrefixOf_iff_prefix
 refine⟨⟨h1,sorted,fun i hi hs m hm hp=>?_,fun i hi hs=>?_,h2⟩,fun x hx=>?_,fun x hx=>?_⟩
 ·have c:=fU T T 0 h4 i hi;unfold qS at c;rw[show decide ((T.getD i e0).i<0)=true from decide_eq_true hs,cond_true,List.all_eq_true] at c;have:=c _ (jS hm);rw[(pre m i).mpr hp,Bool.not_true,Bool.false_or,beq_iff_eq] at this;exact same m i hm hi this
 ·have c:=fU T T 0 h4 i hi;unfold qS at c;rw[show decide ((T.getD i e0).i<0)=false from decide_eq_false (by have:0≤(T.getD i e0).i:=hs;ext),cond_false,Bool.and_eq_true,Bool.and_eq_true,List.all_eq_true,decide_eq_true_eq] at c;obtain⟨c1,c2,c3⟩:=c;refine⟨by have:(eS T i).toNat<0+i:=c1;ext,(pre _ _).mp c2,fun m hm hp=>?_⟩;have:=c3 _ (jS hm);rw[(pre m i).mpr hp,Bool.not_true,Bool.false_or,Bool.or_eq_true,beq_iff_eq] at this;exact this.imp (same m i hm hi) (pre _ _).mp
 ·intro e;have:=(h5 x hx).1;rw[e] at this;cases this
 ·exact le_of_ble_eq_true (h5 x hx).2
def Tk(a n:Nat):List aC:=((amongs.drop a).take n).map fun e=>⟨e.s.cps.toList,e.i,e.r⟩
theorem vR(a n:Nat):amgs a n=.list ((Tk a n).map aC.v):=by
 unfold amgs Tk;rw[List.map_map];rfl
theorem MV:jB (Tk 6 4)=true:=by rfl'
theorem Q6:jB (Tk 10 3)=true:=by rfl'
theorem Py:jB (Tk 13 3)=true:=by rfl'
theorem Ju:jB (Tk 16 45)=true:=by rfl'
theorem Ol:jB (Tk 61 120)=true:=by rfl'
theorem LM:jB (Tk 181 7)=true:=by rfl'
theorem Jo:jB (Tk 188 4)=true:=by rfl'
def ends(a n:Nat):List (List Nat):=(Tk a n).map aC.s
theorem cX{es:List (List Nat)}{t:List Nat}:(ah es t).length≤t.length:=(eb es t).suf.length_le
section
variable {J:List Nat}{c lb:Nat}{l τ κ:Int}{tl:af}{n:Nat}
theorem vx{a k:Nat}(hT:jB (Tk a k)=true)(hc:c≤J.length)(hlb:lb≤c)(hl:J.length≤1000)(htl:tl.length≤50)(hn:310≤n)(hk:k≤120):
  (ev n).C am [.self,amgs a k] (ak J c l lb τ κ tl)=some (.int (kindOf (Tk a k) (ah (ends a k) ((J.take c).drop lb))),ak J ((c-(ah (ends a k) ((J.take c).drop lb)).length:Nat):Int) l lb τ κ tl):=by
 obtain⟨ok,ne,h100⟩:=zc hT;have len:(Tk a k).length≤120:=by
  unfold Tk;rw[length_map,length_take];ext
 obtain⟨r,B,h⟩:=Ep (J:=J) (c:=c) (lb:=lb) (l:=l) (τ:=τ) (κ:=κ) (tl:=tl) (T:=Tk a k) hc hlb hl htl h100 ok (n:=n) (by ext);obtain⟨b1,b2⟩:=y4 ok ne B;rw[b1,b2] at h;rw[vR];have le:=cX (es:=ends a k) (t:=(J.take c).drop lb);rw[length_drop,length_take] at le;rw[show ((c-(ah (ends a k) ((J.take c).drop lb)).length:Nat):Int)=(c:Int)-((ah (ends a k) ((J.take c).drop lb)).length:Int) by ext];exact h
end
theorem yv{n:Nat}{sc:Scope}{ρ Y Y':af}{a b:Expr}{op:CmpOp}{p:Pos}{x y:V}{r:Bool}(ha:(ev n).E sc ρ Y a=some (x,Y'))(hb:(ev n).E sc ρ Y' b=some (y,Y'))(hv:gO op x y=some r):(ev (n+1)).E sc ρ Y (.Compare a [op] [b] p)=some (.bool r,Y'):=by
 show (match (ev n).E sc ρ Y a with
     | some (x,Y)=>match (ev n).E sc ρ Y b with
      | some (y,Y)=>(gO op x y).map fun v=>(V.bool v,Y)
      | none=>none
     | none=>none)=_
 rw[ha];dsimp only;rw[hb];dsimp only;rw[hv];rfl
theorem y5{n:Nat}{sc:Scope}{ρ Y Y':af}{a b:Expr}{op:CmpOp}{p:Pos}{x y:V}{r:Bool}(ha:(ev n).E sc ρ Y a=some (x,Y'))(hb:(ev n).E sc ρ Y' b=some (y,Y'))(hv:gO op x y=some r):(ev (n+2)).T sc ρ Y (.Compare a [op] [b] p)=some (r,Y'):=by
 show (match (ev (n+1)).E sc ρ Y (.Compare a [op] [b] p) with | some (V.bool b,Y)=>some (b,Y) | _=>none)=_;rw[yv ha hb hv]
section
variable {J:List Nat}{c:Int}{l lb τ κ pV p1 p2:Int}{n:Nat}
theorem O3:(ev (n+6)).C qM [.self] (ak J c l lb τ κ (aV pV p1 p2))=some (.bool (decide (pV≤c)),ak J c l lb τ κ (aV pV p1 p2)):=rfl
theorem Le:(ev (n+6)).C rz [.self] (ak J c l lb τ κ (aV pV p1 p2))=some (.bool (decide (p2≤c)),ak J c l lb τ κ (aV pV p1 p2)):=rfl
end
section
variable {J s:List Nat}{a:Nat}{pV p1 p2:Int}{n:Nat}
noncomputable abbrev lM(w:List Nat)(τ κ:Int)(pV p1 p2:Int):af:=ak w w.length w.length (0:Nat) τ κ (aV pV p1 p2)
theorem Du(h:a<J.length)(hs:J.length≤1000):(ev (n+42)).C cQ [.self] (ak J a J.length (0:Nat) a J.length (aV pV p1 p2))=some (.none,lM (J.take a) a a pV p1 p2):=by
 have H:=wq (n:=n) (J:=J) (lb:=(0:Nat)) (x:=pV) (y:=p1) (z:=p2) (a:=a) (b:=J.length) (k:=a) (le_refl _) h (le_refl _) (by ext);have e:J.take a++J.drop J.length=J.take a:=by simp
 rw[e] at H;have:(J.take a).length=a:=by rw[length_take];ext
 unfold lM;rw[this] at H ⊢;exact H
theorem y3{k:Nat}(hk:k≤a)(h:a<J.length)(hs:J.length≤1000)(hs2:s.length≤100):(ev (n+38)).C bV [.self,.str s] (ak J k J.length (0:Nat) a J.length (aV pV p1 p2))=some (.none,ak (J.take a++s) k (J.take a++s).length (0:Nat) a (J.take a++s).length (aV pV p1 p2)):=by
 have e:spl J a J.length s=J.take a++s:=by unfold spl;simp
 have hl:(J.take a++s).length=a+s.length:=by rw[length_append,length_take];ext
 have H:=wo (n:=n) (J:=J) (s:=s) (lb:=(0:Nat)) (τ:=a) (κ:=J.length) (x:=pV) (y:=p1) (z:=p2) (a:=a) (b:=J.length) (k:=k) (by ext) hk (by ext) (le_refl _) (by rw[e,hl];ext);have F:=tj (a:=a) (b:=J.length) (k:=k) (by ext) (le_refl _) H;rw[e] at F;rw[F];rw[hl];rw[show ((J.length:Int)+((s.length:Int)-((J.length:Int)-(a:Int))))=((a+s.length:Nat):Int) by ext,show ((a:Int)+(s.length:Int))=((a+s.length:Nat):Int) by ext]
end
end
theorem IE:bJ "r_residual_form"=some ao:=by rfl'
theorem KL:bJ "r_prelude"=some aX:=by rfl'
theorem GC:bJ "r_postlude"=some aO:=by rfl'
theorem Fx:bJ "r_mark_regions"=some az:=by rfl'
theorem IT:bJ "_stem"=some bA:=by rfl'
theorem Jy:bJ "set_current"=some cN:=by rfl'
theorem EP:bJ "get_current"=some cP:=by rfl'
structure SL(sc:Scope)(ρ:af):Prop where
 k:sc.names.lookup ("self":Str)=some .local
 v:look ρ ("self":Str)=some .self
section
variable {n:Nat}{sc:Scope}{ρ Y Y':af}{J:List Nat}{c l lb τ κ pV p1 p2:Int}{tl:af}
theorem k8(H:SL sc ρ){p:Pos}:(ev (n+1)).E sc ρ Y (.Name "self" p)=some (.self,Y):=pD (by decide+kernel) (by decide+kernel) H.k H.v
theorem gA(H:SL sc ρ){p q:Pos}{attr:Str}{v:V}(hf:dN attr=true)(hv:look Y attr=some v):(ev (n+2)).E sc ρ Y (.Attribute (.Name "self" p) attr q)=some (v,Y):=by
 show (match (ev (n+1)).E sc ρ Y (.Name "self" p) with
     | some (v,Y)=>(qf v attr Y).map fun v=>(v,Y)
     | none=>none)=_
 rw[k8 H];show (bif dN attr then look Y attr else none).map _=_;rw[hf,cond_true,hv];rfl
theorem bT:dN "cursor"=true:=by rfl'
theorem n5:dN "limit"=true:=by rfl'
theorem xo:dN "limit_backward"=true:=by rfl'
theorem Ks:dN "I_pV"=true:=by rfl'
theorem P3:dN "I_p1"=true:=by rfl'
theorem cR:look (ak J c l lb τ κ tl) "cursor"=some (.int c):=by rfl'
theorem nQ:look (ak J c l lb τ κ tl) "limit"=some (.int l):=by rfl'
theorem Gx:look (ak J c l lb τ κ tl) "limit_backward"=some (.int lb):=by rfl'
theorem KE:look (ak J c l lb τ κ (aV pV p1 p2)) "I_pV"=some (.int pV):=by rfl'
theorem P9:look (ak J c l lb τ κ (aV pV p1 p2)) "I_p1"=some (.int p1):=by rfl'
theorem fQ{x:Int}:put (ak J c l lb τ κ tl) "cursor" (.int x)=ak J x l lb τ κ tl:=by rfl'
theorem Ox{x:Int}:put (ak J c l lb τ κ tl) "bra" (.int x)=ak J c l lb x κ tl:=by rfl'
theorem OB{x:Int}:put (ak J c l lb τ κ tl) "ket" (.int x)=ak J c l lb τ x tl:=by rfl'
theorem Hu{x:Int}:put (ak J c l lb τ κ tl) "limit_backward" (.int x)=ak J c l x τ κ tl:=by rfl'
theorem rV(h:tl.length≤50):Nat.ble (ak J c l lb τ κ tl).length 100=true:=ble_eq_true_of_le (by show tl.length+6≤100;ext)
theorem fY(H:SL sc ρ)(ht:tl.length≤50){p q pos:Pos}{attr:Str}{e:Expr}{v:V}{X:af}(hc:fA e=false)(hf:dN attr=true)(he:(ev (n+1)).E sc ρ (ak J c l lb τ κ tl) e=some (v,ak J c l lb τ κ tl))(hp:put (ak J c l lb τ κ tl) attr v=X):
  (ev (n+2)).S sc ρ (ak J c l lb τ κ tl) (.Assign [.Attribute (.Name "self" p) attr q] e pos)=some (.next,ρ,X):=by
 rw[←hp];exact jA hc he (k8 H) hf (rV ht)
theorem Ky(H:SL sc ρ)(ht:tl.length≤50){p q p' q' pos:Pos}:(ev (n+3)).S sc ρ (ak J c l lb τ κ tl) (.Assign [.Attribute (.Name "self" p) "ket" q] (.Attribute (.Name "self" p') "cursor" q') pos)=some (.next,ρ,ak J c l lb τ c tl):=
 fY H ht rfl (by rfl') (gA H bT cR) OB
theorem Ot(H:SL sc ρ)(ht:tl.length≤50){p q p' q' pos:Pos}:(ev (n+3)).S sc ρ (ak J c l lb τ κ tl) (.Assign [.Attribute (.Name "self" p) "bra" q] (.Attribute (.Name "self" p') "cursor" q') pos)=some (.next,ρ,ak J c l lb c κ tl):=
 fY H ht rfl (by rfl') (gA H bT cR) Ox
structure VL(sc:Scope)(ρ:af)(id:Str)(v:V):Prop where
 d:id≠"__debug__"
 c:id≠"__classdict__"
 k:sc.names.lookup id=some .local
 v:look ρ id=some v
theorem ba{sc:Scope}{ρ:af}{id:Str}{v:V}(h:(decide (id=("__debug__":Str)),decide (id=("__classdict__":Str)),sc.names.lookup id,look ρ id)=(false,false,some .local,some v)):VL sc ρ id v:=by
 simp only[Prod.mk.injEq,decide_eq_false_iff_not] at h
 exact⟨h.1,h.2.1,h.2.2.1,h.2.2.2⟩
theorem Pt{id:Str}{v:V}(h:VL sc ρ id v){p:Pos}:(ev (n+1)).E sc ρ Y (.Name id p)=some (v,Y):=pD h.d h.c h.k h.v
theorem GF(H:SL sc ρ)(ht:tl.length≤50){id:Str}{v:Int}(hv:VL sc ρ id (.int v)){p q p' q' p2 p3 pos:Pos}:(ev (n+5)).S sc ρ (ak J c l lb τ κ tl) (.Assign [.Attribute (.Name "self" p) "cursor" q] (.BinOp (.Attribute (.Name "self" p') "limit" q') .Sub (.Name id p2) p3) pos)=some (.next,ρ,ak J (l-v) l lb τ κ tl):=
 fY H ht rfl bT (mw (gA H n5 nQ) (Pt hv)) fQ
theorem F9(H:SL sc ρ)(ht:tl.length≤50){id:Str}{v:Int}(hv:VL sc ρ id (.int v)){p q p2 pos:Pos}:(ev (n+3)).S sc ρ (ak J c l lb τ κ tl) (.Assign [.Attribute (.Name "self" p) "cursor" q] (.Name id p2) pos)=some (.next,ρ,ak J v l lb τ κ tl):=
 fY H ht rfl bT (Pt hv) fQ
theorem GL(H:SL sc ρ)(ht:tl.length≤50){p q p2 q2 pos:Pos}:(ev (n+3)).S sc ρ (ak J c l lb τ κ tl) (.Assign [.Attribute (.Name "self" p) "cursor" q] (.Attribute (.Name "self" p2) "limit" q2) pos)=some (.next,ρ,ak J l l lb τ κ tl):=
 fY H ht rfl bT (gA H n5 nQ) fQ
theorem GX(H:SL sc ρ)(ht:tl.length≤50){p q p2 q2 pos:Pos}:(ev (n+3)).S sc ρ (ak J c l lb τ κ tl) (.Assign [.Attribute (.Name "self" p) "cursor" q] (.Attribute (.Name "self" p2) "limit_backward" q2) pos)=some (.next,ρ,ak J lb l lb τ κ tl):=
 fY H ht rfl bT (gA H xo Gx) fQ
theorem ND(H:SL sc ρ)(ht:tl.length≤50){p q p2 q2 pos:Pos}:(ev (n+3)).S sc ρ (ak J c l lb τ κ tl) (.Assign [.Attribute (.Name "self" p) "limit_backward" q] (.Attribute (.Name "self" p2) "cursor" q2) pos)=some (.next,ρ,ak J c l c τ κ tl):=
 fY H ht rfl xo (gA H bT cR) Hu
theorem Nj(H:SL sc ρ)(ht:tl.length≤50){id:Str}{v:Int}(hv:VL sc ρ id (.int v)){p q p2 pos:Pos}:(ev (n+3)).S sc ρ (ak J c l lb τ κ tl) (.Assign [.Attribute (.Name "self" p) "limit_backward" q] (.Name id p2) pos)=some (.next,ρ,ak J c l v τ κ tl):=
 fY H ht rfl xo (Pt hv) Hu
theorem OH(H:SL sc ρ){p q p' q' pos:Pos}:(ev (n+3)).S sc ρ (ak J c l lb τ κ (aV pV p1 p2)) (.Assign [.Attribute (.Name "self" p) "limit_backward" q] (.Attribute (.Name "self" p') "I_pV" q') pos)=some (.next,ρ,ak J c l pV τ κ (aV pV p1 p2)):=
 fY (tl:=aV pV p1 p2) H (show 3≤50 by decide) rfl xo (gA H Ks KE) Hu
theorem HK(H:SL sc ρ){id:Str}(hk:sc.names.lookup id=some .local){p p1 q1 p2 q2 p3 pos:Pos}:(ev (n+4)).S sc ρ (ak J c l lb τ κ tl) (.Assign [.Name id p] (.BinOp (.Attribute (.Name "self" p1) "limit" q1) .Sub (.Attribute (.Name "self" p2) "cursor" q2) p3) pos)=some (.next,put ρ id (.int (l-c)),ak J c l lb τ κ tl):=
 dh rfl hk (mw (gA H n5 nQ) (gA H bT cR))
theorem II(H:SL sc ρ){id:Str}(hk:sc.names.lookup id=some .local){p p1 q1 pos:Pos}:(ev (n+3)).S sc ρ (ak J c l lb τ κ tl) (.Assign [.Name id p] (.Attribute (.Name "self" p1) "cursor" q1) pos)=some (.next,put ρ id (.int c),ak J c l lb τ κ tl):=
 dh rfl hk (gA H bT cR)
theorem Ki(H:SL sc ρ){id:Str}(hk:sc.names.lookup id=some .local){p p1 q1 pos:Pos}:(ev (n+3)).S sc ρ (ak J c l lb τ κ tl) (.Assign [.Name id p] (.Attribute (.Name "self" p1) "limit_backward" q1) pos)=some (.next,put ρ id (.int lb),ak J c l lb τ κ tl):=
 dh rfl hk (gA H xo Gx)
theorem RR(H:SL sc ρ){name:Str}{p apos pos:Pos}{args:List Expr}{f:Fn}{vs:List V}{v:V}(hok:ax (.Name "self" p) args apos pos=true)(hm:bJ name=some f)(hl:look Y name=none)(ha:dl (ev (n+1)).E sc ρ Y args=some (vs,Y))(hc:(ev (n+1)).C f (.self :: vs) Y=some (v,Y')):(ev (n+2)).E sc ρ Y (.Call (.Attribute (.Name "self" p) name apos) args [] pos)=some (v,Y'):=
 hJ (k8 H) hok hm hl ha hc
theorem Rr(H:SL sc ρ){name:Str}{p apos pos q:Pos}{args:List Expr}{f:Fn}{vs:List V}{v:V}(hok:ax (.Name "self" p) args apos pos=true)(hm:bJ name=some f)(hl:look Y name=none)(ha:dl (ev (n+1)).E sc ρ Y args=some (vs,Y))(hc:(ev (n+1)).C f (.self :: vs) Y=some (v,Y')):(ev (n+3)).S sc ρ Y (.Expr (.Call (.Attribute (.Name "self" p) name apos) args [] pos) q)=some (.next,ρ,Y'):=
 qL (RR H hok hm hl ha hc)
theorem vi(H:SL sc ρ){name:Str}{apos pos p p' q:Pos}{b:List Stmt}{f:Fn}(hok:ax (.Name "self" p') [] apos pos=true)(hm:bJ name=some f)(hl:look Y name=none)(hc:(ev (n+1)).C f [.self] Y=some (.bool true,Y')):(ev (n+5)).S sc ρ Y (.If (.UnaryOp .Not (.Call (.Attribute (.Name "self" p') name apos) [] [] pos) p) b [] q)=some (.next,ρ,Y'):=
 aS (k8 H) hok hm hl rfl hc
theorem uE(H:SL sc ρ){name:Str}{apos pos p p' q:Pos}{b:List Stmt}{f:Fn}{r:Option (Fl×af×af)}(hok:ax (.Name "self" p') [] apos pos=true)(hm:bJ name=some f)(hl:look Y name=none)(hc:(ev (n+1)).C f [.self] Y=some (.bool false,Y'))(k:(ev (n+4)).SS sc ρ Y' b=r):(ev (n+5)).S sc ρ Y (.If (.UnaryOp .Not (.Call (.Attribute (.Name "self" p') name apos) [] [] pos) p) b [] q)=r:=
 be (k8 H) hok hm hl rfl hc k
theorem Mx{id attr:Str}{p q:Pos}{v:V}(hid:id="PortugueseStemmer")(hk:sc.names.lookup id=some .globalImplicit)(ha:bK attr=some v):(ev (n+2)).E sc ρ Y (.Attribute (.Name id p) attr q)=some (v,Y):=by
 subst hid;have:(ev (n+1)).E sc ρ Y (.Name "PortugueseStemmer" p)=some (.addr 888,Y):=by
  show (if ("PortugueseStemmer":Str)="__debug__" then none else if ("PortugueseStemmer":Str)="__classdict__" then none else match sc.names.lookup ("PortugueseStemmer":Str) with
     | some .globalImplicit=>(glob "PortugueseStemmer").map fun v=>(v,Y)
     | some .local | some .cell | some .free=>(look ρ "PortugueseStemmer").map fun v=>(v,Y)
     | _=>none)=_
  rw[if_neg (by decide+kernel),if_neg (by decide+kernel),hk];dsimp only;rw[show glob "PortugueseStemmer"=some (.addr 888) by rfl'];rfl
 show (match (ev (n+1)).E sc ρ Y (.Name "PortugueseStemmer" p) with
     | some (v,Y)=>(qf v attr Y).map fun v=>(v,Y)
     | none=>none)=_
 rw[this];show (bK attr).map _=_;rw[ha];rfl
theorem ei{e:Expr}{v:V}{E:Scope→af→af→Expr→Option (V×af)}(h:E sc ρ Y e=some (v,Y)):dl E sc ρ Y [e]=some ([v],Y):=by
 unfold dl;rw[h];rfl
end
section
set_option tactic.hygienic false
noncomputable def cut(w e:List Nat):List Nat:=w.take (w.length-e.length)
def aT(w:List Nat)(es:List (List Nat))(low:Nat):List Nat:=if low≤(cut w (ah es w)).length then cut w (ah es w) else w
theorem gi(w:List Nat):cut w []=w:=by unfold cut;simp
theorem dP{w e:List Nat}:(cut w e).length=w.length-e.length:=length_take.trans (Nat.min_eq_left (Nat.sub_le _ _))
theorem jT{w:List Nat}{es:List (List Nat)}{low:Nat}(h:ah es w=[]):aT w es low=w:=by
 unfold aT;rw[h,gi];split<;>rfl
theorem tO{w:List Nat}{es:List (List Nat)}{low:Nat}:(aT w es low).length≤w.length:=by
 unfold aT;split
 ·rw[dP];ext
 ·exact le_refl _
theorem fI{T:List aC}(h:jB T=true):kindOf T []=0:=by
 obtain⟨_,ne,_⟩:=zc h;unfold kindOf;have:T.find? (fun x=>x.s==[])=none:=by
  rw[List.find?_eq_none];intro x hx;have:=ne x hx;simpa using this
 rw[this]
theorem sy{T:List aC}{f:List Nat}(h:f∈T.map aC.s):∃ x∈T,x.s=f∧kindOf T f=x.r:=by
 unfold kindOf;cases hf:T.find? (fun x=>x.s==f) with
 | none=>
  rw[List.find?_eq_none] at hf;obtain⟨x,hx,e⟩:=List.mem_map.mp h;exact absurd (hf x hx) (by simp[e])
 | some x=>exact⟨x,List.mem_of_find?_eq_some hf,by simpa using List.find?_some hf,rfl⟩
theorem iC{T:List aC}{P:Int→Bool}(h:T.all (fun x=>P x.r)=true){es:List (List Nat)}(he:es=T.map aC.s){w:List Nat}(hn:ah es w≠[]):P (kindOf T (ah es w))=true:=by
 rcases (eb es w).mem with q | q
 ·exact absurd q hn
 ·rw[he] at q;rw[he];refine Exists.elim (sy q) fun x zz=>ee zz fun hx _ e=>?_
  rw[e];exact List.all_eq_true.mp h x hx
theorem whole(w:List Nat):(w.take w.length).drop 0=w:=by simp
theorem hZ{a:List Nat}(h:a≠[]):0<a.length:=List.length_pos_iff.mpr h
theorem wg{w:List Nat}{τ κ:Int}{tl:af}{a k n:Nat}(hT:jB (Tk a k)=true)(hl:w.length≤1000)(htl:tl.length≤50)(hn:310≤n)(hk:k≤120):
  (ev n).C am (.self :: [amgs a k]) (ak w w.length w.length (0:Nat) τ κ tl)=some (.int (kindOf (Tk a k) (ah (ends a k) w)),ak w ((cut w (ah (ends a k) w)).length:Nat) w.length (0:Nat) τ κ tl):=by
 have F:=vx (J:=w) (c:=w.length) (lb:=0) (l:=w.length) (τ:=τ) (κ:=κ) (tl:=tl) hT (le_refl _) (zero_le _) hl htl hn hk;rw[whole] at F;rw[dP];exact F
section
variable {n:Nat}{sc:Scope}{ρ:af}{w:List Nat}{c l τ κ pV p1:Int}{p2:Nat}{b:List Stmt}{r:Option (Fl×af×af)}
theorem IK(H:SL sc ρ){apos pos p p' q:Pos}(hok:ax (.Name "self" p') [] apos pos=true){a lb:Int}{J:List Nat}{P2:Int}(h:P2≤a):(ev (n+11)).S sc ρ (ak J a l lb τ κ (aV pV p1 P2)) (.If (.UnaryOp .Not (.Call (.Attribute (.Name "self" p') "r_R2" apos) [] [] pos) p) b [] q)=some (.next,ρ,ak J a l lb τ κ (aV pV p1 P2)):=
 vi (n:=n+6) H hok (by rfl') (by rfl') (by rw[Le,decide_eq_true h])
theorem HU(H:SL sc ρ){apos pos p p' q:Pos}(hok:ax (.Name "self" p') [] apos pos=true){a lb:Int}{J:List Nat}{P2:Int}(h:¬ P2≤a)(k:(ev (n+10)).SS sc ρ (ak J a l lb τ κ (aV pV p1 P2)) b=r):(ev (n+11)).S sc ρ (ak J a l lb τ κ (aV pV p1 P2)) (.If (.UnaryOp .Not (.Call (.Attribute (.Name "self" p') "r_R2" apos) [] [] pos) p) b [] q)=r:=
 uE (n:=n+6) H hok (by rfl') (by rfl') (by rw[Le,decide_eq_false h]) k
theorem Gg(H:SL sc ρ){apos pos p p' q:Pos}(hok:ax (.Name "self" p') [] apos pos=true){a lb:Int}{J:List Nat}{P2:Int}(h:pV≤a):(ev (n+11)).S sc ρ (ak J a l lb τ κ (aV pV p1 P2)) (.If (.UnaryOp .Not (.Call (.Attribute (.Name "self" p') "r_RV" apos) [] [] pos) p) b [] q)=some (.next,ρ,ak J a l lb τ κ (aV pV p1 P2)):=
 vi (n:=n+6) H hok (by rfl') (by rfl') (by rw[O3,decide_eq_true h])
theorem HP(H:SL sc ρ){apos pos p p' q:Pos}(hok:ax (.Name "self" p') [] apos pos=true){a lb:Int}{J:List Nat}{P2:Int}(h:¬ pV≤a)(k:(ev (n+10)).SS sc ρ (ak J a l lb τ κ (aV pV p1 P2)) b=r):(ev (n+11)).S sc ρ (ak J a l lb τ κ (aV pV p1 P2)) (.If (.UnaryOp .Not (.Call (.Attribute (.Name "self" p') "r_RV" apos) [] [] pos) p) b [] q)=r:=
 uE (n:=n+6) H hok (by rfl') (by rfl') (by rw[O3,decide_eq_false h]) k
theorem Ly(H:SL sc ρ){apos pos p q:Pos}(hok:ax (.Name "self" p) [] apos pos=true){P2:Int}{a:Nat}(h:a<w.length)(hl:w.length≤1000):(ev (n+44)).S sc ρ (ak w a w.length (0:Nat) a w.length (aV pV p1 P2)) (.Expr (.Call (.Attribute (.Name "self" p) "slice_del" apos) [] [] pos) q)=some (.next,ρ,lM (w.take a) a a pV p1 P2):=
 Rr (n:=n+41) (f:=cQ) (vs:=[]) H hok (by rfl') (by rfl') rfl (by rw[Du h hl])
theorem qV{id:Str}{p p2 pos:Pos}{Y:af}{a:Addr}(hd:id≠"__debug__")(hc:id≠"__classdict__")(hk:sc.names.lookup id=some .globalImplicit)(hg:glob id=some (.addr a))(ha:ff a=true):(ev (n+2)).S sc ρ Y (.Raise (some (.Call (.Name id p) [] [] p2)) none pos)=some (.exc a,ρ,Y):=by
 have:(ev (n+1)).E sc ρ Y (.Name id p)=some (.addr a,Y):=by
  show (if id="__debug__" then none else if id="__classdict__" then none else match sc.names.lookup id with
     | some .globalImplicit=>(glob id).map fun v=>(v,Y)
     | some .local | some .cell | some .free=>(look ρ id).map fun v=>(v,Y)
     | _=>none)=_
  rw[if_neg hd,if_neg hc,hk];dsimp only;rw[hg];rfl
 show (match (ev (n+1)).E sc ρ Y (.Name id p) with
     | some (.addr a,Y)=>bif ff a then some (Fl.exc a,ρ,Y) else none
     | _=>none)=_
 rw[this];dsimp only;rw[ha];rfl
theorem g0:glob "lab0"=some (.addr 900):=by rfl'
theorem g1:glob "lab1"=some (.addr 913):=by rfl'
theorem g2:glob "lab2"=some (.addr 926):=by rfl'
theorem AO{p p2 pos:Pos}{Y:af}(hk:sc.names.lookup ("lab0":Str)=some .globalImplicit):(ev (n+2)).S sc ρ Y (.Raise (some (.Call (.Name "lab0" p) [] [] p2)) none pos)=some (.exc 900,ρ,Y):=qV (by decide+kernel) (by decide+kernel) hk g0 rfl
theorem yn{p p2 pos:Pos}{Y:af}(hk:sc.names.lookup ("lab1":Str)=some .globalImplicit):(ev (n+2)).S sc ρ Y (.Raise (some (.Call (.Name "lab1" p) [] [] p2)) none pos)=some (.exc 913,ρ,Y):=qV (by decide+kernel) (by decide+kernel) hk g1 rfl
theorem yk{p p2 pos:Pos}{Y:af}(hk:sc.names.lookup ("lab2":Str)=some .globalImplicit):(ev (n+2)).S sc ρ Y (.Raise (some (.Call (.Name "lab2" p) [] [] p2)) none pos)=some (.exc 926,ρ,Y):=qV (by decide+kernel) (by decide+kernel) hk g2 rfl
theorem qK{id:Str}{a k:Addr}{ρ Y:af}(hd:id≠"__debug__")(hk:sc.names.lookup id=some .globalImplicit)(hg:glob id=some (.addr a))(ha:ff a=true):IR sc id (.exc k) ρ Y=bif Nat.beq a k then some (.next,ρ,Y) else some (.exc k,ρ,Y):=by
 unfold IR;dsimp only;rw[decide_eq_false hd,hk,hg];dsimp only;rw[ha];rfl
theorem GH{id:Str}{p q u v:Pos}{ρ' Y Y':af}(h:(ev n).SS sc ρ Y b=some (.next,ρ',Y')):(ev (n+1)).S sc ρ Y (.Try b [.ExceptHandler (some (.Name id p)) none [.Pass q] u] [] [] v)=some (.next,ρ',Y'):=by
 apply bZ h;rfl
theorem KQ{id:Str}{p q u v:Pos}{ρ' Y Y':af}(h:(ev n).SS sc ρ Y b=some (.brk,ρ',Y')):(ev (n+1)).S sc ρ Y (.Try b [.ExceptHandler (some (.Name id p)) none [.Pass q] u] [] [] v)=some (.brk,ρ',Y'):=by
 apply bZ h;rfl
theorem FG{p q u v:Pos}{ρ' Y Y':af}(hk:sc.names.lookup ("lab0":Str)=some .globalImplicit)(h:(ev n).SS sc ρ Y b=some (.exc 900,ρ',Y')):(ev (n+1)).S sc ρ Y (.Try b [.ExceptHandler (some (.Name "lab0" p)) none [.Pass q] u] [] [] v)=some (.next,ρ',Y'):=by
 apply bZ h;rw[qK (by decide+kernel) hk g0 rfl];rfl
theorem FS{p q u v:Pos}{ρ' Y Y':af}(hk:sc.names.lookup ("lab1":Str)=some .globalImplicit)(h:(ev n).SS sc ρ Y b=some (.exc 913,ρ',Y')):(ev (n+1)).S sc ρ Y (.Try b [.ExceptHandler (some (.Name "lab1" p)) none [.Pass q] u] [] [] v)=some (.next,ρ',Y'):=by
 apply bZ h;rw[qK (by decide+kernel) hk g1 rfl];rfl
theorem HE{p q u v:Pos}{ρ' Y Y':af}(hk:sc.names.lookup ("lab2":Str)=some .globalImplicit)(h:(ev n).SS sc ρ Y b=some (.exc 926,ρ',Y')):(ev (n+1)).S sc ρ Y (.Try b [.ExceptHandler (some (.Name "lab2" p)) none [.Pass q] u] [] [] v)=some (.next,ρ',Y'):=by
 apply bZ h;rw[qK (by decide+kernel) hk g2 rfl];rfl
end
section
variable {n:Nat}{sc:Scope}{ρ Y Y':af}{J w:List Nat}{c l lb τ κ pV p1 p2:Int}{tl:af}{b:List Stmt}{r:Option (Fl×af×af)}
theorem nw{N:Nat}(hN:1≤N)(H:SL sc ρ){p:Pos}:(ev N).E sc ρ Y (.Name "self" p)=some (.self,Y):=by
 obtain⟨n,rfl⟩:=xle hN;exact k8 H
theorem fw{N:Nat}(H:SL sc ρ){p q:Pos}{attr:Str}{v:V}(hf:dN attr=true)(hv:look Y attr=some v)(hN:2≤N:=by ext):(ev N).E sc ρ Y (.Attribute (.Name "self" p) attr q)=some (v,Y):=by
 obtain⟨n,rfl⟩:=xle hN;exact gA H hf hv
theorem bI{N:Nat}(H:SL sc ρ)(ht:tl.length≤50){p q p' q' pos:Pos}(hN:3≤N:=by ext):(ev N).S sc ρ (ak J c l lb τ κ tl) (.Assign [.Attribute (.Name "self" p) "ket" q] (.Attribute (.Name "self" p') "cursor" q') pos)=some (.next,ρ,ak J c l lb τ c tl):=by
 obtain⟨n,rfl⟩:=xle hN;exact Ky H ht
theorem bX{N:Nat}(H:SL sc ρ)(ht:tl.length≤50){p q p' q' pos:Pos}(hN:3≤N:=by ext):(ev N).S sc ρ (ak J c l lb τ κ tl) (.Assign [.Attribute (.Name "self" p) "bra" q] (.Attribute (.Name "self" p') "cursor" q') pos)=some (.next,ρ,ak J c l lb c κ tl):=by
 obtain⟨n,rfl⟩:=xle hN;exact Ot H ht
theorem au{N:Nat}{id:Str}{v:V}(h:VL sc ρ id v){p:Pos}(hN:1≤N:=by ext):(ev N).E sc ρ Y (.Name id p)=some (v,Y):=by
 obtain⟨n,rfl⟩:=xle hN;exact Pt h
theorem gq{N:Nat}(H:SL sc ρ)(ht:tl.length≤50){id:Str}{v:Int}(hv:VL sc ρ id (.int v)){p q p' q' p2 p3 pos:Pos}(hN:5≤N:=by ext):(ev N).S sc ρ (ak J c l lb τ κ tl) (.Assign [.Attribute (.Name "self" p) "cursor" q] (.BinOp (.Attribute (.Name "self" p') "limit" q') .Sub (.Name id p2) p3) pos)=some (.next,ρ,ak J (l-v) l lb τ κ tl):=by
 obtain⟨n,rfl⟩:=xle hN;exact GF H ht hv
theorem rc{N:Nat}(hN:3≤N)(H:SL sc ρ)(ht:tl.length≤50){id:Str}{v:Int}(hv:VL sc ρ id (.int v)){p q p2 pos:Pos}:(ev N).S sc ρ (ak J c l lb τ κ tl) (.Assign [.Attribute (.Name "self" p) "cursor" q] (.Name id p2) pos)=some (.next,ρ,ak J v l lb τ κ tl):=by
 obtain⟨n,rfl⟩:=xle hN;exact F9 H ht hv
theorem Cm{N:Nat}(hN:3≤N)(H:SL sc ρ)(ht:tl.length≤50){p q p2 q2 pos:Pos}:(ev N).S sc ρ (ak J c l lb τ κ tl) (.Assign [.Attribute (.Name "self" p) "cursor" q] (.Attribute (.Name "self" p2) "limit" q2) pos)=some (.next,ρ,ak J l l lb τ κ tl):=by
 obtain⟨n,rfl⟩:=xle hN;exact GL H ht
theorem DL{N:Nat}(hN:3≤N)(H:SL sc ρ)(ht:tl.length≤50){p q p2 q2 pos:Pos}:(ev N).S sc ρ (ak J c l lb τ κ tl) (.Assign [.Attribute (.Name "self" p) "cursor" q] (.Attribute (.Name "self" p2) "limit_backward" q2) pos)=some (.next,ρ,ak J lb l lb τ κ tl):=by
 obtain⟨n,rfl⟩:=xle hN;exact GX H ht
theorem Gy{N:Nat}(hN:3≤N)(H:SL sc ρ)(ht:tl.length≤50){p q p2 q2 pos:Pos}:(ev N).S sc ρ (ak J c l lb τ κ tl) (.Assign [.Attribute (.Name "self" p) "limit_backward" q] (.Attribute (.Name "self" p2) "cursor" q2) pos)=some (.next,ρ,ak J c l c τ κ tl):=by
 obtain⟨n,rfl⟩:=xle hN;exact ND H ht
theorem AG{N:Nat}(hN:3≤N)(H:SL sc ρ)(ht:tl.length≤50){id:Str}{v:Int}(hv:VL sc ρ id (.int v)){p q p2 pos:Pos}:(ev N).S sc ρ (ak J c l lb τ κ tl) (.Assign [.Attribute (.Name "self" p) "limit_backward" q] (.Name id p2) pos)=some (.next,ρ,ak J c l v τ κ tl):=by
 obtain⟨n,rfl⟩:=xle hN;exact Nj H ht hv
theorem yI{N:Nat}(hN:3≤N)(H:SL sc ρ){p q p' q' pos:Pos}:(ev N).S sc ρ (ak J c l lb τ κ (aV pV p1 p2)) (.Assign [.Attribute (.Name "self" p) "limit_backward" q] (.Attribute (.Name "self" p') "I_pV" q') pos)=some (.next,ρ,ak J c l pV τ κ (aV pV p1 p2)):=by
 obtain⟨n,rfl⟩:=xle hN;exact OH H
theorem vC{N:Nat}(hN:4≤N)(H:SL sc ρ){id:Str}(hk:sc.names.lookup id=some .local){p p1 q1 p2 q2 p3 pos:Pos}:(ev N).S sc ρ (ak J c l lb τ κ tl) (.Assign [.Name id p] (.BinOp (.Attribute (.Name "self" p1) "limit" q1) .Sub (.Attribute (.Name "self" p2) "cursor" q2) p3) pos)=some (.next,put ρ id (.int (l-c)),ak J c l lb τ κ tl):=by
 obtain⟨n,rfl⟩:=xle hN;exact HK H hk
theorem iA{N:Nat}(H:SL sc ρ){id:Str}(hk:sc.names.lookup id=some .local){p p1 q1 pos:Pos}(hN:3≤N:=by ext):(ev N).S sc ρ (ak J c l lb τ κ tl) (.Assign [.Name id p] (.Attribute (.Name "self" p1) "cursor" q1) pos)=some (.next,put ρ id (.int c),ak J c l lb τ κ tl):=by
 obtain⟨n,rfl⟩:=xle hN;exact II H hk
theorem zA{N:Nat}(hN:3≤N)(H:SL sc ρ){id:Str}(hk:sc.names.lookup id=some .local){p p1 q1 pos:Pos}:(ev N).S sc ρ (ak J c l lb τ κ tl) (.Assign [.Name id p] (.Attribute (.Name "self" p1) "limit_backward" q1) pos)=some (.next,put ρ id (.int lb),ak J c l lb τ κ tl):=by
 obtain⟨n,rfl⟩:=xle hN;exact Ki H hk
theorem jC{N:Nat}{id attr:Str}{p q:Pos}{v:V}(hid:id="PortugueseStemmer")(hk:sc.names.lookup id=some .globalImplicit)(ha:bK attr=some v)(hN:2≤N:=by ext):(ev N).E sc ρ Y (.Attribute (.Name id p) attr q)=some (v,Y):=by
 obtain⟨n,rfl⟩:=xle hN;exact Mx hid hk ha
theorem iv{N:Nat}(H:SL sc ρ){apos pos p p' q:Pos}(hok:ax (.Name "self" p') [] apos pos=true){a lb:Int}{J:List Nat}{P2:Int}(h:P2≤a)(hN:11≤N:=by ext):(ev N).S sc ρ (ak J a l lb τ κ (aV pV p1 P2)) (.If (.UnaryOp .Not (.Call (.Attribute (.Name "self" p') "r_R2" apos) [] [] pos) p) b [] q)=some (.next,ρ,ak J a l lb τ κ (aV pV p1 P2)):=by
 obtain⟨n,rfl⟩:=xle hN;exact IK H hok h
theorem ip{N:Nat}(H:SL sc ρ){apos pos p p' q:Pos}(hok:ax (.Name "self" p') [] apos pos=true){a lb:Int}{J:List Nat}{P2:Int}(h:pV≤a)(hN:11≤N:=by ext):(ev N).S sc ρ (ak J a l lb τ κ (aV pV p1 P2)) (.If (.UnaryOp .Not (.Call (.Attribute (.Name "self" p') "r_RV" apos) [] [] pos) p) b [] q)=some (.next,ρ,ak J a l lb τ κ (aV pV p1 P2)):=by
 obtain⟨n,rfl⟩:=xle hN;exact Gg H hok h
theorem eu{N:Nat}(H:SL sc ρ){apos pos p q:Pos}(hok:ax (.Name "self" p) [] apos pos=true){P2:Int}{a:Nat}(h:a<w.length)(hl:w.length≤1000)(hN:44≤N:=by ext):(ev N).S sc ρ (ak w a w.length (0:Nat) a w.length (aV pV p1 P2)) (.Expr (.Call (.Attribute (.Name "self" p) "slice_del" apos) [] [] pos) q)=some (.next,ρ,lM (w.take a) a a pV p1 P2):=by
 obtain⟨n,rfl⟩:=xle hN;exact Ly H hok h hl
theorem cu{N:Nat}{p p2 pos:Pos}{Y:af}(hk:sc.names.lookup ("lab0":Str)=some .globalImplicit)(hN:2≤N:=by ext):(ev N).S sc ρ Y (.Raise (some (.Call (.Name "lab0" p) [] [] p2)) none pos)=some (.exc 900,ρ,Y):=by
 obtain⟨n,rfl⟩:=xle hN;exact AO hk
theorem xm{N:Nat}(hN:2≤N){p p2 pos:Pos}{Y:af}(hk:sc.names.lookup ("lab1":Str)=some .globalImplicit):(ev N).S sc ρ Y (.Raise (some (.Call (.Name "lab1" p) [] [] p2)) none pos)=some (.exc 913,ρ,Y):=by
 obtain⟨n,rfl⟩:=xle hN;exact yn hk
theorem fG{N:Nat}{p p2 pos:Pos}{Y:af}(hk:sc.names.lookup ("lab2":Str)=some .globalImplicit)(hN:2≤N:=by ext):(ev N).S sc ρ Y (.Raise (some (.Call (.Name "lab2" p) [] [] p2)) none pos)=some (.exc 926,ρ,Y):=by
 obtain⟨n,rfl⟩:=xle hN;exact yk hk
theorem wf{N:Nat}(hN:1≤N):(ev N).SS sc ρ Y []=some (Fl.next,ρ,Y):=by
 obtain⟨n,rfl⟩:=xle hN;exact er
variable {ρ':af}{st:Stmt}{rest:List Stmt}{M N:Nat}
theorem ab(e:N=M+1)(h:(ev M).S sc ρ Y st=some (.next,ρ',Y'))(k:(ev M).SS sc ρ' Y' rest=r):(ev N).SS sc ρ Y (st :: rest)=r:=by subst e;exact aa h k
theorem aA(e:N=M+1){v:V}(h:(ev M).S sc ρ Y st=some (.ret v,ρ',Y')):(ev N).SS sc ρ Y (st :: rest)=some (.ret v,ρ',Y'):=by subst e;exact bd h
theorem iX(e:N=M+1)(h:(ev M).S sc ρ Y st=some (.brk,ρ',Y')):(ev N).SS sc ρ Y (st :: rest)=some (.brk,ρ',Y'):=by subst e;exact bh h
theorem k9(e:N=M+1)(h:(ev M).S sc ρ Y st=some (.cont,ρ',Y')):(ev N).SS sc ρ Y (st :: rest)=some (.cont,ρ',Y'):=by subst e;exact CU h
theorem bF(e:N=M+1){k:Addr}(h:(ev M).S sc ρ Y st=some (.exc k,ρ',Y')):(ev N).SS sc ρ Y (st :: rest)=some (.exc k,ρ',Y'):=by subst e;exact aB h
theorem aP(e:N=M+1){x:Fl}(h:(ev M).S sc ρ Y st=some (x,ρ',Y'))(hM:1≤M:=by ext):(ev N).SS sc ρ Y [st]=some (x,ρ',Y'):=by
 induction x using Fl.casesOn with
 | next=>exact ab e h (wf hM)
 | _=>subst e;exact jP (fun q=>by cases q) h
theorem bB(e:N=M+1){t:Expr}{a b:List Stmt}{p:Pos}{c:Bool}(h:(ev M).T sc ρ Y t=some (c,Y'))(hc:c=true)(k:(ev M).SS sc ρ Y' a=r):(ev N).S sc ρ Y (.If t a b p)=r:=by subst e;exact bQ h hc k
theorem gz(e:N=M+1){t:Expr}{a b:List Stmt}{p:Pos}{c:Bool}(h:(ev M).T sc ρ Y t=some (c,Y'))(hc:c=false)(k:(ev M).SS sc ρ Y' b=r):(ev N).S sc ρ Y (.If t a b p)=r:=by subst e;exact bD h hc k
theorem bt(e:N=M+1){t:Expr}{a:List Stmt}{p:Pos}{c:Bool}(h:(ev M).T sc ρ Y t=some (c,Y'))(hc:c=false)(hM:1≤M:=by ext):(ev N).S sc ρ Y (.If t a [] p)=some (.next,ρ,Y'):=gz e h hc (wf hM)
theorem nM(e:N=M+1){t:Expr}{b:List Stmt}{p:Pos}(k:(ev M).W sc ρ Y t b=r):(ev N).S sc ρ Y (.While t b [] p)=r:=by subst e;exact dK k
theorem oD(e:N=M+1)(hM:2≤M){kk:Nat}{q:Pos}{x:Fl}(h:(ev M).SS sc ρ Y b=some (x,ρ',Y'))(k:qt x ((ev M).W sc ρ' Y' (.Constant (.bool true) kk q) b) ρ' Y'=r):(ev N).W sc ρ Y (.Constant (.bool true) kk q) b=r:=by
 subst e;obtain⟨n,rfl⟩:=xle hM;exact gN h k
theorem jh(e:N=M+2)(hM:2≤M){kk:Nat}{q p:Pos}{x:Fl}(h:(ev M).SS sc ρ Y b=some (x,ρ',Y'))(hx:x≠.next∧x≠.cont):(ev N).S sc ρ Y (.While (.Constant (.bool true) kk q) b [] p)=some ((match x with | .brk=>.next | x=>x),ρ',Y'):=by
 refine nM (by ext) (oD rfl hM h ?_);cases x<;>first | rfl | exact absurd rfl hx.1 | exact absurd rfl hx.2
theorem kA(e:N=M+1){id:Str}{p q u v:Pos}(h:(ev M).SS sc ρ Y b=some (.next,ρ',Y')):(ev N).S sc ρ Y (.Try b [.ExceptHandler (some (.Name id p)) none [.Pass q] u] [] [] v)=some (.next,ρ',Y'):=by subst e;exact GH h
theorem zE(e:N=M+1){id:Str}{p q u v:Pos}(h:(ev M).SS sc ρ Y b=some (.brk,ρ',Y')):(ev N).S sc ρ Y (.Try b [.ExceptHandler (some (.Name id p)) none [.Pass q] u] [] [] v)=some (.brk,ρ',Y'):=by subst e;exact KQ h
theorem qJ(e:N=M+1){id:Str}{p q u v:Pos}(h:(ev M).SS sc ρ Y b=some (.cont,ρ',Y')):(ev N).S sc ρ Y (.Try b [.ExceptHandler (some (.Name id p)) none [.Pass q] u] [] [] v)=some (.cont,ρ',Y'):=by subst e;exact bZ h rfl
theorem du(e:N=M+1){p q u v:Pos}(hk:sc.names.lookup ("lab0":Str)=some .globalImplicit)(h:(ev M).SS sc ρ Y b=some (.exc 900,ρ',Y')):(ev N).S sc ρ Y (.Try b [.ExceptHandler (some (.Name "lab0" p)) none [.Pass q] u] [] [] v)=some (.next,ρ',Y'):=by subst e;exact FG hk h
theorem C5(e:N=M+1){p q u v:Pos}(hk:sc.names.lookup ("lab1":Str)=some .globalImplicit)(h:(ev M).SS sc ρ Y b=some (.exc 913,ρ',Y')):(ev N).S sc ρ Y (.Try b [.ExceptHandler (some (.Name "lab1" p)) none [.Pass q] u] [] [] v)=some (.next,ρ',Y'):=by subst e;exact FS hk h
theorem Eb(e:N=M+1){p q u v:Pos}(hk:sc.names.lookup ("lab2":Str)=some .globalImplicit)(h:(ev M).SS sc ρ Y b=some (.exc 926,ρ',Y')):(ev N).S sc ρ Y (.Try b [.ExceptHandler (some (.Name "lab2" p)) none [.Pass q] u] [] [] v)=some (.next,ρ',Y'):=by subst e;exact HE hk h
theorem rA(e:N=M+4)(hM:1≤M)(H:SL sc ρ){name:Str}{apos pos p p' q:Pos}{f:Fn}(hok:ax (.Name "self" p') [] apos pos=true)(hm:bJ name=some f)(hl:look Y name=none)(hc:(ev M).C f [.self] Y=some (.bool true,Y')):(ev N).S sc ρ Y (.If (.UnaryOp .Not (.Call (.Attribute (.Name "self" p') name apos) [] [] pos) p) b [] q)=some (.next,ρ,Y'):=by
 subst e;obtain⟨n,rfl⟩:=xle hM;exact vi H hok hm hl hc
theorem nF(e:N=M+4)(e2:n=M+3)(hM:1≤M)(H:SL sc ρ){name:Str}{apos pos p p' q:Pos}{f:Fn}(hok:ax (.Name "self" p') [] apos pos=true)(hm:bJ name=some f)(hl:look Y name=none)(hc:(ev M).C f [.self] Y=some (.bool false,Y'))(k:(ev n).SS sc ρ Y' b=r):(ev N).S sc ρ Y (.If (.UnaryOp .Not (.Call (.Attribute (.Name "self" p') name apos) [] [] pos) p) b [] q)=r:=by
 subst e e2;obtain⟨n,rfl⟩:=xle hM;exact uE H hok hm hl hc k
theorem nK(e:N=M+1)(hM:10≤M)(H:SL sc ρ){apos pos p p' q:Pos}(hok:ax (.Name "self" p') [] apos pos=true){a:Int}(h:¬ p2≤a)(k:(ev M).SS sc ρ (ak J a l lb τ κ (aV pV p1 p2)) b=r):(ev N).S sc ρ (ak J a l lb τ κ (aV pV p1 p2)) (.If (.UnaryOp .Not (.Call (.Attribute (.Name "self" p') "r_R2" apos) [] [] pos) p) b [] q)=r:=by
 subst e;obtain⟨n,rfl⟩:=xle hM;exact HU H hok h k
theorem kl(e:N=M+1)(hM:10≤M)(H:SL sc ρ){apos pos p p' q:Pos}(hok:ax (.Name "self" p') [] apos pos=true){a:Int}(h:¬ pV≤a)(k:(ev M).SS sc ρ (ak J a l lb τ κ (aV pV p1 p2)) b=r):(ev N).S sc ρ (ak J a l lb τ κ (aV pV p1 p2)) (.If (.UnaryOp .Not (.Call (.Attribute (.Name "self" p') "r_RV" apos) [] [] pos) p) b [] q)=r:=by
 subst e;obtain⟨n,rfl⟩:=xle hM;exact HP H hok h k
theorem qU(e:N=M+2)(H:SL sc ρ){name:Str}{p apos pos q:Pos}{args:List Expr}{f:Fn}{vs:List V}{v:V}(hok:ax (.Name "self" p) args apos pos=true)(hm:bJ name=some f)(hl:look Y name=none)(ha:dl (ev M).E sc ρ Y args=some (vs,Y))(hc:(ev M).C f (.self :: vs) Y=some (v,Y'))(hM:1≤M:=by ext):(ev N).S sc ρ Y (.Expr (.Call (.Attribute (.Name "self" p) name apos) args [] pos) q)=some (.next,ρ,Y'):=by
 subst e;obtain⟨n,rfl⟩:=xle hM;exact Rr H hok hm hl ha hc
theorem tY(e:N=M+1)(H:SL sc ρ){name:Str}{p apos pos:Pos}{args:List Expr}{f:Fn}{vs:List V}{v:V}(hok:ax (.Name "self" p) args apos pos=true)(hm:bJ name=some f)(hl:look Y name=none)(ha:dl (ev M).E sc ρ Y args=some (vs,Y))(hc:(ev M).C f (.self :: vs) Y=some (v,Y'))(hM:1≤M:=by ext):(ev N).E sc ρ Y (.Call (.Attribute (.Name "self" p) name apos) args [] pos)=some (v,Y'):=by
 subst e;obtain⟨n,rfl⟩:=xle hM;exact RR H hok hm hl ha hc
theorem bz(eN:N=M+1){id:Str}{p pos:Pos}{e:Expr}{v:V}(hc:fA e=false)(hk:sc.names.lookup id=some .local)(he:(ev M).E sc ρ Y e=some (v,Y')):(ev N).S sc ρ Y (.Assign [.Name id p] e pos)=some (.next,put ρ id v,Y'):=by
 subst eN;exact dh hc hk he
theorem bn(e:N=M+2){a b:Expr}{op:CmpOp}{p:Pos}{x y:V}{r:Bool}(ha:(ev M).E sc ρ Y a=some (x,Y'))(hb:(ev M).E sc ρ Y' b=some (y,Y'))(hv:gO op x y=some r):(ev N).T sc ρ Y (.Compare a [op] [b] p)=some (r,Y'):=by
 subst e;exact y5 ha hb hv
theorem aN{kk:Nat}{p:Pos}{z:Int}(hN:1≤N:=by ext):(ev N).E sc ρ Y (.Constant (.int z) kk p)=some (.int z,Y):=by
 obtain⟨n,rfl⟩:=xle hN;rfl
theorem bl(e:N=M+2){a:Expr}{kk:Nat}{p p':Pos}{x z:Int}(ha:(ev M).E sc ρ Y a=some (.int x,Y'))(hM:1≤M:=by ext):(ev N).T sc ρ Y (.Compare a [.Eq] [.Constant (.int z) kk p] p')=some (decide (x=z),Y'):=
 bn e ha (aN (hN:=hM)) rfl
theorem cA(e:N=M+1){x:Expr}{p:Pos}{v:V}(h:(ev M).E sc ρ Y x=some (v,Y')):(ev N).S sc ρ Y (.Return (some x) p)=some (.ret v,ρ,Y'):=by subst e;exact zt h
theorem cr{kk:Nat}{p q:Pos}{z:Bool}(hN:2≤N:=by ext):(ev N).S sc ρ Y (.Return (some (.Constant (.bool z) kk q)) p)=some (.ret (.bool z),ρ,Y):=by
 obtain⟨n,rfl⟩:=xle hN;rfl
theorem gk{p:Pos}(hN:1≤N:=by ext):(ev N).S sc ρ Y (.Break p)=some (.brk,ρ,Y):=by
 obtain⟨n,rfl⟩:=xle hN;rfl
theorem jp{p:Pos}(hN:1≤N):(ev N).S sc ρ Y (.Continue p)=some (.cont,ρ,Y):=by
 obtain⟨n,rfl⟩:=xle hN;rfl
theorem bC(e:N=M+1){f:Fn}{vs:List V}{v:V}{body:List Stmt}(hl:(params f).length=vs.length)(hp:(params f).zip vs=ρ)(hb:br f.st=body)(h:(ev M).SS (aJ f.st) ρ Y body=some (.ret v,ρ',Y')):(ev N).C f vs Y=some (v,Y'):=by
 subst e;exact gm hl hp hb h
theorem wM{s:List Nat}{a k:Nat}(hN:38≤N)(hk:k≤a)(h:a<J.length)(hs:J.length≤1000)(hs2:s.length≤100):(ev N).C bV [.self,.str s] (ak J k J.length (0:Nat) a J.length (aV pV p1 p2))=some (.none,ak (J.take a++s) k (J.take a++s).length (0:Nat) a (J.take a++s).length (aV pV p1 p2)):=by
 obtain⟨n,rfl⟩:=xle hN;exact y3 hk h hs hs2
theorem veqb{u:List Nat}{k:Nat}(hN:20≤N)(hk:k≤J.length):(ev N).C fS [.self,.str u] (ak J k l (0:Nat) τ κ (aV pV p1 p2))=some (.bool (cK u (J.take k)),ak J (bif cK u (J.take k) then (k:Int)-u.length else k) l (0:Nat) τ κ (aV pV p1 p2)):=by
 obtain⟨n,rfl⟩:=xle hN;exact De hk
end
end
structure L8(sc:Scope):Prop where
 cls:sc.names.lookup ("PortugueseStemmer":Str)=some .globalImplicit
 lab0:sc.names.lookup ("lab0":Str)=some .globalImplicit
section
variable {N:Nat}{sc:Scope}{ρ:af}{w:List Nat}{τ κ pV p1:Int}{p2:Nat}{a k:Nat}
theorem rT{J:List Nat}{c l lb τ κ x y z:Int}:look (ak J c l lb τ κ (aV x y z)) "find_among_b"=none:=by rfl'
theorem rt{J:List Nat}{c l lb τ κ x y z:Int}:look (ak J c l lb τ κ (aV x y z)) "eq_s_b"=none:=by rfl'
theorem yJ{J:List Nat}{c l lb τ κ x y z:Int}:look (ak J c l lb τ κ (aV x y z)) "slice_from"=none:=by rfl'
theorem Db{J:List Nat}{c l lb τ κ x y z:Int}:look (ak J c l lb τ κ (aV x y z)) "slice_del"=none:=by rfl'
theorem BJ(S:L8 sc)(H:SL sc ρ)(hN:312≤N)(hT:jB (Tk a k)=true)(hk:k≤120)(hl:w.length≤1000){P2:Int}{attr:Str}(ha:bK attr=some (amgs a k)){p apos pos q q2:Pos}(hok:ax (.Name "self" p) [.Attribute (.Name "PortugueseStemmer" q) attr q2] apos pos=true):
  (ev N).E sc ρ (lM w τ κ pV p1 P2) (.Call (.Attribute (.Name "self" p) "find_among_b" apos) [.Attribute (.Name "PortugueseStemmer" q) attr q2] [] pos)=some (.int (kindOf (Tk a k) (ah (ends a k) w)),ak w ((cut w (ah (ends a k) w)).length:Nat) w.length (0:Nat) τ κ (aV pV p1 P2)):=by
 obtain⟨M,rfl⟩:∃ M,N=M+1:=⟨N-1,by ext⟩;exact tY rfl H hok (by rfl') rT (ei (jC rfl S.cls ha)) (wg hT hl (show 3≤50 by decide) (by ext) hk)
theorem y0(S:L8 sc)(H:SL sc ρ)(hN:320≤N)(hT:jB (Tk a k)=true)(nz:(Tk a k).all (fun x=>decide (x.r≠0))=true)(hk:k≤120)(hl:w.length≤1000){attr id:Str}(ha:bK attr=some (amgs a k))(hv:VL sc ρ id (.int (0:Nat)))
  {a1 a2 a3 a4 a5 b1 b2 b3 b4 b5 b6 b7 b8 c1 c2 c3 c4 c5 c6 c7 c8 c9 d1 d2 d3 d4 d5 e1 e2 e3 e4 f1 f2 f3 f4 f5 f6 f7 f8 f9 g1 g2 g3 g4 h1 h2 h3 h4 h5 h6 h7:Pos} {kk:Nat}
  {st:Stmt} (est:st=.Try [
   .Assign [.Attribute (.Name "self" a1) "ket" a2] (.Attribute (.Name "self" a3) "cursor" a4) a5,
   .If (.Compare (.Call (.Attribute (.Name "self" b1) "find_among_b" b2) [.Attribute (.Name "PortugueseStemmer" b3) attr b4] [] b5) [.Eq] [.Constant (.int 0) kk b6] b7)
    [.Assign [.Attribute (.Name "self" c1) "cursor" c2] (.BinOp (.Attribute (.Name "self" c3) "limit" c4) .Sub (.Name id c5) c6) c7,.Raise (some (.Call (.Name "lab0" c8) [] [] c9)) none d5] [] b8,
   .Assign [.Attribute (.Name "self" d1) "bra" d2] (.Attribute (.Name "self" d3) "cursor" d4) h4,
   .If (.UnaryOp .Not (.Call (.Attribute (.Name "self" e1) "r_R2" e2) [] [] e3) e4)
    [.Assign [.Attribute (.Name "self" f1) "cursor" f2] (.BinOp (.Attribute (.Name "self" f3) "limit" f4) .Sub (.Name id f5) f6) f7,.Raise (some (.Call (.Name "lab0" f8) [] [] f9)) none g4] [] h3,
   .Expr (.Call (.Attribute (.Name "self" g1) "slice_del" g2) [] [] g3) h2] [.ExceptHandler (some (.Name "lab0" h1)) none [.Pass h5] h6] [] [] h7)
  (hok1:ax (.Name "self" b1) [.Attribute (.Name "PortugueseStemmer" b3) attr b4] b2 b5=true) (hok2:ax (.Name "self" e1) [] e2 e3=true) (hok3:ax (.Name "self" g1) [] g2 g3=true):
  ∃ c' b' k',(ev N).S sc ρ (lM w τ κ pV p1 p2) st=some (.next,ρ,ak (aT w (ends a k) p2) c' (aT w (ends a k) p2).length (0:Nat) b' k' (aV pV p1 p2)):=by
 subst est;obtain⟨M,rfl⟩:∃ M,N=M+30:=⟨N-30,by ext⟩;have t3:(aV pV p1 (p2:Int)).length≤50:=show 3≤50 by decide
 have F:=fun (m:Nat) (hm:312≤m)=>BJ (N:=m) (τ:=τ) (κ:=w.length) (pV:=pV) (p1:=p1) (P2:=(p2:Int)) S H hm hT hk hl ha hok1
 by_cases he:ah (ends a k) w=[]
 ·rw[jT he];rw[he,fI hT,gi] at F;refine⟨(w.length:Int)-(0:Nat),τ,w.length,du rfl S.lab0 ?_⟩;refine ab rfl (bI H t3) ?_;refine bF rfl (bB rfl (bl rfl (F _ (by ext))) rfl ?_);exact ab rfl (gq H t3 hv) (bF rfl (cu S.lab0))
 ·have kz:kindOf (Tk a k) (ah (ends a k) w)≠0:=by
   have:=iC (P:=fun r=>decide (r≠0)) nz rfl he;exact of_decide_eq_true this
  have hp:=hZ he;have hle:=cX (es:=ends a k) (t:=w);have hcl:=dP (w:=w) (e:=ah (ends a k) w);have hct:cut w (ah (ends a k) w)=w.take (w.length-(ah (ends a k) w).length):=rfl;have hless:aT w (ends a k) p2=if p2≤(cut w (ah (ends a k) w)).length then cut w (ah (ends a k) w) else w:=rfl
  rw[hct] at hless;rw[hcl] at F;rw[show (w.take (w.length-(ah (ends a k) w).length)).length=w.length-(ah (ends a k) w).length by rw[←hct,hcl]] at hless;generalize kindOf (Tk a k) (ah (ends a k) w)=kd at*;have ha:w.length-(ah (ends a k) w).length<w.length:=by ext
  generalize w.length-(ah (ends a k) w).length=A at*;by_cases hp2:p2≤A
  ·rw[if_pos hp2] at hless;rw[hless];refine⟨((w.take A).length:Nat),A,A,kA rfl ?_⟩;refine ab rfl (bI H t3) ?_;refine ab rfl (bt rfl (bl rfl (F _ (by ext))) (decide_eq_false kz)) ?_;refine ab rfl (bX H t3) ?_;refine ab rfl (iv H hok2 (by ext)) ?_;exact ab rfl (eu H hok3 ha hl) (wf (by ext))
  ·rw[if_neg hp2] at hless;rw[hless];refine⟨(w.length:Int)-(0:Nat),A,w.length,du rfl S.lab0 ?_⟩;refine ab rfl (bI H t3) ?_;refine ab rfl (bt rfl (bl rfl (F _ (by ext))) (decide_eq_false kz)) ?_;refine ab rfl (bX H t3) ?_;refine bF rfl (nK rfl (by ext) H hok2 (by ext) ?_);exact ab rfl (gq H t3 hv) (bF rfl (cu S.lab0))
end
section
set_option tactic.hygienic false
noncomputable def ua:List (List Nat):=[[97,116]]
theorem yL(w:List Nat):ah ua w=bif cK [97,116] w then [97,116] else []:=by
 show (bif Nat.blt ([]:List Nat).length [97,116].length&&cK [97,116] w then [97,116] else [])=_;rw[show Nat.blt ([]:List Nat).length [97,116].length=true from rfl,Bool.true_and]
theorem zm{es:List (List Nat)}{w:List Nat}(h:ah es w≠[]):ah es w∈es:=by
 rcases (eb es w).mem with q | q
 ·exact absurd q h
 ·exact q
inductive nJ(id:Str):List Stmt→Prop
 | mk {a1 a2 a3 a4 a5 b1 b2 b4 b5 b7 b8 c1 c2 c3 c4 c5 c6 c7 c8 c9 d1 d2 d3 d4 d5 e1 e2 e3 e4 f1 f2 f3 f4 f5 f6 f7 f8 f9 g1 g2 g3 g4 h2 h3 h4:Pos} {kk:Nat} (o1:ax (.Name "self" b1) [.Constant (.str "at") kk b4] b2 b5=true) (o2:ax (.Name "self" e1) [] e2 e3=true) (o3:ax (.Name "self" g1) [] g2 g3=true):nJ id [
   .Assign [.Attribute (.Name "self" a1) "ket" a2] (.Attribute (.Name "self" a3) "cursor" a4) a5,
   .If (.UnaryOp .Not (.Call (.Attribute (.Name "self" b1) "eq_s_b" b2) [.Constant (.str "at") kk b4] [] b5) b7)
    [.Assign [.Attribute (.Name "self" c1) "cursor" c2] (.BinOp (.Attribute (.Name "self" c3) "limit" c4) .Sub (.Name id c5) c6) c7,.Raise (some (.Call (.Name "lab0" c8) [] [] c9)) none d5] [] b8,
   .Assign [.Attribute (.Name "self" d1) "bra" d2] (.Attribute (.Name "self" d3) "cursor" d4) h4,
   .If (.UnaryOp .Not (.Call (.Attribute (.Name "self" e1) "r_R2" e2) [] [] e3) e4)
    [.Assign [.Attribute (.Name "self" f1) "cursor" f2] (.BinOp (.Attribute (.Name "self" f3) "limit" f4) .Sub (.Name id f5) f6) f7,.Raise (some (.Call (.Name "lab0" f8) [] [] f9)) none g4] [] h3,
   .Expr (.Call (.Attribute (.Name "self" g1) "slice_del" g2) [] [] g3) h2]
section
variable {N M:Nat}{sc:Scope}{ρ Y Y':af}{w:List Nat}{τ κ pV p1:Int}{p2:Nat}{b:List Stmt}{r:Option (Fl×af×af)}
theorem vH(e:N=M+4)(hM:1≤M)(H:SL sc ρ){name:Str}{apos pos p q p':Pos}{args:List Expr}{f:Fn}{vs:List V}(hok:ax (.Name "self" p') args apos pos=true)(hm:bJ name=some f)(hl:look Y name=none)(ha:dl (ev M).E sc ρ Y args=some (vs,Y))(hc:(ev M).C f (.self :: vs) Y=some (.bool true,Y')):(ev N).S sc ρ Y (.If (.UnaryOp .Not (.Call (.Attribute (.Name "self" p') name apos) args [] pos) p) b [] q)=some (.next,ρ,Y'):=by
 subst e;exact aS (nw hM H) hok hm hl ha hc
theorem Dl{K:Nat}(e:N=M+4)(e2:K=M+3)(hM:1≤M)(H:SL sc ρ){name:Str}{apos pos p q p':Pos}{args:List Expr}{f:Fn}{vs:List V}(hok:ax (.Name "self" p') args apos pos=true)(hm:bJ name=some f)(hl:look Y name=none)(ha:dl (ev M).E sc ρ Y args=some (vs,Y))(hc:(ev M).C f (.self :: vs) Y=some (.bool false,Y'))(k:(ev K).SS sc ρ Y' b=r):(ev N).S sc ρ Y (.If (.UnaryOp .Not (.Call (.Attribute (.Name "self" p') name apos) args [] pos) p) b [] q)=r:=by
 subst e e2;exact be (nw hM H) hok hm hl ha hc k
theorem A4{kk:Nat}{p:Pos}(hN:1≤N):(ev N).E sc ρ Y (.Constant (.str "at") kk p)=some (.str [97,116],Y):=by
 obtain⟨n,rfl⟩:=xle hN;rfl'
theorem Oy(S:L8 sc)(H:SL sc ρ)(hN:70≤N)(hl:w.length≤1000){id:Str}(hv:VL sc ρ id (.int (0:Nat))){l:List Stmt}(sh:nJ id l):
  ∃ x c' b' k',(x=.next∨x=.exc 900)∧(ev N).SS sc ρ (lM w τ κ pV p1 p2) l=some (x,ρ,ak (aT w ua p2) c' (aT w ua p2).length (0:Nat) b' k' (aV pV p1 p2)):=by
 cases sh with
 | mk hok1 hok2 hok3=>
  obtain⟨M,rfl⟩:∃ M,N=M+20:=⟨N-20,by ext⟩;have t3:(aV pV p1 (p2:Int)).length≤50:=show 3≤50 by decide
  have F:=fun (m:Nat) (hm:20≤m)=>veqb (N:=m) (J:=w) (u:=[97,116]) (k:=w.length) (l:=w.length) (τ:=τ) (κ:=w.length) (pV:=pV) (p1:=p1) (p2:=(p2:Int)) hm (le_refl _)
  rw[List.take_length] at F;have hend:=yL w;cases he:cK [97,116] w with
  | false=>
   rw[he] at F hend;rw[jT hend];refine⟨.exc 900,(w.length:Int)-(0:Nat),τ,w.length,.inr rfl,?_⟩;refine ab rfl (bI H t3) ?_;refine bF rfl (Dl rfl rfl (by ext) H hok1 (by rfl') rt (ei (A4 (by ext))) (F _ (by ext)) ?_);exact ab rfl (gq H t3 hv) (bF rfl (cu S.lab0))
  | true=>
   rw[he] at F hend;have hsuf:=((lW _ _).mp he).length_le;have h2:[97,116].length=2:=rfl;rw[h2] at hsuf;have hless:aT w ua p2=if p2≤w.length-2 then w.take (w.length-2) else w:=by
    unfold aT;rw[hend];show (if p2≤(cut w [97,116]).length then cut w [97,116] else w)=_;rw[dP];rfl
   have F:∀ m,20≤m→(ev m).C fS [.self,.str [97,116]] (ak w w.length w.length (0:Nat) τ w.length (aV pV p1 p2))=some (.bool true,ak w ((w.length-2:Nat):Int) w.length (0:Nat) τ w.length (aV pV p1 p2)):=fun m hm=>by
    rw[F m hm];show some (V.bool true,ak w ((w.length:Int)-(2:Nat)) w.length (0:Nat) τ w.length (aV pV p1 p2))=_;rw[show (w.length:Int)-(2:Nat)=((w.length-2:Nat):Int) by ext]
   have ha:w.length-2<w.length:=by ext
   generalize w.length-2=A at*;rw[hless];by_cases hp2:p2≤A
   ·rw[if_pos hp2];refine⟨.next,((w.take A).length:Nat),A,A,.inl rfl,?_⟩;refine ab rfl (bI H t3) ?_;refine ab rfl (vH rfl (by ext) H hok1 (by rfl') rt (ei (A4 (by ext))) (F _ (by ext))) ?_;refine ab rfl (bX H t3) ?_;refine ab rfl (iv H hok2 (by ext)) ?_;exact ab rfl (eu H hok3 ha hl) (wf (by ext))
   ·rw[if_neg hp2];refine⟨.exc 900,(w.length:Int)-(0:Nat),A,w.length,.inr rfl,?_⟩;refine ab rfl (bI H t3) ?_;refine ab rfl (vH rfl (by ext) H hok1 (by rfl') rt (ei (A4 (by ext))) (F _ (by ext))) ?_;refine ab rfl (bX H t3) ?_;refine bF rfl (nK rfl (by ext) H hok2 (by ext) ?_);exact ab rfl (gq H t3 hv) (bF rfl (cu S.lab0))
end
abbrev iQ:Scope:=aJ aw.st
noncomputable def eC(id:Str)(k:Int):af:=[((("self":Str),V.self):Str×V),((("among_var":Str),V.int k):Str×V),((id,V.int (0:Nat)):Str×V)]
noncomputable def ρ2(k:Int):af:=[((("self":Str),V.self):Str×V),((("among_var":Str),V.int k):Str×V)]
theorem fB:iQ.names.lookup ("among_var":Str)=some .local:=by rfl'
theorem eU:L8 iQ:=⟨by rfl',by rfl'⟩
theorem sl2(k:Int):SL iQ (ρ2 k):=⟨(by rfl'),by rfl'⟩
theorem Pj(k:Int):VL iQ (ρ2 k) "among_var" (.int k):=⟨by decide+kernel,by decide+kernel,fB,by rfl'⟩
theorem fO(k:Int):SL iQ (eC "v_1" k):=⟨(by rfl'),by rfl'⟩
theorem tZ(k:Int):VL iQ (eC "v_1" k) "among_var" (.int k):=⟨by decide+kernel,by decide+kernel,fB,by rfl'⟩
theorem QW(k:Int):VL iQ (eC "v_1" k) "v_1" (.int (0:Nat)):=(ba (by rfl'))
theorem P4(k:Int):SL iQ (eC "v_2" k):=⟨(by rfl'),by rfl'⟩
theorem TB(k:Int):VL iQ (eC "v_2" k) "v_2" (.int (0:Nat)):=(ba (by rfl'))
theorem Qj(k:Int):SL iQ (eC "v_3" k):=⟨(by rfl'),by rfl'⟩
theorem Te(k:Int):VL iQ (eC "v_3" k) "v_3" (.int (0:Nat)):=(ba (by rfl'))
theorem Qc(k:Int):SL iQ (eC "v_4" k):=⟨(by rfl'),by rfl'⟩
theorem Un(k:Int):VL iQ (eC "v_4" k) "v_4" (.int (0:Nat)):=(ba (by rfl'))
theorem sL(k k':Int):put (eC "v_1" k) "among_var" (.int k')=eC "v_1" k':=by rfl'
theorem put2(k:Int):put (ρ2 k) "v_1" (.int (0:Nat))=eC "v_1" k:=by rfl'
theorem Kk(k:Int):put (ρ2 k) "v_2" (.int (0:Nat))=eC "v_2" k:=by rfl'
theorem Mj(k:Int):put (ρ2 k) "v_3" (.int (0:Nat))=eC "v_3" k:=by rfl'
theorem JL(k:Int):put (ρ2 k) "v_4" (.int (0:Nat))=eC "v_4" k:=by rfl'
inductive wh:Stmt→Prop
 | mk {a1 a2 a3 a4 a5 b0 b1 b2 b3 b4 b5 b6 b7 b8 b9 c1 c2 c3 c4 c5 c6 c7 c8 c9 d1 d2 d3 d4 d5 e1 e2 e3 e4 f1 f2 f3 f4 f5 f6 f7 f8 f9 g1 g2 g3 g4 h2 h3 h4 i1 i2 i3 i4 i5 i6 i7 i8 i9:Pos} {kk k1:Nat} {l:List Stmt} (sl:nJ "v_1" l) (o1:ax (.Name "self" b1) [.Attribute (.Name "PortugueseStemmer" b3) "a_2" b4] b2 b5=true) (o2:ax (.Name "self" e1) [] e2 e3=true) (o3:ax (.Name "self" g1) [] g2 g3=true):wh (.Try [
   .Assign [.Attribute (.Name "self" a1) "ket" a2] (.Attribute (.Name "self" a3) "cursor" a4) a5,
   .Assign [.Name "among_var" b0] (.Call (.Attribute (.Name "self" b1) "find_among_b" b2) [.Attribute (.Name "PortugueseStemmer" b3) "a_2" b4] [] b5) b9,
   .If (.Compare (.Name "among_var" b6) [.Eq] [.Constant (.int 0) kk b7] b8)
    [.Assign [.Attribute (.Name "self" c1) "cursor" c2] (.BinOp (.Attribute (.Name "self" c3) "limit" c4) .Sub (.Name "v_1" c5) c6) c7,.Raise (some (.Call (.Name "lab0" c8) [] [] c9)) none d5] [] i1,
   .Assign [.Attribute (.Name "self" d1) "bra" d2] (.Attribute (.Name "self" d3) "cursor" d4) h4,
   .If (.UnaryOp .Not (.Call (.Attribute (.Name "self" e1) "r_R2" e2) [] [] e3) e4)
    [.Assign [.Attribute (.Name "self" f1) "cursor" f2] (.BinOp (.Attribute (.Name "self" f3) "limit" f4) .Sub (.Name "v_1" f5) f6) f7,.Raise (some (.Call (.Name "lab0" f8) [] [] f9)) none g4] [] h3,
   .Expr (.Call (.Attribute (.Name "self" g1) "slice_del" g2) [] [] g3) h2,
   .If (.Compare (.Name "among_var" i2) [.Eq] [.Constant (.int 1) k1 i3] i4) l [] i5] [.ExceptHandler (some (.Name "lab0" i6)) none [.Pass i7] i8] [] [] i9)
def yQ(w:List Nat)(two:Nat):List Nat:=if ah (ends 6 4) w=[105,118]∧aT w (ends 6 4) two≠w then aT (aT w (ends 6 4) two) ua two else aT w (ends 6 4) two
theorem TM:(Tk 6 4).all (fun x=>decide (x.r≠0))=true:=by rfl'
theorem TD:(Tk 6 4).all (fun x=>decide (x.r=1)==decide (x.s=[105,118]))=true:=by rfl'
theorem TR:bK "a_2"=some (amgs 6 4):=by rfl'
theorem Er{w:List Nat}(h:ah (ends 6 4) w≠[]):kindOf (Tk 6 4) (ah (ends 6 4) w)=1↔ah (ends 6 4) w=[105,118]:=by
 refine Exists.elim (sy (T:=Tk 6 4) (zm h)) fun x zz=>ee zz fun hx e1 e2=>?_
 have:=List.all_eq_true.mp TD x hx;rw[beq_iff_eq,decide_eq_decide] at this;show kindOf (Tk 6 4) (ah ((Tk 6 4).map aC.s) w)=1↔ah ((Tk 6 4).map aC.s) w=_;rw[e2,←e1];exact this
section
variable {N M:Nat}{w:List Nat}{τ κ pV p1:Int}{p2:Nat}
theorem PH(hN:330≤N)(hl:w.length≤1000){kd0:Int}{st:Stmt}(sh:wh st):
  ∃ kd c' b' k',(ev N).S iQ (eC "v_1" kd0) (lM w τ κ pV p1 p2) st=some (.next,eC "v_1" kd,ak (yQ w p2) c' (yQ w p2).length (0:Nat) b' k' (aV pV p1 p2)):=by
 cases sh with
 | mk shl hok1 hok2 hok3=>
  obtain⟨M,rfl⟩:∃ M,N=M+30:=⟨N-30,by ext⟩;have t3:(aV pV p1 (p2:Int)).length≤50:=show 3≤50 by decide
  have F:=fun (m:Nat) (hm:312≤m)=>BJ (N:=m) (τ:=τ) (κ:=w.length) (pV:=pV) (p1:=p1) (P2:=(p2:Int)) eU (fO kd0) hm MV (show 4≤120 by decide) hl TR hok1
  by_cases he:ah (ends 6 4) w=[]
  ·have:yQ w p2=w:=by
    unfold yQ;rw[if_neg (by rw[he];exact fun h=>by cases h.1),jT he]
   rw[this];rw[he,fI MV,gi] at F;refine⟨0,(w.length:Int)-(0:Nat),τ,w.length,du rfl eU.lab0 ?_⟩;refine ab rfl (bI (fO _) t3) ?_;refine ab rfl (bz rfl rfl fB (F _ (by ext))) ?_;rw[sL];refine bF rfl (bB rfl (bl rfl (au (tZ _))) rfl ?_);exact ab rfl (gq (fO _) t3 (QW _)) (bF rfl (cu eU.lab0))
  ·have kz:kindOf (Tk 6 4) (ah (ends 6 4) w)≠0:=by
    have:=iC (P:=fun r=>decide (r≠0)) TM rfl he;exact of_decide_eq_true this
   have kiv:=Er he;have hp:=hZ he;have hle:=cX (es:=ends 6 4) (t:=w);have hcl:=dP (w:=w) (e:=ah (ends 6 4) w);have hct:cut w (ah (ends 6 4) w)=w.take (w.length-(ah (ends 6 4) w).length):=rfl;have hless:aT w (ends 6 4) p2=if p2≤(cut w (ah (ends 6 4) w)).length then cut w (ah (ends 6 4) w) else w:=rfl
   have hiv:yQ w p2=if ah (ends 6 4) w=[105,118]∧aT w (ends 6 4) p2≠w then aT (aT w (ends 6 4) p2) ua p2 else aT w (ends 6 4) p2:=rfl
   rw[hct] at hless;rw[hcl] at F;rw[show (w.take (w.length-(ah (ends 6 4) w).length)).length=w.length-(ah (ends 6 4) w).length by rw[←hct,hcl]] at hless;generalize kindOf (Tk 6 4) (ah (ends 6 4) w)=kd at*;have ha:w.length-(ah (ends 6 4) w).length<w.length:=by ext
   generalize w.length-(ah (ends 6 4) w).length=A at*;by_cases hp2:p2≤A
   ·rw[if_pos hp2] at hless;rw[hless] at hiv;have hlt:(w.take A).length≤1000:=by rw[length_take];ext
    have hnw:w.take A≠w:=fun h=>by
     have:=congrArg List.length h;rw[length_take] at this;ext
    by_cases hk:kd=1
    ·rw[if_pos ⟨kiv.mp hk,hnw⟩] at hiv;rw[hiv];refine jI (Oy (N:=M+21) (w:=w.take A) (τ:=A) (κ:=A) (pV:=pV) (p1:=p1) (p2:=p2) eU (fO kd) (by ext) hlt (QW kd) shl) fun x c' b' k' zz=>And.elim (fun hx hb=>?_) zz
     refine⟨kd,c',b',k',?_⟩;rcases hx with rfl | rfl
     ·refine kA rfl ?_;refine ab rfl (bI (fO _) t3) ?_;refine ab rfl (bz rfl rfl fB (F _ (by ext))) ?_;rw[sL];refine ab rfl (bt rfl (bl rfl (au (tZ _))) (decide_eq_false kz)) ?_;refine ab rfl (bX (fO _) t3) ?_;refine ab rfl (iv (fO _) hok2 (by ext)) ?_;refine ab rfl (eu (fO _) hok3 ha hl) ?_;exact aP rfl (bB rfl (bl rfl (au (tZ _))) (decide_eq_true hk) hb)
     ·refine du rfl eU.lab0 ?_;refine ab rfl (bI (fO _) t3) ?_;refine ab rfl (bz rfl rfl fB (F _ (by ext))) ?_;rw[sL];refine ab rfl (bt rfl (bl rfl (au (tZ _))) (decide_eq_false kz)) ?_;refine ab rfl (bX (fO _) t3) ?_;refine ab rfl (iv (fO _) hok2 (by ext)) ?_;refine ab rfl (eu (fO _) hok3 ha hl) ?_;exact aP rfl (bB rfl (bl rfl (au (tZ _))) (decide_eq_true hk) hb)
    ·rw[if_neg (fun h=>hk (kiv.mpr h.1))] at hiv;rw[hiv];refine⟨kd,((w.take A).length:Nat),A,A,kA rfl ?_⟩;refine ab rfl (bI (fO _) t3) ?_;refine ab rfl (bz rfl rfl fB (F _ (by ext))) ?_;rw[sL];refine ab rfl (bt rfl (bl rfl (au (tZ _))) (decide_eq_false kz)) ?_;refine ab rfl (bX (fO _) t3) ?_;refine ab rfl (iv (fO _) hok2 (by ext)) ?_;refine ab rfl (eu (fO _) hok3 ha hl) ?_;exact aP rfl (bt rfl (bl rfl (au (tZ _))) (decide_eq_false hk))
   ·rw[if_neg hp2] at hless;rw[hless,if_neg (fun h=>h.2 rfl)] at hiv;rw[hiv];refine⟨kd,(w.length:Int)-(0:Nat),A,w.length,du rfl eU.lab0 ?_⟩;refine ab rfl (bI (fO _) t3) ?_;refine ab rfl (bz rfl rfl fB (F _ (by ext))) ?_;rw[sL];refine ab rfl (bt rfl (bl rfl (au (tZ _))) (decide_eq_false kz)) ?_;refine ab rfl (bX (fO _) t3) ?_;refine bF rfl (nK rfl (by ext) (fO _) hok2 (by ext) ?_);exact ab rfl (gq (fO _) t3 (QW _)) (bF rfl (cu eU.lab0))
end
section
variable {N M:Nat}{sc:Scope}{ρ Y Y' ρ':af}{J w:List Nat}{l τ κ pV p1 p2:Int}{tl:af}{b:List Stmt}{st st':Stmt}{r:Option (Fl×af×af)}
theorem aq(h:(ev N).S sc ρ Y st'=r)(e:st=st'):(ev N).S sc ρ Y st=r:=by rw[e];exact h
theorem iW{l l':List Stmt}(h:(ev N).SS sc ρ Y l'=r)(e:l=l'):(ev N).SS sc ρ Y l=r:=by rw[e];exact h
theorem Fm{a b:Expr}{p:Pos}{x y:Bool}(e:N=M+1)(ha:(ev M).T sc ρ Y a=some (x,Y))(hb:x=false→(ev M).T sc ρ Y b=some (y,Y)):(ev N).T sc ρ Y (.BoolOp .Or [a,b] p)=some (x||y,Y):=by
 subst e;show (match (ev M).T sc ρ Y a with
     | some (true,Y)=>some (true,Y)
     | some (false,Y)=>(ev M).T sc ρ Y b
     | none=>none)=_
 rw[ha]
 induction x using zB with
 | true=>rfl
 | false=>exact hb rfl
theorem Dk(e:N=M+1)(hM:1≤M){a:Expr}{kk:Nat}{p q:Pos}{x z:Int}(ha:(ev M).E sc ρ Y a=some (.int x,Y)):(ev N).E sc ρ Y (.BinOp a .Sub (.Constant (.int z) kk q) p)=some (.int (x-z),Y):=by
 subst e;exact mw ha (aN (hN:=hM))
theorem DP(e:N=M+1){a i:Expr}{p:Pos}{t:List Nat}{k:Int}{v:V}(hi:∀ l u q,i≠.Slice l u none q)(ha:(ev M).E sc ρ Y a=some (.str t,Y))(hb:dU a (.str t)=true)(he:(ev M).E sc ρ Y i=some (.int k,Y))(hv:dn (.str t) (.int k)=some v):(ev N).E sc ρ Y (.Subscript a i p)=some (v,Y):=by
 subst e;exact dD hi ha hb he hv
theorem dH{s:Str}{l:List Nat}(hs:ce (.str s)=some (.str l)){kk:Nat}{p:Pos}(hN:1≤N:=by ext):(ev N).E sc ρ Y (.Constant (.str s) kk p)=some (.str l,Y):=by
 obtain⟨n,rfl⟩:=xle hN;show (ce (.str s)).map _=_;rw[hs];rfl
noncomputable def mR(J:List Nat)(c lb x:Nat):Bool:=decide (lb<c)&&(J[c-1]?==some x)
theorem dJ{c lb x:Nat}{s:Str}(H:SL sc ρ)(hs:ce (.str s)=some (.str [x]))(hc:c≤J.length){a1 a2 a3 a4 a5 b0 b1 b2 b3 b4 b5 b6 b7 b8 b9:Pos}{k1 k2:Nat}(hN:10≤N:=by ext):
  (ev N).T sc ρ (ak J c l lb τ κ tl) (.BoolOp .Or [.Compare (.Attribute (.Name "self" a1) "cursor" a2) [.LtE] [.Attribute (.Name "self" a3) "limit_backward" a4] a5,
   .Compare (.Subscript (.Attribute (.Name "self" b1) "current" b2) (.BinOp (.Attribute (.Name "self" b3) "cursor" b4) .Sub (.Constant (.int 1) k1 b5) b6) b7) [.NotEq] [.Constant (.str s) k2 b8] b9] b0)=some (!mR J c lb x,ak J c l lb τ κ tl):=by
 obtain⟨M,rfl⟩:∃ M,N=M+1:=⟨N-1,by ext⟩;have h1:(ev M).T sc ρ (ak J c l lb τ κ tl) (.Compare (.Attribute (.Name "self" a1) "cursor" a2) [.LtE] [.Attribute (.Name "self" a3) "limit_backward" a4] a5)=some (decide ((c:Int)≤lb),ak J c l lb τ κ tl):=by
  obtain⟨K,rfl⟩:∃ K,M=K+2:=⟨M-2,by ext⟩;exact bn rfl (fw H bT cR) (fw H xo Gx) rfl
 have h2:decide ((c:Int)≤lb)=false→(ev M).T sc ρ (ak J c l lb τ κ tl) (.Compare (.Subscript (.Attribute (.Name "self" b1) "current" b2) (.BinOp (.Attribute (.Name "self" b3) "cursor" b4) .Sub (.Constant (.int 1) k1 b5) b6) b7) [.NotEq] [.Constant (.str s) k2 b8] b9)=some (!(J[c-1]?==some x),ak J c l lb τ κ tl):=fun q=>by
  have q:=of_decide_eq_false q;obtain⟨K,rfl⟩:∃ K,M=K+4:=⟨M-4,by ext⟩;obtain⟨y,hy⟩:=dc (l:=J) (k:=c-1) (by ext);refine bn rfl (x:=.str [y]) (y:=.str [x]) (DP rfl (fun _ _ _ q=>by cases q) (fw H (by rfl') (by rfl')) rfl (Dk rfl (by ext) (fw H bT cR)) (pq (by ext) hy)) (dH hs) ?_;show some (!([y]==[x]))=_;rw[hy]
  congr 2
  rw[Bool.eq_iff_iff,beq_iff_eq,beq_iff_eq];simp
 have:=Fm (p:=b0) rfl h1 h2;rw[this]
 congr 2
 unfold mR;rw[Bool.not_and]
 congr 1
 by_cases q:lb<c
 ·rw[decide_eq_true q,ZF];rfl
 ·rw[decide_eq_false q,ZT];rfl
theorem yw(H:SL sc ρ)(ht:tl.length≤50){c:Int}{kk:Nat}{p q p2 pos:Pos}(hN:3≤N):(ev N).S sc ρ (ak J c l p1 τ κ tl) (.AugAssign (.Attribute (.Name "self" p) "cursor" q) .Sub (.Constant (.int 1) kk p2) pos)=some (.next,ρ,ak J (c-1) l p1 τ κ tl):=by
 obtain⟨M,rfl⟩:∃ M,N=M+1:=⟨N-1,by ext⟩;show (match (ev M).E sc ρ (ak J c l p1 τ κ tl) (.Name "self" p) with
     | some (.self,Y)=>match dN "cursor",look Y "cursor" with
      | true,some a=>match (ev M).E sc ρ Y (.Constant (.int 1) kk p2) with
       | some (b,Y)=>bif Nat.ble Y.length 100 then (xS .Sub a b).map fun v=>(Fl.next,ρ,put Y "cursor" v) else none
       | none=>none
      | _,_=>none
     | _=>none)=_
 rw[nw (by ext) H];dsimp only;rw[bT,cR];dsimp only;rw[aN];dsimp only;rw[rV ht];show some (Fl.next,ρ,put (ak J c l p1 τ κ tl) "cursor" (.int (c-1)))=_;rw[fQ]
theorem IN(H:SL sc ρ)(ht:tl.length≤50){c:Int}{kk:Nat}{p q p2 pos:Pos}(hN:3≤N):(ev N).S sc ρ (ak J c l p1 τ κ tl) (.AugAssign (.Attribute (.Name "self" p) "cursor" q) .Add (.Constant (.int 1) kk p2) pos)=some (.next,ρ,ak J (c+1) l p1 τ κ tl):=by
 obtain⟨M,rfl⟩:∃ M,N=M+1:=⟨N-1,by ext⟩;show (match (ev M).E sc ρ (ak J c l p1 τ κ tl) (.Name "self" p) with
     | some (.self,Y)=>match dN "cursor",look Y "cursor" with
      | true,some a=>match (ev M).E sc ρ Y (.Constant (.int 1) kk p2) with
       | some (b,Y)=>bif Nat.ble Y.length 100 then (xS .Add a b).map fun v=>(Fl.next,ρ,put Y "cursor" v) else none
       | none=>none
      | _,_=>none
     | _=>none)=_
 rw[nw (by ext) H];dsimp only;rw[bT,cR];dsimp only;rw[aN];dsimp only;rw[rV ht];show some (Fl.next,ρ,put (ak J c l p1 τ κ tl) "cursor" (.int (c+1)))=_;rw[fQ]
theorem yZ(H:SL sc ρ){id:Str}(hk:sc.names.lookup id=some .local){c lb:Int}{p p1 q1 p2 q2 p3 pos:Pos}(hN:4≤N):(ev N).S sc ρ (ak J c c lb τ κ tl) (.Assign [.Name id p] (.BinOp (.Attribute (.Name "self" p1) "limit" q1) .Sub (.Attribute (.Name "self" p2) "cursor" q2) p3) pos)=some (.next,put ρ id (.int (0:Nat)),ak J c c lb τ κ tl):=by
 have:=vC (J:=J) (c:=c) (l:=c) (lb:=lb) (τ:=τ) (κ:=κ) (tl:=tl) (p:=p) (p1:=p1) (q1:=q1) (p2:=p2) (q2:=q2) (p3:=p3) (pos:=pos) hN H hk;rw[Int.sub_self] at this;exact this
theorem jV(H:SL sc ρ){a k:Nat}{s:Str}{u:List Nat}(hs:ce (.str s)=some (.str u))(hu:u.length≤100)(hk:k≤a)(h:a<J.length)(hl:J.length≤1000){kk:Nat}{p apos pos q q2:Pos}(hok:ax (.Name "self" p) [.Constant (.str s) kk q2] apos pos=true)(hN:42≤N):
  (ev N).S sc ρ (ak J k J.length (0:Nat) a J.length (aV pV p1 p2)) (.Expr (.Call (.Attribute (.Name "self" p) "slice_from" apos) [.Constant (.str s) kk q2] [] pos) q)=some (.next,ρ,ak (J.take a++u) k (J.take a++u).length (0:Nat) a (J.take a++u).length (aV pV p1 p2)):=by
 obtain⟨M,rfl⟩:∃ M,N=M+2:=⟨N-2,by ext⟩;exact qU rfl H hok (by rfl') yJ (ei (dH hs)) (wM (by ext) hk h hl hu)
theorem GT:ce (.str "u")=some (.str [117]):=by rfl'
theorem PG:ce (.str "e")=some (.str [101]):=by rfl'
theorem I9:ce (.str "i")=some (.str [105]):=by rfl'
theorem I6:ce (.str "c")=some (.str [99]):=by rfl'
inductive Ry(id:Str):Stmt→Prop
 | mk {l:List Stmt} {a b c d:Pos} (sh:nJ id l):Ry id (.Try l [.ExceptHandler (some (.Name "lab0" a)) none [.Pass b] c] [] [] d)
theorem KB(S:L8 sc)(H:SL sc ρ)(hN:80≤N)(hl:w.length≤1000){id:Str}(hv:VL sc ρ id (.int (0:Nat))){P2:Nat}(sh:Ry id st):
  ∃ c' b' k',(ev N).S sc ρ (lM w τ κ pV p1 P2) st=some (.next,ρ,ak (aT w ua P2) c' (aT w ua P2).length (0:Nat) b' k' (aV pV p1 P2)):=by
 cases sh with | mk sh=>
 obtain⟨M,rfl⟩:∃ M,N=M+1:=⟨N-1,by ext⟩;refine jI (Oy (N:=M) (w:=w) (τ:=τ) (κ:=κ) (pV:=pV) (p1:=p1) (p2:=P2) S H (by ext) hl hv sh) fun x c' b' k' zz=>And.elim (fun hx h=>?_) zz
 rcases hx with rfl | rfl
 ·exact⟨c',b',k',kA rfl h⟩
 ·exact⟨c',b',k',du rfl S.lab0 h⟩
end
def t7(k:Int)(h:List Nat)(first one two:Nat):Option (List Nat):=
 if k=9 then (if first≤h.length∧h.getLast?=some 101 then some (h++[105,114]) else none)
 else if h.length<(if k=5 then one else two) then none
 else if k=2 then some (h++[108,111,103])
 else if k=3 then some (h++[117])
 else if k=4 then some (h++[101,110,116,101])
 else if k=5 then some (yQ h two)
 else if k=6 then some (aT h (ends 10 3) two)
 else if k=7 then some (aT h (ends 13 3) two)
 else if k=8 then some (aT h ua two)
 else some h
inductive kQ(N:Nat)(k:Int)(w:List Nat)(A:Nat)(pV p1 p2:Nat):Prop
 | next {ρ':af} {w':List Nat} {c' b' k':Int} (h:(ev N).S iQ (ρ2 k) (ak w A w.length (0:Nat) A w.length (aV pV p1 p2)) (ai aw 4)=some (.next,ρ',ak w' c' w'.length (0:Nat) b' k' (aV pV p1 p2))) (e:t7 k (w.take A) pV p1 p2=some w'):kQ N k w A pV p1 p2
 | no {ρ':af} {c' b' k':Int} (h:(ev N).S iQ (ρ2 k) (ak w A w.length (0:Nat) A w.length (aV pV p1 p2)) (ai aw 4)=some (.ret (.bool false),ρ',ak w c' w.length (0:Nat) b' k' (aV pV p1 p2))) (e:t7 k (w.take A) pV p1 p2=none):kQ N k w A pV p1 p2
theorem Tq:(Tk 10 3).all (fun x=>decide (x.r≠0))=true:=by rfl'
theorem Ta:(Tk 13 3).all (fun x=>decide (x.r≠0))=true:=by rfl'
theorem SZ:bK "a_3"=some (amgs 10 3):=by rfl'
theorem Tf:bK "a_4"=some (amgs 13 3):=by rfl'
theorem SW:bK "a_5"=some (amgs 16 45):=by rfl'
section
variable {w:List Nat}{A pV p1 p2 N M:Nat}
def kM:Nat→Stmt
 | 0=>ai aw 4
 | k+1=>aG (E2 (kM k)) 0
theorem EE{sc:Scope}{ρ:af}{J:List Nat}{c l lb τ κ pV p1 p2:Int}(hN:4≤N)(H:SL sc ρ){a1 a2 a3 a4 a5:Pos}:(ev N).T sc ρ (ak J c l lb τ κ (aV pV p1 p2)) (.Compare (.Attribute (.Name "self" a1) "I_p1" a2) [.Gt] [.Attribute (.Name "self" a3) "cursor" a4] a5)=some (decide (c<p1),ak J c l lb τ κ (aV pV p1 p2)):=by
 obtain⟨K,rfl⟩:∃ K,N=K+2:=⟨N-2,by ext⟩;exact bn rfl (fw H P3 P9) (fw H bT cR) rfl
theorem kp{sc:Scope}{ρ X:af}{J:List Nat}{tl:af}{τ κ:Int}(H:SL sc ρ){id:Str}(hk:sc.names.lookup id=some .local)(hX:put ρ id (.int (0:Nat))=X){c lb:Int}{p p1 q1 p2 q2 p3 pos:Pos}(hN:4≤N):(ev N).S sc ρ (ak J c c lb τ κ tl) (.Assign [.Name id p] (.BinOp (.Attribute (.Name "self" p1) "limit" q1) .Sub (.Attribute (.Name "self" p2) "cursor" q2) p3) pos)=some (.next,X,ak J c c lb τ κ tl):=hX ▸ yZ H hk hN
theorem tkl(h:A<w.length):(w.take A).length=A:=by rw[length_take];ext
inductive Gb(c:Int)(b r:List Stmt):Stmt→Prop
 | mk {p q u v:Pos} {kk:Nat}:Gb c b r (.If (.Compare (.Name "among_var" p) [.Eq] [.Constant (.int c) kk q] u) b r v)
theorem qP:∀ i,i≤7→Gb (Int.ofNat (i+1)) (dj (kM i)) (E2 (kM i)) (kM i)
 | 0,_=>.mk | 1,_=>.mk | 2,_=>.mk | 3,_=>.mk | 4,_=>.mk | 5,_=>.mk | 6,_=>.mk | 7,_=>.mk
 | _+8,h=>absurd h (by ext)
theorem E1:∀ i,i<7→E2 (kM i)=[kM (i+1)]
 | 0,_=>by rfl' | 1,_=>by rfl' | 2,_=>by rfl' | 3,_=>by rfl' | 4,_=>by rfl' | 5,_=>by rfl' | 6,_=>by rfl'
 | _+7,h=>absurd h (by ext)
section
variable {Y Y' ρ':af}{R:Option (Fl×af×af)}{b r:List Stmt}{st:Stmt}{k c:Int}{x:Fl}{j:Nat}
theorem vK(sh:Gb c b r st)(e:N=M+1)(hM:4≤M)(h:(bif decide (k=c) then (ev M).SS iQ (ρ2 k) Y b else (ev M).SS iQ (ρ2 k) Y r)=R):(ev N).S iQ (ρ2 k) Y st=R:=by
 cases sh with
 | mk=>
  have T:=fun {p q u:Pos} {kk:Nat}=>bl (N:=M) (M:=M-2) (kk:=kk) (p:=q) (p':=u) (z:=c) (by ext) (au (Y:=Y) (p:=p) (Pj k))
  cases d:decide (k=c) with
  | true=>rw[d] at h;exact bB e T d h
  | false=>rw[d] at h;exact gz e T d h
theorem tT(hj:j≤7)(heq:k=Int.ofNat (j+1))(hM:5≤M)(h:(ev (M+1)).SS iQ (ρ2 k) Y (dj (kM j))=some (x,ρ',Y')):∀ d i N,i+d=j→N=M+2+2*d→(ev N).S iQ (ρ2 k) Y (kM i)=some (x,ρ',Y')
 | 0,i,N,e,eN=>by
  obtain rfl:i=j:=e;exact vK (qP i hj) eN (by ext) (by rw[decide_eq_true heq];exact h)
 | d+1,i,N,e,eN=>by
  have q:=tT hj heq hM h d (i+1) (M+2+2*d) (by ext) rfl;refine vK (M:=M+2+2*d+1) (qP i (by ext)) (by ext) (by ext) ?_;rw[decide_eq_false (fun z=>by have:=Int.ofNat.inj (heq.symm.trans z);ext),cond_false,E1 i (by ext)];exact aP rfl q
theorem nE(hk:k=9)(hM:5≤M)(h:(ev (M+1)).SS iQ (ρ2 k) Y (E2 (kM 7))=some (x,ρ',Y')):∀ d i N,i+d=7→N=M+2+2*d→(ev N).S iQ (ρ2 k) Y (kM i)=some (x,ρ',Y')
 | 0,i,N,e,eN=>by
  obtain rfl:i=7:=e;exact vK (qP 7 (by ext)) eN (by ext) (by rw[decide_eq_false (by rw[hk];decide)];exact h)
 | d+1,i,N,e,eN=>by
  have q:=nE hk hM h d (i+1) (M+2+2*d) (by ext) rfl;refine vK (M:=M+2+2*d+1) (qP i (by ext)) (by ext) (by ext) ?_;rw[decide_eq_false (fun z=>by have:=Int.ofNat.inj ((show Int.ofNat 9=k from hk.symm).trans z);ext),cond_false,E1 i (by ext)];exact aP rfl q
inductive CV:List Stmt→List Stmt→Prop
 | mk {p p' apos pos q q2 q3:Pos} {kk:Nat} {r:List Stmt} (ok:ax (.Name "self" p') [] apos pos=true):CV (.If (.UnaryOp .Not (.Call (.Attribute (.Name "self" p') "r_R2" apos) [] [] pos) p) [.Return (some (.Constant (.bool false) kk q2)) q3] [] q :: r) r
theorem K2(sh:CV b r)(hM:40≤M)(h:¬ p2≤A):(ev M).SS iQ (ρ2 k) (ak w A w.length (0:Nat) A w.length (aV pV p1 p2)) b=some (.ret (.bool false),ρ2 k,ak w A w.length (0:Nat) A w.length (aV pV p1 p2)):=by
 obtain⟨K,rfl⟩:∃ K,M=K+5:=⟨M-5,by ext⟩;cases sh with
 | mk ok=>exact aA (M:=K+4) rfl (nK (M:=K+3) rfl (by ext) (sl2 _) ok (by ext) (aA (M:=K+2) rfl (cr)))
theorem Gf(sh:CV b r)(e:N=M+1)(hM:40≤M)(h:p2≤A)(k':(ev M).SS iQ (ρ2 k) (ak w A w.length (0:Nat) A w.length (aV pV p1 p2)) r=R):(ev N).SS iQ (ρ2 k) (ak w A w.length (0:Nat) A w.length (aV pV p1 p2)) b=R:=by
 cases sh with
 | mk ok=>exact ab e (iv (sl2 _) ok (by ext)) k'
theorem FJ{f o t:Nat}{h:List Nat}(h9:k≠9)(h5:k≠5)(hl:h.length<t):t7 k h f o t=none:=by
 unfold t7;rw[if_neg h9,if_pos (by rw[if_neg h5];exact hl)]
theorem Fz{f o t:Nat}{h:List Nat}{y:Option (List Nat)}(h9:k≠9)(h5:k≠5)(hl:t≤h.length)(e:(if k=2 then some (h++[108,111,103]) else if k=3 then some (h++[117]) else if k=4 then some (h++[101,110,116,101]) else if k=5 then some (yQ h t) else if k=6 then some (aT h (ends 10 3) t) else if k=7 then some (aT h (ends 13 3) t) else if k=8 then some (aT h ua t) else some h)=y):t7 k h f o t=y:=by
 unfold t7;rw[if_neg h9,if_neg (by rw[if_neg h5];exact Nat.not_lt.mpr hl)];exact e
theorem jz{y:List Nat}{c' b' k':Int}(hj:j≤7)(heq:k=Int.ofNat (j+1))(h9:k≠9)(h5:k≠5)(ha:A<w.length)(sh:CV (dj (kM j)) r)(eN:N=M+2+2*j)(hM:45≤M)
  (e:(if k=2 then some (w.take A++[108,111,103]) else if k=3 then some (w.take A++[117]) else if k=4 then some (w.take A++[101,110,116,101]) else if k=5 then some (yQ (w.take A) p2) else if k=6 then some (aT (w.take A) (ends 10 3) p2) else if k=7 then some (aT (w.take A) (ends 13 3) p2) else if k=8 then some (aT (w.take A) ua p2) else some (w.take A))=some y)
  (go:(ev M).SS iQ (ρ2 k) (ak w A w.length (0:Nat) A w.length (aV pV p1 p2)) r=some (.next,ρ',ak y c' y.length (0:Nat) b' k' (aV pV p1 p2))):kQ N k w A pV p1 p2:=by
 have htk:=tkl ha;by_cases hp:p2≤A
 ·exact .next (aq (tT (M:=M) hj heq (by ext) (Gf (M:=M) sh rfl (by ext) hp go) j 0 N (Nat.zero_add j) eN) rfl) (Fz h9 h5 (by rw[htk];exact hp) e)
 ·exact .no (aq (tT (M:=M) hj heq (by ext) (K2 sh (by ext) hp) j 0 N (Nat.zero_add j) eN) rfl) (FJ h9 h5 (by rw[htk];ext))
end
theorem TZ(hN:345≤N)(hl:w.length≤1000)(ha:A<w.length):kQ N 1 w A pV p1 p2:=by
 obtain⟨M,rfl⟩:∃ M,N=M+2:=⟨N-2,by ext⟩;refine jz (j:=0) (M:=M) (r:=[aG (dj (kM 0)) 1]) (by ext) rfl (by decide) (by decide) ha (.mk ?a1) rfl (by ext) rfl (iW (aP (M:=M-1) (by ext) (eu (sl2 _) ?a2 ha hl)) rfl)
 all_goals rfl
theorem TG(hN:345≤N)(hl:w.length≤1000)(ha:A<w.length):kQ N 2 w A pV p1 p2:=by
 obtain⟨M,rfl⟩:∃ M,N=M+4:=⟨N-4,by ext⟩;refine jz (j:=1) (M:=M) (r:=[aG (dj (kM 1)) 1]) (by ext) rfl (by decide) (by decide) ha (.mk ?a1) rfl (by ext) rfl (iW (aP (M:=M-1) (by ext) (jV (sl2 _) (by rfl') (by decide) (le_refl _) ha hl ?a2 (by ext))) rfl)
 all_goals rfl
theorem Tb(hN:345≤N)(hl:w.length≤1000)(ha:A<w.length):kQ N 3 w A pV p1 p2:=by
 obtain⟨M,rfl⟩:∃ M,N=M+6:=⟨N-6,by ext⟩;refine jz (j:=2) (M:=M) (r:=[aG (dj (kM 2)) 1]) (by ext) rfl (by decide) (by decide) ha (.mk ?a1) rfl (by ext) rfl (iW (aP (M:=M-1) (by ext) (jV (sl2 _) GT (by decide) (le_refl _) ha hl ?a2 (by ext))) rfl)
 all_goals rfl
theorem Ug(hN:345≤N)(hl:w.length≤1000)(ha:A<w.length):kQ N 4 w A pV p1 p2:=by
 obtain⟨M,rfl⟩:∃ M,N=M+8:=⟨N-8,by ext⟩;refine jz (j:=3) (M:=M) (r:=[aG (dj (kM 3)) 1]) (by ext) rfl (by decide) (by decide) ha (.mk ?a1) rfl (by ext) rfl (iW (aP (M:=M-1) (by ext) (jV (sl2 _) (by rfl') (by decide) (le_refl _) ha hl ?a2 (by ext))) rfl)
 all_goals rfl
theorem Tz(hN:345≤N)(hl:w.length≤1000)(ha:A<w.length):kQ N 5 w A pV p1 p2:=by
 obtain⟨M,rfl⟩:∃ M,N=M+14:=⟨N-14,by ext⟩;have htk:=tkl ha;have hlt:(w.take A).length≤1000:=by rw[htk];ext
 by_cases hp:p1≤A
 ·refine jI (PH (N:=M+1) (w:=w.take A) (τ:=A) (κ:=A) (pV:=pV) (p1:=p1) (p2:=p2) (kd0:=5) (st:=aG (dj (kM 4)) 3) (by ext) hlt (.mk (.mk rfl rfl rfl) rfl rfl rfl)) fun kd c' b' k' h=>?_
  have hput:=put2 5;obtain⟨lx,hlx⟩:∃ lx,lx=eC "v_1" 5:=⟨_,rfl⟩;rw[←hlx] at h hput;refine .next (aq (tT (j:=4) (M:=M+4) (x:=.next) (by ext) rfl (by ext) (iW (ab rfl (bt rfl (EE (by ext) (sl2 _)) (ZF)) (ab rfl (eu (sl2 _) ?h2 ha hl) (ab rfl (kp (sl2 _) (id:="v_1") (by rfl') hput (by ext)) (aP rfl h)))) rfl) 4 0 _ rfl rfl) rfl) (by unfold t7;rw[if_neg (by decide),if_neg (by rw[htk,if_pos rfl];ext)];rfl)
  all_goals rfl
 ·refine .no (aq (tT (j:=4) (M:=M+4) (x:=.ret (.bool false)) (by ext) rfl (by ext) (iW (aA rfl (bB rfl (EE (by ext) (sl2 _)) (ZT) (aA rfl (cr)))) rfl) 4 0 _ rfl rfl) rfl) (by unfold t7;rw[if_neg (by decide),if_pos (by rw[htk,if_pos rfl];ext)])
  all_goals rfl
theorem Tj(hN:345≤N)(hl:w.length≤1000)(ha:A<w.length):kQ N 6 w A pV p1 p2:=by
 obtain⟨M,rfl⟩:∃ M,N=M+15:=⟨N-15,by ext⟩;have hlt:(w.take A).length≤1000:=by rw[tkl ha];ext
 refine gy (y0 (N:=M) (sc:=iQ) (ρ:=eC "v_2" 6) (w:=w.take A) (τ:=A) (κ:=A) (pV:=pV) (p1:=p1) (p2:=p2) (id:="v_2") (st:=aG (dj (kM 5)) 3) eU (P4 _) (by ext) Q6 Tq (by decide) hlt SZ (TB _) rfl rfl rfl rfl) fun c' b' k' h=>?_
 have hput:=Kk 6;obtain⟨lx,hlx⟩:∃ lx,lx=eC "v_2" 6:=⟨_,rfl⟩;rw[←hlx] at h hput;refine jz (j:=5) (M:=M+3) (r:=[aG (dj (kM 5)) 1,aG (dj (kM 5)) 2,aG (dj (kM 5)) 3]) (y:=aT (w.take A) (ends 10 3) p2) (by ext) rfl (by decide) (by decide) ha (.mk ?a1) rfl (by ext) rfl (ab rfl (aq (eu (sl2 _) ?a2 ha hl) rfl) (ab rfl (aq (kp (sl2 _) (id:="v_2") (by rfl') hput (by ext)) rfl) (aP rfl h)))
 all_goals rfl
theorem Tc(hN:345≤N)(hl:w.length≤1000)(ha:A<w.length):kQ N 7 w A pV p1 p2:=by
 obtain⟨M,rfl⟩:∃ M,N=M+17:=⟨N-17,by ext⟩;have hlt:(w.take A).length≤1000:=by rw[tkl ha];ext
 refine gy (y0 (N:=M) (sc:=iQ) (ρ:=eC "v_3" 7) (w:=w.take A) (τ:=A) (κ:=A) (pV:=pV) (p1:=p1) (p2:=p2) (id:="v_3") (st:=aG (dj (kM 6)) 3) eU (Qj _) (by ext) Py Ta (by decide) hlt Tf (Te _) rfl rfl rfl rfl) fun c' b' k' h=>?_
 have hput:=Mj 7;obtain⟨lx,hlx⟩:∃ lx,lx=eC "v_3" 7:=⟨_,rfl⟩;rw[←hlx] at h hput;refine jz (j:=6) (M:=M+3) (r:=[aG (dj (kM 6)) 1,aG (dj (kM 6)) 2,aG (dj (kM 6)) 3]) (y:=aT (w.take A) (ends 13 3) p2) (by ext) rfl (by decide) (by decide) ha (.mk ?a1) rfl (by ext) rfl (ab rfl (aq (eu (sl2 _) ?a2 ha hl) rfl) (ab rfl (aq (kp (sl2 _) (id:="v_3") (by rfl') hput (by ext)) rfl) (aP rfl h)))
 all_goals rfl
theorem Ub(hN:345≤N)(hl:w.length≤1000)(ha:A<w.length):kQ N 8 w A pV p1 p2:=by
 obtain⟨M,rfl⟩:∃ M,N=M+19:=⟨N-19,by ext⟩;have hlt:(w.take A).length≤1000:=by rw[tkl ha];ext
 refine gy (KB (N:=M) (sc:=iQ) (ρ:=eC "v_4" 8) (w:=w.take A) (τ:=A) (κ:=A) (pV:=pV) (p1:=p1) (P2:=p2) (id:="v_4") (st:=aG (dj (kM 7)) 3) eU (Qc _) (by ext) hlt (Un _) (.mk (.mk rfl rfl rfl))) fun c' b' k' h=>?_
 have hput:=JL 8;obtain⟨lx,hlx⟩:∃ lx,lx=eC "v_4" 8:=⟨_,rfl⟩;rw[←hlx] at h hput;refine jz (j:=7) (M:=M+3) (r:=[aG (dj (kM 7)) 1,aG (dj (kM 7)) 2,aG (dj (kM 7)) 3]) (y:=aT (w.take A) ua p2) (by ext) rfl (by decide) (by decide) ha (.mk ?a1) rfl (by ext) rfl (ab rfl (aq (eu (sl2 _) ?a2 ha hl) rfl) (ab rfl (aq (kp (sl2 _) (id:="v_4") (by rfl') hput (by ext)) rfl) (aP rfl h)))
 all_goals rfl
end
section
variable {w:List Nat}{A pV p1 p2 N M:Nat}
theorem qF(h:A≤w.length)(x:Nat):(w.take A).getLast?=some x↔mR w A 0 x=true:=by
 unfold mR;rw[List.getLast?_eq_getElem?,length_take,Nat.min_eq_left h];rw[Bool.and_eq_true,decide_eq_true_eq,beq_iff_eq,List.getElem?_take];by_cases q:0<A
 ·rw[if_pos (by ext)];exact⟨fun e=>⟨q,e⟩,fun e=>e.2⟩
 ·rw[if_neg (by ext)];exact⟨fun e=>(by cases e),fun e=>absurd e.1 q⟩
theorem TS(hN:345≤N)(hl:w.length≤1000)(ha:A<w.length):kQ N 9 w A pV p1 p2:=by
 obtain⟨M,rfl⟩:∃ M,N=M+19:=⟨N-19,by ext⟩;have t3:(aV (pV:Int) p1 (p2:Int)).length≤50:=show 3≤50 by decide
 have htk:=tkl ha;have hb:t7 9 (w.take A) pV p1 p2=(if pV≤(w.take A).length∧(w.take A).getLast?=some 101 then some (w.take A++[105,114]) else none):=by unfold t7;rw[if_pos rfl]
 by_cases hp:pV≤A
 ·cases hq:mR w A 0 101 with
  | true=>
   have hA:0<A:=by
    unfold mR at hq;rw[Bool.and_eq_true,decide_eq_true_eq] at hq;exact hq.1
   have e:(A:Int)-1=((A-1:Nat):Int):=by ext
   have hf:∀ {kk:Nat} {p apos pos q q2:Pos} (hok:ax (.Name "self" p) [.Constant (.str "ir") kk q2] apos pos=true),(ev M).S iQ (ρ2 9) (ak w ((A:Int)-1) w.length (0:Nat) A w.length (aV pV p1 p2)) (.Expr (.Call (.Attribute (.Name "self" p) "slice_from" apos) [.Constant (.str "ir") kk q2] [] pos) q)=some (.next,ρ2 9,ak (w.take A++[105,114]) ((A:Int)-1) (w.take A++[105,114]).length (0:Nat) A (w.take A++[105,114]).length (aV pV p1 p2)):=fun hok=>by
    rw[e];exact jV (sl2 _) (by rfl') (by decide) (by ext) ha hl hok (by ext)
   refine .next (w':=w.take A++[105,114]) (aq (nE (M:=M+3) (x:=.next) rfl (by ext) (iW (ab rfl (ip (sl2 _) ?h1 (by ext)) (ab rfl (bt rfl (dJ (sl2 _) PG (by ext)) (by rw[hq];rfl)) (ab rfl (yw (sl2 _) t3 (by ext)) (aP rfl (hf ?h2))))) rfl) 7 0 _ rfl rfl) rfl) (by rw[hb,if_pos ⟨by ext,(qF (Nat.le_of_lt ha) 101).mpr hq⟩])
   all_goals rfl
  | false=>
   refine .no (aq (nE (M:=M+3) (x:=.ret (.bool false)) rfl (by ext) (iW (ab rfl (ip (sl2 _) ?h1 (by ext)) (aA rfl (bB rfl (dJ (sl2 _) PG (by ext)) (by rw[hq];rfl) (aA rfl (cr))))) rfl) 7 0 _ rfl rfl) rfl) (by rw[hb,if_neg (fun h=>by rw[(qF (Nat.le_of_lt ha) 101).mp h.2] at hq;cases hq)])
   all_goals rfl
 ·refine .no (aq (nE (M:=M+3) (x:=.ret (.bool false)) rfl (by ext) (iW (aA rfl (kl rfl (by ext) (sl2 _) ?h1 (by ext) (aA rfl (cr)))) rfl) 7 0 _ rfl rfl) rfl) (by rw[hb,if_neg (fun h=>by ext)])
  all_goals rfl
def dq(w:List Nat)(first one two:Nat):Option (List Nat):=
 if ah (ends 16 45) w=[] then none else t7 (kindOf (Tk 16 45) (ah (ends 16 45) w)) (cut w (ah (ends 16 45) w)) first one two
theorem TU:(Tk 16 45).all (fun x=>decide (1≤x.r∧x.r≤9))=true:=by rfl'
theorem ta:br aw.st=[ai aw 0,ai aw 1,ai aw 2,ai aw 3,ai aw 4,ai aw 5]:=by rfl'
noncomputable def di:af:=[((("self":Str),V.self):Str×V)]
theorem sl1:SL iQ di:=⟨(by rfl'),by rfl'⟩
theorem KD(k:Int):put di "among_var" (.int k)=ρ2 k:=by rfl'
theorem vA{τ κ:Int}(hN:362≤N)(hl:w.length≤1000):∃ c' b' k',(ev N).C aw [.self] (lM w τ κ pV p1 p2)=some (.bool (dq w pV p1 p2).isSome,ak ((dq w pV p1 p2).getD w) c' ((dq w pV p1 p2).getD w).length (0:Nat) b' k' (aV pV p1 p2)):=by
 obtain⟨M,rfl⟩:∃ M,N=M+20:=⟨N-20,by ext⟩;have t3:(aV (pV:Int) p1 (p2:Int)).length≤50:=show 3≤50 by decide
 have F:=fun (m:Nat) (hm:312≤m) {p apos pos q q2:Pos} hok=>BJ (N:=m) (τ:=τ) (κ:=w.length) (pV:=pV) (p1:=p1) (P2:=(p2:Int)) (p:=p) (apos:=apos) (pos:=pos) (q:=q) (q2:=q2) eU sl1 hm Ju (show 45≤120 by decide) hl SW hok
 by_cases he:ah (ends 16 45) w=[]
 ·have hn:dq w pV p1 p2=none:=by unfold dq;rw[if_pos he]
  rw[hn];rw[he,fI Ju,gi] at F;refine⟨(w.length:Nat),τ,w.length,bC rfl rfl rfl rfl (ρ':=ρ2 0) (ab (ρ':=di) rfl (bI sl1 t3) (ab rfl (bz rfl rfl fB (F _ (by ext) ?h1)) (aA (ρ':=ρ2 0) rfl (bB rfl (bl rfl (au (Pj 0))) rfl (aA rfl (cr))))))⟩;rfl
 ·have kz:=iC (P:=fun r=>decide (1≤r∧r≤9)) TU rfl he;have kz:1≤kindOf (Tk 16 45) (ah (ends 16 45) w)∧kindOf (Tk 16 45) (ah (ends 16 45) w)≤9:=of_decide_eq_true kz;have hn:dq w pV p1 p2=t7 (kindOf (Tk 16 45) (ah (ends 16 45) w)) (cut w (ah (ends 16 45) w)) pV p1 p2:=by unfold dq;rw[if_neg he]
  have hp:=hZ he;have hle:=cX (es:=ends 16 45) (t:=w);have hcl:=dP (w:=w) (e:=ah (ends 16 45) w);have hct:cut w (ah (ends 16 45) w)=w.take (w.length-(ah (ends 16 45) w).length):=rfl;rw[hct] at hn;rw[hcl] at F;generalize kindOf (Tk 16 45) (ah (ends 16 45) w)=kd at*;have ha:w.length-(ah (ends 16 45) w).length<w.length:=by ext
  generalize w.length-(ah (ends 16 45) w).length=A at*;have B:kQ (M+14) kd w A pV p1 p2:=by
   have:kd=1∨kd=2∨kd=3∨kd=4∨kd=5∨kd=6∨kd=7∨kd=8∨kd=9:=by ext
   rcases this with rfl | rfl | rfl | rfl | rfl | rfl | rfl | rfl | rfl
   ·exact TZ (by ext) hl ha
   ·exact TG (by ext) hl ha
   ·exact Tb (by ext) hl ha
   ·exact Ug (by ext) hl ha
   ·exact Tz (by ext) hl ha
   ·exact Tj (by ext) hl ha
   ·exact Tc (by ext) hl ha
   ·exact Ub (by ext) hl ha
   ·exact TS (by ext) hl ha
  rw[hn];cases B with
  | @next ρ' w' c' b' k' h e=>
   rw[e];refine⟨c',b',k',bC rfl rfl rfl ta (ρ':=ρ') (ab (ρ':=di) rfl (aq (bI sl1 t3) rfl) (ab rfl (aq (bz rfl rfl fB (F _ (by ext) ?h1)) rfl) (ab (ρ':=ρ2 kd) rfl (aq (bt rfl (bl rfl (au (Pj kd))) (ZF)) rfl) (ab rfl (aq (bX (sl2 kd) t3) rfl) (ab rfl h (aA rfl (aq (cr) rfl)))))))⟩
  | @no ρ' c' b' k' h e=>
   rw[e];refine⟨c',b',k',bC rfl rfl rfl ta (ρ':=ρ') (ab (ρ':=di) rfl (aq (bI sl1 t3) rfl) (ab rfl (aq (bz rfl rfl fB (F _ (by ext) ?h1)) rfl) (ab (ρ':=ρ2 kd) rfl (aq (bt rfl (bl rfl (au (Pj kd))) (ZF)) rfl) (ab rfl (aq (bX (sl2 kd) t3) rfl) (aA rfl h)))))⟩
end
end
section
variable {w:List Nat}{A pV p1 p2 N M:Nat}
abbrev Pm:Scope:=aJ dg.st
noncomputable def qW(v:Int):af:=[((("self":Str),V.self):Str×V),((("v_2":Str),V.int v):Str×V)]
theorem DZ:SL Pm di:=⟨by rfl',by rfl'⟩
theorem CJ(v:Int):SL Pm (qW v):=⟨by rfl',by rfl'⟩
theorem vV(v:Int):VL Pm (qW v) "v_2" (.int v):=(ba (by rfl'))
theorem TK:bK "a_7"=some (amgs 181 7):=by rfl'
theorem TF:bK "a_8"=some (amgs 188 4):=by rfl'
theorem vt{sc:Scope}{ρ:af}{J:List Nat}{c l lb τ κ pV p1 p2:Int}(hN:4≤N)(H:SL sc ρ){a1 a2 a3 a4 a5:Pos}:(ev N).T sc ρ (ak J c l lb τ κ (aV pV p1 p2)) (.Compare (.Attribute (.Name "self" a3) "cursor" a4) [.Lt] [.Attribute (.Name "self" a1) "I_pV" a2] a5)=some (decide (c<pV),ak J c l lb τ κ (aV pV p1 p2)):=by
 obtain⟨K,rfl⟩:∃ K,N=K+2:=⟨N-2,by ext⟩;exact bn rfl (fw H bT cR) (fw H Ks KE) rfl
def e9(w:List Nat)(first:Nat):Option (List Nat):=if ah (ends 61 120) (w.drop first)=[] then none else some (cut w (ah (ends 61 120) (w.drop first)))
theorem Cj{τ κ:Int}(hv:pV≤w.length)(hl:w.length≤1000)(hN:310≤N):(ev N).C am (.self :: [amgs 61 120]) (ak w w.length w.length pV τ κ (aV pV p1 p2))=some (.int (kindOf (Tk 61 120) (ah (ends 61 120) (w.drop pV))),ak w ((cut w (ah (ends 61 120) (w.drop pV))).length:Nat) w.length pV τ κ (aV pV p1 p2)):=by
 have F:=vx (J:=w) (c:=w.length) (lb:=pV) (l:=w.length) (τ:=τ) (κ:=κ) (tl:=aV pV p1 p2) (n:=N) Ol (le_refl _) hv hl (show 3≤50 by decide) hN (by decide);rw[List.take_length] at F;rw[dP];exact F
theorem Dj(hN:42≤N)(h:A<w.length)(hs:w.length≤1000):(ev N).C cQ [.self] (ak w A w.length pV A w.length (aV pV p1 p2))=some (.none,ak (w.take A) A (w.take A).length pV A A (aV pV p1 p2)):=by
 obtain⟨n,rfl⟩:=xle hN;have H:=wq (n:=n) (J:=w) (lb:=(pV:Nat)) (x:=pV) (y:=p1) (z:=p2) (a:=A) (b:=w.length) (k:=A) (le_refl _) h (le_refl _) (by ext);have e:w.take A++w.drop w.length=w.take A:=by simp
 rw[e] at H;exact H
theorem SX:(Tk 181 7).all (fun x=>decide (x.r≠0))=true:=by rfl'
theorem tC{τ κ:Int}(hN:345≤N)(hl:w.length≤1000)(hv:pV≤w.length):∃ c' b' k',(ev N).C dg [.self] (lM w τ κ pV p1 p2)=some (.bool (e9 w pV).isSome,ak ((e9 w pV).getD w) c' ((e9 w pV).getD w).length (0:Nat) b' k' (aV pV p1 p2)):=by
 obtain⟨M,rfl⟩:∃ M,N=M+20:=⟨N-20,by ext⟩;have t3:(aV (pV:Int) p1 (p2:Int)).length≤50:=show 3≤50 by decide
 have F:∀ (m:Nat) (hm:312≤m) {p apos pos q q2:Pos} (hok:ax (.Name "self" p) [.Attribute (.Name "PortugueseStemmer" q) "a_6" q2] apos pos=true),(ev m).E Pm (qW (0:Nat)) (ak w w.length w.length pV τ w.length (aV pV p1 p2)) (.Call (.Attribute (.Name "self" p) "find_among_b" apos) [.Attribute (.Name "PortugueseStemmer" q) "a_6" q2] [] pos)=some (.int (kindOf (Tk 61 120) (ah (ends 61 120) (w.drop pV))),ak w ((cut w (ah (ends 61 120) (w.drop pV))).length:Nat) w.length pV τ w.length (aV pV p1 p2)):=fun m hm p apos pos q q2 hok=>by
  obtain⟨K,rfl⟩:∃ K,m=K+1:=⟨m-1,by ext⟩;exact tY rfl (CJ _) hok (by rfl') rT (ei (jC rfl (by rfl') (by rfl'))) (Cj hv hl (by ext))
 by_cases he:ah (ends 61 120) (w.drop pV)=[]
 ·have hn:e9 w pV=none:=by unfold e9;rw[if_pos he]
  rw[hn];rw[he,fI Ol,gi] at F;refine⟨(w.length:Nat),τ,w.length,bC rfl rfl rfl rfl (ρ':=qW (0:Nat)) (ab (ρ':=di) rfl (bt rfl (vt (by ext) DZ) (ZF)) (ab rfl (zA (by ext) DZ (id:="v_2") (by rfl')) (ab (ρ':=qW (0:Nat)) rfl (yI (by ext) (CJ (0:Nat))) (ab rfl (bI (CJ _) t3) (aA (ρ':=qW (0:Nat)) rfl (bB rfl (bl rfl (F _ (by ext) ?h1)) rfl (ab rfl (AG (by ext) (CJ _) t3 (vV _)) (aA rfl (cr))))))))) ⟩;rfl
 ·have kz:kindOf (Tk 61 120) (ah (ends 61 120) (w.drop pV))≠0:=by
   have:=iC (P:=fun r=>decide (r≠0)) (by rfl') rfl he;exact of_decide_eq_true this
  have hn:e9 w pV=some (cut w (ah (ends 61 120) (w.drop pV))):=by unfold e9;rw[if_neg he]
  have hp:=hZ he;have hle:=cX (es:=ends 61 120) (t:=w.drop pV);rw[length_drop] at hle;have hcl:=dP (w:=w) (e:=ah (ends 61 120) (w.drop pV));have hct:cut w (ah (ends 61 120) (w.drop pV))=w.take (w.length-(ah (ends 61 120) (w.drop pV)).length):=rfl;rw[hct] at hn;rw[hcl] at F;generalize kindOf (Tk 61 120) (ah (ends 61 120) (w.drop pV))=kd at*;have ha:w.length-(ah (ends 61 120) (w.drop pV)).length<w.length:=by ext
  generalize w.length-(ah (ends 61 120) (w.drop pV)).length=A at*;rw[hn];refine⟨A,A,A,bC rfl rfl rfl rfl (ρ':=qW (0:Nat)) (ab (ρ':=di) rfl (bt rfl (vt (by ext) DZ) (ZF)) (ab rfl (zA (by ext) DZ (id:="v_2") (by rfl')) (ab (ρ':=qW (0:Nat)) rfl (yI (by ext) (CJ (0:Nat))) (ab rfl (bI (CJ _) t3) (ab (ρ':=qW (0:Nat)) rfl (bt rfl (bl rfl (F _ (by ext) ?h1)) (decide_eq_false kz)) (ab rfl (bX (CJ _) t3) (ab rfl (qU (f:=cQ) (vs:=[]) rfl (CJ _) ?h2 (by rfl') Db rfl (Dj (by ext) ha hl)) (ab rfl (AG (by ext) (CJ _) t3 (vV _)) (aA rfl (cr)))))))))) ⟩
  all_goals rfl
end
section
set_option tactic.hygienic false
section
variable {w:List Nat}{A pV p1 p2 N M:Nat}
abbrev SF:Scope:=aJ cy.st
theorem DX:SF.names.lookup ("PortugueseStemmer":Str)=some .globalImplicit:=by rfl'
theorem DK:SL SF di:=⟨by rfl',by rfl'⟩
theorem BL{sc:Scope}{ρ:af}{τ κ:Int}{a k:Nat}(hcls:sc.names.lookup ("PortugueseStemmer":Str)=some .globalImplicit)(H:SL sc ρ)(hN:312≤N)(hT:jB (Tk a k)=true)(hk:k≤120)(hl:w.length≤1000){P1 P2 PV:Int}{attr:Str}(ha:bK attr=some (amgs a k)){p apos pos q q2:Pos}(hok:ax (.Name "self" p) [.Attribute (.Name "PortugueseStemmer" q) attr q2] apos pos=true):
  (ev N).E sc ρ (lM w τ κ PV P1 P2) (.Call (.Attribute (.Name "self" p) "find_among_b" apos) [.Attribute (.Name "PortugueseStemmer" q) attr q2] [] pos)=some (.int (kindOf (Tk a k) (ah (ends a k) w)),ak w ((cut w (ah (ends a k) w)).length:Nat) w.length (0:Nat) τ κ (aV PV P1 P2)):=by
 obtain⟨M,rfl⟩:∃ M,N=M+1:=⟨N-1,by ext⟩;exact tY rfl H hok (by rfl') rT (ei (jC rfl hcls ha)) (wg hT hl (show 3≤50 by decide) (by ext) hk)
theorem Cw{τ κ:Int}(hN:345≤N)(hl:w.length≤1000):∃ b c' b' k',(ev N).C cy [.self] (lM w τ κ pV p1 p2)=some (.bool b,ak (aT w (ends 181 7) pV) c' (aT w (ends 181 7) pV).length (0:Nat) b' k' (aV pV p1 p2)):=by
 obtain⟨M,rfl⟩:∃ M,N=M+20:=⟨N-20,by ext⟩;have t3:(aV (pV:Int) p1 (p2:Int)).length≤50:=show 3≤50 by decide
 have F:=fun (m:Nat) (hm:312≤m) {p apos pos q q2:Pos} hok=>BL (N:=m) (w:=w) (τ:=τ) (κ:=w.length) (PV:=pV) (P1:=p1) (P2:=(p2:Int)) (p:=p) (apos:=apos) (pos:=pos) (q:=q) (q2:=q2) DX DK hm LM (show 7≤120 by decide) hl TK hok
 by_cases he:ah (ends 181 7) w=[]
 ·rw[jT he];rw[he,fI LM,gi] at F;refine⟨false,w.length,τ,w.length,bC rfl rfl rfl rfl (ρ':=di) (ab (ρ':=di) rfl (bI DK t3) (aA rfl (bB rfl (bl rfl (F _ (by ext) ?h1)) rfl (aA rfl (cr)))))⟩;rfl
 ·have kz:kindOf (Tk 181 7) (ah (ends 181 7) w)≠0:=by
   have:=iC (P:=fun r=>decide (r≠0)) SX rfl he;exact of_decide_eq_true this
  have hp:=hZ he;have hle:=cX (es:=ends 181 7) (t:=w);have hcl:=dP (w:=w) (e:=ah (ends 181 7) w);have hct:cut w (ah (ends 181 7) w)=w.take (w.length-(ah (ends 181 7) w).length):=rfl;have hless:aT w (ends 181 7) pV=if pV≤(cut w (ah (ends 181 7) w)).length then cut w (ah (ends 181 7) w) else w:=rfl
  rw[hct] at hless;rw[hcl] at F;rw[show (w.take (w.length-(ah (ends 181 7) w).length)).length=w.length-(ah (ends 181 7) w).length by rw[←hct,hcl]] at hless;generalize kindOf (Tk 181 7) (ah (ends 181 7) w)=kd at*;have ha:w.length-(ah (ends 181 7) w).length<w.length:=by ext
  generalize w.length-(ah (ends 181 7) w).length=A at*;by_cases hp2:pV≤A
  ·rw[if_pos hp2] at hless;rw[hless];refine⟨true,((w.take A).length:Nat),A,A,bC rfl rfl rfl rfl (ρ':=di) (ab (ρ':=di) rfl (bI DK t3) (ab (ρ':=di) rfl (bt rfl (bl rfl (F _ (by ext) ?h1)) (decide_eq_false kz)) (ab rfl (bX DK t3) (ab rfl (ip DK ?h2 (by ext)) (ab rfl (eu DK ?h3 ha hl) (aA rfl (cr)))))))⟩
   all_goals rfl
  ·rw[if_neg hp2] at hless;rw[hless];refine⟨false,A,A,w.length,bC rfl rfl rfl rfl (ρ':=di) (ab (ρ':=di) rfl (bI DK t3) (ab (ρ':=di) rfl (bt rfl (bl rfl (F _ (by ext) ?h1)) (decide_eq_false kz)) (ab rfl (bX DK t3) (aA rfl (kl rfl (by ext) DK ?h2 (by ext) (aA rfl (cr))))))) ⟩
   all_goals rfl
abbrev qz:Scope:=aJ ao.st
theorem Dw:qz.names.lookup ("PortugueseStemmer":Str)=some .globalImplicit:=by rfl'
theorem uC:qz.names.lookup ("among_var":Str)=some .local:=by rfl'
theorem HR:SL qz di:=⟨by rfl',by rfl'⟩
theorem og(k:Int):SL qz (ρ2 k):=⟨by rfl',by rfl'⟩
theorem HZ(k:Int):VL qz (ρ2 k) "among_var" (.int k):=⟨by decide+kernel,by decide+kernel,uC,by rfl'⟩
noncomputable def ga(k v1:Int)(o:af):af:=((("self":Str),V.self):Str×V) :: ((("among_var":Str),V.int k):Str×V) :: ((("v_1":Str),V.int v1):Str×V) :: o
theorem OK(k v:Int):put (ρ2 k) "v_1" (.int v)=ga k v []:=by rfl'
theorem gD(k v:Int)(o:af):SL qz (ga k v o):=⟨by rfl',by rfl'⟩
theorem Pl(k v:Int)(o:af):VL qz (ga k v o) "v_1" (.int v):=(ba (by rfl'))
noncomputable def oF(id:Str)(v:Int):af:=[((id,V.int v):Str×V)]
theorem Lk(k v x:Int):put (ga k v []) "v_2" (.int x)=ga k v (oF "v_2" x):=by rfl'
theorem Li(k v x:Int):put (ga k v []) "v_3" (.int x)=ga k v (oF "v_3" x):=by rfl'
theorem Tr(k v x:Int):VL qz (ga k v (oF "v_2" x)) "v_2" (.int x):=(ba (by rfl'))
theorem Tn(k v x:Int):VL qz (ga k v (oF "v_3" x)) "v_3" (.int x):=(ba (by rfl'))
noncomputable def gu(h:List Nat)(x y:Nat):Bool:=mR h h.length 0 x&&mR h (h.length-1) 0 y
def dQ(w:List Nat)(first:Nat):List Nat:=
 let k:=kindOf (Tk 188 4) (ah (ends 188 4) w)
 let h:=cut w (ah (ends 188 4) w)
 if ah (ends 188 4) w=[] then w
 else if k=1 then (if first≤h.length then (if (gu h 117 103||gu h 105 99)∧first≤h.length-1 then h.take (h.length-1) else h) else w)
 else h++[99]
def wF:Stmt:=aG (dj (ai ao 4)) 3
theorem fh{sc:Scope}{ρ:af}{J:List Nat}{tl:af}{l τ κ lb:Int}(H:SL sc ρ)(ht:tl.length≤50){c c':Int}(hc:c-1=c'){kk:Nat}{p q p2 pos:Pos}(hN:3≤N):(ev N).S sc ρ (ak J c l lb τ κ tl) (.AugAssign (.Attribute (.Name "self" p) "cursor" q) .Sub (.Constant (.int 1) kk p2) pos)=some (.next,ρ,ak J c' l lb τ κ tl):=hc ▸ yw H ht hN
theorem bx{sc:Scope}{ρ X:af}{J:List Nat}{tl:af}{l c τ κ lb:Int}(H:SL sc ρ){id:Str}(hk:sc.names.lookup id=some .local)(hX:put ρ id (.int (l-c))=X){p p1 q1 p2 q2 p3 pos:Pos}(hN:4≤N):(ev N).S sc ρ (ak J c l lb τ κ tl) (.Assign [.Name id p] (.BinOp (.Attribute (.Name "self" p1) "limit" q1) .Sub (.Attribute (.Name "self" p2) "cursor" q2) p3) pos)=some (.next,X,ak J c l lb τ κ tl):=hX ▸ vC hN H hk
theorem cz{sc:Scope}{ρ:af}{J:List Nat}{tl:af}{l c c' τ κ lb:Int}(H:SL sc ρ)(ht:tl.length≤50){id:Str}{v:Int}(hv:VL sc ρ id (.int v))(hc:l-v=c'){p q p' q' p2 p3 pos:Pos}(hN:5≤N):(ev N).S sc ρ (ak J c l lb τ κ tl) (.Assign [.Attribute (.Name "self" p) "cursor" q] (.BinOp (.Attribute (.Name "self" p') "limit" q') .Sub (.Name id p2) p3) pos)=some (.next,ρ,ak J c' l lb τ κ tl):=hc ▸ gq (hN:=hN) H ht hv
theorem xX{h:List Nat}{c x y:Nat}(hne:x≠y)(hx:mR h c 0 x=true):mR h c 0 y=false:=by
 unfold mR at hx ⊢;rw[Bool.and_eq_true,beq_iff_eq] at hx;rw[hx.2];cases decide (0<c)
 ·rfl
 ·simp[hne]
theorem ez{h:List Nat}{c x:Nat}(hx:mR h c 0 x=true):0<c:=by
 unfold mR at hx;rw[Bool.and_eq_true,decide_eq_true_eq] at hx;exact hx.1
theorem Ln{h:List Nat}{k:Int}(hN:60≤N)(hl:h.length≤1000):(∃ ρ',(gu h 117 103||gu h 105 99)=true∧(ev N).S qz (ρ2 k) (lM h h.length h.length pV p1 p2) wF=some (.next,ρ',ak h ((h.length-1:Nat):Int) h.length (0:Nat) ((h.length-1:Nat):Int) h.length (aV pV p1 p2))∧SL qz ρ')∨
  (∃ ρ' c' b',(gu h 117 103||gu h 105 99)=false∧(ev N).S qz (ρ2 k) (lM h h.length h.length pV p1 p2) wF=some (.ret (.bool false),ρ',ak h c' h.length (0:Nat) b' h.length (aV pV p1 p2))):=by
 obtain⟨M,rfl⟩:∃ M,N=M+40:=⟨N-40,by ext⟩;have t3:(aV (pV:Int) p1 (p2:Int)).length≤50:=show 3≤50 by decide
 have z0:put (ρ2 k) "v_1" (.int ((h.length:Int)-h.length))=ga k (0:Nat) []:=by rw[Int.sub_self];exact OK k (0:Nat)
 have b0:(h.length:Int)-(0:Nat)=h.length:=by ext
 cases hu:mR h h.length 0 117 with
 | true=>
  have hp:=ez hu;have d1:(h.length:Int)-1=((h.length-1:Nat):Int):=by ext
  have z2:put (ga k (0:Nat) []) "v_2" (.int ((h.length:Int)-((h.length-1:Nat):Int)))=ga k (0:Nat) (oF "v_2" 1):=by rw[show (h.length:Int)-((h.length-1:Nat):Int)=1 by ext];exact Lk _ _ _
  cases hg:mR h (h.length-1) 0 103 with
  | true=>
   have hp2:=ez hg;have d2:((h.length-1:Nat):Int)-1=((h.length-2:Nat):Int):=by ext
   refine .inl ⟨ga k (0:Nat) (oF "v_2" 1),by unfold gu;rw[hu,hg];rfl,aq (jh rfl (by ext) (x:=.brk) (ab rfl (bx (og k) (by rfl') z0 (by ext)) (iX rfl (zE rfl (ab rfl (bt rfl (dJ (gD _ _ _) GT (le_refl _)) (by rw[hu];rfl)) (ab rfl (fh (gD _ _ _) t3 d1 (by ext)) (ab rfl (bX (gD _ _ _) t3) (ab rfl (bx (gD _ _ _) (by rfl') z2 (by ext)) (ab rfl (bt rfl (dJ (gD _ _ _) (by rfl') (by ext)) (by rw[hg];rfl)) (ab rfl (fh (gD _ _ _) t3 d2 (by ext)) (ab rfl (cz (gD _ _ _) t3 (Tr _ _ _) d1 (by ext)) (iX rfl (gk)))))))))))) ⟨fun q=>(by cases q),fun q=>(by cases q)⟩) rfl,gD _ _ _⟩
  | false=>
   have hi:=xX (y:=105) (by decide) hu;refine .inr ⟨ga k (0:Nat) (oF "v_2" 1),h.length,((h.length-1:Nat):Int),by unfold gu;rw[hu,hg,hi];rfl,aq (jh rfl (by ext) (x:=.ret (.bool false)) (ab rfl (bx (og k) (by rfl') z0 (by ext)) (ab rfl (du rfl (by rfl') (ab rfl (bt rfl (dJ (gD _ _ _) GT (le_refl _)) (by rw[hu];rfl)) (ab rfl (fh (gD _ _ _) t3 d1 (by ext)) (ab rfl (bX (gD _ _ _) t3) (ab rfl (bx (gD _ _ _) (by rfl') z2 (by ext)) (bF rfl (bB rfl (dJ (gD _ _ _) (by rfl') (by ext)) (by rw[hg];rfl) (bF rfl (cu (by rfl')))))))))) (ab rfl (cz (gD _ _ _) t3 (Pl _ _ _) b0 (by ext)) (aA rfl (bB rfl (dJ (gD _ _ _) I9 (le_refl _)) (by rw[hi];rfl) (aA rfl (cr))))))) ⟨fun q=>(by cases q),fun q=>(by cases q)⟩) rfl⟩
 | false=>
  cases hi:mR h h.length 0 105 with
  | true=>
   have hp:=ez hi;have d1:(h.length:Int)-1=((h.length-1:Nat):Int):=by ext
   have z3:put (ga k (0:Nat) []) "v_3" (.int ((h.length:Int)-((h.length-1:Nat):Int)))=ga k (0:Nat) (oF "v_3" 1):=by rw[show (h.length:Int)-((h.length-1:Nat):Int)=1 by ext];exact Li _ _ _
   cases hc:mR h (h.length-1) 0 99 with
   | true=>
    have hp2:=ez hc;have d2:((h.length-1:Nat):Int)-1=((h.length-2:Nat):Int):=by ext
    refine .inl ⟨ga k (0:Nat) (oF "v_3" 1),by unfold gu;rw[hu,hi,hc];rfl,aq (jh rfl (by ext) (x:=.brk) (ab rfl (bx (og k) (by rfl') z0 (by ext)) (ab rfl (du rfl (by rfl') (bF rfl (bB rfl (dJ (gD _ _ _) GT (le_refl _)) (by rw[hu];rfl) (bF rfl (cu (by rfl')))))) (ab rfl (cz (gD _ _ _) t3 (Pl _ _ _) b0 (by ext)) (ab rfl (bt rfl (dJ (gD _ _ _) I9 (le_refl _)) (by rw[hi];rfl)) (ab rfl (fh (gD _ _ _) t3 d1 (by ext)) (ab rfl (bX (gD _ _ _) t3) (ab rfl (bx (gD _ _ _) (by rfl') z3 (by ext)) (ab rfl (bt rfl (dJ (gD _ _ _) I6 (by ext)) (by rw[hc];rfl)) (ab rfl (fh (gD _ _ _) t3 d2 (by ext)) (ab rfl (cz (gD _ _ _) t3 (Tn _ _ _) d1 (by ext)) (iX rfl (gk)))))))))))) ⟨fun q=>(by cases q),fun q=>(by cases q)⟩) rfl,gD _ _ _⟩
   | false=>
    refine .inr ⟨ga k (0:Nat) (oF "v_3" 1),((h.length-1:Nat):Int),((h.length-1:Nat):Int),by unfold gu;rw[hu,hi,hc];rfl,aq (jh rfl (by ext) (x:=.ret (.bool false)) (ab rfl (bx (og k) (by rfl') z0 (by ext)) (ab rfl (du rfl (by rfl') (bF rfl (bB rfl (dJ (gD _ _ _) GT (le_refl _)) (by rw[hu];rfl) (bF rfl (cu (by rfl')))))) (ab rfl (cz (gD _ _ _) t3 (Pl _ _ _) b0 (by ext)) (ab rfl (bt rfl (dJ (gD _ _ _) I9 (le_refl _)) (by rw[hi];rfl)) (ab rfl (fh (gD _ _ _) t3 d1 (by ext)) (ab rfl (bX (gD _ _ _) t3) (ab rfl (bx (gD _ _ _) (by rfl') z3 (by ext)) (aA rfl (bB rfl (dJ (gD _ _ _) I6 (by ext)) (by rw[hc];rfl) (aA rfl (cr))))))))))) ⟨fun q=>(by cases q),fun q=>(by cases q)⟩) rfl⟩
  | false=>
   refine .inr ⟨ga k (0:Nat) [],h.length,h.length,by unfold gu;rw[hu,hi];rfl,aq (jh rfl (by ext) (x:=.ret (.bool false)) (ab rfl (bx (og k) (by rfl') z0 (by ext)) (ab rfl (du rfl (by rfl') (bF rfl (bB rfl (dJ (gD _ _ _) GT (le_refl _)) (by rw[hu];rfl) (bF rfl (cu (by rfl')))))) (ab rfl (cz (gD _ _ _) t3 (Pl _ _ _) b0 (by ext)) (aA rfl (bB rfl (dJ (gD _ _ _) I9 (le_refl _)) (by rw[hi];rfl) (aA rfl (cr))))))) ⟨fun q=>(by cases q),fun q=>(by cases q)⟩) rfl⟩
end
section
variable {w:List Nat}{A pV p1 p2 N M:Nat}
theorem rf{sc:Scope}{ρ:af}(H:SL sc ρ){apos pos p q:Pos}(hok:ax (.Name "self" p) [] apos pos=true){P1 P2:Int}{a:Nat}(h:a<w.length)(hl:w.length≤1000)(hN:44≤N):(ev N).S sc ρ (ak w a w.length (0:Nat) a w.length (aV P1 p1 P2)) (.Expr (.Call (.Attribute (.Name "self" p) "slice_del" apos) [] [] pos) q)=some (.next,ρ,lM (w.take a) (w.take a).length (w.take a).length P1 p1 P2):=by
 have:=eu (pV:=P1) (p1:=p1) (P2:=P2) (q:=q) (hN:=hN) H hok h hl;rw[tkl h];exact this
theorem ib:br ao.st=[ai ao 0,ai ao 1,ai ao 2,ai ao 3,ai ao 4,ai ao 5]:=by rfl'
theorem r8:(Tk 188 4).all (fun x=>decide (x.r=1∨x.r=2))=true:=by rfl'
def f1:List Stmt:=dj (ai ao 4)
theorem EH:f1=[aG f1 0,aG f1 1,aG f1 2,wF,aG f1 4,aG f1 5]:=by rfl'
def f4:Stmt:=ai ao 4
theorem Ac:f4=.If (iH f4) f1 (E2 f4) (BX f4):=by rfl'
theorem zY{h:List Nat}(hg:(gu h 117 103||gu h 105 99)=true):0<h.length:=by
 unfold gu at hg;rw[Bool.or_eq_true,Bool.and_eq_true,Bool.and_eq_true] at hg;rcases hg with h | h
 ·exact ez h.1
 ·exact ez h.1
theorem tF(hN:4≤N){k:Int}{X:af}:(ev N).T qz (ρ2 k) X (iH f4)=some (decide (k=1),X):=by
 obtain⟨K,rfl⟩:∃ K,N=K+2:=⟨N-2,by ext⟩;obtain⟨p,p',q,kk,e⟩:∃ (p p' q:Pos) (kk:Nat),iH f4=.Compare (.Name "among_var" p) [.Eq] [.Constant (.int 1) kk p'] q:=⟨_,_,_,_,rfl⟩;rw[e];exact bl rfl (au (HZ k))
theorem N4(hN:100≤N)(hl:w.length≤1000)(ha:A<w.length):∃ x ρ' w' c' b' k',(ev N).S qz (ρ2 1) (ak w A w.length (0:Nat) A w.length (aV pV p1 p2)) f4=some (x,ρ',ak w' c' w'.length (0:Nat) b' k' (aV pV p1 p2))∧(x=.next∨x=.ret (.bool false))∧
  w'=(if pV≤(w.take A).length then (if (gu (w.take A) 117 103||gu (w.take A) 105 99)∧pV≤(w.take A).length-1 then (w.take A).take ((w.take A).length-1) else w.take A) else w):=by
 obtain⟨M,rfl⟩:∃ M,N=M+40:=⟨N-40,by ext⟩;have t3:(aV (pV:Int) p1 (p2:Int)).length≤50:=show 3≤50 by decide
 have htk:=tkl ha;have hlt:(w.take A).length≤1000:=by ext
 have tf:=tF (N:=M+39) (by ext) (k:=1) (X:=ak w A w.length (0:Nat) A w.length (aV pV p1 p2));by_cases hp:pV≤A
 ·rw[if_pos (by ext)];have D:∀ {q q' q2 q3:Pos} (hok:ax (.Name "self" q) [] q' q2=true),(ev (M+37)).S qz (ρ2 1) (ak w A w.length (0:Nat) A w.length (aV pV p1 p2)) (.Expr (.Call (.Attribute (.Name "self" q) "slice_del" q') [] [] q2) q3)=some (.next,ρ2 1,lM (w.take A) (w.take A).length (w.take A).length pV p1 p2):=fun hok=>rf (og 1) hok ha hl (by ext)
  generalize w.take A=h at*;have pre:∀ {r},(ev (M+36)).SS qz (ρ2 1) (lM h h.length h.length pV p1 p2) [wF,aG f1 4,aG f1 5]=r→(ev (M+40)).S qz (ρ2 1) (ak w A w.length (0:Nat) A w.length (aV pV p1 p2)) f4=r:=fun {r} hr=>by
   rw[Ac];refine bB rfl tf rfl ?_;rw[EH];refine ab (ρ':=ρ2 1) rfl (aq (ip (og 1) ?u1 (by ext)) rfl) ?_
   ·rfl
   refine ab rfl (aq (D ?u2) rfl) ?_
   ·rfl
   exact ab rfl (aq (bI (og 1) t3) rfl) hr
  rcases Ln (N:=M+35) (h:=h) (k:=1) (pV:=pV) (p1:=p1) (p2:=p2) (by ext) hlt with ⟨ρ',hg,hw,hsl⟩ | ⟨ρ',c',b',hg,hw⟩
  ·have hpos:=zY hg;by_cases hp2:pV≤h.length-1
   ·rw[if_pos ⟨hg,hp2⟩];refine⟨.next,ρ',h.take (h.length-1),((h.take (h.length-1)).length:Nat),((h.take (h.length-1)).length:Nat),((h.take (h.length-1)).length:Nat),pre ?_,.inl rfl,rfl⟩;refine ab rfl hw ?_;refine ab (ρ':=ρ') rfl (aq (ip hsl ?u3 (by ext)) rfl) ?_
    ·rfl
    refine aP rfl (aq (rf hsl ?u4 (by ext) hlt (by ext)) rfl);rfl
   ·rw[if_neg (fun q=>hp2 q.2)];refine⟨.ret (.bool false),ρ',h,((h.length-1:Nat):Int),((h.length-1:Nat):Int),h.length,pre ?_,.inr rfl,rfl⟩;refine ab rfl hw ?_;refine aA rfl (aq (kl rfl (by ext) hsl ?u5 (by ext) (aA rfl (cr))) rfl);rfl
  ·rw[if_neg (fun q=>by rw[hg] at q;exact absurd q.1 (by decide))];exact⟨.ret (.bool false),ρ',h,c',b',h.length,pre (aA rfl hw),.inr rfl,rfl⟩
 ·rw[if_neg (by ext)];refine⟨.ret (.bool false),ρ2 1,w,A,A,w.length,?_,.inr rfl,rfl⟩;rw[Ac];refine bB rfl tf rfl ?_;rw[EH];refine aA rfl (aq (kl rfl (by ext) (og 1) ?u6 (by ext) (aA rfl (cr))) rfl);rfl
theorem A0{τ κ:Int}(hN:345≤N)(hl:w.length≤1000):∃ b c' b' k',(ev N).C ao [.self] (lM w τ κ pV p1 p2)=some (.bool b,ak (dQ w pV) c' (dQ w pV).length (0:Nat) b' k' (aV pV p1 p2)):=by
 obtain⟨M,rfl⟩:∃ M,N=M+20:=⟨N-20,by ext⟩;have t3:(aV (pV:Int) p1 (p2:Int)).length≤50:=show 3≤50 by decide
 have F:=fun (m:Nat) (hm:312≤m) {p apos pos q q2:Pos} hok=>BL (N:=m) (w:=w) (τ:=τ) (κ:=w.length) (PV:=pV) (P1:=p1) (P2:=(p2:Int)) (p:=p) (apos:=apos) (pos:=pos) (q:=q) (q2:=q2) Dw HR hm Jo (show 4≤120 by decide) hl TF hok
 have hF:dQ w pV=if ah (ends 188 4) w=[] then w else if kindOf (Tk 188 4) (ah (ends 188 4) w)=1 then (if pV≤(cut w (ah (ends 188 4) w)).length then (if (gu (cut w (ah (ends 188 4) w)) 117 103||gu (cut w (ah (ends 188 4) w)) 105 99)∧pV≤(cut w (ah (ends 188 4) w)).length-1 then (cut w (ah (ends 188 4) w)).take ((cut w (ah (ends 188 4) w)).length-1) else (cut w (ah (ends 188 4) w))) else w) else (cut w (ah (ends 188 4) w))++[99]:=rfl
 have p1':∀ k:Int,put di "among_var" (.int k)=ρ2 k:=KD;by_cases he:ah (ends 188 4) w=[]
 ·rw[if_pos he] at hF;rw[hF];rw[he,fI Jo,gi] at F;refine⟨false,w.length,τ,w.length,bC rfl rfl rfl ib (ρ':=ρ2 0) (ab (ρ':=di) rfl (aq (bI HR t3) rfl) (ab rfl (aq (bz rfl rfl uC (F _ (by ext) ?u7)) rfl) (aA (ρ':=ρ2 0) rfl (aq (bB rfl (bl rfl (au (HZ 0))) rfl (aA rfl (cr))) rfl))))⟩;rfl
 ·rw[if_neg he] at hF;have kz:=iC (P:=fun r=>decide (r=1∨r=2)) r8 rfl he;have kz:kindOf (Tk 188 4) (ah (ends 188 4) w)=1∨kindOf (Tk 188 4) (ah (ends 188 4) w)=2:=of_decide_eq_true kz;have hp:=hZ he;have hle:=cX (es:=ends 188 4) (t:=w);have hcl:=dP (w:=w) (e:=ah (ends 188 4) w);have hct:cut w (ah (ends 188 4) w)=w.take (w.length-(ah (ends 188 4) w).length):=rfl;rw[hct] at hF;rw[hcl] at F;generalize kindOf (Tk 188 4) (ah (ends 188 4) w)=kd at*;have ha:w.length-(ah (ends 188 4) w).length<w.length:=by ext
  generalize w.length-(ah (ends 188 4) w).length=A at*;have pre:∀ {r},(ev (M+15)).SS qz (ρ2 kd) (ak w A w.length (0:Nat) A w.length (aV pV p1 p2)) [f4,ai ao 5]=r→(ev (M+19)).SS qz di (lM w τ κ pV p1 p2) [ai ao 0,ai ao 1,ai ao 2,ai ao 3,ai ao 4,ai ao 5]=r:=fun {r} hr=>by
   refine ab (ρ':=di) rfl (aq (bI HR t3) rfl) ?_;refine ab rfl (aq (bz rfl rfl uC (F _ (by ext) ?u8)) rfl) ?_
   ·rfl
   rw[KD];refine ab (ρ':=ρ2 kd) rfl (aq (bt rfl (bl rfl (au (HZ kd))) (ZF)) rfl) ?_;exact ab rfl (aq (bX (og kd) t3) rfl) hr
  rcases kz with rfl | rfl
  ·rw[if_pos rfl] at hF;refine Sk (N4 (N:=M+14) (w:=w) (A:=A) (pV:=pV) (p1:=p1) (p2:=p2) (by ext) hl ha) fun x ρ' w' c' b' k' zz=>ee zz fun h hx hw=>?_
   rw[hF,←hw];rcases hx with rfl | rfl
   ·exact⟨true,c',b',k',bC rfl rfl rfl ib (pre (ab rfl h (aA rfl (aq (cr) rfl))))⟩
   ·exact⟨false,c',b',k',bC rfl rfl rfl ib (pre (aA rfl h))⟩
  ·rw[if_neg (by decide)] at hF;rw[hF];have tf:=tF (N:=M+13) (by ext) (k:=2) (X:=ak w A w.length (0:Nat) A w.length (aV pV p1 p2));have h:(ev (M+14)).S qz (ρ2 2) (ak w A w.length (0:Nat) A w.length (aV pV p1 p2)) f4=some (.next,ρ2 2,ak (w.take A++[99]) A (w.take A++[99]).length (0:Nat) A (w.take A++[99]).length (aV pV p1 p2)):=by
    rw[Ac];refine gz rfl tf rfl ?_;refine iW (aP rfl (jV (og 2) I6 (by decide) (le_refl _) ha hl ?u9 (by ext))) rfl;rfl
   exact⟨true,A,A,((w.take A++[99]).length:Nat),bC rfl rfl rfl ib (pre (ab rfl h (aA rfl (aq (cr) rfl))))⟩
end
noncomputable def bw(tb:List V)(i j c l ci cj:Int)(fk:Bool)(tl:af):af:=((("self":Str),V.self):Str×V) :: ((("v":Str),V.list tb):Str×V) :: ((("i":Str),V.int i):Str×V) :: ((("j":Str),V.int j):Str×V) :: ((("c":Str),V.int c):Str×V) :: ((("l":Str),V.int l):Str×V) :: ((("common_i":Str),V.int ci):Str×V) :: ((("common_j":Str),V.int cj):Str×V) :: ((("first_key_inspected":Str),V.bool fk):Str×V) :: tl
abbrev kX:Scope:=aJ an.st
def gn:List Stmt:=dj (ai an 7)
def Im:List Stmt:=dj (aG gn 4)
noncomputable def eF(T:List aC)(k:Nat):List Nat:=(T.getD k e0).s
section
variable {J s:List Nat}{c:Nat}{lb τ κ i j ci cj k:Int}{fk:Bool}{tb:List V}{sub res:Int}{tl:af}
theorem Jl(hc:c≤J.length)(r:Nat):∀ (n q:Nat) (o:Option Int),r=s.length-q→q≤J.length-c→
  ∃ d q' o',(ev (n+r+20)).F kX (bw tb i j c J.length ci cj fk (kT k 0 q (.amg s sub res) (iT o))) (ak J c J.length lb τ κ tl) "i2" (bg (q:Int) 1 r) Im
   = some (.next,bw tb i j c J.length ci cj fk (kT k d q' (.amg s sub res) (iT o')),ak J c J.length lb τ κ tl)∧(d<0↔ey ((J.drop c).drop q) (s.drop q)=true)∧q'=((q+lcp (s.drop q) ((J.drop c).drop q):Nat):Int):=by
 induction r with
 | zero=>
  intro n q o hq hq2;rw[show s.drop q=[] from List.drop_eq_nil_of_le (Nat.le_of_sub_eq_zero hq.symm),vJ];exact⟨0,q,o,rfl,Av,rfl⟩
 | succ r ih=>
  intro n q o hq hq2;obtain⟨hsq,hr⟩:=ps hq;obtain⟨y,hy⟩:=dc (l:=s) (k:=q) hsq;have put2:put (bw tb i j c J.length ci cj fk (kT k 0 q (.amg s sub res) (iT o))) "i2" (.int (q:Int))=bw tb i j c J.length ci cj fk (kT k 0 q (.amg s sub res) (iT (some (q:Int)))):=by cases o<;>rfl
  rw[ig hy];rw[show n+(r+1)+20=n+r+20+1 from rfl];by_cases he:q=J.length-c
  ·rw[show (J.drop c).drop q=[] from List.drop_eq_nil_of_le (by rw[length_drop];exact Nat.le_of_eq he.symm)];refine⟨-1,q,some (q:Int),jj (y:=.brk) ?_ rfl,zb,rfl⟩;rw[put2];exact bh (bQ (c:=decide ((c:Int)+q=J.length)) (cS rfl rfl) (decide_eq_true (Um hc he)) (aa rfl (bh rfl)))
  ·have hlt:=Nat.lt_of_le_of_ne hq2 he;obtain⟨x,hx⟩:=dc (l:=J) (k:=c+q) (Nat.add_lt_of_lt_sub' hlt);rw[ig (List.getElem?_drop.trans hx)];have dif:(ev (n+r+18)).S kX (bw tb i j c J.length ci cj fk (kT k 0 q (.amg s sub res) (iT (some (q:Int))))) (ak J c J.length lb τ κ tl) (aG Im 1)=some (.next,bw tb i j c J.length ci cj fk (kT k ((x:Int)-y) q (.amg s sub res) (iT (some (q:Int)))),ak J c J.length lb τ κ tl):=
    dh (v:=.int ((x:Int)-y)) rfl rfl (mw (v7 rfl (dD (fun _ _ _ q=>by cases q) rfl rfl rfl (pq rfl hx))) (v7 rfl (dD (fun _ _ _ q=>by cases q) rfl rfl rfl (pq rfl hy))))
   by_cases hxy:x=y
   ·subst hxy;obtain⟨d,q',o',h1,h2,h3⟩:=ih n (q+1) (some (q:Int)) hr hlt;rw[v5,jJ];refine⟨d,q',o',jj (y:=.next) (ρ':=bw tb i j c J.length ci cj fk (kT k 0 ((q+1:Nat):Int) (.amg s sub res) (iT (some (q:Int))))) (Y':=ak J c J.length lb τ κ tl) ?_ h1,h2,by rw[h3,Nat.add_right_comm];rfl⟩;rw[put2];refine aa (bD (c:=decide ((c:Int)+q=J.length)) (cS rfl rfl) (decide_eq_false (SH hc hlt)) rfl) ?_;refine aa dif ?_;rw[Int.sub_self];exact aa (bD (c:=!decide ((0:Int)=0)) rfl rfl rfl) (aa rfl rfl)
   ·rw[uG (Ne.symm hxy)];refine⟨(x:Int)-y,q,some (q:Int),jj (y:=.brk) ?_ rfl,EI hxy,rfl⟩;rw[put2];refine aa (bD (c:=decide ((c:Int)+q=J.length)) (cS rfl rfl) (decide_eq_false (SH hc hlt)) rfl) ?_;refine aa dif ?_;exact bh (bQ (c:=!decide ((x:Int)-y=0)) rfl (zd hxy) (bh rfl))
end
section
variable {n:Nat}{sc:Scope}{ρ Y Y':af}{r:Option (Fl×af×af)}
theorem Gz{x g:Str}{q p q2 p2:Pos}{args:List Expr}{b:List Stmt}{a b':Int}{xs:List V}(hg:g="range")(h1:sc.names.lookup g=some .globalImplicit)(h2:sc.names.lookup x=some .local)(ha:dl (ev n).E sc ρ Y args=some ([.int a,.int b'],Y))(hr:cD a b' 1=some xs)(k:(ev n).F sc ρ Y x xs b=r):
  (ev (n+1)).S sc ρ Y (.For (.Name x q) (.Call (.Name g p) args [] q2) b [] p2)=r:=by
 subst hg;exact oj rfl h2 (kH h1 ha rfl hr) k
theorem w7{a b:Int}{m:Nat}(h1:0≤a)(h2:a≤2097152)(h3:0≤b)(h4:b≤2097152)(hm:(b-a).toNat=m):cD a b 1=some (bg a 1 m):=by
 unfold cD DR;rw[decide_eq_true (show -2097152≤a by ext),decide_eq_true h2,decide_eq_true (show -2097152≤b by ext),decide_eq_true h4];show some (bg a 1 (b-a).toNat)=_;rw[hm]
end
section
variable {J:List Nat}{c:Nat}{lb τ κ:Int}{T:List aC}{tl:af}
theorem Ar:gn=aG gn 0 :: aG gn 1 :: aG gn 2 :: aG gn 3 :: aG gn 4 :: aG gn 5 :: aG gn 6 :: []:=by rfl'
theorem Hp(n:Nat){i j ci cj k:Nat}{fk:Bool}{x:aC}{tL:af}(ht:TL tL)(hij:i≤j)(hk:i+(j-i) / 2=k)(hx:T[k]?=some x):∃ o,∀ r,
  (ev (n+20)).SS kX (bw (T.map aC.v) i j c J.length ci cj fk (kT k 0 (min ci cj:Nat) (.amg x.s x.i x.r) (iT o))) (ak J c J.length lb τ κ tl) [aG gn 4,aG gn 5,aG gn 6]=r→
  (ev (n+24)).SS kX (bw (T.map aC.v) i j c J.length ci cj fk tL) (ak J c J.length lb τ κ tl) gn=r:=by
 have ek:(i:Int)+((j:Int)-i).fdiv 2=(k:Int):=by
  rw[Int.fdiv_eq_ediv_of_nonneg _ (by ext)];ext
 have eq:min (ci:Int) (cj:Int)=((min ci cj:Nat):Int):=by ext
 have hw:=rZ (l:=T.map aC.v) (z:=(k:Int)) rfl (Et hx);rcases ht with rfl | ⟨k0,d0,q0,w0,o,rfl⟩
 ·refine⟨none,fun r h=>?_⟩;rw[Ar];refine aa (ρ':=bw (T.map aC.v) i j c J.length ci cj fk [((("k":Str),V.int k):Str×V)]) (Y':=ak J c J.length lb τ κ tl) (dh (v:=.int k) rfl rfl ?_) ?_
  ·rw[←ek];rfl
  refine aa (ρ':=bw (T.map aC.v) i j c J.length ci cj fk [((("k":Str),V.int k):Str×V),((("diff":Str),V.int 0):Str×V)]) (Y':=ak J c J.length lb τ κ tl) rfl ?_;refine aa (ρ':=bw (T.map aC.v) i j c J.length ci cj fk [((("k":Str),V.int k):Str×V),((("diff":Str),V.int 0):Str×V),((("common":Str),V.int (min ci cj:Nat)):Str×V)]) (Y':=ak J c J.length lb τ κ tl) (dh (v:=.int (min ci cj:Nat)) rfl rfl ?_) ?_
  ·rw[←eq];rfl
  refine aa (ρ':=bw (T.map aC.v) i j c J.length ci cj fk (kT k 0 (min ci cj:Nat) (.amg x.s x.i x.r) (iT none))) (Y':=ak J c J.length lb τ κ tl) (dh (v:=.amg x.s x.i x.r) rfl rfl (fP (fun _ _ _ q=>by cases q) rfl rfl rfl hw)) ?_;exact h
 ·refine⟨o,fun r h=>?_⟩;rw[Ar];refine aa (ρ':=bw (T.map aC.v) i j c J.length ci cj fk (kT k d0 q0 w0 (iT o))) (Y':=ak J c J.length lb τ κ tl) (dh (v:=.int k) rfl rfl ?_) ?_
  ·rw[←ek];rfl
  refine aa (ρ':=bw (T.map aC.v) i j c J.length ci cj fk (kT k 0 q0 w0 (iT o))) (Y':=ak J c J.length lb τ κ tl) rfl ?_;refine aa (ρ':=bw (T.map aC.v) i j c J.length ci cj fk (kT k 0 (min ci cj:Nat) w0 (iT o))) (Y':=ak J c J.length lb τ κ tl) (dh (v:=.int (min ci cj:Nat)) rfl rfl ?_) ?_
  ·rw[←eq];rfl
  refine aa (ρ':=bw (T.map aC.v) i j c J.length ci cj fk (kT k 0 (min ci cj:Nat) (.amg x.s x.i x.r) (iT o))) (Y':=ak J c J.length lb τ κ tl) (dh (v:=.amg x.s x.i x.r) rfl rfl (fP (fun _ _ _ q=>by cases q) rfl rfl rfl hw)) ?_;exact h
theorem MP:aG gn 4=.For (.Name "i2" (tE (aG gn 4)).1) (.Call (.Name "range" (tE (aG gn 4)).2.1) (CT (aG gn 4)) [] (tE (aG gn 4)).2.2.1) Im [] (tE (aG gn 4)).2.2.2:=by rfl'
theorem xV(n:Nat){i j ci cj k d:Int}{q:Nat}{fk:Bool}{x:aC}{o:Option Int}:dl (ev (n+20)).E kX (bw (T.map aC.v) i j c J.length ci cj fk (kT k d q (.amg x.s x.i x.r) (iT o))) (ak J c J.length lb τ κ tl) (CT (aG gn 4))=some ([.int (q:Int),.int (x.s.length:Int)],ak J c J.length lb τ κ tl):=rfl
theorem NX(n:Nat){i j ci cj k:Int}{q:Nat}{fk:Bool}{x:aC}{o:Option Int}(hc:c≤J.length)(hs:x.s.length≤100)(hl:J.length≤1000)(hq:q≤J.length-c):∃ d o',
  (ev (n+130)).S kX (bw (T.map aC.v) i j c J.length ci cj fk (kT k 0 q (.amg x.s x.i x.r) (iT o))) (ak J c J.length lb τ κ tl) (aG gn 4)=
   some (.next,bw (T.map aC.v) i j c J.length ci cj fk (kT k d ((q+lcp (x.s.drop q) ((J.drop c).drop q):Nat):Int) (.amg x.s x.i x.r) (iT o')),ak J c J.length lb τ κ tl)∧(d<0↔ey ((J.drop c).drop q) (x.s.drop q)=true):=by
 obtain⟨r,hr⟩:∃ r,r=x.s.length-q:=⟨_,rfl⟩;obtain⟨m,hm⟩:∃ m,n+129=m+r+20:=⟨n+109-r,by ext⟩;obtain⟨d,q',o',h1,h2,h3⟩:=Jl (J:=J) (s:=x.s) (c:=c) (lb:=lb) (τ:=τ) (κ:=κ) (i:=i) (j:=j) (ci:=ci) (cj:=cj) (k:=k) (fk:=fk) (tb:=T.map aC.v) (sub:=x.i) (res:=x.r) (tl:=tl) hc r m q o hr hq;refine⟨d,o',?_,h2⟩;rw[h3] at h1;rw[←hm] at h1;show (ev (n+129+1)).S _ _ _ _=_;rw[MP];exact Gz rfl rfl rfl (xV (n+109)) (w7 (by ext) (by ext) (by ext) (by ext) (by ext)) h1
end
theorem wy:ai an 7=.While (.Constant (.bool true) (cT (iH (ai an 7))).1 (cT (iH (ai an 7))).2) gn [] (BX (ai an 7)):=by rfl'
def wX:List Stmt:=dj (ai an 8)
theorem xH:ai an 8=.While (.Constant (.bool true) (cT (iH (ai an 8))).1 (cT (iH (ai an 8))).2) wX [] (BX (ai an 8)):=by rfl'
theorem Ht:wX=aG wX 0 :: aG wX 1 :: aG wX 2 :: aG wX 3 :: []:=by rfl'
theorem yq:br an.st=ai an 0 :: ai an 1 :: ai an 2 :: ai an 3 :: ai an 4 :: ai an 5 :: ai an 6 :: ai an 7 :: ai an 8 :: ai an 9 :: []:=by rfl'
section
variable {J:List Nat}{c:Nat}{lb τ κ:Int}{T:List aC}{tl:af}
theorem FP(n:Nat){i j ci cj k d q:Int}{fk:Bool}{w:V}{o:Option Int}(h:d<0):(ev (n+20)).S kX (bw (T.map aC.v) i j c J.length ci cj fk (kT k d q w (iT o))) (ak J c J.length lb τ κ tl) (aG gn 5)=some (.next,bw (T.map aC.v) i k c J.length ci q fk (kT k d q w (iT o)),ak J c J.length lb τ κ tl):=
 bQ (c:=decide (d<0)) rfl (decide_eq_true h) rfl
theorem Io(n:Nat){i j ci cj k d q:Int}{fk:Bool}{w:V}{o:Option Int}(h:¬ d<0):(ev (n+20)).S kX (bw (T.map aC.v) i j c J.length ci cj fk (kT k d q w (iT o))) (ak J c J.length lb τ κ tl) (aG gn 5)=some (.next,bw (T.map aC.v) k j c J.length q cj fk (kT k d q w (iT o)),ak J c J.length lb τ κ tl):=
 bD (c:=decide (d<0)) rfl (decide_eq_false h) rfl
theorem FE(n:Nat){i j ci cj:Int}{fk:Bool}{tL:af}(h:¬ j-i≤1):(ev (n+20)).SS kX (bw (T.map aC.v) i j c J.length ci cj fk tL) (ak J c J.length lb τ κ tl) [aG gn 6]=some (.next,bw (T.map aC.v) i j c J.length ci cj fk tL,ak J c J.length lb τ κ tl):=
 aa (bD (c:=decide (j-i≤1)) rfl (decide_eq_false h) rfl) rfl
theorem Ef(n:Nat){i j ci cj:Int}{fk:Bool}{tL:af}(h:j-i≤1)(hi:0<i):(ev (n+20)).SS kX (bw (T.map aC.v) i j c J.length ci cj fk tL) (ak J c J.length lb τ κ tl) [aG gn 6]=some (.brk,bw (T.map aC.v) i j c J.length ci cj fk tL,ak J c J.length lb τ κ tl):=
 bh (bQ (c:=decide (j-i≤1)) rfl (decide_eq_true h) (bh (bQ (c:=decide (0<i)) rfl (decide_eq_true hi) (bh rfl))))
theorem GB(n:Nat){i j ci cj:Int}{fk:Bool}{tL:af}(h:j-i≤1)(hi:¬ 0<i)(he:j=i):(ev (n+20)).SS kX (bw (T.map aC.v) i j c J.length ci cj fk tL) (ak J c J.length lb τ κ tl) [aG gn 6]=some (.brk,bw (T.map aC.v) i j c J.length ci cj fk tL,ak J c J.length lb τ κ tl):=
 bh (bQ (c:=decide (j-i≤1)) rfl (decide_eq_true h) (aa (bD (c:=decide (0<i)) rfl (decide_eq_false hi) rfl) (bh (bQ (c:=decide (j=i)) (cS rfl rfl) (decide_eq_true he) (bh rfl)))))
theorem FW(n:Nat){i j ci cj:Int}{tL:af}(h:j-i≤1)(hi:¬ 0<i)(he:¬ j=i):(ev (n+20)).SS kX (bw (T.map aC.v) i j c J.length ci cj true tL) (ak J c J.length lb τ κ tl) [aG gn 6]=some (.brk,bw (T.map aC.v) i j c J.length ci cj true tL,ak J c J.length lb τ κ tl):=
 bh (bQ (c:=decide (j-i≤1)) rfl (decide_eq_true h) (aa (bD (c:=decide (0<i)) rfl (decide_eq_false hi) rfl) (aa (bD (c:=decide (j=i)) (cS rfl rfl) (decide_eq_false he) rfl) (bh (bQ (c:=true) rfl rfl (bh rfl))))))
theorem Gn(n:Nat){i j ci cj:Int}{tL:af}(h:j-i≤1)(hi:¬ 0<i)(he:¬ j=i):(ev (n+20)).SS kX (bw (T.map aC.v) i j c J.length ci cj false tL) (ak J c J.length lb τ κ tl) [aG gn 6]=some (.next,bw (T.map aC.v) i j c J.length ci cj true tL,ak J c J.length lb τ κ tl):=
 aa (bQ (c:=decide (j-i≤1)) rfl (decide_eq_true h) (aa (bD (c:=decide (0<i)) rfl (decide_eq_false hi) rfl) (aa (bD (c:=decide (j=i)) (cS rfl rfl) (decide_eq_false he) rfl) (aa (bD (c:=false) rfl rfl rfl) rfl)))) rfl
abbrev So(J:List Nat)(c:Nat)(lb τ κ:Int)(T:List aC)(tl:af)(kk:Nat)(qq:Pos)(f:Nat):Prop:=∀ (i j ci cj:Nat) (fk:Bool) (tL:af) (i' c':Nat),TL tL→i<j→j≤T.length→ci≤J.length-c→cj≤J.length-c→nt (eF T) (J.drop c) f i j ci cj fk=some (i',c')→
  ∃ j' cj' fk' tL',(ev (f+170)).W kX (bw (T.map aC.v) i j c J.length ci cj fk tL) (ak J c J.length lb τ κ tl) (.Constant (.bool true) kk qq) gn=some (.next,bw (T.map aC.v) i' j' c J.length c' cj' fk' tL',(ak J c J.length lb τ κ tl))∧KT tL'
theorem Ge{kk:Nat}{qq:Pos}{f i j ci cj k cc i' c':Nat}{fk lt:Bool}{tL:af}{d:Int}{x:aC}{o:Option Int}(ih:So J c lb τ κ T tl kk qq f)(hk0:i≤k)(hk1:k≤j)(hj:j≤T.length)(hci:ci≤J.length-c)(hcj:cj≤J.length-c)(hcc:cc≤J.length-c)(hd:d<0↔lt=true)
  (turn:∀ r,(ev (f+165)).SS kX (bw (T.map aC.v) i j c J.length ci cj fk (kT k d cc (.amg x.s x.i x.r) (iT o))) (ak J c J.length lb τ κ tl) [aG gn 5,aG gn 6]=r→(ev (f+170)).SS kX (bw (T.map aC.v) i j c J.length ci cj fk tL) (ak J c J.length lb τ κ tl) gn=r)
  (h:(if lt=true then (if k-i≤1 then (if 0<i then some (i,ci) else if k=i then some (i,ci) else if fk then some (i,ci) else nt (eF T) (J.drop c) f i k ci cc true) else nt (eF T) (J.drop c) f i k ci cc fk) else (if j-k≤1 then (if 0<k then some (k,cc) else if j=k then some (k,cc) else if fk then some (k,cc) else nt (eF T) (J.drop c) f k j cc cj true) else nt (eF T) (J.drop c) f k j cc cj fk))=some (i',c')):
  ∃ j' cj' fk' tL',(ev (f+171)).W kX (bw (T.map aC.v) i j c J.length ci cj fk tL) (ak J c J.length lb τ κ tl) (.Constant (.bool true) kk qq) gn=some (.next,bw (T.map aC.v) i' j' c J.length c' cj' fk' tL',(ak J c J.length lb τ κ tl))∧KT tL':=by
 have both:∀ a b ca cb:Nat,a≤b→b≤T.length→ca≤J.length-c→cb≤J.length-c→(ev (f+144+20)).S kX (bw (T.map aC.v) i j c J.length ci cj fk (kT k d cc (.amg x.s x.i x.r) (iT o))) (ak J c J.length lb τ κ tl) (aG gn 5)=some (.next,bw (T.map aC.v) a b c J.length ca cb fk (kT k d cc (.amg x.s x.i x.r) (iT o)),(ak J c J.length lb τ κ tl))→(if b-a≤1 then (if 0<a then some (a,ca) else if b=a then some (a,ca) else if fk then some (a,ca) else nt (eF T) (J.drop c) f a b ca cb true) else nt (eF T) (J.drop c) f a b ca cb fk)=some (i',c')→
   ∃ j' cj' fk' tL',(ev (f+171)).W kX (bw (T.map aC.v) i j c J.length ci cj fk tL) (ak J c J.length lb τ κ tl) (.Constant (.bool true) kk qq) gn=some (.next,bw (T.map aC.v) i' j' c J.length c' cj' fk' tL',(ak J c J.length lb τ κ tl))∧KT tL':=fun a b ca cb hab hb hca hcb s5 h=>by
  have fin:∀ {y:Fl} {g:Bool},(ev (f+144+20)).SS kX (bw (T.map aC.v) a b c J.length ca cb fk (kT k d cc (.amg x.s x.i x.r) (iT o))) (ak J c J.length lb τ κ tl) [aG gn 6]=some (y,bw (T.map aC.v) a b c J.length ca cb g (kT k d cc (.amg x.s x.i x.r) (iT o)),(ak J c J.length lb τ κ tl))→(ev (f+170)).SS kX (bw (T.map aC.v) i j c J.length ci cj fk tL) (ak J c J.length lb τ κ tl) gn=some (y,bw (T.map aC.v) a b c J.length ca cb g (kT k d cc (.amg x.s x.i x.r) (iT o)),(ak J c J.length lb τ κ tl)):=fun hz=>turn _ (by
   rw[show f+165=f+144+20+1 from rfl];exact aa s5 hz)
  exact EQ (L:=fun i j ci cj fk tL=>bw (T.map aC.v) i j c J.length ci cj fk tL) (Wf:=fun z=>(ev (f+170)).W kX z (ak J c J.length lb τ κ tl) (.Constant (.bool true) kk qq) gn) ⟨_,_,_,_,_,rfl⟩ hab h (fun h1 h2=>pI rfl (fin (Ef _ h1 h2)) rfl) (fun h1 h2 h3=>pI rfl (fin (GB _ h1 h2 h3)) rfl) (fun h1 h2 h3 q=>by subst q;exact pI rfl (fin (FW _ h1 h2 h3)) rfl)
   (fun h1 h2 h3 q=>by subst q;exact pI rfl (fin (Gn _ h1 h2 h3)) rfl) (fun h1=>pI rfl (fin (FE _ h1)) rfl) fun g hlt h=>ih a b ca cb g _ i' c' (.inr ⟨_,_,_,_,_,rfl⟩) hlt hb hca hcb h
 induction lt using zB with
 | true=>exact both i k ci cc hk0 (le_trans hk1 hj) hci hcc (FP (J:=J) (c:=c) (lb:=lb) (τ:=τ) (κ:=κ) (T:=T) (tl:=tl) (f+144) (hd.mpr rfl)) ((if_pos rfl).symm.trans h)
 | false=>exact both k j cc cj hk1 hj hcc hcj (Io (J:=J) (c:=c) (lb:=lb) (τ:=τ) (κ:=κ) (T:=T) (tl:=tl) (f+144) fun z=>nf (hd.mp z)) ((if_neg Bool.false_ne_true).symm.trans h)
theorem C3{kk:Nat}{qq:Pos}(hc:c≤J.length)(hl:J.length≤1000)(hs:∀ x∈T,x.s.length≤100)(f:Nat):So J c lb τ κ T tl kk qq f:=by
 induction f with
 | zero=>exact fun i j ci cj fk tL i' c' _ _ _ _ _ h=>nn h
 | succ f ih=>
  intro i j ci cj fk tL i' c' ht hij hj hci hcj h;have hk1:=z9 hij;obtain⟨x,hx⟩:∃ x,T[i+(j-i) / 2]?=some x:=⟨_,List.getElem?_eq_getElem (lt_of_lt_of_le hk1 hj)⟩;have ex:eF T (i+(j-i) / 2)=x.s:=by
   unfold eF;rw[List.getD_eq_getElem?_getD,hx];rfl
  unfold nt at h;dsimp only at h;rw[ex] at h;obtain⟨o,H⟩:=Hp (J:=J) (c:=c) (lb:=lb) (τ:=τ) (κ:=κ) (T:=T) (tl:=tl) (f+146) (i:=i) (j:=j) (ci:=ci) (cj:=cj) (fk:=fk) ht (Nat.le_of_lt hij) rfl hx;have hs:=hs x (List.mem_of_getElem? hx);have hq:min ci cj≤J.length-c:=le_trans (Nat.min_le_left _ _) hci;obtain⟨d,o',F,hd⟩:=NX (J:=J) (c:=c) (lb:=lb) (τ:=τ) (κ:=κ) (T:=T) (tl:=tl) (f+35) (i:=i) (j:=j) (ci:=ci) (cj:=cj) (k:=(i+(j-i) / 2:Nat)) (q:=min ci cj) (fk:=fk) (x:=x) (o:=o) hc hs hl hq;have hcc:min ci cj+lcp (x.s.drop (min ci cj)) ((J.drop c).drop (min ci cj))≤J.length-c:=by
   have:=pF (x.s.drop (min ci cj)) ((J.drop c).drop (min ci cj));rw[length_drop,length_drop] at this;exact Nat.add_sub_cancel' hq ▸ Nat.add_le_add_left this _
  rw[show f+1+170=f+171 from rfl];rw[show f+35+130=f+165 from rfl] at F;exact Ge ih (le_add_right _ _) (Nat.le_of_lt hk1) hj hci hcj hcc hd (fun r hr=>by
   rw[show f+170=f+146+24 from rfl];refine H r ?_;rw[show f+146+20=f+165+1 from rfl];exact aa F hr) h
theorem sO{kk:Nat}{qq:Pos}{j cj:Int}{fk:Bool}{ci:Nat}{k d q:Int}{o:Option Int}(htl:tl.length≤50)(hT:∀ i<T.length,0≤eS T i→(eS T i).toNat<i):∀ (f i:Nat) (w:V) (r:Option Nat),i<T.length→CR (eF T) (eS T) f i ci=some r→
  ∃ ρ',(ev (30+f)).W kX (bw (T.map aC.v) i j c J.length ci cj fk (kT k d q w (iT o))) (ak J c J.length lb τ κ tl) (.Constant (.bool true) kk qq) wX=some (.ret (.int (iK T r)),ρ',ak J ((c:Int)+gt T r) J.length lb τ κ tl)
 | 0,i,w,r,_,h=>by cases h
 | f+1,i,w,r,hi,h=>by
  obtain⟨x,hx⟩:∃ x,T[i]?=some x:=⟨_,List.getElem?_eq_some_iff.2 ⟨hi,rfl⟩⟩;have gx:T.getD i e0=x:=by rw[List.getD_eq_getElem?_getD,hx];rfl
  have ex:(eF T i).length=x.s.length:=by unfold eF;rw[gx]
  have es:eS T i=x.i:=by unfold eS;rw[gx]
  unfold CR at h;rw[ex,es] at h;have hw:=rZ (l:=T.map aC.v) (z:=(i:Int)) rfl (Et hx);have e1:30+(f+1)=(28+f)+3:=by ext
  rw[e1];have e2:28+f+2=30+f:=by ext
  have hd:∀ r',(ev (29+f)).SS kX (bw (T.map aC.v) i j c J.length ci cj fk (kT k d q (.amg x.s x.i x.r) (iT o))) (ak J c J.length lb τ κ tl) [aG wX 1,aG wX 2,aG wX 3]=r'→(ev (28+f+2)).SS kX (bw (T.map aC.v) i j c J.length ci cj fk (kT k d q w (iT o))) (ak J c J.length lb τ κ tl) wX=r':=fun r' hr=>by
   rw[Ht,show 28+f+2=(29+f)+1 by ext];refine aa (ρ':=bw (T.map aC.v) i j c J.length ci cj fk (kT k d q (.amg x.s x.i x.r) (iT o))) (Y':=ak J c J.length lb τ κ tl) ?_ hr;rw[show 29+f=(25+f)+1+1+1+1 by ext];exact dh (v:=.amg x.s x.i x.r) rfl rfl (fP (fun _ _ _ q=>by cases q) rfl rfl rfl hw)
  by_cases c1:x.s.length≤ci
  ·rw[if_pos c1] at h;cases h;have e3:29+f=(9+f)+20:=by ext
   have:iK T (some i)=x.r:=by show (T.getD i e0).r=x.r;rw[gx]
   rw[this];have:gt T (some i)=x.s.length:=by show (T.getD i e0).s.length=_;rw[gx]
   rw[this];refine⟨_,gN (x:=.ret (.int x.r)) (ρ':=bw (T.map aC.v) i j c J.length ci cj fk (kT k d q (.amg x.s x.i x.r) (iT o))) (Y':=ak J ((c:Int)+x.s.length) J.length lb τ κ tl) (hd _ ?_) rfl⟩;rw[e3];exact bd (bQ (c:=decide ((x.s.length:Int)≤ci)) rfl (ZT) (aa (ρ':=bw (T.map aC.v) i j c J.length ci cj fk (kT k d q (.amg x.s x.i x.r) (iT o))) (Y':=ak J ((c:Int)+x.s.length) J.length lb τ κ tl) (jA (v:=.int ((c:Int)+x.s.length)) (Y':=ak J c J.length lb τ κ tl) rfl rfl rfl rfl (ble_eq_true_of_le (by show tl.length+6≤100;ext))) (bd rfl)))
  ·rw[if_neg c1] at h;have e3:29+f=(9+f)+20:=by ext
   have s1:(ev ((9+f)+19)).S kX (bw (T.map aC.v) i j c J.length ci cj fk (kT k d q (.amg x.s x.i x.r) (iT o))) (ak J c J.length lb τ κ tl) (aG wX 1)=some (.next,bw (T.map aC.v) i j c J.length ci cj fk (kT k d q (.amg x.s x.i x.r) (iT o)),ak J c J.length lb τ κ tl):=
    bD (c:=decide ((x.s.length:Int)≤ci)) rfl (ZF) rfl
   have s2:(ev ((9+f)+18)).S kX (bw (T.map aC.v) i j c J.length ci cj fk (kT k d q (.amg x.s x.i x.r) (iT o))) (ak J c J.length lb τ κ tl) (aG wX 2)=some (.next,bw (T.map aC.v) x.i j c J.length ci cj fk (kT k d q (.amg x.s x.i x.r) (iT o)),ak J c J.length lb τ κ tl):=rfl;by_cases c2:x.i<0
   ·rw[if_pos c2] at h;cases h;have:ak J ((c:Int)+gt T none) J.length lb τ κ tl=ak J c J.length lb τ κ tl:=by show ak J ((c:Int)+(0:Nat)) J.length lb τ κ tl=_;rw[show (c:Int)+(0:Nat)=c by ext]
    rw[this];refine⟨_,gN (x:=.ret (.int 0)) (ρ':=bw (T.map aC.v) x.i j c J.length ci cj fk (kT k d q (.amg x.s x.i x.r) (iT o))) (Y':=ak J c J.length lb τ κ tl) (hd _ ?_) rfl⟩;rw[e3];refine aa s1 (aa s2 (bd (bQ (c:=decide (x.i<0)) rfl (decide_eq_true c2) (bd rfl))))
   ·rw[if_neg c2] at h;have hlt:=hT i hi (by rw[es];ext);rw[es] at hlt;obtain⟨ρ',hw2⟩:=sO htl hT f x.i.toNat (.amg x.s x.i x.r) r (by ext) h;refine⟨ρ',gN (x:=.next) (ρ':=bw (T.map aC.v) x.i.toNat j c J.length ci cj fk (kT k d q (.amg x.s x.i x.r) (iT o))) (Y':=ak J c J.length lb τ κ tl) (hd _ ?_) ?_⟩
    ·rw[e3];refine aa s1 (aa s2 ?_);rw[show x.i=((x.i.toNat:Nat):Int) by ext];exact aa (bD (c:=decide (((x.i.toNat:Nat):Int)<0)) rfl (ZF) rfl) rfl
    ·rw[e2];exact hw2
theorem Hq(hc:c≤J.length)(hl:J.length≤1000)(htl:tl.length≤50)(hs:∀ x∈T,x.s.length≤100)(ok:mv (eF T) (eS T) T.length){n:Nat}(hn:T.length+190≤n):
  ∃ r,uy (eF T) (J.drop c) T.length r∧(ev n).C an [.self,.list (T.map aC.v)] (ak J c J.length lb τ κ tl)=some (.int (iK T r),ak J ((c:Int)+gt T r) J.length lb τ κ tl):=by
 have two:=ok.two;obtain⟨m,hm⟩:∃ m,n=m+190:=⟨n-190,by ext⟩;obtain⟨i',c',h1,F⟩:=si (t:=J.drop c) ok (m+10) 0 T.length 0 0 false (by ext) (le_refl _) (fun q=>by cases q) (.inl ⟨rfl,rfl⟩) (.inl ⟨rfl,rfl⟩) (fun _=>by ext) (by simp only[Bool.false_eq_true,if_false];ext);obtain⟨r,h2,B⟩:=mK (f:=m+149) ok F (by have:=F.lt;ext);refine⟨r,B,?_⟩;obtain⟨j',cj',fk',tL',hw,k,d,q,w,o,rfl⟩:=C3 (J:=J) (c:=c) (lb:=lb) (τ:=τ) (κ:=κ) (T:=T) (tl:=tl) (kk:=(cT (iH (ai an 7))).1) (qq:=(cT (iH (ai an 7))).2) hc hl hs (m+10) 0 T.length 0 0 false [] i' c' (.inl rfl) (by ext) (le_refl _) (zero_le _) (zero_le _) h1;obtain⟨ρ',hw2⟩:=sO (J:=J) (c:=c) (lb:=lb) (τ:=τ) (κ:=κ) (T:=T) (tl:=tl) (kk:=(cT (iH (ai an 8))).1) (qq:=(cT (iH (ai an 8))).2) (j:=j') (cj:=cj') (fk:=fk') (k:=k) (d:=d) (q:=q) (o:=o) htl (fun i hi hs=>(ok.some i hi hs).1) (m+149) i' w r F.lt h2;rw[hm];have nx:∀ {a b:af},ai an 0=ai an 0:=fun {_ _}=>rfl
 refine gm (n:=m+189) (ρ:=[("self",.self),("v",.list (T.map aC.v))]) (ρ':=ρ') rfl rfl yq ?_;refine aa (n:=m+188) (ρ':=[("self",.self),("v",.list (T.map aC.v)),("i",.int (0:Nat))]) (Y':=ak J c J.length lb τ κ tl) rfl ?_;refine aa (n:=m+187) (ρ':=[("self",.self),("v",.list (T.map aC.v)),("i",.int (0:Nat)),("j",.int T.length)]) (Y':=ak J c J.length lb τ κ tl) (dh (v:=.int T.length) rfl rfl ?_) ?_
 ·show some (V.int ((T.map aC.v).length:Int),ak J c J.length lb τ κ tl)=_;rw[length_map]
 refine aa (n:=m+186) (ρ':=[("self",.self),("v",.list (T.map aC.v)),("i",.int (0:Nat)),("j",.int T.length),("c",.int c)]) (Y':=ak J c J.length lb τ κ tl) rfl ?_;refine aa (n:=m+185) (ρ':=[("self",.self),("v",.list (T.map aC.v)),("i",.int (0:Nat)),("j",.int T.length),("c",.int c),("l",.int J.length)]) (Y':=ak J c J.length lb τ κ tl) rfl ?_;refine aa (n:=m+184) (ρ':=[("self",.self),("v",.list (T.map aC.v)),("i",.int (0:Nat)),("j",.int T.length),("c",.int c),("l",.int J.length),("common_i",.int (0:Nat))]) (Y':=ak J c J.length lb τ κ tl) rfl ?_;refine aa (n:=m+183) (ρ':=[("self",.self),("v",.list (T.map aC.v)),("i",.int (0:Nat)),("j",.int T.length),("c",.int c),("l",.int J.length),("common_i",.int (0:Nat)),("common_j",.int (0:Nat))]) (Y':=ak J c J.length lb τ κ tl) rfl ?_;refine aa (n:=m+182) (ρ':=bw (T.map aC.v) (0:Nat) T.length c J.length (0:Nat) (0:Nat) false []) (Y':=ak J c J.length lb τ κ tl) rfl ?_;refine aa (n:=m+181) (ρ':=bw (T.map aC.v) i' j' c J.length c' cj' fk' (kT k d q w (iT o))) (Y':=ak J c J.length lb τ κ tl) ?_ ?_
 ·obtain⟨a,ha⟩:∃ a,a=m+10+170:=⟨_,rfl⟩;rw[←ha] at hw;rw[wy,show m+181=a+1 by ext];exact dK hw
 ·refine bd (n:=m+180) ?_;obtain⟨a,ha⟩:∃ a,a=30+(m+149):=⟨_,rfl⟩;rw[←ha] at hw2;rw[xH,show m+180=a+1 by ext];exact dK hw2
end
section
variable {J s:List Nat}{lb τ κ:Int}{n:Nat}{tl:af}
theorem zI(ht:eg tl){a b:Nat}(ha:a≤b)(hb:b≤J.length)(hs:(spl J a b s).length≤1048576):(ev (n+30)).C bU [.self,.int a,.int b,.str s] (ak J b J.length lb τ κ tl)=some (.int (s.length-((b:Int)-a)),ak (spl J a b s) ((b:Int)+(s.length-((b:Int)-a))) ((J.length:Int)+(s.length-((b:Int)-a))) lb τ κ tl):=by
 have e1:=iu (J:=J) (a:=a) (by ext);have e2:=gL (J:=J) (b:=b) hb;rcases ht with rfl | ⟨x,y,z,rfl⟩
 ·refine fN (ρ':=eP a b s) rfl ?_;refine aa (ρ':=eP a b s) (Y':=ak J b J.length lb τ κ []) rfl ?_;refine aa (ρ':=eP a b s) (Y':=ak (spl J a b s) b J.length lb τ κ []) ?_ ?_
  ·refine jA (v:=.str (spl J a b s)) (Y':=ak J b J.length lb τ κ []) rfl ?_ rfl rfl rfl;unfold spl;rw[←e1,←e2];unfold spl at hs;rw[←e1,←e2] at hs;refine oR (oR (tK rfl rfl rfl) rfl ?_) (vB rfl rfl) hs;simp only[length_append] at hs ⊢;ext
  ·refine aa (ρ':=eP a b s) (Y':=ak (spl J a b s) b ((J.length:Int)+(s.length-((b:Int)-a))) lb τ κ []) rfl ?_;refine aa (ρ':=eP a b s) (Y':=ak (spl J a b s) ((b:Int)+(s.length-((b:Int)-a))) ((J.length:Int)+(s.length-((b:Int)-a))) lb τ κ []) ?_ (bd rfl);exact bQ (c:=decide ((b:Int)≤b)) rfl (decide_eq_true (Int.le_refl _)) (aa rfl er)
 ·refine fN (ρ':=eP a b s) rfl ?_;refine aa (ρ':=eP a b s) (Y':=ak J b J.length lb τ κ (aV x y z)) rfl ?_;refine aa (ρ':=eP a b s) (Y':=ak (spl J a b s) b J.length lb τ κ (aV x y z)) ?_ ?_
  ·refine jA (v:=.str (spl J a b s)) (Y':=ak J b J.length lb τ κ (aV x y z)) rfl ?_ rfl rfl rfl;unfold spl;rw[←e1,←e2];unfold spl at hs;rw[←e1,←e2] at hs;refine oR (oR (tK rfl rfl rfl) rfl ?_) (vB rfl rfl) hs;simp only[length_append] at hs ⊢;ext
  ·refine aa (ρ':=eP a b s) (Y':=ak (spl J a b s) b ((J.length:Int)+(s.length-((b:Int)-a))) lb τ κ (aV x y z)) rfl ?_;refine aa (ρ':=eP a b s) (Y':=ak (spl J a b s) ((b:Int)+(s.length-((b:Int)-a))) ((J.length:Int)+(s.length-((b:Int)-a))) lb τ κ (aV x y z)) ?_ (bd rfl);exact bQ (c:=decide ((b:Int)≤b)) rfl (decide_eq_true (Int.le_refl _)) (aa rfl er)
theorem xP(ht:eg tl){J':List Nat}{k' L' r:Int}{a b k:Nat}(ha:a≤b)(hb:b≤J.length)(H:(ev (n+30)).C bU [.self,.int a,.int b,.str s] (ak J k J.length lb a b tl)=some (.int r,ak J' k' L' lb a b tl)):(ev (n+38)).C bV [.self,.str s] (ak J k J.length lb a b tl)=some (.none,ak J' k' L' lb a ((a:Int)+s.length) tl):=by
 rcases ht with rfl | ⟨x,y,z,rfl⟩
 ·refine pi (ρ':=[("self",.self),("s",.str s)]) rfl ?_;refine aa (ρ':=[("self",.self),("s",.str s)]) (Y':=ak J k J.length lb a b []) (cW (c:=decide ((0:Int)≤a)) rfl (ZT)) ?_;refine aa (ρ':=[("self",.self),("s",.str s)]) (Y':=ak J k J.length lb a b []) (cW (c:=decide ((a:Int)≤b)) rfl (ZT)) ?_;refine aa (ρ':=[("self",.self),("s",.str s)]) (Y':=ak J k J.length lb a b []) (cW (c:=decide ((b:Int)≤J.length)) rfl (ZT)) ?_;refine aa (ρ':=[("self",.self),("s",.str s)]) (Y':=ak J k J.length lb a b []) (cW (c:=decide ((J.length:Int)≤J.length)) rfl (ZT)) ?_;refine aa (ρ':=[("self",.self),("s",.str s)]) (Y':=ak J' k' L' lb a b []) (qL (v:=.int r) (hJ (f:=bU) (vs:=[.int a,.int b,.str s]) rfl rfl rfl rfl rfl ?_)) ?_
  ·rw[H]
  ·exact aa rfl er
 ·refine pi (ρ':=[("self",.self),("s",.str s)]) rfl ?_;refine aa (ρ':=[("self",.self),("s",.str s)]) (Y':=ak J k J.length lb a b (aV x y z)) (cW (c:=decide ((0:Int)≤a)) rfl (ZT)) ?_;refine aa (ρ':=[("self",.self),("s",.str s)]) (Y':=ak J k J.length lb a b (aV x y z)) (cW (c:=decide ((a:Int)≤b)) rfl (ZT)) ?_;refine aa (ρ':=[("self",.self),("s",.str s)]) (Y':=ak J k J.length lb a b (aV x y z)) (cW (c:=decide ((b:Int)≤J.length)) rfl (ZT)) ?_;refine aa (ρ':=[("self",.self),("s",.str s)]) (Y':=ak J k J.length lb a b (aV x y z)) (cW (c:=decide ((J.length:Int)≤J.length)) rfl (ZT)) ?_;refine aa (ρ':=[("self",.self),("s",.str s)]) (Y':=ak J' k' L' lb a b (aV x y z)) (qL (v:=.int r) (hJ (f:=bU) (vs:=[.int a,.int b,.str s]) rfl rfl rfl rfl rfl ?_)) ?_
  ·rw[H]
  ·exact aa rfl er
theorem yi(ht:eg tl){d u t:List Nat}(hN:38≤n)(hs:d.length+s.length+t.length≤1048576):(ev n).C bV [.self,.str s] (ak (d++u++t) ((d++u).length:Nat) (d++u++t).length lb d.length ((d++u).length:Nat) tl)=some (.none,ak (d++s++t) ((d++s).length:Nat) (d++s++t).length lb d.length ((d++s).length:Nat) tl):=by
 obtain⟨n,rfl⟩:∃ m,n=m+38:=⟨n-38,by ext⟩;have e:spl (d++u++t) d.length (d++u).length s=d++s++t:=by
  unfold spl;rw[List.drop_left,append_assoc d u t,List.take_left]
 have l1:(d++s).length=d.length+s.length:=length_append;have l2:(d++u).length=d.length+u.length:=length_append;have l3:(d++s++t).length=d.length+s.length+t.length:=by rw[length_append,l1]
 have l4:(d++u++t).length=d.length+u.length+t.length:=by rw[length_append,l2]
 have H:=zI (n:=n) (J:=d++u++t) (s:=s) (lb:=lb) (τ:=d.length) (κ:=((d++u).length:Nat)) ht (a:=d.length) (b:=(d++u).length) (by ext) (by ext) (by rw[e];ext);have F:=xP ht (by ext) (by ext) H;rw[e] at F;rw[show (((d++u).length:Nat):Int)+((s.length:Int)-(((d++u).length:Nat)-(d.length:Int)))=((d++s).length:Nat) by ext,show (((d++u++t).length:Nat):Int)+((s.length:Int)-(((d++u).length:Nat)-(d.length:Int)))=((d++s++t).length:Nat) by ext,show (d.length:Int)+(s.length:Int)=((d++s).length:Nat) by ext] at F;exact F
end
theorem three{α:Type}{T:List α}(h:T.length=3):∃ x y z,T=[x,y,z]:=
 lenS (C:=fun T=>∃ x y z,T=[x,y,z]) (m:=[0,0]) (b:=0) h fun x _ h=>lenS (C:=fun T=>∃ a y z,x :: T=[a,y,z]) h fun y _ h=>lenS (C:=fun T=>∃ a b z,x :: y :: T=[a,b,z]) h fun z _ h=>len0 (C:=fun T=>∃ a b d,x :: y :: z :: T=[a,b,d]) h ⟨x,y,z,rfl⟩
theorem ME{T:List aC}{u v t:List Nat}(hT:T.map aC.s=[[],u,v])(hu:u≠[])(hv:v≠[])(huv:∀ t,u <+: t→¬ v <+: t){r:Option Nat}(B:uy (eF T) t T.length r):
  (u <+: t→r=some 1)∧(v <+: t→r=some 2)∧(¬ u <+: t→¬ v <+: t→r=some 0):=by
 have hl:T.length=3:=by rw[←length_map (f:=aC.s),hT];rfl
 obtain⟨x,y,z,rfl⟩:∃ x y z,T=[x,y,z]:=by
  exact three hl
 simp only[map_cons,List.map_nil,List.cons.injEq,and_true] at hT;obtain⟨hx,hy,hz⟩:=hT;have e0:eF [x,y,z] 0=[]:=hx;have e1:eF [x,y,z] 1=u:=hy;have e2:eF [x,y,z] 2=v:=hz;have up:=List.length_pos_iff.mpr hu;have vp:=List.length_pos_iff.mpr hv
 induction r using zO with
 | none=>exact absurd (by rw[e0];exact List.nil_prefix) (B 0 (by show 0<3;ext))
 | some m=>
  obtain⟨h1,h2,h3⟩:=B;have hm:m=0∨m=1∨m=2:=by have:m<3:=h1;ext
  rcases hm with rfl | rfl | rfl
  ·rw[e0] at h3;refine⟨fun q=>?_,fun q=>?_,fun _ _=>rfl⟩
   ·have:=h3 1 (by show 1<3;ext) (by rw[e1];exact q);rw[e1] at this;simp at this;exact absurd this hu
   ·have:=h3 2 (by show 2<3;ext) (by rw[e2];exact q);rw[e2] at this;simp at this;exact absurd this hv
  ·rw[e1] at h2;exact⟨fun _=>rfl,fun q=>absurd q (huv _ h2),fun q=>absurd h2 q⟩
  ·rw[e2] at h2;exact⟨fun q=>absurd h2 (huv _ q),fun _=>rfl,fun _ q=>absurd h2 q⟩
theorem CM{T:List aC}{u v:List Nat}(hT:T.map aC.s=[[],u,v])(hi:T.map aC.i=[-1,0,0])(h1:ey u v=true)(huv:∀ t,u <+: t→¬ v <+: t)(hu:u≠[])(hv:v≠[]):mv (eF T) (eS T) T.length:=by
 have hl:T.length=3:=by rw[←length_map (f:=aC.s),hT];rfl
 obtain⟨x,y,z,rfl⟩:∃ x y z,T=[x,y,z]:=by
  exact three hl
 simp only[map_cons,List.map_nil,List.cons.injEq,and_true] at hT hi;obtain⟨hx,hy,hz⟩:=hT;obtain⟨ix,iy,iz⟩:=hi;have e0:eF [x,y,z] 0=[]:=hx;have e1:eF [x,y,z] 1=u:=hy;have e2:eF [x,y,z] 2=v:=hz;have s0:eS [x,y,z] 0=-1:=ix;have s1:eS [x,y,z] 1=0:=iy;have s2:eS [x,y,z] 2=0:=iz;have c3:∀ {m},m < [x,y,z].length→m=0∨m=1∨m=2:=fun {m} h=>by have:m<3:=h;ext
 have ltn:∀ {w:List Nat},w≠[]→ey [] w=true:=fun {w} h=>by induction w using zL with | nil=>exact absurd rfl h | cons a b=>rfl
 refine⟨by show 2≤3;ext,fun a b hab hb=>?_,fun i hi hs m hm hp=>?_,fun i hi hs=>?_,by rw[s0];decide⟩
 ·rcases c3 hb with rfl | rfl | rfl
  ·ext
  ·have:a=0:=by ext
   subst this;rw[e0,e1];exact ltn hu
  ·have:a=0∨a=1:=by ext
   rcases this with rfl | rfl
   ·rw[e0,e2];exact ltn hv
   ·rw[e1,e2];exact h1
 ·rcases c3 hi with rfl | rfl | rfl
  ·rw[e0] at hp;rcases c3 hm with rfl | rfl | rfl
   ·rfl
   ·rw[e1] at hp;simp at hp;exact absurd hp hu
   ·rw[e2] at hp;simp at hp;exact absurd hp hv
  ·rw[s1] at hs;ext
  ·rw[s2] at hs;ext
 ·rcases c3 hi with rfl | rfl | rfl
  ·rw[s0] at hs;ext
  ·rw[s1];refine⟨by decide,by show eF _ 0 <+: _;rw[e0];exact List.nil_prefix,fun m hm hp=>?_⟩;rcases c3 hm with rfl | rfl | rfl
   ·exact .inr (by show eF _ 0 <+: eF _ 0;exact List.prefix_rfl)
   ·exact .inl rfl
   ·rw[e1,e2] at hp;exact absurd hp (huv _ List.prefix_rfl)
  ·rw[s2];refine⟨by decide,by show eF _ 0 <+: _;rw[e0];exact List.nil_prefix,fun m hm hp=>?_⟩;rcases c3 hm with rfl | rfl | rfl
   ·exact .inr (by show eF _ 0 <+: eF _ 0;exact List.prefix_rfl)
   ·rw[e1,e2] at hp;exact absurd List.prefix_rfl (huv _ hp)
   ·exact .inl rfl
inductive BZ(attr s1 s2:Str):List Stmt→Prop
 | mk {a1 a2 a3 a4 b1 b2 b3 b4 b5 c1 c2 c3 c4 c5 c6 c7 d1 d2 d3 d4 d5 e1 e2 e3 f1 f2 f3 f4 f5 e4 g1 g2 g3 h1 h2 h3 h4 h5 g4 i1 i2 i3 i4 i5 j1 j2 j3 i6 k1 k2 k3 k4 l1 m1 m2 m3 m4 n1 n2 n3 n4 o1:Pos} {x1 x2 x3 x4 x5:Nat}
  (ok1:ax (.Name "self" c2) [.Attribute (.Name "PortugueseStemmer" c4) attr c5] c3 c6=true)
  (ok2:ax (.Name "self" f1) [.Constant (.str s1) x2 f3] f2 f4=true)
  (ok3:ax (.Name "self" h1) [.Constant (.str s2) x4 h3] h2 h4=true):
  BZ attr s1 s2 [.Assign [.Name "v_1" a1] (.Attribute (.Name "self" a2) "cursor" a3) a4,
   .Try [.Assign [.Attribute (.Name "self" b1) "bra" b2] (.Attribute (.Name "self" b3) "cursor" b4) b5,
    .Assign [.Name "among_var" c1] (.Call (.Attribute (.Name "self" c2) "find_among" c3) [.Attribute (.Name "PortugueseStemmer" c4) attr c5] [] c6) c7,
    .Assign [.Attribute (.Name "self" d1) "ket" d2] (.Attribute (.Name "self" d3) "cursor" d4) d5,
    .If (.Compare (.Name "among_var" e1) [.Eq] [.Constant (.int 1) x1 e2] e3)
     [.Expr (.Call (.Attribute (.Name "self" f1) "slice_from" f2) [.Constant (.str s1) x2 f3] [] f4) f5]
     [.If (.Compare (.Name "among_var" g1) [.Eq] [.Constant (.int 2) x3 g2] g3)
      [.Expr (.Call (.Attribute (.Name "self" h1) "slice_from" h2) [.Constant (.str s2) x4 h3] [] h4) h5]
      [.If (.Compare (.Attribute (.Name "self" i1) "cursor" i2) [.GtE] [.Attribute (.Name "self" i3) "limit" i4] i5) [.Raise (some (.Call (.Name "lab0" j1) [] [] j2)) none j3] [] i6,
       .AugAssign (.Attribute (.Name "self" k1) "cursor" k2) .Add (.Constant (.int 1) x5 k3) k4] g4] e4,
    .Continue l1] [.ExceptHandler (some (.Name "lab0" m1)) none [.Pass m2] m3] [] [] m4,
   .Assign [.Attribute (.Name "self" n1) "cursor" n2] (.Name "v_1" n3) n4,
   .Break o1]
def preB':List Stmt:=dj (ai aX 0)
def postB:List Stmt:=dj (ai aO 0)
theorem Hz:BZ "a_0" "a~" "o~" preB':=by
 refine BZ.mk ?a ?b ?c<;>rfl
theorem CG:BZ "a_1" "ã" "õ" postB:=by
 refine BZ.mk ?a ?b ?c<;>rfl
theorem Uf:bK "a_0"=some (amgs 0 3):=by rfl'
theorem Ul:bK "a_1"=some (amgs 3 3):=by rfl'
theorem QT:ce (.str "a~")=some (.str [97,126]):=by rfl'
theorem Qg:ce (.str "o~")=some (.str [111,126]):=by rfl'
theorem PD:ce (.str "ã")=some (.str [227]):=by rfl'
theorem Pz:ce (.str "õ")=some (.str [245]):=by rfl'
noncomputable def pL(v k:Int):af:=[("self",.self),("v_1",.int v),("among_var",.int k)]
structure DS(sc:Scope):Prop where
 self:sc.names.lookup ("self":Str)=some .local
 v1:sc.names.lookup ("v_1":Str)=some .local
 av:sc.names.lookup ("among_var":Str)=some .local
 lab:sc.names.lookup ("lab0":Str)=some .globalImplicit
 cls:sc.names.lookup ("PortugueseStemmer":Str)=some .globalImplicit
structure LP(ρ:af):Prop where
 s:look ρ "self"=some .self
 s1:∀ v,look (put ρ "v_1" v) "self"=some .self
 p:∀ v k,put (put ρ "v_1" (.int v)) "among_var" (.int k)=pL v k
theorem Rz:LP [("self",.self)]:=⟨by rfl',fun _=>by rfl',fun _ _=>by rfl'⟩
theorem Gi(v k:Int):LP (pL v k):=⟨by rfl',fun _=>by rfl',fun _ _=>by rfl'⟩
theorem rH{J:List Nat}{c l lb τ κ:Int}{tl:af}(ht:eg tl):look (ak J c l lb τ κ tl) "find_among"=none:=by
 rcases ht with rfl | ⟨x,y,z,rfl⟩<;>rfl'
theorem xR{J:List Nat}{c l lb τ κ:Int}{tl:af}(ht:eg tl):look (ak J c l lb τ κ tl) "slice_from"=none:=by
 rcases ht with rfl | ⟨x,y,z,rfl⟩<;>rfl'
theorem ma{tl:af}(ht:eg tl):tl.length≤50:=by
 rcases ht with rfl | ⟨x,y,z,rfl⟩
 ·show 0≤50;ext
 ·show 3≤50;ext
section
variable {sc:Scope}{ρ:af}{tl:af}{N:Nat}{attr s1 s2:Str}{B:List Stmt}{a:Nat}{lb τ κ:Int}{d u t u1 u2:List Nat}
theorem Qo(S:DS sc)(v k:Int):VL sc (pL v k) "v_1" (.int v):=⟨by decide+kernel,by decide+kernel,S.v1,by rfl'⟩
theorem DB(S:DS sc)(v k:Int):VL sc (pL v k) "among_var" (.int k):=⟨by decide+kernel,by decide+kernel,S.av,by rfl'⟩
theorem tA(ht:eg tl)(H:SL sc ρ){s:Str}{u':List Nat}(hs:ce (.str s)=some (.str u'))(hl:d.length+u'.length+t.length≤1000){kk:Nat}{p apos pos q q2:Pos}(hok:ax (.Name "self" p) [.Constant (.str s) kk q2] apos pos=true)(hN:42≤N):
  (ev N).S sc ρ (ak (d++u++t) ((d++u).length:Nat) (d++u++t).length lb d.length ((d++u).length:Nat) tl) (.Expr (.Call (.Attribute (.Name "self" p) "slice_from" apos) [.Constant (.str s) kk q2] [] pos) q)=some (.next,ρ,ak (d++u'++t) ((d++u').length:Nat) (d++u'++t).length lb d.length ((d++u').length:Nat) tl):=by
 obtain⟨M,rfl⟩:∃ M,N=M+2:=⟨N-2,by ext⟩;exact qU rfl H hok (by rfl') (xR ht) (ei (dH hs)) (yi ht (by ext) (by ext))
theorem TN(sh:BZ attr s1 s2 B)(S:DS sc)(L:LP ρ)(ht:eg tl)(hN:220≤N)(ca:bK attr=some (amgs a 3))(h1:ce (.str s1)=some (.str u1))(hl:d.length+u1.length+t.length≤1000)
  (F:∀ M,200≤M→(ev M).C an [.self,amgs a 3] (ak (d++u++t) d.length (d++u++t).length lb d.length κ tl)=some (.int 1,ak (d++u++t) ((d++u).length:Nat) (d++u++t).length lb d.length κ tl)):
  (ev N).SS sc ρ (ak (d++u++t) d.length (d++u++t).length lb τ κ tl) B=some (.cont,pL d.length 1,ak (d++u1++t) ((d++u1).length:Nat) (d++u1++t).length lb d.length ((d++u1).length:Nat) tl):=by
 obtain⟨M,rfl⟩:∃ M,N=M+20:=⟨N-20,by ext⟩;have tn:=ma ht;have H0:SL sc ρ:=⟨S.self,L.s⟩;have H1:SL sc (put ρ "v_1" (.int d.length)):=⟨S.self,L.s1 _⟩;have H2:SL sc (pL d.length 1):=⟨S.self,(Gi _ _).s⟩;have P2:=L.p d.length 1;have VA:=DB S d.length 1;cases sh with
 | mk ok1 ok2 ok3=>
  refine ab rfl (iA H0 S.v1) ?_;refine k9 rfl (qJ rfl ?_);refine ab rfl (bX H1 tn) ?_;refine ab rfl (bz rfl rfl S.av (tY rfl H1 ok1 (by rfl') (rH ht) (ei (jC rfl S.cls ca)) (F _ (by ext)))) ?_;rw[P2];refine ab rfl (bI H2 tn) ?_;refine ab (ρ':=pL d.length 1) rfl (bB rfl (bl rfl (au VA)) rfl (aP rfl (tA ht H2 h1 hl ok2 (by ext)))) ?_;exact k9 rfl (jp (by ext))
theorem Tg(sh:BZ attr s1 s2 B)(S:DS sc)(L:LP ρ)(ht:eg tl)(hN:220≤N)(ca:bK attr=some (amgs a 3))(h1:ce (.str s2)=some (.str u2))(hl:d.length+u2.length+t.length≤1000)
  (F:∀ M,200≤M→(ev M).C an [.self,amgs a 3] (ak (d++u++t) d.length (d++u++t).length lb d.length κ tl)=some (.int 2,ak (d++u++t) ((d++u).length:Nat) (d++u++t).length lb d.length κ tl)):
  (ev N).SS sc ρ (ak (d++u++t) d.length (d++u++t).length lb τ κ tl) B=some (.cont,pL d.length 2,ak (d++u2++t) ((d++u2).length:Nat) (d++u2++t).length lb d.length ((d++u2).length:Nat) tl):=by
 obtain⟨M,rfl⟩:∃ M,N=M+20:=⟨N-20,by ext⟩;have tn:=ma ht;have H0:SL sc ρ:=⟨S.self,L.s⟩;have H1:SL sc (put ρ "v_1" (.int d.length)):=⟨S.self,L.s1 _⟩;have H2:SL sc (pL d.length 2):=⟨S.self,(Gi _ _).s⟩;have P2:=L.p d.length 2;have VA:=DB S d.length 2;cases sh with
 | mk ok1 ok2 ok3=>
  refine ab rfl (iA H0 S.v1) ?_;refine k9 rfl (qJ rfl ?_);refine ab rfl (bX H1 tn) ?_;refine ab rfl (bz rfl rfl S.av (tY rfl H1 ok1 (by rfl') (rH ht) (ei (jC rfl S.cls ca)) (F _ (by ext)))) ?_;rw[P2];refine ab rfl (bI H2 tn) ?_;refine ab (ρ':=pL d.length 2) rfl (gz rfl (bl rfl (au VA)) rfl (aP rfl (bB rfl (bl rfl (au VA)) rfl (aP rfl (tA ht H2 h1 hl ok3 (by ext)))))) ?_;exact k9 rfl (jp (by ext))
theorem sg{J:List Nat}{c l:Int}(hN:4≤N)(H:SL sc ρ){p1 p2 p3 p4 p5:Pos}:(ev N).T sc ρ (ak J c l lb τ κ tl) (.Compare (.Attribute (.Name "self" p1) "cursor" p2) [.GtE] [.Attribute (.Name "self" p3) "limit" p4] p5)=some (decide (l≤c),ak J c l lb τ κ tl):=by
 obtain⟨K,rfl⟩:∃ K,N=K+2:=⟨N-2,by ext⟩;exact bn rfl (fw H bT cR) (fw H n5 nQ) rfl
theorem Tu(sh:BZ attr s1 s2 B)(S:DS sc)(L:LP ρ)(ht:eg tl)(hN:220≤N)(ca:bK attr=some (amgs a 3)){J:List Nat}{c l:Int}(hc:c<l)
  (F:∀ M,200≤M→(ev M).C an [.self,amgs a 3] (ak J c l lb c κ tl)=some (.int 3,ak J c l lb c κ tl)):
  (ev N).SS sc ρ (ak J c l lb τ κ tl) B=some (.cont,pL c 3,ak J (c+1) l lb c c tl):=by
 obtain⟨M,rfl⟩:∃ M,N=M+20:=⟨N-20,by ext⟩;have tn:=ma ht;have H0:SL sc ρ:=⟨S.self,L.s⟩;have H1:SL sc (put ρ "v_1" (.int c)):=⟨S.self,L.s1 _⟩;have H2:SL sc (pL c 3):=⟨S.self,(Gi _ _).s⟩;have P2:=L.p c 3;have VA:=DB S c 3;cases sh with
 | mk ok1 ok2 ok3=>
  refine ab rfl (iA H0 S.v1) ?_;refine k9 rfl (qJ rfl ?_);refine ab rfl (bX H1 tn) ?_;refine ab rfl (bz rfl rfl S.av (tY rfl H1 ok1 (by rfl') (rH ht) (ei (jC rfl S.cls ca)) (F _ (by ext)))) ?_;rw[P2];refine ab rfl (bI H2 tn) ?_;refine ab (ρ':=pL c 3) rfl (gz rfl (bl rfl (au VA)) rfl (aP rfl (gz rfl (bl rfl (au VA)) rfl (ab rfl (bt rfl (sg (by ext) H2) (ZF)) (aP rfl (IN H2 tn (by ext))))))) ?_;exact k9 rfl (jp (by ext))
theorem JR(sh:BZ attr s1 s2 B)(S:DS sc)(L:LP ρ)(ht:eg tl)(hN:220≤N)(ca:bK attr=some (amgs a 3)){J:List Nat}{c l:Int}(hc:l≤c)
  (F:∀ M,200≤M→(ev M).C an [.self,amgs a 3] (ak J c l lb c κ tl)=some (.int 3,ak J c l lb c κ tl)):
  (ev N).SS sc ρ (ak J c l lb τ κ tl) B=some (.brk,pL c 3,ak J c l lb c c tl):=by
 obtain⟨M,rfl⟩:∃ M,N=M+20:=⟨N-20,by ext⟩;have tn:=ma ht;have H0:SL sc ρ:=⟨S.self,L.s⟩;have H1:SL sc (put ρ "v_1" (.int c)):=⟨S.self,L.s1 _⟩;have H2:SL sc (pL c 3):=⟨S.self,(Gi _ _).s⟩;have P2:=L.p c 3;have VA:=DB S c 3;have V1:=Qo S c 3;cases sh with
 | mk ok1 ok2 ok3=>
  refine ab rfl (iA H0 S.v1) ?_;refine ab (ρ':=pL c 3) (Y':=ak J c l lb c c tl) rfl (du rfl S.lab ?_) ?_
  ·refine ab rfl (bX H1 tn) ?_;refine ab rfl (bz rfl rfl S.av (tY rfl H1 ok1 (by rfl') (rH ht) (ei (jC rfl S.cls ca)) (F _ (by ext)))) ?_;rw[P2];refine ab rfl (bI H2 tn) ?_;exact bF rfl (gz rfl (bl rfl (au VA)) rfl (bF rfl (gz rfl (bl rfl (au VA)) rfl (bF rfl (bB rfl (sg (by ext) H2) (decide_eq_true hc) (bF rfl (cu S.lab)))))))
  ·refine ab rfl (rc (by ext) H2 tn V1) ?_;exact iX rfl (gk)
end
inductive Rp(u v u1 v1:List Nat):List Nat→List Nat→Prop
 | nil:Rp u v u1 v1 [] []
 | fst {t t'}:Rp u v u1 v1 t t'→Rp u v u1 v1 (u++t) (u1++t')
 | snd {t t'}:Rp u v u1 v1 t t'→Rp u v u1 v1 (v++t) (v1++t')
 | one {x t t'}:¬ u <+: x :: t→¬ v <+: x :: t→Rp u v u1 v1 t t'→Rp u v u1 v1 (x :: t) (x :: t')
structure T3(a:Nat)(u v:List Nat):Prop where
 s:(Tk a 3).map aC.s=[[],u,v]
 i:(Tk a 3).map aC.i=[-1,0,0]
 r:(Tk a 3).map aC.r=[3,1,2]
 lt:ey u v=true
 un:∀ t,u <+: t→¬ v <+: t
 hu:u≠[]
 hv:v≠[]
 lu:u.length≤100
 lv:v.length≤100
section
variable {J u v u1 v1 t t':List Nat}{c a:Nat}{lb τ κ:Int}{tl:af}
theorem Pk(Z:T3 a u v)(hc:c≤J.length)(hl:J.length≤1000)(htl:tl.length≤50){M:Nat}(hM:200≤M):
  ∃ k n:Nat,(ev M).C an [.self,amgs a 3] (ak J c J.length lb τ κ tl)=some (.int k,ak J ((c:Int)+n) J.length lb τ κ tl)∧(u <+: J.drop c→k=1∧n=u.length)∧(v <+: J.drop c→k=2∧n=v.length)∧(¬ u <+: J.drop c→¬ v <+: J.drop c→k=3∧n=0):=by
 have hl3:(Tk a 3).length=3:=by rw[←length_map (f:=aC.s),Z.s];rfl
 have h100:∀ x∈Tk a 3,x.s.length≤100:=fun x hx=>by
  have:x.s∈(Tk a 3).map aC.s:=List.mem_map_of_mem hx;rw[Z.s] at this;simp only[List.mem_cons,List.not_mem_nil,or_false] at this;rcases this with h | h | h
  ·rw[h];exact zero_le _
  ·rw[h];exact Z.lu
  ·rw[h];exact Z.lv
 obtain⟨r,B,h⟩:=Hq (J:=J) (c:=c) (lb:=lb) (τ:=τ) (κ:=κ) (tl:=tl) (T:=Tk a 3) hc hl htl h100 (CM Z.s Z.i Z.lt Z.un Z.hu Z.hv) (n:=M) (by ext);obtain⟨b1,b2,b3⟩:=ME Z.s Z.hu Z.hv Z.un B;rw[←vR] at h;have zs:=Z.s;have zr:=Z.r;generalize Tk a 3=T at*;obtain⟨x,y,z,rfl⟩:=three hl3;simp only[map_cons,List.map_nil,List.cons.injEq,and_true] at zs zr;obtain⟨x0,x1,x2⟩:=zs;obtain⟨r0,r1,r2⟩:=zr;by_cases p:u <+: J.drop c
 ·have:=b1 p;subst this;have e1:iK [x,y,z] (some 1)=(1:Nat):=r1;have e2:gt [x,y,z] (some 1)=u.length:=congrArg List.length x1;rw[e1,e2] at h;exact⟨1,u.length,h,fun _=>⟨rfl,rfl⟩,fun q=>absurd q (Z.un _ p),fun q=>absurd p q⟩
 ·by_cases q:v <+: J.drop c
  ·have:=b2 q;subst this;have e1:iK [x,y,z] (some 2)=(2:Nat):=r2;have e2:gt [x,y,z] (some 2)=v.length:=congrArg List.length x2;rw[e1,e2] at h;exact⟨2,v.length,h,fun q=>absurd q p,fun _=>⟨rfl,rfl⟩,fun _ z=>absurd q z⟩
  ·have:=b3 p q;subst this;have e1:iK [x,y,z] (some 0)=(3:Nat):=r0;have e2:gt [x,y,z] (some 0)=0:=congrArg List.length x0;rw[e1,e2] at h;exact⟨3,0,h,fun z=>absurd z p,fun z=>absurd z q,fun _ _=>⟨rfl,rfl⟩⟩
theorem RK{sc:Scope}{attr s1 s2:Str}{B:List Stmt}(sh:BZ attr s1 s2 B)(S:DS sc)(ht:eg tl)(ca:bK attr=some (amgs a 3))(Z:T3 a u v)(h1:ce (.str s1)=some (.str u1))(h2:ce (.str s2)=some (.str v1))(l1:u1.length≤2*u.length)(l2:v1.length≤2*v.length){kk:Nat}{qq:Pos}
  (R:Rp u v u1 v1 t t'):∀ (d:List Nat) (ρ:af) (τ κ:Int) (N:Nat),LP ρ→t.length+230≤N→d.length+2*t.length≤1000→
  ∃ ρ' b k,(ev N).W sc ρ (ak (d++t) d.length (d++t).length lb τ κ tl) (.Constant (.bool true) kk qq) B=some (.next,ρ',ak (d++t') ((d++t').length:Nat) (d++t').length lb b k tl):=by
 have up:=List.length_pos_iff.mpr Z.hu;have vp:=List.length_pos_iff.mpr Z.hv;have tn:=ma ht;have dr:∀ (d t:List Nat),(d++t).drop d.length=t:=fun d t=>List.drop_left
 induction R with
 | nil=>
  intro d ρ τ κ N L hN hl;obtain⟨M,rfl⟩:∃ M,N=M+1:=⟨N-1,by ext⟩;rw[List.append_nil];refine⟨pL d.length 3,d.length,d.length,oD rfl (by ext) (JR sh S L ht (by ext) ca (Int.le_refl _) fun M hM=>?_) rfl⟩;obtain⟨k,n,h,_,_,h3⟩:=Pk (J:=d) (c:=d.length) (lb:=lb) (τ:=d.length) (κ:=κ) Z (le_refl _) (by ext) tn hM;rw[List.drop_length] at h3;obtain⟨rfl,rfl⟩:=h3 (fun q=>Z.hu (List.prefix_nil.mp q)) (fun q=>Z.hv (List.prefix_nil.mp q));rw[h];show some (V.int 3,ak d ((d.length:Int)+0) d.length lb d.length κ tl)=_;rw[Int.add_zero]
 | @fst t t' R ih=>
  intro d ρ τ κ N L hN hl;obtain⟨M,rfl⟩:∃ M,N=M+1:=⟨N-1,by ext⟩;rw[length_append] at hN hl;obtain⟨ρ',b,k,h⟩:=ih (d++u1) (pL d.length 1) d.length ((d++u1).length:Nat) M (Gi _ _) (by ext) (by rw[length_append];ext);rw[append_assoc d u1 t'] at h;refine⟨ρ',b,k,oD rfl (by ext) (x:=.cont) (ρ':=pL d.length 1) (Y':=ak (d++u1++t) ((d++u1).length:Nat) (d++u1++t).length lb d.length ((d++u1).length:Nat) tl) ?_ h⟩;rw[←append_assoc];refine TN sh S L ht (by ext) ca h1 (by ext) fun M hM=>?_
  obtain⟨k,n,h,h3,_,_⟩:=Pk (J:=d++u++t) (c:=d.length) (lb:=lb) (τ:=d.length) (κ:=κ) Z (by rw[length_append,length_append];ext) (by rw[length_append,length_append];ext) tn hM;rw[append_assoc,dr] at h3;obtain⟨rfl,rfl⟩:=h3 (List.prefix_append _ _);rw[h];show some (V.int 1,ak (d++u++t) ((d.length:Int)+u.length) (d++u++t).length lb d.length κ tl)=_;rw[show (d.length:Int)+u.length=((d++u).length:Nat) by rw[length_append];ext]
 | @snd t t' R ih=>
  intro d ρ τ κ N L hN hl;obtain⟨M,rfl⟩:∃ M,N=M+1:=⟨N-1,by ext⟩;rw[length_append] at hN hl;obtain⟨ρ',b,k,h⟩:=ih (d++v1) (pL d.length 2) d.length ((d++v1).length:Nat) M (Gi _ _) (by ext) (by rw[length_append];ext);rw[append_assoc d v1 t'] at h;refine⟨ρ',b,k,oD rfl (by ext) (x:=.cont) (ρ':=pL d.length 2) (Y':=ak (d++v1++t) ((d++v1).length:Nat) (d++v1++t).length lb d.length ((d++v1).length:Nat) tl) ?_ h⟩;rw[←append_assoc];refine Tg sh S L ht (by ext) ca h2 (by ext) fun M hM=>?_
  obtain⟨k,n,h,_,h3,_⟩:=Pk (J:=d++v++t) (c:=d.length) (lb:=lb) (τ:=d.length) (κ:=κ) Z (by rw[length_append,length_append];ext) (by rw[length_append,length_append];ext) tn hM;rw[append_assoc,dr] at h3;obtain⟨rfl,rfl⟩:=h3 (List.prefix_append _ _);rw[h];show some (V.int 2,ak (d++v++t) ((d.length:Int)+v.length) (d++v++t).length lb d.length κ tl)=_;rw[show (d.length:Int)+v.length=((d++v).length:Nat) by rw[length_append];ext]
 | @one x t t' nu nv R ih=>
  intro d ρ τ κ N L hN hl;obtain⟨M,rfl⟩:∃ M,N=M+1:=⟨N-1,by ext⟩;rw[length_cons] at hN hl;obtain⟨ρ',b,k,h⟩:=ih (d++[x]) (pL d.length 3) d.length d.length M (Gi _ _) (by ext) (by rw[length_append];show d.length+1+2*t.length≤1000;ext);have e1:∀ t,d++[x]++t=d++x :: t:=fun t=>by simp
  rw[e1,e1] at h;have e2:((d++[x]).length:Int)=(d.length:Int)+1:=by rw[length_append];rfl
  rw[e2] at h;refine⟨ρ',b,k,oD rfl (by ext) (x:=.cont) (ρ':=pL d.length 3) (Y':=ak (d++x :: t) ((d.length:Int)+1) (d++x :: t).length lb d.length d.length tl) ?_ h⟩;refine Tu sh S L ht (by ext) ca (by rw[length_append,length_cons];ext) fun M hM=>?_
  obtain⟨k,n,h,_,_,h3⟩:=Pk (J:=d++x :: t) (c:=d.length) (lb:=lb) (τ:=d.length) (κ:=κ) Z (by rw[length_append];ext) (by rw[length_append,length_cons];ext) tn hM;rw[dr] at h3;obtain⟨rfl,rfl⟩:=h3 nu nv;rw[h];show some (V.int 3,ak (d++x :: t) ((d.length:Int)+0) (d++x :: t).length lb d.length κ tl)=_;rw[Int.add_zero]
theorem z0:T3 0 [227] [245]:=by
 refine⟨by rfl',by rfl',by rfl',by rfl',fun t h1 h2=>?_,by simp,by simp,by decide,by decide⟩
 induction t using zL with
 | nil=>simp at h1
 | cons x t=>
  rw[cons_prefix_cons] at h1 h2;rw[←h1.1] at h2;exact absurd h2.1 (by decide)
theorem z1:T3 3 [97,126] [111,126]:=by
 refine⟨by rfl',by rfl',by rfl',by rfl',fun t h1 h2=>?_,by simp,by simp,by decide,by decide⟩
 induction t using zL with
 | nil=>simp at h1
 | cons x t=>
  rw[cons_prefix_cons] at h1 h2;rw[←h1.1] at h2;exact absurd h2.1 (by decide)
theorem LR:DS (aJ aX.st):=⟨by rfl',by rfl',by rfl',by rfl',by rfl'⟩
theorem Ip:DS (aJ aO.st):=⟨by rfl',by rfl',by rfl',by rfl',by rfl'⟩
theorem By:br aX.st=[ai aX 0,ai aX 1]:=by rfl'
theorem xM:br aO.st=[ai aO 0,ai aO 1]:=by rfl'
theorem wV:ai aX 0=.While (.Constant (.bool true) (cT (iH (ai aX 0))).1 (cT (iH (ai aX 0))).2) preB' [] (BX (ai aX 0)):=by rfl'
theorem uq:ai aO 0=.While (.Constant (.bool true) (cT (iH (ai aO 0))).1 (cT (iH (ai aO 0))).2) postB [] (BX (ai aO 0)):=by rfl'
theorem sr(ht:eg tl){N:Nat}(hN:t.length+240≤N)(hl:t.length≤500)(R:Rp [227] [245] [97,126] [111,126] t t'):∃ b k,(ev N).C aX [.self] (ak t (0:Nat) t.length lb τ κ tl)=some (.bool true,ak t' t'.length t'.length lb b k tl):=by
 obtain⟨M,rfl⟩:∃ M,N=M+8:=⟨N-8,by ext⟩;obtain⟨ρ',b,k,h⟩:=RK (lb:=lb) (tl:=tl) Hz LR ht Uf z0 QT Qg (by decide) (by decide) (kk:=(cT (iH (ai aX 0))).1) (qq:=(cT (iH (ai aX 0))).2) R [] [("self",.self)] τ κ (M+5) Rz (by ext) (by show 0+2*t.length≤1000;ext);rw[List.nil_append,List.nil_append] at h;refine⟨b,k,bC rfl rfl rfl By (ρ':=ρ') (ab rfl (aq (nM rfl h) wV) (aA rfl (aq (cr) rfl)))⟩
theorem rM(ht:eg tl){N:Nat}(hN:t.length+240≤N)(hl:t.length≤500)(R:Rp [97,126] [111,126] [227] [245] t t'):∃ b k,(ev N).C aO [.self] (ak t (0:Nat) t.length lb τ κ tl)=some (.bool true,ak t' t'.length t'.length lb b k tl):=by
 obtain⟨M,rfl⟩:∃ M,N=M+8:=⟨N-8,by ext⟩;obtain⟨ρ',b,k,h⟩:=RK (lb:=lb) (tl:=tl) CG Ip ht Ul z1 PD Pz (by decide) (by decide) (kk:=(cT (iH (ai aO 0))).1) (qq:=(cT (iH (ai aO 0))).2) R [] [("self",.self)] τ κ (M+5) Rz (by ext) (by show 0+2*t.length≤1000;ext);rw[List.nil_append,List.nil_append] at h;refine⟨b,k,bC rfl rfl rfl xM (ρ':=ρ') (ab rfl (aq (nM rfl h) uq) (aA rfl (aq (cr) rfl)))⟩
end
abbrev gf:Scope:=aJ bA.st
noncomputable def sv(id:Str)(v:Int):Str×V:=(id,.int v)
noncomputable def lT(l:af):af:=(("self",.self):Str×V) :: sv "v_1" (0:Nat) :: sv "v_2" 0 :: l
noncomputable def l3:af:=lT [sv "v_3" 0]
noncomputable def l4:af:=lT [sv "v_3" 0,sv "v_4" 0]
noncomputable def l5:af:=lT [sv "v_3" 0,sv "v_4" 0,sv "v_5" 0]
noncomputable def l6:af:=lT [sv "v_3" 0,sv "v_4" 0,sv "v_5" 0,sv "v_6" 0]
noncomputable def l7:af:=lT [sv "v_3" 0,sv "v_4" 0,sv "v_5" 0,sv "v_6" 0,sv "v_7" 1]
theorem fu:gf.names.lookup ("lab2":Str)=some .globalImplicit:=by rfl'
theorem wc(l:af):SL gf (lT l):=⟨(by rfl'),by rfl'⟩
theorem QK(l:af):VL gf (lT l) "v_2" (.int 0):=(ba (by rfl'))
theorem TI:VL gf l5 "v_3" (.int 0):=(ba (by rfl'))
theorem TO:VL gf l5 "v_4" (.int 0):=(ba (by rfl'))
theorem SG:VL gf l5 "v_5" (.int 0):=(ba (by rfl'))
theorem T8:VL gf l6 "v_6" (.int 0):=(ba (by rfl'))
theorem PC:VL gf l7 "v_6" (.int 0):=(ba (by rfl'))
theorem Tt:VL gf l7 "v_7" (.int 1):=(ba (by rfl'))
def s7:Stmt:=ai bA 7
def yb:List Stmt:=dj (aG (dj s7) 0)
def t8:List Stmt:=dj (aG yb 1)
def x9:List Stmt:=dj (aG t8 1)
def mX:List Stmt:=dj (aG t8 4)
theorem Fu:yb=[aG yb 0,aG yb 1,aG yb 2,aG yb 3,aG yb 4]:=by rfl'
theorem ET:t8=[aG t8 0,aG t8 1,aG t8 2,aG t8 3,aG t8 4,aG t8 5,aG t8 6]:=by rfl'
theorem Aq:x9=[aG x9 0,aG x9 1,aG x9 2,aG x9 3,aG x9 4]:=by rfl'
theorem EK:mX=[aG mX 0,aG mX 1,aG mX 2,aG mX 3,aG mX 4,aG mX 5,aG mX 6,aG mX 7,aG mX 8,aG mX 9]:=by rfl'
inductive fb(id:Str)(b:List Stmt):Stmt→Prop
 | mk {p q u v:Pos}:fb id b (.Try b [.ExceptHandler (some (.Name id p)) none [.Pass q] u] [] [] v)
inductive ju(b:List Stmt):Stmt→Prop
 | mk {kk:Nat} {p q:Pos}:ju b (.While (.Constant (.bool true) kk q) b [] p)
theorem AL:fb "lab0" (dj s7) s7:=fb.mk
theorem Ff:fb "lab1" t8 (aG yb 1):=fb.mk
theorem y6:fb "lab2" (dj (aG x9 1)) (aG x9 1):=fb.mk
theorem v6:fb "lab2" mX (aG t8 4):=fb.mk
theorem AY:ju yb (aG (dj s7) 0):=ju.mk
theorem zy:ju x9 (aG t8 1):=ju.mk
theorem QF:dj s7=[aG (dj s7) 0]:=by rfl'
theorem QI:dj (aG x9 1)=[aG (dj (aG x9 1)) 0,aG (dj (aG x9 1)) 1]:=by rfl'
section
variable {sc:Scope}{ρ ρ' Y Y':af}{b:List Stmt}{st:Stmt}{M N:Nat}
theorem rl(h:ju b st)(e:N=M+2)(hM:2≤M)(hb:(ev M).SS sc ρ Y b=some (.brk,ρ',Y')):(ev N).S sc ρ Y st=some (.next,ρ',Y'):=by
 cases h;exact jh e hM hb ⟨(fun q=>by cases q),(fun q=>by cases q)⟩
theorem we(h:ju b st)(e:N=M+2)(hM:2≤M){k:Addr}(hb:(ev M).SS sc ρ Y b=some (.exc k,ρ',Y')):(ev N).S sc ρ Y st=some (.exc k,ρ',Y'):=by
 cases h;exact jh e hM hb ⟨(fun q=>by cases q),(fun q=>by cases q)⟩
theorem uk{id:Str}(h:fb id b st)(e:N=M+1)(hb:(ev M).SS sc ρ Y b=some (.next,ρ',Y')):(ev N).S sc ρ Y st=some (.next,ρ',Y'):=by
 cases h;exact kA e hb
theorem Fh{id:Str}(h:fb id b st)(e:N=M+1)(hb:(ev M).SS sc ρ Y b=some (.brk,ρ',Y')):(ev N).S sc ρ Y st=some (.brk,ρ',Y'):=by
 cases h;exact zE e hb
theorem Ha(h:fb "lab0" b st)(e:N=M+1)(hk:sc.names.lookup ("lab0":Str)=some .globalImplicit)(hb:(ev M).SS sc ρ Y b=some (.exc 900,ρ',Y')):(ev N).S sc ρ Y st=some (.next,ρ',Y'):=by
 cases h;exact du e hk hb
theorem Hx(h:fb "lab1" b st)(e:N=M+1)(hk:sc.names.lookup ("lab1":Str)=some .globalImplicit)(hb:(ev M).SS sc ρ Y b=some (.exc 913,ρ',Y')):(ev N).S sc ρ Y st=some (.next,ρ',Y'):=by
 cases h;exact C5 e hk hb
theorem oX(h:fb "lab2" b st)(e:N=M+1)(hk:sc.names.lookup ("lab2":Str)=some .globalImplicit)(hb:(ev M).SS sc ρ Y b=some (.exc 926,ρ',Y')):(ev N).S sc ρ Y st=some (.next,ρ',Y'):=by
 cases h;exact Eb e hk hb
end
section
variable {w h:List Nat}{pV p1 p2 N:Nat}{τ κ:Int}
noncomputable def t9(h:List Nat)(first:Nat):List Nat:=if (mR h h.length 0 105&&mR h (h.length-1) 0 99)∧first≤h.length-1 then h.take (h.length-1) else h
theorem I1(hN:100≤N)(hl:h.length≤1000):∃ ρ' c' b' k',(ρ'=l6∨ρ'=l7)∧(ev N).S gf l6 (lM h τ κ pV p1 p2) (aG t8 4)=some (.next,ρ',ak (t9 h pV) c' (t9 h pV).length (0:Nat) b' k' (aV pV p1 p2)):=by
 obtain⟨M,rfl⟩:∃ M,N=M+40:=⟨N-40,by ext⟩;have t3:(aV (pV:Int) p1 (p2:Int)).length≤50:=show 3≤50 by decide
 have H6:SL gf l6:=wc _;have H7:SL gf l7:=wc _;cases hi:mR h h.length 0 105 with
 | false=>
  have e:t9 h pV=h:=by unfold t9;rw[hi,Bool.false_and,if_neg (fun q=>by cases q.1)]
  rw[e];refine⟨l6,h.length,τ,h.length,.inl rfl,oX v6 rfl fu ?_⟩;rw[EK];refine ab rfl (aq (bI H6 t3) rfl) ?_;exact bF rfl (aq (bB rfl (dJ H6 I9 (le_refl _)) (by rw[hi];rfl) (bF rfl (fG fu))) rfl)
 | true=>
  have hp:=ez hi;have d1:(h.length:Int)-1=((h.length-1:Nat):Int):=by ext
  have z7:put l6 "v_7" (.int ((h.length:Int)-((h.length-1:Nat):Int)))=l7:=by rw[show (h.length:Int)-((h.length-1:Nat):Int)=1 by ext];exact (by rfl')
  have pre:∀ {r},(ev (M+34)).SS gf l7 (ak h ((h.length-1:Nat):Int) h.length (0:Nat) ((h.length-1:Nat):Int) h.length (aV pV p1 p2)) [aG mX 5,aG mX 6,aG mX 7,aG mX 8,aG mX 9]=r→(ev (M+39)).SS gf l6 (lM h τ κ pV p1 p2) mX=r:=fun {r} hr=>by
   rw[EK];refine ab rfl (aq (bI H6 t3) rfl) ?_;refine ab rfl (aq (bt rfl (dJ H6 I9 (le_refl _)) (by rw[hi];rfl)) rfl) ?_;refine ab rfl (aq (fh H6 t3 d1 (by ext)) rfl) ?_;refine ab rfl (aq (bX H6 t3) rfl) ?_;exact ab rfl (aq (bx H6 (by rfl') z7 (by ext)) rfl) hr
  cases hc:mR h (h.length-1) 0 99 with
  | false=>
   have e:t9 h pV=h:=by unfold t9;rw[hi,hc,if_neg (fun q=>by cases q.1)]
   rw[e];refine⟨l7,((h.length-1:Nat):Int),((h.length-1:Nat):Int),h.length,.inr rfl,oX v6 rfl fu (pre ?_)⟩;exact bF rfl (aq (bB rfl (dJ H7 I6 (by ext)) (by rw[hc];rfl) (bF rfl (fG fu))) rfl)
  | true=>
   have hp2:=ez hc;have d2:((h.length-1:Nat):Int)-1=((h.length-2:Nat):Int):=by ext
   have d3:(h.length:Int)-1=((h.length-1:Nat):Int):=by ext
   have pre2:∀ {r},(ev (M+31)).SS gf l7 (ak h ((h.length-1:Nat):Int) h.length (0:Nat) ((h.length-1:Nat):Int) h.length (aV pV p1 p2)) [aG mX 8,aG mX 9]=r→(ev (M+34)).SS gf l7 (ak h ((h.length-1:Nat):Int) h.length (0:Nat) ((h.length-1:Nat):Int) h.length (aV pV p1 p2)) [aG mX 5,aG mX 6,aG mX 7,aG mX 8,aG mX 9]=r:=fun {r} hr=>by
    refine ab rfl (aq (bt rfl (dJ H7 I6 (by ext)) (by rw[hc];rfl)) rfl) ?_;refine ab rfl (aq (fh H7 t3 d2 (by ext)) rfl) ?_;exact ab rfl (aq (cz H7 t3 Tt d3 (by ext)) rfl) hr
   by_cases hv:pV≤h.length-1
   ·have e:t9 h pV=h.take (h.length-1):=by unfold t9;rw[hi,hc,if_pos ⟨rfl,hv⟩]
    rw[e];refine⟨l7,((h.take (h.length-1)).length:Nat),((h.take (h.length-1)).length:Nat),((h.take (h.length-1)).length:Nat),.inr rfl,uk v6 rfl (pre (pre2 ?_))⟩;refine ab (ρ':=l7) rfl (aq (ip H7 ?ok1 (by ext)) rfl) ?_
    ·rfl
    refine aP rfl (aq (rf (w:=h) (a:=h.length-1) (p1:=p1) H7 ?ok3 (by ext) hl (by ext)) rfl);rfl
   ·have e:t9 h pV=h:=by unfold t9;rw[if_neg (fun q=>hv q.2)]
    rw[e];refine⟨l7,((h.length-1:Nat):Int),((h.length-1:Nat):Int),h.length,.inr rfl,oX v6 rfl fu (pre (pre2 ?_))⟩;refine bF rfl (aq (kl rfl (by ext) H7 ?ok2 (by ext) (bF rfl (fG fu))) rfl);rfl
theorem AJ(hN:374≤N)(hl:w.length≤1000)(hv:pV≤w.length)(h1:dq w pV p1 p2=none)(h2:e9 w pV=none):∃ c' b' k',(ev N).S gf l4 (lM w τ κ pV p1 p2) (aG t8 1)=some (.exc 913,l5,ak w c' w.length (0:Nat) b' k' (aV pV p1 p2)):=by
 obtain⟨M,rfl⟩:∃ M,N=M+12:=⟨N-12,by ext⟩;have t3:(aV (pV:Int) p1 (p2:Int)).length≤50:=show 3≤50 by decide
 have H4:SL gf l4:=wc _;have H5:SL gf l5:=wc _;refine gy (vA (N:=M+2) (w:=w) (pV:=pV) (p1:=p1) (p2:=p2) (τ:=τ) (κ:=κ) (by ext) hl) fun c1 b1 k1 S1=>?_
 refine gy (tC (N:=M+2) (w:=w) (pV:=pV) (p1:=p1) (p2:=p2) (τ:=b1) (κ:=k1) (by ext) hl hv) fun c2 b2 k2 S2=>?_
 rw[h1] at S1;rw[h2] at S2;have z5:put l4 "v_5" (.int ((w.length:Int)-w.length))=l5:=by rw[Int.sub_self];exact (by rfl')
 refine⟨c2,b2,k2,we zy rfl (by ext) ?_⟩;rw[Aq];refine ab rfl (aq (bx H4 (by rfl') z5 (by ext)) rfl) ?_;refine ab (ρ':=l5) (Y':=ak w c1 w.length (0:Nat) b1 k1 (aV pV p1 p2)) rfl (oX y6 rfl fu ?_) ?_
 ·rw[QI];refine bF rfl (aq (nF rfl rfl (by ext) H5 ?k1 (by rfl') (by rfl') S1 (bF rfl (fG fu))) rfl);rfl
 refine ab rfl (aq (cz H5 t3 SG (Int.sub_zero _) (by ext)) rfl) ?_;refine bF rfl (aq (nF rfl rfl (by ext) H5 ?k2 (by rfl') (by rfl') S2 (bF rfl (xm (by ext) (by rfl')))) rfl);rfl
def dM(w:List Nat)(first one two:Nat):Option (List Nat):=match dq w first one two with
 | some h=>some h
 | none=>e9 w first
theorem yO(hN:374≤N)(hl:w.length≤1000)(hv:pV≤w.length)(h1:dM w pV p1 p2=some h):∃ c' b' k',(ev N).S gf l4 (lM w τ κ pV p1 p2) (aG t8 1)=some (.next,l5,ak h c' h.length (0:Nat) b' k' (aV pV p1 p2)):=by
 obtain⟨M,rfl⟩:∃ M,N=M+12:=⟨N-12,by ext⟩;have t3:(aV (pV:Int) p1 (p2:Int)).length≤50:=show 3≤50 by decide
 have H4:SL gf l4:=wc _;have H5:SL gf l5:=wc _;refine gy (vA (N:=M+2) (w:=w) (pV:=pV) (p1:=p1) (p2:=p2) (τ:=τ) (κ:=κ) (by ext) hl) fun c1 b1 k1 S1=>?_
 have z5:put l4 "v_5" (.int ((w.length:Int)-w.length))=l5:=by rw[Int.sub_self];exact (by rfl')
 unfold dM at h1;cases hn:dq w pV p1 p2 with
 | some h'=>
  rw[hn] at h1 S1;cases h1;refine⟨c1,b1,k1,rl zy rfl (by ext) ?_⟩;rw[Aq];refine ab rfl (aq (bx H4 (by rfl') z5 (by ext)) rfl) ?_;refine iX rfl (Fh y6 rfl ?_);rw[QI];refine ab rfl (aq (rA rfl (by ext) H5 ?k1 (by rfl') (by rfl') S1) rfl) ?_
  ·rfl
  exact iX rfl (aq (gk) rfl)
 | none=>
  rw[hn] at h1 S1;have h1:e9 w pV=some h:=h1;refine gy (tC (N:=M+2) (w:=w) (pV:=pV) (p1:=p1) (p2:=p2) (τ:=b1) (κ:=k1) (by ext) hl hv) fun c2 b2 k2 S2=>?_
  rw[h1] at S2;refine⟨c2,b2,k2,rl zy rfl (by ext) ?_⟩;rw[Aq];refine ab rfl (aq (bx H4 (by rfl') z5 (by ext)) rfl) ?_;refine ab (ρ':=l5) (Y':=ak w c1 w.length (0:Nat) b1 k1 (aV pV p1 p2)) rfl (oX y6 rfl fu ?_) ?_
  ·rw[QI];refine bF rfl (aq (nF rfl rfl (by ext) H5 ?k2 (by rfl') (by rfl') S1 (bF rfl (fG fu))) rfl);rfl
  refine ab rfl (aq (cz H5 t3 SG (Int.sub_zero _) (by ext)) rfl) ?_;refine ab rfl (aq (rA rfl (by ext) H5 ?k3 (by rfl') (by rfl') S2) rfl) ?_
  ·rfl
  exact iX rfl (aq (gk) rfl)
def dm(w:List Nat)(first one two:Nat):List Nat:=match dM w first one two with
 | some h=>t9 h first
 | none=>aT w (ends 181 7) first
theorem ym(hN:384≤N)(hl:w.length≤1000)(hh:∀ h,dM w pV p1 p2=some h→h.length≤1000)(hv:pV≤w.length):∃ ρ' c' b' k',(ρ'=l5∨ρ'=l6∨ρ'=l7)∧(ev N).S gf (lT []) (lM w τ κ pV p1 p2) s7=some (.next,ρ',ak (dm w pV p1 p2) c' (dm w pV p1 p2).length (0:Nat) b' k' (aV pV p1 p2)):=by
 obtain⟨M,rfl⟩:∃ M,N=M+15:=⟨N-15,by ext⟩;have t3:(aV (pV:Int) p1 (p2:Int)).length≤50:=show 3≤50 by decide
 have H3:SL gf l3:=wc _;have H5:SL gf l5:=wc _;have z3:put (lT []) "v_3" (.int ((w.length:Int)-w.length))=l3:=by rw[Int.sub_self];exact (by rfl')
 have z4:put l3 "v_4" (.int ((w.length:Int)-w.length))=l4:=by rw[Int.sub_self];exact (by rfl')
 cases ht:dM w pV p1 p2 with
 | some h=>
  have em:dm w pV p1 p2=t9 h pV:=by unfold dm;rw[ht]
  rw[em];have hh:=hh h ht;refine gy (yO (N:=M+6) (τ:=τ) (κ:=κ) (by ext) hl hv ht) fun c1 b1 k1 T1=>?_
  have z6:put l5 "v_6" (.int ((h.length:Int)-h.length))=l6:=by rw[Int.sub_self];exact (by rfl')
  refine jI (I1 (N:=M+3) (h:=h) (pV:=pV) (p1:=p1) (p2:=p2) (τ:=b1) (κ:=k1) (by ext) hh) fun ρ' c2 b2 k2 zz=>And.elim (fun hloc T2=>?_) zz
  have V6:VL gf ρ' "v_6" (.int 0):=by
   rcases hloc with rfl | rfl
   ·exact T8
   ·exact PC
  have H':SL gf ρ':=by rcases hloc with rfl | rfl<;>exact wc _
  refine⟨ρ',((t9 h pV).length:Nat),b2,k2,.inr hloc,uk (b:=dj s7) AL rfl ?_⟩;rw[QF];refine aP rfl (rl AY rfl (by ext) ?_);rw[Fu];refine ab rfl (aq (bx (wc _) (by rfl') z3 (by ext)) rfl) ?_;refine iX rfl (Fh Ff rfl ?_);rw[ET];refine ab rfl (aq (bx H3 (by rfl') z4 (by ext)) rfl) ?_;refine ab rfl T1 ?_;refine ab rfl (aq (cz H5 t3 TO (Int.sub_zero _) (by ext)) rfl) ?_;refine ab rfl (aq (bx H5 (by rfl') z6 (by ext)) rfl) ?_;refine ab rfl T2 ?_;refine ab rfl (aq (cz H' t3 V6 (Int.sub_zero _) (by ext)) rfl) ?_;exact iX rfl (aq (gk) rfl)
 | none=>
  have em:dm w pV p1 p2=aT w (ends 181 7) pV:=by unfold dm;rw[ht]
  rw[em];have hn:dq w pV p1 p2=none∧e9 w pV=none:=by
   unfold dM at ht;cases hn:dq w pV p1 p2 with
   | some h=>rw[hn] at ht;cases ht
   | none=>rw[hn] at ht;exact⟨rfl,ht⟩
  refine gy (AJ (N:=M+6) (τ:=τ) (κ:=κ) (by ext) hl hv hn.1 hn.2) fun c1 b1 k1 T1=>?_
  refine jI (Cw (N:=M+3) (w:=w) (pV:=pV) (p1:=p1) (p2:=p2) (τ:=b1) (κ:=k1) (by ext) hl) fun b c2 b2 k2 R=>?_
  have pre:∀ {r},(ev (M+8)).SS gf l5 (lM w b1 k1 pV p1 p2) [aG yb 3,aG yb 4]=r→(ev (M+11)).SS gf (lT []) (lM w τ κ pV p1 p2) yb=r:=fun {r} hr=>by
   rw[Fu];refine ab rfl (aq (bx (wc _) (by rfl') z3 (by ext)) rfl) ?_;refine ab (ρ':=l5) (Y':=ak w c1 w.length (0:Nat) b1 k1 (aV pV p1 p2)) rfl (Hx Ff rfl (by rfl') ?_) ?_
   ·rw[ET];refine ab rfl (aq (bx H3 (by rfl') z4 (by ext)) rfl) ?_;exact bF rfl T1
   exact ab rfl (aq (cz H5 t3 TI (Int.sub_zero _) (by ext)) rfl) hr
  induction b using zB with
  | true=>
   refine⟨l5,c2,b2,k2,.inl rfl,uk (b:=dj s7) AL rfl ?_⟩;rw[QF];refine aP rfl (rl AY rfl (by ext) (pre ?_));refine ab rfl (aq (rA rfl (by ext) H5 ?k1 (by rfl') (by rfl') R) rfl) ?_
   ·rfl
   exact iX rfl (aq (gk) rfl)
  | false=>
   refine⟨l5,c2,b2,k2,.inl rfl,Ha (b:=dj s7) AL rfl (by rfl') ?_⟩;rw[QF];refine aP rfl (we AY rfl (by ext) (pre ?_));refine bF rfl (aq (nF rfl rfl (by ext) H5 ?k3 (by rfl') (by rfl') R (bF rfl (cu (by rfl')))) rfl);rfl
end
structure PR(ρ:af):Prop where
 s:SL gf ρ
 v2:VL gf ρ "v_2" (.int 0)
 s8:SL gf (put ρ "v_8" (.int 0))
 v8:VL gf (put ρ "v_8" (.int 0)) "v_8" (.int 0)
 s9:SL gf (put (put ρ "v_8" (.int 0)) "v_9" (.int (0:Nat)))
 v9:VL gf (put (put ρ "v_8" (.int 0)) "v_9" (.int (0:Nat))) "v_9" (.int (0:Nat))
theorem Cs{ρ:af}(h:ρ=l5∨ρ=l6∨ρ=l7):PR ρ:=by
 rcases h with rfl | rfl | rfl
 ·exact⟨wc _,QK _,⟨(by rfl'),by rfl'⟩,(ba (by rfl')),⟨(by rfl'),by rfl'⟩,(ba (by rfl'))⟩
 ·exact⟨wc _,QK _,⟨(by rfl'),by rfl'⟩,(ba (by rfl')),⟨(by rfl'),by rfl'⟩,(ba (by rfl'))⟩
 ·exact⟨wc _,QK _,⟨(by rfl'),by rfl'⟩,(ba (by rfl')),⟨(by rfl'),by rfl'⟩,(ba (by rfl'))⟩
noncomputable def l1:af:=[("self",.self),sv "v_1" (0:Nat)]
theorem PI:SL gf [("self",.self)]:=⟨(by rfl'),by rfl'⟩
theorem xL:SL gf l1:=⟨(by rfl'),by rfl'⟩
theorem Pw:VL gf l1 "v_1" (.int (0:Nat)):=(ba (by rfl'))
theorem TC:put [("self",.self)] "v_1" (.int (0:Nat))=l1:=by rfl'
theorem Tm:put l1 "v_2" (.int 0)=lT []:=by rfl'
theorem xa:br bA.st=[ai bA 0,ai bA 1,ai bA 2,ai bA 3,ai bA 4,ai bA 5,ai bA 6,s7,ai bA 8,ai bA 9,ai bA 10,ai bA 11,ai bA 12,ai bA 13,ai bA 14,ai bA 15,ai bA 16]:=by rfl'
theorem Bs{J:List Nat}{c l lb τ κ:Int}{tl:af}(ht:eg tl):look (ak J c l lb τ κ tl) "r_prelude"=none:=by
 rcases ht with rfl | ⟨x,y,z,rfl⟩<;>rfl'
theorem w6{J:List Nat}{c l lb τ κ:Int}{tl:af}(ht:eg tl):look (ak J c l lb τ κ tl) "r_mark_regions"=none:=by
 rcases ht with rfl | ⟨x,y,z,rfl⟩<;>rfl'
theorem li{c:Prop}[Decidable c]{a b:List Nat}{m:Nat}(h:a.length≤m)(k:b.length≤m):(if c then a else b).length≤m:=by
 by_cases q:c
 ·rw[if_pos q];exact h
 ·rw[if_neg q];exact k
theorem ni{c:Prop}[Decidable c]{a b m:Nat}(h:a≤m)(k:b≤m):(if c then a else b)≤m:=by
 by_cases q:c
 ·rw[if_pos q];exact h
 ·rw[if_neg q];exact k
theorem tB{h x:List Nat}{m:Nat}(q:x.length≤m):(h++x).length≤h.length+m:=by
 rw[length_append];exact Nat.add_le_add_left q _
def OL(m:Nat)(o:Option (List Nat)):Prop:=∀ h,o=some h→h.length≤m
theorem Ck{m:Nat}:OL m none:=fun _ e=>nn e
theorem pN{m:Nat}{l:List Nat}(q:l.length≤m):OL m (some l):=fun _ e=>inj e ▸ q
theorem mV{c:Prop}[Decidable c]{a b:Option (List Nat)}{m:Nat}(h:OL m a)(k:OL m b):OL m (if c then a else b):=by
 by_cases q:c
 ·rw[if_pos q];exact h
 ·rw[if_neg q];exact k
theorem sY(w:List Nat):aQ w≤w.length:=by
 unfold aQ;refine ni (le_refl _) ?_;cases w[0]? with
 | none=>exact le_refl _
 | some x=>
  cases w[1]? with
  | none=>exact le_refl _
  | some y=>exact ni (Nat.min_le_right _ _) (ni (Nat.min_le_right _ _) (Nat.min_le_right _ _))
theorem iE{w:List Nat}{es:List (List Nat)}{low m:Nat}:(aT w es low).length≤w.length+m:=le_trans tO (le_add_right _ _)
theorem GA{k:Int}{h:List Nat}{a b c:Nat}:OL (h.length+4) (t7 k h a b c):=by
 unfold t7;refine mV (mV (pN (tB (by decide))) Ck) (mV Ck (mV (pN (tB (by decide))) (mV (pN (tB (by decide))) (mV (pN (tB (by decide))) (mV (pN ?_) (mV (pN iE) (mV (pN iE) (mV (pN iE) (pN (le_add_right _ _))))))))));exact li (le_trans tO iE) iE
theorem oM{w e:List Nat}{m:Nat}:(cut w e).length≤w.length+m:=le_trans (List.length_take_le' _ _) (le_add_right _ _)
theorem yh{w:List Nat}{a b c:Nat}:OL (w.length+4) (dq w a b c):=mV Ck (fun h e=>le_trans (GA h e) (Nat.add_le_add_right (oM (m:=0)) 4))
theorem tv{w h:List Nat}{a b c:Nat}(e:dM w a b c=some h):h.length≤w.length+4:=by
 unfold dM at e;cases hn:dq w a b c with
 | some g=>
  rw[hn] at e;have e:some g=some h:=e;rw[←inj e];exact yh g hn
 | none=>
  rw[hn] at e;exact mV Ck (pN oM) h e
theorem pC(w:List Nat)(a b c:Nat):(dm w a b c).length≤w.length+4:=by
 unfold dm;cases h:dM w a b c with
 | some g=>
  have:=tv h;exact li (le_trans (List.length_take_le' _ _) this) this
 | none=>exact iE
theorem yy(w:List Nat)(a:Nat):(dQ w a).length≤w.length+1:=by
 unfold dQ;exact li (le_add_right _ _) (li (li (li (le_trans (List.length_take_le' _ _) oM) oM) (le_add_right _ _)) (le_trans (tB (m:=1) (by decide)) (Nat.add_le_add_right (oM (m:=0)) 1)))
section
variable {t w z:List Nat}{τ κ:Int}{tl:af}{N:Nat}
def mz(w:List Nat):List Nat:=dQ (dm w (aQ w) (ap w 0) (ap w (ap w 0))) (aQ w)
theorem sQ(w:List Nat):(mz w).length≤w.length+5:=by
 have:=yy (dm w (aQ w) (ap w 0) (ap w (ap w 0))) (aQ w);have:=pC w (aQ w) (ap w 0) (ap w (ap w 0));unfold mz;ext
theorem AZ(hN:395≤N)(ht:eg tl)(hl:t.length≤100)(hw:w.length≤100)(R1:Rp [227] [245] [97,126] [111,126] t w)(R2:Rp [97,126] [111,126] [227] [245] (mz w) z):
  ∃ b k x y u,(ev N).C bA [.self] (ak t (0:Nat) t.length (0:Nat) τ κ tl)=some (.bool true,ak z (0:Nat) z.length (0:Nat) b k (aV x y u)):=by
 obtain⟨M,rfl⟩:∃ M,N=M+20:=⟨N-20,by ext⟩;have tn:=ma ht;obtain⟨b1,k1,P⟩:=sr (N:=M+15) (lb:=(0:Nat)) (τ:=τ) (κ:=κ) ht (by ext) (by ext) R1;have Mk:=zM (n:=M+13) (J:=w) (lb:=(0:Nat)) (τ:=b1) (κ:=k1) ht (by ext);have fl:=sY w;have ml:=pC w (aQ w) (ap w 0) (ap w (ap w 0));have cl:=sQ w;have ec:mz w=dQ (dm w (aQ w) (ap w 0) (ap w (ap w 0))) (aQ w):=rfl;have tol:∀ h,dM w (aQ w) (ap w 0) (ap w (ap w 0))=some h→h.length≤1000:=fun h e=>by have:=tv e;ext
 rw[ec] at R2 cl;rw[Dz] at Mk;generalize aQ w=pV at*;generalize ap w (ap w 0)=p2 at*;generalize ap w 0=p1 at*;have t3:(aV (pV:Int) p1 (p2:Int)).length≤50:=show 3≤50 by decide
 have tk3:eg (aV (pV:Int) p1 (p2:Int)):=.inr ⟨_,_,_,rfl⟩;refine jI (ym (N:=M+11) (w:=w) (pV:=pV) (p1:=p1) (p2:=p2) (τ:=b1) (κ:=k1) (by ext) (by ext) tol fl) fun ρ' c2 b2 k2 zz=>And.elim (fun hloc D=>?_) zz
 have T:=Cs hloc;generalize dm w pV p1 p2=m at*;refine jI (A0 (N:=M+6) (w:=m) (pV:=pV) (p1:=p1) (p2:=p2) (τ:=b2) (κ:=k2) (by ext) (by ext)) fun bb c3 b3 k3 F=>?_
 generalize dQ m pV=f at*;obtain⟨b4,k4,Q⟩:=rM (N:=M+2) (lb:=(0:Nat)) (τ:=b3) (κ:=k3) tk3 (by ext) (by ext) R2;refine⟨b4,k4,pV,p1,p2,bC rfl rfl rfl xa (ρ':=put (put ρ' "v_8" (.int 0)) "v_9" (.int (0:Nat))) ?_⟩;have z2:put l1 "v_2" (.int ((w.length:Int)-w.length))=lT []:=by rw[Int.sub_self];exact Tm
 have z8:put ρ' "v_8" (.int ((m.length:Int)-m.length))=put ρ' "v_8" (.int 0):=by rw[Int.sub_self]
 have z1:(ev (M+18)).S gf [("self",.self)] (ak t (0:Nat) t.length (0:Nat) τ κ tl) (ai bA 0)=some (.next,l1,ak t (0:Nat) t.length (0:Nat) τ κ tl):=aq (by rw[←TC];exact iA PI (by rfl')) rfl;refine ab rfl z1 ?_;refine ab rfl (aq (qU rfl xL ?o1 KL (Bs ht) rfl P) rfl) ?_
 ·rfl
 refine ab rfl (aq (rc (by ext) xL tn Pw) rfl) ?_;refine ab rfl (aq (qU rfl xL ?o2 Fx (w6 ht) rfl Mk) rfl) ?_
 ·rfl
 refine ab rfl (aq (Gy (by ext) xL t3) rfl) ?_;refine ab rfl (aq (Cm (by ext) xL t3) rfl) ?_;refine ab rfl (aq (bx xL (by rfl') z2 (by ext)) rfl) ?_;refine ab rfl D ?_;refine ab rfl (aq (cz T.s t3 T.v2 (Int.sub_zero _) (by ext)) rfl) ?_;refine ab rfl (aq (bx T.s (by rfl') z8 (by ext)) rfl) ?_;refine ab rfl (aq (qU rfl T.s8 ?o3 IE (by rfl') rfl F) rfl) ?_
 ·rfl
 refine ab rfl (aq (cz T.s8 t3 T.v8 (Int.sub_zero _) (by ext)) rfl) ?_;refine ab rfl (aq (DL (by ext) T.s8 t3) rfl) ?_;refine ab rfl (aq (iA T.s8 (by rfl')) rfl) ?_;refine ab rfl (aq (qU rfl T.s9 ?o4 GC (by rfl') rfl Q) rfl) ?_
 ·rfl
 refine ab rfl (aq (rc (by ext) T.s9 t3 T.v9) rfl) ?_;exact aA rfl (aq (cr) rfl)
end
noncomputable def jH:List Nat→List Nat
 | []=>[]
 | x :: t=>if x=227 then 97 :: 126 :: jH t else if x=245 then 111 :: 126 :: jH t else x :: jH t
noncomputable def vl:List Nat→List Nat
 | []=>[]
 | [x]=>[x]
 | x :: y :: t=>if x=97∧y=126 then 227 :: vl t else if x=111∧y=126 then 245 :: vl t else x :: vl (y :: t)
theorem rO:∀ t,(jH t).length≤2*t.length
 | []=>le_refl _
 | x :: t=>by
  have:=rO t;unfold jH;split
  ·simp only[length_cons];ext
  ·split<;>(simp only[length_cons];ext)
theorem Bp:∀ t,Rp [227] [245] [97,126] [111,126] t (jH t)
 | []=>.nil
 | x :: t=>by
  have h:=Bp t;unfold jH;by_cases a:x=227
  ·rw[if_pos a];subst a;exact .fst h
  ·rw[if_neg a];by_cases b:x=245
   ·rw[if_pos b];subst b;exact .snd h
   ·rw[if_neg b];refine .one (fun q=>?_) (fun q=>?_) h
    ·rw[cons_prefix_cons] at q;exact a q.1.symm
    ·rw[cons_prefix_cons] at q;exact b q.1.symm
theorem rW:∀ t,Rp [97,126] [111,126] [227] [245] t (vl t)
 | []=>.nil
 | [x]=>by
  unfold vl;refine .one (fun q=>?_) (fun q=>?_) .nil
  ·rw[cons_prefix_cons] at q;have:=q.2.length_le;simp at this
  ·rw[cons_prefix_cons] at q;have:=q.2.length_le;simp at this
 | x :: y :: t=>by
  unfold vl;by_cases a:x=97∧y=126
  ·rw[if_pos a];have h:=rW t;obtain⟨rfl,rfl⟩:=a;exact .fst h
  ·rw[if_neg a];by_cases b:x=111∧y=126
   ·rw[if_pos b];have h:=rW t;obtain⟨rfl,rfl⟩:=b;exact .snd h
   ·rw[if_neg b];have h:=rW (y :: t);refine .one (fun q=>?_) (fun q=>?_) h
    ·rw[cons_prefix_cons,cons_prefix_cons] at q;exact a ⟨q.1.symm,q.2.1.symm⟩
    ·rw[cons_prefix_cons,cons_prefix_cons] at q;exact b ⟨q.1.symm,q.2.1.symm⟩
def bR(t:List Nat):List Nat:=vl (mz (jH t))
abbrev Rb:Scope:=aJ aW.st
noncomputable def wL(t:List Nat):af:=[("self",.self),("word",.str t)]
theorem PF(t:List Nat):SL Rb (wL t):=⟨by rfl',by rfl'⟩
theorem wW(t:List Nat):VL Rb (wL t) "word" (.str t):=(ba (by rfl'))
theorem y8{J:List Nat}{c l lb τ κ:Int}{tl:af}(ht:eg tl):look (ak J c l lb τ κ tl) "set_current"=none:=by
 rcases ht with rfl | ⟨x,y,z,rfl⟩<;>rfl'
theorem xO{J:List Nat}{c l lb τ κ:Int}{tl:af}(ht:eg tl):look (ak J c l lb τ κ tl) "_stem"=none:=by
 rcases ht with rfl | ⟨x,y,z,rfl⟩<;>rfl'
theorem xt:br aW.st=[ai aW 0,ai aW 1,ai aW 2]:=by rfl'
theorem AK{J s:List Nat}{c l lb τ κ:Int}{tl:af}{N:Nat}(hN:20≤N)(ht:eg tl):(ev N).C cN [.self,.str s] (ak J c l lb τ κ tl)=some (.none,ak s (0:Nat) s.length (0:Nat) (0:Nat) s.length tl):=by
 obtain⟨n,rfl⟩:=xle hN;exact CS ht
theorem tu{J:List Nat}{c l lb τ κ:Int}{tl:af}{N:Nat}(hN:8≤N):(ev N).C cP [.self] (ak J c l lb τ κ tl)=some (.str J,ak J c l lb τ κ tl):=by
 obtain⟨n,rfl⟩:=xle hN;exact CE
theorem yV{t J:List Nat}{c l lb τ κ:Int}{tl:af}{N:Nat}(hN:402≤N)(ht:eg tl)(hl:t.length≤50):
  ∃ b k x y u,(ev N).C aW [.self,.str t] (ak J c l lb τ κ tl)=some (.str (bR t),ak (bR t) (0:Nat) (bR t).length (0:Nat) b k (aV x y u)):=by
 obtain⟨K,rfl⟩:∃ K,N=K+37:=⟨N-37,by ext⟩;have wl:=rO t;refine RV (AZ (N:=K+32) (τ:=(0:Nat)) (κ:=t.length) (by ext) ht (by ext) (by ext) (Bp t) (rW _)) fun b k x y u S=>?_
 have e:vl (mz (jH t))=bR t:=rfl;rw[e] at S;generalize bR t=z at*;have S0:=AK (N:=K+33) (s:=t) (J:=J) (c:=c) (l:=l) (lb:=lb) (τ:=τ) (κ:=κ) (by ext) ht;have S2:=tu (N:=K+31) (J:=z) (c:=(0:Nat)) (l:=z.length) (lb:=(0:Nat)) (τ:=b) (κ:=k) (tl:=aV x y u) (by ext);refine⟨b,k,x,y,u,bC rfl rfl rfl xt (ρ':=wL t) (ρ:=wL t) ?_⟩;refine ab rfl (aq (qU (vs:=[.str t]) (f:=cN) rfl (PF t) ?o1 Jy (y8 ht) (ei (au (wW t))) S0) rfl) ?_
 ·rfl
 refine ab rfl (aq (qU rfl (PF t) ?o2 IT (xO ht) rfl S) rfl) ?_
 ·rfl
 refine aA rfl (aq (cA rfl (tY rfl (PF t) ?o3 EP (by rfl') rfl S2)) rfl);rfl
section
variable {sc:Scope}{ρ Y Y' Y'':af}{M N:Nat}
theorem js{a b:Expr}{p:Pos}{x y:Bool}(e:N=M+1)(ha:(ev M).T sc ρ Y a=some (x,Y))(hb:x=true→(ev M).T sc ρ Y b=some (y,Y)):(ev N).T sc ρ Y (.BoolOp .And [a,b] p)=some (x&&y,Y):=by
 subst e;show (match (ev M).T sc ρ Y a with
     | some (false,Y)=>some (false,Y)
     | some (true,Y)=>(ev M).T sc ρ Y b
     | none=>none)=_
 rw[ha]
 induction x using zB with
 | false=>rfl
 | true=>exact hb rfl
theorem fa(e:N=M+1){id:Str}{a:Addr}{f:Fn}{args:List Expr}{p q:Pos}{vs:List V}{v:V}(hd:id≠"__debug__")(hc:id≠"__classdict__")(hk:sc.names.lookup id=some .globalImplicit)(hg:glob id=some (.addr a))(hf:eX a=some f)(ha:dl (ev M).E sc ρ Y args=some (vs,Y'))(hC:(ev M).C f vs Y'=some (v,Y''))(hM:1≤M:=by ext):(ev N).E sc ρ Y (.Call (.Name id p) args [] q)=some (v,Y''):=by
 subst e;obtain⟨n,rfl⟩:=xle hM;have hn:(ev (n+1)).E sc ρ Y (.Name id p)=some (.addr a,Y):=by
  show (if id="__debug__" then none else if id="__classdict__" then none else match sc.names.lookup id with
     | some .globalImplicit=>(glob id).map fun v=>(v,Y)
     | some .local | some .cell | some .free=>(look ρ id).map fun v=>(v,Y)
     | _=>none)=_
  rw[if_neg hd,if_neg hc,hk];dsimp only;rw[hg];rfl
 show (match (ev (n+1)).E sc ρ Y (.Name id p) with
     | some (.addr a,Y)=>match eX a with
      | some f=>match dl (ev (n+1)).E sc ρ Y args with
       | some (vs,Y)=>(ev (n+1)).C f vs Y
       | none=>none
      | none=>none
     | some (f,Y)=>match dl (ev (n+1)).E sc ρ Y args with
      | some (vs,Y)=>(fs f vs).map fun v=>(v,Y)
      | none=>none
     | none=>none)=_
 rw[hn];dsimp only;rw[hf];dsimp only;rw[ha];exact hC
end
noncomputable def se:List V:=[.str [97],.str [101],.str [105],.str [111],.str [117],.str [225],.str [226],.str [233],.str [234],.str [237],.str [243],.str [244],.str [250]]
theorem CW{Y:af}{N:Nat}(hN:6≤N):(ev N).C dX [] Y=some (.list se,Y):=by
 obtain⟨n,rfl⟩:=xle hN;rfl'
theorem lC(x:Nat):bW [x] se=some (ar x):=by
 have h:∀ y,(([x]:List Nat)==[y])=(x==y):=fun y=>by
  rw[Bool.eq_iff_iff];simp
 unfold se bW bW bW bW bW bW bW bW bW bW bW bW bW bW;simp only[Option.map_some,h];unfold ar;simp only[List.contains_cons,List.contains_nil]
abbrev I7:Scope:=aJ cE.st
noncomputable def eO:Option (List Nat)→af
 | none=>[]
 | some x=>[("end",.str x)]
noncomputable def eL(w:List Nat)(es:List V)(low:Nat)(f:List Nat)(o:Option (List Nat)):af:=(("word",.str w):Str×V) :: (("ends",.list es):Str×V) :: (("low",.int low):Str×V) :: (("found",.str f):Str×V) :: eO o
def eB:List Stmt:=dj (ai cE 1)
theorem KS:eB=[.If (iH (aG eB 0)) (dj (aG eB 0)) [] (BX (aG eB 0))]:=by rfl'
section
variable {w:List Nat}{Y:af}
theorem rn{low:Nat}(h:low≤w.length):bM w (some (low:Int)) none=w.drop low:=gL h
theorem M5{N:Nat}(hN:10≤N){E0:List V}{low:Nat}{f e:List Nat}(h:low≤w.length):(ev N).T I7 (eL w E0 low f (some e)) Y (iH (aG eB 0))=some (Nat.blt f.length e.length&&cK e (w.drop low),Y):=by
 obtain⟨n,rfl⟩:=xle hN;have e1:Nat.blt f.length e.length=decide ((f.length:Int)<e.length):=by
  rw[Bool.eq_iff_iff,decide_eq_true_iff];constructor
  ·intro q;have:f.length<e.length:=le_of_ble_eq_true q;ext
  ·intro q;exact ble_eq_true_of_le (by ext)
 rw[e1,←rn h];exact js rfl rfl (fun _=>rfl)
theorem nN{sc:Scope}{ρ ρ' Y Y':af}{N M:Nat}{x:Str}{v:V}{rest:List V}{b:List Stmt}{r:Option (Fl×af×af)}(e:N=M+1)(h:(ev M).SS sc (put ρ x v) Y b=some (.next,ρ',Y'))(k:(ev M).F sc ρ' Y' x rest b=r):(ev N).F sc ρ Y x (v :: rest) b=r:=by
 subst e;exact jj h k
theorem rp{sc:Scope}{ρ Y:af}{N:Nat}{x:Str}{b:List Stmt}(hN:1≤N):(ev N).F sc ρ Y x [] b=some (.next,ρ,Y):=by
 obtain⟨n,rfl⟩:=xle hN;rfl
theorem Hi{sc:Scope}{ρ Y:af}{N:Nat}{id id2:Str}{p p2 pos:Pos}{v:V}(hN:2≤N)(hk:sc.names.lookup id=some .local)(hv:VL sc ρ id2 v):(ev N).S sc ρ Y (.Assign [.Name id p] (.Name id2 p2) pos)=some (.next,put ρ id v,Y):=by
 obtain⟨M,rfl⟩:∃ M,N=M+1:=⟨N-1,by ext⟩;exact bz rfl rfl hk (au hv)
def sF(w:List Nat)(low:Nat)(f e:List Nat):List Nat:=bif Nat.blt f.length e.length&&cK e (w.drop low) then e else f
theorem Pv(w:List Nat)(E0:List V)(low:Nat)(f:List Nat)(o:Option (List Nat))(e:List Nat):put (eL w E0 low f o) "end" (.str e)=eL w E0 low f (some e):=by cases o<;>rfl'
theorem Oi(w:List Nat)(E0:List V)(low:Nat)(f:List Nat)(e:List Nat):put (eL w E0 low f (some e)) "found" (.str e)=eL w E0 low e (some e):=by rfl'
theorem SY(w:List Nat)(E0:List V)(low:Nat)(f:List Nat)(e:List Nat):VL I7 (eL w E0 low f (some e)) "end" (.str e):=(ba (by rfl'))
theorem To(w:List Nat)(E0:List V)(low:Nat)(f:List Nat)(o:Option (List Nat)):VL I7 (eL w E0 low f o) "found" (.str f):=⟨by decide+kernel,by decide+kernel,by rfl',by cases o<;>rfl'⟩
theorem AH{N:Nat}(hN:15≤N){E0:List V}{low:Nat}{f e:List Nat}(h:low≤w.length):(ev N).SS I7 (eL w E0 low f (some e)) Y eB=some (.next,eL w E0 low (sF w low f e) (some e),Y):=by
 obtain⟨M,rfl⟩:∃ M,N=M+4:=⟨N-4,by ext⟩;have T:=M5 (N:=M+2) (Y:=Y) (by ext) (E0:=E0) (f:=f) (e:=e) h;unfold sF;rw[KS];refine aP rfl ?_;cases c:Nat.blt f.length e.length&&cK e (w.drop low) with
 | true=>
  rw[c] at T;rw[cond_true,←Oi];refine bB rfl T rfl ?_;exact aP rfl (aq (Hi (by ext) (by rfl') (SY w E0 low f e)) rfl)
 | false=>
  rw[c] at T;rw[cond_false];exact bt rfl T rfl
theorem vn{E0:List V}{low:Nat}(h:low≤w.length):∀ (es:List (List Nat)) (f:List Nat) (o:Option (List Nat)) (N:Nat),es.length+16≤N→∃ o',(ev N).F I7 (eL w E0 low f o) Y "end" (es.map V.str) eB=some (.next,eL w E0 low (es.foldl (sF w low) f) o',Y)
 | [],f,o,N,hN=>⟨o,rp (by ext)⟩
 | e :: r,f,o,N,hN=>by
  rw[length_cons] at hN;obtain⟨M,rfl⟩:∃ M,N=M+1:=⟨N-1,by ext⟩;have T:=AH (N:=M) (Y:=Y) (by ext) (E0:=E0) (f:=f) (e:=e) h;obtain⟨o',q⟩:=vn h r (sF w low f e) (some e) M (by ext);refine⟨o',?_⟩;rw[List.foldl_cons,map_cons];refine nN rfl ?_ q;rw[Pv];exact T
inductive qn(x y:Str)(b:List Stmt):Stmt→Prop
 | mk {p q r:Pos}:qn x y b (.For (.Name x p) (.Name y q) b [] r)
theorem G5:qn "end" "ends" eB (ai cE 1):=qn.mk
theorem Fc{sc:Scope}{ρ Y:af}{N M:Nat}{x y:Str}{b:List Stmt}{st:Stmt}{xs:List V}{r:Option (Fl×af×af)}(sh:qn x y b st)(e:N=M+1)(hM:1≤M)(hx:sc.names.lookup x=some .local)(hy:VL sc ρ y (.list xs))(k:(ev M).F sc ρ Y x xs b=r):(ev N).S sc ρ Y st=r:=by
 subst e;cases sh with
 | @mk p q r'=>
  refine oj rfl hx ?_ k;show (match (ev M).E sc ρ Y (.Name y q) with
   | some (.list xs,Y)=>some (xs,Y)
   | _=>none)=_
  rw[au (hN:=hM) hy]
theorem uW{N:Nat}{es:List (List Nat)}{low:Nat}(hN:es.length+20≤N)(h:low≤w.length):(ev N).C cE [.str w,.list (es.map V.str),.int low] Y=some (.str (ah es (w.drop low)),Y):=by
 obtain⟨M,rfl⟩:∃ M,N=M+4:=⟨N-4,by ext⟩;obtain⟨o',q⟩:=vn (Y:=Y) (E0:=es.map V.str) h es [] none M (by ext);have e:es.foldl (sF w low) []=ah es (w.drop low):=rfl;rw[e] at q;have z:(ev (M+3)).SS I7 [("word",.str w),("ends",.list (es.map V.str)),("low",.int low)] Y [ai cE 0,ai cE 1,ai cE 2]=some (.ret (.str (ah es (w.drop low))),eL w (es.map V.str) low (ah es (w.drop low)) o',Y):=by
  generalize ah es (w.drop low)=g at*;obtain⟨K,rfl⟩:∃ K,M=K+3:=⟨M-3,by ext⟩;refine ab (ρ':=eL w (es.map V.str) low [] none) (Y':=Y) rfl rfl ?_;refine ab rfl ?_ (aA rfl (aq (cA rfl (au (To w _ low g o'))) rfl));exact Fc G5 rfl (by ext) (by rfl') (ba (by rfl')) q
 exact bC rfl rfl rfl (by rfl') z
end
section
variable {w e h:List Nat}{Y:af}{N:Nat}
abbrev Us:Scope:=aJ eI.st
theorem uX(hN:12≤N)(hl:e.length≤w.length):(ev N).C eI [.str w,.str e] Y=some (.str (cut w e),Y):=by
 obtain⟨n,rfl⟩:=xle hN;have:cut w e=bM w none (some ((w.length:Int)-e.length)):=by
  have q:=iu (J:=w) (a:=w.length-e.length) (by ext);rw[show (w.length:Int)-e.length=((w.length-e.length:Nat):Int) by ext];unfold cut;rw[←q];rfl
 rw[this];rfl
abbrev G4:Scope:=aJ de.st
noncomputable def lL(w:List Nat)(E0:List V)(low:Nat):af:=[("word",.str w),("ends",.list E0),("low",.int low)]
noncomputable def Jw(w:List Nat)(E0:List V)(low:Nat)(h:List Nat):af:=[("word",.str w),("ends",.list E0),("low",.int low),("head",.str h)]
theorem xu{sc:Scope}{ρ Y:af}{a b:Expr}{x y:V}(ha:(ev N).E sc ρ Y a=some (x,Y))(hb:(ev N).E sc ρ Y b=some (y,Y)):dl (ev N).E sc ρ Y [a,b]=some ([x,y],Y):=by
 unfold dl;rw[ha];dsimp only;unfold dl;rw[hb];rfl
theorem B8{sc:Scope}{ρ Y:af}{a b c:Expr}{x y z:V}(ha:(ev N).E sc ρ Y a=some (x,Y))(hb:(ev N).E sc ρ Y b=some (y,Y))(hc:(ev N).E sc ρ Y c=some (z,Y)):dl (ev N).E sc ρ Y [a,b,c]=some ([x,y,z],Y):=by
 unfold dl;rw[ha];dsimp only;rw[xu hb hc]
theorem IQ:eX 979=some cE:=by rfl'
theorem Hj:eX 986=some eI:=by rfl'
theorem DN:eX 993=some de:=by rfl'
theorem G0:glob "_law_end"=some (.addr 979):=by rfl'
theorem Gq:glob "_law_cut"=some (.addr 986):=by rfl'
theorem DT:glob "_law_less"=some (.addr 993):=by rfl'
theorem Gk:("_law_end":Str)≠"__debug__":=by decide+kernel
theorem F0:("_law_end":Str)≠"__classdict__":=by decide+kernel
theorem IF:("_law_cut":Str)≠"__debug__":=by decide+kernel
theorem FO:("_law_cut":Str)≠"__classdict__":=by decide+kernel
theorem Cv:("_law_less":Str)≠"__debug__":=by decide+kernel
theorem Dr:("_law_less":Str)≠"__classdict__":=by decide+kernel
theorem iB{sc:Scope}{ρ:af}{es:List (List Nat)}{low:Nat}{a b c:Expr}{p q:Pos}(hN:es.length+24≤N)(hk:sc.names.lookup ("_law_end":Str)=some .globalImplicit)(hl:low≤w.length)
  (ha:∀ M,10≤M→(ev M).E sc ρ Y a=some (.str w,Y)) (hb:∀ M,10≤M→(ev M).E sc ρ Y b=some (.list (es.map V.str),Y)) (hc:∀ M,10≤M→(ev M).E sc ρ Y c=some (.int low,Y)):
  (ev N).E sc ρ Y (.Call (.Name "_law_end" p) [a,b,c] [] q)=some (.str (ah es (w.drop low)),Y):=by
 obtain⟨M,rfl⟩:∃ M,N=M+1:=⟨N-1,by ext⟩;exact fa rfl Gk F0 hk G0 IQ (B8 (ha M (by ext)) (hb M (by ext)) (hc M (by ext))) (uW (by ext) hl)
theorem lX{sc:Scope}{ρ:af}{a b:Expr}{p q:Pos}(hN:40≤N)(hk:sc.names.lookup ("_law_cut":Str)=some .globalImplicit)(hl:e.length≤w.length){M:Nat}(eM:N=M+1)
  (ha:(ev M).E sc ρ Y a=some (.str w,Y)) (hb:(ev M).E sc ρ Y b=some (.str e,Y)):
  (ev N).E sc ρ Y (.Call (.Name "_law_cut" p) [a,b] [] q)=some (.str (cut w e),Y):=
 fa eM IF FO hk Gq Hj (xu ha hb) (uX (by ext) hl)
theorem HQ{sc:Scope}{ρ Y:af}{N kk:Nat}{p:Pos}{z:Int}(hN:1≤N):(ev N).E sc ρ Y (.Constant (.int z) kk p)=some (.int z,Y):=aN (hN:=hN)
theorem ku{sc:Scope}{ρ Y:af}{M:Nat}{t a b:Expr}{p:Pos}{c:Bool}{r:Option (V×af)}(e:N=M+1)(h:(ev M).T sc ρ Y t=some (c,Y))(k:(bif c then (ev M).E sc ρ Y a else (ev M).E sc ρ Y b)=r):(ev N).E sc ρ Y (.IfExp t a b p)=r:=by
 subst e;show (match (ev M).T sc ρ Y t with
     | some (true,Y)=>(ev M).E sc ρ Y a
     | some (false,Y)=>(ev M).E sc ρ Y b
     | none=>none)=_
 rw[h];cases c<;>exact k
theorem L9:glob "len"=some (.bi "len"):=by rfl'
theorem H8:("len":Str)≠"__debug__":=by decide+kernel
theorem He:("len":Str)≠"__classdict__":=by decide+kernel
theorem kf{sc:Scope}{ρ Y:af}{N:Nat}{id:Str}{p:Pos}{v:V}(hd:id≠"__debug__")(hc:id≠"__classdict__")(hk:sc.names.lookup id=some .globalImplicit)(hg:glob id=some v)(hN:1≤N:=by ext):(ev N).E sc ρ Y (.Name id p)=some (v,Y):=by
 obtain⟨n,rfl⟩:=xle hN;show (if id="__debug__" then none else if id="__classdict__" then none else match sc.names.lookup id with
     | some .globalImplicit=>(glob id).map fun v=>(v,Y)
     | some .local | some .cell | some .free=>(look ρ id).map fun v=>(v,Y)
     | _=>none)=_
 rw[if_neg hd,if_neg hc,hk];dsimp only;rw[hg];rfl
theorem fF{sc:Scope}{ρ Y:af}{N M:Nat}{a:Expr}{p q:Pos}{l:List Nat}(e:N=M+1)(hk:sc.names.lookup ("len":Str)=some .globalImplicit)(ha:(ev M).E sc ρ Y a=some (.str l,Y))(hM:1≤M:=by ext):(ev N).E sc ρ Y (.Call (.Name "len" p) [a] [] q)=some (.int l.length,Y):=by
 subst e;show (match (ev M).E sc ρ Y (.Name "len" p) with
     | some (.addr a',Y)=>match eX a' with
      | some f=>match dl (ev M).E sc ρ Y [a] with
       | some (vs,Y)=>(ev M).C f vs Y
       | none=>none
      | none=>none
     | some (f,Y)=>match dl (ev M).E sc ρ Y [a] with
      | some (vs,Y)=>(fs f vs).map fun v=>(v,Y)
      | none=>none
     | none=>none)=_
 rw[kf (hN:=hM) H8 He hk L9];dsimp only;rw[ei ha];rfl
inductive ug:List Stmt→Prop
 | mk {a1 a2 a3 a4 a5 a6 a7 a8 a9 b1 b2 b3 b4 b5 b6 b7 b8 b9 c1:Pos} {k0:Nat}:ug [.Assign [.Name "head" a1] (.Call (.Name "_law_cut" a2) [.Name "word" a3,.Call (.Name "_law_end" a4) [.Name "word" a5,.Name "ends" a6,.Constant (.int 0) k0 a7] [] a8] [] a9) b1,
   .Return (some (.IfExp (.Compare (.Call (.Name "len" b2) [.Name "head" b3] [] b4) [.GtE] [.Name "low" b5] b6) (.Name "head" b7) (.Name "word" b8) b9)) c1]
theorem Ea:ug (br de.st):=ug.mk
theorem tM{es:List (List Nat)}{low:Nat}(hN:es.length+45≤N):(ev N).C de [.str w,.list (es.map V.str),.int low] Y=some (.str (aT w es low),Y):=by
 obtain⟨M,rfl⟩:∃ M,N=M+20:=⟨N-20,by ext⟩;have sh:=Ea;have W:VL G4 (lL w (es.map V.str) low) "word" (.str w):=(ba (by rfl'));have E:VL G4 (lL w (es.map V.str) low) "ends" (.list (es.map V.str)):=(ba (by rfl'));have le:=cX (es:=es) (t:=w);have A:∀ {p q c:Pos} {kk:Nat} {p1 p2:Pos},(ev (M+16)).E G4 (lL w (es.map V.str) low) Y (.Call (.Name "_law_end" p) [.Name "word" p1,.Name "ends" p2,.Constant (.int 0) kk c] [] q)=some (.str (ah es w),Y):=by
  intro p q c kk p1 p2;have:=iB (N:=M+16) (w:=w) (es:=es) (low:=0) (p:=p) (q:=q) (Y:=Y) (sc:=G4) (ρ:=lL w (es.map V.str) low) (a:=.Name "word" p1) (b:=.Name "ends" p2) (c:=.Constant (.int 0) kk c) (by ext) (by rfl') (zero_le _) (fun M hM=>au W) (fun M hM=>au E) (fun M hM=>HQ (by ext));exact this
 generalize hb:br de.st=body at sh;cases sh with
 | @mk a1 a2 a3 a4 a5 a6 a7 a8 a9 b1 b2 b3 b4 b5 b6 b7 b8 b9 c1 k0=>
  refine bC (ρ:=lL w (es.map V.str) low) (ρ':=Jw w (es.map V.str) low (cut w (ah es w))) rfl rfl rfl hb ?_;have less:aT w es low=bif decide ((low:Int)≤(cut w (ah es w)).length) then cut w (ah es w) else w:=by
   unfold aT;by_cases q:low≤(cut w (ah es w)).length
   ·rw[if_pos q,ZT,cond_true]
   ·rw[if_neg q,ZF,cond_false]
  rw[less];generalize hg:cut w (ah es w)=g at*;have H:VL G4 (Jw w (es.map V.str) low g) "head" (.str g):=(ba (by rfl'));have W2:VL G4 (Jw w (es.map V.str) low g) "word" (.str w):=(ba (by rfl'));have LV:VL G4 (Jw w (es.map V.str) low g) "low" (.int low):=(ba (by rfl'));have pp:put (lL w (es.map V.str) low) "head" (.str g)=Jw w (es.map V.str) low g:=by rfl'
  rw[←pp];refine ab (Y':=Y) rfl (bz (v:=.str g) rfl rfl (by rfl') ?_) ?_
  ·rw[←hg];exact lX (by ext) (by rfl') le rfl (au W) A
  ·rw[pp];refine aA rfl (cA rfl (ku (c:=decide ((low:Int)≤g.length)) rfl (bn rfl (fF rfl (by rfl') (au H)) (au LV) rfl) ?_));cases decide ((low:Int)≤g.length) with
   | true=>exact au H
   | false=>exact au W2
end
section
variable {sc:Scope}{ρ ρ' Y:af}{M N:Nat}
theorem Me{t:Expr}{b:List Stmt}(e:N=M+1)(h:(ev M).T sc ρ Y t=some (false,Y)):(ev N).W sc ρ Y t b=some (.next,ρ,Y):=by subst e;exact PK h rfl
theorem QY{t:Expr}{b:List Stmt}{r:Option (Fl×af×af)}(e:N=M+1)(h:(ev M).T sc ρ Y t=some (true,Y))(hb:(ev M).SS sc ρ Y b=some (.next,ρ',Y))(k:(ev M).W sc ρ' Y t b=r):(ev N).W sc ρ Y t b=r:=by subst e;exact I8 (x:=.next) h rfl hb k
theorem FB:eX 936=some dX:=by rfl'
theorem G8:glob "_law_vowels"=some (.addr 936):=by rfl'
theorem I0:("_law_vowels":Str)≠"__debug__":=by decide+kernel
theorem It:("_law_vowels":Str)≠"__classdict__":=by decide+kernel
theorem KO:glob "min"=some (.bi "min"):=by rfl'
theorem IL:("min":Str)≠"__debug__":=by decide+kernel
theorem I3:("min":Str)≠"__classdict__":=by decide+kernel
theorem yA{p q:Pos}(hN:8≤N)(hk:sc.names.lookup ("_law_vowels":Str)=some .globalImplicit):(ev N).E sc ρ Y (.Call (.Name "_law_vowels" p) [] [] q)=some (.list se,Y):=by
 obtain⟨M,rfl⟩:∃ M,N=M+1:=⟨N-1,by ext⟩;exact fa rfl I0 It hk G8 FB rfl (CW (by ext))
theorem ux{a b:Expr}{p q:Pos}{x y:Int}(e:N=M+1)(hM:1≤M)(hk:sc.names.lookup ("min":Str)=some .globalImplicit)(ha:(ev M).E sc ρ Y a=some (.int x,Y))(hb:(ev M).E sc ρ Y b=some (.int y,Y)):(ev N).E sc ρ Y (.Call (.Name "min" p) [a,b] [] q)=some (.int (min x y),Y):=by
 subst e;show (match (ev M).E sc ρ Y (.Name "min" p) with
     | some (.addr a',Y)=>match eX a' with
      | some f=>match dl (ev M).E sc ρ Y [a,b] with
       | some (vs,Y)=>(ev M).C f vs Y
       | none=>none
      | none=>none
     | some (f,Y)=>match dl (ev M).E sc ρ Y [a,b] with
      | some (vs,Y)=>(fs f vs).map fun v=>(v,Y)
      | none=>none
     | none=>none)=_
 rw[kf (hN:=hM) IL I3 hk KO];dsimp only;rw[xu ha hb];rfl
theorem Bq{a i:Expr}{p:Pos}{t:List Nat}{k:Nat}{x:Nat}(e:N=M+1)(hi:∀ l u q,i≠.Slice l u none q)(ha:(ev M).E sc ρ Y a=some (.str t,Y))(hb:dU a (.str t)=true)(he:(ev M).E sc ρ Y i=some (.int k,Y))(hx:t[k]?=some x):(ev N).E sc ρ Y (.Subscript a i p)=some (.str [x],Y):=by
 subst e;exact dD hi ha hb he (dY hx)
theorem Ik{id:Str}{p q pos:Pos}{kk:Nat}{x z:Int}(hN:2≤N)(hv:VL sc ρ id (.int x))(hk:sc.names.lookup id=some .local):(ev N).S sc ρ Y (.AugAssign (.Name id p) .Add (.Constant (.int z) kk q) pos)=some (.next,put ρ id (.int (x+z)),Y):=by
 obtain⟨n,rfl⟩:=xle hN;show (match sc.names.lookup id,look ρ id with
     | some .local,some a=>match (ev (n+1)).E sc ρ Y (.Constant (.int z) kk q) with
      | some (b,Y)=>(xS .Add a b).map fun v=>(Fl.next,put ρ id v,Y)
      | none=>none
     | _,_=>none)=_
 rw[hk,hv.v,aN];rfl
end
noncomputable def bL(w:List Nat)(at':Int):af:=[("word",.str w),("at",.int at')]
def qu:CmpOp→Nat→Bool
 | .NotIn=>ay
 | _=>ar
structure Jb(sc:Scope):Prop where
 w:sc.names.lookup ("word":Str)=some .local
 a:sc.names.lookup ("at":Str)=some .local
 l:sc.names.lookup ("len":Str)=some .globalImplicit
 m:sc.names.lookup ("min":Str)=some .globalImplicit
 v:sc.names.lookup ("_law_vowels":Str)=some .globalImplicit
inductive eW(op:CmpOp):Stmt→Prop
 | mk {p1 p2 p3 p4 p5 p6 p7 p8 p9 p10 p11 p12 p13 p14 p15 p16:Pos} {k:Nat}:eW op (.While (.BoolOp .And [.Compare (.Name "at" p1) [.Lt] [.Call (.Name "len" p2) [.Name "word" p3] [] p4] p5,.Compare (.Subscript (.Name "word" p6) (.Name "at" p7) p8) [op] [.Call (.Name "_law_vowels" p9) [] [] p10] p11] p12) [.AugAssign (.Name "at" p13) .Add (.Constant (.int 1) k p14) p15] [] p16)
section
variable {sc:Scope}{Y:af}{w:List Nat}{N:Nat}
theorem OW(S:Jb sc)(a:Int):VL sc (bL w a) "word" (.str w):=⟨by decide+kernel,by decide+kernel,S.w,by rfl'⟩
theorem Ps(S:Jb sc)(a:Int):VL sc (bL w a) "at" (.int a):=⟨by decide+kernel,by decide+kernel,S.a,by rfl'⟩
theorem GP(a b:Int):put (bL w a) "at" (.int b)=bL w b:=by rfl'
theorem rI{op:CmpOp}(hop:op=.In∨op=.NotIn)(S:Jb sc){st:Stmt}(sh:eW op st){a:Nat}(ha:a≤w.length)(hN:w.length-a+21≤N):(ev N).S sc (bL w a) Y st=some (.next,bL w (skip (qu op) w a),Y):=by
 cases sh with
 | @mk p1 p2 p3 p4 p5 p6 p7 p8 p9 p10 p11 p12 p13 p14 p15 p16 k=>
  have T1:∀ {a M:Nat},6≤M→(ev M).T sc (bL w a) Y (.Compare (.Name "at" p1) [.Lt] [.Call (.Name "len" p2) [.Name "word" p3] [] p4] p5)=some (decide ((a:Int)<w.length),Y):=fun {a M} hM=>by
   obtain⟨K,rfl⟩:∃ K,M=K+3:=⟨M-3,by ext⟩;exact bn rfl (au (Ps S a)) (fF rfl S.l (au (OW S a))) rfl
  have go:∀ (m a N:Nat),w.length-a=m→a≤w.length→m+20≤N→(ev N).W sc (bL w a) Y (.BoolOp .And [.Compare (.Name "at" p1) [.Lt] [.Call (.Name "len" p2) [.Name "word" p3] [] p4] p5,.Compare (.Subscript (.Name "word" p6) (.Name "at" p7) p8) [op] [.Call (.Name "_law_vowels" p9) [] [] p10] p11] p12) [.AugAssign (.Name "at" p13) .Add (.Constant (.int 1) k p14) p15]=some (.next,bL w (skip (qu op) w a),Y):=by
   intro m
   induction m with
   | zero=>
    intro a N hm ha hN;obtain⟨M,rfl⟩:∃ M,N=M+2:=⟨N-2,by ext⟩;rw[gM (by ext)];refine Me rfl (js (x:=false) (y:=true) rfl ?_ (fun q=>by cases q));rw[T1 (by ext),ZF]
   | succ m ih=>
    intro a N hm ha hN;obtain⟨M,rfl⟩:∃ M,N=M+2:=⟨N-2,by ext⟩;obtain⟨x,hx⟩:=dc (l:=w) (k:=a) (by ext);have hc:gO op (.str [x]) (.list se)=some (qu op x):=by
     rcases hop with rfl | rfl
     ·exact lC x
     ·show (bW [x] se).map (!·)=_;rw[lC];rfl
    obtain⟨K,rfl⟩:∃ K,M=K+3:=⟨M-3,by ext⟩;have T2:(ev (K+3)).T sc (bL w a) Y (.Compare (.Subscript (.Name "word" p6) (.Name "at" p7) p8) [op] [.Call (.Name "_law_vowels" p9) [] [] p10] p11)=some (qu op x,Y):=
     bn rfl (Bq rfl (fun _ _ _ q=>by cases q) (au (OW S a)) rfl (au (Ps S a)) hx) (yA (by ext) S.v) hc
    have T:=js (p:=p12) rfl (x:=true) (y:=qu op x) (by rw[T1 (by ext),ZT]) (fun _=>T2);rw[Bool.true_and] at T;cases hv:qu op x with
    | true=>
     rw[hv] at T;rw[km hx hv];refine QY rfl T (aP rfl (Ik (by ext) (Ps S a) S.a)) ?_;rw[GP];exact ih (a+1) (K+4) (by ext) (by ext) (by ext)
    | false=>
     rw[hv] at T;rw[ij hx hv];exact Me rfl T
  obtain⟨M,rfl⟩:∃ M,N=M+1:=⟨N-1,by ext⟩;exact nM rfl (go _ a M rfl ha (by ext))
inductive jR:Stmt→Prop
 | mk {p1 p2 p3 p4 p5 p6 p7 p8 p9:Pos} {k:Nat}:jR (.Return (some (.Call (.Name "min" p1) [.BinOp (.Name "at" p2) .Add (.Constant (.int 1) k p3) p4,.Call (.Name "len" p5) [.Name "word" p6] [] p7] [] p8)) p9)
theorem vP{ρ:af}{M:Nat}{a b:Expr}{p:Pos}{x y:Int}(e:N=M+1)(ha:(ev M).E sc ρ Y a=some (.int x,Y))(hb:(ev M).E sc ρ Y b=some (.int y,Y)):(ev N).E sc ρ Y (.BinOp a .Add b p)=some (.int (x+y),Y):=by
 subst e;show (match (ev M).E sc ρ Y a with
     | some (x,Y)=>match (ev M).E sc ρ Y b with
      | some (y,Y)=>(pJ .Add x y).map fun v=>(v,Y)
      | none=>none
     | none=>none)=_
 rw[ha];dsimp only;rw[hb];rfl
theorem cmin(a b:Nat):((min a b:Nat):Int)=min (a:Int) b:=by
 rcases Nat.le_total a b with h | h
 ·rw[Nat.min_eq_left h,Int.min_eq_left (Int.ofNat_le.2 h)]
 ·rw[Nat.min_eq_right h,Int.min_eq_right (Int.ofNat_le.2 h)]
theorem Au(S:Jb sc){st:Stmt}(sh:jR st){a:Nat}(hN:10≤N):(ev N).S sc (bL w a) Y st=some (.ret (.int (min (a+1) w.length:Nat)),bL w a,Y):=by
 obtain⟨M,rfl⟩:∃ M,N=M+3:=⟨N-3,by ext⟩;cases sh;have:((min (a+1) w.length:Nat):Int)=min ((a:Int)+1) w.length:=cmin (a+1) w.length;rw[this];exact cA rfl (ux rfl (by ext) S.m (vP rfl (au (Ps S a)) (aN)) (fF rfl S.l (au (OW S a))))
abbrev PM:Scope:=aJ bj.st
theorem QA:Jb PM:=⟨by rfl',by rfl',by rfl',by rfl',by rfl'⟩
theorem ze:br bj.st=[ai bj 0,ai bj 1,ai bj 2]:=by rfl'
theorem KX:eW .NotIn (ai bj 0):=eW.mk
theorem JH:eW .In (ai bj 1):=eW.mk
theorem Jp:jR (ai bj 2):=jR.mk
theorem um{a:Nat}(ha:a≤w.length)(hN:w.length+40≤N):(ev N).C bj [.str w,.int a] Y=some (.int (ap w a),Y):=by
 obtain⟨M,rfl⟩:∃ M,N=M+4:=⟨N-4,by ext⟩;have s1:=kI (p:=ay) ha;have s2:=kI (p:=ar) s1;refine bC (ρ:=bL w a) (ρ':=bL w (skip ar w (skip ay w a))) rfl rfl rfl ze ?_;refine ab rfl (rI (.inr rfl) QA KX ha (by ext)) ?_;refine ab rfl (rI (.inl rfl) QA JH s1 (by ext)) ?_;exact aA rfl (Au QA Jp (by ext))
abbrev MH:Scope:=aJ aL.st
theorem Bk:Jb MH:=⟨by rfl',by rfl',by rfl',by rfl',by rfl'⟩
noncomputable def oL(w:List Nat):af:=[("word",.str w)]
theorem Sa:VL MH (oL w) "word" (.str w):=(ba (by rfl'))
inductive rF(l1 m1 l2 m2:Stmt):List Stmt→Prop
 | mk {a1 a2 a3 a4 a5 a6 a7 a8 a9 a10 b1 b2 b3 c1 c2 c3 c4 c5 c6 c7 d1 d2 d3 d4 d5 d6 e1 e2 e3 e4 e5 e6 e7 e8:Pos} {k1 k2 k3 k4 k5:Nat}:rF l1 m1 l2 m2 [
   .If (.Compare (.Call (.Name "len" a1) [.Name "word" a2] [] a3) [.Lt] [.Constant (.int 2) k1 a4] a5) [.Return (some (.Call (.Name "len" a6) [.Name "word" a7] [] a8)) a9] [] a10,
   .Assign [.Name "at" b1] (.Constant (.int 2) k2 b2) b3,
   .If (.Compare (.Subscript (.Name "word" c1) (.Constant (.int 1) k3 c2) c3) [.NotIn] [.Call (.Name "_law_vowels" c4) [] [] c5] c6) [l1,m1] [] c7,
   .If (.Compare (.Subscript (.Name "word" d1) (.Constant (.int 0) k4 d2) d3) [.NotIn] [.Call (.Name "_law_vowels" d4) [] [] d5] d6) [.Return (some (.Call (.Name "min" e1) [.Constant (.int 3) k5 e2,.Call (.Name "len" e3) [.Name "word" e4] [] e5] [] e6)) e7] [] e8,
   l2,m2]
def oA:Stmt:=aG (dj (ai aL 2)) 0
def oB:Stmt:=aG (dj (ai aL 2)) 1
theorem Qv:rF oA oB (ai aL 4) (ai aL 5) (br aL.st):=rF.mk
theorem NY:eW .NotIn oA:=eW.mk
theorem JW:jR oB:=jR.mk
theorem JS:eW .In (ai aL 4):=eW.mk
theorem MT:jR (ai aL 5):=jR.mk
theorem xl(hN:w.length+40≤N):(ev N).C aL [.str w] Y=some (.int (aQ w),Y):=by
 obtain⟨M,rfl⟩:∃ M,N=M+10:=⟨N-10,by ext⟩;have sh:=Qv;generalize hb:br aL.st=body at sh;generalize h4:ai aL 4=s4 at sh;generalize h5:ai aL 5=s5 at sh;have H4:eW .In s4:=h4 ▸ JS;have H5:jR s5:=h5 ▸ MT;have HA:=NY;have HB:=JW;generalize oA=sA at*;generalize oB=sB at*;cases sh;have T0:∀ {p1 p2 p3 p4 p5:Pos} {k:Nat},(ev (M+7)).T MH (oL w) Y (.Compare (.Call (.Name "len" p1) [.Name "word" p2] [] p3) [.Lt] [.Constant (.int 2) k p4] p5)=some (decide ((w.length:Int)<2),Y):=fun {p1 p2 p3 p4 p5 k}=>
  bn rfl (fF rfl Bk.l (au Sa)) (aN) rfl
 have pa:put (oL w) "at" (.int 2)=bL w (2:Nat):=by rfl'
 by_cases hl:w.length<2
 ·have e:aQ w=w.length:=by unfold aQ;rw[if_pos hl]
  rw[e];exact bC (ρ:=oL w) (ρ':=oL w) rfl rfl rfl hb (aA rfl (bB rfl T0 (ZT) (aA rfl (cA rfl (fF rfl Bk.l (au Sa))))))
 ·obtain⟨x,hx⟩:=dc (l:=w) (k:=0) (by ext);obtain⟨y,hy⟩:=dc (l:=w) (k:=1) (by ext);have ef:aQ w=if ar y=false then min (skip ay w 2+1) w.length else if ar x=false then min 3 w.length else min (skip ar w 2+1) w.length:=by
   unfold aQ;rw[if_neg hl,hx,hy]
  have hc:∀ x,gO .NotIn (.str [x]) (.list se)=some (!ar x):=fun x=>by
   show (bW [x] se).map (!·)=_;rw[lC];rfl
  have CH:∀ {K k x kk:Nat} {p1 p2 p3 p4 p5 p6:Pos},12≤K→w[k]?=some x→(ev K).T MH (bL w (2:Nat)) Y (.Compare (.Subscript (.Name "word" p1) (.Constant (.int k) kk p2) p3) [.NotIn] [.Call (.Name "_law_vowels" p4) [] [] p5] p6)=some (!ar x,Y):=fun {K k x kk p1 p2 p3 p4 p5 p6} hK hk=>by
   obtain⟨L,rfl⟩:∃ L,K=L+3:=⟨K-3,by ext⟩;exact bn (M:=L+1) rfl (Bq (M:=L) rfl (fun _ _ _ q=>by cases q) (au (OW Bk _)) rfl (aN) hk) (yA (by ext) Bk.v) (hc x)
  have pre:∀ {ρ':af} {v:V},(ev (M+7)).SS MH (bL w (2:Nat)) Y ((br aL.st).drop 2)=some (.ret v,ρ',Y)→(ev (M+10)).C aL [.str w] Y=some (v,Y):=fun {ρ' v} hr=>by
   rw[hb] at hr;refine bC (ρ:=oL w) (ρ':=ρ') rfl rfl rfl hb ?_;refine ab rfl (bt rfl T0 (ZF)) ?_;exact ab (ρ':=bL w (2:Nat)) rfl (by rw[←pa];exact bz rfl rfl (by rfl') (aN)) hr
  have s1:=kI (p:=ay) (l:=w) (k:=2) (by ext);have s2:=kI (p:=ar) (l:=w) (k:=2) (by ext);cases hvy:ar y with
  | false=>
   rw[ef,hvy,if_pos rfl];refine pre (ρ':=bL w (skip ay w 2)) ?_;rw[hb];refine (aA rfl (bB rfl (CH (k:=1) (by ext) hy) (by rw[hvy];rfl) ?_));exact ab rfl (rI (.inr rfl) Bk HA (by ext) (by ext)) (aA rfl (Au Bk HB (by ext)))
  | true=>
   rw[hvy,if_neg (by decide)] at ef;cases hvx:ar x with
   | false=>
    rw[ef,hvx,if_pos rfl];refine pre (ρ':=bL w (2:Nat)) ?_;rw[hb];refine (ab rfl (bt rfl (CH (k:=1) (by ext) hy) (by rw[hvy];rfl)) ?_);refine aA rfl (bB rfl (CH (k:=0) (by ext) hx) (by rw[hvx];rfl) ?_);have:((min 3 w.length:Nat):Int)=min (3:Int) w.length:=by ext
    rw[this];exact aA rfl (cA rfl (ux rfl (by ext) Bk.m (aN) (fF rfl Bk.l (au (OW Bk _)))))
   | true=>
    rw[ef,hvx,if_neg (by decide)];refine pre (ρ':=bL w (skip ar w 2)) ?_;rw[hb];refine (ab rfl (bt rfl (CH (k:=1) (by ext) hy) (by rw[hvy];rfl)) ?_);refine ab rfl (bt rfl (CH (k:=0) (by ext) hx) (by rw[hvx];rfl)) ?_;exact ab rfl (rI (.inl rfl) Bk H4 (by ext) (by ext)) (aA rfl (Au Bk H5 (by ext)))
end
def fE:List (List Nat×V):=(Tk 16 45).map fun x=>(x.s,.int x.r)
theorem w9{Y:af}{N:Nat}(hN:6≤N):(ev N).C eD [] Y=some (.dict fE,Y):=by
 obtain⟨n,rfl⟩:=xle hN;rfl'
theorem xJ:fE.map (fun p=>V.str p.1)=(ends 16 45).map V.str:=by
 unfold fE ends;rw[List.map_map,List.map_map];rfl
theorem qG:∀ (T:List aC) (f:List Nat),(∃ x∈T,x.s=f)→pA f (T.map fun x=>(x.s,.int x.r))=some (.int (kindOf T f))
 | [],f,h=>by obtain⟨x,hx,_⟩:=h;cases hx
 | x :: T,f,h=>by
  unfold kindOf;rw[map_cons,List.find?_cons];unfold pA;dsimp only;cases q:x.s==f with
  | true=>rfl
  | false=>
   rw[cond_false];refine qG T f ?_;obtain⟨y,hy,e⟩:=h;cases hy with
   | head=>exact Bool.noConfusion ((beq_iff_eq.2 e).symm.trans q)
   | tail _ hy=>exact⟨y,hy,e⟩
theorem wK{w:List Nat}(h:ah (ends 16 45) w≠[]):dn (.dict fE) (.str (ah (ends 16 45) w))=some (.int (kindOf (Tk 16 45) (ah (ends 16 45) w))):=by
 show pA _ fE=_;unfold fE;refine qG _ _ ?_;rcases (eb (ends 16 45) w).mem with q | q
 ·exact absurd q h
 ·obtain⟨x,hx,e⟩:=List.mem_map.mp q;exact⟨x,hx,e⟩
section
variable {sc:Scope}{ρ Y:af}{M N:Nat}
theorem AM:eX 957=some eD:=by rfl'
theorem y7:glob "_law_nouns"=some (.addr 957):=by rfl'
theorem BV:("_law_nouns":Str)≠"__debug__":=by decide+kernel
theorem Bo:("_law_nouns":Str)≠"__classdict__":=by decide+kernel
theorem Gj:glob "list"=some (.ty "list"):=by rfl'
theorem CX:("list":Str)≠"__debug__":=by decide+kernel
theorem Eh:("list":Str)≠"__classdict__":=by decide+kernel
theorem tH{p q:Pos}(hN:8≤N)(hk:sc.names.lookup ("_law_nouns":Str)=some .globalImplicit):(ev N).E sc ρ Y (.Call (.Name "_law_nouns" p) [] [] q)=some (.dict fE,Y):=by
 obtain⟨M,rfl⟩:∃ M,N=M+1:=⟨N-1,by ext⟩;exact fa rfl BV Bo hk y7 AM rfl (w9 (by ext))
theorem Ew:fs (.ty "list") [.dict fE]=some (.list ((ends 16 45).map V.str)):=by
 rw[←xJ];rfl'
theorem sj{p q p2 q2:Pos}(hN:9≤N)(hk:sc.names.lookup ("_law_nouns":Str)=some .globalImplicit)(hk2:sc.names.lookup ("list":Str)=some .globalImplicit):(ev N).E sc ρ Y (.Call (.Name "list" p2) [.Call (.Name "_law_nouns" p) [] [] q] [] q2)=some (.list ((ends 16 45).map V.str),Y):=by
 obtain⟨M,rfl⟩:∃ M,N=M+1:=⟨N-1,by ext⟩;have A:dl (ev M).E sc ρ Y [.Call (.Name "_law_nouns" p) [] [] q]=some ([.dict fE],Y):=ei (tH (by ext) hk);show (match (ev M).E sc ρ Y (.Name "list" p2) with
     | some (.addr a',Y)=>match eX a' with
      | some f=>match dl (ev M).E sc ρ Y [.Call (.Name "_law_nouns" p) [] [] q] with
       | some (vs,Y)=>(ev M).C f vs Y
       | none=>none
      | none=>none
     | some (f,Y)=>match dl (ev M).E sc ρ Y [.Call (.Name "_law_nouns" p) [] [] q] with
      | some (vs,Y)=>(fs f vs).map fun v=>(v,Y)
      | none=>none
     | none=>none)=_
 rw[kf CX Eh hk2 Gj];dsimp only;rw[A];dsimp only;rw[Ew];rfl
theorem Df{p q p2 q2:Pos}{w:List Nat}{id:Str}(hN:10≤N)(hk:sc.names.lookup ("_law_nouns":Str)=some .globalImplicit)(hv:VL sc ρ id (.str (ah (ends 16 45) w)))(h:ah (ends 16 45) w≠[]):(ev N).E sc ρ Y (.Subscript (.Call (.Name "_law_nouns" p) [] [] q) (.Name id p2) q2)=some (.int (kindOf (Tk 16 45) (ah (ends 16 45) w)),Y):=by
 obtain⟨M,rfl⟩:∃ M,N=M+1:=⟨N-1,by ext⟩;have:(ev (M+1)).E sc ρ Y (.Subscript (.Call (.Name "_law_nouns" p) [] [] q) (.Name id p2) q2)=(match (ev M).E sc ρ Y (.Call (.Name "_law_nouns" p) [] [] q) with
     | some (a',Y)=>bif dU (.Call (.Name "_law_nouns" p) [] [] q) a' then (match (ev M).E sc ρ Y (.Name id p2) with
      | some (b,Y)=>(dn a' b).map fun v=>(v,Y)
      | none=>none) else none
     | none=>none):=rfl
 rw[this,tH (by ext) hk];dsimp only;rw[show dU (.Call (.Name "_law_nouns" p) [] [] q) (.dict fE)=true from rfl,cond_true,au hv];dsimp only;rw[wK h];rfl
theorem iw{a b:Expr}{p:Pos}{x y:List Nat}(e:N=M+1)(ha:(ev M).E sc ρ Y a=some (.str x,Y))(hb:(ev M).E sc ρ Y b=some (.str y,Y))(hs:(x++y).length≤1048576):(ev N).E sc ρ Y (.BinOp a .Add b p)=some (.str (x++y),Y):=by subst e;exact oR ha hb hs
theorem oq{v l:Expr}{p q:Pos}{t:List Nat}{i:Int}(e:N=M+1)(hv:(ev M).E sc ρ Y v=some (.str t,Y))(hl:(ev M).E sc ρ Y l=some (.int i,Y)):(ev N).E sc ρ Y (.Subscript v (.Slice (some l) none none q) p)=some (.str (bM t (some i) none),Y):=by subst e;exact vB hv hl
theorem jm{kk:Nat}{p q:Pos}{z:Int}(hN:1≤N:=by ext):(ev N).E sc ρ Y (.UnaryOp .USub (.Constant (.int z) kk p) q)=some (.int (-z),Y):=by
 obtain⟨n,rfl⟩:=xle hN;rfl
theorem fi{kk:Nat}{p:Pos}(hN:1≤N:=by ext):(ev N).E sc ρ Y (.Constant .none kk p)=some (.none,Y):=by
 obtain⟨n,rfl⟩:=xle hN;rfl
theorem tmax(z:Int):(max 0 z).toNat=z.toNat:=by
 rcases Int.le_total 0 z with h | h
 ·rw[Int.max_eq_right h]
 ·rw[Int.max_eq_left h,Int.toNat_of_nonpos h];rfl
theorem yf(n k:Nat):(clamp (n:Int) (Int.negSucc k)).toNat=n-(k+1):=by
 rw[show clamp (n:Int) (Int.negSucc k)=max 0 ((n:Int)-((k+1:Nat):Int)) from if_pos (Int.negSucc_lt_zero k),tmax];exact Int.toNat_sub n (k+1)
theorem lastn(h:List Nat)(k:Nat):bM h (some (Int.negSucc k)) none=h.drop (h.length-(k+1)):=by
 show (h.take h.length).drop (clamp (h.length:Int) (Int.negSucc k)).toNat=_;rw[yf,List.take_length]
theorem AV(h:List Nat):bM h (some (-1)) none=h.drop (h.length-1):=lastn h 0
theorem zH(h:List Nat)(x:Nat):(h.drop (h.length-1)==[x])=decide (h.getLast?=some x):=by
 rw[Bool.eq_iff_iff,beq_iff_eq,decide_eq_true_iff];rcases List.eq_nil_or_concat h with rfl | ⟨l,y,rfl⟩
 ·simp
 ·simp
end
abbrev hW:Scope:=aJ ag.st
noncomputable def n4(w:List Nat)(f o t:Nat)(l:af):af:=(("word",.str w):Str×V) :: (("first",.int f):Str×V) :: (("one",.int o):Str×V) :: (("two",.int t):Str×V) :: l
noncomputable def n6(w:List Nat)(f o t:Nat)(e h:List Nat)(l:af):af:=n4 w f o t ((("end",.str e):Str×V) :: (("head",.str h):Str×V) :: l)
noncomputable def n7(w:List Nat)(f o t:Nat)(e h:List Nat)(k:Int)(l:af):af:=n6 w f o t e h ((("kind",.int k):Str×V) :: l)
section
variable {w e h:List Nat}{f o t:Nat}{k:Int}{l:af}{Y:af}{M N:Nat}
theorem AU:hW.names.lookup ("_law_end":Str)=some .globalImplicit:=by rfl'
theorem HY:hW.names.lookup ("_law_cut":Str)=some .globalImplicit:=by rfl'
theorem sU:hW.names.lookup ("_law_nouns":Str)=some .globalImplicit:=by rfl'
theorem DJ:hW.names.lookup ("list":Str)=some .globalImplicit:=by rfl'
theorem vz:VL hW (n4 w f o t l) "word" (.str w):=(ba (by rfl'))
theorem Bu:VL hW (n4 w f o t l) "first" (.int f):=(ba (by rfl'))
theorem Iy:VL hW (n4 w f o t l) "one" (.int o):=(ba (by rfl'))
theorem rX:VL hW (n4 w f o t l) "two" (.int t):=(ba (by rfl'))
theorem vY:VL hW (n4 w f o t ((("end",.str e):Str×V) :: l)) "end" (.str e):=(ba (by rfl'))
theorem BR:VL hW (n6 w f o t e h l) "end" (.str e):=vY
theorem dW:VL hW (n6 w f o t e h l) "head" (.str h):=(ba (by rfl'))
theorem ra:VL hW (n7 w f o t e h k l) "kind" (.int k):=(ba (by rfl'))
theorem Ic:put (n4 w f o t []) "end" (.str e)=n4 w f o t [(("end",.str e):Str×V)]:=by rfl'
theorem CO:put (n4 w f o t [(("end",.str e):Str×V)]) "head" (.str h)=n6 w f o t e h []:=by rfl'
theorem Cr:put (n6 w f o t e h []) "kind" (.int k)=n7 w f o t e h k []:=by rfl'
theorem cY{x:Int}(hne:k≠x){kk:Nat}{p q r s:Pos}{b:List Stmt}(hN:6≤N):(ev N).S hW (n7 w f o t e h k []) Y (.If (.Compare (.Name "kind" p) [.Eq] [.Constant (.int x) kk q] r) b [] s)=some (.next,n7 w f o t e h k [],Y):=by
 obtain⟨K,rfl⟩:∃ K,N=K+3:=⟨N-3,by ext⟩;exact bt rfl (bl rfl (au ra)) (decide_eq_false hne)
theorem g8{x:Int}{kk:Nat}{p q r s:Pos}{b:List Stmt}{y:Option (Fl×af×af)}(e':N=M+1)(hM:5≤M)(hk:(ev M).SS hW (n7 w f o t e h x []) Y b=y):(ev N).S hW (n7 w f o t e h x []) Y (.If (.Compare (.Name "kind" p) [.Eq] [.Constant (.int x) kk q] r) b [] s)=y:=by
 subst e';obtain⟨K,rfl⟩:∃ K,M=K+2:=⟨M-2,by ext⟩;exact bB rfl (bl rfl (au ra)) (decide_eq_true rfl) hk
theorem AR{s:Str}{u:List Nat}{kk:Nat}{p q r v:Pos}(hs:ce (.str s)=some (.str u))(hl:(h++u).length≤1048576)(hN:8≤N):(ev N).SS hW (n7 w f o t e h k []) Y [.Return (some (.BinOp (.Name "head" p) .Add (.Constant (.str s) kk q) r)) v]=some (.ret (.str (h++u)),n7 w f o t e h k [],Y):=by
 obtain⟨K,rfl⟩:∃ K,N=K+4:=⟨N-4,by ext⟩;exact aA rfl (cA rfl (iw rfl (au dW) (dH hs) hl))
theorem gr{sc:Scope}{ρ:af}{g:List Nat}{es:List (List Nat)}{low:Nat}{a b c:Expr}{p q:Pos}(hN:es.length+50≤N)(eM:N=M+1)(hk:sc.names.lookup ("_law_less":Str)=some .globalImplicit)
  (ha:(ev M).E sc ρ Y a=some (.str g,Y)) (hb:(ev M).E sc ρ Y b=some (.list (es.map V.str),Y)) (hc:(ev M).E sc ρ Y c=some (.int low,Y)):
  (ev N).E sc ρ Y (.Call (.Name "_law_less" p) [a,b,c] [] q)=some (.str (aT g es low),Y):=
 fa eM Cv Dr hk DT DN (B8 ha hb hc) (tM (by ext))
theorem Af{p p1 p2 p3 p4:Pos}{k1 k2 k3 k4:Nat}{ρ:af}{sc:Scope}(hN:5≤N):(ev N).E sc ρ Y (.List [.Constant (.str "ic") k1 p1,.Constant (.str "ad") k2 p2,.Constant (.str "os") k3 p3,.Constant (.str "iv") k4 p4] p)=some (.list ((ends 6 4).map V.str),Y):=by
 obtain⟨n,rfl⟩:=xle hN;rfl'
theorem Ga{p p1 p2 p3:Pos}{k1 k2 k3:Nat}{ρ:af}{sc:Scope}(hN:5≤N):(ev N).E sc ρ Y (.List [.Constant (.str "ante") k1 p1,.Constant (.str "avel") k2 p2,.Constant (.str "ível") k3 p3] p)=some (.list ((ends 10 3).map V.str),Y):=by
 obtain⟨n,rfl⟩:=xle hN;rfl'
theorem FF{p p1 p2 p3:Pos}{k1 k2 k3:Nat}{ρ:af}{sc:Scope}(hN:5≤N):(ev N).E sc ρ Y (.List [.Constant (.str "ic") k1 p1,.Constant (.str "abil") k2 p2,.Constant (.str "iv") k3 p3] p)=some (.list ((ends 13 3).map V.str),Y):=by
 obtain⟨n,rfl⟩:=xle hN;rfl'
theorem La{p p1:Pos}{k1:Nat}{ρ:af}{sc:Scope}(hN:5≤N):(ev N).E sc ρ Y (.List [.Constant (.str "at") k1 p1] p)=some (.list (ua.map V.str),Y):=by
 obtain⟨n,rfl⟩:=xle hN;rfl'
noncomputable def nV:Option (List Nat)→V
 | some h=>.str h
 | none=>.none
def nT:List Stmt:=(br ag.st).drop 4
theorem OX:nT=[ai ag 4,ai ag 5,ai ag 6,ai ag 7,ai ag 8,ai ag 9,ai ag 10,ai ag 11,ai ag 12,ai ag 13]:=by rfl'
theorem wt(hN:8≤N){p1 p2 p3 p4 p5 p6 p7 p8 p9 p10:Pos}{k1:Nat}:(ev N).T hW (n7 w f o t e h k []) Y (.Compare (.Call (.Name "len" p1) [.Name "head" p2] [] p3) [.Lt] [.IfExp (.Compare (.Name "kind" p4) [.Eq] [.Constant (.int 5) k1 p5] p6) (.Name "one" p7) (.Name "two" p8) p9] p10)=some (decide (h.length<(if k=5 then o else t)),Y):=by
 obtain⟨K,rfl⟩:∃ K,N=K+6:=⟨N-6,by ext⟩;have e1:decide (h.length<(if k=5 then o else t))=decide ((h.length:Int)<((if k=5 then o else t:Nat):Int)):=by
  rw[Bool.eq_iff_iff,decide_eq_true_iff,decide_eq_true_iff];ext
 rw[e1];refine bn (y:=.int ((if k=5 then o else t:Nat):Int)) rfl (fF rfl (by rfl') (au dW)) (ku (c:=decide (k=5)) rfl (bl rfl (au ra)) ?_) rfl;by_cases q:k=5
 ·rw[decide_eq_true q,if_pos q];exact au Iy
 ·rw[decide_eq_false q,if_neg q];exact au rX
def JQ:List Stmt:=dj (ai ag 9)
theorem Lm:JQ=[aG JQ 0,aG JQ 1,aG JQ 2]:=by rfl'
theorem Cf{m:List Nat}:put (n7 w f o t e h k []) "more" (.str m)=n7 w f o t e h k [(("more",.str m):Str×V)]:=by rfl'
theorem DA{m s:List Nat}:put (n7 w f o t e h k [(("more",.str m):Str×V)]) "less" (.str s)=n7 w f o t e h k [(("more",.str m):Str×V),(("less",.str s):Str×V)]:=by rfl'
theorem DE{m s:List Nat}:VL hW (n7 w f o t e h k [(("more",.str m):Str×V),(("less",.str s):Str×V)]) "more" (.str m):=(ba (by rfl'))
theorem qT{m s:List Nat}:VL hW (n7 w f o t e h k [(("more",.str m):Str×V),(("less",.str s):Str×V)]) "less" (.str s):=(ba (by rfl'))
theorem L2(hN:100≤N):∃ ρ',(ev N).SS hW (n7 w f o t e h k []) Y JQ=some (.ret (.str (yQ h t)),ρ',Y):=by
 obtain⟨M,rfl⟩:∃ M,N=M+20:=⟨N-20,by ext⟩;have l4:(ends 6 4).length=4:=rfl;have eiv:yQ h t=bif (ah (ends 6 4) h==[105,118])&&!(aT h (ends 6 4) t==h) then aT (aT h (ends 6 4) t) ua t else aT h (ends 6 4) t:=by
  unfold yQ;by_cases q:ah (ends 6 4) h=[105,118]∧aT h (ends 6 4) t≠h
  ·rw[if_pos q,show (ah (ends 6 4) h==[105,118])=true from beq_iff_eq.mpr q.1,show (aT h (ends 6 4) t==h)=false from beq_eq_false_iff_ne.mpr q.2];rfl
  ·rw[if_neg q];have:((ah (ends 6 4) h==[105,118])&&!(aT h (ends 6 4) t==h))=false:=by
    rw[Bool.eq_false_iff];intro z;rw[Bool.and_eq_true,beq_iff_eq,Bool.not_eq_true',beq_eq_false_iff_ne] at z;exact q z
   rw[this];rfl
 rw[eiv,Lm];have A:∀ {p p1 p2 p3 p4 p5 p6 p7 q q2:Pos} {k1 k2 k3 k4 k5:Nat},(ev (M+18)).E hW (n7 w f o t e h k []) Y (.Call (.Name "_law_end" p6) [.Name "head" q,.List [.Constant (.str "ic") k1 p1,.Constant (.str "ad") k2 p2,.Constant (.str "os") k3 p3,.Constant (.str "iv") k4 p4] p5,.Constant (.int 0) k5 q2] [] p7)=some (.str (ah (ends 6 4) h),Y):=by
  intro p p1 p2 p3 p4 p5 p6 p7 q q2 k1 k2 k3 k4 k5;exact iB (w:=h) (es:=ends 6 4) (low:=0) (by rw[l4];ext) AU (zero_le _) (fun M hM=>au dW) (fun M hM=>Af (by ext)) (fun M hM=>aN)
 generalize ah (ends 6 4) h=m at*;have B:∀ {p1 p2 p3 p4 p5 p6 p7 q q2:Pos} {k1 k2 k3 k4:Nat},(ev (M+17)).E hW (n7 w f o t e h k [(("more",.str m):Str×V)]) Y (.Call (.Name "_law_less" p6) [.Name "head" q,.List [.Constant (.str "ic") k1 p1,.Constant (.str "ad") k2 p2,.Constant (.str "os") k3 p3,.Constant (.str "iv") k4 p4] p5,.Name "two" q2] [] p7)=some (.str (aT h (ends 6 4) t),Y):=by
  intro p1 p2 p3 p4 p5 p6 p7 q q2 k1 k2 k3 k4;exact gr (by rw[l4];ext) rfl (by rfl') (au dW) (Af (by ext)) (au rX)
 generalize aT h (ends 6 4) t=s at*;refine⟨n7 w f o t e h k [(("more",.str m):Str×V),(("less",.str s):Str×V)],ab rfl (aq (bz rfl rfl (by rfl') (A (p:=default))) rfl) ?_⟩;rw[Cf];refine ab rfl (aq (bz rfl rfl (by rfl') B) rfl) ?_;rw[DA];refine aA rfl (aq (cA rfl (ku (c:=(m==[105,118])&&!(s==h)) rfl (js rfl (bn rfl (au DE) (dH (by rfl')) rfl) (fun _=>bn rfl (au qT) (au dW) rfl)) ?_)) rfl);cases (m==[105,118])&&!(s==h) with
 | false=>exact au qT
 | true=>exact gr (es:=ua) (by show 1+50≤_;ext) rfl (by rfl') (au qT) (La (by ext)) (au rX)
theorem xr(hN:130≤N)(hl:h.length≤1000):∃ ρ',(ev N).SS hW (n7 w f o t e h k []) Y nT=some (.ret (nV (t7 k h f o t)),ρ',Y):=by
 obtain⟨M,rfl⟩:∃ M,N=M+30:=⟨N-30,by ext⟩;rw[OX];unfold t7;by_cases c9:k=9
 ·subst c9;rw[if_pos rfl];refine⟨_,aA rfl (aq (g8 rfl (by ext) (aA rfl (cA rfl (ku (c:=decide (f≤h.length)&&decide (h.getLast?=some 101)) rfl (js rfl ?t1 (fun _=>?t2)) ?t3)))) rfl)⟩
  ·have e1:decide (f≤h.length)=decide ((f:Int)≤h.length):=by
    rw[Bool.eq_iff_iff,decide_eq_true_iff,decide_eq_true_iff];ext
   rw[e1];exact bn rfl (fF rfl (by rfl') (au dW)) (au Bu) rfl
  ·refine bn rfl (oq rfl (au dW) (jm)) (dH PG) ?_;show some (bM h (some (-1)) none==[101])=_;rw[AV,zH]
  ·by_cases q:f≤h.length∧h.getLast?=some 101
   ·rw[if_pos q,decide_eq_true q.1,decide_eq_true q.2];exact iw rfl (au dW) (dH (by rfl')) (by rw[length_append];show h.length+2≤_;ext)
   ·rw[if_neg q];have:(decide (f≤h.length)&&decide (h.getLast?=some 101))=false:=by
     rw[Bool.eq_false_iff];intro z;rw[Bool.and_eq_true,decide_eq_true_iff,decide_eq_true_iff] at z;exact q z
    rw[this];exact fi
 rw[if_neg c9];by_cases cl:h.length<(if k=5 then o else t)
 ·rw[if_pos cl];refine⟨_,ab rfl (aq (cY c9 (by ext)) rfl) (aA rfl (aq (bB rfl (wt (by ext)) (decide_eq_true cl) (aA rfl (cA rfl (fi)))) rfl))⟩
 rw[if_neg cl];have pre:∀ {r},(ev (M+28)).SS hW (n7 w f o t e h k []) Y [ai ag 6,ai ag 7,ai ag 8,ai ag 9,ai ag 10,ai ag 11,ai ag 12,ai ag 13]=r→(ev (M+30)).SS hW (n7 w f o t e h k []) Y [ai ag 4,ai ag 5,ai ag 6,ai ag 7,ai ag 8,ai ag 9,ai ag 10,ai ag 11,ai ag 12,ai ag 13]=r:=fun {r} hr=>
  ab rfl (aq (cY c9 (by ext)) rfl) (ab rfl (aq (bt rfl (wt (by ext)) (decide_eq_false cl)) rfl) hr)
 by_cases c2:k=2
 ·subst c2;rw[if_pos rfl];exact⟨_,pre (aA rfl (aq (g8 rfl (by ext) (AR (by rfl') (by rw[length_append];show h.length+3≤_;ext) (by ext))) rfl))⟩
 rw[if_neg c2];by_cases c3:k=3
 ·subst c3;rw[if_pos rfl];exact⟨_,pre (ab rfl (aq (cY c2 (by ext)) rfl) (aA rfl (aq (g8 rfl (by ext) (AR GT (by rw[length_append];show h.length+1≤_;ext) (by ext))) rfl)))⟩
 rw[if_neg c3];by_cases c4:k=4
 ·subst c4;rw[if_pos rfl];exact⟨_,pre (ab rfl (aq (cY c2 (by ext)) rfl) (ab rfl (aq (cY c3 (by ext)) rfl) (aA rfl (aq (g8 rfl (by ext) (AR (by rfl') (by rw[length_append];show h.length+4≤_;ext) (by ext))) rfl))))⟩
 rw[if_neg c4];have pre5:∀ {r},(ev (M+25)).SS hW (n7 w f o t e h k []) Y [ai ag 9,ai ag 10,ai ag 11,ai ag 12,ai ag 13]=r→(ev (M+28)).SS hW (n7 w f o t e h k []) Y [ai ag 6,ai ag 7,ai ag 8,ai ag 9,ai ag 10,ai ag 11,ai ag 12,ai ag 13]=r:=fun {r} hr=>
  ab rfl (aq (cY c2 (by ext)) rfl) (ab rfl (aq (cY c3 (by ext)) rfl) (ab rfl (aq (cY c4 (by ext)) rfl) hr))
 by_cases c5:k=5
 ·subst c5;rw[if_pos rfl];obtain⟨ρ',h5⟩:=L2 (w:=w) (e:=e) (h:=h) (f:=f) (o:=o) (t:=t) (Y:=Y) (N:=M+23) (by ext);exact⟨ρ',pre (pre5 (aA rfl (aq (g8 rfl (by ext) h5) rfl)))⟩
 rw[if_neg c5];have LS:∀ {K:Nat} {es:List (List Nat)} {p q p1 p2 p3:Pos} {x:Expr},es.length+55≤K→(∀ K,5≤K→(ev K).E hW (n7 w f o t e h k []) Y x=some (.list (es.map V.str),Y))→(ev K).SS hW (n7 w f o t e h k []) Y [.Return (some (.Call (.Name "_law_less" p1) [.Name "head" p,x,.Name "two" p2] [] p3)) q]=some (.ret (.str (aT h es t)),n7 w f o t e h k [],Y):=fun {K es p q p1 p2 p3 x} hK hx=>by
  obtain⟨L,rfl⟩:∃ L,K=L+3:=⟨K-3,by ext⟩;exact aA (M:=L+2) rfl (cA (M:=L+1) rfl (gr (M:=L) (by ext) rfl (by rfl') (au dW) (hx L (by ext)) (au rX)))
 by_cases c6:k=6
 ·subst c6;rw[if_pos rfl];exact⟨_,pre (pre5 (ab rfl (aq (cY c5 (by ext)) rfl) (aA rfl (aq (g8 rfl (by ext) (LS (es:=ends 10 3) (by show 3+55≤_;ext) (fun K hK=>Ga (by ext)))) rfl))))⟩
 rw[if_neg c6];by_cases c7:k=7
 ·subst c7;rw[if_pos rfl];exact⟨_,pre (pre5 (ab rfl (aq (cY c5 (by ext)) rfl) (ab rfl (aq (cY c6 (by ext)) rfl) (aA rfl (aq (g8 rfl (by ext) (LS (es:=ends 13 3) (by show 3+55≤_;ext) (fun K hK=>FF (by ext)))) rfl)))))⟩
 rw[if_neg c7];by_cases c8:k=8
 ·subst c8;rw[if_pos rfl];exact⟨_,pre (pre5 (ab rfl (aq (cY c5 (by ext)) rfl) (ab rfl (aq (cY c6 (by ext)) rfl) (ab rfl (aq (cY c7 (by ext)) rfl) (aA rfl (aq (g8 rfl (by ext) (LS (es:=ua) (by show 1+55≤_;ext) (fun K hK=>La (by ext)))) rfl))))))⟩
 rw[if_neg c8];exact⟨_,pre (pre5 (ab rfl (aq (cY c5 (by ext)) rfl) (ab rfl (aq (cY c6 (by ext)) rfl) (ab rfl (aq (cY c7 (by ext)) rfl) (ab rfl (aq (cY c8 (by ext)) rfl) (aA rfl (aq (cA rfl (au dW)) rfl)))))))⟩
end
end
section
variable {w e h:List Nat}{f o t:Nat}{k:Int}{l:af}{Y:af}{M N:Nat}
theorem xb:br ag.st=ai ag 0 :: ai ag 1 :: ai ag 2 :: ai ag 3 :: nT:=by rfl'
theorem wv:ce (.str "")=some (.str []):=by rfl'
theorem AQ(hN:160≤N)(hl:w.length≤1000):(ev N).C ag [.str w,.int f,.int o,.int t] Y=some (nV (dq w f o t),Y):=by
 obtain⟨M,rfl⟩:∃ M,N=M+20:=⟨N-20,by ext⟩;have l45:(ends 16 45).length=45:=by unfold ends;rw[length_map];rfl'
 have A:∀ {p p2 q2 p6 p7 q q3 q4:Pos} {k5:Nat},(ev (M+17)).E hW (n4 w f o t []) Y (.Call (.Name "_law_end" p6) [.Name "word" q,.Call (.Name "list" p2) [.Call (.Name "_law_nouns" p) [] [] q3] [] q2,.Constant (.int 0) k5 p7] [] q4)=some (.str (ah (ends 16 45) w),Y):=by
  intro p p2 q2 p6 p7 q q3 q4 k5;exact iB (w:=w) (es:=ends 16 45) (low:=0) (by rw[l45];ext) AU (zero_le _) (fun M hM=>au vz) (fun M hM=>sj (by ext) sU DJ) (fun M hM=>aN)
 have le:=cX (es:=ends 16 45) (t:=w);have hl2:=dP (w:=w) (e:=ah (ends 16 45) w);have K:ah (ends 16 45) w≠[]→∀ {p q p2 q2:Pos},(ev (M+14)).E hW (n6 w f o t (ah (ends 16 45) w) (cut w (ah (ends 16 45) w)) []) Y (.Subscript (.Call (.Name "_law_nouns" p) [] [] q) (.Name "end" p2) q2)=some (.int (kindOf (Tk 16 45) (ah (ends 16 45) w)),Y):=fun hne {p q p2 q2}=>Df (by ext) sU BR hne
 have en:dq w f o t=if ah (ends 16 45) w=[] then none else t7 (kindOf (Tk 16 45) (ah (ends 16 45) w)) (cut w (ah (ends 16 45) w)) f o t:=rfl
 generalize kindOf (Tk 16 45) (ah (ends 16 45) w)=kd at*;generalize ah (ends 16 45) w=g at*;have C:∀ {p p2 q q2:Pos},(ev (M+16)).E hW (n4 w f o t [(("end",.str g):Str×V)]) Y (.Call (.Name "_law_cut" p) [.Name "word" p2,.Name "end" q2] [] q)=some (.str (cut w g),Y):=fun {p p2 q q2}=>lX (by ext) HY le rfl (au vz) (au vY)
 generalize hc:cut w g=h at*;have pre:∀ {ρ':af} {v:V},(ev (M+17)).SS hW (n6 w f o t g h []) Y (ai ag 2 :: ai ag 3 :: nT)=some (.ret v,ρ',Y)→(ev (M+20)).C ag [.str w,.int f,.int o,.int t] Y=some (v,Y):=fun {ρ' v} hr=>by
  refine bC (ρ:=n4 w f o t []) (ρ':=ρ') rfl rfl rfl xb ?_;refine ab rfl (aq (bz rfl rfl (by rfl') A) rfl) ?_;rw[Ic];refine ab rfl (aq (bz rfl rfl (by rfl') C) rfl) ?_;rw[CO];exact hr
 have TE:∀ {p q r:Pos} {kk:Nat},(ev (M+15)).T hW (n6 w f o t g h []) Y (.Compare (.Name "end" p) [.Eq] [.Constant (.str "") kk q] r)=some (g==[],Y):=fun {p q r kk}=>
  bn rfl (au BR) (dH wv) rfl
 by_cases hg:g=[]
 ·rw[if_pos hg] at en;rw[en];exact pre (aA rfl (aq (bB rfl TE (beq_iff_eq.mpr hg) (aA rfl (cA rfl (fi)))) rfl))
 ·rw[if_neg hg] at en;rw[en];obtain⟨ρ',h5⟩:=xr (w:=w) (e:=g) (h:=h) (f:=f) (o:=o) (t:=t) (k:=kd) (Y:=Y) (N:=M+15) (by ext) (by ext);refine pre (ρ':=ρ') (ab rfl (aq (bt rfl TE (beq_eq_false_iff_ne.mpr hg)) rfl) ?_);refine ab rfl (aq (bz rfl rfl (by rfl') (K hg)) rfl) ?_;rw[Cr];exact h5
end
section
set_option tactic.hygienic false
theorem e8:ends 188 4=[[101],[231],[233],[234]]:=by rfl'
theorem GS:kindOf (Tk 188 4) [231]=2:=by rfl'
noncomputable def gZ(x:Nat):Bool:=x==101||(x==233||x==234)
theorem AW:ah (ends 188 4) []=[]:=by
 have:=(eb (ends 188 4) []).suf;exact List.suffix_nil.mp this
theorem zS(l:List Nat)(x y:Nat):[y] <:+ l++[x]↔y=x:=by
 rw[←List.reverse_prefix];simp[cons_prefix_cons]
theorem sG(l:List Nat)(x:Nat)(h:gZ x=true∨x=231):ah (ends 188 4) (l++[x])=[x]:=by
 refine (eb _ _).eq ⟨.inr ?_,?_,fun e he hs=>?_⟩
 ·rw[e8];unfold gZ at h;simp at h ⊢;ext
 ·rw[zS]
 ·rw[e8] at he;simp at he;rcases he with rfl | rfl | rfl | rfl<;>exact le_refl _
theorem wR(l:List Nat)(x:Nat)(h:gZ x=false)(h2:x≠231):ah (ends 188 4) (l++[x])=[]:=by
 have I:=eb (ends 188 4) (l++[x]);generalize ah (ends 188 4) (l++[x])=g at*;rcases I.mem with q | q
 ·exact q
 ·exfalso
  have s:=I.suf;rw[e8] at q;unfold gZ at h;simp at h;simp only[List.mem_cons,List.not_mem_nil,or_false] at q;rcases q with rfl | rfl | rfl | rfl
  ·rw[zS] at s;ext
  ·rw[zS] at s;ext
  ·rw[zS] at s;ext
  ·rw[zS] at s;ext
noncomputable def gc(h:List Nat):Bool:=(h.drop (h.length-2)==[103,117])||(h.drop (h.length-2)==[99,105])
theorem qR(h:List Nat)(a b:Nat):(h.drop (h.length-2)==[a,b])=gu h b a:=by
 unfold gu mR;rcases List.eq_nil_or_concat h with rfl | ⟨l,y,rfl⟩
 ·rfl
 ·rcases List.eq_nil_or_concat l with rfl | ⟨l,z,rfl⟩
  ·simp
  ·rw[Bool.eq_iff_iff];simp only[List.concat_eq_append,append_assoc,List.cons_append,List.nil_append,length_append,length_cons,List.length_nil];rw[show l.length+(0+1+1)-2=l.length by ext,List.drop_left];simp only[Bool.and_eq_true,beq_iff_eq,decide_eq_true_iff];rw[show l.length+(0+1+1)-1=l.length+1 by ext,show l.length+1-1=l.length by ext];simp;ext
theorem K7(h:List Nat):gc h=(gu h 117 103||gu h 105 99):=by
 unfold gc;rw[qR,qR]
noncomputable def mJ(d:List Nat):Bool:=(d==[101])||((d==[233])||(d==[234]))
theorem wO(x:Nat):mJ [x]=gZ x:=by
 have h:∀ y,(([x]:List Nat)==[y])=(x==y):=fun y=>by
  rw[Bool.eq_iff_iff];simp
 unfold mJ gZ;rw[h,h,h]
noncomputable def vF(w:List Nat)(first:Nat):List Nat:=
 if w.drop (w.length-1)=[231] then w.take (w.length-1)++[99]
 else if (!mJ (w.drop (w.length-1))||decide ((w.length:Int)-1<first))=true then w
 else if gc (w.take (w.length-1))=true∧(first:Int)≤((w.take (w.length-1)).length:Int)-1 then (w.take (w.length-1)).take ((w.take (w.length-1)).length-1)
 else w.take (w.length-1)
theorem Bl(w:List Nat)(first:Nat):vF w first=dQ w first:=by
 rcases List.eq_nil_or_concat w with rfl | ⟨l,x,rfl⟩
 ·unfold dQ;dsimp only;rw[AW,if_pos rfl];unfold vF;rw[if_neg (by simp)];exact if_pos (by simp[mJ])
 ·rw[List.concat_eq_append];have ln:(l++[x]).length=l.length+1:=length_append;have d:(l++[x]).drop ((l++[x]).length-1)=[x]:=by rw[ln];exact List.drop_left
  have tk:(l++[x]).take ((l++[x]).length-1)=l:=by rw[ln];exact List.take_left
  have hc:∀ y:Nat,cut (l++[x]) [y]=l:=fun y=>tk
  unfold vF;rw[d,tk,ln,wO];by_cases h231:x=231
  ·subst h231;rw[if_pos rfl];unfold dQ;dsimp only;rw[sG l 231 (.inr rfl),hc,GS,if_neg (List.cons_ne_nil _ _),if_neg (by decide)]
  ·rw[if_neg fun q=>h231 (List.cons.inj q).1];cases hf:gZ x with
   | false=>
    rw[if_pos (by rfl)];unfold dQ;dsimp only;rw[wR l x hf h231,if_pos rfl]
   | true=>
    have k1:kindOf (Tk 188 4) [x]=1:=by
     unfold gZ at hf;simp at hf;rcases hf with rfl | rfl | rfl
     ·exact (by rfl')
     ·exact (by rfl')
     ·exact (by rfl')
    unfold dQ;dsimp only;rw[sG l x (.inl hf),hc,k1,if_neg (List.cons_ne_nil x []),if_pos rfl];by_cases hl:first≤l.length
    ·rw[if_neg (by rw[ZF];decide),if_pos hl,K7];by_cases hg:(gu l 117 103||gu l 105 99)=true
     ·have hp:=zY hg;by_cases h3:first≤l.length-1
      ·rw[if_pos ⟨hg,by ext⟩,if_pos ⟨hg,h3⟩]
      ·rw[if_neg (fun q=>h3 (by ext)),if_neg (fun q=>h3 q.2)]
     ·rw[if_neg (fun q=>hg q.1),if_neg (fun q=>hg q.1)]
    ·rw[if_pos (by rw[ZT];rfl),if_neg hl]
abbrev EG:Scope:=aJ aU.st
noncomputable def dL(w:List Nat)(f:Nat):af:=[("word",.str w),("first",.int f)]
section
variable {sc:Scope}{ρ Y:af}{M N:Nat}{w:List Nat}{f:Nat}
theorem ut:VL EG (dL w f) "word" (.str w):=(ba (by rfl'))
theorem Jq:VL EG (dL w f) "first" (.int f):=(ba (by rfl'))
theorem PQ{u:List Nat}:put (dL w f) "word" (.str u)=dL u f:=by rfl'
theorem zW{v u:Expr}{p q:Pos}{t:List Nat}{j:Int}(e:N=M+1)(hv:(ev M).E sc ρ Y v=some (.str t,Y))(hu:(ev M).E sc ρ Y u=some (.int j,Y)):(ev N).E sc ρ Y (.Subscript v (.Slice none (some u) none q) p)=some (.str (bM t none (some j)),Y):=by
 subst e;have o2:dz (ev M).E sc ρ Y (some u)=some (some j,Y):=by unfold dz;dsimp only;rw[hu]
 show (match (ev M).E sc ρ Y v with
     | some (.str t,Y)=>match dz (ev M).E sc ρ Y none with
      | some (a,Y)=>match dz (ev M).E sc ρ Y (some u) with
       | some (b,Y)=>some (V.str (bM t a b),Y)
       | none=>none
      | none=>none
     | some (.list t,Y)=>_
     | _=>_)=_
 rw[hv];dsimp only;show (match dz (ev M).E sc ρ Y (some u) with
       | some (b,Y)=>some (V.str (bM t none b),Y)
       | none=>none)=_
 rw[o2]
theorem Jj(h:List Nat):bM h none (some (-1))=h.take (h.length-1):=congrArg h.take (yf h.length 0)
theorem EZ(h:List Nat):bM h (some (-2)) none=h.drop (h.length-2):=lastn h 1
theorem nW{a b:Expr}{p:Pos}{x y:Int}(e:N=M+1)(ha:(ev M).E sc ρ Y a=some (.int x,Y))(hb:(ev M).E sc ρ Y b=some (.int y,Y)):(ev N).E sc ρ Y (.BinOp a .Sub b p)=some (.int (x-y),Y):=by subst e;exact mw ha hb
theorem Id{a b:Expr}{p:Pos}{x y:Bool}(e:N=M+1)(ha:(ev M).T sc ρ Y a=some (x,Y))(hb:x=false→(ev M).T sc ρ Y b=some (y,Y)):(ev N).T sc ρ Y (.BoolOp .Or [a,b] p)=some (x||y,Y):=Fm e ha hb
theorem PL:ce (.str "ç")=some (.str [231]):=by rfl'
theorem HO{p p1 p2 p3:Pos}{k1 k2 k3:Nat}(hN:5≤N):(ev N).E sc ρ Y (.List [.Constant (.str "e") k1 p1,.Constant (.str "é") k2 p2,.Constant (.str "ê") k3 p3] p)=some (.list [.str [101],.str [233],.str [234]],Y):=by
 obtain⟨n,rfl⟩:=xle hN;rfl'
theorem Iq{p p1 p2:Pos}{k1 k2:Nat}(hN:5≤N):(ev N).E sc ρ Y (.List [.Constant (.str "gu") k1 p1,.Constant (.str "ci") k2 p2] p)=some (.list [.str [103,117],.str [99,105]],Y):=by
 obtain⟨n,rfl⟩:=xle hN;rfl'
theorem G9:∀ (d:List Nat) (l:List V),gO .In (.str d) (.list l)=bW d l
 | [],_=>rfl
 | [_],_=>rfl
 | _ :: _ :: _,_=>rfl
theorem Cz:∀ (d:List Nat) (l:List V),gO .NotIn (.str d) (.list l)=(bW d l).map (!·)
 | [],_=>rfl
 | [_],_=>rfl
 | _ :: _ :: _,_=>rfl
theorem Uq(d:List Nat):gO .NotIn (.str d) (.list [.str [101],.str [233],.str [234]])=some (!mJ d):=by
 rw[Cz];unfold bW bW bW bW mJ;simp
theorem Qt(d:List Nat):gO .In (.str d) (.list [.str [103,117],.str [99,105]])=some ((d==[103,117])||(d==[99,105])):=by
 rw[G9];unfold bW bW bW;simp
theorem ji:br aU.st=[ai aU 0,ai aU 1,ai aU 2,ai aU 3,ai aU 4]:=by rfl'
theorem BB{p1 p2 p3 p4 p5:Pos}{k1:Nat}(hN:6≤N):(ev N).E EG (dL w f) Y (.BinOp (.Call (.Name "len" p1) [.Name "word" p2] [] p3) .Sub (.Constant (.int 1) k1 p4) p5)=some (.int ((w.length:Int)-1),Y):=by
 obtain⟨K,rfl⟩:∃ K,N=K+2:=⟨N-2,by ext⟩;exact nW rfl (fF rfl (by rfl') (au ut)) (aN)
theorem uK(hN:60≤N)(hl:w.length≤1000):(ev N).C aU [.str w,.int f] Y=some (.str (dQ w f),Y):=by
 obtain⟨M,rfl⟩:∃ M,N=M+20:=⟨N-20,by ext⟩;rw[←Bl];have T0:∀ {p1 p2 p3 p4 p5 p6 p7:Pos} {k1 k2:Nat},(ev (M+17)).T EG (dL w f) Y (.Compare (.Subscript (.Name "word" p1) (.Slice (some (.UnaryOp .USub (.Constant (.int 1) k1 p2) p3)) none none p4) p5) [.Eq] [.Constant (.str "ç") k2 p6] p7)=some (w.drop (w.length-1)==[231],Y):=by
  intro p1 p2 p3 p4 p5 p6 p7 k1 k2;rw[←AV];exact bn rfl (oq rfl (au ut) (jm)) (dH PL) rfl
 have B1:∀ {K:Nat} {u:List Nat} {p1 p2 p3 p4 p5:Pos} {k1:Nat},4≤K→(ev K).E EG (dL u f) Y (.Subscript (.Name "word" p1) (.Slice none (some (.UnaryOp .USub (.Constant (.int 1) k1 p2) p3)) none p4) p5)=some (.str (u.take (u.length-1)),Y):=by
  intro K u p1 p2 p3 p4 p5 k1 hK;obtain⟨L,rfl⟩:∃ L,K=L+1:=⟨K-1,by ext⟩;rw[←Jj];exact zW rfl (au ut) (jm)
 have T1:∀ {p1 p2 p3 p4 p5 p6 p7 p8 p9 q1 q2 q3 q4 q5 q6 q7 q8 q9:Pos} {k1 k2 k3 k4 k5:Nat},(ev (M+16)).T EG (dL w f) Y (.BoolOp .Or [.Compare (.Subscript (.Name "word" p1) (.Slice (some (.UnaryOp .USub (.Constant (.int 1) k1 p2) p3)) none none p4) p5) [.NotIn] [.List [.Constant (.str "e") k2 p6,.Constant (.str "é") k3 p7,.Constant (.str "ê") k4 p8] p9] q1,
   .Compare (.BinOp (.Call (.Name "len" q2) [.Name "word" q3] [] q4) .Sub (.Constant (.int 1) k5 q5) q6) [.Lt] [.Name "first" q7] q8] q9)=some (!mJ (w.drop (w.length-1))||decide ((w.length:Int)-1<f),Y):=by
  intro p1 p2 p3 p4 p5 p6 p7 p8 p9 q1 q2 q3 q4 q5 q6 q7 q8 q9 k1 k2 k3 k4 k5;rw[←AV];exact Id rfl (bn rfl (oq rfl (au ut) (jm)) (HO (by ext)) (Uq _)) (fun _=>bn rfl (BB (by ext)) (au Jq) rfl)
 have T3:∀ {u:List Nat} {p1 p2 p3 p4 p5 p6 p7 p9 q1 q2 q3 q4 q5 q6 q7 q8 q9:Pos} {k1 k2 k3 k5:Nat},(ev (M+14)).T EG (dL u f) Y (.BoolOp .And [.Compare (.Subscript (.Name "word" p1) (.Slice (some (.UnaryOp .USub (.Constant (.int 2) k1 p2) p3)) none none p4) p5) [.In] [.List [.Constant (.str "gu") k2 p6,.Constant (.str "ci") k3 p7] p9] q1,
   .Compare (.BinOp (.Call (.Name "len" q2) [.Name "word" q3] [] q4) .Sub (.Constant (.int 1) k5 q5) q6) [.GtE] [.Name "first" q7] q8] q9)=some (gc u&&decide ((f:Int)≤(u.length:Int)-1),Y):=by
  intro u p1 p2 p3 p4 p5 p6 p7 p9 q1 q2 q3 q4 q5 q6 q7 q8 q9 k1 k2 k3 k5;unfold gc;rw[←EZ];exact js rfl (bn rfl (oq rfl (au ut) (jm)) (Iq (by ext)) (Qt _)) (fun _=>bn rfl (BB (by ext)) (au Jq) rfl)
 have tl:(w.take (w.length-1)).length≤1000:=by rw[length_take];ext
 unfold vF;by_cases h1:w.drop (w.length-1)=[231]
 ·rw[if_pos h1];exact bC (ρ:=dL w f) (ρ':=dL w f) rfl rfl rfl ji (aA rfl (aq (bB rfl T0 (beq_iff_eq.mpr h1) (aA rfl (cA rfl (iw rfl (B1 (by ext)) (dH I6) (by rw[length_append];show _+1≤_;ext))))) rfl))
 rw[if_neg h1];by_cases h2:(!mJ (w.drop (w.length-1))||decide ((w.length:Int)-1<f))=true
 ·rw[if_pos h2];exact bC (ρ:=dL w f) (ρ':=dL w f) rfl rfl rfl ji (ab rfl (aq (bt rfl T0 (beq_eq_false_iff_ne.mpr h1)) rfl) (aA rfl (aq (bB rfl T1 h2 (aA rfl (cA rfl (au ut)))) rfl)))
 rw[if_neg h2];generalize hu:w.take (w.length-1)=u at*;have pre:∀ {ρ':af} {v:V},(ev (M+16)).SS EG (dL u f) Y [ai aU 3,ai aU 4]=some (.ret v,ρ',Y)→(ev (M+20)).C aU [.str w,.int f] Y=some (v,Y):=fun {ρ' v} hr=>by
  refine bC (ρ:=dL w f) (ρ':=ρ') rfl rfl rfl ji (ab rfl (aq (bt rfl T0 (beq_eq_false_iff_ne.mpr h1)) rfl) (ab rfl (aq (bt rfl T1 (Bool.eq_false_iff.mpr h2)) rfl) (ab rfl (aq (bz rfl rfl (by rfl') (B1 (by ext))) rfl) ?_)));rw[hu,PQ];exact hr
 by_cases h3:gc u=true∧(f:Int)≤(u.length:Int)-1
 ·rw[if_pos h3];exact pre (aA rfl (aq (bB rfl T3 (by rw[h3.1,decide_eq_true h3.2];rfl) (aA rfl (cA rfl (B1 (by ext))))) rfl))
 ·rw[if_neg h3];exact pre (ab rfl (aq (bt rfl T3 (by rw[Bool.eq_false_iff];intro z;rw[Bool.and_eq_true,decide_eq_true_iff] at z;exact h3 z)) rfl) (aA rfl (aq (cA rfl (au ut)) rfl)))
end
end
end Mine.Internal.P
end
noncomputable section
open PySem PySem.W PyProof.Rows PySem.Calls PySem.Builtin.Str PySem.StrLaws
set_option maxHeartbeats 2000000
namespace Mine.Internal.P
section
set_option tactic.hygienic false
noncomputable def ie(y z:List Nat):List Nat→Nat→List Nat
 | [],_=>[]
 | _ :: t,sk+1=>ie y z t sk
 | c :: t,0=>if y <+: c :: t then z++ie y z t (y.length-1) else c :: ie y z t 0
noncomputable def jW(y:List Nat):List Nat→Nat→Nat→List Nat
 | [],_,_=>[]
 | _ :: t,i,sk+1=>jW y t (i+1) sk
 | c :: t,i,0=>if y <+: c :: t then i :: jW y t (i+1) (y.length-1) else jW y t (i+1) 0
theorem Bz(y l:List Nat):(l.take y.length==y)=decide (y <+: l):=by
 rw[Bool.eq_iff_iff,beq_iff_eq,decide_eq_true_iff,List.prefix_iff_eq_take];exact eq_comm
theorem rS{x y:Str}(hm:0<y.length):∀ (t:List Nat) (i:Nat) (st:Array Nat×Nat),x.cps.toList.drop i=t→i+t.length=x.length→st.fst.size≤i→
  (forIn (List.range' i (t.length+1)) st (occBody x y x.length (x.length+1))).run.fst.toList=st.fst.toList++jW y.cps.toList t i (st.snd-i)
 | [],i,st,ht,hi,hs=>by
  show (forIn [i] st (occBody x y x.length (x.length+1))).run.fst.toList=_;rw[List.forIn_cons];unfold occBody;rw[if_neg (fun q=>by have:=q.1.2;simp at hi;ext)];unfold jW;rw[List.append_nil];rfl
 | c :: t,i,st,ht,hi,hs=>by
  have ht2:x.cps.toList.drop (i+1)=t:=by rw[←List.drop_drop,ht];rfl
  have hi2:i+1+t.length=x.length:=(Nat.add_right_comm i 1 t.length).trans hi;have yl:y.cps.toList.length=y.length:=rfl;rw[length_cons,List.range'_succ,List.forIn_cons];have sa:subAt x y i=decide (y.cps.toList <+: c :: t):=by rw[subAt_eq,ht,←yl,Bz]
  unfold occBody;cases hk:st.snd-i with
  | succ k=>
   rw[if_neg (fun q=>by have:=q.1.1.2;ext)];have:=rS hm t (i+1) (st.fst,st.snd) ht2 hi2 (Nat.le_succ_of_le hs);unfold jW;rw[show st.snd-(i+1)=k from congrArg Nat.pred hk] at this;exact this
  | zero=>
   unfold jW;by_cases hp:y.cps.toList <+: c :: t
   ·have hl:=hp.length_le;rw[length_cons,yl] at hl;rw[if_pos ⟨⟨⟨by ext,by ext⟩,by ext⟩,by rw[sa];exact decide_eq_true hp⟩,if_pos hp];have:=rS hm t (i+1) (st.fst.push i,i+y.length) ht2 hi2 (by rw[Array.size_push];exact Nat.succ_le_succ hs);rw[show i+y.length-(i+1)=y.cps.toList.length-1 from Nat.add_sub_add_left i y.length 1,Array.toList_push,append_assoc] at this;exact this
   ·rw[if_neg (fun q=>hp (of_decide_eq_true (sa ▸ q.2))),if_neg hp];have:=rS hm t (i+1) (st.fst,st.snd) ht2 hi2 (Nat.le_succ_of_le hs);rw[show st.snd-(i+1)=0 from congrArg Nat.pred hk] at this;exact this
noncomputable def jn(x z:List Nat)(m:Nat):Nat→List Nat→List Nat
 | a,[]=>x.drop a
 | a,c :: r=>(x.drop a).take (c-a)++z++jn x z m (c+m) r
theorem rx{x y z:List Nat}(hm:0<y.length):∀ (t:List Nat) (i sk a:Nat),x.drop i=t→((sk=0∧a≤i)∨a=i+sk)→jn x z y.length a (jW y t i sk)=(x.drop a).take (i-a)++ie y z t sk
 | [],i,sk,a,ht,h=>by
  unfold jW jn ie;have hn:x.length≤i:=by rw[List.drop_eq_nil_iff] at ht;exact ht
  rw[List.append_nil];rcases h with ⟨_,h⟩ | h
  ·rw[List.take_of_length_le (by rw[length_drop];exact Nat.sub_le_sub_right hn a)]
  ·rw[List.drop_eq_nil_of_le (le_trans hn (h ▸ le_add_right _ _))];simp
 | c :: t,i,sk+1,a,ht,h=>by
  have ht2:x.drop (i+1)=t:=by rw[←List.drop_drop,ht];rfl
  have e:a=i+1+sk:=h.elim (fun q=>absurd q.1 (Nat.succ_ne_zero _)) fun q=>q.trans (Nat.add_right_comm i sk 1)
  have e1:i+1≤a:=e ▸ le_add_right _ _;have:=rx (z:=z) hm t (i+1) sk a ht2 (.inr e);unfold jW ie;rw[this,Nat.sub_eq_zero_of_le e1,Nat.sub_eq_zero_of_le (le_of_succ_le e1)]
 | c :: t,i,0,a,ht,h=>by
  have ht2:x.drop (i+1)=t:=by rw[←List.drop_drop,ht];rfl
  have ha:a≤i:=h.elim (·.2) Nat.le_of_eq;unfold jW ie;by_cases hp:y <+: c :: t
  ·rw[if_pos hp,if_pos hp];have:=rx (z:=z) hm t (i+1) (y.length-1) (i+y.length) ht2 (.inr (by rw[add_assoc i 1,Nat.add_sub_cancel' hm]));rw[Nat.sub_eq_zero_of_le (Nat.add_le_add_left hm i),List.take_zero,List.nil_append] at this;show (x.drop a).take (i-a)++z++jn x z y.length (i+y.length) _=_;rw[this,append_assoc]
  ·rw[if_neg hp,if_neg hp];have:=rx (z:=z) hm t (i+1) 0 a ht2 (.inl ⟨rfl,Nat.le_succ_of_le ha⟩);rw[this];have hc:(x.drop a)[i-a]?=some c:=by
    rw[List.getElem?_drop,Nat.add_sub_cancel' ha];have:(x.drop i)[0]?=some c:=by rw[ht];rfl
    rw[List.getElem?_drop] at this;exact this
   rw[Nat.succ_sub ha,List.take_add_one,hc,append_assoc];rfl
theorem py(x z:Str)(m:Nat):∀ (cuts:List Nat) (a:Nat),(Str.join z (partsFrom x m a cuts)).cps.toList=jn x.cps.toList z.cps.toList m a cuts
 | [],a=>by
  show (strSub x a x.length).cps.toList=_;rw[strSub_toList];exact List.take_of_length_le (by rw[length_drop];exact le_refl _)
 | c :: r,a=>by
  have ih:=py x z m r (c+m);obtain⟨p,q,e⟩:=partsFrom_ne x m (c+m) r;show (Str.join z (strSub x a c :: partsFrom x m (c+m) r)).cps.toList=_;rw[e] at ih ⊢;show (strSub x a c++z++Str.join z (p :: q)).cps.toList=_;simp only[Str.cps_append,Array.toList_append];rw[ih,strSub_toList];rfl
theorem A5{y z:List Nat}(hm:0<y.length)(t:List Nat):mI y z t=ie y z t 0:=by
 have h0:((⟨y.toArray⟩:Str).length==0)=false:=beq_eq_false_iff_ne.mpr (by show y.toArray.size≠0;simp;intro q;rw[q] at hm;exact absurd hm (by decide));have hl:(⟨t.toArray⟩:Str).length=t.length:=by show t.toArray.size=_;simp
 have hy:(⟨y.toArray⟩:Str).length=y.length:=by show y.toArray.size=_;simp
 have ho:occurrences ⟨t.toArray⟩ ⟨y.toArray⟩ 0 (⟨t.toArray⟩:Str).length ((⟨t.toArray⟩:Str).length+1)=jW y t 0 0:=by
  rw[occ_eq];have:=rS (x:=⟨t.toArray⟩) (y:=⟨y.toArray⟩) (by rw[hy];exact hm) t 0 (#[],0) (by simp) (by rw[hl];ext) (le_refl _);rw[hl] at this ⊢;simpa using this
 unfold mI Txt.replace;rw[h0,Bool.false_and,Bool.or_false,ho,glued_eq_join,partsBetween_eq];have key:jn t z y.length 0 (jW y t 0 0)=ie y z t 0:=by
  have:=rx (x:=t) (y:=y) (z:=z) hm t 0 0 0 rfl (.inr rfl);rw[this];simp
 cases he:(jW y t 0 0).isEmpty with
 | true=>
  rw[if_pos rfl];rw[List.isEmpty_iff] at he;rw[he] at key;rw[←key];show t.toArray.toList=t.drop 0;simp
 | false=>
  rw[if_neg Bool.false_ne_true,py,hy];show jn t.toArray.toList z.toArray.toList y.length 0 _=_;simpa using key
end
end Mine.Internal.P
end
noncomputable section
open PySem PySem.W PyProof.Rows PySem.Calls
set_option maxHeartbeats 2000000
namespace Mine.Internal.P
section
set_option tactic.hygienic false
theorem im{y z:List Nat}{c:Nat}{t:List Nat}(h:y <+: c :: t):ie y z (c :: t) 0=z++ie y z t (y.length-1):=by
 rw[ie,if_pos h]
theorem cU{y z:List Nat}{c:Nat}{t:List Nat}(h:¬ y <+: c :: t):ie y z (c :: t) 0=c :: ie y z t 0:=by
 rw[ie,if_neg h]
theorem gj{a c:Nat}{t:List Nat}:[a] <+: c :: t↔c=a:=by
 rw[cons_prefix_cons];exact⟨fun h=>h.1.symm,fun h=>⟨h.symm,List.nil_prefix⟩⟩
theorem fc{a b c:Nat}{t:List Nat}:[a,b] <+: c :: t↔c=a∧t.head?=some b:=by
 rw[cons_prefix_cons]
 induction t using zL with
 | nil=>simp
 | cons d t=>rw[gj];simp;exact fun _=>eq_comm
theorem yM:∀ t,ie [245] [111,126] (ie [227] [97,126] t 0) 0=jH t
 | []=>rfl
 | c :: t=>by
  have ih:=yM t;unfold jH;by_cases h:c=227
  ·rw[if_pos h,im (gj.mpr h)];show ie [245] [111,126] (97 :: 126 :: ie [227] [97,126] t 0) 0=_;rw[cU (fun q=>absurd (gj.mp q) (by decide)),cU (fun q=>absurd (gj.mp q) (by decide)),ih]
  ·rw[if_neg h,cU (fun q=>h (gj.mp q))];by_cases h2:c=245
   ·rw[if_pos h2,im (gj.mpr h2)];show 111 :: 126 :: ie [245] [111,126] (ie [227] [97,126] t 0) 0=_;rw[ih]
   ·rw[if_neg h2,cU (fun q=>h2 (gj.mp q)),ih]
theorem Bv{y z:List Nat}{c:Nat}{t:List Nat}:(ie y z (c :: t) 0).head?=if y <+: c :: t then (z++ie y z t (y.length-1)).head? else some c:=by
 by_cases h:y <+: c :: t
 ·rw[im h,if_pos h]
 ·rw[cU h,if_neg h];rfl
theorem rj:∀ t,ie [111,126] [245] (ie [97,126] [227] t 0) 0=vl t
 | []=>rfl
 | [x]=>by
  unfold vl;rw[cU (fun q=>by have:=fc.mp q;simp at this)];show ie [111,126] [245] [x] 0=_;rw[cU (fun q=>by have:=fc.mp q;simp at this)];rfl
 | x :: y :: t=>by
  unfold vl;by_cases a:x=97∧y=126
  ·have ih:=rj t;rw[if_pos a,im (fc.mpr ⟨a.1,by rw[a.2];rfl⟩)];show ie [111,126] [245] (227 :: ie [97,126] [227] t 0) 0=_;rw[cU (fun q=>absurd (fc.mp q).1 (by decide)),ih]
  ·rw[if_neg a,cU (fun q=>a (by have:=fc.mp q;simpa using this))];by_cases b:x=111∧y=126
   ·have ih:=rj t;rw[if_pos b];rw[b.1,b.2,cU (c:=126) (fun q=>absurd (fc.mp q).1 (by decide)),im (fc.mpr ⟨rfl,rfl⟩)];show 245 :: ie [111,126] [245] (ie [97,126] [227] t 0) 0=_;rw[ih]
   ·have ih:=rj (y :: t);rw[if_neg b,cU (fun q=>?_),ih];have:=fc.mp q;rw[Bv] at this;by_cases h:[97,126] <+: y :: t
    ·rw[if_pos h] at this;exact absurd this.2 (by simp)
    ·rw[if_neg h] at this;exact b ⟨this.1,by simpa using this.2⟩
theorem iD(y z:List Nat):∀ (t:List Nat) (sk:Nat),(ie y z t sk).length≤(z.length+1)*t.length
 | [],_=>by unfold ie;exact zero_le _
 | c :: t,sk+1=>by
  have:=iD y z t sk;unfold ie;rw[length_cons,Nat.mul_add];ext
 | c :: t,0=>by
  rw[length_cons,Nat.mul_add];by_cases h:y <+: c :: t
  ·have:=iD y z t (y.length-1);rw[im h,length_append];ext
  ·have:=iD y z t 0;rw[cU h,length_cons];ext
theorem nI{sc:Scope}{ρ Y:af}{M N:Nat}{o:Expr}{apos pos p1 p2:Pos}{k1 k2:Nat}{a b:Str}{t:List Nat}(e:N=M+1)(hok:ax o [.Constant (.str a) k1 p1,.Constant (.str b) k2 p2] apos pos=true)(ho:(ev M).E sc ρ Y o=some (.str t,Y))(hb:(Nat.ble b.cps.size 8&&!(a==b))=true)(hy:0<a.cps.toList.length)(hl:(b.cps.toList.length+1)*t.length≤1048576):
  (ev N).E sc ρ Y (.Call (.Attribute o "replace" apos) [.Constant (.str a) k1 p1,.Constant (.str b) k2 p2] [] pos)=some (.str (ie a.cps.toList b.cps.toList t 0),Y):=by
 subst e;show (match ax o [.Constant (.str a) k1 p1,.Constant (.str b) k2 p2] apos pos,(ev M).E sc ρ Y o with
     | true,some (.self,Y)=>_
     | true,some (.str t,Y)=>(bif (Nat.ble b.cps.size 8)&&!(a==b) then (BQ (mI a.cps.toList b.cps.toList t)).map fun v=>(v,Y) else none)
     | _,_=>_)=_
 rw[hok,ho];dsimp only;rw[hb,cond_true,A5 hy];unfold BQ dZ;rw[ble_eq_true_of_le (le_trans (iD _ _ t 0) hl)];rfl
abbrev kO:Scope:=aJ aZ.st
noncomputable def m5(w:List Nat)(f o t:Nat)(v:V)(l:af):af:=(("word",.str w):Str×V) :: (("first",.int f):Str×V) :: (("one",.int o):Str×V) :: (("two",.int t):Str×V) :: (("told",v):Str×V) :: l
noncomputable def m1(w:List Nat)(l:af):af:=(("word",.str w):Str×V) :: l
noncomputable def m2(w:List Nat)(f:Nat)(l:af):af:=m1 w ((("first",.int f):Str×V) :: l)
noncomputable def m3(w:List Nat)(f o:Nat)(l:af):af:=m2 w f ((("one",.int o):Str×V) :: l)
noncomputable def m4(w:List Nat)(f o t:Nat)(l:af):af:=m3 w f o ((("two",.int t):Str×V) :: l)
section
variable {w w' e h:List Nat}{f o t:Nat}{v v':V}{l:af}{Y:af}{M N:Nat}
theorem Bf:kO.names.lookup ("_law_first":Str)=some .globalImplicit:=by rfl'
theorem wQ:kO.names.lookup ("_law_behind":Str)=some .globalImplicit:=by rfl'
theorem CA:kO.names.lookup ("_law_noun":Str)=some .globalImplicit:=by rfl'
theorem xZ:kO.names.lookup ("_law_formed":Str)=some .globalImplicit:=by rfl'
theorem AD:eX 1007=some aL:=by rfl'
theorem zF:glob "_law_first"=some (.addr 1007):=by rfl'
theorem xW:eX 1000=some bj:=by rfl'
theorem xN:glob "_law_behind"=some (.addr 1000):=by rfl'
theorem EA:eX 1014=some ag:=by rfl'
theorem Cn:glob "_law_noun"=some (.addr 1014):=by rfl'
theorem xF:eX 1021=some aU:=by rfl'
theorem xy:glob "_law_formed"=some (.addr 1021):=by rfl'
theorem tW:glob "_law_verbs"=some (.list ((ends 61 120).map V.str)):=by rfl'
theorem wk:glob "_law_last"=some (.list ((ends 181 7).map V.str)):=by rfl'
theorem po:VL kO (m1 w l) "word" (.str w):=(ba (by rfl'))
theorem Bn:VL kO (m2 w f l) "first" (.int f):=(ba (by rfl'))
theorem K5:VL kO (m3 w f o l) "one" (.int o):=(ba (by rfl'))
theorem QX:VL kO (m4 w f o t l) "two" (.int t):=(ba (by rfl'))
theorem kC:VL kO (m5 w f o t v l) "told" v:=(ba (by rfl'))
theorem Q8:put (m1 w l) "word" (.str w')=m1 w' l:=by rfl'
theorem Q4:put (m1 w []) "first" (.int f)=m2 w f []:=by rfl'
theorem PP:put (m2 w f []) "one" (.int o)=m3 w f o []:=by rfl'
theorem Qm:put (m3 w f o []) "two" (.int t)=m4 w f o t []:=by rfl'
theorem Ek:put (m4 w f o t []) "told" v=m5 w f o t v []:=by rfl'
theorem yc:put (m5 w f o t v l) "told" v'=m5 w f o t v' l:=by rfl'
theorem Ih:put (m5 w f o t v []) "end" (.str e)=m5 w f o t v [(("end",.str e):Str×V)]:=by rfl'
theorem Ab:VL kO (m5 w f o t v [(("end",.str e):Str×V)]) "end" (.str e):=(ba (by rfl'))
theorem Qf{sc:Scope}{ρ Y:af}{N:Nat}{a b c d:Expr}{x y z u:V}(ha:(ev N).E sc ρ Y a=some (x,Y))(hb:(ev N).E sc ρ Y b=some (y,Y))(hc:(ev N).E sc ρ Y c=some (z,Y))(hd:(ev N).E sc ρ Y d=some (u,Y)):dl (ev N).E sc ρ Y [a,b,c,d]=some ([x,y,z,u],Y):=by
 unfold dl;rw[ha];dsimp only;rw[B8 hb hc hd]
theorem yt{p p1 q:Pos}(hN:w.length+50≤N):(ev N).E kO (m1 w l) Y (.Call (.Name "_law_first" p) [.Name "word" p1] [] q)=some (.int (aQ w),Y):=by
 obtain⟨M,rfl⟩:∃ M,N=M+1:=⟨N-1,by ext⟩;exact fa rfl (by decide+kernel) (by decide+kernel) Bf zF AD (ei (au po)) (xl (by ext))
theorem pS{a:Nat}{p p1 q:Pos}{x:Expr}(hN:w.length+50≤N)(eN:N=M+1)(ha:a≤w.length)(hx:(ev M).E kO (m1 w l) Y x=some (.int a,Y)):(ev N).E kO (m1 w l) Y (.Call (.Name "_law_behind" p) [.Name "word" p1,x] [] q)=some (.int (ap w a),Y):=
 fa eN (by decide+kernel) (by decide+kernel) wQ xN xW (xu (au po) hx) (um ha (by ext))
theorem Ce{p p1 p2 p3 p4 q:Pos}(hN:170≤N)(hl:w.length≤1000):(ev N).E kO (m4 w f o t l) Y (.Call (.Name "_law_noun" p) [.Name "word" p1,.Name "first" p2,.Name "one" p3,.Name "two" p4] [] q)=some (nV (dq w f o t),Y):=by
 obtain⟨M,rfl⟩:∃ M,N=M+1:=⟨N-1,by ext⟩;exact fa rfl (by decide+kernel) (by decide+kernel) CA Cn EA (Qf (au po) (au Bn) (au K5) (au QX)) (AQ (by ext) hl)
theorem wU{p p1 p2 q:Pos}(hN:70≤N)(hl:w.length≤1000):(ev N).E kO (m2 w f l) Y (.Call (.Name "_law_formed" p) [.Name "word" p1,.Name "first" p2] [] q)=some (.str (dQ w f),Y):=by
 obtain⟨M,rfl⟩:∃ M,N=M+1:=⟨N-1,by ext⟩;exact fa rfl (by decide+kernel) (by decide+kernel) xZ xy xF (xu (au po) (au Bn)) (uK (by ext) hl)
theorem BM:br aZ.st=[ai aZ 0,ai aZ 1,ai aZ 2,ai aZ 3,ai aZ 4,ai aZ 5,ai aZ 6,ai aZ 7]:=by rfl'
theorem Qx(hN:170≤N)(hf:f≤w.length):∃ l',(ev N).S kO (m5 w f o t (nV (dq w f o t)) []) Y (ai aZ 5)=some (.next,m5 w f o t (nV (dM w f o t)) l',Y):=by
 obtain⟨M,rfl⟩:∃ M,N=M+10:=⟨N-10,by ext⟩;cases hn:dq w f o t with
 | some h=>
  have et:dM w f o t=some h:=by unfold dM;rw[hn]
  rw[et];exact⟨[],aq (bt rfl (bn (r:=false) rfl (au kC) (fi) rfl) rfl) rfl⟩
 | none=>
  have et:dM w f o t=e9 w f:=by unfold dM;rw[hn]
  rw[et];have l120:(ends 61 120).length=120:=by unfold ends;rw[length_map];rfl'
  have A:∀ {p p1 p2 p3 q:Pos},(ev (M+7)).E kO (m5 w f o t .none []) Y (.Call (.Name "_law_end" p) [.Name "word" p1,.Name "_law_verbs" p2,.Name "first" p3] [] q)=some (.str (ah (ends 61 120) (w.drop f)),Y):=by
   intro p p1 p2 p3 q;exact iB (w:=w) (es:=ends 61 120) (low:=f) (by rw[l120];ext) (by rfl') hf (fun M hM=>au po) (fun M hM=>kf (by decide+kernel) (by decide+kernel) (by rfl') tW) (fun M hM=>au Bn)
  have ev':e9 w f=if ah (ends 61 120) (w.drop f)=[] then none else some (cut w (ah (ends 61 120) (w.drop f))):=rfl
  have le:=cX (es:=ends 61 120) (t:=w.drop f);rw[length_drop] at le;generalize ah (ends 61 120) (w.drop f)=g at*;generalize hv:e9 w f=vb at*;have C:∀ {p p2 q q2:Pos},(ev (M+5)).E kO (m5 w f o t .none [(("end",.str g):Str×V)]) Y (.Call (.Name "_law_cut" p) [.Name "word" p2,.Name "end" q2] [] q)=some (.str (cut w g),Y):=fun {p p2 q q2}=>lX (by ext) (by rfl') (by ext) rfl (au po) (au Ab)
  refine⟨[(("end",.str g):Str×V)],aq (bB rfl (bn (r:=true) rfl (au kC) (fi) rfl) rfl ?_) rfl⟩;refine ab rfl (bz rfl rfl (by rfl') A) ?_;rw[Ih];rw[←yc (v:=.none) (v':=nV vb)];refine aP rfl (bz rfl rfl (by rfl') (ku (c:=g==[]) rfl (bn rfl (au Ab) (dH wv) rfl) ?_));by_cases hg:g=[]
  ·rw[if_pos hg] at ev';rw[ev',show (g==[])=true from beq_iff_eq.mpr hg];exact fi
  ·rw[if_neg hg] at ev';rw[ev',show (g==[])=false from beq_eq_false_iff_ne.mpr hg];exact C
theorem AE:put (m5 w f o t v l) "word" (.str w')=m5 w' f o t v l:=by rfl'
theorem G1(h:List Nat)(f:Nat):t9 h f=if (h.drop (h.length-2)==[99,105]&&decide ((f:Int)≤(h.length:Int)-1))=true then h.take (h.length-1) else h:=by
 rw[qR];have e:gu h 105 99=(mR h h.length 0 105&&mR h (h.length-1) 0 99):=rfl;rw[e];unfold t9;cases hc:mR h h.length 0 105&&mR h (h.length-1) 0 99 with
 | false=>rw[if_neg (fun q=>by cases q.1),if_neg (by rw[Bool.false_and];decide)]
 | true=>
  have hp:0<h.length:=by rw[Bool.and_eq_true] at hc;exact ez hc.1
  rw[Bool.true_and];by_cases q:f≤h.length-1
  ·rw[if_pos ⟨rfl,q⟩,if_pos (ZT)]
  ·rw[if_neg (fun z=>q z.2),if_neg (fun z=>q (by have:=of_decide_eq_true z;ext))]
theorem P6(hN:100≤N):(ev N).S kO (m5 w f o t (nV (dM w f o t)) l) Y (ai aZ 6)=some (.next,m5 (dm w f o t) f o t (nV (dM w f o t)) l,Y):=by
 obtain⟨M,rfl⟩:∃ M,N=M+20:=⟨N-20,by ext⟩;cases ht:dM w f o t with
 | none=>
  have em:dm w f o t=aT w (ends 181 7) f:=by unfold dm;rw[ht]
  generalize dm w f o t=m at*;have l7':(ends 181 7).length=7:=by unfold ends;rw[length_map];rfl'
  have A:∀ {p p1 p2 p3 q:Pos},(ev (M+17)).E kO (m5 w f o t .none l) Y (.Call (.Name "_law_less" p) [.Name "word" p1,.Name "_law_last" p2,.Name "first" p3] [] q)=some (.str m,Y):=by
   intro p p1 p2 p3 q;rw[em];exact gr (by rw[l7'];ext) rfl (by rfl') (au po) (kf (by decide+kernel) (by decide+kernel) (by rfl') wk) (au Bn)
  refine aq (bB rfl (bn (r:=true) rfl (au kC) (fi) rfl) rfl ?_) rfl;rw[←AE (w:=w) (w':=m)];exact aP rfl (bz rfl rfl (by rfl') A)
 | some h=>
  have em:dm w f o t=t9 h f:=by unfold dm;rw[ht]
  generalize dm w f o t=m at*;rw[G1] at em;refine aq (gz rfl (bn (r:=false) rfl (au kC) (fi) rfl) rfl ?_) rfl;refine ab rfl (bz rfl rfl (by rfl') (au kC)) ?_;show (ev (M+18)).SS kO (put (m5 w f o t (.str h) l) "word" (.str h)) Y _=_;rw[AE];have T:∀ {p1 p2 p3 p4 p5 p6 p7 q2 q3 q4 q5 q6 q7 q8 q9:Pos} {k1 k2 k5:Nat},(ev (M+16)).T kO (m5 h f o t (.str h) l) Y (.BoolOp .And [.Compare (.Subscript (.Name "word" p1) (.Slice (some (.UnaryOp .USub (.Constant (.int 2) k1 p2) p3)) none none p4) p5) [.Eq] [.Constant (.str "ci") k2 p6] p7,
   .Compare (.BinOp (.Call (.Name "len" q2) [.Name "word" q3] [] q4) .Sub (.Constant (.int 1) k5 q5) q6) [.GtE] [.Name "first" q7] q8] q9)=some (h.drop (h.length-2)==[99,105]&&decide ((f:Int)≤(h.length:Int)-1),Y):=by
   intro p1 p2 p3 p4 p5 p6 p7 q2 q3 q4 q5 q6 q7 q8 q9 k1 k2 k5;rw[←EZ];exact js rfl (bn rfl (oq rfl (au po) (jm)) (dH (by rfl')) rfl) (fun _=>bn rfl (nW rfl (fF rfl (by rfl') (au po)) (aN)) (au Bn) rfl)
  refine aP rfl ?_;by_cases hc:(h.drop (h.length-2)==[99,105]&&decide ((f:Int)≤(h.length:Int)-1))=true
  ·rw[if_pos hc] at em;rw[em,←AE (w:=h) (w':=h.take (h.length-1))];refine bB rfl T hc (aP rfl (bz rfl rfl (by rfl') ?_));rw[←Jj];exact zW rfl (au po) (jm)
  ·rw[if_neg hc] at em;rw[em];exact bt rfl T (Bool.eq_false_iff.mpr hc)
end
end
section
variable {w w' e h t:List Nat}{f o u:Nat}{v v':V}{l:af}{Y:af}{M N:Nat}
theorem Pp:(("ã":Str)).cps.toList=[227]:=by rfl'
theorem Pu:(("a~":Str)).cps.toList=[97,126]:=by rfl'
theorem Po:(("õ":Str)).cps.toList=[245]:=by rfl'
theorem Pd:(("o~":Str)).cps.toList=[111,126]:=by rfl'
theorem xq(w:List Nat)(a:Nat):ap w a≤w.length:=Nat.min_le_right _ _
theorem OR{ρ:af}{sc:Scope}{o:Expr}{p1 p2 p3 p4 p5 p6 p7 p8:Pos}{k1 k2 k3 k4:Nat}(eN:N=M+2)(ho:(ev M).E sc ρ Y o=some (.str t,Y))(hl:t.length≤1000)
  (ok1:ax o [.Constant (.str "ã") k1 p1,.Constant (.str "a~") k2 p2] p3 p4=true)
  (ok2:ax (.Call (.Attribute o "replace" p3) [.Constant (.str "ã") k1 p1,.Constant (.str "a~") k2 p2] [] p4) [.Constant (.str "õ") k3 p5,.Constant (.str "o~") k4 p6] p7 p8=true):
  (ev N).E sc ρ Y (.Call (.Attribute (.Call (.Attribute o "replace" p3) [.Constant (.str "ã") k1 p1,.Constant (.str "a~") k2 p2] [] p4) "replace" p7) [.Constant (.str "õ") k3 p5,.Constant (.str "o~") k4 p6] [] p8)=some (.str (jH t),Y):=by
 have h1:=nI rfl ok1 ho (by decide+kernel) (by rw[Pp];decide) (by rw[Pu];show 3*t.length≤_;ext);rw[Pp,Pu] at h1;have l1:=iD [227] [97,126] t 0;have h2:=nI eN ok2 h1 (by decide+kernel) (by rw[Po];decide) (by rw[Pd];show 3*_≤_;have:(([97,126]:List Nat).length+1)*t.length=3*t.length:=rfl;ext);rw[Po,Pd,yM] at h2;exact h2
theorem Fa{ρ:af}{sc:Scope}{o:Expr}{p1 p2 p3 p4 p5 p6 p7 p8:Pos}{k1 k2 k3 k4:Nat}(eN:N=M+2)(ho:(ev M).E sc ρ Y o=some (.str t,Y))(hl:t.length≤1000)
  (ok1:ax o [.Constant (.str "a~") k1 p1,.Constant (.str "ã") k2 p2] p3 p4=true)
  (ok2:ax (.Call (.Attribute o "replace" p3) [.Constant (.str "a~") k1 p1,.Constant (.str "ã") k2 p2] [] p4) [.Constant (.str "o~") k3 p5,.Constant (.str "õ") k4 p6] p7 p8=true):
  (ev N).E sc ρ Y (.Call (.Attribute (.Call (.Attribute o "replace" p3) [.Constant (.str "a~") k1 p1,.Constant (.str "ã") k2 p2] [] p4) "replace" p7) [.Constant (.str "o~") k3 p5,.Constant (.str "õ") k4 p6] [] p8)=some (.str (vl t),Y):=by
 have h1:=nI rfl ok1 ho (by decide+kernel) (by rw[Pu];decide) (by rw[Pp];show 2*t.length≤_;ext);rw[Pu,Pp] at h1;have l1:=iD [97,126] [227] t 0;have h2:=nI (N:=N) (M:=M+1) eN ok2 h1 (by decide+kernel) (by rw[Pd];decide) (by rw[Po];show 2*_≤_;have:(([227]:List Nat).length+1)*t.length=2*t.length:=rfl;ext);rw[Pd,Po,rj] at h2;exact h2
theorem tV(hN:220≤N)(hl:t.length≤60):(ev N).C aZ [.str t] Y=some (.str (bR t),Y):=by
 obtain⟨M,rfl⟩:∃ M,N=M+12:=⟨N-12,by ext⟩;have wl:=rO t;have es:bR t=vl (mz (jH t)):=rfl;have ec:mz (jH t)=dQ (dm (jH t) (aQ (jH t)) (ap (jH t) 0) (ap (jH t) (ap (jH t) 0))) (aQ (jH t)):=rfl;have A:∀ {p1 p2 p3 p4 p5 p6 p7 p8 p9:Pos} {k1 k2 k3 k4:Nat} ok1 ok2,(ev (M+9)).E kO (m1 t []) Y (.Call (.Attribute (.Call (.Attribute (.Name "word" p9) "replace" p3) [.Constant (.str "ã") k1 p1,.Constant (.str "a~") k2 p2] [] p4) "replace" p7) [.Constant (.str "õ") k3 p5,.Constant (.str "o~") k4 p6] [] p8)=some (.str (jH t),Y):=fun {p1 p2 p3 p4 p5 p6 p7 p8 p9 k1 k2 k3 k4} ok1 ok2=>OR rfl (au po) (by ext) ok1 ok2
 have fl:=sY (jH t);have b1:=xq (jH t) 0;have ml:=pC (jH t) (aQ (jH t)) (ap (jH t) 0) (ap (jH t) (ap (jH t) 0));have cl:=sQ (jH t);rw[es];rw[ec] at cl ⊢;generalize jH t=w at*;have F:∀ {p p1 q:Pos},(ev (M+8)).E kO (m1 w []) Y (.Call (.Name "_law_first" p) [.Name "word" p1] [] q)=some (.int (aQ w),Y):=yt (by ext);have B1:∀ {p p1 q q2:Pos} {kk:Nat} {f:Nat},(ev (M+7)).E kO (m2 w f []) Y (.Call (.Name "_law_behind" p) [.Name "word" p1,.Constant (.int 0) kk q2] [] q)=some (.int (ap w 0),Y):=fun {p p1 q q2 kk f}=>pS (by ext) rfl (zero_le _) (aN)
 have B2:∀ {p p1 q q2:Pos} {f:Nat},(ev (M+6)).E kO (m3 w f (ap w 0) []) Y (.Call (.Name "_law_behind" p) [.Name "word" p1,.Name "one" q2] [] q)=some (.int (ap w (ap w 0)),Y):=fun {p p1 q q2 f}=>pS (by ext) rfl b1 (au K5)
 generalize ap w (ap w 0)=b2 at*;generalize ap w 0=c1 at*;generalize aQ w=f at*;have Nn:∀ {p p1 p2 p3 p4 q:Pos},(ev (M+5)).E kO (m4 w f c1 b2 []) Y (.Call (.Name "_law_noun" p) [.Name "word" p1,.Name "first" p2,.Name "one" p3,.Name "two" p4] [] q)=some (nV (dq w f c1 b2),Y):=Ce (by ext) (by ext);obtain⟨l',S5⟩:=Qx (w:=w) (f:=f) (o:=c1) (t:=b2) (Y:=Y) (N:=M+5) (by ext) fl;have S6:=P6 (w:=w) (f:=f) (o:=c1) (t:=b2) (l:=l') (Y:=Y) (N:=M+4) (by ext);generalize dm w f c1 b2=m at*;generalize dM w f c1 b2=td at*;generalize dq w f c1 b2=nn at*;have G:∀ {p p1 p2 q:Pos},(ev M).E kO (m5 m f c1 b2 (nV td) l') Y (.Call (.Name "_law_formed" p) [.Name "word" p1,.Name "first" p2] [] q)=some (.str (dQ m f),Y):=wU (by ext) (by ext);generalize dQ m f=g at*;refine bC (ρ:=m1 t []) (ρ':=m5 m f c1 b2 (nV td) l') rfl rfl rfl BM ?_;refine ab (Y':=Y) rfl (aq (bz rfl rfl (by rfl') (A ?a1 ?a2)) rfl) ?_
 ·rfl
 ·rfl
 rw[Q8];refine ab rfl (aq (bz rfl rfl (by rfl') F) rfl) ?_;rw[Q4];refine ab rfl (aq (bz rfl rfl (by rfl') B1) rfl) ?_;rw[PP];refine ab rfl (aq (bz rfl rfl (by rfl') B2) rfl) ?_;rw[Qm];refine ab rfl (aq (bz rfl rfl (by rfl') Nn) rfl) ?_;rw[Ek];refine ab rfl S5 ?_;refine ab rfl S6 ?_;refine aA rfl (aq (cA rfl (Fa rfl G (by ext) ?a3 ?a4)) rfl)
 ·rfl
 ·rfl
end
section
set_option tactic.hygienic false
theorem uQ{sc:Scope}{ρ Y:af}{N:Nat}{e:Expr}{x:Str}(hN:1≤N):(ev N).L sc ρ Y e x []=some ([],Y):=by
 obtain⟨n,rfl⟩:=xle hN;rfl
theorem rC{sc:Scope}{ρ Y Y' Y'':af}{N M:Nat}{e:Expr}{x:Str}{v:V}{rest ys:List V}{y:List Nat}(eN:N=M+1)(h:(ev M).E sc ((x,v) :: ρ) Y e=some (.str y,Y'))(hs:ch Y'=true)(k:(ev M).L sc ρ Y' e x rest=some (ys,Y'')):(ev N).L sc ρ Y e x (v :: rest)=some (.str y :: ys,Y''):=by
 subst eN;show (match (ev M).E sc ((x,v) :: ρ) Y e with
     | some (.str y,Y)=>bif ch Y then
       (match (ev M).L sc ρ Y e x rest with
       | some (ys,Y)=>some (V.str y :: ys,Y)
       | none=>none)
      else none
     | _=>none)=_
 rw[h];dsimp only;rw[hs,cond_true,k]
section
variable {sc:Scope}{ρ Y:af}{M N:Nat}
theorem eQ{a b:Expr}{op:Operator}{p:Pos}{x y v:V}(e:N=M+1)(ha:(ev M).E sc ρ Y a=some (x,Y))(hb:(ev M).E sc ρ Y b=some (y,Y))(hv:pJ op x y=some v):(ev N).E sc ρ Y (.BinOp a op b p)=some (v,Y):=by
 subst e;show (match (ev M).E sc ρ Y a with
     | some (x,Y)=>match (ev M).E sc ρ Y b with
      | some (y,Y)=>(pJ op x y).map fun v=>(v,Y)
      | none=>none
     | none=>none)=_
 rw[ha];dsimp only;rw[hb];dsimp only;rw[hv];rfl
theorem eV{a i:Expr}{p:Pos}{x y v:V}(e:N=M+1)(hi:∀ l u q,i≠.Slice l u none q)(ha:(ev M).E sc ρ Y a=some (x,Y))(hb:dU a x=true)(he:(ev M).E sc ρ Y i=some (y,Y))(hv:dn x y=some v):(ev N).E sc ρ Y (.Subscript a i p)=some (v,Y):=by
 subst e;have:(ev (M+1)).E sc ρ Y (.Subscript a i p)=(match (ev M).E sc ρ Y a with
     | some (a',Y)=>bif dU a a' then (match (ev M).E sc ρ Y i with
      | some (b,Y)=>(dn a' b).map fun v=>(v,Y)
      | none=>none) else none
     | none=>none):=by
  induction i using zX with
  | Slice l u s q=>
   induction s using zO with
   | none=>exact absurd rfl (hi l u q)
   | some s=>rfl
  | _=>rfl
 rw[this,ha];dsimp only;rw[hb,he];show (dn x y).map _=_;rw[hv];rfl
theorem io{a:Expr}{p q:Pos}{l:List V}(e:N=M+1)(hk:sc.names.lookup ("len":Str)=some .globalImplicit)(ha:(ev M).E sc ρ Y a=some (.list l,Y))(hM:1≤M:=by ext):(ev N).E sc ρ Y (.Call (.Name "len" p) [a] [] q)=some (.int l.length,Y):=by
 subst e;show (match (ev M).E sc ρ Y (.Name "len" p) with
     | some (.addr a',Y)=>match eX a' with
      | some f=>match dl (ev M).E sc ρ Y [a] with
       | some (vs,Y)=>(ev M).C f vs Y
       | none=>none
      | none=>none
     | some (f,Y)=>match dl (ev M).E sc ρ Y [a] with
      | some (vs,Y)=>(fs f vs).map fun v=>(v,Y)
      | none=>none
     | none=>none)=_
 rw[kf (hN:=hM) (by decide+kernel) (by decide+kernel) hk (show glob "len"=some (.bi "len") by rfl')];dsimp only;rw[ei ha];rfl
theorem pick{L:List (List Nat)}{B:Nat}(hL:∀ x∈L,x.length≤B)(h0:0<L.length)(z:Int):∃ s,dn (.list (L.map V.str)) (.int (z.fmod (L.map V.str).length))=some (.str s)∧s.length≤B:=by
 have l0:(0:Int)<(L.map V.str).length:=by rw[length_map];ext
 have a:=Int.fmod_nonneg_of_pos z l0;have b:=Int.fmod_lt_of_pos z l0;generalize hi:z.fmod (L.map V.str).length=i at*;have pl:cF (L.map V.str).length i=some i.toNat:=by
  unfold cF;rw[decide_eq_true a,decide_eq_true b];rfl
 have ilt:i.toNat<L.length:=by rw[length_map] at b;ext
 refine⟨L[i.toNat],?_,hL _ (List.getElem_mem ilt)⟩;show (cF (L.map V.str).length i).bind (fun k=>(L.map V.str)[k]?)=_;rw[pl];show (L.map V.str)[i.toNat]?=_;rw[List.getElem?_map,List.getElem?_eq_getElem ilt];rfl
theorem hU{a b:Int}(h:0<b):pJ .Mod (.int a) (.int b)=some (.int (a.fmod b)):=by
 show (bif decide (0<b) then some (V.int (a.fmod b)) else none)=_;rw[decide_eq_true h];rfl
theorem div_pos{a b:Int}(h:0<b):pJ .FloorDiv (.int a) (.int b)=some (.int (a.fdiv b)):=by
 show (bif decide (0<b) then some (V.int (a.fdiv b)) else none)=_;rw[decide_eq_true h];rfl
theorem G6{k:Nat}(h:k≤4):pJ .Pow (.int 64) (.int k)=some (.int (64 ^ k)):=by
 show (bif decide ((64:Int)=64)&&(decide ((0:Int)≤k)&&decide ((k:Int)≤4)) then some (V.int (64 ^ (k:Int).toNat)) else none)=_;rw[decide_eq_true rfl,decide_eq_true (show (0:Int)≤k by ext),decide_eq_true (show (k:Int)≤4 by ext)];rfl
end
noncomputable def hR:List (List Nat):=[[97],[98],[99],[100],[101],[102],[103],[104],[105],[106],[108],[109],[110],[111],[112],[113],[114],[115],[116],[117],[118],[120],[122],[225],[226],[227],[231],[233],[234],[237],[243],[244],[245],[250],[107],[119],[121],[224],[252]]
theorem tX{Y:af}{N:Nat}(hN:6≤N):(ev N).C dG [] Y=some (.list (hR.map V.str),Y):=by
 obtain⟨n,rfl⟩:=xle hN;rfl'
noncomputable def oP:List (List Nat):=["gu", "gue", "ci", "cia", "qu", "lh", "nh", "rr", "ss", "ão", "ões", "ã", "prat", "cas", "te", "abil", "at", "ic", "iv", "os", "ad", "logia", "ua", "ei", "pe", "mulher"].map fun s=>(Str.ofString s).cps.toList
theorem wN{Y:af}{N:Nat}(hN:6≤N):(ev N).C eA [] Y=some (.list (oP.map V.str),Y):=by
 obtain⟨n,rfl⟩:=xle hN;rfl'
theorem nY{L:List (List Nat)}{B:Nat}(h:L.all (fun x=>Nat.ble x.length B)=true):∀ x∈L,x.length≤B:=fun x hx=>le_of_ble_eq_true (List.all_eq_true.mp h x hx)
theorem sS:∀ x∈hR,x.length≤1:=nY (by decide+kernel)
theorem wE:∀ x∈oP,x.length≤7:=nY (by decide+kernel)
abbrev mY:Scope:=aJ bO.st
structure WSt(ρ:af)(w:List Nat)(E:List (List Nat)):Prop where
 w:look ρ "word"=some (.str w)
 e:look ρ "ends"=some (.list (E.map V.str))
structure qr(ρ:af)(w:List Nat)(E:List (List Nat))(f:Int):Prop extends WSt ρ w E where
 f:look ρ "free"=some (.int f)
theorem cJ{ρ:af}{a b:Str}{v:V}(h:b≠a):look (put ρ a v) b=look ρ b:=by rw[d9,if_neg h]
theorem ic{ρ:af}{a:Str}{v:V}:look (put ρ a v) a=some v:=by rw[d9,if_pos rfl]
section
variable {ρ Y:af}{w w':List Nat}{E:List (List Nat)}{f z:Int}{v:V}{M N:Nat}
theorem WSt.num(h:WSt ρ w E):WSt (put ρ "number" v) w E:=⟨(cJ (by decide+kernel)).trans h.w,(cJ (by decide+kernel)).trans h.e⟩
theorem WSt.fr(h:WSt ρ w E):qr (put ρ "free" (.int f)) w E f:=⟨⟨(cJ (by decide+kernel)).trans h.w,(cJ (by decide+kernel)).trans h.e⟩,ic⟩
theorem qr.k(h:qr ρ w E f):qr (put ρ "k" v) w E f:=⟨⟨(cJ (by decide+kernel)).trans h.w,(cJ (by decide+kernel)).trans h.e⟩,(cJ (by decide+kernel)).trans h.f⟩
theorem qr.wd(h:qr ρ w E f):qr (put ρ "word" (.str w')) w' E f:=⟨⟨ic,(cJ (by decide+kernel)).trans h.e⟩,(cJ (by decide+kernel)).trans h.f⟩
theorem Dp:mY.names.lookup ("word":Str)=some .local:=by rfl'
theorem P7:mY.names.lookup ("k":Str)=some .local:=by rfl'
theorem QP:mY.names.lookup ("number":Str)=some .local:=by rfl'
theorem AI:mY.names.lookup ("range":Str)=some .globalImplicit:=by rfl'
theorem uF:mY.names.lookup ("_law_letters":Str)=some .globalImplicit:=by rfl'
theorem yC:mY.names.lookup ("_law_parts":Str)=some .globalImplicit:=by rfl'
theorem uD:eX 943=some dG:=by rfl'
theorem uR:glob "_law_letters"=some (.addr 943):=by rfl'
theorem BF:eX 950=some eA:=by rfl'
theorem BN:glob "_law_parts"=some (.addr 950):=by rfl'
theorem qr.vw(h:qr ρ w E f):VL mY ρ "word" (.str w):=⟨by decide+kernel,by decide+kernel,by rfl',h.w⟩
theorem qr.ve(h:qr ρ w E f):VL mY ρ "ends" (.list (E.map V.str)):=⟨by decide+kernel,by decide+kernel,by rfl',h.e⟩
theorem qr.vf(h:qr ρ w E f):VL mY ρ "free" (.int f):=⟨by decide+kernel,by decide+kernel,by rfl',h.f⟩
theorem SO(h:look ρ "number"=some (.int z)):VL mY ρ "number" (.int z):=⟨by decide+kernel,by decide+kernel,by rfl',h⟩
theorem Th(h:look ρ "k"=some (.int z)):VL mY ρ "k" (.int z):=⟨by decide+kernel,by decide+kernel,by rfl',h⟩
theorem oS{p q:Pos}(hN:8≤N):(ev N).E mY ρ Y (.Call (.Name "_law_letters" p) [] [] q)=some (.list (hR.map V.str),Y):=by
 obtain⟨M,rfl⟩:∃ M,N=M+1:=⟨N-1,by ext⟩;exact fa rfl (by decide+kernel) (by decide+kernel) uF uR uD rfl (tX (by ext))
theorem tg{p q:Pos}(hN:8≤N):(ev N).E mY ρ Y (.Call (.Name "_law_parts" p) [] [] q)=some (.list (oP.map V.str),Y):=by
 obtain⟨M,rfl⟩:∃ M,N=M+1:=⟨N-1,by ext⟩;exact fa rfl (by decide+kernel) (by decide+kernel) yC BN BF rfl (wN (by ext))
inductive oH:List Stmt→Prop
 | mk {p1 p2 p3 p4 p5 p6 p7 p8 p9 p10 p11 p12 p13 p14 p15 p16 p17 p18 p19 p20 p21 p22:Pos} {k1 k2 k3:Nat}:
  oH [.Assign [.Name "word" p1] (.BinOp (.Name "word" p2) .Add (.Subscript (.Call (.Name "_law_letters" p3) [] [] p4)
   (.BinOp (.BinOp (.BinOp (.BinOp (.Name "free" p5) .FloorDiv (.Constant (.int 5) k1 p6) p7) .FloorDiv (.BinOp (.Constant (.int 64) k2 p8) .Pow (.Name "k" p9) p10) p11) .Mod (.Constant (.int 64) k3 p12) p13) .Mod (.Call (.Name "len" p14) [.Call (.Name "_law_letters" p15) [] [] p16] [] p17) p18) p19) p20) p21]
theorem t6{b:List Stmt}(sh:oH b)(hN:40≤N)(H:qr ρ w E f){k:Nat}(hk:look ρ "k"=some (.int k))(k4:k≤4)(hw:w.length≤1000):∃ s,s.length≤1∧(ev N).SS mY ρ Y b=some (.next,put ρ "word" (.str (w++s)),Y):=by
 obtain⟨M,rfl⟩:∃ M,N=M+20:=⟨N-20,by ext⟩;obtain⟨s,hs,ls⟩:=pick sS (by decide) (((f.fdiv 5).fdiv (64 ^ k)).fmod 64);have L0:(0:Int)<(hR.map V.str).length:=by decide
 have P0:(0:Int)<64 ^ k:=Int.pow_pos (by ext);refine⟨s,ls,?_⟩;cases sh with
 | mk=>
  refine aP rfl (bz rfl rfl Dp (iw rfl (au H.vw) (eV (x:=.list (hR.map V.str)) rfl (fun _ _ _ q=>by cases q) (oS (by ext)) rfl ?_ hs) (by rw[length_append];ext)));refine eQ rfl ?_ (io rfl (by rfl') (oS (by ext))) (hU L0);refine eQ rfl ?_ (aN) (hU (by ext));refine eQ rfl (eQ rfl (au H.vf) (aN) (div_pos (by ext))) (eQ rfl (aN) (au (Th hk)) (G6 k4)) (div_pos P0)
theorem mn{b:List Stmt}(sh:oH b):∀ (n a N:Nat) (ρ:af) (w:List Nat),a+n≤5→n+45≤N→qr ρ w E f→w.length+n≤1000→∃ ρ' w',(ev N).F mY ρ Y "k" (bg a 1 n) b=some (.next,ρ',Y)∧qr ρ' w' E f∧w'.length≤w.length+n
 | 0,a,N,ρ,w,_,hN,H,hw=>⟨ρ,w,rp (by ext),H,le_refl _⟩
 | n+1,a,N,ρ,w,ha,hN,H,hw=>by
  obtain⟨M,rfl⟩:∃ M,N=M+1:=⟨N-1,by ext⟩;obtain⟨s,ls,T⟩:=t6 (Y:=Y) sh (N:=M) (by ext) (H.k (v:=.int a)) ic (by ext) (by ext);have lw:(w++s).length≤w.length+1:=by rw[length_append];ext
  obtain⟨ρ',w',q,H',hw'⟩:=mn sh n (a+1) M _ (w++s) (by ext) (by ext) ((H.k (v:=.int a)).wd (w':=w++s)) (by ext);exact⟨ρ',w',nN rfl T q,H',by ext⟩
inductive t0(x:Str)(b:List Stmt):Stmt→Prop
 | mk {p1 p2 p3 p4 p5 p6 p7:Pos} {k:Nat}:t0 x b (.For (.Name x p1) (.Call (.Name "range" p2) [.BinOp (.Name "free" p3) .Mod (.Constant (.int 5) k p4) p5] [] p6) b [] p7)
theorem uA{b:List Stmt}{st:Stmt}(sb:oH b)(sh:t0 "k" b st)(hN:60≤N)(H:qr ρ w E f)(hw:w.length≤900):∃ ρ' w',(ev N).S mY ρ Y st=some (.next,ρ',Y)∧qr ρ' w' E f∧w'.length≤w.length+5:=by
 obtain⟨M,rfl⟩:∃ M,N=M+1:=⟨N-1,by ext⟩;have a:=Int.fmod_nonneg_of_pos f (show (0:Int)<5 by ext);have b':=Int.fmod_lt_of_pos f (show (0:Int)<5 by ext);obtain⟨ρ',w',q,H',hw'⟩:=mn (Y:=Y) sb (f.fmod 5).toNat 0 M ρ w (by ext) (by ext) H (by ext);refine⟨ρ',w',?_,H',by ext⟩;cases sh with
 | @mk p1 p2 p3 p4 p5 p6 p7 k=>
  have A:dl (ev M).E mY ρ Y [.BinOp (.Name "free" p3) .Mod (.Constant (.int 5) k p4) p5]=some ([.int (f.fmod 5)],Y):=ei (by
   obtain⟨K,rfl⟩:∃ K,M=K+1:=⟨M-1,by ext⟩;exact eQ rfl (au H.vf) (aN) (hU (by ext)))
  have R:cD 0 (f.fmod 5) 1=some (bg ((0:Nat):Int) 1 (f.fmod 5).toNat):=by
   generalize f.fmod 5=g at*;unfold cD DR;rw[decide_eq_true (show (-2097152:Int)≤0 by ext),decide_eq_true (show (0:Int)≤2097152 by ext),decide_eq_true (show (-2097152:Int)≤g by ext),decide_eq_true (show g≤2097152 by ext),decide_eq_true (show (1:Int)=1 from rfl),Int.sub_zero];rfl
  exact oj rfl P7 (kH AI A rfl R) q
end
end
section
variable {ρ Y:af}{w w':List Nat}{E:List (List Nat)}{f z:Int}{v:V}{M N:Nat}
inductive tP:List Stmt→Prop
 | mk {p1 p2 p3 p4 p5 p6 p7 p8 p9 p10 p11:Pos}:tP [.Assign [.Name "word" p1] (.BinOp (.Name "word" p2) .Add (.Subscript (.Name "ends" p3) (.BinOp (.Name "free" p4) .Mod (.Call (.Name "len" p5) [.Name "ends" p6] [] p7) p8) p9) p10) p11]
theorem CC{b:List Stmt}(sh:tP b)(hN:40≤N)(H:qr ρ w E f)(hE:∀ x∈E,x.length≤7)(h0:0<E.length)(hw:w.length≤1000):∃ s,s.length≤7∧(ev N).SS mY ρ Y b=some (.next,put ρ "word" (.str (w++s)),Y):=by
 obtain⟨M,rfl⟩:∃ M,N=M+20:=⟨N-20,by ext⟩;obtain⟨s,hs,ls⟩:=pick hE h0 f;have L0:(0:Int)<(E.map V.str).length:=by rw[length_map];ext
 refine⟨s,ls,?_⟩;cases sh with
 | mk=>
  refine aP rfl (bz rfl rfl Dp (iw rfl (au H.vw) (eV (x:=.list (E.map V.str)) rfl (fun _ _ _ q=>by cases q) (au H.ve) rfl ?_ hs) (by rw[length_append];ext)));exact eQ rfl (au H.vf) (io rfl (by rfl') (au H.ve)) (hU L0)
inductive oJ:List Stmt→Prop
 | mk {p1 p2 p3 p4 p5 p6 p7 p8 p9 p10 p11 p12 p13:Pos}:oJ [.Assign [.Name "word" p1] (.BinOp (.Name "word" p2) .Add (.Subscript (.Call (.Name "_law_parts" p3) [] [] p12) (.BinOp (.Name "free" p4) .Mod (.Call (.Name "len" p5) [.Call (.Name "_law_parts" p6) [] [] p13] [] p7) p8) p9) p10) p11]
theorem yR{b:List Stmt}(sh:oJ b)(hN:40≤N)(H:qr ρ w E f)(hw:w.length≤1000):∃ s,s.length≤7∧(ev N).SS mY ρ Y b=some (.next,put ρ "word" (.str (w++s)),Y):=by
 obtain⟨M,rfl⟩:∃ M,N=M+20:=⟨N-20,by ext⟩;obtain⟨s,hs,ls⟩:=pick wE (by decide+kernel) f;have L0:(0:Int)<(oP.map V.str).length:=by decide+kernel
 refine⟨s,ls,?_⟩;cases sh with
 | mk=>
  refine aP rfl (bz rfl rfl Dp (iw rfl (au H.vw) (eV (x:=.list (oP.map V.str)) rfl (fun _ _ _ q=>by cases q) (tg (by ext)) rfl ?_ hs) (by rw[length_append];ext)));exact eQ rfl (au H.vf) (io rfl (by rfl') (tg (by ext))) (hU L0)
inductive su:List Stmt→Prop
 | mk {b1 b2 b3:List Stmt} {st:Stmt} (h1:oH b1) (h2:t0 "k" b1 st) (h3:tP b2) (h4:oJ b3) {p1 p2 p3 p4 p5 p6 p7 p8 p9 p10 p11 p12 p13 p14 p15 p16 p17 p18:Pos} {k1 k2 k3 k4 k5:Nat}:
  su [.Assign [.Name "free" p1] (.BinOp (.Name "number" p2) .FloorDiv (.Constant (.int 3) k1 p3) p4) p5,
   .If (.Compare (.BinOp (.Name "number" p6) .Mod (.Constant (.int 3) k2 p7) p8) [.Eq] [.Constant (.int 0) k3 p9] p10) [st]
    [.If (.Compare (.BinOp (.Name "number" p11) .Mod (.Constant (.int 3) k4 p12) p13) [.Eq] [.Constant (.int 1) k5 p14] p15) b2 b3 p16] p17]
def uB:List Stmt:=dj (ai bO 1)
theorem Iv:oH (dj (aG (dj (aG uB 1)) 0)):=oH.mk (p22:=default)
theorem FV:t0 "k" (dj (aG (dj (aG uB 1)) 0)) (aG (dj (aG uB 1)) 0):=t0.mk
theorem CP:tP (dj (aG (E2 (aG uB 1)) 0)):=tP.mk
theorem DW:oJ (E2 (aG (E2 (aG uB 1)) 0)):=oJ.mk
theorem Ho:su uB:=su.mk (p18:=default) Iv FV CP DW
theorem BU{b:List Stmt}(sh:su b)(hN:80≤N)(H:WSt ρ w E)(hn:look ρ "number"=some (.int z))(hE:∀ x∈E,x.length≤7)(h0:0<E.length)(hw:w.length≤800):∃ ρ' w',(ev N).SS mY ρ Y b=some (.next,ρ',Y)∧WSt ρ' w' E∧w'.length≤w.length+7:=by
 obtain⟨M,rfl⟩:∃ M,N=M+10:=⟨N-10,by ext⟩;have H1:=H.fr (f:=z.fdiv 3);have hn1:look (put ρ "free" (.int (z.fdiv 3))) "number"=some (.int z):=(cJ (by decide+kernel)).trans hn;cases sh with
 | mk h1 h2 h3 h4=>
  rename_i b1 b2 b3 st p1 p2 p3 p4 p5 p6 p7 p8 p9 p10 p11 p12 p13 p14 p15 p16 p17 p18 k1 k2 k3 k4 k5;have F:(ev (M+9)).S mY ρ Y (.Assign [.Name "free" p1] (.BinOp (.Name "number" p2) .FloorDiv (.Constant (.int 3) k1 p3) p4) p5)=some (.next,put ρ "free" (.int (z.fdiv 3)),Y):=bz rfl rfl (by rfl') (eQ rfl (au (SO hn)) (aN) (div_pos (by ext)));have T:∀ {m:Int} {k k':Nat} {p q r s t:Pos} {K:Nat},10≤K→(ev K).T mY (put ρ "free" (.int (z.fdiv 3))) Y (.Compare (.BinOp (.Name "number" p) .Mod (.Constant (.int 3) k q) r) [.Eq] [.Constant (.int m) k' s] t)=some (decide (z.fmod 3=m),Y):=fun {m k k' p q r s t K} hK=>by
   obtain⟨K,rfl⟩:∃ K',K=K'+3:=⟨K-3,by ext⟩;exact bn rfl (eQ rfl (au (SO hn1)) (aN) (hU (by ext))) (aN) rfl
  by_cases q:z.fmod 3=0
  ·obtain⟨ρ',w',a,a2,a3⟩:=uA (Y:=Y) (N:=M+6) h1 h2 (by ext) H1 (by ext);refine⟨ρ',w',?_,a2.toWSt,by ext⟩;exact ab rfl F (aP rfl (bB rfl (T (by ext)) (decide_eq_true q) (aP rfl a)))
  ·by_cases q2:z.fmod 3=1
   ·obtain⟨s,ls,a⟩:=CC (Y:=Y) (N:=M+5) h3 (by ext) H1 hE h0 (by ext);refine⟨_,w++s,?_,(H1.wd (w':=w++s)).toWSt,by rw[length_append];ext⟩;exact ab rfl F (aP rfl (gz rfl (T (by ext)) (decide_eq_false q) (aP rfl (bB rfl (T (by ext)) (decide_eq_true q2) a))))
   ·obtain⟨s,ls,a⟩:=yR (Y:=Y) (N:=M+5) h4 (by ext) H1 (by ext);refine⟨_,w++s,?_,(H1.wd (w':=w++s)).toWSt,by rw[length_append];ext⟩;exact ab rfl F (aP rfl (gz rfl (T (by ext)) (decide_eq_false q) (aP rfl (gz rfl (T (by ext)) (decide_eq_false q2) a))))
theorem tq{b:List Stmt}(sh:su b)(hE:∀ x∈E,x.length≤7)(h0:0<E.length):∀ (nums:List Int) (N:Nat) (ρ:af) (w:List Nat),nums.length+85≤N→WSt ρ w E→w.length+7*nums.length≤700→∃ ρ' w',(ev N).F mY ρ Y "number" (nums.map V.int) b=some (.next,ρ',Y)∧WSt ρ' w' E∧w'.length≤w.length+7*nums.length
 | [],N,ρ,w,hN,H,hw=>⟨ρ,w,rp (by ext),H,by ext⟩
 | z :: r,N,ρ,w,hN,H,hw=>by
  rw[length_cons] at hN hw;obtain⟨M,rfl⟩:∃ M,N=M+1:=⟨N-1,by ext⟩;obtain⟨l1,w1,T,H1,lw⟩:=BU (Y:=Y) sh (N:=M) (by ext) (H.num (v:=.int z)) ic hE h0 (by ext);obtain⟨ρ',w',q,H',hw'⟩:=tq sh hE h0 r M l1 w1 (by ext) H1 (by ext);refine⟨ρ',w',?_,H',by rw[length_cons];ext⟩;rw[map_cons];exact nN rfl T q
theorem uO:br bO.st=[ai bO 0,ai bO 1,ai bO 2]:=by rfl'
theorem xY:qn "number" "numbers" uB (ai bO 1):=qn.mk
theorem tt{nums:List Int}(hN:100≤N)(hl:nums.length≤4)(hE:∀ x∈E,x.length≤7)(h0:0<E.length):∃ t,t.length≤28∧(ev N).C bO [.list (nums.map V.int),.list (E.map V.str)] Y=some (.str t,Y):=by
 obtain⟨M,rfl⟩:∃ M,N=M+6:=⟨N-6,by ext⟩;have H0:WSt (put [("numbers",.list (nums.map V.int)),("ends",.list (E.map V.str))] "word" (.str [])) [] E:=⟨by rfl',by rfl'⟩;have NL:VL mY (put [("numbers",.list (nums.map V.int)),("ends",.list (E.map V.str))] "word" (.str [])) "numbers" (.list (nums.map V.int)):=(ba (by rfl'));obtain⟨ρ',t,q,H',lt⟩:=tq (Y:=Y) Ho hE h0 nums (M+2) _ _ (by ext) H0 (by rw[List.length_nil];ext);rw[List.length_nil] at lt;refine⟨t,by ext,bC rfl rfl rfl uO (ρ:=[("numbers",.list (nums.map V.int)),("ends",.list (E.map V.str))]) (ρ':=ρ') ?_⟩;refine ab rfl (aq (bz rfl rfl Dp (dH wv)) rfl) ?_;refine ab rfl (Fc xY rfl (by ext) QP NL q) ?_;have VW:VL mY ρ' "word" (.str t):=⟨by decide+kernel,by decide+kernel,by rfl',H'.w⟩;exact aA rfl (aq (cA rfl (au VW)) rfl)
end
section
set_option tactic.hygienic false
section
variable {sc:Scope}{ρ Y Y':af}{M N:Nat}
theorem qX{elt it:Expr}{x:Str}{p q:Pos}{csc:Scope}{xs vs:List V}(e:N=M+1)(hi:fj (ev M).E sc ρ Y it=some (xs,Y))(ok:dk sc ρ csc x=true)(hs:ch Y=true)(hl:xs.length≤1048576)(h:(ev M).L (cq sc csc) (cf csc ρ) Y elt x xs=some (vs,Y')):(ev N).E sc ρ Y (.ListComp elt [⟨.Name x p,it,[],0⟩] csc q)=some (.list vs,Y'):=by
 subst e;show (match fj (ev M).E sc ρ Y it with
     | some (xs,Y)=>bif dk sc ρ csc x&&(ch Y&&Nat.ble xs.length 1048576) then
       (match (ev M).L (cq sc csc) (cf csc ρ) Y elt x xs with
       | some (vs,Y)=>some (V.list vs,Y)
       | none=>none)
      else none
     | none=>none)=_
 rw[hi];dsimp only;rw[ok,hs,ble_eq_true_of_le hl];show (match (ev M).L (cq sc csc) (cf csc ρ) Y elt x xs with
       | some (vs,Y)=>some (V.list vs,Y)
       | none=>none)=_
 rw[h]
theorem lo{y:Str}{p:Pos}{xs:List V}(hN:1≤N)(hv:VL sc ρ y (.list xs)):fj (ev N).E sc ρ Y (.Name y p)=some (xs,Y):=by
 show (match (ev N).E sc ρ Y (.Name y p) with
  | some (.list xs,Y)=>some (xs,Y)
  | _=>none)=_
 rw[au (hN:=hN) hv]
theorem A3{elt:Expr}{x:Str}{g:List Nat→List Nat}{K:Nat}(hs:ch Y=true):∀ (xs:List (List Nat)) (N:Nat),(∀ t∈xs,∀ M,K≤M→(ev M).E sc ((x,.str t) :: ρ) Y elt=some (.str (g t),Y))→xs.length+K+1≤N→(ev N).L sc ρ Y elt x (xs.map V.str)=some ((xs.map g).map V.str,Y)
 | [],N,_,hN=>uQ (by ext)
 | t :: r,N,h,hN=>by
  rw[length_cons] at hN;obtain⟨M,rfl⟩:∃ M,N=M+1:=⟨N-1,by ext⟩;rw[map_cons,map_cons,map_cons];exact rC rfl (h t (.head _) M (by ext)) hs (A3 hs r M (fun t' ht=>h t' (.tail _ ht)) (by ext))
theorem n8{a b:Expr}{p:Pos}{x y:List (List Nat)}(e:N=M+1)(ha:(ev M).E sc ρ Y a=some (.list (x.map V.str),Y))(hb:(ev M).E sc ρ Y b=some (.list (y.map V.str),Y))(hs:x.length+y.length≤1048576):(ev N).E sc ρ Y (.BinOp a .Add b p)=some (.list ((x++y).map V.str),Y):=by
 refine eQ e ha hb ?_;show (bif Nat.ble ((x.map V.str).length+(y.map V.str).length) dZ then some (V.list (x.map V.str++y.map V.str)) else none)=_;rw[length_map,length_map,ble_eq_true_of_le (show x.length+y.length≤dZ from hs),List.map_append];rfl
end
def ft:List (List Nat):=ends 16 45++ends 61 120++ends 181 7++ends 188 4
def dR:List (List Nat):=ft.map vl
theorem wB:∀ x∈ft,x.length≤9:=nY (by rfl')
theorem AB:∀ x∈dR,x.length≤7:=nY (by rfl')
theorem M1:(ends 16 45).length=45:=by rfl'
theorem HH:(ends 61 120).length=120:=by rfl'
theorem PB:(ends 181 7).length=7:=by rfl'
theorem Q9:(ends 188 4).length=4:=by rfl'
theorem vW:ft.length=176:=by rfl'
theorem FK:0<dR.length:=by unfold dR;rw[length_map,vW];ext
abbrev Bj:Scope:=aJ bH.st
theorem Dg:glob "_law_form"=some (.list ((ends 188 4).map V.str)):=by rfl'
theorem yo:Bj.names.lookup ("_law_nouns":Str)=some .globalImplicit:=by rfl'
theorem CQ:Bj.names.lookup ("list":Str)=some .globalImplicit:=by rfl'
theorem Bc:Bj.names.lookup ("_law_verbs":Str)=some .globalImplicit:=by rfl'
theorem Dh:Bj.names.lookup ("_law_last":Str)=some .globalImplicit:=by rfl'
theorem DF:Bj.names.lookup ("_law_form":Str)=some .globalImplicit:=by rfl'
theorem Ba:Bj.names.lookup ("found":Str)=some .local:=by rfl'
theorem x6:br bH.st=[ai bH 0,ai bH 1]:=by rfl'
def Qz:Scope:=cI (bo (ai bH 1))
theorem Cb:(cq Bj Qz).names.lookup ("end":Str)=some .local:=by rfl'
theorem GI(l:af):dk Bj l Qz "end"=true:=by rfl'
noncomputable def fL(v:V):af:=[("found",v)]
inductive yr:Stmt→Prop
 | mk {p1 p2 p3 p4 p5 p6 p7 p8 p9 p10 p11 p12 p13:Pos} {k1 k2 k3 k4:Nat}
  (ok1:ax (.Name "end" p9) [.Constant (.str "a~") k1 p1,.Constant (.str "ã") k2 p2] p3 p4=true)
  (ok2:ax (.Call (.Attribute (.Name "end" p9) "replace" p3) [.Constant (.str "a~") k1 p1,.Constant (.str "ã") k2 p2] [] p4) [.Constant (.str "o~") k3 p5,.Constant (.str "õ") k4 p6] p7 p8=true):
  yr (.Return (some (.ListComp (.Call (.Attribute (.Call (.Attribute (.Name "end" p9) "replace" p3) [.Constant (.str "a~") k1 p1,.Constant (.str "ã") k2 p2] [] p4) "replace" p7) [.Constant (.str "o~") k3 p5,.Constant (.str "õ") k4 p6] [] p8) [⟨.Name "end" p10,.Name "found" p11,[],0⟩] Qz p12)) p13)
theorem G3:yr (ai bH 1):=yr.mk rfl rfl
theorem te{Y:af}{N:Nat}(hN:250≤N)(hs:ch Y=true):(ev N).C bH [] Y=some (.list (dR.map V.str),Y):=by
 obtain⟨M,rfl⟩:∃ M,N=M+12:=⟨N-12,by ext⟩;have VF:∀ L:List (List Nat),VL Bj (fL (.list (L.map V.str))) "found" (.list (L.map V.str)):=fun L=>(ba (by rfl'))
 have R:(ev (M+9)).S Bj (fL (.list (ft.map V.str))) Y (ai bH 1)=some (Fl.ret (V.list (dR.map V.str)),(fL (.list (ft.map V.str))),Y):=by
  have sh:=G3;generalize ai bH 1=st at sh;have fl:=wB;have fn:=vW;unfold dR;generalize ft=L at*;cases sh with
  | mk ok1 ok2=>
   refine cA rfl (qX (xs:=L.map V.str) rfl (lo (by ext) (VF L)) (GI _) hs (by rw[length_map];ext) ?_);refine A3 (K:=20) hs L (M+7) (fun t ht K hK=>?_) (by ext);obtain⟨K,rfl⟩:∃ K',K=K'+2:=⟨K-2,by ext⟩;have:=fl t ht;exact Fa rfl (au ⟨by decide+kernel,by decide+kernel,Cb,by unfold look;exact if_pos rfl⟩) (by ext) ok1 ok2
 refine bC (ρ:=[]) (ρ':=(fL (.list (ft.map V.str)))) rfl rfl rfl x6 ?_;have l45:=M1;have l120:=HH;have l7:=PB;have l4:=Q9;have A:∀ {p p2 q q2 p3 p4 p5 p6 p7 p8:Pos},(ev (M+9)).E Bj [] Y (.BinOp (.BinOp (.BinOp (.Call (.Name "list" p2) [.Call (.Name "_law_nouns" p) [] [] q] [] q2) .Add (.Name "_law_verbs" p3) p4) .Add (.Name "_law_last" p5) p6) .Add (.Name "_law_form" p7) p8)=some (.list (ft.map V.str),Y):=fun {p p2 q q2 p3 p4 p5 p6 p7 p8}=>by
  unfold ft;refine n8 rfl (n8 rfl (n8 rfl (sj (by ext) yo CQ) (kf (by decide+kernel) (by decide+kernel) Bc tW) ?_) (kf (by decide+kernel) (by decide+kernel) Dh wk) ?_) (kf (by decide+kernel) (by decide+kernel) DF Dg) ?_
  ·rw[l45,l120];ext
  ·rw[length_append,l45,l120,l7];ext
  ·rw[length_append,length_append,l45,l120,l7,l4];ext
 generalize ft.map V.str=F at*;have pp:put [] "found" (V.list F)=fL (.list F):=by rfl'
 rw[←pp] at R ⊢;exact ab rfl (aq (bz rfl rfl Ba A) rfl) (aA rfl R)
section
variable {sc:Scope}{ρ Y Y' Y'':af}{M N:Nat}
structure XL(sc:Scope)(ρ:af)(id:Str)(v:V):Prop where
 d:id≠"__debug__"
 c:id≠"__classdict__"
 k:sc.names.lookup id=some .local∨sc.names.lookup id=some .cell∨sc.names.lookup id=some .free
 v:look ρ id=some v
theorem uc{id:Str}{v:V}{p:Pos}(h:XL sc ρ id v)(hN:1≤N:=by ext):(ev N).E sc ρ Y (.Name id p)=some (v,Y):=by
 obtain⟨n,rfl⟩:=xle hN;show (if id="__debug__" then none else if id="__classdict__" then none else match sc.names.lookup id with
     | some .globalImplicit=>(glob id).map fun v=>(v,Y)
     | some .local | some .cell | some .free=>(look ρ id).map fun v=>(v,Y)
     | _=>none)=_
 rw[if_neg h.d,if_neg h.c];rcases h.k with q | q | q<;>(rw[q];dsimp only;rw[h.v];rfl)
theorem IP{id:Str}{l u:Expr}{p q r:Pos}{xs:List V}{i j:Int}(e:N=M+1)(hM:1≤M)(hv:XL sc ρ id (.list xs))(hl:(ev M).E sc ρ Y l=some (.int i,Y))(hu:(ev M).E sc ρ Y u=some (.int j,Y)):(ev N).E sc ρ Y (.Subscript (.Name id p) (.Slice (some l) (some u) none q) r)=some (.list (fW xs (some i) (some j)),Y):=by
 subst e;show (match (ev M).E sc ρ Y (.Name id p) with
     | some (.str t,Y)=>match dz (ev M).E sc ρ Y (some l) with
      | some (a,Y)=>match dz (ev M).E sc ρ Y (some u) with
       | some (b,Y)=>some (V.str (bM t a b),Y)
       | none=>none
      | none=>none
     | some (.list t,Y)=>bif yF (.Name id p) then (match dz (ev M).E sc ρ Y (some l) with
      | some (a,Y)=>match dz (ev M).E sc ρ Y (some u) with
       | some (b,Y)=>some (V.list (fW t a b),Y)
       | none=>none
      | none=>none) else none
     | _=>none)=_
 have a:dz (ev M).E sc ρ Y (some l)=some (some i,Y):=by unfold dz;dsimp only;rw[hl]
 have b:dz (ev M).E sc ρ Y (some u)=some (some j,Y):=by unfold dz;dsimp only;rw[hu]
 rw[uc (hN:=hM) hv];dsimp only;rw[a];dsimp only;rw[b];rfl
theorem vD{o:Expr}{name:Str}{args:List Expr}{apos pos:Pos}{f:Fn}{vs:List V}{v:V}(e:N=M+1)(hok:ax o args apos pos=true)(ho:(ev M).E sc ρ Y o=some (.self,Y))(hm:bJ name=some f)(hl:look Y name=none)(ha:dl (ev M).E sc ρ Y args=some (vs,Y))(hC:(ev M).C f (.self :: vs) Y=some (v,Y')):(ev N).E sc ρ Y (.Call (.Attribute o name apos) args [] pos)=some (v,Y'):=by
 subst e;exact hJ ho hok hm hl ha hC
theorem GJ{a b:Expr}{p:Pos}{y:Bool}(e:N=M+1)(ha:(ev M).T sc ρ Y a=some (false,Y'))(hb:(ev M).T sc ρ Y' b=some (y,Y'')):(ev N).T sc ρ Y (.BoolOp .Or [a,b] p)=some (y,Y''):=by
 subst e;show (match (ev M).T sc ρ Y a with
     | some (true,Y)=>some (true,Y)
     | some (false,Y)=>(ev M).T sc ρ Y b
     | none=>none)=_
 rw[ha];exact hb
theorem jg{x y z:Expr}{p q:Pos}{a b st:Int}{xs:List V}(hk:sc.names.lookup ("range":Str)=some .globalImplicit)(h:dl (ev N).E sc ρ Y [x,y,z]=some ([.int a,.int b,.int st],Y))(hr:cD a b st=some xs):fj (ev N).E sc ρ Y (.Call (.Name "range" p) [x,y,z] [] q)=some (xs,Y):=kH hk h rfl hr
theorem Ij{x:Str}{y:Expr}{p q r s:Pos}{b:List Stmt}{a:Int}{xs:List V}{R:Option (Fl×af×af)}(e:N=M+1)(hk:sc.names.lookup ("range":Str)=some .globalImplicit)(hx:sc.names.lookup x=some .local)(h:(ev M).E sc ρ Y y=some (.int a,Y))(hr:cD 0 a 1=some xs)(k:(ev M).F sc ρ Y x xs b=R):(ev N).S sc ρ Y (.For (.Name x p) (.Call (.Name "range" q) [y] [] r) b [] s)=R:=oj e hx (kH hk (ei h) rfl hr) k
theorem mB:∀ l:List (List Nat),gG (l.map V.str) (l.map V.str)=some true
 | []=>rfl
 | a :: r=>by
  rw[map_cons];show (gG (r.map V.str) (r.map V.str)).map (fun b=>(a==a)&&b)=_;rw[mB r,beq_self_eq_true];rfl
theorem ED{n:Nat}(h:n≤2097152):(DR 0&&DR n)=true:=by
 show (decide ((-2097152:Int)≤n)&&decide ((n:Int)≤2097152))=true;have q:(n:Int)≤2097152:=Int.ofNat_le.2 h;have z:(-2097152:Int)≤n:=Int.le_trans (by decide) (Int.natCast_nonneg n);rw[decide_eq_true z,decide_eq_true q];rfl
theorem HG{n:Nat}(h:n≤1000):cD 0 (n:Int) 1=some (bg 0 1 n):=by
 unfold cD;rw[ED (le_trans h (by decide)),Int.sub_zero];rfl
theorem F4{m:Nat}(h:m≤8):∃ k,k≤2∧cD 0 (m:Int) 4=some (bg 0 4 k):=by
 refine⟨((m:Int)-0+3).fdiv 4 |>.toNat,?_,?_⟩
 ·have:∀ m<9,((((m:Nat):Int)-0+3).fdiv 4).toNat≤2:=by decide
  exact this m (Nat.lt_succ_of_le h)
 ·unfold cD;rw[ED (le_trans h (by decide))];rfl
theorem FT(nums:List Int)(a:Nat):∃ ns:List Int,ns.length≤4∧fW (nums.map V.int) (some (a:Int)) (some ((a:Int)+4))=ns.map V.int:=by
 refine⟨(nums.take (clamp nums.length ((a:Int)+4)).toNat).drop (clamp nums.length a).toNat,?_,?_⟩
 ·rw[length_drop,show clamp nums.length ((a:Int)+4)=min ((a:Int)+4) nums.length from if_neg (Int.not_lt.2 (Int.natCast_nonneg (a+4))),show clamp nums.length (a:Int)=min (a:Int) nums.length from if_neg (Int.not_lt.2 (Int.natCast_nonneg a))];refine Nat.sub_le_of_le_add ?_;rcases Nat.le_total a nums.length with h | h
  ·rw[Int.min_eq_left (Int.ofNat_le.2 h)];refine le_trans (List.length_take_le _ _) (le_trans (Int.toNat_le_toNat (Int.min_le_left _ _)) ?_);show a+4≤4+a;rw[Nat.add_comm];exact le_refl _
  ·rw[Int.min_eq_right (Int.ofNat_le.2 h)];exact le_trans (List.length_take_le' _ _) (Nat.le_add_left _ _)
 ·unfold fW;dsimp only;rw[length_map,List.map_drop,List.map_take]
theorem rU{L:List (List Nat)}{k:Nat}(h:k<L.length):dn (.list (L.map V.str)) (.int (k:Int))=some (.str (L[k])):=by
 have pl:cF (L.map V.str).length (k:Int)=some k:=by
  unfold cF;rw[length_map,decide_eq_true (show (0:Int)≤k by ext),decide_eq_true (show (k:Int)<L.length by ext)];rfl
 show (cF (L.map V.str).length (k:Int)).bind (fun k=>(L.map V.str)[k]?)=_;rw[pl];show (L.map V.str)[k]?=_;rw[List.getElem?_map,List.getElem?_eq_getElem h];rfl
end
end
theorem QJ{sc:Scope}{ρ Y:af}{N:Nat}{e e':Expr}{r:Option (V×af)}(h:(ev N).E sc ρ Y e'=r)(q:e=e'):(ev N).E sc ρ Y e=r:=by rw[q];exact h
theorem zw:bf.names.lookup ("len":Str)=some .globalImplicit:=by rfl'
theorem IX:bf.names.lookup ("_law_ends":Str)=some .globalImplicit:=by rfl'
theorem RO:bf.names.lookup ("k":Str)=some .local:=by rfl'
theorem MM:bf.names.lookup ("at":Str)=some .local:=by rfl'
theorem Es:eX 965=some bH:=by rfl'
theorem Cp:glob "_law_ends"=some (.addr 965):=by rfl'
theorem Ch:eX 972=some bO:=by rfl'
theorem D9:glob "_law_word"=some (.addr 972):=by rfl'
theorem y9:eX 1028=some aZ:=by rfl'
theorem BP:glob "_law_stem"=some (.addr 1028):=by rfl'
theorem rq:ch Y0=true:=by rfl'
theorem Dx{sc:Scope}{ρ Y Y':af}{M N:Nat}{es:List Expr}{p:Pos}{vs:List V}(e:N=M+1)(h:dl (ev M).E sc ρ Y es=some (vs,Y'))(hl:vs.length≤64):(ev N).E sc ρ Y (.List es p)=some (.list vs,Y'):=by
 subst e;show (match dl (ev M).E sc ρ Y es with
     | some (vs,Y)=>bif Nat.ble vs.length 64 then some (V.list vs,Y) else none
     | none=>none)=_
 rw[h];dsimp only;rw[ble_eq_true_of_le hl];rfl
noncomputable def Mt:Expr→Expr
 | .BinOp a _ _ _=>a
 | e=>e
def BY:Scope:=cI (Mt (bo (aH 2)))
theorem GN:(cq bf BY).names.lookup ("_law_word":Str)=some .globalImplicit:=by rfl'
theorem QN{a b:V}:dk bf [("script",a),("stemmer",.self),("ends",b)] BY "k"=true:=by rfl'
def lK(a b:V):af:=cf BY [("script",a),("stemmer",.self),("ends",b)]
theorem K9{a b:V}:lK a b=cf BY [("script",a),("stemmer",.self),("ends",b)]:=by rfl'
theorem DH{a b:List V}:Internal.ρ2 a b=([("script",V.list a),("stemmer",V.self),("ends",V.list b)]:af):=by rfl'
def Pf(v a b:V):af:=(("k":Str),v) :: lK a b
section
variable {Y:af}{nums:List Int}{N M:Nat}
theorem xT{v a b:V}:XL (cq bf BY) (Pf v a b) "script" a:=⟨by decide+kernel,by decide+kernel,.inr (.inl (by rfl')),by rfl'⟩
theorem CD{v a b:V}:XL (cq bf BY) (Pf v a b) "ends" b:=⟨by decide+kernel,by decide+kernel,.inr (.inl (by rfl')),by rfl'⟩
theorem Mr{v a b:V}:XL (cq bf BY) (Pf v a b) "k" v:=⟨by decide+kernel,by decide+kernel,.inl (by rfl'),by rfl'⟩
inductive qx:Expr→Prop
 | mk {p1 p2 p3 p4 p5 p6 p7 p8 p9 p10:Pos} {k1:Nat}:qx (.Call (.Name "_law_word" p1) [.Subscript (.Name "script" p2) (.Slice (some (.Name "k" p3)) (some (.BinOp (.Name "k" p4) .Add (.Constant (.int 4) k1 p5) p6)) none p7) p8,.Name "ends" p9] [] p10)
theorem Do{e:Expr}(sh:qx e){a:Nat}(hN:120≤N):∃ t,t.length≤28∧(ev N).E (cq bf BY) (Pf (.int a) (.list (nums.map V.int)) (.list (dR.map V.str))) Y e=some (.str t,Y):=by
 obtain⟨M,rfl⟩:∃ M,N=M+10:=⟨N-10,by ext⟩;obtain⟨ns,l4,hs⟩:=FT nums a;obtain⟨t,lt,R⟩:=tt (nums:=ns) (Y:=Y) (E:=dR) (N:=M+9) (by ext) l4 AB FK;refine⟨t,lt,?_⟩;generalize dR.map V.str=EL at*;cases sh with
 | mk=>
  refine fa rfl (by decide+kernel) (by decide+kernel) GN D9 Ch (xu ?_ (uc CD)) R;rw[←hs];exact IP rfl (by ext) xT (uc Mr) (vP rfl (uc Mr) (aN))
theorem sI{e:Expr}(sh:qx e)(hs:ch Y=true):∀ (n a N:Nat),n+125≤N→∃ ts:List (List Nat),ts.length≤n∧(∀ t∈ts,t.length≤28)∧(ev N).L (cq bf BY) (lK (.list (nums.map V.int)) (.list (dR.map V.str))) Y e "k" (bg (a:Int) 4 n)=some (ts.map V.str,Y)
 | 0,a,N,hN=>⟨[],le_refl _,(fun _ h=>by cases h),uQ (by ext)⟩
 | n+1,a,N,hN=>by
  obtain⟨M,rfl⟩:∃ M,N=M+1:=⟨N-1,by ext⟩;obtain⟨t,lt,T⟩:=Do (Y:=Y) (nums:=nums) sh (a:=a) (N:=M) (by ext);obtain⟨ts,l1,l2,q⟩:=sI sh hs n (a+4) M (by ext);refine⟨t :: ts,by rw[length_cons];ext,fun x hx=>?_,rC rfl T hs q⟩;cases hx with
  | head=>exact lt
  | tail _ hx=>exact l2 x hx
inductive rP:Stmt→Prop
 | mk {e:Expr} (sh:qx e) {p1 p12 p13 p14 p15 p16 p17 p18 p19 p20 p21 p22 p23 p24 p25 p26 p27:Pos} {k2 k3 k4 k5:Nat}:rP (.Assign [.Name "words" p1] (.BinOp (.ListComp e [⟨.Name "k" p12,.Call (.Name "range" p13) [.Constant (.int 0) k2 p14,.Call (.Name "min" p15) [.Call (.Name "len" p16) [.Name "script" p17] [] p18,.Constant (.int 8) k3 p19] [] p20,.Constant (.int 4) k4 p21] [] p22,[],0⟩] BY p23) .Add (.List [.Constant (.str "") k5 p24] p25) p26) p27)
theorem GU:qx (mH (Mt (bo (aH 2)))):=qx.mk
theorem BC:rP (aH 2):=rP.mk GU
theorem Ad(hN:300≤N)(hs:ch Y=true):∃ ws:List (List Nat),0<ws.length∧ws.length≤3∧(∀ t∈ws,t.length≤28)∧(ev N).S bf (Internal.ρ2 (nums.map V.int) (dR.map V.str)) Y (aH 2)=some (.next,Internal.tm (nums.map V.int) (dR.map V.str) (ws.map V.str),Y):=by
 obtain⟨M,rfl⟩:∃ M,N=M+20:=⟨N-20,by ext⟩;have sh:=BC;generalize aH 2=st at sh ⊢;cases sh with
 | mk sh=>
  rename_i e p1 p12 p13 p14 p15 p16 p17 p18 p19 p20 p21 p22 p23 p24 p25 p26 p27 k2 k3 k4 k5;obtain⟨k,k2',hr⟩:=F4 (Nat.min_le_right nums.length 8);obtain⟨ts,l1,l2,q⟩:=sI (Y:=Y) (nums:=nums) sh hs k 0 (M+17) (by ext);refine⟨ts++[[]],by rw[length_append];exact Nat.succ_pos _,by rw[length_append];show ts.length+1≤3;ext,fun t ht=>?_,?_⟩
  ·rw[List.mem_append] at ht;rcases ht with ht | ht
   ·exact l2 t ht
   ·cases ht with
    | head=>exact zero_le _
    | tail _ h=>cases h
  ·rw[show ((0:Nat):Int)=0 from rfl] at q;rw[K9] at q;generalize hE:dR.map V.str=EL at*;have S2:XL bf [("script",.list (nums.map V.int)),("stemmer",.self),("ends",.list EL)] "script" (.list (nums.map V.int)):=⟨by decide+kernel,by decide+kernel,.inr (.inl (by rfl')),by rfl'⟩;have pp:put [("script",.list (nums.map V.int)),("stemmer",.self),("ends",.list EL)] "words" (.list ((ts++[[]]).map V.str))=Internal.tm (nums.map V.int) EL ((ts++[[]]).map V.str):=by rfl'
   rw[DH];rw[←pp];refine bz rfl rfl (by rfl') (n8 rfl ?_ ?_ ?_)
   ·have A:dl (ev (M+17)).E bf [("script",.list (nums.map V.int)),("stemmer",.self),("ends",.list EL)] Y [.Constant (.int 0) k2 p14,.Call (.Name "min" p15) [.Call (.Name "len" p16) [.Name "script" p17] [] p18,.Constant (.int 8) k3 p19] [] p20,.Constant (.int 4) k4 p21]=some ([.int 0,.int ((min nums.length 8:Nat):Int),.int 4],Y):=by
     refine B8 (aN) ?_ (aN);have e:((min nums.length 8:Nat):Int)=min ((nums.map V.int).length:Int) 8:=by rw[length_map];exact cmin nums.length 8
     rw[e];exact ux rfl (by ext) (by rfl') (io rfl zw (uc S2)) (aN)
    refine qX (xs:=bg 0 4 k) rfl (jg (by rfl') A hr) QN hs ?_ (by rw[q]);have:∀ (n:Nat) (a:Int),(bg a 4 n).length=n:=fun n=>by
     induction n with
     | zero=>intro a;rfl
     | succ n ih=>intro a;show (bg (a+4) 4 n).length+1=_;rw[ih]
    rw[this];ext
   ·have B:dl (ev (M+17)).E bf [("script",.list (nums.map V.int)),("stemmer",.self),("ends",.list EL)] Y [.Constant (.str "") k5 p24]=some ([.str []],Y):=ei (dH wv);exact Dx rfl B (by decide)
   ·show ts.length+1≤_;ext
end
section
set_option tactic.hygienic false
def eh(Y:af):Prop:=∃ J c l lb τ κ tl,eg tl∧Y=ak J c l lb τ κ tl
theorem st0:eh Y0:=⟨[],0,0,0,0,0,[],.inl rfl,by rfl'⟩
theorem eh.simple{Y:af}(h:eh Y):ch Y=true:=by
 obtain⟨J,c,l,lb,τ,κ,tl,ht,rfl⟩:=h;rcases ht with rfl | ⟨x,y,z,rfl⟩<;>rfl'
theorem eh.nostem{Y:af}(h:eh Y):look Y "stemWord"=none:=by
 obtain⟨J,c,l,lb,τ,κ,tl,ht,rfl⟩:=h;rcases ht with rfl | ⟨x,y,z,rfl⟩<;>rfl'
theorem eh.nostems{Y:af}(h:eh Y):look Y "stemWords"=none:=by
 obtain⟨J,c,l,lb,τ,κ,tl,ht,rfl⟩:=h;rcases ht with rfl | ⟨x,y,z,rfl⟩<;>rfl'
theorem eh.noget{Y:af}(h:eh Y):look Y "get_current"=none:=by
 obtain⟨J,c,l,lb,τ,κ,tl,ht,rfl⟩:=h;rcases ht with rfl | ⟨x,y,z,rfl⟩<;>rfl'
theorem AP:bJ "stemWord"=some aW:=by rfl'
theorem rE{Y:af}{t:List Nat}{N:Nat}(h:eh Y)(hN:402≤N)(ht:t.length≤50):∃ Y',eh Y'∧(ev N).C aW [.self,.str t] Y=some (.str (bR t),Y')∧∀ K,8≤K→(ev K).C cP [.self] Y'=some (.str (bR t),Y'):=by
 obtain⟨J,c,l,lb,τ,κ,tl,hl,rfl⟩:=h;refine RV (yV (J:=J) (c:=c) (l:=l) (lb:=lb) (τ:=τ) (κ:=κ) hN hl ht) fun b k x y u R=>?_
 exact⟨_,⟨_,_,_,_,_,_,_,.inr ⟨x,y,u,rfl⟩,rfl⟩,R,fun K hK=>tu hK⟩
def Jc:Scope:=cI (bo (ai bN 0))
abbrev Dy:Scope:=aJ bN.st
theorem Dn:Dy.names.lookup ("words":Str)=some .local:=by rfl'
noncomputable def lS(ws:V):af:=[("self",.self),("words",ws)]
theorem Qu{ws:V}:dk Dy (lS ws) Jc "word"=true:=by rfl'
def Tx(v ws:V):af:=(("word":Str),v) :: cf Jc (lS ws)
inductive xA:Expr→Prop
 | mk {p1 p2 p3 p4:Pos} (ok:ax (.Name "self" p1) [.Name "word" p2] p3 p4=true):xA (.Call (.Attribute (.Name "self" p1) "stemWord" p3) [.Name "word" p2] [] p4)
theorem Hc{e:Expr}(sh:xA e){Y:af}{ws:V}{t:List Nat}{N:Nat}(h:eh Y)(hN:403≤N)(ht:t.length≤50):∃ Y',eh Y'∧(ev N).E (cq Dy Jc) (Tx (.str t) ws) Y e=some (.str (bR t),Y'):=by
 obtain⟨M,rfl⟩:∃ M,N=M+1:=⟨N-1,by ext⟩;refine Exists.elim (rE (N:=M) h (by ext) ht) fun Y' zz=>ee zz fun h' R _=>?_
 refine⟨Y',h',?_⟩;cases sh with
 | mk ok=>exact vD rfl ok (uc ⟨by decide+kernel,by decide+kernel,.inr (.inl (by rfl')),by rfl'⟩) AP h.nostem (ei (uc ⟨by decide+kernel,by decide+kernel,.inl (by rfl'),by rfl'⟩)) R
theorem wa{e:Expr}(sh:xA e){ws:V}:∀ (ts:List (List Nat)) (Y:af) (N:Nat),eh Y→ts.length+405≤N→(∀ t∈ts,t.length≤50)→∃ Y',eh Y'∧(ev N).L (cq Dy Jc) (cf Jc (lS ws)) Y e "word" (ts.map V.str)=some ((ts.map bR).map V.str,Y')
 | [],Y,N,h,hN,_=>⟨Y,h,uQ (by ext)⟩
 | t :: r,Y,N,h,hN,ht=>by
  rw[length_cons] at hN;obtain⟨M,rfl⟩:∃ M,N=M+1:=⟨N-1,by ext⟩;obtain⟨s1,h1,T⟩:=Hc (ws:=ws) (t:=t) sh h (N:=M) (by ext) (ht t (.head _));obtain⟨s2,h2,q⟩:=wa sh (ws:=ws) r s1 M h1 (by ext) (fun t' q=>ht t' (.tail _ q));refine⟨s2,h2,?_⟩;rw[map_cons,map_cons,map_cons];exact rC rfl T h1.simple q
inductive BK:Stmt→Prop
 | mk {e:Expr} (sh:xA e) {p1 p2 p3 p4:Pos}:BK (.Return (some (.ListComp e [⟨.Name "word" p1,.Name "words" p2,[],0⟩] Jc p3)) p4)
theorem OP:xA (mH (bo (ai bN 0))):=xA.mk rfl
theorem FI:BK (ai bN 0):=BK.mk OP
theorem Ai:br bN.st=[ai bN 0]:=by rfl'
theorem xf{Y:af}{ts:List (List Nat)}{N:Nat}(h:eh Y)(hN:ts.length+410≤N)(hl:ts.length≤1000)(ht:∀ t∈ts,t.length≤50):∃ Y',eh Y'∧(ev N).C bN [.self,.list (ts.map V.str)] Y=some (.list ((ts.map bR).map V.str),Y'):=by
 obtain⟨M,rfl⟩:∃ M,N=M+4:=⟨N-4,by ext⟩;have sh:=FI;have hb:=Ai;generalize ai bN 0=st at sh hb;cases sh with
 | mk sh=>
  obtain⟨s1,h1,q⟩:=wa sh (ws:=.list (ts.map V.str)) ts Y M h (by ext) ht;refine⟨s1,h1,bC (ρ:=lS (.list (ts.map V.str))) (ρ':=lS (.list (ts.map V.str))) rfl rfl rfl hb ?_⟩;exact aA rfl (cA rfl (qX (xs:=ts.map V.str) rfl (lo (by ext) ⟨by decide+kernel,by decide+kernel,Dn,by rfl'⟩) Qu h.simple (by rw[length_map];ext) q))
theorem Hw{N:Nat}{a:V}(hN:260≤N):(ev N).E bf [("script",a),("stemmer",.self)] Y0 (bo (aH 1))=some (.list (dR.map V.str),Y0):=by
 obtain⟨M,rfl⟩:∃ M,N=M+1:=⟨N-1,by ext⟩;have R:=te (Y:=Y0) (N:=M) (by ext) rq;generalize V.list (dR.map V.str)=E at*;exact QJ (fa rfl (by decide+kernel) (by decide+kernel) IX Cp Es rfl R) (congrArg bo uH)
def QU:Scope:=cI (bo (aH 3))
theorem Gw:(cq bf QU).names.lookup ("word":Str)=some .local:=by rfl'
theorem Fw:(cq bf QU).names.lookup ("_law_stem":Str)=some .globalImplicit:=by rfl'
inductive Ah:Expr→Prop
 | mk {p1 p2 p3:Pos}:Ah (.Call (.Name "_law_stem" p1) [.Name "word" p2] [] p3)
theorem Gd:Ah (mH (bo (aH 3))):=Ah.mk
theorem GZ{N:Nat}{l:af}{ts:List (List Nat)}(hN:ts.length+230≤N)(ht:∀ t∈ts,t.length≤50):(ev N).L (cq bf (cI (bo (aH 3)))) (cf (cI (bo (aH 3))) l) Y0 (mH (bo (aH 3))) "word" (ts.map V.str)=some ((ts.map bR).map V.str,Y0):=by
 have sh:=Gd;have hd:=Gw;have hs:=Fw;rw[show QU=cI (bo (aH 3)) from rfl] at hd hs;generalize cf (cI (bo (aH 3))) l=lc;generalize cq bf (cI (bo (aH 3)))=sc at*;generalize mH (bo (aH 3))=e at sh ⊢;cases sh with
 | mk=>
  refine A3 (K:=225) rq ts N (fun t q K hK=>?_) (by ext);obtain⟨K,rfl⟩:∃ K',K=K'+1:=⟨K-1,by ext⟩;have:=ht t q;exact fa rfl (by decide+kernel) (by decide+kernel) hs BP y9 (ei (au ⟨by decide+kernel,by decide+kernel,hd,by unfold look;exact if_pos rfl⟩)) (tV (by ext) (by ext))
theorem El(l:List (List Nat)):gO .NotEq (.list (l.map V.str)) (.list (l.map V.str))=some false:=by
 show (gG (l.map V.str) (l.map V.str)).map (!·)=_;rw[mB];rfl
theorem ne_str(a:List Nat):gO .NotEq (.str a) (.str a)=some false:=by
 show some (!(a==a))=_;rw[beq_self_eq_true];rfl
structure fy(ρ:af)(ws ds:List (List Nat)):Prop where
 w:look ρ "words"=some (.list (ws.map V.str))
 d:look ρ "due"=some (.list (ds.map V.str))
 s:look ρ "stemmer"=some .self
section
variable {ρ Y:af}{ws ds:List (List Nat)}{N M:Nat}{v:V}
theorem fy.k(h:fy ρ ws ds):fy (put ρ "k" v) ws ds:=⟨(cJ (by decide+kernel)).trans h.w,(cJ (by decide+kernel)).trans h.d,(cJ (by decide+kernel)).trans h.s⟩
theorem fy.a(h:fy ρ ws ds):fy (put ρ "at" v) ws ds:=⟨(cJ (by decide+kernel)).trans h.w,(cJ (by decide+kernel)).trans h.d,(cJ (by decide+kernel)).trans h.s⟩
theorem fy.vw(h:fy ρ ws ds):VL bf ρ "words" (.list (ws.map V.str)):=⟨by decide+kernel,by decide+kernel,(by rfl'),h.w⟩
theorem fy.vd(h:fy ρ ws ds):VL bf ρ "due" (.list (ds.map V.str)):=⟨by decide+kernel,by decide+kernel,(by rfl'),h.d⟩
theorem fy.vs(h:fy ρ ws ds):VL bf ρ "stemmer" .self:=⟨by decide+kernel,by decide+kernel,(by rfl'),h.s⟩
inductive vG:Stmt→Prop
 | mk {b:List Stmt} {p1 p2 p3 p4 p5 p6 p7:Pos} (ok:ax (.Name "stemmer" p1) [.Name "words" p2] p3 p4=true):vG (.If (.Compare (.Call (.Attribute (.Name "stemmer" p1) "stemWords" p3) [.Name "words" p2] [] p4) [.NotEq] [.Name "due" p5] p6) b [] p7)
theorem Hb:vG (aH 4):=vG.mk rfl
theorem C4{st:Stmt}(sh:vG st)(hN:ws.length+420≤N)(hl:ws.length≤1000)(ht:∀ t∈ws,t.length≤50)(H:fy ρ ws (ws.map bR))(h:eh Y):∃ Y',eh Y'∧(ev N).S bf ρ Y st=some (.next,ρ,Y'):=by
 obtain⟨M,rfl⟩:∃ M,N=M+8:=⟨N-8,by ext⟩;obtain⟨s1,h1,R⟩:=xf (ts:=ws) (N:=M+4) h (by ext) hl ht;refine⟨s1,h1,?_⟩;have HD:=H.vd;have NE:=El (ws.map bR);generalize V.list ((ws.map bR).map V.str)=D at*;cases sh with
 | mk ok=>
  exact bt rfl (bn rfl (vD rfl ok (au H.vs) (by rfl') h.nostems (ei (au H.vw)) R) (au HD) NE) rfl
inductive qi:List Stmt→Prop
 | mk {b:List Stmt} {p1 p2 p3 p4 p5 p6 p7 p8 p9 q1 q2 q3 q4 q5 q6 q7 q8 q9 r1 r2 r3 r4 r5 r6 r7 r8 r9 PZ:Pos} {k1:Nat}
  (ok1:ax (.Name "stemmer" q1) [.Subscript (.Name "words" q2) (.Name "at" q3) q4] q5 q6=true) (ok2:ax (.Name "stemmer" r1) [] r2 r3=true):
  qi [.Assign [.Name "at" p1] (.BinOp (.BinOp (.Call (.Name "len" p2) [.Name "words" p3] [] p4) .Sub (.Constant (.int 1) k1 p5) p6) .Sub (.Name "k" p7) p8) p9,
   .If (.BoolOp .Or [.Compare (.Call (.Attribute (.Name "stemmer" q1) "stemWord" q5) [.Subscript (.Name "words" q2) (.Name "at" q3) q4] [] q6) [.NotEq] [.Subscript (.Name "due" q7) (.Name "at" q8) q9] PZ,
    .Compare (.Call (.Attribute (.Name "stemmer" r1) "get_current" r2) [] [] r3) [.NotEq] [.Subscript (.Name "due" r4) (.Name "at" r5) r6] r7] r8) b [] r9]
theorem Ag{b:List Stmt}(sh:qi b){k:Nat}(hk:k<ws.length)(lk:look ρ "k"=some (.int (k:Int)))(hN:425≤N)(ht:∀ t∈ws,t.length≤50)(H:fy ρ ws (ws.map bR))(h:eh Y):∃ ρ' Y',eh Y'∧fy ρ' ws (ws.map bR)∧(ev N).SS bf ρ Y b=some (.next,ρ',Y'):=by
 obtain⟨M,rfl⟩:∃ M,N=M+16:=⟨N-16,by ext⟩;have ha:ws.length-1-k<ws.length:=by ext
 refine Exists.elim (rE (t:=ws[ws.length-1-k]) (N:=M+9) h (by ext) (ht _ (List.getElem_mem ha))) fun s1 zz=>ee zz fun h1 R G=>?_
 have H1:fy (put ρ "at" (.int ((ws.length-1-k:Nat):Int))) ws (ws.map bR):=H.a;have VA:VL bf (put ρ "at" (.int ((ws.length-1-k:Nat):Int))) "at" (.int ((ws.length-1-k:Nat):Int)):=⟨by decide+kernel,by decide+kernel,MM,ic⟩;have VK:VL bf ρ "k" (.int (k:Int)):=⟨by decide+kernel,by decide+kernel,RO,lk⟩;have IW:=rU ha;have ID:=rU (L:=ws.map bR) (k:=ws.length-1-k) (by rw[length_map];exact ha);rw[List.getElem_map] at ID;refine⟨_,s1,h1,H1,?_⟩;have e:((ws.length-1-k:Nat):Int)=((ws.map V.str).length:Int)-1-k:=by rw[length_map];ext
 have VD:=H1.vd;have VW:=H1.vw;have VS:=H1.vs;have VW0:=H.vw;generalize bR (ws[ws.length-1-k])=d at*;generalize ws[ws.length-1-k]=w at*;generalize V.list ((ws.map bR).map V.str)=D at*;generalize ((ws.length-1-k:Nat):Int)=a at*;have NE:=ne_str d;cases sh with
 | mk ok1 ok2=>
  refine ab (Y':=Y) rfl (bz rfl rfl MM (v:=.int a) ?_) ?_
  ·rw[e];exact nW rfl (nW rfl (io rfl zw (au VW0)) (aN)) (au VK)
  ·refine aP rfl (bt (c:=false) rfl (GJ (Y':=s1) rfl ?_ ?_) rfl)
   ·refine bn (x:=.str d) (y:=.str d) rfl ?_ ?_ NE
    ·exact vD rfl ok1 (au VS) AP h.nostem (ei (eV rfl (fun _ _ _ q=>by cases q) (au VW) rfl (au VA) IW)) R
    ·exact eV rfl (fun _ _ _ q=>by cases q) (au VD) rfl (au VA) ID
   ·refine bn (x:=.str d) (y:=.str d) rfl ?_ ?_ NE
    ·exact vD rfl ok2 (au VS) EP h1.noget rfl (G _ (by ext))
    ·exact eV rfl (fun _ _ _ q=>by cases q) (au VD) rfl (au VA) ID
end
section
variable {ρ Y:af}{ws ds:List (List Nat)}{N M:Nat}{v:V}
theorem tQ{b:List Stmt}(sh:qi b)(ht:∀ t∈ws,t.length≤50):∀ (n a N:Nat) (ρ Y:af),a+n≤ws.length→n+430≤N→fy ρ ws (ws.map bR)→eh Y→∃ ρ' Y',eh Y'∧fy ρ' ws (ws.map bR)∧(ev N).F bf ρ Y "k" (bg (a:Int) 1 n) b=some (.next,ρ',Y')
 | 0,a,N,ρ,Y,_,hN,H,h=>⟨ρ,Y,h,H,rp (by ext)⟩
 | n+1,a,N,ρ,Y,hl,hN,H,h=>by
  obtain⟨M,rfl⟩:∃ M,N=M+1:=⟨N-1,by ext⟩;refine ed (Ag sh (k:=a) (N:=M) (by ext) ic (by ext) ht (H.k (v:=.int (a:Int))) h) fun l1 s1 zz=>ee zz fun h1 H1 T=>?_
  refine ed (tQ sh ht n (a+1) M l1 s1 (by ext) (by ext) H1 h1) fun l2 s2 zz=>ee zz fun h2 H2 q=>?_
  exact⟨l2,s2,h2,H2,nN rfl T q⟩
inductive ny:Stmt→Prop
 | mk {b:List Stmt} (sh:qi b) {p1 p2 p3 p4 p5 p6 p7:Pos}:ny (.For (.Name "k" p1) (.Call (.Name "range" p2) [.Call (.Name "len" p3) [.Name "words" p4] [] p5] [] p6) b [] p7)
theorem FQ:qi (dj (aH 5)):=qi.mk rfl rfl
theorem yx:ny (aH 5):=ny.mk FQ
theorem xG{st:Stmt}(sh:ny st)(hN:ws.length+440≤N)(hl:ws.length≤1000)(ht:∀ t∈ws,t.length≤50)(H:fy ρ ws (ws.map bR))(h:eh Y):∃ ρ' Y',eh Y'∧fy ρ' ws (ws.map bR)∧(ev N).S bf ρ Y st=some (.next,ρ',Y'):=by
 obtain⟨M,rfl⟩:∃ M,N=M+2:=⟨N-2,by ext⟩;cases sh with
 | mk sh=>
  refine ed (tQ sh ht ws.length 0 (M+1) ρ Y (by ext) (by ext) H h) fun l1 s1 zz=>ee zz fun h1 H1 q=>?_
  refine⟨l1,s1,h1,H1,?_⟩;have L:∀ {p3 p4 p5:Pos},(ev (M+1)).E bf ρ Y (.Call (.Name "len" p3) [.Name "words" p4] [] p5)=some (.int (ws.length:Int),Y):=fun {p3 p4 p5}=>by
   have L:=io (ρ:=ρ) (Y:=Y) (M:=M) (N:=M+1) (p:=p3) (q:=p5) (a:=.Name "words" p4) rfl zw (au H.vw);rw[length_map] at L;exact L
  exact Ij rfl (by rfl') RO L (HG hl) q
inductive lq(x:Str):Expr→Prop
 | mk {p1 p2 p3:Pos} {k:Nat}:lq x (.Subscript (.Name x p1) (.Constant (.int 0) k p2) p3)
theorem FR:lq "words" (uw (g7 (bo (aH 6)))):=lq.mk
theorem HL:lq "due" (Cu (bo (aH 6))):=lq.mk
theorem pX{x:Str}{e:Expr}(sh:lq x e){L:List (List Nat)}(h0:0<L.length)(hv:VL bf ρ x (.list (L.map V.str)))(hN:5≤N):(ev N).E bf ρ Y e=some (.str L[0],Y):=by
 obtain⟨M,rfl⟩:∃ M,N=M+1:=⟨N-1,by ext⟩;have I:=rU h0;generalize L[0]=t at*;cases sh with
 | mk=>exact eV (M:=M) (y:=.int 0) rfl (fun _ _ _ q=>by cases q) (au hv) rfl (aN) I
theorem gF(l:List (List Nat)):(l.map V.str).all cH=true:=by
 rw[List.all_eq_true];intro x hx;obtain⟨a,_,rfl⟩:=List.mem_map.mp hx;rfl
theorem sT(l:List Int):(l.map V.int).all cH=true:=by
 rw[List.all_eq_true];intro x hx;obtain⟨a,_,rfl⟩:=List.mem_map.mp hx;rfl
end
theorem Ed{nums:List Int}(hl:nums.length≤63){N:Nat}(hN:450≤N):∃ (ends words due:List V) (locA slfA locB slfB slfC slfD:af) (w0 d0:List Nat),Internal.uU N (nums.map V.int) ends words due locA slfA locB slfB slfC slfD w0 d0:=by
 have f1:=Hw (N:=N) (a:=.list (nums.map V.int)) (by ext);refine Exists.elim (Ad (Y:=Y0) (nums:=nums) (N:=N) (by ext) rq) fun ws zz=>pK zz fun w0 w3 wl f2=>?_
 have ht:∀ t∈ws,t.length≤50:=fun t h=>le_trans (wl t h) (by ext)
 have VW:VL bf (Internal.tm (nums.map V.int) (dR.map V.str) (ws.map V.str)) "words" (.list (ws.map V.str)):=⟨by decide+kernel,by decide+kernel,(by rfl'),by rfl'⟩;have H4:fy (Internal.CB (nums.map V.int) (dR.map V.str) (ws.map V.str) ((ws.map bR).map V.str)) ws (ws.map bR):=⟨by rfl',by rfl',by rfl'⟩;obtain⟨sA,hA,f4a⟩:=C4 (Y:=Y0) (N:=N) Hb (by ext) (by ext) ht H4 st0;refine ed (xG (N:=N) yx (by ext) (by ext) ht H4 hA) fun lB sB zz=>ee zz fun hB HB f4b=>?_
 refine Exists.elim (rE (N:=N) (t:=ws[0]) st0 (by ext) (ht _ (List.getElem_mem w0))) fun sC zz=>ee zz fun hC f6 _=>?_
 have W7:VL bf (pM (ws.map V.str) ((ws.map bR).map V.str)) "words" (.list (ws.map V.str)):=⟨by decide+kernel,by decide+kernel,(by rfl'),by rfl'⟩;have D7:VL bf (pM (ws.map V.str) ((ws.map bR).map V.str)) "due" (.list ((ws.map bR).map V.str)):=⟨by decide+kernel,by decide+kernel,(by rfl'),by rfl'⟩;have i7:=pX (N:=N) (Y:=sC) HL (L:=ws.map bR) (by rw[length_map];exact w0) D7 (by ext);rw[List.getElem_map] at i7;have e1:Internal.ρ1 (nums.map V.int)=([("script",V.list (nums.map V.int)),("stemmer",V.self)]:af):=by rfl'
 exact⟨dR.map V.str,ws.map V.str,(ws.map bR).map V.str,_,sA,lB,sB,sC,sC,ws[0],bR ws[0],{
  f1:=by rw[e1];exact f1
  f2:=f2
  f3i:=lo (by ext) VW
  f3:=GZ (by ext) ht
  f4a:=f4a
  f4b:=f4b
  b1:=HB.w
  b2:=HB.d
  f5:=ei (pX FR w0 W7 (by ext))
  f6:=f6
  f7:=i7
  numsS:=sT _
  numsL:=by rw[length_map];ext
  endsS:=gF _
  wordsS:=gF _
  wordsL:=by rw[length_map];ext
  dueS:=gF _ }⟩
end
end Mine.Internal.P
end
theorem PySem.Challenge.cw_ai0036_01_holds : PySem.Challenge.rw_ai0036_01.Holds := by
 refine Mine.Internal.H.xn fun nums hl=>?_
 obtain⟨ends,words,due,locA,slfA,locB,slfB,slfC,slfD,w0,d0,h⟩:=Mine.Internal.P.Ed hl (N:=470) (by decide);exact⟨470,ends,words,due,locA,slfA,locB,slfB,slfC,slfD,w0,d0,by decide,h⟩
