import PyProof.Rows.All
import Wide.All
import OpenK.AllK
import Open.Pieces
import Wide.FinOn
import KE.KRevIter
import KE.KOpsOwn
import KE.LcSums
import KE.KNest
import KE.KTryDeep
import PySem.Challenge.RW_xx0001_12
set_option Elab.async false
set_option genInjectivity false
set_option bootstrap.genMatcherCode false
set_option genSizeOf false
set_option compiler.extract_closed false
set_option tactic.hygienic false
set_option maxRecDepth 100000
set_option linter.unusedVariables false
namespace JL
open PySem.W
noncomputable def wsR (l:OpenLaw):{f:Bool→Bool//l.wellSaid=f l.row.wellSaid}:=by apply Subtype.mk;delta OpenLaw.wellSaid;generalize l.row.wellSaid=b;exact rfl
theorem wsB:PySem.Challenge.rw_xx0001_12.row.wellSaid=true:=by kernel_rfl
theorem wsE:(wsR PySem.Challenge.rw_xx0001_12).1 true=true:=by kernel_rfl
theorem wsA:PySem.Challenge.rw_xx0001_12.wellSaid=true:=(wsR _).2.trans ((congrArg (wsR _).1 wsB).trans wsE)
end JL
namespace Lq
theorem ll {a b c:Int} (h:a≤b) (k:b≤c):a≤c:=Int.le_trans h k
theorem sl {a b c:Int} (h:a<b) (k:b≤c):a<c:=Int.lt_of_lt_of_le h k
theorem ls {a b c:Int} (h:a≤b) (k:b<c):a<c:=Int.lt_of_le_of_lt h k
theorem ss {a b c:Int} (h:a<b) (k:b<c):a<c:=Int.lt_trans h k
theorem w {a b:Int} (h:a<b):a≤b:=Int.le_of_lt h
theorem n {a b:Int} (h:¬ a<b):b≤a:=Int.not_lt.mp h
theorem qy {a b c:Nat} (h:a≤b) (k:b≤c):a≤c:=Nat.le_trans h k
theorem F3 {a b c:Nat} (h:a<b) (k:b≤c):a<c:=Nat.lt_of_lt_of_le h k
theorem Rg {a b c:Nat} (h:a≤b) (k:b<c):a<c:=Nat.lt_of_le_of_lt h k
theorem nss {a b c:Nat} (h:a<b) (k:b<c):a<c:=Nat.lt_trans h k
theorem nw {a b:Nat} (h:a<b):a≤b:=Nat.le_of_lt h
theorem nn {a b:Nat} (h:¬ a<b):b≤a:=Nat.not_lt.mp h
theorem cl {a b:Nat} (h:a≤b):(a:Int)≤(b:Int):=Int.ofNat_le.mpr h
theorem cs {a b:Nat} (h:a<b):(a:Int)<(b:Int):=Int.ofNat_lt.mpr h
theorem ul {a b:Nat} (h:(a:Int)≤(b:Int)):a≤b:=Int.ofNat_le.mp h
theorem us {a b:Nat} (h:(a:Int)<(b:Int)):a<b:=Int.ofNat_lt.mp h
theorem Jk {a b:Nat} (h:@OfNat.ofNat Int a (@instOfNat a)≤(b:Int)):a≤b:=Int.ofNat_le.mp h
theorem Rh {a b:Nat} (h:(a:Int)≤@OfNat.ofNat Int b (@instOfNat b)):a≤b:=Int.ofNat_le.mp h
theorem SE {a b:Nat} (h:(a:Int) < @OfNat.ofNat Int b (@instOfNat b)):a<b:=Int.ofNat_lt.mp h
theorem z (a:Nat):(0:Int)≤(a:Int):=Int.natCast_nonneg a
theorem ab {r:Int} {k:Nat} (h:0≤r) (g:r≤(k:Int)):r.natAbs≤k:=Int.ofNat_le.mp (Int.ofNat_natAbs_of_nonneg h▸g)
theorem ts {r:Int} {k:Nat} (h:0≤r) (g:r<(k:Int)):r.toNat<k:=(Int.toNat_lt h).mpr g
theorem al {a b:Int} (c:Int) (h:a≤b):a+c≤b+c:=Int.add_le_add_right h c
theorem as {a b:Int} (c:Int) (h:a<b):a+c<b+c:=Int.add_lt_add_right h c
theorem bl {a b:Int} (c:Int) (h:a≤b):c+a≤c+b:=Int.add_le_add_left h c
theorem dl {a b:Int} (c:Int) (h:a≤b):a-c≤b-c:=Int.sub_le_sub_right h c
theorem SG {a b:Nat} (c:Nat) (h:a≤b):a+c≤b+c:=Nat.add_le_add_right h c
theorem r {a:Int} (c:Int) (h:0≤c):a≤a+c:=Int.le_add_of_nonneg_right h
theorem rs {a:Int} (c:Int) (h:0<c):a<a+c:=Int.lt_add_of_pos_right a h
theorem s0 {a b:Int} (h:b≤a):0≤a-b:=Int.sub_nonneg_of_le h
theorem s1 {a b:Int} (h:b<a):0<a-b:=Int.sub_pos_of_lt h
theorem sp (a:Int) {c:Int} (h:0≤c):a-c≤a:=Int.sub_le_self a h
theorem sq (a:Int) {c:Int} (h:0<c):a-c<a:=Int.sub_lt_self a h
theorem pl {a b:Int} (h:a<b+1):a≤b:=Int.le_of_lt_add_one h
theorem nr (a c:Nat):a≤a+c:=Nat.le_add_right a c
theorem Ri {a c:Nat} (h:0<c):a<a+c:=Nat.lt_add_of_pos_right h
theorem SH {a b:Nat} (h:a<b+1):a≤b:=Nat.le_of_lt_succ h
theorem Rj {a b:Int} (h:a≤b) (k:¬ a=b):a<b:=Int.lt_iff_le_and_ne.mpr ⟨h,k⟩
theorem LQ {a b:Int} (h:a≤b) (k:¬ b=a):a<b:=Int.lt_iff_le_and_ne.mpr ⟨h,λ e=>k e.symm⟩
theorem e {a b:Int} (h:a≤b) (k:b≤a):a=b:=Int.le_antisymm h k
theorem ne {a b:Nat} (h:a≤b) (k:b≤a):a=b:=Nat.le_antisymm h k
theorem y {a b:Int} (h:b<a):¬ a=b:=Int.ne_of_gt h
theorem nx {a b:Nat} (h:a<b):¬ a=b:=Nat.ne_of_lt h
theorem ny {a b:Nat} (h:b<a):¬ a=b:=Nat.ne_of_gt h
theorem f {a b:Int} (h:a<b) (k:b≤a):False:=Int.not_lt.mpr k h
theorem tt {a b:Int} (h:a<b) (k:0<b):a.toNat<b.toNat:=(Int.toNat_lt_toNat k).mpr h
theorem hv {a:Int} (h:0<a):(a / 2).toNat<a.toNat:=tt (Int.ediv_lt_of_lt_mul (by decide) (Int.mul_comm 2 a▸Int.two_mul a▸Int.lt_add_of_pos_right a h)) h
theorem sh {n i l:Nat} (h:n+i=l) (k:i<l):n-1+(i+1)=l:=by
 cases n with
 | zero=>exact absurd (Nat.zero_add i▸h) (Nat.ne_of_lt k)
 | succ n=>rw [Nat.add_sub_cancel,← h,Nat.succ_add,Nat.add_succ]
theorem nz {n l:Nat} (h:¬ n<l) (k:n-l=0):n=l:=Nat.le_antisymm (Nat.le_of_sub_eq_zero k) (Nat.not_lt.mp h)
end Lq
namespace JL
open PySem PySem.W PySem.Calls PyProof.Rows
set_option maxHeartbeats 0
noncomputable section
noncomputable abbrev pw:PySem.Program:=PySem.Challenge.pw_xx0001_12
noncomputable abbrev S (x:String):PySem.Str:=PySem.Str.ofString x
noncomputable abbrev N (o:PySem.Obj) (l r:BT):BT:=BT.node o l r
noncomputable abbrev L:BT:=BT.nil
noncomputable def bV:List PySem.Stmt:=behindTheImports pw
noncomputable def F4:Nat→List PySem.Stmt→PySem.Stmt
 | 0,s :: _=>s
 | n+1,_ :: r=>F4 n r
 | _,[]=>.Pass default
noncomputable def inner:PySem.Stmt→List PySem.Stmt
 | .ClassDef _ _ _ b _ _ _ _ _ _ _=>b
 | .FunctionDef _ _ b _ _ _ _ _ _ _=>b
 | _=>[]
noncomputable def B6:PySem.Stmt→PySem.Arguments
 | .FunctionDef _ a _ _ _ _ _ _ _ _=>a
 | _=>default
noncomputable def yY:PySem.Stmt→PySem.Scope
 | .FunctionDef _ _ _ _ _ _ s _ _ _=>s
 | _=>default
noncomputable def CP:List Nat→List PySem.Stmt→PySem.Stmt
 | [i],b=>F4 i b
 | i :: r,b=>CP r (inner (F4 i b))
 | [],_=>.Pass default
noncomputable def wU (a n:Nat) (l:List PySem.Stmt):List PySem.Stmt:=(l.drop a).take n
noncomputable def zI (i:Int):Value:=.int i (nat_lit 0)
noncomputable def sT (s:String) (n:Nat):Value:=.str (S s) n
noncomputable def rF (n:Nat):Value:=.ref n
noncomputable def kH (P:Params) (s:String):=PyData.keyHash P (S s)
noncomputable def bI (l:List Value):Obj:=⟨.type "tuple",none,.seq l.toArray (nat_lit 0),#[]⟩
noncomputable def oT:Obj:=bI []
noncomputable def oC:Obj:=⟨.none,none,.fields #[],#[]⟩
noncomputable def cu (a:String) (i:Nat) (b:String) (j:Nat) (c:String) (k:Nat) (x1 x2 x3 x4 x5:Int) (r:Nat) (f:Int) (r2 r3 r4 r5:Nat) (y1 y2:Int) (e:String) (l:Nat):Obj:=⟨.type "code",none,.fields #[sT a i,sT b j,sT c k,zI x1,zI x2,zI x3,zI x4,zI x5,rF r,.bool true,zI f,rF r2,.none,rF r3,rF r4,rF r5,zI y1,zI y2,sT e l],#[]⟩
noncomputable def bX (a b:String) (p:List Nat):Obj:=⟨.none,none,.func (.mk (S a) (S b) (B6 (CP p bV)) (.stmts (inner (CP p bV))) (yY (CP p bV)) (nat_lit 0) [] .none .none .none .none none .none .none (nat_lit 0)),#[]⟩
noncomputable def b8 (a b:String) (p:List Nat) (n:Nat) (v:Value) (c:String) (i r:Nat):Obj:=⟨.type "function",none,.func (.mk (S a) (S b) (B6 (CP p bV)) (.stmts (inner (CP p bV))) (yY (CP p bV)) n [] v .none .none (sT c i) none (rF r) .none (nat_lit 0)),#[]⟩
noncomputable def nE:Obj:=⟨.type "code",none,.fields #[sT "<module>" 182,sT "<module>" 183,sT "/claim/cut.py" 184,zI 1,zI 0,zI 0,zI 0,zI 0,rF 11,.bool false,zI 181,rF 12,.none,.none,.none,.none,zI 185,zI 1,sT "/claim/cut.py" 186],#[]⟩
noncomputable def nG:Obj:=⟨.type "frame",none,.plain,#[some (rF 13),some (rF 3),some (rF 3),none,some (sT "__main__" 164),none,some (rF 0)]⟩
noncomputable def LR (P:Params):PySem.Heap:=⟨⟨[boot_o_0 P,boot_o_1 P,boot_o_2 P,boot_o_3 P,boot_o_4 P,boot_o_5 P,boot_o_6 P,boot_o_7 P,boot_o_8 P,boot_o_9 P,boot_o_10 P,oT,oC,nE,nG]⟩,(@PySem.Life.mk (@List.nil @Nat) (@List.nil @Nat) (@List.nil @Nat) (nat_lit 0) (@List.nil (@Prod @Nat @Nat)) (@List.nil @Nat) @Bool.false (@List.toArray @Nat (@List.nil @Nat)) (@List.nil @Nat) (nat_lit 0) @Bool.false @Bool.false @Bool.false (0:Int) (@List.cons @Int (2000:Int) (@List.cons @Int (10:Int) (@List.cons @Int (10:Int) (@List.nil @Int)))) @Bool.false (nat_lit 0) @Bool.true (@List.nil @Nat) (@List.nil @Nat) (nat_lit 0) @Bool.false)⟩
noncomputable def tX:PySem.Env:={ scope:=pw.main.scope,locals:=mainNs,globals:=mainNs,cells:=[],code:=(.ref (nat_lit 13)),frame:=some (nat_lit 14) }
noncomputable def bT:PySem.Code:=.body bV tX
noncomputable def q0:PySem.Pos:=(@PySem.Pos.mk (nat_lit 0) (nat_lit 0) (nat_lit 0) (nat_lit 0))
noncomputable def LS:PySem.Pos:=(@PySem.Pos.mk (nat_lit 0) (nat_lit 0) (nat_lit 0) (nat_lit 0))
noncomputable def m0:Nat:=nat_lit 11
noncomputable def q9:Option PySem.Value:=(@Option.some @PySem.Value (.ref (nat_lit 6)))
noncomputable def Rk (w:World) (os:OsState):PySem.Shared:=⟨LR w.params,#[],(@PySem.Drawn.mk (nat_lit 0) (nat_lit 0) (nat_lit 0) (nat_lit 0)),nat_lit 187,os⟩
noncomputable def LU (P:Params):BT:=(N (boot_o_0 P) (N (boot_o_1 P) (N (boot_o_3 P) (N (boot_o_7 P) L L) (N oT L L)) (N (boot_o_5 P) (N (boot_o_9 P) L L) (N nE L L))) (N (boot_o_2 P) (N (boot_o_4 P) (N (boot_o_8 P) L L) (N oC L L)) (N (boot_o_6 P) (N (boot_o_10 P) L L) (N nG L L))))
noncomputable def PL (w:World) (os:OsState):SharedT:=⟨LU w.params,nat_lit 15,(@PySem.Life.mk (@List.nil @Nat) (@List.nil @Nat) (@List.nil @Nat) (nat_lit 0) (@List.nil (@Prod @Nat @Nat)) (@List.nil @Nat) @Bool.false (@List.toArray @Nat (@List.nil @Nat)) (@List.nil @Nat) (nat_lit 0) @Bool.false @Bool.false @Bool.false (0:Int) (@List.cons @Int (2000:Int) (@List.cons @Int (10:Int) (@List.cons @Int (10:Int) (@List.nil @Int)))) @Bool.false (nat_lit 0) @Bool.true (@List.nil @Nat) (@List.nil @Nat) (nat_lit 0) @Bool.false),#[],(@PySem.Drawn.mk (nat_lit 0) (nat_lit 0) (nat_lit 0) (nat_lit 0)),nat_lit 187,os⟩
noncomputable def Jl:PySem.Pos:=(@PySem.Pos.mk (nat_lit 0) (nat_lit 0) (nat_lit 0) (nat_lit 0))
theorem PM (w:World) (os:OsState):topGo treeTable pw w m0 q9 (nat_lit 12) ⟨boot_heap w.params,#[],boot_drawn,boot_toks,os⟩ (topStub pw)=some (Rk w os,⟨denote treeTable bT,bT,LS,[topFrame q0]⟩):=by kernel_rfl
theorem Jm (w:World) (os:OsState):segRun treeTable pw w m0 q9 1 (nat_lit 1) (Rk w os) (blockOf bV tX bT LS [topFrame q0])=some (.next,(PL w os).abs,bT,Jl):=by kernel_rfl
noncomputable def PN (P:Params):Obj:=⟨.type "dict",none,.dict #[⟨kH P "__name__",sT "__name__" 165,sT "ecdsa.ellipticcurve" 202⟩,⟨kH P "__doc__",sT "__doc__" 166,.none⟩,⟨kH P "__package__",sT "__package__" 167,.none⟩,⟨kH P "__loader__",sT "__loader__" 168,.builtin "__main__.__loader__#opaque"⟩,⟨kH P "__spec__",sT "__spec__" 169,.none⟩,⟨kH P "__annotations__",sT "__annotations__" 170,rF 6⟩,⟨kH P "__builtins__",sT "__builtins__" 171,rF 4⟩,⟨kH P "__file__",sT "__file__" 173,sT "/claim/cut.py" 172⟩,⟨kH P "__cached__",sT "__cached__" 174,.none⟩,⟨kH P "inverse_mod",sT "inverse_mod" 201,rF 21⟩] 10,#[]⟩
noncomputable def LV:Obj:=⟨.none,none,.fields #[zI 2,zI 0,rF 20],#[]⟩
noncomputable def pJ:Obj:=bI [sT "number" 192,sT "modulus" 193,sT "found" 194,sT "before" 195,sT "rest" 196,sT "divisor" 197,sT "share" 198]
noncomputable def kM:Obj:=bX "inverse_mod" "inverse_mod" [1]
noncomputable def kN:Obj:=cu "inverse_mod" 189 "inverse_mod" 190 "/claim/cut.py" 191 2 2 0 0 3 15 181 16 17 18 19 199 2 "/claim/cut.py" 200
noncomputable def kO:Obj:=b8 "inverse_mod" "inverse_mod" [1] 3 .none "ecdsa.modular" 187 20
noncomputable def LW (P:Params):BT:=(N (boot_o_0 P) (N (boot_o_1 P) (N (PN P) (N (boot_o_7 P) (N oT L L) L) (N oT (N kM L L) L)) (N (boot_o_5 P) (N (boot_o_9 P) (N pJ L L) L) (N nE (N kO L L) L))) (N (boot_o_2 P) (N (boot_o_4 P) (N (boot_o_8 P) (N oC L L) L) (N LV (N kN L L) L)) (N (boot_o_6 P) (N (boot_o_10 P) (N oT L L) L) (N nG L L))))
noncomputable def st1 (w:World) (os:OsState):SharedT:=⟨LW w.params,nat_lit 22,(@PySem.Life.mk (@List.nil @Nat) (@List.nil @Nat) (@List.nil @Nat) (nat_lit 0) (@List.nil (@Prod @Nat @Nat)) (@List.nil @Nat) @Bool.false (@List.toArray @Nat (@List.nil @Nat)) (@List.nil @Nat) (nat_lit 0) @Bool.false @Bool.false @Bool.false (0:Int) (@List.cons @Int (2000:Int) (@List.cons @Int (10:Int) (@List.cons @Int (10:Int) (@List.nil @Int)))) @Bool.false (nat_lit 0) @Bool.true (@List.nil @Nat) (@List.nil @Nat) (nat_lit 0) @Bool.false),#[],(@PySem.Drawn.mk (nat_lit 0) (nat_lit 0) (nat_lit 0) (nat_lit 0)),nat_lit 204,os⟩
noncomputable def pos1:PySem.Pos:=(@PySem.Pos.mk (nat_lit 14) (nat_lit 0) (nat_lit 14) (nat_lit 8))
noncomputable def Jo:List PySem.Stmt:=wU (nat_lit 0) (nat_lit 3) bV
theorem Jp (w:World) (os:OsState):segRunT treeTable pw w m0 q9 1 (nat_lit 54) (PL w os) (piecesOf Jo tX bT Jl [topFrame q0])=some (.next,st1 w os,bT,pos1):=by kernel_rfl
noncomputable def LX (P:Params):Obj:=⟨.type "dict",none,.dict #[⟨kH P "__name__",sT "__name__" 165,sT "ecdsa.ellipticcurve" 202⟩,⟨kH P "__doc__",sT "__doc__" 166,.none⟩,⟨kH P "__package__",sT "__package__" 167,.none⟩,⟨kH P "__loader__",sT "__loader__" 168,.builtin "__main__.__loader__#opaque"⟩,⟨kH P "__spec__",sT "__spec__" 169,.none⟩,⟨kH P "__annotations__",sT "__annotations__" 170,rF 6⟩,⟨kH P "__builtins__",sT "__builtins__" 171,rF 4⟩,⟨kH P "__file__",sT "__file__" 173,sT "/claim/cut.py" 172⟩,⟨kH P "__cached__",sT "__cached__" 174,.none⟩,⟨kH P "inverse_mod",sT "inverse_mod" 201,rF 21⟩,⟨kH P "CurveFp",sT "CurveFp" 293,rF 88⟩] 11,#[]⟩
noncomputable def Jq:Obj:=⟨.none,none,.fields #[zI 2,zI 0,rF 20,zI 15,zI 0,rF 27],#[]⟩
noncomputable def lG:Obj:=bI [.type "object"]
noncomputable def lH:Obj:=⟨.type "builtin_function_or_method",none,.fields #[.builtin "type.__prepare__",.type "type"],#[]⟩
noncomputable def lI (P:Params):Obj:=⟨.type "dict",none,.dict #[⟨kH P "__module__",sT "__module__" 211,sT "ecdsa.ellipticcurve" 202⟩,⟨kH P "__qualname__",sT "__qualname__" 213,sT "CurveFp" 212⟩,⟨kH P "__firstlineno__",sT "__firstlineno__" 215,.int 15 214⟩,⟨kH P "__init__",sT "__init__" 226,rF 36⟩,⟨kH P "__eq__",sT "__eq__" 235,rF 43⟩,⟨kH P "__ne__",sT "__ne__" 243,rF 50⟩,⟨kH P "p",sT "p" 250,rF 57⟩,⟨kH P "a",sT "a" 257,rF 64⟩,⟨kH P "b",sT "b" 264,rF 71⟩,⟨kH P "cofactor",sT "cofactor" 271,rF 78⟩,⟨kH P "contains_point",sT "contains_point" 280,rF 85⟩,⟨kH P "__static_attributes__",sT "__static_attributes__" 285,rF 86⟩] 12,#[]⟩
noncomputable def lJ:Obj:=⟨.none,none,.fields #[zI 17,zI 4,rF 35,zI 23,zI 4,rF 42,zI 29,zI 4,rF 49,zI 32,zI 4,rF 56,zI 35,zI 4,rF 63,zI 38,zI 4,rF 70,zI 41,zI 4,rF 77,zI 44,zI 4,rF 84],#[]⟩
noncomputable def lK:Obj:=⟨.type "code",none,.fields #[sT "CurveFp" 206,sT "CurveFp" 207,sT "/claim/cut.py" 208,zI 15,zI 0,zI 0,zI 0,zI 0,rF 25,.bool false,zI 181,rF 26,.none,.none,.none,.none,zI 209,zI 15,sT "/claim/cut.py" 210],#[]⟩
noncomputable def lM:Obj:=⟨.type "frame",none,.plain,#[some (rF 27),some (rF 3),some (rF 24),none,some (sT "ecdsa.ellipticcurve" 202),none,some (rF 0)]⟩
noncomputable def lN:Obj:=bI [.none]
noncomputable def lO:Obj:=bI [sT "self" 219,sT "p" 220,sT "a" 221,sT "b" 222,sT "h" 223]
noncomputable def lP:Obj:=bX "__init__" "CurveFp.__init__" [3,0]
noncomputable def lQ:Obj:=cu "__init__" 216 "CurveFp.__init__" 217 "/claim/cut.py" 218 17 5 0 0 3 30 181 31 32 33 34 224 17 "/claim/cut.py" 225
noncomputable def lR:Obj:=b8 "__init__" "CurveFp.__init__" [3,0] 3 (rF 29) "ecdsa.ellipticcurve" 202 35
noncomputable def lS:Obj:=bI [sT "self" 230,sT "other" 231,sT "p" 232]
noncomputable def lT:Obj:=bX "__eq__" "CurveFp.__eq__" [3,1]
noncomputable def lU:Obj:=cu "__eq__" 227 "CurveFp.__eq__" 228 "/claim/cut.py" 229 23 2 0 0 3 37 181 38 39 40 41 233 23 "/claim/cut.py" 234
noncomputable def lV:Obj:=b8 "__eq__" "CurveFp.__eq__" [3,1] 3 .none "ecdsa.ellipticcurve" 202 42
noncomputable def lW:Obj:=bI [sT "self" 239,sT "other" 240]
noncomputable def lX:Obj:=bX "__ne__" "CurveFp.__ne__" [3,2]
noncomputable def lY:Obj:=cu "__ne__" 236 "CurveFp.__ne__" 237 "/claim/cut.py" 238 29 2 0 0 3 44 181 45 46 47 48 241 29 "/claim/cut.py" 242
noncomputable def lZ:Obj:=b8 "__ne__" "CurveFp.__ne__" [3,2] 3 .none "ecdsa.ellipticcurve" 202 49
noncomputable def l0:Obj:=bI [sT "self" 247]
noncomputable def l6:Obj:=bX "p" "CurveFp.p" [3,3]
noncomputable def l7:Obj:=cu "p" 244 "CurveFp.p" 245 "/claim/cut.py" 246 32 1 0 0 3 51 181 52 53 54 55 248 32 "/claim/cut.py" 249
noncomputable def l8:Obj:=b8 "p" "CurveFp.p" [3,3] 3 .none "ecdsa.ellipticcurve" 202 56
noncomputable def l9:Obj:=bI [sT "self" 254]
noncomputable def mh:Obj:=bX "a" "CurveFp.a" [3,4]
noncomputable def mj:Obj:=cu "a" 251 "CurveFp.a" 252 "/claim/cut.py" 253 35 1 0 0 3 58 181 59 60 61 62 255 35 "/claim/cut.py" 256
noncomputable def mq:Obj:=b8 "a" "CurveFp.a" [3,4] 3 .none "ecdsa.ellipticcurve" 202 63
noncomputable def mw:Obj:=bI [sT "self" 261]
noncomputable def mz:Obj:=bX "b" "CurveFp.b" [3,5]
noncomputable def mC:Obj:=cu "b" 258 "CurveFp.b" 259 "/claim/cut.py" 260 38 1 0 0 3 65 181 66 67 68 69 262 38 "/claim/cut.py" 263
noncomputable def mD:Obj:=b8 "b" "CurveFp.b" [3,5] 3 .none "ecdsa.ellipticcurve" 202 70
noncomputable def mE:Obj:=bI [sT "self" 268]
noncomputable def mF:Obj:=bX "cofactor" "CurveFp.cofactor" [3,6]
noncomputable def mG:Obj:=cu "cofactor" 265 "CurveFp.cofactor" 266 "/claim/cut.py" 267 41 1 0 0 3 72 181 73 74 75 76 269 41 "/claim/cut.py" 270
noncomputable def mH:Obj:=b8 "cofactor" "CurveFp.cofactor" [3,6] 3 .none "ecdsa.ellipticcurve" 202 77
noncomputable def mJ:Obj:=bI [sT "self" 275,sT "x" 276,sT "y" 277]
noncomputable def mK:Obj:=bX "contains_point" "CurveFp.contains_point" [3,7]
noncomputable def mL:Obj:=cu "contains_point" 272 "CurveFp.contains_point" 273 "/claim/cut.py" 274 44 3 0 0 3 79 181 80 81 82 83 278 44 "/claim/cut.py" 279
noncomputable def mO:Obj:=b8 "contains_point" "CurveFp.contains_point" [3,7] 3 .none "ecdsa.ellipticcurve" 202 84
noncomputable def mP:Obj:=bI [sT "__a" 281,sT "__b" 282,sT "__h" 283,sT "__p" 284]
noncomputable def mQ (P:Params):Obj:=⟨.type "dict",none,.dict #[⟨kH P "__module__",sT "__module__" 211,sT "ecdsa.ellipticcurve" 202⟩,⟨kH P "__firstlineno__",sT "__firstlineno__" 215,.int 15 214⟩,⟨kH P "__init__",sT "__init__" 226,rF 36⟩,⟨kH P "__eq__",sT "__eq__" 235,rF 43⟩,⟨kH P "__ne__",sT "__ne__" 243,rF 50⟩,⟨kH P "p",sT "p" 250,rF 57⟩,⟨kH P "a",sT "a" 257,rF 64⟩,⟨kH P "b",sT "b" 264,rF 71⟩,⟨kH P "cofactor",sT "cofactor" 271,rF 78⟩,⟨kH P "contains_point",sT "contains_point" 280,rF 85⟩,⟨kH P "__static_attributes__",sT "__static_attributes__" 285,rF 86⟩,⟨kH P "__dict__",sT "__dict__" 287,rF 89⟩,⟨kH P "__weakref__",sT "__weakref__" 289,rF 90⟩,⟨kH P "__doc__",sT "__doc__" 290,.none⟩,⟨kH P "__hash__",sT "__hash__" 291,.none⟩] 5,#[]⟩
noncomputable def mR:Obj:=⟨.type "type",none,.cls (ClassData.mk (S "CurveFp") [.type "object"] [rF 88,.type "object"] 87 (S "CurveFp") true [] [] false none false),#[some (rF 22),none,some (sT "CurveFp" 204),some (sT "CurveFp" 212),some (.builtin "object.__new__"),some (.bool true)]⟩
noncomputable def mS:Obj:=⟨.type "getset_descriptor",none,.fields #[sT "__dict__" 286,rF 88,.builtin "function.__dict__",.builtin "function.__dict__#set"],#[]⟩
noncomputable def mT:Obj:=⟨.type "getset_descriptor",none,.fields #[sT "__weakref__" 288,rF 88,.builtin "ExceptionGroup.__weakref__",.none],#[]⟩
noncomputable def mU:Obj:=⟨.type "super",none,.fields #[rF 88,rF 88,rF 88],#[]⟩
noncomputable def mV:Obj:=⟨.type "builtin_function_or_method",none,.fields #[.builtin "object.__init_subclass__",rF 88],#[]⟩
noncomputable def LY (P:Params):BT:=(N (boot_o_0 P) (N (boot_o_1 P) (N (LX P) (N (boot_o_7 P) (N oT (N oC (N mj L L) L) (N oT (N oT L L) L)) (N lH (N lS (N mD L L) L) (N l6 (N (mQ P) L L) L))) (N oT (N kM (N lQ (N mw L L) L) (N oT (N mK L L) L)) (N lK (N lV (N oT L L) L) (N oC (N mU L L) L)))) (N (boot_o_5 P) (N (boot_o_9 P) (N pJ (N oT (N oT L L) L) (N lY (N mJ L L) L)) (N oT (N lT (N oC L L) L) (N l8 (N mS L L) L))) (N nE (N kO (N oT (N mz L L) L) (N l0 (N mO L L) L)) (N lN (N oC (N mG L L) L) (N oT L L))))) (N (boot_o_2 P) (N (boot_o_4 P) (N (boot_o_8 P) (N oC (N lO (N mq L L) L) (N lX (N oC L L) L)) (N (lI P) (N oT (N oT L L) L) (N l7 (N mR L L) L))) (N Jq (N kN (N lR (N oT L L) L) (N oC (N mL L L) L)) (N lM (N oT (N mF L L) L) (N l9 (N mV L L) L)))) (N (boot_o_6 P) (N (boot_o_10 P) (N oT (N lP (N oC L L) L) (N lZ (N oT L L) L)) (N lJ (N lU (N mE L L) L) (N oT (N mT L L) L))) (N nG (N lG (N oC (N mC L L) L) (N oT (N mP L L) L)) (N oT (N lW (N mH L L) L) (N mh L L))))))
noncomputable def st2 (w:World) (os:OsState):SharedT:=⟨LY w.params,nat_lit 93,(@PySem.Life.mk (@List.nil @Nat) (@List.nil @Nat) (@List.nil @Nat) (nat_lit 0) (@List.nil (@Prod @Nat @Nat)) (@List.nil @Nat) @Bool.false (@List.toArray @Nat (@List.nil @Nat)) (@List.nil @Nat) (nat_lit 0) @Bool.false @Bool.false @Bool.false (0:Int) (@List.cons @Int (2000:Int) (@List.cons @Int (10:Int) (@List.cons @Int (10:Int) (@List.nil @Int)))) @Bool.false (nat_lit 0) @Bool.true (@List.nil @Nat) (@List.nil @Nat) (nat_lit 0) @Bool.false),#[],(@PySem.Drawn.mk (nat_lit 0) (nat_lit 0) (nat_lit 0) (nat_lit 0)),nat_lit 294,os⟩
noncomputable def pos2:PySem.Pos:=(@PySem.Pos.mk (nat_lit 15) (nat_lit 0) (nat_lit 45) (nat_lit 76))
noncomputable def F5:List PySem.Stmt:=wU (nat_lit 3) (nat_lit 1) bV
theorem Jr (w:World) (os:OsState):segRunT treeTable pw w m0 q9 1 (nat_lit 462) (st1 w os) (piecesOf F5 tX bT pos1 [topFrame q0])=some (.next,st2 w os,bT,pos2):=by kernel_rfl
noncomputable def LZ (P:Params):Obj:=⟨.type "dict",none,.dict #[⟨kH P "__name__",sT "__name__" 165,sT "ecdsa.ellipticcurve" 202⟩,⟨kH P "__doc__",sT "__doc__" 166,.none⟩,⟨kH P "__package__",sT "__package__" 167,.none⟩,⟨kH P "__loader__",sT "__loader__" 168,.builtin "__main__.__loader__#opaque"⟩,⟨kH P "__spec__",sT "__spec__" 169,.none⟩,⟨kH P "__annotations__",sT "__annotations__" 170,rF 6⟩,⟨kH P "__builtins__",sT "__builtins__" 171,rF 4⟩,⟨kH P "__file__",sT "__file__" 173,sT "/claim/cut.py" 172⟩,⟨kH P "__cached__",sT "__cached__" 174,.none⟩,⟨kH P "inverse_mod",sT "inverse_mod" 201,rF 21⟩,⟨kH P "CurveFp",sT "CurveFp" 293,rF 88⟩,⟨kH P "AbstractPoint",sT "AbstractPoint" 334,rF 112⟩] 12,#[]⟩
noncomputable def Js:Obj:=⟨.none,none,.fields #[zI 2,zI 0,rF 20,zI 15,zI 0,rF 27,zI 46,zI 0,rF 98],#[]⟩
noncomputable def nH:Obj:=bI [.type "object"]
noncomputable def nI:Obj:=⟨.type "builtin_function_or_method",none,.fields #[.builtin "type.__prepare__",.type "type"],#[]⟩
noncomputable def nJ (P:Params):Obj:=⟨.type "dict",none,.dict #[⟨kH P "__module__",sT "__module__" 301,sT "ecdsa.ellipticcurve" 202⟩,⟨kH P "__qualname__",sT "__qualname__" 303,sT "AbstractPoint" 302⟩,⟨kH P "__firstlineno__",sT "__firstlineno__" 305,.int 46 304⟩,⟨kH P "_naf",sT "_naf" 326,rF 108⟩,⟨kH P "__static_attributes__",sT "__static_attributes__" 327,rF 110⟩] 5,#[]⟩
noncomputable def nK:Obj:=⟨.none,none,.fields #[zI 49,zI 4,rF 105],#[]⟩
noncomputable def nL:Obj:=⟨.type "code",none,.fields #[sT "AbstractPoint" 296,sT "AbstractPoint" 297,sT "/claim/cut.py" 298,zI 46,zI 0,zI 0,zI 0,zI 0,rF 96,.bool false,zI 181,rF 97,.none,.none,.none,.none,zI 299,zI 46,sT "/claim/cut.py" 300],#[]⟩
noncomputable def nM:Obj:=⟨.type "frame",none,.plain,#[some (rF 98),some (rF 3),some (rF 95),none,some (sT "ecdsa.ellipticcurve" 202),none,some (rF 0)]⟩
noncomputable def iV:Obj:=bI [sT "mult" 309,sT "ret" 310,sT "nd" 311]
noncomputable def iW:Obj:=bX "_naf" "AbstractPoint._naf" [4,0]
noncomputable def cH:Obj:=cu "_naf" 306 "AbstractPoint._naf" 307 "/claim/cut.py" 308 48 1 0 0 3 100 181 101 102 103 104 312 48 "/claim/cut.py" 313
noncomputable def cI:Obj:=⟨.type "function",none,.func (.mk (S "_naf") (S "AbstractPoint._naf") (B6 (CP [4,0] bV)) (.stmts (inner (CP [4,0] bV))) (yY (CP [4,0] bV)) 3 [] .none .none .none (sT "ecdsa.ellipticcurve" 202) (some 109) (rF 105) .none 0),#[]⟩
noncomputable def cJ (P:Params):Obj:=⟨.type "dict",none,.dict #[⟨kH P "__module__",sT "__module__" 315,sT "ecdsa.ellipticcurve" 202⟩,⟨kH P "__name__",sT "__name__" 318,sT "_naf" 317⟩,⟨kH P "__qualname__",sT "__qualname__" 321,sT "AbstractPoint._naf" 320⟩,⟨kH P "__doc__",sT "__doc__" 323,.none⟩,⟨kH P "__annotations__",sT "__annotations__" 325,rF 109⟩] 5,#[]⟩
noncomputable def cK:Obj:=⟨.type "staticmethod",some 107,.fields #[rF 106,.bool false],#[]⟩
noncomputable def cL:Obj:=⟨.type "dict",none,.dict #[] 0,#[]⟩
noncomputable def cM (P:Params):Obj:=⟨.type "dict",none,.dict #[⟨kH P "__module__",sT "__module__" 301,sT "ecdsa.ellipticcurve" 202⟩,⟨kH P "__firstlineno__",sT "__firstlineno__" 305,.int 46 304⟩,⟨kH P "_naf",sT "_naf" 326,rF 108⟩,⟨kH P "__static_attributes__",sT "__static_attributes__" 327,rF 110⟩,⟨kH P "__dict__",sT "__dict__" 329,rF 113⟩,⟨kH P "__weakref__",sT "__weakref__" 331,rF 114⟩,⟨kH P "__doc__",sT "__doc__" 332,.none⟩] 4,#[]⟩
noncomputable def DS:Obj:=⟨.type "type",none,.cls (ClassData.mk (S "AbstractPoint") [.type "object"] [rF 112,.type "object"] 111 (S "AbstractPoint") true [] [] false none false),#[some (rF 93),none,some (sT "AbstractPoint" 294),some (sT "AbstractPoint" 302),some (.builtin "object.__new__"),some (.bool true)]⟩
noncomputable def cN:Obj:=⟨.type "getset_descriptor",none,.fields #[sT "__dict__" 328,rF 112,.builtin "function.__dict__",.builtin "function.__dict__#set"],#[]⟩
noncomputable def cO:Obj:=⟨.type "getset_descriptor",none,.fields #[sT "__weakref__" 330,rF 112,.builtin "ExceptionGroup.__weakref__",.none],#[]⟩
noncomputable def cP:Obj:=⟨.type "super",none,.fields #[rF 112,rF 112,rF 112],#[]⟩
noncomputable def cQ:Obj:=⟨.type "builtin_function_or_method",none,.fields #[.builtin "object.__init_subclass__",rF 112],#[]⟩
noncomputable def Ma (P:Params):BT:=(N (boot_o_0 P) (N (boot_o_1 P) (N (LZ P) (N (boot_o_7 P) (N oT (N oC (N mj L L) (N (nJ P) L L)) (N oT (N oT L L) (N (cM P) L L))) (N lH (N lS (N mD L L) (N oT L L)) (N l6 (N (mQ P) L L) L))) (N oT (N kM (N lQ (N mw L L) (N nM L L)) (N oT (N mK L L) (N cP L L))) (N lK (N lV (N oT L L) (N (cJ P) L L)) (N oC (N mU L L) L)))) (N (boot_o_5 P) (N (boot_o_9 P) (N pJ (N oT (N oT L L) (N nK L L)) (N lY (N mJ L L) (N cN L L))) (N oT (N lT (N oC L L) (N cH L L)) (N l8 (N mS L L) L))) (N nE (N kO (N oT (N mz L L) (N oC L L)) (N l0 (N mO L L) L)) (N lN (N oC (N mG L L) (N cL L L)) (N oT (N nH L L) L))))) (N (boot_o_2 P) (N (boot_o_4 P) (N (boot_o_8 P) (N oC (N lO (N mq L L) (N oT L L)) (N lX (N oC L L) (N DS L L))) (N (lI P) (N oT (N oT L L) (N iW L L)) (N l7 (N mR L L) L))) (N Js (N kN (N lR (N oT L L) (N oT L L)) (N oC (N mL L L) (N cQ L L))) (N lM (N oT (N mF L L) (N cK L L)) (N l9 (N mV L L) L)))) (N (boot_o_6 P) (N (boot_o_10 P) (N oT (N lP (N oC L L) (N nL L L)) (N lZ (N oT L L) (N cO L L))) (N lJ (N lU (N mE L L) (N cI L L)) (N oT (N mT L L) L))) (N nG (N lG (N oC (N mC L L) (N iV L L)) (N oT (N mP L L) L)) (N oT (N lW (N mH L L) (N oT L L)) (N mh (N nI L L) L))))))
noncomputable def st3 (w:World) (os:OsState):SharedT:=⟨Ma w.params,nat_lit 117,(@PySem.Life.mk (@List.nil @Nat) (@List.nil @Nat) (@List.nil @Nat) (nat_lit 0) (@List.nil (@Prod @Nat @Nat)) (@List.nil @Nat) @Bool.false (@List.toArray @Nat (@List.nil @Nat)) (@List.nil @Nat) (nat_lit 0) @Bool.false @Bool.false @Bool.false (0:Int) (@List.cons @Int (2000:Int) (@List.cons @Int (10:Int) (@List.cons @Int (10:Int) (@List.nil @Int)))) @Bool.false (nat_lit 0) @Bool.true (@List.nil @Nat) (@List.nil @Nat) (nat_lit 0) @Bool.false),#[],(@PySem.Drawn.mk (nat_lit 0) (nat_lit 0) (nat_lit 0) (nat_lit 0)),nat_lit 335,os⟩
noncomputable def Mb:PySem.Pos:=(@PySem.Pos.mk (nat_lit 46) (nat_lit 0) (nat_lit 61) (nat_lit 18))
noncomputable def DT:List PySem.Stmt:=wU (nat_lit 4) (nat_lit 1) bV
theorem Jt (w:World) (os:OsState):segRunT treeTable pw w m0 q9 1 (nat_lit 359) (st2 w os) (piecesOf DT tX bT pos2 [topFrame q0])=some (.next,st3 w os,bT,Mb):=by kernel_rfl
noncomputable def Ju (P:Params):Obj:=⟨.type "dict",none,.dict #[⟨kH P "__name__",sT "__name__" 165,sT "ecdsa.ellipticcurve" 202⟩,⟨kH P "__doc__",sT "__doc__" 166,.none⟩,⟨kH P "__package__",sT "__package__" 167,.none⟩,⟨kH P "__loader__",sT "__loader__" 168,.builtin "__main__.__loader__#opaque"⟩,⟨kH P "__spec__",sT "__spec__" 169,.none⟩,⟨kH P "__annotations__",sT "__annotations__" 170,rF 6⟩,⟨kH P "__builtins__",sT "__builtins__" 171,rF 4⟩,⟨kH P "__file__",sT "__file__" 173,sT "/claim/cut.py" 172⟩,⟨kH P "__cached__",sT "__cached__" 174,.none⟩,⟨kH P "inverse_mod",sT "inverse_mod" 201,rF 21⟩,⟨kH P "CurveFp",sT "CurveFp" 293,rF 88⟩,⟨kH P "AbstractPoint",sT "AbstractPoint" 334,rF 112⟩,⟨kH P "PointJacobi",sT "PointJacobi" 769,rF 313⟩] 13,#[]⟩
noncomputable def F6:Obj:=⟨.none,none,.fields #[zI 2,zI 0,rF 20,zI 15,zI 0,rF 27,zI 46,zI 0,rF 98,zI 62,zI 0,rF 122],#[]⟩
noncomputable def DU:Obj:=⟨.type "type",none,.cls (ClassData.mk (S "AbstractPoint") [.type "object"] [rF 112,.type "object"] 111 (S "AbstractPoint") true [] [rF 313] false none false),#[some (rF 93),none,some (sT "AbstractPoint" 294),some (sT "AbstractPoint" 302),some (.builtin "object.__new__"),some (.bool true)]⟩
noncomputable def di:Obj:=bI [rF 112]
noncomputable def dj:Obj:=⟨.type "builtin_function_or_method",none,.fields #[.builtin "type.__prepare__",.type "type"],#[]⟩
noncomputable def dw (P:Params):Obj:=⟨.type "dict",none,.dict #[⟨kH P "__module__",sT "__module__" 342,sT "ecdsa.ellipticcurve" 202⟩,⟨kH P "__qualname__",sT "__qualname__" 344,sT "PointJacobi" 343⟩,⟨kH P "__firstlineno__",sT "__firstlineno__" 346,.int 62 345⟩,⟨kH P "__init__",sT "__init__" 359,rF 131⟩,⟨kH P "_maybe_precompute",sT "_maybe_precompute" 373,rF 138⟩,⟨kH P "__eq__",sT "__eq__" 390,rF 145⟩,⟨kH P "__ne__",sT "__ne__" 398,rF 152⟩,⟨kH P "order",sT "order" 405,rF 159⟩,⟨kH P "curve",sT "curve" 412,rF 166⟩,⟨kH P "x",sT "x" 423,rF 173⟩,⟨kH P "y",sT "y" 434,rF 180⟩,⟨kH P "scale",sT "scale" 447,rF 187⟩,⟨kH P "to_affine",sT "to_affine" 459,rF 194⟩,⟨kH P "from_affine",sT "from_affine" 479,rF 204⟩,⟨kH P "_double_with_z_1",sT "_double_with_z_1" 498,rF 212⟩,⟨kH P "_double",sT "_double" 519,rF 219⟩,⟨kH P "double",sT "double" 534,rF 226⟩,⟨kH P "_add_with_z_1",sT "_add_with_z_1" 555,rF 233⟩,⟨kH P "_add_with_z_eq",sT "_add_with_z_eq" 575,rF 240⟩,⟨kH P "_add_with_z2_1",sT "_add_with_z2_1" 600,rF 247⟩,⟨kH P "_add_with_z_ne",sT "_add_with_z_ne" 628,rF 254⟩,⟨kH P "__radd__",sT "__radd__" 636,rF 261⟩,⟨kH P "_add",sT "_add" 650,rF 268⟩,⟨kH P "__add__",sT "__add__" 668,rF 275⟩,⟨kH P "__rmul__",sT "__rmul__" 676,rF 282⟩,⟨kH P "_mul_precompute",sT "_mul_precompute" 691,rF 289⟩,⟨kH P "__mul__",sT "__mul__" 710,rF 296⟩,⟨kH P "mul_add",sT "mul_add" 749,rF 303⟩,⟨kH P "__neg__",sT "__neg__" 759,rF 310⟩,⟨kH P "__static_attributes__",sT "__static_attributes__" 765,rF 311⟩] 30,#[]⟩
noncomputable def dz:Obj:=⟨.none,none,.fields (List.toArray ((zI 64) :: (zI 4) :: (rF 130) :: (zI 71) :: (zI 4) :: (rF 137) :: (zI 89) :: (zI 4) :: (rF 144) :: (zI 106) :: (zI 4) :: (rF 151) :: (zI 109) :: (zI 4) :: (rF 158) :: (zI 112) :: (zI 4) :: (rF 165) :: (zI 115) :: (zI 4) :: (rF 172) :: (zI 123) :: (zI 4) :: (rF 179) :: (zI 131) :: (zI 4) :: (rF 186) :: (zI 143) :: (zI 4) :: (rF 193) :: (zI 154) :: (zI 4) :: (rF 201) :: (zI 157) :: (zI 4) :: (rF 211) :: (zI 169) :: (zI 4) :: (rF 218) :: (zI 186) :: (zI 4) :: (rF 225) :: (zI 196) :: (zI 4) :: (rF 232) :: (zI 210) :: (zI 4) :: (rF 239) :: (zI 222) :: (zI 4) :: (rF 246) :: (zI 238) :: (zI 4) :: (rF 253) :: (zI 257) :: (zI 4) :: (rF 260) :: (zI 260) :: (zI 4) :: (rF 267) :: (zI 275) :: (zI 4) :: (rF 274) :: (zI 292) :: (zI 4) :: (rF 281) :: (zI 295) :: (zI 4) :: (rF 288) :: (zI 312) :: (zI 4) :: (rF 295) :: (zI 338) :: (zI 4) :: (rF 302) :: (zI 403) :: (zI 4) :: (rF 309) :: [])),#[]⟩
noncomputable def dD:Obj:=⟨.type "code",none,.fields #[sT "PointJacobi" 337,sT "PointJacobi" 338,sT "/claim/cut.py" 339,zI 62,zI 0,zI 0,zI 0,zI 0,rF 120,.bool false,zI 181,rF 121,.none,.none,.none,.none,zI 340,zI 62,sT "/claim/cut.py" 341],#[]⟩
noncomputable def dF:Obj:=⟨.type "frame",none,.plain,#[some (rF 122),some (rF 3),some (rF 119),none,some (sT "ecdsa.ellipticcurve" 202),none,some (rF 0)]⟩
noncomputable def dG:Obj:=bI [.none,.bool false]
noncomputable def dJ:Obj:=bI [sT "self" 350,sT "curve" 351,sT "x" 352,sT "y" 353,sT "z" 354,sT "order" 355,sT "generator" 356]
noncomputable def dM:Obj:=bX "__init__" "PointJacobi.__init__" [5,0]
noncomputable def dR:Obj:=cu "__init__" 347 "PointJacobi.__init__" 348 "/claim/cut.py" 349 64 7 0 0 3 125 181 126 127 128 129 357 64 "/claim/cut.py" 358
noncomputable def dS:Obj:=b8 "__init__" "PointJacobi.__init__" [5,0] 3 (rF 124) "ecdsa.ellipticcurve" 202 130
noncomputable def dU:Obj:=bI [sT "self" 363,sT "order" 364,sT "precompute" 365,sT "i" 366,sT "coord_x" 367,sT "coord_y" 368,sT "coord_z" 369,sT "doubler" 370]
noncomputable def dW:Obj:=bX "_maybe_precompute" "PointJacobi._maybe_precompute" [5,1]
noncomputable def dX:Obj:=cu "_maybe_precompute" 360 "PointJacobi._maybe_precompute" 361 "/claim/cut.py" 362 71 1 0 0 3 132 181 133 134 135 136 371 71 "/claim/cut.py" 372
noncomputable def dY:Obj:=b8 "_maybe_precompute" "PointJacobi._maybe_precompute" [5,1] 3 .none "ecdsa.ellipticcurve" 202 137
noncomputable def dZ:Obj:=bI [sT "self" 377,sT "other" 378,sT "x1" 379,sT "y1" 380,sT "z1" 381,sT "x2" 382,sT "y2" 383,sT "z2" 384,sT "p" 385,sT "zz1" 386,sT "zz2" 387]
noncomputable def d7:Obj:=bX "__eq__" "PointJacobi.__eq__" [5,2]
noncomputable def d8:Obj:=cu "__eq__" 374 "PointJacobi.__eq__" 375 "/claim/cut.py" 376 89 2 0 0 3 139 181 140 141 142 143 388 89 "/claim/cut.py" 389
noncomputable def d9:Obj:=b8 "__eq__" "PointJacobi.__eq__" [5,2] 3 .none "ecdsa.ellipticcurve" 202 144
noncomputable def eu:Obj:=bI [sT "self" 394,sT "other" 395]
noncomputable def ez:Obj:=bX "__ne__" "PointJacobi.__ne__" [5,3]
noncomputable def eB:Obj:=cu "__ne__" 391 "PointJacobi.__ne__" 392 "/claim/cut.py" 393 106 2 0 0 3 146 181 147 148 149 150 396 106 "/claim/cut.py" 397
noncomputable def eE:Obj:=b8 "__ne__" "PointJacobi.__ne__" [5,3] 3 .none "ecdsa.ellipticcurve" 202 151
noncomputable def eF:Obj:=bI [sT "self" 402]
noncomputable def eG:Obj:=bX "order" "PointJacobi.order" [5,4]
noncomputable def eN:Obj:=cu "order" 399 "PointJacobi.order" 400 "/claim/cut.py" 401 109 1 0 0 3 153 181 154 155 156 157 403 109 "/claim/cut.py" 404
noncomputable def eO:Obj:=b8 "order" "PointJacobi.order" [5,4] 3 .none "ecdsa.ellipticcurve" 202 158
noncomputable def eU:Obj:=bI [sT "self" 409]
noncomputable def eW:Obj:=bX "curve" "PointJacobi.curve" [5,5]
noncomputable def eZ:Obj:=cu "curve" 406 "PointJacobi.curve" 407 "/claim/cut.py" 408 112 1 0 0 3 160 181 161 162 163 164 410 112 "/claim/cut.py" 411
noncomputable def fc:Obj:=b8 "curve" "PointJacobi.curve" [5,5] 3 .none "ecdsa.ellipticcurve" 202 165
noncomputable def fh:Obj:=bI [sT "self" 416,sT "x" 417,sT "_" 418,sT "z" 419,sT "p" 420]
noncomputable def fj:Obj:=bX "x" "PointJacobi.x" [5,6]
noncomputable def fk:Obj:=cu "x" 413 "PointJacobi.x" 414 "/claim/cut.py" 415 115 1 0 0 3 167 181 168 169 170 171 421 115 "/claim/cut.py" 422
noncomputable def fm:Obj:=b8 "x" "PointJacobi.x" [5,6] 3 .none "ecdsa.ellipticcurve" 202 172
noncomputable def fq:Obj:=bI [sT "self" 427,sT "_" 428,sT "y" 429,sT "z" 430,sT "p" 431]
noncomputable def fu:Obj:=bX "y" "PointJacobi.y" [5,7]
noncomputable def fy:Obj:=cu "y" 424 "PointJacobi.y" 425 "/claim/cut.py" 426 123 1 0 0 3 174 181 175 176 177 178 432 123 "/claim/cut.py" 433
noncomputable def fz:Obj:=b8 "y" "PointJacobi.y" [5,7] 3 .none "ecdsa.ellipticcurve" 202 179
noncomputable def fC:Obj:=bI [sT "self" 438,sT "x" 439,sT "y" 440,sT "z" 441,sT "p" 442,sT "z_inv" 443,sT "zz_inv" 444]
noncomputable def fE:Obj:=bX "scale" "PointJacobi.scale" [5,8]
noncomputable def fF:Obj:=cu "scale" 435 "PointJacobi.scale" 436 "/claim/cut.py" 437 131 1 0 0 3 181 181 182 183 184 185 445 131 "/claim/cut.py" 446
noncomputable def fG:Obj:=b8 "scale" "PointJacobi.scale" [5,8] 3 .none "ecdsa.ellipticcurve" 202 186
noncomputable def fJ:Obj:=bI [sT "self" 451,sT "_" 452,sT "z" 453,sT "p" 454,sT "x" 455,sT "y" 456]
noncomputable def fK:Obj:=bX "to_affine" "PointJacobi.to_affine" [5,9]
noncomputable def fL:Obj:=cu "to_affine" 448 "PointJacobi.to_affine" 449 "/claim/cut.py" 450 143 1 0 0 3 188 181 189 190 191 192 457 143 "/claim/cut.py" 458
noncomputable def fM:Obj:=b8 "to_affine" "PointJacobi.to_affine" [5,9] 3 .none "ecdsa.ellipticcurve" 202 193
noncomputable def fN:Obj:=bI [.bool false]
noncomputable def fO:Obj:=bI [sT "point" 463,sT "generator" 464]
noncomputable def fQ:Obj:=bX "from_affine" "PointJacobi.from_affine" [5,10]
noncomputable def fR:Obj:=cu "from_affine" 460 "PointJacobi.from_affine" 461 "/claim/cut.py" 462 153 2 0 0 3 196 181 197 198 199 200 465 153 "/claim/cut.py" 466
noncomputable def fS:Obj:=⟨.type "function",none,.func (.mk (S "from_affine") (S "PointJacobi.from_affine") (B6 (CP [5,10] bV)) (.stmts (inner (CP [5,10] bV))) (yY (CP [5,10] bV)) 3 [] (rF 195) .none .none (sT "ecdsa.ellipticcurve" 202) (some 205) (rF 201) .none 0),#[]⟩
noncomputable def fT (P:Params):Obj:=⟨.type "dict",none,.dict #[⟨kH P "__module__",sT "__module__" 468,sT "ecdsa.ellipticcurve" 202⟩,⟨kH P "__name__",sT "__name__" 471,sT "from_affine" 470⟩,⟨kH P "__qualname__",sT "__qualname__" 474,sT "PointJacobi.from_affine" 473⟩,⟨kH P "__doc__",sT "__doc__" 476,.none⟩,⟨kH P "__annotations__",sT "__annotations__" 478,rF 205⟩] 5,#[]⟩
noncomputable def fU:Obj:=⟨.type "staticmethod",some 203,.fields #[rF 202,.bool false],#[]⟩
noncomputable def fV:Obj:=⟨.type "dict",none,.dict #[] 0,#[]⟩
noncomputable def fW:Obj:=bI [sT "self" 483,sT "X1" 484,sT "Y1" 485,sT "p" 486,sT "a" 487,sT "XX" 488,sT "YY" 489,sT "YYYY" 490,sT "S" 491,sT "M" 492,sT "T" 493,sT "Y3" 494,sT "Z3" 495]
noncomputable def fX:Obj:=bX "_double_with_z_1" "PointJacobi._double_with_z_1" [5,11]
noncomputable def fY:Obj:=cu "_double_with_z_1" 480 "PointJacobi._double_with_z_1" 481 "/claim/cut.py" 482 157 5 0 0 3 206 181 207 208 209 210 496 157 "/claim/cut.py" 497
noncomputable def fZ:Obj:=b8 "_double_with_z_1" "PointJacobi._double_with_z_1" [5,11] 3 .none "ecdsa.ellipticcurve" 202 211
noncomputable def gb:Obj:=bI [sT "self" 502,sT "X1" 503,sT "Y1" 504,sT "Z1" 505,sT "p" 506,sT "a" 507,sT "XX" 508,sT "YY" 509,sT "YYYY" 510,sT "ZZ" 511,sT "S" 512,sT "M" 513,sT "T" 514,sT "Y3" 515,sT "Z3" 516]
noncomputable def gc:Obj:=bX "_double" "PointJacobi._double" [5,12]
noncomputable def gg:Obj:=cu "_double" 499 "PointJacobi._double" 500 "/claim/cut.py" 501 169 6 0 0 3 213 181 214 215 216 217 517 169 "/claim/cut.py" 518
noncomputable def gh:Obj:=b8 "_double" "PointJacobi._double" [5,12] 3 .none "ecdsa.ellipticcurve" 202 218
noncomputable def gi:Obj:=bI [sT "self" 523,sT "X1" 524,sT "Y1" 525,sT "Z1" 526,sT "p" 527,sT "a" 528,sT "X3" 529,sT "Y3" 530,sT "Z3" 531]
noncomputable def gj:Obj:=bX "double" "PointJacobi.double" [5,13]
noncomputable def gk:Obj:=cu "double" 520 "PointJacobi.double" 521 "/claim/cut.py" 522 186 1 0 0 3 220 181 221 222 223 224 532 186 "/claim/cut.py" 533
noncomputable def gm:Obj:=b8 "double" "PointJacobi.double" [5,13] 3 .none "ecdsa.ellipticcurve" 202 225
noncomputable def gp:Obj:=bI [sT "self" 538,sT "X1" 539,sT "Y1" 540,sT "X2" 541,sT "Y2" 542,sT "p" 543,sT "H" 544,sT "HH" 545,sT "I" 546,sT "J" 547,sT "r" 548,sT "V" 549,sT "X3" 550,sT "Y3" 551,sT "Z3" 552]
noncomputable def gq:Obj:=bX "_add_with_z_1" "PointJacobi._add_with_z_1" [5,14]
noncomputable def gr:Obj:=cu "_add_with_z_1" 535 "PointJacobi._add_with_z_1" 536 "/claim/cut.py" 537 196 6 0 0 3 227 181 228 229 230 231 553 196 "/claim/cut.py" 554
noncomputable def gu:Obj:=b8 "_add_with_z_1" "PointJacobi._add_with_z_1" [5,14] 3 .none "ecdsa.ellipticcurve" 202 232
noncomputable def gv:Obj:=bI [sT "self" 559,sT "X1" 560,sT "Y1" 561,sT "Z1" 562,sT "X2" 563,sT "Y2" 564,sT "p" 565,sT "A" 566,sT "B" 567,sT "C" 568,sT "D" 569,sT "X3" 570,sT "Y3" 571,sT "Z3" 572]
noncomputable def gw:Obj:=bX "_add_with_z_eq" "PointJacobi._add_with_z_eq" [5,15]
noncomputable def gx:Obj:=cu "_add_with_z_eq" 556 "PointJacobi._add_with_z_eq" 557 "/claim/cut.py" 558 210 7 0 0 3 234 181 235 236 237 238 573 210 "/claim/cut.py" 574
noncomputable def gy:Obj:=b8 "_add_with_z_eq" "PointJacobi._add_with_z_eq" [5,15] 3 .none "ecdsa.ellipticcurve" 202 239
noncomputable def gz:Obj:=bI [sT "self" 579,sT "X1" 580,sT "Y1" 581,sT "Z1" 582,sT "X2" 583,sT "Y2" 584,sT "p" 585,sT "Z1Z1" 586,sT "U2" 587,sT "S2" 588,sT "H" 589,sT "HH" 590,sT "I" 591,sT "J" 592,sT "r" 593,sT "V" 594,sT "X3" 595,sT "Y3" 596,sT "Z3" 597]
noncomputable def gA:Obj:=bX "_add_with_z2_1" "PointJacobi._add_with_z2_1" [5,16]
noncomputable def gB:Obj:=cu "_add_with_z2_1" 576 "PointJacobi._add_with_z2_1" 577 "/claim/cut.py" 578 222 7 0 0 3 241 181 242 243 244 245 598 222 "/claim/cut.py" 599
noncomputable def gC:Obj:=b8 "_add_with_z2_1" "PointJacobi._add_with_z2_1" [5,16] 3 .none "ecdsa.ellipticcurve" 202 246
noncomputable def gD:Obj:=bI [sT "self" 604,sT "X1" 605,sT "Y1" 606,sT "Z1" 607,sT "X2" 608,sT "Y2" 609,sT "Z2" 610,sT "p" 611,sT "Z1Z1" 612,sT "Z2Z2" 613,sT "U1" 614,sT "U2" 615,sT "S1" 616,sT "S2" 617,sT "H" 618,sT "I" 619,sT "J" 620,sT "r" 621,sT "V" 622,sT "X3" 623,sT "Y3" 624,sT "Z3" 625]
noncomputable def gE:Obj:=bX "_add_with_z_ne" "PointJacobi._add_with_z_ne" [5,17]
noncomputable def gF:Obj:=cu "_add_with_z_ne" 601 "PointJacobi._add_with_z_ne" 602 "/claim/cut.py" 603 238 8 0 0 3 248 181 249 250 251 252 626 238 "/claim/cut.py" 627
noncomputable def gG:Obj:=b8 "_add_with_z_ne" "PointJacobi._add_with_z_ne" [5,17] 3 .none "ecdsa.ellipticcurve" 202 253
noncomputable def gH:Obj:=bI [sT "self" 632,sT "other" 633]
noncomputable def gI:Obj:=bX "__radd__" "PointJacobi.__radd__" [5,18]
noncomputable def gJ:Obj:=cu "__radd__" 629 "PointJacobi.__radd__" 630 "/claim/cut.py" 631 257 2 0 0 3 255 181 256 257 258 259 634 257 "/claim/cut.py" 635
noncomputable def gK:Obj:=b8 "__radd__" "PointJacobi.__radd__" [5,18] 3 .none "ecdsa.ellipticcurve" 202 260
noncomputable def gM:Obj:=bI [sT "self" 640,sT "X1" 641,sT "Y1" 642,sT "Z1" 643,sT "X2" 644,sT "Y2" 645,sT "Z2" 646,sT "p" 647]
noncomputable def gO:Obj:=bX "_add" "PointJacobi._add" [5,19]
noncomputable def gP:Obj:=cu "_add" 637 "PointJacobi._add" 638 "/claim/cut.py" 639 260 8 0 0 3 262 181 263 264 265 266 648 260 "/claim/cut.py" 649
noncomputable def gQ:Obj:=b8 "_add" "PointJacobi._add" [5,19] 3 .none "ecdsa.ellipticcurve" 202 267
noncomputable def gR:Obj:=bI [sT "self" 654,sT "other" 655,sT "p" 656,sT "X1" 657,sT "Y1" 658,sT "Z1" 659,sT "X2" 660,sT "Y2" 661,sT "Z2" 662,sT "X3" 663,sT "Y3" 664,sT "Z3" 665]
noncomputable def gS:Obj:=bX "__add__" "PointJacobi.__add__" [5,20]
noncomputable def gT:Obj:=cu "__add__" 651 "PointJacobi.__add__" 652 "/claim/cut.py" 653 275 2 0 0 3 269 181 270 271 272 273 666 275 "/claim/cut.py" 667
noncomputable def gU:Obj:=b8 "__add__" "PointJacobi.__add__" [5,20] 3 .none "ecdsa.ellipticcurve" 202 274
noncomputable def gV:Obj:=bI [sT "self" 672,sT "other" 673]
noncomputable def gW:Obj:=bX "__rmul__" "PointJacobi.__rmul__" [5,21]
noncomputable def gX:Obj:=cu "__rmul__" 669 "PointJacobi.__rmul__" 670 "/claim/cut.py" 671 292 2 0 0 3 276 181 277 278 279 280 674 292 "/claim/cut.py" 675
noncomputable def gY:Obj:=b8 "__rmul__" "PointJacobi.__rmul__" [5,21] 3 .none "ecdsa.ellipticcurve" 202 281
noncomputable def gZ:Obj:=bI [sT "self" 680,sT "other" 681,sT "X3" 682,sT "Y3" 683,sT "Z3" 684,sT "p" 685,sT "_add" 686,sT "X2" 687,sT "Y2" 688]
noncomputable def g7:Obj:=bX "_mul_precompute" "PointJacobi._mul_precompute" [5,22]
noncomputable def g8:Obj:=cu "_mul_precompute" 677 "PointJacobi._mul_precompute" 678 "/claim/cut.py" 679 295 2 0 0 3 283 181 284 285 286 287 689 295 "/claim/cut.py" 690
noncomputable def g9:Obj:=b8 "_mul_precompute" "PointJacobi._mul_precompute" [5,22] 3 .none "ecdsa.ellipticcurve" 202 288
noncomputable def ia:Obj:=bI [sT "self" 695,sT "other" 696,sT "X2" 697,sT "Y2" 698,sT "_" 699,sT "X3" 700,sT "Y3" 701,sT "Z3" 702,sT "p" 703,sT "a" 704,sT "_double" 705,sT "_add" 706,sT "i" 707]
noncomputable def ic:Obj:=bX "__mul__" "PointJacobi.__mul__" [5,23]
noncomputable def ig:Obj:=cu "__mul__" 692 "PointJacobi.__mul__" 693 "/claim/cut.py" 694 312 2 0 0 3 290 181 291 292 293 294 708 312 "/claim/cut.py" 709
noncomputable def iu:Obj:=b8 "__mul__" "PointJacobi.__mul__" [5,23] 3 .none "ecdsa.ellipticcurve" 202 295
noncomputable def iw:Obj:=bI [sT "self" 714,sT "self_mul" 715,sT "other" 716,sT "other_mul" 717,sT "X3" 718,sT "Y3" 719,sT "Z3" 720,sT "p" 721,sT "a" 722,sT "X1" 723,sT "Y1" 724,sT "Z1" 725,sT "X2" 726,sT "Y2" 727,sT "Z2" 728,sT "_double" 729,sT "_add" 730,sT "mAmB_X" 731,sT "mAmB_Y" 732,sT "mAmB_Z" 733,sT "pAmB_X" 734,sT "pAmB_Y" 735,sT "pAmB_Z" 736,sT "mApB_X" 737,sT "mApB_Y" 738,sT "mApB_Z" 739,sT "pApB_X" 740,sT "pApB_Y" 741,sT "pApB_Z" 742,sT "self_naf" 743,sT "other_naf" 744,sT "A" 745,sT "B" 746]
noncomputable def iy:Obj:=bX "mul_add" "PointJacobi.mul_add" [5,24]
noncomputable def iz:Obj:=cu "mul_add" 711 "PointJacobi.mul_add" 712 "/claim/cut.py" 713 338 4 0 0 3 297 181 298 299 300 301 747 338 "/claim/cut.py" 748
noncomputable def iA:Obj:=b8 "mul_add" "PointJacobi.mul_add" [5,24] 3 .none "ecdsa.ellipticcurve" 202 302
noncomputable def iB:Obj:=bI [sT "self" 753,sT "x" 754,sT "y" 755,sT "z" 756]
noncomputable def iC:Obj:=bX "__neg__" "PointJacobi.__neg__" [5,25]
noncomputable def iD:Obj:=cu "__neg__" 750 "PointJacobi.__neg__" 751 "/claim/cut.py" 752 403 1 0 0 3 304 181 305 306 307 308 757 403 "/claim/cut.py" 758
noncomputable def iE:Obj:=b8 "__neg__" "PointJacobi.__neg__" [5,25] 3 .none "ecdsa.ellipticcurve" 202 309
noncomputable def iF:Obj:=bI [sT "__coords" 760,sT "__curve" 761,sT "__generator" 762,sT "__order" 763,sT "__precompute" 764]
noncomputable def iG (P:Params):Obj:=⟨.type "dict",none,.dict #[⟨kH P "__module__",sT "__module__" 342,sT "ecdsa.ellipticcurve" 202⟩,⟨kH P "__firstlineno__",sT "__firstlineno__" 346,.int 62 345⟩,⟨kH P "__init__",sT "__init__" 359,rF 131⟩,⟨kH P "_maybe_precompute",sT "_maybe_precompute" 373,rF 138⟩,⟨kH P "__eq__",sT "__eq__" 390,rF 145⟩,⟨kH P "__ne__",sT "__ne__" 398,rF 152⟩,⟨kH P "order",sT "order" 405,rF 159⟩,⟨kH P "curve",sT "curve" 412,rF 166⟩,⟨kH P "x",sT "x" 423,rF 173⟩,⟨kH P "y",sT "y" 434,rF 180⟩,⟨kH P "scale",sT "scale" 447,rF 187⟩,⟨kH P "to_affine",sT "to_affine" 459,rF 194⟩,⟨kH P "from_affine",sT "from_affine" 479,rF 204⟩,⟨kH P "_double_with_z_1",sT "_double_with_z_1" 498,rF 212⟩,⟨kH P "_double",sT "_double" 519,rF 219⟩,⟨kH P "double",sT "double" 534,rF 226⟩,⟨kH P "_add_with_z_1",sT "_add_with_z_1" 555,rF 233⟩,⟨kH P "_add_with_z_eq",sT "_add_with_z_eq" 575,rF 240⟩,⟨kH P "_add_with_z2_1",sT "_add_with_z2_1" 600,rF 247⟩,⟨kH P "_add_with_z_ne",sT "_add_with_z_ne" 628,rF 254⟩,⟨kH P "__radd__",sT "__radd__" 636,rF 261⟩,⟨kH P "_add",sT "_add" 650,rF 268⟩,⟨kH P "__add__",sT "__add__" 668,rF 275⟩,⟨kH P "__rmul__",sT "__rmul__" 676,rF 282⟩,⟨kH P "_mul_precompute",sT "_mul_precompute" 691,rF 289⟩,⟨kH P "__mul__",sT "__mul__" 710,rF 296⟩,⟨kH P "mul_add",sT "mul_add" 749,rF 303⟩,⟨kH P "__neg__",sT "__neg__" 759,rF 310⟩,⟨kH P "__static_attributes__",sT "__static_attributes__" 765,rF 311⟩,⟨kH P "__doc__",sT "__doc__" 766,.none⟩,⟨kH P "__hash__",sT "__hash__" 767,.none⟩] 3,#[]⟩
noncomputable def iH:Obj:=⟨.type "type",none,.cls (ClassData.mk (S "PointJacobi") [rF 112] [rF 313,rF 112,.type "object"] 312 (S "PointJacobi") true [] [] false none false),#[some (rF 117),none,some (sT "PointJacobi" 335),some (sT "PointJacobi" 343),some (.builtin "object.__new__"),some (.bool true)]⟩
noncomputable def iI:Obj:=⟨.type "super",none,.fields #[rF 313,rF 313,rF 313],#[]⟩
noncomputable def iJ:Obj:=⟨.type "builtin_function_or_method",none,.fields #[.builtin "object.__init_subclass__",rF 313],#[]⟩
noncomputable def Mc (P:Params):BT:=(N (boot_o_0 P) (N (boot_o_1 P) (N (Ju P) (N (boot_o_7 P) (N oT (N oC (N mj (N dJ (N oT L L) L) (N oT L L)) (N (nJ P) (N eO (N g7 L L) L) (N oT L L))) (N oT (N oT (N d7 (N gR L L) L) (N oC L L)) (N (cM P) (N oC (N iA L L) L) (N gx L L)))) (N lH (N lS (N mD (N oT (N oC L L) L) (N oT L L)) (N oT (N oT (N ig L L) L) (N gq L L))) (N l6 (N (mQ P) (N eB (N oT L L) L) (N gb L L)) (N (dw P) (N fC (N iF L L) L) (N gC L L))))) (N oT (N kM (N lQ (N mw (N dS (N gI L L) L) (N fN L L)) (N nM (N oT (N oC L L) L) (N oT L L))) (N oT (N mK (N oC (N gU L L) L) (N fY L L)) (N cP (N fy (N oT L L) L) (N gz L L)))) (N lK (N lV (N oT (N oT (N gP L L) L) (N (fT P) L L)) (N (cJ P) (N fj (N iw L L) L) (N oC L L))) (N oC (N mU (N eF (N oT L L) L) (N gh L L)) (N dF (N fG (N iJ L L) L) (N oT L L)))))) (N (boot_o_5 P) (N (boot_o_9 P) (N pJ (N oT (N oT (N dM (N gH L L) L) (N fL L L)) (N nK (N oC (N g9 L L) L) (N gk L L))) (N lY (N mJ (N d9 (N gS L L) L) (N oT L L)) (N cN (N oT (N oC L L) L) (N oT L L)))) (N oT (N lT (N oC (N dX (N oT L L) L) (N fR L L)) (N cH (N fh (N oT L L) L) (N gu L L))) (N l8 (N mS (N oT (N gX L L) L) (N gc L L)) (N dz (N fE (N iH L L) L) (N oC L L))))) (N nE (N kO (N oT (N mz (N oC (N gK L L) L) (N oC L L)) (N oC (N eZ (N oT L L) L) (N gp L L))) (N l0 (N mO (N oT (N oC L L) L) (N oT L L)) (N di (N oT (N iD L L) L) (N gA L L)))) (N lN (N oC (N mG (N dZ (N oT L L) L) (N fV L L)) (N cL (N fm (N iy L L) L) (N oT L L))) (N oT (N nH (N eG (N gZ L L) L) (N oC L L)) (N oT (N oC L L) (N gF L L))))))) (N (boot_o_2 P) (N (boot_o_4 P) (N (boot_o_8 P) (N oC (N lO (N mq (N oT (N oC L L) L) (N fK L L)) (N oT (N oT (N g8 L L) L) (N gj L L))) (N lX (N oC (N d8 (N oT L L) L) (N fW L L)) (N DU (N fq (N oT L L) L) (N gy L L)))) (N (lI P) (N oT (N oT (N dW (N gM L L) L) (N fQ L L)) (N iW (N oC (N iu L L) L) (N gr L L))) (N l7 (N mR (N eE (N gW L L) L) (N oT L L)) (N oT (N oT (N (iG P) L L) L) (N oT L L))))) (N F6 (N kN (N lR (N oT (N oT (N gJ L L) L) (N oT L L)) (N oT (N eW (N ia L L) L) (N oC L L))) (N oC (N mL (N eu (N oT L L) L) (N fZ L L)) (N cQ (N fz (N iC L L) L) (N oT L L)))) (N lM (N oT (N mF (N oC (N gQ L L) L) (N fU L L)) (N cK (N fk (N oT L L) L) (N gv L L))) (N l9 (N mV (N oT (N oC L L) L) (N oT L L)) (N dG (N oT L L) (N gE L L)))))) (N (boot_o_6 P) (N (boot_o_10 P) (N oT (N lP (N oC (N dR (N oT L L) L) (N fM L L)) (N nL (N eU (N oT L L) L) (N gm L L))) (N lZ (N oT (N oT (N gT L L) L) (N fX L L)) (N cO (N fu (N iB L L) L) (N oC L L)))) (N lJ (N lU (N mE (N dY (N gO L L) L) (N fS L L)) (N cI (N oT (N oC L L) L) (N oT L L))) (N oT (N mT (N oC (N gY L L) L) (N gg L L)) (N dD (N fF (N iI L L) L) (N gD L L))))) (N nG (N lG (N oC (N mC (N dU (N oT L L) L) (N fO L L)) (N iV (N fc (N ic L L) L) (N oT L L))) (N oT (N mP (N ez (N gV L L) L) (N oC L L)) (N dj (N oC (N iE L L) L) (N gB L L)))) (N oT (N lW (N mH (N oT (N oC L L) L) (N oT L L)) (N oT (N oT (N iz L L) L) (N gw L L))) (N mh (N nI (N eN (N oT L L) L) (N gi L L)) (N oC (N fJ L L) (N gG L L))))))))
noncomputable def Rl (w:World) (os:OsState):SharedT:=⟨Mc w.params,nat_lit 316,(@PySem.Life.mk (@List.nil @Nat) (@List.nil @Nat) (@List.nil @Nat) (nat_lit 0) (@List.nil (@Prod @Nat @Nat)) (@List.nil @Nat) @Bool.false (@List.toArray @Nat (@List.nil @Nat)) (@List.nil @Nat) (nat_lit 0) @Bool.false @Bool.false @Bool.false (0:Int) (@List.cons @Int (2000:Int) (@List.cons @Int (10:Int) (@List.cons @Int (10:Int) (@List.nil @Int)))) @Bool.false (nat_lit 0) @Bool.true (@List.nil @Nat) (@List.nil @Nat) (nat_lit 0) @Bool.false),#[],(@PySem.Drawn.mk (nat_lit 0) (nat_lit 0) (nat_lit 0) (nat_lit 0)),nat_lit 770,os⟩
noncomputable def Me:PySem.Pos:=(@PySem.Pos.mk (nat_lit 62) (nat_lit 0) (nat_lit 405) (nat_lit 64))
noncomputable def CR:List PySem.Stmt:=wU (nat_lit 5) (nat_lit 1) bV
theorem Jv (w:World) (os:OsState):segRunT treeTable pw w m0 q9 1 (nat_lit 1383) (st3 w os) (piecesOf CR tX bT Mb [topFrame q0])=some (.next,Rl w os,bT,Me):=by kernel_rfl
noncomputable def Jw (P:Params):Obj:=⟨.type "dict",none,.dict #[⟨kH P "__name__",sT "__name__" 165,sT "ecdsa.ellipticcurve" 202⟩,⟨kH P "__doc__",sT "__doc__" 166,.none⟩,⟨kH P "__package__",sT "__package__" 167,.none⟩,⟨kH P "__loader__",sT "__loader__" 168,.builtin "__main__.__loader__#opaque"⟩,⟨kH P "__spec__",sT "__spec__" 169,.none⟩,⟨kH P "__annotations__",sT "__annotations__" 170,rF 6⟩,⟨kH P "__builtins__",sT "__builtins__" 171,rF 4⟩,⟨kH P "__file__",sT "__file__" 173,sT "/claim/cut.py" 172⟩,⟨kH P "__cached__",sT "__cached__" 174,.none⟩,⟨kH P "inverse_mod",sT "inverse_mod" 201,rF 21⟩,⟨kH P "CurveFp",sT "CurveFp" 293,rF 88⟩,⟨kH P "AbstractPoint",sT "AbstractPoint" 334,rF 112⟩,⟨kH P "PointJacobi",sT "PointJacobi" 769,rF 313⟩,⟨kH P "Point",sT "Point" 898,rF 410⟩] 14,#[]⟩
noncomputable def F7:Obj:=⟨.none,none,.fields #[zI 2,zI 0,rF 20,zI 15,zI 0,rF 27,zI 46,zI 0,rF 98,zI 62,zI 0,rF 122,zI 406,zI 0,rF 321],#[]⟩
noncomputable def iX:Obj:=⟨.type "type",none,.cls (ClassData.mk (S "AbstractPoint") [.type "object"] [rF 112,.type "object"] 111 (S "AbstractPoint") true [] [rF 313,rF 410] false none false),#[some (rF 93),none,some (sT "AbstractPoint" 294),some (sT "AbstractPoint" 302),some (.builtin "object.__new__"),some (.bool true)]⟩
noncomputable def iY:Obj:=bI [rF 112]
noncomputable def iZ:Obj:=⟨.type "builtin_function_or_method",none,.fields #[.builtin "type.__prepare__",.type "type"],#[]⟩
noncomputable def ja (P:Params):Obj:=⟨.type "dict",none,.dict #[⟨kH P "__module__",sT "__module__" 777,sT "ecdsa.ellipticcurve" 202⟩,⟨kH P "__qualname__",sT "__qualname__" 779,sT "Point" 778⟩,⟨kH P "__firstlineno__",sT "__firstlineno__" 781,.int 406 780⟩,⟨kH P "__init__",sT "__init__" 792,rF 330⟩,⟨kH P "__eq__",sT "__eq__" 800,rF 337⟩,⟨kH P "__ne__",sT "__ne__" 808,rF 344⟩,⟨kH P "__neg__",sT "__neg__" 815,rF 351⟩,⟨kH P "__add__",sT "__add__" 827,rF 358⟩,⟨kH P "__mul__",sT "__mul__" 841,rF 365⟩,⟨kH P "__rmul__",sT "__rmul__" 849,rF 372⟩,⟨kH P "double",sT "double" 861,rF 379⟩,⟨kH P "x",sT "x" 868,rF 386⟩,⟨kH P "y",sT "y" 875,rF 393⟩,⟨kH P "curve",sT "curve" 882,rF 400⟩,⟨kH P "order",sT "order" 889,rF 407⟩,⟨kH P "__static_attributes__",sT "__static_attributes__" 894,rF 408⟩] 16,#[]⟩
noncomputable def jb:Obj:=⟨.none,none,.fields #[zI 408,zI 4,rF 329,zI 418,zI 4,rF 336,zI 425,zI 4,rF 343,zI 428,zI 4,rF 350,zI 431,zI 4,rF 357,zI 450,zI 4,rF 364,zI 478,zI 4,rF 371,zI 481,zI 4,rF 378,zI 493,zI 4,rF 385,zI 496,zI 4,rF 392,zI 499,zI 4,rF 399,zI 502,zI 4,rF 406],#[]⟩
noncomputable def jc:Obj:=⟨.type "code",none,.fields #[sT "Point" 772,sT "Point" 773,sT "/claim/cut.py" 774,zI 406,zI 0,zI 0,zI 0,zI 0,rF 319,.bool false,zI 181,rF 320,.none,.none,.none,.none,zI 775,zI 406,sT "/claim/cut.py" 776],#[]⟩
noncomputable def jd:Obj:=⟨.type "frame",none,.plain,#[some (rF 321),some (rF 3),some (rF 318),none,some (sT "ecdsa.ellipticcurve" 202),none,some (rF 0)]⟩
noncomputable def je:Obj:=bI [.none]
noncomputable def jf:Obj:=bI [sT "self" 785,sT "curve" 786,sT "x" 787,sT "y" 788,sT "order" 789]
noncomputable def jg:Obj:=bX "__init__" "Point.__init__" [6,0]
noncomputable def jh:Obj:=cu "__init__" 782 "Point.__init__" 783 "/claim/cut.py" 784 408 5 0 0 3 324 181 325 326 327 328 790 408 "/claim/cut.py" 791
noncomputable def ji:Obj:=b8 "__init__" "Point.__init__" [6,0] 3 (rF 323) "ecdsa.ellipticcurve" 202 329
noncomputable def jj:Obj:=bI [sT "self" 796,sT "other" 797]
noncomputable def jk:Obj:=bX "__eq__" "Point.__eq__" [6,1]
noncomputable def jl:Obj:=cu "__eq__" 793 "Point.__eq__" 794 "/claim/cut.py" 795 418 2 0 0 3 331 181 332 333 334 335 798 418 "/claim/cut.py" 799
noncomputable def jm:Obj:=b8 "__eq__" "Point.__eq__" [6,1] 3 .none "ecdsa.ellipticcurve" 202 336
noncomputable def jn:Obj:=bI [sT "self" 804,sT "other" 805]
noncomputable def jo:Obj:=bX "__ne__" "Point.__ne__" [6,2]
noncomputable def jq:Obj:=cu "__ne__" 801 "Point.__ne__" 802 "/claim/cut.py" 803 425 2 0 0 3 338 181 339 340 341 342 806 425 "/claim/cut.py" 807
noncomputable def jr:Obj:=b8 "__ne__" "Point.__ne__" [6,2] 3 .none "ecdsa.ellipticcurve" 202 343
noncomputable def jt:Obj:=bI [sT "self" 812]
noncomputable def ju:Obj:=bX "__neg__" "Point.__neg__" [6,3]
noncomputable def jv:Obj:=cu "__neg__" 809 "Point.__neg__" 810 "/claim/cut.py" 811 428 1 0 0 3 345 181 346 347 348 349 813 428 "/claim/cut.py" 814
noncomputable def jw:Obj:=b8 "__neg__" "Point.__neg__" [6,3] 3 .none "ecdsa.ellipticcurve" 202 350
noncomputable def jx:Obj:=bI [sT "self" 819,sT "other" 820,sT "p" 821,sT "l" 822,sT "x3" 823,sT "y3" 824]
noncomputable def jy:Obj:=bX "__add__" "Point.__add__" [6,4]
noncomputable def jz:Obj:=cu "__add__" 816 "Point.__add__" 817 "/claim/cut.py" 818 431 2 0 0 3 352 181 353 354 355 356 825 431 "/claim/cut.py" 826
noncomputable def jA:Obj:=b8 "__add__" "Point.__add__" [6,4] 3 .none "ecdsa.ellipticcurve" 202 357
noncomputable def jB:Obj:=bI [sT "self" 831,sT "other" 832,sT "leftmost_bit" 833,sT "e" 834,sT "e3" 835,sT "negative_self" 836,sT "i" 837,sT "result" 838]
noncomputable def jC:Obj:=bX "__mul__" "Point.__mul__" [6,5]
noncomputable def jD:Obj:=cu "__mul__" 828 "Point.__mul__" 829 "/claim/cut.py" 830 450 2 0 0 3 359 181 360 361 362 363 839 450 "/claim/cut.py" 840
noncomputable def jE:Obj:=b8 "__mul__" "Point.__mul__" [6,5] 3 .none "ecdsa.ellipticcurve" 202 364
noncomputable def jF:Obj:=bI [sT "self" 845,sT "other" 846]
noncomputable def jG:Obj:=bX "__rmul__" "Point.__rmul__" [6,6]
noncomputable def jH:Obj:=cu "__rmul__" 842 "Point.__rmul__" 843 "/claim/cut.py" 844 478 2 0 0 3 366 181 367 368 369 370 847 478 "/claim/cut.py" 848
noncomputable def jI:Obj:=b8 "__rmul__" "Point.__rmul__" [6,6] 3 .none "ecdsa.ellipticcurve" 202 371
noncomputable def jJ:Obj:=bI [sT "self" 853,sT "p" 854,sT "a" 855,sT "l" 856,sT "x3" 857,sT "y3" 858]
noncomputable def jK:Obj:=bX "double" "Point.double" [6,7]
noncomputable def jL:Obj:=cu "double" 850 "Point.double" 851 "/claim/cut.py" 852 481 1 0 0 3 373 181 374 375 376 377 859 481 "/claim/cut.py" 860
noncomputable def jM:Obj:=b8 "double" "Point.double" [6,7] 3 .none "ecdsa.ellipticcurve" 202 378
noncomputable def jN:Obj:=bI [sT "self" 865]
noncomputable def jO:Obj:=bX "x" "Point.x" [6,8]
noncomputable def jP:Obj:=cu "x" 862 "Point.x" 863 "/claim/cut.py" 864 493 1 0 0 3 380 181 381 382 383 384 866 493 "/claim/cut.py" 867
noncomputable def jQ:Obj:=b8 "x" "Point.x" [6,8] 3 .none "ecdsa.ellipticcurve" 202 385
noncomputable def jR:Obj:=bI [sT "self" 872]
noncomputable def jS:Obj:=bX "y" "Point.y" [6,9]
noncomputable def jT:Obj:=cu "y" 869 "Point.y" 870 "/claim/cut.py" 871 496 1 0 0 3 387 181 388 389 390 391 873 496 "/claim/cut.py" 874
noncomputable def jU:Obj:=b8 "y" "Point.y" [6,9] 3 .none "ecdsa.ellipticcurve" 202 392
noncomputable def jV:Obj:=bI [sT "self" 879]
noncomputable def jW:Obj:=bX "curve" "Point.curve" [6,10]
noncomputable def jX:Obj:=cu "curve" 876 "Point.curve" 877 "/claim/cut.py" 878 499 1 0 0 3 394 181 395 396 397 398 880 499 "/claim/cut.py" 881
noncomputable def jY:Obj:=b8 "curve" "Point.curve" [6,10] 3 .none "ecdsa.ellipticcurve" 202 399
noncomputable def jZ:Obj:=bI [sT "self" 886]
noncomputable def j3:Obj:=bX "order" "Point.order" [6,11]
noncomputable def j4:Obj:=cu "order" 883 "Point.order" 884 "/claim/cut.py" 885 502 1 0 0 3 401 181 402 403 404 405 887 502 "/claim/cut.py" 888
noncomputable def j5:Obj:=b8 "order" "Point.order" [6,11] 3 .none "ecdsa.ellipticcurve" 202 406
noncomputable def j6:Obj:=bI [sT "__curve" 890,sT "__order" 891,sT "__x" 892,sT "__y" 893]
noncomputable def j7 (P:Params):Obj:=⟨.type "dict",none,.dict #[⟨kH P "__module__",sT "__module__" 777,sT "ecdsa.ellipticcurve" 202⟩,⟨kH P "__firstlineno__",sT "__firstlineno__" 781,.int 406 780⟩,⟨kH P "__init__",sT "__init__" 792,rF 330⟩,⟨kH P "__eq__",sT "__eq__" 800,rF 337⟩,⟨kH P "__ne__",sT "__ne__" 808,rF 344⟩,⟨kH P "__neg__",sT "__neg__" 815,rF 351⟩,⟨kH P "__add__",sT "__add__" 827,rF 358⟩,⟨kH P "__mul__",sT "__mul__" 841,rF 365⟩,⟨kH P "__rmul__",sT "__rmul__" 849,rF 372⟩,⟨kH P "double",sT "double" 861,rF 379⟩,⟨kH P "x",sT "x" 868,rF 386⟩,⟨kH P "y",sT "y" 875,rF 393⟩,⟨kH P "curve",sT "curve" 882,rF 400⟩,⟨kH P "order",sT "order" 889,rF 407⟩,⟨kH P "__static_attributes__",sT "__static_attributes__" 894,rF 408⟩,⟨kH P "__doc__",sT "__doc__" 895,.none⟩,⟨kH P "__hash__",sT "__hash__" 896,.none⟩] 3,#[]⟩
noncomputable def j8:Obj:=⟨.type "type",none,.cls (ClassData.mk (S "Point") [rF 112] [rF 410,rF 112,.type "object"] 409 (S "Point") true [] [] false none false),#[some (rF 316),none,some (sT "Point" 770),some (sT "Point" 778),some (.builtin "object.__new__"),some (.bool true)]⟩
noncomputable def j9:Obj:=⟨.type "super",none,.fields #[rF 410,rF 410,rF 410],#[]⟩
noncomputable def kc:Obj:=⟨.type "builtin_function_or_method",none,.fields #[.builtin "object.__init_subclass__",rF 410],#[]⟩
noncomputable def Mf (P:Params):BT:=(N (boot_o_0 P) (N (boot_o_1 P) (N (Jw P) (N (boot_o_7 P) (N oT (N oC (N mj (N dJ (N oT L L) (N oT L L)) (N oT (N oT L L) L)) (N (nJ P) (N eO (N g7 L L) L) (N oT (N jw L L) L))) (N oT (N oT (N d7 (N gR L L) (N jX L L)) (N oC (N jk L L) L)) (N (cM P) (N oC (N iA L L) L) (N gx (N oC L L) L)))) (N lH (N lS (N mD (N oT (N oC L L) (N jS L L)) (N oT (N oT L L) L)) (N oT (N oT (N ig L L) L) (N gq (N oT L L) L))) (N l6 (N (mQ P) (N eB (N oT L L) (N j5 L L)) (N gb (N jq L L) L)) (N (dw P) (N fC (N iF L L) L) (N gC (N jJ L L) L))))) (N oT (N kM (N lQ (N mw (N dS (N gI L L) (N oT L L)) (N fN (N je L L) L)) (N nM (N oT (N oC L L) L) (N oT (N oT L L) L))) (N oT (N mK (N oC (N gU L L) (N jZ L L)) (N fY (N oC L L) L)) (N cP (N fy (N oT L L) L) (N gz (N jH L L) L)))) (N lK (N lV (N oT (N oT (N gP L L) (N oC L L)) (N (fT P) (N oT L L) L)) (N (cJ P) (N fj (N iw L L) L) (N oC (N jC L L) L))) (N oC (N mU (N eF (N oT L L) (N j9 L L)) (N gh (N jt L L) L)) (N dF (N fG (N iJ L L) L) (N oT (N jM L L) L)))))) (N (boot_o_5 P) (N (boot_o_9 P) (N pJ (N oT (N oT (N dM (N gH L L) (N jP L L)) (N fL (N jc L L) L)) (N nK (N oC (N g9 L L) L) (N gk (N oC L L) L))) (N lY (N mJ (N d9 (N gS L L) (N oT L L)) (N oT (N jm L L) L)) (N cN (N oT (N oC L L) L) (N oT (N oT L L) L)))) (N oT (N lT (N oC (N dX (N oT L L) (N jU L L)) (N fR (N jh L L) L)) (N cH (N fh (N oT L L) L) (N gu (N jB L L) L))) (N l8 (N mS (N oT (N gX L L) (N (j7 P) L L)) (N gc (N oT L L) L)) (N dz (N fE (N iH L L) L) (N oC (N jK L L) L))))) (N nE (N kO (N oT (N mz (N oC (N gK L L) (N jR L L)) (N oC (N oC L L) L)) (N oC (N eZ (N oT L L) L) (N gp (N jz L L) L))) (N l0 (N mO (N oT (N oC L L) (N j3 L L)) (N oT (N oT L L) L)) (N di (N oT (N iD L L) L) (N gA (N oT L L) L)))) (N lN (N oC (N mG (N dZ (N oT L L) (N oT L L)) (N fV (N jj L L) L)) (N cL (N fm (N iy L L) L) (N oT (N jE L L) L))) (N oT (N nH (N eG (N gZ L L) L) (N oC (N ju L L) L)) (N oT (N oC (N iZ L L) L) (N gF (N oC L L) L))))))) (N (boot_o_2 P) (N (boot_o_4 P) (N (boot_o_8 P) (N oC (N lO (N mq (N oT (N oC L L) (N jO L L)) (N fK (N jb L L) L)) (N oT (N oT (N g8 L L) L) (N gj (N oT L L) L))) (N lX (N oC (N d8 (N oT L L) (N jY L L)) (N fW (N jl L L) L)) (N iX (N fq (N oT L L) L) (N gy (N jF L L) L)))) (N (lI P) (N oT (N oT (N dW (N gM L L) (N jT L L)) (N fQ (N jg L L) L)) (N iW (N oC (N iu L L) L) (N gr (N oC L L) L))) (N l7 (N mR (N eE (N gW L L) (N j6 L L)) (N oT (N jr L L) L)) (N oT (N oT (N (iG P) L L) L) (N oT (N oT L L) L))))) (N F7 (N kN (N lR (N oT (N oT (N gJ L L) (N oC L L)) (N oT (N oT L L) L)) (N oT (N eW (N ia L L) L) (N oC (N jy L L) L))) (N oC (N mL (N eu (N oT L L) (N oT L L)) (N fZ (N jn L L) L)) (N cQ (N fz (N iC L L) L) (N oT (N jI L L) L)))) (N lM (N oT (N mF (N oC (N gQ L L) (N jV L L)) (N fU (N oC L L) L)) (N cK (N fk (N oT L L) L) (N gv (N jD L L) L))) (N l9 (N mV (N oT (N oC L L) (N kc L L)) (N oT (N oT L L) L)) (N dG (N oT (N iY L L) L) (N gE (N oT L L) L)))))) (N (boot_o_6 P) (N (boot_o_10 P) (N oT (N lP (N oC (N dR (N oT L L) (N jQ L L)) (N fM (N jd L L) L)) (N nL (N eU (N oT L L) L) (N gm (N jx L L) L))) (N lZ (N oT (N oT (N gT L L) (N oC L L)) (N fX (N oT L L) L)) (N cO (N fu (N iB L L) L) (N oC (N jG L L) L)))) (N lJ (N lU (N mE (N dY (N gO L L) (N oT L L)) (N fS (N ji L L) L)) (N cI (N oT (N oC L L) L) (N oT (N oT L L) L))) (N oT (N mT (N oC (N gY L L) (N j8 L L)) (N gg (N oC L L) L)) (N dD (N fF (N iI L L) L) (N gD (N jL L L) L))))) (N nG (N lG (N oC (N mC (N dU (N oT L L) (N oT L L)) (N fO (N jf L L) L)) (N iV (N fc (N ic L L) L) (N oT (N jA L L) L))) (N oT (N mP (N ez (N gV L L) (N j4 L L)) (N oC (N jo L L) L)) (N dj (N oC (N iE L L) L) (N gB (N oC L L) L)))) (N oT (N lW (N mH (N oT (N oC L L) (N jW L L)) (N oT (N oT L L) L)) (N oT (N oT (N iz L L) L) (N gw (N oT L L) L))) (N mh (N nI (N eN (N oT L L) L) (N gi (N jv L L) L)) (N oC (N fJ (N (ja P) L L) L) (N gG (N jN L L) L))))))))
noncomputable def Rn (w:World) (os:OsState):SharedT:=⟨Mf w.params,nat_lit 413,(@PySem.Life.mk (@List.nil @Nat) (@List.nil @Nat) (@List.nil @Nat) (nat_lit 0) (@List.nil (@Prod @Nat @Nat)) (@List.nil @Nat) @Bool.false (@List.toArray @Nat (@List.nil @Nat)) (@List.nil @Nat) (nat_lit 0) @Bool.false @Bool.false @Bool.false (0:Int) (@List.cons @Int (2000:Int) (@List.cons @Int (10:Int) (@List.cons @Int (10:Int) (@List.nil @Int)))) @Bool.false (nat_lit 0) @Bool.true (@List.nil @Nat) (@List.nil @Nat) (nat_lit 0) @Bool.false),#[],(@PySem.Drawn.mk (nat_lit 0) (nat_lit 0) (nat_lit 0) (nat_lit 0)),nat_lit 899,os⟩
noncomputable def Mg:PySem.Pos:=(@PySem.Pos.mk (nat_lit 406) (nat_lit 0) (nat_lit 503) (nat_lit 27))
noncomputable def A5:List PySem.Stmt:=wU (nat_lit 6) (nat_lit 1) bV
theorem Jx (w:World) (os:OsState):segRunT treeTable pw w m0 q9 1 (nat_lit 620) (Rl w os) (piecesOf A5 tX bT Me [topFrame q0])=some (.next,Rn w os,bT,Mg):=by kernel_rfl
noncomputable def Jy (P:Params):Obj:=⟨.type "dict",none,.dict #[⟨kH P "__name__",sT "__name__" 165,sT "ecdsa.ecdsa" 914⟩,⟨kH P "__doc__",sT "__doc__" 166,.none⟩,⟨kH P "__package__",sT "__package__" 167,.none⟩,⟨kH P "__loader__",sT "__loader__" 168,.builtin "__main__.__loader__#opaque"⟩,⟨kH P "__spec__",sT "__spec__" 169,.none⟩,⟨kH P "__annotations__",sT "__annotations__" 170,rF 6⟩,⟨kH P "__builtins__",sT "__builtins__" 171,rF 4⟩,⟨kH P "__file__",sT "__file__" 173,sT "/claim/cut.py" 172⟩,⟨kH P "__cached__",sT "__cached__" 174,.none⟩,⟨kH P "inverse_mod",sT "inverse_mod" 201,rF 21⟩,⟨kH P "CurveFp",sT "CurveFp" 293,rF 88⟩,⟨kH P "AbstractPoint",sT "AbstractPoint" 334,rF 112⟩,⟨kH P "PointJacobi",sT "PointJacobi" 769,rF 313⟩,⟨kH P "Point",sT "Point" 898,rF 410⟩,⟨kH P "INFINITY",sT "INFINITY" 913,rF 414⟩,⟨kH P "RSZeroError",sT "RSZeroError" 933,rF 425⟩] 16,#[]⟩
noncomputable def F8:Obj:=⟨.none,none,.fields #[zI 2,zI 0,rF 20,zI 15,zI 0,rF 27,zI 46,zI 0,rF 98,zI 62,zI 0,rF 122,zI 406,zI 0,rF 321,zI 506,zI 0,rF 421],#[]⟩
noncomputable def kW (P:Params):Obj:=⟨.type "dict",none,.dict #[⟨kH P "_Point__curve",sT "_Point__curve" 905,.none⟩,⟨kH P "_Point__x",sT "_Point__x" 907,.none⟩,⟨kH P "_Point__y",sT "_Point__y" 909,.none⟩,⟨kH P "_Point__order",sT "_Point__order" 911,.none⟩] 4,#[]⟩
noncomputable def kX:Obj:=⟨rF 410,some 413,.plain,#[]⟩
noncomputable def kY (P:Params):Obj:=⟨.type "frame",none,.dict #[⟨kH P "self",sT "self" 899,rF 414⟩,⟨kH P "curve",sT "curve" 900,.none⟩,⟨kH P "x",sT "x" 901,.none⟩,⟨kH P "y",sT "y" 902,.none⟩,⟨kH P "order",sT "order" 903,.none⟩] 5,#[]⟩
noncomputable def kZ:Obj:=bI [.type "RuntimeError"]
noncomputable def k6:Obj:=⟨.type "builtin_function_or_method",none,.fields #[.builtin "type.__prepare__",.type "type"],#[]⟩
noncomputable def k7 (P:Params):Obj:=⟨.type "dict",none,.dict #[⟨kH P "__module__",sT "__module__" 923,sT "ecdsa.ecdsa" 914⟩,⟨kH P "__qualname__",sT "__qualname__" 925,sT "RSZeroError" 924⟩,⟨kH P "__firstlineno__",sT "__firstlineno__" 927,.int 506 926⟩,⟨kH P "__static_attributes__",sT "__static_attributes__" 928,rF 423⟩] 4,#[]⟩
noncomputable def k8:Obj:=⟨.type "code",none,.fields #[sT "RSZeroError" 918,sT "RSZeroError" 919,sT "/claim/cut.py" 920,zI 506,zI 0,zI 0,zI 0,zI 0,rF 419,.bool false,zI 181,rF 420,.none,.none,.none,.none,zI 921,zI 506,sT "/claim/cut.py" 922],#[]⟩
noncomputable def k9:Obj:=⟨.type "frame",none,.plain,#[some (rF 421),some (rF 3),some (rF 418),none,some (sT "ecdsa.ecdsa" 914),none,some (rF 0)]⟩
noncomputable def lg (P:Params):Obj:=⟨.type "dict",none,.dict #[⟨kH P "__module__",sT "__module__" 923,sT "ecdsa.ecdsa" 914⟩,⟨kH P "__firstlineno__",sT "__firstlineno__" 927,.int 506 926⟩,⟨kH P "__static_attributes__",sT "__static_attributes__" 928,rF 423⟩,⟨kH P "__weakref__",sT "__weakref__" 930,rF 426⟩,⟨kH P "__doc__",sT "__doc__" 931,.none⟩] 3,#[]⟩
noncomputable def lq:Obj:=⟨.type "type",none,.cls (ClassData.mk (S "RSZeroError") [.type "RuntimeError"] [rF 425,.type "RuntimeError",.type "Exception",.type "BaseException",.type "object"] 424 (S "RSZeroError") true [] [] false none false),#[some (rF 416),none,some (sT "RSZeroError" 916),some (sT "RSZeroError" 924),some (.builtin "RuntimeError.__new__"),some (.bool true)]⟩
noncomputable def lu:Obj:=⟨.type "getset_descriptor",none,.fields #[sT "__weakref__" 929,rF 425,.builtin "ExceptionGroup.__weakref__",.none],#[]⟩
noncomputable def ly:Obj:=⟨.type "super",none,.fields #[rF 425,rF 425,rF 425],#[]⟩
noncomputable def lz:Obj:=⟨.type "builtin_function_or_method",none,.fields #[.builtin "object.__init_subclass__",rF 425],#[]⟩
noncomputable def Mh (P:Params):BT:=(N (boot_o_0 P) (N (boot_o_1 P) (N (Jy P) (N (boot_o_7 P) (N oT (N oC (N mj (N dJ (N oT L L) (N oT L L)) (N oT (N oT L L) L)) (N (nJ P) (N eO (N g7 L L) (N (kY P) L L)) (N oT (N jw L L) L))) (N oT (N oT (N d7 (N gR L L) (N jX L L)) (N oC (N jk L L) L)) (N (cM P) (N oC (N iA L L) L) (N gx (N oC L L) L)))) (N lH (N lS (N mD (N oT (N oC L L) (N jS L L)) (N oT (N oT L L) L)) (N oT (N oT (N ig L L) (N oT L L)) (N gq (N oT L L) L))) (N l6 (N (mQ P) (N eB (N oT L L) (N j5 L L)) (N gb (N jq L L) L)) (N (dw P) (N fC (N iF L L) L) (N gC (N jJ L L) L))))) (N oT (N kM (N lQ (N mw (N dS (N gI L L) (N oT L L)) (N fN (N je L L) L)) (N nM (N oT (N oC L L) (N oT L L)) (N oT (N oT L L) L))) (N oT (N mK (N oC (N gU L L) (N jZ L L)) (N fY (N oC L L) L)) (N cP (N fy (N oT L L) L) (N gz (N jH L L) L)))) (N lK (N lV (N oT (N oT (N gP L L) (N oC L L)) (N (fT P) (N oT L L) L)) (N (cJ P) (N fj (N iw L L) (N ly L L)) (N oC (N jC L L) L))) (N oC (N mU (N eF (N oT L L) (N j9 L L)) (N gh (N jt L L) L)) (N dF (N fG (N iJ L L) L) (N oT (N jM L L) L)))))) (N (boot_o_5 P) (N (boot_o_9 P) (N pJ (N oT (N oT (N dM (N gH L L) (N jP L L)) (N fL (N jc L L) L)) (N nK (N oC (N g9 L L) (N k6 L L)) (N gk (N oC L L) L))) (N lY (N mJ (N d9 (N gS L L) (N oT L L)) (N oT (N jm L L) L)) (N cN (N oT (N oC L L) L) (N oT (N oT L L) L)))) (N oT (N lT (N oC (N dX (N oT L L) (N jU L L)) (N fR (N jh L L) L)) (N cH (N fh (N oT L L) (N lq L L)) (N gu (N jB L L) L))) (N l8 (N mS (N oT (N gX L L) (N (j7 P) L L)) (N gc (N oT L L) L)) (N dz (N fE (N iH L L) L) (N oC (N jK L L) L))))) (N nE (N kO (N oT (N mz (N oC (N gK L L) (N jR L L)) (N oC (N oC L L) L)) (N oC (N eZ (N oT L L) (N k8 L L)) (N gp (N jz L L) L))) (N l0 (N mO (N oT (N oC L L) (N j3 L L)) (N oT (N oT L L) L)) (N di (N oT (N iD L L) L) (N gA (N oT L L) L)))) (N lN (N oC (N mG (N dZ (N oT L L) (N oT L L)) (N fV (N jj L L) L)) (N cL (N fm (N iy L L) L) (N oT (N jE L L) L))) (N oT (N nH (N eG (N gZ L L) (N (kW P) L L)) (N oC (N ju L L) L)) (N oT (N oC (N iZ L L) L) (N gF (N oC L L) L))))))) (N (boot_o_2 P) (N (boot_o_4 P) (N (boot_o_8 P) (N oC (N lO (N mq (N oT (N oC L L) (N jO L L)) (N fK (N jb L L) L)) (N oT (N oT (N g8 L L) (N kZ L L)) (N gj (N oT L L) L))) (N lX (N oC (N d8 (N oT L L) (N jY L L)) (N fW (N jl L L) L)) (N iX (N fq (N oT L L) L) (N gy (N jF L L) L)))) (N (lI P) (N oT (N oT (N dW (N gM L L) (N jT L L)) (N fQ (N jg L L) L)) (N iW (N oC (N iu L L) (N (lg P) L L)) (N gr (N oC L L) L))) (N l7 (N mR (N eE (N gW L L) (N j6 L L)) (N oT (N jr L L) L)) (N oT (N oT (N (iG P) L L) L) (N oT (N oT L L) L))))) (N F8 (N kN (N lR (N oT (N oT (N gJ L L) (N oC L L)) (N oT (N oT L L) L)) (N oT (N eW (N ia L L) (N oC L L)) (N oC (N jy L L) L))) (N oC (N mL (N eu (N oT L L) (N oT L L)) (N fZ (N jn L L) L)) (N cQ (N fz (N iC L L) L) (N oT (N jI L L) L)))) (N lM (N oT (N mF (N oC (N gQ L L) (N jV L L)) (N fU (N oC L L) L)) (N cK (N fk (N oT L L) (N lz L L)) (N gv (N jD L L) L))) (N l9 (N mV (N oT (N oC L L) (N kc L L)) (N oT (N oT L L) L)) (N dG (N oT (N iY L L) L) (N gE (N oT L L) L)))))) (N (boot_o_6 P) (N (boot_o_10 P) (N oT (N lP (N oC (N dR (N oT L L) (N jQ L L)) (N fM (N jd L L) L)) (N nL (N eU (N oT L L) (N (k7 P) L L)) (N gm (N jx L L) L))) (N lZ (N oT (N oT (N gT L L) (N oC L L)) (N fX (N oT L L) L)) (N cO (N fu (N iB L L) L) (N oC (N jG L L) L)))) (N lJ (N lU (N mE (N dY (N gO L L) (N oT L L)) (N fS (N ji L L) L)) (N cI (N oT (N oC L L) (N lu L L)) (N oT (N oT L L) L))) (N oT (N mT (N oC (N gY L L) (N j8 L L)) (N gg (N oC L L) L)) (N dD (N fF (N iI L L) L) (N gD (N jL L L) L))))) (N nG (N lG (N oC (N mC (N dU (N oT L L) (N oT L L)) (N fO (N jf L L) L)) (N iV (N fc (N ic L L) (N k9 L L)) (N oT (N jA L L) L))) (N oT (N mP (N ez (N gV L L) (N j4 L L)) (N oC (N jo L L) L)) (N dj (N oC (N iE L L) L) (N gB (N oC L L) L)))) (N oT (N lW (N mH (N oT (N oC L L) (N jW L L)) (N oT (N oT L L) L)) (N oT (N oT (N iz L L) L) (N gw (N oT L L) L))) (N mh (N nI (N eN (N oT L L) (N kX L L)) (N gi (N jv L L) L)) (N oC (N fJ (N (ja P) L L) L) (N gG (N jN L L) L))))))))
noncomputable def Ro (w:World) (os:OsState):SharedT:=⟨Mh w.params,nat_lit 429,(@PySem.Life.mk (@List.nil @Nat) (@List.nil @Nat) (@List.nil @Nat) (nat_lit 0) (@List.nil (@Prod @Nat @Nat)) (@List.nil @Nat) @Bool.false (@List.toArray @Nat (@List.nil @Nat)) (@List.nil @Nat) (nat_lit 0) @Bool.false @Bool.false @Bool.false (0:Int) (@List.cons @Int (2000:Int) (@List.cons @Int (10:Int) (@List.cons @Int (10:Int) (@List.nil @Int)))) @Bool.false (nat_lit 0) @Bool.true (@List.nil @Nat) (@List.nil @Nat) (nat_lit 0) @Bool.false),#[],(@PySem.Drawn.mk (nat_lit 0) (nat_lit 0) (nat_lit 0) (nat_lit 0)),nat_lit 934,os⟩
noncomputable def Mi:PySem.Pos:=(@PySem.Pos.mk (nat_lit 506) (nat_lit 0) (nat_lit 507) (nat_lit 8))
noncomputable def zX:List PySem.Stmt:=wU (nat_lit 7) (nat_lit 3) bV
theorem Jz (w:World) (os:OsState):segRunT treeTable pw w m0 q9 1 (nat_lit 443) (Rn w os) (piecesOf zX tX bT Mg [topFrame q0])=some (.next,Ro w os,bT,Mi):=by kernel_rfl
noncomputable def JA (P:Params):Obj:=⟨.type "dict",none,.dict #[⟨kH P "__name__",sT "__name__" 165,sT "ecdsa.ecdsa" 914⟩,⟨kH P "__doc__",sT "__doc__" 166,.none⟩,⟨kH P "__package__",sT "__package__" 167,.none⟩,⟨kH P "__loader__",sT "__loader__" 168,.builtin "__main__.__loader__#opaque"⟩,⟨kH P "__spec__",sT "__spec__" 169,.none⟩,⟨kH P "__annotations__",sT "__annotations__" 170,rF 6⟩,⟨kH P "__builtins__",sT "__builtins__" 171,rF 4⟩,⟨kH P "__file__",sT "__file__" 173,sT "/claim/cut.py" 172⟩,⟨kH P "__cached__",sT "__cached__" 174,.none⟩,⟨kH P "inverse_mod",sT "inverse_mod" 201,rF 21⟩,⟨kH P "CurveFp",sT "CurveFp" 293,rF 88⟩,⟨kH P "AbstractPoint",sT "AbstractPoint" 334,rF 112⟩,⟨kH P "PointJacobi",sT "PointJacobi" 769,rF 313⟩,⟨kH P "Point",sT "Point" 898,rF 410⟩,⟨kH P "INFINITY",sT "INFINITY" 913,rF 414⟩,⟨kH P "RSZeroError",sT "RSZeroError" 933,rF 425⟩,⟨kH P "InvalidPointError",sT "InvalidPointError" 951,rF 438⟩,⟨kH P "Signature",sT "Signature" 982,rF 458⟩] 18,#[]⟩
noncomputable def F9:Obj:=⟨.none,none,.fields #[zI 2,zI 0,rF 20,zI 15,zI 0,rF 27,zI 46,zI 0,rF 98,zI 62,zI 0,rF 122,zI 406,zI 0,rF 321,zI 506,zI 0,rF 421,zI 508,zI 0,rF 434,zI 510,zI 0,rF 447],#[]⟩
noncomputable def nN:Obj:=bI [.type "RuntimeError"]
noncomputable def nO:Obj:=⟨.type "builtin_function_or_method",none,.fields #[.builtin "type.__prepare__",.type "type"],#[]⟩
noncomputable def nP (P:Params):Obj:=⟨.type "dict",none,.dict #[⟨kH P "__module__",sT "__module__" 941,sT "ecdsa.ecdsa" 914⟩,⟨kH P "__qualname__",sT "__qualname__" 943,sT "InvalidPointError" 942⟩,⟨kH P "__firstlineno__",sT "__firstlineno__" 945,.int 508 944⟩,⟨kH P "__static_attributes__",sT "__static_attributes__" 946,rF 436⟩] 4,#[]⟩
noncomputable def nQ:Obj:=⟨.type "code",none,.fields #[sT "InvalidPointError" 936,sT "InvalidPointError" 937,sT "/claim/cut.py" 938,zI 508,zI 0,zI 0,zI 0,zI 0,rF 432,.bool false,zI 181,rF 433,.none,.none,.none,.none,zI 939,zI 508,sT "/claim/cut.py" 940],#[]⟩
noncomputable def nR:Obj:=⟨.type "frame",none,.plain,#[some (rF 434),some (rF 3),some (rF 431),none,some (sT "ecdsa.ecdsa" 914),none,some (rF 0)]⟩
noncomputable def nS (P:Params):Obj:=⟨.type "dict",none,.dict #[⟨kH P "__module__",sT "__module__" 941,sT "ecdsa.ecdsa" 914⟩,⟨kH P "__firstlineno__",sT "__firstlineno__" 945,.int 508 944⟩,⟨kH P "__static_attributes__",sT "__static_attributes__" 946,rF 436⟩,⟨kH P "__weakref__",sT "__weakref__" 948,rF 439⟩,⟨kH P "__doc__",sT "__doc__" 949,.none⟩] 3,#[]⟩
noncomputable def nU:Obj:=⟨.type "type",none,.cls (ClassData.mk (S "InvalidPointError") [.type "RuntimeError"] [rF 438,.type "RuntimeError",.type "Exception",.type "BaseException",.type "object"] 437 (S "InvalidPointError") true [] [] false none false),#[some (rF 429),none,some (sT "InvalidPointError" 934),some (sT "InvalidPointError" 942),some (.builtin "RuntimeError.__new__"),some (.bool true)]⟩
noncomputable def nV:Obj:=⟨.type "getset_descriptor",none,.fields #[sT "__weakref__" 947,rF 438,.builtin "ExceptionGroup.__weakref__",.none],#[]⟩
noncomputable def nW:Obj:=⟨.type "super",none,.fields #[rF 438,rF 438,rF 438],#[]⟩
noncomputable def nX:Obj:=⟨.type "builtin_function_or_method",none,.fields #[.builtin "object.__init_subclass__",rF 438],#[]⟩
noncomputable def nY:Obj:=bI [.type "object"]
noncomputable def nZ:Obj:=⟨.type "builtin_function_or_method",none,.fields #[.builtin "type.__prepare__",.type "type"],#[]⟩
noncomputable def n6 (P:Params):Obj:=⟨.type "dict",none,.dict #[⟨kH P "__module__",sT "__module__" 959,sT "ecdsa.ecdsa" 914⟩,⟨kH P "__qualname__",sT "__qualname__" 961,sT "Signature" 960⟩,⟨kH P "__firstlineno__",sT "__firstlineno__" 963,.int 510 962⟩,⟨kH P "__init__",sT "__init__" 972,rF 455⟩,⟨kH P "__static_attributes__",sT "__static_attributes__" 975,rF 456⟩] 5,#[]⟩
noncomputable def n7:Obj:=⟨.none,none,.fields #[zI 512,zI 4,rF 454],#[]⟩
noncomputable def n8:Obj:=⟨.type "code",none,.fields #[sT "Signature" 954,sT "Signature" 955,sT "/claim/cut.py" 956,zI 510,zI 0,zI 0,zI 0,zI 0,rF 445,.bool false,zI 181,rF 446,.none,.none,.none,.none,zI 957,zI 510,sT "/claim/cut.py" 958],#[]⟩
noncomputable def n9:Obj:=⟨.type "frame",none,.plain,#[some (rF 447),some (rF 3),some (rF 444),none,some (sT "ecdsa.ecdsa" 914),none,some (rF 0)]⟩
noncomputable def oh:Obj:=bI [sT "self" 967,sT "r" 968,sT "s" 969]
noncomputable def oi:Obj:=bX "__init__" "Signature.__init__" [11,0]
noncomputable def oj:Obj:=cu "__init__" 964 "Signature.__init__" 965 "/claim/cut.py" 966 512 3 0 0 3 449 181 450 451 452 453 970 512 "/claim/cut.py" 971
noncomputable def om:Obj:=b8 "__init__" "Signature.__init__" [11,0] 3 .none "ecdsa.ecdsa" 914 454
noncomputable def oq:Obj:=bI [sT "r" 973,sT "s" 974]
noncomputable def ou (P:Params):Obj:=⟨.type "dict",none,.dict #[⟨kH P "__module__",sT "__module__" 959,sT "ecdsa.ecdsa" 914⟩,⟨kH P "__firstlineno__",sT "__firstlineno__" 963,.int 510 962⟩,⟨kH P "__init__",sT "__init__" 972,rF 455⟩,⟨kH P "__static_attributes__",sT "__static_attributes__" 975,rF 456⟩,⟨kH P "__dict__",sT "__dict__" 977,rF 459⟩,⟨kH P "__weakref__",sT "__weakref__" 979,rF 460⟩,⟨kH P "__doc__",sT "__doc__" 980,.none⟩] 4,#[]⟩
noncomputable def ow:Obj:=⟨.type "type",none,.cls (ClassData.mk (S "Signature") [.type "object"] [rF 458,.type "object"] 457 (S "Signature") true [] [] false none false),#[some (rF 442),none,some (sT "Signature" 952),some (sT "Signature" 960),some (.builtin "object.__new__"),some (.bool true)]⟩
noncomputable def oz:Obj:=⟨.type "getset_descriptor",none,.fields #[sT "__dict__" 976,rF 458,.builtin "function.__dict__",.builtin "function.__dict__#set"],#[]⟩
noncomputable def oA:Obj:=⟨.type "getset_descriptor",none,.fields #[sT "__weakref__" 978,rF 458,.builtin "ExceptionGroup.__weakref__",.none],#[]⟩
noncomputable def oB:Obj:=⟨.type "super",none,.fields #[rF 458,rF 458,rF 458],#[]⟩
noncomputable def oE:Obj:=⟨.type "builtin_function_or_method",none,.fields #[.builtin "object.__init_subclass__",rF 458],#[]⟩
noncomputable def Mj (P:Params):BT:=(N (boot_o_0 P) (N (boot_o_1 P) (N (JA P) (N (boot_o_7 P) (N oT (N oC (N mj (N dJ (N oT L L) (N oT L L)) (N oT (N oT L L) (N n8 L L))) (N (nJ P) (N eO (N g7 L L) (N (kY P) L L)) (N oT (N jw L L) L))) (N oT (N oT (N d7 (N gR L L) (N jX L L)) (N oC (N jk L L) L)) (N (cM P) (N oC (N iA L L) (N (nP P) L L)) (N gx (N oC L L) L)))) (N lH (N lS (N mD (N oT (N oC L L) (N jS L L)) (N oT (N oT L L) (N om L L))) (N oT (N oT (N ig L L) (N oT L L)) (N gq (N oT L L) L))) (N l6 (N (mQ P) (N eB (N oT L L) (N j5 L L)) (N gb (N jq L L) L)) (N (dw P) (N fC (N iF L L) (N nV L L)) (N gC (N jJ L L) L))))) (N oT (N kM (N lQ (N mw (N dS (N gI L L) (N oT L L)) (N fN (N je L L) (N oh L L))) (N nM (N oT (N oC L L) (N oT L L)) (N oT (N oT L L) L))) (N oT (N mK (N oC (N gU L L) (N jZ L L)) (N fY (N oC L L) L)) (N cP (N fy (N oT L L) (N nR L L)) (N gz (N jH L L) L)))) (N lK (N lV (N oT (N oT (N gP L L) (N oC L L)) (N (fT P) (N oT L L) (N oz L L))) (N (cJ P) (N fj (N iw L L) (N ly L L)) (N oC (N jC L L) L))) (N oC (N mU (N eF (N oT L L) (N j9 L L)) (N gh (N jt L L) L)) (N dF (N fG (N iJ L L) (N nZ L L)) (N oT (N jM L L) L)))))) (N (boot_o_5 P) (N (boot_o_9 P) (N pJ (N oT (N oT (N dM (N gH L L) (N jP L L)) (N fL (N jc L L) (N oT L L))) (N nK (N oC (N g9 L L) (N k6 L L)) (N gk (N oC L L) L))) (N lY (N mJ (N d9 (N gS L L) (N oT L L)) (N oT (N jm L L) L)) (N cN (N oT (N oC L L) (N oC L L)) (N oT (N oT L L) L)))) (N oT (N lT (N oC (N dX (N oT L L) (N jU L L)) (N fR (N jh L L) (N (ou P) L L))) (N cH (N fh (N oT L L) (N lq L L)) (N gu (N jB L L) L))) (N l8 (N mS (N oT (N gX L L) (N (j7 P) L L)) (N gc (N oT L L) L)) (N dz (N fE (N iH L L) (N nX L L)) (N oC (N jK L L) L))))) (N nE (N kO (N oT (N mz (N oC (N gK L L) (N jR L L)) (N oC (N oC L L) (N oi L L))) (N oC (N eZ (N oT L L) (N k8 L L)) (N gp (N jz L L) L))) (N l0 (N mO (N oT (N oC L L) (N j3 L L)) (N oT (N oT L L) L)) (N di (N oT (N iD L L) (N (nS P) L L)) (N gA (N oT L L) L)))) (N lN (N oC (N mG (N dZ (N oT L L) (N oT L L)) (N fV (N jj L L) (N oB L L))) (N cL (N fm (N iy L L) (N nN L L)) (N oT (N jE L L) L))) (N oT (N nH (N eG (N gZ L L) (N (kW P) L L)) (N oC (N ju L L) L)) (N oT (N oC (N iZ L L) (N oT L L)) (N gF (N oC L L) L))))))) (N (boot_o_2 P) (N (boot_o_4 P) (N (boot_o_8 P) (N oC (N lO (N mq (N oT (N oC L L) (N jO L L)) (N fK (N jb L L) (N n9 L L))) (N oT (N oT (N g8 L L) (N kZ L L)) (N gj (N oT L L) L))) (N lX (N oC (N d8 (N oT L L) (N jY L L)) (N fW (N jl L L) L)) (N iX (N fq (N oT L L) (N oT L L)) (N gy (N jF L L) L)))) (N (lI P) (N oT (N oT (N dW (N gM L L) (N jT L L)) (N fQ (N jg L L) (N oq L L))) (N iW (N oC (N iu L L) (N (lg P) L L)) (N gr (N oC L L) L))) (N l7 (N mR (N eE (N gW L L) (N j6 L L)) (N oT (N jr L L) L)) (N oT (N oT (N (iG P) L L) (N nW L L)) (N oT (N oT L L) L))))) (N F9 (N kN (N lR (N oT (N oT (N gJ L L) (N oC L L)) (N oT (N oT L L) (N oT L L))) (N oT (N eW (N ia L L) (N oC L L)) (N oC (N jy L L) L))) (N oC (N mL (N eu (N oT L L) (N oT L L)) (N fZ (N jn L L) L)) (N cQ (N fz (N iC L L) (N oT L L)) (N oT (N jI L L) L)))) (N lM (N oT (N mF (N oC (N gQ L L) (N jV L L)) (N fU (N oC L L) (N oA L L))) (N cK (N fk (N oT L L) (N lz L L)) (N gv (N jD L L) L))) (N l9 (N mV (N oT (N oC L L) (N kc L L)) (N oT (N oT L L) L)) (N dG (N oT (N iY L L) (N (n6 P) L L)) (N gE (N oT L L) L)))))) (N (boot_o_6 P) (N (boot_o_10 P) (N oT (N lP (N oC (N dR (N oT L L) (N jQ L L)) (N fM (N jd L L) (N oC L L))) (N nL (N eU (N oT L L) (N (k7 P) L L)) (N gm (N jx L L) L))) (N lZ (N oT (N oT (N gT L L) (N oC L L)) (N fX (N oT L L) L)) (N cO (N fu (N iB L L) (N nQ L L)) (N oC (N jG L L) L)))) (N lJ (N lU (N mE (N dY (N gO L L) (N oT L L)) (N fS (N ji L L) (N ow L L))) (N cI (N oT (N oC L L) (N lu L L)) (N oT (N oT L L) L))) (N oT (N mT (N oC (N gY L L) (N j8 L L)) (N gg (N oC L L) L)) (N dD (N fF (N iI L L) (N nY L L)) (N gD (N jL L L) L))))) (N nG (N lG (N oC (N mC (N dU (N oT L L) (N oT L L)) (N fO (N jf L L) (N oj L L))) (N iV (N fc (N ic L L) (N k9 L L)) (N oT (N jA L L) L))) (N oT (N mP (N ez (N gV L L) (N j4 L L)) (N oC (N jo L L) L)) (N dj (N oC (N iE L L) (N nU L L)) (N gB (N oC L L) L)))) (N oT (N lW (N mH (N oT (N oC L L) (N jW L L)) (N oT (N oT L L) (N oE L L))) (N oT (N oT (N iz L L) (N nO L L)) (N gw (N oT L L) L))) (N mh (N nI (N eN (N oT L L) (N kX L L)) (N gi (N jv L L) L)) (N oC (N fJ (N (ja P) L L) (N n7 L L)) (N gG (N jN L L) L))))))))
noncomputable def Rp (w:World) (os:OsState):SharedT:=⟨Mj w.params,nat_lit 463,(@PySem.Life.mk (@List.nil @Nat) (@List.nil @Nat) (@List.nil @Nat) (nat_lit 0) (@List.nil (@Prod @Nat @Nat)) (@List.nil @Nat) @Bool.false (@List.toArray @Nat (@List.nil @Nat)) (@List.nil @Nat) (nat_lit 0) @Bool.false @Bool.false @Bool.false (0:Int) (@List.cons @Int (2000:Int) (@List.cons @Int (10:Int) (@List.cons @Int (10:Int) (@List.nil @Int)))) @Bool.false (nat_lit 0) @Bool.true (@List.nil @Nat) (@List.nil @Nat) (nat_lit 0) @Bool.false),#[],(@PySem.Drawn.mk (nat_lit 0) (nat_lit 0) (nat_lit 0) (nat_lit 0)),nat_lit 983,os⟩
noncomputable def Mk:PySem.Pos:=(@PySem.Pos.mk (nat_lit 510) (nat_lit 0) (nat_lit 514) (nat_lit 18))
noncomputable def yZ:List PySem.Stmt:=wU (nat_lit 10) (nat_lit 2) bV
theorem JB (w:World) (os:OsState):segRunT treeTable pw w m0 q9 1 (nat_lit 415) (Ro w os) (piecesOf yZ tX bT Mi [topFrame q0])=some (.next,Rp w os,bT,Mk):=by kernel_rfl
noncomputable def JC (P:Params):Obj:=⟨.type "dict",none,.dict #[⟨kH P "__name__",sT "__name__" 165,sT "ecdsa.ecdsa" 914⟩,⟨kH P "__doc__",sT "__doc__" 166,.none⟩,⟨kH P "__package__",sT "__package__" 167,.none⟩,⟨kH P "__loader__",sT "__loader__" 168,.builtin "__main__.__loader__#opaque"⟩,⟨kH P "__spec__",sT "__spec__" 169,.none⟩,⟨kH P "__annotations__",sT "__annotations__" 170,rF 6⟩,⟨kH P "__builtins__",sT "__builtins__" 171,rF 4⟩,⟨kH P "__file__",sT "__file__" 173,sT "/claim/cut.py" 172⟩,⟨kH P "__cached__",sT "__cached__" 174,.none⟩,⟨kH P "inverse_mod",sT "inverse_mod" 201,rF 21⟩,⟨kH P "CurveFp",sT "CurveFp" 293,rF 88⟩,⟨kH P "AbstractPoint",sT "AbstractPoint" 334,rF 112⟩,⟨kH P "PointJacobi",sT "PointJacobi" 769,rF 313⟩,⟨kH P "Point",sT "Point" 898,rF 410⟩,⟨kH P "INFINITY",sT "INFINITY" 913,rF 414⟩,⟨kH P "RSZeroError",sT "RSZeroError" 933,rF 425⟩,⟨kH P "InvalidPointError",sT "InvalidPointError" 951,rF 438⟩,⟨kH P "Signature",sT "Signature" 982,rF 458⟩,⟨kH P "Public_key",sT "Public_key" 1052,rF 501⟩] 19,#[]⟩
noncomputable def Gb:Obj:=⟨.none,none,.fields #[zI 2,zI 0,rF 20,zI 15,zI 0,rF 27,zI 46,zI 0,rF 98,zI 62,zI 0,rF 122,zI 406,zI 0,rF 321,zI 506,zI 0,rF 421,zI 508,zI 0,rF 434,zI 510,zI 0,rF 447,zI 515,zI 0,rF 468],#[]⟩
noncomputable def pK:Obj:=bI [.type "object"]
noncomputable def pL:Obj:=⟨.type "builtin_function_or_method",none,.fields #[.builtin "type.__prepare__",.type "type"],#[]⟩
noncomputable def pM (P:Params):Obj:=⟨.type "dict",none,.dict #[⟨kH P "__module__",sT "__module__" 990,sT "ecdsa.ecdsa" 914⟩,⟨kH P "__qualname__",sT "__qualname__" 992,sT "Public_key" 991⟩,⟨kH P "__firstlineno__",sT "__firstlineno__" 994,.int 515 993⟩,⟨kH P "__init__",sT "__init__" 1006,rF 477⟩,⟨kH P "__eq__",sT "__eq__" 1014,rF 484⟩,⟨kH P "__ne__",sT "__ne__" 1022,rF 491⟩,⟨kH P "verifies",sT "verifies" 1040,rF 498⟩,⟨kH P "__static_attributes__",sT "__static_attributes__" 1044,rF 499⟩] 8,#[]⟩
noncomputable def pN:Obj:=⟨.none,none,.fields #[zI 517,zI 4,rF 476,zI 532,zI 4,rF 483,zI 537,zI 4,rF 490,zI 540,zI 4,rF 497],#[]⟩
noncomputable def pO:Obj:=⟨.type "code",none,.fields #[sT "Public_key" 985,sT "Public_key" 986,sT "/claim/cut.py" 987,zI 515,zI 0,zI 0,zI 0,zI 0,rF 466,.bool false,zI 181,rF 467,.none,.none,.none,.none,zI 988,zI 515,sT "/claim/cut.py" 989],#[]⟩
noncomputable def pP:Obj:=⟨.type "frame",none,.plain,#[some (rF 468),some (rF 3),some (rF 465),none,some (sT "ecdsa.ecdsa" 914),none,some (rF 0)]⟩
noncomputable def pQ:Obj:=bI [.bool true]
noncomputable def pR:Obj:=bI [sT "self" 998,sT "generator" 999,sT "point" 1000,sT "verify" 1001,sT "n" 1002,sT "p" 1003]
noncomputable def pS:Obj:=bX "__init__" "Public_key.__init__" [12,0]
noncomputable def pT:Obj:=cu "__init__" 995 "Public_key.__init__" 996 "/claim/cut.py" 997 517 4 0 0 3 471 181 472 473 474 475 1004 517 "/claim/cut.py" 1005
noncomputable def pU:Obj:=b8 "__init__" "Public_key.__init__" [12,0] 3 (rF 470) "ecdsa.ecdsa" 914 476
noncomputable def pV:Obj:=bI [sT "self" 1010,sT "other" 1011]
noncomputable def pW:Obj:=bX "__eq__" "Public_key.__eq__" [12,1]
noncomputable def pX:Obj:=cu "__eq__" 1007 "Public_key.__eq__" 1008 "/claim/cut.py" 1009 532 2 0 0 3 478 181 479 480 481 482 1012 532 "/claim/cut.py" 1013
noncomputable def pY:Obj:=b8 "__eq__" "Public_key.__eq__" [12,1] 3 .none "ecdsa.ecdsa" 914 483
noncomputable def pZ:Obj:=bI [sT "self" 1018,sT "other" 1019]
noncomputable def p5:Obj:=bX "__ne__" "Public_key.__ne__" [12,2]
noncomputable def p6:Obj:=cu "__ne__" 1015 "Public_key.__ne__" 1016 "/claim/cut.py" 1017 537 2 0 0 3 485 181 486 487 488 489 1020 537 "/claim/cut.py" 1021
noncomputable def p7:Obj:=b8 "__ne__" "Public_key.__ne__" [12,2] 3 .none "ecdsa.ecdsa" 914 490
noncomputable def p8:Obj:=bI [sT "self" 1026,sT "hash" 1027,sT "signature" 1028,sT "G" 1029,sT "n" 1030,sT "r" 1031,sT "s" 1032,sT "c" 1033,sT "u1" 1034,sT "u2" 1035,sT "xy" 1036,sT "v" 1037]
noncomputable def p9:Obj:=bX "verifies" "Public_key.verifies" [12,3]
noncomputable def qa:Obj:=cu "verifies" 1023 "Public_key.verifies" 1024 "/claim/cut.py" 1025 540 3 0 0 3 492 181 493 494 495 496 1038 540 "/claim/cut.py" 1039
noncomputable def qb:Obj:=b8 "verifies" "Public_key.verifies" [12,3] 3 .none "ecdsa.ecdsa" 914 497
noncomputable def qc:Obj:=bI [sT "curve" 1041,sT "generator" 1042,sT "point" 1043]
noncomputable def qd (P:Params):Obj:=⟨.type "dict",none,.dict #[⟨kH P "__module__",sT "__module__" 990,sT "ecdsa.ecdsa" 914⟩,⟨kH P "__firstlineno__",sT "__firstlineno__" 994,.int 515 993⟩,⟨kH P "__init__",sT "__init__" 1006,rF 477⟩,⟨kH P "__eq__",sT "__eq__" 1014,rF 484⟩,⟨kH P "__ne__",sT "__ne__" 1022,rF 491⟩,⟨kH P "verifies",sT "verifies" 1040,rF 498⟩,⟨kH P "__static_attributes__",sT "__static_attributes__" 1044,rF 499⟩,⟨kH P "__dict__",sT "__dict__" 1046,rF 502⟩,⟨kH P "__weakref__",sT "__weakref__" 1048,rF 503⟩,⟨kH P "__doc__",sT "__doc__" 1049,.none⟩,⟨kH P "__hash__",sT "__hash__" 1050,.none⟩] 5,#[]⟩
noncomputable def qe:Obj:=⟨.type "type",none,.cls (ClassData.mk (S "Public_key") [.type "object"] [rF 501,.type "object"] 500 (S "Public_key") true [] [] false none false),#[some (rF 463),none,some (sT "Public_key" 983),some (sT "Public_key" 991),some (.builtin "object.__new__"),some (.bool true)]⟩
noncomputable def qf:Obj:=⟨.type "getset_descriptor",none,.fields #[sT "__dict__" 1045,rF 501,.builtin "function.__dict__",.builtin "function.__dict__#set"],#[]⟩
noncomputable def qg:Obj:=⟨.type "getset_descriptor",none,.fields #[sT "__weakref__" 1047,rF 501,.builtin "ExceptionGroup.__weakref__",.none],#[]⟩
noncomputable def qh:Obj:=⟨.type "super",none,.fields #[rF 501,rF 501,rF 501],#[]⟩
noncomputable def qi:Obj:=⟨.type "builtin_function_or_method",none,.fields #[.builtin "object.__init_subclass__",rF 501],#[]⟩
noncomputable def Ml (P:Params):BT:=(N (boot_o_0 P) (N (boot_o_1 P) (N (JC P) (N (boot_o_7 P) (N oT (N oC (N mj (N dJ (N oT L L) (N oT L L)) (N oT (N oT L L) (N n8 L L))) (N (nJ P) (N eO (N g7 L L) (N (kY P) L L)) (N oT (N jw L L) (N oC L L)))) (N oT (N oT (N d7 (N gR L L) (N jX L L)) (N oC (N jk L L) (N pK L L))) (N (cM P) (N oC (N iA L L) (N (nP P) L L)) (N gx (N oC L L) (N oT L L))))) (N lH (N lS (N mD (N oT (N oC L L) (N jS L L)) (N oT (N oT L L) (N om L L))) (N oT (N oT (N ig L L) (N oT L L)) (N gq (N oT L L) (N pZ L L)))) (N l6 (N (mQ P) (N eB (N oT L L) (N j5 L L)) (N gb (N jq L L) (N oT L L))) (N (dw P) (N fC (N iF L L) (N nV L L)) (N gC (N jJ L L) (N qg L L)))))) (N oT (N kM (N lQ (N mw (N dS (N gI L L) (N oT L L)) (N fN (N je L L) (N oh L L))) (N nM (N oT (N oC L L) (N oT L L)) (N oT (N oT L L) (N pX L L)))) (N oT (N mK (N oC (N gU L L) (N jZ L L)) (N fY (N oC L L) (N pN L L))) (N cP (N fy (N oT L L) (N nR L L)) (N gz (N jH L L) (N qc L L))))) (N lK (N lV (N oT (N oT (N gP L L) (N oC L L)) (N (fT P) (N oT L L) (N oz L L))) (N (cJ P) (N fj (N iw L L) (N ly L L)) (N oC (N jC L L) (N p7 L L)))) (N oC (N mU (N eF (N oT L L) (N j9 L L)) (N gh (N jt L L) (N pS L L))) (N dF (N fG (N iJ L L) (N nZ L L)) (N oT (N jM L L) L)))))) (N (boot_o_5 P) (N (boot_o_9 P) (N pJ (N oT (N oT (N dM (N gH L L) (N jP L L)) (N fL (N jc L L) (N oT L L))) (N nK (N oC (N g9 L L) (N k6 L L)) (N gk (N oC L L) (N oT L L)))) (N lY (N mJ (N d9 (N gS L L) (N oT L L)) (N oT (N jm L L) (N (pM P) L L))) (N cN (N oT (N oC L L) (N oC L L)) (N oT (N oT L L) (N qa L L))))) (N oT (N lT (N oC (N dX (N oT L L) (N jU L L)) (N fR (N jh L L) (N (ou P) L L))) (N cH (N fh (N oT L L) (N lq L L)) (N gu (N jB L L) (N p5 L L)))) (N l8 (N mS (N oT (N gX L L) (N (j7 P) L L)) (N gc (N oT L L) (N pR L L))) (N dz (N fE (N iH L L) (N nX L L)) (N oC (N jK L L) (N qi L L)))))) (N nE (N kO (N oT (N mz (N oC (N gK L L) (N jR L L)) (N oC (N oC L L) (N oi L L))) (N oC (N eZ (N oT L L) (N k8 L L)) (N gp (N jz L L) (N oT L L)))) (N l0 (N mO (N oT (N oC L L) (N j3 L L)) (N oT (N oT L L) (N pP L L))) (N di (N oT (N iD L L) (N (nS P) L L)) (N gA (N oT L L) (N qe L L))))) (N lN (N oC (N mG (N dZ (N oT L L) (N oT L L)) (N fV (N jj L L) (N oB L L))) (N cL (N fm (N iy L L) (N nN L L)) (N oT (N jE L L) (N oC L L)))) (N oT (N nH (N eG (N gZ L L) (N (kW P) L L)) (N oC (N ju L L) (N pU L L))) (N oT (N oC (N iZ L L) (N oT L L)) (N gF (N oC L L) L))))))) (N (boot_o_2 P) (N (boot_o_4 P) (N (boot_o_8 P) (N oC (N lO (N mq (N oT (N oC L L) (N jO L L)) (N fK (N jb L L) (N n9 L L))) (N oT (N oT (N g8 L L) (N kZ L L)) (N gj (N oT L L) (N pV L L)))) (N lX (N oC (N d8 (N oT L L) (N jY L L)) (N fW (N jl L L) (N pL L L))) (N iX (N fq (N oT L L) (N oT L L)) (N gy (N jF L L) (N p9 L L))))) (N (lI P) (N oT (N oT (N dW (N gM L L) (N jT L L)) (N fQ (N jg L L) (N oq L L))) (N iW (N oC (N iu L L) (N (lg P) L L)) (N gr (N oC L L) (N oT L L)))) (N l7 (N mR (N eE (N gW L L) (N j6 L L)) (N oT (N jr L L) (N oC L L))) (N oT (N oT (N (iG P) L L) (N nW L L)) (N oT (N oT L L) (N qh L L)))))) (N Gb (N kN (N lR (N oT (N oT (N gJ L L) (N oC L L)) (N oT (N oT L L) (N oT L L))) (N oT (N eW (N ia L L) (N oC L L)) (N oC (N jy L L) (N pY L L)))) (N oC (N mL (N eu (N oT L L) (N oT L L)) (N fZ (N jn L L) (N pO L L))) (N cQ (N fz (N iC L L) (N oT L L)) (N oT (N jI L L) (N (qd P) L L))))) (N lM (N oT (N mF (N oC (N gQ L L) (N jV L L)) (N fU (N oC L L) (N oA L L))) (N cK (N fk (N oT L L) (N lz L L)) (N gv (N jD L L) (N oT L L)))) (N l9 (N mV (N oT (N oC L L) (N kc L L)) (N oT (N oT L L) (N pT L L))) (N dG (N oT (N iY L L) (N (n6 P) L L)) (N gE (N oT L L) L)))))) (N (boot_o_6 P) (N (boot_o_10 P) (N oT (N lP (N oC (N dR (N oT L L) (N jQ L L)) (N fM (N jd L L) (N oC L L))) (N nL (N eU (N oT L L) (N (k7 P) L L)) (N gm (N jx L L) (N pW L L)))) (N lZ (N oT (N oT (N gT L L) (N oC L L)) (N fX (N oT L L) (N oT L L))) (N cO (N fu (N iB L L) (N nQ L L)) (N oC (N jG L L) (N qb L L))))) (N lJ (N lU (N mE (N dY (N gO L L) (N oT L L)) (N fS (N ji L L) (N ow L L))) (N cI (N oT (N oC L L) (N lu L L)) (N oT (N oT L L) (N p6 L L)))) (N oT (N mT (N oC (N gY L L) (N j8 L L)) (N gg (N oC L L) (N oT L L))) (N dD (N fF (N iI L L) (N nY L L)) (N gD (N jL L L) L))))) (N nG (N lG (N oC (N mC (N dU (N oT L L) (N oT L L)) (N fO (N jf L L) (N oj L L))) (N iV (N fc (N ic L L) (N k9 L L)) (N oT (N jA L L) (N oC L L)))) (N oT (N mP (N ez (N gV L L) (N j4 L L)) (N oC (N jo L L) (N pQ L L))) (N dj (N oC (N iE L L) (N nU L L)) (N gB (N oC L L) (N qf L L))))) (N oT (N lW (N mH (N oT (N oC L L) (N jW L L)) (N oT (N oT L L) (N oE L L))) (N oT (N oT (N iz L L) (N nO L L)) (N gw (N oT L L) (N p8 L L)))) (N mh (N nI (N eN (N oT L L) (N kX L L)) (N gi (N jv L L) (N oT L L))) (N oC (N fJ (N (ja P) L L) (N n7 L L)) (N gG (N jN L L) L))))))))
noncomputable def Rq (w:World) (os:OsState):SharedT:=⟨Ml w.params,nat_lit 506,(@PySem.Life.mk (@List.nil @Nat) (@List.nil @Nat) (@List.nil @Nat) (nat_lit 0) (@List.nil (@Prod @Nat @Nat)) (@List.nil @Nat) @Bool.false (@List.toArray @Nat (@List.nil @Nat)) (@List.nil @Nat) (nat_lit 0) @Bool.false @Bool.false @Bool.false (0:Int) (@List.cons @Int (2000:Int) (@List.cons @Int (10:Int) (@List.cons @Int (10:Int) (@List.nil @Int)))) @Bool.false (nat_lit 0) @Bool.true (@List.nil @Nat) (@List.nil @Nat) (nat_lit 0) @Bool.false),#[],(@PySem.Drawn.mk (nat_lit 0) (nat_lit 0) (nat_lit 0) (nat_lit 0)),nat_lit 1053,os⟩
noncomputable def Mm:PySem.Pos:=(@PySem.Pos.mk (nat_lit 515) (nat_lit 0) (nat_lit 557) (nat_lit 21))
noncomputable def yj:List PySem.Stmt:=wU (nat_lit 12) (nat_lit 1) bV
theorem JD (w:World) (os:OsState):segRunT treeTable pw w m0 q9 1 (nat_lit 346) (Rp w os) (piecesOf yj tX bT Mk [topFrame q0])=some (.next,Rq w os,bT,Mm):=by kernel_rfl
noncomputable def JE (P:Params):Obj:=⟨.type "dict",none,.dict #[⟨kH P "__name__",sT "__name__" 165,sT "law_xx0001_12" 1118⟩,⟨kH P "__doc__",sT "__doc__" 166,.none⟩,⟨kH P "__package__",sT "__package__" 167,.none⟩,⟨kH P "__loader__",sT "__loader__" 168,.builtin "__main__.__loader__#opaque"⟩,⟨kH P "__spec__",sT "__spec__" 169,.none⟩,⟨kH P "__annotations__",sT "__annotations__" 170,rF 6⟩,⟨kH P "__builtins__",sT "__builtins__" 171,rF 4⟩,⟨kH P "__file__",sT "__file__" 173,sT "/claim/cut.py" 172⟩,⟨kH P "__cached__",sT "__cached__" 174,.none⟩,⟨kH P "inverse_mod",sT "inverse_mod" 201,rF 21⟩,⟨kH P "CurveFp",sT "CurveFp" 293,rF 88⟩,⟨kH P "AbstractPoint",sT "AbstractPoint" 334,rF 112⟩,⟨kH P "PointJacobi",sT "PointJacobi" 769,rF 313⟩,⟨kH P "Point",sT "Point" 898,rF 410⟩,⟨kH P "INFINITY",sT "INFINITY" 913,rF 414⟩,⟨kH P "RSZeroError",sT "RSZeroError" 933,rF 425⟩,⟨kH P "InvalidPointError",sT "InvalidPointError" 951,rF 438⟩,⟨kH P "Signature",sT "Signature" 982,rF 458⟩,⟨kH P "Public_key",sT "Public_key" 1052,rF 501⟩,⟨kH P "Private_key",sT "Private_key" 1117,rF 543⟩,⟨kH P "_law_primes",sT "_law_primes" 1144,rF 548⟩,⟨kH P "_law_state",sT "_law_state" 1150,rF 553⟩,⟨kH P "_law_take",sT "_law_take" 1162,rF 560⟩,⟨kH P "_law_curve",sT "_law_curve" 1173,rF 567⟩] 24,#[]⟩
noncomputable def Ge:Obj:=⟨.none,none,.fields #[zI 2,zI 0,rF 20,zI 15,zI 0,rF 27,zI 46,zI 0,rF 98,zI 62,zI 0,rF 122,zI 406,zI 0,rF 321,zI 506,zI 0,rF 421,zI 508,zI 0,rF 434,zI 510,zI 0,rF 447,zI 515,zI 0,rF 468,zI 558,zI 0,rF 511,zI 591,zI 0,rF 552,zI 596,zI 0,rF 559,zI 607,zI 0,rF 566],#[]⟩
noncomputable def ri:Obj:=bI [.type "object"]
noncomputable def rj:Obj:=⟨.type "builtin_function_or_method",none,.fields #[.builtin "type.__prepare__",.type "type"],#[]⟩
noncomputable def rm (P:Params):Obj:=⟨.type "dict",none,.dict #[⟨kH P "__module__",sT "__module__" 1060,sT "ecdsa.ecdsa" 914⟩,⟨kH P "__qualname__",sT "__qualname__" 1062,sT "Private_key" 1061⟩,⟨kH P "__firstlineno__",sT "__firstlineno__" 1064,.int 558 1063⟩,⟨kH P "__init__",sT "__init__" 1073,rF 519⟩,⟨kH P "__eq__",sT "__eq__" 1081,rF 526⟩,⟨kH P "__ne__",sT "__ne__" 1089,rF 533⟩,⟨kH P "sign",sT "sign" 1106,rF 540⟩,⟨kH P "__static_attributes__",sT "__static_attributes__" 1109,rF 541⟩] 8,#[]⟩
noncomputable def rq:Obj:=⟨.none,none,.fields #[zI 560,zI 4,rF 518,zI 564,zI 4,rF 525,zI 569,zI 4,rF 532,zI 572,zI 4,rF 539],#[]⟩
noncomputable def rt:Obj:=⟨.type "code",none,.fields #[sT "Private_key" 1055,sT "Private_key" 1056,sT "/claim/cut.py" 1057,zI 558,zI 0,zI 0,zI 0,zI 0,rF 509,.bool false,zI 181,rF 510,.none,.none,.none,.none,zI 1058,zI 558,sT "/claim/cut.py" 1059],#[]⟩
noncomputable def ru:Obj:=⟨.type "frame",none,.plain,#[some (rF 511),some (rF 3),some (rF 508),none,some (sT "ecdsa.ecdsa" 914),none,some (rF 0)]⟩
noncomputable def ry:Obj:=bI [sT "self" 1068,sT "public_key" 1069,sT "secret_multiplier" 1070]
noncomputable def rz:Obj:=bX "__init__" "Private_key.__init__" [13,0]
noncomputable def rA:Obj:=cu "__init__" 1065 "Private_key.__init__" 1066 "/claim/cut.py" 1067 560 3 0 0 3 513 181 514 515 516 517 1071 560 "/claim/cut.py" 1072
noncomputable def rB:Obj:=b8 "__init__" "Private_key.__init__" [13,0] 3 .none "ecdsa.ecdsa" 914 518
noncomputable def rC:Obj:=bI [sT "self" 1077,sT "other" 1078]
noncomputable def rD:Obj:=bX "__eq__" "Private_key.__eq__" [13,1]
noncomputable def rE:Obj:=cu "__eq__" 1074 "Private_key.__eq__" 1075 "/claim/cut.py" 1076 564 2 0 0 3 520 181 521 522 523 524 1079 564 "/claim/cut.py" 1080
noncomputable def rG:Obj:=b8 "__eq__" "Private_key.__eq__" [13,1] 3 .none "ecdsa.ecdsa" 914 525
noncomputable def rH:Obj:=bI [sT "self" 1085,sT "other" 1086]
noncomputable def rI:Obj:=bX "__ne__" "Private_key.__ne__" [13,2]
noncomputable def rJ:Obj:=cu "__ne__" 1082 "Private_key.__ne__" 1083 "/claim/cut.py" 1084 569 2 0 0 3 527 181 528 529 530 531 1087 569 "/claim/cut.py" 1088
noncomputable def rK:Obj:=b8 "__ne__" "Private_key.__ne__" [13,2] 3 .none "ecdsa.ecdsa" 914 532
noncomputable def rL:Obj:=bI [sT "self" 1093,sT "hash" 1094,sT "random_k" 1095,sT "G" 1096,sT "n" 1097,sT "k" 1098,sT "ks" 1099,sT "kt" 1100,sT "p1" 1101,sT "r" 1102,sT "s" 1103]
noncomputable def rM:Obj:=bX "sign" "Private_key.sign" [13,3]
noncomputable def rN:Obj:=cu "sign" 1090 "Private_key.sign" 1091 "/claim/cut.py" 1092 572 3 0 0 3 534 181 535 536 537 538 1104 572 "/claim/cut.py" 1105
noncomputable def rO:Obj:=b8 "sign" "Private_key.sign" [13,3] 3 .none "ecdsa.ecdsa" 914 539
noncomputable def rP:Obj:=bI [sT "public_key" 1107,sT "secret_multiplier" 1108]
noncomputable def rQ (P:Params):Obj:=⟨.type "dict",none,.dict #[⟨kH P "__module__",sT "__module__" 1060,sT "ecdsa.ecdsa" 914⟩,⟨kH P "__firstlineno__",sT "__firstlineno__" 1064,.int 558 1063⟩,⟨kH P "__init__",sT "__init__" 1073,rF 519⟩,⟨kH P "__eq__",sT "__eq__" 1081,rF 526⟩,⟨kH P "__ne__",sT "__ne__" 1089,rF 533⟩,⟨kH P "sign",sT "sign" 1106,rF 540⟩,⟨kH P "__static_attributes__",sT "__static_attributes__" 1109,rF 541⟩,⟨kH P "__dict__",sT "__dict__" 1111,rF 544⟩,⟨kH P "__weakref__",sT "__weakref__" 1113,rF 545⟩,⟨kH P "__doc__",sT "__doc__" 1114,.none⟩,⟨kH P "__hash__",sT "__hash__" 1115,.none⟩] 5,#[]⟩
noncomputable def rR:Obj:=⟨.type "type",none,.cls (ClassData.mk (S "Private_key") [.type "object"] [rF 543,.type "object"] 542 (S "Private_key") true [] [] false none false),#[some (rF 506),none,some (sT "Private_key" 1053),some (sT "Private_key" 1061),some (.builtin "object.__new__"),some (.bool true)]⟩
noncomputable def rS:Obj:=⟨.type "getset_descriptor",none,.fields #[sT "__dict__" 1110,rF 543,.builtin "function.__dict__",.builtin "function.__dict__#set"],#[]⟩
noncomputable def rT:Obj:=⟨.type "getset_descriptor",none,.fields #[sT "__weakref__" 1112,rF 543,.builtin "ExceptionGroup.__weakref__",.none],#[]⟩
noncomputable def rU:Obj:=⟨.type "super",none,.fields #[rF 543,rF 543,rF 543],#[]⟩
noncomputable def rV:Obj:=⟨.type "builtin_function_or_method",none,.fields #[.builtin "object.__init_subclass__",rF 543],#[]⟩
noncomputable def rW:Obj:=bI [.int 5 1120,.int 7 1121,.int 11 1122,.int 13 1123,.int 17 1124,.int 19 1125,.int 23 1126,.int 29 1127,.int 31 1128,.int 37 1129,.int 41 1130,.int 43 1131,.int 47 1132,.int 53 1133,.int 59 1134,.int 61 1135,.int 67 1136,.int 71 1137,.int 73 1138,.int 79 1139,.int 83 1140,.int 89 1141,.int 97 1142,.int 101 1143]
noncomputable def rX:Obj:=bX "_law_state" "_law_state" [16]
noncomputable def rY:Obj:=⟨.type "code",none,.fields #[sT "_law_state" 1145,sT "_law_state" 1146,sT "/claim/cut.py" 1147,zI 591,zI 1,zI 0,zI 0,zI 3,rF 549,.bool true,zI 181,rF 550,.none,.none,.none,rF 551,zI 1148,zI 591,sT "/claim/cut.py" 1149],#[]⟩
noncomputable def rZ:Obj:=b8 "_law_state" "_law_state" [16] 3 .none "law_xx0001_12" 1118 552
noncomputable def sd:Obj:=bI [sT "state" 1154,sT "most" 1155,sT "cells" 1156,sT "at" 1157,sT "cell" 1158,sT "mixed" 1159]
noncomputable def se:Obj:=bX "_law_take" "_law_take" [17]
noncomputable def sf:Obj:=cu "_law_take" 1151 "_law_take" 1152 "/claim/cut.py" 1153 596 2 0 0 3 554 181 555 556 557 558 1160 596 "/claim/cut.py" 1161
noncomputable def sj:Obj:=b8 "_law_take" "_law_take" [17] 3 .none "law_xx0001_12" 1118 559
noncomputable def sr:Obj:=bI [sT "state" 1166,sT "p" 1167,sT "a" 1168,sT "b" 1169,sT "k" 1170]
noncomputable def su:Obj:=bX "_law_curve" "_law_curve" [18]
noncomputable def sy:Obj:=cu "_law_curve" 1163 "_law_curve" 1164 "/claim/cut.py" 1165 607 1 0 0 3 561 181 562 563 564 565 1171 607 "/claim/cut.py" 1172
noncomputable def sA:Obj:=b8 "_law_curve" "_law_curve" [18] 3 .none "law_xx0001_12" 1118 566
noncomputable def Mn (P:Params):BT:=(N (boot_o_0 P) (N (boot_o_1 P) (N (JE P) (N (boot_o_7 P) (N oT (N oC (N mj (N dJ (N oT (N rt L L) L) (N oT L L)) (N oT (N oT L L) (N n8 L L))) (N (nJ P) (N eO (N g7 (N rR L L) L) (N (kY P) L L)) (N oT (N jw L L) (N oC L L)))) (N oT (N oT (N d7 (N gR (N oT L L) L) (N jX L L)) (N oC (N jk L L) (N pK L L))) (N (cM P) (N oC (N iA (N sf L L) L) (N (nP P) L L)) (N gx (N oC L L) (N oT L L))))) (N lH (N lS (N mD (N oT (N oC (N rB L L) L) (N jS L L)) (N oT (N oT L L) (N om L L))) (N oT (N oT (N ig (N rX L L) L) (N oT L L)) (N gq (N oT L L) (N pZ L L)))) (N l6 (N (mQ P) (N eB (N oT (N oC L L) L) (N j5 L L)) (N gb (N jq L L) (N oT L L))) (N (dw P) (N fC (N iF (N sA L L) L) (N nV L L)) (N gC (N jJ L L) (N qg L L)))))) (N oT (N kM (N lQ (N mw (N dS (N gI (N ry L L) L) (N oT L L)) (N fN (N je L L) (N oh L L))) (N nM (N oT (N oC (N rV L L) L) (N oT L L)) (N oT (N oT L L) (N pX L L)))) (N oT (N mK (N oC (N gU (N rI L L) L) (N jZ L L)) (N fY (N oC L L) (N pN L L))) (N cP (N fy (N oT (N sr L L) L) (N nR L L)) (N gz (N jH L L) (N qc L L))))) (N lK (N lV (N oT (N oT (N gP (N oT L L) L) (N oC L L)) (N (fT P) (N oT L L) (N oz L L))) (N (cJ P) (N fj (N iw (N oC L L) L) (N ly L L)) (N oC (N jC L L) (N p7 L L)))) (N oC (N mU (N eF (N oT (N rN L L) L) (N j9 L L)) (N gh (N jt L L) (N pS L L))) (N dF (N fG (N iJ L L) (N nZ L L)) (N oT (N jM L L) (N rj L L))))))) (N (boot_o_5 P) (N (boot_o_9 P) (N pJ (N oT (N oT (N dM (N gH (N oT L L) L) (N jP L L)) (N fL (N jc L L) (N oT L L))) (N nK (N oC (N g9 (N rT L L) L) (N k6 L L)) (N gk (N oC L L) (N oT L L)))) (N lY (N mJ (N d9 (N gS (N rH L L) L) (N oT L L)) (N oT (N jm L L) (N (pM P) L L))) (N cN (N oT (N oC (N oT L L) L) (N oC L L)) (N oT (N oT L L) (N qa L L))))) (N oT (N lT (N oC (N dX (N oT (N oC L L) L) (N jU L L)) (N fR (N jh L L) (N (ou P) L L))) (N cH (N fh (N oT (N rZ L L) L) (N lq L L)) (N gu (N jB L L) (N p5 L L)))) (N l8 (N mS (N oT (N gX (N oT L L) L) (N (j7 P) L L)) (N gc (N oT L L) (N pR L L))) (N dz (N fE (N iH L L) (N nX L L)) (N oC (N jK L L) (N qi L L)))))) (N nE (N kO (N oT (N mz (N oC (N gK (N rz L L) L) (N jR L L)) (N oC (N oC L L) (N oi L L))) (N oC (N eZ (N oT (N oT L L) L) (N k8 L L)) (N gp (N jz L L) (N oT L L)))) (N l0 (N mO (N oT (N oC (N rK L L) L) (N j3 L L)) (N oT (N oT L L) (N pP L L))) (N di (N oT (N iD (N su L L) L) (N (nS P) L L)) (N gA (N oT L L) (N qe L L))))) (N lN (N oC (N mG (N dZ (N oT (N rE L L) L) (N oT L L)) (N fV (N jj L L) (N oB L L))) (N cL (N fm (N iy (N oT L L) L) (N nN L L)) (N oT (N jE L L) (N oC L L)))) (N oT (N nH (N eG (N gZ (N rP L L) L) (N (kW P) L L)) (N oC (N ju L L) (N pU L L))) (N oT (N oC (N iZ L L) (N oT L L)) (N gF (N oC L L) (N oT L L)))))))) (N (boot_o_2 P) (N (boot_o_4 P) (N (boot_o_8 P) (N oC (N lO (N mq (N oT (N oC (N ru L L) L) (N jO L L)) (N fK (N jb L L) (N n9 L L))) (N oT (N oT (N g8 (N rS L L) L) (N kZ L L)) (N gj (N oT L L) (N pV L L)))) (N lX (N oC (N d8 (N oT (N oC L L) L) (N jY L L)) (N fW (N jl L L) (N pL L L))) (N iX (N fq (N oT (N sj L L) L) (N oT L L)) (N gy (N jF L L) (N p9 L L))))) (N (lI P) (N oT (N oT (N dW (N gM (N oT L L) L) (N jT L L)) (N fQ (N jg L L) (N oq L L))) (N iW (N oC (N iu (N rY L L) L) (N (lg P) L L)) (N gr (N oC L L) (N oT L L)))) (N l7 (N mR (N eE (N gW (N rL L L) L) (N j6 L L)) (N oT (N jr L L) (N oC L L))) (N oT (N oT (N (iG P) L L) (N nW L L)) (N oT (N oT L L) (N qh L L)))))) (N Ge (N kN (N lR (N oT (N oT (N gJ (N oT L L) L) (N oC L L)) (N oT (N oT L L) (N oT L L))) (N oT (N eW (N ia (N rW L L) L) (N oC L L)) (N oC (N jy L L) (N pY L L)))) (N oC (N mL (N eu (N oT (N rJ L L) L) (N oT L L)) (N fZ (N jn L L) (N pO L L))) (N cQ (N fz (N iC (N oT L L) L) (N oT L L)) (N oT (N jI L L) (N (qd P) L L))))) (N lM (N oT (N mF (N oC (N gQ (N rD L L) L) (N jV L L)) (N fU (N oC L L) (N oA L L))) (N cK (N fk (N oT (N sd L L) L) (N lz L L)) (N gv (N jD L L) (N oT L L)))) (N l9 (N mV (N oT (N oC (N rO L L) L) (N kc L L)) (N oT (N oT L L) (N pT L L))) (N dG (N oT (N iY L L) (N (n6 P) L L)) (N gE (N oT L L) (N (rm P) L L))))))) (N (boot_o_6 P) (N (boot_o_10 P) (N oT (N lP (N oC (N dR (N oT (N oC L L) L) (N jQ L L)) (N fM (N jd L L) (N oC L L))) (N nL (N eU (N oT (N rU L L) L) (N (k7 P) L L)) (N gm (N jx L L) (N pW L L)))) (N lZ (N oT (N oT (N gT (N oT L L) L) (N oC L L)) (N fX (N oT L L) (N oT L L))) (N cO (N fu (N iB (N oC L L) L) (N nQ L L)) (N oC (N jG L L) (N qb L L))))) (N lJ (N lU (N mE (N dY (N gO (N rC L L) L) (N oT L L)) (N fS (N ji L L) (N ow L L))) (N cI (N oT (N oC (N oT L L) L) (N lu L L)) (N oT (N oT L L) (N p6 L L)))) (N oT (N mT (N oC (N gY (N rM L L) L) (N j8 L L)) (N gg (N oC L L) (N oT L L))) (N dD (N fF (N iI L L) (N nY L L)) (N gD (N jL L L) (N ri L L)))))) (N nG (N lG (N oC (N mC (N dU (N oT (N rA L L) L) (N oT L L)) (N fO (N jf L L) (N oj L L))) (N iV (N fc (N ic (N oC L L) L) (N k9 L L)) (N oT (N jA L L) (N oC L L)))) (N oT (N mP (N ez (N gV (N oT L L) L) (N j4 L L)) (N oC (N jo L L) (N pQ L L))) (N dj (N oC (N iE (N sy L L) L) (N nU L L)) (N gB (N oC L L) (N qf L L))))) (N oT (N lW (N mH (N oT (N oC (N rG L L) L) (N jW L L)) (N oT (N oT L L) (N oE L L))) (N oT (N oT (N iz (N se L L) L) (N nO L L)) (N gw (N oT L L) (N p8 L L)))) (N mh (N nI (N eN (N oT (N (rQ P) L L) L) (N kX L L)) (N gi (N jv L L) (N oT L L))) (N oC (N fJ (N (ja P) L L) (N n7 L L)) (N gG (N jN L L) (N rq L L)))))))))
noncomputable def Rr (w:World) (os:OsState):SharedT:=⟨Mn w.params,nat_lit 568,(@PySem.Life.mk (@List.nil @Nat) (@List.nil @Nat) (@List.nil @Nat) (nat_lit 0) (@List.nil (@Prod @Nat @Nat)) (@List.nil @Nat) @Bool.false (@List.toArray @Nat (@List.nil @Nat)) (@List.nil @Nat) (nat_lit 0) @Bool.false @Bool.false @Bool.false (0:Int) (@List.cons @Int (2000:Int) (@List.cons @Int (10:Int) (@List.cons @Int (10:Int) (@List.nil @Int)))) @Bool.false (nat_lit 0) @Bool.true (@List.nil @Nat) (@List.nil @Nat) (nat_lit 0) @Bool.false),#[],(@PySem.Drawn.mk (nat_lit 0) (nat_lit 0) (nat_lit 0) (nat_lit 0)),nat_lit 1174,os⟩
noncomputable def Mp:PySem.Pos:=(@PySem.Pos.mk (nat_lit 607) (nat_lit 0) (nat_lit 614) (nat_lit 20))
noncomputable def wV:List PySem.Stmt:=wU (nat_lit 13) (nat_lit 6) bV
theorem JF (w:World) (os:OsState):segRunT treeTable pw w m0 q9 1 (nat_lit 476) (Rq w os) (piecesOf wV tX bT Mm [topFrame q0])=some (.next,Rr w os,bT,Mp):=by kernel_rfl
noncomputable def JG (P:Params):Obj:=⟨.type "dict",none,.dict #[⟨kH P "__name__",sT "__name__" 165,sT "law_xx0001_12" 1118⟩,⟨kH P "__doc__",sT "__doc__" 166,.none⟩,⟨kH P "__package__",sT "__package__" 167,.none⟩,⟨kH P "__loader__",sT "__loader__" 168,.builtin "__main__.__loader__#opaque"⟩,⟨kH P "__spec__",sT "__spec__" 169,.none⟩,⟨kH P "__annotations__",sT "__annotations__" 170,rF 6⟩,⟨kH P "__builtins__",sT "__builtins__" 171,rF 4⟩,⟨kH P "__file__",sT "__file__" 173,sT "/claim/cut.py" 172⟩,⟨kH P "__cached__",sT "__cached__" 174,.none⟩,⟨kH P "inverse_mod",sT "inverse_mod" 201,rF 21⟩,⟨kH P "CurveFp",sT "CurveFp" 293,rF 88⟩,⟨kH P "AbstractPoint",sT "AbstractPoint" 334,rF 112⟩,⟨kH P "PointJacobi",sT "PointJacobi" 769,rF 313⟩,⟨kH P "Point",sT "Point" 898,rF 410⟩,⟨kH P "INFINITY",sT "INFINITY" 913,rF 414⟩,⟨kH P "RSZeroError",sT "RSZeroError" 933,rF 425⟩,⟨kH P "InvalidPointError",sT "InvalidPointError" 951,rF 438⟩,⟨kH P "Signature",sT "Signature" 982,rF 458⟩,⟨kH P "Public_key",sT "Public_key" 1052,rF 501⟩,⟨kH P "Private_key",sT "Private_key" 1117,rF 543⟩,⟨kH P "_law_primes",sT "_law_primes" 1144,rF 548⟩,⟨kH P "_law_state",sT "_law_state" 1150,rF 553⟩,⟨kH P "_law_take",sT "_law_take" 1162,rF 560⟩,⟨kH P "_law_curve",sT "_law_curve" 1173,rF 567⟩,⟨kH P "_law_points",sT "_law_points" 1187,rF 574⟩,⟨kH P "_law_inverse",sT "_law_inverse" 1195,rF 581⟩,⟨kH P "_law_plus",sT "_law_plus" 1207,rF 588⟩,⟨kH P "_law_minus",sT "_law_minus" 1215,rF 595⟩,⟨kH P "_law_times",sT "_law_times" 1226,rF 602⟩,⟨kH P "_law_order",sT "_law_order" 1238,rF 609⟩,⟨kH P "_law_generator",sT "_law_generator" 1244,rF 614⟩,⟨kH P "_law_factor",sT "_law_factor" 1252,rF 621⟩,⟨kH P "_law_made",sT "_law_made" 1265,rF 628⟩,⟨kH P "_law_told",sT "_law_told" 1273,rF 635⟩,⟨kH P "_law_world",sT "_law_world" 1288,rF 642⟩,⟨kH P "_law_over",sT "_law_over" 1296,rF 649⟩,⟨kH P "_law_key",sT "_law_key" 1310,rF 656⟩,⟨kH P "_law_due",sT "_law_due" 1324,rF 663⟩,⟨kH P "_law_number",sT "_law_number" 1332,rF 670⟩] 39,#[]⟩
noncomputable def Gf:Obj:=⟨.none,none,.fields (List.toArray ((zI 2) :: (zI 0) :: (rF 20) :: (zI 15) :: (zI 0) :: (rF 27) :: (zI 46) :: (zI 0) :: (rF 98) :: (zI 62) :: (zI 0) :: (rF 122) :: (zI 406) :: (zI 0) :: (rF 321) :: (zI 506) :: (zI 0) :: (rF 421) :: (zI 508) :: (zI 0) :: (rF 434) :: (zI 510) :: (zI 0) :: (rF 447) :: (zI 515) :: (zI 0) :: (rF 468) :: (zI 558) :: (zI 0) :: (rF 511) :: (zI 591) :: (zI 0) :: (rF 552) :: (zI 596) :: (zI 0) :: (rF 559) :: (zI 607) :: (zI 0) :: (rF 566) :: (zI 615) :: (zI 0) :: (rF 573) :: (zI 625) :: (zI 0) :: (rF 580) :: (zI 627) :: (zI 0) :: (rF 587) :: (zI 640) :: (zI 0) :: (rF 594) :: (zI 644) :: (zI 0) :: (rF 601) :: (zI 654) :: (zI 0) :: (rF 608) :: (zI 662) :: (zI 0) :: (rF 613) :: (zI 677) :: (zI 0) :: (rF 620) :: (zI 681) :: (zI 0) :: (rF 627) :: (zI 685) :: (zI 0) :: (rF 634) :: (zI 689) :: (zI 0) :: (rF 641) :: (zI 699) :: (zI 0) :: (rF 648) :: (zI 701) :: (zI 0) :: (rF 655) :: (zI 706) :: (zI 0) :: (rF 662) :: (zI 715) :: (zI 0) :: (rF 669) :: [])),#[]⟩
noncomputable def tY:Obj:=bI [sT "p" 1177,sT "a" 1178,sT "b" 1179,sT "roots" 1180,sT "y" 1181,sT "square" 1182,sT "found" 1183,sT "x" 1184]
noncomputable def tZ:Obj:=bX "_law_points" "_law_points" [19]
noncomputable def t6:Obj:=cu "_law_points" 1174 "_law_points" 1175 "/claim/cut.py" 1176 615 3 0 0 3 568 181 569 570 571 572 1185 615 "/claim/cut.py" 1186
noncomputable def t7:Obj:=b8 "_law_points" "_law_points" [19] 3 .none "law_xx0001_12" 1118 573
noncomputable def t8:Obj:=bI [sT "number" 1191,sT "p" 1192]
noncomputable def t9:Obj:=bX "_law_inverse" "_law_inverse" [20]
noncomputable def ua:Obj:=cu "_law_inverse" 1188 "_law_inverse" 1189 "/claim/cut.py" 1190 625 2 0 0 3 575 181 576 577 578 579 1193 625 "/claim/cut.py" 1194
noncomputable def uc:Obj:=b8 "_law_inverse" "_law_inverse" [20] 3 .none "law_xx0001_12" 1118 580
noncomputable def ud:Obj:=bI [sT "p" 1199,sT "a" 1200,sT "one" 1201,sT "two" 1202,sT "slope" 1203,sT "x" 1204]
noncomputable def ue:Obj:=bX "_law_plus" "_law_plus" [21]
noncomputable def ug:Obj:=cu "_law_plus" 1196 "_law_plus" 1197 "/claim/cut.py" 1198 627 4 0 0 3 582 181 583 584 585 586 1205 627 "/claim/cut.py" 1206
noncomputable def uh:Obj:=b8 "_law_plus" "_law_plus" [21] 3 .none "law_xx0001_12" 1118 587
noncomputable def um:Obj:=bI [sT "p" 1211,sT "point" 1212]
noncomputable def uo:Obj:=bX "_law_minus" "_law_minus" [22]
noncomputable def uq:Obj:=cu "_law_minus" 1208 "_law_minus" 1209 "/claim/cut.py" 1210 640 2 0 0 3 589 181 590 591 592 593 1213 640 "/claim/cut.py" 1214
noncomputable def ur:Obj:=b8 "_law_minus" "_law_minus" [22] 3 .none "law_xx0001_12" 1118 594
noncomputable def uu:Obj:=bI [sT "p" 1219,sT "a" 1220,sT "number" 1221,sT "point" 1222,sT "total" 1223]
noncomputable def uv:Obj:=bX "_law_times" "_law_times" [23]
noncomputable def uw:Obj:=cu "_law_times" 1216 "_law_times" 1217 "/claim/cut.py" 1218 644 4 0 0 3 596 181 597 598 599 600 1224 644 "/claim/cut.py" 1225
noncomputable def ux:Obj:=b8 "_law_times" "_law_times" [23] 3 .none "law_xx0001_12" 1118 601
noncomputable def uy:Obj:=bI [sT "p" 1230,sT "a" 1231,sT "point" 1232,sT "total" 1233,sT "count" 1234,sT "k" 1235]
noncomputable def uz:Obj:=bX "_law_order" "_law_order" [24]
noncomputable def uA:Obj:=cu "_law_order" 1227 "_law_order" 1228 "/claim/cut.py" 1229 654 3 0 0 3 603 181 604 605 606 607 1236 654 "/claim/cut.py" 1237
noncomputable def uB:Obj:=b8 "_law_order" "_law_order" [24] 3 .none "law_xx0001_12" 1118 608
noncomputable def uC:Obj:=bX "_law_generator" "_law_generator" [25]
noncomputable def uD:Obj:=⟨.type "code",none,.fields #[sT "_law_generator" 1239,sT "_law_generator" 1240,sT "/claim/cut.py" 1241,zI 662,zI 4,zI 0,zI 0,zI 3,rF 610,.bool true,zI 181,rF 611,.none,.none,.none,rF 612,zI 1242,zI 662,sT "/claim/cut.py" 1243],#[]⟩
noncomputable def uE:Obj:=b8 "_law_generator" "_law_generator" [25] 3 .none "law_xx0001_12" 1118 613
noncomputable def uF:Obj:=bI [sT "state" 1248,sT "p" 1249]
noncomputable def uG:Obj:=bX "_law_factor" "_law_factor" [26]
noncomputable def uH:Obj:=cu "_law_factor" 1245 "_law_factor" 1246 "/claim/cut.py" 1247 677 2 0 0 3 615 181 616 617 618 619 1250 677 "/claim/cut.py" 1251
noncomputable def uI:Obj:=b8 "_law_factor" "_law_factor" [26] 3 .none "law_xx0001_12" 1118 620
noncomputable def uJ:Obj:=bI [sT "state" 1256,sT "curve" 1257,sT "point" 1258,sT "order" 1259,sT "table" 1260,sT "p" 1261,sT "z" 1262]
noncomputable def uK:Obj:=bX "_law_made" "_law_made" [27]
noncomputable def uL:Obj:=cu "_law_made" 1253 "_law_made" 1254 "/claim/cut.py" 1255 681 5 0 0 3 622 181 623 624 625 626 1263 681 "/claim/cut.py" 1264
noncomputable def uM:Obj:=b8 "_law_made" "_law_made" [27] 3 .none "law_xx0001_12" 1118 627
noncomputable def uN:Obj:=bI [sT "point" 1269,sT "p" 1270]
noncomputable def uO:Obj:=bX "_law_told" "_law_told" [28]
noncomputable def uP:Obj:=cu "_law_told" 1266 "_law_told" 1267 "/claim/cut.py" 1268 685 2 0 0 3 629 181 630 631 632 633 1271 685 "/claim/cut.py" 1272
noncomputable def uQ:Obj:=b8 "_law_told" "_law_told" [28] 3 .none "law_xx0001_12" 1118 634
noncomputable def uR:Obj:=bI [sT "state" 1277,sT "p" 1278,sT "a" 1279,sT "b" 1280,sT "points" 1281,sT "one" 1282,sT "order" 1283,sT "rows" 1284,sT "k" 1285]
noncomputable def uS:Obj:=bX "_law_world" "_law_world" [29]
noncomputable def uT:Obj:=cu "_law_world" 1274 "_law_world" 1275 "/claim/cut.py" 1276 689 1 0 0 3 636 181 637 638 639 640 1286 689 "/claim/cut.py" 1287
noncomputable def uU:Obj:=b8 "_law_world" "_law_world" [29] 3 .none "law_xx0001_12" 1118 641
noncomputable def uV:Obj:=bI [sT "number" 1292,sT "order" 1293]
noncomputable def uW:Obj:=bX "_law_over" "_law_over" [30]
noncomputable def uX:Obj:=cu "_law_over" 1289 "_law_over" 1290 "/claim/cut.py" 1291 699 2 0 0 3 643 181 644 645 646 647 1294 699 "/claim/cut.py" 1295
noncomputable def uY:Obj:=b8 "_law_over" "_law_over" [30] 3 .none "law_xx0001_12" 1118 648
noncomputable def uZ:Obj:=bI [sT "state" 1300,sT "curve" 1301,sT "rows" 1302,sT "index" 1303,sT "table" 1304,sT "order" 1305,sT "generator" 1306,sT "point" 1307]
noncomputable def u5:Obj:=bX "_law_key" "_law_key" [31]
noncomputable def u6:Obj:=cu "_law_key" 1297 "_law_key" 1298 "/claim/cut.py" 1299 701 5 0 0 3 650 181 651 652 653 654 1308 701 "/claim/cut.py" 1309
noncomputable def u7:Obj:=b8 "_law_key" "_law_key" [31] 3 .none "law_xx0001_12" 1118 655
noncomputable def u9:Obj:=bI [sT "rows" 1314,sT "index" 1315,sT "value" 1316,sT "r" 1317,sT "s" 1318,sT "order" 1319,sT "over" 1320,sT "place" 1321]
noncomputable def vd:Obj:=bX "_law_due" "_law_due" [32]
noncomputable def ve:Obj:=cu "_law_due" 1311 "_law_due" 1312 "/claim/cut.py" 1313 706 5 0 0 3 657 181 658 659 660 661 1322 706 "/claim/cut.py" 1323
noncomputable def vg:Obj:=b8 "_law_due" "_law_due" [32] 3 .none "law_xx0001_12" 1118 662
noncomputable def vh:Obj:=bI [sT "state" 1328,sT "number" 1329]
noncomputable def vj:Obj:=bX "_law_number" "_law_number" [33]
noncomputable def vn:Obj:=cu "_law_number" 1325 "_law_number" 1326 "/claim/cut.py" 1327 715 1 0 0 3 664 181 665 666 667 668 1330 715 "/claim/cut.py" 1331
noncomputable def vo:Obj:=b8 "_law_number" "_law_number" [33] 3 .none "law_xx0001_12" 1118 669
noncomputable def JH (P:Params):BT:=(N (boot_o_0 P) (N (boot_o_1 P) (N (JG P) (N (boot_o_7 P) (N oT (N oC (N mj (N dJ (N oT (N rt L L) L) (N oT (N oT L L) L)) (N oT (N oT (N oT L L) L) (N n8 L L))) (N (nJ P) (N eO (N g7 (N rR L L) L) (N (kY P) L L)) (N oT (N jw (N uz L L) L) (N oC L L)))) (N oT (N oT (N d7 (N gR (N oT L L) L) (N jX (N u6 L L) L)) (N oC (N jk (N um L L) L) (N pK L L))) (N (cM P) (N oC (N iA (N sf L L) L) (N (nP P) L L)) (N gx (N oC (N oC L L) L) (N oT L L))))) (N lH (N lS (N mD (N oT (N oC (N rB L L) L) (N jS (N uW L L) L)) (N oT (N oT (N oC L L) L) (N om L L))) (N oT (N oT (N ig (N rX L L) L) (N oT L L)) (N gq (N oT (N oT L L) L) (N pZ L L)))) (N l6 (N (mQ P) (N eB (N oT (N oC L L) L) (N j5 (N vg L L) L)) (N gb (N jq (N oT L L) L) (N oT L L))) (N (dw P) (N fC (N iF (N sA L L) L) (N nV L L)) (N gC (N jJ (N uN L L) L) (N qg L L)))))) (N oT (N kM (N lQ (N mw (N dS (N gI (N ry L L) L) (N oT (N oT L L) L)) (N fN (N je (N t9 L L) L) (N oh L L))) (N nM (N oT (N oC (N rV L L) L) (N oT L L)) (N oT (N oT (N oC L L) L) (N pX L L)))) (N oT (N mK (N oC (N gU (N rI L L) L) (N jZ (N u9 L L) L)) (N fY (N oC (N ur L L) L) (N pN L L))) (N cP (N fy (N oT (N sr L L) L) (N nR L L)) (N gz (N jH (N uL L L) L) (N qc L L))))) (N lK (N lV (N oT (N oT (N gP (N oT L L) L) (N oC (N oC L L) L)) (N (fT P) (N oT (N ug L L) L) (N oz L L))) (N (cJ P) (N fj (N iw (N oC L L) L) (N ly L L)) (N oC (N jC (N uG L L) L) (N p7 L L)))) (N oC (N mU (N eF (N oT (N rN L L) L) (N j9 (N oT L L) L)) (N gh (N jt (N oT L L) L) (N pS L L))) (N dF (N fG (N iJ (N oT L L) L) (N nZ L L)) (N oT (N jM (N uQ L L) L) (N rj L L))))))) (N (boot_o_5 P) (N (boot_o_9 P) (N pJ (N oT (N oT (N dM (N gH (N oT L L) L) (N jP (N uT L L) L)) (N fL (N jc (N t8 L L) L) (N oT L L))) (N nK (N oC (N g9 (N rT L L) L) (N k6 L L)) (N gk (N oC (N uB L L) L) (N oT L L)))) (N lY (N mJ (N d9 (N gS (N rH L L) L) (N oT (N oT L L) L)) (N oT (N jm (N uo L L) L) (N (pM P) L L))) (N cN (N oT (N oC (N oT L L) L) (N oC L L)) (N oT (N oT (N oT L L) L) (N qa L L))))) (N oT (N lT (N oC (N dX (N oT (N oC L L) L) (N jU (N uY L L) L)) (N fR (N jh (N oT L L) L) (N (ou P) L L))) (N cH (N fh (N oT (N rZ L L) L) (N lq L L)) (N gu (N jB (N uF L L) L) (N p5 L L)))) (N l8 (N mS (N oT (N gX (N oT L L) L) (N (j7 P) (N oC L L) L)) (N gc (N oT (N uw L L) L) (N pR L L))) (N dz (N fE (N iH (N oC L L) L) (N nX L L)) (N oC (N jK (N uO L L) L) (N qi L L)))))) (N nE (N kO (N oT (N mz (N oC (N gK (N rz L L) L) (N jR (N uV L L) L)) (N oC (N oC (N uc L L) L) (N oi L L))) (N oC (N eZ (N oT (N oT L L) L) (N k8 L L)) (N gp (N jz (N uD L L) L) (N oT L L)))) (N l0 (N mO (N oT (N oC (N rK L L) L) (N j3 (N vd L L) L)) (N oT (N oT (N oC L L) L) (N pP L L))) (N di (N oT (N iD (N su L L) L) (N (nS P) L L)) (N gA (N oT (N oT L L) L) (N qe L L))))) (N lN (N oC (N mG (N dZ (N oT (N rE L L) L) (N oT (N oT L L) L)) (N fV (N jj (N oT L L) L) (N oB L L))) (N cL (N fm (N iy (N oT L L) L) (N nN L L)) (N oT (N jE (N uI L L) L) (N oC L L)))) (N oT (N nH (N eG (N gZ (N rP L L) L) (N (kW P) (N vn L L) L)) (N oC (N ju (N uy L L) L) (N pU L L))) (N oT (N oC (N iZ (N t6 L L) L) (N oT L L)) (N gF (N oC (N oC L L) L) (N oT L L)))))))) (N (boot_o_2 P) (N (boot_o_4 P) (N (boot_o_8 P) (N oC (N lO (N mq (N oT (N oC (N ru L L) L) (N jO (N uS L L) L)) (N fK (N jb (N oC L L) L) (N n9 L L))) (N oT (N oT (N g8 (N rS L L) L) (N kZ L L)) (N gj (N oT (N uA L L) L) (N pV L L)))) (N lX (N oC (N d8 (N oT (N oC L L) L) (N jY (N u7 L L) L)) (N fW (N jl (N oT L L) L) (N pL L L))) (N iX (N fq (N oT (N sj L L) L) (N oT L L)) (N gy (N jF (N uJ L L) L) (N p9 L L))))) (N (lI P) (N oT (N oT (N dW (N gM (N oT L L) L) (N jT (N uX L L) L)) (N fQ (N jg (N ud L L) L) (N oq L L))) (N iW (N oC (N iu (N rY L L) L) (N (lg P) L L)) (N gr (N oC (N oC L L) L) (N oT L L)))) (N l7 (N mR (N eE (N gW (N rL L L) L) (N j6 (N oT L L) L)) (N oT (N jr (N uv L L) L) (N oC L L))) (N oT (N oT (N (iG P) (N oT L L) L) (N nW L L)) (N oT (N oT (N oT L L) L) (N qh L L)))))) (N Gf (N kN (N lR (N oT (N oT (N gJ (N oT L L) L) (N oC (N oC L L) L)) (N oT (N oT (N ua L L) L) (N oT L L))) (N oT (N eW (N ia (N rW L L) L) (N oC L L)) (N oC (N jy (N uC L L) L) (N pY L L)))) (N oC (N mL (N eu (N oT (N rJ L L) L) (N oT (N oT L L) L)) (N fZ (N jn (N oT L L) L) (N pO L L))) (N cQ (N fz (N iC (N oT L L) L) (N oT L L)) (N oT (N jI (N uM L L) L) (N (qd P) L L))))) (N lM (N oT (N mF (N oC (N gQ (N rD L L) L) (N jV (N uZ L L) L)) (N fU (N oC (N uh L L) L) (N oA L L))) (N cK (N fk (N oT (N sd L L) L) (N lz L L)) (N gv (N jD (N uH L L) L) (N oT L L)))) (N l9 (N mV (N oT (N oC (N rO L L) L) (N kc (N vj L L) L)) (N oT (N oT (N oC L L) L) (N pT L L))) (N dG (N oT (N iY (N tZ L L) L) (N (n6 P) L L)) (N gE (N oT (N oT L L) L) (N (rm P) L L))))))) (N (boot_o_6 P) (N (boot_o_10 P) (N oT (N lP (N oC (N dR (N oT (N oC L L) L) (N jQ (N uU L L) L)) (N fM (N jd (N oT L L) L) (N oC L L))) (N nL (N eU (N oT (N rU L L) L) (N (k7 P) L L)) (N gm (N jx (N oT L L) L) (N pW L L)))) (N lZ (N oT (N oT (N gT (N oT L L) L) (N oC (N oC L L) L)) (N fX (N oT (N uq L L) L) (N oT L L))) (N cO (N fu (N iB (N oC L L) L) (N nQ L L)) (N oC (N jG (N uK L L) L) (N qb L L))))) (N lJ (N lU (N mE (N dY (N gO (N rC L L) L) (N oT (N oT L L) L)) (N fS (N ji (N ue L L) L) (N ow L L))) (N cI (N oT (N oC (N oT L L) L) (N lu L L)) (N oT (N oT (N oT L L) L) (N p6 L L)))) (N oT (N mT (N oC (N gY (N rM L L) L) (N j8 (N vh L L) L)) (N gg (N oC (N ux L L) L) (N oT L L))) (N dD (N fF (N iI (N tY L L) L) (N nY L L)) (N gD (N jL (N uP L L) L) (N ri L L)))))) (N nG (N lG (N oC (N mC (N dU (N oT (N rA L L) L) (N oT (N oT L L) L)) (N fO (N jf (N oT L L) L) (N oj L L))) (N iV (N fc (N ic (N oC L L) L) (N k9 L L)) (N oT (N jA (N uE L L) L) (N oC L L)))) (N oT (N mP (N ez (N gV (N oT L L) L) (N j4 (N ve L L) L)) (N oC (N jo (N uu L L) L) (N pQ L L))) (N dj (N oC (N iE (N sy L L) L) (N nU L L)) (N gB (N oC (N oC L L) L) (N qf L L))))) (N oT (N lW (N mH (N oT (N oC (N rG L L) L) (N jW (N u5 L L) L)) (N oT (N oT (N oC L L) L) (N oE L L))) (N oT (N oT (N iz (N se L L) L) (N nO L L)) (N gw (N oT (N oT L L) L) (N p8 L L)))) (N mh (N nI (N eN (N oT (N (rQ P) L L) L) (N kX (N vo L L) L)) (N gi (N jv (N oT L L) L) (N oT L L))) (N oC (N fJ (N (ja P) (N t7 L L) L) (N n7 L L)) (N gG (N jN (N uR L L) L) (N rq L L)))))))))
noncomputable def Mq (w:World) (os:OsState):SharedT:=⟨JH w.params,nat_lit 671,(@PySem.Life.mk (@List.nil @Nat) (@List.nil @Nat) (@List.nil @Nat) (nat_lit 0) (@List.nil (@Prod @Nat @Nat)) (@List.nil @Nat) @Bool.false (@List.toArray @Nat (@List.nil @Nat)) (@List.nil @Nat) (nat_lit 0) @Bool.false @Bool.false @Bool.false (0:Int) (@List.cons @Int (2000:Int) (@List.cons @Int (10:Int) (@List.cons @Int (10:Int) (@List.nil @Int)))) @Bool.false (nat_lit 0) @Bool.true (@List.nil @Nat) (@List.nil @Nat) (nat_lit 0) @Bool.false),#[],(@PySem.Drawn.mk (nat_lit 0) (nat_lit 0) (nat_lit 0) (nat_lit 0)),nat_lit 1333,os⟩
noncomputable def Ia:PySem.Pos:=(@PySem.Pos.mk (nat_lit 715) (nat_lit 0) (nat_lit 719) (nat_lit 17))
noncomputable def wz:List PySem.Stmt:=wU (nat_lit 19) (nat_lit 15) bV
theorem JI (w:World) (os:OsState):segRunT treeTable pw w m0 q9 1 (nat_lit 488) (Rr w os) (piecesOf wz tX bT Mp [topFrame q0])=some (.next,Mq w os,bT,Ia):=by kernel_rfl
noncomputable def A6 (P:Params):Obj:=⟨.type "dict",none,.dict #[⟨kH P "__name__",sT "__name__" 165,sT "law_xx0001_12" 1118⟩,⟨kH P "__doc__",sT "__doc__" 166,.none⟩,⟨kH P "__package__",sT "__package__" 167,.none⟩,⟨kH P "__loader__",sT "__loader__" 168,.builtin "__main__.__loader__#opaque"⟩,⟨kH P "__spec__",sT "__spec__" 169,.none⟩,⟨kH P "__annotations__",sT "__annotations__" 170,rF 6⟩,⟨kH P "__builtins__",sT "__builtins__" 171,rF 4⟩,⟨kH P "__file__",sT "__file__" 173,sT "/claim/cut.py" 172⟩,⟨kH P "__cached__",sT "__cached__" 174,.none⟩,⟨kH P "inverse_mod",sT "inverse_mod" 201,rF 21⟩,⟨kH P "CurveFp",sT "CurveFp" 293,rF 88⟩,⟨kH P "AbstractPoint",sT "AbstractPoint" 334,rF 112⟩,⟨kH P "PointJacobi",sT "PointJacobi" 769,rF 313⟩,⟨kH P "Point",sT "Point" 898,rF 410⟩,⟨kH P "INFINITY",sT "INFINITY" 913,rF 414⟩,⟨kH P "RSZeroError",sT "RSZeroError" 933,rF 425⟩,⟨kH P "InvalidPointError",sT "InvalidPointError" 951,rF 438⟩,⟨kH P "Signature",sT "Signature" 982,rF 458⟩,⟨kH P "Public_key",sT "Public_key" 1052,rF 501⟩,⟨kH P "Private_key",sT "Private_key" 1117,rF 543⟩,⟨kH P "_law_primes",sT "_law_primes" 1144,rF 548⟩,⟨kH P "_law_state",sT "_law_state" 1150,rF 553⟩,⟨kH P "_law_take",sT "_law_take" 1162,rF 560⟩,⟨kH P "_law_curve",sT "_law_curve" 1173,rF 567⟩,⟨kH P "_law_points",sT "_law_points" 1187,rF 574⟩,⟨kH P "_law_inverse",sT "_law_inverse" 1195,rF 581⟩,⟨kH P "_law_plus",sT "_law_plus" 1207,rF 588⟩,⟨kH P "_law_minus",sT "_law_minus" 1215,rF 595⟩,⟨kH P "_law_times",sT "_law_times" 1226,rF 602⟩,⟨kH P "_law_order",sT "_law_order" 1238,rF 609⟩,⟨kH P "_law_generator",sT "_law_generator" 1244,rF 614⟩,⟨kH P "_law_factor",sT "_law_factor" 1252,rF 621⟩,⟨kH P "_law_made",sT "_law_made" 1265,rF 628⟩,⟨kH P "_law_told",sT "_law_told" 1273,rF 635⟩,⟨kH P "_law_world",sT "_law_world" 1288,rF 642⟩,⟨kH P "_law_over",sT "_law_over" 1296,rF 649⟩,⟨kH P "_law_key",sT "_law_key" 1310,rF 656⟩,⟨kH P "_law_due",sT "_law_due" 1324,rF 663⟩,⟨kH P "_law_number",sT "_law_number" 1332,rF 670⟩,⟨kH P "_law_signed",sT "_law_signed" 1342,rF 677⟩,⟨kH P "_law_says",sT "_law_says" 1354,rF 684⟩,⟨kH P "_law_checked",sT "_law_checked" 1368,rF 691⟩,⟨kH P "law",sT "law" 1374,rF 696⟩] 43,#[]⟩
noncomputable def y9:Obj:=⟨.none,none,.fields (List.toArray ((zI 2) :: (zI 0) :: (rF 20) :: (zI 15) :: (zI 0) :: (rF 27) :: (zI 46) :: (zI 0) :: (rF 98) :: (zI 62) :: (zI 0) :: (rF 122) :: (zI 406) :: (zI 0) :: (rF 321) :: (zI 506) :: (zI 0) :: (rF 421) :: (zI 508) :: (zI 0) :: (rF 434) :: (zI 510) :: (zI 0) :: (rF 447) :: (zI 515) :: (zI 0) :: (rF 468) :: (zI 558) :: (zI 0) :: (rF 511) :: (zI 591) :: (zI 0) :: (rF 552) :: (zI 596) :: (zI 0) :: (rF 559) :: (zI 607) :: (zI 0) :: (rF 566) :: (zI 615) :: (zI 0) :: (rF 573) :: (zI 625) :: (zI 0) :: (rF 580) :: (zI 627) :: (zI 0) :: (rF 587) :: (zI 640) :: (zI 0) :: (rF 594) :: (zI 644) :: (zI 0) :: (rF 601) :: (zI 654) :: (zI 0) :: (rF 608) :: (zI 662) :: (zI 0) :: (rF 613) :: (zI 677) :: (zI 0) :: (rF 620) :: (zI 681) :: (zI 0) :: (rF 627) :: (zI 685) :: (zI 0) :: (rF 634) :: (zI 689) :: (zI 0) :: (rF 641) :: (zI 699) :: (zI 0) :: (rF 648) :: (zI 701) :: (zI 0) :: (rF 655) :: (zI 706) :: (zI 0) :: (rF 662) :: (zI 715) :: (zI 0) :: (rF 669) :: (zI 720) :: (zI 0) :: (rF 676) :: (zI 726) :: (zI 0) :: (rF 683) :: (zI 729) :: (zI 0) :: (rF 690) :: (zI 739) :: (zI 0) :: (rF 695) :: [])),#[]⟩
noncomputable def wW:Obj:=bI [sT "private" 1336,sT "value" 1337,sT "nonce" 1338,sT "signature" 1339]
noncomputable def wX:Obj:=bX "_law_signed" "_law_signed" [34]
noncomputable def wY:Obj:=cu "_law_signed" 1333 "_law_signed" 1334 "/claim/cut.py" 1335 720 3 0 0 3 671 181 672 673 674 675 1340 720 "/claim/cut.py" 1341
noncomputable def wZ:Obj:=b8 "_law_signed" "_law_signed" [34] 3 .none "law_xx0001_12" 1118 676
noncomputable def w4:Obj:=bI [sT "rows" 1346,sT "index" 1347,sT "key" 1348,sT "value" 1349,sT "pair" 1350,sT "due" 1351]
noncomputable def w5:Obj:=bX "_law_says" "_law_says" [35]
noncomputable def w6:Obj:=cu "_law_says" 1343 "_law_says" 1344 "/claim/cut.py" 1345 726 5 0 0 3 678 181 679 680 681 682 1352 726 "/claim/cut.py" 1353
noncomputable def w7:Obj:=b8 "_law_says" "_law_says" [35] 3 .none "law_xx0001_12" 1118 683
noncomputable def w9:Obj:=bI [sT "rows" 1358,sT "index" 1359,sT "keys" 1360,sT "value" 1361,sT "pair" 1362,sT "order" 1363,sT "key" 1364,sT "hashed" 1365]
noncomputable def xd:Obj:=bX "_law_checked" "_law_checked" [36]
noncomputable def xe:Obj:=cu "_law_checked" 1355 "_law_checked" 1356 "/claim/cut.py" 1357 729 5 0 0 3 685 181 686 687 688 689 1366 729 "/claim/cut.py" 1367
noncomputable def xg:Obj:=b8 "_law_checked" "_law_checked" [36] 3 .none "law_xx0001_12" 1118 690
noncomputable def xh:Obj:=bX "law" "law" [37]
noncomputable def xj:Obj:=⟨.type "code",none,.fields #[sT "law" 1369,sT "law" 1370,sT "/claim/cut.py" 1371,zI 739,zI 1,zI 0,zI 0,zI 3,rF 692,.bool true,zI 181,rF 693,.none,.none,.none,rF 694,zI 1372,zI 739,sT "/claim/cut.py" 1373],#[]⟩
noncomputable def xm:Obj:=b8 "law" "law" [37] 3 .none "law_xx0001_12" 1118 695
noncomputable def JJ (P:Params):BT:=(N (boot_o_0 P) (N (boot_o_1 P) (N (A6 P) (N (boot_o_7 P) (N oT (N oC (N mj (N dJ (N oT (N rt L L) L) (N oT (N oT L L) L)) (N oT (N oT (N oT L L) L) (N n8 L L))) (N (nJ P) (N eO (N g7 (N rR L L) L) (N (kY P) (N oT L L) L)) (N oT (N jw (N uz L L) L) (N oC L L)))) (N oT (N oT (N d7 (N gR (N oT L L) L) (N jX (N u6 L L) L)) (N oC (N jk (N um L L) L) (N pK L L))) (N (cM P) (N oC (N iA (N sf L L) L) (N (nP P) (N w9 L L) L)) (N gx (N oC (N oC L L) L) (N oT L L))))) (N lH (N lS (N mD (N oT (N oC (N rB L L) L) (N jS (N uW L L) L)) (N oT (N oT (N oC L L) L) (N om L L))) (N oT (N oT (N ig (N rX L L) L) (N oT (N oC L L) L)) (N gq (N oT (N oT L L) L) (N pZ L L)))) (N l6 (N (mQ P) (N eB (N oT (N oC L L) L) (N j5 (N vg L L) L)) (N gb (N jq (N oT L L) L) (N oT L L))) (N (dw P) (N fC (N iF (N sA L L) L) (N nV (N xj L L) L)) (N gC (N jJ (N uN L L) L) (N qg L L)))))) (N oT (N kM (N lQ (N mw (N dS (N gI (N ry L L) L) (N oT (N oT L L) L)) (N fN (N je (N t9 L L) L) (N oh L L))) (N nM (N oT (N oC (N rV L L) L) (N oT (N wX L L) L)) (N oT (N oT (N oC L L) L) (N pX L L)))) (N oT (N mK (N oC (N gU (N rI L L) L) (N jZ (N u9 L L) L)) (N fY (N oC (N ur L L) L) (N pN L L))) (N cP (N fy (N oT (N sr L L) L) (N nR (N xg L L) L)) (N gz (N jH (N uL L L) L) (N qc L L))))) (N lK (N lV (N oT (N oT (N gP (N oT L L) L) (N oC (N oC L L) L)) (N (fT P) (N oT (N ug L L) L) (N oz L L))) (N (cJ P) (N fj (N iw (N oC L L) L) (N ly (N w6 L L) L)) (N oC (N jC (N uG L L) L) (N p7 L L)))) (N oC (N mU (N eF (N oT (N rN L L) L) (N j9 (N oT L L) L)) (N gh (N jt (N oT L L) L) (N pS L L))) (N dF (N fG (N iJ (N oT L L) L) (N nZ L L)) (N oT (N jM (N uQ L L) L) (N rj L L))))))) (N (boot_o_5 P) (N (boot_o_9 P) (N pJ (N oT (N oT (N dM (N gH (N oT L L) L) (N jP (N uT L L) L)) (N fL (N jc (N t8 L L) L) (N oT L L))) (N nK (N oC (N g9 (N rT L L) L) (N k6 (N wW L L) L)) (N gk (N oC (N uB L L) L) (N oT L L)))) (N lY (N mJ (N d9 (N gS (N rH L L) L) (N oT (N oT L L) L)) (N oT (N jm (N uo L L) L) (N (pM P) L L))) (N cN (N oT (N oC (N oT L L) L) (N oC (N xd L L) L)) (N oT (N oT (N oT L L) L) (N qa L L))))) (N oT (N lT (N oC (N dX (N oT (N oC L L) L) (N jU (N uY L L) L)) (N fR (N jh (N oT L L) L) (N (ou P) L L))) (N cH (N fh (N oT (N rZ L L) L) (N lq (N oT L L) L)) (N gu (N jB (N uF L L) L) (N p5 L L)))) (N l8 (N mS (N oT (N gX (N oT L L) L) (N (j7 P) (N oC L L) L)) (N gc (N oT (N uw L L) L) (N pR L L))) (N dz (N fE (N iH (N oC L L) L) (N nX L L)) (N oC (N jK (N uO L L) L) (N qi L L)))))) (N nE (N kO (N oT (N mz (N oC (N gK (N rz L L) L) (N jR (N uV L L) L)) (N oC (N oC (N uc L L) L) (N oi L L))) (N oC (N eZ (N oT (N oT L L) L) (N k8 (N wZ L L) L)) (N gp (N jz (N uD L L) L) (N oT L L)))) (N l0 (N mO (N oT (N oC (N rK L L) L) (N j3 (N vd L L) L)) (N oT (N oT (N oC L L) L) (N pP L L))) (N di (N oT (N iD (N su L L) L) (N (nS P) (N oC L L) L)) (N gA (N oT (N oT L L) L) (N qe L L))))) (N lN (N oC (N mG (N dZ (N oT (N rE L L) L) (N oT (N oT L L) L)) (N fV (N jj (N oT L L) L) (N oB L L))) (N cL (N fm (N iy (N oT L L) L) (N nN (N oT L L) L)) (N oT (N jE (N uI L L) L) (N oC L L)))) (N oT (N nH (N eG (N gZ (N rP L L) L) (N (kW P) (N vn L L) L)) (N oC (N ju (N uy L L) L) (N pU L L))) (N oT (N oC (N iZ (N t6 L L) L) (N oT L L)) (N gF (N oC (N oC L L) L) (N oT L L)))))))) (N (boot_o_2 P) (N (boot_o_4 P) (N (boot_o_8 P) (N oC (N lO (N mq (N oT (N oC (N ru L L) L) (N jO (N uS L L) L)) (N fK (N jb (N oC L L) L) (N n9 L L))) (N oT (N oT (N g8 (N rS L L) L) (N kZ (N oC L L) L)) (N gj (N oT (N uA L L) L) (N pV L L)))) (N lX (N oC (N d8 (N oT (N oC L L) L) (N jY (N u7 L L) L)) (N fW (N jl (N oT L L) L) (N pL L L))) (N iX (N fq (N oT (N sj L L) L) (N oT (N oT L L) L)) (N gy (N jF (N uJ L L) L) (N p9 L L))))) (N (lI P) (N oT (N oT (N dW (N gM (N oT L L) L) (N jT (N uX L L) L)) (N fQ (N jg (N ud L L) L) (N oq L L))) (N iW (N oC (N iu (N rY L L) L) (N (lg P) (N w4 L L) L)) (N gr (N oC (N oC L L) L) (N oT L L)))) (N l7 (N mR (N eE (N gW (N rL L L) L) (N j6 (N oT L L) L)) (N oT (N jr (N uv L L) L) (N oC L L))) (N oT (N oT (N (iG P) (N oT L L) L) (N nW (N xm L L) L)) (N oT (N oT (N oT L L) L) (N qh L L)))))) (N y9 (N kN (N lR (N oT (N oT (N gJ (N oT L L) L) (N oC (N oC L L) L)) (N oT (N oT (N ua L L) L) (N oT L L))) (N oT (N eW (N ia (N rW L L) L) (N oC (N wY L L) L)) (N oC (N jy (N uC L L) L) (N pY L L)))) (N oC (N mL (N eu (N oT (N rJ L L) L) (N oT (N oT L L) L)) (N fZ (N jn (N oT L L) L) (N pO L L))) (N cQ (N fz (N iC (N oT L L) L) (N oT (N oT L L) L)) (N oT (N jI (N uM L L) L) (N (qd P) L L))))) (N lM (N oT (N mF (N oC (N gQ (N rD L L) L) (N jV (N uZ L L) L)) (N fU (N oC (N uh L L) L) (N oA L L))) (N cK (N fk (N oT (N sd L L) L) (N lz (N w7 L L) L)) (N gv (N jD (N uH L L) L) (N oT L L)))) (N l9 (N mV (N oT (N oC (N rO L L) L) (N kc (N vj L L) L)) (N oT (N oT (N oC L L) L) (N pT L L))) (N dG (N oT (N iY (N tZ L L) L) (N (n6 P) L L)) (N gE (N oT (N oT L L) L) (N (rm P) L L))))))) (N (boot_o_6 P) (N (boot_o_10 P) (N oT (N lP (N oC (N dR (N oT (N oC L L) L) (N jQ (N uU L L) L)) (N fM (N jd (N oT L L) L) (N oC L L))) (N nL (N eU (N oT (N rU L L) L) (N (k7 P) (N oT L L) L)) (N gm (N jx (N oT L L) L) (N pW L L)))) (N lZ (N oT (N oT (N gT (N oT L L) L) (N oC (N oC L L) L)) (N fX (N oT (N uq L L) L) (N oT L L))) (N cO (N fu (N iB (N oC L L) L) (N nQ (N xe L L) L)) (N oC (N jG (N uK L L) L) (N qb L L))))) (N lJ (N lU (N mE (N dY (N gO (N rC L L) L) (N oT (N oT L L) L)) (N fS (N ji (N ue L L) L) (N ow L L))) (N cI (N oT (N oC (N oT L L) L) (N lu (N w5 L L) L)) (N oT (N oT (N oT L L) L) (N p6 L L)))) (N oT (N mT (N oC (N gY (N rM L L) L) (N j8 (N vh L L) L)) (N gg (N oC (N ux L L) L) (N oT L L))) (N dD (N fF (N iI (N tY L L) L) (N nY L L)) (N gD (N jL (N uP L L) L) (N ri L L)))))) (N nG (N lG (N oC (N mC (N dU (N oT (N rA L L) L) (N oT (N oT L L) L)) (N fO (N jf (N oT L L) L) (N oj L L))) (N iV (N fc (N ic (N oC L L) L) (N k9 (N oT L L) L)) (N oT (N jA (N uE L L) L) (N oC L L)))) (N oT (N mP (N ez (N gV (N oT L L) L) (N j4 (N ve L L) L)) (N oC (N jo (N uu L L) L) (N pQ L L))) (N dj (N oC (N iE (N sy L L) L) (N nU (N xh L L) L)) (N gB (N oC (N oC L L) L) (N qf L L))))) (N oT (N lW (N mH (N oT (N oC (N rG L L) L) (N jW (N u5 L L) L)) (N oT (N oT (N oC L L) L) (N oE L L))) (N oT (N oT (N iz (N se L L) L) (N nO (N oC L L) L)) (N gw (N oT (N oT L L) L) (N p8 L L)))) (N mh (N nI (N eN (N oT (N (rQ P) L L) L) (N kX (N vo L L) L)) (N gi (N jv (N oT L L) L) (N oT L L))) (N oC (N fJ (N (ja P) (N t7 L L) L) (N n7 L L)) (N gG (N jN (N uR L L) L) (N rq L L)))))))))
noncomputable def Mr (w:World) (os:OsState):SharedT:=⟨JJ w.params,nat_lit 697,(@PySem.Life.mk (@List.nil @Nat) (@List.nil @Nat) (@List.nil @Nat) (nat_lit 0) (@List.nil (@Prod @Nat @Nat)) (@List.nil @Nat) @Bool.false (@List.toArray @Nat (@List.nil @Nat)) (@List.nil @Nat) (nat_lit 0) @Bool.false @Bool.false @Bool.false (0:Int) (@List.cons @Int (2000:Int) (@List.cons @Int (10:Int) (@List.cons @Int (10:Int) (@List.nil @Int)))) @Bool.false (nat_lit 0) @Bool.true (@List.nil @Nat) (@List.nil @Nat) (nat_lit 0) @Bool.false),#[],(@PySem.Drawn.mk (nat_lit 0) (nat_lit 0) (nat_lit 0) (nat_lit 0)),nat_lit 1375,os⟩
noncomputable def Ib:PySem.Pos:=(@PySem.Pos.mk (nat_lit 739) (nat_lit 0) (nat_lit 764) (nat_lit 15))
noncomputable def qj:List PySem.Stmt:=wU (nat_lit 34) (nat_lit 4) bV
theorem Gg (w:World) (os:OsState):segRunT treeTable pw w m0 q9 1 (nat_lit 129) (Mq w os) (piecesOf qj tX bT Ia [topFrame q0])=some (.next,Mr w os,bT,Ib):=by kernel_rfl
noncomputable def zY (P:Params):PySem.Heap:=⟨⟨[boot_o_0 P,boot_o_1 P,boot_o_2 P,A6 P,boot_o_4 P,boot_o_5 P,boot_o_6 P,boot_o_7 P,boot_o_8 P,boot_o_9 P,boot_o_10 P,oT,y9,nE,nG,oT,oC,pJ,oT,kM,kN,kO,lG,lH,lI P,oT,lJ,lK,lM,lN,oT,oC,lO,oT,lP,lQ,lR,oT,oC,lS,oT,lT,lU,lV,oT,oC,lW,oT,lX,lY,lZ,oT,oC,l0,oT,l6,l7,l8,oT,oC,l9,oT,mh,mj,mq,oT,oC,mw,oT,mz,mC,mD,oT,oC,mE,oT,mF,mG,mH,oT,oC,mJ,oT,mK,mL,mO,mP,mQ P,mR,mS,mT,mU,mV,nH,nI,nJ P,oT,nK,nL,nM,oT,oC,iV,oT,iW,cH,cI,cJ P,cK,cL,oT,cM P,iX,cN,cO,cP,cQ,di,dj,dw P,oT,dz,dD,dF,dG,oT,oC,dJ,oT,dM,dR,dS,oT,oC,dU,oT,dW,dX,dY,oT,oC,dZ,oT,d7,d8,d9,oT,oC,eu,oT,ez,eB,eE,oT,oC,eF,oT,eG,eN,eO,oT,oC,eU,oT,eW,eZ,fc,oT,oC,fh,oT,fj,fk,fm,oT,oC,fq,oT,fu,fy,fz,oT,oC,fC,oT,fE,fF,fG,oT,oC,fJ,oT,fK,fL,fM,fN,oT,oC,fO,oT,fQ,fR,fS,fT P,fU,fV,oT,oC,fW,oT,fX,fY,fZ,oT,oC,gb,oT,gc,gg,gh,oT,oC,gi,oT,gj,gk,gm,oT,oC,gp,oT,gq,gr,gu,oT,oC,gv,oT,gw,gx,gy,oT,oC,gz,oT,gA,gB,gC,oT,oC,gD,oT,gE,gF,gG,oT,oC,gH,oT,gI,gJ,gK,oT,oC,gM,oT,gO,gP,gQ,oT,oC,gR,oT,gS,gT,gU,oT,oC,gV,oT,gW,gX,gY,oT,oC,gZ,oT,g7,g8,g9,oT,oC,ia,oT,ic,ig,iu,oT,oC,iw,oT,iy,iz,iA,oT,oC,iB,oT,iC,iD,iE,iF,iG P,iH,iI,iJ,iY,iZ,ja P,oT,jb,jc,jd,je,oT,oC,jf,oT,jg,jh,ji,oT,oC,jj,oT,jk,jl,jm,oT,oC,jn,oT,jo,jq,jr,oT,oC,jt,oT,ju,jv,jw,oT,oC,jx,oT,jy,jz,jA,oT,oC,jB,oT,jC,jD,jE,oT,oC,jF,oT,jG,jH,jI,oT,oC,jJ,oT,jK,jL,jM,oT,oC,jN,oT,jO,jP,jQ,oT,oC,jR,oT,jS,jT,jU,oT,oC,jV,oT,jW,jX,jY,oT,oC,jZ,oT,j3,j4,j5,j6,j7 P,j8,j9,kc,kW P,kX,kY P,kZ,k6,k7 P,oT,oC,k8,k9,oT,lg P,lq,lu,ly,lz,nN,nO,nP P,oT,oC,nQ,nR,oT,nS P,nU,nV,nW,nX,nY,nZ,n6 P,oT,n7,n8,n9,oT,oC,oh,oT,oi,oj,om,oq,ou P,ow,oz,oA,oB,oE,pK,pL,pM P,oT,pN,pO,pP,pQ,oT,oC,pR,oT,pS,pT,pU,oT,oC,pV,oT,pW,pX,pY,oT,oC,pZ,oT,p5,p6,p7,oT,oC,p8,oT,p9,qa,qb,qc,qd P,qe,qf,qg,qh,qi,ri,rj,rm P,oT,rq,rt,ru,oT,oC,ry,oT,rz,rA,rB,oT,oC,rC,oT,rD,rE,rG,oT,oC,rH,oT,rI,rJ,rK,oT,oC,rL,oT,rM,rN,rO,rP,rQ P,rR,rS,rT,rU,rV,rW,oT,oC,rX,rY,rZ,oT,oC,sd,oT,se,sf,sj,oT,oC,sr,oT,su,sy,sA,oT,oC,tY,oT,tZ,t6,t7,oT,oC,t8,oT,t9,ua,uc,oT,oC,ud,oT,ue,ug,uh,oT,oC,um,oT,uo,uq,ur,oT,oC,uu,oT,uv,uw,ux,oT,oC,uy,oT,uz,uA,uB,oT,oC,uC,uD,uE,oT,oC,uF,oT,uG,uH,uI,oT,oC,uJ,oT,uK,uL,uM,oT,oC,uN,oT,uO,uP,uQ,oT,oC,uR,oT,uS,uT,uU,oT,oC,uV,oT,uW,uX,uY,oT,oC,uZ,oT,u5,u6,u7,oT,oC,u9,oT,vd,ve,vg,oT,oC,vh,oT,vj,vn,vo,oT,oC,wW,oT,wX,wY,wZ,oT,oC,w4,oT,w5,w6,w7,oT,oC,w9,oT,xd,xe,xg,oT,oC,xh,xj,xm]⟩,(@PySem.Life.mk (@List.nil @Nat) (@List.nil @Nat) (@List.nil @Nat) (nat_lit 0) (@List.nil (@Prod @Nat @Nat)) (@List.nil @Nat) @Bool.false (@List.toArray @Nat (@List.nil @Nat)) (@List.nil @Nat) (nat_lit 0) @Bool.false @Bool.false @Bool.false (0:Int) (@List.cons @Int (2000:Int) (@List.cons @Int (10:Int) (@List.cons @Int (10:Int) (@List.nil @Int)))) @Bool.false (nat_lit 0) @Bool.true (@List.nil @Nat) (@List.nil @Nat) (nat_lit 0) @Bool.false)⟩
noncomputable def LJ (w:World) (os:OsState):PySem.Shared:=⟨zY w.params,#[],(@PySem.Drawn.mk (nat_lit 0) (nat_lit 0) (nat_lit 0) (nat_lit 0)),nat_lit 1375,os⟩
theorem PO (w:World) (os:OsState):topRun treeTable pw w m0 q9 (nat_lit 2) (Mr w os).abs ⟨doneF .next,bT,Ib,[topFrame q0]⟩=some (LJ w os):=by kernel_rfl
noncomputable def M0:Nat:=(nat_lit 12+(nat_lit 1+(nat_lit 54+(nat_lit 462+(nat_lit 359+(nat_lit 1383+(nat_lit 620+(nat_lit 443+(nat_lit 415+(nat_lit 346+(nat_lit 476+(nat_lit 488+(nat_lit 129+(nat_lit 2))))))))))))))
theorem PR (w:World) (os:OsState):topRun treeTable pw w m0 q9 M0 ⟨boot_heap w.params,#[],boot_drawn,boot_toks,os⟩ (topStub pw)=some (LJ w os) :=
 go_top (PM w os) (piece_block (Jm w os) (show topRun treeTable pw w m0 q9 (nat_lit 54+(nat_lit 462+(nat_lit 359+(nat_lit 1383+(nat_lit 620+(nat_lit 443+(nat_lit 415+(nat_lit 346+(nat_lit 476+(nat_lit 488+(nat_lit 129+(nat_lit 2)))))))))))) (PL w os).abs (restOf (Jo++(F5++(DT++(CR++(A5++(zX++(yZ++(yj++(wV++(wz++(qj++[]))))))))))) tX bT Jl [topFrame q0])=some (LJ w os) from (piece_app (N:=(nat_lit 462+(nat_lit 359+(nat_lit 1383+(nat_lit 620+(nat_lit 443+(nat_lit 415+(nat_lit 346+(nat_lit 476+(nat_lit 488+(nat_lit 129+(nat_lit 2)))))))))))) (l:=Jo) (rest:=(F5++(DT++(CR++(A5++(zX++(yZ++(yj++(wV++(wz++(qj++[]))))))))))) (segRun_of (Jp w os)) (piece_app (N:=(nat_lit 359+(nat_lit 1383+(nat_lit 620+(nat_lit 443+(nat_lit 415+(nat_lit 346+(nat_lit 476+(nat_lit 488+(nat_lit 129+(nat_lit 2))))))))))) (l:=F5) (rest:=(DT++(CR++(A5++(zX++(yZ++(yj++(wV++(wz++(qj++[])))))))))) (segRun_of (Jr w os)) (piece_app (N:=(nat_lit 1383+(nat_lit 620+(nat_lit 443+(nat_lit 415+(nat_lit 346+(nat_lit 476+(nat_lit 488+(nat_lit 129+(nat_lit 2)))))))))) (l:=DT) (rest:=(CR++(A5++(zX++(yZ++(yj++(wV++(wz++(qj++[]))))))))) (segRun_of (Jt w os)) (piece_app (N:=(nat_lit 620+(nat_lit 443+(nat_lit 415+(nat_lit 346+(nat_lit 476+(nat_lit 488+(nat_lit 129+(nat_lit 2))))))))) (l:=CR) (rest:=(A5++(zX++(yZ++(yj++(wV++(wz++(qj++[])))))))) (segRun_of (Jv w os)) (piece_app (N:=(nat_lit 443+(nat_lit 415+(nat_lit 346+(nat_lit 476+(nat_lit 488+(nat_lit 129+(nat_lit 2)))))))) (l:=A5) (rest:=(zX++(yZ++(yj++(wV++(wz++(qj++[]))))))) (segRun_of (Jx w os)) (piece_app (N:=(nat_lit 415+(nat_lit 346+(nat_lit 476+(nat_lit 488+(nat_lit 129+(nat_lit 2))))))) (l:=zX) (rest:=(yZ++(yj++(wV++(wz++(qj++[])))))) (segRun_of (Jz w os)) (piece_app (N:=(nat_lit 346+(nat_lit 476+(nat_lit 488+(nat_lit 129+(nat_lit 2)))))) (l:=yZ) (rest:=(yj++(wV++(wz++(qj++[]))))) (segRun_of (JB w os)) (piece_app (N:=(nat_lit 476+(nat_lit 488+(nat_lit 129+(nat_lit 2))))) (l:=yj) (rest:=(wV++(wz++(qj++[])))) (segRun_of (JD w os)) (piece_app (N:=(nat_lit 488+(nat_lit 129+(nat_lit 2)))) (l:=wV) (rest:=(wz++(qj++[]))) (segRun_of (JF w os)) (piece_app (N:=(nat_lit 129+(nat_lit 2))) (l:=wz) (rest:=(qj++[])) (segRun_of (JI w os)) (piece_app (N:=(nat_lit 2)) (l:=qj) (rest:=[]) (segRun_of (Gg w os)) (PO w os))))))))))))))
noncomputable def K0 (P:Params):Frag:=[(nat_lit 0,boot_o_0 P),(nat_lit 1,boot_o_1 P),(nat_lit 2,boot_o_2 P),(nat_lit 3,A6 P),(nat_lit 4,boot_o_4 P),(nat_lit 5,boot_o_5 P),(nat_lit 6,boot_o_6 P),(nat_lit 7,boot_o_7 P),(nat_lit 8,boot_o_8 P),(nat_lit 9,boot_o_9 P),(nat_lit 10,boot_o_10 P),(nat_lit 11,oT),(nat_lit 12,y9),(nat_lit 13,nE),(nat_lit 14,nG),(nat_lit 15,oT),(nat_lit 16,oC),(nat_lit 17,pJ),(nat_lit 18,oT),(nat_lit 19,kM),(nat_lit 20,kN),(nat_lit 21,kO),(nat_lit 22,lG),(nat_lit 23,lH),(nat_lit 24,lI P),(nat_lit 25,oT),(nat_lit 26,lJ),(nat_lit 27,lK),(nat_lit 28,lM),(nat_lit 29,lN),(nat_lit 30,oT),(nat_lit 31,oC),(nat_lit 32,lO),(nat_lit 33,oT),(nat_lit 34,lP),(nat_lit 35,lQ),(nat_lit 36,lR),(nat_lit 37,oT),(nat_lit 38,oC),(nat_lit 39,lS),(nat_lit 40,oT),(nat_lit 41,lT),(nat_lit 42,lU),(nat_lit 43,lV),(nat_lit 44,oT),(nat_lit 45,oC),(nat_lit 46,lW),(nat_lit 47,oT),(nat_lit 48,lX),(nat_lit 49,lY),(nat_lit 50,lZ),(nat_lit 51,oT),(nat_lit 52,oC),(nat_lit 53,l0),(nat_lit 54,oT),(nat_lit 55,l6),(nat_lit 56,l7),(nat_lit 57,l8),(nat_lit 58,oT),(nat_lit 59,oC),(nat_lit 60,l9),(nat_lit 61,oT),(nat_lit 62,mh),(nat_lit 63,mj),(nat_lit 64,mq),(nat_lit 65,oT),(nat_lit 66,oC),(nat_lit 67,mw),(nat_lit 68,oT),(nat_lit 69,mz),(nat_lit 70,mC),(nat_lit 71,mD),(nat_lit 72,oT),(nat_lit 73,oC),(nat_lit 74,mE),(nat_lit 75,oT),(nat_lit 76,mF),(nat_lit 77,mG),(nat_lit 78,mH),(nat_lit 79,oT),(nat_lit 80,oC),(nat_lit 81,mJ),(nat_lit 82,oT),(nat_lit 83,mK),(nat_lit 84,mL),(nat_lit 85,mO),(nat_lit 86,mP),(nat_lit 87,mQ P),(nat_lit 88,mR),(nat_lit 89,mS),(nat_lit 90,mT),(nat_lit 91,mU),(nat_lit 92,mV),(nat_lit 93,nH),(nat_lit 94,nI),(nat_lit 95,nJ P),(nat_lit 96,oT),(nat_lit 97,nK),(nat_lit 98,nL),(nat_lit 99,nM),(nat_lit 100,oT),(nat_lit 101,oC),(nat_lit 102,iV),(nat_lit 103,oT),(nat_lit 104,iW),(nat_lit 105,cH),(nat_lit 106,cI),(nat_lit 107,cJ P),(nat_lit 108,cK),(nat_lit 109,cL),(nat_lit 110,oT),(nat_lit 111,cM P),(nat_lit 112,iX),(nat_lit 113,cN),(nat_lit 114,cO),(nat_lit 115,cP),(nat_lit 116,cQ),(nat_lit 117,di),(nat_lit 118,dj),(nat_lit 119,dw P),(nat_lit 120,oT),(nat_lit 121,dz),(nat_lit 122,dD),(nat_lit 123,dF),(nat_lit 124,dG),(nat_lit 125,oT),(nat_lit 126,oC),(nat_lit 127,dJ),(nat_lit 128,oT),(nat_lit 129,dM),(nat_lit 130,dR),(nat_lit 131,dS),(nat_lit 132,oT),(nat_lit 133,oC),(nat_lit 134,dU),(nat_lit 135,oT),(nat_lit 136,dW),(nat_lit 137,dX),(nat_lit 138,dY),(nat_lit 139,oT),(nat_lit 140,oC),(nat_lit 141,dZ),(nat_lit 142,oT),(nat_lit 143,d7),(nat_lit 144,d8),(nat_lit 145,d9),(nat_lit 146,oT),(nat_lit 147,oC),(nat_lit 148,eu),(nat_lit 149,oT),(nat_lit 150,ez),(nat_lit 151,eB),(nat_lit 152,eE),(nat_lit 153,oT),(nat_lit 154,oC),(nat_lit 155,eF),(nat_lit 156,oT),(nat_lit 157,eG),(nat_lit 158,eN),(nat_lit 159,eO),(nat_lit 160,oT),(nat_lit 161,oC),(nat_lit 162,eU),(nat_lit 163,oT),(nat_lit 164,eW),(nat_lit 165,eZ),(nat_lit 166,fc),(nat_lit 167,oT),(nat_lit 168,oC),(nat_lit 169,fh),(nat_lit 170,oT),(nat_lit 171,fj),(nat_lit 172,fk),(nat_lit 173,fm),(nat_lit 174,oT),(nat_lit 175,oC),(nat_lit 176,fq),(nat_lit 177,oT),(nat_lit 178,fu),(nat_lit 179,fy),(nat_lit 180,fz),(nat_lit 181,oT),(nat_lit 182,oC),(nat_lit 183,fC),(nat_lit 184,oT),(nat_lit 185,fE),(nat_lit 186,fF),(nat_lit 187,fG),(nat_lit 188,oT),(nat_lit 189,oC),(nat_lit 190,fJ),(nat_lit 191,oT),(nat_lit 192,fK),(nat_lit 193,fL),(nat_lit 194,fM),(nat_lit 195,fN),(nat_lit 196,oT),(nat_lit 197,oC),(nat_lit 198,fO),(nat_lit 199,oT),(nat_lit 200,fQ),(nat_lit 201,fR),(nat_lit 202,fS),(nat_lit 203,fT P),(nat_lit 204,fU),(nat_lit 205,fV),(nat_lit 206,oT),(nat_lit 207,oC),(nat_lit 208,fW),(nat_lit 209,oT),(nat_lit 210,fX),(nat_lit 211,fY),(nat_lit 212,fZ),(nat_lit 213,oT),(nat_lit 214,oC),(nat_lit 215,gb),(nat_lit 216,oT),(nat_lit 217,gc),(nat_lit 218,gg),(nat_lit 219,gh),(nat_lit 220,oT),(nat_lit 221,oC),(nat_lit 222,gi),(nat_lit 223,oT),(nat_lit 224,gj),(nat_lit 225,gk),(nat_lit 226,gm),(nat_lit 227,oT),(nat_lit 228,oC),(nat_lit 229,gp),(nat_lit 230,oT),(nat_lit 231,gq),(nat_lit 232,gr),(nat_lit 233,gu),(nat_lit 234,oT),(nat_lit 235,oC),(nat_lit 236,gv),(nat_lit 237,oT),(nat_lit 238,gw),(nat_lit 239,gx),(nat_lit 240,gy),(nat_lit 241,oT),(nat_lit 242,oC),(nat_lit 243,gz),(nat_lit 244,oT),(nat_lit 245,gA),(nat_lit 246,gB),(nat_lit 247,gC),(nat_lit 248,oT),(nat_lit 249,oC),(nat_lit 250,gD),(nat_lit 251,oT),(nat_lit 252,gE),(nat_lit 253,gF),(nat_lit 254,gG),(nat_lit 255,oT),(nat_lit 256,oC),(nat_lit 257,gH),(nat_lit 258,oT),(nat_lit 259,gI),(nat_lit 260,gJ),(nat_lit 261,gK),(nat_lit 262,oT),(nat_lit 263,oC),(nat_lit 264,gM),(nat_lit 265,oT),(nat_lit 266,gO),(nat_lit 267,gP),(nat_lit 268,gQ),(nat_lit 269,oT),(nat_lit 270,oC),(nat_lit 271,gR),(nat_lit 272,oT),(nat_lit 273,gS),(nat_lit 274,gT),(nat_lit 275,gU),(nat_lit 276,oT),(nat_lit 277,oC),(nat_lit 278,gV),(nat_lit 279,oT),(nat_lit 280,gW),(nat_lit 281,gX),(nat_lit 282,gY),(nat_lit 283,oT),(nat_lit 284,oC),(nat_lit 285,gZ),(nat_lit 286,oT),(nat_lit 287,g7),(nat_lit 288,g8),(nat_lit 289,g9),(nat_lit 290,oT),(nat_lit 291,oC),(nat_lit 292,ia),(nat_lit 293,oT),(nat_lit 294,ic),(nat_lit 295,ig),(nat_lit 296,iu),(nat_lit 297,oT),(nat_lit 298,oC),(nat_lit 299,iw),(nat_lit 300,oT),(nat_lit 301,iy),(nat_lit 302,iz),(nat_lit 303,iA),(nat_lit 304,oT),(nat_lit 305,oC),(nat_lit 306,iB),(nat_lit 307,oT),(nat_lit 308,iC),(nat_lit 309,iD),(nat_lit 310,iE),(nat_lit 311,iF),(nat_lit 312,iG P),(nat_lit 313,iH),(nat_lit 314,iI),(nat_lit 315,iJ),(nat_lit 316,iY),(nat_lit 317,iZ),(nat_lit 318,ja P),(nat_lit 319,oT),(nat_lit 320,jb),(nat_lit 321,jc),(nat_lit 322,jd),(nat_lit 323,je),(nat_lit 324,oT),(nat_lit 325,oC),(nat_lit 326,jf),(nat_lit 327,oT),(nat_lit 328,jg),(nat_lit 329,jh),(nat_lit 330,ji),(nat_lit 331,oT),(nat_lit 332,oC),(nat_lit 333,jj),(nat_lit 334,oT),(nat_lit 335,jk),(nat_lit 336,jl),(nat_lit 337,jm),(nat_lit 338,oT),(nat_lit 339,oC),(nat_lit 340,jn),(nat_lit 341,oT),(nat_lit 342,jo),(nat_lit 343,jq),(nat_lit 344,jr),(nat_lit 345,oT),(nat_lit 346,oC),(nat_lit 347,jt),(nat_lit 348,oT),(nat_lit 349,ju),(nat_lit 350,jv),(nat_lit 351,jw),(nat_lit 352,oT),(nat_lit 353,oC),(nat_lit 354,jx),(nat_lit 355,oT),(nat_lit 356,jy),(nat_lit 357,jz),(nat_lit 358,jA),(nat_lit 359,oT),(nat_lit 360,oC),(nat_lit 361,jB),(nat_lit 362,oT),(nat_lit 363,jC),(nat_lit 364,jD),(nat_lit 365,jE),(nat_lit 366,oT),(nat_lit 367,oC),(nat_lit 368,jF),(nat_lit 369,oT),(nat_lit 370,jG),(nat_lit 371,jH),(nat_lit 372,jI),(nat_lit 373,oT),(nat_lit 374,oC),(nat_lit 375,jJ),(nat_lit 376,oT),(nat_lit 377,jK),(nat_lit 378,jL),(nat_lit 379,jM),(nat_lit 380,oT),(nat_lit 381,oC),(nat_lit 382,jN),(nat_lit 383,oT),(nat_lit 384,jO),(nat_lit 385,jP),(nat_lit 386,jQ),(nat_lit 387,oT),(nat_lit 388,oC),(nat_lit 389,jR),(nat_lit 390,oT),(nat_lit 391,jS),(nat_lit 392,jT),(nat_lit 393,jU),(nat_lit 394,oT),(nat_lit 395,oC),(nat_lit 396,jV),(nat_lit 397,oT),(nat_lit 398,jW),(nat_lit 399,jX),(nat_lit 400,jY),(nat_lit 401,oT),(nat_lit 402,oC),(nat_lit 403,jZ),(nat_lit 404,oT),(nat_lit 405,j3),(nat_lit 406,j4),(nat_lit 407,j5),(nat_lit 408,j6),(nat_lit 409,j7 P),(nat_lit 410,j8),(nat_lit 411,j9),(nat_lit 412,kc),(nat_lit 413,kW P),(nat_lit 414,kX),(nat_lit 415,kY P),(nat_lit 416,kZ),(nat_lit 417,k6),(nat_lit 418,k7 P),(nat_lit 419,oT),(nat_lit 420,oC),(nat_lit 421,k8),(nat_lit 422,k9),(nat_lit 423,oT),(nat_lit 424,lg P),(nat_lit 425,lq),(nat_lit 426,lu),(nat_lit 427,ly),(nat_lit 428,lz),(nat_lit 429,nN),(nat_lit 430,nO),(nat_lit 431,nP P),(nat_lit 432,oT),(nat_lit 433,oC),(nat_lit 434,nQ),(nat_lit 435,nR),(nat_lit 436,oT),(nat_lit 437,nS P),(nat_lit 438,nU),(nat_lit 439,nV),(nat_lit 440,nW),(nat_lit 441,nX),(nat_lit 442,nY),(nat_lit 443,nZ),(nat_lit 444,n6 P),(nat_lit 445,oT),(nat_lit 446,n7),(nat_lit 447,n8),(nat_lit 448,n9),(nat_lit 449,oT),(nat_lit 450,oC),(nat_lit 451,oh),(nat_lit 452,oT),(nat_lit 453,oi),(nat_lit 454,oj),(nat_lit 455,om),(nat_lit 456,oq),(nat_lit 457,ou P),(nat_lit 458,ow),(nat_lit 459,oz),(nat_lit 460,oA),(nat_lit 461,oB),(nat_lit 462,oE),(nat_lit 463,pK),(nat_lit 464,pL),(nat_lit 465,pM P),(nat_lit 466,oT),(nat_lit 467,pN),(nat_lit 468,pO),(nat_lit 469,pP),(nat_lit 470,pQ),(nat_lit 471,oT),(nat_lit 472,oC),(nat_lit 473,pR),(nat_lit 474,oT),(nat_lit 475,pS),(nat_lit 476,pT),(nat_lit 477,pU),(nat_lit 478,oT),(nat_lit 479,oC),(nat_lit 480,pV),(nat_lit 481,oT),(nat_lit 482,pW),(nat_lit 483,pX),(nat_lit 484,pY),(nat_lit 485,oT),(nat_lit 486,oC),(nat_lit 487,pZ),(nat_lit 488,oT),(nat_lit 489,p5),(nat_lit 490,p6),(nat_lit 491,p7),(nat_lit 492,oT),(nat_lit 493,oC),(nat_lit 494,p8),(nat_lit 495,oT),(nat_lit 496,p9),(nat_lit 497,qa),(nat_lit 498,qb),(nat_lit 499,qc),(nat_lit 500,qd P),(nat_lit 501,qe),(nat_lit 502,qf),(nat_lit 503,qg),(nat_lit 504,qh),(nat_lit 505,qi),(nat_lit 506,ri),(nat_lit 507,rj),(nat_lit 508,rm P),(nat_lit 509,oT),(nat_lit 510,rq),(nat_lit 511,rt),(nat_lit 512,ru),(nat_lit 513,oT),(nat_lit 514,oC),(nat_lit 515,ry),(nat_lit 516,oT),(nat_lit 517,rz),(nat_lit 518,rA),(nat_lit 519,rB),(nat_lit 520,oT),(nat_lit 521,oC),(nat_lit 522,rC),(nat_lit 523,oT),(nat_lit 524,rD),(nat_lit 525,rE),(nat_lit 526,rG),(nat_lit 527,oT),(nat_lit 528,oC),(nat_lit 529,rH),(nat_lit 530,oT),(nat_lit 531,rI),(nat_lit 532,rJ),(nat_lit 533,rK),(nat_lit 534,oT),(nat_lit 535,oC),(nat_lit 536,rL),(nat_lit 537,oT),(nat_lit 538,rM),(nat_lit 539,rN),(nat_lit 540,rO),(nat_lit 541,rP),(nat_lit 542,rQ P),(nat_lit 543,rR),(nat_lit 544,rS),(nat_lit 545,rT),(nat_lit 546,rU),(nat_lit 547,rV),(nat_lit 548,rW),(nat_lit 549,oT),(nat_lit 550,oC),(nat_lit 551,rX),(nat_lit 552,rY),(nat_lit 553,rZ),(nat_lit 554,oT),(nat_lit 555,oC),(nat_lit 556,sd),(nat_lit 557,oT),(nat_lit 558,se),(nat_lit 559,sf),(nat_lit 560,sj),(nat_lit 561,oT),(nat_lit 562,oC),(nat_lit 563,sr),(nat_lit 564,oT),(nat_lit 565,su),(nat_lit 566,sy),(nat_lit 567,sA),(nat_lit 568,oT),(nat_lit 569,oC),(nat_lit 570,tY),(nat_lit 571,oT),(nat_lit 572,tZ),(nat_lit 573,t6),(nat_lit 574,t7),(nat_lit 575,oT),(nat_lit 576,oC),(nat_lit 577,t8),(nat_lit 578,oT),(nat_lit 579,t9),(nat_lit 580,ua),(nat_lit 581,uc),(nat_lit 582,oT),(nat_lit 583,oC),(nat_lit 584,ud),(nat_lit 585,oT),(nat_lit 586,ue),(nat_lit 587,ug),(nat_lit 588,uh),(nat_lit 589,oT),(nat_lit 590,oC),(nat_lit 591,um),(nat_lit 592,oT),(nat_lit 593,uo),(nat_lit 594,uq),(nat_lit 595,ur),(nat_lit 596,oT),(nat_lit 597,oC),(nat_lit 598,uu),(nat_lit 599,oT),(nat_lit 600,uv),(nat_lit 601,uw),(nat_lit 602,ux),(nat_lit 603,oT),(nat_lit 604,oC),(nat_lit 605,uy),(nat_lit 606,oT),(nat_lit 607,uz),(nat_lit 608,uA),(nat_lit 609,uB),(nat_lit 610,oT),(nat_lit 611,oC),(nat_lit 612,uC),(nat_lit 613,uD),(nat_lit 614,uE),(nat_lit 615,oT),(nat_lit 616,oC),(nat_lit 617,uF),(nat_lit 618,oT),(nat_lit 619,uG),(nat_lit 620,uH),(nat_lit 621,uI),(nat_lit 622,oT),(nat_lit 623,oC),(nat_lit 624,uJ),(nat_lit 625,oT),(nat_lit 626,uK),(nat_lit 627,uL),(nat_lit 628,uM),(nat_lit 629,oT),(nat_lit 630,oC),(nat_lit 631,uN),(nat_lit 632,oT),(nat_lit 633,uO),(nat_lit 634,uP),(nat_lit 635,uQ),(nat_lit 636,oT),(nat_lit 637,oC),(nat_lit 638,uR),(nat_lit 639,oT),(nat_lit 640,uS),(nat_lit 641,uT),(nat_lit 642,uU),(nat_lit 643,oT),(nat_lit 644,oC),(nat_lit 645,uV),(nat_lit 646,oT),(nat_lit 647,uW),(nat_lit 648,uX),(nat_lit 649,uY),(nat_lit 650,oT),(nat_lit 651,oC),(nat_lit 652,uZ),(nat_lit 653,oT),(nat_lit 654,u5),(nat_lit 655,u6),(nat_lit 656,u7),(nat_lit 657,oT),(nat_lit 658,oC),(nat_lit 659,u9),(nat_lit 660,oT),(nat_lit 661,vd),(nat_lit 662,ve),(nat_lit 663,vg),(nat_lit 664,oT),(nat_lit 665,oC),(nat_lit 666,vh),(nat_lit 667,oT),(nat_lit 668,vj),(nat_lit 669,vn),(nat_lit 670,vo),(nat_lit 671,oT),(nat_lit 672,oC),(nat_lit 673,wW),(nat_lit 674,oT),(nat_lit 675,wX),(nat_lit 676,wY),(nat_lit 677,wZ),(nat_lit 678,oT),(nat_lit 679,oC),(nat_lit 680,w4),(nat_lit 681,oT),(nat_lit 682,w5),(nat_lit 683,w6),(nat_lit 684,w7),(nat_lit 685,oT),(nat_lit 686,oC),(nat_lit 687,w9),(nat_lit 688,oT),(nat_lit 689,xd),(nat_lit 690,xe),(nat_lit 691,xg),(nat_lit 692,oT),(nat_lit 693,oC),(nat_lit 694,xh),(nat_lit 695,xj),(nat_lit 696,xm)]
noncomputable def as0:List Addr:=[nat_lit 0,nat_lit 1,nat_lit 2,nat_lit 3,nat_lit 4,nat_lit 5,nat_lit 6,nat_lit 7,nat_lit 8,nat_lit 9,nat_lit 10,nat_lit 11,nat_lit 12,nat_lit 13,nat_lit 14,nat_lit 15,nat_lit 16,nat_lit 17,nat_lit 18,nat_lit 19,nat_lit 20,nat_lit 21,nat_lit 22,nat_lit 23,nat_lit 24,nat_lit 25,nat_lit 26,nat_lit 27,nat_lit 28,nat_lit 29,nat_lit 30,nat_lit 31,nat_lit 32,nat_lit 33,nat_lit 34,nat_lit 35,nat_lit 36,nat_lit 37,nat_lit 38,nat_lit 39,nat_lit 40,nat_lit 41,nat_lit 42,nat_lit 43,nat_lit 44,nat_lit 45,nat_lit 46,nat_lit 47,nat_lit 48,nat_lit 49,nat_lit 50,nat_lit 51,nat_lit 52,nat_lit 53,nat_lit 54,nat_lit 55,nat_lit 56,nat_lit 57,nat_lit 58,nat_lit 59,nat_lit 60,nat_lit 61,nat_lit 62,nat_lit 63,nat_lit 64,nat_lit 65,nat_lit 66,nat_lit 67,nat_lit 68,nat_lit 69,nat_lit 70,nat_lit 71,nat_lit 72,nat_lit 73,nat_lit 74,nat_lit 75,nat_lit 76,nat_lit 77,nat_lit 78,nat_lit 79,nat_lit 80,nat_lit 81,nat_lit 82,nat_lit 83,nat_lit 84,nat_lit 85,nat_lit 86,nat_lit 87,nat_lit 88,nat_lit 89,nat_lit 90,nat_lit 91,nat_lit 92,nat_lit 93,nat_lit 94,nat_lit 95,nat_lit 96,nat_lit 97,nat_lit 98,nat_lit 99,nat_lit 100,nat_lit 101,nat_lit 102,nat_lit 103,nat_lit 104,nat_lit 105,nat_lit 106,nat_lit 107,nat_lit 108,nat_lit 109,nat_lit 110,nat_lit 111,nat_lit 112,nat_lit 113,nat_lit 114,nat_lit 115,nat_lit 116,nat_lit 117,nat_lit 118,nat_lit 119,nat_lit 120,nat_lit 121,nat_lit 122,nat_lit 123,nat_lit 124,nat_lit 125,nat_lit 126,nat_lit 127,nat_lit 128,nat_lit 129,nat_lit 130,nat_lit 131,nat_lit 132,nat_lit 133,nat_lit 134,nat_lit 135,nat_lit 136,nat_lit 137,nat_lit 138,nat_lit 139,nat_lit 140,nat_lit 141,nat_lit 142,nat_lit 143,nat_lit 144,nat_lit 145,nat_lit 146,nat_lit 147,nat_lit 148,nat_lit 149,nat_lit 150,nat_lit 151,nat_lit 152,nat_lit 153,nat_lit 154,nat_lit 155,nat_lit 156,nat_lit 157,nat_lit 158,nat_lit 159,nat_lit 160,nat_lit 161,nat_lit 162,nat_lit 163,nat_lit 164,nat_lit 165,nat_lit 166,nat_lit 167,nat_lit 168,nat_lit 169,nat_lit 170,nat_lit 171,nat_lit 172,nat_lit 173,nat_lit 174,nat_lit 175,nat_lit 176,nat_lit 177,nat_lit 178,nat_lit 179,nat_lit 180,nat_lit 181,nat_lit 182,nat_lit 183,nat_lit 184,nat_lit 185,nat_lit 186,nat_lit 187,nat_lit 188,nat_lit 189,nat_lit 190,nat_lit 191,nat_lit 192,nat_lit 193,nat_lit 194,nat_lit 195,nat_lit 196,nat_lit 197,nat_lit 198,nat_lit 199,nat_lit 200,nat_lit 201,nat_lit 202,nat_lit 203,nat_lit 204,nat_lit 205,nat_lit 206,nat_lit 207,nat_lit 208,nat_lit 209,nat_lit 210,nat_lit 211,nat_lit 212,nat_lit 213,nat_lit 214,nat_lit 215,nat_lit 216,nat_lit 217,nat_lit 218,nat_lit 219,nat_lit 220,nat_lit 221,nat_lit 222,nat_lit 223,nat_lit 224,nat_lit 225,nat_lit 226,nat_lit 227,nat_lit 228,nat_lit 229,nat_lit 230,nat_lit 231,nat_lit 232,nat_lit 233,nat_lit 234,nat_lit 235,nat_lit 236,nat_lit 237,nat_lit 238,nat_lit 239,nat_lit 240,nat_lit 241,nat_lit 242,nat_lit 243,nat_lit 244,nat_lit 245,nat_lit 246,nat_lit 247,nat_lit 248,nat_lit 249,nat_lit 250,nat_lit 251,nat_lit 252,nat_lit 253,nat_lit 254,nat_lit 255,nat_lit 256,nat_lit 257,nat_lit 258,nat_lit 259,nat_lit 260,nat_lit 261,nat_lit 262,nat_lit 263,nat_lit 264,nat_lit 265,nat_lit 266,nat_lit 267,nat_lit 268,nat_lit 269,nat_lit 270,nat_lit 271,nat_lit 272,nat_lit 273,nat_lit 274,nat_lit 275,nat_lit 276,nat_lit 277,nat_lit 278,nat_lit 279,nat_lit 280,nat_lit 281,nat_lit 282,nat_lit 283,nat_lit 284,nat_lit 285,nat_lit 286,nat_lit 287,nat_lit 288,nat_lit 289,nat_lit 290,nat_lit 291,nat_lit 292,nat_lit 293,nat_lit 294,nat_lit 295,nat_lit 296,nat_lit 297,nat_lit 298,nat_lit 299,nat_lit 300,nat_lit 301,nat_lit 302,nat_lit 303,nat_lit 304,nat_lit 305,nat_lit 306,nat_lit 307,nat_lit 308,nat_lit 309,nat_lit 310,nat_lit 311,nat_lit 312,nat_lit 313,nat_lit 314,nat_lit 315,nat_lit 316,nat_lit 317,nat_lit 318,nat_lit 319,nat_lit 320,nat_lit 321,nat_lit 322,nat_lit 323,nat_lit 324,nat_lit 325,nat_lit 326,nat_lit 327,nat_lit 328,nat_lit 329,nat_lit 330,nat_lit 331,nat_lit 332,nat_lit 333,nat_lit 334,nat_lit 335,nat_lit 336,nat_lit 337,nat_lit 338,nat_lit 339,nat_lit 340,nat_lit 341,nat_lit 342,nat_lit 343,nat_lit 344,nat_lit 345,nat_lit 346,nat_lit 347,nat_lit 348,nat_lit 349,nat_lit 350,nat_lit 351,nat_lit 352,nat_lit 353,nat_lit 354,nat_lit 355,nat_lit 356,nat_lit 357,nat_lit 358,nat_lit 359,nat_lit 360,nat_lit 361,nat_lit 362,nat_lit 363,nat_lit 364,nat_lit 365,nat_lit 366,nat_lit 367,nat_lit 368,nat_lit 369,nat_lit 370,nat_lit 371,nat_lit 372,nat_lit 373,nat_lit 374,nat_lit 375,nat_lit 376,nat_lit 377,nat_lit 378,nat_lit 379,nat_lit 380,nat_lit 381,nat_lit 382,nat_lit 383,nat_lit 384,nat_lit 385,nat_lit 386,nat_lit 387,nat_lit 388,nat_lit 389,nat_lit 390,nat_lit 391,nat_lit 392,nat_lit 393,nat_lit 394,nat_lit 395,nat_lit 396,nat_lit 397,nat_lit 398,nat_lit 399,nat_lit 400,nat_lit 401,nat_lit 402,nat_lit 403,nat_lit 404,nat_lit 405,nat_lit 406,nat_lit 407,nat_lit 408,nat_lit 409,nat_lit 410,nat_lit 411,nat_lit 412,nat_lit 413,nat_lit 414,nat_lit 415,nat_lit 416,nat_lit 417,nat_lit 418,nat_lit 419,nat_lit 420,nat_lit 421,nat_lit 422,nat_lit 423,nat_lit 424,nat_lit 425,nat_lit 426,nat_lit 427,nat_lit 428,nat_lit 429,nat_lit 430,nat_lit 431,nat_lit 432,nat_lit 433,nat_lit 434,nat_lit 435,nat_lit 436,nat_lit 437,nat_lit 438,nat_lit 439,nat_lit 440,nat_lit 441,nat_lit 442,nat_lit 443,nat_lit 444,nat_lit 445,nat_lit 446,nat_lit 447,nat_lit 448,nat_lit 449,nat_lit 450,nat_lit 451,nat_lit 452,nat_lit 453,nat_lit 454,nat_lit 455,nat_lit 456,nat_lit 457,nat_lit 458,nat_lit 459,nat_lit 460,nat_lit 461,nat_lit 462,nat_lit 463,nat_lit 464,nat_lit 465,nat_lit 466,nat_lit 467,nat_lit 468,nat_lit 469,nat_lit 470,nat_lit 471,nat_lit 472,nat_lit 473,nat_lit 474,nat_lit 475,nat_lit 476,nat_lit 477,nat_lit 478,nat_lit 479,nat_lit 480,nat_lit 481,nat_lit 482,nat_lit 483,nat_lit 484,nat_lit 485,nat_lit 486,nat_lit 487,nat_lit 488,nat_lit 489,nat_lit 490,nat_lit 491,nat_lit 492,nat_lit 493,nat_lit 494,nat_lit 495,nat_lit 496,nat_lit 497,nat_lit 498,nat_lit 499,nat_lit 500,nat_lit 501,nat_lit 502,nat_lit 503,nat_lit 504,nat_lit 505,nat_lit 506,nat_lit 507,nat_lit 508,nat_lit 509,nat_lit 510,nat_lit 511,nat_lit 512,nat_lit 513,nat_lit 514,nat_lit 515,nat_lit 516,nat_lit 517,nat_lit 518,nat_lit 519,nat_lit 520,nat_lit 521,nat_lit 522,nat_lit 523,nat_lit 524,nat_lit 525,nat_lit 526,nat_lit 527,nat_lit 528,nat_lit 529,nat_lit 530,nat_lit 531,nat_lit 532,nat_lit 533,nat_lit 534,nat_lit 535,nat_lit 536,nat_lit 537,nat_lit 538,nat_lit 539,nat_lit 540,nat_lit 541,nat_lit 542,nat_lit 543,nat_lit 544,nat_lit 545,nat_lit 546,nat_lit 547,nat_lit 548,nat_lit 549,nat_lit 550,nat_lit 551,nat_lit 552,nat_lit 553,nat_lit 554,nat_lit 555,nat_lit 556,nat_lit 557,nat_lit 558,nat_lit 559,nat_lit 560,nat_lit 561,nat_lit 562,nat_lit 563,nat_lit 564,nat_lit 565,nat_lit 566,nat_lit 567,nat_lit 568,nat_lit 569,nat_lit 570,nat_lit 571,nat_lit 572,nat_lit 573,nat_lit 574,nat_lit 575,nat_lit 576,nat_lit 577,nat_lit 578,nat_lit 579,nat_lit 580,nat_lit 581,nat_lit 582,nat_lit 583,nat_lit 584,nat_lit 585,nat_lit 586,nat_lit 587,nat_lit 588,nat_lit 589,nat_lit 590,nat_lit 591,nat_lit 592,nat_lit 593,nat_lit 594,nat_lit 595,nat_lit 596,nat_lit 597,nat_lit 598,nat_lit 599,nat_lit 600,nat_lit 601,nat_lit 602,nat_lit 603,nat_lit 604,nat_lit 605,nat_lit 606,nat_lit 607,nat_lit 608,nat_lit 609,nat_lit 610,nat_lit 611,nat_lit 612,nat_lit 613,nat_lit 614,nat_lit 615,nat_lit 616,nat_lit 617,nat_lit 618,nat_lit 619,nat_lit 620,nat_lit 621,nat_lit 622,nat_lit 623,nat_lit 624,nat_lit 625,nat_lit 626,nat_lit 627,nat_lit 628,nat_lit 629,nat_lit 630,nat_lit 631,nat_lit 632,nat_lit 633,nat_lit 634,nat_lit 635,nat_lit 636,nat_lit 637,nat_lit 638,nat_lit 639,nat_lit 640,nat_lit 641,nat_lit 642,nat_lit 643,nat_lit 644,nat_lit 645,nat_lit 646,nat_lit 647,nat_lit 648,nat_lit 649,nat_lit 650,nat_lit 651,nat_lit 652,nat_lit 653,nat_lit 654,nat_lit 655,nat_lit 656,nat_lit 657,nat_lit 658,nat_lit 659,nat_lit 660,nat_lit 661,nat_lit 662,nat_lit 663,nat_lit 664,nat_lit 665,nat_lit 666,nat_lit 667,nat_lit 668,nat_lit 669,nat_lit 670,nat_lit 671,nat_lit 672,nat_lit 673,nat_lit 674,nat_lit 675,nat_lit 676,nat_lit 677,nat_lit 678,nat_lit 679,nat_lit 680,nat_lit 681,nat_lit 682,nat_lit 683,nat_lit 684,nat_lit 685,nat_lit 686,nat_lit 687,nat_lit 688,nat_lit 689,nat_lit 690,nat_lit 691,nat_lit 692,nat_lit 693,nat_lit 694,nat_lit 695,nat_lit 696]
end
end JL
namespace JL
open PySem PySem.W PySem.Calls PyProof.Rows
set_option maxHeartbeats 0
noncomputable section
noncomputable def qv:PySem.Program:={ pw with main:={ pw.main with body:=[F4 37 bV] } }
noncomputable def xo:List PySem.Str := "inverse_mod" :: "CurveFp" :: "AbstractPoint" :: "PointJacobi" :: "Point" :: "INFINITY" :: "RSZeroError" :: "InvalidPointError" :: "Signature" :: "Public_key" :: "Private_key" :: "_law_primes" :: "_law_state" :: "_law_take" :: "_law_curve" :: "_law_points" :: "_law_inverse" :: "_law_plus" :: "_law_minus" :: "_law_times" :: "_law_order" :: "_law_generator" :: "_law_factor" :: "_law_made" :: "_law_told" :: "_law_world" :: "_law_over" :: "_law_key" :: "_law_due" :: "_law_number" :: "_law_signed" :: "_law_says" :: "_law_checked" :: []
noncomputable def tF:Hook:=kHook K0 as0 (λ _=>by kernel_rfl)
theorem Ms:∀ w:PySem.World,(fencedOpening treeTable pw w 8000).map (λ s=>(s.heap,s.gens,s.drawn,s.toks))=some (boot_heap w.params,#[],boot_drawn,boot_toks) :=
 boot_open (by kernel_rfl) (by kernel_rfl) (λ s=>by kernel_rfl)
theorem Mu:∀ w:PySem.World,((boot_heap w.params).isNs mainGlobals&&(#[]:Array GenState).size==0,(boot_heap w.params).objs.size,(boot_heap w.params).nsMap mainGlobals "__annotations__")=(true,m0,q9):=λ w=>by kernel_rfl
theorem JK:∀ w:PySem.World,(λ os=>((staticsOk (importedModules pw.main.body) (boot_heap w.params) (zY w.params)&&namesBound pw (zY w.params)&&gensDone (LJ w os)&&laidKept (boot_heap w.params) (zY w.params)),
 openSeen qv xo (importedModules pw.main.body) (λ s=>xlAt qv [] s&&recOk (RowW.records PySem.Challenge.rw_xx0001_12.row.toRowW) s) true (LJ w os),Hook.obs tF (LJ w os)))=λ _=>(true,openGood qv xo,Hook.val tF w):=λ w=>by kernel_rfl
theorem Mv:LeftO pw qv xo (λ s=>xlAt qv [] s&&recOk (RowW.records PySem.Challenge.rw_xx0001_12.row.toRowW) s) (Hook.obs tF) (Hook.val tF) 8000 true :=
 LeftO.of_pieces (H₀:=boot_heap) (H₁:=zY) (gs₁:=#[]) (M:=M0) Ms Mu (λ w os=>PR w os) (by kernel_rfl) (λ w=>JK w)
noncomputable def dk:DefRec×List (PySem.Str×Expr):=(defOf qv (Str.ofString "law")).get (by kernel_rfl)
theorem Mw:defOf qv (Str.ofString "law")=some (dk.1,dk.2):=(Option.some_get (x:=defOf qv (Str.ofString "law")) (by kernel_rfl)).symm
theorem JM (call:WalkO qv xo (XL qv []) (Hook.says tF) PySem.Challenge.rw_xx0001_12.row.toRowW dk.1 dk.2 λ f vs=>PySem.call f vs):PySem.Challenge.rw_xx0001_12.Holds:=by
 w_on; refine holds_law wsA λ said=>?_
 refine holds_open (q:=qv) (loose:=xo) (Xt:=λ s=>xlAt qv [] s&&recOk (RowW.records PySem.Challenge.rw_xx0001_12.row.toRowW) s) (XP:=XL qv []) (Yf:=Hook.obs tF) (Ya:=Hook.val tF) (YP:=Hook.says tF) (N:=8000) Mv (Hook.of tF) (Hook.keeps tF) (λ s e=>xl_of s (Bool.and_eq_true_iff.mp e).1) XL.keeps Mw (by kernel_rfl) (by kernel_rfl) (λ s e=>recFacts_of (Bool.and_eq_true_iff.mp e).2) (by rfl) (by first | assumption | decide +kernel) (by decide +kernel) ⟨rfl,rfl,rfl,rfl,rfl,by decide +kernel⟩ ?hw call
 w_witness2
end
end JL
namespace EC
open Lean.Grind
section
variable {F:Type} [Field F]
structure Sl (a xA yA xB yB s:F):Prop where
 l:yB-yA=s*(xB-xA)
 q:s*(yA+yB)=xA*xA+xA*xB+xB*xB+a
theorem nt {x y:F} (h:x*y=0):x=0∨y=0:=by
 by_cases hx:x=0
 · exact .inl hx
 · right
   have h1:x*x⁻¹=1:=Field.mul_inv_cancel hx
   have h2:y=x⁻¹*(x*y):=by grind
   rw [h2,h]; grind
theorem four {p1 p2 q1 q2 E:F} (hp:¬ (p1=0∧p2=0)) (hq:¬ (q1=0∧q2=0)) (h11:p1*q1*E=0) (h12:p1*q2*E=0) (h21:p2*q1*E=0) (h22:p2*q2*E=0):E=0:=by
 apply Classical.byContradiction
 intro hE
 have g (x y:F) (h:x*y*E=0):x=0∨y=0:=by
  rcases nt h with h | h
  · exact nt h
  · exact absurd h hE
 rcases g _ _ h11 with a | a<;>rcases g _ _ h12 with b | b<;>rcases g _ _ h21 with c | c<;>rcases g _ _ h22 with d | d<;>simp_all
variable {a b xA yA xB yB xC yC s t u v X Y:F}
theorem Mx (hA:yA*yA=xA*xA*xA+a*xA+b) (hB:yB*yB=xB*xB*xB+a*xB+b) (hC:yC*yC=xC*xC*xC+a*xC+b)
 (hs:Sl a xA yA xB yB s) (ht:Sl a xB yB xC yC t) (hX:X=s*s-xA-xB) (hY:Y=s*(xA-X)-yA) (hu:Sl a X Y xC yC u) :
 (xC-X)*(xC-xB)*((u+s)*(t-s)-(xC-xA))=0:=by
 have s1:=hs.l
 have s2:=hs.q
 have t1:=ht.l
 have u1:=hu.l
 clear hs ht hu hA
 grind
theorem My (hA:yA*yA=xA*xA*xA+a*xA+b) (hB:yB*yB=xB*xB*xB+a*xB+b) (hC:yC*yC=xC*xC*xC+a*xC+b)
 (hs:Sl a xA yA xB yB s) (ht:Sl a xB yB xC yC t) (hX:X=s*s-xA-xB) (hY:Y=s*(xA-X)-yA) (hu:Sl a X Y xC yC u) :
 (xC-X)*(yB+yC)*((u+s)*(t-s)-(xC-xA))=0:=by
 have s1:=hs.l
 have s2:=hs.q
 have t2:=ht.q
 have u1:=hu.l
 clear hs ht hu
 grind
theorem Mz (hA:yA*yA=xA*xA*xA+a*xA+b) (hB:yB*yB=xB*xB*xB+a*xB+b) (hC:yC*yC=xC*xC*xC+a*xC+b)
 (hs:Sl a xA yA xB yB s) (ht:Sl a xB yB xC yC t) (hX:X=s*s-xA-xB) (hY:Y=s*(xA-X)-yA) (hu:Sl a X Y xC yC u) :
 (Y+yC)*(xC-xB)*((u+s)*(t-s)-(xC-xA))=0:=by
 obtain ⟨s1,s2⟩:=hs
 obtain ⟨t1,t2⟩:=ht
 obtain ⟨u1,u2⟩:=hu
 (clear t2 hB; grind)
theorem MA (hA:yA*yA=xA*xA*xA+a*xA+b) (hB:yB*yB=xB*xB*xB+a*xB+b) (hC:yC*yC=xC*xC*xC+a*xC+b)
 (hs:Sl a xA yA xB yB s) (ht:Sl a xB yB xC yC t) (hX:X=s*s-xA-xB) (hY:Y=s*(xA-X)-yA) (hu:Sl a X Y xC yC u) :
 (Y+yC)*(yB+yC)*((u+s)*(t-s)-(xC-xA))=0:=by
 obtain ⟨s1,s2⟩:=hs
 obtain ⟨t1,t2⟩:=ht
 obtain ⟨u1,u2⟩:=hu
 (clear hB; grind)
end
noncomputable abbrev Pt (F:Type):=Option (F×F)
section
variable {F:Type} [Field F]
inductive Add (a:F):Pt F→Pt F→Pt F→Prop
 | zl {Q:Pt F}:Add a none Q Q
 | zr {P:Pt F}:Add a P none P
 | DO {x y z:F}:y+z=0→Add a (some (x,y)) (some (x,z)) none
 | gen {xA yA xB yB s X Y:F}:¬ (xB-xA=0∧yA+yB=0)→Sl a xA yA xB yB s→X=s*s-xA-xB→Y=s*(xA-X)-yA→Add a (some (xA,yA)) (some (xB,yB)) (some (X,Y))
noncomputable def A1 (a b:F):Pt F→Prop
 | none=>True
 | some p=>p.2*p.2=p.1*p.1*p.1+a*p.1+b
noncomputable def ng:Pt F→Pt F
 | none=>none
 | some p=>some (p.1,-p.2)
theorem two {p q E:F} (hp:¬ (p=0∧q=0)) (h1:p*E=0) (h2:q*E=0):E=0:=by
 apply Classical.byContradiction
 intro hE
 rcases nt h1 with h | h
 · rcases nt h2 with h' | h'
   · exact hp ⟨h,h'⟩
   · exact hE h'
 · exact hE h
theorem Sl.uniq {a xA yA xB yB s s':F} (hn:¬ (xB-xA=0∧yA+yB=0)) (h:Sl a xA yA xB yB s) (h':Sl a xA yA xB yB s'):s=s':=by
 obtain ⟨h1,h2⟩:=h
 obtain ⟨g1,g2⟩:=h'
 have:s-s'=0:=two hn (by grind) (by grind)
 grind
theorem Sl.symm {a xA yA xB yB s:F} (h:Sl a xA yA xB yB s):Sl a xB yB xA yA s:=by
 obtain ⟨h1,h2⟩:=h
 exact ⟨by grind,by grind⟩
theorem Add.inv {a:F} {p q r:F×F} (h:Add a (some p) (some q) (some r)):∃ s,¬ (q.1-p.1=0∧p.2+q.2=0)∧Sl a p.1 p.2 q.1 q.2 s∧r.1=s*s-p.1-q.1∧r.2=s*(p.1-r.1)-p.2:=by
 cases h with | gen hn hs hX hY=>exact ⟨_,hn,hs,hX,hY⟩
theorem Add.MB {a:F} {Q R:Pt F} (h:Add a none Q R):R=Q:=by cases h<;>rfl
theorem Add.MC {a:F} {P R:Pt F} (h:Add a P none R):R=P:=by cases h<;>rfl
theorem Add.MD {a:F} {p q:F×F} (h:Add a (some p) (some q) none):q.1-p.1=0∧p.2+q.2=0:=by
 cases h with | DO e=>exact ⟨by grind,e⟩
theorem Add.uniq {a:F} {P Q R R':Pt F} (h:Add a P Q R) (h':Add a P Q R'):R=R':=by
 cases P with
 | none=>exact h.MB.trans h'.MB.symm
 | some p=>cases Q with
  | none=>exact h.MC.trans h'.MC.symm
  | some q=>cases R with
   | none=>cases R' with
    | none=>rfl
    | some r=>exact h'.inv.elim λ s z=>absurd h.MD z.1
   | some r=>cases R' with
    | none=>exact h.inv.elim λ s z=>absurd h'.MD z.1
    | some r'=>exact h.inv.elim λ s z=>h'.inv.elim λ s' z'=>congrArg some (by
     have e:=z.2.1.uniq z.1 z'.2.1
     rw [← e] at z'
     have e1:=z.2.2.1.trans z'.2.2.1.symm
     exact Prod.ext e1 (by rw [z.2.2.2,z'.2.2.2,e1]))
theorem Add.comm {a:F} {P Q R:Pt F} (h:Add a P Q R):Add a Q P R:=by
 cases h with
 | zl=>exact .zr
 | zr=>exact .zl
 | DO e=>exact .DO (by grind)
 | @gen xA yA xB yB s X Y hn hs hX hY =>
  obtain ⟨s1,s2⟩:=hs
  exact .gen (s:=s) (λ h=>hn ⟨by grind,by grind⟩) ⟨by grind,by grind⟩ (by grind) (by grind)
theorem Add.PS {a b:F} {P Q R:Pt F} (h:Add a P Q R) (hP:A1 a b P) (hQ:A1 a b Q):A1 a b R:=by
 cases h with
 | zl=>exact hQ
 | zr=>exact hP
 | DO e=>trivial
 | @gen xA yA xB yB s X Y hn hs hX hY =>
  obtain ⟨s1,s2⟩:=hs
  have hP:yA*yA=xA*xA*xA+a*xA+b:=hP
  have hQ:yB*yB=xB*xB*xB+a*xB+b:=hQ
  show Y*Y=X*X*X+a*X+b
  have:Y*Y-(X*X*X+a*X+b)=0:=two hn (by grind) (by grind)
  grind
theorem JN {a b:F} {P:Pt F} (h:A1 a b P):A1 a b (ng P):=by
 cases P with
 | none=>trivial
 | some p =>
  have h:p.2*p.2=p.1*p.1*p.1+a*p.1+b:=h
  show -p.2 * -p.2=p.1*p.1*p.1+a*p.1+b
  grind
theorem vX (P:Pt F):ng (ng P)=P:=by
 cases P with
 | none=>rfl
 | some p=>show some (p.1,- -p.2)=_; rw [show - -p.2=p.2 by grind]
theorem Add.neg {a:F} {P Q R:Pt F} (h:Add a P Q R):Add a (ng P) (ng Q) (ng R):=by
 cases h with
 | zl=>exact .zl
 | zr=>exact .zr
 | @DO x y z e=>exact .DO (y:=-y) (z:=-z) (by grind)
 | @gen xA yA xB yB s X Y hn hs hX hY =>
  obtain ⟨s1,s2⟩:=hs
  exact .gen (s:=-s) (λ h=>hn ⟨h.1,by (clear hn; grind)⟩) ⟨by grind,by grind⟩ (by grind) (by grind)
theorem Add.wH {a:F} (P:Pt F):Add a P (ng P) none:=by
 cases P with
 | none=>exact .zl
 | some p=>exact .DO (x:=p.1) (y:=p.2) (z:=-p.2) (by grind)
def O9 (a b:F):Prop:=(4:F)*a*a*a+27*b*b≠0∧(2:F)≠0
theorem Add.cancel {a b:F} (hr:O9 a b) {P Q R:Pt F} (hP:A1 a b P) (hQ:A1 a b Q) (h:Add a P Q R):Add a (ng P) R Q:=by
 cases h with
 | zl=>exact .zl
 | zr=>exact (Add.wH P).comm
 | @DO x y z e =>
  have:ng (some (x,y))=some (x,z):=by show some (x,-y)=_; rw [show -y=z by grind]
  rw [this]; exact .zr
 | @gen xA yA xB yB s X Y hn hs hX hY =>
  obtain ⟨s1,s2⟩:=hs
  have hP:yA*yA=xA*xA*xA+a*xA+b:=hP
  have hQ:yB*yB=xB*xB*xB+a*xB+b:=hQ
  have key:¬ (X-xA=0∧-yA+Y=0):=λ ⟨h1,h2⟩=>by
   have e1:yA=0:=by
    have h3:(2:F)*yA=0:=by grind
    rcases nt h3 with h | h
    · exact absurd h hr.2
    · exact h
   have e2:(3:F)*xA*xA+a=0:=by grind
   exact hr.1 (by grind)
  exact .gen (s:=-s) key ⟨by grind,two hn (by (clear hn; grind)) (by grind) |> λ h:(-s*(-yA+Y)-(xA*xA+xA*X+X*X+a))=0=>by grind⟩ (by grind) (by grind)
end
section
variable {F:Type} [Field F]
theorem Rt {a b xA yA xB yB xC yC s t u X Y:F} (hA:yA*yA=xA*xA*xA+a*xA+b) (hB:yB*yB=xB*xB*xB+a*xB+b) (hC:yC*yC=xC*xC*xC+a*xC+b)
 (hs:Sl a xA yA xB yB s) (ht:Sl a xB yB xC yC t) (hX:X=s*s-xA-xB) (hY:Y=s*(xA-X)-yA) (hu:Sl a X Y xC yC u)
 (n1:¬ (xC-X=0∧Y+yC=0)) (n2:¬ (xC-xB=0∧yB+yC=0)):(u+s)*(t-s)-(xC-xA)=0 :=
 four n1 n2 (Mx hA hB hC hs ht hX hY hu) (My hA hB hC hs ht hX hY hu) (Mz hA hB hC hs ht hX hY hu) (MA hA hB hC hs ht hX hY hu)
theorem Add.za {a:F} {P Q:Pt F} (h:Add a P Q none):Q=ng P:=by
 cases h with
 | zl=>rfl
 | zr=>rfl
 | @DO x y z e=>show _=some (x,-y); rw [show z=-y by grind]
section
variable {a b xA yA xB yB xC yC s t u v X Y X2 Y2 X3 Y3 X4 Y4:F}
theorem SI (L:(u+s)*(s-s)-(xC-xA)=0):xC=xA:=by grind
theorem SJ (s1:yB-yA=s*(xB-xA)) (t1:yC-yB=s*(xC-xB)) (h:xC=xA):yC=yA:=by grind
theorem SK (hX:X=s*s-xA-xB) (DV:X3=s*s-xB-xC) (h:xC=xA):X3=X:=by grind
theorem SM (s1:yB-yA=s*(xB-xA)) (hY:Y=s*(xA-X)-yA) (JO:Y3=s*(xB-X3)-yB) (h:X3=X):Y3=Y:=by grind
theorem SN (hu:yC-Y=u*(xC-X)) (hX2:X2=u*u-X-xC) (FZ:Y2=u*(X-X2)-Y) (Ic:X4=u*u-xC-X) (Gh:Y4=u*(xC-X4)-yC):X2=X4∧Y2=Y4:=⟨by grind,by grind⟩
theorem SO (L1:(u+s)*(t-s)-(xC-xA)=0) (L2:(v+t)*(s-t)-(xA-xC)=0) (h:t≠s):u+s=v+t:=by
 have:(t-s)*(u+s-(v+t))=0:=by grind
 rcases nt this with h1 | h1
 · exact absurd (by grind) h
 · grind
theorem SP (e:u+s=v+t) (L1:(u+s)*(t-s)-(xC-xA)=0) (hX:X=s*s-xA-xB) (hX2:X2=u*u-X-xC) (DV:X3=t*t-xB-xC) (Ic:X4=v*v-xA-X3):X2=X4:=by grind
theorem SQ (e:u+s=v+t) (L1:(u+s)*(t-s)-(xC-xA)=0) (s1:yB-yA=s*(xB-xA)) (t1:yC-yB=t*(xC-xB)) (u1:yC-Y=u*(xC-X)) (v1:Y3-yA=v*(X3-xA)) (hX:X=s*s-xA-xB) (hY:Y=s*(xA-X)-yA) (DV:X3=t*t-xB-xC) (JO:Y3=t*(xB-X3)-yB) (FZ:Y2=u*(X-X2)-Y) (Gh:Y4=v*(xA-X4)-yA) (h:X2=X4) (hX2:X2=u*u-X-xC) (ht:t≠s):Y2=Y4:=by
 have:(t-s)*(Y2-Y4)=0:=by (clear DV v1; grind)
 rcases nt this with h1 | h1
 · exact absurd (by grind) ht
 · (clear Gh FZ; grind)
theorem Add.JP (hP:yA*yA=xA*xA*xA+a*xA+b) (hQ:yB*yB=xB*xB*xB+a*xB+b) (hR:yC*yC=xC*xC*xC+a*xC+b)
 (n1:¬ (xB-xA=0∧yA+yB=0)) (hs:Sl a xA yA xB yB s) (hX:X=s*s-xA-xB) (hY:Y=s*(xA-X)-yA)
 (n2:¬ (xC-X=0∧Y+yC=0)) (hu:Sl a X Y xC yC u) (hX2:X2=u*u-X-xC) (FZ:Y2=u*(X-X2)-Y)
 (n3:¬ (xC-xB=0∧yB+yC=0)) (ht:Sl a xB yB xC yC t) (DV:X3=t*t-xB-xC) (JO:Y3=t*(xB-X3)-yB)
 (n4:¬ (X3-xA=0∧yA+Y3=0)) (hv:Sl a xA yA X3 Y3 v) (Ic:X4=v*v-xA-X3) (Gh:Y4=v*(xA-X4)-yA):X2=X4∧Y2=Y4:=by
 have L1:=Rt hP hQ hR hs ht hX hY hu n2 n3
 have L2:=Rt (a:=a) (b:=b) (xA:=xC) (yA:=yC) (xB:=xB) (yB:=yB) (xC:=xA) (yC:=yA) (s:=t) (t:=s) (u:=v) (X:=X3) (Y:=Y3) hR hQ hP ht.symm hs.symm (by clear L1; rw [DV]; grind) (by have t1:=ht.l; clear L1 hs ht hu hv; (clear n4; grind)) hv.symm (λ h=>n4 ⟨by have:=h.1; clear L1; grind,by have:=h.2; clear L1; grind⟩) (λ h=>n1 ⟨by have:=h.1; clear L1; grind,by have:=h.2; clear L1; grind⟩)
 by_cases hst:t=s
 · rw [hst] at L1 ht DV JO
   have e2:=SI L1
   have e3:=SJ hs.l ht.l e2
   have eX:=SK hX DV e2
   have eY:=SM hs.l hY JO eX
   rw [eX,eY,← e2,← e3] at hv
   rw [← e2,eX] at Ic
   rw [← e2,← e3] at Gh
   have e4:=Sl.uniq n2 hu hv.symm
   rw [← e4] at Ic Gh
   exact SN hu.l hX2 FZ Ic Gh
 · have e:=SO L1 L2 hst
   have e7:=SP e L1 hX hX2 DV Ic
   exact ⟨e7,SQ e L1 hs.l ht.l hu.l hv.l hX hY DV JO FZ Gh e7 hX2 hst⟩
end
theorem Add.assoc {a b:F} (hr:O9 a b) {P Q R U V T V':Pt F} (hP:A1 a b P) (hQ:A1 a b Q) (hR:A1 a b R) (h1:Add a P Q U) (h2:Add a U R V) (h3:Add a Q R T) (h4:Add a P T V'):V=V':=by
 have hU:=h1.PS hP hQ
 have hT:=h3.PS hQ hR
 cases P with
 | none=>have:=h1.uniq .zl; subst this; have:=h4.uniq .zl; subst this; exact h2.uniq h3
 | some p =>
 cases R with
 | none=>have:=h3.uniq .zr; subst this; have:=h2.uniq .zr; subst this; exact h1.uniq h4
 | some r =>
 cases Q with
 | none=>have:=h1.uniq .zr; subst this; have:=h3.uniq .zl; subst this; exact h2.uniq h4
 | some q =>
 cases U with
 | none =>
  have e:=h1.za
  have:=h2.uniq .zl
  subst this
  rw [e] at h3 hQ
  have h5:=Add.cancel hr hQ hR h3
  rw [vX] at h5
  exact (h4.uniq h5).symm
 | some u =>
 cases T with
 | none =>
  have e:=h3.za
  have:=h4.uniq .zr
  subst this
  have h5:=Add.cancel hr hQ hP h1.comm
  rw [← e] at h5
  exact h2.uniq h5.comm
 | some t =>
 cases V with
 | none =>
  have e:=h2.za
  have h5:=(Add.cancel hr hP hQ h1).neg
  rw [vX,← e] at h5
  have h6:=Add.cancel hr hR hP h5.comm
  have h7:=h6.neg
  rw [vX,vX] at h7
  have e2:=h3.uniq h7.comm
  rw [e2] at h4
  exact (h4.uniq (Add.wH _)).symm
 | some v =>
 cases V' with
 | none =>
  have e:=h4.za
  have h5:=(Add.cancel hr hR hQ h3.comm).neg
  rw [vX,e,vX] at h5
  have h6:=(Add.cancel hr hP hR h5.comm).neg
  rw [vX,vX] at h6
  have e2:=h1.uniq h6
  rw [e2] at h2
  exact (h2.uniq (Add.wH _).comm)
 | some v' =>
 obtain ⟨s,n1,hs,hX,hY⟩:=h1.inv
 obtain ⟨u',n2,hu,hX2,FZ⟩:=h2.inv
 obtain ⟨t',n3,ht,DV,JO⟩:=h3.inv
 obtain ⟨v',n4,hv,Ic,Gh⟩:=h4.inv
 have e:=Add.JP hP hQ hR n1 hs hX hY n2 hu hX2 FZ n3 ht DV JO n4 hv Ic Gh
 exact congrArg some (Prod.ext e.1 e.2)
end
section
variable {F:Type} [Field F]
def kF (X Y Z:F) (P:Pt F):Prop:=(Z=0∧P=none)∨(Z≠0∧∃ x y,P=some (x,y)∧X=x*Z*Z∧Y=y*Z*Z*Z)
theorem kF.mk {X Y Z:F} (hz:Z≠0):kF X Y Z (some (X*Z⁻¹*Z⁻¹,Y*Z⁻¹*Z⁻¹*Z⁻¹)):=by
 have h:Z*Z⁻¹=1:=Field.mul_inv_cancel hz
 exact .inr ⟨hz,_,_,rfl,by grind,by grind⟩
theorem bU {x y:F} (hx:x≠0) (hy:y≠0):x*y≠0:=λ h=>(nt h).elim hx hy
theorem PT {x:F} (h:x*x=0):x=0:=(nt h).elim id id
theorem vp {x y:F} (h:x-y=0):x=y:=by grind
theorem kF.dbl {a X Y Z M S T Y3 Z3:F} {P:Pt F} (h2:(2:F)≠0) (h:kF X Y Z P) (hz:Z≠0) (hy:Y≠0)
 (hM:M=3*(X*X)+a*(Z*Z)*(Z*Z)) (hS:S=4*X*(Y*Y)) (hT:T=M*M-2*S) (hY:Y3=M*(S-T)-8*(Y*Y)*(Y*Y)) (hZ:Z3=2*Y*Z) :
 Z3≠0∧∃ R,kF T Y3 Z3 R∧Add a P P R:=by
 rcases h with h | ⟨_,x,y,rfl,hX,ME⟩
 · exact absurd h.1 hz
 have PU:y≠0:=λ e=>hy (by rw [ME,e]; grind)
 have Gi:Z3≠0:=by rw [hZ]; exact bU (bU h2 hy) hz
 have hi:Z3*Z3⁻¹=1:=Field.mul_inv_cancel Gi
 refine ⟨Gi,_,kF.mk Gi,?_⟩
 generalize hw:Z3⁻¹=w at hi
 clear hw Gi
 have Ru:(2:F)*y≠0:=bU h2 PU
 obtain ⟨q,hq⟩:∃ q,q=Z*Z*Z*Z*w:=⟨_,rfl⟩
 have hq1:2*y*q=1:=by rw [hq,← hi,hZ,ME]; grind
 have eM:M*w=(3*x*x+a)*q:=by rw [hq,hM,hX]; grind
 have eS:S*w*w=x:=by
  have:S*w*w=x*(2*y*q)*(2*y*q):=by rw [hq,hS,hX,ME]; grind
  rw [this,hq1]; grind
 have e8:8*(Y*Y)*(Y*Y)*w*w*w=y:=by
  have:8*(Y*Y)*(Y*Y)*w*w*w=y*(2*y*q)*(2*y*q)*(2*y*q):=by rw [hq,ME]; grind
  rw [this,hq1]; grind
 have hs:(M*w)*(2*y)=3*x*x+a:=by rw [eM]; grind
 have eT:T*w*w=M*w*(M*w)-x-x:=by
  have:T*w*w=M*w*(M*w)-S*w*w-S*w*w:=by rw [hT]; clear hT hq hq1 eM eS e8 hs hi hM hS hY hZ; grind
  rw [this,eS]
 have eY:Y3*w*w*w=M*w*(x-T*w*w)-y:=by
  have:Y3*w*w*w=M*w*(S*w*w-T*w*w)-8*(Y*Y)*(Y*Y)*w*w*w:=by rw [hY]; clear hT hq hq1 eM eS e8 hs hi hM hS hY hZ eT; grind
  rw [this,eS,e8]
 exact .gen (s:=M*w) (λ h=>Ru (by (clear Ru; grind))) ⟨by grind,by grind⟩ eT eY
theorem kF.PV {a X Y Z:F} {P:Pt F} (h2:(2:F)≠0) (h:kF X Y Z P) (hy:Z=0∨Y=0):Add a P P none:=by
 rcases h with h | ⟨hz,x,y,rfl,hX,ME⟩
 · rw [h.2]; exact .zl
 rcases hy with hy | hy
 · exact absurd hy hz
 refine .DO ?_
 have h1:y*(Z*Z*Z)=0:=by grind
 rcases nt h1 with h | h
 · grind
 · exact absurd h (bU (bU hz hz) hz)
theorem kF.add {a X1 Y1 Z1 X2 Y2 Z2 U1 U2 S1 S2 H r X3 Y3 Z3:F} {P Q:Pt F} (hP:A1 a b P) (hQ:A1 a b Q) (h2:(2:F)≠0) (h:kF X1 Y1 Z1 P) (h':kF X2 Y2 Z2 Q) (hz1:Z1≠0) (hz2:Z2≠0)
 (PW:U1=X1*(Z2*Z2)) (Rv:U2=X2*(Z1*Z1)) (Rw:S1=Y1*Z2*(Z2*Z2)) (SR:S2=Y2*Z1*(Z1*Z1)) (hH:H=U2-U1) (hr:r=2*(S2-S1)) (hn:H≠0)
 (hX:X3=r*r-4*H*H*H-2*(U1*(4*H*H))) (hY:Y3=r*(U1*(4*H*H)-X3)-2*S1*(4*H*H*H)) (hZ:Z3=2*Z1*Z2*H) :
 Z3≠0∧∃ R,kF X3 Y3 Z3 R∧Add a P Q R:=by
 rcases h with h | ⟨_,x1,y1,rfl,Pa,PX⟩
 · exact absurd h.1 hz1
 rcases h' with h | ⟨_,x2,y2,rfl,hX2,FZ⟩
 · exact absurd h.1 hz2
 have Gi:Z3≠0:=by rw [hZ]; exact bU (bU (bU h2 hz1) hz2) hn
 have hi:Z3*Z3⁻¹=1:=Field.mul_inv_cancel Gi
 have hx:x2-x1≠0:=λ e=>hn (by rw [hH,Rv,PW,Pa,hX2]; grind)
 have hP:y1*y1=x1*x1*x1+a*x1+b:=hP
 have hQ:y2*y2=x2*x2*x2+a*x2+b:=hQ
 refine ⟨Gi,_,kF.mk Gi,?_⟩
 generalize hw:Z3⁻¹=w at hi
 clear hw Gi
 obtain ⟨q,hq⟩:∃ q,q=Z1*Z1*Z1*(Z2*Z2*Z2)*w:=⟨_,rfl⟩
 have eH:H=(x2-x1)*(Z1*Z1*(Z2*Z2)):=by rw [hH,Rv,PW,Pa,hX2]; grind
 have er:r=2*(y2-y1)*(Z1*Z1*Z1*(Z2*Z2*Z2)):=by rw [hr,SR,Rw,PX,FZ]; grind
 have hq1:2*(x2-x1)*q=1:=by rw [hq,← hi,hZ,eH]; grind
 have s0:r*w=2*(y2-y1)*q:=by rw [er,hq]; grind
 have s1:y2-y1=r*w*(x2-x1):=by rw [s0]; grind
 have s2:r*w*(y1+y2)=x1*x1+x1*x2+x2*x2+a:=by
  have h1:(x2-x1)*(r*w*(y1+y2)-(x1*x1+x1*x2+x2*x2+a))=0:=by (clear hY hX; grind)
  rcases nt h1 with h | h
  · exact absurd h hx
  · (clear s0 hY hX; grind)
 have eV:U1*(4*H*H)*w*w=x1:=by
  have:U1*(4*H*H)*w*w=x1*(2*(x2-x1)*q)*(2*(x2-x1)*q):=by rw [hq,PW,Pa,eH]; grind
  rw [this,hq1]; grind
 have eJ:4*H*H*H*w*w=x2-x1:=by
  have:4*H*H*H*w*w*(Z1*Z1*(Z2*Z2))=(x2-x1)*(2*(x2-x1)*q)*(2*(x2-x1)*q)*(Z1*Z1*(Z2*Z2)):=by rw [hq,eH]; grind
  rw [hq1] at this
  have hne:Z1*Z1*(Z2*Z2)≠0:=bU (bU hz1 hz1) (bU hz2 hz2)
  have h1:(4*H*H*H*w*w-(x2-x1))*(Z1*Z1*(Z2*Z2))=0:=by
   clear hX hY hZ hq hq1 s0 s1 s2 eV hi eH er hH hr hP hQ
   generalize 4*H*H*H*w*w=A at this ⊢
   generalize Z1*Z1*(Z2*Z2)=K at this ⊢
   grind
  rcases nt h1 with h | h
  · exact vp h
  · exact absurd h hne
 have e3:2*S1*(4*H*H*H)*w*w*w=y1:=by
  have:2*S1*(4*H*H*H)*w*w*w=y1*(2*(x2-x1)*q)*(2*(x2-x1)*q)*(2*(x2-x1)*q):=by rw [hq,Rw,PX,eH]; grind
  rw [this,hq1]; grind
 have eX:X3*w*w=r*w*(r*w)-x1-x2:=by
  have:X3*w*w=r*w*(r*w)-4*H*H*H*w*w-2*(U1*(4*H*H)*w*w):=by rw [hX]; clear hX hY hZ hq hq1 s0 s1 s2 eV eJ e3 hi eH er hH hr hP hQ; grind
  rw [this,eV,eJ]; clear hX hY hZ hq hq1 s0 s1 s2 eV eJ e3 hi eH er hH hr hP hQ this; grind
 have eY:Y3*w*w*w=r*w*(x1-X3*w*w)-y1:=by
  have:Y3*w*w*w=r*w*(U1*(4*H*H)*w*w-X3*w*w)-2*S1*(4*H*H*H)*w*w*w:=by rw [hY]; clear hX hY hZ hq hq1 s0 s1 s2 eV eJ e3 hi eH er hH hr hP hQ eX; grind
  rw [this,eV,e3]
 exact .gen (s:=r*w) (λ h=>hx h.1) ⟨s1,s2⟩ eX eY
theorem kF.MF {a b X1 Y1 Z1 X2 Y2 Z2:F} {P Q:Pt F} (hP:A1 a b P) (hQ:A1 a b Q) (h:kF X1 Y1 Z1 P) (h':kF X2 Y2 Z2 Q) (hz1:Z1≠0) (hz2:Z2≠0)
 (hH:X2*(Z1*Z1)=X1*(Z2*Z2)):(Y2*Z1*(Z1*Z1)=Y1*Z2*(Z2*Z2)∧P=Q)∨(Y2*Z1*(Z1*Z1)≠Y1*Z2*(Z2*Z2)∧Add a P Q none):=by
 rcases h with h | ⟨_,x1,y1,rfl,Pa,PX⟩
 · exact absurd h.1 hz1
 rcases h' with h | ⟨_,x2,y2,rfl,hX2,FZ⟩
 · exact absurd h.1 hz2
 have hP:y1*y1=x1*x1*x1+a*x1+b:=hP
 have hQ:y2*y2=x2*x2*x2+a*x2+b:=hQ
 have hne:Z1*Z1*Z2*Z2≠0:=bU (bU (bU hz1 hz1) hz2) hz2
 have ex:x2=x1:=by
  have h1:(x2-x1)*(Z1*Z1*Z2*Z2)=0:=by (clear hne left_1 hz2; grind)
  rcases nt h1 with h | h
  · grind
  · exact absurd h hne
 subst ex
 by_cases hy:y1=y2
 · subst hy; exact .inl ⟨by (clear left_1 hz2; grind),rfl⟩
 · refine .inr ⟨λ e=>hy ?_,.DO ?_⟩
   · have h1:(y2-y1)*(Z1*Z1*Z2*Z2*Z1*Z2)=0:=by (clear hy hne left_1 left hz2 hz1; grind)
     rcases nt h1 with h | h
     · grind
     · exact absurd h (bU (bU hne hz1) hz2)
   · have h1:(y1-y2)*(y1+y2)=0:=by grind
     rcases nt h1 with h | h
     · exact absurd (by grind) hy
     · exact h
end
noncomputable abbrev G:=Option (Int×Int)
noncomputable def inv (p n:Int):Int:=(n%p)^(p-2).toNat%p
noncomputable def plus (p a:Int):G→G→G
 | none,Q=>Q
 | some P,none=>some P
 | some P,some Q=>if P.1=Q.1∧(P.2+Q.2)%p=0 then none else
  some (((if P=Q then (3*P.1*P.1+a)*inv p (2*P.2)%p else (Q.2-P.2)*inv p (Q.1-P.1)%p)*(if P=Q then (3*P.1*P.1+a)*inv p (2*P.2)%p else (Q.2-P.2)*inv p (Q.1-P.1)%p)-P.1-Q.1)%p,
   ((if P=Q then (3*P.1*P.1+a)*inv p (2*P.2)%p else (Q.2-P.2)*inv p (Q.1-P.1)%p)*(P.1-((if P=Q then (3*P.1*P.1+a)*inv p (2*P.2)%p else (Q.2-P.2)*inv p (Q.1-P.1)%p)*(if P=Q then (3*P.1*P.1+a)*inv p (2*P.2)%p else (Q.2-P.2)*inv p (Q.1-P.1)%p)-P.1-Q.1)%p)-P.2)%p)
noncomputable def minus (p:Int):G→G
 | none=>none
 | some P=>some (P.1,(0-P.2)%p)
noncomputable def On (p a b:Int):G→Prop
 | none=>True
 | some P=>(0≤P.1∧P.1<p)∧(0≤P.2∧P.2<p)∧(P.2*P.2-(P.1*P.1*P.1+a*P.1+b))%p=0
noncomputable def Rep (p X Y Z:Int):G→Prop
 | none=>Z%p=0
 | some P=>Z%p≠0∧(X-P.1*Z*Z)%p=0∧(Y-P.2*Z*Z*Z)%p=0
structure Cv (p a b:Int):Prop where
 lo:5≤p
 hi:p≤101
 field:∃ (F:Type) (_:Field F),IsCharP F p.toNat
 mW:∀ n:Int,n%p≠0→(n*inv p n)%p=1
 PY:(4*a*a*a+27*b*b)%p≠0
noncomputable def c (F:Type) [Field F] (x:Int):F:=(Ring.intCast (α:=F)).intCast x
section
variable {F:Type} [Field F]
theorem vM (x y:Int):c F (x+y)=c F x+c F y:=Ring.intCast_add x y
theorem bP (x y:Int):c F (x-y)=c F x-c F y:=Ring.intCast_sub x y
theorem aS (x y:Int):c F (x*y)=c F x*c F y:=Ring.intCast_mul x y
theorem PZ (x:Int):c F (-x)=-c F x:=Ring.intCast_neg x
theorem Ie:c F 0=0:=Ring.intCast_ofNat 0
theorem B7:c F 1=1:=Ring.intCast_ofNat 1
theorem A2:c F 2=2:=Ring.intCast_ofNat 2
theorem Rx:c F 3=3:=Ring.intCast_ofNat 3
theorem MG:c F 4=4:=Ring.intCast_ofNat 4
theorem SS:c F 8=8:=Ring.intCast_ofNat 8
theorem JQ:c F 27=27:=Ring.intCast_ofNat 27
end
section
variable {F:Type} [Field F] {p:Nat} [IsCharP F p]
theorem c0 {x:Int}:(c F (x))=0↔x%p=0:=IsCharP.intCast_eq_zero_iff p x
theorem SV {x y:Int}:(c F (x))=(c F (y))↔x%p=y%p:=IsCharP.intCast_ext_iff p
theorem cmod (x:Int):c F (x%p)=c F x:=IsCharP.intCast_emod p x
theorem xq {x y:Int} (hx:0≤x∧x<p) (hy:0≤y∧y<p) (h:(c F (x))=(c F (y))):x=y:=by
 rw [SV (p:=p),Int.emod_eq_of_lt hx.1 hx.2,Int.emod_eq_of_lt hy.1 hy.2] at h
 exact h
noncomputable def Φ (F:Type) [Field F] (P:G):Pt F:=P.map λ q=>((c F (q.1)),(c F (q.2)))
theorem vN {a b:Int} {P Q:G} (hP:On p a b P) (hQ:On p a b Q) (h:Φ F P=Φ F Q):P=Q:=by
 cases P with
 | none=>cases Q with
  | none=>rfl
  | some q=>cases h
 | some r=>cases Q with
  | none=>cases h
  | some q =>
   injection h with h
   injection h with h1 h2
   have e1:=xq hP.1 hQ.1 h1
   have e2:=xq hP.2.1 hQ.2.1 h2
   rw [Prod.ext e1 e2]
theorem nj {a b:Int} {P:G} (h:On p a b P):A1 (c F a) (c F b) (Φ F P):=by
 cases P with
 | none=>trivial
 | some P =>
  have h:=h.2.2
  rw [← c0 (F:=F) (p:=p)] at h
  simp only [vM,bP,aS] at h
  show (c F (P.2))*(c F (P.2))=(c F (P.1))*(c F (P.1))*(c F (P.1))+(c F (a))*(c F (P.1))+(c F (b))
  grind
theorem Ig {a b:Int} {x y:Int} (hx:0≤x∧x<p) (hy:0≤y∧y<p) (h:A1 (c F a) (c F b) (Φ F (some (x,y)))):On p a b (some (x,y)):=by
 refine ⟨hx,hy,?_⟩
 rw [← c0 (F:=F) (p:=p)]
 have h:(c F (y))*(c F (y))=(c F (x))*(c F (x))*(c F (x))+(c F (a))*(c F (x))+(c F (b)):=h
 simp only [vM,bP,aS]
 grind
theorem c2 (h5:5≤p):(2:F)≠0:=λ h=>by
 have e:(2:F)=(c F (2)):=(A2).symm
 rw [e,c0 (p:=p)] at h
 have:(2:Int)%p=2:=Int.emod_eq_of_lt (by decide) (by lia)
 exact Lq.f (Lq.ls (Int.le_of_eq h) (by decide)) (Int.le_of_eq this.symm)
theorem SW {a b:Int} (h5:5≤p) (hd:(4*a*a*a+27*b*b)%(p:Int)≠0):O9 (c F a) (c F b):=by
 refine ⟨λ h=>hd ?_,c2 h5⟩
 rw [← c0 (F:=F) (p:=p)]
 simp only [vM,aS]
 have e:(c F (4))=4:=MG
 have e':(c F (27))=27:=JQ
 rw [e,e']; exact h
theorem MH (hf:∀ n:Int,n%p≠0→(n*inv p n)%p=1) {n:Int} (h:(c F (n))≠0):(c F (n))*(c F (inv p n))=1:=by
 have h1:=hf n λ e=>h (c0.mpr e)
 rw [← aS,← cmod (p:=p),h1]; exact B7
theorem wA (h5:5≤p) (x:Int):0≤x%p∧x%p<p:=⟨Int.emod_nonneg _ (by lia),Int.emod_lt_of_pos _ (by lia)⟩
theorem JR (h5:5≤p) {y z:Int}:((y+z)%p=0)↔(c F (y))+(c F (z))=0:=by rw [← c0 (F:=F) (p:=p),vM]
theorem iK {a b:Int} (h5:5≤p) (hf:∀ n:Int,n%p≠0→(n*inv p n)%p=1) {P Q:G} (hP:On p a b P) (hQ:On p a b Q):Add (c F a) (Φ F P) (Φ F Q) (Φ F (plus p a P Q))∧On p a b (plus p a P Q):=by
 cases P with
 | none=>exact ⟨.zl,hQ⟩
 | some P =>
 cases Q with
 | none=>exact ⟨.zr,hP⟩
 | some Q =>
 have oP:=nj (F:=F) hP
 have oQ:=nj (F:=F) hQ
 obtain ⟨x1,y1⟩:=P
 obtain ⟨x2,y2⟩:=Q
 by_cases h:x1=x2∧(y1+y2)%(p:Int)=0
 · rw [show plus p a (some (x1,y1)) (some (x2,y2))=none from if_pos h]
   obtain ⟨h1,h2⟩:=h
   subst h1
   exact ⟨.DO ((JR h5).mp h2),trivial⟩
 · rw [show plus p a (some (x1,y1)) (some (x2,y2))=_ from if_neg h]
   dsimp only
   generalize hs:(if ((x1,y1):Int×Int)=(x2,y2) then (3*x1*x1+a)*inv p (2*y1)%(p:Int) else (y2-y1)*inv p (x2-x1)%(p:Int))=s
   have hn:¬ ((c F (x2))-(c F (x1))=0∧(c F (y1))+(c F (y2))=0):=λ ⟨e1,e2⟩=>h ⟨(xq (F:=F) hP.1 hQ.1 (by grind)),(JR h5).mpr e2⟩
   have sl:Sl (c F a) (c F (x1)) (c F (y1)) (c F (x2)) (c F (y2)) (c F (s)):=by
    have oP:(c F (y1))*(c F (y1))=(c F (x1))*(c F (x1))*(c F (x1))+(c F (a))*(c F (x1))+(c F (b)):=oP
    have oQ:(c F (y2))*(c F (y2))=(c F (x2))*(c F (x2))*(c F (x2))+(c F (a))*(c F (x2))+(c F (b)):=oQ
    by_cases e:((x1,y1):Int×Int)=(x2,y2)
    · rw [if_pos e] at hs
      injection e with e1 e2
      subst e1 e2
      have SX:(c F (2*y1))≠0:=λ e=>hn ⟨by grind,by
       rw [aS] at e
       have e2:(c F (2))=2:=A2
       rw [e2] at e; grind⟩
      have hi:=MH hf SX
      have es:(c F (s))=(3*(c F (x1))*(c F (x1))+(c F (a)))*(c F (inv p (2*y1))):=by
       rw [← hs,cmod]
       simp only [vM,aS]
       have e3:(c F (3))=3:=Rx
       rw [e3]
      rw [aS] at hi
      have e2:(c F (2))=2:=A2
      rw [e2] at hi
      exact ⟨by grind,by rw [es]; clear es hs hn h hP hQ oP oQ; grind⟩
    · rw [if_neg e] at hs
      have hx:(c F (x2-x1))≠0:=λ e1=>by
       rw [bP] at e1
       have e2:x1=x2:=xq (F:=F) hP.1 hQ.1 (by grind)
       subst e2
       have h3:((c F (y1))-(c F (y2)))*((c F (y1))+(c F (y2)))=0:=by grind
       rcases nt h3 with h4 | h4
       · have e5:y1=y2:=xq (F:=F) hP.2.1 hQ.2.1 (vp h4)
         exact e (by rw [e5])
       · exact hn ⟨by omega,h4⟩
      have hi:=MH hf hx
      have es:(c F (s))=((c F (y2))-(c F (y1)))*(c F (inv p (x2-x1))):=by
       rw [← hs,cmod]
       simp only [bP,aS]
      rw [bP] at hi hx
      have s1:(c F (y2))-(c F (y1))=(c F (s))*((c F (x2))-(c F (x1))):=by rw [es]; clear es hs hn h hP hQ oP oQ; grind
      refine ⟨s1,?_⟩
      have h1:((c F (x2))-(c F (x1)))*((c F (s))*((c F (y1))+(c F (y2)))-((c F (x1))*(c F (x1))+(c F (x1))*(c F (x2))+(c F (x2))*(c F (x2))+(c F (a))))=0:=by clear es hs hn h hP hQ hi; grind
      rcases nt h1 with h | h
      · exact absurd h hx
      · exact vp h
   have ad:Add (c F a) (Φ F (some (x1,y1))) (Φ F (some (x2,y2))) (Φ F (some ((s*s-x1-x2)%p,(s*(x1-(s*s-x1-x2)%p)-y1)%p))) :=
    .gen (s:=(c F (s))) hn sl (by dsimp only; rw [cmod]; simp only [bP,aS]) (by dsimp only; rw [cmod]; simp only [bP,aS])
   exact ⟨ad,Ig (wA h5 _) (wA h5 _) (ad.PS oP oQ)⟩
theorem xr {a b:Int} (h5:5≤p) {P:G} (hP:On p a b P):Φ F (minus p P)=ng (Φ F P)∧On p a b (minus p P):=by
 cases P with
 | none=>exact ⟨rfl,trivial⟩
 | some P =>
  have e:Φ F (minus p (some P))=ng (Φ F (some P)):=by
   show some ((c F (P.1)),(c F ((0-P.2)%p)))=some ((c F (P.1)),-(c F (P.2)))
   rw [cmod,bP,Ie]
   have:(0:F)-(c F (P.2))=-(c F (P.2)):=by grind
   rw [this]
  refine ⟨e,Ig (F:=F) hP.1 (wA h5 _) ?_⟩
  have:=JN (nj (F:=F) hP)
  rw [← e] at this
  exact this
theorem vq {a b X Y Z:Int} {P:G} (hP:On p a b P):Rep p X Y Z P↔kF (c F X) (c F Y) (c F Z) (Φ F P):=by
 cases P with
 | none =>
  constructor
  · intro h; exact .inl ⟨(c0 (F:=F) (p:=p)).mpr h,rfl⟩
  · intro h
    rcases h with h | ⟨_,x,y,h,_⟩
    · exact (c0 (F:=F) (p:=p)).mp h.1
    · cases h
 | some P =>
  obtain ⟨x,y⟩:=P
  constructor
  · intro ⟨h1,h2,h3⟩
    refine .inr ⟨λ e=>h1 ((c0 (F:=F) (p:=p)).mp e),_,_,rfl,?_,?_⟩
    · have:=(c0 (F:=F) (p:=p)).mpr h2
      simp only [bP,aS] at this
      exact vp this
    · have:=(c0 (F:=F) (p:=p)).mpr h3
      simp only [bP,aS] at this
      exact vp this
  · intro h
    rcases h with h | ⟨hz,x',y',e,h1,h2⟩
    · cases h.2
    · injection e with e
      injection e with e1 e2
      subst e1 e2
      refine ⟨λ e=>hz ((c0 (F:=F) (p:=p)).mpr e),(c0 (F:=F) (p:=p)).mp ?_,(c0 (F:=F) (p:=p)).mp ?_⟩
      · simp only [bP,aS]; rw [h1]; grind
      · simp only [bP,aS]; rw [h2]; grind
end
set_option linter.unusedSimpArgs false
section
variable {F:Type} [Field F]
theorem kF.Gj {X Y Z l:F} {P:Pt F} (hl:l≠0) (h:kF (l*l*X) (l*l*l*Y) (l*Z) P):kF X Y Z P:=by
 rcases h with ⟨h1,h2⟩ | ⟨h1,x,y,h2,h3,h4⟩
 · refine .inl ⟨?_,h2⟩
   rcases nt h1 with h | h
   · exact absurd h hl
   · exact h
 · refine .inr ⟨λ e=>h1 (by rw [e]; grind),x,y,h2,?_,?_⟩
   · have h5:(l*l)*(X-x*Z*Z)=0:=by (clear h1 hl; grind)
     rcases nt h5 with h | h
     · exact absurd h (bU hl hl)
     · exact vp h
   · have h5:(l*l*l)*(Y-y*Z*Z*Z)=0:=by (clear h1 hl; grind)
     rcases nt h5 with h | h
     · exact absurd h (bU (bU hl hl) hl)
     · exact vp h
end
theorem Gk (x:Int):x^(2:Int).toNat=x*x:=by
 show x^2=x*x
 rw [Int.pow_succ,Int.pow_succ,Int.pow_zero,Int.one_mul]
theorem SY (x:Int):x^(3:Int).toNat=x*x*x:=by
 show x^3=x*x*x
 rw [Int.pow_succ,Int.pow_succ,Int.pow_succ,Int.pow_zero,Int.one_mul]
section
variable {p a b:Int}
theorem Cv.go (C:Cv p a b) {q:Prop} (h:∀ (n:Nat) (F:Type) (_:Field F) (_:IsCharP F n),p=(n:Int)→5≤n→(2:F)≠0→O9 (c F a) (c F b)→q):q:=by
 obtain ⟨F,fi,hc⟩:=C.field
 have h5:=C.lo
 have hd:=C.PY
 obtain ⟨n,hn⟩:=Int.eq_ofNat_of_zero_le (show 0≤p by exact Lq.ll (by decide) h5)
 subst hn
 rw [Int.toNat_natCast] at hc
 exact h n F fi hc rfl (Lq.Jk h5) (c2 (F:=F) (p:=n) (Lq.Jk h5)) (SW (F:=F) (p:=n) (Lq.Jk h5) hd)
theorem cU (C:Cv p a b) {P Q:G} (hP:On p a b P) (hQ:On p a b Q):On p a b (plus p a P Q):=C.go λ n F _ _ e h5 _ _=>by
 subst e; exact (iK (F:=F) h5 C.mW hP hQ).2
theorem bQ (C:Cv p a b) {P:G} (hP:On p a b P):On p a b (minus p P):=C.go λ n F _ _ e h5 _ _=>by
 subst e; exact (xr (F:=F) h5 hP).2
theorem yE (C:Cv p a b) {P Q:G} (hP:On p a b P) (hQ:On p a b Q):plus p a P Q=plus p a Q P:=C.go λ n F _ _ e h5 _ _=>by
 subst e
 exact vN (F:=F) (cU C hP hQ) (cU C hQ hP) ((iK (F:=F) h5 C.mW hP hQ).1.uniq (iK (F:=F) h5 C.mW hQ hP).1.comm)
theorem qz (C:Cv p a b) {P:G} (hP:On p a b P):plus p a P (minus p P)=none:=C.go λ n F _ _ e h5 _ _=>by
 subst e
 have h:=(iK (F:=F) h5 C.mW hP (bQ C hP)).1
 rw [(xr (F:=F) h5 hP).1] at h
 exact vN (F:=F) (Q:=none) (cU C hP (bQ C hP)) trivial (h.uniq (Add.wH _))
theorem kP (C:Cv p a b) {P Q R:G} (hP:On p a b P) (hQ:On p a b Q) (hR:On p a b R):plus p a (plus p a P Q) R=plus p a P (plus p a Q R):=C.go λ n F _ _ e h5 _ hr=>by
 subst e
 have Ry:=cU C hP hQ
 have ho2:=cU C hQ hR
 exact vN (F:=F) (cU C Ry hR) (cU C hP ho2)
  (Add.assoc hr (nj hP) (nj hQ) (nj hR) (iK (F:=F) h5 C.mW hP hQ).1 (iK (F:=F) h5 C.mW Ry hR).1 (iK (F:=F) h5 C.mW hQ hR).1 (iK (F:=F) h5 C.mW hP ho2).1)
theorem A7 {n:Nat} {F:Type} [Field F] [IsCharP F n] (C:Cv (n:Int) a b) (h5:5≤n) {P Q:G} (hP:On n a b P) (hQ:On n a b Q) {X Y Z:Int} (h:∃ R,kF (c F X) (c F Y) (c F Z) R∧Add (c F a) (Φ F P) (Φ F Q) R):Rep n X Y Z (plus n a P Q):=by
 obtain ⟨R,h1,h2⟩:=h
 have h3:=iK (F:=F) h5 C.mW hP hQ
 rw [h2.uniq h3.1] at h1
 exact (vq (F:=F) h3.2).mpr h1
theorem none_of {n:Nat} {F:Type} [Field F] [IsCharP F n] (C:Cv (n:Int) a b) (h5:5≤n) {P Q:G} (hP:On n a b P) (hQ:On n a b Q) (h:Add (c F a) (Φ F P) (Φ F Q) none):plus n a P Q=none:=by
 have h3:=iK (F:=F) h5 C.mW hP hQ
 exact vN (F:=F) (Q:=none) h3.2 trivial (h3.1.uniq h)
theorem zb (C:Cv p a b) {P:G} (hP:On p a b P) {X1 Y1 Z1 XX YY yk ZZ S M T Y3 Z3:Int} (h:Rep p X1 Y1 Z1 P) (e1:XX=X1*X1%p) (e2:YY=Y1*Y1%p) (e3:yk=YY*YY%p) (e4:ZZ=Z1*Z1%p)
 (e5:S=2*((X1+YY)^(2:Int).toNat-XX-yk)%p) (e6:M%p=(3*XX+a*ZZ*ZZ)%p) (e7:T=(M*M-2*S)%p) (e8:Y3=(M*(S-T)-8*yk)%p) (e9:Z3=((Y1+Z1)^(2:Int).toNat-YY-ZZ)%p) :
 (YY=0→plus p a P P=none)∧(YY≠0→Z1%p≠0→Rep p T Y3 Z3 (plus p a P P)):=C.go λ n F _ _ en h5 h2 _=>by
 subst en
 rw [vq (F:=F) hP] at h
 have f2:c F YY=c F Y1*c F Y1:=by rw [e2]; simp only [cmod,aS]
 refine ⟨λ hy=>?_,λ hy hz=>?_⟩
 · refine none_of (F:=F) C h5 hP hP (kF.PV h2 h (.inr ?_))
   rw [hy,Ie] at f2
   exact PT f2.symm
 · have hy1:c F Y1≠0:=λ e=>hy (by
    have:c F YY=c F 0:=by rw [f2,e,Ie]; grind
    have h0:=wA h5 (Y1*Y1)
    rw [← e2] at h0
    exact xq (F:=F) h0 ⟨Int.le_refl 0,Lq.ls h0.1 h0.2⟩ this)
   have hz1:c F Z1≠0:=λ e=>hz ((c0 (F:=F)).mp e)
   have f1:c F XX=c F X1*c F X1:=by rw [e1]; simp only [cmod,aS]
   have f3:c F yk=c F YY*c F YY:=by rw [e3]; simp only [cmod,aS]
   have f4:c F ZZ=c F Z1*c F Z1:=by rw [e4]; simp only [cmod,aS]
   have f5:c F S=2*((c F X1+c F YY)*(c F X1+c F YY)-c F XX-c F yk):=by rw [e5,Gk]; simp only [cmod,aS,bP,vM,A2]
   have f6:c F M=3*c F XX+c F a*c F ZZ*c F ZZ:=by
    rw [← cmod (p:=n) M,e6]; simp only [cmod,aS,bP,vM,Rx]
   have f7:c F T=c F M*c F M-2*c F S:=by rw [e7]; simp only [cmod,aS,bP,vM,A2]
   have f8:c F Y3=c F M*(c F S-c F T)-8*c F yk:=by rw [e8]; simp only [cmod,aS,bP,vM,SS]
   have f9:c F Z3=(c F Y1+c F Z1)*(c F Y1+c F Z1)-c F YY-c F ZZ:=by rw [e9,Gk]; simp only [cmod,aS,bP,vM]
   exact A7 (F:=F) C h5 hP hP (kF.dbl h2 h hz1 hy1 (S:=c F S) (M:=c F M) (by first | (rw [f6,f1,f4]; done) | (rw [f6,f1,f4]; grind)) (by rw [f5,f1,f3,f2]; grind) f7 (by rw [f8,f3,f2]; grind) (by rw [f9,f2,f4]; grind)).2
theorem B8 (C:Cv p a b) {P:G} (hP:On p a b P) {X1 Y1 XX YY yk S M T Y3 Z3:Int} (h:Rep p X1 Y1 1 P) (e1:XX=X1*X1%p) (e2:YY=Y1*Y1%p) (e3:yk=YY*YY%p)
 (e5:S=2*((X1+YY)^(2:Int).toNat-XX-yk)%p) (e6:M=3*XX+a) (e7:T=(M*M-2*S)%p) (e8:Y3=(M*(S-T)-8*yk)%p) (e9:Z3=2*Y1%p) :
 (YY=0→plus p a P P=none)∧(YY≠0→Rep p T Y3 Z3 (plus p a P P)):=by
 have h5:=C.lo
 have h1:(1:Int)%p=1:=Int.emod_eq_of_lt (by decide) (by lia)
 have H:=zb C hP (ZZ:=1) (S:=S) (M:=M) (T:=T) (Y3:=Y3) (Z3:=((Y1+1)^(2:Int).toNat-YY-1)%p) h e1 e2 e3 (by rw [Int.one_mul,h1]) e5 (by rw [e6]; simp) e7 e8 rfl
 refine ⟨H.1,λ hy=>?_⟩
 have H2:=H.2 hy (by rw [h1]; exact Lq.y (by decide))
 have:((Y1+1)^(2:Int).toNat-YY-1)%p=Z3:=by
  rw [e9,e2,Gk]
  have e':=Int.mul_ediv_add_emod (Y1*Y1) p
  have e3:(Y1+1)*(Y1+1)=Y1*Y1+2*Y1+1:=by grind
  have MI:(Y1+1)*(Y1+1)-Y1*Y1%p-1=2*Y1+p*(Y1*Y1 / p):=by lia
  rw [MI,Int.add_mul_emod_self_left]
 rwa [this] at H2
theorem A8 {n:Nat} {F:Type} [Field F] [IsCharP F n] (C:Cv (n:Int) a b) (h5:5≤n) (h2:(2:F)≠0) {P Q:G} (hP:On n a b P) (hQ:On n a b Q) {X1 Y1 Z1 X2 Y2 Z2 X3 Y3 Z3:Int} {H r:F} (h:Rep n X1 Y1 Z1 P) (h':Rep n X2 Y2 Z2 Q) (hz1:Z1%n≠0) (hz2:Z2%n≠0)
 (hH:H=c F X2*(c F Z1*c F Z1)-c F X1*(c F Z2*c F Z2)) (hr:r=2*(c F Y2*c F Z1*(c F Z1*c F Z1)-c F Y1*c F Z2*(c F Z2*c F Z2)))
 (hX:c F X3=r*r-4*H*H*H-2*(c F X1*(c F Z2*c F Z2)*(4*H*H))) (hY:c F Y3=r*(c F X1*(c F Z2*c F Z2)*(4*H*H)-c F X3)-2*(c F Y1*c F Z2*(c F Z2*c F Z2))*(4*H*H*H)) (hZ:c F Z3=2*c F Z1*c F Z2*H) :
 (H=0→r=0→P=Q)∧(¬ (H=0∧r=0)→Rep n X3 Y3 Z3 (plus n a P Q)):=by
 rw [vq (F:=F) hP] at h
 rw [vq (F:=F) hQ] at h'
 have g1:c F Z1≠0:=λ e=>hz1 ((c0 (F:=F)).mp e)
 have g2:c F Z2≠0:=λ e=>hz2 ((c0 (F:=F)).mp e)
 by_cases h0:H=0
 · have h0':c F X2*(c F Z1*c F Z1)=c F X1*(c F Z2*c F Z2):=vp (by rw [← hH]; exact h0)
   have A:=kF.MF (nj hP) (nj hQ) h h' g1 g2 h0'
   refine ⟨λ _ hr0=>?_,λ hn=>?_⟩
   · rcases A with A | A
     · exact vN hP hQ A.2
     · refine absurd ?_ A.1
       rw [hr] at hr0
       rcases nt hr0 with e | e
       · exact absurd e h2
       · exact vp e
   · rcases A with A | A
     · refine absurd ⟨h0,?_⟩ hn
       rw [hr,A.1]; (clear hH; grind)
     · rw [none_of (F:=F) C h5 hP hQ A.2]
       refine (c0 (F:=F) (p:=n)).mp ?_
       rw [hZ,h0]; grind
 · refine ⟨λ e=>absurd e h0,λ _=>?_⟩
   exact A7 (F:=F) C h5 hP hQ (kF.add (nj hP) (nj hQ) h2 h h' g1 g2 rfl rfl rfl rfl hH hr h0 hX hY hZ).2
theorem tM (C:Cv p a b):(1:Int)%p≠0:=by
 have h5:=C.lo
 have h1:(1:Int)%p=1:=Int.emod_eq_of_lt (by decide) (by lia)
 lia
theorem vO {n:Nat} {F:Type} [Field F] [IsCharP F n] {x:Int} (h:0≤x∧x<n):c F x=0↔x=0:=by
 constructor
 · intro e
   rw [c0 (p:=n)] at e
   rw [← e,Int.emod_eq_of_lt h.1 h.2]
 · intro e; rw [e,Ie]
theorem B9 (C:Cv p a b) {P Q:G} (hP:On p a b P) (hQ:On p a b Q) {X1 Y1 Z1 X2 Y2 Z2 DP LK U1 U2 S1 S2 H I J r V X3 Y3 Z3:Int} (h:Rep p X1 Y1 Z1 P) (h':Rep p X2 Y2 Z2 Q) (hz1:Z1%p≠0) (hz2:Z2%p≠0)
 (e1:DP=Z1*Z1%p) (e2:LK=Z2*Z2%p) (e3:U1=X1*LK%p) (e4:U2=X2*DP%p) (e5:S1=Y1*Z2*LK%p) (e6:S2=Y2*Z1*DP%p) (e7:H=U2-U1) (e8:I=4*H*H%p) (e9:J=H*I%p) (Ii:r=2*(S2-S1)%p) (LL:V=U1*I)
 (JS:X3=(r*r-J-2*V)%p) (MJ:Y3=(r*(V-X3)-2*S1*J)%p) (MK:Z3=((Z1+Z2)^(2:Int).toNat-DP-LK)*H%p) :
 (H=0→r=0→P=Q)∧(¬ (H=0∧r=0)→Rep p X3 Y3 Z3 (plus p a P Q)):=C.go λ n F _ _ en h5 h2 _=>by
 subst en
 have f1:c F DP=c F Z1*c F Z1:=by rw [e1]; simp only [cmod,aS]
 have f2:c F LK=c F Z2*c F Z2:=by rw [e2]; simp only [cmod,aS]
 have f3:c F U1=c F X1*(c F Z2*c F Z2):=by rw [e3]; simp only [cmod,aS,f2]
 have f4:c F U2=c F X2*(c F Z1*c F Z1):=by rw [e4]; simp only [cmod,aS,f1]
 have f5:c F S1=c F Y1*c F Z2*(c F Z2*c F Z2):=by rw [e5]; simp only [cmod,aS,f2]
 have f6:c F S2=c F Y2*c F Z1*(c F Z1*c F Z1):=by rw [e6]; simp only [cmod,aS,f1]
 have f7:c F H=c F X2*(c F Z1*c F Z1)-c F X1*(c F Z2*c F Z2):=by rw [e7,bP,f4,f3]
 have f8:c F I=4*c F H*c F H:=by rw [e8]; simp only [cmod,aS,MG]
 have f9:c F J=c F H*c F I:=by rw [e9]; simp only [cmod,aS]
 have S0:c F r=2*(c F Y2*c F Z1*(c F Z1*c F Z1)-c F Y1*c F Z2*(c F Z2*c F Z2)):=by rw [Ii]; simp only [cmod,aS,bP,A2,f5,f6]
 have JT:c F V=c F U1*c F I:=by rw [LL,aS]
 have K:=A8 (F:=F) (H:=c F H) (r:=c F r) C h5 h2 hP hQ (X3:=X3) (Y3:=Y3) (Z3:=Z3) h h' hz1 hz2 f7 S0 (by rw [JS,← f3]; simp only [cmod,bP,aS,A2,f9,JT,f8]; grind) (by rw [MJ,← f3,← f5]; simp only [cmod,bP,aS,A2,f9,JT,f8]; grind) (by rw [MK,Gk]; simp only [cmod,bP,aS,vM,f1,f2]; grind)
 have hu1:=wA h5 (X1*LK)
 have Rz:=wA h5 (X2*DP)
 rw [← e3] at hu1
 rw [← e4] at Rz
 have k1:c F H=0↔H=0:=by
  constructor
  · intro e
    rw [e7,bP] at e
    have:=xq (F:=F) Rz hu1 (vp e)
    (clear e4 e3; lia)
  · intro e; rw [e,Ie]
 have hr:=wA h5 (2*(S2-S1))
 rw [← Ii] at hr
 rw [k1,vO hr] at K
 exact K
theorem Ca (C:Cv p a b) {P Q:G} (hP:On p a b P) (hQ:On p a b Q) {X1 Y1 Z1 X2 Y2 DP U2 S2 H HH I J r V X3 Y3 Z3:Int} (h:Rep p X1 Y1 Z1 P) (h':Rep p X2 Y2 1 Q) (hz1:Z1%p≠0)
 (e1:DP=Z1*Z1%p) (e4:U2=X2*DP%p) (e6:S2=Y2*Z1*DP%p) (e7:H=(U2-X1)%p) (e8:HH=H*H%p) (e9:I=4*HH%p) (Ii:J=H*I) (LL:r=2*(S2-Y1)%p) (JS:V=X1*I)
 (MJ:X3=(r*r-J-2*V)%p) (MK:Y3=(r*(V-X3)-2*Y1*J)%p) (P4:Z3=((Z1+H)^(2:Int).toNat-DP-HH)%p) :
 (r=0→H=0→P=Q)∧(¬ (r=0∧H=0)→Rep p X3 Y3 Z3 (plus p a P Q)):=C.go λ n F _ _ en h5 h2 _=>by
 subst en
 have f1:c F DP=c F Z1*c F Z1:=by rw [e1]; simp only [cmod,aS]
 have f4:c F U2=c F X2*(c F Z1*c F Z1):=by rw [e4]; simp only [cmod,aS,f1]
 have f6:c F S2=c F Y2*c F Z1*(c F Z1*c F Z1):=by rw [e6]; simp only [cmod,aS,f1]
 have f7:c F H=c F X2*(c F Z1*c F Z1)-c F X1:=by rw [e7]; simp only [cmod,bP,f4]
 have f8:c F HH=c F H*c F H:=by rw [e8]; simp only [cmod,aS]
 have f9:c F I=4*c F HH:=by rw [e9]; simp only [cmod,aS,MG]
 have JT:c F r=2*(c F Y2*c F Z1*(c F Z1*c F Z1)-c F Y1):=by rw [LL]; simp only [cmod,aS,bP,A2,f6]
 have K:=A8 (F:=F) (H:=c F H) (r:=c F r) C h5 h2 hP hQ (X3:=X3) (Y3:=Y3) (Z3:=Z3) h h' hz1 (tM C) (by rw [f7,B7]; grind) (by rw [JT,B7]; grind) (by rw [MJ]; simp only [cmod,bP,aS,A2,B7,Ii,JS,f9,f8]; grind) (by rw [MK]; simp only [cmod,bP,aS,A2,B7,Ii,JS,f9,f8]; grind) (by rw [P4,Gk]; simp only [cmod,bP,aS,vM,B7,f1,f8]; grind)
 have hr:=wA h5 (2*(S2-Y1))
 rw [← LL] at hr
 have hh:=wA h5 (U2-X1)
 rw [← e7] at hh
 rw [vO hr,vO hh] at K
 exact ⟨λ x y=>K.1 y x,λ z=>K.2 λ ⟨x,y⟩=>z ⟨y,x⟩⟩
theorem DW (C:Cv p a b) {P Q:G} (hP:On p a b P) (hQ:On p a b Q) {X1 Y1 X2 Y2 H HH I J r V X3 Y3 Z3:Int} (h:Rep p X1 Y1 1 P) (h':Rep p X2 Y2 1 Q) (hok:(X2-X1)%p=0→(Y2-Y1)%p=0→X1=X2∧Y1=Y2)
 (e7:H=X2-X1) (e8:HH=H*H) (e9:I=4*HH%p) (Ii:J=H*I) (LL:r=2*(Y2-Y1)) (JS:V=X1*I)
 (MJ:X3=(r^(2:Int).toNat-J-2*V)%p) (MK:Y3=(r*(V-X3)-2*Y1*J)%p) (P4:Z3=2*H%p) :
 (H=0→r=0→P=Q)∧(¬ (H=0∧r=0)→Rep p X3 Y3 Z3 (plus p a P Q)):=C.go λ n F _ _ en h5 h2 _=>by
 subst en
 have f7:c F H=c F X2-c F X1:=by rw [e7]; simp only [bP]
 have f8:c F HH=c F H*c F H:=by rw [e8]; simp only [aS]
 have f9:c F I=4*c F HH:=by rw [e9]; simp only [cmod,aS,MG]
 have JT:c F r=2*(c F Y2-c F Y1):=by rw [LL]; simp only [aS,bP,A2]
 have K:=A8 (F:=F) (H:=c F H) (r:=c F r) C h5 h2 hP hQ (X3:=X3) (Y3:=Y3) (Z3:=Z3) h h' (tM C) (tM C) (by rw [f7,B7]; grind) (by rw [JT,B7]; grind) (by rw [MJ,Gk]; simp only [cmod,bP,aS,A2,B7,Ii,JS,f9,f8]; grind) (by rw [MK]; simp only [cmod,bP,aS,A2,B7,Ii,JS,f9,f8]; grind) (by rw [P4]; simp only [cmod,aS,B7,A2]; grind)
 refine ⟨λ x y=>K.1 (by rw [x,Ie]) (by rw [y,Ie]),λ z=>K.2 λ ⟨x,y⟩=>z ?_⟩
 have hx:(X2-X1)%(n:Int)=0:=(c0 (F:=F)).mp (by rw [bP,← f7]; exact x)
 have hy:(Y2-Y1)%(n:Int)=0:=(c0 (F:=F)).mp (by
  rw [bP]; rw [JT] at y
  rcases nt y with e | e
  · exact absurd e h2
  · exact e)
 obtain ⟨k1,k2⟩:=hok hx hy
 exact ⟨by lia,by lia⟩
theorem Cb (C:Cv p a b) {P Q:G} (hP:On p a b P) (hQ:On p a b Q) {X1 Y1 Z1 X2 Y2 A B CC D X3 Y3 Z3:Int} (h:Rep p X1 Y1 Z1 P) (h':Rep p X2 Y2 Z1 Q) (hz1:Z1%p≠0)
 (e1:A=(X2-X1)^(2:Int).toNat%p) (e2:B=X1*A%p) (e3:CC=X2*A) (e4:D=(Y2-Y1)^(2:Int).toNat%p) (e5:X3=(D-B-CC)%p) (e6:Y3=((Y2-Y1)*(B-X3)-Y1*(CC-B))%p) (e7:Z3=Z1*(X2-X1)%p) :
 (A=0→D=0→P=Q)∧(¬ (A=0∧D=0)→Rep p X3 Y3 Z3 (plus p a P Q)):=C.go λ n F _ _ en h5 h2 _=>by
 subst en
 have g1:c F Z1≠0:=λ e=>hz1 ((c0 (F:=F)).mp e)
 have f1:c F A=(c F X2-c F X1)*(c F X2-c F X1):=by rw [e1,Gk]; simp only [cmod,aS,bP]
 have f4:c F D=(c F Y2-c F Y1)*(c F Y2-c F Y1):=by rw [e4,Gk]; simp only [cmod,aS,bP]
 have f2:c F B=c F X1*c F A:=by rw [e2]; simp only [cmod,aS]
 have f3:c F CC=c F X2*c F A:=by rw [e3,aS]
 have f5:c F X3=c F D-c F B-c F CC:=by rw [e5]; simp only [cmod,bP]
 have f6:c F Y3=(c F Y2-c F Y1)*(c F B-c F X3)-c F Y1*(c F CC-c F B):=by rw [e6]; simp only [cmod,aS,bP]
 have f7:c F Z3=c F Z1*(c F X2-c F X1):=by rw [e7]; simp only [cmod,aS,bP]
 have hA:c F A=0↔A=0:=vO (by rw [e1]; exact wA h5 _)
 have hD:c F D=0↔D=0:=vO (by rw [e4]; exact wA h5 _)
 rw [vq (F:=F) hP] at h
 rw [vq (F:=F) hQ] at h'
 by_cases h0:c F X2-c F X1=0
 · have h0':c F X2*(c F Z1*c F Z1)=c F X1*(c F Z1*c F Z1):=by rw [vp h0]
   have A':=kF.MF (nj hP) (nj hQ) h h' g1 g1 h0'
   refine ⟨λ _ hd=>?_,λ hn=>?_⟩
   · rcases A' with A' | A'
     · exact vN hP hQ A'.2
     · refine absurd ?_ A'.1
       have:=PT (f4.symm.trans (hD.mpr hd))
       rw [vp this]
   · rcases A' with A' | A'
     · refine absurd ⟨hA.mp (by rw [f1,h0]; grind),hD.mp ?_⟩ hn
       have h3:(c F Y2-c F Y1)*(c F Z1*(c F Z1*c F Z1))=0:=by have:=A'.1; clear A' h h' f1 f2 f3 f4 f5 f6 f7; grind
       rcases nt h3 with e | e
       · rw [f4,e]; grind
       · exact absurd e (bU g1 (bU g1 g1))
     · rw [none_of (F:=F) C h5 hP hQ A'.2]
       refine (c0 (F:=F) (p:=n)).mp ?_
       rw [f7,h0]; grind
 · refine ⟨λ e=>absurd (PT (f1.symm.trans (hA.mpr e))) h0,λ _=>?_⟩
   have hH:c F X2*(c F Z1*c F Z1)-c F X1*(c F Z1*c F Z1)≠0:=by
    have:c F X2*(c F Z1*c F Z1)-c F X1*(c F Z1*c F Z1)=(c F X2-c F X1)*(c F Z1*c F Z1):=by clear h h' f1 f2 f3 f4 f5 f6 f7; grind
    rw [this]; exact bU h0 (bU g1 g1)
   obtain ⟨_,R,r1,r2⟩:=kF.add (nj hP) (nj hQ) h2 h h' g1 g1 rfl rfl rfl rfl rfl rfl hH rfl rfl rfl
   refine A7 (F:=F) C h5 hP hQ ⟨R,kF.Gj (l:=2*(c F Z1*c F Z1*c F Z1)) (bU h2 (bU (bU g1 g1) g1)) ?_,r2⟩
   have k1:(2*(c F Z1*c F Z1*c F Z1))*(2*(c F Z1*c F Z1*c F Z1))*c F X3=(2*(c F Y2*c F Z1*(c F Z1*c F Z1)-c F Y1*c F Z1*(c F Z1*c F Z1)))*(2*(c F Y2*c F Z1*(c F Z1*c F Z1)-c F Y1*c F Z1*(c F Z1*c F Z1)))-4*(c F X2*(c F Z1*c F Z1)-c F X1*(c F Z1*c F Z1))*(c F X2*(c F Z1*c F Z1)-c F X1*(c F Z1*c F Z1))*(c F X2*(c F Z1*c F Z1)-c F X1*(c F Z1*c F Z1))-2*(c F X1*(c F Z1*c F Z1)*(4*(c F X2*(c F Z1*c F Z1)-c F X1*(c F Z1*c F Z1))*(c F X2*(c F Z1*c F Z1)-c F X1*(c F Z1*c F Z1)))):=by
    rw [f5,f2,f3,f4,f1]; clear r1 r2 h h' f1 f2 f3 f4 f5 f6 f7; grind
   rw [← k1] at r1
   have k2:(2*(c F Z1*c F Z1*c F Z1))*(2*(c F Z1*c F Z1*c F Z1))*(2*(c F Z1*c F Z1*c F Z1))*c F Y3=(2*(c F Y2*c F Z1*(c F Z1*c F Z1)-c F Y1*c F Z1*(c F Z1*c F Z1)))*(c F X1*(c F Z1*c F Z1)*(4*(c F X2*(c F Z1*c F Z1)-c F X1*(c F Z1*c F Z1))*(c F X2*(c F Z1*c F Z1)-c F X1*(c F Z1*c F Z1)))-2*(c F Z1*c F Z1*c F Z1)*(2*(c F Z1*c F Z1*c F Z1))*c F X3)-2*(c F Y1*c F Z1*(c F Z1*c F Z1))*(4*(c F X2*(c F Z1*c F Z1)-c F X1*(c F Z1*c F Z1))*(c F X2*(c F Z1*c F Z1)-c F X1*(c F Z1*c F Z1))*(c F X2*(c F Z1*c F Z1)-c F X1*(c F Z1*c F Z1))):=by
    rw [f6,f2,f3,f1]; clear r1 r2 h h' f1 f2 f3 f4 f5 f6 f7 k1; grind
   rw [← k2] at r1
   have k3:(2*(c F Z1*c F Z1*c F Z1))*c F Z3=2*c F Z1*c F Z1*(c F X2*(c F Z1*c F Z1)-c F X1*(c F Z1*c F Z1)):=by
    rw [f7]; clear r1 r2 h h' f1 f2 f3 f4 f5 f6 f7 k1 k2; grind
   rw [← k3] at r1
   exact r1
end
noncomputable def zZ (p a:Int) (P:G):Nat→G
 | 0=>none
 | n+1=>plus p a (zZ p a P n) P
noncomputable def mul (p a:Int) (k:Int) (P:G):G:=if k<0 then zZ p a (minus p P) (-k).toNat else zZ p a P k.toNat
section
variable {p a b:Int}
theorem iT (P:G):plus p a P none=P:=by cases P<;>rfl
theorem CS (P:G):plus p a none P=P:=rfl
theorem wJ (C:Cv p a b) {P:G} (hP:On p a b P):∀ n,On p a b (zZ p a P n)
 | 0=>trivial
 | n+1=>cU C (wJ C hP n) hP
theorem bD (C:Cv p a b) {P:G} (hP:On p a b P) (k:Int):On p a b (mul p a k P):=by
 unfold mul; split
 · exact wJ C (bQ C hP) _
 · exact wJ C hP _
theorem tN (C:Cv p a b) {P:G} (hP:On p a b P):plus p a (minus p P) P=none:=by rw [yE C (bQ C hP) hP,qz C hP]
theorem qk (C:Cv p a b) {P Q:G} (hP:On p a b P) (hQ:On p a b Q) (h:plus p a P Q=none):Q=minus p P:=by
 have:=kP C (bQ C hP) hP hQ
 rw [h,tN C hP,CS,iT] at this
 exact this
theorem vY (C:Cv p a b) {P:G} (hP:On p a b P):minus p (minus p P)=P:=(qk C (bQ C hP) hP (tN C hP)).symm
theorem mul_zero (P:G):mul p a 0 P=none:=rfl
theorem mul_ofNat (n:Nat) (P:G):mul p a n P=zZ p a P n:=by unfold mul; rw [if_neg (Int.not_lt.mpr (Lq.z _))]; rfl
theorem mul_succ (C:Cv p a b) {P:G} (hP:On p a b P) (k:Int):mul p a (k+1) P=plus p a (mul p a k P) P:=by
 by_cases h:k<0
 · obtain ⟨n,hn⟩:∃ n:Nat,k=-((n:Int)+1):=⟨(-k-1).toNat,by lia⟩
   subst hn
   have e1:mul p a (-((n:Int)+1)) P=zZ p a (minus p P) (n+1):=by
    unfold mul; rw [if_pos (by omega)]
    congr 1<;>omega
   have e2:mul p a (-((n:Int)+1)+1) P=zZ p a (minus p P) n:=by
    cases n with
    | zero=>rfl
    | succ m =>
     unfold mul; rw [if_pos (by omega)]
     congr 1<;>omega
   rw [e1,e2]
   show _=plus p a (plus p a _ (minus p P)) P
   rw [kP C (wJ C (bQ C hP) n) (bQ C hP) hP,tN C hP,iT]
 · obtain ⟨n,rfl⟩:=Int.eq_ofNat_of_zero_le (show 0≤k by exact Lq.n h)
   have:((n:Int)+1)=((n+1:Nat):Int):=rfl
   rw [this,mul_ofNat,mul_ofNat]; rfl
theorem mul_pred (C:Cv p a b) {P:G} (hP:On p a b P) (k:Int):mul p a (k-1) P=plus p a (mul p a k P) (minus p P):=by
 have h:=mul_succ C hP (k-1)
 rw [Int.sub_add_cancel] at h
 rw [h,kP C (bD C hP _) hP (bQ C hP),qz C hP,iT]
theorem mul_one (P:G):mul p a 1 P=P:=rfl
theorem mul_add (C:Cv p a b) {P:G} (hP:On p a b P) (j k:Int):mul p a (j+k) P=plus p a (mul p a j P) (mul p a k P):=by
 have up:∀ n:Nat,mul p a (j+n) P=plus p a (mul p a j P) (mul p a n P):=by
  intro n
  induction n with
  | zero=>rw [show j+((0:Nat):Int)=j by lia]; exact (iT _).symm
  | succ n ih =>
   rw [show j+((n+1:Nat):Int)=(j+n)+1 by lia,mul_succ C hP,ih,show ((n+1:Nat):Int)=(n:Int)+1 by lia,mul_succ C hP,kP C (bD C hP _) (bD C hP _) hP]
 have down:∀ n:Nat,mul p a (j-n) P=plus p a (mul p a j P) (mul p a (-(n:Int)) P):=by
  intro n
  induction n with
  | zero=>rw [show j-((0:Nat):Int)=j by lia]; exact (iT _).symm
  | succ n ih =>
   rw [show j-((n+1:Nat):Int)=(j-n)-1 by lia,mul_pred C hP,ih,show -((n+1:Nat):Int)=-(n:Int)-1 by lia,mul_pred C hP,kP C (bD C hP _) (bD C hP _) (bQ C hP)]
 by_cases h:0≤k
 · obtain ⟨n,rfl⟩:=Int.eq_ofNat_of_zero_le h
   exact up n
 · obtain ⟨n,hn⟩:∃ n:Nat,k=-(n:Int):=⟨(-k).toNat,by lia⟩
   subst hn
   exact down n
theorem mul_neg (C:Cv p a b) {P:G} (hP:On p a b P) (k:Int):mul p a (-k) P=minus p (mul p a k P):=by
 refine qk C (bD C hP k) (bD C hP _) ?_
 rw [← mul_add C hP,Int.add_right_neg,mul_zero]
theorem A9 (P:G):mul p a (-1) P=minus p P:=rfl
theorem z5 (C:Cv p a b) (k:Int):mul p a k none=none:=by
 have h:∀ n,zZ p a none n=none:=λ n=>by
  induction n with
  | zero=>rfl
  | succ n ih=>show plus p a _ none=none; rw [ih]; rfl
 unfold mul; split
 · exact h _
 · exact h _
theorem kg (C:Cv p a b) {P:G} (hP:On p a b P) (j k:Int):mul p a (j*k) P=mul p a j (mul p a k P):=by
 have up:∀ n:Nat,mul p a (n*k) P=mul p a n (mul p a k P):=by
  intro n
  induction n with
  | zero=>rw [show ((0:Nat):Int)*k=0 by simp]; rfl
  | succ n ih =>
   rw [show ((n+1:Nat):Int)*k=n*k+k by rw [show ((n+1:Nat):Int)=(n:Int)+1 by lia,Int.add_mul,Int.one_mul],mul_add C hP,ih,show ((n+1:Nat):Int)=(n:Int)+1 by lia,mul_succ C (bD C hP k)]
 by_cases h:0≤j
 · obtain ⟨n,rfl⟩:=Int.eq_ofNat_of_zero_le h
   exact up n
 · obtain ⟨n,hn⟩:∃ n:Nat,j=-(n:Int):=⟨(-j).toNat,by lia⟩
   subst hn
   rw [Int.neg_mul,mul_neg C hP,mul_neg C (bD C hP k),up]
theorem yF (C:Cv p a b) {P:G} (hP:On p a b P) (k:Int):plus p a (mul p a k P) (mul p a k P)=mul p a (2*k) P:=by rw [← mul_add C hP]; congr 1; lia
structure Od (p a n:Int) (P:G):Prop where
 pos:0<n
 zero:mul p a n P=Option.none
 least:∀ k,0<k→k<n→mul p a k P≠Option.none
theorem Od.mod (C:Cv p a b) {P:G} (hP:On p a b P) {n:Int} (h:mul p a n P=none) (k:Int):mul p a (k%n) P=mul p a k P:=by
 have e:=Int.emod_add_mul_ediv k n
 have:mul p a k P=mul p a (k%n+(k / n)*n) P:=by rw [Int.mul_comm (k / n)]; rw [e]
 rw [this,mul_add C hP,kg C hP,h,z5 C,iT]
theorem Od.dvd (C:Cv p a b) {P:G} (hP:On p a b P) {n:Int} (o:Od p a n P) {k:Int}:mul p a k P=Option.none↔k%n=0:=by
 have h1:=Int.emod_nonneg k (Int.ne_of_gt o.pos)
 have h2:=Int.emod_lt_of_pos k o.pos
 rw [← Od.mod C hP o.zero k]
 constructor
 · intro h
   rcases Int.lt_or_eq_of_le h1 with h3 | h3
   · exact absurd h (o.least _ h3 h2)
   · exact h3.symm
 · intro h; rw [h]; rfl
theorem CT (C:Cv p a b) {P Q:G} (hP:On p a b P) (hQ:On p a b Q) (h:plus p a P (minus p Q)=none):P=Q:=by
 have:=qk C hP (bQ C hQ) h
 rw [← vY C hQ,this,vY C hP]
theorem Od.eq (C:Cv p a b) {P:G} (hP:On p a b P) {n:Int} (o:Od p a n P) {j k:Int}:mul p a j P=mul p a k P↔(j-k)%n=0:=by
 rw [← Od.dvd C hP o,Int.sub_eq_add_neg,mul_add C hP,mul_neg C hP]
 constructor
 · intro h; rw [h]; exact qz C (bD C hP k)
 · intro h; exact CT C (bD C hP j) (bD C hP k) h
theorem Od.quot (C:Cv p a b) {P:G} (hP:On p a b P) {n m:Int} (o:Od p a n P) (hm:0<m) (hd:n%m=0):Od p a m (mul p a (n / m) P):=by
 have e:m*(n / m)=n:=Int.mul_ediv_cancel' (Int.dvd_of_emod_eq_zero hd)
 have hq:0<n / m:=by
  rcases Int.lt_or_le 0 (n / m) with h | h
  · exact h
  · have:=o.pos
    have h2:m*(n / m)≤0:=Int.mul_nonpos_of_nonneg_of_nonpos (Lq.w hm) h
    lia
 refine ⟨hm,?_,λ k h1 h2 h=>?_⟩
 · rw [← kg C hP,e]; exact o.zero
 · rw [← kg C hP] at h
   refine o.least (k*(n / m)) (Int.mul_pos h1 hq) ?_ h
   have:=Int.mul_lt_mul_of_pos_right h2 hq
   omega
end
theorem Gl (n:Nat) (h2:2≤n) (hi:∀ a:Nat,0<a→a<n→∃ b:Nat,a*b%n=1):∃ (F:Type) (_:Field F),IsCharP F n:=by
 have nz:NeZero n:=⟨by lia⟩
 have hinv:∀ a:Fin n,a≠0→∃ b:Fin n,a*b=1:=λ a ha=>by
  obtain ⟨b,hb⟩:=hi a.val (by
   rcases Nat.eq_zero_or_pos a.val with h | h
   · exact absurd (Fin.ext (by rw [h]; rfl)) ha
   · exact h) a.isLt
  refine ⟨⟨b%n,Nat.mod_lt _ (by lia)⟩,Fin.ext ?_⟩
  show (a.val*(b%n))%n=(1:Fin n).val
  rw [Nat.mul_mod,Nat.mod_mod,← Nat.mul_mod,hb]
  show 1=1%n
  rw [Nat.mod_eq_of_lt (by lia)]
 have one:(0:Fin n)≠1:=λ e=>by
  have:=congrArg Fin.val e
  have h0:(0:Fin n).val=0%n:=rfl
  have h1:(1:Fin n).val=1%n:=rfl
  rw [h0,h1,Nat.zero_mod,Nat.mod_eq_of_lt (by lia)] at this
  exact Lq.f (by decide) (Lq.cl (Nat.le_of_eq this.symm))
 let iv:Fin n→Fin n:=λ a=>if h:a=0 then 0 else Classical.choose (hinv a h)
 have P5:iv 0=0:=dif_pos rfl
 have Pb:∀ a:Fin n,a≠0→a*iv a=1:=λ a h=>by
  show a*(if h:a=0 then 0 else Classical.choose (hinv a h))=1
  rw [dif_neg h]; exact Classical.choose_spec (hinv a h)
 let zp:Fin n→Int→Fin n:=λ a k=>match k with
  | .ofNat m=>a^m
  | .negSucc m=>iv (a^(m+1))
 have i1:iv 1=1:=by
  have:=Pb 1 (Ne.symm one)
  rw [Semiring.one_mul] at this
  exact this
 have S3:∀ a,iv (iv a)=a:=λ a=>by
  by_cases h:a=0
  · rw [h,P5,P5]
  · have h1:=Pb a h
    have h2:iv a≠0:=λ e=>by rw [e,Semiring.mul_zero] at h1; exact one h1
    have h3:=Pb _ h2
    calc iv (iv a)=1*iv (iv a):=(Semiring.one_mul _).symm
     _=(a*iv a)*iv (iv a):=by rw [h1]
     _=a*(iv a*iv (iv a)):=Semiring.mul_assoc _ _ _
     _=a:=by rw [h3,Semiring.mul_one]
 refine ⟨Fin n,{ toCommRing:=inferInstance,inv:=iv,div:=λ a b=>a*iv b,zpow:=⟨zp⟩,div_eq_mul_inv:=λ _ _=>rfl,zero_ne_one:=one,inv_zero:=P5,mul_inv_cancel:=λ {a} h=>Pb a h,zpow_zero:=λ a=>Semiring.pow_zero a,zpow_succ:=λ a m=>Semiring.pow_succ a m,zpow_neg:=λ a m=>?_ },(inferInstance:IsCharP (Fin n) n)⟩
 show zp a (-m)=iv (zp a m)
 match m with
 | .ofNat 0=>show a^0=iv (a^0); rw [Semiring.pow_zero,i1]
 | .ofNat (k+1)=>rfl
 | .negSucc k=>show a^(k+1)=iv (iv (a^(k+1))); rw [S3]
noncomputable def xu (n:Nat):Bool:=(List.range n).all λ a=>a==0||(a*(a^(n-2)%n)%n==1)
theorem yG {n:Nat} (h2:2≤n) (h:xu n=true) (k:Int) (hk:k%n≠0):(k*inv n k)%n=1:=by
 unfold xu at h
 rw [List.all_eq_true] at h
 obtain ⟨m,hm⟩:=Int.eq_ofNat_of_zero_le (Int.emod_nonneg k (show (n:Int)≠0 by lia))
 have hlt:m<n:=by have:=Int.emod_lt_of_pos k (show (0:Int)<n by lia); lia
 have:=h m (List.mem_range.mpr hlt)
 rw [Bool.or_eq_true,beq_iff_eq,beq_iff_eq] at this
 rcases this with e | e
 · rw [e] at hm; exact absurd hm hk
 · unfold inv
   have e2:((n:Int)-2).toNat=n-2:=by lia
   rw [e2,Int.mul_emod,hm,Int.emod_emod]
   have e3:((m:Int)*((m:Int)^(n-2)%(n:Int)))%(n:Int)=((m*(m^(n-2)%n)%n:Nat):Int):=by
    rw [Int.natCast_emod,Int.natCast_mul,Int.natCast_emod,Int.natCast_pow]
   rw [e3,e]; rfl
noncomputable def iN:List Nat:=[5,7,11,13,17,19,23,29,31,37,41,43,47,53,59,61,67,71,73,79,83,89,97,101]
theorem CU:(iN.all λ n=>Nat.ble 5 n&&Nat.ble n 101&&xu n&&!(54%n==0))=true:=by decide +kernel
theorem xw {n:Nat} (h:n∈iN):5≤n∧n≤101∧xu n=true∧54%n≠0:=by
 have:=List.all_eq_true.mp CU n h
 simp only [Bool.and_eq_true,Nat.ble_eq,Bool.not_eq_true',beq_eq_false_iff_ne] at this
 exact ⟨this.1.1.1,this.1.1.2,this.1.2,this.2⟩
theorem z6 {n:Nat} (h2:2≤n) (h:xu n=true):∃ (F:Type) (_:Field F),IsCharP F n :=
 Gl n h2 λ a h0 h1=>⟨a^(n-2)%n,by
  have:=List.all_eq_true.mp h a (List.mem_range.mpr h1)
  rw [Bool.or_eq_true,beq_iff_eq,beq_iff_eq] at this
  rcases this with e | e
  · lia
  · exact e⟩
theorem Cv.of {p a b:Int} (hp:p.toNat∈iN) (hd:(4*a*a*a+27*b*b)%p≠0):Cv p a b:=by
 obtain ⟨h1,h2,h3,_⟩:=xw hp
 have e:p=(p.toNat:Int):=by lia
 refine ⟨(Lq.ll (Lq.cl h1) (Int.le_of_eq e.symm)),Lq.ll (Int.le_of_eq e) (Lq.cl h2),z6 (Lq.qy (by decide) h1) h3,λ n hn=>?_,hd⟩
 rw [e] at hn ⊢
 exact yG (Lq.qy (by decide) h1) h3 n hn
theorem ML {p a b:Int} (hp:p.toNat∈iN) (h0:(4*a*a*a+27*b*b)%p=0) (h1:(4*a*a*a+27*((b+1)%p)*((b+1)%p))%p=0) :
 (4*a*a*a+27*(((b+1)%p+1)%p)*(((b+1)%p+1)%p))%p≠0:=by
 obtain ⟨l1,l2,l3,l4⟩:=xw hp
 obtain ⟨n,hn⟩:∃ n:Nat,p=n:=⟨p.toNat,by lia⟩
 subst hn
 rw [Int.toNat_natCast] at *
 obtain ⟨F,fi,hc⟩:=z6 (Lq.qy (by decide) l1) l3
 intro h2
 rw [← c0 (F:=F) (p:=n)] at h0 h1 h2
 simp only [vM,aS,cmod,B7,MG,JQ] at h0 h1 h2
 have:c F 54=0:=by
  have e:c F 54=c F 27*c F 2:=by rw [← aS]; rfl
  rw [e,JQ,A2]; grind
 rw [c0 (p:=n)] at this
 exact l4 (by exact_mod_cast this)
theorem Cc {p a b:Int} (C:Cv p a b) {P:G} (hP:On p a b P) {X Y Z:Int} (h:Rep p X Y Z P):Rep p (X%p) (Y%p) (Z%p) P:=C.go λ n F _ _ e h5 _ _=>by
 subst e
 rw [vq (F:=F) hP] at h ⊢
 rw [cmod,cmod,cmod]; exact h
theorem sC {p a b:Int} (C:Cv p a b) {P:G} (hP:On p a b P) {X Y Z:Int} (h:Rep p X Y Z P) (hz:Z%p=0):P=none:=by
 cases P with
 | none=>rfl
 | some P=>exact absurd hz h.1
noncomputable def dg (m:Int):Int:=if m%2=1 then 2-m%4 else 0
theorem MM {a r:Int} (e:r=a%2) (h:r≠0):dg a=2-a%4:=if_pos ((Int.emod_two_eq a).resolve_left λ z=>h (e.trans z))
theorem P6 {a r s:Int} (e:r=a%2) (h:r≠0) (es:s=a%4) (g:2≤s):a%4=3∧s-4=dg a:=by
 have z:a%4=3:=by subst e es; lia
 rw [MM e h,es,z]; exact ⟨rfl,rfl⟩
theorem P7 {a r s:Int} (e:r=a%2) (h:r≠0) (es:s=a%4) (g:¬ 2≤s):a%4=1∧s=dg a:=by
 have z:a%4=1:=by subst e es; lia
 rw [MM e h,es,z]; exact ⟨rfl,rfl⟩
structure Eu (p a found before rest divisor:Int):Prop where
 r0:0<rest
 rp:rest≤p
 d0:0≤divisor
 dp:divisor≤p
 f:(found*a-rest)%p=0
 b:(before*a-divisor)%p=0
 g:∀ g:Int,g∣rest→g∣divisor→g∣1
theorem Eu.start {p a:Int} (hp:1<p) (hi:∃ b,(a*b)%p=1):Eu p a 0 1 p (a%p):=by
 have h1:=Int.emod_nonneg a (show p≠0 by exact Lq.y (Lq.ls (by decide) hp))
 have h2:=Int.emod_lt_of_pos a (show 0<p by exact Lq.ls (by decide) hp)
 refine ⟨(Lq.ls (by decide) hp),Int.le_refl _,h1,Lq.w h2,?_,?_,λ g h3 h4=>?_⟩
 · rw [Int.zero_mul]; simp
 · rw [Int.one_mul,Int.sub_emod,Int.emod_emod,Int.sub_self]; rfl
 · obtain ⟨b,hb⟩:=hi
   have h5:g∣a:=(Int.dvd_iff_dvd_of_dvd_sub ?_).mp h4
   · have h6:g∣a*b:=Int.dvd_mul_of_dvd_left h5
     have e:=Int.emod_add_mul_ediv (a*b) p
     rw [hb] at e
     have h7:g∣p*(a*b / p):=Int.dvd_mul_of_dvd_left h3
     rw [← e] at h6
     exact (Int.dvd_add_left h7).mp h6
   · have e:=Int.emod_add_mul_ediv a p
     have:a%p-a=p*(-(a / p)):=by rw [Int.mul_neg]; lia
     rw [this]; exact Int.dvd_mul_of_dvd_left h3
theorem Eu.step {p a f b r d:Int} (h:Eu p a f b r d) (h0:d≠0):Eu p a b (f-r / d*b) d (r-r / d*d)∧(r-r / d*d).toNat<d.toNat:=by
 have hd:0<d:=by have:=h.d0; exact Lq.LQ this h0
 have e:=Int.emod_add_mul_ediv r d
 have e2:r-r / d*d=r%d:=by rw [Int.mul_comm (r / d)]; lia
 have h1:=Int.emod_nonneg r h0
 have h2:=Int.emod_lt_of_pos r hd
 refine ⟨⟨hd,h.dp,Lq.ll h1 (Int.le_of_eq e2.symm),by have:=h.dp; exact Lq.w (Lq.sl (Lq.ls (Int.le_of_eq e2) h2) this),h.b,?_,λ g h3 h4=>?_⟩,by lia⟩
 · have e3:(f-r / d*b)*a-(r-r / d*d)=(f*a-r)-r / d*(b*a-d):=by grind
   rw [e3,Int.sub_emod,h.f,Int.mul_emod,h.b]; simp
 · refine h.g g ?_ h3
   have h5:g∣r / d*d:=by rw [Int.mul_comm]; exact Int.dvd_mul_of_dvd_left h3
   have:=Int.dvd_add h4 h5
   rwa [Int.sub_add_cancel] at this
theorem Eu.last {p a f b r d:Int} (h:Eu p a f b r d) (hp:1<p) (h0:d=0):r=1∧(f%p*a)%p=1:=by
 have h1:r∣1:=h.g r (Int.dvd_refl r) (by rw [h0]; exact Int.dvd_zero r)
 have h2:=Int.le_of_dvd (by decide) h1
 have h3:r=1:=by have:=h.r0; lia
 refine ⟨h3,?_⟩
 have h4:=h.f
 rw [h3] at h4
 have h5:(f*a)%p=1%p:=by
  have:=Int.emod_emod_of_dvd (f*a) (Int.dvd_refl p)
  have e:=Int.emod_add_mul_ediv (f*a-1) p
  rw [h4] at e
  have:f*a=1+p*((f*a-1) / p):=by (clear this h4 h3 h2 h1 h0 hp; omega)
  rw [this,Int.add_mul_emod_self_left]
 rw [Int.mul_emod,Int.emod_emod,← Int.mul_emod,h5,Int.emod_eq_of_lt (by decide) hp]
section
variable {p a b x y z u v r:Int}
theorem DX (C:Cv p a b) (hP:On p a b (some (u,v))) (hr:Rep p x y 1 (some (u,v))) (hx:0≤x∧x<p):x=u:=by
 have h:=hr.2.1
 simp only [Int.mul_one] at h
 have:=hP.1
 have e:=Int.emod_eq_emod_iff_emod_sub_eq_zero.mpr h
 rwa [Int.emod_eq_of_lt hx.1 hx.2,Int.emod_eq_of_lt this.1 this.2] at e
theorem DY (C:Cv p a b) (hP:On p a b (some (u,v))) (hr:Rep p x y 1 (some (u,v))) (hy:0≤y∧y<p):y=v:=by
 have h:=hr.2.2
 simp only [Int.mul_one] at h
 have:=hP.2.1
 have e:=Int.emod_eq_emod_iff_emod_sub_eq_zero.mpr h
 rwa [Int.emod_eq_of_lt hy.1 hy.2,Int.emod_eq_of_lt this.1 this.2] at e
theorem Cd (C:Cv p a b) {e w:Int} (hw:0≤w∧w<p) (h:∀ (n:Nat) (F:Type) (_:Field F) (_:IsCharP F n),p=(n:Int)→c F e=c F w):e%p=w:=C.go λ n F _ _ en h5 _ _=>by
 subst en
 exact xq (F:=F) (wA h5 e) hw (by rw [cmod]; exact h n F _ ‹_› rfl)
theorem zc {n:Nat} {F:Type} [Field F] [IsCharP F n] (hr:Rep n x y z (some (u,v))) (hi:(r*z)%(n:Int)=1):c F x=c F u*c F z*c F z∧c F y=c F v*c F z*c F z*c F z∧c F r*c F z=1:=by
 refine ⟨?_,?_,?_⟩
 · have:=(c0 (F:=F) (p:=n)).mpr hr.2.1
   simp only [bP,aS] at this
   exact vp this
 · have:=(c0 (F:=F) (p:=n)).mpr hr.2.2
   simp only [bP,aS] at this
   exact vp this
 · rw [← aS,← cmod (p:=n),hi,B7]
theorem MN (C:Cv p a b) (hP:On p a b (some (u,v))) (hr:Rep p x y z (some (u,v))) (hi:(r*z)%p=1):(x*r^(2:Int).toNat)%p=u:=Cd C hP.1 λ n F _ _ en=>by
 subst en
 obtain ⟨e1,e2,e3⟩:=zc (F:=F) hr hi
 rw [Gk]; simp only [aS]; rw [e1]; clear e1 e2; grind
theorem MO (C:Cv p a b) (hP:On p a b (some (u,v))) (hr:Rep p x y z (some (u,v))) (hi:(r*z)%p=1):(y*r^(3:Int).toNat)%p=v:=Cd C hP.2.1 λ n F _ _ en=>by
 subst en
 obtain ⟨e1,e2,e3⟩:=zc (F:=F) hr hi
 rw [SY]; simp only [aS]; rw [e2]; clear e1 e2; grind
theorem JU (C:Cv p a b) (hP:On p a b (some (u,v))) (hr:Rep p x y z (some (u,v))) (hi:(r*z)%p=1):(x*(r*r%p))%p=u:=Cd C hP.1 λ n F _ _ en=>by
 subst en
 obtain ⟨e1,e2,e3⟩:=zc (F:=F) hr hi
 simp only [aS,cmod]; rw [e1]; clear e1 e2; grind
theorem JV (C:Cv p a b) (hP:On p a b (some (u,v))) (hr:Rep p x y z (some (u,v))) (hi:(r*z)%p=1):(y*(r*r%p)*r)%p=v:=Cd C hP.2.1 λ n F _ _ en=>by
 subst en
 obtain ⟨e1,e2,e3⟩:=zc (F:=F) hr hi
 simp only [aS,cmod]; rw [e2]; clear e1 e2; grind
end
section
variable {p a b:Int}
theorem Gm (C:Cv p a b) {P R:G} (hP:On p a b P) (hR:On p a b R) {X Y X' Y':Int} (h:Rep p X Y 1 P) (h':Rep p X' Y' 1 R) (hx:(X'-X)%p=0) (hy:(Y'-Y)%p=0):P=R:=C.go λ n F _ _ e h5 _ _=>by
 subst e
 rw [← c0 (F:=F) (p:=n),bP] at hx hy
 have one:c F 1≠0:=λ e=>tM C ((c0 (F:=F) (p:=n)).mp e)
 cases P with
 | none=>exact absurd h (tM C)
 | some P=>cases R with
  | none=>exact absurd h' (tM C)
  | some R =>
   obtain ⟨u,v⟩:=P
   obtain ⟨u',v'⟩:=R
   have k1:=(c0 (F:=F) (p:=n)).mpr h.2.1
   have k2:=(c0 (F:=F) (p:=n)).mpr h.2.2
   have k3:=(c0 (F:=F) (p:=n)).mpr h'.2.1
   have k4:=(c0 (F:=F) (p:=n)).mpr h'.2.2
   simp only [bP,aS,B7] at k1 k2 k3 k4
   have e1:u=u':=xq (F:=F) hP.1 hR.1 (by grind)
   have e2:v=v':=xq (F:=F) hP.2.1 hR.2.1 (by grind)
   rw [e1,e2]
theorem yH (C:Cv p a b) {P:G} (hP:On p a b P) {X Y Z:Int} (h:Rep p X Y Z P):Rep p X (-Y) Z (minus p P):=C.go λ n F _ _ e h5 _ _=>by
 subst e
 have hm:=xr (F:=F) h5 hP
 rw [vq (F:=F) hP] at h
 rw [vq (F:=F) hm.2,hm.1,PZ]
 rcases h with ⟨h1,h2⟩ | ⟨h1,x,y,h2,h3,h4⟩
 · rw [h2]; exact .inl ⟨h1,rfl⟩
 · rw [h2]; exact .inr ⟨h1,x,-y,rfl,h3,by rw [h4]; grind⟩
theorem JW (C:Cv p a b) {u v:Int} (hP:On p a b (some (u,v))) {X Y Z:Int} (h:Rep p X Y Z (some (u,v))) (hy:Y=0):v=0:=C.go λ n F _ _ e h5 _ _=>by
 subst e
 have k0:c F Z≠0:=λ e=>h.1 ((c0 (F:=F) (p:=n)).mp e)
 have k:=(c0 (F:=F) (p:=n)).mpr h.2.2
 rw [hy] at k
 simp only [bP,aS,Ie] at k
 have h1:c F v*(c F Z*c F Z*c F Z)=0:=by (clear k0; grind)
 rcases nt h1 with h2 | h2
 · exact (vO hP.2.1).mp h2
 · exact absurd h2 (bU (bU k0 k0) k0)
theorem wK (C:Cv p a b) {u v:Int}:Rep p u v 1 (some (u,v)):=by
 refine ⟨tM C,?_,?_⟩<;>(simp only [Int.mul_one,Int.sub_self]; exact Int.zero_emod p)
theorem z7 {P:G} {X Y Z:Int} (h:Rep p X Y Z P) (hz:Z%p≠0):∃ q,P=some q:=by
 cases P with
 | none=>exact absurd h hz
 | some q=>exact ⟨q,rfl⟩
end
theorem RA:∀ (m:Nat) (f:Nat→Nat),(∀ i,i≤m→f i<m)→∃ i j,i<j∧j≤m∧f i=f j
 | 0,f,h=>absurd (h 0 (Nat.le_refl _)) (Nat.not_lt_zero _)
 | m+1,f,h=>by
  by_cases hc:∃ i,i≤m∧f i=f (m+1)
  · obtain ⟨i,hi,e⟩:=hc
    exact ⟨i,m+1,Lq.Rg hi (Lq.Ri (by decide)),Nat.le_refl _,e⟩
  · have ne:∀ i,i≤m→f i≠f (m+1):=λ i hi e=>hc ⟨i,hi,e⟩
    have hl:=h (m+1) (Nat.le_refl _)
    obtain ⟨i,j,hij,hj,e⟩:=RA m (λ i=>if f i=m then f (m+1) else f i) (λ i hi=>by
     have h1:=h i (Lq.qy hi (Lq.nr _ _))
     have h2:=ne i hi
     split<;>lia)
    have hi:i≤m:=(Lq.nw (Lq.F3 hij hj))
    have n1:=ne i hi
    have n2:=ne j hj
    refine ⟨i,j,hij,Lq.qy hj (Lq.nr _ _),?_⟩
    split at e<;>split at e<;>lia
section
variable {p a b:Int}
theorem JX (C:Cv p a b) {x y v:Int} (h:On p a b (some (x,y))) (h':On p a b (some (x,v))):y=v∨(y+v)%p=0:=C.go λ n F _ _ e h5 _ _=>by
 subst e
 have e1:=nj (F:=F) h
 have e2:=nj (F:=F) h'
 have e1:c F y*c F y=c F x*c F x*c F x+c F a*c F x+c F b:=e1
 have e2:c F v*c F v=c F x*c F x*c F x+c F a*c F x+c F b:=e2
 have z:(c F y-c F v)*(c F y+c F v)=0:=by grind
 by_cases q:c F y=c F v
 · exact .inl (xq (F:=F) h.2.1 h'.2.1 q)
 · refine .inr ((JR (F:=F) h5).mpr ?_)
   grind
noncomputable def hb (p y:Int):Int:=if 2*y > p then 1 else 0
theorem Ba (p y:Int):0≤hb p y∧hb p y≤1:=by unfold hb; split<;>decide
theorem P8 {p y v:Int} (h:hb p y=hb p v) (h2:y+v=p):y=v:=by
 unfold hb at h
 split at h<;>split at h<;>first | (cases h; done) | lia
noncomputable def box (p:Int):G→Nat
 | none=>(2*p).toNat
 | some (x,y)=>(2*x+hb p y).toNat
theorem Ij {x k:Int} (h2:x<p) (h4:k≤1):2*x+k<2*p:=Int.lt_of_lt_of_le (Int.add_lt_add_left (Int.lt_add_one_of_le h4) _) ((Int.mul_add 2 x 1).symm▸Int.mul_le_mul_of_nonneg_left (Int.add_one_le_of_lt h2) (by decide))
theorem JY {P:G} (hp:0<p) (h:On p a b P):box p P<(2*p+1).toNat:=by
 have hp:=Int.mul_pos (show (0:Int)<2 by decide) hp
 cases P with
 | none=>exact Lq.tt (Lq.rs _ (by decide)) (Int.lt_add_one_of_le (Lq.w hp))
 | some P=>exact Lq.tt (Int.lt_add_one_of_le (Lq.w (Ij h.1.2 (Ba p P.2).2))) (Int.lt_add_one_of_le (Lq.w hp))
theorem Ik {x k:Int} (h1:0≤x) (h2:x<p) (h4:k≤1) (e:(2*p).toNat=(2*x+k).toNat):False :=
 absurd e (Nat.ne_of_gt (Lq.tt (Ij h2 h4) (Int.mul_pos (by decide) (Int.lt_of_le_of_lt h1 h2))))
theorem Il {x k:Int} (h3:0≤k) (h4:k≤1):(2*x+k)%2=k:=by rw [Int.add_comm,Int.add_mul_emod_self_left]; exact Int.emod_eq_of_lt h3 (Int.lt_add_one_of_le h4)
theorem MP {x k u l:Int} (h1:0≤x) (h3:0≤k) (h4:k≤1) (g1:0≤u) (g3:0≤l) (g4:l≤1) (e:(2*x+k).toNat=(2*u+l).toNat):x=u∧k=l:=by
 have e':=congrArg Int.ofNat e
 rw [Int.ofNat_eq_natCast,Int.ofNat_eq_natCast,Int.toNat_of_nonneg (Int.add_nonneg (Int.mul_nonneg (by decide) h1) h3),Int.toNat_of_nonneg (Int.add_nonneg (Int.mul_nonneg (by decide) g1) g3)] at e'
 have hk:k=l:=by rw [← Il (x:=x) h3 h4,e',Il g3 g4]
 rw [hk] at e'
 exact ⟨Int.eq_of_mul_eq_mul_left (show (2:Int)≠0 by decide) (by rw [← Int.add_sub_cancel (2*x) l,e',Int.add_sub_cancel]),hk⟩
theorem MQ {y v:Int} (h1:0≤y) (h2:y<p) (g1:0≤v) (g2:v<p) (q:(y+v)%p=0):y=v∨y+v=p:=by
 by_cases h:y+v<p
 · rw [Int.emod_eq_of_lt (Lq.ll (Lq.ll h1 (Lq.r _ (by decide))) (Lq.bl _ g1)) h] at q; lia
 · have:(y+v-p)%p=0:=by rw [Int.sub_emod_right]; exact q
   rw [Int.emod_eq_of_lt (Lq.s0 (Lq.n h)) (by lia)] at this; lia
theorem Gp (C:Cv p a b) {P R:G} (hP:On p a b P) (hR:On p a b R) (e:box p P=box p R):P=R:=by
 cases P with
 | none=>cases R with
  | none=>rfl
  | some R=>exact (Ik hR.1.1 hR.1.2 (Ba p R.2).2 e).elim
 | some P=>cases R with
  | none=>exact (Ik hP.1.1 hP.1.2 (Ba p P.2).2 e.symm).elim
  | some R =>
   have z:=MP hP.1.1 (Ba p P.2).1 (Ba p P.2).2 hR.1.1 (Ba p R.2).1 (Ba p R.2).2 e
   have S4:On p a b (some (P.1,R.2)):=by rw [z.1]; exact hR
   have ey:P.2=R.2:=by
    rcases JX C hP S4 with q | q
    · exact q
    · rcases MQ hP.2.1.1 hP.2.1.2 hR.2.1.1 hR.2.1.2 q with q | q
      · exact q
      · exact P8 z.2 q
   exact congrArg some (Prod.ext z.1 ey)
theorem DZ (C:Cv p a b) {P:G} (hP:On p a b P):∃ n:Int,0<n∧n≤2*p+1∧mul p a n P=none:=by
 have hp:=C.lo
 obtain ⟨i,j,hij,hj,e⟩:=RA (2*p+1).toNat (λ i=>box p (mul p a i P)) λ i _=>JY (by lia) (bD C hP _)
 have e:=Gp C (bD C hP _) (bD C hP _) e
 refine ⟨(j:Int)-i,Lq.s1 (Lq.cs hij),by lia,?_⟩
 rw [Int.sub_eq_add_neg,mul_add C hP,mul_neg C hP,← e,qz C (bD C hP _)]
end
section
variable {p a b:Int}
end
structure Pm (m n t s r:Int):Prop where
 e:m=s+t*r
 t0:0<t
 r0:0≤r
 b1:3*s<2*t
 b2:-(2*t)<3*s
 o:r%2=1→3*s<t∧-t<3*s
 m0:0≤m
 m1:m<2*n
section
variable {m n t s r:Int}
theorem Pm.start (h0:0≤m) (h1:m<2*n):Pm m n 1 0 m:=⟨by lia,by decide,h0,by decide,by decide,λ _=>by decide,h0,h1⟩
theorem Pm.P9 (h:Pm m n t s r) (hr:r%2=0):Pm m n (2*t) s (r / 2):=by
 obtain ⟨e,t0,r0,b1,b2,o,m0,m1⟩:=h
 have er:r=2*(r / 2):=by lia
 have e2:t*r=2*t*(r / 2):=by rw [Int.mul_assoc,Int.mul_left_comm,← er]
 exact ⟨by rw [← e2]; exact e,by lia,by lia,by lia,by lia,λ _=>⟨by omega,by omega⟩,m0,m1⟩
theorem Pm.plus (h:Pm m n t s r) (hr:r%4=1):Pm m n (2*t) (s+t) ((r-1) / 2):=by
 obtain ⟨e,t0,r0,b1,b2,o,m0,m1⟩:=h
 have oo:=o (by lia)
 have er:r=2*((r-1) / 2)+1:=by lia
 have e2:t*r=2*t*((r-1) / 2)+t:=by
  have:t*r=t*(2*((r-1) / 2)+1):=by rw [← er]
  rw [this,Int.mul_add,Int.mul_one,Int.mul_left_comm,Int.mul_assoc]
 exact ⟨by (clear er m1 r0 hr; omega),by (clear e; lia),by (clear e2 oo m1 m0 b2 b1 t0 e hr; omega),by (clear t0 e; lia),by (clear oo e; lia),λ h=>by (clear e2 oo m1 m0 b2 b1 t0 e; omega),m0,m1⟩
theorem Pm.minus (h:Pm m n t s r) (hr:r%4=3):Pm m n (2*t) (s-t) ((r+1) / 2)∧0<s+t∧s+t<n:=by
 obtain ⟨e,t0,r0,b1,b2,o,m0,m1⟩:=h
 have oo:=o (by lia)
 have er:r=2*((r+1) / 2)-1:=by lia
 have e2:t*r=2*t*((r+1) / 2)-t:=by
  have:t*r=t*(2*((r+1) / 2)-1):=by rw [← er]
  rw [this,Int.mul_sub,Int.mul_one,Int.mul_left_comm,Int.mul_assoc]
 have e3:t*3≤t*r:=Int.mul_le_mul_of_nonneg_left (by lia) (Lq.w t0)
 exact ⟨⟨by lia,by (clear e; lia),by (clear o hr; lia),by (clear oo e; lia),by (clear t0 e; lia),λ h=>by lia,m0,m1⟩,by (clear oo e; lia),by (clear e2 oo; lia)⟩
theorem Pm.fin (h:Pm m n t s r) (ht:8*n≤t):s=m:=by
 obtain ⟨e,t0,r0,b1,b2,o,m0,m1⟩:=h
 have hr:r=0:=by
  rcases Int.lt_or_le 0 r with h | h
  · have e3:t*1≤t*r:=Int.mul_le_mul_of_nonneg_left (by lia) (Lq.w t0)
    lia
  · exact Lq.e h r0
 rw [hr,Int.mul_zero] at e
 lia
end
theorem Gq {n:Int} (h1:1<n) (h2:n%2=1):∀ k:Nat,(2:Int)^k%n≠0:=by
 intro k
 induction k with
 | zero=>rw [Int.pow_zero,Int.emod_eq_of_lt (by decide) h1]; decide
 | succ k ih =>
  intro h
  obtain ⟨q,hq⟩:=Int.dvd_of_emod_eq_zero h
  rw [Int.pow_succ] at hq
  have hq2:q%2=0:=by
   have e:(n*q)%2=0:=by rw [← hq]; lia
   rw [Int.mul_emod,h2,Int.one_mul,Int.emod_emod] at e
   exact e
  have e1:q=2*(q / 2):=by lia
  refine ih (Int.emod_eq_zero_of_dvd ⟨q / 2,?_⟩)
  have e2:n*q=2*(n*(q / 2)):=by rw [Int.mul_left_comm,← e1]
  lia
noncomputable def JZ (p:Nat):Nat→Nat
 | 0=>0
 | y+1=>JZ p y ||| 2^(y*y%p)
noncomputable def J0 (m p a b:Nat):Nat→Bool
 | 0=>false
 | n+1=>Nat.testBit m ((n*n*n+a*n+b)%p)||J0 m p a b n
noncomputable def Bb (m p a k:Nat):Nat→Bool
 | 0=>true
 | b+1=>J0 m p a b k&&Bb m p a k b
noncomputable def CV (m p k:Nat):Nat→Bool
 | 0=>true
 | a+1=>Bb m p a k p&&CV m p k a
theorem J1 {p r:Nat}:∀ n,Nat.testBit (JZ p n) r=true→∃ y,y<n∧y*y%p=r:=by
 intro n
 induction n with
 | zero=>intro h; rw [show JZ p 0=0 from rfl,Nat.zero_testBit] at h; cases h
 | succ n ih =>
  intro h
  rw [show JZ p (n+1)=JZ p n ||| 2^(n*n%p) from rfl,Nat.testBit_or,Bool.or_eq_true] at h
  rcases h with h | h
  · exact (ih h).elim λ y z=>⟨y,Nat.lt_succ_of_lt z.1,z.2⟩
  · rw [Nat.testBit_two_pow] at h
    exact ⟨n,Nat.lt_succ_self n,of_decide_eq_true h⟩
theorem J2 {m p a b:Nat}:∀ n,J0 m p a b n=true→∃ x,x<n∧Nat.testBit m ((x*x*x+a*x+b)%p)=true:=by
 intro n
 induction n with
 | zero=>intro h; cases h
 | succ n ih =>
  intro h
  rw [show J0 m p a b (n+1)=(Nat.testBit m ((n*n*n+a*n+b)%p)||J0 m p a b n) from rfl,Bool.or_eq_true] at h
  rcases h with h | h
  · exact ⟨n,Nat.lt_succ_self n,h⟩
  · exact (ih h).elim λ y z=>⟨y,Nat.lt_succ_of_lt z.1,z.2⟩
theorem Gr {m p a k:Nat}:∀ B,Bb m p a k B=true→∀ b,b<B→J0 m p a b k=true:=by
 intro B
 induction B with
 | zero=>exact λ _ b h=>absurd h (Nat.not_lt_zero b)
 | succ B ih =>
  intro h b hb
  rw [show Bb m p a k (B+1)=(J0 m p a B k&&Bb m p a k B) from rfl,Bool.and_eq_true] at h
  rcases Nat.lt_or_eq_of_le (Nat.le_of_lt_succ hb) with e | e
  · exact ih h.2 b e
  · rw [e]; exact h.1
theorem Gs {m p k:Nat}:∀ A,CV m p k A=true→∀ a,a<A→Bb m p a k p=true:=by
 intro A
 induction A with
 | zero=>exact λ _ b h=>absurd h (Nat.not_lt_zero b)
 | succ A ih =>
  intro h b hb
  rw [show CV m p k (A+1)=(Bb m p A k p&&CV m p k A) from rfl,Bool.and_eq_true] at h
  rcases Nat.lt_or_eq_of_le (Nat.le_of_lt_succ hb) with e | e
  · exact ih h.2 b e
  · rw [e]; exact h.1
theorem S8 {p k:Nat} (hk:k≤p) (h:CV (JZ p p) p k p=true) (a b:Nat) (ha:a<p) (hb:b<p):∃ x y,x<p∧y<p∧y*y%p=(x*x*x+a*x+b)%p:=by
 obtain ⟨x,hx,e⟩:=J2 k (Gr p (Gs p h a ha) b hb)
 obtain ⟨y,hy,e2⟩:=J1 p e
 exact ⟨x,y,Nat.lt_of_lt_of_le hx hk,hy,e2⟩
noncomputable def zU:List Nat:=[5,7,11,13,17,19,23,29,31,37,41,43,47,53,59,61,67,71,73,79,83,89,97,101]
theorem J3:∀ p∈zU,CV (JZ p p) p (min p 30) p=true:=by decide +kernel
theorem Gu {p a b:Nat} (hp:p∈zU) (ha:a<p) (hb:b<p):∃ x y,x<p∧y<p∧y*y%p=(x*x*x+a*x+b)%p:=S8 (Nat.min_le_left _ _) (J3 p hp) a b ha hb
theorem Cv.MR {p a b:Int} (C:Cv p a b) {k:Int} (h1:1<k) (h2:k<p):p%k≠0:=λ h=>by
 have e:=C.mW k (by rw [Int.emod_eq_of_lt (Lq.w (Lq.ls (by decide) h1)) h2]; exact Lq.y (Lq.ls (by decide) h1))
 obtain ⟨m,hm⟩:=Int.dvd_of_emod_eq_zero h
 have e2:=Int.mul_ediv_add_emod (k*inv p k) p
 rw [e] at e2
 have d:k∣1:=by
  have h3:(1:Int)=k*(inv p k-m*(k*inv p k / p)):=by
   rw [Int.mul_sub,← Int.mul_assoc,← hm]; lia
  exact ⟨_,h3⟩
 have:=Int.le_of_dvd (by decide) d
 exact Lq.f h1 this
theorem D6:∀ n∈List.range 102,5≤n→n%2≠0→n%3≠0→(n=5∨n%5≠0)→(n=7∨n%7≠0)→n∈zU:=by decide +kernel
theorem Gv (n:Nat) (h:n<102):5≤n→n%2≠0→n%3≠0→(n=5∨n%5≠0)→(n=7∨n%7≠0)→n∈zU:=D6 n (List.mem_range.mpr h)
theorem Cv.vZ {n k:Nat} {a b:Int} (C:Cv (n:Int) a b) (h1:1<k) (h2:k<n):n%k≠0:=λ h =>
 C.MR (k:=(k:Int)) (Int.ofNat_lt.mpr h1) (Int.ofNat_lt.mpr h2) ((Int.natCast_emod n k).symm.trans (congrArg Nat.cast h))
theorem orOf {n k:Nat} {a b:Int} (C:Cv (n:Int) a b) (h1:1<k) (h:n≠k→¬ n<k):n=k∨n%k≠0:=by
 by_cases e:n=k
 · exact .inl e
 · exact .inr (C.vZ h1 (Nat.lt_of_le_of_ne (Nat.not_lt.mp (h e)) (Ne.symm e)))
theorem S9:∀ n∈List.range 7,5≤n→n%2≠0→n%7≠0:=by decide +kernel
theorem Cv.mem {p a b:Int} (C:Cv p a b):p.toNat∈zU:=by
 obtain ⟨n,rfl⟩:=Int.eq_ofNat_of_zero_le (Int.le_trans (by decide) C.lo)
 have h1:5≤n:=Int.ofNat_le.mp C.lo
 have h2:n<102:=Nat.lt_succ_of_le (Int.ofNat_le.mp C.hi)
 have f2:=C.vZ (k:=2) (by decide) (Nat.lt_of_lt_of_le (by decide) h1)
 have f3:=C.vZ (k:=3) (by decide) (Nat.lt_of_lt_of_le (by decide) h1)
 rw [Int.toNat_natCast]
 refine Gv n h2 h1 f2 f3 (orOf C (by decide) λ _=>Nat.not_lt.mpr h1) ?_
 by_cases e:n<7
 · exact .inr (S9 n (List.mem_range.mpr e) h1 f2)
 · exact orOf C (by decide) λ _=>e
theorem Cv.point {p a b:Int} (C:Cv p a b) (ha:0≤a∧a<p) (hb:0≤b∧b<p):∃ x y:Int,0≤x∧x<p∧0≤y∧y<p∧y*y%p=(x*x*x+a*x+b)%p:=by
 obtain ⟨n,rfl⟩:=Int.eq_ofNat_of_zero_le (show 0≤p by have:=C.lo; exact Lq.ll (by decide) this)
 obtain ⟨m,rfl⟩:=Int.eq_ofNat_of_zero_le ha.1
 obtain ⟨k,rfl⟩:=Int.eq_ofNat_of_zero_le hb.1
 have hm:n∈zU:=by have:=C.mem; rwa [Int.toNat_natCast] at this
 obtain ⟨x,y,h1,h2,e⟩:=Gu (p:=n) (a:=m) (b:=k) hm (Lq.us ha.2) (Lq.us hb.2)
 exact ⟨x,y,Lq.z _,Lq.cs h1,Lq.z _,Lq.cs h2,by exact_mod_cast e⟩
theorem Cv.hp {p a b:Int} (C:Cv p a b):p≤((1000:Nat):Int):=by have:=C.hi; exact Lq.ll this (by decide)
theorem Cv.pos {p a b:Int} (C:Cv p a b):0<p:=by have:=C.lo; lia
end EC
namespace JL
open PySem PySem.W PySem.Calls PyProof.Rows
abbrev xx (s s':Shared):Prop:=s.heap.objs.size≤s'.heap.objs.size
set_option tactic.hygienic true in
theorem Runs.grow {M:Model} {Γ:Ctx} {p:Pos} {t:Sem Fin} {fs:List Frame} {s s':Shared} {e:End} (h:Runs M Γ p t fs s e s'):xx s s':=by
 induction h<;>first
  | exact Nat.le_refl _
  | assumption
  | (rename_i ih; exact Nat.le_trans (Nat.le_of_eq (Heap.size_after_update ..).symm) ih)
  | (rename_i ih; exact Nat.le_trans (Nat.le_trans (Nat.le_succ _) (Nat.le_of_eq (Heap.size_push ..).symm)) ih)
  | (rename_i ih1 ih2; exact Nat.le_trans ih1 ih2)
theorem Wakes.grow {M:Model} {Γ:Ctx} {p:Pos} {g:Nat} {r:Resume} {s s':Shared} {res:GenResult} (h:Wakes M Γ p g r s res s'):xx s s':=by
 unfold Wakes at h
 cases q:s.gens[g]? with
 | none=>rw [q] at h; exact h.elim
 | some o =>
  rw [q] at h
  have same (P:Prop) (z:P∧s'=s):xx s s':=z.2▸Nat.le_refl _
  cases o with
  | fresh c=>cases r with
   | send v =>
    have same' (z:res=.justStarted∧s'=s):xx s s':=same _ z
    cases v with
    | none=>obtain ⟨e,q6,hr,_,_,rfl⟩:=h; have:=Runs.grow hr; exact this
    | _=>exact same' h
   | throw x=>obtain ⟨_,rfl⟩:=h; exact Nat.le_refl _
  | suspended=>obtain ⟨e,q6,hr,_,_,rfl⟩:=h; have:=Runs.grow hr; exact this
  | running=>exact same _ h
  | finished=>exact same _ h
theorem wp.grow {α:Type} {M:Model} {Γ:Ctx} {Q:α→Pos→Shared→Prop} {E:Value→Pos→Shared→Prop} :
 ∀ (t:Sem α) (bE:Shared) (p:Pos) (s:Shared),xx bE s→Sem.wp M Γ t Q E p s→Sem.wp M Γ t (λ a p' s'=>Q a p' s'∧xx bE s') (λ a p' s'=>E a p' s'∧xx bE s') p s:=by
 intro t
 induction t with
 | pure a=>intro bE p s hs h; exact ⟨h,hs⟩
 | raise e=>intro bE p s hs h; exact ⟨h,hs⟩
 | unsupported=>intro bE p s hs h; exact h
 | finish=>intro bE p s hs h; exact h
 | rule _ k ih=>intro bE p s hs h; exact ih () bE p s hs h
 | «at» q k ih=>intro bE p s hs h; exact ih () bE q s hs h
 | load a _ k ih=>intro bE p s hs h; obtain ⟨o,ho,h⟩:=h; exact ⟨o,ho,ih o bE p s hs h⟩
 | update a _ f k ih=>intro bE p s hs h; exact ⟨h.1,ih () bE p _ (Nat.le_trans hs (Nat.le_of_eq (Heap.size_after_update ..).symm)) h.2⟩
 | alloc o k ih=>intro bE p s hs h; exact ih _ bE p _ (Nat.le_trans hs (Nat.le_trans (Nat.le_succ _) (Nat.le_of_eq (Heap.size_push ..).symm))) h
 | loadIfAlive a k ih=>intro bE p s hs h; exact ih _ bE p s hs h
 | point _ k ih=>intro bE p s hs h; exact ih () bE p s hs h
 | register=>intro bE p s hs h; exact h
 | fresh k ih=>intro bE p s hs h; exact ih _ bE p _ hs h
 | ask k ih=>intro bE p s hs h; exact ih _ bE p s hs h
 | choose src n k ih=>intro bE p s hs h; exact ⟨h.1,ih _ bE p _ hs h.2⟩
 | os q _ k ih=>intro bE p s hs h; exact ih _ bE p _ hs h
 | call c hd _ _ k ih=>intro bE p s hs h; obtain ⟨r,s',hr,h⟩:=h; exact ⟨r,s',hr,ih r bE p s' (Nat.le_trans hs (Runs.grow hr)) h⟩
 | handled own k ih=>intro bE p s hs h; exact ih _ bE p s hs h
 | newGen c k ih=>intro bE p s hs h; exact ih _ bE p _ hs h
 | genState g k ih=>intro bE p s hs h; obtain ⟨st,e,h⟩:=h; exact ⟨st,e,ih _ bE p s hs h⟩
 | resume g r _ k ih=>intro bE p s hs h; obtain ⟨r,s',hr,h⟩:=h; exact ⟨r,s',hr,ih r bE p s' (Nat.le_trans hs (Wakes.grow hr)) h⟩
 | yield=>intro bE p s hs h; exact h
 | stack k ih=>intro bE p s hs h; exact ih _ bE p s hs h
 | fork=>intro bE p s hs h; exact h
 | thread k ih=>intro bE p s hs h; exact ih _ bE p s hs h
 | await=>intro bE p s hs h; exact h
theorem grow {α:Type} {M:Model} {A:Around} {t:Sem α} {Q:α→Shared→Prop} {E:Value→Shared→Prop} {s:Shared} (h:wpAny M A t Q E s) :
 wpAny M A t (λ a s'=>Q a s'∧xx s s') (λ a s'=>E a s'∧xx s s') s:=λ Γ p hΓ=>wp.grow t s p s (Nat.le_refl _) (h Γ p hΓ)
theorem wc {α:Type} {M:Model} {A:Around} {t:Sem α} {Q:α→Shared→Prop} {E:Value→Shared→Prop} {s:Shared} (h:wpAny M A t (λ a s'=>xx s s'→Q a s') E s):wpAny M A t Q E s :=
 wpAny_mono (grow h) (λ _ _ x=>x.1 x.2) λ _ _ x=>x.1
theorem aG {P:Prop} (h:∀ G:Prop,(P→G)→G):P:=h P id
theorem aP {α:Type} {x:α} {P:Prop} (h:none=some x):P:=nomatch h
theorem cV {P:Prop} (h:false=true):P:=nomatch h
theorem yh {p:Prop} [i:Decidable p] {α:Type} {f:p→Option α} {b:α} (h:(if hp:p then f hp else none)=some b):∃ hp:p,f hp=some b:=by
 cases i with
 | isTrue hp=>exact ⟨hp,h⟩
 | isFalse _=>exact aP h
noncomputable def zd (v:Value):Option Addr:=if h:v.ctorIdx=10 then Value.ref.elim (motive:=λ _=>Option Addr) v h some else none
theorem qA {v:Value} {a:Addr} (h:zd v=some a):v=.ref a:=by
 obtain ⟨hp,h⟩:=yh h
 exact Value.ref.elim (motive:=λ v=>∀ hp,Value.ref.elim (motive:=λ _=>Option Addr) v hp some=some a→v=.ref a) v hp (λ _ _ h=>congrArg _ (Option.some.inj h)) hp h
noncomputable def Qa (d:Data):Bool:=Nat.beq d.ctorIdx 0
theorem D7 {d:Data} (h:Qa d=true):d=.plain:=Data.plain.elim (motive:=λ d=>d=.plain) d (Nat.eq_of_beq_eq_true h) rfl
theorem cB {α β:Type} {o:Option α} {f:α→Option β} {b:β} (h:o.bind f=some b):∃ a,o=some a∧f a=some b:=Option.bind_eq_some_iff.mp h
theorem J4 {α:Type} {c:Bool} {a b:α} (h:(if c=true then some a else none)=some b):c=true∧a=b:=by
 cases c with
 | true=>exact ⟨rfl,Option.some.inj h⟩
 | false=>exact aP h
@[elab_as_elim] theorem sE {α:Type} {a b:α} {P:α→Prop} (h:some a=some b) (k:P a):P b:=Option.some.inj h▸k
inductive AV where
 | none
 | bool (b:Bool)
 | int (i:Int)
 | tup (vs:List AV)
 | lst (n:Nat)
 | dct (n:Nat)
 | inst (C:Addr) (n:Nat)
 | pn (f:Addr) (self:AV)
 | tw (a b c:Int)
 | cst (v:Value)
inductive AO where
 | lst (xs:List AV)
 | dct (es:List (Int×AV))
 | inst (fs:List (Str×AV))
 | tab (l c:Nat)
noncomputable def AO.Im (o:AO):Bool:=Nat.beq o.ctorIdx 3
mutual
inductive VR (X ρ:List Addr) (h:Heap):AV→Value→Prop
 | none:VR X ρ h .none .none
 | bool (b:Bool):VR X ρ h (.bool b) (.bool b)
 | int (i:Int) (t:Tok):VR X ρ h (.int i) (.int i t)
 | tup {vs:List AV} {ws:List Value} {a:Addr} {n:Nat}:h.get? a=some ({ cls:=.type "tuple",data:=.seq ws.toArray n }:Obj)→a∉X→bh X ρ h vs ws→VR X ρ h (.tup vs) (.ref a)
 | lst {n:Nat} {a:Addr}:ρ[n]? = some a→VR X ρ h (.lst n) (.ref a)
 | dct {n:Nat} {a:Addr}:ρ[n]? = some a→VR X ρ h (.dct n) (.ref a)
 | inst {C:Addr} {n:Nat} {x dx:Addr}:ρ[n]? = some dx→h.get? x=some (instObj C dx)→VR X ρ h (.inst C n) (.ref x)
 | pn {f:Addr} {self:AV} {p:Addr} {v:Value}:h.get? p=some (methodObj (.ref f) v)→VR X ρ h self v→VR X ρ h (.pn f self) (.ref p)
 | tw {a b c:Int} {r:Addr} {t u v:Tok}:IsRange h r a b c t u v→VR X ρ h (.tw a b c) (.ref r)
 | cst (v:Value):VR X ρ h (.cst v) v
inductive bh (X ρ:List Addr) (h:Heap):List AV→List Value→Prop
 | nil:bh X ρ h [] []
 | cons {a:AV} {v:Value} {as:List AV} {vs:List Value}:VR X ρ h a v→bh X ρ h as vs→bh X ρ h (a :: as) (v :: vs)
end
section
variable {X ρ:List Addr} {h:Heap} {P:Value→Prop} {v:Value}
@[elab_as_elim] theorem VR.ze (x:VR X ρ h .none v) (k:P .none):P v:=by cases x; exact k
@[elab_as_elim] theorem VR.qB {b:Bool} (x:VR X ρ h (.bool b) v) (k:P (.bool b)):P v:=by cases x; exact k
@[elab_as_elim] theorem VR.cC {i:Int} (x:VR X ρ h (.int i) v) (k:∀ t,P (.int i t)):P v:=by cases x; exact k _
@[elab_as_elim] theorem VR.aX {u:Value} (x:VR X ρ h (.cst u) v) (k:P u):P v:=by cases x; exact k
@[elab_as_elim] theorem VR.sD {n:Nat} (x:VR X ρ h (.lst n) v) (k:∀ a,ρ[n]? = some a→P (.ref a)):P v:=by cases x; exact k _ ‹_›
@[elab_as_elim] theorem VR.D8 {n:Nat} (x:VR X ρ h (.dct n) v) (k:∀ a,ρ[n]? = some a→P (.ref a)):P v:=by cases x; exact k _ ‹_›
@[elab_as_elim] theorem VR.qC {C:Addr} {n:Nat} (x:VR X ρ h (.inst C n) v) (k:∀ a dx,ρ[n]? = some dx→h.get? a=some (instObj C dx)→P (.ref a)):P v:=by cases x; exact k _ _ ‹_› ‹_›
@[elab_as_elim] theorem VR.Ce {vs:List AV} (x:VR X ρ h (.tup vs) v) (k:∀ ws a n,h.get? a=some ({ cls:=.type "tuple",data:=.seq ws.toArray n }:Obj)→a∉X→bh X ρ h vs ws→P (.ref a)):P v:=by cases x with | tup a b c=>exact k _ _ _ a b c
@[elab_as_elim] theorem VR.D9 {f:Addr} {self:AV} (x:VR X ρ h (.pn f self) v) (k:∀ p v,h.get? p=some (methodObj (.ref f) v)→VR X ρ h self v→P (.ref p)):P v:=by cases x with | pn a b=>exact k _ _ a b
@[elab_as_elim] theorem bh.aW {P:List Value→Prop} {v:List Value} (x:bh X ρ h [] v) (k:P []):P v:=by cases x; exact k
@[elab_as_elim] theorem bh.aq {P:List Value→Prop} {v:List Value} {a:AV} {as:List AV} (x:bh X ρ h (a :: as) v) (k:∀ w ws,VR X ρ h a w→bh X ρ h as ws→P (w :: ws)):P v:=by cases x with | cons a b=>exact k _ _ a b
end
noncomputable def zf:List String:=["list_iterator", "tuple_iterator", "range_iterator", "list_reverseiterator", "zip"]
noncomputable def ql (o:Obj):Bool:=match o.data with
 | .dict ..=>true
 | .cell _=>true
 | .seq ..=>o.cls==.type "list"
 | .fields _=>(match o.cls with | .type n=>zf.contains n | .none=>true | _=>false)
 | _=>false
noncomputable def sQ (o:Obj):Bool:=match o.data with
 | .dict ..=>true
 | .seq ..=>o.cls==.type "list"
 | .fields _=>Nat.beq o.cls.ctorIdx 0
 | _=>false
noncomputable def isTup (o:Obj):Bool:=match o.data with
 | .seq ..=>o.cls==.type "tuple"
 | _=>false
def cE (X:List Addr) (h:Heap) (S:List Addr):Prop:=∀ a∈S,∃ o,h.get? a=some o∧(ql o=true∨(isTup o=true∧a∈X))
structure aH (S:List Addr) (h h':Heap):Prop where
 size:h.objs.size≤h'.objs.size
 keep:∀ b o,h.get? b=some o→b∉S→h'.get? b=some o
theorem aH.refl (S:List Addr) (h:Heap):aH S h h:=⟨Nat.le_refl _,λ _ _ e _=>e⟩
theorem aH.weaken {S T:List Addr} {h h':Heap} (P:aH S h h') (hs:∀ a∈S,a∈T):aH T h h':=⟨P.size,λ b o e n=>P.keep b o e λ m=>n (hs b m)⟩
theorem aH.trans {S δ:List Addr} {h h₁ aF:Heap} (P:aH S h h₁) (hδ:∀ a∈δ,h.objs.size≤a) (Q:aH (S++δ) h₁ aF):aH S h aF :=
 ⟨Nat.le_trans P.size Q.size,λ b o e n=>Q.keep b o (P.keep b o e n) λ m=>by
  rcases List.mem_append.mp m with m | m
  · exact n m
  · exact absurd (Heap.lt_size e) (Nat.not_lt.mpr (hδ b m))⟩
theorem aH.push (S:List Addr) (h:Heap) (o:Obj):aH S h (h.push o):=⟨by rw [Heap.size_push]; exact Nat.le_succ _,λ _ _ e _=>Heap.get?_push_of_some o e⟩
theorem aH.Ea {S:List Addr} {h h':Heap} (hs:h.objs.size≤h'.objs.size) (k:∀ b o,h.get? b=some o→h'.get? b=some o):aH S h h':=⟨hs,λ b o e _=>k b o e⟩
theorem aH.sameBut {S:List Addr} {h h':Heap} {a:Addr} (hs:Heap.SameBut a h h') (ha:a∈S):aH S h h' :=
 ⟨Nat.le_of_eq hs.1.symm,λ b o e n=>(hs.2 b λ q=>n (q▸ha)).trans e⟩
theorem cE.not {X:List Addr} {h:Heap} {S:List Addr} (M:cE X h S) {a:Addr} {o:Obj} (e:h.get? a=some o) (hm:(ql o||isTup o)=false):a∉S:=λ m=>by
 obtain ⟨o',e',hm'⟩:=M a m
 rw [e] at e'; cases e'
 rw [Bool.or_eq_false_iff] at hm
 rcases hm' with z | ⟨z,_⟩
 · rw [hm.1] at z; cases z
 · rw [hm.2] at z; cases z
theorem cE.MS {X:List Addr} {h:Heap} {S:List Addr} (M:cE X h S) {a:Addr} {o:Obj} (e:h.get? a=some o) (hm:ql o=false) (hx:a∉X):a∉S:=λ m=>by
 obtain ⟨o',e',hm'⟩:=M a m
 rw [e] at e'; cases e'
 rcases hm' with z | ⟨_,z⟩
 · rw [hm] at z; cases z
 · exact hx z
theorem VR.conv {X Y ρ ρ':List Addr} {h h':Heap} (k:∀ (n:Nat) a,ρ[n]? = some a→ρ'[n]? = some a) (g:∀ a o,h.get? a=some o→(ql o||isTup o)=false→h'.get? a=some o)
 (t:∀ a (ws:Array Value) n,h.get? a=some ({ cls:=.type "tuple",data:=.seq ws n }:Obj)→a∉X→h'.get? a=some ({ cls:=.type "tuple",data:=.seq ws n }:Obj)∧a∉Y) {a:AV} {v:Value} (x:VR X ρ h a v):VR Y ρ' h' a v :=
 VR.rec (motive_1:=λ a v _=>VR Y ρ' h' a v) (motive_2:=λ as vs _=>bh Y ρ' h' as vs) .none .bool .int (λ e hx _ ih=>.tup (t _ _ _ e hx).1 (t _ _ _ e hx).2 ih) (λ e=>.lst (k _ _ e)) (λ e=>.dct (k _ _ e)) (λ e z=>.inst (k _ _ e) (g _ _ z rfl)) (λ e _ ih=>.pn (g _ _ e rfl) ih) (λ e=>.tw (g _ _ e rfl)) .cst .nil (λ _ _ h1 h2=>.cons h1 h2) x
theorem bh.each {X Y ρ ρ':List Addr} {h h':Heap} (f:∀ {a v},VR X ρ h a v→VR Y ρ' h' a v) {as:List AV}:∀ {vs:List Value},bh X ρ h as vs→bh Y ρ' h' as vs:=by
 induction as with
 | nil=>exact λ hv=>hv.aW .nil
 | cons a as ih=>exact λ hv=>hv.aq λ w ws x r=>.cons (f x) (ih r)
theorem VR.mono {X ρ δ S:List Addr} {h h':Heap} (M:cE X h S) (P:aH S h h') {a:AV} {v:Value} (x:VR X ρ h a v):VR X (ρ++δ) h' a v :=
 x.conv (λ n a e=>(List.getElem?_append_left (List.getElem?_eq_some_iff.mp e).1).trans e) (λ a o e hm=>P.keep _ _ e (M.not e hm)) λ a ws n e hx=>⟨P.keep _ _ e (M.MS e rfl hx),hx⟩
theorem bh.mono {X ρ δ S:List Addr} {h h':Heap} (M:cE X h S) (P:aH S h h') {as:List AV} {vs:List Value} (x:bh X ρ h as vs):bh X (ρ++δ) h' as vs:=x.each λ y=>y.mono M P
inductive z8 (X ρ:List Addr) (h:Heap):List (Str×AV)→List DictEntry→Prop
 | nil:z8 X ρ h [] []
 | cons {x:Str} {a:AV} {fs:List (Str×AV)} {e:DictEntry} {es:List DictEntry}:(∃ t,e.key=.str x t)→VR X ρ h a e.val→z8 X ρ h fs es→z8 X ρ h ((x,a) :: fs) (e :: es)
inductive DQ (X ρ:List Addr) (h:Heap):List (Int×AV)→List DictEntry→Prop
 | nil:DQ X ρ h [] []
 | cons {i:Int} {a:AV} {fs:List (Int×AV)} {e:DictEntry} {es:List DictEntry}:((∃ t,e.key=.int i t)∧e.hash=hashInt i)→VR X ρ h a e.val→DQ X ρ h fs es→DQ X ρ h ((i,a) :: fs) (e :: es)
theorem z8.mono {X ρ δ S:List Addr} {h h':Heap} (M:cE X h S) (P:aH S h h') {fs es} (x:z8 X ρ h fs es):z8 X (ρ++δ) h' fs es:=by
 induction x with
 | nil=>exact .nil
 | cons k v _ ih=>exact .cons k (v.mono M P) ih
theorem DQ.mono {X ρ δ S:List Addr} {h h':Heap} (M:cE X h S) (P:aH S h h') {fs es} (x:DQ X ρ h fs es):DQ X (ρ++δ) h' fs es:=by
 induction x with
 | nil=>exact .nil
 | cons k v _ ih=>exact .cons k (v.mono M P) ih
noncomputable def OR (X ρ:List Addr) (h:Heap):AO→Obj→Prop
 | .lst xs,o=>∃ ws n,o=({ cls:=.type "list",data:=.seq ws.toArray n }:Obj)∧bh X ρ h xs ws
 | .dct es,o=>∃ ds n,o=dictOf ds n∧DQ X ρ h es ds∧(es.map (·.1)).Nodup
 | .inst fs,o=>∃ ds n,o=dictOf ds n∧z8 X ρ h fs ds
 | .tab l c,o=>o={ cls:=.none,data:=.fields #[] }∨∃ k,o={ cls:=.none,data:=.fields #[rawInt l,rawInt c,.ref k] }
theorem OR.mono {X ρ δ S:List Addr} {h h':Heap} (M:cE X h S) (P:aH S h h'):∀ {a:AO} {o:Obj},OR X ρ h a o→OR X (ρ++δ) h' a o
 | .lst _,_,⟨ws,n,e,r⟩=>⟨ws,n,e,r.mono M P⟩
 | .dct _,_,⟨ws,n,e,r,nd⟩=>⟨ws,n,e,r.mono M P,nd⟩
 | .inst _,_,⟨ws,n,e,r⟩=>⟨ws,n,e,r.mono M P⟩
 | .tab _ _,_,h=>h
theorem OR.sQ {X ρ:List Addr} {h:Heap}:∀ {a:AO} {o:Obj},OR X ρ h a o→sQ o=true
 | .lst _,_,⟨ws,n,e,r⟩=>by subst e; rfl
 | .dct _,_,⟨ws,n,e,r⟩=>by subst e; rfl
 | .inst _,_,⟨ws,n,e,r⟩=>by subst e; rfl
 | .tab _ _,_,h=>by
  rcases h with rfl | ⟨_,rfl⟩
  · rfl
  · rfl
theorem OR.ql {X ρ:List Addr} {h:Heap}:∀ {a:AO} {o:Obj},OR X ρ h a o→ql o=true
 | .lst _,_,⟨ws,n,e,r⟩=>by subst e; rfl
 | .dct _,_,⟨ws,n,e,r⟩=>by subst e; rfl
 | .inst _,_,⟨ws,n,e,r⟩=>by subst e; rfl
 | .tab _ _,_,h=>by
  rcases h with rfl | ⟨_,rfl⟩
  · rfl
  · rfl
structure Wl where
 prog:Program
 w:World
 K:Frag
 hb:Heap
 mg:Str→Option Value
 mb:Str→Option Value
 hid:List Addr
 tabs:List (Addr×Addr×Nat×Nat):=[]
structure Wl.Ok (W:Wl):Prop where
 tB:W.K.In W.hb
 g:W.hb.Ns mainGlobals W.mg
 b:W.hb.Ns builtinsNs W.mb
 blt:∀ x:Str,x ≠ "__name__" → W.mb x=bootBuiltins x
 lim:W.hb.NoLimit
 tab:∀ q∈W.tabs,CodeHd W.hb q.1 q.2.1∧W.hb.BuiltinsAt W.mg q.2.1
noncomputable abbrev Wl.M (W:Wl):Model:=model W.prog W.w
structure aL (W:Wl) (ρ:List Addr) (σ:List AO) (h:Heap):Prop where
 base:∀ b o,W.hb.get? b=some o→h.get? b=some o
 fresh:∀ a∈ρ,W.hb.get? a=none
 len:ρ.length=σ.length
 nodup:ρ.Nodup
 z9:∀ a∈W.hid,a<h.objs.size
 objs:∀ (n:Nat) (o:AO),σ[n]? = some o→∃ a ob,ρ[n]? = some a∧h.get? a=some ob∧OR W.hid ρ h o ob
 tabs:∀ q∈W.tabs,∃ n:Nat,ρ[n]? = some q.2.1∧σ[n]? = some (.tab q.2.2.1 q.2.2.2)
namespace aL
variable {W:Wl} {ρ:List Addr} {σ:List AO} {h:Heap}
theorem stores (R:aL W ρ σ h):∀ a∈ρ,∃ o,h.get? a=some o∧sQ o=true:=λ a ha=>by
 obtain ⟨n,hn,e⟩:=List.mem_iff_getElem.mp ha
 have hs:n<σ.length:=R.len▸hn
 obtain ⟨a',ob,e1,e2,r⟩:=R.objs n σ[n] (List.getElem?_eq_getElem hs)
 rw [List.getElem?_eq_getElem hn] at e1
 cases e1
 exact ⟨ob,e▸e2,r.sQ⟩
theorem CW (R:aL W ρ σ h) {a:Addr} {o:Obj} (e:h.get? a=some o) (hs:sQ o=false):a∉ρ:=λ m=>by
 obtain ⟨o',e',q⟩:=R.stores a m
 rw [e] at e'; cases e'; rw [hs] at q; cases q
theorem muts (R:aL W ρ σ h):cE W.hid h ρ:=λ a ha=>by
 obtain ⟨n,hn,e⟩:=List.mem_iff_getElem.mp ha
 have hs:n<σ.length:=R.len▸hn
 obtain ⟨a',ob,e1,e2,r⟩:=R.objs n σ[n] (List.getElem?_eq_getElem hs)
 rw [List.getElem?_eq_getElem hn] at e1
 cases e1
 exact ⟨ob,e▸e2,.inl r.ql⟩
theorem tB (O:W.Ok) (R:aL W ρ σ h):W.K.In h:=O.tB.keeps R.base
theorem lim (O:W.Ok) (R:aL W ρ σ h):h.NoLimit:=O.lim.keeps R.base
theorem keeps {h':Heap} (R:aL W ρ σ h) (P:aH [] h h'):aL W ρ σ h':=by
 refine ⟨λ b o e=>P.keep b o (R.base b o e) (by simp),R.fresh,R.len,R.nodup,λ a ha=>Nat.lt_of_lt_of_le (R.z9 a ha) P.size,λ n o e=>?_,R.tabs⟩
 obtain ⟨a,ob,e1,e2,r⟩:=R.objs n o e
 have:=r.mono (δ:=[]) (λ a ha=>by cases ha) P
 rw [List.append_nil] at this
 exact ⟨a,ob,e1,P.keep a ob e2 (by simp),this⟩
end aL
structure Rm (d:Nat) (A:Around):Prop where
 handled:A.handled=none
 depth:A.depth+2*d+2<recursionLimit
 units:A.units+20*d+20<cLine
abbrev nD:Value→Shared→Prop:=λ _ _=>False
inductive Post (W:Wl) (S ρ:List Addr) (s:Shared) (Q:List Addr→List AO→Heap→Prop) (s':Shared):Prop
 | mk (h':Heap) (tk':Nat) (δ:List Addr) (σ':List AO) (e:s'={ s with heap:=h',toks:=tk' }) (p:aH (S++ρ) s.heap h') (f:∀ a∈δ,s.heap.objs.size≤a) (r:aL W (ρ++δ) σ' h') (q:Q (ρ++δ) σ' h'):Post W S ρ s Q s'
theorem Post.mono {W:Wl} {S ρ:List Addr} {s s':Shared} {Q Q':List Addr→List AO→Heap→Prop} (P:Post W S ρ s Q s') (h:∀ ρ' σ' h',Q ρ' σ' h'→Q' ρ' σ' h'):Post W S ρ s Q' s':=by
 obtain ⟨h',tk',δ,σ',e,p,f,r,q⟩:=P
 exact ⟨h',tk',δ,σ',e,p,f,r,h _ _ _ q⟩
inductive NK where
 | loc | xy | F0
noncomputable def NK.kind:NK→NameKind
 | .loc=>.local
 | .xy=>.cell
 | .F0=>.globalImplicit
noncomputable abbrev En:=List (Str×NK×Option AV)
noncomputable def addrs (env:Env):List Addr:=env.locals :: env.cells.map (·.2)
def Bc (W:Wl) (x:Str) (v:Value):Prop:=W.mg x=some v∨(W.mg x=none∧W.mb x=some v)
structure Eb (env:Env) (η:En):Prop where
 kind:env.scope.kind=.function
 glob:env.globals=mainGlobals
 blt:env.builtins=builtinsNs
 nd:(η.map (·.1)).Nodup
 kinds:∀ x k v,(x,k,v)∈η→env.kindOf x=some k.kind
 CX:∀ x k v,(x,k,v)∈η→(x==("__debug__" : Str))=false
 xD:env.cells.Pairwise λ x y=>x.2≠y.2
 Aa:∀ c∈env.cells,c.2≠env.locals
structure cT (W:Wl) (env:Env) (η:En) (ρ:List Addr) (h:Heap):Prop where
 ok:Eb env η
 out:∀ a∈addrs env,a∉ρ
 lt:∀ a∈addrs env,a<h.objs.size
 A3:∀ a∈addrs env,W.hb.get? a=none
 Bd:cE W.hid h (addrs env)
 locs:∃ m,h.Ns env.locals m∧∀ x v,(x,.loc,some v)∈η→∃ w,m x=some w∧VR W.hid ρ h v w
 cells:∀ x v,(x,.xy,v)∈η→∃ c w,env.cells.lookup x=some c∧h.IsCell c w∧∀ a,v=some a→∃ w',w=some w'∧VR W.hid ρ h a w'
 we:∀ x v,(x,.F0,some v)∈η→∃ w,v=.cst w∧Bc W x w
theorem tO {X:List Addr} {h:Heap} {c:Addr} {v:Option Value} (x:h.IsCell c v):∃ o,h.get? c=some o∧(ql o=true∨(isTup o=true∧c∈X)):=by
 obtain ⟨o,e,d⟩:=x
 exact ⟨o,e,.inl (by unfold ql; rw [d])⟩
theorem cT.mono {W:Wl} {env:Env} {η:En} {ρ δ:List Addr} {h h':Heap} (F:cT W env η ρ h) (M:cE W.hid h ρ) (P:aH ρ h h') (f:∀ a∈δ,h.objs.size≤a):cT W env η (ρ++δ) h':=by
 refine ⟨F.ok,λ a ha m=>?_,λ a ha=>Nat.lt_of_lt_of_le (F.lt a ha) P.size,F.A3,λ a ha=>(let ⟨o,e,q⟩:=F.Bd a ha; ⟨o,P.keep _ _ e (F.out a ha),q⟩),?_,λ x v hv=>?_,F.we⟩
 · rcases List.mem_append.mp m with m | m
   · exact F.out a ha m
   · exact absurd (F.lt a ha) (Nat.not_lt.mpr (f a m))
 · obtain ⟨m,⟨o,es,ep,ho,r⟩,hv⟩:=F.locs
   refine ⟨m,⟨o,es,ep,P.keep _ _ ho (F.out _ (List.mem_cons_self ..)),r⟩,λ x v q=>?_⟩
   obtain ⟨w,e,z⟩:=hv x v q
   exact ⟨w,e,z.mono M P⟩
 · obtain ⟨c,w,e1,⟨o,ho,hd⟩,e3⟩:=F.cells x v hv
   have hc:c∈addrs env:=List.mem_cons_of_mem _ (List.mem_map.mpr ⟨(x,c),mem_of_lookup e1,rfl⟩)
   refine ⟨c,w,e1,⟨o,P.keep _ _ ho (F.out c hc),hd⟩,λ a ha=>?_⟩
   obtain ⟨w',q,z⟩:=e3 a ha
   exact ⟨w',q,z.mono M P⟩
inductive QV (W:Wl) (Q:AV→List AO→Prop) (v:Value) (ρ':List Addr) (σ':List AO) (h':Heap):Prop
 | mk (av:AV) (r:VR W.hid ρ' h' av v) (q:Q av σ'):QV W Q v ρ' σ' h'
inductive RB (W:Wl) (Q:List AV→List AO→Prop) (v:List Value) (ρ':List Addr) (σ':List AO) (h':Heap):Prop
 | mk (av:List AV) (r:bh W.hid ρ' h' av v) (q:Q av σ'):RB W Q v ρ' σ' h'
section
variable (W:Wl) (d:Nat)
def aT (env:Env) (e:Expr) (η:En) (σ:List AO) (Q:AV→List AO→Prop):Prop :=
 ∀ A s ρ,Rm d A→aL W ρ σ s.heap→cT W env η ρ s.heap→wpAny W.M A (eval e env) (λ v s'=>Post W [] ρ s (QV W Q v) s') nD s
def mX (env:Env) (pos:Pos) (es:List Expr) (η:En) (σ:List AO) (Q:List AV→List AO→Prop):Prop :=
 ∀ A s ρ,Rm d A→aL W ρ σ s.heap→cT W env η ρ s.heap→wpAny W.M A (spliced (backTo pos (starEach es env))) (λ v s'=>Post W [] ρ s (RB W Q v) s') nD s
def bY (env:Env) (e:Expr) (η:En) (σ:List AO) (Q:Bool→List AO→Prop):Prop :=
 ∀ A s ρ,Rm d A→aL W ρ σ s.heap→cT W env η ρ s.heap→wpAny W.M A (isTrue e env (eval e env)) (λ b s'=>Post W [] ρ s (λ _ σ' _=>Q b σ') s') nD s
def xG (as:List AV) (t:List Value→Sem Value) (σ:List AO) (Q:AV→List AO→Prop):Prop :=
 ∀ A s ρ vs,Rm d A→aL W ρ σ s.heap→bh W.hid ρ s.heap as vs→wpAny W.M A (t vs) (λ v s'=>Post W [] ρ s (QV W Q v) s') nD s
def bf (a:AV) (σ:List AO) (Q:Bool→List AO→Prop):Prop :=
 ∀ A s ρ v,Rm d A→aL W ρ σ s.heap→VR W.hid ρ s.heap a v→wpAny W.M A (truthy v) (λ b s'=>Post W [] ρ s (λ _ σ' _=>Q b σ') s') nD s
noncomputable abbrev aU (op:Operator) (a b:AV):=xG W d [a,b] λ vs=>match vs with
 | [x,y]=>binaryOp op x y
 | _=>unsupported ""
noncomputable abbrev qD (op:Operator) (a b:AV):=xG W d [a,b] λ vs=>match vs with
 | [x,y]=>inplaceOp op x y
 | _=>unsupported ""
noncomputable abbrev aA (op:CmpOp) (a b:AV):=xG W d [a,b] λ vs=>match vs with
 | [x,y]=>compareOp op x y
 | _=>unsupported ""
noncomputable abbrev F1 (op:UnaryOp) (a:AV):=xG W d [a] λ vs=>match vs with
 | [x]=>unaryOp op x
 | _=>unsupported ""
def ah (f:AV) (as:List AV) (σ:List AO) (Q:AV→List AO→Prop):Prop :=
 ∀ A s ρ v vs,Rm d A→aL W ρ σ s.heap→VR W.hid ρ s.heap f v→bh W.hid ρ s.heap as vs →
  codeAny W.M A (.call v ⟨vs,[]⟩) (λ r s'=>match r with | .ok (.ret v)=>Post W [] ρ s (QV W Q v) s' | .ok _=>False | .error e=>nD e s') s
def ao (f:AV) (as:List AV) (σ:List AO) (Q:AV→List AO→Prop):Prop :=
 ∀ A s ρ v vs,Rm d A→aL W ρ σ s.heap→VR W.hid ρ s.heap f v→bh W.hid ρ s.heap as vs→wpAny W.M A (call v vs) (λ v s'=>Post W [] ρ s (QV W Q v) s') nD s
inductive Fl where
 | next | brk | cont
 | ret (v:AV)
inductive MT (W:Wl) (ρ:List Addr) (h:Heap):Fl→Flow→Prop
 | next:MT W ρ h .next .next
 | brk:MT W ρ h .brk .brk
 | cont:MT W ρ h .cont .cont
 | ret {a:AV} {v:Value}:VR W.hid ρ h a v→MT W ρ h (.ret a) (.ret v)
inductive QF (env:Env) (Q:Fl→En→List AO→Prop) (f:Flow) (ρ':List Addr) (σ':List AO) (h':Heap):Prop
 | mk (fl:Fl) (η':En) (F:cT W env η' ρ' h') (r:MT W ρ' h' fl f) (q:Q fl η' σ'):QF env Q f ρ' σ' h'
def iP (env:Env) (st:Stmt) (η:En) (σ:List AO) (Q:Fl→En→List AO→Prop):Prop :=
 ∀ A s ρ,Rm d A→aL W ρ σ s.heap→cT W env η ρ s.heap→wpAny W.M A (exec st env) (λ f s'=>Post W (addrs env) ρ s (QF W env Q f) s') nD s
def cF (env:Env) (sts:List Stmt) (η:En) (σ:List AO) (Q:Fl→En→List AO→Prop):Prop :=
 ∀ A s ρ,Rm d A→aL W ρ σ s.heap→cT W env η ρ s.heap→wpAny W.M A (execs sts env) (λ f s'=>Post W (addrs env) ρ s (QF W env Q f) s') nD s
def Ab (env:Env) (t:Expr) (v:AV) (η:En) (σ:List AO) (Q:En→List AO→Prop):Prop :=
 ∀ A s ρ w,Rm d A→aL W ρ σ s.heap→cT W env η ρ s.heap→VR W.hid ρ s.heap v w→wpAny W.M A (assign t env w) (λ _ s'=>Post W (addrs env) ρ s (λ ρ' σ' h'=>∃ η',cT W env η' ρ' h'∧Q η' σ') s') nD s
end
section
variable {W:Wl} {d:Nat}
theorem ah.w {f:AV} {as:List AV} {σ:List AO} {Q:AV→List AO→Prop} (h:ah W d f as σ Q):ao W d f as σ Q:=λ A s ρ v vs hr R hf hv =>
 wpAny_call (Q:=λ v s'=>Post W [] ρ s (QV W Q v) s') (h A s ρ v vs hr R hf hv)
theorem Post.here {S ρ:List Addr} {s:Shared} {σ:List AO} {Q:List Addr→List AO→Heap→Prop} (R:aL W ρ σ s.heap) (q:Q ρ σ s.heap) (tk:Nat):Post W S ρ s Q { s with toks:=tk } :=
 ⟨s.heap,tk,[],σ,rfl,.refl _ _,(λ _ h=>nomatch h),(by rw [List.append_nil]; exact R),(by rw [List.append_nil]; exact q)⟩
theorem Post.chain {S ρ δ:List Addr} {s:Shared} {h₁:Heap} {tk₁:Nat} {Q:List Addr→List AO→Heap→Prop} {c7:Shared} (o4:aH (S++ρ) s.heap h₁) (tW:∀ a∈δ,s.heap.objs.size≤a)
 (zP:Post W S (ρ++δ) { s with heap:=h₁,toks:=tk₁ } Q c7):Post W S ρ s Q c7:=by
 obtain ⟨aF,aJ,δ₂,ai,e,p,f,r,q⟩:=zP
 refine ⟨aF,aJ,δ++δ₂,ai,e,?_,λ a ha=>?_,by rw [← List.append_assoc]; exact r,by rw [← List.append_assoc]; exact q⟩
 · exact o4.trans tW (by rw [List.append_assoc]; exact p)
 · rcases List.mem_append.mp ha with ha | ha
   · exact tW a ha
   · exact Nat.le_trans o4.size (f a ha)
theorem Post.weaken {S T ρ:List Addr} {s s':Shared} {Q:List Addr→List AO→Heap→Prop} (P:Post W S ρ s Q s') (h:∀ a∈S,a∈T):Post W T ρ s Q s':=by
 obtain ⟨h',tk',δ,σ',e,p,f,r,q⟩:=P
 exact ⟨h',tk',δ,σ',e,p.weaken λ a ha=>by rcases List.mem_append.mp ha with m | m; exact List.mem_append_left _ (h a m); exact List.mem_append_right _ m,f,r,q⟩
theorem Post.Cf {T ρ:List Addr} {s s':Shared} {Q:List Addr→List AO→Heap→Prop} (P:Post W [] ρ s Q s'):Post W T ρ s Q s':=P.weaken λ _ h=>nomatch h
theorem aM {α:Type} {t:Sem α} {A:Around} {s:Shared} {ρ:List Addr} {Q₁:α→List Addr→List AO→Heap→Prop} {E:Value→Shared→Prop} {B:α→Shared→Prop}
 (h:wpAny W.M A t (λ v s'=>Post W [] ρ s (Q₁ v) s') nD s)
 (k:∀ v h₁ tk₁ δ af,aH ρ s.heap h₁→(∀ a∈δ,s.heap.objs.size≤a)→aL W (ρ++δ) af h₁→Q₁ v (ρ++δ) af h₁→B v { s with heap:=h₁,toks:=tk₁ }) :
 wpAny W.M A t B E s:=by
 refine wpAny_mono h (λ v s' p=>?_) (λ _ _ x=>x.elim)
 obtain ⟨h₁,tk₁,δ,af,rfl,p,f,r,q⟩:=p
 exact k v h₁ tk₁ δ af p f r q
variable {env:Env} {η:En} {σ:List AO}
theorem aT.mono {e:Expr} {Q Q':AV→List AO→Prop} (h:aT W d env e η σ Q) (q:∀ v σ',Q v σ'→Q' v σ'):aT W d env e η σ Q':=λ A s ρ hr R F =>
 wpAny_mono (h A s ρ hr R F) (λ v s' p=>p.mono λ _ _ _ ⟨av,x,y⟩=>⟨av,x,q _ _ y⟩) λ _ _ x=>x
theorem xG.mono {as:List AV} {t:List Value→Sem Value} {Q Q':AV→List AO→Prop} (h:xG W d as t σ Q) (q:∀ v σ',Q v σ'→Q' v σ'):xG W d as t σ Q':=λ A s ρ vs hr R F =>
 wpAny_mono (h A s ρ vs hr R F) (λ v s' p=>p.mono λ _ _ _ ⟨av,x,y⟩=>⟨av,x,q _ _ y⟩) λ _ _ x=>x
theorem aT.int {i:Int} {k:Nat} {pos:Pos} {Q:AV→List AO→Prop} (h:Q (.int i) σ):aT W d env (.Constant (.int i) k pos) η σ Q:=λ A s ρ hr R F =>
 wpAny_Constant_int (Post.here R ⟨_,.int i _,h⟩ _)
theorem aT.bool {i:Bool} {k:Nat} {pos:Pos} {Q:AV→List AO→Prop} (h:Q (.bool i) σ):aT W d env (.Constant (.bool i) k pos) η σ Q:=λ A s ρ hr R F =>
 Constant_bool (Post.here R ⟨_,.bool i,h⟩ s.toks)
theorem aT.none {k:Nat} {pos:Pos} {Q:AV→List AO→Prop} (h:Q .none σ):aT W d env (.Constant .none k pos) η σ Q:=λ A s ρ hr R F =>
 Constant_none (Post.here R ⟨_,.none,h⟩ s.toks)
inductive yi:En→Str→AV→Prop
 | hd {x:Str} {k:NK} {v:AV} {η:En}:yi ((x,k,some v) :: η) x v
 | tl {x:Str} {v:AV} {y:Str×NK×Option AV} {η:En}:yi η x v→yi (y :: η) x v
theorem yi.mem {x:Str} {v:AV} {η:En} (h:yi η x v):∃ k,(x,k,some v)∈η:=by
 induction h with
 | hd=>exact ⟨_,.head _⟩
 | tl h ih=>exact ih.elim λ k m=>⟨k,.tail _ m⟩
theorem cW {x:Str} {v:AV} {A:Around} {E:Value→Shared→Prop} {s:Shared} {ρ:List Addr} {B:Value→Shared→Prop} (O:W.Ok) (hv:yi η x v) (R:aL W ρ σ s.heap) (F:cT W env η ρ s.heap)
 (k:∀ w,VR W.hid ρ s.heap v w→B w s):wpAny W.M A (loadName env x) B E s:=by
 obtain ⟨nk,m⟩:=hv.mem
 have hk:=F.ok.kinds _ _ _ m
 cases nk with
 | loc =>
  obtain ⟨mm,hn,hm⟩:=F.locs
  obtain ⟨w,e,z⟩:=hm x v m
  exact wpAny_loadName_local F.ok.kind hk hn e (k w z)
 | xy =>
  obtain ⟨c,w,e1,e2,e3⟩:=F.cells x _ m
  obtain ⟨w',rfl,z⟩:=e3 v rfl
  exact wpAny_loadName_cell F.ok.kind hk e1 e2 (k w' z)
 | F0 =>
  obtain ⟨w,rfl,g⟩:=F.we x v m
  rw [loadName_read F.ok.kind hk]
  rcases g with g | ⟨g1,g2⟩
  · exact loadGlobal_global (by rw [F.ok.glob]; exact O.g.keeps R.base) g (k w (.cst w))
  · exact loadGlobal_builtin (by rw [F.ok.glob]; exact O.g.keeps R.base) g1 (by rw [F.ok.blt]; exact O.b.keeps R.base) g2 (k w (.cst w))
theorem yi.CX {x:Str} {v:AV} {ρ:List Addr} {h:Heap} (hv:yi η x v) (F:cT W env η ρ h):(x==("__debug__" : Str))=false:=by
 obtain ⟨k,m⟩:=hv.mem
 exact F.ok.CX _ _ _ m
theorem aT.name (O:W.Ok) {x:Str} {pos:Pos} {v:AV} {Q:AV→List AO→Prop} (hv:yi η x v) (h:Q v σ):aT W d env (.Name x pos) η σ Q:=λ A s ρ hr R F =>
 wpAny_Name (cW O hv R F λ w z=>Post.here R ⟨_,z,h⟩ s.toks) (hv.CX F)
theorem aT.binop {l r:Expr} {op:Operator} {pos:Pos} {Q:AV→List AO→Prop} (h:aT W d env l η σ λ a af=>aT W d env r η af λ b ai=>aU W d op a b ai Q) :
 aT W d env (.BinOp l op r pos) η σ Q:=λ A s ρ hr R F=>by
 refine wpAny_BinOp (aM (h A s ρ hr R F) λ v h₁ tk₁ δ af p f R₁ ⟨a,va,q⟩=>?_)
 refine aM (q A _ _ hr R₁ (F.mono R.muts p f)) λ w aF aJ δ₂ ai aN aR R₂ ⟨b,vb,bF⟩=>?_
 refine wpAny_mono (bF A _ _ _ hr R₂ (.cons (va.mono R₁.muts aN) (.cons vb .nil))) (λ x s' z=>?_) λ _ _ x=>x
 exact Post.chain p f (Post.chain aN aR z)
theorem aT.unop {x:Expr} {op:UnaryOp} {pos:Pos} {Q:AV→List AO→Prop} (h:aT W d env x η σ λ a af=>F1 W d op a af Q) :
 aT W d env (.UnaryOp op x pos) η σ Q:=λ A s ρ hr R F=>by
 refine UnaryOp_ (aM (h A s ρ hr R F) λ v h₁ tk₁ δ af p f R₁ ⟨a,va,q⟩=>?_)
 refine wpAny_mono (q A _ _ _ hr R₁ (.cons va .nil)) (λ x s' z=>?_) λ _ _ x=>x
 exact Post.chain p f z
theorem aT.cmp {l r:Expr} {op:CmpOp} {pos:Pos} {Q:AV→List AO→Prop} (h:aT W d env l η σ λ a af=>aT W d env r η af λ b ai=>aA W d op a b ai Q)
 (hm:behindInMarks op r=false):aT W d env (.Compare l [op] [r] pos) η σ Q:=λ A s ρ hr R F=>by
 refine wpAny_Compare1 (aM (h A s ρ hr R F) λ v h₁ tk₁ δ af p f R₁ ⟨a,va,q⟩=>?_) hm
 refine aM (q A _ _ hr R₁ (F.mono R.muts p f)) λ w aF aJ δ₂ ai aN aR R₂ ⟨b,vb,bF⟩=>?_
 refine wpAny_mono (bF A _ _ _ hr R₂ (.cons (va.mono R₁.muts aN) (.cons vb .nil))) (λ x s' z=>?_) λ _ _ x=>x
 exact Post.chain p f (Post.chain aN aR z)
end
section
variable {W:Wl} {d:Nat} {env:Env} {η:En} {σ:List AO}
section
variable {a b:Int} {Q:AV→List AO→Prop}
theorem yl {t:Value→Value→Sem Value} {c:Int} (k:∀ (A:Around) (s:Shared) (x y:Tok) (B:Value→Shared→Prop),Rm d A→B (.int c s.toks) { s with toks:=s.toks+1 }→wpAny W.M A (t (.int a x) (.int b y)) B nD s)
 (h:Q (.int c) σ):xG W d [.int a,.int b] (λ vs=>match vs with | [x,y]=>t x y | _=>unsupported "") σ Q:=by
 intro A s ρ vs hr R hv
 exact hv.aq λ _ _ h1 h2=>by exact h2.aq λ _ _ h2 h3=>by refine bh.aW h3 ?_; refine VR.cC h1 λ _=>?_; refine VR.cC h2 λ _=>?_; exact k A s _ _ _ hr (Post.here R ⟨_,.int _ _,h⟩ _)
theorem CY {t:Value→Value→Sem Value} {c:Bool} (k:∀ (A:Around) (s:Shared) (x y:Tok) (B:Value→Shared→Prop),Rm d A→B (.bool c) s→wpAny W.M A (t (.int a x) (.int b y)) B nD s)
 (h:Q (.bool c) σ):xG W d [.int a,.int b] (λ vs=>match vs with | [x,y]=>t x y | _=>unsupported "") σ Q:=by
 intro A s ρ vs hr R hv
 exact hv.aq λ _ _ h1 h2=>by exact h2.aq λ _ _ h2 h3=>by refine bh.aW h3 ?_; refine VR.cC h1 λ _=>?_; refine VR.cC h2 λ _=>?_; exact k A s _ _ _ hr (Post.here R ⟨_,.bool _,h⟩ s.toks)
theorem aU.add (h:Q (.int (a+b)) σ):aU W d .Add (.int a) (.int b) σ Q:=yl (t:=binaryOp .Add) (λ A s x y B hr q=>PyProof.Rows.add_int q) h
theorem aU.sub (h:Q (.int (a-b)) σ):aU W d .Sub (.int a) (.int b) σ Q:=yl (t:=binaryOp .Sub) (λ A s x y B hr q=>PyProof.Rows.sub_int q) h
theorem Io (hm:a.natAbs<2^64∨b.natAbs<2^64):IntMulOk a b:=hm.elim (λ h=>.of_left (intBits_le h)) (λ h=>.of_right (intBits_le h))
theorem aU.mul (hm:a.natAbs<2^64∨b.natAbs<2^64) (h:Q (.int (a*b)) σ):aU W d .Mult (.int a) (.int b) σ Q:=yl (t:=binaryOp .Mult) (λ A s x y B hr q=>PyProof.Rows.mul_int q (Io hm)) h
theorem aU.mod (hb:0<b) (h:Q (.int (a%b)) σ):aU W d .Mod (.int a) (.int b) σ Q :=
 yl (t:=binaryOp .Mod) (λ A s x y B hr q=>PyProof.Rows.mod_int (Lq.y hb) (by rw [Int.fmod_eq_emod_of_nonneg a (Lq.w hb)]; exact q)) h
theorem aU.div (hb:0<b) (hb':b<2^30) (h:Q (.int (a / b)) σ):aU W d .FloorDiv (.int a) (.int b) σ Q :=
 yl (t:=binaryOp .FloorDiv) (λ A s x y B hr q=>PyProof.Rows.floordiv_int (Lq.y hb) (by rw [Int.fdiv_eq_ediv_of_nonneg a (Lq.w hb)]; exact q) (.inl (PyProof.noPylong_small (by omega)))) h
theorem aU.pow (hn:0≤b) (hb:b≤1000000) (ha:a.natAbs<2^64) (h:Q (.int (a^b.toNat)) σ):aU W d .Pow (.int a) (.int b) σ Q :=
 yl (t:=binaryOp .Pow) (λ A s x y B hr q=>pow_int_small hn hb ha q) h
theorem qD.add (h:Q (.int (a+b)) σ):qD W d .Add (.int a) (.int b) σ Q:=yl (t:=inplaceOp .Add) (λ A s x y B hr q=>PyProof.Rows.iadd_int q) h
theorem qD.sub (h:Q (.int (a-b)) σ):qD W d .Sub (.int a) (.int b) σ Q:=yl (t:=inplaceOp .Sub) (λ A s x y B hr q=>PyProof.Rows.isub_int q) h
theorem qD.mul (hm:a.natAbs<2^64∨b.natAbs<2^64) (h:Q (.int (a*b)) σ):qD W d .Mult (.int a) (.int b) σ Q:=yl (t:=inplaceOp .Mult) (λ A s x y B hr q=>PyProof.Rows.imul_int q (Io hm)) h
theorem qD.div (hb:0<b) (hb':b<2^30) (h:Q (.int (a / b)) σ):qD W d .FloorDiv (.int a) (.int b) σ Q :=
 yl (t:=inplaceOp .FloorDiv) (λ A s x y B hr q=>PyProof.Rows.ifloordiv_int (Lq.y hb) (by rw [Int.fdiv_eq_ediv_of_nonneg a (Lq.w hb)]; exact q) (.inl (PyProof.noPylong_small (by omega)))) h
theorem aA.lt (h:Q (.bool (decide (a<b))) σ):aA W d .Lt (.int a) (.int b) σ Q:=CY (t:=compareOp .Lt) (λ A s x y B hr q=>PyProof.Rows.lt_int q) h
theorem aA.gt (h:Q (.bool (decide (b<a))) σ):aA W d .Gt (.int a) (.int b) σ Q:=CY (t:=compareOp .Gt) (λ A s x y B hr q=>PyProof.Rows.gt_int q) h
theorem aA.le (h:Q (.bool (decide (a≤b))) σ):aA W d .LtE (.int a) (.int b) σ Q:=CY (t:=compareOp .LtE) (λ A s x y B hr q=>PyProof.Rows.le_int q) h
theorem aA.ge (h:Q (.bool (decide (b≤a))) σ):aA W d .GtE (.int a) (.int b) σ Q:=CY (t:=compareOp .GtE) (λ A s x y B hr q=>PyProof.Rows.ge_int q) h
theorem aA.eq (h:Q (.bool (decide (a=b))) σ):aA W d .Eq (.int a) (.int b) σ Q:=CY (t:=compareOp .Eq) (λ A s x y B hr q=>PyProof.Rows.eq_int (by rw [show (a==b)=decide (a=b) from by by_cases e:a=b<;>simp [e]]; exact q)) h
theorem aA.ne (h:Q (.bool (decide (a≠b))) σ):aA W d .NotEq (.int a) (.int b) σ Q:=CY (t:=compareOp .NotEq) (λ A s x y B hr q=>PyProof.Rows.ne_int (by rw [show (a != b)=decide (a≠b) from by by_cases e:a=b<;>simp [e]]; exact q)) h
theorem F1.neg (h:Q (.int (-a)) σ):F1 W d .USub (.int a) σ Q:=by
 intro A s ρ vs hr R hv
 exact hv.aq λ _ _ h1 h2=>by refine bh.aW h2 ?_; refine VR.cC h1 λ _=>?_; exact PyProof.Rows.neg_int (Post.here R ⟨_,.int _ _,h⟩ _)
end
theorem bf.bool {b:Bool} {Q:Bool→List AO→Prop} (h:Q b σ):bf W d (.bool b) σ Q:=by
 intro A s ρ v hr R hv; refine VR.qB hv ?_; exact wpAny_truthy_bool (Post.here R h s.toks)
theorem bf.int {a:Int} {Q:Bool→List AO→Prop} (h:Q (decide (a≠0)) σ):bf W d (.int a) σ Q:=by
 intro A s ρ v hr R hv; refine VR.cC hv λ _=>?_
 exact PyProof.Rows.truthy_int (by rw [show (a != 0)=decide (a≠0) from by by_cases e:a=0<;>simp [e]]; exact Post.here R h s.toks)
theorem bf.none {Q:Bool→List AO→Prop} (h:Q false σ):bf W d .none σ Q:=by
 intro A s ρ v hr R hv; refine VR.ze hv ?_; exact PyProof.Rows.truthy_none (Post.here R h s.toks)
theorem bY.plain {e:Expr} {Q:Bool→List AO→Prop} (h:aT W d env e η σ λ a af=>bf W d a af Q)
 (he:∀ whole,isTrue e env whole=(do let v ← whole; standAt e.pos; holding [v] (truthy v))):bY W d env e η σ Q:=λ A s ρ hr R F=>by
 refine isTrue_plain (aM (h A s ρ hr R F) λ v h₁ tk₁ δ af p f R₁ ⟨a,va,q⟩=>?_) (he _)
 exact wpAny_mono (q A _ _ _ hr R₁ va) (λ x s' z=>Post.chain p f z) λ _ _ x=>x
theorem bY.name {x:Str} {pos:Pos} {Q:Bool→List AO→Prop} (h:aT W d env (.Name x pos) η σ λ a af=>bf W d a af Q):bY W d env (.Name x pos) η σ Q:=.plain h λ _=>rfl
theorem bY.call {f as ks} {pos:Pos} {Q:Bool→List AO→Prop} (h:aT W d env (.Call f as ks pos) η σ λ a af=>bf W d a af Q):bY W d env (.Call f as ks pos) η σ Q:=.plain h λ _=>rfl
theorem bY.attr {x n} {pos:Pos} {Q:Bool→List AO→Prop} (h:aT W d env (.Attribute x n pos) η σ λ a af=>bf W d a af Q):bY W d env (.Attribute x n pos) η σ Q:=.plain h λ _=>rfl
theorem bY.J5 {x n} {pos:Pos} {Q:Bool→List AO→Prop} (h:aT W d env (.Subscript x n pos) η σ λ a af=>bf W d a af Q):bY W d env (.Subscript x n pos) η σ Q:=.plain h λ _=>rfl
theorem bY.binop {x o y} {pos:Pos} {Q:Bool→List AO→Prop} (h:aT W d env (.BinOp x o y pos) η σ λ a af=>bf W d a af Q):bY W d env (.BinOp x o y pos) η σ Q:=.plain h λ _=>rfl
theorem bY.not {x:Expr} {pos:Pos} {Q:Bool→List AO→Prop} (h:bY W d env x η σ λ c σ'=>Q (!c) σ'):bY W d env (.UnaryOp .Not x pos) η σ Q:=λ A s ρ hr R F=>isTrue_not (h A s ρ hr R F)
theorem bY.Ec {pos:Pos} {Q:Bool→List AO→Prop} (h:Q true σ):bY W d env (.BoolOp .And [] pos) η σ Q:=λ A s ρ hr R F=>isTrue_and_nil (Post.here R h s.toks)
theorem bY.Ip {pos:Pos} {Q:Bool→List AO→Prop} (h:Q false σ):bY W d env (.BoolOp .Or [] pos) η σ Q:=λ A s ρ hr R F=>isTrue_or_nil (Post.here R h s.toks)
theorem bY.and {x:Expr} {rest:List Expr} {pos:Pos} {Q:Bool→List AO→Prop} (h:bY W d env x η σ λ c σ'=>if c=true then bY W d env (.BoolOp .And rest pos) η σ' Q else Q false σ') :
 bY W d env (.BoolOp .And (x :: rest) pos) η σ Q:=λ A s ρ hr R F=>by
 refine isTrue_and (aM (h A s ρ hr R F) λ c h₁ tk₁ δ af p f R₁ q=>?_)
 cases c with
 | false =>
  have q:Q false af:=q
  exact Post.chain (S:=[]) (s:=s) p f (Post.here (s:={ s with heap:=h₁,toks:=tk₁ }) (Q:=λ _ σ' _=>Q false σ') R₁ q tk₁)
 | true=>exact wpAny_mono (q A _ _ hr R₁ (F.mono R.muts p f)) (λ x s' z=>Post.chain p f z) λ _ _ x=>x
theorem bY.or {x:Expr} {rest:List Expr} {pos:Pos} {Q:Bool→List AO→Prop} (h:bY W d env x η σ λ c σ'=>if c=true then Q true σ' else bY W d env (.BoolOp .Or rest pos) η σ' Q) :
 bY W d env (.BoolOp .Or (x :: rest) pos) η σ Q:=λ A s ρ hr R F=>by
 refine isTrue_or (aM (h A s ρ hr R F) λ c h₁ tk₁ δ af p f R₁ q=>?_)
 cases c with
 | true =>
  have q:Q true af:=q
  exact Post.chain (S:=[]) (s:=s) p f (Post.here (s:={ s with heap:=h₁,toks:=tk₁ }) (Q:=λ _ σ' _=>Q true σ') R₁ q tk₁)
 | false=>exact wpAny_mono (q A _ _ hr R₁ (F.mono R.muts p f)) (λ x s' z=>Post.chain p f z) λ _ _ x=>x
theorem bY.cmp {l r:Expr} {op:CmpOp} {pos:Pos} {Q:Bool→List AO→Prop} (h:aT W d env l η σ λ a af=>aT W d env r η af λ b ai=>aA W d op a b ai λ c az=>bf W d c az Q)
 (hm:behindInMarks op r=false):bY W d env (.Compare l [op] [r] pos) η σ Q:=λ A s ρ hr R F=>by
 refine wpAny_isTrue_Compare1 (aM (h A s ρ hr R F) λ v h₁ tk₁ δ af p f R₁ ⟨a,va,q⟩=>?_) hm
 refine aM (q A _ _ hr R₁ (F.mono R.muts p f)) λ w aF aJ δ₂ ai aN aR R₂ ⟨b,vb,bF⟩=>?_
 refine aM (bF A _ _ _ hr R₂ (.cons (va.mono R₁.muts aN) (.cons vb .nil))) λ x cz c9 δ₃ az cA f₃ R₃ ⟨c,vc,nC⟩=>?_
 exact wpAny_mono (nC A _ _ _ hr R₃ vc) (λ x s' z=>Post.chain p f (Post.chain aN aR (Post.chain cA f₃ z))) λ _ _ x=>x
theorem aT.MU {t b o:Expr} {pos:Pos} {Q:AV→List AO→Prop} (h:bY W d env t η σ λ c af=>if c=true then aT W d env b η af Q else aT W d env o η af Q):aT W d env (.IfExp t b o pos) η σ Q:=λ A s ρ hr R F=>by
 refine IfExp_ (aM (h A s ρ hr R F) λ c h₁ tk₁ δ af p f R₁ q=>?_)
 cases c<;>exact wpAny_mono (q A _ _ hr R₁ (F.mono R.muts p f)) (λ x s' z=>Post.chain p f z) λ _ _ x=>x
theorem aT.Cg {op:BoolOp} {e:Expr} {pos:Pos} {Q:AV→List AO→Prop} (h:aT W d env e η σ Q):aT W d env (.BoolOp op [e] pos) η σ Q:=λ A s ρ hr R F=>BoolOp_one (h A s ρ hr R F)
theorem aT.and {zQ oW:Expr} {rest:List Expr} {pos:Pos} {Q:AV→List AO→Prop} (h:aT W d env zQ η σ λ a af=>bf W d a af λ c ai=>if c=true then aT W d env (.BoolOp .And (oW :: rest) pos) η ai Q else Q a ai) :
 aT W d env (.BoolOp .And (zQ :: oW :: rest) pos) η σ Q:=λ A s ρ hr R F=>by
 refine BoolOp_and (aM (h A s ρ hr R F) λ v h₁ tk₁ δ af p f R₁ ⟨a,va,q⟩=>?_)
 refine aM (q A _ _ _ hr R₁ va) λ c aF aJ δ₂ ai aN aR R₂ bF=>?_
 cases c with
 | false=>exact Post.chain p f (Post.chain aN aR (Post.here (s:={ s with heap:=aF,toks:=aJ }) R₂ ⟨a,va.mono R₁.muts aN,bF⟩ aJ))
 | true=>exact wpAny_mono (bF A _ _ hr R₂ ((F.mono R.muts p f).mono R₁.muts aN aR)) (λ x s' z=>Post.chain p f (Post.chain aN aR z)) λ _ _ x=>x
theorem aT.or {zQ oW:Expr} {rest:List Expr} {pos:Pos} {Q:AV→List AO→Prop} (h:aT W d env zQ η σ λ a af=>bf W d a af λ c ai=>if c=true then Q a ai else aT W d env (.BoolOp .Or (oW :: rest) pos) η ai Q) :
 aT W d env (.BoolOp .Or (zQ :: oW :: rest) pos) η σ Q:=λ A s ρ hr R F=>by
 refine BoolOp_or (aM (h A s ρ hr R F) λ v h₁ tk₁ δ af p f R₁ ⟨a,va,q⟩=>?_)
 refine aM (q A _ _ _ hr R₁ va) λ c aF aJ δ₂ ai aN aR R₂ bF=>?_
 cases c with
 | true=>exact Post.chain p f (Post.chain aN aR (Post.here (s:={ s with heap:=aF,toks:=aJ }) R₂ ⟨a,va.mono R₁.muts aN,bF⟩ aJ))
 | false=>exact wpAny_mono (bF A _ _ hr R₂ ((F.mono R.muts p f).mono R₁.muts aN aR)) (λ x s' z=>Post.chain p f (Post.chain aN aR z)) λ _ _ x=>x
theorem mX.nil {pos:Pos} {Q:List AV→List AO→Prop} (h:Q [] σ):mX W d env pos [] η σ Q:=λ A s ρ hr R F=>spliced_nil (Post.here R ⟨_,.nil,h⟩ s.toks)
noncomputable def aK (e:Expr):Bool:=!(Nat.beq e.ctorIdx 22)
theorem mX.cons {pos:Pos} {e:Expr} {es:List Expr} {Q:List AV→List AO→Prop} (h:aT W d env e η σ λ a af=>mX W d env pos es η af λ as ai=>Q (a :: as) ai) (hu:aK e=true) :
 mX W d env pos (e :: es) η σ Q:=λ A s ρ hr R F=>by
 have hs:backTo pos (starEach (e :: es) env)=(false,eval e env) :: backTo pos (starEach es env):=by cases e<;>first | rfl | (exact cV hu)
 rw [hs]
 refine spliced_cons (aM (h A s ρ hr R F) λ v h₁ tk₁ δ af p f R₁ ⟨a,va,q⟩=>?_)
 refine aM (q A _ _ hr R₁ (F.mono R.muts p f)) λ ws aF aJ δ₂ ai aN aR R₂ ⟨as,vs,bF⟩=>?_
 exact Post.chain p f (Post.chain aN aR (Post.here (s:={ s with heap:=aF,toks:=aJ }) R₂ ⟨a :: as,.cons (va.mono R₁.muts aN) vs,bF⟩ aJ))
theorem bh.length {X ρ:List Addr} {h:Heap} {as:List AV}:∀ {vs:List Value},bh X ρ h as vs→vs.length=as.length:=by
 induction as with
 | nil=>exact λ hv=>hv.aW rfl
 | cons a as ih=>exact λ hv=>hv.aq λ _ _ _ r=>congrArg Nat.succ (ih r)
theorem vt {S ρ:List Addr} {s:Shared} (R:aL W ρ σ s.heap) (o:Obj) {Q:List Addr→List AO→Heap→Prop} (q:Q ρ σ (s.heap.push o)) (tk:Nat):Post W S ρ s Q { s with heap:=s.heap.push o,toks:=tk } :=
 ⟨_,tk,[],σ,rfl,.push _ _ o,(λ _ h=>nomatch h),by rw [List.append_nil]; exact R.keeps (.push _ _ o),by rw [List.append_nil]; exact q⟩
theorem aT.tuple {elts:List Expr} {k:Nat} {pos:Pos} {Q:AV→List AO→Prop} (h:mX W d env pos elts η σ λ as af=>as.length≤1000∧Q (.tup as) af):aT W d env (.Tuple elts k pos) η σ Q:=λ A s ρ hr R F=>by
 refine Tuple_ (aM (h A s ρ hr R F) λ ws h₁ tk₁ δ af p f R₁ ⟨as,vs,hl,q⟩=>?_)
 refine wpAny_newObj_type (Post.chain p f (vt (s:={ s with heap:=h₁,toks:=tk₁ }) R₁ _ ⟨.tup as,?_,q⟩ tk₁)) ?_
 · show ws.toArray.size≤sizeLine
   rw [List.size_toArray,vs.length,sizeLine]; lia
 · have:=vs.mono (δ:=[]) R₁.muts (.push _ h₁ ({ cls:=.type "tuple",data:=.seq ws.toArray }:Obj))
   rw [List.append_nil] at this
   exact .tup (Heap.get?_push_size _ rfl) (λ m=>absurd (R₁.z9 _ m) (Nat.lt_irrefl _)) this
theorem qF {S ρ:List Addr} {s:Shared} (R:aL W ρ σ s.heap) (o:AO) (ob:Obj) {Q:List Addr→List AO→Heap→Prop} (hf:ob.isFreed=false) (ho:OR W.hid ρ s.heap o ob)
 (q:Q (ρ++[s.heap.objs.size]) (σ++[o]) (s.heap.push ob)) (tk:Nat):Post W S ρ s Q { s with heap:=s.heap.push ob,toks:=tk }:=by
 refine ⟨_,tk,[s.heap.objs.size],σ++[o],rfl,.push _ _ ob,λ a ha=>?_,?_,q⟩
 · rw [List.mem_singleton.mp ha]; exact Nat.le_refl _
 · have P:aH ρ s.heap (s.heap.push ob):=.push _ _ ob
   refine ⟨λ b o e=>Heap.get?_push_of_some _ (R.base b o e),λ a ha=>?_,by rw [List.length_append,List.length_append,R.len]; rfl,?_,λ a ha=>Nat.lt_of_lt_of_le (R.z9 a ha) P.size,λ n o' e=>?_,λ q hq=>?_⟩
   · rcases List.mem_append.mp ha with ha | ha
     · exact R.fresh a ha
     · rw [List.mem_singleton.mp ha]
       cases q:W.hb.get? s.heap.objs.size with
       | none=>rfl
       | some o=>exact absurd (Heap.lt_size (R.base _ _ q)) (Nat.lt_irrefl _)
   · rw [List.nodup_append]
     refine ⟨R.nodup,List.nodup_cons.mpr ⟨by simp,List.nodup_nil⟩,λ a ha b hb=>?_⟩
     rw [List.mem_singleton.mp hb]
     obtain ⟨o,e,_⟩:=R.muts a ha
     exact Nat.ne_of_lt (Heap.lt_size e)
   · by_cases hn:n<σ.length
     · rw [List.getElem?_append_left hn] at e
       obtain ⟨a,Iq,e1,e2,r⟩:=R.objs n o' e
       refine ⟨a,Iq,?_,Heap.get?_push_of_some _ e2,r.mono R.muts P⟩
       rw [List.getElem?_append_left (by rw [R.len]; exact hn)]; exact e1
     · rw [List.getElem?_append_right (Nat.not_lt.mp hn)] at e
       have hz:n-σ.length=0:=by
        cases hz:n-σ.length with
        | zero=>rfl
        | succ k=>rw [hz] at e; simp at e
       rw [hz] at e
       refine sE e ?_
       have hn':n=σ.length:=Lq.nz (by assumption) (by assumption)
       subst hn'
       refine ⟨s.heap.objs.size,ob,?_,Heap.get?_push_size _ hf,ho.mono R.muts P⟩
       rw [List.getElem?_append_right (by rw [R.len]; exact Nat.le_refl _),R.len,Nat.sub_self]
       rfl
   · obtain ⟨m,e1,e2⟩:=R.tabs q hq
     exact ⟨m,(List.getElem?_append_left (List.getElem?_eq_some_iff.mp e1).1).trans e1,(List.getElem?_append_left (List.getElem?_eq_some_iff.mp e2).1).trans e2⟩
theorem aT.list {elts:List Expr} {pos:Pos} {Q:AV→List AO→Prop} (h:mX W d env pos elts η σ λ as af=>as.length≤1000∧Q (.lst af.length) (af++[.lst as])):aT W d env (.List elts pos) η σ Q:=λ A s ρ hr R F=>by
 refine List_ (aM (h A s ρ hr R F) λ ws h₁ tk₁ δ af p f R₁ ⟨as,vs,hl,q⟩=>?_)
 refine wpAny_newObj_type (Post.chain p f (qF (s:={ s with heap:=h₁,toks:=tk₁ }) R₁ (.lst as) _ rfl ⟨ws,0,rfl,vs⟩ ⟨.lst af.length,.lst ?_,q⟩ tk₁)) ?_
 · show ws.toArray.size≤sizeLine
   rw [List.size_toArray,vs.length,sizeLine]; lia
 · rw [List.getElem?_append_right (by rw [R₁.len]; exact Nat.le_refl _),R₁.len,Nat.sub_self]; rfl
end
inductive Up:En→Str→AV→En→Prop
 | loc {x:Str} {v:AV} {o:Option AV} {η:En}:Up ((x,.loc,o) :: η) x v ((x,.loc,some v) :: η)
 | xy {x:Str} {v:AV} {o:Option AV} {η:En}:Up ((x,.xy,o) :: η) x v ((x,.xy,some v) :: η)
 | tl {x:Str} {v:AV} {y:Str×NK×Option AV} {η η':En}:Up η x v η'→Up (y :: η) x v (y :: η')
theorem Up.names {x:Str} {v:AV} {η η':En} (h:Up η x v η'):η'.map (·.1)=η.map (·.1):=by
 induction h with
 | loc=>rfl
 | xy=>rfl
 | tl h ih=>exact congrArg (List.cons _) ih
theorem Up.old {x:Str} {v:AV} {η η':En} (h:Up η x v η'):∃ k o,(k=.loc∨k=.xy)∧(x,k,o)∈η∧(x,k,some v)∈η':=by
 induction h with
 | loc=>exact ⟨_,_,.inl rfl,.head _,.head _⟩
 | xy=>exact ⟨_,_,.inr rfl,.head _,.head _⟩
 | tl h ih=>obtain ⟨k,o,a,b,c⟩:=ih; exact ⟨k,o,a,.tail _ b,.tail _ c⟩
theorem Up.MV {x:Str} {v:AV} {nk:NK} {o:Option AV} {η:En} (nd:(((x,nk,o) :: η).map (·.1)).Nodup) (y:Str) (k:NK) (u:Option AV) (m:(y,k,u)∈(x,nk,some v) :: η):(y=x∧u=some v∧∃ o',(y,k,o')∈(x,nk,o) :: η)∨(y≠x∧(y,k,u)∈(x,nk,o) :: η):=by
 rcases List.mem_cons.mp m with e | m
 · cases e; exact .inl ⟨rfl,rfl,_,.head _⟩
 · exact .inr ⟨λ q=>(List.nodup_cons.mp nd).1 (List.mem_map.mpr ⟨_,m,q⟩),.tail _ m⟩
theorem Up.mem {x:Str} {v:AV} {η η':En} (h:Up η x v η'):(η.map (·.1)).Nodup→∀ y k u,(y,k,u)∈η'→(y=x∧u=some v∧∃ o,(y,k,o)∈η)∨(y≠x∧(y,k,u)∈η):=by
 induction h with
 | loc=>exact Up.MV
 | xy=>exact Up.MV
 | tl h ih =>
  intro nd y k u m
  rcases List.mem_cons.mp m with e | m
  · subst e
    obtain ⟨k',o,_,b,_⟩:=h.old
    exact .inr ⟨λ q=>(List.nodup_cons.mp nd).1 (List.mem_map.mpr ⟨_,b,q.symm⟩),.head _⟩
  · rcases ih (List.nodup_cons.mp nd).2 y k u m with ⟨a,b,o,c⟩ | ⟨a,b⟩
    · exact .inl ⟨a,b,o,.tail _ c⟩
    · exact .inr ⟨a,.tail _ b⟩
section
variable {W:Wl} {d:Nat} {env:Env} {η:En} {σ:List AO}
theorem aL.keepsBut {S ρ:List Addr} {h h':Heap} (R:aL W ρ σ h) (P:aH S h h') (M:cE W.hid h S) (hS:∀ a∈S,a∉ρ∧W.hb.get? a=none):aL W ρ σ h':=by
 refine ⟨λ b o e=>P.keep b o (R.base b o e) λ m=>?_,R.fresh,R.len,R.nodup,λ a ha=>Nat.lt_of_lt_of_le (R.z9 a ha) P.size,λ n o e=>?_,R.tabs⟩
 · have:=(hS b m).2; rw [e] at this; cases this
 · obtain ⟨a,ob,e1,e2,r⟩:=R.objs n o e
   have ha:a∈ρ:=List.mem_of_getElem? e1
   refine ⟨a,ob,e1,P.keep a ob e2 λ m=>(hS a m).1 ha,?_⟩
   have:=r.mono (δ:=[]) M P
   rwa [List.append_nil] at this
theorem pq {X:List Addr} {h:Heap} {L:Addr} {m:Str→Option Value} (x:h.Ns L m):∃ o,h.get? L=some o∧(ql o=true∨(isTup o=true∧L∈X)):=by
 obtain ⟨o,es,ep,e,hd,_⟩:=x
 exact ⟨o,e,.inl (by unfold ql; rw [hd])⟩
theorem kh {h h':Heap} {a:Addr} (hs:Heap.SameBut a h h'):aH [a] h h':=.sameBut hs (.head _)
theorem iQ {x:Str} {v:AV} {w:Value} {η':En} {A:Around} {s:Shared} {ρ:List Addr} {Q:List Addr→List AO→Heap→Prop} (U:Up η x v η') (R:aL W ρ σ s.heap) (F:cT W env η ρ s.heap) (hv:VR W.hid ρ s.heap v w)
 (k:∀ h',cT W env η' ρ h'→aL W ρ σ h'→Q ρ σ h'):wpAny W.M A (storeName env x w) (λ _ s'=>Post W (addrs env) ρ s Q s') nD s:=by
 obtain ⟨nk,o,hk,m,m'⟩:=U.old
 have hkind:=F.ok.kinds _ _ _ m
 have hok:Eb env η':=⟨F.ok.kind,F.ok.glob,F.ok.blt,by rw [U.names]; exact F.ok.nd,λ y k' u hm=>by
  rcases U.mem F.ok.nd y k' u hm with ⟨_,_,o',c⟩ | ⟨_,c⟩<;>exact F.ok.kinds _ _ _ c,λ y k' u hm=>by
  rcases U.mem F.ok.nd y k' u hm with ⟨_,_,o',c⟩ | ⟨_,c⟩<;>exact F.ok.CX _ _ _ c,F.ok.xD,F.ok.Aa⟩
 obtain ⟨mm,hn,hm⟩:=F.locs
 have glob:∀ y u,(y,.F0,some u)∈η'→∃ z,u=.cst z∧Bc W y z:=λ y u hy=>by
  rcases U.mem F.ok.nd y _ _ hy with ⟨rfl,_,o',c⟩ | ⟨_,c⟩
  · have:=F.ok.kinds _ _ _ c
    rw [hkind] at this
    rcases hk with rfl | rfl<;>cases this
  · exact F.we y u c
 rcases hk with rfl | rfl
 · refine wpAny_storeName_local hkind hn (λ h' hn' hs=>?_) (by rw [F.ok.kind]; rfl)
   have P:=kh hs
   have Mt:cE W.hid s.heap [env.locals]:=λ a ha=>by rw [List.mem_singleton.mp ha]; exact pq hn
   have R':aL W ρ σ h':=R.keepsBut P Mt λ a ha=>by rw [List.mem_singleton.mp ha]; exact ⟨F.out _ (.head _),F.A3 _ (.head _)⟩
   have mono:∀ {a:AV} {z:Value},VR W.hid ρ s.heap a z→VR W.hid ρ h' a z:=λ q=>by have:=q.mono (δ:=[]) Mt P; rwa [List.append_nil] at this
   have F':cT W env η' ρ h':=by
    refine ⟨hok,F.out,λ a ha=>Nat.lt_of_lt_of_le (F.lt a ha) P.size,F.A3,λ a ha=>?_,⟨_,hn',λ y u hy=>?_⟩,λ y u hy=>?_,glob⟩
    · by_cases q:a=env.locals
      · rw [q]; exact pq hn'
      · obtain ⟨o,e,z⟩:=F.Bd a ha; exact ⟨o,(hs.2 a q).trans e,z⟩
    · rcases U.mem F.ok.nd y _ _ hy with ⟨rfl,e,_⟩ | ⟨hne,c⟩
      · cases e; exact ⟨w,by simp,mono hv⟩
      · obtain ⟨z,e1,e2⟩:=hm y u c
        exact ⟨z,by simp [hne,e1],mono e2⟩
    · rcases U.mem F.ok.nd y _ _ hy with ⟨rfl,e,o',c⟩ | ⟨hne,c⟩
      · have:=F.ok.kinds _ _ _ c; rw [hkind] at this; cases this
      · obtain ⟨c',z,e1,e2,e3⟩:=F.cells y u c
        have hcl:c'≠env.locals:=F.ok.Aa (y,c') (mem_of_lookup e1)
        exact ⟨c',z,e1,e2.sameBut hs hcl,λ a ha=>let ⟨w',q1,q2⟩:=e3 a ha; ⟨w',q1,mono q2⟩⟩
   exact ⟨h',_,[],σ,rfl,(P.weaken λ a ha=>by rw [List.mem_singleton.mp ha]; exact List.mem_append_left _ (.head _)),(λ _ h=>nomatch h),by rw [List.append_nil]; exact R',by rw [List.append_nil]; exact k h' F' R'⟩
 · obtain ⟨c,z,e1,e2,e3⟩:=F.cells x o m
   refine wpAny_storeName_cell F.ok.kind hkind e1 e2 λ h' hc hs=>?_
   have P:=kh hs
   have cm:c∈addrs env:=List.mem_cons_of_mem _ (List.mem_map.mpr ⟨(x,c),mem_of_lookup e1,rfl⟩)
   have Mt:cE W.hid s.heap [c]:=λ a ha=>by rw [List.mem_singleton.mp ha]; exact tO e2
   have R':aL W ρ σ h':=R.keepsBut P Mt λ a ha=>by rw [List.mem_singleton.mp ha]; exact ⟨F.out _ cm,F.A3 _ cm⟩
   have mono:∀ {a:AV} {z:Value},VR W.hid ρ s.heap a z→VR W.hid ρ h' a z:=λ q=>by have:=q.mono (δ:=[]) Mt P; rwa [List.append_nil] at this
   have hcl:c≠env.locals:=F.ok.Aa (x,c) (mem_of_lookup e1)
   have F':cT W env η' ρ h':=by
    refine ⟨hok,F.out,λ a ha=>Nat.lt_of_lt_of_le (F.lt a ha) P.size,F.A3,λ a ha=>?_,⟨mm,hn.sameBut hs (Ne.symm hcl),λ y u hy=>?_⟩,λ y u hy=>?_,glob⟩
    · by_cases q:a=c
      · rw [q]; exact tO hc
      · obtain ⟨o,e,z⟩:=F.Bd a ha; exact ⟨o,(hs.2 a q).trans e,z⟩
    · rcases U.mem F.ok.nd y _ _ hy with ⟨rfl,e,o',q⟩ | ⟨hne,q⟩
      · have:=F.ok.kinds _ _ _ q; rw [hkind] at this; cases this
      · obtain ⟨z,e1,e2⟩:=hm y u q
        exact ⟨z,e1,mono e2⟩
    · rcases U.mem F.ok.nd y _ _ hy with ⟨rfl,e,o',q⟩ | ⟨hne,q⟩
      · subst e; exact ⟨c,_,e1,hc,λ a ha=>by refine sE ha ?_; exact ⟨w,rfl,mono hv⟩⟩
      · obtain ⟨c',z',f1,f2,f3⟩:=F.cells y u q
        have hcc:c'≠c:=λ z=>hne (by subst z; exact name_of_addr F.ok.xD (mem_of_lookup f1) (mem_of_lookup e1))
        exact ⟨c',z',f1,f2.sameBut hs hcc,λ a ha=>let ⟨w',q1,q2⟩:=f3 a ha; ⟨w',q1,mono q2⟩⟩
   exact ⟨h',s.toks,[],σ,rfl,(P.weaken λ a ha=>by rw [List.mem_singleton.mp ha]; exact List.mem_append_left _ cm),(λ _ h=>nomatch h),by rw [List.append_nil]; exact R',by rw [List.append_nil]; exact k h' F' R'⟩
theorem cF.nil {Q:Fl→En→List AO→Prop} (h:Q .next η σ):cF W d env [] η σ Q:=λ A s ρ hr R F=>wpAny_execs_nil (Post.here R ⟨.next,η,F,.next,h⟩ s.toks)
theorem yI {α:Type} {t:Sem α} {A:Around} {s:Shared} {ρ:List Addr} {Q₁:α→List Addr→List AO→Heap→Prop} {E:Value→Shared→Prop} {B:α→Shared→Prop} {S:List Addr}
 (h:wpAny W.M A t (λ v s'=>Post W S ρ s (Q₁ v) s') nD s)
 (k:∀ v h₁ tk₁ δ af,aH (S++ρ) s.heap h₁→(∀ a∈δ,s.heap.objs.size≤a)→aL W (ρ++δ) af h₁→Q₁ v (ρ++δ) af h₁→B v { s with heap:=h₁,toks:=tk₁ }) :
 wpAny W.M A t B E s:=by
 refine wpAny_mono h (λ v s' p=>?_) (λ _ _ x=>x.elim)
 obtain ⟨h₁,tk₁,δ,af,rfl,p,f,r,q⟩:=p
 exact k v h₁ tk₁ δ af p f r q
def Fl.go (fl:Fl) (η:En) (σ:List AO) (Q:Fl→En→List AO→Prop) (k:Prop):Prop:=match fl with
 | .next=>k
 | fl=>Q fl η σ
theorem cF.cons {st:Stmt} {rest:List Stmt} {Q:Fl→En→List AO→Prop} (h:iP W d env st η σ λ fl η₁ af=>fl.go η₁ af Q (cF W d env rest η₁ af Q)):cF W d env (st :: rest) η σ Q:=λ A s ρ hr R F=>by
 refine wpAny_execs_cons (yI (h A s ρ hr R F) λ f h₁ tk₁ δ af p fr R₁ ⟨fl,η₁,bq,fx,q⟩=>?_)
 cases fx with
 | next=>exact wpAny_mono (q A _ _ hr R₁ bq) (λ x s' z=>Post.chain p fr z) λ _ _ x=>x
 | brk=>exact ⟨h₁,tk₁,δ,af,rfl,p,fr,R₁,.brk,η₁,bq,.brk,q⟩
 | cont=>exact ⟨h₁,tk₁,δ,af,rfl,p,fr,R₁,.cont,η₁,bq,.cont,q⟩
 | ret hv=>exact ⟨h₁,tk₁,δ,af,rfl,p,fr,R₁,.ret _,η₁,bq,.ret hv,q⟩
theorem iP.if {t:Expr} {b o:List Stmt} {pos:Pos} {Q:Fl→En→List AO→Prop} (h:bY W d env t η σ λ c af=>if c=true then cF W d env b η af Q else cF W d env o η af Q):iP W d env (.If t b o pos) η σ Q:=λ A s ρ hr R F=>by
 refine wpAny_If (aM (h A s ρ hr R F) λ c h₁ tk₁ δ af p f R₁ q=>?_)
 have p':aH (addrs env++ρ) s.heap h₁:=p.weaken λ a ha=>List.mem_append_right _ ha
 cases c<;>exact wpAny_mono (q A _ _ hr R₁ (F.mono R.muts p f)) (λ x s' z=>Post.chain p' f z) λ _ _ x=>x
theorem iP.pass {pos:Pos} {Q:Fl→En→List AO→Prop} (h:Q .next η σ):iP W d env (.Pass pos) η σ Q:=λ A s ρ hr R F=>wpAny_Pass (Post.here R ⟨.next,η,F,.next,h⟩ s.toks)
theorem iP.break {pos:Pos} {Q:Fl→En→List AO→Prop} (h:Q .brk η σ):iP W d env (.Break pos) η σ Q:=λ A s ρ hr R F=>λ Γ p hΓ=>Post.here R ⟨.brk,η,F,.brk,h⟩ s.toks
theorem iP.ret {e:Expr} {pos:Pos} {Q:Fl→En→List AO→Prop} (h:aT W d env e η σ λ a af=>Q (.ret a) η af):iP W d env (.Return (some e) pos) η σ Q:=λ A s ρ hr R F=>by
 refine wpAny_Return_some (aM (h A s ρ hr R F) λ v h₁ tk₁ δ af p f R₁ ⟨a,va,q⟩=>?_)
 exact ⟨h₁,tk₁,δ,af,rfl,p.weaken λ a ha=>List.mem_append_right _ ha,f,R₁,.ret a,η,F.mono R.muts p f,.ret va,q⟩
theorem iP.Gw {pos:Pos} {Q:Fl→En→List AO→Prop} (h:Q (.ret .none) η σ):iP W d env (.Return none pos) η σ Q:=λ A s ρ hr R F=>wpAny_Return_none (Post.here R ⟨.ret .none,η,F,.ret .none,h⟩ s.toks)
theorem Ab.name {x:Str} {pos:Pos} {v:AV} {η':En} {Q:En→List AO→Prop} (U:Up η x v η') (h:Q η' σ):Ab W d env (.Name x pos) v η σ Q:=λ A s ρ w hr R F hv =>
 PyProof.Rows.assign_Name (iQ U R F hv λ h' F' R'=>⟨η',F',h⟩)
theorem iP.assign {x:Str} {yf pos:Pos} {e:Expr} {Q:Fl→En→List AO→Prop} (h:aT W d env e η σ λ v af=>∃ η',Up η x v η'∧Q .next η' af)
 (hs:swapsWith e (some (.Name x yf)) pos.line env=pure false):iP W d env (.Assign [.Name x yf] e pos) η σ Q:=λ A s ρ hr R F=>by
 refine wpAny_Assign_Name (aM (h A s ρ hr R F) λ v h₁ tk₁ δ af p f R₁ ⟨a,va,η',U,q⟩=>?_) hs
 have p':aH (addrs env++ρ) s.heap h₁:=p.weaken λ a ha=>List.mem_append_right _ ha
 exact wpAny_mono (iQ (s:={ s with heap:=h₁,toks:=tk₁ }) U R₁ (F.mono R.muts p f) va λ h' F' R'=>⟨.next,η',F',.next,q⟩) (λ _ _ z=>Post.chain p' f z) λ _ _ x=>x
theorem iP.aug (O:W.Ok) {x:Str} {yf pos:Pos} {op:Operator} {e:Expr} {FW:AV} {Q:Fl→En→List AO→Prop} (hx:yi η x FW)
 (h:aT W d env e η σ λ v af=>qD W d op FW v af λ r ai=>∃ η',Up η x r η'∧Q .next η' ai):iP W d env (.AugAssign (.Name x yf) op e pos) η σ Q:=λ A s ρ hr R F=>by
 refine wpAny_AugAssign_Name (cW O hx R F λ Uc O5=>aM (h A s ρ hr R F) λ v h₁ tk₁ δ af p f R₁ ⟨a,va,q⟩=>?_)
 have bq:=F.mono R.muts p f
 refine aM (q A _ _ _ hr R₁ (.cons (O5.mono R.muts p) (.cons va .nil))) λ w aF aJ δ₂ ai aN aR R₂ ⟨b,vb,η',U,bF⟩=>?_
 have p':aH (addrs env++ρ) s.heap h₁:=p.weaken λ a ha=>List.mem_append_right _ ha
 have yW:aH (addrs env++(ρ++δ)) h₁ aF:=aN.weaken λ a ha=>List.mem_append_right _ ha
 exact wpAny_mono (iQ (s:={ s with heap:=aF,toks:=aJ }) U R₂ (bq.mono R₁.muts aN aR) vb λ h' F' R'=>⟨.next,η',F',.next,bF⟩) (λ _ _ z=>Post.chain p' f (Post.chain (s:={ s with heap:=h₁,toks:=tk₁ }) yW aR z)) λ _ _ x=>x
end
section
variable {W:Wl} {d:Nat} {env:Env} {η:En} {σ:List AO}
inductive Wk:En→En→Prop
 | nil:Wk [] []
 | keep {e:Str×NK×Option AV} {η' η:En}:Wk η' η→Wk (e :: η') (e :: η)
 | drop {x:Str} {k:NK} {v:Option AV} {η' η:En}:Wk η' η→Wk ((x,k,none) :: η') ((x,k,v) :: η)
theorem Wk.refl:∀ η:En,Wk η η
 | []=>.nil
 | _ :: η=>.keep (Wk.refl η)
theorem Wk.names {η' η:En} (h:Wk η' η):η'.map (·.1)=η.map (·.1):=by
 induction h with
 | nil=>rfl
 | keep h ih=>exact congrArg (List.cons _) ih
 | drop h ih=>exact congrArg (List.cons _) ih
theorem Wk.mem {η' η:En} (h:Wk η' η):∀ x k v,(x,k,v)∈η'→∃ v',(x,k,v')∈η∧(v=none∨v=v'):=by
 induction h with
 | nil=>exact λ _ _ _ m=>nomatch m
 | keep h ih =>
  intro x k v m
  rcases List.mem_cons.mp m with e | m
  · subst e; exact ⟨v,.head _,.inr rfl⟩
  · exact (ih x k v m).elim λ v' z=>⟨v',.tail _ z.1,z.2⟩
 | drop h ih =>
  intro x k v m
  rcases List.mem_cons.mp m with e | m
  · cases e; exact ⟨_,.head _,.inl rfl⟩
  · exact (ih x k v m).elim λ v' z=>⟨v',.tail _ z.1,z.2⟩
theorem cT.weak {η':En} {ρ:List Addr} {h:Heap} (F:cT W env η ρ h) (w:Wk η' η):cT W env η' ρ h:=by
 obtain ⟨ok,out,lt,A3,mu,⟨m,hn,hm⟩,cs,gs⟩:=F
 refine ⟨⟨ok.kind,ok.glob,ok.blt,by rw [w.names]; exact ok.nd,λ x k v h=>?_,λ x k v h=>?_,ok.xD,ok.Aa⟩,out,lt,A3,mu,⟨m,hn,λ x v h=>?_⟩,λ x v h=>?_,λ x v h=>?_⟩
 · obtain ⟨v',a,_⟩:=w.mem _ _ _ h; exact ok.kinds _ _ _ a
 · obtain ⟨v',a,_⟩:=w.mem _ _ _ h; exact ok.CX _ _ _ a
 · obtain ⟨v',a,b⟩:=w.mem _ _ _ h
   rcases b with b | b
   · cases b
   · subst b; exact hm x v a
 · obtain ⟨v',a,b⟩:=w.mem _ _ _ h
   obtain ⟨c,z,e1,e2,e3⟩:=cs x v' a
   refine ⟨c,z,e1,e2,λ u hu=>?_⟩
   rcases b with b | b
   · rw [b] at hu; exact aP hu
   · subst b; exact e3 u hu
 · obtain ⟨v',a,b⟩:=w.mem _ _ _ h
   rcases b with b | b
   · cases b
   · subst b; exact gs x v a
def vv (W:Wl) (d:Nat) (env:Env) (ts:List Expr) (vs:List AV) (η:En) (σ:List AO) (Q:En→List AO→Prop):Prop :=
 ∀ A s ρ ws,Rm d A→aL W ρ σ s.heap→cT W env η ρ s.heap→bh W.hid ρ s.heap vs ws →
  wpAny W.M A (assignInOrder ((assignEach ts env).map (·.2)) ws) (λ _ s'=>Post W (addrs env) ρ s (λ ρ' σ' h'=>∃ η',cT W env η' ρ' h'∧Q η' σ') s') nD s
theorem vv.nil {Q:En→List AO→Prop} (h:Q η σ):vv W d env [] [] η σ Q:=λ A s ρ ws hr R F hv=>by
 refine bh.aW hv ?_
 exact wpAny_pure (a:=()) (Post.here R ⟨η,F,h⟩ s.toks)
theorem cE.append {h:Heap} {S T:List Addr} (a:cE W.hid h S) (b:cE W.hid h T):cE W.hid h (S++T):=λ x m=>by
 rcases List.mem_append.mp m with m | m
 · exact a x m
 · exact b x m
theorem vv.cons {t:Expr} {ts:List Expr} {v:AV} {vs:List AV} {Q:En→List AO→Prop} (h:Ab W d env t v η σ λ η₁ af=>vv W d env ts vs η₁ af Q) (hu:aK t=true):vv W d env (t :: ts) (v :: vs) η σ Q:=λ A s ρ ws hr R F hv=>by
 refine hv.aq λ _ _ hv hvs=>?_
 have hs:(assignEach (t :: ts) env).map (·.2)=assign t env :: (assignEach ts env).map (·.2):=by cases t<;>first | rfl | (exact cV hu)
 rw [hs]
 show wpAny _ _ (do holding _ (assign t env _); assignInOrder _ _) _ _ _
 refine wpAny_bind (wpAny_holding (yI (h A s ρ _ hr R F hv) λ _ h₁ tk₁ δ af p f R₁ ⟨η₁,bq,q⟩=>?_))
 exact wpAny_mono (q A _ _ _ hr R₁ bq (hvs.mono (F.Bd.append R.muts) p)) (λ _ _ z=>Post.chain p f z) λ _ _ x=>x
theorem vz {ρ:List Addr} {h h':Heap} {a:Addr} (he:Heap.ExtBut a h h') (ha:h.get? a=none) (hs:h.objs.size≤h'.objs.size):aH ρ h h' :=
 ⟨hs,λ b o e _=>he b o (λ q=>by rw [q,ha] at e; exact aP e) e⟩
theorem vA {h:Heap}:h.get? h.objs.size=none:=by
 cases q:h.get? h.objs.size with
 | none=>rfl
 | some o=>exact absurd (Heap.lt_size q) (Nat.lt_irrefl _)
theorem Ab.tuple {elts:List Expr} {k:Nat} {pos:Pos} {vs:List AV} {Q:En→List AO→Prop} (h:vv W d env elts vs η σ Q) (hl:elts.length=vs.length) (hu:elts.all aK=true):Ab W d env (.Tuple elts k pos) (.tup vs) η σ Q:=λ A s ρ w hr R F hv=>by
 refine hv.Ce λ ws a n e hx hvs=>?_
 have len:∀ es:List Expr,(assignEach es env).length=es.length:=by
  intro es
  induction es with
  | nil=>rfl
  | cons t ts ih=>cases t<;>exact congrArg Nat.succ ih
 have star:∀ es:List Expr,es.all aK=true→(assignEach es env).findIdx? (·.1)=none:=by
  intro es
  induction es with
  | nil=>intro _; rfl
  | cons t ts ih =>
   intro hu
   rw [List.all_cons,Bool.and_eq_true] at hu
   have hu1:=hu.1
   have e:assignEach (t :: ts) env=(false,assign t env) :: assignEach ts env:=by cases t<;>first | rfl | (exact cV hu1)
   rw [e,List.findIdx?_cons,ih hu.2]; rfl
 rw [arm_assign_Tuple]
 refine wpAny_bind (wpAny_standAt ?_)
 unfold unpack
 have hn:(assignEach elts env).length=ws.toArray.size:=by rw [len,List.size_toArray,hvs.length,hl]
 rw [hn,star _ hu]
 refine wpAny_bind (wpAny_holding (wc (wpAny_unpackItems_tuple hr.handled (items:=ws.toArray) ⟨_,e,rfl,_,rfl⟩ λ h' he hsz=>?_)))
 have hsz:s.heap.objs.size≤h'.objs.size:=hsz
 have p:aH ρ s.heap h':=vz he vA hsz
 have R':=R.keeps (vz (ρ:=[]) he vA hsz)
 have F':=F.mono (δ:=[]) R.muts p (λ _ h=>nomatch h)
 rw [List.append_nil] at F'
 have hv':=hvs.mono (δ:=[]) R.muts p
 rw [List.append_nil] at hv'
 refine wpAny_mono (h A { s with heap:=h' } ρ _ hr R' F' (by simpa using hv')) (λ _ _ z=>?_) λ _ _ x=>x
 refine Post.chain (δ:=[]) (tk₁:=s.toks) (p.weaken λ a ha=>List.mem_append_right _ ha) (λ _ h=>nomatch h) ?_
 rw [List.append_nil]; exact z
end
section
variable {W:Wl} {d:Nat} {env:Env} {η:En} {σ:List AO}
def Ir (Inv:Nat→En→List AO→Prop) (n:Nat) (Q:Fl→En→List AO→Prop):Fl→En→List AO→Prop:=λ fl η₂ ai=>match fl with
 | .next | .cont=>∃ m,m<n∧∃ η₃,Wk η₃ η₂∧Inv m η₃ ai
 | .brk=>Q .next η₂ ai
 | .ret v=>Q (.ret v) η₂ ai
theorem pA {α:Type} {t:Sem α} {A:Around} {s:Shared} {Q Q':α→Shared→Prop} {E:Value→Shared→Prop} (h:wpAny W.M A t Q nD s) (q:∀ a s',Q a s'→Q' a s'):wpAny W.M A t Q' E s:=wpAny_mono h q λ _ _ x=>x.elim
inductive RC (W:Wl) (env:Env) (Inv:Nat→En→List AO→Prop) (n:Nat) (ρ':List Addr) (σ':List AO) (h':Heap):Prop
 | mk (η':En) (F:cT W env η' ρ' h') (q:Inv n η' σ'):RC W env Inv n ρ' σ' h'
theorem iP.while {t:Expr} {b o:List Stmt} {pos:Pos} {Inv:Nat→En→List AO→Prop} {Q:Fl→En→List AO→Prop} (n:Nat) (η₀:En) (wk:Wk η₀ η) (h:Inv n η₀ σ)
 (turn:∀ n η σ,Inv n η σ→bY W d env t η σ λ c af=>if c=true then cF W d env b η af (Ir Inv n Q) else cF W d env o η af Q) :
 iP W d env (.While t b o pos) η σ Q:=λ A s ρ hr R F=>by
 refine wpAny_While (codeAny_whileLoop (λ n s'=>Post W (addrs env) ρ s (RC W env Inv n) s') ?_ n (Post.here R ⟨η₀,F.weak wk,h⟩ s.toks))
 intro n q6 ⟨h₁,tk₁,δ₁,af,zQ,yf,tW,R₁,η₁,bq,inv⟩
 subst zQ
 refine pA (turn n η₁ af inv A _ _ hr R₁ bq) λ c c7 ⟨aF,aJ,δ₂,ai,oW,aN,aR,R₂,q⟩=>?_
 subst oW
 have F₂:=bq.mono R₁.muts aN aR
 have yW:aH (addrs env++(ρ++δ₁)) h₁ aF:=aN.weaken λ a ha=>List.mem_append_right _ ha
 cases c with
 | true =>
  have q:cF W d env b η₁ ai (Ir Inv n Q):=q
  show wpAny _ _ _ _ _ _
  refine pA (q A _ _ hr R₂ F₂) λ f q7 z=>?_
  have z:=Post.chain yf tW (Post.chain (s:={ s with heap:=h₁,toks:=tk₁ }) yW aR z)
  obtain ⟨cz,c9,δ₃,az,wG,cA,f₃,R₃,fl,η₃,F₃,fx,nC⟩:=z
  cases fx with
  | next=>obtain ⟨m,hm,η₄,wk,inv⟩:=nC; exact ⟨m,hm,cz,c9,δ₃,az,wG,cA,f₃,R₃,η₄,F₃.weak wk,inv⟩
  | cont=>obtain ⟨m,hm,η₄,wk,inv⟩:=nC; exact ⟨m,hm,cz,c9,δ₃,az,wG,cA,f₃,R₃,η₄,F₃.weak wk,inv⟩
  | brk=>exact ⟨cz,c9,δ₃,az,wG,cA,f₃,R₃,.next,η₃,F₃,.next,nC⟩
  | ret hv=>exact ⟨cz,c9,δ₃,az,wG,cA,f₃,R₃,.ret _,η₃,F₃,.ret hv,nC⟩
 | false =>
  have q:cF W d env o η₁ ai Q:=q
  show wpAny _ _ _ _ _ _
  exact pA (q A _ _ hr R₂ F₂) λ f q7 z=>Post.chain yf tW (Post.chain (s:={ s with heap:=h₁,toks:=tk₁ }) yW aR z)
inductive iL where
 | lst (n i:Nat)
 | tup (vs:List AV)
 | tw (x step:Int) (left:Nat)
 | tP (n:Nat) (left:Nat)
noncomputable def MW (n i:Nat):Option AV→Option (AV×iL)
 | some x=>some (x,.lst n (i+1))
 | none=>none
noncomputable def Gx (n i:Nat):Option AO→Option (Option (AV×iL))
 | some (.lst xs)=>some (MW n i xs[i]?)
 | _=>none
noncomputable def Pc (n k:Nat):Option AV→Option (Option (AV×iL))
 | some x=>some (some (x,.tP n k))
 | none=>none
noncomputable def Iu (n k:Nat):Option AO→Option (Option (AV×iL))
 | some (.lst xs)=>Pc n k xs[k]?
 | _=>none
noncomputable def iL.next (σ:List AO):iL→Option (Option (AV×iL))
 | .lst n i=>Gx n i σ[n]?
 | .tup vs=>some (match vs with | v :: r=>some (v,.tup r) | []=>none)
 | .tw x step left=>some (match left with | k+1=>some (.int x,.tw (x+step) step k) | 0=>none)
 | .tP n left=>match left with
  | k+1=>Iu n k σ[n]?
  | 0=>some none
noncomputable def vB (X ρ:List Addr) (h:Heap):iL→Addr→Prop
 | .lst n i,it=>∃ a,ρ[n]? = some a∧h.IsListIter it a i
 | .tup vs,it=>∃ t ws,∃ i,h.IsTuple t ws∧h.IsTupleIter it t i∧bh X ρ h vs (ws.toList.drop i)∧t∉X
 | .tw x step left,it=>IsRangeIter h it x left step
 | .tP n left,it=>∃ a,ρ[n]? = some a∧h.IsRevIter it a ((left:Int)-1)
theorem vB.obj {X ρ:List Addr} {h:Heap}:∀ {k:iL} {it:Addr},vB X ρ h k it→∃ o T vs,h.get? it=some o∧o.cls=.type T∧zf.contains T=true∧o.data=.fields vs∧["enumerate", "zip", "dict_itemiterator", "dict_reverseitemiterator", "odict_iterator", "itertools.zip_longest", "itertools.pairwise"].contains T=false:=λ {k it} x=>by
 cases k with
 | lst n i=>obtain ⟨a,_,o,e,c,dd⟩:=x; exact ⟨o,_,_,e,c,by decide,dd,by decide⟩
 | tup vs=>obtain ⟨t,ws,i,_,⟨o,e,c,dd⟩,_⟩:=x; exact ⟨o,_,_,e,c,by decide,dd,by decide⟩
 | tw x step left=>exact ⟨_,_,_,x,rfl,by decide,rfl,by decide⟩
 | tP n i=>obtain ⟨a,_,o,e,c,dd⟩:=x; exact ⟨o,_,_,e,c,by decide,dd,by decide⟩
theorem Ac {o:Obj} {T:String} {vs:Array Value} (hc:o.cls=.type T) (hT:zf.contains T=true) (hd:o.data=.fields vs):ql o=true∧sQ o=false:=by
 obtain ⟨c,dd,dt,sl⟩:=o
 dsimp only at hc hd
 subst hc hd
 exact ⟨hT,rfl⟩
theorem vB.tQ {ρ:List Addr} {h:Heap} {k:iL} {it:Addr} (x:vB W.hid ρ h k it):cE W.hid h [it]:=λ a ha=>by
 rw [List.mem_singleton.mp ha]
 refine aG λ Ga ka=>?_
 obtain ⟨o,T,vs,e,c,t,dd,_⟩:=x.obj
 refine ka ?_
 clear ka
 exact ⟨o,e,.inl (Ac c t dd).1⟩
theorem vB.oF {ρ:List Addr} {h:Heap} {k:iL} {it:Addr} (x:vB W.hid ρ h k it) (R:aL W ρ σ h):it∉ρ:=by
 obtain ⟨o,T,vs,e,c,t,dd,_⟩:=x.obj
 exact R.CW e (Ac c t dd).2
theorem vB.owned {ρ:List Addr} {s:Shared} {k:iL} {it:Addr} {target:Expr} {v:Value} {A:Around} {E:Value→Shared→Prop} {Q:Unit→Shared→Prop} (x:vB W.hid ρ s.heap k it) (q:Q () s):wpAny W.M A (letOwnedTupleGo target (.ref it) v) Q E s:=by
 refine aG λ Ga ka=>?_
 obtain ⟨o,T,vs,e,c,_,dd,z⟩:=x.obj
 refine ka ?_
 clear ka
 cases target with
 | Tuple es n p=>cases v with
  | ref a=>exact wpAny_bind (wpAny_load e (by rw [c,dd]; dsimp only; rw [z]; exact wpAny_pure q))
  | _=>exact wpAny_pure q
 | List es p=>cases v with
  | ref a=>exact wpAny_bind (wpAny_load e (by rw [c,dd]; dsimp only; rw [z]; exact wpAny_pure q))
  | _=>exact wpAny_pure q
 | _=>exact wpAny_pure q
theorem o5 (n:Nat) (ρ:List Addr) (δ:List Addr) {a:Addr} (e:ρ[n]? = some a):(ρ++δ)[n]? = some a:=by
 rw [List.getElem?_append_left (List.getElem?_eq_some_iff.mp e).1]; exact e
theorem vB.mono {ρ δ S:List Addr} {h h':Heap} (M:cE W.hid h S) (P:aH S h h'):∀ {k:iL} {it:Addr},vB W.hid ρ h k it→it∉S→vB W.hid (ρ++δ) h' k it:=λ {k it} x hn=>by
 cases k with
 | lst n i=>obtain ⟨a,e,o,e',r⟩:=x; exact ⟨a,o5 _ _ _ e,o,P.keep _ _ e' hn,r⟩
 | tup vs=>obtain ⟨t,ws,i,⟨o,e,c,n,dd⟩,⟨o',e',r⟩,v,hx⟩:=x; exact ⟨t,ws,i,⟨o,P.keep _ _ e (M.MS e (by unfold ql; rw [dd,c]; rfl) hx),c,n,dd⟩,⟨o',P.keep _ _ e' hn,r⟩,v.mono M P,hx⟩
 | tw x step left=>exact P.keep _ _ x hn
 | tP n i=>obtain ⟨a,e,o,e',r⟩:=x; exact ⟨a,o5 _ _ _ e,o,P.keep _ _ e' hn,r⟩
inductive RD (W:Wl) (ρ:List Addr) (h:Heap) (a:Addr) (xs:List AV):Prop
 | mk (ws:List Value) (m:Nat) (e:h.get? a=some ({ cls:=.type "list",data:=.seq ws.toArray m }:Obj)) (r:bh W.hid ρ h xs ws):RD W ρ h a xs
theorem aZ {ρ:List Addr} {h:Heap} (R:aL W ρ σ h) {n:Nat} {xs:List AV} (e:σ[n]? = some (.lst xs)) {a:Addr} (ea:ρ[n]? = some a):RD W ρ h a xs:=by
 obtain ⟨a',ob,e1,e2,ws,m,e3,v⟩:=R.objs n _ e
 rw [ea] at e1; cases e1; subst e3
 exact ⟨ws,m,e2,v⟩
theorem bh.get {X ρ:List Addr} {h:Heap} {as:List AV}:∀ {vs:List Value},bh X ρ h as vs→∀ (i:Nat) {a:AV},as[i]? = some a→∃ v,vs[i]? = some v∧VR X ρ h a v:=by
 induction as with
 | nil=>exact λ _ i a e=>aP e
 | cons b as ih =>
  intro vs hv i a e
  refine hv.aq λ w ws x r=>?_
  cases i with
  | zero=>exact ⟨w,rfl,Option.some.inj e▸x⟩
  | succ i=>exact ih r i e
theorem bh.get_none {X ρ:List Addr} {h:Heap} {as:List AV} {vs:List Value} (x:bh X ρ h as vs) {i:Nat} (e:as[i]? = none):vs[i]? = none:=by
 rw [List.getElem?_eq_none_iff] at e ⊢
 rw [x.length]; exact e
def Tc (W:Wl) (ρ:List Addr) (h':Heap) (it:Addr) (x:Option Value) (r:Option (AV×iL)):Prop:=match r with
 | none=>x=none
 | some (a,k')=>∃ v,x=some v∧VR W.hid ρ h' a v∧vB W.hid ρ h' k' it
inductive RE (W:Wl) (ρ:List Addr) (s:Shared) (it:Addr) (r:Option (AV×iL)) (x:Option Value) (s':Shared):Prop
 | mk (h':Heap) (tk':Nat) (e:s'={ s with heap:=h',toks:=tk' }) (P:aH [it] s.heap h') (q:Tc W ρ h' it x r):RE W ρ s it r x s'
theorem Ci {k:iL} {it:Addr} {A:Around} {s:Shared} {ρ:List Addr} (hr:Rm d A) (R:aL W ρ σ s.heap) (I:vB W.hid ρ s.heap k it) {r:Option (AV×iL)} (hn:k.next σ=some r) :
 wpAny W.M A (pyNext (.ref it)) (RE W ρ s it r) nD s:=by
 have M:=I.tQ
 have Qc:∀ {h':Heap} {a:AV} {v:Value},aH [it] s.heap h'→VR W.hid ρ s.heap a v→VR W.hid ρ h' a v:=λ P v=>by
  have:=v.mono (δ:=[]) M P; rwa [List.append_nil] at this
 have Gy:∀ {h':Heap},Heap.ExtBut it s.heap h'→xx s { s with heap:=h' }→aH [it] s.heap h':=λ he hs=>⟨hs,λ b o e n=>he b o (λ q=>n (by rw [q]; exact .head _)) e⟩
 cases k with
 | lst n i =>
  obtain ⟨a,ea,hit⟩:=I
  cases ex:σ[n]? with
  | none=>(change Gx n i _=_ at hn; rw [ex] at hn; cases hn)
  | some o =>
   cases o with
   | lst xs =>
    obtain ⟨ws,m,e2,v⟩:=aZ R ex ea
    have hl:s.heap.IsList a ws.toArray:=⟨_,e2,rfl,_,rfl⟩
    have hne:a≠it:=λ q=>by
     obtain ⟨o,T,vs,e,c,t,dd,_⟩:=(show vB W.hid ρ s.heap (.lst n i) it from ⟨a,ea,hit⟩).obj
     rw [← q,e2] at e; cases e; cases dd
    cases ei:xs[i]? with
    | some x =>
     change Gx n i _=_ at hn
     rw [ex] at hn
     change some (MW n i xs[i]?)=_ at hn
     rw [ei] at hn
     refine sE hn ?_
     obtain ⟨w,ew,vx⟩:=v.get i ei
     refine wpAny_pyNext_list_item hit hl (x:=w) (by simpa using ew) λ h' Ad hs=>?_
     have P:=kh hs
     exact ⟨h',_,rfl,P,w,rfl,Qc P vx,a,ea,Ad⟩
    | none =>
     change Gx n i _=_ at hn
     rw [ex] at hn
     change some (MW n i xs[i]?)=_ at hn
     rw [ei] at hn
     refine sE hn ?_
     exact wc (wpAny_pyNext_list_end hr.handled hit hl (by simpa using v.get_none ei) λ h' he hs=>⟨h',_,rfl,Gy he hs,rfl⟩)
   | dct _=>(change Gx n i _=_ at hn; rw [ex] at hn; cases hn)
   | inst _=>(change Gx n i _=_ at hn; rw [ex] at hn; cases hn)
   | tab _ _=>(change Gx n i _=_ at hn; rw [ex] at hn; cases hn)
 | tup vs =>
  obtain ⟨t,ws,i,ht,hit,v,hx⟩:=I
  have hne:t≠it:=λ q=>by
   obtain ⟨o,e,c,n,dd⟩:=ht
   obtain ⟨o',e',c',RG⟩:=hit
   rw [q] at e; rw [e] at e'; cases e'; rw [dd] at RG; cases RG
  cases vs with
  | nil =>
   refine sE hn ?_
   have:ws[i]? = none:=by
    have:=v.length
    rw [Array.getElem?_eq_none_iff]
    simp at this; lia
   exact wc (wpAny_pyNext_tuple_end hr.handled hit ht this λ h' he hs=>⟨h',_,rfl,Gy he hs,rfl⟩)
  | cons a r =>
   refine sE hn ?_
   have hi:i<ws.size:=by
    have:=v.length
    simp at this; omega
   have e0:ws.toList.drop i=ws[i] :: ws.toList.drop (i+1):=by simp [List.drop_eq_getElem_cons,hi]
   rw [e0] at v
   cases v with | cons vx vr =>
   refine wpAny_pyNext_tuple_item hit ht (x:=ws[i]) (by simp [hi]) λ h' Ad hs=>?_
   have P:=kh hs
   refine ⟨h',_,rfl,P,_,rfl,Qc P vx,t,ws,i+1,ht.extBut hs.extBut hne,Ad,?_,hx⟩
   have:=vr.mono (δ:=[]) M P; rwa [List.append_nil] at this
 | tw x step left =>
  cases left with
  | zero =>
   refine sE hn ?_
   exact wc (wpAny_pyNext_range_end hr.handled I (Int.le_refl _) λ h' he hs=>⟨h',_,rfl,Gy he hs,rfl⟩)
  | succ k =>
   refine sE hn ?_
   refine wpAny_pyNext_range_item I (by omega) λ h' Ad hs=>?_
   have P:=kh hs
   refine ⟨h',_,rfl,P,_,rfl,.int _ _,?_⟩
   show IsRangeIter _ _ _ _ _
   have e:((k+1:Nat):Int)-1=(k:Int):=by lia
   rw [e] at Ad; exact Ad
 | tP n left =>
  obtain ⟨a,ea,hit⟩:=I
  cases left with
  | zero =>
   refine sE hn ?_
   exact wc (wpAny_pyNext_rev_end hr.handled hit λ h' he hs=>⟨h',_,rfl,Gy he hs,rfl⟩)
  | succ k =>
   cases ex:σ[n]? with
   | none=>(change Iu n k _=_ at hn; rw [ex] at hn; cases hn)
   | some o =>
    cases o with
    | lst xs =>
     obtain ⟨ws,m,e2,v⟩:=aZ R ex ea
     have hl:s.heap.IsList a ws.toArray:=⟨_,e2,rfl,_,rfl⟩
     cases ei:xs[k]? with
     | some x =>
      change Iu n k _=_ at hn
      rw [ex] at hn
      change Pc n k xs[k]? = _ at hn
      rw [ei] at hn
      refine sE hn ?_
      obtain ⟨w,ew,vx⟩:=v.get k ei
      have e:((k+1:Nat):Int)-1=(k:Int):=by omega
      rw [e] at hit
      refine wpAny_pyNext_rev_item hit hl (x:=w) (by simpa using ew) λ h' Ad hs=>?_
      have P:=kh hs
      exact ⟨h',_,rfl,P,w,rfl,Qc P vx,a,ea,Ad⟩
     | none=>(change Iu n k _=_ at hn; rw [ex] at hn; change Pc n k xs[k]? = _ at hn; rw [ei] at hn; cases hn)
    | dct _=>(change Iu n k _=_ at hn; rw [ex] at hn; cases hn)
    | inst _=>(change Iu n k _=_ at hn; rw [ex] at hn; cases hn)
    | tab _ _=>(change Iu n k _=_ at hn; rw [ex] at hn; cases hn)
end
section
variable {W:Wl} {d:Nat} {env:Env} {η:En} {σ:List AO}
theorem Ae {A:Around} {s:Shared} {R:Result→Shared→Prop} {target:Expr} {it:Value} {body orelse:List Stmt} (I:Nat→Shared→Prop)
 (turn:∀ n s,I n s→wpAny W.M A (pyNext it) (λ r q6=>match r with
  | none=>wpAny W.M A (execs orelse env) (λ f q7=>R (.ok f) q7) nD q6
  | some v=>wpAny W.M A (letOwnedTupleGo target it v) (λ _ O6=>wpAny W.M A (assign target env v) (λ _ c7=>wpAny W.M A (execs body env) (λ f q7=>match f with
   | .next | .cont=>∃ m,m<n∧I m q7
   | .brk=>R (.ok .next) q7
   | .ret v=>R (.ok (.ret v)) q7) nD c7) nD O6) nD q6) nD s)
 (n:Nat) (h:I n s):codeAny W.M A (.forLoop target it body orelse env) R s:=by
 refine codeAny_loop' rfl I (λ n s hI=>?_) n h
 show wpAny _ _ ((forTurn target it body orelse env).onRaise (λ x=>do noteFrame x env; theTreesLotGoes x)) _ _ s
 refine wpAny_noted ?_
 refine wpAny_bind (wpAny_standAt (wpAny_bind (wpAny_onRaise (wpAny_mono (turn n s hI) (λ r q6 h₁=>?_) λ _ _ h'=>h'.elim))))
 cases r with
 | none=>exact wpAny_pure (.inr ⟨rfl,codeAny_block (pA h₁ λ _ _ q=>q)⟩)
 | some v =>
  refine wpAny_bind (pA h₁ λ _ c7 aF=>wpAny_bind (pA aF λ _ q7 cz=>wpAny_bind (pA cz λ f zR dh=>?_)))
  cases f with
  | next=>exact wpAny_pure (.inl ⟨rfl,dh⟩)
  | cont=>exact wpAny_pure (.inl ⟨rfl,dh⟩)
  | brk=>exact wpAny_pure dh
  | ret v=>exact wpAny_pure dh
inductive Qd (W:Wl) (n:Nat) (Q:iL→List AO→Prop) (it:Value) (ρ':List Addr) (σ':List AO) (h':Heap):Prop
 | mk (I:Addr) (k:iL) (e:it=.ref I) (hI:n≤I) (r:vB W.hid ρ' h' k I) (q:Q k σ'):Qd W n Q it ρ' σ' h'
inductive MX (W:Wl) (env:Env) (Inv:Nat→iL→En→List AO→Prop) (I:Addr) (n:Nat) (ρ':List Addr) (σ':List AO) (h':Heap):Prop
 | mk (k:iL) (η':En) (F:cT W env η' ρ' h') (r:vB W.hid ρ' h' k I) (q:Inv n k η' σ'):MX W env Inv I n ρ' σ' h'
def qG (W:Wl) (d:Nat) (env:Env) (e:Expr) (η:En) (σ:List AO) (Q:iL→List AO→Prop):Prop :=
 ∀ A s ρ,Rm d A→aL W ρ σ s.heap→cT W env η ρ s.heap →
  wpAny W.M A (eval e env) (λ x q6=>wpAny W.M A (pyIter x) (λ it c7=>Post W [] ρ s (Qd W s.heap.objs.size Q it) c7) nD q6) nD s
def Gz (Inv:Nat→iL→En→List AO→Prop) (n:Nat) (k:iL) (Q:Fl→En→List AO→Prop):Fl→En→List AO→Prop:=λ fl η₂ ai=>match fl with
 | .next | .cont=>∃ m,m<n∧∃ η₃,Wk η₃ η₂∧Inv m k η₃ ai
 | .brk=>Q .next η₂ ai
 | .ret v=>Q (.ret v) η₂ ai
noncomputable abbrev Af:=List Stmt→En→List AO→(Fl→En→List AO→Prop)→Prop
noncomputable def GA (B:Af) (W:Wl) (d:Nat) (env:Env) (target:Expr) (body orelse:List Stmt) (Inv:Nat→iL→En→List AO→Prop) (n:Nat) (k:iL) (η:En) (σ:List AO) (Q:Fl→En→List AO→Prop):Option (Option (AV×iL))→Prop
 | none=>False
 | some none=>B orelse η σ Q
 | some (some (x,k'))=>Ab W d env target x η σ λ η₁ af=>B body η₁ af (Gz Inv n k' Q)
noncomputable abbrev Qe (W:Wl) (d:Nat) (env:Env) (target:Expr) (body orelse:List Stmt) (Inv:Nat→iL→En→List AO→Prop) (n:Nat) (k:iL) (η:En) (σ:List AO) (Q:Fl→En→List AO→Prop):=GA (cF W d env) W d env target body orelse Inv n k η σ Q
theorem Iv {B:Af} {A:Around} (hr:Rm d A) (hB:∀ {sts η σ Q},B sts η σ Q→∀ s ρ,aL W ρ σ s.heap→cT W env η ρ s.heap→wpAny W.M A (execs sts env) (λ f s'=>Post W (addrs env) ρ s (QF W env Q f) s') nD s)
 {target iter:Expr} {body orelse:List Stmt} {pos:Pos} {Inv:Nat→iL→En→List AO→Prop} {Q:Fl→En→List AO→Prop}
 (hit:qG W d env iter η σ λ k af=>∃ n η₀,Wk η₀ η∧Inv n k η₀ af)
 (turn:∀ n k η σ,Inv n k η σ→GA B W d env target body orelse Inv n k η σ Q (k.next σ))
 (hs:∀ x,foldedSetIterable iter env x=pure x) {s:Shared} {ρ:List Addr} (R:aL W ρ σ s.heap) (F:cT W env η ρ s.heap):wpAny W.M A (exec (.For target iter body orelse pos) env) (λ f s'=>Post W (addrs env) ρ s (QF W env Q f) s') nD s:=by
 refine wpAny_For (pA (hit A s ρ hr R F) λ x q6 h₁=>pA h₁ λ it c7 aF=>?_) hs
 obtain ⟨aF,aJ,δ₂,ai,oW,aN,aR,R₂,I,k,rfl,hI,ir,n,η₀,wk,inv⟩:=aF
 subst oW
 have LM:I∉addrs env:=λ m=>absurd (F.lt I m) (Nat.not_lt.mpr hI)
 have F₂:=(F.mono R.muts aN aR).weak wk
 have yW:aH (addrs env++ρ) s.heap aF:=aN.weaken λ a ha=>List.mem_append_right _ ha
 refine Ae (λ n s'=>Post W (addrs env) ρ s (MX W env Inv I n) s') ?_ n ⟨aF,aJ,δ₂,ai,rfl,yW,aR,R₂,k,η₀,F₂,ir,inv⟩
 intro n q7 ⟨cz,c9,δ₃,az,wG,cA,f₃,R₃,k,η₃,F₃,ir,inv⟩
 subst wG
 have T:=turn n k η₃ az inv
 cases hn:k.next az with
 | none=>rw [hn] at T; exact T.elim
 | some r =>
  rw [hn] at T
  refine pA (Ci hr R₃ ir hn) λ x zR ⟨dh,qw,LG,p₄,q₄⟩=>?_
  subst LG
  have J6:=ir.oF R₃
  have hb:W.hb.get? I=none:=by
   cases q:W.hb.get? I with
   | none=>rfl
   | some o=>exact absurd (Heap.lt_size (R.base _ _ q)) (Nat.not_lt.mpr hI)
  have R₄:aL W (ρ++δ₃) az dh:=R₃.keepsBut p₄ ir.tQ λ a ha=>by rw [List.mem_singleton.mp ha]; exact ⟨J6,hb⟩
  have F₄:cT W env η₃ (ρ++δ₃) dh:=by
   refine ⟨F₃.ok,F₃.out,λ a ha=>Nat.lt_of_lt_of_le (F₃.lt a ha) p₄.size,F₃.A3,λ a ha=>?_,?_,λ x v hv=>?_,F₃.we⟩
   · obtain ⟨o,e,q⟩:=F₃.Bd a ha
     exact ⟨o,p₄.keep _ _ e (λ m=>LM (by rw [← List.mem_singleton.mp m]; exact ha)),q⟩
   · obtain ⟨m,⟨o,es,ep,ho,r⟩,hv⟩:=F₃.locs
     refine ⟨m,⟨o,es,ep,p₄.keep _ _ ho (λ q=>LM (by rw [← List.mem_singleton.mp q]; exact .head _)),r⟩,λ x v q=>?_⟩
     obtain ⟨w,e,z⟩:=hv x v q
     have:=z.mono (δ:=[]) ir.tQ p₄
     rw [List.append_nil] at this
     exact ⟨w,e,this⟩
   · obtain ⟨c,w,e1,⟨o,ho,hd⟩,e3⟩:=F₃.cells x v hv
     have hc:c∈addrs env:=List.mem_cons_of_mem _ (List.mem_map.mpr ⟨(x,c),mem_of_lookup e1,rfl⟩)
     refine ⟨c,w,e1,⟨o,p₄.keep _ _ ho (λ q=>LM (by rw [← List.mem_singleton.mp q]; exact hc)),hd⟩,λ a ha=>?_⟩
     obtain ⟨w',q,z⟩:=e3 a ha
     have:=z.mono (δ:=[]) ir.tQ p₄
     rw [List.append_nil] at this
     exact ⟨w',q,this⟩
  have P₄:aH (addrs env++ρ) s.heap dh:=by
   refine ⟨Nat.le_trans cA.size p₄.size,λ b o e hb=>p₄.keep b o (cA.keep b o e hb) λ m=>?_⟩
   rw [List.mem_singleton.mp m] at e
   exact absurd (Heap.lt_size e) (Nat.not_lt.mpr hI)
  cases r with
  | none =>
   subst q₄
   exact pA (hB T _ _ R₄ F₄) λ f O7 z=>Post.chain P₄ f₃ z
  | some xk =>
   obtain ⟨a,k'⟩:=xk
   obtain ⟨v,rfl,va,MY⟩:=q₄
   refine MY.owned (wpAny_mono (T A _ _ _ hr R₄ F₄ va) (λ _ O7 z₅=>?_) λ _ _ x=>x)
   obtain ⟨zS,A0,δ₅,yX,Ra,p₅,f₅,R₅,η₅,F₅,q₅⟩:=z₅
   subst Ra
   have hIn:∀ {ρ':List Addr} {σ':List AO} {h':Heap},aL W ρ' σ' h'→vB W.hid ρ' h' k' I→I∉addrs env++ρ':=λ R' i m=>by
    rcases List.mem_append.mp m with m | m
    · exact LM m
    · exact i.oF R' m
   have Ah:vB W.hid ((ρ++δ₃)++δ₅) zS k' I:=MY.mono (F₄.Bd.append R₄.muts) p₅ (hIn R₄ MY)
   refine wpAny_mono (hB q₅ _ _ R₅ F₅) (λ f Ud z₆=>?_) λ _ _ x=>x
   obtain ⟨yg,xH,δ₆,σ₆,Rb,p₆,f₆,R₆,fl,η₆,F₆,fx,q₆⟩:=z₆
   subst Rb
   have yJ:vB W.hid (((ρ++δ₃)++δ₅)++δ₆) yg k' I:=Ah.mono (F₅.Bd.append R₅.muts) p₆ (hIn R₅ Ah)
   have fin:∀ (Z:List Addr→List AO→Heap→Prop),Z (((ρ++δ₃)++δ₅)++δ₆) σ₆ yg→Post W (addrs env) ρ s Z { s with heap:=yg,toks:=xH }:=λ Z z =>
    Post.chain (s:=s) P₄ f₃ (Post.chain (s:={ s with heap:=dh,toks:=qw }) p₅ f₅ ⟨yg,xH,δ₆,σ₆,rfl,p₆,f₆,R₆,z⟩)
   cases fx with
   | next=>obtain ⟨m,hm,η₇,wk,inv⟩:=q₆; exact ⟨m,hm,fin _ ⟨k',η₇,F₆.weak wk,yJ,inv⟩⟩
   | cont=>obtain ⟨m,hm,η₇,wk,inv⟩:=q₆; exact ⟨m,hm,fin _ ⟨k',η₇,F₆.weak wk,yJ,inv⟩⟩
   | brk=>exact fin _ ⟨.next,η₆,F₆,.next,q₆⟩
   | ret hv=>exact fin _ ⟨.ret _,η₆,F₆,.ret hv,q₆⟩
theorem iP.for {target iter:Expr} {body orelse:List Stmt} {pos:Pos} {Inv:Nat→iL→En→List AO→Prop} {Q:Fl→En→List AO→Prop}
 (hit:qG W d env iter η σ λ k af=>∃ n η₀,Wk η₀ η∧Inv n k η₀ af)
 (turn:∀ n k η σ,Inv n k η σ→Qe W d env target body orelse Inv n k η σ Q (k.next σ))
 (hs:∀ x,foldedSetIterable iter env x=pure x:=by intro _; rfl):iP W d env (.For target iter body orelse pos) η σ Q:=λ A s ρ hr R F =>
 Iv hr (λ h s ρ R F=>h A s ρ hr R F) hit turn hs R F
noncomputable def Qf:AV→Option iL
 | .lst n=>some (.lst n 0)
 | .tup vs=>some (.tup vs)
 | .tw a b c=>if Builtin.Range.small a b c=true then some (.tw a c (Builtin.Range.rangeSize a b c).toNat) else none
 | _=>none
theorem vP (a b c:Int):0≤Builtin.Range.rangeSize a b c:=by
 unfold Builtin.Range.rangeSize
 split<;>(try split)<;>first | lia | (apply Int.add_nonneg<;>first | lia | (apply Int.ediv_nonneg<;>lia))
theorem vC {ρ δ:List Addr} {s:Shared} {h₁:Heap} {tk₁:Nat} {af:List AO} {k:iL} {Q:iL→List AO→Prop} {o:Obj} (p:aH ρ s.heap h₁) (f:∀ a∈δ,s.heap.objs.size≤a) (R₁:aL W (ρ++δ) af h₁)
 (hI:vB W.hid (ρ++δ) (h₁.push o) k h₁.objs.size) (q:Q k af):Post W [] ρ s (Qd W s.heap.objs.size Q (.ref h₁.objs.size)) { s with heap:=h₁.push o,toks:=tk₁ } :=
 Post.chain p f (vt (s:={ s with heap:=h₁,toks:=tk₁ }) R₁ o ⟨_,k,rfl,p.size,hI,q⟩ tk₁)
theorem qG.of {e:Expr} {Q:iL→List AO→Prop} (h:aT W d env e η σ λ a af=>∃ k,Qf a=some k∧Q k af∧∀ n,a=.lst n→∃ xs,af[n]? = some (.lst xs)):qG W d env e η σ Q:=λ A s ρ hr R F=>by
 refine aM (h A s ρ hr R F) λ v h₁ tk₁ δ af p f R₁ ⟨a,va,k,hk,q,hl⟩=>?_
 cases va with
 | @lst n ad e =>
  cases hk
  obtain ⟨xs,ex⟩:=hl _ rfl
  obtain ⟨ws,m,e2,v⟩:=aZ R₁ ex e
  exact wpAny_pyIter_list (s:={ s with heap:=h₁,toks:=tk₁ }) ⟨_,e2,rfl,_,rfl⟩ (vC (k:=.lst n 0) p f R₁ ⟨_,e,_,Heap.get?_push_size _ rfl,rfl,rfl⟩ q)
 | @tup vs ws t n e hx v =>
  cases hk
  refine wpAny_pyIter_tuple (s:={ s with heap:=h₁,toks:=tk₁ }) (items:=ws.toArray) ⟨_,e,rfl,_,rfl⟩ (vC (k:=.tup vs) p f R₁ ⟨t,ws.toArray,0,⟨_,Heap.get?_push_of_some _ e,rfl,_,rfl⟩,⟨_,Heap.get?_push_size _ rfl,rfl,rfl⟩,?_⟩ q)
  have:=v.mono (δ:=[]) R₁.muts (.push _ h₁ ({ cls:=.type "tuple_iterator",data:=.fields #[.ref t,.int 0 0] }:Obj))
  rw [List.append_nil] at this
  exact ⟨by simpa using this,hx⟩
 | @tw a b c r t u v e =>
  by_cases hs:Builtin.Range.small a b c=true
  · cases (if_pos hs).symm.trans hk
    refine wpAny_pyIter_range (s:={ s with heap:=h₁,toks:=tk₁ }) e hs (vC (k:=.tw a c (Builtin.Range.rangeSize a b c).toNat) p f R₁ ?_ q)
    show IsRangeIter _ _ _ _ _
    rw [Int.toNat_of_nonneg (vP a b c)]
    exact Heap.get?_push_size _ rfl
  · exact aP ((if_neg hs).symm.trans hk)
 | none=>exact aP hk
 | bool=>exact aP hk
 | int=>exact aP hk
 | dct=>exact aP hk
 | inst=>exact aP hk
 | pn=>exact aP hk
 | cst=>exact aP hk
end
section
variable {W:Wl} {d:Nat} {env:Env} {η:En} {σ:List AO}
def b9 (W:Wl) (f:AV):Prop:=∀ ρ h v,W.K.In h→VR W.hid ρ h f v→∃ k,(k=Keeper.frame∨k=Keeper.machine∨k=Keeper.boundFrame)∧Looks W.M h (keeperOf v) k
theorem b9.ref {a:Addr} (hk:keepIn W.K (.ref a)=true):b9 W (.cst (.ref a)):=λ ρ h v X hv=>by refine VR.aX hv ?_; exact keeps_K hk h X
theorem b9.builtin {i:String}:b9 W (.cst (.builtin i)):=λ ρ h v X hv=>by refine VR.aX hv ?_; exact ⟨.machine,.inr (.inl rfl),Looks.of_pure rfl⟩
theorem b9.type {i:String}:b9 W (.cst (.type i)):=λ ρ h v X hv=>by refine VR.aX hv ?_; exact ⟨.machine,.inr (.inl rfl),Looks.of_pure rfl⟩
theorem GB {K:Frag} {f:Addr} (h:fnIn K f=true):∃ c d fd sl,K.lookup f=some ⟨c,d,.func fd,sl⟩:=by
 delta fnIn at h
 cases e:K.lookup f with
 | none=>rw [e] at h; exact cV h
 | some o =>
  rw [e] at h
  obtain ⟨c,d,dt,sl⟩:=o
  cases dt with
  | func fd=>exact ⟨c,d,fd,sl,rfl⟩
  | _=>exact cV h
set_option tactic.hygienic true in
theorem b9.pn {f:Addr} {a:AV} (hf:fnIn W.K f=true):b9 W (.pn f a):=λ ρ h v X hv=>by
 refine hv.D9 λ _ _ e r=>?_
 refine ⟨.boundFrame,.inr (.inr rfl),?_⟩
 obtain ⟨c,dd,fd,sl,q⟩:=GB hf
 intro A Q E s k z
 unfold keeperOf
 refine wpAny_bind (wpAny_load (k _ _ e) ?_)
 dsimp only
 rw [if_neg (by decide)]
 refine wpAny_bind (wpAny_load (k _ _ (X _ _ q)) ?_)
 exact wpAny_pure z
theorem lA {A:Around} {E:Value→Shared→Prop} {s:Shared} {f:Value} {pos:Pos} {es:List Expr} {B:Args→Shared→Prop} (hu:es.all aK=true)
 (h:wpAny W.M A (spliced (backTo pos (starEach es env))) (λ vs s'=>B ⟨vs,[]⟩ s') E s):wpAny W.M A (evalArgs f true (backTo pos (starEach es env)) []) B E s:=by
 cases es with
 | nil =>
  unfold evalArgs
  show wpAny W.M A (spliced [] >>= _) B E s
  refine wpAny_bind (wpAny_mono h (λ vs s' h'=>?_) λ _ _ x=>x)
  refine wpAny_holding ?_
  exact wpAny_bind (wpAny_pure (wpAny_bind (wpAny_pure (wpAny_pure h'))))
 | cons e r =>
  rw [List.all_cons,Bool.and_eq_true] at hu
  have hu1:=hu.1
  have hs:backTo pos (starEach (e :: r) env)=(false,eval e env) :: backTo pos (starEach r env):=by cases e<;>first | rfl | (exact cV hu1)
  rw [hs] at h ⊢
  exact evalArgs_plain h
theorem noStar {pos:Pos}:∀ {es:List Expr},es.all aK=true→(backTo pos (starEach es env)).any (·.1)=false
 | [],_=>rfl
 | e :: r,hu=>by
  rw [List.all_cons,Bool.and_eq_true] at hu
  have hu1:=hu.1
  have hs:backTo pos (starEach (e :: r) env)=(false,eval e env) :: backTo pos (starEach r env):=by cases e<;>first | rfl | (exact cV hu1)
  rw [hs,List.any_cons,noStar hu.2]; rfl
theorem bh.append {X ρ:List Addr} {h:Heap} {as bs:List AV} {ws:List Value}:∀ {vs:List Value},bh X ρ h as vs→bh X ρ h bs ws→bh X ρ h (as++bs) (vs++ws):=by
 induction as with
 | nil=>exact λ hv y=>hv.aW y
 | cons a as ih=>exact λ hv y=>hv.aq λ _ _ x r=>.cons x (ih r y)
theorem xJ {A:Around} {s:Shared} {ρ:List Addr} {pos:Pos} {f:AV} {fv:Value} {first:List AV} {Qg:List Value} {args:List Expr} {Q:AV→List AO→Prop} (O:W.Ok) (hr:Rm d A) (R:aL W ρ σ s.heap) (F:cT W env η ρ s.heap)
 (hf:VR W.hid ρ s.heap f fv) (hfs:bh W.hid ρ s.heap first Qg) (hk:b9 W f) (hu:args.all aK=true) (h:mX W d env pos args η σ λ as af=>ao W d f (first++as) af Q) :
 wpAny W.M A (callWith pos fv Qg (backTo pos (starEach args env)) []) (λ v s'=>Post W [] ρ s (QV W Q v) s') nD s:=by
 refine callWith_of (P:=λ h=>∃ ρ',W.K.In h∧VR W.hid ρ' h f fv) (by rw [noStar hu]; rfl) (λ h ⟨ρ',X,v⟩=>hk ρ' h fv X v) ?_
 refine lA hu (aM (h A s ρ hr R F) λ ws h₁ tk₁ δ af p tW R₁ ⟨as,vs,q⟩=>?_)
 refine ⟨⟨ρ++δ,R₁.tB O,hf.mono R.muts p⟩,?_⟩
 exact wpAny_mono (q A _ _ fv (Qg++ws) hr R₁ (hf.mono R.muts p) ((hfs.mono R.muts p).append vs)) (λ _ _ z=>Post.chain p tW z) λ _ _ x=>x
theorem aT.call (O:W.Ok) {x:Str} {p pos:Pos} {f:AV} {args:List Expr} {Q:AV→List AO→Prop} (hx:yi η x f) (hk:b9 W f) (hu:args.all aK=true)
 (h:mX W d env pos args η σ λ as af=>ao W d f as af Q):aT W d env (.Call (.Name x p) args [] pos) η σ Q:=λ A s ρ hr R F=>by
 show wpAny _ _ (do callWith pos (← eval (.Name x p) env) [] (backTo pos (starEach args env)) []) _ _ _
 refine wpAny_bind (wpAny_Name (cW O hx R F λ w z=>?_) (hx.CX F))
 exact xJ O hr R F z .nil hk hu h
def cG (W:Wl) (d:Nat) (a:AV) (name:Str) (σ:List AO) (Q:AV→List AV→List AO→Prop):Prop :=
 ∀ A s ρ v pl,Rm d A→aL W ρ σ s.heap→VR W.hid ρ s.heap a v→wpAny W.M A (getMethod v name pl) (λ r s'=>Post W [] ρ s (λ ρ' σ' h'=>∃ f first,VR W.hid ρ' h' f r.1∧bh W.hid ρ' h' first r.2∧b9 W f∧Q f first σ') s') nD s
theorem aT.MZ (O:W.Ok) {o:Expr} {name:Str} {apos pos:Pos} {args:List Expr} {Q:AV→List AO→Prop} (hb:attributeBase o name env (eval o env)=eval o env) (hp:(apos.endLine==pos.line)=true)
 (hu:args.all aK=true) (hn:args.length<25)
 (h:aT W d env o η σ λ a af=>cG W d a name af λ f first ai=>mX W d env pos args η ai λ as az=>ao W d f (first++as) az Q) :
 aT W d env (.Call (.Attribute o name apos) args [] pos) η σ Q:=λ A s ρ hr R F=>by
 show wpAny _ _ (do
  let ov ← attributeBase o name env (eval o env)
  standAt apos.atName
  methodCall o name apos pos env ov (args.length+0) (backTo pos (starEach args env)) []) _ _ _
 rw [hb]
 refine wpAny_bind (aM (h A s ρ hr R F) λ ov h₁ tk₁ δ af p f R₁ ⟨a,va,q⟩=>wpAny_bind (wpAny_standAt ?_))
 unfold methodCall
 have few:methodCallForm (args.length+0) (backTo pos (starEach args env)) []=true:=by
  have h1:=noStar (env:=env) (pos:=pos) hu
  have h2:(backTo pos (starEach args env)).all (λ x=>!x.1)=true:=by
   rw [List.any_eq_false] at h1
   rw [List.all_eq_true]
   intro x hx; have:=h1 x hx; simpa using this
  unfold methodCallForm
  simp only [h2,List.all_nil,List.isEmpty_nil,Bool.true_and,if_true,decide_eq_true_eq]
  lia
 rw [few]
 have bq:=F.mono R.muts p f
 refine wpAny_bind (wpAny_holding (aM (q A _ _ _ _ hr R₁ va) λ r aF aJ δ₂ ai aN aR R₂ ⟨fa,first,vf,Qh,hk,bF⟩=>?_))
 have hpos:methodCallPos true o env apos pos=pure pos:=by unfold methodCallPos; rw [hp]; rfl
 rw [hpos]
 refine wpAny_bind (wpAny_pure ?_)
 exact wpAny_mono (xJ O hr R₂ (bq.mono R₁.muts aN aR) vf Qh hk hu bF) (λ _ _ z=>Post.chain p f (Post.chain (s:={ s with heap:=h₁,toks:=tk₁ }) aN aR z)) λ _ _ x=>x
noncomputable def Ai (W:Wl) (x:Str):Option Value:=match nsIn W.K mainGlobals x with
 | some (some v)=>some v
 | some none=>if x==("__name__" : Str) then none else bootBuiltins x
 | none=>none
set_option tactic.hygienic true in
theorem Cj (O:W.Ok) {x:Str} {v:Value} (h:Ai W x=some v):Bc W x v:=by
 unfold Ai at h
 cases e:nsIn W.K mainGlobals x with
 | none=>rw [e] at h; exact aP h
 | some o =>
  rw [e] at h
  cases o with
  | some u=>refine sE h ?_; exact .inl (mg_of O.tB O.g e)
  | none =>
   have h:(if x==("__name__" : Str) then none else bootBuiltins x)=some v:=h
   by_cases hn:(x==("__name__" : Str))=true
   · rw [if_pos hn] at h; exact aP h
   · rw [if_neg hn] at h
     exact .inr ⟨mg_none_of O.tB O.g e,(O.blt x (by simpa using hn)).trans h⟩
noncomputable def M3:NameKind→NK
 | .local=>.loc
 | .cell=>.xy
 | _=>.F0
noncomputable def wB (W:Wl) (names:List (Str×NameKind)) (ab:List (Str×AV)):En:=names.map λ p=>match p.2 with
 | .local=>(p.1,.loc,ab.lookup p.1)
 | .cell=>(p.1,.xy,ab.lookup p.1)
 | _=>(p.1,.F0,(Ai W p.1).map .cst)
noncomputable def Td:NameKind→Bool
 | .local | .cell | .globalImplicit=>true
 | _=>false
noncomputable def Aj (l:List (Str×NameKind)):Bool:=decide (l.map (·.1)).Nodup&&l.all λ p=>p.1 != ("__debug__" : Str)&&Td p.2
noncomputable def Be (fd:FuncData):Bool:=Aj fd.scope.names&&fd.scope.kind==.function&&!fd.scope.isCoroutine&&!fd.scope.isGenerator&&fd.closure.isEmpty&&fd.globals==mainGlobals&&fd.builtins==builtinsNs
theorem bJ {α:Type}:∀ {l:List (Str×α)},(l.map (·.1)).Nodup→∀ {n:Str} {c:α},(n,c)∈l→l.lookup n=some c
 | (k,v) :: r,nd,n,c,m=>by
  rw [List.lookup_cons]
  rw [List.map_cons,List.nodup_cons] at nd
  rcases List.mem_cons.mp m with e | m'
  · cases e; simp
  · have:(n==k)=false:=by
     rw [beq_eq_false_iff_ne]
     intro q
     exact nd.1 (List.mem_map.mpr ⟨(n,c),m',q⟩)
    rw [this]
    exact bJ nd.2 m'
end
theorem iO:∀ (names:List (Str×NameKind)) (n:Nat) (acc:List (Str×Addr)),(names.map (·.1)).Nodup→(acc.map (·.1)).Nodup→(∀ x∈acc.map (·.1),x∉names.map (·.1))→((cellsFrom n names acc).map (·.1)).Nodup
 | [],_,_,_,h,_=>h
 | (y,k) :: r,n,acc,hn,ha,hd=>by
  rw [List.map_cons,List.nodup_cons] at hn
  unfold cellsFrom
  split
  · refine iO r _ _ hn.2 ?_ ?_
    · rw [List.map_cons,List.nodup_cons]; exact ⟨λ m=>hd y m (.head _),ha⟩
    · intro x hx
      rcases List.mem_cons.mp hx with e | hx
      · rw [e]; exact hn.1
      · exact λ m=>hd x hx (.tail _ m)
  · exact iO r _ _ hn.2 ha λ x hx m=>hd x hx (.tail _ m)
theorem mY:∀ (names:List (Str×NameKind)) (n:Nat) (acc:List (Str×Addr)) (p:Str×Addr),p∈acc→p∈cellsFrom n names acc
 | [],_,_,_,m=>m
 | (y,k) :: r,n,acc,p,m=>by
  unfold cellsFrom
  split
  · exact mY r _ _ p (.tail _ m)
  · exact mY r _ _ p m
theorem kT:∀ (names:List (Str×NameKind)) (n:Nat) (acc:List (Str×Addr)) (x:Str),(x,NameKind.cell)∈names→∃ c,(x,c)∈cellsFrom n names acc
 | (y,k) :: r,n,acc,x,m=>by
  unfold cellsFrom
  rcases List.mem_cons.mp m with e | m
  · cases e
    rw [if_pos (by decide)]
    exact ⟨n,mY r _ _ _ (.head _)⟩
  · split
    · exact kT r _ _ x m
    · exact kT r _ _ x m
theorem yK {ko:Str→Option NameKind} {x:Str}:∀ {binds:List (Str×Value)} {m:Str→Option Value},x∉binds.map (·.1)→bindL ko binds m x=m x
 | [],_,_=>rfl
 | (n,v) :: r,m,h=>by
  unfold bindL
  rw [List.map_cons,List.mem_cons,not_or] at h
  rw [yK h.2]
  split
  · simp [h.1]
  · rfl
theorem yL {ko:Str→Option NameKind} {x:Str} {w:Value} (hk:ko x=some .local):∀ {binds:List (Str×Value)} {m:Str→Option Value},(binds.map (·.1)).Nodup→(x,w)∈binds→bindL ko binds m x=some w
 | (n,v) :: r,m,nd,h=>by
  unfold bindL
  rw [List.map_cons,List.nodup_cons] at nd
  rcases List.mem_cons.mp h with e | h
  · cases e
    rw [yK nd.1,if_pos hk]; simp
  · exact yL hk nd.2 h
theorem yM {ko:Str→Option NameKind} {x:Str}:∀ {binds:List (Str×Value)} {m:Str→Option Value},x∉binds.map (·.1)→bindC ko binds m x=m x
 | [],_,_=>rfl
 | (n,v) :: r,m,h=>by
  unfold bindC
  rw [List.map_cons,List.mem_cons,not_or] at h
  rw [yM h.2]
  split
  · rfl
  · simp [h.1]
theorem yN {ko:Str→Option NameKind} {x:Str} {w:Value} (hk:ko x=some .cell):∀ {binds:List (Str×Value)} {m:Str→Option Value},(binds.map (·.1)).Nodup→(x,w)∈binds→bindC ko binds m x=some w
 | (n,v) :: r,m,nd,h=>by
  unfold bindC
  rw [List.map_cons,List.nodup_cons] at nd
  rcases List.mem_cons.mp h with e | h
  · cases e
    rw [yM nd.1,if_neg (by rw [hk]; decide)]; simp
  · exact yN hk nd.2 h
def wg (X ρ:List Addr) (h:Heap) (ab:List (Str×AV)) (binds:List (Str×Value)):Prop:=binds.map (·.1)=ab.map (·.1)∧bh X ρ h (ab.map (·.2)) (binds.map (·.2))
theorem wg.get {X ρ:List Addr} {h:Heap}:∀ {ab:List (Str×AV)} {binds:List (Str×Value)},wg X ρ h ab binds→∀ {x:Str} {a:AV},ab.lookup x=some a→∃ w,(x,w)∈binds∧VR X ρ h a w
 | [],_,_,_,_,e=>by exact aP e
 | (y,b) :: r,[],hb,_,_,_=>by cases hb.1
 | (y,b) :: r,(n,v) :: t,⟨e1,e2⟩,x,a,e=>by
  rw [List.map_cons,List.map_cons] at e1 e2
  cases e2 with | cons q1 q2 =>
  injection e1 with e3 e4
  dsimp only at e3
  rw [List.lookup_cons] at e
  cases hx:x==y with
  | true=>rw [hx] at e; cases e; rw [beq_iff_eq.mp hx,← e3]; exact ⟨v,.head _,q1⟩
  | false =>
   rw [hx] at e
   obtain ⟨w,m,z⟩:=wg.get (ab:=r) (binds:=t) ⟨e4,q2⟩ e
   exact ⟨w,.tail _ m,z⟩
section
variable {W:Wl} {d:Nat} {σ:List AO}
noncomputable def Fl.val:Fl→AV
 | .ret v=>v
 | _=>.none
theorem CZ {k:NameKind} (h:(match k with | .local | .cell | .globalImplicit=>true | _=>false)=true):(M3 k).kind=k:=by cases k<;>first | rfl | exact cV h
theorem Bf (names:List (Str×NameKind)) (ab:List (Str×AV)):(wB W names ab).map (·.1)=names.map (·.1):=by
 unfold wB
 rw [List.map_map]
 apply List.map_congr_left
 intro p hp
 obtain ⟨x,k⟩:=p
 cases k<;>rfl
theorem sF {names:List (Str×NameKind)} {ab:List (Str×AV)} {x:Str} {k:NK} {v:Option AV} (m:(x,k,v)∈wB W names ab):∃ nk,(x,nk)∈names∧k=M3 nk∧v=(match nk with | .local=>ab.lookup x | .cell=>ab.lookup x | _=>(Ai W x).map .cst):=by
 unfold wB at m
 refine aG λ Ga ka=>?_
 obtain ⟨⟨y,nk⟩,hm,e⟩:=List.mem_map.mp m
 refine ka ?_
 clear ka
 cases nk<;>(cases e; exact ⟨_,hm,rfl,rfl⟩)
theorem vD (O:W.Ok) {a:Addr} {fd:FuncData} {body:List Stmt} {oc:Value} {od:Option Addr} {osl:Array (Option Value)} {as:List AV} {ab:List (Str×AV)} {η₀:En} {A:Around} {s:Shared} {ρ:List Addr} {vs:List Value} {B:Result→Shared→Prop}
 (hK:W.K.lookup a=some ⟨oc,od,.func fd,osl⟩) (hb:fd.body=.stmts body) (hcd:codeIn W.K fd.code fd.qualname=true) (hok:Be fd=true)
 (hbind:∀ ρ h vs,bh W.hid ρ h as vs→∃ binds,(∀ S,peek W.K S (bindArgs fd ⟨vs,[]⟩)=some binds)∧wg W.hid ρ h ab binds)
 (hab:(decide (ab.map (·.1)).Nodup&&ab.all λ p=>fd.scope.names.lookup p.1==some .local||fd.scope.names.lookup p.1==some .cell)=true)
 (hη:wB W fd.scope.names ab=η₀)
 (hr:Rm (d+1) A) (R:aL W ρ σ s.heap) (hv:bh W.hid ρ s.heap as vs)
 (h:∀ h₁ tk₁,(∀ b o,s.heap.get? b=some o→h₁.get? b=some o)→s.heap.objs.size≤h₁.objs.size→(∀ c∈addrs (callEnvC fd s.heap.objs.size a),s.heap.objs.size≤c)→aL W ρ σ h₁→cT W (callEnvC fd s.heap.objs.size a) η₀ ρ h₁ →
  codeAny W.M A (.func body (callEnvC fd s.heap.objs.size a)) B { s with heap:=h₁,toks:=tk₁ }):codeAny W.M A (.call (.ref a) ⟨vs,[]⟩) B s:=by
 obtain ⟨binds,hpk,M4⟩:=hbind ρ s.heap vs hv
 unfold Be at hok
 simp only [Bool.and_eq_true,Bool.not_eq_true',beq_iff_eq] at hok
 refine aG λ Ga ka=>?_
 obtain ⟨⟨⟨⟨⟨⟨hnf,hkind⟩,hco⟩,hgen⟩,hclo⟩,Te⟩,Tf⟩:=hok
 refine ka ?_
 clear ka
 have hclo:fd.closure=[]:=List.isEmpty_iff.mp hclo
 unfold Aj at hnf
 rw [Bool.and_eq_true,List.all_eq_true] at hnf
 obtain ⟨hnd,hall⟩:=hnf
 have hnd:=of_decide_eq_true hnd
 rw [Bool.and_eq_true,List.all_eq_true] at hab
 obtain ⟨GC,Qi⟩:=hab
 have GC:=of_decide_eq_true GC
 have hX:=R.tB O
 refine codeAny_call_function (by have:=hr.depth; lia) (hX _ _ hK) rfl hco hgen hb (codeRec_of hX hcd) ?_
 refine (Looks.of_peek (M:=W.M) hX (hpk _)).here ?_
 rw [hclo]
 have bk:∀ x∈binds,fd.scope.names.lookup x.1=some .local∨(fd.scope.names.lookup x.1=some .cell∧((cellsFrom (s.heap.objs.size+1) fd.scope.names []).lookup x.1).isSome=true):=by
  intro x hx
  have hx':x.1∈ab.map (·.1):=by rw [← M4.1]; exact List.mem_map.mpr ⟨x,hx,rfl⟩
  obtain ⟨p,hp,e⟩:=List.mem_map.mp hx'
  have:=Qi p hp
  rw [Bool.or_eq_true,beq_iff_eq,beq_iff_eq,e] at this
  rcases this with q | q
  · exact .inl q
  · refine .inr ⟨q,?_⟩
    obtain ⟨c,hc⟩:=kT fd.scope.names (s.heap.objs.size+1) [] x.1 (mem_of_lookup q)
    rw [bJ (iO _ _ [] hnd List.nodup_nil (λ _ h=>nomatch h)) hc]; rfl
 refine wpAny_newFunctionEnv_cells hkind bk λ env he s' x=>?_
 have he:env=callEnvC fd s.heap.objs.size a:=he
 subst he
 obtain ⟨h₁,tk₁,rfl⟩:=x.toInCall.same
 have hkeep:=x.toInCall.keep
 have hfr:∀ c∈addrs (callEnvC fd s.heap.objs.size a),s.heap.objs.size≤c:=λ c hc=>by
  rcases List.mem_cons.mp hc with e | hc
  · exact Nat.le_of_eq e.symm
  · obtain ⟨p,hp,rfl⟩:=List.mem_map.mp hc
    exact Nat.le_of_lt (x.above p.1 p.2 hp)
 have hcn:((callEnvC fd s.heap.objs.size a).cells.map (·.1)).Nodup:=iO _ _ [] hnd List.nodup_nil (λ _ h=>nomatch h)
 have hcell:∀ p∈(callEnvC fd s.heap.objs.size a).cells,h₁.IsCell p.2 (bindC (callEnvC fd s.heap.objs.size a).kindOf binds (λ _=>none) p.1):=λ p hp=>x.cell p.1 p.2 (bJ hcn hp)
 have hmut:cE W.hid h₁ (addrs (callEnvC fd s.heap.objs.size a)):=λ c hc=>by
  rcases List.mem_cons.mp hc with e | hc
  · rw [e]; exact pq x.toInCall.ns
  · obtain ⟨p,hp,rfl⟩:=List.mem_map.mp hc
    exact tO (hcell p hp)
 have hsz:s.heap.objs.size≤h₁.objs.size:=by
  have:=x.toInCall.ns.lt
  exact Nat.le_of_lt this
 have o4:aH [] s.heap h₁:=⟨hsz,λ b o e _=>hkeep b o e⟩
 have Pρ:aH ρ s.heap h₁:=⟨hsz,λ b o e _=>hkeep b o e⟩
 have R₁:aL W ρ σ h₁:=R.keeps o4
 have vm:∀ {a:AV} {v:Value},VR W.hid ρ s.heap a v→VR W.hid ρ h₁ a v:=λ z=>by
  have:=z.mono (δ:=[]) R.muts Pρ; rwa [List.append_nil] at this
 have kd:∀ y nk,(y,nk)∈fd.scope.names→(callEnvC fd s.heap.objs.size a).kindOf y=some nk:=λ y nk m=>bJ hnd m
 have bq:cT W (callEnvC fd s.heap.objs.size a) η₀ ρ h₁:=by
  subst hη
  refine ⟨⟨hkind,Te,Tf,by rw [Bf]; exact hnd,λ y k v m=>?_,λ y k v m=>?_,x.apart,λ c hc=>Nat.ne_of_gt (x.above c.1 c.2 hc)⟩,λ c hc m=>?_,λ c hc=>?_,λ c hc=>?_,hmut,⟨_,x.toInCall.ns,λ y v m=>?_⟩,λ y v m=>?_,λ y v m=>?_⟩
  · obtain ⟨nk,hm,e,_⟩:=sF m
    have:=hall (y,nk) hm
    rw [Bool.and_eq_true] at this
    rw [e,CZ this.2]
    exact kd y nk hm
  · obtain ⟨nk,hm,e,_⟩:=sF m
    have:=hall (y,nk) hm
    rw [Bool.and_eq_true] at this
    simpa using this.1
  · obtain ⟨o,e,_⟩:=R.muts c m
    exact absurd (Heap.lt_size e) (Nat.not_lt.mpr (hfr c hc))
  · obtain ⟨o,e,_⟩:=hmut c hc
    exact Heap.lt_size e
  · cases q:W.hb.get? c with
    | none=>rfl
    | some o=>exact absurd (Heap.lt_size (R.base _ _ q)) (Nat.not_lt.mpr (hfr c hc))
  · obtain ⟨nk,hm,e,ev⟩:=sF m
    cases nk<;>first | (cases e; done) | skip
    obtain ⟨w,hw,z⟩:=M4.get ev.symm
    exact ⟨w,yL (kd y _ hm) (by rw [M4.1]; exact GC) hw,vm z⟩
  · obtain ⟨nk,hm,e,ev⟩:=sF m
    cases nk<;>first | (cases e; done) | skip
    obtain ⟨c,hc⟩:=kT fd.scope.names (s.heap.objs.size+1) [] y hm
    refine ⟨c,_,bJ hcn hc,hcell _ hc,λ u hu=>?_⟩
    subst hu
    obtain ⟨w,hw,z⟩:=M4.get ev.symm
    exact ⟨w,yN (kd y _ hm) (by rw [M4.1]; exact GC) hw,vm z⟩
  · obtain ⟨nk,hm,e,ev⟩:=sF m
    cases nk<;>first | (cases e; done) | skip
    all_goals
     dsimp only at ev
     cases q:Ai W y with
     | none=>rw [q] at ev; cases ev
     | some w=>rw [q] at ev; cases ev; exact ⟨w,rfl,Cj O q⟩
 exact ⟨R₁.lim O,h h₁ tk₁ hkeep hsz hfr R₁ bq⟩
theorem ah.fn (O:W.Ok) {a:Addr} {fd:FuncData} {body:List Stmt} {oc:Value} {od:Option Addr} {osl:Array (Option Value)} {as:List AV} {ab:List (Str×AV)} {η₀:En} {Q:AV→List AO→Prop}
 (hK:W.K.lookup a=some ⟨oc,od,.func fd,osl⟩) (hb:fd.body=.stmts body) (hcd:codeIn W.K fd.code fd.qualname=true) (hok:Be fd=true)
 (hbind:∀ ρ h vs,bh W.hid ρ h as vs→∃ binds,(∀ S,peek W.K S (bindArgs fd ⟨vs,[]⟩)=some binds)∧wg W.hid ρ h ab binds)
 (hab:(decide (ab.map (·.1)).Nodup&&ab.all λ p=>fd.scope.names.lookup p.1==some .local||fd.scope.names.lookup p.1==some .cell)=true)
 (hη:wB W fd.scope.names ab=η₀)
 (h:∀ L,cF W d (callEnvC fd L a) body η₀ σ λ fl _ σ'=>Q fl.val σ'):ah W (d+1) (.cst (.ref a)) as σ Q:=λ A s ρ fv vs hr R hf hv=>by
 refine VR.aX hf ?_
 refine vD O hK hb hcd hok hbind hab hη hr R hv λ h₁ tk₁ hkeep hsz hfr R₁ bq=>?_
 refine codeAny_func (pA (h s.heap.objs.size (A.deeper _) { s with heap:=h₁,toks:=tk₁ } ρ ⟨hr.handled,by have:=hr.depth; show A.depth+1+2*d+2<recursionLimit; lia,by have:=hr.units; show A.units+3+20*d+20<cLine; lia⟩ R₁ bq) λ f c7 z=>?_)
 obtain ⟨aF,aJ,δ₂,ai,oW,aN,aR,R₂,fl,η₂,F₂,fx,bF⟩:=z
 subst oW
 have zP:aH ([]++ρ) s.heap aF:=⟨Nat.le_trans hsz aN.size,λ b o e n=>aN.keep b o (hkeep b o e) λ m=>by
  rcases List.mem_append.mp m with m | m
  · exact absurd (Heap.lt_size e) (Nat.not_lt.mpr (hfr b m))
  · exact n m⟩
 have fin:∀ (v:Value) (u:AV),VR W.hid (ρ++δ₂) aF u v→Q u ai→Post W [] ρ s (QV W Q v) { s with heap:=aF,toks:=aJ }:=λ v u z q =>
  ⟨aF,aJ,δ₂,ai,rfl,zP,λ b hb=>Nat.le_trans hsz (aR b hb),R₂,u,z,q⟩
 cases fx with
 | next=>exact fin _ _ .none bF
 | brk=>exact fin _ _ .none bF
 | cont=>exact fin _ _ .none bF
 | ret hv=>exact fin _ _ hv bF
end
theorem Qj {α:Type} {c:Prop} [i:Decidable c] {v:α} (h:(if c then none else some (none:Option α))=some (some v)):False:=by cases i with | isTrue _=>exact nomatch h | isFalse _=>exact nomatch h
theorem z8.getL {X ρ:List Addr} {h:Heap} {x:Str} {fs:List (Str×AV)} {ds:List DictEntry} (r:z8 X ρ h fs ds):(∀ a,fs.lookup x=some a→∃ v,getL x ds=some (some v)∧VR X ρ h a v)∧(fs.lookup x=none→getL x ds=some none):=by
 induction r with
 | nil=>exact ⟨λ a e=>aP e,λ _=>rfl⟩
 | @cons y a' fs e es hk hv r ih =>
  obtain ⟨t,hk⟩:=hk
  obtain ⟨r1,r2⟩:=ih
  have hs:e.key.isStr x=(y==x):=by rw [hk]; rfl
  refine ⟨λ a ea=>?_,λ en=>?_⟩
  · rw [List.lookup_cons] at ea
    cases hx:x==y with
    | true =>
     rw [hx] at ea; refine sE ea ?_
     have:(y==x)=true:=by rw [beq_iff_eq] at hx ⊢; exact hx.symm
     refine ⟨e.val,?_,hv⟩
     unfold PySem.W.getL
     rw [List.find?_cons,hs,this]
    | false =>
     rw [hx] at ea
     have:(y==x)=false:=by rw [beq_eq_false_iff_ne] at hx ⊢; exact λ q=>hx q.symm
     obtain ⟨v,q,z⟩:=r1 a ea
     refine ⟨v,?_,z⟩
     unfold PySem.W.getL at q ⊢
     rw [List.find?_cons,hs,this]
     dsimp only
     generalize List.find? (λ z=>z.key.isStr x) es=o at q ⊢
     cases o with
     | some e=>exact q
     | none=>exact (Qj q).elim
  · rw [List.lookup_cons] at en
    cases hx:x==y with
    | true=>rw [hx] at en; cases en
    | false =>
     rw [hx] at en
     have:(y==x)=false:=by rw [beq_eq_false_iff_ne] at hx ⊢; exact λ q=>hx q.symm
     have q:=r2 en
     unfold PySem.W.getL at q ⊢
     rw [List.find?_cons,hs,this,List.any_cons]
     dsimp only
     have hrk:e.refKey=false:=by unfold DictEntry.refKey; rw [hk]
     rw [hrk,Bool.false_or]
     exact q
section
variable {W:Wl} {d:Nat} {env:Env} {η:En} {σ:List AO}
inductive Iw (W:Wl) (ρ:List Addr) (h:Heap) (C x:Addr) (n:Nat) (fs:List (Str×AV)):Prop
 | mk (dx:Addr) (ds:List DictEntry) (m:Nat) (e1:ρ[n]? = some dx) (e2:h.get? x=some (instObj C dx)) (e3:h.get? dx=some (dictOf ds m)) (r:z8 W.hid ρ h fs ds) (I:InstAt h x (instObj C dx) C (some (dictOf ds m))):Iw W ρ h C x n fs
theorem sR {ρ:List Addr} {h:Heap} (R:aL W ρ σ h) {C x:Addr} {n:Nat} {fs:List (Str×AV)} (hv:VR W.hid ρ h (.inst C n) (.ref x)) (e:σ[n]? = some (.inst fs)):Iw W ρ h C x n fs:=by
 cases hv with | @inst _ _ _ dx e1 e2 =>
 refine aG λ Ga ka=>?_
 obtain ⟨a,ob,q1,q2,ds,m,q3,q4⟩:=R.objs n _ e
 refine ka ?_
 clear ka
 rw [e1] at q1; cases q1; subst q3
 exact ⟨dx,ds,m,e1,e2,q2,q4,⟨e2,rfl,rfl,q2⟩⟩
noncomputable def ki:AV→Bool
 | .cst v=>handedIn v
 | _=>true
theorem Ak {X ρ:List Addr} {h:Heap} {a:AV} {v:Value} (hv:VR X ρ h a v) (e:ki a=true):handedIn v=true:=by
 cases hv<;>first | rfl | exact e
noncomputable def zg (W:Wl) (C:Addr) (name:Str):Bool:=plainGet W.K C name&&hasDictIn W.K C&&(findIn W.K (.ref C) name).any λ attr=>noGet W.K attr
def o6 (W:Wl) (d:Nat) (a:AV) (name:Str) (σ:List AO) (Q:AV→List AO→Prop):Prop :=
 ∀ A s ρ v ex,Rm d A→aL W ρ σ s.heap→VR W.hid ρ s.heap a v→wpAny W.M A (getAttr v name ex) (λ r s'=>Post W [] ρ s (QV W Q r) s') nD s
theorem o6.field (O:W.Ok) {C:Addr} {n:Nat} {name:Str} {fs:List (Str×AV)} {a:AV} {Q:AV→List AO→Prop} (e:σ[n]? = some (.inst fs)) (ea:fs.lookup name=some a) (hf:zg W C name=true) (hh:ki a=true)
 (q:Q a σ):o6 W d (.inst C n) name σ Q:=λ A s ρ v ex hr R hv=>by
 obtain ⟨x,rfl⟩:∃ x,v=.ref x:=by refine VR.qC hv λ _ _ _ _=>?_; exact ⟨_,rfl⟩
 obtain ⟨dx,ds,m,e1,e2,e3,fr,I⟩:=sR R hv e
 unfold zg at hf
 rw [Bool.and_eq_true,Bool.and_eq_true] at hf
 obtain ⟨⟨h1,h2⟩,h3⟩:=hf
 obtain ⟨attr,h4,h5⟩:=any_some h3
 obtain ⟨w,q1,q2⟩:=fr.getL.1 a ea
 exact get_value (R.tB O) I (plainGet_of h1).1 (findObj_own h2 h4 h5 q1) (Ak q2 hh) (Post.here R ⟨a,q2,q⟩ _)
theorem cG.fn (O:W.Ok) {C:Addr} {n:Nat} {name:Str} {fs:List (Str×AV)} {f:Addr} {Q:AV→List AV→List AO→Prop} (e:σ[n]? = some (.inst fs)) (ea:fs.lookup name=none)
 (hf:findIn W.K (.ref C) name=some (some (.ref f))) (hk:(plainGet W.K C name&&isFn W.K (.ref f)&&keepIn W.K (.ref f))=true) (q:Q (.cst (.ref f)) [.inst C n] σ):cG W d (.inst C n) name σ Q:=λ A s ρ v pl hr R hv=>by
 obtain ⟨x,rfl⟩:∃ x,v=.ref x:=by refine VR.qC hv λ _ _ _ _=>?_; exact ⟨_,rfl⟩
 obtain ⟨dx,ds,m,e1,e2,e3,fr,I⟩:=sR R hv e
 rw [Bool.and_eq_true,Bool.and_eq_true] at hk
 obtain ⟨⟨h1,h2⟩,h3⟩:=hk
 refine method_fn (R.tB O) I (plainGet_of h1).1 (plainGet_of h1).2 hf (beq_iff_eq.mp h2) ?_ (Post.here R ⟨_,_,.cst _,.cons hv .nil,b9.ref h3,q⟩ s.toks)
 show (lookIn name (dictOf ds m)).map _=_
 rw [lookIn_dict,fr.getL.2 ea]; rfl
theorem ym {α β:Type} {o:Option α} {f:α→Option β} {a:α} {b:Option β} (h:o=some a) (k:f a=b):o.bind f=b:=by rw [h]; exact k
theorem cG.static (O:W.Ok) {C:Addr} {n:Nat} {name:Str} {fs:List (Str×AV)} {f:Value} {p:Addr} {rest:List Value} {Q:AV→List AV→List AO→Prop} (e:σ[n]? = some (.inst fs)) (ea:fs.lookup name=none)
 (hf:findIn W.K (.ref C) name=some (some (.ref p))) (hp:recIn W.K p "staticmethod" = some (f :: rest))
 (hk:(plainGet W.K C name&&hasDictIn W.K C&&keepIn W.K f&&handedIn f&&!copiedNames.contains name&&(takesIn W.K (.ref p)==some false)&&(specialIn W.K (.ref p) "__get__" == some (some (.builtin "staticmethod.__get__")))
  && (typeIn W.K (.ref p)).any λ t=>t != .type "function" && t != .type "method_descriptor" && t != .type "wrapper_descriptor")=true)
 (hkf:b9 W (.cst f)) (q:Q (.cst f) [] σ):cG W d (.inst C n) name σ Q:=λ A s ρ v pl hr R hv=>by
 obtain ⟨x,rfl⟩:∃ x,v=.ref x:=by refine VR.qC hv λ _ _ _ _=>?_; exact ⟨_,rfl⟩
 obtain ⟨dx,ds,m,e1,e2,e3,fr,I⟩:=sR R hv e
 simp only [Bool.and_eq_true,Bool.not_eq_true',beq_iff_eq] at hk
 refine aG λ Ga ka=>?_
 obtain ⟨⟨⟨⟨⟨⟨⟨h1,h2⟩,h3⟩,h4⟩,h5⟩,h6⟩,h7⟩,h8⟩:=hk
 refine ka ?_
 clear ka
 have X:=R.tB O
 refine method_usual X I (plainGet_of h1).1 (plainGet_of h1).2 hf (by simpa using h8) ?_
 obtain ⟨cd,hc,hd'⟩:=any_some h2
 have hfo:findObj W.K C (some (dictOf ds m)) name=some (.bind (.builtin "staticmethod.__get__") (.ref p)):=by
  have ho:PySem.W.ownOf cd (some (dictOf ds m)) name=some none:=by unfold PySem.W.ownOf; rw [if_pos hd']; exact fr.getL.2 ea
  exact ym hc (ym hf (ym h7 (ym h6 (ym ho (by show (if (copiedNames.contains name&&_)=true then _ else _)=_; rw [h5]; rfl)))))
 refine get_bind X I (plainGet_of h1).1 hfo (plainGet_of h1).2 (wpAny_call (sm_get (s:={ s with toks:=s.toks+1 }) X hp ?_))
 exact handed_on h4 (Post.here R ⟨_,_,.cst _,.nil,hkf,q⟩ _)
theorem o6.pn (O:W.Ok) {C:Addr} {n:Nat} {name:Str} {fs:List (Str×AV)} {f:Addr} {Q:AV→List AO→Prop} (e:σ[n]? = some (.inst fs)) (ea:fs.lookup name=none)
 (hf:findIn W.K (.ref C) name=some (some (.ref f)))
 (hk:(plainGet W.K C name&&hasDictIn W.K C&&isFn W.K (.ref f)&&!copiedNames.contains name&&(takesIn W.K (.ref f)==some false)&&(specialIn W.K (.ref f) "__get__" == some (some (.builtin "function.__get__"))))=true)
 (q:Q (.pn f (.inst C n)) σ):o6 W d (.inst C n) name σ Q:=λ A s ρ v ex hr R hv=>by
 obtain ⟨x,rfl⟩:∃ x,v=.ref x:=by refine VR.qC hv λ _ _ _ _=>?_; exact ⟨_,rfl⟩
 obtain ⟨dx,ds,m,e1,e2,e3,fr,I⟩:=sR R hv e
 simp only [Bool.and_eq_true,Bool.not_eq_true',beq_iff_eq] at hk
 obtain ⟨⟨⟨⟨⟨h1,h2⟩,h3⟩,h5⟩,h6⟩,h7⟩:=hk
 have X:=R.tB O
 refine aG λ Ga ka=>?_
 obtain ⟨cd,hc,hd'⟩:=any_some h2
 refine ka ?_
 clear ka
 have hfo:findObj W.K C (some (dictOf ds m)) name=some (.bind (.builtin "function.__get__") (.ref f)):=by
  have ho:PySem.W.ownOf cd (some (dictOf ds m)) name=some none:=by unfold PySem.W.ownOf; rw [if_pos hd']; exact fr.getL.2 ea
  exact ym hc (ym hf (ym h7 (ym h6 (ym ho (by show (if (copiedNames.contains name&&_)=true then _ else _)=_; rw [h5]; rfl)))))
 refine get_bind X I (plainGet_of h1).1 hfo (plainGet_of h1).2 (wpAny_call (fn_get (s:={ s with toks:=s.toks+1 }) X (beq_iff_eq.mp h3) ?_))
 refine handed_on rfl (vt R (methodObj (.ref f) (.ref x)) ⟨_,.pn (Heap.get?_push_size _ rfl) ?_,q⟩ _)
 have:=hv.mono (δ:=[]) R.muts (.push _ s.heap (methodObj (.ref f) (.ref x)))
 rwa [List.append_nil] at this
theorem ah.pn {f:Addr} {a:AV} {as:List AV} {Q:AV→List AO→Prop} (h:ah W d (.cst (.ref f)) (a :: as) σ Q):ah W d (.pn f a) as σ Q:=λ A s ρ fv vs hr R hf hv=>by
 refine hf.D9 λ p v e va=>?_
 exact method_call e (h A s ρ (.ref f) (v :: vs) hr R (.cst _) (.cons va hv))
end
theorem C0 {α:Type} {l:List α} (nd:l.Nodup) {m n:Nat} {a:α} (h1:l[m]? = some a) (h2:l[n]? = some a):m=n:=by
 obtain ⟨h1,e1⟩:=List.getElem?_eq_some_iff.mp h1
 obtain ⟨h2,e2⟩:=List.getElem?_eq_some_iff.mp h2
 exact (List.getElem_inj nd).mp (e1.trans e2.symm)
section
variable {W:Wl} {d:Nat} {env:Env} {η:En} {σ:List AO}
theorem aL.upd {ρ:List Addr} {h h':Heap} (R:aL W ρ σ h) {n:Nat} {a:Addr} {o':AO} {Iq:Obj} (e:ρ[n]? = some a) (hs:Heap.SameBut a h h') (hg:h'.get? a=some Iq) (ho:OR W.hid ρ h' o' Iq) {t:AO} (ht:σ[n]? = some t) (hn:t.Im=false):aL W ρ (σ.set n o') h':=by
 have hm:a∈ρ:=List.mem_of_getElem? e
 have P:aH ρ h h':=.sameBut hs hm
 refine ⟨λ b o q=>(hs.2 b λ z=>?_).trans (R.base b o q),R.fresh,by rw [List.length_set]; exact R.len,R.nodup,λ b hb=>Nat.lt_of_lt_of_le (R.z9 b hb) P.size,λ m o q=>?_,λ q hq=>?_⟩
 · have:=R.fresh a hm
   rw [z] at q
   have q':=q
   rw [this] at q'; exact aP q'
 · rw [List.getElem?_set] at q
   by_cases hmn:n=m
   · subst hmn
     rw [if_pos rfl] at q
     split at q
     · refine sE q ?_; exact ⟨a,Iq,e,hg,ho⟩
     · exact aP q
   · rw [if_neg hmn] at q
     obtain ⟨b,ob,e1,e2,r⟩:=R.objs m o q
     have hb:b≠a:=λ z=>hmn (C0 R.nodup e (z▸e1))
     have:=r.mono (δ:=[]) R.muts P
     rw [List.append_nil] at this
     exact ⟨b,ob,e1,(hs.2 b hb).trans e2,this⟩
 · obtain ⟨m,e1,e2⟩:=R.tabs q hq
   refine ⟨m,e1,?_⟩
   rw [List.getElem?_set,if_neg λ z=>?_]
   · exact e2
   · rw [z,e2] at ht
     cases ht
     exact cV hn.symm
theorem wL {S ρ:List Addr} {s:Shared} {h':Heap} (R:aL W ρ σ s.heap) {n:Nat} {a:Addr} {o':AO} {Iq:Obj} {Q:List Addr→List AO→Heap→Prop} (e:ρ[n]? = some a) (hs:Heap.SameBut a s.heap h') (hg:h'.get? a=some Iq)
 (ho:OR W.hid ρ h' o' Iq) {t:AO} (ht:σ[n]? = some t) (hn:t.Im=false) (tk:Nat) (q:Q ρ (σ.set n o') h'):Post W S ρ s Q { s with heap:=h',toks:=tk } :=
 ⟨h',tk,[],σ.set n o',rfl,(.sameBut hs (List.mem_append_right _ (List.mem_of_getElem? e))),(λ _ h=>nomatch h),by rw [List.append_nil]; exact R.upd e hs hg ho ht hn,by rw [List.append_nil]; exact q⟩
noncomputable def aI (x:Str) (v:AV):List (Str×AV)→List (Str×AV)
 | []=>[(x,v)]
 | (y,a) :: r=>if y==x then (y,v) :: r else (y,a) :: aI x v r
theorem z8.put {X ρ:List Addr} {h:Heap} {x:Str} {v:AV} {w:Value} {hsh:Int} {tk:Tok} (hv:VR X ρ h v w):∀ {fs:List (Str×AV)} {ds:List DictEntry},z8 X ρ h fs ds→z8 X ρ h (aI x v fs) (putL x hsh (.str x tk) w ds)
 | _,_,.nil=>.cons ⟨tk,rfl⟩ hv .nil
 | _,_,.cons (x:=y) (e:=e) (es:=es) (fs:=fs) ⟨t,hk⟩ hu r=>by
  have hs:e.key.isStr x=(y==x):=by rw [hk]; rfl
  unfold aI putL
  rw [hs]
  cases hx:y==x with
  | true=>exact .cons ⟨t,hk⟩ hv r
  | false=>exact .cons ⟨t,hk⟩ hu (r.put hv)
theorem z8.len {X ρ:List Addr} {h:Heap}:∀ {fs:List (Str×AV)} {ds:List DictEntry},z8 X ρ h fs ds→ds.length=fs.length:=λ x=>by
 induction x with
 | nil=>rfl
 | cons _ _ _ ih=>exact congrArg (· + 1) ih
theorem z8.plain {X ρ:List Addr} {h:Heap} {x:Str}:∀ {fs:List (Str×AV)} {ds:List DictEntry},z8 X ρ h fs ds→ds.any (·.refKey)=false:=λ x=>by
 induction x with
 | nil=>rfl
 | cons q _ _ ih=>obtain ⟨t,hk⟩:=q; rw [List.any_cons,ih]; unfold DictEntry.refKey; rw [hk]; rfl
def yo (W:Wl) (d:Nat) (a:AV) (name:Str) (v:AV) (σ:List AO) (Q:List AO→Prop):Prop :=
 ∀ A s ρ ov w,Rm d A→aL W ρ σ s.heap→VR W.hid ρ s.heap a ov→VR W.hid ρ s.heap v w→wpAny W.M A (setAttr ov name w) (λ _ s'=>Post W [] ρ s (λ _ σ' _=>Q σ') s') nD s
noncomputable def setOk (K:Frag) (C:Addr) (name:Str):Bool:=(findIn K (.ref C) "__setattr__" == some (some (.builtin "object.__setattr__")))&&plainOver K C&&(takerIn K C name==some none)&&(clsIn K C).any (·.hasDict)
theorem yo.field (O:W.Ok) {C:Addr} {n:Nat} {name:Str} {v:AV} {fs:List (Str×AV)} {Q:List AO→Prop} (e:σ[n]? = some (.inst fs)) (hk:setOk W.K C name=true) (hz:(aI name v fs).length≤1000) (q:Q (σ.set n (.inst (aI name v fs)))) :
 yo W d (.inst C n) name v σ Q:=λ A s ρ ov w hr R hov hv=>by
 obtain ⟨x,rfl⟩:∃ x,ov=.ref x:=by refine VR.qC hov λ _ _ _ _=>?_; exact ⟨_,rfl⟩
 obtain ⟨dx,ds,m,e1,e2,e3,fr,I⟩:=sR R hov e
 unfold setOk at hk
 simp only [Bool.and_eq_true,beq_iff_eq] at hk
 obtain ⟨⟨⟨h1,h2⟩,h3⟩,h4⟩:=hk
 have X:=R.tB O
 refine set_plain X I h1 ?_
 refine osa_open (s:={ s with toks:=s.toks+1 }) X I h2 h3 λ b=>?_
 obtain ⟨cd,hc,hd'⟩:=any_some h4
 refine wpAny_bind (wpAny_pure (wpAny_bind (wpAny_bind (wpAny_loadPart e2 (wpAny_bind (looks_clsIn X hc _ _ _ _ (λ _ _ e=>e) ?_))))))
 rw [hd']
 refine wpAny_pure (a:=some dx) (wpAny_bind (wpAny_pure (wpAny_bind ?_)))
 unfold nsSet
 refine wpAny_bind (wpAny_bind (wpAny_askSetting (wpAny_pure (wpAny_bind (wpAny_mkText (wpAny_bind (wpAny_loadPart e3 ?_)))))))
 have c:(!ds.toArray.any (·.key.isStr name)&&ds.toArray.any (·.refKey))=false:=by
  rw [← Array.any_toList,← Array.any_toList]
  show (_&&ds.any (·.refKey))=false
  rw [fr.plain (x:=name),Bool.and_false]
 dsimp only
 rw [aRefKeyMayBeTheName_at,c]
 refine wpAny_updatePart e3 ?_
 have S:=Heap.SameBut.update s.heap dx (Obj.putName name (PyData.keyHash W.w.params name) (.str name (s.toks+1)) w)
 have G:=Heap.get?_update_self (Obj.putName name (PyData.keyHash W.w.params name) (.str name (s.toks+1)) w) e3 (by rw [putName_dict]; rfl)
 rw [putName_dict] at G
 have hm:dx∈ρ:=List.mem_of_getElem? e1
 have P:aH ρ s.heap (s.heap.update dx (Obj.putName name (PyData.keyHash W.w.params name) (.str name (s.toks+1)) w)):=.sameBut S hm
 have RH:=fr.put (x:=name) (hsh:=PyData.keyHash W.w.params name) (tk:=s.toks+1) hv
 have M5:=RH.mono (δ:=[]) R.muts P
 rw [List.append_nil] at M5
 refine wpAny_bind (wpAny_lookBehind G ?_ ?_)
 · refine pastItsLine_dict ?_
   rw [List.size_toArray,sizeLine_eq,RH.len]; exact Lq.qy (Lq.qy hz (by decide)) (Lq.nr _ _)
 · exact wpAny_pure (wL (s:=s) (o':=.inst (aI name v fs)) R e1 S G ⟨_,_,rfl,M5⟩ e rfl _ q)
theorem iP.setattr {o value:Expr} {name:Str} {pos' pos:Pos} {Q:Fl→En→List AO→Prop} (hs:swapsWith value (some (.Attribute o name pos')) pos.line env=pure false)
 (h:aT W d env value η σ λ v af=>aT W d env o η af λ a ai=>yo W d a name v ai λ az=>Q .next η az):iP W d env (.Assign [.Attribute o name pos'] value pos) η σ Q:=λ A s ρ hr R F=>by
 refine plainObj_wpAny_Assign_Attribute (aM (h A s ρ hr R F) λ w h₁ tk₁ δ af p f R₁ ⟨v,hv,q⟩=>?_) hs
 have bq:=F.mono R.muts p f
 refine aM (q A _ _ hr R₁ bq) λ ov aF aJ δ₂ ai aN aR R₂ ⟨a,ha,bF⟩=>?_
 have F₂:=bq.mono R₁.muts aN aR
 refine aM (Q₁:=λ _ _ σ' _=>Q .next η σ') (bF A _ _ _ _ hr R₂ ha (hv.mono R₁.muts aN)) λ _ cz c9 δ₃ az cA f₃ R₃ nC=>?_
 have F₃:=F₂.mono R₂.muts cA f₃
 refine Post.Cf (Post.chain p f (Post.chain (s:={ s with heap:=h₁,toks:=tk₁ }) aN aR (Post.chain (s:={ s with heap:=aF,toks:=aJ }) (tk₁:=c9) cA f₃ ?_)))
 exact Post.here (s:={ s with heap:=cz,toks:=c9 }) R₃ ⟨.next,η,F₃,.next,nC⟩ c9
theorem Ed {A:Around} (hr:Rm (d+1) A) {C:Addr} {vs:List Value}:Rm d (A.under (.builtin "type.__call__" ⟨.ref C :: vs,[]⟩)):=by
 have hd:(A.under (.builtin "type.__call__" ⟨.ref C :: vs,[]⟩)).depth=A.depth+1:=rfl
 have hu:(A.under (.builtin "type.__call__" ⟨.ref C :: vs,[]⟩)).units=A.units+1:=rfl
 refine ⟨hr.handled,?_,?_⟩
 · rw [hd]; have:=hr.depth; lia
 · rw [hu]; have:=hr.units; lia
noncomputable def M6 (K:Frag) (C fI:Addr):Bool:=makesIn K C&&(findIn K (.ref C) "__init__" == some (some (.ref fI)))&&(typeIn K (.ref fI)==some (.type "function"))
theorem ah.make (O:W.Ok) {C fI:Addr} {as:List AV} {Q:AV→List AO→Prop} (hk:M6 W.K C fI=true)
 (h:ah W d (.cst (.ref fI)) (.inst C σ.length :: as) (σ++[.inst []]) λ v σ'=>v=.none∧Q (.inst C σ.length) σ'):ah W (d+1) (.cst (.ref C)) as σ Q:=λ A s ρ fv vs hr R hf hv=>by
 refine VR.aX hf ?_
 unfold M6 at hk
 simp only [Bool.and_eq_true,beq_iff_eq] at hk
 obtain ⟨⟨h1,h2⟩,h3⟩:=hk
 have X:=R.tB O
 obtain ⟨hh,g,dr,t,os⟩:=s
 refine make_core (makes_of X h1) (looks_findIn X h2) (λ self=>bind_fn X self h3) (.inl rfl) ?_
 have P1:Post W [] ρ ⟨hh,g,dr,t,os⟩ (λ ρ' σ' h'=>ρ'=ρ++[hh.objs.size]∧σ'=σ++[.inst []]∧h'=(hh.push emptyDict)) ⟨hh.push emptyDict,g,dr,t,os⟩:=qF (s:=⟨hh,g,dr,t,os⟩) R (.inst []) emptyDict rfl ⟨[],0,rfl,.nil⟩ ⟨rfl,rfl,rfl⟩ t
 obtain ⟨_,_,δ,af,e,p,f,R₁,e1,e2,e3⟩:=P1
 cases e
 subst e2
 have hδ:δ=[hh.objs.size]:=List.append_cancel_left e1
 subst hδ
 have R₂:=R₁.keeps (.push _ _ (instObj C hh.objs.size))
 have zP:aH (ρ++[hh.objs.size]) (hh.push emptyDict) ((hh.push emptyDict).push (instObj C hh.objs.size)):=.push _ _ _
 have P':aH ρ hh ((hh.push emptyDict).push (instObj C hh.objs.size)):=aH.trans p f zP
 have vi:VR W.hid (ρ++[hh.objs.size]) ((hh.push emptyDict).push (instObj C hh.objs.size)) (.inst C σ.length) (.ref (hh.objs.size+1)):=by
  refine .inst (dx:=hh.objs.size) ?_ ?_
  · rw [List.getElem?_append_right (by rw [R.len]; exact Nat.le_refl _),R.len,Nat.sub_self]; rfl
  · have:=Heap.get?_push_size (hh.push emptyDict) (o:=instObj C hh.objs.size) rfl
    rwa [Heap.size_push] at this
 refine codeAny_mono (h _ _ _ _ _ (Ed hr) R₂ (.cst _) (.cons vi (hv.mono R.muts P'))) λ r s' z=>?_
 cases r with
 | error e=>exact z.elim
 | ok f =>
 cases f with
 | next=>exact z.elim
 | brk=>exact z.elim
 | cont=>exact z.elim
 | ret v =>
 obtain ⟨cz,c9,δ₃,az,wG,cA,f₃,R₃,av,xK,rfl,q⟩:=z
 have hv0:v=.none:=by refine VR.ze xK ?_; rfl
 have M7:=vi.mono (δ:=δ₃) R₂.muts cA
 refine ⟨hv0,?_⟩
 refine Post.chain (s:=⟨hh,g,dr,t,os⟩) (δ:=[hh.objs.size]) (tk₁:=t) (h₁:=(hh.push emptyDict).push (instObj C hh.objs.size)) P' f ?_
 exact ⟨cz,c9,δ₃,az,wG,cA,f₃,R₃,_,M7,q⟩
end
section
variable {W:Wl} {d:Nat} {env:Env} {η:En} {σ:List AO}
theorem VR.one {X ρ:List Addr} {h h':Heap} {S:List Addr} (M:cE X h S) (P:aH S h h') {a:AV} {v:Value} (x:VR X ρ h a v):VR X ρ h' a v:=by
 have:=x.mono (δ:=[]) M P; rwa [List.append_nil] at this
theorem bh.one {X ρ:List Addr} {h h':Heap} {S:List Addr} (M:cE X h S) (P:aH S h h') {a:List AV} {v:List Value} (x:bh X ρ h a v):bh X ρ h' a v:=by
 have:=x.mono (δ:=[]) M P; rwa [List.append_nil] at this
theorem cG.append {n:Nat} {xs:List AV} {Q:AV→List AV→List AO→Prop} (e:σ[n]? = some (.lst xs)) (q:Q (.cst (.builtin "list.append")) [.lst n] σ):cG W d (.lst n) "append" σ Q:=λ A s ρ v pl hr R hv=>by
 refine hv.sD λ _ ea=>?_
 obtain ⟨ws,m,e2,v⟩:=aZ R e ea
 exact Calls.getMethod_list_append e2 rfl rfl (Post.here R ⟨_,_,.cst _,.cons (.lst ea) .nil,b9.builtin,q⟩ s.toks)
theorem ao.append {n:Nat} {xs:List AV} {x:AV} {Q:AV→List AO→Prop} (e:σ[n]? = some (.lst xs)) (hz:xs.length≤1000000) (q:Q .none (σ.set n (.lst (xs++[x])))):ao W d (.cst (.builtin "list.append")) [.lst n,x] σ Q:=λ A s ρ f vs hr R hf hv=>by
 refine VR.aX hf ?_
 refine hv.aq λ _ _ hl hv=>?_
 refine hv.aq λ _ _ hx hv=>?_
 cases hv
 cases hl with | @lst _ a ea =>
 obtain ⟨ws,m,e2,v⟩:=aZ R e ea
 refine append_at (n:=m) (its:=ws.toArray) e2 (λ h' hs hg=>?_) (by rw [List.size_toArray,v.length,sizeLine_eq]; exact Lq.qy hz (by decide))
 have P:aH ρ s.heap h':=.sameBut hs (List.mem_of_getElem? ea)
 rename_i w
 refine wL (s:=s) (o':=.lst (xs++[x])) R ea hs hg ⟨ws++[w],m+1,by simp,?_⟩ e rfl s.toks ⟨_,.none,q⟩
 exact (v.one R.muts P).append (.cons (hx.one R.muts P) .nil)
def mZ (W:Wl) (d:Nat) (a b:AV) (σ:List AO) (Q:AV→List AO→Prop):Prop :=
 ∀ A s ρ x y value slice,Rm d A→aL W ρ σ s.heap→VR W.hid ρ s.heap a x→VR W.hid ρ s.heap b y→(∀ p q,subscripted slice false p q=operate [p,q] (getItem p q))→wpAny W.M A (subscriptTail value slice x y) (λ v s'=>Post W [] ρ s (QV W Q v) s') nD s
theorem aT.sub {value slice:Expr} {pos:Pos} {Q:AV→List AO→Prop} (hs:∀ p q,subscripted slice false p q=operate [p,q] (getItem p q))
 (h:aT W d env value η σ λ a af=>aT W d env slice η af λ b ai=>mZ W d a b ai Q):aT W d env (.Subscript value slice pos) η σ Q:=λ A s ρ hr R F=>by
 refine Subscript_ (aM (h A s ρ hr R F) λ x h₁ tk₁ δ af p f R₁ ⟨a,va,q⟩=>?_)
 refine aM (q A _ _ hr R₁ (F.mono R.muts p f)) λ y aF aJ δ₂ ai aN aR R₂ ⟨b,vb,bF⟩=>?_
 refine pA (bF A _ _ _ _ value slice hr R₂ (va.mono R₁.muts aN) vb hs) λ v q7 z=>?_
 exact Post.chain p f (Post.chain (s:={ s with heap:=h₁,toks:=tk₁ }) aN aR z)
theorem mZ.list {n:Nat} {xs:List AV} {k:Int} {x:AV} {Q:AV→List AO→Prop} (e:σ[n]? = some (.lst xs)) (h0:0≤k) (hx:xs[k.toNat]? = some x) (hz:k<1000000) (q:Q x σ):mZ W d (.lst n) (.int k) σ Q:=λ A s ρ o i value slice hr R hv hi hs=>by
 refine hv.sD λ a ea=>?_
 refine hi.cC λ t=>?_
 obtain ⟨ws,m,e2,v⟩:=aZ R e ea
 obtain ⟨w,ew,vw⟩:=v.get _ hx
 exact item_listR (items:=ws.toArray) ⟨_,e2,rfl,_,rfl⟩ h0 (by lia) (by simpa using ew) (Post.here R ⟨_,vw,q⟩ s.toks) (hs _ _)
theorem mZ.tup {xs:List AV} {k:Int} {x:AV} {Q:AV→List AO→Prop} (h0:0≤k) (hx:xs[k.toNat]? = some x) (hz:k<1000000) (q:Q x σ):mZ W d (.tup xs) (.int k) σ Q:=λ A s ρ o i value slice hr R hv hi hs=>by
 refine hv.Ce λ ws a m ea hxx v=>?_
 refine hi.cC λ t=>?_
 obtain ⟨w,ew,vw⟩:=v.get _ hx
 have ht:IsTup s.heap a ws.toArray:=⟨_,ea,rfl,_,rfl⟩
 refine subscriptTail_builtinR (x:=w) ht.typeIs slot_tuple_getitem.lookup (getItem_tuple (j:=k.toNat) ht (by lia) (by lia) ?_ (by simpa using ew) ⟨rfl,Post.here R ⟨_,vw,q⟩ s.toks⟩) (hs _ _)
 have:k.toNat<ws.length:=(List.getElem?_eq_some_iff.mp ew).1
 unfold seqIndex?
 rw [List.size_toArray]
 simp only [if_neg (Int.not_lt.mpr h0)]
 rw [if_pos (by simp; lia)]
def qm (W:Wl) (d:Nat) (a b c:AV) (σ:List AO) (Q:List AO→Prop):Prop :=
 ∀ A s ρ x y z,Rm d A→aL W ρ σ s.heap→VR W.hid ρ s.heap a x→VR W.hid ρ s.heap b y→VR W.hid ρ s.heap c z→wpAny W.M A (setItem x y z) (λ _ s'=>Post W [] ρ s (λ _ σ' _=>Q σ') s') nD s
theorem iP.GD {o i value:Expr} {pos' pos:Pos} {Q:Fl→En→List AO→Prop} (hs:swapsWith value (some (.Subscript o i pos')) pos.line env=pure false)
 (h:aT W d env value η σ λ v af=>aT W d env o η af λ a ai=>aT W d env i η ai λ b az=>qm W d a b v az λ aY=>Q .next η aY):iP W d env (.Assign [.Subscript o i pos'] value pos) η σ Q:=λ A s ρ hr R F=>by
 refine wpAny_Assign_Subscript (aM (h A s ρ hr R F) λ w h₁ tk₁ δ af p f R₁ ⟨v,hv,q⟩=>?_) hs
 have bq:=F.mono R.muts p f
 refine aM (q A _ _ hr R₁ bq) λ ov aF aJ δ₂ ai aN aR R₂ ⟨a,ha,bF⟩=>?_
 have F₂:=bq.mono R₁.muts aN aR
 refine aM (bF A _ _ hr R₂ F₂) λ iv cz c9 δ₃ az cA f₃ R₃ ⟨b,hb,nC⟩=>?_
 have F₃:=F₂.mono R₂.muts cA f₃
 refine aM (Q₁:=λ _ _ σ' _=>Q .next η σ') (nC A _ _ _ _ _ hr R₃ (ha.mono R₂.muts cA) hb ((hv.mono R₁.muts aN).mono R₂.muts cA)) λ _ dh qw δ₄ aY p₄ f₄ R₄ q₄=>?_
 have F₄:=F₃.mono R₃.muts p₄ f₄
 refine Post.Cf (Post.chain p f (Post.chain (s:={ s with heap:=h₁,toks:=tk₁ }) aN aR (Post.chain (s:={ s with heap:=aF,toks:=aJ }) (tk₁:=c9) cA f₃ (Post.chain (s:={ s with heap:=cz,toks:=c9 }) (tk₁:=qw) p₄ f₄ ?_))))
 exact Post.here (s:={ s with heap:=dh,toks:=qw }) R₄ ⟨.next,η,F₄,.next,q₄⟩ qw
theorem bh.set {X ρ:List Addr} {h:Heap}:∀ {as:List AV} {vs:List Value} (i:Nat) {a:AV} {v:Value},bh X ρ h as vs→VR X ρ h a v→bh X ρ h (as.set i a) (vs.set i v)
 | _,_,_,_,_,.nil,_=>.nil
 | _,_,0,_,_,.cons x r,y=>.cons y r
 | _,_,i+1,_,_,.cons x r,y=>.cons x (r.set i y)
theorem J7 {prog:Program} {w:World} {A:Around} {E:Value→Shared→Prop} {s:Shared} {D:Addr} {its:Array Value} {n:Nat} {k:Int} {t:Tok} {v:Value} {Q:Unit→Shared→Prop} (ho:s.heap.get? D=some ({ cls:=.type "list",data:=.seq its n }:Obj))
 (h0:0≤k) (hfit:k<2^63) (hj:k.toNat<its.size) (h:∀ h' m,Heap.SameBut D s.heap h'→h'.get? D=some ({ cls:=.type "list",data:=.seq (its.setIfInBounds k.toNat v) m }:Obj)→Q () { s with heap:=h' }) :
 wpAny (model prog w) A (setItem (.ref D) (.int k t) v) Q E s:=by
 have hT:s.TypeIs (.ref D) "list" := ⟨_,ho,rfl⟩
 unfold setItem
 refine wpAny_holding (wpAny_bind ?_)
 refine wpAny_sequenceKey hT (by decide) ?_
 refine wpAny_bind ?_
 refine wpAny_callSpecial?_slot (name:=Str.ofString "__setitem__") hT slot_list_setitem ?_
 refine wpAny_call_entry slot_list_setitem hT entry_list_setitem ?_ (args_list_setitem _ _ _)
 show wpAny _ _ (Builtin.List.listSubscript? (.int k t) >>= _) _ _ s
 refine wpAny_bind (wpAny_listSubscript_int (fitsIndex_of h0 hfit) ?_)
 clear hfit
 obtain ⟨j,rfl⟩:=Int.eq_ofNat_of_zero_le h0
 have hj':j<its.size:=hj
 show wpAny _ _ ((seqItemAt D j >>= λ r=>pure (r.map (j,·))) >>= _) _ _ s
 refine wpAny_bind (wpAny_bind (wpAny_seqItemAt ho rfl (wpAny_pure ?_)))
 rw [Array.getElem?_eq_getElem hj']
 obtain ⟨m,hm⟩:∃ m,Obj.mapSeq (·.setIfInBounds j v) ({ cls:=.type "list",data:=.seq its n }:Obj)={ cls:=.type "list",data:=.seq (its.setIfInBounds j v) m }:=⟨_,rfl⟩
 have hg:(s.heap.update D (Obj.mapSeq (·.setIfInBounds j v))).get? D=some ({ cls:=.type "list",data:=.seq (its.setIfInBounds j v) m }:Obj):=by
  rw [Heap.get?_update_self (Obj.mapSeq (·.setIfInBounds j v)) ho (by rw [hm]; rfl),hm]
 have fin:Q () { s with heap:=s.heap.update D (Obj.mapSeq (·.setIfInBounds j v)) }:=h _ _ (Heap.SameBut.update ..) hg
 refine wpAny_bind (wpAny_setSeqItemAt ho rfl ?_)
 exact wpAny_pure ⟨.none,rfl,wpAny_pure fin⟩
theorem qm.list {n:Nat} {xs:List AV} {k:Int} {v:AV} {Q:List AO→Prop} (e:σ[n]? = some (.lst xs)) (h0:0≤k) (hx:k<xs.length) (hz:k<1000000) (q:Q (σ.set n (.lst (xs.set k.toNat v)))):qm W d (.lst n) (.int k) v σ Q:=λ A s ρ o i z hr R hv hi hz'=>by
 refine hv.sD λ a ea=>?_
 refine hi.cC λ t=>?_
 obtain ⟨ws,m,e2,v'⟩:=aZ R e ea
 refine J7 (its:=ws.toArray) e2 h0 (by lia) (by rw [List.size_toArray,v'.length]; exact Lq.ts h0 hx) λ h' m' hs hg=>?_
 have P:aH ρ s.heap h':=.sameBut hs (List.mem_of_getElem? ea)
 refine wL (s:=s) (o':=.lst (xs.set k.toNat v)) R ea hs hg ⟨ws.set k.toNat z,m',by simp,?_⟩ e rfl s.toks q
 exact (v'.one R.muts P).set k.toNat (hz'.one R.muts P)
end
section
variable {W:Wl} {d:Nat} {env:Env} {η:En} {σ:List AO}
inductive wC (X ρ:List Addr) (h:Heap):List (Int×AV)→List (Int×Value)→Prop
 | nil:wC X ρ h [] []
 | cons {i:Int} {a:AV} {v:Value} {es:List (Int×AV)} {kvs:List (Int×Value)}:VR X ρ h a v→wC X ρ h es kvs→wC X ρ h ((i,a) :: es) ((i,v) :: kvs)
theorem DQ.kvs {ρ:List Addr} {h:Heap} {knd:KeyKind W.prog W.w Int} (hk:knd=intKind W.prog W.w) {es:List (Int×AV)} {ds:List DictEntry} (r:DQ W.hid ρ h es ds):∃ kvs,wC W.hid ρ h es kvs∧(∀ e∈ds,∃ k,knd.is k e.key=true∧e.hash=knd.hash k)∧Pairs knd ds kvs:=by
 induction r with
 | nil=>exact ⟨[],.nil,(λ _ h=>nomatch h),.nil⟩
 | @cons i a fs e es e1 v r ih =>
  obtain ⟨⟨t,e1⟩,e2⟩:=e1
  obtain ⟨kvs,a,b,c⟩:=ih
  have hi:knd.is i e.key=true:=by rw [hk,e1]; exact decide_eq_true rfl
  refine ⟨(i,e.val) :: kvs,.cons v a,λ x hx=>?_,.cons hi rfl c⟩
  rcases List.mem_cons.mp hx with rfl | hx
  · exact ⟨i,hi,by rw [hk]; exact e2⟩
  · exact b x hx
theorem DQ.GF {ρ:List Addr} {h:Heap} {knd:KeyKind W.prog W.w Int} (hk:knd=intKind W.prog W.w) {es:List (Int×AV)} {kvs:List (Int×Value)} (x:wC W.hid ρ h es kvs):∀ {ds:List DictEntry},(∀ e∈ds,∃ k,knd.is k e.key=true∧e.hash=knd.hash k)→Pairs knd ds kvs→DQ W.hid ρ h es ds:=by
 induction x with
 | nil=>intro ds _ p; cases p; exact .nil
 | @cons i a v es kvs hv r ih =>
  intro ds hks p
  cases p with | @cons e _ ds _ h1 h2 p =>
  dsimp only at h1 h2
  refine .cons ?_ (by rw [h2]; exact hv) (ih (λ x hx=>hks x (.tail _ hx)) p)
  obtain ⟨k,q1,q2⟩:=hks _ (.head _)
  have hik:i=k:=knd.inj _ _ _ h1 q1
  subst hik
  rw [hk] at h1 q2
  obtain ⟨t,e1⟩:=Value.isInt_shape (show Value.isInt i e.key=true from h1)
  exact ⟨⟨t,e1⟩,q2⟩
theorem wC.keys {X ρ:List Addr} {h:Heap} {es:List (Int×AV)} {kvs:List (Int×Value)} (x:wC X ρ h es kvs):kvs.map (·.1)=es.map (·.1):=by
 induction x with
 | nil=>rfl
 | cons _ _ ih=>exact congrArg (List.cons _) ih
theorem wC.one {X ρ:List Addr} {h h':Heap} {S:List Addr} (M:cE X h S) (P:aH S h h'):∀ {es:List (Int×AV)} {kvs:List (Int×Value)},wC X ρ h es kvs→wC X ρ h' es kvs
 | _,_,.nil=>.nil
 | _,_,.cons v r=>.cons (v.one M P) (r.one M P)
noncomputable def putD (k:Int) (v:AV) (es:List (Int×AV)):List (Int×AV):=if es.any (λ kv=>kv.1=k) then es.map (λ kv=>if kv.1=k then (kv.1,v) else kv) else es++[(k,v)]
theorem wC.append {X ρ:List Addr} {h:Heap}:∀ {es:List (Int×AV)} {kvs:List (Int×Value)} {es':List (Int×AV)} {kvs':List (Int×Value)},wC X ρ h es kvs→wC X ρ h es' kvs'→wC X ρ h (es++es') (kvs++kvs'):=λ x y=>by
 induction x with
 | nil=>exact y
 | cons v r ih=>exact .cons v ih
theorem wC.any {X ρ:List Addr} {h:Heap} {k:Int}:∀ {es:List (Int×AV)} {kvs:List (Int×Value)},wC X ρ h es kvs→es.any (λ kv=>kv.1=k)=kvs.any (λ kv=>kv.1=k):=λ x=>by
 induction x with
 | nil=>rfl
 | cons v r ih=>exact congrArg (_||·) ih
theorem wC.Bg {X ρ:List Addr} {h:Heap} {k:Int} {a:AV} {v:Value} (hv:VR X ρ h a v):∀ {es:List (Int×AV)} {kvs:List (Int×Value)},wC X ρ h es kvs→wC X ρ h (es.map λ kv=>if kv.1=k then (kv.1,a) else kv) (kvs.map λ kv=>if kv.1=k then (kv.1,v) else kv)
 | _,_,.nil=>.nil
 | _,_,.cons (i:=i) u r=>by
  rw [List.map_cons,List.map_cons]
  dsimp only
  by_cases hik:i=k
  · rw [if_pos hik,if_pos hik]; exact .cons hv (r.Bg hv)
  · rw [if_neg hik,if_neg hik]; exact .cons u (r.Bg hv)
theorem wC.stored {X ρ:List Addr} {h:Heap} {k:Int} {a:AV} {v:Value} (hv:VR X ρ h a v) {es:List (Int×AV)} {kvs:List (Int×Value)} (x:wC X ρ h es kvs):wC X ρ h (putD k a es) (PySem.stored kvs k v):=by
 unfold putD PySem.stored
 rw [x.any]
 split
 · exact x.Bg hv
 · exact x.append (.cons hv .nil)
theorem wC.at {X ρ:List Addr} {h:Heap} {k:Int}:∀ {es:List (Int×AV)} {kvs:List (Int×Value)},wC X ρ h es kvs→(∀ a,es.lookup k=some a→∃ v,valueAt kvs k=some v∧VR X ρ h a v)∧(es.lookup k=none→valueAt kvs k=none)
 | _,_,.nil=>⟨λ _ e=>(nomatch e),λ _=>rfl⟩
 | _,_,.cons (i:=i) u r=>by
  obtain ⟨r1,r2⟩:=r.at (k:=k)
  unfold valueAt at r1 r2 ⊢
  rw [List.find?_cons,List.lookup_cons]
  by_cases hik:i=k
  · subst hik
    simp only [beq_self_eq_true,decide_true]
    exact ⟨λ a e=>by refine sE e ?_; exact ⟨_,rfl,u⟩,λ e=>nomatch e⟩
  · have:(k==i)=false:=by rw [beq_eq_false_iff_ne]; exact λ q=>hik q.symm
    rw [this,decide_eq_false hik]
    exact ⟨r1,r2⟩
inductive M8 (W:Wl) (ρ:List Addr) (h:Heap) (a:Addr) (es:List (Int×AV)):Prop
 | mk (kvs:List (Int×Value)) (ds:List DictEntry) (m:Nat) (e:h.get? a=some (dictOf ds m)) (l:ds.length=es.length) (r:wC W.hid ρ h es kvs) (D:h.DictOf (intKind W.prog W.w) a kvs):M8 W ρ h a es
theorem Bh {ρ:List Addr} {h:Heap} (R:aL W ρ σ h) {n:Nat} {es:List (Int×AV)} (e:σ[n]? = some (.dct es)) {a:Addr} (ea:ρ[n]? = some a):M8 W ρ h a es:=by
 obtain ⟨a',ob,e1,e2,ds,m,e3,v,nd⟩:=R.objs n _ e
 rw [ea] at e1; cases e1; subst e3
 obtain ⟨kvs,k1,k2,k3⟩:=v.kvs (W:=W) rfl
 refine ⟨kvs,ds,m,e2,?_,k1,_,ds.toArray,m,e2,⟨rfl,rfl,rfl⟩,rfl,λ x hx=>k2 x (by simpa using hx),k3,by rw [k1.keys]; exact nd⟩
 have:=k3.length
 rw [this]
 have:=congrArg List.length k1.keys
 simpa using this
theorem J8 {ρ:List Addr} {h:Heap} (O:W.Ok) (R:aL W ρ σ h) (hs:W.hb.get? sysModules≠none) {a:Addr} (ha:a∈ρ):(a==sysModules)=false:=by
 rw [beq_eq_false_iff_ne]
 intro q
 exact hs (q▸R.fresh a ha)
theorem aT.M9 {pos:Pos} {Q:AV→List AO→Prop} (q:Q (.dct σ.length) (σ++[.dct []])):aT W d env (.Dict [] [] pos) η σ Q:=λ A s ρ hr R F=>by
 refine wpAny_Dict_empty (qF R (.dct []) _ rfl ⟨[],0,rfl,.nil,List.nodup_nil⟩ ⟨_,.dct ?_,q⟩ s.toks)
 rw [List.getElem?_append_right (by rw [R.len]; exact Nat.le_refl _),R.len,Nat.sub_self]; rfl
theorem qm.dct {n:Nat} {es:List (Int×AV)} {k:Int} {v:AV} {Q:List AO→Prop} (e:σ[n]? = some (.dct es)) (hz:es.length≤1000000) (q:Q (σ.set n (.dct (putD k v es)))):qm W d (.dct n) (.int k) v σ Q:=λ A s ρ o i z hr R hv hi hz'=>by
 refine hv.D8 λ a ea=>?_
 refine hi.cC λ t=>?_
 obtain ⟨kvs,ds,m,e2,hl,k1,k2⟩:=Bh R e ea
 have hlen:kvs.length=es.length:=by have:=congrArg List.length k1.keys; simpa using this
 refine wpAny_setItem_pairs (knd:=intKind W.prog W.w) (k:=k) (by exact decide_eq_true rfl) k2 (λ h' hd hs=>?_) (by rw [hlen,sizeLine_eq]; exact Lq.qy hz (by decide))
 have P:aH ρ s.heap h':=.sameBut hs (List.mem_of_getElem? ea)
 obtain ⟨⟨oc,od,Ue,osl⟩,es',ep,ho,⟨c1,c2,c3⟩,hd',hk',Pd,hn'⟩:=hd
 dsimp only at c1 c2 c3 hd'
 subst c1 c2 c3 hd'
 have RI:=(k1.one R.muts P).stored (k:=k) (hz'.one R.muts P)
 refine wL (s:=s) (o':=.dct (putD k v es)) R ea hs ho ⟨es'.toList,ep,rfl,?_,?_⟩ e rfl _ q
 · exact DQ.GF (W:=W) rfl RI (λ x hx=>hk' x (by simpa using hx)) Pd
 · rw [← RI.keys]; exact hn'
theorem cG.J9 {n:Nat} {es:List (Int×AV)} {Q:AV→List AV→List AO→Prop} (e:σ[n]? = some (.dct es)) (q:Q (.cst (.builtin "dict.get")) [.dct n] σ):cG W d (.dct n) "get" σ Q:=λ A s ρ v pl hr R hv=>by
 refine hv.D8 λ a ea=>?_
 obtain ⟨kvs,ds,m,e2,hl,k1,k2⟩:=Bh R e ea
 exact getMethod_builtin k2.typeIs PySem.F.plainAttrs_dict PySem.F.slot_dict_get PySem.F.type_dict_get k2.mapOf.noDict (Post.here R ⟨_,_,.cst _,.cons (.dct ea) .nil,b9.builtin,q⟩ s.toks)
theorem ao.J9 (O:W.Ok) (hsys:W.hb.get? sysModules≠none) {n:Nat} {es:List (Int×AV)} {k:Int} {x:AV} {Q:AV→List AO→Prop} (e:σ[n]? = some (.dct es)) (q:Q ((es.lookup k).getD x) σ):ao W d (.cst (.builtin "dict.get")) [.dct n,.int k,x] σ Q:=λ A s ρ f vs hr R hf hv=>by
 refine VR.aX hf ?_
 refine hv.aq λ _ _ hl hv=>?_
 refine hv.aq λ _ _ hk hv=>?_
 refine hv.aq λ _ _ hx hv=>?_
 refine bh.aW hv ?_
 refine hl.D8 λ a ea=>?_
 refine hk.cC λ t=>?_
 obtain ⟨kvs,ds,m,e2,hl,k1,k2⟩:=Bh R e ea
 refine call_meetsIn PySem.F.slot_dict_get k2.typeIs PySem.F.entry_dict_get (PySem.F.args_dict_get_3 _ _ _) (meets_dict_get_default (k:=k) (intKind W.prog W.w) a (by exact decide_eq_true rfl) (J8 O R hsys (List.mem_of_getElem? ea)) _) ⟨_,k2.mapOf,?_⟩
 obtain ⟨r1,r2⟩:=k1.at (k:=k)
 cases hq:es.lookup k with
 | some b =>
  obtain ⟨v,e',z⟩:=r1 b hq
  rw [e']
  rw [hq] at q
  exact Post.here R ⟨b,z,q⟩ _
 | none =>
  rw [r2 hq]
  rw [hq] at q
  exact Post.here R ⟨x,hx,q⟩ _
end
section
variable {W:Wl} {d:Nat} {env:Env} {η:En} {σ:List AO}
theorem Bj {ρ:List Addr} {h:Heap} (R:aL W ρ σ h):(ρ++[h.objs.size])[σ.length]? = some h.objs.size:=by
 rw [List.getElem?_append_right (by rw [R.len]; exact Nat.le_refl _),R.len,Nat.sub_self]; rfl
theorem aU.GG {m n:Nat} {xs ys:List AV} {Q:AV→List AO→Prop} (e1:σ[m]? = some (.lst xs)) (e2:σ[n]? = some (.lst ys)) (hz:xs.length+ys.length≤1000000) (q:Q (.lst σ.length) (σ++[.lst (xs++ys)])) :
 aU W d .Add (.lst m) (.lst n) σ Q:=λ A s ρ vs hr R hv=>by
 refine hv.aq λ _ _ ha hv=>?_
 refine hv.aq λ _ _ hb hv=>?_
 refine bh.aW hv ?_
 refine ha.sD λ a ea=>?_
 refine hb.sD λ b eb=>?_
 obtain ⟨ws,k,h1,v1⟩:=aZ R e1 ea
 obtain ⟨us,l,h2,v2⟩:=aZ R e2 eb
 refine concat_meets ⟨_,h1,rfl⟩ ⟨_,h2,rfl⟩ noFill_list_add seq_list_add PySem.F.slot_list_add PySem.F.entry_list_add (PySem.F.args_list_add_2 _ _) (list_addW a b ws.toArray us.toArray k l none none #[] #[] (by rw [List.size_toArray,List.size_toArray,v1.length,v2.length,sizeLine_eq]; exact Lq.qy hz (by decide))) ⟨h1,h2,?_⟩
 refine qF (s:=s) R (.lst (xs++ys)) _ rfl ⟨ws++us,0,by simp,v1.append v2⟩ ⟨_,.lst (Bj R),q⟩ s.toks
theorem ao.len {n:Nat} {xs:List AV} {Q:AV→List AO→Prop} (e1:σ[n]? = some (.lst xs)) (hz:xs.length≤1000000) (q:Q (.int xs.length) σ):ao W d (.cst (.builtin "len")) [.lst n] σ Q:=λ A s ρ f vs hr R hf hv=>by
 refine VR.aX hf ?_
 refine hv.aq λ _ _ ha hv=>?_
 refine bh.aW hv ?_
 refine ha.sD λ a ea=>?_
 obtain ⟨ws,k,h1,v1⟩:=aZ R e1 ea
 refine Calls.call_len_list (items:=ws.toArray) ⟨_,h1,rfl,_,rfl⟩ (by rw [List.size_toArray,v1.length]; lia) ?_
 rw [List.size_toArray,v1.length]
 exact Post.here R ⟨_,.int _ _,q⟩ _
theorem ao.abs {a:Int} {Q:AV→List AO→Prop} (q:Q (.int (if a<0 then -a else a)) σ):ao W d (.cst (.builtin "abs")) [.int a] σ Q:=λ A s ρ f vs hr R hf hv=>by
 refine VR.aX hf ?_
 refine hv.aq λ _ _ ha hv=>?_
 refine bh.aW hv ?_
 refine ha.cC λ t=>?_
 exact call_abs_int λ u tk=>Post.here R ⟨_,.int _ _,q⟩ _
theorem ao.int {a:Int} {Q:AV→List AO→Prop} (q:Q (.int a) σ):ao W d (.cst (.type "int")) [.int a] σ Q:=λ A s ρ f vs hr R hf hv=>by
 refine VR.aX hf ?_
 refine hv.aq λ _ _ ha hv=>?_
 refine bh.aW hv ?_
 refine ha.cC λ t=>?_
 exact call_int_int (Post.here R ⟨_,.int _ _,q⟩ s.toks)
theorem ao.Qk {a:Bool} {Q:AV→List AO→Prop} (q:Q (.int (if a then 1 else 0)) σ):ao W d (.cst (.type "int")) [.bool a] σ Q:=λ A s ρ f vs hr R hf hv=>by
 refine VR.aX hf ?_
 refine hv.aq λ _ _ ha hv=>?_
 refine bh.aW hv ?_
 refine VR.qB ha ?_
 exact call_int_bool (Post.here R ⟨_,.int _ _,q⟩ _)
theorem vQ {ρ:List Addr} {s:Shared} (R:aL W ρ σ s.heap) {a b c:Int} {t u v:Tok} {Q:AV→List AO→Prop} (tk:Nat) (q:Q (.tw a b c) σ) :
 Post W [] ρ s (QV W Q (.ref s.heap.objs.size)) { s with heap:=s.heap.push { cls:=.type "range",data:=.fields #[.int a t,.int b u,.int c v] },toks:=tk } :=
 vt R _ ⟨_,.tw (IsRange.new s.heap a b c t u v),q⟩ tk
theorem ao.Ka {a:Int} {Q:AV→List AO→Prop} (q:Q (.tw 0 a 1) σ):ao W d (.cst (.type "range")) [.int a] σ Q:=λ A s ρ f vs hr R hf hv=>by
 refine VR.aX hf ?_
 refine hv.aq λ _ _ ha hv=>?_
 refine bh.aW hv ?_
 refine ha.cC λ t=>?_
 exact call_range_1 (vQ R _ q)
theorem ao.Kc {a b:Int} {Q:AV→List AO→Prop} (q:Q (.tw a b 1) σ):ao W d (.cst (.type "range")) [.int a,.int b] σ Q:=λ A s ρ f vs hr R hf hv=>by
 refine VR.aX hf ?_
 refine hv.aq λ _ _ ha hv=>?_
 refine hv.aq λ _ _ hb hv=>?_
 refine bh.aW hv ?_
 refine ha.cC λ t=>?_
 refine hb.cC λ u=>?_
 exact call_range_2 (vQ R _ q)
theorem ao.Ke {a b c:Int} {Q:AV→List AO→Prop} (hc:c≠0) (hp:Builtin.divisionGoesByPylong (b-a) c=false) (q:Q (.tw a b c) σ):ao W d (.cst (.type "range")) [.int a,.int b,.int c] σ Q:=λ A s ρ f vs hr R hf hv=>by
 refine VR.aX hf ?_
 refine hv.aq λ _ _ ha hv=>?_
 refine hv.aq λ _ _ hb hv=>?_
 refine hv.aq λ _ _ Tg hv=>?_
 refine bh.aW hv ?_
 refine ha.cC λ t=>?_
 refine hb.cC λ u=>?_
 refine Tg.cC λ v=>?_
 exact call_range_3 hc (vQ R s.toks q) (.inl hp)
theorem ao.max {a b:Int} {Q:AV→List AO→Prop} (q:Q (.int (if b > a then b else a)) σ):ao W d (.cst (.builtin "max")) [.int a,.int b] σ Q:=λ A s ρ f vs hr R hf hv=>by
 refine VR.aX hf ?_
 refine hv.aq λ _ _ ha hv=>?_
 refine hv.aq λ _ _ hb hv=>?_
 refine bh.aW hv ?_
 refine ha.cC λ t=>?_
 refine hb.cC λ u=>?_
 refine wc (max_two_ints hr.handled λ h' tk hk hs=>?_)
 have P:aH [] s.heap h':=.Ea hs hk
 refine ⟨h',tk,[],σ,rfl,P.weaken (λ _ h=>nomatch h),(λ _ h=>nomatch h),by rw [List.append_nil]; exact R.keeps P,?_⟩
 split<;>rename_i hgt
 · rw [if_pos hgt] at q; exact ⟨_,.int _ _,q⟩
 · rw [if_neg hgt] at q; exact ⟨_,.int _ _,q⟩
theorem ao.Kf (O:W.Ok) {C D:Addr} {n:Nat} {Q:AV→List AO→Prop} (hk:isIn W.K (.ref C) D=true) (q:Q (.bool true) σ):ao W d (.cst (.builtin "isinstance")) [.inst C n,.cst (.ref D)] σ Q:=λ A s ρ f vs hr R hf hv=>by
 refine VR.aX hf ?_
 refine hv.aq λ _ _ ha hv=>?_
 refine hv.aq λ _ _ hb hv=>?_
 refine bh.aW hv ?_
 refine VR.aX hb ?_
 refine ha.qC λ x dx e1 e2=>?_
 have ht:∀ M,Looks M s.heap (typeOf (.ref x)) (.ref C):=λ M=>(Looks.ld (o:=instObj C dx) e2).andThen .now
 exact isi_call (R.tB O) ht hk (by intro z; cases z) (Post.here R ⟨_,.bool _,q⟩ s.toks)
theorem GH (O:W.Ok) {C D x:Addr} {t:Value} {Q:AV→List AO→Prop} (hx:typeIn W.K (.ref x)=some t) (hk:isIn W.K t D=true) (q:Q (.bool true) σ):ao W d (.cst (.builtin "isinstance")) [.cst (.ref x),.cst (.ref D)] σ Q:=λ A s ρ f vs hr R hf hv=>by
 refine VR.aX hf ?_
 refine hv.aq λ _ _ ha hv=>?_
 refine hv.aq λ _ _ hb hv=>?_
 refine bh.aW hv ?_
 refine VR.aX hb ?_
 refine VR.aX ha ?_
 exact isi_call (R.tB O) (λ M=>looks_typeIn (R.tB O) hx) hk (by intro z; cases z) (Post.here R ⟨_,.bool _,q⟩ s.toks)
noncomputable def GI (K:Frag) (C D:Addr):Bool:=(C != D)&&(clsIn K D).isSome&&(typeIn K (.ref D)==some (.type "type"))&&(instIn K (.ref D) (.type "type")==some true)&&(subIn K (.ref C) (.ref D)==some false)&&plainGet K C "__class__" && hasDictIn K C&&(findIn K (.ref C) "__class__" == some (some (.builtin "object.__class__"))) &&
 (specialIn K (.builtin "object.__class__") "__get__" == some (some (.builtin "getset_descriptor.__get__")))&&(takesIn K (.builtin "object.__class__")==some true)&&(mroIn K C (.type "object")==some true)&&(clsIn K C).isSome&&(typeIn K (.ref C)==some (.type "type"))
theorem Al {prog:Program} {w:World} {A:Around} {E:Value→Shared→Prop} {s:Shared} {K:Frag} {x C:Addr} {ox:Obj} {od:Obj} {Q:Option Value→Shared→Prop} (X:K.In s.heap) (I:InstAt s.heap x ox C (some od))
 (hg:plainGet K C "__class__" = true) (hh:hasDictIn K C=true) (ha:findIn K (.ref C) "__class__" = some (some (.builtin "object.__class__"))) (hn:specialIn K (.builtin "object.__class__") "__get__" = some (some (.builtin "getset_descriptor.__get__"))) (ht:takesIn K (.builtin "object.__class__")=some true)
 (hm:mroIn K C (.type "object")=some true) (h:Q (some (.ref C)) { s with toks:=s.toks+1 }):wpAny (model prog w) A (getAttr? (.ref x) "__class__") Q E s:=by
 have hf:findObj K C (some od) "__class__" = some (.bind (.builtin "getset_descriptor.__get__") (.builtin "object.__class__")):=findObj_data (by obtain ⟨cd,hc,_⟩:=any_some hh; rw [hc]; rfl) ha hn ht
 have L1:=looks_findIn (M:=model prog w) X (plainGet_of hg).1
 unfold getAttr? getAttrBy?
 refine wpAny_bind (wpAny_mkText (wpAny_bind (wpAny_attempt ?_)))
 obtain ⟨Th,g,d,t,os⟩:=s
 have L0:=I.type (M:=model prog w)
 have L2:=looks_find (M:=model prog w) X I hf
 have L3:=looks_findIn (M:=model prog w) X (plainGet_of hg).2
 unfold getAttrBy
 refine wpAny_holding (wpAny_bind (L0.at (wpAny_bind (L1.at ?_))))
 show wpAny _ _ (getAttrEveryday _ _ _) _ _ _
 refine wpAny_bind (wpAny_onRaise (wpAny_runValue (codeAny_builtin PySem.F.plainObj_entry_getattr_hooked ?_)))
 rw [Around.under_plainId (id := "proto.getattr_hooked") (by decide +kernel) _]
 refine wpAny_bind (wpAny_pure (wpAny_bind (L0.at (wpAny_bind (L2.at (wpAny_bind (L3.at ?_)))))))
 show wpAny _ _ (holding [_] (call _ [_,.ref x,.ref C]) >>= ret) _ _ _
 refine wpAny_bind (wpAny_holding (wpAny_call (class_get (s:=⟨Th,g,d,t+1,os⟩) (ox:=ox) (od:=some od) X I hm ?_)))
 refine wpAny_pure ?_
 show wpAny _ _ (handedOut (.ref C)) _ _ _
 rw [handedOut_of rfl]
 exact wpAny_pure (wpAny_pure h)
end
section
variable {W:Wl} {d:Nat} {env:Env} {η:En} {σ:List AO}
theorem Am {K:Frag} {C:Addr} {cd:ClassData} (h:clsIn K C=some cd):∃ c d sl,K.lookup C=some ⟨c,d,.cls cd,sl⟩:=by
 delta clsIn at h
 cases e:K.lookup C with
 | none=>rw [e] at h; exact aP h
 | some o =>
  rw [e] at h
  obtain ⟨c,d,dt,sl⟩:=o
  cases dt with
  | cls RJ=>cases h; exact ⟨c,d,sl,rfl⟩
  | _=>exact aP h
theorem wF {α:Type} {M:Model} {A:Around} {b:Bool} {t e:Sem α} {Q:α→Shared→Prop} {E:Value→Shared→Prop} {s:Shared} (h:b=false) (k:wpAny M A e Q E s):wpAny M A (if b=true then t else e) Q E s:=by rw [if_neg (by rw [h]; exact Bool.false_ne_true)]; exact k
theorem wT {α:Type} {M:Model} {A:Around} {b:Bool} {t e:Sem α} {Q:α→Shared→Prop} {E:Value→Shared→Prop} {s:Shared} (h:b=true) (k:wpAny M A t Q E s):wpAny M A (if b=true then t else e) Q E s:=by rw [if_pos h]; exact k
theorem wI {α:Type} {M:Model} {A:Around} {c:Prop} [Decidable c] {t e:Sem α} {Q:α→Shared→Prop} {E:Value→Shared→Prop} {s:Shared} (h:c→wpAny M A t Q E s) (k:¬ c→wpAny M A e Q E s):wpAny M A (if c then t else e) Q E s:=by
 by_cases z:c
 · rw [if_pos z]; exact h z
 · rw [if_neg z]; exact k z
theorem Ef {prog:Program} {w:World} {A:Around} {E:Value→Shared→Prop} {s:Shared} {K:Frag} {x C D:Addr} {ox:Obj} {od:Obj} {dep:Int} {tk:Tok} {Q:PySem.Fin→Shared→Prop} (X:K.In s.heap) (I:InstAt s.heap x ox C (some od)) (hk:GI K C D=true)
 (h:Q (.done (.ret (.bool false))) { s with toks:=s.toks+1 }):wpAny (model prog w) A (Builtin.«isinstance.nested» ⟨[.ref x,.ref D,.int dep tk],[]⟩) Q E s:=by
 unfold GI at hk
 simp only [Bool.and_eq_true,beq_iff_eq,bne_iff_ne,ne_eq] at hk
 refine aG λ G kG=>?_
 obtain ⟨⟨⟨⟨⟨⟨⟨⟨⟨⟨⟨⟨h0,h1⟩,h2⟩,h3⟩,h4⟩,h5⟩,h6⟩,h7⟩,h8⟩,h9⟩,Ql⟩,h11⟩,h12⟩:=hk
 refine kG ?_
 have CQ:∀ {A:Around} {E:Value→Shared→Prop} {Q:Option Value→Shared→Prop},Q (some (.ref C)) { s with toks:=s.toks+1 }→wpAny (model prog w) A (getAttr? (.ref x) "__class__") Q E s:=λ q=>Al X I h5 h6 h7 h8 h9 Ql q
 obtain ⟨hh,g,dd,tt,os⟩:=s
 have ht:=I.type (M:=model prog w)
 unfold Builtin.«isinstance.nested»
 refine wpAny_bind (ht.at ?_)
 rw [if_neg (λ q=>h0 (by have:=beq_iff_eq.mp q; injection this))]
 have L1:=looks_typeIn (M:=model prog w) X h2
 have L4:Looks (model prog w) hh (isSubtype (.ref C) (.ref D)) false:=looks_subIn X h4
 have L3:Looks (model prog w) hh (isInstance (.ref x) (.ref D)) false:=ht.andThen L4
 refine wpAny_bind (L1.at ?_)
 rw [if_pos (by decide)]
 k_delta "plainIsInstance"
 unfold isType
 repeat lk
 refine aG λ Ga ka=>?_
 obtain ⟨Ug,h1⟩:=Option.isSome_iff_exists.mp h1
 obtain ⟨Uh,h11⟩:=Option.isSome_iff_exists.mp h11
 obtain ⟨_,_,_,ho⟩:=Am h1
 obtain ⟨_,_,_,Ti⟩:=Am h11
 refine ka ?_
 clear ka
 refine nd_load (X _ _ ho) (nd_pure (wpAny_pure ?_))
 refine wF rfl ?_
 refine wpAny_bind (L3.at ?_)
 refine wF rfl ?_
 refine wpAny_bind (CQ ?_)
 refine nd_load (X _ _ Ti) ?_
 show wpAny _ _ (pure true >>= λ b=>if (!b)=true then pure false else (do rule "isinstance.by-__class__"; isSubtype (.ref C) (.ref D))) _ _ _
 refine wpAny_bind (wpAny_pure ?_)
 refine wF rfl ?_
 refine wpAny_bind (wpAny_rule ?_)
 refine L4.at ?_
 exact wpAny_pure h
theorem ao.Na (O:W.Ok) {C D:Addr} {n:Nat} {fs:List (Str×AV)} {Q:AV→List AO→Prop} (e:σ[n]? = some (.inst fs)) (hk:GI W.K C D=true) (q:Q (.bool false) σ):ao W d (.cst (.builtin "isinstance")) [.inst C n,.cst (.ref D)] σ Q:=λ A s ρ f vs hr R hf hv=>by
 refine VR.aX hf ?_
 refine hv.aq λ va _ ha hv=>?_
 refine hv.aq λ _ _ hb hv=>?_
 refine bh.aW hv ?_
 refine VR.aX hb ?_
 obtain ⟨x,rfl⟩:∃ x,va=Value.ref x:=by refine VR.qC ha λ _ _ _ _=>?_; exact ⟨_,rfl⟩
 obtain ⟨dx,ds,m,e1,e2,e3,fr,I⟩:=sR R ha e
 exact call_isinstance (S:=λ _ R' s=>(W.K.In s.heap∧InstAt s.heap x (instObj C dx) C (some (dictOf ds m)))∧R' (.ok (.ret (.bool false))) { s with toks:=s.toks+1 })
  (λ _ _ _ _ _ hs=>isinstance_outer (Ef hs.1.1 hs.1.2 hk hs.2) (by intro z; cases z)) ⟨⟨R.tB O,I⟩,Post.here R ⟨_,.bool _,q⟩ _⟩
theorem aA.isNone {a:AV} {b:Bool} {Q:AV→List AO→Prop} (hb:∀ ρ h v,VR W.hid ρ h a v→(v==Value.none)=b) (q:Q (.bool b) σ):aA W d .Is a .none σ Q:=λ A s ρ vs hr R hv=>by
 refine hv.aq λ _ _ ha hv=>?_
 refine hv.aq λ _ _ hn hv=>?_
 refine bh.aW hv ?_
 refine VR.ze hn ?_
 exact is_none_gen (by rw [hb _ _ _ ha]; exact Post.here R ⟨_,.bool _,q⟩ s.toks)
theorem aA.yO {a:AV} {b:Bool} {Q:AV→List AO→Prop} (hb:∀ ρ h v,VR W.hid ρ h a v→(v==Value.none)=b) (q:Q (.bool (!b)) σ):aA W d .IsNot a .none σ Q:=λ A s ρ vs hr R hv=>by
 refine hv.aq λ _ _ ha hv=>?_
 refine hv.aq λ _ _ hn hv=>?_
 refine bh.aW hv ?_
 refine VR.ze hn ?_
 exact isnot_none_gen (by rw [hb _ _ _ ha]; exact Post.here R ⟨_,.bool _,q⟩ s.toks)
noncomputable def zh:AV→Option Bool
 | .none=>some true
 | .cst (.ref _)=>some false
 | .cst _=>none
 | _=>some false
theorem bZ {a:AV} {b:Bool} (h:zh a=some b):∀ ρ h v,VR W.hid ρ h a v→(v==Value.none)=b:=λ ρ hh v hv=>by
 cases hv<;>first | (refine sE h ?_; rfl) | skip
 cases v<;>first | ((first | exact aP h | refine sE h ?_); rfl) | exact aP h
theorem aA.isBool {a b:Bool} {Q:AV→List AO→Prop} (q:Q (.bool (a==b)) σ):aA W d .Is (.bool a) (.bool b) σ Q:=λ A s ρ vs hr R hv=>by
 refine hv.aq λ _ _ ha hv=>?_
 refine hv.aq λ _ _ hn hv=>?_
 refine bh.aW hv ?_
 refine VR.qB hn ?_
 refine VR.qB ha ?_
 exact is_bool (Post.here R ⟨_,.bool _,q⟩ s.toks)
theorem aA.C1 {a b:Bool} {Q:AV→List AO→Prop} (q:Q (.bool (a != b)) σ):aA W d .IsNot (.bool a) (.bool b) σ Q:=λ A s ρ vs hr R hv=>by
 refine hv.aq λ _ _ ha hv=>?_
 refine hv.aq λ _ _ hn hv=>?_
 refine bh.aW hv ?_
 refine VR.qB hn ?_
 refine VR.qB ha ?_
 exact isnot_bool (Post.here R ⟨_,.bool _,q⟩ s.toks)
theorem aA.Kg {a:Addr} {Q:AV→List AO→Prop} (q:Q (.bool true) σ):aA W d .Is (.cst (.ref a)) (.cst (.ref a)) σ Q:=λ A s ρ vs hr R hv=>by
 refine hv.aq λ _ _ ha hv=>?_
 refine hv.aq λ _ _ hn hv=>?_
 refine bh.aW hv ?_
 refine VR.aX hn ?_
 refine VR.aX ha ?_
 show wpAny _ _ (isSame _ _ >>= _) _ _ _
 refine wpAny_bind ?_
 refine wT (beq_self_eq_true a) ?_
 exact wpAny_pure (wpAny_pure (Post.here R ⟨_,.bool _,q⟩ s.toks))
noncomputable def vE (K:Frag) (a:Addr):Bool:=(K.lookup a).any λ o=>Qa o.data&&o.dict.any λ d=>(K.lookup d).isSome
theorem An {K:Frag} {a:Addr} (h:vE K a=true):∃ c d sl,K.lookup a=some ⟨c,some d,.plain,sl⟩∧∃ o,K.lookup d=some o:=by
 refine aG λ Ga ka=>?_
 obtain ⟨⟨c,d,dt,sl⟩,e,h⟩:=any_some h
 obtain ⟨h1,h2⟩:=Bool.and_eq_true_iff.mp h
 obtain ⟨d',e2,h3⟩:=any_some h2
 refine ka ?_
 clear ka
 obtain rfl:dt=.plain:=D7 h1
 obtain rfl:d=some d':=e2
 exact ⟨c,d',sl,e,Option.isSome_iff_exists.mp h3⟩
set_option tactic.hygienic true in
theorem aA.Nb (O:W.Ok) {C a:Addr} {n:Nat} {Q:AV→List AO→Prop} (hk:vE W.K a=true) (q:Q (.bool false) σ):aA W d .Is (.inst C n) (.cst (.ref a)) σ Q:=λ A s ρ vs hr R hv=>by
 refine hv.aq λ _ _ ha hv=>?_
 refine hv.aq λ _ _ hn hv=>?_
 refine bh.aW hv ?_
 refine VR.aX hn ?_
 refine ha.qC λ x dx e1 e2=>?_
 refine aG λ Ga ka=>?_
 obtain ⟨oc,od,osl,ho,odo,hod⟩:=An hk
 refine ka ?_
 clear ka
 have hb:=R.tB O _ _ ho
 have hxa:(x==a)=false:=by
  rw [beq_eq_false_iff_ne]
  rintro rfl
  rw [e2] at hb
  have:dx=od:=by injection hb with z; injection z with _ z; injection z
  subst this
  have:=R.fresh _ (List.mem_of_getElem? e1)
  rw [O.tB _ _ hod] at this; cases this
 show wpAny _ _ (isSame _ _ >>= _) _ _ _
 refine wpAny_bind ?_
 refine wF hxa ?_
 refine wpAny_bind (wpAny_load e2 (wpAny_bind (wpAny_load hb ?_)))
 exact wpAny_pure (wpAny_pure (Post.here R ⟨_,.bool _,q⟩ s.toks))
def iR (W:Wl) (a:AV) (t:Value):Prop:=∀ h ρ v,W.K.In h→VR W.hid ρ h a v→∀ M,Looks M h (typeOf v) t
theorem iR.inst {C:Addr} {n:Nat}:iR W (.inst C n) (.ref C):=λ h ρ v X hv M=>by
 exact hv.qC λ _ _ e1 e2=>by exact (Looks.ld (o:=instObj C _) e2).andThen .now
theorem iR.cst {x:Addr} {t:Value} (e:typeIn W.K (.ref x)=some t):iR W (.cst (.ref x)) t:=λ h ρ v X hv M=>by
 refine VR.aX hv ?_; exact looks_typeIn X e
noncomputable def qR:AV→Bool
 | .cst .notImplemented=>false
 | _=>true
theorem qn {a:AV} (e:qR a=true) {ρ:List Addr} {h:Heap} {v:Value} (hv:VR W.hid ρ h a v):v≠.notImplemented:=by
 rintro rfl
 cases hv; exact cV e
noncomputable def isRef:AV→Bool
 | .inst .. | .cst (.ref _)=>true
 | _=>false
theorem oG {a:AV} (e:isRef a=true) {ρ:List Addr} {h:Heap} {v:Value} (hv:VR W.hid ρ h a v):∃ x,v=.ref x:=by
 cases hv<;>first | exact ⟨_,rfl⟩ | cases e | skip
 cases v<;>first | exact ⟨_,rfl⟩ | exact cV e
theorem C2 {M:Model} {A:Around} {E:Value→Shared→Prop} {s:Shared} {K:Frag} {x C f:Addr} {name:Str} {args:List Value} {Q:Option Value→Shared→Prop} (X:K.In s.heap) (T:Looks M s.heap (typeOf (.ref x)) (.ref C)) (hs:findIn K (.ref C) name=some (some (.ref f))) (hf:isFn K (.ref f)=true)
 (h:wpAny M A (call (.ref f) (.ref x :: args)) (λ v=>Q (some v)) E s):wpAny M A (callSpecialIfBound? (.ref x) name args) Q E s:=by
 unfold callSpecialIfBound? bindSpecialIfBound?
 refine wpAny_holding (wpAny_bind (wpAny_bind (wpAny_bind (T.here ((looks_findIn X hs).here ?_)))))
 refine wpAny_bind (wpAny_askSetting (wpAny_ite ?_))
 have fin:wpAny M A (call (.ref f) ([.ref x]++args) >>= λ v=>pure (some v)) Q E s:=wpAny_bind (wpAny_mono h (λ v s' h'=>wpAny_pure h') λ _ _ h'=>h')
 split
 · exact wpAny_bind ((bind_fn X _ (beq_iff_eq.mp hf)).here (wpAny_pure (by exact fin)))
 · exact wpAny_tryCatch (wpAny_bind ((bind_fn X _ (beq_iff_eq.mp hf)).here (wpAny_pure (by exact fin))))
noncomputable def qH (K:Frag) (C:Addr) (tb:Value):Bool:=(tb==.ref C)||subIn K tb (.ref C)==some false
theorem aA.user (O:W.Ok) {op:CmpOp} {a b:AV} {C f:Addr} {tb:Value} {Q:AV→List AO→Prop} (hop:(op==.Eq||op==.NotEq)=true) (ha:isRef a=true) (ta:iR W a (.ref C)) (tb':iR W b tb) (hk:(qH W.K C tb&&(findIn W.K (.ref C) (cmpInfo op).2.1==some (some (.ref f)))&&isFn W.K (.ref f))=true)
 (h:ao W d (.cst (.ref f)) [a,b] σ λ v σ'=>qR v=true∧Q v σ'):aA W d op a b σ Q:=λ A s ρ vs hr R hv=>by
 refine hv.aq λ va _ ha' hv=>?_
 refine hv.aq λ vb _ hb' hv=>?_
 refine bh.aW hv ?_
 obtain ⟨x,rfl⟩:=oG ha ha'
 simp only [Bool.and_eq_true,beq_iff_eq] at hk
 obtain ⟨⟨h1,h2⟩,h3⟩:=hk
 have X:=R.tB O
 have T:=ta _ _ _ X ha' W.M
 have U:=tb' _ _ _ X hb' W.M
 have one:wpAny W.M A (tryCompare (.ref x) (cmpInfo op).2.1 vb) (λ r s'=>∃ v,r=some v∧Post W [] ρ s (QV W Q v) s') nD s:=by
  unfold tryCompare
  refine wpAny_bind (C2 X T h2 h3 (wpAny_mono (h A s ρ _ _ hr R (.cst _) (.cons ha' (.cons hb' .nil))) (λ v s' z=>?_) λ _ _ e=>e))
  refine aG λ Ga ka=>?_
  obtain ⟨h',tk',δ,σ',e,p,ff,R',av,xK,hn,q⟩:=z
  refine ka ?_
  clear ka
  have hne:=qn hn xK
  have z':Post W [] ρ s (QV W Q v) s':=⟨h',tk',δ,σ',e,p,ff,R',av,xK,q⟩
  cases v<;>first | exact (hne rfl).elim | exact wpAny_pure ⟨_,rfl,z'⟩
 have main:wpAny W.M A (richCompare op (.ref x) vb) (λ v s'=>Post W [] ρ s (QV W Q v) s') nD s:=by
  unfold richCompare
  rw [oneThing_ref]
  refine wpAny_holding (wpAny_bind (wpAny_cRoomFor (by have:=hr.units; lia) ?_))
  refine wpAny_bind (T.here (wpAny_bind (U.here ?_)))
  refine wI (λ q=>?_) λ _=>?_
  · have e:subIn W.K tb (.ref C)=some false:=by
     rcases Bool.or_eq_true_iff.mp h1 with e | e
     · rw [beq_iff_eq.mp e] at q; simp at q
     · exact beq_iff_eq.mp e
    refine wpAny_bind ((looks_subIn X e).here ?_)
    refine wF rfl ?_
    refine wpAny_bind (pA one λ r s' z=>?_)
    obtain ⟨v,rfl,hq⟩:=z
    exact wpAny_pure hq
  · refine wpAny_bind (wpAny_pure ?_)
    refine wF rfl ?_
    refine wpAny_bind (pA one λ r s' z=>?_)
    obtain ⟨v,rfl,hq⟩:=z
    exact wpAny_pure hq
 cases op<;>first | exact main | exact cV hop
end
section
variable {prog:Program} {w:World} {A:Around} {E:Value→Shared→Prop} {s:Shared} {K:Frag} {x C D f:Addr} {nm T:String}
theorem C3 {M:Model} {name:Str} {args:List Value} {Q:Option Value→Shared→Prop} (X:K.In s.heap) (Ty:Looks M s.heap (typeOf (.ref x)) (.ref C))
 (hs:findIn K (.ref C) name=some (some (.ref f))) (hf:isFn K (.ref f)=true) (h:wpAny M A (call (.ref f) (.ref x :: args)) (λ v=>Q (some v)) E s) :
 wpAny M A (callSpecial? (.ref x) name args) Q E s :=
 wpAny_bind (wpAny_bind (Ty.here ((looks_findIn X hs).here (wpAny_holding (wpAny_bind ((bind_fn X _ (beq_iff_eq.mp hf)).here (wpAny_bind (wpAny_mono h (λ _ _ z=>wpAny_pure z) λ _ _ z=>z))))))))
noncomputable def Kh:Value→Option Value
 | .notImplemented=>none
 | v=>some v
theorem Ao {M:Model} {name:Str} {b:Value} {Q:Option Value→Shared→Prop} (X:K.In s.heap) (Ty:Looks M s.heap (typeOf (.ref x)) (.ref C)) (hs:findIn K (.ref C) name=some (some (.ref f))) (hf:isFn K (.ref f)=true)
 (h:wpAny M A (call (.ref f) [.ref x,b]) (λ v=>Q (Kh v)) E s):wpAny M A (tryMethod (.ref x) name b) Q E s:=by
 unfold tryMethod
 refine wpAny_bind (C3 X Ty hs hf (wpAny_mono h (λ v s' hv=>?_) λ _ _ e=>e))
 cases v<;>exact wpAny_pure hv
theorem wM {op:Operator} {a b:Value} {Q:Value→Shared→Prop} (h:wpAny (model prog w) A (binaryOp1 op.info.2 a b) (λ r s'=>∃ v,r=some v∧Q v s') E s):wpAny (model prog w) A (binaryOp op a b) Q E s:=by
 unfold binaryOp
 refine wpAny_holding (wpAny_bind (wpAny_mono h (λ r s' z=>?_) λ _ _ e=>e))
 obtain ⟨v,rfl,q⟩:=z
 exact wpAny_pure q
theorem C4 {b:Value} {Q:Value→Shared→Prop} (X:K.In s.heap) (Ty:Looks (model prog w) s.heap (typeOf (.ref x)) (.ref C)) (hb:Looks (model prog w) s.heap (typeOf b) (.ref C)) (hc:selfFirst K C=true)
 (hs:findIn K (.ref C) (PySem.dunder nm)=some (some (.ref f))) (hf:isFn K (.ref f)=true)
 (h:wpAny (model prog w) A (call (.ref f) [.ref x,b]) (PySem.W.CmpBack Q) E s):wpAny (model prog w) A (binaryOp1 nm (.ref x) b) (λ r s'=>∃ v,r=some v∧Q v s') E s:=by
 obtain ⟨cd,rest,hcd,hm⟩:=ksp_first hc
 have one:wpAny (model prog w) A (tryMethod (.ref x) (PySem.dunder nm) b) (λ r s'=>∃ v,r=some v∧Q v s') E s:=by
  refine Ao X Ty hs hf (wpAny_mono h (λ v s' hv=>?_) λ _ _ e=>e)
  cases v<;>first | exact hv.elim | exact ⟨_,rfl,hv⟩
 have F:=fills_K (M:=model prog w) X hcd hm hs
 clear hc hcd hm hs hf h X
 unfold binaryOp1
 refine wpAny_bind (Ty.here (wpAny_bind (hb.here (wpAny_bind (F.here ?_)))))
 clear Ty hb F
 rw [beq_self_eq_true]
 refine wpAny_bind (wpAny_pure (wpAny_bind (wpAny_pure (wpAny_bind (wpAny_mono one (λ r s' z=>?_) λ _ _ e=>e)))))
 exact z.elim λ v z=>by rw [z.1]; exact wpAny_pure ⟨_,rfl,z.2⟩
theorem Eg {op:Operator} {b:Value} {Q:Value→Shared→Prop} (X:K.In s.heap) (Ty:Looks (model prog w) s.heap (typeOf (.ref x)) (.ref C)) (hb:Looks (model prog w) s.heap (typeOf b) (.ref C)) (hc:selfFirst K C=true)
 (hs:findIn K (.ref C) (PySem.dunder op.info.2)=some (some (.ref f))) (hf:isFn K (.ref f)=true)
 (h:wpAny (model prog w) A (call (.ref f) [.ref x,b]) (PySem.W.CmpBack Q) E s):wpAny (model prog w) A (binaryOp op (.ref x) b) Q E s:=wM (C4 X Ty hb hc hs hf h)
theorem C5 {b:Value} {fo ro rc:Option Value} {Q:Value→Shared→Prop} (X:K.In s.heap) (L1:Looks (model prog w) s.heap (typeOf (.ref x)) (.ref C)) (hb:typeOf b=pure (.type T)) (hc:selfFirst K C=true)
 (hs:findIn K (.ref C) (PySem.dunder nm)=some (some (.ref f))) (hf:isFn K (.ref f)=true) (hr:findIn K (.ref C) (dunderR nm)=some rc) (hp:rc=none∨∃ g:Addr,rc=some (.ref g))
 (h1:findIn K (.type T) (PySem.dunder nm)=some fo) (h2:findIn K (.type T) (dunderR nm)=some ro) (hsub:subIn K (.type T) (.ref C)=some false)
 (h:wpAny (model prog w) A (call (.ref f) [.ref x,b]) (PySem.W.CmpBack Q) E s):wpAny (model prog w) A (binaryOp1 nm (.ref x) b) (λ r s'=>∃ v,r=some v∧Q v s') E s:=by
 obtain ⟨cd,rest,hcd,hm⟩:=ksp_first hc
 have one:wpAny (model prog w) A (tryMethod (.ref x) (PySem.dunder nm) b) (λ r s'=>∃ v,r=some v∧Q v s') E s:=by
  refine Ao X L1 hs hf (wpAny_mono h (λ v s' hv=>?_) λ _ _ e=>e)
  cases v<;>first | exact hv.elim | exact ⟨_,rfl,hv⟩
 have L3:=fills_K (M:=model prog w) X hcd hm hs
 have L4:=ksp_fillsT (M:=model prog w) X h1 h2
 have L5:=looks_subIn (M:=model prog w) X hsub
 have L6:=ksp_inPy (M:=model prog w) X hs hr hp
 have L8:=looks_findIn (M:=model prog w) X h2
 generalize ((fo.isSome&&!isSeqSlot fo)||(ro.isSome&&!isSeqSlot ro))=right at L4
 have hne:(Value.ref C==Value.type T)=false:=Bool.eq_false_iff.mpr λ q=>by cases beq_iff_eq.mp q
 clear hc hcd hm hs hf h X hr hp h1 h2 hsub
 unfold binaryOp1
 rw [hb]
 refine wpAny_bind (L1.here (wpAny_bind (wpAny_pure (wpAny_bind (L3.here ?_)))))
 clear L1 L3
 rw [hne]
 refine wpAny_bind (L4.here ?_)
 clear L4 hne
 cases right with
 | false =>
  clear L5 L6 L8
  refine wpAny_bind (wpAny_pure (wpAny_bind (wpAny_mono one (λ r s' z=>?_) λ _ _ e=>e)))
  exact z.elim λ v z=>by rw [z.1]; exact wpAny_pure ⟨_,rfl,z.2⟩
 | true =>
  refine wpAny_bind (L5.here ?_)
  refine wpAny_bind (L6.here ?_)
  refine wpAny_bind (wpAny_pure ?_)
  refine wpAny_bind (L8.here ?_)
  refine wpAny_bind (wpAny_mono one (λ r s' z=>?_) λ _ _ e=>e)
  exact z.elim λ v z=>by rw [z.1]; exact wpAny_pure ⟨_,rfl,z.2⟩
theorem Eh {op:Operator} {b:Value} {fo ro rc:Option Value} {Q:Value→Shared→Prop} (X:K.In s.heap) (L1:Looks (model prog w) s.heap (typeOf (.ref x)) (.ref C)) (hb:typeOf b=pure (.type T)) (hc:selfFirst K C=true)
 (hs:findIn K (.ref C) (PySem.dunder op.info.2)=some (some (.ref f))) (hf:isFn K (.ref f)=true) (hr:findIn K (.ref C) (dunderR op.info.2)=some rc) (hp:rc=none∨∃ g:Addr,rc=some (.ref g))
 (h1:findIn K (.type T) (PySem.dunder op.info.2)=some fo) (h2:findIn K (.type T) (dunderR op.info.2)=some ro) (hsub:subIn K (.type T) (.ref C)=some false)
 (h:wpAny (model prog w) A (call (.ref f) [.ref x,b]) (PySem.W.CmpBack Q) E s):wpAny (model prog w) A (binaryOp op (.ref x) b) Q E s:=wM (C5 X L1 hb hc hs hf hr hp h1 h2 hsub h)
theorem Ei {b:Value} {rc rd:Option Value} {fD:Addr} {Q:Value→Shared→Prop} (X:K.In s.heap) (L1:Looks (model prog w) s.heap (typeOf (.ref x)) (.ref C)) (L2:Looks (model prog w) s.heap (typeOf b) (.ref D)) (hc:selfFirst K C=true) (hd:selfFirst K D=true) (Pe:C≠D)
 (hs:findIn K (.ref C) (PySem.dunder nm)=some (some (.ref f))) (hf:isFn K (.ref f)=true) (hr:findIn K (.ref C) (dunderR nm)=some rc) (hp:rc=none∨∃ g:Addr,rc=some (.ref g))
 (h1:findIn K (.ref D) (PySem.dunder nm)=some (some (.ref fD))) (h2:findIn K (.ref D) (dunderR nm)=some rd) (Pf:rd=none∨∃ g:Addr,rd=some (.ref g)) (hsub:subIn K (.ref D) (.ref C)=some false)
 (h:wpAny (model prog w) A (call (.ref f) [.ref x,b]) (λ v s'=>match Kh v with
  | some v=>Q v s'
  | none=>Looks (model prog w) s'.heap (typeOf (.ref x)) (.ref C)∧Looks (model prog w) s'.heap (typeOf b) (.ref D)∧wpAny (model prog w) A (tryMethod b (dunderR nm) (.ref x)) (λ r s'=>∃ v,r=some v∧Q v s') E s') E s):wpAny (model prog w) A (binaryOp1 nm (.ref x) b) (λ r s'=>∃ v,r=some v∧Q v s') E s:=by
 obtain ⟨cd,rest,hcd,hm⟩:=ksp_first hc
 obtain ⟨RJ,rest',GJ,hm'⟩:=ksp_first hd
 have one:=Ao (Q:=λ r s'=>match r with
  | some v=>Q v s'
  | none=>Looks (model prog w) s'.heap (typeOf (.ref x)) (.ref C)∧Looks (model prog w) s'.heap (typeOf b) (.ref D)∧wpAny (model prog w) A (tryMethod b (dunderR nm) (.ref x)) (λ r s'=>∃ v,r=some v∧Q v s') E s') X L1 hs hf h
 have L3:=fills_K (M:=model prog w) X hcd hm hs
 have L4:=fills_K (M:=model prog w) X GJ hm' h1
 have L5:=looks_subIn (M:=model prog w) X hsub
 have L6:=ksp_inPy (M:=model prog w) X hs hr hp
 have L7:=ksp_inPy (M:=model prog w) X h1 h2 Pf
 have hne:(Value.ref C==Value.ref D)=false:=Bool.eq_false_iff.mpr λ q=>Pe (by injection (beq_iff_eq.mp q))
 clear hc hcd hm hs hf h X hr hp h1 h2 hsub hd GJ hm' Pf Pe
 unfold binaryOp1
 refine wpAny_bind (L1.here (wpAny_bind (L2.here (wpAny_bind (L3.here ?_)))))
 clear L1 L2 L3
 rw [hne]
 refine wpAny_bind (L4.here ?_)
 refine wpAny_bind (L5.here ?_)
 refine wpAny_bind (L6.here ?_)
 refine wpAny_bind (L7.here ?_)
 refine wpAny_bind (wpAny_mono one (λ r s' z=>?_) λ _ _ e=>e)
 clear L4 L5 L6 L7 one
 cases r with
 | some v=>exact wpAny_pure ⟨_,rfl,z⟩
 | none =>
  refine wpAny_bind (z.1.here ?_)
  refine wpAny_bind (z.2.1.here ?_)
  rw [hne]
  refine wpAny_bind (wpAny_mono z.2.2 (λ r s' z=>?_) λ _ _ e=>e)
  exact z.elim λ v z=>by rw [z.1]; exact wpAny_bind (wpAny_rule (wpAny_pure ⟨_,rfl,z.2⟩))
theorem Ck {op:Operator} {b:Value} {rc rd:Option Value} {fD:Addr} {Q:Value→Shared→Prop} (X:K.In s.heap) (L1:Looks (model prog w) s.heap (typeOf (.ref x)) (.ref C)) (L2:Looks (model prog w) s.heap (typeOf b) (.ref D)) (hc:selfFirst K C=true) (hd:selfFirst K D=true) (Pe:C≠D)
 (hs:findIn K (.ref C) (PySem.dunder op.info.2)=some (some (.ref f))) (hf:isFn K (.ref f)=true) (hr:findIn K (.ref C) (dunderR op.info.2)=some rc) (hp:rc=none∨∃ g:Addr,rc=some (.ref g))
 (h1:findIn K (.ref D) (PySem.dunder op.info.2)=some (some (.ref fD))) (h2:findIn K (.ref D) (dunderR op.info.2)=some rd) (Pf:rd=none∨∃ g:Addr,rd=some (.ref g)) (hsub:subIn K (.ref D) (.ref C)=some false)
 (h:wpAny (model prog w) A (call (.ref f) [.ref x,b]) (λ v s'=>match Kh v with
  | some v=>Q v s'
  | none=>Looks (model prog w) s'.heap (typeOf (.ref x)) (.ref C)∧Looks (model prog w) s'.heap (typeOf b) (.ref D)∧wpAny (model prog w) A (tryMethod b (dunderR op.info.2) (.ref x)) (λ r s'=>∃ v,r=some v∧Q v s') E s') E s):wpAny (model prog w) A (binaryOp op (.ref x) b) Q E s:=wM (Ei X L1 L2 hc hd Pe hs hf hr hp h1 h2 Pf hsub h)
end
section
variable {W:Wl} {d:Nat} {env:Env} {η:En} {σ:List AO}
noncomputable def Ej (K:Frag) (op:Operator) (C f:Addr):Bool:=selfFirst K C&&(findIn K (.ref C) (PySem.dunder op.info.2)==some (some (.ref f)))&&isFn K (.ref f)
theorem aU.same (O:W.Ok) {op:Operator} {a b:AV} {C f:Addr} {Q:AV→List AO→Prop} (ha:isRef a=true) (ta:iR W a (.ref C)) (tb:iR W b (.ref C)) (hk:Ej W.K op C f=true)
 (h:ao W d (.cst (.ref f)) [a,b] σ λ v σ'=>qR v=true∧Q v σ'):aU W d op a b σ Q:=λ A s ρ vs hr R hv=>by
 refine hv.aq λ va _ ha' hv=>?_
 refine hv.aq λ vb _ hb' hv=>?_
 refine bh.aW hv ?_
 obtain ⟨x,rfl⟩:=oG ha ha'
 unfold Ej at hk
 simp only [Bool.and_eq_true,beq_iff_eq] at hk
 obtain ⟨⟨h1,h2⟩,h3⟩:=hk
 have X:=R.tB O
 refine Eg X (ta _ _ _ X ha' W.M) (tb _ _ _ X hb' W.M) h1 h2 h3 (pA (h A s ρ _ _ hr R (.cst _) (.cons ha' (.cons hb' .nil))) λ v s' z=>?_)
 obtain ⟨h',tk',δ,σ',e,p,ff,R',av,xK,hn,q⟩:=z
 have hne:=qn hn xK
 have z':Post W [] ρ s (QV W Q v) s':=⟨h',tk',δ,σ',e,p,ff,R',av,xK,q⟩
 cases v<;>first | exact (hne rfl).elim | exact z'
noncomputable def sS (o:Option Value):Bool:=o.all λ v=>(zd v).isSome
theorem kj {o:Option Value} (h:sS o=true):o=none∨∃ g:Addr,o=some (.ref g):=by
 cases o with
 | none=>exact .inl rfl
 | some v =>
  obtain ⟨a,e⟩:=Option.isSome_iff_exists.mp h
  exact .inr ⟨a,congrArg _ (qA e)⟩
noncomputable def Ek (K:Frag) (op:Operator) (C f:Addr) (T:String):Bool:=selfFirst K C&&(findIn K (.ref C) (PySem.dunder op.info.2)==some (some (.ref f)))&&isFn K (.ref f)&&(findIn K (.ref C) (dunderR op.info.2)).any sS &&
 (findIn K (.type T) (PySem.dunder op.info.2)).isSome&&(findIn K (.type T) (dunderR op.info.2)).isSome&&(subIn K (.type T) (.ref C)==some false)
theorem aU.int (O:W.Ok) {op:Operator} {a:AV} {i:Int} {C f:Addr} {Q:AV→List AO→Prop} (ha:isRef a=true) (ta:iR W a (.ref C)) (hk:Ek W.K op C f "int" = true)
 (h:ao W d (.cst (.ref f)) [a,.int i] σ λ v σ'=>qR v=true∧Q v σ'):aU W d op a (.int i) σ Q:=λ A s ρ vs hr R hv=>by
 refine hv.aq λ va _ ha' hv=>?_
 refine hv.aq λ vb _ hb' hv=>?_
 refine bh.aW hv ?_
 obtain ⟨x,rfl⟩:=oG ha ha'
 have Bk:=hb'
 cases hb' with | @int _ t =>
 unfold Ek at hk
 simp only [Bool.and_eq_true,beq_iff_eq] at hk
 obtain ⟨⟨⟨⟨⟨⟨h1,h2⟩,h3⟩,h4⟩,h5⟩,h6⟩,h7⟩:=hk
 obtain ⟨rc,h4,Tj⟩:=any_some h4
 obtain ⟨fo,h5⟩:=Option.isSome_iff_exists.mp h5
 obtain ⟨ro,h6⟩:=Option.isSome_iff_exists.mp h6
 have X:=R.tB O
 refine Eh X (ta _ _ _ X ha' W.M) rfl h1 h2 h3 h4 (kj Tj) h5 h6 h7 (pA (h A s ρ _ _ hr R (.cst _) (.cons ha' (.cons Bk .nil))) λ v s' z=>?_)
 obtain ⟨h',tk',δ,σ',e,p,ff,R',av,xK,hn,q⟩:=z
 have hne:=qn hn xK
 have z':Post W [] ρ s (QV W Q v) s':=⟨h',tk',δ,σ',e,p,ff,R',av,xK,q⟩
 cases v<;>first | exact (hne rfl).elim | exact z'
noncomputable def Cm (K:Frag) (op:Operator) (C f D fD:Addr):Bool:=selfFirst K C&&selfFirst K D&&(C != D)&&(findIn K (.ref C) (PySem.dunder op.info.2)==some (some (.ref f)))&&isFn K (.ref f)&&(findIn K (.ref C) (dunderR op.info.2)).any sS &&
 (findIn K (.ref D) (PySem.dunder op.info.2)==some (some (.ref fD)))&&(findIn K (.ref D) (dunderR op.info.2)).any sS&&(subIn K (.ref D) (.ref C)==some false)
theorem aU.two (O:W.Ok) {op:Operator} {a b:AV} {C f D fD:Addr} {Q:AV→List AO→Prop} (ha:isRef a=true) (ta:iR W a (.ref C)) (tb:iR W b (.ref D)) (hk:Cm W.K op C f D fD=true)
 (h:ao W d (.cst (.ref f)) [a,b] σ λ v σ'=>qR v=true∧Q v σ'):aU W d op a b σ Q:=λ A s ρ vs hr R hv=>by
 refine hv.aq λ va _ ha' hv=>?_
 refine hv.aq λ vb _ hb' hv=>?_
 refine bh.aW hv ?_
 obtain ⟨x,rfl⟩:=oG ha ha'
 unfold Cm at hk
 simp only [Bool.and_eq_true,beq_iff_eq,bne_iff_ne,ne_eq] at hk
 obtain ⟨⟨⟨⟨⟨⟨⟨⟨h1,h2⟩,h3⟩,h4⟩,h5⟩,h6⟩,h7⟩,h8⟩,h9⟩:=hk
 obtain ⟨rc,h6,Qm⟩:=any_some h6
 obtain ⟨rd,h8,Qn⟩:=any_some h8
 have X:=R.tB O
 refine Ck X (ta _ _ _ X ha' W.M) (tb _ _ _ X hb' W.M) h1 h2 h3 h4 h5 h6 (kj Qm) h7 h8 (kj Qn) h9 (pA (h A s ρ _ _ hr R (.cst _) (.cons ha' (.cons hb' .nil))) λ v s' z=>?_)
 obtain ⟨h',tk',δ,σ',e,p,ff,R',av,xK,hn,q⟩:=z
 have hne:=qn hn xK
 have z':Post W [] ρ s (QV W Q v) s':=⟨h',tk',δ,σ',e,p,ff,R',av,xK,q⟩
 cases v<;>first | exact (hne rfl).elim | exact z'
theorem aU.Qo (O:W.Ok) {op:Operator} {a b:AV} {C f D fD g:Addr} {Q:AV→List AO→Prop} (ha:isRef a=true) (hb:isRef b=true) (ta:iR W a (.ref C)) (tb:iR W b (.ref D)) (hk:Cm W.K op C f D fD=true)
 (hg:(findIn W.K (.ref D) (dunderR op.info.2)==some (some (.ref g))&&isFn W.K (.ref g))=true)
 (h:ao W d (.cst (.ref f)) [a,b] σ λ v σ'=>v=.cst .notImplemented∧ao W d (.cst (.ref g)) [b,a] σ' λ v σ'=>qR v=true∧Q v σ'):aU W d op a b σ Q:=λ A s ρ vs hr R hv=>by
 refine hv.aq λ va _ ha' hv=>?_
 refine hv.aq λ vb _ hb' hv=>?_
 refine bh.aW hv ?_
 obtain ⟨x,rfl⟩:=oG ha ha'
 obtain ⟨y,rfl⟩:=oG hb hb'
 unfold Cm at hk
 simp only [Bool.and_eq_true,beq_iff_eq,bne_iff_ne,ne_eq] at hk hg
 obtain ⟨⟨⟨⟨⟨⟨⟨⟨h1,h2⟩,h3⟩,h4⟩,h5⟩,h6⟩,h7⟩,h8⟩,h9⟩:=hk
 obtain ⟨rc,h6,Qm⟩:=any_some h6
 obtain ⟨rd,h8,Qn⟩:=any_some h8
 have X:=R.tB O
 refine Ck X (ta _ _ _ X ha' W.M) (tb _ _ _ X hb' W.M) h1 h2 h3 h4 h5 h6 (kj Qm) h7 h8 (kj Qn) h9 (pA (h A s ρ _ _ hr R (.cst _) (.cons ha' (.cons hb' .nil))) λ v s' z=>?_)
 obtain ⟨h',tk',δ,σ',e,p,ff,R',av,xK,rfl,q⟩:=z
 subst e
 refine VR.aX xK ?_
 have X':=R'.tB O
 have GK:=ha'.mono (δ:=δ) R.muts p
 have Bk:=hb'.mono (δ:=δ) R.muts p
 refine ⟨ta _ _ _ X' GK W.M,tb _ _ _ X' Bk W.M,?_⟩
 refine Ao (s:={ s with heap:=h',toks:=tk' }) X' (tb _ _ _ X' Bk W.M) hg.1 hg.2 (pA (q A _ _ _ _ hr R' (.cst _) (.cons Bk (.cons GK .nil))) λ v c7 z=>?_)
 obtain ⟨aF,aJ,δ₂,ai,oW,aN,aR,R₂,av,xK,hn,bF⟩:=z
 have hne:=qn hn xK
 have z':Post W [] ρ s (QV W Q v) c7:=Post.chain p ff ⟨aF,aJ,δ₂,ai,oW,aN,aR,R₂,av,xK,bF⟩
 cases v<;>first | exact (hne rfl).elim | exact ⟨_,rfl,z'⟩
noncomputable def zj (K:Frag) (C:Addr):Bool:=(findIn K (.ref C) "__bool__" == some none)&&(findIn K (.ref C) "__len__" == some none)
theorem bf.ref (O:W.Ok) {a:AV} {C:Addr} {Q:Bool→List AO→Prop} (ha:isRef a=true) (ta:iR W a (.ref C)) (hk:zj W.K C=true) (q:Q true σ):bf W d a σ Q:=λ A s ρ v hr R hv=>by
 obtain ⟨x,rfl⟩:=oG ha hv
 unfold zj at hk
 simp only [Bool.and_eq_true,beq_iff_eq] at hk
 have X:=R.tB O
 have T:=ta _ _ _ X hv W.M
 unfold truthy
 refine wpAny_bind (m:=callSpecial? (.ref x) (Str.ofString "__bool__")) (wpAny_bind (wpAny_bind (T.here ((looks_findIn X hk.1).here (wpAny_pure ?_)))))
 refine wpAny_bind (wpAny_bind (T.here ((looks_findIn X hk.2).here ?_)))
 exact wpAny_pure (a:=true) (Post.here R q s.toks)
theorem bf.lst {n:Nat} {xs:List AV} {Q:Bool→List AO→Prop} (e:σ[n]? = some (.lst xs)) (hz:xs.length≤1000000) (q:Q (!xs.isEmpty) σ):bf W d (.lst n) σ Q:=λ A s ρ v hr R hv=>by
 refine hv.sD λ a ea=>?_
 obtain ⟨ws,m,e2,v⟩:=aZ R e ea
 refine wpAny_truthy_list (items:=ws.toArray) ⟨_,e2,rfl,_,rfl⟩ (by rw [List.size_toArray,v.length]; lia) ?_
 have:(!ws.toArray.isEmpty) = !xs.isEmpty:=by
  have hl:=v.length
  cases ws<;>cases xs<;>first | rfl | cases hl
 rw [this]; exact Post.here R q _
theorem iP.assert {t:Expr} {m:Option Expr} {pos:Pos} {Q:Fl→En→List AO→Prop} (h:bY W d env t η σ λ c σ'=>c=true∧Q .next η σ'):iP W d env (.Assert t m pos) η σ Q:=λ A s ρ hr R F=>by
 refine wpAny_Assert_holds (aM (h A s ρ hr R F) λ c h₁ tk₁ δ af p f R₁ ⟨e,q⟩=>⟨e,?_⟩)
 exact Post.Cf (Post.chain p f (Post.here (s:={ s with heap:=h₁,toks:=tk₁ }) R₁ ⟨.next,η,F.mono R.muts p f,.next,q⟩ tk₁))
theorem iP.expr {e:Expr} {pos:Pos} {Q:Fl→En→List AO→Prop} (hi:interactive env=false) (hs:swapsWith e none pos.line env=pure false) (h:aT W d env e η σ λ _ σ'=>Q .next η σ'):iP W d env (.Expr e pos) η σ Q:=λ A s ρ hr R F=>by
 refine wpAny_Expr_any (aM (h A s ρ hr R F) λ c h₁ tk₁ δ af p f R₁ ⟨a,va,q⟩=>?_) hi hs
 exact Post.Cf (Post.chain p f (Post.here (s:={ s with heap:=h₁,toks:=tk₁ }) R₁ ⟨.next,η,F.mono R.muts p f,.next,q⟩ tk₁))
theorem iP.El {elts:List Expr} {k:Nat} {tpos pos:Pos} {e:Expr} {Q:Fl→En→List AO→Prop} (hs:swapsWithSole [.Tuple elts k tpos] e pos.line env=pure false) (hw:swappedStores [.Tuple elts k tpos] e env=pure none)
 (h:aT W d env e η σ λ v af=>Ab W d env (.Tuple elts k tpos) v η af λ η' ai=>Q .next η' ai):iP W d env (.Assign [.Tuple elts k tpos] e pos) η σ Q:=λ A s ρ hr R F=>by
 refine Assign_Tuple (aM (h A s ρ hr R F) λ v h₁ tk₁ δ af p f R₁ ⟨a,va,q⟩=>?_) hs hw
 refine pA (q A _ _ _ hr R₁ (F.mono R.muts p f) va) λ _ c7 z=>?_
 refine Post.chain (p.weaken λ a ha=>List.mem_append_right _ ha) f (Post.mono z λ ρ' σ' h' ⟨η',F',q'⟩=>⟨.next,η',F',.next,q'⟩)
end
noncomputable def bW:En→Str→Option AV
 | [],_=>none
 | (y,_,o) :: r,x=>if y==x then o else bW r x
noncomputable def Nc (y:Str) (v:AV) (r:En):NK→Option En
 | .loc=>some ((y,.loc,some v) :: r)
 | .xy=>some ((y,.xy,some v) :: r)
 | .F0=>none
noncomputable def Nd (e:Str×NK×Option AV):Option En→Option En
 | some r=>some (e :: r)
 | none=>none
noncomputable def sG:En→Str→AV→Option En
 | [],_,_=>none
 | (y,k,o) :: r,x,v=>if y==x then Nc y v r k else Nd (y,k,o) (sG r x v)
theorem bL {x:Str} {v:AV}:∀ {η:En},bW η x=some v→yi η x v
 | [],h=>by exact aP h
 | (y,k,o) :: r,h=>by
  change (if (y==x)=true then o else bW r x)=some v at h
  by_cases e:(y==x)=true
  · rw [if_pos e] at h; rw [beq_iff_eq] at e; subst e; subst h; exact .hd
  · rw [if_neg e] at h; exact .tl (bL h)
theorem oH {x:Str} {v:AV}:∀ {η η':En},sG η x v=some η'→Up η x v η'
 | [],_,h=>by exact aP h
 | (y,k,o) :: r,η',h=>by
  change (if (y==x)=true then Nc y v r k else Nd (y,k,o) (sG r x v))=some η' at h
  by_cases e:(y==x)=true
  · rw [if_pos e] at h
    rw [beq_iff_eq] at e; subst e
    cases k with
    | loc=>refine sE h ?_; exact .loc
    | xy=>refine sE h ?_; exact .xy
    | F0=>exact aP h
  · rw [if_neg e] at h
    cases hr:sG r x v with
    | some r'=>rw [hr] at h; refine sE h ?_; exact .tl (oH hr)
    | none=>rw [hr] at h; exact aP h
noncomputable def m5:List Str→List AV→En→Option En
 | [],[],η=>some η
 | x :: xs,v :: vs,η=>(sG η x v).bind λ η'=>m5 xs vs η'
 | _,_,_=>none
section
variable {W:Wl} {d:Nat} {env:Env} {η:En} {σ:List AO}
set_option tactic.hygienic true in
theorem C6 {A:Around} (names:List Str):∀ (vs:List AV) (η η':En),m5 names vs η=some η'→∀ (s:Shared) (ρ:List Addr) (ws:List Value),aL W ρ σ s.heap→cT W env η ρ s.heap→bh W.hid ρ s.heap vs ws →
 wpAny W.M A (assignInOrder (names.map λ n=>bindName env n) ws) (λ _ s'=>Post W (addrs env) ρ s (λ ρ' σ' h'=>cT W env η' ρ' h'∧σ'=σ) s') nD s:=by
 induction names with
 | nil =>
  intro vs η η' h s ρ ws R F hv
  cases vs with
  | nil =>
   refine sE h ?_
   refine bh.aW hv ?_
   exact wpAny_pure (a:=()) (Post.here R ⟨F,rfl⟩ s.toks)
  | cons=>exact aP h
 | cons x xs ih =>
  intro vs η η' h s ρ ws R F hv
  cases vs with
  | nil=>exact aP h
  | cons v vs =>
   refine hv.aq λ w ws hv hvs=>?_
   obtain ⟨η₁,h1,h⟩:=cB (show ((sG η x v).bind λ η'=>m5 xs vs η')=some η' from h)
   show wpAny _ _ (do holding ws (bindName env x w); assignInOrder _ ws) _ _ _
   refine wpAny_bind (wpAny_holding (PyProof.Rows.bindName_ (yI (iQ (Q:=λ ρ' σ' h'=>cT W env η₁ ρ' h'∧σ'=σ) (oH h1) R F hv λ h' F' R'=>⟨F',rfl⟩) λ _ h₁ tk₁ δ af p f R₁ ⟨bq,e⟩=>?_)))
   subst e
   exact wpAny_mono (ih vs η₁ η' h _ _ _ R₁ bq (hvs.mono (F.Bd.append R.muts) p)) (λ _ _ z=>Post.chain p f z) λ _ _ x=>x
theorem iP.Bl {elts:List Expr} {k:Nat} {tpos pos:Pos} {e:Expr} {names:List Str} {Q:Fl→En→List AO→Prop} (hs:swapsWithSole [.Tuple elts k tpos] e pos.line env=pure false) (hw:swappedStores [.Tuple elts k tpos] e env=pure (some names))
 (h:aT W d env e η σ λ v af=>∃ vs η',v=.tup vs∧vs.length=names.length∧m5 names.reverse vs.reverse η=some η'∧Q .next η' af):iP W d env (.Assign [.Tuple elts k tpos] e pos) η σ Q:=λ A s ρ hr R F=>by
 refine Assign_Tuple_swapped (names:=names) (aM (h A s ρ hr R F) λ v h₁ tk₁ δ af p f R₁ ⟨a,va,vs,η',e1,hl,hη,q⟩=>?_) hs hw
 subst e1
 refine va.Ce λ ws a n e hx hvs=>?_
 have hn:names.length=ws.toArray.size:=by rw [List.size_toArray,hvs.length,hl]
 rw [hn]
 refine wc (wpAny_unpackItems_tuple (s:={ s with heap:=h₁,toks:=tk₁ }) hr.handled (items:=ws.toArray) ⟨_,e,rfl,_,rfl⟩ λ h' he hsz=>?_)
 have hsz:h₁.objs.size≤h'.objs.size:=hsz
 have yf:aH (ρ++δ) h₁ h':=vz he vA hsz
 have R':=R₁.keeps (vz (ρ:=[]) he vA hsz)
 have F':=(F.mono R.muts p f).mono (δ:=[]) R₁.muts yf (λ _ h=>nomatch h)
 rw [List.append_nil] at F'
 have hv':=hvs.mono (δ:=[]) R₁.muts yf
 rw [List.append_nil] at hv'
 have rev:∀ {as:List AV} {us:List Value},bh W.hid (ρ++δ) h' as us→∀ {bs:List AV} {xs:List Value},bh W.hid (ρ++δ) h' bs xs→bh W.hid (ρ++δ) h' (as.reverseAux bs) (us.reverseAux xs):=by
  intro as
  induction as with
  | nil=>intro us hu bs xs hb; refine bh.aW hu ?_; exact hb
  | cons a as ih =>
   intro us hu bs xs hb
   exact hu.aq λ _ _ q1 q2=>by exact ih q2 (.cons q1 hb)
 have Qp:bh W.hid (ρ++δ) h' vs.reverse ws.reverse:=rev hv' .nil
 refine pA (C6 names.reverse vs.reverse η η' hη { s with heap:=h',toks:=tk₁ } _ _ R' F' Qp) λ _ c7 z=>?_
 refine Post.chain (p.weaken λ a ha=>List.mem_append_right _ ha) f (Post.chain (s:={ s with heap:=h₁,toks:=tk₁ }) (δ:=[]) (tk₁:=tk₁) (yf.weaken λ a ha=>List.mem_append_right _ ha) (λ _ h=>nomatch h) ?_)
 rw [List.append_nil]
 exact Post.mono z λ ρ' σ' h'' ⟨F₂,e2⟩=>⟨.next,η',F₂,.next,by rw [e2]; exact q⟩
noncomputable def Em (K:Frag) (x:Addr):Option (Addr×Addr):=(K.lookup x).bind λ o=>(zd o.cls).bind λ C=>o.dict.bind λ dx=>if Qa o.data then some (C,dx) else none
theorem Aq {K:Frag} {x C dx:Addr} (h:Em K x=some (C,dx)):∃ sl,K.lookup x=some ⟨.ref C,some dx,.plain,sl⟩:=by
 obtain ⟨⟨c,d,dt,sl⟩,e,h⟩:=cB h
 obtain ⟨C',e1,h⟩:=cB h
 obtain ⟨x',e2,h⟩:=cB h
 obtain ⟨e3,h⟩:=J4 h
 cases h
 obtain rfl:c=.ref C:=qA e1
 obtain rfl:d=some dx:=e2
 obtain rfl:dt=.plain:=D7 e3
 exact ⟨sl,e⟩
noncomputable def GL (o:Option (Option Value)):Option Addr:=o.bind λ o=>o.bind zd
theorem zk {o:Option (Option Value)} {f:Addr} (h:GL o=some f):o=some (some (.ref f)):=by
 obtain ⟨p,e,h⟩:=cB h
 obtain ⟨v,e',h⟩:=cB h
 rw [e,e',qA h]
noncomputable def sH (K:Frag) (C:Addr) (name:Str):Bool:=plainGet K C name&&hasDictIn K C&&(findIn K (.ref C) name).any λ attr=>noGet K attr
noncomputable def Cn (K:Frag) (x:Addr) (name:Str):Option Value:=(Em K x).bind λ p=>(K.lookup p.2).bind λ o=>(lookIn name o).join.bind λ v=>if handedIn v&&sH K p.1 name then some v else none
noncomputable def xM:Value→AV
 | .none=>.none
 | .bool b=>.bool b
 | .int i _=>.int i
 | v=>.cst v
theorem Co {ρ:List Addr} {h:Heap} (v:Value):VR W.hid ρ h (xM v) v:=by
 cases v<;>first | exact .none | exact .bool _ | exact .int _ _ | exact .cst _
theorem o6.base (O:W.Ok) {x:Addr} {name:Str} {v:Value} {Q:AV→List AO→Prop} (hk:Cn W.K x name=some v) (q:Q (xM v) σ):o6 W d (.cst (.ref x)) name σ Q:=λ A s ρ ov ex hr R hv=>by
 refine VR.aX hv ?_
 obtain ⟨⟨C,dx⟩,h0,hk⟩:=Option.bind_eq_some_iff.mp hk
 obtain ⟨o,hod,hk⟩:=Option.bind_eq_some_iff.mp hk
 obtain ⟨v',hl,hk⟩:=Option.bind_eq_some_iff.mp hk
 obtain ⟨sl,ho⟩:=Aq h0
 have hl:=Option.join_eq_some_iff.mp hl
 cases hc:handedIn v'&&sH W.K C name with
 | false=>rw [show (handedIn v'&&sH W.K (C,dx).1 name)=false from hc,if_neg Bool.false_ne_true] at hk; exact nomatch hk
 | true =>
  rw [show (handedIn v'&&sH W.K (C,dx).1 name)=true from hc,if_pos rfl] at hk
  cases hk
  obtain ⟨hh,hf⟩:=Bool.and_eq_true_iff.mp hc
  unfold sH at hf
  rw [Bool.and_eq_true,Bool.and_eq_true] at hf
  obtain ⟨⟨h1,h2⟩,h3⟩:=hf
  obtain ⟨attr,h4,h5⟩:=any_some h3
  have X:=R.tB O
  have I:InstAt s.heap x _ C (some o):=⟨X _ _ ho,rfl,rfl,X _ _ hod⟩
  exact get_value X I (plainGet_of h1).1 (findObj_own h2 h4 h5 hl) hh (Post.here R ⟨_,Co v,q⟩ _)
noncomputable def Eo (K:Frag) (x:Addr) (name:Str):Option Addr:=(Em K x).bind λ p=>(K.lookup p.2).bind λ o=>(GL (findIn K (.ref p.1) name)).bind λ f=>if plainGet K p.1 name&&isFn K (.ref f)&&keepIn K (.ref f)&&(lookIn name o==some none) then some f else none
theorem cG.base (O:W.Ok) {x f:Addr} {name:Str} {Q:AV→List AV→List AO→Prop} (hk:Eo W.K x name=some f) (q:Q (.cst (.ref f)) [.cst (.ref x)] σ):cG W d (.cst (.ref x)) name σ Q:=λ A s ρ v pl hr R hv=>by
 refine VR.aX hv ?_
 obtain ⟨⟨C,dx⟩,h0,hk⟩:=Option.bind_eq_some_iff.mp hk
 obtain ⟨o,hod,hk⟩:=Option.bind_eq_some_iff.mp hk
 obtain ⟨f',hf,hk⟩:=Option.bind_eq_some_iff.mp hk
 obtain ⟨sl,ho⟩:=Aq h0
 have hf:=zk hf
 cases hc:plainGet W.K C name&&isFn W.K (.ref f')&&keepIn W.K (.ref f')&&(lookIn name o==some none) with
 | false=>rw [show (plainGet W.K (C,dx).1 name&&isFn W.K (.ref f')&&keepIn W.K (.ref f')&&(lookIn name o==some none))=false from hc,if_neg Bool.false_ne_true] at hk; exact nomatch hk
 | true =>
  rw [show (plainGet W.K (C,dx).1 name&&isFn W.K (.ref f')&&keepIn W.K (.ref f')&&(lookIn name o==some none))=true from hc,if_pos rfl] at hk
  cases hk
  simp only [Bool.and_eq_true,beq_iff_eq] at hc
  obtain ⟨⟨⟨h1,h2⟩,h3⟩,h4⟩:=hc
  have X:=R.tB O
  have I:InstAt s.heap x _ C (some o):=⟨X _ _ ho,rfl,rfl,X _ _ hod⟩
  refine method_fn X I (plainGet_of h1).1 (plainGet_of h1).2 hf (beq_iff_eq.mp h2) ?_ (Post.here R ⟨_,_,.cst _,.cons (.cst _) .nil,b9.ref h3,q⟩ s.toks)
  show (lookIn name o).map _=_
  rw [h4]; rfl
end
section
variable {W:Wl} {d:Nat} {env:Env} {η:En} {σ:List AO}
theorem Bm (O:W.Ok) {A:Around} {s:Shared} {ρ:List Addr} {x:Str} {T:String} {p pos:Pos} {args:List Expr} {B:Value→Shared→Prop} {Q:List AV→List AO→Prop} (hx:yi η x (.cst (.type T))) (hu:args.all aK=true)
 (hr:Rm d A) (R:aL W ρ σ s.heap) (F:cT W env η ρ s.heap) (h:mX W d env pos args η σ Q)
 (k:∀ ws h₁ tk₁ δ af as,aH ρ s.heap h₁→(∀ a∈δ,s.heap.objs.size≤a)→aL W (ρ++δ) af h₁→bh W.hid (ρ++δ) h₁ as ws→Q as af→wpAny W.M A (call (.type T) ws) B nD { s with heap:=h₁,toks:=tk₁ }) :
 wpAny W.M A (eval (.Call (.Name x p) args [] pos) env) B nD s:=by
 show wpAny _ _ (do callWith pos (← eval (.Name x p) env) [] (backTo pos (starEach args env)) []) _ _ _
 refine wpAny_bind (wpAny_Name (cW O hx R F λ w z=>?_) (hx.CX F))
 refine VR.aX z ?_
 refine callWith_of (P:=λ _=>True) (by rw [noStar hu]; rfl) (λ h _=>⟨.machine,.inr (.inl rfl),Looks.of_pure rfl⟩) ?_
 refine lA hu (aM (h A s ρ hr R F) λ ws h₁ tk₁ δ af p tW R₁ ⟨as,vs,q⟩=>⟨trivial,?_⟩)
 exact k ws h₁ tk₁ δ af as p tW R₁ vs q
theorem mX.one {pos:Pos} {e:Expr} {Q:AV→List AO→Prop} (hu:aK e=true) (h:aT W d env e η σ Q):mX W d env pos [e] η σ λ as af=>∃ a,as=[a]∧Q a af :=
 mX.cons (h.mono λ v σ' q=>mX.nil ⟨v,rfl,q⟩) hu
theorem cT.keepsBut {ρ S:List Addr} {h h':Heap} (F:cT W env η ρ h) (P:aH S h h') (M:cE W.hid h S) (hS:∀ a∈S,a∉addrs env):cT W env η ρ h':=by
 have no:∀ a∈addrs env,a∉S:=λ a ha m=>hS a m ha
 refine ⟨F.ok,F.out,λ a ha=>Nat.lt_of_lt_of_le (F.lt a ha) P.size,F.A3,λ a ha=>?_,?_,λ x v hv=>?_,F.we⟩
 · obtain ⟨o,e,q⟩:=F.Bd a ha
   exact ⟨o,P.keep _ _ e (no a ha),q⟩
 · obtain ⟨m,⟨o,es,ep,ho,r⟩,hv⟩:=F.locs
   refine ⟨m,⟨o,es,ep,P.keep _ _ ho (no _ (.head _)),r⟩,λ x v q=>?_⟩
   obtain ⟨w,e,z⟩:=hv x v q
   exact ⟨w,e,z.one M P⟩
 · obtain ⟨c,w,e1,⟨o,ho,hd⟩,e3⟩:=F.cells x v hv
   have hc:c∈addrs env:=List.mem_cons_of_mem _ (List.mem_map.mpr ⟨(x,c),mem_of_lookup e1,rfl⟩)
   refine ⟨c,w,e1,⟨o,P.keep _ _ ho (no _ hc),hd⟩,λ a ha=>?_⟩
   obtain ⟨w',q,z⟩:=e3 a ha
   exact ⟨w',q,z.one M P⟩
end
noncomputable def aQ:List (Str×NameKind)→List (Str×Addr)→List (Str×Addr)→List (Str×Addr)
 | [],_,acc=>acc
 | (x,k) :: r,cells,acc=>if k==.free then (match cells.lookup x with
  | some a=>aQ r cells ((x,a) :: acc)
  | none=>aQ r cells acc) else aQ r cells acc
theorem tG {scope:Scope} {env:Env} (h:∀ x,(x,NameKind.free)∈scope.names→∃ a,env.cells.lookup x=some a):closureFor scope env=pure (aQ scope.names env.cells []):=by
 have key:∀ (names:List (Str×NameKind)) (acc:List (Str×Addr)),(∀ x,(x,NameKind.free)∈names→∃ a,env.cells.lookup x=some a) →
  (forIn names acc λ (p:Str×NameKind) (cs:List (Str×Addr))=>if p.2==.free then do let a ← cellOf env p.1; pure (ForInStep.yield ((p.1,a) :: cs)) else pure (ForInStep.yield cs))=(pure (aQ names env.cells acc):Sem (List (Str×Addr))):=by
  intro names
  induction names with
  | nil=>intro acc _; rfl
  | cons p r ih =>
   intro acc h
   obtain ⟨x,k⟩:=p
   have hr:=λ acc=>ih acc λ y m=>h y (.tail _ m)
   rw [List.forIn_cons]
   cases hk:(k==NameKind.free) with
   | true =>
    have:=beq_iff_eq.mp hk; subst this
    obtain ⟨a,ha⟩:=h x (.head _)
    rw [if_pos (by rfl),show cellOf env x=pure a by unfold cellOf; rw [ha]]
    have e:aQ ((x,NameKind.free) :: r) env.cells acc=aQ r env.cells ((x,a) :: acc):=(if_pos (by rfl)).trans (by rw [ha])
    rw [e]
    exact hr _
   | false =>
    have n:¬ (k==NameKind.free)=true:=by rw [hk]; exact Bool.false_ne_true
    have e:aQ ((x,k) :: r) env.cells acc=aQ r env.cells acc:=if_neg n
    rw [e,if_neg Bool.false_ne_true]
    exact hr _
 exact (congrArg (λ t:Sem (List (Str×Addr))=>t >>= λ cs=>pure cs) (key scope.names [] h)).trans rfl
set_option tactic.hygienic true in
theorem oJ {cells:List (Str×Addr)}:∀ {names:List (Str×NameKind)} {acc:List (Str×Addr)} {p:Str×Addr},p∈aQ names cells acc→p∈acc∨(cells.lookup p.1=some p.2∧(p.1,NameKind.free)∈names)
 | [],_,_,m=>.inl m
 | (x,k) :: r,acc,p,m=>by
  unfold aQ at m
  cases hk:(k==NameKind.free) with
  | true =>
   have:=beq_iff_eq.mp hk; subst this
   rw [if_pos hk] at m
   split at m
   · rename_i a e
     rcases oJ m with m | ⟨a,b⟩
     · rcases List.mem_cons.mp m with q | m
       · subst q; exact .inr ⟨e,.head _⟩
       · exact .inl m
     · exact .inr ⟨a,.tail _ b⟩
   · rcases oJ m with m | ⟨a,b⟩
     · exact .inl m
     · exact .inr ⟨a,.tail _ b⟩
  | false =>
   rw [if_neg (by rw [hk]; exact Bool.false_ne_true)] at m
   rcases oJ m with m | ⟨a,b⟩
   · exact .inl m
   · exact .inr ⟨a,.tail _ b⟩
theorem o7 {cells:List (Str×Addr)}:∀ {names:List (Str×NameKind)} {acc:List (Str×Addr)} {p:Str×Addr},p∈acc→p∈aQ names cells acc
 | [],_,_,m=>m
 | (x,k) :: r,acc,p,m=>by
  unfold aQ
  split
  · split
    · exact o7 (.tail _ m)
    · exact o7 m
  · exact o7 m
theorem qI {cells:List (Str×Addr)} {x:Str} {a:Addr} (e:cells.lookup x=some a):∀ {names:List (Str×NameKind)} {acc:List (Str×Addr)},(x,NameKind.free)∈names→(x,a)∈aQ names cells acc
 | (y,k) :: r,acc,m=>by
  unfold aQ
  rcases List.mem_cons.mp m with q | m
  · cases q
    rw [if_pos (by rfl),e]
    exact o7 (.head _)
  · split
    · split
      · exact qI e m
      · exact qI e m
    · exact qI e m
theorem nu {cells:List (Str×Addr)}:∀ {names:List (Str×NameKind)} {acc:List (Str×Addr)},(names.map (·.1)).Nodup→(acc.map (·.1)).Nodup→(∀ x∈acc.map (·.1),x∉names.map (·.1))→((aQ names cells acc).map (·.1)).Nodup
 | [],_,_,h,_=>h
 | (x,k) :: r,acc,hn,ha,hd=>by
  rw [List.map_cons,List.nodup_cons] at hn
  have tl:∀ y∈acc.map (·.1),y∉r.map (·.1):=λ y hy m=>hd y hy (.tail _ m)
  unfold aQ
  split
  · split
    · refine nu hn.2 ?_ ?_
      · rw [List.map_cons,List.nodup_cons]; exact ⟨λ m=>hd x m (.head _),ha⟩
      · intro y hy
        rcases List.mem_cons.mp hy with e | hy
        · rw [e]; exact hn.1
        · exact tl y hy
    · exact nu hn.2 ha tl
  · exact nu hn.2 ha tl
theorem Ep {l:List (Str×Addr)} (h:l.Pairwise λ x y=>x.2≠y.2) {x y:Str} {a:Addr} (hx:(x,a)∈l) (hy:(y,a)∈l):x=y:=by
 induction h with
 | nil=>cases hx
 | @cons p l hp _ ih =>
  rcases List.mem_cons.mp hx with e | hx
  · rcases List.mem_cons.mp hy with e' | hy
    · have:=e.trans e'.symm
      cases this; rfl
    · exact (hp (y,a) hy (congrArg Prod.snd e).symm).elim
  · rcases List.mem_cons.mp hy with e' | hy
    · exact (hp (x,a) hx (congrArg Prod.snd e').symm).elim
    · exact ih hx hy
theorem Ar {l:List (Str×Addr)} (nd:(l.map (·.1)).Nodup) (h:∀ x y a,(x,a)∈l→(y,a)∈l→x=y):l.Pairwise λ x y=>x.2≠y.2:=by
 induction l with
 | nil=>exact .nil
 | cons p l ih =>
  rw [List.map_cons,List.nodup_cons] at nd
  refine .cons (λ q hq e=>?_) (ih nd.2 λ x y a h1 h2=>h x y a (.tail _ h1) (.tail _ h2))
  have:p.1=q.1:=h p.1 q.1 p.2 (.head _) (by rw [e]; exact .tail _ hq)
  exact nd.1 (List.mem_map.mpr ⟨q,hq,this.symm⟩)
noncomputable def Qq:NK→Bool
 | .xy=>true
 | _=>false
noncomputable def Er (η:En) (x:Str):Bool:=η.any λ e=>e.1==x&&Qq e.2.1
noncomputable def Tn (η:En) (x:Str):NameKind→Bool
 | .local=>true
 | .globalImplicit=>true
 | .free=>Er η x
 | _=>false
noncomputable def cD (scope:Scope) (η:En):Bool:=(scope.kind==.function)&&decide (scope.names.map (·.1)).Nodup&&scope.names.all λ p=>(p.1 != "__debug__")&&Tn η p.1 p.2
noncomputable def kr (W:Wl) (names:List (Str×NameKind)) (η:En):En:=names.map λ p=>match p.2 with
 | .local=>(p.1,.loc,none)
 | .free=>(p.1,.xy,bW η p.1)
 | _=>(p.1,.F0,(Ai W p.1).map .cst)
theorem vR {x:Str}:∀ {η:En},(η.map (·.1)).Nodup→Er η x=true→(x,.xy,bW η x)∈η
 | (y,k,o) :: r,nd,h=>by
  rw [List.map_cons,List.nodup_cons] at nd
  unfold Er at h
  rw [List.any_cons,Bool.or_eq_true] at h
  unfold bW
  cases hy:y==x with
  | true =>
   have:=beq_iff_eq.mp hy; subst this
   rw [if_pos rfl]
   rcases h with h | h
   · cases k<;>first | exact .head _ | exact cV (Bool.and_eq_true_iff.mp h).2
   · rw [List.any_eq_true] at h
     obtain ⟨e,he,q⟩:=h
     rw [Bool.and_eq_true,beq_iff_eq] at q
     exact absurd (List.mem_map.mpr ⟨e,he,q.1⟩) nd.1
  | false =>
   rw [if_neg (by simp)]
   rcases h with h | h
   · simp [hy] at h
   · exact .tail _ (vR nd.2 h)
section
variable {W:Wl} {d:Nat} {env:Env} {η:En} {σ:List AO}
theorem lB {names:List (Str×NameKind)} {x:Str} {k:NK} {v:Option AV} (m:(x,k,v)∈kr W names η):∃ nk,(x,nk)∈names∧(k,v)=(match nk with
 | .local=>(.loc,none)
 | .free=>(.xy,bW η x)
 | _=>(.F0,(Ai W x).map .cst)):=by
 unfold kr at m
 obtain ⟨⟨y,nk⟩,hm,e⟩:=List.mem_map.mp m
 cases nk<;>(cases e; exact ⟨_,hm,rfl⟩)
theorem yp {names:List (Str×NameKind)}:(kr W names η).map (·.1)=names.map (·.1):=by
 unfold kr
 rw [List.map_map]
 apply List.map_congr_left
 intro p hp
 obtain ⟨x,k⟩:=p
 cases k<;>rfl
theorem Up.wk {x:Str} {a:AV} {η η':En} (U:Up η x a η'):(x,NK.loc,none)∈η→(η.map (·.1)).Nodup→Wk η η':=by
 induction U with
 | @loc x v o η =>
  intro m nd
  rcases List.mem_cons.mp m with e | m
  · cases e; exact .drop (.refl _)
  · exact absurd (List.mem_map.mpr ⟨_,m,rfl⟩) (List.nodup_cons.mp nd).1
 | @xy x v o η =>
  intro m nd
  rcases List.mem_cons.mp m with e | m
  · cases e
  · exact absurd (List.mem_map.mpr ⟨_,m,rfl⟩) (List.nodup_cons.mp nd).1
 | @tl x v y η η' U ih =>
  intro m nd
  rw [List.map_cons,List.nodup_cons] at nd
  rcases List.mem_cons.mp m with e | m
  · subst e
    obtain ⟨k,o,_,b,_⟩:=U.old
    exact absurd (List.mem_map.mpr ⟨_,b,rfl⟩) nd.1
  · exact .keep (ih m nd.2)
theorem Bo (O:W.Ok) {scope:Scope} {C:Addr} {ρ:List Addr} {h:Heap} (hf:cD scope η=true) (F:cT W env η ρ h) (hC:h.Ns C λ _=>none) (hb:W.hb.get? C=none) (ho:C∉ρ) (he:C∉addrs env) :
 closureFor scope env=pure (aQ scope.names env.cells [])∧cT W (compEnvC scope (aQ scope.names env.cells []) C env) (kr W scope.names η) ρ h:=by
 unfold cD at hf
 simp only [Bool.and_eq_true,beq_iff_eq,List.all_eq_true,bne_iff_ne] at hf
 obtain ⟨⟨hk,hnd⟩,hall⟩:=hf
 have hnd:=of_decide_eq_true hnd
 have hfree:∀ x,(x,NameKind.free)∈scope.names→(x,NK.xy,bW η x)∈η:=λ x m=>vR F.ok.nd (hall _ m).2
 have hcell:∀ x,(x,NameKind.free)∈scope.names→∃ a,env.cells.lookup x=some a:=λ x m=>let ⟨c,w,e,_⟩:=F.cells x _ (hfree x m); ⟨c,e⟩
 have hcl:=tG hcell
 refine ⟨hcl,?_⟩
 have sub:∀ p∈aQ scope.names env.cells [],p∈env.cells:=λ p m=>by
  rcases oJ m with m | ⟨a,_⟩
  · cases m
  · exact mem_of_lookup a
 have Pg:∀ a∈addrs (compEnvC scope (aQ scope.names env.cells []) C env),a=C∨a∈addrs env:=λ a m=>by
  rcases List.mem_cons.mp m with e | m
  · exact .inl e
  · obtain ⟨p,hp,rfl⟩:=List.mem_map.mp m
    exact .inr (List.mem_cons_of_mem _ (List.mem_map.mpr ⟨p,sub p hp,rfl⟩))
 have Nf:((aQ scope.names env.cells []).map (·.1)).Nodup:=nu hnd List.nodup_nil (λ _ h=>nomatch h)
 have kd:∀ x nk,(x,nk)∈scope.names→(compEnvC scope (aQ scope.names env.cells []) C env).kindOf x=some (if nk=.free then .cell else nk):=λ x nk m=>by
  refine bJ ?_ ?_
  · show (((relabel scope env).names).map (·.1)).Nodup
    unfold relabel
    rw [List.map_map]
    have:scope.names.map ((λ x:Str×NameKind=>x.1) ∘ λ (n,k)=>if (k==.free&&env.scope.kind==.function&&env.kindOf n==some .cell) then (n,.cell) else (n,k))=scope.names.map (·.1):=by
     apply List.map_congr_left
     intro p _
     show (if _ then _ else _:Str×NameKind).1=_
     split<;>rfl
    rw [this]; exact hnd
  · show _∈(relabel scope env).names
    unfold relabel
    refine List.mem_map.mpr ⟨(x,nk),m,?_⟩
    dsimp only
    by_cases hn:nk=.free
    · subst hn
      have:=F.ok.kinds _ _ _ (hfree x m)
      rw [if_pos (by rw [this,F.ok.kind]; rfl),if_pos rfl]
    · rw [if_neg (by simp [hn]),if_neg hn]
 refine ⟨⟨hk,F.ok.glob,F.ok.blt,by rw [yp]; exact hnd,λ x k v m=>?_,λ x k v m=>?_,?_,λ c hc e=>?_⟩,λ a ha=>?_,λ a ha=>?_,λ a ha=>?_,λ a ha=>?_,⟨_,hC,λ x v m=>?_⟩,λ x v m=>?_,λ x v m=>?_⟩
 · obtain ⟨nk,hm,e⟩:=lB m
   have:=(hall _ hm).2
   rw [kd x nk hm]
   cases nk<;>first | (cases e; rfl) | exact cV this
 · obtain ⟨nk,hm,e⟩:=lB m
   have:=(hall _ hm).1
   simpa using this
 · exact Ar Nf λ x y a h1 h2=>Ep F.ok.xD (sub _ h1) (sub _ h2)
 · refine he (List.mem_cons_of_mem _ (List.mem_map.mpr ⟨c,sub c hc,e⟩))
 · rcases Pg a ha with rfl | ha
   · exact ho
   · exact F.out a ha
 · rcases Pg a ha with rfl | ha
   · exact hC.lt
   · exact F.lt a ha
 · rcases Pg a ha with rfl | ha
   · exact hb
   · exact F.A3 a ha
 · rcases Pg a ha with rfl | ha
   · exact pq hC
   · exact F.Bd a ha
 · obtain ⟨nk,hm,e⟩:=lB m
   have:=(hall _ hm).2
   cases nk<;>first | (cases e; done) | fail
 · obtain ⟨nk,hm,e⟩:=lB m
   have:=(hall _ hm).2
   cases nk<;>first | ((first | exact cV this | cases this); done) | (cases e; done) | skip
   obtain ⟨c,w,e1,e2,e3⟩:=F.cells x _ (hfree x hm)
   cases e
   exact ⟨c,w,bJ Nf (qI e1 hm),e2,e3⟩
 · obtain ⟨nk,hm,e⟩:=lB m
   have:=(hall _ hm).2
   cases nk<;>first | ((first | exact cV this | cases this); done) | (cases e; done) | skip
   cases q:Ai W x with
   | none=>rw [q] at e; cases e
   | some w=>rw [q] at e; cases e; exact ⟨w,rfl,Cj O q⟩
end
section
variable {W:Wl} {d:Nat} {env:Env} {η:En} {σ:List AO}
theorem C7 {x:Str} {v:AV} {w:Value} {η':En} {A:Around} {s:Shared} {ρ:List Addr} {B:Unit→Shared→Prop} {E:Value→Shared→Prop} (U:Up η x v η') (hl:(x,NK.loc,none)∈η) (R:aL W ρ σ s.heap) (F:cT W env η ρ s.heap) (hv:VR W.hid ρ s.heap v w)
 (k:∀ h' tk,cT W env η' ρ h'→aL W ρ σ h'→aH [env.locals] s.heap h'→cE W.hid s.heap [env.locals]→B () { s with heap:=h',toks:=tk }):wpAny W.M A (storeName env x w) B E s:=by
 have hkind:=F.ok.kinds _ _ _ hl
 have hok:Eb env η':=⟨F.ok.kind,F.ok.glob,F.ok.blt,by rw [U.names]; exact F.ok.nd,λ y k' u hm=>by
  rcases U.mem F.ok.nd y k' u hm with ⟨_,_,o',c⟩ | ⟨_,c⟩<;>exact F.ok.kinds _ _ _ c,λ y k' u hm=>by
  rcases U.mem F.ok.nd y k' u hm with ⟨_,_,o',c⟩ | ⟨_,c⟩<;>exact F.ok.CX _ _ _ c,F.ok.xD,F.ok.Aa⟩
 obtain ⟨mm,hn,hm⟩:=F.locs
 refine wpAny_storeName_local hkind hn (λ h' hn' hs=>?_) (by rw [F.ok.kind]; rfl)
 have P:=kh hs
 have Mt:cE W.hid s.heap [env.locals]:=λ a ha=>by rw [List.mem_singleton.mp ha]; exact pq hn
 have R':aL W ρ σ h':=R.keepsBut P Mt λ a ha=>by rw [List.mem_singleton.mp ha]; exact ⟨F.out _ (.head _),F.A3 _ (.head _)⟩
 have mono:∀ {a:AV} {z:Value},VR W.hid ρ s.heap a z→VR W.hid ρ h' a z:=λ q=>by have:=q.mono (δ:=[]) Mt P; rwa [List.append_nil] at this
 have F':cT W env η' ρ h':=by
  refine ⟨hok,F.out,λ a ha=>Nat.lt_of_lt_of_le (F.lt a ha) P.size,F.A3,λ a ha=>?_,⟨_,hn',λ y u hy=>?_⟩,λ y u hy=>?_,λ y u hy=>?_⟩
  · by_cases q:a=env.locals
    · rw [q]; exact pq hn'
    · obtain ⟨o,e,z⟩:=F.Bd a ha; exact ⟨o,(hs.2 a q).trans e,z⟩
  · rcases U.mem F.ok.nd y _ _ hy with ⟨rfl,e,_⟩ | ⟨hne,c⟩
    · cases e; exact ⟨w,by simp,mono hv⟩
    · obtain ⟨z,e1,e2⟩:=hm y u c
      exact ⟨z,by simp [hne,e1],mono e2⟩
  · rcases U.mem F.ok.nd y _ _ hy with ⟨rfl,e,o',c⟩ | ⟨hne,c⟩
    · have:=F.ok.kinds _ _ _ c; rw [hkind] at this; cases this
    · obtain ⟨c',z,e1,e2,e3⟩:=F.cells y u c
      have hcl:c'≠env.locals:=F.ok.Aa (y,c') (mem_of_lookup e1)
      exact ⟨c',z,e1,e2.sameBut hs hcl,λ a ha=>let ⟨w',q1,q2⟩:=e3 a ha; ⟨w',q1,mono q2⟩⟩
  · rcases U.mem F.ok.nd y _ _ hy with ⟨rfl,_,o',c⟩ | ⟨_,c⟩
    · have:=F.ok.kinds _ _ _ c
      rw [hkind] at this; cases this
    · exact F.we y u c
 exact k h' _ F' R' P Mt
def Kl (W:Wl) (d:Nat) (env:Env) (ifs:List Expr) (η:En) (σ:List AO) (Q:Bool→List AO→Prop):Prop:=match ifs with
 | []=>Q true σ
 | c :: r=>match r with
  | []=>bY W d env c η σ Q
  | _ :: _=>False
def vF (j n:Nat) (k:iL) (Inv:Nat→Nat→iL→List AO→Prop) (σ:List AO):Prop:=∃ m,m<n∧Inv j m k σ
noncomputable def Es (W:Wl) (d:Nat) (cenv:Env) (ηi:En) (x:Str) (ifs:List Expr) (elt:Expr) (Inv:Nat→Nat→iL→List AO→Prop) (j n:Nat) (σ:List AO) (Fin:Prop):Option (Option (AV×iL))→Prop
 | none=>False
 | some none=>Fin
 | some (some (a,k'))=>∃ As,Up ηi x a As∧Kl W d cenv ifs As σ λ b az=>if b=true then aT W d cenv elt As az λ v aY=>∃ xs,aY[j]? = some (.lst xs)∧xs.length≤1000000∧vF j n k' Inv (aY.set j (.lst (xs++[v]))) else vF j n k' Inv az
theorem Km {ifs:List Expr} {A:Around} {s:Shared} {ρ:List Addr} {Q:Bool→List AO→Prop} {B:Bool→Shared→Prop} {E:Value→Shared→Prop} (h:Kl W d env ifs η σ Q) (hr:Rm d A) (R:aL W ρ σ s.heap) (F:cT W env η ρ s.heap)
 (k:∀ v h₁ tk₁ δ af,aH ρ s.heap h₁→(∀ a∈δ,s.heap.objs.size≤a)→aL W (ρ++δ) af h₁→Q v af→B v { s with heap:=h₁,toks:=tk₁ }) :
 wpAny W.M A (forIn ifs true λ c r=>if r=true then do let ok ← isTrue c env (eval c env); pure (ForInStep.yield ok) else pure (ForInStep.yield r)) B E s:=by
 cases ifs with
 | nil=>exact wpAny_tests_nil (k true s.heap s.toks [] σ (.refl _ _) (λ _ h=>nomatch h) (by rw [List.append_nil]; exact R) h)
 | cons c r=>cases r with
  | nil=>exact wpAny_tests_one (aM (Q₁:=λ b _ σ' _=>Q b σ') (h A s ρ hr R F) λ v h₁ tk₁ δ af p f R₁ q=>k v h₁ tk₁ δ af p f R₁ q)
  | cons=>exact h.elim
inductive Et (W:Wl) (env cenv:Env) (η ηi:En) (I D:Addr) (j:Nat) (P:iL→List AO→Prop) (ρ:List Addr) (σ:List AO) (h:Heap):Prop
 | mk (k:iL) (F:cT W env η ρ h) (F':cT W cenv ηi ρ h) (r:vB W.hid ρ h k I) (e:ρ[j]? = some D) (q:P k σ):Et W env cenv η ηi I D j P ρ σ h
theorem C8 {elt iter:Expr} {x:Str} {px:Pos} {ifs:List Expr} {scope:Scope} {pos:Pos} {I D:Addr} {j:Nat} {cenv:Env} {ηi:En} {Inv:Nat→Nat→iL→List AO→Prop} {Fin:Nat→List AO→Prop}
 (hx:(x,NK.loc,none)∈ηi) {A:Around} {s:Shared} {ρ:List Addr} (hr:Rm d A) (Ph:I∉addrs env) (Pj:I∉addrs cenv) (Ng:W.hb.get? I=none) (Pk:cenv.locals∉addrs env) (hsub:∀ a∈addrs cenv,a=cenv.locals∨a∈addrs env)
 (turn:∀ n k σ,Inv j n k σ→Es W d cenv ηi x ifs elt Inv j n σ (Fin j σ) (k.next σ))
 {RR:Result→Shared→Prop} (n:Nat) (h0:Post W [I,cenv.locals] ρ s (Et W env cenv η ηi I D j (Inv j n)) s)
 (hend:∀ s',Post W [I,cenv.locals] ρ s (λ ρ' σ' h'=>cT W env η ρ' h'∧cT W cenv ηi ρ' h'∧ρ'[j]? = some D∧Fin j σ') s'→RR (.ok .next) s') :
 codeAny W.M A (.compLoop (.ListComp elt [⟨.Name x px,iter,ifs,0⟩] scope pos) 0 (.ref I) (.ref D) cenv) RR s:=by
 refine codeAny_compLoop_tests (λ n s'=>Post W [I,cenv.locals] ρ s (Et W env cenv η ηi I D j (Inv j n)) s') ?_ n h0
 intro n q7 ⟨cz,c9,δ₃,az,wG,cA,f₃,R₃,k,Fe,Fc,ir,hD,inv⟩
 subst wG
 have T:=turn n k az inv
 cases hn:k.next az with
 | none=>rw [hn] at T; exact T.elim
 | some r =>
  rw [hn] at T
  refine pA (Ci hr R₃ ir hn) λ v zR ⟨dh,qw,LG,p₄,q₄⟩=>?_
  subst LG
  have J6:=ir.oF R₃
  have R₄:aL W (ρ++δ₃) az dh:=R₃.keepsBut p₄ ir.tQ λ a ha=>by rw [List.mem_singleton.mp ha]; exact ⟨J6,Ng⟩
  have Iz:=Fe.keepsBut p₄ ir.tQ λ a ha=>by rw [List.mem_singleton.mp ha]; exact Ph
  have IA:=Fc.keepsBut p₄ ir.tQ λ a ha=>by rw [List.mem_singleton.mp ha]; exact Pj
  have P₄:aH ([I,cenv.locals]++ρ) s.heap dh:=by
   refine ⟨Nat.le_trans cA.size p₄.size,λ b o e hb=>p₄.keep b o (cA.keep b o e hb) λ m=>?_⟩
   rw [List.mem_singleton.mp m] at hb
   exact hb (.head _)
  cases r with
  | none =>
   subst q₄
   exact hend _ (Post.chain P₄ f₃ (Post.here (s:={ s with heap:=dh,toks:=qw }) R₄ ⟨Iz,IA,hD,T⟩ qw))
  | some xk =>
   obtain ⟨a,k'⟩:=xk
   obtain ⟨v,rfl,va,MY⟩:=q₄
   obtain ⟨As,U,T⟩:=T
   refine PyProof.Rows.assign_Name (C7 U hx R₄ IA va λ zS A0 IB R₅ p₅ M₅=>?_)
   have hIC:I≠cenv.locals:=λ e=>Pj (by rw [e]; exact .head _)
   have Nh:=Iz.keepsBut p₅ M₅ λ a ha=>by rw [List.mem_singleton.mp ha]; exact Pk
   have Ah:vB W.hid (ρ++δ₃) zS k' I:=by
    have:=MY.mono (δ:=[]) M₅ p₅ (λ m=>hIC (List.mem_singleton.mp m))
    rwa [List.append_nil] at this
   have wk:=U.wk hx Fc.ok.nd
   have P₅:aH ([I,cenv.locals]++ρ) s.heap zS:=by
    refine ⟨Nat.le_trans P₄.size p₅.size,λ b o e hb=>p₅.keep b o (P₄.keep b o e hb) λ m=>?_⟩
    rw [List.mem_singleton.mp m] at hb
    exact hb (.tail _ (.head _))
   have weak:∀ {ρ':List Addr} {h':Heap},aH ρ' h' h'→aH ([I,cenv.locals]++ρ') h' h':=λ _=>.refl _ _
   refine Km (s:={ s with heap:=zS,toks:=A0 }) T hr R₅ IB λ b yg xH δ₆ σ₆ p₆ f₆ R₆ q₆=>?_
   have Ew:=IB.mono R₅.muts p₆ f₆
   have IC:=Nh.mono R₅.muts p₆ f₆
   have yJ:vB W.hid ((ρ++δ₃)++δ₆) yg k' I:=Ah.mono R₅.muts p₆ (Ah.oF R₅)
   have Ex:((ρ++δ₃)++δ₆)[j]? = some D:=by rw [List.getElem?_append_left (List.getElem?_eq_some_iff.mp hD).1]; exact hD
   have ID:aH ([I,cenv.locals]++(ρ++δ₃)) zS yg:=p₆.weaken λ a ha=>List.mem_append_right _ ha
   cases b with
   | false =>
    obtain ⟨m,hm,inv⟩:=q₆
    exact ⟨m,hm,Post.chain P₅ f₃ (Post.chain (s:={ s with heap:=zS,toks:=A0 }) ID f₆ (Post.here (s:={ s with heap:=yg,toks:=xH }) R₆ ⟨k',IC,Ew.weak wk,yJ,Ex,inv⟩ xH))⟩
   | true =>
    refine aM (q₆ A _ _ hr R₆ Ew) λ y h₇ IE δ₇ σ₇ p₇ f₇ R₇ ⟨ay,vy,xs,ex,hl,m,hm,inv⟩=>?_
    have Ni:=Ew.mono R₆.muts p₇ f₇
    have Nj:=IC.mono R₆.muts p₇ f₇
    have IF:vB W.hid (((ρ++δ₃)++δ₆)++δ₇) h₇ k' I:=yJ.mono R₆.muts p₇ (yJ.oF R₆)
    have Ey:(((ρ++δ₃)++δ₆)++δ₇)[j]? = some D:=by rw [List.getElem?_append_left (List.getElem?_eq_some_iff.mp Ex).1]; exact Ex
    have Nk:aH ([I,cenv.locals]++((ρ++δ₃)++δ₆)) yg h₇:=p₇.weaken λ a ha=>List.mem_append_right _ ha
    refine aM (Q₁:=λ _ _ σ' _=>vF j n k' Inv σ') (wpAny_mono ((ao.append ex hl (Q:=λ _ σ'=>vF j n k' Inv σ') ⟨m,hm,inv⟩) A { s with heap:=h₇,toks:=IE } _ _ _ hr R₇ (.cst _) (.cons (.lst Ey) (.cons vy .nil))) (λ _ _ z=>z.mono λ _ _ _ ⟨_,_,q⟩=>q) λ _ _ x=>x) λ _ h₈ IG δ₈ σ₈ p₈ f₈ R₈ ⟨m,hm,inv⟩=>?_
    have Nl:=Ni.mono R₇.muts p₈ f₈
    have Nm:=Nj.mono R₇.muts p₈ f₈
    have Nn:vB W.hid ((((ρ++δ₃)++δ₆)++δ₇)++δ₈) h₈ k' I:=IF.mono R₇.muts p₈ (IF.oF R₇)
    have Np:((((ρ++δ₃)++δ₆)++δ₇)++δ₈)[j]? = some D:=by rw [List.getElem?_append_left (List.getElem?_eq_some_iff.mp Ey).1]; exact Ey
    have Nq:aH ([I,cenv.locals]++(((ρ++δ₃)++δ₆)++δ₇)) h₇ h₈:=p₈.weaken λ a ha=>List.mem_append_right _ ha
    exact ⟨m,hm,Post.chain P₅ f₃ (Post.chain (s:={ s with heap:=zS,toks:=A0 }) ID f₆ (Post.chain (s:={ s with heap:=yg,toks:=xH }) Nk f₇ (Post.chain (s:={ s with heap:=h₇,toks:=IE }) Nq f₈
     (Post.here (s:={ s with heap:=h₈,toks:=IG }) R₈ ⟨k',Nm,Nl.weak wk,Nn,Np,inv⟩ IG))))⟩
theorem Post.new {S ρ δ:List Addr} {s:Shared} {h₁:Heap} {tk₁:Nat} {Q:List Addr→List AO→Heap→Prop} {c7:Shared} (p:aH ρ s.heap h₁) (f:∀ a∈δ,s.heap.objs.size≤a) (hS:∀ a∈S,s.heap.objs.size≤a)
 (P:Post W S (ρ++δ) { s with heap:=h₁,toks:=tk₁ } Q c7):Post W [] ρ s Q c7:=by
 obtain ⟨aF,aJ,δ₂,ai,e,aN,aR,R₂,q⟩:=P
 refine ⟨aF,aJ,δ++δ₂,ai,e,⟨Nat.le_trans p.size aN.size,λ b o eb n=>aN.keep b o (p.keep b o eb n) λ m=>?_⟩,λ a ha=>?_,by rw [← List.append_assoc]; exact R₂,by rw [← List.append_assoc]; exact q⟩
 · have lt:=Heap.lt_size eb
   rcases List.mem_append.mp m with m | m
   · exact absurd lt (Nat.not_lt.mpr (hS b m))
   · rcases List.mem_append.mp m with m | m
     · exact n m
     · exact absurd lt (Nat.not_lt.mpr (f b m))
 · rcases List.mem_append.mp ha with ha | ha
   · exact f a ha
   · exact Nat.le_trans p.size (aR a ha)
inductive Ez (W:Wl) (env:Env) (η:En) (D C:Addr) (j:Nat) (Fin:Nat→List AO→Prop) (ρ:List Addr) (σ:List AO) (h:Heap):Prop
 | mk (F:cT W env η ρ h) (e:ρ[j]? = some D) (hC:C∉ρ) (hb:W.hb.get? C=none) (ha:C∉addrs env) (hn:∃ m,h.Ns C m) (q:Fin j σ):Ez W env η D C j Fin ρ σ h
theorem zm {scope:Scope} {ρ:List Addr} {h:Heap} (hf:cD scope η=true) (F:cT W env η ρ h):closureFor scope env=pure (aQ scope.names env.cells []):=by
 unfold cD at hf
 simp only [Bool.and_eq_true,beq_iff_eq,List.all_eq_true,bne_iff_ne] at hf
 exact tG λ x m=>let ⟨c,w,e,_⟩:=F.cells x _ (vR F.ok.nd (hf.2 _ m).2); ⟨c,e⟩
theorem vB.again {X ρ:List Addr} {k:iL} {I:Addr} {A:Around} {s:Shared} {Q:Value→Shared→Prop} {E:Value→Shared→Prop} (x:vB X ρ s.heap k I) (hk:∀ n l,k≠.tP n l) (q:Q (.ref I) s):wpAny W.M A (pyIter (.ref I)) Q E s:=by
 cases k with
 | lst n i=>obtain ⟨a,_,y⟩:=x; exact wpAny_pyIter_listiter y q
 | tup vs=>obtain ⟨t,ws,i,_,y,_⟩:=x; exact wpAny_pyIter_tupleiter y q
 | tw a b c=>exact wpAny_pyIter_rangeiter x q
 | tP n l=>exact absurd rfl (hk n l)
theorem Bp (O:W.Ok) {elt iter:Expr} {x:Str} {px:Pos} {ifs:List Expr} {scope:Scope} {pos:Pos} {I:Addr} {k:iL} {Inv:Nat→Nat→iL→List AO→Prop} {Fin:Nat→List AO→Prop}
 (hf:cD scope η=true) (hx:scope.names.lookup x=some .local) {A:Around} {s:Shared} {ρ:List Addr} (hr:Rm d A) (R:aL W ρ σ s.heap) (F:cT W env η ρ s.heap) (ir:vB W.hid ρ s.heap k I) (hk:∀ n l,k≠.tP n l) (Ph:I∉addrs env) (Ng:W.hb.get? I=none)
 (n:Nat) (inv:Inv σ.length n k (σ++[.lst []]))
 (turn:∀ C n k σ',Inv σ.length n k σ'→Es W d (compEnvC scope (aQ scope.names env.cells []) C env) (kr W scope.names η) x ifs elt Inv σ.length n σ' (Fin σ.length σ') (k.next σ'))
 {E:Value→Shared→Prop} {RR:Value→Addr→Result→Shared→Prop}
 (hend:∀ D C s',s.heap.objs.size≤C→Post W [I,C] ρ s (Ez W env η D C σ.length Fin) s'→RR (.ref D) C (.ok .next) s') :
 wpAny W.M A (newList []) (λ acc q7=>wpAny W.M A (newFunctionEnv scope env.globals (aQ scope.names env.cells []) [] env.qual none .none (some env)) (λ cenv zR =>
  codeAny W.M A (.compStart (.ListComp elt [⟨.Name x px,iter,ifs,0⟩] scope pos) 0 (.ref I) acc { cenv with scope:=relabel scope env }) (RR acc cenv.locals) zR) E q7) E s:=by
 have hf':=hf
 unfold cD at hf'
 simp only [Bool.and_eq_true,beq_iff_eq,List.all_eq_true,bne_iff_ne] at hf'
 obtain ⟨⟨hk',hnd⟩,hall⟩:=hf'
 have hcell:∀ y∈scope.names,y.2≠.cell:=λ y hy e=>by
  have:=(hall y hy).2
  rw [e] at this; exact cV this
 have key:∀ H2 h₁:Heap,∀ tk,H2=s.heap.push { cls:=.type "list",dict:=none,data:=.seq ([]:List Value).toArray }→h₁.Ns H2.objs.size (λ x=>([]:List (Str×Value)).reverse.lookup x)→Heap.SameBut H2.objs.size (H2.push { cls:=.type "dict",data:=.dict #[] }) h₁ →
  codeAny W.M A (.compStart (.ListComp elt [⟨.Name x px,iter,ifs,0⟩] scope pos) 0 (.ref I) (.ref s.heap.objs.size) (compEnvC scope (aQ scope.names env.cells []) H2.objs.size env)) (RR (.ref s.heap.objs.size) H2.objs.size) { s with heap:=h₁,toks:=tk }:=by
  intro H2 h₁ tk eH hns RK
  obtain ⟨hh,tk',δ,σ',e,p,f,R₂,e1,e2,e3⟩:=qF (S:=[]) (Q:=λ ρ' σ' h'=>ρ'=ρ++[s.heap.objs.size]∧σ'=σ++[.lst []]∧h'=H2) R (.lst []) { cls:=.type "list",dict:=none,data:=.seq ([]:List Value).toArray } rfl ⟨[],0,rfl,.nil⟩ ⟨rfl,rfl,eH.symm⟩ tk
  rw [e1,e2,e3] at R₂
  rw [e3] at p
  have hδ:δ=[s.heap.objs.size]:=List.append_cancel_left e1
  subst hδ
  have o4:aH [] H2 h₁:=⟨by rw [RK.1,Heap.size_push]; exact Nat.le_succ _,λ b o eb _=>(RK.2 b (Nat.ne_of_lt (Heap.lt_size eb))).trans (Heap.get?_push_of_some _ eb)⟩
  have R₃:=R₂.keeps o4
  have P₀:aH ρ s.heap h₁:=⟨Nat.le_trans p.size o4.size,λ b o eb n=>o4.keep b o (p.keep b o eb n) (λ m=>nomatch m)⟩
  have F₃:cT W env η (ρ++[s.heap.objs.size]) h₁:=F.mono R.muts P₀ f
  have Kn:s.heap.objs.size<H2.objs.size:=by rw [eH,Heap.size_push]; exact Nat.lt_succ_self _
  have nb:∀ a,s.heap.objs.size≤a→W.hb.get? a=none:=λ a ha=>by
   cases q:W.hb.get? a with
   | none=>rfl
   | some o=>exact absurd (Heap.lt_size (R.base _ _ q)) (Nat.not_lt.mpr ha)
  have ho:H2.objs.size∉ρ++[s.heap.objs.size]:=λ m=>by
   obtain ⟨o,eo,_⟩:=R₂.muts _ m
   exact absurd (Heap.lt_size eo) (Nat.lt_irrefl _)
  have he:H2.objs.size∉addrs env:=λ m=>by
   have:=F.lt _ m
   exact absurd this (Nat.not_lt.mpr (Nat.le_of_lt Kn))
  obtain ⟨hcl,Fc⟩:=Bo O hf F₃ hns (nb _ (Nat.le_of_lt Kn)) ho he
  have hI:I<s.heap.objs.size:=by obtain ⟨o,T,vs,eo,_⟩:=ir.obj; exact Heap.lt_size eo
  have II:vB W.hid (ρ++[s.heap.objs.size]) h₁ k I:=ir.mono R.muts P₀ (ir.oF R)
  have sub:∀ a∈addrs (compEnvC scope (aQ scope.names env.cells []) H2.objs.size env),a=H2.objs.size∨a∈addrs env:=λ a m=>by
   rcases List.mem_cons.mp m with e | m
   · exact .inl e
   · obtain ⟨q,hq,rfl⟩:=List.mem_map.mp m
     rcases oJ hq with q' | ⟨a,_⟩
     · cases q'
     · exact .inr (List.mem_cons_of_mem _ (List.mem_map.mpr ⟨q,mem_of_lookup a,rfl⟩))
  have Pj:I∉addrs (compEnvC scope (aQ scope.names env.cells []) H2.objs.size env):=λ m=>by
   rcases sub I m with e | m
   · rw [e] at hI; exact absurd hI (Nat.not_lt.mpr (Nat.le_of_lt Kn))
   · exact Ph m
  have To:(x,NK.loc,none)∈kr W scope.names η:=List.mem_map.mpr ⟨(x,.local),mem_of_lookup hx,rfl⟩
  have hD:(ρ++[s.heap.objs.size])[σ.length]? = some s.heap.objs.size:=by
   rw [List.getElem?_append_right (by rw [R.len]; exact Nat.le_refl _),R.len,Nat.sub_self]; rfl
  have loop:codeAny W.M A (.compLoop (.ListComp elt [⟨.Name x px,iter,ifs,0⟩] scope pos) 0 (.ref I) (.ref s.heap.objs.size) (compEnvC scope (aQ scope.names env.cells []) H2.objs.size env)) (RR (.ref s.heap.objs.size) H2.objs.size) { s with heap:=h₁,toks:=tk }:=by
   refine C8 (Inv:=Inv) (Fin:=Fin) (j:=σ.length) To hr Ph Pj Ng he sub (turn _) n (Post.here (s:={ s with heap:=h₁,toks:=tk }) R₃ ⟨k,F₃,Fc,II,hD,inv⟩ tk) λ s' z=>?_
   refine hend _ _ s' (Nat.le_of_lt Kn) (Post.chain (P₀.weaken λ a ha=>List.mem_append_right _ ha) f (z.mono λ ρ' σ' h' ⟨a1,a2,a3,a4⟩=>⟨a1,a3,a2.out _ (.head _),a2.A3 _ (.head _),he,?_,a4⟩))
   obtain ⟨m,hm,_⟩:=a2.locs
   exact ⟨m,hm⟩
  exact codeAny_compStart_list loop (II.again hk loop)
 refine wpAny_newObj_type (wpAny_newFunctionEnv hcell (by intro y hy; simp at hy) (λ h₁ Ko Kp=>?_) hk')
 exact key _ h₁ _ rfl Ko Kp
end
section
variable {W:Wl} {d:Nat} {env:Env} {η:En} {σ:List AO}
theorem yq {scope:Scope} (hf:cD scope η=true):scope.kind=.function∧(∀ y∈scope.names,y.2=.local→scope.names.lookup y.1=some .local):=by
 unfold cD at hf
 simp only [Bool.and_eq_true,beq_iff_eq] at hf
 obtain ⟨⟨hk,hnd⟩,_⟩:=hf
 exact ⟨hk,λ y hy e=>by rw [← e]; exact bJ (of_decide_eq_true hnd) (by exact hy)⟩
def CompI (W:Wl) (d:Nat) (env:Env) (η:En) (elt:Expr) (x:Str) (ifs:List Expr) (scope:Scope) (Fin:Nat→List AO→Prop) (k:iL) (af:List AO):Prop :=
 (∀ n l,k≠.tP n l)∧∃ Inv:Nat→Nat→iL→List AO→Prop,(∃ n,Inv af.length n k (af++[.lst []])) ∧
  ∀ C n k σ',Inv af.length n k σ'→Es W d (compEnvC scope (aQ scope.names env.cells []) C env) (kr W scope.names η) x ifs elt Inv af.length n σ' (Fin af.length σ') (k.next σ')
theorem yP (O:W.Ok) {elt iter:Expr} {x:Str} {px:Pos} {ifs:List Expr} {scope:Scope} {pos:Pos} {Fin:Nat→List AO→Prop} (hf:cD scope η=true) (hx:scope.names.lookup x=some .local)
 (h:qG W d env iter η σ (CompI W d env η elt x ifs scope Fin)) (use:Option (Value→Sem Unit)) {Q:Value→Shared→Prop} {E:Value→Shared→Prop} {npos:Pos}
 (hs:∀ x,foldedSetIterable iter env x=pure x) {A:Around} {s:Shared} {ρ:List Addr} (hr:Rm d A) (R:aL W ρ σ s.heap) (F:cT W env η ρ s.heap)
 (hend:∀ D C j s',Post W [] ρ s (Ez W env η D C j Fin) s'→s.heap.objs.size≤C→compPost W.M A E use Q (.ref D) C (.ok .next) s') :
 wpAny W.M A (comprehension (.ListComp elt [⟨.Name x px,iter,ifs,0⟩] scope pos) scope env npos (newList []) false (eval iter env) use) Q E s:=by
 obtain ⟨hk,hn⟩:=yq hf
 refine wpAny_comprehension_free rfl hs (zm hf F) hk hn (pA (h A s ρ hr R F) λ x q6 h₁=>pA h₁ λ it c7 aF=>?_)
 obtain ⟨aF,aJ,δ₂,ai,oW,aN,aR,R₂,I,k,rfl,hI,ir,hk,Inv,⟨n,inv⟩,turn⟩:=aF
 subst oW
 have LM:I∉addrs env:=λ m=>absurd (F.lt I m) (Nat.not_lt.mpr hI)
 have Ng:W.hb.get? I=none:=by
  cases q:W.hb.get? I with
  | none=>rfl
  | some o=>exact absurd (Heap.lt_size (R.base _ _ q)) (Nat.not_lt.mpr hI)
 refine Bp O (s:={ s with heap:=aF,toks:=aJ }) hf hx hr R₂ (F.mono R.muts aN aR) ir hk LM Ng n inv turn λ D C s' hC P=>?_
 have Kn:s.heap.objs.size≤C:=Nat.le_trans aN.size hC
 refine hend D C ai.length s' (Post.new aN aR (S:=[I,C]) (λ a ha=>?_) P) Kn
 rcases List.mem_cons.mp ha with e | ha
 · rw [e]; exact hI
 · rw [List.mem_singleton.mp ha]; exact Kn
theorem Post.drop {S ρ:List Addr} {s s':Shared} {C:Addr} {h':Heap} {Q Q':List Addr→List AO→Heap→Prop} (P:Post W S ρ s Q s') (hC:s.heap.objs.size≤C) (hs:Heap.SameBut C s'.heap h') (hm:∃ m,s'.heap.Ns C m)
 (q:∀ ρ' σ',aH [C] s'.heap h'→cE W.hid s'.heap [C]→aL W ρ' σ' s'.heap→Q ρ' σ' s'.heap→(C∉ρ'∧W.hb.get? C=none)∧Q' ρ' σ' h'):Post W S ρ s Q' { s' with heap:=h' }:=by
 obtain ⟨h₁,tk₁,δ,af,rfl,p,f,R,z⟩:=P
 obtain ⟨m,hm⟩:=hm
 have o4:=kh hs
 have M:cE W.hid h₁ [C]:=λ a ha=>by rw [List.mem_singleton.mp ha]; exact pq hm
 obtain ⟨⟨n1,n2⟩,q⟩:=q _ _ o4 M R z
 refine ⟨h',tk₁,δ,af,rfl,⟨Nat.le_trans p.size o4.size,λ b o e n=>o4.keep b o (p.keep b o e n) λ m=>?_⟩,f,R.keepsBut o4 M λ a ha=>by rw [List.mem_singleton.mp ha]; exact ⟨n1,n2⟩,q⟩
 rw [List.mem_singleton.mp m] at e
 exact absurd (Heap.lt_size e) (Nat.not_lt.mpr hC)
theorem aT.EA (O:W.Ok) {elt iter:Expr} {x:Str} {px:Pos} {ifs:List Expr} {scope:Scope} {pos:Pos} {Q:AV→List AO→Prop} (hf:cD scope η=true) (hx:scope.names.lookup x=some .local)
 (h:qG W d env iter η σ (CompI W d env η elt x ifs scope λ j σ'=>Q (.lst j) σ'))
 (hs:∀ x,foldedSetIterable iter env x=pure x:=by intro _; rfl):aT W d env (.ListComp elt [⟨.Name x px,iter,ifs,0⟩] scope pos) η σ Q:=λ A s ρ hr R F=>by
 rw [eval_ListComp]
 refine yP O hf hx h Option.none hs hr R F λ D C j s' P hC=>?_
 have hm:∃ m,s'.heap.Ns C m:=by obtain ⟨h₁,tk₁,δ,af,rfl,p,f,R,_,_,_,_,_,hn,_⟩:=P; exact hn
 obtain ⟨m,hm'⟩:=hm
 refine ⟨m,hm',λ h' hs'=>?_⟩
 have P':=Post.drop P hC hs' ⟨m,hm'⟩ (Q':=QV W Q (.ref D)) λ ρ' σ' p M R ⟨_,e,hC,hb,_,_,q⟩=>⟨⟨hC,hb⟩,.lst j,.lst e,q⟩
 exact P'
theorem iP.Bq (O:W.Ok) {elt iter:Expr} {x y:Str} {px py:Pos} {ifs:List Expr} {scope:Scope} {pos spos:Pos} {Q:Fl→En→List AO→Prop} (hf:cD scope η=true) (hx:scope.names.lookup x=some .local)
 (hsw:swapsWith (.ListComp elt [⟨.Name x px,iter,ifs,0⟩] scope pos) (some (.Name y py)) spos.line env=pure true)
 (h:qG W d env iter η σ (CompI W d env η elt x ifs scope λ j σ'=>∃ η',Up η y (.lst j) η'∧Q .next η' σ'))
 (hs:∀ x,foldedSetIterable iter env x=pure x:=by intro _; rfl):iP W d env (.Assign [.Name y py] (.ListComp elt [⟨.Name x px,iter,ifs,0⟩] scope pos) spos) η σ Q:=λ A s ρ hr R F=>by
 rw [exec_Assign_Name_used _ _ _ _ hsw]
 refine wpAny_bind (wpAny_standAt (wpAny_bind ?_))
 show wpAny _ A (do let _ ← comprehension (.ListComp elt [⟨.Name x px,iter,ifs,0⟩] scope pos) scope env _ (newList []) false (eval iter env) (some (PySem.assign (.Name y py) env))) _ _ s
 refine wpAny_bind (wpAny_mono (yP O (E:=nD) (Q:=λ _ s'=>Post W (addrs env) ρ s (QF W env Q .next) s') hf hx h (some (PySem.assign (.Name y py) env)) hs hr R F λ D C j s' P hC=>?_) (λ _ s' hq=>wpAny_pure (wpAny_pure hq)) λ _ _ e=>e)
 obtain ⟨h₁,tk₁,δ,af,zQ,p,f,R',F',hD,Nr,Tp,Pk,⟨m,hm⟩,η',U,q⟩:=P
 subst zQ
 show wpAny _ A (PySem.assign (.Name y py) env (.ref D)) _ _ _
 refine PyProof.Rows.assign_Name (wpAny_mono (iQ (s:={ s with heap:=h₁,toks:=tk₁ }) U R' F' (.lst hD) (Q:=λ ρ' σ' h'=>cT W env η' ρ' h'∧σ'=af∧ρ'=ρ++δ) λ h' Tq Ui=>⟨Tq,rfl,rfl⟩) (λ _ s'' z=>?_) λ _ _ x=>x)
 obtain ⟨aF,aJ,δ₂,ai,oW,aN,aR,R₂,F₂,rfl,eρ⟩:=z
 subst oW
 have hδ:δ₂=[]:=List.append_right_eq_self.mp eρ
 subst hδ
 have Tr:C∉addrs env++(ρ++δ):=λ mm=>by
  rcases List.mem_append.mp mm with mm | mm
  · exact Pk mm
  · exact Nr mm
 have Jj:aF.Ns C m:=by
  obtain ⟨o,es,ep,ho,r⟩:=hm
  exact ⟨o,es,ep,aN.keep _ _ ho Tr,r⟩
 refine ⟨m,Jj,λ h' hs'=>?_⟩
 have P₃:=kh hs'
 have M:cE W.hid aF [C]:=λ a ha=>by rw [List.mem_singleton.mp ha]; exact pq Jj
 rw [List.append_nil] at R₂ F₂
 have R₃:=R₂.keepsBut P₃ M λ a ha=>by rw [List.mem_singleton.mp ha]; exact ⟨Nr,Tp⟩
 have F₃:=F₂.keepsBut P₃ M λ a ha=>by rw [List.mem_singleton.mp ha]; exact Pk
 refine ⟨h',aJ,δ,ai,rfl,⟨Nat.le_trans p.size (Nat.le_trans aN.size P₃.size),λ b o eb n=>P₃.keep b o (aN.keep b o (p.keep b o eb λ mm=>?_) λ mm=>?_) λ mm=>?_⟩,f,R₃,.next,η',F₃,.next,q⟩
 · exact n (List.mem_append_right _ mm)
 · rcases List.mem_append.mp mm with mm | mm
   · exact n (List.mem_append_left _ mm)
   · rcases List.mem_append.mp mm with mm | mm
     · exact n (List.mem_append_right _ mm)
     · exact absurd (Heap.lt_size eb) (Nat.not_lt.mpr (f b mm))
 · rw [List.mem_singleton.mp mm] at eb
   exact absurd (Heap.lt_size eb) (Nat.not_lt.mpr hC)
end
section
variable {W:Wl} {d:Nat} {σ:List AO}
noncomputable def Nt:CFound→Option (Value×Value×Value×Value)
 | .get g a o t=>some (g,a,o,t)
 | _=>none
theorem GN {r:CFound} {p:Value×Value×Value×Value} (h:Nt r=some p):r=.get p.1 p.2.1 p.2.2.1 p.2.2.2:=by
 cases r with
 | get=>cases h; rfl
 | _=>exact aP h
noncomputable def Kq (K:Frag) (C:Addr) (name:Str):Option Addr:=(findCls K (.ref C) (.type "type") name).bind λ r=>(Nt r).bind λ q=>(zd q.2.1).bind λ p=>(recIn K p "staticmethod").bind λ l=>l.head?.bind λ fv=>(zd fv).bind λ f =>
 if q.1==.builtin "staticmethod.__get__" && q.2.2.1==.none&&q.2.2.2==.ref C&&readsIn K C (.type "type")&&(specialIn K (.ref C) "__getattribute__" == some (some (.builtin "type.__getattribute__")))&&keepIn K (.ref f) then some f else none
theorem GO {K:Frag} {C f:Addr} {name:Str} {P:Prop} (hk:Kq K C name=some f) (k:∀ p l,findCls K (.ref C) (.type "type") name=some (.get (.builtin "staticmethod.__get__") (.ref p) .none (.ref C))→recIn K p "staticmethod" = some (.ref f :: l)→readsIn K C (.type "type")=true→(specialIn K (.ref C) "__getattribute__" == some (some (.builtin "type.__getattribute__")))=true→keepIn K (.ref f)=true→P):P:=by
 obtain ⟨r,e1,hk⟩:=cB hk
 obtain ⟨⟨g,a,o,t⟩,e0,hk⟩:=cB hk
 obtain ⟨p,ea,hk⟩:=cB hk
 obtain ⟨l,e2,hk⟩:=cB hk
 obtain ⟨fv,el,hk⟩:=cB hk
 obtain ⟨f',ef,hk⟩:=cB hk
 obtain ⟨hc,hk⟩:=J4 hk
 cases hk
 obtain ⟨l,rfl⟩:=List.head?_eq_some_iff.mp el
 obtain rfl:=GN e0
 obtain rfl:a=.ref p:=qA ea
 obtain rfl:=qA ef
 obtain ⟨hc,c6⟩:=Bool.and_eq_true_iff.mp hc
 obtain ⟨hc,c5⟩:=Bool.and_eq_true_iff.mp hc
 obtain ⟨hc,c4⟩:=Bool.and_eq_true_iff.mp hc
 obtain ⟨hc,c3⟩:=Bool.and_eq_true_iff.mp hc
 obtain ⟨c1,c2⟩:=Bool.and_eq_true_iff.mp hc
 rw [show _=_ from beq_iff_eq.mp c1,show _=_ from beq_iff_eq.mp c2,show _=_ from beq_iff_eq.mp c3] at e1
 exact k p l e1 e2 c4 c5 c6
theorem cG.cls (O:W.Ok) {C f:Addr} {name:Str} {Q:AV→List AV→List AO→Prop} (hk:Kq W.K C name=some f) (q:Q (.cst (.ref f)) [] σ):cG W d (.cst (.ref C)) name σ Q:=λ A s ρ v pl hr R hv=>by
 refine VR.aX hv ?_
 have X:=R.tB O
 exact GO hk λ p l e1 e2 c4 c5 c6=>method_cls X (beq_iff_eq.mp c5) (cls_bind X c4 e1 (wpAny_call (sm_get (s:={ s with toks:=s.toks+1 }) X e2 (handed_on rfl (Post.here R ⟨_,_,.cst _,.nil,b9.ref c6,q⟩ _)))))
end
section
variable {W:Wl} {d:Nat} {σ:List AO}
end
section
variable {W:Wl} {d:Nat} {env:Env} {η:En} {σ:List AO}
theorem bh.ofInts {X ρ:List Addr} {h:Heap} {vs:List Value} {ns:List Int} (x:IntsAre vs ns):bh X ρ h (ns.map .int) vs:=by
 induction x with
 | nil=>exact .nil
 | cons n t r ih=>exact .cons (.int n t) ih
theorem aT.C9 {x:Str} {p p' p'' pos:Pos} {k:Int} {l:Addr} {vs:List Value} {ns:List Int} {kk:Nat} {Q:AV→List AO→Prop} (O:W.Ok) (hx:yi η x (.cst (.ref l))) (hl:W.hb.IsList l vs.toArray) (hi:IntsAre vs ns) (hz:ns.length≤1000) (hk:0≤k)
 (q:Q (.lst σ.length) (σ++[.lst ((ns.take k.toNat).map .int)])) :
 aT W d env (.Subscript (.Name x p) (.Slice Option.none (some (.Constant (.int k) kk p'')) Option.none p') pos) η σ Q:=λ A s ρ hr R F=>by
 refine wpAny_Subscript_list_slice ?_ (λ _ _=>rfl)
 refine wpAny_Name (cW O hx R F λ w z=>?_) (hx.CX F)
 refine VR.aX z ?_
 refine wpAny_pure (a:=Value.none) ?_
 refine wpAny_Constant_int (k:=kk) (pos:=p'') ?_
 have hl':s.heap.IsList l vs.toArray:=by
  obtain ⟨o,e,c,n,dd⟩:=hl
  exact ⟨o,R.base _ _ e,c,n,dd⟩
 have hlen:vs.length=ns.length:=by
  have:=(bh.ofInts (X:=W.hid) (ρ:=[]) (h:=s.heap) hi).length
  simpa using this
 refine ⟨l,vs.toArray,_,_,rfl,hl',by rw [List.size_toArray,sizeLine_eq]; exact Lq.qy (Lq.qy (Nat.le_of_eq hlen) hz) (by decide),.none,.int k _,?_⟩
 have hi':=slice_ints_uptoW hi hk
 have R₁:=R.keeps (.push _ _ ({ cls:=.type "slice",data:=.fields #[.none,.int k s.toks,.none] }:Obj))
 have N:=qF (S:=[]) (s:={ s with heap:=s.heap.push ({ cls:=.type "slice",data:=.fields #[.none,.int k s.toks,.none] }:Obj) }) (Q:=QV W Q (.ref (s.heap.objs.size+1))) R₁ (.lst ((ns.take k.toNat).map .int)) ({ cls:=.type "list",data:=.seq (slicePick vs.toArray Option.none (some k) Option.none) }:Obj) rfl
  ⟨_,0,by simp,bh.ofInts hi'⟩ ⟨.lst σ.length,.lst (by
   have:=Bj R₁
   rw [Heap.size_push] at this ⊢
   exact this),q⟩ (s.toks+1)
 exact Post.chain (δ:=[]) (.push _ _ _) (λ _ h=>nomatch h) (by rw [List.append_nil]; exact N)
end
section
variable {W:Wl} {d:Nat} {env:Env} {η:En} {σ:List AO}
theorem bh.bools {X ρ:List Addr} {h:Heap} {bs:List Bool}:∀ {ws:List Value},bh X ρ h (bs.map .bool) ws→ws=bs.map .bool:=by
 induction bs with
 | nil=>exact λ hv=>hv.aW rfl
 | cons b bs ih=>exact λ hv=>hv.aq λ w ws x r=>x.qB (congrArg (List.cons _) (ih r))
theorem ao.all {n:Nat} {bs:List Bool} {Q:AV→List AO→Prop} (e1:σ[n]? = some (.lst (bs.map .bool))) (q:Q (.bool (bs.all id)) σ):ao W d (.cst (.builtin "all")) [.lst n] σ Q:=λ A s ρ f vs hr R hf hv=>by
 refine hf.aX ?_
 refine hv.aq λ _ _ ha hv=>?_
 refine hv.aW ?_
 refine ha.sD λ a ea=>?_
 obtain ⟨ws,k,h1,v1⟩:=aZ R e1 ea
 have hb:=v1.bools
 clear v1
 subst hb
 have hl:s.heap.IsList a (bs.map Value.bool).toArray:=⟨_,h1,rfl,_,rfl⟩
 have hlt:a<s.heap.objs.size:=Heap.lt_size h1
 refine wc (call_all_walk (wpAny_pyIter_list hl ?_))
 refine ⟨s.heap.objs.size,[s.heap.objs.size,a],[s.heap.objs.size],(bs.map Value.bool).toArray.size,_,_,λ i=>(bs[i]?).getD true,rfl,Walks.list (A:=A.in1) hr.handled _ a (Nat.ne_of_lt hlt) (bs.map Value.bool).toArray,
  ⟨⟨_,Heap.get?_push_size _ rfl,rfl,rfl⟩,hl.push _⟩,λ i v s' Q' E' hP hQ=>?_,λ h' tk hk hz=>?_⟩
 · have e:(bs.map Value.bool)[i]? = some v:=by simpa using hP
   rw [List.getElem?_map] at e
   cases hi:bs[i]? with
   | none=>rw [hi] at e; cases e
   | some b =>
    dsimp only at hQ
    rw [hi] at e hQ
    cases e
    exact wpAny_truthy_bool hQ
 · have e:((List.range (bs.map Value.bool).toArray.size).all λ i=>(bs[i]?).getD true)=bs.all id:=by
    rw [List.size_toArray,List.length_map]; exact LSm.range_all bs
   rw [e]
   have P:aH [] s.heap h':=.Ea hz (LSm.kept_iter hk)
   exact ⟨h',tk,[],σ,rfl,P.weaken (λ _ h=>nomatch h),(λ _ h=>nomatch h),by rw [List.append_nil]; exact R.keeps P,by rw [List.append_nil]; exact ⟨_,.bool _,q⟩⟩
end
section
variable {W:Wl} {d:Nat} {env:Env} {η:En} {σ:List AO}
inductive Nu (Q:iL→List AO→Prop):AV→List AO→Prop
 | lst (n:Nat) (xs:List AV) {af:List AO} (e:af[n]? = some (.lst xs)) (hz:xs.length≤1000000) (q:Q (.tP n xs.length) af):Nu Q (.lst n) af
theorem qG.rev (O:W.Ok) {x:Str} {p pos:Pos} {e:Expr} {Q:iL→List AO→Prop} (hx:yi η x (.cst (.type "reversed"))) (hu:aK e=true)
 (h:aT W d env e η σ (Nu Q)):qG W d env (.Call (.Name x p) [e] [] pos) η σ Q:=λ A s ρ hr R F=>by
 refine Bm O hx (by simp [hu]) hr R F (mX.one hu h) λ ws h₁ tk₁ δ af as p f R₁ vs ⟨a,e1,H⟩=>?_
 subst e1
 refine vs.aq λ _ _ va vs=>?_
 refine bh.aW vs ?_
 cases H with
 | lst n xs e3 hz q =>
  refine va.sD λ ad ea=>?_
  obtain ⟨us,m,h1,v1⟩:=aZ R₁ e3 ea
  refine call_reversed_list (items:=us.toArray) ⟨_,h1,rfl,_,rfl⟩ ?_
  have hit:(h₁.push (revObj ad ((us.toArray.size:Int)-1))).IsRevIter h₁.objs.size ad ((us.toArray.size:Int)-1):=⟨_,Heap.get?_push_size _ rfl,rfl,rfl⟩
  refine wpAny_pyIter_revIter (s:={ s with heap:=h₁.push (revObj ad ((us.toArray.size:Int)-1)),toks:=tk₁ }) hit ?_
  refine vC (k:=.tP n xs.length) p f R₁ ⟨ad,ea,?_⟩ q
  rw [List.size_toArray,v1.length] at hit ⊢
  exact hit
end
section
variable {W:Wl} {d:Nat} {env:Env} {η:En} {σ:List AO}
end
section
variable {W:Wl} {d:Nat} {env:Env} {η:En} {σ:List AO}
end
section
variable {W:Wl} {d:Nat} {env:Env} {η:En} {σ:List AO}
theorem bY.Qs {l r r':Expr} {op op':CmpOp} {pos:Pos} {Q:Bool→List AO→Prop}
 (h:aT W d env l η σ λ a af=>aT W d env r η af λ b ai=>aA W d op a b ai λ c az=>bf W d c az λ t aY=>if t=true then aT W d env r' η aY λ b' yX=>aA W d op' b b' yX λ c' σ₆=>bf W d c' σ₆ Q else Q false aY)
 (hm:lastMarks [op,op'] [r,r']=false):bY W d env (.Compare l [op,op'] [r,r'] pos) η σ Q:=λ A s ρ hr R F=>by
 refine isTrue_chain (aM (h A s ρ hr R F) λ v h₁ tk₁ δ af p f R₁ ⟨a,va,q⟩=>?_) hm
 have bq:=F.mono R.muts p f
 refine test_link (aM (q A _ _ hr R₁ bq) λ w aF aJ δ₂ ai aN aR R₂ ⟨b,vb,bF⟩=>?_)
 have F₂:=bq.mono R₁.muts aN aR
 refine aM (bF A _ _ _ hr R₂ (.cons (va.mono R₁.muts aN) (.cons vb .nil))) λ x cz c9 δ₃ az cA f₃ R₃ ⟨c,vc,nC⟩=>?_
 have F₃:=F₂.mono R₂.muts cA f₃
 refine aM (nC A _ _ _ hr R₃ vc) λ t dh qw δ₄ aY p₄ f₄ R₄ q₄=>?_
 have F₄:=F₃.mono R₃.muts p₄ f₄
 have up:∀ {Y:List Addr→List AO→Heap→Prop} {s':Shared},Post W [] ((((ρ++δ)++δ₂)++δ₃)++δ₄) { s with heap:=dh,toks:=qw } Y s'→Post W [] ρ s Y s':=λ z =>
  Post.chain (S:=[]) (s:=s) p f (Post.chain (S:=[]) (s:={ s with heap:=h₁,toks:=tk₁ }) aN aR (Post.chain (S:=[]) (s:={ s with heap:=aF,toks:=aJ }) cA f₃ (Post.chain (S:=[]) (s:={ s with heap:=cz,toks:=c9 }) p₄ f₄ z)))
 cases t with
 | false =>
  have q₄:Q false aY:=q₄
  exact up (Post.here (s:={ s with heap:=dh,toks:=qw }) (Q:=λ _ σ' _=>Q false σ') R₄ q₄ qw)
 | true =>
  refine test_last (aM (q₄ A _ _ hr R₄ F₄) λ w' zS A0 δ₅ yX p₅ f₅ R₅ ⟨b',Tt,q₅⟩=>?_)
  refine aM (q₅ A _ _ _ hr R₅ (.cons (((vb.mono R₂.muts cA).mono R₃.muts p₄).mono R₄.muts p₅) (.cons Tt .nil))) λ y yg xH δ₆ σ₆ p₆ f₆ R₆ ⟨c',Tu,q₆⟩=>?_
  exact wpAny_mono (q₆ A _ _ _ hr R₆ Tu) (λ x s' z=>up (Post.chain p₅ f₅ (Post.chain p₆ f₆ z))) λ _ _ x=>x
theorem cG.bits {i:Int} {Q:AV→List AV→List AO→Prop} (q:Q (.cst (.builtin "int.bit_length")) [.int i] σ):cG W d (.int i) "bit_length" σ Q:=λ A s ρ v pl hr R hv=>by
 refine hv.cC λ t=>?_
 exact getMethod_int_bit_length (Post.here R ⟨_,_,.cst _,.cons (.int _ _) .nil,b9.builtin,q⟩ s.toks)
theorem ao.bits {i:Int} {Q:AV→List AO→Prop} (q:Q (.int (Builtin.Int.intBits i)) σ):ao W d (.cst (.builtin "int.bit_length")) [.int i] σ Q:=λ A s ρ f vs hr R hf hv=>by
 refine VR.aX hf ?_
 refine hv.aq λ _ _ ha hv=>?_
 refine bh.aW hv ?_
 refine ha.cC λ t=>?_
 exact call_int_bit_length (Post.here R ⟨_,.int _ _,q⟩ _)
theorem bh.take {X ρ:List Addr} {h:Heap}:∀ {as:List AV} {vs:List Value},bh X ρ h as vs→∀ k,bh X ρ h (as.take k) (vs.take k)
 | [],vs,x,k=>by
  refine bh.aW x ?_
  rw [List.take_nil,List.take_nil]; exact .nil
 | a :: as,vs,x,k=>x.aq λ _ _ h1 h2=>by
  cases k with
  | zero=>exact .nil
  | succ k=>exact .cons h1 (bh.take h2 k)
theorem aT.EB {x:Str} {p p' p'' pos:Pos} {k:Int} {n:Nat} {xs:List AV} {kk:Nat} {Q:AV→List AO→Prop} (O:W.Ok) (hx:yi η x (.lst n)) (e:σ[n]? = some (.lst xs)) (hz:xs.length≤1000000) (hk:0≤k)
 (q:Q (.lst σ.length) (σ++[.lst (xs.take k.toNat)])) :
 aT W d env (.Subscript (.Name x p) (.Slice Option.none (some (.Constant (.int k) kk p'')) Option.none p') pos) η σ Q:=λ A s ρ hr R F=>by
 refine wpAny_Subscript_list_slice ?_ (λ _ _=>rfl)
 refine wpAny_Name (cW O hx R F λ w z=>?_) (hx.CX F)
 refine z.sD λ l el=>?_
 obtain ⟨ws,m,hl,hv⟩:=aZ R e el
 refine wpAny_pure (a:=Value.none) ?_
 refine wpAny_Constant_int (k:=kk) (pos:=p'') ?_
 have hi':slicePick ws.toArray Option.none (some k) Option.none=(ws.take k.toNat).toArray:=by
  have:=slicePick_upto' ws.toArray k.toNat
  rwa [Int.toNat_of_nonneg hk] at this
 refine ⟨l,ws.toArray,_,_,rfl,⟨_,hl,rfl,_,rfl⟩,by rw [List.size_toArray,hv.length,sizeLine_eq]; exact Lq.qy hz (by decide),.none,.int k _,?_⟩
 have R₁:=R.keeps (.push _ _ ({ cls:=.type "slice",data:=.fields #[.none,.int k s.toks,.none] }:Obj))
 obtain ⟨Tv,m',hl',hv'⟩:=aZ R₁ e el
 have O8:Tv=ws:=by
  have:=Heap.get?_push_of_some ({ cls:=.type "slice",data:=.fields #[.none,.int k s.toks,.none] }:Obj) hl
  rw [this] at hl'; cases hl'; rfl
 have N:=qF (S:=[]) (s:={ s with heap:=s.heap.push ({ cls:=.type "slice",data:=.fields #[.none,.int k s.toks,.none] }:Obj) }) (Q:=QV W Q (.ref (s.heap.objs.size+1))) R₁ (.lst (xs.take k.toNat)) ({ cls:=.type "list",data:=.seq (slicePick ws.toArray Option.none (some k) Option.none) }:Obj) rfl
  ⟨ws.take k.toNat,0,by rw [hi'],(O8▸hv').take _⟩ ⟨.lst σ.length,.lst (by
   have:=Bj R₁
   rw [Heap.size_push] at this ⊢
   exact this),q⟩ (s.toks+1)
 exact Post.chain (δ:=[]) (.push _ _ _) (λ _ h=>nomatch h) (by rw [List.append_nil]; exact N)
end
section
variable {W:Wl} {d:Nat} {env:Env} {η:En} {σ:List AO}
noncomputable abbrev tH (l:List Env):List Addr:=l.filterMap (·.frame)
theorem IJ {base h h':Heap}:∀ (l:List Env),h.FunFrames base l→(∀ a∈tH l,∀ o,h.get? a=some o→∃ o',h'.get? a=some o'∧o'.data=o.data)→h'.FunFrames base l
 | [],_,_=>trivial
 | env :: rest,⟨hk,⟨L,o,hf,hn,ho,hd⟩,hr⟩,k=>by
  have hL:L∈tH (env :: rest):=List.mem_filterMap.mpr ⟨env,.head _,hf⟩
  obtain ⟨o',ho',hd'⟩:=k L hL o ho
  exact ⟨hk,⟨L,o',hf,hn,ho',λ vs=>hd'▸hd vs⟩,IJ rest hr λ a ha=>k a (by
   obtain ⟨e,m,q⟩:=List.mem_filterMap.mp ha
   exact List.mem_filterMap.mpr ⟨e,.tail _ m,q⟩)⟩
structure oX (W:Wl) (l:List Env) (ρ:List Addr) (h:Heap):Prop where
 fn:h.FunFrames W.hb l
 out:∀ a∈tH l,a∉ρ
 mt:cE W.hid h (tH l)
theorem oX.mono {l:List Env} {ρ δ T:List Addr} {h h':Heap} (F:oX W l ρ h) (P:aH T h h') (ht:∀ a∈tH l,a∉T) (f:∀ a∈δ,h.objs.size≤a):oX W l (ρ++δ) h':=by
 have up:∀ a∈tH l,∀ o,h.get? a=some o→h'.get? a=some o:=λ a ha o e=>P.keep a o e (ht a ha)
 refine ⟨IJ l F.fn λ a ha o e=>⟨o,up a ha o e,rfl⟩,λ a ha m=>?_,λ a ha=>?_⟩
 · rcases List.mem_append.mp m with m | m
   · exact F.out a ha m
   · obtain ⟨o,e,_⟩:=F.mt a ha
     exact absurd (Heap.lt_size e) (Nat.not_lt.mpr (f a m))
 · obtain ⟨o,e,q⟩:=F.mt a ha
   exact ⟨o,up a ha o e,q⟩
inductive yr (W:Wl) (l:List Env) (C:Addr) (ρ:List Addr) (s:Shared) (E:List AO→Prop) (e:Value) (s':Shared):Prop
 | mk (h₀ h':Heap) (tk':Nat) (δ:List Addr) (σ':List AO) (S:List Addr) (a:Addr) (a0:Value) (ee:e=.ref a) (es:s'={ s with heap:=h',toks:=tk' })
  (p:aH ρ s.heap h₀) (f:∀ a∈δ,s.heap.objs.size≤a) (r:aL W (ρ++δ) σ' h₀)
  (hS:∀ x∈S,x∉ρ++δ∧W.hb.get? x=none∧(x∈tH l∨s.heap.objs.size≤x)) (mt:cE W.hid h₀ S)
  (fl:Heap.FlyingW (hideAll h₀ S) l a (.ref C) a0 h') (up:h₀.UpToSlots h') (sz:h₀.objs.size≤h'.objs.size) (q:E σ'):yr W l C ρ s E e s'
inductive xN (W:Wl) (env:Env) (C:Addr) (ρ:List Addr) (s:Shared) (E:List AO→Prop) (e:Value) (s':Shared):Prop
 | mk (h₀ h':Heap) (tk':Nat) (δ:List Addr) (σ':List AO) (a:Addr) (args:List Value) (η':En) (ee:e=.ref a) (es:s'={ s with heap:=h',toks:=tk' })
  (p:aH (addrs env++ρ) s.heap h₀) (f:∀ a∈δ,s.heap.objs.size≤a) (r:aL W (ρ++δ) σ' h₀) (F:cT W env η' (ρ++δ) h₀)
  (m:Heap.MadeExcOf h₀ h' a (.ref C) args) (sz:h₀.objs.size≤h'.objs.size) (q:E σ'):xN W env C ρ s E e s'
def qo (W:Wl) (d:Nat) (env:Env) (C:Addr) (sts:List Stmt) (η:En) (σ:List AO) (Q:Fl→En→List AO→Prop) (E:List AO→Prop):Prop :=
 ∀ A s ρ,Rm d A→aL W ρ σ s.heap→cT W env η ρ s.heap→wpAny W.M A (execs sts env) (λ f s'=>Post W (addrs env) ρ s (QF W env Q f) s') (λ e s'=>xN W env C ρ s E e s') s
def oK (W:Wl) (d:Nat) (l:List Env) (C:Addr) (f:AV) (as:List AV) (σ:List AO) (Q:AV→List AO→Prop) (E:List AO→Prop):Prop :=
 ∀ A s ρ v vs,Rm d A→A.frames=some l→oX W l ρ s.heap→aL W ρ σ s.heap→VR W.hid ρ s.heap f v→bh W.hid ρ s.heap as vs →
  codeAny W.M A (.call v ⟨vs,[]⟩) (λ r s'=>match r with | .ok (.ret v)=>Post W [] ρ s (QV W Q v) s' | .ok _=>False | .error e=>yr W l C ρ s E e s') s
theorem xN.chain {C:Addr} {ρ δ:List Addr} {s:Shared} {h₁:Heap} {tk₁:Nat} {E:List AO→Prop} {e:Value} {s':Shared} (o4:aH (addrs env++ρ) s.heap h₁) (tW:∀ a∈δ,s.heap.objs.size≤a)
 (z:xN W env C (ρ++δ) { s with heap:=h₁,toks:=tk₁ } E e s'):xN W env C ρ s E e s':=by
 obtain ⟨h₀,h',tk',δ',σ',a,args,η',ee,es,p,f,r,F,m,sz,q⟩:=z
 refine ⟨h₀,h',tk',δ++δ',σ',a,args,η',ee,by rw [es],o4.trans (δ:=δ) tW (by rw [List.append_assoc]; exact p),λ b hb=>?_,by rw [← List.append_assoc]; exact r,by rw [← List.append_assoc]; exact F,m,sz,q⟩
 rcases List.mem_append.mp hb with hb | hb
 · exact tW b hb
 · exact Nat.le_trans o4.size (f b hb)
theorem qo.of {C:Addr} {sts:List Stmt} {Q:Fl→En→List AO→Prop} {E:List AO→Prop} (h:cF W d env sts η σ Q):qo W d env C sts η σ Q E:=λ A s ρ hr R F =>
 wpAny_mono (h A s ρ hr R F) (λ _ _ x=>x) λ _ _ x=>x.elim
theorem vG {M:Model} {b:List Stmt} {Γ:Ctx} {Q:Flow→Pos→Shared→Prop} {E:Value→Pos→Shared→Prop}:∀ (a:List Stmt) (p:Pos) (s:Shared),
 Sem.wp M Γ (execs a env) (λ f p' s'=>match f with | .next=>Sem.wp M Γ (execs b env) Q E p' s' | f=>Q f p' s') E p s→Sem.wp M Γ (execs (a++b) env) Q E p s
 | [],p,s,h=>h
 | st :: a,p,s,h=>by
  rw [List.cons_append,execs_cons,Sem.wp_bind']
  rw [execs_cons,Sem.wp_bind'] at h
  refine Sem.wp_mono M Γ _ (λ f p' s' h'=>?_) (λ _ _ _ h'=>h') _ _ h
  cases f<;>first | exact vG a p' s' h' | exact h'
theorem vH {M:Model} {A:Around} {Q:Flow→Shared→Prop} {E:Value→Shared→Prop} {a b:List Stmt} {s:Shared} (h:wpAny M A (execs a env) (λ f s'=>match f with | .next=>wpAny M A (execs b env) Q E s' | f=>Q f s') E s):wpAny M A (execs (a++b) env) Q E s:=λ Γ p hΓ=>by
 refine vG a p s (Sem.wp_mono M Γ _ (λ f p' s' h'=>?_) (λ _ _ _ h'=>h') _ _ (h Γ p hΓ))
 cases f<;>first | exact h' Γ p' hΓ | exact h'
theorem qo.pre {C:Addr} {pre rest:List Stmt} {Q:Fl→En→List AO→Prop} {E:List AO→Prop} (h:cF W d env pre η σ λ fl η₁ af=>fl.go η₁ af Q (qo W d env C rest η₁ af Q E)):qo W d env C (pre++rest) η σ Q E:=λ A s ρ hr R F=>by
 refine vH (yI (h A s ρ hr R F) λ f h₁ tk₁ δ af p fr R₁ ⟨fl,η₁,bq,fx,q⟩=>?_)
 cases fx with
 | next=>exact wpAny_mono (q A _ _ hr R₁ bq) (λ x s' z=>Post.chain p fr z) λ _ _ x=>x.chain p fr
 | brk=>exact ⟨h₁,tk₁,δ,af,rfl,p,fr,R₁,.brk,η₁,bq,.brk,q⟩
 | cont=>exact ⟨h₁,tk₁,δ,af,rfl,p,fr,R₁,.cont,η₁,bq,.cont,q⟩
 | ret hv=>exact ⟨h₁,tk₁,δ,af,rfl,p,fr,R₁,.ret _,η₁,bq,.ret hv,q⟩
theorem Tw.raise (O:W.Ok) {C N:Addr} {nm q:Str} {bs bm bmB:List Value} {hdct:Bool} {sn:List Str} {sub:List Value} {ab:Bool} {col:Option Bool} {dd:Option Addr} {k0 k1 k2 k3 k5:Option Value} {B Bn newId nid initId inN:String} {bmN:List Value}
 (Fn:ExcBaseFacts Bn newId inN bmN) (hBn:bmB.contains (.type Bn)=true) (Fb:ExcBaseFacts B nid initId bmB) {mN:Str→Option Value} {x:Str} {np cpos pos ap:Pos} {msg:Str} {kk:Nat} {Q:Fl→En→List AO→Prop} {E:List AO→Prop}
 (hbase:bm.contains (.type "BaseException")=true) (hni:mN "__init__" = none)
 (hC:W.hb.get? C=some (excClassObj nm q C N bs bm hdct sn sub ab col dd k0 k1 k2 k3 k5 newId)) (hN:W.hb.Ns N mN) (hT:OwnTail W.hb bmB bm)
 (hx:yi η x (.cst (.ref C))) (e:E σ):qo W d env C [.Raise (some (.Call (.Name x np) [.Constant (.str msg) kk ap] [] cpos)) none pos] η σ Q E:=λ A s ρ hr R F=>by
 have step:wpAny W.M A (exec (.Raise (some (.Call (.Name x np) [.Constant (.str msg) kk ap] [] cpos)) none pos) env) (λ _ _=>False) (λ v s'=>∃ h' a args tk',Heap.MadeExcOf s.heap h' a (.ref C) args∧v=.ref a∧s'={ s with heap:=h',toks:=tk' }) s:=by
  refine wpAny_Raise_call_subU (C:=C) (N:=N) (nm:=nm) (q:=q) (bs:=bs) (bm:=bm) (bmB:=bmB) (hdct:=hdct) (sn:=sn) (sub:=sub) (ab:=ab) (col:=col) (dd:=dd) (k0:=k0) (k1:=k1) (k2:=k2) (k3:=k3) (k5:=k5) Fn hBn Fb (mN:=mN) hbase hr.handled rfl hni ?_
  refine wpAny_Name (cW O hx R F λ w z=>?_) (hx.CX F)
  refine VR.aX z ⟨rfl,?_⟩
  have hs:backTo cpos (starEach [.Constant (.str msg) kk ap] env)=(false,eval (.Constant (.str msg) kk ap) env) :: backTo cpos (starEach [] env):=rfl
  refine lA (es:=[.Constant (.str msg) kk ap]) rfl ?_
  rw [hs]
  refine spliced_cons (wpAny_Constant_str (spliced_nil ⟨rfl,?_,R.base _ _ hC,?_,hT.keeps R.base,λ h' a m=>⟨h',a,_,_,m,rfl,rfl⟩⟩))
  · rw [sizeLine_eq]; show 1≤_; decide
  · obtain ⟨o,es,ep,e,r⟩:=hN
    exact ⟨o,es,ep,R.base _ _ e,r⟩
 refine wpAny_execs_cons (wpAny_mono (grow step) (λ _ _ x=>x.1.elim) λ v s' z=>?_)
 obtain ⟨⟨h',a,args,tk',m,rfl,rfl⟩,sz⟩:=z
 exact ⟨s.heap,h',tk',[],σ,a,args,η,rfl,rfl,aH.refl _ _,(λ _ h=>nomatch h),by rw [List.append_nil]; exact R,by rw [List.append_nil]; exact F,m,sz,e⟩
theorem oX.push {l:List Env} {ρ:List Addr} {h:Heap} (F:cT W env η ρ h) (Fl:oX W l ρ h) (hf:env.frame=some env.locals):oX W (env :: l) ρ h:=by
 have hm:env.locals∈addrs env:=List.mem_cons_self ..
 have hc:∀ a∈tH (env :: l),a=env.locals∨a∈tH l:=λ a ha=>by
  unfold tH at ha
  rw [List.filterMap_cons,hf] at ha
  exact List.mem_cons.mp ha
 obtain ⟨m,⟨o,es,ep,ho,hd,r⟩,_⟩:=F.locs
 refine ⟨⟨by rw [F.ok.kind]; decide,⟨_,o,hf,F.A3 _ hm,ho,λ vs q=>by rw [hd] at q; cases q⟩,Fl.fn⟩,λ a ha=>?_,λ a ha=>?_⟩
 · rcases hc a ha with rfl | ha
   · exact F.out _ hm
   · exact Fl.out a ha
 · rcases hc a ha with rfl | ha
   · exact F.Bd _ hm
   · exact Fl.mt a ha
theorem oK.fn (O:W.Ok) {a C:Addr} {fd:FuncData} {body:List Stmt} {oc:Value} {od:Option Addr} {osl:Array (Option Value)} {as:List AV} {ab:List (Str×AV)} {η₀:En} {l:List Env} {Q:AV→List AO→Prop} {E:List AO→Prop}
 (hK:W.K.lookup a=some ⟨oc,od,.func fd,osl⟩) (hb:fd.body=.stmts body) (hcd:codeIn W.K fd.code fd.qualname=true) (hok:Be fd=true)
 (hbind:∀ ρ h vs,bh W.hid ρ h as vs→∃ binds,(∀ S,peek W.K S (bindArgs fd ⟨vs,[]⟩)=some binds)∧wg W.hid ρ h ab binds)
 (hab:(decide (ab.map (·.1)).Nodup&&ab.all λ p=>fd.scope.names.lookup p.1==some .local||fd.scope.names.lookup p.1==some .cell)=true)
 (hη:wB W fd.scope.names ab=η₀)
 (h:∀ L,qo W d (callEnvC fd L a) C body η₀ σ (λ fl _ σ'=>Q fl.val σ') E):oK W (d+1) l C (.cst (.ref a)) as σ Q E:=λ A s ρ fv vs hr hfr Fl R hf hv=>by
 refine VR.aX hf ?_
 refine vD O hK hb hcd hok hbind hab hη hr R hv λ h₁ tk₁ hkeep hsz hfresh R₁ bq=>?_
 refine codeAny_func (wpAny_mono (h s.heap.objs.size (A.deeper _) { s with heap:=h₁,toks:=tk₁ } ρ ⟨hr.handled,by have:=hr.depth; show A.depth+1+2*d+2<recursionLimit; lia,by have:=hr.units; show A.units+3+20*d+20<cLine; lia⟩ R₁ bq) (λ f c7 z=>?_) λ e c7 z=>?_)
 · obtain ⟨aF,aJ,δ₂,ai,oW,aN,aR,R₂,fl,η₂,F₂,fx,bF⟩:=z
   subst oW
   have zP:aH ([]++ρ) s.heap aF:=⟨Nat.le_trans hsz aN.size,λ b o e n=>aN.keep b o (hkeep b o e) λ m=>by
    rcases List.mem_append.mp m with m | m
    · exact absurd (Heap.lt_size e) (Nat.not_lt.mpr (hfresh b m))
    · exact n m⟩
   have fin:∀ (v:Value) (u:AV),VR W.hid (ρ++δ₂) aF u v→Q u ai→Post W [] ρ s (QV W Q v) { s with heap:=aF,toks:=aJ }:=λ v u z q =>
    ⟨aF,aJ,δ₂,ai,rfl,zP,λ b hb=>Nat.le_trans hsz (aR b hb),R₂,u,z,q⟩
   cases fx with
   | next=>exact fin _ _ .none bF
   | brk=>exact fin _ _ .none bF
   | cont=>exact fin _ _ .none bF
   | ret hv=>exact fin _ _ hv bF
 · obtain ⟨h₀,h',tk',δ,σ',x,args,η',rfl,rfl,p,f,r,F,m,sz,q⟩:=z
   have hfl:∀ y∈tH l,y∉addrs (callEnvC fd s.heap.objs.size a)++ρ:=λ y hy n=>by
    rcases List.mem_append.mp n with n | n
    · obtain ⟨o,e,_⟩:=Fl.mt y hy
      exact absurd (Heap.lt_size e) (Nat.not_lt.mpr (hfresh y n))
    · exact Fl.out y hy n
   have P₀:aH (addrs (callEnvC fd s.heap.objs.size a)++ρ) s.heap h₀:=⟨Nat.le_trans hsz p.size,λ b o e n=>p.keep b o (hkeep b o e) n⟩
   have Nv:oX W l (ρ++δ) h₀:=Fl.mono P₀ hfl λ b hb=>Nat.le_trans hsz (f b hb)
   have sI:oX W (callEnvC fd s.heap.objs.size a :: l) (ρ++δ) h₀:=oX.push F Nv rfl
   refine wpAny_mono (grow (wpAny_leaves_madeW (base:=hideAll h₀ (tH (callEnvC fd s.heap.objs.size a :: l))) (h:=h₀) (Q:=λ _ s'=>∃ h'' t,Heap.FlyingW (hideAll h₀ (tH (callEnvC fd s.heap.objs.size a :: l))) l x (.ref C) (.ref t) h''∧h'.UpToSlots h''∧s'={ s with heap:=h'',toks:=tk' }) (Around.frames_deeper hfr) rfl (λ b o q=>of_hideAll _ q) (funFrames_hide sI.fn λ env he b hb=>List.mem_filterMap.mpr ⟨env,he,hb⟩) m λ h'' t x1 x2 x3 x4=>⟨h'',t,x1,x4,rfl⟩)) (λ _ q7 z=>?_) λ _ _ z=>z.1
   obtain ⟨⟨h'',t,Qt,up,rfl⟩,sz'⟩:=z
   refine ⟨h₀,h'',tk',δ,σ',tH (callEnvC fd s.heap.objs.size a :: l),x,_,rfl,rfl,⟨P₀.size,λ b o e n=>P₀.keep b o e λ z=>?_⟩,λ b hb=>Nat.le_trans hsz (f b hb),r,λ y hy=>⟨sI.out y hy,(Heap.FunFrames.mem sI.fn hy).1,?_⟩,sI.mt,Qt,(Heap.UpToSlots.of_keeps m.keeps).trans up,Nat.le_trans sz sz',q⟩
   · rcases List.mem_append.mp z with z | z
     · exact absurd (Heap.lt_size e) (Nat.not_lt.mpr (hfresh b z))
     · exact n z
   · rcases List.mem_cons.mp (show y∈(callEnvC fd s.heap.objs.size a).locals :: tH l from hy) with rfl | hy
     · exact .inr (hfresh _ (List.mem_cons_self ..))
     · exact .inl hy
end
section
variable {W:Wl} {d:Nat} {env:Env} {η:En} {σ:List AO}
theorem qo.if {C:Addr} {t:Expr} {b rest:List Stmt} {pos:Pos} {Q:Fl→En→List AO→Prop} {E:List AO→Prop}
 (h:bY W d env t η σ λ c af=>if c=true then qo W d env C b η af (λ fl η' σ'=>fl.go η' σ' Q (qo W d env C rest η' σ' Q E)) E else qo W d env C rest η af Q E):qo W d env C (.If t b [] pos :: rest) η σ Q E:=λ A s ρ hr R F=>by
 refine wpAny_execs_cons (wpAny_If (aM (h A s ρ hr R F) λ c h₁ tk₁ δ af p f R₁ q=>?_))
 have p':aH (addrs env++ρ) s.heap h₁:=p.weaken λ a ha=>List.mem_append_right _ ha
 have bq:=F.mono R.muts p f
 cases c with
 | false=>exact wpAny_execs_nil (wpAny_mono (q A _ _ hr R₁ bq) (λ x s' z=>Post.chain p' f z) λ _ _ x=>x.chain p' f)
 | true =>
  refine wpAny_mono (q A _ _ hr R₁ bq) (λ x s' z=>?_) λ _ _ x=>x.chain p' f
  obtain ⟨aF,aJ,δ₂,ai,rfl,aN,aR,R₂,fl,η₂,F₂,fx,bF⟩:=z
  have fin:∀ {Y:List Addr→List AO→Heap→Prop} {s':Shared},Post W (addrs env) ((ρ++δ)++δ₂) { s with heap:=aF,toks:=aJ } Y s'→Post W (addrs env) ρ s Y s':=λ z=>Post.chain (s:=s) p' f (Post.chain (s:={ s with heap:=h₁,toks:=tk₁ }) aN aR z)
  cases fx with
  | next=>exact wpAny_mono (bF A { s with heap:=aF,toks:=aJ } _ hr R₂ F₂) (λ x s' z=>fin z) λ _ _ x=>xN.chain p' f (xN.chain (s:={ s with heap:=h₁,toks:=tk₁ }) aN aR x)
  | brk=>exact fin (Post.here (s:={ s with heap:=aF,toks:=aJ }) R₂ ⟨.brk,η₂,F₂,.brk,bF⟩ aJ)
  | cont=>exact fin (Post.here (s:={ s with heap:=aF,toks:=aJ }) R₂ ⟨.cont,η₂,F₂,.cont,bF⟩ aJ)
  | ret hv=>exact fin (Post.here (s:={ s with heap:=aF,toks:=aJ }) R₂ ⟨.ret _,η₂,F₂,.ret hv,bF⟩ aJ)
theorem yr.chain {l:List Env} {C:Addr} {ρ δ:List Addr} {s:Shared} {h₁:Heap} {tk₁:Nat} {E:List AO→Prop} {e:Value} {s':Shared} (o4:aH ρ s.heap h₁) (tW:∀ a∈δ,s.heap.objs.size≤a)
 (z:yr W l C (ρ++δ) { s with heap:=h₁,toks:=tk₁ } E e s'):yr W l C ρ s E e s':=by
 obtain ⟨h₀,h',tk',δ',σ',S,a,a0,ee,es,p,f,r,hS,mt,fl,up,sz,q⟩:=z
 refine ⟨h₀,h',tk',δ++δ',σ',S,a,a0,ee,by rw [es],o4.trans tW p,λ b hb=>?_,by rw [← List.append_assoc]; exact r,λ x hx=>?_,mt,fl,up,sz,q⟩
 · rcases List.mem_append.mp hb with hb | hb
   · exact tW b hb
   · exact Nat.le_trans o4.size (f b hb)
 · obtain ⟨h1,h2,h3⟩:=hS x hx
   exact ⟨by rw [← List.append_assoc]; exact h1,h2,h3.imp id λ z=>Nat.le_trans o4.size z⟩
theorem Kr (O:W.Ok) {l:List Env} {C:Addr} {o:Expr} {name:Str} {apos pos:Pos} {args:List Expr} {Q:AV→List AO→Prop} {E:List AO→Prop} (hb:attributeBase o name env (eval o env)=eval o env) (hp:(apos.endLine==pos.line)=true)
 (hu:args.all aK=true) (hn:args.length<25) {A:Around} {s:Shared} {ρ:List Addr} (hr:Rm d A) (hfr:A.frames=some l) (Fl:oX W l ρ s.heap) (R:aL W ρ σ s.heap) (F:cT W env η ρ s.heap)
 (h:aT W d env o η σ λ a af=>cG W d a name af λ f first ai=>mX W d env pos args η ai λ as az=>oK W d l C f (first++as) az Q E) :
 wpAny W.M A (eval (.Call (.Attribute o name apos) args [] pos) env) (λ v s'=>Post W [] ρ s (QV W Q v) s') (λ e s'=>yr W l C ρ s E e s') s:=by
 show wpAny _ _ (do
  let ov ← attributeBase o name env (eval o env)
  standAt apos.atName
  methodCall o name apos pos env ov (args.length+0) (backTo pos (starEach args env)) []) _ _ _
 rw [hb]
 refine wpAny_bind (aM (h A s ρ hr R F) λ ov h₁ tk₁ δ af p f R₁ ⟨a,va,q⟩=>wpAny_bind (wpAny_standAt ?_))
 unfold methodCall
 have few:methodCallForm (args.length+0) (backTo pos (starEach args env)) []=true:=by
  have h1:=noStar (env:=env) (pos:=pos) hu
  have h2:(backTo pos (starEach args env)).all (λ x=>!x.1)=true:=by
   rw [List.any_eq_false] at h1
   rw [List.all_eq_true]
   intro x hx; have:=h1 x hx; simpa using this
  unfold methodCallForm
  simp only [h2,List.all_nil,List.isEmpty_nil,Bool.true_and,if_true,decide_eq_true_eq]
  lia
 rw [few]
 have bq:=F.mono R.muts p f
 have sI:oX W l (ρ++δ) h₁:=Fl.mono p Fl.out f
 refine wpAny_bind (wpAny_holding (aM (q A _ _ _ _ hr R₁ va) λ r aF aJ δ₂ ai aN aR R₂ ⟨fa,first,vf,Qh,hk,bF⟩=>?_))
 have hpos:methodCallPos true o env apos pos=pure pos:=by unfold methodCallPos; rw [hp]; rfl
 rw [hpos]
 refine wpAny_bind (wpAny_pure ?_)
 have Au:oX W l ((ρ++δ)++δ₂) aF:=sI.mono aN sI.out aR
 have F₂:=bq.mono R₁.muts aN aR
 refine callWith_of (P:=λ h=>∃ ρ',W.K.In h∧VR W.hid ρ' h fa r.1) (by rw [noStar hu]; rfl) (λ h ⟨ρ',X,v⟩=>hk ρ' h r.1 X v) ?_
 refine lA hu (aM (bF A _ _ hr R₂ F₂) λ ws cz c9 δ₃ az cA f₃ R₃ ⟨as,vs,nC⟩=>?_)
 have Nx:oX W l (((ρ++δ)++δ₂)++δ₃) cz:=Au.mono cA Au.out f₃
 refine ⟨⟨((ρ++δ)++δ₂)++δ₃,R₃.tB O,vf.mono R₂.muts cA⟩,?_⟩
 refine wpAny_call (codeAny_mono (nC A { s with heap:=cz,toks:=c9 } _ r.1 (r.2++ws) hr hfr Nx R₃ (vf.mono R₂.muts cA) ((Qh.mono R₂.muts cA).append vs)) λ res s' z=>?_)
 cases res with
 | error e=>exact yr.chain p f (yr.chain (s:={ s with heap:=h₁,toks:=tk₁ }) aN aR (yr.chain (s:={ s with heap:=aF,toks:=aJ }) cA f₃ z))
 | ok f'=>cases f' with
  | ret v=>exact Post.chain (S:=[]) p f (Post.chain (S:=[]) (s:={ s with heap:=h₁,toks:=tk₁ }) aN aR (Post.chain (S:=[]) (s:={ s with heap:=aF,toks:=aJ }) cA f₃ z))
  | _=>exact z.elim
end
section
variable {W:Wl} {d:Nat} {env:Env} {η:En} {σ:List AO}
theorem cT.slots {ρ S:List Addr} {h h':Heap} (F:cT W env η ρ h) (P:aH S h h') (M:cE W.hid h S) (up:h.UpToSlots h') (hS:∀ a∈addrs env,a∈S→a=env.locals):cT W env η ρ h':=by
 have hl:env.locals∈addrs env:=List.mem_cons_self ..
 obtain ⟨m,hn,hm⟩:=F.locs
 have hn':h'.Ns env.locals m:=up.ns hn
 refine ⟨F.ok,F.out,λ a ha=>Nat.lt_of_lt_of_le (F.lt a ha) P.size,F.A3,λ a ha=>?_,⟨m,hn',λ x v q=>?_⟩,λ x v hv=>?_,F.we⟩
 · by_cases hs:a∈S
   · rw [hS a ha hs]; exact pq hn'
   · obtain ⟨o,e,q⟩:=F.Bd a ha
     exact ⟨o,P.keep _ _ e hs,q⟩
 · obtain ⟨w,e,z⟩:=hm x v q
   exact ⟨w,e,z.one M P⟩
 · obtain ⟨c,w,e1,⟨o,ho,hd⟩,e3⟩:=F.cells x v hv
   have hm:(x,c)∈env.cells:=mem_of_lookup e1
   have hc:c∈addrs env:=List.mem_cons_of_mem _ (List.mem_map.mpr ⟨(x,c),hm,rfl⟩)
   have hns:c∉S:=λ q=>F.ok.Aa (x,c) hm (hS c hc q)
   refine ⟨c,w,e1,⟨o,P.keep _ _ ho hns,hd⟩,λ a ha=>?_⟩
   obtain ⟨w',q,z⟩:=e3 a ha
   exact ⟨w',q,z.one M P⟩
abbrev IK (S:List Addr) (h h':Heap):Prop:=∀ a∈S,∀ o,h.get? a=some o→∃ sl,h'.get? a=some { o with slots:=sl }
theorem Av (O:W.Ok) {l:List Env} {C N:Addr} {nm q:Str} {bs bm:List Value} {hdct:Bool} {sn:List Str} {sub:List Value} {ab:Bool} {col:Option Bool} {dd:Option Addr} {k0 k1 k2 k3 k5:Option Value} {newId:String}
 (hC:W.hb.get? C=some (excClassObj nm q C N bs bm hdct sn sub ab col dd k0 k1 k2 k3 k5 newId)) (hbase:bm.contains (.type "BaseException")=true)
 {x:Str} {np cp rp hp:Pos} {kk:Nat} {A:Around} {s s':Shared} {ρ:List Addr} {E:List AO→Prop} {e:Value} (hfr:A.frames=some (env :: l)) (hf:env.frame=some env.locals) (hap:∀ y∈addrs env,y∉tH l)
 (F:cT W env η ρ s.heap) (Fl:oX W l ρ s.heap) (R:aL W ρ σ s.heap) (hx:yi η x (.cst (.ref C))) (z:yr W (env :: l) C ρ s E e s') :
 wpAny W.M A (noteFrame e env) (λ _ c7=>wpAny W.M A (setFlight e none) (λ _ q7=>wpAny W.M A (handleBy e env [.ExceptHandler (some (.Name x np)) none [.Return (some (.Constant .none kk cp)) rp] hp]) (λ f zR=>f=.ret .none∧Post W (tH (env :: l)) ρ s (λ _ σ' h''=>E σ'∧IK (tH l) s.heap h'') zR) nD q7) nD c7) nD s':=by
 obtain ⟨h₀,h',tk',δ,σ',S,a,a0,rfl,rfl,p,f,r,hS,mt,Qt,up,sz,qE⟩:=z
 have LH:cT W env η (ρ++δ) h₀:=F.mono R.muts p f
 have Tz:∀ y∈addrs env,y∈S→y=env.locals:=λ y hy hs=>by
  rcases (hS y hs).2.2 with m | m
  · obtain ⟨e',he',hfe⟩:=List.mem_filterMap.mp m
    rcases List.mem_cons.mp he' with rfl | he'
    · rw [hf] at hfe; exact (Option.some.inj hfe).symm
    · exact absurd (List.mem_filterMap.mpr ⟨e',he',hfe⟩) (hap y hy)
  · exact absurd (F.lt y hy) (Nat.not_lt.mpr m)
 have keep:∀ {aF:Heap} {Rc:List Env},Heap.FlyingW (hideAll h₀ S) Rc a (.ref C) a0 aF→h₀.objs.size≤aF.objs.size→aH S h₀ aF:=λ fl hz=>⟨hz,λ b o e n=>fl.1 _ _ (hideAll_get _ e n)⟩
 refine wpAny_mono (grow (wpAny_looks_onW (Q:=λ _ c7=>∃ aF,Heap.HeldW (hideAll h₀ S) (env :: l) a (.ref C) a0 env.locals aF∧h'.UpToSlots aF∧c7={ s with heap:=aF,toks:=tk' }) hfr hf Qt λ aF x1 x2=>⟨aF,x1,x2,rfl⟩)) (λ _ c7 z=>?_) λ _ _ z=>z.1
 obtain ⟨⟨aF,held,IL,rfl⟩,z2⟩:=z
 refine wpAny_mono (grow (wpAny_landsW (Q:=λ _ c7=>∃ cz,Heap.FlyingW (hideAll h₀ S) (env :: l) a (.ref C) a0 cz∧aF.UpToSlots cz∧c7={ s with heap:=cz,toks:=tk' }) held λ cz x1 x2=>⟨cz,x1,x2,rfl⟩)) (λ _ q7 z=>?_) λ _ _ z=>z.1
 obtain ⟨⟨cz,Br,IM,rfl⟩,z3⟩:=z
 have z2:h'.objs.size≤aF.objs.size:=z2
 have z3:aF.objs.size≤cz.objs.size:=z3
 have P₃:aH S h₀ cz:=keep Br (Nat.le_trans sz (Nat.le_trans z2 z3))
 have F₃:cT W env η (ρ++δ) cz:=LH.slots P₃ mt (up.trans (IL.trans IM)) Tz
 have R₃:aL W (ρ++δ) σ' cz:=r.keepsBut P₃ mt λ y hy=>⟨(hS y hy).1,(hS y hy).2.1⟩
 have Ny:cz.get? C=some (excClassObj nm q C N bs bm hdct sn sub ab col dd k0 k1 k2 k3 k5 newId):=R₃.base _ _ hC
 obtain ⟨oe,he,hcls⟩:=Br.there
 refine wpAny_handleBy_cons (codeAny_handlers_test (wpAny_Name (cW (s:={ s with heap:=cz,toks:=tk' }) O hx R₃ F₃ λ w z=>?_) (hx.CX F₃))) (by intro q; cases q)
 refine VR.aX z (wpAny_excMatches_sub_self Ny he hcls hbase ?_)
 refine codeAny_handlers_suite (wpAny_mono (grow (lands_againW (Q:=λ _ c7=>∃ dh,Heap.FlyingW (hideAll h₀ S) (env :: l) a (.ref C) a0 dh∧cz.UpToSlots dh∧c7={ s with heap:=dh,toks:=tk' }) Br λ dh x1 x2=>⟨dh,x1,x2,rfl⟩)) (λ _ zR z=>?_) λ _ _ z=>z.1)
 obtain ⟨⟨dh,Ks,Nz,rfl⟩,z4⟩:=z
 have z4:cz.objs.size≤dh.objs.size:=z4
 have P₄:aH S h₀ dh:=keep Ks (Nat.le_trans P₃.size z4)
 refine wpAny_execs_cons (wpAny_Return_some (wpAny_Constant_none ?_))
 refine ⟨rfl,dh,tk',δ,σ',rfl,⟨Nat.le_trans p.size P₄.size,λ b o e n=>?_⟩,f,r.keepsBut P₄ mt λ y hy=>⟨(hS y hy).1,(hS y hy).2.1⟩,qE,λ b hb o e=>?_⟩
 rotate_left
 · obtain ⟨_,o',e',hd⟩:=Heap.FunFrames.mem Fl.fn hb
   rw [e] at e'; cases e'
   exact (up.trans (IL.trans (IM.trans Nz))) b o (p.keep _ _ e (Fl.out b hb)) hd
 rw [List.mem_append,not_or] at n
 refine P₄.keep _ _ (p.keep _ _ e n.2) λ m=>?_
 rcases (hS b m).2.2 with m | m
 · exact n.1 m
 · exact absurd (Heap.lt_size e) (Nat.not_lt.mpr m)
def xO (W:Wl) (d:Nat) (l:List Env) (f:AV) (as:List AV) (σ:List AO) (Q:AV→List AO→Prop):Prop :=
 ∀ A s ρ v vs,Rm d A→A.frames=some l→oX W l ρ s.heap→aL W ρ σ s.heap→VR W.hid ρ s.heap f v→bh W.hid ρ s.heap as vs →
  codeAny W.M A (.call v ⟨vs,[]⟩) (λ r s'=>match r with | .ok (.ret v)=>Post W (tH l) ρ s (λ ρ' σ' h'=>IK (tH l) s.heap h'∧QV W Q v ρ' σ' h') s' | .ok _=>False | .error e=>nD e s') s
def yQ (W:Wl) (d:Nat) (l:List Env) (L:Addr) (f:AV) (as:List AV) (σ:List AO) (Q:AV→List AO→Prop):Prop :=
 ∀ A s ρ v vs,Rm d A→A.frames=some l→oX W l ρ s.heap→aL W ρ σ s.heap→VR W.hid ρ s.heap f v→bh W.hid ρ s.heap as vs→s.heap.objs.size=L →
  codeAny W.M A (.call v ⟨vs,[]⟩) (λ r s'=>match r with | .ok (.ret v)=>Post W (tH l) ρ s (λ ρ' σ' h'=>IK (tH l) s.heap h'∧QV W Q v ρ' σ' h') s' | .ok _=>False | .error e=>nD e s') s
inductive Pn (s:Stmt) (x:Str) (st:Stmt):Prop
 | mk (np:Pos) (kk:Nat) (cp rp hp tp:Pos) (h:st=.Try [s] [.ExceptHandler (some (.Name x np)) none [.Return (some (.Constant .none kk cp)) rp] hp] [] [] tp):Pn s x st
theorem yQ.try (O:W.Ok) {a C N L:Addr} {fd:FuncData} {st:Stmt} {rest:List Stmt} {oc:Value} {od:Option Addr} {osl:Array (Option Value)} {as:List AV} {ab:List (Str×AV)} {η₀:En} {l:List Env} {Q:AV→List AO→Prop} {E:List AO→Prop}
 {nm q:Str} {bs bm:List Value} {hdct:Bool} {sn:List Str} {sub:List Value} {TA:Bool} {col:Option Bool} {dd:Option Addr} {k0 k1 k2 k3 k5:Option Value} {newId:String}
 (hC:W.hb.get? C=some (excClassObj nm q C N bs bm hdct sn sub TA col dd k0 k1 k2 k3 k5 newId)) (hbase:bm.contains (.type "BaseException")=true)
 {x y name:Str} {py apos cpos sp:Pos} {o t ex gf:Expr} {bE:Stmt} {args:List Expr}
 (hK:W.K.lookup a=some ⟨oc,od,.func fd,osl⟩) (hb:fd.body=.stmts (st :: rest)) (V:Pn bE x st) (es:bE=.Assign [t] ex sp) (et:t=.Name y py) (ec:ex=.Call gf args [] cpos) (eg:gf=.Attribute o name apos) (hcd:codeIn W.K fd.code fd.qualname=true) (hok:Be fd=true)
 (hbind:∀ ρ h vs,bh W.hid ρ h as vs→∃ binds,(∀ S,peek W.K S (bindArgs fd ⟨vs,[]⟩)=some binds)∧wg W.hid ρ h ab binds)
 (hab:(decide (ab.map (·.1)).Nodup&&ab.all λ p=>fd.scope.names.lookup p.1==some .local||fd.scope.names.lookup p.1==some .cell)=true)
 (hη:wB W fd.scope.names ab=η₀) (hx:yi η₀ x (.cst (.ref C)))
 (hs:swapsWith ex (some t) sp.line (callEnvC fd L a)=pure false)
 (hat:attributeBase o name (callEnvC fd L a) (eval o (callEnvC fd L a))=eval o (callEnvC fd L a)) (hpos:(apos.endLine==cpos.line)=true) (hu:args.all aK=true) (hn:args.length<25)
 (h:aT W d (callEnvC fd L a) o η₀ σ λ v af=>cG W d v name af λ f first ai=>mX W d (callEnvC fd L a) cpos args η₀ ai λ as az=>oK W d (callEnvC fd L a :: l) C f (first++as) az
  (λ v aY=>∃ η',Up η₀ y v η'∧cF W d (callEnvC fd L a) rest η' aY λ fl _ σ'=>Q fl.val σ') E)
 (hE:∀ σ',E σ'→Q .none σ'):yQ W (d+1) l L (.cst (.ref a)) as σ Q:=λ A s ρ fv vs hr hfr Fl R hf hv hL=>by
 subst hL
 obtain ⟨np,kk,cp,rp,hp,tp,V⟩:=V
 subst eg
 subst ec
 subst et
 subst es
 subst V
 refine VR.aX hf ?_
 refine vD O hK hb hcd hok hbind hab hη hr R hv λ h₁ tk₁ hkeep hsz hfresh R₁ bq=>?_
 have IP:Rm d (A.deeper (callEnvC fd s.heap.objs.size a)):=⟨hr.handled,by have:=hr.depth; show A.depth+1+2*d+2<recursionLimit; lia,by have:=hr.units; show A.units+3+20*d+20<cLine; lia⟩
 have hap:∀ y∈addrs (callEnvC fd s.heap.objs.size a),y∉tH l:=λ y hy m=>by
  obtain ⟨ob,e,_⟩:=Fl.mt y m
  exact absurd (Heap.lt_size e) (Nat.not_lt.mpr (hfresh y hy))
 have ED:=Around.frames_deeper (env:=callEnvC fd s.heap.objs.size a) hfr
 have o4:aH ρ s.heap h₁:=⟨hsz,λ b o e _=>hkeep b o e⟩
 have Au:oX W l ρ h₁:=by
  have:=Fl.mono (δ:=[]) o4 Fl.out (λ _ h=>nomatch h)
  rwa [List.append_nil] at this
 have sI:oX W (callEnvC fd s.heap.objs.size a :: l) ρ h₁:=by
  exact oX.push bq Au rfl
 have fin:∀ {δ:List Addr} {aF:Heap} {aJ:Nat} {ai:List AO} (v:Value) (u:AV),aH (addrs (callEnvC fd s.heap.objs.size a)++(tH l++ρ)) h₁ aF→(∀ b∈δ,h₁.objs.size≤b)→aL W (ρ++δ) ai aF→VR W.hid (ρ++δ) aF u v→Q u ai→IK (tH l) h₁ aF →
  Post W (tH l) ρ s (λ ρ' σ' h'=>IK (tH l) s.heap h'∧QV W Q v ρ' σ' h') { s with heap:=aF,toks:=aJ }:=λ {δ aF aJ ai} v u p f r z q uf =>
  ⟨aF,aJ,δ,ai,rfl,⟨Nat.le_trans hsz p.size,λ b o e n=>p.keep b o (hkeep b o e) λ m=>by
   rcases List.mem_append.mp m with m | m
   · exact absurd (Heap.lt_size e) (Nat.not_lt.mpr (hfresh b m))
   · exact n m⟩,λ b hb=>Nat.le_trans hsz (f b hb),r,λ b hb o e=>uf b hb o (hkeep b o e),u,z,q⟩
 refine codeAny_func (pA ?_ λ _ _ z=>z)
 refine wpAny_execs_cons (wpAny_Try_except (wpAny_execs_cons (wpAny_Assign_Name (wpAny_mono (Kr O hat hpos hu hn IP ED sI R₁ bq h) (λ v c7 z=>?_) λ e c7 z=>?_) hs)))
 · obtain ⟨aF,aJ,δ₂,ai,rfl,aN,aR,R₂,av,va,η',U,q⟩:=z
   have p':aH (addrs (callEnvC fd s.heap.objs.size a)++ρ) h₁ aF:=aN.weaken λ a ha=>List.mem_append_right _ ha
   refine yI (iQ (Q:=λ ρ' σ' h'=>cT W (callEnvC fd s.heap.objs.size a) η' ρ' h'∧σ'=ai∧aL W ρ' σ' h') (s:={ s with heap:=aF,toks:=aJ }) U R₂ (bq.mono R₁.muts aN aR) va λ h' F' R'=>⟨F',rfl,R'⟩) λ _ cz c9 δ₃ az cA f₃ R₃ ⟨F₃,wG,_⟩=>?_
   subst wG
   refine wpAny_execs_nil (wpAny_execs_nil ?_)
   refine wpAny_mono (q (A.deeper (callEnvC fd s.heap.objs.size a)) { s with heap:=cz,toks:=c9 } _ IP R₃ F₃) (λ fl zR z=>?_) λ _ _ x=>x
   obtain ⟨dh,qw,δ₄,aY,rfl,p₄,f₄,R₄,Uj,η₄,F₄,fx,q₄⟩:=z
   have P₄:aH (addrs (callEnvC fd s.heap.objs.size a)++ρ) h₁ dh:=p'.trans aR (by rw [List.append_assoc]; exact cA.trans f₃ (by rw [List.append_assoc]; exact p₄))
   have P₅:aH (addrs (callEnvC fd s.heap.objs.size a)++(tH l++ρ)) h₁ dh:=P₄.weaken λ b hb=>by
    rcases List.mem_append.mp hb with hb | hb
    · exact List.mem_append_left _ hb
    · exact List.mem_append_right _ (List.mem_append_right _ hb)
   have f₅:∀ b∈(δ₂++δ₃)++δ₄,h₁.objs.size≤b:=λ b hb=>by
    rcases List.mem_append.mp hb with hb | hb
    · rcases List.mem_append.mp hb with hb | hb
      · exact aR b hb
      · exact Nat.le_trans aN.size (f₃ b hb)
    · exact Nat.le_trans aN.size (Nat.le_trans cA.size (f₄ b hb))
   have uf:IK (tH l) h₁ dh:=λ b hb o e=>⟨o.slots,P₄.keep b o e λ m=>by
    rcases List.mem_append.mp m with m | m
    · exact hap b m hb
    · exact Fl.out b hb m⟩
   have R₅:aL W (ρ++((δ₂++δ₃)++δ₄)) aY dh:=by rw [← List.append_assoc,← List.append_assoc]; exact R₄
   cases fx with
   | next=>exact fin _ _ P₅ f₅ R₅ .none q₄ uf
   | brk=>exact fin _ _ P₅ f₅ R₅ .none q₄ uf
   | cont=>exact fin _ _ P₅ f₅ R₅ .none q₄ uf
   | ret hv=>exact fin _ _ P₅ f₅ R₅ (by rw [← List.append_assoc,← List.append_assoc]; exact hv) q₄ uf
 · refine wpAny_mono (Av O hC hbase ED rfl hap (s:={ s with heap:=h₁,toks:=tk₁ }) bq Au R₁ hx z) (λ _ q7 z=>wpAny_mono z (λ _ zR z=>wpAny_mono z (λ f O7 z=>?_) λ _ _ x=>x) λ _ _ x=>x) λ _ _ x=>x
   obtain ⟨rfl,aF,aJ,δ₂,ai,rfl,aN,aR,R₂,q,uf⟩:=z
   refine fin _ _ (aN.weaken λ b hb=>?_) aR R₂ .none (hE _ q) uf
   rcases List.mem_append.mp hb with hb | hb
   · rcases List.mem_cons.mp (show b∈(callEnvC fd s.heap.objs.size a).locals :: tH l from hb) with rfl | hb
     · exact List.mem_append_left _ (List.mem_cons_self ..)
     · exact List.mem_append_right _ (List.mem_append_left _ hb)
   · exact List.mem_append_right _ (List.mem_append_right _ hb)
end
section
variable {W:Wl} {d:Nat} {env:Env} {η:En} {σ:List AO}
theorem cT.upTo {ρ δ:List Addr} {h h':Heap} (F:cT W env η ρ h) (M:cE W.hid h ρ) (P:aH ([env.locals]++ρ) h h') (uf:IK [env.locals] h h') (f:∀ a∈δ,h.objs.size≤a):cT W env η (ρ++δ) h':=by
 have hl:env.locals∈addrs env:=List.mem_cons_self ..
 have M':cE W.hid h ([env.locals]++ρ):=λ a ha=>by
  rcases List.mem_append.mp ha with ha | ha
  · rw [List.mem_singleton.mp ha]; exact F.Bd _ hl
  · exact M a ha
 obtain ⟨m,⟨o,es,ep,ho,r⟩,hv⟩:=F.locs
 obtain ⟨sl,ho'⟩:=uf env.locals (List.mem_singleton.mpr rfl) o ho
 have hn':h'.Ns env.locals m:=⟨_,es,ep,ho',r⟩
 have kp:∀ a∈addrs env,a≠env.locals→∀ o,h.get? a=some o→h'.get? a=some o:=λ a ha hne o e=>P.keep a o e λ m=>by
  rcases List.mem_append.mp m with m | m
  · exact hne (List.mem_singleton.mp m)
  · exact F.out a ha m
 refine ⟨F.ok,λ a ha m=>?_,λ a ha=>Nat.lt_of_lt_of_le (F.lt a ha) P.size,F.A3,λ a ha=>?_,⟨m,hn',λ x v q=>?_⟩,λ x v hv=>?_,F.we⟩
 · rcases List.mem_append.mp m with m | m
   · exact F.out a ha m
   · exact absurd (F.lt a ha) (Nat.not_lt.mpr (f a m))
 · by_cases hs:a=env.locals
   · rw [hs]; exact pq hn'
   · obtain ⟨o,e,q⟩:=F.Bd a ha
     exact ⟨o,kp a ha hs o e,q⟩
 · obtain ⟨w,e,z⟩:=hv x v q
   exact ⟨w,e,z.mono M' P⟩
 · obtain ⟨c,w,e1,⟨o,ho,hd⟩,e3⟩:=F.cells x v hv
   have hm:(x,c)∈env.cells:=mem_of_lookup e1
   have hc:c∈addrs env:=List.mem_cons_of_mem _ (List.mem_map.mpr ⟨(x,c),hm,rfl⟩)
   refine ⟨c,w,e1,⟨o,kp c hc (F.ok.Aa (x,c) hm) o ho,hd⟩,λ a ha=>?_⟩
   obtain ⟨w',q,z⟩:=e3 a ha
   exact ⟨w',q,z.mono M' P⟩
def cg (W:Wl) (d:Nat) (env:Env) (sts:List Stmt) (η:En) (σ:List AO) (Q:Fl→En→List AO→Prop):Prop :=
 ∀ A s ρ,Rm d A→A.frames=some [env]→aL W ρ σ s.heap→cT W env η ρ s.heap→wpAny W.M A (execs sts env) (λ f s'=>Post W (addrs env) ρ s (QF W env Q f) s') nD s
theorem cg.of {sts:List Stmt} {Q:Fl→En→List AO→Prop} (h:cF W d env sts η σ Q):cg W d env sts η σ Q:=λ A s ρ hr _ R F=>h A s ρ hr R F
theorem Po {rest:List Stmt} {Q:Fl→En→List AO→Prop} {A:Around} {s:Shared} {ρ:List Addr} (hr:Rm d A) (hfr:A.frames=some [env]) {f:Flow} {s':Shared}
 (z:Post W (addrs env) ρ s (QF W env (λ fl η₁ af=>fl.go η₁ af Q (cg W d env rest η₁ af Q)) f) s') :
 (match (generalizing:=false) f with | .next=>wpAny W.M A (execs rest env) (λ f s'=>Post W (addrs env) ρ s (QF W env Q f) s') nD s' | f=>Post W (addrs env) ρ s (QF W env Q f) s'):=by
 obtain ⟨h₁,tk₁,δ,af,rfl,p,fr,R₁,fl,η₁,bq,fx,q⟩:=z
 cases fx with
 | next=>exact wpAny_mono (q A { s with heap:=h₁,toks:=tk₁ } _ hr hfr R₁ bq) (λ x s' z=>Post.chain p fr z) λ _ _ x=>x
 | brk=>exact ⟨h₁,tk₁,δ,af,rfl,p,fr,R₁,.brk,η₁,bq,.brk,q⟩
 | cont=>exact ⟨h₁,tk₁,δ,af,rfl,p,fr,R₁,.cont,η₁,bq,.cont,q⟩
 | ret hv=>exact ⟨h₁,tk₁,δ,af,rfl,p,fr,R₁,.ret _,η₁,bq,.ret hv,q⟩
theorem cg.pre {pre rest:List Stmt} {Q:Fl→En→List AO→Prop} (h:cF W d env pre η σ λ fl η₁ af=>fl.go η₁ af Q (cg W d env rest η₁ af Q)):cg W d env (pre++rest) η σ Q:=λ A s ρ hr hfr R F =>
 vH (wpAny_mono (h A s ρ hr R F) (λ f s' z=>Po hr hfr z) λ _ _ x=>x)
theorem cg.if {t:Expr} {b o rest:List Stmt} {pos:Pos} {Q:Fl→En→List AO→Prop}
 (h:bY W d env t η σ λ c af=>if c=true then cg W d env b η af (λ fl η' σ'=>fl.go η' σ' Q (cg W d env rest η' σ' Q)) else cg W d env o η af (λ fl η' σ'=>fl.go η' σ' Q (cg W d env rest η' σ' Q))):cg W d env (.If t b o pos :: rest) η σ Q:=λ A s ρ hr hfr R F=>by
 refine wpAny_execs_cons (wpAny_If (aM (h A s ρ hr R F) λ c h₁ tk₁ δ af p f R₁ q=>?_))
 have p':aH (addrs env++ρ) s.heap h₁:=p.weaken λ a ha=>List.mem_append_right _ ha
 have bq:=F.mono R.muts p f
 cases c<;>exact wpAny_mono (q A _ _ hr hfr R₁ bq) (λ x s' z=>Po hr hfr (Post.chain p' f z)) λ _ _ x=>x
theorem cg.for {target iter:Expr} {body orelse rest:List Stmt} {pos:Pos} {Inv:Nat→iL→En→List AO→Prop} {Q:Fl→En→List AO→Prop}
 (hit:qG W d env iter η σ λ k af=>∃ n η₀,Wk η₀ η∧Inv n k η₀ af)
 (turn:∀ n k η σ,Inv n k η σ→GA (cg W d env) W d env target body orelse Inv n k η σ (λ fl η' σ'=>fl.go η' σ' Q (cg W d env rest η' σ' Q)) (k.next σ))
 (hs:∀ x,foldedSetIterable iter env x=pure x:=by intro _; rfl):cg W d env (.For target iter body orelse pos :: rest) η σ Q:=λ A s ρ hr hfr R F =>
 wpAny_execs_cons (wpAny_mono (Iv (B:=cg W d env) hr (λ h s ρ R F=>h A s ρ hr hfr R F) hit turn hs R F) (λ f s' z=>Po hr hfr z) λ _ _ x=>x)
theorem cg.told (O:W.Ok) {a:Addr} {x y:Str} {fp py cpos sp:Pos} {args:List Expr} {rest:List Stmt} {Q:Fl→En→List AO→Prop} (hx:yi η x (.cst (.ref a))) (hk:b9 W (.cst (.ref a))) (hu:args.all aK=true)
 (hf:env.frame=some env.locals) (hs:swapsWith (.Call (.Name x fp) args [] cpos) (some (.Name y py)) sp.line env=pure false)
 (h:mX W d env cpos args η σ λ as af=>xO W d [env] (.cst (.ref a)) as af λ v ai=>∃ η',Up η y v η'∧cg W d env rest η' ai Q) :
 cg W d env (.Assign [.Name y py] (.Call (.Name x fp) args [] cpos) sp :: rest) η σ Q:=λ A s ρ hr hfr R F=>by
 have Qu:tH [env]=[env.locals]:=by
  unfold tH
  rw [List.filterMap_cons,hf]; rfl
 have hl:env.locals∈addrs env:=List.mem_cons_self ..
 have call:wpAny W.M A (eval (.Call (.Name x fp) args [] cpos) env) (λ v s'=>Post W [env.locals] ρ s (λ ρ' σ' h'=>IK [env.locals] s.heap h'∧QV W (λ v ai=>∃ η',Up η y v η'∧cg W d env rest η' ai Q) v ρ' σ' h') s') nD s:=by
  show wpAny _ _ (do callWith cpos (← eval (.Name x fp) env) [] (backTo cpos (starEach args env)) []) _ _ _
  refine wpAny_bind (wpAny_Name (cW O hx R F λ w z=>?_) (hx.CX F))
  refine callWith_of (P:=λ h=>∃ ρ',W.K.In h∧VR W.hid ρ' h (.cst (.ref a)) w) (by rw [noStar hu]; rfl) (λ h ⟨ρ',X,v⟩=>hk ρ' h w X v) ?_
  refine lA hu (aM (h A s ρ hr R F) λ ws h₁ tk₁ δ af p f R₁ ⟨as,vs,q⟩=>?_)
  have bq:=F.mono R.muts p f
  have sI:oX W [env] (ρ++δ) h₁:=oX.push bq ⟨trivial,(λ _ h=>nomatch h),(λ _ h=>nomatch h)⟩ hf
  refine ⟨⟨ρ++δ,R₁.tB O,z.mono R.muts p⟩,?_⟩
  refine wpAny_call (codeAny_mono (q A { s with heap:=h₁,toks:=tk₁ } _ w ([]++ws) hr hfr sI R₁ (z.mono R.muts p) vs) λ res s' z=>?_)
  cases res with
  | error e=>exact z.elim
  | ok f'=>cases f' with
   | ret v =>
    obtain ⟨aF,aJ,δ₂,ai,rfl,aN,aR,R₂,uf,bF⟩:=z
    rw [Qu] at aN uf
    exact Post.chain (S:=[env.locals]) (p.weaken λ a ha=>List.mem_append_right _ ha) f ⟨aF,aJ,δ₂,ai,rfl,aN,aR,R₂,λ b hb o e=>uf b hb o (p.keep _ _ e (by rw [List.mem_singleton.mp hb]; exact F.out _ hl)),bF⟩
   | _=>exact z.elim
 refine wpAny_execs_cons (wpAny_Assign_Name (yI call λ v h₁ tk₁ δ af p f R₁ ⟨uf,av,va,η',U,q⟩=>?_) hs)
 have LH:cT W env η (ρ++δ) h₁:=F.upTo R.muts p uf f
 have p':aH (addrs env++ρ) s.heap h₁:=p.weaken λ a ha=>by
  rcases List.mem_append.mp ha with ha | ha
  · rw [List.mem_singleton.mp ha]; exact List.mem_append_left _ hl
  · exact List.mem_append_right _ ha
 refine wpAny_mono (iQ (Q:=QF W env (λ fl η₁ af=>fl.go η₁ af Q (cg W d env rest η₁ af Q)) .next) (s:={ s with heap:=h₁,toks:=tk₁ }) U R₁ LH va λ h' F' R'=>⟨.next,η',F',.next,q⟩) (λ _ s' z=>?_) λ _ _ x=>x
 exact Po (f:=.next) hr hfr (Post.chain p' f z)
end
theorem zo (a:Int) (t:Tok) (l:Addr) (C dx:Addr) :
 Meets (Builtin.«int.__mul__» ⟨[.int a t,.ref l],[]⟩) (λ _ R s=>s.heap.get? l=some (instObj C dx)∧R (.ok (.ret Value.notImplemented)) s) :=
 .of_wp λ prog w A R s h=>by
  obtain ⟨hp,g,d,tk,os⟩:=s
  obtain ⟨hl,h⟩:=h
  have hl:hp.get? l=some ({ cls:=.ref C,dict:=some dx,data:=.plain }:Obj):=hl
  wp_walk
  exact ⟨_,rfl,h⟩
section
variable {prog:Program} {w:World} {A:Around} {E:Value→Shared→Prop} {s:Shared} {K:Frag} {D fD g y dx:Addr} {i:Int} {t:Tok}
theorem Dc {Q:Value→Shared→Prop} (X:K.In s.heap) (hy:s.heap.get? y=some (instObj D dx)) (L2:Looks (model prog w) s.heap (typeOf (.ref y)) (.ref D)) (hd:selfFirst K D=true)
 (h1:findIn K (.ref D) (PySem.dunder "mul")=some (some (.ref fD))) (h2:findIn K (.ref D) (dunderR "mul")=some (some (.ref g))) (hg:isFn K (.ref g)=true) (hsub:subIn K (.ref D) (.type "int")=some false)
 (h:wpAny (model prog w) A (call (.ref g) [.ref y,.int i t]) (PySem.W.CmpBack Q) E s):wpAny (model prog w) A (binaryOp1 "mul" (.int i t) (.ref y)) (λ r s'=>∃ v,r=some v∧Q v s') E s:=by
 obtain ⟨RJ,rest',GJ,hm'⟩:=ksp_first hd
 have L4:=fills_K (M:=model prog w) X GJ hm' h1
 have L5:=looks_subIn (M:=model prog w) X hsub
 have hne:(Value.type "int" == Value.ref D)=false:=Bool.eq_false_iff.mpr λ q=>by cases beq_iff_eq.mp q
 have one:wpAny (model prog w) A (tryMethod (.ref y) (dunderR "mul") (.int i t)) (λ r s'=>∃ v,r=some v∧Q v s') E s:=by
  refine Ao X L2 h2 hg (wpAny_mono h (λ v s' hv=>?_) λ _ _ e=>e)
  cases v<;>first | exact hv.elim | exact ⟨_,rfl,hv⟩
 unfold binaryOp1
 refine wpAny_bind (wpAny_typeOf (T := "int") (typeIs_int s i t) (wpAny_bind (L2.here (wpAny_bind (wpAny_of_eq PySem.F.fills_int_mul ?_)))))
 rw [hne]
 refine wpAny_bind (L4.here ?_)
 refine wpAny_bind (L5.here ?_)
 have TF:numberSlotInPython (.type "int") "mul" = pure false:=rfl
 simp only [Bool.false_eq_true,if_false,pure_bind,Bool.not_false,Bool.and_self,if_true,TF]
 clear L4 L5 h
 have step:wpAny (model prog w) A (call (.builtin "int.__mul__") [.int i t,.ref y]) (λ v s'=>v=.notImplemented∧s'=s) E s :=
  call_meets PySem.F.slot_int_mul (typeIs_int s i t) PySem.F.entry_int_mul (PySem.F.args_int_mul_2 _ _) (zo i t y D dx) ⟨hy,rfl,rfl⟩
 have tm:wpAny (model prog w) A (tryMethod (.int i t) (PySem.dunder "mul") (.ref y)) (λ r s'=>r=none∧s'=s) E s :=
  wpAny_tryMethod_declines (T := "int") (name:=PySem.dunder "mul") (id := "int.__mul__") (typeIs_int s i t) PySem.F.slot_int_mul (wpAny_mono step (λ v s' z=>⟨z.1,rfl,z.2⟩) λ _ _ e=>e)
 refine wpAny_bind (wpAny_mono tm (λ r s' z=>?_) λ _ _ e=>e)
 obtain ⟨rfl,e⟩:=z
 rw [e]
 refine wpAny_bind (wpAny_mono one (λ r s' z=>?_) λ _ _ e=>e)
 obtain ⟨v,rfl,q⟩:=z
 exact wpAny_bind (wpAny_rule (wpAny_pure ⟨_,rfl,q⟩))
end
section
variable {W:Wl} {d:Nat} {σ:List AO}
noncomputable def EE (K:Frag) (D fD g:Addr):Bool:=selfFirst K D&&(findIn K (.ref D) (PySem.dunder "mul")==some (some (.ref fD)))&&(findIn K (.ref D) (dunderR "mul")==some (some (.ref g)))&&isFn K (.ref g)&&(subIn K (.ref D) (.type "int")==some false)
theorem aU.rint (O:W.Ok) {i:Int} {n:Nat} {D g fD:Addr} {Q:AV→List AO→Prop} (hk:EE W.K D fD g=true)
 (h:ao W d (.cst (.ref g)) [.inst D n,.int i] σ λ v σ'=>qR v=true∧Q v σ'):aU W d .Mult (.int i) (.inst D n) σ Q:=λ A s ρ vs hr R hv=>by
 refine hv.aq λ va _ ha' hv=>?_
 refine hv.aq λ vb _ hb' hv=>?_
 refine bh.aW hv ?_
 have Bk:=hb'
 have GK:=ha'
 have X:=R.tB O
 have L2:=(iR.inst (W:=W) (C:=D) (n:=n)) _ _ _ X hb' W.M
 cases ha' with | @int _ t =>
 cases hb' with | inst e hy =>
 unfold EE at hk
 simp only [Bool.and_eq_true,beq_iff_eq] at hk
 obtain ⟨⟨⟨⟨h1,h2⟩,h3⟩,h4⟩,h5⟩:=hk
 refine wM (Dc X hy L2 h1 h2 h3 h4 h5 (pA (h A s ρ _ _ hr R (.cst _) (.cons Bk (.cons GK .nil))) λ v s' z=>?_))
 obtain ⟨h',tk',δ,σ',e,p,ff,R',av,xK,hn,q⟩:=z
 have hne:=qn hn xK
 have z':Post W [] ρ s (QV W Q v) s':=⟨h',tk',δ,σ',e,p,ff,R',av,xK,q⟩
 cases v<;>first | exact (hne rfl).elim | exact z'
end
def aa (a:Int):Prop:=-1152921504606846976≤a∧a≤1152921504606846976
theorem aa.ok {a:Int} (h:aa a):a.natAbs<2^64:=by unfold aa at h; omega
def oY (b:Bool) (p:Prop):Prop:=match b with
 | true=>p
 | false=>False
theorem aB {b:Bool} {p:Prop} (h:oY b p):b=true∧p:=by
 cases b with
 | true=>exact ⟨rfl,h⟩
 | false=>exact h.elim
noncomputable def Cp {α:Type} (t:Sem α):Option α:=if h:t.ctorIdx=0 then Sem.pure.elim (motive:=λ _=>Option α) t h some else none
theorem xP {α:Type} {t:Sem α} {a:α} (h:Cp t=some a):t=pure a:=by
 obtain ⟨hp,h⟩:=yh h
 exact Sem.pure.elim (motive:=λ t=>∀ hp,Sem.pure.elim (motive:=λ _=>Option α) t hp some=some a→t=Sem.pure a) t hp (λ _ _ h=>congrArg _ (Option.some.inj h)) hp h
noncomputable def wh (t:Sem Bool):Bool:=match t with
 | .pure false=>true
 | _=>false
theorem lC {t:Sem Bool} (h:wh t=true):t=pure false:=by
 cases t with
 | pure b=>cases b with
  | false=>rfl
  | true=>exact cV h
 | _=>exact cV h
def bG {α:Type} (o:Option α) (k:α→Prop) (z:Prop):Prop:=match o with
 | some a=>k a
 | none=>z
theorem aC {α:Type} {o:Option α} {k:α→Prop} {z P:Prop} (h:bG o k z) (h1:∀ a,o=some a→k a→P) (h2:o=none→z→P):P:=by
 cases o with
 | some a=>exact h1 a rfl h
 | none=>exact h2 rfl h
inductive BC where
 | lit (b:Bool)
 | sym (b:Bool)
noncomputable def BC.val:BC→Bool
 | .lit b=>b
 | .sym b=>b
noncomputable def BC.no:BC→BC
 | .lit b=>.lit (!b)
 | .sym b=>.sym (!b)
noncomputable def BC.av:BC→AV
 | .lit b=>.cst (.bool b)
 | .sym b=>.bool b
def A4 (c:BC) (A B:Prop):Prop:=match c with
 | .lit b=>(match b with
  | true=>A
  | false=>B)
 | .sym b=>(b=true→A)∧(b=false→B)
theorem m6 {c:BC} {A B:Prop} (h:A4 c A B):(c.val=true→A)∧(c.val=false→B):=by
 cases c with
 | lit b=>cases b with
  | true=>exact And.intro (λ _=>h) (λ e=>nomatch e)
  | false=>exact And.intro (λ e=>nomatch e) (λ _=>h)
 | sym b=>exact h
noncomputable def allB (bs:List Bool):Bool:=bs.all id
inductive Kd where
 | any | int | bool | tC | qJ | EF | lst | yes | no | EG
 | zU (c:Addr)
 | inst (C:Addr)
abbrev dI (v:AV) (k:Int→Prop):Prop:=match v with
 | .int i=>k i
 | _=>False
abbrev dB (v:AV) (k:Bool→Prop):Prop:=match v with
 | .bool i=>k i
 | _=>False
abbrev dL (v:AV) (k:Nat→Prop):Prop:=match v with
 | .lst i=>k i
 | _=>False
abbrev dO (C:Addr) (v:AV) (k:Nat→Prop):Prop:=match v with
 | .inst D i=>D=C∧k i
 | _=>False
abbrev dN (l:List AV) (k:Prop):Prop:=match l with
 | []=>k
 | _ :: _=>False
abbrev dC (l:List AV) (k:Int→List AV→Prop):Prop:=match l with
 | []=>False
 | a :: l=>dI a λ x=>k x l
abbrev dT (v:AV) (k:List AV→Prop):Prop:=match v with
 | .tup l=>k l
 | _=>False
abbrev d2 (v:AV) (k:Int→Int→Prop):Prop:=dT v λ l=>dC l λ x l=>dC l λ y l=>dN l (k x y)
abbrev d3 (v:AV) (k:Int→Int→Int→Prop):Prop:=dT v λ l=>dC l λ x l=>dC l λ y l=>dC l λ z l=>dN l (k x y z)
abbrev dH (l:List AV) (k:AV→List AV→Prop):Prop:=match l with
 | []=>False
 | a :: l=>k a l
abbrev dP (v:AV) (k:AV→Int→Prop):Prop:=dT v λ l=>dH l λ a l=>dC l λ y l=>dN l (k a y)
theorem IQ {l:List AV} {k:AV→List AV→Prop} (h:dH l k):∃ a l',l=a :: l'∧k a l':=by
 cases l with
 | nil=>exact False.elim h
 | cons a l=>exact ⟨a,l,rfl,h⟩
theorem yR {l:List AV} {k:Prop} (h:dN l k):l=[]∧k:=by
 cases l with
 | nil=>exact ⟨rfl,h⟩
 | cons=>exact False.elim h
theorem qS {l:List AV} {k:Int→List AV→Prop} (h:dC l k):∃ x l',l=.int x :: l'∧k x l':=by
 cases l with
 | nil=>exact False.elim h
 | cons a l=>cases a with
  | int x=>exact ⟨x,l,rfl,h⟩
  | _=>exact False.elim h
theorem yS {v:AV} {k:List AV→Prop} (h:dT v k):∃ l,v=.tup l∧k l:=by
 cases v with
 | tup l=>exact ⟨l,rfl,h⟩
 | _=>exact False.elim h
abbrev dQ (C:Addr) (v:AV) (k:Nat→Nat→Prop):Prop:=∃ i l:Nat,v=.tup [.inst C i,.lst l]∧k i l
def dK (t:Kd) (v:AV) (k:AV→Prop):Prop:=match t with
 | .any=>k v
 | .yes=>k v
 | .no=>k v
 | .EG=>v=.none∧k .none
 | .int=>dI v λ i=>k (.int i)
 | .bool=>dB v λ i=>k (.bool i)
 | .lst=>dL v λ i=>k (.lst i)
 | .inst C=>dO C v λ i=>k (.inst C i)
 | .tC=>d2 v λ x y=>k (.tup [.int x,.int y])
 | .qJ=>d3 v λ x y z=>k (.tup [.int x,.int y,.int z])
 | .EF=>dP v λ a y=>k (.tup [a,.int y])
 | .zU C=>dQ C v λ i l=>k (.tup [.inst C i,.lst l])
theorem sJ {t:Kd} {v:AV} {k:AV→Prop} (h:dK t v k):k v:=by
 cases t with
 | any=>exact h
 | yes=>exact h
 | no=>exact h
 | EG=>obtain ⟨rfl,h⟩:=h; exact h
 | int=>cases v<;>first | exact h | exact h.elim
 | bool=>cases v<;>first | exact h | exact h.elim
 | lst=>cases v<;>first | exact h | exact h.elim
 | inst C =>
  cases v with
  | inst D n=>obtain ⟨rfl,h⟩:=h; exact h
  | _=>exact h.elim
 | tC =>
  obtain ⟨l,rfl,h⟩:=yS h
  obtain ⟨x,l,rfl,h⟩:=qS h
  obtain ⟨y,l,rfl,h⟩:=qS h
  obtain ⟨rfl,h⟩:=yR h
  exact h
 | qJ =>
  obtain ⟨l,rfl,h⟩:=yS h
  obtain ⟨x,l,rfl,h⟩:=qS h
  obtain ⟨y,l,rfl,h⟩:=qS h
  obtain ⟨z,l,rfl,h⟩:=qS h
  obtain ⟨rfl,h⟩:=yR h
  exact h
 | EF =>
  obtain ⟨l,rfl,h⟩:=yS h
  obtain ⟨x,l,rfl,h⟩:=IQ h
  obtain ⟨y,l,rfl,h⟩:=qS h
  obtain ⟨rfl,h⟩:=yR h
  exact h
 | zU C=>obtain ⟨i,l,rfl,h⟩:=h; exact h
def NB (t:Option Kd) (Q:BC→List AO→Prop):AV→List AO→Prop:=λ v s=>match t with
 | some t=>(match t with
  | .yes=>v=.bool true∧Q (.lit true) s
  | .no=>v=.bool false∧Q (.lit false) s
  | _=>dB v λ c=>Q (.sym c) s)
 | none=>dB v λ c=>Q (.sym c) s
def NC (t:Option Kd) (Q:BC→List AO→Prop):Bool→List AO→Prop:=λ c s=>match t with
 | some t=>(match t with
  | .yes=>c=true∧Q (.lit true) s
  | .no=>c=false∧Q (.lit false) s
  | _=>Q (.sym c) s)
 | none=>Q (.sym c) s
noncomputable abbrev LA:=List (Str×Option Kd)
structure Tab where
 attr:Str→Kd
 callee:Addr→Kd
 spot:Nat→Nat→Nat→Option Kd
 rel:Nat→Nat→Nat→Bool
 loop:Nat→Option (LA×Kd)
def Aw (a b:AV) (k:Int→Int→Prop) (dflt:Prop):Prop:=match a with
 | .int x=>(match b with
  | .int y=>k x y
  | _=>dflt)
 | _=>dflt
theorem dc {a b:AV} {k:Int→Int→Prop} {dflt P:Prop} (h:Aw a b k dflt) (h1:∀ x y,a=.int x→b=.int y→k x y→P) (h2:dflt→P):P:=by
 cases a with
 | int x=>cases b with
  | int y=>exact h1 x y rfl rfl h
  | _=>exact h2 h
 | _=>exact h2 h
def RL (a b:AV) (k:Nat→Nat→Prop) (dflt:Prop):Prop:=match a with
 | .lst x=>(match b with
  | .lst y=>k x y
  | _=>dflt)
 | _=>dflt
theorem Ku {a b:AV} {k:Nat→Nat→Prop} {dflt P:Prop} (h:RL a b k dflt) (h1:∀ x y,a=.lst x→b=.lst y→k x y→P) (h2:dflt→P):P:=by
 cases a with
 | lst x=>cases b with
  | lst y=>exact h1 x y rfl rfl h
  | _=>exact h2 h
 | _=>exact h2 h
inductive aO (n:Nat) (name:Str) (σ:List AO) (k:AV→Prop):Prop
 | mk (fs:List (Str×AV)) (a:AV) (h:σ[n]? = some (.inst fs)) (e:fs.lookup name=some a) (r:ki a=true) (q:k a):aO n name σ k
inductive aD (n:Nat) (name:Str) (σ:List AO):Prop
 | mk (fs:List (Str×AV)) (h:σ[n]? = some (.inst fs)) (e:fs.lookup name=none):aD n name σ
inductive cR (n:Nat) (σ:List AO) (k:List AV→Prop):Prop
 | mk (xs:List AV) (h:σ[n]? = some (.lst xs)) (q:k xs):cR n σ k
inductive pD (n:Nat) (i:Int) (σ:List AO) (k:AV→Prop):Prop
 | mk (xs:List AV) (x:AV) (h:σ[n]? = some (.lst xs)) (h0:0≤i) (h1:i<1000000) (e:xs[i.toNat]? = some x) (q:k x):pD n i σ k
section
variable (W:Wl) (d:Nat) (env:Env) (T:Tab)
def ND (op:Operator) (a b:AV) (σ:List AO) (Q:AV→List AO→Prop):Prop:=match op with
 | .Add=>Aw a b (λ x y=>Q (.int (x+y)) σ) (RL a b (λ m n=>cR m σ λ xs=>cR n σ λ ys=>xs.length+ys.length≤1000000∧Q (.lst σ.length) (σ++[.lst (xs++ys)])) (aU W d .Add a b σ Q))
 | .Sub=>Aw a b (λ x y=>Q (.int (x-y)) σ) (aU W d .Sub a b σ Q)
 | .Mult=>Aw a b (λ x y=>(aa x∨aa y)∧Q (.int (x*y)) σ) (aU W d .Mult a b σ Q)
 | .Mod=>Aw a b (λ x y=>0<y∧∀ r,r=x%y→0≤r→r<y→Q (.int r) σ) (aU W d .Mod a b σ Q)
 | .FloorDiv=>Aw a b (λ x y=>(0<y∧y<1073741824)∧Q (.int (x / y)) σ) (aU W d .FloorDiv a b σ Q)
 | .Pow=>Aw a b (λ x y=>(0≤y∧y≤1000000∧aa x)∧Q (.int (x^y.toNat)) σ) (aU W d .Pow a b σ Q)
 | op=>aU W d op a b σ Q
def NG (op:Operator) (a b:AV) (σ:List AO) (Q:AV→List AO→Prop):Prop:=match op with
 | .Add=>Aw a b (λ x y=>Q (.int (x+y)) σ) (qD W d .Add a b σ Q)
 | .Sub=>Aw a b (λ x y=>Q (.int (x-y)) σ) (qD W d .Sub a b σ Q)
 | .Mult=>Aw a b (λ x y=>(aa x∨aa y)∧Q (.int (x*y)) σ) (qD W d .Mult a b σ Q)
 | .FloorDiv=>Aw a b (λ x y=>(0<y∧y<1073741824)∧Q (.int (x / y)) σ) (qD W d .FloorDiv a b σ Q)
 | op=>qD W d op a b σ Q
def Qv (is:Bool) (a b:AV) (k:BC→Prop) (dflt:Prop):Prop:=match b with
 | .none=>bG (zh a) (λ c=>k (.lit c)) dflt
 | .bool y=>(match a with
  | .bool x=>k (.sym (x==y))
  | _=>dflt)
 | .cst v=>(match v with
  | .ref x=>(match a with
   | .inst _ _=>oY (is&&vE W.K x) (k (.lit false))
   | .cst u=>(match u with
    | .ref y=>(bif is&&Nat.beq y x then k (.lit true) else dflt)
    | _=>dflt)
   | _=>dflt)
  | _=>dflt)
 | _=>dflt
def EH (op:CmpOp) (a b:AV) (σ:List AO) (Q:AV→List AO→Prop):Prop:=match op with
 | .Lt=>Aw a b (λ x y=>Q (.bool (decide (x<y))) σ) (aA W d .Lt a b σ Q)
 | .Gt=>Aw a b (λ x y=>Q (.bool (decide (y<x))) σ) (aA W d .Gt a b σ Q)
 | .LtE=>Aw a b (λ x y=>Q (.bool (decide (x≤y))) σ) (aA W d .LtE a b σ Q)
 | .GtE=>Aw a b (λ x y=>Q (.bool (decide (y≤x))) σ) (aA W d .GtE a b σ Q)
 | .Eq=>Aw a b (λ x y=>Q (.bool (decide (x=y))) σ) (aA W d .Eq a b σ λ v s=>dB v λ c=>Q (.bool c) s)
 | .NotEq=>Aw a b (λ x y=>Q (.bool (decide (x≠y))) σ) (aA W d .NotEq a b σ λ v s=>dB v λ c=>Q (.bool c) s)
 | .Is=>Qv W true a b (λ c=>Q c.av σ) (aA W d .Is a b σ λ v s=>dB v λ c=>Q (.bool c) s)
 | .IsNot=>Qv W false a b (λ c=>Q c.no.av σ) (aA W d .IsNot a b σ λ v s=>dB v λ c=>Q (.bool c) s)
 | op=>aA W d op a b σ λ v s=>dB v λ c=>Q (.bool c) s
def vS (a:AV) (σ:List AO) (Q:BC→List AO→Prop):Prop:=match a with
 | .bool b=>Q (.sym b) σ
 | .int i=>Q (.sym (decide (i≠0))) σ
 | .none=>Q (.lit false) σ
 | .lst n=>cR n σ λ xs=>xs.length≤1000000∧Q (.sym (!xs.isEmpty)) σ
 | .inst C n=>oY (zj W.K C) (Q (.lit true) σ)
 | .cst v=>(match v with
  | .bool b=>Q (.lit b) σ
  | v=>bf W d (.cst v) σ λ c s=>Q (.sym c) s)
 | a=>bf W d a σ λ c s=>Q (.sym c) s
def RM (op:UnaryOp) (a:AV) (σ:List AO) (Q:AV→List AO→Prop):Prop:=match op with
 | .USub=>(match a with
  | .int x=>Q (.int (-x)) σ
  | a=>F1 W d .USub a σ Q)
 | .Not=>vS W d a σ λ c σ'=>Q c.no.av σ'
 | op=>F1 W d op a σ Q
def NH (t:Kd) (a b:AV) (σ:List AO) (Q:AV→List AO→Prop):Prop:=match b with
 | .int k=>(match a with
  | .tup xs=>oY (decide (0≤k)&&decide (k<1000000)) (bG xs[k.toNat]? (λ x=>Q x σ) False)
  | .lst n=>pD n k σ λ x=>dK t x λ x=>Q x σ
  | a=>mZ W d a (.int k) σ λ v s=>dK t v λ v=>Q v s)
 | b=>mZ W d a b σ λ v s=>dK t v λ v=>Q v s
noncomputable def GP (f:Expr→List AO→(AV→List AO→Prop)→Prop):List Expr→List AO→(List AV→List AO→Prop)→Prop
 | [],σ,Q=>Q [] σ
 | e :: es,σ,Q=>f e σ λ a af=>GP f es af λ as ai=>Q (a :: as) ai
noncomputable def Kv (f:Expr→List AO→(AV→List AO→Prop)→Prop):List Expr→List AO→(AV→List AO→Prop)→Prop
 | [],σ,Q=>False
 | e :: es,σ,Q=>(match es with
  | []=>f e σ Q
  | _ :: _=>f e σ λ a af=>vS W d a af λ c ai=>A4 c (Kv f es ai Q) (Q a ai))
noncomputable def Qw (f:Expr→List AO→(AV→List AO→Prop)→Prop):List Expr→List AO→(AV→List AO→Prop)→Prop
 | [],σ,Q=>False
 | e :: es,σ,Q=>(match es with
  | []=>f e σ Q
  | _ :: _=>f e σ λ a af=>vS W d a af λ c ai=>A4 c (Q a ai) (Qw f es ai Q))
noncomputable def EI (f:Expr→List AO→(BC→List AO→Prop)→Prop):List Expr→List AO→(BC→List AO→Prop)→Prop
 | [],σ,Q=>Q (.lit true) σ
 | e :: es,σ,Q=>f e σ λ c af=>A4 c (EI f es af Q) (Q (.lit false) af)
noncomputable def Kw (f:Expr→List AO→(BC→List AO→Prop)→Prop):List Expr→List AO→(BC→List AO→Prop)→Prop
 | [],σ,Q=>Q (.lit false) σ
 | e :: es,σ,Q=>f e σ λ c af=>A4 c (Q (.lit true) af) (Kw f es af Q)
noncomputable def pI (η:En):Expr→Option Int
 | .Name x _=>(match bW η x with
  | some v=>(match v with
   | .int i=>some i
   | _=>none)
  | none=>none)
 | .Constant c _ _=>(match c with
  | .int i=>some i
  | _=>none)
 | _=>none
noncomputable def pC (op:CmpOp) (x y:Int):Option Bool:=match op with
 | .Lt=>some (decide (x<y))
 | .Gt=>some (decide (y<x))
 | .LtE=>some (decide (x≤y))
 | .GtE=>some (decide (y≤x))
 | .Eq=>some (decide (x=y))
 | .NotEq=>some (decide (x≠y))
 | _=>none
noncomputable def o2 {α β γ:Type} (a:Option α) (b:Option β) (k:α→β→Option γ):Option γ:=match a with
 | some x=>(match b with
  | some y=>k x y
  | none=>none)
 | none=>none
noncomputable def EJ (f:Expr→Option Bool) (and:Bool):List Expr→Option Bool
 | []=>none
 | e :: r=>(match r with
  | []=>f e
  | _ :: _=>o2 (f e) (EJ f and r) λ x y=>some (bif and then x&&y else x||y))
noncomputable def pB (η:En):Nat→Expr→Option Bool
 | 0,_=>none
 | n+1,e=>match e with
  | .Name x _=>(match bW η x with
   | some v=>(match v with
    | .int i=>some (decide (i≠0))
    | .bool b=>some b
    | _=>none)
   | none=>none)
  | .UnaryOp op x _=>(match op with
   | .Not=>(match pB η n x with
    | some b=>some (!b)
    | none=>none)
   | _=>none)
  | .Compare l ops rs _=>(match ops with
   | []=>none
   | op :: ops=>(match ops with
    | []=>(match rs with
     | []=>none
     | r :: rs=>(match rs with
      | []=>(bif behindInMarks op r then none else o2 (pI η l) (pI η r) (pC op))
      | _ :: _=>none))
    | _ :: _=>none))
  | .BoolOp op es _=>(match op with
   | .And=>EJ (pB η n) true es
   | .Or=>EJ (pB η n) false es)
  | _=>none
noncomputable def tg (e:Expr) (i:Nat):Bool:=Nat.beq e.ctorIdx i
noncomputable def sU (e:Expr):Bool:=tg e 23||(tg e 20||(tg e 21||(if h:e.ctorIdx=16 then Expr.Call.elim (motive_1:=λ _=>Bool) e h λ f as _ _=>tg f 20||(tg f 23&&!as.isEmpty) else false)))
noncomputable def Ax (e:Expr):Bool:=tg e 23||(tg e 20||(tg e 16||(tg e 21||(tg e 2||(tg e 19||tg e 3)))))
noncomputable def EK (W:Wl):AV→Bool
 | .cst v=>(match v with
  | .ref a=>keepIn W.K (.ref a)
  | .builtin _=>true
  | .type _=>true
  | _=>false)
 | .pn f _=>fnIn W.K f
 | _=>false
def Ky (c:Const) (σ:List AO) (Q:AV→List AO→Prop) (dflt:Prop):Prop:=match c with
 | .int i=>Q (.int i) σ
 | .bool b=>Q (.bool b) σ
 | .none=>Q .none σ
 | _=>dflt
noncomputable def fnOf (K:Frag) (C:Addr) (name:Str):Option Addr:=(GL (findIn K (.ref C) name)).bind λ f=>if isFn K (.ref f) then some f else none
noncomputable def NI (K:Frag) (C:Addr) (name:Str):Option Addr:=(GL (findIn K (.ref C) name)).bind λ p=>(recIn K p "staticmethod").bind λ l=>l.head?.bind λ v=>(zd v).bind λ f=>if (plainGet K C name&&hasDictIn K C&&keepIn K (.ref f)&&handedIn (.ref f)&&!copiedNames.contains name&&(takesIn K (.ref p)==some false)&&(specialIn K (.ref p) "__get__" == some (some (.builtin "staticmethod.__get__")))
 && (typeIn K (.ref p)).any λ t=>t != .type "function" && t != .type "method_descriptor" && t != .type "wrapper_descriptor") then some f else none
noncomputable def Kz (K:Frag) (C f:Addr) (name:Str):Bool:=plainGet K C name&&hasDictIn K C&&isFn K (.ref f)&&!copiedNames.contains name&&(takesIn K (.ref f)==some false)&&(specialIn K (.ref f) "__get__" == some (some (.builtin "function.__get__")))
def IS (a:AV) (name:Str) (σ:List AO) (Q:AV→List AO→Prop):Prop:=match a with
 | .inst C m=>bG (fnOf W.K C name) (λ f=>oY (Kz W.K C f name) (aD m name σ∧Q (.pn f (.inst C m)) σ))
  (oY (zg W C name) (aO m name σ λ v=>dK (T.attr name) v λ v=>Q v σ))
 | .cst v=>(match v with
  | .ref x=>bG (Cn W.K x name) (λ v=>Q (xM v) σ) (o6 W d (.cst (.ref x)) name σ Q)
  | v=>o6 W d (.cst v) name σ Q)
 | a=>o6 W d a name σ Q
def EL (a:AV) (name:Str) (σ:List AO) (k:AV→List AV→List AO→Prop):Prop:=match a with
 | .inst C m=>aD m name σ∧bG (fnOf W.K C name) (λ f=>oY (plainGet W.K C name&&keepIn W.K (.ref f)) (k (.cst (.ref f)) [.inst C m] σ))
  (bG (NI W.K C name) (λ f=>k (.cst (.ref f)) [] σ) (cG W d (.inst C m) name σ k))
 | .lst m=>oY (name==("append" : Str)) (cR m σ λ _=>k (.cst (.builtin "list.append")) [.lst m] σ)
 | .int i=>bif name==("bit_length" : Str) then k (.cst (.builtin "int.bit_length")) [.int i] σ else cG W d (.int i) name σ k
 | .dct m=>oY (name==("get" : Str)) ((∃ es,σ[m]? = some (.dct es))∧k (.cst (.builtin "dict.get")) [.dct m] σ)
 | .cst v=>(match v with
  | .ref x=>bG (Eo W.K x name) (λ f=>k (.cst (.ref f)) [.cst (.ref x)] σ) (bG (Kq W.K x name) (λ f=>k (.cst (.ref f)) [] σ) (cG W d (.cst (.ref x)) name σ k))
  | v=>cG W d (.cst v) name σ k)
 | a=>cG W d a name σ k
noncomputable def Ay (i:Int):Nat:=Builtin.Int.intBits i
def NJ (t:Kd) (nm:String) (as:List AV) (σ:List AO) (Q:AV→List AO→Prop) (dflt:Prop):Prop:=match as with
 | []=>dflt
 | a :: r=>(match a with
  | .lst n=>(match r with
   | []=>(bif nm == "len" then cR n σ λ xs=>xs.length≤1000000∧Q (.int xs.length) σ else (bif nm == "all" then (∃ bs:List Bool,σ[n]? = some (.lst (bs.map .bool))∧Q (.bool (allB bs)) σ) else dflt))
   | [b]=>(bif nm == "list.append" then cR n σ λ xs=>xs.length≤1000000∧Q .none (σ.set n (.lst (xs++[b]))) else dflt)
   | _=>dflt)
  | .int i=>(match r with
   | []=>(bif nm == "abs" then Q (.int (if i<0 then -i else i)) σ else bif nm == "int.bit_length" then Q (.int (Ay i)) σ else dflt)
   | [b]=>(match b with
    | .int j=>(bif nm == "max" then Q (.int (if j > i then j else i)) σ else dflt)
    | _=>dflt)
   | _=>dflt)
  | .inst C n=>(match r with
   | [b]=>(match b with
    | .cst v=>(match v with
     | .ref D=>(bif nm == "isinstance" then (bif isIn W.K (.ref C) D then Q (.cst (.bool true)) σ else oY (GI W.K C D) (aD n "" σ∧Q (.cst (.bool false)) σ)) else dflt)
     | _=>dflt)
    | _=>dflt)
   | _=>dflt)
  | .dct n=>(match r with
   | b :: r=>(match b with
    | .int i=>(match r with
     | [x]=>(bif nm == "dict.get" then oY (W.K.lookup sysModules).isSome (∃ es,σ[n]? = some (.dct es)∧dK t ((es.lookup i).getD x) λ v=>Q v σ) else dflt)
     | _=>dflt)
    | _=>dflt)
   | _=>dflt)
  | .cst u=>(match u with
   | .ref x=>(match r with
    | [b]=>(match b with
     | .cst v=>(match v with
      | .ref D=>(bif nm == "isinstance" then bG (typeIn W.K (.ref x)) (λ t=>bif isIn W.K t D then Q (.cst (.bool true)) σ else dflt) dflt else dflt)
      | _=>dflt)
     | _=>dflt)
    | _=>dflt)
   | _=>dflt)
  | _=>dflt)
def NL (nm:String) (as:List AV) (σ:List AO) (Q:AV→List AO→Prop) (dflt:Prop):Prop:=match as with
 | []=>dflt
 | a :: r=>(match a with
  | .int i=>(match r with
   | []=>(bif nm == "int" then Q (.int i) σ else bif nm == "range" then Q (.tw 0 i 1) σ else dflt)
   | b :: r=>(match b with
    | .int j=>(match r with
     | []=>(bif nm == "range" then Q (.tw i j 1) σ else dflt)
     | c :: r=>(match c with
      | .int k=>(match r with
       | []=>(bif nm == "range" then k≠0∧Builtin.divisionGoesByPylong (j-i) k=false∧Q (.tw i j k) σ else dflt)
       | _=>dflt)
      | _=>dflt))
    | _=>dflt))
  | .bool b=>(match r with
   | []=>(bif nm == "int" then Q (.int (if b then 1 else 0)) σ else dflt)
   | _=>dflt)
  | _=>dflt)
def EM (t:Option Kd) (f:AV) (as:List AV) (σ:List AO) (Q:AV→List AO→Prop):Prop:=match f with
 | .cst v=>(match v with
  | .ref a=>ah W d (.cst (.ref a)) as σ λ v s=>dK (t.getD (T.callee a)) v λ v=>Q v s
  | .builtin nm=>NJ W (t.getD .any) nm as σ Q (ao W d (.cst (.builtin nm)) as σ λ v s=>dK (t.getD .any) v λ v=>Q v s)
  | .type nm=>NL nm as σ Q (ao W d (.cst (.type nm)) as σ λ v s=>dK (t.getD .any) v λ v=>Q v s)
  | v=>ao W d (.cst v) as σ Q)
 | .pn f a=>ah W d (.cst (.ref f)) (a :: as) σ λ v s=>dK (t.getD (T.callee f)) v λ v=>Q v s
 | f=>ao W d f as σ Q
def TG (rc:Expr→List AO→(BC→List AO→Prop)→Prop) (xE:Expr→List AO→(AV→List AO→Prop)→Prop) (e:Expr) (σ:List AO) (Q:BC→List AO→Prop):Prop:=match e with
 | .BoolOp op es _=>(match op with
  | .And=>EI (rc) es σ Q
  | .Or=>Kw (rc) es σ Q)
 | .UnaryOp op x p=>(match op with
  | .Not=>rc x σ λ c σ'=>Q c.no σ'
  | op=>False)
 | .Compare l ops rs p=>(match ops,rs with
  | [op],[r]=>oY (!behindInMarks op r) (xE l σ λ a af=>xE r af λ b ai=>(bif T.rel p.line p.col p.endCol then (aA W d op a b ai (NB (T.spot p.line p.col p.endCol) Q)) else EH W d op a b ai λ c az=>vS W d c az Q))
  | [op,op'],[r,r']=>oY (!lastMarks [op,op'] [r,r']) (xE l σ λ a af=>xE r af λ b ai=>EH W d op a b ai λ c az=>vS W d c az λ t aY=>A4 t (xE r' aY λ b' yX=>EH W d op' b b' yX λ c' σ₆=>vS W d c' σ₆ Q) (Q (.lit false) aY))
  | _,_=>False)
 | .Name x p=>xE (.Name x p) σ λ a af=>(bif T.rel p.line p.col p.endCol then (bf W d a af λ c s=>Q (.sym c) s) else vS W d a af Q)
 | .Call f as ks p=>xE (.Call f as ks p) σ λ a af=>(bif T.rel p.line p.col p.endCol then (bf W d a af λ c s=>Q (.sym c) s) else vS W d a af Q)
 | .Attribute x k p=>xE (.Attribute x k p) σ λ a af=>(bif T.rel p.line p.col p.endCol then (bf W d a af (NC (T.spot p.line p.col p.endCol) Q)) else vS W d a af Q)
 | .Subscript x k p=>xE (.Subscript x k p) σ λ a af=>(bif T.rel p.line p.col p.endCol then (bf W d a af λ c s=>Q (.sym c) s) else vS W d a af Q)
 | .BinOp x o y p=>xE (.BinOp x o y p) σ λ a af=>vS W d a af Q
 | e=>False
noncomputable def xT (η:En) (xE:Expr→List AO→(AV→List AO→Prop)→Prop):Nat→Expr→List AO→(BC→List AO→Prop)→Prop
 | 0,e,σ,Q=>False
 | n+1,e,σ,Q=>bG (bif T.rel e.pos.line e.pos.col e.pos.endCol then none else pB η 20 e) (λ c=>Q (.sym c) σ) (TG W d T (λ e σ Q=>xT η xE n e σ Q) xE e σ Q)
noncomputable def Ty:Kd→Type
 | .any=>AV
 | .yes=>AV
 | .no=>AV
 | .EG=>AV
 | .int=>Int
 | .bool=>Bool
 | .lst=>Nat
 | .inst _=>Nat
 | .tC=>Int×Int
 | .qJ=>Int×Int×Int
 | .EF=>AV×Int
 | .zU _=>Nat×Nat
noncomputable def Dd:(k:Kd)→Ty k→AV
 | .any,a=>a
 | .yes,a=>a
 | .no,a=>a
 | .EG,a=>a
 | .int,a=>.int a
 | .bool,a=>.bool a
 | .lst,a=>.lst a
 | .inst C,a=>.inst C a
 | .tC,a=>.tup [.int a.1,.int a.2]
 | .qJ,a=>.tup [.int a.1,.int a.2.1,.int a.2.2]
 | .EF,a=>.tup [a.1,.int a.2]
 | .zU C,a=>.tup [.inst C a.1,.lst a.2]
noncomputable def IT (f:Expr) (as:List Expr) (ks:List Keyword):Option (Expr×List Expr):=if ks.isEmpty then some (f,as) else none
noncomputable def xQ (e:Expr):Option (Expr×List Expr):=if h:e.ctorIdx=16 then Expr.Call.elim (motive_1:=λ _=>Option (Expr×List Expr)) e h (λ f as ks _=>IT f as ks) else none
noncomputable def xS (e:Expr):Option Str:=if h:e.ctorIdx=23 then Expr.Name.elim (motive_1:=λ _=>Option Str) e h (λ x _=>some x) else none
noncomputable def NN (e:Expr):Option (List Expr):=if h:e.ctorIdx=25 then Expr.Tuple.elim (motive_1:=λ _=>Option (List Expr)) e h (λ es _ _=>some es) else none
noncomputable def one?:List Expr→Option Expr
 | []=>none
 | e :: r=>(match r with
  | []=>some e
  | _ :: _=>none)
noncomputable def IU (nm:String):Option AV→Bool
 | some (.cst (.type n))=>n==nm
 | _=>false
noncomputable def KA (v:AV):Option (List AV):=if h:v.ctorIdx=3 then AV.tup.elim (motive_1:=λ _=>Option (List AV)) v h some else none
noncomputable def EN (v:AV):Option Addr:=if h:v.ctorIdx=9 then AV.cst.elim (motive_1:=λ _=>Option Addr) v h zd else none
noncomputable def RN (lo up st:Option Expr):Option Expr:=if lo.isNone&&st.isNone then up else none
noncomputable def IV (e:Expr):Option Expr:=if h:e.ctorIdx=26 then Expr.Slice.elim (motive_1:=λ _=>Option Expr) e h (λ lo up st _=>RN lo up st) else none
noncomputable def KC (c:Const):Option Int:=if h:c.ctorIdx=2 then Const.int.elim (motive:=λ _=>Option Int) c h some else none
noncomputable def NO (e:Expr):Option Int:=if h:e.ctorIdx=19 then Expr.Constant.elim (motive_1:=λ _=>Option Int) e h (λ c _ _=>KC c) else none
noncomputable def NP:List Comprehension→Option (Str×Comprehension)
 | []=>none
 | g :: more=>(match more with
  | []=>(xS g.target).bind λ x=>some (x,g)
  | _ :: _=>none)
noncomputable def EO (e:Expr):Bool:=!(Nat.beq e.ctorIdx 7)
def Qx (t:Kd) (body:Nat→AV→List AO→(List AO→Prop)→Prop) (a:AV) (σ:List AO) (k:Nat→List AO→Prop):Prop:=match a with
 | .lst m=>∃ ys:List (Ty t),σ[m]? = some (.lst (ys.map (Dd t)))∧∃ I:Nat→List AO→Prop,I 0 (σ++[.lst []])∧∀ i ai,I i ai→ai[m]? = some (.lst (ys.map (Dd t))) ∧
  (∀ y,ys[i]? = some y→body σ.length (Dd t y) ai λ az=>I (i+1) az)∧(i=ys.length→k σ.length ai)
 | .tw a b c=>oY (decide (0<c)) (Builtin.Range.small a b c=true∧∃ I:Int→List AO→Prop,I a (σ++[.lst []])∧∀ i ai,I i ai →
  (i<b→body σ.length (.int i) ai λ az=>I (i+c) az)∧(b≤i→k σ.length ai))
 | _=>False
def NQ (f:Expr→List AO→(BC→List AO→Prop)→Prop) (ifs:List Expr) (σ:List AO) (k:BC→List AO→Prop):Prop:=match ifs with
 | []=>k (.lit true) σ
 | c :: r=>(match r with
  | []=>f c σ k
  | _ :: _=>False)
noncomputable def EP (names:List (Str×NameKind)) (x:Str):Bool:=match names.lookup x with
 | some k=>k==.local
 | none=>false
def NR (f:Expr→En→List AO→(AV→List AO→Prop)→Prop) (ft:En→Expr→List AO→(BC→List AO→Prop)→Prop) (t:Kd) (elt:Expr) (gens:List Comprehension) (scope:Scope) (η:En) (σ:List AO) (Q:AV→List AO→Prop):Prop:=bG (NP gens) (λ p=>oY (decide (p.2.is_async=0)&&cD scope η&&EP scope.names p.1&&EO p.2.iter) (f p.2.iter η σ λ a af=>Qx t (λ j v ai next=>bG (sG (kr W scope.names η) p.1 v) (λ η₂=>NQ (ft η₂) p.2.ifs ai λ c az =>
 A4 c (f elt η₂ az λ v aY=>cR j aY λ xs=>xs.length≤1000000∧next (aY.set j (.lst (xs++[v])))) (next az)) False) a af λ j ai=>Q (.lst j) ai)) False
def NS (W:Wl) (l:Addr) (n:Int) (k:List AV→Prop):Prop:=∃ (vs:List Value) (ns:List Int),W.hb.IsList l vs.toArray∧IntsAre vs ns∧ns.length≤1000∧k ((ns.take n.toNat).map .int)
noncomputable def NT:Expr→Bool
 | .Slice ..=>true
 | _=>false
noncomputable def ER (xs:List AV) (k:Nat):List AV:=xs.take k
noncomputable def Qy:AV→Option Nat
 | .lst n=>some n
 | _=>none
def NU (W:Wl) (η:En) (v:Expr) (i:Expr) (σ:List AO) (Q:AV→List AO→Prop):Prop:=bG (xS v) (λ x=>bG ((IV i).bind NO) (λ k=>bG ((bW η x).bind EN) (λ l=>oY (decide (0≤k)) (NS W l k λ xs=>Q (.lst σ.length) (σ++[.lst xs])))
 (bG ((bW η x).bind Qy) (λ l=>oY (decide (0≤k)) (cR l σ λ xs=>xs.length≤1000000∧Q (.lst σ.length) (σ++[.lst (ER xs k.toNat)]))) False)) False) False
noncomputable def IW (η:En) (it:Expr):Option Expr:=(xQ it).bind λ p=>(xS p.1).bind λ x=>(one? p.2).bind λ e=>if IU "reversed" (bW η x)&&aK e then some e else none
def RO (B3:Expr→List AO→(AV→List AO→Prop)→Prop) (η:En) (g:Expr) (args:List Expr) (p:Pos) (σ:List AO) (Q:AV→List AO→Prop):Prop:=match g with
 | .Name x _=>bG (bW η x) (λ f=>oY (EK W f&&args.all aK) (GP B3 args σ λ as af=>EM W d T (T.spot p.line p.col p.endCol) f as af Q)) False
 | .Attribute o name apos=>oY (sU o&&(apos.endLine==p.line)&&Nat.blt args.length 25&&args.all aK) (B3 o σ λ a af=>(bif T.rel apos.line apos.col apos.endCol then (cG W d a name af λ f first ai=>GP B3 args ai λ as az=>ao W d f (first++as) az Q) else EL W d a name af λ f first ai=>GP B3 args ai λ as az=>EM W d T (T.spot p.line p.col p.endCol) f (first++as) az Q))
 | g=>False
noncomputable def xE:Nat→Expr→En→List AO→(AV→List AO→Prop)→Prop
 | 0,e,η,σ,Q=>False
 | n+1,e,η,σ,Q=>match e with
  | .Constant c k p=>Ky c σ Q False
  | .Name x _=>bG (bW η x) (λ v=>Q v σ) False
  | .BinOp l op r p=>xE n l η σ λ a af=>xE n r η af λ b ai=>(bif T.rel p.line p.col p.endCol then (aU W d op a b ai λ v s=>dK ((T.spot p.line p.col p.endCol).getD .any) v λ v=>Q v s) else ND W d op a b ai Q)
  | .UnaryOp op x _=>xE n x η σ λ a af=>RM W d op a af Q
  | .Compare l ops rs p=>(match ops,rs with
   | [op],[r]=>oY (!behindInMarks op r) (xE n l η σ λ a af=>xE n r η af λ b ai=>(bif T.rel p.line p.col p.endCol then (aA W d op a b ai λ v s=>dB v λ c=>Q (.bool c) s) else EH W d op a b ai Q))
   | _,_=>False)
  | .BoolOp op es _=>(match op with
   | .And=>Kv W d (λ e σ Q=>xE n e η σ Q) es σ Q
   | .Or=>Qw W d (λ e σ Q=>xE n e η σ Q) es σ Q)
  | .IfExp t b o _=>xT W d T η (λ e σ Q=>xE n e η σ Q) n t σ λ c af=>A4 c (xE n b η af Q) (xE n o η af Q)
  | .Tuple es _ _=>oY (es.all aK&&Nat.ble es.length 1000) (GP (λ e σ Q=>xE n e η σ Q) es σ λ as af=>oY (Nat.ble as.length 1000) (Q (.tup as) af))
  | .List es _=>oY (es.all aK) (GP (λ e σ Q=>xE n e η σ Q) es σ λ as af=>oY (Nat.ble as.length 1000) (Q (.lst af.length) (af++[.lst as])))
  | .Attribute o name _=>oY (sU o) (xE n o η σ λ a af=>IS W d T a name af Q)
  | .Subscript v i p=>(bif NT i then NU W η v i σ Q else oY (Ax i) (xE n v η σ λ a af=>xE n i η af λ b ai=>(bif T.rel p.line p.col p.endCol then (mZ W d a b ai λ v s=>dK ((T.spot p.line p.col p.endCol).getD .any) v λ v=>Q v s) else NH W d ((T.spot p.line p.col p.endCol).getD .any) a b ai Q)))
  | .Call g args ks p=>(match ks with
   | []=>RO W d T (λ e σ Q=>xE n e η σ Q) η g args p σ Q
   | ks=>False)
  | .ListComp elt gens scope p=>NR W (λ e η σ Q=>xE n e η σ Q) (λ η e σ Q=>xT W d T η (λ e σ Q=>xE n e η σ Q) n e σ Q) ((T.spot p.line p.col p.endCol).getD .any) elt gens scope η σ Q
  | .Dict ks vs p=>(match ks,vs with
   | [],[]=>Q (.dct σ.length) (σ++[.dct []])
   | ks,vs=>False)
  | e=>False
end
section
variable {W:Wl} {d:Nat} {env:Env} {T:Tab} {η:En} {σ:List AO}
theorem mX.mono {pos:Pos} {es:List Expr} {Q Q':List AV→List AO→Prop} (h:mX W d env pos es η σ Q) (q:∀ v σ',Q v σ'→Q' v σ'):mX W d env pos es η σ Q':=λ A s ρ hr R F =>
 pA (h A s ρ hr R F) λ _ _ p=>p.mono λ _ _ _ ⟨av,x,y⟩=>⟨av,x,q _ _ y⟩
theorem bf.mono {a:AV} {Q Q':Bool→List AO→Prop} (h:bf W d a σ Q) (q:∀ c σ',Q c σ'→Q' c σ'):bf W d a σ Q':=λ A s ρ v hr R hv =>
 pA (h A s ρ v hr R hv) λ _ _ p=>p.mono λ _ _ _ z=>q _ _ z
theorem cG.mono {a:AV} {name:Str} {Q Q':AV→List AV→List AO→Prop} (h:cG W d a name σ Q) (q:∀ f as σ',Q f as σ'→Q' f as σ'):cG W d a name σ Q':=λ A s ρ v pl hr R hv =>
 pA (h A s ρ v pl hr R hv) λ _ _ p=>p.mono λ _ _ _ ⟨f,fs,z1,z2,z3,z4⟩=>⟨f,fs,z1,z2,z3,q _ _ _ z4⟩
theorem ao.mono {f:AV} {as:List AV} {Q Q':AV→List AO→Prop} (h:ao W d f as σ Q) (q:∀ c σ',Q c σ'→Q' c σ'):ao W d f as σ Q':=λ A s ρ v vs hr R hf hv =>
 pA (h A s ρ v vs hr R hf hv) λ _ _ p=>p.mono λ _ _ _ ⟨av,z,z'⟩=>⟨av,z,q _ _ z'⟩
theorem mZ.mono {a b:AV} {Q Q':AV→List AO→Prop} (h:mZ W d a b σ Q) (q:∀ c σ',Q c σ'→Q' c σ'):mZ W d a b σ Q':=λ A s ρ o i v sl hr R hv hi hs =>
 pA (h A s ρ o i v sl hr R hv hi hs) λ _ _ p=>p.mono λ _ _ _ ⟨av,z,z'⟩=>⟨av,z,q _ _ z'⟩
theorem GQ {op:Operator} {a b:AV} {Q:AV→List AO→Prop} (h:ND W d op a b σ Q):aU W d op a b σ Q:=by
 cases op with
 | Add=>exact dc h (λ x y e1 e2 z=>by subst e1 e2; exact aU.add z) λ h=>Ku h (λ m n e1 e2 ⟨xs,h1,ys,h2,h3,q⟩=>by subst e1 e2; exact aU.GG h1 h2 h3 q) id
 | Sub=>exact dc h (λ x y e1 e2 z=>by subst e1 e2; exact aU.sub z) id
 | Mult=>exact dc h (λ x y e1 e2 z=>by subst e1 e2; exact aU.mul (z.1.imp aa.ok aa.ok) z.2) id
 | Mod=>exact dc h (λ x y e1 e2 z=>by subst e1 e2; exact aU.mod z.1 (z.2 _ rfl (Int.emod_nonneg _ (Int.ne_of_gt z.1)) (Int.emod_lt_of_pos _ z.1))) id
 | FloorDiv=>exact dc h (λ x y e1 e2 z=>by subst e1 e2; exact aU.div z.1.1 (by have:=z.1.2; omega) z.2) id
 | Pow=>exact dc h (λ x y e1 e2 z=>by subst e1 e2; exact aU.pow z.1.1 z.1.2.1 z.1.2.2.ok z.2) id
 | _=>exact h
theorem GR {op:Operator} {a b:AV} {Q:AV→List AO→Prop} (h:NG W d op a b σ Q):qD W d op a b σ Q:=by
 cases op with
 | Add=>exact dc h (λ x y e1 e2 z=>by subst e1 e2; exact qD.add z) id
 | Sub=>exact dc h (λ x y e1 e2 z=>by subst e1 e2; exact qD.sub z) id
 | Mult=>exact dc h (λ x y e1 e2 z=>by subst e1 e2; exact qD.mul (z.1.imp aa.ok aa.ok) z.2) id
 | FloorDiv=>exact dc h (λ x y e1 e2 z=>by subst e1 e2; exact qD.div z.1.1 (by have:=z.1.2; omega) z.2) id
 | _=>exact h
theorem ES {is:Bool} {a b:AV} {k:BC→Prop} {dflt P:Prop} (h:Qv W is a b k dflt) (h1:∀ c,b=.none→zh a=some c→k (.lit c)→P) (h2:∀ x y,a=.bool x→b=.bool y→k (.sym (x==y))→P)
 (h4:∀ C n x,a=.inst C n→b=.cst (.ref x)→(is&&vE W.K x)=true→k (.lit false)→P) (h5:∀ x,is=true→a=.cst (.ref x)→b=.cst (.ref x)→k (.lit true)→P) (h3:dflt→P):P:=by
 cases b with
 | none=>exact aC h (λ c e z=>h1 c rfl e z) (λ _=>h3)
 | bool y=>cases a with
  | bool x=>exact h2 x y rfl rfl h
  | _=>exact h3 h
 | cst v=>cases v with
  | ref x=>cases a with
   | inst C n=>exact h4 C n x rfl rfl (aB h).1 (aB h).2
   | cst u=>cases u with
    | ref y =>
     have h':(bif is&&Nat.beq y x then k (.lit true) else dflt):=h
     clear h
     cases e:(is&&Nat.beq y x) with
     | true =>
      rw [e] at h'
      rw [Bool.and_eq_true] at e
      have e2:=Nat.eq_of_beq_eq_true e.2
      subst e2
      exact h5 y e.1 rfl rfl h'
     | false=>rw [e] at h'; exact h3 h'
    | _=>exact h3 h
   | _=>exact h3 h
  | _=>exact h3 h
 | _=>exact h3 h
theorem xG.lit {as:List AV} {t:List Value→Sem Value} {b:Bool} {Q:AV→List AO→Prop} (h:∀ {Q:AV→List AO→Prop},Q (.bool b) σ→xG W d as t σ Q) (q:Q (.cst (.bool b)) σ):xG W d as t σ Q:=λ A s ρ vs hr R hv =>
 pA (h (Q:=λ v σ'=>v=.bool b∧σ'=σ) ⟨rfl,rfl⟩ A s ρ vs hr R hv) λ _ _ p=>p.mono λ _ _ _ ⟨av,x,y⟩=>by
  obtain ⟨rfl,rfl⟩:=y
  refine VR.qB x ?_
  exact ⟨_,.cst _,q⟩
theorem ao.lit {f:AV} {as:List AV} {b:Bool} {Q:AV→List AO→Prop} (h:∀ {Q:AV→List AO→Prop},Q (.bool b) σ→ao W d f as σ Q) (q:Q (.cst (.bool b)) σ):ao W d f as σ Q:=λ A s ρ v vs hr R hf hv =>
 pA (h (Q:=λ v σ'=>v=.bool b∧σ'=σ) ⟨rfl,rfl⟩ A s ρ v vs hr R hf hv) λ _ _ p=>p.mono λ _ _ _ ⟨av,x,y⟩=>by
  obtain ⟨rfl,rfl⟩:=y
  refine VR.qB x ?_
  exact ⟨_,.cst _,q⟩
theorem sV {op:CmpOp} {a b:AV} {Q:AV→List AO→Prop} (h:aA W d op a b σ λ v s=>dB v λ c=>Q (.bool c) s):aA W d op a b σ Q:=xG.mono h λ v s q=>sJ (t:=.bool) (k:=λ v=>Q v s) q
theorem wN (O:W.Ok) {op:CmpOp} {a b:AV} {Q:AV→List AO→Prop} (h:EH W d op a b σ Q):aA W d op a b σ Q:=by
 cases op with
 | Lt=>exact dc h (λ x y e1 e2 z=>by subst e1 e2; exact aA.lt z) id
 | Gt=>exact dc h (λ x y e1 e2 z=>by subst e1 e2; exact aA.gt z) id
 | LtE=>exact dc h (λ x y e1 e2 z=>by subst e1 e2; exact aA.le z) id
 | GtE=>exact dc h (λ x y e1 e2 z=>by subst e1 e2; exact aA.ge z) id
 | Eq=>exact dc h (λ x y e1 e2 z=>by subst e1 e2; exact aA.eq z) sV
 | NotEq=>exact dc h (λ x y e1 e2 z=>by subst e1 e2; exact aA.ne z) sV
 | Is=>exact ES (k:=λ c=>Q c.av σ) (is:=true) (a:=a) (b:=b) h (λ c e1 e2 z=>by subst e1; exact xG.lit (aA.isNone (bZ e2)) z) (λ x y e1 e2 z=>by subst e1 e2; exact aA.isBool z) (λ C n x e1 e2 hk z=>by subst e1 e2; exact xG.lit (aA.Nb O hk) z) (λ x _ e1 e2 z=>by subst e1 e2; exact xG.lit aA.Kg z) sV
 | IsNot=>exact ES (k:=λ c=>Q c.no.av σ) (is:=false) (a:=a) (b:=b) h (λ c e1 e2 z=>by subst e1; exact xG.lit (aA.yO (bZ e2)) z) (λ x y e1 e2 z=>by subst e1 e2; exact aA.C1 (by cases x<;>cases y<;>exact z)) (λ C n x e1 e2 hk z=>by exact cV hk) (λ x e _ _ _=>by exact cV e) sV
 | _=>exact sV h
theorem nv (O:W.Ok) {a:AV} {Q:BC→List AO→Prop} (h:vS W d a σ Q):bf W d a σ λ c σ'=>∃ bc,bc.val=c∧Q bc σ':=by
 cases a with
 | bool b=>exact bf.bool ⟨_,rfl,h⟩
 | int i=>exact bf.int ⟨_,rfl,h⟩
 | none=>exact bf.none ⟨_,rfl,h⟩
 | lst n=>obtain ⟨xs,e,hz,q⟩:=h; exact bf.lst e hz ⟨_,rfl,q⟩
 | inst C n=>exact bf.ref O rfl iR.inst (aB h).1 ⟨_,rfl,(aB h).2⟩
 | cst v=>cases v with
  | bool b=>exact λ A s ρ v hr R hv=>by refine VR.aX hv ?_; exact wpAny_truthy_bool (Post.here R ⟨_,rfl,h⟩ s.toks)
  | _=>exact bf.mono h λ c s q=>⟨_,rfl,q⟩
 | _=>exact bf.mono h λ c s q=>⟨_,rfl,q⟩
theorem F1.Qz {a:AV} {Q:AV→List AO→Prop} (h:bf W d a σ λ c σ'=>∃ bc,BC.val bc=c∧Q bc.no.av σ'):F1 W d .Not a σ Q:=by
 intro A s ρ vs hr R hv
 exact hv.aq λ _ _ h1 h2=>by
  refine bh.aW h2 ?_
  refine not_of (pA (h A s ρ _ hr R h1) λ c s' p=>p.mono λ _ _ _ z=>?_)
  obtain ⟨bc,e,q⟩:=z
  refine ⟨_,?_,q⟩
  subst e
  cases bc with
  | lit b=>exact .cst _
  | sym b=>exact .bool _
theorem KD (O:W.Ok) {op:UnaryOp} {a:AV} {Q:AV→List AO→Prop} (h:RM W d op a σ Q):F1 W d op a σ Q:=by
 cases op with
 | USub=>cases a with
  | int x=>exact F1.neg h
  | _=>exact h
 | Not=>exact F1.Qz (nv O h)
 | _=>exact h
theorem GS {t:Kd} {a b:AV} {Q:AV→List AO→Prop} (h:NH W d t a b σ Q):mZ W d a b σ Q:=by
 cases b with
 | int k=>cases a with
  | tup xs =>
   have c:=aB h
   have c1:=Bool.and_eq_true_iff.mp c.1
   exact aC c.2 (λ x e q=>mZ.tup (of_decide_eq_true c1.1) e (of_decide_eq_true c1.2) q) (λ _ q=>q.elim)
  | lst n=>obtain ⟨xs,x,e,h0,h1,hx,q⟩:=h; exact mZ.list e h0 hx h1 (sJ (k:=λ v=>Q v σ) q)
  | _=>exact mZ.mono h λ v s q=>sJ (k:=λ v=>Q v s) q
 | _=>exact mZ.mono h λ v s q=>sJ (k:=λ v=>Q v s) q
theorem tR {f:Expr→List AO→(AV→List AO→Prop)→Prop} (hf:∀ e σ Q,f e σ Q→aT W d env e η σ Q) {pos:Pos} (es:List Expr):∀ (σ:List AO) (Q:List AV→List AO→Prop),es.all aK=true→GP f es σ Q→mX W d env pos es η σ Q:=by
 induction es with
 | nil=>intro σ Q _ h; exact mX.nil h
 | cons e es ih =>
  intro σ Q hu h
  rw [List.all_cons,Bool.and_eq_true] at hu
  exact mX.cons ((hf _ _ _ h).mono λ a af q=>ih _ _ hu.2 q) hu.1
theorem GU (O:W.Ok) {f:Expr→List AO→(AV→List AO→Prop)→Prop} (hf:∀ e σ Q,f e σ Q→aT W d env e η σ Q) {pos:Pos} (es:List Expr):∀ (σ:List AO) (Q:AV→List AO→Prop),Kv W d f es σ Q→aT W d env (.BoolOp .And es pos) η σ Q:=by
 induction es with
 | nil=>intro σ Q h; exact h.elim
 | cons e es ih =>
  intro σ Q h
  cases es with
  | nil=>exact aT.Cg (hf _ _ _ h)
  | cons oW es =>
   refine aT.and ((hf _ _ _ h).mono λ a af q=>(nv O q).mono λ c ai q=>?_)
   obtain ⟨bc,e,q⟩:=q
   have q:=m6 q
   cases c with
   | true=>exact ih _ _ (q.1 e)
   | false=>exact q.2 e
theorem KG (O:W.Ok) {f:Expr→List AO→(AV→List AO→Prop)→Prop} (hf:∀ e σ Q,f e σ Q→aT W d env e η σ Q) {pos:Pos} (es:List Expr):∀ (σ:List AO) (Q:AV→List AO→Prop),Qw W d f es σ Q→aT W d env (.BoolOp .Or es pos) η σ Q:=by
 induction es with
 | nil=>intro σ Q h; exact h.elim
 | cons e es ih =>
  intro σ Q h
  cases es with
  | nil=>exact aT.Cg (hf _ _ _ h)
  | cons oW es =>
   refine aT.or ((hf _ _ _ h).mono λ a af q=>(nv O q).mono λ c ai q=>?_)
   obtain ⟨bc,e,q⟩:=q
   have q:=m6 q
   cases c with
   | true=>exact q.1 e
   | false=>exact ih _ _ (q.2 e)
theorem Az {f:AV} (h:EK W f=true):b9 W f:=by
 cases f with
 | cst v=>cases v with
  | ref a=>exact b9.ref h
  | builtin _=>exact b9.builtin
  | type _=>exact b9.type
  | _=>exact cV h
 | pn f _=>exact b9.pn h
 | _=>exact cV h
theorem Cq {a b:Bool} {P:Prop} (h:(a||b)=true) (ha:a=true→P) (hb:b=true→P):P:=by
 cases a with
 | true=>exact ha rfl
 | false=>exact hb h
theorem TH {p:Prop} [i:Decidable p] {f:p→Bool} (h:(if hp:p then f hp else false)=true):∃ hp:p,f hp=true:=by
 cases i with
 | isTrue hp=>exact ⟨hp,h⟩
 | isFalse _=>exact cV h
theorem zV {e:Expr} {i:Nat} (h:tg e i=true):e.ctorIdx=i:=Nat.eq_of_beq_eq_true h
theorem qK {o:Expr} {name:Str} (h:sU o=true):attributeBase o name env (eval o env)=eval o env:=by
 have G:∀ P:Expr→Prop,(∀ a b,P (.Name a b))→(∀ a b c,P (.Attribute a b c))→(∀ a b c,P (.Subscript a b c))→(∀ a b c as ks p,P (.Call (.Attribute a b c) as ks p))→(∀ a b x as ks p,P (.Call (.Name a b) (x :: as) ks p))→P o:=by
  intro P h1 h2 h3 h4 h5
  refine Cq h (λ h=>Expr.Name.elim o (zV h) h1) λ h=>Cq h (λ h=>Expr.Attribute.elim o (zV h) h2) λ h=>Cq h (λ h=>Expr.Subscript.elim o (zV h) h3) λ h=>?_
  obtain ⟨hp,h⟩:=TH h
  refine Expr.Call.elim (motive_1:=λ o=>∀ hp,Expr.Call.elim (motive_1:=λ _=>Bool) o hp (λ f as _ _=>tg f 20||(tg f 23&&!as.isEmpty))=true→P o) o hp (λ f as ks p _ h=>?_) hp h
  refine Cq h (λ h=>Expr.Attribute.elim (motive_1:=λ f=>P (.Call f as ks p)) f (zV h) λ a b c=>h4 a b c as ks p) λ h=>?_
  have c:=Bool.and_eq_true_iff.mp h
  refine Expr.Name.elim (motive_1:=λ f=>P (.Call f as ks p)) f (zV c.1) λ a b=>?_
  cases as with
  | nil=>exact cV c.2
  | cons x as=>exact h5 a b x as ks p
 exact G (λ o=>attributeBase o name env (eval o env)=eval o env) (λ _ _=>rfl) (λ _ _ _=>rfl) (λ _ _ _=>rfl) (λ _ _ _ _ _ _=>rfl) (λ _ _ _ _ _ _=>rfl)
theorem AA {i:Expr} (h:Ax i=true):∀ p q,subscripted i false p q=operate [p,q] (getItem p q):=by
 have G:∀ P:Expr→Prop,(∀ a b,P (.Name a b))→(∀ a b c,P (.Attribute a b c))→(∀ a b c d,P (.Call a b c d))→(∀ a b c,P (.Subscript a b c))→(∀ a b c d,P (.BinOp a b c d))→(∀ a b c,P (.Constant a b c))→(∀ a b c,P (.UnaryOp a b c))→P i:=by
  intro P h1 h2 h3 h4 h5 h6 h7
  exact Cq h (λ h=>Expr.Name.elim i (zV h) h1) λ h=>Cq h (λ h=>Expr.Attribute.elim i (zV h) h2) λ h=>Cq h (λ h=>Expr.Call.elim i (zV h) h3) λ h=>Cq h (λ h=>Expr.Subscript.elim i (zV h) h4) λ h=>Cq h (λ h=>Expr.BinOp.elim i (zV h) h5) λ h=>Cq h (λ h=>Expr.Constant.elim i (zV h) h6) λ h=>Expr.UnaryOp.elim i (zV h) h7
 exact G (λ i=>∀ p q,subscripted i false p q=operate [p,q] (getItem p q)) (λ _ _ _ _=>rfl) (λ _ _ _ _ _=>rfl) (λ _ _ _ _ _ _=>rfl) (λ _ _ _ _ _=>rfl) (λ _ _ _ _ _ _=>rfl) (λ _ _ _ _ _=>rfl) (λ _ _ _ _ _=>rfl)
theorem aT.NV {o:Expr} {name:Str} {pos:Pos} {Q:AV→List AO→Prop} (hb:attributeBase o name env (eval o env)=eval o env)
 (h:aT W d env o η σ λ a af=>o6 W d a name af Q):aT W d env (.Attribute o name pos) η σ Q:=λ A s ρ hr R F=>by
 show wpAny _ _ (do
  let ov ← attributeBase o name env (eval o env)
  standAt pos.atName
  let r ← holding [ov] (getAttr ov name true)
  letTemporaryGo o ov r
  pure r) _ _ _
 rw [hb]
 refine wpAny_bind (aM (h A s ρ hr R F) λ ov h₁ tk₁ δ af p f R₁ hq=>?_)
 obtain ⟨a,va,q⟩:=hq
 exact wpAny_bind (wpAny_standAt (wpAny_bind (wpAny_holding (pA (q A _ _ _ true hr R₁ va) λ r c7 z=>wpAny_bind (wpAny_letTemporaryGo (wpAny_pure (Post.chain p f z)))))))
theorem Cr {K:Frag} {C f:Addr} {name:Str} (h:fnOf K C name=some f):findIn K (.ref C) name=some (some (.ref f))∧isFn K (.ref f)=true:=by
 obtain ⟨g,e,h⟩:=cB h
 obtain ⟨c,h⟩:=J4 h
 cases h
 exact ⟨zk e,c⟩
theorem ET (O:W.Ok) {a:AV} {name:Str} {Q:AV→List AO→Prop} (h:IS W d T a name σ Q):o6 W d a name σ Q:=by
 cases a with
 | inst C m =>
  refine aC h (λ f e h=>?_) (λ e h=>?_)
  · have c:=aB h
    obtain ⟨⟨fs,e1,e2⟩,q⟩:=c.2
    exact o6.pn O e1 e2 (Cr e).1 c.1 q
  · have c:=aB h
    obtain ⟨fs,v,e1,e2,e3,q⟩:=c.2
    exact o6.field O e1 e2 c.1 e3 (sJ (k:=λ v=>Q v σ) q)
 | cst v=>cases v with
  | ref x=>exact aC h (λ v e q=>o6.base O e q) (λ _ h=>h)
  | _=>exact h
 | _=>exact h
set_option tactic.hygienic true in
theorem GV (O:W.Ok) {C m f:Nat} {name:Str} (h:NI W.K C name=some f) (h0:aD m name σ) {k:AV→List AV→List AO→Prop} (q:k (.cst (.ref f)) [] σ):cG W d (.inst C m) name σ k:=by
 obtain ⟨fs,e1,e2⟩:=h0
 obtain ⟨p,e3,h⟩:=cB h
 obtain ⟨l,e4,h⟩:=cB h
 obtain ⟨v,e5,h⟩:=cB h
 obtain ⟨f',e6,h⟩:=cB h
 obtain ⟨hk,h⟩:=J4 h
 cases h
 obtain ⟨l,rfl⟩:=List.head?_eq_some_iff.mp e5
 obtain rfl:=qA e6
 refine cG.static O e1 e2 (zk e3) e4 hk (b9.ref ?_) q
 simp only [Bool.and_eq_true] at hk
 exact hk.1.1.1.1.1.2
theorem br {b:Bool} {p q P:Prop} (h:bif b then p else q) (h1:b=true→p→P) (h2:q→P):P:=by
 cases b with
 | true=>exact h1 rfl h
 | false=>exact h2 h
theorem AB (O:W.Ok) {a:AV} {name:Str} {k:AV→List AV→List AO→Prop} (h:EL W d a name σ k):cG W d a name σ k:=by
 cases a with
 | inst C m =>
  obtain ⟨h0,h⟩:=h
  refine aC h (λ f e h=>?_) (λ e h=>aC h (λ f e h=>GV O e h0 h) (λ _ h=>h))
  have c:=aB h
  have c1:=Bool.and_eq_true_iff.mp c.1
  obtain ⟨fs,e1,e2⟩:=h0
  obtain ⟨e3,e4⟩:=Cr e
  exact cG.fn O e1 e2 e3 (by rw [c1.1,c1.2,e4]; rfl) c.2
 | lst m =>
  have c:=aB h
  obtain ⟨xs,e,q⟩:=c.2
  rw [beq_iff_eq.mp c.1]
  exact cG.append e q
 | int i=>exact br h (λ e q=>by rw [beq_iff_eq.mp e]; exact cG.bits q) λ h=>h
 | dct m =>
  have c:=aB h
  obtain ⟨⟨es,e⟩,q⟩:=c.2
  rw [beq_iff_eq.mp c.1]
  exact cG.J9 e q
 | cst v=>cases v with
  | ref x=>exact aC h (λ f e q=>cG.base O e q) (λ _ h=>aC h (λ f e q=>cG.cls O e q) (λ _ h=>h))
  | _=>exact h
 | _=>exact h
theorem Cs {f:AV} {as:List AV} {t:Kd} {Q:AV→List AO→Prop} (h:ao W d f as σ λ v s=>dK t v λ v=>Q v s):ao W d f as σ Q:=ao.mono h λ v s q=>sJ (k:=λ v=>Q v s) q
theorem GW (O:W.Ok) {t:Kd} {nm:String} {as:List AV} {Q:AV→List AO→Prop} {dflt:Prop} (h:NJ W t nm as σ Q dflt) (hd:dflt→ao W d (.cst (.builtin nm)) as σ Q):ao W d (.cst (.builtin nm)) as σ Q:=by
 cases as with
 | nil=>exact hd h
 | cons a r=>cases a with
  | lst n=>cases r with
   | nil=>exact br h (λ e ⟨xs,e1,hz,q⟩=>by rw [beq_iff_eq.mp e]; exact ao.len e1 hz q) λ h=>br h (λ e ⟨bs,e1,q⟩=>by rw [beq_iff_eq.mp e]; exact ao.all e1 q) hd
   | cons b r=>cases r with
    | nil=>exact br h (λ e ⟨xs,e1,hz,q⟩=>by rw [beq_iff_eq.mp e]; exact ao.append e1 hz q) hd
    | cons=>exact hd h
  | int i=>cases r with
   | nil=>exact br h (λ e q=>by rw [beq_iff_eq.mp e]; exact ao.abs q) λ h=>br h (λ e q=>by rw [beq_iff_eq.mp e]; exact ao.bits q) hd
   | cons b r=>cases r with
    | nil=>cases b with
     | int j=>exact br h (λ e q=>by rw [beq_iff_eq.mp e]; exact ao.max q) hd
     | _=>exact hd h
    | cons=>exact hd h
  | inst C n=>cases r with
   | nil=>exact hd h
   | cons b r=>cases r with
    | nil=>cases b with
     | cst v=>cases v with
      | ref D =>
       refine br h (λ e q=>?_) hd
       rw [beq_iff_eq.mp e]
       exact br q (λ e q=>ao.lit (ao.Kf O e) q) (λ q=>let ⟨⟨fs,e1,_⟩,q2⟩:=(aB q).2; ao.lit (ao.Na O e1 (aB q).1) q2)
      | _=>exact hd h
     | _=>exact hd h
    | cons=>exact hd h
  | dct n=>cases r with
   | nil=>exact hd h
   | cons b r=>cases b with
    | int i=>cases r with
     | nil=>exact hd h
     | cons x r=>cases r with
      | nil =>
       refine br h (λ e q=>?_) hd
       have c:=aB q
       obtain ⟨es,e1,q⟩:=c.2
       rw [beq_iff_eq.mp e]
       obtain ⟨ob,hob⟩:=Option.isSome_iff_exists.mp c.1
       exact ao.J9 O (by rw [O.tB _ _ hob]; exact Option.some_ne_none _) e1 (sJ (k:=λ v=>Q v σ) q)
      | cons=>exact hd h
    | _=>exact hd h
  | cst u=>cases u with
   | ref x=>cases r with
    | nil=>exact hd h
    | cons b r=>cases r with
     | nil=>cases b with
      | cst v=>cases v with
       | ref D =>
        refine br h (λ e q=>?_) hd
        exact aC q (λ t et q=>br q (λ ei q=>by rw [beq_iff_eq.mp e]; exact ao.lit (GH (C:=0) O et ei) q) hd) (λ _=>hd)
       | _=>exact hd h
      | _=>exact hd h
     | cons=>exact hd h
   | _=>exact hd h
  | _=>exact hd h
theorem GX {nm:String} {as:List AV} {Q:AV→List AO→Prop} {dflt:Prop} (h:NL nm as σ Q dflt) (hd:dflt→ao W d (.cst (.type nm)) as σ Q):ao W d (.cst (.type nm)) as σ Q:=by
 cases as with
 | nil=>exact hd h
 | cons a r=>cases a with
  | int i=>cases r with
   | nil=>exact br h (λ e q=>by rw [beq_iff_eq.mp e]; exact ao.int q) λ h=>br h (λ e q=>by rw [beq_iff_eq.mp e]; exact ao.Ka q) hd
   | cons b r=>cases b with
    | int j=>cases r with
     | nil=>exact br h (λ e q=>by rw [beq_iff_eq.mp e]; exact ao.Kc q) hd
     | cons c r=>cases c with
      | int k=>cases r with
       | nil=>exact br h (λ e q=>by rw [beq_iff_eq.mp e]; exact ao.Ke q.1 q.2.1 q.2.2) hd
       | cons=>exact hd h
      | _=>exact hd h
    | _=>exact hd h
  | bool b=>cases r with
   | nil=>exact br h (λ e q=>by rw [beq_iff_eq.mp e]; exact ao.Qk q) hd
   | cons=>exact hd h
  | _=>exact hd h
theorem AD (O:W.Ok) {t:Option Kd} {f:AV} {as:List AV} {Q:AV→List AO→Prop} (h:EM W d T t f as σ Q):ao W d f as σ Q:=by
 cases f with
 | cst v=>cases v with
  | ref a=>exact Cs (ah.w h)
  | builtin nm=>exact GW O h Cs
  | type nm=>exact GX h Cs
  | _=>exact h
 | pn f a=>exact Cs (ah.w (ah.pn h))
 | _=>exact h
theorem bY.mono {e:Expr} {Q Q':Bool→List AO→Prop} (h:bY W d env e η σ Q) (q:∀ c σ',Q c σ'→Q' c σ'):bY W d env e η σ Q':=λ A s ρ hr R F =>
 pA (h A s ρ hr R F) λ _ _ p=>p.mono λ _ _ _ z=>q _ _ z
theorem KH (O:W.Ok) {a:AV} {b:Bool} {Q:BC→List AO→Prop} (h:bif b then (bf W d a σ λ c s=>Q (.sym c) s) else vS W d a σ Q):bf W d a σ λ c σ'=>∃ bc,bc.val=c∧Q bc σ':=br h (λ _ h=>bf.mono h λ c s q=>⟨_,rfl,q⟩) (nv O)
theorem IX (O:W.Ok) {e:Expr} {i:Int} (h:pI η e=some i):aT W d env e η σ λ v σ'=>v=.int i∧σ'=σ:=by
 cases e with
 | Name x p =>
  have h:(match bW η x with
   | some v=>(match v with
    | .int i=>some i
    | _=>none)
   | none=>none)=some i:=h
  cases e1:bW η x with
  | none=>rw [e1] at h; exact aP h
  | some v =>
   rw [e1] at h
   cases v with
   | int j=>refine sE h ?_; exact aT.name O (bL e1) ⟨rfl,rfl⟩
   | _=>exact aP h
 | Constant c k p=>cases c with
  | int j=>refine sE h ?_; exact aT.int ⟨rfl,rfl⟩
  | _=>exact aP h
 | _=>exact aP h
theorem EU {α β γ:Type} {a:Option α} {b:Option β} {k:α→β→Option γ} {z:γ} (h:o2 a b k=some z):∃ x y,a=some x∧b=some y∧k x y=some z:=by
 cases a with
 | none=>exact aP h
 | some x=>cases b with
  | none=>exact aP h
  | some y=>exact ⟨x,y,rfl,rfl,h⟩
theorem NW {op:CmpOp} {x y:Int} {c:Bool} (h:pC op x y=some c) {Q:AV→List AO→Prop} (q:Q (.bool c) σ):aA W d op (.int x) (.int y) σ Q:=by
 cases op with
 | Lt=>cases h; exact aA.lt q
 | Gt=>cases h; exact aA.gt q
 | LtE=>cases h; exact aA.le q
 | GtE=>cases h; exact aA.ge q
 | Eq=>cases h; exact aA.eq q
 | NotEq=>cases h; exact aA.ne q
 | _=>exact aP h
theorem bY.KI {e:Expr} {pos:Pos} {Q:Bool→List AO→Prop} (h:bY W d env e η σ Q):bY W d env (.BoolOp .And [e] pos) η σ Q:=bY.and (h.mono λ c σ' q=>by
 cases c with
 | true=>exact bY.Ec q
 | false=>exact q)
theorem bY.NX {e:Expr} {pos:Pos} {Q:Bool→List AO→Prop} (h:bY W d env e η σ Q):bY W d env (.BoolOp .Or [e] pos) η σ Q:=bY.or (h.mono λ c σ' q=>by
 cases c with
 | true=>exact q
 | false=>exact bY.Ip q)
theorem NY (O:W.Ok):∀ (n:Nat) (e:Expr) (c:Bool),pB η n e=some c→bY W d env e η σ λ c' σ'=>c'=c∧σ'=σ:=by
 intro n
 induction n with
 | zero=>intro e c h; exact aP h
 | succ n ih =>
  have hand:∀ (pos:Pos) (es:List Expr) (c:Bool),EJ (pB η n) true es=some c→bY W d env (.BoolOp .And es pos) η σ λ c' σ'=>c'=c∧σ'=σ:=by
   intro pos es
   induction es with
   | nil=>intro c h; exact aP h
   | cons e r ihr =>
    intro c h
    cases r with
    | nil=>exact bY.KI (ih e c h)
    | cons e2 r =>
     obtain ⟨x,y,h1,h2,h3⟩:=EU h
     refine sE h3 ?_
     refine bY.and ((ih e x h1).mono λ c' σ' z=>?_)
     obtain ⟨rfl,rfl⟩:=z
     cases c' with
     | true=>exact (ihr y h2).mono λ c' σ' z=>z
     | false=>exact ⟨rfl,rfl⟩
  have hor:∀ (pos:Pos) (es:List Expr) (c:Bool),EJ (pB η n) false es=some c→bY W d env (.BoolOp .Or es pos) η σ λ c' σ'=>c'=c∧σ'=σ:=by
   intro pos es
   induction es with
   | nil=>intro c h; exact aP h
   | cons e r ihr =>
    intro c h
    cases r with
    | nil=>exact bY.NX (ih e c h)
    | cons e2 r =>
     obtain ⟨x,y,h1,h2,h3⟩:=EU h
     refine sE h3 ?_
     refine bY.or ((ih e x h1).mono λ c' σ' z=>?_)
     obtain ⟨rfl,rfl⟩:=z
     cases c' with
     | true=>exact ⟨rfl,rfl⟩
     | false=>exact (ihr y h2).mono λ c' σ' z=>z
  intro e c h
  cases e with
  | Name x p =>
   have h:(match bW η x with
    | some v=>(match v with
     | .int i=>some (decide (i≠0))
     | .bool b=>some b
     | _=>none)
    | none=>none)=some c:=h
   cases e1:bW η x with
   | none=>rw [e1] at h; exact aP h
   | some v =>
    rw [e1] at h
    cases v with
    | int j=>refine sE h ?_; exact bY.name (aT.name O (bL e1) (bf.int ⟨rfl,rfl⟩))
    | bool j=>refine sE h ?_; exact bY.name (aT.name O (bL e1) (bf.bool ⟨rfl,rfl⟩))
    | _=>exact aP h
  | UnaryOp op x p=>cases op with
   | Not =>
    have h:(match pB η n x with
     | some b=>some (!b)
     | none=>none)=some c:=h
    cases e1:pB η n x with
    | none=>rw [e1] at h; exact aP h
    | some b =>
     rw [e1] at h
     refine sE h ?_
     exact bY.not ((ih x b e1).mono λ c' σ' z=>⟨by rw [z.1],z.2⟩)
   | _=>exact aP h
  | Compare l ops rs p=>cases ops with
   | nil=>exact aP h
   | cons op ops=>cases ops with
    | cons=>exact aP h
    | nil=>cases rs with
     | nil=>exact aP h
     | cons r rs=>cases rs with
      | cons=>exact aP h
      | nil =>
       have h:(bif behindInMarks op r then none else o2 (pI η l) (pI η r) (pC op))=some c:=h
       cases hm:behindInMarks op r with
       | true=>rw [hm] at h; exact aP h
       | false =>
        rw [hm] at h
        obtain ⟨x,y,h1,h2,h3⟩:=EU h
        refine bY.cmp ((IX O h1).mono λ a af z=>?_) hm
        obtain ⟨rfl,rfl⟩:=z
        refine (IX O h2).mono λ b ai z=>?_
        obtain ⟨rfl,rfl⟩:=z
        exact NW h3 (bf.bool ⟨rfl,rfl⟩)
  | BoolOp op es p=>cases op with
   | And=>exact hand p es c h
   | Or=>exact hor p es c h
  | _=>exact aP h
theorem GY {t:Option Kd} {Q:BC→List AO→Prop} {v:AV} (h:NB t Q v σ):bf W d v σ λ c σ'=>∃ bc,BC.val bc=c∧Q bc σ':=by
 have g:(dB v λ c=>Q (.sym c) σ)→bf W d v σ λ c σ'=>∃ bc,BC.val bc=c∧Q bc σ':=λ q=>by
  cases v with
  | bool c=>exact bf.bool ⟨_,rfl,q⟩
  | _=>exact q.elim
 cases t with
 | none=>exact g h
 | some t=>cases t with
  | yes=>obtain ⟨rfl,q⟩:=h; exact bf.bool ⟨_,rfl,q⟩
  | no=>obtain ⟨rfl,q⟩:=h; exact bf.bool ⟨_,rfl,q⟩
  | _=>exact g h
theorem sW {e:Expr} {p:Expr×List Expr} (h:xQ e=some p):∃ q,e=.Call p.1 p.2 [] q:=by
 obtain ⟨hp,h⟩:=yh h
 exact Expr.Call.elim (motive_1:=λ e=>∀ hp,Expr.Call.elim (motive_1:=λ _=>Option (Expr×List Expr)) e hp (λ f as ks _=>IT f as ks)=some p→∃ q,e=.Call p.1 p.2 [] q) e hp (λ f as ks q _ h=>⟨q,by
  obtain ⟨h1,h2⟩:=J4 h
  rw [← h2,List.isEmpty_iff.mp h1]⟩) hp h
theorem o8 {e:Expr} {x:Str} (h:xS e=some x):∃ q,e=.Name x q:=by
 obtain ⟨hp,h⟩:=yh h
 exact Expr.Name.elim (motive_1:=λ e=>∀ hp,Expr.Name.elim (motive_1:=λ _=>Option Str) e hp (λ x _=>some x)=some x→∃ q,e=.Name x q) e hp (λ _ q _ h=>⟨q,congrArg (Expr.Name · q) (Option.some.inj h)⟩) hp h
theorem zq {l:List Expr} {e:Expr} (h:one? l=some e):l=[e]:=by
 cases l with
 | nil=>exact nomatch h
 | cons a r=>cases r with
  | nil=>cases h; rfl
  | cons=>exact nomatch h
theorem Ct {v:AV} {vs:List AV} (h:KA v=some vs):v=.tup vs:=by
 obtain ⟨hp,h⟩:=yh h
 exact AV.tup.elim (motive_1:=λ v=>∀ hp,AV.tup.elim (motive_1:=λ _=>Option (List AV)) v hp some=some vs→v=.tup vs) v hp (λ _ _ h=>congrArg _ (Option.some.inj h)) hp h
theorem zu {v:AV} {a:Addr} (h:EN v=some a):v=.cst (.ref a):=by
 obtain ⟨hp,h⟩:=yh h
 exact AV.cst.elim (motive_1:=λ v=>∀ hp,AV.cst.elim (motive_1:=λ _=>Option Addr) v hp zd=some a→v=.cst (.ref a)) v hp (λ _ _ h=>congrArg _ (qA h)) hp h
theorem EV {i u:Expr} (h:IV i=some u):∃ p,i=.Slice none (some u) none p:=by
 obtain ⟨hp,h⟩:=yh h
 refine Expr.Slice.elim (motive_1:=λ e=>∀ hp,Expr.Slice.elim (motive_1:=λ _=>Option Expr) e hp (λ lo up st _=>RN lo up st)=some u→∃ p,e=.Slice none (some u) none p) i hp (λ lo up st p _ h=>⟨p,?_⟩) hp h
 have h:(if (lo.isNone&&st.isNone)=true then up else none)=some u:=h
 cases lo with
 | some _=>exact aP h
 | none=>cases st with
  | some _=>exact aP h
  | none=>exact congrArg (Expr.Slice none · none p) h
theorem GZ {c:Const} {k:Int} (h:KC c=some k):c=.int k:=by
 obtain ⟨hp,h⟩:=yh h
 exact Const.int.elim (motive:=λ c=>∀ hp,Const.int.elim (motive:=λ _=>Option Int) c hp some=some k→c=.int k) c hp (λ _ _ h=>congrArg _ (Option.some.inj h)) hp h
theorem G0 {e:Expr} {k:Int} (h:NO e=some k):∃ n p,e=.Constant (.int k) n p:=by
 obtain ⟨hp,h⟩:=yh h
 exact Expr.Constant.elim (motive_1:=λ e=>∀ hp,Expr.Constant.elim (motive_1:=λ _=>Option Int) e hp (λ c _ _=>KC c)=some k→∃ n p,e=.Constant (.int k) n p) e hp (λ _ n p _ h=>⟨n,p,congrArg (Expr.Constant · n p) (GZ h)⟩) hp h
theorem G1 {gens:List Comprehension} {x:Str} {g:Comprehension} (h:NP gens=some (x,g)):∃ px,gens=[⟨.Name x px,g.iter,g.ifs,g.is_async⟩]:=by
 cases gens with
 | nil=>exact nomatch h
 | cons g' more=>cases more with
  | cons=>exact nomatch h
  | nil =>
   obtain ⟨y,h1,h2⟩:=Option.bind_eq_some_iff.mp h
   cases h2
   obtain ⟨px,e⟩:=o8 h1
   obtain ⟨tg,it,ifs,RP⟩:=g
   exact ⟨px,by rw [← show tg=_ from e]⟩
theorem EW {nm:String} {o:Option AV} (h:IU nm o=true):o=some (.cst (.type nm)):=by
 cases o with
 | none=>exact cV h
 | some v=>cases v with
  | cst v=>cases v with
   | type n=>rw [beq_iff_eq.mp h]
   | _=>exact cV h
  | _=>exact cV h
theorem EX {it e:Expr} (h:IW η it=some e):∃ x p q,it=.Call (.Name x p) [e] [] q∧yi η x (.cst (.type "reversed"))∧aK e=true:=by
 obtain ⟨⟨f,as⟩,h1,h⟩:=Option.bind_eq_some_iff.mp h
 obtain ⟨x,h2,h⟩:=Option.bind_eq_some_iff.mp h
 obtain ⟨e',h3,hf⟩:=Option.bind_eq_some_iff.mp h
 obtain ⟨q,rfl⟩:=sW h1
 obtain ⟨p,e2⟩:=o8 h2
 have e3:=zq h3
 dsimp only at e2 e3
 subst e2 e3
 obtain ⟨hc,hf⟩:=J4 hf
 cases hf
 rw [Bool.and_eq_true] at hc
 exact ⟨x,p,q,rfl,bL (EW hc.1),hc.2⟩
theorem G2 {t:Option Kd} {Q:BC→List AO→Prop} {c:Bool} (h:NC t Q c σ):∃ bc,BC.val bc=c∧Q bc σ:=by
 cases t with
 | none=>exact ⟨_,rfl,h⟩
 | some t=>cases t with
  | yes=>exact ⟨.lit true,h.1.symm,h.2⟩
  | no=>exact ⟨.lit false,h.1.symm,h.2⟩
  | _=>exact ⟨_,rfl,h⟩
theorem wj (O:W.Ok) {f:Expr→List AO→(AV→List AO→Prop)→Prop} (hf:∀ e σ Q,f e σ Q→aT W d env e η σ Q):∀ (n:Nat) (e:Expr) (σ:List AO) (Q:BC→List AO→Prop),xT W d T η f n e σ Q→bY W d env e η σ λ c σ'=>∃ bc,bc.val=c∧Q bc σ':=by
 intro n
 induction n with
 | zero=>intro e σ Q h; exact h.elim
 | succ n ih =>
  have hand:∀ (pos:Pos) (es:List Expr) (σ:List AO) (Q:BC→List AO→Prop),EI (xT W d T η f n) es σ Q→bY W d env (.BoolOp .And es pos) η σ λ c σ'=>∃ bc,bc.val=c∧Q bc σ':=by
   intro pos es
   induction es with
   | nil=>intro σ Q h; exact bY.Ec ⟨_,rfl,h⟩
   | cons e es QA =>
    intro σ Q h
    refine bY.and ((ih _ _ _ h).mono λ c af q=>?_)
    obtain ⟨bc,e,q⟩:=q
    have q:=m6 q
    cases c with
    | true=>exact QA _ _ (q.1 e)
    | false=>exact ⟨_,rfl,q.2 e⟩
  have hor:∀ (pos:Pos) (es:List Expr) (σ:List AO) (Q:BC→List AO→Prop),Kw (xT W d T η f n) es σ Q→bY W d env (.BoolOp .Or es pos) η σ λ c σ'=>∃ bc,bc.val=c∧Q bc σ':=by
   intro pos es
   induction es with
   | nil=>intro σ Q h; exact bY.Ip ⟨_,rfl,h⟩
   | cons e es QA =>
    intro σ Q h
    refine bY.or ((ih _ _ _ h).mono λ c af q=>?_)
    obtain ⟨bc,e,q⟩:=q
    have q:=m6 q
    cases c with
    | true=>exact ⟨_,rfl,q.1 e⟩
    | false=>exact QA _ _ (q.2 e)
  intro e σ Q h
  refine aC (α:=Bool) h (λ c ec q=>?_) λ _ h=>?_
  · cases er:T.rel e.pos.line e.pos.col e.pos.endCol with
    | true=>rw [er] at ec; exact aP ec
    | false=>rw [er] at ec; exact (NY O 20 e c ec).mono λ c' σ' z=>⟨.sym c,z.1.symm,by rw [z.2]; exact q⟩
  cases e with
  | BoolOp op es p=>cases op with
   | And=>exact hand _ _ _ _ h
   | Or=>exact hor _ _ _ _ h
  | UnaryOp op x p=>cases op with
   | Not =>
    refine bY.not ((ih _ _ _ h).mono λ c σ' q=>?_)
    obtain ⟨bc,e,q⟩:=q
    refine ⟨_,?_,q⟩
    subst e
    cases bc<;>rfl
   | _=>exact h.elim
  | Compare l ops rs p=>cases ops with
   | nil=>exact h.elim
   | cons op ops=>cases ops with
    | nil=>cases rs with
     | nil=>exact h.elim
     | cons r rs=>cases rs with
      | nil =>
       have c:=aB h
       refine bY.cmp ((hf _ _ _ c.2).mono λ a af q=>(hf _ _ _ q).mono λ b ai q=>?_) (by simpa using c.1)
       refine br q (λ _ q=>xG.mono q λ v s q=>?_) (λ q=>xG.mono (wN O q) λ c az q=>nv O q)
       exact GY q
      | cons=>exact h.elim
    | cons op' ops=>cases ops with
     | nil=>cases rs with
      | nil=>exact h.elim
      | cons r rs=>cases rs with
       | nil=>exact h.elim
       | cons r' rs=>cases rs with
        | nil =>
         have c:=aB h
         refine bY.Qs ((hf _ _ _ c.2).mono λ a af q=>(hf _ _ _ q).mono λ b ai q=>xG.mono (wN O q) λ c az q=>bf.mono (nv O q) λ t aY q=>?_) (by simpa using c.1)
         obtain ⟨bc,e,q⟩:=q
         have q:=m6 q
         cases t with
         | true=>exact (hf _ _ _ (q.1 e)).mono λ b' yX q=>xG.mono (wN O q) λ c' σ₆ q=>nv O q
         | false=>exact ⟨_,rfl,q.2 e⟩
        | cons=>exact h.elim
     | cons=>exact h.elim
  | Name=>exact bY.name ((hf _ _ _ h).mono λ a af q=>KH O q)
  | Call=>exact bY.call ((hf _ _ _ h).mono λ a af q=>KH O q)
  | Attribute=>exact bY.attr ((hf _ _ _ h).mono λ a af q=>br q (λ _ q=>bf.mono q λ c s q=>G2 q) (nv O))
  | Subscript=>exact bY.J5 ((hf _ _ _ h).mono λ a af q=>KH O q)
  | BinOp=>exact bY.binop ((hf _ _ _ h).mono λ a af q=>nv O q)
  | _=>exact h.elim
def Lf (i b c:Int) (n:Nat):Prop:=b-i≤n*c∧(n=0∨((n:Int)-1)*c<b-i)
theorem Lf.start {a b c:Int} (hc:0<c):Lf a b c (Builtin.Range.rangeSize a b c).toNat:=by
 unfold Builtin.Range.rangeSize Lf
 rw [if_pos hc]
 by_cases h:a<b
 · rw [if_pos h]
   have h1:0≤(b-a-1) / c:=Int.ediv_nonneg (by lia) (Lq.w hc)
   have h2:=Int.mul_ediv_add_emod (b-a-1) c
   have h3:=Int.emod_nonneg (b-a-1) (Int.ne_of_gt hc)
   have h4:=Int.emod_lt_of_pos (b-a-1) hc
   rw [Int.toNat_of_nonneg (by omega),Int.add_mul,Int.one_mul]
   have h5:((b-a-1) / c+1-1)*c=c*((b-a-1) / c):=by rw [Int.add_sub_cancel,Int.mul_comm]
   have h6:((b-a-1) / c)*c=c*((b-a-1) / c):=Int.mul_comm _ _
   exact ⟨by (clear h5 h1 h; omega),.inr (by (clear h6 h4 h1 h hc; omega))⟩
 · rw [if_neg h]
   exact ⟨by simp; lia,.inl rfl⟩
theorem Lf.zero {i b c:Int} (h:Lf i b c 0):b≤i:=by
 have:=h.1
 simp at this
 lia
theorem Lf.succ {i b c:Int} {n:Nat} (hc:0<c) (h:Lf i b c (n+1)):i<b∧Lf (i+c) b c n:=by
 obtain ⟨h1,h2⟩:=h
 have e:((n+1:Nat):Int)=(n:Int)+1:=by lia
 rw [e,Int.add_mul,Int.one_mul] at h1
 rcases h2 with h2 | h2
 · lia
 rw [e,Int.add_sub_cancel] at h2
 have h3:0≤(n:Int)*c:=Int.mul_nonneg (Lq.z _) (Lq.w hc)
 refine ⟨by lia,by lia,?_⟩
 by_cases hn:n=0
 · exact .inl hn
 · refine .inr ?_
   rw [Int.sub_mul,Int.one_mul]; lia
theorem De {it:Expr} (h:EO it=true) (env:Env):∀ x,foldedSetIterable it env x=pure x:=by
 intro x
 cases it<;>first | rfl | exact cV h
set_option tactic.hygienic true in
theorem EY {names:List (Str×NameKind)} {x:Str} (h:EP names x=true):names.lookup x=some .local:=by
 unfold EP at h
 cases e:names.lookup x with
 | some k=>rw [e] at h; rw [beq_iff_eq.mp h]
 | none=>rw [e] at h; exact cV h
theorem Cw (O:W.Ok) {f:Expr→En→List AO→(AV→List AO→Prop)→Prop} {ft:En→Expr→List AO→(BC→List AO→Prop)→Prop} (hf:∀ env e η σ Q,f e η σ Q→aT W d env e η σ Q) (TJ:∀ env e η σ Q,ft η e σ Q→bY W d env e η σ λ c σ'=>∃ bc,BC.val bc=c∧Q bc σ')
 {t:Kd} {elt:Expr} {gens:List Comprehension} {scope:Scope} {Q:AV→List AO→Prop} (h:NR W f ft t elt gens scope η σ Q) :
 ∃ x px it ifs,gens=[⟨.Name x px,it,ifs,0⟩]∧cD scope η=true∧scope.names.lookup x=some .local∧(∀ x,foldedSetIterable it env x=pure x)∧qG W d env it η σ (CompI W d env η elt x ifs scope λ j σ'=>Q (.lst j) σ'):=by
 refine aC h (λ p eg h=>?_) λ _ h=>h.elim
 obtain ⟨x,g⟩:=p
 obtain ⟨px,eg⟩:=G1 eg
 obtain ⟨tg,it,ifs,RP⟩:=g
 dsimp only at eg
 have c:=aB h
 have c1:=Bool.and_eq_true_iff.mp c.1
 have c2:=Bool.and_eq_true_iff.mp c1.1
 have c3:=Bool.and_eq_true_iff.mp c2.1
 have e0:RP=0:=of_decide_eq_true c3.1
 subst e0
 refine ⟨x,px,it,ifs,eg,c3.2,EY c2.2,De c1.2 env,qG.of ((hf env _ _ _ _ c.2).mono λ a af q=>?_)⟩
 have turn:∀ (C:Addr) (j:Nat) (v:AV) (ai:List AO) (k':iL) (n:Nat) (Inv:Nat→Nat→iL→List AO→Prop) (next:List AO→Prop),(∀ az,next az→vF j n k' Inv az) →
  (bG (sG (kr W scope.names η) x v) (λ η₂=>NQ (ft η₂) ifs ai λ c az=>A4 c (f elt η₂ az λ v aY=>cR j aY λ xs=>xs.length≤1000000∧next (aY.set j (.lst (xs++[v])))) (next az)) False) →
  ∃ As,Up (kr W scope.names η) x v As∧Kl W d (compEnvC scope (aQ scope.names env.cells []) C env) ifs As ai λ b az=>if b=true then aT W d (compEnvC scope (aQ scope.names env.cells []) C env) elt As az λ v aY=>∃ xs,aY[j]? = some (.lst xs)∧xs.length≤1000000∧vF j n k' Inv (aY.set j (.lst (xs++[v]))) else vF j n k' Inv az:=by
  intro C j v ai k' n Inv next hn q
  refine aC (α:=En) q (λ η₂ e q=>⟨η₂,oH e,?_⟩) λ _ h=>h.elim
  have fin:∀ (b:Bool) (az:List AO),(∃ bc,BC.val bc=b∧A4 bc (f elt η₂ az λ v aY=>cR j aY λ xs=>xs.length≤1000000∧next (aY.set j (.lst (xs++[v])))) (next az)) →
   if b=true then aT W d (compEnvC scope (aQ scope.names env.cells []) C env) elt η₂ az λ v aY=>∃ xs,aY[j]? = some (.lst xs)∧xs.length≤1000000∧vF j n k' Inv (aY.set j (.lst (xs++[v]))) else vF j n k' Inv az:=by
   intro b az ⟨bc,eb,z⟩
   have z:=m6 z
   cases b with
   | true =>
    rw [if_pos rfl]
    exact (hf _ _ _ _ _ (z.1 eb)).mono λ v aY ⟨xs,e1,e2,e3⟩=>⟨xs,e1,e2,hn _ e3⟩
   | false=>rw [if_neg (by simp)]; exact hn _ (z.2 eb)
  cases ifs with
  | nil=>exact fin true ai ⟨.lit true,rfl,q⟩
  | cons c r=>cases r with
   | nil=>exact (TJ _ _ _ _ _ q).mono λ b az z=>fin b az z
   | cons=>exact q.elim
 cases a with
 | lst m =>
  obtain ⟨ys,e1,I,h1,h2⟩:=q
  refine ⟨_,rfl,⟨λ n l e=>(by cases e),λ j n k ai=>∃ i,n+i=ys.length∧k=.lst m i∧I i ai,⟨ys.length,0,rfl,rfl,h1⟩,?_⟩,λ n' e'=>by cases e'; exact ⟨_,e1⟩⟩
  intro C n k ai ⟨i,en,ek,hI⟩
  subst ek
  obtain ⟨e2,H,He⟩:=h2 i ai hI
  have TM:iL.next ai (.lst m i)=some (MW m i (ys.map (Dd t))[i]?):=by
   show Gx m i ai[m]? = _
   rw [e2]; rfl
  rw [TM]
  by_cases hi:i<ys.length
  · rw [List.getElem?_map,List.getElem?_eq_getElem hi]
    exact turn C _ _ ai _ n _ _ (λ az q=>⟨n-1,by lia,i+1,Lq.sh (by assumption) hi,rfl,q⟩) (H _ (List.getElem?_eq_getElem hi))
  · rw [List.getElem?_map,List.getElem?_eq_none (Nat.not_lt.mp hi)]
    exact He (by lia)
 | tw x0 b c =>
  have c2:=aB q
  obtain ⟨hs,I,h1,h2⟩:=c2.2
  have hc:=of_decide_eq_true c2.1
  refine ⟨.tw x0 c (Builtin.Range.rangeSize x0 b c).toNat,if_pos hs,⟨λ n l e=>(by cases e),λ j n k ai=>∃ i,Lf i b c n∧k=.tw i c n∧I i ai,⟨_,x0,Lf.start hc,rfl,h1⟩,?_⟩,λ n' e'=>by cases e'⟩
  intro C n k ai ⟨i,lf,ek,hI⟩
  subst ek
  have H:=h2 i ai hI
  cases n with
  | zero=>exact H.2 lf.zero
  | succ n =>
   obtain ⟨hx,QB⟩:=lf.succ hc
   exact turn C _ _ ai _ (n+1) _ _ (λ az q=>⟨n,Nat.lt_succ_self _,i+c,QB,rfl,q⟩) (H.1 hx)
 | _=>exact q.elim
theorem G3 (O:W.Ok) {v i:Expr} {p:Pos} {Q:AV→List AO→Prop} (h:NU W η v i σ Q):aT W d env (.Subscript v i p) η σ Q:=by
 refine aC h (λ x ex h=>aC h (λ k ek hh=>?_) λ _ h=>h.elim) λ _ h=>h.elim
 obtain ⟨px,rfl⟩:=o8 ex
 obtain ⟨u,h1,h2⟩:=Option.bind_eq_some_iff.mp ek
 obtain ⟨pi,rfl⟩:=EV h1
 obtain ⟨n,pu,rfl⟩:=G0 h2
 refine aC hh (λ l el hf=>?_) λ _ h5=>aC h5 (λ l el hf=>?_) λ _ h=>h.elim
 rotate_left
 · obtain ⟨a,h3,h4⟩:=Option.bind_eq_some_iff.mp el
   have e4:a=.lst l:=by cases a<;>first | (cases h4; rfl) | exact aP h4
   subst e4
   have c:=aB hf
   obtain ⟨xs,e,hz,q⟩:=c.2
   exact aT.EB O (bL h3) e hz (of_decide_eq_true c.1) q
 obtain ⟨a,h3,h4⟩:=Option.bind_eq_some_iff.mp el
 have e4:=zu h4
 subst e4
 have c:=aB hf
 obtain ⟨vs,ns,g1,g2,g3,q⟩:=c.2
 exact aT.C9 O (bL h3) g1 g2 g3 (of_decide_eq_true c.1) q
theorem KJ (O:W.Ok) {B3:Expr→List AO→(AV→List AO→Prop)→Prop} (hf:∀ e σ Q,B3 e σ Q→aT W d env e η σ Q) {g:Expr} {args:List Expr} {p:Pos} {Q:AV→List AO→Prop} (h:RO W d T B3 η g args p σ Q):aT W d env (.Call g args [] p) η σ Q:=by
 cases g with
 | Name x p' =>
  refine aC h (λ v e h=>?_) (λ _ h=>h.elim)
  have c:=aB h
  have c1:=Bool.and_eq_true_iff.mp c.1
  exact aT.call O (bL e) (Az c1.1) c1.2 ((tR hf _ _ _ c1.2 c.2).mono λ as af q=>AD O q)
 | Attribute o name apos =>
  have c:=aB h
  have c1:=Bool.and_eq_true_iff.mp c.1
  have c2:=Bool.and_eq_true_iff.mp c1.1
  have c3:=Bool.and_eq_true_iff.mp c2.1
  exact aT.MZ O (qK c3.1) c3.2 c1.2 (Nat.lt_of_succ_le (Nat.le_of_ble_eq_true c2.2)) ((hf _ _ _ c.2).mono λ a af q=>br q (λ _ q=>cG.mono q λ f as ai q=>tR hf _ _ _ c1.2 q) λ q=>(AB O q).mono λ f as ai q=>(tR hf _ _ _ c1.2 q).mono λ as af q=>AD O q)
 | _=>exact h.elim
theorem Bt (O:W.Ok):∀ (n:Nat) (env:Env) (e:Expr) (η:En) (σ:List AO) (Q:AV→List AO→Prop),xE W d T n e η σ Q→aT W d env e η σ Q:=by
 intro n
 induction n with
 | zero=>intro env e η σ Q h; exact h.elim
 | succ n ih =>
  intro env e η σ Q h
  have ih':∀ e σ Q,xE W d T n e η σ Q→aT W d env e η σ Q:=λ e σ Q=>ih env e η σ Q
  cases e with
  | Constant c k p=>cases c with
   | int=>exact aT.int h
   | bool=>exact aT.bool h
   | none=>exact aT.none h
   | _=>exact h.elim
  | Name x p=>exact aC h (λ v e q=>aT.name O (bL e) q) (λ _ h=>h.elim)
  | BinOp l op r p=>exact aT.binop ((ih' _ _ _ h).mono λ a af q=>(ih' _ _ _ q).mono λ b ai q=>br q (λ _ q=>xG.mono q λ v s q=>sJ (k:=λ v=>Q v s) q) GQ)
  | UnaryOp op x p=>exact aT.unop ((ih' _ _ _ h).mono λ a af q=>KD O q)
  | Compare l ops rs p=>cases ops with
   | nil=>exact h.elim
   | cons op ops=>cases ops with
    | nil=>cases rs with
     | nil=>exact h.elim
     | cons r rs=>cases rs with
      | nil =>
       have c:=aB h
       exact aT.cmp ((ih' _ _ _ c.2).mono λ a af q=>(ih' _ _ _ q).mono λ b ai q=>br q (λ _ q=>sV q) (wN O)) (by simpa using c.1)
      | cons=>exact h.elim
    | cons=>exact h.elim
  | BoolOp op es p=>cases op with
   | And=>exact GU O ih' _ _ _ h
   | Or=>exact KG O ih' _ _ _ h
  | IfExp t b o p =>
   refine aT.MU ((wj O ih' _ _ _ _ h).mono λ c af q=>?_)
   obtain ⟨bc,e,q⟩:=q
   have q:=m6 q
   cases c with
   | true=>exact ih' _ _ _ (q.1 e)
   | false=>exact ih' _ _ _ (q.2 e)
  | Tuple es k p =>
   have c:=aB h
   exact aT.tuple ((tR ih' _ _ _ (Bool.and_eq_true_iff.mp c.1).1 c.2).mono λ as af q=>⟨Nat.le_of_ble_eq_true (aB q).1,(aB q).2⟩)
  | List es p =>
   have c:=aB h
   exact aT.list ((tR ih' _ _ _ c.1 c.2).mono λ as af q=>⟨Nat.le_of_ble_eq_true (aB q).1,(aB q).2⟩)
  | Attribute o name p=>exact aT.NV (qK (aB h).1) ((ih' _ _ _ (aB h).2).mono λ a af q=>ET O q)
  | Subscript v i p=>exact br h (λ _ q=>G3 O q) λ q=>aT.sub (AA (aB q).1) ((ih' _ _ _ (aB q).2).mono λ a af q=>(ih' _ _ _ q).mono λ b ai q=>br q (λ _ q=>mZ.mono q λ v s q=>sJ (k:=λ v=>Q v s) q) GS)
  | Call g args ks p=>cases ks with
   | nil =>
    exact KJ O ih' h
   | cons=>exact h.elim
  | ListComp elt gens scope p =>
   obtain ⟨x,px,it,ifs,rfl,h1,h2,h3,h4⟩:=Cw (env:=env) O ih (λ env e η σ Q h=>wj O (λ e σ Q=>ih env e η σ Q) _ _ _ _ h) h
   exact aT.EA O h1 h2 h4 h3
  | Dict ks vs p=>cases ks with
   | nil=>cases vs with
    | nil=>exact aT.M9 h
    | cons=>exact h.elim
   | cons=>exact h.elim
  | _=>exact h.elim
theorem c8 (O:W.Ok) (n:Nat) (e:Expr) (η:En) (σ:List AO) (Q:AV→List AO→Prop) (h:xE W d T n e η σ Q):aT W d env e η σ Q:=Bt O n env e η σ Q h
theorem KL (O:W.Ok) {n:Nat} {elt:Expr} {gens:List Comprehension} {scope:Scope} {p:Pos} {Q:AV→List AO→Prop} (h:xE W d T (n+1) (.ListComp elt gens scope p) η σ Q) :
 ∃ x px it ifs,gens=[⟨.Name x px,it,ifs,0⟩]∧cD scope η=true∧scope.names.lookup x=some .local∧(∀ x,foldedSetIterable it env x=pure x)∧qG W d env it η σ (CompI W d env η elt x ifs scope λ j σ'=>Q (.lst j) σ') :=
 Cw (env:=env) (f:=λ e η σ Q=>xE W d T n e η σ Q) (ft:=λ η e σ Q=>xT W d T η (λ e σ Q=>xE W d T n e η σ Q) n e σ Q) O (λ env e η σ Q h=>Bt O n env e η σ Q h) (λ env e η σ Q h=>wj O (λ e σ Q=>Bt O n env e η σ Q) _ _ _ _ h) h
end
noncomputable def Cu (R:Type):Kd→Type
 | .any=>AV→R
 | .yes=>AV→R
 | .no=>AV→R
 | .EG=>AV→R
 | .int=>Int→R
 | .bool=>Bool→R
 | .lst=>Nat→R
 | .inst _=>Nat→R
 | .tC=>Int→Int→R
 | .qJ=>Int→Int→Int→R
 | .EF=>AV→Int→R
 | .zU _=>Nat→Nat→R
noncomputable def vI (R:Type):LA→Type
 | []=>R
 | p :: l=>match p.2 with
  | none=>vI R l
  | some k=>Cu (vI R l) k
def EZ {R:Type} (k:Kd) (I:Cu R k) (P:AV→R→Prop):Prop:=match k,I with
 | .any,I=>∀ a:AV,P a (I a)
 | .yes,I=>∀ a:AV,P a (I a)
 | .no,I=>∀ a:AV,P a (I a)
 | .EG,I=>∀ a:AV,P a (I a)
 | .int,I=>∀ a:Int,P (.int a) (I a)
 | .bool,I=>∀ a:Bool,P (.bool a) (I a)
 | .lst,I=>∀ a:Nat,P (.lst a) (I a)
 | .inst C,I=>∀ a:Nat,P (.inst C a) (I a)
 | .tC,I=>∀ a b:Int,P (.tup [.int a,.int b]) (I a b)
 | .qJ,I=>∀ a b c:Int,P (.tup [.int a,.int b,.int c]) (I a b c)
 | .EF,I=>∀ (a:AV) (b:Int),P (.tup [a,.int b]) (I a b)
 | .zU C,I=>∀ a b:Nat,P (.tup [.inst C a,.lst b]) (I a b)
def RS {R:Type} (k:Kd) (v:AV) (I:Cu R k) (P:R→Prop):Prop:=match k,I with
 | .any,I=>P (I v)
 | .yes,I=>P (I v)
 | .no,I=>P (I v)
 | .EG,I=>P (I v)
 | .int,I=>dI v λ a=>P (I a)
 | .bool,I=>dB v λ a=>P (I a)
 | .lst,I=>dL v λ a=>P (I a)
 | .inst C,I=>dO C v λ a=>P (I a)
 | .tC,I=>d2 v λ a b=>P (I a b)
 | .qJ,I=>d3 v λ a b c=>P (I a b c)
 | .EF,I=>dP v λ a b=>P (I a b)
 | .zU C,I=>dQ C v λ a b=>P (I a b)
noncomputable def xU:En→Str→Option AV→En
 | [],_,_=>[]
 | e :: r,x,o=>bif e.1==x then (e.1,e.2.1,o) :: r else e :: xU r x o
noncomputable def xV {R:Type}:(l:LA)→En→vI R l→(En→R→Prop)→Prop
 | [],η,I,P=>P η I
 | (x,none) :: l,η,I,P=>xV l (xU η x none) I P
 | (x,some k) :: l,η,I,P=>EZ k I λ v r=>xV l (xU η x (some v)) r P
noncomputable def DR {R:Type}:(l:LA)→En→vI R l→(R→Prop)→Prop
 | [],η,I,P=>P I
 | (x,none) :: l,η,I,P=>DR l η I P
 | (x,some k) :: l,η,I,P=>bG (bW η x) (λ v=>RS k v I λ r=>DR l η r P) False
theorem KO {R:Type} {k:Kd} {v:AV} {I:Cu R k} {P:R→Prop} (h:RS k v I P):∃ r,(∀ P',EZ k I P'→P' v r)∧P r:=by
 cases k with
 | any=>exact ⟨_,λ P' h=>h v,h⟩
 | yes=>exact ⟨_,λ P' h=>h v,h⟩
 | no=>exact ⟨_,λ P' h=>h v,h⟩
 | EG=>exact ⟨_,λ P' h=>h v,h⟩
 | int=>cases v with
  | int a=>exact ⟨_,λ P' h=>h a,h⟩
  | _=>exact h.elim
 | bool=>cases v with
  | bool a=>exact ⟨_,λ P' h=>h a,h⟩
  | _=>exact h.elim
 | lst=>cases v with
  | lst a=>exact ⟨_,λ P' h=>h a,h⟩
  | _=>exact h.elim
 | inst C=>cases v with
  | inst D a=>obtain ⟨rfl,h⟩:=h; exact ⟨_,λ P' h=>h a,h⟩
  | _=>exact h.elim
 | tC =>
  obtain ⟨l,rfl,h⟩:=yS h
  obtain ⟨x,l,rfl,h⟩:=qS h
  obtain ⟨y,l,rfl,h⟩:=qS h
  obtain ⟨rfl,h⟩:=yR h
  exact ⟨_,λ P' h=>h _ _,h⟩
 | qJ =>
  obtain ⟨l,rfl,h⟩:=yS h
  obtain ⟨x,l,rfl,h⟩:=qS h
  obtain ⟨y,l,rfl,h⟩:=qS h
  obtain ⟨z,l,rfl,h⟩:=qS h
  obtain ⟨rfl,h⟩:=yR h
  exact ⟨_,λ P' h=>h _ _ _,h⟩
 | EF =>
  obtain ⟨l,rfl,h⟩:=yS h
  obtain ⟨x,l,rfl,h⟩:=IQ h
  obtain ⟨y,l,rfl,h⟩:=qS h
  obtain ⟨rfl,h⟩:=yR h
  exact ⟨_,λ P' h=>h _ _,h⟩
 | zU=>obtain ⟨i,l,rfl,h⟩:=h; exact ⟨_,λ P' h=>h _ _,h⟩
theorem Df {R:Type} {k:Kd} {I:Cu R k} {P P':AV→R→Prop} (h:∀ v r,P v r→P' v r) (q:EZ k I P):EZ k I P':=by
 cases k with
 | any=>exact λ a=>h _ _ (q a)
 | yes=>exact λ a=>h _ _ (q a)
 | no=>exact λ a=>h _ _ (q a)
 | EG=>exact λ a=>h _ _ (q a)
 | int=>exact λ a=>h _ _ (q a)
 | bool=>exact λ a=>h _ _ (q a)
 | lst=>exact λ a=>h _ _ (q a)
 | inst=>exact λ a=>h _ _ (q a)
 | tC=>exact λ a b=>h _ _ (q a b)
 | qJ=>exact λ a b c=>h _ _ (q a b c)
 | EF=>exact λ a b=>h _ _ (q a b)
 | zU=>exact λ a b=>h _ _ (q a b)
theorem E0 {R:Type} {k:Kd} {I:Cu R k} {P:AV→R→Prop} (h:∀ v r,P v r):EZ k I P:=by
 cases k with
 | any=>exact λ a=>h _ _
 | yes=>exact λ a=>h _ _
 | no=>exact λ a=>h _ _
 | EG=>exact λ a=>h _ _
 | int=>exact λ a=>h _ _
 | bool=>exact λ a=>h _ _
 | lst=>exact λ a=>h _ _
 | inst=>exact λ a=>h _ _
 | tC=>exact λ a b=>h _ _
 | qJ=>exact λ a b c=>h _ _
 | EF=>exact λ a b=>h _ _
 | zU=>exact λ a b=>h _ _
inductive Ag (al:List Str):En→En→Prop
 | nil:Ag al [] []
 | cons {x:Str} {k:NK} {v v':Option AV} {η η':En}:(v=v'∨x∈al)→Ag al η η'→Ag al ((x,k,v) :: η) ((x,k,v') :: η')
theorem Ag.refl {al:List Str}:∀ η:En,Ag al η η
 | []=>.nil
 | (_,_,_) :: η=>.cons (.inl rfl) (Ag.refl η)
theorem Ag.trans {al:List Str} {η₁ η₂:En} (h:Ag al η₁ η₂):∀ {η₃:En},Ag al η₂ η₃→Ag al η₁ η₃:=by
 induction h with
 | nil=>intro _ h; exact h
 | cons e _ ih =>
  intro η₃ h
  cases h with | cons e' h =>
  refine .cons ?_ (ih h)
  rcases e with e | e
  · rcases e' with e' | e'
    · exact .inl (e.trans e')
    · exact .inr e'
  · exact .inr e
theorem Ag.mono {al al':List Str} (hs:∀ x∈al,x∈al') {η₁ η₂:En} (h:Ag al η₁ η₂):Ag al' η₁ η₂:=by
 induction h with
 | nil=>exact .nil
 | cons e _ ih=>exact .cons (e.imp id (hs _)) ih
theorem Up.ag {x:Str} {v:AV} {η η':En} (h:Up η x v η') {al:List Str} (hx:x∈al):Ag al η η':=by
 induction h with
 | loc=>exact .cons (.inr hx) (Ag.refl _)
 | xy=>exact .cons (.inr hx) (Ag.refl _)
 | @tl x v y η η' _ ih=>obtain ⟨_,_,_⟩:=y; exact .cons (.inl rfl) (ih hx)
theorem zv {x:Str} {o:Option AV} {al:List Str} (hx:x∈al):∀ η:En,Ag al η (xU η x o)
 | []=>.nil
 | (y,k,v) :: r=>by
  show Ag al ((y,k,v) :: r) (bif y==x then (y,k,o) :: r else (y,k,v) :: xU r x o)
  cases e:y==x with
  | true=>have:=beq_iff_eq.mp e; subst this; exact .cons (.inr hx) (Ag.refl r)
  | false=>exact .cons (.inl rfl) (zv hx r)
theorem zw {R:Type}:∀ (l:LA) (η:En) (I:vI R l) (al:List Str),(∀ p∈l,p.1∈al)→xV l η I λ η₁ _=>Ag al η η₁
 | [],η,I,al,_=>Ag.refl η
 | (x,none) :: l,η,I,al,h=>sX (zw l _ I al λ p hp=>h p (.tail _ hp)) λ η₁ r z=>(zv (h _ (.head _)) η).trans z
 | (x,some k) :: l,η,I,al,h=>E0 λ v r=>sX (zw l _ r al λ p hp=>h p (.tail _ hp)) λ η₁ r z=>(zv (h _ (.head _)) η).trans z
where
 sX {R:Type}:∀ {l:LA} {η:En} {I:vI R l} {P P':En→R→Prop},xV l η I P→(∀ η r,P η r→P' η r)→xV l η I P'
  | [],_,_,_,_,q,h=>h _ _ q
  | (x,none) :: l,_,_,_,_,q,h=>sX (l:=l) q h
  | (x,some k) :: l,_,_,_,_,q,h=>Df (λ v r q=>sX (l:=l) q h) q
inductive WL (al:List Str):En→En→Prop
 | nil:WL al [] []
 | cons {x:Str} {k:NK} {v v':Option AV} {η η':En}:(v=none∨v=v'∨x∈al)→WL al η η'→WL al ((x,k,v) :: η) ((x,k,v') :: η')
theorem Ag.wl {al:List Str} {η₁ η₂:En} (h:Ag al η₁ η₂):WL al η₁ η₂:=by
 induction h with
 | nil=>exact .nil
 | cons e _ ih=>exact .cons (.inr e) ih
theorem WL.wk {η₁ η₂:En} (h:WL [] η₁ η₂):Wk η₁ η₂:=by
 induction h with
 | nil=>exact .nil
 | cons e _ ih =>
  rcases e with rfl | rfl | e
  · exact .drop ih
  · exact .keep ih
  · cases e
theorem WL.strip {x:Str} {al:List Str} {η₁ η₂:En} (h:WL (x :: al) η₁ η₂):x∉η₁.map (·.1)→WL al η₁ η₂:=by
 induction h with
 | nil=>intro _; exact .nil
 | cons e _ ih =>
  intro hx
  rw [List.map_cons,List.mem_cons,not_or] at hx
  refine .cons ?_ (ih hx.2)
  rcases e with e | e | e
  · exact .inl e
  · exact .inr (.inl e)
  · rcases List.mem_cons.mp e with e | e
    · exact absurd e.symm hx.1
    · exact .inr (.inr e)
theorem WL.upd {x:Str} {o:Option AV} {al:List Str} {η₁ η₂:En} (h:WL (x :: al) η₁ η₂):(η₁.map (·.1)).Nodup→(o=none∨o=bW η₂ x)→WL al (xU η₁ x o) η₂:=by
 induction h with
 | nil=>intro _ _; exact .nil
 | @cons y k v v' η η' e t ih =>
  intro nd ho
  rw [List.map_cons,List.nodup_cons] at nd
  show WL al (bif y==x then (y,k,o) :: η else (y,k,v) :: xU η x o) _
  unfold bW at ho
  cases hy:y==x with
  | true =>
   have:=beq_iff_eq.mp hy; subst this
   simp only [beq_self_eq_true,if_true] at ho
   exact .cons (ho.imp id .inl) (t.strip nd.1)
  | false =>
   rw [if_neg (by rw [hy]; exact Bool.false_ne_true)] at ho
   refine .cons ?_ (ih nd.2 ho)
   rcases e with e | e | e
   · exact .inl e
   · exact .inr (.inl e)
   · rcases List.mem_cons.mp e with e | e
     · rw [e,beq_self_eq_true] at hy; cases hy
     · exact .inr (.inr e)
theorem xW (η:En) (x:Str) (o:Option AV):(xU η x o).map (·.1)=η.map (·.1):=by
 induction η with
 | nil=>rfl
 | cons e r ih =>
  show List.map (·.1) (bif e.1==x then (e.1,e.2.1,o) :: r else e :: xU r x o)=_
  cases e.1==x with
  | true=>rfl
  | false=>show _ :: _=_; rw [ih]; rfl
theorem E1 {R:Type} {η':En}:∀ (l:LA) (η:En) (I:vI R l) (P:R→Prop),(η.map (·.1)).Nodup→WL (l.map (·.1)) η η'→DR l η' I P→∃ η₁ r,(∀ P',xV l η I P'→P' η₁ r)∧P r∧Wk η₁ η'
 | [],η,I,P,nd,w,h=>⟨η,I,λ P' h=>h,h,w.wk⟩
 | (x,none) :: l,η,I,P,nd,w,h=>E1 l (xU η x none) I P (by rw [xW]; exact nd) (w.upd nd (.inl rfl)) h
 | (x,some k) :: l,η,I,P,nd,w,h=>by
  refine aC (α:=AV) h (λ v e h=>?_) λ _ h=>h.elim
  obtain ⟨r,h1,h2⟩:=KO h
  obtain ⟨η₁,r',h3,h4,h5⟩:=E1 l (xU η x (some v)) r P (by rw [xW]; exact nd) (w.upd nd (.inr e.symm)) h2
  exact ⟨η₁,r',λ P' h=>h3 _ (h1 _ h),h4,h5⟩
noncomputable def oM:List Expr→Option (List Str)
 | []=>some []
 | e :: r=>match e with
  | .Name x _=>(match oM r with
   | some ns=>some (x :: ns)
   | none=>none)
  | _=>none
noncomputable def NZ (e:Expr):List Str:=(xS e).elim (((NN e).bind oM).getD []) λ x=>[x]
noncomputable def xY (t:Expr) (l:LA):LA:=(NZ t).map (λ x=>(x,none))++l
noncomputable def G4 (l:LA) (al:List Str):Bool:=l.all λ p=>al.contains p.1
noncomputable def sY (e:Expr):Bool:=tg e 23||(tg e 20||(tg e 16||(tg e 21||tg e 24)))
def G5 (names:List Str) (η:En) (v:AV) (k:En→Prop):Prop:=bG (KA v) (λ vs=>oY (Nat.beq names.length vs.length) (bG (m5 names vs η) k False)) False
def IY (names:List Str) (η:En) (v:AV) (k:En→Prop):Prop:=bG (KA v) (λ vs=>oY (Nat.beq vs.length names.length) (bG (m5 names.reverse vs.reverse η) k False)) False
def Bu (al:List Str) (η:En) (x:Str) (v:AV) (k:En→Prop):Prop:=oY (al.contains x) (bG (sG η x v) k False)
def IZ (al:List Str) (t:Expr) (v:AV) (η:En) (k:En→Prop):Prop:=match t with
 | .Name x _=>Bu al η x v k
 | .Tuple es _ _=>bG (oM es) (λ ns=>oY (ns.all al.contains) (G5 ns η v k)) False
 | _=>False
def goN (k:En→List AO→Prop) (Q:Fl→En→List AO→Prop):Fl→En→List AO→Prop:=λ fl η σ=>match fl with
 | .next=>k η σ
 | .brk=>Q .brk η σ
 | .cont=>Q .cont η σ
 | .ret v=>Q (.ret v) η σ
def E2 (nx bk:En→List AO→Prop) (Q:Fl→En→List AO→Prop):Fl→En→List AO→Prop:=λ fl η σ=>match fl with
 | .next=>nx η σ
 | .cont=>nx η σ
 | .brk=>bk η σ
 | .ret v=>Q (.ret v) η σ
section
variable (W:Wl) (d:Nat) (env:Env) (T:Tab)
noncomputable def E3 (t:Sem Bool):Bool:=match t with
 | .pure true=>true
 | _=>false
noncomputable def N1 (e:Expr):Bool:=tg e 8
def G6 (n:Nat) (al:List Str) (t:Expr) (e:Expr) (pos:Pos) (η:En) (σ:List AO) (k:En→List AO→Prop):Prop:=match t with
 | .Name x p=>oY (wh (swapsWith e (some (.Name x p)) pos.line env)||(N1 e&&E3 (swapsWith e (some (.Name x p)) pos.line env))) (xE W d T n e η σ λ v af=>Bu al η x v λ η'=>k η' af)
 | .Tuple elts j tpos=>oY (wh (swapsWithSole [.Tuple elts j tpos] e pos.line env)) (bG (Cp (swappedStores [.Tuple elts j tpos] e env)) (λ r=>match r with
  | none=>bG (oM elts) (λ names=>oY (names.all al.contains) (xE W d T n e η σ λ v af=>dK ((T.spot e.pos.line e.pos.col e.pos.endCol).getD .any) v λ v=>G5 names η v λ η'=>k η' af)) False
  | some names=>oY (names.all al.contains) (xE W d T n e η σ λ v af=>IY names η v λ η'=>k η' af)) False)
 | .Attribute o name p=>oY (wh (swapsWith e (some (.Attribute o name p)) pos.line env)) (xE W d T n e η σ λ v af=>xE W d T n o η af λ a ai=>N2 a name v ai λ az=>k η az)
 | .Subscript o i p=>oY (wh (swapsWith e (some (.Subscript o i p)) pos.line env)) (xE W d T n e η σ λ v af=>xE W d T n o η af λ a ai=>xE W d T n i η ai λ b az=>I0 a b v az λ aY=>k η aY)
 | _=>False
where
 N2 (a:AV) (name:Str) (v:AV) (σ:List AO) (k:List AO→Prop):Prop:=match a with
  | .inst C m=>oY (setOk W.K C name) (∃ fs,σ[m]? = some (.inst fs)∧fs.length<1000∧k (σ.set m (.inst (aI name v fs))))
  | a=>yo W d a name v σ k
 I0 (a b v:AV) (σ:List AO) (k:List AO→Prop):Prop:=match a with
  | .lst m=>dI b λ i=>∃ xs,σ[m]? = some (.lst xs)∧0≤i∧i<xs.length∧i<1000000∧k (σ.set m (.lst (xs.set i.toNat v)))
  | .dct m=>dI b λ i=>∃ es,σ[m]? = some (.dct es)∧es.length≤1000000∧k (σ.set m (.dct (putD i v es)))
  | a=>qm W d a b v σ k
end
section
variable (f:Wl→List Str→List Stmt→En→List AO→(Fl→En→List AO→Prop)→Prop) (W:Wl) (al:List Str) (t:Expr) (b rest:List Stmt) (Q:Fl→En→List AO→Prop)
def N3 {R:Type} (l:LA) (I:vI R l) (nx:R→List AO→Prop) (v:AV) (η₁:En) (ai:List AO):Prop:=IZ (l.map (·.1)) t v η₁ λ η₂=>f W (l.map (·.1)) b η₂ ai (E2 (λ η' σ'=>DR l η' I λ R'=>nx R' σ') (λ η' σ'=>f W al rest η' σ' Q) Q)
def I4 (l:LA) (K:Kd) (η:En) (m:Nat) (ys:List (Ty K)) (I:vI (Nat→List AO→Prop) l):Prop:=xV l η I λ η₁ R=>∀ i ai,R i ai→(∀ j y,i=j+1→ys[j]? = some y→ai[m]? = some (.lst (ys.map (Dd K)))∧N3 f W al t b rest Q l I (λ R' σ'=>R' j σ') (Dd K y) η₁ ai)∧(i=0→f W al rest η₁ ai Q)
def G7 (l:LA) (η:En) (b' c:Int) (I:vI (Int→List AO→Prop) l):Prop:=xV l η I λ η₁ R=>∀ i ai,R i ai→(i<b'→N3 f W al t b rest Q l I (λ R' σ'=>R' (i+c) σ') (.int i) η₁ ai)∧(b'≤i→f W al rest η₁ ai Q)
def G8 (l:LA) (K:Kd) (η:En) (m:Nat) (ys:List (Ty K)) (I:vI (Nat→List AO→Prop) l):Prop:=xV l η I λ η₁ R=>∀ i ai,R i ai→ai[m]? = some (.lst (ys.map (Dd K)))∧(∀ y,ys[i]? = some y→N3 f W al t b rest Q l I (λ R' σ'=>R' (i+1) σ') (Dd K y) η₁ ai)∧(i=ys.length→f W al rest η₁ ai Q)
def I5 (l:LA) (K:Kd) (η:En) (a:AV) (af:List AO):Prop:=match a with
 | .lst m=>∃ ys:List (Ty K),af[m]? = some (.lst (ys.map (Dd K)))∧ys.length≤1000000∧∃ I:vI (Nat→List AO→Prop) l,DR l η I (λ R=>R ys.length af)∧I4 f W al t b rest Q l K η m ys I
 | _=>False
def Cx (l:LA) (K:Kd) (η:En) (a:AV) (af:List AO):Prop:=match a with
 | .tw a b' c=>oY (decide (0<c)) (Builtin.Range.small a b' c=true∧∃ I:vI (Int→List AO→Prop) l,DR l η I (λ R=>R a af)∧G7 f W al t b rest Q l η b' c I)
 | .lst m=>∃ ys:List (Ty K),af[m]? = some (.lst (ys.map (Dd K)))∧∃ I:vI (Nat→List AO→Prop) l,DR l η I (λ R=>R 0 af)∧G8 f W al t b rest Q l K η m ys I
 | _=>False
def N4 (ts:En→List AO→(BC→List AO→Prop)→Prop) (l:LA) (η:En) (I:vI (Nat→List AO→Prop) l):Prop:=xV l η I λ η₁ R=>∀ m af,R m af →
 ts η₁ af λ c ai=>A4 c (f W (l.map (·.1)) b η₁ ai (E2 (λ η' σ'=>DR l η' I λ R'=>∃ m',m'<m∧R' m' σ') (λ η' σ'=>f W al rest η' σ' Q) Q)) (f W al rest η₁ ai Q)
end
section
variable (d:Nat) (env:Env) (T:Tab)
noncomputable def xX:Nat→Wl→List Str→List Stmt→En→List AO→(Fl→En→List AO→Prop)→Prop
 | 0,W,al,ss,η,σ,Q=>False
 | n+1,W,al,ss,η,σ,Q=>match ss with
  | []=>Q .next η σ
  | st :: rest=>match st with
   | .Assign ts e pos=>(match ts with
    | []=>False
    | t :: more=>(match more with
     | []=>G6 W d env T n al t e pos η σ λ η' σ'=>xX n W al rest η' σ' Q
     | _ :: _=>False))
   | .AugAssign t op e pos=>(match t with
    | .Name x p=>bG (bW η x) (λ FW=>xE W d T n e η σ λ v af=>NG W d op FW v af λ r ai=>Bu al η x r λ η'=>xX n W al rest η' ai Q) False
    | _=>False)
   | .Return e pos=>(match e with
    | some e=>xE W d T n e η σ λ a af=>Q (.ret a) η af
    | none=>Q (.ret .none) η σ)
   | .If t b o pos=>xT W d T η (λ e σ Q=>xE W d T n e η σ Q) n t σ λ c af=>A4 c (xX n W al b η af (goN (λ η' σ'=>xX n W al rest η' σ' Q) Q)) (xX n W al o η af (goN (λ η' σ'=>xX n W al rest η' σ' Q) Q))
   | .Assert t m pos=>xT W d T η (λ e σ Q=>xE W d T n e η σ Q) n t σ λ c σ'=>A4 c (xX n W al rest η σ' Q) False
   | .Expr e pos=>oY (!interactive env&&wh (swapsWith e none pos.line env)) (xE W d T n e η σ λ _ σ'=>xX n W al rest η σ' Q)
   | .Pass pos=>xX n W al rest η σ Q
   | .Break pos=>Q .brk η σ
   | .While t b o pos=>bG (T.loop pos.line) (λ la=>oY (o.isEmpty&&G4 la.1 al) (∃ I:vI (Nat→List AO→Prop) la.1,DR la.1 η I (λ R=>∃ m,R m σ) ∧
    N4 (λ W al ss η σ Q=>xX n W al ss η σ Q) W al b rest Q (λ η₁ af Q=>xT W d T η₁ (λ e σ Q=>xE W d T n e η₁ σ Q) n t af Q) la.1 η I)) False
   | .For t it b o pos=>bG (T.loop pos.line) (λ la=>oY (o.isEmpty&&G4 (xY t la.1) al&&sY it) (bG (IW η it)
    (λ e=>xE W d T n e η σ λ a af=>I5 (λ W al ss η σ Q=>xX n W al ss η σ Q) W al t b rest Q (xY t la.1) la.2 η a af)
    (xE W d T n it η σ λ a af=>Cx (λ W al ss η σ Q=>xX n W al ss η σ Q) W al t b rest Q (xY t la.1) la.2 η a af))) False
   | st=>False
end
section
variable {W:Wl} {d:Nat} {env:Env} {T:Tab} {η:En} {σ:List AO}
theorem iP.mono {st:Stmt} {Q Q':Fl→En→List AO→Prop} (h:iP W d env st η σ Q) (q:∀ fl η' σ',Q fl η' σ'→Q' fl η' σ'):iP W d env st η σ Q':=λ A s ρ hr R F =>
 pA (h A s ρ hr R F) λ _ _ p=>p.mono λ _ _ _ ⟨fl,η',a,b,c⟩=>⟨fl,η',a,b,q _ _ _ c⟩
theorem cF.mono {st:List Stmt} {Q Q':Fl→En→List AO→Prop} (h:cF W d env st η σ Q) (q:∀ fl η' σ',Q fl η' σ'→Q' fl η' σ'):cF W d env st η σ Q':=λ A s ρ hr R F =>
 pA (h A s ρ hr R F) λ _ _ p=>p.mono λ _ _ _ ⟨fl,η',a,b,c⟩=>⟨fl,η',a,b,q _ _ _ c⟩
theorem iP.nd {st:Stmt} {Q:Fl→En→List AO→Prop} (h:(η.map (·.1)).Nodup→iP W d env st η σ Q):iP W d env st η σ Q:=λ A s ρ hr R F=>h F.ok.nd A s ρ hr R F
theorem Ab.mono {t:Expr} {v:AV} {Q Q':En→List AO→Prop} (h:Ab W d env t v η σ Q) (q:∀ η' σ',Q η' σ'→Q' η' σ'):Ab W d env t v η σ Q':=λ A s ρ w hr R F hv =>
 pA (h A s ρ w hr R F hv) λ _ _ p=>p.mono λ _ _ _ ⟨η',a,b⟩=>⟨η',a,q _ _ b⟩
theorem yo.mono {a v:AV} {name:Str} {Q Q':List AO→Prop} (h:yo W d a name v σ Q) (q:∀ σ',Q σ'→Q' σ'):yo W d a name v σ Q':=λ A s ρ ov w hr R hv hw =>
 pA (h A s ρ ov w hr R hv hw) λ _ _ p=>p.mono λ _ _ _ z=>q _ z
theorem qm.mono {a b v:AV} {Q Q':List AO→Prop} (h:qm W d a b v σ Q) (q:∀ σ',Q σ'→Q' σ'):qm W d a b v σ Q':=λ A s ρ x y z hr R hv hw hz =>
 pA (h A s ρ x y z hr R hv hw hz) λ _ _ p=>p.mono λ _ _ _ z=>q _ z
theorem sZ {al:List Str}:∀ (ns:List Str) (vs:List AV) (η η':En),m5 ns vs η=some η'→(∀ x∈ns,x∈al)→Ag al η η'
 | [],[],η,η',h,_=>by refine sE h ?_; exact Ag.refl _
 | x :: ns,v :: vs,η,η',h,ha=>by
  obtain ⟨η₁,e,h⟩:=cB (show ((sG η x v).bind λ η'=>m5 ns vs η')=some η' from h)
  exact ((oH e).ag (ha _ (.head _))).trans (sZ ns vs η₁ η' h λ y hy=>ha y (.tail _ hy))
 | [],_ :: _,_,_,h,_=>by exact aP h
 | _ :: _,[],_,_,h,_=>by exact aP h
theorem E4 (elts:List Expr):∀ (names:List Str),oM elts=some names→∀ (vs:List AV) (η η':En) (σ:List AO) (Q:En→List AO→Prop),m5 names vs η=some η'→Q η' σ→vv W d env elts vs η σ Q∧elts.all aK=true∧elts.length=names.length:=by
 induction elts with
 | nil =>
  intro names h vs η η' σ Q hs q
  cases h
  cases vs with
  | nil=>cases hs; exact ⟨vv.nil q,rfl,rfl⟩
  | cons=>exact aP hs
 | cons e r ih =>
  intro names h vs η η' σ Q hs q
  cases e with
  | Name x p =>
   have h:(match oM r with
    | some ns=>some (x :: ns)
    | none=>none)=some names:=h
   cases e1:oM r with
   | none=>rw [e1] at h; exact aP h
   | some ns =>
    rw [e1] at h; cases h
    cases vs with
    | nil=>cases hs
    | cons v vs =>
     obtain ⟨η₁,e2,hs⟩:=cB (show ((sG η x v).bind λ η'=>m5 ns vs η')=some η' from hs)
     have z:=ih ns e1 vs η₁ η' σ Q hs q
     exact ⟨vv.cons (Ab.name (oH e2) z.1) rfl,by rw [List.all_cons,z.2.1]; rfl,by rw [List.length_cons,List.length_cons,z.2.2]⟩
  | _=>exact aP h
theorem mem_of {al:List Str} {x:Str} (h:al.contains x=true):x∈al:=by simpa using h
theorem tu {al:List Str} {x:Str} {v:AV} {k:En→Prop} (h:Bu al η x v k):∃ η',Up η x v η'∧Ag al η η'∧k η':=by
 have c:=aB h
 exact aC c.2 (λ η' e q=>⟨η',oH e,(oH e).ag (mem_of c.1),q⟩) λ _ h=>h.elim
inductive N5 (names:List Str) (η:En) (v:AV) (k:En→Prop):Prop
 | mk (vs:List AV) (η':En) (e:v=.tup vs) (l:names.length=vs.length) (s:m5 names vs η=some η') (q:k η'):N5 names η v k
theorem Cy {names:List Str} {v:AV} {k:En→Prop} (h:G5 names η v k):N5 names η v k :=
 aC h (λ vs e h=>aC (aB h).2 (λ η' e3 q=>⟨vs,η',Ct e,Nat.eq_of_beq_eq_true (aB h).1,e3,q⟩) λ _ h=>h.elim) λ _ h=>h.elim
inductive I6 (names:List Str) (η:En) (v:AV) (k:En→Prop):Prop
 | mk (vs:List AV) (η':En) (e:v=.tup vs) (l:vs.length=names.length) (s:m5 names.reverse vs.reverse η=some η') (q:k η'):I6 names η v k
theorem E5 {names:List Str} {v:AV} {k:En→Prop} (h:IY names η v k):I6 names η v k :=
 aC h (λ vs e h=>aC (aB h).2 (λ η' e3 q=>⟨vs,η',Ct e,Nat.eq_of_beq_eq_true (aB h).1,e3,q⟩) λ _ h=>h.elim) λ _ h=>h.elim
theorem E6 {al:List Str} {t:Expr} {v:AV} {k:En→Prop} (h:IZ al t v η k):Ab W d env t v η σ λ η' σ'=>σ'=σ∧Ag al η η'∧k η':=by
 cases t with
 | Name x p=>obtain ⟨η',u,a,q⟩:=tu h; exact Ab.name u ⟨rfl,a,q⟩
 | Tuple es j p =>
  refine aC h (λ ns e h=>?_) λ _ h=>h.elim
  obtain ⟨vs,η',rfl,l,e3,q⟩:=Cy (aB h).2
  have z:=E4 (W:=W) (d:=d) (env:=env) es ns e vs η η' σ (λ η' σ'=>σ'=σ∧Ag al η η'∧k η') e3 ⟨rfl,sZ _ _ _ _ e3 (by simpa using (aB h).1),q⟩
  exact Ab.tuple z.1 (by rw [z.2.2,l]) z.2.1
 | _=>exact h.elim
theorem Dg {t:Sem Bool} (h:E3 t=true):t=pure true:=by
 cases t with
 | pure b=>cases b with
  | true=>rfl
  | false=>exact cV h
 | _=>exact cV h
theorem qG.mono {e:Expr} {Q Q':iL→List AO→Prop} (h:qG W d env e η σ Q) (q:∀ k σ',Q k σ'→Q' k σ'):qG W d env e η σ Q':=λ A s ρ hr R F =>
 wpAny_mono (h A s ρ hr R F) (λ x q6 h₁=>wpAny_mono h₁ (λ it c7 aF=>aF.mono λ _ _ _ ⟨I,k,a,b,c,z⟩=>⟨I,k,a,b,c,q _ _ z⟩) λ _ _ x=>x) λ _ _ x=>x
theorem CompI.mono {elt:Expr} {x:Str} {ifs:List Expr} {scope:Scope} {Fin Fin':Nat→List AO→Prop} {k:iL} (h:CompI W d env η elt x ifs scope Fin k σ) (q:∀ j σ',Fin j σ'→Fin' j σ'):CompI W d env η elt x ifs scope Fin' k σ:=by
 obtain ⟨h1,Inv,h2,h3⟩:=h
 refine ⟨h1,Inv,h2,λ C n k σ' hI=>?_⟩
 have z:=h3 C n k σ' hI
 cases hn:k.next σ' with
 | none=>rw [hn] at z; exact z
 | some r=>cases r with
  | none=>rw [hn] at z; exact q _ _ z
  | some r=>rw [hn] at z; exact z
theorem G9 {e:Expr} (h:N1 e=true):∃ elt gens scope p,e=.ListComp elt gens scope p:=Expr.ListComp.elim (motive_1:=λ e=>∃ elt gens scope p,e=.ListComp elt gens scope p) e (zV h) λ elt gens scope p=>⟨elt,gens,scope,p,rfl⟩
theorem AE (x:Str) (v:AV) (fs:List (Str×AV)):(aI x v fs).length≤fs.length+1:=by
 induction fs with
 | nil=>exact Nat.le_refl _
 | cons p r ih =>
  unfold aI
  split
  · exact Nat.le_succ _
  · exact Nat.succ_le_succ ih
theorem Hf (O:W.Ok) {a v:AV} {name:Str} {k:List AO→Prop} (h:G6.N2 W d a name v σ k):yo W d a name v σ k:=by
 cases a with
 | inst C m =>
  obtain ⟨fs,e,hl,q⟩:=(aB h).2
  exact yo.field O e (aB h).1 (Nat.le_trans (AE _ _ _) hl) q
 | _=>exact h
theorem E7 {a b v:AV} {k:List AO→Prop} (h:G6.I0 W d a b v σ k):qm W d a b v σ k:=by
 cases a with
 | lst m =>
  cases b with
  | int i=>obtain ⟨xs,e,h0,h1,h2,q⟩:=h; exact qm.list e h0 h1 h2 q
  | _=>exact False.elim h
 | dct m =>
  cases b with
  | int i=>obtain ⟨es,e,h0,q⟩:=h; exact qm.dct e h0 q
  | _=>exact False.elim h
 | _=>exact h
theorem Hg (O:W.Ok) {n:Nat} {al:List Str} {t e:Expr} {pos:Pos} {k:En→List AO→Prop} (h:G6 W d env T n al t e pos η σ k):iP W d env (.Assign [t] e pos) η σ λ fl η' σ'=>fl=.next∧Ag al η η'∧k η' σ':=by
 cases t with
 | Name x p =>
  have c:=aB h
  rcases Bool.or_eq_true_iff.mp c.1 with c1 | c1
  · refine iP.assign ((c8 O _ _ _ _ _ c.2).mono λ v af q=>?_) (lC c1)
    obtain ⟨η',u,a,z⟩:=tu q
    exact ⟨η',u,rfl,a,z⟩
  · have c1:=Bool.and_eq_true_iff.mp c1
    obtain ⟨elt,gens,scope,lp,rfl⟩:=G9 c1.1
    cases n with
    | zero=>exact c.2.elim
    | succ n =>
     obtain ⟨y,py,it,ifs,rfl,h1,h2,h3,h4⟩:=KL (env:=env) O c.2
     refine iP.Bq O h1 h2 (Dg c1.2) (h4.mono λ k af q=>q.mono λ j σ' q=>?_) h3
     obtain ⟨η',u,a,z⟩:=tu q
     exact ⟨η',u,rfl,a,z⟩
 | Tuple elts j tpos =>
  have c:=aB h
  refine aC c.2 (λ r e1 h=>?_) λ _ h=>h.elim
  cases r with
  | none =>
   refine aC h (λ names e2 h=>?_) λ _ h=>h.elim
   have cn:=aB h
   refine iP.El (lC c.1) (xP e1) ((c8 O _ _ _ _ _ cn.2).mono λ v af q=>?_)
   obtain ⟨vs,η',rfl,l,e3,q'⟩:=Cy (sJ (k:=λ v=>G5 names η v λ η'=>k η' af) q)
   have z:=E4 (W:=W) (d:=d) (env:=env) elts names e2 vs η η' af (λ η' ai=>Fl.next=.next∧Ag al η η'∧k η' ai) e3 ⟨rfl,sZ _ _ _ _ e3 (by simpa using cn.1),q'⟩
   exact Ab.tuple z.1 (by rw [z.2.2,l]) z.2.1
  | some names =>
   have cn:=aB h
   refine iP.Bl (lC c.1) (xP e1) ((c8 O _ _ _ _ _ cn.2).mono λ v af q=>?_)
   obtain ⟨vs,η',rfl,l,e3,q'⟩:=E5 q
   exact ⟨_,η',rfl,l,e3,rfl,sZ _ _ _ _ e3 (by simpa using cn.1),q'⟩
 | Attribute o name p =>
  have c:=aB h
  exact iP.setattr (lC c.1) ((c8 O _ _ _ _ _ c.2).mono λ v af q=>(c8 O _ _ _ _ _ q).mono λ a ai q=>yo.mono (Hf O q) λ az q=>⟨rfl,Ag.refl _,q⟩)
 | Subscript o i p =>
  have c:=aB h
  exact iP.GD (lC c.1) ((c8 O _ _ _ _ _ c.2).mono λ v af q=>(c8 O _ _ _ _ _ q).mono λ a ai q=>(c8 O _ _ _ _ _ q).mono λ b az q=>qm.mono (E7 q) λ aY q=>⟨rfl,Ag.refl _,q⟩)
 | _=>exact h.elim
theorem KP {c:Bool} {A B:Prop} (h:∃ bc,BC.val bc=c∧A4 bc A False) (k:A→B):c=true∧B:=by
 obtain ⟨bc,e,q⟩:=h
 have q:=m6 q
 cases c with
 | true=>exact ⟨rfl,k (q.1 e)⟩
 | false=>exact (q.2 e).elim
theorem vJ {it:Expr} (h:sY it=true):∀ x,foldedSetIterable it env x=pure x:=by
 have G:∀ P:Expr→Prop,(∀ a b,P (.Name a b))→(∀ a b c,P (.Attribute a b c))→(∀ a b c d,P (.Call a b c d))→(∀ a b c,P (.Subscript a b c))→(∀ a b,P (.List a b))→P it:=by
  intro P h1 h2 h3 h4 h5
  exact Cq h (λ h=>Expr.Name.elim it (zV h) h1) λ h=>Cq h (λ h=>Expr.Attribute.elim it (zV h) h2) λ h=>Cq h (λ h=>Expr.Call.elim it (zV h) h3) λ h=>Cq h (λ h=>Expr.Subscript.elim it (zV h) h4) λ h=>Expr.List.elim it (zV h) h5
 exact G (λ it=>∀ x,foldedSetIterable it env x=pure x) (λ _ _ _=>rfl) (λ _ _ _ _=>rfl) (λ _ _ _ _ _=>rfl) (λ _ _ _ _=>rfl) (λ _ _ _=>rfl)
theorem zx {l:LA} {al:List Str} (h:G4 l al=true):∀ x∈l.map (·.1),x∈al:=λ x hx=>by
 obtain ⟨p,hp,rfl⟩:=List.mem_map.mp hx
 exact mem_of (List.all_eq_true.mp h p hp)
structure At {R:Type} (l:LA) (η:En) (I:vI R l) (η₁:En) (r:R):Prop where
 all:∀ P',xV l η I P'→P' η₁ r
theorem At.ag {R:Type} {l:LA} {I:vI R l} {η₁:En} {r:R} (h:At l η I η₁ r):Ag (l.map (·.1)) η η₁:=h.all _ (zw l η I _ λ p hp=>List.mem_map.mpr ⟨p,hp,rfl⟩)
inductive RT {R:Type} (l:LA) (I:vI R l) (η η':En) (P:R→Prop):Prop
 | mk (η₁:En) (r:R) (w:Wk η₁ η') (a:At l η I η₁ r) (q:P r):RT l I η η' P
theorem At.mk' {R:Type} {l:LA} {I:vI R l} {η':En} {P:R→Prop} (nd:(η.map (·.1)).Nodup) (a:Ag (l.map (·.1)) η η') (h:DR l η' I P):RT l I η η' P:=by
 obtain ⟨η₁,r,h1,h2,h3⟩:=E1 l η I P nd a.wl h
 exact ⟨η₁,r,h3,⟨h1⟩,h2⟩
inductive N6 (K:Kd) (la:LA) (η:En) (H:Nat→List (Ty K)→vI (Nat→List AO→Prop) la→Prop) (m:Nat) (k:iL) (η₁:En) (af:List AO):Prop
 | l (mm i:Nat) (ys:List (Ty K)) (I:vI (Nat→List AO→Prop) la) (r:Nat→List AO→Prop) (em:m=i) (ek:k=.tP mm i) (a:At la η I η₁ r) (q:r i af) (hi:i≤ys.length) (h:H mm ys I):N6 K la η H m k η₁ af
inductive E8 (K:Kd) (la:LA) (η:En) (H:Nat→List (Ty K)→vI (Nat→List AO→Prop) la→Prop) (G:Int→Int→vI (Int→List AO→Prop) la→Prop) (m:Nat) (k:iL) (η₁:En) (af:List AO):Prop
 | l (mm i:Nat) (ys:List (Ty K)) (I:vI (Nat→List AO→Prop) la) (r:Nat→List AO→Prop) (em:m+i=ys.length) (ek:k=.lst mm i) (a:At la η I η₁ r) (q:r i af) (h:H mm ys I):E8 K la η H G m k η₁ af
 | r (x b c:Int) (I:vI (Int→List AO→Prop) la) (r:Int→List AO→Prop) (hc:0<c) (lf:Lf x b c m) (ek:k=.tw x c m) (a:At la η I η₁ r) (q:r x af) (h:G b c I):E8 K la η H G m k η₁ af
theorem Dh {Inv:Nat→iL→En→List AO→Prop} {n:Nat} {k:iL} {Q':Fl→En→List AO→Prop} {nx bk:En→List AO→Prop} {Q:Fl→En→List AO→Prop} {fl:Fl} {η':En} {σ':List AO} (z:E2 nx bk Q fl η' σ') (h1:nx η' σ'→∃ m,m<n∧∃ η₃,Wk η₃ η'∧Inv m k η₃ σ') (h2:bk η' σ'→Q' .next η' σ') (h3:∀ v,Q (.ret v) η' σ'→Q' (.ret v) η' σ'):Gz Inv n k Q' fl η' σ':=by
 cases fl with
 | next=>exact h1 z
 | cont=>exact h1 z
 | brk=>exact h2 z
 | ret v=>exact h3 v z
def N7 (B:Wl→Af) (f:Wl→List Str→List Stmt→En→List AO→(Fl→En→List AO→Prop)→Prop):Prop:=∀ W:Wl,W.Ok→∀ al ss η σ Q,f W al ss η σ Q→B W ss η σ λ fl η' σ'=>Ag al η η'∧Q fl η' σ'
abbrev Ih (d:Nat) (env:Env) (f:Wl→List Str→List Stmt→En→List AO→(Fl→En→List AO→Prop)→Prop):Prop:=N7 (λ W=>cF W d env) f
def Pp (B:Af) (al:List Str) (rest:List Stmt) (Q:Fl→En→List AO→Prop) (η₀:En):Fl→En→List AO→Prop:=λ fl η' σ'=>fl.go η' σ' (λ fl η' σ'=>Ag al η₀ η'∧Q fl η' σ') (B rest η' σ' λ fl η' σ'=>Ag al η₀ η'∧Q fl η' σ')
abbrev RQ (W:Wl) (d:Nat) (env:Env) (al:List Str) (rest:List Stmt) (Q:Fl→En→List AO→Prop) (η₀:En):Fl→En→List AO→Prop:=Pp (cF W d env) al rest Q η₀
structure N8 (B:Af):Prop where
 mono:∀ {ss η σ Q Q'},B ss η σ Q→(∀ fl η' σ',Q fl η' σ'→Q' fl η' σ')→B ss η σ Q'
 nil:∀ {η σ Q},Q .next η σ→B [] η σ Q
theorem KQ {W:Wl} {d:Nat} {env:Env}:N8 (cF W d env):=⟨λ h q=>h.mono q,cF.nil⟩
section
variable {f:Wl→List Str→List Stmt→En→List AO→(Fl→En→List AO→Prop)→Prop} {al:List Str} {t:Expr} {b rest:List Stmt} {Q:Fl→En→List AO→Prop} {l:LA} {K:Kd}
theorem Bv {B:Wl→Af} (hB:N8 (B W)) (ih:N7 B f) (O:W.Ok) {η₀ η':En} {σ':List AO} {fl:Fl} (a:Ag al η₀ η') (q:goN (λ η' σ'=>f W al rest η' σ' Q) Q fl η' σ'):Pp (B W) al rest Q η₀ fl η' σ':=by
 cases fl with
 | next=>exact hB.mono (ih W O _ _ _ _ _ q) λ fl η₂ ai z=>⟨a.trans z.1,z.2⟩
 | brk=>exact ⟨a,q⟩
 | cont=>exact ⟨a,q⟩
 | ret v=>exact ⟨a,q⟩
theorem F2 (ih:Ih d env f) (O:W.Ok) {η₀ η':En} {σ':List AO} {fl:Fl} (a:Ag al η₀ η') (q:goN (λ η' σ'=>f W al rest η' σ' Q) Q fl η' σ'):RQ W d env al rest Q η₀ fl η' σ':=Bv (B:=λ W=>cF W d env) KQ ih O a q
theorem KR {B:Wl→Af} (hB:N8 (B W)) (ih:N7 B f) (O:W.Ok) (nd:(η.map (·.1)).Nodup) (hal:∀ x∈l.map (·.1),x∈al) {R:Type} {I:vI R l} {r:R} {η₁:En} {ai:List AO} {nx:R→List AO→Prop} {v:AV} (qQ:At l η I η₁ r) (h:N3 f W al t b rest Q l I nx v η₁ ai)
 {Inv:Nat→iL→En→List AO→Prop} {n:Nat} {k:iL} (step:∀ η₃ r₃ σ',At l η I η₃ r₃→nx r₃ σ'→∃ m,m<n∧Inv m k η₃ σ'):Ab W d env t v η₁ ai λ η₂ ai=>B W b η₂ ai (Gz Inv n k (Pp (B W) al rest Q η)):=by
 refine (E6 h).mono λ η₂ ai z=>?_
 obtain ⟨rfl,TN,z⟩:=z
 refine hB.mono (ih W O _ _ _ _ _ z) λ fl η' σ' z=>?_
 have ag:=(qQ.ag.trans TN).trans z.1
 refine Dh z.2 (λ q=>?_) (λ q=>Bv hB ih O (fl:=.next) (ag.mono hal) q) λ v q=>⟨ag.mono hal,q⟩
 obtain ⟨η₃,r₃,LI,zT,nC⟩:=At.mk' nd ag q
 obtain ⟨m,hm,inv⟩:=step η₃ r₃ σ' zT nC
 exact ⟨m,hm,η₃,LI,inv⟩
theorem KS (ih:Ih d env f) (O:W.Ok) (nd:(η.map (·.1)).Nodup) (hal:∀ x∈l.map (·.1),x∈al) {R:Type} {I:vI R l} {r:R} {η₁:En} {ai:List AO} {nx:R→List AO→Prop} {v:AV} (qQ:At l η I η₁ r) (h:N3 f W al t b rest Q l I nx v η₁ ai)
 {Inv:Nat→iL→En→List AO→Prop} {n:Nat} {k:iL} (step:∀ η₃ r₃ σ',At l η I η₃ r₃→nx r₃ σ'→∃ m,m<n∧Inv m k η₃ σ'):Ab W d env t v η₁ ai λ η₂ ai=>cF W d env b η₂ ai (Gz Inv n k (RQ W d env al rest Q η)):=KR (B:=λ W=>cF W d env) KQ ih O nd hal qQ h step
theorem Hh (ih:Ih d env f) (O:W.Ok) (nd:(η.map (·.1)).Nodup) (hal:∀ x∈l.map (·.1),x∈al) {x:Str} {p q pos:Pos} {e:Expr} (hx:yi η x (.cst (.type "reversed"))) (hu:aK e=true) (h:aT W d env e η σ (I5 f W al t b rest Q l K η)) :
 iP W d env (.For t (.Call (.Name x p) [e] [] q) b [] pos) η σ (RQ W d env al rest Q η):=by
 refine iP.for (Inv:=N6 K l η (λ mm ys I=>I4 f W al t b rest Q l K η mm ys I)) (qG.rev O hx hu (h.mono λ a af q=>?_)) ?_
 · cases a with
   | lst mm =>
    obtain ⟨ys,e1,e2,I,h1,h2⟩:=q
    obtain ⟨η₀,B4,wk,B5,q₀⟩:=At.mk' nd (Ag.refl η) h1
    exact .lst mm _ e1 (by rw [List.length_map]; exact e2) ⟨ys.length,η₀,wk,.l mm ys.length ys I B4 rfl (by rw [List.length_map]) B5 q₀ (Nat.le_refl _) h2⟩
   | _=>exact q.elim
 · intro m k η₁ af inv
   cases inv with
   | l mm i ys I r em ek qQ FY hi h2 =>
    subst em; subst ek
    have H:=qQ.all _ h2 m af FY
    cases m with
    | zero=>exact cF.nil (F2 ih O (fl:=.next) (qQ.ag.mono hal) (H.2 rfl))
    | succ j =>
     have hj:j<ys.length:=hi
     obtain ⟨e1,e2⟩:=H.1 j ys[j] rfl (List.getElem?_eq_getElem hj)
     have en:iL.next af (.tP mm (j+1))=some (some (Dd K ys[j],.tP mm j)):=by
      show Iu mm j af[mm]? = _
      rw [e1]
      show Pc mm j (ys.map (Dd K))[j]? = _
      rw [List.getElem?_map,List.getElem?_eq_getElem hj]; rfl
     rw [en]
     exact KS ih O nd hal qQ e2 λ η₃ r₃ σ' zT nC=>⟨j,Nat.lt_succ_self _,.l mm j ys I r₃ rfl rfl zT nC (Nat.le_of_lt hj) h2⟩
theorem Cz (nd:(η.map (·.1)).Nodup) {it:Expr} (h:aT W d env it η σ (Cx f W al t b rest Q l K η)) :
 qG W d env it η σ λ k af=>∃ n η₀,Wk η₀ η∧E8 K l η (λ mm ys I=>G8 f W al t b rest Q l K η mm ys I) (λ b' c I=>G7 f W al t b rest Q l η b' c I) n k η₀ af:=by
 refine qG.of (h.mono λ a af q=>?_)
 cases a with
 | lst mm =>
  obtain ⟨ys,e1,I,h1,h2⟩:=q
  obtain ⟨η₀,B4,wk,B5,q₀⟩:=At.mk' nd (Ag.refl η) h1
  exact ⟨_,rfl,⟨ys.length,η₀,wk,.l mm 0 ys I B4 rfl rfl B5 q₀ h2⟩,λ n' e'=>by cases e'; exact ⟨_,e1⟩⟩
 | tw x b' c =>
  have c2:=aB q
  obtain ⟨hs,I,h1,h2⟩:=c2.2
  have hc:=of_decide_eq_true c2.1
  obtain ⟨η₀,B4,wk,B5,q₀⟩:=At.mk' nd (Ag.refl η) h1
  exact ⟨.tw x c (Builtin.Range.rangeSize x b' c).toNat,if_pos hs,⟨_,η₀,wk,.r x b' c I B4 hc (Lf.start hc) rfl B5 q₀ h2⟩,λ n' e'=>by cases e'⟩
 | _=>exact q.elim
theorem AF {B:Wl→Af} (hB:N8 (B W)) (ih:N7 B f) (O:W.Ok) (nd:(η.map (·.1)).Nodup) (hal:∀ x∈l.map (·.1),x∈al):∀ m k η₁ af,E8 K l η (λ mm ys I=>G8 f W al t b rest Q l K η mm ys I) (λ b' c I=>G7 f W al t b rest Q l η b' c I) m k η₁ af →
 GA (B W) W d env t b [] (E8 K l η (λ mm ys I=>G8 f W al t b rest Q l K η mm ys I) λ b' c I=>G7 f W al t b rest Q l η b' c I) m k η₁ af (Pp (B W) al rest Q η) (k.next af):=by
 intro m k η₁ af inv
 cases inv with
 | l mm i ys I r em ek qQ FY h2 =>
  subst ek
  obtain ⟨e1,H,He⟩:=qQ.all _ h2 i af FY
  have en:iL.next af (.lst mm i)=some (MW mm i (ys.map (Dd K))[i]?):=by
   show Gx mm i af[mm]? = _
   rw [e1]; rfl
  rw [en]
  by_cases hi:i<ys.length
  · rw [List.getElem?_map,List.getElem?_eq_getElem hi]
    exact KR hB ih O nd hal qQ (H _ (List.getElem?_eq_getElem hi)) λ η₃ r₃ σ' zT nC=>⟨m-1,by lia,.l mm (i+1) ys I r₃ (Lq.sh (by assumption) hi) rfl zT nC h2⟩
  · rw [List.getElem?_map,List.getElem?_eq_none (Nat.not_lt.mp hi)]
    exact hB.nil (Bv hB ih O (fl:=.next) (qQ.ag.mono hal) (He (by lia)))
 | r x b' c I r hc lf ek qQ FY h2 =>
  subst ek
  have H:=qQ.all _ h2 x af FY
  cases m with
  | zero=>exact hB.nil (Bv hB ih O (fl:=.next) (qQ.ag.mono hal) (H.2 lf.zero))
  | succ m =>
   obtain ⟨hx,QB⟩:=lf.succ hc
   exact KR hB ih O nd hal qQ (H.1 hx) λ η₃ r₃ σ' zT nC=>⟨m,Nat.lt_succ_self _,.r (x+c) b' c I r₃ hc QB rfl zT nC h2⟩
theorem Hi (ih:Ih d env f) (O:W.Ok) (nd:(η.map (·.1)).Nodup) (hal:∀ x∈l.map (·.1),x∈al) {it:Expr} {pos:Pos} (hp:sY it=true) (h:aT W d env it η σ (Cx f W al t b rest Q l K η)) :
 iP W d env (.For t it b [] pos) η σ (RQ W d env al rest Q η):=iP.for (Cz nd h) (AF (B:=λ W=>cF W d env) KQ ih O nd hal) (vJ hp)
theorem Hj (ih:Ih d env f) (O:W.Ok) (nd:(η.map (·.1)).Nodup) (hal:∀ x∈l.map (·.1),x∈al) {ts:En→List AO→(BC→List AO→Prop)→Prop} (hts:∀ η σ Q,ts η σ Q→bY W d env t η σ λ c σ'=>∃ bc,BC.val bc=c∧Q bc σ') {pos:Pos} {I:vI (Nat→List AO→Prop) l}
 (h1:DR l η I λ R=>∃ m,R m σ) (h2:N4 f W al b rest Q ts l η I):iP W d env (.While t b [] pos) η σ (RQ W d env al rest Q η):=by
 obtain ⟨η₀,B4,wk,B5,Rf,N9⟩:=At.mk' nd (Ag.refl η) h1
 refine iP.while (Inv:=λ m η₁ af=>∃ r,At l η I η₁ r∧r m af) Rf η₀ wk ⟨B4,B5,N9⟩ ?_
 intro m η₁ af ⟨r,qQ,hr⟩
 refine (hts _ _ _ (qQ.all _ h2 m af hr)).mono λ c ai q=>?_
 obtain ⟨bc,eb,q⟩:=q
 have q:=m6 q
 cases c with
 | true =>
  refine (ih W O _ _ _ _ _ (q.1 eb)).mono λ fl η' σ' z=>?_
  have ag:Ag (l.map (·.1)) η η':=qQ.ag.trans z.1
  have nx:(DR l η' I λ R'=>∃ m',m'<m∧R' m' σ')→∃ m',m'<m∧∃ η₃,Wk η₃ η'∧∃ r,At l η I η₃ r∧r m' σ':=λ q=>by
   obtain ⟨η₃,r₃,LI,zT,m',hm,nC⟩:=At.mk' nd ag q
   exact ⟨m',hm,η₃,LI,r₃,zT,nC⟩
  cases fl with
  | next=>exact nx z.2
  | cont=>exact nx z.2
  | brk=>exact F2 ih O (fl:=.next) (ag.mono hal) z.2
  | ret v=>exact ⟨ag.mono hal,z.2⟩
 | false=>exact cF.nil (F2 ih O (fl:=.next) (qQ.ag.mono hal) (q.2 eb))
end
theorem CA:∀ n:Nat,Ih d env (xX d env T n):=by
 intro n
 induction n with
 | zero=>intro W O al ss η σ Q h; exact h.elim
 | succ n ih =>
  intro W O al ss η σ Q h
  cases ss with
  | nil=>exact cF.nil ⟨Ag.refl _,h⟩
  | cons st rest =>
   refine cF.cons (show iP W d env st η σ (RQ W d env al rest Q η) from ?_)
   cases st with
   | Assign ts e pos=>cases ts with
    | nil=>exact h.elim
    | cons t more=>cases more with
     | nil=>exact (Hg O h).mono λ fl η' σ' q=>by rw [q.1]; exact F2 ih O q.2.1 q.2.2
     | cons=>exact h.elim
   | AugAssign t op e pos=>cases t with
    | Name x p =>
     refine aC h (λ FW e0 h=>?_) λ _ h=>h.elim
     refine iP.aug O (bL e0) ((c8 O _ _ _ _ _ h).mono λ v af q=>xG.mono (GR q) λ r ai q=>?_)
     obtain ⟨η',u,a,z⟩:=tu q
     exact ⟨η',u,F2 ih O (fl:=.next) a z⟩
    | _=>exact h.elim
   | Return e pos=>cases e with
    | some e=>exact iP.ret ((c8 O _ _ _ _ _ h).mono λ v af q=>⟨Ag.refl _,q⟩)
    | none=>exact iP.Gw ⟨Ag.refl _,h⟩
   | If t b o pos =>
    refine iP.if ((wj O (λ e σ Q=>c8 O n e η σ Q) _ _ _ _ h).mono λ c af q=>?_)
    obtain ⟨bc,e,q⟩:=q
    have q:=m6 q
    cases c with
    | true=>exact (ih W O _ _ _ _ _ (q.1 e)).mono λ fl η' σ' z=>F2 ih O z.1 z.2
    | false=>exact (ih W O _ _ _ _ _ (q.2 e)).mono λ fl η' σ' z=>F2 ih O z.1 z.2
   | Assert t m pos=>exact iP.assert ((wj O (λ e σ Q=>c8 O n e η σ Q) _ _ _ _ h).mono λ c af q=>KP q λ q=>F2 ih O (fl:=.next) (Ag.refl _) q)
   | Expr e pos =>
    have c:=aB h
    have c1:=Bool.and_eq_true_iff.mp c.1
    exact iP.expr (by simpa using c1.1) (lC c1.2) ((c8 O _ _ _ _ _ c.2).mono λ v af q=>F2 ih O (fl:=.next) (Ag.refl _) q)
   | Pass pos=>exact iP.pass (F2 ih O (fl:=.next) (Ag.refl _) h)
   | Break pos=>exact iP.break ⟨Ag.refl _,h⟩
   | While t b o pos =>
    refine aC h (λ la _ h=>?_) λ _ h=>h.elim
    have c:=aB h
    have c1:=Bool.and_eq_true_iff.mp c.1
    have ho:o=[]:=List.isEmpty_iff.mp c1.1
    subst ho
    obtain ⟨I,h1,h2⟩:=c.2
    exact iP.nd λ nd=>Hj ih O nd (zx c1.2) (λ η σ Q h=>wj O (λ e σ Q=>c8 O n e η σ Q) _ _ _ _ h) h1 h2
   | For t it b o pos =>
    refine aC h (λ la _ h=>?_) λ _ h=>h.elim
    have c:=aB h
    have c1:=Bool.and_eq_true_iff.mp c.1
    have Oa:=Bool.and_eq_true_iff.mp c1.1
    have hal:=zx Oa.2
    have ho:o=[]:=List.isEmpty_iff.mp Oa.1
    subst ho
    refine iP.nd λ nd=>?_
    refine aC c.2 (λ e er h'=>?_) λ _ h'=>Hi ih O nd hal c1.2 (c8 O _ _ _ _ _ h')
    · obtain ⟨x,p,q,rfl,hx,hu⟩:=EX er
      exact Hh ih O nd hal hx hu (c8 O _ _ _ _ _ h')
   | _=>exact h.elim
end
theorem ah.Ob {W:Wl} {d:Nat} {f:AV} {as:List AV} {σ:List AO} {b:Bool} {Q:AV→List AO→Prop} (h:ah W d f as σ λ v s=>v=.cst (.bool b)∧Q (.bool b) s):ah W d f as σ Q:=λ A s ρ v vs hr R hf hv=>by
 refine codeAny_mono (h A s ρ v vs hr R hf hv) λ r s' z=>?_
 cases r with
 | ok fl=>cases fl with
  | ret w =>
   refine Post.mono z λ _ _ _ w=>?_
   obtain ⟨av,x,rfl,y⟩:=w
   refine VR.aX x ?_
   exact ⟨_,.bool _,y⟩
  | _=>exact z
 | error e=>exact z
noncomputable def I7 (K:Frag) (v:Value):List Value:=match v with
 | .ref a=>(match K.lookup a with
  | some ⟨_,_,.seq xs _,_⟩=>xs.toList
  | _=>[])
 | _=>[]
noncomputable def oN (fd:FuncData):List Str:=fd.params.posonlyargs.map (·.arg)++fd.params.args.map (·.arg)
noncomputable def CB (K:Frag) (fd:FuncData) (n:Nat):List Value:=(I7 K fd.defaults).drop ((I7 K fd.defaults).length-((oN fd).length-n))
noncomputable def NF (R:Type):Nat→Type
 | 0=>R
 | n+1=>Value→NF R n
noncomputable def Bw {R:Type}:(n:Nat)→(List Value→R)→NF R n
 | 0,f=>f []
 | n+1,f=>λ v=>Bw n λ vs=>f (v :: vs)
theorem E9 {R:Type}:∀ (n:Nat) (f g:List Value→R),Bw n f=Bw n g→∀ vs:List Value,vs.length=n→f vs=g vs
 | 0,f,g,h,[],_=>h
 | n+1,f,g,h,v :: vs,e=>E9 n (λ vs=>f (v :: vs)) (λ vs=>g (v :: vs)) (congrFun h v) vs (by simpa using e)
 | 0,_,_,_,_ :: _,e=>by cases e
 | _+1,_,_,_,[],e=>by cases e
noncomputable def RU (d:Data):Option FuncData:=if h:d.ctorIdx=7 then Data.func.elim (motive:=λ _=>Option FuncData) d h some else none
theorem KU {d:Data} {fd:FuncData} (h:RU d=some fd):d=.func fd:=by
 obtain ⟨hp,h⟩:=yh h
 exact Data.func.elim (motive:=λ d=>∀ hp,Data.func.elim (motive:=λ _=>Option FuncData) d hp some=some fd→d=.func fd) d hp (λ _ _ h=>congrArg _ (Option.some.inj h)) hp h
noncomputable def RV (d:FuncBody):Option (List Stmt):=if h:d.ctorIdx=0 then FuncBody.stmts.elim (motive:=λ _=>Option (List Stmt)) d h some else none
theorem KV {d:FuncBody} {b:List Stmt} (h:RV d=some b):d=.stmts b:=by
 obtain ⟨hp,h⟩:=yh h
 exact FuncBody.stmts.elim (motive:=λ d=>∀ hp,FuncBody.stmts.elim (motive:=λ _=>Option (List Stmt)) d hp some=some b→d=.stmts b) d hp (λ _ _ h=>congrArg _ (Option.some.inj h)) hp h
noncomputable def fdOf (K:Frag) (a:Addr):Option (FuncData×List Stmt):=(K.lookup a).bind λ o=>(RU o.data).bind λ fd=>(RV fd.body).bind λ b=>some (fd,b)
noncomputable def yt (K:Frag) (fd:FuncData) (as:List AV):List (Str×AV):=(oN fd).zip (as++(CB K fd as.length).map xM)
noncomputable def wO (K:Frag) (fd:FuncData) (vs:List Value):List (Str×Value):=(oN fd).zip (vs++CB K fd vs.length)
noncomputable def xZ (K:Frag) (n:Nat) (a:Addr):Bool:=match fdOf K a with
 | some (fd,b)=>codeIn K fd.code fd.qualname&&Be fd&&((oN fd).length==n+(CB K fd n).length)&&(decide (oN fd).Nodup&&(oN fd).all λ x=>fd.scope.names.lookup x==some .local||fd.scope.names.lookup x==some .cell)
 | none=>false
noncomputable def bindL (K:Frag) (a:Addr) (vs:List Value) (S:Setting):Option (List (Str×Value)):=match fdOf K a with
 | some (fd,_)=>peek K S (bindArgs fd ⟨vs,[]⟩)
 | none=>none
noncomputable def bindR (K:Frag) (a:Addr) (vs:List Value) (S:Setting):Option (List (Str×Value)):=match fdOf K a with
 | some (fd,_)=>some (wO K fd vs)
 | none=>none
def Fd (Q:AV→List AO→Prop):Fl→En→List AO→Prop:=λ fl _ σ=>match fl with
 | .ret v=>Q v σ
 | .next=>Q .none σ
 | _=>False
def RW (W:Wl) (d:Nat) (T:Tab) (L:Addr) (a:Addr) (as:List AV) (σ:List AO) (Q:AV→List AO→Prop):Prop:=bG (fdOf W.K a) (λ p=>xX d (callEnvC p.1 L a) T 60 W (p.1.scope.names.map (·.1)) p.2 (wB W p.1.scope.names (yt W.K p.1 as)) σ (Fd Q)) False
set_option tactic.hygienic true in
theorem Hl {K:Frag} {a:Addr} {fd:FuncData} {b:List Stmt} (h:fdOf K a=some (fd,b)):∃ oc od osl,K.lookup a=some ⟨oc,od,.func fd,osl⟩∧fd.body=.stmts b:=by
 obtain ⟨⟨oc,od,dt,osl⟩,e,h⟩:=cB h
 obtain ⟨fd',ed,h⟩:=cB h
 obtain ⟨b',eb,h⟩:=cB h
 cases h
 have ed:=KU ed
 dsimp only at ed
 subst ed
 exact ⟨oc,od,osl,e,KV eb⟩
theorem vK {α β:Type}:∀ {xs:List α} {ys:List β},xs.length=ys.length→(xs.zip ys).map (·.1)=xs
 | [],[],_=>rfl
 | x :: xs,y :: ys,h=>by rw [List.zip_cons_cons,List.map_cons,vK (by simpa using h)]
 | [],_ :: _,h=>by cases h
 | _ :: _,[],h=>by cases h
theorem zy {α β:Type}:∀ {xs:List α} {ys:List β},xs.length=ys.length→(xs.zip ys).map (·.2)=ys
 | [],[],_=>rfl
 | x :: xs,y :: ys,h=>by rw [List.zip_cons_cons,List.map_cons,zy (by simpa using h)]
 | [],_ :: _,h=>by cases h
 | _ :: _,[],h=>by cases h
section
variable {W:Wl} {d:Nat} {T:Tab} {σ:List AO}
theorem bh.I8 {X ρ:List Addr} {h:Heap}:∀ vs:List Value,bh X ρ h (vs.map xM) vs
 | []=>.nil
 | v :: vs=>.cons (by cases v<;>first | exact .none | exact .bool _ | exact .int _ _ | exact .cst _) (bh.I8 vs)
structure TP (W:Wl) (a:Addr) (as:List AV) (fd:FuncData) (b:List Stmt):Prop where
 look:∃ oc od osl,W.K.lookup a=some ⟨oc,od,.func fd,osl⟩
 body:fd.body=.stmts b
 code:codeIn W.K fd.code fd.qualname=true
 ok:Be fd=true
 bind:∀ ρ h vs,bh W.hid ρ h as vs→∃ binds,(∀ S,peek W.K S (bindArgs fd ⟨vs,[]⟩)=some binds)∧wg W.hid ρ h (yt W.K fd as) binds
 Pq:(decide ((yt W.K fd as).map (·.1)).Nodup&&(yt W.K fd as).all λ p=>fd.scope.names.lookup p.1==some .local||fd.scope.names.lookup p.1==some .cell)=true
theorem Pr {a:Addr} {as:List AV} (hc:xZ W.K as.length a=true) (hb:Bw as.length (bindL W.K a)=Bw as.length (bindR W.K a)):∃ fd b,fdOf W.K a=some (fd,b)∧TP W a as fd b:=by
 unfold xZ at hc
 cases e:fdOf W.K a with
 | none=>rw [e] at hc; exact cV hc
 | some p =>
  obtain ⟨fd,b⟩:=p
  rw [e] at hc
  simp only [Bool.and_eq_true,beq_iff_eq] at hc
  obtain ⟨⟨⟨h1,h2⟩,h3⟩,h4,h5⟩:=hc
  obtain ⟨oc,od,osl,e1,e2⟩:=Hl e
  have ln:(oN fd).length=(as++(CB W.K fd as.length).map xM).length:=by rw [h3,List.length_append,List.length_map]
  refine ⟨fd,b,rfl,⟨oc,od,osl,e1⟩,e2,h1,h2,λ ρ hh vs hv=>?_,?_⟩
  · have lv:=hv.length
    refine ⟨wO W.K fd vs,λ S=>?_,?_,?_⟩
    · have:=congrFun (E9 _ _ _ hb vs lv) S
      unfold bindL bindR at this
      rw [e] at this
      exact this
    · unfold wO yt
      rw [vK ln,vK (by rw [h3,List.length_append,lv])]
    · unfold wO yt
      rw [zy ln,zy (by rw [h3,List.length_append,lv]),lv]
      exact hv.append (bh.I8 _)
  · unfold yt
    rw [vK ln,Bool.and_eq_true]
    refine ⟨h4,?_⟩
    rw [List.all_eq_true] at h5 ⊢
    intro p hp
    have:=h5 p.1 (by have:=List.mem_map_of_mem (f:=(·.1)) hp; rwa [vK ln] at this)
    simpa using this
theorem Ho {α:Type} {o:Option α} {x:α} {k:α→Prop} {z:Prop} (e:o=some x) (h:bG o k z):k x:=by rw [e] at h; exact h
theorem ah.of (O:W.Ok) {a:Addr} {as:List AV} {Q:AV→List AO→Prop} (hc:xZ W.K as.length a=true) (hb:Bw as.length (bindL W.K a)=Bw as.length (bindR W.K a)) (h:∀ L,RW W d T L a as σ Q):ah W (d+1) (.cst (.ref a)) as σ Q:=by
 obtain ⟨fd,b,e,H⟩:=Pr hc hb
 obtain ⟨oc,od,osl,e1⟩:=H.look
 refine ah.fn O e1 H.body H.code H.ok H.bind H.Pq rfl λ L=>?_
 have hL:=h L
 unfold RW at hL
 have hL:=Ho e hL
 refine (CA 60 _ O _ _ _ _ _ hL).mono λ fl η' σ' z=>?_
 cases fl with
 | ret v=>exact z.2
 | next=>exact z.2
 | brk=>exact z.2.elim
 | cont=>exact z.2.elim
end
inductive x6 (W:Wl) (C:Addr):Prop
 | mk {N:Addr} {nm q:Str} {bs bm bmB:List Value} {hdct:Bool} {sn:List Str} {sub:List Value} {ab:Bool} {col:Option Bool} {dd:Option Addr} {k0 k1 k2 k3 k5:Option Value} {B Bn newId nid initId inN:String} {bmN:List Value} {mN:Str→Option Value}
  (Fn:ExcBaseFacts Bn newId inN bmN) (hBn:bmB.contains (.type Bn)=true) (Fb:ExcBaseFacts B nid initId bmB) (hbase:bm.contains (.type "BaseException")=true) (hni:mN "__init__" = none)
  (hC:W.hb.get? C=some (excClassObj nm q C N bs bm hdct sn sub ab col dd k0 k1 k2 k3 k5 newId)) (hN:W.hb.Ns N mN) (hT:OwnTail W.hb bmB bm):x6 W C
noncomputable def AG {α:Type} (l:List α):Option α:=if l.tail.isEmpty then l.head? else none
theorem wQ {α:Type} {l:List α} {a:α} (h:AG l=some a):l=[a]:=by
 cases l with
 | nil=>exact aP h
 | cons b r=>cases r with
  | nil=>exact congrArg (λ x=>[x]) (Option.some.inj h)
  | cons=>exact aP h
noncomputable def Oc (s:Stmt):Option (Expr×List Stmt×List Stmt):=if h:s.ctorIdx=12 then Stmt.If.elim (motive_2:=λ _=>Option (Expr×List Stmt×List Stmt)) s h (λ t b o _=>some (t,b,o)) else none
noncomputable def RX (s:Stmt):Option Expr:=if h:s.ctorIdx=16 then Stmt.Raise.elim (motive_2:=λ _=>Option Expr) s h (λ e c _=>if c.isNone then e else none) else none
noncomputable def KW (c:Const):Option Str:=if h:c.ctorIdx=5 then Const.str.elim (motive:=λ _=>Option Str) c h some else none
noncomputable def Oe (e:Expr):Option Str:=if h:e.ctorIdx=19 then Expr.Constant.elim (motive_1:=λ _=>Option Str) e h (λ c _ _=>KW c) else none
theorem Hq {s:Stmt} {r:Expr×List Stmt×List Stmt} (h:Oc s=some r):∃ p,s=.If r.1 r.2.1 r.2.2 p:=by
 obtain ⟨hp,h⟩:=yh h
 exact Stmt.If.elim (motive_2:=λ s=>∀ hp,Stmt.If.elim (motive_2:=λ _=>Option (Expr×List Stmt×List Stmt)) s hp (λ t b o _=>some (t,b,o))=some r→∃ p,s=.If r.1 r.2.1 r.2.2 p) s hp (λ t b o p _ h=>⟨p,Option.some.inj h▸rfl⟩) hp h
theorem KZ {s:Stmt} {e:Expr} (h:RX s=some e):∃ p,s=.Raise (some e) none p:=by
 obtain ⟨hp,h⟩:=yh h
 exact Stmt.Raise.elim (motive_2:=λ s=>∀ hp,Stmt.Raise.elim (motive_2:=λ _=>Option Expr) s hp (λ e c _=>if c.isNone then e else none)=some e→∃ p,s=.Raise (some e) none p) s hp (λ e' c p _ h=>⟨p,by
  cases c with
  | some _=>exact aP h
  | none=>exact congrArg (Stmt.Raise · none p) h⟩) hp h
theorem Hr {c:Const} {m:Str} (h:KW c=some m):c=.str m:=by
 obtain ⟨hp,h⟩:=yh h
 exact Const.str.elim (motive:=λ c=>∀ hp,Const.str.elim (motive:=λ _=>Option Str) c hp some=some m→c=.str m) c hp (λ _ _ h=>congrArg _ (Option.some.inj h)) hp h
theorem Hs {e:Expr} {m:Str} (h:Oe e=some m):∃ k p,e=.Constant (.str m) k p:=by
 obtain ⟨hp,h⟩:=yh h
 exact Expr.Constant.elim (motive_1:=λ e=>∀ hp,Expr.Constant.elim (motive_1:=λ _=>Option Str) e hp (λ c _ _=>KW c)=some m→∃ k p,e=.Constant (.str m) k p) e hp (λ c k p _ h=>⟨k,p,congrArg (Expr.Constant · k p) (Hr h)⟩) hp h
noncomputable def Of (e:Expr):Option Str:=(xQ e).bind λ p=>((one? p.2).bind Oe).bind λ _=>xS p.1
inductive RY (x:Str) (e:Expr):Prop
 | mk (np:Pos) (m:Str) (kk:Nat) (ap cp:Pos) (h:e=.Call (.Name x np) [.Constant (.str m) kk ap] [] cp):RY x e
theorem Ht {e:Expr} {x:Str} (h:Of e=some x):RY x e:=by
 obtain ⟨p,h1,h⟩:=Option.bind_eq_some_iff.mp h
 obtain ⟨m,h2,h3⟩:=Option.bind_eq_some_iff.mp h
 obtain ⟨a,h4,h5⟩:=Option.bind_eq_some_iff.mp h2
 obtain ⟨cp,h1⟩:=sW h1
 obtain ⟨np,h3⟩:=o8 h3
 obtain ⟨kk,ap,h5⟩:=Hs h5
 exact ⟨np,m,kk,ap,cp,by rw [h1,h3,zq h4,h5]⟩
noncomputable def zz (C:Addr) (o:Option AV):Bool:=((o.bind EN).map λ D=>Nat.beq D C).getD false
theorem yT {C:Addr} {o:Option AV} (h:zz C o=true):o=some (.cst (.ref C)):=by
 unfold zz at h
 cases e:o.bind EN with
 | none=>rw [e] at h; exact cV h
 | some D =>
  rw [e] at h
  obtain ⟨v,e1,e2⟩:=Option.bind_eq_some_iff.mp e
  rw [e1,zu e2,Nat.eq_of_beq_eq_true (show Nat.beq D C=true from h)]
noncomputable def CD (C:Addr) (η:En) (b:List Stmt):Bool:=zz C ((((AG b).bind RX).bind Of).bind (bW η))
section
variable {W:Wl} {d:Nat} {env:Env} {η:En} {σ:List AO} {T:Tab}
theorem Bx (O:W.Ok) {C:Addr} (X:x6 W C) {b:List Stmt} {Q:Fl→En→List AO→Prop} {E:List AO→Prop} (h:CD C η b=true) (e:E σ):qo W d env C b η σ Q E:=by
 obtain ⟨x,h1,hx⟩:=Option.bind_eq_some_iff.mp (yT h)
 obtain ⟨ex,h2,h3⟩:=Option.bind_eq_some_iff.mp h1
 obtain ⟨st,h4,h5⟩:=Option.bind_eq_some_iff.mp h2
 obtain ⟨p,e5⟩:=KZ h5
 obtain ⟨np,m,kk,ap,cp,e6⟩:=Ht h3
 obtain ⟨Fn,hBn,Fb,hbase,hni,hC,hN,hT⟩:=X
 rw [wQ h4,e5,e6]
 exact Tw.raise O Fn hBn Fb hbase hni hC hN hT (bL hx) e
end
section
variable (d:Nat) (env:Env) (T:Tab) (sp:List Nat)
noncomputable def xR (C:Addr) (E:List AO→Prop):Nat→Wl→List Str→List Stmt→En→List AO→(Fl→En→List AO→Prop)→Prop
 | 0,W,al,ss,η,σ,Q=>False
 | n+1,W,al,ss,η,σ,Q=>match ss with
  | []=>Q .next η σ
  | st :: rest=>(bif sp.contains st.pos.line then bG (Oc st) (λ p=>oY (CD C η p.2.1&&p.2.2.isEmpty) (xT W d T η (λ e σ Q=>xE W d T 60 e η σ Q) 60 p.1 σ λ c af=>A4 c (E af) (xR C E n W al rest η af Q))) False
   else xX d env T 60 W al [st] η σ (goN (λ η' σ'=>xR C E n W al rest η' σ' Q) Q))
noncomputable def xF:Nat→Wl→List Str→List Stmt→En→List AO→(Fl→En→List AO→Prop)→Prop
 | 0,W,al,ss,η,σ,Q=>False
 | n+1,W,al,ss,η,σ,Q=>match ss with
  | []=>Q .next η σ
  | st :: rest=>(bif sp.contains st.pos.line then (match st with
   | .If t b o _=>xT W d T η (λ e σ Q=>xE W d T 60 e η σ Q) 60 t σ λ c af=>A4 c (xF n W al b η af (goN (λ η' σ'=>xF n W al rest η' σ' Q) Q)) (xF n W al o η af (goN (λ η' σ'=>xF n W al rest η' σ' Q) Q))
   | .For t it b o pos=>bG (T.loop pos.line) (λ la=>oY (o.isEmpty&&G4 (xY t la.1) al&&sY it) (xE W d T 60 it η σ λ a af=>Cx (λ W al ss η σ Q=>xF n W al ss η σ Q) W al t b rest Q (xY t la.1) la.2 η a af)) False
   | .Assign ts e pos=>bG (one? ts) (λ t=>bG (xS t) (λ y=>bG (xQ e) (λ p=>bG (xS p.1) (λ x=>bG ((bW η x).bind EN) (λ a=>oY (EK W (.cst (.ref a))&&p.2.all aK&&wh (swapsWith e (some t) pos.line env))
    (GP (λ e σ Q=>xE W d T 60 e η σ Q) p.2 σ λ as af=>xO W d [env] (.cst (.ref a)) as af λ v ai=>Bu al η y v λ η'=>xF n W al rest η' ai Q)) False) False) False) False) False
   | _=>False)
   else xX d env T 60 W al [st] η σ (goN (λ η' σ'=>xF n W al rest η' σ' Q) Q))
end
section
variable {d:Nat} {env:Env} {T:Tab} {sp:List Nat}
theorem Og {C:Addr} {E:List AO→Prop}:∀ (n:Nat) (W:Wl),W.Ok→x6 W C→∀ al ss η σ Q,xR d env T sp C E n W al ss η σ Q→qo W d env C ss η σ Q E:=by
 intro n
 induction n with
 | zero=>intro W O X al ss η σ Q h; exact h.elim
 | succ n ih =>
  intro W O X al ss η σ Q h
  cases ss with
  | nil=>exact qo.of (cF.nil h)
  | cons st rest =>
   refine br h (λ _ h=>?_) λ h=>?_
   · refine aC h (λ p e h=>?_) λ _ h=>h.elim
     obtain ⟨pos,e⟩:=Hq e
     have c:=aB h
     have c1:=Bool.and_eq_true_iff.mp c.1
     rw [e,List.isEmpty_iff.mp c1.2]
     refine qo.if ((wj O (λ e σ Q=>c8 O 60 e η σ Q) _ _ _ _ c.2).mono λ c af q=>?_)
     obtain ⟨bc,e,q⟩:=q
     have q:=m6 q
     cases c with
     | true=>exact Bx O X c1.1 (q.1 e)
     | false=>exact ih W O X _ _ _ _ _ (q.2 e)
   · refine qo.pre (pre:=[st]) ((CA 60 W O _ _ _ _ _ h).mono λ fl η' σ' z=>?_)
     cases fl with
     | next=>exact ih W O X _ _ _ _ _ z.2
     | brk=>exact z.2
     | cont=>exact z.2
     | ret v=>exact z.2
theorem AH {W:Wl}:N8 (cg W d env):=⟨λ h q A s ρ hr hfr R F=>wpAny_mono (h A s ρ hr hfr R F) (λ f s' z=>z.mono λ _ _ _ z=>by
 obtain ⟨fl,η',F,r,y⟩:=z
 exact ⟨fl,η',F,r,q _ _ _ y⟩) λ _ _ x=>x,λ h=>cg.of (cF.nil h)⟩
theorem cg.nd {W:Wl} {sts:List Stmt} {η:En} {σ:List AO} {Q:Fl→En→List AO→Prop} (h:(η.map (·.1)).Nodup→cg W d env sts η σ Q):cg W d env sts η σ Q:=λ A s ρ hr hfr R F=>h F.ok.nd A s ρ hr hfr R F
theorem Oh (hf:env.frame=some env.locals):∀ n:Nat,N7 (λ W=>cg W d env) (xF d env T sp n):=by
 intro n
 induction n with
 | zero=>intro W O al ss η σ Q h; exact h.elim
 | succ n ih =>
  intro W O al ss η σ Q h
  cases ss with
  | nil=>exact cg.of (cF.nil ⟨Ag.refl _,h⟩)
  | cons st rest =>
   refine br h (λ _ h=>?_) λ h=>?_
   · cases st with
     | If t b o pos =>
      refine cg.if ((wj O (λ e σ Q=>c8 O 60 e η σ Q) _ _ _ _ h).mono λ c af q=>?_)
      obtain ⟨bc,e,q⟩:=q
      have q:=m6 q
      cases c with
      | true=>exact AH.mono (ih W O _ _ _ _ _ (q.1 e)) λ fl η' σ' z=>Bv (B:=λ W=>cg W d env) AH ih O z.1 z.2
      | false=>exact AH.mono (ih W O _ _ _ _ _ (q.2 e)) λ fl η' σ' z=>Bv (B:=λ W=>cg W d env) AH ih O z.1 z.2
     | For t it b o pos =>
      refine aC h (λ la _ h=>?_) λ _ h=>h.elim
      have c:=aB h
      have c1:=Bool.and_eq_true_iff.mp c.1
      have Oa:=Bool.and_eq_true_iff.mp c1.1
      have ho:o=[]:=List.isEmpty_iff.mp Oa.1
      subst ho
      exact cg.nd λ nd=>cg.for (Cz nd (c8 O 60 it η σ _ c.2)) (AF (B:=λ W=>cg W d env) AH ih O nd (zx Oa.2)) (vJ c1.2)
     | Assign ts e pos =>
      refine aC h (λ t e1 h=>?_) λ _ h=>h.elim
      refine aC h (λ y e2 h=>?_) λ _ h=>h.elim
      refine aC h (λ p e3 h=>?_) λ _ h=>h.elim
      refine aC h (λ x e4 h=>?_) λ _ h=>h.elim
      refine aC h (λ a e5 h7=>?_) λ _ h=>h.elim
      have et:=zq e1
      obtain ⟨py,ey⟩:=o8 e2
      obtain ⟨cp,ec⟩:=sW e3
      obtain ⟨fp,ef⟩:=o8 e4
      obtain ⟨v,e6,e7⟩:=Option.bind_eq_some_iff.mp e5
      have ev:=zu e7
      obtain ⟨f,as⟩:=p
      dsimp only at ef
      subst et ey ec ef ev
      have c:=aB h7
      have c1:=Bool.and_eq_true_iff.mp c.1
      have c2:=Bool.and_eq_true_iff.mp c1.1
      refine cg.told O (bL e6) (Az c2.1) c2.2 hf (lC c1.2) ((tR (λ e σ Q=>c8 O 60 e η σ Q) _ _ _ c2.2 c.2).mono λ as af q=>?_)
      intro A s ρ v vs hr hfr Fl R hv hvs
      refine codeAny_mono (q A s ρ v vs hr hfr Fl R hv hvs) λ r s' z=>?_
      cases r with
      | error e=>exact z
      | ok f=>cases f with
       | ret w =>
        refine Post.mono z λ _ _ _ z=>⟨z.1,?_⟩
        obtain ⟨av,va,q⟩:=z.2
        obtain ⟨η',u,a,q⟩:=tu q
        exact ⟨av,va,η',u,AH.mono (ih W O _ _ _ _ _ q) λ fl η₂ ai z=>⟨a.trans z.1,z.2⟩⟩
       | _=>exact z
     | _=>exact h.elim
   · exact cg.pre (pre:=[st]) ((CA 60 W O _ _ _ _ _ h).mono λ fl η' σ' z=>Bv (B:=λ W=>cg W d env) AH ih O z.1 z.2)
end
section
variable {W:Wl} {d:Nat} {T:Tab} {sp:List Nat} {σ:List AO}
def Oi (W:Wl) (d:Nat) (T:Tab) (sp:List Nat) (C:Addr) (L:Addr) (a:Addr) (as:List AV) (σ:List AO) (Q:AV→List AO→Prop) (E:List AO→Prop):Prop:=bG (fdOf W.K a) (λ p=>xR d (callEnvC p.1 L a) T sp C E 60 W (p.1.scope.names.map (·.1)) p.2 (wB W p.1.scope.names (yt W.K p.1 as)) σ (Fd Q)) False
theorem x7 {Q:AV→List AO→Prop} {fl:Fl} {η':En} {σ':List AO} (z:Fd Q fl η' σ'):Q fl.val σ':=by
 cases fl with
 | ret v=>exact z
 | next=>exact z
 | brk=>exact z.elim
 | cont=>exact z.elim
theorem qo.mono {env:Env} {η:En} {C:Addr} {sts:List Stmt} {Q Q':Fl→En→List AO→Prop} {E:List AO→Prop} (h:qo W d env C sts η σ Q E) (q:∀ fl η' σ',Q fl η' σ'→Q' fl η' σ'):qo W d env C sts η σ Q' E:=λ A s ρ hr R F =>
 wpAny_mono (h A s ρ hr R F) (λ f s' z=>z.mono λ _ _ _ z=>by
  obtain ⟨fl,η',F,r,y⟩:=z
  exact ⟨fl,η',F,r,q _ _ _ y⟩) λ _ _ x=>x
theorem oK.of (O:W.Ok) {a C:Addr} {l:List Env} {as:List AV} {Q:AV→List AO→Prop} {E:List AO→Prop} (X:x6 W C) (hc:xZ W.K as.length a=true) (hb:Bw as.length (bindL W.K a)=Bw as.length (bindR W.K a)) (h:∀ L,Oi W d T sp C L a as σ Q E):oK W (d+1) l C (.cst (.ref a)) as σ Q E:=by
 obtain ⟨fd,b,e,H⟩:=Pr hc hb
 obtain ⟨oc,od,osl,e1⟩:=H.look
 refine oK.fn O e1 H.body H.code H.ok H.bind H.Pq rfl λ L=>?_
 have hL:=h L
 unfold Oi at hL
 have hL:=Ho e hL
 exact (Og 60 W O X _ _ _ _ _ hL).mono λ fl η' σ' z=>x7 z
def CE (W:Wl) (d:Nat) (f:AV) (as:List AV) (σ:List AO) (Q:AV→List AO→Prop):Prop :=
 ∀ A s ρ v vs,Rm d A→A.frames=some []→aL W ρ σ s.heap→VR W.hid ρ s.heap f v→bh W.hid ρ s.heap as vs →
  codeAny W.M A (.call v ⟨vs,[]⟩) (λ r s'=>match r with | .ok (.ret v)=>Post W [] ρ s (QV W Q v) s' | .ok _=>False | .error e=>nD e s') s
def Oj (W:Wl) (d:Nat) (T:Tab) (sp:List Nat) (L:Addr) (a:Addr) (as:List AV) (σ:List AO) (Q:AV→List AO→Prop):Prop:=bG (fdOf W.K a) (λ p=>xF d (callEnvC p.1 L a) T sp 60 W (p.1.scope.names.map (·.1)) p.2 (wB W p.1.scope.names (yt W.K p.1 as)) σ (Fd Q)) False
theorem CE.of (O:W.Ok) {a:Addr} {as:List AV} {Q:AV→List AO→Prop} (hc:xZ W.K as.length a=true) (hb:Bw as.length (bindL W.K a)=Bw as.length (bindR W.K a)) (h:∀ L,Oj W d T sp L a as σ Q):CE W (d+1) (.cst (.ref a)) as σ Q:=λ A s ρ fv vs hr hfr R hf hv=>by
 obtain ⟨fd,b,e,H⟩:=Pr hc hb
 obtain ⟨oc,od,osl,e1⟩:=H.look
 refine VR.aX hf ?_
 refine vD O e1 H.body H.code H.ok H.bind H.Pq rfl hr R hv λ h₁ tk₁ hkeep hsz QC R₁ bq=>?_
 have hL:=h s.heap.objs.size
 unfold Oj at hL
 have hL:=Ho e hL
 have B:=AH.mono (Oh rfl 60 W O _ _ _ _ _ hL) λ fl η' σ' z=>x7 z.2
 refine codeAny_func (pA (B (A.deeper _) { s with heap:=h₁,toks:=tk₁ } ρ ⟨hr.handled,by have:=hr.depth; show A.depth+1+2*d+2<recursionLimit; lia,by have:=hr.units; show A.units+3+20*d+20<cLine; lia⟩ (Around.frames_deeper hfr) R₁ bq) λ f c7 z=>?_)
 obtain ⟨aF,aJ,δ₂,ai,oW,aN,aR,R₂,fl,η₂,F₂,fx,bF⟩:=z
 subst oW
 have zP:aH ([]++ρ) s.heap aF:=⟨Nat.le_trans hsz aN.size,λ b o e n=>aN.keep b o (hkeep b o e) λ m=>by
  rcases List.mem_append.mp m with m | m
  · exact absurd (Heap.lt_size e) (Nat.not_lt.mpr (QC b m))
  · exact n m⟩
 have fin:∀ (v:Value) (u:AV),VR W.hid (ρ++δ₂) aF u v→Q u ai→Post W [] ρ s (QV W Q v) { s with heap:=aF,toks:=aJ }:=λ v u z q =>
  ⟨aF,aJ,δ₂,ai,rfl,zP,λ b hb=>Nat.le_trans hsz (aR b hb),R₂,u,z,q⟩
 cases fx with
 | next=>exact fin _ _ .none bF
 | brk=>exact fin _ _ .none bF
 | cont=>exact fin _ _ .none bF
 | ret hv=>exact fin _ _ hv bF
end
noncomputable def K3 (s:Stmt):Option Expr:=if h:s.ctorIdx=3 then Stmt.Return.elim (motive_2:=λ _=>Option Expr) s h (λ v _=>v) else none
noncomputable def QD (c:Const):Option Unit:=if h:c.ctorIdx=0 then some () else none
noncomputable def K4 (e:Expr):Option Unit:=if h:e.ctorIdx=19 then Expr.Constant.elim (motive_1:=λ _=>Option Unit) e h (λ c _ _=>QD c) else none
noncomputable def Ol (s:Stmt):Option (Expr×Expr×Pos):=if h:s.ctorIdx=5 then Stmt.Assign.elim (motive_2:=λ _=>Option (Expr×Expr×Pos)) s h (λ ts e p=>(one? ts).bind λ t=>some (t,e,p)) else none
noncomputable def Om (e:Expr):Option (Expr×Str×Pos):=if h:e.ctorIdx=20 then Expr.Attribute.elim (motive_1:=λ _=>Option (Expr×Str×Pos)) e h (λ o x p=>some (o,x,p)) else none
noncomputable def TQ (t:Option Expr) (n:Option Str) (b:List Stmt):Option Str:=if n.isNone then (((AG b).bind K3).bind K4).bind λ _=>t.bind xS else none
noncomputable def Pu (h:ExceptHandler):Option Str:=ExceptHandler.casesOn (motive_4:=λ _=>Option Str) h λ t n b _=>TQ t n b
noncomputable def RZ (b:List Stmt) (hs:List ExceptHandler) (o f:List Stmt):Option (Stmt×Str):=if o.isEmpty&&f.isEmpty then (AG b).bind λ s=>((AG hs).bind Pu).bind λ x=>some (s,x) else none
noncomputable def R0 (s:Stmt):Option (Stmt×Str):=if h:s.ctorIdx=17 then Stmt.Try.elim (motive_2:=λ _=>Option (Stmt×Str)) s h (λ b hs o f _=>RZ b hs o f) else none
theorem Hu {s:Stmt} {e:Expr} (h:K3 s=some e):∃ p,s=.Return (some e) p:=by
 obtain ⟨hp,h⟩:=yh h
 exact Stmt.Return.elim (motive_2:=λ s=>∀ hp,Stmt.Return.elim (motive_2:=λ _=>Option Expr) s hp (λ v _=>v)=some e→∃ p,s=.Return (some e) p) s hp (λ v p _ h=>⟨p,congrArg (Stmt.Return · p) h⟩) hp h
theorem K5 {c:Const} {u:Unit} (h:QD c=some u):c=.none:=by
 obtain ⟨hp,h⟩:=yh h
 exact Const.none.elim (motive:=λ c=>c=.none) c hp rfl
theorem Hv {e:Expr} {u:Unit} (h:K4 e=some u):∃ k p,e=.Constant .none k p:=by
 obtain ⟨hp,h⟩:=yh h
 exact Expr.Constant.elim (motive_1:=λ e=>∀ hp,Expr.Constant.elim (motive_1:=λ _=>Option Unit) e hp (λ c _ _=>QD c)=some u→∃ k p,e=.Constant .none k p) e hp (λ c k p _ h=>⟨k,p,congrArg (Expr.Constant · k p) (K5 h)⟩) hp h
theorem Hw {s:Stmt} {r:Expr×Expr×Pos} (h:Ol s=some r):s=.Assign [r.1] r.2.1 r.2.2:=by
 obtain ⟨hp,h⟩:=yh h
 exact Stmt.Assign.elim (motive_2:=λ s=>∀ hp,Stmt.Assign.elim (motive_2:=λ _=>Option (Expr×Expr×Pos)) s hp (λ ts e p=>(one? ts).bind λ t=>some (t,e,p))=some r→s=.Assign [r.1] r.2.1 r.2.2) s hp (λ ts e p _ h=>by
  obtain ⟨t,h1,h2⟩:=Option.bind_eq_some_iff.mp h
  rw [zq h1,← Option.some.inj h2]) hp h
theorem Hx {e:Expr} {r:Expr×Str×Pos} (h:Om e=some r):e=.Attribute r.1 r.2.1 r.2.2:=by
 obtain ⟨hp,h⟩:=yh h
 exact Expr.Attribute.elim (motive_1:=λ e=>∀ hp,Expr.Attribute.elim (motive_1:=λ _=>Option (Expr×Str×Pos)) e hp (λ o x p=>some (o,x,p))=some r→e=.Attribute r.1 r.2.1 r.2.2) e hp (λ o x p _ h=>Option.some.inj h▸rfl) hp h
inductive QE (x:Str) (h:ExceptHandler):Prop
 | mk (np:Pos) (kk:Nat) (cp rp hp:Pos) (e:h=.ExceptHandler (some (.Name x np)) none [.Return (some (.Constant .none kk cp)) rp] hp):QE x h
theorem K6 {h:ExceptHandler} {x:Str} (e:Pu h=some x):QE x h :=
 ExceptHandler.casesOn (motive_4:=λ h=>Pu h=some x→QE x h) h (λ t n b hp e=>by
  cases n with
  | some _=>exact aP e
  | none =>
   obtain ⟨u,e1,e2⟩:=Option.bind_eq_some_iff.mp (show ((((AG b).bind K3).bind K4).bind λ _=>t.bind xS)=some x from e)
   obtain ⟨c,e3,e4⟩:=Option.bind_eq_some_iff.mp e1
   obtain ⟨r,e5,e6⟩:=Option.bind_eq_some_iff.mp e3
   obtain ⟨n,e7,e8⟩:=Option.bind_eq_some_iff.mp e2
   obtain ⟨np,e8⟩:=o8 e8
   obtain ⟨kk,cp,e4⟩:=Hv e4
   obtain ⟨rp,e6⟩:=Hu e6
   exact ⟨np,kk,cp,rp,hp,by rw [e7,e8,wQ e5,e6,e4]⟩) e
theorem K7 {st:Stmt} {r:Stmt×Str} (h:R0 st=some r):Pn r.1 r.2 st:=by
 obtain ⟨hp,h⟩:=yh h
 exact Stmt.Try.elim (motive_2:=λ st=>∀ hp,Stmt.Try.elim (motive_2:=λ _=>Option (Stmt×Str)) st hp (λ b hs o f _=>RZ b hs o f)=some r→Pn r.1 r.2 st) st hp (λ b hs o f tp _ h=>by
  cases o with
  | cons=>exact aP h
  | nil=>cases f with
   | cons=>exact aP h
   | nil =>
    obtain ⟨s,e1,h⟩:=Option.bind_eq_some_iff.mp (show ((AG b).bind λ s=>((AG hs).bind Pu).bind λ x=>some (s,x))=some r from h)
    obtain ⟨x,e2,h⟩:=Option.bind_eq_some_iff.mp h
    obtain ⟨hd,e3,e4⟩:=Option.bind_eq_some_iff.mp e2
    obtain ⟨np,kk,cp,rp,hp,e4⟩:=K6 e4
    exact ⟨np,kk,cp,rp,hp,tp,by rw [wQ e1,wQ e3,e4,← Option.some.inj h]⟩) hp h
def QG (W:Wl) (d:Nat) (T:Tab) (K:Kd) (C:Addr) (l:List Env) (al:List Str) (env:Env) (η:En) (rest:List Stmt) (σ:List AO) (Q:AV→List AO→Prop) (x:Str) (u:Expr×Expr×Pos) (y:Str) (g:Expr×List Expr) (o:Expr×Str×Pos):Prop :=
 oY (zz C (bW η x)&&(wh (swapsWith u.2.1 (some u.1) u.2.2.line env)&&(sU o.1&&((o.2.2.endLine==u.2.1.pos.line)&&(Nat.blt g.2.length 25&&g.2.all aK)))))
  (xE W d T 60 o.1 η σ λ v af=>EL W d v o.2.1 af λ f first ai=>GP (λ e σ Q=>xE W d T 60 e η σ Q) g.2 ai λ as' az=>oK W d (env :: l) C f (first++as') az
   (λ v aY=>dK K v λ v=>Bu al η y v λ η'=>xX d env T 60 W al rest η' aY (Fd Q)) (λ σ'=>Q .none σ'))
def K8 (W:Wl) (d:Nat) (T:Tab) (K:Kd) (C:Addr) (l:List Env) (L:Addr) (a:Addr) (as:List AV) (σ:List AO) (Q:AV→List AO→Prop):Prop:=bG (fdOf W.K a) (λ p=>bG (p.2.head?.bind R0) (λ q=>bG (Ol q.1) (λ u=>bG (xS u.1) (λ y=>bG (xQ u.2.1) (λ g=>bG (Om g.1) (λ o =>
 QG W d T K C l (p.1.scope.names.map (·.1)) (callEnvC p.1 L a) (wB W p.1.scope.names (yt W.K p.1 as)) p.2.tail σ Q q.2 u y g o) False) False) False) False) False) False
section
variable {W:Wl} {d:Nat} {T:Tab} {σ:List AO}
theorem oK.mono {l:List Env} {C:Addr} {f:AV} {as:List AV} {Q Q':AV→List AO→Prop} {E:List AO→Prop} (h:oK W d l C f as σ Q E) (q:∀ v σ',Q v σ'→Q' v σ'):oK W d l C f as σ Q' E:=λ A s ρ v vs hr hfr Fl R hf hv =>
 codeAny_mono (h A s ρ v vs hr hfr Fl R hf hv) λ r s' z=>by
  cases r with
  | ok fl=>cases fl with
   | ret w=>exact Post.mono z λ _ _ _ ⟨av,x,y⟩=>⟨av,x,q _ _ y⟩
   | _=>exact z
  | error e=>exact z
theorem Ff {α:Type} {l:List α} {a:α} (h:l.head? = some a):l=a :: l.tail:=by
 cases l with
 | nil=>exact aP h
 | cons b r=>exact congrArg (· :: r) (Option.some.inj h)
theorem yQ.Fg (O:W.Ok) {K:Kd} {a C L:Addr} {l:List Env} {as:List AV} {Q:AV→List AO→Prop} (X:x6 W C) (hc:xZ W.K as.length a=true) (hb:Bw as.length (bindL W.K a)=Bw as.length (bindR W.K a)) (h:K8 W d T K C l L a as σ Q):yQ W (d+1) l L (.cst (.ref a)) as σ Q:=by
 obtain ⟨fd,b,e,H⟩:=Pr hc hb
 obtain ⟨oc,od,osl,e1⟩:=H.look
 unfold K8 at h
 have h:=Ho e h
 refine aC h (λ q e2 h=>?_) λ _ h=>h.elim
 refine aC h (λ u e3 h=>?_) λ _ h=>h.elim
 refine aC h (λ y e4 h=>?_) λ _ h=>h.elim
 refine aC h (λ g e5 h=>?_) λ _ h=>h.elim
 refine aC h (λ o e6 h=>?_) λ _ h=>h.elim
 obtain ⟨st,e7,e8⟩:=Option.bind_eq_some_iff.mp e2
 obtain ⟨py,e4⟩:=o8 e4
 obtain ⟨cpos,e5⟩:=sW e5
 obtain ⟨c,h⟩:=aB h
 obtain ⟨c1,c⟩:=Bool.and_eq_true_iff.mp c
 obtain ⟨c2,c⟩:=Bool.and_eq_true_iff.mp c
 obtain ⟨c3,c⟩:=Bool.and_eq_true_iff.mp c
 obtain ⟨c4,c⟩:=Bool.and_eq_true_iff.mp c
 obtain ⟨c5,c6⟩:=Bool.and_eq_true_iff.mp c
 rw [e5] at c4
 obtain ⟨Fn,hBn,Fb,hbase,hni,hC,hN,hT⟩:=X
 exact yQ.try O hC hbase e1 (H.body.trans (congrArg _ (Ff e7))) (K7 e8) (Hw e3) e4 e5 (Hx e6) H.code H.ok H.bind H.Pq rfl (bL (yT c1)) (lC c2) (qK c3) c4 c6 (Nat.lt_of_succ_le (Nat.le_of_ble_eq_true c5)) (E:=λ σ'=>Q .none σ')
  ((c8 O 60 o.1 _ σ _ h).mono λ v af q=>(AB O q).mono λ f first ai q=>(tR (λ e σ Q=>c8 O 60 e _ σ Q) _ _ _ c6 q).mono λ as' az q=>oK.mono q λ v aY q=>by
   obtain ⟨η',u,_,z⟩:=tu (sJ (k:=λ v=>Bu _ _ _ v _) q)
   exact ⟨η',u,(CA 60 W O _ _ _ _ _ z).mono λ fl η' σ' z=>x7 z.2⟩) λ _ q=>q
theorem xO.Fg (O:W.Ok) {K:Kd} {a C:Addr} {l:List Env} {as:List AV} {Q:AV→List AO→Prop} (X:x6 W C) (hc:xZ W.K as.length a=true) (hb:Bw as.length (bindL W.K a)=Bw as.length (bindR W.K a)) (h:∀ L,K8 W d T K C l L a as σ Q):xO W (d+1) l (.cst (.ref a)) as σ Q :=
 λ A s ρ v vs hr hfr Fl R hf hv=>yQ.Fg O X hc hb (h _) A s ρ v vs hr hfr Fl R hf hv rfl
end
noncomputable def Fi:AV→Option PyData
 | .none=>some .none
 | .bool b=>some (.bool b)
 | .int i=>some (.int i)
 | _=>none
noncomputable def zA (f:AV→Option PyData):List AV→Option (List PyData)
 | []=>some []
 | a :: r=>(match f a with
  | some d=>(match zA f r with
   | some ds=>some (d :: ds)
   | none=>none)
  | none=>none)
noncomputable def Hy:AV→Option PyData
 | .tup vs=>(match zA Fi vs with
  | some ds=>some (.tuple ds)
  | none=>none)
 | a=>Fi a
noncomputable def Di (σ:List AO):AV→Option PyData
 | .lst n=>(match σ[n]? with
  | some (.lst xs)=>(match zA Hy xs with
   | some ds=>some (.list ds)
   | none=>none)
  | _=>none)
 | a=>Hy a
theorem Fj {X ρ:List Addr} {h:Heap} {a:AV} {v:Value} {d:PyData} (hv:VR X ρ h a v) (e:Fi a=some d):∃ as,Reads h v d as:=by
 cases hv<;>first | ((first | exact aP e | refine sE e ?_); exact ⟨_,.none⟩) | ((first | exact aP e | refine sE e ?_); exact ⟨_,.bool _⟩) | ((first | exact aP e | refine sE e ?_); exact ⟨_,.int _ _⟩) | exact aP e
theorem Fo {X ρ:List Addr} {h:Heap} {f:AV→Option PyData} (hf:∀ {a v d},VR X ρ h a v→f a=some d→∃ as,Reads h v d as) (l:List AV):∀ {vs:List Value} {ds:List PyData},bh X ρ h l vs→zA f l=some ds→∃ as,ReadsAll h vs ds as:=by
 induction l with
 | nil=>intro vs ds hv e; refine bh.aW hv ?_; refine sE e ?_; exact ⟨_,.nil⟩
 | cons a r ih =>
  intro vs ds hv e
  refine hv.aq λ _ _ h1 h2=>?_
  have e:(match f a with | some d=>(match zA f r with | some ds=>some (d :: ds) | none=>none) | none=>none)=some ds:=e
  cases e1:f a with
  | none=>rw [e1] at e; exact aP e
  | some d =>
   rw [e1] at e
   cases e2:zA f r with
   | none=>rw [e2] at e; exact aP e
   | some ds' =>
    rw [e2] at e
    refine sE e ?_
    obtain ⟨as,x⟩:=hf h1 e1
    obtain ⟨bs,y⟩:=ih h2 e2
    exact ⟨_,.cons x y⟩
theorem Fp {X ρ:List Addr} {h:Heap} {a:AV} {v:Value} {d:PyData} (hv:VR X ρ h a v) (e:Hy a=some d):∃ as,Reads h v d as:=by
 cases a with
 | tup vs =>
  have e:(match zA Fi vs with | some ds=>some (PyData.tuple ds) | none=>none)=some d:=e
  cases e1:zA Fi vs with
  | none=>rw [e1] at e; exact aP e
  | some ds =>
   rw [e1] at e; refine sE e ?_
   refine hv.Ce λ _ _ _ g hx hvs=>?_
   obtain ⟨as,y⟩:=Fo (λ hv e=>Fj hv e) vs hvs e1
   exact ⟨_,.tuple g rfl rfl (by simpa using y)⟩
 | _=>exact Fj hv e
section
variable {W:Wl} {d:Nat} {env:Env} {η:En} {σ:List AO}
theorem zB {ρ:List Addr} {h:Heap} (R:aL W ρ σ h) {a:AV} {v:Value} {x:PyData} (hv:VR W.hid ρ h a v) (e:Di σ a=some x):∃ as,Reads h v x as:=by
 cases a with
 | lst n =>
  unfold Di at e
  dsimp only at e
  refine hv.sD λ ad ea=>?_
  cases e0:σ[n]? with
  | none=>rw [e0] at e; exact aP e
  | some o =>
   rw [e0] at e
   cases o with
   | lst xs =>
    dsimp only at e
    cases e1:zA Hy xs with
    | none=>rw [e1] at e; exact aP e
    | some ds =>
     rw [e1] at e; refine sE e ?_
     obtain ⟨ws,m,g,vs⟩:=aZ R e0 ea
     obtain ⟨as,y⟩:=Fo (λ hv e=>Fp hv e) xs vs e1
     exact ⟨_,.list g rfl rfl (by simpa using y)⟩
   | _=>exact aP e
 | _=>exact Fp hv e
theorem aA.TR (hd:3≤d) {a b:AV} {x y:PyData} {Q:AV→List AO→Prop} (ha:Di σ a=some x) (hb:Di σ b=some y) (hs:(PySem.SeqAt.shaped x&&PySem.SeqAt.shaped y)=true) (q:Q (.bool (PyData.eqv x y)) σ):aA W d .Eq a b σ Q:=λ A s ρ vs hr R hv=>by
 refine hv.aq λ _ _ h1 hv=>?_
 refine hv.aq λ _ _ h2 hv=>?_
 refine bh.aW hv ?_
 obtain ⟨as,r1⟩:=zB R h1 ha
 obtain ⟨bs,r2⟩:=zB R h2 hb
 rw [Bool.and_eq_true] at hs
 exact eq_dataH r1 r2 hs.1 hs.2 (by have:=hr.units; lia) (Post.here R ⟨_,.bool _,q⟩ s.toks)
theorem aA.QH (hd:3≤d) {a b:AV} {x y:PyData} {Q:AV→List AO→Prop} (ha:Di σ a=some x) (hb:Di σ b=some y) (hs:(PySem.SeqAt.shaped x&&PySem.SeqAt.shaped y)=true) (q:Q (.bool (!PyData.eqv x y)) σ):aA W d .NotEq a b σ Q:=λ A s ρ vs hr R hv=>by
 refine hv.aq λ _ _ h1 hv=>?_
 refine hv.aq λ _ _ h2 hv=>?_
 refine bh.aW hv ?_
 obtain ⟨as,r1⟩:=zB R h1 ha
 obtain ⟨bs,r2⟩:=zB R h2 hb
 rw [Bool.and_eq_true] at hs
 exact ne_dataH r1 r2 hs.1 hs.2 (by have:=hr.units; lia) (Post.here R ⟨_,.bool _,q⟩ s.toks)
end
open PySem PySem.W
def bN (k:Nat) (x:Int):Prop:=x.natAbs≤k
theorem bN.add {k m:Nat} {x y:Int} (h:bN k x) (h':bN m y):bN (k+m) (x+y):=Nat.le_trans (Int.natAbs_add_le x y) (Nat.add_le_add h h')
theorem bN.neg {k:Nat} {x:Int} (h:bN k x):bN k (-x):=by unfold bN; rw [Int.natAbs_neg]; exact h
theorem bN.sub {k m:Nat} {x y:Int} (h:bN k x) (h':bN m y):bN (k+m) (x-y):=by rw [Int.sub_eq_add_neg]; exact h.add h'.neg
theorem bN.mul {k m:Nat} {x y:Int} (h:bN k x) (h':bN m y):bN (k*m) (x*y):=by unfold bN; rw [Int.natAbs_mul]; exact Nat.mul_le_mul h h'
theorem bN.sq {k:Nat} {x:Int} (h:bN k x):bN (k*k) (x^(2:Int).toNat):=by
 have e:x^(2:Int).toNat=x*x:=by show x^2=x*x; rw [Int.pow_succ,Int.pow_succ,Int.pow_zero,Int.one_mul]
 rw [e]; exact h.mul h
theorem bN.mod {p r:Int} {k:Nat} (l:0≤r) (u:r<p) (hp:p≤k):bN k r:=by unfold bN; exact Lq.ab l (Lq.w (Lq.sl u hp))
theorem bN.small {k:Nat} {x:Int} (h:bN k x) (hk:Nat.ble k 1152921504606846976=true):aa x:=by
 have:=Nat.le_of_ble_eq_true hk
 unfold bN at h; unfold aa; omega
section
variable {W:Wl} {d:Nat} {σ:List AO}
noncomputable def Oo (d:Data):Option (Array Value):=if h:d.ctorIdx=2 then Data.seq.elim (motive:=λ _=>Option (Array Value)) d h λ xs _=>some xs else none
theorem Hz {d:Data} {xs:Array Value} (h:Oo d=some xs):∃ n,d=.seq xs n:=by
 obtain ⟨hp,h⟩:=yh h
 exact Data.seq.elim (motive:=λ d=>∀ hp,Data.seq.elim (motive:=λ _=>Option (Array Value)) d hp (λ xs _=>some xs)=some xs→∃ n,d=.seq xs n) d hp (λ _ n _ h=>⟨n,congrArg (Data.seq · n) (Option.some.inj h)⟩) hp h
noncomputable def AI (K:Frag) (x:Addr):Option (List Value):=(K.lookup x).bind λ o=>(Oo o.data).bind λ xs=>if o.cls==.type "tuple" then some xs.toList else none
theorem Fq {K:Frag} {x:Addr} {vs:List Value} (hk:AI K x=some vs):∃ ob xs n,K.lookup x=some ob∧ob.cls=.type "tuple" ∧ ob.data=.seq xs n∧xs.toList=vs:=by
 obtain ⟨ob,e,hk⟩:=cB hk
 obtain ⟨xs,ed,hk⟩:=cB hk
 obtain ⟨ec,hk⟩:=J4 hk
 obtain ⟨n,ed⟩:=Hz ed
 exact ⟨ob,xs,n,e,beq_iff_eq.mp ec,ed,hk⟩
theorem mZ.Oq (O:W.Ok) {x:Addr} {vs:List Value} {k:Int} {v:Value} {Q:AV→List AO→Prop} (hk:AI W.K x=some vs) (h0:0≤k) (hx:vs[k.toNat]? = some v) (hz:k<1000000) (q:Q (xM v) σ):mZ W d (.cst (.ref x)) (.int k) σ Q:=λ A s ρ o i value slice hr R hv hi hs=>by
 refine VR.aX hv ?_
 refine hi.cC λ t=>?_
 obtain ⟨ob,xs,n,e,ec,ed,hk⟩:=Fq hk
 subst hk
 have ht:IsTup s.heap x xs:=⟨_,R.tB O _ _ e,ec,n,ed⟩
 have hx':xs[k.toNat]? = some v:=by simpa using hx
 refine subscriptTail_builtinR (x:=v) ht.typeIs slot_tuple_getitem.lookup (getItem_tuple (j:=k.toNat) ht (by omega) (by omega) ?_ hx' ⟨rfl,Post.here R ⟨_,Co v,q⟩ s.toks⟩) (hs _ _)
 have hl:k.toNat<xs.size:=(Array.getElem?_eq_some_iff.mp hx').1
 unfold seqIndex?
 simp only [if_neg (Int.not_lt.mpr h0)]
 refine if_pos ?_
 simp only [Bool.and_eq_true,decide_eq_true_eq]
 omega
end
end JL
namespace JL
open PySem PySem.W PySem.Calls PyProof.Rows EC
set_option maxHeartbeats 400000
set_option linter.unusedSimpArgs false
noncomputable section
noncomputable abbrev tK:Addr:=21
noncomputable abbrev oO:Addr:=36
noncomputable abbrev qp:Addr:=43
noncomputable abbrev qq:Addr:=50
noncomputable abbrev AJ:Addr:=57
noncomputable abbrev AK:Addr:=64
noncomputable abbrev tS:Addr:=78
noncomputable abbrev pF:Addr:=85
noncomputable abbrev bH:Addr:=131
noncomputable abbrev kI:Addr:=138
noncomputable abbrev lD:Addr:=145
noncomputable abbrev tD:Addr:=159
noncomputable abbrev tE:Addr:=166
noncomputable abbrev m7:Addr:=173
noncomputable abbrev qU:Addr:=180
noncomputable abbrev nq:Addr:=187
noncomputable abbrev kQ:Addr:=212
noncomputable abbrev qV:Addr:=219
noncomputable abbrev sL:Addr:=226
noncomputable abbrev nA:Addr:=233
noncomputable abbrev m8:Addr:=240
noncomputable abbrev m9:Addr:=247
noncomputable abbrev nc:Addr:=254
noncomputable abbrev ku:Addr:=261
noncomputable abbrev oR:Addr:=268
noncomputable abbrev aV:Addr:=275
noncomputable abbrev kB:Addr:=282
noncomputable abbrev lE:Addr:=289
noncomputable abbrev cy:Addr:=296
noncomputable abbrev qW:Addr:=303
noncomputable abbrev oS:Addr:=337
noncomputable abbrev cj:Addr:=358
noncomputable abbrev lF:Addr:=455
noncomputable abbrev kJ:Addr:=477
noncomputable abbrev kL:Addr:=498
noncomputable abbrev kC:Addr:=519
noncomputable abbrev oU:Addr:=540
noncomputable abbrev zC:Addr:=553
noncomputable abbrev o9:Addr:=560
noncomputable abbrev zD:Addr:=567
noncomputable abbrev yu:Addr:=574
noncomputable abbrev oV:Addr:=581
noncomputable abbrev cS:Addr:=588
noncomputable abbrev qL:Addr:=595
noncomputable abbrev zE:Addr:=602
noncomputable abbrev zF:Addr:=609
noncomputable abbrev vU:Addr:=614
noncomputable abbrev yv:Addr:=621
noncomputable abbrev AL:Addr:=628
noncomputable abbrev zG:Addr:=642
noncomputable abbrev wm:Addr:=649
noncomputable abbrev By:Addr:=656
noncomputable abbrev BA:Addr:=663
noncomputable abbrev yw:Addr:=670
noncomputable abbrev pG:Addr:=677
noncomputable abbrev AM:Addr:=684
noncomputable abbrev kD:Addr:=691
noncomputable abbrev CF:Addr:=696
noncomputable abbrev aE:Addr:=88
noncomputable abbrev aj:Addr:=313
noncomputable abbrev qM:Addr:=410
noncomputable abbrev bK:Addr:=425
noncomputable abbrev bg:Addr:=458
noncomputable abbrev ak:Addr:=501
noncomputable abbrev bR:Addr:=543
noncomputable abbrev iM:Addr:=414
noncomputable abbrev x8:Addr:=548
noncomputable abbrev I9:List (Addr×Addr×Nat×Nat):=[]
structure Bs where
 w:PySem.World
 hb:Heap
 mg:Str→Option Value
 mb:Str→Option Value
 hid:List Addr
noncomputable abbrev U (b:Bs):Wl:=⟨pw,b.w,K0 b.w.params,b.hb,b.mg,b.mb,b.hid,I9⟩
noncomputable def nh (p a b:Int):List (Str×AV):=[("_CurveFp__p",.int p),("_CurveFp__a",.int a),("_CurveFp__b",.int b),("_CurveFp__h",.none)]
noncomputable def q8 (c:Nat) (x y z:Int) (o:AV) (g:Bool) (k:Nat):List (Str×AV):=[("_PointJacobi__curve",.inst aE c),("_PointJacobi__coords",.tup [.int x,.int y,.int z]),("_PointJacobi__order",o),("_PointJacobi__generator",.bool g),("_PointJacobi__precompute",.lst k)]
section
variable {σ:List AO} {n c k:Nat} {x y z p a b:Int} {o:AV} {g:Bool} {K:AV→Prop} {fs:List (Str×AV)} {name:Str}
theorem bA (h:σ[n]? = some (.inst fs)) (e:fs.lookup name=none):aD n name σ:=⟨fs,h,e⟩
theorem fP (h:σ[n]? = some (.inst (nh p a b))) (q:K (.int p)):aO n "_CurveFp__p" σ K:=⟨_,_,h,by kernel_rfl,rfl,q⟩
theorem fA (h:σ[n]? = some (.inst (nh p a b))) (q:K (.int a)):aO n "_CurveFp__a" σ K:=⟨_,_,h,by kernel_rfl,rfl,q⟩
theorem fB (h:σ[n]? = some (.inst (nh p a b))) (q:K (.int b)):aO n "_CurveFp__b" σ K:=⟨_,_,h,by kernel_rfl,rfl,q⟩
theorem fH (h:σ[n]? = some (.inst (nh p a b))) (q:K .none):aO n "_CurveFp__h" σ K:=⟨_,_,h,by kernel_rfl,rfl,q⟩
theorem zW (h:σ[n]? = some (.inst (q8 c x y z o g k))) (q:K (.inst aE c)):aO n "_PointJacobi__curve" σ K:=⟨_,_,h,by kernel_rfl,rfl,q⟩
theorem HA (h:σ[n]? = some (.inst (q8 c x y z o g k))) (q:K (.tup [.int x,.int y,.int z])):aO n "_PointJacobi__coords" σ K:=⟨_,_,h,by kernel_rfl,rfl,q⟩
theorem K9 (h:σ[n]? = some (.inst (q8 c x y z o g k))) (ho:ki o=true) (q:K o):aO n "_PointJacobi__order" σ K:=⟨_,_,h,by kernel_rfl,ho,q⟩
theorem TS (h:σ[n]? = some (.inst (q8 c x y z o g k))) (q:K (.bool g)):aO n "_PointJacobi__generator" σ K:=⟨_,_,h,by kernel_rfl,rfl,q⟩
theorem Ot (h:σ[n]? = some (.inst (q8 c x y z o g k))) (q:K (.lst k)):aO n "_PointJacobi__precompute" σ K:=⟨_,_,h,by kernel_rfl,rfl,q⟩
theorem nB (σ:List AO) (o o':AO):(σ++[o]).set σ.length o'=σ++[o']:=by rw [List.set_append_right _ _ (Nat.le_refl _),Nat.sub_self]; rfl
theorem getLast (σ:List AO) (o:AO):(σ++[o])[σ.length]? = some o:=by rw [List.getElem?_append_right (Nat.le_refl _),Nat.sub_self]; rfl
theorem bw {σ:List AO} {n:Nat} {o:AO} (h:σ[n]? = some o) (δ:List AO):(σ++δ)[n]? = some o:=by rw [List.getElem?_append_left (List.getElem?_eq_some_iff.mp h).1]; exact h
end
theorem bN.num (n:Nat):bN n (@OfNat.ofNat Int n (@instOfNat n)):=Nat.le_refl _
theorem bN.tw {x:Int} {k:Nat} (h0:0≤x) (h1:x≤k):bN k x:=by unfold bN; omega
theorem HB {σ:List AO} {n:Nat} {o:AO} (h:σ[n]? = some o):σ.set n o=σ:=by
 apply List.ext_getElem?
 intro i
 rw [List.getElem?_set]
 by_cases e:n=i
 · subst e
   rw [if_pos rfl,if_pos (List.getElem?_eq_some_iff.mp h).1,h]
 · rw [if_neg e]
theorem getSet {σ:List AO} {n:Nat} {o o':AO} (h:σ[n]? = some o):(σ.set n o')[n]? = some o':=by rw [List.getElem?_set_self (List.getElem?_eq_some_iff.mp h).1]
theorem bB {σ:List AO} {n m:Nat} {o o':AO} (h:σ[m]? = some o) (hn:n≠m):(σ.set n o')[m]? = some o:=by rw [List.getElem?_set_ne hn]; exact h
theorem iS (σ:List AO) (n:Nat) (o o':AO):(σ.set n o).set n o'=σ.set n o':=List.set_set ..
theorem Ft {σ:List AO} {n:Nat} {o:AO} (h:σ[n]? = some o) (δ:List AO) (o':AO):(σ++δ).set n o'=σ.set n o'++δ:=List.set_append_left _ _ (List.getElem?_eq_some_iff.mp h).1
theorem bM {x:Str} {v:AV} {fs:List (Str×AV)} {k:Nat} (h:fs.length≤k):(aI x v fs).length≤k+1:=Nat.le_trans (AE x v fs) (Nat.succ_le_succ h)
noncomputable def T0:Tab where
 attr x:=(([("curve",(.inst 88)),("generator",(.inst 313)),("point",(.inst 313)),("r",.int),("s",.int),("public_key",(.inst 501)),("secret_multiplier",.int),("_PointJacobi__coords",.qJ),("_PointJacobi__curve",(.inst 88)),("_PointJacobi__generator",.bool),("_PointJacobi__precompute",.lst),("_CurveFp__p",.int),("_CurveFp__a",.int),("_CurveFp__b",.int),("_Point__curve",(.inst 88)),("_Point__x",.int),("_Point__y",.int)]:List (Str×Kd)).lookup x).getD .any
 callee a:=(([(159,.int),(498,.bool),(649,.int),(656,(.inst 501)),(663,.any),(684,.bool),(691,.bool),(642,.any),(540,(.inst 458)),(677,.any),(78,.EG),(21,.int),(43,.bool),(50,.bool),(57,.int),(64,.int),(71,.int),(85,.bool),(106,.lst),(145,.bool),(152,.bool),(166,(.inst 88)),(173,.int),(180,.int),(187,(.inst 313)),(202,(.inst 313)),(212,.qJ),(219,.qJ),(233,.qJ),(240,.qJ),(247,.qJ),(254,.qJ),(268,.qJ),(337,.bool),(344,.bool),(386,.int),(393,.int),(400,(.inst 88)),(560,.int),(567,.qJ),(574,.lst),(581,.int),(609,.int),(621,.int),(628,(.inst 313)),(553,.lst),(670,.int),(614,.EF),(88,(.inst 88)),(112,(.inst 112)),(313,(.inst 313)),(410,(.inst 410)),(425,(.inst 425)),(438,(.inst 438)),(458,(.inst 458)),(501,(.inst 501)),(543,(.inst 543))]:List (Nat×Kd)).lookup a).getD .any
 spot l c e:=(([((579,17,23),(.inst 313)),((581,17,23),(.inst 313)),((553,17,46),(.inst 313)),((744,18,23),(.zU 88)),((714,11,22),.tC),((754,16,35),.tC),((747,41,54),.int),((748,35,43),.int),((755,29,37),.int),((748,26,33),(.inst 501)),((736,35,43),.int),((738,27,35),.int),((738,79,87),.int),((738,37,44),(.inst 501)),((738,89,96),(.inst 501)),((664,16,56),.tC),((592,12,47),.int),((599,11,20),.int),((601,8,17),.int),((597,12,20),.lst),((598,9,17),.int),((603,4,12),.int),((603,15,23),.int),((604,31,39),.int),((605,32,40),.int),((608,8,41),.int),((619,24,45),.lst),((622,17,59),.lst),((85,22,38),(.inst 313))]:List ((Nat×Nat×Nat)×Kd)).lookup (l,c,e))
 rel l c e:=([(293,15,27),(728,11,22),(728,26,81),(742,7,20),(758,19,35),(760,17,31),(529,58,67),(529,58,79),(579,17,23),(581,17,23),(348,19,54),(365,19,54),(657,11,24)]:List (Nat×Nat×Nat)).contains (l,c,e)
 loop l:=([(749,[("value",none),("nonce",none),("r",none),("s",none),("told",none)],.any),
  (7,[("found",some .int),("before",some .int),("rest",some .int),("divisor",some .int),("share",none)],.any),
  (51,[("mult",some .int),("nd",none)],.any),
  (83,[("i",some .int),("doubler",some (.inst 313))],.any),
  (298,[("other",some .int),("X3",some .int),("Y3",some .int),("Z3",some .int)],.tC),
  (648,[("number",some .int),("total",some .any),("point",some .any)],.any),
  (656,[("total",some .any),("count",some .int)],.any),
  (611,[("b",some .int)],.any),
  (663,[("point",none),("order",none),("rest",none),("k",none),("best",none),("factor",none)],.any),
  (667,[("rest",some .int)],.any),
  (671,[("best",some .int)],.any),
  (617,[("square",none)],.any),
  (621,[("y",none)],.any),
  (622,[],.int),
  (328,[("X3",some .int),("Y3",some .int),("Z3",some .int)],.int),
  (696,[],.int),
  (731,[("hashed",none)],(.inst 501)),
  (732,[],.int),
  (735,[],.int),
  (372,[("X3",some .int),("Y3",some .int),("Z3",some .int)],.int)]:List (Nat×LA×Kd)).lookup l
noncomputable def LN:Tab:={ T0 with spot:=λ l c e=>match ([((434,11,28),.yes)]:List ((Nat×Nat×Nat)×Kd)).lookup (l,c,e) with | some k=>some k | none=>T0.spot l c e,rel:=λ l c e=>([(434,11,28)]:List (Nat×Nat×Nat)).contains (l,c,e)||T0.rel l c e }
noncomputable def Fv:Tab:={ T0 with spot:=λ l c e=>match ([((276,11,27),.no),((278,11,28),.yes)]:List ((Nat×Nat×Nat)×Kd)).lookup (l,c,e) with | some k=>some k | none=>T0.spot l c e,rel:=λ l c e=>([(276,11,27),(278,11,28)]:List (Nat×Nat×Nat)).contains (l,c,e)||T0.rel l c e }
noncomputable def HC:Tab:={ T0 with spot:=λ l c e=>match ([((276,11,27),.no),((278,11,28),.no),((282,11,40),.no)]:List ((Nat×Nat×Nat)×Kd)).lookup (l,c,e) with | some k=>some k | none=>T0.spot l c e,rel:=λ l c e=>([(276,11,27),(278,11,28),(282,11,40)]:List (Nat×Nat×Nat)).contains (l,c,e)||T0.rel l c e }
noncomputable def Ou:Tab:={ T0 with attr:=λ x=>match ([("_PointJacobi__order",.int)]:List (Str×Kd)).lookup x with | some k=>k | none=>T0.attr x,spot:=λ l c e=>match ([((317,11,23),.yes),((318,29,41),.yes),((336,53,65),.yes)]:List ((Nat×Nat×Nat)×Kd)).lookup (l,c,e) with | some k=>some k | none=>T0.spot l c e,rel:=λ l c e=>([(317,11,23),(318,29,41),(336,53,65)]:List (Nat×Nat×Nat)).contains (l,c,e)||T0.rel l c e }
noncomputable def HD:Tab:={ T0 with attr:=λ x=>match ([("_PointJacobi__order",.int)]:List (Str×Kd)).lookup x with | some k=>k | none=>T0.attr x,spot:=λ l c e=>match ([]:List ((Nat×Nat×Nat)×Kd)).lookup (l,c,e) with | some k=>some k | none=>T0.spot l c e,rel:=λ l c e=>([]:List (Nat×Nat×Nat)).contains (l,c,e)||T0.rel l c e }
noncomputable def Dj:Tab:={ T0 with spot:=λ l c e=>match ([((434,11,28),.yes)]:List ((Nat×Nat×Nat)×Kd)).lookup (l,c,e) with | some k=>some k | none=>T0.spot l c e,rel:=λ l c e=>([(434,11,28)]:List (Nat×Nat×Nat)).contains (l,c,e)||T0.rel l c e }
noncomputable def HE:Tab:={ T0 with spot:=λ l c e=>match ([((634,7,17),.bool)]:List ((Nat×Nat×Nat)×Kd)).lookup (l,c,e) with | some k=>some k | none=>T0.spot l c e,rel:=λ l c e=>([(634,7,17)]:List (Nat×Nat×Nat)).contains (l,c,e)||T0.rel l c e }
noncomputable def Fw:Tab:={ T0 with spot:=λ l c e=>match ([((529,22,48),.yes)]:List ((Nat×Nat×Nat)×Kd)).lookup (l,c,e) with | some k=>some k | none=>T0.spot l c e,rel:=λ l c e=>([(529,22,48)]:List (Nat×Nat×Nat)).contains (l,c,e)||T0.rel l c e }
noncomputable def La:Tab:={ T0 with spot:=λ l c e=>match ([((703,40,47),.tC),((704,36,47),.tC)]:List ((Nat×Nat×Nat)×Kd)).lookup (l,c,e) with | some k=>some k | none=>T0.spot l c e,rel:=λ l c e=>([(703,40,47),(704,36,47)]:List (Nat×Nat×Nat)).contains (l,c,e)||T0.rel l c e }
noncomputable def Dk:Tab:={ T0 with attr:=λ x=>match ([("_PointJacobi__order",.int)]:List (Str×Kd)).lookup x with | some k=>k | none=>T0.attr x,spot:=λ l c e=>match ([((339,11,28),.no),((347,11,28),.yes),((347,33,51),.yes)]:List ((Nat×Nat×Nat)×Kd)).lookup (l,c,e) with | some k=>some k | none=>T0.spot l c e,rel:=λ l c e=>([(339,11,28),(347,11,28),(347,33,51)]:List (Nat×Nat×Nat)).contains (l,c,e)||T0.rel l c e }
end
local macro_rules | `(tactic| walk_at "bn")=>`(tactic| first | (with_reducible assumption) | (with_reducible exact bN.num _) | (with_reducible exact bN.mod (by assumption) (by assumption) (by assumption)) | (with_reducible exact bN.add (by walk_at "bn") (by walk_at "bn")) | (with_reducible exact bN.sub (by walk_at "bn") (by walk_at "bn")) | (with_reducible exact bN.mul (by walk_at "bn") (by walk_at "bn")) | (with_reducible exact bN.neg (by walk_at "bn")) | (with_reducible exact bN.sq (by walk_at "bn")) | (with_reducible exact bN.TU (by walk_at "bn")))
local macro_rules | `(tactic| walk_at "sm")=>`(tactic| first | exact bN.small (by walk_at "bn") (by exact rfl) | exact .inl (bN.small (by walk_at "bn") (by exact rfl)) | exact .inr (bN.small (by walk_at "bn") (by exact rfl)))
noncomputable section
section
variable {bs:Bs} {d:Nat} {σ:List AO} {Q:AV→List AO→Prop}
structure Rd (p x y z:Int):Prop where
 x:0≤x∧x<p
 y:0≤y∧y<p
 z:0≤z∧z<p
theorem nT {P:Prop} [Decidable P] (h:(!decide (¬ P))=true):P:=by simpa using h
theorem nF {P:Prop} [Decidable P] (h:(!decide (¬ P))=false):¬ P:=by simpa using h
theorem iU (O:(U bs).Ok) {m:Nat} {p a b:Int} (hc:σ[m]? = some (.inst (nh p a b))) (q:Q (.int p) σ):ah (U bs) (d+1) (.cst (.ref AJ)) [.inst aE m] σ Q :=
 ah.of O (T:=T0) (by kernel_rfl) (by kernel_rfl) λ L=>Eq.mp (α:=aO m "_CurveFp__p" σ λ v=>dI v λ i=>Q (.int i) σ) (by kernel_rfl) (fP hc q)
theorem qs (O:(U bs).Ok) {m:Nat} {p a b:Int} (hc:σ[m]? = some (.inst (nh p a b))) (q:Q (.int a) σ):ah (U bs) (d+1) (.cst (.ref AK)) [.inst aE m] σ Q :=
 ah.of O (T:=T0) (by kernel_rfl) (by kernel_rfl) λ L=>Eq.mp (α:=aO m "_CurveFp__a" σ λ v=>dI v λ i=>Q (.int i) σ) (by kernel_rfl) (fA hc q)
theorem Dl (O:(U bs).Ok) {m:Nat} {p a b:Int} (hc:σ[m]? = some (.inst (nh p a b))) (q:Q .none σ):ah (U bs) (d+1) (.cst (.ref tS)) [.inst aE m] σ Q :=
 ah.of O (T:=T0) (by kernel_rfl) (by kernel_rfl) λ L=>Eq.mp (α:=aO m "_CurveFp__h" σ λ v=>Q v σ) (by kernel_rfl) (fH hc q)
theorem BB (O:(U bs).Ok) {s:AV} {p a b:Int} (C:Cv p a b) {X1 Y1:Int} {P:G} (hP:On p a b P) (hr:Rep p X1 Y1 1 P) (b1:bN 1000 X1) (b2:bN 1000 Y1) (ba:bN 1000 a)
 (q:∀ x y z,Rd p x y z→Rep p x y z (plus p a P P)→Q (.tup [.int x,.int y,.int z]) σ):ah (U bs) (d+1) (.cst (.ref kQ)) [s,.int X1,.int Y1,.int p,.int a] σ Q :=
 ah.of O (T:=T0) (by kernel_rfl) (by kernel_rfl) λ L=>Eq.mp (α:=(aa X1∨aa X1)∧0<p∧∀ r:Int,r=((X1*X1)%p)→0≤r→r<p→(aa Y1∨aa Y1)∧0<p∧∀ r1:Int,r1=((Y1*Y1)%p)→0≤r1→r1<p→((!(decide (r1≠0)))=true→Q (.tup [.int 0,.int 0,.int 0]) σ)∧((!(decide (r1≠0)))=false→(aa r1∨aa r1)∧0<p∧∀ r2:Int,r2=((r1*r1)%p)→0≤r2→r2<p→((0:Int)≤2∧(2:Int)≤1000000∧aa (X1+r1))∧(aa 2∨aa ((((X1+r1)^(2:Int).toNat)-r)-r2))∧0<p∧∀ r3:Int,r3=((2*((((X1+r1)^(2:Int).toNat)-r)-r2))%p)→0≤r3→r3<p→(aa 3∨aa r)∧(aa ((3*r)+a)∨aa ((3*r)+a))∧(aa 2∨aa r3)∧0<p∧∀ r4:Int,r4=(((((3*r)+a)*((3*r)+a))-(2*r3))%p)→0≤r4→r4<p→(aa ((3*r)+a)∨aa (r3-r4))∧(aa 8∨aa r2)∧0<p∧∀ r5:Int,r5=(((((3*r)+a)*(r3-r4))-(8*r2))%p)→0≤r5→r5<p→(aa 2∨aa Y1)∧0<p∧∀ r6:Int,r6=((2*Y1)%p)→0≤r6→r6<p→Q (.tup [.int r4,.int r5,.int r6]) σ)) (by kernel_rfl) (by
  have Hp:=C.pos
  have hp:=C.hp
  refine ⟨(by walk_at "sm"),⟨(by (first | assumption | decide | omega)),λ r e_r qX qx=>⟨(by walk_at "sm"),⟨(by (first | assumption | decide | omega)),λ r1 b7 cX cY=>⟨λ h1=>?_,λ h2=>⟨(by walk_at "sm"),⟨(by (first | assumption | decide | omega)),λ r2 kR qY qZ=>⟨⟨(by (first | assumption | decide | omega)),⟨(by (first | assumption | decide | omega)),(by walk_at "sm")⟩⟩,⟨(by walk_at "sm"),⟨(by (first | assumption | decide | omega)),λ r3 oZ qN qO=>⟨(by walk_at "sm"),⟨(by walk_at "sm"),⟨(by walk_at "sm"),⟨(by (first | assumption | decide | omega)),λ r4 yx BD BE=>⟨(by walk_at "sm"),⟨(by walk_at "sm"),⟨(by (first | assumption | decide | omega)),λ r5 yy AN AP=>⟨(by walk_at "sm"),⟨(by (first | assumption | decide | omega)),λ r6 zH BF BG=>?_⟩⟩⟩⟩⟩⟩⟩⟩⟩⟩⟩⟩⟩⟩⟩⟩⟩⟩⟩
  · refine q 0 0 0 ⟨⟨Int.le_refl 0,Hp⟩,⟨Int.le_refl 0,Hp⟩,⟨Int.le_refl 0,Hp⟩⟩ ?_
    rw [(B8 C hP hr e_r b7 rfl rfl rfl rfl rfl rfl).1 (nT h1)]
    exact Int.zero_emod p
  · exact q _ _ _ ⟨⟨BD,BE⟩,⟨AN,AP⟩,⟨BF,BG⟩⟩ ((B8 C hP hr e_r b7 kR oZ rfl yx yy zH).2 (nF h2)))
end
end
noncomputable section
section
variable {bs:Bs} {d:Nat} {σ:List AO} {Q:AV→List AO→Prop}
def HF (σ:List AO) (n:Nat) (p a b:Int):Prop:=∃ c x y z o g k,σ[n]? = some (.inst (q8 c x y z o g k))∧σ[c]? = some (.inst (nh p a b))
theorem bN.of {p z:Int} (h:0≤z∧z<p) (hp:p≤((1000:Nat):Int)):bN 1000 z:=bN.mod h.1 h.2 hp
theorem tT {p z:Int} (h:0≤z∧z<p):z%p=z:=Int.emod_eq_of_lt h.1 h.2
theorem BH (O:(U bs).Ok) {n:Nat} {p a b:Int} (C:Cv p a b) (hs:HF σ n p a b) {X1 Y1 Z1:Int} {P:G} (hP:On p a b P) (hr:Rep p X1 Y1 Z1 P) (b1:bN 1000 X1) (b2:bN 1000 Y1) (hz:0≤Z1∧Z1<p) (ba:bN 1000 a)
 (q:∀ x y z,Rd p x y z→Rep p x y z (plus p a P P)→Q (.tup [.int x,.int y,.int z]) σ):ah (U bs) (d+2) (.cst (.ref qV)) [.inst aj n,.int X1,.int Y1,.int Z1,.int p,.int a] σ Q :=
 ah.of O (T:=T0) (by kernel_rfl) (by kernel_rfl) λ L=>Eq.mp (α:=((decide (Z1=1))=true→aD n "_double_with_z_1" σ∧ah (U bs) (d+1) (.cst (.ref 212)) [.inst 313 n,.int X1,.int Y1,.int p,.int a] σ λ v s=>d3 v λ x y z=>Q (.tup [.int x,.int y,.int z]) s)∧((decide (Z1=1))=false→((!(decide (Z1≠0)))=true→Q (.tup [.int 0,.int 0,.int 0]) σ)∧((!(decide (Z1≠0)))=false→(aa X1∨aa X1)∧0<p∧∀ r:Int,r=((X1*X1)%p)→0≤r→r<p→(aa Y1∨aa Y1)∧0<p∧∀ r1:Int,r1=((Y1*Y1)%p)→0≤r1→r1<p→((!(decide (r1≠0)))=true→Q (.tup [.int 0,.int 0,.int 0]) σ)∧((!(decide (r1≠0)))=false→(aa r1∨aa r1)∧0<p∧∀ r2:Int,r2=((r1*r1)%p)→0≤r2→r2<p→(aa Z1∨aa Z1)∧0<p∧∀ r3:Int,r3=((Z1*Z1)%p)→0≤r3→r3<p→((0:Int)≤2∧(2:Int)≤1000000∧aa (X1+r1))∧(aa 2∨aa ((((X1+r1)^(2:Int).toNat)-r)-r2))∧0<p∧∀ r4:Int,r4=((2*((((X1+r1)^(2:Int).toNat)-r)-r2))%p)→0≤r4→r4<p→(aa 3∨aa r)∧(aa a∨aa r3)∧(aa (a*r3)∨aa r3)∧0<p∧∀ r5:Int,r5=(((3*r)+((a*r3)*r3))%p)→0≤r5→r5<p→(aa r5∨aa r5)∧(aa 2∨aa r4)∧0<p∧∀ r6:Int,r6=(((r5*r5)-(2*r4))%p)→0≤r6→r6<p→(aa r5∨aa (r4-r6))∧(aa 8∨aa r2)∧0<p∧∀ r7:Int,r7=(((r5*(r4-r6))-(8*r2))%p)→0≤r7→r7<p→((0:Int)≤2∧(2:Int)≤1000000∧aa (Y1+Z1))∧0<p∧∀ r8:Int,r8=(((((Y1+Z1)^(2:Int).toNat)-r1)-r3)%p)→0≤r8→r8<p→Q (.tup [.int r6,.int r7,.int r8]) σ)))) (by kernel_rfl) (by
  have Hp:=C.pos
  have hp:=C.hp
  have b3:=bN.of hz hp
  have z0:Rd p 0 0 0:=⟨⟨Int.le_refl 0,Hp⟩,⟨Int.le_refl 0,Hp⟩,⟨Int.le_refl 0,Hp⟩⟩
  refine aG λ G kG=>?_
  obtain ⟨c,x,y,z,o,g,k,bO,qt⟩:=hs
  refine kG ?_
  refine ⟨λ h1=>⟨(bA bO (by kernel_rfl)),?_⟩,λ h2=>⟨λ h3=>?_,λ h4=>⟨(.inl (bN.small b1 rfl)),⟨Hp,λ r e_r qX qx=>⟨(.inl (bN.small b2 rfl)),⟨Hp,λ r1 b7 cX cY=>⟨λ h5=>?_,λ h6=>⟨(.inl (bN.small (bN.mod cX cY hp) rfl)),⟨Hp,λ r2 kR qY qZ=>⟨(.inl (bN.small b3 rfl)),⟨Hp,λ r3 oZ qN qO=>⟨⟨(by decide),⟨(by decide),(bN.small (bN.add b1 (bN.mod cX cY hp)) rfl)⟩⟩,⟨(.inl (bN.small (bN.num 2) rfl)),⟨Hp,λ r4 yx BD BE=>⟨(.inl (bN.small (bN.num 3) rfl)),⟨(.inl (bN.small ba rfl)),⟨(.inl (bN.small (bN.mul ba (bN.mod qN qO hp)) rfl)),⟨Hp,λ r5 yy AN AP=>⟨(.inl (bN.small (bN.mod AN AP hp) rfl)),⟨(.inl (bN.small (bN.num 2) rfl)),⟨Hp,λ r6 zH BF BG=>⟨(.inl (bN.small (bN.mod AN AP hp) rfl)),⟨(.inl (bN.small (bN.num 8) rfl)),⟨Hp,λ r7 Dm HG HJ=>⟨⟨(by decide),⟨(by decide),(bN.small (bN.add b2 b3) rfl)⟩⟩,⟨Hp,λ r8 Dn Dp Dq=>?_⟩⟩⟩⟩⟩⟩⟩⟩⟩⟩⟩⟩⟩⟩⟩⟩⟩⟩⟩⟩⟩⟩⟩⟩⟩⟩
  · have e:=of_decide_eq_true h1
    subst e
    exact BB O C hP hr b1 b2 ba q
  · have e:Z1=0:=nT h3
    refine q 0 0 0 z0 ?_
    rw [sC C hP hr (by rw [e]; exact Int.zero_emod p)]
    exact Int.zero_emod p
  · refine q 0 0 0 z0 ?_
    rw [(zb C hP hr e_r b7 rfl rfl rfl rfl rfl rfl rfl).1 (nT h5)]
    exact Int.zero_emod p
  · have hz1:Z1%p≠0:=by rw [tT hz]; exact nF h4
    exact q _ _ _ ⟨⟨BF,BG⟩,⟨HG,HJ⟩,⟨Dp,Dq⟩⟩ ((zb C hP hr e_r b7 kR oZ yx (by rw [yy,Int.emod_emod]) zH Dm Dn).2 (nF h6) hz1))
theorem CG {x y:Int} (h:(!(decide (x≠0))&&!(decide (y≠0)))=true):x=0∧y=0:=by
 rw [Bool.and_eq_true] at h
 exact ⟨nT h.1,nT h.2⟩
theorem wR {x y:Int} (h:(!(decide (x≠0))&&!(decide (y≠0)))=false):¬ (x=0∧y=0):=λ ⟨e1,e2⟩=>by
 subst e1 e2; cases h
theorem Fx (O:(U bs).Ok) {n:Nat} {p a b:Int} (C:Cv p a b) (hs:HF σ n p a b) {X1 Y1 X2 Y2:Int} {P R:G} (hP:On p a b P) (hR:On p a b R) (hr:Rep p X1 Y1 1 P) (hr2:Rep p X2 Y2 1 R) (b1:bN 1000 X1) (b2:bN 1000 Y1) (b3:bN 1000 X2) (b4:bN 1000 Y2) (ba:bN 1000 a)
 (q:∀ x y z,Rd p x y z→(((X2-X1)%p=0→(Y2-Y1)%p=0→X1=X2∧Y1=Y2)→Rep p x y z (plus p a P R))→Q (.tup [.int x,.int y,.int z]) σ):ah (U bs) (d+2) (.cst (.ref nA)) [.inst aj n,.int X1,.int Y1,.int X2,.int Y2,.int p] σ Q :=
 ah.of O (T:=T0) (by kernel_rfl) (by kernel_rfl) λ L=>Eq.mp (α:=(aa (X2-X1)∨aa (X2-X1))∧(aa 4∨aa ((X2-X1)*(X2-X1)))∧0<p∧∀ r:Int,r=((4*((X2-X1)*(X2-X1)))%p)→0≤r→r<p→(aa (X2-X1)∨aa r)∧(aa 2∨aa (Y2-Y1))∧(((!(decide ((X2-X1)≠0)))&&(!(decide ((2*(Y2-Y1))≠0))))=true→aD n "_double_with_z_1" σ∧aO n "_PointJacobi__curve" σ λ v=>dO 88 v λ i=>aD i "a" σ∧ah (U bs) (d+1) (.cst (.ref 64)) [.inst 88 i] σ λ v1 s=>dI v1 λ i1=>ah (U bs) (d+1) (.cst (.ref 212)) [.inst 313 n,.int X1,.int Y1,.int p,.int i1] s λ v2 s1=>d3 v2 λ x y z=>Q (.tup [.int x,.int y,.int z]) s1)∧(((!(decide ((X2-X1)≠0)))&&(!(decide ((2*(Y2-Y1))≠0))))=false→(aa X1∨aa r)∧((0:Int)≤2∧(2:Int)≤1000000∧aa (2*(Y2-Y1)))∧(aa 2∨aa (X1*r))∧0<p∧∀ r1:Int,r1=(((((2*(Y2-Y1))^(2:Int).toNat)-((X2-X1)*r))-(2*(X1*r)))%p)→0≤r1→r1<p→(aa (2*(Y2-Y1))∨aa ((X1*r)-r1))∧(aa 2∨aa Y1)∧(aa (2*Y1)∨aa ((X2-X1)*r))∧0<p∧∀ r2:Int,r2=((((2*(Y2-Y1))*((X1*r)-r1))-((2*Y1)*((X2-X1)*r)))%p)→0≤r2→r2<p→(aa 2∨aa (X2-X1))∧0<p∧∀ r3:Int,r3=((2*(X2-X1))%p)→0≤r3→r3<p→Q (.tup [.int r1,.int r2,.int r3]) σ)) (by kernel_rfl) (by
  have Hp:=C.pos
  have hp:=C.hp
  refine aG λ G kG=>?_
  obtain ⟨c,x,y,z,o,g,k,bO,qt⟩:=hs
  refine kG ?_
  refine ⟨(.inl (bN.small (bN.sub b3 b1) rfl)),⟨(.inl (bN.small (bN.num 4) rfl)),⟨Hp,λ r e_r qX qx=>⟨(.inl (bN.small (bN.sub b3 b1) rfl)),⟨(.inl (bN.small (bN.num 2) rfl)),⟨λ h1=>⟨(bA bO (by kernel_rfl)),(zW bO ⟨rfl,⟨(bA qt (by kernel_rfl)),qs O qt (BB O C hP hr b1 b2 ba λ x y z rd rep=>q x y z rd λ hok=>?_)⟩⟩)⟩,λ h2=>⟨(.inl (bN.small b1 rfl)),⟨⟨(by decide),⟨(by decide),(bN.small (bN.mul (bN.num 2) (bN.sub b4 b2)) rfl)⟩⟩,⟨(.inl (bN.small (bN.num 2) rfl)),⟨Hp,λ r1 b7 cX cY=>⟨(.inl (bN.small (bN.mul (bN.num 2) (bN.sub b4 b2)) rfl)),⟨(.inl (bN.small (bN.num 2) rfl)),⟨(.inl (bN.small (bN.mul (bN.num 2) b2) rfl)),⟨Hp,λ r2 kR qY qZ=>⟨(.inl (bN.small (bN.num 2) rfl)),⟨Hp,λ r3 oZ qN qO=>?_⟩⟩⟩⟩⟩⟩⟩⟩⟩⟩⟩⟩⟩⟩⟩⟩
  · have e:=CG h1
    rw [← (DW C hP hR hr hr2 hok rfl rfl rfl rfl rfl rfl rfl rfl rfl).1 e.1 e.2]
    exact rep
  · exact q _ _ _ ⟨⟨cX,cY⟩,⟨qY,qZ⟩,⟨qN,qO⟩⟩ λ hok=>((DW C hP hR hr hr2 hok rfl rfl e_r rfl rfl rfl b7 kR oZ).2 (wR h2)))
theorem Dr (O:(U bs).Ok) {n:Nat} {p a b:Int} (C:Cv p a b) (hs:HF σ n p a b) {X1 Y1 Z1 X2 Y2:Int} {P R:G} (hP:On p a b P) (hR:On p a b R) (hr:Rep p X1 Y1 Z1 P) (hr2:Rep p X2 Y2 Z1 R) (b1:bN 1000 X1) (b2:bN 1000 Y1) (b3:bN 1000 X2) (b4:bN 1000 Y2) (ba:bN 1000 a) (hz:0≤Z1∧Z1<p) (hz0:Z1≠0)
 (q:∀ x y z,Rd p x y z→Rep p x y z (plus p a P R)→Q (.tup [.int x,.int y,.int z]) σ):ah (U bs) (d+3) (.cst (.ref m8)) [.inst aj n,.int X1,.int Y1,.int Z1,.int X2,.int Y2,.int p] σ Q :=
 ah.of O (T:=T0) (by kernel_rfl) (by kernel_rfl) λ L=>Eq.mp (α:=((0:Int)≤2∧(2:Int)≤1000000∧aa (X2-X1))∧0<p∧∀ r:Int,r=(((X2-X1)^(2:Int).toNat)%p)→0≤r→r<p→(aa X1∨aa r)∧0<p∧∀ r1:Int,r1=((X1*r)%p)→0≤r1→r1<p→(aa X2∨aa r)∧((0:Int)≤2∧(2:Int)≤1000000∧aa (Y2-Y1))∧0<p∧∀ r2:Int,r2=(((Y2-Y1)^(2:Int).toNat)%p)→0≤r2→r2<p→(((!(decide (r≠0)))&&(!(decide (r2≠0))))=true→aD n "_double" σ∧aO n "_PointJacobi__curve" σ λ v=>dO 88 v λ i=>aD i "a" σ∧ah (U bs) (d+2) (.cst (.ref 64)) [.inst 88 i] σ λ v1 s=>dI v1 λ i1=>ah (U bs) (d+2) (.cst (.ref 219)) [.inst 313 n,.int X1,.int Y1,.int Z1,.int p,.int i1] s λ v2 s1=>d3 v2 λ x y z=>Q (.tup [.int x,.int y,.int z]) s1)∧(((!(decide (r≠0)))&&(!(decide (r2≠0))))=false→0<p∧∀ r3:Int,r3=(((r2-r1)-(X2*r))%p)→0≤r3→r3<p→(aa (Y2-Y1)∨aa (r1-r3))∧(aa Y1∨aa ((X2*r)-r1))∧0<p∧∀ r4:Int,r4=((((Y2-Y1)*(r1-r3))-(Y1*((X2*r)-r1)))%p)→0≤r4→r4<p→(aa Z1∨aa (X2-X1))∧0<p∧∀ r5:Int,r5=((Z1*(X2-X1))%p)→0≤r5→r5<p→Q (.tup [.int r3,.int r4,.int r5]) σ)) (by kernel_rfl) (by
  have Hp:=C.pos
  have hp:=C.hp
  have b5:=bN.of hz hp
  have hs':=hs
  have hz1:Z1%p≠0:=by rw [tT hz]; exact hz0
  refine aG λ G kG=>?_
  obtain ⟨c,x,y,z,o,g,k,bO,qt⟩:=hs
  refine kG ?_
  refine ⟨⟨(by decide),⟨(by decide),(bN.small (bN.sub b3 b1) rfl)⟩⟩,⟨Hp,λ r e_r qX qx=>⟨(.inl (bN.small b1 rfl)),⟨Hp,λ r1 b7 cX cY=>⟨(.inl (bN.small b3 rfl)),⟨⟨(by decide),⟨(by decide),(bN.small (bN.sub b4 b2) rfl)⟩⟩,⟨Hp,λ r2 kR qY qZ=>⟨λ h1=>⟨(bA bO (by kernel_rfl)),(zW bO<|⟨rfl,⟨(bA qt (by kernel_rfl)),?_⟩⟩)⟩,λ h2=>⟨Hp,λ r3 oZ qN qO=>⟨(.inl (bN.small (bN.sub b4 b2) rfl)),⟨(.inl (bN.small b2 rfl)),⟨Hp,λ r4 yx BD BE=>⟨(.inl (bN.small b5 rfl)),⟨Hp,λ r5 yy AN AP=>?_⟩⟩⟩⟩⟩⟩⟩⟩⟩⟩⟩⟩⟩⟩
  · refine qs O qt (BH O C hs' hP hr b1 b2 hz ba ?_)
    have e:=CG h1
    rw [← (Cb C hP hR hr hr2 hz1 e_r rfl rfl kR rfl rfl rfl).1 e.1 e.2] at q
    exact q
  · exact q _ _ _ ⟨⟨qN,qO⟩,⟨BD,BE⟩,⟨AN,AP⟩⟩ ((Cb C hP hR hr hr2 hz1 e_r b7 rfl kR oZ yx yy).2 (wR h2)))
theorem yU (O:(U bs).Ok) {n:Nat} {p a b:Int} (C:Cv p a b) (hs:HF σ n p a b) {X1 Y1 Z1 X2 Y2:Int} {P R:G} (hP:On p a b P) (hR:On p a b R) (hr:Rep p X1 Y1 Z1 P) (hr2:Rep p X2 Y2 1 R) (b1:bN 1000 X1) (b2:bN 1000 Y1) (b3:bN 1000 X2) (b4:bN 1000 Y2) (ba:bN 1000 a) (hz:0≤Z1∧Z1<p) (hz0:Z1≠0)
 (q:∀ x y z,Rd p x y z→Rep p x y z (plus p a P R)→Q (.tup [.int x,.int y,.int z]) σ):ah (U bs) (d+3) (.cst (.ref m9)) [.inst aj n,.int X1,.int Y1,.int Z1,.int X2,.int Y2,.int p] σ Q :=
 ah.of O (T:=T0) (by kernel_rfl) (by kernel_rfl) λ L=>Eq.mp (α:=(aa Z1∨aa Z1)∧0<p∧∀ r:Int,r=((Z1*Z1)%p)→0≤r→r<p→(aa X2∨aa r)∧0<p∧∀ r1:Int,r1=((X2*r)%p)→0≤r1→r1<p→(aa Y2∨aa Z1)∧(aa (Y2*Z1)∨aa r)∧0<p∧∀ r2:Int,r2=(((Y2*Z1)*r)%p)→0≤r2→r2<p→0<p∧∀ r3:Int,r3=((r1-X1)%p)→0≤r3→r3<p→(aa r3∨aa r3)∧0<p∧∀ r4:Int,r4=((r3*r3)%p)→0≤r4→r4<p→(aa 4∨aa r4)∧0<p∧∀ r5:Int,r5=((4*r4)%p)→0≤r5→r5<p→(aa r3∨aa r5)∧(aa 2∨aa (r2-Y1))∧0<p∧∀ r6:Int,r6=((2*(r2-Y1))%p)→0≤r6→r6<p→(((!(decide (r6≠0)))&&(!(decide (r3≠0))))=true→aD n "_double_with_z_1" σ∧aO n "_PointJacobi__curve" σ λ v=>dO 88 v λ i=>aD i "a" σ∧ah (U bs) (d+2) (.cst (.ref 64)) [.inst 88 i] σ λ v1 s=>dI v1 λ i1=>ah (U bs) (d+2) (.cst (.ref 212)) [.inst 313 n,.int X2,.int Y2,.int p,.int i1] s λ v2 s1=>d3 v2 λ x y z=>Q (.tup [.int x,.int y,.int z]) s1)∧(((!(decide (r6≠0)))&&(!(decide (r3≠0))))=false→(aa X1∨aa r5)∧(aa r6∨aa r6)∧(aa 2∨aa (X1*r5))∧0<p∧∀ r7:Int,r7=((((r6*r6)-(r3*r5))-(2*(X1*r5)))%p)→0≤r7→r7<p→(aa r6∨aa ((X1*r5)-r7))∧(aa 2∨aa Y1)∧(aa (2*Y1)∨aa (r3*r5))∧0<p∧∀ r8:Int,r8=(((r6*((X1*r5)-r7))-((2*Y1)*(r3*r5)))%p)→0≤r8→r8<p→((0:Int)≤2∧(2:Int)≤1000000∧aa (Z1+r3))∧0<p∧∀ r9:Int,r9=(((((Z1+r3)^(2:Int).toNat)-r)-r4)%p)→0≤r9→r9<p→Q (.tup [.int r7,.int r8,.int r9]) σ)) (by kernel_rfl) (by
  have Hp:=C.pos
  have hp:=C.hp
  have b5:=bN.of hz hp
  have hz1:Z1%p≠0:=by rw [tT hz]; exact hz0
  refine aG λ G kG=>?_
  obtain ⟨c,x,y,z,o,g,k,bO,qt⟩:=hs
  refine kG ?_
  refine ⟨(.inl (bN.small b5 rfl)),⟨Hp,λ r e_r qX qx=>⟨(.inl (bN.small b3 rfl)),⟨Hp,λ r1 b7 cX cY=>⟨(.inl (bN.small b4 rfl)),⟨(.inl (bN.small (bN.mul b4 b5) rfl)),⟨Hp,λ r2 kR qY qZ=>⟨Hp,λ r3 oZ qN qO=>⟨(.inl (bN.small (bN.mod qN qO hp) rfl)),⟨Hp,λ r4 yx BD BE=>⟨(.inl (bN.small (bN.num 4) rfl)),⟨Hp,λ r5 yy AN AP=>⟨(.inl (bN.small (bN.mod qN qO hp) rfl)),⟨(.inl (bN.small (bN.num 2) rfl)),⟨Hp,λ r6 zH BF BG=>⟨λ h1=>⟨(bA bO (by kernel_rfl)),(zW bO<|⟨rfl,⟨(bA qt (by kernel_rfl)),?_⟩⟩)⟩,λ h2=>⟨(.inl (bN.small b1 rfl)),⟨(.inl (bN.small (bN.mod BF BG hp) rfl)),⟨(.inl (bN.small (bN.num 2) rfl)),⟨Hp,λ r7 Dm HG HJ=>⟨(.inl (bN.small (bN.mod BF BG hp) rfl)),⟨(.inl (bN.small (bN.num 2) rfl)),⟨(.inl (bN.small (bN.mul (bN.num 2) b2) rfl)),⟨Hp,λ r8 Dn Dp Dq=>⟨⟨(by decide),⟨(by decide),(bN.small (bN.add b5 (bN.mod qN qO hp)) rfl)⟩⟩,⟨Hp,λ r9 Lb Lc Ld=>?_⟩⟩⟩⟩⟩⟩⟩⟩⟩⟩⟩⟩⟩⟩⟩⟩⟩⟩⟩⟩⟩⟩⟩⟩⟩⟩
  · refine qs O qt (BB O C hR hr2 b3 b4 ba ?_)
    have e:=CG h1
    have e2:=(Ca C hP hR hr hr2 hz1 e_r b7 kR oZ rfl rfl rfl zH rfl rfl rfl rfl).1 e.1 e.2
    rw [e2] at q
    exact q
  · exact q _ _ _ ⟨⟨HG,HJ⟩,⟨Dp,Dq⟩,⟨Lc,Ld⟩⟩ ((Ca C hP hR hr hr2 hz1 e_r b7 kR oZ yx yy rfl zH rfl Dm Dn Lb).2 (wR h2)))
theorem Ds (O:(U bs).Ok) {n:Nat} {p a b:Int} (C:Cv p a b) (hs:HF σ n p a b) {X1 Y1 Z1 X2 Y2 Z2:Int} {P R:G} (hP:On p a b P) (hR:On p a b R) (hr:Rep p X1 Y1 Z1 P) (hr2:Rep p X2 Y2 Z2 R) (b1:bN 1000 X1) (b2:bN 1000 Y1) (b3:bN 1000 X2) (b4:bN 1000 Y2) (ba:bN 1000 a) (hz:0≤Z1∧Z1<p) (hz0:Z1≠0) (hz':0≤Z2∧Z2<p) (QI:Z2≠0)
 (q:∀ x y z,Rd p x y z→Rep p x y z (plus p a P R)→Q (.tup [.int x,.int y,.int z]) σ):ah (U bs) (d+3) (.cst (.ref nc)) [.inst aj n,.int X1,.int Y1,.int Z1,.int X2,.int Y2,.int Z2,.int p] σ Q :=
 ah.of O (T:=T0) (by kernel_rfl) (by kernel_rfl) λ L=>Eq.mp (α:=(aa Z1∨aa Z1)∧0<p∧∀ r:Int,r=((Z1*Z1)%p)→0≤r→r<p→(aa Z2∨aa Z2)∧0<p∧∀ r1:Int,r1=((Z2*Z2)%p)→0≤r1→r1<p→(aa X1∨aa r1)∧0<p∧∀ r2:Int,r2=((X1*r1)%p)→0≤r2→r2<p→(aa X2∨aa r)∧0<p∧∀ r3:Int,r3=((X2*r)%p)→0≤r3→r3<p→(aa Y1∨aa Z2)∧(aa (Y1*Z2)∨aa r1)∧0<p∧∀ r4:Int,r4=(((Y1*Z2)*r1)%p)→0≤r4→r4<p→(aa Y2∨aa Z1)∧(aa (Y2*Z1)∨aa r)∧0<p∧∀ r5:Int,r5=(((Y2*Z1)*r)%p)→0≤r5→r5<p→(aa 4∨aa (r3-r2))∧(aa (4*(r3-r2))∨aa (r3-r2))∧0<p∧∀ r6:Int,r6=(((4*(r3-r2))*(r3-r2))%p)→0≤r6→r6<p→(aa (r3-r2)∨aa r6)∧0<p∧∀ r7:Int,r7=(((r3-r2)*r6)%p)→0≤r7→r7<p→(aa 2∨aa (r5-r4))∧0<p∧∀ r8:Int,r8=((2*(r5-r4))%p)→0≤r8→r8<p→(((!(decide ((r3-r2)≠0)))&&(!(decide (r8≠0))))=true→aD n "_double" σ∧aO n "_PointJacobi__curve" σ λ v=>dO 88 v λ i=>aD i "a" σ∧ah (U bs) (d+2) (.cst (.ref 64)) [.inst 88 i] σ λ v1 s=>dI v1 λ i1=>ah (U bs) (d+2) (.cst (.ref 219)) [.inst 313 n,.int X1,.int Y1,.int Z1,.int p,.int i1] s λ v2 s1=>d3 v2 λ x y z=>Q (.tup [.int x,.int y,.int z]) s1)∧(((!(decide ((r3-r2)≠0)))&&(!(decide (r8≠0))))=false→(aa r2∨aa r6)∧(aa r8∨aa r8)∧(aa 2∨aa (r2*r6))∧0<p∧∀ r9:Int,r9=((((r8*r8)-r7)-(2*(r2*r6)))%p)→0≤r9→r9<p→(aa r8∨aa ((r2*r6)-r9))∧(aa 2∨aa r4)∧(aa (2*r4)∨aa r7)∧0<p∧∀ Ov:Int,Ov=(((r8*((r2*r6)-r9))-((2*r4)*r7))%p)→0≤Ov→Ov<p→((0:Int)≤2∧(2:Int)≤1000000∧aa (Z1+Z2))∧(aa ((((Z1+Z2)^(2:Int).toNat)-r)-r1)∨aa (r3-r2))∧0<p∧∀ Ow:Int,Ow=((((((Z1+Z2)^(2:Int).toNat)-r)-r1)*(r3-r2))%p)→0≤Ow→Ow<p→Q (.tup [.int r9,.int Ov,.int Ow]) σ)) (by kernel_rfl) (by
  have Hp:=C.pos
  have hp:=C.hp
  have b5:=bN.of hz hp
  have b6:=bN.of hz' hp
  have hs':=hs
  have hz1:Z1%p≠0:=by rw [tT hz]; exact hz0
  have hz2:Z2%p≠0:=by rw [tT hz']; exact QI
  refine aG λ G kG=>?_
  obtain ⟨c,x,y,z,o,g,k,bO,qt⟩:=hs
  refine kG ?_
  refine ⟨(.inl (bN.small b5 rfl)),⟨Hp,λ r e_r qX qx=>⟨(.inl (bN.small b6 rfl)),⟨Hp,λ r1 b7 cX cY=>⟨(.inl (bN.small b1 rfl)),⟨Hp,λ r2 kR qY qZ=>⟨(.inl (bN.small b3 rfl)),⟨Hp,λ r3 oZ qN qO=>⟨(.inl (bN.small b2 rfl)),⟨(.inl (bN.small (bN.mul b2 b6) rfl)),⟨Hp,λ r4 yx BD BE=>⟨(.inl (bN.small b4 rfl)),⟨(.inl (bN.small (bN.mul b4 b5) rfl)),⟨Hp,λ r5 yy AN AP=>⟨(.inl (bN.small (bN.num 4) rfl)),⟨(.inl (bN.small (bN.mul (bN.num 4) (bN.sub (bN.mod qN qO hp) (bN.mod qY qZ hp))) rfl)),⟨Hp,λ r6 zH BF BG=>⟨(.inl (bN.small (bN.sub (bN.mod qN qO hp) (bN.mod qY qZ hp)) rfl)),⟨Hp,λ r7 Dm HG HJ=>⟨(.inl (bN.small (bN.num 2) rfl)),⟨Hp,λ r8 Dn Dp Dq=>⟨λ h1=>⟨(bA bO (by kernel_rfl)),(zW bO<|⟨rfl,⟨(bA qt (by kernel_rfl)),?_⟩⟩)⟩,λ h2=>⟨(.inl (bN.small (bN.mod qY qZ hp) rfl)),⟨(.inl (bN.small (bN.mod Dp Dq hp) rfl)),⟨(.inl (bN.small (bN.num 2) rfl)),⟨Hp,λ r9 Lb Lc Ld=>⟨(.inl (bN.small (bN.mod Dp Dq hp) rfl)),⟨(.inl (bN.small (bN.num 2) rfl)),⟨(.inl (bN.small (bN.mul (bN.num 2) (bN.mod BD BE hp)) rfl)),⟨Hp,λ Ov Ox Oz OA=>⟨⟨(by decide),⟨(by decide),(bN.small (bN.add b5 b6) rfl)⟩⟩,⟨(.inl (bN.small (bN.sub (bN.sub (bN.sq (bN.add b5 b6)) (bN.mod qX qx hp)) (bN.mod cX cY hp)) rfl)),⟨Hp,λ Ow OB OC OD=>?_⟩⟩⟩⟩⟩⟩⟩⟩⟩⟩⟩⟩⟩⟩⟩⟩⟩⟩⟩⟩⟩⟩⟩⟩⟩⟩⟩⟩⟩⟩⟩⟩⟩
  · refine qs O qt (BH O C hs' hP hr b1 b2 hz ba ?_)
    have e:=CG h1
    rw [← (B9 C hP hR hr hr2 hz1 hz2 e_r b7 kR oZ yx yy rfl zH Dm Dn rfl rfl rfl rfl).1 e.1 e.2] at q
    exact q
  · exact q _ _ _ ⟨⟨Lc,Ld⟩,⟨Oz,OA⟩,⟨OC,OD⟩⟩ ((B9 C hP hR hr hr2 hz1 hz2 e_r b7 kR oZ yx yy rfl zH Dm Dn rfl Lb Ox OB).2 (wR h2)))
def OE (p X1 Y1 Z1 X2 Y2 Z2:Int):Prop:=Z1=1→Z2=1→(X2-X1)%p=0→(Y2-Y1)%p=0→X1=X2∧Y1=Y2
theorem HK (O:(U bs).Ok) {n:Nat} {p a b:Int} (C:Cv p a b) (hs:HF σ n p a b) {X1 Y1 Z1 X2 Y2 Z2:Int} {P R:G} (hP:On p a b P) (hR:On p a b R) (hr:Rep p X1 Y1 Z1 P) (hr2:Rep p X2 Y2 Z2 R) (b1:bN 1000 X1) (b2:bN 1000 Y1) (b3:bN 1000 X2) (b4:bN 1000 Y2) (ba:bN 1000 a) (hz:0≤Z1∧Z1<p) (hz':0≤Z2∧Z2<p)
 (qT:∀ x y z,Rd p x y z→(OE p X1 Y1 Z1 X2 Y2 Z2→Rep p x y z (plus p a P R))→Q (.tup [.int x,.int y,.int z]) σ):ah (U bs) (d+4) (.cst (.ref oR)) [.inst aj n,.int X1,.int Y1,.int Z1,.int X2,.int Y2,.int Z2,.int p] σ Q :=
 ah.of O (T:=T0) (by kernel_rfl) (by kernel_rfl) λ L=>Eq.mp (α:=((!(decide (Z1≠0)))=true→0<p∧∀ r:Int,r=(X2%p)→0≤r→r<p→0<p∧∀ r1:Int,r1=(Y2%p)→0≤r1→r1<p→0<p∧∀ r2:Int,r2=(Z2%p)→0≤r2→r2<p→Q (.tup [.int r,.int r1,.int r2]) σ)∧((!(decide (Z1≠0)))=false→((!(decide (Z2≠0)))=true→0<p∧∀ r:Int,r=(X1%p)→0≤r→r<p→0<p∧∀ r1:Int,r1=(Y1%p)→0≤r1→r1<p→0<p∧∀ r2:Int,r2=(Z1%p)→0≤r2→r2<p→Q (.tup [.int r,.int r1,.int r2]) σ)∧((!(decide (Z2≠0)))=false→((decide (Z1=Z2))=true→((decide (Z1=1))=true→aD n "_add_with_z_1" σ∧ah (U bs) (d+3) (.cst (.ref 233)) [.inst 313 n,.int X1,.int Y1,.int X2,.int Y2,.int p] σ λ v s=>d3 v λ x y z=>Q (.tup [.int x,.int y,.int z]) s)∧((decide (Z1=1))=false→aD n "_add_with_z_eq" σ∧ah (U bs) (d+3) (.cst (.ref 240)) [.inst 313 n,.int X1,.int Y1,.int Z1,.int X2,.int Y2,.int p] σ λ v s=>d3 v λ x y z=>Q (.tup [.int x,.int y,.int z]) s))∧((decide (Z1=Z2))=false→((decide (Z1=1))=true→aD n "_add_with_z2_1" σ∧ah (U bs) (d+3) (.cst (.ref 247)) [.inst 313 n,.int X2,.int Y2,.int Z2,.int X1,.int Y1,.int p] σ λ v s=>d3 v λ x y z=>Q (.tup [.int x,.int y,.int z]) s)∧((decide (Z1=1))=false→((decide (Z2=1))=true→aD n "_add_with_z2_1" σ∧ah (U bs) (d+3) (.cst (.ref 247)) [.inst 313 n,.int X1,.int Y1,.int Z1,.int X2,.int Y2,.int p] σ λ v s=>d3 v λ x y z=>Q (.tup [.int x,.int y,.int z]) s)∧((decide (Z2=1))=false→aD n "_add_with_z_ne" σ∧ah (U bs) (d+3) (.cst (.ref 254)) [.inst 313 n,.int X1,.int Y1,.int Z1,.int X2,.int Y2,.int Z2,.int p] σ λ v s=>d3 v λ x y z=>Q (.tup [.int x,.int y,.int z]) s)))))) (by kernel_rfl) (by
  have Hp:=C.pos
  have q:∀ x y z,Rd p x y z→Rep p x y z (plus p a P R)→Q (.tup [.int x,.int y,.int z]) σ:=λ x y z rd rep=>qT x y z rd λ _=>rep
  have hs':=hs
  refine aG λ G kG=>?_
  obtain ⟨c,x,y,z,o,g,k,bO,qt⟩:=hs
  refine kG ?_
  refine ⟨λ h1=>⟨Hp,λ r e_r qX qx=>⟨Hp,λ r1 b7 cX cY=>⟨Hp,λ r2 kR qY qZ=>?_⟩⟩⟩,λ h2=>⟨λ h3=>⟨Hp,λ r e_r qX qx=>⟨Hp,λ r1 b7 cX cY=>⟨Hp,λ r2 kR qY qZ=>?_⟩⟩⟩,λ h4=>⟨λ h5=>⟨λ h6=>⟨(bA bO (by kernel_rfl)),?_⟩,λ h7=>⟨(bA bO (by kernel_rfl)),?_⟩⟩,λ h8=>⟨λ h9=>⟨(bA bO (by kernel_rfl)),?_⟩,λ Ql=>⟨λ h11=>⟨(bA bO (by kernel_rfl)),?_⟩,λ h12=>⟨(bA bO (by kernel_rfl)),?_⟩⟩⟩⟩⟩⟩
  · have e:=nT h1
    refine q _ _ _ ⟨⟨qX,qx⟩,⟨cX,cY⟩,⟨qY,qZ⟩⟩ ?_
    rw [sC C hP hr (by rw [e]; exact Int.zero_emod p),e_r,b7,kR]
    exact Cc C hR hr2
  · have e:=nT h3
    refine q _ _ _ ⟨⟨qX,qx⟩,⟨cX,cY⟩,⟨qY,qZ⟩⟩ ?_
    rw [sC C hR hr2 (by rw [e]; exact Int.zero_emod p),iT,e_r,b7,kR]
    exact Cc C hP hr
  · have e:=of_decide_eq_true h5
    have e1:=of_decide_eq_true h6
    subst e1
    rw [← e] at hr2
    exact Fx O C hs' hP hR hr hr2 b1 b2 b3 b4 ba λ x y z rd rep=>qT x y z rd λ hok=>rep (hok rfl e.symm)
  · have e:=of_decide_eq_true h5
    rw [← e] at hr2
    exact Dr O C hs' hP hR hr hr2 b1 b2 b3 b4 ba hz (nF h2) q
  · have e1:=of_decide_eq_true h9
    subst e1
    rw [yE C hP hR] at q
    exact yU O C hs' hR hP hr2 hr b3 b4 b1 b2 ba hz' (nF h4) q
  · have e1:=of_decide_eq_true h11
    subst e1
    exact yU O C hs' hP hR hr hr2 b1 b2 b3 b4 ba hz (nF h2) q
  · exact Ds O C hs' hP hR hr hr2 b1 b2 b3 b4 ba hz (nF h2) hz' (nF h4) q)
theorem BI (O:(U bs).Ok) {n:Nat} {p a b:Int} (C:Cv p a b) (hs:HF σ n p a b) {X1 Y1 Z1 X2 Y2 Z2:Int} {P R:G} (hP:On p a b P) (hR:On p a b R) (hr:Rep p X1 Y1 Z1 P) (hr2:Rep p X2 Y2 Z2 R) (b1:bN 1000 X1) (b2:bN 1000 Y1) (b3:bN 1000 X2) (b4:bN 1000 Y2) (ba:bN 1000 a) (hz:0≤Z1∧Z1<p) (hz':0≤Z2∧Z2<p)
 (hok:OE p X1 Y1 Z1 X2 Y2 Z2) (q:∀ x y z,Rd p x y z→Rep p x y z (plus p a P R)→Q (.tup [.int x,.int y,.int z]) σ):ah (U bs) (d+4) (.cst (.ref oR)) [.inst aj n,.int X1,.int Y1,.int Z1,.int X2,.int Y2,.int Z2,.int p] σ Q :=
 HK O C hs hP hR hr hr2 b1 b2 b3 b4 ba hz hz' λ x y z rd rep=>q x y z rd (rep hok)
end
end
noncomputable section
section
variable {bs:Bs} {d:Nat} {σ:List AO} {Q:AV→List AO→Prop}
theorem AQ (O:(U bs).Ok) {a p:Int} (Pw:1<p) (hp:p≤((1000:Nat):Int)) (hi:∃ b,(a*b)%p=1) (q:∀ r,0≤r→r<p→(r*a)%p=1→Q (.int r) σ) :
 ah (U bs) (d+1) (.cst (.ref tK)) [.int a,.int p] σ Q :=
 ah.of O (T:=T0) (by kernel_rfl) (by kernel_rfl) λ L=>Eq.mp (α:=0<p∧∀ r:Int,r=(a%p)→0≤r→r<p→((decide (p=1))=true→Q (.int 0) σ)∧((decide (p=1))=false→∃ I:Int→Int→Int→Int→Nat→List AO→Prop,(∃ m:Nat,I 0 1 p r m σ)∧∀ a1:Int,∀ a2:Int,∀ a3:Int,∀ a4:Int,∀ m:Nat,∀ af:List AO,I a1 a2 a3 a4 m af→((decide (a4≠0))=true→(0<a4∧a4<1073741824)∧(aa (a3 / a4)∨aa a4)∧(aa (a3 / a4)∨aa a2)∧∃ m':Nat,m'<m∧I a2 (a1-((a3 / a4)*a2)) a4 (a3-((a3 / a4)*a4)) m' af)∧((decide (a4≠0))=false→((decide (a3≠1))=true→False)∧((decide (a3≠1))=false→0<p∧∀ r1:Int,r1=(a1%p)→0≤r1→r1<p→Q (.int r1) af)))) (by kernel_rfl) (by
  have Hp:0<p:=(Lq.ls (by decide) Pw)
  refine ⟨Hp,λ r e_r qX qx=>⟨λ h1=>?_,λ h2=>⟨λ a1 a2 a3 a4 m af=>af=σ∧Eu p a a1 a2 a3 a4∧m=a4.toNat,⟨⟨_,rfl,?_,rfl⟩,λ a1 a2 a3 a4 m af h3=>?_⟩⟩⟩⟩
  · have:=of_decide_eq_true h1; lia
  · rw [e_r]; exact Eu.start Pw hi
  · obtain ⟨rfl,E,rfl⟩:=h3
    refine ⟨λ h4=>?_,λ h5=>⟨λ h6=>?_,λ h7=>⟨Hp,λ r1 b7 cX cY=>?_⟩⟩⟩
    · have hd:=of_decide_eq_true h4
      have S:=E.step hd
      have d0:=E.d0
      have dp:=E.dp
      have s1:bN 1000 (a3 / a4):=bN.tw (Int.ediv_nonneg (Int.le_of_lt E.r0) d0) (Int.le_trans (Int.ediv_le_self _ (Int.le_of_lt E.r0)) (Int.le_trans E.rp hp))
      exact ⟨⟨(Lq.LQ d0 (of_decide_eq_true h4)),Lq.ls (Lq.ll dp hp) (by decide)⟩,⟨.inl (s1.small rfl),⟨.inl (s1.small rfl),⟨_,S.2,rfl,S.1,rfl⟩⟩⟩⟩
    · have e0:a4=0:=by simpa using h5
      exact absurd (E.last Pw e0).1 (of_decide_eq_true h6)
    · have e0:a4=0:=by simpa using h5
      refine q r1 cX cY ?_
      rw [b7]; exact (E.last Pw e0).2)
theorem AR (O:(U bs).Ok) {m:Nat} {x y p a b:Int} (hc:σ[m]? = some (.inst (nh p a b))) (Hp:0<p) (bx:bN 1000 x) (TV:bN 1000 y) (yz:(y*y-(x*x*x+a*x+b))%p=0)
 (q:Q (.bool true) σ):ah (U bs) (d+1) (.cst (.ref pF)) [.inst aE m,.int x,.int y] σ Q :=
 ah.of O (T:=T0) (by kernel_rfl) (by kernel_rfl) λ L=>Eq.mp (α:=(aa y∨aa y)∧(aa x∨aa x)∧aO m "_CurveFp__a" σ λ v=>dI v λ i=>(aa ((x*x)+i)∨aa x)∧aO m "_CurveFp__b" σ λ v1=>dI v1 λ i1=>aO m "_CurveFp__p" σ λ v2=>dI v2 λ i2=>0<i2∧∀ r:Int,r=(((y*y)-((((x*x)+i)*x)+i1))%i2)→0≤r→r<i2→Q (.bool (decide (r=0))) σ) (by kernel_rfl) (by
  refine ⟨(.inl (bN.small TV rfl)),⟨(.inl (bN.small bx rfl)),(fA hc<|⟨.inr (bN.small bx rfl),(fB hc<|(fP hc<|⟨Hp,λ r e_r qX qx=>?_⟩))⟩)⟩⟩
  have:(x*x+a)*x+b=x*x*x+a*x+b:=by grind
  rw [this] at e_r
  rw [e_r,yz]
  exact q)
theorem BJ (O:(U bs).Ok) {m n:Nat} {p a b:Int} (BK:σ[m]? = some (.inst (nh p a b))) (bO:σ[n]? = some (.inst (nh p a b))) (Hp:0<p) (q:Q (.bool true) σ):ah (U bs) (d+1) (.cst (.ref qp)) [.inst aE m,.inst aE n] σ Q :=
 ah.of O (T:=T0) (by kernel_rfl) (by kernel_rfl) λ L=>Eq.mp (α:=aO m "_CurveFp__p" σ λ v=>dI v λ i=>aO m "_CurveFp__p" σ λ v1=>dI v1 λ i1=>aO n "_CurveFp__p" σ λ v2=>dI v2 λ i2=>((decide (i1=i2))=true→aO m "_CurveFp__a" σ λ v3=>dI v3 λ i3=>0<i∧∀ r:Int,r=(i3%i)→0≤r→r<i→aO n "_CurveFp__a" σ λ v4=>dI v4 λ i4=>0<i∧∀ r1:Int,r1=(i4%i)→0≤r1→r1<i→((decide (r=r1))=true→aO m "_CurveFp__b" σ λ v5=>dI v5 λ i5=>0<i∧∀ r2:Int,r2=(i5%i)→0≤r2→r2<i→aO n "_CurveFp__b" σ λ v6=>dI v6 λ i6=>0<i∧∀ r3:Int,r3=(i6%i)→0≤r3→r3<i→Q (.bool (decide (r2=r3))) σ)∧((decide (r=r1))=false→Q (.bool (decide (r=r1))) σ))∧((decide (i1=i2))=false→Q (.bool (decide (i1=i2))) σ)) (by kernel_rfl) (by
  refine (fP BK<|(fP BK<|(fP bO<|⟨λ h1=>(fA BK<|⟨Hp,λ r e_r qX qx=>(fA bO<|⟨Hp,λ r1 b7 cX cY=>⟨λ h2=>(fB BK<|⟨Hp,λ r2 kR qY qZ=>(fB bO<|⟨Hp,λ r3 oZ qN qO=>?_⟩)⟩),λ h3=>?_⟩⟩)⟩),λ h4=>?_⟩)))
  · rw [kR,oZ,decide_eq_true rfl]; exact q
  · rw [e_r,b7,decide_eq_true rfl]; exact q
  · rw [decide_eq_true rfl]; exact q)
theorem Ja (O:(U bs).Ok) {op:CmpOp} {C D f:Addr} {m n:Nat} (hop:(op==.Eq||op==.NotEq)=true) (hk:(qH (U bs).K C (.ref D)&&(findIn (U bs).K (.ref C) (cmpInfo op).2.1==some (some (.ref f)))&&isFn (U bs).K (.ref f))=true)
 (h:ah (U bs) d (.cst (.ref f)) [.inst C m,.inst D n] σ λ v σ'=>qR v=true∧Q v σ'):aA (U bs) d op (.inst C m) (.inst D n) σ Q:=aA.user O hop rfl iR.inst iR.inst hk h.w
theorem OF (O:(U bs).Ok) {op:CmpOp} {C f x:Addr} {t:Value} {m:Nat} (hop:(op==.Eq||op==.NotEq)=true) (ht:typeIn (U bs).K (.ref x)=some t) (hk:(qH (U bs).K C t&&(findIn (U bs).K (.ref C) (cmpInfo op).2.1==some (some (.ref f)))&&isFn (U bs).K (.ref f))=true)
 (h:ah (U bs) d (.cst (.ref f)) [.inst C m,.cst (.ref x)] σ λ v σ'=>qR v=true∧Q v σ'):aA (U bs) d op (.inst C m) (.cst (.ref x)) σ Q:=aA.user O hop rfl iR.inst (iR.cst ht) hk h.w
theorem OG (O:(U bs).Ok) {op:CmpOp} {C f x y:Addr} {t:Value} (hop:(op==.Eq||op==.NotEq)=true) (hx:typeIn (U bs).K (.ref x)=some (.ref C)) (ht:typeIn (U bs).K (.ref y)=some t) (hk:(qH (U bs).K C t&&(findIn (U bs).K (.ref C) (cmpInfo op).2.1==some (some (.ref f)))&&isFn (U bs).K (.ref f))=true)
 (h:ah (U bs) d (.cst (.ref f)) [.cst (.ref x),.cst (.ref y)] σ λ v σ'=>qR v=true∧Q v σ'):aA (U bs) d op (.cst (.ref x)) (.cst (.ref y)) σ Q:=aA.user O hop rfl (iR.cst hx) (iR.cst ht) hk h.w
theorem BL (O:(U bs).Ok) {m n:Nat} {p a b:Int} (BK:σ[m]? = some (.inst (nh p a b))) (bO:σ[n]? = some (.inst (nh p a b))) (Hp:0<p) (q:Q (.bool false) σ):ah (U bs) (d+2) (.cst (.ref qq)) [.inst aE m,.inst aE n] σ Q :=
 ah.of O (T:=T0) (by kernel_rfl) (by kernel_rfl) λ L=>Eq.mp (α:=aA (U bs) (d+1) .Eq (.inst 88 m) (.inst 88 n) σ λ v s=>dB v λ c=>Q (.bool (!c)) s) (by kernel_rfl) (Ja O rfl (f:=qp) (by kernel_rfl) (BJ O BK bO Hp ⟨rfl,q⟩))
theorem Le (O:(U bs).Ok) {m n:Nat} {p a b:Int} (BK:σ[m]? = some (.inst (nh p a b))) (bO:σ[n]? = some (.inst (nh p a b))) (Hp:0<p) (q:Q (.bool false) σ):aA (U bs) (d+2) .NotEq (.inst aE m) (.inst aE n) σ Q :=
 Ja O rfl (f:=qq) (by kernel_rfl) (BL O BK bO Hp ⟨rfl,q⟩)
theorem Lg {p a b:Int} (C:Cv p a b) {z:Int} (hz:z%p≠0):∃ b,(z*b)%p=1:=⟨_,C.mW z hz⟩
theorem Lh (O:(U bs).Ok) {n c k:Nat} {p a b x y z:Int} {o:AV} {g:Bool} (C:Cv p a b) (bO:σ[n]? = some (.inst (q8 c x y z o g k))) (qt:σ[c]? = some (.inst (nh p a b))) {u v:Int} (hP:On p a b (some (u,v))) (hr:Rep p x y z (some (u,v))) (hd:Rd p x y z)
 (q:Q (.int u) σ):ah (U bs) (d+2) (.cst (.ref m7)) [.inst aj n] σ Q :=
 ah.of O (T:=T0) (by kernel_rfl) (by kernel_rfl) λ L=>Eq.mp (α:=aO n "_PointJacobi__coords" σ λ v=>d3 v λ x y z=>((decide (z=1))=true→Q (.int x) σ)∧((decide (z=1))=false→aO n "_PointJacobi__curve" σ λ v1=>dO 88 v1 λ i=>aD i "p" σ∧ah (U bs) (d+1) (.cst (.ref 57)) [.inst 88 i] σ λ v2 s=>dI v2 λ i1=>ah (U bs) (d+1) (.cst (.ref 21)) [.int z,.int i1] s λ v3 s1=>dI v3 λ i2=>((0:Int)≤2∧(2:Int)≤1000000∧aa i2)∧(aa x∨aa (i2^(2:Int).toNat))∧0<i1∧∀ r:Int,r=((x*(i2^(2:Int).toNat))%i1)→0≤r→r<i1→Q (.int r) s1)) (by kernel_rfl) (by
  have Hp:=C.pos
  have hp:=C.hp
  have l5:=C.lo
  refine (HA bO<|⟨λ h1=>?_,λ h2=>(zW bO<|⟨rfl,⟨(bA qt (by kernel_rfl)),?_⟩⟩)⟩)
  · have e:=of_decide_eq_true h1
    subst e
    rw [DX C hP hr hd.x]; exact q
  · refine iU O qt (AQ O (by lia) hp (Lg C hr.1) λ r qX qx hi=>?_)
    refine ⟨⟨by decide,⟨by decide,(bN.small (bN.mod qX qx hp) rfl)⟩⟩,⟨.inl (bN.small (bN.of hd.x hp) rfl),⟨Hp,λ r1 e_r cX cY=>?_⟩⟩⟩
    rwa [e_r,MN C hP hr hi])
theorem Li (O:(U bs).Ok) {n c k:Nat} {p a b x y z:Int} {o:AV} {g:Bool} (C:Cv p a b) (bO:σ[n]? = some (.inst (q8 c x y z o g k))) (qt:σ[c]? = some (.inst (nh p a b))) {u v:Int} (hP:On p a b (some (u,v))) (hr:Rep p x y z (some (u,v))) (hd:Rd p x y z)
 (q:Q (.int v) σ):ah (U bs) (d+2) (.cst (.ref qU)) [.inst aj n] σ Q :=
 ah.of O (T:=T0) (by kernel_rfl) (by kernel_rfl) λ L=>Eq.mp (α:=aO n "_PointJacobi__coords" σ λ v=>d3 v λ x y z=>((decide (z=1))=true→Q (.int y) σ)∧((decide (z=1))=false→aO n "_PointJacobi__curve" σ λ v1=>dO 88 v1 λ i=>aD i "p" σ∧ah (U bs) (d+1) (.cst (.ref 57)) [.inst 88 i] σ λ v2 s=>dI v2 λ i1=>ah (U bs) (d+1) (.cst (.ref 21)) [.int z,.int i1] s λ v3 s1=>dI v3 λ i2=>((0:Int)≤3∧(3:Int)≤1000000∧aa i2)∧(aa y∨aa (i2^(3:Int).toNat))∧0<i1∧∀ r:Int,r=((y*(i2^(3:Int).toNat))%i1)→0≤r→r<i1→Q (.int r) s1)) (by kernel_rfl) (by
  have Hp:=C.pos
  have hp:=C.hp
  have l5:=C.lo
  refine (HA bO<|⟨λ h1=>?_,λ h2=>(zW bO<|⟨rfl,⟨(bA qt (by kernel_rfl)),?_⟩⟩)⟩)
  · have e:=of_decide_eq_true h1
    subst e
    rw [DY C hP hr hd.y]; exact q
  · refine iU O qt (AQ O (by lia) hp (Lg C hr.1) λ r qX qx hi=>?_)
    refine ⟨⟨by decide,⟨by decide,(bN.small (bN.mod qX qx hp) rfl)⟩⟩,⟨.inl (bN.small (bN.of hd.y hp) rfl),⟨Hp,λ r1 e_r cX cY=>?_⟩⟩⟩
    rwa [e_r,MO C hP hr hi])
theorem Fy (O:(U bs).Ok) {n c k:Nat} {p a b x y z:Int} {o:AV} {g:Bool} (C:Cv p a b) (bO:σ[n]? = some (.inst (q8 c x y z o g k))) (qt:σ[c]? = some (.inst (nh p a b))) {u v:Int} (hP:On p a b (some (u,v))) (hr:Rep p x y z (some (u,v))) (hd:Rd p x y z)
 (q:Q (.inst aj n) (σ.set n (.inst (q8 c u v 1 o g k)))):ah (U bs) (d+2) (.cst (.ref nq)) [.inst aj n] σ Q :=
 ah.of O (T:=T0) (by kernel_rfl) (by kernel_rfl) λ L=>Eq.mp (α:=aO n "_PointJacobi__coords" σ λ v=>d3 v λ x y z=>((decide (z=1))=true→Q (.inst 313 n) σ)∧((decide (z=1))=false→aO n "_PointJacobi__curve" σ λ v1=>dO 88 v1 λ i=>aD i "p" σ∧ah (U bs) (d+1) (.cst (.ref 57)) [.inst 88 i] σ λ v2 s=>dI v2 λ i1=>ah (U bs) (d+1) (.cst (.ref 21)) [.int z,.int i1] s λ v3 s1=>dI v3 λ i2=>(aa i2∨aa i2)∧0<i1∧∀ r:Int,r=((i2*i2)%i1)→0≤r→r<i1→(aa x∨aa r)∧0<i1∧∀ r1:Int,r1=((x*r)%i1)→0≤r1→r1<i1→(aa y∨aa r)∧(aa (y*r)∨aa i2)∧0<i1∧∀ r2:Int,r2=(((y*r)*i2)%i1)→0≤r2→r2<i1→∃ fs:List (Str×AV),s1[n]? = some (AO.inst fs)∧fs.length<1000∧Q (.inst 313 n) (s1.set n (AO.inst (aI "_PointJacobi__coords" (.tup [.int r1,.int r2,.int 1]) fs))))) (by kernel_rfl) (by
  have Hp:=C.pos
  have hp:=C.hp
  have l5:=C.lo
  have bx:=bN.of hd.x hp
  have Jb:=bN.of hd.y hp
  refine (HA bO<|⟨λ h1=>?_,λ h2=>(zW bO<|⟨rfl,⟨(bA qt (by kernel_rfl)),?_⟩⟩)⟩)
  · have e:=of_decide_eq_true h1
    subst e
    rw [DX C hP hr hd.x,DY C hP hr hd.y] at bO
    rwa [HB bO] at q
  · refine iU O qt (AQ O (by lia) hp (Lg C hr.1) λ r qX qx hi=>?_)
    refine ⟨(.inl (bN.small (bN.mod qX qx hp) rfl)),⟨Hp,λ r1 b7 cX cY=>⟨(.inl (bN.small bx rfl)),⟨Hp,λ r2 kR qY qZ=>⟨(.inl (bN.small Jb rfl)),⟨(.inl (bN.small (bN.mul Jb (bN.mod cX cY hp)) rfl)),⟨Hp,λ r3 oZ qN qO=>⟨_,⟨bO,⟨(by decide:5<1000),?_⟩⟩⟩⟩⟩⟩⟩⟩⟩⟩
    have e1:r2=u:=by rw [kR,b7,JU C hP hr hi]
    have e2:r3=v:=by rw [oZ,b7,JV C hP hr hi]
    subst e1 e2
    exact q)
end
end
noncomputable section
section
variable {bs:Bs} {d:Nat} {σ:List AO} {Q:AV→List AO→Prop}
theorem l5 {n:Nat} (h:n≤5):n<1000:=Nat.lt_of_le_of_lt h (by decide)
theorem Dt (O:(U bs).Ok) {n c:Nat} {x y z:Int} {o:AV} {g:Bool} (h:σ[n]? = some (.inst [])) (q:Q .none (σ.set n (.inst (q8 c x y z o g σ.length))++[.lst []])) :
 ah (U bs) (d+1) (.cst (.ref bH)) [.inst aj n,.inst aE c,.int x,.int y,.int z,o,.bool g] σ Q :=
 ah.of O (T:=T0) (by kernel_rfl) (by kernel_rfl) λ L=>Eq.mp (α:=∃ fs:List (Str×AV),σ[n]? = some (AO.inst fs)∧fs.length<1000∧∃ sM:List (Str×AV),(σ.set n (AO.inst (aI "_PointJacobi__curve" (.inst 88 c) fs)))[n]? = some (AO.inst sM)∧sM.length<1000∧∃ x9:List (Str×AV),((σ.set n (AO.inst (aI "_PointJacobi__curve" (.inst 88 c) fs))).set n (AO.inst (aI "_PointJacobi__coords" (.tup [.int x,.int y,.int z]) sM)))[n]? = some (AO.inst x9)∧x9.length<1000∧∃ BN:List (Str×AV),(((σ.set n (AO.inst (aI "_PointJacobi__curve" (.inst 88 c) fs))).set n (AO.inst (aI "_PointJacobi__coords" (.tup [.int x,.int y,.int z]) sM))).set n (AO.inst (aI "_PointJacobi__order" o x9)))[n]? = some (AO.inst BN)∧BN.length<1000∧∃ Lj:List (Str×AV),(((((σ.set n (AO.inst (aI "_PointJacobi__curve" (.inst 88 c) fs))).set n (AO.inst (aI "_PointJacobi__coords" (.tup [.int x,.int y,.int z]) sM))).set n (AO.inst (aI "_PointJacobi__order" o x9))).set n (AO.inst (aI "_PointJacobi__generator" (.bool g) BN)))++[AO.lst []])[n]? = some (AO.inst Lj)∧Lj.length<1000∧Q .none ((((((σ.set n (AO.inst (aI "_PointJacobi__curve" (.inst 88 c) fs))).set n (AO.inst (aI "_PointJacobi__coords" (.tup [.int x,.int y,.int z]) sM))).set n (AO.inst (aI "_PointJacobi__order" o x9))).set n (AO.inst (aI "_PointJacobi__generator" (.bool g) BN)))++[AO.lst []]).set n (AO.inst (aI "_PointJacobi__precompute" (.lst ((((σ.set n (AO.inst (aI "_PointJacobi__curve" (.inst 88 c) fs))).set n (AO.inst (aI "_PointJacobi__coords" (.tup [.int x,.int y,.int z]) sM))).set n (AO.inst (aI "_PointJacobi__order" o x9))).set n (AO.inst (aI "_PointJacobi__generator" (.bool g) BN))).length) Lj)))) (by kernel_rfl) (by
  have e:∀ k:Nat,(aI "_PointJacobi__precompute" (.lst k) (aI "_PointJacobi__generator" (.bool g) (aI "_PointJacobi__order" o (aI "_PointJacobi__coords" (.tup [.int x,.int y,.int z]) (aI "_PointJacobi__curve" (.inst aE c) [])))))=q8 c x y z o g k:=λ k=>by kernel_rfl
  refine ⟨_,h,l5 (Nat.zero_le _),_,getSet h,l5 (bM (k:=4) (Nat.zero_le _)),_,getSet (getSet h),l5 (bM (k:=4) (bM (k:=3) (Nat.zero_le _))),_,getSet (getSet (getSet h)),l5 (bM (k:=4) (bM (k:=3) (bM (k:=2) (Nat.zero_le _)))),_,bw (getSet (getSet (getSet (getSet h)))) _,l5 (bM (k:=4) (bM (k:=3) (bM (k:=2) (bM (k:=1) (Nat.zero_le _))))),?_⟩
  rw [iS,iS,iS,List.length_set,Ft (getSet h),iS,e]
  exact q)
theorem BO (O:(U bs).Ok) {n c:Nat} {x y z:Int} {o:AV} (h:σ[n]? = some (.inst [])) (q:Q .none (σ.set n (.inst (q8 c x y z o false σ.length))++[.lst []])) :
 ah (U bs) (d+1) (.cst (.ref bH)) [.inst aj n,.inst aE c,.int x,.int y,.int z,o] σ Q :=
 ah.of O (T:=T0) (by kernel_rfl) (by kernel_rfl) λ L=>Eq.mp (α:=∃ fs:List (Str×AV),σ[n]? = some (AO.inst fs)∧fs.length<1000∧∃ sM:List (Str×AV),(σ.set n (AO.inst (aI "_PointJacobi__curve" (.inst 88 c) fs)))[n]? = some (AO.inst sM)∧sM.length<1000∧∃ x9:List (Str×AV),((σ.set n (AO.inst (aI "_PointJacobi__curve" (.inst 88 c) fs))).set n (AO.inst (aI "_PointJacobi__coords" (.tup [.int x,.int y,.int z]) sM)))[n]? = some (AO.inst x9)∧x9.length<1000∧∃ BN:List (Str×AV),(((σ.set n (AO.inst (aI "_PointJacobi__curve" (.inst 88 c) fs))).set n (AO.inst (aI "_PointJacobi__coords" (.tup [.int x,.int y,.int z]) sM))).set n (AO.inst (aI "_PointJacobi__order" o x9)))[n]? = some (AO.inst BN)∧BN.length<1000∧∃ Lj:List (Str×AV),(((((σ.set n (AO.inst (aI "_PointJacobi__curve" (.inst 88 c) fs))).set n (AO.inst (aI "_PointJacobi__coords" (.tup [.int x,.int y,.int z]) sM))).set n (AO.inst (aI "_PointJacobi__order" o x9))).set n (AO.inst (aI "_PointJacobi__generator" (.bool false) BN)))++[AO.lst []])[n]? = some (AO.inst Lj)∧Lj.length<1000∧Q .none ((((((σ.set n (AO.inst (aI "_PointJacobi__curve" (.inst 88 c) fs))).set n (AO.inst (aI "_PointJacobi__coords" (.tup [.int x,.int y,.int z]) sM))).set n (AO.inst (aI "_PointJacobi__order" o x9))).set n (AO.inst (aI "_PointJacobi__generator" (.bool false) BN)))++[AO.lst []]).set n (AO.inst (aI "_PointJacobi__precompute" (.lst ((((σ.set n (AO.inst (aI "_PointJacobi__curve" (.inst 88 c) fs))).set n (AO.inst (aI "_PointJacobi__coords" (.tup [.int x,.int y,.int z]) sM))).set n (AO.inst (aI "_PointJacobi__order" o x9))).set n (AO.inst (aI "_PointJacobi__generator" (.bool false) BN))).length) Lj)))) (by kernel_rfl) (by
  have e:∀ k:Nat,(aI "_PointJacobi__precompute" (.lst k) (aI "_PointJacobi__generator" (.bool false) (aI "_PointJacobi__order" o (aI "_PointJacobi__coords" (.tup [.int x,.int y,.int z]) (aI "_PointJacobi__curve" (.inst aE c) [])))))=q8 c x y z o false k:=λ k=>by kernel_rfl
  refine ⟨_,h,l5 (Nat.zero_le _),_,getSet h,l5 (bM (k:=4) (Nat.zero_le _)),_,getSet (getSet h),l5 (bM (k:=4) (bM (k:=3) (Nat.zero_le _))),_,getSet (getSet (getSet h)),l5 (bM (k:=4) (bM (k:=3) (bM (k:=2) (Nat.zero_le _)))),_,bw (getSet (getSet (getSet (getSet h)))) _,l5 (bM (k:=4) (bM (k:=3) (bM (k:=2) (bM (k:=1) (Nat.zero_le _))))),?_⟩
  rw [iS,iS,iS,List.length_set,Ft (getSet h),iS,e]
  exact q)
theorem QJ (O:(U bs).Ok) {c:Nat} {x y z:Int} {o:AV} {g:Bool} (q:Q (.inst aj σ.length) (σ++[.inst (q8 c x y z o g (σ.length+1)),.lst []])) :
 ah (U bs) (d+2) (.cst (.ref aj)) [.inst aE c,.int x,.int y,.int z,o,.bool g] σ Q :=
 ah.make O (fI:=bH) (by kernel_rfl) (Dt O (getLast σ _) ⟨rfl,by rw [nB,List.length_append,List.append_assoc]; exact q⟩)
theorem CH (O:(U bs).Ok) {c:Nat} {x y z:Int} {o:AV} (q:Q (.inst aj σ.length) (σ++[.inst (q8 c x y z o false (σ.length+1)),.lst []])) :
 ah (U bs) (d+2) (.cst (.ref aj)) [.inst aE c,.int x,.int y,.int z,o] σ Q :=
 ah.make O (fI:=bH) (by kernel_rfl) (BO O (getLast σ _) ⟨rfl,by rw [nB,List.length_append,List.append_assoc]; exact q⟩)
theorem HL (q:Q (.bool true) σ):aA (U bs) (d+3) .NotEq .none (.int 1) σ Q:=aA.QH (by lia) (x:=.none) (y:=.int 1) rfl rfl rfl q
end
end
noncomputable section
section
variable {bs:Bs} {d:Nat} {σ:List AO} {Q:AV→List AO→Prop}
theorem Fz (O:(U bs).Ok) {n c k:Nat} {x y z:Int} {o:AV} {g:Bool} (bO:σ[n]? = some (.inst (q8 c x y z o g k))) (hz:z≠0) (q:Q (.bool false) σ) :
 ah (U bs) (d+1) (.cst (.ref lD)) [.inst aj n,.cst (.ref iM)] σ Q :=
 ah.of O (T:=T0) (by kernel_rfl) (by kernel_rfl) λ L=>Eq.mp (α:=aO n "_PointJacobi__coords" σ λ v=>d3 v λ x y z=>Q (.bool (!(decide (z≠0)))) σ) (by kernel_rfl) (HA bO (by
  show Q (.bool (!decide (z≠0))) σ
  rw [decide_eq_true hz]; exact q))
theorem CI (O:(U bs).Ok) {n c k:Nat} {x y z:Int} {o:AV} {g:Bool} (bO:σ[n]? = some (.inst (q8 c x y z o g k))) (hz:z≠0) (q:Q (.bool false) σ):aA (U bs) (d+1) .Eq (.inst aj n) (.cst (.ref iM)) σ Q :=
 OF O rfl (f:=lD) (t:=.ref qM) (by kernel_rfl) (by kernel_rfl) (Fz O bO hz ⟨rfl,q⟩)
theorem HM (O:(U bs).Ok) (q:Q (.cst (.bool true)) σ):ah (U bs) (d+1) (.cst (.ref oS)) [.cst (.ref iM),.cst (.ref iM)] σ Q:=ah.of O (T:=T0) (by kernel_rfl) (by kernel_rfl) λ L=>Eq.mp (α:=Q (.cst (.bool true)) σ) (by kernel_rfl) q
theorem Du (O:(U bs).Ok) (q:Q (.bool true) σ):ah (U bs) (d+1) (.cst (.ref oS)) [.cst (.ref iM),.cst (.ref iM)] σ Q :=
 ah.Ob (b:=true) (HM O ⟨rfl,q⟩)
theorem BP (O:(U bs).Ok) (q:Q (.bool true) σ):aA (U bs) (d+1) .Eq (.cst (.ref iM)) (.cst (.ref iM)) σ Q :=
 OG O rfl (C:=qM) (f:=oS) (t:=.ref qM) (by kernel_rfl) (by kernel_rfl) (by kernel_rfl) (Du O ⟨rfl,q⟩)
theorem Dv (O:(U bs).Ok) {n c k:Nat} {x y z:Int} {o:AV} {g:Bool} (bO:σ[n]? = some (.inst (q8 c x y z o g k))) (hz:z≠0) (q:Q (.inst aj n) σ) :
 ah (U bs) (d+2) (.cst (.ref aV)) [.inst aj n,.cst (.ref iM)] σ Q :=
 ah.of O (T:=Fv) (by kernel_rfl) (by kernel_rfl) λ L=>Eq.mp (α:=aA (U bs) (d+1) .Eq (.inst 313 n) (.cst (.ref 414)) σ λ a a1=>a=(.bool false)∧aA (U bs) (d+1) .Eq (.cst (.ref 414)) (.cst (.ref 414)) a1 λ a2 a3=>a2=(.bool true)∧Q (.inst 313 n) a3) (by kernel_rfl) (CI O bO hz ⟨rfl,BP O ⟨rfl,q⟩⟩)
theorem BQ (O:(U bs).Ok) (q:Q (.cst (.ref iM)) σ):ah (U bs) (d+2) (.cst (.ref cj)) [.cst (.ref iM),.cst (.ref iM)] σ Q :=
 ah.of O (T:=Dj) (by kernel_rfl) (by kernel_rfl) λ L=>Eq.mp (α:=aA (U bs) (d+1) .Eq (.cst (.ref 414)) (.cst (.ref 414)) σ λ a a1=>a=(.bool true)∧Q (.cst (.ref 414)) a1) (by kernel_rfl) (BP O ⟨rfl,q⟩)
theorem BR (O:(U bs).Ok) {n c k:Nat} {x y z:Int} {o:AV} {g:Bool} (bO:σ[n]? = some (.inst (q8 c x y z o g k))) (q:Q (.cst .notImplemented) σ):ah (U bs) (d+1) (.cst (.ref cj)) [.cst (.ref iM),.inst aj n] σ Q :=
 ah.of O (T:=T0) (by kernel_rfl) (by kernel_rfl) λ L=>Eq.mp (α:=aD n "" σ∧Q (.cst .notImplemented) σ) (by kernel_rfl) ⟨bA bO (by kernel_rfl),q⟩
theorem Jc (O:(U bs).Ok) {n c k:Nat} {x y z:Int} {o:AV} {g:Bool} (bO:σ[n]? = some (.inst (q8 c x y z o g k))) (hz:z≠0) (q:Q (.inst aj n) σ):aU (U bs) (d+2) .Add (.inst aj n) (.cst (.ref iM)) σ Q :=
 aU.two O rfl iR.inst (iR.cst (t:=.ref qM) (by kernel_rfl)) (f:=aV) (fD:=cj) (by kernel_rfl) (ah.w (Dv O bO hz ⟨rfl,q⟩))
theorem OH (O:(U bs).Ok) (q:Q (.cst (.ref iM)) σ):aU (U bs) (d+2) .Add (.cst (.ref iM)) (.cst (.ref iM)) σ Q :=
 aU.same O rfl (iR.cst (t:=.ref qM) (by kernel_rfl)) (iR.cst (t:=.ref qM) (by kernel_rfl)) (f:=cj) (by kernel_rfl) (ah.w (BQ O ⟨rfl,q⟩))
theorem Dw (O:(U bs).Ok) {n:Nat} {v:AV} (h:aU (U bs) d .Add (.inst aj n) v σ Q):ah (U bs) (d+1) (.cst (.ref ku)) [.inst aj n,v] σ Q :=
 ah.of O (T:=T0) (by kernel_rfl) (by kernel_rfl) λ L=>Eq.mp (α:=aU (U bs) d .Add (.inst 313 n) v σ λ a af=>Q a af) (by kernel_rfl) h
theorem OI (O:(U bs).Ok) {n c k:Nat} {x y z:Int} {o:AV} {g:Bool} (bO:σ[n]? = some (.inst (q8 c x y z o g k))) (hz:z≠0) (q:Q (.inst aj n) σ):aU (U bs) (d+3) .Add (.cst (.ref iM)) (.inst aj n) σ Q :=
 aU.Qo O rfl rfl (iR.cst (t:=.ref qM) (by kernel_rfl)) iR.inst (f:=cj) (fD:=aV) (g:=ku) (by kernel_rfl) (by kernel_rfl)
  (ah.w (BR O bO ⟨rfl,ah.w (Dw O (Jc O bO hz ⟨rfl,q⟩))⟩))
end
end
noncomputable section
section
variable {bs:Bs} {d:Nat} {σ:List AO} {Q:AV→List AO→Prop}
inductive D where
 | cur
 | raw (o:AO)
 | tab (T:List (Int×Int))
 | pj (P:Int×Int) (o:AV) (g:Bool)
 | st (k:Nat)
 | cells
noncomputable def yD (q:Int×Int):AV:=.tup [.int q.1,.int q.2]
noncomputable def wD:G→AV
 | none=>.none
 | some P=>yD P
def zJ (p a:Int) (P:Int×Int) (o:AV) (T:List (Int×Int)):Prop:=∃ n:Int,o=.int n∧(∀ i q,T[i]? = some q→some q=mul p a (2^i) (some P))∧4*n≤2^(T.length-1)∧T.length≤1000
noncomputable def zK (c:Nat) (p a b:Int) (ω:List D):D→AO→Prop
 | .cur,o=>o=.inst (nh p a b)
 | .raw o',o=>o=o'
 | .tab T,o=>o=.lst (T.map yD)
 | .st k,o=>∃ i:Int,0≤i∧o=.lst [.int i,.lst k]
 | .cells,o=>∃ cs:List Int,cs≠[]∧(∀ c∈cs,0≤c)∧cs.length≤1000∧o=.lst (cs.map .int)
 | .pj P od g,o=>∃ x y z k T,o=.inst (q8 c x y z od g k)∧On p a b (some P)∧Rep p x y z (some P)∧Rd p x y z∧ω[k]? = some (.tab T)∧(T=[]∨(g=true∧zJ p a P od T))
structure Gd (c:Nat) (p a b:Int) (ω:List D) (σ:List AO):Prop where
 len:σ.length=ω.length
 cur:ω[c]? = some .cur
 sat:∀ (n:Nat) (E:JL.D),ω[n]? = some E→∃ o,σ[n]? = some o∧zK c p a b ω E o
theorem au {ω:List D} {n:Nat} {o:D} (h:ω[n]? = some o) (δ:List D):(ω++δ)[n]? = some o:=by rw [List.getElem?_append_left (List.getElem?_eq_some_iff.mp h).1]; exact h
theorem zK.mono {c:Nat} {p a b:Int} {ω:List D} {D:JL.D} {o:AO} (h:zK c p a b ω D o) (δ:List JL.D):zK c p a b (ω++δ) D o:=by
 cases D with
 | pj P od g=>obtain ⟨x,y,z,k,T,e,h1,h2,h3,h4,h5⟩:=h; exact ⟨x,y,z,k,T,e,h1,h2,h3,au h4 δ,h5⟩
 | _=>exact h
section
variable {c:Nat} {p a b:Int} {ω:List D}
theorem Gd.AS (H:Gd c p a b ω σ):σ[c]? = some (.inst (nh p a b)):=by
 refine aG λ G kG=>?_
 obtain ⟨o,h,e⟩:=H.sat _ _ H.cur
 refine kG ?_
 rw [h,show o=_ from e]
theorem Gd.raw (H:Gd c p a b ω σ) {n:Nat} {o:AO} (h:ω[n]? = some (.raw o)):σ[n]? = some o:=by
 refine aG λ G kG=>?_
 obtain ⟨o',h,e⟩:=H.sat _ _ h
 refine kG ?_
 rw [h,show o'=_ from e]
theorem Gd.tab (H:Gd c p a b ω σ) {n:Nat} {T:List (Int×Int)} (h:ω[n]? = some (.tab T)):σ[n]? = some (.lst (T.map yD)):=by
 refine aG λ G kG=>?_
 obtain ⟨o',h,e⟩:=H.sat _ _ h
 refine kG ?_
 rw [h,show o'=_ from e]
inductive R3 (c:Nat) (p a b:Int) (ω:List D) (σ:List AO) (n:Nat) (P:Int×Int) (o:AV) (g:Bool):Prop
 | mk (x y z:Int) (k:Nat) (T:List (Int×Int)) (e:σ[n]? = some (.inst (q8 c x y z o g k))) (h1:On p a b (some P)) (h2:Rep p x y z (some P)) (h3:Rd p x y z) (h4:ω[k]? = some (.tab T)) (h5:T=[]∨(g=true∧zJ p a P o T)):R3 c p a b ω σ n P o g
theorem Gd.pj (H:Gd c p a b ω σ) {n:Nat} {P:Int×Int} {o:AV} {g:Bool} (h:ω[n]? = some (.pj P o g)):R3 c p a b ω σ n P o g:=by
 refine aG λ G kG=>?_
 obtain ⟨o',h,x,y,z,k,T,e,r⟩:=H.sat _ _ h
 refine kG ?_
 exact ⟨x,y,z,k,T,by rw [h,e],r.1,r.2.1,r.2.2.1,r.2.2.2.1,r.2.2.2.2⟩
theorem Gd.push (H:Gd c p a b ω σ) {D:JL.D} {o:AO} (h:zK c p a b (ω++[D]) D o):Gd c p a b (ω++[D]) (σ++[o]):=by
 refine ⟨by rw [List.length_append,List.length_append,H.len]; rfl,au H.cur _,λ n E hn=>?_⟩
 by_cases hl:n<ω.length
 · rw [List.getElem?_append_left hl] at hn
   refine aG λ G kG=>?_
   obtain ⟨o',h1,h2⟩:=H.sat n E hn
   refine kG ?_
   exact ⟨o',bw h1 _,h2.mono _⟩
 · rw [List.getElem?_append_right (Nat.not_lt.mp hl)] at hn
   have e:n-ω.length=0:=by have:=(List.getElem?_eq_some_iff.mp hn).1; simpa using this
   rw [e] at hn
   cases hn
   have e2:n=σ.length:=by rw [H.len]; exact Lq.nz (by assumption) (by assumption)
   rw [e2]
   exact ⟨o,getLast σ o,h⟩
theorem Gd.kU (H:Gd c p a b ω σ) (o:AO):Gd c p a b (ω++[.raw o]) (σ++[o]):=H.push rfl
theorem Gd.ya (H:Gd c p a b ω σ) {P:Int×Int} {x y z:Int} {o:AV} {g:Bool} (h1:On p a b (some P)) (h2:Rep p x y z (some P)) (h3:Rd p x y z) :
 Gd c p a b (ω++[.pj P o g,.tab []]) (σ++[.inst (q8 c x y z o g (σ.length+1)),.lst []]):=by
 refine ⟨by rw [List.length_append,List.length_append,H.len]; rfl,au H.cur _,λ n E hn=>?_⟩
 by_cases hl:n<ω.length
 · rw [List.getElem?_append_left hl] at hn
   refine aG λ G kG=>?_
   obtain ⟨o',e1,e2⟩:=H.sat n E hn
   refine kG ?_
   exact ⟨o',bw e1 _,e2.mono _⟩
 · rw [List.getElem?_append_right (Nat.not_lt.mp hl)] at hn
   have hlt:=(List.getElem?_eq_some_iff.mp hn).1
   rw [List.getElem?_append_right (by rw [H.len]; exact Nat.not_lt.mp hl),H.len]
   have hlt:n-ω.length<2:=hlt
   generalize hk:n-ω.length=k at hn hlt
   match k,hlt,hn with
   | 0,_,hn =>
    cases hn
    refine ⟨_,rfl,x,y,z,ω.length+1,[],rfl,h1,h2,h3,?_,.inl rfl⟩
    rw [List.getElem?_append_right (Lq.nr _ _),show ω.length+1-ω.length=1 by lia]; rfl
   | 1,_,hn=>cases hn; exact ⟨_,rfl,rfl⟩
theorem Gd.set (H:Gd c p a b ω σ) {n:Nat} {D:JL.D} {o:AO} (h:ω[n]? = some D) (hs:zK c p a b ω D o):Gd c p a b ω (σ.set n o):=by
 refine ⟨by rw [List.length_set]; exact H.len,H.cur,λ m E hm=>?_⟩
 by_cases e:n=m
 · subst e
   rw [h] at hm
   cases hm
   refine aG λ G kG=>?_
   obtain ⟨o',h1,_⟩:=H.sat n D h
   refine kG ?_
   exact ⟨o,getSet h1,hs⟩
 · obtain ⟨o',h1,h2⟩:=H.sat m E hm
   exact ⟨o',bB h1 e,h2⟩
theorem Gd.scaled (C:Cv p a b) (H:Gd c p a b ω σ) {n k:Nat} {P:Int×Int} {x y z:Int} {o:AV} {g:Bool} (h:ω[n]? = some (.pj P o g)) (hn:σ[n]? = some (.inst (q8 c x y z o g k))):Gd c p a b ω (σ.set n (.inst (q8 c P.1 P.2 1 o g k))):=by
 refine aG λ G kG=>?_
 obtain ⟨x',y',z',k',T,e,h1,h2,h3,h4,h5⟩:=H.pj h
 rw [hn] at e
 injection e with e
 injection e with e
 refine kG ?_
 have ek:k=k':=by
  have:=congrArg (λ l:List (Str×AV)=>l[4]?) e
  injection this with this
  injection this with _ this
  injection this
 subst ek
 exact H.set h ⟨P.1,P.2,1,k,T,rfl,h1,wK C,⟨h1.1,h1.2.1,by have:=C.lo; lia⟩,h4,h5⟩
end
theorem tU {p x y z:Int} {P:Int×Int} (hr:Rep p x y z (some P)):z≠0:=λ e=>hr.1 (by rw [e]; exact Int.zero_emod p)
end
end
noncomputable section
section
variable {bs:Bs} {d:Nat} {σ:List AO} {Q:AV→List AO→Prop}
noncomputable def Den (ω:List D) (o:AV):G→AV→Prop
 | none,v=>v=.cst (.ref iM)
 | some P,v=>∃ n g,v=.inst aj n∧ω[n]? = some (.pj P o g)∧(o=.none→g=false)
theorem Den.mono {ω:List D} {o:AV} {R:G} {v:AV} (h:Den ω o R v) (δ:List D):Den (ω++δ) o R v:=by
 cases R with
 | none=>exact h
 | some P=>obtain ⟨n,g,e,h,z⟩:=h; exact ⟨n,g,e,au h δ,z⟩
section
variable {c:Nat} {p a b:Int} {ω:List D}
theorem FA (O:(U bs).Ok) {n m k k':Nat} {x y z x' y' z':Int} {o o':AV} {g g':Bool} (C:Cv p a b) (ha:0≤a∧a<p) (bO:σ[n]? = some (.inst (q8 c x y z o g k))) (BK:σ[m]? = some (.inst (q8 c x' y' z' o' g' k'))) (qt:σ[c]? = some (.inst (nh p a b))) {P R:Int×Int} (hP:On p a b (some P)) (hR:On p a b (some R))
 (hr:Rep p x y z (some P)) (hd:Rd p x y z) (hr':Rep p x' y' z' (some R)) (hd':Rd p x' y' z') (ho:ki o=true) (q0:plus p a (some P) (some R)=none→Q (.cst (.ref iM)) σ)
 (q1:∀ S x y z,plus p a (some P) (some R)=some S→Rep p x y z (some S)→Rd p x y z→Q (.inst aj σ.length) (σ++[.inst (q8 c x y z o false (σ.length+1)),.lst []])) :
 ah (U bs) (d+5) (.cst (.ref aV)) [.inst aj n,.inst aj m] σ Q :=
 ah.of O (T:=HC) (by kernel_rfl) (by kernel_rfl) λ L=>Eq.mp (α:=aA (U bs) (d+4) .Eq (.inst 313 n) (.cst (.ref 414)) σ λ a a1=>a=(.bool false)∧aA (U bs) (d+4) .Eq (.inst 313 m) (.cst (.ref 414)) a1 λ a2 a3=>a2=(.bool false)∧aD m "" a3∧aO n "_PointJacobi__curve" a3 λ v=>dO 88 v λ i=>aO m "_PointJacobi__curve" a3 λ v1=>dO 88 v1 λ i1=>aA (U bs) (d+4) .NotEq (.inst 88 i) (.inst 88 i1) a3 λ a4 a5=>a4=(.bool false)∧aO n "_PointJacobi__curve" a5 λ v2=>dO 88 v2 λ i2=>aD i2 "p" a5∧ah (U bs) (d+4) (.cst (.ref 57)) [.inst 88 i2] a5 λ v3 s=>dI v3 λ i3=>aO n "_PointJacobi__coords" s λ v4=>d3 v4 λ x y z=>aO m "_PointJacobi__coords" s λ v5=>d3 v5 λ x1 y1 z1=>aD n "_add" s∧ah (U bs) (d+4) (.cst (.ref 268)) [.inst 313 n,.int x,.int y,.int z,.int x1,.int y1,.int z1,.int i3] s λ v6 s1=>d3 v6 λ x2 y2 z2=>((!(decide (z2≠0)))=true→Q (.cst (.ref 414)) s1)∧((!(decide (z2≠0)))=false→aO n "_PointJacobi__curve" s1 λ v7=>dO 88 v7 λ i4=>aO n "_PointJacobi__order" s1 λ v8=>ah (U bs) (d+4) (.cst (.ref 313)) [.inst 88 i4,.int x2,.int y2,.int z2,v8] s1 λ v9 s2=>dO 313 v9 λ i5=>Q (.inst 313 i5) s2)) (by kernel_rfl) (by
  have Hp:=C.pos
  have hp:=C.hp
  refine CI O bO (tU hr) ⟨rfl,CI O BK (tU hr') ⟨rfl,bA BK (by kernel_rfl),zW bO ⟨rfl,zW BK ⟨rfl,Le O qt qt Hp ⟨rfl,zW bO ⟨rfl,bA qt (by kernel_rfl),iU O qt (HA bO (HA BK ⟨bA bO (by kernel_rfl),BI O C ⟨c,x,y,z,o,g,k,bO,qt⟩ hP hR hr hr' (bN.of hd.x hp) (bN.of hd.y hp) (bN.of hd'.x hp) (bN.of hd'.y hp) (bN.of ha hp) hd.z hd'.z (λ _ _ hx hy=>?_) λ x2 y2 z2 rd rep=>⟨λ h1=>?_,λ h2=>?_⟩⟩))⟩⟩⟩⟩⟩⟩
  · have f1:=Int.emod_eq_emod_iff_emod_sub_eq_zero.mpr hx
    have f2:=Int.emod_eq_emod_iff_emod_sub_eq_zero.mpr hy
    rw [tT hd.x,tT hd'.x] at f1
    rw [tT hd.y,tT hd'.y] at f2
    exact ⟨f1.symm,f2.symm⟩
  · have e:z2=0:=nT h1
    exact q0 (sC C (cU C hP hR) rep (by rw [e]; exact Int.zero_emod p))
  · have e:z2≠0:=nF h2
    obtain ⟨S,hS⟩:=z7 rep (by rw [tT rd.z]; exact e)
    rw [hS] at rep
    exact zW bO ⟨rfl,K9 bO ho (CH O ⟨rfl,q1 S x2 y2 z2 hS rep rd⟩)⟩)
theorem OJ (O:(U bs).Ok) (C:Cv p a b) (ha:0≤a∧a<p) (H:Gd c p a b ω σ) {n m:Nat} {P R:Int×Int} {o o':AV} {g g':Bool} (hn:ω[n]? = some (.pj P o g)) (hm:ω[m]? = some (.pj R o' g')) (ho:ki o=true)
 (q:∀ v δ σ',Gd c p a b (ω++δ) σ'→Den (ω++δ) o (plus p a (some P) (some R)) v→Q v σ'):ah (U bs) (d+5) (.cst (.ref aV)) [.inst aj n,.inst aj m] σ Q:=by
 refine aG λ G kG=>?_
 obtain ⟨x,y,z,k,T,e,h1,h2,h3,_⟩:=H.pj hn
 obtain ⟨x',y',z',k',T',e',Px,h2',h3',_⟩:=H.pj hm
 refine kG ?_
 refine FA O C ha e e' H.AS h1 Px h2 h3 h2' h3' ho (λ e0=>?_) λ S x2 y2 z2 eS r rd=>?_
 · refine q _ [] _ (by rw [List.append_nil]; exact H) ?_
   rw [e0]; exact rfl
 · refine q _ _ _ (H.ya (by rw [← eS]; exact cU C h1 Px) r rd) ?_
   rw [eS]
   exact ⟨_,false,by rw [H.len],by rw [List.getElem?_append_right (Nat.le_refl _),Nat.sub_self]; rfl,λ _=>rfl⟩
theorem Lk (O:(U bs).Ok) (C:Cv p a b) (ha:0≤a∧a<p) (H:Gd c p a b ω σ) {P R:G} {o:AV} {v w:AV} (hv:Den ω o P v) (hw:Den ω o R w) (ho:ki o=true)
 (q:∀ v δ σ',Gd c p a b (ω++δ) σ'→Den (ω++δ) o (plus p a P R) v→qR v=true∧Q v σ'):aU (U bs) (d+5) .Add v w σ Q:=by
 have H0:Gd c p a b (ω++[]) σ:=by rw [List.append_nil]; exact H
 cases P with
 | none =>
  cases hv
  cases R with
  | none=>cases hw; exact OH O (q _ [] _ H0 rfl).2
  | some R =>
   refine aG λ G kG=>?_
   obtain ⟨m,g',rfl,hm,hz⟩:=hw
   obtain ⟨x',y',z',k',T',e',Px,h2',h3',_⟩:=H.pj hm
   refine kG ?_
   exact OI O e' (tU h2') (q _ [] _ H0 ⟨m,g',rfl,au hm _,hz⟩).2
 | some P =>
  refine aG λ G kG=>?_
  obtain ⟨n,g,rfl,hn,hz⟩:=hv
  refine kG ?_
  cases R with
  | none =>
   cases hw
   refine aG λ G kG=>?_
   obtain ⟨x',y',z',k',T',e',Px,h2',h3',_⟩:=H.pj hn
   refine kG ?_
   exact Jc O e' (tU h2') (q _ [] _ H0 ⟨n,g,rfl,au hn _,hz⟩).2
  | some R =>
   refine aG λ G kG=>?_
   obtain ⟨m,g',rfl,hm,hz⟩:=hw
   refine kG ?_
   exact aU.same O rfl iR.inst iR.inst (f:=aV) (by kernel_rfl) (ah.w (OJ O C ha H hn hm ho q))
end
end
end
noncomputable section
section
variable {bs:Bs} {d:Nat} {σ:List AO} {Q:AV→List AO→Prop}
theorem sN {n:Int} (h0:0≤n) (h:n≤1000000):Builtin.Range.small 0 n 1=true:=by
 have h1:(-(2^62):Int)≤0:=by decide
 have h2:(1000000:Int)<2^62:=by decide
 exact small_one h1 (by decide) (Lq.ll h1 h0) (Lq.ls h h2)
theorem CJ (O:(U bs).Ok) {n p:Int} (h2:2≤p) (hp:p≤((1000:Nat):Int)) (q:Q (.int (inv p n)) σ):ah (U bs) (d+1) (.cst (.ref oV)) [.int n,.int p] σ Q :=
 ah.of O (T:=T0) (by kernel_rfl) (by kernel_rfl) λ L=>Eq.mp (α:=0<p∧∀ r:Int,r=(n%p)→0≤r→r<p→(0≤(p-2)∧(p-2)≤1000000∧aa r)∧0<p∧∀ r1:Int,r1=((r^(p-2).toNat)%p)→0≤r1→r1<p→Q (.int r1) σ) (by kernel_rfl) (by
  have Hp:0<p:=by lia
  refine ⟨Hp,λ r e_r qX qx=>⟨⟨(Lq.dl _ h2),Lq.ll (Lq.dl _ hp) (by decide),(bN.small (bN.mod qX qx hp) rfl)⟩,Hp,λ r1 b7 cX cY=>?_⟩⟩
  rw [b7,e_r]; exact q)
theorem OL {x y u v:Int} (hd:3≤d) (q:Q (.bool (decide ((x,y)=(u,v)))) σ):aA (U bs) d .Eq (.tup [.int x,.int y]) (.tup [.int u,.int v]) σ Q :=
 aA.TR hd (x:=.tuple [.int x,.int y]) (y:=.tuple [.int u,.int v]) rfl rfl rfl (by
  have:PyData.eqv (.tuple [.int x,.int y]) (.tuple [.int u,.int v])=decide ((x,y)=(u,v)):=by
   simp only [PyData.eqv,PyData.eqvAll,Bool.and_true]
   by_cases h1:x=u<;>by_cases h2:y=v<;>simp [h1,h2]
  rw [this]; exact q)
def R4 (bs:Bs) (d:Nat) (p a x y u v:Int) (σ:List AO) (Q:AV→List AO→Prop):Prop:=(aA (U bs) (d+3) .Eq (.tup [(.int x),(.int y)]) (.tup [(.int u),(.int v)]) σ (λ a1=>(λ a2=>(dB a1 (λ c=>(((c=true)→(((aa (3:Int))∨(aa x))∧(((aa ((3:Int)*x))∨(aa x))∧(((aa (2:Int))∨(aa y))∧(ah (U bs) (d+3) (.cst (.ref oV)) [(.int ((2:Int)*y)),(.int p)] a2 (λ v1=>(λ s=>(dI v1 (λ i=>(((aa ((((3:Int)*x)*x)+a))∨(aa i))∧(((0:Int)<p)∧(∀ r:Int,((r=((((((3:Int)*x)*x)+a)*i)%p))→(((0:Int)≤r)→((r<p)→(((aa r)∨(aa r))∧(((0:Int)<p)∧(∀ r1:Int,((r1=((((r*r)-x)-u)%p))→(((0:Int)≤r1)→((r1<p)→(((aa r)∨(aa (x-r1)))∧(((0:Int)<p)∧(∀ r2:Int,((r2=(((r*(x-r1))-y)%p))→(((0:Int)≤r2)→((r2<p)→(Q (.tup [(.int r1),(.int r2)]) s))))))))))))))))))))))))))))∧((c=false)→(ah (U bs) (d+3) (.cst (.ref oV)) [(.int (u-x)),(.int p)] a2 (λ v1=>(λ s=>(dI v1 (λ i=>(((aa (v-y))∨(aa i))∧(((0:Int)<p)∧(∀ r:Int,((r=(((v-y)*i)%p))→(((0:Int)≤r)→((r<p)→(((aa r)∨(aa r))∧(((0:Int)<p)∧(∀ r1:Int,((r1=((((r*r)-x)-u)%p))→(((0:Int)≤r1)→((r1<p)→(((aa r)∨(aa (x-r1)))∧(((0:Int)<p)∧(∀ r2:Int,((r2=(((r*(x-r1))-y)%p))→(((0:Int)≤r2)→((r2<p)→(Q (.tup [(.int r1),(.int r2)]) s)))))))))))))))))))))))))))))))
theorem Jd (O:(U bs).Ok) {p a b:Int} (C:Cv p a b) (ha:0≤a∧a<p) {x y u v:Int} (hP:On p a b (some (x,y))) (hR:On p a b (some (u,v))) (hn:¬ (x=u∧(y+v)%p=0)) (q:Q (wD (plus p a (some (x,y)) (some (u,v)))) σ):R4 bs d p a x y u v σ Q:=by
 have Hp:=C.pos
 have hp:=C.hp
 have l5:=C.lo
 have bx:=bN.of hP.1 hp
 have Jb:=bN.of hP.2.1 hp
 have bu:=bN.of hR.1 hp
 have bv:=bN.of hR.2.1 hp
 have ba:=bN.of ha hp
 have q':Q (wD (if x=u∧(y+v)%p=0 then none else some (((if (x,y)=(u,v) then (3*x*x+a)*inv p (2*y)%p else (v-y)*inv p (u-x)%p)*(if (x,y)=(u,v) then (3*x*x+a)*inv p (2*y)%p else (v-y)*inv p (u-x)%p)-x-u)%p,
  ((if (x,y)=(u,v) then (3*x*x+a)*inv p (2*y)%p else (v-y)*inv p (u-x)%p)*(x-((if (x,y)=(u,v) then (3*x*x+a)*inv p (2*y)%p else (v-y)*inv p (u-x)%p)*(if (x,y)=(u,v) then (3*x*x+a)*inv p (2*y)%p else (v-y)*inv p (u-x)%p)-x-u)%p)-y)%p))) σ:=q
 have bi:∀ n,bN 1000 (inv p n):=λ n=>bN.mod (Int.emod_nonneg _ (Lq.y Hp)) (Int.emod_lt_of_pos _ Hp) hp
 have Uk:=bi (2*y)
 have Ul:=bi (u-x)
 replace q:=q'
 clear q' hP hR
 unfold R4
 rw [if_neg hn] at q
 refine OL (by lia) ⟨λ h=>?_,λ h=>?_⟩
 · have e:=of_decide_eq_true h
   rw [if_pos e] at q
   refine ⟨(.inl (bN.small (bN.num 3) rfl)),(.inl (bN.small (bN.mul (bN.num 3) bx) rfl)),(.inl (bN.small (bN.num 2) rfl)),CJ O (Lq.ll (by decide) l5) hp ⟨(.inl (bN.small (bN.add (bN.mul (bN.mul (bN.num 3) bx) bx) ba) rfl)),Hp,λ r1 b7 cX cY=>⟨(.inl (bN.small (bN.mod cX cY hp) rfl)),Hp,λ r2 kR qY qZ=>⟨(.inl (bN.small (bN.mod cX cY hp) rfl)),Hp,λ r3 oZ qN qO=>?_⟩⟩⟩⟩
   rw [← b7,← kR,← oZ] at q
   exact q
 · have e:=of_decide_eq_false h
   rw [if_neg e] at q
   refine CJ O (Lq.ll (by decide) l5) hp ⟨(.inl (bN.small (bN.sub bv Jb) rfl)),Hp,λ r1 b7 cX cY=>⟨(.inl (bN.small (bN.mod cX cY hp) rfl)),Hp,λ r2 kR qY qZ=>⟨(.inl (bN.small (bN.mod cX cY hp) rfl)),Hp,λ r3 oZ qN qO=>?_⟩⟩⟩
   rw [← b7,← kR,← oZ] at q
   exact q
theorem sO (O:(U bs).Ok) {p a b:Int} (C:Cv p a b) (ha:0≤a∧a<p) {P R:G} (hP:On p a b P) (hR:On p a b R) (q:Q (wD (plus p a P R)) σ):ah (U bs) (d+4) (.cst (.ref cS)) [.int p,.int a,wD P,wD R] σ Q:=by
 have Hp:=C.pos
 have hp:=C.hp
 have l5:=C.lo
 cases P with
 | none=>exact (show ∀ v:AV,Q v σ→ah (U bs) (d+4) (.cst (.ref cS)) [.int p,.int a,.none,v] σ Q from λ v q=>ah.of O (T:=T0) (by kernel_rfl) (by kernel_rfl) λ L=>Eq.mp (α:=Q v σ) (by kernel_rfl) q) _ q
 | some P=>cases R with
  | none =>
   refine aG λ G kG=>?_
   obtain ⟨x,y⟩:=P
   refine kG ?_
   exact (show Q (.tup [.int x,.int y]) σ→ah (U bs) (d+4) (.cst (.ref cS)) [.int p,.int a,.tup [.int x,.int y],.none] σ Q from λ q=>ah.of O (T:=T0) (by kernel_rfl) (by kernel_rfl) λ L=>Eq.mp (α:=Q (.tup [.int x,.int y]) σ) (by kernel_rfl) q) q
  | some R =>
   refine aG λ G kG=>?_
   obtain ⟨x,y⟩:=P
   obtain ⟨u,v⟩:=R
   refine kG ?_
   exact (show Q _ σ→ah (U bs) (d+4) (.cst (.ref cS)) [.int p,.int a,.tup [.int x,.int y],.tup [.int u,.int v]] σ Q from λ q=>ah.of O (T:=HE) (by kernel_rfl) (by kernel_rfl) λ L=>Eq.mp (α:=((decide (x=u))=true→0<p∧∀ r:Int,r=((y+v)%p)→0≤r→r<p→((decide (r=0))=true→Q .none σ)∧((decide (r=0))=false→aA (U bs) (d+3) .Eq (.tup [.int x,.int y]) (.tup [.int u,.int v]) σ λ a1 a2=>dB a1 λ c=>(c=true→(aa 3∨aa x)∧(aa (3*x)∨aa x)∧(aa 2∨aa y)∧ah (U bs) (d+3) (.cst (.ref 581)) [.int (2*y),.int p] a2 λ v1 s=>dI v1 λ i=>(aa (((3*x)*x)+a)∨aa i)∧0<p∧∀ r1:Int,r1=(((((3*x)*x)+a)*i)%p)→0≤r1→r1<p→(aa r1∨aa r1)∧0<p∧∀ r2:Int,r2=((((r1*r1)-x)-u)%p)→0≤r2→r2<p→(aa r1∨aa (x-r2))∧0<p∧∀ r3:Int,r3=(((r1*(x-r2))-y)%p)→0≤r3→r3<p→Q (.tup [.int r2,.int r3]) s)∧(c=false→ah (U bs) (d+3) (.cst (.ref 581)) [.int (u-x),.int p] a2 λ v1 s=>dI v1 λ i=>(aa (v-y)∨aa i)∧0<p∧∀ r1:Int,r1=(((v-y)*i)%p)→0≤r1→r1<p→(aa r1∨aa r1)∧0<p∧∀ r2:Int,r2=((((r1*r1)-x)-u)%p)→0≤r2→r2<p→(aa r1∨aa (x-r2))∧0<p∧∀ r3:Int,r3=(((r1*(x-r2))-y)%p)→0≤r3→r3<p→Q (.tup [.int r2,.int r3]) s)))∧((decide (x=u))=false→aA (U bs) (d+3) .Eq (.tup [.int x,.int y]) (.tup [.int u,.int v]) σ λ a1 a2=>dB a1 λ c=>(c=true→(aa 3∨aa x)∧(aa (3*x)∨aa x)∧(aa 2∨aa y)∧ah (U bs) (d+3) (.cst (.ref 581)) [.int (2*y),.int p] a2 λ v1 s=>dI v1 λ i=>(aa (((3*x)*x)+a)∨aa i)∧0<p∧∀ r:Int,r=(((((3*x)*x)+a)*i)%p)→0≤r→r<p→(aa r∨aa r)∧0<p∧∀ r1:Int,r1=((((r*r)-x)-u)%p)→0≤r1→r1<p→(aa r∨aa (x-r1))∧0<p∧∀ r2:Int,r2=(((r*(x-r1))-y)%p)→0≤r2→r2<p→Q (.tup [.int r1,.int r2]) s)∧(c=false→ah (U bs) (d+3) (.cst (.ref 581)) [.int (u-x),.int p] a2 λ v1 s=>dI v1 λ i=>(aa (v-y)∨aa i)∧0<p∧∀ r:Int,r=(((v-y)*i)%p)→0≤r→r<p→(aa r∨aa r)∧0<p∧∀ r1:Int,r1=((((r*r)-x)-u)%p)→0≤r1→r1<p→(aa r∨aa (x-r1))∧0<p∧∀ r2:Int,r2=(((r*(x-r1))-y)%p)→0≤r2→r2<p→Q (.tup [.int r1,.int r2]) s))) (by kernel_rfl) (by
    refine ⟨λ h1=>⟨Hp,λ r e_r qX qx=>⟨λ h2=>?_,λ h3=>Jd O C ha hP hR (λ h=>of_decide_eq_false h3 (by rw [e_r]; exact h.2)) q⟩⟩,λ h4=>Jd O C ha hP hR (λ h=>of_decide_eq_false h4 h.1) q⟩
    rw [show plus p a (some (x,y)) (some (u,v))=none from if_pos ⟨of_decide_eq_true h1,by rw [← e_r]; exact of_decide_eq_true h2⟩] at q
    exact q)) q
theorem Dy (O:(U bs).Ok) {p a b:Int} (C:Cv p a b) {P:G} (q:Q (wD (minus p P)) σ):ah (U bs) (d+1) (.cst (.ref qL)) [.int p,wD P] σ Q:=by
 have Hp:=C.pos
 cases P with
 | none=>exact (show Q .none σ→ah (U bs) (d+1) (.cst (.ref qL)) [.int p,.none] σ Q from λ q=>ah.of O (T:=T0) (by kernel_rfl) (by kernel_rfl) λ L=>Eq.mp (α:=Q .none σ) (by kernel_rfl) q) q
 | some P =>
  refine aG λ G kG=>?_
  obtain ⟨x,y⟩:=P
  refine kG ?_
  exact (show Q (.tup [.int x,.int ((0-y)%p)]) σ→ah (U bs) (d+1) (.cst (.ref qL)) [.int p,.tup [.int x,.int y]] σ Q from λ q=>ah.of O (T:=T0) (by kernel_rfl) (by kernel_rfl) λ L=>Eq.mp (α:=0<p∧∀ r:Int,r=((0-y)%p)→0≤r→r<p→Q (.tup [.int x,.int r]) σ) (by kernel_rfl) ⟨Hp,λ r e_r qX qx=>by rw [e_r]; exact q⟩) q
def R5 (bs:Bs) (d:Nat) (p a n:Int) (v:AV) (σ:List AO) (Q:AV→List AO→Prop):Prop:=(∃ I:Int→AV→AV→Nat→List AO→Prop,((∃ m:Nat,(I n .none v m σ))∧(∀ a1:Int,(∀ a2:AV,(∀ a3:AV,(∀ m:Nat,(∀ af:List AO,((I a1 a2 a3 m af)→((((decide (((0:Int)<a1)))=true)→(((0:Int)<(2:Int))∧(∀ r:Int,((r=(a1%(2:Int)))→(((0:Int)≤r)→((r<(2:Int))→((((decide ((r=(1:Int))))=true)→(ah (U bs) (d+4) (.cst (.ref cS)) [(.int p),(.int a),a2,a3] af (λ v1=>(λ s=>(ah (U bs) (d+4) (.cst (.ref cS)) [(.int p),(.int a),a3,a3] s (λ v2=>(λ s1=>((((0:Int)<(2:Int))∧((2:Int)<(1073741824:Int)))∧(∃ m':Nat,((m'<m)∧(I (a1 / (2:Int)) v1 v2 m' s1)))))))))))∧(((decide ((r=(1:Int))))=false)→(ah (U bs) (d+4) (.cst (.ref cS)) [(.int p),(.int a),a3,a3] af (λ v1=>(λ s=>((((0:Int)<(2:Int))∧((2:Int)<(1073741824:Int)))∧(∃ m':Nat,((m'<m)∧(I (a1 / (2:Int)) a2 v1 m' s)))))))))))))))∧(((decide (((0:Int)<a1)))=false)→(Q a2 af)))))))))))
theorem Je (O:(U bs).Ok) {p a b:Int} (C:Cv p a b) (ha:0≤a∧a<p) {P0:G} (h0:On p a b P0) {n0:Int} (hn0:0≤n0) (q:Q (wD (mul p a n0 P0)) σ):R5 bs d p a n0 (wD P0) σ Q:=by
 have step:∀ (k:Int) (T S:G),On p a b T→On p a b S→0<k→plus p a T (mul p a k S)=(if k%2=1 then plus p a (plus p a T S) (mul p a (k / 2) (plus p a S S)) else plus p a T (mul p a (k / 2) (plus p a S S))):=λ k T S hT hS hk=>by
  have e2:mul p a (k / 2) (plus p a S S)=mul p a (k / 2*2) S:=by
   rw [kg C hS,show mul p a 2 S=plus p a S S from by
    have:=mul_succ C hS 1
    rw [mul_one] at this
    exact this]
  rw [e2]
  by_cases h:k%2=1
  · rw [if_pos h,kP C hT hS (bD C hS _)]
    have:plus p a S (mul p a (k / 2*2) S)=mul p a (1+k / 2*2) S:=by rw [mul_add C hS,mul_one]
    rw [this,show 1+k / 2*2=k by (clear this e2 hk; lia)]
  · rw [if_neg h,show k / 2*2=k by (clear e2 hk; lia)]
 unfold R5
 refine ⟨λ a1 a2 a3 m af=>∃ T S,a2=wD T∧a3=wD S∧On p a b T∧On p a b S∧0≤a1∧m=a1.toNat∧af=σ∧plus p a T (mul p a a1 S)=mul p a n0 P0,⟨_,none,P0,rfl,rfl,trivial,h0,hn0,rfl,rfl,rfl⟩,λ a1 a2 a3 m af hI=>?_⟩
 refine aG λ G kG=>?_
 obtain ⟨T,S,e1,e2,hT,hS,h1,em,es,eq⟩:=hI
 subst e1 e2 em es
 refine kG ?_
 refine ⟨λ h=>⟨by decide,λ r e_r qX qx=>⟨λ hr=>?_,λ hr=>?_⟩⟩,λ h=>?_⟩
 · have hk:=of_decide_eq_true h
   have e:=of_decide_eq_true hr
   rw [step a1 T S hT hS hk,if_pos (by rw [← e_r]; exact e)] at eq
   exact sO O C ha hT hS (sO O C ha hS hS ⟨⟨by decide,by decide⟩,_,Lq.hv hk,_,_,rfl,rfl,cU C hT hS,cU C hS hS,by lia,rfl,rfl,eq⟩)
 · have hk:=of_decide_eq_true h
   have e:=of_decide_eq_false hr
   rw [step a1 T S hT hS hk,if_neg (by rw [← e_r]; exact e)] at eq
   exact sO O C ha hS hS ⟨⟨by decide,by decide⟩,_,Lq.hv hk,_,_,rfl,rfl,hT,cU C hS hS,by (clear hk e_r h; lia),rfl,rfl,eq⟩
 · have hk:=of_decide_eq_false h
   have:a1=0:=(Lq.e (Lq.n (of_decide_eq_false h)) h1)
   subst this
   rw [mul_zero,iT] at eq
   rw [eq]; exact q
theorem Dz (O:(U bs).Ok) {p a b:Int} (C:Cv p a b) (ha:0≤a∧a<p) {P:G} (hP:On p a b P) {n:Int} (q:Q (wD (mul p a n P)) σ):ah (U bs) (d+5) (.cst (.ref zE)) [.int p,.int a,.int n,wD P] σ Q:=by
 generalize hv:wD P=v
 exact ah.of O (T:=T0) (by kernel_rfl) (by kernel_rfl) λ L=>Eq.mp (α:=((decide (n<0))=true→ah (U bs) (d+4) (.cst (.ref 595)) [.int p,v] σ λ v1 s=>∃ I:Int→AV→AV→Nat→List AO→Prop,(∃ m:Nat,I (0-n) .none v1 m s)∧∀ a1:Int,∀ a2:AV,∀ a3:AV,∀ m:Nat,∀ af:List AO,I a1 a2 a3 m af→((decide (0<a1))=true→(0:Int)<2∧∀ r:Int,r=(a1%2)→0≤r→r<2→((decide (r=1))=true→ah (U bs) (d+4) (.cst (.ref 588)) [.int p,.int a,a2,a3] af λ v2 s1=>ah (U bs) (d+4) (.cst (.ref 588)) [.int p,.int a,a3,a3] s1 λ v3 s2=>((0:Int)<2∧(2:Int)<1073741824)∧∃ m':Nat,m'<m∧I (a1 / 2) v2 v3 m' s2)∧((decide (r=1))=false→ah (U bs) (d+4) (.cst (.ref 588)) [.int p,.int a,a3,a3] af λ v2 s1=>((0:Int)<2∧(2:Int)<1073741824)∧∃ m':Nat,m'<m∧I (a1 / 2) a2 v2 m' s1))∧((decide (0<a1))=false→Q a2 af))∧((decide (n<0))=false→∃ I:Int→AV→AV→Nat→List AO→Prop,(∃ m:Nat,I n .none v m σ)∧∀ a1:Int,∀ a2:AV,∀ a3:AV,∀ m:Nat,∀ af:List AO,I a1 a2 a3 m af→((decide (0<a1))=true→(0:Int)<2∧∀ r:Int,r=(a1%2)→0≤r→r<2→((decide (r=1))=true→ah (U bs) (d+4) (.cst (.ref 588)) [.int p,.int a,a2,a3] af λ v1 s=>ah (U bs) (d+4) (.cst (.ref 588)) [.int p,.int a,a3,a3] s λ v2 s1=>((0:Int)<2∧(2:Int)<1073741824)∧∃ m':Nat,m'<m∧I (a1 / 2) v1 v2 m' s1)∧((decide (r=1))=false→ah (U bs) (d+4) (.cst (.ref 588)) [.int p,.int a,a3,a3] af λ v1 s=>((0:Int)<2∧(2:Int)<1073741824)∧∃ m':Nat,m'<m∧I (a1 / 2) a2 v1 m' s))∧((decide (0<a1))=false→Q a2 af))) (by kernel_rfl) (by
  subst hv
  refine ⟨λ h1=>Dy O C (Je O C ha (bQ C hP) (by have:=of_decide_eq_true h1; exact Lq.s0 (Lq.w (of_decide_eq_true h1))) ?_),λ h2=>Je O C ha hP (by have:=of_decide_eq_false h2; exact Lq.n (of_decide_eq_false h2)) q⟩
  rw [← A9 (p:=p) (a:=a),← kg C hP,show (0-n) * -1=n by lia]
  exact q)
end
end
noncomputable section
section
variable {bs:Bs} {d:Nat} {σ:List AO} {Q:AV→List AO→Prop}
theorem HN {P:G} (q:Q (.bool P.isNone) σ):aA (U bs) d .Is (wD P) .none σ Q:=by
 cases P with
 | none=>exact aA.isNone (bZ rfl) q
 | some P=>exact aA.isNone (bZ rfl) q
theorem DA (O:(U bs).Ok) {p a b:Int} (C:Cv p a b) (ha:0≤a∧a<p) {P:Int×Int} (hP:On p a b (some P)) (q:∀ n,n≤2*p+2→Od p a n (some P)→Q (.int n) σ):ah (U bs) (d+5) (.cst (.ref zF)) [.int p,.int a,wD (some P)] σ Q:=by
 have hp:=C.hp
 have l5:=C.lo
 have hh:=C.hi
 generalize hv:wD (some P)=v
 exact ah.of O (T:=T0) (by kernel_rfl) (by kernel_rfl) λ L=>Eq.mp (α:=(aa 2∨aa p)∧Builtin.Range.small 0 ((2*p)+2) 1=true∧∃ I:AV→Int→Int→List AO→Prop,I v 1 0 σ∧∀ a1:AV,∀ a2:Int,∀ i:Int,∀ ai:List AO,I a1 a2 i ai→(i<((2*p)+2)→aA (U bs) (d+4) .Is a1 .none ai λ a3 a4=>dB a3 λ c=>(c=true→Q (.int a2) a4)∧(c=false→ah (U bs) (d+4) (.cst (.ref 588)) [.int p,.int a,a1,v] a4 λ v1 s=>I v1 (a2+1) (i+1) s))∧(((2*p)+2)≤i→Q (.int 0) ai)) (by kernel_rfl) (by
  subst hv
  refine ⟨.inl (by unfold aa; lia),sN (by lia) (by lia),λ a1 a2 i af=>a1=wD (mul p a (i+1) (some P))∧a2=i+1∧af=σ∧0≤i∧∀ k,0<k→k≤i→mul p a k (some P)≠none,⟨by rw [Int.zero_add,mul_one],rfl,rfl,by lia,λ k h1 h2=>by lia⟩,λ a1 a2 i af hI=>?_⟩
  refine aG λ G kG=>?_
  obtain ⟨e1,e2,es,h0,hk⟩:=hI
  subst e1 e2 es
  refine kG ?_
  refine ⟨λ h=>HN ⟨λ hn=>q (i+1) (by lia) ⟨by lia,by simpa using hn,λ k h1 h2=>hk k h1 (by lia)⟩,λ hn=>?_⟩,λ h=>?_⟩
  · have yz:=bD C hP (i+1)
    have es:plus p a (mul p a (i+1) (some P)) (some P)=mul p a (i+1+1) (some P):=(mul_succ C hP (i+1)).symm
    generalize hT:mul p a (i+1) (some P)=T at yz hn es ⊢
    refine sO O C ha yz hP ?_
    refine ⟨congrArg wD es,rfl,rfl,by lia,λ k h1 h2=>?_⟩
    · by_cases hki:k≤i
      · exact hk k h1 hki
      · have:k=i+1:=by lia
        subst this
        intro e
        rw [hT] at e
        rw [e] at hn
        cases hn
  · obtain ⟨n,h1,h2,h3⟩:=DZ C hP
    exact absurd h3 (hk n h1 (by lia)))
end
end
noncomputable section
section
variable {bs:Bs} {d:Nat} {σ:List AO} {Q:AV→List AO→Prop}
def CellsOk (cs:List Int):Prop:=cs≠[]∧(∀ c∈cs,0≤c)∧cs.length≤1000
theorem CellsOk.set {cs:List Int} (h:CellsOk cs) {k:Nat} {v:Int} (hv:0≤v):CellsOk (cs.set k v):=by
 refine ⟨λ e=>h.1 ?_,λ c hc=>?_,by rw [List.length_set]; exact h.2.2⟩
 · have:=congrArg List.length e
   rw [List.length_set] at this
   exact List.length_eq_zero_iff.mp this
 · rcases List.mem_or_eq_of_mem_set hc with h1 | h1
   · exact h.2.1 c h1
   · rw [h1]; exact hv
theorem BS (O:(U bs).Ok) {s k:Nat} {i:Int} {cs:List Int} (AU:σ[s]? = some (.lst [.int i,.lst k])) (BU:σ[k]? = some (.lst (cs.map .int))) (hi:0≤i) (hcs:CellsOk cs) {m:Int} (hm:0<m) (hm':m≤1000000000)
 (q1:∀ v i',0≤v→v<m→0≤i'→Q (.int v) (σ.set s (.lst [.int i',.lst k]))) (q2:∀ v cs',0≤v→v<m→CellsOk cs'→Q (.int v) (σ.set k (.lst (cs'.map .int)))) :
 ah (U bs) (d+1) (.cst (.ref o9)) [.lst s,.int m] σ Q :=
 ah.of O (T:=T0) (by kernel_rfl) (by kernel_rfl) λ L=>Eq.mp (α:=pD s 1 σ λ x=>dL x λ i=>pD s 0 σ λ x1=>dI x1 λ i1=>cR i σ λ xs=>xs.length≤1000000∧0<((xs.length:Nat):Int)∧∀ r:Int,r=(i1%((xs.length:Nat):Int))→0≤r→r<((xs.length:Nat):Int)→pD i r σ λ x2=>dI x2 λ i2=>((decide (1000000000000000000≤i2))=true→(0<m∧m<1073741824)∧∃ tL:List AV,σ[i]? = some (AO.lst tL)∧0≤r∧r<((tL.length:Nat):Int)∧r<1000000∧0<m∧∀ r1:Int,r1=(i2%m)→0≤r1→r1<m→Q (.int r1) (σ.set i (AO.lst (tL.set r.toNat (.int (i2 / m))))))∧((decide (1000000000000000000≤i2))=false→pD s 0 σ λ x3=>dI x3 λ i3=>∃ tL:List AV,σ[s]? = some (AO.lst tL)∧(0:Int)≤0∧0<((tL.length:Nat):Int)∧(0:Int)<1000000∧(aa i2∨aa 48271)∧pD s 0 (σ.set s (AO.lst (tL.set (0:Int).toNat (.int (i3+1))))) λ x4=>dI x4 λ i4=>(aa i4∨aa 69621)∧(0:Int)<2147483647∧∀ r1:Int,r1=(((i2*48271)+(i4*69621))%2147483647)→0≤r1→r1<2147483647→(aa r1∨aa 16807)∧pD s 0 (σ.set s (AO.lst (tL.set (0:Int).toNat (.int (i3+1))))) λ x5=>dI x5 λ i5=>(aa i5∨aa 7919)∧(0:Int)<1000000007∧∀ r2:Int,r2=(((r1*16807)+(i5*7919))%1000000007)→0≤r2→r2<1000000007→((0:Int)<7∧(7:Int)<1073741824)∧0<m∧∀ r3:Int,r3=((r2 / 7)%m)→0≤r3→r3<m→Q (.int r3) (σ.set s (AO.lst (tL.set (0:Int).toNat (.int (i3+1))))))) (by kernel_rfl) (by
  have hl:0<cs.length:=List.length_pos_iff.mpr hcs.1
  have hz:=hcs.2.2
  refine ⟨_,_,AU,by decide,by decide,rfl,⟨_,_,AU,by decide,by decide,rfl,⟨_,BU,by rw [List.length_map]; exact Lq.qy hz (by decide),by rw [List.length_map]; exact Lq.cs hl,λ r e_r qX qx=>?_⟩⟩⟩
  rw [List.length_map] at qx
  have hr:r.toNat<cs.length:=(Lq.ts qX qx)
  have hx:(cs.map AV.int)[r.toNat]? = some (.int cs[r.toNat]):=by rw [List.getElem?_map,List.getElem?_eq_getElem hr]; rfl
  have hc0:=hcs.2.1 _ (List.getElem_mem hr)
  generalize cs[r.toNat]=z at hx hc0
  refine ⟨_,_,BU,qX,Lq.sl (Lq.sl qx (Lq.cl hz)) (by decide),hx,⟨λ h1=>⟨⟨hm,Lq.ls hm' (by decide)⟩,⟨_,BU,qX,by rw [List.length_map]; exact qx,Lq.sl (Lq.sl qx (Lq.cl hz)) (by decide),hm,λ r1 b7 cX cY=>?_⟩⟩,λ h2=>⟨_,_,AU,by decide,by decide,rfl,⟨_,AU,by decide,by simp,by decide,.inr (by unfold aa; exact ⟨by decide,by decide⟩),?_⟩⟩⟩⟩
  · have:=q2 r1 (cs.set r.toNat (z / m)) cX cY (hcs.set (Int.ediv_nonneg hc0 (Lq.w hm)))
    rw [List.map_set] at this
    exact this
  · have OM:=getSet (o':=.lst [.int (i+1),.lst k]) AU
    exact ⟨_,_,OM,by decide,by decide,rfl,.inr (by unfold aa; exact ⟨by decide,by decide⟩),by decide,λ r1 b7 cX cY=>⟨.inr (by unfold aa; exact ⟨by decide,by decide⟩),_,_,OM,by decide,by decide,rfl,.inr (by unfold aa; exact ⟨by decide,by decide⟩),by decide,λ r2 kR qY qZ=>⟨⟨by decide,by decide⟩,hm,λ r3 oZ qN qO=>q1 r3 (i+1) qN qO (Lq.ll (by decide) (Lq.al _ hi))⟩⟩⟩)
section
variable {c:Nat} {p a b:Int} {ω:List D}
theorem pe (O:(U bs).Ok) (H:Gd c p a b ω σ) {s k:Nat} (hs:ω[s]? = some (.st k)) (hk:ω[k]? = some .cells) {m:Int} (hm:0<m) (hm':m≤1000000000) (q:∀ v σ',Gd c p a b ω σ'→0≤v→v<m→Q (.int v) σ') :
 ah (U bs) (d+1) (.cst (.ref o9)) [.lst s,.int m] σ Q:=by
 refine aG λ G kG=>?_
 obtain ⟨o,AU,i,hi,rfl⟩:=H.sat _ _ hs
 obtain ⟨o,BU,cs,h1,h2,h3,rfl⟩:=H.sat _ _ hk
 refine kG ?_
 exact BS O AU BU hi ⟨h1,h2,h3⟩ hm hm' (λ v i' l u hi'=>q v _ (H.set hs ⟨i',hi',rfl⟩) l u) λ v cs' l u hc=>q v _ (H.set hk ⟨cs',hc.1,hc.2.1,hc.2.2,rfl⟩) l u
theorem DB (O:(U bs).Ok) (C:Cv p a b) (H:Gd c p a b ω σ) {s k:Nat} (hs:ω[s]? = some (.st k)) (hk:ω[k]? = some .cells) (q:∀ v σ',Gd c p a b ω σ'→1≤v→v<p→Q (.int v) σ') :
 ah (U bs) (d+2) (.cst (.ref yv)) [.lst s,.int p] σ Q:=by
 have hp:=C.hp
 have l5:=C.lo
 exact ah.of O (T:=T0) (by kernel_rfl) (by kernel_rfl) λ L=>Eq.mp (α:=ah (U bs) (d+1) (.cst (.ref 560)) [.lst s,.int 3] σ λ v s1=>dI v λ i=>((decide (i=0))=true→Q (.int 1) s1)∧((decide (i=0))=false→ah (U bs) (d+1) (.cst (.ref 560)) [.lst s,.int (p-1)] s1 λ v1 s2=>dI v1 λ i1=>Q (.int (1+i1)) s2)) (by kernel_rfl) (by
  refine pe O H hs hk (by decide) (by decide) λ v σ' H' l u=>⟨λ h1=>q 1 _ H' (by lia) (by lia),λ h2=>?_⟩
  exact pe O H' hs hk (Lq.sl (Lq.sl (Lq.ls l u) (by decide)) (Lq.dl _ l5)) (Lq.ll (Lq.dl _ hp) (by decide)) λ v σ' H' l u=>q _ _ H' (Lq.bl _ l) (by lia))
end
end
end
noncomputable section
section
variable {bs:Bs} {d:Nat} {σ:List AO} {Q:AV→List AO→Prop}
structure Sk (σ:List AO) (s k N:Nat):Prop where
 len:σ.length=N
 st:∃ i:Int,0≤i∧σ[s]? = some (.lst [.int i,.lst k])
 cells:∃ cs,CellsOk cs∧σ[k]? = some (.lst (cs.map .int))
theorem Sk.ne {s k N:Nat} (H:Sk σ s k N):s≠k:=λ e=>by
 subst e
 refine aG λ G kG=>?_
 obtain ⟨i,_,h1⟩:=H.st
 obtain ⟨cs,_,h2⟩:=H.cells
 refine kG ?_
 rw [h1] at h2
 cases cs with
 | nil=>cases h2
 | cons x r=>cases r with
  | nil=>cases h2
  | cons y r=>cases h2
theorem zL (O:(U bs).Ok) {s k N:Nat} (H:Sk σ s k N) {m:Int} (hm:0<m) (hm':m≤1000) (q:∀ v σ',Sk σ' s k N→0≤v→v<m→Q (.int v) σ') :
 ah (U bs) (d+1) (.cst (.ref o9)) [.lst s,.int m] σ Q:=by
 have hne:=H.ne
 refine aG λ G kG=>?_
 obtain ⟨i,hi,AU⟩:=H.st
 obtain ⟨cs,hc,BU⟩:=H.cells
 refine kG ?_
 refine BS O AU BU hi hc hm (Lq.ll hm' (by decide)) (λ v i' l u hi'=>q v _ ⟨by rw [List.length_set]; exact H.len,⟨i',hi',getSet AU⟩,⟨cs,hc,bB BU hne⟩⟩ l u) λ v cs' l u hc'=>q v _ ⟨by rw [List.length_set]; exact H.len,⟨i,hi,bB AU (Ne.symm hne)⟩,⟨cs',hc',getSet BU⟩⟩ l u
theorem FD (i:Int) (h0:0≤i) (h:i<24):∃ vs v n,AI (U bs).K x8=some vs∧vs[i.toNat]? = some v∧xM v=.int ((n:Nat):Int)∧n∈iN:=by
 have hk:(AI (U bs).K x8).map (List.map xM)=some (iN.map λ n:Nat=>AV.int ((n:Nat):Int)):=by kernel_rfl
 cases hv:AI (U bs).K x8 with
 | none=>rw [hv] at hk; cases hk
 | some vs =>
  rw [hv] at hk
  have hk:vs.map xM=iN.map λ n:Nat=>AV.int ((n:Nat):Int):=Option.some.inj hk
  have hl:iN.length=24:=rfl
  have hi:i.toNat<iN.length:=(Lq.ts h0 (Lq.sl h (Lq.cl (Nat.le_of_eq hl.symm))))
  have e:(vs.map xM)[i.toNat]? = (iN.map λ n:Nat=>AV.int ((n:Nat):Int))[i.toNat]?:=by rw [hk]
  rw [List.getElem?_map,List.getElem?_map,List.getElem?_eq_getElem hi] at e
  cases hx:vs[i.toNat]? with
  | none=>rw [hx] at e; cases e
  | some v =>
   rw [hx] at e
   exact ⟨vs,v,iN[i.toNat],rfl,hx,Option.some.inj e,List.getElem_mem hi⟩
theorem DC (O:(U bs).Ok) {s k N:Nat} (H:Sk σ s k N) (q:∀ p a b σ',Cv p a b→0≤a∧a<p→0≤b∧b<p→Sk σ' s k N→Q (.tup [.int p,.int a,.int b]) σ') :
 ah (U bs) (d+2) (.cst (.ref zD)) [.lst s] σ Q :=
 ah.of O (T:=T0) (by kernel_rfl) (by kernel_rfl) λ L=>Eq.mp (α:=ah (U bs) (d+1) (.cst (.ref 560)) [.lst s,.int 24] σ λ v s1=>dI v λ i=>mZ (U bs) (d+1) (.cst (.ref 548)) (.int i) s1 λ v1 s2=>dI v1 λ i1=>ah (U bs) (d+1) (.cst (.ref 560)) [.lst s,.int i1] s2 λ v2 s3=>dI v2 λ i2=>ah (U bs) (d+1) (.cst (.ref 560)) [.lst s,.int i1] s3 λ v3 s4=>dI v3 λ i3=>Builtin.Range.small 0 3 1=true∧∃ I:Int→Int→List AO→Prop,I i3 0 s4∧∀ a:Int,∀ i4:Int,∀ ai:List AO,I a i4 ai→(i4<3→(aa 4∨aa i2)∧(aa (4*i2)∨aa i2)∧(aa ((4*i2)*i2)∨aa i2)∧(aa 27∨aa a)∧(aa (27*a)∨aa a)∧0<i1∧∀ r:Int,r=(((((4*i2)*i2)*i2)+((27*a)*a))%i1)→0≤r→r<i1→((decide (r=0))=true→0<i1∧∀ r1:Int,r1=((a+1)%i1)→0≤r1→r1<i1→I r1 (i4+1) ai)∧((decide (r=0))=false→I a (i4+1) ai))∧(3≤i4→Q (.tup [.int i1,.int i2,.int a]) ai)) (by kernel_rfl) (by
  refine zL O H (by decide) (by decide) λ i σ1 H1 l1 u1=>?_
  refine aG λ G kG=>?_
  obtain ⟨vs,v,n,hv,hx,ev,hn⟩:=FD (bs:=bs) i l1 u1
  refine kG ?_
  refine mZ.Oq O hv l1 hx (Lq.sl u1 (by decide)) ?_
  rw [ev]
  refine aG λ G kG=>?_
  obtain ⟨n5,Ll,_,_⟩:=xw hn
  refine kG ?_
  generalize hp:((n:Nat):Int)=p
  have R6:p.toNat∈iN:=by rw [← hp,Int.toNat_natCast]; exact hn
  refine zL O H1 (by lia) (Lq.ll (Lq.ll (Int.le_of_eq hp.symm) (Lq.cl Ll)) (by decide)) λ a σ2 H2 l2 u2=>zL O H2 (Lq.ls l2 u2) (Lq.ll (Lq.ll (Int.le_of_eq hp.symm) (Lq.cl Ll)) (by decide)) λ b0 σ3 H3 l3 u3=>?_
  refine ⟨sN (by decide) (by decide),λ b j σ'=>σ'=σ3∧0≤j∧(0≤b∧b<p)∧((4*a*a*a+27*b*b)%p=0→j=0∨(j=1∧∃ b1,(4*a*a*a+27*b1*b1)%p=0∧b=(b1+1)%p)),⟨rfl,by lia,⟨l3,u3⟩,λ _=>.inl rfl⟩,λ b j σ' hI=>?_⟩
  refine aG λ G kG=>?_
  obtain ⟨rfl,hj,hb,hD⟩:=hI
  refine kG ?_
  have Pd:p≤((1000:Nat):Int):=(Lq.ll (Lq.ll (Int.le_of_eq hp.symm) (Lq.cl Ll)) (by decide))
  have ba:=bN.of ⟨l2,u2⟩ Pd
  have bb:=bN.of hb Pd
  refine ⟨λ h2=>⟨(.inl (bN.small (bN.num 4) rfl)),(.inl (bN.small (bN.mul (bN.num 4) ba) rfl)),(.inl (bN.small (bN.mul (bN.mul (bN.num 4) ba) ba) rfl)),(.inl (bN.small (bN.num 27) rfl)),(.inl (bN.small (bN.mul (bN.num 27) bb) rfl)),Lq.ls l2 u2,λ r e_r qX qx=>⟨λ h3=>⟨(Lq.ls l2 u2),λ r1 b7 cX cY=>?_⟩,λ h4=>?_⟩⟩,λ h5=>?_⟩
  · have h3:=of_decide_eq_true h3
    rw [e_r] at h3
    refine ⟨rfl,Lq.ll (by decide) (Lq.al _ hj),⟨cX,cY⟩,λ h0=>?_⟩
    rcases hD h3 with e | ⟨e,b1,g1,g2⟩
    · exact .inr ⟨(Lq.e (Lq.al _ (Int.le_of_eq e)) (Lq.al _ hj)),b,h3,b7⟩
    · rw [g2] at h3
      rw [b7,g2] at h0
      exact absurd h0 (ML R6 g1 h3)
  · have h4:=of_decide_eq_false h4
    rw [e_r] at h4
    exact ⟨rfl,Lq.ll (by decide) (Lq.al _ hj),hb,λ h0=>absurd h0 h4⟩
  · have hd:(4*a*a*a+27*b*b)%p≠0:=λ h0=>by
     rcases hD h0 with e | ⟨e,_⟩<;>exact Lq.f (Lq.ls (Int.le_of_eq e) (by decide)) h5
    exact q p a b _ (Cv.of R6 hd) ⟨l2,u2⟩ hb H3)
section
variable {c:Nat} {p a b:Int} {ω:List D}
theorem CK (O:(U bs).Ok) (C:Cv p a b) (H:Gd c p a b ω σ) {s k:Nat} (hs:ω[s]? = some (.st k)) (hk:ω[k]? = some .cells) {x y:Int} {o:AV} {t:Bool} (hP:On p a b (some (x,y)))
 (q:∀ σ',Gd c p a b (ω++[.pj (x,y) o t,.tab []]) σ'→Q (.inst aj ω.length) σ') :
 ah (U bs) (d+3) (.cst (.ref AL)) [.lst s,.inst aE c,.tup [.int x,.int y],o,.bool t] σ Q:=by
 have qt:=H.AS
 have Hp:=C.pos
 have hp:=C.hp
 have l5:=C.lo
 exact ah.of O (T:=T0) (by kernel_rfl) (by kernel_rfl) λ L=>Eq.mp (α:=aD c "p" σ∧ah (U bs) (d+2) (.cst (.ref 57)) [.inst 88 c] σ λ v s1=>dI v λ i=>ah (U bs) (d+2) (.cst (.ref 621)) [.lst s,.int i] s1 λ v1 s2=>dI v1 λ i1=>(aa x∨aa i1)∧(aa (x*i1)∨aa i1)∧0<i∧∀ r:Int,r=(((x*i1)*i1)%i)→0≤r→r<i→(aa y∨aa i1)∧(aa (y*i1)∨aa i1)∧(aa ((y*i1)*i1)∨aa i1)∧0<i∧∀ r1:Int,r1=((((y*i1)*i1)*i1)%i)→0≤r1→r1<i→ah (U bs) (d+2) (.cst (.ref 313)) [.inst 88 c,.int r,.int r1,.int i1,o,.bool t] s2 λ v2 s3=>dO 313 v2 λ i2=>Q (.inst 313 i2) s3) (by kernel_rfl) (by
  refine ⟨(bA qt (by kernel_rfl)),iU O qt (DB O C H hs hk λ z σ' H' l u=>?_)⟩
  have bx:=bN.of hP.1 hp
  have Jb:=bN.of hP.2.1 hp
  have bz:=bN.of (⟨(Lq.ll (by decide) l),u⟩:0≤z∧z<p) hp
  refine ⟨(.inl (bN.small bx rfl)),⟨(.inl (bN.small (bN.mul bx bz) rfl)),⟨Hp,λ r e_r qX qx=>⟨(.inl (bN.small Jb rfl)),⟨(.inl (bN.small (bN.mul Jb bz) rfl)),⟨(.inl (bN.small (bN.mul (bN.mul Jb bz) bz) rfl)),⟨Hp,λ r1 b7 cX cY=>?_⟩⟩⟩⟩⟩⟩⟩
  have hz:z%p≠0:=by rw [Int.emod_eq_of_lt (Lq.ll (by decide) l) u]; lia
  have hr:Rep p r r1 z (some (x,y)):=by
   refine ⟨hz,?_,?_⟩
   · show (r-x*z*z)%p=0
     rw [e_r,Int.sub_emod,Int.emod_emod,← Int.sub_emod,Int.sub_self]; rfl
   · show (r1-y*z*z*z)%p=0
     rw [b7,Int.sub_emod,Int.emod_emod,← Int.sub_emod,Int.sub_self]; rfl
  refine QJ O ⟨rfl,?_⟩
  rw [H'.len]
  have:=H'.ya (o:=o) (g:=t) hP hr ⟨⟨qX,qx⟩,⟨cX,cY⟩,⟨(Lq.ll (by decide) l),u⟩⟩
  rw [H'.len] at this
  exact q _ this)
end
end
end
noncomputable section
section
variable {bs:Bs} {d:Nat} {σ:List AO} {Q:AV→List AO→Prop}
theorem yb (k k':Int) (v:AV):∀ es:List (Int×AV),(es.map λ kv=>if kv.1=k then (kv.1,v) else kv).lookup k'=if k'=k then (if es.any (λ kv=>kv.1=k) then some v else none) else es.lookup k'
 | []=>by simp
 | (j,u) :: r=>by
  have ih:=yb k k' v r
  rw [List.map_cons,List.any_cons]
  by_cases hj:j=k
  · subst hj
    simp only [if_true,List.lookup_cons,ih,decide_true,Bool.true_or]
    by_cases hk:k'=j
    · subst hk; simp
    · rw [beq_eq_false_iff_ne.mpr hk]; simp [hk]
  · simp only [hj,if_false,List.lookup_cons,ih,decide_false,Bool.false_or]
    by_cases hk:k'=j
    · subst hk; simp [hj]
    · rw [beq_eq_false_iff_ne.mpr hk]
theorem yc (k k':Int) (v:AV):∀ es:List (Int×AV),es.any (λ kv=>kv.1=k)=false→(es++[(k,v)]).lookup k'=if k'=k then some v else es.lookup k'
 | [],_=>by
  rw [List.nil_append,List.lookup_cons]
  by_cases hk:k'=k
  · subst hk; simp
  · rw [beq_eq_false_iff_ne.mpr hk]; simp [hk]
 | (j,u) :: r,h=>by
  rw [List.any_cons,Bool.or_eq_false_iff] at h
  have hj:j≠k:=of_decide_eq_false h.1
  have ih:=yc k k' v r h.2
  rw [List.cons_append,List.lookup_cons,List.lookup_cons,ih]
  by_cases hk:k'=j
  · subst hk; simp [hj]
  · rw [beq_eq_false_iff_ne.mpr hk]
theorem wo (k k':Int) (v:AV) (es:List (Int×AV)):(putD k v es).lookup k'=if k'=k then some v else es.lookup k':=by
 unfold putD
 by_cases h:es.any (λ kv=>kv.1=k)=true
 · rw [if_pos h,yb,if_pos h]
 · rw [if_neg h]; exact yc _ _ _ _ (Bool.eq_false_iff.mpr h)
theorem FE (k:Int) (v:AV) (es:List (Int×AV)):(putD k v es).length≤es.length+1:=by
 unfold putD
 split
 · rw [List.length_map]; exact Lq.nr _ _
 · rw [List.length_append]; exact Nat.le_refl _
def Pre (σ s:List AO):Prop:=∃ τ,s=σ++τ
theorem Pre.app {s:List AO} (h:Pre σ s) (l:List AO):Pre σ (s++l):=by
 obtain ⟨τ,rfl⟩:=h; exact ⟨τ++l,by rw [List.append_assoc]⟩
theorem Pre.set {s:List AO} (h:Pre σ s) {n:Nat} (hn:σ.length≤n) (o:AO):Pre σ (s.set n o):=by
 obtain ⟨τ,rfl⟩:=h; exact ⟨τ.set (n-σ.length) o,List.set_append_right _ _ hn⟩
theorem HO {n:Nat} {o:AO} (h:σ[n]? = some o):n<σ.length:=(List.getElem?_eq_some_iff.mp h).1
def BV (p N:Int) (σ:List AO) (es:List (Int×AV)):Prop:=∀ k v,es.lookup k=some v→∃ (n:Nat) (ys:List Int),v=.lst n∧σ[n]? = some (.lst (ys.map AV.int))∧(ys.length:Int)≤N∧ys≠[]∧∀ y∈ys,0≤y∧y<p∧y*y%p=k
theorem BV.app {p N:Int} {es:List (Int×AV)} (h:BV p N σ es) (l:List AO):BV p N (σ++l) es:=λ k v hk=>by
 refine aG λ G kG=>?_
 obtain ⟨n,ys,e,h1,h2⟩:=h k v hk
 refine kG ?_
 exact ⟨n,ys,e,bw h1 l,h2⟩
theorem BV.le {p N N':Int} {es:List (Int×AV)} (h:BV p N σ es) (hN:N≤N'):BV p N' σ es:=λ k v hk=>by
 refine aG λ G kG=>?_
 obtain ⟨n,ys,e,h1,h2,h3⟩:=h k v hk
 refine kG ?_
 exact ⟨n,ys,e,h1,Lq.ll h2 hN,h3⟩
theorem BV.QK {p N:Int} {m:Nat} {o:AO} {es es':List (Int×AV)} (h:BV p N σ es) (hm:σ[m]? = some (.dct es')):BV p N (σ.set m o) es:=λ k v hk=>by
 refine aG λ G kG=>?_
 obtain ⟨n,ys,e,h1,h2⟩:=h k v hk
 refine kG ?_
 refine ⟨n,ys,e,bB h1 λ e=>?_,h2⟩
 subst e
 rw [hm] at h1
 cases h1
theorem BV.Lm {p N:Int} {m:Nat} {o:AO} {es:List (Int×AV)} (h:BV p N σ es) (hm:∀ k n,es.lookup k=some (.lst n)→n<m):BV p N (σ.set m o) es:=λ k v hk=>by
 refine aG λ G kG=>?_
 obtain ⟨n,ys,e,h1,h2⟩:=h k v hk
 subst e
 refine kG ?_
 have:=hm k n hk
 exact ⟨n,ys,rfl,bB h1 (Lq.ny this),h2⟩
inductive R7 (p:Int) (σ:List AO) (i:Int) (s:List AO):Prop
 | mk (es:List (Int×AV)) (h1:Pre σ s) (h2:s[σ.length]? = some (.dct es)) (h3:BV p i s es) (h4:0≤i) (h5:i≤p) (h6:(es.length:Int)≤i) (h7:∀ y,0≤y→y<i→∃ v,es.lookup (y*y%p)=some v):R7 p σ i s
inductive R8 (p a b:Int) (σ:List AO) (es:List (Int×AV)) (m:Nat) (x:Int) (s:List AO):Prop
 | mk (ps:List (Int×Int)) (h1:Pre σ s) (h2:s[σ.length]? = some (.dct es)) (h3:BV p p s es) (h4:0≤x) (h5:x≤p) (h6:s[m]? = some (.lst (ps.map λ P=>.tup [.int P.1,.int P.2]))) (h7:(ps.length:Int)≤101*x) (h8:∀ P∈ps,On p a b (some P)) (h9:(∃ z,0≤z∧z<x∧∃ v,es.lookup ((z*z*z+a*z+b)%p)=some v)→ps≠[]):R8 p a b σ es m x s
inductive R9 (p a b:Int) (σ:List AO) (es:List (Int×AV)) (m:Nat) (x:Int) (n:Nat) (ys:List Int) (j:Nat) (s:List AO):Prop
 | mk (ps:List (Int×Int)) (h1:Pre σ s) (h2:s[σ.length]? = some (.dct es)) (h3:BV p p s es) (h6:s[m]? = some (.lst (ps.map λ P=>.tup [.int P.1,.int P.2]))) (h7:(ps.length:Int)≤101*x+j) (h8:∀ P∈ps,On p a b (some P)) (h9:s[n]? = some (.lst (ys.map AV.int))) (Ql:j≤ps.length) (h11:(∃ z,0≤z∧z<x∧∃ v,es.lookup ((z*z*z+a*z+b)%p)=some v)→ps≠[]):R9 p a b σ es m x n ys j s
theorem BW (O:(U bs).Ok) {p a b:Int} (C:Cv p a b) (ha:0≤a∧a<p)
 (q:∀ s m (ps:List (Int×Int)),Pre σ s→s[m]? = some (.lst (ps.map λ P=>.tup [.int P.1,.int P.2]))→(∀ P∈ps,On p a b (some P))→ps.length≤100000→(∀ x y,0≤x→x<p→0≤y→y<p→y*y%p=(x*x*x+a*x+b)%p→ps≠[])→σ.length≤m→Q (.lst m) s) :
 ah (U bs) (d+1) (.cst (.ref yu)) [.int p,.int a,.int b] σ Q :=
 ah.of O (T:=T0) (by kernel_rfl) (by kernel_rfl) λ L=>Eq.mp (α:=Builtin.Range.small 0 p 1=true∧∃ I:Int→List AO→Prop,I 0 (σ++[.dct []])∧∀ i:Int,∀ ai:List AO,I i ai→(i<p→(aa i∨aa i)∧0<p∧∀ r:Int,r=((i*i)%p)→0≤r→r<p→(∃ es:List (Int×AV),ai[σ.length]? = some (.dct es))∧∃ es:List (Int×AV),(ai++[AO.lst []])[σ.length]? = some (.dct es)∧dL ((List.lookup r es).getD (.lst ai.length)) λ i1=>cR i1 ((ai++[AO.lst []])++[AO.lst [.int i]]) λ xs=>cR (ai++[AO.lst []]).length ((ai++[AO.lst []])++[AO.lst [.int i]]) λ ys=>(xs.length+ys.length)≤1000000∧∃ es1:List (Int×AV),(((ai++[AO.lst []])++[AO.lst [.int i]])++[AO.lst (xs++ys)])[σ.length]? = some (.dct es1)∧es1.length≤1000000∧I (i+1) ((((ai++[AO.lst []])++[AO.lst [.int i]])++[AO.lst (xs++ys)]).set σ.length (.dct (putD r (.lst ((ai++[AO.lst []])++[AO.lst [.int i]]).length) es1))))∧(p≤i→Builtin.Range.small 0 p 1=true∧∃ I1:Int→List AO→Prop,I1 0 (ai++[AO.lst []])∧∀ i1:Int,∀ bC:List AO,I1 i1 bC→(i1<p→(∃ es:List (Int×AV),bC[σ.length]? = some (.dct es))∧(aa i1∨aa i1)∧(aa (i1*i1)∨aa i1)∧(aa a∨aa i1)∧0<p∧∀ r:Int,r=(((((i1*i1)*i1)+(a*i1))+b)%p)→0≤r→r<p→∃ es:List (Int×AV),(bC++[AO.lst []])[σ.length]? = some (.dct es)∧dL ((List.lookup r es).getD (.lst bC.length)) λ i2=>∃ ys:List Int,(bC++[AO.lst []])[i2]? = some (AO.lst (ys.map (λ a1=>.int a1)))∧∃ I2:Nat→List AO→Prop,I2 0 (bC++[AO.lst []])∧∀ i3:Nat,∀ bS:List AO,I2 i3 bS→bS[i2]? = some (AO.lst (ys.map (λ a1=>.int a1)))∧(∀ y:Int,ys[i3]? = some y→cR ai.length bS λ x=>cR ai.length bS λ xs=>xs.length≤1000000∧I2 (i3+1) (bS.set ai.length (AO.lst (xs++[.tup [.int i1,.int y]]))))∧(i3=ys.length→I1 (i1+1) bS))∧(p≤i1→Q (.lst ai.length) bC))) (by kernel_rfl) (by
  have Hp:=C.pos
  have hh:=C.hi
  refine ⟨sN (Lq.w Hp) (Lq.ll hh (by decide)),R7 p σ,⟨[],⟨_,rfl⟩,getLast _ _,(by intro k v h; cases h),by lia,Lq.w Hp,Int.le_refl _,λ y h0 h1=>absurd h1 (Int.not_lt.mpr h0)⟩,λ i s hI=>?_⟩
  refine aG λ G kG=>?_
  obtain ⟨es,hP,he,hE,h0,ON,hl,hS⟩:=hI
  refine kG ?_
  refine ⟨λ hlt=>⟨.inl (by unfold aa; exact ⟨Lq.ll (by decide) h0,Lq.ll (Lq.ll ON hh) (by decide)⟩),Hp,λ r e_r qX qx=>⟨⟨_,he⟩,_,bw he _,?_⟩⟩,λ hge=>?_⟩
  · have hx:∃ (n:Nat) (ys:List Int),(es.lookup r).getD (.lst s.length)=.lst n∧(s++[AO.lst []])[n]? = some (.lst (ys.map AV.int))∧(ys.length:Int)≤i∧∀ y∈ys,0≤y∧y<p∧y*y%p=r:=by
     cases h:es.lookup r with
     | none=>exact ⟨s.length,[],rfl,getLast _ _,h0,λ y hy=>nomatch hy⟩
     | some v=>obtain ⟨n,ys,rfl,h1,h2,_,h3⟩:=hE _ _ h; exact ⟨n,ys,rfl,bw h1 _,h2,h3⟩
    refine aG λ G kG=>?_
    obtain ⟨n,ys,e,h1,h2,h3⟩:=hx
    refine kG ?_
    rw [e]
    have QL:=bw (bw (bw he [AO.lst []]) [AO.lst [.int i]]) [AO.lst (ys.map AV.int++[.int i])]
    have QM:=HO he
    refine ⟨_,bw h1 _,_,getLast _ _,by rw [List.length_map]; simp; lia,_,QL,by lia,_,(((hP.app _).app _).app _).set (Nat.le_refl _) _,getSet QL,?_,Lq.ll (by decide) (Lq.al _ h0),by (clear kG ON; clear kG hh Hp ha; exact hlt),?_,λ y y0 y1=>?_⟩
    · intro k v hk
      rw [wo] at hk
      split at hk
      · rename_i ek
        cases hk
        refine ⟨_,ys++[i],rfl,?_,by rw [List.length_append]; simp; omega,by simp,λ y hy=>?_⟩
        · rw [List.map_append]
          exact bB (getLast _ _) (by rw [List.length_append,List.length_append]; lia)
        · rw [ek]
          rcases List.mem_append.mp hy with hy | hy
          · exact h3 y hy
          · rw [List.mem_singleton.mp hy]; exact ⟨h0,hlt,e_r.symm⟩
      · exact ((((hE.app _).app _).app _).QK QL).le (Lq.r _ (by decide)) k v hk
    · have:=FE r (.lst ((s++[AO.lst []])++[AO.lst [.int i]]).length) es
      lia
    · rw [wo]
      split
      · exact ⟨_,rfl⟩
      · rename_i hk
        have:y≠i:=λ e=>hk (by rw [e,e_r])
        exact hS y y0 (Lq.Rj (Lq.pl y1) this)
  · have ON:i=p:=(Lq.e ON hge)
    subst ON
    have hN:∀ k n,es.lookup k=some (.lst n)→n<s.length:=λ k n hk=>by
     refine aG λ G kG=>?_
     obtain ⟨n',ys,e,h1,_⟩:=hE k _ hk
     cases e
     refine kG ?_
     exact HO h1
    have QM:=HO he
    refine ⟨sN (by omega) (Lq.ll hh (by decide)),R8 i a b σ es s.length,
     ⟨[],hP.app _,bw he _,hE.app _,by lia,h0,getLast _ _,by simp,(λ P h=>nomatch h),λ ⟨z,z0,z1,_⟩=>absurd z1 (Int.not_lt.mpr z0)⟩,λ x s1 hI=>?_⟩
    refine aG λ G kG=>?_
    obtain ⟨ps,Sa,QN,Sb,Py,hxi,hf,hlen,yz,hne⟩:=hI
    refine kG ?_
    have TX:=HO hf
    refine ⟨λ hlt=>⟨⟨_,QN⟩,.inl (by unfold aa; exact ⟨Lq.ll (by decide) Py,Lq.ll (Lq.ll hxi hh) (by decide)⟩),.inr (by unfold aa; exact ⟨Lq.ll (by decide) Py,Lq.ll (Lq.ll hxi hh) (by decide)⟩),.inl (by unfold aa; exact ⟨Lq.ll (by decide) ha.1,Lq.w (Lq.sl (Lq.sl ha.2 hh) (by decide))⟩),Hp,λ r e_r qX qx=>⟨_,bw QN _,?_⟩⟩,λ hge=>?_⟩
    · have hx:∃ (n:Nat) (ys:List Int),(es.lookup r).getD (.lst s1.length)=.lst n∧(s1++[AO.lst []])[n]? = some (.lst (ys.map AV.int))∧n≠s.length∧(ys.length:Int)≤i∧(∀ v,es.lookup r=some v→ys≠[])∧∀ y∈ys,0≤y∧y<i∧y*y%i=r:=by
       cases h:es.lookup r with
       | none=>exact ⟨s1.length,[],rfl,getLast _ _,Lq.ny TX,by simp; exact h0,(λ v h'=>nomatch h'),λ y hy=>nomatch hy⟩
       | some v=>obtain ⟨n,ys,rfl,h1,h2,hn0,h3⟩:=Sb _ _ h; exact ⟨n,ys,rfl,bw h1 _,Nat.ne_of_lt (hN _ _ h),h2,(λ _ _=>hn0),h3⟩
      refine aG λ G kG=>?_
      obtain ⟨n,ys,e,h1,hns,h2,PU,h3⟩:=hx
      refine kG ?_
      rw [e]
      refine ⟨ys,h1,R9 i a b σ es s.length x n ys,
       ⟨ps,Sa.app _,bw QN _,Sb.app _,bw hf _,Lq.ll hlen (Lq.r _ (by decide)),yz,h1,Nat.zero_le _,hne⟩,λ j s2 hI=>?_⟩
      refine aG λ G kG=>?_
      obtain ⟨ps,Sd,Se,Sf,hf2,hlen2,FF,hn2,hj2,QO⟩:=hI
      refine kG ?_
      refine ⟨hn2,λ y hy=>⟨_,hf2,_,hf2,?_,ps++[(x,y)],Sd.set (Lq.nw QM) _,bB Se (Lq.ny QM),Sf.Lm hN,?_,?_,λ P OO=>?_,bB hn2 (Ne.symm hns),by rw [List.length_append]; exact Nat.succ_le_succ hj2,λ _=>by simp⟩,λ ej=>?_⟩
      · have hj:=(List.getElem?_eq_some_iff.mp hy).1
        rw [List.length_map]; lia
      · rw [List.map_append]; exact getSet hf2
      · rw [List.length_append]; simp; lia
      · rcases List.mem_append.mp OO with OO | OO
        · exact FF P OO
        · rw [List.mem_singleton.mp OO]
          refine aG λ G kG=>?_
          obtain ⟨g1,g2,g3⟩:=h3 y (List.mem_of_getElem? hy)
          refine kG ?_
          refine ⟨⟨Py,hlt⟩,⟨g1,g2⟩,?_⟩
          show (y*y-(x*x*x+a*x+b))%i=0
          exact Int.emod_eq_emod_iff_emod_sub_eq_zero.mp (by rw [g3,e_r])
      · have ej:j=ys.length:=ej
        refine ⟨ps,Sd,Se,Sf,Lq.ll (by decide) (Lq.al _ Py),hlt,hf2,by lia,FF,λ ⟨z,z0,z1,v,hv⟩=>?_⟩
        by_cases hz:z=x
        · rw [hz,← e_r] at hv
          have:=PU v hv
          have h5:0<ys.length:=List.length_pos_iff.mpr this
          exact List.length_pos_iff.mp (Lq.F3 (Lq.F3 h5 (Nat.le_of_eq ej.symm)) hj2)
        · exact QO ⟨z,z0,Lq.Rj (Lq.pl z1) hz,v,hv⟩
    · exact q _ _ ps Sa hf yz (by lia) (λ z y z0 z1 y0 y1 e=>hne ⟨z,z0,by (clear hxi kG hS; clear kG hh Hp ha hl h0; exact Lq.sl z1 hge),by rw [← e]; exact hS y y0 y1⟩) (by obtain ⟨τ,e⟩:=hP; rw [e,List.length_append]; exact Lq.nr _ _))
end
end
noncomputable section
section
variable {bs:Bs} {d:Nat} {σ:List AO} {Q:AV→List AO→Prop}
def wu (n:Int):Prop:=3≤n∧n%2=1∧∀ k,3≤k→k<n→k%2=1→n%k≠0
inductive Sg (n:Int) (σ:List AO) (rest:Int) (k:Int) (s:List AO):Prop
 | mk (h:Pre σ s) (h1:0<rest) (h2:n%rest=0) (h3:rest≤n):Sg n σ rest k s
inductive Sh (rest:Int) (σ:List AO) (best f:Int) (s:List AO):Prop
 | mk (h:Pre σ s) (h1:3≤f) (h2:f%2=1) (h3:1≤best) (h4:best=1∨(wu best∧rest%best=0)) (h5:best≤rest):Sh rest σ best f s
inductive Si (f:Int) (σ:List AO) (k:Int) (s:List AO):Prop
 | mk (bs:List Bool) (e:s=σ++[.lst (bs.map .bool)]) (h1:3≤k) (h2:k%2=1) (h3:(bs.length:Int)≤k) (h4:allB bs=true→∀ j,3≤j→j<k→j%2=1→f%j≠0):Si f σ k s
theorem CL {n:Int} (h0:0≤n) (h:n≤1000):Builtin.Range.small 3 n 2=true:=by
 obtain ⟨k,e⟩:=Int.eq_ofNat_of_zero_le h0
 rw [e] at h ⊢
 exact (show ∀ k:Fin 1001,Builtin.Range.small 3 (k.val:Int) 2=true by decide +kernel) ⟨k,Nat.lt_succ_of_le (Int.ofNat_le.mp h)⟩
theorem OP {n:Int}:Builtin.divisionGoesByPylong n 2=false:=PyProof.noPylong_small (by decide)
theorem allB_snoc (bs:List Bool) (b:Bool):allB (bs++[b])=(allB bs&&b):=by
 unfold allB; rw [List.all_append]; simp
theorem FG {n r:Int} (h0:0<r) (h:n%r=0) (h2:r%2=0):0<r / 2∧n%(r / 2)=0∧r / 2≤r:=by
 refine ⟨by lia,?_,by lia⟩
 have e:r=2*(r / 2):=by lia
 have d:r∣n:=Int.dvd_of_emod_eq_zero h
 exact Int.emod_eq_zero_of_dvd (Int.dvd_trans ⟨2,by rw [Int.mul_comm]; exact e⟩ d)
theorem HP (O:(U bs).Ok) {p a b:Int} (C:Cv p a b) (ha:0≤a∧a<p) {l:Nat} {ps:List (Int×Int)} (hl:σ[l]? = some (.lst (ps.map yD))) (h0:0<ps.length) (hle:ps.length≤100000) (yz:∀ P∈ps,On p a b (some P)) {s:Int}
 (q0:∀ s',Pre σ s'→Q (.tup [.none,.int 1]) s') (q:∀ s' R n,Pre σ s'→On p a b (some R)→Od p a n (some R)→wu n→n≤2*p+2→Q (.tup [wD (some R),.int n]) s') :
 ah (U bs) (d+6) (.cst (.ref vU)) [.int p,.int a,.lst l,.int s] σ Q :=
 ah.of O (T:=T0) (by kernel_rfl) (by kernel_rfl) λ L=>Eq.mp (α:=Builtin.Range.small 0 8 1=true∧∃ I:Int→List AO→Prop,I 0 σ∧∀ i:Int,∀ ai:List AO,I i ai→(i<8→(aa i∨aa 5)∧cR l ai λ xs=>xs.length≤1000000∧0<((xs.length:Nat):Int)∧∀ r:Int,r=((s+(i*5))%((xs.length:Nat):Int))→0≤r→r<((xs.length:Nat):Int)→pD l r ai λ x=>d2 x λ x1 y=>ah (U bs) (d+5) (.cst (.ref 609)) [.int p,.int a,.tup [.int x1,.int y]] ai λ v s1=>dI v λ i1=>Builtin.Range.small 0 8 1=true∧∃ I1:Int→Int→List AO→Prop,I1 i1 0 s1∧∀ a1:Int,∀ i2:Int,∀ bC:List AO,I1 a1 i2 bC→(i2<8→(0:Int)<2∧∀ r1:Int,r1=(a1%2)→0≤r1→r1<2→((decide (r1=0))=true→((0:Int)<2∧(2:Int)<1073741824)∧I1 (a1 / 2) (i2+1) bC)∧((decide (r1=0))=false→I1 a1 (i2+1) bC))∧(8≤i2→(2:Int)≠0∧Builtin.divisionGoesByPylong ((a1+1)-3) 2=false∧Builtin.Range.small 3 (a1+1) 2=true∧∃ I2:Int→Int→List AO→Prop,I2 1 3 bC∧∀ a2:Int,∀ i3:Int,∀ bS:List AO,I2 a2 i3 bS→(i3<(a1+1)→0<i3∧∀ r1:Int,r1=(a1%i3)→0≤r1→r1<i3→((decide (r1=0))=true→(2:Int)≠0∧Builtin.divisionGoesByPylong (i3-3) 2=false∧Builtin.Range.small 3 i3 2=true∧∃ I3:Int→List AO→Prop,I3 3 (bS++[AO.lst []])∧∀ i4:Int,∀ vV:List AO,I3 i4 vV→(i4<i3→0<i4∧∀ r2:Int,r2=(i3%i4)→0≤r2→r2<i4→cR bS.length vV λ tL=>tL.length≤1000000∧I3 (i4+2) (vV.set bS.length (AO.lst (tL++[.bool (decide (r2≠0))]))))∧(i3≤i4→∃ QS:List Bool,vV[bS.length]? = some (AO.lst (QS.map (λ b=>.bool b)))∧(allB QS=true→I2 i3 (i3+2) vV)∧(allB QS=false→I2 a2 (i3+2) vV)))∧((decide (r1=0))=false→I2 a2 (i3+2) bS))∧((a1+1)≤i3→((decide (1<a2))=true→(0<a2∧a2<1073741824)∧ah (U bs) (d+5) (.cst (.ref 602)) [.int p,.int a,.int (i1 / a2),.tup [.int x1,.int y]] bS λ v1 s2=>Q (.tup [v1,.int a2]) s2)∧((decide (1<a2))=false→I (i+1) bS))))∧(8≤i→Q (.tup [.none,.int 1]) ai)) (by kernel_rfl) (by
  have Hp:=C.pos
  have hh:=C.hi
  refine ⟨sN (by decide) (by decide),λ i s'=>Pre σ s',⟨[],(List.append_nil _).symm⟩,λ i s' hI=>⟨λ hlt=>?_,λ hge=>q0 _ hI⟩⟩
  obtain ⟨τ,rfl⟩:=hI
  refine ⟨.inr (by unfold aa; decide),_,bw hl _,by rw [List.length_map]; exact Lq.qy hle (by decide),by rw [List.length_map]; exact Lq.cs h0,λ r e_r qX qx=>?_⟩
  rw [List.length_map] at qx
  have hv:r.toNat<ps.length:=(Lq.ts qX qx)
  have hP:ps[r.toNat]? = some ps[r.toNat]:=List.getElem?_eq_getElem hv
  have FH:=yz _ (List.getElem_mem hv)
  generalize ps[r.toNat]=P at hP FH
  refine ⟨_,_,bw hl _,qX,Lq.sl (Lq.sl qx (Lq.cl hle)) (by decide),by rw [List.getElem?_map,hP]; rfl,DA O C ha FH λ n hn od=>?_⟩
  refine ⟨sN (by decide) (by decide),Sg n σ,⟨⟨τ,rfl⟩,od.pos,Int.emod_self,Int.le_refl _⟩,λ rest k s1 hR=>?_⟩
  refine aG λ G kG=>?_
  obtain ⟨hs1,hr1,hr2,OQ⟩:=hR
  refine kG ?_
  refine ⟨λ _=>⟨by decide,λ r1 e1 l1 u1=>⟨λ hz=>⟨⟨by decide,by decide⟩,?_⟩,λ _=>⟨hs1,hr1,hr2,OQ⟩⟩⟩,λ _=>⟨by decide,OP,CL (Lq.w (Lq.ls (by decide) (Lq.as _ hr1))) (by lia),Sh rest σ,⟨hs1,by decide,by decide,by decide,.inl rfl,by lia⟩,λ best f s2 hF=>?_⟩⟩
  · have hz:r1=0:=of_decide_eq_true hz
    have:=FG hr1 hr2 (Lq.e (Lq.ll (Int.le_of_eq e1.symm) (Int.le_of_eq hz)) (Lq.ll l1 (Int.le_of_eq e1)))
    exact ⟨hs1,this.1,this.2.1,by (clear hz; clear hz e1 hn; exact Lq.ll this.2.2 OQ)⟩
  refine aG λ G kG=>?_
  obtain ⟨hs2,g1,g2,g3,g4,g5⟩:=hF
  refine kG ?_
  refine ⟨λ hf=>⟨by (clear g2 kG; clear kG; lia),λ r1 e1 l1 u1=>⟨λ hz=>⟨by decide,OP,CL (by (clear g2 kG; clear kG; exact Lq.ll (by decide) g1)) (by (clear g2 kG; clear kG; lia)),Si f s2,⟨[],rfl,by decide,by decide,by decide,λ _ j a b _=>absurd b (by (clear u1 l1 e1 hf g5 g3 g2 g1 kG OQ hr2 hr1; clear kG hn hv qx qX e_r hlt hh Hp hle h0 ha; omega))⟩,λ k s3 hS=>?_⟩,λ _=>⟨hs2,by (clear g2 kG; clear kG; exact Lq.ll (by decide) (Lq.al _ g1)),by lia,g3,g4,g5⟩⟩⟩,λ hf=>⟨λ hb=>⟨⟨by (clear hb kG; clear kG; lia),by lia⟩,?_⟩,λ _=>hs2⟩⟩
  · refine aG λ G kG=>?_
    obtain ⟨bs,e,h1,h2,h3,h4⟩:=hS
    subst e
    refine kG ?_
    have hz:r1=0:=of_decide_eq_true hz
    refine ⟨λ hk=>⟨by lia,λ r2 e2 l2 u2=>⟨_,getLast _ _,by rw [List.length_map]; (clear hz kG h2 h1; clear hz g2 kG; clear kG; lia),bs++[decide (r2≠0)],?_,Lq.ll (by decide) (Lq.al _ h1),by lia,by rw [List.length_append]; simp; (clear hz kG h2 h1; clear hz kG; clear kG; exact Lq.ls h3 (Lq.rs _ (by decide))),λ hall j a b c=>?_⟩⟩,λ hk=>⟨bs,getLast _ _,λ hall=>⟨hs2.app _,Lq.ll (by decide) (Lq.al _ g1),by lia,by (clear hz kG; clear hz g2 kG; clear kG; exact Lq.ll (by decide) g1),.inr ⟨⟨by omega,g2,λ j a b c=>h4 hall j a (by (clear c hz kG h2; clear hz u1 e1 hf g2 g1 kG; clear kG; exact Lq.sl b hk)) c⟩,Lq.e (Lq.ll (Int.le_of_eq e1.symm) (Int.le_of_eq hz)) (Lq.ll l1 (Int.le_of_eq e1))⟩,by (clear hz kG; clear hz g5 g2 kG OQ hr2 hr1; clear kG; exact Lq.pl hf)⟩,λ _=>⟨hs2.app _,Lq.ll (by decide) (Lq.al _ g1),by lia,g3,g4,g5⟩⟩⟩
    · rw [nB,List.map_append]; rfl
    · rw [allB_snoc,Bool.and_eq_true] at hall
      by_cases hjk:j<k
      · exact h4 hall.1 j a hjk c
      · have e:j=k:=by lia
        subst e
        have:=of_decide_eq_true hall.2
        rw [e2] at this
        exact this
  · have hb:=of_decide_eq_true hb
    have ho:=g4.resolve_left (Lq.y hb)
    have hd:n%best=0:=Int.emod_eq_zero_of_dvd (Int.dvd_trans (Int.dvd_of_emod_eq_zero ho.2) (Int.dvd_of_emod_eq_zero hr2))
    have od':=Od.quot C FH od (Lq.ls (by decide) hb) hd
    have FF:=bD C FH (n / best)
    refine Dz O C ha FH ?_
    generalize mul p a (n / best) (some P)=R at od' FF
    cases R with
    | none=>exact absurd (z5 C 1) (od'.least 1 (by decide) hb)
    | some R=>exact q s2 R best hs2 FF od' ho.1 (Lq.ll (Lq.ll g5 OQ) hn))
end
end
noncomputable section
section
variable {bs:Bs} {d:Nat} {σ:List AO} {Q:AV→List AO→Prop}
inductive Sj (p a:Int) (P:Int×Int) (σ2:List AO) (m n:Int) (r X Y Z:Int) (i:Nat) (σ3:List AO):Prop
 | mk (s:Int) (e:σ3=σ2) (h:Pm m n (2^i) s r) (rd:Rd p X Y Z) (rep:Rep p X Y Z (mul p a s (some P))):Sj p a P σ2 m n r X Y Z i σ3
theorem BX (i:Nat):(2:Int)^(i+1)=2*2^i:=by rw [Int.pow_succ,Int.mul_comm]
section
variable {c:Nat} {p a b:Int} {ω:List D}
theorem FI (O:(U bs).Ok) (C:Cv p a b) (ha:0≤a∧a<p) (H:Gd c p a b ω σ) {n k:Nat} {P:Int×Int} {nn x y z:Int} {g:Bool} {T:List (Int×Int)} (bO:σ[n]? = some (.inst (q8 c x y z (.int nn) g k))) (hk:ω[k]? = some (.tab T)) (hT1:∀ i q,T[i]? = some q→some q=mul p a (2^i) (some P)) (hT2:8*nn≤2^T.length)
 (hP:On p a b (some P)) (od:Od p a nn (some P)) {m:Int} (m0:0≤m) (m1:m<2*nn)
 (q:∀ v δ σ',Gd c p a b (ω++δ) σ'→Den (ω++δ) (.int nn) (mul p a m (some P)) v→Q v σ'):ah (U bs) (d+5) (.cst (.ref lE)) [.inst aj n,.int m] σ Q :=
 ah.of O (T:=T0) (by kernel_rfl) (by kernel_rfl) λ L=>Eq.mp (α:=aO n "_PointJacobi__curve" σ λ v=>dO 88 v λ i=>aD i "p" σ∧ah (U bs) (d+4) (.cst (.ref 57)) [.inst 88 i] σ λ v1 s=>dI v1 λ i1=>aD n "_add" s∧aO n "_PointJacobi__precompute" s λ v2=>dL v2 λ i2=>∃ ys:List (Int×Int),s[i2]? = some (AO.lst (ys.map (λ a=>.tup [.int a.1,.int a.2])))∧∃ I:Int→Int→Int→Int→Nat→List AO→Prop,I m 0 0 0 0 s∧∀ a:Int,∀ a1:Int,∀ a2:Int,∀ a3:Int,∀ i3:Nat,∀ ai:List AO,I a a1 a2 a3 i3 ai→ai[i2]? = some (AO.lst (ys.map (λ a4=>.tup [.int a4.1,.int a4.2])))∧(∀ y:(Int×Int),ys[i3]? = some y→(0:Int)<2∧∀ r:Int,r=(a%2)→0≤r→r<2→((decide (r≠0))=true→(0:Int)<4∧∀ r1:Int,r1=(a%4)→0≤r1→r1<4→((decide (2≤r1))=true→((0:Int)<2∧(2:Int)<1073741824)∧ah (U bs) (d+4) (.cst (.ref 268)) [.inst 313 n,.int a1,.int a2,.int a3,.int y.1,.int (-y.2),.int 1,.int i1] ai λ v3 s1=>d3 v3 λ x y1 z=>I ((a+1) / 2) x y1 z (i3+1) s1)∧((decide (2≤r1))=false→((0:Int)<2∧(2:Int)<1073741824)∧ah (U bs) (d+4) (.cst (.ref 268)) [.inst 313 n,.int a1,.int a2,.int a3,.int y.1,.int y.2,.int 1,.int i1] ai λ v3 s1=>d3 v3 λ x y1 z=>I ((a-1) / 2) x y1 z (i3+1) s1))∧((decide (r≠0))=false→((0:Int)<2∧(2:Int)<1073741824)∧I (a / 2) a1 a2 a3 (i3+1) ai))∧(i3=ys.length→((!(decide (a3≠0)))=true→Q (.cst (.ref 414)) ai)∧((!(decide (a3≠0)))=false→aO n "_PointJacobi__curve" ai λ v3=>dO 88 v3 λ i4=>aO n "_PointJacobi__order" ai λ v4=>ah (U bs) (d+4) (.cst (.ref 313)) [.inst 88 i4,.int a1,.int a2,.int a3,v4] ai λ v5 s1=>dO 313 v5 λ i5=>Q (.inst 313 i5) s1))) (by kernel_rfl) (by
  have Hp:=C.pos
  have hp:=C.hp
  have qt:=H.AS
  have Sm:=H.tab hk
  have hs:HF σ n p a b:=⟨c,x,y,z,.int nn,g,k,bO,qt⟩
  have one:(0:Int)≤1∧1<p:=by have:=C.lo; lia
  refine zW bO ⟨rfl,bA qt (by kernel_rfl),iU O qt ⟨bA bO (by kernel_rfl),Ot bO ⟨T,Sm,Sj p a P σ m nn,⟨0,rfl,Pm.start m0 m1,⟨⟨Int.le_refl 0,Hp⟩,⟨Int.le_refl 0,Hp⟩,⟨Int.le_refl 0,Hp⟩⟩,Int.zero_emod p⟩,λ r X Y Z i σ3 hI=>?_⟩⟩⟩
  refine aG λ G kG=>?_
  obtain ⟨s,e,h,rd,rep⟩:=hI
  subst e
  refine kG ?_
  have yz:=bD C hP s
  refine ⟨Sm,λ y hy=>⟨by decide,λ r1 e1 l1 u1=>⟨λ h1=>⟨by decide,λ r2 e2 l2 u2=>⟨λ h2=>⟨⟨by decide,by decide⟩,?_⟩,λ h2=>⟨⟨by decide,by decide⟩,?_⟩⟩⟩,λ h1=>⟨⟨by decide,by decide⟩,?_⟩⟩⟩,λ ei=>?_⟩
  · have h1:=of_decide_eq_true h1
    have h2:=of_decide_eq_true h2
    have ey:=hT1 i y hy
    have hy1:On p a b (some y):=ey▸bD C hP _
    have st:=h.minus (P6 e1 h1 e2 h2).1
    refine BI O C hs yz (bQ C hy1) rep (yH C hy1 (wK C)) (bN.of rd.x hp) (bN.of rd.y hp) (bN.of hy1.1 hp) (bN.of hy1.2.1 hp).neg (bN.of ha hp) rd.z one (λ z1 _ hx hy'=>?_) λ x3 y3 z3 QT rep3=>⟨s-2^i,rfl,?_,QT,?_⟩
    · exfalso
      rw [z1] at rep
      have e1:=Gm C yz (bQ C hy1) rep (yH C hy1 (wK C)) hx hy'
      rw [ey,← mul_neg C hP,Od.eq C hP od] at e1
      rw [Int.emod_eq_of_lt (by lia) (by (clear e1 hy' hx z1 h2 h1; clear h2 u2 l2 e2 h1 u1 l1 e1 one hp Hp m1 m0 hT2 ha; omega))] at e1
      (clear hy' hx z1 h2 h1; clear h2 u2 l2 e2 h1 one hp Hp m1 m0 hT2 ha; omega)
    · rw [BX]; exact st.1
    · rw [ey,← mul_neg C hP,← mul_add C hP,← Int.sub_eq_add_neg] at rep3
      exact rep3
  · have h1:=of_decide_eq_true h1
    have h2:=of_decide_eq_false h2
    have ey:=hT1 i y hy
    have hy1:On p a b (some y):=ey▸bD C hP _
    have st:=h.plus (P7 e1 h1 e2 h2).1
    refine BI O C hs yz hy1 rep (wK C) (bN.of rd.x hp) (bN.of rd.y hp) (bN.of hy1.1 hp) (bN.of hy1.2.1 hp) (bN.of ha hp) rd.z one (λ z1 _ hx hy'=>?_) λ x3 y3 z3 QT rep3=>⟨s+2^i,rfl,?_,QT,?_⟩
    · have f1:=Int.emod_eq_emod_iff_emod_sub_eq_zero.mpr hx
      have f2:=Int.emod_eq_emod_iff_emod_sub_eq_zero.mpr hy'
      rw [tT rd.x,tT hy1.1] at f1
      rw [tT rd.y,tT hy1.2.1] at f2
      exact ⟨f1.symm,f2.symm⟩
    · rw [BX]; exact st
    · rw [ey,← mul_add C hP] at rep3
      exact rep3
  · have h1:=of_decide_eq_false h1
    exact ⟨s,rfl,by rw [BX]; exact h.P9 (Lq.e (Lq.ll (Int.le_of_eq e1.symm) (Int.le_of_eq (Classical.byContradiction h1))) (Lq.ll l1 (Int.le_of_eq e1))),rd,rep⟩
  · subst ei
    have es:=h.fin hT2
    subst es
    refine ⟨λ h=>?_,λ h=>?_⟩
    · have e:Z=0:=nT h
      have e0:=sC C yz rep (by rw [e]; exact Int.zero_emod p)
      refine q _ [] _ (by rw [List.append_nil]; exact H) ?_
      rw [e0]; exact rfl
    · have e:Z≠0:=nF h
      obtain ⟨S,hS⟩:=z7 rep (by rw [tT rd.z]; exact e)
      rw [hS] at rep yz
      refine zW bO ⟨rfl,K9 bO rfl (CH O ⟨rfl,?_⟩)⟩
      have H3:=H.ya (o:=.int nn) (g:=false) yz rep rd
      rw [H.len] 
      refine q _ _ _ (H.len▸H3) ?_
      rw [hS]
      exact ⟨_,false,rfl,by rw [List.getElem?_append_right (Nat.le_refl _),Nat.sub_self]; rfl,λ _=>rfl⟩)
end
end
end
noncomputable section
section
variable {bs:Bs} {d:Nat} {σ:List AO} {Q:AV→List AO→Prop}
section
variable {c:Nat} {p a b:Int} {ω:List D}
end
end
end
noncomputable section
section
variable {bs:Bs} {d:Nat} {σ:List AO} {Q:AV→List AO→Prop}
section
variable {c:Nat} {p a b:Int} {ω:List D}
theorem zK.fill {D0:D} {o:AO} {L:Nat} {l:AO} {T:List (Int×Int)} (hL:ω[L]? = some (.raw l)) (h:zK c p a b ω D0 o):zK c p a b (ω.set L (.tab T)) D0 o:=by
 cases D0 with
 | pj P od g =>
  obtain ⟨x,y,z,k,T',e,h1,h2,h3,h4,h5⟩:=h
  refine ⟨x,y,z,k,T',e,h1,h2,h3,?_,h5⟩
  rw [List.getElem?_set_ne (λ e=>by rw [e,h4] at hL; cases hL)]
  exact h4
 | _=>exact h
theorem Gd.fill (H:Gd c p a b ω σ) {n L:Nat} {P:Int×Int} {o:AV} {x y z:Int} {T:List (Int×Int)} (hn:ω[n]? = some (.pj P o true)) (hP:On p a b (some P)) (hr:Rep p x y z (some P)) (hd:Rd p x y z)
 (hL:ω[L]? = some (.raw (.lst (T.map yD)))) (hT:zJ p a P o T):Gd c p a b (ω.set L (.tab T)) (σ.set n (.inst (q8 c x y z o true L))):=by
 have TY:L≠n:=λ e=>by rw [e,hn] at hL; cases hL
 have TZ:L≠c:=λ e=>by rw [e,H.cur] at hL; cases hL
 have lL:=(List.getElem?_eq_some_iff.mp hL).1
 have ln:=(List.getElem?_eq_some_iff.mp hn).1
 refine ⟨by rw [List.length_set,List.length_set,H.len],by rw [List.getElem?_set_ne TZ]; exact H.cur,λ m E hm=>?_⟩
 by_cases e1:L=m
 · subst e1
   rw [List.getElem?_set_self lL] at hm
   cases hm
   exact ⟨.lst (T.map yD),by rw [List.getElem?_set_ne (Ne.symm TY)]; exact H.raw hL,rfl⟩
 · rw [List.getElem?_set_ne e1] at hm
   by_cases e2:n=m
   · subst e2
     rw [hn] at hm
     cases hm
     exact ⟨_,List.getElem?_set_self (by rw [H.len]; exact ln),x,y,z,L,T,rfl,hP,hr,hd,List.getElem?_set_self lL,.inr ⟨rfl,hT⟩⟩
   · obtain ⟨o',h1,h2⟩:=H.sat m E hm
     exact ⟨o',by rw [List.getElem?_set_ne e2]; exact h1,h2.fill hL⟩
end
end
end
noncomputable section
section
variable {bs:Bs} {d:Nat} {σ:List AO} {Q:AV→List AO→Prop}
section
variable {c:Nat} {p a b:Int} {ω:List D}
theorem vL {n m:Nat} {l:List AV} {E E':D} (h:ω[n]? = some (.raw (.lst l))) (hm:ω[m]? = some E) (hE:∀ l,E≠.raw (.lst l)):(ω.set n E')[m]? = some E:=by
 have:n≠m:=λ e=>by
  subst e
  rw [h] at hm
  cases hm
  exact hE _ rfl
 rw [List.getElem?_set_ne this]; exact hm
theorem AW {n:Nat} {E E':D} (h:ω[n]? = some E):(ω.set n E')[n]? = some E':=List.getElem?_set_self (List.getElem?_eq_some_iff.mp h).1
theorem Gd.BY (H:Gd c p a b ω σ) {n:Nat} {l:List AV} (h:ω[n]? = some (.raw (.lst l))) (l':List AV):Gd c p a b (ω.set n (.raw (.lst l'))) (σ.set n (.lst l')):=by
 have hn:=H.raw h
 refine ⟨by rw [List.length_set,List.length_set]; exact H.len,vL h H.cur (λ l e=>by cases e),λ m E hm=>?_⟩
 by_cases e:n=m
 · subst e
   rw [AW h] at hm
   cases hm
   exact ⟨_,getSet hn,rfl⟩
 · rw [List.getElem?_set_ne e] at hm
   refine aG λ G kG=>?_
   obtain ⟨o,h1,h2⟩:=H.sat m E hm
   refine kG ?_
   refine ⟨o,bB h1 e,?_⟩
   cases E with
   | pj P od g=>obtain ⟨x,y,z,k,T,e,g1,g2,g3,g4,g5⟩:=h2; exact ⟨x,y,z,k,T,e,g1,g2,g3,vL h g4 (λ l e=>by cases e),g5⟩
   | _=>exact h2
end
end
end
noncomputable section
section
variable {bs:Bs} {d:Nat} {σ:List AO} {Q:AV→List AO→Prop}
section
variable {c:Nat} {p a b:Int} {ω:List D}
theorem yV (O:(U bs).Ok) (C:Cv p a b) (H:Gd c p a b ω σ) {n:Nat} {P:Int×Int} {o:AV} {g:Bool} (hn:ω[n]? = some (.pj P o g)) (q:Q (.int P.1) σ):ah (U bs) (d+2) (.cst (.ref m7)) [.inst aj n] σ Q:=by
 obtain ⟨x,y,z,k,T,e,h1,h2,h3,h4,h5⟩:=H.pj hn
 exact Lh O C e H.AS h1 h2 h3 q
theorem CM (O:(U bs).Ok) (C:Cv p a b) (H:Gd c p a b ω σ) {n:Nat} {P:Int×Int} {o:AV} {g:Bool} (hn:ω[n]? = some (.pj P o g)) (q:Q (.int P.2) σ):ah (U bs) (d+2) (.cst (.ref qU)) [.inst aj n] σ Q:=by
 obtain ⟨x,y,z,k,T,e,h1,h2,h3,h4,h5⟩:=H.pj hn
 exact Li O C e H.AS h1 h2 h3 q
end
end
end
noncomputable section
section
variable {bs:Bs} {d:Nat} {σ:List AO} {Q:AV→List AO→Prop}
inductive Jf (c:Nat) (p a b:Int) (ω:List D) (σ:List AO) (n:Nat) (P:Int×Int) (nn:Int) (g:Bool):Prop
 | mk (x y z:Int) (k:Nat) (T:List (Int×Int)) (e:σ[n]? = some (.inst (q8 c x y z (.int nn) g k))) (h1:On p a b (some P)) (h2:Rep p x y z (some P)) (h3:Rd p x y z) (h4:ω[k]? = some (.tab T)) (h5:g=true→T≠[]∧zJ p a P (.int nn) T) (h6:g=false→T=[]):Jf c p a b ω σ n P nn g
inductive Sn (c:Nat) (p a b:Int) (ω:List D) (σ:List AO) (P:Int×Int) (nn:Int) (i:Int) (dn:Nat) (m:Nat) (s:List AO):Prop
 | mk (δ:List D) (j:Nat) (T:List (Int×Int)) (R:Int×Int) (H:Gd c p a b (ω++.raw (.lst (T.map yD)) :: δ) s) (hF:∀ (i:Nat) o,σ[i]? = some o→s[i]? = some o) (ei:i=2^j) (hdn:ω.length<dn) (hd:(ω++.raw (.lst (T.map yD)) :: δ)[dn]? = some (.pj R (.int (nn*2)) false)) (eR:some R=mul p a (2^j) (some P)) (hl:T.length=j+1) (hT:∀ (i:Nat) q,T[i]? = some q→some q=mul p a (2^i) (some P)) (hi:i<8*nn) (em:m=(8*nn-i).toNat):Sn c p a b ω σ P nn i dn m s
section
variable {c:Nat} {p a b:Int} {ω:List D}
theorem OS {P:Int×Int} {nn:Int} {T:List (Int×Int)} (hn:1<nn) (h:zJ p a P (.int nn) T):T≠[]:=λ e=>by
 obtain ⟨n,en,_,h,_⟩:=h
 cases en
 rw [e] at h
 have h:4*nn≤2^0:=h
 rw [Int.pow_zero] at h
 lia
theorem yd (ω:List D) (E E':D) (δ:List D):(ω++E :: δ).set ω.length E'=ω++E' :: δ:=by rw [List.set_append_right _ _ (Nat.le_refl _),Nat.sub_self]; rfl
theorem kE (ω:List D) (E:D) (δ:List D):(ω++E :: δ)[ω.length]? = some E:=by rw [List.getElem?_append_right (Nat.le_refl _),Nat.sub_self]; rfl
theorem CN (ω:List D) (E E':D) (δ:List D):(ω++E :: E' :: δ)[ω.length+1]? = some E':=by
 rw [List.getElem?_append_right (Nat.le_succ _),show ω.length+1-ω.length=1 by lia]; rfl
theorem FJ {ω:List D} {E E':D} {δ:List D} {m:Nat} {x:Option D} (hm:ω.length<m) (h:(ω++E :: δ)[m]? = x):(ω++E' :: δ)[m]? = x:=by
 rw [List.getElem?_append_right (Lq.nw hm)] at h ⊢
 obtain ⟨k,hk⟩:∃ k,m-ω.length=k+1:=⟨m-ω.length-1,(Nat.sub_add_cancel (Nat.sub_pos_of_lt hm)).symm⟩
 rw [hk] at h ⊢
 exact h
theorem OT {j:Nat} (h:(2:Int)^j<8*1000):j<13:=by
 refine Nat.lt_of_not_le λ hj=>?_
 obtain ⟨k,rfl⟩:=Nat.exists_eq_add_of_le hj
 have h1:(0:Int)<2^k:=Int.pow_pos (by decide)
 rw [Int.pow_add,show (2:Int)^13=8192 from rfl] at h
 lia
theorem FL (O:(U bs).Ok) (C:Cv p a b) (ha:0≤a∧a<p) (H:Gd c p a b ω σ) {n:Nat} {P R:Int×Int} {o:AV} {g:Bool} (hn:ω[n]? = some (.pj P o g)) (ho:ki o=true) (hR:some R=mul p a 2 (some P))
 (q:∀ σ',Gd c p a b (ω++[.pj R o false,.tab []]) (σ++σ')→Q (.inst aj ω.length) (σ++σ')):ah (U bs) (d+5) (.cst (.ref sL)) [.inst aj n] σ Q :=
 ah.of O (T:=T0) (by kernel_rfl) (by kernel_rfl) λ L=>Eq.mp (α:=aO n "_PointJacobi__coords" σ λ v=>d3 v λ x y z=>((!(decide (z≠0)))=true→Q (.cst (.ref 414)) σ)∧((!(decide (z≠0)))=false→aO n "_PointJacobi__curve" σ λ v1=>dO 88 v1 λ i=>aD i "p" σ∧ah (U bs) (d+4) (.cst (.ref 57)) [.inst 88 i] σ λ v2 s=>dI v2 λ i1=>aO n "_PointJacobi__curve" s λ v3=>dO 88 v3 λ i2=>aD i2 "a" s∧ah (U bs) (d+4) (.cst (.ref 64)) [.inst 88 i2] s λ v4 s1=>dI v4 λ i3=>aD n "_double" s1∧ah (U bs) (d+4) (.cst (.ref 219)) [.inst 313 n,.int x,.int y,.int z,.int i1,.int i3] s1 λ v5 s2=>d3 v5 λ x1 y1 z1=>((!(decide (z1≠0)))=true→Q (.cst (.ref 414)) s2)∧((!(decide (z1≠0)))=false→aO n "_PointJacobi__curve" s2 λ v6=>dO 88 v6 λ i4=>aO n "_PointJacobi__order" s2 λ v7=>ah (U bs) (d+4) (.cst (.ref 313)) [.inst 88 i4,.int x1,.int y1,.int z1,v7] s2 λ v8 s3=>dO 313 v8 λ i5=>Q (.inst 313 i5) s3))) (by kernel_rfl) (by
  have Hp:=C.pos
  have hp:=C.hp
  have qt:=H.AS
  refine aG λ G kG=>?_
  obtain ⟨x,y,z,k,T,bO,hP,hr,hd,h4,h5⟩:=H.pj hn
  refine kG ?_
  have hs:HF σ n p a b:=⟨c,x,y,z,o,g,k,bO,qt⟩
  refine HA bO ⟨λ h=>absurd (nT h) (tU hr),λ _=>zW bO ⟨rfl,bA qt (by kernel_rfl),iU O qt (zW bO ⟨rfl,bA qt (by kernel_rfl),qs O qt ⟨bA bO (by kernel_rfl),BH O C hs hP hr (bN.of hd.x hp) (bN.of hd.y hp) hd.z (bN.of ha hp) λ X Y Z rd rep=>?_⟩⟩)⟩⟩
  have yz:=bD C hP 2
  rw [← show mul p a 2 (some P)=plus p a (some P) (some P) from (yF C hP 1).symm,← hR] at rep
  rw [← hR] at yz
  refine ⟨λ h=>absurd (nT h) (tU rep),λ h=>zW bO ⟨rfl,K9 bO ho (CH O ⟨rfl,?_⟩)⟩⟩
  have H3:=H.ya (o:=o) (g:=false) yz rep rd
  rw [H.len]
  exact q _ (H.len▸H3))
theorem Ln (O:(U bs).Ok) (H:Gd c p a b ω σ) {P:Int×Int} {x y z:Int} {o:AV} (h1:On p a b (some P)) (h2:Rep p x y z (some P)) (h3:Rd p x y z) (q:∀ δ,Gd c p a b (ω++[.pj P o false,.tab []]) (σ++δ)→Q (.inst aj ω.length) (σ++δ)) :
 ah (U bs) (d+2) (.cst (.ref aj)) [.inst aE c,.int x,.int y,.int z,o] σ Q:=CH O (by
 have H3:=H.ya (o:=o) (g:=false) h1 h2 h3
 have:=q _ H3
 rw [← H.len] at this
 exact this)
theorem HQ (O:(U bs).Ok) (C:Cv p a b) (H:Gd c p a b ω σ) {n:Nat} {P:Int×Int} {o:AV} {g:Bool} (hn:ω[n]? = some (.pj P o g)) (q:∀ σ',Gd c p a b ω σ'→(∀ (i:Nat) o,i≠n→σ[i]? = some o→σ'[i]? = some o)→Q (.inst aj n) σ') :
 ah (U bs) (d+2) (.cst (.ref nq)) [.inst aj n] σ Q:=by
 obtain ⟨x,y,z,k,T,e,h1,h2,h3,h4,h5⟩:=H.pj hn
 exact Fy O C e H.AS h1 h2 h3 (q _ (H.scaled C hn e) λ i o hi h=>bB h (Ne.symm hi))
theorem Gd.vZ (H:Gd c p a b ω σ) {n:Nat} {P:Int×Int} {o:AV} {g:Bool} {name:Str} (hn:ω[n]? = some (.pj P o g)) (he:∀ x y z k,(q8 c x y z o g k).lookup name=none):aD n name σ:=by
 obtain ⟨x,y,z,k,T,e,_⟩:=H.pj hn
 exact bA e (he _ _ _ _)
theorem zM (O:(U bs).Ok) (C:Cv p a b) (ha:0≤a∧a<p) (H:Gd c p a b ω σ) {n:Nat} {P:Int×Int} {nn:Int} {g:Bool} (hn:ω[n]? = some (.pj P (.int nn) g))
 (od:Od p a nn (some P)) (hodd:nn%2=1) (hn1:1<nn) (hnb:nn≤1000)
 (q:∀ σ' δ,Gd c p a b (ω++δ) σ'→(∀ (i:Nat) o,i≠n→σ[i]? = some o→σ'[i]? = some o)→Jf c p a b (ω++δ) σ' n P nn g→Q .none σ') :
 ah (U bs) (d+7) (.cst (.ref kI)) [.inst aj n] σ Q :=
 ah.of O (T:=HD) (by kernel_rfl) (by kernel_rfl) λ L=>Eq.mp (α:=aO n "_PointJacobi__generator" σ λ v=>dB v λ i=>((!i)=true→Q .none σ)∧((!i)=false→aO n "_PointJacobi__precompute" σ λ v1=>dL v1 λ i1=>cR i1 σ λ xs=>xs.length≤1000000∧((!xs.isEmpty)=true→Q .none σ)∧((!xs.isEmpty)=false→aO n "_PointJacobi__order" σ λ v2=>dI v2 λ i2=>((decide (i2≠0))=true→(aa i2∨aa 2)∧aO n "_PointJacobi__coords" (σ++[AO.lst []]) λ v3=>d3 v3 λ x y z=>aO n "_PointJacobi__curve" (σ++[AO.lst []]) λ v4=>dO 88 v4 λ i3=>ah (U bs) (d+6) (.cst (.ref 313)) [.inst 88 i3,.int x,.int y,.int z,.int (i2*2)] (σ++[AO.lst []]) λ v5 s=>dO 313 v5 λ i4=>(aa (i2*2)∨aa 2)∧cR σ.length s λ x1=>aD i4 "x" s∧ah (U bs) (d+6) (.cst (.ref 173)) [.inst 313 i4] s λ v6 s1=>dI v6 λ i5=>aD i4 "y" s1∧ah (U bs) (d+6) (.cst (.ref 180)) [.inst 313 i4] s1 λ v7 s2=>dI v7 λ i6=>cR σ.length s2 λ tL=>tL.length≤1000000∧∃ I:Int→Nat→Nat→List AO→Prop,(dO 313 (.inst 313 i4) λ a=>∃ m:Nat,I 1 a m (s2.set σ.length (AO.lst (tL++[.tup [.int i5,.int i6]]))))∧∀ a:Int,∀ a1:Nat,∀ m:Nat,∀ af:List AO,I a a1 m af→((decide (a<((i2*2)*2)))=true→(aa a∨aa 2)∧aD a1 "double" af∧ah (U bs) (d+6) (.cst (.ref 226)) [.inst 313 a1] af λ v8 s3=>dO 313 v8 λ i7=>aD i7 "scale" s3∧ah (U bs) (d+6) (.cst (.ref 187)) [.inst 313 i7] s3 λ v9 s4=>dO 313 v9 λ i8=>cR σ.length s4 λ x2=>aD i8 "x" s4∧ah (U bs) (d+6) (.cst (.ref 173)) [.inst 313 i8] s4 λ v10 s5=>dI v10 λ i9=>aD i8 "y" s5∧ah (U bs) (d+6) (.cst (.ref 180)) [.inst 313 i8] s5 λ v11 s6=>dI v11 λ Jg=>cR σ.length s6 λ So=>So.length≤1000000∧dO 313 (.inst 313 i8) λ a2=>∃ m':Nat,m'<m∧I (a*2) a2 m' (s6.set σ.length (AO.lst (So++[.tup [.int i9,.int Jg]]))))∧((decide (a<((i2*2)*2)))=false→∃ fs:List (Str×AV),af[n]? = some (AO.inst fs)∧fs.length<1000∧Q .none (af.set n (AO.inst (aI "_PointJacobi__precompute" (.lst σ.length) fs)))))∧((decide (i2≠0))=false→False)))) (by kernel_rfl) (by
  refine aG λ G kG=>?_
  obtain ⟨x,y,z,k,T0,bO,h1,h2,h3,h4,h5⟩:=H.pj hn
  refine kG ?_
  have q0:(g=true→T0≠[]∧zJ p a P (.int nn) T0)→(g=false→T0=[])→Q .none σ:=λ g1 g2=>q σ [] (by rw [List.append_nil]; exact H) (λ i o _ h=>h) (by rw [List.append_nil]; exact ⟨x,y,z,k,T0,bO,h1,h2,h3,h4,g1,g2⟩)
  refine TS bO ⟨λ e=>?_,λ e=>Ot bO ⟨_,H.tab h4,?_⟩⟩
  · have e:g=false:=by simpa using e
    refine q0 (λ e'=>by rw [e] at e'; cases e') λ _=>?_
    rcases h5 with h5 | h5
    · exact h5
    · rw [e] at h5; cases h5.1
  have eg:g=true:=by simpa using e
  subst eg
  refine ⟨?_,λ e=>?_,λ e=>?_⟩
  · rw [List.length_map]
    rcases h5 with h5 | h5
    · rw [h5]; exact Nat.zero_le _
    · obtain ⟨_,_,_,_,h⟩:=h5.2; exact Lq.qy h (by decide)
  · refine q0 (λ _=>?_) (λ e=>by cases e)
    rcases h5 with h5 | h5
    · rw [h5] at e; cases e
    · exact ⟨OS hn1 h5.2,h5.2⟩
  have e0:T0=[]:=by cases T0 with
   | nil=>rfl
   | cons=>cases e
  subst e0
  have Hp:=C.pos
  have hp:=C.hp
  have H1:=H.kU (.lst [])
  have T3:=au hn [D.raw (.lst [])]
  have OU:=bw bO [AO.lst []]
  refine K9 bO rfl ⟨λ _=>⟨.inr (by unfold aa; decide),HA OU (zW OU ⟨rfl,Ln O H1 h1 h2 h3 λ δ1 H2=>⟨rfl,.inr (by unfold aa; decide),?_⟩⟩)⟩,λ h=>absurd (of_decide_eq_false h) (by (clear h e; clear e; lia))⟩
  rw [List.append_assoc] at H2
  have H2:Gd c p a b (ω++D.raw (.lst []) :: [D.pj P (.int (nn*2)) false,.tab []]) _:=H2
  rw [List.length_append,H.len]
  have hd2:(ω++D.raw (.lst []) :: [D.pj P (.int (nn*2)) false,.tab []])[ω.length+1]? = some (.pj P (.int (nn*2)) false):=CN _ _ _ _
  have Pz:∀ (i:Nat) o,σ[i]? = some o→(σ++[AO.lst []]++δ1)[i]? = some o:=λ i o h=>bw (bw h _) _
  generalize σ++[AO.lst []]++δ1=s1 at H2 Pz
  have Sp:=H2.raw (kE ω _ _)
  refine ⟨_,Sp,H2.vZ hd2 (λ _ _ _ _=>by kernel_rfl),yV O C H2 hd2 ⟨H2.vZ hd2 (λ _ _ _ _=>by kernel_rfl),CM O C H2 hd2 ⟨_,Sp,Nat.zero_le _,Sn c p a b ω σ P nn,⟨rfl,(8*nn-1).toNat,?_⟩,λ i dn m s3 hI=>?_⟩⟩⟩
  · have H3:=H2.BY (kE ω _ _) [yD P]
    rw [yd] at H3
    refine ⟨[.pj P (.int (nn*2)) false,.tab []],0,[P],P,H3,λ i o h=>?_,rfl,Nat.lt_succ_self _,?_,?_,rfl,λ i q hq=>?_,by (clear e; clear e hodd; lia),rfl⟩
    · exact bB (Pz i o h) (by have:=(List.getElem?_eq_some_iff.mp h).1; have:=H.len; lia)
    · exact CN _ _ _ _
    · rw [show ((2:Int)^0)=1 from rfl,mul_one]
    · match i,hq with
      | 0,hq=>cases hq; rw [show ((2:Int)^0)=1 from rfl,mul_one]
  obtain ⟨δ,j,T,R,H3,hF,ei,hdn,hd,eR,hl,hT,hi,em⟩:=hI
  have Um:=H3.raw (kE ω _ _)
  have hj:j<13:=OT (by rw [← ei]; (clear ei e; clear e hodd; lia))
  refine ⟨λ e=>?_,λ e=>?_⟩
  · have e:=of_decide_eq_true e
    have PA:∃ R2,some R2=mul p a 2 (some R):=by
     have e2:mul p a 2 (some R)=mul p a (2^(j+1)) (some P):=by rw [eR,← kg C h1,BX]
     cases hz:mul p a 2 (some R) with
     | some R2=>exact ⟨R2,rfl⟩
     | none=>exact absurd ((od.dvd C h1).mp (e2.symm.trans hz)) (Gq hn1 hodd _)
    obtain ⟨R2,PA⟩:=PA
    have e2:some R2=mul p a (2^(j+1)) (some P):=by rw [PA,eR,← kg C h1,BX]
    refine ⟨.inr (by unfold aa; decide),H3.vZ hd (λ _ _ _ _=>by kernel_rfl),FL O C ha H3 hd rfl PA λ σ4 H4=>⟨rfl,?_⟩⟩
    rw [List.append_assoc] at H4
    have H4:Gd c p a b (ω++D.raw (.lst (T.map yD)) :: (δ++[D.pj R2 (.int (nn*2)) false,.tab []])) _:=H4
    have HR:(ω++D.raw (.lst (T.map yD)) :: (δ++[D.pj R2 (.int (nn*2)) false,.tab []]))[(ω++D.raw (.lst (T.map yD)) :: δ).length]? = some (.pj R2 (.int (nn*2)) false):=by
     rw [← List.cons_append,← List.append_assoc]
     exact kE _ _ _
    have Sq:∀ (i:Nat) o,σ[i]? = some o→(s3++σ4)[i]? = some o:=λ i o h=>bw (hF i o h) _
    have hlt:ω.length<(ω++D.raw (.lst (T.map yD)) :: δ).length:=by rw [List.length_append,List.length_cons]; lia
    generalize (ω++D.raw (.lst (T.map yD)) :: δ).length=dm at HR hlt
    generalize s3++σ4=s4 at H4 Sq
    generalize δ++[D.pj R2 (.int (nn*2)) false,.tab []]=δ4 at H4 HR
    refine ⟨H4.vZ HR (λ _ _ _ _=>by kernel_rfl),HQ O C H4 HR λ s5 H5 T4=>⟨rfl,?_⟩⟩
    have Ss:=H5.raw (kE ω _ _)
    refine ⟨_,Ss,H5.vZ HR (λ _ _ _ _=>by kernel_rfl),yV O C H5 HR ⟨H5.vZ HR (λ _ _ _ _=>by kernel_rfl),CM O C H5 HR ⟨_,Ss,?_,rfl,(8*nn-i*2).toNat,?_,?_⟩⟩⟩
    · rw [List.length_map]; lia
    · have h0:(0:Int)<2^j:=Int.pow_pos (by decide)
      (clear hi hn1 hodd; lia)
    · have H6:=H5.BY (kE ω _ _) (T.map yD++[yD R2])
      rw [yd] at H6
      have em:T.map yD++[yD R2]=(T++[R2]).map yD:=by rw [List.map_append]; rfl
      rw [em] at H6
      refine ⟨δ4,j+1,T++[R2],R2,em▸H6,λ i o h=>?_,by rw [ei,BX,Int.mul_comm],hlt,?_,e2,by rw [List.length_append,hl]; rfl,λ i q hq=>?_,by (clear em; clear em ei hodd; lia),rfl⟩
      · have hi:=(List.getElem?_eq_some_iff.mp h).1
        have:=H.len
        exact bB (T4 i o (Lq.nx (Lq.nss (Lq.F3 hi (Nat.le_of_eq this)) hlt)) (Sq i o h)) (Lq.ny (Lq.F3 hi (Nat.le_of_eq this)))
      · exact FJ hlt HR
      · by_cases hi:i<T.length
        · rw [List.getElem?_append_left hi] at hq; exact hT i q hq
        · have e3:i=T.length:=by have:=(List.getElem?_eq_some_iff.mp hq).1; rw [List.length_append] at this; have:i<T.length+1:=this; (clear em e; clear e em hl; clear e; clear e; exact Lq.ne (Lq.SH this) (Lq.nn hi))
          rw [e3,List.getElem?_append_right (Nat.le_refl _),Nat.sub_self] at hq
          cases hq
          rw [e3,hl]; exact e2
  · have e:=of_decide_eq_false e
    have OV:=hF _ _ bO
    refine ⟨_,OV,(show 5<1000 by decide),?_⟩
    have es:aI "_PointJacobi__precompute" (.lst ω.length) (q8 c x y z (.int nn) true k)=q8 c x y z (.int nn) true ω.length:=by kernel_rfl
    rw [es]
    have tb:zJ p a P (.int nn) T:=⟨nn,rfl,hT,by rw [hl,Nat.add_sub_cancel,← ei]; lia,by lia⟩
    have H4:=H3.fill (au hn _) h1 h2 h3 (kE ω _ _) tb
    rw [yd] at H4
    exact q _ (.tab T :: δ) H4 (λ i o hi h=>bB (hF i o h) (Ne.symm hi)) ⟨x,y,z,ω.length,T,getSet OV,h1,h2,h3,kE _ _ _,λ _=>⟨OS hn1 tb,tb⟩,(λ h=>nomatch h)⟩)
end
end
end
noncomputable section
section
variable {bs:Bs} {d:Nat} {σ:List AO} {Q:AV→List AO→Prop}
section
variable {c:Nat} {p a b:Int} {ω:List D}
theorem Den.ni {o:AV} {R:G} {v:AV} (h:Den ω o R v):qR v=true:=by
 cases R with
 | none=>cases h; rfl
 | some P=>obtain ⟨n,g,e,_⟩:=h; subst e; rfl
theorem QU (C:Cv p a b) {P:Int×Int} (hP:On p a b (some P)) {nn:Int} (od:Od p a nn (some P)) (hodd:nn%2=1) (hn1:1<nn):P.2≠0:=λ e=>by
 have h:plus p a (some P) (some P)=none:=if_pos ⟨rfl,by rw [e]; exact Int.zero_emod p⟩
 have h2:=(od.dvd C hP (k:=2)).mp ((show mul p a 2 (some P)=plus p a (some P) (some P) from (yF C hP 1).symm).trans h)
 rw [Int.emod_eq_of_lt (by decide) (by lia)] at h2
 cases h2
theorem Lo (O:(U bs).Ok) (C:Cv p a b) (ha:0≤a∧a<p) (H:Gd c p a b ω σ) {n:Nat} {P:Int×Int} {nn:Int} (hn:ω[n]? = some (.pj P (.int nn) true))
 (od:Od p a nn (some P)) (hodd:nn%2=1) (hn1:1<nn) (hnb:nn≤1000) {m:Int}
 (q:∀ v δ σ',Gd c p a b (ω++δ) σ'→Den (ω++δ) (.int nn) (mul p a m (some P)) v→Q v σ'):ah (U bs) (d+8) (.cst (.ref cy)) [.inst aj n,.int m] σ Q :=
 ah.of O (T:=Ou) (by kernel_rfl) (by kernel_rfl) λ L=>Eq.mp (α:=aO n "_PointJacobi__coords" σ λ v=>d3 v λ x y z=>((!(decide (y≠0)))=true→Q (.cst (.ref 414)) σ)∧((!(decide (y≠0)))=false→((!(decide (m≠0)))=true→Q (.cst (.ref 414)) σ)∧((!(decide (m≠0)))=false→((decide (m=1))=true→Q (.inst 313 n) σ)∧((decide (m=1))=false→aO n "_PointJacobi__order" σ λ v1=>dI v1 λ i=>bf (U bs) (d+7) (.int i) σ λ a a1=>a=true∧aO n "_PointJacobi__order" a1 λ v2=>dI v2 λ i1=>(aa i1∨aa 2)∧0<(i1*2)∧∀ r:Int,r=(m%(i1*2))→0≤r→r<(i1*2)→aD n "_maybe_precompute" a1∧ah (U bs) (d+7) (.cst (.ref 138)) [.inst 313 n] a1 λ v3 s=>aO n "_PointJacobi__precompute" s λ v4=>dL v4 λ i2=>cR i2 s λ xs=>xs.length≤1000000∧((!xs.isEmpty)=true→aD n "_mul_precompute" s∧ah (U bs) (d+7) (.cst (.ref 289)) [.inst 313 n,.int r] s λ v5 s1=>Q v5 s1)∧((!xs.isEmpty)=false→aD n "scale" s∧ah (U bs) (d+7) (.cst (.ref 187)) [.inst 313 n] s λ v5 s1=>dO 313 v5 λ i3=>aO i3 "_PointJacobi__coords" s1 λ v6=>d3 v6 λ x1 y1 z1=>aO i3 "_PointJacobi__curve" s1 λ v7=>dO 88 v7 λ i4=>aD i4 "p" s1∧ah (U bs) (d+7) (.cst (.ref 57)) [.inst 88 i4] s1 λ v8 s2=>dI v8 λ i5=>aO i3 "_PointJacobi__curve" s2 λ v9=>dO 88 v9 λ i6=>aD i6 "a" s2∧ah (U bs) (d+7) (.cst (.ref 64)) [.inst 88 i6] s2 λ v10 s3=>dI v10 λ i7=>aD i3 "_double" s3∧aD i3 "_add" s3∧aD i3 "_naf" s3∧ah (U bs) (d+7) (.cst (.ref 106)) [.int r] s3 λ v11 s4=>dL v11 λ i8=>∃ ys:List Int,s4[i8]? = some (AO.lst (ys.map (λ a2=>.int a2)))∧ys.length≤1000000∧∃ I:Int→Int→Int→Nat→List AO→Prop,I 0 0 0 ys.length s4∧∀ a2:Int,∀ a3:Int,∀ a4:Int,∀ i9:Nat,∀ ai:List AO,I a2 a3 a4 i9 ai→(∀ j:Nat,∀ y2:Int,i9=(j+1)→ys[j]? = some y2→ai[i8]? = some (AO.lst (ys.map (λ a5=>.int a5)))∧ah (U bs) (d+7) (.cst (.ref 219)) [.inst 313 i3,.int a2,.int a3,.int a4,.int i5,.int i7] ai λ OW s5=>d3 OW λ x2 y3 z2=>((decide (y2<0))=true→ah (U bs) (d+7) (.cst (.ref 268)) [.inst 313 i3,.int x2,.int y3,.int z2,.int x1,.int (-y1),.int 1,.int i5] s5 λ OX s6=>d3 OX λ x3 y4 z3=>I x3 y4 z3 j s6)∧((decide (y2<0))=false→((decide (0<y2))=true→ah (U bs) (d+7) (.cst (.ref 268)) [.inst 313 i3,.int x2,.int y3,.int z2,.int x1,.int y1,.int 1,.int i5] s5 λ OX s6=>d3 OX λ x3 y4 z3=>I x3 y4 z3 j s6)∧((decide (0<y2))=false→I x2 y3 z2 j s5)))∧(i9=0→((!(decide (a4≠0)))=true→Q (.cst (.ref 414)) ai)∧((!(decide (a4≠0)))=false→aO i3 "_PointJacobi__curve" ai λ OW=>dO 88 OW λ Jg=>aO i3 "_PointJacobi__order" ai λ OX=>dI OX λ QW=>ah (U bs) (d+7) (.cst (.ref 313)) [.inst 88 Jg,.int a2,.int a3,.int a4,.int QW] ai λ T5 s5=>dO 313 T5 λ i12=>Q (.inst 313 i12) s5))))))) (by kernel_rfl) (by
  refine aG λ G kG=>?_
  obtain ⟨x,y,z,k,T0,bO,h1,h2,h3,h4,h5⟩:=H.pj hn
  refine kG ?_
  have hy:=QU C h1 od hodd hn1
  have H0:Gd c p a b (ω++[]) σ:=by rw [List.append_nil]; exact H
  obtain ⟨u,v⟩:=P
  refine HA bO ⟨λ e=>absurd (JW C h1 h2 (nT e)) hy,λ _=>⟨λ e=>?_,λ _=>⟨λ e=>?_,λ _=>K9 bO rfl (bf.int ⟨decide_eq_true (Lq.y (Lq.ls (by decide) hn1)),K9 bO rfl ⟨.inr (by unfold aa; decide),by (clear hodd; lia),λ r er r0 r1=>⟨bA bO (by kernel_rfl),zM O C ha H hn od hodd hn1 hnb λ s δ H1 hF M=>?_⟩⟩⟩)⟩⟩⟩
  · have e:m=0:=nT e
    subst e
    exact q _ [] _ H0 rfl
  · have e:=of_decide_eq_true e
    subst e
    exact q _ [] _ H0 ⟨n,true,rfl,au hn _,λ h=>nomatch h⟩
  · refine aG λ G kG=>?_
    obtain ⟨x',y',z',k',T,e,g1,g2,g3,g4,g5,_⟩:=M
    obtain ⟨hne,n',en,hT1,hT2,T6⟩:=g5 rfl
    cases en
    refine kG ?_
    have hl:1≤T.length:=by cases T with
     | nil=>exact absurd rfl hne
     | cons=>exact Nat.succ_le_succ (Nat.zero_le _)
    have T7:8*nn≤2^T.length:=by
     have e2:(2:Int)^T.length=2*2^(T.length-1):=by rw [← BX,Nat.sub_add_cancel hl]
     rw [e2]; (clear kG r1 er; clear kG hnb hn1 hodd; lia)
    have hm:mul p a r (some (u,v))=mul p a m (some (u,v)):=(od.eq C h1).mpr (by
     have e3:=Int.mul_ediv_add_emod m (nn*2)
     rw [← er] at e3
     exact Int.emod_eq_zero_of_dvd ⟨-(2*(m / (nn*2))),by rw [Int.mul_neg,← Int.mul_assoc]; lia⟩)
    refine Ot e ⟨_,H1.tab g4,by rw [List.length_map]; exact Lq.qy T6 (by decide),λ _=>⟨bA e (by kernel_rfl),FI O C ha H1 e g4 hT1 T7 h1 od r0 (by (clear kG er; clear kG hnb hn1 hodd; lia)) λ v δ2 s2 H2 dn=>q v (δ++δ2) s2 ?_ ?_⟩,λ e=>?_⟩
    · rw [← List.append_assoc]; exact H2
    · rw [← List.append_assoc,← hm]; exact dn
    · cases T with
      | nil=>exact absurd rfl hne
      | cons=>cases e)
theorem AX (O:(U bs).Ok) (C:Cv p a b) (ha:0≤a∧a<p) (H:Gd c p a b ω σ) {n:Nat} {P:Int×Int} {nn:Int} (hn:ω[n]? = some (.pj P (.int nn) true))
 (od:Od p a nn (some P)) (hodd:nn%2=1) (hn1:1<nn) (hnb:nn≤1000) {m:Int}
 (q:∀ v δ σ',Gd c p a b (ω++δ) σ'→Den (ω++δ) (.int nn) (mul p a m (some P)) v→Q v σ'):aU (U bs) (d+8) .Mult (.inst aj n) (.int m) σ Q :=
 aU.int O rfl iR.inst (f:=cy) (by kernel_rfl) (ah.w (Lo O C ha H hn od hodd hn1 hnb λ v δ σ' H' dn=>⟨dn.ni,q v δ σ' H' dn⟩))
end
end
end
noncomputable section
section
variable {bs:Bs} {d:Nat} {σ:List AO} {Q:AV→List AO→Prop}
theorem zN (O:(U bs).Ok) {n:Nat} {p a b:Int} (h:σ[n]? = some (.inst [])) (q:Q .none (σ.set n (.inst (nh p a b)))):ah (U bs) (d+1) (.cst (.ref oO)) [.inst aE n,.int p,.int a,.int b] σ Q :=
 ah.of O (T:=T0) (by kernel_rfl) (by kernel_rfl) λ L=>Eq.mp (α:=∃ fs:List (Str×AV),σ[n]? = some (AO.inst fs)∧fs.length<1000∧∃ sM:List (Str×AV),(σ.set n (AO.inst (aI "_CurveFp__p" (.int p) fs)))[n]? = some (AO.inst sM)∧sM.length<1000∧∃ x9:List (Str×AV),((σ.set n (AO.inst (aI "_CurveFp__p" (.int p) fs))).set n (AO.inst (aI "_CurveFp__a" (.int a) sM)))[n]? = some (AO.inst x9)∧x9.length<1000∧∃ BN:List (Str×AV),(((σ.set n (AO.inst (aI "_CurveFp__p" (.int p) fs))).set n (AO.inst (aI "_CurveFp__a" (.int a) sM))).set n (AO.inst (aI "_CurveFp__b" (.int b) x9)))[n]? = some (AO.inst BN)∧BN.length<1000∧Q .none ((((σ.set n (AO.inst (aI "_CurveFp__p" (.int p) fs))).set n (AO.inst (aI "_CurveFp__a" (.int a) sM))).set n (AO.inst (aI "_CurveFp__b" (.int b) x9))).set n (AO.inst (aI "_CurveFp__h" .none BN)))) (by kernel_rfl) (by
  have e:aI "_CurveFp__h" .none (aI "_CurveFp__b" (.int b) (aI "_CurveFp__a" (.int a) (aI "_CurveFp__p" (.int p) [])))=nh p a b:=by kernel_rfl
  refine ⟨_,h,l5 (Nat.zero_le _),_,getSet h,l5 (bM (k:=4) (Nat.zero_le _)),_,getSet (getSet h),l5 (bM (k:=4) (bM (k:=3) (Nat.zero_le _))),_,getSet (getSet (getSet h)),l5 (bM (k:=4) (bM (k:=3) (bM (k:=2) (Nat.zero_le _)))),?_⟩
  rw [iS,iS,iS,e]; exact q)
theorem HS (O:(U bs).Ok) {p a b:Int} (q:Q (.inst aE σ.length) (σ++[.inst (nh p a b)])):ah (U bs) (d+2) (.cst (.ref aE)) [.int p,.int a,.int b] σ Q :=
 ah.make O (fI:=oO) (by kernel_rfl) (zN O (getLast σ _) ⟨rfl,by rw [nB]; exact q⟩)
theorem DE (O:(U bs).Ok) {sc:Addr} {vs:List Value} {ns:List Int} (h1:(U bs).hb.IsList sc vs.toArray) (h2:IntsAre vs ns) (h3:ns.length≤63) (q:∀ s k σ',Sk σ' s k σ'.length→Q (.lst s) σ') :
 ah (U bs) (d+1) (.cst (.ref zC)) [.cst (.ref sc)] σ Q :=
 ah.of O (T:=T0) (by kernel_rfl) (by kernel_rfl) λ L=>Eq.mp (α:=NS (U bs) sc 63 λ xs=>∃ ys:List Int,(σ++[AO.lst xs])[σ.length]? = some (AO.lst (ys.map (λ a=>.int a)))∧∃ I:Nat→List AO→Prop,I 0 ((σ++[AO.lst xs])++[AO.lst []])∧∀ i:Nat,∀ ai:List AO,I i ai→ai[σ.length]? = some (AO.lst (ys.map (λ a=>.int a)))∧(∀ y:Int,ys[i]? = some y→cR (σ++[AO.lst xs]).length ai λ tL=>tL.length≤1000000∧I (i+1) (ai.set (σ++[AO.lst xs]).length (AO.lst (tL++[.int (if (y<0) then (-y) else y)]))))∧(i=ys.length→cR (σ++[AO.lst xs]).length ai λ tL=>tL.length≤1000000∧((decide (((tL.length:Nat):Int)=0))=true→Q (.lst (ai++[AO.lst [.int 0]]).length) ((ai++[AO.lst [.int 0]])++[AO.lst [.int 0,.lst ai.length]]))∧((decide (((tL.length:Nat):Int)=0))=false→Q (.lst ai.length) (ai++[AO.lst [.int 0,.lst (σ++[AO.lst xs]).length]])))) (by kernel_rfl) (by
  have hz:(ns.take (63:Int).toNat).length≤63:=by rw [List.length_take]; exact Lq.qy (Nat.min_le_right _ _) h3
  refine ⟨vs,ns,h1,h2,Lq.qy h3 (by decide),ns.take (63:Int).toNat,getLast _ _,λ i s=>∃ cs:List Int,s=σ++[AO.lst ((ns.take (63:Int).toNat).map .int)]++[.lst (cs.map .int)]∧cs.length=i∧(∀ c∈cs,0≤c),⟨[],rfl,rfl,λ c h=>nomatch h⟩,λ i s hI=>?_⟩
  refine aG λ G kG=>?_
  obtain ⟨cs,rfl,hi,hc⟩:=hI
  refine kG ?_
  refine ⟨bw (getLast _ _) _,λ y hy=>⟨_,getLast _ _,?_,cs++[if y<0 then -y else y],?_,by rw [List.length_append,hi]; rfl,λ c OY=>?_⟩,λ e=>⟨_,getLast _ _,?_,λ h0=>?_,λ h0=>?_⟩⟩
  · have:=(List.getElem?_eq_some_iff.mp hy).1
    rw [List.length_map]; exact Lq.nw (Lq.F3 (Lq.F3 (Lq.Rg (Nat.le_of_eq hi) this) hz) (by decide))
  · rw [nB,List.map_append]; rfl
  · rcases List.mem_append.mp OY with OY | OY
    · exact hc c OY
    · rw [List.mem_singleton.mp OY]; split<;>lia
  · have e:i=(ns.take (63:Int).toNat).length:=e
    rw [List.length_map]; exact Lq.qy (Lq.qy (Lq.qy (Nat.le_of_eq hi) (Nat.le_of_eq e)) hz) (by decide)
  · exact q _ _ _ ⟨rfl,⟨0,Lq.ll (Int.le_of_eq (of_decide_eq_true h0).symm) (Int.le_of_eq (of_decide_eq_true h0)),getLast _ _⟩,⟨[0],⟨by simp,by simp,by simp⟩,bw (getLast _ _) _⟩⟩
  · have e:i=(ns.take (63:Int).toNat).length:=e
    have h0:=of_decide_eq_false h0
    rw [List.length_map] at h0
    refine q _ _ _ ⟨rfl,⟨0,by lia,getLast _ _⟩,⟨cs,⟨λ e=>?_,hc,Lq.qy (Lq.qy (Lq.qy (Nat.le_of_eq hi) (Nat.le_of_eq e)) hz) (by decide)⟩,bw (getLast _ _) _⟩⟩
    subst e
    exact h0 rfl)
theorem T8 {P:G} (hd:3≤d) (q:Q (.bool false) σ):aA (U bs) d .NotEq (wD P) (wD P) σ Q:=by
 cases P with
 | none=>exact aA.QH hd (x:=.none) (y:=.none) rfl rfl rfl q
 | some P =>
  refine aA.QH hd (x:=.tuple [.int P.1,.int P.2]) (y:=.tuple [.int P.1,.int P.2]) rfl rfl rfl ?_
  have:(!PyData.eqv (.tuple [.int P.1,.int P.2]) (.tuple [.int P.1,.int P.2]))=false:=by
   simp [PyData.eqv,PyData.eqvAll]
  rw [this]; exact q
end
end
noncomputable section
section
variable {bs:Bs} {d:Nat} {σ:List AO} {Q:AV→List AO→Prop}
section
variable {c:Nat} {p a b:Int} {ω:List D}
noncomputable def Lp (r s:Int):List (Str×AV):=[("r",.int r),("s",.int s)]
noncomputable def DF (c g q:Nat):List (Str×AV):=[("curve",.inst aE c),("generator",.inst aj g),("point",.inst aj q)]
noncomputable def DG (k:Nat) (m:Int):List (Str×AV):=[("public_key",.inst ak k),("secret_multiplier",.int m)]
theorem DH (O:(U bs).Ok) {n:Nat} {r s:Int} (h:σ[n]? = some (.inst [])) (q:Q .none (σ.set n (.inst (Lp r s)))):ah (U bs) (d+1) (.cst (.ref lF)) [.inst bg n,.int r,.int s] σ Q :=
 ah.of O (T:=T0) (by kernel_rfl) (by kernel_rfl) λ L=>Eq.mp (α:=∃ fs:List (Str×AV),σ[n]? = some (AO.inst fs)∧fs.length<1000∧∃ sM:List (Str×AV),(σ.set n (AO.inst (aI "r" (.int r) fs)))[n]? = some (AO.inst sM)∧sM.length<1000∧Q .none ((σ.set n (AO.inst (aI "r" (.int r) fs))).set n (AO.inst (aI "s" (.int s) sM)))) (by kernel_rfl) (by
  have e:aI "s" (.int s) (aI "r" (.int r) [])=Lp r s:=by kernel_rfl
  refine ⟨_,h,l5 (Nat.zero_le _),_,getSet h,l5 (bM (k:=4) (Nat.zero_le _)),?_⟩
  rw [iS,e]
  exact q)
theorem Lr (O:(U bs).Ok) {r s:Int} (q:Q (.inst bg σ.length) (σ++[.inst (Lp r s)])):ah (U bs) (d+2) (.cst (.ref bg)) [.int r,.int s] σ Q :=
 ah.make O (fI:=lF) (by kernel_rfl) (DH O (getLast σ _) ⟨rfl,by rw [nB]; exact q⟩)
theorem DI (O:(U bs).Ok) {n k:Nat} {m:Int} (h:σ[n]? = some (.inst [])) (q:Q .none (σ.set n (.inst (DG k m)))):ah (U bs) (d+1) (.cst (.ref kC)) [.inst bR n,.inst ak k,.int m] σ Q :=
 ah.of O (T:=T0) (by kernel_rfl) (by kernel_rfl) λ L=>Eq.mp (α:=∃ fs:List (Str×AV),σ[n]? = some (AO.inst fs)∧fs.length<1000∧∃ sM:List (Str×AV),(σ.set n (AO.inst (aI "public_key" (.inst 501 k) fs)))[n]? = some (AO.inst sM)∧sM.length<1000∧Q .none ((σ.set n (AO.inst (aI "public_key" (.inst 501 k) fs))).set n (AO.inst (aI "secret_multiplier" (.int m) sM)))) (by kernel_rfl) (by
  have e:aI "secret_multiplier" (.int m) (aI "public_key" (.inst ak k) [])=DG k m:=by kernel_rfl
  refine ⟨_,h,l5 (Nat.zero_le _),_,getSet h,l5 (bM (k:=4) (Nat.zero_le _)),?_⟩
  rw [iS,e]
  exact q)
theorem QX (O:(U bs).Ok) {k:Nat} {m:Int} (q:Q (.inst bR σ.length) (σ++[.inst (DG k m)])):ah (U bs) (d+2) (.cst (.ref bR)) [.inst ak k,.int m] σ Q :=
 ah.make O (fI:=kC) (by kernel_rfl) (DI O (getLast σ _) ⟨rfl,by rw [nB]; exact q⟩)
theorem vW (O:(U bs).Ok) (H:Gd c p a b ω σ) {n:Nat} {P:Int×Int} {o:AV} {g:Bool} (hn:ω[n]? = some (.pj P o g)) (ho:ki o=true) (q:Q o σ):ah (U bs) (d+1) (.cst (.ref tD)) [.inst aj n] σ Q:=by
 obtain ⟨x,y,z,k,T,bO,_⟩:=H.pj hn
 exact ah.of O (T:=T0) (by kernel_rfl) (by kernel_rfl) λ L=>Eq.mp (α:=aO n "_PointJacobi__order" σ λ v=>Q v σ) (by kernel_rfl) (K9 bO ho q)
theorem DJ (O:(U bs).Ok) (H:Gd c p a b ω σ) {n:Nat} {P:Int×Int} {o:AV} {g:Bool} (hn:ω[n]? = some (.pj P o g)) (q:Q (.inst aE c) σ):ah (U bs) (d+1) (.cst (.ref tE)) [.inst aj n] σ Q:=by
 obtain ⟨x,y,z,k,T,bO,_⟩:=H.pj hn
 exact ah.of O (T:=T0) (by kernel_rfl) (by kernel_rfl) λ L=>Eq.mp (α:=aO n "_PointJacobi__curve" σ λ v=>dO 88 v λ i=>Q (.inst 88 i) σ) (by kernel_rfl) (zW bO ⟨rfl,q⟩)
theorem AY (O:(U bs).Ok) {n o:Int} (h2:2≤o) (ho:o≤1000) (hn:aa n) (q:Q (.int ((n^(o-2).toNat)%o)) σ):ah (U bs) (d+1) (.cst (.ref wm)) [.int n,.int o] σ Q :=
 ah.of O (T:=T0) (by kernel_rfl) (by kernel_rfl) λ L=>Eq.mp (α:=(0≤(o-2)∧(o-2)≤1000000∧aa n)∧0<o∧∀ r:Int,r=((n^(o-2).toNat)%o)→0≤r→r<o→Q (.int r) σ) (by kernel_rfl) (⟨⟨Lq.s0 h2,by lia,hn⟩,Lq.sl (by decide) h2,λ r e _ _=>by rw [e]; exact q⟩)
theorem CO (O:(U bs).Ok) (H:Gd c p a b ω σ) {s k:Nat} (hs:ω[s]? = some (.st k)) (hk:ω[k]? = some .cells) (q:∀ m σ',Gd c p a b ω σ'→m.natAbs≤2002000000000000→Q (.int m) σ') :
 ah (U bs) (d+2) (.cst (.ref yw)) [.lst s] σ Q :=
 ah.of O (T:=T0) (by kernel_rfl) (by kernel_rfl) λ L=>Eq.mp (α:=ah (U bs) (d+1) (.cst (.ref 560)) [.lst s,.int 4001] σ λ v s1=>dI v λ i=>ah (U bs) (d+1) (.cst (.ref 560)) [.lst s,.int 4] s1 λ v1 s2=>dI v1 λ i1=>((decide (i1=0))=true→((0:Int)≤12∧(12:Int)≤1000000∧aa 10)∧(aa (i-2000)∨aa (10^(12:Int).toNat))∧((0:Int)≤9∧(9:Int)≤1000000∧aa 10)∧ah (U bs) (d+1) (.cst (.ref 560)) [.lst s,.int (10^(9:Int).toNat)] s2 λ v2 s3=>dI v2 λ i2=>Q (.int (((i-2000)*(10^(12:Int).toNat))+i2)) s3)∧((decide (i1=0))=false→Q (.int (i-2000)) s2)) (by kernel_rfl) (pe O H hs hk (by decide) (by decide) λ v σ' H' v0 v1=>pe O H' hs hk (by decide) (by decide) λ w σ2 H2 _ _ =>
  ⟨λ _=>⟨⟨by decide,by decide,by unfold aa; decide⟩,.inl (by unfold aa; lia),⟨by decide,by decide,by unfold aa; decide⟩,pe O H2 hs hk (by decide) (by decide) λ u σ3 H3 u0 u1=>q _ _ H3 (by
   have e1:((10:Int)^(12:Int).toNat)=1000000000000:=by decide
   have e2:((10:Int)^(9:Int).toNat)=1000000000:=by decide
   rw [e2] at u1
   rw [e1]
   omega)⟩,λ _=>q _ _ H2 (by omega)⟩)
end
end
end
noncomputable section
section
variable {bs:Bs} {d:Nat} {σ:List AO} {Q:AV→List AO→Prop}
section
variable {c:Nat} {p a b:Int} {ω:List D}
theorem Jf.len {n:Nat} {P:Int×Int} {nn:Int} {g:Bool} {T:List (Int×Int)} (h5:g=true→T≠[]∧zJ p a P (.int nn) T) (h6:g=false→T=[]):(T.map yD).length≤1000000:=by
 rw [List.length_map]
 cases g with
 | false=>rw [h6 rfl]; exact Nat.zero_le _
 | true=>obtain ⟨_,_,_,_,_,h⟩:=h5 rfl; exact Lq.qy h (by decide)
theorem Jf.flag {g:Bool} {P:Int×Int} {nn:Int} {T:List (Int×Int)} (h5:g=true→T≠[]∧zJ p a P (.int nn) T) (h6:g=false→T=[]):(!(T.map yD).isEmpty)=g:=by
 cases g with
 | false=>rw [h6 rfl]; rfl
 | true=>cases T with
  | nil=>exact absurd rfl (h5 rfl).1
  | cons=>rfl
theorem DK (O:(U bs).Ok) (C:Cv p a b) (ha:0≤a∧a<p) (H:Gd c p a b ω σ) {n m:Nat} {P R:Int×Int} {nn x:Int} (hn:ω[n]? = some (.pj P (.int nn) true)) (hm:ω[m]? = some (.pj R (.int nn) true)) (hnm:n≠m)
 (od:Od p a nn (some P)) (Jh:Od p a nn (some R)) (hodd:nn%2=1) (hn1:1<nn) (hnb:nn≤1000) (hR:some R=mul p a x (some P)) {i j:Int}
 (q:∀ v δ σ',Gd c p a b (ω++δ) σ'→Den (ω++δ) (.int nn) (mul p a (i+j*x) (some P)) v→Q v σ'):ah (U bs) (d+9) (.cst (.ref qW)) [.inst aj n,.int i,.inst aj m,.int j] σ Q :=
 ah.of O (T:=Dk) (by kernel_rfl) (by kernel_rfl) λ L=>Eq.mp (α:=aA (U bs) (d+8) .Eq (.inst 313 m) (.cst (.ref 414)) σ λ a a1=>a=(.bool false)∧((decide (j=0))=true→aU (U bs) (d+8) .Mult (.inst 313 n) (.int i) a1 λ a2 af=>Q a2 af)∧((decide (j=0))=false→((decide (i=0))=true→aU (U bs) (d+8) .Mult (.inst 313 m) (.int j) a1 λ a2 af=>Q a2 af)∧((decide (i=0))=false→aD n "_maybe_precompute" a1∧ah (U bs) (d+8) (.cst (.ref 138)) [.inst 313 n] a1 λ v s=>aD m "_maybe_precompute" s∧ah (U bs) (d+8) (.cst (.ref 138)) [.inst 313 m] s λ v1 s1=>aO n "_PointJacobi__precompute" s1 λ v2=>dL v2 λ i1=>bf (U bs) (d+8) (.lst i1) s1 λ a2 a3=>a2=true∧aO m "_PointJacobi__precompute" a3 λ v3=>dL v3 λ i2=>bf (U bs) (d+8) (.lst i2) a3 λ a4 a5=>a4=true∧aU (U bs) (d+8) .Mult (.inst 313 n) (.int i) a5 λ a6 af=>aU (U bs) (d+8) .Mult (.inst 313 m) (.int j) af λ b ai=>aU (U bs) (d+8) .Add a6 b ai λ v4 s2=>Q v4 s2))) (by kernel_rfl) (by
  refine aG λ G kG=>?_
  obtain ⟨x0,y0,z0,k0,T0,BK,_,r0,_⟩:=H.pj hm
  obtain ⟨_,_,_,_,_,_,hP,_⟩:=H.pj hn
  refine kG ?_
  refine CI O BK (tU r0) ⟨rfl,λ e=>?_,λ _=>⟨λ e=>?_,λ _=>⟨H.vZ hn (λ _ _ _ _=>by kernel_rfl),zM O C ha H hn od hodd hn1 hnb λ s1 δ1 H1 Un M1=>⟨H1.vZ (au hm _) (λ _ _ _ _=>by kernel_rfl),zM O C ha H1 (au hm _) Jh hodd hn1 hnb λ s2 δ2 H2 Pz M2=>?_⟩⟩⟩⟩
  · rw [of_decide_eq_true e] at q
    refine AX O C ha H hn od hodd hn1 hnb λ v δ s H' D=>q v δ s H' ?_
    rw [Int.zero_mul,Int.add_zero]; exact D
  · rw [of_decide_eq_true e] at q
    refine AX O C ha H hm Jh hodd hn1 hnb λ v δ s H' D=>q v δ s H' ?_
    rw [hR,← kg C hP] at D
    rw [Int.zero_add]; exact D
  · refine aG λ G kG=>?_
    obtain ⟨x1,y1,z1,k1,T1,e1,_,_,_,ht1,h5,h6⟩:=M1
    have e1:=Pz n _ hnm e1
    obtain ⟨x2,y2,z2,k2,T2,e2,_,_,_,Su,g5,g6⟩:=M2
    refine kG ?_
    have f1:=Jf.flag h5 h6
    have f2:=Jf.flag g5 g6
    have t1:=au ht1 δ2
    rw [List.append_assoc] at H2 t1 Su
    have hn2:=au hn (δ1++δ2)
    have hm2:=au hm (δ1++δ2)
    refine Ot e1 (bf.lst (H2.tab t1) (Jf.len (n:=0) h5 h6) ⟨f1,Ot e2 (bf.lst (H2.tab Su) (Jf.len (n:=0) g5 g6) ⟨f2,?_⟩)⟩)
    generalize hδ:δ1++δ2=δ at *
    refine AX O C ha H2 hn2 od hodd hn1 hnb λ v δ3 s3 H3 D3=>AX O C ha H3 (au hm2 _) Jh hodd hn1 hnb λ w δ4 s4 H4 D4=>Lk O C ha H4 (D3.mono δ4) D4 rfl λ u δ5 s5 H5 D5=>⟨D5.ni,q u (δ++(δ3++δ4++δ5)) s5 (by rw [List.append_assoc,List.append_assoc,List.append_assoc] at H5; rw [List.append_assoc δ3]; exact H5) ?_⟩
    rw [hR,← kg C hP,← mul_add C hP,List.append_assoc,List.append_assoc,List.append_assoc] at D5
    rw [List.append_assoc δ3]
    exact D5)
end
end
end
noncomputable section
section
variable {bs:Bs} {d:Nat} {σ:List AO} {Q:AV→List AO→Prop}
section
variable {c:Nat} {p a b:Int} {ω:List D}
theorem HT (O:(U bs).Ok) {n:Nat} {m:Int} (q:aU (U bs) (d+8) .Mult (.inst aj n) (.int m) σ Q):ah (U bs) (d+9) (.cst (.ref kB)) [.inst aj n,.int m] σ Q:=ah.of O (T:=T0) (by kernel_rfl) (by kernel_rfl) λ L=>Eq.mp (α:=aU (U bs) (d+8) .Mult (.inst 313 n) (.int m) σ λ v s=>Q v s) (by kernel_rfl) q
theorem FN (O:(U bs).Ok) (C:Cv p a b) (ha:0≤a∧a<p) (H:Gd c p a b ω σ) {n:Nat} {P:Int×Int} {nn:Int} (hn:ω[n]? = some (.pj P (.int nn) true))
 (od:Od p a nn (some P)) (hodd:nn%2=1) (hn1:1<nn) (hnb:nn≤1000) {m:Int}
 (q:∀ v δ σ',Gd c p a b (ω++δ) σ'→Den (ω++δ) (.int nn) (mul p a m (some P)) v→Q v σ'):aU (U bs) (d+9) .Mult (.int m) (.inst aj n) σ Q :=
 aU.rint O (g:=kB) (fD:=cy) (by kernel_rfl) (ah.w (HT O (AX O C ha H hn od hodd hn1 hnb λ v δ σ' H' D=>⟨D.ni,q v δ σ' H' D⟩)))
theorem DL (O:(U bs).Ok) (C:Cv p a b) (ha:0≤a∧a<p) (H:Gd c p a b ω σ) {n g q:Nat} {P R:Int×Int} {nn:Int} (en:n=σ.length) (hg:ω[g]? = some (.pj P (.int nn) true)) (hq:ω[q]? = some (.pj R (.int nn) true))
 (od:Od p a nn (some R)) (hodd:nn%2=1) (hn1:1<nn) (hnb:nn≤1000)
 (z:∀ δ σ',Gd c p a b (ω++[.raw (.inst (DF c g q))]++δ) σ'→Q .none σ'):ah (U bs) (d+10) (.cst (.ref kJ)) [.inst ak n,.inst aj g,.inst aj q] (σ++[.inst []]) Q :=
 ah.of O (T:=Fw) (by kernel_rfl) (by kernel_rfl) λ L=>Eq.mp (α:=aD g "curve" (σ++[AO.inst []])∧ah (U bs) (d+9) (.cst (.ref 166)) [.inst 313 g] (σ++[AO.inst []]) λ v s=>dO 88 v λ i=>∃ fs:List (Str×AV),s[n]? = some (AO.inst fs)∧fs.length<1000∧∃ sM:List (Str×AV),(s.set n (AO.inst (aI "curve" (.inst 88 i) fs)))[n]? = some (AO.inst sM)∧sM.length<1000∧∃ x9:List (Str×AV),((s.set n (AO.inst (aI "curve" (.inst 88 i) fs))).set n (AO.inst (aI "generator" (.inst 313 g) sM)))[n]? = some (AO.inst x9)∧x9.length<1000∧aD g "order" (((s.set n (AO.inst (aI "curve" (.inst 88 i) fs))).set n (AO.inst (aI "generator" (.inst 313 g) sM))).set n (AO.inst (aI "point" (.inst 313 q) x9)))∧ah (U bs) (d+9) (.cst (.ref 159)) [.inst 313 g] (((s.set n (AO.inst (aI "curve" (.inst 88 i) fs))).set n (AO.inst (aI "generator" (.inst 313 g) sM))).set n (AO.inst (aI "point" (.inst 313 q) x9))) λ v1 s1=>dI v1 λ i1=>aO n "curve" s1 λ v2=>dO 88 v2 λ i2=>aD i2 "p" s1∧ah (U bs) (d+9) (.cst (.ref 57)) [.inst 88 i2] s1 λ v3 s2=>dI v3 λ i3=>aD q "x" s2∧ah (U bs) (d+9) (.cst (.ref 173)) [.inst 313 q] s2 λ v4 s3=>dI v4 λ i4=>((decide (0≤i4))=true→((!(decide (i4<i3)))=true→False)∧((!(decide (i4<i3)))=false→aD q "y" s3∧ah (U bs) (d+9) (.cst (.ref 180)) [.inst 313 q] s3 λ v5 s4=>dI v5 λ i5=>((decide (0≤i5))=true→((!(decide (i5<i3)))=true→False)∧((!(decide (i5<i3)))=false→(true=true→aO n "curve" s4 λ v6=>dO 88 v6 λ i6=>aD i6 "contains_point" s4∧aD q "x" s4∧ah (U bs) (d+9) (.cst (.ref 173)) [.inst 313 q] s4 λ v7 s5=>dI v7 λ i7=>aD q "y" s5∧ah (U bs) (d+9) (.cst (.ref 180)) [.inst 313 q] s5 λ v8 s6=>dI v8 λ i8=>ah (U bs) (d+9) (.cst (.ref 85)) [.inst 88 i6,.int i7,.int i8] s6 λ v9 s7=>dB v9 λ i9=>((!i9)=true→False)∧((!i9)=false→((!(decide (i1≠0)))=true→False)∧((!(decide (i1≠0)))=false→(true=true→aO n "curve" s7 λ v10=>dO 88 v10 λ Jg=>aD Jg "cofactor" s7∧ah (U bs) (d+9) (.cst (.ref 78)) [.inst 88 Jg] s7 λ v11 s8=>v11=.none∧aA (U bs) (d+9) .NotEq .none (.int 1) s8 λ a a1=>a=(.bool true)∧aU (U bs) (d+9) .Mult (.int i1) (.inst 313 q) a1 λ OW s9=>aA (U bs) (d+9) .Eq OW (.cst (.ref 414)) s9 λ a2 a3=>dB a2 λ c=>((!c)=true→False)∧((!c)=false→Q .none a3))∧(true=false→Q .none s7))))∧(true=false→((!(decide (i1≠0)))=true→False)∧((!(decide (i1≠0)))=false→(true=true→aO n "curve" s4 λ v6=>dO 88 v6 λ i6=>aD i6 "cofactor" s4∧ah (U bs) (d+9) (.cst (.ref 78)) [.inst 88 i6] s4 λ v7 s5=>v7=.none∧aA (U bs) (d+9) .NotEq .none (.int 1) s5 λ a a1=>a=(.bool true)∧aU (U bs) (d+9) .Mult (.int i1) (.inst 313 q) a1 λ v8 s6=>aA (U bs) (d+9) .Eq v8 (.cst (.ref 414)) s6 λ a2 a3=>dB a2 λ c=>((!c)=true→False)∧((!c)=false→Q .none a3))∧(true=false→Q .none s4)))))∧((decide (0≤i5))=false→False)))∧((decide (0≤i4))=false→False)) (by kernel_rfl) (by
  have Hp:=C.pos
  have hp:=C.hp
  have H1:=H.kU (.inst [])
  have H2:=H.kU (.inst (DF c g q))
  subst en
  have e:aI "point" (.inst aj q) (aI "generator" (.inst aj g) (aI "curve" (.inst aE c) []))=DF c g q:=by kernel_rfl
  have h0:(σ++[AO.inst []])[σ.length]? = some (.inst []):=getLast σ _
  have h9:=getLast σ (.inst (DF c g q))
  have Sv:=au hg [D.raw (.inst (DF c g q))]
  have hq2:=au hq [D.raw (.inst (DF c g q))]
  have hR:On p a b (some R):=by
   obtain ⟨_,_,_,_,_,_,h,_⟩:=H.pj hq
   exact h
  have QY:∀ {K:AV→Prop},K (.inst aE c)→aO σ.length "curve" (σ++[AO.inst (DF c g q)]) K:=λ k=>⟨_,_,h9,by kernel_rfl,rfl,k⟩
  have hc:=H2.AS
  refine ⟨H1.vZ (au hg _) (λ _ _ _ _=>by kernel_rfl),DJ O H1 (au hg _) ⟨rfl,_,h0,l5 (Nat.zero_le _),_,getSet h0,l5 (bM (k:=4) (Nat.zero_le _)),_,getSet (getSet h0),l5 (bM (k:=4) (bM (k:=3) (Nat.zero_le _))),?_⟩⟩
  rw [iS,iS,e,nB]
  refine ⟨H2.vZ Sv (λ _ _ _ _=>by kernel_rfl),vW O H2 Sv rfl (QY ⟨rfl,bA hc (by kernel_rfl),iU O hc ⟨H2.vZ hq2 (λ _ _ _ _=>by kernel_rfl),yV O C H2 hq2 ?_⟩⟩)⟩
  refine ⟨λ _=>⟨λ h=>?_,λ _=>⟨H2.vZ hq2 (λ _ _ _ _=>by kernel_rfl),CM O C H2 hq2 ⟨λ _=>⟨λ h=>?_,λ _=>⟨λ _=>QY ⟨rfl,bA hc (by kernel_rfl),H2.vZ hq2 (λ _ _ _ _=>by kernel_rfl),yV O C H2 hq2 ⟨H2.vZ hq2 (λ _ _ _ _=>by kernel_rfl),CM O C H2 hq2 (AR O hc Hp (bN.of hR.1 hp) (bN.of hR.2.1 hp) hR.2.2 ⟨λ h=>(nomatch h),λ _=>⟨λ h=>?_,λ _=>⟨λ _=>QY ⟨rfl,bA hc (by kernel_rfl),Dl O hc ⟨rfl,HL ⟨rfl,FN O C ha H2 hq2 od hodd hn1 hnb λ v δ σ' H3 D=>?_⟩⟩⟩,λ h=>nomatch h⟩⟩⟩)⟩⟩,λ h=>nomatch h⟩⟩,λ h=>?_⟩⟩⟩,λ h=>?_⟩
  · rw [decide_eq_true hR.1.2] at h; cases h
  · rw [decide_eq_true hR.2.1.2] at h; cases h
  · rw [decide_eq_true (Lq.y (Lq.ls (by decide) hn1))] at h; cases h
  · rw [(od.dvd C hR).mpr Int.emod_self] at D
    have D:v=.cst (.ref iM):=D
    subst D
    exact BP O ⟨λ h=>(nomatch h),λ _=>z δ σ' H3⟩
  · rw [decide_eq_true hR.2.1.1] at h; cases h
  · rw [decide_eq_true hR.1.1] at h; cases h)
theorem QZ (O:(U bs).Ok) (C:Cv p a b) (ha:0≤a∧a<p) (H:Gd c p a b ω σ) {g q:Nat} {P R:Int×Int} {nn:Int} (hg:ω[g]? = some (.pj P (.int nn) true)) (hq:ω[q]? = some (.pj R (.int nn) true))
 (od:Od p a nn (some R)) (hodd:nn%2=1) (hn1:1<nn) (hnb:nn≤1000)
 (z:∀ δ σ',Gd c p a b (ω++[.raw (.inst (DF c g q))]++δ) σ'→Q (.inst ak ω.length) σ'):ah (U bs) (d+11) (.cst (.ref ak)) [.inst aj g,.inst aj q] σ Q :=
 ah.make O (fI:=kJ) (by kernel_rfl) (DL O C ha H rfl hg hq od hodd hn1 hnb λ δ σ' K=>⟨rfl,H.len▸z δ σ' K⟩)
end
end
end
noncomputable section
section
variable {bs:Bs} {d:Nat} {σ:List AO} {Q:AV→List AO→Prop}
section
variable {c:Nat} {p a b:Int} {ω:List D}
def PB (bs:Bs) (d n:Nat) (h r i2:Int) (v3:AV) (s1:List AO) (Q:AV→List AO→Prop) (E:List AO→Prop):Prop:=(dO aj v3 (λ i3=>((aD i3 "x" s1)∧(ah (U bs) (d+9) (.cst (.ref m7)) [(.inst aj i3)] s1 (λ v4=>(λ s2=>(dI v4 (λ i4=>(((0:Int)<i2)∧(∀ r1:Int,((r1=(i4%i2))→(((0:Int)≤r1)→((r1<i2)→((((decide ((r1=(0:Int))))=true)→(E s2))∧(((decide ((r1=(0:Int))))=false)→(ah (U bs) (d+9) (.cst (.ref tK)) [(.int r),(.int i2)] s2 (λ v5=>(λ s3=>(dI v5 (λ i5=>(aO n "secret_multiplier" s3 (λ v6=>(dI v6 (λ i6=>(((aa i6)∨(aa r1))∧(((0:Int)<i2)∧(∀ r2:Int,((r2=((i6*r1)%i2))→(((0:Int)≤r2)→((r2<i2)→(((aa i5)∨(aa (h+r2)))∧(((0:Int)<i2)∧(∀ r3:Int,((r3=((i5*(h+r2))%i2))→(((0:Int)≤r3)→((r3<i2)→((((decide ((r3=(0:Int))))=true)→(E s3))∧(((decide ((r3=(0:Int))))=false)→(ah (U bs) (d+9) (.cst (.ref bg)) [(.int r1),(.int r3)] s3 (λ v7=>(λ s4=>(dO bg v7 (λ i7=>(Q (.inst bg i7) s4))))))))))))))))))))))))))))))))))))))))))))
def Q0 (bs:Bs) (d n:Nat) (h k:Int) (σ:List AO) (Q:AV→List AO→Prop) (E:List AO→Prop):Prop:=(aO n "public_key" σ λ v=>dO 501 v λ i=>aO i "generator" σ λ v1=>dO 313 v1 λ i1=>aD i1 "order" σ∧ah (U bs) (d+9) (.cst (.ref 159)) [.inst 313 i1] σ λ v2 s=>dI v2 λ i2=>0<i2∧∀ r:Int,r=(k%i2)→0≤r→r<i2→((decide (((Ay (r+i2):Nat):Int)=((Ay i2:Nat):Int)))=true→aU (U bs) (d+9) .Mult (.int ((r+i2)+i2)) (.inst 313 i1) s λ v3 s1=>PB bs d n h r i2 v3 s1 Q E)∧((decide (((Ay (r+i2):Nat):Int)=((Ay i2:Nat):Int)))=false→aU (U bs) (d+9) .Mult (.int (r+i2)) (.inst 313 i1) s λ v3 s1=>PB bs d n h r i2 v3 s1 Q E))
theorem OZ (O:(U bs).Ok) (C:Cv p a b) (H:Gd c p a b ω σ) {n k v:Nat} {V:Int×Int} {g:Bool} {nn m h kk:Int} {E:List AO→Prop} (hn:ω[n]? = some (.raw (.inst (DG k m)))) (hv:ω[v]? = some (.pj V (.int nn) g)) (hn1:1<nn) (hnb:nn≤1000)
 (hm:aa m) (hi:∃ i,(kk*i)%nn=1)
 (q:∀ iv σ',0≤iv→iv<nn→(iv*kk)%nn=1→V.1%nn≠0→(iv*(h+(m*(V.1%nn))%nn))%nn≠0→Gd c p a b (ω++[.raw (.inst (Lp (V.1%nn) ((iv*(h+(m*(V.1%nn))%nn))%nn)))]) σ'→Q (.inst bg ω.length) σ')
 (e:(V.1%nn=0∨∃ iv,0≤iv∧iv<nn∧(iv*kk)%nn=1∧(iv*(h+(m*(V.1%nn))%nn))%nn=0)→E σ):PB bs d n h kk nn (.inst aj v) σ Q E:=by
 have Hn:0<nn:=Lq.ss (by decide) hn1
 have sm:∀ {x:Int},0≤x→x<nn→aa x:=λ {x} h0 h1=>by unfold aa; exact ⟨Lq.ll (by decide) h0,Lq.ll (Lq.w (Lq.sl h1 hnb)) (by decide)⟩
 refine ⟨rfl,H.vZ hv (λ _ _ _ _=>by kernel_rfl),yV O C H hv ⟨Hn,λ r1 e1 l1 u1=>⟨λ h=>e (.inl (by rw [← e1]; exact of_decide_eq_true h)),λ h1=>?_⟩⟩⟩
 have h1:=of_decide_eq_false h1
 subst e1
 refine AQ O hn1 hnb hi λ iv i0 i1 ie=>?_
 refine ⟨_,.int m,H.raw hn,by kernel_rfl,rfl,.inr (sm l1 u1),Hn,λ r2 e2 l2 u2=>⟨.inl (sm i0 i1),Hn,λ r3 e3 l3 u3=>⟨λ h=>e (.inr ⟨iv,i0,i1,ie,?_⟩),λ h3=>?_⟩⟩⟩
 · rw [← e2,← e3]; exact of_decide_eq_true h
 · subst e2
   subst e3
   refine Lr O ⟨rfl,?_⟩
   rw [H.len]
   exact q iv _ i0 i1 ie h1 (of_decide_eq_false h3) (H.kU _)
theorem Ls (C:Cv p a b) {P:Int×Int} (hP:On p a b (some P)) {nn kk r:Int} (od:Od p a nn (some P)) (e:r=kk%nn):mul p a (r+nn) (some P)=mul p a kk (some P)∧mul p a (r+nn+nn) (some P)=mul p a kk (some P):=by
 subst e
 refine ⟨(Od.eq C hP od).mpr ?_,(Od.eq C hP od).mpr ?_⟩
 · refine Int.emod_eq_emod_iff_emod_sub_eq_zero.mp ?_
   rw [Int.add_emod_right,Int.emod_emod]
 · refine Int.emod_eq_emod_iff_emod_sub_eq_zero.mp ?_
   rw [Int.add_emod_right,Int.add_emod_right,Int.emod_emod]
theorem Lu (O:(U bs).Ok) (X:x6 (U bs) bK) (C:Cv p a b) (ha:0≤a∧a<p) (H:Gd c p a b ω σ) {l:List Env} {n k g q0:Nat} {P V:Int×Int} {nn m h kk:Int} {E:List AO→Prop}
 (hn:ω[n]? = some (.raw (.inst (DG k m)))) (hk:ω[k]? = some (.raw (.inst (DF c g q0)))) (hg:ω[g]? = some (.pj P (.int nn) true)) (od:Od p a nn (some P)) (hodd:nn%2=1) (hn1:1<nn) (hnb:nn≤1000) (hV:mul p a kk (some P)=some V)
 (hm:aa m) (hi:∃ i,(kk%nn*i)%nn=1)
 (q:∀ iv δ σ',0≤iv→iv<nn→(iv*(kk%nn))%nn=1→V.1%nn≠0→(iv*(h+(m*(V.1%nn))%nn))%nn≠0→Gd c p a b (ω++δ++[.raw (.inst (Lp (V.1%nn) ((iv*(h+(m*(V.1%nn))%nn))%nn)))]) σ'→Q (.inst bg (ω++δ).length) σ')
 (e:∀ δ σ',Gd c p a b (ω++δ) σ'→(V.1%nn=0∨∃ iv,0≤iv∧iv<nn∧(iv*(kk%nn))%nn=1∧(iv*(h+(m*(V.1%nn))%nn))%nn=0)→E σ') :
 oK (U bs) (d+10) l bK (.cst (.ref oU)) [.inst bR n,.int h,.int kk] σ Q E :=
 (λ k=>oK.of O X (T:=T0) (sp:=[583,586]) (by kernel_rfl) (by kernel_rfl) λ L=>Eq.mp (α:=Q0 bs d n h kk σ Q E) (by kernel_rfl) k) (by
  have hP:On p a b (some P):=by
   obtain ⟨_,_,_,_,_,_,h,_⟩:=H.pj hg
   exact h
  refine ⟨_,.inst ak k,H.raw hn,by kernel_rfl,rfl,rfl,_,.inst aj g,H.raw hk,by kernel_rfl,rfl,rfl,H.vZ hg (λ _ _ _ _=>by kernel_rfl),vW O H hg rfl ⟨od.pos,λ r er l1 u1=>?_⟩⟩
  have km:=Ls C hP od er
  have fin:∀ v δ σ',Gd c p a b (ω++δ) σ'→Den (ω++δ) (.int nn) (some V) v→PB bs d n h r nn v σ' Q E:=λ v δ σ' H' D=>by
   obtain ⟨w,g',rfl,hw,_⟩:=D
   rw [er]
   exact OZ O C H' (au hn δ) hw hn1 hnb hm hi (λ iv σ2 i0 i1 ie h1 h2 H2=>q iv δ σ2 i0 i1 ie h1 h2 H2) λ z=>e δ σ' H' z
  refine ⟨λ _=>FN O C ha H hg od hodd hn1 hnb λ v δ σ' H' D=>fin v δ σ' H' (by rw [km.2,hV] at D; exact D),λ _=>FN O C ha H hg od hodd hn1 hnb λ v δ σ' H' D=>fin v δ σ' H' (by rw [km.1,hV] at D; exact D)⟩)
end
end
end
noncomputable section
section
variable {bs:Bs} {d:Nat} {σ:List AO} {Q:AV→List AO→Prop}
section
variable {c:Nat} {p a b:Int} {ω:List D}
noncomputable def eL (bs:Bs) (a L:Addr):Env:=callEnvC (((fdOf (U bs).K a).map (·.1)).getD default) L a
theorem tV (ω:List D) (E:D):(ω++[E])[ω.length]? = some E:=by rw [List.getElem?_append_right (Nat.le_refl _),Nat.sub_self]; rfl
theorem FO (O:(U bs).Ok) (X:x6 (U bs) bK) (C:Cv p a b) (ha:0≤a∧a<p) (H:Gd c p a b ω σ) {l:List Env} {n k g q0:Nat} {P V:Int×Int} {nn m h kk:Int}
 (hn:ω[n]? = some (.raw (.inst (DG k m)))) (hk:ω[k]? = some (.raw (.inst (DF c g q0)))) (hg:ω[g]? = some (.pj P (.int nn) true)) (od:Od p a nn (some P)) (hodd:nn%2=1) (hn1:1<nn) (hnb:nn≤1000) (hV:mul p a kk (some P)=some V)
 (hm:aa m) (hi:∃ i,(kk%nn*i)%nn=1)
 (q:∀ iv δ σ',0≤iv→iv<nn→(iv*(kk%nn))%nn=1→V.1%nn≠0→(iv*(h+(m*(V.1%nn))%nn))%nn≠0→Gd c p a b (ω++δ) σ'→Q (.tup [.int (V.1%nn),.int ((iv*(h+(m*(V.1%nn))%nn))%nn)]) σ')
 (e:∀ δ σ',Gd c p a b (ω++δ) σ'→(V.1%nn=0∨∃ iv,0≤iv∧iv<nn∧(iv*(kk%nn))%nn=1∧(iv*(h+(m*(V.1%nn))%nn))%nn=0)→Q .none σ') :
 xO (U bs) (d+11) l (.cst (.ref pG)) [.inst bR n,.int h,.int kk] σ Q :=
 xO.Fg O (T:=T0) (K:=.inst bg) X (by kernel_rfl) (by kernel_rfl) λ L=>Eq.mp (α:=aD n "sign" σ∧oK (U bs) (d+10) (eL bs pG L :: l) bK (.cst (.ref oU)) [.inst bR n,.int h,.int kk] σ (λ v s=>dO bg v λ i=>aO i "r" s λ v1=>dI v1 λ i1=>aO i "s" s λ v2=>dI v2 λ i2=>Q (.tup [.int i1,.int i2]) s) (λ s=>Q .none s)) (by kernel_rfl)
  ⟨bA (H.raw hn) (by kernel_rfl),Lu O X C ha H hn hk hg od hodd hn1 hnb hV hm hi (λ iv δ σ' i0 i1 ie h1 h2 H2 =>
   ⟨rfl,_,.int (V.1%nn),H2.raw (tV _ _),by kernel_rfl,rfl,_,.int ((iv*(h+(m*(V.1%nn))%nn))%nn),H2.raw (tV _ _),by kernel_rfl,rfl,q iv _ σ' i0 i1 ie h1 h2 (List.append_assoc _ _ _▸H2)⟩) e⟩
end
end
end
noncomputable section
section
variable {bs:Bs} {d:Nat} {σ:List AO} {Q:AV→List AO→Prop}
section
variable {c:Nat} {p a b:Int} {ω:List D}
theorem Ji {nn x:Int} (hnb:nn≤1000) (h0:0≤x) (h1:x<nn):aa x:=by unfold aa; exact ⟨Lq.ll (by decide) h0,Lq.ll (Lq.w (Lq.sl h1 hnb)) (by decide)⟩
theorem sP {P:Prop} [Decidable P] {X:Prop} (h:decide P=true) (n:¬ P):X:=absurd (of_decide_eq_true h) n
theorem FP (O:(U bs).Ok) (C:Cv p a b) (ha:0≤a∧a<p) (H:Gd c p a b ω σ) {n g q0 s:Nat} {P R V:Int×Int} {nn x r t h:Int}
 (hn:ω[n]? = some (.raw (.inst (DF c g q0)))) (hs:ω[s]? = some (.raw (.inst (Lp r t)))) (hg:ω[g]? = some (.pj P (.int nn) true)) (hq:ω[q0]? = some (.pj R (.int nn) true)) (PC:g≠q0) (od:Od p a nn (some P)) (Jh:Od p a nn (some R)) (hodd:nn%2=1) (hn1:1<nn) (hnb:nn≤1000) (hR:some R=mul p a x (some P))
 (r0:1≤r) (r1:r<nn) (t0:1≤t) (t1:t<nn) (hi:∃ i,(t*i)%nn=1)
 (hV:∀ iv,0≤iv→iv<nn→(iv*t)%nn=1→mul p a ((h*iv)%nn+(r*iv)%nn*x) (some P)=some V)
 (q:∀ δ σ',Gd c p a b (ω++δ) σ'→Q (.bool (decide (V.1%nn=r))) σ'):ah (U bs) (d+10) (.cst (.ref kL)) [.inst ak n,.int h,.inst bg s] σ Q :=
 ah.of O (T:=T0) (by kernel_rfl) (by kernel_rfl) λ L=>Eq.mp (α:=aO n "generator" σ λ v=>dO 313 v λ i=>aD i "order" σ∧ah (U bs) (d+9) (.cst (.ref 159)) [.inst 313 i] σ λ v1 s1=>dI v1 λ i1=>aO s "r" s1 λ v2=>dI v2 λ i2=>aO s "s" s1 λ v3=>dI v3 λ i3=>((decide (i2<1))=true→Q (.bool false) s1)∧((decide (i2<1))=false→((decide ((i1-1)<i2))=true→Q (.bool false) s1)∧((decide ((i1-1)<i2))=false→((decide (i3<1))=true→Q (.bool false) s1)∧((decide (i3<1))=false→((decide ((i1-1)<i3))=true→Q (.bool false) s1)∧((decide ((i1-1)<i3))=false→ah (U bs) (d+9) (.cst (.ref 21)) [.int i3,.int i1] s1 λ v4 s2=>dI v4 λ i4=>(aa h∨aa i4)∧0<i1∧∀ r:Int,r=((h*i4)%i1)→0≤r→r<i1→(aa i2∨aa i4)∧0<i1∧∀ r1:Int,r1=((i2*i4)%i1)→0≤r1→r1<i1→aD i "mul_add" s2∧aO n "point" s2 λ v5=>dO 313 v5 λ i5=>ah (U bs) (d+9) (.cst (.ref 303)) [.inst 313 i,.int r,.inst 313 i5,.int r1] s2 λ v6 s3=>dO 313 v6 λ i6=>aD i6 "x" s3∧ah (U bs) (d+9) (.cst (.ref 173)) [.inst 313 i6] s3 λ v7 s4=>dI v7 λ i7=>0<i1∧∀ r2:Int,r2=(i7%i1)→0≤r2→r2<i1→Q (.bool (decide (r2=i2))) s4))))) (by kernel_rfl) (by
  have Hn:0<nn:=od.pos
  refine ⟨_,.inst aj g,H.raw hn,by kernel_rfl,rfl,rfl,H.vZ hg (λ _ _ _ _=>by kernel_rfl),vW O H hg rfl ⟨_,.int r,H.raw hs,by kernel_rfl,rfl,_,.int t,H.raw hs,by kernel_rfl,rfl,?_⟩⟩
  refine ⟨λ h=>sP h (Int.not_lt.mpr r0),λ _=>⟨λ h=>sP h (Int.not_lt.mpr (Int.le_sub_one_of_lt r1)),λ _=>⟨λ h=>sP h (Int.not_lt.mpr t0),λ _=>⟨λ h=>sP h (Int.not_lt.mpr (Int.le_sub_one_of_lt t1)),λ _=>AQ O hn1 hnb hi λ iv i0 i1 ie=>?_⟩⟩⟩⟩
  have V1:=hV iv i0 i1 ie
  refine ⟨.inr (Ji hnb i0 i1),Hn,λ u1 e1 _ _=>⟨.inr (Ji hnb i0 i1),Hn,λ u2 e2 _ _=>⟨H.vZ hg (λ _ _ _ _=>by kernel_rfl),_,.inst aj q0,H.raw hn,by kernel_rfl,rfl,rfl,DK O C ha H hg hq PC od Jh hodd hn1 hnb hR λ v δ σ' H' D=>?_⟩⟩⟩
  subst e1
  subst e2
  rw [V1] at D
  obtain ⟨w,g',rfl,hw,_⟩:=D
  exact ⟨rfl,H'.vZ hw (λ _ _ _ _=>by kernel_rfl),yV O C H' hw ⟨Hn,λ r2 e2 _ _=>by rw [e2]; exact q δ σ' H'⟩⟩)
end
end
end
noncomputable section
section
variable {bs:Bs} {d:Nat} {σ:List AO} {Q:AV→List AO→Prop}
theorem BZ {n a b c e:Int} (h:a%n=b%n) (k:c%n=e%n):(a+c)%n=(b+e)%n:=by rw [Int.add_emod,h,k,← Int.add_emod]
theorem qP {n a b c e:Int} (h:a%n=b%n) (k:c%n=e%n):(a*c)%n=(b*e)%n:=by rw [Int.mul_emod,h,k,← Int.mul_emod]
theorem DM (a n:Int):a%n%n=a%n:=Int.emod_emod ..
theorem HU {n a:Int} (hn:1<n) (h:a%n=1):a%n=1%n:=h.trans (Int.emod_eq_of_lt (by decide) hn).symm
theorem qk {n i s j:Int} (hn:1<n) (i0:0≤i) (i1:i<n) (j0:0≤j) (j1:j<n) (hi:(i*s)%n=1) (hj:(s*j)%n=1):i=j:=by
 have h1:(i*(s*j))%n=(i*1)%n:=qP rfl (HU hn hj)
 have h2:(i*s*j)%n=(1*j)%n:=qP (HU hn hi) rfl
 rw [← Int.mul_assoc,h2,Int.one_mul,Int.mul_one,Int.emod_eq_of_lt j0 j1,Int.emod_eq_of_lt i0 i1] at h1
 exact h1.symm
theorem Lv (n h iv r x:Int):((h*iv)%n+(r*iv)%n*x)%n=(h*iv+r*iv*x)%n:=BZ (DM _ _) (qP (DM _ _) rfl)
theorem Lw (n h iv m r:Int):(iv*(h+(m*r)%n))%n=((h+r*m)*iv)%n:=by
 rw [Int.mul_comm (h+r*m),Int.mul_comm r m]
 exact qP rfl (BZ rfl (DM _ _))
theorem Lx {n h g iv m r k o s:Int} (hn:1<n) (hg:g%n=h%n) (es:s=((h+r*m)*o)%n) (hk:(k*o)%n=1) (hi:(iv*s)%n=1):(g*iv+r*iv*m)%n=k%n:=by
 have h1:(g*iv+r*iv*m)%n=(iv*(h+r*m))%n:=by
  rw [Int.mul_add,← Int.mul_assoc,Int.mul_comm iv r,Int.mul_comm g iv]
  exact BZ (qP rfl hg) rfl
 have h2:(iv*(h+r*m)*(k*o))%n=(iv*(h+r*m)*1)%n:=qP rfl (HU hn hk)
 have h3:(iv*s*k)%n=(1*k)%n:=qP (HU hn hi) rfl
 have h4:(iv*s*k)%n=(iv*((h+r*m)*o)*k)%n:=by subst es; exact qP (qP rfl (DM _ _)) rfl
 rw [Int.mul_one] at h2
 rw [h1,← h2]
 rw [Int.one_mul,h4] at h3
 rw [← h3,Int.mul_comm k o,← Int.mul_assoc,← Int.mul_assoc,Int.mul_assoc iv]
theorem FQ:((List.range 205).all λ n=>Nat.blt n 3||n%2==0||((List.range n).any λ k=>Nat.ble 3 k&&k%2==1&&n%k==0)||xu n)=true:=by decide +kernel
theorem wu.Q2 {n:Nat} (h:wu n) (hb:n≤204):xu n=true:=by
 have e:=List.all_eq_true.mp FQ n (List.mem_range.mpr (Nat.lt_succ_of_le hb))
 rw [Bool.or_eq_true,Bool.or_eq_true,Bool.or_eq_true] at e
 obtain ⟨h3,ho,hf⟩:=h
 rcases e with ((e | e) | e) | e
 · exact absurd (Lq.Jk h3) (Nat.not_le.mpr (Nat.le_of_ble_eq_true e))
 · rw [beq_iff_eq] at e
   rw [show (n:Int)%2=((n%2:Nat):Int) from rfl,e] at ho
   exact absurd ho (by decide)
 · obtain ⟨k,hk,e⟩:=List.any_eq_true.mp e
   rw [Bool.and_eq_true,Bool.and_eq_true,beq_iff_eq,beq_iff_eq] at e
   refine absurd ?_ (hf k (Lq.cl (Nat.le_of_ble_eq_true e.1.1)) (Lq.cs (List.mem_range.mp hk)) (show ((k%2:Nat):Int)=1 from congrArg _ e.1.2))
   exact (show ((n%k:Nat):Int)=0 from congrArg _ e.2)
 · exact e
structure Gn (p a b:Int) (B:Int×Int) (n:Nat):Prop where
 on:On p a b (some B)
 od:Od p a n (some B)
 pr:wu n
 n5:(5:Int)≤n
 nb:n≤204
noncomputable def ov (n:Nat) (s:Int):Int:=(s^((n:Int)-2).toNat)%n
section
variable {c:Nat} {p a b:Int} {ω:List D} {B:Int×Int} {n:Nat}
theorem Gn.n0 (G:Gn p a b B n):(0:Int)<n:=Lq.sl (by decide) G.n5
theorem Gn.n1 (G:Gn p a b B n):(1:Int)<n:=Lq.sl (by decide) G.n5
theorem Gn.nk (G:Gn p a b B n):(n:Int)≤1000:=Lq.cl (Lq.qy G.nb (by decide))
theorem Gn.PD (G:Gn p a b B n) (s:Int):0≤ov n s:=Int.emod_nonneg _ (Lq.y G.n0)
theorem Gn.PE (G:Gn p a b B n) (s:Int):ov n s<n:=Int.emod_lt_of_pos _ G.n0
theorem Gn.ov (G:Gn p a b B n) {s:Int} (s1:1≤s) (sn:s<n):(s*ov n s)%n=1:=by
 have e:s%n=s:=Int.emod_eq_of_lt (Lq.ll (by decide) s1) sn
 have h:=yG (n:=n) (Lq.qy (by decide) (Lq.Jk G.n5)) (G.pr.Q2 G.nb) s (by rw [e]; exact Lq.y (Lq.sl (by decide) s1))
 unfold EC.inv at h
 rw [e] at h
 exact h
theorem Gn.small (G:Gn p a b B n) {x:Int} (h0:0≤x) (h1:x<n):aa x:=by unfold aa; exact ⟨Lq.ll (by decide) h0,Lq.ll (Lq.w (Lq.sl h1 G.nk)) (by decide)⟩
theorem Gn.pt (G:Gn p a b B n) (C:Cv p a b) {x:Int} (h:x%n≠0):∃ P,mul p a x (some B)=some P:=by
 cases e:mul p a x (some B) with
 | some P=>exact ⟨P,rfl⟩
 | none=>exact absurd ((G.od.dvd C G.on).mp e) h
theorem Gn.eq (G:Gn p a b B n) (C:Cv p a b) {x y:Int} (h:x%n=y%n):mul p a x (some B)=mul p a y (some B):=(G.od.eq C G.on).mpr (Int.emod_eq_emod_iff_emod_sub_eq_zero.mp h)
noncomputable def pg (p a:Int) (B:Int×Int) (n:Nat):List AV:=(List.range n).map λ i:Nat=>wD (mul p a (i:Int) (some B))
theorem cZ:(pg p a B n).length=n:=by unfold pg; rw [List.length_map,List.length_range]
theorem qu {i:Int} (h0:0≤i) (h:i<n):(pg p a B n)[i.toNat]? = some (wD (mul p a i (some B))):=by
 unfold pg
 rw [List.getElem?_map,List.getElem?_range (Lq.ts h0 h),Option.map_some,Int.toNat_of_nonneg h0]
theorem B0:pg p a B n++[wD (mul p a (n:Int) (some B))]=pg p a B (n+1):=by
 unfold pg
 rw [List.range_succ,List.map_append]
 rfl
theorem HV (O:(U bs).Ok) (C:Cv p a b) (G:Gn p a b B n) {r:Nat} (hl:σ[r]? = some (.lst (pg p a B n))) {i v x y:Int} (hi:aa i) (x1:1≤x) (xn:x<n) (y1:1≤y) (yn:y<n)
 (q0:(v*ov n y+x*ov n y*i)%n=0→Q .none σ) (q:∀ P,(v*ov n y+x*ov n y*i)%n≠0→mul p a (v*ov n y+x*ov n y*i) (some B)=some P→Q (.bool (decide (P.1%n=x))) σ) :
 ah (U bs) (d+2) (.cst (.ref BA)) [.lst r,.int i,.int v,.int x,.int y] σ Q :=
 ah.of O (T:=T0) (by kernel_rfl) (by kernel_rfl) λ L=>Eq.mp (α:=cR r σ λ xs=>xs.length≤1000000∧((decide (x<1))=true→Q (.bool false) σ)∧((decide (x<1))=false→((decide ((((xs.length:Nat):Int)-1)<x))=true→Q (.bool false) σ)∧((decide ((((xs.length:Nat):Int)-1)<x))=false→((decide (y<1))=true→Q (.bool false) σ)∧((decide (y<1))=false→((decide ((((xs.length:Nat):Int)-1)<y))=true→Q (.bool false) σ)∧((decide ((((xs.length:Nat):Int)-1)<y))=false→ah (U bs) (d+1) (.cst (.ref 649)) [.int y,.int ((xs.length:Nat):Int)] σ λ v1 s=>dI v1 λ i1=>(aa v∨aa i1)∧(aa x∨aa i1)∧(aa (x*i1)∨aa i)∧0<((xs.length:Nat):Int)∧∀ r1:Int,r1=(((v*i1)+((x*i1)*i))%((xs.length:Nat):Int))→0≤r1→r1<((xs.length:Nat):Int)→((decide (r1=0))=true→Q .none s)∧((decide (r1=0))=false→pD r r1 s λ x1=>d2 x1 λ x2 y1=>0<((xs.length:Nat):Int)∧∀ r2:Int,r2=(x2%((xs.length:Nat):Int))→0≤r2→r2<((xs.length:Nat):Int)→Q (.bool (decide (r2=x))) s)))))) (by kernel_rfl) (by
  refine ⟨_,hl,by rw [cZ]; exact Lq.qy G.nb (by decide),?_⟩
  rw [cZ]
  refine ⟨λ h=>sP h (Int.not_lt.mpr x1),λ _=>⟨λ h=>sP h (Int.not_lt.mpr (Int.le_sub_one_of_lt xn)),λ _=>⟨λ h=>sP h (Int.not_lt.mpr y1),λ _=>⟨λ h=>sP h (Int.not_lt.mpr (Int.le_sub_one_of_lt yn)),λ _=>AY O (Lq.ll (by decide) G.n5) G.nk (G.small (Lq.ll (by decide) y1) yn) ?_⟩⟩⟩⟩
  have so:=G.small (G.PD y) (G.PE y)
  refine ⟨.inr so,.inr so,.inr hi,G.n0,λ r1 e l u=>⟨λ h=>q0 (by rw [← of_decide_eq_true h,e]; rfl),λ h=>?_⟩⟩
  have h:=of_decide_eq_false h
  have e:r1=(v*ov n y+x*ov n y*i)%n:=e
  rw [e] at h
  obtain ⟨P,eP⟩:=G.pt C h
  have eR:mul p a r1 (some B)=some P:=(G.eq C (by rw [e]; exact DM _ _)).trans eP
  have g:=qu (p:=p) (a:=a) (B:=B) (n:=n) l u
  rw [eR] at g
  exact ⟨_,_,hl,l,Lq.sl u (Lq.ll G.nk (by decide)),g,G.n0,λ r2 e2 _ _=>by rw [e2]; exact q P h eP⟩)
end
end
end
noncomputable section
section
variable {bs:Bs} {d:Nat} {σ:List AO} {Q:AV→List AO→Prop}
theorem wu.co {n:Int} (h:wu n) {k x:Int} (hx:x%n≠0) (e:(k*x)%n=0):k%n=0:=by
 obtain ⟨h3,ho,hf⟩:=h
 have d1:(Int.gcd n x:Int)∣n:=Int.gcd_dvd_left ..
 have d2:(Int.gcd n x:Int)∣x:=Int.gcd_dvd_right ..
 have g0:0<(Int.gcd n x:Int):=by
  have:Int.gcd n x≠0:=λ h=>by
   rw [h] at d1
   have:=Int.zero_dvd.mp d1
   (clear ho; lia)
  lia
 have g1:Int.gcd n x=1:=by
  generalize hg:(Int.gcd n x:Int)=g at d1 d2 g0
  have gn:=Int.le_of_dvd (by (clear ho; lia)) d1
  have Ly:g%2=1:=by
   obtain ⟨q,hq⟩:=d1
   rcases Int.emod_two_eq g with h | h
   · exfalso
     have:n%2=0:=by rw [hq,Int.mul_emod,h,Int.zero_mul]; rfl
     lia
   · exact h
  have Uo:g≠n:=λ e=>hx (by rw [← e]; exact Int.emod_eq_zero_of_dvd d2)
  rcases Int.lt_or_le 1 g with h | h
  · exact absurd (Int.emod_eq_zero_of_dvd d1) (hf g (by (clear gn g0 hg; lia)) (by (clear Ly hg hf ho h3 e hx; lia)) Ly)
  · (clear Ly; lia)
 have d3:n.natAbs∣k.natAbs*x.natAbs:=by
  rw [← Int.natAbs_mul]
  exact Int.natAbs_dvd_natAbs.mpr (Int.dvd_of_emod_eq_zero e)
 have d4:n.natAbs∣k.natAbs:=Nat.Coprime.dvd_of_dvd_mul_right g1 d3
 exact Int.emod_eq_zero_of_dvd (Int.natAbs_dvd_natAbs.mp d4)
theorem Od.mult {p a b:Int} (C:Cv p a b) {P:G} (hP:On p a b P) {n x:Int} (od:Od p a n P) (h:wu n) (hx:x%n≠0):Od p a n (mul p a x P):=by
 refine ⟨od.pos,?_,λ k h1 h2 e=>?_⟩
 · rw [← kg C hP,od.dvd C hP,Int.mul_emod_right]
 · rw [← kg C hP,od.dvd C hP] at e
   have:=h.co hx e
   rw [Int.emod_eq_of_lt (by lia) h2] at this
   lia
section
variable {c:Nat} {p a b:Int} {ω:List D} {B:Int×Int} {n:Nat}
inductive pH (c:Nat) (p a:Int) (ω:List D) (B:Int×Int) (n:Nat) (x:Int) (k:Nat):Prop
 | mk (g q:Nat) (R:Int×Int) (hk:ω[k]? = some (.raw (.inst (DF c g q)))) (hg:ω[g]? = some (.pj B (.int n) true)) (hq:ω[q]? = some (.pj R (.int n) true)) (PC:g≠q) (hR:some R=mul p a x (some B)) (od:Od p a n (some R)):pH c p a ω B n x k
theorem pH.mono {x:Int} {k:Nat} (K:pH c p a ω B n x k) (δ:List D):pH c p a (ω++δ) B n x k:=by
 obtain ⟨g,q,R,h1,h2,h3,h4,h5,h6⟩:=K
 exact ⟨g,q,R,au h1 δ,au h2 δ,au h3 δ,h4,h5,h6⟩
theorem pH.Lm {x:Int} {k m:Nat} {l:List AV} {E:D} (hm:ω[m]? = some (.raw (.lst l))) (K:pH c p a ω B n x k):pH c p a (ω.set m E) B n x k:=by
 obtain ⟨g,q,R,h1,h2,h3,h4,h5,h6⟩:=K
 exact ⟨g,q,R,vL hm h1 (λ _ h=>nomatch h),vL hm h2 (λ _ h=>nomatch h),vL hm h3 (λ _ h=>nomatch h),h4,h5,h6⟩
theorem HW (O:(U bs).Ok) (C:Cv p a b) (ha:0≤a∧a<p) (G:Gn p a b B n) (H:Gd c p a b ω σ) {s k r:Nat} (hs:ω[s]? = some (.st k)) (hk:ω[k]? = some .cells) (hl:ω[r]? = some (.raw (.lst (pg p a B n)))) {i:Int} {t:Bool} (et:t=true) (x1:1≤i) (xn:i<n)
 (z:∀ δ σ' k,Gd c p a b (ω++δ) σ'→pH c p a (ω++δ) B n i k→Q (.inst ak k) σ'):ah (U bs) (d+12) (.cst (.ref By)) [.lst s,.inst aE c,.lst r,.int i,.bool t] σ Q :=
 ah.of O (T:=La) (by kernel_rfl) (by kernel_rfl) λ L=>Eq.mp (α:=cR r σ λ xs=>xs.length≤1000000∧mZ (U bs) (d+11) (.lst r) (.int 1) σ λ v s1=>d2 v λ x y=>ah (U bs) (d+11) (.cst (.ref 628)) [.lst s,.inst 88 c,.tup [.int x,.int y],.int ((xs.length:Nat):Int),.bool t] s1 λ v1 s2=>dO 313 v1 λ i1=>mZ (U bs) (d+11) (.lst r) (.int i) s2 λ v2 s3=>d2 v2 λ x1 y1=>ah (U bs) (d+11) (.cst (.ref 628)) [.lst s,.inst 88 c,.tup [.int x1,.int y1],.int ((xs.length:Nat):Int),.bool t] s3 λ v3 s4=>dO 313 v3 λ i2=>ah (U bs) (d+11) (.cst (.ref 501)) [.inst 313 i1,.inst 313 i2] s4 λ v4 s5=>dO 501 v4 λ i3=>Q (.inst 501 i3) s5) (by kernel_rfl) (by
  subst et
  obtain ⟨B1,B2⟩:=B
  have hx:i%n≠0:=by rw [Int.emod_eq_of_lt (Lq.ll (by decide) x1) xn]; exact Lq.y (Lq.sl (by decide) x1)
  obtain ⟨⟨R1,R2⟩,eR⟩:=G.pt C hx
  have hR:On p a b (some (R1,R2)):=by rw [← eR]; exact bD C G.on _
  have Jh:Od p a n (some (R1,R2)):=by rw [← eR]; exact Od.mult C G.on G.od G.pr hx
  have g1:=qu (p:=p) (a:=a) (B:=(B1,B2)) (n:=n) (i:=1) (by decide) G.n1
  have g2:=qu (p:=p) (a:=a) (B:=(B1,B2)) (n:=n) (i:=i) (Lq.ll (by decide) x1) xn
  rw [eR] at g2
  refine ⟨_,H.raw hl,by rw [cZ]; exact Lq.qy G.nb (by decide),?_⟩
  rw [cZ]
  refine mZ.list (H.raw hl) (by decide) g1 (by decide) (CK (d:=d+8) O C H hs hk G.on λ s1 H1=>⟨rfl,mZ.list (H1.raw (au hl _)) (Lq.ll (by decide) x1) g2 (Lq.sl xn (Lq.ll G.nk (by decide))) (CK (d:=d+8) O C H1 (au hs _) (au hk _) hR λ s2 H2=>⟨rfl,?_⟩)⟩)
  have hg:=au (kE ω (D.pj (B1,B2) (.int n) true) [D.tab []]) [D.pj (R1,R2) (.int n) true,D.tab []]
  have hq:=kE (ω++[D.pj (B1,B2) (.int n) true,D.tab []]) (D.pj (R1,R2) (.int n) true) [D.tab []]
  refine QZ O C ha H2 hg hq Jh G.pr.2.1 G.n1 G.nk λ δ s3 H3=>⟨rfl,?_⟩
  have e:=au (tV (ω++[D.pj (B1,B2) (.int n) true,D.tab []]++[D.pj (R1,R2) (.int n) true,D.tab []]) (.raw (.inst (DF c ω.length (ω++[D.pj (B1,B2) (.int n) true,D.tab []]).length)))) δ
  have K:pH c p a _ (B1,B2) n i _:=⟨ω.length,(ω++[D.pj (B1,B2) (.int n) true,D.tab []]).length,(R1,R2),e,au (au hg _) δ,au (au hq _) δ,by rw [List.length_append]; exact Lq.nx (Lq.Ri (Nat.succ_pos _)),eR.symm,Jh⟩
  generalize (ω++[D.pj (B1,B2) (.int n) true,D.tab []]++[D.pj (R1,R2) (.int n) true,D.tab []]).length=kq at K ⊢
  rw [List.append_assoc,List.append_assoc,List.append_assoc] at H3 K
  exact z _ s3 kq H3 K)
theorem O0 (O:(U bs).Ok) (C:Cv p a b) (ha:0≤a∧a<p) (G:Gn p a b B n) (H:Gd c p a b ω σ) {x r t h:Int} {k s:Nat} (K:pH c p a ω B n x k) (hs:ω[s]? = some (.raw (.inst (Lp r t)))) (r1:1≤r) (rn:r<n) (t1:1≤t) (tn:t<n) {V:Int×Int} (hV:mul p a (h*ov n t+r*ov n t*x) (some B)=some V)
 (q:∀ δ σ',Gd c p a b (ω++δ) σ'→Q (.bool (decide (V.1%n=r))) σ'):ah (U bs) (d+10) (.cst (.ref kL)) [.inst ak k,.int h,.inst bg s] σ Q:=by
 obtain ⟨g,q0,R,hk,hg,hq,PC,hR,od⟩:=K
 exact FP O C ha H hk hs hg hq PC G.od od G.pr.2.1 G.n1 G.nk hR r1 rn t1 tn ⟨_,G.ov t1 tn⟩ (λ iv i0 i1 ie=>by
  rw [qk G.n1 i0 i1 (G.PD t) (G.PE t) ie (G.ov t1 tn)]
  exact (G.eq C (Lv ..)).trans hV) q
theorem pH.vZ (H:Gd c p a b ω σ) {x:Int} {k:Nat} (K:pH c p a ω B n x k):aD k "verifies" σ:=by
 obtain ⟨g,q0,R,hk,_⟩:=K
 exact bA (H.raw hk) (by kernel_rfl)
theorem ye (O:(U bs).Ok) (C:Cv p a b) (ha:0≤a∧a<p) (G:Gn p a b B n) (H:Gd c p a b ω σ) {i x y v:Int} {k r:Nat} (hl:ω[r]? = some (.raw (.lst (pg p a B n)))) (K:pH c p a ω B n i k) (hi:aa i) (x1:1≤x) (xn:x<n) (y1:1≤y) (yn:y<n)
 (q:∀ δ σ',Gd c p a b (ω++δ) σ'→Q (.bool true) σ'):ah (U bs) (d+11) (.cst (.ref AM)) [.lst r,.int i,.inst ak k,.int v,.tup [.int x,.int y]] σ Q :=
 ah.of O (T:=T0) (by kernel_rfl) (by kernel_rfl) λ L=>Eq.mp (α:=ah (U bs) (d+10) (.cst (.ref 663)) [.lst r,.int i,.int v,.int x,.int y] σ λ v1 s=>aA (U bs) (d+10) .Is v1 .none s λ v2 s1=>dB v2 λ c=>(c=true→Q (.bool c) s1)∧(c=false→aD k "verifies" s1∧ah (U bs) (d+10) (.cst (.ref 458)) [.int x,.int y] s1 λ v3 s2=>dO 458 v3 λ i1=>ah (U bs) (d+10) (.cst (.ref 498)) [.inst 501 k,.int v,.inst 458 i1] s2 λ v4 s3=>dB v4 λ i2=>aA (U bs) (d+10) .Is (.bool i2) v1 s3 λ v5 s4=>dB v5 λ c1=>Q (.bool c1) s4)) (by kernel_rfl) (HV (d:=d+8) O C G (H.raw hl) hi x1 xn y1 yn
  (λ _=>aA.isNone (b:=true) (bZ rfl) ⟨λ _=>q [] σ (by rw [List.append_nil]; exact H),λ h=>(nomatch h)⟩)
  λ P _ eP=>aA.isNone (b:=false) (bZ rfl) ⟨λ h=>(nomatch h),λ _=>⟨K.vZ H,Lr (d:=d+8) O ⟨rfl,by
   rw [H.len]
   exact O0 O C ha G (H.kU _) (K.mono _) (tV _ _) x1 xn y1 yn eP λ δ σ' H'=>aA.isBool (by
    show Q (.bool (_==_)) σ'
    rw [beq_self_eq_true]
    exact q _ σ' (List.append_assoc _ _ _▸H'))⟩⟩⟩)
end
end
end
noncomputable section
section
variable {bs:Bs} {d:Nat} {σ:List AO} {Q:AV→List AO→Prop}
section
variable {c:Nat} {p a b:Int} {ω:List D} {B:Int×Int} {n:Nat}
structure LO (c:Nat) (p a:Int) (ω:List D) (B:Int×Int) (n:Nat) (l i k:Nat) (i0 i1:Int) (k0 k1 k2:Nat):Prop where
 ro:ω[l]? = some (.raw (.lst (pg p a B n)))
 ix:ω[i]? = some (.raw (.lst [.int i0,.int i1]))
 kl:ω[k]? = some (.raw (.lst [.inst ak k0,.inst ak k1,.inst ak k2]))
 K0:pH c p a ω B n i0 k0
 K1:pH c p a ω B n i0 k1
 K2:pH c p a ω B n i1 k2
 s0:aa i0
 s1:aa i1
theorem LO.mono {l i k:Nat} {i0 i1:Int} {k0 k1 k2:Nat} (W:LO c p a ω B n l i k i0 i1 k0 k1 k2) (δ:List D):LO c p a (ω++δ) B n l i k i0 i1 k0 k1 k2 :=
 ⟨au W.ro δ,au W.ix δ,au W.kl δ,W.K0.mono δ,W.K1.mono δ,W.K2.mono δ,W.s0,W.s1⟩
def zO (c:Nat) (p a b:Int) (ω:List D) (L:List AV) (s:List AO):Prop:=∃ δ,Gd c p a b (ω++.raw (.lst L) :: δ) s
theorem zO.of (H:Gd c p a b ω σ) (L:List AV):zO c p a b ω L (σ++[.lst L]):=⟨[],H.kU _⟩
theorem zO.on {L:List AV} {δ δ':List D} {s:List AO} (H:Gd c p a b (ω++.raw (.lst L) :: δ++δ') s):zO c p a b ω L s:=⟨δ++δ',by rw [List.append_assoc] at H; exact H⟩
theorem zO.at {L:List AV} {δ:List D} {s:List AO} (H:Gd c p a b (ω++.raw (.lst L) :: δ) s) {m:Nat} (e:m=ω.length):s[m]? = some (.lst L):=by subst e; exact H.raw (kE ω _ δ)
theorem AZ (O:(U bs).Ok) (C:Cv p a b) (ha:0≤a∧a<p) (G:Gn p a b B n) (H:Gd c p a b ω σ) {r i k k0 k1 k2:Nat} {i0 i1 x y v:Int} (W:LO c p a ω B n r i k i0 i1 k0 k1 k2) (x1:1≤x) (xn:x<n) (y1:1≤y) (yn:y<n)
 (hv:∀ g,g%n=v%n→∃ V,mul p a (g*ov n y+x*ov n y*i0) (some B)=some V∧V.1%n=x)
 (q:∀ δ σ',Gd c p a b (ω++δ) σ'→Q (.bool true) σ'):ah (U bs) (d+12) (.cst (.ref kD)) [.lst r,.lst i,.lst k,.int v,.tup [.int x,.int y]] σ Q :=
 ah.of O (T:=T0) (by kernel_rfl) (by kernel_rfl) λ L=>Eq.mp (α:=cR r σ λ xs=>xs.length≤1000000∧cR k σ λ tL=>tL.length≤1000000∧∃ ys:List Nat,(σ++[AO.lst (ER tL 2)])[σ.length]? = some (AO.lst (ys.map (λ a=>.inst 501 a)))∧∃ I:Nat→List AO→Prop,I 0 (σ++[AO.lst (ER tL 2)])∧∀ i1:Nat,∀ ai:List AO,I i1 ai→ai[σ.length]? = some (AO.lst (ys.map (λ a=>.inst 501 a)))∧(∀ y1:Nat,ys[i1]? = some y1→(aa 7∨aa ((xs.length:Nat):Int))∧∃ PF:List Int,(ai++[AO.lst [.int v,.int (v+((xs.length:Nat):Int)),.int (v-(7*((xs.length:Nat):Int)))]])[ai.length]? = some (AO.lst (PF.map (λ a=>.int a)))∧∃ I1:Nat→List AO→Prop,I1 0 (ai++[AO.lst [.int v,.int (v+((xs.length:Nat):Int)),.int (v-(7*((xs.length:Nat):Int)))]])∧∀ i2:Nat,∀ bC:List AO,I1 i2 bC→bC[ai.length]? = some (AO.lst (PF.map (λ a=>.int a)))∧(∀ y2:Int,PF[i2]? = some y2→aD y1 "verifies" bC∧ah (U bs) (d+11) (.cst (.ref 458)) [.int x,.int y] bC λ v1 s=>dO 458 v1 λ i3=>ah (U bs) (d+11) (.cst (.ref 498)) [.inst 501 y1,.int y2,.inst 458 i3] s λ v2 s1=>dB v2 λ i4=>((!(i4==true))=true→Q (.bool false) s1)∧((!(i4==true))=false→I1 (i2+1) s1))∧(i2=PF.length→∃ PG:List Int,(bC++[AO.lst [.int (v+1),.int (0-v),.int (v+x)]])[bC.length]? = some (AO.lst (PG.map (λ a=>.int a)))∧∃ I2:Nat→List AO→Prop,I2 0 (bC++[AO.lst [.int (v+1),.int (0-v),.int (v+x)]])∧∀ i3:Nat,∀ bS:List AO,I2 i3 bS→bS[bC.length]? = some (AO.lst (PG.map (λ a=>.int a)))∧(∀ y2:Int,PG[i3]? = some y2→pD i 0 bS λ x1=>dI x1 λ i4=>ah (U bs) (d+11) (.cst (.ref 684)) [.lst r,.int i4,.inst 501 y1,.int y2,.tup [.int x,.int y]] bS λ v1 s=>dB v1 λ i5=>((!i5)=true→Q (.bool false) s)∧((!i5)=false→I2 (i3+1) s))∧(i3=PG.length→I (i1+1) bS)))∧(i1=ys.length→pD i 1 ai λ x1=>dI x1 λ i2=>pD k 2 ai λ x2=>dO 501 x2 λ i3=>ah (U bs) (d+11) (.cst (.ref 684)) [.lst r,.int i2,.inst 501 i3,.int v,.tup [.int x,.int y]] ai λ v1 s=>dB v1 λ i4=>(i4=true→pD i 1 s λ x3=>dI x3 λ i5=>pD k 2 s λ x4=>dO 501 x4 λ i6=>ah (U bs) (d+11) (.cst (.ref 684)) [.lst r,.int i5,.inst 501 i6,.int (v+1),.tup [.int x,.int y]] s λ v2 s1=>dB v2 λ i7=>Q (.bool i7) s1)∧(i4=false→Q (.bool i4) s))) (by kernel_rfl) (by
  refine ⟨_,H.raw W.ro,by rw [cZ]; exact Lq.qy G.nb (by decide),_,H.raw W.kl,(by decide:3≤1000000),?_⟩
  rw [cZ]
  have lk:=H.len
  refine ⟨[k0,k1],getLast σ _,λ _=>zO c p a b ω [.inst ak k0,.inst ak k1],zO.of H _,λ j s hI=>?_⟩
  obtain ⟨δ,H1⟩:=hI
  have W1:=W.mono (.raw (.lst [.inst ak k0,.inst ak k1]) :: δ)
  refine ⟨zO.at H1 lk,λ y1 hy=>?_,λ _=>?_⟩
  · have KY:pH c p a (ω++.raw (.lst [.inst ak k0,.inst ak k1]) :: δ) B n i0 y1:=by
     rcases List.mem_cons.mp (List.mem_of_getElem? hy) with e | e
     · exact e▸W1.K0
     · exact (List.mem_singleton.mp e)▸W1.K1
    have on:∀ {δ' s'},Gd c p a b (ω++.raw (.lst [.inst ak k0,.inst ak k1]) :: δ++δ') s'→zO c p a b ω [.inst ak k0,.inst ak k1] s':=zO.on
    clear hy W H
    generalize ω++.raw (.lst [.inst ak k0,.inst ak k1]) :: δ=ω1 at H1 W1 KY on
    have T9:=H1.len
    refine ⟨.inl (by unfold aa; decide),[v,v+n,v-7*n],getLast s _,λ _=>zO c p a b ω1 [.int v,.int (v+n),.int (v-7*n)],zO.of H1 _,λ j1 s1 hI=>?_⟩
    obtain ⟨δ1,H2⟩:=hI
    have K2:=KY.mono (.raw (.lst [.int v,.int (v+n),.int (v-7*n)]) :: δ1)
    refine ⟨zO.at H2 T9,λ g hg=>?_,λ _=>?_⟩
    · have eg:g%n=v%n:=by
       rcases List.mem_cons.mp (List.mem_of_getElem? hg) with e | e
       · rw [e]
       · rcases List.mem_cons.mp e with e | e
         · rw [e,Int.add_emod_right]
         · rw [List.mem_singleton.mp e,Int.mul_comm,Int.sub_eq_add_neg,← Int.mul_neg,Int.add_mul_emod_self_left]
      obtain ⟨V,eV,hV⟩:=hv g eg
      refine ⟨K2.vZ H2,Lr (d:=d+9) O ⟨rfl,?_⟩⟩
      rw [H2.len]
      refine O0 (d:=d+1) O C ha G (H2.kU _) (K2.mono _) (tV _ _) x1 xn ‹1≤y› yn eV λ δ' s' H'=>?_
      rw [decide_eq_true hV]
      exact ⟨λ h=>(nomatch h),λ _=>zO.on (by rw [List.append_assoc] at H'; exact H')⟩
    · have W2:=W1.mono (.raw (.lst [.int v,.int (v+n),.int (v-7*n)]) :: δ1)
      have Sw:∀ {δ' s'},Gd c p a b (ω1++.raw (.lst [.int v,.int (v+n),.int (v-7*n)]) :: δ1++δ') s'→zO c p a b ω [.inst ak k0,.inst ak k1] s':=λ h=>on (by rw [List.append_assoc] at h; exact h)
      clear W1 KY on H1
      generalize ω1++.raw (.lst [.int v,.int (v+n),.int (v-7*n)]) :: δ1=ω2 at H2 W2 K2 Sw
      have Ua:=H2.len
      refine ⟨[v+1,0-v,v+x],getLast s1 _,λ _=>zO c p a b ω2 [.int (v+1),.int (0-v),.int (v+x)],zO.of H2 _,λ j2 s2 hI=>?_⟩
      obtain ⟨δ2,H3⟩:=hI
      have W3:=W2.mono (.raw (.lst [.int (v+1),.int (0-v),.int (v+x)]) :: δ2)
      refine ⟨zO.at H3 Ua,λ g _=>⟨_,_,H3.raw W3.ix,by decide,by decide,rfl,ye O C ha G H3 W3.ro (K2.mono _) W3.s0 x1 xn ‹1≤y› yn λ δ' s' H'=>⟨λ h=>(nomatch h),λ _=>zO.on H'⟩⟩,λ _=>Sw H3⟩
  · refine ⟨_,_,H1.raw W1.ix,by decide,by decide,rfl,_,_,H1.raw W1.kl,by decide,by decide,rfl,rfl,ye O C ha G H1 W1.ro W1.K2 W1.s1 x1 xn ‹1≤y› yn λ δ1 s1 H2=>⟨λ _=>?_,λ h=>(nomatch h)⟩⟩
    have W2:=W1.mono δ1
    exact ⟨_,_,H2.raw W2.ix,by decide,by decide,rfl,_,_,H2.raw W2.kl,by decide,by decide,rfl,rfl,ye O C ha G H2 W2.ro W2.K2 W2.s1 x1 xn ‹1≤y› yn λ δ2 s2 H3=>q _ s2 (by rw [List.append_assoc,List.append_assoc] at H3; exact H3)⟩)
end
end
end
noncomputable section
section
variable {bs:Bs} {d:Nat} {σ:List AO} {Q:AV→List AO→Prop}
theorem HX {n:Int} (h0:0≤n) (h:n≤1000000):Builtin.Range.small 1 n 1=true:=by
 have h1:(-(2^62):Int)≤1:=by decide
 have h2:(1000000:Int)<2^62:=by decide
 exact small_one h1 (by decide) (by lia) (Lq.ls h h2)
theorem Sk.app {s k N:Nat} (H:Sk σ s k N) (τ:List AO):Sk (σ++τ) s k (N+τ.length):=by
 obtain ⟨h,⟨i,hi,h1⟩,cs,hc,h2⟩:=H
 exact ⟨by rw [List.length_append,h],⟨i,hi,bw h1 τ⟩,cs,hc,bw h2 τ⟩
theorem Sk.Q3 {s k N:Nat} (H:Sk σ s k N):s<σ.length:=by
 obtain ⟨_,⟨i,hi,h1⟩,_⟩:=H
 exact (List.getElem?_eq_some_iff.mp h1).1
theorem Sk.Q4 {s k N:Nat} (H:Sk σ s k N):k<σ.length:=by
 obtain ⟨_,_,cs,_,h1⟩:=H
 exact (List.getElem?_eq_some_iff.mp h1).1
theorem HY (O:(U bs).Ok) {s k N l:Nat} {xs:List AV} (H:Sk σ s k N) (hl:σ[l]? = some (.lst xs)) (n1:s≠l) (n2:k≠l) {m:Int} (hm:0<m) (hm':m≤1000000000) (q:∀ v σ',Sk σ' s k N→σ'[l]? = some (.lst xs)→0≤v→v<m→Q (.int v) σ') :
 ah (U bs) (d+1) (.cst (.ref o9)) [.lst s,.int m] σ Q:=by
 have hne:=H.ne
 refine aG λ G kG=>?_
 obtain ⟨hN,⟨i,hi,AU⟩,cs,hc,BU⟩:=H
 refine kG ?_
 exact BS O AU BU hi hc hm hm' (λ v i' l u hi'=>q v _ ⟨by rw [List.length_set]; exact hN,⟨i',hi',getSet AU⟩,⟨cs,hc,bB BU hne⟩⟩ (bB hl n1) l u) λ v cs' l u hc'=>q v _ ⟨by rw [List.length_set]; exact hN,⟨i,hi,bB AU (Ne.symm hne)⟩,⟨cs',hc',getSet BU⟩⟩ (bB hl n2) l u
theorem Sk.good2 {s k N:Nat} (H:Sk σ s k N) (p a b:Int):∃ ω,ω[s]? = some (.st k)∧ω[k]? = some .cells∧Gd N p a b ω (σ++[.inst (nh p a b)])∧∀ n o,s≠n→k≠n→σ[n]? = some o→ω[n]? = some (.raw o):=by
 have hne:=H.ne
 have ls:=H.Q3
 have lk:=H.Q4
 obtain ⟨hl,⟨i,hi,AU⟩,cs,hc,BU⟩:=H
 have lw:(((σ.map D.raw).set s (.st k)).set k .cells).length=σ.length:=by rw [List.length_set,List.length_set,List.length_map]
 have w1:(((σ.map D.raw).set s (.st k)).set k .cells)[s]? = some (.st k):=by
  rw [List.getElem?_set_ne (Ne.symm hne),List.getElem?_set_self (by rw [List.length_map]; exact ls)]
 have w2:(((σ.map D.raw).set s (.st k)).set k .cells)[k]? = some .cells:=by
  rw [List.getElem?_set_self (by rw [List.length_set,List.length_map]; exact lk)]
 have w3:∀ n o,s≠n→k≠n→σ[n]? = some o→(((σ.map D.raw).set s (.st k)).set k .cells)[n]? = some (.raw o):=λ n o e1 e2 h=>by
  rw [List.getElem?_set_ne e2,List.getElem?_set_ne e1,List.getElem?_map,h]; rfl
 refine ⟨((σ.map D.raw).set s (.st k)).set k .cells++[.cur],au w1 _,au w2 _,⟨by rw [List.length_append,List.length_append,lw]; rfl,?_,λ n E hE=>?_⟩,λ n o e1 e2 h=>au (w3 n o e1 e2 h) _⟩
 · rw [List.getElem?_append_right (by rw [lw,hl]; exact Nat.le_refl _),lw,hl,Nat.sub_self]; rfl
 · by_cases hn:n<σ.length
   · rw [List.getElem?_append_left (by rw [lw]; exact hn)] at hE
     rw [List.getElem?_append_left hn]
     by_cases e1:n=k
     · subst e1
       rw [w2] at hE; cases hE
       exact ⟨_,BU,cs,hc.1,hc.2.1,hc.2.2,rfl⟩
     · by_cases e2:n=s
       · subst e2
         rw [w1] at hE; cases hE
         exact ⟨_,AU,i,hi,rfl⟩
       · rw [w3 n _ (Ne.symm e2) (Ne.symm e1) (List.getElem?_eq_getElem hn)] at hE
         cases hE
         exact ⟨_,List.getElem?_eq_getElem hn,rfl⟩
   · rw [List.getElem?_append_right (by rw [lw]; exact Nat.not_lt.mp hn),lw] at hE
     rw [List.getElem?_append_right (Nat.not_lt.mp hn)]
     cases hz:n-σ.length with
     | zero=>rw [hz] at hE; cases hE; exact ⟨_,rfl,rfl⟩
     | succ m=>rw [hz] at hE; simp at hE
theorem DN (O:(U bs).Ok) {s k N:Nat} (S:Sk σ s k N) (q0:∀ σ',Q .none σ') (q:∀ p a b c l ω B n σ',Cv p a b→0≤a∧a<p→Gn p a b B n→Gd c p a b ω σ'→ω[s]? = some (.st k)→ω[k]? = some .cells→ω[l]? = some (.raw (.lst (pg p a B n)))→Q (.tup [.inst aE c,.lst l]) σ') :
 ah (U bs) (d+12) (.cst (.ref zG)) [.lst s] σ Q :=
 ah.of O (T:=T0) (by kernel_rfl) (by kernel_rfl) λ L=>Eq.mp (α:=ah (U bs) (d+11) (.cst (.ref 567)) [.lst s] σ λ v s1=>d3 v λ x y z=>ah (U bs) (d+11) (.cst (.ref 574)) [.int x,.int y,.int z] s1 λ v1 s2=>dL v1 λ i=>cR i s2 λ xs=>xs.length≤1000000∧ah (U bs) (d+11) (.cst (.ref 560)) [.lst s,.int ((xs.length:Nat):Int)] s2 λ v2 s3=>dI v2 λ i1=>ah (U bs) (d+11) (.cst (.ref 614)) [.int x,.int y,.lst i,.int i1] s3 λ v3 s4=>dP v3 (λ a y1=>((decide (y1<5))=true→Q .none s4)∧((decide (y1<5))=false→Builtin.Range.small 1 y1 1=true∧∃ I:Int→List AO→Prop,I 1 (s4++[AO.lst [.none]])∧∀ i2:Int,∀ ai:List AO,I i2 ai→(i2<y1→cR s4.length ai λ x1=>pD s4.length (i2-1) ai λ x2=>ah (U bs) (d+11) (.cst (.ref 588)) [.int x,.int y,x2,a] ai λ v4 s5=>cR s4.length s5 λ tL=>tL.length≤1000000∧I (i2+1) (s5.set s4.length (AO.lst (tL++[v4]))))∧(y1≤i2→ah (U bs) (d+11) (.cst (.ref 88)) [.int x,.int y,.int z] ai λ v4 s5=>dO 88 v4 λ i3=>Q (.tup [.inst 88 i3,.lst s4.length]) s5)))) (by kernel_rfl) (by
  refine DC (d:=d+9) O S λ p a b σ2 C ha hb S2=>BW (d:=d+10) O C ha λ s' m ps hP hm yz hlen hne hm0=>?_
  have h0:0<ps.length:=List.length_pos_iff.mpr (by
   obtain ⟨x,y,x0,x1,y0,y1,e⟩:=C.point ha hb
   exact hne x y x0 x1 y0 y1 e)
  have hh:=C.hi
  obtain ⟨τ,rfl⟩:=hP
  refine ⟨_,hm,by rw [List.length_map]; exact Lq.qy hlen (by decide),HY (d:=d+10) O (S2.app τ) hm (Lq.nx (Lq.F3 S2.Q3 hm0)) (Lq.nx (Lq.F3 S2.Q4 hm0)) (by rw [List.length_map]; exact Lq.cs h0) (by rw [List.length_map]; exact Lq.cl (Lq.qy hlen (by decide))) λ v σ5 S5 Sx _ _=>?_⟩
  refine HP (d:=d+5) O C ha Sx h0 hlen yz (λ s' _=>⟨λ _=>q0 _,λ h=>absurd h (by decide)⟩) λ s' B n hp hB od hn hnb=>⟨λ _=>q0 _,λ h5=>?_⟩
  have h5:=of_decide_eq_false h5
  obtain ⟨τ5,rfl⟩:=hp
  have S6:=S5.app τ5
  clear hm S5 Sx S2 hm0
  generalize σ5++τ5=σ6 at S6 ⊢
  obtain ⟨n,rfl⟩:=Int.eq_ofNat_of_zero_le (Lq.w od.pos)
  have nb:(n:Int)≤204:=Lq.ll hnb (by omega)
  have G:Gn p a b B n:=⟨hB,od,hn,Lq.n h5,Lq.Rh nb⟩
  have n5:=G.n5
  refine ⟨HX (Lq.ll (by decide) n5) (Lq.ll nb (by decide)),λ i s=>∃ K:Nat,i=K∧1≤K∧K≤n∧s=σ6++[.lst (pg p a B K)],⟨1,rfl,Nat.le_refl _,Lq.qy (by decide) (Lq.Jk n5),rfl⟩,λ i s hI=>?_⟩
  obtain ⟨K,rfl,K1,KN,rfl⟩:=hI
  refine ⟨λ hi=>?_,λ hi=>?_⟩
  · refine ⟨_,getLast _ _,_,_,getLast _ _,Lq.dl _ (Lq.cl K1),Lq.sl (Lq.sl (Lq.ls (Lq.sp _ (by decide)) hi) nb) (by decide),qu (Lq.dl _ (Lq.cl K1)) (Lq.sq _ (by decide)),sO (d:=d+7) O C ha (bD C G.on _) G.on ⟨_,getLast _ _,by rw [cZ]; exact Lq.qy (Lq.qy KN (Lq.Rh nb)) (by decide),K+1,rfl,Lq.qy (by decide) (Lq.SG _ K1),Lq.us hi,?_⟩⟩
    rw [nB,← mul_succ C G.on,Int.sub_add_cancel,B0]
  · have eK:K=n:=Lq.ne KN (Lq.ul hi)
    subst eK
    refine HS (d:=d+9) O ⟨rfl,?_⟩
    have S7:=S6.app [.lst (pg p a B K)]
    obtain ⟨ω,hs,hk,H,hr⟩:=(⟨rfl,S7.st,S7.cells⟩:Sk _ _ k _).good2 p a b
    exact q p a b _ _ ω B K _ C ha G H hs hk (hr _ _ (Lq.nx S6.Q3) (Lq.nx S6.Q4) (getLast σ6 _)))
end
end
noncomputable section
section
variable {bs:Bs} {d:Nat} {σ:List AO} {Q:AV→List AO→Prop}
section
variable {c:Nat} {p a b:Int} {ω:List D} {B:Int×Int} {n:Nat}
def Lz (bs:Bs) (d:Nat) (L:Addr) (r0 ix kl pr:Nat) (N v m k:Int) (I:Int→List AO→Prop) (σ0:List AO) (Q:AV→List AO→Prop):Prop:=(((0:Int)<N)∧(∀ r:Int,((r=(m%N))→(((0:Int)≤r)→((r<N)→((((decide ((r≠(0:Int))))=true)→(((0:Int)<N)∧(∀ r1:Int,((r1=(m%N))→(((0:Int)≤r1)→((r1<N)→(pD r0 r1 σ0 (λ x2=>(d2 x2 (λ x3=>(λ y=>(((0:Int)<N)∧(∀ r2:Int,((r2=(x3%N))→(((0:Int)≤r2)→((r2<N)→(pD ix (0:Int) σ0 (λ x4=>(dI x4 (λ i12=>(((aa r2)∨(aa i12))∧(((0:Int)<N)∧(∀ r3:Int,((r3=(m%N))→(((0:Int)≤r3)→((r3<N)→(ah (U bs) (d+12) (.cst (.ref wm)) [(.int r3),(.int N)] σ0 (λ v8=>(λ s8=>(dI v8 (λ Sy=>(((aa (v+(r2*i12)))∨(aa Sy))∧(((0:Int)<N)∧(∀ r4:Int,((r4=(((v+(r2*i12))*Sy)%N))→(((0:Int)≤r4)→((r4<N)→(xO (U bs) (d+12) [eL bs CF L] (.cst (.ref pG)) [(.inst bR pr),(.int v),(.int m)] s8 (λ v9=>(λ s9=>(((((decide ((r2=(0:Int))))||(decide ((r4=(0:Int)))))=true)→(aA (U bs) (d+12) .IsNot v9 .none s9 (λ a2=>(λ a3=>(dB a2 (λ c1=>(((c1=true)→(Q (.bool false) a3))∧((c1=false)→(I (k+(1:Int)) a3)))))))))∧((((decide ((r2=(0:Int))))||(decide ((r4=(0:Int)))))=false)→(aA (U bs) (d+12) .NotEq v9 (.tup [(.int r2),(.int r4)]) s9 (λ a2=>(λ a3=>(dB a2 (λ c1=>(((c1=true)→(Q (.bool false) a3))∧((c1=false)→(((0:Int)<(32:Int))∧(∀ r5:Int,((r5=(k%(32:Int)))→(((0:Int)≤r5)→((r5<(32:Int))→((((decide ((r5=(0:Int))))=true)→(ah (U bs) (d+12) (.cst (.ref kD)) [(.lst r0),(.lst ix),(.lst kl),(.int v),v9] a3 (λ v10=>(λ O1=>(dB v10 (λ O2=>((((!O2)=true)→(Q (.bool false) O1))∧(((!O2)=false)→(I (k+(1:Int)) O1)))))))))∧(((decide ((r5=(0:Int))))=false)→((((decide ((N≤k)))=true)→(ah (U bs) (d+12) (.cst (.ref kD)) [(.lst r0),(.lst ix),(.lst kl),(.int v),v9] a3 (λ v10=>(λ O1=>(dB v10 (λ O2=>((((!O2)=true)→(Q (.bool false) O1))∧(((!O2)=false)→(I (k+(1:Int)) O1)))))))))∧(((decide ((N≤k)))=false)→(I (k+(1:Int)) a3)))))))))))))))))))))))))))))))))))))))))))))))))))))))))))∧(((decide ((r≠(0:Int))))=false)→(I (k+(1:Int)) σ0))))))))
theorem FT (O:(U bs).Ok) (X:x6 (U bs) bK) (C:Cv p a b) (ha:0≤a∧a<p) (G:Gn p a b B n) (H:Gd c p a b ω σ) {L:Addr} {l i kl k0 k1 k2 pr:Nat} {i0 i1 v m k:Int} {I:Int→List AO→Prop} (W:LO c p a ω B n l i kl i0 i1 k0 k1 k2) (hp:ω[pr]? = some (.raw (.inst (DG k0 i0))))
 (q:∀ δ σ',Gd c p a b (ω++δ) σ'→I (k+1) σ'):Lz bs d L l i kl pr n v m k I σ Q:=by
 refine ⟨G.n0,λ r er r0 rn=>⟨λ hr=>⟨G.n0,λ r1 e1 _ _=>?_⟩,λ _=>q [] σ (by rw [List.append_nil]; exact H)⟩⟩
 have hr:=of_decide_eq_true hr
 have e1:r1=r:=e1.trans er.symm
 subst e1
 have Ub:r1%n=r1:=Int.emod_eq_of_lt r0 rn
 obtain ⟨V,eV⟩:=G.pt C (x:=r1) (by rw [Ub]; exact hr)
 have g:=qu (p:=p) (a:=a) (B:=B) (n:=n) r0 rn
 rw [eV] at g
 refine ⟨_,_,H.raw W.ro,r0,Lq.sl rn (Lq.ll G.nk (by decide)),g,G.n0,λ r2 e2 l2 u2=>⟨_,_,H.raw W.ix,by decide,by decide,rfl,.inr W.s0,G.n0,λ r3 e3 _ _=>?_⟩⟩
 have e3:r3=r1:=e3.trans er.symm
 subst e3
 have r1':1≤r3:=Lq.LQ r0 hr
 have so:=G.ov r1' rn
 refine AY (d:=d+11) O (Lq.ll (by decide) G.n5) G.nk (G.small r0 rn) ⟨.inr (G.small (G.PD r3) (G.PE r3)),G.n0,λ r4 e4 l4 u4=>?_⟩
 have e4:r4=((v+r2*i0)*ov n r3)%n:=e4
 have e2:r2=V.1%n:=e2
 have hV:mul p a m (some B)=some V:=(G.eq C (by rw [er]; exact (DM _ _).symm)).trans eV
 have un:∀ iv:Int,0≤iv→iv<n→(iv*(m%n))%n=1→(iv*(v+(i0*(V.1%n))%n))%n=r4:=λ iv a0 a1 ae=>by
  rw [← er] at ae
  rw [qk G.n1 a0 a1 (G.PD r3) (G.PE r3) ae so,Lw,← e2,e4]
 obtain ⟨g0,q0,R,hk,hg,_⟩:=W.K0
 refine FO (d:=d+1) O X C ha H hp hk hg G.od G.pr.2.1 G.n1 G.nk hV W.s0 ⟨ov n r3,by rw [← er]; exact so⟩ (λ iv δ σ' a0 a1 ae h1 h2 H2=>?_) λ δ σ' H2 hz=>?_
 · rw [un iv a0 a1 ae] at h2 ⊢
   rw [← e2] at h1 ⊢
   refine ⟨λ h=>?_,λ _=>T8 (P:=some (r2,r4)) (by omega) ⟨λ h=>(nomatch h),λ _=>⟨by decide,λ r5 _ _ _=>?_⟩⟩⟩
   · rw [decide_eq_false h1,decide_eq_false h2] at h
     cases h
   · have y1:1≤r4:=Lq.LQ l4 h2
     have ck:∀ {K:AV→List AO→Prop},(∀ δ' s',Gd c p a b (ω++δ++δ') s'→K (.bool true) s')→ah (U bs) (d+12) (.cst (.ref kD)) [.lst l,.lst i,.lst kl,.int v,.tup [.int r2,.int r4]] σ' K:=λ kK =>
      AZ O C ha G H2 (W.mono δ) (Lq.LQ l2 h1) u2 y1 u4 (λ g hg=>⟨V,(G.eq C ((Lx G.n1 hg e4 so (by rw [Int.mul_comm]; exact G.ov y1 u4)).trans rfl)).trans eV,e2.symm⟩) kK
     have nx:∀ δ' s',Gd c p a b (ω++δ++δ') s'→I (k+1) s':=λ δ' s' H'=>q (δ++δ') s' (by rw [List.append_assoc] at H'; exact H')
     exact ⟨λ _=>ck λ δ' s' H'=>⟨λ h=>(nomatch h),λ _=>nx δ' s' H'⟩,λ _=>⟨λ _=>ck λ δ' s' H'=>⟨λ h=>(nomatch h),λ _=>nx δ' s' H'⟩,λ _=>q δ σ' H2⟩⟩
 · have hz:r2=0∨r4=0:=by
    rcases hz with h | ⟨iv,a0,a1,ae,h⟩
    · exact .inl (e2.trans h)
    · exact .inr ((un iv a0 a1 ae).symm.trans h)
   refine ⟨λ _=>aA.yO (b:=true) (bZ rfl) ⟨λ h=>(nomatch h),λ _=>q δ σ' H2⟩,λ h=>?_⟩
   rcases hz with e | e
   · rw [decide_eq_true e] at h; cases h
   · rw [decide_eq_true e,Bool.or_true] at h; cases h
inductive O3 (c:Nat) (p a b:Int) (ω:List D) (B:Int×Int) (n:Nat) (x0 x1:Int) (j:Int) (s:List AO):Prop
 | mk (ks:List Nat) (δ:List D) (e:j=ks.length) (h3:ks.length≤3) (H:Gd c p a b (ω++.raw (.lst (ks.map λ k=>.inst ak k)) :: δ) s) (hK:∀ (t k:Nat),ks[t]? = some k→pH c p a (ω++.raw (.lst (ks.map λ k=>.inst ak k)) :: δ) B n (if t<2 then x0 else x1) k):O3 c p a b ω B n x0 x1 j s
theorem O3.push {ks:List Nat} {δ:List D} {s:List AO} {x0 x1:Int} {k M:Nat} (eM:M=ω.length) (h:ks.length<3) (H:Gd c p a b (ω++.raw (.lst (ks.map λ k=>.inst ak k)) :: δ) s) (hK:∀ (t k:Nat),ks[t]? = some k→pH c p a (ω++.raw (.lst (ks.map λ k=>.inst ak k)) :: δ) B n (if t<2 then x0 else x1) k)
 (K:pH c p a (ω++.raw (.lst (ks.map λ k=>.inst ak k)) :: δ) B n (if ks.length<2 then x0 else x1) k):O3 c p a b ω B n x0 x1 ((ks.length:Int)+1) (s.set M (.lst ((ks.map λ k=>.inst ak k)++[.inst ak k]))):=by
 subst eM
 have hM:=kE ω (.raw (.lst (ks.map λ k=>.inst ak k))) δ
 have em:(ks++[k]).map (λ k=>AV.inst ak k)=(ks.map λ k=>.inst ak k)++[.inst ak k]:=by rw [List.map_append]; rfl
 have H2:=H.BY hM ((ks++[k]).map λ k=>.inst ak k)
 have mv:=λ {x:Int} {k':Nat} (h:pH c p a (ω++.raw (.lst (ks.map λ k=>.inst ak k)) :: δ) B n x k')=>h.Lm (E:=.raw (.lst ((ks++[k]).map λ k=>.inst ak k))) hM
 rw [yd] at H2
 simp only [yd] at mv
 rw [← em]
 refine ⟨ks++[k],δ,by rw [List.length_append]; rfl,by rw [List.length_append]; exact h,H2,λ t k' ht=>?_⟩
 rcases Nat.lt_or_ge t ks.length with hl | hl
 · rw [List.getElem?_append_left hl] at ht
   exact mv (hK t k' ht)
 · rw [List.getElem?_append_right hl] at ht
   have hz:t-ks.length<1:=(List.getElem?_eq_some_iff.mp ht).1
   have et:t=ks.length:=Nat.le_antisymm (Nat.le_of_sub_eq_zero (Nat.lt_one_iff.mp hz)) hl
   subst et
   rw [Nat.sub_self] at ht
   cases ht
   exact mv K
end
end
end
noncomputable section
section
variable {bs:Bs} {d:Nat} {σ:List AO} {Q:AV→List AO→Prop}
section
variable {c:Nat} {p a b:Int} {ω:List D} {B:Int×Int} {n:Nat}
theorem at2 (x0 x1:Int):∀ m:Nat,m<3→[AV.int x0,AV.int x1][((m:Int) / 2).toNat]? = some (.int (if m<2 then x0 else x1))
 | 0,_=>rfl
 | 1,_=>rfl
 | 2,_=>rfl
 | m+3,h=>absurd h (Nat.not_lt.mpr (Nat.le_add_left 3 m))
theorem if2 {P:Int→Prop} {x0 x1:Int} (h0:P x0) (h1:P x1) (m:Nat):P (if m<2 then x0 else x1):=by
 split
 · exact h0
 · exact h1
theorem three {l:List Nat} (h:l.length≤3) (g:3≤l.length):∃ k0 k1 k2,l=[k0,k1,k2]:=by
 match l,h,g with
 | [x,y,z],_,_=>exact ⟨x,y,z,rfl⟩
theorem LB (O:(U bs).Ok) (X:x6 (U bs) bK) {sc:Addr} {vs:List Value} {ns:List Int} (h1:(U bs).hb.IsList sc vs.toArray) (h2:IntsAre vs ns) (h3:ns.length≤63) (q:∀ s,Q (.bool true) s):CE (U bs) (d+13) (.cst (.ref CF)) [.cst (.ref sc)] σ Q :=
 (λ k=>CE.of O (T:=T0) (sp:=[749,753,756]) (by kernel_rfl) (by kernel_rfl) λ L=>Eq.mp (α:=(ah (U bs) (d+12) (.cst (.ref 553)) [.cst (.ref sc)] σ λ v s=>dL v λ i=>ah (U bs) (d+12) (.cst (.ref 642)) [.lst i] s λ v1 s1=>aA (U bs) (d+12) .Is v1 .none s1 λ a a1=>dB a λ c=>(c=true→Q (.bool true) a1)∧(c=false→dQ 88 v1 (λ i1 l=>cR l a1 λ xs=>xs.length≤1000000∧ah (U bs) (d+12) (.cst (.ref 560)) [.lst i,.int (((xs.length:Nat):Int)-2)] a1 λ v2 s2=>dI v2 λ i2=>ah (U bs) (d+12) (.cst (.ref 560)) [.lst i,.int (((xs.length:Nat):Int)-2)] s2 λ v3 s3=>dI v3 λ i3=>Builtin.Range.small 0 3 1=true∧∃ I:Int→List AO→Prop,I 0 ((s3++[AO.lst [.int (2+i2),.int (2+i3)]])++[AO.lst []])∧∀ i4:Int,∀ ai:List AO,I i4 ai→(i4<3→((0:Int)<2∧(2:Int)<1073741824)∧pD s3.length (i4 / 2) ai λ x=>dI x λ i5=>ah (U bs) (d+12) (.cst (.ref 656)) [.lst i,.inst 88 i1,.lst l,.int i5,.bool true] ai λ v4 s4=>dO 501 v4 λ i6=>cR (s3++[AO.lst [.int (2+i2),.int (2+i3)]]).length s4 λ tL=>tL.length≤1000000∧I (i4+1) (s4.set (s3++[AO.lst [.int (2+i2),.int (2+i3)]]).length (AO.lst (tL++[.inst 501 i6]))))∧(3≤i4→pD (s3++[AO.lst [.int (2+i2),.int (2+i3)]]).length 0 ai λ x=>dO 501 x λ i5=>pD s3.length 0 ai λ x1=>dI x1 λ i6=>ah (U bs) (d+12) (.cst (.ref 543)) [.inst 501 i5,.int i6] ai λ v4 s4=>dO 543 v4 λ i7=>ah (U bs) (d+12) (.cst (.ref 560)) [.lst i,.int 4] s4 λ v5 s5=>dI v5 λ i8=>Builtin.Range.small 0 (((xs.length:Nat):Int)+i8) 1=true∧∃ I1:Int→List AO→Prop,I1 0 s5∧∀ i9:Int,∀ bC:List AO,I1 i9 bC→(i9<(((xs.length:Nat):Int)+i8)→((decide (((xs.length:Nat):Int)≤i9))=true→ah (U bs) (d+12) (.cst (.ref 670)) [.lst i] bC λ v6 s6=>dI v6 λ Jg=>ah (U bs) (d+12) (.cst (.ref 670)) [.lst i] s6 λ v7 s7=>dI v7 λ QW=>Lz bs d L l s3.length ((s3++[AO.lst [.int (2+i2),.int (2+i3)]]).length) i7 ((xs.length:Nat):Int) Jg QW i9 I1 s7 Q)∧((decide (((xs.length:Nat):Int)≤i9))=false→Lz bs d L l s3.length ((s3++[AO.lst [.int (2+i2),.int (2+i3)]]).length) i7 ((xs.length:Nat):Int) 5 (i9+1) i9 I1 bC Q))∧((((xs.length:Nat):Int)+i8)≤i9→Q (.bool true) bC)))))) (by kernel_rfl) (k L)) (λ L=>by
  refine DE (d:=d+11) O h1 h2 h3 λ i k σ1 S1=>DN (d:=d) O S1 (λ σ'=>aA.isNone (b:=true) (bZ rfl) ⟨λ _=>q _,λ h=>(nomatch h)⟩) λ p a b c l ω B n σ2 C ha G H hs hk hl=>aA.isNone (b:=false) (bZ rfl) ⟨λ h=>(nomatch h),λ _=>⟨_,_,rfl,_,H.raw hl,by rw [cZ]; exact Lq.qy G.nb (by decide),?_⟩⟩
  rw [cZ]
  have n5:=G.n5
  have nk:=G.nk
  have t0:(0:Int)<n-2:=Lq.sl (by decide) (Lq.dl 2 n5)
  have t1:(n:Int)-2≤1000000000:=Lq.ll (Lq.sp _ (by decide)) (Lq.ll nk (by decide))
  refine pe (d:=d+11) O H hs hk t0 t1 λ x0 σ3 H3 a0 b0=>pe (d:=d+11) O H3 hs hk t0 t1 λ x1 σ4 H4 a1 b1=>?_
  show _∧_
  have c0:1≤2+x0:=Lq.ll (by decide) (Lq.bl 2 a0)
  have c1:1≤2+x1:=Lq.ll (by decide) (Lq.bl 2 a1)
  have d0:2+x0<n:=Int.add_comm 2 x0▸Int.lt_sub_right_iff_add_lt.mp b0
  have d1:2+x1<n:=Int.add_comm 2 x1▸Int.lt_sub_right_iff_add_lt.mp b1
  generalize 2+x0=x0 at c0 d0 ⊢
  generalize 2+x1=x1 at c1 d1 ⊢
  have e4:=H4.len
  have H5:=H4.kU (.lst [.int x0,.int x1])
  have LP:=tV ω (.raw (.lst [.int x0,.int x1]))
  have PI:=au hs [D.raw (.lst [.int x0,.int x1])]
  have PJ:=au hk [D.raw (.lst [.int x0,.int x1])]
  have PK:=au hl [D.raw (.lst [.int x0,.int x1])]
  rw [← e4] at LP
  have e5:=H5.len
  clear H H3 H4 hs hk hl
  generalize ω++[D.raw (.lst [.int x0,.int x1])]=ω5 at H5 LP PI PJ PK e5
  generalize σ4++[AO.lst [.int x0,.int x1]]=σ5 at H5 e5 ⊢
  generalize σ4.length=ix at LP ⊢
  clear e4 S1 a0 b0 a1 b1
  refine ⟨sN (by decide) (by decide),O3 c p a b ω5 B n x0 x1,⟨[],[],rfl,Nat.zero_le 3,H5.kU (.lst []),λ t k h=>nomatch h⟩,λ j s hI=>?_⟩
  obtain ⟨ks,δ,rfl,Sz,H6,hK⟩:=hI
  refine ⟨λ hj=>?_,λ hj=>?_⟩
  · have hj:ks.length<3:=Lq.SE hj
    refine ⟨⟨by decide,by decide⟩,_,_,H6.raw (au LP _),Int.ediv_nonneg (Lq.z _) (by decide),Int.ediv_lt_of_lt_mul (by decide) (Lq.sl (Lq.cs hj) (by decide)),at2 x0 x1 ks.length hj,HW (d:=d) O C ha G H6 (au PI _) (au PJ _) (au PK _) rfl (if2 (P:=λ x=>1≤x) c0 c1 _) (if2 (P:=λ x=>x<n) d0 d1 _) λ δ' s' k' H' K=>⟨rfl,?_⟩⟩
    have hK:=λ t k h=>(hK t k h).mono δ'
    rw [List.append_assoc,List.cons_append] at H' K hK
    exact ⟨_,H'.raw (e5▸kE ω5 _ _),by rw [List.length_map]; exact Lq.qy Sz (by decide),O3.push e5 hj H' hK K⟩
  · have hj:3≤ks.length:=Lq.Jk hj
    obtain ⟨k0,k1,k2,rfl⟩:=three Sz hj
    have hL:=kE ω5 (.raw (.lst ([k0,k1,k2].map λ k=>AV.inst ak k))) δ
    rw [← e5] at hL
    have W:LO c p a (ω5++.raw (.lst ([k0,k1,k2].map λ k=>AV.inst ak k)) :: δ) B n l ix σ5.length x0 x1 k0 k1 k2:=⟨au PK _,au LP _,hL,hK 0 k0 rfl,hK 1 k1 rfl,hK 2 k2 rfl,G.small (Lq.ll (by decide) c0) d0,G.small (Lq.ll (by decide) c1) d1⟩
    have Q5:=au PI (.raw (.lst ([k0,k1,k2].map λ k=>AV.inst ak k)) :: δ)
    have Q6:=au PJ (.raw (.lst ([k0,k1,k2].map λ k=>AV.inst ak k)) :: δ)
    clear hL hK PI PJ PK LP H5 e5
    generalize ω5++.raw (.lst ([k0,k1,k2].map λ k=>AV.inst ak k)) :: δ=ω6 at H6 W Q5 Q6
    generalize σ5.length=kl at W ⊢
    refine ⟨_,_,H6.raw W.kl,by decide,by decide,rfl,rfl,_,_,H6.raw W.ix,by decide,by decide,rfl,QX (d:=d+10) O ⟨rfl,?_⟩⟩
    rw [H6.len]
    have H7:=H6.kU (.inst (DG k0 x0))
    have W7:=W.mono [.raw (.inst (DG k0 x0))]
    have hp:=tV ω6 (.raw (.inst (DG k0 x0)))
    have Q7:=au Q5 [.raw (.inst (DG k0 x0))]
    have Q8:=au Q6 [.raw (.inst (DG k0 x0))]
    clear H6 W Q5 Q6
    generalize ω6++[.raw (.inst (DG k0 x0))]=ω7 at H7 W7 hp Q7 Q8
    generalize ω6.length=pr at hp ⊢
    refine pe (d:=d+11) O H7 Q7 Q8 (by decide) (by decide) λ x σ8 H8 v0 v1=>⟨sN (Int.add_nonneg (Lq.z _) v0) (Lq.ll (Int.add_le_add nk (Lq.w v1)) (by decide)),λ _ s=>∃ δ,Gd c p a b (ω7++δ) s,⟨[],by rw [List.append_nil]; exact H8⟩,λ j s hI=>?_⟩
    obtain ⟨δ,H9⟩:=hI
    have W9:=W7.mono δ
    have hp:=au hp δ
    have SA:=au Q7 δ
    have SD:=au Q8 δ
    have nx:∀ δ' s',Gd c p a b (ω7++δ++δ') s'→∃ δ,Gd c p a b (ω7++δ) s':=λ δ' s' H'=>⟨δ++δ',by rw [List.append_assoc] at H'; exact H'⟩
    exact ⟨λ _=>⟨λ _=>CO (d:=d+10) O H9 SA SD λ v σa Ha _=>CO (d:=d+10) O Ha SA SD λ m σb Hb _=>FT O X C ha G Hb W9 hp nx,λ _=>FT O X C ha G H9 W9 hp nx⟩,λ _=>q _⟩)
end
end
end
end JL
namespace JL
open PySem PySem.W PySem.Calls PyProof.Rows
set_option maxHeartbeats 0
noncomputable section
noncomputable abbrev Q9 (w:PySem.World) (hb:Heap) (mg mb:Str→Option Value) (hid:List Addr):Wl:=⟨pw,w,K0 w.params,hb,mg,mb,hid,I9⟩
theorem LC {w:PySem.World} {hb:Heap} {mg:Str→Option Value} (KX:(K0 w.params).In hb) (g:hb.Ns mainGlobals mg):mg (Str.ofString "law")=some (.ref CF):=mg_of KX g (by kernel_rfl)
theorem HZ {a b:Addr} (h:some (Value.ref a)=some (.ref b)):a=b:=by injection h with h; injection h
theorem LD (args:List WData):PySem.Challenge.rw_xx0001_12.row.claim.post args (.bool true) args=true:=by kernel_rfl
theorem FU (args:List WData) (c:ExcName):PySem.Challenge.rw_xx0001_12.row.claim.raises args c=false:=by kernel_rfl
theorem LF {cl:Str→Option Addr} {mean:ExcName→Option Value} {args:List WData} {s s':Shared} (k:∀ b o,s.heap.get? b=some o→s'.heap.get? b=some o) (ho:s'.os=s.os) (hg:s'.gens=#[]) :
 GoodWG PySem.Challenge.rw_xx0001_12.row.claim cl mean args s (.ok (.ret (.bool true))) s' :=
 GoodW.toG ⟨.inl ⟨_,.bool true,[],rfl,FU args,.bool true,LD args,λ _=>⟨List.nodup_nil,λ _ h=>nomatch h⟩⟩,k,ho,hg⟩
theorem O4:PySem.Challenge.rw_xx0001_12.Holds:=JM λ w bE q6 mg mb G Y fa o pm cd doc dV kV ho hd hcd hD hmg hg args vals as hpre hlay hrd hwl hlo=>by
 have KX:=kIn_of Y
 wrow_args hpre hlay hrd hwl hlo
 have O:(Q9 w q6.heap mg mb []).Ok:=⟨KX,G.T.g,G.T.b,G.T.builtins,G.T.nolimit,λ _ h=>nomatch h⟩
 have X:x6 (Q9 w q6.heap mg mb []) bK:=by
  obtain ⟨bm,N,nm,q,bs,hdct,sn,sub,ab,col,dd,k0,k1,k2,k3,k5,mN,hC,hN,hni,TL⟩:=(own_of_in (x := "RSZeroError") (C:=bK) (bmB:=[.type "RuntimeError",.type "Exception",.type "BaseException",.type "object"]) (newId := "RuntimeError.__new__") KX (topRead_of G.T) (by kernel_rfl) (by kernel_rfl)).obj
  exact ⟨PySem.F.excBase_RuntimeError,by decide +kernel,PySem.F.excBase_RuntimeError,TL.hasType (by decide +kernel),hni,hC,hN,TL⟩
 have Qu:fa=CF:=HZ ((show mg (Str.ofString "law")=some (.ref fa) from hmg).symm.trans (LC KX G.T.g))
 subst Qu
 rename_i hL _ _ _ hI _ hn _
 have R:aL (Q9 w q6.heap mg mb []) [] [] q6.heap:=⟨λ _ _ e=>e,(λ _ h=>nomatch h),rfl,List.nodup_nil,(λ _ h=>nomatch h),(λ n o e=>by cases e),λ _ h=>nomatch h⟩
 refine enter_call (codeAny_mono (LB (bs:=⟨w,q6.heap,mg,mb,[]⟩) (d:=28) (Q:=λ v _=>v=.bool true) O X (sc:=_) hL hI (by omega) (λ _=>rfl) callerA q6 [] _ _ ⟨rfl,by decide +kernel,by decide +kernel⟩ rfl R (.cst _) (.cons (.cst _) .nil)) λ r s' z=>?_)
 cases r with
 | error e=>exact z.elim
 | ok f=>cases f with
  | ret v =>
   obtain ⟨h',tk',δ,σ',e,p,f,R',av,xK,rfl⟩:=z
   subst e
   cases xK
   exact LF R'.base rfl hg
  | _=>exact z.elim
end
end JL
theorem PySem.Challenge.cw_xx0001_12_holds : PySem.Challenge.rw_xx0001_12.Holds :=
 JL.O4
