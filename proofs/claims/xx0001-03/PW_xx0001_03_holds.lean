import PyProof.Rows.All
import Wide.All
import OpenK.AllK
import Open.Pieces
import Wide.FinOn
import KE.KRevIter
import KE.KOpsOwn
import KE.LcSums
import KE.KNest
import KE.KNestM
import PySem.Challenge.RW_xx0001_03
set_option Elab.async false
set_option genInjectivity false
set_option bootstrap.genMatcherCode false
set_option genSizeOf false
set_option compiler.extract_closed false
set_option tactic.hygienic false
set_option maxRecDepth 100000
set_option linter.unusedVariables false
namespace JL
open PySem.W
noncomputable def wsR (l:OpenLaw):{f:Bool→Bool//l.wellSaid=f l.row.wellSaid}:=by apply Subtype.mk;delta OpenLaw.wellSaid;generalize l.row.wellSaid=b;exact rfl
theorem wsB:PySem.Challenge.rw_xx0001_03.row.wellSaid=true:=by kernel_rfl
theorem wsE:(wsR PySem.Challenge.rw_xx0001_03).1 true=true:=by kernel_rfl
theorem wsA:PySem.Challenge.rw_xx0001_03.wellSaid=true:=(wsR _).2.trans ((congrArg (wsR _).1 wsB).trans wsE)
end JL
namespace Lq
theorem ll {a b c:Int} (h:a≤b) (k:b≤c):a≤c:=Int.le_trans h k
theorem sl {a b c:Int} (h:a<b) (k:b≤c):a<c:=Int.lt_of_lt_of_le h k
theorem ls {a b c:Int} (h:a≤b) (k:b<c):a<c:=Int.lt_of_le_of_lt h k
theorem ss {a b c:Int} (h:a<b) (k:b<c):a<c:=Int.lt_trans h k
theorem w {a b:Int} (h:a<b):a≤b:=Int.le_of_lt h
theorem n {a b:Int} (h:¬ a<b):b≤a:=Int.not_lt.mp h
theorem m {a b:Int} (h:¬ a≤b):b<a:=Int.not_le.mp h
theorem bZ {a b c:Nat} (h:a≤b) (k:b≤c):a≤c:=Nat.le_trans h k
theorem xH {a b c:Nat} (h:a<b) (k:b≤c):a<c:=Nat.lt_of_lt_of_le h k
theorem Pe {a b c:Nat} (h:a≤b) (k:b<c):a<c:=Nat.lt_of_le_of_lt h k
theorem nss {a b c:Nat} (h:a<b) (k:b<c):a<c:=Nat.lt_trans h k
theorem nw {a b:Nat} (h:a<b):a≤b:=Nat.le_of_lt h
theorem nn {a b:Nat} (h:¬ a<b):b≤a:=Nat.not_lt.mp h
theorem nm {a b:Nat} (h:¬ a≤b):b<a:=Nat.not_le.mp h
theorem cl {a b:Nat} (h:a≤b):(a:Int)≤(b:Int):=Int.ofNat_le.mpr h
theorem cs {a b:Nat} (h:a<b):(a:Int)<(b:Int):=Int.ofNat_lt.mpr h
theorem ul {a b:Nat} (h:(a:Int)≤(b:Int)):a≤b:=Int.ofNat_le.mp h
theorem us {a b:Nat} (h:(a:Int)<(b:Int)):a<b:=Int.ofNat_lt.mp h
theorem IG {a b:Nat} (h:@OfNat.ofNat Int a (@instOfNat a)≤(b:Int)):a≤b:=Int.ofNat_le.mp h
theorem II {a b:Nat} (h:(a:Int)≤@OfNat.ofNat Int b (@instOfNat b)):a≤b:=Int.ofNat_le.mp h
theorem Pf {a b:Nat} (h:(a:Int) < @OfNat.ofNat Int b (@instOfNat b)):a<b:=Int.ofNat_lt.mp h
theorem z (a:Nat):(0:Int)≤(a:Int):=Int.natCast_nonneg a
theorem nab {q:Int} {n:Nat} (h:q≤n) (k:-q≤n):q.natAbs≤n:=by
 rcases Int.natAbs_eq q with e | e<;>rw [e] at h k<;>first | exact Int.ofNat_le.mp h | (rw [Int.neg_neg] at k; exact Int.ofNat_le.mp k)
theorem ab {r:Int} {k:Nat} (h:0≤r) (g:r≤(k:Int)):r.natAbs≤k:=Int.ofNat_le.mp (Int.ofNat_natAbs_of_nonneg h▸g)
theorem ts {r:Int} {k:Nat} (h:0≤r) (g:r<(k:Int)):r.toNat<k:=(Int.toNat_lt h).mpr g
theorem al {a b:Int} (c:Int) (h:a≤b):a+c≤b+c:=Int.add_le_add_right h c
theorem as {a b:Int} (c:Int) (h:a<b):a+c<b+c:=Int.add_lt_add_right h c
theorem bl {a b:Int} (c:Int) (h:a≤b):c+a≤c+b:=Int.add_le_add_left h c
theorem bs {a b:Int} (c:Int) (h:a<b):c+a<c+b:=Int.add_lt_add_left h c
theorem dl {a b:Int} (c:Int) (h:a≤b):a-c≤b-c:=Int.sub_le_sub_right h c
theorem OS {a b:Nat} (c:Nat) (h:a≤b):a+c≤b+c:=Nat.add_le_add_right h c
theorem r {a:Int} (c:Int) (h:0≤c):a≤a+c:=Int.le_add_of_nonneg_right h
theorem rs {a:Int} (c:Int) (h:0<c):a<a+c:=Int.lt_add_of_pos_right a h
theorem s0 {a b:Int} (h:b≤a):0≤a-b:=Int.sub_nonneg_of_le h
theorem s1 {a b:Int} (h:b<a):0<a-b:=Int.sub_pos_of_lt h
theorem sp (a:Int) {c:Int} (h:0≤c):a-c≤a:=Int.sub_le_self a h
theorem sq (a:Int) {c:Int} (h:0<c):a-c<a:=Int.sub_lt_self a h
theorem pl {a b:Int} (h:a<b+1):a≤b:=Int.le_of_lt_add_one h
theorem nr (a c:Nat):a≤a+c:=Nat.le_add_right a c
theorem Lj {a c:Nat} (h:0<c):a<a+c:=Nat.lt_add_of_pos_right h
theorem Pg {a b:Nat} (h:a<b+1):a≤b:=Nat.le_of_lt_succ h
theorem Ph {a b:Int} (h:a≤b) (k:¬ a=b):a<b:=Int.lt_iff_le_and_ne.mpr ⟨h,k⟩
theorem Rh {a b:Int} (h:a≤b) (k:¬ b=a):a<b:=Int.lt_iff_le_and_ne.mpr ⟨h,λ e=>k e.symm⟩
theorem Pj {a b:Nat} (h:a≤b) (k:¬ a=b):a<b:=Nat.lt_of_le_of_ne h k
theorem Pk {a b:Nat} (h:a≤b) (k:¬ b=a):a<b:=Nat.lt_of_le_of_ne h λ e=>k e.symm
theorem e {a b:Int} (h:a≤b) (k:b≤a):a=b:=Int.le_antisymm h k
theorem ne {a b:Nat} (h:a≤b) (k:b≤a):a=b:=Nat.le_antisymm h k
theorem y {a b:Int} (h:b<a):¬ a=b:=Int.ne_of_gt h
theorem nx {a b:Nat} (h:a<b):¬ a=b:=Nat.ne_of_lt h
theorem ny {a b:Nat} (h:b<a):¬ a=b:=Nat.ne_of_gt h
theorem f {a b:Int} (h:a<b) (k:b≤a):False:=Int.not_lt.mpr k h
theorem tt {a b:Int} (h:a<b) (k:0<b):a.toNat<b.toNat:=(Int.toNat_lt_toNat k).mpr h
theorem hv {a:Int} (h:0<a):(a / 2).toNat<a.toNat:=tt (Int.ediv_lt_of_lt_mul (by decide) (Int.mul_comm 2 a▸Int.two_mul a▸Int.lt_add_of_pos_right a h)) h
theorem sh {n i l:Nat} (h:n+i=l) (k:i<l):n-1+(i+1)=l:=by
 cases n with
 | zero=>exact absurd (Nat.zero_add i▸h) (Nat.ne_of_lt k)
 | succ n=>rw [Nat.add_sub_cancel,← h,Nat.succ_add,Nat.add_succ]
theorem nz {n l:Nat} (h:¬ n<l) (k:n-l=0):n=l:=Nat.le_antisymm (Nat.le_of_sub_eq_zero k) (Nat.not_lt.mp h)
theorem st {a b:Nat} (h:a≤b):((b:Int)-(a:Int)).toNat+a=b:=by rw [Int.toNat_sub]; exact Nat.sub_add_cancel h
theorem s5 {n i:Nat} (h:i<n):n-(i+1)<n-i:=Nat.sub_lt_sub_left h (Nat.lt_succ_self i)
theorem s6 {n i k:Nat} (e:k=n-i) (h:i<n):n-(i+1)<k:=e▸s5 h
theorem s7 {n i:Nat} (h:i<n):n-1-i<n:=Nat.lt_of_le_of_lt (Nat.sub_le _ _) (Nat.sub_lt (Nat.lt_of_le_of_lt (Nat.zero_le i) h) Nat.one_pos)
theorem s8 {n i:Nat} (h:i<n):n-i=n-1-i+1:=by rw [Nat.sub_right_comm,Nat.sub_add_cancel (Nat.sub_pos_of_lt h)]
theorem dn {y d:Int} (e:y=d) (h:d=0∨d=1∨d=-1) (n:decide (y<0)=true):y=-1:=by
 subst e
 rcases h with e | e | e
 · rw [e] at n; exact absurd n (by decide)
 · rw [e] at n; exact absurd n (by decide)
 · exact e
theorem dp {y d:Int} (e:y=d) (h:d=0∨d=1∨d=-1) (n:decide (0<y)=true):y=1:=by
 subst e
 rcases h with e | e | e
 · rw [e] at n; exact absurd n (by decide)
 · exact e
 · rw [e] at n; exact absurd n (by decide)
end Lq
namespace JL
open PySem PySem.W PySem.Calls PyProof.Rows
set_option maxHeartbeats 0
noncomputable section
noncomputable abbrev pw:PySem.Program:=PySem.Challenge.pw_xx0001_03
noncomputable abbrev S (x:String):PySem.Str:=PySem.Str.ofString x
noncomputable abbrev N (o:PySem.Obj) (l r:BT):BT:=BT.node o l r
noncomputable abbrev L:BT:=BT.nil
noncomputable def cK:List PySem.Stmt:=behindTheImports pw
noncomputable def Fv:Nat→List PySem.Stmt→PySem.Stmt
 | 0,s :: _=>s
 | n+1,_ :: r=>Fv n r
 | _,[]=>.Pass default
noncomputable def inner:PySem.Stmt→List PySem.Stmt
 | .ClassDef _ _ _ b _ _ _ _ _ _ _=>b
 | .FunctionDef _ _ b _ _ _ _ _ _ _=>b
 | _=>[]
noncomputable def AP:PySem.Stmt→PySem.Arguments
 | .FunctionDef _ a _ _ _ _ _ _ _ _=>a
 | _=>default
noncomputable def xJ:PySem.Stmt→PySem.Scope
 | .FunctionDef _ _ _ _ _ _ s _ _ _=>s
 | _=>default
noncomputable def BK:List Nat→List PySem.Stmt→PySem.Stmt
 | [i],b=>Fv i b
 | i :: r,b=>BK r (inner (Fv i b))
 | [],_=>.Pass default
noncomputable def yS (a n:Nat) (l:List PySem.Stmt):List PySem.Stmt:=(l.drop a).take n
noncomputable def zI (i:Int):Value:=.int i (nat_lit 0)
noncomputable def sT (s:String) (n:Nat):Value:=.str (S s) n
noncomputable def rF (n:Nat):Value:=.ref n
noncomputable def kH (P:Params) (s:String):=PyData.keyHash P (S s)
noncomputable def b8 (l:List Value):Obj:=⟨.type "tuple",none,.seq l.toArray (nat_lit 0),#[]⟩
noncomputable def oT:Obj:=b8 []
noncomputable def oC:Obj:=⟨.none,none,.fields #[],#[]⟩
noncomputable def cX (a:String) (i:Nat) (b:String) (j:Nat) (c:String) (k:Nat) (x1 x2 x3 x4 x5:Int) (r:Nat) (f:Int) (r2 r3 r4 r5:Nat) (y1 y2:Int) (e:String) (l:Nat):Obj:=⟨.type "code",none,.fields #[sT a i,sT b j,sT c k,zI x1,zI x2,zI x3,zI x4,zI x5,rF r,.bool true,zI f,rF r2,.none,rF r3,rF r4,rF r5,zI y1,zI y2,sT e l],#[]⟩
noncomputable def cP (a b:String) (p:List Nat):Obj:=⟨.none,none,.func (.mk (S a) (S b) (AP (BK p cK)) (.stmts (inner (BK p cK))) (xJ (BK p cK)) (nat_lit 0) [] .none .none .none .none none .none .none (nat_lit 0)),#[]⟩
noncomputable def cV (a b:String) (p:List Nat) (n:Nat) (v:Value) (c:String) (i r:Nat):Obj:=⟨.type "function",none,.func (.mk (S a) (S b) (AP (BK p cK)) (.stmts (inner (BK p cK))) (xJ (BK p cK)) n [] v .none .none (sT c i) none (rF r) .none (nat_lit 0)),#[]⟩
noncomputable def mH:Obj:=⟨.type "code",none,.fields #[sT "<module>" 182,sT "<module>" 183,sT "/claim/cut.py" 184,zI 1,zI 0,zI 0,zI 0,zI 0,rF 11,.bool false,zI 181,rF 12,.none,.none,.none,.none,zI 185,zI 1,sT "/claim/cut.py" 186],#[]⟩
noncomputable def mJ:Obj:=⟨.type "frame",none,.plain,#[some (rF 13),some (rF 3),some (rF 3),none,some (sT "__main__" 164),none,some (rF 0)]⟩
noncomputable def Lk (P:Params):PySem.Heap:=⟨⟨[boot_o_0 P,boot_o_1 P,boot_o_2 P,boot_o_3 P,boot_o_4 P,boot_o_5 P,boot_o_6 P,boot_o_7 P,boot_o_8 P,boot_o_9 P,boot_o_10 P,oT,oC,mH,mJ]⟩,(@PySem.Life.mk (@List.nil @Nat) (@List.nil @Nat) (@List.nil @Nat) (nat_lit 0) (@List.nil (@Prod @Nat @Nat)) (@List.nil @Nat) @Bool.false (@List.toArray @Nat (@List.nil @Nat)) (@List.nil @Nat) (nat_lit 0) @Bool.false @Bool.false @Bool.false (0:Int) (@List.cons @Int (2000:Int) (@List.cons @Int (10:Int) (@List.cons @Int (10:Int) (@List.nil @Int)))) @Bool.false (nat_lit 0) @Bool.true (@List.nil @Nat) (@List.nil @Nat) (nat_lit 0) @Bool.false)⟩
noncomputable def uh:PySem.Env:={ scope:=pw.main.scope,locals:=mainNs,globals:=mainNs,cells:=[],code:=(.ref (nat_lit 13)),frame:=some (nat_lit 14) }
noncomputable def cW:PySem.Code:=.body cK uh
noncomputable def q0:PySem.Pos:=(@PySem.Pos.mk (nat_lit 0) (nat_lit 0) (nat_lit 0) (nat_lit 0))
noncomputable def Ll:PySem.Pos:=(@PySem.Pos.mk (nat_lit 0) (nat_lit 0) (nat_lit 0) (nat_lit 0))
noncomputable def m0:Nat:=nat_lit 11
noncomputable def qX:Option PySem.Value:=(@Option.some @PySem.Value (.ref (nat_lit 6)))
noncomputable def Ri (w:World) (os:OsState):PySem.Shared:=⟨Lk w.params,#[],(@PySem.Drawn.mk (nat_lit 0) (nat_lit 0) (nat_lit 0) (nat_lit 0)),nat_lit 187,os⟩
noncomputable def Lm (P:Params):BT:=(N (boot_o_0 P) (N (boot_o_1 P) (N (boot_o_3 P) (N (boot_o_7 P) L L) (N oT L L)) (N (boot_o_5 P) (N (boot_o_9 P) L L) (N mH L L))) (N (boot_o_2 P) (N (boot_o_4 P) (N (boot_o_8 P) L L) (N oC L L)) (N (boot_o_6 P) (N (boot_o_10 P) L L) (N mJ L L))))
noncomputable def Pn (w:World) (os:OsState):SharedT:=⟨Lm w.params,nat_lit 15,(@PySem.Life.mk (@List.nil @Nat) (@List.nil @Nat) (@List.nil @Nat) (nat_lit 0) (@List.nil (@Prod @Nat @Nat)) (@List.nil @Nat) @Bool.false (@List.toArray @Nat (@List.nil @Nat)) (@List.nil @Nat) (nat_lit 0) @Bool.false @Bool.false @Bool.false (0:Int) (@List.cons @Int (2000:Int) (@List.cons @Int (10:Int) (@List.cons @Int (10:Int) (@List.nil @Int)))) @Bool.false (nat_lit 0) @Bool.true (@List.nil @Nat) (@List.nil @Nat) (nat_lit 0) @Bool.false),#[],(@PySem.Drawn.mk (nat_lit 0) (nat_lit 0) (nat_lit 0) (nat_lit 0)),nat_lit 187,os⟩
noncomputable def IJ:PySem.Pos:=(@PySem.Pos.mk (nat_lit 0) (nat_lit 0) (nat_lit 0) (nat_lit 0))
theorem Po (w:World) (os:OsState):topGo treeTable pw w m0 qX (nat_lit 12) ⟨boot_heap w.params,#[],boot_drawn,boot_toks,os⟩ (topStub pw)=some (Ri w os,⟨denote treeTable cW,cW,Ll,[topFrame q0]⟩):=by kernel_rfl
theorem IK (w:World) (os:OsState):segRun treeTable pw w m0 qX 1 (nat_lit 1) (Ri w os) (blockOf cK uh cW Ll [topFrame q0])=some (.next,(Pn w os).abs,cW,IJ):=by kernel_rfl
noncomputable def Pp (P:Params):Obj:=⟨.type "dict",none,.dict #[⟨kH P "__name__",sT "__name__" 165,sT "ecdsa.ellipticcurve" 202⟩,⟨kH P "__doc__",sT "__doc__" 166,.none⟩,⟨kH P "__package__",sT "__package__" 167,.none⟩,⟨kH P "__loader__",sT "__loader__" 168,.builtin "__main__.__loader__#opaque"⟩,⟨kH P "__spec__",sT "__spec__" 169,.none⟩,⟨kH P "__annotations__",sT "__annotations__" 170,rF 6⟩,⟨kH P "__builtins__",sT "__builtins__" 171,rF 4⟩,⟨kH P "__file__",sT "__file__" 173,sT "/claim/cut.py" 172⟩,⟨kH P "__cached__",sT "__cached__" 174,.none⟩,⟨kH P "inverse_mod",sT "inverse_mod" 201,rF 21⟩] 10,#[]⟩
noncomputable def Ln:Obj:=⟨.none,none,.fields #[zI 2,zI 0,rF 20],#[]⟩
noncomputable def qY:Obj:=b8 [sT "number" 192,sT "modulus" 193,sT "found" 194,sT "before" 195,sT "rest" 196,sT "divisor" 197,sT "share" 198]
noncomputable def lH:Obj:=cP "inverse_mod" "inverse_mod" [1]
noncomputable def lI:Obj:=cX "inverse_mod" 189 "inverse_mod" 190 "/claim/cut.py" 191 2 2 0 0 3 15 181 16 17 18 19 199 2 "/claim/cut.py" 200
noncomputable def lJ:Obj:=cV "inverse_mod" "inverse_mod" [1] 3 .none "ecdsa.modular" 187 20
noncomputable def Lo (P:Params):BT:=(N (boot_o_0 P) (N (boot_o_1 P) (N (Pp P) (N (boot_o_7 P) (N oT L L) L) (N oT (N lH L L) L)) (N (boot_o_5 P) (N (boot_o_9 P) (N qY L L) L) (N mH (N lJ L L) L))) (N (boot_o_2 P) (N (boot_o_4 P) (N (boot_o_8 P) (N oC L L) L) (N Ln (N lI L L) L)) (N (boot_o_6 P) (N (boot_o_10 P) (N oT L L) L) (N mJ L L))))
noncomputable def st1 (w:World) (os:OsState):SharedT:=⟨Lo w.params,nat_lit 22,(@PySem.Life.mk (@List.nil @Nat) (@List.nil @Nat) (@List.nil @Nat) (nat_lit 0) (@List.nil (@Prod @Nat @Nat)) (@List.nil @Nat) @Bool.false (@List.toArray @Nat (@List.nil @Nat)) (@List.nil @Nat) (nat_lit 0) @Bool.false @Bool.false @Bool.false (0:Int) (@List.cons @Int (2000:Int) (@List.cons @Int (10:Int) (@List.cons @Int (10:Int) (@List.nil @Int)))) @Bool.false (nat_lit 0) @Bool.true (@List.nil @Nat) (@List.nil @Nat) (nat_lit 0) @Bool.false),#[],(@PySem.Drawn.mk (nat_lit 0) (nat_lit 0) (nat_lit 0) (nat_lit 0)),nat_lit 204,os⟩
noncomputable def pos1:PySem.Pos:=(@PySem.Pos.mk (nat_lit 14) (nat_lit 0) (nat_lit 14) (nat_lit 8))
noncomputable def IL:List PySem.Stmt:=yS (nat_lit 0) (nat_lit 3) cK
theorem IM (w:World) (os:OsState):segRunT treeTable pw w m0 qX 1 (nat_lit 54) (Pn w os) (piecesOf IL uh cW IJ [topFrame q0])=some (.next,st1 w os,cW,pos1):=by kernel_rfl
noncomputable def Lp (P:Params):Obj:=⟨.type "dict",none,.dict #[⟨kH P "__name__",sT "__name__" 165,sT "ecdsa.ellipticcurve" 202⟩,⟨kH P "__doc__",sT "__doc__" 166,.none⟩,⟨kH P "__package__",sT "__package__" 167,.none⟩,⟨kH P "__loader__",sT "__loader__" 168,.builtin "__main__.__loader__#opaque"⟩,⟨kH P "__spec__",sT "__spec__" 169,.none⟩,⟨kH P "__annotations__",sT "__annotations__" 170,rF 6⟩,⟨kH P "__builtins__",sT "__builtins__" 171,rF 4⟩,⟨kH P "__file__",sT "__file__" 173,sT "/claim/cut.py" 172⟩,⟨kH P "__cached__",sT "__cached__" 174,.none⟩,⟨kH P "inverse_mod",sT "inverse_mod" 201,rF 21⟩,⟨kH P "CurveFp",sT "CurveFp" 293,rF 88⟩] 11,#[]⟩
noncomputable def IP:Obj:=⟨.none,none,.fields #[zI 2,zI 0,rF 20,zI 15,zI 0,rF 27],#[]⟩
noncomputable def mK:Obj:=b8 [.type "object"]
noncomputable def mL:Obj:=⟨.type "builtin_function_or_method",none,.fields #[.builtin "type.__prepare__",.type "type"],#[]⟩
noncomputable def mO (P:Params):Obj:=⟨.type "dict",none,.dict #[⟨kH P "__module__",sT "__module__" 211,sT "ecdsa.ellipticcurve" 202⟩,⟨kH P "__qualname__",sT "__qualname__" 213,sT "CurveFp" 212⟩,⟨kH P "__firstlineno__",sT "__firstlineno__" 215,.int 15 214⟩,⟨kH P "__init__",sT "__init__" 226,rF 36⟩,⟨kH P "__eq__",sT "__eq__" 235,rF 43⟩,⟨kH P "__ne__",sT "__ne__" 243,rF 50⟩,⟨kH P "p",sT "p" 250,rF 57⟩,⟨kH P "a",sT "a" 257,rF 64⟩,⟨kH P "b",sT "b" 264,rF 71⟩,⟨kH P "cofactor",sT "cofactor" 271,rF 78⟩,⟨kH P "contains_point",sT "contains_point" 280,rF 85⟩,⟨kH P "__static_attributes__",sT "__static_attributes__" 285,rF 86⟩] 12,#[]⟩
noncomputable def mP:Obj:=⟨.none,none,.fields #[zI 17,zI 4,rF 35,zI 23,zI 4,rF 42,zI 29,zI 4,rF 49,zI 32,zI 4,rF 56,zI 35,zI 4,rF 63,zI 38,zI 4,rF 70,zI 41,zI 4,rF 77,zI 44,zI 4,rF 84],#[]⟩
noncomputable def mQ:Obj:=⟨.type "code",none,.fields #[sT "CurveFp" 206,sT "CurveFp" 207,sT "/claim/cut.py" 208,zI 15,zI 0,zI 0,zI 0,zI 0,rF 25,.bool false,zI 181,rF 26,.none,.none,.none,.none,zI 209,zI 15,sT "/claim/cut.py" 210],#[]⟩
noncomputable def mR:Obj:=⟨.type "frame",none,.plain,#[some (rF 27),some (rF 3),some (rF 24),none,some (sT "ecdsa.ellipticcurve" 202),none,some (rF 0)]⟩
noncomputable def mS:Obj:=b8 [.none]
noncomputable def mT:Obj:=b8 [sT "self" 219,sT "p" 220,sT "a" 221,sT "b" 222,sT "h" 223]
noncomputable def mU:Obj:=cP "__init__" "CurveFp.__init__" [3,0]
noncomputable def mV:Obj:=cX "__init__" 216 "CurveFp.__init__" 217 "/claim/cut.py" 218 17 5 0 0 3 30 181 31 32 33 34 224 17 "/claim/cut.py" 225
noncomputable def mW:Obj:=cV "__init__" "CurveFp.__init__" [3,0] 3 (rF 29) "ecdsa.ellipticcurve" 202 35
noncomputable def mX:Obj:=b8 [sT "self" 230,sT "other" 231,sT "p" 232]
noncomputable def mY:Obj:=cP "__eq__" "CurveFp.__eq__" [3,1]
noncomputable def mZ:Obj:=cX "__eq__" 227 "CurveFp.__eq__" 228 "/claim/cut.py" 229 23 2 0 0 3 37 181 38 39 40 41 233 23 "/claim/cut.py" 234
noncomputable def m5:Obj:=cV "__eq__" "CurveFp.__eq__" [3,1] 3 .none "ecdsa.ellipticcurve" 202 42
noncomputable def m6:Obj:=b8 [sT "self" 239,sT "other" 240]
noncomputable def m7:Obj:=cP "__ne__" "CurveFp.__ne__" [3,2]
noncomputable def m8:Obj:=cX "__ne__" 236 "CurveFp.__ne__" 237 "/claim/cut.py" 238 29 2 0 0 3 44 181 45 46 47 48 241 29 "/claim/cut.py" 242
noncomputable def m9:Obj:=cV "__ne__" "CurveFp.__ne__" [3,2] 3 .none "ecdsa.ellipticcurve" 202 49
noncomputable def nh:Obj:=b8 [sT "self" 247]
noncomputable def nj:Obj:=cP "p" "CurveFp.p" [3,3]
noncomputable def nq:Obj:=cX "p" 244 "CurveFp.p" 245 "/claim/cut.py" 246 32 1 0 0 3 51 181 52 53 54 55 248 32 "/claim/cut.py" 249
noncomputable def nt:Obj:=cV "p" "CurveFp.p" [3,3] 3 .none "ecdsa.ellipticcurve" 202 56
noncomputable def nu:Obj:=b8 [sT "self" 254]
noncomputable def nv:Obj:=cP "a" "CurveFp.a" [3,4]
noncomputable def nB:Obj:=cX "a" 251 "CurveFp.a" 252 "/claim/cut.py" 253 35 1 0 0 3 58 181 59 60 61 62 255 35 "/claim/cut.py" 256
noncomputable def nC:Obj:=cV "a" "CurveFp.a" [3,4] 3 .none "ecdsa.ellipticcurve" 202 63
noncomputable def nD:Obj:=b8 [sT "self" 261]
noncomputable def nE:Obj:=cP "b" "CurveFp.b" [3,5]
noncomputable def nG:Obj:=cX "b" 258 "CurveFp.b" 259 "/claim/cut.py" 260 38 1 0 0 3 65 181 66 67 68 69 262 38 "/claim/cut.py" 263
noncomputable def nH:Obj:=cV "b" "CurveFp.b" [3,5] 3 .none "ecdsa.ellipticcurve" 202 70
noncomputable def nI:Obj:=b8 [sT "self" 268]
noncomputable def nJ:Obj:=cP "cofactor" "CurveFp.cofactor" [3,6]
noncomputable def nK:Obj:=cX "cofactor" 265 "CurveFp.cofactor" 266 "/claim/cut.py" 267 41 1 0 0 3 72 181 73 74 75 76 269 41 "/claim/cut.py" 270
noncomputable def nL:Obj:=cV "cofactor" "CurveFp.cofactor" [3,6] 3 .none "ecdsa.ellipticcurve" 202 77
noncomputable def nM:Obj:=b8 [sT "self" 275,sT "x" 276,sT "y" 277]
noncomputable def nN:Obj:=cP "contains_point" "CurveFp.contains_point" [3,7]
noncomputable def nO:Obj:=cX "contains_point" 272 "CurveFp.contains_point" 273 "/claim/cut.py" 274 44 3 0 0 3 79 181 80 81 82 83 278 44 "/claim/cut.py" 279
noncomputable def nP:Obj:=cV "contains_point" "CurveFp.contains_point" [3,7] 3 .none "ecdsa.ellipticcurve" 202 84
noncomputable def nQ:Obj:=b8 [sT "__a" 281,sT "__b" 282,sT "__h" 283,sT "__p" 284]
noncomputable def nR (P:Params):Obj:=⟨.type "dict",none,.dict #[⟨kH P "__module__",sT "__module__" 211,sT "ecdsa.ellipticcurve" 202⟩,⟨kH P "__firstlineno__",sT "__firstlineno__" 215,.int 15 214⟩,⟨kH P "__init__",sT "__init__" 226,rF 36⟩,⟨kH P "__eq__",sT "__eq__" 235,rF 43⟩,⟨kH P "__ne__",sT "__ne__" 243,rF 50⟩,⟨kH P "p",sT "p" 250,rF 57⟩,⟨kH P "a",sT "a" 257,rF 64⟩,⟨kH P "b",sT "b" 264,rF 71⟩,⟨kH P "cofactor",sT "cofactor" 271,rF 78⟩,⟨kH P "contains_point",sT "contains_point" 280,rF 85⟩,⟨kH P "__static_attributes__",sT "__static_attributes__" 285,rF 86⟩,⟨kH P "__dict__",sT "__dict__" 287,rF 89⟩,⟨kH P "__weakref__",sT "__weakref__" 289,rF 90⟩,⟨kH P "__doc__",sT "__doc__" 290,.none⟩,⟨kH P "__hash__",sT "__hash__" 291,.none⟩] 5,#[]⟩
noncomputable def nS:Obj:=⟨.type "type",none,.cls (ClassData.mk (S "CurveFp") [.type "object"] [rF 88,.type "object"] 87 (S "CurveFp") true [] [] false none false),#[some (rF 22),none,some (sT "CurveFp" 204),some (sT "CurveFp" 212),some (.builtin "object.__new__"),some (.bool true)]⟩
noncomputable def nU:Obj:=⟨.type "getset_descriptor",none,.fields #[sT "__dict__" 286,rF 88,.builtin "function.__dict__",.builtin "function.__dict__#set"],#[]⟩
noncomputable def nV:Obj:=⟨.type "getset_descriptor",none,.fields #[sT "__weakref__" 288,rF 88,.builtin "ExceptionGroup.__weakref__",.none],#[]⟩
noncomputable def nW:Obj:=⟨.type "super",none,.fields #[rF 88,rF 88,rF 88],#[]⟩
noncomputable def nX:Obj:=⟨.type "builtin_function_or_method",none,.fields #[.builtin "object.__init_subclass__",rF 88],#[]⟩
noncomputable def Lr (P:Params):BT:=(N (boot_o_0 P) (N (boot_o_1 P) (N (Lp P) (N (boot_o_7 P) (N oT (N oC (N nB L L) L) (N oT (N oT L L) L)) (N mL (N mX (N nH L L) L) (N nj (N (nR P) L L) L))) (N oT (N lH (N mV (N nD L L) L) (N oT (N nN L L) L)) (N mQ (N m5 (N oT L L) L) (N oC (N nW L L) L)))) (N (boot_o_5 P) (N (boot_o_9 P) (N qY (N oT (N oT L L) L) (N m8 (N nM L L) L)) (N oT (N mY (N oC L L) L) (N nt (N nU L L) L))) (N mH (N lJ (N oT (N nE L L) L) (N nh (N nP L L) L)) (N mS (N oC (N nK L L) L) (N oT L L))))) (N (boot_o_2 P) (N (boot_o_4 P) (N (boot_o_8 P) (N oC (N mT (N nC L L) L) (N m7 (N oC L L) L)) (N (mO P) (N oT (N oT L L) L) (N nq (N nS L L) L))) (N IP (N lI (N mW (N oT L L) L) (N oC (N nO L L) L)) (N mR (N oT (N nJ L L) L) (N nu (N nX L L) L)))) (N (boot_o_6 P) (N (boot_o_10 P) (N oT (N mU (N oC L L) L) (N m9 (N oT L L) L)) (N mP (N mZ (N nI L L) L) (N oT (N nV L L) L))) (N mJ (N mK (N oC (N nG L L) L) (N oT (N nQ L L) L)) (N oT (N m6 (N nL L L) L) (N nv L L))))))
noncomputable def st2 (w:World) (os:OsState):SharedT:=⟨Lr w.params,nat_lit 93,(@PySem.Life.mk (@List.nil @Nat) (@List.nil @Nat) (@List.nil @Nat) (nat_lit 0) (@List.nil (@Prod @Nat @Nat)) (@List.nil @Nat) @Bool.false (@List.toArray @Nat (@List.nil @Nat)) (@List.nil @Nat) (nat_lit 0) @Bool.false @Bool.false @Bool.false (0:Int) (@List.cons @Int (2000:Int) (@List.cons @Int (10:Int) (@List.cons @Int (10:Int) (@List.nil @Int)))) @Bool.false (nat_lit 0) @Bool.true (@List.nil @Nat) (@List.nil @Nat) (nat_lit 0) @Bool.false),#[],(@PySem.Drawn.mk (nat_lit 0) (nat_lit 0) (nat_lit 0) (nat_lit 0)),nat_lit 294,os⟩
noncomputable def pos2:PySem.Pos:=(@PySem.Pos.mk (nat_lit 15) (nat_lit 0) (nat_lit 45) (nat_lit 76))
noncomputable def Fw:List PySem.Stmt:=yS (nat_lit 3) (nat_lit 1) cK
theorem IQ (w:World) (os:OsState):segRunT treeTable pw w m0 qX 1 (nat_lit 462) (st1 w os) (piecesOf Fw uh cW pos1 [topFrame q0])=some (.next,st2 w os,cW,pos2):=by kernel_rfl
noncomputable def Ls (P:Params):Obj:=⟨.type "dict",none,.dict #[⟨kH P "__name__",sT "__name__" 165,sT "ecdsa.ellipticcurve" 202⟩,⟨kH P "__doc__",sT "__doc__" 166,.none⟩,⟨kH P "__package__",sT "__package__" 167,.none⟩,⟨kH P "__loader__",sT "__loader__" 168,.builtin "__main__.__loader__#opaque"⟩,⟨kH P "__spec__",sT "__spec__" 169,.none⟩,⟨kH P "__annotations__",sT "__annotations__" 170,rF 6⟩,⟨kH P "__builtins__",sT "__builtins__" 171,rF 4⟩,⟨kH P "__file__",sT "__file__" 173,sT "/claim/cut.py" 172⟩,⟨kH P "__cached__",sT "__cached__" 174,.none⟩,⟨kH P "inverse_mod",sT "inverse_mod" 201,rF 21⟩,⟨kH P "CurveFp",sT "CurveFp" 293,rF 88⟩,⟨kH P "AbstractPoint",sT "AbstractPoint" 334,rF 112⟩] 12,#[]⟩
noncomputable def IS:Obj:=⟨.none,none,.fields #[zI 2,zI 0,rF 20,zI 15,zI 0,rF 27,zI 46,zI 0,rF 98],#[]⟩
noncomputable def qC:Obj:=b8 [.type "object"]
noncomputable def qD:Obj:=⟨.type "builtin_function_or_method",none,.fields #[.builtin "type.__prepare__",.type "type"],#[]⟩
noncomputable def qE (P:Params):Obj:=⟨.type "dict",none,.dict #[⟨kH P "__module__",sT "__module__" 301,sT "ecdsa.ellipticcurve" 202⟩,⟨kH P "__qualname__",sT "__qualname__" 303,sT "AbstractPoint" 302⟩,⟨kH P "__firstlineno__",sT "__firstlineno__" 305,.int 46 304⟩,⟨kH P "_naf",sT "_naf" 326,rF 108⟩,⟨kH P "__static_attributes__",sT "__static_attributes__" 327,rF 110⟩] 5,#[]⟩
noncomputable def qF:Obj:=⟨.none,none,.fields #[zI 49,zI 4,rF 105],#[]⟩
noncomputable def qG:Obj:=⟨.type "code",none,.fields #[sT "AbstractPoint" 296,sT "AbstractPoint" 297,sT "/claim/cut.py" 298,zI 46,zI 0,zI 0,zI 0,zI 0,rF 96,.bool false,zI 181,rF 97,.none,.none,.none,.none,zI 299,zI 46,sT "/claim/cut.py" 300],#[]⟩
noncomputable def qH:Obj:=⟨.type "frame",none,.plain,#[some (rF 98),some (rF 3),some (rF 95),none,some (sT "ecdsa.ellipticcurve" 202),none,some (rF 0)]⟩
noncomputable def lK:Obj:=b8 [sT "mult" 309,sT "ret" 310,sT "nd" 311]
noncomputable def lM:Obj:=cP "_naf" "AbstractPoint._naf" [4,0]
noncomputable def fZ:Obj:=cX "_naf" 306 "AbstractPoint._naf" 307 "/claim/cut.py" 308 48 1 0 0 3 100 181 101 102 103 104 312 48 "/claim/cut.py" 313
noncomputable def gb:Obj:=⟨.type "function",none,.func (.mk (S "_naf") (S "AbstractPoint._naf") (AP (BK [4,0] cK)) (.stmts (inner (BK [4,0] cK))) (xJ (BK [4,0] cK)) 3 [] .none .none .none (sT "ecdsa.ellipticcurve" 202) (some 109) (rF 105) .none 0),#[]⟩
noncomputable def gc (P:Params):Obj:=⟨.type "dict",none,.dict #[⟨kH P "__module__",sT "__module__" 315,sT "ecdsa.ellipticcurve" 202⟩,⟨kH P "__name__",sT "__name__" 318,sT "_naf" 317⟩,⟨kH P "__qualname__",sT "__qualname__" 321,sT "AbstractPoint._naf" 320⟩,⟨kH P "__doc__",sT "__doc__" 323,.none⟩,⟨kH P "__annotations__",sT "__annotations__" 325,rF 109⟩] 5,#[]⟩
noncomputable def gf:Obj:=⟨.type "staticmethod",some 107,.fields #[rF 106,.bool false],#[]⟩
noncomputable def gg:Obj:=⟨.type "dict",none,.dict #[] 0,#[]⟩
noncomputable def gh (P:Params):Obj:=⟨.type "dict",none,.dict #[⟨kH P "__module__",sT "__module__" 301,sT "ecdsa.ellipticcurve" 202⟩,⟨kH P "__firstlineno__",sT "__firstlineno__" 305,.int 46 304⟩,⟨kH P "_naf",sT "_naf" 326,rF 108⟩,⟨kH P "__static_attributes__",sT "__static_attributes__" 327,rF 110⟩,⟨kH P "__dict__",sT "__dict__" 329,rF 113⟩,⟨kH P "__weakref__",sT "__weakref__" 331,rF 114⟩,⟨kH P "__doc__",sT "__doc__" 332,.none⟩] 4,#[]⟩
noncomputable def C2:Obj:=⟨.type "type",none,.cls (ClassData.mk (S "AbstractPoint") [.type "object"] [rF 112,.type "object"] 111 (S "AbstractPoint") true [] [] false none false),#[some (rF 93),none,some (sT "AbstractPoint" 294),some (sT "AbstractPoint" 302),some (.builtin "object.__new__"),some (.bool true)]⟩
noncomputable def gi:Obj:=⟨.type "getset_descriptor",none,.fields #[sT "__dict__" 328,rF 112,.builtin "function.__dict__",.builtin "function.__dict__#set"],#[]⟩
noncomputable def gj:Obj:=⟨.type "getset_descriptor",none,.fields #[sT "__weakref__" 330,rF 112,.builtin "ExceptionGroup.__weakref__",.none],#[]⟩
noncomputable def gk:Obj:=⟨.type "super",none,.fields #[rF 112,rF 112,rF 112],#[]⟩
noncomputable def gm:Obj:=⟨.type "builtin_function_or_method",none,.fields #[.builtin "object.__init_subclass__",rF 112],#[]⟩
noncomputable def Lu (P:Params):BT:=(N (boot_o_0 P) (N (boot_o_1 P) (N (Ls P) (N (boot_o_7 P) (N oT (N oC (N nB L L) (N (qE P) L L)) (N oT (N oT L L) (N (gh P) L L))) (N mL (N mX (N nH L L) (N oT L L)) (N nj (N (nR P) L L) L))) (N oT (N lH (N mV (N nD L L) (N qH L L)) (N oT (N nN L L) (N gk L L))) (N mQ (N m5 (N oT L L) (N (gc P) L L)) (N oC (N nW L L) L)))) (N (boot_o_5 P) (N (boot_o_9 P) (N qY (N oT (N oT L L) (N qF L L)) (N m8 (N nM L L) (N gi L L))) (N oT (N mY (N oC L L) (N fZ L L)) (N nt (N nU L L) L))) (N mH (N lJ (N oT (N nE L L) (N oC L L)) (N nh (N nP L L) L)) (N mS (N oC (N nK L L) (N gg L L)) (N oT (N qC L L) L))))) (N (boot_o_2 P) (N (boot_o_4 P) (N (boot_o_8 P) (N oC (N mT (N nC L L) (N oT L L)) (N m7 (N oC L L) (N C2 L L))) (N (mO P) (N oT (N oT L L) (N lM L L)) (N nq (N nS L L) L))) (N IS (N lI (N mW (N oT L L) (N oT L L)) (N oC (N nO L L) (N gm L L))) (N mR (N oT (N nJ L L) (N gf L L)) (N nu (N nX L L) L)))) (N (boot_o_6 P) (N (boot_o_10 P) (N oT (N mU (N oC L L) (N qG L L)) (N m9 (N oT L L) (N gj L L))) (N mP (N mZ (N nI L L) (N gb L L)) (N oT (N nV L L) L))) (N mJ (N mK (N oC (N nG L L) (N lK L L)) (N oT (N nQ L L) L)) (N oT (N m6 (N nL L L) (N oT L L)) (N nv (N qD L L) L))))))
noncomputable def st3 (w:World) (os:OsState):SharedT:=⟨Lu w.params,nat_lit 117,(@PySem.Life.mk (@List.nil @Nat) (@List.nil @Nat) (@List.nil @Nat) (nat_lit 0) (@List.nil (@Prod @Nat @Nat)) (@List.nil @Nat) @Bool.false (@List.toArray @Nat (@List.nil @Nat)) (@List.nil @Nat) (nat_lit 0) @Bool.false @Bool.false @Bool.false (0:Int) (@List.cons @Int (2000:Int) (@List.cons @Int (10:Int) (@List.cons @Int (10:Int) (@List.nil @Int)))) @Bool.false (nat_lit 0) @Bool.true (@List.nil @Nat) (@List.nil @Nat) (nat_lit 0) @Bool.false),#[],(@PySem.Drawn.mk (nat_lit 0) (nat_lit 0) (nat_lit 0) (nat_lit 0)),nat_lit 335,os⟩
noncomputable def Lv:PySem.Pos:=(@PySem.Pos.mk (nat_lit 46) (nat_lit 0) (nat_lit 61) (nat_lit 18))
noncomputable def C3:List PySem.Stmt:=yS (nat_lit 4) (nat_lit 1) cK
theorem IT (w:World) (os:OsState):segRunT treeTable pw w m0 qX 1 (nat_lit 359) (st2 w os) (piecesOf C3 uh cW pos2 [topFrame q0])=some (.next,st3 w os,cW,Lv):=by kernel_rfl
noncomputable def IU (P:Params):Obj:=⟨.type "dict",none,.dict #[⟨kH P "__name__",sT "__name__" 165,sT "ecdsa.ellipticcurve" 202⟩,⟨kH P "__doc__",sT "__doc__" 166,.none⟩,⟨kH P "__package__",sT "__package__" 167,.none⟩,⟨kH P "__loader__",sT "__loader__" 168,.builtin "__main__.__loader__#opaque"⟩,⟨kH P "__spec__",sT "__spec__" 169,.none⟩,⟨kH P "__annotations__",sT "__annotations__" 170,rF 6⟩,⟨kH P "__builtins__",sT "__builtins__" 171,rF 4⟩,⟨kH P "__file__",sT "__file__" 173,sT "/claim/cut.py" 172⟩,⟨kH P "__cached__",sT "__cached__" 174,.none⟩,⟨kH P "inverse_mod",sT "inverse_mod" 201,rF 21⟩,⟨kH P "CurveFp",sT "CurveFp" 293,rF 88⟩,⟨kH P "AbstractPoint",sT "AbstractPoint" 334,rF 112⟩,⟨kH P "PointJacobi",sT "PointJacobi" 769,rF 313⟩] 13,#[]⟩
noncomputable def Fx:Obj:=⟨.none,none,.fields #[zI 2,zI 0,rF 20,zI 15,zI 0,rF 27,zI 46,zI 0,rF 98,zI 62,zI 0,rF 122],#[]⟩
noncomputable def C4:Obj:=⟨.type "type",none,.cls (ClassData.mk (S "AbstractPoint") [.type "object"] [rF 112,.type "object"] 111 (S "AbstractPoint") true [] [rF 313] false none false),#[some (rF 93),none,some (sT "AbstractPoint" 294),some (sT "AbstractPoint" 302),some (.builtin "object.__new__"),some (.bool true)]⟩
noncomputable def ie:Obj:=b8 [rF 112]
noncomputable def ig:Obj:=⟨.type "builtin_function_or_method",none,.fields #[.builtin "type.__prepare__",.type "type"],#[]⟩
noncomputable def iu (P:Params):Obj:=⟨.type "dict",none,.dict #[⟨kH P "__module__",sT "__module__" 342,sT "ecdsa.ellipticcurve" 202⟩,⟨kH P "__qualname__",sT "__qualname__" 344,sT "PointJacobi" 343⟩,⟨kH P "__firstlineno__",sT "__firstlineno__" 346,.int 62 345⟩,⟨kH P "__init__",sT "__init__" 359,rF 131⟩,⟨kH P "_maybe_precompute",sT "_maybe_precompute" 373,rF 138⟩,⟨kH P "__eq__",sT "__eq__" 390,rF 145⟩,⟨kH P "__ne__",sT "__ne__" 398,rF 152⟩,⟨kH P "order",sT "order" 405,rF 159⟩,⟨kH P "curve",sT "curve" 412,rF 166⟩,⟨kH P "x",sT "x" 423,rF 173⟩,⟨kH P "y",sT "y" 434,rF 180⟩,⟨kH P "scale",sT "scale" 447,rF 187⟩,⟨kH P "to_affine",sT "to_affine" 459,rF 194⟩,⟨kH P "from_affine",sT "from_affine" 479,rF 204⟩,⟨kH P "_double_with_z_1",sT "_double_with_z_1" 498,rF 212⟩,⟨kH P "_double",sT "_double" 519,rF 219⟩,⟨kH P "double",sT "double" 534,rF 226⟩,⟨kH P "_add_with_z_1",sT "_add_with_z_1" 555,rF 233⟩,⟨kH P "_add_with_z_eq",sT "_add_with_z_eq" 575,rF 240⟩,⟨kH P "_add_with_z2_1",sT "_add_with_z2_1" 600,rF 247⟩,⟨kH P "_add_with_z_ne",sT "_add_with_z_ne" 628,rF 254⟩,⟨kH P "__radd__",sT "__radd__" 636,rF 261⟩,⟨kH P "_add",sT "_add" 650,rF 268⟩,⟨kH P "__add__",sT "__add__" 668,rF 275⟩,⟨kH P "__rmul__",sT "__rmul__" 676,rF 282⟩,⟨kH P "_mul_precompute",sT "_mul_precompute" 691,rF 289⟩,⟨kH P "__mul__",sT "__mul__" 710,rF 296⟩,⟨kH P "mul_add",sT "mul_add" 749,rF 303⟩,⟨kH P "__neg__",sT "__neg__" 759,rF 310⟩,⟨kH P "__static_attributes__",sT "__static_attributes__" 765,rF 311⟩] 30,#[]⟩
noncomputable def iw:Obj:=⟨.none,none,.fields (List.toArray ((zI 64) :: (zI 4) :: (rF 130) :: (zI 71) :: (zI 4) :: (rF 137) :: (zI 89) :: (zI 4) :: (rF 144) :: (zI 106) :: (zI 4) :: (rF 151) :: (zI 109) :: (zI 4) :: (rF 158) :: (zI 112) :: (zI 4) :: (rF 165) :: (zI 115) :: (zI 4) :: (rF 172) :: (zI 123) :: (zI 4) :: (rF 179) :: (zI 131) :: (zI 4) :: (rF 186) :: (zI 143) :: (zI 4) :: (rF 193) :: (zI 154) :: (zI 4) :: (rF 201) :: (zI 157) :: (zI 4) :: (rF 211) :: (zI 169) :: (zI 4) :: (rF 218) :: (zI 186) :: (zI 4) :: (rF 225) :: (zI 196) :: (zI 4) :: (rF 232) :: (zI 210) :: (zI 4) :: (rF 239) :: (zI 222) :: (zI 4) :: (rF 246) :: (zI 238) :: (zI 4) :: (rF 253) :: (zI 257) :: (zI 4) :: (rF 260) :: (zI 260) :: (zI 4) :: (rF 267) :: (zI 275) :: (zI 4) :: (rF 274) :: (zI 292) :: (zI 4) :: (rF 281) :: (zI 295) :: (zI 4) :: (rF 288) :: (zI 312) :: (zI 4) :: (rF 295) :: (zI 338) :: (zI 4) :: (rF 302) :: (zI 403) :: (zI 4) :: (rF 309) :: [])),#[]⟩
noncomputable def iy:Obj:=⟨.type "code",none,.fields #[sT "PointJacobi" 337,sT "PointJacobi" 338,sT "/claim/cut.py" 339,zI 62,zI 0,zI 0,zI 0,zI 0,rF 120,.bool false,zI 181,rF 121,.none,.none,.none,.none,zI 340,zI 62,sT "/claim/cut.py" 341],#[]⟩
noncomputable def iz:Obj:=⟨.type "frame",none,.plain,#[some (rF 122),some (rF 3),some (rF 119),none,some (sT "ecdsa.ellipticcurve" 202),none,some (rF 0)]⟩
noncomputable def iA:Obj:=b8 [.none,.bool false]
noncomputable def iB:Obj:=b8 [sT "self" 350,sT "curve" 351,sT "x" 352,sT "y" 353,sT "z" 354,sT "order" 355,sT "generator" 356]
noncomputable def iC:Obj:=cP "__init__" "PointJacobi.__init__" [5,0]
noncomputable def iD:Obj:=cX "__init__" 347 "PointJacobi.__init__" 348 "/claim/cut.py" 349 64 7 0 0 3 125 181 126 127 128 129 357 64 "/claim/cut.py" 358
noncomputable def iE:Obj:=cV "__init__" "PointJacobi.__init__" [5,0] 3 (rF 124) "ecdsa.ellipticcurve" 202 130
noncomputable def iF:Obj:=b8 [sT "self" 363,sT "order" 364,sT "precompute" 365,sT "i" 366,sT "coord_x" 367,sT "coord_y" 368,sT "coord_z" 369,sT "doubler" 370]
noncomputable def iG:Obj:=cP "_maybe_precompute" "PointJacobi._maybe_precompute" [5,1]
noncomputable def iH:Obj:=cX "_maybe_precompute" 360 "PointJacobi._maybe_precompute" 361 "/claim/cut.py" 362 71 1 0 0 3 132 181 133 134 135 136 371 71 "/claim/cut.py" 372
noncomputable def iI:Obj:=cV "_maybe_precompute" "PointJacobi._maybe_precompute" [5,1] 3 .none "ecdsa.ellipticcurve" 202 137
noncomputable def iJ:Obj:=b8 [sT "self" 377,sT "other" 378,sT "x1" 379,sT "y1" 380,sT "z1" 381,sT "x2" 382,sT "y2" 383,sT "z2" 384,sT "p" 385,sT "zz1" 386,sT "zz2" 387]
noncomputable def iK:Obj:=cP "__eq__" "PointJacobi.__eq__" [5,2]
noncomputable def iL:Obj:=cX "__eq__" 374 "PointJacobi.__eq__" 375 "/claim/cut.py" 376 89 2 0 0 3 139 181 140 141 142 143 388 89 "/claim/cut.py" 389
noncomputable def iM:Obj:=cV "__eq__" "PointJacobi.__eq__" [5,2] 3 .none "ecdsa.ellipticcurve" 202 144
noncomputable def iN:Obj:=b8 [sT "self" 394,sT "other" 395]
noncomputable def iO:Obj:=cP "__ne__" "PointJacobi.__ne__" [5,3]
noncomputable def iP:Obj:=cX "__ne__" 391 "PointJacobi.__ne__" 392 "/claim/cut.py" 393 106 2 0 0 3 146 181 147 148 149 150 396 106 "/claim/cut.py" 397
noncomputable def iQ:Obj:=cV "__ne__" "PointJacobi.__ne__" [5,3] 3 .none "ecdsa.ellipticcurve" 202 151
noncomputable def iR:Obj:=b8 [sT "self" 402]
noncomputable def iS:Obj:=cP "order" "PointJacobi.order" [5,4]
noncomputable def iT:Obj:=cX "order" 399 "PointJacobi.order" 400 "/claim/cut.py" 401 109 1 0 0 3 153 181 154 155 156 157 403 109 "/claim/cut.py" 404
noncomputable def iU:Obj:=cV "order" "PointJacobi.order" [5,4] 3 .none "ecdsa.ellipticcurve" 202 158
noncomputable def iV:Obj:=b8 [sT "self" 409]
noncomputable def iW:Obj:=cP "curve" "PointJacobi.curve" [5,5]
noncomputable def iX:Obj:=cX "curve" 406 "PointJacobi.curve" 407 "/claim/cut.py" 408 112 1 0 0 3 160 181 161 162 163 164 410 112 "/claim/cut.py" 411
noncomputable def iY:Obj:=cV "curve" "PointJacobi.curve" [5,5] 3 .none "ecdsa.ellipticcurve" 202 165
noncomputable def iZ:Obj:=b8 [sT "self" 416,sT "x" 417,sT "_" 418,sT "z" 419,sT "p" 420]
noncomputable def ja:Obj:=cP "x" "PointJacobi.x" [5,6]
noncomputable def jb:Obj:=cX "x" 413 "PointJacobi.x" 414 "/claim/cut.py" 415 115 1 0 0 3 167 181 168 169 170 171 421 115 "/claim/cut.py" 422
noncomputable def jc:Obj:=cV "x" "PointJacobi.x" [5,6] 3 .none "ecdsa.ellipticcurve" 202 172
noncomputable def jd:Obj:=b8 [sT "self" 427,sT "_" 428,sT "y" 429,sT "z" 430,sT "p" 431]
noncomputable def je:Obj:=cP "y" "PointJacobi.y" [5,7]
noncomputable def jf:Obj:=cX "y" 424 "PointJacobi.y" 425 "/claim/cut.py" 426 123 1 0 0 3 174 181 175 176 177 178 432 123 "/claim/cut.py" 433
noncomputable def jg:Obj:=cV "y" "PointJacobi.y" [5,7] 3 .none "ecdsa.ellipticcurve" 202 179
noncomputable def jh:Obj:=b8 [sT "self" 438,sT "x" 439,sT "y" 440,sT "z" 441,sT "p" 442,sT "z_inv" 443,sT "zz_inv" 444]
noncomputable def ji:Obj:=cP "scale" "PointJacobi.scale" [5,8]
noncomputable def jj:Obj:=cX "scale" 435 "PointJacobi.scale" 436 "/claim/cut.py" 437 131 1 0 0 3 181 181 182 183 184 185 445 131 "/claim/cut.py" 446
noncomputable def jk:Obj:=cV "scale" "PointJacobi.scale" [5,8] 3 .none "ecdsa.ellipticcurve" 202 186
noncomputable def jl:Obj:=b8 [sT "self" 451,sT "_" 452,sT "z" 453,sT "p" 454,sT "x" 455,sT "y" 456]
noncomputable def jm:Obj:=cP "to_affine" "PointJacobi.to_affine" [5,9]
noncomputable def jn:Obj:=cX "to_affine" 448 "PointJacobi.to_affine" 449 "/claim/cut.py" 450 143 1 0 0 3 188 181 189 190 191 192 457 143 "/claim/cut.py" 458
noncomputable def jo:Obj:=cV "to_affine" "PointJacobi.to_affine" [5,9] 3 .none "ecdsa.ellipticcurve" 202 193
noncomputable def jq:Obj:=b8 [.bool false]
noncomputable def jr:Obj:=b8 [sT "point" 463,sT "generator" 464]
noncomputable def jt:Obj:=cP "from_affine" "PointJacobi.from_affine" [5,10]
noncomputable def ju:Obj:=cX "from_affine" 460 "PointJacobi.from_affine" 461 "/claim/cut.py" 462 153 2 0 0 3 196 181 197 198 199 200 465 153 "/claim/cut.py" 466
noncomputable def jv:Obj:=⟨.type "function",none,.func (.mk (S "from_affine") (S "PointJacobi.from_affine") (AP (BK [5,10] cK)) (.stmts (inner (BK [5,10] cK))) (xJ (BK [5,10] cK)) 3 [] (rF 195) .none .none (sT "ecdsa.ellipticcurve" 202) (some 205) (rF 201) .none 0),#[]⟩
noncomputable def jw (P:Params):Obj:=⟨.type "dict",none,.dict #[⟨kH P "__module__",sT "__module__" 468,sT "ecdsa.ellipticcurve" 202⟩,⟨kH P "__name__",sT "__name__" 471,sT "from_affine" 470⟩,⟨kH P "__qualname__",sT "__qualname__" 474,sT "PointJacobi.from_affine" 473⟩,⟨kH P "__doc__",sT "__doc__" 476,.none⟩,⟨kH P "__annotations__",sT "__annotations__" 478,rF 205⟩] 5,#[]⟩
noncomputable def jx:Obj:=⟨.type "staticmethod",some 203,.fields #[rF 202,.bool false],#[]⟩
noncomputable def jy:Obj:=⟨.type "dict",none,.dict #[] 0,#[]⟩
noncomputable def jz:Obj:=b8 [sT "self" 483,sT "X1" 484,sT "Y1" 485,sT "p" 486,sT "a" 487,sT "XX" 488,sT "YY" 489,sT "YYYY" 490,sT "S" 491,sT "M" 492,sT "T" 493,sT "Y3" 494,sT "Z3" 495]
noncomputable def jA:Obj:=cP "_double_with_z_1" "PointJacobi._double_with_z_1" [5,11]
noncomputable def jB:Obj:=cX "_double_with_z_1" 480 "PointJacobi._double_with_z_1" 481 "/claim/cut.py" 482 157 5 0 0 3 206 181 207 208 209 210 496 157 "/claim/cut.py" 497
noncomputable def jC:Obj:=cV "_double_with_z_1" "PointJacobi._double_with_z_1" [5,11] 3 .none "ecdsa.ellipticcurve" 202 211
noncomputable def jD:Obj:=b8 [sT "self" 502,sT "X1" 503,sT "Y1" 504,sT "Z1" 505,sT "p" 506,sT "a" 507,sT "XX" 508,sT "YY" 509,sT "YYYY" 510,sT "ZZ" 511,sT "S" 512,sT "M" 513,sT "T" 514,sT "Y3" 515,sT "Z3" 516]
noncomputable def jE:Obj:=cP "_double" "PointJacobi._double" [5,12]
noncomputable def jF:Obj:=cX "_double" 499 "PointJacobi._double" 500 "/claim/cut.py" 501 169 6 0 0 3 213 181 214 215 216 217 517 169 "/claim/cut.py" 518
noncomputable def jG:Obj:=cV "_double" "PointJacobi._double" [5,12] 3 .none "ecdsa.ellipticcurve" 202 218
noncomputable def jH:Obj:=b8 [sT "self" 523,sT "X1" 524,sT "Y1" 525,sT "Z1" 526,sT "p" 527,sT "a" 528,sT "X3" 529,sT "Y3" 530,sT "Z3" 531]
noncomputable def jI:Obj:=cP "double" "PointJacobi.double" [5,13]
noncomputable def jJ:Obj:=cX "double" 520 "PointJacobi.double" 521 "/claim/cut.py" 522 186 1 0 0 3 220 181 221 222 223 224 532 186 "/claim/cut.py" 533
noncomputable def jK:Obj:=cV "double" "PointJacobi.double" [5,13] 3 .none "ecdsa.ellipticcurve" 202 225
noncomputable def jL:Obj:=b8 [sT "self" 538,sT "X1" 539,sT "Y1" 540,sT "X2" 541,sT "Y2" 542,sT "p" 543,sT "H" 544,sT "HH" 545,sT "I" 546,sT "J" 547,sT "r" 548,sT "V" 549,sT "X3" 550,sT "Y3" 551,sT "Z3" 552]
noncomputable def jM:Obj:=cP "_add_with_z_1" "PointJacobi._add_with_z_1" [5,14]
noncomputable def jN:Obj:=cX "_add_with_z_1" 535 "PointJacobi._add_with_z_1" 536 "/claim/cut.py" 537 196 6 0 0 3 227 181 228 229 230 231 553 196 "/claim/cut.py" 554
noncomputable def jO:Obj:=cV "_add_with_z_1" "PointJacobi._add_with_z_1" [5,14] 3 .none "ecdsa.ellipticcurve" 202 232
noncomputable def jP:Obj:=b8 [sT "self" 559,sT "X1" 560,sT "Y1" 561,sT "Z1" 562,sT "X2" 563,sT "Y2" 564,sT "p" 565,sT "A" 566,sT "B" 567,sT "C" 568,sT "D" 569,sT "X3" 570,sT "Y3" 571,sT "Z3" 572]
noncomputable def jQ:Obj:=cP "_add_with_z_eq" "PointJacobi._add_with_z_eq" [5,15]
noncomputable def jR:Obj:=cX "_add_with_z_eq" 556 "PointJacobi._add_with_z_eq" 557 "/claim/cut.py" 558 210 7 0 0 3 234 181 235 236 237 238 573 210 "/claim/cut.py" 574
noncomputable def jS:Obj:=cV "_add_with_z_eq" "PointJacobi._add_with_z_eq" [5,15] 3 .none "ecdsa.ellipticcurve" 202 239
noncomputable def jT:Obj:=b8 [sT "self" 579,sT "X1" 580,sT "Y1" 581,sT "Z1" 582,sT "X2" 583,sT "Y2" 584,sT "p" 585,sT "Z1Z1" 586,sT "U2" 587,sT "S2" 588,sT "H" 589,sT "HH" 590,sT "I" 591,sT "J" 592,sT "r" 593,sT "V" 594,sT "X3" 595,sT "Y3" 596,sT "Z3" 597]
noncomputable def jU:Obj:=cP "_add_with_z2_1" "PointJacobi._add_with_z2_1" [5,16]
noncomputable def jV:Obj:=cX "_add_with_z2_1" 576 "PointJacobi._add_with_z2_1" 577 "/claim/cut.py" 578 222 7 0 0 3 241 181 242 243 244 245 598 222 "/claim/cut.py" 599
noncomputable def jW:Obj:=cV "_add_with_z2_1" "PointJacobi._add_with_z2_1" [5,16] 3 .none "ecdsa.ellipticcurve" 202 246
noncomputable def jX:Obj:=b8 [sT "self" 604,sT "X1" 605,sT "Y1" 606,sT "Z1" 607,sT "X2" 608,sT "Y2" 609,sT "Z2" 610,sT "p" 611,sT "Z1Z1" 612,sT "Z2Z2" 613,sT "U1" 614,sT "U2" 615,sT "S1" 616,sT "S2" 617,sT "H" 618,sT "I" 619,sT "J" 620,sT "r" 621,sT "V" 622,sT "X3" 623,sT "Y3" 624,sT "Z3" 625]
noncomputable def jY:Obj:=cP "_add_with_z_ne" "PointJacobi._add_with_z_ne" [5,17]
noncomputable def jZ:Obj:=cX "_add_with_z_ne" 601 "PointJacobi._add_with_z_ne" 602 "/claim/cut.py" 603 238 8 0 0 3 248 181 249 250 251 252 626 238 "/claim/cut.py" 627
noncomputable def j3:Obj:=cV "_add_with_z_ne" "PointJacobi._add_with_z_ne" [5,17] 3 .none "ecdsa.ellipticcurve" 202 253
noncomputable def j4:Obj:=b8 [sT "self" 632,sT "other" 633]
noncomputable def j5:Obj:=cP "__radd__" "PointJacobi.__radd__" [5,18]
noncomputable def j6:Obj:=cX "__radd__" 629 "PointJacobi.__radd__" 630 "/claim/cut.py" 631 257 2 0 0 3 255 181 256 257 258 259 634 257 "/claim/cut.py" 635
noncomputable def j7:Obj:=cV "__radd__" "PointJacobi.__radd__" [5,18] 3 .none "ecdsa.ellipticcurve" 202 260
noncomputable def j8:Obj:=b8 [sT "self" 640,sT "X1" 641,sT "Y1" 642,sT "Z1" 643,sT "X2" 644,sT "Y2" 645,sT "Z2" 646,sT "p" 647]
noncomputable def j9:Obj:=cP "_add" "PointJacobi._add" [5,19]
noncomputable def kc:Obj:=cX "_add" 637 "PointJacobi._add" 638 "/claim/cut.py" 639 260 8 0 0 3 262 181 263 264 265 266 648 260 "/claim/cut.py" 649
noncomputable def kg:Obj:=cV "_add" "PointJacobi._add" [5,19] 3 .none "ecdsa.ellipticcurve" 202 267
noncomputable def kh:Obj:=b8 [sT "self" 654,sT "other" 655,sT "p" 656,sT "X1" 657,sT "Y1" 658,sT "Z1" 659,sT "X2" 660,sT "Y2" 661,sT "Z2" 662,sT "X3" 663,sT "Y3" 664,sT "Z3" 665]
noncomputable def ki:Obj:=cP "__add__" "PointJacobi.__add__" [5,20]
noncomputable def kj:Obj:=cX "__add__" 651 "PointJacobi.__add__" 652 "/claim/cut.py" 653 275 2 0 0 3 269 181 270 271 272 273 666 275 "/claim/cut.py" 667
noncomputable def kq:Obj:=cV "__add__" "PointJacobi.__add__" [5,20] 3 .none "ecdsa.ellipticcurve" 202 274
noncomputable def kr:Obj:=b8 [sT "self" 672,sT "other" 673]
noncomputable def ku:Obj:=cP "__rmul__" "PointJacobi.__rmul__" [5,21]
noncomputable def kC:Obj:=cX "__rmul__" 669 "PointJacobi.__rmul__" 670 "/claim/cut.py" 671 292 2 0 0 3 276 181 277 278 279 280 674 292 "/claim/cut.py" 675
noncomputable def kD:Obj:=cV "__rmul__" "PointJacobi.__rmul__" [5,21] 3 .none "ecdsa.ellipticcurve" 202 281
noncomputable def kE:Obj:=b8 [sT "self" 680,sT "other" 681,sT "X3" 682,sT "Y3" 683,sT "Z3" 684,sT "p" 685,sT "_add" 686,sT "X2" 687,sT "Y2" 688]
noncomputable def kI:Obj:=cP "_mul_precompute" "PointJacobi._mul_precompute" [5,22]
noncomputable def kJ:Obj:=cX "_mul_precompute" 677 "PointJacobi._mul_precompute" 678 "/claim/cut.py" 679 295 2 0 0 3 283 181 284 285 286 287 689 295 "/claim/cut.py" 690
noncomputable def kK:Obj:=cV "_mul_precompute" "PointJacobi._mul_precompute" [5,22] 3 .none "ecdsa.ellipticcurve" 202 288
noncomputable def kL:Obj:=b8 [sT "self" 695,sT "other" 696,sT "X2" 697,sT "Y2" 698,sT "_" 699,sT "X3" 700,sT "Y3" 701,sT "Z3" 702,sT "p" 703,sT "a" 704,sT "_double" 705,sT "_add" 706,sT "i" 707]
noncomputable def kM:Obj:=cP "__mul__" "PointJacobi.__mul__" [5,23]
noncomputable def kN:Obj:=cX "__mul__" 692 "PointJacobi.__mul__" 693 "/claim/cut.py" 694 312 2 0 0 3 290 181 291 292 293 294 708 312 "/claim/cut.py" 709
noncomputable def kO:Obj:=cV "__mul__" "PointJacobi.__mul__" [5,23] 3 .none "ecdsa.ellipticcurve" 202 295
noncomputable def kP:Obj:=b8 [sT "self" 714,sT "self_mul" 715,sT "other" 716,sT "other_mul" 717,sT "X3" 718,sT "Y3" 719,sT "Z3" 720,sT "p" 721,sT "a" 722,sT "X1" 723,sT "Y1" 724,sT "Z1" 725,sT "X2" 726,sT "Y2" 727,sT "Z2" 728,sT "_double" 729,sT "_add" 730,sT "mAmB_X" 731,sT "mAmB_Y" 732,sT "mAmB_Z" 733,sT "pAmB_X" 734,sT "pAmB_Y" 735,sT "pAmB_Z" 736,sT "mApB_X" 737,sT "mApB_Y" 738,sT "mApB_Z" 739,sT "pApB_X" 740,sT "pApB_Y" 741,sT "pApB_Z" 742,sT "self_naf" 743,sT "other_naf" 744,sT "A" 745,sT "B" 746]
noncomputable def kQ:Obj:=cP "mul_add" "PointJacobi.mul_add" [5,24]
noncomputable def kR:Obj:=cX "mul_add" 711 "PointJacobi.mul_add" 712 "/claim/cut.py" 713 338 4 0 0 3 297 181 298 299 300 301 747 338 "/claim/cut.py" 748
noncomputable def kT:Obj:=cV "mul_add" "PointJacobi.mul_add" [5,24] 3 .none "ecdsa.ellipticcurve" 202 302
noncomputable def kU:Obj:=b8 [sT "self" 753,sT "x" 754,sT "y" 755,sT "z" 756]
noncomputable def kW:Obj:=cP "__neg__" "PointJacobi.__neg__" [5,25]
noncomputable def kX:Obj:=cX "__neg__" 750 "PointJacobi.__neg__" 751 "/claim/cut.py" 752 403 1 0 0 3 304 181 305 306 307 308 757 403 "/claim/cut.py" 758
noncomputable def kY:Obj:=cV "__neg__" "PointJacobi.__neg__" [5,25] 3 .none "ecdsa.ellipticcurve" 202 309
noncomputable def kZ:Obj:=b8 [sT "__coords" 760,sT "__curve" 761,sT "__generator" 762,sT "__order" 763,sT "__precompute" 764]
noncomputable def k6 (P:Params):Obj:=⟨.type "dict",none,.dict #[⟨kH P "__module__",sT "__module__" 342,sT "ecdsa.ellipticcurve" 202⟩,⟨kH P "__firstlineno__",sT "__firstlineno__" 346,.int 62 345⟩,⟨kH P "__init__",sT "__init__" 359,rF 131⟩,⟨kH P "_maybe_precompute",sT "_maybe_precompute" 373,rF 138⟩,⟨kH P "__eq__",sT "__eq__" 390,rF 145⟩,⟨kH P "__ne__",sT "__ne__" 398,rF 152⟩,⟨kH P "order",sT "order" 405,rF 159⟩,⟨kH P "curve",sT "curve" 412,rF 166⟩,⟨kH P "x",sT "x" 423,rF 173⟩,⟨kH P "y",sT "y" 434,rF 180⟩,⟨kH P "scale",sT "scale" 447,rF 187⟩,⟨kH P "to_affine",sT "to_affine" 459,rF 194⟩,⟨kH P "from_affine",sT "from_affine" 479,rF 204⟩,⟨kH P "_double_with_z_1",sT "_double_with_z_1" 498,rF 212⟩,⟨kH P "_double",sT "_double" 519,rF 219⟩,⟨kH P "double",sT "double" 534,rF 226⟩,⟨kH P "_add_with_z_1",sT "_add_with_z_1" 555,rF 233⟩,⟨kH P "_add_with_z_eq",sT "_add_with_z_eq" 575,rF 240⟩,⟨kH P "_add_with_z2_1",sT "_add_with_z2_1" 600,rF 247⟩,⟨kH P "_add_with_z_ne",sT "_add_with_z_ne" 628,rF 254⟩,⟨kH P "__radd__",sT "__radd__" 636,rF 261⟩,⟨kH P "_add",sT "_add" 650,rF 268⟩,⟨kH P "__add__",sT "__add__" 668,rF 275⟩,⟨kH P "__rmul__",sT "__rmul__" 676,rF 282⟩,⟨kH P "_mul_precompute",sT "_mul_precompute" 691,rF 289⟩,⟨kH P "__mul__",sT "__mul__" 710,rF 296⟩,⟨kH P "mul_add",sT "mul_add" 749,rF 303⟩,⟨kH P "__neg__",sT "__neg__" 759,rF 310⟩,⟨kH P "__static_attributes__",sT "__static_attributes__" 765,rF 311⟩,⟨kH P "__doc__",sT "__doc__" 766,.none⟩,⟨kH P "__hash__",sT "__hash__" 767,.none⟩] 3,#[]⟩
noncomputable def k7:Obj:=⟨.type "type",none,.cls (ClassData.mk (S "PointJacobi") [rF 112] [rF 313,rF 112,.type "object"] 312 (S "PointJacobi") true [] [] false none false),#[some (rF 117),none,some (sT "PointJacobi" 335),some (sT "PointJacobi" 343),some (.builtin "object.__new__"),some (.bool true)]⟩
noncomputable def k8:Obj:=⟨.type "super",none,.fields #[rF 313,rF 313,rF 313],#[]⟩
noncomputable def k9:Obj:=⟨.type "builtin_function_or_method",none,.fields #[.builtin "object.__init_subclass__",rF 313],#[]⟩
noncomputable def Lw (P:Params):BT:=(N (boot_o_0 P) (N (boot_o_1 P) (N (IU P) (N (boot_o_7 P) (N oT (N oC (N nB (N iB (N oT L L) L) (N oT L L)) (N (qE P) (N iU (N kI L L) L) (N oT L L))) (N oT (N oT (N iK (N kh L L) L) (N oC L L)) (N (gh P) (N oC (N kT L L) L) (N jR L L)))) (N mL (N mX (N nH (N oT (N oC L L) L) (N oT L L)) (N oT (N oT (N kN L L) L) (N jM L L))) (N nj (N (nR P) (N iP (N oT L L) L) (N jD L L)) (N (iu P) (N jh (N kZ L L) L) (N jW L L))))) (N oT (N lH (N mV (N nD (N iE (N j5 L L) L) (N jq L L)) (N qH (N oT (N oC L L) L) (N oT L L))) (N oT (N nN (N oC (N kq L L) L) (N jB L L)) (N gk (N jf (N oT L L) L) (N jT L L)))) (N mQ (N m5 (N oT (N oT (N kc L L) L) (N (jw P) L L)) (N (gc P) (N ja (N kP L L) L) (N oC L L))) (N oC (N nW (N iR (N oT L L) L) (N jG L L)) (N iz (N jk (N k9 L L) L) (N oT L L)))))) (N (boot_o_5 P) (N (boot_o_9 P) (N qY (N oT (N oT (N iC (N j4 L L) L) (N jn L L)) (N qF (N oC (N kK L L) L) (N jJ L L))) (N m8 (N nM (N iM (N ki L L) L) (N oT L L)) (N gi (N oT (N oC L L) L) (N oT L L)))) (N oT (N mY (N oC (N iH (N oT L L) L) (N ju L L)) (N fZ (N iZ (N oT L L) L) (N jO L L))) (N nt (N nU (N oT (N kC L L) L) (N jE L L)) (N iw (N ji (N k7 L L) L) (N oC L L))))) (N mH (N lJ (N oT (N nE (N oC (N j7 L L) L) (N oC L L)) (N oC (N iX (N oT L L) L) (N jL L L))) (N nh (N nP (N oT (N oC L L) L) (N oT L L)) (N ie (N oT (N kX L L) L) (N jU L L)))) (N mS (N oC (N nK (N iJ (N oT L L) L) (N jy L L)) (N gg (N jc (N kQ L L) L) (N oT L L))) (N oT (N qC (N iS (N kE L L) L) (N oC L L)) (N oT (N oC L L) (N jZ L L))))))) (N (boot_o_2 P) (N (boot_o_4 P) (N (boot_o_8 P) (N oC (N mT (N nC (N oT (N oC L L) L) (N jm L L)) (N oT (N oT (N kJ L L) L) (N jI L L))) (N m7 (N oC (N iL (N oT L L) L) (N jz L L)) (N C4 (N jd (N oT L L) L) (N jS L L)))) (N (mO P) (N oT (N oT (N iG (N j8 L L) L) (N jt L L)) (N lM (N oC (N kO L L) L) (N jN L L))) (N nq (N nS (N iQ (N ku L L) L) (N oT L L)) (N oT (N oT (N (k6 P) L L) L) (N oT L L))))) (N Fx (N lI (N mW (N oT (N oT (N j6 L L) L) (N oT L L)) (N oT (N iW (N kL L L) L) (N oC L L))) (N oC (N nO (N iN (N oT L L) L) (N jC L L)) (N gm (N jg (N kW L L) L) (N oT L L)))) (N mR (N oT (N nJ (N oC (N kg L L) L) (N jx L L)) (N gf (N jb (N oT L L) L) (N jP L L))) (N nu (N nX (N oT (N oC L L) L) (N oT L L)) (N iA (N oT L L) (N jY L L)))))) (N (boot_o_6 P) (N (boot_o_10 P) (N oT (N mU (N oC (N iD (N oT L L) L) (N jo L L)) (N qG (N iV (N oT L L) L) (N jK L L))) (N m9 (N oT (N oT (N kj L L) L) (N jA L L)) (N gj (N je (N kU L L) L) (N oC L L)))) (N mP (N mZ (N nI (N iI (N j9 L L) L) (N jv L L)) (N gb (N oT (N oC L L) L) (N oT L L))) (N oT (N nV (N oC (N kD L L) L) (N jF L L)) (N iy (N jj (N k8 L L) L) (N jX L L))))) (N mJ (N mK (N oC (N nG (N iF (N oT L L) L) (N jr L L)) (N lK (N iY (N kM L L) L) (N oT L L))) (N oT (N nQ (N iO (N kr L L) L) (N oC L L)) (N ig (N oC (N kY L L) L) (N jV L L)))) (N oT (N m6 (N nL (N oT (N oC L L) L) (N oT L L)) (N oT (N oT (N kR L L) L) (N jQ L L))) (N nv (N qD (N iT (N oT L L) L) (N jH L L)) (N oC (N jl L L) (N j3 L L))))))))
noncomputable def Rj (w:World) (os:OsState):SharedT:=⟨Lw w.params,nat_lit 316,(@PySem.Life.mk (@List.nil @Nat) (@List.nil @Nat) (@List.nil @Nat) (nat_lit 0) (@List.nil (@Prod @Nat @Nat)) (@List.nil @Nat) @Bool.false (@List.toArray @Nat (@List.nil @Nat)) (@List.nil @Nat) (nat_lit 0) @Bool.false @Bool.false @Bool.false (0:Int) (@List.cons @Int (2000:Int) (@List.cons @Int (10:Int) (@List.cons @Int (10:Int) (@List.nil @Int)))) @Bool.false (nat_lit 0) @Bool.true (@List.nil @Nat) (@List.nil @Nat) (nat_lit 0) @Bool.false),#[],(@PySem.Drawn.mk (nat_lit 0) (nat_lit 0) (nat_lit 0) (nat_lit 0)),nat_lit 770,os⟩
noncomputable def Lx:PySem.Pos:=(@PySem.Pos.mk (nat_lit 62) (nat_lit 0) (nat_lit 405) (nat_lit 64))
noncomputable def BL:List PySem.Stmt:=yS (nat_lit 5) (nat_lit 1) cK
theorem IV (w:World) (os:OsState):segRunT treeTable pw w m0 qX 1 (nat_lit 1383) (st3 w os) (piecesOf BL uh cW Lv [topFrame q0])=some (.next,Rj w os,cW,Lx):=by kernel_rfl
noncomputable def IW (P:Params):Obj:=⟨.type "dict",none,.dict #[⟨kH P "__name__",sT "__name__" 165,sT "ecdsa.ellipticcurve" 202⟩,⟨kH P "__doc__",sT "__doc__" 166,.none⟩,⟨kH P "__package__",sT "__package__" 167,.none⟩,⟨kH P "__loader__",sT "__loader__" 168,.builtin "__main__.__loader__#opaque"⟩,⟨kH P "__spec__",sT "__spec__" 169,.none⟩,⟨kH P "__annotations__",sT "__annotations__" 170,rF 6⟩,⟨kH P "__builtins__",sT "__builtins__" 171,rF 4⟩,⟨kH P "__file__",sT "__file__" 173,sT "/claim/cut.py" 172⟩,⟨kH P "__cached__",sT "__cached__" 174,.none⟩,⟨kH P "inverse_mod",sT "inverse_mod" 201,rF 21⟩,⟨kH P "CurveFp",sT "CurveFp" 293,rF 88⟩,⟨kH P "AbstractPoint",sT "AbstractPoint" 334,rF 112⟩,⟨kH P "PointJacobi",sT "PointJacobi" 769,rF 313⟩,⟨kH P "Point",sT "Point" 898,rF 410⟩] 14,#[]⟩
noncomputable def Fy:Obj:=⟨.none,none,.fields #[zI 2,zI 0,rF 20,zI 15,zI 0,rF 27,zI 46,zI 0,rF 98,zI 62,zI 0,rF 122,zI 406,zI 0,rF 321],#[]⟩
noncomputable def nY:Obj:=⟨.type "type",none,.cls (ClassData.mk (S "AbstractPoint") [.type "object"] [rF 112,.type "object"] 111 (S "AbstractPoint") true [] [rF 313,rF 410] false none false),#[some (rF 93),none,some (sT "AbstractPoint" 294),some (sT "AbstractPoint" 302),some (.builtin "object.__new__"),some (.bool true)]⟩
noncomputable def nZ:Obj:=b8 [rF 112]
noncomputable def n6:Obj:=⟨.type "builtin_function_or_method",none,.fields #[.builtin "type.__prepare__",.type "type"],#[]⟩
noncomputable def n7 (P:Params):Obj:=⟨.type "dict",none,.dict #[⟨kH P "__module__",sT "__module__" 777,sT "ecdsa.ellipticcurve" 202⟩,⟨kH P "__qualname__",sT "__qualname__" 779,sT "Point" 778⟩,⟨kH P "__firstlineno__",sT "__firstlineno__" 781,.int 406 780⟩,⟨kH P "__init__",sT "__init__" 792,rF 330⟩,⟨kH P "__eq__",sT "__eq__" 800,rF 337⟩,⟨kH P "__ne__",sT "__ne__" 808,rF 344⟩,⟨kH P "__neg__",sT "__neg__" 815,rF 351⟩,⟨kH P "__add__",sT "__add__" 827,rF 358⟩,⟨kH P "__mul__",sT "__mul__" 841,rF 365⟩,⟨kH P "__rmul__",sT "__rmul__" 849,rF 372⟩,⟨kH P "double",sT "double" 861,rF 379⟩,⟨kH P "x",sT "x" 868,rF 386⟩,⟨kH P "y",sT "y" 875,rF 393⟩,⟨kH P "curve",sT "curve" 882,rF 400⟩,⟨kH P "order",sT "order" 889,rF 407⟩,⟨kH P "__static_attributes__",sT "__static_attributes__" 894,rF 408⟩] 16,#[]⟩
noncomputable def n8:Obj:=⟨.none,none,.fields #[zI 408,zI 4,rF 329,zI 418,zI 4,rF 336,zI 425,zI 4,rF 343,zI 428,zI 4,rF 350,zI 431,zI 4,rF 357,zI 450,zI 4,rF 364,zI 478,zI 4,rF 371,zI 481,zI 4,rF 378,zI 493,zI 4,rF 385,zI 496,zI 4,rF 392,zI 499,zI 4,rF 399,zI 502,zI 4,rF 406],#[]⟩
noncomputable def n9:Obj:=⟨.type "code",none,.fields #[sT "Point" 772,sT "Point" 773,sT "/claim/cut.py" 774,zI 406,zI 0,zI 0,zI 0,zI 0,rF 319,.bool false,zI 181,rF 320,.none,.none,.none,.none,zI 775,zI 406,sT "/claim/cut.py" 776],#[]⟩
noncomputable def oh:Obj:=⟨.type "frame",none,.plain,#[some (rF 321),some (rF 3),some (rF 318),none,some (sT "ecdsa.ellipticcurve" 202),none,some (rF 0)]⟩
noncomputable def oi:Obj:=b8 [.none]
noncomputable def oj:Obj:=b8 [sT "self" 785,sT "curve" 786,sT "x" 787,sT "y" 788,sT "order" 789]
noncomputable def oq:Obj:=cP "__init__" "Point.__init__" [6,0]
noncomputable def ou:Obj:=cX "__init__" 782 "Point.__init__" 783 "/claim/cut.py" 784 408 5 0 0 3 324 181 325 326 327 328 790 408 "/claim/cut.py" 791
noncomputable def ow:Obj:=cV "__init__" "Point.__init__" [6,0] 3 (rF 323) "ecdsa.ellipticcurve" 202 329
noncomputable def oz:Obj:=b8 [sT "self" 796,sT "other" 797]
noncomputable def oA:Obj:=cP "__eq__" "Point.__eq__" [6,1]
noncomputable def oB:Obj:=cX "__eq__" 793 "Point.__eq__" 794 "/claim/cut.py" 795 418 2 0 0 3 331 181 332 333 334 335 798 418 "/claim/cut.py" 799
noncomputable def oE:Obj:=cV "__eq__" "Point.__eq__" [6,1] 3 .none "ecdsa.ellipticcurve" 202 336
noncomputable def oF:Obj:=b8 [sT "self" 804,sT "other" 805]
noncomputable def oG:Obj:=cP "__ne__" "Point.__ne__" [6,2]
noncomputable def oH:Obj:=cX "__ne__" 801 "Point.__ne__" 802 "/claim/cut.py" 803 425 2 0 0 3 338 181 339 340 341 342 806 425 "/claim/cut.py" 807
noncomputable def oJ:Obj:=cV "__ne__" "Point.__ne__" [6,2] 3 .none "ecdsa.ellipticcurve" 202 343
noncomputable def oK:Obj:=b8 [sT "self" 812]
noncomputable def oM:Obj:=cP "__neg__" "Point.__neg__" [6,3]
noncomputable def oN:Obj:=cX "__neg__" 809 "Point.__neg__" 810 "/claim/cut.py" 811 428 1 0 0 3 345 181 346 347 348 349 813 428 "/claim/cut.py" 814
noncomputable def oO:Obj:=cV "__neg__" "Point.__neg__" [6,3] 3 .none "ecdsa.ellipticcurve" 202 350
noncomputable def oR:Obj:=b8 [sT "self" 819,sT "other" 820,sT "p" 821,sT "l" 822,sT "x3" 823,sT "y3" 824]
noncomputable def oS:Obj:=cP "__add__" "Point.__add__" [6,4]
noncomputable def oU:Obj:=cX "__add__" 816 "Point.__add__" 817 "/claim/cut.py" 818 431 2 0 0 3 352 181 353 354 355 356 825 431 "/claim/cut.py" 826
noncomputable def oV:Obj:=cV "__add__" "Point.__add__" [6,4] 3 .none "ecdsa.ellipticcurve" 202 357
noncomputable def oW:Obj:=b8 [sT "self" 831,sT "other" 832,sT "leftmost_bit" 833,sT "e" 834,sT "e3" 835,sT "negative_self" 836,sT "i" 837,sT "result" 838]
noncomputable def oX:Obj:=cP "__mul__" "Point.__mul__" [6,5]
noncomputable def oY:Obj:=cX "__mul__" 828 "Point.__mul__" 829 "/claim/cut.py" 830 450 2 0 0 3 359 181 360 361 362 363 839 450 "/claim/cut.py" 840
noncomputable def oZ:Obj:=cV "__mul__" "Point.__mul__" [6,5] 3 .none "ecdsa.ellipticcurve" 202 364
noncomputable def o4:Obj:=b8 [sT "self" 845,sT "other" 846]
noncomputable def o5:Obj:=cP "__rmul__" "Point.__rmul__" [6,6]
noncomputable def o6:Obj:=cX "__rmul__" 842 "Point.__rmul__" 843 "/claim/cut.py" 844 478 2 0 0 3 366 181 367 368 369 370 847 478 "/claim/cut.py" 848
noncomputable def o7:Obj:=cV "__rmul__" "Point.__rmul__" [6,6] 3 .none "ecdsa.ellipticcurve" 202 371
noncomputable def o8:Obj:=b8 [sT "self" 853,sT "p" 854,sT "a" 855,sT "l" 856,sT "x3" 857,sT "y3" 858]
noncomputable def o9:Obj:=cP "double" "Point.double" [6,7]
noncomputable def pe:Obj:=cX "double" 850 "Point.double" 851 "/claim/cut.py" 852 481 1 0 0 3 373 181 374 375 376 377 859 481 "/claim/cut.py" 860
noncomputable def pg:Obj:=cV "double" "Point.double" [6,7] 3 .none "ecdsa.ellipticcurve" 202 378
noncomputable def pn:Obj:=b8 [sT "self" 865]
noncomputable def pq:Obj:=cP "x" "Point.x" [6,8]
noncomputable def pA:Obj:=cX "x" 862 "Point.x" 863 "/claim/cut.py" 864 493 1 0 0 3 380 181 381 382 383 384 866 493 "/claim/cut.py" 867
noncomputable def pD:Obj:=cV "x" "Point.x" [6,8] 3 .none "ecdsa.ellipticcurve" 202 385
noncomputable def pF:Obj:=b8 [sT "self" 872]
noncomputable def pG:Obj:=cP "y" "Point.y" [6,9]
noncomputable def pH:Obj:=cX "y" 869 "Point.y" 870 "/claim/cut.py" 871 496 1 0 0 3 387 181 388 389 390 391 873 496 "/claim/cut.py" 874
noncomputable def pJ:Obj:=cV "y" "Point.y" [6,9] 3 .none "ecdsa.ellipticcurve" 202 392
noncomputable def pK:Obj:=b8 [sT "self" 879]
noncomputable def pL:Obj:=cP "curve" "Point.curve" [6,10]
noncomputable def pM:Obj:=cX "curve" 876 "Point.curve" 877 "/claim/cut.py" 878 499 1 0 0 3 394 181 395 396 397 398 880 499 "/claim/cut.py" 881
noncomputable def pN:Obj:=cV "curve" "Point.curve" [6,10] 3 .none "ecdsa.ellipticcurve" 202 399
noncomputable def pO:Obj:=b8 [sT "self" 886]
noncomputable def pP:Obj:=cP "order" "Point.order" [6,11]
noncomputable def pQ:Obj:=cX "order" 883 "Point.order" 884 "/claim/cut.py" 885 502 1 0 0 3 401 181 402 403 404 405 887 502 "/claim/cut.py" 888
noncomputable def pR:Obj:=cV "order" "Point.order" [6,11] 3 .none "ecdsa.ellipticcurve" 202 406
noncomputable def pS:Obj:=b8 [sT "__curve" 890,sT "__order" 891,sT "__x" 892,sT "__y" 893]
noncomputable def pT (P:Params):Obj:=⟨.type "dict",none,.dict #[⟨kH P "__module__",sT "__module__" 777,sT "ecdsa.ellipticcurve" 202⟩,⟨kH P "__firstlineno__",sT "__firstlineno__" 781,.int 406 780⟩,⟨kH P "__init__",sT "__init__" 792,rF 330⟩,⟨kH P "__eq__",sT "__eq__" 800,rF 337⟩,⟨kH P "__ne__",sT "__ne__" 808,rF 344⟩,⟨kH P "__neg__",sT "__neg__" 815,rF 351⟩,⟨kH P "__add__",sT "__add__" 827,rF 358⟩,⟨kH P "__mul__",sT "__mul__" 841,rF 365⟩,⟨kH P "__rmul__",sT "__rmul__" 849,rF 372⟩,⟨kH P "double",sT "double" 861,rF 379⟩,⟨kH P "x",sT "x" 868,rF 386⟩,⟨kH P "y",sT "y" 875,rF 393⟩,⟨kH P "curve",sT "curve" 882,rF 400⟩,⟨kH P "order",sT "order" 889,rF 407⟩,⟨kH P "__static_attributes__",sT "__static_attributes__" 894,rF 408⟩,⟨kH P "__doc__",sT "__doc__" 895,.none⟩,⟨kH P "__hash__",sT "__hash__" 896,.none⟩] 3,#[]⟩
noncomputable def pU:Obj:=⟨.type "type",none,.cls (ClassData.mk (S "Point") [rF 112] [rF 410,rF 112,.type "object"] 409 (S "Point") true [] [] false none false),#[some (rF 316),none,some (sT "Point" 770),some (sT "Point" 778),some (.builtin "object.__new__"),some (.bool true)]⟩
noncomputable def pV:Obj:=⟨.type "super",none,.fields #[rF 410,rF 410,rF 410],#[]⟩
noncomputable def pW:Obj:=⟨.type "builtin_function_or_method",none,.fields #[.builtin "object.__init_subclass__",rF 410],#[]⟩
noncomputable def Ly (P:Params):BT:=(N (boot_o_0 P) (N (boot_o_1 P) (N (IW P) (N (boot_o_7 P) (N oT (N oC (N nB (N iB (N oT L L) (N oT L L)) (N oT (N oT L L) L)) (N (qE P) (N iU (N kI L L) L) (N oT (N oO L L) L))) (N oT (N oT (N iK (N kh L L) (N pM L L)) (N oC (N oA L L) L)) (N (gh P) (N oC (N kT L L) L) (N jR (N oC L L) L)))) (N mL (N mX (N nH (N oT (N oC L L) (N pG L L)) (N oT (N oT L L) L)) (N oT (N oT (N kN L L) L) (N jM (N oT L L) L))) (N nj (N (nR P) (N iP (N oT L L) (N pR L L)) (N jD (N oH L L) L)) (N (iu P) (N jh (N kZ L L) L) (N jW (N o8 L L) L))))) (N oT (N lH (N mV (N nD (N iE (N j5 L L) (N oT L L)) (N jq (N oi L L) L)) (N qH (N oT (N oC L L) L) (N oT (N oT L L) L))) (N oT (N nN (N oC (N kq L L) (N pO L L)) (N jB (N oC L L) L)) (N gk (N jf (N oT L L) L) (N jT (N o6 L L) L)))) (N mQ (N m5 (N oT (N oT (N kc L L) (N oC L L)) (N (jw P) (N oT L L) L)) (N (gc P) (N ja (N kP L L) L) (N oC (N oX L L) L))) (N oC (N nW (N iR (N oT L L) (N pV L L)) (N jG (N oK L L) L)) (N iz (N jk (N k9 L L) L) (N oT (N pg L L) L)))))) (N (boot_o_5 P) (N (boot_o_9 P) (N qY (N oT (N oT (N iC (N j4 L L) (N pA L L)) (N jn (N n9 L L) L)) (N qF (N oC (N kK L L) L) (N jJ (N oC L L) L))) (N m8 (N nM (N iM (N ki L L) (N oT L L)) (N oT (N oE L L) L)) (N gi (N oT (N oC L L) L) (N oT (N oT L L) L)))) (N oT (N mY (N oC (N iH (N oT L L) (N pJ L L)) (N ju (N ou L L) L)) (N fZ (N iZ (N oT L L) L) (N jO (N oW L L) L))) (N nt (N nU (N oT (N kC L L) (N (pT P) L L)) (N jE (N oT L L) L)) (N iw (N ji (N k7 L L) L) (N oC (N o9 L L) L))))) (N mH (N lJ (N oT (N nE (N oC (N j7 L L) (N pF L L)) (N oC (N oC L L) L)) (N oC (N iX (N oT L L) L) (N jL (N oU L L) L))) (N nh (N nP (N oT (N oC L L) (N pP L L)) (N oT (N oT L L) L)) (N ie (N oT (N kX L L) L) (N jU (N oT L L) L)))) (N mS (N oC (N nK (N iJ (N oT L L) (N oT L L)) (N jy (N oz L L) L)) (N gg (N jc (N kQ L L) L) (N oT (N oZ L L) L))) (N oT (N qC (N iS (N kE L L) L) (N oC (N oM L L) L)) (N oT (N oC (N n6 L L) L) (N jZ (N oC L L) L))))))) (N (boot_o_2 P) (N (boot_o_4 P) (N (boot_o_8 P) (N oC (N mT (N nC (N oT (N oC L L) (N pq L L)) (N jm (N n8 L L) L)) (N oT (N oT (N kJ L L) L) (N jI (N oT L L) L))) (N m7 (N oC (N iL (N oT L L) (N pN L L)) (N jz (N oB L L) L)) (N nY (N jd (N oT L L) L) (N jS (N o4 L L) L)))) (N (mO P) (N oT (N oT (N iG (N j8 L L) (N pH L L)) (N jt (N oq L L) L)) (N lM (N oC (N kO L L) L) (N jN (N oC L L) L))) (N nq (N nS (N iQ (N ku L L) (N pS L L)) (N oT (N oJ L L) L)) (N oT (N oT (N (k6 P) L L) L) (N oT (N oT L L) L))))) (N Fy (N lI (N mW (N oT (N oT (N j6 L L) (N oC L L)) (N oT (N oT L L) L)) (N oT (N iW (N kL L L) L) (N oC (N oS L L) L))) (N oC (N nO (N iN (N oT L L) (N oT L L)) (N jC (N oF L L) L)) (N gm (N jg (N kW L L) L) (N oT (N o7 L L) L)))) (N mR (N oT (N nJ (N oC (N kg L L) (N pK L L)) (N jx (N oC L L) L)) (N gf (N jb (N oT L L) L) (N jP (N oY L L) L))) (N nu (N nX (N oT (N oC L L) (N pW L L)) (N oT (N oT L L) L)) (N iA (N oT (N nZ L L) L) (N jY (N oT L L) L)))))) (N (boot_o_6 P) (N (boot_o_10 P) (N oT (N mU (N oC (N iD (N oT L L) (N pD L L)) (N jo (N oh L L) L)) (N qG (N iV (N oT L L) L) (N jK (N oR L L) L))) (N m9 (N oT (N oT (N kj L L) (N oC L L)) (N jA (N oT L L) L)) (N gj (N je (N kU L L) L) (N oC (N o5 L L) L)))) (N mP (N mZ (N nI (N iI (N j9 L L) (N oT L L)) (N jv (N ow L L) L)) (N gb (N oT (N oC L L) L) (N oT (N oT L L) L))) (N oT (N nV (N oC (N kD L L) (N pU L L)) (N jF (N oC L L) L)) (N iy (N jj (N k8 L L) L) (N jX (N pe L L) L))))) (N mJ (N mK (N oC (N nG (N iF (N oT L L) (N oT L L)) (N jr (N oj L L) L)) (N lK (N iY (N kM L L) L) (N oT (N oV L L) L))) (N oT (N nQ (N iO (N kr L L) (N pQ L L)) (N oC (N oG L L) L)) (N ig (N oC (N kY L L) L) (N jV (N oC L L) L)))) (N oT (N m6 (N nL (N oT (N oC L L) (N pL L L)) (N oT (N oT L L) L)) (N oT (N oT (N kR L L) L) (N jQ (N oT L L) L))) (N nv (N qD (N iT (N oT L L) L) (N jH (N oN L L) L)) (N oC (N jl (N (n7 P) L L) L) (N j3 (N pn L L) L))))))))
noncomputable def Rk (w:World) (os:OsState):SharedT:=⟨Ly w.params,nat_lit 413,(@PySem.Life.mk (@List.nil @Nat) (@List.nil @Nat) (@List.nil @Nat) (nat_lit 0) (@List.nil (@Prod @Nat @Nat)) (@List.nil @Nat) @Bool.false (@List.toArray @Nat (@List.nil @Nat)) (@List.nil @Nat) (nat_lit 0) @Bool.false @Bool.false @Bool.false (0:Int) (@List.cons @Int (2000:Int) (@List.cons @Int (10:Int) (@List.cons @Int (10:Int) (@List.nil @Int)))) @Bool.false (nat_lit 0) @Bool.true (@List.nil @Nat) (@List.nil @Nat) (nat_lit 0) @Bool.false),#[],(@PySem.Drawn.mk (nat_lit 0) (nat_lit 0) (nat_lit 0) (nat_lit 0)),nat_lit 899,os⟩
noncomputable def Lz:PySem.Pos:=(@PySem.Pos.mk (nat_lit 406) (nat_lit 0) (nat_lit 503) (nat_lit 27))
noncomputable def zT:List PySem.Stmt:=yS (nat_lit 6) (nat_lit 1) cK
theorem IX (w:World) (os:OsState):segRunT treeTable pw w m0 qX 1 (nat_lit 620) (Rj w os) (piecesOf zT uh cW Lx [topFrame q0])=some (.next,Rk w os,cW,Lz):=by kernel_rfl
noncomputable def IY (P:Params):Obj:=⟨.type "dict",none,.dict #[⟨kH P "__name__",sT "__name__" 165,sT "law_xx0001_03" 914⟩,⟨kH P "__doc__",sT "__doc__" 166,.none⟩,⟨kH P "__package__",sT "__package__" 167,.none⟩,⟨kH P "__loader__",sT "__loader__" 168,.builtin "__main__.__loader__#opaque"⟩,⟨kH P "__spec__",sT "__spec__" 169,.none⟩,⟨kH P "__annotations__",sT "__annotations__" 170,rF 6⟩,⟨kH P "__builtins__",sT "__builtins__" 171,rF 4⟩,⟨kH P "__file__",sT "__file__" 173,sT "/claim/cut.py" 172⟩,⟨kH P "__cached__",sT "__cached__" 174,.none⟩,⟨kH P "inverse_mod",sT "inverse_mod" 201,rF 21⟩,⟨kH P "CurveFp",sT "CurveFp" 293,rF 88⟩,⟨kH P "AbstractPoint",sT "AbstractPoint" 334,rF 112⟩,⟨kH P "PointJacobi",sT "PointJacobi" 769,rF 313⟩,⟨kH P "Point",sT "Point" 898,rF 410⟩,⟨kH P "INFINITY",sT "INFINITY" 913,rF 414⟩,⟨kH P "_law_primes",sT "_law_primes" 940,rF 416⟩,⟨kH P "_law_state",sT "_law_state" 946,rF 421⟩,⟨kH P "_law_take",sT "_law_take" 958,rF 428⟩,⟨kH P "_law_curve",sT "_law_curve" 969,rF 435⟩,⟨kH P "_law_points",sT "_law_points" 983,rF 442⟩,⟨kH P "_law_inverse",sT "_law_inverse" 991,rF 449⟩,⟨kH P "_law_plus",sT "_law_plus" 1003,rF 456⟩] 22,#[]⟩
noncomputable def Fz:Obj:=⟨.none,none,.fields #[zI 2,zI 0,rF 20,zI 15,zI 0,rF 27,zI 46,zI 0,rF 98,zI 62,zI 0,rF 122,zI 406,zI 0,rF 321,zI 507,zI 0,rF 420,zI 512,zI 0,rF 427,zI 523,zI 0,rF 434,zI 531,zI 0,rF 441,zI 541,zI 0,rF 448,zI 543,zI 0,rF 455],#[]⟩
noncomputable def qZ (P:Params):Obj:=⟨.type "dict",none,.dict #[⟨kH P "_Point__curve",sT "_Point__curve" 905,.none⟩,⟨kH P "_Point__x",sT "_Point__x" 907,.none⟩,⟨kH P "_Point__y",sT "_Point__y" 909,.none⟩,⟨kH P "_Point__order",sT "_Point__order" 911,.none⟩] 4,#[]⟩
noncomputable def q6:Obj:=⟨rF 410,some 413,.plain,#[]⟩
noncomputable def q7 (P:Params):Obj:=⟨.type "frame",none,.dict #[⟨kH P "self",sT "self" 899,rF 414⟩,⟨kH P "curve",sT "curve" 900,.none⟩,⟨kH P "x",sT "x" 901,.none⟩,⟨kH P "y",sT "y" 902,.none⟩,⟨kH P "order",sT "order" 903,.none⟩] 5,#[]⟩
noncomputable def q8:Obj:=b8 [.int 5 916,.int 7 917,.int 11 918,.int 13 919,.int 17 920,.int 19 921,.int 23 922,.int 29 923,.int 31 924,.int 37 925,.int 41 926,.int 43 927,.int 47 928,.int 53 929,.int 59 930,.int 61 931,.int 67 932,.int 71 933,.int 73 934,.int 79 935,.int 83 936,.int 89 937,.int 97 938,.int 101 939]
noncomputable def q9:Obj:=cP "_law_state" "_law_state" [10]
noncomputable def ri:Obj:=⟨.type "code",none,.fields #[sT "_law_state" 941,sT "_law_state" 942,sT "/claim/cut.py" 943,zI 507,zI 1,zI 0,zI 0,zI 3,rF 417,.bool true,zI 181,rF 418,.none,.none,.none,rF 419,zI 944,zI 507,sT "/claim/cut.py" 945],#[]⟩
noncomputable def rj:Obj:=cV "_law_state" "_law_state" [10] 3 .none "law_xx0001_03" 914 420
noncomputable def rq:Obj:=b8 [sT "state" 950,sT "most" 951,sT "cells" 952,sT "at" 953,sT "cell" 954,sT "mixed" 955]
noncomputable def rt:Obj:=cP "_law_take" "_law_take" [11]
noncomputable def ry:Obj:=cX "_law_take" 947 "_law_take" 948 "/claim/cut.py" 949 512 2 0 0 3 422 181 423 424 425 426 956 512 "/claim/cut.py" 957
noncomputable def rz:Obj:=cV "_law_take" "_law_take" [11] 3 .none "law_xx0001_03" 914 427
noncomputable def rA:Obj:=b8 [sT "state" 962,sT "p" 963,sT "a" 964,sT "b" 965,sT "k" 966]
noncomputable def rB:Obj:=cP "_law_curve" "_law_curve" [12]
noncomputable def rC:Obj:=cX "_law_curve" 959 "_law_curve" 960 "/claim/cut.py" 961 523 1 0 0 3 429 181 430 431 432 433 967 523 "/claim/cut.py" 968
noncomputable def rD:Obj:=cV "_law_curve" "_law_curve" [12] 3 .none "law_xx0001_03" 914 434
noncomputable def rE:Obj:=b8 [sT "p" 973,sT "a" 974,sT "b" 975,sT "roots" 976,sT "y" 977,sT "square" 978,sT "found" 979,sT "x" 980]
noncomputable def rG:Obj:=cP "_law_points" "_law_points" [13]
noncomputable def rH:Obj:=cX "_law_points" 970 "_law_points" 971 "/claim/cut.py" 972 531 3 0 0 3 436 181 437 438 439 440 981 531 "/claim/cut.py" 982
noncomputable def rI:Obj:=cV "_law_points" "_law_points" [13] 3 .none "law_xx0001_03" 914 441
noncomputable def rJ:Obj:=b8 [sT "number" 987,sT "p" 988]
noncomputable def rK:Obj:=cP "_law_inverse" "_law_inverse" [14]
noncomputable def rL:Obj:=cX "_law_inverse" 984 "_law_inverse" 985 "/claim/cut.py" 986 541 2 0 0 3 443 181 444 445 446 447 989 541 "/claim/cut.py" 990
noncomputable def rM:Obj:=cV "_law_inverse" "_law_inverse" [14] 3 .none "law_xx0001_03" 914 448
noncomputable def rN:Obj:=b8 [sT "p" 995,sT "a" 996,sT "one" 997,sT "two" 998,sT "slope" 999,sT "x" 1000]
noncomputable def rO:Obj:=cP "_law_plus" "_law_plus" [15]
noncomputable def rQ:Obj:=cX "_law_plus" 992 "_law_plus" 993 "/claim/cut.py" 994 543 4 0 0 3 450 181 451 452 453 454 1001 543 "/claim/cut.py" 1002
noncomputable def rS:Obj:=cV "_law_plus" "_law_plus" [15] 3 .none "law_xx0001_03" 914 455
noncomputable def LB (P:Params):BT:=(N (boot_o_0 P) (N (boot_o_1 P) (N (IY P) (N (boot_o_7 P) (N oT (N oC (N nB (N iB (N oT L L) (N oT L L)) (N oT (N oT L L) (N rK L L))) (N (qE P) (N iU (N kI L L) (N (q7 P) L L)) (N oT (N oO L L) L))) (N oT (N oT (N iK (N kh L L) (N pM L L)) (N oC (N oA L L) L)) (N (gh P) (N oC (N kT L L) (N rA L L)) (N jR (N oC L L) L)))) (N mL (N mX (N nH (N oT (N oC L L) (N pG L L)) (N oT (N oT L L) (N rQ L L))) (N oT (N oT (N kN L L) (N oC L L)) (N jM (N oT L L) L))) (N nj (N (nR P) (N iP (N oT L L) (N pR L L)) (N jD (N oH L L) L)) (N (iu P) (N jh (N kZ L L) (N oT L L)) (N jW (N o8 L L) L))))) (N oT (N lH (N mV (N nD (N iE (N j5 L L) (N oT L L)) (N jq (N oi L L) (N oC L L))) (N qH (N oT (N oC L L) (N q9 L L)) (N oT (N oT L L) L))) (N oT (N nN (N oC (N kq L L) (N pO L L)) (N jB (N oC L L) L)) (N gk (N jf (N oT L L) (N rD L L)) (N jT (N o6 L L) L)))) (N mQ (N m5 (N oT (N oT (N kc L L) (N oC L L)) (N (jw P) (N oT L L) L)) (N (gc P) (N ja (N kP L L) (N ry L L)) (N oC (N oX L L) L))) (N oC (N nW (N iR (N oT L L) (N pV L L)) (N jG (N oK L L) L)) (N iz (N jk (N k9 L L) (N oT L L)) (N oT (N pg L L) L)))))) (N (boot_o_5 P) (N (boot_o_9 P) (N qY (N oT (N oT (N iC (N j4 L L) (N pA L L)) (N jn (N n9 L L) (N rM L L))) (N qF (N oC (N kK L L) (N oT L L)) (N jJ (N oC L L) L))) (N m8 (N nM (N iM (N ki L L) (N oT L L)) (N oT (N oE L L) L)) (N gi (N oT (N oC L L) (N rB L L)) (N oT (N oT L L) L)))) (N oT (N mY (N oC (N iH (N oT L L) (N pJ L L)) (N ju (N ou L L) L)) (N fZ (N iZ (N oT L L) (N oT L L)) (N jO (N oW L L) L))) (N nt (N nU (N oT (N kC L L) (N (pT P) L L)) (N jE (N oT L L) L)) (N iw (N ji (N k7 L L) (N rH L L)) (N oC (N o9 L L) L))))) (N mH (N lJ (N oT (N nE (N oC (N j7 L L) (N pF L L)) (N oC (N oC L L) (N oT L L))) (N oC (N iX (N oT L L) (N rj L L)) (N jL (N oU L L) L))) (N nh (N nP (N oT (N oC L L) (N pP L L)) (N oT (N oT L L) L)) (N ie (N oT (N kX L L) (N oC L L)) (N jU (N oT L L) L)))) (N mS (N oC (N nK (N iJ (N oT L L) (N oT L L)) (N jy (N oz L L) L)) (N gg (N jc (N kQ L L) (N oT L L)) (N oT (N oZ L L) L))) (N oT (N qC (N iS (N kE L L) (N (qZ P) L L)) (N oC (N oM L L) L)) (N oT (N oC (N n6 L L) (N rJ L L)) (N jZ (N oC L L) L))))))) (N (boot_o_2 P) (N (boot_o_4 P) (N (boot_o_8 P) (N oC (N mT (N nC (N oT (N oC L L) (N pq L L)) (N jm (N n8 L L) (N rL L L))) (N oT (N oT (N kJ L L) (N q8 L L)) (N jI (N oT L L) L))) (N m7 (N oC (N iL (N oT L L) (N pN L L)) (N jz (N oB L L) L)) (N nY (N jd (N oT L L) (N oT L L)) (N jS (N o4 L L) L)))) (N (mO P) (N oT (N oT (N iG (N j8 L L) (N pH L L)) (N jt (N oq L L) (N rS L L))) (N lM (N oC (N kO L L) (N rq L L)) (N jN (N oC L L) L))) (N nq (N nS (N iQ (N ku L L) (N pS L L)) (N oT (N oJ L L) L)) (N oT (N oT (N (k6 P) L L) (N rG L L)) (N oT (N oT L L) L))))) (N Fz (N lI (N mW (N oT (N oT (N j6 L L) (N oC L L)) (N oT (N oT L L) (N rN L L))) (N oT (N iW (N kL L L) (N ri L L)) (N oC (N oS L L) L))) (N oC (N nO (N iN (N oT L L) (N oT L L)) (N jC (N oF L L) L)) (N gm (N jg (N kW L L) (N oT L L)) (N oT (N o7 L L) L)))) (N mR (N oT (N nJ (N oC (N kg L L) (N pK L L)) (N jx (N oC L L) L)) (N gf (N jb (N oT L L) (N rz L L)) (N jP (N oY L L) L))) (N nu (N nX (N oT (N oC L L) (N pW L L)) (N oT (N oT L L) L)) (N iA (N oT (N nZ L L) (N oC L L)) (N jY (N oT L L) L)))))) (N (boot_o_6 P) (N (boot_o_10 P) (N oT (N mU (N oC (N iD (N oT L L) (N pD L L)) (N jo (N oh L L) (N oT L L))) (N qG (N iV (N oT L L) (N oC L L)) (N jK (N oR L L) L))) (N m9 (N oT (N oT (N kj L L) (N oC L L)) (N jA (N oT L L) L)) (N gj (N je (N kU L L) (N rC L L)) (N oC (N o5 L L) L)))) (N mP (N mZ (N nI (N iI (N j9 L L) (N oT L L)) (N jv (N ow L L) L)) (N gb (N oT (N oC L L) (N rt L L)) (N oT (N oT L L) L))) (N oT (N nV (N oC (N kD L L) (N pU L L)) (N jF (N oC L L) L)) (N iy (N jj (N k8 L L) (N rI L L)) (N jX (N pe L L) L))))) (N mJ (N mK (N oC (N nG (N iF (N oT L L) (N oT L L)) (N jr (N oj L L) (N rO L L))) (N lK (N iY (N kM L L) (N oT L L)) (N oT (N oV L L) L))) (N oT (N nQ (N iO (N kr L L) (N pQ L L)) (N oC (N oG L L) L)) (N ig (N oC (N kY L L) (N rE L L)) (N jV (N oC L L) L)))) (N oT (N m6 (N nL (N oT (N oC L L) (N pL L L)) (N oT (N oT L L) L)) (N oT (N oT (N kR L L) (N oC L L)) (N jQ (N oT L L) L))) (N nv (N qD (N iT (N oT L L) (N q6 L L)) (N jH (N oN L L) L)) (N oC (N jl (N (n7 P) L L) (N oT L L)) (N j3 (N pn L L) L))))))))
noncomputable def Rl (w:World) (os:OsState):SharedT:=⟨LB w.params,nat_lit 457,(@PySem.Life.mk (@List.nil @Nat) (@List.nil @Nat) (@List.nil @Nat) (nat_lit 0) (@List.nil (@Prod @Nat @Nat)) (@List.nil @Nat) @Bool.false (@List.toArray @Nat (@List.nil @Nat)) (@List.nil @Nat) (nat_lit 0) @Bool.false @Bool.false @Bool.false (0:Int) (@List.cons @Int (2000:Int) (@List.cons @Int (10:Int) (@List.cons @Int (10:Int) (@List.nil @Int)))) @Bool.false (nat_lit 0) @Bool.true (@List.nil @Nat) (@List.nil @Nat) (nat_lit 0) @Bool.false),#[],(@PySem.Drawn.mk (nat_lit 0) (nat_lit 0) (nat_lit 0) (nat_lit 0)),nat_lit 1004,os⟩
noncomputable def LC:PySem.Pos:=(@PySem.Pos.mk (nat_lit 543) (nat_lit 0) (nat_lit 555) (nat_lit 51))
noncomputable def yT:List PySem.Stmt:=yS (nat_lit 7) (nat_lit 9) cK
theorem IZ (w:World) (os:OsState):segRunT treeTable pw w m0 qX 1 (nat_lit 484) (Rk w os) (piecesOf yT uh cW Lz [topFrame q0])=some (.next,Rl w os,cW,LC):=by kernel_rfl
noncomputable def I0 (P:Params):Obj:=⟨.type "dict",none,.dict #[⟨kH P "__name__",sT "__name__" 165,sT "law_xx0001_03" 914⟩,⟨kH P "__doc__",sT "__doc__" 166,.none⟩,⟨kH P "__package__",sT "__package__" 167,.none⟩,⟨kH P "__loader__",sT "__loader__" 168,.builtin "__main__.__loader__#opaque"⟩,⟨kH P "__spec__",sT "__spec__" 169,.none⟩,⟨kH P "__annotations__",sT "__annotations__" 170,rF 6⟩,⟨kH P "__builtins__",sT "__builtins__" 171,rF 4⟩,⟨kH P "__file__",sT "__file__" 173,sT "/claim/cut.py" 172⟩,⟨kH P "__cached__",sT "__cached__" 174,.none⟩,⟨kH P "inverse_mod",sT "inverse_mod" 201,rF 21⟩,⟨kH P "CurveFp",sT "CurveFp" 293,rF 88⟩,⟨kH P "AbstractPoint",sT "AbstractPoint" 334,rF 112⟩,⟨kH P "PointJacobi",sT "PointJacobi" 769,rF 313⟩,⟨kH P "Point",sT "Point" 898,rF 410⟩,⟨kH P "INFINITY",sT "INFINITY" 913,rF 414⟩,⟨kH P "_law_primes",sT "_law_primes" 940,rF 416⟩,⟨kH P "_law_state",sT "_law_state" 946,rF 421⟩,⟨kH P "_law_take",sT "_law_take" 958,rF 428⟩,⟨kH P "_law_curve",sT "_law_curve" 969,rF 435⟩,⟨kH P "_law_points",sT "_law_points" 983,rF 442⟩,⟨kH P "_law_inverse",sT "_law_inverse" 991,rF 449⟩,⟨kH P "_law_plus",sT "_law_plus" 1003,rF 456⟩,⟨kH P "_law_minus",sT "_law_minus" 1011,rF 463⟩,⟨kH P "_law_times",sT "_law_times" 1022,rF 470⟩,⟨kH P "_law_order",sT "_law_order" 1034,rF 477⟩,⟨kH P "_law_generator",sT "_law_generator" 1040,rF 482⟩,⟨kH P "_law_digits",sT "_law_digits" 1050,rF 489⟩,⟨kH P "_law_meets",sT "_law_meets" 1060,rF 496⟩,⟨kH P "_law_next",sT "_law_next" 1073,rF 503⟩,⟨kH P "_law_both",sT "_law_both" 1092,rF 510⟩,⟨kH P "_law_factor",sT "_law_factor" 1100,rF 517⟩,⟨kH P "_law_made",sT "_law_made" 1113,rF 524⟩,⟨kH P "_law_told",sT "_law_told" 1121,rF 531⟩,⟨kH P "_law_once",sT "_law_once" 1132,rF 538⟩,⟨kH P "_law_twice",sT "_law_twice" 1150,rF 545⟩,⟨kH P "_law_number",sT "_law_number" 1158,rF 552⟩] 36,#[]⟩
noncomputable def FA:Obj:=⟨.none,none,.fields (List.toArray ((zI 2) :: (zI 0) :: (rF 20) :: (zI 15) :: (zI 0) :: (rF 27) :: (zI 46) :: (zI 0) :: (rF 98) :: (zI 62) :: (zI 0) :: (rF 122) :: (zI 406) :: (zI 0) :: (rF 321) :: (zI 507) :: (zI 0) :: (rF 420) :: (zI 512) :: (zI 0) :: (rF 427) :: (zI 523) :: (zI 0) :: (rF 434) :: (zI 531) :: (zI 0) :: (rF 441) :: (zI 541) :: (zI 0) :: (rF 448) :: (zI 543) :: (zI 0) :: (rF 455) :: (zI 556) :: (zI 0) :: (rF 462) :: (zI 560) :: (zI 0) :: (rF 469) :: (zI 570) :: (zI 0) :: (rF 476) :: (zI 578) :: (zI 0) :: (rF 481) :: (zI 593) :: (zI 0) :: (rF 488) :: (zI 604) :: (zI 0) :: (rF 495) :: (zI 612) :: (zI 0) :: (rF 502) :: (zI 619) :: (zI 0) :: (rF 509) :: (zI 635) :: (zI 0) :: (rF 516) :: (zI 639) :: (zI 0) :: (rF 523) :: (zI 643) :: (zI 0) :: (rF 530) :: (zI 647) :: (zI 0) :: (rF 537) :: (zI 650) :: (zI 0) :: (rF 544) :: (zI 661) :: (zI 0) :: (rF 551) :: [])),#[]⟩
noncomputable def um:Obj:=b8 [sT "p" 1007,sT "point" 1008]
noncomputable def uo:Obj:=cP "_law_minus" "_law_minus" [16]
noncomputable def uq:Obj:=cX "_law_minus" 1004 "_law_minus" 1005 "/claim/cut.py" 1006 556 2 0 0 3 457 181 458 459 460 461 1009 556 "/claim/cut.py" 1010
noncomputable def ur:Obj:=cV "_law_minus" "_law_minus" [16] 3 .none "law_xx0001_03" 914 462
noncomputable def uu:Obj:=b8 [sT "p" 1015,sT "a" 1016,sT "number" 1017,sT "point" 1018,sT "total" 1019]
noncomputable def uv:Obj:=cP "_law_times" "_law_times" [17]
noncomputable def uw:Obj:=cX "_law_times" 1012 "_law_times" 1013 "/claim/cut.py" 1014 560 4 0 0 3 464 181 465 466 467 468 1020 560 "/claim/cut.py" 1021
noncomputable def ux:Obj:=cV "_law_times" "_law_times" [17] 3 .none "law_xx0001_03" 914 469
noncomputable def uy:Obj:=b8 [sT "p" 1026,sT "a" 1027,sT "point" 1028,sT "total" 1029,sT "count" 1030,sT "k" 1031]
noncomputable def uz:Obj:=cP "_law_order" "_law_order" [18]
noncomputable def uA:Obj:=cX "_law_order" 1023 "_law_order" 1024 "/claim/cut.py" 1025 570 3 0 0 3 471 181 472 473 474 475 1032 570 "/claim/cut.py" 1033
noncomputable def uB:Obj:=cV "_law_order" "_law_order" [18] 3 .none "law_xx0001_03" 914 476
noncomputable def uC:Obj:=cP "_law_generator" "_law_generator" [19]
noncomputable def uD:Obj:=⟨.type "code",none,.fields #[sT "_law_generator" 1035,sT "_law_generator" 1036,sT "/claim/cut.py" 1037,zI 578,zI 4,zI 0,zI 0,zI 3,rF 478,.bool true,zI 181,rF 479,.none,.none,.none,rF 480,zI 1038,zI 578,sT "/claim/cut.py" 1039],#[]⟩
noncomputable def uE:Obj:=cV "_law_generator" "_law_generator" [19] 3 .none "law_xx0001_03" 914 481
noncomputable def uF:Obj:=b8 [sT "number" 1044,sT "digits" 1045,sT "k" 1046,sT "digit" 1047]
noncomputable def uG:Obj:=cP "_law_digits" "_law_digits" [20]
noncomputable def uH:Obj:=cX "_law_digits" 1041 "_law_digits" 1042 "/claim/cut.py" 1043 593 1 0 0 3 483 181 484 485 486 487 1048 593 "/claim/cut.py" 1049
noncomputable def uI:Obj:=cV "_law_digits" "_law_digits" [20] 3 .none "law_xx0001_03" 914 488
noncomputable def uJ:Obj:=b8 [sT "number" 1054,sT "order" 1055,sT "total" 1056,sT "digit" 1057]
noncomputable def uK:Obj:=cP "_law_meets" "_law_meets" [21]
noncomputable def uL:Obj:=cX "_law_meets" 1051 "_law_meets" 1052 "/claim/cut.py" 1053 604 2 0 0 3 490 181 491 492 493 494 1058 604 "/claim/cut.py" 1059
noncomputable def uM:Obj:=cV "_law_meets" "_law_meets" [21] 3 .none "law_xx0001_03" 914 495
noncomputable def uN:Obj:=b8 [sT "p" 1064,sT "a" 1065,sT "one" 1066,sT "two" 1067,sT "first" 1068,sT "second" 1069,sT "result" 1070]
noncomputable def uO:Obj:=cP "_law_next" "_law_next" [22]
noncomputable def uP:Obj:=cX "_law_next" 1061 "_law_next" 1062 "/claim/cut.py" 1063 612 6 0 0 3 497 181 498 499 500 501 1071 612 "/claim/cut.py" 1072
noncomputable def uQ:Obj:=cV "_law_next" "_law_next" [22] 3 .none "law_xx0001_03" 914 502
noncomputable def uR:Obj:=b8 [sT "p" 1077,sT "a" 1078,sT "one" 1079,sT "two" 1080,sT "m" 1081,sT "n" 1082,sT "left" 1083,sT "right" 1084,sT "total" 1085,sT "k" 1086,sT "first" 1087,sT "second" 1088,sT "more" 1089]
noncomputable def uS:Obj:=cP "_law_both" "_law_both" [23]
noncomputable def uT:Obj:=cX "_law_both" 1074 "_law_both" 1075 "/claim/cut.py" 1076 619 6 0 0 3 504 181 505 506 507 508 1090 619 "/claim/cut.py" 1091
noncomputable def uU:Obj:=cV "_law_both" "_law_both" [23] 3 .none "law_xx0001_03" 914 509
noncomputable def uV:Obj:=b8 [sT "state" 1096,sT "p" 1097]
noncomputable def uW:Obj:=cP "_law_factor" "_law_factor" [24]
noncomputable def uX:Obj:=cX "_law_factor" 1093 "_law_factor" 1094 "/claim/cut.py" 1095 635 2 0 0 3 511 181 512 513 514 515 1098 635 "/claim/cut.py" 1099
noncomputable def uY:Obj:=cV "_law_factor" "_law_factor" [24] 3 .none "law_xx0001_03" 914 516
noncomputable def uZ:Obj:=b8 [sT "state" 1104,sT "curve" 1105,sT "point" 1106,sT "order" 1107,sT "table" 1108,sT "p" 1109,sT "z" 1110]
noncomputable def u0:Obj:=cP "_law_made" "_law_made" [25]
noncomputable def u5:Obj:=cX "_law_made" 1101 "_law_made" 1102 "/claim/cut.py" 1103 639 5 0 0 3 518 181 519 520 521 522 1111 639 "/claim/cut.py" 1112
noncomputable def u6:Obj:=cV "_law_made" "_law_made" [25] 3 .none "law_xx0001_03" 914 523
noncomputable def u7:Obj:=b8 [sT "point" 1117,sT "p" 1118]
noncomputable def u9:Obj:=cP "_law_told" "_law_told" [26]
noncomputable def ve:Obj:=cX "_law_told" 1114 "_law_told" 1115 "/claim/cut.py" 1116 643 2 0 0 3 525 181 526 527 528 529 1119 643 "/claim/cut.py" 1120
noncomputable def vg:Obj:=cV "_law_told" "_law_told" [26] 3 .none "law_xx0001_03" 914 530
noncomputable def vh:Obj:=b8 [sT "rows" 1125,sT "index" 1126,sT "number" 1127,sT "table" 1128,sT "order" 1129]
noncomputable def vj:Obj:=cP "_law_once" "_law_once" [27]
noncomputable def vn:Obj:=cX "_law_once" 1122 "_law_once" 1123 "/claim/cut.py" 1124 647 4 0 0 3 532 181 533 534 535 536 1130 647 "/claim/cut.py" 1131
noncomputable def vo:Obj:=cV "_law_once" "_law_once" [27] 3 .none "law_xx0001_03" 914 537
noncomputable def vp:Obj:=b8 [sT "world" 1136,sT "one" 1137,sT "two" 1138,sT "m" 1139,sT "n" 1140,sT "curve" 1141,sT "rows" 1142,sT "plain" 1143,sT "told" 1144,sT "tables" 1145,sT "order" 1146,sT "first" 1147]
noncomputable def vq:Obj:=cP "_law_twice" "_law_twice" [28]
noncomputable def vv:Obj:=cX "_law_twice" 1133 "_law_twice" 1134 "/claim/cut.py" 1135 650 5 0 0 3 539 181 540 541 542 543 1148 650 "/claim/cut.py" 1149
noncomputable def vz:Obj:=cV "_law_twice" "_law_twice" [28] 3 .none "law_xx0001_03" 914 544
noncomputable def vA:Obj:=b8 [sT "state" 1154,sT "number" 1155]
noncomputable def vB:Obj:=cP "_law_number" "_law_number" [29]
noncomputable def vC:Obj:=cX "_law_number" 1151 "_law_number" 1152 "/claim/cut.py" 1153 661 1 0 0 3 546 181 547 548 549 550 1156 661 "/claim/cut.py" 1157
noncomputable def vD:Obj:=cV "_law_number" "_law_number" [29] 3 .none "law_xx0001_03" 914 551
noncomputable def LD (P:Params):BT:=(N (boot_o_0 P) (N (boot_o_1 P) (N (I0 P) (N (boot_o_7 P) (N oT (N oC (N nB (N iB (N oT (N oT L L) L) (N oT L L)) (N oT (N oT L L) (N rK L L))) (N (qE P) (N iU (N kI (N vq L L) L) (N (q7 P) L L)) (N oT (N oO L L) (N oC L L)))) (N oT (N oT (N iK (N kh (N u7 L L) L) (N pM L L)) (N oC (N oA L L) (N ur L L))) (N (gh P) (N oC (N kT L L) (N rA L L)) (N jR (N oC L L) (N uL L L))))) (N mL (N mX (N nH (N oT (N oC (N oC L L) L) (N pG L L)) (N oT (N oT L L) (N rQ L L))) (N oT (N oT (N kN (N vC L L) L) (N oC L L)) (N jM (N oT L L) (N uG L L)))) (N nj (N (nR P) (N iP (N oT (N oT L L) L) (N pR L L)) (N jD (N oH L L) (N oT L L))) (N (iu P) (N jh (N kZ L L) (N oT L L)) (N jW (N o8 L L) (N uQ L L)))))) (N oT (N lH (N mV (N nD (N iE (N j5 (N uW L L) L) (N oT L L)) (N jq (N oi L L) (N oC L L))) (N qH (N oT (N oC (N oC L L) L) (N q9 L L)) (N oT (N oT L L) (N oT L L)))) (N oT (N nN (N oC (N kq (N vg L L) L) (N pO L L)) (N jB (N oC L L) (N oT L L))) (N gk (N jf (N oT L L) (N rD L L)) (N jT (N o6 L L) (N uN L L))))) (N mQ (N m5 (N oT (N oT (N kc (N u5 L L) L) (N oC L L)) (N (jw P) (N oT L L) (N um L L))) (N (gc P) (N ja (N kP L L) (N ry L L)) (N oC (N oX L L) (N oC L L)))) (N oC (N nW (N iR (N oT (N oT L L) L) (N pV L L)) (N jG (N oK L L) (N uz L L))) (N iz (N jk (N k9 L L) (N oT L L)) (N oT (N pg L L) (N oT L L))))))) (N (boot_o_5 P) (N (boot_o_9 P) (N qY (N oT (N oT (N iC (N j4 (N uV L L) L) (N pA L L)) (N jn (N n9 L L) (N rM L L))) (N qF (N oC (N kK (N vz L L) L) (N oT L L)) (N jJ (N oC L L) (N uD L L)))) (N m8 (N nM (N iM (N ki (N u9 L L) L) (N oT L L)) (N oT (N oE L L) (N oC L L))) (N gi (N oT (N oC L L) (N rB L L)) (N oT (N oT L L) (N oT L L))))) (N oT (N mY (N oC (N iH (N oT (N oT L L) L) (N pJ L L)) (N ju (N ou L L) (N oT L L))) (N fZ (N iZ (N oT L L) (N oT L L)) (N jO (N oW L L) (N uI L L)))) (N nt (N nU (N oT (N kC (N vn L L) L) (N (pT P) L L)) (N jE (N oT L L) (N uy L L))) (N iw (N ji (N k7 L L) (N rH L L)) (N oC (N o9 L L) (N oC L L)))))) (N mH (N lJ (N oT (N nE (N oC (N j7 (N uY L L) L) (N pF L L)) (N oC (N oC L L) (N oT L L))) (N oC (N iX (N oT (N oT L L) L) (N rj L L)) (N jL (N oU L L) (N uF L L)))) (N nh (N nP (N oT (N oC (N oC L L) L) (N pP L L)) (N oT (N oT L L) (N uw L L))) (N ie (N oT (N kX L L) (N oC L L)) (N jU (N oT L L) (N uO L L))))) (N mS (N oC (N nK (N iJ (N oT (N oT L L) L) (N oT L L)) (N jy (N oz L L) (N uo L L))) (N gg (N jc (N kQ L L) (N oT L L)) (N oT (N oZ L L) (N oT L L)))) (N oT (N qC (N iS (N kE (N vp L L) L) (N (qZ P) L L)) (N oC (N oM L L) (N uB L L))) (N oT (N oC (N n6 L L) (N rJ L L)) (N jZ (N oC L L) (N uT L L)))))))) (N (boot_o_2 P) (N (boot_o_4 P) (N (boot_o_8 P) (N oC (N mT (N nC (N oT (N oC (N oC L L) L) (N pq L L)) (N jm (N n8 L L) (N rL L L))) (N oT (N oT (N kJ (N vv L L) L) (N q8 L L)) (N jI (N oT L L) (N uC L L)))) (N m7 (N oC (N iL (N oT (N oT L L) L) (N pN L L)) (N jz (N oB L L) (N oT L L))) (N nY (N jd (N oT L L) (N oT L L)) (N jS (N o4 L L) (N uM L L))))) (N (mO P) (N oT (N oT (N iG (N j8 (N uZ L L) L) (N pH L L)) (N jt (N oq L L) (N rS L L))) (N lM (N oC (N kO (N vD L L) L) (N rq L L)) (N jN (N oC L L) (N uH L L)))) (N nq (N nS (N iQ (N ku (N vj L L) L) (N pS L L)) (N oT (N oJ L L) (N oC L L))) (N oT (N oT (N (k6 P) L L) (N rG L L)) (N oT (N oT L L) (N oT L L)))))) (N FA (N lI (N mW (N oT (N oT (N j6 (N uX L L) L) (N oC L L)) (N oT (N oT L L) (N rN L L))) (N oT (N iW (N kL (N vA L L) L) (N ri L L)) (N oC (N oS L L) (N oC L L)))) (N oC (N nO (N iN (N oT (N oT L L) L) (N oT L L)) (N jC (N oF L L) (N uv L L))) (N gm (N jg (N kW L L) (N oT L L)) (N oT (N o7 L L) (N oT L L))))) (N mR (N oT (N nJ (N oC (N kg (N u6 L L) L) (N pK L L)) (N jx (N oC L L) (N oT L L))) (N gf (N jb (N oT L L) (N rz L L)) (N jP (N oY L L) (N uJ L L)))) (N nu (N nX (N oT (N oC (N oC L L) L) (N pW L L)) (N oT (N oT L L) (N uA L L))) (N iA (N oT (N nZ L L) (N oC L L)) (N jY (N oT L L) (N uS L L))))))) (N (boot_o_6 P) (N (boot_o_10 P) (N oT (N mU (N oC (N iD (N oT (N oT L L) L) (N pD L L)) (N jo (N oh L L) (N oT L L))) (N qG (N iV (N oT (N oT L L) L) (N oC L L)) (N jK (N oR L L) (N uE L L)))) (N m9 (N oT (N oT (N kj (N ve L L) L) (N oC L L)) (N jA (N oT L L) (N uu L L))) (N gj (N je (N kU L L) (N rC L L)) (N oC (N o5 L L) (N oC L L))))) (N mP (N mZ (N nI (N iI (N j9 (N u0 L L) L) (N oT L L)) (N jv (N ow L L) (N oC L L))) (N gb (N oT (N oC L L) (N rt L L)) (N oT (N oT L L) (N oT L L)))) (N oT (N nV (N oC (N kD (N vo L L) L) (N pU L L)) (N jF (N oC L L) (N oT L L))) (N iy (N jj (N k8 L L) (N rI L L)) (N jX (N pe L L) (N uR L L)))))) (N mJ (N mK (N oC (N nG (N iF (N oT (N oT L L) L) (N oT L L)) (N jr (N oj L L) (N rO L L))) (N lK (N iY (N kM (N vB L L) L) (N oT L L)) (N oT (N oV L L) (N oT L L)))) (N oT (N nQ (N iO (N kr (N vh L L) L) (N pQ L L)) (N oC (N oG L L) (N ux L L))) (N ig (N oC (N kY L L) (N rE L L)) (N jV (N oC L L) (N uP L L))))) (N oT (N m6 (N nL (N oT (N oC (N oC L L) L) (N pL L L)) (N oT (N oT L L) (N uq L L))) (N oT (N oT (N kR L L) (N oC L L)) (N jQ (N oT L L) (N uK L L)))) (N nv (N qD (N iT (N oT (N oT L L) L) (N q6 L L)) (N jH (N oN L L) (N oT L L))) (N oC (N jl (N (n7 P) L L) (N oT L L)) (N j3 (N pn L L) (N uU L L)))))))))
noncomputable def Rn (w:World) (os:OsState):SharedT:=⟨LD w.params,nat_lit 553,(@PySem.Life.mk (@List.nil @Nat) (@List.nil @Nat) (@List.nil @Nat) (nat_lit 0) (@List.nil (@Prod @Nat @Nat)) (@List.nil @Nat) @Bool.false (@List.toArray @Nat (@List.nil @Nat)) (@List.nil @Nat) (nat_lit 0) @Bool.false @Bool.false @Bool.false (0:Int) (@List.cons @Int (2000:Int) (@List.cons @Int (10:Int) (@List.cons @Int (10:Int) (@List.nil @Int)))) @Bool.false (nat_lit 0) @Bool.true (@List.nil @Nat) (@List.nil @Nat) (nat_lit 0) @Bool.false),#[],(@PySem.Drawn.mk (nat_lit 0) (nat_lit 0) (nat_lit 0) (nat_lit 0)),nat_lit 1159,os⟩
noncomputable def LF:PySem.Pos:=(@PySem.Pos.mk (nat_lit 661) (nat_lit 0) (nat_lit 665) (nat_lit 17))
noncomputable def xM:List PySem.Stmt:=yS (nat_lit 16) (nat_lit 14) cK
theorem I7 (w:World) (os:OsState):segRunT treeTable pw w m0 qX 1 (nat_lit 462) (Rl w os) (piecesOf xM uh cW LC [topFrame q0])=some (.next,Rn w os,cW,LF):=by kernel_rfl
noncomputable def C5 (P:Params):Obj:=⟨.type "dict",none,.dict #[⟨kH P "__name__",sT "__name__" 165,sT "law_xx0001_03" 914⟩,⟨kH P "__doc__",sT "__doc__" 166,.none⟩,⟨kH P "__package__",sT "__package__" 167,.none⟩,⟨kH P "__loader__",sT "__loader__" 168,.builtin "__main__.__loader__#opaque"⟩,⟨kH P "__spec__",sT "__spec__" 169,.none⟩,⟨kH P "__annotations__",sT "__annotations__" 170,rF 6⟩,⟨kH P "__builtins__",sT "__builtins__" 171,rF 4⟩,⟨kH P "__file__",sT "__file__" 173,sT "/claim/cut.py" 172⟩,⟨kH P "__cached__",sT "__cached__" 174,.none⟩,⟨kH P "inverse_mod",sT "inverse_mod" 201,rF 21⟩,⟨kH P "CurveFp",sT "CurveFp" 293,rF 88⟩,⟨kH P "AbstractPoint",sT "AbstractPoint" 334,rF 112⟩,⟨kH P "PointJacobi",sT "PointJacobi" 769,rF 313⟩,⟨kH P "Point",sT "Point" 898,rF 410⟩,⟨kH P "INFINITY",sT "INFINITY" 913,rF 414⟩,⟨kH P "_law_primes",sT "_law_primes" 940,rF 416⟩,⟨kH P "_law_state",sT "_law_state" 946,rF 421⟩,⟨kH P "_law_take",sT "_law_take" 958,rF 428⟩,⟨kH P "_law_curve",sT "_law_curve" 969,rF 435⟩,⟨kH P "_law_points",sT "_law_points" 983,rF 442⟩,⟨kH P "_law_inverse",sT "_law_inverse" 991,rF 449⟩,⟨kH P "_law_plus",sT "_law_plus" 1003,rF 456⟩,⟨kH P "_law_minus",sT "_law_minus" 1011,rF 463⟩,⟨kH P "_law_times",sT "_law_times" 1022,rF 470⟩,⟨kH P "_law_order",sT "_law_order" 1034,rF 477⟩,⟨kH P "_law_generator",sT "_law_generator" 1040,rF 482⟩,⟨kH P "_law_digits",sT "_law_digits" 1050,rF 489⟩,⟨kH P "_law_meets",sT "_law_meets" 1060,rF 496⟩,⟨kH P "_law_next",sT "_law_next" 1073,rF 503⟩,⟨kH P "_law_both",sT "_law_both" 1092,rF 510⟩,⟨kH P "_law_factor",sT "_law_factor" 1100,rF 517⟩,⟨kH P "_law_made",sT "_law_made" 1113,rF 524⟩,⟨kH P "_law_told",sT "_law_told" 1121,rF 531⟩,⟨kH P "_law_once",sT "_law_once" 1132,rF 538⟩,⟨kH P "_law_twice",sT "_law_twice" 1150,rF 545⟩,⟨kH P "_law_number",sT "_law_number" 1158,rF 552⟩,⟨kH P "_law_step",sT "_law_step" 1177,rF 559⟩,⟨kH P "law",sT "law" 1183,rF 564⟩] 38,#[]⟩
noncomputable def AQ:Obj:=⟨.none,none,.fields (List.toArray ((zI 2) :: (zI 0) :: (rF 20) :: (zI 15) :: (zI 0) :: (rF 27) :: (zI 46) :: (zI 0) :: (rF 98) :: (zI 62) :: (zI 0) :: (rF 122) :: (zI 406) :: (zI 0) :: (rF 321) :: (zI 507) :: (zI 0) :: (rF 420) :: (zI 512) :: (zI 0) :: (rF 427) :: (zI 523) :: (zI 0) :: (rF 434) :: (zI 531) :: (zI 0) :: (rF 441) :: (zI 541) :: (zI 0) :: (rF 448) :: (zI 543) :: (zI 0) :: (rF 455) :: (zI 556) :: (zI 0) :: (rF 462) :: (zI 560) :: (zI 0) :: (rF 469) :: (zI 570) :: (zI 0) :: (rF 476) :: (zI 578) :: (zI 0) :: (rF 481) :: (zI 593) :: (zI 0) :: (rF 488) :: (zI 604) :: (zI 0) :: (rF 495) :: (zI 612) :: (zI 0) :: (rF 502) :: (zI 619) :: (zI 0) :: (rF 509) :: (zI 635) :: (zI 0) :: (rF 516) :: (zI 639) :: (zI 0) :: (rF 523) :: (zI 643) :: (zI 0) :: (rF 530) :: (zI 647) :: (zI 0) :: (rF 537) :: (zI 650) :: (zI 0) :: (rF 544) :: (zI 661) :: (zI 0) :: (rF 551) :: (zI 666) :: (zI 0) :: (rF 558) :: (zI 685) :: (zI 0) :: (rF 563) :: [])),#[]⟩
noncomputable def yU:Obj:=b8 [sT "state" 1162,sT "world" 1163,sT "curve" 1164,sT "rows" 1165,sT "plain" 1166,sT "told" 1167,sT "tables" 1168,sT "order" 1169,sT "one" 1170,sT "two" 1171,sT "kind" 1172,sT "m" 1173,sT "n" 1174]
noncomputable def yV:Obj:=cP "_law_step" "_law_step" [30]
noncomputable def yW:Obj:=cX "_law_step" 1159 "_law_step" 1160 "/claim/cut.py" 1161 666 2 0 0 3 553 181 554 555 556 557 1175 666 "/claim/cut.py" 1176
noncomputable def yX:Obj:=cV "_law_step" "_law_step" [30] 3 .none "law_xx0001_03" 914 558
noncomputable def yY:Obj:=cP "law" "law" [31]
noncomputable def yZ:Obj:=⟨.type "code",none,.fields #[sT "law" 1178,sT "law" 1179,sT "/claim/cut.py" 1180,zI 685,zI 1,zI 0,zI 0,zI 3,rF 560,.bool true,zI 181,rF 561,.none,.none,.none,rF 562,zI 1181,zI 685,sT "/claim/cut.py" 1182],#[]⟩
noncomputable def y9:Obj:=cV "law" "law" [31] 3 .none "law_xx0001_03" 914 563
noncomputable def LG (P:Params):BT:=(N (boot_o_0 P) (N (boot_o_1 P) (N (C5 P) (N (boot_o_7 P) (N oT (N oC (N nB (N iB (N oT (N oT L L) L) (N oT L L)) (N oT (N oT L L) (N rK L L))) (N (qE P) (N iU (N kI (N vq L L) L) (N (q7 P) L L)) (N oT (N oO L L) (N oC L L)))) (N oT (N oT (N iK (N kh (N u7 L L) L) (N pM L L)) (N oC (N oA L L) (N ur L L))) (N (gh P) (N oC (N kT (N yX L L) L) (N rA L L)) (N jR (N oC L L) (N uL L L))))) (N mL (N mX (N nH (N oT (N oC (N oC L L) L) (N pG L L)) (N oT (N oT L L) (N rQ L L))) (N oT (N oT (N kN (N vC L L) L) (N oC L L)) (N jM (N oT L L) (N uG L L)))) (N nj (N (nR P) (N iP (N oT (N oT L L) L) (N pR L L)) (N jD (N oH L L) (N oT L L))) (N (iu P) (N jh (N kZ L L) (N oT L L)) (N jW (N o8 L L) (N uQ L L)))))) (N oT (N lH (N mV (N nD (N iE (N j5 (N uW L L) L) (N oT L L)) (N jq (N oi L L) (N oC L L))) (N qH (N oT (N oC (N oC L L) L) (N q9 L L)) (N oT (N oT L L) (N oT L L)))) (N oT (N nN (N oC (N kq (N vg L L) L) (N pO L L)) (N jB (N oC L L) (N oT L L))) (N gk (N jf (N oT (N yZ L L) L) (N rD L L)) (N jT (N o6 L L) (N uN L L))))) (N mQ (N m5 (N oT (N oT (N kc (N u5 L L) L) (N oC L L)) (N (jw P) (N oT L L) (N um L L))) (N (gc P) (N ja (N kP (N yU L L) L) (N ry L L)) (N oC (N oX L L) (N oC L L)))) (N oC (N nW (N iR (N oT (N oT L L) L) (N pV L L)) (N jG (N oK L L) (N uz L L))) (N iz (N jk (N k9 L L) (N oT L L)) (N oT (N pg L L) (N oT L L))))))) (N (boot_o_5 P) (N (boot_o_9 P) (N qY (N oT (N oT (N iC (N j4 (N uV L L) L) (N pA L L)) (N jn (N n9 L L) (N rM L L))) (N qF (N oC (N kK (N vz L L) L) (N oT L L)) (N jJ (N oC L L) (N uD L L)))) (N m8 (N nM (N iM (N ki (N u9 L L) L) (N oT L L)) (N oT (N oE L L) (N oC L L))) (N gi (N oT (N oC (N oC L L) L) (N rB L L)) (N oT (N oT L L) (N oT L L))))) (N oT (N mY (N oC (N iH (N oT (N oT L L) L) (N pJ L L)) (N ju (N ou L L) (N oT L L))) (N fZ (N iZ (N oT (N oT L L) L) (N oT L L)) (N jO (N oW L L) (N uI L L)))) (N nt (N nU (N oT (N kC (N vn L L) L) (N (pT P) L L)) (N jE (N oT L L) (N uy L L))) (N iw (N ji (N k7 L L) (N rH L L)) (N oC (N o9 L L) (N oC L L)))))) (N mH (N lJ (N oT (N nE (N oC (N j7 (N uY L L) L) (N pF L L)) (N oC (N oC L L) (N oT L L))) (N oC (N iX (N oT (N oT L L) L) (N rj L L)) (N jL (N oU L L) (N uF L L)))) (N nh (N nP (N oT (N oC (N oC L L) L) (N pP L L)) (N oT (N oT L L) (N uw L L))) (N ie (N oT (N kX L L) (N oC L L)) (N jU (N oT L L) (N uO L L))))) (N mS (N oC (N nK (N iJ (N oT (N oT L L) L) (N oT L L)) (N jy (N oz L L) (N uo L L))) (N gg (N jc (N kQ (N yV L L) L) (N oT L L)) (N oT (N oZ L L) (N oT L L)))) (N oT (N qC (N iS (N kE (N vp L L) L) (N (qZ P) L L)) (N oC (N oM L L) (N uB L L))) (N oT (N oC (N n6 L L) (N rJ L L)) (N jZ (N oC L L) (N uT L L)))))))) (N (boot_o_2 P) (N (boot_o_4 P) (N (boot_o_8 P) (N oC (N mT (N nC (N oT (N oC (N oC L L) L) (N pq L L)) (N jm (N n8 L L) (N rL L L))) (N oT (N oT (N kJ (N vv L L) L) (N q8 L L)) (N jI (N oT L L) (N uC L L)))) (N m7 (N oC (N iL (N oT (N oT L L) L) (N pN L L)) (N jz (N oB L L) (N oT L L))) (N nY (N jd (N oT (N oT L L) L) (N oT L L)) (N jS (N o4 L L) (N uM L L))))) (N (mO P) (N oT (N oT (N iG (N j8 (N uZ L L) L) (N pH L L)) (N jt (N oq L L) (N rS L L))) (N lM (N oC (N kO (N vD L L) L) (N rq L L)) (N jN (N oC L L) (N uH L L)))) (N nq (N nS (N iQ (N ku (N vj L L) L) (N pS L L)) (N oT (N oJ L L) (N oC L L))) (N oT (N oT (N (k6 P) L L) (N rG L L)) (N oT (N oT L L) (N oT L L)))))) (N AQ (N lI (N mW (N oT (N oT (N j6 (N uX L L) L) (N oC L L)) (N oT (N oT L L) (N rN L L))) (N oT (N iW (N kL (N vA L L) L) (N ri L L)) (N oC (N oS L L) (N oC L L)))) (N oC (N nO (N iN (N oT (N oT L L) L) (N oT L L)) (N jC (N oF L L) (N uv L L))) (N gm (N jg (N kW (N y9 L L) L) (N oT L L)) (N oT (N o7 L L) (N oT L L))))) (N mR (N oT (N nJ (N oC (N kg (N u6 L L) L) (N pK L L)) (N jx (N oC L L) (N oT L L))) (N gf (N jb (N oT (N oT L L) L) (N rz L L)) (N jP (N oY L L) (N uJ L L)))) (N nu (N nX (N oT (N oC (N oC L L) L) (N pW L L)) (N oT (N oT L L) (N uA L L))) (N iA (N oT (N nZ L L) (N oC L L)) (N jY (N oT L L) (N uS L L))))))) (N (boot_o_6 P) (N (boot_o_10 P) (N oT (N mU (N oC (N iD (N oT (N oT L L) L) (N pD L L)) (N jo (N oh L L) (N oT L L))) (N qG (N iV (N oT (N oT L L) L) (N oC L L)) (N jK (N oR L L) (N uE L L)))) (N m9 (N oT (N oT (N kj (N ve L L) L) (N oC L L)) (N jA (N oT L L) (N uu L L))) (N gj (N je (N kU (N yY L L) L) (N rC L L)) (N oC (N o5 L L) (N oC L L))))) (N mP (N mZ (N nI (N iI (N j9 (N u0 L L) L) (N oT L L)) (N jv (N ow L L) (N oC L L))) (N gb (N oT (N oC (N oC L L) L) (N rt L L)) (N oT (N oT L L) (N oT L L)))) (N oT (N nV (N oC (N kD (N vo L L) L) (N pU L L)) (N jF (N oC L L) (N oT L L))) (N iy (N jj (N k8 L L) (N rI L L)) (N jX (N pe L L) (N uR L L)))))) (N mJ (N mK (N oC (N nG (N iF (N oT (N oT L L) L) (N oT L L)) (N jr (N oj L L) (N rO L L))) (N lK (N iY (N kM (N vB L L) L) (N oT L L)) (N oT (N oV L L) (N oT L L)))) (N oT (N nQ (N iO (N kr (N vh L L) L) (N pQ L L)) (N oC (N oG L L) (N ux L L))) (N ig (N oC (N kY L L) (N rE L L)) (N jV (N oC L L) (N uP L L))))) (N oT (N m6 (N nL (N oT (N oC (N oC L L) L) (N pL L L)) (N oT (N oT L L) (N uq L L))) (N oT (N oT (N kR (N yW L L) L) (N oC L L)) (N jQ (N oT L L) (N uK L L)))) (N nv (N qD (N iT (N oT (N oT L L) L) (N q6 L L)) (N jH (N oN L L) (N oT L L))) (N oC (N jl (N (n7 P) L L) (N oT L L)) (N j3 (N pn L L) (N uU L L)))))))))
noncomputable def Ro (w:World) (os:OsState):SharedT:=⟨LG w.params,nat_lit 565,(@PySem.Life.mk (@List.nil @Nat) (@List.nil @Nat) (@List.nil @Nat) (nat_lit 0) (@List.nil (@Prod @Nat @Nat)) (@List.nil @Nat) @Bool.false (@List.toArray @Nat (@List.nil @Nat)) (@List.nil @Nat) (nat_lit 0) @Bool.false @Bool.false @Bool.false (0:Int) (@List.cons @Int (2000:Int) (@List.cons @Int (10:Int) (@List.cons @Int (10:Int) (@List.nil @Int)))) @Bool.false (nat_lit 0) @Bool.true (@List.nil @Nat) (@List.nil @Nat) (nat_lit 0) @Bool.false),#[],(@PySem.Drawn.mk (nat_lit 0) (nat_lit 0) (nat_lit 0) (nat_lit 0)),nat_lit 1184,os⟩
noncomputable def LH:PySem.Pos:=(@PySem.Pos.mk (nat_lit 685) (nat_lit 0) (nat_lit 707) (nat_lit 82))
noncomputable def wD:List PySem.Stmt:=yS (nat_lit 30) (nat_lit 2) cK
theorem I8 (w:World) (os:OsState):segRunT treeTable pw w m0 qX 1 (nat_lit 68) (Rn w os) (piecesOf wD uh cW LF [topFrame q0])=some (.next,Ro w os,cW,LH):=by kernel_rfl
noncomputable def oL (P:Params):List PySem.Obj:=[boot_o_0 P,boot_o_1 P,boot_o_2 P,C5 P,boot_o_4 P,boot_o_5 P,boot_o_6 P,boot_o_7 P,boot_o_8 P,boot_o_9 P,boot_o_10 P,oT,AQ,mH,mJ,oT,oC,qY,oT,lH,lI,lJ,mK,mL,mO P,oT,mP,mQ,mR,mS,oT,oC,mT,oT,mU,mV,mW,oT,oC,mX,oT,mY,mZ,m5,oT,oC,m6,oT,m7,m8,m9,oT,oC,nh,oT,nj,nq,nt,oT,oC,nu,oT,nv,nB,nC,oT,oC,nD,oT,nE,nG,nH,oT,oC,nI,oT,nJ,nK,nL,oT,oC,nM,oT,nN,nO,nP,nQ,nR P,nS,nU,nV,nW,nX,qC,qD,qE P,oT,qF,qG,qH,oT,oC,lK,oT,lM,fZ,gb,gc P,gf,gg,oT,gh P,nY,gi,gj,gk,gm,ie,ig,iu P,oT,iw,iy,iz,iA,oT,oC,iB,oT,iC,iD,iE,oT,oC,iF,oT,iG,iH,iI,oT,oC,iJ,oT,iK,iL,iM,oT,oC,iN,oT,iO,iP,iQ,oT,oC,iR,oT,iS,iT,iU,oT,oC,iV,oT,iW,iX,iY,oT,oC,iZ,oT,ja,jb,jc,oT,oC,jd,oT,je,jf,jg,oT,oC,jh,oT,ji,jj,jk,oT,oC,jl,oT,jm,jn,jo,jq,oT,oC,jr,oT,jt,ju,jv,jw P,jx,jy,oT,oC,jz,oT,jA,jB,jC,oT,oC,jD,oT,jE,jF,jG,oT,oC,jH,oT,jI,jJ,jK,oT,oC,jL,oT,jM,jN,jO,oT,oC,jP,oT,jQ,jR,jS,oT,oC,jT,oT,jU,jV,jW,oT,oC,jX,oT,jY,jZ,j3,oT,oC,j4,oT,j5,j6,j7,oT,oC,j8,oT,j9,kc,kg,oT,oC,kh,oT,ki,kj,kq,oT,oC,kr,oT,ku,kC,kD,oT,oC,kE,oT,kI,kJ,kK,oT,oC,kL,oT,kM,kN,kO,oT,oC,kP,oT,kQ,kR,kT,oT,oC,kU,oT,kW,kX,kY,kZ,k6 P,k7,k8,k9,nZ,n6,n7 P,oT,n8,n9,oh,oi,oT,oC,oj,oT,oq,ou,ow,oT,oC,oz,oT,oA,oB,oE,oT,oC,oF,oT,oG,oH,oJ,oT,oC,oK,oT,oM,oN,oO,oT,oC,oR,oT,oS,oU,oV,oT,oC,oW,oT,oX,oY,oZ,oT,oC,o4,oT,o5,o6,o7,oT,oC,o8,oT,o9,pe,pg,oT,oC,pn,oT,pq,pA,pD,oT,oC,pF,oT,pG,pH,pJ,oT,oC,pK,oT,pL,pM,pN,oT,oC,pO,oT,pP,pQ,pR,pS,pT P,pU,pV,pW,qZ P,q6,q7 P,q8,oT,oC,q9,ri,rj,oT,oC,rq,oT,rt,ry,rz,oT,oC,rA,oT,rB,rC,rD,oT,oC,rE,oT,rG,rH,rI,oT,oC,rJ,oT,rK,rL,rM,oT,oC,rN,oT,rO,rQ,rS,oT,oC,um,oT,uo,uq,ur,oT,oC,uu,oT,uv,uw,ux,oT,oC,uy,oT,uz,uA,uB,oT,oC,uC,uD,uE,oT,oC,uF,oT,uG,uH,uI,oT,oC,uJ,oT,uK,uL,uM,oT,oC,uN,oT,uO,uP,uQ,oT,oC,uR,oT,uS,uT,uU,oT,oC,uV,oT,uW,uX,uY,oT,oC,uZ,oT,u0,u5,u6,oT,oC,u7,oT,u9,ve,vg,oT,oC,vh,oT,vj,vn,vo,oT,oC,vp,oT,vq,vv,vz,oT,oC,vA,oT,vB,vC,vD,oT,oC,yU,oT,yV,yW,yX,oT,oC,yY,yZ,y9]
noncomputable def za (P:Params):PySem.Heap:=⟨⟨oL P⟩,(@PySem.Life.mk (@List.nil @Nat) (@List.nil @Nat) (@List.nil @Nat) (nat_lit 0) (@List.nil (@Prod @Nat @Nat)) (@List.nil @Nat) @Bool.false (@List.toArray @Nat (@List.nil @Nat)) (@List.nil @Nat) (nat_lit 0) @Bool.false @Bool.false @Bool.false (0:Int) (@List.cons @Int (2000:Int) (@List.cons @Int (10:Int) (@List.cons @Int (10:Int) (@List.nil @Int)))) @Bool.false (nat_lit 0) @Bool.true (@List.nil @Nat) (@List.nil @Nat) (nat_lit 0) @Bool.false)⟩
noncomputable def KY (w:World) (os:OsState):PySem.Shared:=⟨za w.params,#[],(@PySem.Drawn.mk (nat_lit 0) (nat_lit 0) (nat_lit 0) (nat_lit 0)),nat_lit 1184,os⟩
theorem FD (w:World) (os:OsState):topRun treeTable pw w m0 qX (nat_lit 2) (Ro w os).abs ⟨doneF .next,cW,LH,[topFrame q0]⟩=some (KY w os):=by kernel_rfl
noncomputable def M0:Nat:=(nat_lit 12+(nat_lit 1+(nat_lit 54+(nat_lit 462+(nat_lit 359+(nat_lit 1383+(nat_lit 620+(nat_lit 484+(nat_lit 462+(nat_lit 68+(nat_lit 2)))))))))))
theorem Pq (w:World) (os:OsState):topRun treeTable pw w m0 qX M0 ⟨boot_heap w.params,#[],boot_drawn,boot_toks,os⟩ (topStub pw)=some (KY w os) :=
 go_top (Po w os) (piece_block (IK w os) (show topRun treeTable pw w m0 qX (nat_lit 54+(nat_lit 462+(nat_lit 359+(nat_lit 1383+(nat_lit 620+(nat_lit 484+(nat_lit 462+(nat_lit 68+(nat_lit 2))))))))) (Pn w os).abs (restOf (IL++(Fw++(C3++(BL++(zT++(yT++(xM++(wD++[])))))))) uh cW IJ [topFrame q0])=some (KY w os) from (piece_app (N:=(nat_lit 462+(nat_lit 359+(nat_lit 1383+(nat_lit 620+(nat_lit 484+(nat_lit 462+(nat_lit 68+(nat_lit 2))))))))) (l:=IL) (rest:=(Fw++(C3++(BL++(zT++(yT++(xM++(wD++[])))))))) (segRun_of (IM w os)) (piece_app (N:=(nat_lit 359+(nat_lit 1383+(nat_lit 620+(nat_lit 484+(nat_lit 462+(nat_lit 68+(nat_lit 2)))))))) (l:=Fw) (rest:=(C3++(BL++(zT++(yT++(xM++(wD++[]))))))) (segRun_of (IQ w os)) (piece_app (N:=(nat_lit 1383+(nat_lit 620+(nat_lit 484+(nat_lit 462+(nat_lit 68+(nat_lit 2))))))) (l:=C3) (rest:=(BL++(zT++(yT++(xM++(wD++[])))))) (segRun_of (IT w os)) (piece_app (N:=(nat_lit 620+(nat_lit 484+(nat_lit 462+(nat_lit 68+(nat_lit 2)))))) (l:=BL) (rest:=(zT++(yT++(xM++(wD++[]))))) (segRun_of (IV w os)) (piece_app (N:=(nat_lit 484+(nat_lit 462+(nat_lit 68+(nat_lit 2))))) (l:=zT) (rest:=(yT++(xM++(wD++[])))) (segRun_of (IX w os)) (piece_app (N:=(nat_lit 462+(nat_lit 68+(nat_lit 2)))) (l:=yT) (rest:=(xM++(wD++[]))) (segRun_of (IZ w os)) (piece_app (N:=(nat_lit 68+(nat_lit 2))) (l:=xM) (rest:=(wD++[])) (segRun_of (I7 w os)) (piece_app (N:=(nat_lit 2)) (l:=wD) (rest:=[]) (segRun_of (I8 w os)) (FD w os)))))))))))
noncomputable def kz (s:Nat) (l:List PySem.Obj):Nat→Frag:=List.rec (motive:=λ _=>Nat→Frag) (λ _=>[]) (λ o _ ih n=>bif Nat.beq n s then ih (n+1) else (n,o) :: ih (n+1)) l
noncomputable def K0 (P:Params):Frag:=kz 360 (oL P) (nat_lit 0)
noncomputable def as0:List Addr:=(List.range 565).filter λ n=>!(Nat.beq n 360)
end
end JL
namespace JL
open PySem PySem.W PySem.Calls PyProof.Rows
set_option maxHeartbeats 0
noncomputable section
noncomputable def qv:PySem.Program:={ pw with main:={ pw.main with body:=[Fv 31 cK] } }
noncomputable def vE:List PySem.Str:=["inverse_mod", "CurveFp", "AbstractPoint", "PointJacobi", "Point", "INFINITY", "_law_primes", "_law_state", "_law_take", "_law_curve", "_law_points", "_law_inverse", "_law_plus", "_law_minus", "_law_times", "_law_order", "_law_generator", "_law_digits", "_law_meets", "_law_next", "_law_both", "_law_factor", "_law_made", "_law_told", "_law_once", "_law_twice", "_law_number", "_law_step"]
noncomputable def pX:Hook:=kmHook K0 as0 (λ _=>by kernel_rfl) [360]
theorem LI:∀ w:PySem.World,(fencedOpening treeTable pw w 8000).map (λ s=>(s.heap,s.gens,s.drawn,s.toks))=some (boot_heap w.params,#[],boot_drawn,boot_toks) :=
 boot_open (by kernel_rfl) (by kernel_rfl) (λ s=>by kernel_rfl)
theorem LJ:∀ w:PySem.World,((boot_heap w.params).isNs mainGlobals&&(#[]:Array GenState).size==0,(boot_heap w.params).objs.size,(boot_heap w.params).nsMap mainGlobals "__annotations__")=(true,m0,qX):=λ w=>by kernel_rfl
theorem I9:∀ w:PySem.World,(λ os=>((staticsOk (importedModules pw.main.body) (boot_heap w.params) (za w.params)&&namesBound pw (za w.params)&&gensDone (KY w os)&&laidKept (boot_heap w.params) (za w.params)),
 openSeen qv vE (importedModules pw.main.body) (λ s=>xlAt qv [] s&&recOk (RowW.records PySem.Challenge.rw_xx0001_03.row.toRowW) s) true (KY w os),Hook.obs pX (KY w os)))=λ _=>(true,openGood qv vE,Hook.val pX w):=λ w=>by kernel_rfl
theorem LK:LeftO pw qv vE (λ s=>xlAt qv [] s&&recOk (RowW.records PySem.Challenge.rw_xx0001_03.row.toRowW) s) (Hook.obs pX) (Hook.val pX) 8000 true :=
 LeftO.of_pieces (H₀:=boot_heap) (H₁:=za) (gs₁:=#[]) (M:=M0) LI LJ (λ w os=>Pq w os) (by kernel_rfl) (λ w=>I9 w)
noncomputable def dk:DefRec×List (PySem.Str×Expr):=(defOf qv (Str.ofString "law")).get (by kernel_rfl)
theorem LL:defOf qv (Str.ofString "law")=some (dk.1,dk.2):=(Option.some_get (x:=defOf qv (Str.ofString "law")) (by kernel_rfl)).symm
theorem Ja (call:WalkO qv vE (XL qv []) (Hook.says pX) PySem.Challenge.rw_xx0001_03.row.toRowW dk.1 dk.2 λ f vs=>PySem.call f vs):PySem.Challenge.rw_xx0001_03.Holds:=by
 w_on; refine holds_law wsA λ said=>?_
 refine holds_open (q:=qv) (loose:=vE) (Xt:=λ s=>xlAt qv [] s&&recOk (RowW.records PySem.Challenge.rw_xx0001_03.row.toRowW) s) (XP:=XL qv []) (Yf:=Hook.obs pX) (Ya:=Hook.val pX) (YP:=Hook.says pX) (N:=8000) LK (Hook.of pX) (Hook.keeps pX) (λ s e=>xl_of s (Bool.and_eq_true_iff.mp e).1) XL.keeps LL (by kernel_rfl) (by kernel_rfl) (λ s e=>recFacts_of (Bool.and_eq_true_iff.mp e).2) (by rfl) (by first | assumption | decide +kernel) (by decide +kernel) ⟨rfl,rfl,rfl,rfl,rfl,by decide +kernel⟩ ?hw call
 w_witness2
end
end JL
namespace EC
open Lean.Grind
section
variable {F:Type} [Field F]
structure Sl (a xA yA xB yB s:F):Prop where
 l:yB-yA=s*(xB-xA)
 q:s*(yA+yB)=xA*xA+xA*xB+xB*xB+a
theorem fQ {x y:F} (h:x*y=0):x=0∨y=0:=by
 by_cases hx:x=0
 · exact .inl hx
 · right
   have h1:x*x⁻¹=1:=Field.mul_inv_cancel hx
   have h2:y=x⁻¹*(x*y):=by grind
   rw [h2,h]; grind
theorem four {p1 p2 q1 q2 E:F} (hp:¬ (p1=0∧p2=0)) (hq:¬ (q1=0∧q2=0)) (h11:p1*q1*E=0) (h12:p1*q2*E=0) (h21:p2*q1*E=0) (h22:p2*q2*E=0):E=0:=by
 apply Classical.byContradiction
 intro hE
 have g (x y:F) (h:x*y*E=0):x=0∨y=0:=by
  rcases fQ h with h | h
  · exact fQ h
  · exact absurd h hE
 rcases g _ _ h11 with a | a<;>rcases g _ _ h12 with b | b<;>rcases g _ _ h21 with c | c<;>rcases g _ _ h22 with d | d<;>simp_all
variable {a b xA yA xB yB xC yC s t u v X Y:F}
theorem LM (hA:yA*yA=xA*xA*xA+a*xA+b) (hB:yB*yB=xB*xB*xB+a*xB+b) (hC:yC*yC=xC*xC*xC+a*xC+b)
 (hs:Sl a xA yA xB yB s) (ht:Sl a xB yB xC yC t) (hX:X=s*s-xA-xB) (hY:Y=s*(xA-X)-yA) (hu:Sl a X Y xC yC u) :
 (xC-X)*(xC-xB)*((u+s)*(t-s)-(xC-xA))=0:=by
 have s1:=hs.l
 have s2:=hs.q
 have t1:=ht.l
 have u1:=hu.l
 clear hs ht hu hA
 grind
theorem LN (hA:yA*yA=xA*xA*xA+a*xA+b) (hB:yB*yB=xB*xB*xB+a*xB+b) (hC:yC*yC=xC*xC*xC+a*xC+b)
 (hs:Sl a xA yA xB yB s) (ht:Sl a xB yB xC yC t) (hX:X=s*s-xA-xB) (hY:Y=s*(xA-X)-yA) (hu:Sl a X Y xC yC u) :
 (xC-X)*(yB+yC)*((u+s)*(t-s)-(xC-xA))=0:=by
 have s1:=hs.l
 have s2:=hs.q
 have t2:=ht.q
 have u1:=hu.l
 clear hs ht hu
 grind
theorem LO (hA:yA*yA=xA*xA*xA+a*xA+b) (hB:yB*yB=xB*xB*xB+a*xB+b) (hC:yC*yC=xC*xC*xC+a*xC+b)
 (hs:Sl a xA yA xB yB s) (ht:Sl a xB yB xC yC t) (hX:X=s*s-xA-xB) (hY:Y=s*(xA-X)-yA) (hu:Sl a X Y xC yC u) :
 (Y+yC)*(xC-xB)*((u+s)*(t-s)-(xC-xA))=0:=by
 obtain ⟨s1,s2⟩:=hs
 obtain ⟨t1,t2⟩:=ht
 obtain ⟨u1,u2⟩:=hu
 (clear t2 hB; grind)
theorem LP (hA:yA*yA=xA*xA*xA+a*xA+b) (hB:yB*yB=xB*xB*xB+a*xB+b) (hC:yC*yC=xC*xC*xC+a*xC+b)
 (hs:Sl a xA yA xB yB s) (ht:Sl a xB yB xC yC t) (hX:X=s*s-xA-xB) (hY:Y=s*(xA-X)-yA) (hu:Sl a X Y xC yC u) :
 (Y+yC)*(yB+yC)*((u+s)*(t-s)-(xC-xA))=0:=by
 obtain ⟨s1,s2⟩:=hs
 obtain ⟨t1,t2⟩:=ht
 obtain ⟨u1,u2⟩:=hu
 (clear hB; grind)
end
noncomputable abbrev Pt (F:Type):=Option (F×F)
section
variable {F:Type} [Field F]
inductive Add (a:F):Pt F→Pt F→Pt F→Prop
 | zl {Q:Pt F}:Add a none Q Q
 | zr {P:Pt F}:Add a P none P
 | CV {x y z:F}:y+z=0→Add a (some (x,y)) (some (x,z)) none
 | gen {xA yA xB yB s X Y:F}:¬ (xB-xA=0∧yA+yB=0)→Sl a xA yA xB yB s→X=s*s-xA-xB→Y=s*(xA-X)-yA→Add a (some (xA,yA)) (some (xB,yB)) (some (X,Y))
noncomputable def zP (a b:F):Pt F→Prop
 | none=>True
 | some p=>p.2*p.2=p.1*p.1*p.1+a*p.1+b
noncomputable def ng:Pt F→Pt F
 | none=>none
 | some p=>some (p.1,-p.2)
theorem two {p q E:F} (hp:¬ (p=0∧q=0)) (h1:p*E=0) (h2:q*E=0):E=0:=by
 apply Classical.byContradiction
 intro hE
 rcases fQ h1 with h | h
 · rcases fQ h2 with h' | h'
   · exact hp ⟨h,h'⟩
   · exact hE h'
 · exact hE h
theorem Sl.uniq {a xA yA xB yB s s':F} (hn:¬ (xB-xA=0∧yA+yB=0)) (h:Sl a xA yA xB yB s) (h':Sl a xA yA xB yB s'):s=s':=by
 obtain ⟨h1,h2⟩:=h
 obtain ⟨g1,g2⟩:=h'
 have:s-s'=0:=two hn (by grind) (by grind)
 grind
theorem Sl.symm {a xA yA xB yB s:F} (h:Sl a xA yA xB yB s):Sl a xB yB xA yA s:=by
 obtain ⟨h1,h2⟩:=h
 exact ⟨by grind,by grind⟩
theorem Add.inv {a:F} {p q r:F×F} (h:Add a (some p) (some q) (some r)):∃ s,¬ (q.1-p.1=0∧p.2+q.2=0)∧Sl a p.1 p.2 q.1 q.2 s∧r.1=s*s-p.1-q.1∧r.2=s*(p.1-r.1)-p.2:=by
 cases h with | gen hn hs hX hY=>exact ⟨_,hn,hs,hX,hY⟩
theorem Add.LQ {a:F} {Q R:Pt F} (h:Add a none Q R):R=Q:=by cases h<;>rfl
theorem Add.LR {a:F} {P R:Pt F} (h:Add a P none R):R=P:=by cases h<;>rfl
theorem Add.LS {a:F} {p q:F×F} (h:Add a (some p) (some q) none):q.1-p.1=0∧p.2+q.2=0:=by
 cases h with | CV e=>exact ⟨by grind,e⟩
theorem Add.uniq {a:F} {P Q R R':Pt F} (h:Add a P Q R) (h':Add a P Q R'):R=R':=by
 cases P with
 | none=>exact h.LQ.trans h'.LQ.symm
 | some p=>cases Q with
  | none=>exact h.LR.trans h'.LR.symm
  | some q=>cases R with
   | none=>cases R' with
    | none=>rfl
    | some r=>exact h'.inv.elim λ s z=>absurd h.LS z.1
   | some r=>cases R' with
    | none=>exact h.inv.elim λ s z=>absurd h'.LS z.1
    | some r'=>exact h.inv.elim λ s z=>h'.inv.elim λ s' z'=>congrArg some (by
     have e:=z.2.1.uniq z.1 z'.2.1
     rw [← e] at z'
     have e1:=z.2.2.1.trans z'.2.2.1.symm
     exact Prod.ext e1 (by rw [z.2.2.2,z'.2.2.2,e1]))
theorem Add.comm {a:F} {P Q R:Pt F} (h:Add a P Q R):Add a Q P R:=by
 cases h with
 | zl=>exact .zr
 | zr=>exact .zl
 | CV e=>exact .CV (by grind)
 | @gen xA yA xB yB s X Y hn hs hX hY =>
  obtain ⟨s1,s2⟩:=hs
  exact .gen (s:=s) (λ h=>hn ⟨by grind,by grind⟩) ⟨by grind,by grind⟩ (by grind) (by grind)
theorem Add.Pu {a b:F} {P Q R:Pt F} (h:Add a P Q R) (hP:zP a b P) (hQ:zP a b Q):zP a b R:=by
 cases h with
 | zl=>exact hQ
 | zr=>exact hP
 | CV e=>trivial
 | @gen xA yA xB yB s X Y hn hs hX hY =>
  obtain ⟨s1,s2⟩:=hs
  have hP:yA*yA=xA*xA*xA+a*xA+b:=hP
  have hQ:yB*yB=xB*xB*xB+a*xB+b:=hQ
  show Y*Y=X*X*X+a*X+b
  have:Y*Y-(X*X*X+a*X+b)=0:=two hn (by grind) (by grind)
  grind
theorem Jb {a b:F} {P:Pt F} (h:zP a b P):zP a b (ng P):=by
 cases P with
 | none=>trivial
 | some p =>
  have h:p.2*p.2=p.1*p.1*p.1+a*p.1+b:=h
  show -p.2 * -p.2=p.1*p.1*p.1+a*p.1+b
  grind
theorem tF (P:Pt F):ng (ng P)=P:=by
 cases P with
 | none=>rfl
 | some p=>show some (p.1,- -p.2)=_; rw [show - -p.2=p.2 by grind]
theorem Add.neg {a:F} {P Q R:Pt F} (h:Add a P Q R):Add a (ng P) (ng Q) (ng R):=by
 cases h with
 | zl=>exact .zl
 | zr=>exact .zr
 | @CV x y z e=>exact .CV (y:=-y) (z:=-z) (by grind)
 | @gen xA yA xB yB s X Y hn hs hX hY =>
  obtain ⟨s1,s2⟩:=hs
  exact .gen (s:=-s) (λ h=>hn ⟨h.1,by (clear hn; grind)⟩) ⟨by grind,by grind⟩ (by grind) (by grind)
theorem Add.t8 {a:F} (P:Pt F):Add a P (ng P) none:=by
 cases P with
 | none=>exact .zl
 | some p=>exact .CV (x:=p.1) (y:=p.2) (z:=-p.2) (by grind)
def OT (a b:F):Prop:=(4:F)*a*a*a+27*b*b≠0∧(2:F)≠0
theorem Add.cancel {a b:F} (hr:OT a b) {P Q R:Pt F} (hP:zP a b P) (hQ:zP a b Q) (h:Add a P Q R):Add a (ng P) R Q:=by
 cases h with
 | zl=>exact .zl
 | zr=>exact (Add.t8 P).comm
 | @CV x y z e =>
  have:ng (some (x,y))=some (x,z):=by show some (x,-y)=_; rw [show -y=z by grind]
  rw [this]; exact .zr
 | @gen xA yA xB yB s X Y hn hs hX hY =>
  obtain ⟨s1,s2⟩:=hs
  have hP:yA*yA=xA*xA*xA+a*xA+b:=hP
  have hQ:yB*yB=xB*xB*xB+a*xB+b:=hQ
  have key:¬ (X-xA=0∧-yA+Y=0):=λ ⟨h1,h2⟩=>by
   have e1:yA=0:=by
    have h3:(2:F)*yA=0:=by grind
    rcases fQ h3 with h | h
    · exact absurd h hr.2
    · exact h
   have e2:(3:F)*xA*xA+a=0:=by grind
   exact hr.1 (by grind)
  exact .gen (s:=-s) key ⟨by grind,two hn (by (clear hn; grind)) (by grind) |> λ h:(-s*(-yA+Y)-(xA*xA+xA*X+X*X+a))=0=>by grind⟩ (by grind) (by grind)
end
section
variable {F:Type} [Field F]
theorem Rp {a b xA yA xB yB xC yC s t u X Y:F} (hA:yA*yA=xA*xA*xA+a*xA+b) (hB:yB*yB=xB*xB*xB+a*xB+b) (hC:yC*yC=xC*xC*xC+a*xC+b)
 (hs:Sl a xA yA xB yB s) (ht:Sl a xB yB xC yC t) (hX:X=s*s-xA-xB) (hY:Y=s*(xA-X)-yA) (hu:Sl a X Y xC yC u)
 (n1:¬ (xC-X=0∧Y+yC=0)) (n2:¬ (xC-xB=0∧yB+yC=0)):(u+s)*(t-s)-(xC-xA)=0 :=
 four n1 n2 (LM hA hB hC hs ht hX hY hu) (LN hA hB hC hs ht hX hY hu) (LO hA hB hC hs ht hX hY hu) (LP hA hB hC hs ht hX hY hu)
theorem Add.xN {a:F} {P Q:Pt F} (h:Add a P Q none):Q=ng P:=by
 cases h with
 | zl=>rfl
 | zr=>rfl
 | @CV x y z e=>show _=some (x,-y); rw [show z=-y by grind]
section
variable {a b xA yA xB yB xC yC s t u v X Y X2 Y2 X3 Y3 X4 Y4:F}
theorem SR (L:(u+s)*(s-s)-(xC-xA)=0):xC=xA:=by grind
theorem SS (s1:yB-yA=s*(xB-xA)) (t1:yC-yB=s*(xC-xB)) (h:xC=xA):yC=yA:=by grind
theorem SV (hX:X=s*s-xA-xB) (C6:X3=s*s-xB-xC) (h:xC=xA):X3=X:=by grind
theorem SW (s1:yB-yA=s*(xB-xA)) (hY:Y=s*(xA-X)-yA) (Jc:Y3=s*(xB-X3)-yB) (h:X3=X):Y3=Y:=by grind
theorem SX (hu:yC-Y=u*(xC-X)) (hX2:X2=u*u-X-xC) (Fi:Y2=u*(X-X2)-Y) (Hj:X4=u*u-xC-X) (FE:Y4=u*(xC-X4)-yC):X2=X4∧Y2=Y4:=⟨by grind,by grind⟩
theorem SY (L1:(u+s)*(t-s)-(xC-xA)=0) (L2:(v+t)*(s-t)-(xA-xC)=0) (h:t≠s):u+s=v+t:=by
 have:(t-s)*(u+s-(v+t))=0:=by grind
 rcases fQ this with h1 | h1
 · exact absurd (by grind) h
 · grind
theorem S0 (e:u+s=v+t) (L1:(u+s)*(t-s)-(xC-xA)=0) (hX:X=s*s-xA-xB) (hX2:X2=u*u-X-xC) (C6:X3=t*t-xB-xC) (Hj:X4=v*v-xA-X3):X2=X4:=by grind
theorem S3 (e:u+s=v+t) (L1:(u+s)*(t-s)-(xC-xA)=0) (s1:yB-yA=s*(xB-xA)) (t1:yC-yB=t*(xC-xB)) (u1:yC-Y=u*(xC-X)) (v1:Y3-yA=v*(X3-xA)) (hX:X=s*s-xA-xB) (hY:Y=s*(xA-X)-yA) (C6:X3=t*t-xB-xC) (Jc:Y3=t*(xB-X3)-yB) (Fi:Y2=u*(X-X2)-Y) (FE:Y4=v*(xA-X4)-yA) (h:X2=X4) (hX2:X2=u*u-X-xC) (ht:t≠s):Y2=Y4:=by
 have:(t-s)*(Y2-Y4)=0:=by (clear C6 v1; grind)
 rcases fQ this with h1 | h1
 · exact absurd (by grind) ht
 · (clear FE Fi; grind)
theorem Add.Jd (hP:yA*yA=xA*xA*xA+a*xA+b) (hQ:yB*yB=xB*xB*xB+a*xB+b) (hR:yC*yC=xC*xC*xC+a*xC+b)
 (n1:¬ (xB-xA=0∧yA+yB=0)) (hs:Sl a xA yA xB yB s) (hX:X=s*s-xA-xB) (hY:Y=s*(xA-X)-yA)
 (n2:¬ (xC-X=0∧Y+yC=0)) (hu:Sl a X Y xC yC u) (hX2:X2=u*u-X-xC) (Fi:Y2=u*(X-X2)-Y)
 (n3:¬ (xC-xB=0∧yB+yC=0)) (ht:Sl a xB yB xC yC t) (C6:X3=t*t-xB-xC) (Jc:Y3=t*(xB-X3)-yB)
 (n4:¬ (X3-xA=0∧yA+Y3=0)) (hv:Sl a xA yA X3 Y3 v) (Hj:X4=v*v-xA-X3) (FE:Y4=v*(xA-X4)-yA):X2=X4∧Y2=Y4:=by
 have L1:=Rp hP hQ hR hs ht hX hY hu n2 n3
 have L2:=Rp (a:=a) (b:=b) (xA:=xC) (yA:=yC) (xB:=xB) (yB:=yB) (xC:=xA) (yC:=yA) (s:=t) (t:=s) (u:=v) (X:=X3) (Y:=Y3) hR hQ hP ht.symm hs.symm (by clear L1; rw [C6]; grind) (by have t1:=ht.l; clear L1 hs ht hu hv; (clear n4; grind)) hv.symm (λ h=>n4 ⟨by have:=h.1; clear L1; grind,by have:=h.2; clear L1; grind⟩) (λ h=>n1 ⟨by have:=h.1; clear L1; grind,by have:=h.2; clear L1; grind⟩)
 by_cases hst:t=s
 · rw [hst] at L1 ht C6 Jc
   have e2:=SR L1
   have e3:=SS hs.l ht.l e2
   have eX:=SV hX C6 e2
   have eY:=SW hs.l hY Jc eX
   rw [eX,eY,← e2,← e3] at hv
   rw [← e2,eX] at Hj
   rw [← e2,← e3] at FE
   have e4:=Sl.uniq n2 hu hv.symm
   rw [← e4] at Hj FE
   exact SX hu.l hX2 Fi Hj FE
 · have e:=SY L1 L2 hst
   have e7:=S0 e L1 hX hX2 C6 Hj
   exact ⟨e7,S3 e L1 hs.l ht.l hu.l hv.l hX hY C6 Jc Fi FE e7 hX2 hst⟩
end
theorem Add.assoc {a b:F} (hr:OT a b) {P Q R U V T V':Pt F} (hP:zP a b P) (hQ:zP a b Q) (hR:zP a b R) (h1:Add a P Q U) (h2:Add a U R V) (h3:Add a Q R T) (h4:Add a P T V'):V=V':=by
 have hU:=h1.Pu hP hQ
 have hT:=h3.Pu hQ hR
 cases P with
 | none=>have:=h1.uniq .zl; subst this; have:=h4.uniq .zl; subst this; exact h2.uniq h3
 | some p =>
 cases R with
 | none=>have:=h3.uniq .zr; subst this; have:=h2.uniq .zr; subst this; exact h1.uniq h4
 | some r =>
 cases Q with
 | none=>have:=h1.uniq .zr; subst this; have:=h3.uniq .zl; subst this; exact h2.uniq h4
 | some q =>
 cases U with
 | none =>
  have e:=h1.xN
  have:=h2.uniq .zl
  subst this
  rw [e] at h3 hQ
  have h5:=Add.cancel hr hQ hR h3
  rw [tF] at h5
  exact (h4.uniq h5).symm
 | some u =>
 cases T with
 | none =>
  have e:=h3.xN
  have:=h4.uniq .zr
  subst this
  have h5:=Add.cancel hr hQ hP h1.comm
  rw [← e] at h5
  exact h2.uniq h5.comm
 | some t =>
 cases V with
 | none =>
  have e:=h2.xN
  have h5:=(Add.cancel hr hP hQ h1).neg
  rw [tF,← e] at h5
  have h6:=Add.cancel hr hR hP h5.comm
  have h7:=h6.neg
  rw [tF,tF] at h7
  have e2:=h3.uniq h7.comm
  rw [e2] at h4
  exact (h4.uniq (Add.t8 _)).symm
 | some v =>
 cases V' with
 | none =>
  have e:=h4.xN
  have h5:=(Add.cancel hr hR hQ h3.comm).neg
  rw [tF,e,tF] at h5
  have h6:=(Add.cancel hr hP hR h5.comm).neg
  rw [tF,tF] at h6
  have e2:=h1.uniq h6
  rw [e2] at h2
  exact (h2.uniq (Add.t8 _).comm)
 | some v' =>
 obtain ⟨s,n1,hs,hX,hY⟩:=h1.inv
 obtain ⟨u',n2,hu,hX2,Fi⟩:=h2.inv
 obtain ⟨t',n3,ht,C6,Jc⟩:=h3.inv
 obtain ⟨v',n4,hv,Hj,FE⟩:=h4.inv
 have e:=Add.Jd hP hQ hR n1 hs hX hY n2 hu hX2 Fi n3 ht C6 Jc n4 hv Hj FE
 exact congrArg some (Prod.ext e.1 e.2)
end
section
variable {F:Type} [Field F]
def dY (X Y Z:F) (P:Pt F):Prop:=(Z=0∧P=none)∨(Z≠0∧∃ x y,P=some (x,y)∧X=x*Z*Z∧Y=y*Z*Z*Z)
theorem dY.mk {X Y Z:F} (hz:Z≠0):dY X Y Z (some (X*Z⁻¹*Z⁻¹,Y*Z⁻¹*Z⁻¹*Z⁻¹)):=by
 have h:Z*Z⁻¹=1:=Field.mul_inv_cancel hz
 exact .inr ⟨hz,_,_,rfl,by grind,by grind⟩
theorem bT {x y:F} (hx:x≠0) (hy:y≠0):x*y≠0:=λ h=>(fQ h).elim hx hy
theorem Pw {x:F} (h:x*x=0):x=0:=(fQ h).elim id id
theorem rT {x y:F} (h:x-y=0):x=y:=by grind
theorem dY.dbl {a X Y Z M S T Y3 Z3:F} {P:Pt F} (h2:(2:F)≠0) (h:dY X Y Z P) (hz:Z≠0) (hy:Y≠0)
 (hM:M=3*(X*X)+a*(Z*Z)*(Z*Z)) (hS:S=4*X*(Y*Y)) (hT:T=M*M-2*S) (hY:Y3=M*(S-T)-8*(Y*Y)*(Y*Y)) (hZ:Z3=2*Y*Z) :
 Z3≠0∧∃ R,dY T Y3 Z3 R∧Add a P P R:=by
 rcases h with h | ⟨_,x,y,rfl,hX,LU⟩
 · exact absurd h.1 hz
 have KZ:y≠0:=λ e=>hy (by rw [LU,e]; grind)
 have FF:Z3≠0:=by rw [hZ]; exact bT (bT h2 hy) hz
 have hi:Z3*Z3⁻¹=1:=Field.mul_inv_cancel FF
 refine ⟨FF,_,dY.mk FF,?_⟩
 generalize hw:Z3⁻¹=w at hi
 clear hw FF
 have Rq:(2:F)*y≠0:=bT h2 KZ
 obtain ⟨q,hq⟩:∃ q,q=Z*Z*Z*Z*w:=⟨_,rfl⟩
 have hq1:2*y*q=1:=by rw [hq,← hi,hZ,LU]; grind
 have eM:M*w=(3*x*x+a)*q:=by rw [hq,hM,hX]; grind
 have eS:S*w*w=x:=by
  have:S*w*w=x*(2*y*q)*(2*y*q):=by rw [hq,hS,hX,LU]; grind
  rw [this,hq1]; grind
 have e8:8*(Y*Y)*(Y*Y)*w*w*w=y:=by
  have:8*(Y*Y)*(Y*Y)*w*w*w=y*(2*y*q)*(2*y*q)*(2*y*q):=by rw [hq,LU]; grind
  rw [this,hq1]; grind
 have hs:(M*w)*(2*y)=3*x*x+a:=by rw [eM]; grind
 have eT:T*w*w=M*w*(M*w)-x-x:=by
  have:T*w*w=M*w*(M*w)-S*w*w-S*w*w:=by rw [hT]; clear hT hq hq1 eM eS e8 hs hi hM hS hY hZ; grind
  rw [this,eS]
 have eY:Y3*w*w*w=M*w*(x-T*w*w)-y:=by
  have:Y3*w*w*w=M*w*(S*w*w-T*w*w)-8*(Y*Y)*(Y*Y)*w*w*w:=by rw [hY]; clear hT hq hq1 eM eS e8 hs hi hM hS hY hZ eT; grind
  rw [this,eS,e8]
 exact .gen (s:=M*w) (λ h=>Rq (by (clear Rq; grind))) ⟨by grind,by grind⟩ eT eY
theorem dY.Px {a X Y Z:F} {P:Pt F} (h2:(2:F)≠0) (h:dY X Y Z P) (hy:Z=0∨Y=0):Add a P P none:=by
 rcases h with h | ⟨hz,x,y,rfl,hX,LU⟩
 · rw [h.2]; exact .zl
 rcases hy with hy | hy
 · exact absurd hy hz
 refine .CV ?_
 have h1:y*(Z*Z*Z)=0:=by grind
 rcases fQ h1 with h | h
 · grind
 · exact absurd h (bT (bT hz hz) hz)
theorem dY.add {a X1 Y1 Z1 X2 Y2 Z2 U1 U2 S1 S2 H r X3 Y3 Z3:F} {P Q:Pt F} (hP:zP a b P) (hQ:zP a b Q) (h2:(2:F)≠0) (h:dY X1 Y1 Z1 P) (h':dY X2 Y2 Z2 Q) (hz1:Z1≠0) (hz2:Z2≠0)
 (Py:U1=X1*(Z2*Z2)) (Rr:U2=X2*(Z1*Z1)) (Rt:S1=Y1*Z2*(Z2*Z2)) (S4:S2=Y2*Z1*(Z1*Z1)) (hH:H=U2-U1) (hr:r=2*(S2-S1)) (hn:H≠0)
 (hX:X3=r*r-4*H*H*H-2*(U1*(4*H*H))) (hY:Y3=r*(U1*(4*H*H)-X3)-2*S1*(4*H*H*H)) (hZ:Z3=2*Z1*Z2*H) :
 Z3≠0∧∃ R,dY X3 Y3 Z3 R∧Add a P Q R:=by
 rcases h with h | ⟨_,x1,y1,rfl,OU,Pz⟩
 · exact absurd h.1 hz1
 rcases h' with h | ⟨_,x2,y2,rfl,hX2,Fi⟩
 · exact absurd h.1 hz2
 have FF:Z3≠0:=by rw [hZ]; exact bT (bT (bT h2 hz1) hz2) hn
 have hi:Z3*Z3⁻¹=1:=Field.mul_inv_cancel FF
 have hx:x2-x1≠0:=λ e=>hn (by rw [hH,Rr,Py,OU,hX2]; grind)
 have hP:y1*y1=x1*x1*x1+a*x1+b:=hP
 have hQ:y2*y2=x2*x2*x2+a*x2+b:=hQ
 refine ⟨FF,_,dY.mk FF,?_⟩
 generalize hw:Z3⁻¹=w at hi
 clear hw FF
 obtain ⟨q,hq⟩:∃ q,q=Z1*Z1*Z1*(Z2*Z2*Z2)*w:=⟨_,rfl⟩
 have eH:H=(x2-x1)*(Z1*Z1*(Z2*Z2)):=by rw [hH,Rr,Py,OU,hX2]; grind
 have er:r=2*(y2-y1)*(Z1*Z1*Z1*(Z2*Z2*Z2)):=by rw [hr,S4,Rt,Pz,Fi]; grind
 have hq1:2*(x2-x1)*q=1:=by rw [hq,← hi,hZ,eH]; grind
 have s0:r*w=2*(y2-y1)*q:=by rw [er,hq]; grind
 have s1:y2-y1=r*w*(x2-x1):=by rw [s0]; grind
 have s2:r*w*(y1+y2)=x1*x1+x1*x2+x2*x2+a:=by
  have h1:(x2-x1)*(r*w*(y1+y2)-(x1*x1+x1*x2+x2*x2+a))=0:=by (clear hY hX; grind)
  rcases fQ h1 with h | h
  · exact absurd h hx
  · (clear s0 hY hX; grind)
 have eV:U1*(4*H*H)*w*w=x1:=by
  have:U1*(4*H*H)*w*w=x1*(2*(x2-x1)*q)*(2*(x2-x1)*q):=by rw [hq,Py,OU,eH]; grind
  rw [this,hq1]; grind
 have eJ:4*H*H*H*w*w=x2-x1:=by
  have:4*H*H*H*w*w*(Z1*Z1*(Z2*Z2))=(x2-x1)*(2*(x2-x1)*q)*(2*(x2-x1)*q)*(Z1*Z1*(Z2*Z2)):=by rw [hq,eH]; grind
  rw [hq1] at this
  have hne:Z1*Z1*(Z2*Z2)≠0:=bT (bT hz1 hz1) (bT hz2 hz2)
  have h1:(4*H*H*H*w*w-(x2-x1))*(Z1*Z1*(Z2*Z2))=0:=by
   clear hX hY hZ hq hq1 s0 s1 s2 eV hi eH er hH hr hP hQ
   generalize 4*H*H*H*w*w=A at this ⊢
   generalize Z1*Z1*(Z2*Z2)=K at this ⊢
   grind
  rcases fQ h1 with h | h
  · exact rT h
  · exact absurd h hne
 have e3:2*S1*(4*H*H*H)*w*w*w=y1:=by
  have:2*S1*(4*H*H*H)*w*w*w=y1*(2*(x2-x1)*q)*(2*(x2-x1)*q)*(2*(x2-x1)*q):=by rw [hq,Rt,Pz,eH]; grind
  rw [this,hq1]; grind
 have eX:X3*w*w=r*w*(r*w)-x1-x2:=by
  have:X3*w*w=r*w*(r*w)-4*H*H*H*w*w-2*(U1*(4*H*H)*w*w):=by rw [hX]; clear hX hY hZ hq hq1 s0 s1 s2 eV eJ e3 hi eH er hH hr hP hQ; grind
  rw [this,eV,eJ]; clear hX hY hZ hq hq1 s0 s1 s2 eV eJ e3 hi eH er hH hr hP hQ this; grind
 have eY:Y3*w*w*w=r*w*(x1-X3*w*w)-y1:=by
  have:Y3*w*w*w=r*w*(U1*(4*H*H)*w*w-X3*w*w)-2*S1*(4*H*H*H)*w*w*w:=by rw [hY]; clear hX hY hZ hq hq1 s0 s1 s2 eV eJ e3 hi eH er hH hr hP hQ eX; grind
  rw [this,eV,e3]
 exact .gen (s:=r*w) (λ h=>hx h.1) ⟨s1,s2⟩ eX eY
theorem dY.LV {a b X1 Y1 Z1 X2 Y2 Z2:F} {P Q:Pt F} (hP:zP a b P) (hQ:zP a b Q) (h:dY X1 Y1 Z1 P) (h':dY X2 Y2 Z2 Q) (hz1:Z1≠0) (hz2:Z2≠0)
 (hH:X2*(Z1*Z1)=X1*(Z2*Z2)):(Y2*Z1*(Z1*Z1)=Y1*Z2*(Z2*Z2)∧P=Q)∨(Y2*Z1*(Z1*Z1)≠Y1*Z2*(Z2*Z2)∧Add a P Q none):=by
 rcases h with h | ⟨_,x1,y1,rfl,OU,Pz⟩
 · exact absurd h.1 hz1
 rcases h' with h | ⟨_,x2,y2,rfl,hX2,Fi⟩
 · exact absurd h.1 hz2
 have hP:y1*y1=x1*x1*x1+a*x1+b:=hP
 have hQ:y2*y2=x2*x2*x2+a*x2+b:=hQ
 have hne:Z1*Z1*Z2*Z2≠0:=bT (bT (bT hz1 hz1) hz2) hz2
 have ex:x2=x1:=by
  have h1:(x2-x1)*(Z1*Z1*Z2*Z2)=0:=by (clear hne left_1 hz2; grind)
  rcases fQ h1 with h | h
  · grind
  · exact absurd h hne
 subst ex
 by_cases hy:y1=y2
 · subst hy; exact .inl ⟨by (clear left_1 hz2; grind),rfl⟩
 · refine .inr ⟨λ e=>hy ?_,.CV ?_⟩
   · have h1:(y2-y1)*(Z1*Z1*Z2*Z2*Z1*Z2)=0:=by (clear hy hne left_1 left hz2 hz1; grind)
     rcases fQ h1 with h | h
     · grind
     · exact absurd h (bT (bT hne hz1) hz2)
   · have h1:(y1-y2)*(y1+y2)=0:=by grind
     rcases fQ h1 with h | h
     · exact absurd (by grind) hy
     · exact h
end
noncomputable abbrev G:=Option (Int×Int)
noncomputable def inv (p n:Int):Int:=(n%p)^(p-2).toNat%p
noncomputable def plus (p a:Int):G→G→G
 | none,Q=>Q
 | some P,none=>some P
 | some P,some Q=>if P.1=Q.1∧(P.2+Q.2)%p=0 then none else
  some (((if P=Q then (3*P.1*P.1+a)*inv p (2*P.2)%p else (Q.2-P.2)*inv p (Q.1-P.1)%p)*(if P=Q then (3*P.1*P.1+a)*inv p (2*P.2)%p else (Q.2-P.2)*inv p (Q.1-P.1)%p)-P.1-Q.1)%p,
   ((if P=Q then (3*P.1*P.1+a)*inv p (2*P.2)%p else (Q.2-P.2)*inv p (Q.1-P.1)%p)*(P.1-((if P=Q then (3*P.1*P.1+a)*inv p (2*P.2)%p else (Q.2-P.2)*inv p (Q.1-P.1)%p)*(if P=Q then (3*P.1*P.1+a)*inv p (2*P.2)%p else (Q.2-P.2)*inv p (Q.1-P.1)%p)-P.1-Q.1)%p)-P.2)%p)
noncomputable def minus (p:Int):G→G
 | none=>none
 | some P=>some (P.1,(0-P.2)%p)
noncomputable def On (p a b:Int):G→Prop
 | none=>True
 | some P=>(0≤P.1∧P.1<p)∧(0≤P.2∧P.2<p)∧(P.2*P.2-(P.1*P.1*P.1+a*P.1+b))%p=0
noncomputable def Rep (p X Y Z:Int):G→Prop
 | none=>Z%p=0
 | some P=>Z%p≠0∧(X-P.1*Z*Z)%p=0∧(Y-P.2*Z*Z*Z)%p=0
structure Cv (p a b:Int):Prop where
 lo:5≤p
 hi:p≤101
 field:∃ (F:Type) (_:Field F),IsCharP F p.toNat
 fG:∀ n:Int,n%p≠0→(n*inv p n)%p=1
 PA:(4*a*a*a+27*b*b)%p≠0
noncomputable def c (F:Type) [Field F] (x:Int):F:=(Ring.intCast (α:=F)).intCast x
section
variable {F:Type} [Field F]
theorem sM (x y:Int):c F (x+y)=c F x+c F y:=Ring.intCast_add x y
theorem bR (x y:Int):c F (x-y)=c F x-c F y:=Ring.intCast_sub x y
theorem aS (x y:Int):c F (x*y)=c F x*c F y:=Ring.intCast_mul x y
theorem PB (x:Int):c F (-x)=-c F x:=Ring.intCast_neg x
theorem Hl:c F 0=0:=Ring.intCast_ofNat 0
theorem AR:c F 1=1:=Ring.intCast_ofNat 1
theorem zQ:c F 2=2:=Ring.intCast_ofNat 2
theorem Ru:c F 3=3:=Ring.intCast_ofNat 3
theorem LW:c F 4=4:=Ring.intCast_ofNat 4
theorem S5:c F 8=8:=Ring.intCast_ofNat 8
theorem Je:c F 27=27:=Ring.intCast_ofNat 27
end
section
variable {F:Type} [Field F] {p:Nat} [IsCharP F p]
theorem c0 {x:Int}:(c F (x))=0↔x%p=0:=IsCharP.intCast_eq_zero_iff p x
theorem S6 {x y:Int}:(c F (x))=(c F (y))↔x%p=y%p:=IsCharP.intCast_ext_iff p
theorem cmod (x:Int):c F (x%p)=c F x:=IsCharP.intCast_emod p x
theorem vF {x y:Int} (hx:0≤x∧x<p) (hy:0≤y∧y<p) (h:(c F (x))=(c F (y))):x=y:=by
 rw [S6 (p:=p),Int.emod_eq_of_lt hx.1 hx.2,Int.emod_eq_of_lt hy.1 hy.2] at h
 exact h
noncomputable def Φ (F:Type) [Field F] (P:G):Pt F:=P.map λ q=>((c F (q.1)),(c F (q.2)))
theorem sN {a b:Int} {P Q:G} (hP:On p a b P) (hQ:On p a b Q) (h:Φ F P=Φ F Q):P=Q:=by
 cases P with
 | none=>cases Q with
  | none=>rfl
  | some q=>cases h
 | some r=>cases Q with
  | none=>cases h
  | some q =>
   injection h with h
   injection h with h1 h2
   have e1:=vF hP.1 hQ.1 h1
   have e2:=vF hP.2.1 hQ.2.1 h2
   rw [Prod.ext e1 e2]
theorem fO {a b:Int} {P:G} (h:On p a b P):zP (c F a) (c F b) (Φ F P):=by
 cases P with
 | none=>trivial
 | some P =>
  have h:=h.2.2
  rw [← c0 (F:=F) (p:=p)] at h
  simp only [sM,bR,aS] at h
  show (c F (P.2))*(c F (P.2))=(c F (P.1))*(c F (P.1))*(c F (P.1))+(c F (a))*(c F (P.1))+(c F (b))
  grind
theorem Ho {a b:Int} {x y:Int} (hx:0≤x∧x<p) (hy:0≤y∧y<p) (h:zP (c F a) (c F b) (Φ F (some (x,y)))):On p a b (some (x,y)):=by
 refine ⟨hx,hy,?_⟩
 rw [← c0 (F:=F) (p:=p)]
 have h:(c F (y))*(c F (y))=(c F (x))*(c F (x))*(c F (x))+(c F (a))*(c F (x))+(c F (b)):=h
 simp only [sM,bR,aS]
 grind
theorem c2 (h5:5≤p):(2:F)≠0:=λ h=>by
 have e:(2:F)=(c F (2)):=(zQ).symm
 rw [e,c0 (p:=p)] at h
 have:(2:Int)%p=2:=Int.emod_eq_of_lt (by decide) (by lia)
 exact Lq.f (Lq.ls (Int.le_of_eq h) (by decide)) (Int.le_of_eq this.symm)
theorem S7 {a b:Int} (h5:5≤p) (hd:(4*a*a*a+27*b*b)%(p:Int)≠0):OT (c F a) (c F b):=by
 refine ⟨λ h=>hd ?_,c2 h5⟩
 rw [← c0 (F:=F) (p:=p)]
 simp only [sM,aS]
 have e:(c F (4))=4:=LW
 have e':(c F (27))=27:=Je
 rw [e,e']; exact h
theorem LX (hf:∀ n:Int,n%p≠0→(n*inv p n)%p=1) {n:Int} (h:(c F (n))≠0):(c F (n))*(c F (inv p n))=1:=by
 have h1:=hf n λ e=>h (c0.mpr e)
 rw [← aS,← cmod (p:=p),h1]; exact AR
theorem tU (h5:5≤p) (x:Int):0≤x%p∧x%p<p:=⟨Int.emod_nonneg _ (by lia),Int.emod_lt_of_pos _ (by lia)⟩
theorem Jf (h5:5≤p) {y z:Int}:((y+z)%p=0)↔(c F (y))+(c F (z))=0:=by rw [← c0 (F:=F) (p:=p),sM]
theorem cZ {a b:Int} (h5:5≤p) (hf:∀ n:Int,n%p≠0→(n*inv p n)%p=1) {P Q:G} (hP:On p a b P) (hQ:On p a b Q):Add (c F a) (Φ F P) (Φ F Q) (Φ F (plus p a P Q))∧On p a b (plus p a P Q):=by
 cases P with
 | none=>exact ⟨.zl,hQ⟩
 | some P =>
 cases Q with
 | none=>exact ⟨.zr,hP⟩
 | some Q =>
 have oP:=fO (F:=F) hP
 have oQ:=fO (F:=F) hQ
 obtain ⟨x1,y1⟩:=P
 obtain ⟨x2,y2⟩:=Q
 by_cases h:x1=x2∧(y1+y2)%(p:Int)=0
 · rw [show plus p a (some (x1,y1)) (some (x2,y2))=none from if_pos h]
   obtain ⟨h1,h2⟩:=h
   subst h1
   exact ⟨.CV ((Jf h5).mp h2),trivial⟩
 · rw [show plus p a (some (x1,y1)) (some (x2,y2))=_ from if_neg h]
   dsimp only
   generalize hs:(if ((x1,y1):Int×Int)=(x2,y2) then (3*x1*x1+a)*inv p (2*y1)%(p:Int) else (y2-y1)*inv p (x2-x1)%(p:Int))=s
   have hn:¬ ((c F (x2))-(c F (x1))=0∧(c F (y1))+(c F (y2))=0):=λ ⟨e1,e2⟩=>h ⟨(vF (F:=F) hP.1 hQ.1 (by grind)),(Jf h5).mpr e2⟩
   have sl:Sl (c F a) (c F (x1)) (c F (y1)) (c F (x2)) (c F (y2)) (c F (s)):=by
    have oP:(c F (y1))*(c F (y1))=(c F (x1))*(c F (x1))*(c F (x1))+(c F (a))*(c F (x1))+(c F (b)):=oP
    have oQ:(c F (y2))*(c F (y2))=(c F (x2))*(c F (x2))*(c F (x2))+(c F (a))*(c F (x2))+(c F (b)):=oQ
    by_cases e:((x1,y1):Int×Int)=(x2,y2)
    · rw [if_pos e] at hs
      injection e with e1 e2
      subst e1 e2
      have S8:(c F (2*y1))≠0:=λ e=>hn ⟨by grind,by
       rw [aS] at e
       have e2:(c F (2))=2:=zQ
       rw [e2] at e; grind⟩
      have hi:=LX hf S8
      have es:(c F (s))=(3*(c F (x1))*(c F (x1))+(c F (a)))*(c F (inv p (2*y1))):=by
       rw [← hs,cmod]
       simp only [sM,aS]
       have e3:(c F (3))=3:=Ru
       rw [e3]
      rw [aS] at hi
      have e2:(c F (2))=2:=zQ
      rw [e2] at hi
      exact ⟨by grind,by rw [es]; clear es hs hn h hP hQ oP oQ; grind⟩
    · rw [if_neg e] at hs
      have hx:(c F (x2-x1))≠0:=λ e1=>by
       rw [bR] at e1
       have e2:x1=x2:=vF (F:=F) hP.1 hQ.1 (by grind)
       subst e2
       have h3:((c F (y1))-(c F (y2)))*((c F (y1))+(c F (y2)))=0:=by grind
       rcases fQ h3 with h4 | h4
       · have e5:y1=y2:=vF (F:=F) hP.2.1 hQ.2.1 (rT h4)
         exact e (by rw [e5])
       · exact hn ⟨by omega,h4⟩
      have hi:=LX hf hx
      have es:(c F (s))=((c F (y2))-(c F (y1)))*(c F (inv p (x2-x1))):=by
       rw [← hs,cmod]
       simp only [bR,aS]
      rw [bR] at hi hx
      have s1:(c F (y2))-(c F (y1))=(c F (s))*((c F (x2))-(c F (x1))):=by rw [es]; clear es hs hn h hP hQ oP oQ; grind
      refine ⟨s1,?_⟩
      have h1:((c F (x2))-(c F (x1)))*((c F (s))*((c F (y1))+(c F (y2)))-((c F (x1))*(c F (x1))+(c F (x1))*(c F (x2))+(c F (x2))*(c F (x2))+(c F (a))))=0:=by clear es hs hn h hP hQ hi; grind
      rcases fQ h1 with h | h
      · exact absurd h hx
      · exact rT h
   have ad:Add (c F a) (Φ F (some (x1,y1))) (Φ F (some (x2,y2))) (Φ F (some ((s*s-x1-x2)%p,(s*(x1-(s*s-x1-x2)%p)-y1)%p))) :=
    .gen (s:=(c F (s))) hn sl (by dsimp only; rw [cmod]; simp only [bR,aS]) (by dsimp only; rw [cmod]; simp only [bR,aS])
   exact ⟨ad,Ho (tU h5 _) (tU h5 _) (ad.Pu oP oQ)⟩
theorem vG {a b:Int} (h5:5≤p) {P:G} (hP:On p a b P):Φ F (minus p P)=ng (Φ F P)∧On p a b (minus p P):=by
 cases P with
 | none=>exact ⟨rfl,trivial⟩
 | some P =>
  have e:Φ F (minus p (some P))=ng (Φ F (some P)):=by
   show some ((c F (P.1)),(c F ((0-P.2)%p)))=some ((c F (P.1)),-(c F (P.2)))
   rw [cmod,bR,Hl]
   have:(0:F)-(c F (P.2))=-(c F (P.2)):=by grind
   rw [this]
  refine ⟨e,Ho (F:=F) hP.1 (tU h5 _) ?_⟩
  have:=Jb (fO (F:=F) hP)
  rw [← e] at this
  exact this
theorem rU {a b X Y Z:Int} {P:G} (hP:On p a b P):Rep p X Y Z P↔dY (c F X) (c F Y) (c F Z) (Φ F P):=by
 cases P with
 | none =>
  constructor
  · intro h; exact .inl ⟨(c0 (F:=F) (p:=p)).mpr h,rfl⟩
  · intro h
    rcases h with h | ⟨_,x,y,h,_⟩
    · exact (c0 (F:=F) (p:=p)).mp h.1
    · cases h
 | some P =>
  obtain ⟨x,y⟩:=P
  constructor
  · intro ⟨h1,h2,h3⟩
    refine .inr ⟨λ e=>h1 ((c0 (F:=F) (p:=p)).mp e),_,_,rfl,?_,?_⟩
    · have:=(c0 (F:=F) (p:=p)).mpr h2
      simp only [bR,aS] at this
      exact rT this
    · have:=(c0 (F:=F) (p:=p)).mpr h3
      simp only [bR,aS] at this
      exact rT this
  · intro h
    rcases h with h | ⟨hz,x',y',e,h1,h2⟩
    · cases h.2
    · injection e with e
      injection e with e1 e2
      subst e1 e2
      refine ⟨λ e=>hz ((c0 (F:=F) (p:=p)).mpr e),(c0 (F:=F) (p:=p)).mp ?_,(c0 (F:=F) (p:=p)).mp ?_⟩
      · simp only [bR,aS]; rw [h1]; grind
      · simp only [bR,aS]; rw [h2]; grind
end
set_option linter.unusedSimpArgs false
section
variable {F:Type} [Field F]
theorem dY.FG {X Y Z l:F} {P:Pt F} (hl:l≠0) (h:dY (l*l*X) (l*l*l*Y) (l*Z) P):dY X Y Z P:=by
 rcases h with ⟨h1,h2⟩ | ⟨h1,x,y,h2,h3,h4⟩
 · refine .inl ⟨?_,h2⟩
   rcases fQ h1 with h | h
   · exact absurd h hl
   · exact h
 · refine .inr ⟨λ e=>h1 (by rw [e]; grind),x,y,h2,?_,?_⟩
   · have h5:(l*l)*(X-x*Z*Z)=0:=by (clear h1 hl; grind)
     rcases fQ h5 with h | h
     · exact absurd h (bT hl hl)
     · exact rT h
   · have h5:(l*l*l)*(Y-y*Z*Z*Z)=0:=by (clear h1 hl; grind)
     rcases fQ h5 with h | h
     · exact absurd h (bT (bT hl hl) hl)
     · exact rT h
end
theorem FH (x:Int):x^(2:Int).toNat=x*x:=by
 show x^2=x*x
 rw [Int.pow_succ,Int.pow_succ,Int.pow_zero,Int.one_mul]
theorem S9 (x:Int):x^(3:Int).toNat=x*x*x:=by
 show x^3=x*x*x
 rw [Int.pow_succ,Int.pow_succ,Int.pow_succ,Int.pow_zero,Int.one_mul]
section
variable {p a b:Int}
theorem Cv.go (C:Cv p a b) {q:Prop} (h:∀ (n:Nat) (F:Type) (_:Field F) (_:IsCharP F n),p=(n:Int)→5≤n→(2:F)≠0→OT (c F a) (c F b)→q):q:=by
 obtain ⟨F,fi,hc⟩:=C.field
 have h5:=C.lo
 have hd:=C.PA
 obtain ⟨n,hn⟩:=Int.eq_ofNat_of_zero_le (show 0≤p by exact Lq.ll (by decide) h5)
 subst hn
 rw [Int.toNat_natCast] at hc
 exact h n F fi hc rfl (Lq.IG h5) (c2 (F:=F) (p:=n) (Lq.IG h5)) (S7 (F:=F) (p:=n) (Lq.IG h5) hd)
theorem cQ (C:Cv p a b) {P Q:G} (hP:On p a b P) (hQ:On p a b Q):On p a b (plus p a P Q):=C.go λ n F _ _ e h5 _ _=>by
 subst e; exact (cZ (F:=F) h5 C.fG hP hQ).2
theorem bD (C:Cv p a b) {P:G} (hP:On p a b P):On p a b (minus p P):=C.go λ n F _ _ e h5 _ _=>by
 subst e; exact (vG (F:=F) h5 hP).2
theorem w6 (C:Cv p a b) {P Q:G} (hP:On p a b P) (hQ:On p a b Q):plus p a P Q=plus p a Q P:=C.go λ n F _ _ e h5 _ _=>by
 subst e
 exact sN (F:=F) (cQ C hP hQ) (cQ C hQ hP) ((cZ (F:=F) h5 C.fG hP hQ).1.uniq (cZ (F:=F) h5 C.fG hQ hP).1.comm)
theorem lN (C:Cv p a b) {P:G} (hP:On p a b P):plus p a P (minus p P)=none:=C.go λ n F _ _ e h5 _ _=>by
 subst e
 have h:=(cZ (F:=F) h5 C.fG hP (bD C hP)).1
 rw [(vG (F:=F) h5 hP).1] at h
 exact sN (F:=F) (Q:=none) (cQ C hP (bD C hP)) trivial (h.uniq (Add.t8 _))
theorem d8 (C:Cv p a b) {P Q R:G} (hP:On p a b P) (hQ:On p a b Q) (hR:On p a b R):plus p a (plus p a P Q) R=plus p a P (plus p a Q R):=C.go λ n F _ _ e h5 _ hr=>by
 subst e
 have Rv:=cQ C hP hQ
 have ho2:=cQ C hQ hR
 exact sN (F:=F) (cQ C Rv hR) (cQ C hP ho2)
  (Add.assoc hr (fO hP) (fO hQ) (fO hR) (cZ (F:=F) h5 C.fG hP hQ).1 (cZ (F:=F) h5 C.fG Rv hR).1 (cZ (F:=F) h5 C.fG hQ hR).1 (cZ (F:=F) h5 C.fG hP ho2).1)
theorem zU {n:Nat} {F:Type} [Field F] [IsCharP F n] (C:Cv (n:Int) a b) (h5:5≤n) {P Q:G} (hP:On n a b P) (hQ:On n a b Q) {X Y Z:Int} (h:∃ R,dY (c F X) (c F Y) (c F Z) R∧Add (c F a) (Φ F P) (Φ F Q) R):Rep n X Y Z (plus n a P Q):=by
 obtain ⟨R,h1,h2⟩:=h
 have h3:=cZ (F:=F) h5 C.fG hP hQ
 rw [h2.uniq h3.1] at h1
 exact (rU (F:=F) h3.2).mpr h1
theorem none_of {n:Nat} {F:Type} [Field F] [IsCharP F n] (C:Cv (n:Int) a b) (h5:5≤n) {P Q:G} (hP:On n a b P) (hQ:On n a b Q) (h:Add (c F a) (Φ F P) (Φ F Q) none):plus n a P Q=none:=by
 have h3:=cZ (F:=F) h5 C.fG hP hQ
 exact sN (F:=F) (Q:=none) h3.2 trivial (h3.1.uniq h)
theorem xO (C:Cv p a b) {P:G} (hP:On p a b P) {X1 Y1 Z1 XX YY wG ZZ S M T Y3 Z3:Int} (h:Rep p X1 Y1 Z1 P) (e1:XX=X1*X1%p) (e2:YY=Y1*Y1%p) (e3:wG=YY*YY%p) (e4:ZZ=Z1*Z1%p)
 (e5:S=2*((X1+YY)^(2:Int).toNat-XX-wG)%p) (e6:M%p=(3*XX+a*ZZ*ZZ)%p) (e7:T=(M*M-2*S)%p) (e8:Y3=(M*(S-T)-8*wG)%p) (e9:Z3=((Y1+Z1)^(2:Int).toNat-YY-ZZ)%p) :
 (YY=0→plus p a P P=none)∧(YY≠0→Z1%p≠0→Rep p T Y3 Z3 (plus p a P P)):=C.go λ n F _ _ en h5 h2 _=>by
 subst en
 rw [rU (F:=F) hP] at h
 have f2:c F YY=c F Y1*c F Y1:=by rw [e2]; simp only [cmod,aS]
 refine ⟨λ hy=>?_,λ hy hz=>?_⟩
 · refine none_of (F:=F) C h5 hP hP (dY.Px h2 h (.inr ?_))
   rw [hy,Hl] at f2
   exact Pw f2.symm
 · have hy1:c F Y1≠0:=λ e=>hy (by
    have:c F YY=c F 0:=by rw [f2,e,Hl]; grind
    have h0:=tU h5 (Y1*Y1)
    rw [← e2] at h0
    exact vF (F:=F) h0 ⟨Int.le_refl 0,Lq.ls h0.1 h0.2⟩ this)
   have hz1:c F Z1≠0:=λ e=>hz ((c0 (F:=F)).mp e)
   have f1:c F XX=c F X1*c F X1:=by rw [e1]; simp only [cmod,aS]
   have f3:c F wG=c F YY*c F YY:=by rw [e3]; simp only [cmod,aS]
   have f4:c F ZZ=c F Z1*c F Z1:=by rw [e4]; simp only [cmod,aS]
   have f5:c F S=2*((c F X1+c F YY)*(c F X1+c F YY)-c F XX-c F wG):=by rw [e5,FH]; simp only [cmod,aS,bR,sM,zQ]
   have f6:c F M=3*c F XX+c F a*c F ZZ*c F ZZ:=by
    rw [← cmod (p:=n) M,e6]; simp only [cmod,aS,bR,sM,Ru]
   have f7:c F T=c F M*c F M-2*c F S:=by rw [e7]; simp only [cmod,aS,bR,sM,zQ]
   have f8:c F Y3=c F M*(c F S-c F T)-8*c F wG:=by rw [e8]; simp only [cmod,aS,bR,sM,S5]
   have f9:c F Z3=(c F Y1+c F Z1)*(c F Y1+c F Z1)-c F YY-c F ZZ:=by rw [e9,FH]; simp only [cmod,aS,bR,sM]
   exact zU (F:=F) C h5 hP hP (dY.dbl h2 h hz1 hy1 (S:=c F S) (M:=c F M) (by first | (rw [f6,f1,f4]; done) | (rw [f6,f1,f4]; grind)) (by rw [f5,f1,f3,f2]; grind) f7 (by rw [f8,f3,f2]; grind) (by rw [f9,f2,f4]; grind)).2
theorem AS (C:Cv p a b) {P:G} (hP:On p a b P) {X1 Y1 XX YY wG S M T Y3 Z3:Int} (h:Rep p X1 Y1 1 P) (e1:XX=X1*X1%p) (e2:YY=Y1*Y1%p) (e3:wG=YY*YY%p)
 (e5:S=2*((X1+YY)^(2:Int).toNat-XX-wG)%p) (e6:M=3*XX+a) (e7:T=(M*M-2*S)%p) (e8:Y3=(M*(S-T)-8*wG)%p) (e9:Z3=2*Y1%p) :
 (YY=0→plus p a P P=none)∧(YY≠0→Rep p T Y3 Z3 (plus p a P P)):=by
 have h5:=C.lo
 have h1:(1:Int)%p=1:=Int.emod_eq_of_lt (by decide) (by lia)
 have H:=xO C hP (ZZ:=1) (S:=S) (M:=M) (T:=T) (Y3:=Y3) (Z3:=((Y1+1)^(2:Int).toNat-YY-1)%p) h e1 e2 e3 (by rw [Int.one_mul,h1]) e5 (by rw [e6]; simp) e7 e8 rfl
 refine ⟨H.1,λ hy=>?_⟩
 have H2:=H.2 hy (by rw [h1]; exact Lq.y (by decide))
 have:((Y1+1)^(2:Int).toNat-YY-1)%p=Z3:=by
  rw [e9,e2,FH]
  have e':=Int.mul_ediv_add_emod (Y1*Y1) p
  have e3:(Y1+1)*(Y1+1)=Y1*Y1+2*Y1+1:=by grind
  have LY:(Y1+1)*(Y1+1)-Y1*Y1%p-1=2*Y1+p*(Y1*Y1 / p):=by lia
  rw [LY,Int.add_mul_emod_self_left]
 rwa [this] at H2
theorem zV {n:Nat} {F:Type} [Field F] [IsCharP F n] (C:Cv (n:Int) a b) (h5:5≤n) (h2:(2:F)≠0) {P Q:G} (hP:On n a b P) (hQ:On n a b Q) {X1 Y1 Z1 X2 Y2 Z2 X3 Y3 Z3:Int} {H r:F} (h:Rep n X1 Y1 Z1 P) (h':Rep n X2 Y2 Z2 Q) (hz1:Z1%n≠0) (hz2:Z2%n≠0)
 (hH:H=c F X2*(c F Z1*c F Z1)-c F X1*(c F Z2*c F Z2)) (hr:r=2*(c F Y2*c F Z1*(c F Z1*c F Z1)-c F Y1*c F Z2*(c F Z2*c F Z2)))
 (hX:c F X3=r*r-4*H*H*H-2*(c F X1*(c F Z2*c F Z2)*(4*H*H))) (hY:c F Y3=r*(c F X1*(c F Z2*c F Z2)*(4*H*H)-c F X3)-2*(c F Y1*c F Z2*(c F Z2*c F Z2))*(4*H*H*H)) (hZ:c F Z3=2*c F Z1*c F Z2*H) :
 (H=0→r=0→P=Q)∧(¬ (H=0∧r=0)→Rep n X3 Y3 Z3 (plus n a P Q)):=by
 rw [rU (F:=F) hP] at h
 rw [rU (F:=F) hQ] at h'
 have g1:c F Z1≠0:=λ e=>hz1 ((c0 (F:=F)).mp e)
 have g2:c F Z2≠0:=λ e=>hz2 ((c0 (F:=F)).mp e)
 by_cases h0:H=0
 · have h0':c F X2*(c F Z1*c F Z1)=c F X1*(c F Z2*c F Z2):=rT (by rw [← hH]; exact h0)
   have A:=dY.LV (fO hP) (fO hQ) h h' g1 g2 h0'
   refine ⟨λ _ hr0=>?_,λ hn=>?_⟩
   · rcases A with A | A
     · exact sN hP hQ A.2
     · refine absurd ?_ A.1
       rw [hr] at hr0
       rcases fQ hr0 with e | e
       · exact absurd e h2
       · exact rT e
   · rcases A with A | A
     · refine absurd ⟨h0,?_⟩ hn
       rw [hr,A.1]; (clear hH; grind)
     · rw [none_of (F:=F) C h5 hP hQ A.2]
       refine (c0 (F:=F) (p:=n)).mp ?_
       rw [hZ,h0]; grind
 · refine ⟨λ e=>absurd e h0,λ _=>?_⟩
   exact zU (F:=F) C h5 hP hQ (dY.add (fO hP) (fO hQ) h2 h h' g1 g2 rfl rfl rfl rfl hH hr h0 hX hY hZ).2
theorem qI (C:Cv p a b):(1:Int)%p≠0:=by
 have h5:=C.lo
 have h1:(1:Int)%p=1:=Int.emod_eq_of_lt (by decide) (by lia)
 lia
theorem sO {n:Nat} {F:Type} [Field F] [IsCharP F n] {x:Int} (h:0≤x∧x<n):c F x=0↔x=0:=by
 constructor
 · intro e
   rw [c0 (p:=n)] at e
   rw [← e,Int.emod_eq_of_lt h.1 h.2]
 · intro e; rw [e,Hl]
theorem AU (C:Cv p a b) {P Q:G} (hP:On p a b P) (hQ:On p a b Q) {X1 Y1 Z1 X2 Y2 Z2 CW K2 U1 U2 S1 S2 H I J r V X3 Y3 Z3:Int} (h:Rep p X1 Y1 Z1 P) (h':Rep p X2 Y2 Z2 Q) (hz1:Z1%p≠0) (hz2:Z2%p≠0)
 (e1:CW=Z1*Z1%p) (e2:K2=Z2*Z2%p) (e3:U1=X1*K2%p) (e4:U2=X2*CW%p) (e5:S1=Y1*Z2*K2%p) (e6:S2=Y2*Z1*CW%p) (e7:H=U2-U1) (e8:I=4*H*H%p) (e9:J=H*I%p) (Hq:r=2*(S2-S1)%p) (K3:V=U1*I)
 (Jg:X3=(r*r-J-2*V)%p) (LZ:Y3=(r*(V-X3)-2*S1*J)%p) (Ma:Z3=((Z1+Z2)^(2:Int).toNat-CW-K2)*H%p) :
 (H=0→r=0→P=Q)∧(¬ (H=0∧r=0)→Rep p X3 Y3 Z3 (plus p a P Q)):=C.go λ n F _ _ en h5 h2 _=>by
 subst en
 have f1:c F CW=c F Z1*c F Z1:=by rw [e1]; simp only [cmod,aS]
 have f2:c F K2=c F Z2*c F Z2:=by rw [e2]; simp only [cmod,aS]
 have f3:c F U1=c F X1*(c F Z2*c F Z2):=by rw [e3]; simp only [cmod,aS,f2]
 have f4:c F U2=c F X2*(c F Z1*c F Z1):=by rw [e4]; simp only [cmod,aS,f1]
 have f5:c F S1=c F Y1*c F Z2*(c F Z2*c F Z2):=by rw [e5]; simp only [cmod,aS,f2]
 have f6:c F S2=c F Y2*c F Z1*(c F Z1*c F Z1):=by rw [e6]; simp only [cmod,aS,f1]
 have f7:c F H=c F X2*(c F Z1*c F Z1)-c F X1*(c F Z2*c F Z2):=by rw [e7,bR,f4,f3]
 have f8:c F I=4*c F H*c F H:=by rw [e8]; simp only [cmod,aS,LW]
 have f9:c F J=c F H*c F I:=by rw [e9]; simp only [cmod,aS]
 have Tc:c F r=2*(c F Y2*c F Z1*(c F Z1*c F Z1)-c F Y1*c F Z2*(c F Z2*c F Z2)):=by rw [Hq]; simp only [cmod,aS,bR,zQ,f5,f6]
 have Jh:c F V=c F U1*c F I:=by rw [K3,aS]
 have K:=zV (F:=F) (H:=c F H) (r:=c F r) C h5 h2 hP hQ (X3:=X3) (Y3:=Y3) (Z3:=Z3) h h' hz1 hz2 f7 Tc (by rw [Jg,← f3]; simp only [cmod,bR,aS,zQ,f9,Jh,f8]; grind) (by rw [LZ,← f3,← f5]; simp only [cmod,bR,aS,zQ,f9,Jh,f8]; grind) (by rw [Ma,FH]; simp only [cmod,bR,aS,sM,f1,f2]; grind)
 have hu1:=tU h5 (X1*K2)
 have Fj:=tU h5 (X2*CW)
 rw [← e3] at hu1
 rw [← e4] at Fj
 have k1:c F H=0↔H=0:=by
  constructor
  · intro e
    rw [e7,bR] at e
    have:=vF (F:=F) Fj hu1 (rT e)
    (clear e4 e3; lia)
  · intro e; rw [e,Hl]
 have hr:=tU h5 (2*(S2-S1))
 rw [← Hq] at hr
 rw [k1,sO hr] at K
 exact K
theorem AW (C:Cv p a b) {P Q:G} (hP:On p a b P) (hQ:On p a b Q) {X1 Y1 Z1 X2 Y2 CW U2 S2 H HH I J r V X3 Y3 Z3:Int} (h:Rep p X1 Y1 Z1 P) (h':Rep p X2 Y2 1 Q) (hz1:Z1%p≠0)
 (e1:CW=Z1*Z1%p) (e4:U2=X2*CW%p) (e6:S2=Y2*Z1*CW%p) (e7:H=(U2-X1)%p) (e8:HH=H*H%p) (e9:I=4*HH%p) (Hq:J=H*I) (K3:r=2*(S2-Y1)%p) (Jg:V=X1*I)
 (LZ:X3=(r*r-J-2*V)%p) (Ma:Y3=(r*(V-X3)-2*Y1*J)%p) (PC:Z3=((Z1+H)^(2:Int).toNat-CW-HH)%p) :
 (r=0→H=0→P=Q)∧(¬ (r=0∧H=0)→Rep p X3 Y3 Z3 (plus p a P Q)):=C.go λ n F _ _ en h5 h2 _=>by
 subst en
 have f1:c F CW=c F Z1*c F Z1:=by rw [e1]; simp only [cmod,aS]
 have f4:c F U2=c F X2*(c F Z1*c F Z1):=by rw [e4]; simp only [cmod,aS,f1]
 have f6:c F S2=c F Y2*c F Z1*(c F Z1*c F Z1):=by rw [e6]; simp only [cmod,aS,f1]
 have f7:c F H=c F X2*(c F Z1*c F Z1)-c F X1:=by rw [e7]; simp only [cmod,bR,f4]
 have f8:c F HH=c F H*c F H:=by rw [e8]; simp only [cmod,aS]
 have f9:c F I=4*c F HH:=by rw [e9]; simp only [cmod,aS,LW]
 have Jh:c F r=2*(c F Y2*c F Z1*(c F Z1*c F Z1)-c F Y1):=by rw [K3]; simp only [cmod,aS,bR,zQ,f6]
 have K:=zV (F:=F) (H:=c F H) (r:=c F r) C h5 h2 hP hQ (X3:=X3) (Y3:=Y3) (Z3:=Z3) h h' hz1 (qI C) (by rw [f7,AR]; grind) (by rw [Jh,AR]; grind) (by rw [LZ]; simp only [cmod,bR,aS,zQ,AR,Hq,Jg,f9,f8]; grind) (by rw [Ma]; simp only [cmod,bR,aS,zQ,AR,Hq,Jg,f9,f8]; grind) (by rw [PC,FH]; simp only [cmod,bR,aS,sM,AR,f1,f8]; grind)
 have hr:=tU h5 (2*(S2-Y1))
 rw [← K3] at hr
 have hh:=tU h5 (U2-X1)
 rw [← e7] at hh
 rw [sO hr,sO hh] at K
 exact ⟨λ x y=>K.1 y x,λ z=>K.2 λ ⟨x,y⟩=>z ⟨y,x⟩⟩
theorem C7 (C:Cv p a b) {P Q:G} (hP:On p a b P) (hQ:On p a b Q) {X1 Y1 X2 Y2 H HH I J r V X3 Y3 Z3:Int} (h:Rep p X1 Y1 1 P) (h':Rep p X2 Y2 1 Q) (hok:(X2-X1)%p=0→(Y2-Y1)%p=0→X1=X2∧Y1=Y2)
 (e7:H=X2-X1) (e8:HH=H*H) (e9:I=4*HH%p) (Hq:J=H*I) (K3:r=2*(Y2-Y1)) (Jg:V=X1*I)
 (LZ:X3=(r^(2:Int).toNat-J-2*V)%p) (Ma:Y3=(r*(V-X3)-2*Y1*J)%p) (PC:Z3=2*H%p) :
 (H=0→r=0→P=Q)∧(¬ (H=0∧r=0)→Rep p X3 Y3 Z3 (plus p a P Q)):=C.go λ n F _ _ en h5 h2 _=>by
 subst en
 have f7:c F H=c F X2-c F X1:=by rw [e7]; simp only [bR]
 have f8:c F HH=c F H*c F H:=by rw [e8]; simp only [aS]
 have f9:c F I=4*c F HH:=by rw [e9]; simp only [cmod,aS,LW]
 have Jh:c F r=2*(c F Y2-c F Y1):=by rw [K3]; simp only [aS,bR,zQ]
 have K:=zV (F:=F) (H:=c F H) (r:=c F r) C h5 h2 hP hQ (X3:=X3) (Y3:=Y3) (Z3:=Z3) h h' (qI C) (qI C) (by rw [f7,AR]; grind) (by rw [Jh,AR]; grind) (by rw [LZ,FH]; simp only [cmod,bR,aS,zQ,AR,Hq,Jg,f9,f8]; grind) (by rw [Ma]; simp only [cmod,bR,aS,zQ,AR,Hq,Jg,f9,f8]; grind) (by rw [PC]; simp only [cmod,aS,AR,zQ]; grind)
 refine ⟨λ x y=>K.1 (by rw [x,Hl]) (by rw [y,Hl]),λ z=>K.2 λ ⟨x,y⟩=>z ?_⟩
 have hx:(X2-X1)%(n:Int)=0:=(c0 (F:=F)).mp (by rw [bR,← f7]; exact x)
 have hy:(Y2-Y1)%(n:Int)=0:=(c0 (F:=F)).mp (by
  rw [bR]; rw [Jh] at y
  rcases fQ y with e | e
  · exact absurd e h2
  · exact e)
 obtain ⟨k1,k2⟩:=hok hx hy
 exact ⟨by lia,by lia⟩
theorem AX (C:Cv p a b) {P Q:G} (hP:On p a b P) (hQ:On p a b Q) {X1 Y1 Z1 X2 Y2 A B CC D X3 Y3 Z3:Int} (h:Rep p X1 Y1 Z1 P) (h':Rep p X2 Y2 Z1 Q) (hz1:Z1%p≠0)
 (e1:A=(X2-X1)^(2:Int).toNat%p) (e2:B=X1*A%p) (e3:CC=X2*A) (e4:D=(Y2-Y1)^(2:Int).toNat%p) (e5:X3=(D-B-CC)%p) (e6:Y3=((Y2-Y1)*(B-X3)-Y1*(CC-B))%p) (e7:Z3=Z1*(X2-X1)%p) :
 (A=0→D=0→P=Q)∧(¬ (A=0∧D=0)→Rep p X3 Y3 Z3 (plus p a P Q)):=C.go λ n F _ _ en h5 h2 _=>by
 subst en
 have g1:c F Z1≠0:=λ e=>hz1 ((c0 (F:=F)).mp e)
 have f1:c F A=(c F X2-c F X1)*(c F X2-c F X1):=by rw [e1,FH]; simp only [cmod,aS,bR]
 have f4:c F D=(c F Y2-c F Y1)*(c F Y2-c F Y1):=by rw [e4,FH]; simp only [cmod,aS,bR]
 have f2:c F B=c F X1*c F A:=by rw [e2]; simp only [cmod,aS]
 have f3:c F CC=c F X2*c F A:=by rw [e3,aS]
 have f5:c F X3=c F D-c F B-c F CC:=by rw [e5]; simp only [cmod,bR]
 have f6:c F Y3=(c F Y2-c F Y1)*(c F B-c F X3)-c F Y1*(c F CC-c F B):=by rw [e6]; simp only [cmod,aS,bR]
 have f7:c F Z3=c F Z1*(c F X2-c F X1):=by rw [e7]; simp only [cmod,aS,bR]
 have hA:c F A=0↔A=0:=sO (by rw [e1]; exact tU h5 _)
 have hD:c F D=0↔D=0:=sO (by rw [e4]; exact tU h5 _)
 rw [rU (F:=F) hP] at h
 rw [rU (F:=F) hQ] at h'
 by_cases h0:c F X2-c F X1=0
 · have h0':c F X2*(c F Z1*c F Z1)=c F X1*(c F Z1*c F Z1):=by rw [rT h0]
   have A':=dY.LV (fO hP) (fO hQ) h h' g1 g1 h0'
   refine ⟨λ _ hd=>?_,λ hn=>?_⟩
   · rcases A' with A' | A'
     · exact sN hP hQ A'.2
     · refine absurd ?_ A'.1
       have:=Pw (f4.symm.trans (hD.mpr hd))
       rw [rT this]
   · rcases A' with A' | A'
     · refine absurd ⟨hA.mp (by rw [f1,h0]; grind),hD.mp ?_⟩ hn
       have h3:(c F Y2-c F Y1)*(c F Z1*(c F Z1*c F Z1))=0:=by have:=A'.1; clear A' h h' f1 f2 f3 f4 f5 f6 f7; grind
       rcases fQ h3 with e | e
       · rw [f4,e]; grind
       · exact absurd e (bT g1 (bT g1 g1))
     · rw [none_of (F:=F) C h5 hP hQ A'.2]
       refine (c0 (F:=F) (p:=n)).mp ?_
       rw [f7,h0]; grind
 · refine ⟨λ e=>absurd (Pw (f1.symm.trans (hA.mpr e))) h0,λ _=>?_⟩
   have hH:c F X2*(c F Z1*c F Z1)-c F X1*(c F Z1*c F Z1)≠0:=by
    have:c F X2*(c F Z1*c F Z1)-c F X1*(c F Z1*c F Z1)=(c F X2-c F X1)*(c F Z1*c F Z1):=by clear h h' f1 f2 f3 f4 f5 f6 f7; grind
    rw [this]; exact bT h0 (bT g1 g1)
   obtain ⟨_,R,r1,r2⟩:=dY.add (fO hP) (fO hQ) h2 h h' g1 g1 rfl rfl rfl rfl rfl rfl hH rfl rfl rfl
   refine zU (F:=F) C h5 hP hQ ⟨R,dY.FG (l:=2*(c F Z1*c F Z1*c F Z1)) (bT h2 (bT (bT g1 g1) g1)) ?_,r2⟩
   have k1:(2*(c F Z1*c F Z1*c F Z1))*(2*(c F Z1*c F Z1*c F Z1))*c F X3=(2*(c F Y2*c F Z1*(c F Z1*c F Z1)-c F Y1*c F Z1*(c F Z1*c F Z1)))*(2*(c F Y2*c F Z1*(c F Z1*c F Z1)-c F Y1*c F Z1*(c F Z1*c F Z1)))-4*(c F X2*(c F Z1*c F Z1)-c F X1*(c F Z1*c F Z1))*(c F X2*(c F Z1*c F Z1)-c F X1*(c F Z1*c F Z1))*(c F X2*(c F Z1*c F Z1)-c F X1*(c F Z1*c F Z1))-2*(c F X1*(c F Z1*c F Z1)*(4*(c F X2*(c F Z1*c F Z1)-c F X1*(c F Z1*c F Z1))*(c F X2*(c F Z1*c F Z1)-c F X1*(c F Z1*c F Z1)))):=by
    rw [f5,f2,f3,f4,f1]; clear r1 r2 h h' f1 f2 f3 f4 f5 f6 f7; grind
   rw [← k1] at r1
   have k2:(2*(c F Z1*c F Z1*c F Z1))*(2*(c F Z1*c F Z1*c F Z1))*(2*(c F Z1*c F Z1*c F Z1))*c F Y3=(2*(c F Y2*c F Z1*(c F Z1*c F Z1)-c F Y1*c F Z1*(c F Z1*c F Z1)))*(c F X1*(c F Z1*c F Z1)*(4*(c F X2*(c F Z1*c F Z1)-c F X1*(c F Z1*c F Z1))*(c F X2*(c F Z1*c F Z1)-c F X1*(c F Z1*c F Z1)))-2*(c F Z1*c F Z1*c F Z1)*(2*(c F Z1*c F Z1*c F Z1))*c F X3)-2*(c F Y1*c F Z1*(c F Z1*c F Z1))*(4*(c F X2*(c F Z1*c F Z1)-c F X1*(c F Z1*c F Z1))*(c F X2*(c F Z1*c F Z1)-c F X1*(c F Z1*c F Z1))*(c F X2*(c F Z1*c F Z1)-c F X1*(c F Z1*c F Z1))):=by
    rw [f6,f2,f3,f1]; clear r1 r2 h h' f1 f2 f3 f4 f5 f6 f7 k1; grind
   rw [← k2] at r1
   have k3:(2*(c F Z1*c F Z1*c F Z1))*c F Z3=2*c F Z1*c F Z1*(c F X2*(c F Z1*c F Z1)-c F X1*(c F Z1*c F Z1)):=by
    rw [f7]; clear r1 r2 h h' f1 f2 f3 f4 f5 f6 f7 k1 k2; grind
   rw [← k3] at r1
   exact r1
end
noncomputable def zb (p a:Int) (P:G):Nat→G
 | 0=>none
 | n+1=>plus p a (zb p a P n) P
noncomputable def mul (p a:Int) (k:Int) (P:G):G:=if k<0 then zb p a (minus p P) (-k).toNat else zb p a P k.toNat
section
variable {p a b:Int}
theorem cR (P:G):plus p a P none=P:=by cases P<;>rfl
theorem sP (P:G):plus p a none P=P:=rfl
theorem t9 (C:Cv p a b) {P:G} (hP:On p a b P):∀ n,On p a b (zb p a P n)
 | 0=>trivial
 | n+1=>cQ C (t9 C hP n) hP
theorem aH (C:Cv p a b) {P:G} (hP:On p a b P) (k:Int):On p a b (mul p a k P):=by
 unfold mul; split
 · exact t9 C (bD C hP) _
 · exact t9 C hP _
theorem qJ (C:Cv p a b) {P:G} (hP:On p a b P):plus p a (minus p P) P=none:=by rw [w6 C (bD C hP) hP,lN C hP]
theorem vH (C:Cv p a b) {P Q:G} (hP:On p a b P) (hQ:On p a b Q) (h:plus p a P Q=none):Q=minus p P:=by
 have:=d8 C (bD C hP) hP hQ
 rw [h,qJ C hP,sP,cR] at this
 exact this
theorem tG (C:Cv p a b) {P:G} (hP:On p a b P):minus p (minus p P)=P:=(vH C (bD C hP) hP (qJ C hP)).symm
theorem mul_zero (P:G):mul p a 0 P=none:=rfl
theorem mul_ofNat (n:Nat) (P:G):mul p a n P=zb p a P n:=by unfold mul; rw [if_neg (Int.not_lt.mpr (Lq.z _))]; rfl
theorem mul_succ (C:Cv p a b) {P:G} (hP:On p a b P) (k:Int):mul p a (k+1) P=plus p a (mul p a k P) P:=by
 by_cases h:k<0
 · obtain ⟨n,hn⟩:∃ n:Nat,k=-((n:Int)+1):=⟨(-k-1).toNat,by lia⟩
   subst hn
   have e1:mul p a (-((n:Int)+1)) P=zb p a (minus p P) (n+1):=by
    unfold mul; rw [if_pos (by omega)]
    congr 1<;>omega
   have e2:mul p a (-((n:Int)+1)+1) P=zb p a (minus p P) n:=by
    cases n with
    | zero=>rfl
    | succ m =>
     unfold mul; rw [if_pos (by omega)]
     congr 1<;>omega
   rw [e1,e2]
   show _=plus p a (plus p a _ (minus p P)) P
   rw [d8 C (t9 C (bD C hP) n) (bD C hP) hP,qJ C hP,cR]
 · obtain ⟨n,rfl⟩:=Int.eq_ofNat_of_zero_le (show 0≤k by exact Lq.n h)
   have:((n:Int)+1)=((n+1:Nat):Int):=rfl
   rw [this,mul_ofNat,mul_ofNat]; rfl
theorem mul_pred (C:Cv p a b) {P:G} (hP:On p a b P) (k:Int):mul p a (k-1) P=plus p a (mul p a k P) (minus p P):=by
 have h:=mul_succ C hP (k-1)
 rw [Int.sub_add_cancel] at h
 rw [h,d8 C (aH C hP _) hP (bD C hP),lN C hP,cR]
theorem mul_one (P:G):mul p a 1 P=P:=rfl
theorem mul_add (C:Cv p a b) {P:G} (hP:On p a b P) (j k:Int):mul p a (j+k) P=plus p a (mul p a j P) (mul p a k P):=by
 have up:∀ n:Nat,mul p a (j+n) P=plus p a (mul p a j P) (mul p a n P):=by
  intro n
  induction n with
  | zero=>rw [show j+((0:Nat):Int)=j by lia]; exact (cR _).symm
  | succ n ih =>
   rw [show j+((n+1:Nat):Int)=(j+n)+1 by lia,mul_succ C hP,ih,show ((n+1:Nat):Int)=(n:Int)+1 by lia,mul_succ C hP,d8 C (aH C hP _) (aH C hP _) hP]
 have down:∀ n:Nat,mul p a (j-n) P=plus p a (mul p a j P) (mul p a (-(n:Int)) P):=by
  intro n
  induction n with
  | zero=>rw [show j-((0:Nat):Int)=j by lia]; exact (cR _).symm
  | succ n ih =>
   rw [show j-((n+1:Nat):Int)=(j-n)-1 by lia,mul_pred C hP,ih,show -((n+1:Nat):Int)=-(n:Int)-1 by lia,mul_pred C hP,d8 C (aH C hP _) (aH C hP _) (bD C hP)]
 by_cases h:0≤k
 · obtain ⟨n,rfl⟩:=Int.eq_ofNat_of_zero_le h
   exact up n
 · obtain ⟨n,hn⟩:∃ n:Nat,k=-(n:Int):=⟨(-k).toNat,by lia⟩
   subst hn
   exact down n
theorem mul_neg (C:Cv p a b) {P:G} (hP:On p a b P) (k:Int):mul p a (-k) P=minus p (mul p a k P):=by
 refine vH C (aH C hP k) (aH C hP _) ?_
 rw [← mul_add C hP,Int.add_right_neg,mul_zero]
theorem qK (P:G):mul p a (-1) P=minus p P:=rfl
theorem rV (C:Cv p a b) (k:Int):mul p a k none=none:=by
 have h:∀ n,zb p a none n=none:=λ n=>by
  induction n with
  | zero=>rfl
  | succ n ih=>show plus p a _ none=none; rw [ih]; rfl
 unfold mul; split
 · exact h _
 · exact h _
theorem bF (C:Cv p a b) {P:G} (hP:On p a b P) (j k:Int):mul p a (j*k) P=mul p a j (mul p a k P):=by
 have up:∀ n:Nat,mul p a (n*k) P=mul p a n (mul p a k P):=by
  intro n
  induction n with
  | zero=>rw [show ((0:Nat):Int)*k=0 by simp]; rfl
  | succ n ih =>
   rw [show ((n+1:Nat):Int)*k=n*k+k by rw [show ((n+1:Nat):Int)=(n:Int)+1 by lia,Int.add_mul,Int.one_mul],mul_add C hP,ih,show ((n+1:Nat):Int)=(n:Int)+1 by lia,mul_succ C (aH C hP k)]
 by_cases h:0≤j
 · obtain ⟨n,rfl⟩:=Int.eq_ofNat_of_zero_le h
   exact up n
 · obtain ⟨n,hn⟩:∃ n:Nat,j=-(n:Int):=⟨(-j).toNat,by lia⟩
   subst hn
   rw [Int.neg_mul,mul_neg C hP,mul_neg C (aH C hP k),up]
theorem d9 (C:Cv p a b) {P:G} (hP:On p a b P) (k:Int):plus p a (mul p a k P) (mul p a k P)=mul p a (2*k) P:=by rw [← mul_add C hP]; congr 1; lia
structure Od (p a n:Int) (P:G):Prop where
 pos:0<n
 zero:mul p a n P=Option.none
 least:∀ k,0<k→k<n→mul p a k P≠Option.none
theorem Od.mod (C:Cv p a b) {P:G} (hP:On p a b P) {n:Int} (h:mul p a n P=none) (k:Int):mul p a (k%n) P=mul p a k P:=by
 have e:=Int.emod_add_mul_ediv k n
 have:mul p a k P=mul p a (k%n+(k / n)*n) P:=by rw [Int.mul_comm (k / n)]; rw [e]
 rw [this,mul_add C hP,bF C hP,h,rV C,cR]
theorem Od.dvd (C:Cv p a b) {P:G} (hP:On p a b P) {n:Int} (o:Od p a n P) {k:Int}:mul p a k P=Option.none↔k%n=0:=by
 have h1:=Int.emod_nonneg k (Int.ne_of_gt o.pos)
 have h2:=Int.emod_lt_of_pos k o.pos
 rw [← Od.mod C hP o.zero k]
 constructor
 · intro h
   rcases Int.lt_or_eq_of_le h1 with h3 | h3
   · exact absurd h (o.least _ h3 h2)
   · exact h3.symm
 · intro h; rw [h]; rfl
theorem BN (C:Cv p a b) {P Q:G} (hP:On p a b P) (hQ:On p a b Q) (h:plus p a P (minus p Q)=none):P=Q:=by
 have:=vH C hP (bD C hQ) h
 rw [← tG C hQ,this,tG C hP]
theorem Od.eq (C:Cv p a b) {P:G} (hP:On p a b P) {n:Int} (o:Od p a n P) {j k:Int}:mul p a j P=mul p a k P↔(j-k)%n=0:=by
 rw [← Od.dvd C hP o,Int.sub_eq_add_neg,mul_add C hP,mul_neg C hP]
 constructor
 · intro h; rw [h]; exact lN C (aH C hP k)
 · intro h; exact BN C (aH C hP j) (aH C hP k) h
theorem Od.quot (C:Cv p a b) {P:G} (hP:On p a b P) {n m:Int} (o:Od p a n P) (hm:0<m) (hd:n%m=0):Od p a m (mul p a (n / m) P):=by
 have e:m*(n / m)=n:=Int.mul_ediv_cancel' (Int.dvd_of_emod_eq_zero hd)
 have hq:0<n / m:=by
  rcases Int.lt_or_le 0 (n / m) with h | h
  · exact h
  · have:=o.pos
    have h2:m*(n / m)≤0:=Int.mul_nonpos_of_nonneg_of_nonpos (Lq.w hm) h
    lia
 refine ⟨hm,?_,λ k h1 h2 h=>?_⟩
 · rw [← bF C hP,e]; exact o.zero
 · rw [← bF C hP] at h
   refine o.least (k*(n / m)) (Int.mul_pos h1 hq) ?_ h
   have:=Int.mul_lt_mul_of_pos_right h2 hq
   omega
end
theorem FI (n:Nat) (h2:2≤n) (hi:∀ a:Nat,0<a→a<n→∃ b:Nat,a*b%n=1):∃ (F:Type) (_:Field F),IsCharP F n:=by
 have nz:NeZero n:=⟨by lia⟩
 have hinv:∀ a:Fin n,a≠0→∃ b:Fin n,a*b=1:=λ a ha=>by
  obtain ⟨b,hb⟩:=hi a.val (by
   rcases Nat.eq_zero_or_pos a.val with h | h
   · exact absurd (Fin.ext (by rw [h]; rfl)) ha
   · exact h) a.isLt
  refine ⟨⟨b%n,Nat.mod_lt _ (by lia)⟩,Fin.ext ?_⟩
  show (a.val*(b%n))%n=(1:Fin n).val
  rw [Nat.mul_mod,Nat.mod_mod,← Nat.mul_mod,hb]
  show 1=1%n
  rw [Nat.mod_eq_of_lt (by lia)]
 have one:(0:Fin n)≠1:=λ e=>by
  have:=congrArg Fin.val e
  have h0:(0:Fin n).val=0%n:=rfl
  have h1:(1:Fin n).val=1%n:=rfl
  rw [h0,h1,Nat.zero_mod,Nat.mod_eq_of_lt (by lia)] at this
  exact Lq.f (by decide) (Lq.cl (Nat.le_of_eq this.symm))
 let iv:Fin n→Fin n:=λ a=>if h:a=0 then 0 else Classical.choose (hinv a h)
 have PD:iv 0=0:=dif_pos rfl
 have OV:∀ a:Fin n,a≠0→a*iv a=1:=λ a h=>by
  show a*(if h:a=0 then 0 else Classical.choose (hinv a h))=1
  rw [dif_neg h]; exact Classical.choose_spec (hinv a h)
 let zp:Fin n→Int→Fin n:=λ a k=>match k with
  | .ofNat m=>a^m
  | .negSucc m=>iv (a^(m+1))
 have i1:iv 1=1:=by
  have:=OV 1 (Ne.symm one)
  rw [Semiring.one_mul] at this
  exact this
 have Td:∀ a,iv (iv a)=a:=λ a=>by
  by_cases h:a=0
  · rw [h,PD,PD]
  · have h1:=OV a h
    have h2:iv a≠0:=λ e=>by rw [e,Semiring.mul_zero] at h1; exact one h1
    have h3:=OV _ h2
    calc iv (iv a)=1*iv (iv a):=(Semiring.one_mul _).symm
     _=(a*iv a)*iv (iv a):=by rw [h1]
     _=a*(iv a*iv (iv a)):=Semiring.mul_assoc _ _ _
     _=a:=by rw [h3,Semiring.mul_one]
 refine ⟨Fin n,{ toCommRing:=inferInstance,inv:=iv,div:=λ a b=>a*iv b,zpow:=⟨zp⟩,div_eq_mul_inv:=λ _ _=>rfl,zero_ne_one:=one,inv_zero:=PD,mul_inv_cancel:=λ {a} h=>OV a h,zpow_zero:=λ a=>Semiring.pow_zero a,zpow_succ:=λ a m=>Semiring.pow_succ a m,zpow_neg:=λ a m=>?_ },(inferInstance:IsCharP (Fin n) n)⟩
 show zp a (-m)=iv (zp a m)
 match m with
 | .ofNat 0=>show a^0=iv (a^0); rw [Semiring.pow_zero,i1]
 | .ofNat (k+1)=>rfl
 | .negSucc k=>show a^(k+1)=iv (iv (a^(k+1))); rw [Td]
noncomputable def zc (n:Nat):Bool:=(List.range n).all λ a=>a==0||(a*(a^(n-2)%n)%n==1)
theorem BO {n:Nat} (h2:2≤n) (h:zc n=true) (k:Int) (hk:k%n≠0):(k*inv n k)%n=1:=by
 unfold zc at h
 rw [List.all_eq_true] at h
 obtain ⟨m,hm⟩:=Int.eq_ofNat_of_zero_le (Int.emod_nonneg k (show (n:Int)≠0 by lia))
 have hlt:m<n:=by have:=Int.emod_lt_of_pos k (show (0:Int)<n by lia); lia
 have:=h m (List.mem_range.mpr hlt)
 rw [Bool.or_eq_true,beq_iff_eq,beq_iff_eq] at this
 rcases this with e | e
 · rw [e] at hm; exact absurd hm hk
 · unfold inv
   have e2:((n:Int)-2).toNat=n-2:=by lia
   rw [e2,Int.mul_emod,hm,Int.emod_emod]
   have e3:((m:Int)*((m:Int)^(n-2)%(n:Int)))%(n:Int)=((m*(m^(n-2)%n)%n:Nat):Int):=by
    rw [Int.natCast_emod,Int.natCast_mul,Int.natCast_emod,Int.natCast_pow]
   rw [e3,e]; rfl
noncomputable def dc:List Nat:=[5,7,11,13,17,19,23,29,31,37,41,43,47,53,59,61,67,71,73,79,83,89,97,101]
theorem BP:(dc.all λ n=>Nat.ble 5 n&&Nat.ble n 101&&zc n&&!(54%n==0))=true:=by decide +kernel
theorem vI {n:Nat} (h:n∈dc):5≤n∧n≤101∧zc n=true∧54%n≠0:=by
 have:=List.all_eq_true.mp BP n h
 simp only [Bool.and_eq_true,Nat.ble_eq,Bool.not_eq_true',beq_eq_false_iff_ne] at this
 exact ⟨this.1.1.1,this.1.1.2,this.1.2,this.2⟩
theorem zd {n:Nat} (h2:2≤n) (h:zc n=true):∃ (F:Type) (_:Field F),IsCharP F n :=
 FI n h2 λ a h0 h1=>⟨a^(n-2)%n,by
  have:=List.all_eq_true.mp h a (List.mem_range.mpr h1)
  rw [Bool.or_eq_true,beq_iff_eq,beq_iff_eq] at this
  rcases this with e | e
  · lia
  · exact e⟩
theorem Cv.of {p a b:Int} (hp:p.toNat∈dc) (hd:(4*a*a*a+27*b*b)%p≠0):Cv p a b:=by
 obtain ⟨h1,h2,h3,_⟩:=vI hp
 have e:p=(p.toNat:Int):=by lia
 refine ⟨(Lq.ll (Lq.cl h1) (Int.le_of_eq e.symm)),Lq.ll (Int.le_of_eq e) (Lq.cl h2),zd (Lq.bZ (by decide) h1) h3,λ n hn=>?_,hd⟩
 rw [e] at hn ⊢
 exact BO (Lq.bZ (by decide) h1) h3 n hn
theorem Mb {p a b:Int} (hp:p.toNat∈dc) (h0:(4*a*a*a+27*b*b)%p=0) (h1:(4*a*a*a+27*((b+1)%p)*((b+1)%p))%p=0) :
 (4*a*a*a+27*(((b+1)%p+1)%p)*(((b+1)%p+1)%p))%p≠0:=by
 obtain ⟨l1,l2,l3,l4⟩:=vI hp
 obtain ⟨n,hn⟩:∃ n:Nat,p=n:=⟨p.toNat,by lia⟩
 subst hn
 rw [Int.toNat_natCast] at *
 obtain ⟨F,fi,hc⟩:=zd (Lq.bZ (by decide) l1) l3
 intro h2
 rw [← c0 (F:=F) (p:=n)] at h0 h1 h2
 simp only [sM,aS,cmod,AR,LW,Je] at h0 h1 h2
 have:c F 54=0:=by
  have e:c F 54=c F 27*c F 2:=by rw [← aS]; rfl
  rw [e,Je,zQ]; grind
 rw [c0 (p:=n)] at this
 exact l4 (by exact_mod_cast this)
theorem AY {p a b:Int} (C:Cv p a b) {P:G} (hP:On p a b P) {X Y Z:Int} (h:Rep p X Y Z P):Rep p (X%p) (Y%p) (Z%p) P:=C.go λ n F _ _ e h5 _ _=>by
 subst e
 rw [rU (F:=F) hP] at h ⊢
 rw [cmod,cmod,cmod]; exact h
theorem dJ {p a b:Int} (C:Cv p a b) {P:G} (hP:On p a b P) {X Y Z:Int} (h:Rep p X Y Z P) (hz:Z%p=0):P=none:=by
 cases P with
 | none=>rfl
 | some P=>exact absurd hz h.1
noncomputable def dg (m:Int):Int:=if m%2=1 then 2-m%4 else 0
inductive eW:Int→List Int→Prop
 | nil:eW 0 []
 | cons {m:Int} {ds:List Int}:m≠0→eW ((m-dg m) / 2) ds→eW m (dg m :: ds)
noncomputable def val:List Int→Int
 | []=>0
 | d :: ds=>d+2*val ds
theorem vJ (m:Int):(m%2=0∧dg m=0)∨(m%4=1∧dg m=1)∨(m%4=3∧dg m=-1):=by
 unfold dg
 by_cases h:m%2=1
 · rw [if_pos h]
   have:m%4=1∨m%4=3:=by lia
   rcases this with e | e
   · exact .inr (.inl ⟨e,by lia⟩)
   · exact .inr (.inr ⟨e,by lia⟩)
 · rw [if_neg h]; exact .inl ⟨by lia,rfl⟩
theorem AZ (m:Int):m=dg m+2*((m-dg m) / 2):=by
 have h:m%2=dg m%2:=by
  rcases vJ m with ⟨h,e⟩ | ⟨h,e⟩ | ⟨h,e⟩<;>rw [e]
  · exact h
  all_goals rw [← Int.emod_emod_of_dvd m (show (2:Int)∣4 by decide),h]
  rfl
 rw [Int.mul_ediv_cancel' (Int.dvd_of_emod_eq_zero (Int.emod_eq_emod_iff_emod_sub_eq_zero.mp h)),Int.add_comm,Int.sub_add_cancel]
theorem Mc (m:Int):-1≤dg m∧dg m≤1:=by
 rcases vJ m with e | e | e<;>rw [e.2]<;>decide
theorem Ji {a r:Int} (e:r=a%2) (h:r≠0):dg a=2-a%4:=if_pos ((Int.emod_two_eq a).resolve_left λ z=>h (e.trans z))
theorem Me {a r s:Int} (e:r=a%2) (h:r≠0) (es:s=a%4) (g:2≤s):a%4=3∧s-4=dg a:=by
 have z:a%4=3:=by subst e es; lia
 rw [Ji e h,es,z]; exact ⟨rfl,rfl⟩
theorem Mf {a r s:Int} (e:r=a%2) (h:r≠0) (es:s=a%4) (g:¬ 2≤s):a%4=1∧s=dg a:=by
 have z:a%4=1:=by subst e es; lia
 rw [Ji e h,es,z]; exact ⟨rfl,rfl⟩
theorem Mg {a r:Int} (e:r=a%2) (h:r=0):0=dg a:=(if_neg (λ z=>by rw [← e,h] at z; cases z):dg a=0).symm
theorem C8 (m:Int):2*((m-dg m) / 2).natAbs≤m.natAbs+1:=by
 have h:=AZ m
 have hb:=Mc m
 generalize (m-dg m) / 2=q at h
 generalize dg m=d at h hb
 have hd:d.natAbs≤1:=Lq.nab hb.2 (Int.neg_le_of_neg_le hb.1)
 have:=Int.natAbs_add_le m (-d)
 rw [Int.natAbs_neg,show m + -d=2*q by rw [h,Int.add_comm d,Int.add_neg_cancel_right],Int.natAbs_mul] at this
 exact Nat.le_trans this (Nat.add_le_add_left hd _)
theorem C9 {q m n:Nat} (h:2*q≤m+1) (hm:m≤n*2):q≤n :=
 Nat.le_of_lt_succ (Nat.lt_of_mul_lt_mul_left (a:=2) (Nat.lt_of_le_of_lt (Nat.le_trans h (Nat.succ_le_succ hm)) (Nat.mul_comm n 2▸Nat.lt_succ_self (2*n+1))))
theorem Dc {q k:Nat} (h:2*q≤k+2+1):q<k+2:=Nat.lt_of_mul_lt_mul_left (a:=2) (Nat.lt_of_le_of_lt h (Nat.two_mul (k+2)▸Nat.add_lt_add_left (Nat.succ_lt_succ (Nat.zero_lt_succ k)) (k+2)))
theorem xP {m:Int} (h0:m≠0):((m-dg m) / 2).natAbs<m.natAbs:=by
 have h:=C8 m
 rcases e:m.natAbs with _ | _ | k
 · exact absurd (Int.natAbs_eq_zero.mp e) h0
 · rcases Int.natAbs_eq m with z | z<;>rw [e] at z<;>rw [z]<;>decide
 · rw [e] at h; exact Dc h
theorem eW.val {m:Int} {ds:List Int} (h:eW m ds):EC.val ds=m:=by
 induction h with
 | nil=>rfl
 | @cons m ds _ _ ih=>show dg m+2*EC.val ds=m; rw [ih]; exact (AZ m).symm
theorem eW.ex:∀ (k:Nat) (m:Int),m.natAbs≤k→∃ ds,eW m ds
 | 0,m,h=>⟨[],by rw [show m=0 by lia]; exact .nil⟩
 | k+1,m,h=>by
  by_cases h0:m=0
  · exact ⟨[],by rw [h0]; exact .nil⟩
  · obtain ⟨ds,hd⟩:=eW.ex k _ (show ((m-dg m) / 2).natAbs≤k by have:=xP h0; lia)
    exact ⟨_,.cons h0 hd⟩
theorem eW.uniq {m:Int} {ds es:List Int} (h:eW m ds) (h':eW m es):ds=es:=by
 induction h generalizing es with
 | nil=>cases h' with
  | nil=>rfl
  | cons h=>exact absurd rfl h
 | cons h0 _ ih=>cases h' with
  | nil=>exact absurd rfl h0
  | cons _ h=>rw [ih h]
theorem eW.len {m:Int} {ds:List Int} (h:eW m ds):ds.length≤m.natAbs:=by
 induction h with
 | nil=>exact Nat.le_refl _
 | cons h0 _ ih=>have:=xP h0; rw [List.length_cons]; exact Lq.Pe ih this
theorem eW.digit {m:Int} {ds:List Int} (h:eW m ds):∀ d∈ds,d=0∨d=1∨d=-1:=by
 induction h with
 | nil=>intro d hd; cases hd
 | @cons m ds _ _ ih =>
  intro d hd
  rcases List.mem_cons.mp hd with e | hd
  · rw [e]
    rcases vJ m with ⟨_,e⟩ | ⟨_,e⟩ | ⟨_,e⟩
    · exact .inl e
    · exact .inr (.inl e)
    · exact .inr (.inr e)
  · exact ih d hd
theorem eW.short:∀ (k:Nat) {m:Int} {ds:List Int},eW m ds→m.natAbs≤2^k→ds.length≤k+1
 | 0,m,ds,h,hm=>by
  have:=h.len
  lia
 | k+1,m,ds,h,hm=>by
  cases h with
  | nil=>exact Nat.zero_le _
  | cons h0 h =>
   have:=eW.short k h (C9 (C8 m) (by rw [← Nat.pow_succ]; exact hm))
   rw [List.length_cons]; exact Lq.OS _ this
def Meets (n:Int) (ds:List Int):Prop:=∃ pre d Mh,ds=pre++d :: Mh∧d≠0∧((2*val Mh)%n=1%n∨(2*val Mh)%n=(-1)%n)
structure Eu (p a found before rest divisor:Int):Prop where
 r0:0<rest
 rp:rest≤p
 d0:0≤divisor
 dp:divisor≤p
 f:(found*a-rest)%p=0
 b:(before*a-divisor)%p=0
 g:∀ g:Int,g∣rest→g∣divisor→g∣1
theorem Eu.start {p a:Int} (hp:1<p) (hi:∃ b,(a*b)%p=1):Eu p a 0 1 p (a%p):=by
 have h1:=Int.emod_nonneg a (show p≠0 by exact Lq.y (Lq.ls (by decide) hp))
 have h2:=Int.emod_lt_of_pos a (show 0<p by exact Lq.ls (by decide) hp)
 refine ⟨(Lq.ls (by decide) hp),Int.le_refl _,h1,Lq.w h2,?_,?_,λ g h3 h4=>?_⟩
 · rw [Int.zero_mul]; simp
 · rw [Int.one_mul,Int.sub_emod,Int.emod_emod,Int.sub_self]; rfl
 · obtain ⟨b,hb⟩:=hi
   have h5:g∣a:=(Int.dvd_iff_dvd_of_dvd_sub ?_).mp h4
   · have h6:g∣a*b:=Int.dvd_mul_of_dvd_left h5
     have e:=Int.emod_add_mul_ediv (a*b) p
     rw [hb] at e
     have h7:g∣p*(a*b / p):=Int.dvd_mul_of_dvd_left h3
     rw [← e] at h6
     exact (Int.dvd_add_left h7).mp h6
   · have e:=Int.emod_add_mul_ediv a p
     have:a%p-a=p*(-(a / p)):=by rw [Int.mul_neg]; lia
     rw [this]; exact Int.dvd_mul_of_dvd_left h3
theorem Eu.step {p a f b r d:Int} (h:Eu p a f b r d) (h0:d≠0):Eu p a b (f-r / d*b) d (r-r / d*d)∧(r-r / d*d).toNat<d.toNat:=by
 have hd:0<d:=by have:=h.d0; exact Lq.Rh this h0
 have e:=Int.emod_add_mul_ediv r d
 have e2:r-r / d*d=r%d:=by rw [Int.mul_comm (r / d)]; lia
 have h1:=Int.emod_nonneg r h0
 have h2:=Int.emod_lt_of_pos r hd
 refine ⟨⟨hd,h.dp,Lq.ll h1 (Int.le_of_eq e2.symm),by have:=h.dp; exact Lq.w (Lq.sl (Lq.ls (Int.le_of_eq e2) h2) this),h.b,?_,λ g h3 h4=>?_⟩,by lia⟩
 · have e3:(f-r / d*b)*a-(r-r / d*d)=(f*a-r)-r / d*(b*a-d):=by grind
   rw [e3,Int.sub_emod,h.f,Int.mul_emod,h.b]; simp
 · refine h.g g ?_ h3
   have h5:g∣r / d*d:=by rw [Int.mul_comm]; exact Int.dvd_mul_of_dvd_left h3
   have:=Int.dvd_add h4 h5
   rwa [Int.sub_add_cancel] at this
theorem Eu.last {p a f b r d:Int} (h:Eu p a f b r d) (hp:1<p) (h0:d=0):r=1∧(f%p*a)%p=1:=by
 have h1:r∣1:=h.g r (Int.dvd_refl r) (by rw [h0]; exact Int.dvd_zero r)
 have h2:=Int.le_of_dvd (by decide) h1
 have h3:r=1:=by have:=h.r0; lia
 refine ⟨h3,?_⟩
 have h4:=h.f
 rw [h3] at h4
 have h5:(f*a)%p=1%p:=by
  have:=Int.emod_emod_of_dvd (f*a) (Int.dvd_refl p)
  have e:=Int.emod_add_mul_ediv (f*a-1) p
  rw [h4] at e
  have:f*a=1+p*((f*a-1) / p):=by (clear this h4 h3 h2 h1 h0 hp; omega)
  rw [this,Int.add_mul_emod_self_left]
 rw [Int.mul_emod,Int.emod_emod,← Int.mul_emod,h5,Int.emod_eq_of_lt (by decide) hp]
section
variable {p a b x y z u v r:Int}
theorem Dd (C:Cv p a b) (hP:On p a b (some (u,v))) (hr:Rep p x y 1 (some (u,v))) (hx:0≤x∧x<p):x=u:=by
 have h:=hr.2.1
 simp only [Int.mul_one] at h
 have:=hP.1
 have e:=Int.emod_eq_emod_iff_emod_sub_eq_zero.mpr h
 rwa [Int.emod_eq_of_lt hx.1 hx.2,Int.emod_eq_of_lt this.1 this.2] at e
theorem De (C:Cv p a b) (hP:On p a b (some (u,v))) (hr:Rep p x y 1 (some (u,v))) (hy:0≤y∧y<p):y=v:=by
 have h:=hr.2.2
 simp only [Int.mul_one] at h
 have:=hP.2.1
 have e:=Int.emod_eq_emod_iff_emod_sub_eq_zero.mpr h
 rwa [Int.emod_eq_of_lt hy.1 hy.2,Int.emod_eq_of_lt this.1 this.2] at e
theorem A0 (C:Cv p a b) {e w:Int} (hw:0≤w∧w<p) (h:∀ (n:Nat) (F:Type) (_:Field F) (_:IsCharP F n),p=(n:Int)→c F e=c F w):e%p=w:=C.go λ n F _ _ en h5 _ _=>by
 subst en
 exact vF (F:=F) (tU h5 e) hw (by rw [cmod]; exact h n F _ ‹_› rfl)
theorem xQ {n:Nat} {F:Type} [Field F] [IsCharP F n] (hr:Rep n x y z (some (u,v))) (hi:(r*z)%(n:Int)=1):c F x=c F u*c F z*c F z∧c F y=c F v*c F z*c F z*c F z∧c F r*c F z=1:=by
 refine ⟨?_,?_,?_⟩
 · have:=(c0 (F:=F) (p:=n)).mpr hr.2.1
   simp only [bR,aS] at this
   exact rT this
 · have:=(c0 (F:=F) (p:=n)).mpr hr.2.2
   simp only [bR,aS] at this
   exact rT this
 · rw [← aS,← cmod (p:=n),hi,AR]
theorem Mi (C:Cv p a b) (hP:On p a b (some (u,v))) (hr:Rep p x y z (some (u,v))) (hi:(r*z)%p=1):(x*r^(2:Int).toNat)%p=u:=A0 C hP.1 λ n F _ _ en=>by
 subst en
 obtain ⟨e1,e2,e3⟩:=xQ (F:=F) hr hi
 rw [FH]; simp only [aS]; rw [e1]; clear e1 e2; grind
theorem Mj (C:Cv p a b) (hP:On p a b (some (u,v))) (hr:Rep p x y z (some (u,v))) (hi:(r*z)%p=1):(y*r^(3:Int).toNat)%p=v:=A0 C hP.2.1 λ n F _ _ en=>by
 subst en
 obtain ⟨e1,e2,e3⟩:=xQ (F:=F) hr hi
 rw [S9]; simp only [aS]; rw [e2]; clear e1 e2; grind
theorem Jj (C:Cv p a b) (hP:On p a b (some (u,v))) (hr:Rep p x y z (some (u,v))) (hi:(r*z)%p=1):(x*(r*r%p))%p=u:=A0 C hP.1 λ n F _ _ en=>by
 subst en
 obtain ⟨e1,e2,e3⟩:=xQ (F:=F) hr hi
 simp only [aS,cmod]; rw [e1]; clear e1 e2; grind
theorem Jk (C:Cv p a b) (hP:On p a b (some (u,v))) (hr:Rep p x y z (some (u,v))) (hi:(r*z)%p=1):(y*(r*r%p)*r)%p=v:=A0 C hP.2.1 λ n F _ _ en=>by
 subst en
 obtain ⟨e1,e2,e3⟩:=xQ (F:=F) hr hi
 simp only [aS,cmod]; rw [e2]; clear e1 e2; grind
end
section
variable {p a b:Int}
theorem ua (C:Cv p a b) {P R:G} (hP:On p a b P) (hR:On p a b R) {X Y X' Y':Int} (h:Rep p X Y 1 P) (h':Rep p X' Y' 1 R) (hx:(X'-X)%p=0) (hy:(Y'-Y)%p=0):P=R:=C.go λ n F _ _ e h5 _ _=>by
 subst e
 rw [← c0 (F:=F) (p:=n),bR] at hx hy
 have one:c F 1≠0:=λ e=>qI C ((c0 (F:=F) (p:=n)).mp e)
 cases P with
 | none=>exact absurd h (qI C)
 | some P=>cases R with
  | none=>exact absurd h' (qI C)
  | some R =>
   obtain ⟨u,v⟩:=P
   obtain ⟨u',v'⟩:=R
   have k1:=(c0 (F:=F) (p:=n)).mpr h.2.1
   have k2:=(c0 (F:=F) (p:=n)).mpr h.2.2
   have k3:=(c0 (F:=F) (p:=n)).mpr h'.2.1
   have k4:=(c0 (F:=F) (p:=n)).mpr h'.2.2
   simp only [bR,aS,AR] at k1 k2 k3 k4
   have e1:u=u':=vF (F:=F) hP.1 hR.1 (by grind)
   have e2:v=v':=vF (F:=F) hP.2.1 hR.2.1 (by grind)
   rw [e1,e2]
theorem fW (C:Cv p a b) {P:G} (hP:On p a b P) {X Y Z:Int} (h:Rep p X Y Z P):Rep p X (-Y) Z (minus p P):=C.go λ n F _ _ e h5 _ _=>by
 subst e
 have hm:=vG (F:=F) h5 hP
 rw [rU (F:=F) hP] at h
 rw [rU (F:=F) hm.2,hm.1,PB]
 rcases h with ⟨h1,h2⟩ | ⟨h1,x,y,h2,h3,h4⟩
 · rw [h2]; exact .inl ⟨h1,rfl⟩
 · rw [h2]; exact .inr ⟨h1,x,-y,rfl,h3,by rw [h4]; grind⟩
theorem Df (C:Cv p a b) {u v:Int} (hP:On p a b (some (u,v))) {X Y Z:Int} (h:Rep p X Y Z (some (u,v))) (hy:Y=0):v=0:=C.go λ n F _ _ e h5 _ _=>by
 subst e
 have k0:c F Z≠0:=λ e=>h.1 ((c0 (F:=F) (p:=n)).mp e)
 have k:=(c0 (F:=F) (p:=n)).mpr h.2.2
 rw [hy] at k
 simp only [bR,aS,Hl] at k
 have h1:c F v*(c F Z*c F Z*c F Z)=0:=by (clear k0; grind)
 rcases fQ h1 with h2 | h2
 · exact (sO hP.2.1).mp h2
 · exact absurd h2 (bT (bT k0 k0) k0)
theorem eZ (C:Cv p a b) {u v:Int}:Rep p u v 1 (some (u,v)):=by
 refine ⟨qI C,?_,?_⟩<;>(simp only [Int.mul_one,Int.sub_self]; exact Int.zero_emod p)
theorem pY {P:G} {X Y Z:Int} (h:Rep p X Y Z P) (hz:Z%p≠0):∃ q,P=some q:=by
 cases P with
 | none=>exact absurd h hz
 | some q=>exact ⟨q,rfl⟩
end
theorem vK {ds:List Int} {j:Nat} {y:Int} (h:ds[j]? = some y):val (ds.drop j)=y+2*val (ds.drop (j+1)):=by
 obtain ⟨hj,e⟩:=List.getElem?_eq_some_iff.mp h
 rw [List.drop_eq_getElem_cons hj,e]; rfl
theorem Dg {n:Int} {ds:List Int} {j:Nat} {y:Int} (h:ds[j]? = some y) (hy:y≠0) (hm:(2*val (ds.drop (j+1)))%n=1%n∨(2*val (ds.drop (j+1)))%n=(-1)%n):Meets n ds:=by
 obtain ⟨hj,e⟩:=List.getElem?_eq_some_iff.mp h
 refine ⟨ds.take j,y,ds.drop (j+1),?_,hy,hm⟩
 rw [← e,← List.drop_eq_getElem_cons hj,List.take_append_drop]
theorem Rw:∀ (m:Nat) (f:Nat→Nat),(∀ i,i≤m→f i<m)→∃ i j,i<j∧j≤m∧f i=f j
 | 0,f,h=>absurd (h 0 (Nat.le_refl _)) (Nat.not_lt_zero _)
 | m+1,f,h=>by
  by_cases hc:∃ i,i≤m∧f i=f (m+1)
  · obtain ⟨i,hi,e⟩:=hc
    exact ⟨i,m+1,Lq.Pe hi (Lq.Lj (by decide)),Nat.le_refl _,e⟩
  · have ne:∀ i,i≤m→f i≠f (m+1):=λ i hi e=>hc ⟨i,hi,e⟩
    have hl:=h (m+1) (Nat.le_refl _)
    obtain ⟨i,j,hij,hj,e⟩:=Rw m (λ i=>if f i=m then f (m+1) else f i) (λ i hi=>by
     have h1:=h i (Lq.bZ hi (Lq.nr _ _))
     have h2:=ne i hi
     split<;>lia)
    have hi:i≤m:=(Lq.nw (Lq.xH hij hj))
    have n1:=ne i hi
    have n2:=ne j hj
    refine ⟨i,j,hij,Lq.bZ hj (Lq.nr _ _),?_⟩
    split at e<;>split at e<;>lia
section
variable {p a b:Int}
theorem Jl (C:Cv p a b) {x y v:Int} (h:On p a b (some (x,y))) (h':On p a b (some (x,v))):y=v∨(y+v)%p=0:=C.go λ n F _ _ e h5 _ _=>by
 subst e
 have e1:=fO (F:=F) h
 have e2:=fO (F:=F) h'
 have e1:c F y*c F y=c F x*c F x*c F x+c F a*c F x+c F b:=e1
 have e2:c F v*c F v=c F x*c F x*c F x+c F a*c F x+c F b:=e2
 have z:(c F y-c F v)*(c F y+c F v)=0:=by grind
 by_cases q:c F y=c F v
 · exact .inl (vF (F:=F) h.2.1 h'.2.1 q)
 · refine .inr ((Jf (F:=F) h5).mpr ?_)
   grind
noncomputable def hb (p y:Int):Int:=if 2*y > p then 1 else 0
theorem zW (p y:Int):0≤hb p y∧hb p y≤1:=by unfold hb; split<;>decide
theorem PE {p y v:Int} (h:hb p y=hb p v) (h2:y+v=p):y=v:=by
 unfold hb at h
 split at h<;>split at h<;>first | (cases h; done) | lia
noncomputable def box (p:Int):G→Nat
 | none=>(2*p).toNat
 | some (x,y)=>(2*x+hb p y).toNat
theorem Hr {x k:Int} (h2:x<p) (h4:k≤1):2*x+k<2*p:=Int.lt_of_lt_of_le (Int.add_lt_add_left (Int.lt_add_one_of_le h4) _) ((Int.mul_add 2 x 1).symm▸Int.mul_le_mul_of_nonneg_left (Int.add_one_le_of_lt h2) (by decide))
theorem Jm {P:G} (hp:0<p) (h:On p a b P):box p P<(2*p+1).toNat:=by
 have hp:=Int.mul_pos (show (0:Int)<2 by decide) hp
 cases P with
 | none=>exact Lq.tt (Lq.rs _ (by decide)) (Int.lt_add_one_of_le (Lq.w hp))
 | some P=>exact Lq.tt (Int.lt_add_one_of_le (Lq.w (Hr h.1.2 (zW p P.2).2))) (Int.lt_add_one_of_le (Lq.w hp))
theorem Hs {x k:Int} (h1:0≤x) (h2:x<p) (h4:k≤1) (e:(2*p).toNat=(2*x+k).toNat):False :=
 absurd e (Nat.ne_of_gt (Lq.tt (Hr h2 h4) (Int.mul_pos (by decide) (Int.lt_of_le_of_lt h1 h2))))
theorem Ht {x k:Int} (h3:0≤k) (h4:k≤1):(2*x+k)%2=k:=by rw [Int.add_comm,Int.add_mul_emod_self_left]; exact Int.emod_eq_of_lt h3 (Int.lt_add_one_of_le h4)
theorem Mk {x k u l:Int} (h1:0≤x) (h3:0≤k) (h4:k≤1) (g1:0≤u) (g3:0≤l) (g4:l≤1) (e:(2*x+k).toNat=(2*u+l).toNat):x=u∧k=l:=by
 have e':=congrArg Int.ofNat e
 rw [Int.ofNat_eq_natCast,Int.ofNat_eq_natCast,Int.toNat_of_nonneg (Int.add_nonneg (Int.mul_nonneg (by decide) h1) h3),Int.toNat_of_nonneg (Int.add_nonneg (Int.mul_nonneg (by decide) g1) g3)] at e'
 have hk:k=l:=by rw [← Ht (x:=x) h3 h4,e',Ht g3 g4]
 rw [hk] at e'
 exact ⟨Int.eq_of_mul_eq_mul_left (show (2:Int)≠0 by decide) (by rw [← Int.add_sub_cancel (2*x) l,e',Int.add_sub_cancel]),hk⟩
theorem Ml {y v:Int} (h1:0≤y) (h2:y<p) (g1:0≤v) (g2:v<p) (q:(y+v)%p=0):y=v∨y+v=p:=by
 by_cases h:y+v<p
 · rw [Int.emod_eq_of_lt (Lq.ll (Lq.ll h1 (Lq.r _ (by decide))) (Lq.bl _ g1)) h] at q; lia
 · have:(y+v-p)%p=0:=by rw [Int.sub_emod_right]; exact q
   rw [Int.emod_eq_of_lt (Lq.s0 (Lq.n h)) (by lia)] at this; lia
theorem FJ (C:Cv p a b) {P R:G} (hP:On p a b P) (hR:On p a b R) (e:box p P=box p R):P=R:=by
 cases P with
 | none=>cases R with
  | none=>rfl
  | some R=>exact (Hs hR.1.1 hR.1.2 (zW p R.2).2 e).elim
 | some P=>cases R with
  | none=>exact (Hs hP.1.1 hP.1.2 (zW p P.2).2 e.symm).elim
  | some R =>
   have z:=Mk hP.1.1 (zW p P.2).1 (zW p P.2).2 hR.1.1 (zW p R.2).1 (zW p R.2).2 e
   have Te:On p a b (some (P.1,R.2)):=by rw [z.1]; exact hR
   have ey:P.2=R.2:=by
    rcases Jl C hP Te with q | q
    · exact q
    · rcases Ml hP.2.1.1 hP.2.1.2 hR.2.1.1 hR.2.1.2 q with q | q
      · exact q
      · exact PE z.2 q
   exact congrArg some (Prod.ext z.1 ey)
theorem Dh (C:Cv p a b) {P:G} (hP:On p a b P):∃ n:Int,0<n∧n≤2*p+1∧mul p a n P=none:=by
 have hp:=C.lo
 obtain ⟨i,j,hij,hj,e⟩:=Rw (2*p+1).toNat (λ i=>box p (mul p a i P)) λ i _=>Jm (by lia) (aH C hP _)
 have e:=FJ C (aH C hP _) (aH C hP _) e
 refine ⟨(j:Int)-i,Lq.s1 (Lq.cs hij),by lia,?_⟩
 rw [Int.sub_eq_add_neg,mul_add C hP,mul_neg C hP,← e,lN C (aH C hP _)]
end
section
variable {p a b:Int}
end
structure Pm (m n t s r:Int):Prop where
 e:m=s+t*r
 t0:0<t
 r0:0≤r
 b1:3*s<2*t
 b2:-(2*t)<3*s
 o:r%2=1→3*s<t∧-t<3*s
 m0:0≤m
 m1:m<2*n
section
variable {m n t s r:Int}
theorem Pm.start (h0:0≤m) (h1:m<2*n):Pm m n 1 0 m:=⟨by lia,by decide,h0,by decide,by decide,λ _=>by decide,h0,h1⟩
theorem Pm.PF (h:Pm m n t s r) (hr:r%2=0):Pm m n (2*t) s (r / 2):=by
 obtain ⟨e,t0,r0,b1,b2,o,m0,m1⟩:=h
 have er:r=2*(r / 2):=by lia
 have e2:t*r=2*t*(r / 2):=by rw [Int.mul_assoc,Int.mul_left_comm,← er]
 exact ⟨by rw [← e2]; exact e,by lia,by lia,by lia,by lia,λ _=>⟨by omega,by omega⟩,m0,m1⟩
theorem Pm.plus (h:Pm m n t s r) (hr:r%4=1):Pm m n (2*t) (s+t) ((r-1) / 2):=by
 obtain ⟨e,t0,r0,b1,b2,o,m0,m1⟩:=h
 have oo:=o (by lia)
 have er:r=2*((r-1) / 2)+1:=by lia
 have e2:t*r=2*t*((r-1) / 2)+t:=by
  have:t*r=t*(2*((r-1) / 2)+1):=by rw [← er]
  rw [this,Int.mul_add,Int.mul_one,Int.mul_left_comm,Int.mul_assoc]
 exact ⟨by (clear er m1 r0 hr; omega),by (clear e; lia),by (clear e2 oo m1 m0 b2 b1 t0 e hr; omega),by (clear t0 e; lia),by (clear oo e; lia),λ h=>by (clear e2 oo m1 m0 b2 b1 t0 e; omega),m0,m1⟩
theorem Pm.minus (h:Pm m n t s r) (hr:r%4=3):Pm m n (2*t) (s-t) ((r+1) / 2)∧0<s+t∧s+t<n:=by
 obtain ⟨e,t0,r0,b1,b2,o,m0,m1⟩:=h
 have oo:=o (by lia)
 have er:r=2*((r+1) / 2)-1:=by lia
 have e2:t*r=2*t*((r+1) / 2)-t:=by
  have:t*r=t*(2*((r+1) / 2)-1):=by rw [← er]
  rw [this,Int.mul_sub,Int.mul_one,Int.mul_left_comm,Int.mul_assoc]
 have e3:t*3≤t*r:=Int.mul_le_mul_of_nonneg_left (by lia) (Lq.w t0)
 exact ⟨⟨by lia,by (clear e; lia),by (clear o hr; lia),by (clear oo e; lia),by (clear t0 e; lia),λ h=>by lia,m0,m1⟩,by (clear oo e; lia),by (clear e2 oo; lia)⟩
theorem Pm.fin (h:Pm m n t s r) (ht:8*n≤t):s=m:=by
 obtain ⟨e,t0,r0,b1,b2,o,m0,m1⟩:=h
 have hr:r=0:=by
  rcases Int.lt_or_le 0 r with h | h
  · have e3:t*1≤t*r:=Int.mul_le_mul_of_nonneg_left (by lia) (Lq.w t0)
    lia
  · exact Lq.e h r0
 rw [hr,Int.mul_zero] at e
 lia
end
theorem FL {n:Int} (h1:1<n) (h2:n%2=1):∀ k:Nat,(2:Int)^k%n≠0:=by
 intro k
 induction k with
 | zero=>rw [Int.pow_zero,Int.emod_eq_of_lt (by decide) h1]; decide
 | succ k ih =>
  intro h
  obtain ⟨q,hq⟩:=Int.dvd_of_emod_eq_zero h
  rw [Int.pow_succ] at hq
  have hq2:q%2=0:=by
   have e:(n*q)%2=0:=by rw [← hq]; lia
   rw [Int.mul_emod,h2,Int.one_mul,Int.emod_emod] at e
   exact e
  have e1:q=2*(q / 2):=by lia
  refine ih (Int.emod_eq_zero_of_dvd ⟨q / 2,?_⟩)
  have e2:n*q=2*(n*(q / 2)):=by rw [Int.mul_left_comm,← e1]
  lia
noncomputable def Jo (p:Nat):Nat→Nat
 | 0=>0
 | y+1=>Jo p y ||| 2^(y*y%p)
noncomputable def Jp (m p a b:Nat):Nat→Bool
 | 0=>false
 | n+1=>Nat.testBit m ((n*n*n+a*n+b)%p)||Jp m p a b n
noncomputable def zX (m p a k:Nat):Nat→Bool
 | 0=>true
 | b+1=>Jp m p a b k&&zX m p a k b
noncomputable def BQ (m p k:Nat):Nat→Bool
 | 0=>true
 | a+1=>zX m p a k p&&BQ m p k a
theorem Jq {p r:Nat}:∀ n,Nat.testBit (Jo p n) r=true→∃ y,y<n∧y*y%p=r:=by
 intro n
 induction n with
 | zero=>intro h; rw [show Jo p 0=0 from rfl,Nat.zero_testBit] at h; cases h
 | succ n ih =>
  intro h
  rw [show Jo p (n+1)=Jo p n ||| 2^(n*n%p) from rfl,Nat.testBit_or,Bool.or_eq_true] at h
  rcases h with h | h
  · exact (ih h).elim λ y z=>⟨y,Nat.lt_succ_of_lt z.1,z.2⟩
  · rw [Nat.testBit_two_pow] at h
    exact ⟨n,Nat.lt_succ_self n,of_decide_eq_true h⟩
theorem Jr {m p a b:Nat}:∀ n,Jp m p a b n=true→∃ x,x<n∧Nat.testBit m ((x*x*x+a*x+b)%p)=true:=by
 intro n
 induction n with
 | zero=>intro h; cases h
 | succ n ih =>
  intro h
  rw [show Jp m p a b (n+1)=(Nat.testBit m ((n*n*n+a*n+b)%p)||Jp m p a b n) from rfl,Bool.or_eq_true] at h
  rcases h with h | h
  · exact ⟨n,Nat.lt_succ_self n,h⟩
  · exact (ih h).elim λ y z=>⟨y,Nat.lt_succ_of_lt z.1,z.2⟩
theorem FN {m p a k:Nat}:∀ B,zX m p a k B=true→∀ b,b<B→Jp m p a b k=true:=by
 intro B
 induction B with
 | zero=>exact λ _ b h=>absurd h (Nat.not_lt_zero b)
 | succ B ih =>
  intro h b hb
  rw [show zX m p a k (B+1)=(Jp m p a B k&&zX m p a k B) from rfl,Bool.and_eq_true] at h
  rcases Nat.lt_or_eq_of_le (Nat.le_of_lt_succ hb) with e | e
  · exact ih h.2 b e
  · rw [e]; exact h.1
theorem FO {m p k:Nat}:∀ A,BQ m p k A=true→∀ a,a<A→zX m p a k p=true:=by
 intro A
 induction A with
 | zero=>exact λ _ b h=>absurd h (Nat.not_lt_zero b)
 | succ A ih =>
  intro h b hb
  rw [show BQ m p k (A+1)=(zX m p A k p&&BQ m p k A) from rfl,Bool.and_eq_true] at h
  rcases Nat.lt_or_eq_of_le (Nat.le_of_lt_succ hb) with e | e
  · exact ih h.2 b e
  · rw [e]; exact h.1
theorem Tf {p k:Nat} (hk:k≤p) (h:BQ (Jo p p) p k p=true) (a b:Nat) (ha:a<p) (hb:b<p):∃ x y,x<p∧y<p∧y*y%p=(x*x*x+a*x+b)%p:=by
 obtain ⟨x,hx,e⟩:=Jr k (FN p (FO p h a ha) b hb)
 obtain ⟨y,hy,e2⟩:=Jq p e
 exact ⟨x,y,Nat.lt_of_lt_of_le hx hk,hy,e2⟩
noncomputable def K4:List Nat:=[5,7,11,13,17,19,23,29,31,37,41,43,47,53,59,61,67,71,73,79,83,89,97,101]
theorem Js:∀ p∈K4,BQ (Jo p p) p (min p 30) p=true:=by decide +kernel
theorem FP {p a b:Nat} (hp:p∈K4) (ha:a<p) (hb:b<p):∃ x y,x<p∧y<p∧y*y%p=(x*x*x+a*x+b)%p:=Tf (Nat.min_le_left _ _) (Js p hp) a b ha hb
noncomputable def qL (ds:List Int) (k:Nat):Int:=(ds[k]?).getD 0
theorem A1 (ds:List Int) (k:Nat):val (ds.drop k)=qL ds k+2*val (ds.drop (k+1)):=by
 unfold qL
 cases h:ds[k]? with
 | some y=>exact vK h
 | none =>
  have hl:=List.getElem?_eq_none_iff.mp h
  rw [List.drop_eq_nil_of_le hl,List.drop_eq_nil_of_le (Nat.le_succ_of_le hl)]
  rfl
theorem uc {ds:List Int} {k:Nat} (h:ds.length≤k):val (ds.drop k)=0:=by rw [List.drop_eq_nil_of_le h]; rfl
theorem qh {m:Int} {ds:List Int} (h:eW m ds) (k:Nat):qL ds k=0∨qL ds k=1∨qL ds k=-1:=by
 unfold qL
 cases e:ds[k]? with
 | some y=>exact h.digit y (List.mem_of_getElem? e)
 | none=>exact .inl rfl
noncomputable def tw (x:Int) (ds es:List Int) (k:Nat):Int:=val (ds.drop k)+x*val (es.drop k)
theorem A2 (x:Int) (ds es:List Int) (k:Nat):tw x ds es k=2*tw x ds es (k+1)+(qL ds k+x*qL es k):=by
 unfold tw
 rw [A1 ds k,A1 es k,Int.mul_add,Int.mul_add,Int.mul_left_comm]
 lia
def tH (nn x:Int) (ds es:List Int):Prop:=∀ k,qL ds k≠0∨qL es k≠0→(2*tw x ds es (k+1))%nn≠0→(2*tw x ds es (k+1)-(qL ds k+x*qL es k))%nn≠0
theorem xR {ds:List Int} {n i:Nat} {y:Int} (h:(List.replicate n 0++ds.reverse)[i]? = some y):y=qL ds (n+ds.length-1-i):=by
 unfold qL
 by_cases h1:i<n
 · rw [List.getElem?_append_left (Nat.lt_of_lt_of_eq h1 List.length_replicate.symm)] at h
   rw [List.getElem?_eq_none (Nat.le_sub_of_add_le (Nat.le_sub_of_add_le (by rw [Nat.add_comm n]; exact Nat.add_le_add_left h1 _)))]
   exact List.eq_of_mem_replicate (List.mem_of_getElem? h)
 · obtain ⟨j,rfl⟩:=Nat.exists_eq_add_of_le (Nat.not_lt.mp h1)
   rw [List.getElem?_append_right (Nat.le_trans (Nat.le_of_eq List.length_replicate) (Nat.le_add_right _ _)),List.length_replicate,Nat.add_sub_cancel_left] at h
   have hj:=(List.getElem?_eq_some_iff.mp h).1
   rw [List.length_reverse] at hj
   rw [List.getElem?_reverse hj] at h
   rw [Nat.sub_sub,Nat.add_left_comm 1 n j,Nat.add_sub_add_left,← Nat.sub_sub,h]
   rfl
theorem Cv.Mm {p a b:Int} (C:Cv p a b) {k:Int} (h1:1<k) (h2:k<p):p%k≠0:=λ h=>by
 have e:=C.fG k (by rw [Int.emod_eq_of_lt (Lq.w (Lq.ls (by decide) h1)) h2]; exact Lq.y (Lq.ls (by decide) h1))
 obtain ⟨m,hm⟩:=Int.dvd_of_emod_eq_zero h
 have e2:=Int.mul_ediv_add_emod (k*inv p k) p
 rw [e] at e2
 have d:k∣1:=by
  have h3:(1:Int)=k*(inv p k-m*(k*inv p k / p)):=by
   rw [Int.mul_sub,← Int.mul_assoc,← hm]; lia
  exact ⟨_,h3⟩
 have:=Int.le_of_dvd (by decide) d
 exact Lq.f h1 this
theorem Di:∀ n∈List.range 102,5≤n→n%2≠0→n%3≠0→(n=5∨n%5≠0)→(n=7∨n%7≠0)→n∈K4:=by decide +kernel
theorem FQ (n:Nat) (h:n<102):5≤n→n%2≠0→n%3≠0→(n=5∨n%5≠0)→(n=7∨n%7≠0)→n∈K4:=Di n (List.mem_range.mpr h)
theorem Cv.BR {n k:Nat} {a b:Int} (C:Cv (n:Int) a b) (h1:1<k) (h2:k<n):n%k≠0:=λ h =>
 C.Mm (k:=(k:Int)) (Int.ofNat_lt.mpr h1) (Int.ofNat_lt.mpr h2) ((Int.natCast_emod n k).symm.trans (congrArg Nat.cast h))
theorem orOf {n k:Nat} {a b:Int} (C:Cv (n:Int) a b) (h1:1<k) (h:n≠k→¬ n<k):n=k∨n%k≠0:=by
 by_cases e:n=k
 · exact .inl e
 · exact .inr (C.BR h1 (Nat.lt_of_le_of_ne (Nat.not_lt.mp (h e)) (Ne.symm e)))
theorem Tg:∀ n∈List.range 7,5≤n→n%2≠0→n%7≠0:=by decide +kernel
theorem Cv.mem {p a b:Int} (C:Cv p a b):p.toNat∈K4:=by
 obtain ⟨n,rfl⟩:=Int.eq_ofNat_of_zero_le (Int.le_trans (by decide) C.lo)
 have h1:5≤n:=Int.ofNat_le.mp C.lo
 have h2:n<102:=Nat.lt_succ_of_le (Int.ofNat_le.mp C.hi)
 have f2:=C.BR (k:=2) (by decide) (Nat.lt_of_lt_of_le (by decide) h1)
 have f3:=C.BR (k:=3) (by decide) (Nat.lt_of_lt_of_le (by decide) h1)
 rw [Int.toNat_natCast]
 refine FQ n h2 h1 f2 f3 (orOf C (by decide) λ _=>Nat.not_lt.mpr h1) ?_
 by_cases e:n<7
 · exact .inr (Tg n (List.mem_range.mpr e) h1 f2)
 · exact orOf C (by decide) λ _=>e
theorem Cv.point {p a b:Int} (C:Cv p a b) (ha:0≤a∧a<p) (hb:0≤b∧b<p):∃ x y:Int,0≤x∧x<p∧0≤y∧y<p∧y*y%p=(x*x*x+a*x+b)%p:=by
 obtain ⟨n,rfl⟩:=Int.eq_ofNat_of_zero_le (show 0≤p by have:=C.lo; exact Lq.ll (by decide) this)
 obtain ⟨m,rfl⟩:=Int.eq_ofNat_of_zero_le ha.1
 obtain ⟨k,rfl⟩:=Int.eq_ofNat_of_zero_le hb.1
 have hm:n∈K4:=by have:=C.mem; rwa [Int.toNat_natCast] at this
 obtain ⟨x,y,h1,h2,e⟩:=FP (p:=n) (a:=m) (b:=k) hm (Lq.us ha.2) (Lq.us hb.2)
 exact ⟨x,y,Lq.z _,Lq.cs h1,Lq.z _,Lq.cs h2,by exact_mod_cast e⟩
theorem Cv.hp {p a b:Int} (C:Cv p a b):p≤((1000:Nat):Int):=by have:=C.hi; exact Lq.ll this (by decide)
theorem Cv.pos {p a b:Int} (C:Cv p a b):0<p:=by have:=C.lo; lia
end EC
namespace JL
open PySem PySem.W PySem.Calls PyProof.Rows
abbrev vL (s s':Shared):Prop:=s.heap.objs.size≤s'.heap.objs.size
set_option tactic.hygienic true in
theorem Runs.grow {M:Model} {Γ:Ctx} {p:Pos} {t:Sem Fin} {fs:List Frame} {s s':Shared} {e:End} (h:Runs M Γ p t fs s e s'):vL s s':=by
 induction h<;>first
  | exact Nat.le_refl _
  | assumption
  | (rename_i ih; exact Nat.le_trans (Nat.le_of_eq (Heap.size_after_update ..).symm) ih)
  | (rename_i ih; exact Nat.le_trans (Nat.le_trans (Nat.le_succ _) (Nat.le_of_eq (Heap.size_push ..).symm)) ih)
  | (rename_i ih1 ih2; exact Nat.le_trans ih1 ih2)
theorem Wakes.grow {M:Model} {Γ:Ctx} {p:Pos} {g:Nat} {r:Resume} {s s':Shared} {res:GenResult} (h:Wakes M Γ p g r s res s'):vL s s':=by
 unfold Wakes at h
 cases q:s.gens[g]? with
 | none=>rw [q] at h; exact h.elim
 | some o =>
  rw [q] at h
  have same (P:Prop) (z:P∧s'=s):vL s s':=z.2▸Nat.le_refl _
  cases o with
  | fresh c=>cases r with
   | send v =>
    have same' (z:res=.justStarted∧s'=s):vL s s':=same _ z
    cases v with
    | none=>obtain ⟨e,eO,hr,_,_,rfl⟩:=h; have:=Runs.grow hr; exact this
    | _=>exact same' h
   | throw x=>obtain ⟨_,rfl⟩:=h; exact Nat.le_refl _
  | suspended=>obtain ⟨e,eO,hr,_,_,rfl⟩:=h; have:=Runs.grow hr; exact this
  | running=>exact same _ h
  | finished=>exact same _ h
theorem wp.grow {α:Type} {M:Model} {Γ:Ctx} {Q:α→Pos→Shared→Prop} {E:Value→Pos→Shared→Prop} :
 ∀ (t:Sem α) (bJ:Shared) (p:Pos) (s:Shared),vL bJ s→Sem.wp M Γ t Q E p s→Sem.wp M Γ t (λ a p' s'=>Q a p' s'∧vL bJ s') (λ a p' s'=>E a p' s'∧vL bJ s') p s:=by
 intro t
 induction t with
 | pure a=>intro bJ p s hs h; exact ⟨h,hs⟩
 | raise e=>intro bJ p s hs h; exact ⟨h,hs⟩
 | unsupported=>intro bJ p s hs h; exact h
 | finish=>intro bJ p s hs h; exact h
 | rule _ k ih=>intro bJ p s hs h; exact ih () bJ p s hs h
 | «at» q k ih=>intro bJ p s hs h; exact ih () bJ q s hs h
 | load a _ k ih=>intro bJ p s hs h; obtain ⟨o,ho,h⟩:=h; exact ⟨o,ho,ih o bJ p s hs h⟩
 | update a _ f k ih=>intro bJ p s hs h; exact ⟨h.1,ih () bJ p _ (Nat.le_trans hs (Nat.le_of_eq (Heap.size_after_update ..).symm)) h.2⟩
 | alloc o k ih=>intro bJ p s hs h; exact ih _ bJ p _ (Nat.le_trans hs (Nat.le_trans (Nat.le_succ _) (Nat.le_of_eq (Heap.size_push ..).symm))) h
 | loadIfAlive a k ih=>intro bJ p s hs h; exact ih _ bJ p s hs h
 | point _ k ih=>intro bJ p s hs h; exact ih () bJ p s hs h
 | register=>intro bJ p s hs h; exact h
 | fresh k ih=>intro bJ p s hs h; exact ih _ bJ p _ hs h
 | ask k ih=>intro bJ p s hs h; exact ih _ bJ p s hs h
 | choose src n k ih=>intro bJ p s hs h; exact ⟨h.1,ih _ bJ p _ hs h.2⟩
 | os q _ k ih=>intro bJ p s hs h; exact ih _ bJ p _ hs h
 | call c hd _ _ k ih=>intro bJ p s hs h; obtain ⟨r,s',hr,h⟩:=h; exact ⟨r,s',hr,ih r bJ p s' (Nat.le_trans hs (Runs.grow hr)) h⟩
 | handled own k ih=>intro bJ p s hs h; exact ih _ bJ p s hs h
 | newGen c k ih=>intro bJ p s hs h; exact ih _ bJ p _ hs h
 | genState g k ih=>intro bJ p s hs h; obtain ⟨st,e,h⟩:=h; exact ⟨st,e,ih _ bJ p s hs h⟩
 | resume g r _ k ih=>intro bJ p s hs h; obtain ⟨r,s',hr,h⟩:=h; exact ⟨r,s',hr,ih r bJ p s' (Nat.le_trans hs (Wakes.grow hr)) h⟩
 | yield=>intro bJ p s hs h; exact h
 | stack k ih=>intro bJ p s hs h; exact ih _ bJ p s hs h
 | fork=>intro bJ p s hs h; exact h
 | thread k ih=>intro bJ p s hs h; exact ih _ bJ p s hs h
 | await=>intro bJ p s hs h; exact h
theorem grow {α:Type} {M:Model} {A:Around} {t:Sem α} {Q:α→Shared→Prop} {E:Value→Shared→Prop} {s:Shared} (h:wpAny M A t Q E s) :
 wpAny M A t (λ a s'=>Q a s'∧vL s s') (λ a s'=>E a s'∧vL s s') s:=λ Γ p hΓ=>wp.grow t s p s (Nat.le_refl _) (h Γ p hΓ)
theorem qx {α:Type} {M:Model} {A:Around} {t:Sem α} {Q:α→Shared→Prop} {E:Value→Shared→Prop} {s:Shared} (h:wpAny M A t (λ a s'=>vL s s'→Q a s') E s):wpAny M A t Q E s :=
 wpAny_mono (grow h) (λ _ _ x=>x.1 x.2) λ _ _ x=>x.1
theorem aG {P:Prop} (h:∀ G:Prop,(P→G)→G):P:=h P id
theorem aT {α:Type} {x:α} {P:Prop} (h:none=some x):P:=nomatch h
theorem cS {P:Prop} (h:false=true):P:=nomatch h
theorem BS {p:Prop} [i:Decidable p] {α:Type} {f:p→Option α} {b:α} (h:(if hp:p then f hp else none)=some b):∃ hp:p,f hp=some b:=by
 cases i with
 | isTrue hp=>exact ⟨hp,h⟩
 | isFalse _=>exact aT h
noncomputable def wH (v:Value):Option Addr:=if h:v.ctorIdx=10 then Value.ref.elim (motive:=λ _=>Option Addr) v h some else none
theorem gM {v:Value} {a:Addr} (h:wH v=some a):v=.ref a:=by
 obtain ⟨hp,h⟩:=BS h
 exact Value.ref.elim (motive:=λ v=>∀ hp,Value.ref.elim (motive:=λ _=>Option Addr) v hp some=some a→v=.ref a) v hp (λ _ _ h=>congrArg _ (Option.some.inj h)) hp h
noncomputable def PG (d:Data):Bool:=Nat.beq d.ctorIdx 0
theorem Dj {d:Data} (h:PG d=true):d=.plain:=Data.plain.elim (motive:=λ d=>d=.plain) d (Nat.eq_of_beq_eq_true h) rfl
theorem cC {α β:Type} {o:Option α} {f:α→Option β} {b:β} (h:o.bind f=some b):∃ a,o=some a∧f a=some b:=Option.bind_eq_some_iff.mp h
theorem FT {α:Type} {c:Bool} {a b:α} (h:(if c=true then some a else none)=some b):c=true∧a=b:=by
 cases c with
 | true=>exact ⟨rfl,Option.some.inj h⟩
 | false=>exact aT h
@[elab_as_elim] theorem sE {α:Type} {a b:α} {P:α→Prop} (h:some a=some b) (k:P a):P b:=Option.some.inj h▸k
inductive AV where
 | none
 | bool (b:Bool)
 | int (i:Int)
 | tup (vs:List AV)
 | lst (n:Nat)
 | dct (n:Nat)
 | inst (C:Addr) (n:Nat)
 | g7 (f:Addr) (self:AV)
 | gO (a b c:Int)
 | cst (v:Value)
inductive AO where
 | lst (xs:List AV)
 | dct (es:List (Int×AV))
 | inst (fs:List (Str×AV))
 | tab (l c:Nat)
noncomputable def AO.Hu (o:AO):Bool:=Nat.beq o.ctorIdx 3
mutual
inductive VR (X ρ:List Addr) (h:Heap):AV→Value→Prop
 | none:VR X ρ h .none .none
 | bool (b:Bool):VR X ρ h (.bool b) (.bool b)
 | int (i:Int) (t:Tok):VR X ρ h (.int i) (.int i t)
 | tup {vs:List AV} {ws:List Value} {a:Addr} {n:Nat}:h.get? a=some ({ cls:=.type "tuple",data:=.seq ws.toArray n }:Obj)→a∉X→bA X ρ h vs ws→VR X ρ h (.tup vs) (.ref a)
 | lst {n:Nat} {a:Addr}:ρ[n]? = some a→VR X ρ h (.lst n) (.ref a)
 | dct {n:Nat} {a:Addr}:ρ[n]? = some a→VR X ρ h (.dct n) (.ref a)
 | inst {C:Addr} {n:Nat} {x dx:Addr}:ρ[n]? = some dx→h.get? x=some (instObj C dx)→VR X ρ h (.inst C n) (.ref x)
 | g7 {f:Addr} {self:AV} {p:Addr} {v:Value}:h.get? p=some (methodObj (.ref f) v)→VR X ρ h self v→VR X ρ h (.g7 f self) (.ref p)
 | gO {a b c:Int} {r:Addr} {t u v:Tok}:IsRange h r a b c t u v→VR X ρ h (.gO a b c) (.ref r)
 | cst (v:Value):VR X ρ h (.cst v) v
inductive bA (X ρ:List Addr) (h:Heap):List AV→List Value→Prop
 | nil:bA X ρ h [] []
 | cons {a:AV} {v:Value} {as:List AV} {vs:List Value}:VR X ρ h a v→bA X ρ h as vs→bA X ρ h (a :: as) (v :: vs)
end
section
variable {X ρ:List Addr} {h:Heap} {P:Value→Prop} {v:Value}
@[elab_as_elim] theorem VR.xS (x:VR X ρ h .none v) (k:P .none):P v:=by cases x; exact k
@[elab_as_elim] theorem VR.lO {b:Bool} (x:VR X ρ h (.bool b) v) (k:P (.bool b)):P v:=by cases x; exact k
@[elab_as_elim] theorem VR.cL {i:Int} (x:VR X ρ h (.int i) v) (k:∀ t,P (.int i t)):P v:=by cases x; exact k _
@[elab_as_elim] theorem VR.bh {u:Value} (x:VR X ρ h (.cst u) v) (k:P u):P v:=by cases x; exact k
@[elab_as_elim] theorem VR.gP {n:Nat} (x:VR X ρ h (.lst n) v) (k:∀ a,ρ[n]? = some a→P (.ref a)):P v:=by cases x; exact k _ ‹_›
@[elab_as_elim] theorem VR.Dk {n:Nat} (x:VR X ρ h (.dct n) v) (k:∀ a,ρ[n]? = some a→P (.ref a)):P v:=by cases x; exact k _ ‹_›
@[elab_as_elim] theorem VR.lP {C:Addr} {n:Nat} (x:VR X ρ h (.inst C n) v) (k:∀ a dx,ρ[n]? = some dx→h.get? a=some (instObj C dx)→P (.ref a)):P v:=by cases x; exact k _ _ ‹_› ‹_›
@[elab_as_elim] theorem VR.A3 {vs:List AV} (x:VR X ρ h (.tup vs) v) (k:∀ ws a n,h.get? a=some ({ cls:=.type "tuple",data:=.seq ws.toArray n }:Obj)→a∉X→bA X ρ h vs ws→P (.ref a)):P v:=by cases x with | tup a b c=>exact k _ _ _ a b c
@[elab_as_elim] theorem VR.Dl {f:Addr} {self:AV} (x:VR X ρ h (.g7 f self) v) (k:∀ p v,h.get? p=some (methodObj (.ref f) v)→VR X ρ h self v→P (.ref p)):P v:=by cases x with | g7 a b=>exact k _ _ a b
@[elab_as_elim] theorem bA.aU {P:List Value→Prop} {v:List Value} (x:bA X ρ h [] v) (k:P []):P v:=by cases x; exact k
@[elab_as_elim] theorem bA.ao {P:List Value→Prop} {v:List Value} {a:AV} {as:List AV} (x:bA X ρ h (a :: as) v) (k:∀ w ws,VR X ρ h a w→bA X ρ h as ws→P (w :: ws)):P v:=by cases x with | cons a b=>exact k _ _ a b
end
noncomputable def xU:List String:=["list_iterator", "tuple_iterator", "range_iterator", "list_reverseiterator", "zip"]
noncomputable def lg (o:Obj):Bool:=match o.data with
 | .dict ..=>true
 | .cell _=>true
 | .seq ..=>o.cls==.type "list"
 | .fields _=>(match o.cls with | .type n=>xU.contains n | .none=>true | _=>false)
 | _=>false
noncomputable def qk (o:Obj):Bool:=match o.data with
 | .dict ..=>true
 | .seq ..=>o.cls==.type "list"
 | .fields _=>Nat.beq o.cls.ctorIdx 0
 | _=>false
noncomputable def isTup (o:Obj):Bool:=match o.data with
 | .seq ..=>o.cls==.type "tuple"
 | _=>false
def b7 (X:List Addr) (h:Heap) (S:List Addr):Prop:=∀ a∈S,∃ o,h.get? a=some o∧(lg o=true∨(isTup o=true∧a∈X))
structure aJ (S:List Addr) (h h':Heap):Prop where
 size:h.objs.size≤h'.objs.size
 keep:∀ b o,h.get? b=some o→b∉S→h'.get? b=some o
theorem aJ.refl (S:List Addr) (h:Heap):aJ S h h:=⟨Nat.le_refl _,λ _ _ e _=>e⟩
theorem aJ.weaken {S T:List Addr} {h h':Heap} (P:aJ S h h') (hs:∀ a∈S,a∈T):aJ T h h':=⟨P.size,λ b o e n=>P.keep b o e λ m=>n (hs b m)⟩
theorem aJ.trans {S δ:List Addr} {h h₁ br:Heap} (P:aJ S h h₁) (hδ:∀ a∈δ,h.objs.size≤a) (Q:aJ (S++δ) h₁ br):aJ S h br :=
 ⟨Nat.le_trans P.size Q.size,λ b o e n=>Q.keep b o (P.keep b o e n) λ m=>by
  rcases List.mem_append.mp m with m | m
  · exact n m
  · exact absurd (Heap.lt_size e) (Nat.not_lt.mpr (hδ b m))⟩
theorem aJ.push (S:List Addr) (h:Heap) (o:Obj):aJ S h (h.push o):=⟨by rw [Heap.size_push]; exact Nat.le_succ _,λ _ _ e _=>Heap.get?_push_of_some o e⟩
theorem aJ.zY {S:List Addr} {h h':Heap} (hs:h.objs.size≤h'.objs.size) (k:∀ b o,h.get? b=some o→h'.get? b=some o):aJ S h h':=⟨hs,λ b o e _=>k b o e⟩
theorem aJ.sameBut {S:List Addr} {h h':Heap} {a:Addr} (hs:Heap.SameBut a h h') (ha:a∈S):aJ S h h' :=
 ⟨Nat.le_of_eq hs.1.symm,λ b o e n=>(hs.2 b λ q=>n (q▸ha)).trans e⟩
theorem b7.not {X:List Addr} {h:Heap} {S:List Addr} (M:b7 X h S) {a:Addr} {o:Obj} (e:h.get? a=some o) (hm:(lg o||isTup o)=false):a∉S:=λ m=>by
 obtain ⟨o',e',hm'⟩:=M a m
 rw [e] at e'; cases e'
 rw [Bool.or_eq_false_iff] at hm
 rcases hm' with z | ⟨z,_⟩
 · rw [hm.1] at z; cases z
 · rw [hm.2] at z; cases z
theorem b7.Mn {X:List Addr} {h:Heap} {S:List Addr} (M:b7 X h S) {a:Addr} {o:Obj} (e:h.get? a=some o) (hm:lg o=false) (hx:a∉X):a∉S:=λ m=>by
 obtain ⟨o',e',hm'⟩:=M a m
 rw [e] at e'; cases e'
 rcases hm' with z | ⟨_,z⟩
 · rw [hm] at z; cases z
 · exact hx z
theorem VR.conv {X Y ρ ρ':List Addr} {h h':Heap} (k:∀ (n:Nat) a,ρ[n]? = some a→ρ'[n]? = some a) (g:∀ a o,h.get? a=some o→(lg o||isTup o)=false→h'.get? a=some o)
 (t:∀ a (ws:Array Value) n,h.get? a=some ({ cls:=.type "tuple",data:=.seq ws n }:Obj)→a∉X→h'.get? a=some ({ cls:=.type "tuple",data:=.seq ws n }:Obj)∧a∉Y) {a:AV} {v:Value} (x:VR X ρ h a v):VR Y ρ' h' a v :=
 VR.rec (motive_1:=λ a v _=>VR Y ρ' h' a v) (motive_2:=λ as vs _=>bA Y ρ' h' as vs) .none .bool .int (λ e hx _ ih=>.tup (t _ _ _ e hx).1 (t _ _ _ e hx).2 ih) (λ e=>.lst (k _ _ e)) (λ e=>.dct (k _ _ e)) (λ e z=>.inst (k _ _ e) (g _ _ z rfl)) (λ e _ ih=>.g7 (g _ _ e rfl) ih) (λ e=>.gO (g _ _ e rfl)) .cst .nil (λ _ _ h1 h2=>.cons h1 h2) x
theorem bA.each {X Y ρ ρ':List Addr} {h h':Heap} (f:∀ {a v},VR X ρ h a v→VR Y ρ' h' a v) {as:List AV}:∀ {vs:List Value},bA X ρ h as vs→bA Y ρ' h' as vs:=by
 induction as with
 | nil=>exact λ hv=>hv.aU .nil
 | cons a as ih=>exact λ hv=>hv.ao λ w ws x r=>.cons (f x) (ih r)
theorem VR.mono {X ρ δ S:List Addr} {h h':Heap} (M:b7 X h S) (P:aJ S h h') {a:AV} {v:Value} (x:VR X ρ h a v):VR X (ρ++δ) h' a v :=
 x.conv (λ n a e=>(List.getElem?_append_left (List.getElem?_eq_some_iff.mp e).1).trans e) (λ a o e hm=>P.keep _ _ e (M.not e hm)) λ a ws n e hx=>⟨P.keep _ _ e (M.Mn e rfl hx),hx⟩
theorem bA.mono {X ρ δ S:List Addr} {h h':Heap} (M:b7 X h S) (P:aJ S h h') {as:List AV} {vs:List Value} (x:bA X ρ h as vs):bA X (ρ++δ) h' as vs:=x.each λ y=>y.mono M P
inductive w7 (X ρ:List Addr) (h:Heap):List (Str×AV)→List DictEntry→Prop
 | nil:w7 X ρ h [] []
 | cons {x:Str} {a:AV} {fs:List (Str×AV)} {e:DictEntry} {es:List DictEntry}:(∃ t,e.key=.str x t)→VR X ρ h a e.val→w7 X ρ h fs es→w7 X ρ h ((x,a) :: fs) (e :: es)
inductive zZ (X ρ:List Addr) (h:Heap):List (Int×AV)→List DictEntry→Prop
 | nil:zZ X ρ h [] []
 | cons {i:Int} {a:AV} {fs:List (Int×AV)} {e:DictEntry} {es:List DictEntry}:((∃ t,e.key=.int i t)∧e.hash=hashInt i)→VR X ρ h a e.val→zZ X ρ h fs es→zZ X ρ h ((i,a) :: fs) (e :: es)
theorem w7.mono {X ρ δ S:List Addr} {h h':Heap} (M:b7 X h S) (P:aJ S h h') {fs es} (x:w7 X ρ h fs es):w7 X (ρ++δ) h' fs es:=by
 induction x with
 | nil=>exact .nil
 | cons k v _ ih=>exact .cons k (v.mono M P) ih
theorem zZ.mono {X ρ δ S:List Addr} {h h':Heap} (M:b7 X h S) (P:aJ S h h') {fs es} (x:zZ X ρ h fs es):zZ X (ρ++δ) h' fs es:=by
 induction x with
 | nil=>exact .nil
 | cons k v _ ih=>exact .cons k (v.mono M P) ih
noncomputable def OR (X ρ:List Addr) (h:Heap):AO→Obj→Prop
 | .lst xs,o=>∃ ws n,o=({ cls:=.type "list",data:=.seq ws.toArray n }:Obj)∧bA X ρ h xs ws
 | .dct es,o=>∃ ds n,o=dictOf ds n∧zZ X ρ h es ds∧(es.map (·.1)).Nodup
 | .inst fs,o=>∃ ds n,o=dictOf ds n∧w7 X ρ h fs ds
 | .tab l c,o=>o={ cls:=.none,data:=.fields #[] }∨∃ k,o={ cls:=.none,data:=.fields #[rawInt l,rawInt c,.ref k] }
theorem OR.mono {X ρ δ S:List Addr} {h h':Heap} (M:b7 X h S) (P:aJ S h h'):∀ {a:AO} {o:Obj},OR X ρ h a o→OR X (ρ++δ) h' a o
 | .lst _,_,⟨ws,n,e,r⟩=>⟨ws,n,e,r.mono M P⟩
 | .dct _,_,⟨ws,n,e,r,nd⟩=>⟨ws,n,e,r.mono M P,nd⟩
 | .inst _,_,⟨ws,n,e,r⟩=>⟨ws,n,e,r.mono M P⟩
 | .tab _ _,_,h=>h
theorem OR.qk {X ρ:List Addr} {h:Heap}:∀ {a:AO} {o:Obj},OR X ρ h a o→qk o=true
 | .lst _,_,⟨ws,n,e,r⟩=>by subst e; rfl
 | .dct _,_,⟨ws,n,e,r⟩=>by subst e; rfl
 | .inst _,_,⟨ws,n,e,r⟩=>by subst e; rfl
 | .tab _ _,_,h=>by
  rcases h with rfl | ⟨_,rfl⟩
  · rfl
  · rfl
theorem OR.lg {X ρ:List Addr} {h:Heap}:∀ {a:AO} {o:Obj},OR X ρ h a o→lg o=true
 | .lst _,_,⟨ws,n,e,r⟩=>by subst e; rfl
 | .dct _,_,⟨ws,n,e,r⟩=>by subst e; rfl
 | .inst _,_,⟨ws,n,e,r⟩=>by subst e; rfl
 | .tab _ _,_,h=>by
  rcases h with rfl | ⟨_,rfl⟩
  · rfl
  · rfl
structure Wl where
 prog:Program
 w:World
 K:Frag
 hb:Heap
 mg:Str→Option Value
 mb:Str→Option Value
 hid:List Addr
 tabs:List (Addr×Addr×Nat×Nat):=[]
structure Wl.Ok (W:Wl):Prop where
 qM:W.K.In W.hb
 g:W.hb.Ns mainGlobals W.mg
 b:W.hb.Ns builtinsNs W.mb
 blt:∀ x:Str,x ≠ "__name__" → W.mb x=bootBuiltins x
 lim:W.hb.NoLimit
 tab:∀ q∈W.tabs,CodeHd W.hb q.1 q.2.1∧W.hb.BuiltinsAt W.mg q.2.1
noncomputable abbrev Wl.M (W:Wl):Model:=model W.prog W.w
structure aK (W:Wl) (ρ:List Addr) (σ:List AO) (h:Heap):Prop where
 base:∀ b o,W.hb.get? b=some o→h.get? b=some o
 fresh:∀ a∈ρ,W.hb.get? a=none
 len:ρ.length=σ.length
 nodup:ρ.Nodup
 qy:∀ a∈W.hid,a<h.objs.size
 objs:∀ (n:Nat) (o:AO),σ[n]? = some o→∃ a ob,ρ[n]? = some a∧h.get? a=some ob∧OR W.hid ρ h o ob
 tabs:∀ q∈W.tabs,∃ n:Nat,ρ[n]? = some q.2.1∧σ[n]? = some (.tab q.2.2.1 q.2.2.2)
namespace aK
variable {W:Wl} {ρ:List Addr} {σ:List AO} {h:Heap}
theorem stores (R:aK W ρ σ h):∀ a∈ρ,∃ o,h.get? a=some o∧qk o=true:=λ a ha=>by
 obtain ⟨n,hn,e⟩:=List.mem_iff_getElem.mp ha
 have hs:n<σ.length:=R.len▸hn
 obtain ⟨a',ob,e1,e2,r⟩:=R.objs n σ[n] (List.getElem?_eq_getElem hs)
 rw [List.getElem?_eq_getElem hn] at e1
 cases e1
 exact ⟨ob,e▸e2,r.qk⟩
theorem fX (R:aK W ρ σ h) {a:Addr} {o:Obj} (e:h.get? a=some o) (hs:qk o=false):a∉ρ:=λ m=>by
 obtain ⟨o',e',q⟩:=R.stores a m
 rw [e] at e'; cases e'; rw [hs] at q; cases q
theorem muts (R:aK W ρ σ h):b7 W.hid h ρ:=λ a ha=>by
 obtain ⟨n,hn,e⟩:=List.mem_iff_getElem.mp ha
 have hs:n<σ.length:=R.len▸hn
 obtain ⟨a',ob,e1,e2,r⟩:=R.objs n σ[n] (List.getElem?_eq_getElem hs)
 rw [List.getElem?_eq_getElem hn] at e1
 cases e1
 exact ⟨ob,e▸e2,.inl r.lg⟩
theorem qM (O:W.Ok) (R:aK W ρ σ h):W.K.In h:=O.qM.keeps R.base
theorem lim (O:W.Ok) (R:aK W ρ σ h):h.NoLimit:=O.lim.keeps R.base
theorem keeps {h':Heap} (R:aK W ρ σ h) (P:aJ [] h h'):aK W ρ σ h':=by
 refine ⟨λ b o e=>P.keep b o (R.base b o e) (by simp),R.fresh,R.len,R.nodup,λ a ha=>Nat.lt_of_lt_of_le (R.qy a ha) P.size,λ n o e=>?_,R.tabs⟩
 obtain ⟨a,ob,e1,e2,r⟩:=R.objs n o e
 have:=r.mono (δ:=[]) (λ a ha=>by cases ha) P
 rw [List.append_nil] at this
 exact ⟨a,ob,e1,P.keep a ob e2 (by simp),this⟩
end aK
structure Rm (d:Nat) (A:Around):Prop where
 handled:A.handled=none
 depth:A.depth+2*d+2<recursionLimit
 units:A.units+20*d+20<cLine
abbrev lQ:Value→Shared→Prop:=λ _ _=>False
inductive Post (W:Wl) (S ρ:List Addr) (s:Shared) (Q:List Addr→List AO→Heap→Prop) (s':Shared):Prop
 | mk (h':Heap) (tk':Nat) (δ:List Addr) (σ':List AO) (e:s'={ s with heap:=h',toks:=tk' }) (p:aJ (S++ρ) s.heap h') (f:∀ a∈δ,s.heap.objs.size≤a) (r:aK W (ρ++δ) σ' h') (q:Q (ρ++δ) σ' h'):Post W S ρ s Q s'
theorem Post.mono {W:Wl} {S ρ:List Addr} {s s':Shared} {Q Q':List Addr→List AO→Heap→Prop} (P:Post W S ρ s Q s') (h:∀ ρ' σ' h',Q ρ' σ' h'→Q' ρ' σ' h'):Post W S ρ s Q' s':=by
 obtain ⟨h',tk',δ,σ',e,p,f,r,q⟩:=P
 exact ⟨h',tk',δ,σ',e,p,f,r,h _ _ _ q⟩
inductive NK where
 | loc | vM | Fo
noncomputable def NK.kind:NK→NameKind
 | .loc=>.local
 | .vM=>.cell
 | .Fo=>.globalImplicit
noncomputable abbrev En:=List (Str×NK×Option AV)
noncomputable def addrs (env:Env):List Addr:=env.locals :: env.cells.map (·.2)
def z8 (W:Wl) (x:Str) (v:Value):Prop:=W.mg x=some v∨(W.mg x=none∧W.mb x=some v)
structure Dm (env:Env) (η:En):Prop where
 kind:env.scope.kind=.function
 glob:env.globals=mainGlobals
 blt:env.builtins=builtinsNs
 nd:(η.map (·.1)).Nodup
 kinds:∀ x k v,(x,k,v)∈η→env.kindOf x=some k.kind
 Fp:∀ x k v,(x,k,v)∈η→(x==("__debug__" : Str))=false
 vN:env.cells.Pairwise λ x y=>x.2≠y.2
 BU:∀ c∈env.cells,c.2≠env.locals
structure dw (W:Wl) (env:Env) (η:En) (ρ:List Addr) (h:Heap):Prop where
 ok:Dm env η
 out:∀ a∈addrs env,a∉ρ
 lt:∀ a∈addrs env,a<h.objs.size
 A4:∀ a∈addrs env,W.hb.get? a=none
 BV:b7 W.hid h (addrs env)
 locs:∃ m,h.Ns env.locals m∧∀ x v,(x,.loc,some v)∈η→∃ w,m x=some w∧VR W.hid ρ h v w
 cells:∀ x v,(x,.vM,v)∈η→∃ c w,env.cells.lookup x=some c∧h.IsCell c w∧∀ a,v=some a→∃ w',w=some w'∧VR W.hid ρ h a w'
 vO:∀ x v,(x,.Fo,some v)∈η→∃ w,v=.cst w∧z8 W x w
theorem qN {X:List Addr} {h:Heap} {c:Addr} {v:Option Value} (x:h.IsCell c v):∃ o,h.get? c=some o∧(lg o=true∨(isTup o=true∧c∈X)):=by
 obtain ⟨o,e,d⟩:=x
 exact ⟨o,e,.inl (by unfold lg; rw [d])⟩
theorem dw.mono {W:Wl} {env:Env} {η:En} {ρ δ:List Addr} {h h':Heap} (F:dw W env η ρ h) (M:b7 W.hid h ρ) (P:aJ ρ h h') (f:∀ a∈δ,h.objs.size≤a):dw W env η (ρ++δ) h':=by
 refine ⟨F.ok,λ a ha m=>?_,λ a ha=>Nat.lt_of_lt_of_le (F.lt a ha) P.size,F.A4,λ a ha=>(let ⟨o,e,q⟩:=F.BV a ha; ⟨o,P.keep _ _ e (F.out a ha),q⟩),?_,λ x v hv=>?_,F.vO⟩
 · rcases List.mem_append.mp m with m | m
   · exact F.out a ha m
   · exact absurd (F.lt a ha) (Nat.not_lt.mpr (f a m))
 · obtain ⟨m,⟨o,es,ep,ho,r⟩,hv⟩:=F.locs
   refine ⟨m,⟨o,es,ep,P.keep _ _ ho (F.out _ (List.mem_cons_self ..)),r⟩,λ x v q=>?_⟩
   obtain ⟨w,e,z⟩:=hv x v q
   exact ⟨w,e,z.mono M P⟩
 · obtain ⟨c,w,e1,⟨o,ho,hd⟩,e3⟩:=F.cells x v hv
   have hc:c∈addrs env:=List.mem_cons_of_mem _ (List.mem_map.mpr ⟨(x,c),mem_of_lookup e1,rfl⟩)
   refine ⟨c,w,e1,⟨o,P.keep _ _ ho (F.out c hc),hd⟩,λ a ha=>?_⟩
   obtain ⟨w',q,z⟩:=e3 a ha
   exact ⟨w',q,z.mono M P⟩
inductive QV (W:Wl) (Q:AV→List AO→Prop) (v:Value) (ρ':List Addr) (σ':List AO) (h':Heap):Prop
 | mk (av:AV) (r:VR W.hid ρ' h' av v) (q:Q av σ'):QV W Q v ρ' σ' h'
inductive Rx (W:Wl) (Q:List AV→List AO→Prop) (v:List Value) (ρ':List Addr) (σ':List AO) (h':Heap):Prop
 | mk (av:List AV) (r:bA W.hid ρ' h' av v) (q:Q av σ'):Rx W Q v ρ' σ' h'
section
variable (W:Wl) (d:Nat)
def aW (env:Env) (e:Expr) (η:En) (σ:List AO) (Q:AV→List AO→Prop):Prop :=
 ∀ A s ρ,Rm d A→aK W ρ σ s.heap→dw W env η ρ s.heap→wpAny W.M A (eval e env) (λ v s'=>Post W [] ρ s (QV W Q v) s') lQ s
def ee (env:Env) (pos:Pos) (es:List Expr) (η:En) (σ:List AO) (Q:List AV→List AO→Prop):Prop :=
 ∀ A s ρ,Rm d A→aK W ρ σ s.heap→dw W env η ρ s.heap→wpAny W.M A (spliced (backTo pos (starEach es env))) (λ v s'=>Post W [] ρ s (Rx W Q v) s') lQ s
def cD (env:Env) (e:Expr) (η:En) (σ:List AO) (Q:Bool→List AO→Prop):Prop :=
 ∀ A s ρ,Rm d A→aK W ρ σ s.heap→dw W env η ρ s.heap→wpAny W.M A (isTrue e env (eval e env)) (λ b s'=>Post W [] ρ s (λ _ σ' _=>Q b σ') s') lQ s
def wJ (as:List AV) (t:List Value→Sem Value) (σ:List AO) (Q:AV→List AO→Prop):Prop :=
 ∀ A s ρ vs,Rm d A→aK W ρ σ s.heap→bA W.hid ρ s.heap as vs→wpAny W.M A (t vs) (λ v s'=>Post W [] ρ s (QV W Q v) s') lQ s
def bw (a:AV) (σ:List AO) (Q:Bool→List AO→Prop):Prop :=
 ∀ A s ρ v,Rm d A→aK W ρ σ s.heap→VR W.hid ρ s.heap a v→wpAny W.M A (truthy v) (λ b s'=>Post W [] ρ s (λ _ σ' _=>Q b σ') s') lQ s
noncomputable abbrev aV (op:Operator) (a b:AV):=wJ W d [a,b] λ vs=>match vs with
 | [x,y]=>binaryOp op x y
 | _=>unsupported ""
noncomputable abbrev lR (op:Operator) (a b:AV):=wJ W d [a,b] λ vs=>match vs with
 | [x,y]=>inplaceOp op x y
 | _=>unsupported ""
noncomputable abbrev aA (op:CmpOp) (a b:AV):=wJ W d [a,b] λ vs=>match vs with
 | [x,y]=>compareOp op x y
 | _=>unsupported ""
noncomputable abbrev Fq (op:UnaryOp) (a:AV):=wJ W d [a] λ vs=>match vs with
 | [x]=>unaryOp op x
 | _=>unsupported ""
def ai (f:AV) (as:List AV) (σ:List AO) (Q:AV→List AO→Prop):Prop :=
 ∀ A s ρ v vs,Rm d A→aK W ρ σ s.heap→VR W.hid ρ s.heap f v→bA W.hid ρ s.heap as vs →
  codeAny W.M A (.call v ⟨vs,[]⟩) (λ r s'=>match r with | .ok (.ret v)=>Post W [] ρ s (QV W Q v) s' | .ok _=>False | .error e=>lQ e s') s
def aq (f:AV) (as:List AV) (σ:List AO) (Q:AV→List AO→Prop):Prop :=
 ∀ A s ρ v vs,Rm d A→aK W ρ σ s.heap→VR W.hid ρ s.heap f v→bA W.hid ρ s.heap as vs→wpAny W.M A (call v vs) (λ v s'=>Post W [] ρ s (QV W Q v) s') lQ s
inductive Fl where
 | next | brk | cont
 | ret (v:AV)
inductive Hv (W:Wl) (ρ:List Addr) (h:Heap):Fl→Flow→Prop
 | next:Hv W ρ h .next .next
 | brk:Hv W ρ h .brk .brk
 | cont:Hv W ρ h .cont .cont
 | ret {a:AV} {v:Value}:VR W.hid ρ h a v→Hv W ρ h (.ret a) (.ret v)
inductive QF (env:Env) (Q:Fl→En→List AO→Prop) (f:Flow) (ρ':List Addr) (σ':List AO) (h':Heap):Prop
 | mk (fl:Fl) (η':En) (F:dw W env η' ρ' h') (r:Hv W ρ' h' fl f) (q:Q fl η' σ'):QF env Q f ρ' σ' h'
def cM (env:Env) (st:Stmt) (η:En) (σ:List AO) (Q:Fl→En→List AO→Prop):Prop :=
 ∀ A s ρ,Rm d A→aK W ρ σ s.heap→dw W env η ρ s.heap→wpAny W.M A (exec st env) (λ f s'=>Post W (addrs env) ρ s (QF W env Q f) s') lQ s
def dD (env:Env) (sts:List Stmt) (η:En) (σ:List AO) (Q:Fl→En→List AO→Prop):Prop :=
 ∀ A s ρ,Rm d A→aK W ρ σ s.heap→dw W env η ρ s.heap→wpAny W.M A (execs sts env) (λ f s'=>Post W (addrs env) ρ s (QF W env Q f) s') lQ s
def yO (env:Env) (t:Expr) (v:AV) (η:En) (σ:List AO) (Q:En→List AO→Prop):Prop :=
 ∀ A s ρ w,Rm d A→aK W ρ σ s.heap→dw W env η ρ s.heap→VR W.hid ρ s.heap v w→wpAny W.M A (assign t env w) (λ _ s'=>Post W (addrs env) ρ s (λ ρ' σ' h'=>∃ η',dw W env η' ρ' h'∧Q η' σ') s') lQ s
end
section
variable {W:Wl} {d:Nat}
theorem ai.w {f:AV} {as:List AV} {σ:List AO} {Q:AV→List AO→Prop} (h:ai W d f as σ Q):aq W d f as σ Q:=λ A s ρ v vs hr R hf hv =>
 wpAny_call (Q:=λ v s'=>Post W [] ρ s (QV W Q v) s') (h A s ρ v vs hr R hf hv)
theorem Post.here {S ρ:List Addr} {s:Shared} {σ:List AO} {Q:List Addr→List AO→Heap→Prop} (R:aK W ρ σ s.heap) (q:Q ρ σ s.heap) (tk:Nat):Post W S ρ s Q { s with toks:=tk } :=
 ⟨s.heap,tk,[],σ,rfl,.refl _ _,(λ _ h=>nomatch h),(by rw [List.append_nil]; exact R),(by rw [List.append_nil]; exact q)⟩
theorem Post.chain {S ρ δ:List Addr} {s:Shared} {h₁:Heap} {tk₁:Nat} {Q:List Addr→List AO→Heap→Prop} {ia:Shared} (tC:aJ (S++ρ) s.heap h₁) (tD:∀ a∈δ,s.heap.objs.size≤a)
 (yM:Post W S (ρ++δ) { s with heap:=h₁,toks:=tk₁ } Q ia):Post W S ρ s Q ia:=by
 obtain ⟨br,bB,δ₂,aj,e,p,f,r,q⟩:=yM
 refine ⟨br,bB,δ++δ₂,aj,e,?_,λ a ha=>?_,by rw [← List.append_assoc]; exact r,by rw [← List.append_assoc]; exact q⟩
 · exact tC.trans tD (by rw [List.append_assoc]; exact p)
 · rcases List.mem_append.mp ha with ha | ha
   · exact tD a ha
   · exact Nat.le_trans tC.size (f a ha)
theorem Post.weaken {S T ρ:List Addr} {s s':Shared} {Q:List Addr→List AO→Heap→Prop} (P:Post W S ρ s Q s') (h:∀ a∈S,a∈T):Post W T ρ s Q s':=by
 obtain ⟨h',tk',δ,σ',e,p,f,r,q⟩:=P
 exact ⟨h',tk',δ,σ',e,p.weaken λ a ha=>by rcases List.mem_append.mp ha with m | m; exact List.mem_append_left _ (h a m); exact List.mem_append_right _ m,f,r,q⟩
theorem Post.A5 {T ρ:List Addr} {s s':Shared} {Q:List Addr→List AO→Heap→Prop} (P:Post W [] ρ s Q s'):Post W T ρ s Q s':=P.weaken λ _ h=>nomatch h
theorem aQ {α:Type} {t:Sem α} {A:Around} {s:Shared} {ρ:List Addr} {Q₁:α→List Addr→List AO→Heap→Prop} {E:Value→Shared→Prop} {B:α→Shared→Prop}
 (h:wpAny W.M A t (λ v s'=>Post W [] ρ s (Q₁ v) s') lQ s)
 (k:∀ v h₁ tk₁ δ aa,aJ ρ s.heap h₁→(∀ a∈δ,s.heap.objs.size≤a)→aK W (ρ++δ) aa h₁→Q₁ v (ρ++δ) aa h₁→B v { s with heap:=h₁,toks:=tk₁ }) :
 wpAny W.M A t B E s:=by
 refine wpAny_mono h (λ v s' p=>?_) (λ _ _ x=>x.elim)
 obtain ⟨h₁,tk₁,δ,aa,rfl,p,f,r,q⟩:=p
 exact k v h₁ tk₁ δ aa p f r q
variable {env:Env} {η:En} {σ:List AO}
theorem aW.mono {e:Expr} {Q Q':AV→List AO→Prop} (h:aW W d env e η σ Q) (q:∀ v σ',Q v σ'→Q' v σ'):aW W d env e η σ Q':=λ A s ρ hr R F =>
 wpAny_mono (h A s ρ hr R F) (λ v s' p=>p.mono λ _ _ _ ⟨av,x,y⟩=>⟨av,x,q _ _ y⟩) λ _ _ x=>x
theorem wJ.mono {as:List AV} {t:List Value→Sem Value} {Q Q':AV→List AO→Prop} (h:wJ W d as t σ Q) (q:∀ v σ',Q v σ'→Q' v σ'):wJ W d as t σ Q':=λ A s ρ vs hr R F =>
 wpAny_mono (h A s ρ vs hr R F) (λ v s' p=>p.mono λ _ _ _ ⟨av,x,y⟩=>⟨av,x,q _ _ y⟩) λ _ _ x=>x
theorem aW.int {i:Int} {k:Nat} {pos:Pos} {Q:AV→List AO→Prop} (h:Q (.int i) σ):aW W d env (.Constant (.int i) k pos) η σ Q:=λ A s ρ hr R F =>
 wpAny_Constant_int (Post.here R ⟨_,.int i _,h⟩ _)
theorem aW.bool {i:Bool} {k:Nat} {pos:Pos} {Q:AV→List AO→Prop} (h:Q (.bool i) σ):aW W d env (.Constant (.bool i) k pos) η σ Q:=λ A s ρ hr R F =>
 Constant_bool (Post.here R ⟨_,.bool i,h⟩ s.toks)
theorem aW.none {k:Nat} {pos:Pos} {Q:AV→List AO→Prop} (h:Q .none σ):aW W d env (.Constant .none k pos) η σ Q:=λ A s ρ hr R F =>
 Constant_none (Post.here R ⟨_,.none,h⟩ s.toks)
inductive ud:En→Str→AV→Prop
 | hd {x:Str} {k:NK} {v:AV} {η:En}:ud ((x,k,some v) :: η) x v
 | tl {x:Str} {v:AV} {y:Str×NK×Option AV} {η:En}:ud η x v→ud (y :: η) x v
theorem ud.mem {x:Str} {v:AV} {η:En} (h:ud η x v):∃ k,(x,k,some v)∈η:=by
 induction h with
 | hd=>exact ⟨_,.head _⟩
 | tl h ih=>exact ih.elim λ k m=>⟨k,.tail _ m⟩
theorem fY {x:Str} {v:AV} {A:Around} {E:Value→Shared→Prop} {s:Shared} {ρ:List Addr} {B:Value→Shared→Prop} (O:W.Ok) (hv:ud η x v) (R:aK W ρ σ s.heap) (F:dw W env η ρ s.heap)
 (k:∀ w,VR W.hid ρ s.heap v w→B w s):wpAny W.M A (loadName env x) B E s:=by
 obtain ⟨nk,m⟩:=hv.mem
 have hk:=F.ok.kinds _ _ _ m
 cases nk with
 | loc =>
  obtain ⟨mm,hn,hm⟩:=F.locs
  obtain ⟨w,e,z⟩:=hm x v m
  exact wpAny_loadName_local F.ok.kind hk hn e (k w z)
 | vM =>
  obtain ⟨c,w,e1,e2,e3⟩:=F.cells x _ m
  obtain ⟨w',rfl,z⟩:=e3 v rfl
  exact wpAny_loadName_cell F.ok.kind hk e1 e2 (k w' z)
 | Fo =>
  obtain ⟨w,rfl,g⟩:=F.vO x v m
  rw [loadName_read F.ok.kind hk]
  rcases g with g | ⟨g1,g2⟩
  · exact loadGlobal_global (by rw [F.ok.glob]; exact O.g.keeps R.base) g (k w (.cst w))
  · exact loadGlobal_builtin (by rw [F.ok.glob]; exact O.g.keeps R.base) g1 (by rw [F.ok.blt]; exact O.b.keeps R.base) g2 (k w (.cst w))
theorem ud.Fp {x:Str} {v:AV} {ρ:List Addr} {h:Heap} (hv:ud η x v) (F:dw W env η ρ h):(x==("__debug__" : Str))=false:=by
 obtain ⟨k,m⟩:=hv.mem
 exact F.ok.Fp _ _ _ m
theorem aW.name (O:W.Ok) {x:Str} {pos:Pos} {v:AV} {Q:AV→List AO→Prop} (hv:ud η x v) (h:Q v σ):aW W d env (.Name x pos) η σ Q:=λ A s ρ hr R F =>
 wpAny_Name (fY O hv R F λ w z=>Post.here R ⟨_,z,h⟩ s.toks) (hv.Fp F)
theorem aW.binop {l r:Expr} {op:Operator} {pos:Pos} {Q:AV→List AO→Prop} (h:aW W d env l η σ λ a aa=>aW W d env r η aa λ b aj=>aV W d op a b aj Q) :
 aW W d env (.BinOp l op r pos) η σ Q:=λ A s ρ hr R F=>by
 refine wpAny_BinOp (aQ (h A s ρ hr R F) λ v h₁ tk₁ δ aa p f R₁ ⟨a,va,q⟩=>?_)
 refine aQ (q A _ _ hr R₁ (F.mono R.muts p f)) λ w br bB δ₂ aj aZ bQ R₂ ⟨b,vb,dG⟩=>?_
 refine wpAny_mono (dG A _ _ _ hr R₂ (.cons (va.mono R₁.muts aZ) (.cons vb .nil))) (λ x s' z=>?_) λ _ _ x=>x
 exact Post.chain p f (Post.chain aZ bQ z)
theorem aW.unop {x:Expr} {op:UnaryOp} {pos:Pos} {Q:AV→List AO→Prop} (h:aW W d env x η σ λ a aa=>Fq W d op a aa Q) :
 aW W d env (.UnaryOp op x pos) η σ Q:=λ A s ρ hr R F=>by
 refine UnaryOp_ (aQ (h A s ρ hr R F) λ v h₁ tk₁ δ aa p f R₁ ⟨a,va,q⟩=>?_)
 refine wpAny_mono (q A _ _ _ hr R₁ (.cons va .nil)) (λ x s' z=>?_) λ _ _ x=>x
 exact Post.chain p f z
theorem aW.cmp {l r:Expr} {op:CmpOp} {pos:Pos} {Q:AV→List AO→Prop} (h:aW W d env l η σ λ a aa=>aW W d env r η aa λ b aj=>aA W d op a b aj Q)
 (hm:behindInMarks op r=false):aW W d env (.Compare l [op] [r] pos) η σ Q:=λ A s ρ hr R F=>by
 refine wpAny_Compare1 (aQ (h A s ρ hr R F) λ v h₁ tk₁ δ aa p f R₁ ⟨a,va,q⟩=>?_) hm
 refine aQ (q A _ _ hr R₁ (F.mono R.muts p f)) λ w br bB δ₂ aj aZ bQ R₂ ⟨b,vb,dG⟩=>?_
 refine wpAny_mono (dG A _ _ _ hr R₂ (.cons (va.mono R₁.muts aZ) (.cons vb .nil))) (λ x s' z=>?_) λ _ _ x=>x
 exact Post.chain p f (Post.chain aZ bQ z)
end
section
variable {W:Wl} {d:Nat} {env:Env} {η:En} {σ:List AO}
section
variable {a b:Int} {Q:AV→List AO→Prop}
theorem wK {t:Value→Value→Sem Value} {c:Int} (k:∀ (A:Around) (s:Shared) (x y:Tok) (B:Value→Shared→Prop),Rm d A→B (.int c s.toks) { s with toks:=s.toks+1 }→wpAny W.M A (t (.int a x) (.int b y)) B lQ s)
 (h:Q (.int c) σ):wJ W d [.int a,.int b] (λ vs=>match vs with | [x,y]=>t x y | _=>unsupported "") σ Q:=by
 intro A s ρ vs hr R hv
 exact hv.ao λ _ _ h1 h2=>by exact h2.ao λ _ _ h2 h3=>by refine bA.aU h3 ?_; refine VR.cL h1 λ _=>?_; refine VR.cL h2 λ _=>?_; exact k A s _ _ _ hr (Post.here R ⟨_,.int _ _,h⟩ _)
theorem BW {t:Value→Value→Sem Value} {c:Bool} (k:∀ (A:Around) (s:Shared) (x y:Tok) (B:Value→Shared→Prop),Rm d A→B (.bool c) s→wpAny W.M A (t (.int a x) (.int b y)) B lQ s)
 (h:Q (.bool c) σ):wJ W d [.int a,.int b] (λ vs=>match vs with | [x,y]=>t x y | _=>unsupported "") σ Q:=by
 intro A s ρ vs hr R hv
 exact hv.ao λ _ _ h1 h2=>by exact h2.ao λ _ _ h2 h3=>by refine bA.aU h3 ?_; refine VR.cL h1 λ _=>?_; refine VR.cL h2 λ _=>?_; exact k A s _ _ _ hr (Post.here R ⟨_,.bool _,h⟩ s.toks)
theorem aV.add (h:Q (.int (a+b)) σ):aV W d .Add (.int a) (.int b) σ Q:=wK (t:=binaryOp .Add) (λ A s x y B hr q=>PyProof.Rows.add_int q) h
theorem aV.sub (h:Q (.int (a-b)) σ):aV W d .Sub (.int a) (.int b) σ Q:=wK (t:=binaryOp .Sub) (λ A s x y B hr q=>PyProof.Rows.sub_int q) h
theorem Hw (hm:a.natAbs<2^64∨b.natAbs<2^64):IntMulOk a b:=hm.elim (λ h=>.of_left (intBits_le h)) (λ h=>.of_right (intBits_le h))
theorem aV.mul (hm:a.natAbs<2^64∨b.natAbs<2^64) (h:Q (.int (a*b)) σ):aV W d .Mult (.int a) (.int b) σ Q:=wK (t:=binaryOp .Mult) (λ A s x y B hr q=>PyProof.Rows.mul_int q (Hw hm)) h
theorem aV.mod (hb:0<b) (h:Q (.int (a%b)) σ):aV W d .Mod (.int a) (.int b) σ Q :=
 wK (t:=binaryOp .Mod) (λ A s x y B hr q=>PyProof.Rows.mod_int (Lq.y hb) (by rw [Int.fmod_eq_emod_of_nonneg a (Lq.w hb)]; exact q)) h
theorem aV.div (hb:0<b) (hb':b<2^30) (h:Q (.int (a / b)) σ):aV W d .FloorDiv (.int a) (.int b) σ Q :=
 wK (t:=binaryOp .FloorDiv) (λ A s x y B hr q=>PyProof.Rows.floordiv_int (Lq.y hb) (by rw [Int.fdiv_eq_ediv_of_nonneg a (Lq.w hb)]; exact q) (.inl (PyProof.noPylong_small (by omega)))) h
theorem aV.pow (hn:0≤b) (hb:b≤1000000) (ha:a.natAbs<2^64) (h:Q (.int (a^b.toNat)) σ):aV W d .Pow (.int a) (.int b) σ Q :=
 wK (t:=binaryOp .Pow) (λ A s x y B hr q=>pow_int_small hn hb ha q) h
theorem lR.add (h:Q (.int (a+b)) σ):lR W d .Add (.int a) (.int b) σ Q:=wK (t:=inplaceOp .Add) (λ A s x y B hr q=>PyProof.Rows.iadd_int q) h
theorem lR.sub (h:Q (.int (a-b)) σ):lR W d .Sub (.int a) (.int b) σ Q:=wK (t:=inplaceOp .Sub) (λ A s x y B hr q=>PyProof.Rows.isub_int q) h
theorem lR.mul (hm:a.natAbs<2^64∨b.natAbs<2^64) (h:Q (.int (a*b)) σ):lR W d .Mult (.int a) (.int b) σ Q:=wK (t:=inplaceOp .Mult) (λ A s x y B hr q=>PyProof.Rows.imul_int q (Hw hm)) h
theorem lR.div (hb:0<b) (hb':b<2^30) (h:Q (.int (a / b)) σ):lR W d .FloorDiv (.int a) (.int b) σ Q :=
 wK (t:=inplaceOp .FloorDiv) (λ A s x y B hr q=>PyProof.Rows.ifloordiv_int (Lq.y hb) (by rw [Int.fdiv_eq_ediv_of_nonneg a (Lq.w hb)]; exact q) (.inl (PyProof.noPylong_small (by omega)))) h
theorem aA.lt (h:Q (.bool (decide (a<b))) σ):aA W d .Lt (.int a) (.int b) σ Q:=BW (t:=compareOp .Lt) (λ A s x y B hr q=>PyProof.Rows.lt_int q) h
theorem aA.gt (h:Q (.bool (decide (b<a))) σ):aA W d .Gt (.int a) (.int b) σ Q:=BW (t:=compareOp .Gt) (λ A s x y B hr q=>PyProof.Rows.gt_int q) h
theorem aA.le (h:Q (.bool (decide (a≤b))) σ):aA W d .LtE (.int a) (.int b) σ Q:=BW (t:=compareOp .LtE) (λ A s x y B hr q=>PyProof.Rows.le_int q) h
theorem aA.ge (h:Q (.bool (decide (b≤a))) σ):aA W d .GtE (.int a) (.int b) σ Q:=BW (t:=compareOp .GtE) (λ A s x y B hr q=>PyProof.Rows.ge_int q) h
theorem aA.eq (h:Q (.bool (decide (a=b))) σ):aA W d .Eq (.int a) (.int b) σ Q:=BW (t:=compareOp .Eq) (λ A s x y B hr q=>PyProof.Rows.eq_int (by rw [show (a==b)=decide (a=b) from by by_cases e:a=b<;>simp [e]]; exact q)) h
theorem aA.ne (h:Q (.bool (decide (a≠b))) σ):aA W d .NotEq (.int a) (.int b) σ Q:=BW (t:=compareOp .NotEq) (λ A s x y B hr q=>PyProof.Rows.ne_int (by rw [show (a != b)=decide (a≠b) from by by_cases e:a=b<;>simp [e]]; exact q)) h
theorem Fq.neg (h:Q (.int (-a)) σ):Fq W d .USub (.int a) σ Q:=by
 intro A s ρ vs hr R hv
 exact hv.ao λ _ _ h1 h2=>by refine bA.aU h2 ?_; refine VR.cL h1 λ _=>?_; exact PyProof.Rows.neg_int (Post.here R ⟨_,.int _ _,h⟩ _)
end
theorem bw.bool {b:Bool} {Q:Bool→List AO→Prop} (h:Q b σ):bw W d (.bool b) σ Q:=by
 intro A s ρ v hr R hv; refine VR.lO hv ?_; exact wpAny_truthy_bool (Post.here R h s.toks)
theorem bw.int {a:Int} {Q:Bool→List AO→Prop} (h:Q (decide (a≠0)) σ):bw W d (.int a) σ Q:=by
 intro A s ρ v hr R hv; refine VR.cL hv λ _=>?_
 exact PyProof.Rows.truthy_int (by rw [show (a != 0)=decide (a≠0) from by by_cases e:a=0<;>simp [e]]; exact Post.here R h s.toks)
theorem bw.none {Q:Bool→List AO→Prop} (h:Q false σ):bw W d .none σ Q:=by
 intro A s ρ v hr R hv; refine VR.xS hv ?_; exact PyProof.Rows.truthy_none (Post.here R h s.toks)
theorem cD.plain {e:Expr} {Q:Bool→List AO→Prop} (h:aW W d env e η σ λ a aa=>bw W d a aa Q)
 (he:∀ whole,isTrue e env whole=(do let v ← whole; standAt e.pos; holding [v] (truthy v))):cD W d env e η σ Q:=λ A s ρ hr R F=>by
 refine isTrue_plain (aQ (h A s ρ hr R F) λ v h₁ tk₁ δ aa p f R₁ ⟨a,va,q⟩=>?_) (he _)
 exact wpAny_mono (q A _ _ _ hr R₁ va) (λ x s' z=>Post.chain p f z) λ _ _ x=>x
theorem cD.name {x:Str} {pos:Pos} {Q:Bool→List AO→Prop} (h:aW W d env (.Name x pos) η σ λ a aa=>bw W d a aa Q):cD W d env (.Name x pos) η σ Q:=.plain h λ _=>rfl
theorem cD.call {f as ks} {pos:Pos} {Q:Bool→List AO→Prop} (h:aW W d env (.Call f as ks pos) η σ λ a aa=>bw W d a aa Q):cD W d env (.Call f as ks pos) η σ Q:=.plain h λ _=>rfl
theorem cD.attr {x n} {pos:Pos} {Q:Bool→List AO→Prop} (h:aW W d env (.Attribute x n pos) η σ λ a aa=>bw W d a aa Q):cD W d env (.Attribute x n pos) η σ Q:=.plain h λ _=>rfl
theorem cD.Jt {x n} {pos:Pos} {Q:Bool→List AO→Prop} (h:aW W d env (.Subscript x n pos) η σ λ a aa=>bw W d a aa Q):cD W d env (.Subscript x n pos) η σ Q:=.plain h λ _=>rfl
theorem cD.binop {x o y} {pos:Pos} {Q:Bool→List AO→Prop} (h:aW W d env (.BinOp x o y pos) η σ λ a aa=>bw W d a aa Q):cD W d env (.BinOp x o y pos) η σ Q:=.plain h λ _=>rfl
theorem cD.not {x:Expr} {pos:Pos} {Q:Bool→List AO→Prop} (h:cD W d env x η σ λ c σ'=>Q (!c) σ'):cD W d env (.UnaryOp .Not x pos) η σ Q:=λ A s ρ hr R F=>isTrue_not (h A s ρ hr R F)
theorem cD.Dn {pos:Pos} {Q:Bool→List AO→Prop} (h:Q true σ):cD W d env (.BoolOp .And [] pos) η σ Q:=λ A s ρ hr R F=>isTrue_and_nil (Post.here R h s.toks)
theorem cD.Hx {pos:Pos} {Q:Bool→List AO→Prop} (h:Q false σ):cD W d env (.BoolOp .Or [] pos) η σ Q:=λ A s ρ hr R F=>isTrue_or_nil (Post.here R h s.toks)
theorem cD.and {x:Expr} {rest:List Expr} {pos:Pos} {Q:Bool→List AO→Prop} (h:cD W d env x η σ λ c σ'=>if c=true then cD W d env (.BoolOp .And rest pos) η σ' Q else Q false σ') :
 cD W d env (.BoolOp .And (x :: rest) pos) η σ Q:=λ A s ρ hr R F=>by
 refine isTrue_and (aQ (h A s ρ hr R F) λ c h₁ tk₁ δ aa p f R₁ q=>?_)
 cases c with
 | false =>
  have q:Q false aa:=q
  exact Post.chain (S:=[]) (s:=s) p f (Post.here (s:={ s with heap:=h₁,toks:=tk₁ }) (Q:=λ _ σ' _=>Q false σ') R₁ q tk₁)
 | true=>exact wpAny_mono (q A _ _ hr R₁ (F.mono R.muts p f)) (λ x s' z=>Post.chain p f z) λ _ _ x=>x
theorem cD.or {x:Expr} {rest:List Expr} {pos:Pos} {Q:Bool→List AO→Prop} (h:cD W d env x η σ λ c σ'=>if c=true then Q true σ' else cD W d env (.BoolOp .Or rest pos) η σ' Q) :
 cD W d env (.BoolOp .Or (x :: rest) pos) η σ Q:=λ A s ρ hr R F=>by
 refine isTrue_or (aQ (h A s ρ hr R F) λ c h₁ tk₁ δ aa p f R₁ q=>?_)
 cases c with
 | true =>
  have q:Q true aa:=q
  exact Post.chain (S:=[]) (s:=s) p f (Post.here (s:={ s with heap:=h₁,toks:=tk₁ }) (Q:=λ _ σ' _=>Q true σ') R₁ q tk₁)
 | false=>exact wpAny_mono (q A _ _ hr R₁ (F.mono R.muts p f)) (λ x s' z=>Post.chain p f z) λ _ _ x=>x
theorem cD.cmp {l r:Expr} {op:CmpOp} {pos:Pos} {Q:Bool→List AO→Prop} (h:aW W d env l η σ λ a aa=>aW W d env r η aa λ b aj=>aA W d op a b aj λ c aE=>bw W d c aE Q)
 (hm:behindInMarks op r=false):cD W d env (.Compare l [op] [r] pos) η σ Q:=λ A s ρ hr R F=>by
 refine wpAny_isTrue_Compare1 (aQ (h A s ρ hr R F) λ v h₁ tk₁ δ aa p f R₁ ⟨a,va,q⟩=>?_) hm
 refine aQ (q A _ _ hr R₁ (F.mono R.muts p f)) λ w br bB δ₂ aj aZ bQ R₂ ⟨b,vb,dG⟩=>?_
 refine aQ (dG A _ _ _ hr R₂ (.cons (va.mono R₁.muts aZ) (.cons vb .nil))) λ x fE cz δ₃ aE fF f₃ R₃ ⟨c,vc,fV⟩=>?_
 exact wpAny_mono (fV A _ _ _ hr R₃ vc) (λ x s' z=>Post.chain p f (Post.chain aZ bQ (Post.chain fF f₃ z))) λ _ _ x=>x
theorem aW.Mp {t b o:Expr} {pos:Pos} {Q:AV→List AO→Prop} (h:cD W d env t η σ λ c aa=>if c=true then aW W d env b η aa Q else aW W d env o η aa Q):aW W d env (.IfExp t b o pos) η σ Q:=λ A s ρ hr R F=>by
 refine IfExp_ (aQ (h A s ρ hr R F) λ c h₁ tk₁ δ aa p f R₁ q=>?_)
 cases c<;>exact wpAny_mono (q A _ _ hr R₁ (F.mono R.muts p f)) (λ x s' z=>Post.chain p f z) λ _ _ x=>x
theorem aW.A6 {op:BoolOp} {e:Expr} {pos:Pos} {Q:AV→List AO→Prop} (h:aW W d env e η σ Q):aW W d env (.BoolOp op [e] pos) η σ Q:=λ A s ρ hr R F=>BoolOp_one (h A s ρ hr R F)
theorem aW.and {yN mq:Expr} {rest:List Expr} {pos:Pos} {Q:AV→List AO→Prop} (h:aW W d env yN η σ λ a aa=>bw W d a aa λ c aj=>if c=true then aW W d env (.BoolOp .And (mq :: rest) pos) η aj Q else Q a aj) :
 aW W d env (.BoolOp .And (yN :: mq :: rest) pos) η σ Q:=λ A s ρ hr R F=>by
 refine BoolOp_and (aQ (h A s ρ hr R F) λ v h₁ tk₁ δ aa p f R₁ ⟨a,va,q⟩=>?_)
 refine aQ (q A _ _ _ hr R₁ va) λ c br bB δ₂ aj aZ bQ R₂ dG=>?_
 cases c with
 | false=>exact Post.chain p f (Post.chain aZ bQ (Post.here (s:={ s with heap:=br,toks:=bB }) R₂ ⟨a,va.mono R₁.muts aZ,dG⟩ bB))
 | true=>exact wpAny_mono (dG A _ _ hr R₂ ((F.mono R.muts p f).mono R₁.muts aZ bQ)) (λ x s' z=>Post.chain p f (Post.chain aZ bQ z)) λ _ _ x=>x
theorem aW.or {yN mq:Expr} {rest:List Expr} {pos:Pos} {Q:AV→List AO→Prop} (h:aW W d env yN η σ λ a aa=>bw W d a aa λ c aj=>if c=true then Q a aj else aW W d env (.BoolOp .Or (mq :: rest) pos) η aj Q) :
 aW W d env (.BoolOp .Or (yN :: mq :: rest) pos) η σ Q:=λ A s ρ hr R F=>by
 refine BoolOp_or (aQ (h A s ρ hr R F) λ v h₁ tk₁ δ aa p f R₁ ⟨a,va,q⟩=>?_)
 refine aQ (q A _ _ _ hr R₁ va) λ c br bB δ₂ aj aZ bQ R₂ dG=>?_
 cases c with
 | true=>exact Post.chain p f (Post.chain aZ bQ (Post.here (s:={ s with heap:=br,toks:=bB }) R₂ ⟨a,va.mono R₁.muts aZ,dG⟩ bB))
 | false=>exact wpAny_mono (dG A _ _ hr R₂ ((F.mono R.muts p f).mono R₁.muts aZ bQ)) (λ x s' z=>Post.chain p f (Post.chain aZ bQ z)) λ _ _ x=>x
theorem ee.nil {pos:Pos} {Q:List AV→List AO→Prop} (h:Q [] σ):ee W d env pos [] η σ Q:=λ A s ρ hr R F=>spliced_nil (Post.here R ⟨_,.nil,h⟩ s.toks)
noncomputable def aB (e:Expr):Bool:=!(Nat.beq e.ctorIdx 22)
theorem ee.cons {pos:Pos} {e:Expr} {es:List Expr} {Q:List AV→List AO→Prop} (h:aW W d env e η σ λ a aa=>ee W d env pos es η aa λ as aj=>Q (a :: as) aj) (hu:aB e=true) :
 ee W d env pos (e :: es) η σ Q:=λ A s ρ hr R F=>by
 have hs:backTo pos (starEach (e :: es) env)=(false,eval e env) :: backTo pos (starEach es env):=by cases e<;>first | rfl | (exact cS hu)
 rw [hs]
 refine spliced_cons (aQ (h A s ρ hr R F) λ v h₁ tk₁ δ aa p f R₁ ⟨a,va,q⟩=>?_)
 refine aQ (q A _ _ hr R₁ (F.mono R.muts p f)) λ ws br bB δ₂ aj aZ bQ R₂ ⟨as,vs,dG⟩=>?_
 exact Post.chain p f (Post.chain aZ bQ (Post.here (s:={ s with heap:=br,toks:=bB }) R₂ ⟨a :: as,.cons (va.mono R₁.muts aZ) vs,dG⟩ bB))
theorem bA.length {X ρ:List Addr} {h:Heap} {as:List AV}:∀ {vs:List Value},bA X ρ h as vs→vs.length=as.length:=by
 induction as with
 | nil=>exact λ hv=>hv.aU rfl
 | cons a as ih=>exact λ hv=>hv.ao λ _ _ _ r=>congrArg Nat.succ (ih r)
theorem rW {S ρ:List Addr} {s:Shared} (R:aK W ρ σ s.heap) (o:Obj) {Q:List Addr→List AO→Heap→Prop} (q:Q ρ σ (s.heap.push o)) (tk:Nat):Post W S ρ s Q { s with heap:=s.heap.push o,toks:=tk } :=
 ⟨_,tk,[],σ,rfl,.push _ _ o,(λ _ h=>nomatch h),by rw [List.append_nil]; exact R.keeps (.push _ _ o),by rw [List.append_nil]; exact q⟩
theorem aW.tuple {elts:List Expr} {k:Nat} {pos:Pos} {Q:AV→List AO→Prop} (h:ee W d env pos elts η σ λ as aa=>as.length≤1000∧Q (.tup as) aa):aW W d env (.Tuple elts k pos) η σ Q:=λ A s ρ hr R F=>by
 refine Tuple_ (aQ (h A s ρ hr R F) λ ws h₁ tk₁ δ aa p f R₁ ⟨as,vs,hl,q⟩=>?_)
 refine wpAny_newObj_type (Post.chain p f (rW (s:={ s with heap:=h₁,toks:=tk₁ }) R₁ _ ⟨.tup as,?_,q⟩ tk₁)) ?_
 · show ws.toArray.size≤sizeLine
   rw [List.size_toArray,vs.length,sizeLine]; lia
 · have:=vs.mono (δ:=[]) R₁.muts (.push _ h₁ ({ cls:=.type "tuple",data:=.seq ws.toArray }:Obj))
   rw [List.append_nil] at this
   exact .tup (Heap.get?_push_size _ rfl) (λ m=>absurd (R₁.qy _ m) (Nat.lt_irrefl _)) this
theorem lS {S ρ:List Addr} {s:Shared} (R:aK W ρ σ s.heap) (o:AO) (ob:Obj) {Q:List Addr→List AO→Heap→Prop} (hf:ob.isFreed=false) (ho:OR W.hid ρ s.heap o ob)
 (q:Q (ρ++[s.heap.objs.size]) (σ++[o]) (s.heap.push ob)) (tk:Nat):Post W S ρ s Q { s with heap:=s.heap.push ob,toks:=tk }:=by
 refine ⟨_,tk,[s.heap.objs.size],σ++[o],rfl,.push _ _ ob,λ a ha=>?_,?_,q⟩
 · rw [List.mem_singleton.mp ha]; exact Nat.le_refl _
 · have P:aJ ρ s.heap (s.heap.push ob):=.push _ _ ob
   refine ⟨λ b o e=>Heap.get?_push_of_some _ (R.base b o e),λ a ha=>?_,by rw [List.length_append,List.length_append,R.len]; rfl,?_,λ a ha=>Nat.lt_of_lt_of_le (R.qy a ha) P.size,λ n o' e=>?_,λ q hq=>?_⟩
   · rcases List.mem_append.mp ha with ha | ha
     · exact R.fresh a ha
     · rw [List.mem_singleton.mp ha]
       cases q:W.hb.get? s.heap.objs.size with
       | none=>rfl
       | some o=>exact absurd (Heap.lt_size (R.base _ _ q)) (Nat.lt_irrefl _)
   · rw [List.nodup_append]
     refine ⟨R.nodup,List.nodup_cons.mpr ⟨by simp,List.nodup_nil⟩,λ a ha b hb=>?_⟩
     rw [List.mem_singleton.mp hb]
     obtain ⟨o,e,_⟩:=R.muts a ha
     exact Nat.ne_of_lt (Heap.lt_size e)
   · by_cases hn:n<σ.length
     · rw [List.getElem?_append_left hn] at e
       obtain ⟨a,A7,e1,e2,r⟩:=R.objs n o' e
       refine ⟨a,A7,?_,Heap.get?_push_of_some _ e2,r.mono R.muts P⟩
       rw [List.getElem?_append_left (by rw [R.len]; exact hn)]; exact e1
     · rw [List.getElem?_append_right (Nat.not_lt.mp hn)] at e
       have hz:n-σ.length=0:=by
        cases hz:n-σ.length with
        | zero=>rfl
        | succ k=>rw [hz] at e; simp at e
       rw [hz] at e
       refine sE e ?_
       have hn':n=σ.length:=Lq.nz (by assumption) (by assumption)
       subst hn'
       refine ⟨s.heap.objs.size,ob,?_,Heap.get?_push_size _ hf,ho.mono R.muts P⟩
       rw [List.getElem?_append_right (by rw [R.len]; exact Nat.le_refl _),R.len,Nat.sub_self]
       rfl
   · obtain ⟨m,e1,e2⟩:=R.tabs q hq
     exact ⟨m,(List.getElem?_append_left (List.getElem?_eq_some_iff.mp e1).1).trans e1,(List.getElem?_append_left (List.getElem?_eq_some_iff.mp e2).1).trans e2⟩
theorem aW.list {elts:List Expr} {pos:Pos} {Q:AV→List AO→Prop} (h:ee W d env pos elts η σ λ as aa=>as.length≤1000∧Q (.lst aa.length) (aa++[.lst as])):aW W d env (.List elts pos) η σ Q:=λ A s ρ hr R F=>by
 refine List_ (aQ (h A s ρ hr R F) λ ws h₁ tk₁ δ aa p f R₁ ⟨as,vs,hl,q⟩=>?_)
 refine wpAny_newObj_type (Post.chain p f (lS (s:={ s with heap:=h₁,toks:=tk₁ }) R₁ (.lst as) _ rfl ⟨ws,0,rfl,vs⟩ ⟨.lst aa.length,.lst ?_,q⟩ tk₁)) ?_
 · show ws.toArray.size≤sizeLine
   rw [List.size_toArray,vs.length,sizeLine]; lia
 · rw [List.getElem?_append_right (by rw [R₁.len]; exact Nat.le_refl _),R₁.len,Nat.sub_self]; rfl
end
inductive Up:En→Str→AV→En→Prop
 | loc {x:Str} {v:AV} {o:Option AV} {η:En}:Up ((x,.loc,o) :: η) x v ((x,.loc,some v) :: η)
 | vM {x:Str} {v:AV} {o:Option AV} {η:En}:Up ((x,.vM,o) :: η) x v ((x,.vM,some v) :: η)
 | tl {x:Str} {v:AV} {y:Str×NK×Option AV} {η η':En}:Up η x v η'→Up (y :: η) x v (y :: η')
theorem Up.names {x:Str} {v:AV} {η η':En} (h:Up η x v η'):η'.map (·.1)=η.map (·.1):=by
 induction h with
 | loc=>rfl
 | vM=>rfl
 | tl h ih=>exact congrArg (List.cons _) ih
theorem Up.old {x:Str} {v:AV} {η η':En} (h:Up η x v η'):∃ k o,(k=.loc∨k=.vM)∧(x,k,o)∈η∧(x,k,some v)∈η':=by
 induction h with
 | loc=>exact ⟨_,_,.inl rfl,.head _,.head _⟩
 | vM=>exact ⟨_,_,.inr rfl,.head _,.head _⟩
 | tl h ih=>obtain ⟨k,o,a,b,c⟩:=ih; exact ⟨k,o,a,.tail _ b,.tail _ c⟩
theorem Up.Mq {x:Str} {v:AV} {nk:NK} {o:Option AV} {η:En} (nd:(((x,nk,o) :: η).map (·.1)).Nodup) (y:Str) (k:NK) (u:Option AV) (m:(y,k,u)∈(x,nk,some v) :: η):(y=x∧u=some v∧∃ o',(y,k,o')∈(x,nk,o) :: η)∨(y≠x∧(y,k,u)∈(x,nk,o) :: η):=by
 rcases List.mem_cons.mp m with e | m
 · cases e; exact .inl ⟨rfl,rfl,_,.head _⟩
 · exact .inr ⟨λ q=>(List.nodup_cons.mp nd).1 (List.mem_map.mpr ⟨_,m,q⟩),.tail _ m⟩
theorem Up.mem {x:Str} {v:AV} {η η':En} (h:Up η x v η'):(η.map (·.1)).Nodup→∀ y k u,(y,k,u)∈η'→(y=x∧u=some v∧∃ o,(y,k,o)∈η)∨(y≠x∧(y,k,u)∈η):=by
 induction h with
 | loc=>exact Up.Mq
 | vM=>exact Up.Mq
 | tl h ih =>
  intro nd y k u m
  rcases List.mem_cons.mp m with e | m
  · subst e
    obtain ⟨k',o,_,b,_⟩:=h.old
    exact .inr ⟨λ q=>(List.nodup_cons.mp nd).1 (List.mem_map.mpr ⟨_,b,q.symm⟩),.head _⟩
  · rcases ih (List.nodup_cons.mp nd).2 y k u m with ⟨a,b,o,c⟩ | ⟨a,b⟩
    · exact .inl ⟨a,b,o,.tail _ c⟩
    · exact .inr ⟨a,.tail _ b⟩
section
variable {W:Wl} {d:Nat} {env:Env} {η:En} {σ:List AO}
theorem aK.keepsBut {S ρ:List Addr} {h h':Heap} (R:aK W ρ σ h) (P:aJ S h h') (M:b7 W.hid h S) (hS:∀ a∈S,a∉ρ∧W.hb.get? a=none):aK W ρ σ h':=by
 refine ⟨λ b o e=>P.keep b o (R.base b o e) λ m=>?_,R.fresh,R.len,R.nodup,λ a ha=>Nat.lt_of_lt_of_le (R.qy a ha) P.size,λ n o e=>?_,R.tabs⟩
 · have:=(hS b m).2; rw [e] at this; cases this
 · obtain ⟨a,ob,e1,e2,r⟩:=R.objs n o e
   have ha:a∈ρ:=List.mem_of_getElem? e1
   refine ⟨a,ob,e1,P.keep a ob e2 λ m=>(hS a m).1 ha,?_⟩
   have:=r.mono (δ:=[]) M P
   rwa [List.append_nil] at this
theorem pZ {X:List Addr} {h:Heap} {L:Addr} {m:Str→Option Value} (x:h.Ns L m):∃ o,h.get? L=some o∧(lg o=true∨(isTup o=true∧L∈X)):=by
 obtain ⟨o,es,ep,e,hd,_⟩:=x
 exact ⟨o,e,.inl (by unfold lg; rw [hd])⟩
theorem dM {h h':Heap} {a:Addr} (hs:Heap.SameBut a h h'):aJ [a] h h':=.sameBut hs (.head _)
theorem eE {x:Str} {v:AV} {w:Value} {η':En} {A:Around} {s:Shared} {ρ:List Addr} {Q:List Addr→List AO→Heap→Prop} (U:Up η x v η') (R:aK W ρ σ s.heap) (F:dw W env η ρ s.heap) (hv:VR W.hid ρ s.heap v w)
 (k:∀ h',dw W env η' ρ h'→aK W ρ σ h'→Q ρ σ h'):wpAny W.M A (storeName env x w) (λ _ s'=>Post W (addrs env) ρ s Q s') lQ s:=by
 obtain ⟨nk,o,hk,m,m'⟩:=U.old
 have hkind:=F.ok.kinds _ _ _ m
 have hok:Dm env η':=⟨F.ok.kind,F.ok.glob,F.ok.blt,by rw [U.names]; exact F.ok.nd,λ y k' u hm=>by
  rcases U.mem F.ok.nd y k' u hm with ⟨_,_,o',c⟩ | ⟨_,c⟩<;>exact F.ok.kinds _ _ _ c,λ y k' u hm=>by
  rcases U.mem F.ok.nd y k' u hm with ⟨_,_,o',c⟩ | ⟨_,c⟩<;>exact F.ok.Fp _ _ _ c,F.ok.vN,F.ok.BU⟩
 obtain ⟨mm,hn,hm⟩:=F.locs
 have glob:∀ y u,(y,.Fo,some u)∈η'→∃ z,u=.cst z∧z8 W y z:=λ y u hy=>by
  rcases U.mem F.ok.nd y _ _ hy with ⟨rfl,_,o',c⟩ | ⟨_,c⟩
  · have:=F.ok.kinds _ _ _ c
    rw [hkind] at this
    rcases hk with rfl | rfl<;>cases this
  · exact F.vO y u c
 rcases hk with rfl | rfl
 · refine wpAny_storeName_local hkind hn (λ h' hn' hs=>?_) (by rw [F.ok.kind]; rfl)
   have P:=dM hs
   have Mt:b7 W.hid s.heap [env.locals]:=λ a ha=>by rw [List.mem_singleton.mp ha]; exact pZ hn
   have R':aK W ρ σ h':=R.keepsBut P Mt λ a ha=>by rw [List.mem_singleton.mp ha]; exact ⟨F.out _ (.head _),F.A4 _ (.head _)⟩
   have mono:∀ {a:AV} {z:Value},VR W.hid ρ s.heap a z→VR W.hid ρ h' a z:=λ q=>by have:=q.mono (δ:=[]) Mt P; rwa [List.append_nil] at this
   have F':dw W env η' ρ h':=by
    refine ⟨hok,F.out,λ a ha=>Nat.lt_of_lt_of_le (F.lt a ha) P.size,F.A4,λ a ha=>?_,⟨_,hn',λ y u hy=>?_⟩,λ y u hy=>?_,glob⟩
    · by_cases q:a=env.locals
      · rw [q]; exact pZ hn'
      · obtain ⟨o,e,z⟩:=F.BV a ha; exact ⟨o,(hs.2 a q).trans e,z⟩
    · rcases U.mem F.ok.nd y _ _ hy with ⟨rfl,e,_⟩ | ⟨hne,c⟩
      · cases e; exact ⟨w,by simp,mono hv⟩
      · obtain ⟨z,e1,e2⟩:=hm y u c
        exact ⟨z,by simp [hne,e1],mono e2⟩
    · rcases U.mem F.ok.nd y _ _ hy with ⟨rfl,e,o',c⟩ | ⟨hne,c⟩
      · have:=F.ok.kinds _ _ _ c; rw [hkind] at this; cases this
      · obtain ⟨c',z,e1,e2,e3⟩:=F.cells y u c
        have hcl:c'≠env.locals:=F.ok.BU (y,c') (mem_of_lookup e1)
        exact ⟨c',z,e1,e2.sameBut hs hcl,λ a ha=>let ⟨w',q1,q2⟩:=e3 a ha; ⟨w',q1,mono q2⟩⟩
   exact ⟨h',_,[],σ,rfl,(P.weaken λ a ha=>by rw [List.mem_singleton.mp ha]; exact List.mem_append_left _ (.head _)),(λ _ h=>nomatch h),by rw [List.append_nil]; exact R',by rw [List.append_nil]; exact k h' F' R'⟩
 · obtain ⟨c,z,e1,e2,e3⟩:=F.cells x o m
   refine wpAny_storeName_cell F.ok.kind hkind e1 e2 λ h' hc hs=>?_
   have P:=dM hs
   have cm:c∈addrs env:=List.mem_cons_of_mem _ (List.mem_map.mpr ⟨(x,c),mem_of_lookup e1,rfl⟩)
   have Mt:b7 W.hid s.heap [c]:=λ a ha=>by rw [List.mem_singleton.mp ha]; exact qN e2
   have R':aK W ρ σ h':=R.keepsBut P Mt λ a ha=>by rw [List.mem_singleton.mp ha]; exact ⟨F.out _ cm,F.A4 _ cm⟩
   have mono:∀ {a:AV} {z:Value},VR W.hid ρ s.heap a z→VR W.hid ρ h' a z:=λ q=>by have:=q.mono (δ:=[]) Mt P; rwa [List.append_nil] at this
   have hcl:c≠env.locals:=F.ok.BU (x,c) (mem_of_lookup e1)
   have F':dw W env η' ρ h':=by
    refine ⟨hok,F.out,λ a ha=>Nat.lt_of_lt_of_le (F.lt a ha) P.size,F.A4,λ a ha=>?_,⟨mm,hn.sameBut hs (Ne.symm hcl),λ y u hy=>?_⟩,λ y u hy=>?_,glob⟩
    · by_cases q:a=c
      · rw [q]; exact qN hc
      · obtain ⟨o,e,z⟩:=F.BV a ha; exact ⟨o,(hs.2 a q).trans e,z⟩
    · rcases U.mem F.ok.nd y _ _ hy with ⟨rfl,e,o',q⟩ | ⟨hne,q⟩
      · have:=F.ok.kinds _ _ _ q; rw [hkind] at this; cases this
      · obtain ⟨z,e1,e2⟩:=hm y u q
        exact ⟨z,e1,mono e2⟩
    · rcases U.mem F.ok.nd y _ _ hy with ⟨rfl,e,o',q⟩ | ⟨hne,q⟩
      · subst e; exact ⟨c,_,e1,hc,λ a ha=>by refine sE ha ?_; exact ⟨w,rfl,mono hv⟩⟩
      · obtain ⟨c',z',f1,f2,f3⟩:=F.cells y u q
        have hcc:c'≠c:=λ z=>hne (by subst z; exact name_of_addr F.ok.vN (mem_of_lookup f1) (mem_of_lookup e1))
        exact ⟨c',z',f1,f2.sameBut hs hcc,λ a ha=>let ⟨w',q1,q2⟩:=f3 a ha; ⟨w',q1,mono q2⟩⟩
   exact ⟨h',s.toks,[],σ,rfl,(P.weaken λ a ha=>by rw [List.mem_singleton.mp ha]; exact List.mem_append_left _ cm),(λ _ h=>nomatch h),by rw [List.append_nil]; exact R',by rw [List.append_nil]; exact k h' F' R'⟩
theorem dD.nil {Q:Fl→En→List AO→Prop} (h:Q .next η σ):dD W d env [] η σ Q:=λ A s ρ hr R F=>wpAny_execs_nil (Post.here R ⟨.next,η,F,.next,h⟩ s.toks)
theorem Dp {α:Type} {t:Sem α} {A:Around} {s:Shared} {ρ:List Addr} {Q₁:α→List Addr→List AO→Heap→Prop} {E:Value→Shared→Prop} {B:α→Shared→Prop} {S:List Addr}
 (h:wpAny W.M A t (λ v s'=>Post W S ρ s (Q₁ v) s') lQ s)
 (k:∀ v h₁ tk₁ δ aa,aJ (S++ρ) s.heap h₁→(∀ a∈δ,s.heap.objs.size≤a)→aK W (ρ++δ) aa h₁→Q₁ v (ρ++δ) aa h₁→B v { s with heap:=h₁,toks:=tk₁ }) :
 wpAny W.M A t B E s:=by
 refine wpAny_mono h (λ v s' p=>?_) (λ _ _ x=>x.elim)
 obtain ⟨h₁,tk₁,δ,aa,rfl,p,f,r,q⟩:=p
 exact k v h₁ tk₁ δ aa p f r q
def Fl.go (fl:Fl) (η:En) (σ:List AO) (Q:Fl→En→List AO→Prop) (k:Prop):Prop:=match fl with
 | .next=>k
 | fl=>Q fl η σ
theorem dD.cons {st:Stmt} {rest:List Stmt} {Q:Fl→En→List AO→Prop} (h:cM W d env st η σ λ fl η₁ aa=>fl.go η₁ aa Q (dD W d env rest η₁ aa Q)):dD W d env (st :: rest) η σ Q:=λ A s ρ hr R F=>by
 refine wpAny_execs_cons (Dp (h A s ρ hr R F) λ f h₁ tk₁ δ aa p fr R₁ ⟨fl,η₁,gK,fx,q⟩=>?_)
 cases fx with
 | next=>exact wpAny_mono (q A _ _ hr R₁ gK) (λ x s' z=>Post.chain p fr z) λ _ _ x=>x
 | brk=>exact ⟨h₁,tk₁,δ,aa,rfl,p,fr,R₁,.brk,η₁,gK,.brk,q⟩
 | cont=>exact ⟨h₁,tk₁,δ,aa,rfl,p,fr,R₁,.cont,η₁,gK,.cont,q⟩
 | ret hv=>exact ⟨h₁,tk₁,δ,aa,rfl,p,fr,R₁,.ret _,η₁,gK,.ret hv,q⟩
theorem cM.if {t:Expr} {b o:List Stmt} {pos:Pos} {Q:Fl→En→List AO→Prop} (h:cD W d env t η σ λ c aa=>if c=true then dD W d env b η aa Q else dD W d env o η aa Q):cM W d env (.If t b o pos) η σ Q:=λ A s ρ hr R F=>by
 refine wpAny_If (aQ (h A s ρ hr R F) λ c h₁ tk₁ δ aa p f R₁ q=>?_)
 have p':aJ (addrs env++ρ) s.heap h₁:=p.weaken λ a ha=>List.mem_append_right _ ha
 cases c<;>exact wpAny_mono (q A _ _ hr R₁ (F.mono R.muts p f)) (λ x s' z=>Post.chain p' f z) λ _ _ x=>x
theorem cM.pass {pos:Pos} {Q:Fl→En→List AO→Prop} (h:Q .next η σ):cM W d env (.Pass pos) η σ Q:=λ A s ρ hr R F=>wpAny_Pass (Post.here R ⟨.next,η,F,.next,h⟩ s.toks)
theorem cM.break {pos:Pos} {Q:Fl→En→List AO→Prop} (h:Q .brk η σ):cM W d env (.Break pos) η σ Q:=λ A s ρ hr R F=>λ Γ p hΓ=>Post.here R ⟨.brk,η,F,.brk,h⟩ s.toks
theorem cM.ret {e:Expr} {pos:Pos} {Q:Fl→En→List AO→Prop} (h:aW W d env e η σ λ a aa=>Q (.ret a) η aa):cM W d env (.Return (some e) pos) η σ Q:=λ A s ρ hr R F=>by
 refine wpAny_Return_some (aQ (h A s ρ hr R F) λ v h₁ tk₁ δ aa p f R₁ ⟨a,va,q⟩=>?_)
 exact ⟨h₁,tk₁,δ,aa,rfl,p.weaken λ a ha=>List.mem_append_right _ ha,f,R₁,.ret a,η,F.mono R.muts p f,.ret va,q⟩
theorem cM.FU {pos:Pos} {Q:Fl→En→List AO→Prop} (h:Q (.ret .none) η σ):cM W d env (.Return none pos) η σ Q:=λ A s ρ hr R F=>wpAny_Return_none (Post.here R ⟨.ret .none,η,F,.ret .none,h⟩ s.toks)
theorem yO.name {x:Str} {pos:Pos} {v:AV} {η':En} {Q:En→List AO→Prop} (U:Up η x v η') (h:Q η' σ):yO W d env (.Name x pos) v η σ Q:=λ A s ρ w hr R F hv =>
 PyProof.Rows.assign_Name (eE U R F hv λ h' F' R'=>⟨η',F',h⟩)
theorem cM.assign {x:Str} {qW pos:Pos} {e:Expr} {Q:Fl→En→List AO→Prop} (h:aW W d env e η σ λ v aa=>∃ η',Up η x v η'∧Q .next η' aa)
 (hs:swapsWith e (some (.Name x qW)) pos.line env=pure false):cM W d env (.Assign [.Name x qW] e pos) η σ Q:=λ A s ρ hr R F=>by
 refine wpAny_Assign_Name (aQ (h A s ρ hr R F) λ v h₁ tk₁ δ aa p f R₁ ⟨a,va,η',U,q⟩=>?_) hs
 have p':aJ (addrs env++ρ) s.heap h₁:=p.weaken λ a ha=>List.mem_append_right _ ha
 exact wpAny_mono (eE (s:={ s with heap:=h₁,toks:=tk₁ }) U R₁ (F.mono R.muts p f) va λ h' F' R'=>⟨.next,η',F',.next,q⟩) (λ _ _ z=>Post.chain p' f z) λ _ _ x=>x
theorem cM.aug (O:W.Ok) {x:Str} {qW pos:Pos} {op:Operator} {e:Expr} {Ff:AV} {Q:Fl→En→List AO→Prop} (hx:ud η x Ff)
 (h:aW W d env e η σ λ v aa=>lR W d op Ff v aa λ r aj=>∃ η',Up η x r η'∧Q .next η' aj):cM W d env (.AugAssign (.Name x qW) op e pos) η σ Q:=λ A s ρ hr R F=>by
 refine wpAny_AugAssign_Name (fY O hx R F λ UJ OO=>aQ (h A s ρ hr R F) λ v h₁ tk₁ δ aa p f R₁ ⟨a,va,q⟩=>?_)
 have gK:=F.mono R.muts p f
 refine aQ (q A _ _ _ hr R₁ (.cons (OO.mono R.muts p) (.cons va .nil))) λ w br bB δ₂ aj aZ bQ R₂ ⟨b,vb,η',U,dG⟩=>?_
 have p':aJ (addrs env++ρ) s.heap h₁:=p.weaken λ a ha=>List.mem_append_right _ ha
 have xG:aJ (addrs env++(ρ++δ)) h₁ br:=aZ.weaken λ a ha=>List.mem_append_right _ ha
 exact wpAny_mono (eE (s:={ s with heap:=br,toks:=bB }) U R₂ (gK.mono R₁.muts aZ bQ) vb λ h' F' R'=>⟨.next,η',F',.next,dG⟩) (λ _ _ z=>Post.chain p' f (Post.chain (s:={ s with heap:=h₁,toks:=tk₁ }) xG bQ z)) λ _ _ x=>x
end
section
variable {W:Wl} {d:Nat} {env:Env} {η:En} {σ:List AO}
inductive Wk:En→En→Prop
 | nil:Wk [] []
 | keep {e:Str×NK×Option AV} {η' η:En}:Wk η' η→Wk (e :: η') (e :: η)
 | drop {x:Str} {k:NK} {v:Option AV} {η' η:En}:Wk η' η→Wk ((x,k,none) :: η') ((x,k,v) :: η)
theorem Wk.refl:∀ η:En,Wk η η
 | []=>.nil
 | _ :: η=>.keep (Wk.refl η)
theorem Wk.names {η' η:En} (h:Wk η' η):η'.map (·.1)=η.map (·.1):=by
 induction h with
 | nil=>rfl
 | keep h ih=>exact congrArg (List.cons _) ih
 | drop h ih=>exact congrArg (List.cons _) ih
theorem Wk.mem {η' η:En} (h:Wk η' η):∀ x k v,(x,k,v)∈η'→∃ v',(x,k,v')∈η∧(v=none∨v=v'):=by
 induction h with
 | nil=>exact λ _ _ _ m=>nomatch m
 | keep h ih =>
  intro x k v m
  rcases List.mem_cons.mp m with e | m
  · subst e; exact ⟨v,.head _,.inr rfl⟩
  · exact (ih x k v m).elim λ v' z=>⟨v',.tail _ z.1,z.2⟩
 | drop h ih =>
  intro x k v m
  rcases List.mem_cons.mp m with e | m
  · cases e; exact ⟨_,.head _,.inl rfl⟩
  · exact (ih x k v m).elim λ v' z=>⟨v',.tail _ z.1,z.2⟩
theorem dw.weak {η':En} {ρ:List Addr} {h:Heap} (F:dw W env η ρ h) (w:Wk η' η):dw W env η' ρ h:=by
 obtain ⟨ok,out,lt,A4,mu,⟨m,hn,hm⟩,cs,gs⟩:=F
 refine ⟨⟨ok.kind,ok.glob,ok.blt,by rw [w.names]; exact ok.nd,λ x k v h=>?_,λ x k v h=>?_,ok.vN,ok.BU⟩,out,lt,A4,mu,⟨m,hn,λ x v h=>?_⟩,λ x v h=>?_,λ x v h=>?_⟩
 · obtain ⟨v',a,_⟩:=w.mem _ _ _ h; exact ok.kinds _ _ _ a
 · obtain ⟨v',a,_⟩:=w.mem _ _ _ h; exact ok.Fp _ _ _ a
 · obtain ⟨v',a,b⟩:=w.mem _ _ _ h
   rcases b with b | b
   · cases b
   · subst b; exact hm x v a
 · obtain ⟨v',a,b⟩:=w.mem _ _ _ h
   obtain ⟨c,z,e1,e2,e3⟩:=cs x v' a
   refine ⟨c,z,e1,e2,λ u hu=>?_⟩
   rcases b with b | b
   · rw [b] at hu; exact aT hu
   · subst b; exact e3 u hu
 · obtain ⟨v',a,b⟩:=w.mem _ _ _ h
   rcases b with b | b
   · cases b
   · subst b; exact gs x v a
def rX (W:Wl) (d:Nat) (env:Env) (ts:List Expr) (vs:List AV) (η:En) (σ:List AO) (Q:En→List AO→Prop):Prop :=
 ∀ A s ρ ws,Rm d A→aK W ρ σ s.heap→dw W env η ρ s.heap→bA W.hid ρ s.heap vs ws →
  wpAny W.M A (assignInOrder ((assignEach ts env).map (·.2)) ws) (λ _ s'=>Post W (addrs env) ρ s (λ ρ' σ' h'=>∃ η',dw W env η' ρ' h'∧Q η' σ') s') lQ s
theorem rX.nil {Q:En→List AO→Prop} (h:Q η σ):rX W d env [] [] η σ Q:=λ A s ρ ws hr R F hv=>by
 refine bA.aU hv ?_
 exact wpAny_pure (a:=()) (Post.here R ⟨η,F,h⟩ s.toks)
theorem b7.append {h:Heap} {S T:List Addr} (a:b7 W.hid h S) (b:b7 W.hid h T):b7 W.hid h (S++T):=λ x m=>by
 rcases List.mem_append.mp m with m | m
 · exact a x m
 · exact b x m
theorem rX.cons {t:Expr} {ts:List Expr} {v:AV} {vs:List AV} {Q:En→List AO→Prop} (h:yO W d env t v η σ λ η₁ aa=>rX W d env ts vs η₁ aa Q) (hu:aB t=true):rX W d env (t :: ts) (v :: vs) η σ Q:=λ A s ρ ws hr R F hv=>by
 refine hv.ao λ _ _ hv hvs=>?_
 have hs:(assignEach (t :: ts) env).map (·.2)=assign t env :: (assignEach ts env).map (·.2):=by cases t<;>first | rfl | (exact cS hu)
 rw [hs]
 show wpAny _ _ (do holding _ (assign t env _); assignInOrder _ _) _ _ _
 refine wpAny_bind (wpAny_holding (Dp (h A s ρ _ hr R F hv) λ _ h₁ tk₁ δ aa p f R₁ ⟨η₁,gK,q⟩=>?_))
 exact wpAny_mono (q A _ _ _ hr R₁ gK (hvs.mono (F.BV.append R.muts) p)) (λ _ _ z=>Post.chain p f z) λ _ _ x=>x
theorem rY {ρ:List Addr} {h h':Heap} {a:Addr} (he:Heap.ExtBut a h h') (ha:h.get? a=none) (hs:h.objs.size≤h'.objs.size):aJ ρ h h' :=
 ⟨hs,λ b o e _=>he b o (λ q=>by rw [q,ha] at e; exact aT e) e⟩
theorem rZ {h:Heap}:h.get? h.objs.size=none:=by
 cases q:h.get? h.objs.size with
 | none=>rfl
 | some o=>exact absurd (Heap.lt_size q) (Nat.lt_irrefl _)
theorem yO.tuple {elts:List Expr} {k:Nat} {pos:Pos} {vs:List AV} {Q:En→List AO→Prop} (h:rX W d env elts vs η σ Q) (hl:elts.length=vs.length) (hu:elts.all aB=true):yO W d env (.Tuple elts k pos) (.tup vs) η σ Q:=λ A s ρ w hr R F hv=>by
 refine hv.A3 λ ws a n e hx hvs=>?_
 have len:∀ es:List Expr,(assignEach es env).length=es.length:=by
  intro es
  induction es with
  | nil=>rfl
  | cons t ts ih=>cases t<;>exact congrArg Nat.succ ih
 have star:∀ es:List Expr,es.all aB=true→(assignEach es env).findIdx? (·.1)=none:=by
  intro es
  induction es with
  | nil=>intro _; rfl
  | cons t ts ih =>
   intro hu
   rw [List.all_cons,Bool.and_eq_true] at hu
   have hu1:=hu.1
   have e:assignEach (t :: ts) env=(false,assign t env) :: assignEach ts env:=by cases t<;>first | rfl | (exact cS hu1)
   rw [e,List.findIdx?_cons,ih hu.2]; rfl
 rw [arm_assign_Tuple]
 refine wpAny_bind (wpAny_standAt ?_)
 unfold unpack
 have hn:(assignEach elts env).length=ws.toArray.size:=by rw [len,List.size_toArray,hvs.length,hl]
 rw [hn,star _ hu]
 refine wpAny_bind (wpAny_holding (qx (wpAny_unpackItems_tuple hr.handled (items:=ws.toArray) ⟨_,e,rfl,_,rfl⟩ λ h' he hsz=>?_)))
 have hsz:s.heap.objs.size≤h'.objs.size:=hsz
 have p:aJ ρ s.heap h':=rY he rZ hsz
 have R':=R.keeps (rY (ρ:=[]) he rZ hsz)
 have F':=F.mono (δ:=[]) R.muts p (λ _ h=>nomatch h)
 rw [List.append_nil] at F'
 have hv':=hvs.mono (δ:=[]) R.muts p
 rw [List.append_nil] at hv'
 refine wpAny_mono (h A { s with heap:=h' } ρ _ hr R' F' (by simpa using hv')) (λ _ _ z=>?_) λ _ _ x=>x
 refine Post.chain (δ:=[]) (tk₁:=s.toks) (p.weaken λ a ha=>List.mem_append_right _ ha) (λ _ h=>nomatch h) ?_
 rw [List.append_nil]; exact z
end
section
variable {W:Wl} {d:Nat} {env:Env} {η:En} {σ:List AO}
def Hy (Inv:Nat→En→List AO→Prop) (n:Nat) (Q:Fl→En→List AO→Prop):Fl→En→List AO→Prop:=λ fl η₂ aj=>match fl with
 | .next | .cont=>∃ m,m<n∧∃ η₃,Wk η₃ η₂∧Inv m η₃ aj
 | .brk=>Q .next η₂ aj
 | .ret v=>Q (.ret v) η₂ aj
theorem ic {α:Type} {t:Sem α} {A:Around} {s:Shared} {Q Q':α→Shared→Prop} {E:Value→Shared→Prop} (h:wpAny W.M A t Q lQ s) (q:∀ a s',Q a s'→Q' a s'):wpAny W.M A t Q' E s:=wpAny_mono h q λ _ _ x=>x.elim
inductive Ry (W:Wl) (env:Env) (Inv:Nat→En→List AO→Prop) (n:Nat) (ρ':List Addr) (σ':List AO) (h':Heap):Prop
 | mk (η':En) (F:dw W env η' ρ' h') (q:Inv n η' σ'):Ry W env Inv n ρ' σ' h'
theorem cM.while {t:Expr} {b o:List Stmt} {pos:Pos} {Inv:Nat→En→List AO→Prop} {Q:Fl→En→List AO→Prop} (n:Nat) (η₀:En) (wk:Wk η₀ η) (h:Inv n η₀ σ)
 (turn:∀ n η σ,Inv n η σ→cD W d env t η σ λ c aa=>if c=true then dD W d env b η aa (Hy Inv n Q) else dD W d env o η aa Q) :
 cM W d env (.While t b o pos) η σ Q:=λ A s ρ hr R F=>by
 refine wpAny_While (codeAny_whileLoop (λ n s'=>Post W (addrs env) ρ s (Ry W env Inv n) s') ?_ n (Post.here R ⟨η₀,F.weak wk,h⟩ s.toks))
 intro n eO ⟨h₁,tk₁,δ₁,aa,yN,qW,tD,R₁,η₁,gK,inv⟩
 subst yN
 refine ic (turn n η₁ aa inv A _ _ hr R₁ gK) λ c ia ⟨br,bB,δ₂,aj,mq,aZ,bQ,R₂,q⟩=>?_
 subst mq
 have F₂:=gK.mono R₁.muts aZ bQ
 have xG:aJ (addrs env++(ρ++δ₁)) h₁ br:=aZ.weaken λ a ha=>List.mem_append_right _ ha
 cases c with
 | true =>
  have q:dD W d env b η₁ aj (Hy Inv n Q):=q
  show wpAny _ _ _ _ _ _
  refine ic (q A _ _ hr R₂ F₂) λ f sJ z=>?_
  have z:=Post.chain qW tD (Post.chain (s:={ s with heap:=h₁,toks:=tk₁ }) xG bQ z)
  obtain ⟨fE,cz,δ₃,aE,t6,fF,f₃,R₃,fl,η₃,F₃,fx,fV⟩:=z
  cases fx with
  | next=>obtain ⟨m,hm,η₄,wk,inv⟩:=fV; exact ⟨m,hm,fE,cz,δ₃,aE,t6,fF,f₃,R₃,η₄,F₃.weak wk,inv⟩
  | cont=>obtain ⟨m,hm,η₄,wk,inv⟩:=fV; exact ⟨m,hm,fE,cz,δ₃,aE,t6,fF,f₃,R₃,η₄,F₃.weak wk,inv⟩
  | brk=>exact ⟨fE,cz,δ₃,aE,t6,fF,f₃,R₃,.next,η₃,F₃,.next,fV⟩
  | ret hv=>exact ⟨fE,cz,δ₃,aE,t6,fF,f₃,R₃,.ret _,η₃,F₃,.ret hv,fV⟩
 | false =>
  have q:dD W d env o η₁ aj Q:=q
  show wpAny _ _ _ _ _ _
  exact ic (q A _ _ hr R₂ F₂) λ f sJ z=>Post.chain qW tD (Post.chain (s:={ s with heap:=h₁,toks:=tk₁ }) xG bQ z)
inductive dQ where
 | lst (n i:Nat)
 | tup (vs:List AV)
 | gO (x step:Int) (left:Nat)
 | qO (n:Nat) (left:Nat)
noncomputable def Mr (n i:Nat):Option AV→Option (AV×dQ)
 | some x=>some (x,.lst n (i+1))
 | none=>none
noncomputable def FW (n i:Nat):Option AO→Option (Option (AV×dQ))
 | some (.lst xs)=>some (Mr n i xs[i]?)
 | _=>none
noncomputable def OW (n k:Nat):Option AV→Option (Option (AV×dQ))
 | some x=>some (some (x,.qO n k))
 | none=>none
noncomputable def Hz (n k:Nat):Option AO→Option (Option (AV×dQ))
 | some (.lst xs)=>OW n k xs[k]?
 | _=>none
noncomputable def dQ.next (σ:List AO):dQ→Option (Option (AV×dQ))
 | .lst n i=>FW n i σ[n]?
 | .tup vs=>some (match vs with | v :: r=>some (v,.tup r) | []=>none)
 | .gO x step left=>some (match left with | k+1=>some (.int x,.gO (x+step) step k) | 0=>none)
 | .qO n left=>match left with
  | k+1=>Hz n k σ[n]?
  | 0=>some none
noncomputable def sd (X ρ:List Addr) (h:Heap):dQ→Addr→Prop
 | .lst n i,it=>∃ a,ρ[n]? = some a∧h.IsListIter it a i
 | .tup vs,it=>∃ t ws,∃ i,h.IsTuple t ws∧h.IsTupleIter it t i∧bA X ρ h vs (ws.toList.drop i)∧t∉X
 | .gO x step left,it=>IsRangeIter h it x left step
 | .qO n left,it=>∃ a,ρ[n]? = some a∧h.IsRevIter it a ((left:Int)-1)
theorem sd.obj {X ρ:List Addr} {h:Heap}:∀ {k:dQ} {it:Addr},sd X ρ h k it→∃ o T vs,h.get? it=some o∧o.cls=.type T∧xU.contains T=true∧o.data=.fields vs∧["enumerate", "zip", "dict_itemiterator", "dict_reverseitemiterator", "odict_iterator", "itertools.zip_longest", "itertools.pairwise"].contains T=false:=λ {k it} x=>by
 cases k with
 | lst n i=>obtain ⟨a,_,o,e,c,dd⟩:=x; exact ⟨o,_,_,e,c,by decide,dd,by decide⟩
 | tup vs=>obtain ⟨t,ws,i,_,⟨o,e,c,dd⟩,_⟩:=x; exact ⟨o,_,_,e,c,by decide,dd,by decide⟩
 | gO x step left=>exact ⟨_,_,_,x,rfl,by decide,rfl,by decide⟩
 | qO n i=>obtain ⟨a,_,o,e,c,dd⟩:=x; exact ⟨o,_,_,e,c,by decide,dd,by decide⟩
theorem lq {o:Obj} {T:String} {vs:Array Value} (hc:o.cls=.type T) (hT:xU.contains T=true) (hd:o.data=.fields vs):lg o=true∧qk o=false:=by
 obtain ⟨c,dd,dt,sl⟩:=o
 dsimp only at hc hd
 subst hc hd
 exact ⟨hT,rfl⟩
theorem sd.qP {ρ:List Addr} {h:Heap} {k:dQ} {it:Addr} (x:sd W.hid ρ h k it):b7 W.hid h [it]:=λ a ha=>by
 rw [List.mem_singleton.mp ha]
 refine aG λ Ga ka=>?_
 obtain ⟨o,T,vs,e,c,t,dd,_⟩:=x.obj
 refine ka ?_
 clear ka
 exact ⟨o,e,.inl (lq c t dd).1⟩
theorem sd.gp {ρ:List Addr} {h:Heap} {k:dQ} {it:Addr} (x:sd W.hid ρ h k it) (R:aK W ρ σ h):it∉ρ:=by
 obtain ⟨o,T,vs,e,c,t,dd,_⟩:=x.obj
 exact R.fX e (lq c t dd).2
theorem sd.owned {ρ:List Addr} {s:Shared} {k:dQ} {it:Addr} {target:Expr} {v:Value} {A:Around} {E:Value→Shared→Prop} {Q:Unit→Shared→Prop} (x:sd W.hid ρ s.heap k it) (q:Q () s):wpAny W.M A (letOwnedTupleGo target (.ref it) v) Q E s:=by
 refine aG λ Ga ka=>?_
 obtain ⟨o,T,vs,e,c,_,dd,z⟩:=x.obj
 refine ka ?_
 clear ka
 cases target with
 | Tuple es n p=>cases v with
  | ref a=>exact wpAny_bind (wpAny_load e (by rw [c,dd]; dsimp only; rw [z]; exact wpAny_pure q))
  | _=>exact wpAny_pure q
 | List es p=>cases v with
  | ref a=>exact wpAny_bind (wpAny_load e (by rw [c,dd]; dsimp only; rw [z]; exact wpAny_pure q))
  | _=>exact wpAny_pure q
 | _=>exact wpAny_pure q
theorem cE (n:Nat) (ρ:List Addr) (δ:List Addr) {a:Addr} (e:ρ[n]? = some a):(ρ++δ)[n]? = some a:=by
 rw [List.getElem?_append_left (List.getElem?_eq_some_iff.mp e).1]; exact e
theorem sd.mono {ρ δ S:List Addr} {h h':Heap} (M:b7 W.hid h S) (P:aJ S h h'):∀ {k:dQ} {it:Addr},sd W.hid ρ h k it→it∉S→sd W.hid (ρ++δ) h' k it:=λ {k it} x hn=>by
 cases k with
 | lst n i=>obtain ⟨a,e,o,e',r⟩:=x; exact ⟨a,cE _ _ _ e,o,P.keep _ _ e' hn,r⟩
 | tup vs=>obtain ⟨t,ws,i,⟨o,e,c,n,dd⟩,⟨o',e',r⟩,v,hx⟩:=x; exact ⟨t,ws,i,⟨o,P.keep _ _ e (M.Mn e (by unfold lg; rw [dd,c]; rfl) hx),c,n,dd⟩,⟨o',P.keep _ _ e' hn,r⟩,v.mono M P,hx⟩
 | gO x step left=>exact P.keep _ _ x hn
 | qO n i=>obtain ⟨a,e,o,e',r⟩:=x; exact ⟨a,cE _ _ _ e,o,P.keep _ _ e' hn,r⟩
inductive Rz (W:Wl) (ρ:List Addr) (h:Heap) (a:Addr) (xs:List AV):Prop
 | mk (ws:List Value) (m:Nat) (e:h.get? a=some ({ cls:=.type "list",data:=.seq ws.toArray m }:Obj)) (r:bA W.hid ρ h xs ws):Rz W ρ h a xs
theorem aP {ρ:List Addr} {h:Heap} (R:aK W ρ σ h) {n:Nat} {xs:List AV} (e:σ[n]? = some (.lst xs)) {a:Addr} (ea:ρ[n]? = some a):Rz W ρ h a xs:=by
 obtain ⟨a',ob,e1,e2,ws,m,e3,v⟩:=R.objs n _ e
 rw [ea] at e1; cases e1; subst e3
 exact ⟨ws,m,e2,v⟩
theorem bA.get {X ρ:List Addr} {h:Heap} {as:List AV}:∀ {vs:List Value},bA X ρ h as vs→∀ (i:Nat) {a:AV},as[i]? = some a→∃ v,vs[i]? = some v∧VR X ρ h a v:=by
 induction as with
 | nil=>exact λ _ i a e=>aT e
 | cons b as ih =>
  intro vs hv i a e
  refine hv.ao λ w ws x r=>?_
  cases i with
  | zero=>exact ⟨w,rfl,Option.some.inj e▸x⟩
  | succ i=>exact ih r i e
theorem bA.get_none {X ρ:List Addr} {h:Heap} {as:List AV} {vs:List Value} (x:bA X ρ h as vs) {i:Nat} (e:as[i]? = none):vs[i]? = none:=by
 rw [List.getElem?_eq_none_iff] at e ⊢
 rw [x.length]; exact e
def Th (W:Wl) (ρ:List Addr) (h':Heap) (it:Addr) (x:Option Value) (r:Option (AV×dQ)):Prop:=match r with
 | none=>x=none
 | some (a,k')=>∃ v,x=some v∧VR W.hid ρ h' a v∧sd W.hid ρ h' k' it
inductive RA (W:Wl) (ρ:List Addr) (s:Shared) (it:Addr) (r:Option (AV×dQ)) (x:Option Value) (s':Shared):Prop
 | mk (h':Heap) (tk':Nat) (e:s'={ s with heap:=h',toks:=tk' }) (P:aJ [it] s.heap h') (q:Th W ρ h' it x r):RA W ρ s it r x s'
theorem A8 {k:dQ} {it:Addr} {A:Around} {s:Shared} {ρ:List Addr} (hr:Rm d A) (R:aK W ρ σ s.heap) (I:sd W.hid ρ s.heap k it) {r:Option (AV×dQ)} (hn:k.next σ=some r) :
 wpAny W.M A (pyNext (.ref it)) (RA W ρ s it r) lQ s:=by
 have M:=I.qP
 have PI:∀ {h':Heap} {a:AV} {v:Value},aJ [it] s.heap h'→VR W.hid ρ s.heap a v→VR W.hid ρ h' a v:=λ P v=>by
  have:=v.mono (δ:=[]) M P; rwa [List.append_nil] at this
 have FY:∀ {h':Heap},Heap.ExtBut it s.heap h'→vL s { s with heap:=h' }→aJ [it] s.heap h':=λ he hs=>⟨hs,λ b o e n=>he b o (λ q=>n (by rw [q]; exact .head _)) e⟩
 cases k with
 | lst n i =>
  obtain ⟨a,ea,hit⟩:=I
  cases ex:σ[n]? with
  | none=>(change FW n i _=_ at hn; rw [ex] at hn; cases hn)
  | some o =>
   cases o with
   | lst xs =>
    obtain ⟨ws,m,e2,v⟩:=aP R ex ea
    have hl:s.heap.IsList a ws.toArray:=⟨_,e2,rfl,_,rfl⟩
    have hne:a≠it:=λ q=>by
     obtain ⟨o,T,vs,e,c,t,dd,_⟩:=(show sd W.hid ρ s.heap (.lst n i) it from ⟨a,ea,hit⟩).obj
     rw [← q,e2] at e; cases e; cases dd
    cases ei:xs[i]? with
    | some x =>
     change FW n i _=_ at hn
     rw [ex] at hn
     change some (Mr n i xs[i]?)=_ at hn
     rw [ei] at hn
     refine sE hn ?_
     obtain ⟨w,ew,vx⟩:=v.get i ei
     refine wpAny_pyNext_list_item hit hl (x:=w) (by simpa using ew) λ h' ze hs=>?_
     have P:=dM hs
     exact ⟨h',_,rfl,P,w,rfl,PI P vx,a,ea,ze⟩
    | none =>
     change FW n i _=_ at hn
     rw [ex] at hn
     change some (Mr n i xs[i]?)=_ at hn
     rw [ei] at hn
     refine sE hn ?_
     exact qx (wpAny_pyNext_list_end hr.handled hit hl (by simpa using v.get_none ei) λ h' he hs=>⟨h',_,rfl,FY he hs,rfl⟩)
   | dct _=>(change FW n i _=_ at hn; rw [ex] at hn; cases hn)
   | inst _=>(change FW n i _=_ at hn; rw [ex] at hn; cases hn)
   | tab _ _=>(change FW n i _=_ at hn; rw [ex] at hn; cases hn)
 | tup vs =>
  obtain ⟨t,ws,i,ht,hit,v,hx⟩:=I
  have hne:t≠it:=λ q=>by
   obtain ⟨o,e,c,n,dd⟩:=ht
   obtain ⟨o',e',c',RB⟩:=hit
   rw [q] at e; rw [e] at e'; cases e'; rw [dd] at RB; cases RB
  cases vs with
  | nil =>
   refine sE hn ?_
   have:ws[i]? = none:=by
    have:=v.length
    rw [Array.getElem?_eq_none_iff]
    simp at this; lia
   exact qx (wpAny_pyNext_tuple_end hr.handled hit ht this λ h' he hs=>⟨h',_,rfl,FY he hs,rfl⟩)
  | cons a r =>
   refine sE hn ?_
   have hi:i<ws.size:=by
    have:=v.length
    simp at this; omega
   have e0:ws.toList.drop i=ws[i] :: ws.toList.drop (i+1):=by simp [List.drop_eq_getElem_cons,hi]
   rw [e0] at v
   cases v with | cons vx vr =>
   refine wpAny_pyNext_tuple_item hit ht (x:=ws[i]) (by simp [hi]) λ h' ze hs=>?_
   have P:=dM hs
   refine ⟨h',_,rfl,P,_,rfl,PI P vx,t,ws,i+1,ht.extBut hs.extBut hne,ze,?_,hx⟩
   have:=vr.mono (δ:=[]) M P; rwa [List.append_nil] at this
 | gO x step left =>
  cases left with
  | zero =>
   refine sE hn ?_
   exact qx (wpAny_pyNext_range_end hr.handled I (Int.le_refl _) λ h' he hs=>⟨h',_,rfl,FY he hs,rfl⟩)
  | succ k =>
   refine sE hn ?_
   refine wpAny_pyNext_range_item I (by omega) λ h' ze hs=>?_
   have P:=dM hs
   refine ⟨h',_,rfl,P,_,rfl,.int _ _,?_⟩
   show IsRangeIter _ _ _ _ _
   have e:((k+1:Nat):Int)-1=(k:Int):=by lia
   rw [e] at ze; exact ze
 | qO n left =>
  obtain ⟨a,ea,hit⟩:=I
  cases left with
  | zero =>
   refine sE hn ?_
   exact qx (wpAny_pyNext_rev_end hr.handled hit λ h' he hs=>⟨h',_,rfl,FY he hs,rfl⟩)
  | succ k =>
   cases ex:σ[n]? with
   | none=>(change Hz n k _=_ at hn; rw [ex] at hn; cases hn)
   | some o =>
    cases o with
    | lst xs =>
     obtain ⟨ws,m,e2,v⟩:=aP R ex ea
     have hl:s.heap.IsList a ws.toArray:=⟨_,e2,rfl,_,rfl⟩
     cases ei:xs[k]? with
     | some x =>
      change Hz n k _=_ at hn
      rw [ex] at hn
      change OW n k xs[k]? = _ at hn
      rw [ei] at hn
      refine sE hn ?_
      obtain ⟨w,ew,vx⟩:=v.get k ei
      have e:((k+1:Nat):Int)-1=(k:Int):=by omega
      rw [e] at hit
      refine wpAny_pyNext_rev_item hit hl (x:=w) (by simpa using ew) λ h' ze hs=>?_
      have P:=dM hs
      exact ⟨h',_,rfl,P,w,rfl,PI P vx,a,ea,ze⟩
     | none=>(change Hz n k _=_ at hn; rw [ex] at hn; change OW n k xs[k]? = _ at hn; rw [ei] at hn; cases hn)
    | dct _=>(change Hz n k _=_ at hn; rw [ex] at hn; cases hn)
    | inst _=>(change Hz n k _=_ at hn; rw [ex] at hn; cases hn)
    | tab _ _=>(change Hz n k _=_ at hn; rw [ex] at hn; cases hn)
end
section
variable {W:Wl} {d:Nat} {env:Env} {η:En} {σ:List AO}
theorem tK {A:Around} {s:Shared} {R:Result→Shared→Prop} {target:Expr} {it:Value} {body orelse:List Stmt} (I:Nat→Shared→Prop)
 (turn:∀ n s,I n s→wpAny W.M A (pyNext it) (λ r eO=>match r with
  | none=>wpAny W.M A (execs orelse env) (λ f sJ=>R (.ok f) sJ) lQ eO
  | some v=>wpAny W.M A (letOwnedTupleGo target it v) (λ _ OP=>wpAny W.M A (assign target env v) (λ _ ia=>wpAny W.M A (execs body env) (λ f sJ=>match f with
   | .next | .cont=>∃ m,m<n∧I m sJ
   | .brk=>R (.ok .next) sJ
   | .ret v=>R (.ok (.ret v)) sJ) lQ ia) lQ OP) lQ eO) lQ s)
 (n:Nat) (h:I n s):codeAny W.M A (.forLoop target it body orelse env) R s:=by
 refine codeAny_loop' rfl I (λ n s hI=>?_) n h
 show wpAny _ _ ((forTurn target it body orelse env).onRaise (λ x=>do noteFrame x env; theTreesLotGoes x)) _ _ s
 refine wpAny_noted ?_
 refine wpAny_bind (wpAny_standAt (wpAny_bind (wpAny_onRaise (wpAny_mono (turn n s hI) (λ r eO h₁=>?_) λ _ _ h'=>h'.elim))))
 cases r with
 | none=>exact wpAny_pure (.inr ⟨rfl,codeAny_block (ic h₁ λ _ _ q=>q)⟩)
 | some v =>
  refine wpAny_bind (ic h₁ λ _ ia br=>wpAny_bind (ic br λ _ sJ fE=>wpAny_bind (ic fE λ f Hi qf=>?_)))
  cases f with
  | next=>exact wpAny_pure (.inl ⟨rfl,qf⟩)
  | cont=>exact wpAny_pure (.inl ⟨rfl,qf⟩)
  | brk=>exact wpAny_pure qf
  | ret v=>exact wpAny_pure qf
inductive PJ (W:Wl) (n:Nat) (Q:dQ→List AO→Prop) (it:Value) (ρ':List Addr) (σ':List AO) (h':Heap):Prop
 | mk (I:Addr) (k:dQ) (e:it=.ref I) (hI:n≤I) (r:sd W.hid ρ' h' k I) (q:Q k σ'):PJ W n Q it ρ' σ' h'
inductive Ms (W:Wl) (env:Env) (Inv:Nat→dQ→En→List AO→Prop) (I:Addr) (n:Nat) (ρ':List Addr) (σ':List AO) (h':Heap):Prop
 | mk (k:dQ) (η':En) (F:dw W env η' ρ' h') (r:sd W.hid ρ' h' k I) (q:Inv n k η' σ'):Ms W env Inv I n ρ' σ' h'
def qs (W:Wl) (d:Nat) (env:Env) (e:Expr) (η:En) (σ:List AO) (Q:dQ→List AO→Prop):Prop :=
 ∀ A s ρ,Rm d A→aK W ρ σ s.heap→dw W env η ρ s.heap →
  wpAny W.M A (eval e env) (λ x eO=>wpAny W.M A (pyIter x) (λ it ia=>Post W [] ρ s (PJ W s.heap.objs.size Q it) ia) lQ eO) lQ s
def Ju (Inv:Nat→dQ→En→List AO→Prop) (n:Nat) (k:dQ) (Q:Fl→En→List AO→Prop):Fl→En→List AO→Prop:=λ fl η₂ aj=>match fl with
 | .next | .cont=>∃ m,m<n∧∃ η₃,Wk η₃ η₂∧Inv m k η₃ aj
 | .brk=>Q .next η₂ aj
 | .ret v=>Q (.ret v) η₂ aj
noncomputable def PK (W:Wl) (d:Nat) (env:Env) (target:Expr) (body orelse:List Stmt) (Inv:Nat→dQ→En→List AO→Prop) (n:Nat) (k:dQ) (η:En) (σ:List AO) (Q:Fl→En→List AO→Prop):Option (Option (AV×dQ))→Prop
 | none=>False
 | some none=>dD W d env orelse η σ Q
 | some (some (x,k'))=>yO W d env target x η σ λ η₁ aa=>dD W d env body η₁ aa (Ju Inv n k' Q)
theorem cM.for {target iter:Expr} {body orelse:List Stmt} {pos:Pos} {Inv:Nat→dQ→En→List AO→Prop} {Q:Fl→En→List AO→Prop}
 (hit:qs W d env iter η σ λ k aa=>∃ n η₀,Wk η₀ η∧Inv n k η₀ aa)
 (turn:∀ n k η σ,Inv n k η σ→PK W d env target body orelse Inv n k η σ Q (k.next σ))
 (hs:∀ x,foldedSetIterable iter env x=pure x:=by intro _; rfl):cM W d env (.For target iter body orelse pos) η σ Q:=λ A s ρ hr R F=>by
 refine wpAny_For (ic (hit A s ρ hr R F) λ x eO h₁=>ic h₁ λ it ia br=>?_) hs
 obtain ⟨br,bB,δ₂,aj,mq,aZ,bQ,R₂,I,k,rfl,hI,ir,n,η₀,wk,inv⟩:=br
 subst mq
 have K5:I∉addrs env:=λ m=>absurd (F.lt I m) (Nat.not_lt.mpr hI)
 have F₂:=(F.mono R.muts aZ bQ).weak wk
 have xG:aJ (addrs env++ρ) s.heap br:=aZ.weaken λ a ha=>List.mem_append_right _ ha
 refine tK (λ n s'=>Post W (addrs env) ρ s (Ms W env Inv I n) s') ?_ n ⟨br,bB,δ₂,aj,rfl,xG,bQ,R₂,k,η₀,F₂,ir,inv⟩
 intro n sJ ⟨fE,cz,δ₃,aE,t6,fF,f₃,R₃,k,η₃,F₃,ir,inv⟩
 subst t6
 have T:=turn n k η₃ aE inv
 cases hn:k.next aE with
 | none=>rw [hn] at T; exact T.elim
 | some r =>
  rw [hn] at T
  refine ic (A8 hr R₃ ir hn) λ x Hi ⟨qf,tT,KU,p₄,q₄⟩=>?_
  subst KU
  have Jv:=ir.gp R₃
  have hb:W.hb.get? I=none:=by
   cases q:W.hb.get? I with
   | none=>rfl
   | some o=>exact absurd (Heap.lt_size (R.base _ _ q)) (Nat.not_lt.mpr hI)
  have R₄:aK W (ρ++δ₃) aE qf:=R₃.keepsBut p₄ ir.qP λ a ha=>by rw [List.mem_singleton.mp ha]; exact ⟨Jv,hb⟩
  have F₄:dw W env η₃ (ρ++δ₃) qf:=by
   refine ⟨F₃.ok,F₃.out,λ a ha=>Nat.lt_of_lt_of_le (F₃.lt a ha) p₄.size,F₃.A4,λ a ha=>?_,?_,λ x v hv=>?_,F₃.vO⟩
   · obtain ⟨o,e,q⟩:=F₃.BV a ha
     exact ⟨o,p₄.keep _ _ e (λ m=>K5 (by rw [← List.mem_singleton.mp m]; exact ha)),q⟩
   · obtain ⟨m,⟨o,es,ep,ho,r⟩,hv⟩:=F₃.locs
     refine ⟨m,⟨o,es,ep,p₄.keep _ _ ho (λ q=>K5 (by rw [← List.mem_singleton.mp q]; exact .head _)),r⟩,λ x v q=>?_⟩
     obtain ⟨w,e,z⟩:=hv x v q
     have:=z.mono (δ:=[]) ir.qP p₄
     rw [List.append_nil] at this
     exact ⟨w,e,this⟩
   · obtain ⟨c,w,e1,⟨o,ho,hd⟩,e3⟩:=F₃.cells x v hv
     have hc:c∈addrs env:=List.mem_cons_of_mem _ (List.mem_map.mpr ⟨(x,c),mem_of_lookup e1,rfl⟩)
     refine ⟨c,w,e1,⟨o,p₄.keep _ _ ho (λ q=>K5 (by rw [← List.mem_singleton.mp q]; exact hc)),hd⟩,λ a ha=>?_⟩
     obtain ⟨w',q,z⟩:=e3 a ha
     have:=z.mono (δ:=[]) ir.qP p₄
     rw [List.append_nil] at this
     exact ⟨w',q,this⟩
  have P₄:aJ (addrs env++ρ) s.heap qf:=by
   refine ⟨Nat.le_trans fF.size p₄.size,λ b o e hb=>p₄.keep b o (fF.keep b o e hb) λ m=>?_⟩
   rw [List.mem_singleton.mp m] at e
   exact absurd (Heap.lt_size e) (Nat.not_lt.mpr hI)
  cases r with
  | none =>
   subst q₄
   exact ic (T A _ _ hr R₄ F₄) λ f OQ z=>Post.chain P₄ f₃ z
  | some xk =>
   obtain ⟨a,k'⟩:=xk
   obtain ⟨v,rfl,va,Mu⟩:=q₄
   refine Mu.owned (wpAny_mono (T A _ _ _ hr R₄ F₄ va) (λ _ OQ z₅=>?_) λ _ _ x=>x)
   obtain ⟨qg,BJ,δ₅,SQ,Rc,p₅,f₅,R₅,η₅,F₅,q₅⟩:=z₅
   subst Rc
   have hIn:∀ {ρ':List Addr} {σ':List AO} {h':Heap},aK W ρ' σ' h'→sd W.hid ρ' h' k' I→I∉addrs env++ρ':=λ R' i m=>by
    rcases List.mem_append.mp m with m | m
    · exact K5 m
    · exact i.gp R' m
   have zf:sd W.hid ((ρ++δ₃)++δ₅) qg k' I:=Mu.mono (F₄.BV.append R₄.muts) p₅ (hIn R₄ Mu)
   refine wpAny_mono (q₅ A _ _ hr R₅ F₅) (λ f Rf z₆=>?_) λ _ _ x=>x
   obtain ⟨t7,tL,δ₆,σ₆,KV,p₆,f₆,R₆,fl,η₆,F₆,fx,q₆⟩:=z₆
   subst KV
   have w9:sd W.hid (((ρ++δ₃)++δ₅)++δ₆) t7 k' I:=zf.mono (F₅.BV.append R₅.muts) p₆ (hIn R₅ zf)
   have fin:∀ (Z:List Addr→List AO→Heap→Prop),Z (((ρ++δ₃)++δ₅)++δ₆) σ₆ t7→Post W (addrs env) ρ s Z { s with heap:=t7,toks:=tL }:=λ Z z =>
    Post.chain (s:=s) P₄ f₃ (Post.chain (s:={ s with heap:=qf,toks:=tT }) p₅ f₅ ⟨t7,tL,δ₆,σ₆,rfl,p₆,f₆,R₆,z⟩)
   cases fx with
   | next=>obtain ⟨m,hm,η₇,wk,inv⟩:=q₆; exact ⟨m,hm,fin _ ⟨k',η₇,F₆.weak wk,w9,inv⟩⟩
   | cont=>obtain ⟨m,hm,η₇,wk,inv⟩:=q₆; exact ⟨m,hm,fin _ ⟨k',η₇,F₆.weak wk,w9,inv⟩⟩
   | brk=>exact fin _ ⟨.next,η₆,F₆,.next,q₆⟩
   | ret hv=>exact fin _ ⟨.ret _,η₆,F₆,.ret hv,q₆⟩
noncomputable def PL:AV→Option dQ
 | .lst n=>some (.lst n 0)
 | .tup vs=>some (.tup vs)
 | .gO a b c=>if Builtin.Range.small a b c=true then some (.gO a c (Builtin.Range.rangeSize a b c).toNat) else none
 | _=>none
theorem sQ (a b c:Int):0≤Builtin.Range.rangeSize a b c:=by
 unfold Builtin.Range.rangeSize
 split<;>(try split)<;>first | lia | (apply Int.add_nonneg<;>first | lia | (apply Int.ediv_nonneg<;>lia))
theorem p5 {ρ δ:List Addr} {s:Shared} {h₁:Heap} {tk₁:Nat} {aa:List AO} {k:dQ} {Q:dQ→List AO→Prop} {o:Obj} (p:aJ ρ s.heap h₁) (f:∀ a∈δ,s.heap.objs.size≤a) (R₁:aK W (ρ++δ) aa h₁)
 (hI:sd W.hid (ρ++δ) (h₁.push o) k h₁.objs.size) (q:Q k aa):Post W [] ρ s (PJ W s.heap.objs.size Q (.ref h₁.objs.size)) { s with heap:=h₁.push o,toks:=tk₁ } :=
 Post.chain p f (rW (s:={ s with heap:=h₁,toks:=tk₁ }) R₁ o ⟨_,k,rfl,p.size,hI,q⟩ tk₁)
theorem qs.of {e:Expr} {Q:dQ→List AO→Prop} (h:aW W d env e η σ λ a aa=>∃ k,PL a=some k∧Q k aa∧∀ n,a=.lst n→∃ xs,aa[n]? = some (.lst xs)):qs W d env e η σ Q:=λ A s ρ hr R F=>by
 refine aQ (h A s ρ hr R F) λ v h₁ tk₁ δ aa p f R₁ ⟨a,va,k,hk,q,hl⟩=>?_
 cases va with
 | @lst n ad e =>
  cases hk
  obtain ⟨xs,ex⟩:=hl _ rfl
  obtain ⟨ws,m,e2,v⟩:=aP R₁ ex e
  exact wpAny_pyIter_list (s:={ s with heap:=h₁,toks:=tk₁ }) ⟨_,e2,rfl,_,rfl⟩ (p5 (k:=.lst n 0) p f R₁ ⟨_,e,_,Heap.get?_push_size _ rfl,rfl,rfl⟩ q)
 | @tup vs ws t n e hx v =>
  cases hk
  refine wpAny_pyIter_tuple (s:={ s with heap:=h₁,toks:=tk₁ }) (items:=ws.toArray) ⟨_,e,rfl,_,rfl⟩ (p5 (k:=.tup vs) p f R₁ ⟨t,ws.toArray,0,⟨_,Heap.get?_push_of_some _ e,rfl,_,rfl⟩,⟨_,Heap.get?_push_size _ rfl,rfl,rfl⟩,?_⟩ q)
  have:=v.mono (δ:=[]) R₁.muts (.push _ h₁ ({ cls:=.type "tuple_iterator",data:=.fields #[.ref t,.int 0 0] }:Obj))
  rw [List.append_nil] at this
  exact ⟨by simpa using this,hx⟩
 | @gO a b c r t u v e =>
  by_cases hs:Builtin.Range.small a b c=true
  · cases (if_pos hs).symm.trans hk
    refine wpAny_pyIter_range (s:={ s with heap:=h₁,toks:=tk₁ }) e hs (p5 (k:=.gO a c (Builtin.Range.rangeSize a b c).toNat) p f R₁ ?_ q)
    show IsRangeIter _ _ _ _ _
    rw [Int.toNat_of_nonneg (sQ a b c)]
    exact Heap.get?_push_size _ rfl
  · exact aT ((if_neg hs).symm.trans hk)
 | none=>exact aT hk
 | bool=>exact aT hk
 | int=>exact aT hk
 | dct=>exact aT hk
 | inst=>exact aT hk
 | g7=>exact aT hk
 | cst=>exact aT hk
end
section
variable {W:Wl} {d:Nat} {env:Env} {η:En} {σ:List AO}
def cN (W:Wl) (f:AV):Prop:=∀ ρ h v,W.K.In h→VR W.hid ρ h f v→∃ k,(k=Keeper.frame∨k=Keeper.machine∨k=Keeper.boundFrame)∧Looks W.M h (keeperOf v) k
theorem cN.ref {a:Addr} (hk:keepIn W.K (.ref a)=true):cN W (.cst (.ref a)):=λ ρ h v X hv=>by refine VR.bh hv ?_; exact keeps_K hk h X
theorem cN.builtin {i:String}:cN W (.cst (.builtin i)):=λ ρ h v X hv=>by refine VR.bh hv ?_; exact ⟨.machine,.inr (.inl rfl),Looks.of_pure rfl⟩
theorem cN.type {i:String}:cN W (.cst (.type i)):=λ ρ h v X hv=>by refine VR.bh hv ?_; exact ⟨.machine,.inr (.inl rfl),Looks.of_pure rfl⟩
theorem FZ {K:Frag} {f:Addr} (h:fnIn K f=true):∃ c d fd sl,K.lookup f=some ⟨c,d,.func fd,sl⟩:=by
 delta fnIn at h
 cases e:K.lookup f with
 | none=>rw [e] at h; exact cS h
 | some o =>
  rw [e] at h
  obtain ⟨c,d,dt,sl⟩:=o
  cases dt with
  | func fd=>exact ⟨c,d,fd,sl,rfl⟩
  | _=>exact cS h
set_option tactic.hygienic true in
theorem cN.g7 {f:Addr} {a:AV} (hf:fnIn W.K f=true):cN W (.g7 f a):=λ ρ h v X hv=>by
 refine hv.Dl λ _ _ e r=>?_
 refine ⟨.boundFrame,.inr (.inr rfl),?_⟩
 obtain ⟨c,dd,fd,sl,q⟩:=FZ hf
 intro A Q E s k z
 unfold keeperOf
 refine wpAny_bind (wpAny_load (k _ _ e) ?_)
 dsimp only
 rw [if_neg (by decide)]
 refine wpAny_bind (wpAny_load (k _ _ (X _ _ q)) ?_)
 exact wpAny_pure z
theorem p6 {A:Around} {E:Value→Shared→Prop} {s:Shared} {f:Value} {pos:Pos} {es:List Expr} {B:Args→Shared→Prop} (hu:es.all aB=true)
 (h:wpAny W.M A (spliced (backTo pos (starEach es env))) (λ vs s'=>B ⟨vs,[]⟩ s') E s):wpAny W.M A (evalArgs f true (backTo pos (starEach es env)) []) B E s:=by
 cases es with
 | nil =>
  unfold evalArgs
  show wpAny W.M A (spliced [] >>= _) B E s
  refine wpAny_bind (wpAny_mono h (λ vs s' h'=>?_) λ _ _ x=>x)
  refine wpAny_holding ?_
  exact wpAny_bind (wpAny_pure (wpAny_bind (wpAny_pure (wpAny_pure h'))))
 | cons e r =>
  rw [List.all_cons,Bool.and_eq_true] at hu
  have hu1:=hu.1
  have hs:backTo pos (starEach (e :: r) env)=(false,eval e env) :: backTo pos (starEach r env):=by cases e<;>first | rfl | (exact cS hu1)
  rw [hs] at h ⊢
  exact evalArgs_plain h
theorem noStar {pos:Pos}:∀ {es:List Expr},es.all aB=true→(backTo pos (starEach es env)).any (·.1)=false
 | [],_=>rfl
 | e :: r,hu=>by
  rw [List.all_cons,Bool.and_eq_true] at hu
  have hu1:=hu.1
  have hs:backTo pos (starEach (e :: r) env)=(false,eval e env) :: backTo pos (starEach r env):=by cases e<;>first | rfl | (exact cS hu1)
  rw [hs,List.any_cons,noStar hu.2]; rfl
theorem bA.append {X ρ:List Addr} {h:Heap} {as bs:List AV} {ws:List Value}:∀ {vs:List Value},bA X ρ h as vs→bA X ρ h bs ws→bA X ρ h (as++bs) (vs++ws):=by
 induction as with
 | nil=>exact λ hv y=>hv.aU y
 | cons a as ih=>exact λ hv y=>hv.ao λ _ _ x r=>.cons x (ih r y)
theorem vP {A:Around} {s:Shared} {ρ:List Addr} {pos:Pos} {f:AV} {fv:Value} {first:List AV} {PM:List Value} {args:List Expr} {Q:AV→List AO→Prop} (O:W.Ok) (hr:Rm d A) (R:aK W ρ σ s.heap) (F:dw W env η ρ s.heap)
 (hf:VR W.hid ρ s.heap f fv) (hfs:bA W.hid ρ s.heap first PM) (hk:cN W f) (hu:args.all aB=true) (h:ee W d env pos args η σ λ as aa=>aq W d f (first++as) aa Q) :
 wpAny W.M A (callWith pos fv PM (backTo pos (starEach args env)) []) (λ v s'=>Post W [] ρ s (QV W Q v) s') lQ s:=by
 refine callWith_of (P:=λ h=>∃ ρ',W.K.In h∧VR W.hid ρ' h f fv) (by rw [noStar hu]; rfl) (λ h ⟨ρ',X,v⟩=>hk ρ' h fv X v) ?_
 refine p6 hu (aQ (h A s ρ hr R F) λ ws h₁ tk₁ δ aa p tD R₁ ⟨as,vs,q⟩=>?_)
 refine ⟨⟨ρ++δ,R₁.qM O,hf.mono R.muts p⟩,?_⟩
 exact wpAny_mono (q A _ _ fv (PM++ws) hr R₁ (hf.mono R.muts p) ((hfs.mono R.muts p).append vs)) (λ _ _ z=>Post.chain p tD z) λ _ _ x=>x
theorem aW.call (O:W.Ok) {x:Str} {p pos:Pos} {f:AV} {args:List Expr} {Q:AV→List AO→Prop} (hx:ud η x f) (hk:cN W f) (hu:args.all aB=true)
 (h:ee W d env pos args η σ λ as aa=>aq W d f as aa Q):aW W d env (.Call (.Name x p) args [] pos) η σ Q:=λ A s ρ hr R F=>by
 show wpAny _ _ (do callWith pos (← eval (.Name x p) env) [] (backTo pos (starEach args env)) []) _ _ _
 refine wpAny_bind (wpAny_Name (fY O hx R F λ w z=>?_) (hx.Fp F))
 exact vP O hr R F z .nil hk hu h
def cI (W:Wl) (d:Nat) (a:AV) (name:Str) (σ:List AO) (Q:AV→List AV→List AO→Prop):Prop :=
 ∀ A s ρ v pl,Rm d A→aK W ρ σ s.heap→VR W.hid ρ s.heap a v→wpAny W.M A (getMethod v name pl) (λ r s'=>Post W [] ρ s (λ ρ' σ' h'=>∃ f first,VR W.hid ρ' h' f r.1∧bA W.hid ρ' h' first r.2∧cN W f∧Q f first σ') s') lQ s
theorem aW.Mv (O:W.Ok) {o:Expr} {name:Str} {apos pos:Pos} {args:List Expr} {Q:AV→List AO→Prop} (hb:attributeBase o name env (eval o env)=eval o env) (hp:(apos.endLine==pos.line)=true)
 (hu:args.all aB=true) (hn:args.length<25)
 (h:aW W d env o η σ λ a aa=>cI W d a name aa λ f first aj=>ee W d env pos args η aj λ as aE=>aq W d f (first++as) aE Q) :
 aW W d env (.Call (.Attribute o name apos) args [] pos) η σ Q:=λ A s ρ hr R F=>by
 show wpAny _ _ (do
  let ov ← attributeBase o name env (eval o env)
  standAt apos.atName
  methodCall o name apos pos env ov (args.length+0) (backTo pos (starEach args env)) []) _ _ _
 rw [hb]
 refine wpAny_bind (aQ (h A s ρ hr R F) λ ov h₁ tk₁ δ aa p f R₁ ⟨a,va,q⟩=>wpAny_bind (wpAny_standAt ?_))
 unfold methodCall
 have few:methodCallForm (args.length+0) (backTo pos (starEach args env)) []=true:=by
  have h1:=noStar (env:=env) (pos:=pos) hu
  have h2:(backTo pos (starEach args env)).all (λ x=>!x.1)=true:=by
   rw [List.any_eq_false] at h1
   rw [List.all_eq_true]
   intro x hx; have:=h1 x hx; simpa using this
  unfold methodCallForm
  simp only [h2,List.all_nil,List.isEmpty_nil,Bool.true_and,if_true,decide_eq_true_eq]
  lia
 rw [few]
 have gK:=F.mono R.muts p f
 refine wpAny_bind (wpAny_holding (aQ (q A _ _ _ _ hr R₁ va) λ r br bB δ₂ aj aZ bQ R₂ ⟨fa,first,vf,Ti,hk,dG⟩=>?_))
 have hpos:methodCallPos true o env apos pos=pure pos:=by unfold methodCallPos; rw [hp]; rfl
 rw [hpos]
 refine wpAny_bind (wpAny_pure ?_)
 exact wpAny_mono (vP O hr R₂ (gK.mono R₁.muts aZ bQ) vf Ti hk hu dG) (λ _ _ z=>Post.chain p f (Post.chain (s:={ s with heap:=h₁,toks:=tk₁ }) aZ bQ z)) λ _ _ x=>x
noncomputable def zg (W:Wl) (x:Str):Option Value:=match nsIn W.K mainGlobals x with
 | some (some v)=>some v
 | some none=>if x==("__name__" : Str) then none else bootBuiltins x
 | none=>none
set_option tactic.hygienic true in
theorem A9 (O:W.Ok) {x:Str} {v:Value} (h:zg W x=some v):z8 W x v:=by
 unfold zg at h
 cases e:nsIn W.K mainGlobals x with
 | none=>rw [e] at h; exact aT h
 | some o =>
  rw [e] at h
  cases o with
  | some u=>refine sE h ?_; exact .inl (mg_of O.qM O.g e)
  | none =>
   have h:(if x==("__name__" : Str) then none else bootBuiltins x)=some v:=h
   by_cases hn:(x==("__name__" : Str))=true
   · rw [if_pos hn] at h; exact aT h
   · rw [if_neg hn] at h
     exact .inr ⟨mg_none_of O.qM O.g e,(O.blt x (by simpa using hn)).trans h⟩
noncomputable def Mw:NameKind→NK
 | .local=>.loc
 | .cell=>.vM
 | _=>.Fo
noncomputable def z9 (W:Wl) (names:List (Str×NameKind)) (ab:List (Str×AV)):En:=names.map λ p=>match p.2 with
 | .local=>(p.1,.loc,ab.lookup p.1)
 | .cell=>(p.1,.vM,ab.lookup p.1)
 | _=>(p.1,.Fo,(zg W p.1).map .cst)
noncomputable def Tj:NameKind→Bool
 | .local | .cell | .globalImplicit=>true
 | _=>false
noncomputable def zh (l:List (Str×NameKind)):Bool:=decide (l.map (·.1)).Nodup&&l.all λ p=>p.1 != ("__debug__" : Str)&&Tj p.2
noncomputable def Jw (fd:FuncData):Bool:=zh fd.scope.names&&fd.scope.kind==.function&&!fd.scope.isCoroutine&&!fd.scope.isGenerator&&fd.closure.isEmpty&&fd.globals==mainGlobals&&fd.builtins==builtinsNs
theorem bH {α:Type}:∀ {l:List (Str×α)},(l.map (·.1)).Nodup→∀ {n:Str} {c:α},(n,c)∈l→l.lookup n=some c
 | (k,v) :: r,nd,n,c,m=>by
  rw [List.lookup_cons]
  rw [List.map_cons,List.nodup_cons] at nd
  rcases List.mem_cons.mp m with e | m'
  · cases e; simp
  · have:(n==k)=false:=by
     rw [beq_eq_false_iff_ne]
     intro q
     exact nd.1 (List.mem_map.mpr ⟨(n,c),m',q⟩)
    rw [this]
    exact bH nd.2 m'
end
theorem dh:∀ (names:List (Str×NameKind)) (n:Nat) (acc:List (Str×Addr)),(names.map (·.1)).Nodup→(acc.map (·.1)).Nodup→(∀ x∈acc.map (·.1),x∉names.map (·.1))→((cellsFrom n names acc).map (·.1)).Nodup
 | [],_,_,_,h,_=>h
 | (y,k) :: r,n,acc,hn,ha,hd=>by
  rw [List.map_cons,List.nodup_cons] at hn
  unfold cellsFrom
  split
  · refine dh r _ _ hn.2 ?_ ?_
    · rw [List.map_cons,List.nodup_cons]; exact ⟨λ m=>hd y m (.head _),ha⟩
    · intro x hx
      rcases List.mem_cons.mp hx with e | hx
      · rw [e]; exact hn.1
      · exact λ m=>hd x hx (.tail _ m)
  · exact dh r _ _ hn.2 ha λ x hx m=>hd x hx (.tail _ m)
theorem fH:∀ (names:List (Str×NameKind)) (n:Nat) (acc:List (Str×Addr)) (p:Str×Addr),p∈acc→p∈cellsFrom n names acc
 | [],_,_,_,m=>m
 | (y,k) :: r,n,acc,p,m=>by
  unfold cellsFrom
  split
  · exact fH r _ _ p (.tail _ m)
  · exact fH r _ _ p m
theorem fc:∀ (names:List (Str×NameKind)) (n:Nat) (acc:List (Str×Addr)) (x:Str),(x,NameKind.cell)∈names→∃ c,(x,c)∈cellsFrom n names acc
 | (y,k) :: r,n,acc,x,m=>by
  unfold cellsFrom
  rcases List.mem_cons.mp m with e | m
  · cases e
    rw [if_pos (by decide)]
    exact ⟨n,fH r _ _ _ (.head _)⟩
  · split
    · exact fc r _ _ x m
    · exact fc r _ _ x m
theorem xd {ko:Str→Option NameKind} {x:Str}:∀ {binds:List (Str×Value)} {m:Str→Option Value},x∉binds.map (·.1)→bindL ko binds m x=m x
 | [],_,_=>rfl
 | (n,v) :: r,m,h=>by
  unfold bindL
  rw [List.map_cons,List.mem_cons,not_or] at h
  rw [xd h.2]
  split
  · simp [h.1]
  · rfl
theorem xe {ko:Str→Option NameKind} {x:Str} {w:Value} (hk:ko x=some .local):∀ {binds:List (Str×Value)} {m:Str→Option Value},(binds.map (·.1)).Nodup→(x,w)∈binds→bindL ko binds m x=some w
 | (n,v) :: r,m,nd,h=>by
  unfold bindL
  rw [List.map_cons,List.nodup_cons] at nd
  rcases List.mem_cons.mp h with e | h
  · cases e
    rw [xd nd.1,if_pos hk]; simp
  · exact xe hk nd.2 h
theorem xg {ko:Str→Option NameKind} {x:Str}:∀ {binds:List (Str×Value)} {m:Str→Option Value},x∉binds.map (·.1)→bindC ko binds m x=m x
 | [],_,_=>rfl
 | (n,v) :: r,m,h=>by
  unfold bindC
  rw [List.map_cons,List.mem_cons,not_or] at h
  rw [xg h.2]
  split
  · rfl
  · simp [h.1]
theorem xh {ko:Str→Option NameKind} {x:Str} {w:Value} (hk:ko x=some .cell):∀ {binds:List (Str×Value)} {m:Str→Option Value},(binds.map (·.1)).Nodup→(x,w)∈binds→bindC ko binds m x=some w
 | (n,v) :: r,m,nd,h=>by
  unfold bindC
  rw [List.map_cons,List.nodup_cons] at nd
  rcases List.mem_cons.mp h with e | h
  · cases e
    rw [xg nd.1,if_neg (by rw [hk]; decide)]; simp
  · exact xh hk nd.2 h
def Ba (X ρ:List Addr) (h:Heap) (ab:List (Str×AV)) (binds:List (Str×Value)):Prop:=binds.map (·.1)=ab.map (·.1)∧bA X ρ h (ab.map (·.2)) (binds.map (·.2))
theorem Ba.get {X ρ:List Addr} {h:Heap}:∀ {ab:List (Str×AV)} {binds:List (Str×Value)},Ba X ρ h ab binds→∀ {x:Str} {a:AV},ab.lookup x=some a→∃ w,(x,w)∈binds∧VR X ρ h a w
 | [],_,_,_,_,e=>by exact aT e
 | (y,b) :: r,[],hb,_,_,_=>by cases hb.1
 | (y,b) :: r,(n,v) :: t,⟨e1,e2⟩,x,a,e=>by
  rw [List.map_cons,List.map_cons] at e1 e2
  cases e2 with | cons q1 q2 =>
  injection e1 with e3 e4
  dsimp only at e3
  rw [List.lookup_cons] at e
  cases hx:x==y with
  | true=>rw [hx] at e; cases e; rw [beq_iff_eq.mp hx,← e3]; exact ⟨v,.head _,q1⟩
  | false =>
   rw [hx] at e
   obtain ⟨w,m,z⟩:=Ba.get (ab:=r) (binds:=t) ⟨e4,q2⟩ e
   exact ⟨w,.tail _ m,z⟩
section
variable {W:Wl} {d:Nat} {σ:List AO}
noncomputable def Fl.val:Fl→AV
 | .ret v=>v
 | _=>.none
theorem BX {k:NameKind} (h:(match k with | .local | .cell | .globalImplicit=>true | _=>false)=true):(Mw k).kind=k:=by cases k<;>first | rfl | exact cS h
theorem Aa (names:List (Str×NameKind)) (ab:List (Str×AV)):(z9 W names ab).map (·.1)=names.map (·.1):=by
 unfold z9
 rw [List.map_map]
 apply List.map_congr_left
 intro p hp
 obtain ⟨x,k⟩:=p
 cases k<;>rfl
theorem p7 {names:List (Str×NameKind)} {ab:List (Str×AV)} {x:Str} {k:NK} {v:Option AV} (m:(x,k,v)∈z9 W names ab):∃ nk,(x,nk)∈names∧k=Mw nk∧v=(match nk with | .local=>ab.lookup x | .cell=>ab.lookup x | _=>(zg W x).map .cst):=by
 unfold z9 at m
 refine aG λ Ga ka=>?_
 obtain ⟨⟨y,nk⟩,hm,e⟩:=List.mem_map.mp m
 refine ka ?_
 clear ka
 cases nk<;>(cases e; exact ⟨_,hm,rfl,rfl⟩)
theorem ai.fn (O:W.Ok) {a:Addr} {fd:FuncData} {body:List Stmt} {oc:Value} {od:Option Addr} {osl:Array (Option Value)} {as:List AV} {ab:List (Str×AV)} {η₀:En} {Q:AV→List AO→Prop}
 (hK:W.K.lookup a=some ⟨oc,od,.func fd,osl⟩) (hb:fd.body=.stmts body) (hcd:codeIn W.K fd.code fd.qualname=true) (hok:Jw fd=true)
 (hbind:∀ ρ h vs,bA W.hid ρ h as vs→∃ binds,(∀ S,peek W.K S (bindArgs fd ⟨vs,[]⟩)=some binds)∧Ba W.hid ρ h ab binds)
 (hab:(decide (ab.map (·.1)).Nodup&&ab.all λ p=>fd.scope.names.lookup p.1==some .local||fd.scope.names.lookup p.1==some .cell)=true)
 (hη:z9 W fd.scope.names ab=η₀)
 (h:∀ L,dD W d (callEnvC fd L a) body η₀ σ λ fl _ σ'=>Q fl.val σ'):ai W (d+1) (.cst (.ref a)) as σ Q:=λ A s ρ fv vs hr R hf hv=>by
 refine VR.bh hf ?_
 obtain ⟨binds,hpk,Mx⟩:=hbind ρ s.heap vs hv
 unfold Jw at hok
 simp only [Bool.and_eq_true,Bool.not_eq_true',beq_iff_eq] at hok
 refine aG λ Ga ka=>?_
 obtain ⟨⟨⟨⟨⟨⟨hnf,hkind⟩,hco⟩,hgen⟩,hclo⟩,Tn⟩,To⟩:=hok
 refine ka ?_
 clear ka
 have hclo:fd.closure=[]:=List.isEmpty_iff.mp hclo
 unfold zh at hnf
 rw [Bool.and_eq_true,List.all_eq_true] at hnf
 obtain ⟨hnd,hall⟩:=hnf
 have hnd:=of_decide_eq_true hnd
 rw [Bool.and_eq_true,List.all_eq_true] at hab
 obtain ⟨F0,PN⟩:=hab
 have F0:=of_decide_eq_true F0
 have hX:=R.qM O
 refine codeAny_call_function (by have:=hr.depth; lia) (hX _ _ hK) rfl hco hgen hb (codeRec_of hX hcd) ?_
 refine (Looks.of_peek (M:=W.M) hX (hpk _)).here ?_
 rw [hclo]
 have bk:∀ x∈binds,fd.scope.names.lookup x.1=some .local∨(fd.scope.names.lookup x.1=some .cell∧((cellsFrom (s.heap.objs.size+1) fd.scope.names []).lookup x.1).isSome=true):=by
  intro x hx
  have hx':x.1∈ab.map (·.1):=by rw [← Mx.1]; exact List.mem_map.mpr ⟨x,hx,rfl⟩
  obtain ⟨p,hp,e⟩:=List.mem_map.mp hx'
  have:=PN p hp
  rw [Bool.or_eq_true,beq_iff_eq,beq_iff_eq,e] at this
  rcases this with q | q
  · exact .inl q
  · refine .inr ⟨q,?_⟩
    obtain ⟨c,hc⟩:=fc fd.scope.names (s.heap.objs.size+1) [] x.1 (mem_of_lookup q)
    rw [bH (dh _ _ [] hnd List.nodup_nil (λ _ h=>nomatch h)) hc]; rfl
 refine wpAny_newFunctionEnv_cells hkind bk λ env he s' x=>?_
 have he:env=callEnvC fd s.heap.objs.size a:=he
 subst he
 obtain ⟨h₁,tk₁,rfl⟩:=x.toInCall.same
 have hkeep:=x.toInCall.keep
 have hfr:∀ c∈addrs (callEnvC fd s.heap.objs.size a),s.heap.objs.size≤c:=λ c hc=>by
  rcases List.mem_cons.mp hc with e | hc
  · exact Nat.le_of_eq e.symm
  · obtain ⟨p,hp,rfl⟩:=List.mem_map.mp hc
    exact Nat.le_of_lt (x.above p.1 p.2 hp)
 have hcn:((callEnvC fd s.heap.objs.size a).cells.map (·.1)).Nodup:=dh _ _ [] hnd List.nodup_nil (λ _ h=>nomatch h)
 have hcell:∀ p∈(callEnvC fd s.heap.objs.size a).cells,h₁.IsCell p.2 (bindC (callEnvC fd s.heap.objs.size a).kindOf binds (λ _=>none) p.1):=λ p hp=>x.cell p.1 p.2 (bH hcn hp)
 have hmut:b7 W.hid h₁ (addrs (callEnvC fd s.heap.objs.size a)):=λ c hc=>by
  rcases List.mem_cons.mp hc with e | hc
  · rw [e]; exact pZ x.toInCall.ns
  · obtain ⟨p,hp,rfl⟩:=List.mem_map.mp hc
    exact qN (hcell p hp)
 have hsz:s.heap.objs.size≤h₁.objs.size:=by
  have:=x.toInCall.ns.lt
  exact Nat.le_of_lt this
 have tC:aJ [] s.heap h₁:=⟨hsz,λ b o e _=>hkeep b o e⟩
 have Pρ:aJ ρ s.heap h₁:=⟨hsz,λ b o e _=>hkeep b o e⟩
 have R₁:aK W ρ σ h₁:=R.keeps tC
 have vm:∀ {a:AV} {v:Value},VR W.hid ρ s.heap a v→VR W.hid ρ h₁ a v:=λ z=>by
  have:=z.mono (δ:=[]) R.muts Pρ; rwa [List.append_nil] at this
 have kd:∀ y nk,(y,nk)∈fd.scope.names→(callEnvC fd s.heap.objs.size a).kindOf y=some nk:=λ y nk m=>bH hnd m
 have gK:dw W (callEnvC fd s.heap.objs.size a) η₀ ρ h₁:=by
  subst hη
  refine ⟨⟨hkind,Tn,To,by rw [Aa]; exact hnd,λ y k v m=>?_,λ y k v m=>?_,x.apart,λ c hc=>Nat.ne_of_gt (x.above c.1 c.2 hc)⟩,λ c hc m=>?_,λ c hc=>?_,λ c hc=>?_,hmut,⟨_,x.toInCall.ns,λ y v m=>?_⟩,λ y v m=>?_,λ y v m=>?_⟩
  · obtain ⟨nk,hm,e,_⟩:=p7 m
    have:=hall (y,nk) hm
    rw [Bool.and_eq_true] at this
    rw [e,BX this.2]
    exact kd y nk hm
  · obtain ⟨nk,hm,e,_⟩:=p7 m
    have:=hall (y,nk) hm
    rw [Bool.and_eq_true] at this
    simpa using this.1
  · obtain ⟨o,e,_⟩:=R.muts c m
    exact absurd (Heap.lt_size e) (Nat.not_lt.mpr (hfr c hc))
  · obtain ⟨o,e,_⟩:=hmut c hc
    exact Heap.lt_size e
  · cases q:W.hb.get? c with
    | none=>rfl
    | some o=>exact absurd (Heap.lt_size (R.base _ _ q)) (Nat.not_lt.mpr (hfr c hc))
  · obtain ⟨nk,hm,e,ev⟩:=p7 m
    cases nk<;>first | (cases e; done) | skip
    obtain ⟨w,hw,z⟩:=Mx.get ev.symm
    exact ⟨w,xe (kd y _ hm) (by rw [Mx.1]; exact F0) hw,vm z⟩
  · obtain ⟨nk,hm,e,ev⟩:=p7 m
    cases nk<;>first | (cases e; done) | skip
    obtain ⟨c,hc⟩:=fc fd.scope.names (s.heap.objs.size+1) [] y hm
    refine ⟨c,_,bH hcn hc,hcell _ hc,λ u hu=>?_⟩
    subst hu
    obtain ⟨w,hw,z⟩:=Mx.get ev.symm
    exact ⟨w,xh (kd y _ hm) (by rw [Mx.1]; exact F0) hw,vm z⟩
  · obtain ⟨nk,hm,e,ev⟩:=p7 m
    cases nk<;>first | (cases e; done) | skip
    all_goals
     dsimp only at ev
     cases q:zg W y with
     | none=>rw [q] at ev; cases ev
     | some w=>rw [q] at ev; cases ev; exact ⟨w,rfl,A9 O q⟩
 refine ⟨R₁.lim O,codeAny_func (ic (h s.heap.objs.size (A.deeper _) _ ρ ⟨hr.handled,by have:=hr.depth; show A.depth+1+2*d+2<recursionLimit; lia,by have:=hr.units; show A.units+3+20*d+20<cLine; lia⟩ R₁ gK) λ f ia z=>?_)⟩
 obtain ⟨br,bB,δ₂,aj,mq,aZ,bQ,R₂,fl,η₂,F₂,fx,dG⟩:=z
 subst mq
 have yM:aJ ([]++ρ) s.heap br:=⟨Nat.le_trans hsz aZ.size,λ b o e n=>aZ.keep b o (hkeep b o e) λ m=>by
  rcases List.mem_append.mp m with m | m
  · exact absurd (Heap.lt_size e) (Nat.not_lt.mpr (hfr b m))
  · exact n m⟩
 have fin:∀ (v:Value) (u:AV),VR W.hid (ρ++δ₂) br u v→Q u aj→Post W [] ρ s (QV W Q v) { s with heap:=br,toks:=bB }:=λ v u z q =>
  ⟨br,bB,δ₂,aj,rfl,yM,λ b hb=>Nat.le_trans hsz (bQ b hb),R₂,u,z,q⟩
 cases fx with
 | next=>exact fin _ _ .none dG
 | brk=>exact fin _ _ .none dG
 | cont=>exact fin _ _ .none dG
 | ret hv=>exact fin _ _ hv dG
end
theorem PO {α:Type} {c:Prop} [i:Decidable c] {v:α} (h:(if c then none else some (none:Option α))=some (some v)):False:=by cases i with | isTrue _=>exact nomatch h | isFalse _=>exact nomatch h
theorem w7.getL {X ρ:List Addr} {h:Heap} {x:Str} {fs:List (Str×AV)} {ds:List DictEntry} (r:w7 X ρ h fs ds):(∀ a,fs.lookup x=some a→∃ v,getL x ds=some (some v)∧VR X ρ h a v)∧(fs.lookup x=none→getL x ds=some none):=by
 induction r with
 | nil=>exact ⟨λ a e=>aT e,λ _=>rfl⟩
 | @cons y a' fs e es hk hv r ih =>
  obtain ⟨t,hk⟩:=hk
  obtain ⟨r1,r2⟩:=ih
  have hs:e.key.isStr x=(y==x):=by rw [hk]; rfl
  refine ⟨λ a ea=>?_,λ en=>?_⟩
  · rw [List.lookup_cons] at ea
    cases hx:x==y with
    | true =>
     rw [hx] at ea; refine sE ea ?_
     have:(y==x)=true:=by rw [beq_iff_eq] at hx ⊢; exact hx.symm
     refine ⟨e.val,?_,hv⟩
     unfold PySem.W.getL
     rw [List.find?_cons,hs,this]
    | false =>
     rw [hx] at ea
     have:(y==x)=false:=by rw [beq_eq_false_iff_ne] at hx ⊢; exact λ q=>hx q.symm
     obtain ⟨v,q,z⟩:=r1 a ea
     refine ⟨v,?_,z⟩
     unfold PySem.W.getL at q ⊢
     rw [List.find?_cons,hs,this]
     dsimp only
     generalize List.find? (λ z=>z.key.isStr x) es=o at q ⊢
     cases o with
     | some e=>exact q
     | none=>exact (PO q).elim
  · rw [List.lookup_cons] at en
    cases hx:x==y with
    | true=>rw [hx] at en; cases en
    | false =>
     rw [hx] at en
     have:(y==x)=false:=by rw [beq_eq_false_iff_ne] at hx ⊢; exact λ q=>hx q.symm
     have q:=r2 en
     unfold PySem.W.getL at q ⊢
     rw [List.find?_cons,hs,this,List.any_cons]
     dsimp only
     have hrk:e.refKey=false:=by unfold DictEntry.refKey; rw [hk]
     rw [hrk,Bool.false_or]
     exact q
section
variable {W:Wl} {d:Nat} {env:Env} {η:En} {σ:List AO}
inductive HA (W:Wl) (ρ:List Addr) (h:Heap) (C x:Addr) (n:Nat) (fs:List (Str×AV)):Prop
 | mk (dx:Addr) (ds:List DictEntry) (m:Nat) (e1:ρ[n]? = some dx) (e2:h.get? x=some (instObj C dx)) (e3:h.get? dx=some (dictOf ds m)) (r:w7 W.hid ρ h fs ds) (I:InstAt h x (instObj C dx) C (some (dictOf ds m))):HA W ρ h C x n fs
theorem ql {ρ:List Addr} {h:Heap} (R:aK W ρ σ h) {C x:Addr} {n:Nat} {fs:List (Str×AV)} (hv:VR W.hid ρ h (.inst C n) (.ref x)) (e:σ[n]? = some (.inst fs)):HA W ρ h C x n fs:=by
 cases hv with | @inst _ _ _ dx e1 e2 =>
 refine aG λ Ga ka=>?_
 obtain ⟨a,ob,q1,q2,ds,m,q3,q4⟩:=R.objs n _ e
 refine ka ?_
 clear ka
 rw [e1] at q1; cases q1; subst q3
 exact ⟨dx,ds,m,e1,e2,q2,q4,⟨e2,rfl,rfl,q2⟩⟩
noncomputable def dR:AV→Bool
 | .cst v=>handedIn v
 | _=>true
theorem zj {X ρ:List Addr} {h:Heap} {a:AV} {v:Value} (hv:VR X ρ h a v) (e:dR a=true):handedIn v=true:=by
 cases hv<;>first | rfl | exact e
noncomputable def xV (W:Wl) (C:Addr) (name:Str):Bool:=plainGet W.K C name&&hasDictIn W.K C&&(findIn W.K (.ref C) name).any λ attr=>noGet W.K attr
def gQ (W:Wl) (d:Nat) (a:AV) (name:Str) (σ:List AO) (Q:AV→List AO→Prop):Prop :=
 ∀ A s ρ v ex,Rm d A→aK W ρ σ s.heap→VR W.hid ρ s.heap a v→wpAny W.M A (getAttr v name ex) (λ r s'=>Post W [] ρ s (QV W Q r) s') lQ s
theorem gQ.field (O:W.Ok) {C:Addr} {n:Nat} {name:Str} {fs:List (Str×AV)} {a:AV} {Q:AV→List AO→Prop} (e:σ[n]? = some (.inst fs)) (ea:fs.lookup name=some a) (hf:xV W C name=true) (hh:dR a=true)
 (q:Q a σ):gQ W d (.inst C n) name σ Q:=λ A s ρ v ex hr R hv=>by
 obtain ⟨x,rfl⟩:∃ x,v=.ref x:=by refine VR.lP hv λ _ _ _ _=>?_; exact ⟨_,rfl⟩
 obtain ⟨dx,ds,m,e1,e2,e3,fr,I⟩:=ql R hv e
 unfold xV at hf
 rw [Bool.and_eq_true,Bool.and_eq_true] at hf
 obtain ⟨⟨h1,h2⟩,h3⟩:=hf
 obtain ⟨attr,h4,h5⟩:=any_some h3
 obtain ⟨w,q1,q2⟩:=fr.getL.1 a ea
 exact get_value (R.qM O) I (plainGet_of h1).1 (findObj_own h2 h4 h5 q1) (zj q2 hh) (Post.here R ⟨a,q2,q⟩ _)
theorem cI.fn (O:W.Ok) {C:Addr} {n:Nat} {name:Str} {fs:List (Str×AV)} {f:Addr} {Q:AV→List AV→List AO→Prop} (e:σ[n]? = some (.inst fs)) (ea:fs.lookup name=none)
 (hf:findIn W.K (.ref C) name=some (some (.ref f))) (hk:(plainGet W.K C name&&isFn W.K (.ref f)&&keepIn W.K (.ref f))=true) (q:Q (.cst (.ref f)) [.inst C n] σ):cI W d (.inst C n) name σ Q:=λ A s ρ v pl hr R hv=>by
 obtain ⟨x,rfl⟩:∃ x,v=.ref x:=by refine VR.lP hv λ _ _ _ _=>?_; exact ⟨_,rfl⟩
 obtain ⟨dx,ds,m,e1,e2,e3,fr,I⟩:=ql R hv e
 rw [Bool.and_eq_true,Bool.and_eq_true] at hk
 obtain ⟨⟨h1,h2⟩,h3⟩:=hk
 refine method_fn (R.qM O) I (plainGet_of h1).1 (plainGet_of h1).2 hf (beq_iff_eq.mp h2) ?_ (Post.here R ⟨_,_,.cst _,.cons hv .nil,cN.ref h3,q⟩ s.toks)
 show (lookIn name (dictOf ds m)).map _=_
 rw [lookIn_dict,fr.getL.2 ea]; rfl
theorem wL {α β:Type} {o:Option α} {f:α→Option β} {a:α} {b:Option β} (h:o=some a) (k:f a=b):o.bind f=b:=by rw [h]; exact k
theorem cI.static (O:W.Ok) {C:Addr} {n:Nat} {name:Str} {fs:List (Str×AV)} {f:Value} {p:Addr} {rest:List Value} {Q:AV→List AV→List AO→Prop} (e:σ[n]? = some (.inst fs)) (ea:fs.lookup name=none)
 (hf:findIn W.K (.ref C) name=some (some (.ref p))) (hp:recIn W.K p "staticmethod" = some (f :: rest))
 (hk:(plainGet W.K C name&&hasDictIn W.K C&&keepIn W.K f&&handedIn f&&!copiedNames.contains name&&(takesIn W.K (.ref p)==some false)&&(specialIn W.K (.ref p) "__get__" == some (some (.builtin "staticmethod.__get__")))
  && (typeIn W.K (.ref p)).any λ t=>t != .type "function" && t != .type "method_descriptor" && t != .type "wrapper_descriptor")=true)
 (hkf:cN W (.cst f)) (q:Q (.cst f) [] σ):cI W d (.inst C n) name σ Q:=λ A s ρ v pl hr R hv=>by
 obtain ⟨x,rfl⟩:∃ x,v=.ref x:=by refine VR.lP hv λ _ _ _ _=>?_; exact ⟨_,rfl⟩
 obtain ⟨dx,ds,m,e1,e2,e3,fr,I⟩:=ql R hv e
 simp only [Bool.and_eq_true,Bool.not_eq_true',beq_iff_eq] at hk
 refine aG λ Ga ka=>?_
 obtain ⟨⟨⟨⟨⟨⟨⟨h1,h2⟩,h3⟩,h4⟩,h5⟩,h6⟩,h7⟩,h8⟩:=hk
 refine ka ?_
 clear ka
 have X:=R.qM O
 refine method_usual X I (plainGet_of h1).1 (plainGet_of h1).2 hf (by simpa using h8) ?_
 obtain ⟨cd,hc,hd'⟩:=any_some h2
 have hfo:findObj W.K C (some (dictOf ds m)) name=some (.bind (.builtin "staticmethod.__get__") (.ref p)):=by
  have ho:PySem.W.ownOf cd (some (dictOf ds m)) name=some none:=by unfold PySem.W.ownOf; rw [if_pos hd']; exact fr.getL.2 ea
  exact wL hc (wL hf (wL h7 (wL h6 (wL ho (by show (if (copiedNames.contains name&&_)=true then _ else _)=_; rw [h5]; rfl)))))
 refine get_bind X I (plainGet_of h1).1 hfo (plainGet_of h1).2 (wpAny_call (sm_get (s:={ s with toks:=s.toks+1 }) X hp ?_))
 exact handed_on h4 (Post.here R ⟨_,_,.cst _,.nil,hkf,q⟩ _)
theorem gQ.g7 (O:W.Ok) {C:Addr} {n:Nat} {name:Str} {fs:List (Str×AV)} {f:Addr} {Q:AV→List AO→Prop} (e:σ[n]? = some (.inst fs)) (ea:fs.lookup name=none)
 (hf:findIn W.K (.ref C) name=some (some (.ref f)))
 (hk:(plainGet W.K C name&&hasDictIn W.K C&&isFn W.K (.ref f)&&!copiedNames.contains name&&(takesIn W.K (.ref f)==some false)&&(specialIn W.K (.ref f) "__get__" == some (some (.builtin "function.__get__"))))=true)
 (q:Q (.g7 f (.inst C n)) σ):gQ W d (.inst C n) name σ Q:=λ A s ρ v ex hr R hv=>by
 obtain ⟨x,rfl⟩:∃ x,v=.ref x:=by refine VR.lP hv λ _ _ _ _=>?_; exact ⟨_,rfl⟩
 obtain ⟨dx,ds,m,e1,e2,e3,fr,I⟩:=ql R hv e
 simp only [Bool.and_eq_true,Bool.not_eq_true',beq_iff_eq] at hk
 obtain ⟨⟨⟨⟨⟨h1,h2⟩,h3⟩,h5⟩,h6⟩,h7⟩:=hk
 have X:=R.qM O
 refine aG λ Ga ka=>?_
 obtain ⟨cd,hc,hd'⟩:=any_some h2
 refine ka ?_
 clear ka
 have hfo:findObj W.K C (some (dictOf ds m)) name=some (.bind (.builtin "function.__get__") (.ref f)):=by
  have ho:PySem.W.ownOf cd (some (dictOf ds m)) name=some none:=by unfold PySem.W.ownOf; rw [if_pos hd']; exact fr.getL.2 ea
  exact wL hc (wL hf (wL h7 (wL h6 (wL ho (by show (if (copiedNames.contains name&&_)=true then _ else _)=_; rw [h5]; rfl)))))
 refine get_bind X I (plainGet_of h1).1 hfo (plainGet_of h1).2 (wpAny_call (fn_get (s:={ s with toks:=s.toks+1 }) X (beq_iff_eq.mp h3) ?_))
 refine handed_on rfl (rW R (methodObj (.ref f) (.ref x)) ⟨_,.g7 (Heap.get?_push_size _ rfl) ?_,q⟩ _)
 have:=hv.mono (δ:=[]) R.muts (.push _ s.heap (methodObj (.ref f) (.ref x)))
 rwa [List.append_nil] at this
theorem ai.g7 {f:Addr} {a:AV} {as:List AV} {Q:AV→List AO→Prop} (h:ai W d (.cst (.ref f)) (a :: as) σ Q):ai W d (.g7 f a) as σ Q:=λ A s ρ fv vs hr R hf hv=>by
 refine hf.Dl λ p v e va=>?_
 exact method_call e (h A s ρ (.ref f) (v :: vs) hr R (.cst _) (.cons va hv))
end
theorem xj {α:Type} {l:List α} (nd:l.Nodup) {m n:Nat} {a:α} (h1:l[m]? = some a) (h2:l[n]? = some a):m=n:=by
 obtain ⟨h1,e1⟩:=List.getElem?_eq_some_iff.mp h1
 obtain ⟨h2,e2⟩:=List.getElem?_eq_some_iff.mp h2
 exact (List.getElem_inj nd).mp (e1.trans e2.symm)
section
variable {W:Wl} {d:Nat} {env:Env} {η:En} {σ:List AO}
theorem aK.upd {ρ:List Addr} {h h':Heap} (R:aK W ρ σ h) {n:Nat} {a:Addr} {o':AO} {A7:Obj} (e:ρ[n]? = some a) (hs:Heap.SameBut a h h') (hg:h'.get? a=some A7) (ho:OR W.hid ρ h' o' A7) {t:AO} (ht:σ[n]? = some t) (hn:t.Hu=false):aK W ρ (σ.set n o') h':=by
 have hm:a∈ρ:=List.mem_of_getElem? e
 have P:aJ ρ h h':=.sameBut hs hm
 refine ⟨λ b o q=>(hs.2 b λ z=>?_).trans (R.base b o q),R.fresh,by rw [List.length_set]; exact R.len,R.nodup,λ b hb=>Nat.lt_of_lt_of_le (R.qy b hb) P.size,λ m o q=>?_,λ q hq=>?_⟩
 · have:=R.fresh a hm
   rw [z] at q
   have q':=q
   rw [this] at q'; exact aT q'
 · rw [List.getElem?_set] at q
   by_cases hmn:n=m
   · subst hmn
     rw [if_pos rfl] at q
     split at q
     · refine sE q ?_; exact ⟨a,A7,e,hg,ho⟩
     · exact aT q
   · rw [if_neg hmn] at q
     obtain ⟨b,ob,e1,e2,r⟩:=R.objs m o q
     have hb:b≠a:=λ z=>hmn (xj R.nodup e (z▸e1))
     have:=r.mono (δ:=[]) R.muts P
     rw [List.append_nil] at this
     exact ⟨b,ob,e1,(hs.2 b hb).trans e2,this⟩
 · obtain ⟨m,e1,e2⟩:=R.tabs q hq
   refine ⟨m,e1,?_⟩
   rw [List.getElem?_set,if_neg λ z=>?_]
   · exact e2
   · rw [z,e2] at ht
     cases ht
     exact cS hn.symm
theorem ue {S ρ:List Addr} {s:Shared} {h':Heap} (R:aK W ρ σ s.heap) {n:Nat} {a:Addr} {o':AO} {A7:Obj} {Q:List Addr→List AO→Heap→Prop} (e:ρ[n]? = some a) (hs:Heap.SameBut a s.heap h') (hg:h'.get? a=some A7)
 (ho:OR W.hid ρ h' o' A7) {t:AO} (ht:σ[n]? = some t) (hn:t.Hu=false) (tk:Nat) (q:Q ρ (σ.set n o') h'):Post W S ρ s Q { s with heap:=h',toks:=tk } :=
 ⟨h',tk,[],σ.set n o',rfl,(.sameBut hs (List.mem_append_right _ (List.mem_of_getElem? e))),(λ _ h=>nomatch h),by rw [List.append_nil]; exact R.upd e hs hg ho ht hn,by rw [List.append_nil]; exact q⟩
noncomputable def aO (x:Str) (v:AV):List (Str×AV)→List (Str×AV)
 | []=>[(x,v)]
 | (y,a) :: r=>if y==x then (y,v) :: r else (y,a) :: aO x v r
theorem w7.put {X ρ:List Addr} {h:Heap} {x:Str} {v:AV} {w:Value} {hsh:Int} {tk:Tok} (hv:VR X ρ h v w):∀ {fs:List (Str×AV)} {ds:List DictEntry},w7 X ρ h fs ds→w7 X ρ h (aO x v fs) (putL x hsh (.str x tk) w ds)
 | _,_,.nil=>.cons ⟨tk,rfl⟩ hv .nil
 | _,_,.cons (x:=y) (e:=e) (es:=es) (fs:=fs) ⟨t,hk⟩ hu r=>by
  have hs:e.key.isStr x=(y==x):=by rw [hk]; rfl
  unfold aO putL
  rw [hs]
  cases hx:y==x with
  | true=>exact .cons ⟨t,hk⟩ hv r
  | false=>exact .cons ⟨t,hk⟩ hu (r.put hv)
theorem w7.len {X ρ:List Addr} {h:Heap}:∀ {fs:List (Str×AV)} {ds:List DictEntry},w7 X ρ h fs ds→ds.length=fs.length:=λ x=>by
 induction x with
 | nil=>rfl
 | cons _ _ _ ih=>exact congrArg (· + 1) ih
theorem w7.plain {X ρ:List Addr} {h:Heap} {x:Str}:∀ {fs:List (Str×AV)} {ds:List DictEntry},w7 X ρ h fs ds→ds.any (·.refKey)=false:=λ x=>by
 induction x with
 | nil=>rfl
 | cons q _ _ ih=>obtain ⟨t,hk⟩:=q; rw [List.any_cons,ih]; unfold DictEntry.refKey; rw [hk]; rfl
def wM (W:Wl) (d:Nat) (a:AV) (name:Str) (v:AV) (σ:List AO) (Q:List AO→Prop):Prop :=
 ∀ A s ρ ov w,Rm d A→aK W ρ σ s.heap→VR W.hid ρ s.heap a ov→VR W.hid ρ s.heap v w→wpAny W.M A (setAttr ov name w) (λ _ s'=>Post W [] ρ s (λ _ σ' _=>Q σ') s') lQ s
noncomputable def setOk (K:Frag) (C:Addr) (name:Str):Bool:=(findIn K (.ref C) "__setattr__" == some (some (.builtin "object.__setattr__")))&&plainOver K C&&(takerIn K C name==some none)&&(clsIn K C).any (·.hasDict)
theorem wM.field (O:W.Ok) {C:Addr} {n:Nat} {name:Str} {v:AV} {fs:List (Str×AV)} {Q:List AO→Prop} (e:σ[n]? = some (.inst fs)) (hk:setOk W.K C name=true) (hz:(aO name v fs).length≤1000) (q:Q (σ.set n (.inst (aO name v fs)))) :
 wM W d (.inst C n) name v σ Q:=λ A s ρ ov w hr R hov hv=>by
 obtain ⟨x,rfl⟩:∃ x,ov=.ref x:=by refine VR.lP hov λ _ _ _ _=>?_; exact ⟨_,rfl⟩
 obtain ⟨dx,ds,m,e1,e2,e3,fr,I⟩:=ql R hov e
 unfold setOk at hk
 simp only [Bool.and_eq_true,beq_iff_eq] at hk
 obtain ⟨⟨⟨h1,h2⟩,h3⟩,h4⟩:=hk
 have X:=R.qM O
 refine set_plain X I h1 ?_
 refine osa_open (s:={ s with toks:=s.toks+1 }) X I h2 h3 λ b=>?_
 obtain ⟨cd,hc,hd'⟩:=any_some h4
 refine wpAny_bind (wpAny_pure (wpAny_bind (wpAny_bind (wpAny_loadPart e2 (wpAny_bind (looks_clsIn X hc _ _ _ _ (λ _ _ e=>e) ?_))))))
 rw [hd']
 refine wpAny_pure (a:=some dx) (wpAny_bind (wpAny_pure (wpAny_bind ?_)))
 unfold nsSet
 refine wpAny_bind (wpAny_bind (wpAny_askSetting (wpAny_pure (wpAny_bind (wpAny_mkText (wpAny_bind (wpAny_loadPart e3 ?_)))))))
 have c:(!ds.toArray.any (·.key.isStr name)&&ds.toArray.any (·.refKey))=false:=by
  rw [← Array.any_toList,← Array.any_toList]
  show (_&&ds.any (·.refKey))=false
  rw [fr.plain (x:=name),Bool.and_false]
 dsimp only
 rw [aRefKeyMayBeTheName_at,c]
 refine wpAny_updatePart e3 ?_
 have S:=Heap.SameBut.update s.heap dx (Obj.putName name (PyData.keyHash W.w.params name) (.str name (s.toks+1)) w)
 have G:=Heap.get?_update_self (Obj.putName name (PyData.keyHash W.w.params name) (.str name (s.toks+1)) w) e3 (by rw [putName_dict]; rfl)
 rw [putName_dict] at G
 have hm:dx∈ρ:=List.mem_of_getElem? e1
 have P:aJ ρ s.heap (s.heap.update dx (Obj.putName name (PyData.keyHash W.w.params name) (.str name (s.toks+1)) w)):=.sameBut S hm
 have RC:=fr.put (x:=name) (hsh:=PyData.keyHash W.w.params name) (tk:=s.toks+1) hv
 have My:=RC.mono (δ:=[]) R.muts P
 rw [List.append_nil] at My
 refine wpAny_bind (wpAny_lookBehind G ?_ ?_)
 · refine pastItsLine_dict ?_
   rw [List.size_toArray,sizeLine_eq,RC.len]; exact Lq.bZ (Lq.bZ hz (by decide)) (Lq.nr _ _)
 · exact wpAny_pure (ue (s:=s) (o':=.inst (aO name v fs)) R e1 S G ⟨_,_,rfl,My⟩ e rfl _ q)
theorem cM.setattr {o value:Expr} {name:Str} {pos' pos:Pos} {Q:Fl→En→List AO→Prop} (hs:swapsWith value (some (.Attribute o name pos')) pos.line env=pure false)
 (h:aW W d env value η σ λ v aa=>aW W d env o η aa λ a aj=>wM W d a name v aj λ aE=>Q .next η aE):cM W d env (.Assign [.Attribute o name pos'] value pos) η σ Q:=λ A s ρ hr R F=>by
 refine plainObj_wpAny_Assign_Attribute (aQ (h A s ρ hr R F) λ w h₁ tk₁ δ aa p f R₁ ⟨v,hv,q⟩=>?_) hs
 have gK:=F.mono R.muts p f
 refine aQ (q A _ _ hr R₁ gK) λ ov br bB δ₂ aj aZ bQ R₂ ⟨a,ha,dG⟩=>?_
 have F₂:=gK.mono R₁.muts aZ bQ
 refine aQ (Q₁:=λ _ _ σ' _=>Q .next η σ') (dG A _ _ _ _ hr R₂ ha (hv.mono R₁.muts aZ)) λ _ fE cz δ₃ aE fF f₃ R₃ fV=>?_
 have F₃:=F₂.mono R₂.muts fF f₃
 refine Post.A5 (Post.chain p f (Post.chain (s:={ s with heap:=h₁,toks:=tk₁ }) aZ bQ (Post.chain (s:={ s with heap:=br,toks:=bB }) (tk₁:=cz) fF f₃ ?_)))
 exact Post.here (s:={ s with heap:=fE,toks:=cz }) R₃ ⟨.next,η,F₃,.next,fV⟩ cz
theorem Dq {A:Around} (hr:Rm (d+1) A) {C:Addr} {vs:List Value}:Rm d (A.under (.builtin "type.__call__" ⟨.ref C :: vs,[]⟩)):=by
 have hd:(A.under (.builtin "type.__call__" ⟨.ref C :: vs,[]⟩)).depth=A.depth+1:=rfl
 have hu:(A.under (.builtin "type.__call__" ⟨.ref C :: vs,[]⟩)).units=A.units+1:=rfl
 refine ⟨hr.handled,?_,?_⟩
 · rw [hd]; have:=hr.depth; lia
 · rw [hu]; have:=hr.units; lia
noncomputable def Mz (K:Frag) (C fI:Addr):Bool:=makesIn K C&&(findIn K (.ref C) "__init__" == some (some (.ref fI)))&&(typeIn K (.ref fI)==some (.type "function"))
theorem ai.make (O:W.Ok) {C fI:Addr} {as:List AV} {Q:AV→List AO→Prop} (hk:Mz W.K C fI=true)
 (h:ai W d (.cst (.ref fI)) (.inst C σ.length :: as) (σ++[.inst []]) λ v σ'=>v=.none∧Q (.inst C σ.length) σ'):ai W (d+1) (.cst (.ref C)) as σ Q:=λ A s ρ fv vs hr R hf hv=>by
 refine VR.bh hf ?_
 unfold Mz at hk
 simp only [Bool.and_eq_true,beq_iff_eq] at hk
 obtain ⟨⟨h1,h2⟩,h3⟩:=hk
 have X:=R.qM O
 obtain ⟨hh,g,dr,t,os⟩:=s
 refine make_core (makes_of X h1) (looks_findIn X h2) (λ self=>bind_fn X self h3) (.inl rfl) ?_
 have P1:Post W [] ρ ⟨hh,g,dr,t,os⟩ (λ ρ' σ' h'=>ρ'=ρ++[hh.objs.size]∧σ'=σ++[.inst []]∧h'=(hh.push emptyDict)) ⟨hh.push emptyDict,g,dr,t,os⟩:=lS (s:=⟨hh,g,dr,t,os⟩) R (.inst []) emptyDict rfl ⟨[],0,rfl,.nil⟩ ⟨rfl,rfl,rfl⟩ t
 obtain ⟨_,_,δ,aa,e,p,f,R₁,e1,e2,e3⟩:=P1
 cases e
 subst e2
 have hδ:δ=[hh.objs.size]:=List.append_cancel_left e1
 subst hδ
 have R₂:=R₁.keeps (.push _ _ (instObj C hh.objs.size))
 have yM:aJ (ρ++[hh.objs.size]) (hh.push emptyDict) ((hh.push emptyDict).push (instObj C hh.objs.size)):=.push _ _ _
 have P':aJ ρ hh ((hh.push emptyDict).push (instObj C hh.objs.size)):=aJ.trans p f yM
 have vi:VR W.hid (ρ++[hh.objs.size]) ((hh.push emptyDict).push (instObj C hh.objs.size)) (.inst C σ.length) (.ref (hh.objs.size+1)):=by
  refine .inst (dx:=hh.objs.size) ?_ ?_
  · rw [List.getElem?_append_right (by rw [R.len]; exact Nat.le_refl _),R.len,Nat.sub_self]; rfl
  · have:=Heap.get?_push_size (hh.push emptyDict) (o:=instObj C hh.objs.size) rfl
    rwa [Heap.size_push] at this
 refine codeAny_mono (h _ _ _ _ _ (Dq hr) R₂ (.cst _) (.cons vi (hv.mono R.muts P'))) λ r s' z=>?_
 cases r with
 | error e=>exact z.elim
 | ok f =>
 cases f with
 | next=>exact z.elim
 | brk=>exact z.elim
 | cont=>exact z.elim
 | ret v =>
 obtain ⟨fE,cz,δ₃,aE,t6,fF,f₃,R₃,av,xm,rfl,q⟩:=z
 have hv0:v=.none:=by refine VR.xS xm ?_; rfl
 have MA:=vi.mono (δ:=δ₃) R₂.muts fF
 refine ⟨hv0,?_⟩
 refine Post.chain (s:=⟨hh,g,dr,t,os⟩) (δ:=[hh.objs.size]) (tk₁:=t) (h₁:=(hh.push emptyDict).push (instObj C hh.objs.size)) P' f ?_
 exact ⟨fE,cz,δ₃,aE,t6,fF,f₃,R₃,_,MA,q⟩
end
section
variable {W:Wl} {d:Nat} {env:Env} {η:En} {σ:List AO}
theorem VR.one {X ρ:List Addr} {h h':Heap} {S:List Addr} (M:b7 X h S) (P:aJ S h h') {a:AV} {v:Value} (x:VR X ρ h a v):VR X ρ h' a v:=by
 have:=x.mono (δ:=[]) M P; rwa [List.append_nil] at this
theorem bA.one {X ρ:List Addr} {h h':Heap} {S:List Addr} (M:b7 X h S) (P:aJ S h h') {a:List AV} {v:List Value} (x:bA X ρ h a v):bA X ρ h' a v:=by
 have:=x.mono (δ:=[]) M P; rwa [List.append_nil] at this
theorem cI.append {n:Nat} {xs:List AV} {Q:AV→List AV→List AO→Prop} (e:σ[n]? = some (.lst xs)) (q:Q (.cst (.builtin "list.append")) [.lst n] σ):cI W d (.lst n) "append" σ Q:=λ A s ρ v pl hr R hv=>by
 refine hv.gP λ _ ea=>?_
 obtain ⟨ws,m,e2,v⟩:=aP R e ea
 exact Calls.getMethod_list_append e2 rfl rfl (Post.here R ⟨_,_,.cst _,.cons (.lst ea) .nil,cN.builtin,q⟩ s.toks)
theorem aq.append {n:Nat} {xs:List AV} {x:AV} {Q:AV→List AO→Prop} (e:σ[n]? = some (.lst xs)) (hz:xs.length≤1000000) (q:Q .none (σ.set n (.lst (xs++[x])))):aq W d (.cst (.builtin "list.append")) [.lst n,x] σ Q:=λ A s ρ f vs hr R hf hv=>by
 refine VR.bh hf ?_
 refine hv.ao λ _ _ hl hv=>?_
 refine hv.ao λ _ _ hx hv=>?_
 cases hv
 cases hl with | @lst _ a ea =>
 obtain ⟨ws,m,e2,v⟩:=aP R e ea
 refine append_at (n:=m) (its:=ws.toArray) e2 (λ h' hs hg=>?_) (by rw [List.size_toArray,v.length,sizeLine_eq]; exact Lq.bZ hz (by decide))
 have P:aJ ρ s.heap h':=.sameBut hs (List.mem_of_getElem? ea)
 rename_i w
 refine ue (s:=s) (o':=.lst (xs++[x])) R ea hs hg ⟨ws++[w],m+1,by simp,?_⟩ e rfl s.toks ⟨_,.none,q⟩
 exact (v.one R.muts P).append (.cons (hx.one R.muts P) .nil)
def g8 (W:Wl) (d:Nat) (a b:AV) (σ:List AO) (Q:AV→List AO→Prop):Prop :=
 ∀ A s ρ x y value slice,Rm d A→aK W ρ σ s.heap→VR W.hid ρ s.heap a x→VR W.hid ρ s.heap b y→(∀ p q,subscripted slice false p q=operate [p,q] (getItem p q))→wpAny W.M A (subscriptTail value slice x y) (λ v s'=>Post W [] ρ s (QV W Q v) s') lQ s
theorem aW.sub {value slice:Expr} {pos:Pos} {Q:AV→List AO→Prop} (hs:∀ p q,subscripted slice false p q=operate [p,q] (getItem p q))
 (h:aW W d env value η σ λ a aa=>aW W d env slice η aa λ b aj=>g8 W d a b aj Q):aW W d env (.Subscript value slice pos) η σ Q:=λ A s ρ hr R F=>by
 refine Subscript_ (aQ (h A s ρ hr R F) λ x h₁ tk₁ δ aa p f R₁ ⟨a,va,q⟩=>?_)
 refine aQ (q A _ _ hr R₁ (F.mono R.muts p f)) λ y br bB δ₂ aj aZ bQ R₂ ⟨b,vb,dG⟩=>?_
 refine ic (dG A _ _ _ _ value slice hr R₂ (va.mono R₁.muts aZ) vb hs) λ v sJ z=>?_
 exact Post.chain p f (Post.chain (s:={ s with heap:=h₁,toks:=tk₁ }) aZ bQ z)
theorem g8.list {n:Nat} {xs:List AV} {k:Int} {x:AV} {Q:AV→List AO→Prop} (e:σ[n]? = some (.lst xs)) (h0:0≤k) (hx:xs[k.toNat]? = some x) (hz:k<1000000) (q:Q x σ):g8 W d (.lst n) (.int k) σ Q:=λ A s ρ o i value slice hr R hv hi hs=>by
 refine hv.gP λ a ea=>?_
 refine hi.cL λ t=>?_
 obtain ⟨ws,m,e2,v⟩:=aP R e ea
 obtain ⟨w,ew,vw⟩:=v.get _ hx
 exact item_listR (items:=ws.toArray) ⟨_,e2,rfl,_,rfl⟩ h0 (by lia) (by simpa using ew) (Post.here R ⟨_,vw,q⟩ s.toks) (hs _ _)
theorem g8.tup {xs:List AV} {k:Int} {x:AV} {Q:AV→List AO→Prop} (h0:0≤k) (hx:xs[k.toNat]? = some x) (hz:k<1000000) (q:Q x σ):g8 W d (.tup xs) (.int k) σ Q:=λ A s ρ o i value slice hr R hv hi hs=>by
 refine hv.A3 λ ws a m ea hxx v=>?_
 refine hi.cL λ t=>?_
 obtain ⟨w,ew,vw⟩:=v.get _ hx
 have ht:IsTup s.heap a ws.toArray:=⟨_,ea,rfl,_,rfl⟩
 refine subscriptTail_builtinR (x:=w) ht.typeIs slot_tuple_getitem.lookup (getItem_tuple (j:=k.toNat) ht (by lia) (by lia) ?_ (by simpa using ew) ⟨rfl,Post.here R ⟨_,vw,q⟩ s.toks⟩) (hs _ _)
 have:k.toNat<ws.length:=(List.getElem?_eq_some_iff.mp ew).1
 unfold seqIndex?
 rw [List.size_toArray]
 simp only [if_neg (Int.not_lt.mpr h0)]
 rw [if_pos (by simp; lia)]
def ly (W:Wl) (d:Nat) (a b c:AV) (σ:List AO) (Q:List AO→Prop):Prop :=
 ∀ A s ρ x y z,Rm d A→aK W ρ σ s.heap→VR W.hid ρ s.heap a x→VR W.hid ρ s.heap b y→VR W.hid ρ s.heap c z→wpAny W.M A (setItem x y z) (λ _ s'=>Post W [] ρ s (λ _ σ' _=>Q σ') s') lQ s
theorem cM.F1 {o i value:Expr} {pos' pos:Pos} {Q:Fl→En→List AO→Prop} (hs:swapsWith value (some (.Subscript o i pos')) pos.line env=pure false)
 (h:aW W d env value η σ λ v aa=>aW W d env o η aa λ a aj=>aW W d env i η aj λ b aE=>ly W d a b v aE λ cH=>Q .next η cH):cM W d env (.Assign [.Subscript o i pos'] value pos) η σ Q:=λ A s ρ hr R F=>by
 refine wpAny_Assign_Subscript (aQ (h A s ρ hr R F) λ w h₁ tk₁ δ aa p f R₁ ⟨v,hv,q⟩=>?_) hs
 have gK:=F.mono R.muts p f
 refine aQ (q A _ _ hr R₁ gK) λ ov br bB δ₂ aj aZ bQ R₂ ⟨a,ha,dG⟩=>?_
 have F₂:=gK.mono R₁.muts aZ bQ
 refine aQ (dG A _ _ hr R₂ F₂) λ iv fE cz δ₃ aE fF f₃ R₃ ⟨b,hb,fV⟩=>?_
 have F₃:=F₂.mono R₂.muts fF f₃
 refine aQ (Q₁:=λ _ _ σ' _=>Q .next η σ') (fV A _ _ _ _ _ hr R₃ (ha.mono R₂.muts fF) hb ((hv.mono R₁.muts aZ).mono R₂.muts fF)) λ _ qf tT δ₄ cH p₄ f₄ R₄ q₄=>?_
 have F₄:=F₃.mono R₃.muts p₄ f₄
 refine Post.A5 (Post.chain p f (Post.chain (s:={ s with heap:=h₁,toks:=tk₁ }) aZ bQ (Post.chain (s:={ s with heap:=br,toks:=bB }) (tk₁:=cz) fF f₃ (Post.chain (s:={ s with heap:=fE,toks:=cz }) (tk₁:=tT) p₄ f₄ ?_))))
 exact Post.here (s:={ s with heap:=qf,toks:=tT }) R₄ ⟨.next,η,F₄,.next,q₄⟩ tT
theorem bA.set {X ρ:List Addr} {h:Heap}:∀ {as:List AV} {vs:List Value} (i:Nat) {a:AV} {v:Value},bA X ρ h as vs→VR X ρ h a v→bA X ρ h (as.set i a) (vs.set i v)
 | _,_,_,_,_,.nil,_=>.nil
 | _,_,0,_,_,.cons x r,y=>.cons y r
 | _,_,i+1,_,_,.cons x r,y=>.cons x (r.set i y)
theorem Jx {prog:Program} {w:World} {A:Around} {E:Value→Shared→Prop} {s:Shared} {D:Addr} {its:Array Value} {n:Nat} {k:Int} {t:Tok} {v:Value} {Q:Unit→Shared→Prop} (ho:s.heap.get? D=some ({ cls:=.type "list",data:=.seq its n }:Obj))
 (h0:0≤k) (hfit:k<2^63) (hj:k.toNat<its.size) (h:∀ h' m,Heap.SameBut D s.heap h'→h'.get? D=some ({ cls:=.type "list",data:=.seq (its.setIfInBounds k.toNat v) m }:Obj)→Q () { s with heap:=h' }) :
 wpAny (model prog w) A (setItem (.ref D) (.int k t) v) Q E s:=by
 have hT:s.TypeIs (.ref D) "list" := ⟨_,ho,rfl⟩
 unfold setItem
 refine wpAny_holding (wpAny_bind ?_)
 refine wpAny_sequenceKey hT (by decide) ?_
 refine wpAny_bind ?_
 refine wpAny_callSpecial?_slot (name:=Str.ofString "__setitem__") hT slot_list_setitem ?_
 refine wpAny_call_entry slot_list_setitem hT entry_list_setitem ?_ (args_list_setitem _ _ _)
 show wpAny _ _ (Builtin.List.listSubscript? (.int k t) >>= _) _ _ s
 refine wpAny_bind (wpAny_listSubscript_int (fitsIndex_of h0 hfit) ?_)
 clear hfit
 obtain ⟨j,rfl⟩:=Int.eq_ofNat_of_zero_le h0
 have hj':j<its.size:=hj
 show wpAny _ _ ((seqItemAt D j >>= λ r=>pure (r.map (j,·))) >>= _) _ _ s
 refine wpAny_bind (wpAny_bind (wpAny_seqItemAt ho rfl (wpAny_pure ?_)))
 rw [Array.getElem?_eq_getElem hj']
 obtain ⟨m,hm⟩:∃ m,Obj.mapSeq (·.setIfInBounds j v) ({ cls:=.type "list",data:=.seq its n }:Obj)={ cls:=.type "list",data:=.seq (its.setIfInBounds j v) m }:=⟨_,rfl⟩
 have hg:(s.heap.update D (Obj.mapSeq (·.setIfInBounds j v))).get? D=some ({ cls:=.type "list",data:=.seq (its.setIfInBounds j v) m }:Obj):=by
  rw [Heap.get?_update_self (Obj.mapSeq (·.setIfInBounds j v)) ho (by rw [hm]; rfl),hm]
 have fin:Q () { s with heap:=s.heap.update D (Obj.mapSeq (·.setIfInBounds j v)) }:=h _ _ (Heap.SameBut.update ..) hg
 refine wpAny_bind (wpAny_setSeqItemAt ho rfl ?_)
 exact wpAny_pure ⟨.none,rfl,wpAny_pure fin⟩
theorem ly.list {n:Nat} {xs:List AV} {k:Int} {v:AV} {Q:List AO→Prop} (e:σ[n]? = some (.lst xs)) (h0:0≤k) (hx:k<xs.length) (hz:k<1000000) (q:Q (σ.set n (.lst (xs.set k.toNat v)))):ly W d (.lst n) (.int k) v σ Q:=λ A s ρ o i z hr R hv hi hz'=>by
 refine hv.gP λ a ea=>?_
 refine hi.cL λ t=>?_
 obtain ⟨ws,m,e2,v'⟩:=aP R e ea
 refine Jx (its:=ws.toArray) e2 h0 (by lia) (by rw [List.size_toArray,v'.length]; exact Lq.ts h0 hx) λ h' m' hs hg=>?_
 have P:aJ ρ s.heap h':=.sameBut hs (List.mem_of_getElem? ea)
 refine ue (s:=s) (o':=.lst (xs.set k.toNat v)) R ea hs hg ⟨ws.set k.toNat z,m',by simp,?_⟩ e rfl s.toks q
 exact (v'.one R.muts P).set k.toNat (hz'.one R.muts P)
end
section
variable {W:Wl} {d:Nat} {env:Env} {η:En} {σ:List AO}
inductive tV (X ρ:List Addr) (h:Heap):List (Int×AV)→List (Int×Value)→Prop
 | nil:tV X ρ h [] []
 | cons {i:Int} {a:AV} {v:Value} {es:List (Int×AV)} {kvs:List (Int×Value)}:VR X ρ h a v→tV X ρ h es kvs→tV X ρ h ((i,a) :: es) ((i,v) :: kvs)
theorem zZ.kvs {ρ:List Addr} {h:Heap} {knd:KeyKind W.prog W.w Int} (hk:knd=intKind W.prog W.w) {es:List (Int×AV)} {ds:List DictEntry} (r:zZ W.hid ρ h es ds):∃ kvs,tV W.hid ρ h es kvs∧(∀ e∈ds,∃ k,knd.is k e.key=true∧e.hash=knd.hash k)∧Pairs knd ds kvs:=by
 induction r with
 | nil=>exact ⟨[],.nil,(λ _ h=>nomatch h),.nil⟩
 | @cons i a fs e es e1 v r ih =>
  obtain ⟨⟨t,e1⟩,e2⟩:=e1
  obtain ⟨kvs,a,b,c⟩:=ih
  have hi:knd.is i e.key=true:=by rw [hk,e1]; exact decide_eq_true rfl
  refine ⟨(i,e.val) :: kvs,.cons v a,λ x hx=>?_,.cons hi rfl c⟩
  rcases List.mem_cons.mp hx with rfl | hx
  · exact ⟨i,hi,by rw [hk]; exact e2⟩
  · exact b x hx
theorem zZ.F2 {ρ:List Addr} {h:Heap} {knd:KeyKind W.prog W.w Int} (hk:knd=intKind W.prog W.w) {es:List (Int×AV)} {kvs:List (Int×Value)} (x:tV W.hid ρ h es kvs):∀ {ds:List DictEntry},(∀ e∈ds,∃ k,knd.is k e.key=true∧e.hash=knd.hash k)→Pairs knd ds kvs→zZ W.hid ρ h es ds:=by
 induction x with
 | nil=>intro ds _ p; cases p; exact .nil
 | @cons i a v es kvs hv r ih =>
  intro ds hks p
  cases p with | @cons e _ ds _ h1 h2 p =>
  dsimp only at h1 h2
  refine .cons ?_ (by rw [h2]; exact hv) (ih (λ x hx=>hks x (.tail _ hx)) p)
  obtain ⟨k,q1,q2⟩:=hks _ (.head _)
  have hik:i=k:=knd.inj _ _ _ h1 q1
  subst hik
  rw [hk] at h1 q2
  obtain ⟨t,e1⟩:=Value.isInt_shape (show Value.isInt i e.key=true from h1)
  exact ⟨⟨t,e1⟩,q2⟩
theorem tV.keys {X ρ:List Addr} {h:Heap} {es:List (Int×AV)} {kvs:List (Int×Value)} (x:tV X ρ h es kvs):kvs.map (·.1)=es.map (·.1):=by
 induction x with
 | nil=>rfl
 | cons _ _ ih=>exact congrArg (List.cons _) ih
theorem tV.one {X ρ:List Addr} {h h':Heap} {S:List Addr} (M:b7 X h S) (P:aJ S h h'):∀ {es:List (Int×AV)} {kvs:List (Int×Value)},tV X ρ h es kvs→tV X ρ h' es kvs
 | _,_,.nil=>.nil
 | _,_,.cons v r=>.cons (v.one M P) (r.one M P)
noncomputable def putD (k:Int) (v:AV) (es:List (Int×AV)):List (Int×AV):=if es.any (λ kv=>kv.1=k) then es.map (λ kv=>if kv.1=k then (kv.1,v) else kv) else es++[(k,v)]
theorem tV.append {X ρ:List Addr} {h:Heap}:∀ {es:List (Int×AV)} {kvs:List (Int×Value)} {es':List (Int×AV)} {kvs':List (Int×Value)},tV X ρ h es kvs→tV X ρ h es' kvs'→tV X ρ h (es++es') (kvs++kvs'):=λ x y=>by
 induction x with
 | nil=>exact y
 | cons v r ih=>exact .cons v ih
theorem tV.any {X ρ:List Addr} {h:Heap} {k:Int}:∀ {es:List (Int×AV)} {kvs:List (Int×Value)},tV X ρ h es kvs→es.any (λ kv=>kv.1=k)=kvs.any (λ kv=>kv.1=k):=λ x=>by
 induction x with
 | nil=>rfl
 | cons v r ih=>exact congrArg (_||·) ih
theorem tV.Ab {X ρ:List Addr} {h:Heap} {k:Int} {a:AV} {v:Value} (hv:VR X ρ h a v):∀ {es:List (Int×AV)} {kvs:List (Int×Value)},tV X ρ h es kvs→tV X ρ h (es.map λ kv=>if kv.1=k then (kv.1,a) else kv) (kvs.map λ kv=>if kv.1=k then (kv.1,v) else kv)
 | _,_,.nil=>.nil
 | _,_,.cons (i:=i) u r=>by
  rw [List.map_cons,List.map_cons]
  dsimp only
  by_cases hik:i=k
  · rw [if_pos hik,if_pos hik]; exact .cons hv (r.Ab hv)
  · rw [if_neg hik,if_neg hik]; exact .cons u (r.Ab hv)
theorem tV.stored {X ρ:List Addr} {h:Heap} {k:Int} {a:AV} {v:Value} (hv:VR X ρ h a v) {es:List (Int×AV)} {kvs:List (Int×Value)} (x:tV X ρ h es kvs):tV X ρ h (putD k a es) (PySem.stored kvs k v):=by
 unfold putD PySem.stored
 rw [x.any]
 split
 · exact x.Ab hv
 · exact x.append (.cons hv .nil)
theorem tV.at {X ρ:List Addr} {h:Heap} {k:Int}:∀ {es:List (Int×AV)} {kvs:List (Int×Value)},tV X ρ h es kvs→(∀ a,es.lookup k=some a→∃ v,valueAt kvs k=some v∧VR X ρ h a v)∧(es.lookup k=none→valueAt kvs k=none)
 | _,_,.nil=>⟨λ _ e=>(nomatch e),λ _=>rfl⟩
 | _,_,.cons (i:=i) u r=>by
  obtain ⟨r1,r2⟩:=r.at (k:=k)
  unfold valueAt at r1 r2 ⊢
  rw [List.find?_cons,List.lookup_cons]
  by_cases hik:i=k
  · subst hik
    simp only [beq_self_eq_true,decide_true]
    exact ⟨λ a e=>by refine sE e ?_; exact ⟨_,rfl,u⟩,λ e=>nomatch e⟩
  · have:(k==i)=false:=by rw [beq_eq_false_iff_ne]; exact λ q=>hik q.symm
    rw [this,decide_eq_false hik]
    exact ⟨r1,r2⟩
inductive MB (W:Wl) (ρ:List Addr) (h:Heap) (a:Addr) (es:List (Int×AV)):Prop
 | mk (kvs:List (Int×Value)) (ds:List DictEntry) (m:Nat) (e:h.get? a=some (dictOf ds m)) (l:ds.length=es.length) (r:tV W.hid ρ h es kvs) (D:h.DictOf (intKind W.prog W.w) a kvs):MB W ρ h a es
theorem Ac {ρ:List Addr} {h:Heap} (R:aK W ρ σ h) {n:Nat} {es:List (Int×AV)} (e:σ[n]? = some (.dct es)) {a:Addr} (ea:ρ[n]? = some a):MB W ρ h a es:=by
 obtain ⟨a',ob,e1,e2,ds,m,e3,v,nd⟩:=R.objs n _ e
 rw [ea] at e1; cases e1; subst e3
 obtain ⟨kvs,k1,k2,k3⟩:=v.kvs (W:=W) rfl
 refine ⟨kvs,ds,m,e2,?_,k1,_,ds.toArray,m,e2,⟨rfl,rfl,rfl⟩,rfl,λ x hx=>k2 x (by simpa using hx),k3,by rw [k1.keys]; exact nd⟩
 have:=k3.length
 rw [this]
 have:=congrArg List.length k1.keys
 simpa using this
theorem Jy {ρ:List Addr} {h:Heap} (O:W.Ok) (R:aK W ρ σ h) (hs:W.hb.get? sysModules≠none) {a:Addr} (ha:a∈ρ):(a==sysModules)=false:=by
 rw [beq_eq_false_iff_ne]
 intro q
 exact hs (q▸R.fresh a ha)
theorem aW.MC {pos:Pos} {Q:AV→List AO→Prop} (q:Q (.dct σ.length) (σ++[.dct []])):aW W d env (.Dict [] [] pos) η σ Q:=λ A s ρ hr R F=>by
 refine wpAny_Dict_empty (lS R (.dct []) _ rfl ⟨[],0,rfl,.nil,List.nodup_nil⟩ ⟨_,.dct ?_,q⟩ s.toks)
 rw [List.getElem?_append_right (by rw [R.len]; exact Nat.le_refl _),R.len,Nat.sub_self]; rfl
theorem ly.dct {n:Nat} {es:List (Int×AV)} {k:Int} {v:AV} {Q:List AO→Prop} (e:σ[n]? = some (.dct es)) (hz:es.length≤1000000) (q:Q (σ.set n (.dct (putD k v es)))):ly W d (.dct n) (.int k) v σ Q:=λ A s ρ o i z hr R hv hi hz'=>by
 refine hv.Dk λ a ea=>?_
 refine hi.cL λ t=>?_
 obtain ⟨kvs,ds,m,e2,hl,k1,k2⟩:=Ac R e ea
 have hlen:kvs.length=es.length:=by have:=congrArg List.length k1.keys; simpa using this
 refine wpAny_setItem_pairs (knd:=intKind W.prog W.w) (k:=k) (by exact decide_eq_true rfl) k2 (λ h' hd hs=>?_) (by rw [hlen,sizeLine_eq]; exact Lq.bZ hz (by decide))
 have P:aJ ρ s.heap h':=.sameBut hs (List.mem_of_getElem? ea)
 obtain ⟨⟨oc,od,UL,osl⟩,es',ep,ho,⟨c1,c2,c3⟩,hd',hk',OX,hn'⟩:=hd
 dsimp only at c1 c2 c3 hd'
 subst c1 c2 c3 hd'
 have K6:=(k1.one R.muts P).stored (k:=k) (hz'.one R.muts P)
 refine ue (s:=s) (o':=.dct (putD k v es)) R ea hs ho ⟨es'.toList,ep,rfl,?_,?_⟩ e rfl _ q
 · exact zZ.F2 (W:=W) rfl K6 (λ x hx=>hk' x (by simpa using hx)) OX
 · rw [← K6.keys]; exact hn'
theorem cI.Jz {n:Nat} {es:List (Int×AV)} {Q:AV→List AV→List AO→Prop} (e:σ[n]? = some (.dct es)) (q:Q (.cst (.builtin "dict.get")) [.dct n] σ):cI W d (.dct n) "get" σ Q:=λ A s ρ v pl hr R hv=>by
 refine hv.Dk λ a ea=>?_
 obtain ⟨kvs,ds,m,e2,hl,k1,k2⟩:=Ac R e ea
 exact getMethod_builtin k2.typeIs PySem.F.plainAttrs_dict PySem.F.slot_dict_get PySem.F.type_dict_get k2.mapOf.noDict (Post.here R ⟨_,_,.cst _,.cons (.dct ea) .nil,cN.builtin,q⟩ s.toks)
theorem aq.Jz (O:W.Ok) (hsys:W.hb.get? sysModules≠none) {n:Nat} {es:List (Int×AV)} {k:Int} {x:AV} {Q:AV→List AO→Prop} (e:σ[n]? = some (.dct es)) (q:Q ((es.lookup k).getD x) σ):aq W d (.cst (.builtin "dict.get")) [.dct n,.int k,x] σ Q:=λ A s ρ f vs hr R hf hv=>by
 refine VR.bh hf ?_
 refine hv.ao λ _ _ hl hv=>?_
 refine hv.ao λ _ _ hk hv=>?_
 refine hv.ao λ _ _ hx hv=>?_
 refine bA.aU hv ?_
 refine hl.Dk λ a ea=>?_
 refine hk.cL λ t=>?_
 obtain ⟨kvs,ds,m,e2,hl,k1,k2⟩:=Ac R e ea
 refine call_meetsIn PySem.F.slot_dict_get k2.typeIs PySem.F.entry_dict_get (PySem.F.args_dict_get_3 _ _ _) (meets_dict_get_default (k:=k) (intKind W.prog W.w) a (by exact decide_eq_true rfl) (Jy O R hsys (List.mem_of_getElem? ea)) _) ⟨_,k2.mapOf,?_⟩
 obtain ⟨r1,r2⟩:=k1.at (k:=k)
 cases hq:es.lookup k with
 | some b =>
  obtain ⟨v,e',z⟩:=r1 b hq
  rw [e']
  rw [hq] at q
  exact Post.here R ⟨b,z,q⟩ _
 | none =>
  rw [r2 hq]
  rw [hq] at q
  exact Post.here R ⟨x,hx,q⟩ _
end
section
variable {W:Wl} {d:Nat} {env:Env} {η:En} {σ:List AO}
theorem Ad {ρ:List Addr} {h:Heap} (R:aK W ρ σ h):(ρ++[h.objs.size])[σ.length]? = some h.objs.size:=by
 rw [List.getElem?_append_right (by rw [R.len]; exact Nat.le_refl _),R.len,Nat.sub_self]; rfl
theorem aV.F3 {m n:Nat} {xs ys:List AV} {Q:AV→List AO→Prop} (e1:σ[m]? = some (.lst xs)) (e2:σ[n]? = some (.lst ys)) (hz:xs.length+ys.length≤1000000) (q:Q (.lst σ.length) (σ++[.lst (xs++ys)])) :
 aV W d .Add (.lst m) (.lst n) σ Q:=λ A s ρ vs hr R hv=>by
 refine hv.ao λ _ _ ha hv=>?_
 refine hv.ao λ _ _ hb hv=>?_
 refine bA.aU hv ?_
 refine ha.gP λ a ea=>?_
 refine hb.gP λ b eb=>?_
 obtain ⟨ws,k,h1,v1⟩:=aP R e1 ea
 obtain ⟨us,l,h2,v2⟩:=aP R e2 eb
 refine concat_meets ⟨_,h1,rfl⟩ ⟨_,h2,rfl⟩ noFill_list_add seq_list_add PySem.F.slot_list_add PySem.F.entry_list_add (PySem.F.args_list_add_2 _ _) (list_addW a b ws.toArray us.toArray k l none none #[] #[] (by rw [List.size_toArray,List.size_toArray,v1.length,v2.length,sizeLine_eq]; exact Lq.bZ hz (by decide))) ⟨h1,h2,?_⟩
 refine lS (s:=s) R (.lst (xs++ys)) _ rfl ⟨ws++us,0,by simp,v1.append v2⟩ ⟨_,.lst (Ad R),q⟩ s.toks
theorem aq.len {n:Nat} {xs:List AV} {Q:AV→List AO→Prop} (e1:σ[n]? = some (.lst xs)) (hz:xs.length≤1000000) (q:Q (.int xs.length) σ):aq W d (.cst (.builtin "len")) [.lst n] σ Q:=λ A s ρ f vs hr R hf hv=>by
 refine VR.bh hf ?_
 refine hv.ao λ _ _ ha hv=>?_
 refine bA.aU hv ?_
 refine ha.gP λ a ea=>?_
 obtain ⟨ws,k,h1,v1⟩:=aP R e1 ea
 refine Calls.call_len_list (items:=ws.toArray) ⟨_,h1,rfl,_,rfl⟩ (by rw [List.size_toArray,v1.length]; lia) ?_
 rw [List.size_toArray,v1.length]
 exact Post.here R ⟨_,.int _ _,q⟩ _
theorem aq.abs {a:Int} {Q:AV→List AO→Prop} (q:Q (.int (if a<0 then -a else a)) σ):aq W d (.cst (.builtin "abs")) [.int a] σ Q:=λ A s ρ f vs hr R hf hv=>by
 refine VR.bh hf ?_
 refine hv.ao λ _ _ ha hv=>?_
 refine bA.aU hv ?_
 refine ha.cL λ t=>?_
 exact call_abs_int λ u tk=>Post.here R ⟨_,.int _ _,q⟩ _
theorem aq.int {a:Int} {Q:AV→List AO→Prop} (q:Q (.int a) σ):aq W d (.cst (.type "int")) [.int a] σ Q:=λ A s ρ f vs hr R hf hv=>by
 refine VR.bh hf ?_
 refine hv.ao λ _ _ ha hv=>?_
 refine bA.aU hv ?_
 refine ha.cL λ t=>?_
 exact call_int_int (Post.here R ⟨_,.int _ _,q⟩ s.toks)
theorem aq.PR {a:Bool} {Q:AV→List AO→Prop} (q:Q (.int (if a then 1 else 0)) σ):aq W d (.cst (.type "int")) [.bool a] σ Q:=λ A s ρ f vs hr R hf hv=>by
 refine VR.bh hf ?_
 refine hv.ao λ _ _ ha hv=>?_
 refine bA.aU hv ?_
 refine VR.lO ha ?_
 exact call_int_bool (Post.here R ⟨_,.int _ _,q⟩ _)
theorem sR {ρ:List Addr} {s:Shared} (R:aK W ρ σ s.heap) {a b c:Int} {t u v:Tok} {Q:AV→List AO→Prop} (tk:Nat) (q:Q (.gO a b c) σ) :
 Post W [] ρ s (QV W Q (.ref s.heap.objs.size)) { s with heap:=s.heap.push { cls:=.type "range",data:=.fields #[.int a t,.int b u,.int c v] },toks:=tk } :=
 rW R _ ⟨_,.gO (IsRange.new s.heap a b c t u v),q⟩ tk
theorem aq.JA {a:Int} {Q:AV→List AO→Prop} (q:Q (.gO 0 a 1) σ):aq W d (.cst (.type "range")) [.int a] σ Q:=λ A s ρ f vs hr R hf hv=>by
 refine VR.bh hf ?_
 refine hv.ao λ _ _ ha hv=>?_
 refine bA.aU hv ?_
 refine ha.cL λ t=>?_
 exact call_range_1 (sR R _ q)
theorem aq.JB {a b:Int} {Q:AV→List AO→Prop} (q:Q (.gO a b 1) σ):aq W d (.cst (.type "range")) [.int a,.int b] σ Q:=λ A s ρ f vs hr R hf hv=>by
 refine VR.bh hf ?_
 refine hv.ao λ _ _ ha hv=>?_
 refine hv.ao λ _ _ hb hv=>?_
 refine bA.aU hv ?_
 refine ha.cL λ t=>?_
 refine hb.cL λ u=>?_
 exact call_range_2 (sR R _ q)
theorem aq.JC {a b c:Int} {Q:AV→List AO→Prop} (hc:c≠0) (hp:Builtin.divisionGoesByPylong (b-a) c=false) (q:Q (.gO a b c) σ):aq W d (.cst (.type "range")) [.int a,.int b,.int c] σ Q:=λ A s ρ f vs hr R hf hv=>by
 refine VR.bh hf ?_
 refine hv.ao λ _ _ ha hv=>?_
 refine hv.ao λ _ _ hb hv=>?_
 refine hv.ao λ _ _ Tp hv=>?_
 refine bA.aU hv ?_
 refine ha.cL λ t=>?_
 refine hb.cL λ u=>?_
 refine Tp.cL λ v=>?_
 exact call_range_3 hc (sR R s.toks q) (.inl hp)
theorem aq.max {a b:Int} {Q:AV→List AO→Prop} (q:Q (.int (if b > a then b else a)) σ):aq W d (.cst (.builtin "max")) [.int a,.int b] σ Q:=λ A s ρ f vs hr R hf hv=>by
 refine VR.bh hf ?_
 refine hv.ao λ _ _ ha hv=>?_
 refine hv.ao λ _ _ hb hv=>?_
 refine bA.aU hv ?_
 refine ha.cL λ t=>?_
 refine hb.cL λ u=>?_
 refine qx (max_two_ints hr.handled λ h' tk hk hs=>?_)
 have P:aJ [] s.heap h':=.zY hs hk
 refine ⟨h',tk,[],σ,rfl,P.weaken (λ _ h=>nomatch h),(λ _ h=>nomatch h),by rw [List.append_nil]; exact R.keeps P,?_⟩
 split<;>rename_i hgt
 · rw [if_pos hgt] at q; exact ⟨_,.int _ _,q⟩
 · rw [if_neg hgt] at q; exact ⟨_,.int _ _,q⟩
theorem aq.JD (O:W.Ok) {C D:Addr} {n:Nat} {Q:AV→List AO→Prop} (hk:isIn W.K (.ref C) D=true) (q:Q (.bool true) σ):aq W d (.cst (.builtin "isinstance")) [.inst C n,.cst (.ref D)] σ Q:=λ A s ρ f vs hr R hf hv=>by
 refine VR.bh hf ?_
 refine hv.ao λ _ _ ha hv=>?_
 refine hv.ao λ _ _ hb hv=>?_
 refine bA.aU hv ?_
 refine VR.bh hb ?_
 refine ha.lP λ x dx e1 e2=>?_
 have ht:∀ M,Looks M s.heap (typeOf (.ref x)) (.ref C):=λ M=>(Looks.ld (o:=instObj C dx) e2).andThen .now
 exact isi_call (R.qM O) ht hk (by intro z; cases z) (Post.here R ⟨_,.bool _,q⟩ s.toks)
theorem F4 (O:W.Ok) {C D x:Addr} {t:Value} {Q:AV→List AO→Prop} (hx:typeIn W.K (.ref x)=some t) (hk:isIn W.K t D=true) (q:Q (.bool true) σ):aq W d (.cst (.builtin "isinstance")) [.cst (.ref x),.cst (.ref D)] σ Q:=λ A s ρ f vs hr R hf hv=>by
 refine VR.bh hf ?_
 refine hv.ao λ _ _ ha hv=>?_
 refine hv.ao λ _ _ hb hv=>?_
 refine bA.aU hv ?_
 refine VR.bh hb ?_
 refine VR.bh ha ?_
 exact isi_call (R.qM O) (λ M=>looks_typeIn (R.qM O) hx) hk (by intro z; cases z) (Post.here R ⟨_,.bool _,q⟩ s.toks)
noncomputable def F5 (K:Frag) (C D:Addr):Bool:=(C != D)&&(clsIn K D).isSome&&(typeIn K (.ref D)==some (.type "type"))&&(instIn K (.ref D) (.type "type")==some true)&&(subIn K (.ref C) (.ref D)==some false)&&plainGet K C "__class__" && hasDictIn K C&&(findIn K (.ref C) "__class__" == some (some (.builtin "object.__class__"))) &&
 (specialIn K (.builtin "object.__class__") "__get__" == some (some (.builtin "getset_descriptor.__get__")))&&(takesIn K (.builtin "object.__class__")==some true)&&(mroIn K C (.type "object")==some true)&&(clsIn K C).isSome&&(typeIn K (.ref C)==some (.type "type"))
theorem zk {prog:Program} {w:World} {A:Around} {E:Value→Shared→Prop} {s:Shared} {K:Frag} {x C:Addr} {ox:Obj} {od:Obj} {Q:Option Value→Shared→Prop} (X:K.In s.heap) (I:InstAt s.heap x ox C (some od))
 (hg:plainGet K C "__class__" = true) (hh:hasDictIn K C=true) (ha:findIn K (.ref C) "__class__" = some (some (.builtin "object.__class__"))) (hn:specialIn K (.builtin "object.__class__") "__get__" = some (some (.builtin "getset_descriptor.__get__"))) (ht:takesIn K (.builtin "object.__class__")=some true)
 (hm:mroIn K C (.type "object")=some true) (h:Q (some (.ref C)) { s with toks:=s.toks+1 }):wpAny (model prog w) A (getAttr? (.ref x) "__class__") Q E s:=by
 have hf:findObj K C (some od) "__class__" = some (.bind (.builtin "getset_descriptor.__get__") (.builtin "object.__class__")):=findObj_data (by obtain ⟨cd,hc,_⟩:=any_some hh; rw [hc]; rfl) ha hn ht
 have L1:=looks_findIn (M:=model prog w) X (plainGet_of hg).1
 unfold getAttr? getAttrBy?
 refine wpAny_bind (wpAny_mkText (wpAny_bind (wpAny_attempt ?_)))
 obtain ⟨Tq,g,d,t,os⟩:=s
 have L0:=I.type (M:=model prog w)
 have L2:=looks_find (M:=model prog w) X I hf
 have L3:=looks_findIn (M:=model prog w) X (plainGet_of hg).2
 unfold getAttrBy
 refine wpAny_holding (wpAny_bind (L0.at (wpAny_bind (L1.at ?_))))
 show wpAny _ _ (getAttrEveryday _ _ _) _ _ _
 refine wpAny_bind (wpAny_onRaise (wpAny_runValue (codeAny_builtin PySem.F.plainObj_entry_getattr_hooked ?_)))
 rw [Around.under_plainId (id := "proto.getattr_hooked") (by decide +kernel) _]
 refine wpAny_bind (wpAny_pure (wpAny_bind (L0.at (wpAny_bind (L2.at (wpAny_bind (L3.at ?_)))))))
 show wpAny _ _ (holding [_] (call _ [_,.ref x,.ref C]) >>= ret) _ _ _
 refine wpAny_bind (wpAny_holding (wpAny_call (class_get (s:=⟨Tq,g,d,t+1,os⟩) (ox:=ox) (od:=some od) X I hm ?_)))
 refine wpAny_pure ?_
 show wpAny _ _ (handedOut (.ref C)) _ _ _
 rw [handedOut_of rfl]
 exact wpAny_pure (wpAny_pure h)
end
section
variable {W:Wl} {d:Nat} {env:Env} {η:En} {σ:List AO}
theorem zm {K:Frag} {C:Addr} {cd:ClassData} (h:clsIn K C=some cd):∃ c d sl,K.lookup C=some ⟨c,d,.cls cd,sl⟩:=by
 delta clsIn at h
 cases e:K.lookup C with
 | none=>rw [e] at h; exact aT h
 | some o =>
  rw [e] at h
  obtain ⟨c,d,dt,sl⟩:=o
  cases dt with
  | cls Tr=>cases h; exact ⟨c,d,sl,rfl⟩
  | _=>exact aT h
theorem wF {α:Type} {M:Model} {A:Around} {b:Bool} {t e:Sem α} {Q:α→Shared→Prop} {E:Value→Shared→Prop} {s:Shared} (h:b=false) (k:wpAny M A e Q E s):wpAny M A (if b=true then t else e) Q E s:=by rw [if_neg (by rw [h]; exact Bool.false_ne_true)]; exact k
theorem wT {α:Type} {M:Model} {A:Around} {b:Bool} {t e:Sem α} {Q:α→Shared→Prop} {E:Value→Shared→Prop} {s:Shared} (h:b=true) (k:wpAny M A t Q E s):wpAny M A (if b=true then t else e) Q E s:=by rw [if_pos h]; exact k
theorem wI {α:Type} {M:Model} {A:Around} {c:Prop} [Decidable c] {t e:Sem α} {Q:α→Shared→Prop} {E:Value→Shared→Prop} {s:Shared} (h:c→wpAny M A t Q E s) (k:¬ c→wpAny M A e Q E s):wpAny M A (if c then t else e) Q E s:=by
 by_cases z:c
 · rw [if_pos z]; exact h z
 · rw [if_neg z]; exact k z
theorem Dr {prog:Program} {w:World} {A:Around} {E:Value→Shared→Prop} {s:Shared} {K:Frag} {x C D:Addr} {ox:Obj} {od:Obj} {dep:Int} {tk:Tok} {Q:PySem.Fin→Shared→Prop} (X:K.In s.heap) (I:InstAt s.heap x ox C (some od)) (hk:F5 K C D=true)
 (h:Q (.done (.ret (.bool false))) { s with toks:=s.toks+1 }):wpAny (model prog w) A (Builtin.«isinstance.nested» ⟨[.ref x,.ref D,.int dep tk],[]⟩) Q E s:=by
 unfold F5 at hk
 simp only [Bool.and_eq_true,beq_iff_eq,bne_iff_ne,ne_eq] at hk
 refine aG λ G kG=>?_
 obtain ⟨⟨⟨⟨⟨⟨⟨⟨⟨⟨⟨⟨h0,h1⟩,h2⟩,h3⟩,h4⟩,h5⟩,h6⟩,h7⟩,h8⟩,h9⟩,PS⟩,h11⟩,h12⟩:=hk
 refine kG ?_
 have CQ:∀ {A:Around} {E:Value→Shared→Prop} {Q:Option Value→Shared→Prop},Q (some (.ref C)) { s with toks:=s.toks+1 }→wpAny (model prog w) A (getAttr? (.ref x) "__class__") Q E s:=λ q=>zk X I h5 h6 h7 h8 h9 PS q
 obtain ⟨hh,g,dd,tt,os⟩:=s
 have ht:=I.type (M:=model prog w)
 unfold Builtin.«isinstance.nested»
 refine wpAny_bind (ht.at ?_)
 rw [if_neg (λ q=>h0 (by have:=beq_iff_eq.mp q; injection this))]
 have L1:=looks_typeIn (M:=model prog w) X h2
 have L4:Looks (model prog w) hh (isSubtype (.ref C) (.ref D)) false:=looks_subIn X h4
 have L3:Looks (model prog w) hh (isInstance (.ref x) (.ref D)) false:=ht.andThen L4
 refine wpAny_bind (L1.at ?_)
 rw [if_pos (by decide)]
 k_delta "plainIsInstance"
 unfold isType
 repeat lk
 refine aG λ Ga ka=>?_
 obtain ⟨UM,h1⟩:=Option.isSome_iff_exists.mp h1
 obtain ⟨UN,h11⟩:=Option.isSome_iff_exists.mp h11
 obtain ⟨_,_,_,ho⟩:=zm h1
 obtain ⟨_,_,_,Tt⟩:=zm h11
 refine ka ?_
 clear ka
 refine nd_load (X _ _ ho) (nd_pure (wpAny_pure ?_))
 refine wF rfl ?_
 refine wpAny_bind (L3.at ?_)
 refine wF rfl ?_
 refine wpAny_bind (CQ ?_)
 refine nd_load (X _ _ Tt) ?_
 show wpAny _ _ (pure true >>= λ b=>if (!b)=true then pure false else (do rule "isinstance.by-__class__"; isSubtype (.ref C) (.ref D))) _ _ _
 refine wpAny_bind (wpAny_pure ?_)
 refine wF rfl ?_
 refine wpAny_bind (wpAny_rule ?_)
 refine L4.at ?_
 exact wpAny_pure h
theorem aq.MD (O:W.Ok) {C D:Addr} {n:Nat} {fs:List (Str×AV)} {Q:AV→List AO→Prop} (e:σ[n]? = some (.inst fs)) (hk:F5 W.K C D=true) (q:Q (.bool false) σ):aq W d (.cst (.builtin "isinstance")) [.inst C n,.cst (.ref D)] σ Q:=λ A s ρ f vs hr R hf hv=>by
 refine VR.bh hf ?_
 refine hv.ao λ va _ ha hv=>?_
 refine hv.ao λ _ _ hb hv=>?_
 refine bA.aU hv ?_
 refine VR.bh hb ?_
 obtain ⟨x,rfl⟩:∃ x,va=Value.ref x:=by refine VR.lP ha λ _ _ _ _=>?_; exact ⟨_,rfl⟩
 obtain ⟨dx,ds,m,e1,e2,e3,fr,I⟩:=ql R ha e
 exact call_isinstance (S:=λ _ R' s=>(W.K.In s.heap∧InstAt s.heap x (instObj C dx) C (some (dictOf ds m)))∧R' (.ok (.ret (.bool false))) { s with toks:=s.toks+1 })
  (λ _ _ _ _ _ hs=>isinstance_outer (Dr hs.1.1 hs.1.2 hk hs.2) (by intro z; cases z)) ⟨⟨R.qM O,I⟩,Post.here R ⟨_,.bool _,q⟩ _⟩
theorem aA.isNone {a:AV} {b:Bool} {Q:AV→List AO→Prop} (hb:∀ ρ h v,VR W.hid ρ h a v→(v==Value.none)=b) (q:Q (.bool b) σ):aA W d .Is a .none σ Q:=λ A s ρ vs hr R hv=>by
 refine hv.ao λ _ _ ha hv=>?_
 refine hv.ao λ _ _ hn hv=>?_
 refine bA.aU hv ?_
 refine VR.xS hn ?_
 exact is_none_gen (by rw [hb _ _ _ ha]; exact Post.here R ⟨_,.bool _,q⟩ s.toks)
theorem aA.sS {a:AV} {b:Bool} {Q:AV→List AO→Prop} (hb:∀ ρ h v,VR W.hid ρ h a v→(v==Value.none)=b) (q:Q (.bool (!b)) σ):aA W d .IsNot a .none σ Q:=λ A s ρ vs hr R hv=>by
 refine hv.ao λ _ _ ha hv=>?_
 refine hv.ao λ _ _ hn hv=>?_
 refine bA.aU hv ?_
 refine VR.xS hn ?_
 exact isnot_none_gen (by rw [hb _ _ _ ha]; exact Post.here R ⟨_,.bool _,q⟩ s.toks)
noncomputable def xW:AV→Option Bool
 | .none=>some true
 | .cst (.ref _)=>some false
 | .cst _=>none
 | _=>some false
theorem eF {a:AV} {b:Bool} (h:xW a=some b):∀ ρ h v,VR W.hid ρ h a v→(v==Value.none)=b:=λ ρ hh v hv=>by
 cases hv<;>first | (refine sE h ?_; rfl) | skip
 cases v<;>first | ((first | exact aT h | refine sE h ?_); rfl) | exact aT h
theorem aA.isBool {a b:Bool} {Q:AV→List AO→Prop} (q:Q (.bool (a==b)) σ):aA W d .Is (.bool a) (.bool b) σ Q:=λ A s ρ vs hr R hv=>by
 refine hv.ao λ _ _ ha hv=>?_
 refine hv.ao λ _ _ hn hv=>?_
 refine bA.aU hv ?_
 refine VR.lO hn ?_
 refine VR.lO ha ?_
 exact is_bool (Post.here R ⟨_,.bool _,q⟩ s.toks)
theorem aA.BY {a b:Bool} {Q:AV→List AO→Prop} (q:Q (.bool (a != b)) σ):aA W d .IsNot (.bool a) (.bool b) σ Q:=λ A s ρ vs hr R hv=>by
 refine hv.ao λ _ _ ha hv=>?_
 refine hv.ao λ _ _ hn hv=>?_
 refine bA.aU hv ?_
 refine VR.lO hn ?_
 refine VR.lO ha ?_
 exact isnot_bool (Post.here R ⟨_,.bool _,q⟩ s.toks)
theorem aA.JE {a:Addr} {Q:AV→List AO→Prop} (q:Q (.bool true) σ):aA W d .Is (.cst (.ref a)) (.cst (.ref a)) σ Q:=λ A s ρ vs hr R hv=>by
 refine hv.ao λ _ _ ha hv=>?_
 refine hv.ao λ _ _ hn hv=>?_
 refine bA.aU hv ?_
 refine VR.bh hn ?_
 refine VR.bh ha ?_
 show wpAny _ _ (isSame _ _ >>= _) _ _ _
 refine wpAny_bind ?_
 refine wT (beq_self_eq_true a) ?_
 exact wpAny_pure (wpAny_pure (Post.here R ⟨_,.bool _,q⟩ s.toks))
noncomputable def se (K:Frag) (a:Addr):Bool:=(K.lookup a).any λ o=>PG o.data&&o.dict.any λ d=>(K.lookup d).isSome
theorem zo {K:Frag} {a:Addr} (h:se K a=true):∃ c d sl,K.lookup a=some ⟨c,some d,.plain,sl⟩∧∃ o,K.lookup d=some o:=by
 refine aG λ Ga ka=>?_
 obtain ⟨⟨c,d,dt,sl⟩,e,h⟩:=any_some h
 obtain ⟨h1,h2⟩:=Bool.and_eq_true_iff.mp h
 obtain ⟨d',e2,h3⟩:=any_some h2
 refine ka ?_
 clear ka
 obtain rfl:dt=.plain:=Dj h1
 obtain rfl:d=some d':=e2
 exact ⟨c,d',sl,e,Option.isSome_iff_exists.mp h3⟩
set_option tactic.hygienic true in
theorem aA.ME (O:W.Ok) {C a:Addr} {n:Nat} {Q:AV→List AO→Prop} (hk:se W.K a=true) (q:Q (.bool false) σ):aA W d .Is (.inst C n) (.cst (.ref a)) σ Q:=λ A s ρ vs hr R hv=>by
 refine hv.ao λ _ _ ha hv=>?_
 refine hv.ao λ _ _ hn hv=>?_
 refine bA.aU hv ?_
 refine VR.bh hn ?_
 refine ha.lP λ x dx e1 e2=>?_
 refine aG λ Ga ka=>?_
 obtain ⟨oc,od,osl,ho,odo,hod⟩:=zo hk
 refine ka ?_
 clear ka
 have hb:=R.qM O _ _ ho
 have hxa:(x==a)=false:=by
  rw [beq_eq_false_iff_ne]
  rintro rfl
  rw [e2] at hb
  have:dx=od:=by injection hb with z; injection z with _ z; injection z
  subst this
  have:=R.fresh _ (List.mem_of_getElem? e1)
  rw [O.qM _ _ hod] at this; cases this
 show wpAny _ _ (isSame _ _ >>= _) _ _ _
 refine wpAny_bind ?_
 refine wF hxa ?_
 refine wpAny_bind (wpAny_load e2 (wpAny_bind (wpAny_load hb ?_)))
 exact wpAny_pure (wpAny_pure (Post.here R ⟨_,.bool _,q⟩ s.toks))
def c8 (W:Wl) (a:AV) (t:Value):Prop:=∀ h ρ v,W.K.In h→VR W.hid ρ h a v→∀ M,Looks M h (typeOf v) t
theorem c8.inst {C:Addr} {n:Nat}:c8 W (.inst C n) (.ref C):=λ h ρ v X hv M=>by
 exact hv.lP λ _ _ e1 e2=>by exact (Looks.ld (o:=instObj C _) e2).andThen .now
theorem c8.cst {x:Addr} {t:Value} (e:typeIn W.K (.ref x)=some t):c8 W (.cst (.ref x)) t:=λ h ρ v X hv M=>by
 refine VR.bh hv ?_; exact looks_typeIn X e
noncomputable def mw:AV→Bool
 | .cst .notImplemented=>false
 | _=>true
theorem p8 {a:AV} (e:mw a=true) {ρ:List Addr} {h:Heap} {v:Value} (hv:VR W.hid ρ h a v):v≠.notImplemented:=by
 rintro rfl
 cases hv; exact cS e
noncomputable def isRef:AV→Bool
 | .inst .. | .cst (.ref _)=>true
 | _=>false
theorem gq {a:AV} (e:isRef a=true) {ρ:List Addr} {h:Heap} {v:Value} (hv:VR W.hid ρ h a v):∃ x,v=.ref x:=by
 cases hv<;>first | exact ⟨_,rfl⟩ | cases e | skip
 cases v<;>first | exact ⟨_,rfl⟩ | exact cS e
theorem BZ {M:Model} {A:Around} {E:Value→Shared→Prop} {s:Shared} {K:Frag} {x C f:Addr} {name:Str} {args:List Value} {Q:Option Value→Shared→Prop} (X:K.In s.heap) (T:Looks M s.heap (typeOf (.ref x)) (.ref C)) (hs:findIn K (.ref C) name=some (some (.ref f))) (hf:isFn K (.ref f)=true)
 (h:wpAny M A (call (.ref f) (.ref x :: args)) (λ v=>Q (some v)) E s):wpAny M A (callSpecialIfBound? (.ref x) name args) Q E s:=by
 unfold callSpecialIfBound? bindSpecialIfBound?
 refine wpAny_holding (wpAny_bind (wpAny_bind (wpAny_bind (T.here ((looks_findIn X hs).here ?_)))))
 refine wpAny_bind (wpAny_askSetting (wpAny_ite ?_))
 have fin:wpAny M A (call (.ref f) ([.ref x]++args) >>= λ v=>pure (some v)) Q E s:=wpAny_bind (wpAny_mono h (λ v s' h'=>wpAny_pure h') λ _ _ h'=>h')
 split
 · exact wpAny_bind ((bind_fn X _ (beq_iff_eq.mp hf)).here (wpAny_pure (by exact fin)))
 · exact wpAny_tryCatch (wpAny_bind ((bind_fn X _ (beq_iff_eq.mp hf)).here (wpAny_pure (by exact fin))))
noncomputable def lT (K:Frag) (C:Addr) (tb:Value):Bool:=(tb==.ref C)||subIn K tb (.ref C)==some false
theorem aA.user (O:W.Ok) {op:CmpOp} {a b:AV} {C f:Addr} {tb:Value} {Q:AV→List AO→Prop} (hop:(op==.Eq||op==.NotEq)=true) (ha:isRef a=true) (ta:c8 W a (.ref C)) (tb':c8 W b tb) (hk:(lT W.K C tb&&(findIn W.K (.ref C) (cmpInfo op).2.1==some (some (.ref f)))&&isFn W.K (.ref f))=true)
 (h:aq W d (.cst (.ref f)) [a,b] σ λ v σ'=>mw v=true∧Q v σ'):aA W d op a b σ Q:=λ A s ρ vs hr R hv=>by
 refine hv.ao λ va _ ha' hv=>?_
 refine hv.ao λ vb _ hb' hv=>?_
 refine bA.aU hv ?_
 obtain ⟨x,rfl⟩:=gq ha ha'
 simp only [Bool.and_eq_true,beq_iff_eq] at hk
 obtain ⟨⟨h1,h2⟩,h3⟩:=hk
 have X:=R.qM O
 have T:=ta _ _ _ X ha' W.M
 have U:=tb' _ _ _ X hb' W.M
 have one:wpAny W.M A (tryCompare (.ref x) (cmpInfo op).2.1 vb) (λ r s'=>∃ v,r=some v∧Post W [] ρ s (QV W Q v) s') lQ s:=by
  unfold tryCompare
  refine wpAny_bind (BZ X T h2 h3 (wpAny_mono (h A s ρ _ _ hr R (.cst _) (.cons ha' (.cons hb' .nil))) (λ v s' z=>?_) λ _ _ e=>e))
  refine aG λ Ga ka=>?_
  obtain ⟨h',tk',δ,σ',e,p,ff,R',av,xm,hn,q⟩:=z
  refine ka ?_
  clear ka
  have hne:=p8 hn xm
  have z':Post W [] ρ s (QV W Q v) s':=⟨h',tk',δ,σ',e,p,ff,R',av,xm,q⟩
  cases v<;>first | exact (hne rfl).elim | exact wpAny_pure ⟨_,rfl,z'⟩
 have main:wpAny W.M A (richCompare op (.ref x) vb) (λ v s'=>Post W [] ρ s (QV W Q v) s') lQ s:=by
  unfold richCompare
  rw [oneThing_ref]
  refine wpAny_holding (wpAny_bind (wpAny_cRoomFor (by have:=hr.units; lia) ?_))
  refine wpAny_bind (T.here (wpAny_bind (U.here ?_)))
  refine wI (λ q=>?_) λ _=>?_
  · have e:subIn W.K tb (.ref C)=some false:=by
     rcases Bool.or_eq_true_iff.mp h1 with e | e
     · rw [beq_iff_eq.mp e] at q; simp at q
     · exact beq_iff_eq.mp e
    refine wpAny_bind ((looks_subIn X e).here ?_)
    refine wF rfl ?_
    refine wpAny_bind (ic one λ r s' z=>?_)
    obtain ⟨v,rfl,hq⟩:=z
    exact wpAny_pure hq
  · refine wpAny_bind (wpAny_pure ?_)
    refine wF rfl ?_
    refine wpAny_bind (ic one λ r s' z=>?_)
    obtain ⟨v,rfl,hq⟩:=z
    exact wpAny_pure hq
 cases op<;>first | exact main | exact cS hop
end
section
variable {prog:Program} {w:World} {A:Around} {E:Value→Shared→Prop} {s:Shared} {K:Frag} {x C D f:Addr} {nm T:String}
theorem B0 {M:Model} {name:Str} {args:List Value} {Q:Option Value→Shared→Prop} (X:K.In s.heap) (Ty:Looks M s.heap (typeOf (.ref x)) (.ref C))
 (hs:findIn K (.ref C) name=some (some (.ref f))) (hf:isFn K (.ref f)=true) (h:wpAny M A (call (.ref f) (.ref x :: args)) (λ v=>Q (some v)) E s) :
 wpAny M A (callSpecial? (.ref x) name args) Q E s :=
 wpAny_bind (wpAny_bind (Ty.here ((looks_findIn X hs).here (wpAny_holding (wpAny_bind ((bind_fn X _ (beq_iff_eq.mp hf)).here (wpAny_bind (wpAny_mono h (λ _ _ z=>wpAny_pure z) λ _ _ z=>z))))))))
noncomputable def JF:Value→Option Value
 | .notImplemented=>none
 | v=>some v
theorem Bb {M:Model} {name:Str} {b:Value} {Q:Option Value→Shared→Prop} (X:K.In s.heap) (Ty:Looks M s.heap (typeOf (.ref x)) (.ref C)) (hs:findIn K (.ref C) name=some (some (.ref f))) (hf:isFn K (.ref f)=true)
 (h:wpAny M A (call (.ref f) [.ref x,b]) (λ v=>Q (JF v)) E s):wpAny M A (tryMethod (.ref x) name b) Q E s:=by
 unfold tryMethod
 refine wpAny_bind (B0 X Ty hs hf (wpAny_mono h (λ v s' hv=>?_) λ _ _ e=>e))
 cases v<;>exact wpAny_pure hv
theorem xY {op:Operator} {a b:Value} {Q:Value→Shared→Prop} (h:wpAny (model prog w) A (binaryOp1 op.info.2 a b) (λ r s'=>∃ v,r=some v∧Q v s') E s):wpAny (model prog w) A (binaryOp op a b) Q E s:=by
 unfold binaryOp
 refine wpAny_holding (wpAny_bind (wpAny_mono h (λ r s' z=>?_) λ _ _ e=>e))
 obtain ⟨v,rfl,q⟩:=z
 exact wpAny_pure q
theorem B3 {b:Value} {Q:Value→Shared→Prop} (X:K.In s.heap) (Ty:Looks (model prog w) s.heap (typeOf (.ref x)) (.ref C)) (hb:Looks (model prog w) s.heap (typeOf b) (.ref C)) (hc:selfFirst K C=true)
 (hs:findIn K (.ref C) (PySem.dunder nm)=some (some (.ref f))) (hf:isFn K (.ref f)=true)
 (h:wpAny (model prog w) A (call (.ref f) [.ref x,b]) (PySem.W.CmpBack Q) E s):wpAny (model prog w) A (binaryOp1 nm (.ref x) b) (λ r s'=>∃ v,r=some v∧Q v s') E s:=by
 obtain ⟨cd,rest,hcd,hm⟩:=ksp_first hc
 have one:wpAny (model prog w) A (tryMethod (.ref x) (PySem.dunder nm) b) (λ r s'=>∃ v,r=some v∧Q v s') E s:=by
  refine Bb X Ty hs hf (wpAny_mono h (λ v s' hv=>?_) λ _ _ e=>e)
  cases v<;>first | exact hv.elim | exact ⟨_,rfl,hv⟩
 have F:=fills_K (M:=model prog w) X hcd hm hs
 clear hc hcd hm hs hf h X
 unfold binaryOp1
 refine wpAny_bind (Ty.here (wpAny_bind (hb.here (wpAny_bind (F.here ?_)))))
 clear Ty hb F
 rw [beq_self_eq_true]
 refine wpAny_bind (wpAny_pure (wpAny_bind (wpAny_pure (wpAny_bind (wpAny_mono one (λ r s' z=>?_) λ _ _ e=>e)))))
 exact z.elim λ v z=>by rw [z.1]; exact wpAny_pure ⟨_,rfl,z.2⟩
theorem Ds {op:Operator} {b:Value} {Q:Value→Shared→Prop} (X:K.In s.heap) (Ty:Looks (model prog w) s.heap (typeOf (.ref x)) (.ref C)) (hb:Looks (model prog w) s.heap (typeOf b) (.ref C)) (hc:selfFirst K C=true)
 (hs:findIn K (.ref C) (PySem.dunder op.info.2)=some (some (.ref f))) (hf:isFn K (.ref f)=true)
 (h:wpAny (model prog w) A (call (.ref f) [.ref x,b]) (PySem.W.CmpBack Q) E s):wpAny (model prog w) A (binaryOp op (.ref x) b) Q E s:=xY (B3 X Ty hb hc hs hf h)
theorem B4 {b:Value} {fo ro rc:Option Value} {Q:Value→Shared→Prop} (X:K.In s.heap) (L1:Looks (model prog w) s.heap (typeOf (.ref x)) (.ref C)) (hb:typeOf b=pure (.type T)) (hc:selfFirst K C=true)
 (hs:findIn K (.ref C) (PySem.dunder nm)=some (some (.ref f))) (hf:isFn K (.ref f)=true) (hr:findIn K (.ref C) (dunderR nm)=some rc) (hp:rc=none∨∃ g:Addr,rc=some (.ref g))
 (h1:findIn K (.type T) (PySem.dunder nm)=some fo) (h2:findIn K (.type T) (dunderR nm)=some ro) (hsub:subIn K (.type T) (.ref C)=some false)
 (h:wpAny (model prog w) A (call (.ref f) [.ref x,b]) (PySem.W.CmpBack Q) E s):wpAny (model prog w) A (binaryOp1 nm (.ref x) b) (λ r s'=>∃ v,r=some v∧Q v s') E s:=by
 obtain ⟨cd,rest,hcd,hm⟩:=ksp_first hc
 have one:wpAny (model prog w) A (tryMethod (.ref x) (PySem.dunder nm) b) (λ r s'=>∃ v,r=some v∧Q v s') E s:=by
  refine Bb X L1 hs hf (wpAny_mono h (λ v s' hv=>?_) λ _ _ e=>e)
  cases v<;>first | exact hv.elim | exact ⟨_,rfl,hv⟩
 have L3:=fills_K (M:=model prog w) X hcd hm hs
 have L4:=ksp_fillsT (M:=model prog w) X h1 h2
 have L5:=looks_subIn (M:=model prog w) X hsub
 have L6:=ksp_inPy (M:=model prog w) X hs hr hp
 have L8:=looks_findIn (M:=model prog w) X h2
 generalize ((fo.isSome&&!isSeqSlot fo)||(ro.isSome&&!isSeqSlot ro))=right at L4
 have hne:(Value.ref C==Value.type T)=false:=Bool.eq_false_iff.mpr λ q=>by cases beq_iff_eq.mp q
 clear hc hcd hm hs hf h X hr hp h1 h2 hsub
 unfold binaryOp1
 rw [hb]
 refine wpAny_bind (L1.here (wpAny_bind (wpAny_pure (wpAny_bind (L3.here ?_)))))
 clear L1 L3
 rw [hne]
 refine wpAny_bind (L4.here ?_)
 clear L4 hne
 cases right with
 | false =>
  clear L5 L6 L8
  refine wpAny_bind (wpAny_pure (wpAny_bind (wpAny_mono one (λ r s' z=>?_) λ _ _ e=>e)))
  exact z.elim λ v z=>by rw [z.1]; exact wpAny_pure ⟨_,rfl,z.2⟩
 | true =>
  refine wpAny_bind (L5.here ?_)
  refine wpAny_bind (L6.here ?_)
  refine wpAny_bind (wpAny_pure ?_)
  refine wpAny_bind (L8.here ?_)
  refine wpAny_bind (wpAny_mono one (λ r s' z=>?_) λ _ _ e=>e)
  exact z.elim λ v z=>by rw [z.1]; exact wpAny_pure ⟨_,rfl,z.2⟩
theorem Dt {op:Operator} {b:Value} {fo ro rc:Option Value} {Q:Value→Shared→Prop} (X:K.In s.heap) (L1:Looks (model prog w) s.heap (typeOf (.ref x)) (.ref C)) (hb:typeOf b=pure (.type T)) (hc:selfFirst K C=true)
 (hs:findIn K (.ref C) (PySem.dunder op.info.2)=some (some (.ref f))) (hf:isFn K (.ref f)=true) (hr:findIn K (.ref C) (dunderR op.info.2)=some rc) (hp:rc=none∨∃ g:Addr,rc=some (.ref g))
 (h1:findIn K (.type T) (PySem.dunder op.info.2)=some fo) (h2:findIn K (.type T) (dunderR op.info.2)=some ro) (hsub:subIn K (.type T) (.ref C)=some false)
 (h:wpAny (model prog w) A (call (.ref f) [.ref x,b]) (PySem.W.CmpBack Q) E s):wpAny (model prog w) A (binaryOp op (.ref x) b) Q E s:=xY (B4 X L1 hb hc hs hf hr hp h1 h2 hsub h)
theorem Du {b:Value} {rc rd:Option Value} {fD:Addr} {Q:Value→Shared→Prop} (X:K.In s.heap) (L1:Looks (model prog w) s.heap (typeOf (.ref x)) (.ref C)) (L2:Looks (model prog w) s.heap (typeOf b) (.ref D)) (hc:selfFirst K C=true) (hd:selfFirst K D=true) (OY:C≠D)
 (hs:findIn K (.ref C) (PySem.dunder nm)=some (some (.ref f))) (hf:isFn K (.ref f)=true) (hr:findIn K (.ref C) (dunderR nm)=some rc) (hp:rc=none∨∃ g:Addr,rc=some (.ref g))
 (h1:findIn K (.ref D) (PySem.dunder nm)=some (some (.ref fD))) (h2:findIn K (.ref D) (dunderR nm)=some rd) (OZ:rd=none∨∃ g:Addr,rd=some (.ref g)) (hsub:subIn K (.ref D) (.ref C)=some false)
 (h:wpAny (model prog w) A (call (.ref f) [.ref x,b]) (λ v s'=>match JF v with
  | some v=>Q v s'
  | none=>Looks (model prog w) s'.heap (typeOf (.ref x)) (.ref C)∧Looks (model prog w) s'.heap (typeOf b) (.ref D)∧wpAny (model prog w) A (tryMethod b (dunderR nm) (.ref x)) (λ r s'=>∃ v,r=some v∧Q v s') E s') E s):wpAny (model prog w) A (binaryOp1 nm (.ref x) b) (λ r s'=>∃ v,r=some v∧Q v s') E s:=by
 obtain ⟨cd,rest,hcd,hm⟩:=ksp_first hc
 obtain ⟨Tr,rest',MF,hm'⟩:=ksp_first hd
 have one:=Bb (Q:=λ r s'=>match r with
  | some v=>Q v s'
  | none=>Looks (model prog w) s'.heap (typeOf (.ref x)) (.ref C)∧Looks (model prog w) s'.heap (typeOf b) (.ref D)∧wpAny (model prog w) A (tryMethod b (dunderR nm) (.ref x)) (λ r s'=>∃ v,r=some v∧Q v s') E s') X L1 hs hf h
 have L3:=fills_K (M:=model prog w) X hcd hm hs
 have L4:=fills_K (M:=model prog w) X MF hm' h1
 have L5:=looks_subIn (M:=model prog w) X hsub
 have L6:=ksp_inPy (M:=model prog w) X hs hr hp
 have L7:=ksp_inPy (M:=model prog w) X h1 h2 OZ
 have hne:(Value.ref C==Value.ref D)=false:=Bool.eq_false_iff.mpr λ q=>OY (by injection (beq_iff_eq.mp q))
 clear hc hcd hm hs hf h X hr hp h1 h2 hsub hd MF hm' OZ OY
 unfold binaryOp1
 refine wpAny_bind (L1.here (wpAny_bind (L2.here (wpAny_bind (L3.here ?_)))))
 clear L1 L2 L3
 rw [hne]
 refine wpAny_bind (L4.here ?_)
 refine wpAny_bind (L5.here ?_)
 refine wpAny_bind (L6.here ?_)
 refine wpAny_bind (L7.here ?_)
 refine wpAny_bind (wpAny_mono one (λ r s' z=>?_) λ _ _ e=>e)
 clear L4 L5 L6 L7 one
 cases r with
 | some v=>exact wpAny_pure ⟨_,rfl,z⟩
 | none =>
  refine wpAny_bind (z.1.here ?_)
  refine wpAny_bind (z.2.1.here ?_)
  rw [hne]
  refine wpAny_bind (wpAny_mono z.2.2 (λ r s' z=>?_) λ _ _ e=>e)
  exact z.elim λ v z=>by rw [z.1]; exact wpAny_bind (wpAny_rule (wpAny_pure ⟨_,rfl,z.2⟩))
theorem Bc {op:Operator} {b:Value} {rc rd:Option Value} {fD:Addr} {Q:Value→Shared→Prop} (X:K.In s.heap) (L1:Looks (model prog w) s.heap (typeOf (.ref x)) (.ref C)) (L2:Looks (model prog w) s.heap (typeOf b) (.ref D)) (hc:selfFirst K C=true) (hd:selfFirst K D=true) (OY:C≠D)
 (hs:findIn K (.ref C) (PySem.dunder op.info.2)=some (some (.ref f))) (hf:isFn K (.ref f)=true) (hr:findIn K (.ref C) (dunderR op.info.2)=some rc) (hp:rc=none∨∃ g:Addr,rc=some (.ref g))
 (h1:findIn K (.ref D) (PySem.dunder op.info.2)=some (some (.ref fD))) (h2:findIn K (.ref D) (dunderR op.info.2)=some rd) (OZ:rd=none∨∃ g:Addr,rd=some (.ref g)) (hsub:subIn K (.ref D) (.ref C)=some false)
 (h:wpAny (model prog w) A (call (.ref f) [.ref x,b]) (λ v s'=>match JF v with
  | some v=>Q v s'
  | none=>Looks (model prog w) s'.heap (typeOf (.ref x)) (.ref C)∧Looks (model prog w) s'.heap (typeOf b) (.ref D)∧wpAny (model prog w) A (tryMethod b (dunderR op.info.2) (.ref x)) (λ r s'=>∃ v,r=some v∧Q v s') E s') E s):wpAny (model prog w) A (binaryOp op (.ref x) b) Q E s:=xY (Du X L1 L2 hc hd OY hs hf hr hp h1 h2 OZ hsub h)
end
section
variable {W:Wl} {d:Nat} {env:Env} {η:En} {σ:List AO}
noncomputable def Dv (K:Frag) (op:Operator) (C f:Addr):Bool:=selfFirst K C&&(findIn K (.ref C) (PySem.dunder op.info.2)==some (some (.ref f)))&&isFn K (.ref f)
theorem aV.same (O:W.Ok) {op:Operator} {a b:AV} {C f:Addr} {Q:AV→List AO→Prop} (ha:isRef a=true) (ta:c8 W a (.ref C)) (tb:c8 W b (.ref C)) (hk:Dv W.K op C f=true)
 (h:aq W d (.cst (.ref f)) [a,b] σ λ v σ'=>mw v=true∧Q v σ'):aV W d op a b σ Q:=λ A s ρ vs hr R hv=>by
 refine hv.ao λ va _ ha' hv=>?_
 refine hv.ao λ vb _ hb' hv=>?_
 refine bA.aU hv ?_
 obtain ⟨x,rfl⟩:=gq ha ha'
 unfold Dv at hk
 simp only [Bool.and_eq_true,beq_iff_eq] at hk
 obtain ⟨⟨h1,h2⟩,h3⟩:=hk
 have X:=R.qM O
 refine Ds X (ta _ _ _ X ha' W.M) (tb _ _ _ X hb' W.M) h1 h2 h3 (ic (h A s ρ _ _ hr R (.cst _) (.cons ha' (.cons hb' .nil))) λ v s' z=>?_)
 obtain ⟨h',tk',δ,σ',e,p,ff,R',av,xm,hn,q⟩:=z
 have hne:=p8 hn xm
 have z':Post W [] ρ s (QV W Q v) s':=⟨h',tk',δ,σ',e,p,ff,R',av,xm,q⟩
 cases v<;>first | exact (hne rfl).elim | exact z'
noncomputable def qm (o:Option Value):Bool:=o.all λ v=>(wH v).isSome
theorem dS {o:Option Value} (h:qm o=true):o=none∨∃ g:Addr,o=some (.ref g):=by
 cases o with
 | none=>exact .inl rfl
 | some v =>
  obtain ⟨a,e⟩:=Option.isSome_iff_exists.mp h
  exact .inr ⟨a,congrArg _ (gM e)⟩
noncomputable def Dw (K:Frag) (op:Operator) (C f:Addr) (T:String):Bool:=selfFirst K C&&(findIn K (.ref C) (PySem.dunder op.info.2)==some (some (.ref f)))&&isFn K (.ref f)&&(findIn K (.ref C) (dunderR op.info.2)).any qm &&
 (findIn K (.type T) (PySem.dunder op.info.2)).isSome&&(findIn K (.type T) (dunderR op.info.2)).isSome&&(subIn K (.type T) (.ref C)==some false)
theorem aV.int (O:W.Ok) {op:Operator} {a:AV} {i:Int} {C f:Addr} {Q:AV→List AO→Prop} (ha:isRef a=true) (ta:c8 W a (.ref C)) (hk:Dw W.K op C f "int" = true)
 (h:aq W d (.cst (.ref f)) [a,.int i] σ λ v σ'=>mw v=true∧Q v σ'):aV W d op a (.int i) σ Q:=λ A s ρ vs hr R hv=>by
 refine hv.ao λ va _ ha' hv=>?_
 refine hv.ao λ vb _ hb' hv=>?_
 refine bA.aU hv ?_
 obtain ⟨x,rfl⟩:=gq ha ha'
 have Dy:=hb'
 cases hb' with | @int _ t =>
 unfold Dw at hk
 simp only [Bool.and_eq_true,beq_iff_eq] at hk
 obtain ⟨⟨⟨⟨⟨⟨h1,h2⟩,h3⟩,h4⟩,h5⟩,h6⟩,h7⟩:=hk
 obtain ⟨rc,h4,Tu⟩:=any_some h4
 obtain ⟨fo,h5⟩:=Option.isSome_iff_exists.mp h5
 obtain ⟨ro,h6⟩:=Option.isSome_iff_exists.mp h6
 have X:=R.qM O
 refine Dt X (ta _ _ _ X ha' W.M) rfl h1 h2 h3 h4 (dS Tu) h5 h6 h7 (ic (h A s ρ _ _ hr R (.cst _) (.cons ha' (.cons Dy .nil))) λ v s' z=>?_)
 obtain ⟨h',tk',δ,σ',e,p,ff,R',av,xm,hn,q⟩:=z
 have hne:=p8 hn xm
 have z':Post W [] ρ s (QV W Q v) s':=⟨h',tk',δ,σ',e,p,ff,R',av,xm,q⟩
 cases v<;>first | exact (hne rfl).elim | exact z'
noncomputable def Bd (K:Frag) (op:Operator) (C f D fD:Addr):Bool:=selfFirst K C&&selfFirst K D&&(C != D)&&(findIn K (.ref C) (PySem.dunder op.info.2)==some (some (.ref f)))&&isFn K (.ref f)&&(findIn K (.ref C) (dunderR op.info.2)).any qm &&
 (findIn K (.ref D) (PySem.dunder op.info.2)==some (some (.ref fD)))&&(findIn K (.ref D) (dunderR op.info.2)).any qm&&(subIn K (.ref D) (.ref C)==some false)
theorem aV.two (O:W.Ok) {op:Operator} {a b:AV} {C f D fD:Addr} {Q:AV→List AO→Prop} (ha:isRef a=true) (ta:c8 W a (.ref C)) (tb:c8 W b (.ref D)) (hk:Bd W.K op C f D fD=true)
 (h:aq W d (.cst (.ref f)) [a,b] σ λ v σ'=>mw v=true∧Q v σ'):aV W d op a b σ Q:=λ A s ρ vs hr R hv=>by
 refine hv.ao λ va _ ha' hv=>?_
 refine hv.ao λ vb _ hb' hv=>?_
 refine bA.aU hv ?_
 obtain ⟨x,rfl⟩:=gq ha ha'
 unfold Bd at hk
 simp only [Bool.and_eq_true,beq_iff_eq,bne_iff_ne,ne_eq] at hk
 obtain ⟨⟨⟨⟨⟨⟨⟨⟨h1,h2⟩,h3⟩,h4⟩,h5⟩,h6⟩,h7⟩,h8⟩,h9⟩:=hk
 obtain ⟨rc,h6,PT⟩:=any_some h6
 obtain ⟨rd,h8,PU⟩:=any_some h8
 have X:=R.qM O
 refine Bc X (ta _ _ _ X ha' W.M) (tb _ _ _ X hb' W.M) h1 h2 h3 h4 h5 h6 (dS PT) h7 h8 (dS PU) h9 (ic (h A s ρ _ _ hr R (.cst _) (.cons ha' (.cons hb' .nil))) λ v s' z=>?_)
 obtain ⟨h',tk',δ,σ',e,p,ff,R',av,xm,hn,q⟩:=z
 have hne:=p8 hn xm
 have z':Post W [] ρ s (QV W Q v) s':=⟨h',tk',δ,σ',e,p,ff,R',av,xm,q⟩
 cases v<;>first | exact (hne rfl).elim | exact z'
theorem aV.PV (O:W.Ok) {op:Operator} {a b:AV} {C f D fD g:Addr} {Q:AV→List AO→Prop} (ha:isRef a=true) (hb:isRef b=true) (ta:c8 W a (.ref C)) (tb:c8 W b (.ref D)) (hk:Bd W.K op C f D fD=true)
 (hg:(findIn W.K (.ref D) (dunderR op.info.2)==some (some (.ref g))&&isFn W.K (.ref g))=true)
 (h:aq W d (.cst (.ref f)) [a,b] σ λ v σ'=>v=.cst .notImplemented∧aq W d (.cst (.ref g)) [b,a] σ' λ v σ'=>mw v=true∧Q v σ'):aV W d op a b σ Q:=λ A s ρ vs hr R hv=>by
 refine hv.ao λ va _ ha' hv=>?_
 refine hv.ao λ vb _ hb' hv=>?_
 refine bA.aU hv ?_
 obtain ⟨x,rfl⟩:=gq ha ha'
 obtain ⟨y,rfl⟩:=gq hb hb'
 unfold Bd at hk
 simp only [Bool.and_eq_true,beq_iff_eq,bne_iff_ne,ne_eq] at hk hg
 obtain ⟨⟨⟨⟨⟨⟨⟨⟨h1,h2⟩,h3⟩,h4⟩,h5⟩,h6⟩,h7⟩,h8⟩,h9⟩:=hk
 obtain ⟨rc,h6,PT⟩:=any_some h6
 obtain ⟨rd,h8,PU⟩:=any_some h8
 have X:=R.qM O
 refine Bc X (ta _ _ _ X ha' W.M) (tb _ _ _ X hb' W.M) h1 h2 h3 h4 h5 h6 (dS PT) h7 h8 (dS PU) h9 (ic (h A s ρ _ _ hr R (.cst _) (.cons ha' (.cons hb' .nil))) λ v s' z=>?_)
 obtain ⟨h',tk',δ,σ',e,p,ff,R',av,xm,rfl,q⟩:=z
 subst e
 refine VR.bh xm ?_
 have X':=R'.qM O
 have MG:=ha'.mono (δ:=δ) R.muts p
 have Dy:=hb'.mono (δ:=δ) R.muts p
 refine ⟨ta _ _ _ X' MG W.M,tb _ _ _ X' Dy W.M,?_⟩
 refine Bb (s:={ s with heap:=h',toks:=tk' }) X' (tb _ _ _ X' Dy W.M) hg.1 hg.2 (ic (q A _ _ _ _ hr R' (.cst _) (.cons Dy (.cons MG .nil))) λ v ia z=>?_)
 obtain ⟨br,bB,δ₂,aj,mq,aZ,bQ,R₂,av,xm,hn,dG⟩:=z
 have hne:=p8 hn xm
 have z':Post W [] ρ s (QV W Q v) ia:=Post.chain p ff ⟨br,bB,δ₂,aj,mq,aZ,bQ,R₂,av,xm,dG⟩
 cases v<;>first | exact (hne rfl).elim | exact ⟨_,rfl,z'⟩
noncomputable def xZ (K:Frag) (C:Addr):Bool:=(findIn K (.ref C) "__bool__" == some none)&&(findIn K (.ref C) "__len__" == some none)
theorem bw.ref (O:W.Ok) {a:AV} {C:Addr} {Q:Bool→List AO→Prop} (ha:isRef a=true) (ta:c8 W a (.ref C)) (hk:xZ W.K C=true) (q:Q true σ):bw W d a σ Q:=λ A s ρ v hr R hv=>by
 obtain ⟨x,rfl⟩:=gq ha hv
 unfold xZ at hk
 simp only [Bool.and_eq_true,beq_iff_eq] at hk
 have X:=R.qM O
 have T:=ta _ _ _ X hv W.M
 unfold truthy
 refine wpAny_bind (m:=callSpecial? (.ref x) (Str.ofString "__bool__")) (wpAny_bind (wpAny_bind (T.here ((looks_findIn X hk.1).here (wpAny_pure ?_)))))
 refine wpAny_bind (wpAny_bind (T.here ((looks_findIn X hk.2).here ?_)))
 exact wpAny_pure (a:=true) (Post.here R q s.toks)
theorem bw.lst {n:Nat} {xs:List AV} {Q:Bool→List AO→Prop} (e:σ[n]? = some (.lst xs)) (hz:xs.length≤1000000) (q:Q (!xs.isEmpty) σ):bw W d (.lst n) σ Q:=λ A s ρ v hr R hv=>by
 refine hv.gP λ a ea=>?_
 obtain ⟨ws,m,e2,v⟩:=aP R e ea
 refine wpAny_truthy_list (items:=ws.toArray) ⟨_,e2,rfl,_,rfl⟩ (by rw [List.size_toArray,v.length]; lia) ?_
 have:(!ws.toArray.isEmpty) = !xs.isEmpty:=by
  have hl:=v.length
  cases ws<;>cases xs<;>first | rfl | cases hl
 rw [this]; exact Post.here R q _
theorem cM.assert {t:Expr} {m:Option Expr} {pos:Pos} {Q:Fl→En→List AO→Prop} (h:cD W d env t η σ λ c σ'=>c=true∧Q .next η σ'):cM W d env (.Assert t m pos) η σ Q:=λ A s ρ hr R F=>by
 refine wpAny_Assert_holds (aQ (h A s ρ hr R F) λ c h₁ tk₁ δ aa p f R₁ ⟨e,q⟩=>⟨e,?_⟩)
 exact Post.A5 (Post.chain p f (Post.here (s:={ s with heap:=h₁,toks:=tk₁ }) R₁ ⟨.next,η,F.mono R.muts p f,.next,q⟩ tk₁))
theorem cM.expr {e:Expr} {pos:Pos} {Q:Fl→En→List AO→Prop} (hi:interactive env=false) (hs:swapsWith e none pos.line env=pure false) (h:aW W d env e η σ λ _ σ'=>Q .next η σ'):cM W d env (.Expr e pos) η σ Q:=λ A s ρ hr R F=>by
 refine wpAny_Expr_any (aQ (h A s ρ hr R F) λ c h₁ tk₁ δ aa p f R₁ ⟨a,va,q⟩=>?_) hi hs
 exact Post.A5 (Post.chain p f (Post.here (s:={ s with heap:=h₁,toks:=tk₁ }) R₁ ⟨.next,η,F.mono R.muts p f,.next,q⟩ tk₁))
theorem cM.Dz {elts:List Expr} {k:Nat} {tpos pos:Pos} {e:Expr} {Q:Fl→En→List AO→Prop} (hs:swapsWithSole [.Tuple elts k tpos] e pos.line env=pure false) (hw:swappedStores [.Tuple elts k tpos] e env=pure none)
 (h:aW W d env e η σ λ v aa=>yO W d env (.Tuple elts k tpos) v η aa λ η' aj=>Q .next η' aj):cM W d env (.Assign [.Tuple elts k tpos] e pos) η σ Q:=λ A s ρ hr R F=>by
 refine Assign_Tuple (aQ (h A s ρ hr R F) λ v h₁ tk₁ δ aa p f R₁ ⟨a,va,q⟩=>?_) hs hw
 refine ic (q A _ _ _ hr R₁ (F.mono R.muts p f) va) λ _ ia z=>?_
 refine Post.chain (p.weaken λ a ha=>List.mem_append_right _ ha) f (Post.mono z λ ρ' σ' h' ⟨η',F',q'⟩=>⟨.next,η',F',.next,q'⟩)
end
noncomputable def cF:En→Str→Option AV
 | [],_=>none
 | (y,_,o) :: r,x=>if y==x then o else cF r x
noncomputable def MH (y:Str) (v:AV) (r:En):NK→Option En
 | .loc=>some ((y,.loc,some v) :: r)
 | .vM=>some ((y,.vM,some v) :: r)
 | .Fo=>none
noncomputable def MI (e:Str×NK×Option AV):Option En→Option En
 | some r=>some (e :: r)
 | none=>none
noncomputable def p9:En→Str→AV→Option En
 | [],_,_=>none
 | (y,k,o) :: r,x,v=>if y==x then MH y v r k else MI (y,k,o) (p9 r x v)
theorem bV {x:Str} {v:AV}:∀ {η:En},cF η x=some v→ud η x v
 | [],h=>by exact aT h
 | (y,k,o) :: r,h=>by
  change (if (y==x)=true then o else cF r x)=some v at h
  by_cases e:(y==x)=true
  · rw [if_pos e] at h; rw [beq_iff_eq] at e; subst e; subst h; exact .hd
  · rw [if_neg e] at h; exact .tl (bV h)
theorem gu {x:Str} {v:AV}:∀ {η η':En},p9 η x v=some η'→Up η x v η'
 | [],_,h=>by exact aT h
 | (y,k,o) :: r,η',h=>by
  change (if (y==x)=true then MH y v r k else MI (y,k,o) (p9 r x v))=some η' at h
  by_cases e:(y==x)=true
  · rw [if_pos e] at h
    rw [beq_iff_eq] at e; subst e
    cases k with
    | loc=>refine sE h ?_; exact .loc
    | vM=>refine sE h ?_; exact .vM
    | Fo=>exact aT h
  · rw [if_neg e] at h
    cases hr:p9 r x v with
    | some r'=>rw [hr] at h; refine sE h ?_; exact .tl (gu hr)
    | none=>rw [hr] at h; exact aT h
noncomputable def fJ:List Str→List AV→En→Option En
 | [],[],η=>some η
 | x :: xs,v :: vs,η=>(p9 η x v).bind λ η'=>fJ xs vs η'
 | _,_,_=>none
section
variable {W:Wl} {d:Nat} {env:Env} {η:En} {σ:List AO}
set_option tactic.hygienic true in
theorem B5 {A:Around} (names:List Str):∀ (vs:List AV) (η η':En),fJ names vs η=some η'→∀ (s:Shared) (ρ:List Addr) (ws:List Value),aK W ρ σ s.heap→dw W env η ρ s.heap→bA W.hid ρ s.heap vs ws →
 wpAny W.M A (assignInOrder (names.map λ n=>bindName env n) ws) (λ _ s'=>Post W (addrs env) ρ s (λ ρ' σ' h'=>dw W env η' ρ' h'∧σ'=σ) s') lQ s:=by
 induction names with
 | nil =>
  intro vs η η' h s ρ ws R F hv
  cases vs with
  | nil =>
   refine sE h ?_
   refine bA.aU hv ?_
   exact wpAny_pure (a:=()) (Post.here R ⟨F,rfl⟩ s.toks)
  | cons=>exact aT h
 | cons x xs ih =>
  intro vs η η' h s ρ ws R F hv
  cases vs with
  | nil=>exact aT h
  | cons v vs =>
   refine hv.ao λ w ws hv hvs=>?_
   obtain ⟨η₁,h1,h⟩:=cC (show ((p9 η x v).bind λ η'=>fJ xs vs η')=some η' from h)
   show wpAny _ _ (do holding ws (bindName env x w); assignInOrder _ ws) _ _ _
   refine wpAny_bind (wpAny_holding (PyProof.Rows.bindName_ (Dp (eE (Q:=λ ρ' σ' h'=>dw W env η₁ ρ' h'∧σ'=σ) (gu h1) R F hv λ h' F' R'=>⟨F',rfl⟩) λ _ h₁ tk₁ δ aa p f R₁ ⟨gK,e⟩=>?_)))
   subst e
   exact wpAny_mono (ih vs η₁ η' h _ _ _ R₁ gK (hvs.mono (F.BV.append R.muts) p)) (λ _ _ z=>Post.chain p f z) λ _ _ x=>x
theorem cM.Ae {elts:List Expr} {k:Nat} {tpos pos:Pos} {e:Expr} {names:List Str} {Q:Fl→En→List AO→Prop} (hs:swapsWithSole [.Tuple elts k tpos] e pos.line env=pure false) (hw:swappedStores [.Tuple elts k tpos] e env=pure (some names))
 (h:aW W d env e η σ λ v aa=>∃ vs η',v=.tup vs∧vs.length=names.length∧fJ names.reverse vs.reverse η=some η'∧Q .next η' aa):cM W d env (.Assign [.Tuple elts k tpos] e pos) η σ Q:=λ A s ρ hr R F=>by
 refine Assign_Tuple_swapped (names:=names) (aQ (h A s ρ hr R F) λ v h₁ tk₁ δ aa p f R₁ ⟨a,va,vs,η',e1,hl,hη,q⟩=>?_) hs hw
 subst e1
 refine va.A3 λ ws a n e hx hvs=>?_
 have hn:names.length=ws.toArray.size:=by rw [List.size_toArray,hvs.length,hl]
 rw [hn]
 refine qx (wpAny_unpackItems_tuple (s:={ s with heap:=h₁,toks:=tk₁ }) hr.handled (items:=ws.toArray) ⟨_,e,rfl,_,rfl⟩ λ h' he hsz=>?_)
 have hsz:h₁.objs.size≤h'.objs.size:=hsz
 have qW:aJ (ρ++δ) h₁ h':=rY he rZ hsz
 have R':=R₁.keeps (rY (ρ:=[]) he rZ hsz)
 have F':=(F.mono R.muts p f).mono (δ:=[]) R₁.muts qW (λ _ h=>nomatch h)
 rw [List.append_nil] at F'
 have hv':=hvs.mono (δ:=[]) R₁.muts qW
 rw [List.append_nil] at hv'
 have rev:∀ {as:List AV} {us:List Value},bA W.hid (ρ++δ) h' as us→∀ {bs:List AV} {xs:List Value},bA W.hid (ρ++δ) h' bs xs→bA W.hid (ρ++δ) h' (as.reverseAux bs) (us.reverseAux xs):=by
  intro as
  induction as with
  | nil=>intro us hu bs xs hb; refine bA.aU hu ?_; exact hb
  | cons a as ih =>
   intro us hu bs xs hb
   exact hu.ao λ _ _ q1 q2=>by exact ih q2 (.cons q1 hb)
 have PW:bA W.hid (ρ++δ) h' vs.reverse ws.reverse:=rev hv' .nil
 refine ic (B5 names.reverse vs.reverse η η' hη { s with heap:=h',toks:=tk₁ } _ _ R' F' PW) λ _ ia z=>?_
 refine Post.chain (p.weaken λ a ha=>List.mem_append_right _ ha) f (Post.chain (s:={ s with heap:=h₁,toks:=tk₁ }) (δ:=[]) (tk₁:=tk₁) (qW.weaken λ a ha=>List.mem_append_right _ ha) (λ _ h=>nomatch h) ?_)
 rw [List.append_nil]
 exact Post.mono z λ ρ' σ' h'' ⟨F₂,e2⟩=>⟨.next,η',F₂,.next,by rw [e2]; exact q⟩
noncomputable def DA (K:Frag) (x:Addr):Option (Addr×Addr):=(K.lookup x).bind λ o=>(wH o.cls).bind λ C=>o.dict.bind λ dx=>if PG o.data then some (C,dx) else none
theorem zq {K:Frag} {x C dx:Addr} (h:DA K x=some (C,dx)):∃ sl,K.lookup x=some ⟨.ref C,some dx,.plain,sl⟩:=by
 obtain ⟨⟨c,d,dt,sl⟩,e,h⟩:=cC h
 obtain ⟨C',e1,h⟩:=cC h
 obtain ⟨x',e2,h⟩:=cC h
 obtain ⟨e3,h⟩:=FT h
 cases h
 obtain rfl:c=.ref C:=gM e1
 obtain rfl:d=some dx:=e2
 obtain rfl:dt=.plain:=Dj e3
 exact ⟨sl,e⟩
noncomputable def F6 (o:Option (Option Value)):Option Addr:=o.bind λ o=>o.bind wH
theorem ya {o:Option (Option Value)} {f:Addr} (h:F6 o=some f):o=some (some (.ref f)):=by
 obtain ⟨p,e,h⟩:=cC h
 obtain ⟨v,e',h⟩:=cC h
 rw [e,e',gM h]
noncomputable def qa (K:Frag) (C:Addr) (name:Str):Bool:=plainGet K C name&&hasDictIn K C&&(findIn K (.ref C) name).any λ attr=>noGet K attr
noncomputable def Be (K:Frag) (x:Addr) (name:Str):Option Value:=(DA K x).bind λ p=>(K.lookup p.2).bind λ o=>(lookIn name o).join.bind λ v=>if handedIn v&&qa K p.1 name then some v else none
noncomputable def vQ:Value→AV
 | .none=>.none
 | .bool b=>.bool b
 | .int i _=>.int i
 | v=>.cst v
theorem Bf {ρ:List Addr} {h:Heap} (v:Value):VR W.hid ρ h (vQ v) v:=by
 cases v<;>first | exact .none | exact .bool _ | exact .int _ _ | exact .cst _
theorem gQ.base (O:W.Ok) {x:Addr} {name:Str} {v:Value} {Q:AV→List AO→Prop} (hk:Be W.K x name=some v) (q:Q (vQ v) σ):gQ W d (.cst (.ref x)) name σ Q:=λ A s ρ ov ex hr R hv=>by
 refine VR.bh hv ?_
 obtain ⟨⟨C,dx⟩,h0,hk⟩:=Option.bind_eq_some_iff.mp hk
 obtain ⟨o,hod,hk⟩:=Option.bind_eq_some_iff.mp hk
 obtain ⟨v',hl,hk⟩:=Option.bind_eq_some_iff.mp hk
 obtain ⟨sl,ho⟩:=zq h0
 have hl:=Option.join_eq_some_iff.mp hl
 cases hc:handedIn v'&&qa W.K C name with
 | false=>rw [show (handedIn v'&&qa W.K (C,dx).1 name)=false from hc,if_neg Bool.false_ne_true] at hk; exact nomatch hk
 | true =>
  rw [show (handedIn v'&&qa W.K (C,dx).1 name)=true from hc,if_pos rfl] at hk
  cases hk
  obtain ⟨hh,hf⟩:=Bool.and_eq_true_iff.mp hc
  unfold qa at hf
  rw [Bool.and_eq_true,Bool.and_eq_true] at hf
  obtain ⟨⟨h1,h2⟩,h3⟩:=hf
  obtain ⟨attr,h4,h5⟩:=any_some h3
  have X:=R.qM O
  have I:InstAt s.heap x _ C (some o):=⟨X _ _ ho,rfl,rfl,X _ _ hod⟩
  exact get_value X I (plainGet_of h1).1 (findObj_own h2 h4 h5 hl) hh (Post.here R ⟨_,Bf v,q⟩ _)
noncomputable def DB (K:Frag) (x:Addr) (name:Str):Option Addr:=(DA K x).bind λ p=>(K.lookup p.2).bind λ o=>(F6 (findIn K (.ref p.1) name)).bind λ f=>if plainGet K p.1 name&&isFn K (.ref f)&&keepIn K (.ref f)&&(lookIn name o==some none) then some f else none
theorem cI.base (O:W.Ok) {x f:Addr} {name:Str} {Q:AV→List AV→List AO→Prop} (hk:DB W.K x name=some f) (q:Q (.cst (.ref f)) [.cst (.ref x)] σ):cI W d (.cst (.ref x)) name σ Q:=λ A s ρ v pl hr R hv=>by
 refine VR.bh hv ?_
 obtain ⟨⟨C,dx⟩,h0,hk⟩:=Option.bind_eq_some_iff.mp hk
 obtain ⟨o,hod,hk⟩:=Option.bind_eq_some_iff.mp hk
 obtain ⟨f',hf,hk⟩:=Option.bind_eq_some_iff.mp hk
 obtain ⟨sl,ho⟩:=zq h0
 have hf:=ya hf
 cases hc:plainGet W.K C name&&isFn W.K (.ref f')&&keepIn W.K (.ref f')&&(lookIn name o==some none) with
 | false=>rw [show (plainGet W.K (C,dx).1 name&&isFn W.K (.ref f')&&keepIn W.K (.ref f')&&(lookIn name o==some none))=false from hc,if_neg Bool.false_ne_true] at hk; exact nomatch hk
 | true =>
  rw [show (plainGet W.K (C,dx).1 name&&isFn W.K (.ref f')&&keepIn W.K (.ref f')&&(lookIn name o==some none))=true from hc,if_pos rfl] at hk
  cases hk
  simp only [Bool.and_eq_true,beq_iff_eq] at hc
  obtain ⟨⟨⟨h1,h2⟩,h3⟩,h4⟩:=hc
  have X:=R.qM O
  have I:InstAt s.heap x _ C (some o):=⟨X _ _ ho,rfl,rfl,X _ _ hod⟩
  refine method_fn X I (plainGet_of h1).1 (plainGet_of h1).2 hf (beq_iff_eq.mp h2) ?_ (Post.here R ⟨_,_,.cst _,.cons (.cst _) .nil,cN.ref h3,q⟩ s.toks)
  show (lookIn name o).map _=_
  rw [h4]; rfl
end
section
variable {W:Wl} {d:Nat} {env:Env} {η:En} {σ:List AO}
theorem qQ (O:W.Ok) {A:Around} {s:Shared} {ρ:List Addr} {x:Str} {T:String} {p pos:Pos} {args:List Expr} {B:Value→Shared→Prop} {Q:List AV→List AO→Prop} (hx:ud η x (.cst (.type T))) (hu:args.all aB=true)
 (hr:Rm d A) (R:aK W ρ σ s.heap) (F:dw W env η ρ s.heap) (h:ee W d env pos args η σ Q)
 (k:∀ ws h₁ tk₁ δ aa as,aJ ρ s.heap h₁→(∀ a∈δ,s.heap.objs.size≤a)→aK W (ρ++δ) aa h₁→bA W.hid (ρ++δ) h₁ as ws→Q as aa→wpAny W.M A (call (.type T) ws) B lQ { s with heap:=h₁,toks:=tk₁ }) :
 wpAny W.M A (eval (.Call (.Name x p) args [] pos) env) B lQ s:=by
 show wpAny _ _ (do callWith pos (← eval (.Name x p) env) [] (backTo pos (starEach args env)) []) _ _ _
 refine wpAny_bind (wpAny_Name (fY O hx R F λ w z=>?_) (hx.Fp F))
 refine VR.bh z ?_
 refine callWith_of (P:=λ _=>True) (by rw [noStar hu]; rfl) (λ h _=>⟨.machine,.inr (.inl rfl),Looks.of_pure rfl⟩) ?_
 refine p6 hu (aQ (h A s ρ hr R F) λ ws h₁ tk₁ δ aa p tD R₁ ⟨as,vs,q⟩=>⟨trivial,?_⟩)
 exact k ws h₁ tk₁ δ aa as p tD R₁ vs q
theorem ee.one {pos:Pos} {e:Expr} {Q:AV→List AO→Prop} (hu:aB e=true) (h:aW W d env e η σ Q):ee W d env pos [e] η σ λ as aa=>∃ a,as=[a]∧Q a aa :=
 ee.cons (h.mono λ v σ' q=>ee.nil ⟨v,rfl,q⟩) hu
noncomputable def Wl.hide (W:Wl) (a:Addr):Wl:={ W with hid:=a :: W.hid }
theorem Wl.Ok.hide (O:W.Ok) (a:Addr):(W.hide a).Ok:=⟨O.qM,O.g,O.b,O.blt,O.lim,O.tab⟩
theorem VR.Af {X ρ:List Addr} {h:Heap} {t:Addr} (ht:h.objs.size≤t) {a:AV} {v:Value} (x:VR X ρ h a v):VR (t :: X) ρ h a v :=
 x.conv (λ _ _ e=>e) (λ _ _ e _=>e) λ a ws n e hx=>⟨e,λ m=>(List.mem_cons.mp m).elim (λ q=>absurd (Heap.lt_size e) (Nat.not_lt.mpr (q▸ht))) hx⟩
theorem VR.cg {X ρ:List Addr} {h:Heap} {t:Addr} {a:AV} {v:Value} (x:VR (t :: X) ρ h a v):VR X ρ h a v :=
 x.conv (λ _ _ e=>e) (λ _ _ e _=>e) λ a ws n e hx=>⟨e,λ m=>hx (.tail _ m)⟩
theorem w7.map {X Y ρ:List Addr} {h:Heap} (f:∀ {a v},VR X ρ h a v→VR Y ρ h a v) {fs:List (Str×AV)} {ds:List DictEntry} (x:w7 X ρ h fs ds):w7 Y ρ h fs ds:=by
 induction x with
 | nil=>exact .nil
 | cons k v _ ih=>exact .cons k (f v) ih
theorem zZ.map {X Y ρ:List Addr} {h:Heap} (f:∀ {a v},VR X ρ h a v→VR Y ρ h a v) {fs:List (Int×AV)} {ds:List DictEntry} (x:zZ X ρ h fs ds):zZ Y ρ h fs ds:=by
 induction x with
 | nil=>exact .nil
 | cons k v _ ih=>exact .cons k (f v) ih
theorem bA.map {X Y ρ:List Addr} {h:Heap} (f:∀ {a v},VR X ρ h a v→VR Y ρ h a v) {a:List AV} {v:List Value} (x:bA X ρ h a v):bA Y ρ h a v:=x.each f
theorem OR.map {X Y ρ:List Addr} {h:Heap} (f:∀ {a v},VR X ρ h a v→VR Y ρ h a v):∀ {a:AO} {o:Obj},OR X ρ h a o→OR Y ρ h a o
 | .lst _,_,⟨ws,n,e,r⟩=>⟨ws,n,e,r.map f⟩
 | .dct _,_,⟨ws,n,e,r,nd⟩=>⟨ws,n,e,r.map f,nd⟩
 | .inst _,_,⟨ws,n,e,r⟩=>⟨ws,n,e,r.map f⟩
 | .tab _ _,_,h=>h
theorem b7.Af {X:List Addr} {h:Heap} {S:List Addr} {t:Addr} (M:b7 X h S):b7 (t :: X) h S:=λ a ha=>by
 obtain ⟨o,e,q⟩:=M a ha
 refine ⟨o,e,?_⟩
 rcases q with q | ⟨q,z⟩
 · exact .inl q
 · exact .inr ⟨q,.tail _ z⟩
theorem dw.hide {X:List Addr} {ρ:List Addr} {h:Heap} (f:∀ {a v},VR W.hid ρ h a v→VR X ρ h a v) (F:dw W env η ρ h) (hm:b7 X h (addrs env)):dw { W with hid:=X } env η ρ h:=by
 refine ⟨F.ok,F.out,F.lt,F.A4,hm,?_,λ x v hv=>?_,F.vO⟩
 · obtain ⟨m,hn,q⟩:=F.locs
   exact ⟨m,hn,λ x v hv=>let ⟨w,e,z⟩:=q x v hv; ⟨w,e,f z⟩⟩
 · obtain ⟨c,w,e1,e2,e3⟩:=F.cells x v hv
   exact ⟨c,w,e1,e2,λ a ha=>let ⟨w',q,z⟩:=e3 a ha; ⟨w',q,f z⟩⟩
theorem b7.cg {X:List Addr} {h:Heap} {S:List Addr} {t:Addr} (M:b7 (t :: X) h S) (ht:t∉S):b7 X h S:=λ a ha=>by
 obtain ⟨o,e,q⟩:=M a ha
 refine ⟨o,e,?_⟩
 rcases q with q | ⟨q,z⟩
 · exact .inl q
 · rcases List.mem_cons.mp z with z | z
   · exact absurd (z▸ha) ht
   · exact .inr ⟨q,z⟩
theorem aK.cg {ρ:List Addr} {h:Heap} {t:Addr} (R:aK (W.hide t) ρ σ h):aK W ρ σ h :=
 ⟨R.base,R.fresh,R.len,R.nodup,λ a ha=>R.qy a (.tail _ ha),λ n o e=>let ⟨a,ob,e1,e2,r⟩:=R.objs n o e; ⟨a,ob,e1,e2,r.map λ q=>q.cg⟩,R.tabs⟩
theorem dw.cg {ρ:List Addr} {h:Heap} {t:Addr} (F:dw (W.hide t) env η ρ h) (ht:t∉addrs env):dw W env η ρ h :=
 dw.hide (W:=W.hide t) (X:=W.hid) (λ q=>VR.cg q) F (b7.cg F.BV ht)
theorem K7 {a b:Nat} (h:a<b):a<b:=h
theorem DC {a b:Nat} (h:a≤b):a≤b:=h
theorem Ft {a b:Nat} (h:a≠b):a≠b:=h
theorem neq {a b:Nat} (h:a=b):a=b:=h
structure qz (X ρ:List Addr) (h:Heap) (b n1 n2 i:Nat):Prop where
 z:IsZip h (b+4) (b+2) (b+3) .none
 ti:IsPair h (b+2) (.ref b) (.ref (b+1))
 to:∃ x y,IsPair h (b+3) x y
 Tv:∃ a,ρ[n1]? = some a∧h.IsListIter b a i
 Tw:∃ a,ρ[n2]? = some a∧h.IsListIter (b+1) a i
 hx:b+3∈X
noncomputable def B6 (b:Addr):List Addr:=[b+4,b+3,b,b+1]
theorem F7 (b:Addr):∀ a∈B6 b,b≤a∧a≤b+4:=List.forall_mem_cons.mpr ⟨⟨Nat.le_add_right ..,Nat.le_refl _⟩,List.forall_mem_cons.mpr ⟨⟨Nat.le_add_right ..,Nat.le_succ _⟩,List.forall_mem_cons.mpr ⟨⟨Nat.le_refl _,Nat.le_add_right ..⟩,List.forall_mem_cons.mpr ⟨⟨Nat.le_succ _,Nat.add_le_add_left (by decide) b⟩,λ _ h=>nomatch h⟩⟩⟩⟩
theorem PX {a b:Nat} (h1:b≤a) (h2:a≤b+4):a=b∨a=b+1∨a=b+2∨a=b+3∨a=b+4:=by
 obtain ⟨k,rfl⟩:=Nat.exists_eq_add_of_le h1
 match k,Nat.le_of_add_le_add_left h2 with
 | 0,_=>exact .inl rfl
 | 1,_=>exact .inr (.inl rfl)
 | 2,_=>exact .inr (.inr (.inl rfl))
 | 3,_=>exact .inr (.inr (.inr (.inl rfl)))
 | 4,_=>exact .inr (.inr (.inr (.inr rfl)))
theorem qz.muts {X ρ:List Addr} {h:Heap} {b n1 n2 i:Nat} (Z:qz X ρ h b n1 n2 i):b7 X h (B6 b):=λ a ha=>by
 unfold B6 at ha
 simp only [List.mem_cons,List.not_mem_nil,or_false] at ha
 obtain ⟨x,y,hp⟩:=Z.to
 obtain ⟨a1,_,o1,e1,c1,d1⟩:=Z.Tv
 obtain ⟨a2,_,o2,e2,c2,d2⟩:=Z.Tw
 rcases ha with rfl | rfl | rfl | rfl
 · exact ⟨_,Z.z,.inl rfl⟩
 · exact ⟨_,hp,.inr ⟨rfl,Z.hx⟩⟩
 · exact ⟨o1,e1,.inl (lq c1 (by decide) d1).1⟩
 · exact ⟨o2,e2,.inl (lq c2 (by decide) d2).1⟩
theorem qz.mono {X ρ δ S:List Addr} {h h':Heap} {b n1 n2 i:Nat} (P:aJ S h h') (Z:qz X ρ h b n1 n2 i) (hs:∀ a,b≤a→a≤b+4→a∉S):qz X (ρ++δ) h' b n1 n2 i:=by
 obtain ⟨z,ti,⟨x,y,to⟩,⟨a1,p1,o1,e1,r1⟩,⟨a2,p2,o2,e2,r2⟩,hx⟩:=Z
 exact ⟨P.keep _ _ z (hs _ (Lq.nr _ _) (by lia)),P.keep _ _ ti (hs _ (Lq.nr _ _) (by lia)),⟨x,y,P.keep _ _ to (hs _ (Lq.nr _ _) (by lia))⟩,⟨a1,cE _ _ _ p1,o1,P.keep _ _ e1 (hs _ (by lia) (Lq.nr _ _)),r1⟩,
  ⟨a2,cE _ _ _ p2,o2,P.keep _ _ e2 (hs _ (Lq.nr _ _) (Lq.Lj (by decide))),r2⟩,hx⟩
theorem Hv.cg {ρ:List Addr} {h:Heap} {t:Addr} {fl:Fl} {f:Flow} (x:Hv (W.hide t) ρ h fl f):Hv W ρ h fl f:=by
 cases x with
 | next=>exact .next
 | brk=>exact .brk
 | cont=>exact .cont
 | ret hv=>exact .ret (VR.cg hv)
theorem Post.cg {S ρ:List Addr} {s s':Shared} {t:Addr} {Q:Fl→En→List AO→Prop} {f:Flow} (z:Post (W.hide t) S ρ s (QF (W.hide t) env Q f) s') (ht:t∉addrs env):Post W S ρ s (QF W env Q f) s':=by
 obtain ⟨h',tk',δ,σ',e,p,ff,R',fl,η',F',fx,q⟩:=z
 exact ⟨h',tk',δ,σ',e,p,ff,R'.cg,fl,η',F'.cg ht,fx.cg,q⟩
theorem dw.keepsBut {ρ S:List Addr} {h h':Heap} (F:dw W env η ρ h) (P:aJ S h h') (M:b7 W.hid h S) (hS:∀ a∈S,a∉addrs env):dw W env η ρ h':=by
 have no:∀ a∈addrs env,a∉S:=λ a ha m=>hS a m ha
 refine ⟨F.ok,F.out,λ a ha=>Nat.lt_of_lt_of_le (F.lt a ha) P.size,F.A4,λ a ha=>?_,?_,λ x v hv=>?_,F.vO⟩
 · obtain ⟨o,e,q⟩:=F.BV a ha
   exact ⟨o,P.keep _ _ e (no a ha),q⟩
 · obtain ⟨m,⟨o,es,ep,ho,r⟩,hv⟩:=F.locs
   refine ⟨m,⟨o,es,ep,P.keep _ _ ho (no _ (.head _)),r⟩,λ x v q=>?_⟩
   obtain ⟨w,e,z⟩:=hv x v q
   exact ⟨w,e,z.one M P⟩
 · obtain ⟨c,w,e1,⟨o,ho,hd⟩,e3⟩:=F.cells x v hv
   have hc:c∈addrs env:=List.mem_cons_of_mem _ (List.mem_map.mpr ⟨(x,c),mem_of_lookup e1,rfl⟩)
   refine ⟨c,w,e1,⟨o,P.keep _ _ ho (no _ hc),hd⟩,λ a ha=>?_⟩
   obtain ⟨w',q,z⟩:=e3 a ha
   exact ⟨w',q,z.one M P⟩
def PY (Inv:Nat→En→List AO→Prop) (i:Nat) (Q:Fl→En→List AO→Prop):Fl→En→List AO→Prop:=λ fl η₂ aj=>match fl with
 | .next | .cont=>∃ η₃,Wk η₃ η₂∧Inv (i+1) η₃ aj
 | .brk=>Q .next η₂ aj
 | .ret v=>Q (.ret v) η₂ aj
inductive JG (W:Wl) (d:Nat) (env:Env) (elts:List Expr) (tk:Nat) (tpos:Pos) (body orelse:List Stmt) (η:En) (Q:Fl→En→List AO→Prop):AV→AV→List AO→Prop
 | mk (n1 n2:Nat) (xs ys:List AV) (Inv:Nat→En→List AO→Prop) {aj:List AO} (η₀:En) (wk:Wk η₀ η) (inv:Inv 0 η₀ aj) (hl:∀ i η σ,Inv i η σ→σ[n1]? = some (.lst xs)∧σ[n2]? = some (.lst ys))
  (item:∀ t i η σ,Inv i η σ→∀ x y,xs[i]? = some x→ys[i]? = some y→yO (W.hide t) d env (.Tuple elts tk tpos) (.tup [x,y]) η σ λ η₁ aa=>dD (W.hide t) d env body η₁ aa (PY Inv i Q))
  (stop:∀ t i η σ,Inv i η σ→xs[i]? = none∨ys[i]? = none→dD (W.hide t) d env orelse η σ Q):JG W d env elts tk tpos body orelse η Q (.lst n1) (.lst n2) aj
theorem PZ {α β:Type} (a:Option α) (b:Option β):(a=none∨b=none)∨∃ x y,a=some x∧b=some y:=by
 cases a with
 | none=>exact .inl (.inl rfl)
 | some x=>cases b with
  | none=>exact .inl (.inr rfl)
  | some y=>exact .inr ⟨x,y,rfl,rfl⟩
inductive MJ (W:Wl) (env:Env) (Inv:Nat→En→List AO→Prop) (b n1 n2 L n:Nat) (ρ':List Addr) (σ':List AO) (h':Heap):Prop
 | mk (i:Nat) (η':En) (e:n=L-i) (F:dw (W.hide (b+3)) env η' ρ' h') (Z:qz ((b+3) :: W.hid) ρ' h' b n1 n2 i) (q:Inv i η' σ'):MJ W env Inv b n1 n2 L n ρ' σ' h'
theorem cM.JH (O:W.Ok) {x:Str} {p cpos pos tpos:Pos} {elts:List Expr} {tk:Nat} {e1 e2:Expr} {body orelse:List Stmt} {Q:Fl→En→List AO→Prop}
 (hx:ud η x (.cst (.type "zip"))) (hu:(aB e1&&aB e2)=true)
 (h:aW W d env e1 η σ λ a aa=>aW W d env e2 η aa λ b aj=>JG W d env elts tk tpos body orelse η Q a b aj) :
 cM W d env (.For (.Tuple elts tk tpos) (.Call (.Name x p) [e1,e2] [] cpos) body orelse pos) η σ Q:=λ A s ρ hr R F=>by
 have UO:=hu
 rw [Bool.and_eq_true] at hu
 have hargs:ee W d env cpos [e1,e2] η σ λ as aj=>∃ a b,as=[a,b]∧JG W d env elts tk tpos body orelse η Q a b aj :=
  ee.cons (h.mono λ a aa q2=>ee.cons (q2.mono λ b aj q4=>ee.nil ⟨a,b,rfl,q4⟩) hu.2) hu.1
 refine wpAny_For (qQ O hx (by simp [hu]) hr R F hargs λ ws h₁ tk₁ δ aa as qW tD R₁ vs ⟨a,b,ea,hz⟩=>?_) (λ _=>rfl)
 subst ea
 cases hz with | mk n1 n2 xs ys Inv η₀ wk inv hl item stp =>
 refine vs.ao λ _ _ va vs=>?_
 refine vs.ao λ _ _ vb vs=>?_
 refine bA.aU vs ?_
 refine va.gP λ a1 K8=>?_
 refine vb.gP λ a2 K9=>?_
 refine aG λ G kG=>?_
 obtain ⟨l1,l2⟩:=hl _ _ _ inv
 obtain ⟨P4,m1,g1,v1⟩:=aP R₁ l1 K8
 obtain ⟨P5,m2,g2,v2⟩:=aP R₁ l2 K9
 refine kG ?_
 clear kG
 refine call_zip_2 (s:={ s with heap:=h₁,toks:=tk₁ }) (xs:=P4.toArray) (ys:=P5.toArray) ⟨_,g1,rfl,_,rfl⟩ ⟨_,g2,rfl,_,rfl⟩ λ br z1 z2 z3 z4 z5 z6 z7=>?_
 refine wpAny_pyIter_zip (s:={ s with heap:=br,toks:=tk₁ }) z1 ?_
 have hge:s.heap.objs.size≤h₁.objs.size:=qW.size
 obtain ⟨b,hb⟩:∃ b,b=h₁.objs.size:=⟨_,rfl⟩
 dsimp only at z1 z2 z3 z4 z5 z6 z7
 rw [← hb] at z1 z2 z3 z4 z5 z6 hge ⊢
 have yM:∀ S,aJ S h₁ br:=λ S=>⟨DC (Lq.bZ (Lq.bZ (Nat.le_of_eq hb.symm) (Lq.nr _ _)) (Nat.le_of_eq z6.symm)),λ c o e _=>z7 c o e⟩
 have hin:∀ {ρ:List Addr} {a:AV} {v:Value},VR W.hid ρ h₁ a v→VR ((b+3) :: W.hid) ρ h₁ a v:=λ q=>q.Af (DC (Lq.bZ (Nat.le_of_eq hb.symm) (Lq.nr _ _)))
 have frs:∀ a,b≤a→W.hb.get? a=none:=λ a ha=>by
  cases q:W.hb.get? a with
  | none=>rfl
  | some o=>have:=K7 (Heap.lt_size (R.base _ _ q)); have:=DC ha; lia
 have P6:∀ a,b≤a→a∉addrs env:=λ a ha m=>by have:=K7 (F.lt a m); have:=DC ha; lia
 have R₂:aK (W.hide (b+3)) (ρ++δ) aa br:=by
  refine ⟨λ c o e=>z7 c o (R₁.base c o e),R₁.fresh,R₁.len,R₁.nodup,λ a ha=>?_,λ n o e=>?_,R₁.tabs⟩
  · refine K7 ?_
    rcases List.mem_cons.mp ha with q | q
    · have:=neq q; lia
    · have:=K7 (R₁.qy a q); exact Lq.xH (Lq.xH (Lq.xH this (Nat.le_of_eq hb.symm)) (Lq.nr _ _)) (Nat.le_of_eq z6.symm)
  · obtain ⟨a,ob,q1,q2,r⟩:=R₁.objs n o e
    have r':=(r.map (Y:=(b+3) :: W.hid) λ q=>hin q).mono (δ:=[]) (S:=[]) (λ _ h=>nomatch h) (yM [])
    rw [List.append_nil] at r'
    exact ⟨a,ob,q1,z7 _ _ q2,r'⟩
 have F₂:dw (W.hide (b+3)) env η₀ (ρ++δ) br:=by
  have Fa:=(F.mono R.muts qW tD).weak wk
  have Fb:dw (W.hide (b+3)) env η₀ (ρ++δ) h₁:=Fa.hide (X:=(b+3) :: W.hid) (λ q=>hin q) Fa.BV.Af
  exact Fb.keepsBut (S:=[]) (yM []) (λ _ h=>nomatch h) (λ _ h=>nomatch h)
 have aZ:aJ (addrs env++ρ) s.heap br:=(aJ.trans qW tD (yM _)).weaken λ a ha=>List.mem_append_right _ ha
 refine tK (W:=W) (λ n s'=>Post (W.hide (b+3)) (addrs env) ρ s (MJ W env Inv b n1 n2 xs.length n) s') ?_ (xs.length-0)
  ⟨br,tk₁,δ,aa,rfl,aZ,tD,R₂,0,η₀,rfl,F₂,⟨z1,z2,⟨_,_,z3⟩,⟨a1,K8,z4⟩,⟨a2,K9,z5⟩,.head _⟩,inv⟩
 intro n sJ ⟨fE,cz,δ₃,aE,t6,fF,f₃,R₃,i,η₃,hn,F₃,Z,inv⟩
 subst t6
 refine aG λ G kG=>?_
 obtain ⟨l1,l2⟩:=hl _ _ _ inv
 have zz:=Z
 obtain ⟨P7,P8,⟨px,py,RD⟩,⟨a1,K8,RE⟩,⟨a2,K9,RG⟩,_⟩:=zz
 obtain ⟨P4,m1,g1,v1⟩:=aP R₃ l1 K8
 obtain ⟨P5,m2,g2,v2⟩:=aP R₃ l2 K9
 have two:=PZ xs[i]? ys[i]?
 refine kG ?_
 clear kG
 have ns:∀ {ρ':List Addr} {σ':List AO} {h':Heap} {j:Nat},aK (W.hide (b+3)) ρ' σ' h'→qz ((b+3) :: W.hid) ρ' h' b n1 n2 j→∀ a,b≤a→a≤b+4→a∉ρ':=λ R' Z' a h1 h2=>by
  obtain ⟨q1,q2,⟨_,_,q3⟩,⟨_,_,o1,q4,c4,d4⟩,⟨_,_,o2,q5,c5,d5⟩,_⟩:=Z'
  have this:a=b∨a=b+1∨a=b+2∨a=b+3∨a=b+4:=PX (DC h1) (DC h2)
  refine this.elim (λ e=>e▸R'.fX q4 (lq c4 (by decide) d4).2) λ h=>h.elim (λ e=>e▸R'.fX q5 (lq c5 (by decide) d5).2) λ h=>h.elim (λ e=>e▸R'.fX q2 rfl) λ h=>h.elim (λ e=>e▸R'.fX q3 rfl) λ e=>e▸R'.fX q1 rfl
 have Tz:∀ a,b≤a→a≤b+4→a1≠a:=λ a h1 h2 q=>ns R₃ Z a h1 h2 (q▸List.mem_of_getElem? K8)
 have TA:∀ a,b≤a→a≤b+4→a2≠a:=λ a h1 h2 q=>ns R₃ Z a h1 h2 (q▸List.mem_of_getElem? K9)
 have D:ZipApart (b+4) (b+2) (b+3) b (b+1) a1 a2:=by
  constructor<;>first | (apply Tz<;>exact DC (by lia)) | (apply TA<;>exact DC (by lia)) | exact Ft (by lia)
 have hl1:fE.IsList a1 P4.toArray:=⟨_,g1,rfl,_,rfl⟩
 have hl2:fE.IsList a2 P5.toArray:=⟨_,g2,rfl,_,rfl⟩
 have hS:=F7 b
 have step:∀ {h':Heap},aJ (B6 b) fE h'→aK (W.hide (b+3)) (ρ++δ₃) aE h'∧dw (W.hide (b+3)) env η₃ (ρ++δ₃) h'∧aJ (addrs env++ρ) s.heap h':=λ P=>by
  refine ⟨R₃.keepsBut P Z.muts λ a ha=>⟨ns R₃ Z a (hS a ha).1 (hS a ha).2,frs a (hS a ha).1⟩,F₃.keepsBut P Z.muts λ a ha=>P6 a (hS a ha).1,?_⟩
  refine ⟨Nat.le_trans fF.size P.size,λ c o e hc=>P.keep c o (fF.keep c o e hc) λ m=>?_⟩
  have:=K7 (Heap.lt_size e)
  have:=DC (hS c m).1
  lia
 have nA:b+3∉addrs env:=P6 _ (DC (Lq.nr _ _))
 have stop:xs[i]? = none∨ys[i]? = none→wpAny W.M A (pyNext (.ref (b+4))) (λ r eO=>r=none∧∃ h',eO={ s with heap:=h',toks:=cz }∧aJ (B6 b) fE h') lQ { s with heap:=fE,toks:=cz }:=λ he=>by
  refine qx (wpAny_pyNext_zip_end (s:={ s with heap:=fE,toks:=cz }) hr.handled D P7 P8 RD RE RG hl1 hl2 ?_ λ h' hk hs=>?_)
  · rcases he with he | he
    · exact .inl (by simpa using v1.get_none he)
    · exact .inr (by simpa using v2.get_none he)
  · exact ⟨rfl,h',rfl,hs,λ c o e hc=>hk c o (λ q=>hc (q▸.head _)) (λ q=>hc (q▸.tail _ (.head _))) (λ q=>hc (q▸.tail _ (.tail _ (.head _)))) (λ q=>hc (q▸.tail _ (.tail _ (.tail _ (.head _))))) e⟩
 refine two.elim (λ he=>?_) λ hxy=>?_
 · refine ic (stop he) λ r eO ⟨e1,h',e2,P⟩=>?_
   subst e1 e2
   obtain ⟨R',F',P'⟩:=step P
   exact ic (stp _ _ _ _ inv he A { s with heap:=h',toks:=cz } _ hr R' F') λ f OQ z=>Post.cg (Post.chain P' f₃ z) nA
 · refine aG λ G kG=>?_
   obtain ⟨x,y,hxi,RH⟩:=hxy
   have T:=item (b+3) i η₃ aE inv x y hxi RH
   obtain ⟨w1,TF,TG⟩:=v1.get _ hxi
   obtain ⟨w2,TH,TJ⟩:=v2.get _ RH
   refine kG ?_
   clear kG
   refine wpAny_pyNext_zip_item (s:={ s with heap:=fE,toks:=cz }) (x:=w1) (y:=w2) D P7 P8 RD RE RG hl1 hl2 (by simpa using TF) (by simpa using TH) λ qf c1 c2 c3 c4 c5 c6 c7=>?_
   refine wpAny_letOwnedTupleGo_zip (s:={ s with heap:=qf,toks:=cz }) c1 λ qg d1 ds=>?_
   dsimp only at c1 c2 c3 c4 c5 c6 c7 ds
   have TL:=K7 (Heap.lt_size P7)
   have P:aJ (B6 b) fE qg:=by
    refine ⟨by rw [ds.1,c6]; exact DC (Lq.nr _ _),λ c o e hc=>?_⟩
    have q:c≠b+4:=λ q=>hc (q▸.head _)
    rw [ds.2 c q]
    exact c7 c o q (λ q=>hc (q▸.tail _ (.head _))) (λ q=>hc (q▸.tail _ (.tail _ (.head _)))) (λ q=>hc (q▸.tail _ (.tail _ (.tail _ (.head _))))) e
   obtain ⟨R₅,F₅,P₅⟩:=step P
   have hnew:qg.get? fE.objs.size=some ({ cls:=.type "tuple",data:=.seq #[w1,w2] }:Obj):=by
    rw [ds.2 _ (Ft (Lq.ny TL))]; exact c5
   have vt:VR (W.hide (b+3)).hid (ρ++δ₃) qg (.tup [x,y]) (.ref fE.objs.size):=by
    refine .tup (ws:=[w1,w2]) hnew (λ m=>absurd (R₃.qy _ m) (Nat.lt_irrefl _)) (.cons (TG.one Z.muts P) (.cons (TJ.one Z.muts P) .nil))
   have Z₅:qz ((b+3) :: W.hid) (ρ++δ₃) qg b n1 n2 (i+1):=by
    refine ⟨d1,?_,⟨w1,w2,?_⟩,⟨a1,K8,?_⟩,⟨a2,K9,?_⟩,.head _⟩
    · show qg.get? _=_
      rw [ds.2 _ (Ft (by lia))]
      exact c7 _ _ (Ft (by lia)) (Ft (by lia)) (Ft (Lq.ny (Lq.Lj (by decide)))) (Ft (by lia)) P8
    · show qg.get? _=_
      rw [ds.2 _ (Ft (by lia))]; exact c2
    · obtain ⟨o,e,r⟩:=c3; exact ⟨o,(ds.2 _ (Ft (Lq.nx (Lq.Lj (by decide))))).trans e,r⟩
    · obtain ⟨o,e,r⟩:=c4; exact ⟨o,(ds.2 _ (Ft (by lia))).trans e,r⟩
   refine wpAny_mono (T A { s with heap:=qg,toks:=cz } _ _ hr R₅ F₅ vt) (λ _ Rf z₆=>?_) λ _ _ x=>x.elim
   obtain ⟨t7,tL,δ₆,σ₆,KV,p₆,f₆,R₆,η₆,F₆,q₆⟩:=z₆
   subst KV
   have HB:∀ {ρ' δ:List Addr} {σ':List AO} {h h':Heap} {j:Nat},aK (W.hide (b+3)) ρ' σ' h→aJ (addrs env++ρ') h h'→qz ((b+3) :: W.hid) ρ' h b n1 n2 j→qz ((b+3) :: W.hid) (ρ'++δ) h' b n1 n2 j:=λ R' P' Z'=>Z'.mono P' λ a h1 h2 m=>by
    rcases List.mem_append.mp m with m | m
    · exact P6 a h1 m
    · exact ns R' Z' a h1 h2 m
   have Z₆:=HB (δ:=δ₆) R₅ p₆ Z₅
   refine wpAny_mono (q₆ A { s with heap:=t7,toks:=tL } _ hr R₆ F₆) (λ f UK z₇=>?_) λ _ _ x=>x.elim
   obtain ⟨h₇,zu,δ₇,σ₇,e₇,p₇,f₇,R₇,fl,η₇,F₇,fx,q₇⟩:=z₇
   subst e₇
   have Z₇:=HB (δ:=δ₇) R₆ p₇ Z₆
   have fin:∀ (Y:List Addr→List AO→Heap→Prop),Y (((ρ++δ₃)++δ₆)++δ₇) σ₇ h₇→Post (W.hide (b+3)) (addrs env) ρ s Y { s with heap:=h₇,toks:=zu }:=λ Y z =>
    Post.chain (s:=s) P₅ f₃ (Post.chain (s:={ s with heap:=qg,toks:=cz }) p₆ f₆ ⟨h₇,zu,δ₇,σ₇,rfl,p₇,f₇,R₇,z⟩)
   have hi:i<xs.length:=(List.getElem?_eq_some_iff.mp hxi).1
   cases fx with
   | next=>obtain ⟨η₈,wk,inv⟩:=q₇; exact ⟨xs.length-(i+1),Lq.s6 (by assumption) hi,fin _ ⟨i+1,η₈,rfl,F₇.weak wk,Z₇,inv⟩⟩
   | cont=>obtain ⟨η₈,wk,inv⟩:=q₇; exact ⟨xs.length-(i+1),Lq.s6 (by assumption) hi,fin _ ⟨i+1,η₈,rfl,F₇.weak wk,Z₇,inv⟩⟩
   | brk=>exact Post.cg (fin _ ⟨.next,η₇,F₇,.next,q₇⟩) nA
   | ret hv=>exact Post.cg (fin _ ⟨.ret _,η₇,F₇,.ret hv,q₇⟩) nA
end
noncomputable def aR:List (Str×NameKind)→List (Str×Addr)→List (Str×Addr)→List (Str×Addr)
 | [],_,acc=>acc
 | (x,k) :: r,cells,acc=>if k==.free then (match cells.lookup x with
  | some a=>aR r cells ((x,a) :: acc)
  | none=>aR r cells acc) else aR r cells acc
theorem qA {scope:Scope} {env:Env} (h:∀ x,(x,NameKind.free)∈scope.names→∃ a,env.cells.lookup x=some a):closureFor scope env=pure (aR scope.names env.cells []):=by
 have key:∀ (names:List (Str×NameKind)) (acc:List (Str×Addr)),(∀ x,(x,NameKind.free)∈names→∃ a,env.cells.lookup x=some a) →
  (forIn names acc λ (p:Str×NameKind) (cs:List (Str×Addr))=>if p.2==.free then do let a ← cellOf env p.1; pure (ForInStep.yield ((p.1,a) :: cs)) else pure (ForInStep.yield cs))=(pure (aR names env.cells acc):Sem (List (Str×Addr))):=by
  intro names
  induction names with
  | nil=>intro acc _; rfl
  | cons p r ih =>
   intro acc h
   obtain ⟨x,k⟩:=p
   have hr:=λ acc=>ih acc λ y m=>h y (.tail _ m)
   rw [List.forIn_cons]
   cases hk:(k==NameKind.free) with
   | true =>
    have:=beq_iff_eq.mp hk; subst this
    obtain ⟨a,ha⟩:=h x (.head _)
    rw [if_pos (by rfl),show cellOf env x=pure a by unfold cellOf; rw [ha]]
    have e:aR ((x,NameKind.free) :: r) env.cells acc=aR r env.cells ((x,a) :: acc):=(if_pos (by rfl)).trans (by rw [ha])
    rw [e]
    exact hr _
   | false =>
    have n:¬ (k==NameKind.free)=true:=by rw [hk]; exact Bool.false_ne_true
    have e:aR ((x,k) :: r) env.cells acc=aR r env.cells acc:=if_neg n
    rw [e,if_neg Bool.false_ne_true]
    exact hr _
 exact (congrArg (λ t:Sem (List (Str×Addr))=>t >>= λ cs=>pure cs) (key scope.names [] h)).trans rfl
set_option tactic.hygienic true in
theorem gv {cells:List (Str×Addr)}:∀ {names:List (Str×NameKind)} {acc:List (Str×Addr)} {p:Str×Addr},p∈aR names cells acc→p∈acc∨(cells.lookup p.1=some p.2∧(p.1,NameKind.free)∈names)
 | [],_,_,m=>.inl m
 | (x,k) :: r,acc,p,m=>by
  unfold aR at m
  cases hk:(k==NameKind.free) with
  | true =>
   have:=beq_iff_eq.mp hk; subst this
   rw [if_pos hk] at m
   split at m
   · rename_i a e
     rcases gv m with m | ⟨a,b⟩
     · rcases List.mem_cons.mp m with q | m
       · subst q; exact .inr ⟨e,.head _⟩
       · exact .inl m
     · exact .inr ⟨a,.tail _ b⟩
   · rcases gv m with m | ⟨a,b⟩
     · exact .inl m
     · exact .inr ⟨a,.tail _ b⟩
  | false =>
   rw [if_neg (by rw [hk]; exact Bool.false_ne_true)] at m
   rcases gv m with m | ⟨a,b⟩
   · exact .inl m
   · exact .inr ⟨a,.tail _ b⟩
theorem gR {cells:List (Str×Addr)}:∀ {names:List (Str×NameKind)} {acc:List (Str×Addr)} {p:Str×Addr},p∈acc→p∈aR names cells acc
 | [],_,_,m=>m
 | (x,k) :: r,acc,p,m=>by
  unfold aR
  split
  · split
    · exact gR (.tail _ m)
    · exact gR m
  · exact gR m
theorem lU {cells:List (Str×Addr)} {x:Str} {a:Addr} (e:cells.lookup x=some a):∀ {names:List (Str×NameKind)} {acc:List (Str×Addr)},(x,NameKind.free)∈names→(x,a)∈aR names cells acc
 | (y,k) :: r,acc,m=>by
  unfold aR
  rcases List.mem_cons.mp m with q | m
  · cases q
    rw [if_pos (by rfl),e]
    exact gR (.head _)
  · split
    · split
      · exact lU e m
      · exact lU e m
    · exact lU e m
theorem fR {cells:List (Str×Addr)}:∀ {names:List (Str×NameKind)} {acc:List (Str×Addr)},(names.map (·.1)).Nodup→(acc.map (·.1)).Nodup→(∀ x∈acc.map (·.1),x∉names.map (·.1))→((aR names cells acc).map (·.1)).Nodup
 | [],_,_,h,_=>h
 | (x,k) :: r,acc,hn,ha,hd=>by
  rw [List.map_cons,List.nodup_cons] at hn
  have tl:∀ y∈acc.map (·.1),y∉r.map (·.1):=λ y hy m=>hd y hy (.tail _ m)
  unfold aR
  split
  · split
    · refine fR hn.2 ?_ ?_
      · rw [List.map_cons,List.nodup_cons]; exact ⟨λ m=>hd x m (.head _),ha⟩
      · intro y hy
        rcases List.mem_cons.mp hy with e | hy
        · rw [e]; exact hn.1
        · exact tl y hy
    · exact fR hn.2 ha tl
  · exact fR hn.2 ha tl
theorem DE {l:List (Str×Addr)} (h:l.Pairwise λ x y=>x.2≠y.2) {x y:Str} {a:Addr} (hx:(x,a)∈l) (hy:(y,a)∈l):x=y:=by
 induction h with
 | nil=>cases hx
 | @cons p l hp _ ih =>
  rcases List.mem_cons.mp hx with e | hx
  · rcases List.mem_cons.mp hy with e' | hy
    · have:=e.trans e'.symm
      cases this; rfl
    · exact (hp (y,a) hy (congrArg Prod.snd e).symm).elim
  · rcases List.mem_cons.mp hy with e' | hy
    · exact (hp (x,a) hx (congrArg Prod.snd e').symm).elim
    · exact ih hx hy
theorem zv {l:List (Str×Addr)} (nd:(l.map (·.1)).Nodup) (h:∀ x y a,(x,a)∈l→(y,a)∈l→x=y):l.Pairwise λ x y=>x.2≠y.2:=by
 induction l with
 | nil=>exact .nil
 | cons p l ih =>
  rw [List.map_cons,List.nodup_cons] at nd
  refine .cons (λ q hq e=>?_) (ih nd.2 λ x y a h1 h2=>h x y a (.tail _ h1) (.tail _ h2))
  have:p.1=q.1:=h p.1 q.1 p.2 (.head _) (by rw [e]; exact .tail _ hq)
  exact nd.1 (List.mem_map.mpr ⟨q,hq,this.symm⟩)
noncomputable def P9:NK→Bool
 | .vM=>true
 | _=>false
noncomputable def DF (η:En) (x:Str):Bool:=η.any λ e=>e.1==x&&P9 e.2.1
noncomputable def TM (η:En) (x:Str):NameKind→Bool
 | .local=>true
 | .globalImplicit=>true
 | .free=>DF η x
 | _=>false
noncomputable def cG (scope:Scope) (η:En):Bool:=(scope.kind==.function)&&decide (scope.names.map (·.1)).Nodup&&scope.names.all λ p=>(p.1 != "__debug__")&&TM η p.1 p.2
noncomputable def dU (W:Wl) (names:List (Str×NameKind)) (η:En):En:=names.map λ p=>match p.2 with
 | .local=>(p.1,.loc,none)
 | .free=>(p.1,.vM,cF η p.1)
 | _=>(p.1,.Fo,(zg W p.1).map .cst)
theorem sU {x:Str}:∀ {η:En},(η.map (·.1)).Nodup→DF η x=true→(x,.vM,cF η x)∈η
 | (y,k,o) :: r,nd,h=>by
  rw [List.map_cons,List.nodup_cons] at nd
  unfold DF at h
  rw [List.any_cons,Bool.or_eq_true] at h
  unfold cF
  cases hy:y==x with
  | true =>
   have:=beq_iff_eq.mp hy; subst this
   rw [if_pos rfl]
   rcases h with h | h
   · cases k<;>first | exact .head _ | exact cS (Bool.and_eq_true_iff.mp h).2
   · rw [List.any_eq_true] at h
     obtain ⟨e,he,q⟩:=h
     rw [Bool.and_eq_true,beq_iff_eq] at q
     exact absurd (List.mem_map.mpr ⟨e,he,q.1⟩) nd.1
  | false =>
   rw [if_neg (by simp)]
   rcases h with h | h
   · simp [hy] at h
   · exact .tail _ (sU nd.2 h)
section
variable {W:Wl} {d:Nat} {env:Env} {η:En} {σ:List AO}
theorem fm {names:List (Str×NameKind)} {x:Str} {k:NK} {v:Option AV} (m:(x,k,v)∈dU W names η):∃ nk,(x,nk)∈names∧(k,v)=(match nk with
 | .local=>(.loc,none)
 | .free=>(.vM,cF η x)
 | _=>(.Fo,(zg W x).map .cst)):=by
 unfold dU at m
 obtain ⟨⟨y,nk⟩,hm,e⟩:=List.mem_map.mp m
 cases nk<;>(cases e; exact ⟨_,hm,rfl⟩)
theorem wN {names:List (Str×NameKind)}:(dU W names η).map (·.1)=names.map (·.1):=by
 unfold dU
 rw [List.map_map]
 apply List.map_congr_left
 intro p hp
 obtain ⟨x,k⟩:=p
 cases k<;>rfl
theorem Up.wk {x:Str} {a:AV} {η η':En} (U:Up η x a η'):(x,NK.loc,none)∈η→(η.map (·.1)).Nodup→Wk η η':=by
 induction U with
 | @loc x v o η =>
  intro m nd
  rcases List.mem_cons.mp m with e | m
  · cases e; exact .drop (.refl _)
  · exact absurd (List.mem_map.mpr ⟨_,m,rfl⟩) (List.nodup_cons.mp nd).1
 | @vM x v o η =>
  intro m nd
  rcases List.mem_cons.mp m with e | m
  · cases e
  · exact absurd (List.mem_map.mpr ⟨_,m,rfl⟩) (List.nodup_cons.mp nd).1
 | @tl x v y η η' U ih =>
  intro m nd
  rw [List.map_cons,List.nodup_cons] at nd
  rcases List.mem_cons.mp m with e | m
  · subst e
    obtain ⟨k,o,_,b,_⟩:=U.old
    exact absurd (List.mem_map.mpr ⟨_,b,rfl⟩) nd.1
  · exact .keep (ih m nd.2)
theorem Ah (O:W.Ok) {scope:Scope} {C:Addr} {ρ:List Addr} {h:Heap} (hf:cG scope η=true) (F:dw W env η ρ h) (hC:h.Ns C λ _=>none) (hb:W.hb.get? C=none) (ho:C∉ρ) (he:C∉addrs env) :
 closureFor scope env=pure (aR scope.names env.cells [])∧dw W (compEnvC scope (aR scope.names env.cells []) C env) (dU W scope.names η) ρ h:=by
 unfold cG at hf
 simp only [Bool.and_eq_true,beq_iff_eq,List.all_eq_true,bne_iff_ne] at hf
 obtain ⟨⟨hk,hnd⟩,hall⟩:=hf
 have hnd:=of_decide_eq_true hnd
 have hfree:∀ x,(x,NameKind.free)∈scope.names→(x,NK.vM,cF η x)∈η:=λ x m=>sU F.ok.nd (hall _ m).2
 have hcell:∀ x,(x,NameKind.free)∈scope.names→∃ a,env.cells.lookup x=some a:=λ x m=>let ⟨c,w,e,_⟩:=F.cells x _ (hfree x m); ⟨c,e⟩
 have hcl:=qA hcell
 refine ⟨hcl,?_⟩
 have sub:∀ p∈aR scope.names env.cells [],p∈env.cells:=λ p m=>by
  rcases gv m with m | ⟨a,_⟩
  · cases m
  · exact mem_of_lookup a
 have O0:∀ a∈addrs (compEnvC scope (aR scope.names env.cells []) C env),a=C∨a∈addrs env:=λ a m=>by
  rcases List.mem_cons.mp m with e | m
  · exact .inl e
  · obtain ⟨p,hp,rfl⟩:=List.mem_map.mp m
    exact .inr (List.mem_cons_of_mem _ (List.mem_map.mpr ⟨p,sub p hp,rfl⟩))
 have MK:((aR scope.names env.cells []).map (·.1)).Nodup:=fR hnd List.nodup_nil (λ _ h=>nomatch h)
 have kd:∀ x nk,(x,nk)∈scope.names→(compEnvC scope (aR scope.names env.cells []) C env).kindOf x=some (if nk=.free then .cell else nk):=λ x nk m=>by
  refine bH ?_ ?_
  · show (((relabel scope env).names).map (·.1)).Nodup
    unfold relabel
    rw [List.map_map]
    have:scope.names.map ((λ x:Str×NameKind=>x.1) ∘ λ (n,k)=>if (k==.free&&env.scope.kind==.function&&env.kindOf n==some .cell) then (n,.cell) else (n,k))=scope.names.map (·.1):=by
     apply List.map_congr_left
     intro p _
     show (if _ then _ else _:Str×NameKind).1=_
     split<;>rfl
    rw [this]; exact hnd
  · show _∈(relabel scope env).names
    unfold relabel
    refine List.mem_map.mpr ⟨(x,nk),m,?_⟩
    dsimp only
    by_cases hn:nk=.free
    · subst hn
      have:=F.ok.kinds _ _ _ (hfree x m)
      rw [if_pos (by rw [this,F.ok.kind]; rfl),if_pos rfl]
    · rw [if_neg (by simp [hn]),if_neg hn]
 refine ⟨⟨hk,F.ok.glob,F.ok.blt,by rw [wN]; exact hnd,λ x k v m=>?_,λ x k v m=>?_,?_,λ c hc e=>?_⟩,λ a ha=>?_,λ a ha=>?_,λ a ha=>?_,λ a ha=>?_,⟨_,hC,λ x v m=>?_⟩,λ x v m=>?_,λ x v m=>?_⟩
 · obtain ⟨nk,hm,e⟩:=fm m
   have:=(hall _ hm).2
   rw [kd x nk hm]
   cases nk<;>first | (cases e; rfl) | exact cS this
 · obtain ⟨nk,hm,e⟩:=fm m
   have:=(hall _ hm).1
   simpa using this
 · exact zv MK λ x y a h1 h2=>DE F.ok.vN (sub _ h1) (sub _ h2)
 · refine he (List.mem_cons_of_mem _ (List.mem_map.mpr ⟨c,sub c hc,e⟩))
 · rcases O0 a ha with rfl | ha
   · exact ho
   · exact F.out a ha
 · rcases O0 a ha with rfl | ha
   · exact hC.lt
   · exact F.lt a ha
 · rcases O0 a ha with rfl | ha
   · exact hb
   · exact F.A4 a ha
 · rcases O0 a ha with rfl | ha
   · exact pZ hC
   · exact F.BV a ha
 · obtain ⟨nk,hm,e⟩:=fm m
   have:=(hall _ hm).2
   cases nk<;>first | (cases e; done) | fail
 · obtain ⟨nk,hm,e⟩:=fm m
   have:=(hall _ hm).2
   cases nk<;>first | ((first | exact cS this | cases this); done) | (cases e; done) | skip
   obtain ⟨c,w,e1,e2,e3⟩:=F.cells x _ (hfree x hm)
   cases e
   exact ⟨c,w,bH MK (lU e1 hm),e2,e3⟩
 · obtain ⟨nk,hm,e⟩:=fm m
   have:=(hall _ hm).2
   cases nk<;>first | ((first | exact cS this | cases this); done) | (cases e; done) | skip
   cases q:zg W x with
   | none=>rw [q] at e; cases e
   | some w=>rw [q] at e; cases e; exact ⟨w,rfl,A9 O q⟩
end
section
variable {W:Wl} {d:Nat} {env:Env} {η:En} {σ:List AO}
theorem B7 {x:Str} {v:AV} {w:Value} {η':En} {A:Around} {s:Shared} {ρ:List Addr} {B:Unit→Shared→Prop} {E:Value→Shared→Prop} (U:Up η x v η') (hl:(x,NK.loc,none)∈η) (R:aK W ρ σ s.heap) (F:dw W env η ρ s.heap) (hv:VR W.hid ρ s.heap v w)
 (k:∀ h' tk,dw W env η' ρ h'→aK W ρ σ h'→aJ [env.locals] s.heap h'→b7 W.hid s.heap [env.locals]→B () { s with heap:=h',toks:=tk }):wpAny W.M A (storeName env x w) B E s:=by
 have hkind:=F.ok.kinds _ _ _ hl
 have hok:Dm env η':=⟨F.ok.kind,F.ok.glob,F.ok.blt,by rw [U.names]; exact F.ok.nd,λ y k' u hm=>by
  rcases U.mem F.ok.nd y k' u hm with ⟨_,_,o',c⟩ | ⟨_,c⟩<;>exact F.ok.kinds _ _ _ c,λ y k' u hm=>by
  rcases U.mem F.ok.nd y k' u hm with ⟨_,_,o',c⟩ | ⟨_,c⟩<;>exact F.ok.Fp _ _ _ c,F.ok.vN,F.ok.BU⟩
 obtain ⟨mm,hn,hm⟩:=F.locs
 refine wpAny_storeName_local hkind hn (λ h' hn' hs=>?_) (by rw [F.ok.kind]; rfl)
 have P:=dM hs
 have Mt:b7 W.hid s.heap [env.locals]:=λ a ha=>by rw [List.mem_singleton.mp ha]; exact pZ hn
 have R':aK W ρ σ h':=R.keepsBut P Mt λ a ha=>by rw [List.mem_singleton.mp ha]; exact ⟨F.out _ (.head _),F.A4 _ (.head _)⟩
 have mono:∀ {a:AV} {z:Value},VR W.hid ρ s.heap a z→VR W.hid ρ h' a z:=λ q=>by have:=q.mono (δ:=[]) Mt P; rwa [List.append_nil] at this
 have F':dw W env η' ρ h':=by
  refine ⟨hok,F.out,λ a ha=>Nat.lt_of_lt_of_le (F.lt a ha) P.size,F.A4,λ a ha=>?_,⟨_,hn',λ y u hy=>?_⟩,λ y u hy=>?_,λ y u hy=>?_⟩
  · by_cases q:a=env.locals
    · rw [q]; exact pZ hn'
    · obtain ⟨o,e,z⟩:=F.BV a ha; exact ⟨o,(hs.2 a q).trans e,z⟩
  · rcases U.mem F.ok.nd y _ _ hy with ⟨rfl,e,_⟩ | ⟨hne,c⟩
    · cases e; exact ⟨w,by simp,mono hv⟩
    · obtain ⟨z,e1,e2⟩:=hm y u c
      exact ⟨z,by simp [hne,e1],mono e2⟩
  · rcases U.mem F.ok.nd y _ _ hy with ⟨rfl,e,o',c⟩ | ⟨hne,c⟩
    · have:=F.ok.kinds _ _ _ c; rw [hkind] at this; cases this
    · obtain ⟨c',z,e1,e2,e3⟩:=F.cells y u c
      have hcl:c'≠env.locals:=F.ok.BU (y,c') (mem_of_lookup e1)
      exact ⟨c',z,e1,e2.sameBut hs hcl,λ a ha=>let ⟨w',q1,q2⟩:=e3 a ha; ⟨w',q1,mono q2⟩⟩
  · rcases U.mem F.ok.nd y _ _ hy with ⟨rfl,_,o',c⟩ | ⟨_,c⟩
    · have:=F.ok.kinds _ _ _ c
      rw [hkind] at this; cases this
    · exact F.vO y u c
 exact k h' _ F' R' P Mt
def JI (W:Wl) (d:Nat) (env:Env) (ifs:List Expr) (η:En) (σ:List AO) (Q:Bool→List AO→Prop):Prop:=match ifs with
 | []=>Q true σ
 | c :: r=>match r with
  | []=>cD W d env c η σ Q
  | _ :: _=>False
def sf (j n:Nat) (k:dQ) (Inv:Nat→Nat→dQ→List AO→Prop) (σ:List AO):Prop:=∃ m,m<n∧Inv j m k σ
noncomputable def DG (W:Wl) (d:Nat) (cenv:Env) (ηi:En) (x:Str) (ifs:List Expr) (elt:Expr) (Inv:Nat→Nat→dQ→List AO→Prop) (j n:Nat) (σ:List AO) (Fin:Prop):Option (Option (AV×dQ))→Prop
 | none=>False
 | some none=>Fin
 | some (some (a,k'))=>∃ zw,Up ηi x a zw∧JI W d cenv ifs zw σ λ b aE=>if b=true then aW W d cenv elt zw aE λ v cH=>∃ xs,cH[j]? = some (.lst xs)∧xs.length≤1000000∧sf j n k' Inv (cH.set j (.lst (xs++[v]))) else sf j n k' Inv aE
theorem JJ {ifs:List Expr} {A:Around} {s:Shared} {ρ:List Addr} {Q:Bool→List AO→Prop} {B:Bool→Shared→Prop} {E:Value→Shared→Prop} (h:JI W d env ifs η σ Q) (hr:Rm d A) (R:aK W ρ σ s.heap) (F:dw W env η ρ s.heap)
 (k:∀ v h₁ tk₁ δ aa,aJ ρ s.heap h₁→(∀ a∈δ,s.heap.objs.size≤a)→aK W (ρ++δ) aa h₁→Q v aa→B v { s with heap:=h₁,toks:=tk₁ }) :
 wpAny W.M A (forIn ifs true λ c r=>if r=true then do let ok ← isTrue c env (eval c env); pure (ForInStep.yield ok) else pure (ForInStep.yield r)) B E s:=by
 cases ifs with
 | nil=>exact wpAny_tests_nil (k true s.heap s.toks [] σ (.refl _ _) (λ _ h=>nomatch h) (by rw [List.append_nil]; exact R) h)
 | cons c r=>cases r with
  | nil=>exact wpAny_tests_one (aQ (Q₁:=λ b _ σ' _=>Q b σ') (h A s ρ hr R F) λ v h₁ tk₁ δ aa p f R₁ q=>k v h₁ tk₁ δ aa p f R₁ q)
  | cons=>exact h.elim
inductive DH (W:Wl) (env cenv:Env) (η ηi:En) (I D:Addr) (j:Nat) (P:dQ→List AO→Prop) (ρ:List Addr) (σ:List AO) (h:Heap):Prop
 | mk (k:dQ) (F:dw W env η ρ h) (F':dw W cenv ηi ρ h) (r:sd W.hid ρ h k I) (e:ρ[j]? = some D) (q:P k σ):DH W env cenv η ηi I D j P ρ σ h
theorem B8 {elt iter:Expr} {x:Str} {px:Pos} {ifs:List Expr} {scope:Scope} {pos:Pos} {I D:Addr} {j:Nat} {cenv:Env} {ηi:En} {Inv:Nat→Nat→dQ→List AO→Prop} {Fin:Nat→List AO→Prop}
 (hx:(x,NK.loc,none)∈ηi) {A:Around} {s:Shared} {ρ:List Addr} (hr:Rm d A) (O1:I∉addrs env) (O2:I∉addrs cenv) (ML:W.hb.get? I=none) (O3:cenv.locals∉addrs env) (hsub:∀ a∈addrs cenv,a=cenv.locals∨a∈addrs env)
 (turn:∀ n k σ,Inv j n k σ→DG W d cenv ηi x ifs elt Inv j n σ (Fin j σ) (k.next σ))
 {RR:Result→Shared→Prop} (n:Nat) (h0:Post W [I,cenv.locals] ρ s (DH W env cenv η ηi I D j (Inv j n)) s)
 (hend:∀ s',Post W [I,cenv.locals] ρ s (λ ρ' σ' h'=>dw W env η ρ' h'∧dw W cenv ηi ρ' h'∧ρ'[j]? = some D∧Fin j σ') s'→RR (.ok .next) s') :
 codeAny W.M A (.compLoop (.ListComp elt [⟨.Name x px,iter,ifs,0⟩] scope pos) 0 (.ref I) (.ref D) cenv) RR s:=by
 refine codeAny_compLoop_tests (λ n s'=>Post W [I,cenv.locals] ρ s (DH W env cenv η ηi I D j (Inv j n)) s') ?_ n h0
 intro n sJ ⟨fE,cz,δ₃,aE,t6,fF,f₃,R₃,k,Fe,Fc,ir,hD,inv⟩
 subst t6
 have T:=turn n k aE inv
 cases hn:k.next aE with
 | none=>rw [hn] at T; exact T.elim
 | some r =>
  rw [hn] at T
  refine ic (A8 hr R₃ ir hn) λ v Hi ⟨qf,tT,KU,p₄,q₄⟩=>?_
  subst KU
  have Jv:=ir.gp R₃
  have R₄:aK W (ρ++δ₃) aE qf:=R₃.keepsBut p₄ ir.qP λ a ha=>by rw [List.mem_singleton.mp ha]; exact ⟨Jv,ML⟩
  have HC:=Fe.keepsBut p₄ ir.qP λ a ha=>by rw [List.mem_singleton.mp ha]; exact O1
  have HD:=Fc.keepsBut p₄ ir.qP λ a ha=>by rw [List.mem_singleton.mp ha]; exact O2
  have P₄:aJ ([I,cenv.locals]++ρ) s.heap qf:=by
   refine ⟨Nat.le_trans fF.size p₄.size,λ b o e hb=>p₄.keep b o (fF.keep b o e hb) λ m=>?_⟩
   rw [List.mem_singleton.mp m] at hb
   exact hb (.head _)
  cases r with
  | none =>
   subst q₄
   exact hend _ (Post.chain P₄ f₃ (Post.here (s:={ s with heap:=qf,toks:=tT }) R₄ ⟨HC,HD,hD,T⟩ tT))
  | some xk =>
   obtain ⟨a,k'⟩:=xk
   obtain ⟨v,rfl,va,Mu⟩:=q₄
   obtain ⟨zw,U,T⟩:=T
   refine PyProof.Rows.assign_Name (B7 U hx R₄ HD va λ qg BJ HE R₅ p₅ M₅=>?_)
   have hIC:I≠cenv.locals:=λ e=>O2 (by rw [e]; exact .head _)
   have MM:=HC.keepsBut p₅ M₅ λ a ha=>by rw [List.mem_singleton.mp ha]; exact O3
   have zf:sd W.hid (ρ++δ₃) qg k' I:=by
    have:=Mu.mono (δ:=[]) M₅ p₅ (λ m=>hIC (List.mem_singleton.mp m))
    rwa [List.append_nil] at this
   have wk:=U.wk hx Fc.ok.nd
   have P₅:aJ ([I,cenv.locals]++ρ) s.heap qg:=by
    refine ⟨Nat.le_trans P₄.size p₅.size,λ b o e hb=>p₅.keep b o (P₄.keep b o e hb) λ m=>?_⟩
    rw [List.mem_singleton.mp m] at hb
    exact hb (.tail _ (.head _))
   have weak:∀ {ρ':List Addr} {h':Heap},aJ ρ' h' h'→aJ ([I,cenv.locals]++ρ') h' h':=λ _=>.refl _ _
   refine JJ (s:={ s with heap:=qg,toks:=BJ }) T hr R₅ HE λ b t7 tL δ₆ σ₆ p₆ f₆ R₆ q₆=>?_
   have DI:=HE.mono R₅.muts p₆ f₆
   have HF:=MM.mono R₅.muts p₆ f₆
   have w9:sd W.hid ((ρ++δ₃)++δ₆) t7 k' I:=zf.mono R₅.muts p₆ (zf.gp R₅)
   have DJ:((ρ++δ₃)++δ₆)[j]? = some D:=by rw [List.getElem?_append_left (List.getElem?_eq_some_iff.mp hD).1]; exact hD
   have HG:aJ ([I,cenv.locals]++(ρ++δ₃)) qg t7:=p₆.weaken λ a ha=>List.mem_append_right _ ha
   cases b with
   | false =>
    obtain ⟨m,hm,inv⟩:=q₆
    exact ⟨m,hm,Post.chain P₅ f₃ (Post.chain (s:={ s with heap:=qg,toks:=BJ }) HG f₆ (Post.here (s:={ s with heap:=t7,toks:=tL }) R₆ ⟨k',HF,DI.weak wk,w9,DJ,inv⟩ tL))⟩
   | true =>
    refine aQ (q₆ A _ _ hr R₆ DI) λ y h₇ zu δ₇ σ₇ p₇ f₇ R₇ ⟨ay,vy,xs,ex,hl,m,hm,inv⟩=>?_
    have MN:=DI.mono R₆.muts p₇ f₇
    have MO:=HF.mono R₆.muts p₇ f₇
    have HJ:sd W.hid (((ρ++δ₃)++δ₆)++δ₇) h₇ k' I:=w9.mono R₆.muts p₇ (w9.gp R₆)
    have DK:(((ρ++δ₃)++δ₆)++δ₇)[j]? = some D:=by rw [List.getElem?_append_left (List.getElem?_eq_some_iff.mp DJ).1]; exact DJ
    have MP:aJ ([I,cenv.locals]++((ρ++δ₃)++δ₆)) t7 h₇:=p₇.weaken λ a ha=>List.mem_append_right _ ha
    refine aQ (Q₁:=λ _ _ σ' _=>sf j n k' Inv σ') (wpAny_mono ((aq.append ex hl (Q:=λ _ σ'=>sf j n k' Inv σ') ⟨m,hm,inv⟩) A { s with heap:=h₇,toks:=zu } _ _ _ hr R₇ (.cst _) (.cons (.lst DK) (.cons vy .nil))) (λ _ _ z=>z.mono λ _ _ _ ⟨_,_,q⟩=>q) λ _ _ x=>x) λ _ h₈ HK δ₈ σ₈ p₈ f₈ R₈ ⟨m,hm,inv⟩=>?_
    have MQ:=MN.mono R₇.muts p₈ f₈
    have MR:=MO.mono R₇.muts p₈ f₈
    have MS:sd W.hid ((((ρ++δ₃)++δ₆)++δ₇)++δ₈) h₈ k' I:=HJ.mono R₇.muts p₈ (HJ.gp R₇)
    have MT:((((ρ++δ₃)++δ₆)++δ₇)++δ₈)[j]? = some D:=by rw [List.getElem?_append_left (List.getElem?_eq_some_iff.mp DK).1]; exact DK
    have MU:aJ ([I,cenv.locals]++(((ρ++δ₃)++δ₆)++δ₇)) h₇ h₈:=p₈.weaken λ a ha=>List.mem_append_right _ ha
    exact ⟨m,hm,Post.chain P₅ f₃ (Post.chain (s:={ s with heap:=qg,toks:=BJ }) HG f₆ (Post.chain (s:={ s with heap:=t7,toks:=tL }) MP f₇ (Post.chain (s:={ s with heap:=h₇,toks:=zu }) MU f₈
     (Post.here (s:={ s with heap:=h₈,toks:=HK }) R₈ ⟨k',MR,MQ.weak wk,MS,MT,inv⟩ HK))))⟩
theorem Post.new {S ρ δ:List Addr} {s:Shared} {h₁:Heap} {tk₁:Nat} {Q:List Addr→List AO→Heap→Prop} {ia:Shared} (p:aJ ρ s.heap h₁) (f:∀ a∈δ,s.heap.objs.size≤a) (hS:∀ a∈S,s.heap.objs.size≤a)
 (P:Post W S (ρ++δ) { s with heap:=h₁,toks:=tk₁ } Q ia):Post W [] ρ s Q ia:=by
 obtain ⟨br,bB,δ₂,aj,e,aZ,bQ,R₂,q⟩:=P
 refine ⟨br,bB,δ++δ₂,aj,e,⟨Nat.le_trans p.size aZ.size,λ b o eb n=>aZ.keep b o (p.keep b o eb n) λ m=>?_⟩,λ a ha=>?_,by rw [← List.append_assoc]; exact R₂,by rw [← List.append_assoc]; exact q⟩
 · have lt:=Heap.lt_size eb
   rcases List.mem_append.mp m with m | m
   · exact absurd lt (Nat.not_lt.mpr (hS b m))
   · rcases List.mem_append.mp m with m | m
     · exact n m
     · exact absurd lt (Nat.not_lt.mpr (f b m))
 · rcases List.mem_append.mp ha with ha | ha
   · exact f a ha
   · exact Nat.le_trans p.size (bQ a ha)
inductive DL (W:Wl) (env:Env) (η:En) (D C:Addr) (j:Nat) (Fin:Nat→List AO→Prop) (ρ:List Addr) (σ:List AO) (h:Heap):Prop
 | mk (F:dw W env η ρ h) (e:ρ[j]? = some D) (hC:C∉ρ) (hb:W.hb.get? C=none) (ha:C∉addrs env) (hn:∃ m,h.Ns C m) (q:Fin j σ):DL W env η D C j Fin ρ σ h
theorem yb {scope:Scope} {ρ:List Addr} {h:Heap} (hf:cG scope η=true) (F:dw W env η ρ h):closureFor scope env=pure (aR scope.names env.cells []):=by
 unfold cG at hf
 simp only [Bool.and_eq_true,beq_iff_eq,List.all_eq_true,bne_iff_ne] at hf
 exact qA λ x m=>let ⟨c,w,e,_⟩:=F.cells x _ (sU F.ok.nd (hf.2 _ m).2); ⟨c,e⟩
theorem sd.again {X ρ:List Addr} {k:dQ} {I:Addr} {A:Around} {s:Shared} {Q:Value→Shared→Prop} {E:Value→Shared→Prop} (x:sd X ρ s.heap k I) (hk:∀ n l,k≠.qO n l) (q:Q (.ref I) s):wpAny W.M A (pyIter (.ref I)) Q E s:=by
 cases k with
 | lst n i=>obtain ⟨a,_,y⟩:=x; exact wpAny_pyIter_listiter y q
 | tup vs=>obtain ⟨t,ws,i,_,y,_⟩:=x; exact wpAny_pyIter_tupleiter y q
 | gO a b c=>exact wpAny_pyIter_rangeiter x q
 | qO n l=>exact absurd rfl (hk n l)
theorem Ai (O:W.Ok) {elt iter:Expr} {x:Str} {px:Pos} {ifs:List Expr} {scope:Scope} {pos:Pos} {I:Addr} {k:dQ} {Inv:Nat→Nat→dQ→List AO→Prop} {Fin:Nat→List AO→Prop}
 (hf:cG scope η=true) (hx:scope.names.lookup x=some .local) {A:Around} {s:Shared} {ρ:List Addr} (hr:Rm d A) (R:aK W ρ σ s.heap) (F:dw W env η ρ s.heap) (ir:sd W.hid ρ s.heap k I) (hk:∀ n l,k≠.qO n l) (O1:I∉addrs env) (ML:W.hb.get? I=none)
 (n:Nat) (inv:Inv σ.length n k (σ++[.lst []]))
 (turn:∀ C n k σ',Inv σ.length n k σ'→DG W d (compEnvC scope (aR scope.names env.cells []) C env) (dU W scope.names η) x ifs elt Inv σ.length n σ' (Fin σ.length σ') (k.next σ'))
 {E:Value→Shared→Prop} {RR:Value→Addr→Result→Shared→Prop}
 (hend:∀ D C s',s.heap.objs.size≤C→Post W [I,C] ρ s (DL W env η D C σ.length Fin) s'→RR (.ref D) C (.ok .next) s') :
 wpAny W.M A (newList []) (λ acc sJ=>wpAny W.M A (newFunctionEnv scope env.globals (aR scope.names env.cells []) [] env.qual none .none (some env)) (λ cenv Hi =>
  codeAny W.M A (.compStart (.ListComp elt [⟨.Name x px,iter,ifs,0⟩] scope pos) 0 (.ref I) acc { cenv with scope:=relabel scope env }) (RR acc cenv.locals) Hi) E sJ) E s:=by
 have hf':=hf
 unfold cG at hf'
 simp only [Bool.and_eq_true,beq_iff_eq,List.all_eq_true,bne_iff_ne] at hf'
 obtain ⟨⟨hk',hnd⟩,hall⟩:=hf'
 have hcell:∀ y∈scope.names,y.2≠.cell:=λ y hy e=>by
  have:=(hall y hy).2
  rw [e] at this; exact cS this
 have key:∀ H2 h₁:Heap,∀ tk,H2=s.heap.push { cls:=.type "list",dict:=none,data:=.seq ([]:List Value).toArray }→h₁.Ns H2.objs.size (λ x=>([]:List (Str×Value)).reverse.lookup x)→Heap.SameBut H2.objs.size (H2.push { cls:=.type "dict",data:=.dict #[] }) h₁ →
  codeAny W.M A (.compStart (.ListComp elt [⟨.Name x px,iter,ifs,0⟩] scope pos) 0 (.ref I) (.ref s.heap.objs.size) (compEnvC scope (aR scope.names env.cells []) H2.objs.size env)) (RR (.ref s.heap.objs.size) H2.objs.size) { s with heap:=h₁,toks:=tk }:=by
  intro H2 h₁ tk eH hns RI
  obtain ⟨hh,tk',δ,σ',e,p,f,R₂,e1,e2,e3⟩:=lS (S:=[]) (Q:=λ ρ' σ' h'=>ρ'=ρ++[s.heap.objs.size]∧σ'=σ++[.lst []]∧h'=H2) R (.lst []) { cls:=.type "list",dict:=none,data:=.seq ([]:List Value).toArray } rfl ⟨[],0,rfl,.nil⟩ ⟨rfl,rfl,eH.symm⟩ tk
  rw [e1,e2,e3] at R₂
  rw [e3] at p
  have hδ:δ=[s.heap.objs.size]:=List.append_cancel_left e1
  subst hδ
  have tC:aJ [] H2 h₁:=⟨by rw [RI.1,Heap.size_push]; exact Nat.le_succ _,λ b o eb _=>(RI.2 b (Nat.ne_of_lt (Heap.lt_size eb))).trans (Heap.get?_push_of_some _ eb)⟩
  have R₃:=R₂.keeps tC
  have P₀:aJ ρ s.heap h₁:=⟨Nat.le_trans p.size tC.size,λ b o eb n=>tC.keep b o (p.keep b o eb n) (λ m=>nomatch m)⟩
  have F₃:dw W env η (ρ++[s.heap.objs.size]) h₁:=F.mono R.muts P₀ f
  have JK:s.heap.objs.size<H2.objs.size:=by rw [eH,Heap.size_push]; exact Nat.lt_succ_self _
  have nb:∀ a,s.heap.objs.size≤a→W.hb.get? a=none:=λ a ha=>by
   cases q:W.hb.get? a with
   | none=>rfl
   | some o=>exact absurd (Heap.lt_size (R.base _ _ q)) (Nat.not_lt.mpr ha)
  have ho:H2.objs.size∉ρ++[s.heap.objs.size]:=λ m=>by
   obtain ⟨o,eo,_⟩:=R₂.muts _ m
   exact absurd (Heap.lt_size eo) (Nat.lt_irrefl _)
  have he:H2.objs.size∉addrs env:=λ m=>by
   have:=F.lt _ m
   exact absurd this (Nat.not_lt.mpr (Nat.le_of_lt JK))
  obtain ⟨hcl,Fc⟩:=Ah O hf F₃ hns (nb _ (Nat.le_of_lt JK)) ho he
  have hI:I<s.heap.objs.size:=by obtain ⟨o,T,vs,eo,_⟩:=ir.obj; exact Heap.lt_size eo
  have HL:sd W.hid (ρ++[s.heap.objs.size]) h₁ k I:=ir.mono R.muts P₀ (ir.gp R)
  have sub:∀ a∈addrs (compEnvC scope (aR scope.names env.cells []) H2.objs.size env),a=H2.objs.size∨a∈addrs env:=λ a m=>by
   rcases List.mem_cons.mp m with e | m
   · exact .inl e
   · obtain ⟨q,hq,rfl⟩:=List.mem_map.mp m
     rcases gv hq with q' | ⟨a,_⟩
     · cases q'
     · exact .inr (List.mem_cons_of_mem _ (List.mem_map.mpr ⟨q,mem_of_lookup a,rfl⟩))
  have O2:I∉addrs (compEnvC scope (aR scope.names env.cells []) H2.objs.size env):=λ m=>by
   rcases sub I m with e | m
   · rw [e] at hI; exact absurd hI (Nat.not_lt.mpr (Nat.le_of_lt JK))
   · exact O1 m
  have TN:(x,NK.loc,none)∈dU W scope.names η:=List.mem_map.mpr ⟨(x,.local),mem_of_lookup hx,rfl⟩
  have hD:(ρ++[s.heap.objs.size])[σ.length]? = some s.heap.objs.size:=by
   rw [List.getElem?_append_right (by rw [R.len]; exact Nat.le_refl _),R.len,Nat.sub_self]; rfl
  have loop:codeAny W.M A (.compLoop (.ListComp elt [⟨.Name x px,iter,ifs,0⟩] scope pos) 0 (.ref I) (.ref s.heap.objs.size) (compEnvC scope (aR scope.names env.cells []) H2.objs.size env)) (RR (.ref s.heap.objs.size) H2.objs.size) { s with heap:=h₁,toks:=tk }:=by
   refine B8 (Inv:=Inv) (Fin:=Fin) (j:=σ.length) TN hr O1 O2 ML he sub (turn _) n (Post.here (s:={ s with heap:=h₁,toks:=tk }) R₃ ⟨k,F₃,Fc,HL,hD,inv⟩ tk) λ s' z=>?_
   refine hend _ _ s' (Nat.le_of_lt JK) (Post.chain (P₀.weaken λ a ha=>List.mem_append_right _ ha) f (z.mono λ ρ' σ' h' ⟨a1,a2,a3,a4⟩=>⟨a1,a3,a2.out _ (.head _),a2.A4 _ (.head _),he,?_,a4⟩))
   obtain ⟨m,hm,_⟩:=a2.locs
   exact ⟨m,hm⟩
  exact codeAny_compStart_list loop (HL.again hk loop)
 refine wpAny_newObj_type (wpAny_newFunctionEnv hcell (by intro y hy; simp at hy) (λ h₁ JM JN=>?_) hk')
 exact key _ h₁ _ rfl JM JN
end
section
variable {W:Wl} {d:Nat} {env:Env} {η:En} {σ:List AO}
theorem wO {scope:Scope} (hf:cG scope η=true):scope.kind=.function∧(∀ y∈scope.names,y.2=.local→scope.names.lookup y.1=some .local):=by
 unfold cG at hf
 simp only [Bool.and_eq_true,beq_iff_eq] at hf
 obtain ⟨⟨hk,hnd⟩,_⟩:=hf
 exact ⟨hk,λ y hy e=>by rw [← e]; exact bH (of_decide_eq_true hnd) (by exact hy)⟩
def CompI (W:Wl) (d:Nat) (env:Env) (η:En) (elt:Expr) (x:Str) (ifs:List Expr) (scope:Scope) (Fin:Nat→List AO→Prop) (k:dQ) (aa:List AO):Prop :=
 (∀ n l,k≠.qO n l)∧∃ Inv:Nat→Nat→dQ→List AO→Prop,(∃ n,Inv aa.length n k (aa++[.lst []])) ∧
  ∀ C n k σ',Inv aa.length n k σ'→DG W d (compEnvC scope (aR scope.names env.cells []) C env) (dU W scope.names η) x ifs elt Inv aa.length n σ' (Fin aa.length σ') (k.next σ')
theorem xo (O:W.Ok) {elt iter:Expr} {x:Str} {px:Pos} {ifs:List Expr} {scope:Scope} {pos:Pos} {Fin:Nat→List AO→Prop} (hf:cG scope η=true) (hx:scope.names.lookup x=some .local)
 (h:qs W d env iter η σ (CompI W d env η elt x ifs scope Fin)) (use:Option (Value→Sem Unit)) {Q:Value→Shared→Prop} {E:Value→Shared→Prop} {npos:Pos}
 (hs:∀ x,foldedSetIterable iter env x=pure x) {A:Around} {s:Shared} {ρ:List Addr} (hr:Rm d A) (R:aK W ρ σ s.heap) (F:dw W env η ρ s.heap)
 (hend:∀ D C j s',Post W [] ρ s (DL W env η D C j Fin) s'→s.heap.objs.size≤C→compPost W.M A E use Q (.ref D) C (.ok .next) s') :
 wpAny W.M A (comprehension (.ListComp elt [⟨.Name x px,iter,ifs,0⟩] scope pos) scope env npos (newList []) false (eval iter env) use) Q E s:=by
 obtain ⟨hk,hn⟩:=wO hf
 refine wpAny_comprehension_free rfl hs (yb hf F) hk hn (ic (h A s ρ hr R F) λ x eO h₁=>ic h₁ λ it ia br=>?_)
 obtain ⟨br,bB,δ₂,aj,mq,aZ,bQ,R₂,I,k,rfl,hI,ir,hk,Inv,⟨n,inv⟩,turn⟩:=br
 subst mq
 have K5:I∉addrs env:=λ m=>absurd (F.lt I m) (Nat.not_lt.mpr hI)
 have ML:W.hb.get? I=none:=by
  cases q:W.hb.get? I with
  | none=>rfl
  | some o=>exact absurd (Heap.lt_size (R.base _ _ q)) (Nat.not_lt.mpr hI)
 refine Ai O (s:={ s with heap:=br,toks:=bB }) hf hx hr R₂ (F.mono R.muts aZ bQ) ir hk K5 ML n inv turn λ D C s' hC P=>?_
 have JK:s.heap.objs.size≤C:=Nat.le_trans aZ.size hC
 refine hend D C aj.length s' (Post.new aZ bQ (S:=[I,C]) (λ a ha=>?_) P) JK
 rcases List.mem_cons.mp ha with e | ha
 · rw [e]; exact hI
 · rw [List.mem_singleton.mp ha]; exact JK
theorem Post.drop {S ρ:List Addr} {s s':Shared} {C:Addr} {h':Heap} {Q Q':List Addr→List AO→Heap→Prop} (P:Post W S ρ s Q s') (hC:s.heap.objs.size≤C) (hs:Heap.SameBut C s'.heap h') (hm:∃ m,s'.heap.Ns C m)
 (q:∀ ρ' σ',aJ [C] s'.heap h'→b7 W.hid s'.heap [C]→aK W ρ' σ' s'.heap→Q ρ' σ' s'.heap→(C∉ρ'∧W.hb.get? C=none)∧Q' ρ' σ' h'):Post W S ρ s Q' { s' with heap:=h' }:=by
 obtain ⟨h₁,tk₁,δ,aa,rfl,p,f,R,z⟩:=P
 obtain ⟨m,hm⟩:=hm
 have tC:=dM hs
 have M:b7 W.hid h₁ [C]:=λ a ha=>by rw [List.mem_singleton.mp ha]; exact pZ hm
 obtain ⟨⟨n1,n2⟩,q⟩:=q _ _ tC M R z
 refine ⟨h',tk₁,δ,aa,rfl,⟨Nat.le_trans p.size tC.size,λ b o e n=>tC.keep b o (p.keep b o e n) λ m=>?_⟩,f,R.keepsBut tC M λ a ha=>by rw [List.mem_singleton.mp ha]; exact ⟨n1,n2⟩,q⟩
 rw [List.mem_singleton.mp m] at e
 exact absurd (Heap.lt_size e) (Nat.not_lt.mpr hC)
theorem aW.DM (O:W.Ok) {elt iter:Expr} {x:Str} {px:Pos} {ifs:List Expr} {scope:Scope} {pos:Pos} {Q:AV→List AO→Prop} (hf:cG scope η=true) (hx:scope.names.lookup x=some .local)
 (h:qs W d env iter η σ (CompI W d env η elt x ifs scope λ j σ'=>Q (.lst j) σ'))
 (hs:∀ x,foldedSetIterable iter env x=pure x:=by intro _; rfl):aW W d env (.ListComp elt [⟨.Name x px,iter,ifs,0⟩] scope pos) η σ Q:=λ A s ρ hr R F=>by
 rw [eval_ListComp]
 refine xo O hf hx h Option.none hs hr R F λ D C j s' P hC=>?_
 have hm:∃ m,s'.heap.Ns C m:=by obtain ⟨h₁,tk₁,δ,aa,rfl,p,f,R,_,_,_,_,_,hn,_⟩:=P; exact hn
 obtain ⟨m,hm'⟩:=hm
 refine ⟨m,hm',λ h' hs'=>?_⟩
 have P':=Post.drop P hC hs' ⟨m,hm'⟩ (Q':=QV W Q (.ref D)) λ ρ' σ' p M R ⟨_,e,hC,hb,_,_,q⟩=>⟨⟨hC,hb⟩,.lst j,.lst e,q⟩
 exact P'
theorem cM.Aj (O:W.Ok) {elt iter:Expr} {x y:Str} {px py:Pos} {ifs:List Expr} {scope:Scope} {pos spos:Pos} {Q:Fl→En→List AO→Prop} (hf:cG scope η=true) (hx:scope.names.lookup x=some .local)
 (hsw:swapsWith (.ListComp elt [⟨.Name x px,iter,ifs,0⟩] scope pos) (some (.Name y py)) spos.line env=pure true)
 (h:qs W d env iter η σ (CompI W d env η elt x ifs scope λ j σ'=>∃ η',Up η y (.lst j) η'∧Q .next η' σ'))
 (hs:∀ x,foldedSetIterable iter env x=pure x:=by intro _; rfl):cM W d env (.Assign [.Name y py] (.ListComp elt [⟨.Name x px,iter,ifs,0⟩] scope pos) spos) η σ Q:=λ A s ρ hr R F=>by
 rw [exec_Assign_Name_used _ _ _ _ hsw]
 refine wpAny_bind (wpAny_standAt (wpAny_bind ?_))
 show wpAny _ A (do let _ ← comprehension (.ListComp elt [⟨.Name x px,iter,ifs,0⟩] scope pos) scope env _ (newList []) false (eval iter env) (some (PySem.assign (.Name y py) env))) _ _ s
 refine wpAny_bind (wpAny_mono (xo O (E:=lQ) (Q:=λ _ s'=>Post W (addrs env) ρ s (QF W env Q .next) s') hf hx h (some (PySem.assign (.Name y py) env)) hs hr R F λ D C j s' P hC=>?_) (λ _ s' hq=>wpAny_pure (wpAny_pure hq)) λ _ _ e=>e)
 obtain ⟨h₁,tk₁,δ,aa,yN,p,f,R',F',hD,MV,TP,O3,⟨m,hm⟩,η',U,q⟩:=P
 subst yN
 show wpAny _ A (PySem.assign (.Name y py) env (.ref D)) _ _ _
 refine PyProof.Rows.assign_Name (wpAny_mono (eE (s:={ s with heap:=h₁,toks:=tk₁ }) U R' F' (.lst hD) (Q:=λ ρ' σ' h'=>dw W env η' ρ' h'∧σ'=aa∧ρ'=ρ++δ) λ h' Qa TQ=>⟨Qa,rfl,rfl⟩) (λ _ s'' z=>?_) λ _ _ x=>x)
 obtain ⟨br,bB,δ₂,aj,mq,aZ,bQ,R₂,F₂,rfl,eρ⟩:=z
 subst mq
 have hδ:δ₂=[]:=List.append_right_eq_self.mp eρ
 subst hδ
 have TR:C∉addrs env++(ρ++δ):=λ mm=>by
  rcases List.mem_append.mp mm with mm | mm
  · exact O3 mm
  · exact MV mm
 have IF:br.Ns C m:=by
  obtain ⟨o,es,ep,ho,r⟩:=hm
  exact ⟨o,es,ep,aZ.keep _ _ ho TR,r⟩
 refine ⟨m,IF,λ h' hs'=>?_⟩
 have P₃:=dM hs'
 have M:b7 W.hid br [C]:=λ a ha=>by rw [List.mem_singleton.mp ha]; exact pZ IF
 rw [List.append_nil] at R₂ F₂
 have R₃:=R₂.keepsBut P₃ M λ a ha=>by rw [List.mem_singleton.mp ha]; exact ⟨MV,TP⟩
 have F₃:=F₂.keepsBut P₃ M λ a ha=>by rw [List.mem_singleton.mp ha]; exact O3
 refine ⟨h',bB,δ,aj,rfl,⟨Nat.le_trans p.size (Nat.le_trans aZ.size P₃.size),λ b o eb n=>P₃.keep b o (aZ.keep b o (p.keep b o eb λ mm=>?_) λ mm=>?_) λ mm=>?_⟩,f,R₃,.next,η',F₃,.next,q⟩
 · exact n (List.mem_append_right _ mm)
 · rcases List.mem_append.mp mm with mm | mm
   · exact n (List.mem_append_left _ mm)
   · rcases List.mem_append.mp mm with mm | mm
     · exact n (List.mem_append_right _ mm)
     · exact absurd (Heap.lt_size eb) (Nat.not_lt.mpr (f b mm))
 · rw [List.mem_singleton.mp mm] at eb
   exact absurd (Heap.lt_size eb) (Nat.not_lt.mpr hC)
end
section
variable {W:Wl} {d:Nat} {σ:List AO}
noncomputable def MW:CFound→Option (Value×Value×Value×Value)
 | .get g a o t=>some (g,a,o,t)
 | _=>none
theorem F8 {r:CFound} {p:Value×Value×Value×Value} (h:MW r=some p):r=.get p.1 p.2.1 p.2.2.1 p.2.2.2:=by
 cases r with
 | get=>cases h; rfl
 | _=>exact aT h
noncomputable def JO (K:Frag) (C:Addr) (name:Str):Option Addr:=(findCls K (.ref C) (.type "type") name).bind λ r=>(MW r).bind λ q=>(wH q.2.1).bind λ p=>(recIn K p "staticmethod").bind λ l=>l.head?.bind λ fv=>(wH fv).bind λ f =>
 if q.1==.builtin "staticmethod.__get__" && q.2.2.1==.none&&q.2.2.2==.ref C&&readsIn K C (.type "type")&&(specialIn K (.ref C) "__getattribute__" == some (some (.builtin "type.__getattribute__")))&&keepIn K (.ref f) then some f else none
theorem F9 {K:Frag} {C f:Addr} {name:Str} {P:Prop} (hk:JO K C name=some f) (k:∀ p l,findCls K (.ref C) (.type "type") name=some (.get (.builtin "staticmethod.__get__") (.ref p) .none (.ref C))→recIn K p "staticmethod" = some (.ref f :: l)→readsIn K C (.type "type")=true→(specialIn K (.ref C) "__getattribute__" == some (some (.builtin "type.__getattribute__")))=true→keepIn K (.ref f)=true→P):P:=by
 obtain ⟨r,e1,hk⟩:=cC hk
 obtain ⟨⟨g,a,o,t⟩,e0,hk⟩:=cC hk
 obtain ⟨p,ea,hk⟩:=cC hk
 obtain ⟨l,e2,hk⟩:=cC hk
 obtain ⟨fv,el,hk⟩:=cC hk
 obtain ⟨f',ef,hk⟩:=cC hk
 obtain ⟨hc,hk⟩:=FT hk
 cases hk
 obtain ⟨l,rfl⟩:=List.head?_eq_some_iff.mp el
 obtain rfl:=F8 e0
 obtain rfl:a=.ref p:=gM ea
 obtain rfl:=gM ef
 obtain ⟨hc,c6⟩:=Bool.and_eq_true_iff.mp hc
 obtain ⟨hc,c5⟩:=Bool.and_eq_true_iff.mp hc
 obtain ⟨hc,c4⟩:=Bool.and_eq_true_iff.mp hc
 obtain ⟨hc,c3⟩:=Bool.and_eq_true_iff.mp hc
 obtain ⟨c1,c2⟩:=Bool.and_eq_true_iff.mp hc
 rw [show _=_ from beq_iff_eq.mp c1,show _=_ from beq_iff_eq.mp c2,show _=_ from beq_iff_eq.mp c3] at e1
 exact k p l e1 e2 c4 c5 c6
theorem cI.cls (O:W.Ok) {C f:Addr} {name:Str} {Q:AV→List AV→List AO→Prop} (hk:JO W.K C name=some f) (q:Q (.cst (.ref f)) [] σ):cI W d (.cst (.ref C)) name σ Q:=λ A s ρ v pl hr R hv=>by
 refine VR.bh hv ?_
 have X:=R.qM O
 exact F9 hk λ p l e1 e2 c4 c5 c6=>method_cls X (beq_iff_eq.mp c5) (cls_bind X c4 e1 (wpAny_call (sm_get (s:={ s with toks:=s.toks+1 }) X e2 (handed_on rfl (Post.here R ⟨_,_,.cst _,.nil,cN.ref c6,q⟩ _)))))
end
section
variable {W:Wl} {d:Nat} {σ:List AO}
end
section
variable {W:Wl} {d:Nat} {env:Env} {η:En} {σ:List AO}
theorem bA.ofInts {X ρ:List Addr} {h:Heap} {vs:List Value} {ns:List Int} (x:IntsAre vs ns):bA X ρ h (ns.map .int) vs:=by
 induction x with
 | nil=>exact .nil
 | cons n t r ih=>exact .cons (.int n t) ih
theorem aW.B9 {x:Str} {p p' p'' pos:Pos} {k:Int} {l:Addr} {vs:List Value} {ns:List Int} {kk:Nat} {Q:AV→List AO→Prop} (O:W.Ok) (hx:ud η x (.cst (.ref l))) (hl:W.hb.IsList l vs.toArray) (hi:IntsAre vs ns) (hz:ns.length≤1000) (hk:0≤k)
 (q:Q (.lst σ.length) (σ++[.lst ((ns.take k.toNat).map .int)])) :
 aW W d env (.Subscript (.Name x p) (.Slice Option.none (some (.Constant (.int k) kk p'')) Option.none p') pos) η σ Q:=λ A s ρ hr R F=>by
 refine wpAny_Subscript_list_slice ?_ (λ _ _=>rfl)
 refine wpAny_Name (fY O hx R F λ w z=>?_) (hx.Fp F)
 refine VR.bh z ?_
 refine wpAny_pure (a:=Value.none) ?_
 refine wpAny_Constant_int (k:=kk) (pos:=p'') ?_
 have hl':s.heap.IsList l vs.toArray:=by
  obtain ⟨o,e,c,n,dd⟩:=hl
  exact ⟨o,R.base _ _ e,c,n,dd⟩
 have hlen:vs.length=ns.length:=by
  have:=(bA.ofInts (X:=W.hid) (ρ:=[]) (h:=s.heap) hi).length
  simpa using this
 refine ⟨l,vs.toArray,_,_,rfl,hl',by rw [List.size_toArray,sizeLine_eq]; exact Lq.bZ (Lq.bZ (Nat.le_of_eq hlen) hz) (by decide),.none,.int k _,?_⟩
 have hi':=slice_ints_uptoW hi hk
 have R₁:=R.keeps (.push _ _ ({ cls:=.type "slice",data:=.fields #[.none,.int k s.toks,.none] }:Obj))
 have N:=lS (S:=[]) (s:={ s with heap:=s.heap.push ({ cls:=.type "slice",data:=.fields #[.none,.int k s.toks,.none] }:Obj) }) (Q:=QV W Q (.ref (s.heap.objs.size+1))) R₁ (.lst ((ns.take k.toNat).map .int)) ({ cls:=.type "list",data:=.seq (slicePick vs.toArray Option.none (some k) Option.none) }:Obj) rfl
  ⟨_,0,by simp,bA.ofInts hi'⟩ ⟨.lst σ.length,.lst (by
   have:=Ad R₁
   rw [Heap.size_push] at this ⊢
   exact this),q⟩ (s.toks+1)
 exact Post.chain (δ:=[]) (.push _ _ _) (λ _ h=>nomatch h) (by rw [List.append_nil]; exact N)
end
section
variable {W:Wl} {d:Nat} {env:Env} {η:En} {σ:List AO}
theorem bA.bools {X ρ:List Addr} {h:Heap} {bs:List Bool}:∀ {ws:List Value},bA X ρ h (bs.map .bool) ws→ws=bs.map .bool:=by
 induction bs with
 | nil=>exact λ hv=>hv.aU rfl
 | cons b bs ih=>exact λ hv=>hv.ao λ w ws x r=>x.lO (congrArg (List.cons _) (ih r))
theorem aq.all {n:Nat} {bs:List Bool} {Q:AV→List AO→Prop} (e1:σ[n]? = some (.lst (bs.map .bool))) (q:Q (.bool (bs.all id)) σ):aq W d (.cst (.builtin "all")) [.lst n] σ Q:=λ A s ρ f vs hr R hf hv=>by
 refine hf.bh ?_
 refine hv.ao λ _ _ ha hv=>?_
 refine hv.aU ?_
 refine ha.gP λ a ea=>?_
 obtain ⟨ws,k,h1,v1⟩:=aP R e1 ea
 have hb:=v1.bools
 clear v1
 subst hb
 have hl:s.heap.IsList a (bs.map Value.bool).toArray:=⟨_,h1,rfl,_,rfl⟩
 have hlt:a<s.heap.objs.size:=Heap.lt_size h1
 refine qx (call_all_walk (wpAny_pyIter_list hl ?_))
 refine ⟨s.heap.objs.size,[s.heap.objs.size,a],[s.heap.objs.size],(bs.map Value.bool).toArray.size,_,_,λ i=>(bs[i]?).getD true,rfl,Walks.list (A:=A.in1) hr.handled _ a (Nat.ne_of_lt hlt) (bs.map Value.bool).toArray,
  ⟨⟨_,Heap.get?_push_size _ rfl,rfl,rfl⟩,hl.push _⟩,λ i v s' Q' E' hP hQ=>?_,λ h' tk hk hz=>?_⟩
 · have e:(bs.map Value.bool)[i]? = some v:=by simpa using hP
   rw [List.getElem?_map] at e
   cases hi:bs[i]? with
   | none=>rw [hi] at e; cases e
   | some b =>
    dsimp only at hQ
    rw [hi] at e hQ
    cases e
    exact wpAny_truthy_bool hQ
 · have e:((List.range (bs.map Value.bool).toArray.size).all λ i=>(bs[i]?).getD true)=bs.all id:=by
    rw [List.size_toArray,List.length_map]; exact LSm.range_all bs
   rw [e]
   have P:aJ [] s.heap h':=.zY hz (LSm.kept_iter hk)
   exact ⟨h',tk,[],σ,rfl,P.weaken (λ _ h=>nomatch h),(λ _ h=>nomatch h),by rw [List.append_nil]; exact R.keeps P,by rw [List.append_nil]; exact ⟨_,.bool _,q⟩⟩
end
theorem Ca:typeLookup (.type "list_reverseiterator") "__len__" = pure none:=by rw [typeLookup_type,builtinLookup_eq_fast]; kernel_rfl
theorem DN:typeLookup (.type "list_reverseiterator") "__length_hint__" = pure (some (.builtin "list_reverseiterator.__length_hint__")):=by rw [typeLookup_type,builtinLookup_eq_fast]; kernel_rfl
theorem wQ {prog:Program} {w:PySem.World} {A:Around} {E:Value→Shared→Prop} {s:Shared} {l I:Addr} {items:Array Value} {Q:Value→Shared→Prop} (hh:A.handled=none) (hl:s.heap.IsList l items)
 (hI:s.heap.IsRevIter I l ((items.size:Int)-1)) (hne:l≠I) (hn:items.size≤sizeLine)
 (hQ:∀ h' tk c',(∀ b o,b≠I→s.heap.get? b=some o→h'.get? b=some o)→h'.get? s.heap.objs.size=some { cls:=.type "list",data:=.seq items.reverse c' }→Q (.ref s.heap.objs.size) { s with heap:=h',toks:=tk }) :
 wpAny (model prog w) A (call (.type "list") [.ref I]) Q E s:=by
 have hlI:I<s.heap.objs.size:=by obtain ⟨o,e,_⟩:=hI; exact Heap.lt_size e
 have TS:l<s.heap.objs.size:=by obtain ⟨o,e,_⟩:=hl; exact Heap.lt_size e
 have W:=(Walks.listRev (prog:=prog) (w:=w) (A:=A.in1.in1) hh I l hne items).toS
 refine callType_codes (Q₁:=λ obj eO=>obj=.ref s.heap.objs.size∧eO={ s with heap:=s.heap.push { cls:=.type "list",data:=.seq #[] } }) F.called_list (F.typeCall_list_1 _) F.entry_list_init
  (code_list_new _ ⟨rfl,rfl⟩) λ obj eO h₁=>?_
 obtain ⟨rfl,rfl⟩:=h₁
 have hS:(s.heap.push { cls:=.type "list",data:=.seq #[] }).get? s.heap.objs.size=some { cls:=.type "list",data:=.seq #[] }:=Heap.get?_push_size _ rfl
 refine ⟨⟨_,hS,rfl⟩,F.args_list_init_2 _ _,?_⟩
 show wpAny _ A.in1.in1 (do let old ← Builtin.List.listItems (.ref s.heap.objs.size); Builtin.List.listUpdate (.ref s.heap.objs.size) (λ _=>#[]); letGo old.toList.reverse; Builtin.List.listExtendWith (.ref s.heap.objs.size) (.ref I) .none) _ _ _
 refine wpAny_bind ?_
 unfold Builtin.List.listItems
 refine wpAny_bind (wpAny_seqItems hS rfl (wpAny_pure ?_))
 show wpAny _ A.in1.in1 (updateSeq s.heap.objs.size (λ _=>#[]) >>= λ _=>letGo (#[]:Array Value).toList.reverse >>= λ _=>Builtin.List.listExtendWith (.ref s.heap.objs.size) (.ref I) .none) _ _ _
 refine wpAny_bind (wpAny_updateSeq hS rfl ?_)
 have MX:=Heap.get?_update_self (Obj.mapSeq (λ _=>(#[]:Array Value))) hS rfl
 have Qc:∀ b o,s.heap.get? b=some o→((s.heap.push { cls:=.type "list",data:=.seq #[] }).update s.heap.objs.size (Obj.mapSeq (λ _=>(#[]:Array Value)))).get? b=some o :=
  λ b o e=>(Heap.get?_update_other _ _ (Ne.symm (Nat.ne_of_lt (Heap.lt_size e)))).trans (Heap.get?_push_of_some _ e)
 refine wpAny_bind (wpAny_letGo ?_)
 have hit:((s.heap.push { cls:=.type "list",data:=.seq #[] }).update s.heap.objs.size (Obj.mapSeq (λ _=>(#[]:Array Value)))).IsRevIter I l ((items.size:Int)-1-((0:Nat):Int)):=by
  have:(items.size:Int)-1-((0:Nat):Int)=(items.size:Int)-1:=by lia
  rw [this]
  exact hI.at λ o e=>Qc _ _ e
 have hT:=hit.typeIs (s:={ s with heap:=(s.heap.push { cls:=.type "list",data:=.seq #[] }).update s.heap.objs.size (Obj.mapSeq (λ _=>(#[]:Array Value))) })
 have h1:Builtin.List.listSameRef (.ref s.heap.objs.size) (.ref I)=false:=by simp only [Builtin.List.listSameRef]; exact beq_false_of_ne (Nat.ne_of_gt hlI)
 unfold Builtin.List.listExtendWith
 refine wpAny_bind (wpAny_typeOf hT ?_)
 rw [if_neg (by rw [h1]; decide)]
 refine wpAny_bind (wpAny_pyIter_revIter hit ?_)
 refine wpAny_bind (wpAny_holding ?_)
 unfold Builtin.List.listLengthHint
 refine wpAny_bind (wpAny_specialOf hT Ca ?_)
 show wpAny _ A.in1.in1 (specialOf (Value.ref I) (Str.ofString "__length_hint__") >>= _) _ _ _
 refine wpAny_bind (wpAny_specialOf hT DN ?_)
 (generalize hid:("list_reverseiterator.__length_hint__" : String)=RJ; (fail_if_success (clear hid RJ)); wp_delta; rw [show splitId RJ=some ("list_reverseiterator", "__length_hint__") from by subst hid; decide +kernel]; subst hid)
 refine wpAny_bind (wpAny_isInstance (b:=true) hT (by rw [isSubtype_type]; kernel_rfl) ?_)
 refine wpAny_pure ?_
 rw [if_neg (by decide)]
 refine wpAny_pure ⟨plainId_quiet F.plain_extend_loop _,codeAny_extend_loopS W hn _ (λ m=>by
  rcases List.mem_cons.mp m with e | e
  · exact absurd hlI (by rw [← e]; exact Nat.lt_irrefl _)
  · exact absurd TS (by rw [← List.mem_singleton.mp e]; exact Nat.lt_irrefl _)) _ _ 0 _ _ _ rfl (Nat.zero_le _) ⟨Nat.zero_le _,hit,hl.at λ o e=>Qc _ _ e⟩ MX (ItemsOf.nil _) λ s' acc' c' hm hS' hacc=>?_⟩
 have ea:acc'=items.reverse:=by
  refine Array.ext (by rw [hacc.1,Array.size_reverse]) λ i h1 h2=>?_
  have:=hacc.2 i _ (Array.getElem?_eq_getElem h1)
  dsimp only at this
  rw [Array.getElem_reverse]
  have h3:items.size-1-i<items.size:=by rw [Array.size_reverse] at h2; exact Lq.s7 h2
  rw [Array.getElem?_eq_getElem h3] at this
  exact (Option.some.inj this).symm
 refine ⟨rfl,?_⟩
 rw [Moved.eq_with hm]
 subst ea
 refine hQ s'.heap s'.toks c' (λ b o hb e=>hm.heap b o (λ hmem=>?_) (Qc b o e)) hS'
 rcases List.mem_cons.mp hmem with e' | hmem
 · exact absurd (Heap.lt_size e) (by rw [e']; exact Nat.lt_irrefl _)
 · exact hb (List.mem_singleton.mp hmem)
section
variable {W:Wl} {d:Nat} {env:Env} {η:En} {σ:List AO}
theorem bA.reverse {X ρ:List Addr} {h:Heap} {as:List AV}:∀ {vs:List Value},bA X ρ h as vs→bA X ρ h as.reverse vs.reverse:=by
 induction as with
 | nil=>exact λ hv=>hv.aU .nil
 | cons a as ih=>exact λ hv=>hv.ao λ w ws x r=>by rw [List.reverse_cons,List.reverse_cons]; exact (ih r).append (.cons x .nil)
theorem DO {S ρ:List Addr} {s:Shared} (R:aK W ρ σ s.heap) (o:AO) (ob:Obj) {L:Addr} {h':Heap} {Q:List Addr→List AO→Heap→Prop} (P:aJ [] s.heap h') (hL:s.heap.objs.size≤L) (hg:h'.get? L=some ob) (ho:OR W.hid ρ s.heap o ob)
 (q:Q (ρ++[L]) (σ++[o]) h') (tk:Nat):Post W S ρ s Q { s with heap:=h',toks:=tk }:=by
 have P':aJ ρ s.heap h':=P.weaken (λ _ h=>nomatch h)
 refine ⟨_,tk,[L],σ++[o],rfl,P.weaken (λ _ h=>nomatch h),λ a ha=>?_,?_,q⟩
 · rw [List.mem_singleton.mp ha]; exact hL
 · refine ⟨λ b o e=>P.keep _ _ (R.base b o e) (λ h=>nomatch h),λ a ha=>?_,by rw [List.length_append,List.length_append,R.len]; rfl,?_,λ a ha=>Nat.lt_of_lt_of_le (R.qy a ha) P.size,λ n o' e=>?_,λ q hq=>?_⟩
   · rcases List.mem_append.mp ha with ha | ha
     · exact R.fresh a ha
     · rw [List.mem_singleton.mp ha]
       cases q:W.hb.get? L with
       | none=>rfl
       | some o=>exact absurd (Heap.lt_size (R.base _ _ q)) (Nat.not_lt.mpr hL)
   · rw [List.nodup_append]
     refine ⟨R.nodup,List.nodup_cons.mpr ⟨by simp,List.nodup_nil⟩,λ a ha b hb=>?_⟩
     rw [List.mem_singleton.mp hb]
     obtain ⟨o,e,_⟩:=R.muts a ha
     exact Nat.ne_of_lt (Nat.lt_of_lt_of_le (Heap.lt_size e) hL)
   · by_cases hn:n<σ.length
     · rw [List.getElem?_append_left hn] at e
       obtain ⟨a,A7,e1,e2,r⟩:=R.objs n o' e
       refine ⟨a,A7,?_,P.keep _ _ e2 (λ h=>nomatch h),r.mono R.muts P'⟩
       rw [List.getElem?_append_left (by rw [R.len]; exact hn)]; exact e1
     · rw [List.getElem?_append_right (Nat.not_lt.mp hn)] at e
       have hz:n-σ.length=0:=by
        cases hz:n-σ.length with
        | zero=>rfl
        | succ k=>rw [hz] at e; simp at e
       rw [hz] at e
       refine sE e ?_
       have hn':n=σ.length:=by lia
       subst hn'
       refine ⟨L,ob,?_,hg,ho.mono R.muts P'⟩
       rw [List.getElem?_append_right (by rw [R.len]; exact Nat.le_refl _),R.len,Nat.sub_self]
       rfl
   · obtain ⟨m,e1,e2⟩:=R.tabs q hq
     exact ⟨m,(List.getElem?_append_left (List.getElem?_eq_some_iff.mp e1).1).trans e1,(List.getElem?_append_left (List.getElem?_eq_some_iff.mp e2).1).trans e2⟩
theorem aW.listRev (O:W.Ok) {x y:Str} {p q pos JP:Pos} {e:Expr} {Q:AV→List AO→Prop} (hx:ud η x (.cst (.type "list"))) (hy:ud η y (.cst (.type "reversed"))) (hu:aB e=true)
 (h:aW W d env e η σ λ a aa=>∃ n xs,a=.lst n∧aa[n]? = some (.lst xs)∧xs.length≤1000000∧Q (.lst aa.length) (aa++[.lst xs.reverse])) :
 aW W d env (.Call (.Name x p) [.Call (.Name y q) [e] [] JP] [] pos) η σ Q:=λ A s ρ hr R F=>by
 show wpAny _ _ (do callWith pos (← eval (.Name x p) env) [] (backTo pos (starEach [.Call (.Name y q) [e] [] JP] env)) []) _ _ _
 refine wpAny_bind (wpAny_Name (fY O hx R F λ w z=>?_) (hx.Fp F))
 refine VR.bh z ?_
 refine callWith_of (P:=λ _=>True) (by rfl) (λ h _=>⟨.machine,.inr (.inl rfl),Looks.of_pure rfl⟩) ?_
 refine p6 (by rfl) ?_
 show wpAny _ _ (spliced [(false,eval (.Call (.Name y q) [e] [] JP) env)]) _ _ _
 refine spliced_cons (qQ O hy (by simp [hu]) hr R F (ee.one hu h) λ ws h₁ tk₁ δ aa as p f R₁ vs ⟨a,e1,n,xs,e2,e3,hz,q⟩=>?_)
 subst e1 e2
 refine vs.ao λ _ _ va vs=>?_
 refine bA.aU vs ?_
 refine va.gP λ ad ea=>?_
 obtain ⟨us,m,h1,v1⟩:=aP R₁ e3 ea
 refine call_reversed_list (items:=us.toArray) ⟨_,h1,rfl,_,rfl⟩ ?_
 refine spliced_nil ⟨trivial,?_⟩
 have hla:ad<h₁.objs.size:=Heap.lt_size h1
 refine qx (wQ (s:={ s with heap:=h₁.push (revObj ad ((us.toArray.size:Int)-1)),toks:=tk₁ }) (l:=ad) (items:=us.toArray) hr.handled ⟨_,Heap.get?_push_of_some _ h1,rfl,_,rfl⟩
  ⟨_,Heap.get?_push_size _ rfl,rfl,rfl⟩ (Nat.ne_of_lt hla) (by rw [List.size_toArray,v1.length,sizeLine_eq]; exact Lq.bZ hz (by decide)) λ h' tk c' hk hg hz=>?_)
 refine Post.chain (tk₁:=tk₁) p f ?_
 have P:aJ [] h₁ h':=.zY (Nat.le_trans (by rw [Heap.size_push]; exact Nat.le_succ _) hz) λ b o e=>hk b o (Nat.ne_of_lt (Heap.lt_size e)) (Heap.get?_push_of_some _ e)
 refine DO (s:={ s with heap:=h₁,toks:=tk₁ }) R₁ (.lst xs.reverse) _ P (L:=h₁.objs.size+1) (Nat.le_succ _) (by rw [← Heap.size_push]; exact hg) ⟨us.reverse,c',by simp,v1.reverse⟩ ⟨_,.lst ?_,q⟩ tk
 show (ρ++δ++[h₁.objs.size+1])[aa.length]? = some (h₁.push _).objs.size
 rw [Heap.size_push,List.getElem?_append_right (by rw [R₁.len]; exact Nat.le_refl _),R₁.len,Nat.sub_self]
 rfl
theorem qt {prog:Program} {w:PySem.World} {A:Around} {E:Value→Shared→Prop} {s:Shared} {r:Addr} {n:Int} {t u v:Tok} {Q:Value→Shared→Prop} (hr:IsRange s.heap r 0 n 1 t u v) (hn0:0≤n) (hn1:n≤1000000)
 (h:Q (.ref s.heap.objs.size) { s with heap:=s.heap.push { cls:=.type "range_iterator",data:=.fields #[rawInt (n-1),rawInt n,rawInt (-1)] } }):wpAny (model prog w) A (call (.builtin "range.__reversed__") [.ref r]) Q E s:=by
 refine wpAny_call_entry F.slot_range_reversed ⟨_,hr,rfl⟩ F.entry_range_reversed ?_ (F.args_range_reversed_1 _)
 obtain ⟨hp,g,dd,tk,os⟩:=s
 wp_walk using AutoSeq1.wpAny_loadPart' hr
 have es:Builtin.Range.rangeSize 0 n 1=n:=by
  unfold Builtin.Range.rangeSize
  rw [if_pos (by decide)]
  by_cases hz:0<n
  · rw [if_pos hz,Int.ediv_one]; lia
  · rw [if_neg hz]; exact Lq.e hn0 (Lq.n hz)
 have fn:Builtin.Range.rangeFitsLong n=true:=by simp [Builtin.Range.rangeFitsLong]; exact ⟨Lq.ll (by decide) hn0,Lq.ls hn1 (by decide)⟩
 have f1:(Builtin.Range.rangeFitsLong 0&&Builtin.Range.rangeFitsLong n&&Builtin.Range.rangeFitsLong 1&&Builtin.Range.rangeFitsLong (-1)&&Builtin.Range.rangeFitsLong (0-1)&&Builtin.Range.rangeFitsLong (Builtin.Range.rangeSize 0 n 1))=true:=by
  rw [es,fn]; decide +kernel
 have e2:0+(n-1)*1=n-1:=by lia
 rw [f1,es,e2,if_neg (by decide)]
 dsimp only
 rw [if_pos rfl]
 wp_walk
 exact ⟨_,rfl,h⟩
theorem tW:isSubtype (.type "range_iterator") (.type "reversed")=pure false:=by rw [isSubtype_type]; kernel_rfl
theorem qu {prog:Program} {w:PySem.World} {A:Around} {E:Value→Shared→Prop} {s:Shared} {r:Addr} {n:Int} {t u v:Tok} {Q₁:Value→Shared→Prop} (hr:IsRange s.heap r 0 n 1 t u v) (hn0:0≤n) (hn1:n≤1000000)
 (h:Q₁ (.ref s.heap.objs.size) { s with heap:=s.heap.push { cls:=.type "range_iterator",data:=.fields #[rawInt (n-1),rawInt n,rawInt (-1)] } }) :
 codeAny (model prog w) A (.call (.builtin "reversed.__new__") ⟨[.type "reversed",.ref r],[]⟩) (wants Q₁ E) s:=by
 have hT:s.TypeIs (.ref r) "range" := ⟨_,hr,rfl⟩
 refine codeAny_of_tree ?_
 show wpAny _ A.in1 (do checkBuiltinCall "reversed.__new__" ⟨[.type "reversed",.ref r],[]⟩; again (.builtin "reversed.__new__" ⟨[.type "reversed",.ref r],[]⟩)) _ _ s
 refine wpAny_bind (wpAny_of_eq (F.newCall_reversed_1 _) (wpAny_pure ⟨plainId_quiet F.plain_reversed_new _,codeAny_builtin F.entry_reversed_new ?_⟩))
 rw [Around.under_plainId F.plain_reversed_new _]
 unfold Builtin.«reversed.__new__»
 refine wpAny_bind (wpAny_of_eq (newClass_reversed _) ?_)
 try dsimp only
 refine wpAny_bind (wpAny_of_eq (a:=()) (by first | rfl | kernel_rfl) ?_)
 refine wpAny_bind (wpAny_of_eq (a:=()) (by first | rfl | kernel_rfl) ?_)
 try dsimp only
 refine wpAny_bind (wpAny_specialOf hT F.slot_range_reversed.lookup ?_)
 try dsimp only
 refine wpAny_bind (wpAny_of_eq (F.slot_range_reversed.bind _) ?_)
 try dsimp only
 first
 | rw [if_neg (show ¬ ((Value.builtin "range.__reversed__" == Value.none)=true) from Bool.false_ne_true)]
 | (show wpAny _ _ (if (Value.builtin "range.__reversed__" == Value.none)=true then _ else _) _ _ _; rw [if_neg (show ¬ ((Value.builtin "range.__reversed__" == Value.none)=true) from Bool.false_ne_true)])
 refine wpAny_bind (wpAny_rule ?_)
 refine wpAny_bind (m:=runValue (.call (.builtin "range.__reversed__") ⟨[.ref r],[]⟩)) (show wpAny _ _ (call (.builtin "range.__reversed__") [.ref r]) _ _ _ from qt hr hn0 hn1 ?_)
 first
 | exact wpAny_pure h
 | exact wpAny_bind (wpAny_pure (wpAny_pure h))
theorem qw {prog:Program} {w:PySem.World} {A:Around} {E:Value→Shared→Prop} {s:Shared} {r:Addr} {n:Int} {t u v:Tok} {Q:Value→Shared→Prop} (hr:IsRange s.heap r 0 n 1 t u v) (hn0:0≤n) (hn1:n≤1000000)
 (h:Q (.ref s.heap.objs.size) { s with heap:=s.heap.push { cls:=.type "range_iterator",data:=.fields #[rawInt (n-1),rawInt n,rawInt (-1)] } }):wpAny (model prog w) A (call (.type "reversed") [.ref r]) Q E s:=by
 refine callType_other (U := "range_iterator") (Q₁:=λ obj eO=>obj=.ref s.heap.objs.size∧eO={ s with heap:=s.heap.push { cls:=.type "range_iterator",data:=.fields #[rawInt (n-1),rawInt n,rawInt (-1)] } }) (by decide +kernel) F.create_reversed ⟨_,_,F.mro_reversed⟩ F.made_reversed tW (F.typeCall_reversed_1 _) (qu hr hn0 hn1 ⟨rfl,rfl⟩) ?_
 rintro obj eO ⟨rfl,rfl⟩
 exact ⟨⟨_,Heap.get?_push_size _ rfl,rfl⟩,h⟩
theorem VR.MY {X ρ:List Addr} {h:Heap} {a b c:Int} {v:Value} {P:Prop} (x:VR X ρ h (.gO a b c) v) (k:∀ r t u w,v=.ref r→IsRange h r a b c t u w→P):P:=by
 cases x with | gO e=>exact k _ _ _ _ rfl e
inductive JQ (Q:dQ→List AO→Prop):AV→List AO→Prop
 | lst (n:Nat) (xs:List AV) {aa:List AO} (e:aa[n]? = some (.lst xs)) (hz:xs.length≤1000000) (q:Q (.qO n xs.length) aa):JQ Q (.lst n) aa
 | gO (n:Int) {aa:List AO} (h0:0≤n) (h1:n≤1000000) (q:Q (.gO (n-1) (-1) n.toNat) aa):JQ Q (.gO 0 n 1) aa
theorem qs.rev (O:W.Ok) {x:Str} {p pos:Pos} {e:Expr} {Q:dQ→List AO→Prop} (hx:ud η x (.cst (.type "reversed"))) (hu:aB e=true)
 (h:aW W d env e η σ (JQ Q)):qs W d env (.Call (.Name x p) [e] [] pos) η σ Q:=λ A s ρ hr R F=>by
 refine qQ O hx (by simp [hu]) hr R F (ee.one hu h) λ ws h₁ tk₁ δ aa as p f R₁ vs ⟨a,e1,H⟩=>?_
 subst e1
 refine vs.ao λ _ _ va vs=>?_
 refine bA.aU vs ?_
 cases H with
 | lst n xs e3 hz q =>
  refine va.gP λ ad ea=>?_
  obtain ⟨us,m,h1,v1⟩:=aP R₁ e3 ea
  refine call_reversed_list (items:=us.toArray) ⟨_,h1,rfl,_,rfl⟩ ?_
  have hit:(h₁.push (revObj ad ((us.toArray.size:Int)-1))).IsRevIter h₁.objs.size ad ((us.toArray.size:Int)-1):=⟨_,Heap.get?_push_size _ rfl,rfl,rfl⟩
  refine wpAny_pyIter_revIter (s:={ s with heap:=h₁.push (revObj ad ((us.toArray.size:Int)-1)),toks:=tk₁ }) hit ?_
  refine p5 (k:=.qO n xs.length) p f R₁ ⟨ad,ea,?_⟩ q
  rw [List.size_toArray,v1.length] at hit ⊢
  exact hit
 | gO n hn0 hn1 q =>
  refine va.MY λ r t u w er hg=>?_
  subst er
  refine qw (s:={ s with heap:=h₁,toks:=tk₁ }) hg hn0 hn1 ?_
  have en:n=((n.toNat:Nat):Int):=(Int.toNat_of_nonneg hn0).symm
  have hit:IsRangeIter (h₁.push { cls:=.type "range_iterator",data:=.fields #[rawInt (n-1),rawInt n,rawInt (-1)] }) h₁.objs.size (n-1) ((n.toNat:Nat):Int) (-1):=by
   rw [← en]
   exact Heap.get?_push_size _ rfl
  refine wpAny_pyIter_rangeiter (s:={ s with heap:=h₁.push { cls:=.type "range_iterator",data:=.fields #[rawInt (n-1),rawInt n,rawInt (-1)] },toks:=tk₁ }) hit ?_
  exact p5 (k:=.gO (n-1) (-1) n.toNat) p f R₁ hit q
end
theorem foldl_rep (items:List Value) (k:Nat):∀ acc:Array Value,(List.foldl (λ x1 x2=>x1++x2) acc (List.replicate k items.toArray))=acc++((List.replicate k items).flatten).toArray:=by
 induction k with
 | zero=>intro acc; simp
 | succ k ih=>intro acc; rw [List.replicate_succ,List.foldl_cons,ih,List.replicate_succ,List.flatten_cons]; simp
theorem bA.rep {X ρ:List Addr} {h:Heap} {as:List AV} {vs:List Value} (x:bA X ρ h as vs):∀ k:Nat,bA X ρ h (List.replicate k as).flatten (List.replicate k vs).flatten
 | 0=>.nil
 | k+1=>by rw [List.replicate_succ,List.flatten_cons,List.replicate_succ,List.flatten_cons]; exact x.append (x.rep k)
section
variable {W:Wl} {d:Nat} {env:Env} {η:En} {σ:List AO}
theorem aV.Gb {n:Nat} {xs:List AV} {k:Int} {Q:AV→List AO→Prop} (e:σ[n]? = some (.lst xs)) (hne:xs≠[]) (hz:xs.length*k.toNat≤1000000) (hk:k≤1000000) (hk':-1000000≤k) (q:Q (.lst σ.length) (σ++[.lst (List.replicate k.toNat xs).flatten])) :
 aV W d .Mult (.lst n) (.int k) σ Q:=λ A s ρ vs hr R hv=>by
 refine hv.ao λ _ _ ha hv=>?_
 refine hv.ao λ _ _ hb hv=>?_
 refine bA.aU hv ?_
 refine ha.gP λ a ea=>?_
 refine hb.cL λ u=>?_
 obtain ⟨ws,m,h1,v1⟩:=aP R e ea
 have hem:ws.toArray.isEmpty=false:=by
  have:=v1.length
  cases ws with
  | nil=>cases xs with
   | nil=>exact absurd rfl hne
   | cons=>cases this
  | cons=>rfl
 refine wpAny_binaryOp_repeat_ref (T := "list") (U := "int") (by decide) ⟨_,h1,rfl⟩ (λ s'=>typeIs_int s' k u) noFill_list_mul PySem.F.fills_int_mul PySem.F.slot_int_rmul repeat_list PySem.F.slot_int_index.lookup
  (call_meets PySem.F.slot_int_rmul (typeIs_int s k u) PySem.F.entry_int_rmul (PySem.F.args_int_rmul_2 _ _) (int___rmul___int_list k u a ws.toArray m)
   ⟨h1,rfl,⟨_,h1,rfl⟩,call_meets PySem.F.slot_list_mul ⟨_,h1,rfl⟩ PySem.F.entry_list_mul (PySem.F.args_list_mul_2 _ _)
    (AutoListH.list___mul___list_int_3 a ws.toArray m k u (by simp [Builtin.List.listFitsIndex]; exact ⟨Lq.ll (by decide) hk',Lq.ls hk (by decide)⟩) (by
     rw [List.size_toArray,v1.length]; lia) (by simp [Builtin.List.listTooLong,sizeLine]; rw [v1.length]; exact Lq.bZ hz (by decide)))
    ⟨h1,?_⟩⟩)
 rw [hem]
 have hf:=foldl_rep ws k.toNat #[]
 simp only [Bool.false_eq_true,if_false]
 refine lS (s:=s) R (.lst (List.replicate k.toNat xs).flatten) _ rfl ⟨(List.replicate k.toNat ws).flatten,0,?_,v1.rep _⟩ ⟨_,.lst (Ad R),q⟩ s.toks
 rw [hf]; simp
end
section
variable {W:Wl} {d:Nat} {env:Env} {η:En} {σ:List AO}
theorem JR {scope:Scope} (env:Env) (h:scope.names.all (λ x=>!(x.2==.free))=true):closureFor scope env=pure []:=by
 simp only [closureFor]
 rw [forIn_yield_id [] (λ x hx c=>by
  obtain ⟨n,kind⟩:=x
  have:(kind==NameKind.free)=false:=by simpa using List.all_eq_true.mp h _ hx
  simp only [this,Bool.false_eq_true,if_false])]
 rfl
theorem aK.grow {ρ:List Addr} {h h':Heap} (R:aK W ρ σ h) {n l c:Nat} {P:Addr} {A7:Obj} (e1:ρ[n]? = some P) (e2:σ[n]? = some (.tab l c)) (hx:Heap.ExtBut P h h') (hs:h.objs.size≤h'.objs.size) (hg:h'.get? P=some A7) (ho:OR W.hid ρ h' (.tab l c) A7):aJ ρ h h'∧aK W ρ σ h':=by
 have hm:P∈ρ:=List.mem_of_getElem? e1
 have Pr:aJ ρ h h':=⟨hs,λ b o e hb=>hx b o (λ q=>hb (q▸hm)) e⟩
 refine ⟨Pr,λ b o q=>hx b o (λ z=>?_) (R.base b o q),R.fresh,R.len,R.nodup,λ a ha=>Nat.lt_of_lt_of_le (R.qy a ha) hs,λ m o q=>?_,R.tabs⟩
 · have e:=R.fresh P hm
   rw [← z,q] at e
   exact nomatch e
 · by_cases hmn:n=m
   · subst hmn
     rw [e2] at q
     cases q
     exact ⟨P,A7,e1,hg,ho⟩
   · obtain ⟨b,ob,f1,f2,r⟩:=R.objs m o q
     have r':=r.mono (δ:=[]) R.muts Pr
     rw [List.append_nil] at r'
     exact ⟨b,ob,f1,hx b ob (λ z=>hmn (xj R.nodup e1 (z▸f1))) f2,r'⟩
theorem cM.def (O:W.Ok) {name:Str} {params:Arguments} {body:List Stmt} {scope:Scope} {pos:Pos} {c P:Addr} {Q:Fl→En→List AO→Prop} (hq:(c,P,pos.line,pos.col)∈W.tabs) (hc:env.code=.ref c)
 (hf:scope.names.all (λ x=>!(x.2==.free))=true) (hd0:params.defaults=[]) (hk0:params.kw_defaults=[]) (ha:annTrees params none env=[])
 (h:∀ v:Value,∃ η',Up η name (.cst v) η'∧Q .next η' σ):cM W d env (.FunctionDef name params body [] none [] scope none name pos) η σ Q:=λ A s ρ hr R F=>by
 obtain ⟨C,hb⟩:=O.tab _ hq
 obtain ⟨n,e1,e2⟩:=R.tabs _ hq
 dsimp only at C hb e1 e2
 have C':=C.keeps R.base
 have hb':=hb.keeps R.base
 have hgs:=O.g.keeps R.base
 have hcl:=JR env hf
 have hm:P∈ρ:=List.mem_of_getElem? e1
 have hgP:mainGlobals≠P:=λ q=>by
  obtain ⟨o,es,ep,e,hd,_⟩:=O.g
  rw [q,R.fresh P hm] at e
  exact nomatch e
 have fin:∀ (v:Value) (h':Heap) (tk:Tok),aJ ρ s.heap h'→aK W ρ σ h'→wpAny W.M A (storeName env name v) (λ _ s'=>Post W (addrs env) ρ s (QF W env Q .next) s') lQ { s with heap:=h',toks:=tk }:=λ v h' tk p R'=>by
  obtain ⟨η',U,q⟩:=h v
  have F':=F.mono (δ:=[]) R.muts p (λ _ h=>nomatch h)
  rw [List.append_nil] at F'
  refine wpAny_mono (eE (s:={ s with heap:=h',toks:=tk }) (Q:=QF W env Q .next) U R' F' (.cst v) λ h'' Qa TQ=>⟨.next,η',Qa,.next,q⟩) (λ _ ia z=>?_) λ _ _ x=>x
  have p':aJ (addrs env++ρ) s.heap h':=p.weaken λ a ha=>List.mem_append_right _ ha
  exact Post.chain (δ:=[]) p' (λ _ h=>nomatch h) (by rw [List.append_nil]; exact z)
 refine nestDef_K hd0 hk0 ha ?_
 obtain ⟨a,ob,f1,f2,r⟩:=R.objs n _ e2
 rw [e1] at f1
 cases f1
 have push:∀ {h':Heap} (o:Obj),Heap.ExtBut P s.heap h'→Heap.ExtBut P s.heap (h'.push o):=λ o hx b ob hb e=>Heap.get?_push_of_some _ (hx b ob hb e)
 rcases r with rfl | ⟨k,rfl⟩
 · refine makeFunction_K (mg:=W.mg) hcl F.ok.glob hgs hc C' f2 trivial rfl hgP hb' λ c' ctv doc h' tk hx hge hlt hrec htb=>?_
   obtain ⟨p,R'⟩:=R.grow e1 e2 (push (fnMade name (qualnameIn env name name) params body scope [] doc ((W.mg "__name__").getD .none) c' ctv) hx) (by rw [Heap.size_push]; exact Nat.le_succ_of_le (Nat.le_of_lt (Nat.lt_of_le_of_lt hge hlt))) (Heap.get?_push_of_some _ htb) (.inr ⟨c',rfl⟩)
   exact fin _ _ tk p R'
 · refine makeFunction_hit (mg:=W.mg) hcl F.ok.glob hgs hc C' f2 trivial (cv:=.ref k) (by simp [codeAmong,rawInt]) hb' λ ctv doc h' tk hk hsz=>?_
   have p:∀ S,aJ S s.heap (h'.push { cls:=.type "function",data:=.func (fnX name (qualnameIn env name name) params body scope [] .none .none doc ((W.mg "__name__").getD .none) none (.ref k) ctv) }):=λ S=>⟨by rw [Heap.size_push]; exact Nat.le_succ_of_le hsz,λ b o e _=>Heap.get?_push_of_some _ (hk b o e)⟩
   exact fin _ _ tk (p _) (R.keeps (p _))
end
def af (a:Int):Prop:=-1152921504606846976≤a∧a≤1152921504606846976
theorem af.ok {a:Int} (h:af a):a.natAbs<2^64:=by unfold af at h; omega
def lz (b:Bool) (p:Prop):Prop:=match b with
 | true=>p
 | false=>False
theorem aF {b:Bool} {p:Prop} (h:lz b p):b=true∧p:=by
 cases b with
 | true=>exact ⟨rfl,h⟩
 | false=>exact h.elim
noncomputable def Bg {α:Type} (t:Sem α):Option α:=if h:t.ctorIdx=0 then Sem.pure.elim (motive:=λ _=>Option α) t h some else none
theorem vR {α:Type} {t:Sem α} {a:α} (h:Bg t=some a):t=pure a:=by
 obtain ⟨hp,h⟩:=BS h
 exact Sem.pure.elim (motive:=λ t=>∀ hp,Sem.pure.elim (motive:=λ _=>Option α) t hp some=some a→t=Sem.pure a) t hp (λ _ _ h=>congrArg _ (Option.some.inj h)) hp h
noncomputable def xq (t:Sem Bool):Bool:=match t with
 | .pure false=>true
 | _=>false
theorem lA {t:Sem Bool} (h:xq t=true):t=pure false:=by
 cases t with
 | pure b=>cases b with
  | false=>rfl
  | true=>exact cS h
 | _=>exact cS h
def cJ {α:Type} (o:Option α) (k:α→Prop) (z:Prop):Prop:=match o with
 | some a=>k a
 | none=>z
theorem aM {α:Type} {o:Option α} {k:α→Prop} {z P:Prop} (h:cJ o k z) (h1:∀ a,o=some a→k a→P) (h2:o=none→z→P):P:=by
 cases o with
 | some a=>exact h1 a rfl h
 | none=>exact h2 rfl h
inductive BC where
 | lit (b:Bool)
 | sym (b:Bool)
noncomputable def BC.val:BC→Bool
 | .lit b=>b
 | .sym b=>b
noncomputable def BC.no:BC→BC
 | .lit b=>.lit (!b)
 | .sym b=>.sym (!b)
noncomputable def BC.av:BC→AV
 | .lit b=>.cst (.bool b)
 | .sym b=>.bool b
def wC (c:BC) (A B:Prop):Prop:=match c with
 | .lit b=>(match b with
  | true=>A
  | false=>B)
 | .sym b=>(b=true→A)∧(b=false→B)
theorem lV {c:BC} {A B:Prop} (h:wC c A B):(c.val=true→A)∧(c.val=false→B):=by
 cases c with
 | lit b=>cases b with
  | true=>exact And.intro (λ _=>h) (λ e=>nomatch e)
  | false=>exact And.intro (λ e=>nomatch e) (λ _=>h)
 | sym b=>exact h
noncomputable def allB (bs:List Bool):Bool:=bs.all id
inductive Kd where
 | any | int | bool | tX | lW | DP | lst | yes | no | CX
 | inst (C:Addr)
abbrev dI (v:AV) (k:Int→Prop):Prop:=match v with
 | .int i=>k i
 | _=>False
abbrev dB (v:AV) (k:Bool→Prop):Prop:=match v with
 | .bool i=>k i
 | _=>False
abbrev dL (v:AV) (k:Nat→Prop):Prop:=match v with
 | .lst i=>k i
 | _=>False
abbrev dO (C:Addr) (v:AV) (k:Nat→Prop):Prop:=match v with
 | .inst D i=>D=C∧k i
 | _=>False
abbrev dN (l:List AV) (k:Prop):Prop:=match l with
 | []=>k
 | _ :: _=>False
abbrev dC (l:List AV) (k:Int→List AV→Prop):Prop:=match l with
 | []=>False
 | a :: l=>dI a λ x=>k x l
abbrev dT (v:AV) (k:List AV→Prop):Prop:=match v with
 | .tup l=>k l
 | _=>False
abbrev d2 (v:AV) (k:Int→Int→Prop):Prop:=dT v λ l=>dC l λ x l=>dC l λ y l=>dN l (k x y)
abbrev d3 (v:AV) (k:Int→Int→Int→Prop):Prop:=dT v λ l=>dC l λ x l=>dC l λ y l=>dC l λ z l=>dN l (k x y z)
abbrev dH (l:List AV) (k:AV→List AV→Prop):Prop:=match l with
 | []=>False
 | a :: l=>k a l
abbrev dP (v:AV) (k:AV→Int→Prop):Prop:=dT v λ l=>dH l λ a l=>dC l λ y l=>dN l (k a y)
theorem HM {l:List AV} {k:AV→List AV→Prop} (h:dH l k):∃ a l',l=a :: l'∧k a l':=by
 cases l with
 | nil=>exact False.elim h
 | cons a l=>exact ⟨a,l,rfl,h⟩
theorem xr {l:List AV} {k:Prop} (h:dN l k):l=[]∧k:=by
 cases l with
 | nil=>exact ⟨rfl,h⟩
 | cons=>exact False.elim h
theorem mC {l:List AV} {k:Int→List AV→Prop} (h:dC l k):∃ x l',l=.int x :: l'∧k x l':=by
 cases l with
 | nil=>exact False.elim h
 | cons a l=>cases a with
  | int x=>exact ⟨x,l,rfl,h⟩
  | _=>exact False.elim h
theorem xu {v:AV} {k:List AV→Prop} (h:dT v k):∃ l,v=.tup l∧k l:=by
 cases v with
 | tup l=>exact ⟨l,rfl,h⟩
 | _=>exact False.elim h
def dK (t:Kd) (v:AV) (k:AV→Prop):Prop:=match t with
 | .any=>k v
 | .yes=>k v
 | .no=>k v
 | .CX=>v=.none∧k .none
 | .int=>dI v λ i=>k (.int i)
 | .bool=>dB v λ i=>k (.bool i)
 | .lst=>dL v λ i=>k (.lst i)
 | .inst C=>dO C v λ i=>k (.inst C i)
 | .tX=>d2 v λ x y=>k (.tup [.int x,.int y])
 | .lW=>d3 v λ x y z=>k (.tup [.int x,.int y,.int z])
 | .DP=>dP v λ a y=>k (.tup [a,.int y])
theorem sj {t:Kd} {v:AV} {k:AV→Prop} (h:dK t v k):k v:=by
 cases t with
 | any=>exact h
 | yes=>exact h
 | no=>exact h
 | CX=>obtain ⟨rfl,h⟩:=h; exact h
 | int=>cases v<;>first | exact h | exact h.elim
 | bool=>cases v<;>first | exact h | exact h.elim
 | lst=>cases v<;>first | exact h | exact h.elim
 | inst C =>
  cases v with
  | inst D n=>obtain ⟨rfl,h⟩:=h; exact h
  | _=>exact h.elim
 | tX =>
  obtain ⟨l,rfl,h⟩:=xu h
  obtain ⟨x,l,rfl,h⟩:=mC h
  obtain ⟨y,l,rfl,h⟩:=mC h
  obtain ⟨rfl,h⟩:=xr h
  exact h
 | lW =>
  obtain ⟨l,rfl,h⟩:=xu h
  obtain ⟨x,l,rfl,h⟩:=mC h
  obtain ⟨y,l,rfl,h⟩:=mC h
  obtain ⟨z,l,rfl,h⟩:=mC h
  obtain ⟨rfl,h⟩:=xr h
  exact h
 | DP =>
  obtain ⟨l,rfl,h⟩:=xu h
  obtain ⟨x,l,rfl,h⟩:=HM h
  obtain ⟨y,l,rfl,h⟩:=mC h
  obtain ⟨rfl,h⟩:=xr h
  exact h
def MZ (t:Option Kd) (Q:BC→List AO→Prop):AV→List AO→Prop:=λ v s=>match t with
 | some t=>(match t with
  | .yes=>v=.bool true∧Q (.lit true) s
  | .no=>v=.bool false∧Q (.lit false) s
  | _=>dB v λ c=>Q (.sym c) s)
 | none=>dB v λ c=>Q (.sym c) s
def M4 (t:Option Kd) (Q:BC→List AO→Prop):Bool→List AO→Prop:=λ c s=>match t with
 | some t=>(match t with
  | .yes=>c=true∧Q (.lit true) s
  | .no=>c=false∧Q (.lit false) s
  | _=>Q (.sym c) s)
 | none=>Q (.sym c) s
noncomputable abbrev LA:=List (Str×Option Kd)
structure Tab where
 attr:Str→Kd
 callee:Addr→Kd
 spot:Nat→Nat→Nat→Option Kd
 rel:Nat→Nat→Nat→Bool
 loop:Nat→Option (LA×Kd)
def zx (a b:AV) (k:Int→Int→Prop) (dflt:Prop):Prop:=match a with
 | .int x=>(match b with
  | .int y=>k x y
  | _=>dflt)
 | _=>dflt
theorem cY {a b:AV} {k:Int→Int→Prop} {dflt P:Prop} (h:zx a b k dflt) (h1:∀ x y,a=.int x→b=.int y→k x y→P) (h2:dflt→P):P:=by
 cases a with
 | int x=>cases b with
  | int y=>exact h1 x y rfl rfl h
  | _=>exact h2 h
 | _=>exact h2 h
def RK (a b:AV) (k:Nat→Nat→Prop) (dflt:Prop):Prop:=match a with
 | .lst x=>(match b with
  | .lst y=>k x y
  | _=>dflt)
 | _=>dflt
theorem JS {a b:AV} {k:Nat→Nat→Prop} {dflt P:Prop} (h:RK a b k dflt) (h1:∀ x y,a=.lst x→b=.lst y→k x y→P) (h2:dflt→P):P:=by
 cases a with
 | lst x=>cases b with
  | lst y=>exact h1 x y rfl rfl h
  | _=>exact h2 h
 | _=>exact h2 h
def RL (a b:AV) (k:Nat→Int→Prop) (dflt:Prop):Prop:=match a with
 | .lst x=>(match b with
  | .int y=>k x y
  | _=>dflt)
 | _=>dflt
theorem JT {a b:AV} {k:Nat→Int→Prop} {dflt P:Prop} (h:RL a b k dflt) (h1:∀ x y,a=.lst x→b=.int y→k x y→P) (h2:dflt→P):P:=by
 cases a with
 | lst x=>cases b with
  | int y=>exact h1 x y rfl rfl h
  | _=>exact h2 h
 | _=>exact h2 h
inductive aL (n:Nat) (name:Str) (σ:List AO) (k:AV→Prop):Prop
 | mk (fs:List (Str×AV)) (a:AV) (h:σ[n]? = some (.inst fs)) (e:fs.lookup name=some a) (r:dR a=true) (q:k a):aL n name σ k
inductive aC (n:Nat) (name:Str) (σ:List AO):Prop
 | mk (fs:List (Str×AV)) (h:σ[n]? = some (.inst fs)) (e:fs.lookup name=none):aC n name σ
inductive aD (n:Nat) (σ:List AO) (k:List AV→Prop):Prop
 | mk (xs:List AV) (h:σ[n]? = some (.lst xs)) (q:k xs):aD n σ k
inductive bf (n:Nat) (i:Int) (σ:List AO) (k:AV→Prop):Prop
 | mk (xs:List AV) (x:AV) (h:σ[n]? = some (.lst xs)) (h0:0≤i) (h1:i<1000000) (e:xs[i.toNat]? = some x) (q:k x):bf n i σ k
section
variable (W:Wl) (d:Nat) (env:Env) (T:Tab)
def M5 (op:Operator) (a b:AV) (σ:List AO) (Q:AV→List AO→Prop):Prop:=match op with
 | .Add=>zx a b (λ x y=>Q (.int (x+y)) σ) (RK a b (λ m n=>aD m σ λ xs=>aD n σ λ ys=>xs.length+ys.length≤1000000∧Q (.lst σ.length) (σ++[.lst (xs++ys)])) (aV W d .Add a b σ Q))
 | .Sub=>zx a b (λ x y=>Q (.int (x-y)) σ) (aV W d .Sub a b σ Q)
 | .Mult=>zx a b (λ x y=>(af x∨af y)∧Q (.int (x*y)) σ) (RL a b (λ m k=>aD m σ λ xs=>xs≠[]∧xs.length*k.toNat≤1000000∧k≤1000000∧-1000000≤k∧Q (.lst σ.length) (σ++[.lst (List.replicate k.toNat xs).flatten])) (aV W d .Mult a b σ Q))
 | .Mod=>zx a b (λ x y=>0<y∧∀ r,r=x%y→0≤r→r<y→Q (.int r) σ) (aV W d .Mod a b σ Q)
 | .FloorDiv=>zx a b (λ x y=>(0<y∧y<1073741824)∧Q (.int (x / y)) σ) (aV W d .FloorDiv a b σ Q)
 | .Pow=>zx a b (λ x y=>(0≤y∧y≤1000000∧af x)∧Q (.int (x^y.toNat)) σ) (aV W d .Pow a b σ Q)
 | op=>aV W d op a b σ Q
def M6 (op:Operator) (a b:AV) (σ:List AO) (Q:AV→List AO→Prop):Prop:=match op with
 | .Add=>zx a b (λ x y=>Q (.int (x+y)) σ) (lR W d .Add a b σ Q)
 | .Sub=>zx a b (λ x y=>Q (.int (x-y)) σ) (lR W d .Sub a b σ Q)
 | .Mult=>zx a b (λ x y=>(af x∨af y)∧Q (.int (x*y)) σ) (lR W d .Mult a b σ Q)
 | .FloorDiv=>zx a b (λ x y=>(0<y∧y<1073741824)∧Q (.int (x / y)) σ) (lR W d .FloorDiv a b σ Q)
 | op=>lR W d op a b σ Q
def Qd (is:Bool) (a b:AV) (k:BC→Prop) (dflt:Prop):Prop:=match b with
 | .none=>cJ (xW a) (λ c=>k (.lit c)) dflt
 | .bool y=>(match a with
  | .bool x=>k (.sym (x==y))
  | _=>dflt)
 | .cst v=>(match v with
  | .ref x=>(match a with
   | .inst _ _=>lz (is&&se W.K x) (k (.lit false))
   | .cst u=>(match u with
    | .ref y=>(bif is&&Nat.beq y x then k (.lit true) else dflt)
    | _=>dflt)
   | _=>dflt)
  | _=>dflt)
 | _=>dflt
def JU (op:CmpOp) (a b:AV) (σ:List AO) (Q:AV→List AO→Prop):Prop:=match op with
 | .Lt=>zx a b (λ x y=>Q (.bool (decide (x<y))) σ) (aA W d .Lt a b σ Q)
 | .Gt=>zx a b (λ x y=>Q (.bool (decide (y<x))) σ) (aA W d .Gt a b σ Q)
 | .LtE=>zx a b (λ x y=>Q (.bool (decide (x≤y))) σ) (aA W d .LtE a b σ Q)
 | .GtE=>zx a b (λ x y=>Q (.bool (decide (y≤x))) σ) (aA W d .GtE a b σ Q)
 | .Eq=>zx a b (λ x y=>Q (.bool (decide (x=y))) σ) (aA W d .Eq a b σ λ v s=>dB v λ c=>Q (.bool c) s)
 | .NotEq=>zx a b (λ x y=>Q (.bool (decide (x≠y))) σ) (aA W d .NotEq a b σ λ v s=>dB v λ c=>Q (.bool c) s)
 | .Is=>Qd W true a b (λ c=>Q c.av σ) (aA W d .Is a b σ λ v s=>dB v λ c=>Q (.bool c) s)
 | .IsNot=>Qd W false a b (λ c=>Q c.no.av σ) (aA W d .IsNot a b σ λ v s=>dB v λ c=>Q (.bool c) s)
 | op=>aA W d op a b σ λ v s=>dB v λ c=>Q (.bool c) s
def vS (a:AV) (σ:List AO) (Q:BC→List AO→Prop):Prop:=match a with
 | .bool b=>Q (.sym b) σ
 | .int i=>Q (.sym (decide (i≠0))) σ
 | .none=>Q (.lit false) σ
 | .lst n=>aD n σ λ xs=>xs.length≤1000000∧Q (.sym (!xs.isEmpty)) σ
 | .inst C n=>lz (xZ W.K C) (Q (.lit true) σ)
 | .cst v=>(match v with
  | .bool b=>Q (.lit b) σ
  | v=>bw W d (.cst v) σ λ c s=>Q (.sym c) s)
 | a=>bw W d a σ λ c s=>Q (.sym c) s
def RM (op:UnaryOp) (a:AV) (σ:List AO) (Q:AV→List AO→Prop):Prop:=match op with
 | .USub=>(match a with
  | .int x=>Q (.int (-x)) σ
  | a=>Fq W d .USub a σ Q)
 | .Not=>vS W d a σ λ c σ'=>Q c.no.av σ'
 | op=>Fq W d op a σ Q
def M7 (t:Kd) (a b:AV) (σ:List AO) (Q:AV→List AO→Prop):Prop:=match b with
 | .int k=>(match a with
  | .tup xs=>lz (decide (0≤k)&&decide (k<1000000)) (cJ xs[k.toNat]? (λ x=>Q x σ) False)
  | .lst n=>bf n k σ λ x=>dK t x λ x=>Q x σ
  | a=>g8 W d a (.int k) σ λ v s=>dK t v λ v=>Q v s)
 | b=>g8 W d a b σ λ v s=>dK t v λ v=>Q v s
noncomputable def JV (f:Expr→List AO→(AV→List AO→Prop)→Prop):List Expr→List AO→(List AV→List AO→Prop)→Prop
 | [],σ,Q=>Q [] σ
 | e :: es,σ,Q=>f e σ λ a aa=>JV f es aa λ as aj=>Q (a :: as) aj
noncomputable def JW (f:Expr→List AO→(AV→List AO→Prop)→Prop):List Expr→List AO→(AV→List AO→Prop)→Prop
 | [],σ,Q=>False
 | e :: es,σ,Q=>(match es with
  | []=>f e σ Q
  | _ :: _=>f e σ λ a aa=>vS W d a aa λ c aj=>wC c (JW f es aj Q) (Q a aj))
noncomputable def Qe (f:Expr→List AO→(AV→List AO→Prop)→Prop):List Expr→List AO→(AV→List AO→Prop)→Prop
 | [],σ,Q=>False
 | e :: es,σ,Q=>(match es with
  | []=>f e σ Q
  | _ :: _=>f e σ λ a aa=>vS W d a aa λ c aj=>wC c (Q a aj) (Qe f es aj Q))
noncomputable def DQ (f:Expr→List AO→(BC→List AO→Prop)→Prop):List Expr→List AO→(BC→List AO→Prop)→Prop
 | [],σ,Q=>Q (.lit true) σ
 | e :: es,σ,Q=>f e σ λ c aa=>wC c (DQ f es aa Q) (Q (.lit false) aa)
noncomputable def JX (f:Expr→List AO→(BC→List AO→Prop)→Prop):List Expr→List AO→(BC→List AO→Prop)→Prop
 | [],σ,Q=>Q (.lit false) σ
 | e :: es,σ,Q=>f e σ λ c aa=>wC c (Q (.lit true) aa) (JX f es aa Q)
noncomputable def pI (η:En):Expr→Option Int
 | .Name x _=>(match cF η x with
  | some v=>(match v with
   | .int i=>some i
   | _=>none)
  | none=>none)
 | .Constant c _ _=>(match c with
  | .int i=>some i
  | _=>none)
 | _=>none
noncomputable def pC (op:CmpOp) (x y:Int):Option Bool:=match op with
 | .Lt=>some (decide (x<y))
 | .Gt=>some (decide (y<x))
 | .LtE=>some (decide (x≤y))
 | .GtE=>some (decide (y≤x))
 | .Eq=>some (decide (x=y))
 | .NotEq=>some (decide (x≠y))
 | _=>none
noncomputable def o2 {α β γ:Type} (a:Option α) (b:Option β) (k:α→β→Option γ):Option γ:=match a with
 | some x=>(match b with
  | some y=>k x y
  | none=>none)
 | none=>none
noncomputable def DR (f:Expr→Option Bool) (and:Bool):List Expr→Option Bool
 | []=>none
 | e :: r=>(match r with
  | []=>f e
  | _ :: _=>o2 (f e) (DR f and r) λ x y=>some (bif and then x&&y else x||y))
noncomputable def pB (η:En):Nat→Expr→Option Bool
 | 0,_=>none
 | n+1,e=>match e with
  | .Name x _=>(match cF η x with
   | some v=>(match v with
    | .int i=>some (decide (i≠0))
    | .bool b=>some b
    | _=>none)
   | none=>none)
  | .UnaryOp op x _=>(match op with
   | .Not=>(match pB η n x with
    | some b=>some (!b)
    | none=>none)
   | _=>none)
  | .Compare l ops rs _=>(match ops with
   | []=>none
   | op :: ops=>(match ops with
    | []=>(match rs with
     | []=>none
     | r :: rs=>(match rs with
      | []=>(bif behindInMarks op r then none else o2 (pI η l) (pI η r) (pC op))
      | _ :: _=>none))
    | _ :: _=>none))
  | .BoolOp op es _=>(match op with
   | .And=>DR (pB η n) true es
   | .Or=>DR (pB η n) false es)
  | _=>none
noncomputable def tg (e:Expr) (i:Nat):Bool:=Nat.beq e.ctorIdx i
noncomputable def sV (e:Expr):Bool:=tg e 23||(tg e 20||(tg e 21||(if h:e.ctorIdx=16 then Expr.Call.elim (motive_1:=λ _=>Bool) e h λ f as _ _=>tg f 20||(tg f 23&&!as.isEmpty) else false)))
noncomputable def zy (e:Expr):Bool:=tg e 23||(tg e 20||(tg e 16||(tg e 21||(tg e 2||(tg e 19||tg e 3)))))
noncomputable def HN (W:Wl):AV→Bool
 | .cst v=>(match v with
  | .ref a=>keepIn W.K (.ref a)
  | .builtin _=>true
  | .type _=>true
  | _=>false)
 | .g7 f _=>fnIn W.K f
 | _=>false
def JY (c:Const) (σ:List AO) (Q:AV→List AO→Prop) (dflt:Prop):Prop:=match c with
 | .int i=>Q (.int i) σ
 | .bool b=>Q (.bool b) σ
 | .none=>Q .none σ
 | _=>dflt
noncomputable def fnOf (K:Frag) (C:Addr) (name:Str):Option Addr:=(F6 (findIn K (.ref C) name)).bind λ f=>if isFn K (.ref f) then some f else none
noncomputable def M8 (K:Frag) (C:Addr) (name:Str):Option Addr:=(F6 (findIn K (.ref C) name)).bind λ p=>(recIn K p "staticmethod").bind λ l=>l.head?.bind λ v=>(wH v).bind λ f=>if (plainGet K C name&&hasDictIn K C&&keepIn K (.ref f)&&handedIn (.ref f)&&!copiedNames.contains name&&(takesIn K (.ref p)==some false)&&(specialIn K (.ref p) "__get__" == some (some (.builtin "staticmethod.__get__")))
 && (typeIn K (.ref p)).any λ t=>t != .type "function" && t != .type "method_descriptor" && t != .type "wrapper_descriptor") then some f else none
noncomputable def JZ (K:Frag) (C f:Addr) (name:Str):Bool:=plainGet K C name&&hasDictIn K C&&isFn K (.ref f)&&!copiedNames.contains name&&(takesIn K (.ref f)==some false)&&(specialIn K (.ref f) "__get__" == some (some (.builtin "function.__get__")))
def HO (a:AV) (name:Str) (σ:List AO) (Q:AV→List AO→Prop):Prop:=match a with
 | .inst C m=>cJ (fnOf W.K C name) (λ f=>lz (JZ W.K C f name) (aC m name σ∧Q (.g7 f (.inst C m)) σ))
  (lz (xV W C name) (aL m name σ λ v=>dK (T.attr name) v λ v=>Q v σ))
 | .cst v=>(match v with
  | .ref x=>cJ (Be W.K x name) (λ v=>Q (vQ v) σ) (gQ W d (.cst (.ref x)) name σ Q)
  | v=>gQ W d (.cst v) name σ Q)
 | a=>gQ W d a name σ Q
def HP (a:AV) (name:Str) (σ:List AO) (k:AV→List AV→List AO→Prop):Prop:=match a with
 | .inst C m=>aC m name σ∧cJ (fnOf W.K C name) (λ f=>lz (plainGet W.K C name&&keepIn W.K (.ref f)) (k (.cst (.ref f)) [.inst C m] σ))
  (cJ (M8 W.K C name) (λ f=>k (.cst (.ref f)) [] σ) (cI W d (.inst C m) name σ k))
 | .lst m=>lz (name==("append" : Str)) (aD m σ λ _=>k (.cst (.builtin "list.append")) [.lst m] σ)
 | .dct m=>lz (name==("get" : Str)) ((∃ es,σ[m]? = some (.dct es))∧k (.cst (.builtin "dict.get")) [.dct m] σ)
 | .cst v=>(match v with
  | .ref x=>cJ (DB W.K x name) (λ f=>k (.cst (.ref f)) [.cst (.ref x)] σ) (cJ (JO W.K x name) (λ f=>k (.cst (.ref f)) [] σ) (cI W d (.cst (.ref x)) name σ k))
  | v=>cI W d (.cst v) name σ k)
 | a=>cI W d a name σ k
def M9 (t:Kd) (nm:String) (as:List AV) (σ:List AO) (Q:AV→List AO→Prop) (dflt:Prop):Prop:=match as with
 | []=>dflt
 | a :: r=>(match a with
  | .lst n=>(match r with
   | []=>(bif nm == "len" then aD n σ λ xs=>xs.length≤1000000∧Q (.int xs.length) σ else (bif nm == "all" then (∃ bs:List Bool,σ[n]? = some (.lst (bs.map .bool))∧Q (.bool (allB bs)) σ) else dflt))
   | [b]=>(bif nm == "list.append" then aD n σ λ xs=>xs.length≤1000000∧Q .none (σ.set n (.lst (xs++[b]))) else dflt)
   | _=>dflt)
  | .int i=>(match r with
   | []=>(bif nm == "abs" then Q (.int (if i<0 then -i else i)) σ else dflt)
   | [b]=>(match b with
    | .int j=>(bif nm == "max" then Q (.int (if j > i then j else i)) σ else dflt)
    | _=>dflt)
   | _=>dflt)
  | .inst C n=>(match r with
   | [b]=>(match b with
    | .cst v=>(match v with
     | .ref D=>(bif nm == "isinstance" then (bif isIn W.K (.ref C) D then Q (.cst (.bool true)) σ else lz (F5 W.K C D) (aC n "" σ∧Q (.cst (.bool false)) σ)) else dflt)
     | _=>dflt)
    | _=>dflt)
   | _=>dflt)
  | .dct n=>(match r with
   | b :: r=>(match b with
    | .int i=>(match r with
     | [x]=>(bif nm == "dict.get" then lz (W.K.lookup sysModules).isSome (∃ es,σ[n]? = some (.dct es)∧dK t ((es.lookup i).getD x) λ v=>Q v σ) else dflt)
     | _=>dflt)
    | _=>dflt)
   | _=>dflt)
  | .cst u=>(match u with
   | .ref x=>(match r with
    | [b]=>(match b with
     | .cst v=>(match v with
      | .ref D=>(bif nm == "isinstance" then cJ (typeIn W.K (.ref x)) (λ t=>bif isIn W.K t D then Q (.cst (.bool true)) σ else dflt) dflt else dflt)
      | _=>dflt)
     | _=>dflt)
    | _=>dflt)
   | _=>dflt)
  | _=>dflt)
def Na (nm:String) (as:List AV) (σ:List AO) (Q:AV→List AO→Prop) (dflt:Prop):Prop:=match as with
 | []=>dflt
 | a :: r=>(match a with
  | .int i=>(match r with
   | []=>(bif nm == "int" then Q (.int i) σ else bif nm == "range" then Q (.gO 0 i 1) σ else dflt)
   | b :: r=>(match b with
    | .int j=>(match r with
     | []=>(bif nm == "range" then Q (.gO i j 1) σ else dflt)
     | c :: r=>(match c with
      | .int k=>(match r with
       | []=>(bif nm == "range" then k≠0∧Builtin.divisionGoesByPylong (j-i) k=false∧Q (.gO i j k) σ else dflt)
       | _=>dflt)
      | _=>dflt))
    | _=>dflt))
  | .bool b=>(match r with
   | []=>(bif nm == "int" then Q (.int (if b then 1 else 0)) σ else dflt)
   | _=>dflt)
  | _=>dflt)
def DS (t:Option Kd) (f:AV) (as:List AV) (σ:List AO) (Q:AV→List AO→Prop):Prop:=match f with
 | .cst v=>(match v with
  | .ref a=>ai W d (.cst (.ref a)) as σ λ v s=>dK (t.getD (T.callee a)) v λ v=>Q v s
  | .builtin nm=>M9 W (t.getD .any) nm as σ Q (aq W d (.cst (.builtin nm)) as σ λ v s=>dK (t.getD .any) v λ v=>Q v s)
  | .type nm=>Na nm as σ Q (aq W d (.cst (.type nm)) as σ λ v s=>dK (t.getD .any) v λ v=>Q v s)
  | v=>aq W d (.cst v) as σ Q)
 | .g7 f a=>ai W d (.cst (.ref f)) (a :: as) σ λ v s=>dK (t.getD (T.callee f)) v λ v=>Q v s
 | f=>aq W d f as σ Q
def TU (rc:Expr→List AO→(BC→List AO→Prop)→Prop) (xE:Expr→List AO→(AV→List AO→Prop)→Prop) (e:Expr) (σ:List AO) (Q:BC→List AO→Prop):Prop:=match e with
 | .BoolOp op es _=>(match op with
  | .And=>DQ (rc) es σ Q
  | .Or=>JX (rc) es σ Q)
 | .UnaryOp op x p=>(match op with
  | .Not=>rc x σ λ c σ'=>Q c.no σ'
  | op=>False)
 | .Compare l ops rs p=>(match ops,rs with
  | [op],[r]=>lz (!behindInMarks op r) (xE l σ λ a aa=>xE r aa λ b aj=>(bif T.rel p.line p.col p.endCol then (aA W d op a b aj (MZ (T.spot p.line p.col p.endCol) Q)) else JU W d op a b aj λ c aE=>vS W d c aE Q))
  | _,_=>False)
 | .Name x p=>xE (.Name x p) σ λ a aa=>(bif T.rel p.line p.col p.endCol then (bw W d a aa λ c s=>Q (.sym c) s) else vS W d a aa Q)
 | .Call f as ks p=>xE (.Call f as ks p) σ λ a aa=>(bif T.rel p.line p.col p.endCol then (bw W d a aa λ c s=>Q (.sym c) s) else vS W d a aa Q)
 | .Attribute x k p=>xE (.Attribute x k p) σ λ a aa=>(bif T.rel p.line p.col p.endCol then (bw W d a aa (M4 (T.spot p.line p.col p.endCol) Q)) else vS W d a aa Q)
 | .Subscript x k p=>xE (.Subscript x k p) σ λ a aa=>(bif T.rel p.line p.col p.endCol then (bw W d a aa λ c s=>Q (.sym c) s) else vS W d a aa Q)
 | .BinOp x o y p=>xE (.BinOp x o y p) σ λ a aa=>vS W d a aa Q
 | e=>False
noncomputable def xT (η:En) (xE:Expr→List AO→(AV→List AO→Prop)→Prop):Nat→Expr→List AO→(BC→List AO→Prop)→Prop
 | 0,e,σ,Q=>False
 | n+1,e,σ,Q=>cJ (bif T.rel e.pos.line e.pos.col e.pos.endCol then none else pB η 20 e) (λ c=>Q (.sym c) σ) (TU W d T (λ e σ Q=>xT η xE n e σ Q) xE e σ Q)
noncomputable def Ty:Kd→Type
 | .any=>AV
 | .yes=>AV
 | .no=>AV
 | .CX=>AV
 | .int=>Int
 | .bool=>Bool
 | .lst=>Nat
 | .inst _=>Nat
 | .tX=>Int×Int
 | .lW=>Int×Int×Int
 | .DP=>AV×Int
noncomputable def yc:(k:Kd)→Ty k→AV
 | .any,a=>a
 | .yes,a=>a
 | .no,a=>a
 | .CX,a=>a
 | .int,a=>.int a
 | .bool,a=>.bool a
 | .lst,a=>.lst a
 | .inst C,a=>.inst C a
 | .tX,a=>.tup [.int a.1,.int a.2]
 | .lW,a=>.tup [.int a.1,.int a.2.1,.int a.2.2]
 | .DP,a=>.tup [a.1,.int a.2]
noncomputable def HQ (f:Expr) (as:List Expr) (ks:List Keyword):Option (Expr×List Expr):=if ks.isEmpty then some (f,as) else none
noncomputable def Ak (e:Expr):Option (Expr×List Expr):=if h:e.ctorIdx=16 then Expr.Call.elim (motive_1:=λ _=>Option (Expr×List Expr)) e h (λ f as ks _=>HQ f as ks) else none
noncomputable def Al (e:Expr):Option Str:=if h:e.ctorIdx=23 then Expr.Name.elim (motive_1:=λ _=>Option Str) e h (λ x _=>some x) else none
noncomputable def DT (e:Expr):Option (List Expr):=if h:e.ctorIdx=25 then Expr.Tuple.elim (motive_1:=λ _=>Option (List Expr)) e h (λ es _ _=>some es) else none
noncomputable def one?:List Expr→Option Expr
 | []=>none
 | e :: r=>(match r with
  | []=>some e
  | _ :: _=>none)
noncomputable def Nb:List Expr→Option (Expr×Expr)
 | []=>none
 | e :: r=>(match one? r with
  | some e2=>some (e,e2)
  | none=>none)
noncomputable def Bh (nm:String):Option AV→Bool
 | some (.cst (.type n))=>n==nm
 | _=>false
noncomputable def J0 (v:AV):Option (List AV):=if h:v.ctorIdx=3 then AV.tup.elim (motive_1:=λ _=>Option (List AV)) v h some else none
noncomputable def Nc (v:AV):Option Addr:=if h:v.ctorIdx=9 then AV.cst.elim (motive_1:=λ _=>Option Addr) v h wH else none
noncomputable def RN (lo up st:Option Expr):Option Expr:=if lo.isNone&&st.isNone then up else none
noncomputable def HR (e:Expr):Option Expr:=if h:e.ctorIdx=26 then Expr.Slice.elim (motive_1:=λ _=>Option Expr) e h (λ lo up st _=>RN lo up st) else none
noncomputable def J1 (c:Const):Option Int:=if h:c.ctorIdx=2 then Const.int.elim (motive:=λ _=>Option Int) c h some else none
noncomputable def Nd (e:Expr):Option Int:=if h:e.ctorIdx=19 then Expr.Constant.elim (motive_1:=λ _=>Option Int) e h (λ c _ _=>J1 c) else none
noncomputable def Nf:List Comprehension→Option (Str×Comprehension)
 | []=>none
 | g :: more=>(match more with
  | []=>(Al g.target).bind λ x=>some (x,g)
  | _ :: _=>none)
noncomputable def DU (e:Expr):Bool:=!(Nat.beq e.ctorIdx 7)
def Qf (t:Kd) (body:Nat→AV→List AO→(List AO→Prop)→Prop) (a:AV) (σ:List AO) (k:Nat→List AO→Prop):Prop:=match a with
 | .lst m=>∃ ys:List (Ty t),σ[m]? = some (.lst (ys.map (yc t)))∧∃ I:Nat→List AO→Prop,I 0 (σ++[.lst []])∧∀ i aj,I i aj→aj[m]? = some (.lst (ys.map (yc t))) ∧
  (∀ y,ys[i]? = some y→body σ.length (yc t y) aj λ aE=>I (i+1) aE)∧(i=ys.length→k σ.length aj)
 | .gO a b c=>lz (decide (0<c)) (Builtin.Range.small a b c=true∧∃ I:Int→List AO→Prop,I a (σ++[.lst []])∧∀ i aj,I i aj →
  (i<b→body σ.length (.int i) aj λ aE=>I (i+c) aE)∧(b≤i→k σ.length aj))
 | _=>False
def Ng (f:Expr→List AO→(BC→List AO→Prop)→Prop) (ifs:List Expr) (σ:List AO) (k:BC→List AO→Prop):Prop:=match ifs with
 | []=>k (.lit true) σ
 | c :: r=>(match r with
  | []=>f c σ k
  | _ :: _=>False)
noncomputable def DV (names:List (Str×NameKind)) (x:Str):Bool:=match names.lookup x with
 | some k=>k==.local
 | none=>false
def Nh (f:Expr→En→List AO→(AV→List AO→Prop)→Prop) (ft:En→Expr→List AO→(BC→List AO→Prop)→Prop) (t:Kd) (elt:Expr) (gens:List Comprehension) (scope:Scope) (η:En) (σ:List AO) (Q:AV→List AO→Prop):Prop:=cJ (Nf gens) (λ p=>lz (decide (p.2.is_async=0)&&cG scope η&&DV scope.names p.1&&DU p.2.iter) (f p.2.iter η σ λ a aa=>Qf t (λ j v aj next=>cJ (p9 (dU W scope.names η) p.1 v) (λ η₂=>Ng (ft η₂) p.2.ifs aj λ c aE =>
 wC c (f elt η₂ aE λ v cH=>aD j cH λ xs=>xs.length≤1000000∧next (cH.set j (.lst (xs++[v])))) (next aE)) False) a aa λ j aj=>Q (.lst j) aj)) False
def Ni (W:Wl) (l:Addr) (n:Int) (k:List AV→Prop):Prop:=∃ (vs:List Value) (ns:List Int),W.hb.IsList l vs.toArray∧IntsAre vs ns∧ns.length≤1000∧k ((ns.take n.toNat).map .int)
noncomputable def Nj:Expr→Bool
 | .Slice ..=>true
 | _=>false
def Nk (W:Wl) (η:En) (v:Expr) (i:Expr) (σ:List AO) (Q:AV→List AO→Prop):Prop:=cJ (Al v) (λ x=>cJ ((HR i).bind Nd) (λ k=>cJ ((cF η x).bind Nc) (λ l=>lz (decide (0≤k)) (Ni W l k λ xs=>Q (.lst σ.length) (σ++[.lst xs]))) False) False) False
noncomputable def DW (η:En) (it:Expr):Option Expr:=(Ak it).bind λ p=>(Al p.1).bind λ x=>(one? p.2).bind λ e=>if Bh "reversed" (cF η x)&&aB e then some e else none
noncomputable def xw (η:En) (g:Expr) (as:List Expr):Option Expr:=(Al g).bind λ x=>(one? as).bind λ e=>(DW η e).bind λ e'=>if Bh "list" (cF η x) then some e' else none
def RO (AN:Expr→List AO→(AV→List AO→Prop)→Prop) (η:En) (g:Expr) (args:List Expr) (p:Pos) (σ:List AO) (Q:AV→List AO→Prop):Prop:=match g with
 | .Name x _=>cJ (cF η x) (λ f=>lz (HN W f&&args.all aB) (JV AN args σ λ as aa=>DS W d T (T.spot p.line p.col p.endCol) f as aa Q)) False
 | .Attribute o name apos=>lz (sV o&&(apos.endLine==p.line)&&Nat.blt args.length 25&&args.all aB) (AN o σ λ a aa=>(bif T.rel apos.line apos.col apos.endCol then (cI W d a name aa λ f first aj=>JV AN args aj λ as aE=>aq W d f (first++as) aE Q) else HP W d a name aa λ f first aj=>JV AN args aj λ as aE=>DS W d T (T.spot p.line p.col p.endCol) f (first++as) aE Q))
 | g=>False
noncomputable def xE:Nat→Expr→En→List AO→(AV→List AO→Prop)→Prop
 | 0,e,η,σ,Q=>False
 | n+1,e,η,σ,Q=>match e with
  | .Constant c k p=>JY c σ Q False
  | .Name x _=>cJ (cF η x) (λ v=>Q v σ) False
  | .BinOp l op r p=>xE n l η σ λ a aa=>xE n r η aa λ b aj=>(bif T.rel p.line p.col p.endCol then (aV W d op a b aj λ v s=>dK ((T.spot p.line p.col p.endCol).getD .any) v λ v=>Q v s) else M5 W d op a b aj Q)
  | .UnaryOp op x _=>xE n x η σ λ a aa=>RM W d op a aa Q
  | .Compare l ops rs p=>(match ops,rs with
   | [op],[r]=>lz (!behindInMarks op r) (xE n l η σ λ a aa=>xE n r η aa λ b aj=>(bif T.rel p.line p.col p.endCol then (aA W d op a b aj λ v s=>dB v λ c=>Q (.bool c) s) else JU W d op a b aj Q))
   | _,_=>False)
  | .BoolOp op es _=>(match op with
   | .And=>JW W d (λ e σ Q=>xE n e η σ Q) es σ Q
   | .Or=>Qe W d (λ e σ Q=>xE n e η σ Q) es σ Q)
  | .IfExp t b o _=>xT W d T η (λ e σ Q=>xE n e η σ Q) n t σ λ c aa=>wC c (xE n b η aa Q) (xE n o η aa Q)
  | .Tuple es _ _=>lz (es.all aB&&Nat.ble es.length 1000) (JV (λ e σ Q=>xE n e η σ Q) es σ λ as aa=>lz (Nat.ble as.length 1000) (Q (.tup as) aa))
  | .List es _=>lz (es.all aB) (JV (λ e σ Q=>xE n e η σ Q) es σ λ as aa=>lz (Nat.ble as.length 1000) (Q (.lst aa.length) (aa++[.lst as])))
  | .Attribute o name _=>lz (sV o) (xE n o η σ λ a aa=>HO W d T a name aa Q)
  | .Subscript v i p=>(bif Nj i then Nk W η v i σ Q else lz (zy i) (xE n v η σ λ a aa=>xE n i η aa λ b aj=>(bif T.rel p.line p.col p.endCol then (g8 W d a b aj λ v s=>dK ((T.spot p.line p.col p.endCol).getD .any) v λ v=>Q v s) else M7 W d ((T.spot p.line p.col p.endCol).getD .any) a b aj Q)))
  | .Call g args ks p=>(match ks with
   | []=>cJ (xw η g args) (λ e=>xE n e η σ λ a aa=>dL a λ m=>aD m aa λ xs=>xs.length≤1000000∧Q (.lst aa.length) (aa++[.lst xs.reverse])) (RO W d T (λ e σ Q=>xE n e η σ Q) η g args p σ Q)
   | ks=>False)
  | .ListComp elt gens scope p=>Nh W (λ e η σ Q=>xE n e η σ Q) (λ η e σ Q=>xT W d T η (λ e σ Q=>xE n e η σ Q) n e σ Q) ((T.spot p.line p.col p.endCol).getD .any) elt gens scope η σ Q
  | .Dict ks vs p=>(match ks,vs with
   | [],[]=>Q (.dct σ.length) (σ++[.dct []])
   | ks,vs=>False)
  | e=>False
end
section
variable {W:Wl} {d:Nat} {env:Env} {T:Tab} {η:En} {σ:List AO}
theorem ee.mono {pos:Pos} {es:List Expr} {Q Q':List AV→List AO→Prop} (h:ee W d env pos es η σ Q) (q:∀ v σ',Q v σ'→Q' v σ'):ee W d env pos es η σ Q':=λ A s ρ hr R F =>
 ic (h A s ρ hr R F) λ _ _ p=>p.mono λ _ _ _ ⟨av,x,y⟩=>⟨av,x,q _ _ y⟩
theorem bw.mono {a:AV} {Q Q':Bool→List AO→Prop} (h:bw W d a σ Q) (q:∀ c σ',Q c σ'→Q' c σ'):bw W d a σ Q':=λ A s ρ v hr R hv =>
 ic (h A s ρ v hr R hv) λ _ _ p=>p.mono λ _ _ _ z=>q _ _ z
theorem cI.mono {a:AV} {name:Str} {Q Q':AV→List AV→List AO→Prop} (h:cI W d a name σ Q) (q:∀ f as σ',Q f as σ'→Q' f as σ'):cI W d a name σ Q':=λ A s ρ v pl hr R hv =>
 ic (h A s ρ v pl hr R hv) λ _ _ p=>p.mono λ _ _ _ ⟨f,fs,z1,z2,z3,z4⟩=>⟨f,fs,z1,z2,z3,q _ _ _ z4⟩
theorem aq.mono {f:AV} {as:List AV} {Q Q':AV→List AO→Prop} (h:aq W d f as σ Q) (q:∀ c σ',Q c σ'→Q' c σ'):aq W d f as σ Q':=λ A s ρ v vs hr R hf hv =>
 ic (h A s ρ v vs hr R hf hv) λ _ _ p=>p.mono λ _ _ _ ⟨av,z,z'⟩=>⟨av,z,q _ _ z'⟩
theorem g8.mono {a b:AV} {Q Q':AV→List AO→Prop} (h:g8 W d a b σ Q) (q:∀ c σ',Q c σ'→Q' c σ'):g8 W d a b σ Q':=λ A s ρ o i v sl hr R hv hi hs =>
 ic (h A s ρ o i v sl hr R hv hi hs) λ _ _ p=>p.mono λ _ _ _ ⟨av,z,z'⟩=>⟨av,z,q _ _ z'⟩
theorem Ge {op:Operator} {a b:AV} {Q:AV→List AO→Prop} (h:M5 W d op a b σ Q):aV W d op a b σ Q:=by
 cases op with
 | Add=>exact cY h (λ x y e1 e2 z=>by subst e1 e2; exact aV.add z) λ h=>JS h (λ m n e1 e2 ⟨xs,h1,ys,h2,h3,q⟩=>by subst e1 e2; exact aV.F3 h1 h2 h3 q) id
 | Sub=>exact cY h (λ x y e1 e2 z=>by subst e1 e2; exact aV.sub z) id
 | Mult=>exact cY h (λ x y e1 e2 z=>by subst e1 e2; exact aV.mul (z.1.imp af.ok af.ok) z.2) λ h=>JT h (λ m k e1 e2 ⟨xs,h1,h2,h3,h4,h5,q⟩=>by subst e1 e2; exact aV.Gb h1 h2 h3 h4 h5 q) id
 | Mod=>exact cY h (λ x y e1 e2 z=>by subst e1 e2; exact aV.mod z.1 (z.2 _ rfl (Int.emod_nonneg _ (Int.ne_of_gt z.1)) (Int.emod_lt_of_pos _ z.1))) id
 | FloorDiv=>exact cY h (λ x y e1 e2 z=>by subst e1 e2; exact aV.div z.1.1 (by have:=z.1.2; omega) z.2) id
 | Pow=>exact cY h (λ x y e1 e2 z=>by subst e1 e2; exact aV.pow z.1.1 z.1.2.1 z.1.2.2.ok z.2) id
 | _=>exact h
theorem Gf {op:Operator} {a b:AV} {Q:AV→List AO→Prop} (h:M6 W d op a b σ Q):lR W d op a b σ Q:=by
 cases op with
 | Add=>exact cY h (λ x y e1 e2 z=>by subst e1 e2; exact lR.add z) id
 | Sub=>exact cY h (λ x y e1 e2 z=>by subst e1 e2; exact lR.sub z) id
 | Mult=>exact cY h (λ x y e1 e2 z=>by subst e1 e2; exact lR.mul (z.1.imp af.ok af.ok) z.2) id
 | FloorDiv=>exact cY h (λ x y e1 e2 z=>by subst e1 e2; exact lR.div z.1.1 (by have:=z.1.2; omega) z.2) id
 | _=>exact h
theorem DX {is:Bool} {a b:AV} {k:BC→Prop} {dflt P:Prop} (h:Qd W is a b k dflt) (h1:∀ c,b=.none→xW a=some c→k (.lit c)→P) (h2:∀ x y,a=.bool x→b=.bool y→k (.sym (x==y))→P)
 (h4:∀ C n x,a=.inst C n→b=.cst (.ref x)→(is&&se W.K x)=true→k (.lit false)→P) (h5:∀ x,is=true→a=.cst (.ref x)→b=.cst (.ref x)→k (.lit true)→P) (h3:dflt→P):P:=by
 cases b with
 | none=>exact aM h (λ c e z=>h1 c rfl e z) (λ _=>h3)
 | bool y=>cases a with
  | bool x=>exact h2 x y rfl rfl h
  | _=>exact h3 h
 | cst v=>cases v with
  | ref x=>cases a with
   | inst C n=>exact h4 C n x rfl rfl (aF h).1 (aF h).2
   | cst u=>cases u with
    | ref y =>
     have h':(bif is&&Nat.beq y x then k (.lit true) else dflt):=h
     clear h
     cases e:(is&&Nat.beq y x) with
     | true =>
      rw [e] at h'
      rw [Bool.and_eq_true] at e
      have e2:=Nat.eq_of_beq_eq_true e.2
      subst e2
      exact h5 y e.1 rfl rfl h'
     | false=>rw [e] at h'; exact h3 h'
    | _=>exact h3 h
   | _=>exact h3 h
  | _=>exact h3 h
 | _=>exact h3 h
theorem wJ.lit {as:List AV} {t:List Value→Sem Value} {b:Bool} {Q:AV→List AO→Prop} (h:∀ {Q:AV→List AO→Prop},Q (.bool b) σ→wJ W d as t σ Q) (q:Q (.cst (.bool b)) σ):wJ W d as t σ Q:=λ A s ρ vs hr R hv =>
 ic (h (Q:=λ v σ'=>v=.bool b∧σ'=σ) ⟨rfl,rfl⟩ A s ρ vs hr R hv) λ _ _ p=>p.mono λ _ _ _ ⟨av,x,y⟩=>by
  obtain ⟨rfl,rfl⟩:=y
  refine VR.lO x ?_
  exact ⟨_,.cst _,q⟩
theorem aq.lit {f:AV} {as:List AV} {b:Bool} {Q:AV→List AO→Prop} (h:∀ {Q:AV→List AO→Prop},Q (.bool b) σ→aq W d f as σ Q) (q:Q (.cst (.bool b)) σ):aq W d f as σ Q:=λ A s ρ v vs hr R hf hv =>
 ic (h (Q:=λ v σ'=>v=.bool b∧σ'=σ) ⟨rfl,rfl⟩ A s ρ v vs hr R hf hv) λ _ _ p=>p.mono λ _ _ _ ⟨av,x,y⟩=>by
  obtain ⟨rfl,rfl⟩:=y
  refine VR.lO x ?_
  exact ⟨_,.cst _,q⟩
theorem qn {op:CmpOp} {a b:AV} {Q:AV→List AO→Prop} (h:aA W d op a b σ λ v s=>dB v λ c=>Q (.bool c) s):aA W d op a b σ Q:=wJ.mono h λ v s q=>sj (t:=.bool) (k:=λ v=>Q v s) q
theorem Bj (O:W.Ok) {op:CmpOp} {a b:AV} {Q:AV→List AO→Prop} (h:JU W d op a b σ Q):aA W d op a b σ Q:=by
 cases op with
 | Lt=>exact cY h (λ x y e1 e2 z=>by subst e1 e2; exact aA.lt z) id
 | Gt=>exact cY h (λ x y e1 e2 z=>by subst e1 e2; exact aA.gt z) id
 | LtE=>exact cY h (λ x y e1 e2 z=>by subst e1 e2; exact aA.le z) id
 | GtE=>exact cY h (λ x y e1 e2 z=>by subst e1 e2; exact aA.ge z) id
 | Eq=>exact cY h (λ x y e1 e2 z=>by subst e1 e2; exact aA.eq z) qn
 | NotEq=>exact cY h (λ x y e1 e2 z=>by subst e1 e2; exact aA.ne z) qn
 | Is=>exact DX (k:=λ c=>Q c.av σ) (is:=true) (a:=a) (b:=b) h (λ c e1 e2 z=>by subst e1; exact wJ.lit (aA.isNone (eF e2)) z) (λ x y e1 e2 z=>by subst e1 e2; exact aA.isBool z) (λ C n x e1 e2 hk z=>by subst e1 e2; exact wJ.lit (aA.ME O hk) z) (λ x _ e1 e2 z=>by subst e1 e2; exact wJ.lit aA.JE z) qn
 | IsNot=>exact DX (k:=λ c=>Q c.no.av σ) (is:=false) (a:=a) (b:=b) h (λ c e1 e2 z=>by subst e1; exact wJ.lit (aA.sS (eF e2)) z) (λ x y e1 e2 z=>by subst e1 e2; exact aA.BY (by cases x<;>cases y<;>exact z)) (λ C n x e1 e2 hk z=>by exact cS hk) (λ x e _ _ _=>by exact cS e) qn
 | _=>exact qn h
theorem lX (O:W.Ok) {a:AV} {Q:BC→List AO→Prop} (h:vS W d a σ Q):bw W d a σ λ c σ'=>∃ bc,bc.val=c∧Q bc σ':=by
 cases a with
 | bool b=>exact bw.bool ⟨_,rfl,h⟩
 | int i=>exact bw.int ⟨_,rfl,h⟩
 | none=>exact bw.none ⟨_,rfl,h⟩
 | lst n=>obtain ⟨xs,e,hz,q⟩:=h; exact bw.lst e hz ⟨_,rfl,q⟩
 | inst C n=>exact bw.ref O rfl c8.inst (aF h).1 ⟨_,rfl,(aF h).2⟩
 | cst v=>cases v with
  | bool b=>exact λ A s ρ v hr R hv=>by refine VR.bh hv ?_; exact wpAny_truthy_bool (Post.here R ⟨_,rfl,h⟩ s.toks)
  | _=>exact bw.mono h λ c s q=>⟨_,rfl,q⟩
 | _=>exact bw.mono h λ c s q=>⟨_,rfl,q⟩
theorem Fq.Qg {a:AV} {Q:AV→List AO→Prop} (h:bw W d a σ λ c σ'=>∃ bc,BC.val bc=c∧Q bc.no.av σ'):Fq W d .Not a σ Q:=by
 intro A s ρ vs hr R hv
 exact hv.ao λ _ _ h1 h2=>by
  refine bA.aU h2 ?_
  refine not_of (ic (h A s ρ _ hr R h1) λ c s' p=>p.mono λ _ _ _ z=>?_)
  obtain ⟨bc,e,q⟩:=z
  refine ⟨_,?_,q⟩
  subst e
  cases bc with
  | lit b=>exact .cst _
  | sym b=>exact .bool _
theorem J2 (O:W.Ok) {op:UnaryOp} {a:AV} {Q:AV→List AO→Prop} (h:RM W d op a σ Q):Fq W d op a σ Q:=by
 cases op with
 | USub=>cases a with
  | int x=>exact Fq.neg h
  | _=>exact h
 | Not=>exact Fq.Qg (lX O h)
 | _=>exact h
theorem Gg {t:Kd} {a b:AV} {Q:AV→List AO→Prop} (h:M7 W d t a b σ Q):g8 W d a b σ Q:=by
 cases b with
 | int k=>cases a with
  | tup xs =>
   have c:=aF h
   have c1:=Bool.and_eq_true_iff.mp c.1
   exact aM c.2 (λ x e q=>g8.tup (of_decide_eq_true c1.1) e (of_decide_eq_true c1.2) q) (λ _ q=>q.elim)
  | lst n=>obtain ⟨xs,x,e,h0,h1,hx,q⟩:=h; exact g8.list e h0 hx h1 (sj (k:=λ v=>Q v σ) q)
  | _=>exact g8.mono h λ v s q=>sj (k:=λ v=>Q v s) q
 | _=>exact g8.mono h λ v s q=>sj (k:=λ v=>Q v s) q
theorem vU {f:Expr→List AO→(AV→List AO→Prop)→Prop} (hf:∀ e σ Q,f e σ Q→aW W d env e η σ Q) {pos:Pos} (es:List Expr):∀ (σ:List AO) (Q:List AV→List AO→Prop),es.all aB=true→JV f es σ Q→ee W d env pos es η σ Q:=by
 induction es with
 | nil=>intro σ Q _ h; exact ee.nil h
 | cons e es ih =>
  intro σ Q hu h
  rw [List.all_cons,Bool.and_eq_true] at hu
  exact ee.cons ((hf _ _ _ h).mono λ a aa q=>ih _ _ hu.2 q) hu.1
theorem Gh (O:W.Ok) {f:Expr→List AO→(AV→List AO→Prop)→Prop} (hf:∀ e σ Q,f e σ Q→aW W d env e η σ Q) {pos:Pos} (es:List Expr):∀ (σ:List AO) (Q:AV→List AO→Prop),JW W d f es σ Q→aW W d env (.BoolOp .And es pos) η σ Q:=by
 induction es with
 | nil=>intro σ Q h; exact h.elim
 | cons e es ih =>
  intro σ Q h
  cases es with
  | nil=>exact aW.A6 (hf _ _ _ h)
  | cons mq es =>
   refine aW.and ((hf _ _ _ h).mono λ a aa q=>(lX O q).mono λ c aj q=>?_)
   obtain ⟨bc,e,q⟩:=q
   have q:=lV q
   cases c with
   | true=>exact ih _ _ (q.1 e)
   | false=>exact q.2 e
theorem J3 (O:W.Ok) {f:Expr→List AO→(AV→List AO→Prop)→Prop} (hf:∀ e σ Q,f e σ Q→aW W d env e η σ Q) {pos:Pos} (es:List Expr):∀ (σ:List AO) (Q:AV→List AO→Prop),Qe W d f es σ Q→aW W d env (.BoolOp .Or es pos) η σ Q:=by
 induction es with
 | nil=>intro σ Q h; exact h.elim
 | cons e es ih =>
  intro σ Q h
  cases es with
  | nil=>exact aW.A6 (hf _ _ _ h)
  | cons mq es =>
   refine aW.or ((hf _ _ _ h).mono λ a aa q=>(lX O q).mono λ c aj q=>?_)
   obtain ⟨bc,e,q⟩:=q
   have q:=lV q
   cases c with
   | true=>exact q.1 e
   | false=>exact ih _ _ (q.2 e)
theorem DY {f:AV} (h:HN W f=true):cN W f:=by
 cases f with
 | cst v=>cases v with
  | ref a=>exact cN.ref h
  | builtin _=>exact cN.builtin
  | type _=>exact cN.type
  | _=>exact cS h
 | g7 f _=>exact cN.g7 h
 | _=>exact cS h
theorem Bk {a b:Bool} {P:Prop} (h:(a||b)=true) (ha:a=true→P) (hb:b=true→P):P:=by
 cases a with
 | true=>exact ha rfl
 | false=>exact hb h
theorem TV {p:Prop} [i:Decidable p] {f:p→Bool} (h:(if hp:p then f hp else false)=true):∃ hp:p,f hp=true:=by
 cases i with
 | isTrue hp=>exact ⟨hp,h⟩
 | isFalse _=>exact cS h
theorem yP {e:Expr} {i:Nat} (h:tg e i=true):e.ctorIdx=i:=Nat.eq_of_beq_eq_true h
theorem sr {o:Expr} {name:Str} (h:sV o=true):attributeBase o name env (eval o env)=eval o env:=by
 have G:∀ P:Expr→Prop,(∀ a b,P (.Name a b))→(∀ a b c,P (.Attribute a b c))→(∀ a b c,P (.Subscript a b c))→(∀ a b c as ks p,P (.Call (.Attribute a b c) as ks p))→(∀ a b x as ks p,P (.Call (.Name a b) (x :: as) ks p))→P o:=by
  intro P h1 h2 h3 h4 h5
  refine Bk h (λ h=>Expr.Name.elim o (yP h) h1) λ h=>Bk h (λ h=>Expr.Attribute.elim o (yP h) h2) λ h=>Bk h (λ h=>Expr.Subscript.elim o (yP h) h3) λ h=>?_
  obtain ⟨hp,h⟩:=TV h
  refine Expr.Call.elim (motive_1:=λ o=>∀ hp,Expr.Call.elim (motive_1:=λ _=>Bool) o hp (λ f as _ _=>tg f 20||(tg f 23&&!as.isEmpty))=true→P o) o hp (λ f as ks p _ h=>?_) hp h
  refine Bk h (λ h=>Expr.Attribute.elim (motive_1:=λ f=>P (.Call f as ks p)) f (yP h) λ a b c=>h4 a b c as ks p) λ h=>?_
  have c:=Bool.and_eq_true_iff.mp h
  refine Expr.Name.elim (motive_1:=λ f=>P (.Call f as ks p)) f (yP c.1) λ a b=>?_
  cases as with
  | nil=>exact cS c.2
  | cons x as=>exact h5 a b x as ks p
 exact G (λ o=>attributeBase o name env (eval o env)=eval o env) (λ _ _=>rfl) (λ _ _ _=>rfl) (λ _ _ _=>rfl) (λ _ _ _ _ _ _=>rfl) (λ _ _ _ _ _ _=>rfl)
theorem zA {i:Expr} (h:zy i=true):∀ p q,subscripted i false p q=operate [p,q] (getItem p q):=by
 have G:∀ P:Expr→Prop,(∀ a b,P (.Name a b))→(∀ a b c,P (.Attribute a b c))→(∀ a b c d,P (.Call a b c d))→(∀ a b c,P (.Subscript a b c))→(∀ a b c d,P (.BinOp a b c d))→(∀ a b c,P (.Constant a b c))→(∀ a b c,P (.UnaryOp a b c))→P i:=by
  intro P h1 h2 h3 h4 h5 h6 h7
  exact Bk h (λ h=>Expr.Name.elim i (yP h) h1) λ h=>Bk h (λ h=>Expr.Attribute.elim i (yP h) h2) λ h=>Bk h (λ h=>Expr.Call.elim i (yP h) h3) λ h=>Bk h (λ h=>Expr.Subscript.elim i (yP h) h4) λ h=>Bk h (λ h=>Expr.BinOp.elim i (yP h) h5) λ h=>Bk h (λ h=>Expr.Constant.elim i (yP h) h6) λ h=>Expr.UnaryOp.elim i (yP h) h7
 exact G (λ i=>∀ p q,subscripted i false p q=operate [p,q] (getItem p q)) (λ _ _ _ _=>rfl) (λ _ _ _ _ _=>rfl) (λ _ _ _ _ _ _=>rfl) (λ _ _ _ _ _=>rfl) (λ _ _ _ _ _ _=>rfl) (λ _ _ _ _ _=>rfl) (λ _ _ _ _ _=>rfl)
theorem aW.Nl {o:Expr} {name:Str} {pos:Pos} {Q:AV→List AO→Prop} (hb:attributeBase o name env (eval o env)=eval o env)
 (h:aW W d env o η σ λ a aa=>gQ W d a name aa Q):aW W d env (.Attribute o name pos) η σ Q:=λ A s ρ hr R F=>by
 show wpAny _ _ (do
  let ov ← attributeBase o name env (eval o env)
  standAt pos.atName
  let r ← holding [ov] (getAttr ov name true)
  letTemporaryGo o ov r
  pure r) _ _ _
 rw [hb]
 refine wpAny_bind (aQ (h A s ρ hr R F) λ ov h₁ tk₁ δ aa p f R₁ hq=>?_)
 obtain ⟨a,va,q⟩:=hq
 exact wpAny_bind (wpAny_standAt (wpAny_bind (wpAny_holding (ic (q A _ _ _ true hr R₁ va) λ r ia z=>wpAny_bind (wpAny_letTemporaryGo (wpAny_pure (Post.chain p f z)))))))
theorem Bl {K:Frag} {C f:Addr} {name:Str} (h:fnOf K C name=some f):findIn K (.ref C) name=some (some (.ref f))∧isFn K (.ref f)=true:=by
 obtain ⟨g,e,h⟩:=cC h
 obtain ⟨c,h⟩:=FT h
 cases h
 exact ⟨ya e,c⟩
theorem DZ (O:W.Ok) {a:AV} {name:Str} {Q:AV→List AO→Prop} (h:HO W d T a name σ Q):gQ W d a name σ Q:=by
 cases a with
 | inst C m =>
  refine aM h (λ f e h=>?_) (λ e h=>?_)
  · have c:=aF h
    obtain ⟨⟨fs,e1,e2⟩,q⟩:=c.2
    exact gQ.g7 O e1 e2 (Bl e).1 c.1 q
  · have c:=aF h
    obtain ⟨fs,v,e1,e2,e3,q⟩:=c.2
    exact gQ.field O e1 e2 c.1 e3 (sj (k:=λ v=>Q v σ) q)
 | cst v=>cases v with
  | ref x=>exact aM h (λ v e q=>gQ.base O e q) (λ _ h=>h)
  | _=>exact h
 | _=>exact h
set_option tactic.hygienic true in
theorem Gi (O:W.Ok) {C m f:Nat} {name:Str} (h:M8 W.K C name=some f) (h0:aC m name σ) {k:AV→List AV→List AO→Prop} (q:k (.cst (.ref f)) [] σ):cI W d (.inst C m) name σ k:=by
 obtain ⟨fs,e1,e2⟩:=h0
 obtain ⟨p,e3,h⟩:=cC h
 obtain ⟨l,e4,h⟩:=cC h
 obtain ⟨v,e5,h⟩:=cC h
 obtain ⟨f',e6,h⟩:=cC h
 obtain ⟨hk,h⟩:=FT h
 cases h
 obtain ⟨l,rfl⟩:=List.head?_eq_some_iff.mp e5
 obtain rfl:=gM e6
 refine cI.static O e1 e2 (ya e3) e4 hk (cN.ref ?_) q
 simp only [Bool.and_eq_true] at hk
 exact hk.1.1.1.1.1.2
theorem D6 (O:W.Ok) {a:AV} {name:Str} {k:AV→List AV→List AO→Prop} (h:HP W d a name σ k):cI W d a name σ k:=by
 cases a with
 | inst C m =>
  obtain ⟨h0,h⟩:=h
  refine aM h (λ f e h=>?_) (λ e h=>aM h (λ f e h=>Gi O e h0 h) (λ _ h=>h))
  have c:=aF h
  have c1:=Bool.and_eq_true_iff.mp c.1
  obtain ⟨fs,e1,e2⟩:=h0
  obtain ⟨e3,e4⟩:=Bl e
  exact cI.fn O e1 e2 e3 (by rw [c1.1,c1.2,e4]; rfl) c.2
 | lst m =>
  have c:=aF h
  obtain ⟨xs,e,q⟩:=c.2
  rw [beq_iff_eq.mp c.1]
  exact cI.append e q
 | dct m =>
  have c:=aF h
  obtain ⟨⟨es,e⟩,q⟩:=c.2
  rw [beq_iff_eq.mp c.1]
  exact cI.Jz e q
 | cst v=>cases v with
  | ref x=>exact aM h (λ f e q=>cI.base O e q) (λ _ h=>aM h (λ f e q=>cI.cls O e q) (λ _ h=>h))
  | _=>exact h
 | _=>exact h
theorem Bm {f:AV} {as:List AV} {t:Kd} {Q:AV→List AO→Prop} (h:aq W d f as σ λ v s=>dK t v λ v=>Q v s):aq W d f as σ Q:=aq.mono h λ v s q=>sj (k:=λ v=>Q v s) q
theorem bK {b:Bool} {p q P:Prop} (h:bif b then p else q) (h1:b=true→p→P) (h2:q→P):P:=by
 cases b with
 | true=>exact h1 rfl h
 | false=>exact h2 h
theorem Gj (O:W.Ok) {t:Kd} {nm:String} {as:List AV} {Q:AV→List AO→Prop} {dflt:Prop} (h:M9 W t nm as σ Q dflt) (hd:dflt→aq W d (.cst (.builtin nm)) as σ Q):aq W d (.cst (.builtin nm)) as σ Q:=by
 cases as with
 | nil=>exact hd h
 | cons a r=>cases a with
  | lst n=>cases r with
   | nil=>exact bK h (λ e ⟨xs,e1,hz,q⟩=>by rw [beq_iff_eq.mp e]; exact aq.len e1 hz q) λ h=>bK h (λ e ⟨bs,e1,q⟩=>by rw [beq_iff_eq.mp e]; exact aq.all e1 q) hd
   | cons b r=>cases r with
    | nil=>exact bK h (λ e ⟨xs,e1,hz,q⟩=>by rw [beq_iff_eq.mp e]; exact aq.append e1 hz q) hd
    | cons=>exact hd h
  | int i=>cases r with
   | nil=>exact bK h (λ e q=>by rw [beq_iff_eq.mp e]; exact aq.abs q) hd
   | cons b r=>cases r with
    | nil=>cases b with
     | int j=>exact bK h (λ e q=>by rw [beq_iff_eq.mp e]; exact aq.max q) hd
     | _=>exact hd h
    | cons=>exact hd h
  | inst C n=>cases r with
   | nil=>exact hd h
   | cons b r=>cases r with
    | nil=>cases b with
     | cst v=>cases v with
      | ref D =>
       refine bK h (λ e q=>?_) hd
       rw [beq_iff_eq.mp e]
       exact bK q (λ e q=>aq.lit (aq.JD O e) q) (λ q=>let ⟨⟨fs,e1,_⟩,q2⟩:=(aF q).2; aq.lit (aq.MD O e1 (aF q).1) q2)
      | _=>exact hd h
     | _=>exact hd h
    | cons=>exact hd h
  | dct n=>cases r with
   | nil=>exact hd h
   | cons b r=>cases b with
    | int i=>cases r with
     | nil=>exact hd h
     | cons x r=>cases r with
      | nil =>
       refine bK h (λ e q=>?_) hd
       have c:=aF q
       obtain ⟨es,e1,q⟩:=c.2
       rw [beq_iff_eq.mp e]
       obtain ⟨ob,hob⟩:=Option.isSome_iff_exists.mp c.1
       exact aq.Jz O (by rw [O.qM _ _ hob]; exact Option.some_ne_none _) e1 (sj (k:=λ v=>Q v σ) q)
      | cons=>exact hd h
    | _=>exact hd h
  | cst u=>cases u with
   | ref x=>cases r with
    | nil=>exact hd h
    | cons b r=>cases r with
     | nil=>cases b with
      | cst v=>cases v with
       | ref D =>
        refine bK h (λ e q=>?_) hd
        exact aM q (λ t et q=>bK q (λ ei q=>by rw [beq_iff_eq.mp e]; exact aq.lit (F4 (C:=0) O et ei) q) hd) (λ _=>hd)
       | _=>exact hd h
      | _=>exact hd h
     | cons=>exact hd h
   | _=>exact hd h
  | _=>exact hd h
theorem Gk {nm:String} {as:List AV} {Q:AV→List AO→Prop} {dflt:Prop} (h:Na nm as σ Q dflt) (hd:dflt→aq W d (.cst (.type nm)) as σ Q):aq W d (.cst (.type nm)) as σ Q:=by
 cases as with
 | nil=>exact hd h
 | cons a r=>cases a with
  | int i=>cases r with
   | nil=>exact bK h (λ e q=>by rw [beq_iff_eq.mp e]; exact aq.int q) λ h=>bK h (λ e q=>by rw [beq_iff_eq.mp e]; exact aq.JA q) hd
   | cons b r=>cases b with
    | int j=>cases r with
     | nil=>exact bK h (λ e q=>by rw [beq_iff_eq.mp e]; exact aq.JB q) hd
     | cons c r=>cases c with
      | int k=>cases r with
       | nil=>exact bK h (λ e q=>by rw [beq_iff_eq.mp e]; exact aq.JC q.1 q.2.1 q.2.2) hd
       | cons=>exact hd h
      | _=>exact hd h
    | _=>exact hd h
  | bool b=>cases r with
   | nil=>exact bK h (λ e q=>by rw [beq_iff_eq.mp e]; exact aq.PR q) hd
   | cons=>exact hd h
  | _=>exact hd h
theorem zB (O:W.Ok) {t:Option Kd} {f:AV} {as:List AV} {Q:AV→List AO→Prop} (h:DS W d T t f as σ Q):aq W d f as σ Q:=by
 cases f with
 | cst v=>cases v with
  | ref a=>exact Bm (ai.w h)
  | builtin nm=>exact Gj O h Bm
  | type nm=>exact Gk h Bm
  | _=>exact h
 | g7 f a=>exact Bm (ai.w (ai.g7 h))
 | _=>exact h
theorem cD.mono {e:Expr} {Q Q':Bool→List AO→Prop} (h:cD W d env e η σ Q) (q:∀ c σ',Q c σ'→Q' c σ'):cD W d env e η σ Q':=λ A s ρ hr R F =>
 ic (h A s ρ hr R F) λ _ _ p=>p.mono λ _ _ _ z=>q _ _ z
theorem J4 (O:W.Ok) {a:AV} {b:Bool} {Q:BC→List AO→Prop} (h:bif b then (bw W d a σ λ c s=>Q (.sym c) s) else vS W d a σ Q):bw W d a σ λ c σ'=>∃ bc,bc.val=c∧Q bc σ':=bK h (λ _ h=>bw.mono h λ c s q=>⟨_,rfl,q⟩) (lX O)
theorem HS (O:W.Ok) {e:Expr} {i:Int} (h:pI η e=some i):aW W d env e η σ λ v σ'=>v=.int i∧σ'=σ:=by
 cases e with
 | Name x p =>
  have h:(match cF η x with
   | some v=>(match v with
    | .int i=>some i
    | _=>none)
   | none=>none)=some i:=h
  cases e1:cF η x with
  | none=>rw [e1] at h; exact aT h
  | some v =>
   rw [e1] at h
   cases v with
   | int j=>refine sE h ?_; exact aW.name O (bV e1) ⟨rfl,rfl⟩
   | _=>exact aT h
 | Constant c k p=>cases c with
  | int j=>refine sE h ?_; exact aW.int ⟨rfl,rfl⟩
  | _=>exact aT h
 | _=>exact aT h
theorem D7 {α β γ:Type} {a:Option α} {b:Option β} {k:α→β→Option γ} {z:γ} (h:o2 a b k=some z):∃ x y,a=some x∧b=some y∧k x y=some z:=by
 cases a with
 | none=>exact aT h
 | some x=>cases b with
  | none=>exact aT h
  | some y=>exact ⟨x,y,rfl,rfl,h⟩
theorem Nm {op:CmpOp} {x y:Int} {c:Bool} (h:pC op x y=some c) {Q:AV→List AO→Prop} (q:Q (.bool c) σ):aA W d op (.int x) (.int y) σ Q:=by
 cases op with
 | Lt=>cases h; exact aA.lt q
 | Gt=>cases h; exact aA.gt q
 | LtE=>cases h; exact aA.le q
 | GtE=>cases h; exact aA.ge q
 | Eq=>cases h; exact aA.eq q
 | NotEq=>cases h; exact aA.ne q
 | _=>exact aT h
theorem cD.J5 {e:Expr} {pos:Pos} {Q:Bool→List AO→Prop} (h:cD W d env e η σ Q):cD W d env (.BoolOp .And [e] pos) η σ Q:=cD.and (h.mono λ c σ' q=>by
 cases c with
 | true=>exact cD.Dn q
 | false=>exact q)
theorem cD.Nn {e:Expr} {pos:Pos} {Q:Bool→List AO→Prop} (h:cD W d env e η σ Q):cD W d env (.BoolOp .Or [e] pos) η σ Q:=cD.or (h.mono λ c σ' q=>by
 cases c with
 | true=>exact q
 | false=>exact cD.Hx q)
theorem Np (O:W.Ok):∀ (n:Nat) (e:Expr) (c:Bool),pB η n e=some c→cD W d env e η σ λ c' σ'=>c'=c∧σ'=σ:=by
 intro n
 induction n with
 | zero=>intro e c h; exact aT h
 | succ n ih =>
  have hand:∀ (pos:Pos) (es:List Expr) (c:Bool),DR (pB η n) true es=some c→cD W d env (.BoolOp .And es pos) η σ λ c' σ'=>c'=c∧σ'=σ:=by
   intro pos es
   induction es with
   | nil=>intro c h; exact aT h
   | cons e r ihr =>
    intro c h
    cases r with
    | nil=>exact cD.J5 (ih e c h)
    | cons e2 r =>
     obtain ⟨x,y,h1,h2,h3⟩:=D7 h
     refine sE h3 ?_
     refine cD.and ((ih e x h1).mono λ c' σ' z=>?_)
     obtain ⟨rfl,rfl⟩:=z
     cases c' with
     | true=>exact (ihr y h2).mono λ c' σ' z=>z
     | false=>exact ⟨rfl,rfl⟩
  have hor:∀ (pos:Pos) (es:List Expr) (c:Bool),DR (pB η n) false es=some c→cD W d env (.BoolOp .Or es pos) η σ λ c' σ'=>c'=c∧σ'=σ:=by
   intro pos es
   induction es with
   | nil=>intro c h; exact aT h
   | cons e r ihr =>
    intro c h
    cases r with
    | nil=>exact cD.Nn (ih e c h)
    | cons e2 r =>
     obtain ⟨x,y,h1,h2,h3⟩:=D7 h
     refine sE h3 ?_
     refine cD.or ((ih e x h1).mono λ c' σ' z=>?_)
     obtain ⟨rfl,rfl⟩:=z
     cases c' with
     | true=>exact ⟨rfl,rfl⟩
     | false=>exact (ihr y h2).mono λ c' σ' z=>z
  intro e c h
  cases e with
  | Name x p =>
   have h:(match cF η x with
    | some v=>(match v with
     | .int i=>some (decide (i≠0))
     | .bool b=>some b
     | _=>none)
    | none=>none)=some c:=h
   cases e1:cF η x with
   | none=>rw [e1] at h; exact aT h
   | some v =>
    rw [e1] at h
    cases v with
    | int j=>refine sE h ?_; exact cD.name (aW.name O (bV e1) (bw.int ⟨rfl,rfl⟩))
    | bool j=>refine sE h ?_; exact cD.name (aW.name O (bV e1) (bw.bool ⟨rfl,rfl⟩))
    | _=>exact aT h
  | UnaryOp op x p=>cases op with
   | Not =>
    have h:(match pB η n x with
     | some b=>some (!b)
     | none=>none)=some c:=h
    cases e1:pB η n x with
    | none=>rw [e1] at h; exact aT h
    | some b =>
     rw [e1] at h
     refine sE h ?_
     exact cD.not ((ih x b e1).mono λ c' σ' z=>⟨by rw [z.1],z.2⟩)
   | _=>exact aT h
  | Compare l ops rs p=>cases ops with
   | nil=>exact aT h
   | cons op ops=>cases ops with
    | cons=>exact aT h
    | nil=>cases rs with
     | nil=>exact aT h
     | cons r rs=>cases rs with
      | cons=>exact aT h
      | nil =>
       have h:(bif behindInMarks op r then none else o2 (pI η l) (pI η r) (pC op))=some c:=h
       cases hm:behindInMarks op r with
       | true=>rw [hm] at h; exact aT h
       | false =>
        rw [hm] at h
        obtain ⟨x,y,h1,h2,h3⟩:=D7 h
        refine cD.cmp ((HS O h1).mono λ a aa z=>?_) hm
        obtain ⟨rfl,rfl⟩:=z
        refine (HS O h2).mono λ b aj z=>?_
        obtain ⟨rfl,rfl⟩:=z
        exact Nm h3 (bw.bool ⟨rfl,rfl⟩)
  | BoolOp op es p=>cases op with
   | And=>exact hand p es c h
   | Or=>exact hor p es c h
  | _=>exact aT h
theorem Gl {t:Option Kd} {Q:BC→List AO→Prop} {v:AV} (h:MZ t Q v σ):bw W d v σ λ c σ'=>∃ bc,BC.val bc=c∧Q bc σ':=by
 have g:(dB v λ c=>Q (.sym c) σ)→bw W d v σ λ c σ'=>∃ bc,BC.val bc=c∧Q bc σ':=λ q=>by
  cases v with
  | bool c=>exact bw.bool ⟨_,rfl,q⟩
  | _=>exact q.elim
 cases t with
 | none=>exact g h
 | some t=>cases t with
  | yes=>obtain ⟨rfl,q⟩:=h; exact bw.bool ⟨_,rfl,q⟩
  | no=>obtain ⟨rfl,q⟩:=h; exact bw.bool ⟨_,rfl,q⟩
  | _=>exact g h
theorem xx {e:Expr} {p:Expr×List Expr} (h:Ak e=some p):∃ q,e=.Call p.1 p.2 [] q:=by
 obtain ⟨hp,h⟩:=BS h
 exact Expr.Call.elim (motive_1:=λ e=>∀ hp,Expr.Call.elim (motive_1:=λ _=>Option (Expr×List Expr)) e hp (λ f as ks _=>HQ f as ks)=some p→∃ q,e=.Call p.1 p.2 [] q) e hp (λ f as ks q _ h=>⟨q,by
  obtain ⟨h1,h2⟩:=FT h
  rw [← h2,List.isEmpty_iff.mp h1]⟩) hp h
theorem su {e:Expr} {x:Str} (h:Al e=some x):∃ q,e=.Name x q:=by
 obtain ⟨hp,h⟩:=BS h
 exact Expr.Name.elim (motive_1:=λ e=>∀ hp,Expr.Name.elim (motive_1:=λ _=>Option Str) e hp (λ x _=>some x)=some x→∃ q,e=.Name x q) e hp (λ _ q _ h=>⟨q,congrArg (Expr.Name · q) (Option.some.inj h)⟩) hp h
theorem Am {l:List Expr} {e:Expr} (h:one? l=some e):l=[e]:=by
 cases l with
 | nil=>exact nomatch h
 | cons a r=>cases r with
  | nil=>cases h; rfl
  | cons=>exact nomatch h
theorem J6 {l:List Expr} {p:Expr×Expr} (h:Nb l=some p):l=[p.1,p.2]:=by
 cases l with
 | nil=>exact nomatch h
 | cons a r =>
  have h:(match one? r with | some e2=>some (a,e2) | none=>none)=some p:=h
  cases e:one? r with
  | none=>rw [e] at h; exact nomatch h
  | some b=>rw [e] at h; cases h; rw [Am e]
theorem Bo {v:AV} {vs:List AV} (h:J0 v=some vs):v=.tup vs:=by
 obtain ⟨hp,h⟩:=BS h
 exact AV.tup.elim (motive_1:=λ v=>∀ hp,AV.tup.elim (motive_1:=λ _=>Option (List AV)) v hp some=some vs→v=.tup vs) v hp (λ _ _ h=>congrArg _ (Option.some.inj h)) hp h
theorem Gm {v:AV} {a:Addr} (h:Nc v=some a):v=.cst (.ref a):=by
 obtain ⟨hp,h⟩:=BS h
 exact AV.cst.elim (motive_1:=λ v=>∀ hp,AV.cst.elim (motive_1:=λ _=>Option Addr) v hp wH=some a→v=.cst (.ref a)) v hp (λ _ _ h=>congrArg _ (gM h)) hp h
theorem D8 {i u:Expr} (h:HR i=some u):∃ p,i=.Slice none (some u) none p:=by
 obtain ⟨hp,h⟩:=BS h
 refine Expr.Slice.elim (motive_1:=λ e=>∀ hp,Expr.Slice.elim (motive_1:=λ _=>Option Expr) e hp (λ lo up st _=>RN lo up st)=some u→∃ p,e=.Slice none (some u) none p) i hp (λ lo up st p _ h=>⟨p,?_⟩) hp h
 have h:(if (lo.isNone&&st.isNone)=true then up else none)=some u:=h
 cases lo with
 | some _=>exact aT h
 | none=>cases st with
  | some _=>exact aT h
  | none=>exact congrArg (Expr.Slice none · none p) h
theorem Gp {c:Const} {k:Int} (h:J1 c=some k):c=.int k:=by
 obtain ⟨hp,h⟩:=BS h
 exact Const.int.elim (motive:=λ c=>∀ hp,Const.int.elim (motive:=λ _=>Option Int) c hp some=some k→c=.int k) c hp (λ _ _ h=>congrArg _ (Option.some.inj h)) hp h
theorem Gq {e:Expr} {k:Int} (h:Nd e=some k):∃ n p,e=.Constant (.int k) n p:=by
 obtain ⟨hp,h⟩:=BS h
 exact Expr.Constant.elim (motive_1:=λ e=>∀ hp,Expr.Constant.elim (motive_1:=λ _=>Option Int) e hp (λ c _ _=>J1 c)=some k→∃ n p,e=.Constant (.int k) n p) e hp (λ _ n p _ h=>⟨n,p,congrArg (Expr.Constant · n p) (Gp h)⟩) hp h
theorem Gr {gens:List Comprehension} {x:Str} {g:Comprehension} (h:Nf gens=some (x,g)):∃ px,gens=[⟨.Name x px,g.iter,g.ifs,g.is_async⟩]:=by
 cases gens with
 | nil=>exact nomatch h
 | cons g' more=>cases more with
  | cons=>exact nomatch h
  | nil =>
   obtain ⟨y,h1,h2⟩:=Option.bind_eq_some_iff.mp h
   cases h2
   obtain ⟨px,e⟩:=su h1
   obtain ⟨tg,it,ifs,RP⟩:=g
   exact ⟨px,by rw [← show tg=_ from e]⟩
theorem vV {nm:String} {o:Option AV} (h:Bh nm o=true):o=some (.cst (.type nm)):=by
 cases o with
 | none=>exact cS h
 | some v=>cases v with
  | cst v=>cases v with
   | type n=>rw [beq_iff_eq.mp h]
   | _=>exact cS h
  | _=>exact cS h
theorem zC {it e:Expr} (h:DW η it=some e):∃ x p q,it=.Call (.Name x p) [e] [] q∧ud η x (.cst (.type "reversed"))∧aB e=true:=by
 obtain ⟨⟨f,as⟩,h1,h⟩:=Option.bind_eq_some_iff.mp h
 obtain ⟨x,h2,h⟩:=Option.bind_eq_some_iff.mp h
 obtain ⟨e',h3,hf⟩:=Option.bind_eq_some_iff.mp h
 obtain ⟨q,rfl⟩:=xx h1
 obtain ⟨p,e2⟩:=su h2
 have e3:=Am h3
 dsimp only at e2 e3
 subst e2 e3
 obtain ⟨hc,hf⟩:=FT hf
 cases hf
 rw [Bool.and_eq_true] at hc
 exact ⟨x,p,q,rfl,bV (vV hc.1),hc.2⟩
theorem yd {g e:Expr} {as:List Expr} (h:xw η g as=some e):∃ x y p q r,g=.Name x p∧as=[.Call (.Name y q) [e] [] r]∧ud η x (.cst (.type "list"))∧ud η y (.cst (.type "reversed"))∧aB e=true:=by
 obtain ⟨x,h2,h⟩:=Option.bind_eq_some_iff.mp h
 obtain ⟨e',h3,h⟩:=Option.bind_eq_some_iff.mp h
 obtain ⟨e'',h4,hf⟩:=Option.bind_eq_some_iff.mp h
 obtain ⟨p,rfl⟩:=su h2
 obtain ⟨y,q,r,e1,hy,hu⟩:=zC h4
 subst e1
 obtain ⟨hc,hf⟩:=FT hf
 cases hf
 exact ⟨x,y,p,q,r,rfl,Am h3,bV (vV hc),hy,hu⟩
theorem Gs {t:Option Kd} {Q:BC→List AO→Prop} {c:Bool} (h:M4 t Q c σ):∃ bc,BC.val bc=c∧Q bc σ:=by
 cases t with
 | none=>exact ⟨_,rfl,h⟩
 | some t=>cases t with
  | yes=>exact ⟨.lit true,h.1.symm,h.2⟩
  | no=>exact ⟨.lit false,h.1.symm,h.2⟩
  | _=>exact ⟨_,rfl,h⟩
theorem xy (O:W.Ok) {f:Expr→List AO→(AV→List AO→Prop)→Prop} (hf:∀ e σ Q,f e σ Q→aW W d env e η σ Q):∀ (n:Nat) (e:Expr) (σ:List AO) (Q:BC→List AO→Prop),xT W d T η f n e σ Q→cD W d env e η σ λ c σ'=>∃ bc,bc.val=c∧Q bc σ':=by
 intro n
 induction n with
 | zero=>intro e σ Q h; exact h.elim
 | succ n ih =>
  have hand:∀ (pos:Pos) (es:List Expr) (σ:List AO) (Q:BC→List AO→Prop),DQ (xT W d T η f n) es σ Q→cD W d env (.BoolOp .And es pos) η σ λ c σ'=>∃ bc,bc.val=c∧Q bc σ':=by
   intro pos es
   induction es with
   | nil=>intro σ Q h; exact cD.Dn ⟨_,rfl,h⟩
   | cons e es Qh =>
    intro σ Q h
    refine cD.and ((ih _ _ _ h).mono λ c aa q=>?_)
    obtain ⟨bc,e,q⟩:=q
    have q:=lV q
    cases c with
    | true=>exact Qh _ _ (q.1 e)
    | false=>exact ⟨_,rfl,q.2 e⟩
  have hor:∀ (pos:Pos) (es:List Expr) (σ:List AO) (Q:BC→List AO→Prop),JX (xT W d T η f n) es σ Q→cD W d env (.BoolOp .Or es pos) η σ λ c σ'=>∃ bc,bc.val=c∧Q bc σ':=by
   intro pos es
   induction es with
   | nil=>intro σ Q h; exact cD.Hx ⟨_,rfl,h⟩
   | cons e es Qh =>
    intro σ Q h
    refine cD.or ((ih _ _ _ h).mono λ c aa q=>?_)
    obtain ⟨bc,e,q⟩:=q
    have q:=lV q
    cases c with
    | true=>exact ⟨_,rfl,q.1 e⟩
    | false=>exact Qh _ _ (q.2 e)
  intro e σ Q h
  refine aM (α:=Bool) h (λ c ec q=>?_) λ _ h=>?_
  · cases er:T.rel e.pos.line e.pos.col e.pos.endCol with
    | true=>rw [er] at ec; exact aT ec
    | false=>rw [er] at ec; exact (Np O 20 e c ec).mono λ c' σ' z=>⟨.sym c,z.1.symm,by rw [z.2]; exact q⟩
  cases e with
  | BoolOp op es p=>cases op with
   | And=>exact hand _ _ _ _ h
   | Or=>exact hor _ _ _ _ h
  | UnaryOp op x p=>cases op with
   | Not =>
    refine cD.not ((ih _ _ _ h).mono λ c σ' q=>?_)
    obtain ⟨bc,e,q⟩:=q
    refine ⟨_,?_,q⟩
    subst e
    cases bc<;>rfl
   | _=>exact h.elim
  | Compare l ops rs p=>cases ops with
   | nil=>exact h.elim
   | cons op ops=>cases ops with
    | nil=>cases rs with
     | nil=>exact h.elim
     | cons r rs=>cases rs with
      | nil =>
       have c:=aF h
       refine cD.cmp ((hf _ _ _ c.2).mono λ a aa q=>(hf _ _ _ q).mono λ b aj q=>?_) (by simpa using c.1)
       refine bK q (λ _ q=>wJ.mono q λ v s q=>?_) (λ q=>wJ.mono (Bj O q) λ c aE q=>lX O q)
       exact Gl q
      | cons=>exact h.elim
    | cons=>exact h.elim
  | Name=>exact cD.name ((hf _ _ _ h).mono λ a aa q=>J4 O q)
  | Call=>exact cD.call ((hf _ _ _ h).mono λ a aa q=>J4 O q)
  | Attribute=>exact cD.attr ((hf _ _ _ h).mono λ a aa q=>bK q (λ _ q=>bw.mono q λ c s q=>Gs q) (lX O))
  | Subscript=>exact cD.Jt ((hf _ _ _ h).mono λ a aa q=>J4 O q)
  | BinOp=>exact cD.binop ((hf _ _ _ h).mono λ a aa q=>lX O q)
  | _=>exact h.elim
def Lf (i b c:Int) (n:Nat):Prop:=b-i≤n*c∧(n=0∨((n:Int)-1)*c<b-i)
theorem Lf.start {a b c:Int} (hc:0<c):Lf a b c (Builtin.Range.rangeSize a b c).toNat:=by
 unfold Builtin.Range.rangeSize Lf
 rw [if_pos hc]
 by_cases h:a<b
 · rw [if_pos h]
   have h1:0≤(b-a-1) / c:=Int.ediv_nonneg (by lia) (Lq.w hc)
   have h2:=Int.mul_ediv_add_emod (b-a-1) c
   have h3:=Int.emod_nonneg (b-a-1) (Int.ne_of_gt hc)
   have h4:=Int.emod_lt_of_pos (b-a-1) hc
   rw [Int.toNat_of_nonneg (by omega),Int.add_mul,Int.one_mul]
   have h5:((b-a-1) / c+1-1)*c=c*((b-a-1) / c):=by rw [Int.add_sub_cancel,Int.mul_comm]
   have h6:((b-a-1) / c)*c=c*((b-a-1) / c):=Int.mul_comm _ _
   exact ⟨by (clear h5 h1 h; omega),.inr (by (clear h6 h4 h1 h hc; omega))⟩
 · rw [if_neg h]
   exact ⟨by simp; lia,.inl rfl⟩
theorem Lf.zero {i b c:Int} (h:Lf i b c 0):b≤i:=by
 have:=h.1
 simp at this
 lia
theorem Lf.succ {i b c:Int} {n:Nat} (hc:0<c) (h:Lf i b c (n+1)):i<b∧Lf (i+c) b c n:=by
 obtain ⟨h1,h2⟩:=h
 have e:((n+1:Nat):Int)=(n:Int)+1:=by lia
 rw [e,Int.add_mul,Int.one_mul] at h1
 rcases h2 with h2 | h2
 · lia
 rw [e,Int.add_sub_cancel] at h2
 have h3:0≤(n:Int)*c:=Int.mul_nonneg (Lq.z _) (Lq.w hc)
 refine ⟨by lia,by lia,?_⟩
 by_cases hn:n=0
 · exact .inl hn
 · refine .inr ?_
   rw [Int.sub_mul,Int.one_mul]; lia
theorem Cb {it:Expr} (h:DU it=true) (env:Env):∀ x,foldedSetIterable it env x=pure x:=by
 intro x
 cases it<;>first | rfl | exact cS h
set_option tactic.hygienic true in
theorem D9 {names:List (Str×NameKind)} {x:Str} (h:DV names x=true):names.lookup x=some .local:=by
 unfold DV at h
 cases e:names.lookup x with
 | some k=>rw [e] at h; rw [beq_iff_eq.mp h]
 | none=>rw [e] at h; exact cS h
theorem Bp (O:W.Ok) {f:Expr→En→List AO→(AV→List AO→Prop)→Prop} {ft:En→Expr→List AO→(BC→List AO→Prop)→Prop} (hf:∀ env e η σ Q,f e η σ Q→aW W d env e η σ Q) (TX:∀ env e η σ Q,ft η e σ Q→cD W d env e η σ λ c σ'=>∃ bc,BC.val bc=c∧Q bc σ')
 {t:Kd} {elt:Expr} {gens:List Comprehension} {scope:Scope} {Q:AV→List AO→Prop} (h:Nh W f ft t elt gens scope η σ Q) :
 ∃ x px it ifs,gens=[⟨.Name x px,it,ifs,0⟩]∧cG scope η=true∧scope.names.lookup x=some .local∧(∀ x,foldedSetIterable it env x=pure x)∧qs W d env it η σ (CompI W d env η elt x ifs scope λ j σ'=>Q (.lst j) σ'):=by
 refine aM h (λ p eg h=>?_) λ _ h=>h.elim
 obtain ⟨x,g⟩:=p
 obtain ⟨px,eg⟩:=Gr eg
 obtain ⟨tg,it,ifs,RP⟩:=g
 dsimp only at eg
 have c:=aF h
 have c1:=Bool.and_eq_true_iff.mp c.1
 have c2:=Bool.and_eq_true_iff.mp c1.1
 have c3:=Bool.and_eq_true_iff.mp c2.1
 have e0:RP=0:=of_decide_eq_true c3.1
 subst e0
 refine ⟨x,px,it,ifs,eg,c3.2,D9 c2.2,Cb c1.2 env,qs.of ((hf env _ _ _ _ c.2).mono λ a aa q=>?_)⟩
 have turn:∀ (C:Addr) (j:Nat) (v:AV) (aj:List AO) (k':dQ) (n:Nat) (Inv:Nat→Nat→dQ→List AO→Prop) (next:List AO→Prop),(∀ aE,next aE→sf j n k' Inv aE) →
  (cJ (p9 (dU W scope.names η) x v) (λ η₂=>Ng (ft η₂) ifs aj λ c aE=>wC c (f elt η₂ aE λ v cH=>aD j cH λ xs=>xs.length≤1000000∧next (cH.set j (.lst (xs++[v])))) (next aE)) False) →
  ∃ zw,Up (dU W scope.names η) x v zw∧JI W d (compEnvC scope (aR scope.names env.cells []) C env) ifs zw aj λ b aE=>if b=true then aW W d (compEnvC scope (aR scope.names env.cells []) C env) elt zw aE λ v cH=>∃ xs,cH[j]? = some (.lst xs)∧xs.length≤1000000∧sf j n k' Inv (cH.set j (.lst (xs++[v]))) else sf j n k' Inv aE:=by
  intro C j v aj k' n Inv next hn q
  refine aM (α:=En) q (λ η₂ e q=>⟨η₂,gu e,?_⟩) λ _ h=>h.elim
  have fin:∀ (b:Bool) (aE:List AO),(∃ bc,BC.val bc=b∧wC bc (f elt η₂ aE λ v cH=>aD j cH λ xs=>xs.length≤1000000∧next (cH.set j (.lst (xs++[v])))) (next aE)) →
   if b=true then aW W d (compEnvC scope (aR scope.names env.cells []) C env) elt η₂ aE λ v cH=>∃ xs,cH[j]? = some (.lst xs)∧xs.length≤1000000∧sf j n k' Inv (cH.set j (.lst (xs++[v]))) else sf j n k' Inv aE:=by
   intro b aE ⟨bc,eb,z⟩
   have z:=lV z
   cases b with
   | true =>
    rw [if_pos rfl]
    exact (hf _ _ _ _ _ (z.1 eb)).mono λ v cH ⟨xs,e1,e2,e3⟩=>⟨xs,e1,e2,hn _ e3⟩
   | false=>rw [if_neg (by simp)]; exact hn _ (z.2 eb)
  cases ifs with
  | nil=>exact fin true aj ⟨.lit true,rfl,q⟩
  | cons c r=>cases r with
   | nil=>exact (TX _ _ _ _ _ q).mono λ b aE z=>fin b aE z
   | cons=>exact q.elim
 cases a with
 | lst m =>
  obtain ⟨ys,e1,I,h1,h2⟩:=q
  refine ⟨_,rfl,⟨λ n l e=>(by cases e),λ j n k aj=>∃ i,n+i=ys.length∧k=.lst m i∧I i aj,⟨ys.length,0,rfl,rfl,h1⟩,?_⟩,λ n' e'=>by cases e'; exact ⟨_,e1⟩⟩
  intro C n k aj ⟨i,en,ek,hI⟩
  subst ek
  obtain ⟨e2,H,He⟩:=h2 i aj hI
  have TY:dQ.next aj (.lst m i)=some (Mr m i (ys.map (yc t))[i]?):=by
   show FW m i aj[m]? = _
   rw [e2]; rfl
  rw [TY]
  by_cases hi:i<ys.length
  · rw [List.getElem?_map,List.getElem?_eq_getElem hi]
    exact turn C _ _ aj _ n _ _ (λ aE q=>⟨n-1,by lia,i+1,Lq.sh (by assumption) hi,rfl,q⟩) (H _ (List.getElem?_eq_getElem hi))
  · rw [List.getElem?_map,List.getElem?_eq_none (Nat.not_lt.mp hi)]
    exact He (by lia)
 | gO x0 b c =>
  have c2:=aF q
  obtain ⟨hs,I,h1,h2⟩:=c2.2
  have hc:=of_decide_eq_true c2.1
  refine ⟨.gO x0 c (Builtin.Range.rangeSize x0 b c).toNat,if_pos hs,⟨λ n l e=>(by cases e),λ j n k aj=>∃ i,Lf i b c n∧k=.gO i c n∧I i aj,⟨_,x0,Lf.start hc,rfl,h1⟩,?_⟩,λ n' e'=>by cases e'⟩
  intro C n k aj ⟨i,lf,ek,hI⟩
  subst ek
  have H:=h2 i aj hI
  cases n with
  | zero=>exact H.2 lf.zero
  | succ n =>
   obtain ⟨hx,Qi⟩:=lf.succ hc
   exact turn C _ _ aj _ (n+1) _ _ (λ aE q=>⟨n,Nat.lt_succ_self _,i+c,Qi,rfl,q⟩) (H.1 hx)
 | _=>exact q.elim
theorem Gu (O:W.Ok) {v i:Expr} {p:Pos} {Q:AV→List AO→Prop} (h:Nk W η v i σ Q):aW W d env (.Subscript v i p) η σ Q:=by
 refine aM h (λ x ex h=>aM h (λ k ek h=>aM h (λ l el hf=>?_) λ _ h=>h.elim) λ _ h=>h.elim) λ _ h=>h.elim
 obtain ⟨px,rfl⟩:=su ex
 obtain ⟨u,h1,h2⟩:=Option.bind_eq_some_iff.mp ek
 obtain ⟨pi,rfl⟩:=D8 h1
 obtain ⟨n,pu,rfl⟩:=Gq h2
 obtain ⟨a,h3,h4⟩:=Option.bind_eq_some_iff.mp el
 have e4:=Gm h4
 subst e4
 have c:=aF hf
 obtain ⟨vs,ns,g1,g2,g3,q⟩:=c.2
 exact aW.B9 O (bV h3) g1 g2 g3 (of_decide_eq_true c.1) q
theorem J7 (O:W.Ok) {AN:Expr→List AO→(AV→List AO→Prop)→Prop} (hf:∀ e σ Q,AN e σ Q→aW W d env e η σ Q) {g:Expr} {args:List Expr} {p:Pos} {Q:AV→List AO→Prop} (h:RO W d T AN η g args p σ Q):aW W d env (.Call g args [] p) η σ Q:=by
 cases g with
 | Name x p' =>
  refine aM h (λ v e h=>?_) (λ _ h=>h.elim)
  have c:=aF h
  have c1:=Bool.and_eq_true_iff.mp c.1
  exact aW.call O (bV e) (DY c1.1) c1.2 ((vU hf _ _ _ c1.2 c.2).mono λ as aa q=>zB O q)
 | Attribute o name apos =>
  have c:=aF h
  have c1:=Bool.and_eq_true_iff.mp c.1
  have c2:=Bool.and_eq_true_iff.mp c1.1
  have c3:=Bool.and_eq_true_iff.mp c2.1
  exact aW.Mv O (sr c3.1) c3.2 c1.2 (Nat.lt_of_succ_le (Nat.le_of_ble_eq_true c2.2)) ((hf _ _ _ c.2).mono λ a aa q=>bK q (λ _ q=>cI.mono q λ f as aj q=>vU hf _ _ _ c1.2 q) λ q=>(D6 O q).mono λ f as aj q=>(vU hf _ _ _ c1.2 q).mono λ as aa q=>zB O q)
 | _=>exact h.elim
theorem An (O:W.Ok):∀ (n:Nat) (env:Env) (e:Expr) (η:En) (σ:List AO) (Q:AV→List AO→Prop),xE W d T n e η σ Q→aW W d env e η σ Q:=by
 intro n
 induction n with
 | zero=>intro env e η σ Q h; exact h.elim
 | succ n ih =>
  intro env e η σ Q h
  have ih':∀ e σ Q,xE W d T n e η σ Q→aW W d env e η σ Q:=λ e σ Q=>ih env e η σ Q
  cases e with
  | Constant c k p=>cases c with
   | int=>exact aW.int h
   | bool=>exact aW.bool h
   | none=>exact aW.none h
   | _=>exact h.elim
  | Name x p=>exact aM h (λ v e q=>aW.name O (bV e) q) (λ _ h=>h.elim)
  | BinOp l op r p=>exact aW.binop ((ih' _ _ _ h).mono λ a aa q=>(ih' _ _ _ q).mono λ b aj q=>bK q (λ _ q=>wJ.mono q λ v s q=>sj (k:=λ v=>Q v s) q) Ge)
  | UnaryOp op x p=>exact aW.unop ((ih' _ _ _ h).mono λ a aa q=>J2 O q)
  | Compare l ops rs p=>cases ops with
   | nil=>exact h.elim
   | cons op ops=>cases ops with
    | nil=>cases rs with
     | nil=>exact h.elim
     | cons r rs=>cases rs with
      | nil =>
       have c:=aF h
       exact aW.cmp ((ih' _ _ _ c.2).mono λ a aa q=>(ih' _ _ _ q).mono λ b aj q=>bK q (λ _ q=>qn q) (Bj O)) (by simpa using c.1)
      | cons=>exact h.elim
    | cons=>exact h.elim
  | BoolOp op es p=>cases op with
   | And=>exact Gh O ih' _ _ _ h
   | Or=>exact J3 O ih' _ _ _ h
  | IfExp t b o p =>
   refine aW.Mp ((xy O ih' _ _ _ _ h).mono λ c aa q=>?_)
   obtain ⟨bc,e,q⟩:=q
   have q:=lV q
   cases c with
   | true=>exact ih' _ _ _ (q.1 e)
   | false=>exact ih' _ _ _ (q.2 e)
  | Tuple es k p =>
   have c:=aF h
   exact aW.tuple ((vU ih' _ _ _ (Bool.and_eq_true_iff.mp c.1).1 c.2).mono λ as aa q=>⟨Nat.le_of_ble_eq_true (aF q).1,(aF q).2⟩)
  | List es p =>
   have c:=aF h
   exact aW.list ((vU ih' _ _ _ c.1 c.2).mono λ as aa q=>⟨Nat.le_of_ble_eq_true (aF q).1,(aF q).2⟩)
  | Attribute o name p=>exact aW.Nl (sr (aF h).1) ((ih' _ _ _ (aF h).2).mono λ a aa q=>DZ O q)
  | Subscript v i p=>exact bK h (λ _ q=>Gu O q) λ q=>aW.sub (zA (aF q).1) ((ih' _ _ _ (aF q).2).mono λ a aa q=>(ih' _ _ _ q).mono λ b aj q=>bK q (λ _ q=>g8.mono q λ v s q=>sj (k:=λ v=>Q v s) q) Gg)
  | Call g args ks p=>cases ks with
   | nil =>
    refine aM h (λ e er hz=>?_) λ _ h=>?_
    · obtain ⟨x,y,p,q,r,e1,e2,hx,hy,hu⟩:=yd er
      subst e1 e2
      refine aW.listRev O hx hy hu ((ih' _ _ _ hz).mono λ a aa q=>?_)
      cases a with
      | lst m=>obtain ⟨xs,h1,h2,q⟩:=q; exact ⟨m,xs,rfl,h1,h2,q⟩
      | _=>exact q.elim
    exact J7 O ih' h
   | cons=>exact h.elim
  | ListComp elt gens scope p =>
   obtain ⟨x,px,it,ifs,rfl,h1,h2,h3,h4⟩:=Bp (env:=env) O ih (λ env e η σ Q h=>xy O (λ e σ Q=>ih env e η σ Q) _ _ _ _ h) h
   exact aW.DM O h1 h2 h4 h3
  | Dict ks vs p=>cases ks with
   | nil=>cases vs with
    | nil=>exact aW.MC h
    | cons=>exact h.elim
   | cons=>exact h.elim
  | _=>exact h.elim
theorem dZ (O:W.Ok) (n:Nat) (e:Expr) (η:En) (σ:List AO) (Q:AV→List AO→Prop) (h:xE W d T n e η σ Q):aW W d env e η σ Q:=An O n env e η σ Q h
theorem J8 (O:W.Ok) {n:Nat} {elt:Expr} {gens:List Comprehension} {scope:Scope} {p:Pos} {Q:AV→List AO→Prop} (h:xE W d T (n+1) (.ListComp elt gens scope p) η σ Q) :
 ∃ x px it ifs,gens=[⟨.Name x px,it,ifs,0⟩]∧cG scope η=true∧scope.names.lookup x=some .local∧(∀ x,foldedSetIterable it env x=pure x)∧qs W d env it η σ (CompI W d env η elt x ifs scope λ j σ'=>Q (.lst j) σ') :=
 Bp (env:=env) (f:=λ e η σ Q=>xE W d T n e η σ Q) (ft:=λ η e σ Q=>xT W d T η (λ e σ Q=>xE W d T n e η σ Q) n e σ Q) O (λ env e η σ Q h=>An O n env e η σ Q h) (λ env e η σ Q h=>xy O (λ e σ Q=>An O n env e η σ Q) _ _ _ _ h) h
end
noncomputable def Cu (R:Type):Kd→Type
 | .any=>AV→R
 | .yes=>AV→R
 | .no=>AV→R
 | .CX=>AV→R
 | .int=>Int→R
 | .bool=>Bool→R
 | .lst=>Nat→R
 | .inst _=>Nat→R
 | .tX=>Int→Int→R
 | .lW=>Int→Int→Int→R
 | .DP=>AV→Int→R
noncomputable def qb (R:Type):LA→Type
 | []=>R
 | p :: l=>match p.2 with
  | none=>qb R l
  | some k=>Cu (qb R l) k
def Ea {R:Type} (k:Kd) (I:Cu R k) (P:AV→R→Prop):Prop:=match k,I with
 | .any,I=>∀ a:AV,P a (I a)
 | .yes,I=>∀ a:AV,P a (I a)
 | .no,I=>∀ a:AV,P a (I a)
 | .CX,I=>∀ a:AV,P a (I a)
 | .int,I=>∀ a:Int,P (.int a) (I a)
 | .bool,I=>∀ a:Bool,P (.bool a) (I a)
 | .lst,I=>∀ a:Nat,P (.lst a) (I a)
 | .inst C,I=>∀ a:Nat,P (.inst C a) (I a)
 | .tX,I=>∀ a b:Int,P (.tup [.int a,.int b]) (I a b)
 | .lW,I=>∀ a b c:Int,P (.tup [.int a,.int b,.int c]) (I a b c)
 | .DP,I=>∀ (a:AV) (b:Int),P (.tup [a,.int b]) (I a b)
def RS {R:Type} (k:Kd) (v:AV) (I:Cu R k) (P:R→Prop):Prop:=match k,I with
 | .any,I=>P (I v)
 | .yes,I=>P (I v)
 | .no,I=>P (I v)
 | .CX,I=>P (I v)
 | .int,I=>dI v λ a=>P (I a)
 | .bool,I=>dB v λ a=>P (I a)
 | .lst,I=>dL v λ a=>P (I a)
 | .inst C,I=>dO C v λ a=>P (I a)
 | .tX,I=>d2 v λ a b=>P (I a b)
 | .lW,I=>d3 v λ a b c=>P (I a b c)
 | .DP,I=>dP v λ a b=>P (I a b)
noncomputable def vW:En→Str→Option AV→En
 | [],_,_=>[]
 | e :: r,x,o=>bif e.1==x then (e.1,e.2.1,o) :: r else e :: vW r x o
noncomputable def sW {R:Type}:(l:LA)→En→qb R l→(En→R→Prop)→Prop
 | [],η,I,P=>P η I
 | (x,none) :: l,η,I,P=>sW l (vW η x none) I P
 | (x,some k) :: l,η,I,P=>Ea k I λ v r=>sW l (vW η x (some v)) r P
noncomputable def zR {R:Type}:(l:LA)→En→qb R l→(R→Prop)→Prop
 | [],η,I,P=>P I
 | (x,none) :: l,η,I,P=>zR l η I P
 | (x,some k) :: l,η,I,P=>cJ (cF η x) (λ v=>RS k v I λ r=>zR l η r P) False
theorem J9 {R:Type} {k:Kd} {v:AV} {I:Cu R k} {P:R→Prop} (h:RS k v I P):∃ r,(∀ P',Ea k I P'→P' v r)∧P r:=by
 cases k with
 | any=>exact ⟨_,λ P' h=>h v,h⟩
 | yes=>exact ⟨_,λ P' h=>h v,h⟩
 | no=>exact ⟨_,λ P' h=>h v,h⟩
 | CX=>exact ⟨_,λ P' h=>h v,h⟩
 | int=>cases v with
  | int a=>exact ⟨_,λ P' h=>h a,h⟩
  | _=>exact h.elim
 | bool=>cases v with
  | bool a=>exact ⟨_,λ P' h=>h a,h⟩
  | _=>exact h.elim
 | lst=>cases v with
  | lst a=>exact ⟨_,λ P' h=>h a,h⟩
  | _=>exact h.elim
 | inst C=>cases v with
  | inst D a=>obtain ⟨rfl,h⟩:=h; exact ⟨_,λ P' h=>h a,h⟩
  | _=>exact h.elim
 | tX =>
  obtain ⟨l,rfl,h⟩:=xu h
  obtain ⟨x,l,rfl,h⟩:=mC h
  obtain ⟨y,l,rfl,h⟩:=mC h
  obtain ⟨rfl,h⟩:=xr h
  exact ⟨_,λ P' h=>h _ _,h⟩
 | lW =>
  obtain ⟨l,rfl,h⟩:=xu h
  obtain ⟨x,l,rfl,h⟩:=mC h
  obtain ⟨y,l,rfl,h⟩:=mC h
  obtain ⟨z,l,rfl,h⟩:=mC h
  obtain ⟨rfl,h⟩:=xr h
  exact ⟨_,λ P' h=>h _ _ _,h⟩
 | DP =>
  obtain ⟨l,rfl,h⟩:=xu h
  obtain ⟨x,l,rfl,h⟩:=HM h
  obtain ⟨y,l,rfl,h⟩:=mC h
  obtain ⟨rfl,h⟩:=xr h
  exact ⟨_,λ P' h=>h _ _,h⟩
theorem Cc {R:Type} {k:Kd} {I:Cu R k} {P P':AV→R→Prop} (h:∀ v r,P v r→P' v r) (q:Ea k I P):Ea k I P':=by
 cases k with
 | any=>exact λ a=>h _ _ (q a)
 | yes=>exact λ a=>h _ _ (q a)
 | no=>exact λ a=>h _ _ (q a)
 | CX=>exact λ a=>h _ _ (q a)
 | int=>exact λ a=>h _ _ (q a)
 | bool=>exact λ a=>h _ _ (q a)
 | lst=>exact λ a=>h _ _ (q a)
 | inst=>exact λ a=>h _ _ (q a)
 | tX=>exact λ a b=>h _ _ (q a b)
 | lW=>exact λ a b c=>h _ _ (q a b c)
 | DP=>exact λ a b=>h _ _ (q a b)
theorem Eb {R:Type} {k:Kd} {I:Cu R k} {P:AV→R→Prop} (h:∀ v r,P v r):Ea k I P:=by
 cases k with
 | any=>exact λ a=>h _ _
 | yes=>exact λ a=>h _ _
 | no=>exact λ a=>h _ _
 | CX=>exact λ a=>h _ _
 | int=>exact λ a=>h _ _
 | bool=>exact λ a=>h _ _
 | lst=>exact λ a=>h _ _
 | inst=>exact λ a=>h _ _
 | tX=>exact λ a b=>h _ _
 | lW=>exact λ a b c=>h _ _
 | DP=>exact λ a b=>h _ _
inductive Ag (al:List Str):En→En→Prop
 | nil:Ag al [] []
 | cons {x:Str} {k:NK} {v v':Option AV} {η η':En}:(v=v'∨x∈al)→Ag al η η'→Ag al ((x,k,v) :: η) ((x,k,v') :: η')
theorem Ag.refl {al:List Str}:∀ η:En,Ag al η η
 | []=>.nil
 | (_,_,_) :: η=>.cons (.inl rfl) (Ag.refl η)
theorem Ag.trans {al:List Str} {η₁ η₂:En} (h:Ag al η₁ η₂):∀ {η₃:En},Ag al η₂ η₃→Ag al η₁ η₃:=by
 induction h with
 | nil=>intro _ h; exact h
 | cons e _ ih =>
  intro η₃ h
  cases h with | cons e' h =>
  refine .cons ?_ (ih h)
  rcases e with e | e
  · rcases e' with e' | e'
    · exact .inl (e.trans e')
    · exact .inr e'
  · exact .inr e
theorem Ag.mono {al al':List Str} (hs:∀ x∈al,x∈al') {η₁ η₂:En} (h:Ag al η₁ η₂):Ag al' η₁ η₂:=by
 induction h with
 | nil=>exact .nil
 | cons e _ ih=>exact .cons (e.imp id (hs _)) ih
theorem Up.ag {x:Str} {v:AV} {η η':En} (h:Up η x v η') {al:List Str} (hx:x∈al):Ag al η η':=by
 induction h with
 | loc=>exact .cons (.inr hx) (Ag.refl _)
 | vM=>exact .cons (.inr hx) (Ag.refl _)
 | @tl x v y η η' _ ih=>obtain ⟨_,_,_⟩:=y; exact .cons (.inl rfl) (ih hx)
theorem ye {x:Str} {o:Option AV} {al:List Str} (hx:x∈al):∀ η:En,Ag al η (vW η x o)
 | []=>.nil
 | (y,k,v) :: r=>by
  show Ag al ((y,k,v) :: r) (bif y==x then (y,k,o) :: r else (y,k,v) :: vW r x o)
  cases e:y==x with
  | true=>have:=beq_iff_eq.mp e; subst this; exact .cons (.inr hx) (Ag.refl r)
  | false=>exact .cons (.inl rfl) (ye hx r)
theorem yf {R:Type}:∀ (l:LA) (η:En) (I:qb R l) (al:List Str),(∀ p∈l,p.1∈al)→sW l η I λ η₁ _=>Ag al η η₁
 | [],η,I,al,_=>Ag.refl η
 | (x,none) :: l,η,I,al,h=>qo (yf l _ I al λ p hp=>h p (.tail _ hp)) λ η₁ r z=>(ye (h _ (.head _)) η).trans z
 | (x,some k) :: l,η,I,al,h=>Eb λ v r=>qo (yf l _ r al λ p hp=>h p (.tail _ hp)) λ η₁ r z=>(ye (h _ (.head _)) η).trans z
where
 qo {R:Type}:∀ {l:LA} {η:En} {I:qb R l} {P P':En→R→Prop},sW l η I P→(∀ η r,P η r→P' η r)→sW l η I P'
  | [],_,_,_,_,q,h=>h _ _ q
  | (x,none) :: l,_,_,_,_,q,h=>qo (l:=l) q h
  | (x,some k) :: l,_,_,_,_,q,h=>Cc (λ v r q=>qo (l:=l) q h) q
inductive WL (al:List Str):En→En→Prop
 | nil:WL al [] []
 | cons {x:Str} {k:NK} {v v':Option AV} {η η':En}:(v=none∨v=v'∨x∈al)→WL al η η'→WL al ((x,k,v) :: η) ((x,k,v') :: η')
theorem Ag.wl {al:List Str} {η₁ η₂:En} (h:Ag al η₁ η₂):WL al η₁ η₂:=by
 induction h with
 | nil=>exact .nil
 | cons e _ ih=>exact .cons (.inr e) ih
theorem WL.wk {η₁ η₂:En} (h:WL [] η₁ η₂):Wk η₁ η₂:=by
 induction h with
 | nil=>exact .nil
 | cons e _ ih =>
  rcases e with rfl | rfl | e
  · exact .drop ih
  · exact .keep ih
  · cases e
theorem WL.strip {x:Str} {al:List Str} {η₁ η₂:En} (h:WL (x :: al) η₁ η₂):x∉η₁.map (·.1)→WL al η₁ η₂:=by
 induction h with
 | nil=>intro _; exact .nil
 | cons e _ ih =>
  intro hx
  rw [List.map_cons,List.mem_cons,not_or] at hx
  refine .cons ?_ (ih hx.2)
  rcases e with e | e | e
  · exact .inl e
  · exact .inr (.inl e)
  · rcases List.mem_cons.mp e with e | e
    · exact absurd e.symm hx.1
    · exact .inr (.inr e)
theorem WL.upd {x:Str} {o:Option AV} {al:List Str} {η₁ η₂:En} (h:WL (x :: al) η₁ η₂):(η₁.map (·.1)).Nodup→(o=none∨o=cF η₂ x)→WL al (vW η₁ x o) η₂:=by
 induction h with
 | nil=>intro _ _; exact .nil
 | @cons y k v v' η η' e t ih =>
  intro nd ho
  rw [List.map_cons,List.nodup_cons] at nd
  show WL al (bif y==x then (y,k,o) :: η else (y,k,v) :: vW η x o) _
  unfold cF at ho
  cases hy:y==x with
  | true =>
   have:=beq_iff_eq.mp hy; subst this
   simp only [beq_self_eq_true,if_true] at ho
   exact .cons (ho.imp id .inl) (t.strip nd.1)
  | false =>
   rw [if_neg (by rw [hy]; exact Bool.false_ne_true)] at ho
   refine .cons ?_ (ih nd.2 ho)
   rcases e with e | e | e
   · exact .inl e
   · exact .inr (.inl e)
   · rcases List.mem_cons.mp e with e | e
     · rw [e,beq_self_eq_true] at hy; cases hy
     · exact .inr (.inr e)
theorem vX (η:En) (x:Str) (o:Option AV):(vW η x o).map (·.1)=η.map (·.1):=by
 induction η with
 | nil=>rfl
 | cons e r ih =>
  show List.map (·.1) (bif e.1==x then (e.1,e.2.1,o) :: r else e :: vW r x o)=_
  cases e.1==x with
  | true=>rfl
  | false=>show _ :: _=_; rw [ih]; rfl
theorem Ec {R:Type} {η':En}:∀ (l:LA) (η:En) (I:qb R l) (P:R→Prop),(η.map (·.1)).Nodup→WL (l.map (·.1)) η η'→zR l η' I P→∃ η₁ r,(∀ P',sW l η I P'→P' η₁ r)∧P r∧Wk η₁ η'
 | [],η,I,P,nd,w,h=>⟨η,I,λ P' h=>h,h,w.wk⟩
 | (x,none) :: l,η,I,P,nd,w,h=>Ec l (vW η x none) I P (by rw [vX]; exact nd) (w.upd nd (.inl rfl)) h
 | (x,some k) :: l,η,I,P,nd,w,h=>by
  refine aM (α:=AV) h (λ v e h=>?_) λ _ h=>h.elim
  obtain ⟨r,h1,h2⟩:=J9 h
  obtain ⟨η₁,r',h3,h4,h5⟩:=Ec l (vW η x (some v)) r P (by rw [vX]; exact nd) (w.upd nd (.inr e.symm)) h2
  exact ⟨η₁,r',λ P' h=>h3 _ (h1 _ h),h4,h5⟩
noncomputable def gw:List Expr→Option (List Str)
 | []=>some []
 | e :: r=>match e with
  | .Name x _=>(match gw r with
   | some ns=>some (x :: ns)
   | none=>none)
  | _=>none
noncomputable def Nq (e:Expr):List Str:=(Al e).elim (((DT e).bind gw).getD []) λ x=>[x]
noncomputable def yg (t:Expr) (l:LA):LA:=(Nq t).map (λ x=>(x,none))++l
noncomputable def Ka (l:LA) (al:List Str):Bool:=l.all λ p=>al.contains p.1
noncomputable def sX (e:Expr):Bool:=tg e 23||(tg e 20||(tg e 16||(tg e 21||tg e 24)))
def Kc (names:List Str) (η:En) (v:AV) (k:En→Prop):Prop:=cJ (J0 v) (λ vs=>lz (Nat.beq names.length vs.length) (cJ (fJ names vs η) k False)) False
def HT (names:List Str) (η:En) (v:AV) (k:En→Prop):Prop:=cJ (J0 v) (λ vs=>lz (Nat.beq vs.length names.length) (cJ (fJ names.reverse vs.reverse η) k False)) False
def Ed (al:List Str) (η:En) (x:Str) (v:AV) (k:En→Prop):Prop:=lz (al.contains x) (cJ (p9 η x v) k False)
def Ef (al:List Str) (t:Expr) (v:AV) (η:En) (k:En→Prop):Prop:=match t with
 | .Name x _=>Ed al η x v k
 | .Tuple es _ _=>cJ (gw es) (λ ns=>lz (ns.all al.contains) (Kc ns η v k)) False
 | _=>False
def goN (k:En→List AO→Prop) (Q:Fl→En→List AO→Prop):Fl→En→List AO→Prop:=λ fl η σ=>match fl with
 | .next=>k η σ
 | .brk=>Q .brk η σ
 | .cont=>Q .cont η σ
 | .ret v=>Q (.ret v) η σ
def Bq (nx bk:En→List AO→Prop) (Q:Fl→En→List AO→Prop):Fl→En→List AO→Prop:=λ fl η σ=>match fl with
 | .next=>nx η σ
 | .cont=>nx η σ
 | .brk=>bk η σ
 | .ret v=>Q (.ret v) η σ
section
variable (W:Wl) (d:Nat) (env:Env) (T:Tab)
noncomputable def Eg (t:Sem Bool):Bool:=match t with
 | .pure true=>true
 | _=>false
noncomputable def Nr (e:Expr):Bool:=tg e 8
def Gv (n:Nat) (al:List Str) (t:Expr) (e:Expr) (pos:Pos) (η:En) (σ:List AO) (k:En→List AO→Prop):Prop:=match t with
 | .Name x p=>lz (xq (swapsWith e (some (.Name x p)) pos.line env)||(Nr e&&Eg (swapsWith e (some (.Name x p)) pos.line env))) (xE W d T n e η σ λ v aa=>Ed al η x v λ η'=>k η' aa)
 | .Tuple elts j tpos=>lz (xq (swapsWithSole [.Tuple elts j tpos] e pos.line env)) (cJ (Bg (swappedStores [.Tuple elts j tpos] e env)) (λ r=>match r with
  | none=>cJ (gw elts) (λ names=>lz (names.all al.contains) (xE W d T n e η σ λ v aa=>Kc names η v λ η'=>k η' aa)) False
  | some names=>lz (names.all al.contains) (xE W d T n e η σ λ v aa=>HT names η v λ η'=>k η' aa)) False)
 | .Attribute o name p=>lz (xq (swapsWith e (some (.Attribute o name p)) pos.line env)) (xE W d T n e η σ λ v aa=>xE W d T n o η aa λ a aj=>Nt a name v aj λ aE=>k η aE)
 | .Subscript o i p=>lz (xq (swapsWith e (some (.Subscript o i p)) pos.line env)) (xE W d T n e η σ λ v aa=>xE W d T n o η aa λ a aj=>xE W d T n i η aj λ b aE=>HU a b v aE λ cH=>k η cH)
 | _=>False
where
 Nt (a:AV) (name:Str) (v:AV) (σ:List AO) (k:List AO→Prop):Prop:=match a with
  | .inst C m=>lz (setOk W.K C name) (∃ fs,σ[m]? = some (.inst fs)∧fs.length<1000∧k (σ.set m (.inst (aO name v fs))))
  | a=>wM W d a name v σ k
 HU (a b v:AV) (σ:List AO) (k:List AO→Prop):Prop:=match a with
  | .lst m=>dI b λ i=>∃ xs,σ[m]? = some (.lst xs)∧0≤i∧i<xs.length∧i<1000000∧k (σ.set m (.lst (xs.set i.toNat v)))
  | .dct m=>dI b λ i=>∃ es,σ[m]? = some (.dct es)∧es.length≤1000000∧k (σ.set m (.dct (putD i v es)))
  | a=>ly W d a b v σ k
end
noncomputable def HV (η:En) (t it:Expr):Option (Expr×Expr):=(DT t).bind λ _=>(Ak it).bind λ p=>(Al p.1).bind λ x=>(Nb p.2).bind λ q=>if Bh "zip" (cF η x)&&(aB q.1&&aB q.2) then some q else none
section
variable (f:Wl→List Str→List Stmt→En→List AO→(Fl→En→List AO→Prop)→Prop) (W:Wl) (al:List Str) (t:Expr) (b rest:List Stmt) (Q:Fl→En→List AO→Prop)
def Nu {R:Type} (l:LA) (I:qb R l) (nx:R→List AO→Prop) (v:AV) (η₁:En) (aj:List AO):Prop:=Ef (l.map (·.1)) t v η₁ λ η₂=>f W (l.map (·.1)) b η₂ aj (Bq (λ η' σ'=>zR l η' I λ R'=>nx R' σ') (λ η' σ'=>f W al rest η' σ' Q) Q)
def HW (l:LA) (K:Kd) (η:En) (m:Nat) (ys:List (Ty K)) (I:qb (Nat→List AO→Prop) l):Prop:=sW l η I λ η₁ R=>∀ i aj,R i aj→(∀ j y,i=j+1→ys[j]? = some y→aj[m]? = some (.lst (ys.map (yc K)))∧Nu f W al t b rest Q l I (λ R' σ'=>R' j σ') (yc K y) η₁ aj)∧(i=0→f W al rest η₁ aj Q)
def HX (l:LA) (η:En) (I:qb (Nat→List AO→Prop) l):Prop:=sW l η I λ η₁ R=>∀ i aj,R i aj→(∀ j,i=j+1→Nu f W al t b rest Q l I (λ R' σ'=>R' j σ') (.int (j:Int)) η₁ aj)∧(i=0→f W al rest η₁ aj Q)
def Qj (l:LA) (K:Kd) (η:En) (m₁ m₂:Nat) (ys zs:List (Ty K)) (I:qb (Nat→List AO→Prop) l):Prop:=sW l η I λ η₁ R=>∀ i aj,R i aj→aj[m₁]? = some (.lst (ys.map (yc K)))∧aj[m₂]? = some (.lst (zs.map (yc K)))∧(∀ y z,ys[i]? = some y→zs[i]? = some z→∀ tt:Nat,Ef (l.map (·.1)) t (.tup [yc K y,yc K z]) η₁ λ η₂ =>
 f (W.hide tt) (l.map (·.1)) b η₂ aj (Bq (λ η' σ'=>zR l η' I λ R'=>R' (i+1) σ') (λ _ _=>False) λ _ _ _=>False))∧(i=ys.length→f W al rest η₁ aj Q)
def Nv (l:LA) (η:En) (b' c:Int) (I:qb (Int→List AO→Prop) l):Prop:=sW l η I λ η₁ R=>∀ i aj,R i aj→(i<b'→Nu f W al t b rest Q l I (λ R' σ'=>R' (i+c) σ') (.int i) η₁ aj)∧(b'≤i→f W al rest η₁ aj Q)
def Nx (l:LA) (K:Kd) (η:En) (m:Nat) (ys:List (Ty K)) (I:qb (Nat→List AO→Prop) l):Prop:=sW l η I λ η₁ R=>∀ i aj,R i aj→aj[m]? = some (.lst (ys.map (yc K)))∧(∀ y,ys[i]? = some y→Nu f W al t b rest Q l I (λ R' σ'=>R' (i+1) σ') (yc K y) η₁ aj)∧(i=ys.length→f W al rest η₁ aj Q)
def HY (l:LA) (K:Kd) (η:En) (a:AV) (aa:List AO):Prop:=match a with
 | .lst m=>∃ ys:List (Ty K),aa[m]? = some (.lst (ys.map (yc K)))∧ys.length≤1000000∧∃ I:qb (Nat→List AO→Prop) l,zR l η I (λ R=>R ys.length aa)∧HW f W al t b rest Q l K η m ys I
 | .gO x y c=>lz (decide (x=0)&&decide (c=1)) (0≤y∧y≤1000000∧∃ I:qb (Nat→List AO→Prop) l,zR l η I (λ R=>R y.toNat aa)∧HX f W al t b rest Q l η I)
 | _=>False
def HZ (l:LA) (K:Kd) (η:En) (m₁ m₂:Nat) (aa:List AO):Prop:=∃ ys zs:List (Ty K),ys.length=zs.length∧∃ I:qb (Nat→List AO→Prop) l,zR l η I (λ R=>R 0 aa)∧Qj f W al t b rest Q l K η m₁ m₂ ys zs I
def Ia (l:LA) (K:Kd) (η:En) (a:AV) (aa:List AO):Prop:=match a with
 | .gO a b' c=>lz (decide (0<c)) (Builtin.Range.small a b' c=true∧∃ I:qb (Int→List AO→Prop) l,zR l η I (λ R=>R a aa)∧Nv f W al t b rest Q l η b' c I)
 | .lst m=>∃ ys:List (Ty K),aa[m]? = some (.lst (ys.map (yc K)))∧∃ I:qb (Nat→List AO→Prop) l,zR l η I (λ R=>R 0 aa)∧Nx f W al t b rest Q l K η m ys I
 | _=>False
def Ny (ts:En→List AO→(BC→List AO→Prop)→Prop) (l:LA) (η:En) (I:qb (Nat→List AO→Prop) l):Prop:=sW l η I λ η₁ R=>∀ m aa,R m aa →
 ts η₁ aa λ c aj=>wC c (f W (l.map (·.1)) b η₁ aj (Bq (λ η' σ'=>zR l η' I λ R'=>∃ m',m'<m∧R' m' σ') (λ η' σ'=>f W al rest η' σ' Q) Q)) (f W al rest η₁ aj Q)
end
noncomputable def Ib (W:Wl) (env:Env) (name:Str) (params:Arguments) (scope:Scope) (pos:Pos):Bool:=params.defaults.isEmpty&&params.kw_defaults.isEmpty&&(annTrees params none env).isEmpty&&(scope.names.all λ x=>!(x.2==.free))&&(wH env.code).any λ c=>W.tabs.any λ q=>Nat.beq q.1 c&&Nat.beq q.2.2.1 pos.line&&Nat.beq q.2.2.2 pos.col
section
variable (d:Nat) (env:Env) (T:Tab)
noncomputable def xX:Nat→Wl→List Str→List Stmt→En→List AO→(Fl→En→List AO→Prop)→Prop
 | 0,W,al,ss,η,σ,Q=>False
 | n+1,W,al,ss,η,σ,Q=>match ss with
  | []=>Q .next η σ
  | st :: rest=>match st with
   | .Assign ts e pos=>(match ts with
    | []=>False
    | t :: more=>(match more with
     | []=>Gv W d env T n al t e pos η σ λ η' σ'=>xX n W al rest η' σ' Q
     | _ :: _=>False))
   | .AugAssign t op e pos=>(match t with
    | .Name x p=>cJ (cF η x) (λ Ff=>xE W d T n e η σ λ v aa=>M6 W d op Ff v aa λ r aj=>Ed al η x r λ η'=>xX n W al rest η' aj Q) False
    | _=>False)
   | .Return e pos=>(match e with
    | some e=>xE W d T n e η σ λ a aa=>Q (.ret a) η aa
    | none=>Q (.ret .none) η σ)
   | .If t b o pos=>xT W d T η (λ e σ Q=>xE W d T n e η σ Q) n t σ λ c aa=>wC c (xX n W al b η aa (goN (λ η' σ'=>xX n W al rest η' σ' Q) Q)) (xX n W al o η aa (goN (λ η' σ'=>xX n W al rest η' σ' Q) Q))
   | .Assert t m pos=>xT W d T η (λ e σ Q=>xE W d T n e η σ Q) n t σ λ c σ'=>wC c (xX n W al rest η σ' Q) False
   | .Expr e pos=>lz (!interactive env&&xq (swapsWith e none pos.line env)) (xE W d T n e η σ λ _ σ'=>xX n W al rest η σ' Q)
   | .Pass pos=>xX n W al rest η σ Q
   | .Break pos=>Q .brk η σ
   | .FunctionDef name params _ decs Nz tps scope tscope bind pos=>lz (decs.isEmpty&&Nz.isNone&&tps.isEmpty&&tscope.isNone&&name==bind&&Ib W env name params scope pos) (∀ v:Value,Ed al η name (.cst v) λ η'=>xX n W al rest η' σ Q)
   | .While t b o pos=>cJ (T.loop pos.line) (λ la=>lz (o.isEmpty&&Ka la.1 al) (∃ I:qb (Nat→List AO→Prop) la.1,zR la.1 η I (λ R=>∃ m,R m σ) ∧
    Ny (λ W al ss η σ Q=>xX n W al ss η σ Q) W al b rest Q (λ η₁ aa Q=>xT W d T η₁ (λ e σ Q=>xE W d T n e η₁ σ Q) n t aa Q) la.1 η I)) False
   | .For t it b o pos=>cJ (T.loop pos.line) (λ la=>lz (o.isEmpty&&Ka (yg t la.1) al&&sX it) (cJ (DW η it)
    (λ e=>xE W d T n e η σ λ a aa=>HY (λ W al ss η σ Q=>xX n W al ss η σ Q) W al t b rest Q (yg t la.1) la.2 η a aa)
    (cJ (HV η t it) (λ p=>xE W d T n p.1 η σ λ a zO=>dL a λ m₁=>xE W d T n p.2 η zO λ KW aa=>dL KW λ m₂=>HZ (λ W al ss η σ Q=>xX n W al ss η σ Q) W al t b rest Q (yg t la.1) la.2 η m₁ m₂ aa)
    (xE W d T n it η σ λ a aa=>Ia (λ W al ss η σ Q=>xX n W al ss η σ Q) W al t b rest Q (yg t la.1) la.2 η a aa)))) False
   | st=>False
end
section
variable {W:Wl} {d:Nat} {env:Env} {T:Tab} {η:En} {σ:List AO}
theorem cM.mono {st:Stmt} {Q Q':Fl→En→List AO→Prop} (h:cM W d env st η σ Q) (q:∀ fl η' σ',Q fl η' σ'→Q' fl η' σ'):cM W d env st η σ Q':=λ A s ρ hr R F =>
 ic (h A s ρ hr R F) λ _ _ p=>p.mono λ _ _ _ ⟨fl,η',a,b,c⟩=>⟨fl,η',a,b,q _ _ _ c⟩
theorem dD.mono {st:List Stmt} {Q Q':Fl→En→List AO→Prop} (h:dD W d env st η σ Q) (q:∀ fl η' σ',Q fl η' σ'→Q' fl η' σ'):dD W d env st η σ Q':=λ A s ρ hr R F =>
 ic (h A s ρ hr R F) λ _ _ p=>p.mono λ _ _ _ ⟨fl,η',a,b,c⟩=>⟨fl,η',a,b,q _ _ _ c⟩
theorem cM.nd {st:Stmt} {Q:Fl→En→List AO→Prop} (h:(η.map (·.1)).Nodup→cM W d env st η σ Q):cM W d env st η σ Q:=λ A s ρ hr R F=>h F.ok.nd A s ρ hr R F
theorem yO.mono {t:Expr} {v:AV} {Q Q':En→List AO→Prop} (h:yO W d env t v η σ Q) (q:∀ η' σ',Q η' σ'→Q' η' σ'):yO W d env t v η σ Q':=λ A s ρ w hr R F hv =>
 ic (h A s ρ w hr R F hv) λ _ _ p=>p.mono λ _ _ _ ⟨η',a,b⟩=>⟨η',a,q _ _ b⟩
theorem wM.mono {a v:AV} {name:Str} {Q Q':List AO→Prop} (h:wM W d a name v σ Q) (q:∀ σ',Q σ'→Q' σ'):wM W d a name v σ Q':=λ A s ρ ov w hr R hv hw =>
 ic (h A s ρ ov w hr R hv hw) λ _ _ p=>p.mono λ _ _ _ z=>q _ z
theorem ly.mono {a b v:AV} {Q Q':List AO→Prop} (h:ly W d a b v σ Q) (q:∀ σ',Q σ'→Q' σ'):ly W d a b v σ Q':=λ A s ρ x y z hr R hv hw hz =>
 ic (h A s ρ x y z hr R hv hw hz) λ _ _ p=>p.mono λ _ _ _ z=>q _ z
theorem qp {al:List Str}:∀ (ns:List Str) (vs:List AV) (η η':En),fJ ns vs η=some η'→(∀ x∈ns,x∈al)→Ag al η η'
 | [],[],η,η',h,_=>by refine sE h ?_; exact Ag.refl _
 | x :: ns,v :: vs,η,η',h,ha=>by
  obtain ⟨η₁,e,h⟩:=cC (show ((p9 η x v).bind λ η'=>fJ ns vs η')=some η' from h)
  exact ((gu e).ag (ha _ (.head _))).trans (qp ns vs η₁ η' h λ y hy=>ha y (.tail _ hy))
 | [],_ :: _,_,_,h,_=>by exact aT h
 | _ :: _,[],_,_,h,_=>by exact aT h
theorem Eh (elts:List Expr):∀ (names:List Str),gw elts=some names→∀ (vs:List AV) (η η':En) (σ:List AO) (Q:En→List AO→Prop),fJ names vs η=some η'→Q η' σ→rX W d env elts vs η σ Q∧elts.all aB=true∧elts.length=names.length:=by
 induction elts with
 | nil =>
  intro names h vs η η' σ Q hs q
  cases h
  cases vs with
  | nil=>cases hs; exact ⟨rX.nil q,rfl,rfl⟩
  | cons=>exact aT hs
 | cons e r ih =>
  intro names h vs η η' σ Q hs q
  cases e with
  | Name x p =>
   have h:(match gw r with
    | some ns=>some (x :: ns)
    | none=>none)=some names:=h
   cases e1:gw r with
   | none=>rw [e1] at h; exact aT h
   | some ns =>
    rw [e1] at h; cases h
    cases vs with
    | nil=>cases hs
    | cons v vs =>
     obtain ⟨η₁,e2,hs⟩:=cC (show ((p9 η x v).bind λ η'=>fJ ns vs η')=some η' from hs)
     have z:=ih ns e1 vs η₁ η' σ Q hs q
     exact ⟨rX.cons (yO.name (gu e2) z.1) rfl,by rw [List.all_cons,z.2.1]; rfl,by rw [List.length_cons,List.length_cons,z.2.2]⟩
  | _=>exact aT h
theorem mem_of {al:List Str} {x:Str} (h:al.contains x=true):x∈al:=by simpa using h
theorem sy {al:List Str} {x:Str} {v:AV} {k:En→Prop} (h:Ed al η x v k):∃ η',Up η x v η'∧Ag al η η'∧k η':=by
 have c:=aF h
 exact aM c.2 (λ η' e q=>⟨η',gu e,(gu e).ag (mem_of c.1),q⟩) λ _ h=>h.elim
inductive NB (names:List Str) (η:En) (v:AV) (k:En→Prop):Prop
 | mk (vs:List AV) (η':En) (e:v=.tup vs) (l:names.length=vs.length) (s:fJ names vs η=some η') (q:k η'):NB names η v k
theorem Br {names:List Str} {v:AV} {k:En→Prop} (h:Kc names η v k):NB names η v k :=
 aM h (λ vs e h=>aM (aF h).2 (λ η' e3 q=>⟨vs,η',Bo e,Nat.eq_of_beq_eq_true (aF h).1,e3,q⟩) λ _ h=>h.elim) λ _ h=>h.elim
inductive Ic (names:List Str) (η:En) (v:AV) (k:En→Prop):Prop
 | mk (vs:List AV) (η':En) (e:v=.tup vs) (l:vs.length=names.length) (s:fJ names.reverse vs.reverse η=some η') (q:k η'):Ic names η v k
theorem Ei {names:List Str} {v:AV} {k:En→Prop} (h:HT names η v k):Ic names η v k :=
 aM h (λ vs e h=>aM (aF h).2 (λ η' e3 q=>⟨vs,η',Bo e,Nat.eq_of_beq_eq_true (aF h).1,e3,q⟩) λ _ h=>h.elim) λ _ h=>h.elim
theorem zD {al:List Str} {t:Expr} {v:AV} {k:En→Prop} (h:Ef al t v η k):yO W d env t v η σ λ η' σ'=>σ'=σ∧Ag al η η'∧k η':=by
 cases t with
 | Name x p=>obtain ⟨η',u,a,q⟩:=sy h; exact yO.name u ⟨rfl,a,q⟩
 | Tuple es j p =>
  refine aM h (λ ns e h=>?_) λ _ h=>h.elim
  obtain ⟨vs,η',rfl,l,e3,q⟩:=Br (aF h).2
  have z:=Eh (W:=W) (d:=d) (env:=env) es ns e vs η η' σ (λ η' σ'=>σ'=σ∧Ag al η η'∧k η') e3 ⟨rfl,qp _ _ _ _ e3 (by simpa using (aF h).1),q⟩
  exact yO.tuple z.1 (by rw [z.2.2,l]) z.2.1
 | _=>exact h.elim
theorem Cd {t:Sem Bool} (h:Eg t=true):t=pure true:=by
 cases t with
 | pure b=>cases b with
  | true=>rfl
  | false=>exact cS h
 | _=>exact cS h
theorem qs.mono {e:Expr} {Q Q':dQ→List AO→Prop} (h:qs W d env e η σ Q) (q:∀ k σ',Q k σ'→Q' k σ'):qs W d env e η σ Q':=λ A s ρ hr R F =>
 wpAny_mono (h A s ρ hr R F) (λ x eO h₁=>wpAny_mono h₁ (λ it ia br=>br.mono λ _ _ _ ⟨I,k,a,b,c,z⟩=>⟨I,k,a,b,c,q _ _ z⟩) λ _ _ x=>x) λ _ _ x=>x
theorem CompI.mono {elt:Expr} {x:Str} {ifs:List Expr} {scope:Scope} {Fin Fin':Nat→List AO→Prop} {k:dQ} (h:CompI W d env η elt x ifs scope Fin k σ) (q:∀ j σ',Fin j σ'→Fin' j σ'):CompI W d env η elt x ifs scope Fin' k σ:=by
 obtain ⟨h1,Inv,h2,h3⟩:=h
 refine ⟨h1,Inv,h2,λ C n k σ' hI=>?_⟩
 have z:=h3 C n k σ' hI
 cases hn:k.next σ' with
 | none=>rw [hn] at z; exact z
 | some r=>cases r with
  | none=>rw [hn] at z; exact q _ _ z
  | some r=>rw [hn] at z; exact z
theorem Gw {e:Expr} (h:Nr e=true):∃ elt gens scope p,e=.ListComp elt gens scope p:=Expr.ListComp.elim (motive_1:=λ e=>∃ elt gens scope p,e=.ListComp elt gens scope p) e (yP h) λ elt gens scope p=>⟨elt,gens,scope,p,rfl⟩
theorem zE (x:Str) (v:AV) (fs:List (Str×AV)):(aO x v fs).length≤fs.length+1:=by
 induction fs with
 | nil=>exact Nat.le_refl _
 | cons p r ih =>
  unfold aO
  split
  · exact Nat.le_succ _
  · exact Nat.succ_le_succ ih
theorem Gx (O:W.Ok) {a v:AV} {name:Str} {k:List AO→Prop} (h:Gv.Nt W d a name v σ k):wM W d a name v σ k:=by
 cases a with
 | inst C m =>
  obtain ⟨fs,e,hl,q⟩:=(aF h).2
  exact wM.field O e (aF h).1 (Nat.le_trans (zE _ _ _) hl) q
 | _=>exact h
theorem Ej {a b v:AV} {k:List AO→Prop} (h:Gv.HU W d a b v σ k):ly W d a b v σ k:=by
 cases a with
 | lst m =>
  cases b with
  | int i=>obtain ⟨xs,e,h0,h1,h2,q⟩:=h; exact ly.list e h0 h1 h2 q
  | _=>exact False.elim h
 | dct m =>
  cases b with
  | int i=>obtain ⟨es,e,h0,q⟩:=h; exact ly.dct e h0 q
  | _=>exact False.elim h
 | _=>exact h
theorem Gy (O:W.Ok) {n:Nat} {al:List Str} {t e:Expr} {pos:Pos} {k:En→List AO→Prop} (h:Gv W d env T n al t e pos η σ k):cM W d env (.Assign [t] e pos) η σ λ fl η' σ'=>fl=.next∧Ag al η η'∧k η' σ':=by
 cases t with
 | Name x p =>
  have c:=aF h
  rcases Bool.or_eq_true_iff.mp c.1 with c1 | c1
  · refine cM.assign ((dZ O _ _ _ _ _ c.2).mono λ v aa q=>?_) (lA c1)
    obtain ⟨η',u,a,z⟩:=sy q
    exact ⟨η',u,rfl,a,z⟩
  · have c1:=Bool.and_eq_true_iff.mp c1
    obtain ⟨elt,gens,scope,lp,rfl⟩:=Gw c1.1
    cases n with
    | zero=>exact c.2.elim
    | succ n =>
     obtain ⟨y,py,it,ifs,rfl,h1,h2,h3,h4⟩:=J8 (env:=env) O c.2
     refine cM.Aj O h1 h2 (Cd c1.2) (h4.mono λ k aa q=>q.mono λ j σ' q=>?_) h3
     obtain ⟨η',u,a,z⟩:=sy q
     exact ⟨η',u,rfl,a,z⟩
 | Tuple elts j tpos =>
  have c:=aF h
  refine aM c.2 (λ r e1 h=>?_) λ _ h=>h.elim
  cases r with
  | none =>
   refine aM h (λ names e2 h=>?_) λ _ h=>h.elim
   have cn:=aF h
   refine cM.Dz (lA c.1) (vR e1) ((dZ O _ _ _ _ _ cn.2).mono λ v aa q=>?_)
   obtain ⟨vs,η',rfl,l,e3,q'⟩:=Br q
   have z:=Eh (W:=W) (d:=d) (env:=env) elts names e2 vs η η' aa (λ η' aj=>Fl.next=.next∧Ag al η η'∧k η' aj) e3 ⟨rfl,qp _ _ _ _ e3 (by simpa using cn.1),q'⟩
   exact yO.tuple z.1 (by rw [z.2.2,l]) z.2.1
  | some names =>
   have cn:=aF h
   refine cM.Ae (lA c.1) (vR e1) ((dZ O _ _ _ _ _ cn.2).mono λ v aa q=>?_)
   obtain ⟨vs,η',rfl,l,e3,q'⟩:=Ei q
   exact ⟨_,η',rfl,l,e3,rfl,qp _ _ _ _ e3 (by simpa using cn.1),q'⟩
 | Attribute o name p =>
  have c:=aF h
  exact cM.setattr (lA c.1) ((dZ O _ _ _ _ _ c.2).mono λ v aa q=>(dZ O _ _ _ _ _ q).mono λ a aj q=>wM.mono (Gx O q) λ aE q=>⟨rfl,Ag.refl _,q⟩)
 | Subscript o i p =>
  have c:=aF h
  exact cM.F1 (lA c.1) ((dZ O _ _ _ _ _ c.2).mono λ v aa q=>(dZ O _ _ _ _ _ q).mono λ a aj q=>(dZ O _ _ _ _ _ q).mono λ b aE q=>ly.mono (Ej q) λ cH q=>⟨rfl,Ag.refl _,q⟩)
 | _=>exact h.elim
theorem Ke {c:Bool} {A B:Prop} (h:∃ bc,BC.val bc=c∧wC bc A False) (k:A→B):c=true∧B:=by
 obtain ⟨bc,e,q⟩:=h
 have q:=lV q
 cases c with
 | true=>exact ⟨rfl,k (q.1 e)⟩
 | false=>exact (q.2 e).elim
theorem Ek {e:Expr} {es:List Expr} (h:DT e=some es):∃ k q,e=.Tuple es k q:=by
 obtain ⟨hp,h⟩:=BS h
 exact Expr.Tuple.elim (motive_1:=λ e=>∀ hp,Expr.Tuple.elim (motive_1:=λ _=>Option (List Expr)) e hp (λ es _ _=>some es)=some es→∃ k q,e=.Tuple es k q) e hp (λ _ k q _ h=>⟨k,q,congrArg (Expr.Tuple · k q) (Option.some.inj h)⟩) hp h
theorem El {t it e1 e2:Expr} (h:HV η t it=some (e1,e2)):∃ x p q elts tk tpos,t=.Tuple elts tk tpos∧it=.Call (.Name x p) [e1,e2] [] q∧ud η x (.cst (.type "zip"))∧(aB e1&&aB e2)=true:=by
 obtain ⟨es,h0,h⟩:=Option.bind_eq_some_iff.mp h
 obtain ⟨⟨f,as⟩,h1,h⟩:=Option.bind_eq_some_iff.mp h
 obtain ⟨x,h2,h⟩:=Option.bind_eq_some_iff.mp h
 obtain ⟨q',h3,hf⟩:=Option.bind_eq_some_iff.mp h
 obtain ⟨q,rfl⟩:=xx h1
 obtain ⟨tk,tpos,rfl⟩:=Ek h0
 obtain ⟨p,e2⟩:=su h2
 have e3:=J6 h3
 dsimp only at e2 e3
 subst e2 e3
 obtain ⟨hc,hf⟩:=FT hf
 cases hf
 rw [Bool.and_eq_true] at hc
 exact ⟨x,p,q,es,tk,tpos,rfl,rfl,bV (vV hc.1),hc.2⟩
theorem yh {it:Expr} (h:sX it=true):∀ x,foldedSetIterable it env x=pure x:=by
 have G:∀ P:Expr→Prop,(∀ a b,P (.Name a b))→(∀ a b c,P (.Attribute a b c))→(∀ a b c d,P (.Call a b c d))→(∀ a b c,P (.Subscript a b c))→(∀ a b,P (.List a b))→P it:=by
  intro P h1 h2 h3 h4 h5
  exact Bk h (λ h=>Expr.Name.elim it (yP h) h1) λ h=>Bk h (λ h=>Expr.Attribute.elim it (yP h) h2) λ h=>Bk h (λ h=>Expr.Call.elim it (yP h) h3) λ h=>Bk h (λ h=>Expr.Subscript.elim it (yP h) h4) λ h=>Expr.List.elim it (yP h) h5
 exact G (λ it=>∀ x,foldedSetIterable it env x=pure x) (λ _ _ _=>rfl) (λ _ _ _ _=>rfl) (λ _ _ _ _ _=>rfl) (λ _ _ _ _=>rfl) (λ _ _ _=>rfl)
theorem Bt {l:LA} {al:List Str} (h:Ka l al=true):∀ x∈l.map (·.1),x∈al:=λ x hx=>by
 obtain ⟨p,hp,rfl⟩:=List.mem_map.mp hx
 exact mem_of (List.all_eq_true.mp h p hp)
structure At {R:Type} (l:LA) (η:En) (I:qb R l) (η₁:En) (r:R):Prop where
 all:∀ P',sW l η I P'→P' η₁ r
theorem At.ag {R:Type} {l:LA} {I:qb R l} {η₁:En} {r:R} (h:At l η I η₁ r):Ag (l.map (·.1)) η η₁:=h.all _ (yf l η I _ λ p hp=>List.mem_map.mpr ⟨p,hp,rfl⟩)
inductive RT {R:Type} (l:LA) (I:qb R l) (η η':En) (P:R→Prop):Prop
 | mk (η₁:En) (r:R) (w:Wk η₁ η') (a:At l η I η₁ r) (q:P r):RT l I η η' P
theorem At.mk' {R:Type} {l:LA} {I:qb R l} {η':En} {P:R→Prop} (nd:(η.map (·.1)).Nodup) (a:Ag (l.map (·.1)) η η') (h:zR l η' I P):RT l I η η' P:=by
 obtain ⟨η₁,r,h1,h2,h3⟩:=Ec l η I P nd a.wl h
 exact ⟨η₁,r,h3,⟨h1⟩,h2⟩
inductive Kf (la:LA) (η:En) (I:qb (Nat→List AO→Prop) la) (N:Nat) (i:Nat) (η₁:En) (aa:List AO):Prop
 | mk (r:Nat→List AO→Prop) (a:At la η I η₁ r) (q:r i aa) (hi:i≤N):Kf la η I N i η₁ aa
inductive Kg (K:Kd) (la:LA) (η:En) (H:Nat→List (Ty K)→qb (Nat→List AO→Prop) la→Prop) (G:qb (Nat→List AO→Prop) la→Prop) (m:Nat) (k:dQ) (η₁:En) (aa:List AO):Prop
 | l (mm i:Nat) (ys:List (Ty K)) (I:qb (Nat→List AO→Prop) la) (r:Nat→List AO→Prop) (em:m=i) (ek:k=.qO mm i) (a:At la η I η₁ r) (q:r i aa) (hi:i≤ys.length) (h:H mm ys I):Kg K la η H G m k η₁ aa
 | r (i:Nat) (I:qb (Nat→List AO→Prop) la) (r:Nat→List AO→Prop) (em:m=i) (ek:k=.gO ((i:Int)-1) (-1) i) (a:At la η I η₁ r) (q:r i aa) (h:G I):Kg K la η H G m k η₁ aa
inductive Kh (K:Kd) (la:LA) (η:En) (H:Nat→List (Ty K)→qb (Nat→List AO→Prop) la→Prop) (G:Int→Int→qb (Int→List AO→Prop) la→Prop) (m:Nat) (k:dQ) (η₁:En) (aa:List AO):Prop
 | l (mm i:Nat) (ys:List (Ty K)) (I:qb (Nat→List AO→Prop) la) (r:Nat→List AO→Prop) (em:m+i=ys.length) (ek:k=.lst mm i) (a:At la η I η₁ r) (q:r i aa) (h:H mm ys I):Kh K la η H G m k η₁ aa
 | r (x b c:Int) (I:qb (Int→List AO→Prop) la) (r:Int→List AO→Prop) (hc:0<c) (lf:Lf x b c m) (ek:k=.gO x c m) (a:At la η I η₁ r) (q:r x aa) (h:G b c I):Kh K la η H G m k η₁ aa
theorem Ce {Inv:Nat→dQ→En→List AO→Prop} {n:Nat} {k:dQ} {Q':Fl→En→List AO→Prop} {nx bk:En→List AO→Prop} {Q:Fl→En→List AO→Prop} {fl:Fl} {η':En} {σ':List AO} (z:Bq nx bk Q fl η' σ') (h1:nx η' σ'→∃ m,m<n∧∃ η₃,Wk η₃ η'∧Inv m k η₃ σ') (h2:bk η' σ'→Q' .next η' σ') (h3:∀ v,Q (.ret v) η' σ'→Q' (.ret v) η' σ'):Ju Inv n k Q' fl η' σ':=by
 cases fl with
 | next=>exact h1 z
 | cont=>exact h1 z
 | brk=>exact h2 z
 | ret v=>exact h3 v z
def Ih (d:Nat) (env:Env) (f:Wl→List Str→List Stmt→En→List AO→(Fl→En→List AO→Prop)→Prop):Prop:=∀ W:Wl,W.Ok→∀ al ss η σ Q,f W al ss η σ Q→dD W d env ss η σ λ fl η' σ'=>Ag al η η'∧Q fl η' σ'
def RQ (W:Wl) (d:Nat) (env:Env) (al:List Str) (rest:List Stmt) (Q:Fl→En→List AO→Prop) (η₀:En):Fl→En→List AO→Prop:=λ fl η' σ'=>fl.go η' σ' (λ fl η' σ'=>Ag al η₀ η'∧Q fl η' σ') (dD W d env rest η' σ' λ fl η' σ'=>Ag al η₀ η'∧Q fl η' σ')
section
variable {f:Wl→List Str→List Stmt→En→List AO→(Fl→En→List AO→Prop)→Prop} {al:List Str} {t:Expr} {b rest:List Stmt} {Q:Fl→En→List AO→Prop} {l:LA} {K:Kd}
theorem zS (ih:Ih d env f) (O:W.Ok) {η₀ η':En} {σ':List AO} {fl:Fl} (a:Ag al η₀ η') (q:goN (λ η' σ'=>f W al rest η' σ' Q) Q fl η' σ'):RQ W d env al rest Q η₀ fl η' σ':=by
 cases fl with
 | next=>exact (ih W O _ _ _ _ _ q).mono λ fl η₂ aj z=>⟨a.trans z.1,z.2⟩
 | brk=>exact ⟨a,q⟩
 | cont=>exact ⟨a,q⟩
 | ret v=>exact ⟨a,q⟩
theorem yi (ih:Ih d env f) (O:W.Ok) (nd:(η.map (·.1)).Nodup) (hal:∀ x∈l.map (·.1),x∈al) {R:Type} {I:qb R l} {r:R} {η₁:En} {aj:List AO} {nx:R→List AO→Prop} {v:AV} (eU:At l η I η₁ r) (h:Nu f W al t b rest Q l I nx v η₁ aj)
 {Inv:Nat→dQ→En→List AO→Prop} {n:Nat} {k:dQ} (step:∀ η₃ r₃ σ',At l η I η₃ r₃→nx r₃ σ'→∃ m,m<n∧Inv m k η₃ σ'):yO W d env t v η₁ aj λ η₂ aj=>dD W d env b η₂ aj (Ju Inv n k (RQ W d env al rest Q η)):=by
 refine (zD h).mono λ η₂ aj z=>?_
 obtain ⟨rfl,Qk,z⟩:=z
 refine (ih W O _ _ _ _ _ z).mono λ fl η' σ' z=>?_
 have ag:=(eU.ag.trans Qk).trans z.1
 refine Ce z.2 (λ q=>?_) (λ q=>zS ih O (fl:=.next) (ag.mono hal) q) λ v q=>⟨ag.mono hal,q⟩
 obtain ⟨η₃,r₃,Fg,tE,fV⟩:=At.mk' nd ag q
 obtain ⟨m,hm,inv⟩:=step η₃ r₃ σ' tE fV
 exact ⟨m,hm,η₃,Fg,inv⟩
theorem Gz (ih:Ih d env f) (O:W.Ok) (nd:(η.map (·.1)).Nodup) (hal:∀ x∈l.map (·.1),x∈al) {x:Str} {p q pos:Pos} {e:Expr} (hx:ud η x (.cst (.type "reversed"))) (hu:aB e=true) (h:aW W d env e η σ (HY f W al t b rest Q l K η)) :
 cM W d env (.For t (.Call (.Name x p) [e] [] q) b [] pos) η σ (RQ W d env al rest Q η):=by
 refine cM.for (Inv:=Kg K l η (λ mm ys I=>HW f W al t b rest Q l K η mm ys I) (λ I=>HX f W al t b rest Q l η I)) (qs.rev O hx hu (h.mono λ a aa q=>?_)) ?_
 · cases a with
   | lst mm =>
    obtain ⟨ys,e1,e2,I,h1,h2⟩:=q
    obtain ⟨η₀,wo,wk,wu,q₀⟩:=At.mk' nd (Ag.refl η) h1
    exact .lst mm _ e1 (by rw [List.length_map]; exact e2) ⟨ys.length,η₀,wk,.l mm ys.length ys I wo rfl (by rw [List.length_map]) wu q₀ (Nat.le_refl _) h2⟩
   | gO x y c =>
    have c2:=aF q
    have c3:=Bool.and_eq_true_iff.mp c2.1
    have c4:=of_decide_eq_true c3.1
    have c5:=of_decide_eq_true c3.2
    subst c4 c5
    obtain ⟨e1,e2,I,h1,h2⟩:=c2.2
    obtain ⟨η₀,wo,wk,wu,q₀⟩:=At.mk' nd (Ag.refl η) h1
    exact .gO y e1 e2 ⟨y.toNat,η₀,wk,.r y.toNat I wo rfl (by rw [Int.toNat_of_nonneg e1]) wu q₀ h2⟩
   | _=>exact q.elim
 · intro m k η₁ aa inv
   cases inv with
   | l mm i ys I r em ek eU wz hi h2 =>
    subst em; subst ek
    have H:=eU.all _ h2 m aa wz
    cases m with
    | zero=>exact dD.nil (zS ih O (fl:=.next) (eU.ag.mono hal) (H.2 rfl))
    | succ j =>
     have hj:j<ys.length:=hi
     obtain ⟨e1,e2⟩:=H.1 j ys[j] rfl (List.getElem?_eq_getElem hj)
     have en:dQ.next aa (.qO mm (j+1))=some (some (yc K ys[j],.qO mm j)):=by
      show Hz mm j aa[mm]? = _
      rw [e1]
      show OW mm j (ys.map (yc K))[j]? = _
      rw [List.getElem?_map,List.getElem?_eq_getElem hj]; rfl
     rw [en]
     exact yi ih O nd hal eU e2 λ η₃ r₃ σ' tE fV=>⟨j,Nat.lt_succ_self _,.l mm j ys I r₃ rfl rfl tE fV (Nat.le_of_lt hj) h2⟩
   | r i I r em ek eU wz h2 =>
    subst em; subst ek
    have H:=eU.all _ h2 m aa wz
    cases m with
    | zero=>exact dD.nil (zS ih O (fl:=.next) (eU.ag.mono hal) (H.2 rfl))
    | succ j =>
     have e0:((j+1:Nat):Int)-1=(j:Int):=by lia
     show yO W d env t (.int (((j+1:Nat):Int)-1)) η₁ aa _
     rw [e0]
     exact yi ih O nd hal eU (H.1 j rfl) λ η₃ r₃ σ' tE fV=>⟨j,Nat.lt_succ_self _,.r j I r₃ rfl rfl tE fV h2⟩
theorem GA (ih:Ih d env f) (O:W.Ok) (nd:(η.map (·.1)).Nodup) {elts:List Expr} {tk:Nat} {tpos:Pos} (hal:∀ x∈l.map (·.1),x∈al) {x:Str} {p q pos:Pos} {e1 e2:Expr} (hx:ud η x (.cst (.type "zip"))) (hu:(aB e1&&aB e2)=true)
 (h:aW W d env e1 η σ λ a zO=>dL a λ m₁=>aW W d env e2 η zO λ KW aa=>dL KW λ m₂=>HZ f W al (.Tuple elts tk tpos) b rest Q l K η m₁ m₂ aa) :
 cM W d env (.For (.Tuple elts tk tpos) (.Call (.Name x p) [e1,e2] [] q) b [] pos) η σ (RQ W d env al rest Q η):=by
 refine cM.JH O hx hu (h.mono λ a zO q=>?_)
 cases a with
 | lst m₁ =>
  refine aW.mono q λ a aa q=>?_
  cases a with
  | lst m₂ =>
   obtain ⟨ys,zs,el,I,h1,h2⟩:=q
   obtain ⟨η₀,wo,wk,wu,q₀⟩:=At.mk' nd (Ag.refl η) h1
   refine .mk m₁ m₂ (ys.map (yc K)) (zs.map (yc K)) (Kf l η I ys.length) η₀ wk (.mk wo wu q₀ (Nat.zero_le _)) (λ i η σ inv=>?_) (λ tt i η₁ aa inv x y hx hy=>?_) λ tt i η₁ aa inv he=>?_
   · cases inv with | mk r a q _=>exact ⟨(a.all _ h2 i σ q).1,(a.all _ h2 i σ q).2.1⟩
   · cases inv with | mk r eU wz hle =>
     obtain ⟨_,_,H,_⟩:=eU.all _ h2 i aa wz
     rw [List.getElem?_map] at hx hy
     obtain ⟨y1,e1,rfl⟩:=Option.map_eq_some_iff.mp hx
     obtain ⟨y2,e2,rfl⟩:=Option.map_eq_some_iff.mp hy
     refine (zD (H _ _ e1 e2 tt)).mono λ η₂ aj z=>?_
     obtain ⟨rfl,Qk,z⟩:=z
     refine (ih _ (O.hide tt) _ _ _ _ _ z).mono λ fl η' σ' z=>?_
     have ag:=(eU.ag.trans Qk).trans z.1
     have nx:(zR l η' I λ R'=>R' (i+1) σ')→∃ η₃,Wk η₃ η'∧Kf l η I ys.length (i+1) η₃ σ':=λ q=>by
      obtain ⟨η₃,r₃,Fg,tE,fV⟩:=At.mk' nd ag q
      exact ⟨η₃,Fg,.mk r₃ tE fV (List.getElem?_eq_some_iff.mp e1).1⟩
     cases fl with
     | next=>exact nx z.2
     | cont=>exact nx z.2
     | brk=>exact z.2.elim
     | ret v=>exact z.2.elim
   · cases inv with | mk r eU wz hle =>
     obtain ⟨_,_,_,He⟩:=eU.all _ h2 i aa wz
     rw [List.getElem?_map,List.getElem?_map,Option.map_eq_none_iff,Option.map_eq_none_iff,List.getElem?_eq_none_iff,List.getElem?_eq_none_iff,← el] at he
     exact dD.nil (zS ih O (fl:=.next) (eU.ag.mono hal) (He (Nat.le_antisymm hle (he.elim id id))))
  | _=>exact q.elim
 | _=>exact q.elim
theorem Em (O:W.Ok) {name:Str} {params:Arguments} {body:List Stmt} {scope:Scope} {pos:Pos} {Q:Fl→En→List AO→Prop} (h:Ib W env name params scope pos=true)
 (k:∀ v:Value,∃ η',Up η name (.cst v) η'∧Q .next η' σ):cM W d env (.FunctionDef name params body [] none [] scope none name pos) η σ Q:=by
 have c1:=Bool.and_eq_true_iff.mp h
 have c2:=Bool.and_eq_true_iff.mp c1.1
 have c3:=Bool.and_eq_true_iff.mp c2.1
 have c4:=Bool.and_eq_true_iff.mp c3.1
 obtain ⟨c,hc,hq⟩:=(Option.any_eq_true _ _).mp c1.2
 obtain ⟨⟨c',P,l,k'⟩,hm,hq⟩:=List.any_eq_true.mp hq
 have q1:=Bool.and_eq_true_iff.mp hq
 have q2:=Bool.and_eq_true_iff.mp q1.1
 have e1:=Nat.eq_of_beq_eq_true q2.1
 have e2:=Nat.eq_of_beq_eq_true q2.2
 have e3:=Nat.eq_of_beq_eq_true q1.2
 dsimp only at e1 e2 e3
 subst e1 e2 e3
 exact cM.def O hm (gM hc) c2.2 (List.isEmpty_iff.mp c4.1) (List.isEmpty_iff.mp c4.2) (List.isEmpty_iff.mp c3.2) k
theorem GB (ih:Ih d env f) (O:W.Ok) (nd:(η.map (·.1)).Nodup) (hal:∀ x∈l.map (·.1),x∈al) {it:Expr} {pos:Pos} (hp:sX it=true) (h:aW W d env it η σ (Ia f W al t b rest Q l K η)) :
 cM W d env (.For t it b [] pos) η σ (RQ W d env al rest Q η):=by
 refine cM.for (Inv:=Kh K l η (λ mm ys I=>Nx f W al t b rest Q l K η mm ys I) λ b' c I=>Nv f W al t b rest Q l η b' c I) (qs.of (h.mono λ a aa q=>?_)) ?_ (yh hp)
 · cases a with
   | lst mm =>
    obtain ⟨ys,e1,I,h1,h2⟩:=q
    obtain ⟨η₀,wo,wk,wu,q₀⟩:=At.mk' nd (Ag.refl η) h1
    exact ⟨_,rfl,⟨ys.length,η₀,wk,.l mm 0 ys I wo rfl rfl wu q₀ h2⟩,λ n' e'=>by cases e'; exact ⟨_,e1⟩⟩
   | gO x b' c =>
    have c2:=aF q
    obtain ⟨hs,I,h1,h2⟩:=c2.2
    have hc:=of_decide_eq_true c2.1
    obtain ⟨η₀,wo,wk,wu,q₀⟩:=At.mk' nd (Ag.refl η) h1
    exact ⟨.gO x c (Builtin.Range.rangeSize x b' c).toNat,if_pos hs,⟨_,η₀,wk,.r x b' c I wo hc (Lf.start hc) rfl wu q₀ h2⟩,λ n' e'=>by cases e'⟩
   | _=>exact q.elim
 · intro m k η₁ aa inv
   cases inv with
   | l mm i ys I r em ek eU wz h2 =>
    subst ek
    obtain ⟨e1,H,He⟩:=eU.all _ h2 i aa wz
    have en:dQ.next aa (.lst mm i)=some (Mr mm i (ys.map (yc K))[i]?):=by
     show FW mm i aa[mm]? = _
     rw [e1]; rfl
    rw [en]
    by_cases hi:i<ys.length
    · rw [List.getElem?_map,List.getElem?_eq_getElem hi]
      exact yi ih O nd hal eU (H _ (List.getElem?_eq_getElem hi)) λ η₃ r₃ σ' tE fV=>⟨m-1,by lia,.l mm (i+1) ys I r₃ (Lq.sh (by assumption) hi) rfl tE fV h2⟩
    · rw [List.getElem?_map,List.getElem?_eq_none (Nat.not_lt.mp hi)]
      exact dD.nil (zS ih O (fl:=.next) (eU.ag.mono hal) (He (by lia)))
   | r x b' c I r hc lf ek eU wz h2 =>
    subst ek
    have H:=eU.all _ h2 x aa wz
    cases m with
    | zero=>exact dD.nil (zS ih O (fl:=.next) (eU.ag.mono hal) (H.2 lf.zero))
    | succ m =>
     obtain ⟨hx,Qi⟩:=lf.succ hc
     exact yi ih O nd hal eU (H.1 hx) λ η₃ r₃ σ' tE fV=>⟨m,Nat.lt_succ_self _,.r (x+c) b' c I r₃ hc Qi rfl tE fV h2⟩
theorem GC (ih:Ih d env f) (O:W.Ok) (nd:(η.map (·.1)).Nodup) (hal:∀ x∈l.map (·.1),x∈al) {ts:En→List AO→(BC→List AO→Prop)→Prop} (hts:∀ η σ Q,ts η σ Q→cD W d env t η σ λ c σ'=>∃ bc,BC.val bc=c∧Q bc σ') {pos:Pos} {I:qb (Nat→List AO→Prop) l}
 (h1:zR l η I λ R=>∃ m,R m σ) (h2:Ny f W al b rest Q ts l η I):cM W d env (.While t b [] pos) η σ (RQ W d env al rest Q η):=by
 obtain ⟨η₀,wo,wk,wu,Rg,NC⟩:=At.mk' nd (Ag.refl η) h1
 refine cM.while (Inv:=λ m η₁ aa=>∃ r,At l η I η₁ r∧r m aa) Rg η₀ wk ⟨wo,wu,NC⟩ ?_
 intro m η₁ aa ⟨r,eU,hr⟩
 refine (hts _ _ _ (eU.all _ h2 m aa hr)).mono λ c aj q=>?_
 obtain ⟨bc,eb,q⟩:=q
 have q:=lV q
 cases c with
 | true =>
  refine (ih W O _ _ _ _ _ (q.1 eb)).mono λ fl η' σ' z=>?_
  have ag:Ag (l.map (·.1)) η η':=eU.ag.trans z.1
  have nx:(zR l η' I λ R'=>∃ m',m'<m∧R' m' σ')→∃ m',m'<m∧∃ η₃,Wk η₃ η'∧∃ r,At l η I η₃ r∧r m' σ':=λ q=>by
   obtain ⟨η₃,r₃,Fg,tE,m',hm,fV⟩:=At.mk' nd ag q
   exact ⟨m',hm,η₃,Fg,r₃,tE,fV⟩
  cases fl with
  | next=>exact nx z.2
  | cont=>exact nx z.2
  | brk=>exact zS ih O (fl:=.next) (ag.mono hal) z.2
  | ret v=>exact ⟨ag.mono hal,z.2⟩
 | false=>exact dD.nil (zS ih O (fl:=.next) (eU.ag.mono hal) (q.2 eb))
end
theorem ND:∀ n:Nat,Ih d env (xX d env T n):=by
 intro n
 induction n with
 | zero=>intro W O al ss η σ Q h; exact h.elim
 | succ n ih =>
  intro W O al ss η σ Q h
  cases ss with
  | nil=>exact dD.nil ⟨Ag.refl _,h⟩
  | cons st rest =>
   refine dD.cons (show cM W d env st η σ (RQ W d env al rest Q η) from ?_)
   cases st with
   | Assign ts e pos=>cases ts with
    | nil=>exact h.elim
    | cons t more=>cases more with
     | nil=>exact (Gy O h).mono λ fl η' σ' q=>by rw [q.1]; exact zS ih O q.2.1 q.2.2
     | cons=>exact h.elim
   | AugAssign t op e pos=>cases t with
    | Name x p =>
     refine aM h (λ Ff e0 h=>?_) λ _ h=>h.elim
     refine cM.aug O (bV e0) ((dZ O _ _ _ _ _ h).mono λ v aa q=>wJ.mono (Gf q) λ r aj q=>?_)
     obtain ⟨η',u,a,z⟩:=sy q
     exact ⟨η',u,zS ih O (fl:=.next) a z⟩
    | _=>exact h.elim
   | Return e pos=>cases e with
    | some e=>exact cM.ret ((dZ O _ _ _ _ _ h).mono λ v aa q=>⟨Ag.refl _,q⟩)
    | none=>exact cM.FU ⟨Ag.refl _,h⟩
   | If t b o pos =>
    refine cM.if ((xy O (λ e σ Q=>dZ O n e η σ Q) _ _ _ _ h).mono λ c aa q=>?_)
    obtain ⟨bc,e,q⟩:=q
    have q:=lV q
    cases c with
    | true=>exact (ih W O _ _ _ _ _ (q.1 e)).mono λ fl η' σ' z=>zS ih O z.1 z.2
    | false=>exact (ih W O _ _ _ _ _ (q.2 e)).mono λ fl η' σ' z=>zS ih O z.1 z.2
   | Assert t m pos=>exact cM.assert ((xy O (λ e σ Q=>dZ O n e η σ Q) _ _ _ _ h).mono λ c aa q=>Ke q λ q=>zS ih O (fl:=.next) (Ag.refl _) q)
   | Expr e pos =>
    have c:=aF h
    have c1:=Bool.and_eq_true_iff.mp c.1
    exact cM.expr (by simpa using c1.1) (lA c1.2) ((dZ O _ _ _ _ _ c.2).mono λ v aa q=>zS ih O (fl:=.next) (Ag.refl _) q)
   | Pass pos=>exact cM.pass (zS ih O (fl:=.next) (Ag.refl _) h)
   | Break pos=>exact cM.break ⟨Ag.refl _,h⟩
   | FunctionDef name params body decs Nz tps scope tscope bind pos =>
    have c:=aF h
    have c1:=Bool.and_eq_true_iff.mp c.1
    have c2:=Bool.and_eq_true_iff.mp c1.1
    have c3:=Bool.and_eq_true_iff.mp c2.1
    have c4:=Bool.and_eq_true_iff.mp c3.1
    have c5:=Bool.and_eq_true_iff.mp c4.1
    have e1:=List.isEmpty_iff.mp c5.1
    have e2:=Option.isNone_iff_eq_none.mp c5.2
    have e3:=List.isEmpty_iff.mp c4.2
    have e4:=Option.isNone_iff_eq_none.mp c3.2
    have e5:=beq_iff_eq.mp c2.2
    subst e1 e2 e3 e4 e5
    exact Em O c1.2 λ v=>by
     obtain ⟨η',u,a,z⟩:=sy (c.2 v)
     exact ⟨η',u,zS ih O (fl:=.next) a z⟩
   | While t b o pos =>
    refine aM h (λ la _ h=>?_) λ _ h=>h.elim
    have c:=aF h
    have c1:=Bool.and_eq_true_iff.mp c.1
    have ho:o=[]:=List.isEmpty_iff.mp c1.1
    subst ho
    obtain ⟨I,h1,h2⟩:=c.2
    exact cM.nd λ nd=>GC ih O nd (Bt c1.2) (λ η σ Q h=>xy O (λ e σ Q=>dZ O n e η σ Q) _ _ _ _ h) h1 h2
   | For t it b o pos =>
    refine aM h (λ la _ h=>?_) λ _ h=>h.elim
    have c:=aF h
    have c1:=Bool.and_eq_true_iff.mp c.1
    have RU:=Bool.and_eq_true_iff.mp c1.1
    have hal:=Bt RU.2
    have ho:o=[]:=List.isEmpty_iff.mp RU.1
    subst ho
    refine cM.nd λ nd=>?_
    refine aM c.2 (λ e er h'=>?_) λ _ h'=>aM h' (λ p ez hz=>?_) λ _ h'=>GB ih O nd hal c1.2 (dZ O _ _ _ _ _ h')
    · obtain ⟨x,p,q,rfl,hx,hu⟩:=zC er
      exact Gz ih O nd hal hx hu (dZ O _ _ _ _ _ h')
    · obtain ⟨x,px,pz,elts,tk,tpos,et,ei,hx,hu⟩:=El ez
      subst et ei
      refine GA (K:=la.2) ih O nd hal hx hu ((dZ O _ _ _ _ _ hz).mono λ a zO q=>?_)
      cases a with
      | lst m₁=>exact dZ O _ _ _ _ _ q
      | _=>exact q.elim
   | _=>exact h.elim
end
theorem ai.NG {W:Wl} {d:Nat} {f:AV} {as:List AV} {σ:List AO} {b:Bool} {Q:AV→List AO→Prop} (h:ai W d f as σ λ v s=>v=.cst (.bool b)∧Q (.bool b) s):ai W d f as σ Q:=λ A s ρ v vs hr R hf hv=>by
 refine codeAny_mono (h A s ρ v vs hr R hf hv) λ r s' z=>?_
 cases r with
 | ok fl=>cases fl with
  | ret w =>
   refine Post.mono z λ _ _ _ w=>?_
   obtain ⟨av,x,rfl,y⟩:=w
   refine VR.bh x ?_
   exact ⟨_,.bool _,y⟩
  | _=>exact z
 | error e=>exact z
noncomputable def Ie (K:Frag) (v:Value):List Value:=match v with
 | .ref a=>(match K.lookup a with
  | some ⟨_,_,.seq xs _,_⟩=>xs.toList
  | _=>[])
 | _=>[]
noncomputable def gA (fd:FuncData):List Str:=fd.params.posonlyargs.map (·.arg)++fd.params.args.map (·.arg)
noncomputable def Bu (K:Frag) (fd:FuncData) (n:Nat):List Value:=(Ie K fd.defaults).drop ((Ie K fd.defaults).length-((gA fd).length-n))
noncomputable def NF (R:Type):Nat→Type
 | 0=>R
 | n+1=>Value→NF R n
noncomputable def NH {R:Type}:(n:Nat)→(List Value→R)→NF R n
 | 0,f=>f []
 | n+1,f=>λ v=>NH n λ vs=>f (v :: vs)
theorem Eo {R:Type}:∀ (n:Nat) (f g:List Value→R),NH n f=NH n g→∀ vs:List Value,vs.length=n→f vs=g vs
 | 0,f,g,h,[],_=>h
 | n+1,f,g,h,v :: vs,e=>Eo n (λ vs=>f (v :: vs)) (λ vs=>g (v :: vs)) (congrFun h v) vs (by simpa using e)
 | 0,_,_,_,_ :: _,e=>by cases e
 | _+1,_,_,_,[],e=>by cases e
noncomputable def RV (d:Data):Option FuncData:=if h:d.ctorIdx=7 then Data.func.elim (motive:=λ _=>Option FuncData) d h some else none
theorem Kl {d:Data} {fd:FuncData} (h:RV d=some fd):d=.func fd:=by
 obtain ⟨hp,h⟩:=BS h
 exact Data.func.elim (motive:=λ d=>∀ hp,Data.func.elim (motive:=λ _=>Option FuncData) d hp some=some fd→d=.func fd) d hp (λ _ _ h=>congrArg _ (Option.some.inj h)) hp h
noncomputable def RW (d:FuncBody):Option (List Stmt):=if h:d.ctorIdx=0 then FuncBody.stmts.elim (motive:=λ _=>Option (List Stmt)) d h some else none
theorem Km {d:FuncBody} {b:List Stmt} (h:RW d=some b):d=.stmts b:=by
 obtain ⟨hp,h⟩:=BS h
 exact FuncBody.stmts.elim (motive:=λ d=>∀ hp,FuncBody.stmts.elim (motive:=λ _=>Option (List Stmt)) d hp some=some b→d=.stmts b) d hp (λ _ _ h=>congrArg _ (Option.some.inj h)) hp h
noncomputable def fdOf (K:Frag) (a:Addr):Option (FuncData×List Stmt):=(K.lookup a).bind λ o=>(RV o.data).bind λ fd=>(RW fd.body).bind λ b=>some (fd,b)
noncomputable def Cf (K:Frag) (fd:FuncData) (as:List AV):List (Str×AV):=(gA fd).zip (as++(Bu K fd as.length).map vQ)
noncomputable def uf (K:Frag) (fd:FuncData) (vs:List Value):List (Str×Value):=(gA fd).zip (vs++Bu K fd vs.length)
noncomputable def Ig (K:Frag) (n:Nat) (a:Addr):Bool:=match fdOf K a with
 | some (fd,b)=>codeIn K fd.code fd.qualname&&Jw fd&&((gA fd).length==n+(Bu K fd n).length)&&(decide (gA fd).Nodup&&(gA fd).all λ x=>fd.scope.names.lookup x==some .local||fd.scope.names.lookup x==some .cell)
 | none=>false
noncomputable def bindL (K:Frag) (a:Addr) (vs:List Value) (S:Setting):Option (List (Str×Value)):=match fdOf K a with
 | some (fd,_)=>peek K S (bindArgs fd ⟨vs,[]⟩)
 | none=>none
noncomputable def bindR (K:Frag) (a:Addr) (vs:List Value) (S:Setting):Option (List (Str×Value)):=match fdOf K a with
 | some (fd,_)=>some (uf K fd vs)
 | none=>none
def NI (Q:AV→List AO→Prop):Fl→En→List AO→Prop:=λ fl _ σ=>match fl with
 | .ret v=>Q v σ
 | .next=>Q .none σ
 | _=>False
def TZ (W:Wl) (d:Nat) (T:Tab) (L:Addr) (a:Addr) (as:List AV) (σ:List AO) (Q:AV→List AO→Prop):Prop:=cJ (fdOf W.K a) (λ p=>xX d (callEnvC p.1 L a) T 60 W (p.1.scope.names.map (·.1)) p.2 (z9 W p.1.scope.names (Cf W.K p.1 as)) σ (NI Q)) False
set_option tactic.hygienic true in
theorem GD {K:Frag} {a:Addr} {fd:FuncData} {b:List Stmt} (h:fdOf K a=some (fd,b)):∃ oc od osl,K.lookup a=some ⟨oc,od,.func fd,osl⟩∧fd.body=.stmts b:=by
 obtain ⟨⟨oc,od,dt,osl⟩,e,h⟩:=cC h
 obtain ⟨fd',ed,h⟩:=cC h
 obtain ⟨b',eb,h⟩:=cC h
 cases h
 have ed:=Kl ed
 dsimp only at ed
 subst ed
 exact ⟨oc,od,osl,e,Km eb⟩
theorem sA {α β:Type}:∀ {xs:List α} {ys:List β},xs.length=ys.length→(xs.zip ys).map (·.1)=xs
 | [],[],_=>rfl
 | x :: xs,y :: ys,h=>by rw [List.zip_cons_cons,List.map_cons,sA (by simpa using h)]
 | [],_ :: _,h=>by cases h
 | _ :: _,[],h=>by cases h
theorem yj {α β:Type}:∀ {xs:List α} {ys:List β},xs.length=ys.length→(xs.zip ys).map (·.2)=ys
 | [],[],_=>rfl
 | x :: xs,y :: ys,h=>by rw [List.zip_cons_cons,List.map_cons,yj (by simpa using h)]
 | [],_ :: _,h=>by cases h
 | _ :: _,[],h=>by cases h
section
variable {W:Wl} {d:Nat} {T:Tab} {σ:List AO}
theorem bA.Ii {X ρ:List Addr} {h:Heap}:∀ vs:List Value,bA X ρ h (vs.map vQ) vs
 | []=>.nil
 | v :: vs=>.cons (by cases v<;>first | exact .none | exact .bool _ | exact .int _ _ | exact .cst _) (bA.Ii vs)
theorem ai.of (O:W.Ok) {a:Addr} {as:List AV} {Q:AV→List AO→Prop} (hc:Ig W.K as.length a=true) (hb:NH as.length (bindL W.K a)=NH as.length (bindR W.K a)) (h:∀ L,TZ W d T L a as σ Q):ai W (d+1) (.cst (.ref a)) as σ Q:=by
 unfold Ig at hc
 have h:∀ L,cJ (fdOf W.K a) (λ p=>xX d (callEnvC p.1 L a) T 60 W (p.1.scope.names.map (·.1)) p.2 (z9 W p.1.scope.names (Cf W.K p.1 as)) σ (NI Q)) False:=h
 cases e:fdOf W.K a with
 | none=>rw [e] at hc; exact cS hc
 | some p =>
  obtain ⟨fd,b⟩:=p
  rw [e] at hc h
  simp only [Bool.and_eq_true,beq_iff_eq] at hc
  obtain ⟨⟨⟨h1,h2⟩,h3⟩,h4,h5⟩:=hc
  obtain ⟨oc,od,osl,e1,e2⟩:=GD e
  have ln:(gA fd).length=(as++(Bu W.K fd as.length).map vQ).length:=by rw [h3,List.length_append,List.length_map]
  refine ai.fn O e1 e2 h1 h2 (ab:=Cf W.K fd as) (λ ρ hh vs hv=>?_) ?_ rfl λ L=>?_
  · have lv:=hv.length
    refine ⟨uf W.K fd vs,λ S=>?_,?_,?_⟩
    · have:=congrFun (Eo _ _ _ hb vs lv) S
      unfold bindL bindR at this
      rw [e] at this
      exact this
    · unfold uf Cf
      rw [sA ln,sA (by rw [h3,List.length_append,lv])]
    · unfold uf Cf
      rw [yj ln,yj (by rw [h3,List.length_append,lv]),lv]
      exact hv.append (bA.Ii _)
  · unfold Cf
    rw [sA ln,Bool.and_eq_true]
    refine ⟨h4,?_⟩
    rw [List.all_eq_true] at h5 ⊢
    intro p hp
    have:=h5 p.1 (by have:=List.mem_map_of_mem (f:=(·.1)) hp; rwa [sA ln] at this)
    simpa using this
  · refine (ND 60 _ O _ _ _ _ _ (h L)).mono λ fl η' σ' z=>?_
    cases fl with
    | ret v=>exact z.2
    | next=>exact z.2
    | brk=>exact z.2.elim
    | cont=>exact z.2.elim
end
noncomputable def Ep:AV→Option PyData
 | .none=>some .none
 | .bool b=>some (.bool b)
 | .int i=>some (.int i)
 | _=>none
noncomputable def lY (f:AV→Option PyData):List AV→Option (List PyData)
 | []=>some []
 | a :: r=>(match f a with
  | some d=>(match lY f r with
   | some ds=>some (d :: ds)
   | none=>none)
  | none=>none)
noncomputable def sC:AV→Option PyData
 | .tup vs=>(match lY Ep vs with
  | some ds=>some (.tuple ds)
  | none=>none)
 | a=>Ep a
noncomputable def wR (σ:List AO):AV→Option PyData
 | .lst n=>(match σ[n]? with
  | some (.lst xs)=>(match lY sC xs with
   | some ds=>some (.list ds)
   | none=>none)
  | _=>none)
 | a=>sC a
theorem Er {X ρ:List Addr} {h:Heap} {a:AV} {v:Value} {d:PyData} (hv:VR X ρ h a v) (e:Ep a=some d):∃ as,Reads h v d as:=by
 cases hv<;>first | ((first | exact aT e | refine sE e ?_); exact ⟨_,.none⟩) | ((first | exact aT e | refine sE e ?_); exact ⟨_,.bool _⟩) | ((first | exact aT e | refine sE e ?_); exact ⟨_,.int _ _⟩) | exact aT e
theorem Es {X ρ:List Addr} {h:Heap} {f:AV→Option PyData} (hf:∀ {a v d},VR X ρ h a v→f a=some d→∃ as,Reads h v d as) (l:List AV):∀ {vs:List Value} {ds:List PyData},bA X ρ h l vs→lY f l=some ds→∃ as,ReadsAll h vs ds as:=by
 induction l with
 | nil=>intro vs ds hv e; refine bA.aU hv ?_; refine sE e ?_; exact ⟨_,.nil⟩
 | cons a r ih =>
  intro vs ds hv e
  refine hv.ao λ _ _ h1 h2=>?_
  have e:(match f a with | some d=>(match lY f r with | some ds=>some (d :: ds) | none=>none) | none=>none)=some ds:=e
  cases e1:f a with
  | none=>rw [e1] at e; exact aT e
  | some d =>
   rw [e1] at e
   cases e2:lY f r with
   | none=>rw [e2] at e; exact aT e
   | some ds' =>
    rw [e2] at e
    refine sE e ?_
    obtain ⟨as,x⟩:=hf h1 e1
    obtain ⟨bs,y⟩:=ih h2 e2
    exact ⟨_,.cons x y⟩
theorem Ao {X ρ:List Addr} {h:Heap} {a:AV} {v:Value} {d:PyData} (hv:VR X ρ h a v) (e:sC a=some d):∃ as,Reads h v d as:=by
 cases a with
 | tup vs =>
  have e:(match lY Ep vs with | some ds=>some (PyData.tuple ds) | none=>none)=some d:=e
  cases e1:lY Ep vs with
  | none=>rw [e1] at e; exact aT e
  | some ds =>
   rw [e1] at e; refine sE e ?_
   refine hv.A3 λ _ _ _ g hx hvs=>?_
   obtain ⟨as,y⟩:=Es (λ hv e=>Er hv e) vs hvs e1
   exact ⟨_,.tuple g rfl rfl (by simpa using y)⟩
 | _=>exact Er hv e
section
variable {W:Wl} {d:Nat} {env:Env} {η:En} {σ:List AO}
theorem vY {ρ:List Addr} {h:Heap} (R:aK W ρ σ h) {a:AV} {v:Value} {x:PyData} (hv:VR W.hid ρ h a v) (e:wR σ a=some x):∃ as,Reads h v x as:=by
 cases a with
 | lst n =>
  unfold wR at e
  dsimp only at e
  refine hv.gP λ ad ea=>?_
  cases e0:σ[n]? with
  | none=>rw [e0] at e; exact aT e
  | some o =>
   rw [e0] at e
   cases o with
   | lst xs =>
    dsimp only at e
    cases e1:lY sC xs with
    | none=>rw [e1] at e; exact aT e
    | some ds =>
     rw [e1] at e; refine sE e ?_
     obtain ⟨ws,m,g,vs⟩:=aP R e0 ea
     obtain ⟨as,y⟩:=Es (λ hv e=>Ao hv e) xs vs e1
     exact ⟨_,.list g rfl rfl (by simpa using y)⟩
   | _=>exact aT e
 | _=>exact Ao hv e
theorem aA.RX (hd:3≤d) {a b:AV} {x y:PyData} {Q:AV→List AO→Prop} (ha:wR σ a=some x) (hb:wR σ b=some y) (hs:(PySem.SeqAt.shaped x&&PySem.SeqAt.shaped y)=true) (q:Q (.bool (PyData.eqv x y)) σ):aA W d .Eq a b σ Q:=λ A s ρ vs hr R hv=>by
 refine hv.ao λ _ _ h1 hv=>?_
 refine hv.ao λ _ _ h2 hv=>?_
 refine bA.aU hv ?_
 obtain ⟨as,r1⟩:=vY R h1 ha
 obtain ⟨bs,r2⟩:=vY R h2 hb
 rw [Bool.and_eq_true] at hs
 exact eq_dataH r1 r2 hs.1 hs.2 (by have:=hr.units; lia) (Post.here R ⟨_,.bool _,q⟩ s.toks)
theorem aA.RY (hd:3≤d) {a b:AV} {x y:PyData} {Q:AV→List AO→Prop} (ha:wR σ a=some x) (hb:wR σ b=some y) (hs:(PySem.SeqAt.shaped x&&PySem.SeqAt.shaped y)=true) (q:Q (.bool (!PyData.eqv x y)) σ):aA W d .NotEq a b σ Q:=λ A s ρ vs hr R hv=>by
 refine hv.ao λ _ _ h1 hv=>?_
 refine hv.ao λ _ _ h2 hv=>?_
 refine bA.aU hv ?_
 obtain ⟨as,r1⟩:=vY R h1 ha
 obtain ⟨bs,r2⟩:=vY R h2 hb
 rw [Bool.and_eq_true] at hs
 exact ne_dataH r1 r2 hs.1 hs.2 (by have:=hr.units; lia) (Post.here R ⟨_,.bool _,q⟩ s.toks)
theorem aA.inD (hd:3≤d) {a:AV} {n:Nat} {x:PyData} {ys:List PyData} {Q:AV→List AO→Prop} (ha:sC a=some x) (hb:wR σ (.lst n)=some (.list ys)) (hs:(PySem.SeqAt.shaped x&&PySem.SeqAt.shaped (.list ys))=true) (hm:∀ y∈ys,PySem.SeqAt.noMix y x=true) (q:Q (.bool (decide (PySem.Spec.countIn x ys≠0))) σ):aA W d .In a (.lst n) σ Q:=λ A s ρ vs hr R hv=>by
 refine hv.ao λ _ _ h1 hv=>?_
 refine hv.ao λ _ _ h2 hv=>?_
 refine bA.aU hv ?_
 obtain ⟨as,r1⟩:=Ao h1 ha
 obtain ⟨bs,r2⟩:=vY R h2 hb
 rw [Bool.and_eq_true] at hs
 exact in_list_dataH r2 r1 hs.2 hs.1 (by have:=hr.units; lia) hm (Post.here R ⟨_,.bool _,q⟩ s.toks)
end
open PySem PySem.W
def bN (k:Nat) (x:Int):Prop:=x.natAbs≤k
theorem bN.add {k m:Nat} {x y:Int} (h:bN k x) (h':bN m y):bN (k+m) (x+y):=Nat.le_trans (Int.natAbs_add_le x y) (Nat.add_le_add h h')
theorem bN.neg {k:Nat} {x:Int} (h:bN k x):bN k (-x):=by unfold bN; rw [Int.natAbs_neg]; exact h
theorem bN.sub {k m:Nat} {x y:Int} (h:bN k x) (h':bN m y):bN (k+m) (x-y):=by rw [Int.sub_eq_add_neg]; exact h.add h'.neg
theorem bN.mul {k m:Nat} {x y:Int} (h:bN k x) (h':bN m y):bN (k*m) (x*y):=by unfold bN; rw [Int.natAbs_mul]; exact Nat.mul_le_mul h h'
theorem bN.sq {k:Nat} {x:Int} (h:bN k x):bN (k*k) (x^(2:Int).toNat):=by
 have e:x^(2:Int).toNat=x*x:=by show x^2=x*x; rw [Int.pow_succ,Int.pow_succ,Int.pow_zero,Int.one_mul]
 rw [e]; exact h.mul h
theorem bN.mod {p r:Int} {k:Nat} (l:0≤r) (u:r<p) (hp:p≤k):bN k r:=by unfold bN; exact Lq.ab l (Lq.w (Lq.sl u hp))
theorem bN.small {k:Nat} {x:Int} (h:bN k x) (hk:Nat.ble k 1152921504606846976=true):af x:=by
 have:=Nat.le_of_ble_eq_true hk
 unfold bN at h; unfold af; omega
section
variable {W:Wl} {d:Nat} {σ:List AO}
noncomputable def NJ (d:Data):Option (Array Value):=if h:d.ctorIdx=2 then Data.seq.elim (motive:=λ _=>Option (Array Value)) d h λ xs _=>some xs else none
theorem GF {d:Data} {xs:Array Value} (h:NJ d=some xs):∃ n,d=.seq xs n:=by
 obtain ⟨hp,h⟩:=BS h
 exact Data.seq.elim (motive:=λ d=>∀ hp,Data.seq.elim (motive:=λ _=>Option (Array Value)) d hp (λ xs _=>some xs)=some xs→∃ n,d=.seq xs n) d hp (λ _ n _ h=>⟨n,congrArg (Data.seq · n) (Option.some.inj h)⟩) hp h
noncomputable def zF (K:Frag) (x:Addr):Option (List Value):=(K.lookup x).bind λ o=>(NJ o.data).bind λ xs=>if o.cls==.type "tuple" then some xs.toList else none
theorem Et {K:Frag} {x:Addr} {vs:List Value} (hk:zF K x=some vs):∃ ob xs n,K.lookup x=some ob∧ob.cls=.type "tuple" ∧ ob.data=.seq xs n∧xs.toList=vs:=by
 obtain ⟨ob,e,hk⟩:=cC hk
 obtain ⟨xs,ed,hk⟩:=cC hk
 obtain ⟨ec,hk⟩:=FT hk
 obtain ⟨n,ed⟩:=GF ed
 exact ⟨ob,xs,n,e,beq_iff_eq.mp ec,ed,hk⟩
theorem g8.NL (O:W.Ok) {x:Addr} {vs:List Value} {k:Int} {v:Value} {Q:AV→List AO→Prop} (hk:zF W.K x=some vs) (h0:0≤k) (hx:vs[k.toNat]? = some v) (hz:k<1000000) (q:Q (vQ v) σ):g8 W d (.cst (.ref x)) (.int k) σ Q:=λ A s ρ o i value slice hr R hv hi hs=>by
 refine VR.bh hv ?_
 refine hi.cL λ t=>?_
 obtain ⟨ob,xs,n,e,ec,ed,hk⟩:=Et hk
 subst hk
 have ht:IsTup s.heap x xs:=⟨_,R.qM O _ _ e,ec,n,ed⟩
 have hx':xs[k.toNat]? = some v:=by simpa using hx
 refine subscriptTail_builtinR (x:=v) ht.typeIs slot_tuple_getitem.lookup (getItem_tuple (j:=k.toNat) ht (by omega) (by omega) ?_ hx' ⟨rfl,Post.here R ⟨_,Bf v,q⟩ s.toks⟩) (hs _ _)
 have hl:k.toNat<xs.size:=(Array.getElem?_eq_some_iff.mp hx').1
 unfold seqIndex?
 simp only [if_neg (Int.not_lt.mpr h0)]
 refine if_pos ?_
 simp only [Bool.and_eq_true,decide_eq_true_eq]
 omega
end
end JL
namespace JL
open PySem PySem.W PySem.Calls PyProof.Rows EC
set_option maxHeartbeats 400000
set_option linter.unusedSimpArgs false
noncomputable section
noncomputable abbrev wU:Addr:=21
noncomputable abbrev gB:Addr:=36
noncomputable abbrev lB:Addr:=43
noncomputable abbrev lC:Addr:=50
noncomputable abbrev gS:Addr:=57
noncomputable abbrev gU:Addr:=64
noncomputable abbrev bS:Addr:=106
noncomputable abbrev bG:Addr:=131
noncomputable abbrev bU:Addr:=138
noncomputable abbrev fq:Addr:=145
noncomputable abbrev mD:Addr:=173
noncomputable abbrev mE:Addr:=180
noncomputable abbrev bE:Addr:=187
noncomputable abbrev eG:Addr:=212
noncomputable abbrev cB:Addr:=219
noncomputable abbrev cO:Addr:=226
noncomputable abbrev fS:Addr:=233
noncomputable abbrev fK:Addr:=240
noncomputable abbrev fL:Addr:=247
noncomputable abbrev fM:Addr:=254
noncomputable abbrev dW:Addr:=261
noncomputable abbrev az:Addr:=268
noncomputable abbrev aX:Addr:=275
noncomputable abbrev fu:Addr:=289
noncomputable abbrev bO:Addr:=296
noncomputable abbrev bP:Addr:=303
noncomputable abbrev gC:Addr:=337
noncomputable abbrev cy:Addr:=358
noncomputable abbrev mF:Addr:=365
noncomputable abbrev qc:Addr:=379
noncomputable abbrev yk:Addr:=421
noncomputable abbrev dz:Addr:=428
noncomputable abbrev yl:Addr:=435
noncomputable abbrev wV:Addr:=442
noncomputable abbrev gE:Addr:=449
noncomputable abbrev bI:Addr:=456
noncomputable abbrev fT:Addr:=463
noncomputable abbrev ym:Addr:=470
noncomputable abbrev yo:Addr:=477
noncomputable abbrev sY:Addr:=482
noncomputable abbrev wW:Addr:=489
noncomputable abbrev yp:Addr:=496
noncomputable abbrev tM:Addr:=503
noncomputable abbrev tN:Addr:=510
noncomputable abbrev wX:Addr:=517
noncomputable abbrev gV:Addr:=524
noncomputable abbrev fC:Addr:=531
noncomputable abbrev gW:Addr:=538
noncomputable abbrev yq:Addr:=545
noncomputable abbrev wY:Addr:=552
noncomputable abbrev tO:Addr:=559
noncomputable abbrev Ew:Addr:=564
noncomputable abbrev au:Addr:=88
noncomputable abbrev ah:Addr:=313
noncomputable abbrev gX:Addr:=410
noncomputable abbrev bL:Addr:=414
noncomputable abbrev vZ:Addr:=416
noncomputable abbrev Ij:List (Addr×Addr×Nat×Nat):=[(364,360,452,8)]
structure Bs where
 w:PySem.World
 hb:Heap
 mg:Str→Option Value
 mb:Str→Option Value
 hid:List Addr
noncomputable abbrev U (b:Bs):Wl:=⟨pw,b.w,K0 b.w.params,b.hb,b.mg,b.mb,b.hid,Ij⟩
noncomputable def Bs.hide (b:Bs) (t:Nat):Bs:={ b with hid:=t :: b.hid }
theorem Ex {b:Bs} (O:(U b).Ok) (t:Nat):(U (b.hide t)).Ok:=Wl.Ok.hide O t
noncomputable def fU (p a b:Int):List (Str×AV):=[("_CurveFp__p",.int p),("_CurveFp__a",.int a),("_CurveFp__b",.int b),("_CurveFp__h",.none)]
noncomputable def fh (c:Nat) (x y z:Int) (o:AV) (g:Bool) (k:Nat):List (Str×AV):=[("_PointJacobi__curve",.inst au c),("_PointJacobi__coords",.tup [.int x,.int y,.int z]),("_PointJacobi__order",o),("_PointJacobi__generator",.bool g),("_PointJacobi__precompute",.lst k)]
section
variable {σ:List AO} {n c k:Nat} {x y z p a b:Int} {o:AV} {g:Bool} {K:AV→Prop} {fs:List (Str×AV)} {name:Str}
theorem aN (h:σ[n]? = some (.inst fs)) (e:fs.lookup name=none):aC n name σ:=⟨fs,h,e⟩
theorem fP (h:σ[n]? = some (.inst (fU p a b))) (q:K (.int p)):aL n "_CurveFp__p" σ K:=⟨_,_,h,by kernel_rfl,rfl,q⟩
theorem fA (h:σ[n]? = some (.inst (fU p a b))) (q:K (.int a)):aL n "_CurveFp__a" σ K:=⟨_,_,h,by kernel_rfl,rfl,q⟩
theorem fB (h:σ[n]? = some (.inst (fU p a b))) (q:K (.int b)):aL n "_CurveFp__b" σ K:=⟨_,_,h,by kernel_rfl,rfl,q⟩
theorem tP (h:σ[n]? = some (.inst (fh c x y z o g k))) (q:K (.inst au c)):aL n "_PointJacobi__curve" σ K:=⟨_,_,h,by kernel_rfl,rfl,q⟩
theorem Bv (h:σ[n]? = some (.inst (fh c x y z o g k))) (q:K (.tup [.int x,.int y,.int z])):aL n "_PointJacobi__coords" σ K:=⟨_,_,h,by kernel_rfl,rfl,q⟩
theorem Bw (h:σ[n]? = some (.inst (fh c x y z o g k))) (ho:dR o=true) (q:K o):aL n "_PointJacobi__order" σ K:=⟨_,_,h,by kernel_rfl,ho,q⟩
theorem RZ (h:σ[n]? = some (.inst (fh c x y z o g k))) (q:K (.bool g)):aL n "_PointJacobi__generator" σ K:=⟨_,_,h,by kernel_rfl,rfl,q⟩
theorem La (h:σ[n]? = some (.inst (fh c x y z o g k))) (q:K (.lst k)):aL n "_PointJacobi__precompute" σ K:=⟨_,_,h,by kernel_rfl,rfl,q⟩
theorem gY (σ:List AO) (o o':AO):(σ++[o]).set σ.length o'=σ++[o']:=by rw [List.set_append_right _ _ (Nat.le_refl _),Nat.sub_self]; rfl
theorem getLast (σ:List AO) (o:AO):(σ++[o])[σ.length]? = some o:=by rw [List.getElem?_append_right (Nat.le_refl _),Nat.sub_self]; rfl
theorem aI {σ:List AO} {n:Nat} {o:AO} (h:σ[n]? = some o) (δ:List AO):(σ++δ)[n]? = some o:=by rw [List.getElem?_append_left (List.getElem?_eq_some_iff.mp h).1]; exact h
end
theorem bN.num (n:Nat):bN n (@OfNat.ofNat Int n (@instOfNat n)):=Nat.le_refl _
theorem bN.gO {x:Int} {k:Nat} (h0:0≤x) (h1:x≤k):bN k x:=by unfold bN; omega
theorem GG {σ:List AO} {n:Nat} {o:AO} (h:σ[n]? = some o):σ.set n o=σ:=by
 apply List.ext_getElem?
 intro i
 rw [List.getElem?_set]
 by_cases e:n=i
 · subst e
   rw [if_pos rfl,if_pos (List.getElem?_eq_some_iff.mp h).1,h]
 · rw [if_neg e]
theorem getSet {σ:List AO} {n:Nat} {o o':AO} (h:σ[n]? = some o):(σ.set n o')[n]? = some o':=by rw [List.getElem?_set_self (List.getElem?_eq_some_iff.mp h).1]
theorem bq {σ:List AO} {n m:Nat} {o o':AO} (h:σ[m]? = some o) (hn:n≠m):(σ.set n o')[m]? = some o:=by rw [List.getElem?_set_ne hn]; exact h
theorem gF (σ:List AO) (n:Nat) (o o':AO):(σ.set n o).set n o'=σ.set n o':=List.set_set ..
theorem Ey {σ:List AO} {n:Nat} {o:AO} (h:σ[n]? = some o) (δ:List AO) (o':AO):(σ++δ).set n o'=σ.set n o'++δ:=List.set_append_left _ _ (List.getElem?_eq_some_iff.mp h).1
theorem b9 {x:Str} {v:AV} {fs:List (Str×AV)} {k:Nat} (h:fs.length≤k):(aO x v fs).length≤k+1:=Nat.le_trans (zE x v fs) (Nat.succ_le_succ h)
noncomputable def T0:Tab where
 attr x:=(([("_PointJacobi__coords",.lW),("_PointJacobi__curve",(.inst 88)),("_PointJacobi__generator",.bool),("_PointJacobi__precompute",.lst),("_CurveFp__p",.int),("_CurveFp__a",.int),("_CurveFp__b",.int),("_Point__curve",(.inst 88)),("_Point__x",.int),("_Point__y",.int)]:List (Str×Kd)).lookup x).getD .any
 callee a:=(([(538,.bool),(545,.bool),(78,.CX),(21,.int),(43,.bool),(50,.bool),(57,.int),(64,.int),(71,.int),(85,.bool),(106,.lst),(145,.bool),(152,.bool),(166,(.inst 88)),(173,.int),(180,.int),(187,(.inst 313)),(202,(.inst 313)),(212,.lW),(219,.lW),(233,.lW),(240,.lW),(247,.lW),(254,.lW),(268,.lW),(337,.bool),(344,.bool),(386,.int),(393,.int),(400,(.inst 88)),(428,.int),(435,.lW),(442,.lst),(449,.int),(477,.int),(489,.lst),(496,.bool),(517,.int),(524,(.inst 313)),(421,.lst),(552,.int),(510,.bool),(482,.DP),(88,(.inst 88)),(112,(.inst 112)),(313,(.inst 313)),(410,(.inst 410))]:List (Nat×Kd)).lookup a).getD .any
 spot l c e:=(([((672,20,30),.int),((673,26,36),.int),((675,38,48),.int),((676,25,35),.int),((679,25,35),.int),((682,22,32),.int),((673,43,53),.int),((682,35,45),.int),((675,53,64),.bool),((654,31,41),.int),((657,8,18),.int),((658,32,42),.int),((660,52,62),.int),((653,7,17),.int),((657,21,31),.int),((659,41,51),.int),((660,70,80),.int),((654,46,57),.bool),((655,7,18),.bool),((658,55,66),.bool),((655,23,34),.bool),((659,64,75),.bool),((698,41,49),.int),((698,59,68),.bool),((702,53,74),.int),((707,50,82),.int),((626,20,27),.int),((628,21,29),.int),((580,16,56),.tX),((508,12,47),.int),((515,11,20),.int),((517,8,17),.int),((513,12,20),.lst),((514,9,17),.int),((519,4,12),.int),((519,15,23),.int),((520,31,39),.int),((521,32,40),.int),((524,8,41),.int),((535,24,45),.lst),((538,17,59),.lst),((85,22,38),(.inst 313))]:List ((Nat×Nat×Nat)×Kd)).lookup (l,c,e))
 rel l c e:=([(674,20,37),(680,20,36),(677,20,33),(683,20,41),(702,11,75),(705,7,59),(707,11,82),(348,19,54),(365,19,54),(631,37,73),(631,15,32),(631,15,73),(573,11,24)]:List (Nat×Nat×Nat)).contains (l,c,e)
 loop l:=([(694,[],.any),
  (700,[],.any),
  (7,[("found",some .int),("before",some .int),("rest",some .int),("divisor",some .int),("share",none)],.any),
  (51,[("mult",some .int),("nd",none)],.any),
  (83,[("i",some .int),("doubler",some (.inst 313))],.any),
  (298,[("other",some .int),("X3",some .int),("Y3",some .int),("Z3",some .int)],.tX),
  (564,[("number",some .int),("total",some .any),("point",some .any)],.any),
  (572,[("total",some .any),("count",some .int)],.any),
  (595,[("number",some .int),("digit",none)],.any),
  (606,[("total",some .int)],.int),
  (527,[("b",some .int)],.any),
  (579,[("point",none),("order",none),("rest",none),("k",none),("best",none),("factor",none)],.any),
  (583,[("rest",some .int)],.any),
  (587,[("best",some .int)],.any),
  (533,[("square",none)],.any),
  (537,[("y",none)],.any),
  (538,[],.int),
  (328,[("X3",some .int),("Y3",some .int),("Z3",some .int)],.int),
  (372,[("X3",some .int),("Y3",some .int),("Z3",some .int)],.int),
  (622,[("total",some .any),("first",none),("second",none),("more",none)],.any)]:List (Nat×LA×Kd)).lookup l
noncomputable def Lb:Tab:={ T0 with spot:=λ l c e=>match ([((434,11,28),.yes)]:List ((Nat×Nat×Nat)×Kd)).lookup (l,c,e) with | some k=>some k | none=>T0.spot l c e,rel:=λ l c e=>([(434,11,28)]:List (Nat×Nat×Nat)).contains (l,c,e)||T0.rel l c e }
noncomputable def Ez:Tab:={ T0 with spot:=λ l c e=>match ([((276,11,27),.no),((278,11,28),.yes)]:List ((Nat×Nat×Nat)×Kd)).lookup (l,c,e) with | some k=>some k | none=>T0.spot l c e,rel:=λ l c e=>([(276,11,27),(278,11,28)]:List (Nat×Nat×Nat)).contains (l,c,e)||T0.rel l c e }
noncomputable def GH:Tab:={ T0 with spot:=λ l c e=>match ([((276,11,27),.no),((278,11,28),.no),((282,11,40),.no)]:List ((Nat×Nat×Nat)×Kd)).lookup (l,c,e) with | some k=>some k | none=>T0.spot l c e,rel:=λ l c e=>([(276,11,27),(278,11,28),(282,11,40)]:List (Nat×Nat×Nat)).contains (l,c,e)||T0.rel l c e }
noncomputable def Ik:Tab:={ T0 with attr:=λ x=>match ([("_PointJacobi__order",.int)]:List (Str×Kd)).lookup x with | some k=>k | none=>T0.attr x,spot:=λ l c e=>match ([((317,11,23),.yes),((318,29,41),.yes),((336,53,65),.yes)]:List ((Nat×Nat×Nat)×Kd)).lookup (l,c,e) with | some k=>some k | none=>T0.spot l c e,rel:=λ l c e=>([(317,11,23),(318,29,41),(336,53,65)]:List (Nat×Nat×Nat)).contains (l,c,e)||T0.rel l c e }
noncomputable def EA:Tab:={ T0 with attr:=λ x=>match ([("_PointJacobi__order",.int)]:List (Str×Kd)).lookup x with | some k=>k | none=>T0.attr x,spot:=λ l c e=>match ([((339,11,28),.no),((349,11,23),.yes),((350,34,46),.yes),((351,36,48),.yes),((401,53,65),.yes)]:List ((Nat×Nat×Nat)×Kd)).lookup (l,c,e) with | some k=>some k | none=>T0.spot l c e,rel:=λ l c e=>([(339,11,28),(349,11,23),(350,34,46),(351,36,48),(401,53,65)]:List (Nat×Nat×Nat)).contains (l,c,e)||T0.rel l c e }
noncomputable def Bx:Tab:={ T0 with attr:=λ x=>match ([("_PointJacobi__order",.int)]:List (Str×Kd)).lookup x with | some k=>k | none=>T0.attr x,spot:=λ l c e=>match ([]:List ((Nat×Nat×Nat)×Kd)).lookup (l,c,e) with | some k=>some k | none=>T0.spot l c e,rel:=λ l c e=>([]:List (Nat×Nat×Nat)).contains (l,c,e)||T0.rel l c e }
noncomputable def Cg:Tab:={ T0 with spot:=λ l c e=>match ([((434,11,28),.yes)]:List ((Nat×Nat×Nat)×Kd)).lookup (l,c,e) with | some k=>some k | none=>T0.spot l c e,rel:=λ l c e=>([(434,11,28)]:List (Nat×Nat×Nat)).contains (l,c,e)||T0.rel l c e }
noncomputable def GI:Tab:={ T0 with spot:=λ l c e=>match ([((550,7,17),.bool)]:List ((Nat×Nat×Nat)×Kd)).lookup (l,c,e) with | some k=>some k | none=>T0.spot l c e,rel:=λ l c e=>([(550,7,17)]:List (Nat×Nat×Nat)).contains (l,c,e)||T0.rel l c e }
noncomputable def EB:Tab:={ T0 with spot:=λ l c e=>match ([((644,7,24),.yes)]:List ((Nat×Nat×Nat)×Kd)).lookup (l,c,e) with | some k=>some k | none=>T0.spot l c e,rel:=λ l c e=>([(644,7,24)]:List (Nat×Nat×Nat)).contains (l,c,e)||T0.rel l c e }
noncomputable def GJ:Tab:={ T0 with spot:=λ l c e=>match ([((644,7,24),.no)]:List ((Nat×Nat×Nat)×Kd)).lookup (l,c,e) with | some k=>some k | none=>T0.spot l c e,rel:=λ l c e=>([(644,7,24)]:List (Nat×Nat×Nat)).contains (l,c,e)||T0.rel l c e }
noncomputable def Ci:Tab:={ T0 with spot:=λ l c e=>match ([((339,11,28),.yes)]:List ((Nat×Nat×Nat)×Kd)).lookup (l,c,e) with | some k=>some k | none=>T0.spot l c e,rel:=λ l c e=>([(339,11,28)]:List (Nat×Nat×Nat)).contains (l,c,e)||T0.rel l c e }
noncomputable def Cj:Tab:={ T0 with attr:=λ x=>match ([("_Point__order",.CX)]:List (Str×Kd)).lookup x with | some k=>k | none=>T0.attr x,spot:=λ l c e=>match ([((459,11,17),.no),((461,11,27),.yes)]:List ((Nat×Nat×Nat)×Kd)).lookup (l,c,e) with | some k=>some k | none=>T0.spot l c e,rel:=λ l c e=>([(459,11,17),(461,11,27)]:List (Nat×Nat×Nat)).contains (l,c,e)||T0.rel l c e }
noncomputable def ED:Tab:={ T0 with spot:=λ l c e=>match ([((482,11,27),.yes)]:List ((Nat×Nat×Nat)×Kd)).lookup (l,c,e) with | some k=>some k | none=>T0.spot l c e,rel:=λ l c e=>([(482,11,27)]:List (Nat×Nat×Nat)).contains (l,c,e)||T0.rel l c e }
end
local macro_rules | `(tactic| walk_at "bn")=>`(tactic| first | (with_reducible assumption) | (with_reducible exact bN.num _) | (with_reducible exact bN.mod (by assumption) (by assumption) (by assumption)) | (with_reducible exact bN.add (by walk_at "bn") (by walk_at "bn")) | (with_reducible exact bN.sub (by walk_at "bn") (by walk_at "bn")) | (with_reducible exact bN.mul (by walk_at "bn") (by walk_at "bn")) | (with_reducible exact bN.neg (by walk_at "bn")) | (with_reducible exact bN.sq (by walk_at "bn")) | (with_reducible exact bN.T3 (by walk_at "bn")))
local macro_rules | `(tactic| walk_at "sm")=>`(tactic| first | exact bN.small (by walk_at "bn") (by exact rfl) | exact .inl (bN.small (by walk_at "bn") (by exact rfl)) | exact .inr (bN.small (by walk_at "bn") (by exact rfl)))
noncomputable section
section
variable {bs:Bs} {d:Nat} {σ:List AO} {Q:AV→List AO→Prop}
structure Rd (p x y z:Int):Prop where
 x:0≤x∧x<p
 y:0≤y∧y<p
 z:0≤z∧z<p
theorem nT {P:Prop} [Decidable P] (h:(!decide (¬ P))=true):P:=by simpa using h
theorem nF {P:Prop} [Decidable P] (h:(!decide (¬ P))=false):¬ P:=by simpa using h
theorem bW (O:(U bs).Ok) {m:Nat} {p a b:Int} (hc:σ[m]? = some (.inst (fU p a b))) (q:Q (.int p) σ):ai (U bs) (d+1) (.cst (.ref gS)) [.inst au m] σ Q :=
 ai.of O (T:=T0) (by kernel_rfl) (by kernel_rfl) λ L=>Eq.mp (α:=aL m "_CurveFp__p" σ λ v=>dI v λ i=>Q (.int i) σ) (by kernel_rfl) (fP hc q)
theorem cT (O:(U bs).Ok) {m:Nat} {p a b:Int} (hc:σ[m]? = some (.inst (fU p a b))) (q:Q (.int a) σ):ai (U bs) (d+1) (.cst (.ref gU)) [.inst au m] σ Q :=
 ai.of O (T:=T0) (by kernel_rfl) (by kernel_rfl) λ L=>Eq.mp (α:=aL m "_CurveFp__a" σ λ v=>dI v λ i=>Q (.int i) σ) (by kernel_rfl) (fA hc q)
theorem Aq (O:(U bs).Ok) {s:AV} {p a b:Int} (C:Cv p a b) {X1 Y1:Int} {P:G} (hP:On p a b P) (hr:Rep p X1 Y1 1 P) (b1:bN 1000 X1) (b2:bN 1000 Y1) (ba:bN 1000 a)
 (q:∀ x y z,Rd p x y z→Rep p x y z (plus p a P P)→Q (.tup [.int x,.int y,.int z]) σ):ai (U bs) (d+1) (.cst (.ref eG)) [s,.int X1,.int Y1,.int p,.int a] σ Q :=
 ai.of O (T:=T0) (by kernel_rfl) (by kernel_rfl) λ L=>Eq.mp (α:=(af X1∨af X1)∧0<p∧∀ r:Int,r=((X1*X1)%p)→0≤r→r<p→(af Y1∨af Y1)∧0<p∧∀ r1:Int,r1=((Y1*Y1)%p)→0≤r1→r1<p→((!(decide (r1≠0)))=true→Q (.tup [.int 0,.int 0,.int 0]) σ)∧((!(decide (r1≠0)))=false→(af r1∨af r1)∧0<p∧∀ r2:Int,r2=((r1*r1)%p)→0≤r2→r2<p→((0:Int)≤2∧(2:Int)≤1000000∧af (X1+r1))∧(af 2∨af ((((X1+r1)^(2:Int).toNat)-r)-r2))∧0<p∧∀ r3:Int,r3=((2*((((X1+r1)^(2:Int).toNat)-r)-r2))%p)→0≤r3→r3<p→(af 3∨af r)∧(af ((3*r)+a)∨af ((3*r)+a))∧(af 2∨af r3)∧0<p∧∀ r4:Int,r4=(((((3*r)+a)*((3*r)+a))-(2*r3))%p)→0≤r4→r4<p→(af ((3*r)+a)∨af (r3-r4))∧(af 8∨af r2)∧0<p∧∀ r5:Int,r5=(((((3*r)+a)*(r3-r4))-(8*r2))%p)→0≤r5→r5<p→(af 2∨af Y1)∧0<p∧∀ r6:Int,r6=((2*Y1)%p)→0≤r6→r6<p→Q (.tup [.int r4,.int r5,.int r6]) σ)) (by kernel_rfl) (by
  have Hp:=C.pos
  have hp:=C.hp
  refine ⟨(by walk_at "sm"),⟨(by (first | assumption | decide | omega)),λ r e_r lG g9=>⟨(by walk_at "sm"),⟨(by (first | assumption | decide | omega)),λ r1 bC cj ck=>⟨λ h1=>?_,λ h2=>⟨(by walk_at "sm"),⟨(by (first | assumption | decide | omega)),λ r2 dX lZ mh=>⟨⟨(by (first | assumption | decide | omega)),⟨(by (first | assumption | decide | omega)),(by walk_at "sm")⟩⟩,⟨(by walk_at "sm"),⟨(by (first | assumption | decide | omega)),λ r3 fN lD lE=>⟨(by walk_at "sm"),⟨(by walk_at "sm"),⟨(by walk_at "sm"),⟨(by (first | assumption | decide | omega)),λ r4 wZ Ar As=>⟨(by walk_at "sm"),⟨(by walk_at "sm"),⟨(by (first | assumption | decide | omega)),λ r5 w4 zG zH=>⟨(by walk_at "sm"),⟨(by (first | assumption | decide | omega)),λ r6 yr Au Av=>?_⟩⟩⟩⟩⟩⟩⟩⟩⟩⟩⟩⟩⟩⟩⟩⟩⟩⟩⟩
  · refine q 0 0 0 ⟨⟨Int.le_refl 0,Hp⟩,⟨Int.le_refl 0,Hp⟩,⟨Int.le_refl 0,Hp⟩⟩ ?_
    rw [(AS C hP hr e_r bC rfl rfl rfl rfl rfl rfl).1 (nT h1)]
    exact Int.zero_emod p
  · exact q _ _ _ ⟨⟨Ar,As⟩,⟨zG,zH⟩,⟨Au,Av⟩⟩ ((AS C hP hr e_r bC dX fN rfl wZ w4 yr).2 (nF h2)))
end
end
noncomputable section
section
variable {bs:Bs} {d:Nat} {σ:List AO} {Q:AV→List AO→Prop}
def Ck (σ:List AO) (n:Nat) (p a b:Int):Prop:=∃ c x y z o g k,σ[n]? = some (.inst (fh c x y z o g k))∧σ[c]? = some (.inst (fU p a b))
theorem bN.of {p z:Int} (h:0≤z∧z<p) (hp:p≤((1000:Nat):Int)):bN 1000 z:=bN.mod h.1 h.2 hp
theorem gG {p z:Int} (h:0≤z∧z<p):z%p=z:=Int.emod_eq_of_lt h.1 h.2
theorem sZ (O:(U bs).Ok) {n:Nat} {p a b:Int} (C:Cv p a b) (hs:Ck σ n p a b) {X1 Y1 Z1:Int} {P:G} (hP:On p a b P) (hr:Rep p X1 Y1 Z1 P) (b1:bN 1000 X1) (b2:bN 1000 Y1) (hz:0≤Z1∧Z1<p) (ba:bN 1000 a)
 (q:∀ x y z,Rd p x y z→Rep p x y z (plus p a P P)→Q (.tup [.int x,.int y,.int z]) σ):ai (U bs) (d+2) (.cst (.ref cB)) [.inst ah n,.int X1,.int Y1,.int Z1,.int p,.int a] σ Q :=
 ai.of O (T:=T0) (by kernel_rfl) (by kernel_rfl) λ L=>Eq.mp (α:=((decide (Z1=1))=true→aC n "_double_with_z_1" σ∧ai (U bs) (d+1) (.cst (.ref 212)) [.inst 313 n,.int X1,.int Y1,.int p,.int a] σ λ v s=>d3 v λ x y z=>Q (.tup [.int x,.int y,.int z]) s)∧((decide (Z1=1))=false→((!(decide (Z1≠0)))=true→Q (.tup [.int 0,.int 0,.int 0]) σ)∧((!(decide (Z1≠0)))=false→(af X1∨af X1)∧0<p∧∀ r:Int,r=((X1*X1)%p)→0≤r→r<p→(af Y1∨af Y1)∧0<p∧∀ r1:Int,r1=((Y1*Y1)%p)→0≤r1→r1<p→((!(decide (r1≠0)))=true→Q (.tup [.int 0,.int 0,.int 0]) σ)∧((!(decide (r1≠0)))=false→(af r1∨af r1)∧0<p∧∀ r2:Int,r2=((r1*r1)%p)→0≤r2→r2<p→(af Z1∨af Z1)∧0<p∧∀ r3:Int,r3=((Z1*Z1)%p)→0≤r3→r3<p→((0:Int)≤2∧(2:Int)≤1000000∧af (X1+r1))∧(af 2∨af ((((X1+r1)^(2:Int).toNat)-r)-r2))∧0<p∧∀ r4:Int,r4=((2*((((X1+r1)^(2:Int).toNat)-r)-r2))%p)→0≤r4→r4<p→(af 3∨af r)∧(af a∨af r3)∧(af (a*r3)∨af r3)∧0<p∧∀ r5:Int,r5=(((3*r)+((a*r3)*r3))%p)→0≤r5→r5<p→(af r5∨af r5)∧(af 2∨af r4)∧0<p∧∀ r6:Int,r6=(((r5*r5)-(2*r4))%p)→0≤r6→r6<p→(af r5∨af (r4-r6))∧(af 8∨af r2)∧0<p∧∀ r7:Int,r7=(((r5*(r4-r6))-(8*r2))%p)→0≤r7→r7<p→((0:Int)≤2∧(2:Int)≤1000000∧af (Y1+Z1))∧0<p∧∀ r8:Int,r8=(((((Y1+Z1)^(2:Int).toNat)-r1)-r3)%p)→0≤r8→r8<p→Q (.tup [.int r6,.int r7,.int r8]) σ)))) (by kernel_rfl) (by
  have Hp:=C.pos
  have hp:=C.hp
  have b3:=bN.of hz hp
  have z0:Rd p 0 0 0:=⟨⟨Int.le_refl 0,Hp⟩,⟨Int.le_refl 0,Hp⟩,⟨Int.le_refl 0,Hp⟩⟩
  refine aG λ G kG=>?_
  obtain ⟨c,x,y,z,o,g,k,aY,d7⟩:=hs
  refine kG ?_
  refine ⟨λ h1=>⟨(aN aY (by kernel_rfl)),?_⟩,λ h2=>⟨λ h3=>?_,λ h4=>⟨(.inl (bN.small b1 rfl)),⟨Hp,λ r e_r lG g9=>⟨(.inl (bN.small b2 rfl)),⟨Hp,λ r1 bC cj ck=>⟨λ h5=>?_,λ h6=>⟨(.inl (bN.small (bN.mod cj ck hp) rfl)),⟨Hp,λ r2 dX lZ mh=>⟨(.inl (bN.small b3 rfl)),⟨Hp,λ r3 fN lD lE=>⟨⟨(by decide),⟨(by decide),(bN.small (bN.add b1 (bN.mod cj ck hp)) rfl)⟩⟩,⟨(.inl (bN.small (bN.num 2) rfl)),⟨Hp,λ r4 wZ Ar As=>⟨(.inl (bN.small (bN.num 3) rfl)),⟨(.inl (bN.small ba rfl)),⟨(.inl (bN.small (bN.mul ba (bN.mod lD lE hp)) rfl)),⟨Hp,λ r5 w4 zG zH=>⟨(.inl (bN.small (bN.mod zG zH hp) rfl)),⟨(.inl (bN.small (bN.num 2) rfl)),⟨Hp,λ r6 yr Au Av=>⟨(.inl (bN.small (bN.mod zG zH hp) rfl)),⟨(.inl (bN.small (bN.num 8) rfl)),⟨Hp,λ r7 Cm GK GL=>⟨⟨(by decide),⟨(by decide),(bN.small (bN.add b2 b3) rfl)⟩⟩,⟨Hp,λ r8 Cn Co Cp=>?_⟩⟩⟩⟩⟩⟩⟩⟩⟩⟩⟩⟩⟩⟩⟩⟩⟩⟩⟩⟩⟩⟩⟩⟩⟩⟩
  · have e:=of_decide_eq_true h1
    subst e
    exact Aq O C hP hr b1 b2 ba q
  · have e:Z1=0:=nT h3
    refine q 0 0 0 z0 ?_
    rw [dJ C hP hr (by rw [e]; exact Int.zero_emod p)]
    exact Int.zero_emod p
  · refine q 0 0 0 z0 ?_
    rw [(xO C hP hr e_r bC rfl rfl rfl rfl rfl rfl rfl).1 (nT h5)]
    exact Int.zero_emod p
  · have hz1:Z1%p≠0:=by rw [gG hz]; exact nF h4
    exact q _ _ _ ⟨⟨Au,Av⟩,⟨GK,GL⟩,⟨Co,Cp⟩⟩ ((xO C hP hr e_r bC dX fN wZ (by rw [w4,Int.emod_emod]) yr Cm Cn).2 (nF h6) hz1))
theorem By {x y:Int} (h:(!(decide (x≠0))&&!(decide (y≠0)))=true):x=0∧y=0:=by
 rw [Bool.and_eq_true] at h
 exact ⟨nT h.1,nT h.2⟩
theorem ug {x y:Int} (h:(!(decide (x≠0))&&!(decide (y≠0)))=false):¬ (x=0∧y=0):=λ ⟨e1,e2⟩=>by
 subst e1 e2; cases h
theorem EE (O:(U bs).Ok) {n:Nat} {p a b:Int} (C:Cv p a b) (hs:Ck σ n p a b) {X1 Y1 X2 Y2:Int} {P R:G} (hP:On p a b P) (hR:On p a b R) (hr:Rep p X1 Y1 1 P) (hr2:Rep p X2 Y2 1 R) (b1:bN 1000 X1) (b2:bN 1000 Y1) (b3:bN 1000 X2) (b4:bN 1000 Y2) (ba:bN 1000 a)
 (q:∀ x y z,Rd p x y z→(((X2-X1)%p=0→(Y2-Y1)%p=0→X1=X2∧Y1=Y2)→Rep p x y z (plus p a P R))→Q (.tup [.int x,.int y,.int z]) σ):ai (U bs) (d+2) (.cst (.ref fS)) [.inst ah n,.int X1,.int Y1,.int X2,.int Y2,.int p] σ Q :=
 ai.of O (T:=T0) (by kernel_rfl) (by kernel_rfl) λ L=>Eq.mp (α:=(af (X2-X1)∨af (X2-X1))∧(af 4∨af ((X2-X1)*(X2-X1)))∧0<p∧∀ r:Int,r=((4*((X2-X1)*(X2-X1)))%p)→0≤r→r<p→(af (X2-X1)∨af r)∧(af 2∨af (Y2-Y1))∧(((!(decide ((X2-X1)≠0)))&&(!(decide ((2*(Y2-Y1))≠0))))=true→aC n "_double_with_z_1" σ∧aL n "_PointJacobi__curve" σ λ v=>dO 88 v λ i=>aC i "a" σ∧ai (U bs) (d+1) (.cst (.ref 64)) [.inst 88 i] σ λ v1 s=>dI v1 λ i1=>ai (U bs) (d+1) (.cst (.ref 212)) [.inst 313 n,.int X1,.int Y1,.int p,.int i1] s λ v2 s1=>d3 v2 λ x y z=>Q (.tup [.int x,.int y,.int z]) s1)∧(((!(decide ((X2-X1)≠0)))&&(!(decide ((2*(Y2-Y1))≠0))))=false→(af X1∨af r)∧((0:Int)≤2∧(2:Int)≤1000000∧af (2*(Y2-Y1)))∧(af 2∨af (X1*r))∧0<p∧∀ r1:Int,r1=(((((2*(Y2-Y1))^(2:Int).toNat)-((X2-X1)*r))-(2*(X1*r)))%p)→0≤r1→r1<p→(af (2*(Y2-Y1))∨af ((X1*r)-r1))∧(af 2∨af Y1)∧(af (2*Y1)∨af ((X2-X1)*r))∧0<p∧∀ r2:Int,r2=((((2*(Y2-Y1))*((X1*r)-r1))-((2*Y1)*((X2-X1)*r)))%p)→0≤r2→r2<p→(af 2∨af (X2-X1))∧0<p∧∀ r3:Int,r3=((2*(X2-X1))%p)→0≤r3→r3<p→Q (.tup [.int r1,.int r2,.int r3]) σ)) (by kernel_rfl) (by
  have Hp:=C.pos
  have hp:=C.hp
  refine aG λ G kG=>?_
  obtain ⟨c,x,y,z,o,g,k,aY,d7⟩:=hs
  refine kG ?_
  refine ⟨(.inl (bN.small (bN.sub b3 b1) rfl)),⟨(.inl (bN.small (bN.num 4) rfl)),⟨Hp,λ r e_r lG g9=>⟨(.inl (bN.small (bN.sub b3 b1) rfl)),⟨(.inl (bN.small (bN.num 2) rfl)),⟨λ h1=>⟨(aN aY (by kernel_rfl)),(tP aY ⟨rfl,⟨(aN d7 (by kernel_rfl)),cT O d7 (Aq O C hP hr b1 b2 ba λ x y z rd rep=>q x y z rd λ hok=>?_)⟩⟩)⟩,λ h2=>⟨(.inl (bN.small b1 rfl)),⟨⟨(by decide),⟨(by decide),(bN.small (bN.mul (bN.num 2) (bN.sub b4 b2)) rfl)⟩⟩,⟨(.inl (bN.small (bN.num 2) rfl)),⟨Hp,λ r1 bC cj ck=>⟨(.inl (bN.small (bN.mul (bN.num 2) (bN.sub b4 b2)) rfl)),⟨(.inl (bN.small (bN.num 2) rfl)),⟨(.inl (bN.small (bN.mul (bN.num 2) b2) rfl)),⟨Hp,λ r2 dX lZ mh=>⟨(.inl (bN.small (bN.num 2) rfl)),⟨Hp,λ r3 fN lD lE=>?_⟩⟩⟩⟩⟩⟩⟩⟩⟩⟩⟩⟩⟩⟩⟩⟩
  · have e:=By h1
    rw [← (C7 C hP hR hr hr2 hok rfl rfl rfl rfl rfl rfl rfl rfl rfl).1 e.1 e.2]
    exact rep
  · exact q _ _ _ ⟨⟨cj,ck⟩,⟨lZ,mh⟩,⟨lD,lE⟩⟩ λ hok=>((C7 C hP hR hr hr2 hok rfl rfl e_r rfl rfl rfl bC dX fN).2 (ug h2)))
theorem Cq (O:(U bs).Ok) {n:Nat} {p a b:Int} (C:Cv p a b) (hs:Ck σ n p a b) {X1 Y1 Z1 X2 Y2:Int} {P R:G} (hP:On p a b P) (hR:On p a b R) (hr:Rep p X1 Y1 Z1 P) (hr2:Rep p X2 Y2 Z1 R) (b1:bN 1000 X1) (b2:bN 1000 Y1) (b3:bN 1000 X2) (b4:bN 1000 Y2) (ba:bN 1000 a) (hz:0≤Z1∧Z1<p) (hz0:Z1≠0)
 (q:∀ x y z,Rd p x y z→Rep p x y z (plus p a P R)→Q (.tup [.int x,.int y,.int z]) σ):ai (U bs) (d+3) (.cst (.ref fK)) [.inst ah n,.int X1,.int Y1,.int Z1,.int X2,.int Y2,.int p] σ Q :=
 ai.of O (T:=T0) (by kernel_rfl) (by kernel_rfl) λ L=>Eq.mp (α:=((0:Int)≤2∧(2:Int)≤1000000∧af (X2-X1))∧0<p∧∀ r:Int,r=(((X2-X1)^(2:Int).toNat)%p)→0≤r→r<p→(af X1∨af r)∧0<p∧∀ r1:Int,r1=((X1*r)%p)→0≤r1→r1<p→(af X2∨af r)∧((0:Int)≤2∧(2:Int)≤1000000∧af (Y2-Y1))∧0<p∧∀ r2:Int,r2=(((Y2-Y1)^(2:Int).toNat)%p)→0≤r2→r2<p→(((!(decide (r≠0)))&&(!(decide (r2≠0))))=true→aC n "_double" σ∧aL n "_PointJacobi__curve" σ λ v=>dO 88 v λ i=>aC i "a" σ∧ai (U bs) (d+2) (.cst (.ref 64)) [.inst 88 i] σ λ v1 s=>dI v1 λ i1=>ai (U bs) (d+2) (.cst (.ref 219)) [.inst 313 n,.int X1,.int Y1,.int Z1,.int p,.int i1] s λ v2 s1=>d3 v2 λ x y z=>Q (.tup [.int x,.int y,.int z]) s1)∧(((!(decide (r≠0)))&&(!(decide (r2≠0))))=false→0<p∧∀ r3:Int,r3=(((r2-r1)-(X2*r))%p)→0≤r3→r3<p→(af (Y2-Y1)∨af (r1-r3))∧(af Y1∨af ((X2*r)-r1))∧0<p∧∀ r4:Int,r4=((((Y2-Y1)*(r1-r3))-(Y1*((X2*r)-r1)))%p)→0≤r4→r4<p→(af Z1∨af (X2-X1))∧0<p∧∀ r5:Int,r5=((Z1*(X2-X1))%p)→0≤r5→r5<p→Q (.tup [.int r3,.int r4,.int r5]) σ)) (by kernel_rfl) (by
  have Hp:=C.pos
  have hp:=C.hp
  have b5:=bN.of hz hp
  have hs':=hs
  have hz1:Z1%p≠0:=by rw [gG hz]; exact hz0
  refine aG λ G kG=>?_
  obtain ⟨c,x,y,z,o,g,k,aY,d7⟩:=hs
  refine kG ?_
  refine ⟨⟨(by decide),⟨(by decide),(bN.small (bN.sub b3 b1) rfl)⟩⟩,⟨Hp,λ r e_r lG g9=>⟨(.inl (bN.small b1 rfl)),⟨Hp,λ r1 bC cj ck=>⟨(.inl (bN.small b3 rfl)),⟨⟨(by decide),⟨(by decide),(bN.small (bN.sub b4 b2) rfl)⟩⟩,⟨Hp,λ r2 dX lZ mh=>⟨λ h1=>⟨(aN aY (by kernel_rfl)),(tP aY<|⟨rfl,⟨(aN d7 (by kernel_rfl)),?_⟩⟩)⟩,λ h2=>⟨Hp,λ r3 fN lD lE=>⟨(.inl (bN.small (bN.sub b4 b2) rfl)),⟨(.inl (bN.small b2 rfl)),⟨Hp,λ r4 wZ Ar As=>⟨(.inl (bN.small b5 rfl)),⟨Hp,λ r5 w4 zG zH=>?_⟩⟩⟩⟩⟩⟩⟩⟩⟩⟩⟩⟩⟩⟩
  · refine cT O d7 (sZ O C hs' hP hr b1 b2 hz ba ?_)
    have e:=By h1
    rw [← (AX C hP hR hr hr2 hz1 e_r rfl rfl dX rfl rfl rfl).1 e.1 e.2] at q
    exact q
  · exact q _ _ _ ⟨⟨lD,lE⟩,⟨Ar,As⟩,⟨zG,zH⟩⟩ ((AX C hP hR hr hr2 hz1 e_r bC rfl dX fN wZ w4).2 (ug h2)))
theorem xD (O:(U bs).Ok) {n:Nat} {p a b:Int} (C:Cv p a b) (hs:Ck σ n p a b) {X1 Y1 Z1 X2 Y2:Int} {P R:G} (hP:On p a b P) (hR:On p a b R) (hr:Rep p X1 Y1 Z1 P) (hr2:Rep p X2 Y2 1 R) (b1:bN 1000 X1) (b2:bN 1000 Y1) (b3:bN 1000 X2) (b4:bN 1000 Y2) (ba:bN 1000 a) (hz:0≤Z1∧Z1<p) (hz0:Z1≠0)
 (q:∀ x y z,Rd p x y z→Rep p x y z (plus p a P R)→Q (.tup [.int x,.int y,.int z]) σ):ai (U bs) (d+3) (.cst (.ref fL)) [.inst ah n,.int X1,.int Y1,.int Z1,.int X2,.int Y2,.int p] σ Q :=
 ai.of O (T:=T0) (by kernel_rfl) (by kernel_rfl) λ L=>Eq.mp (α:=(af Z1∨af Z1)∧0<p∧∀ r:Int,r=((Z1*Z1)%p)→0≤r→r<p→(af X2∨af r)∧0<p∧∀ r1:Int,r1=((X2*r)%p)→0≤r1→r1<p→(af Y2∨af Z1)∧(af (Y2*Z1)∨af r)∧0<p∧∀ r2:Int,r2=(((Y2*Z1)*r)%p)→0≤r2→r2<p→0<p∧∀ r3:Int,r3=((r1-X1)%p)→0≤r3→r3<p→(af r3∨af r3)∧0<p∧∀ r4:Int,r4=((r3*r3)%p)→0≤r4→r4<p→(af 4∨af r4)∧0<p∧∀ r5:Int,r5=((4*r4)%p)→0≤r5→r5<p→(af r3∨af r5)∧(af 2∨af (r2-Y1))∧0<p∧∀ r6:Int,r6=((2*(r2-Y1))%p)→0≤r6→r6<p→(((!(decide (r6≠0)))&&(!(decide (r3≠0))))=true→aC n "_double_with_z_1" σ∧aL n "_PointJacobi__curve" σ λ v=>dO 88 v λ i=>aC i "a" σ∧ai (U bs) (d+2) (.cst (.ref 64)) [.inst 88 i] σ λ v1 s=>dI v1 λ i1=>ai (U bs) (d+2) (.cst (.ref 212)) [.inst 313 n,.int X2,.int Y2,.int p,.int i1] s λ v2 s1=>d3 v2 λ x y z=>Q (.tup [.int x,.int y,.int z]) s1)∧(((!(decide (r6≠0)))&&(!(decide (r3≠0))))=false→(af X1∨af r5)∧(af r6∨af r6)∧(af 2∨af (X1*r5))∧0<p∧∀ r7:Int,r7=((((r6*r6)-(r3*r5))-(2*(X1*r5)))%p)→0≤r7→r7<p→(af r6∨af ((X1*r5)-r7))∧(af 2∨af Y1)∧(af (2*Y1)∨af (r3*r5))∧0<p∧∀ r8:Int,r8=(((r6*((X1*r5)-r7))-((2*Y1)*(r3*r5)))%p)→0≤r8→r8<p→((0:Int)≤2∧(2:Int)≤1000000∧af (Z1+r3))∧0<p∧∀ r9:Int,r9=(((((Z1+r3)^(2:Int).toNat)-r)-r4)%p)→0≤r9→r9<p→Q (.tup [.int r7,.int r8,.int r9]) σ)) (by kernel_rfl) (by
  have Hp:=C.pos
  have hp:=C.hp
  have b5:=bN.of hz hp
  have hz1:Z1%p≠0:=by rw [gG hz]; exact hz0
  refine aG λ G kG=>?_
  obtain ⟨c,x,y,z,o,g,k,aY,d7⟩:=hs
  refine kG ?_
  refine ⟨(.inl (bN.small b5 rfl)),⟨Hp,λ r e_r lG g9=>⟨(.inl (bN.small b3 rfl)),⟨Hp,λ r1 bC cj ck=>⟨(.inl (bN.small b4 rfl)),⟨(.inl (bN.small (bN.mul b4 b5) rfl)),⟨Hp,λ r2 dX lZ mh=>⟨Hp,λ r3 fN lD lE=>⟨(.inl (bN.small (bN.mod lD lE hp) rfl)),⟨Hp,λ r4 wZ Ar As=>⟨(.inl (bN.small (bN.num 4) rfl)),⟨Hp,λ r5 w4 zG zH=>⟨(.inl (bN.small (bN.mod lD lE hp) rfl)),⟨(.inl (bN.small (bN.num 2) rfl)),⟨Hp,λ r6 yr Au Av=>⟨λ h1=>⟨(aN aY (by kernel_rfl)),(tP aY<|⟨rfl,⟨(aN d7 (by kernel_rfl)),?_⟩⟩)⟩,λ h2=>⟨(.inl (bN.small b1 rfl)),⟨(.inl (bN.small (bN.mod Au Av hp) rfl)),⟨(.inl (bN.small (bN.num 2) rfl)),⟨Hp,λ r7 Cm GK GL=>⟨(.inl (bN.small (bN.mod Au Av hp) rfl)),⟨(.inl (bN.small (bN.num 2) rfl)),⟨(.inl (bN.small (bN.mul (bN.num 2) b2) rfl)),⟨Hp,λ r8 Cn Co Cp=>⟨⟨(by decide),⟨(by decide),(bN.small (bN.add b5 (bN.mod lD lE hp)) rfl)⟩⟩,⟨Hp,λ r9 Kn Ko Kp=>?_⟩⟩⟩⟩⟩⟩⟩⟩⟩⟩⟩⟩⟩⟩⟩⟩⟩⟩⟩⟩⟩⟩⟩⟩⟩⟩
  · refine cT O d7 (Aq O C hR hr2 b3 b4 ba ?_)
    have e:=By h1
    have e2:=(AW C hP hR hr hr2 hz1 e_r bC dX fN rfl rfl rfl yr rfl rfl rfl rfl).1 e.1 e.2
    rw [e2] at q
    exact q
  · exact q _ _ _ ⟨⟨GK,GL⟩,⟨Co,Cp⟩,⟨Ko,Kp⟩⟩ ((AW C hP hR hr hr2 hz1 e_r bC dX fN wZ w4 rfl yr rfl Cm Cn Kn).2 (ug h2)))
theorem Cr (O:(U bs).Ok) {n:Nat} {p a b:Int} (C:Cv p a b) (hs:Ck σ n p a b) {X1 Y1 Z1 X2 Y2 Z2:Int} {P R:G} (hP:On p a b P) (hR:On p a b R) (hr:Rep p X1 Y1 Z1 P) (hr2:Rep p X2 Y2 Z2 R) (b1:bN 1000 X1) (b2:bN 1000 Y1) (b3:bN 1000 X2) (b4:bN 1000 Y2) (ba:bN 1000 a) (hz:0≤Z1∧Z1<p) (hz0:Z1≠0) (hz':0≤Z2∧Z2<p) (Ql:Z2≠0)
 (q:∀ x y z,Rd p x y z→Rep p x y z (plus p a P R)→Q (.tup [.int x,.int y,.int z]) σ):ai (U bs) (d+3) (.cst (.ref fM)) [.inst ah n,.int X1,.int Y1,.int Z1,.int X2,.int Y2,.int Z2,.int p] σ Q :=
 ai.of O (T:=T0) (by kernel_rfl) (by kernel_rfl) λ L=>Eq.mp (α:=(af Z1∨af Z1)∧0<p∧∀ r:Int,r=((Z1*Z1)%p)→0≤r→r<p→(af Z2∨af Z2)∧0<p∧∀ r1:Int,r1=((Z2*Z2)%p)→0≤r1→r1<p→(af X1∨af r1)∧0<p∧∀ r2:Int,r2=((X1*r1)%p)→0≤r2→r2<p→(af X2∨af r)∧0<p∧∀ r3:Int,r3=((X2*r)%p)→0≤r3→r3<p→(af Y1∨af Z2)∧(af (Y1*Z2)∨af r1)∧0<p∧∀ r4:Int,r4=(((Y1*Z2)*r1)%p)→0≤r4→r4<p→(af Y2∨af Z1)∧(af (Y2*Z1)∨af r)∧0<p∧∀ r5:Int,r5=(((Y2*Z1)*r)%p)→0≤r5→r5<p→(af 4∨af (r3-r2))∧(af (4*(r3-r2))∨af (r3-r2))∧0<p∧∀ r6:Int,r6=(((4*(r3-r2))*(r3-r2))%p)→0≤r6→r6<p→(af (r3-r2)∨af r6)∧0<p∧∀ r7:Int,r7=(((r3-r2)*r6)%p)→0≤r7→r7<p→(af 2∨af (r5-r4))∧0<p∧∀ r8:Int,r8=((2*(r5-r4))%p)→0≤r8→r8<p→(((!(decide ((r3-r2)≠0)))&&(!(decide (r8≠0))))=true→aC n "_double" σ∧aL n "_PointJacobi__curve" σ λ v=>dO 88 v λ i=>aC i "a" σ∧ai (U bs) (d+2) (.cst (.ref 64)) [.inst 88 i] σ λ v1 s=>dI v1 λ i1=>ai (U bs) (d+2) (.cst (.ref 219)) [.inst 313 n,.int X1,.int Y1,.int Z1,.int p,.int i1] s λ v2 s1=>d3 v2 λ x y z=>Q (.tup [.int x,.int y,.int z]) s1)∧(((!(decide ((r3-r2)≠0)))&&(!(decide (r8≠0))))=false→(af r2∨af r6)∧(af r8∨af r8)∧(af 2∨af (r2*r6))∧0<p∧∀ r9:Int,r9=((((r8*r8)-r7)-(2*(r2*r6)))%p)→0≤r9→r9<p→(af r8∨af ((r2*r6)-r9))∧(af 2∨af r4)∧(af (2*r4)∨af r7)∧0<p∧∀ Il:Int,Il=(((r8*((r2*r6)-r9))-((2*r4)*r7))%p)→0≤Il→Il<p→((0:Int)≤2∧(2:Int)≤1000000∧af (Z1+Z2))∧(af ((((Z1+Z2)^(2:Int).toNat)-r)-r1)∨af (r3-r2))∧0<p∧∀ NN:Int,NN=((((((Z1+Z2)^(2:Int).toNat)-r)-r1)*(r3-r2))%p)→0≤NN→NN<p→Q (.tup [.int r9,.int Il,.int NN]) σ)) (by kernel_rfl) (by
  have Hp:=C.pos
  have hp:=C.hp
  have b5:=bN.of hz hp
  have b6:=bN.of hz' hp
  have hs':=hs
  have hz1:Z1%p≠0:=by rw [gG hz]; exact hz0
  have hz2:Z2%p≠0:=by rw [gG hz']; exact Ql
  refine aG λ G kG=>?_
  obtain ⟨c,x,y,z,o,g,k,aY,d7⟩:=hs
  refine kG ?_
  refine ⟨(.inl (bN.small b5 rfl)),⟨Hp,λ r e_r lG g9=>⟨(.inl (bN.small b6 rfl)),⟨Hp,λ r1 bC cj ck=>⟨(.inl (bN.small b1 rfl)),⟨Hp,λ r2 dX lZ mh=>⟨(.inl (bN.small b3 rfl)),⟨Hp,λ r3 fN lD lE=>⟨(.inl (bN.small b2 rfl)),⟨(.inl (bN.small (bN.mul b2 b6) rfl)),⟨Hp,λ r4 wZ Ar As=>⟨(.inl (bN.small b4 rfl)),⟨(.inl (bN.small (bN.mul b4 b5) rfl)),⟨Hp,λ r5 w4 zG zH=>⟨(.inl (bN.small (bN.num 4) rfl)),⟨(.inl (bN.small (bN.mul (bN.num 4) (bN.sub (bN.mod lD lE hp) (bN.mod lZ mh hp))) rfl)),⟨Hp,λ r6 yr Au Av=>⟨(.inl (bN.small (bN.sub (bN.mod lD lE hp) (bN.mod lZ mh hp)) rfl)),⟨Hp,λ r7 Cm GK GL=>⟨(.inl (bN.small (bN.num 2) rfl)),⟨Hp,λ r8 Cn Co Cp=>⟨λ h1=>⟨(aN aY (by kernel_rfl)),(tP aY<|⟨rfl,⟨(aN d7 (by kernel_rfl)),?_⟩⟩)⟩,λ h2=>⟨(.inl (bN.small (bN.mod lZ mh hp) rfl)),⟨(.inl (bN.small (bN.mod Co Cp hp) rfl)),⟨(.inl (bN.small (bN.num 2) rfl)),⟨Hp,λ r9 Kn Ko Kp=>⟨(.inl (bN.small (bN.mod Co Cp hp) rfl)),⟨(.inl (bN.small (bN.num 2) rfl)),⟨(.inl (bN.small (bN.mul (bN.num 2) (bN.mod Ar As hp)) rfl)),⟨Hp,λ Il NO NP NQ=>⟨⟨(by decide),⟨(by decide),(bN.small (bN.add b5 b6) rfl)⟩⟩,⟨(.inl (bN.small (bN.sub (bN.sub (bN.sq (bN.add b5 b6)) (bN.mod lG g9 hp)) (bN.mod cj ck hp)) rfl)),⟨Hp,λ NN NR NS NT=>?_⟩⟩⟩⟩⟩⟩⟩⟩⟩⟩⟩⟩⟩⟩⟩⟩⟩⟩⟩⟩⟩⟩⟩⟩⟩⟩⟩⟩⟩⟩⟩⟩⟩
  · refine cT O d7 (sZ O C hs' hP hr b1 b2 hz ba ?_)
    have e:=By h1
    rw [← (AU C hP hR hr hr2 hz1 hz2 e_r bC dX fN wZ w4 rfl yr Cm Cn rfl rfl rfl rfl).1 e.1 e.2] at q
    exact q
  · exact q _ _ _ ⟨⟨Ko,Kp⟩,⟨NP,NQ⟩,⟨NS,NT⟩⟩ ((AU C hP hR hr hr2 hz1 hz2 e_r bC dX fN wZ w4 rfl yr Cm Cn rfl Kn NO NR).2 (ug h2)))
def Kq (p X1 Y1 Z1 X2 Y2 Z2:Int):Prop:=Z1=1→Z2=1→(X2-X1)%p=0→(Y2-Y1)%p=0→X1=X2∧Y1=Y2
theorem BA (O:(U bs).Ok) {n:Nat} {p a b:Int} (C:Cv p a b) (hs:Ck σ n p a b) {X1 Y1 Z1 X2 Y2 Z2:Int} {P R:G} (hP:On p a b P) (hR:On p a b R) (hr:Rep p X1 Y1 Z1 P) (hr2:Rep p X2 Y2 Z2 R) (b1:bN 1000 X1) (b2:bN 1000 Y1) (b3:bN 1000 X2) (b4:bN 1000 Y2) (ba:bN 1000 a) (hz:0≤Z1∧Z1<p) (hz':0≤Z2∧Z2<p)
 (qT:∀ x y z,Rd p x y z→(Kq p X1 Y1 Z1 X2 Y2 Z2→Rep p x y z (plus p a P R))→Q (.tup [.int x,.int y,.int z]) σ):ai (U bs) (d+4) (.cst (.ref az)) [.inst ah n,.int X1,.int Y1,.int Z1,.int X2,.int Y2,.int Z2,.int p] σ Q :=
 ai.of O (T:=T0) (by kernel_rfl) (by kernel_rfl) λ L=>Eq.mp (α:=((!(decide (Z1≠0)))=true→0<p∧∀ r:Int,r=(X2%p)→0≤r→r<p→0<p∧∀ r1:Int,r1=(Y2%p)→0≤r1→r1<p→0<p∧∀ r2:Int,r2=(Z2%p)→0≤r2→r2<p→Q (.tup [.int r,.int r1,.int r2]) σ)∧((!(decide (Z1≠0)))=false→((!(decide (Z2≠0)))=true→0<p∧∀ r:Int,r=(X1%p)→0≤r→r<p→0<p∧∀ r1:Int,r1=(Y1%p)→0≤r1→r1<p→0<p∧∀ r2:Int,r2=(Z1%p)→0≤r2→r2<p→Q (.tup [.int r,.int r1,.int r2]) σ)∧((!(decide (Z2≠0)))=false→((decide (Z1=Z2))=true→((decide (Z1=1))=true→aC n "_add_with_z_1" σ∧ai (U bs) (d+3) (.cst (.ref 233)) [.inst 313 n,.int X1,.int Y1,.int X2,.int Y2,.int p] σ λ v s=>d3 v λ x y z=>Q (.tup [.int x,.int y,.int z]) s)∧((decide (Z1=1))=false→aC n "_add_with_z_eq" σ∧ai (U bs) (d+3) (.cst (.ref 240)) [.inst 313 n,.int X1,.int Y1,.int Z1,.int X2,.int Y2,.int p] σ λ v s=>d3 v λ x y z=>Q (.tup [.int x,.int y,.int z]) s))∧((decide (Z1=Z2))=false→((decide (Z1=1))=true→aC n "_add_with_z2_1" σ∧ai (U bs) (d+3) (.cst (.ref 247)) [.inst 313 n,.int X2,.int Y2,.int Z2,.int X1,.int Y1,.int p] σ λ v s=>d3 v λ x y z=>Q (.tup [.int x,.int y,.int z]) s)∧((decide (Z1=1))=false→((decide (Z2=1))=true→aC n "_add_with_z2_1" σ∧ai (U bs) (d+3) (.cst (.ref 247)) [.inst 313 n,.int X1,.int Y1,.int Z1,.int X2,.int Y2,.int p] σ λ v s=>d3 v λ x y z=>Q (.tup [.int x,.int y,.int z]) s)∧((decide (Z2=1))=false→aC n "_add_with_z_ne" σ∧ai (U bs) (d+3) (.cst (.ref 254)) [.inst 313 n,.int X1,.int Y1,.int Z1,.int X2,.int Y2,.int Z2,.int p] σ λ v s=>d3 v λ x y z=>Q (.tup [.int x,.int y,.int z]) s)))))) (by kernel_rfl) (by
  have Hp:=C.pos
  have q:∀ x y z,Rd p x y z→Rep p x y z (plus p a P R)→Q (.tup [.int x,.int y,.int z]) σ:=λ x y z rd rep=>qT x y z rd λ _=>rep
  have hs':=hs
  refine aG λ G kG=>?_
  obtain ⟨c,x,y,z,o,g,k,aY,d7⟩:=hs
  refine kG ?_
  refine ⟨λ h1=>⟨Hp,λ r e_r lG g9=>⟨Hp,λ r1 bC cj ck=>⟨Hp,λ r2 dX lZ mh=>?_⟩⟩⟩,λ h2=>⟨λ h3=>⟨Hp,λ r e_r lG g9=>⟨Hp,λ r1 bC cj ck=>⟨Hp,λ r2 dX lZ mh=>?_⟩⟩⟩,λ h4=>⟨λ h5=>⟨λ h6=>⟨(aN aY (by kernel_rfl)),?_⟩,λ h7=>⟨(aN aY (by kernel_rfl)),?_⟩⟩,λ h8=>⟨λ h9=>⟨(aN aY (by kernel_rfl)),?_⟩,λ PS=>⟨λ h11=>⟨(aN aY (by kernel_rfl)),?_⟩,λ h12=>⟨(aN aY (by kernel_rfl)),?_⟩⟩⟩⟩⟩⟩
  · have e:=nT h1
    refine q _ _ _ ⟨⟨lG,g9⟩,⟨cj,ck⟩,⟨lZ,mh⟩⟩ ?_
    rw [dJ C hP hr (by rw [e]; exact Int.zero_emod p),e_r,bC,dX]
    exact AY C hR hr2
  · have e:=nT h3
    refine q _ _ _ ⟨⟨lG,g9⟩,⟨cj,ck⟩,⟨lZ,mh⟩⟩ ?_
    rw [dJ C hR hr2 (by rw [e]; exact Int.zero_emod p),cR,e_r,bC,dX]
    exact AY C hP hr
  · have e:=of_decide_eq_true h5
    have e1:=of_decide_eq_true h6
    subst e1
    rw [← e] at hr2
    exact EE O C hs' hP hR hr hr2 b1 b2 b3 b4 ba λ x y z rd rep=>qT x y z rd λ hok=>rep (hok rfl e.symm)
  · have e:=of_decide_eq_true h5
    rw [← e] at hr2
    exact Cq O C hs' hP hR hr hr2 b1 b2 b3 b4 ba hz (nF h2) q
  · have e1:=of_decide_eq_true h9
    subst e1
    rw [w6 C hP hR] at q
    exact xD O C hs' hR hP hr2 hr b3 b4 b1 b2 ba hz' (nF h4) q
  · have e1:=of_decide_eq_true h11
    subst e1
    exact xD O C hs' hP hR hr hr2 b1 b2 b3 b4 ba hz (nF h2) q
  · exact Cr O C hs' hP hR hr hr2 b1 b2 b3 b4 ba hz (nF h2) hz' (nF h4) q)
theorem qR (O:(U bs).Ok) {n:Nat} {p a b:Int} (C:Cv p a b) (hs:Ck σ n p a b) {X1 Y1 Z1 X2 Y2 Z2:Int} {P R:G} (hP:On p a b P) (hR:On p a b R) (hr:Rep p X1 Y1 Z1 P) (hr2:Rep p X2 Y2 Z2 R) (b1:bN 1000 X1) (b2:bN 1000 Y1) (b3:bN 1000 X2) (b4:bN 1000 Y2) (ba:bN 1000 a) (hz:0≤Z1∧Z1<p) (hz':0≤Z2∧Z2<p)
 (hok:Kq p X1 Y1 Z1 X2 Y2 Z2) (q:∀ x y z,Rd p x y z→Rep p x y z (plus p a P R)→Q (.tup [.int x,.int y,.int z]) σ):ai (U bs) (d+4) (.cst (.ref az)) [.inst ah n,.int X1,.int Y1,.int Z1,.int X2,.int Y2,.int Z2,.int p] σ Q :=
 BA O C hs hP hR hr hr2 b1 b2 b3 b4 ba hz hz' λ x y z rd rep=>q x y z rd (rep hok)
end
end
noncomputable section
section
variable {bs:Bs} {d:Nat} {σ:List AO} {Q:AV→List AO→Prop}
def Qm (a4:Int) (a3:Int) (a2:Int) (m:Nat) (I:Int→Int→Int→Int→Nat→List AO→Prop) (a1:Int) (aa:List AO) (p:Int) (Q:AV→List AO→Prop):Prop:=((decide (a4≠0))=true→(0<a4∧a4<1073741824)∧(af (a3 / a4)∨af a4)∧(af (a3 / a4)∨af a2)∧∃ m':Nat,m'<m∧I a2 (a1-((a3 / a4)*a2)) a4 (a3-((a3 / a4)*a4)) m' aa)∧((decide (a4≠0))=false→((decide (a3≠1))=true→False)∧((decide (a3≠1))=false→0<p∧∀ r1:Int,r1=(a1%p)→0≤r1→r1<p→Q (.int r1) aa))
theorem EF (O:(U bs).Ok) {a p:Int} (O4:1<p) (hp:p≤((1000:Nat):Int)) (hi:∃ b,(a*b)%p=1) (q:∀ r,0≤r→r<p→(r*a)%p=1→Q (.int r) σ) :
 ai (U bs) (d+1) (.cst (.ref wU)) [.int a,.int p] σ Q :=
 ai.of O (T:=T0) (by kernel_rfl) (by kernel_rfl) λ L=>Eq.mp (α:=0<p∧∀ r:Int,r=(a%p)→0≤r→r<p→((decide (p=1))=true→Q (.int 0) σ)∧((decide (p=1))=false→∃ I:Int→Int→Int→Int→Nat→List AO→Prop,(∃ m:Nat,I 0 1 p r m σ)∧∀ a1:Int,∀ a2:Int,∀ a3:Int,∀ a4:Int,∀ m:Nat,∀ aa:List AO,I a1 a2 a3 a4 m aa→Qm a4 a3 a2 m I a1 aa p Q)) (by kernel_rfl) (by
  have Hp:0<p:=(Lq.ls (by decide) O4)
  refine ⟨Hp,λ r e_r lG g9=>⟨λ h1=>?_,λ h2=>⟨λ a1 a2 a3 a4 m aa=>aa=σ∧Eu p a a1 a2 a3 a4∧m=a4.toNat,⟨⟨_,rfl,?_,rfl⟩,λ a1 a2 a3 a4 m aa h3=>?_⟩⟩⟩⟩
  · have:=of_decide_eq_true h1; lia
  · rw [e_r]; exact Eu.start O4 hi
  · obtain ⟨rfl,E,rfl⟩:=h3
    refine ⟨λ h4=>?_,λ h5=>⟨λ h6=>?_,λ h7=>⟨Hp,λ r1 bC cj ck=>?_⟩⟩⟩
    · have hd:=of_decide_eq_true h4
      have S:=E.step hd
      have d0:=E.d0
      have dp:=E.dp
      have s1:bN 1000 (a3 / a4):=bN.gO (Int.ediv_nonneg (Int.le_of_lt E.r0) d0) (Int.le_trans (Int.ediv_le_self _ (Int.le_of_lt E.r0)) (Int.le_trans E.rp hp))
      exact ⟨⟨(Lq.Rh d0 (of_decide_eq_true h4)),Lq.ls (Lq.ll dp hp) (by decide)⟩,⟨.inl (s1.small rfl),⟨.inl (s1.small rfl),⟨_,S.2,rfl,S.1,rfl⟩⟩⟩⟩
    · have e0:a4=0:=by simpa using h5
      exact absurd (E.last O4 e0).1 (of_decide_eq_true h6)
    · have e0:a4=0:=by simpa using h5
      refine q r1 cj ck ?_
      rw [bC]; exact (E.last O4 e0).2)
def NU (a:Int) (σ:List AO) (aa:List AO) (m1:Nat) (I:Int→Nat→List AO→Prop) (Q:AV→List AO→Prop):Prop:=((decide (a≠0))=true→(0:Int)<2∧∀ r:Int,r=(a%2)→0≤r→r<2→((decide (r≠0))=true→(0:Int)<4∧∀ r1:Int,r1=(a%4)→0≤r1→r1<4→((decide (2≤r1))=true→aD σ.length aa λ x=>aD σ.length aa λ xs=>xs.length≤1000000∧((0:Int)<2∧(2:Int)<1073741824)∧∃ m':Nat,m'<m1∧I ((a-(r1-4)) / 2) m' (aa.set σ.length (AO.lst (xs++[.int (r1-4)]))))∧((decide (2≤r1))=false→aD σ.length aa λ x=>aD σ.length aa λ xs=>xs.length≤1000000∧((0:Int)<2∧(2:Int)<1073741824)∧∃ m':Nat,m'<m1∧I ((a-r1) / 2) m' (aa.set σ.length (AO.lst (xs++[.int r1])))))∧((decide (r≠0))=false→aD σ.length aa λ x=>aD σ.length aa λ xs=>xs.length≤1000000∧((0:Int)<2∧(2:Int)<1073741824)∧∃ m':Nat,m'<m1∧I (a / 2) m' (aa.set σ.length (AO.lst (xs++[.int 0])))))∧((decide (a≠0))=false→Q (.lst σ.length) aa)
theorem Aw (O:(U bs).Ok) {m:Int} (hm:m.natAbs≤1000000) (q:∀ ds,eW m ds→Q (.lst σ.length) (σ++[.lst (ds.map .int)])) :
 ai (U bs) (d+1) (.cst (.ref bS)) [.int m] σ Q :=
 ai.of O (T:=T0) (by kernel_rfl) (by kernel_rfl) λ L=>Eq.mp (α:=∃ I:Int→Nat→List AO→Prop,(∃ m1:Nat,I m m1 (σ++[AO.lst []]))∧∀ a:Int,∀ m1:Nat,∀ aa:List AO,I a m1 aa→NU a σ aa m1 I Q) (by kernel_rfl) (by
  refine ⟨λ a n aa=>∃ pre:List Int,aa=σ++[.lst (pre.map .int)]∧(∀ ds,eW a ds→eW m (pre++ds))∧n=a.natAbs∧pre.length+a.natAbs≤m.natAbs,⟨⟨_,[],rfl,(λ ds h=>h),rfl,by simp⟩,λ a m1 aa h1=>?_⟩⟩
  refine aG λ G kG=>?_
  obtain ⟨pre,rfl,hn,rfl,hl⟩:=h1
  refine kG ?_
  have app:∀ x:Int,(σ++[AO.lst (pre.map AV.int)]).set σ.length (.lst (pre.map AV.int++[.int x]))=σ++[.lst ((pre++[x]).map AV.int)]:=λ x=>by
   rw [gY,List.map_append]; rfl
  have aY:=getLast σ (.lst (pre.map AV.int))
  have hz:(pre.map AV.int).length≤1000000:=by rw [List.length_map]; exact Lq.bZ (Lq.bZ (Lq.nr _ _) hl) hm
  have fin:∀ x y:Int,a≠0→x=dg a→y=(a-x) / 2→∃ m',m'<a.natAbs∧∃ pre':List Int,(σ++[AO.lst (pre.map AV.int)]).set σ.length (.lst (pre.map AV.int++[.int x]))=σ++[.lst (pre'.map .int)]∧(∀ ds,eW y ds→eW m (pre'++ds))∧m'=y.natAbs∧pre'.length+y.natAbs≤m.natAbs:=λ x y h0 e1 e2=>by
   subst e1; subst e2
   have hl2:=xP h0
   refine ⟨_,hl2,pre++[dg a],app _,λ ds h=>?_,rfl,by rw [List.length_append]; simp; lia⟩
   rw [List.append_assoc]; exact hn _ (.cons h0 h)
  refine ⟨λ h2=>?_,λ h7=>?_⟩
  · have h0:=of_decide_eq_true h2
    refine ⟨by decide,λ r e_r lG g9=>⟨λ h3=>⟨by decide,λ r1 bC cj ck=>⟨λ h4=>⟨_,aY,⟨_,aY,⟨hz,⟨⟨by decide,by decide⟩,?_⟩⟩⟩⟩,λ h5=>⟨_,aY,⟨_,aY,⟨hz,⟨⟨by decide,by decide⟩,?_⟩⟩⟩⟩⟩⟩,λ h6=>⟨_,aY,⟨_,aY,⟨hz,⟨⟨by decide,by decide⟩,?_⟩⟩⟩⟩⟩⟩
    · have g:=of_decide_eq_true h4
      have g3:=of_decide_eq_true h3
      exact fin _ _ h0 (Me e_r g3 bC g).2 rfl
    · have g:=of_decide_eq_false h5
      have g3:=of_decide_eq_true h3
      exact fin _ _ h0 (Mf e_r g3 bC g).2 rfl
    · have g3:r=0:=by simpa using h6
      exact fin _ _ h0 (Mg e_r g3) (by rw [Int.sub_zero])
  · have h0:a=0:=by simpa using h7
    have:=hn [] (by rw [h0]; exact .nil)
    rw [List.append_nil] at this
    exact q pre this)
theorem Ax (O:(U bs).Ok) {m n:Nat} {p a b:Int} (Ay:σ[m]? = some (.inst (fU p a b))) (aY:σ[n]? = some (.inst (fU p a b))) (Hp:0<p) (q:Q (.bool true) σ):ai (U bs) (d+1) (.cst (.ref lB)) [.inst au m,.inst au n] σ Q :=
 ai.of O (T:=T0) (by kernel_rfl) (by kernel_rfl) λ L=>Eq.mp (α:=aL m "_CurveFp__p" σ λ v=>dI v λ i=>aL m "_CurveFp__p" σ λ v1=>dI v1 λ i1=>aL n "_CurveFp__p" σ λ v2=>dI v2 λ i2=>((decide (i1=i2))=true→aL m "_CurveFp__a" σ λ v3=>dI v3 λ i3=>0<i∧∀ r:Int,r=(i3%i)→0≤r→r<i→aL n "_CurveFp__a" σ λ v4=>dI v4 λ i4=>0<i∧∀ r1:Int,r1=(i4%i)→0≤r1→r1<i→((decide (r=r1))=true→aL m "_CurveFp__b" σ λ v5=>dI v5 λ i5=>0<i∧∀ r2:Int,r2=(i5%i)→0≤r2→r2<i→aL n "_CurveFp__b" σ λ v6=>dI v6 λ i6=>0<i∧∀ r3:Int,r3=(i6%i)→0≤r3→r3<i→Q (.bool (decide (r2=r3))) σ)∧((decide (r=r1))=false→Q (.bool (decide (r=r1))) σ))∧((decide (i1=i2))=false→Q (.bool (decide (i1=i2))) σ)) (by kernel_rfl) (by
  refine (fP Ay<|(fP Ay<|(fP aY<|⟨λ h1=>(fA Ay<|⟨Hp,λ r e_r lG g9=>(fA aY<|⟨Hp,λ r1 bC cj ck=>⟨λ h2=>(fB Ay<|⟨Hp,λ r2 dX lZ mh=>(fB aY<|⟨Hp,λ r3 fN lD lE=>?_⟩)⟩),λ h3=>?_⟩⟩)⟩),λ h4=>?_⟩)))
  · rw [dX,fN,decide_eq_true rfl]; exact q
  · rw [e_r,bC,decide_eq_true rfl]; exact q
  · rw [decide_eq_true rfl]; exact q)
theorem Im (O:(U bs).Ok) {op:CmpOp} {C D f:Addr} {m n:Nat} (hop:(op==.Eq||op==.NotEq)=true) (hk:(lT (U bs).K C (.ref D)&&(findIn (U bs).K (.ref C) (cmpInfo op).2.1==some (some (.ref f)))&&isFn (U bs).K (.ref f))=true)
 (h:ai (U bs) d (.cst (.ref f)) [.inst C m,.inst D n] σ λ v σ'=>mw v=true∧Q v σ'):aA (U bs) d op (.inst C m) (.inst D n) σ Q:=aA.user O hop rfl c8.inst c8.inst hk h.w
theorem NV (O:(U bs).Ok) {op:CmpOp} {C f x:Addr} {t:Value} {m:Nat} (hop:(op==.Eq||op==.NotEq)=true) (ht:typeIn (U bs).K (.ref x)=some t) (hk:(lT (U bs).K C t&&(findIn (U bs).K (.ref C) (cmpInfo op).2.1==some (some (.ref f)))&&isFn (U bs).K (.ref f))=true)
 (h:ai (U bs) d (.cst (.ref f)) [.inst C m,.cst (.ref x)] σ λ v σ'=>mw v=true∧Q v σ'):aA (U bs) d op (.inst C m) (.cst (.ref x)) σ Q:=aA.user O hop rfl c8.inst (c8.cst ht) hk h.w
theorem NW (O:(U bs).Ok) {op:CmpOp} {C f x y:Addr} {t:Value} (hop:(op==.Eq||op==.NotEq)=true) (hx:typeIn (U bs).K (.ref x)=some (.ref C)) (ht:typeIn (U bs).K (.ref y)=some t) (hk:(lT (U bs).K C t&&(findIn (U bs).K (.ref C) (cmpInfo op).2.1==some (some (.ref f)))&&isFn (U bs).K (.ref f))=true)
 (h:ai (U bs) d (.cst (.ref f)) [.cst (.ref x),.cst (.ref y)] σ λ v σ'=>mw v=true∧Q v σ'):aA (U bs) d op (.cst (.ref x)) (.cst (.ref y)) σ Q:=aA.user O hop rfl (c8.cst hx) (c8.cst ht) hk h.w
theorem Az (O:(U bs).Ok) {m n:Nat} {p a b:Int} (Ay:σ[m]? = some (.inst (fU p a b))) (aY:σ[n]? = some (.inst (fU p a b))) (Hp:0<p) (q:Q (.bool false) σ):ai (U bs) (d+2) (.cst (.ref lC)) [.inst au m,.inst au n] σ Q :=
 ai.of O (T:=T0) (by kernel_rfl) (by kernel_rfl) λ L=>Eq.mp (α:=aA (U bs) (d+1) .Eq (.inst 88 m) (.inst 88 n) σ λ v s=>dB v λ c=>Q (.bool (!c)) s) (by kernel_rfl) (Im O rfl (f:=lB) (by kernel_rfl) (Ax O Ay aY Hp ⟨rfl,q⟩))
theorem Kr (O:(U bs).Ok) {m n:Nat} {p a b:Int} (Ay:σ[m]? = some (.inst (fU p a b))) (aY:σ[n]? = some (.inst (fU p a b))) (Hp:0<p) (q:Q (.bool false) σ):aA (U bs) (d+2) .NotEq (.inst au m) (.inst au n) σ Q :=
 Im O rfl (f:=lC) (by kernel_rfl) (Az O Ay aY Hp ⟨rfl,q⟩)
theorem Ks {p a b:Int} (C:Cv p a b) {z:Int} (hz:z%p≠0):∃ b,(z*b)%p=1:=⟨_,C.fG z hz⟩
theorem EG (O:(U bs).Ok) {n c k:Nat} {p a b x y z:Int} {o:AV} {g:Bool} (C:Cv p a b) (aY:σ[n]? = some (.inst (fh c x y z o g k))) (d7:σ[c]? = some (.inst (fU p a b))) {u v:Int} (hP:On p a b (some (u,v))) (hr:Rep p x y z (some (u,v))) (hd:Rd p x y z)
 (q:Q (.int u) σ):ai (U bs) (d+2) (.cst (.ref mD)) [.inst ah n] σ Q :=
 ai.of O (T:=T0) (by kernel_rfl) (by kernel_rfl) λ L=>Eq.mp (α:=aL n "_PointJacobi__coords" σ λ v=>d3 v λ x y z=>((decide (z=1))=true→Q (.int x) σ)∧((decide (z=1))=false→aL n "_PointJacobi__curve" σ λ v1=>dO 88 v1 λ i=>aC i "p" σ∧ai (U bs) (d+1) (.cst (.ref 57)) [.inst 88 i] σ λ v2 s=>dI v2 λ i1=>ai (U bs) (d+1) (.cst (.ref 21)) [.int z,.int i1] s λ v3 s1=>dI v3 λ i2=>((0:Int)≤2∧(2:Int)≤1000000∧af i2)∧(af x∨af (i2^(2:Int).toNat))∧0<i1∧∀ r:Int,r=((x*(i2^(2:Int).toNat))%i1)→0≤r→r<i1→Q (.int r) s1)) (by kernel_rfl) (by
  have Hp:=C.pos
  have hp:=C.hp
  have l5:=C.lo
  refine (Bv aY<|⟨λ h1=>?_,λ h2=>(tP aY<|⟨rfl,⟨(aN d7 (by kernel_rfl)),?_⟩⟩)⟩)
  · have e:=of_decide_eq_true h1
    subst e
    rw [Dd C hP hr hd.x]; exact q
  · refine bW O d7 (EF O (by lia) hp (Ks C hr.1) λ r lG g9 hi=>?_)
    refine ⟨⟨by decide,⟨by decide,(bN.small (bN.mod lG g9 hp) rfl)⟩⟩,⟨.inl (bN.small (bN.of hd.x hp) rfl),⟨Hp,λ r1 e_r cj ck=>?_⟩⟩⟩
    rwa [e_r,Mi C hP hr hi])
theorem EH (O:(U bs).Ok) {n c k:Nat} {p a b x y z:Int} {o:AV} {g:Bool} (C:Cv p a b) (aY:σ[n]? = some (.inst (fh c x y z o g k))) (d7:σ[c]? = some (.inst (fU p a b))) {u v:Int} (hP:On p a b (some (u,v))) (hr:Rep p x y z (some (u,v))) (hd:Rd p x y z)
 (q:Q (.int v) σ):ai (U bs) (d+2) (.cst (.ref mE)) [.inst ah n] σ Q :=
 ai.of O (T:=T0) (by kernel_rfl) (by kernel_rfl) λ L=>Eq.mp (α:=aL n "_PointJacobi__coords" σ λ v=>d3 v λ x y z=>((decide (z=1))=true→Q (.int y) σ)∧((decide (z=1))=false→aL n "_PointJacobi__curve" σ λ v1=>dO 88 v1 λ i=>aC i "p" σ∧ai (U bs) (d+1) (.cst (.ref 57)) [.inst 88 i] σ λ v2 s=>dI v2 λ i1=>ai (U bs) (d+1) (.cst (.ref 21)) [.int z,.int i1] s λ v3 s1=>dI v3 λ i2=>((0:Int)≤3∧(3:Int)≤1000000∧af i2)∧(af y∨af (i2^(3:Int).toNat))∧0<i1∧∀ r:Int,r=((y*(i2^(3:Int).toNat))%i1)→0≤r→r<i1→Q (.int r) s1)) (by kernel_rfl) (by
  have Hp:=C.pos
  have hp:=C.hp
  have l5:=C.lo
  refine (Bv aY<|⟨λ h1=>?_,λ h2=>(tP aY<|⟨rfl,⟨(aN d7 (by kernel_rfl)),?_⟩⟩)⟩)
  · have e:=of_decide_eq_true h1
    subst e
    rw [De C hP hr hd.y]; exact q
  · refine bW O d7 (EF O (by lia) hp (Ks C hr.1) λ r lG g9 hi=>?_)
    refine ⟨⟨by decide,⟨by decide,(bN.small (bN.mod lG g9 hp) rfl)⟩⟩,⟨.inl (bN.small (bN.of hd.y hp) rfl),⟨Hp,λ r1 e_r cj ck=>?_⟩⟩⟩
    rwa [e_r,Mj C hP hr hi])
def GN (v3:AV) (i1:Int) (x:Int) (y:Int) (s1:List AO) (n:Nat) (Q:AV→List AO→Prop):Prop:=dI v3 λ i2=>(af i2∨af i2)∧0<i1∧∀ r:Int,r=((i2*i2)%i1)→0≤r→r<i1→(af x∨af r)∧0<i1∧∀ r1:Int,r1=((x*r)%i1)→0≤r1→r1<i1→(af y∨af r)∧(af (y*r)∨af i2)∧0<i1∧∀ r2:Int,r2=(((y*r)*i2)%i1)→0≤r2→r2<i1→∃ fs:List (Str×AV),s1[n]? = some (AO.inst fs)∧fs.length<1000∧Q (.inst 313 n) (s1.set n (AO.inst (aO "_PointJacobi__coords" (.tup [.int r1,.int r2,.int 1]) fs)))
theorem sD (O:(U bs).Ok) {n c k:Nat} {p a b x y z:Int} {o:AV} {g:Bool} (C:Cv p a b) (aY:σ[n]? = some (.inst (fh c x y z o g k))) (d7:σ[c]? = some (.inst (fU p a b))) {u v:Int} (hP:On p a b (some (u,v))) (hr:Rep p x y z (some (u,v))) (hd:Rd p x y z)
 (q:Q (.inst ah n) (σ.set n (.inst (fh c u v 1 o g k)))):ai (U bs) (d+2) (.cst (.ref bE)) [.inst ah n] σ Q :=
 ai.of O (T:=T0) (by kernel_rfl) (by kernel_rfl) λ L=>Eq.mp (α:=aL n "_PointJacobi__coords" σ λ v=>d3 v λ x y z=>((decide (z=1))=true→Q (.inst 313 n) σ)∧((decide (z=1))=false→aL n "_PointJacobi__curve" σ λ v1=>dO 88 v1 λ i=>aC i "p" σ∧ai (U bs) (d+1) (.cst (.ref 57)) [.inst 88 i] σ λ v2 s=>dI v2 λ i1=>ai (U bs) (d+1) (.cst (.ref 21)) [.int z,.int i1] s λ v3 s1=>GN v3 i1 x y s1 n Q)) (by kernel_rfl) (by
  have Hp:=C.pos
  have hp:=C.hp
  have l5:=C.lo
  have bx:=bN.of hd.x hp
  have Io:=bN.of hd.y hp
  refine (Bv aY<|⟨λ h1=>?_,λ h2=>(tP aY<|⟨rfl,⟨(aN d7 (by kernel_rfl)),?_⟩⟩)⟩)
  · have e:=of_decide_eq_true h1
    subst e
    rw [Dd C hP hr hd.x,De C hP hr hd.y] at aY
    rwa [GG aY] at q
  · refine bW O d7 (EF O (by lia) hp (Ks C hr.1) λ r lG g9 hi=>?_)
    refine ⟨(.inl (bN.small (bN.mod lG g9 hp) rfl)),⟨Hp,λ r1 bC cj ck=>⟨(.inl (bN.small bx rfl)),⟨Hp,λ r2 dX lZ mh=>⟨(.inl (bN.small Io rfl)),⟨(.inl (bN.small (bN.mul Io (bN.mod cj ck hp)) rfl)),⟨Hp,λ r3 fN lD lE=>⟨_,⟨aY,⟨(by decide:5<1000),?_⟩⟩⟩⟩⟩⟩⟩⟩⟩⟩
    have e1:r2=u:=by rw [dX,bC,Jj C hP hr hi]
    have e2:r3=v:=by rw [fN,bC,Jk C hP hr hi]
    subst e1 e2
    exact q)
end
end
noncomputable section
section
variable {bs:Bs} {d:Nat} {σ:List AO} {Q:AV→List AO→Prop}
theorem l5 {n:Nat} (h:n≤5):n<1000:=Nat.lt_of_le_of_lt h (by decide)
theorem Cs (O:(U bs).Ok) {n c:Nat} {x y z:Int} {o:AV} {g:Bool} (h:σ[n]? = some (.inst [])) (q:Q .none (σ.set n (.inst (fh c x y z o g σ.length))++[.lst []])) :
 ai (U bs) (d+1) (.cst (.ref bG)) [.inst ah n,.inst au c,.int x,.int y,.int z,o,.bool g] σ Q :=
 ai.of O (T:=T0) (by kernel_rfl) (by kernel_rfl) λ L=>Eq.mp (α:=∃ fs:List (Str×AV),σ[n]? = some (AO.inst fs)∧fs.length<1000∧∃ w5:List (Str×AV),(σ.set n (AO.inst (aO "_PointJacobi__curve" (.inst 88 c) fs)))[n]? = some (AO.inst w5)∧w5.length<1000∧∃ yQ:List (Str×AV),((σ.set n (AO.inst (aO "_PointJacobi__curve" (.inst 88 c) fs))).set n (AO.inst (aO "_PointJacobi__coords" (.tup [.int x,.int y,.int z]) w5)))[n]? = some (AO.inst yQ)∧yQ.length<1000∧∃ AA:List (Str×AV),(((σ.set n (AO.inst (aO "_PointJacobi__curve" (.inst 88 c) fs))).set n (AO.inst (aO "_PointJacobi__coords" (.tup [.int x,.int y,.int z]) w5))).set n (AO.inst (aO "_PointJacobi__order" o yQ)))[n]? = some (AO.inst AA)∧AA.length<1000∧∃ Ku:List (Str×AV),(((((σ.set n (AO.inst (aO "_PointJacobi__curve" (.inst 88 c) fs))).set n (AO.inst (aO "_PointJacobi__coords" (.tup [.int x,.int y,.int z]) w5))).set n (AO.inst (aO "_PointJacobi__order" o yQ))).set n (AO.inst (aO "_PointJacobi__generator" (.bool g) AA)))++[AO.lst []])[n]? = some (AO.inst Ku)∧Ku.length<1000∧Q .none ((((((σ.set n (AO.inst (aO "_PointJacobi__curve" (.inst 88 c) fs))).set n (AO.inst (aO "_PointJacobi__coords" (.tup [.int x,.int y,.int z]) w5))).set n (AO.inst (aO "_PointJacobi__order" o yQ))).set n (AO.inst (aO "_PointJacobi__generator" (.bool g) AA)))++[AO.lst []]).set n (AO.inst (aO "_PointJacobi__precompute" (.lst ((((σ.set n (AO.inst (aO "_PointJacobi__curve" (.inst 88 c) fs))).set n (AO.inst (aO "_PointJacobi__coords" (.tup [.int x,.int y,.int z]) w5))).set n (AO.inst (aO "_PointJacobi__order" o yQ))).set n (AO.inst (aO "_PointJacobi__generator" (.bool g) AA))).length) Ku)))) (by kernel_rfl) (by
  have e:∀ k:Nat,(aO "_PointJacobi__precompute" (.lst k) (aO "_PointJacobi__generator" (.bool g) (aO "_PointJacobi__order" o (aO "_PointJacobi__coords" (.tup [.int x,.int y,.int z]) (aO "_PointJacobi__curve" (.inst au c) [])))))=fh c x y z o g k:=λ k=>by kernel_rfl
  refine ⟨_,h,l5 (Nat.zero_le _),_,getSet h,l5 (b9 (k:=4) (Nat.zero_le _)),_,getSet (getSet h),l5 (b9 (k:=4) (b9 (k:=3) (Nat.zero_le _))),_,getSet (getSet (getSet h)),l5 (b9 (k:=4) (b9 (k:=3) (b9 (k:=2) (Nat.zero_le _)))),_,aI (getSet (getSet (getSet (getSet h)))) _,l5 (b9 (k:=4) (b9 (k:=3) (b9 (k:=2) (b9 (k:=1) (Nat.zero_le _))))),?_⟩
  rw [gF,gF,gF,List.length_set,Ey (getSet h),gF,e]
  exact q)
theorem AB (O:(U bs).Ok) {n c:Nat} {x y z:Int} {o:AV} (h:σ[n]? = some (.inst [])) (q:Q .none (σ.set n (.inst (fh c x y z o false σ.length))++[.lst []])) :
 ai (U bs) (d+1) (.cst (.ref bG)) [.inst ah n,.inst au c,.int x,.int y,.int z,o] σ Q :=
 ai.of O (T:=T0) (by kernel_rfl) (by kernel_rfl) λ L=>Eq.mp (α:=∃ fs:List (Str×AV),σ[n]? = some (AO.inst fs)∧fs.length<1000∧∃ w5:List (Str×AV),(σ.set n (AO.inst (aO "_PointJacobi__curve" (.inst 88 c) fs)))[n]? = some (AO.inst w5)∧w5.length<1000∧∃ yQ:List (Str×AV),((σ.set n (AO.inst (aO "_PointJacobi__curve" (.inst 88 c) fs))).set n (AO.inst (aO "_PointJacobi__coords" (.tup [.int x,.int y,.int z]) w5)))[n]? = some (AO.inst yQ)∧yQ.length<1000∧∃ AA:List (Str×AV),(((σ.set n (AO.inst (aO "_PointJacobi__curve" (.inst 88 c) fs))).set n (AO.inst (aO "_PointJacobi__coords" (.tup [.int x,.int y,.int z]) w5))).set n (AO.inst (aO "_PointJacobi__order" o yQ)))[n]? = some (AO.inst AA)∧AA.length<1000∧∃ Ku:List (Str×AV),(((((σ.set n (AO.inst (aO "_PointJacobi__curve" (.inst 88 c) fs))).set n (AO.inst (aO "_PointJacobi__coords" (.tup [.int x,.int y,.int z]) w5))).set n (AO.inst (aO "_PointJacobi__order" o yQ))).set n (AO.inst (aO "_PointJacobi__generator" (.bool false) AA)))++[AO.lst []])[n]? = some (AO.inst Ku)∧Ku.length<1000∧Q .none ((((((σ.set n (AO.inst (aO "_PointJacobi__curve" (.inst 88 c) fs))).set n (AO.inst (aO "_PointJacobi__coords" (.tup [.int x,.int y,.int z]) w5))).set n (AO.inst (aO "_PointJacobi__order" o yQ))).set n (AO.inst (aO "_PointJacobi__generator" (.bool false) AA)))++[AO.lst []]).set n (AO.inst (aO "_PointJacobi__precompute" (.lst ((((σ.set n (AO.inst (aO "_PointJacobi__curve" (.inst 88 c) fs))).set n (AO.inst (aO "_PointJacobi__coords" (.tup [.int x,.int y,.int z]) w5))).set n (AO.inst (aO "_PointJacobi__order" o yQ))).set n (AO.inst (aO "_PointJacobi__generator" (.bool false) AA))).length) Ku)))) (by kernel_rfl) (by
  have e:∀ k:Nat,(aO "_PointJacobi__precompute" (.lst k) (aO "_PointJacobi__generator" (.bool false) (aO "_PointJacobi__order" o (aO "_PointJacobi__coords" (.tup [.int x,.int y,.int z]) (aO "_PointJacobi__curve" (.inst au c) [])))))=fh c x y z o false k:=λ k=>by kernel_rfl
  refine ⟨_,h,l5 (Nat.zero_le _),_,getSet h,l5 (b9 (k:=4) (Nat.zero_le _)),_,getSet (getSet h),l5 (b9 (k:=4) (b9 (k:=3) (Nat.zero_le _))),_,getSet (getSet (getSet h)),l5 (b9 (k:=4) (b9 (k:=3) (b9 (k:=2) (Nat.zero_le _)))),_,aI (getSet (getSet (getSet (getSet h)))) _,l5 (b9 (k:=4) (b9 (k:=3) (b9 (k:=2) (b9 (k:=1) (Nat.zero_le _))))),?_⟩
  rw [gF,gF,gF,List.length_set,Ey (getSet h),gF,e]
  exact q)
theorem Qn (O:(U bs).Ok) {c:Nat} {x y z:Int} {o:AV} {g:Bool} (q:Q (.inst ah σ.length) (σ++[.inst (fh c x y z o g (σ.length+1)),.lst []])) :
 ai (U bs) (d+2) (.cst (.ref ah)) [.inst au c,.int x,.int y,.int z,o,.bool g] σ Q :=
 ai.make O (fI:=bG) (by kernel_rfl) (Cs O (getLast σ _) ⟨rfl,by rw [gY,List.length_append,List.append_assoc]; exact q⟩)
theorem wc (O:(U bs).Ok) {c:Nat} {x y z:Int} {o:AV} (q:Q (.inst ah σ.length) (σ++[.inst (fh c x y z o false (σ.length+1)),.lst []])) :
 ai (U bs) (d+2) (.cst (.ref ah)) [.inst au c,.int x,.int y,.int z,o] σ Q :=
 ai.make O (fI:=bG) (by kernel_rfl) (AB O (getLast σ _) ⟨rfl,by rw [gY,List.length_append,List.append_assoc]; exact q⟩)
end
end
noncomputable section
section
variable {bs:Bs} {d:Nat} {σ:List AO} {Q:AV→List AO→Prop}
theorem EI (O:(U bs).Ok) {n c k:Nat} {x y z:Int} {o:AV} {g:Bool} (aY:σ[n]? = some (.inst (fh c x y z o g k))) (hz:z≠0) (q:Q (.bool false) σ) :
 ai (U bs) (d+1) (.cst (.ref fq)) [.inst ah n,.cst (.ref bL)] σ Q :=
 ai.of O (T:=T0) (by kernel_rfl) (by kernel_rfl) λ L=>Eq.mp (α:=aL n "_PointJacobi__coords" σ λ v=>d3 v λ x y z=>Q (.bool (!(decide (z≠0)))) σ) (by kernel_rfl) (Bv aY (by
  show Q (.bool (!decide (z≠0))) σ
  rw [decide_eq_true hz]; exact q))
theorem zJ (O:(U bs).Ok) {n c k:Nat} {x y z:Int} {o:AV} {g:Bool} (aY:σ[n]? = some (.inst (fh c x y z o g k))) (hz:z≠0) (q:Q (.bool false) σ):aA (U bs) (d+1) .Eq (.inst ah n) (.cst (.ref bL)) σ Q :=
 NV O rfl (f:=fq) (t:=.ref gX) (by kernel_rfl) (by kernel_rfl) (EI O aY hz ⟨rfl,q⟩)
theorem GO (O:(U bs).Ok) (q:Q (.cst (.bool true)) σ):ai (U bs) (d+1) (.cst (.ref gC)) [.cst (.ref bL),.cst (.ref bL)] σ Q:=ai.of O (T:=T0) (by kernel_rfl) (by kernel_rfl) λ L=>Eq.mp (α:=Q (.cst (.bool true)) σ) (by kernel_rfl) q
theorem Ct (O:(U bs).Ok) (q:Q (.bool true) σ):ai (U bs) (d+1) (.cst (.ref gC)) [.cst (.ref bL),.cst (.ref bL)] σ Q :=
 ai.NG (b:=true) (GO O ⟨rfl,q⟩)
theorem tn (O:(U bs).Ok) (q:Q (.bool true) σ):aA (U bs) (d+1) .Eq (.cst (.ref bL)) (.cst (.ref bL)) σ Q :=
 NW O rfl (C:=gX) (f:=gC) (t:=.ref gX) (by kernel_rfl) (by kernel_rfl) (by kernel_rfl) (Ct O ⟨rfl,q⟩)
theorem Cw (O:(U bs).Ok) {n c k:Nat} {x y z:Int} {o:AV} {g:Bool} (aY:σ[n]? = some (.inst (fh c x y z o g k))) (hz:z≠0) (q:Q (.inst ah n) σ) :
 ai (U bs) (d+2) (.cst (.ref aX)) [.inst ah n,.cst (.ref bL)] σ Q :=
 ai.of O (T:=Ez) (by kernel_rfl) (by kernel_rfl) λ L=>Eq.mp (α:=aA (U bs) (d+1) .Eq (.inst 313 n) (.cst (.ref 414)) σ λ a a1=>a=(.bool false)∧aA (U bs) (d+1) .Eq (.cst (.ref 414)) (.cst (.ref 414)) a1 λ a2 a3=>a2=(.bool true)∧Q (.inst 313 n) a3) (by kernel_rfl) (zJ O aY hz ⟨rfl,tn O ⟨rfl,q⟩⟩)
theorem AD (O:(U bs).Ok) (q:Q (.cst (.ref bL)) σ):ai (U bs) (d+2) (.cst (.ref cy)) [.cst (.ref bL),.cst (.ref bL)] σ Q :=
 ai.of O (T:=Cg) (by kernel_rfl) (by kernel_rfl) λ L=>Eq.mp (α:=aA (U bs) (d+1) .Eq (.cst (.ref 414)) (.cst (.ref 414)) σ λ a a1=>a=(.bool true)∧Q (.cst (.ref 414)) a1) (by kernel_rfl) (tn O ⟨rfl,q⟩)
theorem AE (O:(U bs).Ok) {n c k:Nat} {x y z:Int} {o:AV} {g:Bool} (aY:σ[n]? = some (.inst (fh c x y z o g k))) (q:Q (.cst .notImplemented) σ):ai (U bs) (d+1) (.cst (.ref cy)) [.cst (.ref bL),.inst ah n] σ Q :=
 ai.of O (T:=T0) (by kernel_rfl) (by kernel_rfl) λ L=>Eq.mp (α:=aC n "" σ∧Q (.cst .notImplemented) σ) (by kernel_rfl) ⟨aN aY (by kernel_rfl),q⟩
theorem Ip (O:(U bs).Ok) {n c k:Nat} {x y z:Int} {o:AV} {g:Bool} (aY:σ[n]? = some (.inst (fh c x y z o g k))) (hz:z≠0) (q:Q (.inst ah n) σ):aV (U bs) (d+2) .Add (.inst ah n) (.cst (.ref bL)) σ Q :=
 aV.two O rfl c8.inst (c8.cst (t:=.ref gX) (by kernel_rfl)) (f:=aX) (fD:=cy) (by kernel_rfl) (ai.w (Cw O aY hz ⟨rfl,q⟩))
theorem NX (O:(U bs).Ok) (q:Q (.cst (.ref bL)) σ):aV (U bs) (d+2) .Add (.cst (.ref bL)) (.cst (.ref bL)) σ Q :=
 aV.same O rfl (c8.cst (t:=.ref gX) (by kernel_rfl)) (c8.cst (t:=.ref gX) (by kernel_rfl)) (f:=cy) (by kernel_rfl) (ai.w (AD O ⟨rfl,q⟩))
theorem Cx (O:(U bs).Ok) {n:Nat} {v:AV} (h:aV (U bs) d .Add (.inst ah n) v σ Q):ai (U bs) (d+1) (.cst (.ref dW)) [.inst ah n,v] σ Q :=
 ai.of O (T:=T0) (by kernel_rfl) (by kernel_rfl) λ L=>Eq.mp (α:=aV (U bs) d .Add (.inst 313 n) v σ λ a aa=>Q a aa) (by kernel_rfl) h
theorem NY (O:(U bs).Ok) {n c k:Nat} {x y z:Int} {o:AV} {g:Bool} (aY:σ[n]? = some (.inst (fh c x y z o g k))) (hz:z≠0) (q:Q (.inst ah n) σ):aV (U bs) (d+3) .Add (.cst (.ref bL)) (.inst ah n) σ Q :=
 aV.PV O rfl rfl (c8.cst (t:=.ref gX) (by kernel_rfl)) c8.inst (f:=cy) (fD:=aX) (g:=dW) (by kernel_rfl) (by kernel_rfl)
  (ai.w (AE O aY ⟨rfl,ai.w (Cx O (Ip O aY hz ⟨rfl,q⟩))⟩))
end
end
noncomputable section
section
variable {bs:Bs} {d:Nat} {σ:List AO} {Q:AV→List AO→Prop}
inductive D where
 | cur
 | raw (o:AO)
 | tab (T:List (Int×Int))
 | pj (P:Int×Int) (o:AV) (g:Bool)
 | st (k:Nat)
 | cells
noncomputable def we (q:Int×Int):AV:=.tup [.int q.1,.int q.2]
noncomputable def cu:G→AV
 | none=>.none
 | some P=>we P
def yt (p a:Int) (P:Int×Int) (o:AV) (T:List (Int×Int)):Prop:=∃ n:Int,o=.int n∧(∀ i q,T[i]? = some q→some q=mul p a (2^i) (some P))∧4*n≤2^(T.length-1)∧T.length≤1000
noncomputable def yu (c:Nat) (p a b:Int) (ω:List D):D→AO→Prop
 | .cur,o=>o=.inst (fU p a b)
 | .raw o',o=>o=o'
 | .tab T,o=>o=.lst (T.map we)
 | .st k,o=>∃ i:Int,0≤i∧o=.lst [.int i,.lst k]
 | .cells,o=>∃ cs:List Int,cs≠[]∧(∀ c∈cs,0≤c)∧cs.length≤1000∧o=.lst (cs.map .int)
 | .pj P od g,o=>∃ x y z k T,o=.inst (fh c x y z od g k)∧On p a b (some P)∧Rep p x y z (some P)∧Rd p x y z∧ω[k]? = some (.tab T)∧(T=[]∨(g=true∧yt p a P od T))
structure Gd (c:Nat) (p a b:Int) (ω:List D) (σ:List AO):Prop where
 len:σ.length=ω.length
 cur:ω[c]? = some .cur
 sat:∀ (n:Nat) (E:JL.D),ω[n]? = some E→∃ o,σ[n]? = some o∧yu c p a b ω E o
theorem ak {ω:List D} {n:Nat} {o:D} (h:ω[n]? = some o) (δ:List D):(ω++δ)[n]? = some o:=by rw [List.getElem?_append_left (List.getElem?_eq_some_iff.mp h).1]; exact h
theorem yu.mono {c:Nat} {p a b:Int} {ω:List D} {D:JL.D} {o:AO} (h:yu c p a b ω D o) (δ:List JL.D):yu c p a b (ω++δ) D o:=by
 cases D with
 | pj P od g=>obtain ⟨x,y,z,k,T,e,h1,h2,h3,h4,h5⟩:=h; exact ⟨x,y,z,k,T,e,h1,h2,h3,ak h4 δ,h5⟩
 | _=>exact h
section
variable {c:Nat} {p a b:Int} {ω:List D}
theorem Gd.sF (H:Gd c p a b ω σ):σ[c]? = some (.inst (fU p a b)):=by
 refine aG λ G kG=>?_
 obtain ⟨o,h,e⟩:=H.sat _ _ H.cur
 refine kG ?_
 rw [h,show o=_ from e]
theorem Gd.raw (H:Gd c p a b ω σ) {n:Nat} {o:AO} (h:ω[n]? = some (.raw o)):σ[n]? = some o:=by
 refine aG λ G kG=>?_
 obtain ⟨o',h,e⟩:=H.sat _ _ h
 refine kG ?_
 rw [h,show o'=_ from e]
theorem Gd.tab (H:Gd c p a b ω σ) {n:Nat} {T:List (Int×Int)} (h:ω[n]? = some (.tab T)):σ[n]? = some (.lst (T.map we)):=by
 refine aG λ G kG=>?_
 obtain ⟨o',h,e⟩:=H.sat _ _ h
 refine kG ?_
 rw [h,show o'=_ from e]
inductive R0 (c:Nat) (p a b:Int) (ω:List D) (σ:List AO) (n:Nat) (P:Int×Int) (o:AV) (g:Bool):Prop
 | mk (x y z:Int) (k:Nat) (T:List (Int×Int)) (e:σ[n]? = some (.inst (fh c x y z o g k))) (h1:On p a b (some P)) (h2:Rep p x y z (some P)) (h3:Rd p x y z) (h4:ω[k]? = some (.tab T)) (h5:T=[]∨(g=true∧yt p a P o T)):R0 c p a b ω σ n P o g
theorem Gd.pj (H:Gd c p a b ω σ) {n:Nat} {P:Int×Int} {o:AV} {g:Bool} (h:ω[n]? = some (.pj P o g)):R0 c p a b ω σ n P o g:=by
 refine aG λ G kG=>?_
 obtain ⟨o',h,x,y,z,k,T,e,r⟩:=H.sat _ _ h
 refine kG ?_
 exact ⟨x,y,z,k,T,by rw [h,e],r.1,r.2.1,r.2.2.1,r.2.2.2.1,r.2.2.2.2⟩
theorem Gd.push (H:Gd c p a b ω σ) {D:JL.D} {o:AO} (h:yu c p a b (ω++[D]) D o):Gd c p a b (ω++[D]) (σ++[o]):=by
 refine ⟨by rw [List.length_append,List.length_append,H.len]; rfl,ak H.cur _,λ n E hn=>?_⟩
 by_cases hl:n<ω.length
 · rw [List.getElem?_append_left hl] at hn
   refine aG λ G kG=>?_
   obtain ⟨o',h1,h2⟩:=H.sat n E hn
   refine kG ?_
   exact ⟨o',aI h1 _,h2.mono _⟩
 · rw [List.getElem?_append_right (Nat.not_lt.mp hl)] at hn
   have e:n-ω.length=0:=by have:=(List.getElem?_eq_some_iff.mp hn).1; simpa using this
   rw [e] at hn
   cases hn
   have e2:n=σ.length:=by rw [H.len]; exact Lq.nz (by assumption) (by assumption)
   rw [e2]
   exact ⟨o,getLast σ o,h⟩
theorem Gd.bg (H:Gd c p a b ω σ) (o:AO):Gd c p a b (ω++[.raw o]) (σ++[o]):=H.push rfl
theorem Gd.qd (H:Gd c p a b ω σ) {P:Int×Int} {x y z:Int} {o:AV} {g:Bool} (h1:On p a b (some P)) (h2:Rep p x y z (some P)) (h3:Rd p x y z) :
 Gd c p a b (ω++[.pj P o g,.tab []]) (σ++[.inst (fh c x y z o g (σ.length+1)),.lst []]):=by
 refine ⟨by rw [List.length_append,List.length_append,H.len]; rfl,ak H.cur _,λ n E hn=>?_⟩
 by_cases hl:n<ω.length
 · rw [List.getElem?_append_left hl] at hn
   refine aG λ G kG=>?_
   obtain ⟨o',e1,e2⟩:=H.sat n E hn
   refine kG ?_
   exact ⟨o',aI e1 _,e2.mono _⟩
 · rw [List.getElem?_append_right (Nat.not_lt.mp hl)] at hn
   have hlt:=(List.getElem?_eq_some_iff.mp hn).1
   rw [List.getElem?_append_right (by rw [H.len]; exact Nat.not_lt.mp hl),H.len]
   have hlt:n-ω.length<2:=hlt
   generalize hk:n-ω.length=k at hn hlt
   match k,hlt,hn with
   | 0,_,hn =>
    cases hn
    refine ⟨_,rfl,x,y,z,ω.length+1,[],rfl,h1,h2,h3,?_,.inl rfl⟩
    rw [List.getElem?_append_right (Lq.nr _ _),show ω.length+1-ω.length=1 by lia]; rfl
   | 1,_,hn=>cases hn; exact ⟨_,rfl,rfl⟩
theorem Gd.set (H:Gd c p a b ω σ) {n:Nat} {D:JL.D} {o:AO} (h:ω[n]? = some D) (hs:yu c p a b ω D o):Gd c p a b ω (σ.set n o):=by
 refine ⟨by rw [List.length_set]; exact H.len,H.cur,λ m E hm=>?_⟩
 by_cases e:n=m
 · subst e
   rw [h] at hm
   cases hm
   refine aG λ G kG=>?_
   obtain ⟨o',h1,_⟩:=H.sat n D h
   refine kG ?_
   exact ⟨o,getSet h1,hs⟩
 · obtain ⟨o',h1,h2⟩:=H.sat m E hm
   exact ⟨o',bq h1 e,h2⟩
theorem Gd.scaled (C:Cv p a b) (H:Gd c p a b ω σ) {n k:Nat} {P:Int×Int} {x y z:Int} {o:AV} {g:Bool} (h:ω[n]? = some (.pj P o g)) (hn:σ[n]? = some (.inst (fh c x y z o g k))):Gd c p a b ω (σ.set n (.inst (fh c P.1 P.2 1 o g k))):=by
 refine aG λ G kG=>?_
 obtain ⟨x',y',z',k',T,e,h1,h2,h3,h4,h5⟩:=H.pj h
 rw [hn] at e
 injection e with e
 injection e with e
 refine kG ?_
 have ek:k=k':=by
  have:=congrArg (λ l:List (Str×AV)=>l[4]?) e
  injection this with this
  injection this with _ this
  injection this
 subst ek
 exact H.set h ⟨P.1,P.2,1,k,T,rfl,h1,eZ C,⟨h1.1,h1.2.1,by have:=C.lo; lia⟩,h4,h5⟩
end
theorem mj {p x y z:Int} {P:Int×Int} (hr:Rep p x y z (some P)):z≠0:=λ e=>hr.1 (by rw [e]; exact Int.zero_emod p)
end
end
noncomputable section
section
variable {bs:Bs} {d:Nat} {σ:List AO} {Q:AV→List AO→Prop}
theorem Cy (O:(U bs).Ok) {n c k:Nat} {x y z:Int} {o:AV} (aY:σ[n]? = some (.inst (fh c x y z o false k))) (q:Q .none σ):ai (U bs) (d+1) (.cst (.ref bU)) [.inst ah n] σ Q :=
 ai.of O (T:=Bx) (by kernel_rfl) (by kernel_rfl) λ L=>Eq.mp (α:=aL n "_PointJacobi__generator" σ λ v=>dB v λ i=>((!i)=true→Q .none σ)∧((!i)=false→aL n "_PointJacobi__precompute" σ λ v1=>dL v1 λ i1=>aD i1 σ λ xs=>xs.length≤1000000∧((!xs.isEmpty)=true→Q .none σ)∧((!xs.isEmpty)=false→aL n "_PointJacobi__order" σ λ v2=>dI v2 λ i2=>((decide (i2≠0))=true→(af i2∨af 2)∧aL n "_PointJacobi__coords" (σ++[AO.lst []]) λ v3=>d3 v3 λ x y z=>aL n "_PointJacobi__curve" (σ++[AO.lst []]) λ v4=>dO 88 v4 λ i3=>ai (U bs) d (.cst (.ref 313)) [.inst 88 i3,.int x,.int y,.int z,.int (i2*2)] (σ++[AO.lst []]) λ v5 s=>dO 313 v5 λ i4=>(af (i2*2)∨af 2)∧aD σ.length s λ x1=>aC i4 "x" s∧ai (U bs) d (.cst (.ref 173)) [.inst 313 i4] s λ v6 s1=>dI v6 λ i5=>aC i4 "y" s1∧ai (U bs) d (.cst (.ref 180)) [.inst 313 i4] s1 λ v7 s2=>dI v7 λ i6=>aD σ.length s2 λ dF=>dF.length≤1000000∧∃ I:Int→Nat→Nat→List AO→Prop,(dO 313 (.inst 313 i4) λ a=>∃ m:Nat,I 1 a m (s2.set σ.length (AO.lst (dF++[.tup [.int i5,.int i6]]))))∧∀ a:Int,∀ a1:Nat,∀ m:Nat,∀ aa:List AO,I a a1 m aa→((decide (a<((i2*2)*2)))=true→(af a∨af 2)∧aC a1 "double" aa∧ai (U bs) d (.cst (.ref 226)) [.inst 313 a1] aa λ v8 s3=>dO 313 v8 λ i7=>aC i7 "scale" s3∧ai (U bs) d (.cst (.ref 187)) [.inst 313 i7] s3 λ v9 s4=>dO 313 v9 λ i8=>aD σ.length s4 λ x2=>aC i8 "x" s4∧ai (U bs) d (.cst (.ref 173)) [.inst 313 i8] s4 λ v10 s5=>dI v10 λ i9=>aC i8 "y" s5∧ai (U bs) d (.cst (.ref 180)) [.inst 313 i8] s5 λ v11 s6=>dI v11 λ tY=>aD σ.length s6 λ yv=>yv.length≤1000000∧dO 313 (.inst 313 i8) λ a2=>∃ m':Nat,m'<m∧I (a*2) a2 m' (s6.set σ.length (AO.lst (yv++[.tup [.int i9,.int tY]]))))∧((decide (a<((i2*2)*2)))=false→∃ fs:List (Str×AV),aa[n]? = some (AO.inst fs)∧fs.length<1000∧Q .none (aa.set n (AO.inst (aO "_PointJacobi__precompute" (.lst σ.length) fs)))))∧((decide (i2≠0))=false→False)))) (by kernel_rfl) (RZ aY ⟨λ _=>q,λ h=>nomatch h⟩)
theorem yw {n c c' k:Nat} {x y z p a b:Int} {o:AV} {g:Bool} (aY:σ[n]? = some (.inst (fh c x y z o g k))) (d7:σ[c']? = some (.inst (fU p a b))):n≠c':=λ e=>by
 subst e
 rw [aY] at d7
 injection d7 with e
 injection e with e
 have:=congrArg List.length e
 cases this
noncomputable def Den (ω:List D) (o:AV):G→AV→Prop
 | none,v=>v=.cst (.ref bL)
 | some P,v=>∃ n g,v=.inst ah n∧ω[n]? = some (.pj P o g)∧(o=.none→g=false)
theorem Den.mono {ω:List D} {o:AV} {R:G} {v:AV} (h:Den ω o R v) (δ:List D):Den (ω++δ) o R v:=by
 cases R with
 | none=>exact h
 | some P=>obtain ⟨n,g,e,h,z⟩:=h; exact ⟨n,g,e,ak h δ,z⟩
section
variable {c:Nat} {p a b:Int} {ω:List D}
def GP (v3:AV) (n:Nat) (s:List AO) (m:Nat) (bs:Bs) (d:Nat) (Q:AV→List AO→Prop):Prop:=dI v3 λ i3=>aL n "_PointJacobi__coords" s λ v4=>d3 v4 λ x y z=>aL m "_PointJacobi__coords" s λ v5=>d3 v5 λ x1 y1 z1=>aC n "_add" s∧ai (U bs) (d+4) (.cst (.ref 268)) [.inst 313 n,.int x,.int y,.int z,.int x1,.int y1,.int z1,.int i3] s λ v6 s1=>d3 v6 λ x2 y2 z2=>((!(decide (z2≠0)))=true→Q (.cst (.ref 414)) s1)∧((!(decide (z2≠0)))=false→aL n "_PointJacobi__curve" s1 λ v7=>dO 88 v7 λ i4=>aL n "_PointJacobi__order" s1 λ v8=>ai (U bs) (d+4) (.cst (.ref 313)) [.inst 88 i4,.int x2,.int y2,.int z2,v8] s1 λ v9 s2=>dO 313 v9 λ i5=>Q (.inst 313 i5) s2)
def GQ (a2:AV) (m:Nat) (a3:List AO) (n:Nat) (bs:Bs) (d:Nat) (Q:AV→List AO→Prop):Prop:=a2=(.bool false)∧aC m "" a3∧aL n "_PointJacobi__curve" a3 λ v=>dO 88 v λ i=>aL m "_PointJacobi__curve" a3 λ v1=>dO 88 v1 λ i1=>aA (U bs) (d+4) .NotEq (.inst 88 i) (.inst 88 i1) a3 λ a4 a5=>a4=(.bool false)∧aL n "_PointJacobi__curve" a5 λ v2=>dO 88 v2 λ i2=>aC i2 "p" a5∧ai (U bs) (d+4) (.cst (.ref 57)) [.inst 88 i2] a5 λ v3 s=>GP v3 n s m bs d Q
theorem EJ (O:(U bs).Ok) {n m k k':Nat} {x y z x' y' z':Int} {o o':AV} {g g':Bool} (C:Cv p a b) (ha:0≤a∧a<p) (aY:σ[n]? = some (.inst (fh c x y z o g k))) (Ay:σ[m]? = some (.inst (fh c x' y' z' o' g' k'))) (d7:σ[c]? = some (.inst (fU p a b))) {P R:Int×Int} (hP:On p a b (some P)) (hR:On p a b (some R))
 (hr:Rep p x y z (some P)) (hd:Rd p x y z) (hr':Rep p x' y' z' (some R)) (hd':Rd p x' y' z') (ho:dR o=true) (q0:plus p a (some P) (some R)=none→Q (.cst (.ref bL)) σ)
 (q1:∀ S x y z,plus p a (some P) (some R)=some S→Rep p x y z (some S)→Rd p x y z→Q (.inst ah σ.length) (σ++[.inst (fh c x y z o false (σ.length+1)),.lst []])) :
 ai (U bs) (d+5) (.cst (.ref aX)) [.inst ah n,.inst ah m] σ Q :=
 ai.of O (T:=GH) (by kernel_rfl) (by kernel_rfl) λ L=>Eq.mp (α:=aA (U bs) (d+4) .Eq (.inst 313 n) (.cst (.ref 414)) σ λ a a1=>a=(.bool false)∧aA (U bs) (d+4) .Eq (.inst 313 m) (.cst (.ref 414)) a1 λ a2 a3=>GQ a2 m a3 n bs d Q) (by kernel_rfl) (by
  have Hp:=C.pos
  have hp:=C.hp
  refine zJ O aY (mj hr) ⟨rfl,zJ O Ay (mj hr') ⟨rfl,aN Ay (by kernel_rfl),tP aY ⟨rfl,tP Ay ⟨rfl,Kr O d7 d7 Hp ⟨rfl,tP aY ⟨rfl,aN d7 (by kernel_rfl),bW O d7 (Bv aY (Bv Ay ⟨aN aY (by kernel_rfl),qR O C ⟨c,x,y,z,o,g,k,aY,d7⟩ hP hR hr hr' (bN.of hd.x hp) (bN.of hd.y hp) (bN.of hd'.x hp) (bN.of hd'.y hp) (bN.of ha hp) hd.z hd'.z (λ _ _ hx hy=>?_) λ x2 y2 z2 rd rep=>⟨λ h1=>?_,λ h2=>?_⟩⟩))⟩⟩⟩⟩⟩⟩
  · have f1:=Int.emod_eq_emod_iff_emod_sub_eq_zero.mpr hx
    have f2:=Int.emod_eq_emod_iff_emod_sub_eq_zero.mpr hy
    rw [gG hd.x,gG hd'.x] at f1
    rw [gG hd.y,gG hd'.y] at f2
    exact ⟨f1.symm,f2.symm⟩
  · have e:z2=0:=nT h1
    exact q0 (dJ C (cQ C hP hR) rep (by rw [e]; exact Int.zero_emod p))
  · have e:z2≠0:=nF h2
    obtain ⟨S,hS⟩:=pY rep (by rw [gG rd.z]; exact e)
    rw [hS] at rep
    exact tP aY ⟨rfl,Bw aY ho (wc O ⟨rfl,q1 S x2 y2 z2 hS rep rd⟩)⟩)
theorem NZ (O:(U bs).Ok) (C:Cv p a b) (ha:0≤a∧a<p) (H:Gd c p a b ω σ) {n m:Nat} {P R:Int×Int} {o o':AV} {g g':Bool} (hn:ω[n]? = some (.pj P o g)) (hm:ω[m]? = some (.pj R o' g')) (ho:dR o=true)
 (q:∀ v δ σ',Gd c p a b (ω++δ) σ'→Den (ω++δ) o (plus p a (some P) (some R)) v→Q v σ'):ai (U bs) (d+5) (.cst (.ref aX)) [.inst ah n,.inst ah m] σ Q:=by
 refine aG λ G kG=>?_
 obtain ⟨x,y,z,k,T,e,h1,h2,h3,_⟩:=H.pj hn
 obtain ⟨x',y',z',k',T',e',O5,h2',h3',_⟩:=H.pj hm
 refine kG ?_
 refine EJ O C ha e e' H.sF h1 O5 h2 h3 h2' h3' ho (λ e0=>?_) λ S x2 y2 z2 eS r rd=>?_
 · refine q _ [] _ (by rw [List.append_nil]; exact H) ?_
   rw [e0]; exact rfl
 · refine q _ _ _ (H.qd (by rw [← eS]; exact cQ C h1 O5) r rd) ?_
   rw [eS]
   exact ⟨_,false,by rw [H.len],by rw [List.getElem?_append_right (Nat.le_refl _),Nat.sub_self]; rfl,λ _=>rfl⟩
theorem AF (O:(U bs).Ok) (C:Cv p a b) (ha:0≤a∧a<p) (H:Gd c p a b ω σ) {P R:G} {o:AV} {v w:AV} (hv:Den ω o P v) (hw:Den ω o R w) (ho:dR o=true)
 (q:∀ v δ σ',Gd c p a b (ω++δ) σ'→Den (ω++δ) o (plus p a P R) v→mw v=true∧Q v σ'):aV (U bs) (d+5) .Add v w σ Q:=by
 have H0:Gd c p a b (ω++[]) σ:=by rw [List.append_nil]; exact H
 cases P with
 | none =>
  cases hv
  cases R with
  | none=>cases hw; exact NX O (q _ [] _ H0 rfl).2
  | some R =>
   refine aG λ G kG=>?_
   obtain ⟨m,g',rfl,hm,hz⟩:=hw
   obtain ⟨x',y',z',k',T',e',O5,h2',h3',_⟩:=H.pj hm
   refine kG ?_
   exact NY O e' (mj h2') (q _ [] _ H0 ⟨m,g',rfl,ak hm _,hz⟩).2
 | some P =>
  refine aG λ G kG=>?_
  obtain ⟨n,g,rfl,hn,hz⟩:=hv
  refine kG ?_
  cases R with
  | none =>
   cases hw
   refine aG λ G kG=>?_
   obtain ⟨x',y',z',k',T',e',O5,h2',h3',_⟩:=H.pj hn
   refine kG ?_
   exact Ip O e' (mj h2') (q _ [] _ H0 ⟨n,g,rfl,ak hn _,hz⟩).2
  | some R =>
   refine aG λ G kG=>?_
   obtain ⟨m,g',rfl,hm,hz⟩:=hw
   refine kG ?_
   exact aV.same O rfl c8.inst c8.inst (f:=aX) (by kernel_rfl) (ai.w (NZ O C ha H hn hm ho q))
end
end
end
noncomputable section
section
variable {bs:Bs} {d:Nat} {σ:List AO} {Q:AV→List AO→Prop}
theorem gH {n:Int} (h0:0≤n) (h:n≤1000000):Builtin.Range.small 0 n 1=true:=by
 have h1:(-(2^62):Int)≤0:=by decide
 have h2:(1000000:Int)<2^62:=by decide
 exact small_one h1 (by decide) (Lq.ll h1 h0) (Lq.ls h h2)
theorem BB (O:(U bs).Ok) {n p:Int} (h2:2≤p) (hp:p≤((1000:Nat):Int)) (q:Q (.int (inv p n)) σ):ai (U bs) (d+1) (.cst (.ref gE)) [.int n,.int p] σ Q :=
 ai.of O (T:=T0) (by kernel_rfl) (by kernel_rfl) λ L=>Eq.mp (α:=0<p∧∀ r:Int,r=(n%p)→0≤r→r<p→(0≤(p-2)∧(p-2)≤1000000∧af r)∧0<p∧∀ r1:Int,r1=((r^(p-2).toNat)%p)→0≤r1→r1<p→Q (.int r1) σ) (by kernel_rfl) (by
  have Hp:0<p:=by lia
  refine ⟨Hp,λ r e_r lG g9=>⟨⟨(Lq.dl _ h2),Lq.ll (Lq.dl _ hp) (by decide),(bN.small (bN.mod lG g9 hp) rfl)⟩,Hp,λ r1 bC cj ck=>?_⟩⟩
  rw [bC,e_r]; exact q)
theorem N1 {x y u v:Int} (hd:3≤d) (q:Q (.bool (decide ((x,y)=(u,v)))) σ):aA (U bs) d .Eq (.tup [.int x,.int y]) (.tup [.int u,.int v]) σ Q :=
 aA.RX hd (x:=.tuple [.int x,.int y]) (y:=.tuple [.int u,.int v]) rfl rfl rfl (by
  have:PyData.eqv (.tuple [.int x,.int y]) (.tuple [.int u,.int v])=decide ((x,y)=(u,v)):=by
   simp only [PyData.eqv,PyData.eqvAll,Bool.and_true]
   by_cases h1:x=u<;>by_cases h2:y=v<;>simp [h1,h2]
  rw [this]; exact q)
def O6 (bs:Bs) (d:Nat) (p a x y u v:Int) (σ:List AO) (Q:AV→List AO→Prop):Prop:=(aA (U bs) (d+3) .Eq (.tup [(.int x),(.int y)]) (.tup [(.int u),(.int v)]) σ (λ a1=>(λ a2=>(dB a1 (λ c=>(((c=true)→(((af (3:Int))∨(af x))∧(((af ((3:Int)*x))∨(af x))∧(((af (2:Int))∨(af y))∧(ai (U bs) (d+3) (.cst (.ref gE)) [(.int ((2:Int)*y)),(.int p)] a2 (λ v1=>(λ s=>(dI v1 (λ i=>(((af ((((3:Int)*x)*x)+a))∨(af i))∧(((0:Int)<p)∧(∀ r:Int,((r=((((((3:Int)*x)*x)+a)*i)%p))→(((0:Int)≤r)→((r<p)→(((af r)∨(af r))∧(((0:Int)<p)∧(∀ r1:Int,((r1=((((r*r)-x)-u)%p))→(((0:Int)≤r1)→((r1<p)→(((af r)∨(af (x-r1)))∧(((0:Int)<p)∧(∀ r2:Int,((r2=(((r*(x-r1))-y)%p))→(((0:Int)≤r2)→((r2<p)→(Q (.tup [(.int r1),(.int r2)]) s))))))))))))))))))))))))))))∧((c=false)→(ai (U bs) (d+3) (.cst (.ref gE)) [(.int (u-x)),(.int p)] a2 (λ v1=>(λ s=>(dI v1 (λ i=>(((af (v-y))∨(af i))∧(((0:Int)<p)∧(∀ r:Int,((r=(((v-y)*i)%p))→(((0:Int)≤r)→((r<p)→(((af r)∨(af r))∧(((0:Int)<p)∧(∀ r1:Int,((r1=((((r*r)-x)-u)%p))→(((0:Int)≤r1)→((r1<p)→(((af r)∨(af (x-r1)))∧(((0:Int)<p)∧(∀ r2:Int,((r2=(((r*(x-r1))-y)%p))→(((0:Int)≤r2)→((r2<p)→(Q (.tup [(.int r1),(.int r2)]) s)))))))))))))))))))))))))))))))
theorem Iq (O:(U bs).Ok) {p a b:Int} (C:Cv p a b) (ha:0≤a∧a<p) {x y u v:Int} (hP:On p a b (some (x,y))) (hR:On p a b (some (u,v))) (hn:¬ (x=u∧(y+v)%p=0)) (q:Q (cu (plus p a (some (x,y)) (some (u,v)))) σ):O6 bs d p a x y u v σ Q:=by
 have Hp:=C.pos
 have hp:=C.hp
 have l5:=C.lo
 have bx:=bN.of hP.1 hp
 have Io:=bN.of hP.2.1 hp
 have bu:=bN.of hR.1 hp
 have bv:=bN.of hR.2.1 hp
 have ba:=bN.of ha hp
 have q':Q (cu (if x=u∧(y+v)%p=0 then none else some (((if (x,y)=(u,v) then (3*x*x+a)*inv p (2*y)%p else (v-y)*inv p (u-x)%p)*(if (x,y)=(u,v) then (3*x*x+a)*inv p (2*y)%p else (v-y)*inv p (u-x)%p)-x-u)%p,
  ((if (x,y)=(u,v) then (3*x*x+a)*inv p (2*y)%p else (v-y)*inv p (u-x)%p)*(x-((if (x,y)=(u,v) then (3*x*x+a)*inv p (2*y)%p else (v-y)*inv p (u-x)%p)*(if (x,y)=(u,v) then (3*x*x+a)*inv p (2*y)%p else (v-y)*inv p (u-x)%p)-x-u)%p)-y)%p))) σ:=q
 have bi:∀ n,bN 1000 (inv p n):=λ n=>bN.mod (Int.emod_nonneg _ (Lq.y Hp)) (Int.emod_lt_of_pos _ Hp) hp
 have UP:=bi (2*y)
 have UQ:=bi (u-x)
 replace q:=q'
 clear q' hP hR
 unfold O6
 rw [if_neg hn] at q
 refine N1 (by lia) ⟨λ h=>?_,λ h=>?_⟩
 · have e:=of_decide_eq_true h
   rw [if_pos e] at q
   refine ⟨(.inl (bN.small (bN.num 3) rfl)),(.inl (bN.small (bN.mul (bN.num 3) bx) rfl)),(.inl (bN.small (bN.num 2) rfl)),BB O (Lq.ll (by decide) l5) hp ⟨(.inl (bN.small (bN.add (bN.mul (bN.mul (bN.num 3) bx) bx) ba) rfl)),Hp,λ r1 bC cj ck=>⟨(.inl (bN.small (bN.mod cj ck hp) rfl)),Hp,λ r2 dX lZ mh=>⟨(.inl (bN.small (bN.mod cj ck hp) rfl)),Hp,λ r3 fN lD lE=>?_⟩⟩⟩⟩
   rw [← bC,← dX,← fN] at q
   exact q
 · have e:=of_decide_eq_false h
   rw [if_neg e] at q
   refine BB O (Lq.ll (by decide) l5) hp ⟨(.inl (bN.small (bN.sub bv Io) rfl)),Hp,λ r1 bC cj ck=>⟨(.inl (bN.small (bN.mod cj ck hp) rfl)),Hp,λ r2 dX lZ mh=>⟨(.inl (bN.small (bN.mod cj ck hp) rfl)),Hp,λ r3 fN lD lE=>?_⟩⟩⟩
   rw [← bC,← dX,← fN] at q
   exact q
theorem c9 (O:(U bs).Ok) {p a b:Int} (C:Cv p a b) (ha:0≤a∧a<p) {P R:G} (hP:On p a b P) (hR:On p a b R) (q:Q (cu (plus p a P R)) σ):ai (U bs) (d+4) (.cst (.ref bI)) [.int p,.int a,cu P,cu R] σ Q:=by
 have Hp:=C.pos
 have hp:=C.hp
 have l5:=C.lo
 cases P with
 | none=>exact (show ∀ v:AV,Q v σ→ai (U bs) (d+4) (.cst (.ref bI)) [.int p,.int a,.none,v] σ Q from λ v q=>ai.of O (T:=T0) (by kernel_rfl) (by kernel_rfl) λ L=>Eq.mp (α:=Q v σ) (by kernel_rfl) q) _ q
 | some P=>cases R with
  | none =>
   refine aG λ G kG=>?_
   obtain ⟨x,y⟩:=P
   refine kG ?_
   exact (show Q (.tup [.int x,.int y]) σ→ai (U bs) (d+4) (.cst (.ref bI)) [.int p,.int a,.tup [.int x,.int y],.none] σ Q from λ q=>ai.of O (T:=T0) (by kernel_rfl) (by kernel_rfl) λ L=>Eq.mp (α:=Q (.tup [.int x,.int y]) σ) (by kernel_rfl) q) q
  | some R =>
   refine aG λ G kG=>?_
   obtain ⟨x,y⟩:=P
   obtain ⟨u,v⟩:=R
   refine kG ?_
   exact (show Q _ σ→ai (U bs) (d+4) (.cst (.ref bI)) [.int p,.int a,.tup [.int x,.int y],.tup [.int u,.int v]] σ Q from λ q=>ai.of O (T:=GI) (by kernel_rfl) (by kernel_rfl) λ L=>Eq.mp (α:=((decide (x=u))=true→0<p∧∀ r:Int,r=((y+v)%p)→0≤r→r<p→((decide (r=0))=true→Q .none σ)∧((decide (r=0))=false→O6 bs d p a x y u v σ Q))∧((decide (x=u))=false→O6 bs d p a x y u v σ Q)) (by kernel_rfl) (by
    refine ⟨λ h1=>⟨Hp,λ r e_r lG g9=>⟨λ h2=>?_,λ h3=>Iq O C ha hP hR (λ h=>of_decide_eq_false h3 (by rw [e_r]; exact h.2)) q⟩⟩,λ h4=>Iq O C ha hP hR (λ h=>of_decide_eq_false h4 h.1) q⟩
    rw [show plus p a (some (x,y)) (some (u,v))=none from if_pos ⟨of_decide_eq_true h1,by rw [← e_r]; exact of_decide_eq_true h2⟩] at q
    exact q)) q
theorem lF (O:(U bs).Ok) {p a b:Int} (C:Cv p a b) {P:G} (q:Q (cu (minus p P)) σ):ai (U bs) (d+1) (.cst (.ref fT)) [.int p,cu P] σ Q:=by
 have Hp:=C.pos
 cases P with
 | none=>exact (show Q .none σ→ai (U bs) (d+1) (.cst (.ref fT)) [.int p,.none] σ Q from λ q=>ai.of O (T:=T0) (by kernel_rfl) (by kernel_rfl) λ L=>Eq.mp (α:=Q .none σ) (by kernel_rfl) q) q
 | some P =>
  refine aG λ G kG=>?_
  obtain ⟨x,y⟩:=P
  refine kG ?_
  exact (show Q (.tup [.int x,.int ((0-y)%p)]) σ→ai (U bs) (d+1) (.cst (.ref fT)) [.int p,.tup [.int x,.int y]] σ Q from λ q=>ai.of O (T:=T0) (by kernel_rfl) (by kernel_rfl) λ L=>Eq.mp (α:=0<p∧∀ r:Int,r=((0-y)%p)→0≤r→r<p→Q (.tup [.int x,.int r]) σ) (by kernel_rfl) ⟨Hp,λ r e_r lG g9=>by rw [e_r]; exact q⟩) q
def O7 (bs:Bs) (d:Nat) (p a n:Int) (v:AV) (σ:List AO) (Q:AV→List AO→Prop):Prop:=(∃ I:Int→AV→AV→Nat→List AO→Prop,((∃ m:Nat,(I n .none v m σ))∧(∀ a1:Int,(∀ a2:AV,(∀ a3:AV,(∀ m:Nat,(∀ aa:List AO,((I a1 a2 a3 m aa)→((((decide (((0:Int)<a1)))=true)→(((0:Int)<(2:Int))∧(∀ r:Int,((r=(a1%(2:Int)))→(((0:Int)≤r)→((r<(2:Int))→((((decide ((r=(1:Int))))=true)→(ai (U bs) (d+4) (.cst (.ref bI)) [(.int p),(.int a),a2,a3] aa (λ v1=>(λ s=>(ai (U bs) (d+4) (.cst (.ref bI)) [(.int p),(.int a),a3,a3] s (λ v2=>(λ s1=>((((0:Int)<(2:Int))∧((2:Int)<(1073741824:Int)))∧(∃ m':Nat,((m'<m)∧(I (a1 / (2:Int)) v1 v2 m' s1)))))))))))∧(((decide ((r=(1:Int))))=false)→(ai (U bs) (d+4) (.cst (.ref bI)) [(.int p),(.int a),a3,a3] aa (λ v1=>(λ s=>((((0:Int)<(2:Int))∧((2:Int)<(1073741824:Int)))∧(∃ m':Nat,((m'<m)∧(I (a1 / (2:Int)) a2 v1 m' s)))))))))))))))∧(((decide (((0:Int)<a1)))=false)→(Q a2 aa)))))))))))
theorem Ir (O:(U bs).Ok) {p a b:Int} (C:Cv p a b) (ha:0≤a∧a<p) {P0:G} (h0:On p a b P0) {n0:Int} (hn0:0≤n0) (q:Q (cu (mul p a n0 P0)) σ):O7 bs d p a n0 (cu P0) σ Q:=by
 have step:∀ (k:Int) (T S:G),On p a b T→On p a b S→0<k→plus p a T (mul p a k S)=(if k%2=1 then plus p a (plus p a T S) (mul p a (k / 2) (plus p a S S)) else plus p a T (mul p a (k / 2) (plus p a S S))):=λ k T S hT hS hk=>by
  have e2:mul p a (k / 2) (plus p a S S)=mul p a (k / 2*2) S:=by
   rw [bF C hS,show mul p a 2 S=plus p a S S from by
    have:=mul_succ C hS 1
    rw [mul_one] at this
    exact this]
  rw [e2]
  by_cases h:k%2=1
  · rw [if_pos h,d8 C hT hS (aH C hS _)]
    have:plus p a S (mul p a (k / 2*2) S)=mul p a (1+k / 2*2) S:=by rw [mul_add C hS,mul_one]
    rw [this,show 1+k / 2*2=k by (clear this e2 hk; lia)]
  · rw [if_neg h,show k / 2*2=k by (clear e2 hk; lia)]
 unfold O7
 refine ⟨λ a1 a2 a3 m aa=>∃ T S,a2=cu T∧a3=cu S∧On p a b T∧On p a b S∧0≤a1∧m=a1.toNat∧aa=σ∧plus p a T (mul p a a1 S)=mul p a n0 P0,⟨_,none,P0,rfl,rfl,trivial,h0,hn0,rfl,rfl,rfl⟩,λ a1 a2 a3 m aa hI=>?_⟩
 refine aG λ G kG=>?_
 obtain ⟨T,S,e1,e2,hT,hS,h1,em,es,eq⟩:=hI
 subst e1 e2 em es
 refine kG ?_
 refine ⟨λ h=>⟨by decide,λ r e_r lG g9=>⟨λ hr=>?_,λ hr=>?_⟩⟩,λ h=>?_⟩
 · have hk:=of_decide_eq_true h
   have e:=of_decide_eq_true hr
   rw [step a1 T S hT hS hk,if_pos (by rw [← e_r]; exact e)] at eq
   exact c9 O C ha hT hS (c9 O C ha hS hS ⟨⟨by decide,by decide⟩,_,Lq.hv hk,_,_,rfl,rfl,cQ C hT hS,cQ C hS hS,by lia,rfl,rfl,eq⟩)
 · have hk:=of_decide_eq_true h
   have e:=of_decide_eq_false hr
   rw [step a1 T S hT hS hk,if_neg (by rw [← e_r]; exact e)] at eq
   exact c9 O C ha hS hS ⟨⟨by decide,by decide⟩,_,Lq.hv hk,_,_,rfl,rfl,hT,cQ C hS hS,by (clear hk e_r h; lia),rfl,rfl,eq⟩
 · have hk:=of_decide_eq_false h
   have:a1=0:=(Lq.e (Lq.n (of_decide_eq_false h)) h1)
   subst this
   rw [mul_zero,cR] at eq
   rw [eq]; exact q
theorem Cz (O:(U bs).Ok) {p a b:Int} (C:Cv p a b) (ha:0≤a∧a<p) {P:G} (hP:On p a b P) {n:Int} (q:Q (cu (mul p a n P)) σ):ai (U bs) (d+5) (.cst (.ref ym)) [.int p,.int a,.int n,cu P] σ Q:=by
 generalize hv:cu P=v
 exact ai.of O (T:=T0) (by kernel_rfl) (by kernel_rfl) λ L=>Eq.mp (α:=((decide (n<0))=true→ai (U bs) (d+4) (.cst (.ref 463)) [.int p,v] σ λ v1 s=>O7 bs d p a (0-n) v1 s Q)∧((decide (n<0))=false→O7 bs d p a n v σ Q)) (by kernel_rfl) (by
  subst hv
  refine ⟨λ h1=>lF O C (Ir O C ha (bD C hP) (by have:=of_decide_eq_true h1; exact Lq.s0 (Lq.w (of_decide_eq_true h1))) ?_),λ h2=>Ir O C ha hP (by have:=of_decide_eq_false h2; exact Lq.n (of_decide_eq_false h2)) q⟩
  rw [← qK (p:=p) (a:=a),← bF C hP,show (0-n) * -1=n by lia]
  exact q)
end
end
noncomputable section
section
variable {bs:Bs} {d:Nat} {σ:List AO} {Q:AV→List AO→Prop}
theorem GR {P:G} (q:Q (.bool P.isNone) σ):aA (U bs) d .Is (cu P) .none σ Q:=by
 cases P with
 | none=>exact aA.isNone (eF rfl) q
 | some P=>exact aA.isNone (eF rfl) q
theorem CA (O:(U bs).Ok) {p a b:Int} (C:Cv p a b) (ha:0≤a∧a<p) {P:Int×Int} (hP:On p a b (some P)) (q:∀ n,n≤2*p+2→Od p a n (some P)→Q (.int n) σ):ai (U bs) (d+5) (.cst (.ref yo)) [.int p,.int a,cu (some P)] σ Q:=by
 have hp:=C.hp
 have l5:=C.lo
 have hh:=C.hi
 generalize hv:cu (some P)=v
 exact ai.of O (T:=T0) (by kernel_rfl) (by kernel_rfl) λ L=>Eq.mp (α:=(af 2∨af p)∧Builtin.Range.small 0 ((2*p)+2) 1=true∧∃ I:AV→Int→Int→List AO→Prop,I v 1 0 σ∧∀ a1:AV,∀ a2:Int,∀ i:Int,∀ aj:List AO,I a1 a2 i aj→(i<((2*p)+2)→aA (U bs) (d+4) .Is a1 .none aj λ a3 a4=>dB a3 λ c=>(c=true→Q (.int a2) a4)∧(c=false→ai (U bs) (d+4) (.cst (.ref 456)) [.int p,.int a,a1,v] a4 λ v1 s=>I v1 (a2+1) (i+1) s))∧(((2*p)+2)≤i→Q (.int 0) aj)) (by kernel_rfl) (by
  subst hv
  refine ⟨.inl (by unfold af; exact ⟨by decide,by decide⟩),gH (by lia) (by lia),λ a1 a2 i aa=>a1=cu (mul p a (i+1) (some P))∧a2=i+1∧aa=σ∧0≤i∧∀ k,0<k→k≤i→mul p a k (some P)≠none,⟨by rw [Int.zero_add,mul_one],rfl,rfl,by lia,λ k h1 h2=>by lia⟩,λ a1 a2 i aa hI=>?_⟩
  refine aG λ G kG=>?_
  obtain ⟨e1,e2,es,h0,hk⟩:=hI
  subst e1 e2 es
  refine kG ?_
  refine ⟨λ h=>GR ⟨λ hn=>q (i+1) (h) ⟨(Lq.ls h0 (Lq.rs _ (by decide))),by simpa using hn,λ k h1 h2=>hk k h1 (Lq.pl h2)⟩,λ hn=>?_⟩,λ h=>?_⟩
  · have mG:=aH C hP (i+1)
    have es:plus p a (mul p a (i+1) (some P)) (some P)=mul p a (i+1+1) (some P):=(mul_succ C hP (i+1)).symm
    generalize hT:mul p a (i+1) (some P)=T at mG hn es ⊢
    refine c9 O C ha mG hP ?_
    refine ⟨congrArg cu es,rfl,rfl,Lq.ll (by decide) (Lq.al _ h0),λ k h1 h2=>?_⟩
    · by_cases hki:k≤i
      · exact hk k h1 hki
      · have:k=i+1:=(Lq.e h2 (Lq.m hki))
        subst this
        intro e
        rw [hT] at e
        rw [e] at hn
        cases hn
  · obtain ⟨n,h1,h2,h3⟩:=Dh C hP
    exact absurd h3 (hk n h1 (by lia)))
def CB (i:Int) (a:Int) (Q:AV→List AO→Prop) (σ:List AO) (aj:List AO) (I:Int→Int→List AO→Prop):Prop:=(i<200→((decide (a=0))=true→Q (.lst σ.length) aj)∧((decide (a=0))=false→(0:Int)<2∧∀ r:Int,r=(a%2)→0≤r→r<2→((decide (r=1))=true→(0:Int)<4∧∀ r1:Int,r1=(a%4)→0≤r1→r1<4→aD σ.length aj λ x=>aD σ.length aj λ xs=>xs.length≤1000000∧((0:Int)<2∧(2:Int)<1073741824)∧I ((a-(2-r1)) / 2) (i+1) (aj.set σ.length (AO.lst (xs++[.int (2-r1)]))))∧((decide (r=1))=false→aD σ.length aj λ x=>aD σ.length aj λ xs=>xs.length≤1000000∧((0:Int)<2∧(2:Int)<1073741824)∧I ((a-0) / 2) (i+1) (aj.set σ.length (AO.lst (xs++[.int 0]))))))∧(200≤i→Q (.lst σ.length) aj)
theorem qS (O:(U bs).Ok) {n:Int} (hm:n.natAbs≤2^199) (q:∀ ds,eW n ds→Q (.lst σ.length) (σ++[.lst (ds.map .int)])) :
 ai (U bs) (d+1) (.cst (.ref wW)) [.int n] σ Q :=
 ai.of O (T:=T0) (by kernel_rfl) (by kernel_rfl) λ L=>Eq.mp (α:=Builtin.Range.small 0 200 1=true∧∃ I:Int→Int→List AO→Prop,I n 0 (σ++[AO.lst []])∧∀ a:Int,∀ i:Int,∀ aj:List AO,I a i aj→CB i a Q σ aj I) (by kernel_rfl) (by
  refine ⟨gH (by decide) (by decide),λ a i aa=>∃ pre:List Int,aa=σ++[.lst (pre.map .int)]∧(∀ ds,eW a ds→eW n (pre++ds))∧(pre.length:Int)=i,⟨[],rfl,(λ ds h=>h),rfl⟩,λ a i aa h1=>?_⟩
  refine aG λ G kG=>?_
  obtain ⟨pre,rfl,hn,hi⟩:=h1
  obtain ⟨es,hes⟩:=eW.ex _ a (Nat.le_refl _)
  refine kG ?_
  have hl:=(hn es hes).short 199 hm
  rw [List.length_append] at hl
  have app:∀ x:Int,(σ++[AO.lst (pre.map AV.int)]).set σ.length (.lst (pre.map AV.int++[.int x]))=σ++[.lst ((pre++[x]).map AV.int)]:=λ x=>by
   rw [gY,List.map_append]; rfl
  have aY:=getLast σ (.lst (pre.map AV.int))
  have hz:(pre.map AV.int).length≤1000000:=by rw [List.length_map]; lia
  have FD:a=0→Q (.lst σ.length) (σ++[.lst (pre.map .int)]):=λ h0=>by
   have:=hn [] (by rw [h0]; exact .nil)
   rw [List.append_nil] at this
   exact q pre this
  have fin:∀ x y:Int,a≠0→x=dg a→y=(a-x) / 2→∃ pre':List Int,(σ++[AO.lst (pre.map AV.int)]).set σ.length (.lst (pre.map AV.int++[.int x]))=σ++[.lst (pre'.map .int)]∧(∀ ds,eW y ds→eW n (pre'++ds))∧(pre'.length:Int)=i+1:=λ x y h0 e1 e2=>by
   subst e1; subst e2
   refine ⟨pre++[dg a],app _,λ ds h=>?_,by rw [List.length_append]; simp; exact hi⟩
   rw [List.append_assoc]; exact hn _ (.cons h0 h)
  refine ⟨λ hlt=>⟨λ h2=>FD (of_decide_eq_true h2),λ h2=>?_⟩,λ h7=>?_⟩
  · have h0:=of_decide_eq_false h2
    refine ⟨by decide,λ r e_r lG g9=>⟨λ h3=>⟨by decide,λ r1 bC cj ck=>⟨_,aY,⟨_,aY,⟨hz,⟨⟨by decide,by decide⟩,?_⟩⟩⟩⟩⟩,λ h6=>⟨_,aY,⟨_,aY,⟨hz,⟨⟨by decide,by decide⟩,?_⟩⟩⟩⟩⟩⟩
    · have g3:=of_decide_eq_true h3
      exact fin _ _ h0 (by rw [Ji e_r (g3.symm▸by decide),bC]) rfl
    · have g3:=of_decide_eq_false h6
      exact fin _ _ h0 (Mg e_r ((Int.emod_two_eq a).elim (λ z=>e_r.trans z) λ z=>absurd (e_r.trans z) g3)) rfl
  · refine FD ?_
    cases hes with
    | nil=>rfl
    | cons h0 h=>simp at hl; lia)
def EK (i1:Nat) (ys:List Int) (aj:List AO) (i:Nat) (a:Int) (o:Int) (bs:Bs) (d:Nat) (Q:AV→List AO→Prop) (I:Int→Nat→List AO→Prop):Prop:=(∀ j:Nat,∀ y:Int,i1=(j+1)→ys[j]? = some y→aj[i]? = some (AO.lst (ys.map (λ a1=>.int a1)))∧(af 2∨af a)∧0<o∧∀ r:Int,r=((2*a)%o)→0≤r→r<o→((decide (y≠0))=true→0<o∧∀ r1:Int,r1=(1%o)→0≤r1→r1<o→0<o∧∀ r2:Int,r2=((0-1)%o)→0≤r2→r2<o→aA (U bs) (d+1) .In (.int r) (.lst aj.length) (aj++[AO.lst [.int r1,.int r2]]) λ v1 s1=>dB v1 λ c=>(c=true→Q (.bool true) s1)∧(c=false→0<o∧∀ r3:Int,r3=((r+y)%o)→0≤r3→r3<o→I r3 j s1))∧((decide (y≠0))=false→0<o∧∀ r1:Int,r1=((r+y)%o)→0≤r1→r1<o→I r1 j aj))∧(i1=0→Q (.bool false) aj)
theorem CD (O:(U bs).Ok) (hd:3≤d) {n o:Int} (hn:0<o) (hb:o≤1000) (hm:n.natAbs≤2^199) (q:∀ c δ,(c=false→∀ ds,eW n ds→¬ Meets o ds)→Q (.bool c) (σ++δ)) :
 ai (U bs) (d+2) (.cst (.ref yp)) [.int n,.int o] σ Q :=
 ai.of O (T:=T0) (by kernel_rfl) (by kernel_rfl) λ L=>Eq.mp (α:=ai (U bs) (d+1) (.cst (.ref 489)) [.int n] σ λ v s=>dL v λ i=>∃ ys:List Int,s[i]? = some (AO.lst (ys.map (λ a=>.int a)))∧ys.length≤1000000∧∃ I:Int→Nat→List AO→Prop,I 0 ys.length s∧∀ a:Int,∀ i1:Nat,∀ aj:List AO,I a i1 aj→EK i1 ys aj i a o bs d Q I) (by kernel_rfl) (by
  refine qS O hm λ ds hds=>?_
  have hl:=hds.short 199 hm
  have aY:=getLast σ (.lst (ds.map AV.int))
  refine ⟨ds,aY,by lia,λ a j aa=>∃ δ,aa=σ++([.lst (ds.map .int)]++δ)∧a%o=val (ds.drop j)%o∧af a∧∀ i y,j≤i→ds[i]? = some y→y≠0→¬ ((2*val (ds.drop (i+1)))%o=1%o∨(2*val (ds.drop (i+1)))%o=(-1)%o),⟨[],by rw [List.append_nil],by rw [List.drop_length]; rfl,by unfold af; exact ⟨by decide,by decide⟩,λ i y h1 h2=>?_⟩,λ a j aa hI=>?_⟩
  · rw [List.getElem?_eq_none h1] at h2; cases h2
  refine aG λ G kG=>?_
  obtain ⟨δ,rfl,ea,hs,hno⟩:=hI
  refine kG ?_
  refine ⟨λ k y e hy=>?_,λ e=>?_⟩
  · subst e
    have Qo:(σ++([AO.lst (ds.map AV.int)]++δ))[σ.length]? = some (.lst (ds.map .int)):=by rw [← List.append_assoc]; exact aI aY δ
    have hv:=vK hy
    refine ⟨Qo,.inl (by unfold af; exact ⟨by decide,by decide⟩),hn,λ r e_r lG g9=>?_⟩
    have er:r=(2*val (ds.drop (k+1)))%o:=by rw [e_r,Int.mul_emod,ea,← Int.mul_emod]
    have O8:∀ r',r'=(r+y)%o→r'%o=val (ds.drop k)%o∧af r':=λ r' e=>by
     have h1:=Int.emod_nonneg (r+y) (Int.ne_of_gt hn)
     have h2:=Int.emod_lt_of_pos (r+y) hn
     refine ⟨?_,by unfold af; exact ⟨Lq.ll (Lq.ll (by decide) h1) (Int.le_of_eq e.symm),Lq.w (Lq.sl (Lq.sl (Lq.ls (Int.le_of_eq e) h2) hb) (by decide))⟩⟩
     rw [e,er,hv,Int.emod_emod,Int.emod_add_emod,Int.add_comm]
    refine ⟨λ h4=>?_,λ h7=>?_⟩
    · have KZ:=of_decide_eq_true h4
      refine ⟨hn,λ r1 bC cj ck=>⟨hn,λ r2 dX lZ mh=>?_⟩⟩
      have hdat:wR ((σ++([AO.lst (ds.map AV.int)]++δ))++[AO.lst [.int r1,.int r2]]) (.lst (σ++([AO.lst (ds.map AV.int)]++δ)).length)=some (.list [.int r1,.int r2]):=by
       show (match ((σ++([AO.lst (ds.map AV.int)]++δ))++[AO.lst [.int r1,.int r2]])[(σ++([AO.lst (ds.map AV.int)]++δ)).length]? with
        | some (.lst xs)=>(match lY sC xs with | some ds=>some (PyData.list ds) | none=>none)
        | _=>none)=_
       rw [getLast]
       rfl
      refine aA.inD (Lq.bZ (by decide) (Lq.OS _ hd)) (a:=.int r) (x:=.int r) (ys:=[.int r1,.int r2]) rfl hdat rfl (λ y hy=>by
       rcases List.mem_cons.mp hy with e | hy
       · rw [e]; rfl
       · rw [List.mem_singleton.mp hy]; rfl) ⟨λ h5=>?_,λ h6=>?_⟩
      · have:=q true (([.lst (ds.map .int)]++δ)++[.lst [.int r1,.int r2]]) (λ h=>nomatch h)
        rw [← List.append_assoc] at this
        exact this
      · refine ⟨hn,λ r3 fN lD lE=>?_⟩
        have h6:=of_decide_eq_false h6
        have no:¬ (r=r1∨r=r2):=λ e=>h6 (by
         unfold PySem.Spec.countIn PySem.Spec.countIn PySem.Spec.countIn
         rcases e with e | e
         · rw [← e,if_pos (PySem.Spec.same_self _)]; split<;>lia
         · rw [← e,if_pos (c:=PySem.Spec.same (.int r) (.int r)=true) (PySem.Spec.same_self _)]; split<;>lia)
        refine ⟨δ++[.lst [.int r1,.int r2]],by simp only [List.append_assoc],(O8 r3 fN).1,(O8 r3 fN).2,λ i z hi hz hz0=>?_⟩
        by_cases hik:k+1≤i
        · exact hno i z hik hz hz0
        · have:i=k:=(Lq.ne (Lq.Pg (Lq.nm hik)) hi)
          subst this
          rw [← er,← bC]
          have e2:(-1:Int)%o=r2:=by rw [dX]; rfl
          rw [e2]
          exact no
    · have KZ:y=0:=by simpa using h7
      refine ⟨hn,λ r1 bC cj ck=>⟨δ,rfl,(O8 r1 bC).1,(O8 r1 bC).2,λ i z hi hz hz0=>?_⟩⟩
      by_cases hik:k+1≤i
      · exact hno i z hik hz hz0
      · have:i=k:=(Lq.ne (Lq.Pg (Lq.nm hik)) hi)
        subst this
        rw [hy] at hz
        cases hz
        exact absurd KZ hz0
  · subst e
    exact q false _ λ _ ds' h' hM=>by
     rw [h'.uniq hds] at hM
     refine aG λ G kG=>?_
     obtain ⟨pre,x,Mh,e,h1,h2⟩:=hM
     refine kG ?_
     have hx:ds[pre.length]? = some x:=by rw [e]; simp
     refine hno _ x (Nat.zero_le _) hx h1 ?_
     have:ds.drop (pre.length+1)=Mh:=by rw [e]; simp
     rw [this]; exact h2)
end
end
noncomputable section
section
variable {bs:Bs} {d:Nat} {σ:List AO} {Q:AV→List AO→Prop}
def CellsOk (cs:List Int):Prop:=cs≠[]∧(∀ c∈cs,0≤c)∧cs.length≤1000
theorem CellsOk.set {cs:List Int} (h:CellsOk cs) {k:Nat} {v:Int} (hv:0≤v):CellsOk (cs.set k v):=by
 refine ⟨λ e=>h.1 ?_,λ c hc=>?_,by rw [List.length_set]; exact h.2.2⟩
 · have:=congrArg List.length e
   rw [List.length_set] at this
   exact List.length_eq_zero_iff.mp this
 · rcases List.mem_or_eq_of_mem_set hc with h1 | h1
   · exact h.2.1 c h1
   · rw [h1]; exact hv
theorem EL (O:(U bs).Ok) {s k:Nat} {i:Int} {cs:List Int} (BD:σ[s]? = some (.lst [.int i,.lst k])) (CY:σ[k]? = some (.lst (cs.map .int))) (hi:0≤i) (hcs:CellsOk cs) {m:Int} (hm:0<m) (hm':m≤100000)
 (q1:∀ v i',0≤v→v<m→0≤i'→Q (.int v) (σ.set s (.lst [.int i',.lst k]))) (q2:∀ v cs',0≤v→v<m→CellsOk cs'→Q (.int v) (σ.set k (.lst (cs'.map .int)))) :
 ai (U bs) (d+1) (.cst (.ref dz)) [.lst s,.int m] σ Q :=
 ai.of O (T:=T0) (by kernel_rfl) (by kernel_rfl) λ L=>Eq.mp (α:=bf s 1 σ λ x=>dL x λ i=>bf s 0 σ λ x1=>dI x1 λ i1=>aD i σ λ xs=>xs.length≤1000000∧0<((xs.length:Nat):Int)∧∀ r:Int,r=(i1%((xs.length:Nat):Int))→0≤r→r<((xs.length:Nat):Int)→bf i r σ λ x2=>dI x2 λ i2=>((decide (1000000000000000000≤i2))=true→(0<m∧m<1073741824)∧∃ dF:List AV,σ[i]? = some (AO.lst dF)∧0≤r∧r<((dF.length:Nat):Int)∧r<1000000∧0<m∧∀ r1:Int,r1=(i2%m)→0≤r1→r1<m→Q (.int r1) (σ.set i (AO.lst (dF.set r.toNat (.int (i2 / m))))))∧((decide (1000000000000000000≤i2))=false→bf s 0 σ λ x3=>dI x3 λ i3=>∃ dF:List AV,σ[s]? = some (AO.lst dF)∧(0:Int)≤0∧0<((dF.length:Nat):Int)∧(0:Int)<1000000∧(af i2∨af 48271)∧bf s 0 (σ.set s (AO.lst (dF.set (0:Int).toNat (.int (i3+1))))) λ x4=>dI x4 λ i4=>(af i4∨af 69621)∧(0:Int)<2147483647∧∀ r1:Int,r1=(((i2*48271)+(i4*69621))%2147483647)→0≤r1→r1<2147483647→(af r1∨af 16807)∧bf s 0 (σ.set s (AO.lst (dF.set (0:Int).toNat (.int (i3+1))))) λ x5=>dI x5 λ i5=>(af i5∨af 7919)∧(0:Int)<1000000007∧∀ r2:Int,r2=(((r1*16807)+(i5*7919))%1000000007)→0≤r2→r2<1000000007→((0:Int)<7∧(7:Int)<1073741824)∧0<m∧∀ r3:Int,r3=((r2 / 7)%m)→0≤r3→r3<m→Q (.int r3) (σ.set s (AO.lst (dF.set (0:Int).toNat (.int (i3+1))))))) (by kernel_rfl) (by
  have hl:0<cs.length:=List.length_pos_iff.mpr hcs.1
  have hz:=hcs.2.2
  refine ⟨_,_,BD,by decide,by decide,rfl,⟨_,_,BD,by decide,by decide,rfl,⟨_,CY,by rw [List.length_map]; exact Lq.bZ hz (by decide),by rw [List.length_map]; exact Lq.cs hl,λ r e_r lG g9=>?_⟩⟩⟩
  rw [List.length_map] at g9
  have hr:r.toNat<cs.length:=(Lq.ts lG g9)
  have hx:(cs.map AV.int)[r.toNat]? = some (.int cs[r.toNat]):=by rw [List.getElem?_map,List.getElem?_eq_getElem hr]; rfl
  have hc0:=hcs.2.1 _ (List.getElem_mem hr)
  generalize cs[r.toNat]=z at hx hc0
  refine ⟨_,_,CY,lG,Lq.sl (Lq.sl g9 (Lq.cl hz)) (by decide),hx,⟨λ h1=>⟨⟨hm,Lq.ls hm' (by decide)⟩,⟨_,CY,lG,by rw [List.length_map]; exact g9,Lq.sl (Lq.sl g9 (Lq.cl hz)) (by decide),hm,λ r1 bC cj ck=>?_⟩⟩,λ h2=>⟨_,_,BD,by decide,by decide,rfl,⟨_,BD,by decide,by simp,by decide,.inr (by unfold af; exact ⟨by decide,by decide⟩),?_⟩⟩⟩⟩
  · have:=q2 r1 (cs.set r.toNat (z / m)) cj ck (hcs.set (Int.ediv_nonneg hc0 (Lq.w hm)))
    rw [List.map_set] at this
    exact this
  · have N2:=getSet (o':=.lst [.int (i+1),.lst k]) BD
    exact ⟨_,_,N2,by decide,by decide,rfl,.inr (by unfold af; exact ⟨by decide,by decide⟩),by decide,λ r1 bC cj ck=>⟨.inr (by unfold af; exact ⟨by decide,by decide⟩),_,_,N2,by decide,by decide,rfl,.inr (by unfold af; exact ⟨by decide,by decide⟩),by decide,λ r2 dX lZ mh=>⟨⟨by decide,by decide⟩,hm,λ r3 fN lD lE=>q1 r3 (i+1) lD lE (Lq.ll (by decide) (Lq.al _ hi))⟩⟩⟩)
section
variable {c:Nat} {p a b:Int} {ω:List D}
theorem fj (O:(U bs).Ok) (H:Gd c p a b ω σ) {s k:Nat} (hs:ω[s]? = some (.st k)) (hk:ω[k]? = some .cells) {m:Int} (hm:0<m) (hm':m≤100000) (q:∀ v σ',Gd c p a b ω σ'→0≤v→v<m→Q (.int v) σ') :
 ai (U bs) (d+1) (.cst (.ref dz)) [.lst s,.int m] σ Q:=by
 refine aG λ G kG=>?_
 obtain ⟨o,BD,i,hi,rfl⟩:=H.sat _ _ hs
 obtain ⟨o,CY,cs,h1,h2,h3,rfl⟩:=H.sat _ _ hk
 refine kG ?_
 exact EL O BD CY hi ⟨h1,h2,h3⟩ hm hm' (λ v i' l u hi'=>q v _ (H.set hs ⟨i',hi',rfl⟩) l u) λ v cs' l u hc=>q v _ (H.set hk ⟨cs',hc.1,hc.2.1,hc.2.2,rfl⟩) l u
theorem CE (O:(U bs).Ok) (C:Cv p a b) (H:Gd c p a b ω σ) {s k:Nat} (hs:ω[s]? = some (.st k)) (hk:ω[k]? = some .cells) (q:∀ v σ',Gd c p a b ω σ'→1≤v→v<p→Q (.int v) σ') :
 ai (U bs) (d+2) (.cst (.ref wX)) [.lst s,.int p] σ Q:=by
 have hp:=C.hp
 have l5:=C.lo
 exact ai.of O (T:=T0) (by kernel_rfl) (by kernel_rfl) λ L=>Eq.mp (α:=ai (U bs) (d+1) (.cst (.ref 428)) [.lst s,.int 3] σ λ v s1=>dI v λ i=>((decide (i=0))=true→Q (.int 1) s1)∧((decide (i=0))=false→ai (U bs) (d+1) (.cst (.ref 428)) [.lst s,.int (p-1)] s1 λ v1 s2=>dI v1 λ i1=>Q (.int (1+i1)) s2)) (by kernel_rfl) (by
  refine fj O H hs hk (by decide) (by decide) λ v σ' H' l u=>⟨λ h1=>q 1 _ H' (by lia) (by lia),λ h2=>?_⟩
  exact fj O H' hs hk (Lq.sl (Lq.sl (Lq.ls l u) (by decide)) (Lq.dl _ l5)) (Lq.ll (Lq.dl _ hp) (by decide)) λ v σ' H' l u=>q _ _ H' (Lq.bl _ l) (by lia))
end
end
end
noncomputable section
section
variable {bs:Bs} {d:Nat} {σ:List AO} {Q:AV→List AO→Prop}
structure Sk (σ:List AO) (s k N:Nat):Prop where
 len:σ.length=N
 st:∃ i:Int,0≤i∧σ[s]? = some (.lst [.int i,.lst k])
 cells:∃ cs,CellsOk cs∧σ[k]? = some (.lst (cs.map .int))
theorem Sk.ne {s k N:Nat} (H:Sk σ s k N):s≠k:=λ e=>by
 subst e
 refine aG λ G kG=>?_
 obtain ⟨i,_,h1⟩:=H.st
 obtain ⟨cs,_,h2⟩:=H.cells
 refine kG ?_
 rw [h1] at h2
 cases cs with
 | nil=>cases h2
 | cons x r=>cases r with
  | nil=>cases h2
  | cons y r=>cases h2
theorem yx (O:(U bs).Ok) {s k N:Nat} (H:Sk σ s k N) {m:Int} (hm:0<m) (hm':m≤1000) (q:∀ v σ',Sk σ' s k N→0≤v→v<m→Q (.int v) σ') :
 ai (U bs) (d+1) (.cst (.ref dz)) [.lst s,.int m] σ Q:=by
 have hne:=H.ne
 refine aG λ G kG=>?_
 obtain ⟨i,hi,BD⟩:=H.st
 obtain ⟨cs,hc,CY⟩:=H.cells
 refine kG ?_
 refine EL O BD CY hi hc hm (Lq.ll hm' (by decide)) (λ v i' l u hi'=>q v _ ⟨by rw [List.length_set]; exact H.len,⟨i',hi',getSet BD⟩,⟨cs,hc,bq CY hne⟩⟩ l u) λ v cs' l u hc'=>q v _ ⟨by rw [List.length_set]; exact H.len,⟨i,hi,bq BD (Ne.symm hne)⟩,⟨cs',hc',getSet CY⟩⟩ l u
theorem Sk.good {s k N:Nat} (H:Sk σ s k N) (p a b:Int):∃ ω,ω[s]? = some (.st k)∧ω[k]? = some .cells∧ω.length=N+1∧Gd N p a b ω (σ++[.inst (fU p a b)]):=by
 have hne:=H.ne
 refine aG λ G kG=>?_
 obtain ⟨i,hi,BD⟩:=H.st
 obtain ⟨cs,hc,CY⟩:=H.cells
 refine kG ?_
 have hl:=H.len
 have ls:s<σ.length:=(List.getElem?_eq_some_iff.mp BD).1
 have lk:k<σ.length:=(List.getElem?_eq_some_iff.mp CY).1
 have lw:(((σ.map D.raw).set s (.st k)).set k .cells).length=σ.length:=by rw [List.length_set,List.length_set,List.length_map]
 have w1:(((σ.map D.raw).set s (.st k)).set k .cells)[s]? = some (.st k):=by
  rw [List.getElem?_set_ne (Ne.symm hne),List.getElem?_set_self (by rw [List.length_map]; exact ls)]
 have w2:(((σ.map D.raw).set s (.st k)).set k .cells)[k]? = some .cells:=by
  rw [List.getElem?_set_self (by rw [List.length_set,List.length_map]; exact lk)]
 refine ⟨((σ.map D.raw).set s (.st k)).set k .cells++[.cur],ak w1 _,ak w2 _,by rw [List.length_append,lw,hl]; rfl,by rw [List.length_append,List.length_append,lw]; rfl,?_,λ n E hE=>?_⟩
 · rw [List.getElem?_append_right (by rw [lw,hl]; exact Nat.le_refl _),lw,hl,Nat.sub_self]; rfl
 · by_cases hn:n<σ.length
   · rw [List.getElem?_append_left (by rw [lw]; exact hn)] at hE
     rw [List.getElem?_append_left hn]
     by_cases e1:n=k
     · subst e1
       rw [w2] at hE; cases hE
       exact ⟨_,CY,cs,hc.1,hc.2.1,hc.2.2,rfl⟩
     · by_cases e2:n=s
       · subst e2
         rw [w1] at hE; cases hE
         exact ⟨_,BD,i,hi,rfl⟩
       · rw [List.getElem?_set_ne (Ne.symm e1),List.getElem?_set_ne (Ne.symm e2),List.getElem?_map,List.getElem?_eq_getElem hn] at hE
         cases hE
         exact ⟨_,List.getElem?_eq_getElem hn,rfl⟩
   · rw [List.getElem?_append_right (by rw [lw]; exact Nat.not_lt.mp hn),lw] at hE
     rw [List.getElem?_append_right (Nat.not_lt.mp hn)]
     cases hz:n-σ.length with
     | zero=>rw [hz] at hE; cases hE; exact ⟨_,rfl,rfl⟩
     | succ m=>rw [hz] at hE; simp at hE
theorem EM (i:Int) (h0:0≤i) (h:i<24):∃ vs v n,zF (U bs).K vZ=some vs∧vs[i.toNat]? = some v∧vQ v=.int ((n:Nat):Int)∧n∈dc:=by
 have hk:(zF (U bs).K vZ).map (List.map vQ)=some (dc.map λ n:Nat=>AV.int ((n:Nat):Int)):=by kernel_rfl
 cases hv:zF (U bs).K vZ with
 | none=>rw [hv] at hk; cases hk
 | some vs =>
  rw [hv] at hk
  have hk:vs.map vQ=dc.map λ n:Nat=>AV.int ((n:Nat):Int):=Option.some.inj hk
  have hl:dc.length=24:=rfl
  have hi:i.toNat<dc.length:=(Lq.ts h0 (Lq.sl h (Lq.cl (Nat.le_of_eq hl.symm))))
  have e:(vs.map vQ)[i.toNat]? = (dc.map λ n:Nat=>AV.int ((n:Nat):Int))[i.toNat]?:=by rw [hk]
  rw [List.getElem?_map,List.getElem?_map,List.getElem?_eq_getElem hi] at e
  cases hx:vs[i.toNat]? with
  | none=>rw [hx] at e; cases e
  | some v =>
   rw [hx] at e
   exact ⟨vs,v,dc[i.toNat],rfl,hx,Option.some.inj e,List.getElem_mem hi⟩
def EN (i4:Int) (i2:Int) (a:Int) (i1:Int) (I:Int→Int→List AO→Prop) (aj:List AO) (Q:AV→List AO→Prop):Prop:=(i4<3→(af 4∨af i2)∧(af (4*i2)∨af i2)∧(af ((4*i2)*i2)∨af i2)∧(af 27∨af a)∧(af (27*a)∨af a)∧0<i1∧∀ r:Int,r=(((((4*i2)*i2)*i2)+((27*a)*a))%i1)→0≤r→r<i1→((decide (r=0))=true→0<i1∧∀ r1:Int,r1=((a+1)%i1)→0≤r1→r1<i1→I r1 (i4+1) aj)∧((decide (r=0))=false→I a (i4+1) aj))∧(3≤i4→Q (.tup [.int i1,.int i2,.int a]) aj)
def EO (v:AV) (bs:Bs) (d:Nat) (s1:List AO) (s:Nat) (Q:AV→List AO→Prop):Prop:=dI v λ i=>g8 (U bs) (d+1) (.cst (.ref 416)) (.int i) s1 λ v1 s2=>dI v1 λ i1=>ai (U bs) (d+1) (.cst (.ref 428)) [.lst s,.int i1] s2 λ v2 s3=>dI v2 λ i2=>ai (U bs) (d+1) (.cst (.ref 428)) [.lst s,.int i1] s3 λ v3 s4=>dI v3 λ i3=>Builtin.Range.small 0 3 1=true∧∃ I:Int→Int→List AO→Prop,I i3 0 s4∧∀ a:Int,∀ i4:Int,∀ aj:List AO,I a i4 aj→EN i4 i2 a i1 I aj Q
theorem CF (O:(U bs).Ok) {s k N:Nat} (H:Sk σ s k N) (q:∀ p a b σ',Cv p a b→0≤a∧a<p→0≤b∧b<p→Sk σ' s k N→Q (.tup [.int p,.int a,.int b]) σ') :
 ai (U bs) (d+2) (.cst (.ref yl)) [.lst s] σ Q :=
 ai.of O (T:=T0) (by kernel_rfl) (by kernel_rfl) λ L=>Eq.mp (α:=ai (U bs) (d+1) (.cst (.ref 428)) [.lst s,.int 24] σ λ v s1=>EO v bs d s1 s Q) (by kernel_rfl) (by
  refine yx O H (by decide) (by decide) λ i σ1 H1 l1 u1=>?_
  refine aG λ G kG=>?_
  obtain ⟨vs,v,n,hv,hx,ev,hn⟩:=EM (bs:=bs) i l1 u1
  refine kG ?_
  refine g8.NL O hv l1 hx (Lq.sl u1 (by decide)) ?_
  rw [ev]
  refine aG λ G kG=>?_
  obtain ⟨n5,Kv,_,_⟩:=vI hn
  refine kG ?_
  generalize hp:((n:Nat):Int)=p
  have R3:p.toNat∈dc:=by rw [← hp,Int.toNat_natCast]; exact hn
  refine yx O H1 (by lia) (Lq.ll (Lq.ll (Int.le_of_eq hp.symm) (Lq.cl Kv)) (by decide)) λ a σ2 H2 l2 u2=>yx O H2 (Lq.ls l2 u2) (Lq.ll (Lq.ll (Int.le_of_eq hp.symm) (Lq.cl Kv)) (by decide)) λ b0 σ3 H3 l3 u3=>?_
  refine ⟨gH (by decide) (by decide),λ b j σ'=>σ'=σ3∧0≤j∧(0≤b∧b<p)∧((4*a*a*a+27*b*b)%p=0→j=0∨(j=1∧∃ b1,(4*a*a*a+27*b1*b1)%p=0∧b=(b1+1)%p)),⟨rfl,by lia,⟨l3,u3⟩,λ _=>.inl rfl⟩,λ b j σ' hI=>?_⟩
  refine aG λ G kG=>?_
  obtain ⟨rfl,hj,hb,hD⟩:=hI
  refine kG ?_
  have OX:p≤((1000:Nat):Int):=(Lq.ll (Lq.ll (Int.le_of_eq hp.symm) (Lq.cl Kv)) (by decide))
  have ba:=bN.of ⟨l2,u2⟩ OX
  have bb:=bN.of hb OX
  refine ⟨λ h2=>⟨(.inl (bN.small (bN.num 4) rfl)),(.inl (bN.small (bN.mul (bN.num 4) ba) rfl)),(.inl (bN.small (bN.mul (bN.mul (bN.num 4) ba) ba) rfl)),(.inl (bN.small (bN.num 27) rfl)),(.inl (bN.small (bN.mul (bN.num 27) bb) rfl)),Lq.ls l2 u2,λ r e_r lG g9=>⟨λ h3=>⟨(Lq.ls l2 u2),λ r1 bC cj ck=>?_⟩,λ h4=>?_⟩⟩,λ h5=>?_⟩
  · have h3:=of_decide_eq_true h3
    rw [e_r] at h3
    refine ⟨rfl,Lq.ll (by decide) (Lq.al _ hj),⟨cj,ck⟩,λ h0=>?_⟩
    rcases hD h3 with e | ⟨e,b1,g1,g2⟩
    · exact .inr ⟨(Lq.e (Lq.al _ (Int.le_of_eq e)) (Lq.al _ hj)),b,h3,bC⟩
    · rw [g2] at h3
      rw [bC,g2] at h0
      exact absurd h0 (Mb R3 g1 h3)
  · have h4:=of_decide_eq_false h4
    rw [e_r] at h4
    exact ⟨rfl,Lq.ll (by decide) (Lq.al _ hj),hb,λ h0=>absurd h0 h4⟩
  · have hd:(4*a*a*a+27*b*b)%p≠0:=λ h0=>by
     rcases hD h0 with e | ⟨e,_⟩<;>exact Lq.f (Lq.ls (Int.le_of_eq e) (by decide)) h5
    exact q p a b _ (Cv.of R3 hd) ⟨l2,u2⟩ hb H3)
section
variable {c:Nat} {p a b:Int} {ω:List D}
theorem yy (O:(U bs).Ok) (C:Cv p a b) (H:Gd c p a b ω σ) {s k:Nat} (hs:ω[s]? = some (.st k)) (hk:ω[k]? = some .cells) {x y:Int} {o:AV} {t:Bool} (hP:On p a b (some (x,y)))
 (q:∀ σ',Gd c p a b (ω++[.pj (x,y) o t,.tab []]) σ'→Q (.inst ah ω.length) σ') :
 ai (U bs) (d+3) (.cst (.ref gV)) [.lst s,.inst au c,.tup [.int x,.int y],o,.bool t] σ Q:=by
 have d7:=H.sF
 have Hp:=C.pos
 have hp:=C.hp
 have l5:=C.lo
 exact ai.of O (T:=T0) (by kernel_rfl) (by kernel_rfl) λ L=>Eq.mp (α:=aC c "p" σ∧ai (U bs) (d+2) (.cst (.ref 57)) [.inst 88 c] σ λ v s1=>dI v λ i=>ai (U bs) (d+2) (.cst (.ref 517)) [.lst s,.int i] s1 λ v1 s2=>dI v1 λ i1=>(af x∨af i1)∧(af (x*i1)∨af i1)∧0<i∧∀ r:Int,r=(((x*i1)*i1)%i)→0≤r→r<i→(af y∨af i1)∧(af (y*i1)∨af i1)∧(af ((y*i1)*i1)∨af i1)∧0<i∧∀ r1:Int,r1=((((y*i1)*i1)*i1)%i)→0≤r1→r1<i→ai (U bs) (d+2) (.cst (.ref 313)) [.inst 88 c,.int r,.int r1,.int i1,o,.bool t] s2 λ v2 s3=>dO 313 v2 λ i2=>Q (.inst 313 i2) s3) (by kernel_rfl) (by
  refine ⟨(aN d7 (by kernel_rfl)),bW O d7 (CE O C H hs hk λ z σ' H' l u=>?_)⟩
  have bx:=bN.of hP.1 hp
  have Io:=bN.of hP.2.1 hp
  have bz:=bN.of (⟨(Lq.ll (by decide) l),u⟩:0≤z∧z<p) hp
  refine ⟨(.inl (bN.small bx rfl)),⟨(.inl (bN.small (bN.mul bx bz) rfl)),⟨Hp,λ r e_r lG g9=>⟨(.inl (bN.small Io rfl)),⟨(.inl (bN.small (bN.mul Io bz) rfl)),⟨(.inl (bN.small (bN.mul (bN.mul Io bz) bz) rfl)),⟨Hp,λ r1 bC cj ck=>?_⟩⟩⟩⟩⟩⟩⟩
  have hz:z%p≠0:=by rw [Int.emod_eq_of_lt (Lq.ll (by decide) l) u]; lia
  have hr:Rep p r r1 z (some (x,y)):=by
   refine ⟨hz,?_,?_⟩
   · show (r-x*z*z)%p=0
     rw [e_r,Int.sub_emod,Int.emod_emod,← Int.sub_emod,Int.sub_self]; rfl
   · show (r1-y*z*z*z)%p=0
     rw [bC,Int.sub_emod,Int.emod_emod,← Int.sub_emod,Int.sub_self]; rfl
  refine Qn O ⟨rfl,?_⟩
  rw [H'.len]
  have:=H'.qd (o:=o) (g:=t) hP hr ⟨⟨lG,g9⟩,⟨cj,ck⟩,⟨(Lq.ll (by decide) l),u⟩⟩
  rw [H'.len] at this
  exact q _ this)
end
end
end
noncomputable section
section
variable {bs:Bs} {d:Nat} {σ:List AO} {Q:AV→List AO→Prop}
theorem wg (k k':Int) (v:AV):∀ es:List (Int×AV),(es.map λ kv=>if kv.1=k then (kv.1,v) else kv).lookup k'=if k'=k then (if es.any (λ kv=>kv.1=k) then some v else none) else es.lookup k'
 | []=>by simp
 | (j,u) :: r=>by
  have ih:=wg k k' v r
  rw [List.map_cons,List.any_cons]
  by_cases hj:j=k
  · subst hj
    simp only [if_true,List.lookup_cons,ih,decide_true,Bool.true_or]
    by_cases hk:k'=j
    · subst hk; simp
    · rw [beq_eq_false_iff_ne.mpr hk]; simp [hk]
  · simp only [hj,if_false,List.lookup_cons,ih,decide_false,Bool.false_or]
    by_cases hk:k'=j
    · subst hk; simp [hj]
    · rw [beq_eq_false_iff_ne.mpr hk]
theorem wh (k k':Int) (v:AV):∀ es:List (Int×AV),es.any (λ kv=>kv.1=k)=false→(es++[(k,v)]).lookup k'=if k'=k then some v else es.lookup k'
 | [],_=>by
  rw [List.nil_append,List.lookup_cons]
  by_cases hk:k'=k
  · subst hk; simp
  · rw [beq_eq_false_iff_ne.mpr hk]; simp [hk]
 | (j,u) :: r,h=>by
  rw [List.any_cons,Bool.or_eq_false_iff] at h
  have hj:j≠k:=of_decide_eq_false h.1
  have ih:=wh k k' v r h.2
  rw [List.cons_append,List.lookup_cons,List.lookup_cons,ih]
  by_cases hk:k'=j
  · subst hk; simp [hj]
  · rw [beq_eq_false_iff_ne.mpr hk]
theorem tQ (k k':Int) (v:AV) (es:List (Int×AV)):(putD k v es).lookup k'=if k'=k then some v else es.lookup k':=by
 unfold putD
 by_cases h:es.any (λ kv=>kv.1=k)=true
 · rw [if_pos h,wg,if_pos h]
 · rw [if_neg h]; exact wh _ _ _ _ (Bool.eq_false_iff.mpr h)
theorem EP (k:Int) (v:AV) (es:List (Int×AV)):(putD k v es).length≤es.length+1:=by
 unfold putD
 split
 · rw [List.length_map]; exact Lq.nr _ _
 · rw [List.length_append]; exact Nat.le_refl _
def Pre (σ s:List AO):Prop:=∃ τ,s=σ++τ
theorem Pre.app {s:List AO} (h:Pre σ s) (l:List AO):Pre σ (s++l):=by
 obtain ⟨τ,rfl⟩:=h; exact ⟨τ++l,by rw [List.append_assoc]⟩
theorem Pre.set {s:List AO} (h:Pre σ s) {n:Nat} (hn:σ.length≤n) (o:AO):Pre σ (s.set n o):=by
 obtain ⟨τ,rfl⟩:=h; exact ⟨τ.set (n-σ.length) o,List.set_append_right _ _ hn⟩
theorem GS {n:Nat} {o:AO} (h:σ[n]? = some o):n<σ.length:=(List.getElem?_eq_some_iff.mp h).1
def AG (p N:Int) (σ:List AO) (es:List (Int×AV)):Prop:=∀ k v,es.lookup k=some v→∃ (n:Nat) (ys:List Int),v=.lst n∧σ[n]? = some (.lst (ys.map AV.int))∧(ys.length:Int)≤N∧ys≠[]∧∀ y∈ys,0≤y∧y<p∧y*y%p=k
theorem AG.app {p N:Int} {es:List (Int×AV)} (h:AG p N σ es) (l:List AO):AG p N (σ++l) es:=λ k v hk=>by
 refine aG λ G kG=>?_
 obtain ⟨n,ys,e,h1,h2⟩:=h k v hk
 refine kG ?_
 exact ⟨n,ys,e,aI h1 l,h2⟩
theorem AG.le {p N N':Int} {es:List (Int×AV)} (h:AG p N σ es) (hN:N≤N'):AG p N' σ es:=λ k v hk=>by
 refine aG λ G kG=>?_
 obtain ⟨n,ys,e,h1,h2,h3⟩:=h k v hk
 refine kG ?_
 exact ⟨n,ys,e,h1,Lq.ll h2 hN,h3⟩
theorem AG.Qp {p N:Int} {m:Nat} {o:AO} {es es':List (Int×AV)} (h:AG p N σ es) (hm:σ[m]? = some (.dct es')):AG p N (σ.set m o) es:=λ k v hk=>by
 refine aG λ G kG=>?_
 obtain ⟨n,ys,e,h1,h2⟩:=h k v hk
 refine kG ?_
 refine ⟨n,ys,e,bq h1 λ e=>?_,h2⟩
 subst e
 rw [hm] at h1
 cases h1
theorem AG.sG {p N:Int} {m:Nat} {o:AO} {es:List (Int×AV)} (h:AG p N σ es) (hm:∀ k n,es.lookup k=some (.lst n)→n<m):AG p N (σ.set m o) es:=λ k v hk=>by
 refine aG λ G kG=>?_
 obtain ⟨n,ys,e,h1,h2⟩:=h k v hk
 subst e
 refine kG ?_
 have:=hm k n hk
 exact ⟨n,ys,rfl,bq h1 (Lq.ny this),h2⟩
inductive R4 (p:Int) (σ:List AO) (i:Int) (s:List AO):Prop
 | mk (es:List (Int×AV)) (h1:Pre σ s) (h2:s[σ.length]? = some (.dct es)) (h3:AG p i s es) (h4:0≤i) (h5:i≤p) (h6:(es.length:Int)≤i) (h7:∀ y,0≤y→y<i→∃ v,es.lookup (y*y%p)=some v):R4 p σ i s
inductive R5 (p a b:Int) (σ:List AO) (es:List (Int×AV)) (m:Nat) (x:Int) (s:List AO):Prop
 | mk (ps:List (Int×Int)) (h1:Pre σ s) (h2:s[σ.length]? = some (.dct es)) (h3:AG p p s es) (h4:0≤x) (h5:x≤p) (h6:s[m]? = some (.lst (ps.map λ P=>.tup [.int P.1,.int P.2]))) (h7:(ps.length:Int)≤101*x) (h8:∀ P∈ps,On p a b (some P)) (h9:(∃ z,0≤z∧z<x∧∃ v,es.lookup ((z*z*z+a*z+b)%p)=some v)→ps≠[]):R5 p a b σ es m x s
inductive R6 (p a b:Int) (σ:List AO) (es:List (Int×AV)) (m:Nat) (x:Int) (n:Nat) (ys:List Int) (j:Nat) (s:List AO):Prop
 | mk (ps:List (Int×Int)) (h1:Pre σ s) (h2:s[σ.length]? = some (.dct es)) (h3:AG p p s es) (h6:s[m]? = some (.lst (ps.map λ P=>.tup [.int P.1,.int P.2]))) (h7:(ps.length:Int)≤101*x+j) (h8:∀ P∈ps,On p a b (some P)) (h9:s[n]? = some (.lst (ys.map AV.int))) (PS:j≤ps.length) (h11:(∃ z,0≤z∧z<x∧∃ v,es.lookup ((z*z*z+a*z+b)%p)=some v)→ps≠[]):R6 p a b σ es m x n ys j s
def CG (i1:Int) (p:Int) (bX:List AO) (σ:List AO) (a:Int) (b:Int) (aj:List AO) (I1:Int→List AO→Prop) (Q:AV→List AO→Prop):Prop:=(i1<p→(∃ es:List (Int×AV),bX[σ.length]? = some (.dct es))∧(af i1∨af i1)∧(af (i1*i1)∨af i1)∧(af a∨af i1)∧0<p∧∀ r:Int,r=(((((i1*i1)*i1)+(a*i1))+b)%p)→0≤r→r<p→∃ es:List (Int×AV),(bX++[AO.lst []])[σ.length]? = some (.dct es)∧dL ((List.lookup r es).getD (.lst bX.length)) λ i2=>∃ ys:List Int,(bX++[AO.lst []])[i2]? = some (AO.lst (ys.map (λ a1=>.int a1)))∧∃ I2:Nat→List AO→Prop,I2 0 (bX++[AO.lst []])∧∀ i3:Nat,∀ bM:List AO,I2 i3 bM→bM[i2]? = some (AO.lst (ys.map (λ a1=>.int a1)))∧(∀ y:Int,ys[i3]? = some y→aD aj.length bM λ x=>aD aj.length bM λ xs=>xs.length≤1000000∧I2 (i3+1) (bM.set aj.length (AO.lst (xs++[.tup [.int i1,.int y]]))))∧(i3=ys.length→I1 (i1+1) bM))∧(p≤i1→Q (.lst aj.length) bX)
def CH (i:Int) (p:Int) (aj:List AO) (σ:List AO) (I:Int→List AO→Prop) (a:Int) (b:Int) (Q:AV→List AO→Prop):Prop:=(i<p→(af i∨af i)∧0<p∧∀ r:Int,r=((i*i)%p)→0≤r→r<p→(∃ es:List (Int×AV),aj[σ.length]? = some (.dct es))∧∃ es:List (Int×AV),(aj++[AO.lst []])[σ.length]? = some (.dct es)∧dL ((List.lookup r es).getD (.lst aj.length)) λ i1=>aD i1 ((aj++[AO.lst []])++[AO.lst [.int i]]) λ xs=>aD (aj++[AO.lst []]).length ((aj++[AO.lst []])++[AO.lst [.int i]]) λ ys=>(xs.length+ys.length)≤1000000∧∃ es1:List (Int×AV),(((aj++[AO.lst []])++[AO.lst [.int i]])++[AO.lst (xs++ys)])[σ.length]? = some (.dct es1)∧es1.length≤1000000∧I (i+1) ((((aj++[AO.lst []])++[AO.lst [.int i]])++[AO.lst (xs++ys)]).set σ.length (.dct (putD r (.lst ((aj++[AO.lst []])++[AO.lst [.int i]]).length) es1))))∧(p≤i→Builtin.Range.small 0 p 1=true∧∃ I1:Int→List AO→Prop,I1 0 (aj++[AO.lst []])∧∀ i1:Int,∀ bX:List AO,I1 i1 bX→CG i1 p bX σ a b aj I1 Q)
theorem AH (O:(U bs).Ok) {p a b:Int} (C:Cv p a b) (ha:0≤a∧a<p)
 (q:∀ s m (ps:List (Int×Int)),Pre σ s→s[m]? = some (.lst (ps.map λ P=>.tup [.int P.1,.int P.2]))→(∀ P∈ps,On p a b (some P))→ps.length≤100000→(∀ x y,0≤x→x<p→0≤y→y<p→y*y%p=(x*x*x+a*x+b)%p→ps≠[])→σ.length≤m→Q (.lst m) s) :
 ai (U bs) (d+1) (.cst (.ref wV)) [.int p,.int a,.int b] σ Q :=
 ai.of O (T:=T0) (by kernel_rfl) (by kernel_rfl) λ L=>Eq.mp (α:=Builtin.Range.small 0 p 1=true∧∃ I:Int→List AO→Prop,I 0 (σ++[.dct []])∧∀ i:Int,∀ aj:List AO,I i aj→CH i p aj σ I a b Q) (by kernel_rfl) (by
  have Hp:=C.pos
  have hh:=C.hi
  refine ⟨gH (Lq.w Hp) (Lq.ll hh (by decide)),R4 p σ,⟨[],⟨_,rfl⟩,getLast _ _,(by intro k v h; cases h),by lia,Lq.w Hp,Int.le_refl _,λ y h0 h1=>absurd h1 (Int.not_lt.mpr h0)⟩,λ i s hI=>?_⟩
  refine aG λ G kG=>?_
  obtain ⟨es,hP,he,hE,h0,N3,hl,hS⟩:=hI
  refine kG ?_
  refine ⟨λ hlt=>⟨.inl (by unfold af; exact ⟨Lq.ll (by decide) h0,Lq.ll (Lq.ll N3 hh) (by decide)⟩),Hp,λ r e_r lG g9=>⟨⟨_,he⟩,_,aI he _,?_⟩⟩,λ hge=>?_⟩
  · have hx:∃ (n:Nat) (ys:List Int),(es.lookup r).getD (.lst s.length)=.lst n∧(s++[AO.lst []])[n]? = some (.lst (ys.map AV.int))∧(ys.length:Int)≤i∧∀ y∈ys,0≤y∧y<p∧y*y%p=r:=by
     cases h:es.lookup r with
     | none=>exact ⟨s.length,[],rfl,getLast _ _,h0,λ y hy=>nomatch hy⟩
     | some v=>obtain ⟨n,ys,rfl,h1,h2,_,h3⟩:=hE _ _ h; exact ⟨n,ys,rfl,aI h1 _,h2,h3⟩
    refine aG λ G kG=>?_
    obtain ⟨n,ys,e,h1,h2,h3⟩:=hx
    refine kG ?_
    rw [e]
    have Qq:=aI (aI (aI he [AO.lst []]) [AO.lst [.int i]]) [AO.lst (ys.map AV.int++[.int i])]
    have Kw:=GS he
    refine ⟨_,aI h1 _,_,getLast _ _,by rw [List.length_map]; simp; lia,_,Qq,by lia,_,(((hP.app _).app _).app _).set (Nat.le_refl _) _,getSet Qq,?_,Lq.ll (by decide) (Lq.al _ h0),by (clear kG N3; clear kG hh Hp ha; exact hlt),?_,λ y y0 y1=>?_⟩
    · intro k v hk
      rw [tQ] at hk
      split at hk
      · rename_i ek
        cases hk
        refine ⟨_,ys++[i],rfl,?_,by rw [List.length_append]; simp; omega,by simp,λ y hy=>?_⟩
        · rw [List.map_append]
          exact bq (getLast _ _) (by rw [List.length_append,List.length_append]; lia)
        · rw [ek]
          rcases List.mem_append.mp hy with hy | hy
          · exact h3 y hy
          · rw [List.mem_singleton.mp hy]; exact ⟨h0,hlt,e_r.symm⟩
      · exact ((((hE.app _).app _).app _).Qp Qq).le (Lq.r _ (by decide)) k v hk
    · have:=EP r (.lst ((s++[AO.lst []])++[AO.lst [.int i]]).length) es
      lia
    · rw [tQ]
      split
      · exact ⟨_,rfl⟩
      · rename_i hk
        have:y≠i:=λ e=>hk (by rw [e,e_r])
        exact hS y y0 (Lq.Ph (Lq.pl y1) this)
  · have N3:i=p:=(Lq.e N3 hge)
    subst N3
    have hN:∀ k n,es.lookup k=some (.lst n)→n<s.length:=λ k n hk=>by
     refine aG λ G kG=>?_
     obtain ⟨n',ys,e,h1,_⟩:=hE k _ hk
     cases e
     refine kG ?_
     exact GS h1
    have Kw:=GS he
    refine ⟨gH (by omega) (Lq.ll hh (by decide)),R5 i a b σ es s.length,
     ⟨[],hP.app _,aI he _,hE.app _,by lia,h0,getLast _ _,by simp,(λ P h=>nomatch h),λ ⟨z,z0,z1,_⟩=>absurd z1 (Int.not_lt.mpr z0)⟩,λ x s1 hI=>?_⟩
    refine aG λ G kG=>?_
    obtain ⟨ps,R7,Qs,R8,GU,hxi,hf,hlen,mG,hne⟩:=hI
    refine kG ?_
    have T4:=GS hf
    refine ⟨λ hlt=>⟨⟨_,Qs⟩,.inl (by unfold af; exact ⟨Lq.ll (by decide) GU,Lq.ll (Lq.ll hxi hh) (by decide)⟩),.inr (by unfold af; exact ⟨Lq.ll (by decide) GU,Lq.ll (Lq.ll hxi hh) (by decide)⟩),.inl (by unfold af; exact ⟨Lq.ll (by decide) ha.1,Lq.w (Lq.sl (Lq.sl ha.2 hh) (by decide))⟩),Hp,λ r e_r lG g9=>⟨_,aI Qs _,?_⟩⟩,λ hge=>?_⟩
    · have hx:∃ (n:Nat) (ys:List Int),(es.lookup r).getD (.lst s1.length)=.lst n∧(s1++[AO.lst []])[n]? = some (.lst (ys.map AV.int))∧n≠s.length∧(ys.length:Int)≤i∧(∀ v,es.lookup r=some v→ys≠[])∧∀ y∈ys,0≤y∧y<i∧y*y%i=r:=by
       cases h:es.lookup r with
       | none=>exact ⟨s1.length,[],rfl,getLast _ _,Lq.ny T4,by simp; exact h0,(λ v h'=>nomatch h'),λ y hy=>nomatch hy⟩
       | some v=>obtain ⟨n,ys,rfl,h1,h2,hn0,h3⟩:=R8 _ _ h; exact ⟨n,ys,rfl,aI h1 _,Nat.ne_of_lt (hN _ _ h),h2,(λ _ _=>hn0),h3⟩
      refine aG λ G kG=>?_
      obtain ⟨n,ys,e,h1,hns,h2,KZ,h3⟩:=hx
      refine kG ?_
      rw [e]
      refine ⟨ys,h1,R6 i a b σ es s.length x n ys,
       ⟨ps,R7.app _,aI Qs _,R8.app _,aI hf _,Lq.ll hlen (Lq.r _ (by decide)),mG,h1,Nat.zero_le _,hne⟩,λ j s2 hI=>?_⟩
      refine aG λ G kG=>?_
      obtain ⟨ps,R9,Sa,Sb,hf2,hlen2,tZ,hn2,hj2,Qt⟩:=hI
      refine kG ?_
      refine ⟨hn2,λ y hy=>⟨_,hf2,_,hf2,?_,ps++[(x,y)],R9.set (Lq.nw Kw) _,bq Sa (Lq.ny Kw),Sb.sG hN,?_,?_,λ P N4=>?_,bq hn2 (Ne.symm hns),by rw [List.length_append]; exact Nat.succ_le_succ hj2,λ _=>by simp⟩,λ ej=>?_⟩
      · have hj:=(List.getElem?_eq_some_iff.mp hy).1
        rw [List.length_map]; lia
      · rw [List.map_append]; exact getSet hf2
      · rw [List.length_append]; simp; lia
      · rcases List.mem_append.mp N4 with N4 | N4
        · exact tZ P N4
        · rw [List.mem_singleton.mp N4]
          refine aG λ G kG=>?_
          obtain ⟨g1,g2,g3⟩:=h3 y (List.mem_of_getElem? hy)
          refine kG ?_
          refine ⟨⟨GU,hlt⟩,⟨g1,g2⟩,?_⟩
          show (y*y-(x*x*x+a*x+b))%i=0
          exact Int.emod_eq_emod_iff_emod_sub_eq_zero.mp (by rw [g3,e_r])
      · have ej:j=ys.length:=ej
        refine ⟨ps,R9,Sa,Sb,Lq.ll (by decide) (Lq.al _ GU),hlt,hf2,by lia,tZ,λ ⟨z,z0,z1,v,hv⟩=>?_⟩
        by_cases hz:z=x
        · rw [hz,← e_r] at hv
          have:=KZ v hv
          have h5:0<ys.length:=List.length_pos_iff.mpr this
          exact List.length_pos_iff.mp (Lq.xH (Lq.xH h5 (Nat.le_of_eq ej.symm)) hj2)
        · exact Qt ⟨z,z0,Lq.Ph (Lq.pl z1) hz,v,hv⟩
    · exact q _ _ ps R7 hf mG (by lia) (λ z y z0 z1 y0 y1 e=>hne ⟨z,z0,by (clear hxi kG hS; clear kG hh Hp ha hl h0; exact Lq.sl z1 hge),by rw [← e]; exact hS y y0 y1⟩) (by obtain ⟨τ,e⟩:=hP; rw [e,List.length_append]; exact Lq.nr _ _))
end
end
noncomputable section
section
variable {bs:Bs} {d:Nat} {σ:List AO} {Q:AV→List AO→Prop}
def qB (n:Int):Prop:=3≤n∧n%2=1∧∀ k,3≤k→k<n→k%2=1→n%k≠0
inductive Sd (n:Int) (σ:List AO) (rest:Int) (k:Int) (s:List AO):Prop
 | mk (h:Pre σ s) (h1:0<rest) (h2:n%rest=0) (h3:rest≤n):Sd n σ rest k s
inductive Se (rest:Int) (σ:List AO) (best f:Int) (s:List AO):Prop
 | mk (h:Pre σ s) (h1:3≤f) (h2:f%2=1) (h3:1≤best) (h4:best=1∨(qB best∧rest%best=0)) (h5:best≤rest):Se rest σ best f s
inductive Sf (f:Int) (σ:List AO) (k:Int) (s:List AO):Prop
 | mk (bs:List Bool) (e:s=σ++[.lst (bs.map .bool)]) (h1:3≤k) (h2:k%2=1) (h3:(bs.length:Int)≤k) (h4:allB bs=true→∀ j,3≤j→j<k→j%2=1→f%j≠0):Sf f σ k s
theorem BE {n:Int} (h0:0≤n) (h:n≤1000):Builtin.Range.small 3 n 2=true:=by
 obtain ⟨k,e⟩:=Int.eq_ofNat_of_zero_le h0
 rw [e] at h ⊢
 exact (show ∀ k:Fin 1001,Builtin.Range.small 3 (k.val:Int) 2=true by decide +kernel) ⟨k,Nat.lt_succ_of_le (Int.ofNat_le.mp h)⟩
theorem N5 {n:Int}:Builtin.divisionGoesByPylong n 2=false:=PyProof.noPylong_small (by decide)
theorem allB_snoc (bs:List Bool) (b:Bool):allB (bs++[b])=(allB bs&&b):=by
 unfold allB; rw [List.all_append]; simp
theorem ER {n r:Int} (h0:0<r) (h:n%r=0) (h2:r%2=0):0<r / 2∧n%(r / 2)=0∧r / 2≤r:=by
 refine ⟨by lia,?_,by lia⟩
 have e:r=2*(r / 2):=by lia
 have d:r∣n:=Int.dvd_of_emod_eq_zero h
 exact Int.emod_eq_zero_of_dvd (Int.dvd_trans ⟨2,by rw [Int.mul_comm]; exact e⟩ d)
def yz (i4:Int) (i3:Int) (bM:List AO) (di:List AO) (I3:Int→List AO→Prop) (I2:Int→Int→List AO→Prop) (a2:Int):Prop:=(i4<i3→0<i4∧∀ r2:Int,r2=(i3%i4)→0≤r2→r2<i4→aD bM.length di λ dF=>dF.length≤1000000∧I3 (i4+2) (di.set bM.length (AO.lst (dF++[.bool (decide (r2≠0))]))))∧(i3≤i4→∃ Qu:List Bool,di[bM.length]? = some (AO.lst (Qu.map (λ b=>.bool b)))∧(allB Qu=true→I2 i3 (i3+2) di)∧(allB Qu=false→I2 a2 (i3+2) di))
def yD (i3:Int) (a1:Int) (bM:List AO) (I2:Int→Int→List AO→Prop) (a2:Int) (bs:Bs) (d:Nat) (p:Int) (a:Int) (i1:Int) (x1:Int) (y:Int) (Q:AV→List AO→Prop) (I:Int→List AO→Prop) (i:Int):Prop:=(i3<(a1+1)→0<i3∧∀ r1:Int,r1=(a1%i3)→0≤r1→r1<i3→((decide (r1=0))=true→(2:Int)≠0∧Builtin.divisionGoesByPylong (i3-3) 2=false∧Builtin.Range.small 3 i3 2=true∧∃ I3:Int→List AO→Prop,I3 3 (bM++[AO.lst []])∧∀ i4:Int,∀ di:List AO,I3 i4 di→yz i4 i3 bM di I3 I2 a2)∧((decide (r1=0))=false→I2 a2 (i3+2) bM))∧((a1+1)≤i3→((decide (1<a2))=true→(0<a2∧a2<1073741824)∧ai (U bs) (d+5) (.cst (.ref 470)) [.int p,.int a,.int (i1 / a2),.tup [.int x1,.int y]] bM λ v1 s2=>Q (.tup [v1,.int a2]) s2)∧((decide (1<a2))=false→I (i+1) bM))
def yE (i2:Int) (a1:Int) (I1:Int→Int→List AO→Prop) (bX:List AO) (bs:Bs) (d:Nat) (p:Int) (a:Int) (i1:Int) (x1:Int) (y:Int) (Q:AV→List AO→Prop) (I:Int→List AO→Prop) (i:Int):Prop:=(i2<8→(0:Int)<2∧∀ r1:Int,r1=(a1%2)→0≤r1→r1<2→((decide (r1=0))=true→((0:Int)<2∧(2:Int)<1073741824)∧I1 (a1 / 2) (i2+1) bX)∧((decide (r1=0))=false→I1 a1 (i2+1) bX))∧(8≤i2→(2:Int)≠0∧Builtin.divisionGoesByPylong ((a1+1)-3) 2=false∧Builtin.Range.small 3 (a1+1) 2=true∧∃ I2:Int→Int→List AO→Prop,I2 1 3 bX∧∀ a2:Int,∀ i3:Int,∀ bM:List AO,I2 a2 i3 bM→yD i3 a1 bM I2 a2 bs d p a i1 x1 y Q I i)
def yF (i:Int) (l:Nat) (aj:List AO) (s:Int) (bs:Bs) (d:Nat) (p:Int) (a:Int) (Q:AV→List AO→Prop) (I:Int→List AO→Prop):Prop:=(i<8→(af i∨af 5)∧aD l aj λ xs=>xs.length≤1000000∧0<((xs.length:Nat):Int)∧∀ r:Int,r=((s+(i*5))%((xs.length:Nat):Int))→0≤r→r<((xs.length:Nat):Int)→bf l r aj λ x=>d2 x λ x1 y=>ai (U bs) (d+5) (.cst (.ref 477)) [.int p,.int a,.tup [.int x1,.int y]] aj λ v s1=>dI v λ i1=>Builtin.Range.small 0 8 1=true∧∃ I1:Int→Int→List AO→Prop,I1 i1 0 s1∧∀ a1:Int,∀ i2:Int,∀ bX:List AO,I1 a1 i2 bX→yE i2 a1 I1 bX bs d p a i1 x1 y Q I i)∧(8≤i→Q (.tup [.none,.int 1]) aj)
theorem GV (O:(U bs).Ok) {p a b:Int} (C:Cv p a b) (ha:0≤a∧a<p) {l:Nat} {ps:List (Int×Int)} (hl:σ[l]? = some (.lst (ps.map we))) (h0:0<ps.length) (hle:ps.length≤100000) (mG:∀ P∈ps,On p a b (some P)) {s:Int}
 (q0:∀ s',Pre σ s'→Q (.tup [.none,.int 1]) s') (q:∀ s' R n,Pre σ s'→On p a b (some R)→Od p a n (some R)→qB n→n≤2*p+2→Q (.tup [cu (some R),.int n]) s') :
 ai (U bs) (d+6) (.cst (.ref sY)) [.int p,.int a,.lst l,.int s] σ Q :=
 ai.of O (T:=T0) (by kernel_rfl) (by kernel_rfl) λ L=>Eq.mp (α:=Builtin.Range.small 0 8 1=true∧∃ I:Int→List AO→Prop,I 0 σ∧∀ i:Int,∀ aj:List AO,I i aj→yF i l aj s bs d p a Q I) (by kernel_rfl) (by
  have Hp:=C.pos
  have hh:=C.hi
  refine ⟨gH (by decide) (by decide),λ i s'=>Pre σ s',⟨[],(List.append_nil _).symm⟩,λ i s' hI=>⟨λ hlt=>?_,λ hge=>q0 _ hI⟩⟩
  obtain ⟨τ,rfl⟩:=hI
  refine ⟨.inr (by unfold af; decide),_,aI hl _,by rw [List.length_map]; exact Lq.bZ hle (by decide),by rw [List.length_map]; exact Lq.cs h0,λ r e_r lG g9=>?_⟩
  rw [List.length_map] at g9
  have hv:r.toNat<ps.length:=(Lq.ts lG g9)
  have hP:ps[r.toNat]? = some ps[r.toNat]:=List.getElem?_eq_getElem hv
  have ES:=mG _ (List.getElem_mem hv)
  generalize ps[r.toNat]=P at hP ES
  refine ⟨_,_,aI hl _,lG,Lq.sl (Lq.sl g9 (Lq.cl hle)) (by decide),by rw [List.getElem?_map,hP]; rfl,CA O C ha ES λ n hn od=>?_⟩
  refine ⟨gH (by decide) (by decide),Sd n σ,⟨⟨τ,rfl⟩,od.pos,Int.emod_self,Int.le_refl _⟩,λ rest k s1 hR=>?_⟩
  refine aG λ G kG=>?_
  obtain ⟨hs1,hr1,hr2,N6⟩:=hR
  refine kG ?_
  refine ⟨λ _=>⟨by decide,λ r1 e1 l1 u1=>⟨λ hz=>⟨⟨by decide,by decide⟩,?_⟩,λ _=>⟨hs1,hr1,hr2,N6⟩⟩⟩,λ _=>⟨by decide,N5,BE (Lq.w (Lq.ls (by decide) (Lq.as _ hr1))) (by lia),Se rest σ,⟨hs1,by decide,by decide,by decide,.inl rfl,by lia⟩,λ best f s2 hF=>?_⟩⟩
  · have hz:r1=0:=of_decide_eq_true hz
    have:=ER hr1 hr2 (Lq.e (Lq.ll (Int.le_of_eq e1.symm) (Int.le_of_eq hz)) (Lq.ll l1 (Int.le_of_eq e1)))
    exact ⟨hs1,this.1,this.2.1,by (clear hz; clear hz e1 hn; exact Lq.ll this.2.2 N6)⟩
  refine aG λ G kG=>?_
  obtain ⟨hs2,g1,g2,g3,g4,g5⟩:=hF
  refine kG ?_
  refine ⟨λ hf=>⟨by (clear g2 kG; clear kG; lia),λ r1 e1 l1 u1=>⟨λ hz=>⟨by decide,N5,BE (by (clear g2 kG; clear kG; exact Lq.ll (by decide) g1)) (by (clear g2 kG; clear kG; lia)),Sf f s2,⟨[],rfl,by decide,by decide,by decide,λ _ j a b _=>absurd b (by (clear u1 l1 e1 hf g5 g3 g2 g1 kG N6 hr2 hr1; clear kG hn hv g9 lG e_r hlt hh Hp hle h0 ha; omega))⟩,λ k s3 hS=>?_⟩,λ _=>⟨hs2,by (clear g2 kG; clear kG; exact Lq.ll (by decide) (Lq.al _ g1)),by lia,g3,g4,g5⟩⟩⟩,λ hf=>⟨λ hb=>⟨⟨by (clear hb kG; clear kG; lia),by lia⟩,?_⟩,λ _=>hs2⟩⟩
  · refine aG λ G kG=>?_
    obtain ⟨bs,e,h1,h2,h3,h4⟩:=hS
    subst e
    refine kG ?_
    have hz:r1=0:=of_decide_eq_true hz
    refine ⟨λ hk=>⟨by lia,λ r2 e2 l2 u2=>⟨_,getLast _ _,by rw [List.length_map]; (clear hz kG h2 h1; clear hz g2 kG; clear kG; lia),bs++[decide (r2≠0)],?_,Lq.ll (by decide) (Lq.al _ h1),by lia,by rw [List.length_append]; simp; (clear hz kG h2 h1; clear hz kG; clear kG; exact Lq.ls h3 (Lq.rs _ (by decide))),λ hall j a b c=>?_⟩⟩,λ hk=>⟨bs,getLast _ _,λ hall=>⟨hs2.app _,Lq.ll (by decide) (Lq.al _ g1),by lia,by (clear hz kG; clear hz g2 kG; clear kG; exact Lq.ll (by decide) g1),.inr ⟨⟨by omega,g2,λ j a b c=>h4 hall j a (by (clear c hz kG h2; clear hz u1 e1 hf g2 g1 kG; clear kG; exact Lq.sl b hk)) c⟩,Lq.e (Lq.ll (Int.le_of_eq e1.symm) (Int.le_of_eq hz)) (Lq.ll l1 (Int.le_of_eq e1))⟩,by (clear hz kG; clear hz g5 g2 kG N6 hr2 hr1; clear kG; exact Lq.pl hf)⟩,λ _=>⟨hs2.app _,Lq.ll (by decide) (Lq.al _ g1),by lia,g3,g4,g5⟩⟩⟩
    · rw [gY,List.map_append]; rfl
    · rw [allB_snoc,Bool.and_eq_true] at hall
      by_cases hjk:j<k
      · exact h4 hall.1 j a hjk c
      · have e:j=k:=by lia
        subst e
        have:=of_decide_eq_true hall.2
        rw [e2] at this
        exact this
  · have hb:=of_decide_eq_true hb
    have ho:=g4.resolve_left (Lq.y hb)
    have hd:n%best=0:=Int.emod_eq_zero_of_dvd (Int.dvd_trans (Int.dvd_of_emod_eq_zero ho.2) (Int.dvd_of_emod_eq_zero hr2))
    have od':=Od.quot C ES od (Lq.ls (by decide) hb) hd
    have tZ:=aH C ES (n / best)
    refine Cz O C ha ES ?_
    generalize mul p a (n / best) (some P)=R at od' tZ
    cases R with
    | none=>exact absurd (rV C 1) (od'.least 1 (by decide) hb)
    | some R=>exact q s2 R best hs2 tZ od' ho.1 (Lq.ll (Lq.ll g5 N6) hn))
end
end
noncomputable section
section
variable {bs:Bs} {d:Nat} {σ:List AO} {Q:AV→List AO→Prop}
inductive Sg (p a:Int) (P:Int×Int) (σ2:List AO) (m n:Int) (r X Y Z:Int) (i:Nat) (σ3:List AO):Prop
 | mk (s:Int) (e:σ3=σ2) (h:Pm m n (2^i) s r) (rd:Rd p X Y Z) (rep:Rep p X Y Z (mul p a s (some P))):Sg p a P σ2 m n r X Y Z i σ3
theorem AI (i:Nat):(2:Int)^(i+1)=2*2^i:=by rw [Int.pow_succ,Int.mul_comm]
section
variable {c:Nat} {p a b:Int} {ω:List D}
def ET (aj:List AO) (i2:Nat) (ys:List (Int×Int)) (i3:Nat) (a:Int) (bs:Bs) (d:Nat) (n:Nat) (a1:Int) (a2:Int) (a3:Int) (i1:Int) (I:Int→Int→Int→Int→Nat→List AO→Prop) (Q:AV→List AO→Prop):Prop:=aj[i2]? = some (AO.lst (ys.map (λ a4=>.tup [.int a4.1,.int a4.2])))∧(∀ y:(Int×Int),ys[i3]? = some y→(0:Int)<2∧∀ r:Int,r=(a%2)→0≤r→r<2→((decide (r≠0))=true→(0:Int)<4∧∀ r1:Int,r1=(a%4)→0≤r1→r1<4→((decide (2≤r1))=true→((0:Int)<2∧(2:Int)<1073741824)∧ai (U bs) (d+4) (.cst (.ref 268)) [.inst 313 n,.int a1,.int a2,.int a3,.int y.1,.int (-y.2),.int 1,.int i1] aj λ v3 s1=>d3 v3 λ x y1 z=>I ((a+1) / 2) x y1 z (i3+1) s1)∧((decide (2≤r1))=false→((0:Int)<2∧(2:Int)<1073741824)∧ai (U bs) (d+4) (.cst (.ref 268)) [.inst 313 n,.int a1,.int a2,.int a3,.int y.1,.int y.2,.int 1,.int i1] aj λ v3 s1=>d3 v3 λ x y1 z=>I ((a-1) / 2) x y1 z (i3+1) s1))∧((decide (r≠0))=false→((0:Int)<2∧(2:Int)<1073741824)∧I (a / 2) a1 a2 a3 (i3+1) aj))∧(i3=ys.length→((!(decide (a3≠0)))=true→Q (.cst (.ref 414)) aj)∧((!(decide (a3≠0)))=false→aL n "_PointJacobi__curve" aj λ v3=>dO 88 v3 λ i4=>aL n "_PointJacobi__order" aj λ v4=>ai (U bs) (d+4) (.cst (.ref 313)) [.inst 88 i4,.int a1,.int a2,.int a3,v4] aj λ v5 s1=>dO 313 v5 λ i5=>Q (.inst 313 i5) s1))
def EU (v1:AV) (n:Nat) (s:List AO) (m:Int) (bs:Bs) (d:Nat) (Q:AV→List AO→Prop):Prop:=dI v1 λ i1=>aC n "_add" s∧aL n "_PointJacobi__precompute" s λ v2=>dL v2 λ i2=>∃ ys:List (Int×Int),s[i2]? = some (AO.lst (ys.map (λ a=>.tup [.int a.1,.int a.2])))∧∃ I:Int→Int→Int→Int→Nat→List AO→Prop,I m 0 0 0 0 s∧∀ a:Int,∀ a1:Int,∀ a2:Int,∀ a3:Int,∀ i3:Nat,∀ aj:List AO,I a a1 a2 a3 i3 aj→ET aj i2 ys i3 a bs d n a1 a2 a3 i1 I Q
theorem EV (O:(U bs).Ok) (C:Cv p a b) (ha:0≤a∧a<p) (H:Gd c p a b ω σ) {n k:Nat} {P:Int×Int} {nn x y z:Int} {g:Bool} {T:List (Int×Int)} (aY:σ[n]? = some (.inst (fh c x y z (.int nn) g k))) (hk:ω[k]? = some (.tab T)) (hT1:∀ i q,T[i]? = some q→some q=mul p a (2^i) (some P)) (hT2:8*nn≤2^T.length)
 (hP:On p a b (some P)) (od:Od p a nn (some P)) {m:Int} (m0:0≤m) (m1:m<2*nn)
 (q:∀ v δ σ',Gd c p a b (ω++δ) σ'→Den (ω++δ) (.int nn) (mul p a m (some P)) v→Q v σ'):ai (U bs) (d+5) (.cst (.ref fu)) [.inst ah n,.int m] σ Q :=
 ai.of O (T:=T0) (by kernel_rfl) (by kernel_rfl) λ L=>Eq.mp (α:=aL n "_PointJacobi__curve" σ λ v=>dO 88 v λ i=>aC i "p" σ∧ai (U bs) (d+4) (.cst (.ref 57)) [.inst 88 i] σ λ v1 s=>EU v1 n s m bs d Q) (by kernel_rfl) (by
  have Hp:=C.pos
  have hp:=C.hp
  have d7:=H.sF
  have Sh:=H.tab hk
  have hs:Ck σ n p a b:=⟨c,x,y,z,.int nn,g,k,aY,d7⟩
  have one:(0:Int)≤1∧1<p:=by have:=C.lo; lia
  refine tP aY ⟨rfl,aN d7 (by kernel_rfl),bW O d7 ⟨aN aY (by kernel_rfl),La aY ⟨T,Sh,Sg p a P σ m nn,⟨0,rfl,Pm.start m0 m1,⟨⟨Int.le_refl 0,Hp⟩,⟨Int.le_refl 0,Hp⟩,⟨Int.le_refl 0,Hp⟩⟩,Int.zero_emod p⟩,λ r X Y Z i σ3 hI=>?_⟩⟩⟩
  refine aG λ G kG=>?_
  obtain ⟨s,e,h,rd,rep⟩:=hI
  subst e
  refine kG ?_
  have mG:=aH C hP s
  refine ⟨Sh,λ y hy=>⟨by decide,λ r1 e1 l1 u1=>⟨λ h1=>⟨by decide,λ r2 e2 l2 u2=>⟨λ h2=>⟨⟨by decide,by decide⟩,?_⟩,λ h2=>⟨⟨by decide,by decide⟩,?_⟩⟩⟩,λ h1=>⟨⟨by decide,by decide⟩,?_⟩⟩⟩,λ ei=>?_⟩
  · have h1:=of_decide_eq_true h1
    have h2:=of_decide_eq_true h2
    have ey:=hT1 i y hy
    have hy1:On p a b (some y):=ey▸aH C hP _
    have st:=h.minus (Me e1 h1 e2 h2).1
    refine qR O C hs mG (bD C hy1) rep (fW C hy1 (eZ C)) (bN.of rd.x hp) (bN.of rd.y hp) (bN.of hy1.1 hp) (bN.of hy1.2.1 hp).neg (bN.of ha hp) rd.z one (λ z1 _ hx hy'=>?_) λ x3 y3 z3 GW rep3=>⟨s-2^i,rfl,?_,GW,?_⟩
    · exfalso
      rw [z1] at rep
      have e1:=ua C mG (bD C hy1) rep (fW C hy1 (eZ C)) hx hy'
      rw [ey,← mul_neg C hP,Od.eq C hP od] at e1
      rw [Int.emod_eq_of_lt (by lia) (by (clear e1 hy' hx z1 h2 h1; clear h2 u2 l2 e2 h1 u1 l1 e1 one hp Hp m1 m0 hT2 ha; omega))] at e1
      (clear hy' hx z1 h2 h1; clear h2 u2 l2 e2 h1 one hp Hp m1 m0 hT2 ha; omega)
    · rw [AI]; exact st.1
    · rw [ey,← mul_neg C hP,← mul_add C hP,← Int.sub_eq_add_neg] at rep3
      exact rep3
  · have h1:=of_decide_eq_true h1
    have h2:=of_decide_eq_false h2
    have ey:=hT1 i y hy
    have hy1:On p a b (some y):=ey▸aH C hP _
    have st:=h.plus (Mf e1 h1 e2 h2).1
    refine qR O C hs mG hy1 rep (eZ C) (bN.of rd.x hp) (bN.of rd.y hp) (bN.of hy1.1 hp) (bN.of hy1.2.1 hp) (bN.of ha hp) rd.z one (λ z1 _ hx hy'=>?_) λ x3 y3 z3 GW rep3=>⟨s+2^i,rfl,?_,GW,?_⟩
    · have f1:=Int.emod_eq_emod_iff_emod_sub_eq_zero.mpr hx
      have f2:=Int.emod_eq_emod_iff_emod_sub_eq_zero.mpr hy'
      rw [gG rd.x,gG hy1.1] at f1
      rw [gG rd.y,gG hy1.2.1] at f2
      exact ⟨f1.symm,f2.symm⟩
    · rw [AI]; exact st
    · rw [ey,← mul_add C hP] at rep3
      exact rep3
  · have h1:=of_decide_eq_false h1
    exact ⟨s,rfl,by rw [AI]; exact h.PF (Lq.e (Lq.ll (Int.le_of_eq e1.symm) (Int.le_of_eq (Classical.byContradiction h1))) (Lq.ll l1 (Int.le_of_eq e1))),rd,rep⟩
  · subst ei
    have es:=h.fin hT2
    subst es
    refine ⟨λ h=>?_,λ h=>?_⟩
    · have e:Z=0:=nT h
      have e0:=dJ C mG rep (by rw [e]; exact Int.zero_emod p)
      refine q _ [] _ (by rw [List.append_nil]; exact H) ?_
      rw [e0]; exact rfl
    · have e:Z≠0:=nF h
      obtain ⟨S,hS⟩:=pY rep (by rw [gG rd.z]; exact e)
      rw [hS] at rep mG
      refine tP aY ⟨rfl,Bw aY rfl (wc O ⟨rfl,?_⟩)⟩
      have H3:=H.qd (o:=.int nn) (g:=false) mG rep rd
      rw [H.len] 
      refine q _ _ _ (H.len▸H3) ?_
      rw [hS]
      exact ⟨_,false,rfl,by rw [List.getElem?_append_right (Nat.le_refl _),Nat.sub_self]; rfl,λ _=>rfl⟩)
end
end
end
noncomputable section
section
variable {bs:Bs} {d:Nat} {σ:List AO} {Q:AV→List AO→Prop}
section
variable {c:Nat} {p a b:Int} {ω:List D}
theorem EW (O:(U bs).Ok) (C:Cv p a b) (ha:0≤a∧a<p) (H:Gd c p a b ω σ) {n:Nat} {P:Int×Int} {o:AV} {g:Bool} (hn:ω[n]? = some (.pj P o g)) (ho:dR o=true)
 (q:∀ v δ σ',Gd c p a b (ω++δ) σ'→Den (ω++δ) o (mul p a 2 (some P)) v→Q v σ'):ai (U bs) (d+5) (.cst (.ref cO)) [.inst ah n] σ Q :=
 ai.of O (T:=T0) (by kernel_rfl) (by kernel_rfl) λ L=>Eq.mp (α:=aL n "_PointJacobi__coords" σ λ v=>d3 v λ x y z=>((!(decide (z≠0)))=true→Q (.cst (.ref 414)) σ)∧((!(decide (z≠0)))=false→aL n "_PointJacobi__curve" σ λ v1=>dO 88 v1 λ i=>aC i "p" σ∧ai (U bs) (d+4) (.cst (.ref 57)) [.inst 88 i] σ λ v2 s=>dI v2 λ i1=>aL n "_PointJacobi__curve" s λ v3=>dO 88 v3 λ i2=>aC i2 "a" s∧ai (U bs) (d+4) (.cst (.ref 64)) [.inst 88 i2] s λ v4 s1=>dI v4 λ i3=>aC n "_double" s1∧ai (U bs) (d+4) (.cst (.ref 219)) [.inst 313 n,.int x,.int y,.int z,.int i1,.int i3] s1 λ v5 s2=>d3 v5 λ x1 y1 z1=>((!(decide (z1≠0)))=true→Q (.cst (.ref 414)) s2)∧((!(decide (z1≠0)))=false→aL n "_PointJacobi__curve" s2 λ v6=>dO 88 v6 λ i4=>aL n "_PointJacobi__order" s2 λ v7=>ai (U bs) (d+4) (.cst (.ref 313)) [.inst 88 i4,.int x1,.int y1,.int z1,v7] s2 λ v8 s3=>dO 313 v8 λ i5=>Q (.inst 313 i5) s3))) (by kernel_rfl) (by
  have Hp:=C.pos
  have hp:=C.hp
  have d7:=H.sF
  refine aG λ G kG=>?_
  obtain ⟨x,y,z,k,T,aY,hP,hr,hd,h4,h5⟩:=H.pj hn
  refine kG ?_
  have hs:Ck σ n p a b:=⟨c,x,y,z,o,g,k,aY,d7⟩
  refine Bv aY ⟨λ h=>absurd (nT h) (mj hr),λ _=>tP aY ⟨rfl,aN d7 (by kernel_rfl),bW O d7 (tP aY ⟨rfl,aN d7 (by kernel_rfl),cT O d7 ⟨aN aY (by kernel_rfl),sZ O C hs hP hr (bN.of hd.x hp) (bN.of hd.y hp) hd.z (bN.of ha hp) λ X Y Z rd rep=>⟨λ h=>?_,λ h=>?_⟩⟩⟩)⟩⟩
  · have e:Z=0:=nT h
    rw [← show mul p a 2 (some P)=plus p a (some P) (some P) from (d9 C hP 1).symm] at rep
    have e0:=dJ C (aH C hP 2) rep (by rw [e]; exact Int.zero_emod p)
    refine q _ [] _ (by rw [List.append_nil]; exact H) ?_
    rw [e0]; exact rfl
  · have e:Z≠0:=nF h
    rw [← show mul p a 2 (some P)=plus p a (some P) (some P) from (d9 C hP 1).symm] at rep
    have mG:=aH C hP 2
    obtain ⟨S,hS⟩:=pY rep (by rw [gG rd.z]; exact e)
    rw [hS] at rep mG
    refine tP aY ⟨rfl,Bw aY ho (wc O ⟨rfl,?_⟩)⟩
    have H3:=H.qd (o:=o) (g:=false) mG rep rd
    rw [H.len]
    refine q _ _ _ (H.len▸H3) ?_
    rw [hS]
    exact ⟨_,false,rfl,by rw [List.getElem?_append_right (Nat.le_refl _),Nat.sub_self]; rfl,λ _=>rfl⟩)
end
end
end
noncomputable section
section
variable {bs:Bs} {d:Nat} {σ:List AO} {Q:AV→List AO→Prop}
section
variable {c:Nat} {p a b:Int} {ω:List D}
theorem yu.fill {D0:D} {o:AO} {L:Nat} {l:AO} {T:List (Int×Int)} (hL:ω[L]? = some (.raw l)) (h:yu c p a b ω D0 o):yu c p a b (ω.set L (.tab T)) D0 o:=by
 cases D0 with
 | pj P od g =>
  obtain ⟨x,y,z,k,T',e,h1,h2,h3,h4,h5⟩:=h
  refine ⟨x,y,z,k,T',e,h1,h2,h3,?_,h5⟩
  rw [List.getElem?_set_ne (λ e=>by rw [e,h4] at hL; cases hL)]
  exact h4
 | _=>exact h
theorem Gd.fill (H:Gd c p a b ω σ) {n L:Nat} {P:Int×Int} {o:AV} {x y z:Int} {T:List (Int×Int)} (hn:ω[n]? = some (.pj P o true)) (hP:On p a b (some P)) (hr:Rep p x y z (some P)) (hd:Rd p x y z)
 (hL:ω[L]? = some (.raw (.lst (T.map we)))) (hT:yt p a P o T):Gd c p a b (ω.set L (.tab T)) (σ.set n (.inst (fh c x y z o true L))):=by
 have T5:L≠n:=λ e=>by rw [e,hn] at hL; cases hL
 have T6:L≠c:=λ e=>by rw [e,H.cur] at hL; cases hL
 have lL:=(List.getElem?_eq_some_iff.mp hL).1
 have ln:=(List.getElem?_eq_some_iff.mp hn).1
 refine ⟨by rw [List.length_set,List.length_set,H.len],by rw [List.getElem?_set_ne T6]; exact H.cur,λ m E hm=>?_⟩
 by_cases e1:L=m
 · subst e1
   rw [List.getElem?_set_self lL] at hm
   cases hm
   exact ⟨.lst (T.map we),by rw [List.getElem?_set_ne (Ne.symm T5)]; exact H.raw hL,rfl⟩
 · rw [List.getElem?_set_ne e1] at hm
   by_cases e2:n=m
   · subst e2
     rw [hn] at hm
     cases hm
     exact ⟨_,List.getElem?_set_self (by rw [H.len]; exact ln),x,y,z,L,T,rfl,hP,hr,hd,List.getElem?_set_self lL,.inr ⟨rfl,hT⟩⟩
   · obtain ⟨o',h1,h2⟩:=H.sat m E hm
     exact ⟨o',by rw [List.getElem?_set_ne e2]; exact h1,h2.fill hL⟩
end
end
end
noncomputable section
section
variable {bs:Bs} {d:Nat} {σ:List AO} {Q:AV→List AO→Prop}
section
variable {c:Nat} {p a b:Int} {ω:List D}
theorem fk {n m:Nat} {l:List AV} {E E':D} (h:ω[n]? = some (.raw (.lst l))) (hm:ω[m]? = some E) (hE:∀ l,E≠.raw (.lst l)):(ω.set n E')[m]? = some E:=by
 have:n≠m:=λ e=>by
  subst e
  rw [h] at hm
  cases hm
  exact hE _ rfl
 rw [List.getElem?_set_ne this]; exact hm
theorem cA {n m:Nat} {E E':D} (hm:ω[m]? = some E) (hE:n≠m):(ω.set n E')[m]? = some E:=by rw [List.getElem?_set_ne hE]; exact hm
theorem gZ {n:Nat} {E E':D} (h:ω[n]? = some E):(ω.set n E')[n]? = some E':=List.getElem?_set_self (List.getElem?_eq_some_iff.mp h).1
theorem Gd.qU (H:Gd c p a b ω σ) {n:Nat} {l:List AV} (h:ω[n]? = some (.raw (.lst l))) (l':List AV):Gd c p a b (ω.set n (.raw (.lst l'))) (σ.set n (.lst l')):=by
 have hn:=H.raw h
 refine ⟨by rw [List.length_set,List.length_set]; exact H.len,fk h H.cur (λ l e=>by cases e),λ m E hm=>?_⟩
 by_cases e:n=m
 · subst e
   rw [gZ h] at hm
   cases hm
   exact ⟨_,getSet hn,rfl⟩
 · rw [List.getElem?_set_ne e] at hm
   refine aG λ G kG=>?_
   obtain ⟨o,h1,h2⟩:=H.sat m E hm
   refine kG ?_
   refine ⟨o,bq h1 e,?_⟩
   cases E with
   | pj P od g=>obtain ⟨x,y,z,k,T,e,g1,g2,g3,g4,g5⟩:=h2; exact ⟨x,y,z,k,T,e,g1,g2,g3,fk h g4 (λ l e=>by cases e),g5⟩
   | _=>exact h2
end
end
end
noncomputable section
section
variable {bs:Bs} {d:Nat} {σ:List AO} {Q:AV→List AO→Prop}
section
variable {c:Nat} {p a b:Int} {ω:List D}
theorem Iu (O:(U bs).Ok) (C:Cv p a b) (H:Gd c p a b ω σ) {n:Nat} {P:Int×Int} {o:AV} {g:Bool} (hn:ω[n]? = some (.pj P o g)) (q:Q (.int P.1) σ):ai (U bs) (d+2) (.cst (.ref mD)) [.inst ah n] σ Q:=by
 obtain ⟨x,y,z,k,T,e,h1,h2,h3,h4,h5⟩:=H.pj hn
 exact EG O C e H.sF h1 h2 h3 q
theorem Iv (O:(U bs).Ok) (C:Cv p a b) (H:Gd c p a b ω σ) {n:Nat} {P:Int×Int} {o:AV} {g:Bool} (hn:ω[n]? = some (.pj P o g)) (q:Q (.int P.2) σ):ai (U bs) (d+2) (.cst (.ref mE)) [.inst ah n] σ Q:=by
 obtain ⟨x,y,z,k,T,e,h1,h2,h3,h4,h5⟩:=H.pj hn
 exact EH O C e H.sF h1 h2 h3 q
end
end
end
noncomputable section
section
variable {bs:Bs} {d:Nat} {σ:List AO} {Q:AV→List AO→Prop}
inductive GX (c:Nat) (p a b:Int) (ω:List D) (σ:List AO) (n:Nat) (P:Int×Int) (nn:Int) (g:Bool):Prop
 | mk (x y z:Int) (k:Nat) (T:List (Int×Int)) (e:σ[n]? = some (.inst (fh c x y z (.int nn) g k))) (h1:On p a b (some P)) (h2:Rep p x y z (some P)) (h3:Rd p x y z) (h4:ω[k]? = some (.tab T)) (h5:g=true→T≠[]∧yt p a P (.int nn) T) (h6:g=false→T=[]):GX c p a b ω σ n P nn g
inductive Si (c:Nat) (p a b:Int) (ω:List D) (σ:List AO) (P:Int×Int) (nn:Int) (i:Int) (dn:Nat) (m:Nat) (s:List AO):Prop
 | mk (δ:List D) (j:Nat) (T:List (Int×Int)) (R:Int×Int) (H:Gd c p a b (ω++.raw (.lst (T.map we)) :: δ) s) (hF:∀ (i:Nat) o,σ[i]? = some o→s[i]? = some o) (ei:i=2^j) (hdn:ω.length<dn) (hd:(ω++.raw (.lst (T.map we)) :: δ)[dn]? = some (.pj R (.int (nn*2)) false)) (eR:some R=mul p a (2^j) (some P)) (hl:T.length=j+1) (hT:∀ (i:Nat) q,T[i]? = some q→some q=mul p a (2^i) (some P)) (hi:i<8*nn) (em:m=(8*nn-i).toNat):Si c p a b ω σ P nn i dn m s
section
variable {c:Nat} {p a b:Int} {ω:List D}
theorem N7 {P:Int×Int} {nn:Int} {T:List (Int×Int)} (hn:1<nn) (h:yt p a P (.int nn) T):T≠[]:=λ e=>by
 obtain ⟨n,en,_,h,_⟩:=h
 cases en
 rw [e] at h
 have h:4*nn≤2^0:=h
 rw [Int.pow_zero] at h
 lia
theorem tu (ω:List D) (E E':D) (δ:List D):(ω++E :: δ).set ω.length E'=ω++E' :: δ:=by rw [List.set_append_right _ _ (Nat.le_refl _),Nat.sub_self]; rfl
theorem bY (ω:List D) (E:D) (δ:List D):(ω++E :: δ)[ω.length]? = some E:=by rw [List.getElem?_append_right (Nat.le_refl _),Nat.sub_self]; rfl
theorem BF (ω:List D) (E E':D) (δ:List D):(ω++E :: E' :: δ)[ω.length+1]? = some E':=by
 rw [List.getElem?_append_right (Nat.le_succ _),show ω.length+1-ω.length=1 by lia]; rfl
theorem EX {ω:List D} {E E':D} {δ:List D} {m:Nat} {x:Option D} (hm:ω.length<m) (h:(ω++E :: δ)[m]? = x):(ω++E' :: δ)[m]? = x:=by
 rw [List.getElem?_append_right (Lq.nw hm)] at h ⊢
 obtain ⟨k,hk⟩:∃ k,m-ω.length=k+1:=⟨m-ω.length-1,(Nat.sub_add_cancel (Nat.sub_pos_of_lt hm)).symm⟩
 rw [hk] at h ⊢
 exact h
theorem N8 {j:Nat} (h:(2:Int)^j<8*1000):j<13:=by
 refine Nat.lt_of_not_le λ hj=>?_
 obtain ⟨k,rfl⟩:=Nat.exists_eq_add_of_le hj
 have h1:(0:Int)<2^k:=Int.pow_pos (by decide)
 rw [Int.pow_add,show (2:Int)^13=8192 from rfl] at h
 lia
theorem EY (O:(U bs).Ok) (C:Cv p a b) (ha:0≤a∧a<p) (H:Gd c p a b ω σ) {n:Nat} {P R:Int×Int} {o:AV} {g:Bool} (hn:ω[n]? = some (.pj P o g)) (ho:dR o=true) (hR:some R=mul p a 2 (some P))
 (q:∀ σ',Gd c p a b (ω++[.pj R o false,.tab []]) (σ++σ')→Q (.inst ah ω.length) (σ++σ')):ai (U bs) (d+5) (.cst (.ref cO)) [.inst ah n] σ Q :=
 ai.of O (T:=T0) (by kernel_rfl) (by kernel_rfl) λ L=>Eq.mp (α:=aL n "_PointJacobi__coords" σ λ v=>d3 v λ x y z=>((!(decide (z≠0)))=true→Q (.cst (.ref 414)) σ)∧((!(decide (z≠0)))=false→aL n "_PointJacobi__curve" σ λ v1=>dO 88 v1 λ i=>aC i "p" σ∧ai (U bs) (d+4) (.cst (.ref 57)) [.inst 88 i] σ λ v2 s=>dI v2 λ i1=>aL n "_PointJacobi__curve" s λ v3=>dO 88 v3 λ i2=>aC i2 "a" s∧ai (U bs) (d+4) (.cst (.ref 64)) [.inst 88 i2] s λ v4 s1=>dI v4 λ i3=>aC n "_double" s1∧ai (U bs) (d+4) (.cst (.ref 219)) [.inst 313 n,.int x,.int y,.int z,.int i1,.int i3] s1 λ v5 s2=>d3 v5 λ x1 y1 z1=>((!(decide (z1≠0)))=true→Q (.cst (.ref 414)) s2)∧((!(decide (z1≠0)))=false→aL n "_PointJacobi__curve" s2 λ v6=>dO 88 v6 λ i4=>aL n "_PointJacobi__order" s2 λ v7=>ai (U bs) (d+4) (.cst (.ref 313)) [.inst 88 i4,.int x1,.int y1,.int z1,v7] s2 λ v8 s3=>dO 313 v8 λ i5=>Q (.inst 313 i5) s3))) (by kernel_rfl) (by
  have Hp:=C.pos
  have hp:=C.hp
  have d7:=H.sF
  refine aG λ G kG=>?_
  obtain ⟨x,y,z,k,T,aY,hP,hr,hd,h4,h5⟩:=H.pj hn
  refine kG ?_
  have hs:Ck σ n p a b:=⟨c,x,y,z,o,g,k,aY,d7⟩
  refine Bv aY ⟨λ h=>absurd (nT h) (mj hr),λ _=>tP aY ⟨rfl,aN d7 (by kernel_rfl),bW O d7 (tP aY ⟨rfl,aN d7 (by kernel_rfl),cT O d7 ⟨aN aY (by kernel_rfl),sZ O C hs hP hr (bN.of hd.x hp) (bN.of hd.y hp) hd.z (bN.of ha hp) λ X Y Z rd rep=>?_⟩⟩)⟩⟩
  have mG:=aH C hP 2
  rw [← show mul p a 2 (some P)=plus p a (some P) (some P) from (d9 C hP 1).symm,← hR] at rep
  rw [← hR] at mG
  refine ⟨λ h=>absurd (nT h) (mj rep),λ h=>tP aY ⟨rfl,Bw aY ho (wc O ⟨rfl,?_⟩)⟩⟩
  have H3:=H.qd (o:=o) (g:=false) mG rep rd
  rw [H.len]
  exact q _ (H.len▸H3))
theorem Ky (O:(U bs).Ok) (H:Gd c p a b ω σ) {P:Int×Int} {x y z:Int} {o:AV} (h1:On p a b (some P)) (h2:Rep p x y z (some P)) (h3:Rd p x y z) (q:∀ δ,Gd c p a b (ω++[.pj P o false,.tab []]) (σ++δ)→Q (.inst ah ω.length) (σ++δ)) :
 ai (U bs) (d+2) (.cst (.ref ah)) [.inst au c,.int x,.int y,.int z,o] σ Q:=wc O (by
 have H3:=H.qd (o:=o) (g:=false) h1 h2 h3
 have:=q _ H3
 rw [← H.len] at this
 exact this)
theorem GY (O:(U bs).Ok) (C:Cv p a b) (H:Gd c p a b ω σ) {n:Nat} {P:Int×Int} {o:AV} {g:Bool} (hn:ω[n]? = some (.pj P o g)) (q:∀ σ',Gd c p a b ω σ'→(∀ (i:Nat) o,i≠n→σ[i]? = some o→σ'[i]? = some o)→Q (.inst ah n) σ') :
 ai (U bs) (d+2) (.cst (.ref bE)) [.inst ah n] σ Q:=by
 obtain ⟨x,y,z,k,T,e,h1,h2,h3,h4,h5⟩:=H.pj hn
 exact sD O C e H.sF h1 h2 h3 (q _ (H.scaled C hn e) λ i o hi h=>bq h (Ne.symm hi))
theorem Gd.BR (H:Gd c p a b ω σ) {n:Nat} {P:Int×Int} {o:AV} {g:Bool} {name:Str} (hn:ω[n]? = some (.pj P o g)) (he:∀ x y z k,(fh c x y z o g k).lookup name=none):aC n name σ:=by
 obtain ⟨x,y,z,k,T,e,_⟩:=H.pj hn
 exact aN e (he _ _ _ _)
theorem yG (O:(U bs).Ok) (C:Cv p a b) (ha:0≤a∧a<p) (H:Gd c p a b ω σ) {n:Nat} {P:Int×Int} {nn:Int} {g:Bool} (hn:ω[n]? = some (.pj P (.int nn) g))
 (od:Od p a nn (some P)) (hodd:nn%2=1) (hn1:1<nn) (hnb:nn≤1000)
 (q:∀ σ' δ,Gd c p a b (ω++δ) σ'→(∀ (i:Nat) o,i≠n→σ[i]? = some o→σ'[i]? = some o)→GX c p a b (ω++δ) σ' n P nn g→Q .none σ') :
 ai (U bs) (d+7) (.cst (.ref bU)) [.inst ah n] σ Q :=
 ai.of O (T:=Bx) (by kernel_rfl) (by kernel_rfl) λ L=>Eq.mp (α:=aL n "_PointJacobi__generator" σ λ v=>dB v λ i=>((!i)=true→Q .none σ)∧((!i)=false→aL n "_PointJacobi__precompute" σ λ v1=>dL v1 λ i1=>aD i1 σ λ xs=>xs.length≤1000000∧((!xs.isEmpty)=true→Q .none σ)∧((!xs.isEmpty)=false→aL n "_PointJacobi__order" σ λ v2=>dI v2 λ i2=>((decide (i2≠0))=true→(af i2∨af 2)∧aL n "_PointJacobi__coords" (σ++[AO.lst []]) λ v3=>d3 v3 λ x y z=>aL n "_PointJacobi__curve" (σ++[AO.lst []]) λ v4=>dO 88 v4 λ i3=>ai (U bs) (d+6) (.cst (.ref 313)) [.inst 88 i3,.int x,.int y,.int z,.int (i2*2)] (σ++[AO.lst []]) λ v5 s=>dO 313 v5 λ i4=>(af (i2*2)∨af 2)∧aD σ.length s λ x1=>aC i4 "x" s∧ai (U bs) (d+6) (.cst (.ref 173)) [.inst 313 i4] s λ v6 s1=>dI v6 λ i5=>aC i4 "y" s1∧ai (U bs) (d+6) (.cst (.ref 180)) [.inst 313 i4] s1 λ v7 s2=>dI v7 λ i6=>aD σ.length s2 λ dF=>dF.length≤1000000∧∃ I:Int→Nat→Nat→List AO→Prop,(dO 313 (.inst 313 i4) λ a=>∃ m:Nat,I 1 a m (s2.set σ.length (AO.lst (dF++[.tup [.int i5,.int i6]]))))∧∀ a:Int,∀ a1:Nat,∀ m:Nat,∀ aa:List AO,I a a1 m aa→((decide (a<((i2*2)*2)))=true→(af a∨af 2)∧aC a1 "double" aa∧ai (U bs) (d+6) (.cst (.ref 226)) [.inst 313 a1] aa λ v8 s3=>dO 313 v8 λ i7=>aC i7 "scale" s3∧ai (U bs) (d+6) (.cst (.ref 187)) [.inst 313 i7] s3 λ v9 s4=>dO 313 v9 λ i8=>aD σ.length s4 λ x2=>aC i8 "x" s4∧ai (U bs) (d+6) (.cst (.ref 173)) [.inst 313 i8] s4 λ v10 s5=>dI v10 λ i9=>aC i8 "y" s5∧ai (U bs) (d+6) (.cst (.ref 180)) [.inst 313 i8] s5 λ v11 s6=>dI v11 λ tY=>aD σ.length s6 λ yv=>yv.length≤1000000∧dO 313 (.inst 313 i8) λ a2=>∃ m':Nat,m'<m∧I (a*2) a2 m' (s6.set σ.length (AO.lst (yv++[.tup [.int i9,.int tY]]))))∧((decide (a<((i2*2)*2)))=false→∃ fs:List (Str×AV),aa[n]? = some (AO.inst fs)∧fs.length<1000∧Q .none (aa.set n (AO.inst (aO "_PointJacobi__precompute" (.lst σ.length) fs)))))∧((decide (i2≠0))=false→False)))) (by kernel_rfl) (by
  refine aG λ G kG=>?_
  obtain ⟨x,y,z,k,T0,aY,h1,h2,h3,h4,h5⟩:=H.pj hn
  refine kG ?_
  have q0:(g=true→T0≠[]∧yt p a P (.int nn) T0)→(g=false→T0=[])→Q .none σ:=λ g1 g2=>q σ [] (by rw [List.append_nil]; exact H) (λ i o _ h=>h) (by rw [List.append_nil]; exact ⟨x,y,z,k,T0,aY,h1,h2,h3,h4,g1,g2⟩)
  refine RZ aY ⟨λ e=>?_,λ e=>La aY ⟨_,H.tab h4,?_⟩⟩
  · have e:g=false:=by simpa using e
    refine q0 (λ e'=>by rw [e] at e'; cases e') λ _=>?_
    rcases h5 with h5 | h5
    · exact h5
    · rw [e] at h5; cases h5.1
  have eg:g=true:=by simpa using e
  subst eg
  refine ⟨?_,λ e=>?_,λ e=>?_⟩
  · rw [List.length_map]
    rcases h5 with h5 | h5
    · rw [h5]; exact Nat.zero_le _
    · obtain ⟨_,_,_,_,h⟩:=h5.2; exact Lq.bZ h (by decide)
  · refine q0 (λ _=>?_) (λ e=>by cases e)
    rcases h5 with h5 | h5
    · rw [h5] at e; cases e
    · exact ⟨N7 hn1 h5.2,h5.2⟩
  have e0:T0=[]:=by cases T0 with
   | nil=>rfl
   | cons=>cases e
  subst e0
  have Hp:=C.pos
  have hp:=C.hp
  have H1:=H.bg (.lst [])
  have T7:=ak hn [D.raw (.lst [])]
  have wj:=aI aY [AO.lst []]
  refine Bw aY rfl ⟨λ _=>⟨.inr (by unfold af; decide),Bv wj (tP wj ⟨rfl,Ky O H1 h1 h2 h3 λ δ1 H2=>⟨rfl,.inr (by unfold af; decide),?_⟩⟩)⟩,λ h=>absurd (of_decide_eq_false h) (by (clear h e; clear e; lia))⟩
  rw [List.append_assoc] at H2
  have H2:Gd c p a b (ω++D.raw (.lst []) :: [D.pj P (.int (nn*2)) false,.tab []]) _:=H2
  rw [List.length_append,H.len]
  have hd2:(ω++D.raw (.lst []) :: [D.pj P (.int (nn*2)) false,.tab []])[ω.length+1]? = some (.pj P (.int (nn*2)) false):=BF _ _ _ _
  have N9:∀ (i:Nat) o,σ[i]? = some o→(σ++[AO.lst []]++δ1)[i]? = some o:=λ i o h=>aI (aI h _) _
  generalize σ++[AO.lst []]++δ1=s1 at H2 N9
  have Sj:=H2.raw (bY ω _ _)
  refine ⟨_,Sj,H2.BR hd2 (λ _ _ _ _=>by kernel_rfl),Iu O C H2 hd2 ⟨H2.BR hd2 (λ _ _ _ _=>by kernel_rfl),Iv O C H2 hd2 ⟨_,Sj,Nat.zero_le _,Si c p a b ω σ P nn,⟨rfl,(8*nn-1).toNat,?_⟩,λ i dn m s3 hI=>?_⟩⟩⟩
  · have H3:=H2.qU (bY ω _ _) [we P]
    rw [tu] at H3
    refine ⟨[.pj P (.int (nn*2)) false,.tab []],0,[P],P,H3,λ i o h=>?_,rfl,Nat.lt_succ_self _,?_,?_,rfl,λ i q hq=>?_,by (clear e; clear e hodd; lia),rfl⟩
    · exact bq (N9 i o h) (by have:=(List.getElem?_eq_some_iff.mp h).1; have:=H.len; lia)
    · exact BF _ _ _ _
    · rw [show ((2:Int)^0)=1 from rfl,mul_one]
    · match i,hq with
      | 0,hq=>cases hq; rw [show ((2:Int)^0)=1 from rfl,mul_one]
  obtain ⟨δ,j,T,R,H3,hF,ei,hdn,hd,eR,hl,hT,hi,em⟩:=hI
  have UR:=H3.raw (bY ω _ _)
  have hj:j<13:=N8 (by rw [← ei]; (clear ei e; clear e hodd; lia))
  refine ⟨λ e=>?_,λ e=>?_⟩
  · have e:=of_decide_eq_true e
    have O9:∃ R2,some R2=mul p a 2 (some R):=by
     have e2:mul p a 2 (some R)=mul p a (2^(j+1)) (some P):=by rw [eR,← bF C h1,AI]
     cases hz:mul p a 2 (some R) with
     | some R2=>exact ⟨R2,rfl⟩
     | none=>exact absurd ((od.dvd C h1).mp (e2.symm.trans hz)) (FL hn1 hodd _)
    obtain ⟨R2,O9⟩:=O9
    have e2:some R2=mul p a (2^(j+1)) (some P):=by rw [O9,eR,← bF C h1,AI]
    refine ⟨.inr (by unfold af; decide),H3.BR hd (λ _ _ _ _=>by kernel_rfl),EY O C ha H3 hd rfl O9 λ σ4 H4=>⟨rfl,?_⟩⟩
    rw [List.append_assoc] at H4
    have H4:Gd c p a b (ω++D.raw (.lst (T.map we)) :: (δ++[D.pj R2 (.int (nn*2)) false,.tab []])) _:=H4
    have GZ:(ω++D.raw (.lst (T.map we)) :: (δ++[D.pj R2 (.int (nn*2)) false,.tab []]))[(ω++D.raw (.lst (T.map we)) :: δ).length]? = some (.pj R2 (.int (nn*2)) false):=by
     rw [← List.cons_append,← List.append_assoc]
     exact bY _ _ _
    have Sm:∀ (i:Nat) o,σ[i]? = some o→(s3++σ4)[i]? = some o:=λ i o h=>aI (hF i o h) _
    have hlt:ω.length<(ω++D.raw (.lst (T.map we)) :: δ).length:=by rw [List.length_append,List.length_cons]; lia
    generalize (ω++D.raw (.lst (T.map we)) :: δ).length=dm at GZ hlt
    generalize s3++σ4=s4 at H4 Sm
    generalize δ++[D.pj R2 (.int (nn*2)) false,.tab []]=δ4 at H4 GZ
    refine ⟨H4.BR GZ (λ _ _ _ _=>by kernel_rfl),GY O C H4 GZ λ s5 H5 T8=>⟨rfl,?_⟩⟩
    have Sn:=H5.raw (bY ω _ _)
    refine ⟨_,Sn,H5.BR GZ (λ _ _ _ _=>by kernel_rfl),Iu O C H5 GZ ⟨H5.BR GZ (λ _ _ _ _=>by kernel_rfl),Iv O C H5 GZ ⟨_,Sn,?_,rfl,(8*nn-i*2).toNat,?_,?_⟩⟩⟩
    · rw [List.length_map]; lia
    · have h0:(0:Int)<2^j:=Int.pow_pos (by decide)
      (clear hi hn1 hodd; lia)
    · have H6:=H5.qU (bY ω _ _) (T.map we++[we R2])
      rw [tu] at H6
      have em:T.map we++[we R2]=(T++[R2]).map we:=by rw [List.map_append]; rfl
      rw [em] at H6
      refine ⟨δ4,j+1,T++[R2],R2,em▸H6,λ i o h=>?_,by rw [ei,AI,Int.mul_comm],hlt,?_,e2,by rw [List.length_append,hl]; rfl,λ i q hq=>?_,by (clear em; clear em ei hodd; lia),rfl⟩
      · have hi:=(List.getElem?_eq_some_iff.mp h).1
        have:=H.len
        exact bq (T8 i o (Lq.nx (Lq.nss (Lq.xH hi (Nat.le_of_eq this)) hlt)) (Sm i o h)) (Lq.ny (Lq.xH hi (Nat.le_of_eq this)))
      · exact EX hlt GZ
      · by_cases hi:i<T.length
        · rw [List.getElem?_append_left hi] at hq; exact hT i q hq
        · have e3:i=T.length:=by have:=(List.getElem?_eq_some_iff.mp hq).1; rw [List.length_append] at this; have:i<T.length+1:=this; (clear em e; clear e em hl; clear e; clear e; exact Lq.ne (Lq.Pg this) (Lq.nn hi))
          rw [e3,List.getElem?_append_right (Nat.le_refl _),Nat.sub_self] at hq
          cases hq
          rw [e3,hl]; exact e2
  · have e:=of_decide_eq_false e
    have Oa:=hF _ _ aY
    refine ⟨_,Oa,(show 5<1000 by decide),?_⟩
    have es:aO "_PointJacobi__precompute" (.lst ω.length) (fh c x y z (.int nn) true k)=fh c x y z (.int nn) true ω.length:=by kernel_rfl
    rw [es]
    have tb:yt p a P (.int nn) T:=⟨nn,rfl,hT,by rw [hl,Nat.add_sub_cancel,← ei]; lia,by lia⟩
    have H4:=H3.fill (ak hn _) h1 h2 h3 (bY ω _ _) tb
    rw [tu] at H4
    exact q _ (.tab T :: δ) H4 (λ i o hi h=>bq (hF i o h) (Ne.symm hi)) ⟨x,y,z,ω.length,T,getSet Oa,h1,h2,h3,bY _ _ _,λ _=>⟨N7 hn1 tb,tb⟩,(λ h=>nomatch h)⟩)
end
end
end
noncomputable section
section
variable {bs:Bs} {d:Nat} {σ:List AO} {Q:AV→List AO→Prop}
def So (bs:Bs) (d n:Nat) (r:Int) (s:List AO) (Q:AV→List AO→Prop):Prop:=((aC n "scale" s)∧(ai (U bs) (d+7) (.cst (.ref bE)) [(.inst ah n)] s (λ v5=>(λ s1=>(dO ah v5 (λ i3=>(aL i3 "_PointJacobi__coords" s1 (λ v6=>(d3 v6 (λ x1=>(λ y1=>(λ z1=>(aL i3 "_PointJacobi__curve" s1 (λ v7=>(dO au v7 (λ i4=>((aC i4 "p" s1)∧(ai (U bs) (d+7) (.cst (.ref gS)) [(.inst au i4)] s1 (λ v8=>(λ s2=>(dI v8 (λ i5=>(aL i3 "_PointJacobi__curve" s2 (λ v9=>(dO au v9 (λ i6=>((aC i6 "a" s2)∧(ai (U bs) (d+7) (.cst (.ref gU)) [(.inst au i6)] s2 (λ v10=>(λ s3=>(dI v10 (λ i7=>((aC i3 "_double" s3)∧((aC i3 "_add" s3)∧((aC i3 "_naf" s3)∧(ai (U bs) (d+7) (.cst (.ref bS)) [(.int r)] s3 (λ v11=>(λ s4=>(dL v11 (λ i8=>(∃ ys:List Int,((s4[i8]? = some (AO.lst (ys.map (λ a2=>(.int a2)))))∧(((ys).length≤1000000)∧(∃ I:Int→Int→Int→Nat→List AO→Prop,((I (0:Int) (0:Int) (0:Int) (ys).length s4)∧(∀ a2:Int,(∀ a3:Int,(∀ a4:Int,(∀ i9:Nat,(∀ aj:List AO,((I a2 a3 a4 i9 aj)→((∀ j:Nat,(∀ y2:Int,((i9=(j+1))→((ys[j]? = some y2)→((aj[i8]? = some (AO.lst (ys.map (λ a5=>(.int a5)))))∧(ai (U bs) (d+7) (.cst (.ref cB)) [(.inst ah i3),(.int a2),(.int a3),(.int a4),(.int i5),(.int i7)] aj (λ Ob=>(λ s5=>(d3 Ob (λ x2=>(λ y3=>(λ z2=>((((decide ((y2<(0:Int))))=true)→(ai (U bs) (d+7) (.cst (.ref az)) [(.inst ah i3),(.int x2),(.int y3),(.int z2),(.int x1),(.int (-y1)),(.int (1:Int)),(.int i5)] s5 (λ Kz=>(λ s6=>(d3 Kz (λ x3=>(λ y4=>(λ z3=>(I x3 y4 z3 j s6)))))))))∧(((decide ((y2<(0:Int))))=false)→((((decide (((0:Int)<y2)))=true)→(ai (U bs) (d+7) (.cst (.ref az)) [(.inst ah i3),(.int x2),(.int y3),(.int z2),(.int x1),(.int y1),(.int (1:Int)),(.int i5)] s5 (λ Kz=>(λ s6=>(d3 Kz (λ x3=>(λ y4=>(λ z3=>(I x3 y4 z3 j s6)))))))))∧(((decide (((0:Int)<y2)))=false)→(I x2 y3 z2 j s5)))))))))))))))))∧((i9=0)→((((!(decide ((a4≠(0:Int)))))=true)→(Q (.cst (.ref bL)) aj))∧(((!(decide ((a4≠(0:Int)))))=false)→(aL i3 "_PointJacobi__curve" aj (λ Ob=>(dO au Ob (λ tY=>(aL i3 "_PointJacobi__order" aj (λ Kz=>(dI Kz (λ Iw=>(ai (U bs) (d+7) (.cst (.ref ah)) [(.inst au tY),(.int a2),(.int a3),(.int a4),(.int Iw)] aj (λ Qv=>(λ s5=>(dO ah Qv (λ i12=>(Q (.inst ah i12) s5)))))))))))))))))))))))))))))))))))))))))))))))))))))))))))))))))))))
section
variable {c:Nat} {p a b:Int} {ω:List D}
theorem Den.ni {o:AV} {R:G} {v:AV} (h:Den ω o R v):mw v=true:=by
 cases R with
 | none=>cases h; rfl
 | some P=>obtain ⟨n,g,e,_⟩:=h; subst e; rfl
theorem Oc (C:Cv p a b) {P:Int×Int} (hP:On p a b (some P)) {nn:Int} (od:Od p a nn (some P)) (hodd:nn%2=1) (hn1:1<nn):P.2≠0:=λ e=>by
 have h:plus p a (some P) (some P)=none:=if_pos ⟨rfl,by rw [e]; exact Int.zero_emod p⟩
 have h2:=(od.dvd C hP (k:=2)).mp ((show mul p a 2 (some P)=plus p a (some P) (some P) from (d9 C hP 1).symm).trans h)
 rw [Int.emod_eq_of_lt (by decide) (by lia)] at h2
 cases h2
def Iz (a:Bool) (n:Nat) (a1:List AO) (m:Int) (bs:Bs) (d:Nat) (Q:AV→List AO→Prop):Prop:=a=true∧aL n "_PointJacobi__order" a1 λ v2=>dI v2 λ i1=>(af i1∨af 2)∧0<(i1*2)∧∀ r:Int,r=(m%(i1*2))→0≤r→r<(i1*2)→aC n "_maybe_precompute" a1∧ai (U bs) (d+7) (.cst (.ref 138)) [.inst 313 n] a1 λ v3 s=>aL n "_PointJacobi__precompute" s λ v4=>dL v4 λ i2=>aD i2 s λ xs=>xs.length≤1000000∧((!xs.isEmpty)=true→aC n "_mul_precompute" s∧ai (U bs) (d+7) (.cst (.ref 289)) [.inst 313 n,.int r] s λ v5 s1=>Q v5 s1)∧((!xs.isEmpty)=false→So bs d n r s Q)
theorem EZ (O:(U bs).Ok) (C:Cv p a b) (ha:0≤a∧a<p) (H:Gd c p a b ω σ) {n:Nat} {P:Int×Int} {nn:Int} (hn:ω[n]? = some (.pj P (.int nn) true))
 (od:Od p a nn (some P)) (hodd:nn%2=1) (hn1:1<nn) (hnb:nn≤1000) {m:Int}
 (q:∀ v δ σ',Gd c p a b (ω++δ) σ'→Den (ω++δ) (.int nn) (mul p a m (some P)) v→Q v σ'):ai (U bs) (d+8) (.cst (.ref bO)) [.inst ah n,.int m] σ Q :=
 ai.of O (T:=Ik) (by kernel_rfl) (by kernel_rfl) λ L=>Eq.mp (α:=aL n "_PointJacobi__coords" σ λ v=>d3 v λ x y z=>((!(decide (y≠0)))=true→Q (.cst (.ref 414)) σ)∧((!(decide (y≠0)))=false→((!(decide (m≠0)))=true→Q (.cst (.ref 414)) σ)∧((!(decide (m≠0)))=false→((decide (m=1))=true→Q (.inst 313 n) σ)∧((decide (m=1))=false→aL n "_PointJacobi__order" σ λ v1=>dI v1 λ i=>bw (U bs) (d+7) (.int i) σ λ a a1=>Iz a n a1 m bs d Q)))) (by kernel_rfl) (by
  refine aG λ G kG=>?_
  obtain ⟨x,y,z,k,T0,aY,h1,h2,h3,h4,h5⟩:=H.pj hn
  refine kG ?_
  have hy:=Oc C h1 od hodd hn1
  have H0:Gd c p a b (ω++[]) σ:=by rw [List.append_nil]; exact H
  obtain ⟨u,v⟩:=P
  refine Bv aY ⟨λ e=>absurd (Df C h1 h2 (nT e)) hy,λ _=>⟨λ e=>?_,λ _=>⟨λ e=>?_,λ _=>Bw aY rfl (bw.int ⟨decide_eq_true (Lq.y (Lq.ls (by decide) hn1)),Bw aY rfl ⟨.inr (by unfold af; decide),by (clear hodd; lia),λ r er r0 r1=>⟨aN aY (by kernel_rfl),yG O C ha H hn od hodd hn1 hnb λ s δ H1 hF M=>?_⟩⟩⟩)⟩⟩⟩
  · have e:m=0:=nT e
    subst e
    exact q _ [] _ H0 rfl
  · have e:=of_decide_eq_true e
    subst e
    exact q _ [] _ H0 ⟨n,true,rfl,ak hn _,λ h=>nomatch h⟩
  · refine aG λ G kG=>?_
    obtain ⟨x',y',z',k',T,e,g1,g2,g3,g4,g5,_⟩:=M
    obtain ⟨hne,n',en,hT1,hT2,T9⟩:=g5 rfl
    cases en
    refine kG ?_
    have hl:1≤T.length:=by cases T with
     | nil=>exact absurd rfl hne
     | cons=>exact Nat.succ_le_succ (Nat.zero_le _)
    have Ua:8*nn≤2^T.length:=by
     have e2:(2:Int)^T.length=2*2^(T.length-1):=by rw [← AI,Nat.sub_add_cancel hl]
     rw [e2]; (clear kG r1 er; clear kG hnb hn1 hodd; lia)
    have hm:mul p a r (some (u,v))=mul p a m (some (u,v)):=(od.eq C h1).mpr (by
     have e3:=Int.mul_ediv_add_emod m (nn*2)
     rw [← er] at e3
     exact Int.emod_eq_zero_of_dvd ⟨-(2*(m / (nn*2))),by rw [Int.mul_neg,← Int.mul_assoc]; lia⟩)
    refine La e ⟨_,H1.tab g4,by rw [List.length_map]; exact Lq.bZ T9 (by decide),λ _=>⟨aN e (by kernel_rfl),EV O C ha H1 e g4 hT1 Ua h1 od r0 (by (clear kG er; clear kG hnb hn1 hodd; lia)) λ v δ2 s2 H2 dn=>q v (δ++δ2) s2 ?_ ?_⟩,λ e=>?_⟩
    · rw [← List.append_assoc]; exact H2
    · rw [← List.append_assoc,← hm]; exact dn
    · cases T with
      | nil=>exact absurd rfl hne
      | cons=>cases e)
theorem IA (O:(U bs).Ok) (C:Cv p a b) (ha:0≤a∧a<p) (H:Gd c p a b ω σ) {n:Nat} {P:Int×Int} {nn:Int} (hn:ω[n]? = some (.pj P (.int nn) true))
 (od:Od p a nn (some P)) (hodd:nn%2=1) (hn1:1<nn) (hnb:nn≤1000) {m:Int}
 (q:∀ v δ σ',Gd c p a b (ω++δ) σ'→Den (ω++δ) (.int nn) (mul p a m (some P)) v→Q v σ'):aV (U bs) (d+8) .Mult (.inst ah n) (.int m) σ Q :=
 aV.int O rfl c8.inst (f:=bO) (by kernel_rfl) (ai.w (EZ O C ha H hn od hodd hn1 hnb λ v δ σ' H' dn=>⟨dn.ni,q v δ σ' H' dn⟩))
end
end
end
noncomputable section
section
variable {bs:Bs} {d:Nat} {σ:List AO} {Q:AV→List AO→Prop}
section
variable {c:Nat} {p a b:Int} {ω:List D}
theorem Oe (O:(U bs).Ok) (C:Cv p a b) (ha:0≤a∧a<p) (H:Gd c p a b ω σ) {n:Nat} {P:Int×Int} {nn r:Int} (hn:ω[n]? = some (.pj P (.int nn) false)) (hm:r.natAbs≤1000000) (od:Od p a nn (some P)) (hmt:∀ ds,eW r ds→¬ Meets nn ds)
 (q:∀ v δ σ',Gd c p a b (ω++δ) σ'→Den (ω++δ) (.int nn) (mul p a r (some P)) v→Q v σ'):So bs d n r σ Q:=by
 obtain ⟨x,y,z,k,T,aY,hP,hr,hd,h4,h5⟩:=H.pj hn
 have d7:=H.sF
 have Hp:=C.pos
 have hp:=C.hp
 have hne:=yw aY d7
 obtain ⟨u,v⟩:=P
 refine ⟨aN aY (by kernel_rfl),sD O C aY d7 hP hr hd ?_⟩
 have H1:=H.scaled C hn aY
 have wj:=getSet (o':=AO.inst (fh c u v 1 (.int nn) false k)) aY
 have CI:=bq (o':=AO.inst (fh c u v 1 (.int nn) false k)) d7 hne
 generalize σ.set n (.inst (fh c u v 1 (.int nn) false k))=σ1 at H1 wj CI
 refine ⟨rfl,Bv wj (tP wj ⟨rfl,aN CI (by kernel_rfl),bW O CI (tP wj ⟨rfl,aN CI (by kernel_rfl),cT O CI ⟨aN wj (by kernel_rfl),aN wj (by kernel_rfl),aN wj (by kernel_rfl),Aw O hm λ ds hds=>?_⟩⟩)⟩)⟩
 have H2:=H1.bg (.lst (ds.map .int))
 have G0:=aI wj [AO.lst (ds.map .int)]
 have wm:=aI CI [AO.lst (ds.map .int)]
 have Qw:=getLast σ1 (.lst (ds.map .int))
 have hlen:ds.length≤1000000:=Nat.le_trans hds.len hm
 have ru:Rep p u v 1 (some (u,v)):=eZ C
 have rv:Rep p u (-v) 1 (minus p (some (u,v))):=fW C hP ru
 have bu:=bN.of hP.1 hp
 have bv:=bN.of hP.2.1 hp
 have hs:Ck (σ1++[AO.lst (ds.map .int)]) n p a b:=⟨c,u,v,1,.int nn,false,k,G0,wm⟩
 have one:(0:Int)≤1∧1<p:=by have:=C.lo; lia
 generalize σ1++[AO.lst (ds.map .int)]=σ2 at H2 G0 wm Qw hs
 refine ⟨ds,Qw,hlen,λ X Y Z i σ3=>σ3=σ2∧Rd p X Y Z∧Rep p X Y Z (mul p a (val (ds.drop i)) (some (u,v))),⟨rfl,⟨⟨Int.le_refl 0,Hp⟩,⟨Int.le_refl 0,Hp⟩,⟨Int.le_refl 0,Hp⟩⟩,?_⟩,λ X Y Z i σ3 hI=>?_⟩
 · rw [List.drop_length]; exact Int.zero_emod p
 obtain ⟨rfl,rd,rep⟩:=hI
 have mG:=aH C hP (val (ds.drop i))
 refine ⟨λ j y2 ei hj=>⟨Qw,?_⟩,λ ei=>?_⟩
 · subst ei
   refine sZ O C hs mG rep (bN.of rd.x hp) (bN.of rd.y hp) rd.z (bN.of ha hp) λ x2 y3 z2 CZ rep2=>?_
   rw [d9 C hP] at rep2
   have tZ:=aH C hP (2*val (ds.drop (j+1)))
   have vd:=vK hj
   have hdig:=hds.digit y2 (List.mem_of_getElem? hj)
   have tell:∀ (e:Int) (Y':Int) (S:G),y2=e→e=1∨e=-1→On p a b S→S=mul p a e (some (u,v))→Rep p u Y' 1 S→Kq p x2 y3 z2 u Y' 1:=λ e Y' S ey he hS eS hrep z1 _ hx hy=>by
    exfalso
    rw [z1] at rep2
    have e1:=ua C tZ hS rep2 hrep hx hy
    rw [eS,Od.eq C hP od] at e1
    have e2:=Int.emod_eq_emod_iff_emod_sub_eq_zero.mpr e1
    refine hmt ds hds (Dg hj (by (clear vd h4 h5 e1 e2 hrep rep2 rep hx hy); lia) ?_)
    rcases he with rfl | rfl
    · exact .inl e2
    · exact .inr e2
   refine ⟨λ h=>?_,λ h=>⟨λ h'=>?_,λ h'=>?_⟩⟩
   · have e:y2=-1:=by have:=of_decide_eq_true h; (clear vd h4 h5; lia)
     refine qR O C hs tZ (bD C hP) rep2 rv (bN.of CZ.x hp) (bN.of CZ.y hp) bu bv.neg (bN.of ha hp) CZ.z one (tell (-1) _ _ e (.inr rfl) (bD C hP) (qK _).symm rv) λ x3 y4 z3 GW rep3=>⟨rfl,GW,?_⟩
     rw [← qK,← mul_add C hP] at rep3
     rw [vd,e,Int.add_comm]; exact rep3
   · have e:y2=1:=by have:=of_decide_eq_true h'; (clear vd h4 h5; lia)
     refine qR O C hs tZ hP rep2 ru (bN.of CZ.x hp) (bN.of CZ.y hp) bu bv (bN.of ha hp) CZ.z one (tell 1 _ _ e (.inl rfl) hP rfl ru) λ x3 y4 z3 GW rep3=>⟨rfl,GW,?_⟩
     have:=mul_succ C hP (2*val (ds.drop (j+1)))
     rw [← this] at rep3
     rw [vd,e,Int.add_comm]; exact rep3
   · have e:y2=0:=by
      have g1:=of_decide_eq_false h
      have g2:=of_decide_eq_false h'
      (clear vd h4 h5; exact Lq.e (Lq.n (of_decide_eq_false h')) (Lq.n (of_decide_eq_false h)))
     refine ⟨rfl,CZ,?_⟩
     rw [vd,e,Int.zero_add]; exact rep2
 · subst ei
   rw [List.drop_zero,hds.val] at rep mG
   refine ⟨λ h=>?_,λ h=>?_⟩
   · have e:Z=0:=nT h
     have e0:=dJ C mG rep (by rw [e]; exact Int.zero_emod p)
     refine q _ [.raw (.lst (ds.map .int))] _ H2 ?_
     rw [e0]; exact rfl
   · have e:Z≠0:=nF h
     obtain ⟨S,hS⟩:=pY rep (by rw [gG rd.z]; exact e)
     rw [hS] at rep mG
     refine tP G0 ⟨rfl,Bw G0 rfl (wc O ⟨rfl,?_⟩)⟩
     have H3:=H2.qd (o:=.int nn) (g:=false) mG rep rd
     rw [List.append_assoc] at H3
     refine q _ _ _ H3 ?_
     rw [hS]
     refine ⟨_,false,rfl,?_,λ _=>rfl⟩
     rw [← List.append_assoc,H2.len,List.getElem?_append_right (Nat.le_refl _),Nat.sub_self]; rfl
theorem KA (O:(U bs).Ok) (C:Cv p a b) (ha:0≤a∧a<p) (H:Gd c p a b ω σ) {n:Nat} {P:Int×Int} {nn:Int} (hn:ω[n]? = some (.pj P (.int nn) false))
 (od:Od p a nn (some P)) (hodd:nn%2=1) (hn1:1<nn) (hnb:nn≤1000) {m:Int} (hmt:∀ ds,eW (m%(nn*2)) ds→¬ Meets nn ds)
 (q:∀ v δ σ',Gd c p a b (ω++δ) σ'→Den (ω++δ) (.int nn) (mul p a m (some P)) v→Q v σ'):ai (U bs) (d+8) (.cst (.ref bO)) [.inst ah n,.int m] σ Q :=
 ai.of O (T:=Ik) (by kernel_rfl) (by kernel_rfl) λ L=>Eq.mp (α:=aL n "_PointJacobi__coords" σ λ v=>d3 v λ x y z=>((!(decide (y≠0)))=true→Q (.cst (.ref 414)) σ)∧((!(decide (y≠0)))=false→((!(decide (m≠0)))=true→Q (.cst (.ref 414)) σ)∧((!(decide (m≠0)))=false→((decide (m=1))=true→Q (.inst 313 n) σ)∧((decide (m=1))=false→aL n "_PointJacobi__order" σ λ v1=>dI v1 λ i=>bw (U bs) (d+7) (.int i) σ λ a a1=>Iz a n a1 m bs d Q)))) (by kernel_rfl) (by
  refine aG λ G kG=>?_
  obtain ⟨x,y,z,k,T,aY,h1,h2,h3,h4,h5⟩:=H.pj hn
  have hT:T=[]:=h5.elim id λ h=>nomatch h.1
  subst hT
  refine kG ?_
  have hy:=Oc C h1 od hodd hn1
  have H0:Gd c p a b (ω++[]) σ:=by rw [List.append_nil]; exact H
  obtain ⟨u,v⟩:=P
  refine Bv aY ⟨λ e=>absurd (Df C h1 h2 (nT e)) hy,λ _=>⟨λ e=>?_,λ _=>⟨λ e=>?_,λ _=>Bw aY rfl (bw.int ⟨decide_eq_true (Lq.y (Lq.ls (by decide) hn1)),Bw aY rfl ⟨.inr (by unfold af; decide),by (clear hodd; lia),λ r er r0 r1=>⟨aN aY (by kernel_rfl),Cy O aY ?_⟩⟩⟩)⟩⟩⟩
  · have e:m=0:=nT e
    subst e
    exact q _ [] _ H0 rfl
  · have e:=of_decide_eq_true e
    subst e
    exact q _ [] _ H0 ⟨n,false,rfl,ak hn _,λ _=>rfl⟩
  · have hm:mul p a r (some (u,v))=mul p a m (some (u,v)):=(od.eq C h1).mpr (by
     have e3:=Int.mul_ediv_add_emod m (nn*2)
     rw [← er] at e3
     exact Int.emod_eq_zero_of_dvd ⟨-(2*(m / (nn*2))),by rw [Int.mul_neg,← Int.mul_assoc]; lia⟩)
    refine La aY ⟨[],H.tab h4,Nat.zero_le _,(λ h=>nomatch h),λ _=>Oe O C ha H hn (by (clear hm er kG h2 h3; lia)) od (by rw [er]; exact hmt) λ v δ s2 H2 dn=>q v δ s2 H2 (by rw [← hm]; exact dn)⟩)
def CJ (nn m:Int) (o:AV) (g:Bool):Prop:=(o=.int nn∧(g=true∨∀ ds,eW (m%(nn*2)) ds→¬ Meets nn ds))∨(o=.none∧∀ ds,eW m ds→¬ Meets nn ds)
theorem G1 (O:(U bs).Ok) (C:Cv p a b) (ha:0≤a∧a<p) (H:Gd c p a b ω σ) {n:Nat} {P:Int×Int} {nn:Int} {g:Bool} (hn:ω[n]? = some (.pj P (.int nn) g))
 (od:Od p a nn (some P)) (hodd:nn%2=1) (hn1:1<nn) (hnb:nn≤1000) {m:Int} (hk:CJ nn m (.int nn) g)
 (q:∀ v δ σ',Gd c p a b (ω++δ) σ'→Den (ω++δ) (.int nn) (mul p a m (some P)) v→Q v σ'):aV (U bs) (d+8) .Mult (.inst ah n) (.int m) σ Q:=by
 refine aV.int O rfl c8.inst (f:=bO) (by kernel_rfl) (ai.w ?_)
 have q':∀ v δ σ',Gd c p a b (ω++δ) σ'→Den (ω++δ) (.int nn) (mul p a m (some P)) v→mw v=true∧Q v σ':=λ v δ σ' H' dn=>⟨dn.ni,q v δ σ' H' dn⟩
 cases g with
 | true=>exact EZ O C ha H hn od hodd hn1 hnb q'
 | false=>exact KA O C ha H hn od hodd hn1 hnb (hk.elim (λ h=>h.2.resolve_left Bool.noConfusion) λ h=>nomatch h.1) q'
end
end
end
noncomputable section
section
variable {bs:Bs} {d:Nat} {σ:List AO} {Q:AV→List AO→Prop}
def Pa (bs:Bs) (d n l1 l2:Nat) (p a u v w u2 v2 w2 mx my mz px py pz:Int) (σ:List AO) (Q:AV→List AO→Prop):Prop:=(∃ G2:List Int,(∃ zs:List Int,(((G2).length=(zs).length)∧(∃ I:Int→Int→Int→Nat→List AO→Prop,((I (0:Int) (0:Int) (0:Int) 0 σ)∧(∀ a4:Int,(∀ a5:Int,(∀ a6:Int,(∀ CK:Nat,(∀ aj:List AO,((I a4 a5 a6 CK aj)→((aj[l1]? = some (AO.lst (G2.map (λ a7=>(.int a7)))))∧((aj[l2]? = some (AO.lst (zs.map (λ a7=>(.int a7)))))∧((∀ y4:Int,(∀ z4:Int,((G2[CK]? = some y4)→((zs[CK]? = some z4)→(∀ tt:Nat,(ai (U (bs.hide tt)) (d+8) (.cst (.ref cB)) [(.inst ah n),(.int a4),(.int a5),(.int a6),(.int p),(.int a)] aj (λ Qx=>(λ BG=>(d3 Qx (λ x4=>(λ y5=>(λ z5=>((((decide ((y4=(0:Int))))=true)→((((decide ((z4=(0:Int))))=true)→(I x4 y5 z5 (CK+1) BG))∧(((decide ((z4=(0:Int))))=false)→((((decide ((z4<(0:Int))))=true)→(ai (U (bs.hide tt)) (d+8) (.cst (.ref az)) [(.inst ah n),(.int x4),(.int y5),(.int z5),(.int u2),(.int (-v2)),(.int w2),(.int p)] BG (λ v20=>(λ xF=>(d3 v20 (λ x5=>(λ y6=>(λ z6=>(I x5 y6 z6 (CK+1) xF)))))))))∧(((decide ((z4<(0:Int))))=false)→((((decide (((0:Int)<z4)))=true)→(ai (U (bs.hide tt)) (d+8) (.cst (.ref az)) [(.inst ah n),(.int x4),(.int y5),(.int z5),(.int u2),(.int v2),(.int w2),(.int p)] BG (λ v20=>(λ xF=>(d3 v20 (λ x5=>(λ y6=>(λ z6=>(I x5 y6 z6 (CK+1) xF)))))))))∧(((decide (((0:Int)<z4)))=false)→False)))))))∧(((decide ((y4=(0:Int))))=false)→((((decide ((y4<(0:Int))))=true)→((((decide ((z4=(0:Int))))=true)→(ai (U (bs.hide tt)) (d+8) (.cst (.ref az)) [(.inst ah n),(.int x4),(.int y5),(.int z5),(.int u),(.int (-v)),(.int w),(.int p)] BG (λ v20=>(λ xF=>(d3 v20 (λ x5=>(λ y6=>(λ z6=>(I x5 y6 z6 (CK+1) xF)))))))))∧(((decide ((z4=(0:Int))))=false)→((((decide ((z4<(0:Int))))=true)→(ai (U (bs.hide tt)) (d+8) (.cst (.ref az)) [(.inst ah n),(.int x4),(.int y5),(.int z5),(.int mx),(.int my),(.int mz),(.int p)] BG (λ v20=>(λ xF=>(d3 v20 (λ x5=>(λ y6=>(λ z6=>(I x5 y6 z6 (CK+1) xF)))))))))∧(((decide ((z4<(0:Int))))=false)→((((decide (((0:Int)<z4)))=true)→(ai (U (bs.hide tt)) (d+8) (.cst (.ref az)) [(.inst ah n),(.int x4),(.int y5),(.int z5),(.int px),(.int (-py)),(.int pz),(.int p)] BG (λ v20=>(λ xF=>(d3 v20 (λ x5=>(λ y6=>(λ z6=>(I x5 y6 z6 (CK+1) xF)))))))))∧(((decide (((0:Int)<z4)))=false)→False)))))))∧(((decide ((y4<(0:Int))))=false)→((((decide (((0:Int)<y4)))=true)→((((decide ((z4=(0:Int))))=true)→(ai (U (bs.hide tt)) (d+8) (.cst (.ref az)) [(.inst ah n),(.int x4),(.int y5),(.int z5),(.int u),(.int v),(.int w),(.int p)] BG (λ v20=>(λ xF=>(d3 v20 (λ x5=>(λ y6=>(λ z6=>(I x5 y6 z6 (CK+1) xF)))))))))∧(((decide ((z4=(0:Int))))=false)→((((decide ((z4<(0:Int))))=true)→(ai (U (bs.hide tt)) (d+8) (.cst (.ref az)) [(.inst ah n),(.int x4),(.int y5),(.int z5),(.int px),(.int py),(.int pz),(.int p)] BG (λ v20=>(λ xF=>(d3 v20 (λ x5=>(λ y6=>(λ z6=>(I x5 y6 z6 (CK+1) xF)))))))))∧(((decide ((z4<(0:Int))))=false)→((((decide (((0:Int)<z4)))=true)→(ai (U (bs.hide tt)) (d+8) (.cst (.ref az)) [(.inst ah n),(.int x4),(.int y5),(.int z5),(.int mx),(.int (-my)),(.int mz),(.int p)] BG (λ v20=>(λ xF=>(d3 v20 (λ x5=>(λ y6=>(λ z6=>(I x5 y6 z6 (CK+1) xF)))))))))∧(((decide (((0:Int)<z4)))=false)→False)))))))∧(((decide (((0:Int)<y4)))=false)→False))))))))))))))))))∧((CK=(G2).length)→((((!(decide ((a6≠(0:Int)))))=true)→(Q (.cst (.ref bL)) aj))∧(((!(decide ((a6≠(0:Int)))))=false)→(aL n "_PointJacobi__curve" aj (λ Qx=>(dO au Qx (λ Ub=>(aL n "_PointJacobi__order" aj (λ v20=>(dI v20 (λ Uc=>(ai (U bs) (d+8) (.cst (.ref ah)) [(.inst au Ub),(.int a4),(.int a5),(.int a6),(.int Uc)] aj (λ Ud=>(λ BG=>(dO ah Ud (λ Ue=>(Q (.inst ah Ue) BG)))))))))))))))))))))))))))))))
inductive Qy (p a:Int) (P:G) (x:Int) (ds es:List Int) (L:Nat) (σ:List AO) (X Y Z:Int) (i:Nat) (s:List AO):Prop
 | mk (e:s=σ) (hi:i≤L) (rd:Rd p X Y Z) (rep:Rep p X Y Z (mul p a (tw x ds es (L-i)) P)):Qy p a P x ds es L σ X Y Z i s
section
variable {c:Nat} {p a b:Int} {ω:List D}
theorem Qz (O:(U bs).Ok) (C:Cv p a b) (ha:0≤a∧a<p) (H:Gd c p a b ω σ) {n l1 l2:Nat} {P:Int×Int} {nn x m1 m2:Int} {g:Bool} (hn:ω[n]? = some (.pj P (.int nn) g)) (hP:On p a b (some P)) (od:Od p a nn (some P))
 {ds es ys zs:List Int} (hds:eW m1 ds) (hes:eW m2 es) (hl1:ω[l1]? = some (.raw (.lst (ys.map .int)))) (hl2:ω[l2]? = some (.raw (.lst (zs.map .int)))) {L:Nat} (hy:ys.length=L) (hz:zs.length=L) (hdL:ds.length≤L) (heL:es.length≤L)
 (gy:∀ (i:Nat) y,ys[i]? = some y→y=qL ds (L-1-i)) (gz:∀ (i:Nat) y,zs[i]? = some y→y=qL es (L-1-i)) (nc:tH nn x ds es)
 {R:Int×Int} (hR:some R=mul p a x (some P)) {mx my mz px py pz:Int} (rm:Rep p mx my mz (mul p a (-(1+x)) (some P))) (dm:Rd p mx my mz) (rp:Rep p px py pz (mul p a (1-x) (some P))) (dp:Rd p px py pz)
 (q:∀ v δ σ',Gd c p a b (ω++δ) σ'→Den (ω++δ) (.int nn) (mul p a (tw x ds es 0) (some P)) v→Q v σ'):Pa bs d n l1 l2 p a P.1 P.2 1 R.1 R.2 1 mx my mz px py pz σ Q:=by
 have Hp:=C.pos
 have hp:=C.hp
 have d7:=H.sF
 obtain ⟨x0,y0,z0,k0,T0,aY,_⟩:=H.pj hn
 have hs:Ck σ n p a b:=⟨c,x0,y0,z0,.int nn,g,k0,aY,d7⟩
 have QA:=H.raw hl1
 have QB:=H.raw hl2
 have one:(0:Int)≤1∧1<p:=by have:=C.lo; lia
 have CL:On p a b (some R):=by rw [hR]; exact aH C hP _
 refine ⟨ys,zs,hy.trans hz.symm,Qy p a (some P) x ds es L σ,⟨rfl,Nat.zero_le _,⟨⟨Int.le_refl 0,Hp⟩,⟨Int.le_refl 0,Hp⟩,⟨Int.le_refl 0,Hp⟩⟩,?_⟩,λ X Y Z i s hI=>?_⟩
 · rw [Nat.sub_zero,show tw x ds es L=0 by unfold tw; rw [uc hdL,uc heL,Int.mul_zero]; rfl]
   exact Int.zero_emod p
 cases hI with | mk e hi rd rep =>
 subst e
 have mG:=aH C hP (tw x ds es (L-i))
 refine ⟨QA,QB,λ y4 z4 ey ez tt=>?_,λ ei=>?_⟩
 · have hlt:i<L:=hy▸(List.getElem?_eq_some_iff.mp ey).1
   have fy:=gy i y4 ey
   have fz:=gz i z4 ez
   obtain ⟨k,hk,hk1,hk2⟩:∃ k,L-i=k+1∧L-1-i=k∧L-(i+1)=k:=⟨L-1-i,Lq.s8 (by assumption),rfl,by rw [Nat.sub_sub,Nat.add_comm 1]⟩
   rw [hk1] at fy fz
   rw [hk] at rep mG
   have y3:=qh hds k
   have z3:=qh hes k
   refine sZ (Ex O tt) C hs mG rep (bN.of rd.x hp) (bN.of rd.y hp) rd.z (bN.of ha hp) λ x4 y5 z5 CZ rep2=>?_
   rw [d9 C hP] at rep2
   have tZ:=aH C hP (2*tw x ds es (k+1))
   have step:=A2 x ds es k
   have wC:∀ (A B x' y' z':Int),y4=A→z4=B→(A≠0∨B≠0)→Rep p x' y' z' (mul p a (A+x*B) (some P))→bN 1000 x'→bN 1000 y'→(0≤z'∧z'<p) →
    ai (U (bs.hide tt)) (d+8) (.cst (.ref az)) [.inst ah n,.int x4,.int y5,.int z5,.int x',.int y',.int z',.int p] s (λ v s'=>d3 v λ X Y Z=>Qy p a (some P) x ds es L s X Y Z (i+1) s'):=λ A B x' y' z' eA eB hne hr b1 b2 bz=>by
    have Of:=aH C hP (A+x*B)
    refine qR (Ex O tt) C hs tZ Of rep2 hr (bN.of CZ.x hp) (bN.of CZ.y hp) b1 b2 (bN.of ha hp) CZ.z bz (λ e1 e2 hx hy=>?_) λ x3 y3 z3 GW rep3=>⟨rfl,hlt,GW,?_⟩
    · exfalso
      rw [e1] at rep2
      rw [e2] at hr
      have e3:=ua C tZ Of rep2 hr hx hy
      rw [Od.eq C hP od,← eA,← eB,fy,fz] at e3
      refine nc k (by rw [← fy,← fz,eA,eB]; exact hne) (λ h0=>?_) e3
      rw [(od.dvd C hP).mpr h0] at rep2
      have h1:(1:Int)%p=0:=rep2
      rw [Int.emod_eq_of_lt (by decide) one.2] at h1
      cases h1
    · rw [← mul_add C hP,← eA,← eB,fy,fz,← step] at rep3
      rw [hk2]; exact rep3
   have rP:Rep p P.1 P.2 1 (some P):=eZ C
   have rR:Rep p R.1 R.2 1 (some R):=eZ C
   have bu:=bN.of hP.1 hp
   have bv:=bN.of hP.2.1 hp
   have Og:=bN.of CL.1 hp
   have Oh:=bN.of CL.2.1 hp
   have b1:=bN.of dm.x hp
   have b2:=bN.of dm.y hp
   have b3:=bN.of dp.x hp
   have b4:=bN.of dp.y hp
   have neg:∀ {k:Int} {X Y Z:Int},Rep p X Y Z (mul p a k (some P))→Rep p X (-Y) Z (mul p a (-k) (some P)):=λ {k X Y Z} r=>by
    rw [mul_neg C hP]; exact fW C (aH C hP k) r
   have fit:∀ {k k' X Y Z:Int},k=k'→Rep p X Y Z (mul p a k (some P))→Rep p X Y Z (mul p a k' (some P)):=λ e r=>e▸r
   have QC:mul p a 1 (some P)=some P:=mul_one _
   have Il:Rep p P.1 P.2 1 (mul p a 1 (some P)):=by rw [QC]; exact rP
   have Sp:Rep p R.1 R.2 1 (mul p a x (some P)):=by rw [← hR]; exact rR
   refine ⟨λ f1=>⟨λ f2=>?_,λ f2=>⟨λ f3=>?_,λ f3=>⟨λ f4=>?_,λ f4=>?_⟩⟩⟩,λ f1=>⟨λ f2=>⟨λ f3=>?_,λ f3=>⟨λ f4=>?_,λ f4=>⟨λ f5=>?_,λ f5=>?_⟩⟩⟩,λ f2=>⟨λ f3=>⟨λ f4=>?_,λ f4=>⟨λ f5=>?_,λ f5=>⟨λ f6=>?_,λ f6=>?_⟩⟩⟩,λ f3=>?_⟩⟩⟩
   · have g1:=of_decide_eq_true f1
     have g2:=of_decide_eq_true f2
     refine ⟨rfl,hlt,CZ,?_⟩
     rw [hk2,step,← fy,← fz,g1,g2,Int.mul_zero,Int.add_zero,Int.add_zero]
     exact rep2
   · exact wC 0 (-1) _ _ _ (of_decide_eq_true f1) (Lq.dn fz z3 f3) (.inr (by decide)) (fit (by lia) (neg Sp)) Og Oh.neg one
   · exact wC 0 1 _ _ _ (of_decide_eq_true f1) (Lq.dp fz z3 f4) (.inr (by decide)) (fit (by lia) Sp) Og Oh one
   · have g1:=of_decide_eq_false f2
     have g2:=of_decide_eq_false f3
     have g3:=of_decide_eq_false f4
     (clear g2 fz; exact of_decide_eq_false f2 (Lq.e (Lq.n (of_decide_eq_false f4)) (Lq.n (of_decide_eq_false f3))))
   · exact wC (-1) 0 _ _ _ (Lq.dn fy y3 f2) (of_decide_eq_true f3) (.inl (by decide)) (fit (by lia) (neg Il)) bu bv.neg one
   · exact wC (-1) (-1) _ _ _ (Lq.dn fy y3 f2) (Lq.dn fz z3 f4) (.inl (by decide)) (fit (by lia) rm) b1 b2 dm.z
   · exact wC (-1) 1 _ _ _ (Lq.dn fy y3 f2) (Lq.dp fz z3 f5) (.inl (by decide)) (fit (by lia) (neg rp)) b3 b4.neg dp.z
   · have g1:=of_decide_eq_false f3
     have g2:=of_decide_eq_false f4
     have g3:=of_decide_eq_false f5
     exact of_decide_eq_false f3 (Lq.e (Lq.n (of_decide_eq_false f5)) (Lq.n (of_decide_eq_false f4)))
   · exact wC 1 0 _ _ _ (Lq.dp fy y3 f3) (of_decide_eq_true f4) (.inl (by decide)) (fit (by lia) Il) bu bv one
   · exact wC 1 (-1) _ _ _ (Lq.dp fy y3 f3) (Lq.dn fz z3 f5) (.inl (by decide)) (fit (by lia) rp) b3 b4 dp.z
   · exact wC 1 1 _ _ _ (Lq.dp fy y3 f3) (Lq.dp fz z3 f6) (.inl (by decide)) (fit (by lia) (neg rm)) b1 b2.neg dm.z
   · have g1:=of_decide_eq_false f4
     have g2:=of_decide_eq_false f5
     have g3:=of_decide_eq_false f6
     exact of_decide_eq_false f4 (Lq.e (Lq.n (of_decide_eq_false f6)) (Lq.n (of_decide_eq_false f5)))
   · have g1:=of_decide_eq_false f1
     have g2:=of_decide_eq_false f2
     have g3:=of_decide_eq_false f3
     (clear g2 fy; exact of_decide_eq_false f1 (Lq.e (Lq.n (of_decide_eq_false f3)) (Lq.n (of_decide_eq_false f2))))
 · have e0:L-i=0:=by lia
   rw [e0] at rep mG
   refine ⟨λ h=>?_,λ h=>?_⟩
   · have e:Z=0:=nT h
     have e0:=dJ C mG rep (by rw [e]; exact Int.zero_emod p)
     refine q _ [] _ (by rw [List.append_nil]; exact H) ?_
     rw [e0]; exact rfl
   · have e:Z≠0:=nF h
     obtain ⟨S,hS⟩:=pY rep (by rw [gG rd.z]; exact e)
     rw [hS] at rep mG
     refine tP aY ⟨rfl,Bw aY rfl (wc O ⟨rfl,?_⟩)⟩
     have H3:=H.qd (o:=.int nn) (g:=false) mG rep rd
     rw [H.len]
     refine q _ _ _ (H.len▸H3) ?_
     rw [hS]
     exact ⟨_,false,rfl,by rw [List.getElem?_append_right (Nat.le_refl _),Nat.sub_self]; rfl,λ _=>rfl⟩
end
end
end
noncomputable section
section
variable {bs:Bs} {d:Nat} {σ:List AO} {Q:AV→List AO→Prop}
section
variable {c:Nat} {p a b:Int} {ω:List D}
theorem yH (H:Gd c p a b ω σ) (o:AO):(ω++[D.raw o])[σ.length]? = some (.raw o):=by rw [H.len]; exact bY ω _ []
theorem IB (k:Nat):(List.replicate k [AV.int 0]).flatten=(List.replicate k (0:Int)).map .int:=by
 induction k with
 | zero=>rfl
 | succ k ih=>rw [List.replicate_succ,List.flatten_cons,ih]; rfl
theorem GX.len {n:Nat} {P:Int×Int} {nn:Int} {g:Bool} {T:List (Int×Int)} (h5:g=true→T≠[]∧yt p a P (.int nn) T) (h6:g=false→T=[]):(T.map we).length≤1000000:=by
 rw [List.length_map]
 cases g with
 | false=>rw [h6 rfl]; exact Nat.zero_le _
 | true=>obtain ⟨_,_,_,_,_,h⟩:=h5 rfl; exact Lq.bZ h (by decide)
theorem GX.flag {g:Bool} {P:Int×Int} {nn:Int} {T:List (Int×Int)} (h5:g=true→T≠[]∧yt p a P (.int nn) T) (h6:g=false→T=[]):(!(T.map we).isEmpty)=g:=by
 cases g with
 | false=>rw [h6 rfl]; rfl
 | true=>cases T with
  | nil=>exact absurd rfl (h5 rfl).1
  | cons=>rfl
theorem KC {k n:Int} (h:(-k)%n=0):k%n=0:=Int.emod_eq_zero_of_dvd (Int.dvd_neg.mp (Int.dvd_of_emod_eq_zero h))
def QD (bs:Bs) (d n:Nat) (p a u v w u2 v2 w2 mx my mz px py pz:Int) (s8 s9:List AO) (B:AO) (Q:AV→List AO→Prop):Prop:=(aD (s8).length (s9++[B]) (λ sL=>(((sL).length≤1000000)∧(aD (s9).length (s9++[B]) (λ yR=>(((yR).length≤1000000)∧((((decide (((((sL).length:Nat):Int)<(((yR).length:Nat):Int))))=true)→(aD (s9).length ((s9++[B])++[(AO.lst [(.int (0:Int))])]) (λ C0=>(((C0).length≤1000000)∧(aD (s8).length ((s9++[B])++[(AO.lst [(.int (0:Int))])]) (λ C1=>(((C1).length≤1000000)∧(aD ((s9++[B])).length ((s9++[B])++[(AO.lst [(.int (0:Int))])]) (λ AJ=>((AJ≠[])∧((((AJ).length*(((((C0).length:Nat):Int)-(((C1).length:Nat):Int))).toNat)≤1000000)∧((((((C0).length:Nat):Int)-(((C1).length:Nat):Int))≤(1000000:Int))∧(((-(1000000:Int))≤((((C0).length:Nat):Int)-(((C1).length:Nat):Int)))∧(aD (((s9++[B])++[(AO.lst [(.int (0:Int))])])).length (((s9++[B])++[(AO.lst [(.int (0:Int))])])++[(AO.lst (List.replicate (((((C0).length:Nat):Int)-(((C1).length:Nat):Int))).toNat AJ).flatten)]) (λ E0=>(aD (s8).length (((s9++[B])++[(AO.lst [(.int (0:Int))])])++[(AO.lst (List.replicate (((((C0).length:Nat):Int)-(((C1).length:Nat):Int))).toNat AJ).flatten)]) (λ ys=>((((E0).length+(ys).length)≤1000000)∧(Pa bs d n ((((s9++[B])++[(AO.lst [(.int (0:Int))])])++[(AO.lst (List.replicate (((((C0).length:Nat):Int)-(((C1).length:Nat):Int))).toNat AJ).flatten)])).length (s9).length p a u v w u2 v2 w2 mx my mz px py pz ((((s9++[B])++[(AO.lst [(.int (0:Int))])])++[(AO.lst (List.replicate (((((C0).length:Nat):Int)-(((C1).length:Nat):Int))).toNat AJ).flatten)])++[(AO.lst (E0++ys))]) Q)))))))))))))))))))∧(((decide (((((sL).length:Nat):Int)<(((yR).length:Nat):Int))))=false)→(aD (s8).length (s9++[B]) (λ C0=>(((C0).length≤1000000)∧(aD (s9).length (s9++[B]) (λ C1=>(((C1).length≤1000000)∧((((decide (((((C1).length:Nat):Int)<(((C0).length:Nat):Int))))=true)→(aD (s8).length ((s9++[B])++[(AO.lst [(.int (0:Int))])]) (λ AJ=>(((AJ).length≤1000000)∧(aD (s9).length ((s9++[B])++[(AO.lst [(.int (0:Int))])]) (λ E0=>(((E0).length≤1000000)∧(aD ((s9++[B])).length ((s9++[B])++[(AO.lst [(.int (0:Int))])]) (λ CM=>((CM≠[])∧((((CM).length*(((((AJ).length:Nat):Int)-(((E0).length:Nat):Int))).toNat)≤1000000)∧((((((AJ).length:Nat):Int)-(((E0).length:Nat):Int))≤(1000000:Int))∧(((-(1000000:Int))≤((((AJ).length:Nat):Int)-(((E0).length:Nat):Int)))∧(aD (((s9++[B])++[(AO.lst [(.int (0:Int))])])).length (((s9++[B])++[(AO.lst [(.int (0:Int))])])++[(AO.lst (List.replicate (((((AJ).length:Nat):Int)-(((E0).length:Nat):Int))).toNat CM).flatten)]) (λ Oi=>(aD (s9).length (((s9++[B])++[(AO.lst [(.int (0:Int))])])++[(AO.lst (List.replicate (((((AJ).length:Nat):Int)-(((E0).length:Nat):Int))).toNat CM).flatten)]) (λ ys=>((((Oi).length+(ys).length)≤1000000)∧(Pa bs d n (s8).length ((((s9++[B])++[(AO.lst [(.int (0:Int))])])++[(AO.lst (List.replicate (((((AJ).length:Nat):Int)-(((E0).length:Nat):Int))).toNat CM).flatten)])).length p a u v w u2 v2 w2 mx my mz px py pz ((((s9++[B])++[(AO.lst [(.int (0:Int))])])++[(AO.lst (List.replicate (((((AJ).length:Nat):Int)-(((E0).length:Nat):Int))).toNat CM).flatten)])++[(AO.lst (Oi++ys))]) Q)))))))))))))))))))∧(((decide (((((C1).length:Nat):Int)<(((C0).length:Nat):Int))))=false)→(Pa bs d n (s8).length (s9).length p a u v w u2 v2 w2 mx my mz px py pz (s9++[B]) Q)))))))))))))))))
def QE (bs:Bs) (d n m:Nat) (i j:Int) (σ:List AO) (Q:AV→List AO→Prop):Prop:=(aL n "_PointJacobi__order" σ (λ v4=>(dI v4 (λ i3=>(bw (U bs) (d+8) (.int i3) σ (λ a2=>(λ a3=>((a2=true)∧(aL n "_PointJacobi__order" a3 (λ v5=>(dI v5 (λ i4=>(((0:Int)<i4)∧(∀ r:Int,((r=(i%i4))→(((0:Int)≤r)→((r<i4)→(aL n "_PointJacobi__order" a3 (λ v6=>(dI v6 (λ i5=>(((0:Int)<i5)∧(∀ r1:Int,((r1=(j%i5))→(((0:Int)≤r1)→((r1<i5)→(aL n "_PointJacobi__curve" a3 (λ v7=>(dO au v7 (λ i6=>((aC i6 "p" a3)∧(ai (U bs) (d+8) (.cst (.ref gS)) [(.inst au i6)] a3 (λ v8=>(λ s2=>(dI v8 (λ i7=>(aL n "_PointJacobi__curve" s2 (λ v9=>(dO au v9 (λ i8=>((aC i8 "a" s2)∧(ai (U bs) (d+8) (.cst (.ref gU)) [(.inst au i8)] s2 (λ v10=>(λ s3=>(dI v10 (λ i9=>((aC n "scale" s3)∧(ai (U bs) (d+8) (.cst (.ref bE)) [(.inst ah n)] s3 (λ v11=>(λ s4=>(dO ah v11 (λ tY=>(aL n "_PointJacobi__coords" s4 (λ Ob=>(d3 Ob (λ x=>(λ y=>(λ z=>((aC m "scale" s4)∧(ai (U bs) (d+8) (.cst (.ref bE)) [(.inst ah m)] s4 (λ Kz=>(λ s5=>(dO ah Kz (λ Iw=>(aL m "_PointJacobi__coords" s5 (λ Qv=>(d3 Qv (λ x1=>(λ y1=>(λ z1=>((aC n "_double" s5)∧((aC n "_add" s5)∧(ai (U bs) (d+8) (.cst (.ref az)) [(.inst ah n),(.int x),(.int (-y)),(.int z),(.int x1),(.int (-y1)),(.int z1),(.int i7)] s5 (λ Ug=>(λ s6=>(d3 Ug (λ x2=>(λ y2=>(λ z2=>(ai (U bs) (d+8) (.cst (.ref az)) [(.inst ah n),(.int x),(.int y),(.int z),(.int x1),(.int (-y1)),(.int z1),(.int i7)] s6 (λ Uh=>(λ s7=>(d3 Uh (λ x3=>(λ y3=>(λ z3=>((((!(decide ((z2≠(0:Int)))))=true)→(aV (U bs) (d+8) .Mult (.inst ah n) (.int r) s7 (λ a4=>(λ aa=>(aV (U bs) (d+8) .Mult (.inst ah m) (.int r1) aa (λ b=>(λ aj=>(aV (U bs) (d+8) .Add a4 b aj (λ QG=>(λ s8=>(Q QG s8)))))))))))∧(((!(decide ((z2≠(0:Int)))))=false)→((aC n "_naf" s7)∧(ai (U bs) (d+8) (.cst (.ref bS)) [(.int r)] s7 (λ QG=>(λ s8=>(dL QG (λ i12=>(aD i12 s8 (λ yv=>(((yv).length≤1000000)∧((aC n "_naf" (s8++[(AO.lst (yv).reverse)]))∧(ai (U bs) (d+8) (.cst (.ref bS)) [(.int r1)] (s8++[(AO.lst (yv).reverse)]) (λ Ui=>(λ s9=>(dL Ui (λ Lc=>(aD Lc s9 (λ qV=>(((qV).length≤1000000)∧(QD bs d n i7 i9 x y z x1 y1 z1 x2 y2 z2 x3 y3 z3 s8 s9 (AO.lst (qV).reverse) Q)))))))))))))))))))))))))))))))))))))))))))))))))))))))))))))))))))))))))))))))))))))))))))))))))))))))))))
theorem IC {δ:List D} {t:List AO} (H:Gd c p a b (ω++δ) t) (o1 o2 o3:AO):Gd c p a b (ω++(δ++[.raw o1,.raw o2,.raw o3])) (t++[o1]++[o2]++[o3])∧(ω++(δ++[D.raw o1,.raw o2,.raw o3]))[(t++[o1]++[o2]).length]? = some (.raw o3)∧∀ (k:Nat) x,(ω++δ)[k]? = some x→(ω++(δ++[D.raw o1,.raw o2,.raw o3]))[k]? = some x:=by
 have e:ω++(δ++[D.raw o1,.raw o2,.raw o3])=ω++δ++[D.raw o1]++[.raw o2]++[.raw o3]:=by rw [List.append_assoc,List.append_assoc,List.append_assoc]; rfl
 rw [e]
 exact ⟨((H.bg o1).bg o2).bg o3,yH ((H.bg o1).bg o2) o3,λ k x h=>ak (ak (ak h _) _) _⟩
theorem KD (O:(U bs).Ok) (C:Cv p a b) (ha:0≤a∧a<p) {s4:List AO} (H4:Gd c p a b ω s4) {n:Nat} {P R:Int×Int} {nn x m1 m2:Int} {g1:Bool} (hn:ω[n]? = some (.pj P (.int nn) g1)) (hP:On p a b (some P)) (od:Od p a nn (some P)) (hnb:nn≤1000)
 {ds es:List Int} (hds:eW m1 ds) (hes:eW m2 es) (l1:ds.length≤1000) (l2:es.length≤1000) (nc:tH nn x ds es) (hR:some R=mul p a x (some P)) {mx my mz px py pz:Int} (rm:Rep p mx my mz (mul p a (-(1+x)) (some P))) (dm:Rd p mx my mz) (rp:Rep p px py pz (mul p a (1-x) (some P))) (dp:Rd p px py pz)
 (q:∀ v δ σ',Gd c p a b (ω++δ) σ'→Den (ω++δ) (.int nn) (mul p a (m1+x*m2) (some P)) v→Q v σ') :
 QD bs d n p a P.1 P.2 1 R.1 R.2 1 mx my mz px py pz (s4++[AO.lst (ds.map .int)]) (s4++[AO.lst (ds.map .int)]++[AO.lst (ds.map AV.int).reverse]++[AO.lst (es.map .int)]) (AO.lst (es.map AV.int).reverse) Q:=by
 have e0:tw x ds es 0=m1+x*m2:=by unfold tw; rw [List.drop_zero,List.drop_zero,hds.val,hes.val]
 unfold QD
 have H5:=(((H4.bg (AO.lst (ds.map .int))).bg (AO.lst (ds.map AV.int).reverse)).bg (AO.lst (es.map .int))).bg (AO.lst (es.map AV.int).reverse)
 have hA:=aI (aI (getLast (s4++[AO.lst (ds.map .int)]) (AO.lst (ds.map AV.int).reverse)) [AO.lst (es.map .int)]) [AO.lst (es.map AV.int).reverse]
 have hB:=getLast (s4++[AO.lst (ds.map .int)]++[AO.lst (ds.map AV.int).reverse]++[AO.lst (es.map .int)]) (AO.lst (es.map AV.int).reverse)
 have wA:=ak (ak (yH (H4.bg (AO.lst (ds.map .int))) (AO.lst (ds.map AV.int).reverse)) [.raw (AO.lst (es.map .int))]) [.raw (AO.lst (es.map AV.int).reverse)]
 have wB:=yH (((H4.bg (AO.lst (ds.map .int))).bg (AO.lst (ds.map AV.int).reverse)).bg (AO.lst (es.map .int))) (AO.lst (es.map AV.int).reverse)
 rw [List.append_assoc ω,List.append_assoc ω,List.append_assoc ω] at H5 wA wB
 generalize (s4++[AO.lst (ds.map .int)]++[AO.lst (ds.map AV.int).reverse]++[AO.lst (es.map .int)]).length=lb at hB wB ⊢
 generalize (s4++[AO.lst (ds.map .int)]).length=la at hA wA ⊢
 generalize s4++[AO.lst (ds.map .int)]++[AO.lst (ds.map AV.int).reverse]++[AO.lst (es.map .int)]++[AO.lst (es.map AV.int).reverse]=t5 at H5 hA hB ⊢
 generalize [D.raw (AO.lst (ds.map .int))]++[.raw (AO.lst (ds.map AV.int).reverse)]++[.raw (AO.lst (es.map .int))]++[.raw (AO.lst (es.map AV.int).reverse)]=δ5 at H5 wA wB
 have zz:=λ {δ':List D} {s':List AO} (H':Gd c p a b (ω++δ') s') (ys zs:List Int) {l1 l2:Nat} (L:Nat) hl1 hl2 hy hz hdL heL gy gz=>Qz (d:=d) (ds:=ds) (es:=es) (ys:=ys) (zs:=zs) (l1:=l1) (l2:=l2) (L:=L) O C ha H' (ak hn δ') hP od hds hes hl1 hl2 hy hz hdL heL gy gz nc hR rm dm rp dp (λ v QH QI Uj dn=>q v (δ'++QH) QI (by rw [← List.append_assoc]; exact Uj) (by rw [← List.append_assoc,← e0]; exact dn))
 have kA:(ds.map AV.int).reverse.length=ds.length:=by rw [List.length_reverse,List.length_map]
 have kB:(es.map AV.int).reverse.length=es.length:=by rw [List.length_reverse,List.length_map]
 have ez:∀ (k:Nat) (ls:List Int),(List.replicate k [AV.int 0]).flatten++(ls.map AV.int).reverse=(List.replicate k 0++ls.reverse).map AV.int:=λ k ls=>by rw [IB,List.map_append,List.map_reverse]
 have er:∀ ls:List Int,(ls.map AV.int).reverse=ls.reverse.map AV.int:=λ ls=>by rw [List.map_reverse]
 have l0:∀ k:Nat,(List.replicate k [AV.int 0]).flatten.length=k:=λ k=>by rw [IB,List.length_map,List.length_replicate]
 have gr:∀ {ls:List Int} (i:Nat) y,ls.reverse[i]? = some y→y=qL ls (ls.length-1-i):=λ {ls} i y h=>by
  have:=xR (n:=0) (ds:=ls) h
  rw [Nat.zero_add] at this
  exact this
 refine ⟨_,hA,by rw [kA]; exact Lq.bZ l1 (by decide),_,hB,by rw [kB]; exact Lq.bZ l2 (by decide),λ h=>?_,λ h=>⟨_,hA,by rw [kA]; exact Lq.bZ l1 (by decide),_,hB,by rw [kB]; (clear l1; exact Lq.bZ l2 (by decide)),λ h'=>?_,λ h'=>?_⟩⟩
 · have h:=of_decide_eq_true h
   rw [kA,kB] at h
   have H6:=IC H5 (.lst [.int 0]) (.lst (List.replicate (((es.map AV.int).reverse.length:Int)-((ds.map AV.int).reverse.length:Int)).toNat [AV.int 0]).flatten) (.lst ((List.replicate (((es.map AV.int).reverse.length:Int)-((ds.map AV.int).reverse.length:Int)).toNat [AV.int 0]).flatten++(ds.map AV.int).reverse))
   have hk:∃ k:Nat,(((es.map AV.int).reverse.length:Int)-((ds.map AV.int).reverse.length:Int)).toNat=k∧k+ds.length=es.length:=⟨_,rfl,by rw [kA,kB]; exact Lq.st (Lq.nw (Lq.us h))⟩
   obtain ⟨k,hk,hk2⟩:=hk
   refine ⟨_,aI hB _,by rw [kB]; exact Lq.bZ l2 (by decide),_,aI hA _,by rw [kA]; exact Lq.bZ l1 (by decide),_,getLast t5 _,List.cons_ne_nil _ _,?_,by rw [kA,kB]; lia,by rw [kA,kB]; (clear hk2 h; clear h kB; lia),_,getLast _ _,_,aI (aI hA _) _,?_,?_⟩
   · rw [hk]; show 1*k≤1000000; (clear hk h; clear h kA l1; lia)
   · rw [hk,l0,kA]; (clear hk h; clear h kA; exact Lq.bZ (Lq.bZ (Nat.le_of_eq hk2) l2) (by decide))
   · rw [hk] at H6 ⊢
     refine zz H6.1 (List.replicate k 0++ds.reverse) es.reverse es.length (H6.2.1.trans (by rw [ez])) ((H6.2.2 _ _ wB).trans (by rw [er])) ?_ (List.length_reverse ..) (Lq.nw (Lq.us h)) (Nat.le_refl _) (λ i y h=>?_) gr
     · rw [List.length_append,List.length_replicate,List.length_reverse]; exact hk2
     · have:=xR h
       rw [hk2] at this
       exact this
 · have h':=of_decide_eq_true h'
   rw [kA,kB] at h'
   have H6:=IC H5 (.lst [.int 0]) (.lst (List.replicate (((ds.map AV.int).reverse.length:Int)-((es.map AV.int).reverse.length:Int)).toNat [AV.int 0]).flatten) (.lst ((List.replicate (((ds.map AV.int).reverse.length:Int)-((es.map AV.int).reverse.length:Int)).toNat [AV.int 0]).flatten++(es.map AV.int).reverse))
   have hk:∃ k:Nat,(((ds.map AV.int).reverse.length:Int)-((es.map AV.int).reverse.length:Int)).toNat=k∧k+es.length=ds.length:=⟨_,rfl,by rw [kA,kB]; exact Lq.st (Lq.nw (Lq.us h'))⟩
   obtain ⟨k,hk,hk2⟩:=hk
   refine ⟨_,aI hA _,by rw [kA]; exact Lq.bZ l1 (by decide),_,aI hB _,by rw [kB]; (clear h'; clear h' l1; exact Lq.bZ l2 (by decide)),_,getLast t5 _,List.cons_ne_nil _ _,?_,by rw [kA,kB]; lia,by rw [kA,kB]; (clear hk2 h' kA l1; lia),_,getLast _ _,_,aI (aI hB _) _,?_,?_⟩
   · rw [hk]; show 1*k≤1000000; (clear hk h'; clear h' kB l2; lia)
   · rw [hk,l0,kB]; (clear hk h'; clear h' kB; exact Lq.bZ (Lq.bZ (Nat.le_of_eq hk2) l1) (by decide))
   · rw [hk] at H6 ⊢
     refine zz H6.1 ds.reverse (List.replicate k 0++es.reverse) ds.length ((H6.2.2 _ _ wA).trans (by rw [er])) (H6.2.1.trans (by rw [ez])) (List.length_reverse ..) ?_ (Nat.le_refl _) (Lq.nw (Lq.us h')) gr (λ i y h=>?_)
     · rw [List.length_append,List.length_replicate,List.length_reverse]; exact hk2
     · have:=xR h
       rw [hk2] at this
       exact this
 · have h:=of_decide_eq_false h
   have h':=of_decide_eq_false h'
   rw [kA,kB] at h h'
   have el:ds.length=es.length:=(Lq.ne (Lq.ul (Lq.n h')) (Lq.ul (Lq.n h)))
   exact zz H5 ds.reverse es.reverse es.length (wA.trans (by rw [er])) (wB.trans (by rw [er])) (by rw [List.length_reverse,el]) (List.length_reverse ..) (by (clear h' h; clear h; exact Nat.le_of_eq el)) (Nat.le_refl _) (λ i y h=>by have:=gr i y h; rw [el] at this; exact this) gr
theorem G3 {i j nn qi qj r r' x:Int} (h1:nn*qi+r=i) (h2:nn*qj+r'=j):r+x*r'-(i+j*x)=nn * -(qi+qj*x):=by
 subst h1 h2
 grind
theorem KG (O:(U bs).Ok) (C:Cv p a b) (ha:0≤a∧a<p) {s2:List AO} (H2:Gd c p a b ω s2) {n m k1 k2:Nat} {P R:Int×Int} {nn x x1 y1 z1 x2 y2 z2:Int} {g1 g2:Bool} (hn2:ω[n]? = some (.pj P (.int nn) g1)) (hm2:ω[m]? = some (.pj R (.int nn) g2))
 (od:Od p a nn (some P)) (G4:Od p a nn (some R)) (hodd:nn%2=1) (hn1:1<nn) (hnb:nn≤1000) (e1:s2[n]? = some (.inst (fh c x1 y1 z1 (.int nn) g1 k1))) (e2:s2[m]? = some (.inst (fh c x2 y2 z2 (.int nn) g2 k2)))
 (hP:On p a b (some P)) (CL:On p a b (some R)) (hr1:Rep p x1 y1 z1 (some P)) (hd1:Rd p x1 y1 z1) (hr2:Rep p x2 y2 z2 (some R)) (hd2:Rd p x2 y2 z2) (hR:some R=mul p a x (some P)) {i j:Int} (hb:(1+x)%nn=0→CJ nn (i%nn) (.int nn) g1∧CJ nn (j%nn) (.int nn) g2)
 (Uk:(1+x)%nn≠0→∀ ds es,eW (i%nn) ds→eW (j%nn) es→tH nn x ds es)
 (q:∀ v δ σ',Gd c p a b (ω++δ) σ'→Den (ω++δ) (.int nn) (mul p a (i+j*x) (some P)) v→Q v σ'):QE bs d n m i j s2 Q:=by
 have Hp:=C.pos
 have hp:=C.hp
 have wm:=H2.sF
 have Ul:=yw e1 wm
 have Um:=yw e2 wm
 have one:(0:Int)≤1∧1<p:=by have:=C.lo; lia
 refine Bw e1 rfl (bw.int ⟨decide_eq_true (Lq.y (Lq.ls (by decide) hn1)),Bw e1 rfl ⟨(Lq.ls (by decide) hn1),λ r er r0 r1=>Bw e1 rfl ⟨(Lq.ls (by decide) hn1),λ r' KH Un r1'=>tP e1 ⟨rfl,aN wm (by kernel_rfl),bW O wm (tP e1 ⟨rfl,aN wm (by kernel_rfl),cT O wm ⟨aN e1 (by kernel_rfl),sD O C e1 wm hP hr1 hd1 ⟨rfl,?_⟩⟩⟩)⟩⟩⟩⟩)
 have H3:=H2.scaled C hn2 e1
 have Oj:=getSet (o':=AO.inst (fh c P.1 P.2 1 (.int nn) g1 k1)) e1
 have KI:=bq (o':=AO.inst (fh c P.1 P.2 1 (.int nn) g1 k1)) wm Ul
 have alias:∃ x2 y2 z2 k2 K6,(s2.set n (.inst (fh c P.1 P.2 1 (.int nn) g1 k1)))[m]? = some (.inst (fh c x2 y2 z2 (.int nn) g2 k2))∧Rep p x2 y2 z2 (some R)∧Rd p x2 y2 z2∧((s2.set n (.inst (fh c P.1 P.2 1 (.int nn) g1 k1))).set m (.inst (fh c R.1 R.2 1 (.int nn) g2 k2)))[n]? = some (.inst (fh c P.1 P.2 1 (.int nn) g1 K6)):=by
  by_cases hnm:n=m
  · subst hnm
    rw [hn2] at hm2
    cases hm2
    exact ⟨_,_,_,k1,k1,Oj,eZ C,⟨⟨hP.1.1,hP.1.2⟩,⟨hP.2.1.1,hP.2.1.2⟩,one⟩,getSet Oj⟩
  · exact ⟨x2,y2,z2,k2,k1,bq e2 hnm,hr2,hd2,bq Oj (Ne.symm hnm)⟩
 generalize s2.set n (.inst (fh c P.1 P.2 1 (.int nn) g1 k1))=s3 at H3 Oj alias KI ⊢
 clear hr2 hd2
 obtain ⟨x2,y2,z2,k2,K6,Pb,hr2,hd2,Ld⟩:=alias
 refine Bv Oj ⟨aN Pb (by kernel_rfl),sD O C Pb KI CL hr2 hd2 ⟨rfl,?_⟩⟩
 have H4:=H3.scaled C hm2 Pb
 have Sq:=getSet (o':=AO.inst (fh c R.1 R.2 1 (.int nn) g2 k2)) Pb
 have Ol:=bq (o':=AO.inst (fh c R.1 R.2 1 (.int nn) g2 k2)) KI Um
 generalize s3.set m (.inst (fh c R.1 R.2 1 (.int nn) g2 k2))=s4 at H4 Ld Sq Ol ⊢
 have hs:Ck s4 n p a b:=⟨c,P.1,P.2,1,.int nn,g1,K6,Ld,Ol⟩
 have rP:Rep p P.1 P.2 1 (mul p a 1 (some P)):=eZ C
 have rR:Rep p R.1 R.2 1 (some R):=eZ C
 have Uo:Rep p P.1 (-P.2) 1 (mul p a (-1) (some P)):=by rw [mul_neg C hP]; exact fW C (aH C hP 1) rP
 have QJ:Rep p R.1 (-R.2) 1 (mul p a (-x) (some P)):=by rw [mul_neg C hP,← hR]; exact fW C CL rR
 have bu:=bN.of hP.1 hp
 have bv:=bN.of hP.2.1 hp
 have Og:=bN.of CL.1 hp
 have Oh:=bN.of CL.2.1 hp
 have ba:=bN.of ha hp
 have o1:=aH C hP 1
 have om:=aH C hP (-1)
 have ox:=aH C hP (-x)
 refine Bv Sq ⟨aN Ld (by kernel_rfl),aN Ld (by kernel_rfl),qR O C hs om ox Uo QJ bu bv.neg Og Oh.neg ba one one (λ _ _ hx hy=>?_) λ mx my mz dm rm=>BA O C hs o1 ox rP QJ bu bv Og Oh.neg ba one one λ px py pz dp Su=>?_⟩
 · have f1:=Int.emod_eq_emod_iff_emod_sub_eq_zero.mpr hx
   rw [gG hP.1,gG CL.1] at f1
   have f2:=Int.emod_eq_emod_iff_emod_sub_eq_zero.mpr (show (P.2-R.2)%p=0 by rw [← hy]; congr 1; (clear hx hy f1; lia))
   rw [gG hP.2.1,gG CL.2.1] at f2
   exact ⟨f1.symm,congrArg _ f2⟩
 rw [← mul_add C hP] at rm
 have e4:mul p a (r+x*r') (some P)=mul p a (i+j*x) (some P):=(od.eq C hP).mpr (by
  have e6:=Int.mul_ediv_add_emod i nn
  have e7:=Int.mul_ediv_add_emod j nn
  rw [← er] at e6
  rw [← KH] at e7
  exact Int.emod_eq_zero_of_dvd ⟨-(i / nn+j / nn*x),G3 e6 e7⟩)
 refine ⟨λ h=>?_,λ h=>?_⟩
 · have e3:=dJ C (aH C hP _) rm (by rw [nT h]; exact Int.zero_emod p)
   rw [od.dvd C hP] at e3
   obtain ⟨b1,b2⟩:=hb (KC (by rw [← e3]; congr 1; (clear e3 er KH e4; lia)))
   rw [← er] at b1
   rw [← KH] at b2
   clear e3 rm Su
   refine G1 O C ha H4 hn2 od hodd hn1 hnb b1 λ v δ3 s5 H5 D3=>G1 O C ha H5 (ak hm2 _) G4 hodd hn1 hnb b2 λ w δ4 s6 H6 D4=>AF O C ha H6 (D3.mono δ4) D4 rfl λ u δ5 s7 H7 D5=>⟨D5.ni,q u (δ3++δ4++δ5) s7 (by rw [← List.append_assoc,← List.append_assoc]; exact H7) ?_⟩
   rw [hR,← bF C hP,← mul_add C hP,Int.mul_comm r' x,e4] at D5
   rw [← List.append_assoc,← List.append_assoc]
   exact D5
 have QK:(1+x)%nn≠0:=λ e=>by
  have e3:=(od.dvd C hP (k:=-1 + -x)).mpr (by
   have:=Int.emod_eq_zero_of_dvd (Int.dvd_neg.mpr (Int.dvd_of_emod_eq_zero e))
   rw [← this]; congr 1; (clear this er KH e e4; lia))
  rw [e3] at rm
  have e5:mz%p=0:=rm
  rw [gG dm.z] at e5
  exact nF h e5
 have rp:=Su λ _ _ hx hy=>by
  exfalso
  have e3:=ua C o1 ox rP QJ hx hy
  rw [Od.eq C hP od] at e3
  exact QK (by rw [← e3]; congr 1; (clear e3 QK er KH e4; lia))
 refine ⟨aN Ld (by kernel_rfl),Aw O (Lq.ab r0 (Lq.w (Lq.sl (Lq.sl r1 hnb) (by decide)))) λ ds hds=>?_⟩
 rw [← mul_add C hP] at rp
 have fit:∀ {k k' X Y Z:Int},k=k'→Rep p X Y Z (mul p a k (some P))→Rep p X Y Z (mul p a k' (some P)):=λ e r=>e▸r
 have rm:=fit (k':=-(1+x)) (by lia) rm
 have rp:=fit (k':=1-x) (by lia) rp
 have ld:=hds.len
 refine ⟨_,getLast s4 _,by rw [List.length_map]; (clear er hodd; lia),aN (aI (aI Ld _) _) (by kernel_rfl),Aw O (Lq.ab Un (Lq.w (Lq.sl (Lq.sl r1' hnb) (by decide)))) λ es hes=>⟨_,getLast _ _,by rw [List.length_map]; have:=hes.len; (clear KH hodd; lia),?_⟩⟩
 have le:=hes.len
 refine KD O C ha H4 hn2 hP od hnb hds hes (by (clear er hodd; lia)) (by lia) (Uk QK ds es (er▸hds) (KH▸hes)) hR rm dm rp dp λ v δ σ' K D=>q v δ σ' K ?_
 rw [← e4]; exact D
def E1 (n:Nat) (s1:List AO) (m:Nat) (bs:Bs) (d:Nat) (i:Int) (j:Int) (Q:AV→List AO→Prop):Prop:=aL n "_PointJacobi__precompute" s1 λ v2=>dL v2 λ i1=>aD i1 s1 λ xs=>xs.length≤1000000∧((!xs.isEmpty)=true→aL m "_PointJacobi__precompute" s1 λ v3=>dL v3 λ i2=>aD i2 s1 λ dF=>dF.length≤1000000∧((!dF.isEmpty)=true→aV (U bs) (d+8) .Mult (.inst 313 n) (.int i) s1 λ a2 aa=>aV (U bs) (d+8) .Mult (.inst 313 m) (.int j) aa λ b aj=>aV (U bs) (d+8) .Add a2 b aj λ v4 s2=>Q v4 s2)∧((!dF.isEmpty)=false→QE bs d n m i j s1 Q))∧((!xs.isEmpty)=false→QE bs d n m i j s1 Q)
def E2 (a:AV) (j:Int) (bs:Bs) (d:Nat) (n:Nat) (i:Int) (a1:List AO) (Q:AV→List AO→Prop) (m:Nat):Prop:=a=(.bool false)∧((decide (j=0))=true→aV (U bs) (d+8) .Mult (.inst 313 n) (.int i) a1 λ a2 aa=>Q a2 aa)∧((decide (j=0))=false→((decide (i=0))=true→aV (U bs) (d+8) .Mult (.inst 313 m) (.int j) a1 λ a2 aa=>Q a2 aa)∧((decide (i=0))=false→aC n "_maybe_precompute" a1∧ai (U bs) (d+8) (.cst (.ref 138)) [.inst 313 n] a1 λ v s=>aC m "_maybe_precompute" s∧ai (U bs) (d+8) (.cst (.ref 138)) [.inst 313 m] s λ v1 s1=>E1 n s1 m bs d i j Q))
theorem zK (O:(U bs).Ok) (C:Cv p a b) (ha:0≤a∧a<p) (H:Gd c p a b ω σ) {n m:Nat} {P R:Int×Int} {nn x:Int} {g1 g2:Bool} (hn:ω[n]? = some (.pj P (.int nn) g1)) (hm:ω[m]? = some (.pj R (.int nn) g2))
 (od:Od p a nn (some P)) (G4:Od p a nn (some R)) (hodd:nn%2=1) (hn1:1<nn) (hnb:nn≤1000) (hR:some R=mul p a x (some P)) {i j:Int} (hi:i≠0) (hj:j≠0)
 (hb:(g1&&g2)=false→(1+x)%nn=0→CJ nn (i%nn) (.int nn) g1∧CJ nn (j%nn) (.int nn) g2)
 (hc:(g1&&g2)=false→(1+x)%nn≠0→∀ ds es,eW (i%nn) ds→eW (j%nn) es→tH nn x ds es)
 (q:∀ v δ σ',Gd c p a b (ω++δ) σ'→Den (ω++δ) (.int nn) (mul p a (i+j*x) (some P)) v→Q v σ'):ai (U bs) (d+9) (.cst (.ref bP)) [.inst ah n,.int i,.inst ah m,.int j] σ Q :=
 ai.of O (T:=EA) (by kernel_rfl) (by kernel_rfl) λ L=>Eq.mp (α:=aA (U bs) (d+8) .Eq (.inst 313 m) (.cst (.ref 414)) σ λ a a1=>E2 a j bs d n i a1 Q m) (by kernel_rfl) (by
  have Hp:=C.pos
  have hp:=C.hp
  refine aG λ G kG=>?_
  obtain ⟨x0,y0,z0,k0,T0,Ay,_,r0,_⟩:=H.pj hm
  refine kG ?_
  refine zJ O Ay (mj r0) ⟨rfl,λ e=>absurd (of_decide_eq_true e) hj,λ _=>⟨λ e=>absurd (of_decide_eq_true e) hi,λ _=>⟨H.BR hn (λ _ _ _ _=>by kernel_rfl),yG O C ha H hn od hodd hn1 hnb λ s1 δ1 H1 Uq M1=>⟨H1.BR (ak hm _) (λ _ _ _ _=>by kernel_rfl),yG O C ha H1 (ak hm _) G4 hodd hn1 hnb λ s2 δ2 H2 N9 M2=>?_⟩⟩⟩⟩
  refine aG λ G kG=>?_
  have M3:GX c p a b (ω++δ1++δ2) s2 n P nn g1:=by
   by_cases hnm:n=m
   · subst hnm
     rw [hn] at hm
     cases hm
     exact M2
   · obtain ⟨x1,y1,z1,k1,T1,e1,hP,hr1,hd1,ht1,h5,h6⟩:=M1
     exact ⟨x1,y1,z1,k1,T1,N9 n _ hnm e1,hP,hr1,hd1,ak ht1 δ2,h5,h6⟩
  obtain ⟨x1,y1,z1,k1,T1,e1,hP,hr1,hd1,ht1,h5,h6⟩:=M3
  obtain ⟨x2,y2,z2,k2,T2,e2,CL,hr2,hd2,Sv,g5,g6⟩:=M2
  refine kG ?_
  rw [List.append_assoc] at H2 ht1 Sv
  have hn2:=ak hn (δ1++δ2)
  have hm2:=ak hm (δ1++δ2)
  have f1:=GX.flag h5 h6
  have f2:=GX.flag g5 g6
  have fin:∀ {v δ σ'},Gd c p a b (ω++(δ1++δ2)++δ) σ'→Den (ω++(δ1++δ2)++δ) (.int nn) (mul p a (i+j*x) (some P)) v→Q v σ':=λ {v δ σ'} K D=>q v (δ1++δ2++δ) σ' (by rw [← List.append_assoc]; exact K) (by rw [← List.append_assoc]; exact D)
  clear Uq N9 H1 M1
  generalize hδ:δ1++δ2=δ at *
  refine (λ tail=>La e1 ⟨_,H2.tab ht1,GX.len (n:=0) h5 h6,λ h=>La e2 ⟨_,H2.tab Sv,GX.len (n:=0) g5 g6,λ h'=>?_,λ h'=>tail (by rw [← f2,h']; exact Bool.and_false _)⟩,λ h=>tail (by rw [← f1,h]; rfl)⟩:((g1&&g2)=false→_)→_) ?_
  · intro hg
    exact KG O C ha H2 hn2 hm2 od G4 hodd hn1 hnb e1 e2 hP CL hr1 hd1 hr2 hd2 hR (hb hg) (hc hg) λ v δ σ' K D=>fin K D
  · rw [f1] at h
    rw [f2] at h'
    subst h
    subst h'
    refine IA O C ha H2 hn2 od hodd hn1 hnb λ v δ3 s3 H3 D3=>IA O C ha H3 (ak hm2 _) G4 hodd hn1 hnb λ w δ4 s4 H4 D4=>AF O C ha H4 (D3.mono δ4) D4 rfl λ u δ5 s5 H5 D5=>⟨D5.ni,fin (δ:=δ3++δ4++δ5) (by rw [List.append_assoc,List.append_assoc,← List.append_assoc δ3] at H5; exact H5) ?_⟩
    rw [hR,← bF C hP,← mul_add C hP,List.append_assoc,List.append_assoc,← List.append_assoc δ3] at D5
    exact D5)
end
end
end
noncomputable section
section
variable {bs:Bs} {d:Nat} {σ:List AO} {Q:AV→List AO→Prop}
section
variable {k:AV→Prop}
theorem QL {p a:Int} {S:G} {s:List AO} {i:Int} (h:i=1∨i=-1) (q:k (cu (mul p a i S))):bf s.length (if decide (0<i)=true then (1:Int) else (0:Int)) (s++[AO.lst [cu (minus p S),cu S]]) k:=by
 rcases h with rfl | rfl
 · exact ⟨_,_,getLast _ _,by decide,by decide,rfl,q⟩
 · exact ⟨_,_,getLast _ _,by decide,by decide,rfl,q⟩
end
theorem QM {i:Int} (hi:i=0∨i=1∨i=-1) (h:i≠0):i=1∨i=-1:=hi.resolve_left h
def G5 (s:List AO) (i:Int) (v1:AV) (v:AV) (j:Int) (bs:Bs) (d:Nat) (p:Int) (w:AV) (a:Int) (Q:AV→List AO→Prop):Prop:=bf s.length (if ((decide (0<i))=true) then 1 else 0) (s++[AO.lst [v1,v]]) λ x=>((decide (j≠0))=true→ai (U bs) (d+4) (.cst (.ref 463)) [.int p,w] (s++[AO.lst [v1,v]]) λ v2 s1=>bf s1.length (if ((decide (0<j))=true) then 1 else 0) (s1++[AO.lst [v2,w]]) λ x1=>ai (U bs) (d+4) (.cst (.ref 456)) [.int p,.int a,x,x1] (s1++[AO.lst [v2,w]]) λ v3 s2=>Q v3 s2)∧((decide (j≠0))=false→Q x (s++[AO.lst [v1,v]]))
theorem E3 (O:(U bs).Ok) {p a b:Int} (C:Cv p a b) (ha:0≤a∧a<p) {P R:G} {v w:AV} (hv:v=cu P) (hw:w=cu R) (hP:On p a b P) (hR:On p a b R) {i j:Int} (hi:i=0∨i=1∨i=-1) (hj:j=0∨j=1∨j=-1)
 (q:∀ δ,Q (cu (plus p a (mul p a i P) (mul p a j R))) (σ++δ)):ai (U bs) (d+5) (.cst (.ref tM)) [.int p,.int a,v,w,.int i,.int j] σ Q :=
 ai.of O (T:=T0) (by kernel_rfl) (by kernel_rfl) λ L=>Eq.mp (α:=((decide (i≠0))=true→ai (U bs) (d+4) (.cst (.ref 463)) [.int p,v] σ λ v1 s=>G5 s i v1 v j bs d p w a Q)∧((decide (i≠0))=false→((decide (j≠0))=true→ai (U bs) (d+4) (.cst (.ref 463)) [.int p,w] σ λ v1 s=>bf s.length (if ((decide (0<j))=true) then 1 else 0) (s++[AO.lst [v1,w]]) λ x=>ai (U bs) (d+4) (.cst (.ref 456)) [.int p,.int a,.none,x] (s++[AO.lst [v1,w]]) λ v2 s1=>Q v2 s1)∧((decide (j≠0))=false→Q .none σ))) (by kernel_rfl) (by
  subst hv hw
  refine ⟨λ h=>lF O C (QL (a:=a) (QM hi (of_decide_eq_true h)) ⟨λ h'=>lF O C (QL (a:=a) (QM hj (of_decide_eq_true h')) (c9 O C ha (aH C hP _) (aH C hR _) ?_)),λ h'=>?_⟩),λ h=>⟨λ h'=>lF O C (QL (a:=a) (QM hj (of_decide_eq_true h')) ?_),λ h'=>?_⟩⟩
  · have:=q ([.lst [cu (minus p P),cu P]]++[.lst [cu (minus p R),cu R]])
    rw [← List.append_assoc] at this
    exact this
  · have e:j=0:=by have:=of_decide_eq_false h'; exact Classical.byContradiction (of_decide_eq_false h')
    have:=q [.lst [cu (minus p P),cu P]]
    rw [e,show mul p a 0 R=none from rfl,cR] at this
    exact this
  · have e:i=0:=by have:=of_decide_eq_false h; exact Classical.byContradiction (of_decide_eq_false h)
    have:=q [.lst [cu (minus p R),cu R]]
    rw [e,show mul p a 0 P=none from rfl,sP] at this
    exact c9 O C ha (P:=none) trivial (aH C hR _) (by rw [sP]; exact this)
  · have e:i=0:=by have:=of_decide_eq_false h; exact Classical.byContradiction (of_decide_eq_false h)
    have e':j=0:=by have:=of_decide_eq_false h'; exact Classical.byContradiction (of_decide_eq_false h')
    have:=q []
    rw [e,e',List.append_nil] at this
    exact this)
noncomputable def dj:G→PyData
 | none=>.none
 | some P=>.tuple [.int P.1,.int P.2]
theorem BH (S:G):sC (cu S)=some (dj S):=by cases S<;>rfl
theorem Ur (S:G):PySem.SeqAt.shaped (dj S)=true:=by cases S<;>rfl
theorem Om (S T:G):PySem.SeqAt.noMix (dj S) (dj T)=true:=by cases S<;>cases T<;>rfl
theorem Us (hd:3≤d) {T S S':G} (q:∀ c,(c=false→T≠S)→Q (.bool c) (σ++[.lst [cu S,cu S']])):aA (U bs) d .In (cu T) (.lst σ.length) (σ++[.lst [cu S,cu S']]) Q:=by
 have hdat:wR (σ++[AO.lst [cu S,cu S']]) (.lst σ.length)=some (.list [dj S,dj S']):=by
  show (match (σ++[AO.lst [cu S,cu S']])[σ.length]? with
   | some (.lst xs)=>(match lY sC xs with | some ds=>some (PyData.list ds) | none=>none)
   | _=>none)=_
  rw [getLast]
  show (match lY sC [cu S,cu S'] with | some ds=>some (PyData.list ds) | none=>none)=_
  unfold lY lY lY
  rw [BH,BH]
 refine aA.inD hd (x:=dj T) (ys:=[dj S,dj S']) (BH T) hdat (by rw [Ur]; cases S<;>cases S'<;>rfl) (λ y hy=>?_) (q _ λ h e=>?_)
 · rcases List.mem_cons.mp hy with e | hy
   · rw [e]; exact Om _ _
   · rw [List.mem_singleton.mp hy]; exact Om _ _
 · subst e
   have h:=of_decide_eq_false h
   refine h ?_
   unfold PySem.Spec.countIn PySem.Spec.countIn PySem.Spec.countIn
   rw [if_pos (c:=PySem.Spec.same (dj T) (dj T)=true) (PySem.Spec.same_self _)]
   split<;>lia
theorem E4 (O:(U bs).Ok) {T:G} (q:Q (.bool T.isSome) σ):aA (U bs) d .IsNot (cu T) .none σ Q:=by
 cases T with
 | none=>exact aA.sS (eF (b:=true) rfl) q
 | some P=>exact aA.sS (eF (b:=false) rfl) q
end
end
noncomputable section
section
variable {bs:Bs} {d:Nat} {σ:List AO} {Q:AV→List AO→Prop}
theorem qq {ds:List Int} {k:Nat} (h:ds.length≤k):qL ds k=0:=by
 unfold qL
 rw [List.getElem?_eq_none h]; rfl
def Le (bs:Bs) (d:Nat) (p a:Int) (v w v3:AV) (j:Nat) (f g:Int) (s2:List AO) (I:AV→Nat→List AO→Prop) (Q:AV→List AO→Prop):Prop:=(((((decide ((f≠(0:Int))))||(decide ((g≠(0:Int)))))=true)→(ai (U bs) (d+5) (.cst (.ref tM)) [(.int p),(.int a),v,w,(.int f),(.int g)] s2 (λ v4=>(λ s3=>(aA (U bs) (d+5) .IsNot v3 .none s3 (λ a2=>(λ a3=>(dB a2 (λ c=>(((c=true)→(ai (U bs) (d+5) (.cst (.ref fT)) [(.int p),v4] a3 (λ v5=>(λ s4=>(aA (U bs) (d+5) .In v3 (.lst (s4).length) (s4++[(AO.lst [v4,v5])]) (λ a4=>(λ a5=>(dB a4 (λ c1=>(((c1=true)→(Q (.bool true) a5))∧((c1=false)→(ai (U bs) (d+5) (.cst (.ref bI)) [(.int p),(.int a),v3,v4] a5 (λ v6=>(λ s5=>(I v6 j s5)))))))))))))))∧((c=false)→(ai (U bs) (d+5) (.cst (.ref bI)) [(.int p),(.int a),v3,v4] a3 (λ v5=>(λ s4=>(I v5 j s4)))))))))))))))∧((((decide ((f≠(0:Int))))||(decide ((g≠(0:Int)))))=false)→(I v3 j s2)))
def Oo (nn x:Int) (ds es:List Int) (k:Nat):Prop:=qL ds k≠0∨qL es k≠0→(2*tw x ds es (k+1))%nn≠0→(2*tw x ds es (k+1)-(qL ds k+x*qL es k))%nn≠0
inductive QN (p a nn x:Int) (P:G) (ds es:List Int) (t:List AO) (v:AV) (k:Nat) (s:List AO):Prop
 | mk (δ:List AO) (e:s=t++δ) (ev:v=cu (mul p a (tw x ds es k) P)) (nc:∀ k',k≤k'→Oo nn x ds es k'):QN p a nn x P ds es t v k s
theorem QO {nn x:Int} {ds es:List Int} {j:Nat} (h0:Oo nn x ds es j) (h:∀ k',j+1≤k'→Oo nn x ds es k'):∀ k',j≤k'→Oo nn x ds es k':=λ k' hk=>by
 by_cases e:j=k'
 · rw [← e]; exact h0
 · exact h k' (Lq.Pj hk e)
theorem Oq (O:(U bs).Ok) {p a b:Int} (C:Cv p a b) (ha:0≤a∧a<p) {P R:Int×Int} {nn x m n:Int} (hP:On p a b (some P)) (od:Od p a nn (some P)) (hR:some R=mul p a x (some P)) {ds es:List Int} (hds:eW m ds) (hes:eW n es)
 {t δ:List AO} {j:Nat} {f g:Int} (hf:f=qL ds j) (hg:g=qL es j) (nc:∀ k',j+1≤k'→Oo nn x ds es k') {v w v3:AV} (hv:v=cu (some P)) (hw:w=cu (some R)) (KJ:v3=cu (mul p a (2*tw x ds es (j+1)) (some P))) (q:∀ δ,Q (.bool true) (t++δ)) :
 Le bs d p a v w v3 j f g (t++δ) (QN p a nn x (some P) ds es t) Q:=by
 have CL:On p a b (some R):=by rw [hR]; exact aH C hP _
 have step:=A2 x ds es j
 have y3:=qh hds j
 have z3:=qh hes j
 rw [← hf,← hg] at step
 rw [← hf] at y3
 rw [← hg] at z3
 have hT:=aH C hP (2*tw x ds es (j+1))
 have hS:=aH C hP (f+x*g)
 have eS:plus p a (mul p a f (some P)) (mul p a g (some R))=mul p a (f+x*g) (some P):=by rw [hR,← bF C hP,← mul_add C hP,Int.mul_comm g x]
 have eN:plus p a (mul p a (2*tw x ds es (j+1)) (some P)) (mul p a (f+x*g) (some P))=mul p a (tw x ds es j) (some P):=by rw [← mul_add C hP,← step]
 subst KJ
 unfold Le
 refine ⟨λ h=>E3 O C ha hv hw hP CL y3 z3 λ δ1=>E4 O ⟨λ hc=>?_,λ hc=>?_⟩,λ h=>?_⟩
 · rw [eS,List.append_assoc]
   refine lF O C (Us (by lia) λ c1 hc1=>⟨λ _=>by rw [List.append_assoc]; exact q _,λ h1=>c9 O C ha hT hS ⟨δ++δ1++[.lst [cu (mul p a (f+x*g) (some P)),cu (minus p (mul p a (f+x*g) (some P)))]],by simp only [List.append_assoc],by rw [eN],QO (λ _ _ e=>hc1 h1 ?_) nc⟩⟩)
   rw [od.eq C hP,hf,hg]
   exact e
 · rw [eS,List.append_assoc]
   refine c9 O C ha hT hS ⟨δ++δ1,rfl,by rw [eN],QO (λ _ h0=>absurd ((od.dvd C hP).mp ?_) h0) nc⟩
   cases hz:mul p a (2*tw x ds es (j+1)) (some P) with
   | none=>rfl
   | some q=>rw [hz] at hc; cases hc
 · have h0:f=0∧g=0:=by simpa using h
   refine ⟨δ,rfl,?_,QO (λ h1=>?_) nc⟩
   · rw [step,h0.1,h0.2,Int.mul_zero,Int.add_zero,Int.add_zero]
   · rw [← hf,← hg,h0.1,h0.2] at h1
     rcases h1 with h1 | h1<;>exact absurd rfl h1
def G6 (i:Nat) (s2:List AO) (j:Nat) (i1:Nat) (bs:Bs) (d:Nat) (p:Int) (a:Int) (v:AV) (w:AV) (v3:AV) (I:AV→Nat→List AO→Prop) (Q:AV→List AO→Prop):Prop:=aD i s2 λ yv=>yv.length≤1000000∧((decide (((j:Nat):Int)<((yv.length:Nat):Int)))=true→bf i ((j:Nat):Int) s2 λ x=>dI x λ i3=>aD i1 s2 λ qV=>qV.length≤1000000∧((decide (((j:Nat):Int)<((qV.length:Nat):Int)))=true→bf i1 ((j:Nat):Int) s2 λ x1=>dI x1 λ i4=>Le bs d p a v w v3 j i3 i4 s2 I Q)∧((decide (((j:Nat):Int)<((qV.length:Nat):Int)))=false→Le bs d p a v w v3 j i3 0 s2 I Q))∧((decide (((j:Nat):Int)<((yv.length:Nat):Int)))=false→aD i1 s2 λ qV=>qV.length≤1000000∧((decide (((j:Nat):Int)<((qV.length:Nat):Int)))=true→bf i1 ((j:Nat):Int) s2 λ x=>dI x λ i3=>Le bs d p a v w v3 j 0 i3 s2 I Q)∧((decide (((j:Nat):Int)<((qV.length:Nat):Int)))=false→Le bs d p a v w v3 j 0 0 s2 I Q))
def G7 (v2:AV) (i:Nat) (s1:List AO) (bs:Bs) (d:Nat) (p:Int) (a:Int) (v:AV) (w:AV) (Q:AV→List AO→Prop):Prop:=dL v2 λ i1=>aD i s1 λ xs=>xs.length≤1000000∧aD i1 s1 λ dF=>dF.length≤1000000∧0≤(if (((dF.length:Nat):Int) > ((xs.length:Nat):Int)) then ((dF.length:Nat):Int) else ((xs.length:Nat):Int))∧(if (((dF.length:Nat):Int) > ((xs.length:Nat):Int)) then ((dF.length:Nat):Int) else ((xs.length:Nat):Int))≤1000000∧∃ I:AV→Nat→List AO→Prop,I .none (if (((dF.length:Nat):Int) > ((xs.length:Nat):Int)) then ((dF.length:Nat):Int) else ((xs.length:Nat):Int)).toNat s1∧∀ a1:AV,∀ i2:Nat,∀ aj:List AO,I a1 i2 aj→(∀ j:Nat,i2=(j+1)→ai (U bs) (d+5) (.cst (.ref 456)) [.int p,.int a,a1,a1] aj λ v3 s2=>G6 i s2 j i1 bs d p a v w v3 I Q)∧(i2=0→Q (.bool false) aj)
theorem E5 (O:(U bs).Ok) {p a b:Int} (C:Cv p a b) (ha:0≤a∧a<p) {P R:Int×Int} {nn x m n:Int} (hP:On p a b (some P)) (od:Od p a nn (some P)) (hR:some R=mul p a x (some P)) (hm:m.natAbs≤1000) (hn:n.natAbs≤1000)
 {v w:AV} (hv:v=cu (some P)) (hw:w=cu (some R)) (q:∀ c δ,(c=false→∀ ds es,eW m ds→eW n es→tH nn x ds es)→Q (.bool c) (σ++δ)) :
 ai (U bs) (d+6) (.cst (.ref tN)) [.int p,.int a,v,w,.int m,.int n] σ Q :=
 ai.of O (T:=T0) (by kernel_rfl) (by kernel_rfl) λ L=>Eq.mp (α:=ai (U bs) (d+5) (.cst (.ref 489)) [.int m] σ λ v1 s=>dL v1 λ i=>ai (U bs) (d+5) (.cst (.ref 489)) [.int n] s λ v2 s1=>G7 v2 i s1 bs d p a v w Q) (by kernel_rfl) (by
  refine qS O (Nat.le_trans hm (by decide)) λ ds hds=>qS O (Nat.le_trans hn (by decide)) λ es hes=>?_
  have l1:=hds.len
  have l2:=hes.len
  have h1:=aI (getLast σ (.lst (ds.map AV.int))) [.lst (es.map AV.int)]
  have h2:=getLast (σ++[.lst (ds.map AV.int)]) (.lst (es.map AV.int))
  have k1:(ds.map AV.int).length=ds.length:=List.length_map ..
  have k2:(es.map AV.int).length=es.length:=List.length_map ..
  have q':∀ c δ,(c=false→∀ ds es,eW m ds→eW n es→tH nn x ds es)→Q (.bool c) (σ++[.lst (ds.map AV.int)]++[.lst (es.map AV.int)]++δ):=λ c δ h=>by
   have:=q c ([.lst (ds.map AV.int)]++[.lst (es.map AV.int)]++δ) h
   rw [← List.append_assoc,← List.append_assoc] at this
   exact this
  generalize (σ++[AO.lst (ds.map AV.int)]).length=le at h2 ⊢
  generalize σ++[AO.lst (ds.map AV.int)]++[.lst (es.map AV.int)]=t at h1 h2 q' ⊢
  refine ⟨_,h1,by rw [k1]; exact Lq.bZ (Lq.bZ l1 hm) (by decide),_,h2,by rw [k2]; exact Lq.bZ (Lq.bZ l2 hn) (by decide),by rw [k1,k2]; split<;>exact Lq.z _,by rw [k1,k2]; split<;>lia,QN p a nn x (some P) ds es t,⟨[],(List.append_nil _).symm,?_,λ k' hk h0=>?_⟩,λ v1 i2 aj hI=>⟨λ j ej=>?_,λ e=>?_⟩⟩
  · rw [show ∀ K,ds.length≤K→es.length≤K→tw x ds es K=0 from λ K hk hk'=>by unfold tw; rw [uc hk,uc hk',Int.mul_zero]; rfl]
    · rfl
    · rw [k1,k2]; split<;>lia
    · rw [k1,k2]; split<;>lia
  · rw [k1,k2] at hk
    rw [qq (by split at hk<;>lia),qq (by split at hk<;>lia)] at h0
    rcases h0 with h0 | h0<;>exact absurd rfl h0
  · refine aG λ G kG=>?_
    obtain ⟨δ,QS,ev,nc⟩:=hI
    refine kG ?_
    clear kG
    subst ev QS ej
    have mG:=aH C hP (tw x ds es (j+1))
    have g1:=aI h1 δ
    have g2:=aI h2 δ
    have e1:j<ds.length→(ds.map AV.int)[((j:Nat):Int).toNat]? = some (.int (qL ds j)):=λ h=>by
     unfold qL
     rw [Int.toNat_natCast,List.getElem?_map,List.getElem?_eq_getElem h]; rfl
    have e2:j<es.length→(es.map AV.int)[((j:Nat):Int).toNat]? = some (.int (qL es j)):=λ h=>by
     unfold qL
     rw [Int.toNat_natCast,List.getElem?_map,List.getElem?_eq_getElem h]; rfl
    have Kw:∀ {n:Nat},n≤1000→decide (((j:Nat):Int)<(n:Int))=true→((j:Nat):Int)<1000000:=λ h h'=>by have:=of_decide_eq_true h'; exact Lq.sl (Lq.sl (of_decide_eq_true h') (Lq.cl h)) (by decide)
    have bt:=λ {f g:Int} (hf:f=qL ds j) (hg:g=qL es j)=>Oq (d:=d) O C ha hP od hR hds hes hf hg nc hv hw (v3:=cu (plus p a (mul p a (tw x ds es (j+1)) (some P)) (mul p a (tw x ds es (j+1)) (some P)))) (by rw [d9 C hP]) (t:=t) (δ:=δ) (λ δ'=>q' true δ' (λ h=>nomatch h))
    refine c9 O C ha mG mG ⟨_,g1,by rw [k1]; exact Lq.bZ (Lq.bZ l1 hm) (by decide),λ hj=>⟨_,_,g1,Lq.z _,Kw (by rw [k1]; exact Lq.bZ l1 hm) hj,e1 (by have:=of_decide_eq_true hj; rw [k1] at this; exact Lq.us this),⟨_,g2,by rw [k2]; exact Lq.bZ (Lq.bZ l2 hn) (by decide),λ hj'=>⟨_,_,g2,Lq.z _,Kw (by rw [k2]; exact Lq.bZ l2 hn) hj',e2 (by have:=of_decide_eq_true hj'; rw [k2] at this; exact Lq.us this),bt rfl rfl⟩,λ hj'=>bt rfl (qq (by have:=of_decide_eq_false hj'; rw [k2] at this; exact Lq.ul (Lq.n this))).symm⟩⟩,
     λ hj=>⟨_,g2,by rw [k2]; exact Lq.bZ (Lq.bZ l2 hn) (by decide),λ hj'=>⟨_,_,g2,Lq.z _,Kw (by rw [k2]; exact Lq.bZ l2 hn) hj',e2 (by have:=of_decide_eq_true hj'; rw [k2] at this; exact Lq.us this),bt (qq (by have:=of_decide_eq_false hj; rw [k1] at this; exact Lq.ul (Lq.n this))).symm rfl⟩,λ hj'=>bt (qq (by have:=of_decide_eq_false hj; rw [k1] at this; exact Lq.ul (Lq.n this))).symm (qq (by have:=of_decide_eq_false hj'; rw [k2] at this; exact Lq.ul (Lq.n this))).symm⟩⟩
  · refine aG λ G kG=>?_
    obtain ⟨δ,QS,ev,nc⟩:=hI
    refine kG ?_
    subst QS e
    exact q' false δ λ _ ds' es' h h'=>by
     rw [h.uniq hds,h'.uniq hes]
     exact λ k=>nc k (Nat.zero_le _))
end
end
noncomputable section
section
variable {bs:Bs} {d:Nat} {σ:List AO} {Q:AV→List AO→Prop}
theorem yI (O:(U bs).Ok) {n:Nat} {p a b:Int} (h:σ[n]? = some (.inst [])) (q:Q .none (σ.set n (.inst (fU p a b)))):ai (U bs) (d+1) (.cst (.ref gB)) [.inst au n,.int p,.int a,.int b] σ Q :=
 ai.of O (T:=T0) (by kernel_rfl) (by kernel_rfl) λ L=>Eq.mp (α:=∃ fs:List (Str×AV),σ[n]? = some (AO.inst fs)∧fs.length<1000∧∃ w5:List (Str×AV),(σ.set n (AO.inst (aO "_CurveFp__p" (.int p) fs)))[n]? = some (AO.inst w5)∧w5.length<1000∧∃ yQ:List (Str×AV),((σ.set n (AO.inst (aO "_CurveFp__p" (.int p) fs))).set n (AO.inst (aO "_CurveFp__a" (.int a) w5)))[n]? = some (AO.inst yQ)∧yQ.length<1000∧∃ AA:List (Str×AV),(((σ.set n (AO.inst (aO "_CurveFp__p" (.int p) fs))).set n (AO.inst (aO "_CurveFp__a" (.int a) w5))).set n (AO.inst (aO "_CurveFp__b" (.int b) yQ)))[n]? = some (AO.inst AA)∧AA.length<1000∧Q .none ((((σ.set n (AO.inst (aO "_CurveFp__p" (.int p) fs))).set n (AO.inst (aO "_CurveFp__a" (.int a) w5))).set n (AO.inst (aO "_CurveFp__b" (.int b) yQ))).set n (AO.inst (aO "_CurveFp__h" .none AA)))) (by kernel_rfl) (by
  have e:aO "_CurveFp__h" .none (aO "_CurveFp__b" (.int b) (aO "_CurveFp__a" (.int a) (aO "_CurveFp__p" (.int p) [])))=fU p a b:=by kernel_rfl
  refine ⟨_,h,l5 (Nat.zero_le _),_,getSet h,l5 (b9 (k:=4) (Nat.zero_le _)),_,getSet (getSet h),l5 (b9 (k:=4) (b9 (k:=3) (Nat.zero_le _))),_,getSet (getSet (getSet h)),l5 (b9 (k:=4) (b9 (k:=3) (b9 (k:=2) (Nat.zero_le _)))),?_⟩
  rw [gF,gF,gF,e]; exact q)
theorem G8 (O:(U bs).Ok) {p a b:Int} (q:Q (.inst au σ.length) (σ++[.inst (fU p a b)])):ai (U bs) (d+2) (.cst (.ref au)) [.int p,.int a,.int b] σ Q :=
 ai.make O (fI:=gB) (by kernel_rfl) (yI O (getLast σ _) ⟨rfl,by rw [gY]; exact q⟩)
def E6 (aj:List AO) (σ:List AO) (ys:List Int) (i:Nat) (xs:List AV) (I:Nat→List AO→Prop) (Q:AV→List AO→Prop):Prop:=aj[σ.length]? = some (AO.lst (ys.map (λ a=>.int a)))∧(∀ y:Int,ys[i]? = some y→aD (σ++[AO.lst xs]).length aj λ dF=>dF.length≤1000000∧I (i+1) (aj.set (σ++[AO.lst xs]).length (AO.lst (dF++[.int (if (y<0) then (-y) else y)]))))∧(i=ys.length→aD (σ++[AO.lst xs]).length aj λ dF=>dF.length≤1000000∧((decide (((dF.length:Nat):Int)=0))=true→Q (.lst (aj++[AO.lst [.int 0]]).length) ((aj++[AO.lst [.int 0]])++[AO.lst [.int 0,.lst aj.length]]))∧((decide (((dF.length:Nat):Int)=0))=false→Q (.lst aj.length) (aj++[AO.lst [.int 0,.lst (σ++[AO.lst xs]).length]])))
theorem CN (O:(U bs).Ok) {sc:Addr} {vs:List Value} {ns:List Int} (h1:(U bs).hb.IsList sc vs.toArray) (h2:IntsAre vs ns) (h3:ns.length≤63) (q:∀ s k σ',Sk σ' s k σ'.length→Q (.lst s) σ') :
 ai (U bs) (d+1) (.cst (.ref yk)) [.cst (.ref sc)] σ Q :=
 ai.of O (T:=T0) (by kernel_rfl) (by kernel_rfl) λ L=>Eq.mp (α:=Ni (U bs) sc 63 λ xs=>∃ ys:List Int,(σ++[AO.lst xs])[σ.length]? = some (AO.lst (ys.map (λ a=>.int a)))∧∃ I:Nat→List AO→Prop,I 0 ((σ++[AO.lst xs])++[AO.lst []])∧∀ i:Nat,∀ aj:List AO,I i aj→E6 aj σ ys i xs I Q) (by kernel_rfl) (by
  have hz:(ns.take (63:Int).toNat).length≤63:=by rw [List.length_take]; exact Lq.bZ (Nat.min_le_right _ _) h3
  refine ⟨vs,ns,h1,h2,Lq.bZ h3 (by decide),ns.take (63:Int).toNat,getLast _ _,λ i s=>∃ cs:List Int,s=σ++[AO.lst ((ns.take (63:Int).toNat).map .int)]++[.lst (cs.map .int)]∧cs.length=i∧(∀ c∈cs,0≤c),⟨[],rfl,rfl,λ c h=>nomatch h⟩,λ i s hI=>?_⟩
  refine aG λ G kG=>?_
  obtain ⟨cs,rfl,hi,hc⟩:=hI
  refine kG ?_
  refine ⟨aI (getLast _ _) _,λ y hy=>⟨_,getLast _ _,?_,cs++[if y<0 then -y else y],?_,by rw [List.length_append,hi]; rfl,λ c Ot=>?_⟩,λ e=>⟨_,getLast _ _,?_,λ h0=>?_,λ h0=>?_⟩⟩
  · have:=(List.getElem?_eq_some_iff.mp hy).1
    rw [List.length_map]; exact Lq.nw (Lq.xH (Lq.xH (Lq.Pe (Nat.le_of_eq hi) this) hz) (by decide))
  · rw [gY,List.map_append]; rfl
  · rcases List.mem_append.mp Ot with Ot | Ot
    · exact hc c Ot
    · rw [List.mem_singleton.mp Ot]; split<;>lia
  · have e:i=(ns.take (63:Int).toNat).length:=e
    rw [List.length_map]; exact Lq.bZ (Lq.bZ (Lq.bZ (Nat.le_of_eq hi) (Nat.le_of_eq e)) hz) (by decide)
  · exact q _ _ _ ⟨rfl,⟨0,Lq.ll (Int.le_of_eq (of_decide_eq_true h0).symm) (Int.le_of_eq (of_decide_eq_true h0)),getLast _ _⟩,⟨[0],⟨by simp,by simp,by simp⟩,aI (getLast _ _) _⟩⟩
  · have e:i=(ns.take (63:Int).toNat).length:=e
    have h0:=of_decide_eq_false h0
    rw [List.length_map] at h0
    refine q _ _ _ ⟨rfl,⟨0,by lia,getLast _ _⟩,⟨cs,⟨λ e=>?_,hc,Lq.bZ (Lq.bZ (Lq.bZ (Nat.le_of_eq hi) (Nat.le_of_eq e)) hz) (by decide)⟩,aI (getLast _ _) _⟩⟩
    subst e
    exact h0 rfl)
theorem Sw {P:G} (hd:3≤d) (q:Q (.bool false) σ):aA (U bs) d .NotEq (cu P) (cu P) σ Q:=by
 cases P with
 | none=>exact aA.RY hd (x:=.none) (y:=.none) rfl rfl rfl q
 | some P =>
  refine aA.RY hd (x:=.tuple [.int P.1,.int P.2]) (y:=.tuple [.int P.1,.int P.2]) rfl rfl rfl ?_
  have:(!PyData.eqv (.tuple [.int P.1,.int P.2]) (.tuple [.int P.1,.int P.2]))=false:=by
   simp [PyData.eqv,PyData.eqvAll]
  rw [this]; exact q
end
end
noncomputable section
section
variable {bs:Bs} {d:Nat} {σ:List AO} {Q:AV→List AO→Prop}
theorem qB.gcd {n:Int} (h:qB n) {x:Int} (hx:x%n≠0):Int.gcd n x=1:=by
 obtain ⟨h3,ho,hf⟩:=h
 have d1:(Int.gcd n x:Int)∣n:=Int.gcd_dvd_left ..
 have d2:(Int.gcd n x:Int)∣x:=Int.gcd_dvd_right ..
 have g0:0<(Int.gcd n x:Int):=by
  have:Int.gcd n x≠0:=λ h=>by
   rw [h] at d1
   have:=Int.zero_dvd.mp d1
   (clear ho; exact Lq.f (Lq.ls (Int.le_of_eq this) (by decide)) h3)
  exact Lq.cs (Lq.Pk (Nat.zero_le _) this)
 generalize hg:(Int.gcd n x:Int)=g at d1 d2 g0
 have gn:=Int.le_of_dvd (by (clear ho; lia)) d1
 have Ou:g%2=1:=by
  obtain ⟨q,hq⟩:=d1
  rcases Int.emod_two_eq g with h | h
  · exfalso
    have:n%2=0:=by rw [hq,Int.mul_emod,h,Int.zero_mul]; rfl
    exact Lq.f (Lq.ls (Int.le_of_eq this) (by decide)) (Int.le_of_eq ho.symm)
  · exact h
 have Ut:g≠n:=λ e=>hx (by rw [← e]; exact Int.emod_eq_zero_of_dvd d2)
 rcases Int.lt_or_le 1 g with h | h
 · exact absurd (Int.emod_eq_zero_of_dvd d1) (hf g (by (clear gn g0 hg; lia)) (Lq.Ph gn Ut) Ou)
 · (clear Ou; lia)
theorem qB.co {n:Int} (h:qB n) {k x:Int} (hx:x%n≠0) (e:(k*x)%n=0):k%n=0:=by
 have g1:=h.gcd hx
 have d3:n.natAbs∣k.natAbs*x.natAbs:=by
  rw [← Int.natAbs_mul]
  exact Int.natAbs_dvd_natAbs.mpr (Int.dvd_of_emod_eq_zero e)
 have d4:n.natAbs∣k.natAbs:=Nat.Coprime.dvd_of_dvd_mul_right g1 d3
 exact Int.emod_eq_zero_of_dvd (Int.natAbs_dvd_natAbs.mp d4)
theorem Od.mult {p a b:Int} (C:Cv p a b) {P:G} (hP:On p a b P) {n x:Int} (od:Od p a n P) (h:qB n) (hx:x%n≠0):Od p a n (mul p a x P):=by
 refine ⟨od.pos,?_,λ k h1 h2 e=>?_⟩
 · rw [← bF C hP,od.dvd C hP,Int.mul_emod_right]
 · rw [← bF C hP,od.dvd C hP] at e
   have:=h.co hx e
   rw [Int.emod_eq_of_lt (Lq.w h1) h2] at this
   exact Lq.f h1 (Int.le_of_eq this)
theorem Gd.tR {c:Nat} {p a b:Int}:∀ (l:List AO) {ω:List D} {σ:List AO},Gd c p a b ω σ→Gd c p a b (ω++l.map .raw) (σ++l)
 | [],ω,σ,H=>by rw [List.map_nil,List.append_nil,List.append_nil]; exact H
 | o :: l,ω,σ,H=>by
  have h:=Gd.tR l (H.bg o)
  rw [List.append_assoc,List.append_assoc] at h
  exact h
theorem Uu (a b:Nat):∃ x y:Int,x*a+y*b=(Nat.gcd a b:Int):=by
 induction a,b using Nat.gcd.induction with
 | H0 b=>exact ⟨0,1,by rw [Nat.gcd_zero_left]; lia⟩
 | H1 m n hm ih =>
  obtain ⟨x,y,e⟩:=ih
  refine ⟨y-x*(n / m:Nat),x,?_⟩
  rw [Nat.gcd_rec,← e]
  have e2:(n:Int)=(m:Int)*((n / m:Nat):Int)+((n%m:Nat):Int):=by
   have:=Nat.div_add_mod n m
   rw [← Int.natCast_mul,← Int.natCast_add,this]
  rw [e2]
  generalize ((n / m:Nat):Int)=q
  generalize ((n%m:Nat):Int)=r
  grind
theorem qB.div {n:Int} (h:qB n) {k t:Int} (hk:0≤k) (hx:k%n≠0):∃ x,0≤x∧x<n∧(x*k-t)%n=0:=by
 have n3:=h.1
 obtain ⟨u,v,e⟩:=Uu n.natAbs k.natAbs
 rw [show Nat.gcd n.natAbs k.natAbs=1 from h.gcd hx,Int.natAbs_of_nonneg (Lq.ll (by decide) n3),Int.natAbs_of_nonneg hk] at e
 refine ⟨(v*t)%n,Int.emod_nonneg _ (by lia),Int.emod_lt_of_pos _ (by lia),?_⟩
 have e2:=Int.mul_ediv_add_emod (v*t) n
 refine Int.emod_eq_zero_of_dvd ⟨-(u*t)-(v*t / n)*k,?_⟩
 generalize v*t / n=w at e2 ⊢
 rw [show v*t%n=v*t-n*w by lia]
 have e3:u*n*t+v*k*t=t:=by rw [← Int.add_mul,e]; lia
 grind
section
variable {c:Nat} {p a b:Int} {ω:List D}
theorem zL (O:(U bs).Ok) (C:Cv p a b) (H:Gd c p a b ω σ) {R:G} {o v:AV} (hv:Den ω o R v) (q:Q (cu R) σ):ai (U bs) (d+3) (.cst (.ref fC)) [v,.int p] σ Q:=by
 have Hp:=C.pos
 cases R with
 | none =>
  cases hv
  exact ai.of O (T:=EB) (by kernel_rfl) (by kernel_rfl) λ L=>Eq.mp (α:=aA (U bs) (d+2) .Eq (.cst (.ref 414)) (.cst (.ref 414)) σ λ a a1=>a=(.bool true)∧Q .none a1) (by kernel_rfl) (tn O ⟨rfl,q⟩)
 | some P =>
  refine aG λ G kG=>?_
  obtain ⟨n,g,rfl,hn,_⟩:=hv
  obtain ⟨x,y,z,k,T,e,h1,h2,h3,h4,h5⟩:=H.pj hn
  obtain ⟨u,v⟩:=P
  refine kG ?_
  exact ai.of O (T:=GJ) (by kernel_rfl) (by kernel_rfl) λ L=>Eq.mp (α:=aA (U bs) (d+2) .Eq (.inst 313 n) (.cst (.ref 414)) σ λ a a1=>a=(.bool false)∧aC n "x" a1∧ai (U bs) (d+2) (.cst (.ref 173)) [.inst 313 n] a1 λ v s=>dI v λ i=>0<p∧∀ r:Int,r=(i%p)→0≤r→r<p→aC n "y" s∧ai (U bs) (d+2) (.cst (.ref 180)) [.inst 313 n] s λ v1 s1=>dI v1 λ i1=>0<p∧∀ r1:Int,r1=(i1%p)→0≤r1→r1<p→Q (.tup [.int r,.int r1]) s1) (by kernel_rfl) (by
   refine zJ O e (mj h2) ⟨rfl,aN e (by kernel_rfl),EG O C e H.sF h1 h2 h3 ⟨Hp,λ r e_r lG g9=>⟨aN e (by kernel_rfl),EH O C e H.sF h1 h2 h3 ⟨Hp,λ r1 bC cj ck=>?_⟩⟩⟩⟩
   have hu:r=u:=by rw [e_r]; exact Int.emod_eq_of_lt h1.1.1 h1.1.2
   have hv:r1=v:=by rw [bC]; exact Int.emod_eq_of_lt h1.2.1.1 h1.2.1.2
   rw [hu,hv]; exact q)
theorem CO (O:(U bs).Ok) {m:Int} (hm:m≠0) (q:Q (.cst (.ref bL)) σ):ai (U bs) (d+2) (.cst (.ref mF)) [.cst (.ref bL),.int m] σ Q :=
 ai.of O (T:=Cj) (by kernel_rfl) (by kernel_rfl) λ L=>Eq.mp (α:=∀ v:Value,aA (U bs) (d+1) .Eq (.int m) (.int 0) σ λ a a1=>a=(.bool false)∧aA (U bs) (d+1) .Eq (.cst (.ref 414)) (.cst (.ref 414)) a1 λ a2 a3=>a2=(.bool true)∧Q (.cst (.ref 414)) a3) (by kernel_rfl) (λ v=>aA.eq ⟨congrArg AV.bool (decide_eq_false hm),tn O ⟨rfl,q⟩⟩)
theorem CP (O:(U bs).Ok) (q:Q (.cst (.ref bL)) σ):ai (U bs) (d+2) (.cst (.ref qc)) [.cst (.ref bL)] σ Q :=
 ai.of O (T:=ED) (by kernel_rfl) (by kernel_rfl) λ L=>Eq.mp (α:=aA (U bs) (d+1) .Eq (.cst (.ref 414)) (.cst (.ref 414)) σ λ a a1=>a=(.bool true)∧Q (.cst (.ref 414)) a1) (by kernel_rfl) (tn O ⟨rfl,q⟩)
theorem AK (O:(U bs).Ok) (C:Cv p a b) (ha:0≤a∧a<p) (H:Gd c p a b ω σ) {n:Nat} {P:Int×Int} {nn:Int} {g:Bool} (hn:ω[n]? = some (.pj P (.int nn) g)) (od:Od p a nn (some P)) (hodd:nn%2=1) (hn1:1<nn) (hnb:nn≤1000) {i j:Int} (hk:CJ nn i (.int nn) g)
 (q:∀ v δ σ',Gd c p a b (ω++δ) σ'→Den (ω++δ) (.int nn) (mul p a i (some P)) v→Q v σ'):ai (U bs) (d+9) (.cst (.ref bP)) [.inst ah n,.int i,.cst (.ref bL),.int j] σ Q :=
 ai.of O (T:=Ci) (by kernel_rfl) (by kernel_rfl) λ L=>Eq.mp (α:=aA (U bs) (d+8) .Eq (.cst (.ref 414)) (.cst (.ref 414)) σ λ a a1=>a=(.bool true)∧aV (U bs) (d+8) .Mult (.inst 313 n) (.int i) a1 λ a2 aa=>Q a2 aa) (by kernel_rfl) (tn (d:=d+7) O ⟨rfl,G1 O C ha H hn od hodd hn1 hnb hk q⟩)
noncomputable def yJ (ω:List D) (nn:Int) (g:Bool):G→AV→Prop
 | none,v=>v=.cst (.ref bL)
 | some P,v=>∃ n,v=.inst ah n∧ω[n]? = some (.pj P (.int nn) g)
theorem yJ.den {nn:Int} {g:Bool} {R:G} {v:AV} (h:yJ ω nn g R v):Den ω (.int nn) R v:=by
 cases R with
 | none=>exact h
 | some P=>obtain ⟨n,e,h⟩:=h; exact ⟨n,g,e,h,λ h=>nomatch h⟩
inductive zM (p a:Int) (ω:List D) (nn:Int) (B:Int×Int) (k:Int) (b:Bool) (v:AV):Prop
 | mk (g:Bool) (hg:b=true→g=true) (h:yJ ω nn g (mul p a k (some B)) v):zM p a ω nn B k b v
theorem zM.of {nn:Int} {B:Int×Int} {k:Int} {v:AV} (h:Den ω (.int nn) (mul p a k (some B)) v):zM p a ω nn B k false v:=by
 cases e:mul p a k (some B) with
 | none=>rw [e] at h; exact ⟨false,id,by rw [e]; exact h⟩
 | some P =>
  rw [e] at h
  obtain ⟨n,g,e',h,_⟩:=h
  exact ⟨g,λ h=>(nomatch h),by rw [e]; exact ⟨n,e',h⟩⟩
theorem yJ.mono {nn:Int} {g:Bool} {R:G} {v:AV} (h:yJ ω nn g R v) (δ:List D):yJ (ω++δ) nn g R v:=by
 cases R with
 | none=>exact h
 | some P=>obtain ⟨n,e,h⟩:=h; exact ⟨n,e,ak h δ⟩
theorem yJ.sG {nn:Int} {g:Bool} {R:G} {v:AV} {m:Nat} {l:List AV} {E:D} (hm:ω[m]? = some (.raw (.lst l))) (h:yJ ω nn g R v):yJ (ω.set m E) nn g R v:=by
 cases R with
 | none=>exact h
 | some P=>obtain ⟨n,e,h⟩:=h; exact ⟨n,e,fk hm h λ _ h=>nomatch h⟩
theorem zM.mono {nn:Int} {B:Int×Int} {k:Int} {b:Bool} {v:AV} (h:zM p a ω nn B k b v) (δ:List D):zM p a (ω++δ) nn B k b v:=by
 obtain ⟨g,hg,h⟩:=h; exact ⟨g,hg,h.mono δ⟩
theorem zM.sG {nn:Int} {B:Int×Int} {k:Int} {b:Bool} {v:AV} {m:Nat} {l:List AV} {E:D} (hm:ω[m]? = some (.raw (.lst l))) (h:zM p a ω nn B k b v):zM p a (ω.set m E) nn B k b v:=by
 obtain ⟨g,hg,h⟩:=h; exact ⟨g,hg,h.sG hm⟩
end
end
end
noncomputable section
section
variable {bs:Bs} {d:Nat} {σ:List AO} {Q:AV→List AO→Prop}
def Lg (nn m:Int):Prop:=∀ ds,eW m ds→¬ Meets nn ds
structure Gn (p a b:Int) (B:Int×Int) (n:Int):Prop where
 on:On p a b (some B)
 od:Od p a n (some B)
 pr:qB n
 n5:5≤n
 nb:n≤1000
noncomputable def gI (p a:Int) (B:Int×Int) (n:Nat):List AV:=(List.range n).map λ i:Nat=>cu (mul p a (i:Int) (some B))
theorem eL {p a:Int} {B:Int×Int} {n:Nat}:(gI p a B n).length=n:=by unfold gI; rw [List.length_map,List.length_range]
theorem cU {p a:Int} {B:Int×Int} {n:Nat} {i:Int} (h0:0≤i) (h:i<n):(gI p a B n)[i.toNat]? = some (cu (mul p a i (some B))):=by
 unfold gI
 rw [List.getElem?_map,List.getElem?_range (Lq.ts h0 h),Option.map_some,Int.toNat_of_nonneg h0]
theorem E7 (O:(U bs).Ok) {c:Nat} {p a b:Int} {ω:List D} (H:Gd c p a b ω σ) {s k:Nat} (hs:ω[s]? = some (.st k)) (hk:ω[k]? = some .cells) (q:∀ m σ',Gd c p a b ω σ'→m≠0→m.natAbs≤200→Q (.int m) σ') :
 ai (U bs) (d+2) (.cst (.ref wY)) [.lst s] σ Q :=
 ai.of O (T:=T0) (by kernel_rfl) (by kernel_rfl) λ L=>Eq.mp (α:=ai (U bs) (d+1) (.cst (.ref 428)) [.lst s,.int 401] σ λ v s1=>dI v λ i=>((decide ((i-200)=0))=true→Q (.int 3) s1)∧((decide ((i-200)=0))=false→Q (.int (i-200)) s1)) (by kernel_rfl) (fj O H hs hk (by decide) (by decide) λ v σ' H' v0 v1=>⟨λ _=>q _ _ H' (by decide) (by decide),λ h=>q _ _ H' (of_decide_eq_false h) (by lia)⟩)
theorem sH (O:(U bs).Ok) {p a:Int} {B:Int×Int} {n:Nat} {l:Nat} (hl:σ[l]? = some (.lst (gI p a B n))) (hn:0<n) (hb:n≤1000) {i m:Int} {t:Bool} (q:∀ c δ,(c=true→t=true∨i=0∨Lg n (m%(n*2)))→Q (.bool c) (σ++δ)) :
 ai (U bs) (d+7) (.cst (.ref gW)) [.lst l,.int i,.int m,.bool t] σ Q :=
 ai.of O (T:=T0) (by kernel_rfl) (by kernel_rfl) λ L=>Eq.mp (α:=aD l σ λ xs=>xs.length≤1000000∧(t=true→Q (.bool t) σ)∧(t=false→((decide (i=0))=true→Q (.bool (decide (i=0))) σ)∧((decide (i=0))=false→(af 2∨af ((xs.length:Nat):Int))∧0<(2*((xs.length:Nat):Int))∧∀ r:Int,r=(m%(2*((xs.length:Nat):Int)))→0≤r→r<(2*((xs.length:Nat):Int))→ai (U bs) (d+6) (.cst (.ref 496)) [.int r,.int ((xs.length:Nat):Int)] σ λ v s=>dB v λ i1=>Q (.bool (!i1)) s))) (by kernel_rfl) (by
  have now:∀ c:Bool,(c=true→t=true∨i=0∨Lg n (m%(n*2)))→Q (.bool c) σ:=λ c h=>by
   have:=q c [] h
   rw [List.append_nil] at this
   exact this
  refine ⟨_,hl,by rw [eL]; exact Lq.bZ hb (by decide),λ h=>now t λ _=>.inl h,λ _=>⟨λ h=>now _ λ _=>.inr (.inl (of_decide_eq_true h)),λ _=>?_⟩⟩
  rw [eL]
  exact ⟨.inl (by unfold af; decide),by lia,λ r er r0 r1=>CD O (by lia) (Lq.cs hn) (Lq.cl hb) (Nat.le_trans (show r.natAbs≤2000 by (clear er; lia)) (by decide)) λ c δ hc=>q _ _ λ e=>.inr (.inr (by rw [Int.mul_comm,← er]; exact hc (by simpa using e)))⟩)
section
variable {c:Nat} {p a b:Int} {ω:List D}
structure tS (p a:Int) (B:Int×Int) (n:Nat) (ω:List D) (s k r pp t u:Nat) (ks:List Int) (vs:List AV) (bs:List Bool):Prop where
 st:ω[s]? = some (.st k)
 ce:ω[k]? = some .cells
 ro:ω[r]? = some (.raw (.lst (gI p a B n)))
 pl:ω[pp]? = some (.raw (.lst (ks.map .int)))
 tl:ω[t]? = some (.raw (.lst vs))
 ub:ω[u]? = some (.raw (.lst (bs.map .bool)))
 Ov:pp≠t
 Pc:pp≠u
 Pd:t≠u
 QT:pp≠r
 QU:t≠r
 QW:u≠r
 lv:vs.length=ks.length
 lb:bs.length=ks.length
 l0:0<ks.length
 lm:ks.length≤1000
 kb:∀ x∈ks,0≤x∧x<n
 td:∀ (i:Nat) x v z,ks[i]? = some x→vs[i]? = some v→bs[i]? = some z→zM p a ω n B x z v
variable {B:Int×Int} {n:Nat} {s k r pp t u:Nat} {ks:List Int} {vs:List AV} {us:List Bool}
theorem tS.mono (W:tS p a B n ω s k r pp t u ks vs us) (δ:List D):tS p a B n (ω++δ) s k r pp t u ks vs us :=
 ⟨ak W.st δ,ak W.ce δ,ak W.ro δ,ak W.pl δ,ak W.tl δ,ak W.ub δ,W.Ov,W.Pc,W.Pd,W.QT,W.QU,W.QW,W.lv,W.lb,W.l0,W.lm,W.kb,λ i x v z h1 h2 h3=>(W.td i x v z h1 h2 h3).mono δ⟩
inductive Sx (p a:Int) (ω:List D) (n:Int) (B:Int×Int) (ks:List Int) (vs:List AV) (us:List Bool) (i:Int):Prop
 | mk (x:Int) (v:AV) (z:Bool) (h1:(ks.map AV.int)[i.toNat]? = some (.int x)) (h2:vs[i.toNat]? = some v) (h3:(us.map AV.bool)[i.toNat]? = some (.bool z)) (h:zM p a ω n B x z v) (x0:0≤x) (xn:x<n):Sx p a ω n B ks vs us i
theorem tS.at' (W:tS p a B n ω s k r pp t u ks vs us) {i:Int} (h0:0≤i) (h:i<ks.length):Sx p a ω n B ks vs us i:=by
 have hi:i.toNat<ks.length:=(Lq.ts h0 h)
 have e1:=List.getElem?_eq_getElem hi
 have e2:=List.getElem?_eq_getElem (show i.toNat<vs.length by rw [W.lv]; exact hi)
 have e3:=List.getElem?_eq_getElem (show i.toNat<us.length by rw [W.lb]; exact hi)
 have hk:=W.kb _ (List.mem_of_getElem? e1)
 exact ⟨_,_,_,by rw [List.getElem?_map,e1]; rfl,e2,by rw [List.getElem?_map,e3]; rfl,W.td _ _ _ _ e1 e2 e3,hk.1,hk.2⟩
def Ow (t u:Nat) (v:AV) (s1:List AO) (Q:AV→List AO→Prop):Prop:=aD t s1 λ sL=>sL.length≤1000000∧aD u (s1.set t (AO.lst (sL++[v]))) λ _=>aD u (s1.set t (AO.lst (sL++[v]))) λ yR=>yR.length≤1000000∧Q .none ((s1.set t (AO.lst (sL++[v]))).set u (AO.lst (yR++[.bool false])))
theorem yK (W:tS p a B n ω s k r pp t u ks vs us) {r1:Int} (r0:0≤r1) (rn:r1<n) {δ:List D} {s1:List AO} (H:Gd c p a b (ω.set pp (.raw (.lst (ks.map .int++[.int r1])))++δ) s1) {v:AV} (hv:Den (ω.set pp (.raw (.lst (ks.map .int++[.int r1])))++δ) (.int n) (mul p a r1 (some B)) v) (hm:ks.length<1000)
 (q:∀ ω' σ',Gd c p a b ω' σ'→tS p a B n ω' s k r pp t u (ks++[r1]) (vs++[v]) (us++[false])→Q .none σ'):Ow t u v s1 Q:=by
 have ht:=ak (cA (E':=.raw (.lst (ks.map .int++[.int r1]))) W.tl W.Ov) δ
 have hu:=ak (cA (E':=.raw (.lst (ks.map .int++[.int r1]))) W.ub W.Pc) δ
 have hp:=ak (gZ (E':=.raw (.lst (ks.map .int++[.int r1]))) W.pl) δ
 have hr:=ak (cA (E':=.raw (.lst (ks.map .int++[.int r1]))) W.ro W.QT) δ
 have hs:=ak (fk (E':=.raw (.lst (ks.map .int++[.int r1]))) W.pl W.st λ _ h=>nomatch h) δ
 have hk:=ak (fk (E':=.raw (.lst (ks.map .int++[.int r1]))) W.pl W.ce λ _ h=>nomatch h) δ
 have htd:=λ i x v z h1 h2 h3=>((W.td i x v z h1 h2 h3).sG (E:=.raw (.lst (ks.map .int++[.int r1]))) W.pl).mono δ
 generalize ω.set pp (.raw (.lst (ks.map .int++[.int r1])))++δ=ω1 at H hv ht hu hp hr hs hk htd
 have H2:=H.qU ht (vs++[v])
 have Fj:=cA (E':=.raw (.lst (vs++[v]))) hu W.Pd
 have H3:=H2.qU Fj (us.map .bool++[.bool false])
 refine ⟨vs,H.raw ht,by have:=W.lv; have:=W.lm; lia,_,H2.raw Fj,_,H2.raw Fj,by rw [List.length_map]; have:=W.lb; have:=W.lm; lia,q _ _ H3 ?_⟩
 have mv:∀ {x:Int} {z:Bool} {v':AV},zM p a ω1 n B x z v'→zM p a ((ω1.set t (.raw (.lst (vs++[v])))).set u (.raw (.lst (us.map .bool++[.bool false])))) n B x z v':=λ h=>(h.sG ht).sG Fj
 refine ⟨fk Fj (fk ht hs λ _ h=>nomatch h) (λ _ h=>nomatch h),fk Fj (fk ht hk λ _ h=>nomatch h) (λ _ h=>nomatch h),cA (cA hr W.QU) W.QW,?_,cA (gZ ht) (Ne.symm W.Pd),?_,W.Ov,W.Pc,W.Pd,W.QT,W.QU,W.QW,?_,?_,?_,?_,?_,?_⟩
 · rw [List.map_append]; exact cA (cA hp (Ne.symm W.Ov)) (Ne.symm W.Pc)
 · rw [List.map_append]; exact gZ Fj
 · rw [List.length_append,List.length_append,W.lv]; rfl
 · rw [List.length_append,List.length_append,W.lb]; rfl
 · rw [List.length_append]; exact Nat.succ_pos _
 · rw [List.length_append]; exact hm
 · intro x hx
   rcases List.mem_append.mp hx with hx | hx
   · exact W.kb x hx
   · rw [List.mem_singleton.mp hx]; exact ⟨r0,rn⟩
 · intro i x v' z h1 h2 h3
   by_cases hi:i<ks.length
   · rw [List.getElem?_append_left hi] at h1
     rw [List.getElem?_append_left (by rw [W.lv]; exact hi)] at h2
     rw [List.getElem?_append_left (by rw [W.lb]; exact hi)] at h3
     exact mv (htd i x v' z h1 h2 h3)
   · have hi:=Nat.not_lt.mp hi
     rw [List.getElem?_append_right hi] at h1
     rw [List.getElem?_append_right (by rw [W.lv]; exact hi),W.lv] at h2
     rw [List.getElem?_append_right (by rw [W.lb]; exact hi),W.lb] at h3
     have ez:i-ks.length=0:=by
      have:=(List.getElem?_eq_some_iff.mp h1).1
      have:i-ks.length<1:=this
      lia
     rw [ez] at h1 h2 h3
     cases h1
     cases h2
     cases h3
     exact mv (.of hv)
def Sy (bs:Bs) (d:Nat) (p t u:Nat) (i i1 i3 i4 N:Int) (s0:List AO) (Q:AV→List AO→Prop):Prop:=(aD p s0 (λ x3=>(bf p i s0 (λ x4=>(dI x4 (λ tY=>(((af i3)∨(af tY))∧(((0:Int)<N)∧(∀ r1:Int,((r1=((i3*tY)%N))→(((0:Int)≤r1)→((r1<N)→(aD p s0 (λ qV=>(((qV).length≤1000000)∧(aD t (s0.set p (AO.lst (qV++[(.int r1)]))) (λ x5=>(bf t i (s0.set p (AO.lst (qV++[(.int r1)]))) (λ x6=>(aV (U bs) (d+10) .Mult x6 (.int i3) (s0.set p (AO.lst (qV++[(.int r1)]))) (λ v7=>(λ s8=>(aD t s8 (λ sL=>(((sL).length≤1000000)∧(aD u (s8.set t (AO.lst (sL++[v7]))) (λ x7=>(aD u (s8.set t (AO.lst (sL++[v7]))) (λ yR=>(((yR).length≤1000000)∧(Q .none ((s8.set t (AO.lst (sL++[v7]))).set u (AO.lst (yR++[(.bool false)]))))))))))))))))))))))))))))))))))
theorem yL (W:tS p a B n ω s k r pp t u ks vs us) (H:Gd c p a b ω σ) (r1:Int):Gd c p a b (ω.set pp (.raw (.lst (ks.map .int++[.int r1])))) (σ.set pp (.lst (ks.map .int++[.int r1])))∧(σ.set pp (.lst (ks.map .int++[.int r1])))[t]? = some (.lst vs):=by
 have H1:=H.qU W.pl (ks.map .int++[.int r1])
 exact ⟨H1,H1.raw (cA W.tl W.Ov)⟩
theorem sI {n:Nat} {x y:Int} (C:Cv p a b) (G:Gn p a b B n) (h:y=x%n):mul p a y (some B)=mul p a x (some B):=(G.od.eq C G.on).mpr (by rw [h,Int.sub_emod,Int.emod_emod,← Int.sub_emod,Int.sub_self,Int.zero_emod])
theorem Ox (O:(U bs).Ok) (C:Cv p a b) (ha:0≤a∧a<p) (G:Gn p a b B n) (W:tS p a B n ω s k r pp t u ks vs us) (H:Gd c p a b ω σ) {i j m w:Int} (i0:0≤i) (i1:i<ks.length) (hm0:m≠0) (hm:m.natAbs≤200) (hl:ks.length<1000)
 (hk:∀ x z,(ks.map AV.int)[i.toNat]? = some (.int x)→(us.map AV.bool)[i.toNat]? = some (.bool z)→z=true∨x=0∨Lg n (m%(n*2)))
 (q:∀ ω' σ' v r1,Gd c p a b ω' σ'→tS p a B n ω' s k r pp t u (ks++[r1]) (vs++[v]) (us++[false])→Q .none σ'):Sy bs d pp t u i j m w n σ Q:=by
 have n5:=G.n5
 obtain ⟨x,v,z,h1,h2,h3,hT,x0,xn⟩:=W.at' i0 i1
 have hz:=hk x z h1 h3
 have hp:=H.raw W.pl
 have lk:(ks.map AV.int).length≤1000000:=by rw [List.length_map]; exact Lq.nw (Lq.xH hl (by decide))
 refine ⟨_,hp,_,_,hp,i0,Lq.sl (Lq.ss i1 (Lq.cs hl)) (by decide),h1,.inl (by unfold af; lia),Lq.ls x0 xn,λ r1 er r0 rn=>⟨_,hp,lk,?_⟩⟩
 obtain ⟨H1,ht⟩:=yL W H r1
 refine ⟨_,ht,_,_,ht,i0,Lq.sl (Lq.ss i1 (Lq.cs hl)) (by decide),h2,?_⟩
 have hT:=hT.sG (E:=.raw (.lst (ks.map .int++[.int r1]))) W.pl
 have er:=sI C G er
 rw [bF C G.on] at er
 have fin:∀ {δ s1 v},Gd c p a b (ω.set pp (.raw (.lst (ks.map .int++[.int r1])))++δ) s1→Den (ω.set pp (.raw (.lst (ks.map .int++[.int r1])))++δ) (.int n) (mul p a m (mul p a x (some B))) v→Ow t u v s1 Q:=λ {δ s1 v} H hv=>yK W r0 rn H (by rw [er]; exact hv) hl λ ω' σ' H' W'=>q ω' σ' v r1 H' W'
 obtain ⟨g,hg,hD⟩:=hT
 cases eP:mul p a x (some B) with
 | none =>
  rw [eP] at hD fin
  have e:v=.cst (.ref bL):=hD
  subst e
  refine aV.int O rfl (c8.cst (t:=.ref gX) (by kernel_rfl)) (f:=mF) (by kernel_rfl) (ai.w (CO (d:=d+8) O hm0 ⟨rfl,fin (δ:=[]) (by rw [List.append_nil]; exact H1) (by rw [rV C]; rfl)⟩))
 | some P =>
  rw [eP] at hD fin
  obtain ⟨l,rfl,hl'⟩:=hD
  have hx:x%n≠0:=λ e=>by
   have:=(G.od.dvd C G.on).mpr e
   rw [eP] at this
   exact nomatch this
  have Lh:Od p a n (some P):=by rw [← eP]; exact Od.mult C G.on G.od G.pr hx
  exact G1 (d:=d+2) O C ha H1 hl' Lh G.pr.2.1 (by lia) G.nb (.inl ⟨rfl,hz.elim (λ h=>.inl (hg h)) λ h=>.inr (h.resolve_left λ e=>hx (by rw [e]; rfl))⟩) λ v' δ s2 H2 D2=>fin H2 D2
def QX (bs:Bs) (d:Nat) (p t u:Nat) (i i1 i3 i4 N:Int) (s0:List AO) (Q:AV→List AO→Prop):Prop:=(aD p s0 (λ x3=>(bf p i s0 (λ x4=>(dI x4 (λ tY=>(((af (2:Int))∨(af tY))∧(((0:Int)<N)∧(∀ r1:Int,((r1=(((2:Int)*tY)%N))→(((0:Int)≤r1)→((r1<N)→(aD p s0 (λ qV=>(((qV).length≤1000000)∧(aD t (s0.set p (AO.lst (qV++[(.int r1)]))) (λ x5=>(bf t i (s0.set p (AO.lst (qV++[(.int r1)]))) (λ x6=>(cI (U bs) (d+10) x6 "double" (s0.set p (AO.lst (qV++[(.int r1)]))) (λ f=>(λ first=>(λ aj=>(aq (U bs) (d+10) f (first++[]) aj (λ a=>(λ aa=>(aD t aa (λ sL=>(((sL).length≤1000000)∧(aD u (aa.set t (AO.lst (sL++[a]))) (λ x7=>(aD u (aa.set t (AO.lst (sL++[a]))) (λ yR=>(((yR).length≤1000000)∧(Q .none ((aa.set t (AO.lst (sL++[a]))).set u (AO.lst (yR++[(.bool false)]))))))))))))))))))))))))))))))))))))))
theorem ID (O:(U bs).Ok) (C:Cv p a b) (ha:0≤a∧a<p) (G:Gn p a b B n) (W:tS p a B n ω s k r pp t u ks vs us) (H:Gd c p a b ω σ) {i j m w:Int} (i0:0≤i) (i1:i<ks.length) (hl:ks.length<1000)
 (q:∀ ω' σ' v r1,Gd c p a b ω' σ'→tS p a B n ω' s k r pp t u (ks++[r1]) (vs++[v]) (us++[false])→Q .none σ'):QX bs d pp t u i j m w n σ Q:=by
 have n5:=G.n5
 obtain ⟨x,v,z,h1,h2,h3,hT,x0,xn⟩:=W.at' i0 i1
 have hp:=H.raw W.pl
 have lk:(ks.map AV.int).length≤1000000:=by rw [List.length_map]; exact Lq.nw (Lq.xH hl (by decide))
 refine ⟨_,hp,_,_,hp,i0,Lq.sl (Lq.ss i1 (Lq.cs hl)) (by decide),h1,.inl (by unfold af; decide),Lq.ls x0 xn,λ r1 er r0 rn=>⟨_,hp,lk,?_⟩⟩
 obtain ⟨H1,ht⟩:=yL W H r1
 refine ⟨_,ht,_,_,ht,i0,Lq.sl (Lq.ss i1 (Lq.cs hl)) (by decide),h2,?_⟩
 have hT:=hT.sG (E:=.raw (.lst (ks.map .int++[.int r1]))) W.pl
 have er:=sI C G er
 rw [bF C G.on] at er
 have fin:∀ {δ s1 v},Gd c p a b (ω.set pp (.raw (.lst (ks.map .int++[.int r1])))++δ) s1→Den (ω.set pp (.raw (.lst (ks.map .int++[.int r1])))++δ) (.int n) (mul p a 2 (mul p a x (some B))) v→Ow t u v s1 Q:=λ {δ s1 v} H hv=>yK W r0 rn H (by rw [er]; exact hv) hl λ ω' σ' H' W'=>q ω' σ' v r1 H' W'
 obtain ⟨g,hg,hD⟩:=hT
 cases eP:mul p a x (some B) with
 | none =>
  rw [eP] at hD fin
  have e:v=.cst (.ref bL):=hD
  subst e
  exact cI.base O (f:=qc) (by kernel_rfl) (ai.w (CP (d:=d+8) O (fin (δ:=[]) (by rw [List.append_nil]; exact H1) (by rw [rV C]; rfl))))
 | some P =>
  rw [eP] at hD fin
  obtain ⟨l,rfl,hl'⟩:=hD
  refine aG λ F kF=>?_
  obtain ⟨_,_,_,_,_,e,_⟩:=H1.pj hl'
  refine kF ?_
  exact cI.fn O e (by kernel_rfl) (f:=cO) (by kernel_rfl) (by kernel_rfl) (ai.w (EW (d:=d+5) O C ha H1 hl' rfl λ v' δ s2 H2 D2=>fin H2 D2))
def QY (bs:Bs) (d:Nat) (p t u:Nat) (i i1 i3 i4 N:Int) (s0:List AO) (Q:AV→List AO→Prop):Prop:=(aD p s0 (λ x3=>(bf p i s0 (λ x4=>(dI x4 (λ tY=>(bf p i1 s0 (λ x5=>(dI x5 (λ Iw=>(((0:Int)<N)∧(∀ r1:Int,((r1=((tY+Iw)%N))→(((0:Int)≤r1)→((r1<N)→(aD p s0 (λ qV=>(((qV).length≤1000000)∧(aD t (s0.set p (AO.lst (qV++[(.int r1)]))) (λ x6=>(bf t i (s0.set p (AO.lst (qV++[(.int r1)]))) (λ x7=>(bf t i1 (s0.set p (AO.lst (qV++[(.int r1)]))) (λ x8=>(aV (U bs) (d+10) .Add x7 x8 (s0.set p (AO.lst (qV++[(.int r1)]))) (λ v7=>(λ s8=>(aD t s8 (λ sL=>(((sL).length≤1000000)∧(aD u (s8.set t (AO.lst (sL++[v7]))) (λ x9=>(aD u (s8.set t (AO.lst (sL++[v7]))) (λ yR=>(((yR).length≤1000000)∧(Q .none ((s8.set t (AO.lst (sL++[v7]))).set u (AO.lst (yR++[(.bool false)])))))))))))))))))))))))))))))))))))))))
theorem IE (O:(U bs).Ok) (C:Cv p a b) (ha:0≤a∧a<p) (G:Gn p a b B n) (W:tS p a B n ω s k r pp t u ks vs us) (H:Gd c p a b ω σ) {i j m w:Int} (i0:0≤i) (i1:i<ks.length) (j0:0≤j) (j1:j<ks.length) (hl:ks.length<1000)
 (q:∀ ω' σ' v r1,Gd c p a b ω' σ'→tS p a B n ω' s k r pp t u (ks++[r1]) (vs++[v]) (us++[false])→Q .none σ'):QY bs d pp t u i j m w n σ Q:=by
 have n5:=G.n5
 obtain ⟨x,v,z,h1,h2,h3,hT,x0,xn⟩:=W.at' i0 i1
 obtain ⟨y,v',z',g1,g2,g3,gT,y0,yn⟩:=W.at' j0 j1
 have hp:=H.raw W.pl
 have lk:(ks.map AV.int).length≤1000000:=by rw [List.length_map]; exact Lq.nw (Lq.xH hl (by decide))
 refine ⟨_,hp,_,_,hp,i0,Lq.sl (Lq.ss i1 (Lq.cs hl)) (by decide),h1,_,_,hp,j0,Lq.sl (Lq.ss j1 (Lq.cs hl)) (by decide),g1,Lq.ls x0 xn,λ r1 er r0 rn=>⟨_,hp,lk,?_⟩⟩
 obtain ⟨H1,ht⟩:=yL W H r1
 refine ⟨_,ht,_,_,ht,i0,Lq.sl (Lq.ss i1 (Lq.cs hl)) (by decide),h2,_,_,ht,j0,Lq.sl (Lq.ss j1 (Lq.cs hl)) (by decide),g2,?_⟩
 have hT:=hT.sG (E:=.raw (.lst (ks.map .int++[.int r1]))) W.pl
 have gT:=gT.sG (E:=.raw (.lst (ks.map .int++[.int r1]))) W.pl
 have er:=sI C G er
 rw [mul_add C G.on] at er
 obtain ⟨g,_,hD⟩:=hT
 obtain ⟨g',_,gD⟩:=gT
 exact AF (d:=d+5) O C ha H1 hD.den gD.den rfl λ v2 δ s2 H2 D2=>⟨D2.ni,yK W r0 rn H2 (by rw [er]; exact D2) hl λ ω' σ' H' W'=>q ω' σ' v2 r1 H' W'⟩
end
end
end
noncomputable section
section
variable {bs:Bs} {d:Nat} {σ:List AO} {Q:AV→List AO→Prop}
section
variable {c:Nat} {p a b:Int} {ω:List D} {B:Int×Int} {n:Nat} {s k r pp t u:Nat} {ks:List Int} {vs:List AV} {us:List Bool}
structure KL (n:Nat) (x y:Int) (z z':Bool) (m w:Int):Prop where
 y0:y=0→z=true∨x=0∨Lg n (m%(n*2))
 op:y≠0→(z&&z')=false→(x+y)%n=0→(z=true∨x=0∨Lg n (m%n%(n*2)))∧(z'=true∨y=0∨Lg n (w%n%(n*2)))
 bo:y≠0→(z&&z')=false→(x+y)%n≠0→∃ e,(e*x-y)%n=0∧∀ ds es,eW (m%n) ds→eW (w%n) es→tH n e ds es
theorem BI (C:Cv p a b) (G:Gn p a b B n) {e x y:Int} (h:(e*x-y)%n=0):mul p a e (mul p a x (some B))=mul p a y (some B):=by
 rw [← bF C G.on]; exact (G.od.eq C G.on).mpr h
theorem gJ (C:Cv p a b) (G:Gn p a b B n) {x:Int} (x0:0≤x) (xn:x<n) (h:x≠0):∃ P,mul p a x (some B)=some P:=by
 cases e:mul p a x (some B) with
 | some P=>exact ⟨P,rfl⟩
 | none =>
  have:=(G.od.dvd C G.on).mp e
  rw [Int.emod_eq_of_lt x0 xn] at this
  exact absurd this h
def Sz (bs:Bs) (d:Nat) (p t u:Nat) (i i1 i3 i4 N:Int) (s0:List AO) (Q:AV→List AO→Prop):Prop:=(aD p s0 (λ x1=>(bf p i s0 (λ x2=>(dI x2 (λ i7=>(((af i3)∨(af i7))∧(bf p i1 s0 (λ x3=>(dI x3 (λ i8=>(((af i4)∨(af i8))∧(((0:Int)<N)∧(∀ r1:Int,((r1=(((i3*i7)+(i4*i8))%N))→(((0:Int)≤r1)→((r1<N)→(aD p s0 (λ qV=>(((qV).length≤1000000)∧(aD t (s0.set p (AO.lst (qV++[(.int r1)]))) (λ x4=>(bf t i (s0.set p (AO.lst (qV++[(.int r1)]))) (λ x5=>(cI (U bs) (d+10) x5 "mul_add" (s0.set p (AO.lst (qV++[(.int r1)]))) (λ f=>(λ first=>(λ aj=>(bf t i1 aj (λ x6=>(aq (U bs) (d+10) f (first++[(.int i3),x6,(.int i4)]) aj (λ a=>(λ aa=>(aD t aa (λ sL=>(((sL).length≤1000000)∧(aD u (aa.set t (AO.lst (sL++[a]))) (λ x7=>(aD u (aa.set t (AO.lst (sL++[a]))) (λ yR=>(((yR).length≤1000000)∧(Q .none ((aa.set t (AO.lst (sL++[a]))).set u (AO.lst (yR++[(.bool false)])))))))))))))))))))))))))))))))))))))))))))))
theorem Oz (O:(U bs).Ok) (C:Cv p a b) (ha:0≤a∧a<p) (G:Gn p a b B n) (W:tS p a B n ω s k r pp t u ks vs us) (H:Gd c p a b ω σ) {i j m w:Int} (i0:0≤i) (i1:i<ks.length) (j0:0≤j) (j1:j<ks.length) (hm0:m≠0) (hm:m.natAbs≤200) (hw0:w≠0) (hw:w.natAbs≤200) (hl:ks.length<1000)
 (hk:∀ x y z z',(ks.map AV.int)[i.toNat]? = some (.int x)→(ks.map AV.int)[j.toNat]? = some (.int y)→(us.map AV.bool)[i.toNat]? = some (.bool z)→(us.map AV.bool)[j.toNat]? = some (.bool z')→x≠0∧KL n x y z z' m w)
 (q:∀ ω' σ' v r1,Gd c p a b ω' σ'→tS p a B n ω' s k r pp t u (ks++[r1]) (vs++[v]) (us++[false])→Q .none σ'):Sz bs d pp t u i j m w n σ Q:=by
 have n5:=G.n5
 obtain ⟨x,v,z,h1,h2,h3,hT,x0,xn⟩:=W.at' i0 i1
 obtain ⟨y,v',z',g1,g2,g3,gT,y0,yn⟩:=W.at' j0 j1
 obtain ⟨GU,tw⟩:=hk x y z z' h1 g1 h3 g3
 have hp:=H.raw W.pl
 have lk:(ks.map AV.int).length≤1000000:=by rw [List.length_map]; exact Lq.nw (Lq.xH hl (by decide))
 refine ⟨_,hp,_,_,hp,i0,Lq.sl (Lq.ss i1 (Lq.cs hl)) (by decide),h1,.inl (by unfold af; lia),_,_,hp,j0,Lq.sl (Lq.ss j1 (Lq.cs hl)) (by decide),g1,.inl (by unfold af; lia),Lq.ls x0 xn,λ r1 er r0 rn=>⟨_,hp,lk,?_⟩⟩
 obtain ⟨H1,ht⟩:=yL W H r1
 have hT:=hT.sG (E:=.raw (.lst (ks.map .int++[.int r1]))) W.pl
 have gT:=gT.sG (E:=.raw (.lst (ks.map .int++[.int r1]))) W.pl
 have er:=sI C G er
 obtain ⟨g,hg,hD⟩:=hT
 obtain ⟨g',hg',gD⟩:=gT
 obtain ⟨P,eP⟩:=gJ C G x0 xn GU
 rw [eP] at hD
 obtain ⟨l,rfl,hl'⟩:=hD
 have hxn:x%n≠0:=by rw [Int.emod_eq_of_lt x0 xn]; exact GU
 have Lh:Od p a n (some P):=by rw [← eP]; exact Od.mult C G.on G.od G.pr hxn
 have hP:On p a b (some P):=by rw [← eP]; exact aH C G.on _
 have fin:∀ {δ s1 v},Gd c p a b (ω.set pp (.raw (.lst (ks.map .int++[.int r1])))++δ) s1→Den (ω.set pp (.raw (.lst (ks.map .int++[.int r1])))++δ) (.int n) (mul p a (m*x+w*y) (some B)) v→Ow t u v s1 Q:=λ {δ s1 v} H hv=>yK W r0 rn H (by rw [er]; exact hv) hl λ ω' σ' H' W'=>q ω' σ' v r1 H' W'
 have Uv:cI (U bs) (d+10) (.inst ah l) "mul_add" (σ.set pp (.lst (ks.map .int++[.int r1]))) λ f first aj=>bf t j aj λ x6=>aq (U bs) (d+10) f (first++[.int m,x6,.int w]) aj λ v s1=>Ow t u v s1 Q:=by
  refine aG λ F kF=>?_
  obtain ⟨_,_,_,_,_,e,_⟩:=H1.pj hl'
  refine kF ?_
  refine cI.fn O e (by kernel_rfl) (f:=bP) (by kernel_rfl) (by kernel_rfl) ⟨_,_,ht,j0,Lq.sl (Lq.ss j1 (Lq.cs hl)) (by decide),g2,ai.w ?_⟩
  by_cases hy:y=0
  · subst hy
    have e:v'=.cst (.ref bL):=gD
    subst e
    refine AK (d:=d+1) O C ha H1 hl' Lh G.pr.2.1 (by lia) G.nb (.inl ⟨rfl,(tw.y0 rfl).elim (λ h=>.inl (hg h)) λ h=>.inr (h.resolve_left GU)⟩) λ v2 δ s2 H2 D2=>fin H2 ?_
    rw [Int.mul_zero,Int.add_zero,bF C G.on,eP]
    exact D2
  · obtain ⟨R,eR⟩:=gJ C G y0 yn hy
    rw [eR] at gD
    obtain ⟨l2,rfl,hl2⟩:=gD
    have Uw:y%n≠0:=by rw [Int.emod_eq_of_lt y0 yn]; exact hy
    have G4:Od p a n (some R):=by rw [← eR]; exact Od.mult C G.on G.od G.pr Uw
    have OA:(g&&g')=false→(z&&z')=false:=λ h=>by
     cases z with
     | false=>rfl
     | true=>cases z' with
      | false=>rfl
      | true=>rw [hg rfl,hg' rfl] at h; exact cS h.symm
    have ex:∃ e,(e*x-y)%n=0∧((z&&z')=false→(x+y)%n≠0→∀ ds es,eW (m%n) ds→eW (w%n) es→tH n e ds es):=by
     by_cases hb:(z&&z')=false∧(x+y)%n≠0
     · obtain ⟨e,h1,h2⟩:=tw.bo hy hb.1 hb.2
       exact ⟨e,h1,λ _ _=>h2⟩
     · obtain ⟨e,_,_,he⟩:=G.pr.div (t:=y) x0 hxn
       exact ⟨e,he,λ h h'=>absurd ⟨h,h'⟩ hb⟩
    obtain ⟨e,he,hnc⟩:=ex
    have QZ:some R=mul p a e (some P):=by rw [← eP,BI C G he,eR]
    obtain ⟨f,hf⟩:=Int.dvd_of_emod_eq_zero he
    have s1:(1+e)*x=(x+y)+n*f:=by rw [← hf]; lia
    refine zK (d:=d+1) O C ha H1 hl' hl2 Lh G4 G.pr.2.1 (by lia) G.nb QZ hm0 hw0 (λ Q0 h1=>?_) (λ Q0 h1=>hnc (OA Q0) λ h=>h1 (G.pr.co hxn (by rw [s1,Int.add_mul_emod_self_left]; exact h))) λ v2 δ s2 H2 D2=>fin H2 ?_
    · obtain ⟨b1,b2⟩:=tw.op hy (OA Q0) (by
       have:((1+e)*x)%n=0:=by rw [Int.mul_emod,h1,Int.zero_mul]; rfl
       rw [s1,Int.add_mul_emod_self_left] at this
       exact this)
      exact ⟨.inl ⟨rfl,b1.elim (λ h=>.inl (hg h)) λ h=>.inr (h.resolve_left GU)⟩,.inl ⟨rfl,b2.elim (λ h=>.inl (hg' h)) λ h=>.inr (h.resolve_left hy)⟩⟩
    · rw [← eP,← bF C G.on] at D2
      rw [show mul p a (m*x+w*y) (some B)=mul p a ((m+w*e)*x) (some B) from (G.od.eq C G.on).mpr (Int.emod_eq_zero_of_dvd ⟨-(w*f),by
       have e2:w*(e*x-y)=w*(n*f):=by rw [hf]
       grind⟩)]
      exact D2
 exact ⟨_,ht,_,_,ht,i0,Lq.sl (Lq.ss i1 (Lq.cs hl)) (by decide),h2,Uv⟩
def Ux (bs:Bs) (d:Nat) (r p u:Nat) (i j m n N:Int) (σ:List AO) (Q:AV→List AO→Prop):Prop:=(bf p i σ (λ x5=>(dI x5 (λ i6=>(((0:Int)<N)∧(∀ r2:Int,((r2=(m%N))→(((0:Int)≤r2)→((r2<N)→(bf u i σ (λ x6=>(dB x6 (λ i7=>(ai (U bs) (d+7) (.cst (.ref gW)) [(.lst r),(.int i6),(.int r2),(.bool i7)] σ (λ v=>(λ s=>(dB v (λ i8=>(((i8=true)→(bf p j s (λ x7=>(dI x7 (λ i9=>(((0:Int)<N)∧(∀ r3:Int,((r3=(n%N))→(((0:Int)≤r3)→((r3<N)→(bf u j s (λ x8=>(dB x8 (λ tY=>(ai (U bs) (d+7) (.cst (.ref gW)) [(.lst r),(.int i9),(.int r3),(.bool tY)] s (λ v1=>(λ s1=>(dB v1 (λ Iw=>(Q (.bool Iw) s1))))))))))))))))))))∧((i8=false)→(Q (.bool i8) s)))))))))))))))))))))
def Uy (bs:Bs) (d:Nat) (c r p:Nat) (i j m n N:Int) (σ:List AO) (Q:AV→List AO→Prop):Prop:=((aC c "p" σ)∧(ai (U bs) (d+7) (.cst (.ref gS)) [(.inst au c)] σ (λ v=>(λ s=>(dI v (λ i6=>((aC c "a" s)∧(ai (U bs) (d+7) (.cst (.ref gU)) [(.inst au c)] s (λ v1=>(λ s1=>(dI v1 (λ i7=>(bf p i s1 (λ x5=>(dI x5 (λ i8=>(bf r i8 s1 (λ x6=>(bf p j s1 (λ x7=>(dI x7 (λ i9=>(bf r i9 s1 (λ x8=>(((0:Int)<N)∧(∀ r2:Int,((r2=(m%N))→(((0:Int)≤r2)→((r2<N)→(((0:Int)<N)∧(∀ r3:Int,((r3=(n%N))→(((0:Int)≤r3)→((r3<N)→(ai (U bs) (d+7) (.cst (.ref tN)) [(.int i6),(.int i7),x6,x8,(.int r2),(.int r3)] s1 (λ v2=>(λ s2=>(dB v2 (λ tY=>(Q (.bool (!tY)) s2))))))))))))))))))))))))))))))))))))))))
def Q2 (bs:Bs) (d:Nat) (c r p u:Nat) (i j m n N:Int) (σ:List AO) (Q:AV→List AO→Prop):Prop:=(bf p i σ (λ x3=>(dI x3 (λ i4=>(bf p j σ (λ x4=>(dI x4 (λ i5=>(((0:Int)<N)∧(∀ r1:Int,((r1=((i4+i5)%N))→(((0:Int)≤r1)→((r1<N)→((((decide ((r1=(0:Int))))=true)→(Ux bs d r p u i j m n N σ Q))∧(((decide ((r1=(0:Int))))=false)→(Uy bs d c r p i j m n N σ Q))))))))))))))))
theorem OB (O:(U bs).Ok) (C:Cv p a b) (ha:0≤a∧a<p) (G:Gn p a b B n) (W:tS p a B n ω s k r pp t u ks vs us) (H:Gd c p a b ω σ) {i j m w x y:Int} {z z':Bool} (i0:0≤i) (i1:i<1000000) (j0:0≤j) (j1:j<1000000) (h1:(ks.map AV.int)[i.toNat]? = some (.int x)) (g1:(ks.map AV.int)[j.toNat]? = some (.int y)) (h3:(us.map AV.bool)[i.toNat]? = some (.bool z)) (g3:(us.map AV.bool)[j.toNat]? = some (.bool z')) (hx:x≠0) (x0:0≤x) (xn:x<n) (hy:y≠0) (y0:0≤y) (yn:y<n)
 (q:∀ cc δ,(cc=true→KL n x y z z' m w)→Q (.bool cc) (σ++δ)):Q2 bs d c r pp u i j m w n σ Q:=by
 have n5:=G.n5
 have nb:=G.nb
 have hp:=H.raw W.pl
 have hu:=H.raw W.ub
 have hr:=H.raw W.ro
 have hc:=H.sF
 refine ⟨_,_,hp,i0,i1,h1,_,_,hp,j0,j1,g1,Lq.ls x0 xn,λ r1 er r0 rn=>⟨λ hh=>?_,λ hh=>?_⟩⟩
 · have hh:=of_decide_eq_true hh
   refine ⟨_,_,hp,i0,i1,h1,Lq.ls x0 xn,λ r2 Q3 _ _=>⟨_,_,hu,i0,i1,h3,sH O hr (by lia) (Lq.II nb) λ cc δ hcc=>⟨λ ec=>?_,λ ec=>q _ _ λ e=>by rw [ec] at e; exact nomatch e⟩⟩⟩
   refine ⟨_,_,aI hp δ,j0,j1,g1,Lq.ls x0 xn,λ r3 Q4 _ _=>⟨_,_,aI hu δ,j0,j1,g3,sH O (aI hr δ) (by lia) (Lq.II nb) λ US δ' Q5=>?_⟩⟩
   rw [List.append_assoc]
   exact q _ _ λ Uz=>⟨λ e=>absurd e hy,λ _ _ _=>⟨by rw [← Q3]; exact hcc ec,by rw [← Q4]; exact Q5 Uz⟩,λ _ _ h=>absurd (er.symm.trans hh) h⟩
 · have hh:=of_decide_eq_false hh
   have SA:x%n≠0:=by rw [Int.emod_eq_of_lt x0 xn]; exact hx
   obtain ⟨P,eP⟩:=gJ C G x0 xn hx
   obtain ⟨R,eR⟩:=gJ C G y0 yn hy
   obtain ⟨e,_,_,he⟩:=G.pr.div (t:=y) x0 SA
   have UA:=cU (p:=p) (a:=a) (B:=B) x0 xn
   have UB:=cU (p:=p) (a:=a) (B:=B) y0 yn
   refine ⟨aN hc (by kernel_rfl),bW O hc ⟨aN hc (by kernel_rfl),cT O hc ⟨_,_,hp,i0,i1,h1,_,_,hr,x0,Lq.sl (Lq.sl xn nb) (by decide),UA,_,_,hp,j0,j1,g1,_,_,hr,y0,Lq.sl (Lq.sl yn nb) (by decide),UB,Lq.ls x0 xn,λ r2 Q3 l2 u2=>⟨(Lq.ls x0 xn),λ r3 Q4 l3 u3=>?_⟩⟩⟩⟩
   refine E5 (d:=d+1) O C ha (P:=P) (R:=R) (nn:=n) (x:=e) (by rw [← eP]; exact aH C G.on _) (by rw [← eP]; exact Od.mult C G.on G.od G.pr SA) (by rw [← eP,BI C G he,eR]) (Lq.ab l2 (Lq.w (Lq.sl u2 nb))) (Lq.ab l3 (Lq.w (Lq.sl u3 nb))) (by rw [eP]) (by rw [eR]) λ cc δ hcc=>q _ _ λ ec=>⟨λ e=>absurd e hy,λ _ _ h=>absurd (er.trans h) hh,λ _ _ _=>⟨e,he,by rw [← Q3,← Q4]; exact hcc (by simpa using ec)⟩⟩
def OC (bs:Bs) (d:Nat) (r p t u:Nat) (i i1 i2 i3 i4 N:Int) (s0:List AO) (Q:AV→List AO→Prop):Prop:=((((decide ((i2<(5:Int))))=true)→(bf p i s0 (λ x1=>(dI x1 (λ i7=>(bf u i s0 (λ x2=>(dB x2 (λ i8=>(ai (U bs) (d+10) (.cst (.ref gW)) [(.lst r),(.int i7),(.int i3),(.bool i8)] s0 (λ v6=>(λ s7=>(dB v6 (λ i9=>(((i9=true)→(Sy bs d p t u i i1 i3 i4 N s7 Q))∧((i9=false)→((((decide ((i2=(5:Int))))=true)→(QX bs d p t u i i1 i3 i4 N s7 Q))∧(((decide ((i2=(5:Int))))=false)→(QY bs d p t u i i1 i3 i4 N s7 Q)))))))))))))))))))∧(((decide ((i2<(5:Int))))=false)→((((decide ((i2=(5:Int))))=true)→(QX bs d p t u i i1 i3 i4 N s0 Q))∧(((decide ((i2=(5:Int))))=false)→(QY bs d p t u i i1 i3 i4 N s0 Q)))))
theorem OD (O:(U bs).Ok) (C:Cv p a b) (ha:0≤a∧a<p) (G:Gn p a b B n) (W:tS p a B n ω s k r pp t u ks vs us) (H:Gd c p a b ω σ) {i j e m w:Int} (i0:0≤i) (i1:i<ks.length) (j0:0≤j) (j1:j<ks.length) (hm0:m≠0) (hm:m.natAbs≤200) (hl:ks.length<1000)
 (q:∀ ω' σ' v r1,Gd c p a b ω' σ'→tS p a B n ω' s k r pp t u (ks++[r1]) (vs++[v]) (us++[false])→Q .none σ'):OC bs d r pp t u i j e m w n σ Q:=by
 have n5:=G.n5
 have nb:=G.nb
 obtain ⟨x,v,z,h1,h2,h3,hT,x0,xn⟩:=W.at' i0 i1
 refine ⟨λ _=>⟨_,_,H.raw W.pl,i0,Lq.sl (Lq.ss i1 (Lq.cs hl)) (by decide),h1,_,_,H.raw W.ub,i0,Lq.sl (Lq.ss i1 (Lq.cs hl)) (by decide),h3,sH (d:=d+3) O (H.raw W.ro) (by lia) (Lq.II nb) λ cc δ hcc=>⟨λ ec=>?_,λ _=>⟨λ _=>ID O C ha G (W.mono _) (H.tR δ) i0 i1 hl q,λ _=>IE O C ha G (W.mono _) (H.tR δ) i0 i1 j0 j1 hl q⟩⟩⟩,λ _=>⟨λ _=>ID O C ha G W H i0 i1 hl q,λ _=>IE O C ha G W H i0 i1 j0 j1 hl q⟩⟩
 refine Ox O C ha G (W.mono _) (H.tR δ) i0 i1 hm0 hm hl (λ x' z' e1 e2=>?_) q
 rw [h1] at e1
 rw [h3] at e2
 cases e1
 cases e2
 exact hcc ec
end
theorem CR (O:(U bs).Ok) {c:Nat} {P0 a b:Int} (C:Cv P0 a b) (ha:0≤a∧a<P0) {B:Int×Int} {N:Nat} (G:Gn P0 a b B N) {ω:List D} {s k r p t u:Nat} {ks:List Int} {vs:List AV} {us:List Bool} (W:tS P0 a B N ω s k r p t u ks vs us) (H:Gd c P0 a b ω σ) {i j m n x y:Int} {z z':Bool} (i0:0≤i) (i1:i<1000000) (j0:0≤j) (j1:j<1000000) (h1:(ks.map AV.int)[i.toNat]? = some (.int x)) (g1:(ks.map AV.int)[j.toNat]? = some (.int y)) (h3:(us.map AV.bool)[i.toNat]? = some (.bool z)) (g3:(us.map AV.bool)[j.toNat]? = some (.bool z')) (hx:x≠0) (x0:0≤x) (xn:x<N) (y0:0≤y) (yn:y<N)
 (q:∀ cc δ,(cc=true→KL N x y z z' m n)→Q (.bool cc) (σ++δ)):ai (U bs) (d+8) (.cst (.ref yq)) [.tup [.inst au c,.lst r,.lst p,.lst t,.lst u],.int i,.int j,.int m,.int n] σ Q :=
 ai.of O (T:=T0) (by kernel_rfl) (by kernel_rfl) λ L=>Eq.mp (α:=aD r σ λ xs=>xs.length≤1000000∧bf p j σ λ x=>dI x λ i1=>((decide (i1=0))=true→bf p i σ λ x1=>dI x1 λ i2=>bf u i σ λ x2=>dB x2 λ i3=>ai (U bs) (d+7) (.cst (.ref 538)) [.lst r,.int i2,.int m,.bool i3] σ λ v s=>dB v λ i4=>Q (.bool i4) s)∧((decide (i1=0))=false→bf u i σ λ x1=>dB x1 λ i2=>(i2=true→bf u j σ λ x2=>dB x2 λ i3=>(i3=true→Q (.bool true) σ)∧(i3=false→Q2 bs d c r p u i j m n ((xs.length:Nat):Int) σ Q))∧(i2=false→Q2 bs d c r p u i j m n ((xs.length:Nat):Int) σ Q))) (by kernel_rfl) (by
  have n5:=G.n5
  have nb:=G.nb
  have hu:=H.raw W.ub
  refine ⟨_,H.raw W.ro,by rw [eL]; exact Lq.bZ (Lq.II nb) (by decide),?_⟩
  rw [eL]
  refine ⟨_,_,H.raw W.pl,j0,j1,g1,λ hy=>?_,λ hy=>?_⟩
  · have hy:=of_decide_eq_true hy
    exact ⟨_,_,H.raw W.pl,i0,i1,h1,_,_,hu,i0,i1,h3,sH O (H.raw W.ro) (by lia) (Lq.II nb) λ cc δ hcc=>q _ _ λ ec=>⟨λ _=>hcc ec,λ h=>absurd hy h,λ h=>absurd hy h⟩⟩
  · have hy:=of_decide_eq_false hy
    have tw:=OB (bs:=bs) (d:=d) (Q:=Q) (m:=m) (w:=n) O C ha G W H i0 i1 j0 j1 h1 g1 h3 g3 hx x0 xn hy y0 yn q
    refine ⟨_,_,hu,i0,i1,h3,λ hz=>⟨_,_,hu,j0,j1,g3,λ hz'=>?_,λ _=>tw⟩,λ _=>tw⟩
    have:=q true [] λ _=>⟨λ e=>absurd e hy,(λ _ h=>by rw [hz,hz'] at h; exact nomatch h),(λ _ h=>by rw [hz,hz'] at h; exact nomatch h)⟩
    rw [List.append_nil] at this
    exact this)
theorem E8 (O:(U bs).Ok) {c:Nat} {P0 a b:Int} (C:Cv P0 a b) (ha:0≤a∧a<P0) {B:Int×Int} {N:Nat} (G:Gn P0 a b B N) {ω:List D} {s k r p t u:Nat} {ks:List Int} {vs:List AV} {us:List Bool} (W:tS P0 a B N ω s k r p t u ks vs us) (H:Gd c P0 a b ω σ) (hl:ks.length<1000)
 (q:∀ ω' σ' v r1,Gd c P0 a b ω' σ'→tS P0 a B N ω' s k r p t u (ks++[r1]) (vs++[v]) (us++[false])→Q .none σ'):ai (U bs) (d+11) (.cst (.ref tO)) [.lst s,.tup [.inst au c,.lst r,.lst p,.lst t,.lst u]] σ Q :=
 ai.of O (T:=T0) (by kernel_rfl) (by kernel_rfl) λ L=>Eq.mp (α:=aD r σ λ xs=>xs.length≤1000000∧aD p σ λ dF=>dF.length≤1000000∧ai (U bs) (d+10) (.cst (.ref 428)) [.lst s,.int ((dF.length:Nat):Int)] σ λ v s1=>dI v λ i=>aD p s1 λ yv=>yv.length≤1000000∧ai (U bs) (d+10) (.cst (.ref 428)) [.lst s,.int ((yv.length:Nat):Int)] s1 λ v1 s2=>dI v1 λ i1=>ai (U bs) (d+10) (.cst (.ref 428)) [.lst s,.int 8] s2 λ v2 s3=>dI v2 λ i2=>ai (U bs) (d+10) (.cst (.ref 552)) [.lst s] s3 λ v3 s4=>dI v3 λ i3=>ai (U bs) (d+10) (.cst (.ref 552)) [.lst s] s4 λ v4 s5=>dI v4 λ i4=>((decide (i2<3))=true→bf p i s5 λ x=>dI x λ i5=>((decide (i5≠0))=true→ai (U bs) (d+10) (.cst (.ref 545)) [.tup [.inst 88 c,.lst r,.lst p,.lst t,.lst u],.int i,.int i1,.int i3,.int i4] s5 λ v5 s6=>dB v5 λ i6=>(i6=true→Sz bs d p t u i i1 i3 i4 ((xs.length:Nat):Int) s6 Q)∧(i6=false→OC bs d r p t u i i1 i2 i3 i4 ((xs.length:Nat):Int) s6 Q))∧((decide (i5≠0))=false→OC bs d r p t u i i1 i2 i3 i4 ((xs.length:Nat):Int) s5 Q))∧((decide (i2<3))=false→OC bs d r p t u i i1 i2 i3 i4 ((xs.length:Nat):Int) s5 Q)) (by kernel_rfl) (by
  have l0:=W.l0
  have lk:(ks.map AV.int).length≤1000000:=by rw [List.length_map]; exact Lq.nw (Lq.xH hl (by decide))
  have ll:(ks.map AV.int).length=ks.length:=List.length_map ..
  refine ⟨_,H.raw W.ro,by rw [eL]; have:=G.nb; exact Lq.bZ (Lq.II this) (by decide),_,H.raw W.pl,lk,?_⟩
  rw [eL]
  refine fj (d:=d+9) O H W.st W.ce (Lq.sl (Lq.cs l0) (Lq.cl (Nat.le_of_eq ll.symm))) (Lq.w (Lq.sl (Lq.ls (Lq.cl (Nat.le_of_eq ll)) (Lq.cs hl)) (by decide))) λ i σ1 H1 i0 i1=>⟨_,H1.raw W.pl,lk,fj (d:=d+9) O H1 W.st W.ce (Lq.ls i0 i1) (Lq.w (Lq.sl (Lq.ls (Lq.cl (Nat.le_of_eq ll)) (Lq.cs hl)) (by decide))) λ j σ2 H2 j0 j1=>fj (d:=d+9) O H2 W.st W.ce (by decide) (by decide) λ e σ3 H3 _ _=>E7 (d:=d+8) O H3 W.st W.ce λ m σ4 H4 hm0 hm=>E7 (d:=d+8) O H4 W.st W.ce λ w σ5 H5 hw0 hw=>?_⟩
  rw [ll] at i1 j1
  have el:∀ {ω':List D} {σ':List AO},tS P0 a B N ω' s k r p t u ks vs us→Gd c P0 a b ω' σ'→OC bs d r p t u i j e m w N σ' Q:=λ W' H'=>OD O C ha G W' H' i0 i1 j0 j1 hm0 hm hl q
  obtain ⟨x,v,z,h1,h2,h3,hT,x0,xn⟩:=W.at' i0 i1
  obtain ⟨y,v',z',g1,g2,g3,gT,y0,yn⟩:=W.at' j0 j1
  refine ⟨λ _=>⟨_,_,H5.raw W.pl,i0,Lq.sl (Lq.ss i1 (Lq.cs hl)) (by decide),h1,λ hx=>?_,λ _=>el W H5⟩,λ _=>el W H5⟩
  have hx:x≠0:=of_decide_eq_true hx
  refine CR (d:=d+2) O C ha G W H5 i0 (Lq.sl (Lq.ss i1 (Lq.cs hl)) (by decide)) j0 (Lq.sl (Lq.ss j1 (Lq.cs hl)) (by decide)) h1 g1 h3 g3 hx x0 xn y0 yn λ cc δ hcc=>⟨λ ec=>?_,λ _=>el (W.mono _) (H5.tR δ)⟩
  refine Oz O C ha G (W.mono _) (H5.tR δ) i0 i1 j0 j1 hm0 hm hw0 hw hl (λ x' y' z1 z2 e1 e2 e3 e4=>?_) q
  rw [h1] at e1
  rw [g1] at e2
  rw [h3] at e3
  rw [g3] at e4
  cases e1
  cases e2
  cases e3
  cases e4
  exact ⟨hx,hcc ec⟩)
end
end
noncomputable section
section
variable {bs:Bs} {d:Nat} {σ:List AO} {Q:AV→List AO→Prop}
theorem OE:∀ Ss:List G,lY sC (Ss.map cu)=some (Ss.map dj):=λ Ss=>by
 induction Ss with
 | nil=>rfl
 | cons S r ih =>
  show (match sC (cu S) with | some d=>(match lY sC (r.map cu) with | some ds=>some (d :: ds) | none=>none) | none=>none)=_
  rw [BH,ih]; rfl
theorem Q6 (Ss:List G):PyData.canLayAll0 (Ss.map dj)=true:=by
 induction Ss with
 | nil=>rfl
 | cons S r ih =>
  show (PyData.canLay0 (dj S)&&PyData.canLayAll0 (r.map dj))=true
  rw [ih]; cases S<;>rfl
theorem Q7 (Ss:List G):PyData.depthAll (Ss.map dj)≤1:=by
 induction Ss with
 | nil=>exact Nat.zero_le _
 | cons S r ih =>
  show max (PyData.depth (dj S)) (PyData.depthAll (r.map dj))≤1
  exact Nat.max_le.mpr ⟨by cases S with
   | none=>exact Nat.zero_le _
   | some P=>exact Nat.le_of_eq rfl,ih⟩
theorem Q8 (Ss:List G):PyData.eqvAll (Ss.map dj) (Ss.map dj)=true:=by
 induction Ss with
 | nil=>rfl
 | cons S r ih =>
  show (PyData.eqv (dj S) (dj S)&&PyData.eqvAll (r.map dj) (r.map dj))=true
  rw [ih,Bool.and_true]
  cases S with
  | none=>rfl
  | some P=>unfold dj; simp [PyData.eqv,PyData.eqvAll]
theorem Q9 (hd:3≤d) {m1 m2:Nat} {Ss:List G} (h1:σ[m1]? = some (.lst (Ss.map cu))) (h2:σ[m2]? = some (.lst (Ss.map cu))) (q:Q (.bool true) σ):aA (U bs) d .Eq (.lst m1) (.lst m2) σ Q:=by
 have e:∀ {m:Nat},σ[m]? = some (.lst (Ss.map cu))→wR σ (.lst m)=some (.list (Ss.map dj)):=λ {m} h=>by
  show (match σ[m]? with
   | some (.lst xs)=>(match lY sC xs with | some ds=>some (PyData.list ds) | none=>none)
   | _=>none)=_
  rw [h]
  show (match lY sC (Ss.map cu) with | some ds=>some (PyData.list ds) | none=>none)=_
  rw [OE]
 have hs:PySem.SeqAt.shaped (.list (Ss.map dj))=true:=by
  show (PyData.canLayAll0 (Ss.map dj)&&decide (PyData.depthAll (Ss.map dj)+1≤64))=true
  rw [Q6,decide_eq_true (by have:=Q7 Ss; exact Lq.bZ (Lq.OS _ this) (by decide))]; rfl
 refine aA.RX hd (e h1) (e h2) (by rw [hs]; rfl) ?_
 rw [show PyData.eqv (.list (Ss.map dj)) (.list (Ss.map dj))=true from Q8 Ss]
 exact q
section
variable {c:Nat} {p a b:Int} {ω:List D} {B:Int×Int} {n:Nat} {s k r pp t u:Nat} {ks:List Int} {vs:List AV} {us:List Bool}
theorem E9 (ω:List D) (E E':D):(ω++[E]).set ω.length E'=ω++[E']:=tu ω E E' []
theorem Gd.grow {xs:List AV} {s1:List AO} (H:Gd c p a b (ω++[.raw (.lst xs)]) s1) {L:Nat} (hL:L=ω.length) (x:AV):s1[L]? = some (.lst xs)∧Gd c p a b (ω++[.raw (.lst (xs++[x]))]) (s1.set L (.lst (xs++[x]))):=by
 subst hL
 have h:=bY ω (.raw (.lst xs)) []
 have H':=H.qU h (xs++[x])
 rw [E9] at H'
 exact ⟨H.raw h,H'⟩
theorem AL {m:Nat}:gI p a B (m+1)=gI p a B m++[cu (mul p a (m:Int) (some B))]:=by
 unfold gI; rw [List.range_succ,List.map_append]; rfl
inductive Ra (c:Nat) (p a b:Int) (ω:List D) (B:Int×Int) (n:Nat) (ks:List Int) (us:List Bool) (j:Int) (s:List AO):Prop
 | mk (vs:List AV) (δ:List D) (ej:j=(vs.length:Int)) (hj:vs.length≤3) (H:Gd c p a b (ω++.raw (.lst vs) :: δ) s) (h:∀ (i:Nat) x v z,ks[i]? = some x→vs[i]? = some v→us[i]? = some z→zM p a (ω++.raw (.lst vs) :: δ) n B x z v):Ra c p a b ω B n ks us j s
theorem take_snoc {α:Type} {l:List α} {i:Nat} {x:α} (h:l[i]? = some x):l.take (i+1)=l.take i++[x]:=by
 rw [List.take_add_one,h]; rfl
theorem zN (O:(U bs).Ok) (C:Cv p a b) (H:Gd c p a b ω σ) {x:Int} {z:Bool} {v:AV} {m:Int} (h:zM p a ω m B x z v) (q:Q (cu (mul p a x (some B))) σ):ai (U bs) (d+3) (.cst (.ref fC)) [v,.int p] σ Q:=by
 obtain ⟨g,_,h⟩:=h
 exact zL O C H h.den q
end
end
end
noncomputable section
section
variable {bs:Bs} {d:Nat} {σ:List AO} {Q:AV→List AO→Prop}
section
variable {c:Nat} {p a b:Int} {ω:List D} {B:Int×Int} {n:Nat} {s k r pp t u:Nat} {ks:List Int} {vs:List AV} {us:List Bool}
def SD (bs:Bs) (d cc ss r pp t:Nat) (P N:Int) (σ0:List AO) (Q:AV→List AO→Prop):Prop:=(bf r (1:Int) σ0 (λ x1=>(ai (U bs) (d+11) (.cst (.ref gV)) [(.lst ss),(.inst au cc),x1,(.int N),(.bool true)] σ0 (λ v7=>(λ s7=>(dO ah v7 (λ tY=>(bf r (2:Int) s7 (λ x2=>(ai (U bs) (d+11) (.cst (.ref gV)) [(.lst ss),(.inst au cc),x2,(.int N),(.bool true)] s7 (λ v8=>(λ s8=>(dO ah v8 (λ Iw=>((aC tY "mul_add" s8)∧(ai (U bs) (d+11) (.cst (.ref bP)) [(.inst ah tY),(.int (2:Int)),(.inst ah Iw),(.int (1:Int))] s8 (λ v9=>(λ s9=>(ai (U bs) (d+11) (.cst (.ref fC)) [v9,(.int P)] s9 (λ v10=>(λ BG=>(bf r (4:Int) BG (λ x3=>(aA (U bs) (d+11) .NotEq v10 x3 BG (λ a1=>(λ a2=>(dB a1 (λ c=>(((c=true)→(Q (.bool false) a2))∧((c=false)→(∃ ys:List AV,((a2[t]? = some (AO.lst (ys.map (λ a3=>a3))))∧(∃ I5:Nat→List AO→Prop,((I5 0 (a2++[(AO.lst [])]))∧(∀ i12:Nat,(∀ qe:List AO,((I5 i12 qe)→((qe[t]? = some (AO.lst (ys.map (λ a3=>a3))))∧((∀ y2:AV,((ys[i12]? = some y2)→(ai (U bs) (d+11) (.cst (.ref fC)) [y2,(.int P)] qe (λ v11=>(λ xF=>(aD (a2).length xF (λ dF=>(((dF).length≤1000000)∧(I5 (i12+1) (xF.set (a2).length (AO.lst (dF++[v11]))))))))))))∧((i12=(ys).length)→(∃ G2:List Int,((qe[pp]? = some (AO.lst (G2.map (λ a3=>(.int a3)))))∧(∃ I6:Nat→List AO→Prop,((I6 0 (qe++[(AO.lst [])]))∧(∀ Lc:Nat,(∀ tB:List AO,((I6 Lc tB)→((tB[pp]? = some (AO.lst (G2.map (λ a3=>(.int a3)))))∧((∀ y2:Int,((G2[Lc]? = some y2)→(bf r y2 tB (λ x4=>(aD (qe).length tB (λ dF=>(((dF).length≤1000000)∧(I6 (Lc+1) (tB.set (qe).length (AO.lst (dF++[x4])))))))))))∧((Lc=(G2).length)→(aA (U bs) (d+11) .Eq (.lst (a2).length) (.lst (qe).length) tB (λ v11=>(λ xF=>(dB v11 (λ c1=>(Q (.bool c1) xF))))))))))))))))))))))))))))))))))))))))))))))))))))))))
theorem KO (O:(U bs).Ok) (C:Cv p a b) (ha:0≤a∧a<p) (G:Gn p a b B n) (W:tS p a B n ω s k r pp t u ks vs us) (H:Gd c p a b ω σ) (q:∀ s,Q (.bool true) s):SD bs d c s r pp t p n σ Q:=by
 have n5:=G.n5
 have nb:=G.nb
 obtain ⟨P,eP⟩:=gJ C G (x:=1) (by decide) (by lia) (by decide)
 obtain ⟨R,eR⟩:=gJ C G (x:=2) (by decide) (by lia) (by decide)
 have g1:=cU (p:=p) (a:=a) (B:=B) (n:=n) (i:=1) (by decide) (by lia)
 have g2:=cU (p:=p) (a:=a) (B:=B) (n:=n) (i:=2) (by decide) (by lia)
 have g4:=cU (p:=p) (a:=a) (B:=B) (n:=n) (i:=4) (by decide) (by lia)
 rw [eP] at g1
 rw [eR] at g2
 have hP:On p a b (some P):=by rw [← eP]; exact aH C G.on _
 have hR:On p a b (some R):=by rw [← eR]; exact aH C G.on _
 have Lh:Od p a n (some P):=by rw [← eP]; exact Od.mult C G.on G.od G.pr (by rw [Int.emod_eq_of_lt (by decide) (by lia)]; decide)
 have G4:Od p a n (some R):=by rw [← eR]; exact Od.mult C G.on G.od G.pr (by rw [Int.emod_eq_of_lt (by decide) (by lia)]; decide)
 have QZ:some R=mul p a 2 (some P):=by rw [← eP,← bF C G.on]; exact eR.symm
 have e4:mul p a (2+1*2) (some P)=mul p a 4 (some B):=by rw [← eP,← bF C G.on]; rfl
 obtain ⟨P1,P2⟩:=P
 obtain ⟨R1,R2⟩:=R
 refine ⟨_,_,H.raw W.ro,by decide,by decide,g1,yy (d:=d+8) O C H W.st W.ce hP λ s1 H1=>⟨rfl,_,_,H1.raw (ak W.ro _),by decide,by decide,g2,yy (d:=d+8) O C H1 (ak W.st _) (ak W.ce _) hR λ s2 H2=>⟨rfl,?_⟩⟩⟩
 have hn1:=ak (bY ω (D.pj (P1,P2) (.int n) true) [D.tab []]) [D.pj (R1,R2) (.int n) true,D.tab []]
 have hm1:=bY (ω++[D.pj (P1,P2) (.int n) true,D.tab []]) (D.pj (R1,R2) (.int n) true) [D.tab []]
 have W2:=(W.mono [D.pj (P1,P2) (.int n) true,D.tab []]).mono [D.pj (R1,R2) (.int n) true,D.tab []]
 refine ⟨H2.BR hn1 (λ _ _ _ _=>by kernel_rfl),zK (d:=d+2) O C ha H2 hn1 hm1 Lh G4 G.pr.2.1 (by lia) G.nb QZ (by decide) (by decide) (λ h=>nomatch h) (λ h=>nomatch h) λ v δ s3 H3 D3=>zL (d:=d+8) O C H3 D3 ?_⟩
 rw [e4]
 have W3:=W2.mono δ
 refine ⟨_,_,H3.raw W3.ro,by decide,by decide,g4,Sw (by lia) ⟨λ h=>(nomatch h),λ _=>?_⟩⟩
 generalize ω++[D.pj (P1,P2) (.int n) true,D.tab []]++[D.pj (R1,R2) (.int n) true,D.tab []]++δ=ω3 at H3 W3
 clear H2 D3 hn1 hm1 W2 W H
 have lv:=W3.lv
 have lb:=W3.lb
 have lm:=W3.lm
 have h3:=H3.len
 have H4:=H3.bg (.lst [])
 refine ⟨vs,by rw [List.map_id']; exact H3.raw W3.tl,λ i s4=>i≤vs.length∧Gd c p a b (ω3++[.raw (.lst (((ks.take i).map λ x=>mul p a x (some B)).map cu))]) s4,⟨Nat.zero_le _,H4⟩,λ i s4 hI=>?_⟩
 obtain ⟨hi,H5⟩:=hI
 refine ⟨by rw [List.map_id']; exact H5.raw (ak W3.tl _),λ v ev=>?_,λ ei=>?_⟩
 · have hi':=(List.getElem?_eq_some_iff.mp ev).1
   have ek:=List.getElem?_eq_getElem (show i<ks.length by rw [← lv]; exact hi')
   have eu:=List.getElem?_eq_getElem (show i<us.length by rw [lb,← lv]; exact hi')
   refine zN (d:=d+8) O C H5 ((W3.td i _ v _ ek ev eu).mono _) ?_
   obtain ⟨h1,h2⟩:=H5.grow h3 (cu (mul p a ks[i] (some B)))
   refine ⟨_,h1,?_,hi',?_⟩
   · rw [List.length_map,List.length_map,List.length_take]; exact Lq.bZ (Lq.bZ (Nat.min_le_right _ _) lm) (by decide)
   · rw [take_snoc ek,List.map_append,List.map_append]; exact h2
 · have full:ks.take i=ks:=by rw [ei,lv]; exact List.take_length
   rw [full] at H5
   have h5:=H5.len
   have W5:=W3.mono [.raw (.lst ((ks.map λ x=>mul p a x (some B)).map cu))]
   have hA:=bY ω3 (.raw (.lst ((ks.map λ x=>mul p a x (some B)).map cu))) []
   rw [← h3] at hA
   generalize ω3++[.raw (.lst ((ks.map λ x=>mul p a x (some B)).map cu))]=ω5 at H5 h5 W5 hA
   refine ⟨ks,H5.raw W5.pl,λ j s6=>j≤ks.length∧Gd c p a b (ω5++[.raw (.lst (((ks.take j).map λ x=>mul p a x (some B)).map cu))]) s6,⟨Nat.zero_le _,H5.bg (.lst [])⟩,λ j s6 hJ=>?_⟩
   obtain ⟨hj,H7⟩:=hJ
   refine ⟨H7.raw (ak W5.pl _),λ y ey=>?_,λ ej=>?_⟩
   · have hy:=W5.kb y (List.mem_of_getElem? ey)
     obtain ⟨h1,h2⟩:=H7.grow h5 (cu (mul p a y (some B)))
     refine ⟨_,_,H7.raw (ak W5.ro _),hy.1,Lq.sl (Lq.sl hy.2 nb) (by decide),cU hy.1 hy.2,_,h1,?_,(List.getElem?_eq_some_iff.mp ey).1,?_⟩
     · rw [List.length_map,List.length_map,List.length_take]; exact Lq.bZ (Lq.bZ (Nat.min_le_right _ _) lm) (by decide)
     · rw [take_snoc ey,List.map_append,List.map_append]; exact h2
   · rw [ej,List.take_length] at H7
     have hB:=bY ω5 (.raw (.lst ((ks.map λ x=>mul p a x (some B)).map cu))) []
     rw [← h5] at hB
     exact Q9 (by lia) (H7.raw (ak hA _)) (H7.raw hB) (q _)
end
end
end
noncomputable section
section
variable {bs:Bs} {d:Nat} {σ:List AO} {Q:AV→List AO→Prop}
section
variable {c:Nat} {p a b:Int} {ω:List D} {B:Int×Int} {n:Nat} {s k r pp t u:Nat} {ks:List Int} {vs:List AV} {us:List Bool}
def SE (bs:Bs) (d cc ss r pp t u:Nat) (P N:Int) (σ0:List AO) (Q:AV→List AO→Prop):Prop:=(ai (U bs) (d+11) (.cst (.ref dz)) [(.lst ss),(.int (10:Int))] σ0 (λ v6=>(λ s6=>(dI v6 (λ i8=>((Builtin.Range.small (0:Int) ((1:Int)+i8) (1:Int)=true)∧(∃ I4:Int→List AO→Prop,((I4 (0:Int) s6)∧(∀ i9:Int,(∀ AM:List AO,((I4 i9 AM)→(((i9<((1:Int)+i8))→(ai (U bs) (d+11) (.cst (.ref tO)) [(.lst ss),(.tup [(.inst au cc),(.lst r),(.lst pp),(.lst t),(.lst u)])] AM (λ v7=>(λ s7=>(aD t s7 (λ dF=>(((dF).length≤1000000)∧(bf t ((((dF).length:Nat):Int)-(1:Int)) s7 (λ x1=>(ai (U bs) (d+11) (.cst (.ref fC)) [x1,(.int P)] s7 (λ v8=>(λ s8=>(aD pp s8 (λ yv=>(((yv).length≤1000000)∧(bf pp ((((yv).length:Nat):Int)-(1:Int)) s8 (λ x2=>(dI x2 (λ tY=>(bf r tY s8 (λ x3=>(aA (U bs) (d+11) .NotEq v8 x3 s8 (λ a1=>(λ a2=>(dB a1 (λ c=>(((c=true)→(Q (.bool false) a2))∧((c=false)→(I4 (i9+(1:Int)) a2)))))))))))))))))))))))))))))∧((((1:Int)+i8)≤i9)→(SD bs d cc ss r pp t P N AM Q))))))))))))))
theorem OF (O:(U bs).Ok) (C:Cv p a b) (ha:0≤a∧a<p) (G:Gn p a b B n) (W:tS p a B n ω s k r pp t u ks vs us) (H:Gd c p a b ω σ) (h3:ks.length=3) (q:∀ s,Q (.bool true) s):SE bs d c s r pp t u p n σ Q:=by
 have n5:=G.n5
 refine fj (d:=d+10) O H W.st W.ce (by decide) (by decide) λ m σ1 H1 m0 m1=>⟨gH (Lq.ll (by decide) (Lq.bl _ m0)) (Lq.w (Lq.sl (Lq.bs _ m1) (by decide))),λ i s1=>∃ ω' ks' vs' us',Gd c p a b ω' s1∧tS p a B n ω' s k r pp t u ks' vs' us'∧(ks'.length:Int)=3+i,⟨ω,ks,vs,us,H1,W,by rw [h3]; rfl⟩,λ i s1 hI=>?_⟩
 obtain ⟨ω',ks',vs',us',H2,W2,hl⟩:=hI
 refine ⟨λ hi=>E8 O C ha G W2 H2 (by lia) λ ω3 σ3 v r1 H3 W3=>?_,λ _=>KO O C ha G W2 H2 q⟩
 have e1:(ks'++[r1]).length=ks'.length+1:=by rw [List.length_append]; rfl
 have lv:(vs'++[v]).length=ks'.length+1:=W3.lv.trans e1
 have lm:((ks'++[r1]).map AV.int).length=ks'.length+1:=by rw [List.length_map,e1]
 have OG:=W3.lm
 rw [e1] at OG
 obtain ⟨x,v',z,h1,h2,_,hT,x0,xn⟩:=W3.at' (i:=(ks'.length:Int)) (Lq.z _) (by rw [e1]; exact Lq.cs (Lq.Lj (by decide)))
 have i1:((((ks'++[r1]).map AV.int).length:Nat):Int)-1=(ks'.length:Int):=by rw [lm]; lia
 have i2:(((vs'++[v]).length:Nat):Int)-1=(ks'.length:Int):=by rw [lv]; exact Lq.e (Lq.ll (Lq.dl _ (Lq.cl (Nat.le_of_eq lm.symm))) (Int.le_of_eq i1)) (Lq.ll (Int.le_of_eq i1.symm) (Lq.dl _ (Lq.cl (Nat.le_of_eq lm))))
 rw [← i1] at h1
 rw [← i2] at h2
 exact ⟨_,H3.raw W3.tl,by rw [lv]; exact Lq.bZ OG (by decide),_,v',H3.raw W3.tl,by rw [lv]; exact Lq.ll (Lq.ll (Lq.z _) (Int.le_of_eq i1.symm)) (Lq.dl _ (Lq.cl (Nat.le_of_eq lm))),by rw [lv]; exact Lq.ls (Lq.dl _ (Lq.cl OG)) (by decide),h2,zN (d:=d+8) O C H3 hT ⟨_,H3.raw W3.pl,by rw [lm]; exact Lq.bZ OG (by decide),_,_,H3.raw W3.pl,by rw [lm]; exact Lq.ll (Lq.ll (Lq.z _) (Int.le_of_eq i1.symm)) (Lq.dl _ (Lq.cl (Nat.le_of_eq lm))),by rw [lm]; exact Lq.ls (Lq.dl _ (Lq.cl OG)) (by decide),h1,_,_,H3.raw W3.ro,x0,by have:=G.nb; exact Lq.sl (Lq.sl xn this) (by decide),cU x0 xn,Sw (by lia) ⟨λ h=>(nomatch h),λ _=>⟨ω3,_,_,_,H3,W3,by rw [e1]; lia⟩⟩⟩⟩
theorem G9 {x:Int} {z:Bool} {vs:List AV} {δ':List D} {s':List AO} {mm L:Nat} {P:Int×Int} (eP:mul p a x (some B)=some P) (ek:ks[vs.length]? = some x) (eu:us[vs.length]? = some z) (hm:(ω++D.raw (.lst vs) :: δ')[mm]? = some (.pj P (.int n) z)) (Li:Gd c p a b (ω++D.raw (.lst vs) :: δ') s') (ht:(ω++D.raw (.lst vs) :: δ')[L]? = some (.raw (.lst vs))) (l9:L=ω.length) (hi:vs.length<3)
 (hT:∀ (i:Nat) x v z',ks[i]? = some x→vs[i]? = some v→us[i]? = some z'→zM p a (ω++D.raw (.lst vs) :: δ') n B x z' v):Ra c p a b ω B n ks us ((vs.length:Int)+1) (s'.set L (.lst (vs++[.inst ah mm]))):=by
 have SG:=Li.qU ht (vs++[.inst ah mm])
 have mv:=λ {x:Int} {z:Bool} {v:AV} (h:zM p a (ω++D.raw (.lst vs) :: δ') n B x z v)=>h.sG (E:=.raw (.lst (vs++[.inst ah mm]))) ht
 have hm2:=fk (E':=.raw (.lst (vs++[.inst ah mm]))) ht hm λ _ h=>nomatch h
 rw [l9,tu] at SG hm2
 simp only [l9,tu] at mv
 refine ⟨vs++[.inst ah mm],δ',by rw [List.length_append]; rfl,by rw [List.length_append]; exact hi,by rw [l9]; exact SG,λ i x' v' z' h1 h2 h3=>?_⟩
 by_cases hl:i<vs.length
 · rw [List.getElem?_append_left hl] at h2
   exact mv (hT i x' v' z' h1 h2 h3)
 · have hl:=Nat.not_lt.mp hl
   rw [List.getElem?_append_right hl] at h2
   have ez:i-vs.length=0:=by
    have:i-vs.length<1:=(List.getElem?_eq_some_iff.mp h2).1
    lia
   have ei:i=vs.length:=Lq.nz (by assumption) (by assumption)
   rw [ez] at h2
   subst ei
   rw [ek] at h1
   rw [eu] at h3
   cases h1
   cases h2
   cases h3
   exact ⟨z,id,by rw [eP]; exact ⟨mm,rfl,hm2⟩⟩
def SH (bs:Bs) (d cc ss r pp u:Nat) (P N:Int) (σ0:List AO) (Q:AV→List AO→Prop):Prop:=((Builtin.Range.small (0:Int) (3:Int) (1:Int)=true)∧(∃ I3:Int→List AO→Prop,((I3 (0:Int) (σ0++[(AO.lst [])]))∧(∀ i7:Int,(∀ di:List AO,((I3 i7 di)→(((i7<(3:Int))→(bf pp i7 di (λ x1=>(dI x1 (λ i8=>(bf r i8 di (λ x2=>(bf u i7 di (λ x3=>(dB x3 (λ i9=>(ai (U bs) (d+11) (.cst (.ref gV)) [(.lst ss),(.inst au cc),x2,(.int N),(.bool i9)] di (λ v6=>(λ s6=>(dO ah v6 (λ tY=>(aD (σ0).length s6 (λ dF=>(((dF).length≤1000000)∧(I3 (i7+(1:Int)) (s6.set (σ0).length (AO.lst (dF++[(.inst ah tY)])))))))))))))))))))))))∧(((3:Int)≤i7)→(SE bs d cc ss r pp (σ0).length u P N di Q)))))))))
theorem OH (O:(U bs).Ok) (C:Cv p a b) (ha:0≤a∧a<p) (G:Gn p a b B n) (H9:Gd c p a b ω σ) (hs:ω[s]? = some (.st k)) (hk:ω[k]? = some .cells) (hr:ω[r]? = some (.raw (.lst (gI p a B n)))) (hp:ω[pp]? = some (.raw (.lst (ks.map .int)))) (hu:ω[u]? = some (.raw (.lst (us.map .bool)))) (lr:r<pp) (lp:pp<u) (ls:u<σ.length) (l3:ks.length=3) (lu:us.length=3) (hks:∀ x∈ks,1≤x∧x<(n:Int)) (q:∀ s,Q (.bool true) s):SH bs d c s r pp u p n σ Q:=by
 have l9:=H9.len
 have nb:=G.nb
 refine ⟨gH (by decide) (by decide),λ i s=>Ra c p a b ω B n ks us i s,⟨[],[],rfl,by decide,H9.bg (.lst []),λ i x v z _ h _=>nomatch h⟩,λ i s hI=>?_⟩
 clear H9
 obtain ⟨vs,δ,rfl,KJ,OI,hT⟩:=hI
 refine ⟨λ hi=>?_,λ hi=>?_⟩
 · have hi:vs.length<3:=(Lq.Pf hi)
   have ek:=List.getElem?_eq_getElem (show vs.length<ks.length by exact Lq.xH hi (Nat.le_of_eq l3.symm))
   have eu:=List.getElem?_eq_getElem (show vs.length<us.length by exact Lq.xH hi (Nat.le_of_eq lu.symm))
   obtain ⟨x1,xK⟩:=hks _ (List.mem_of_getElem? ek)
   generalize ks[vs.length]'(Lq.xH hi (Nat.le_of_eq l3.symm))=x at ek x1 xK
   generalize us[vs.length]'(Lq.xH hi (Nat.le_of_eq lu.symm))=z at eu
   obtain ⟨P,eP⟩:=gJ C G (Lq.ll (by decide) x1) xK (by lia)
   have hP:On p a b (some P):=by rw [← eP]; exact aH C G.on _
   have gx:=cU (p:=p) (a:=a) (B:=B) (n:=n) (i:=x) (Lq.ll (by decide) x1) xK
   rw [eP] at gx
   obtain ⟨P1,P2⟩:=P
   refine ⟨_,_,OI.raw (ak hp _),Lq.z _,Lq.ls (Lq.cl KJ) (by decide),(show (ks.map AV.int)[((vs.length:Nat):Int).toNat]? = some (.int x) by rw [Int.toNat_natCast,List.getElem?_map,ek]; rfl),_,_,OI.raw (ak hr _),Lq.ll (by decide) x1,Lq.sl (Lq.sl xK nb) (by decide),gx,_,_,OI.raw (ak hu _),Lq.z _,Lq.ls (Lq.cl KJ) (by decide),(show (us.map AV.bool)[((vs.length:Nat):Int).toNat]? = some (.bool z) by rw [Int.toNat_natCast,List.getElem?_map,eu]; rfl),yy (d:=d+8) O C OI (ak hs _) (ak hk _) hP λ s' Li=>⟨rfl,?_⟩⟩
   have hm:=bY (ω++.raw (.lst vs) :: δ) (D.pj (P1,P2) (.int n) z) [D.tab []]
   have e:ω++D.raw (.lst vs) :: δ++[D.pj (P1,P2) (.int n) z,.tab []]=ω++D.raw (.lst vs) :: (δ++[D.pj (P1,P2) (.int n) z,.tab []]):=List.append_assoc ..
   have ht:=bY ω (.raw (.lst vs)) (δ++[D.pj (P1,P2) (.int n) z,.tab []])
   have Rb:=λ i x v z' h1 h2 h3=>(hT i x v z' h1 h2 h3).mono [D.pj (P1,P2) (.int n) z,.tab []]
   rw [e] at Li hm
   simp only [e] at Rb
   generalize (ω++D.raw (.lst vs) :: δ).length=mm at hm ⊢
   generalize δ++[D.pj (P1,P2) (.int n) z,.tab []]=δ' at Li hm ht Rb
   rw [← l9] at ht
   exact ⟨vs,Li.raw ht,Lq.bZ KJ (by decide),G9 eP ek eu hm Li ht l9 hi Rb⟩
 · have UC:vs.length=3:=(Lq.ne KJ (Lq.IG hi))
   have ht:=bY ω (.raw (.lst vs)) δ
   rw [← l9] at ht
   exact OF O C ha G (k:=k) (ks:=ks) (vs:=vs) (us:=us) ⟨ak hs _,ak hk _,ak hr _,ak hp _,ht,ak hu _,Lq.nx (Lq.nss lp ls),Lq.nx lp,Lq.ny ls,Lq.ny lr,Lq.ny (Lq.nss (Lq.nss lr lp) ls),Lq.ny (Lq.nss lr lp),Lq.ne (Lq.bZ KJ (Nat.le_of_eq l3.symm)) (Lq.bZ (Nat.le_of_eq l3) (Nat.le_of_eq UC.symm)),Lq.ne (Lq.bZ (Nat.le_of_eq lu) (Nat.le_of_eq l3.symm)) (Lq.bZ (Nat.le_of_eq l3) (Nat.le_of_eq lu.symm)),by lia,Lq.bZ (Nat.le_of_eq l3) (by decide),λ x hx=>by have:=hks x hx; exact ⟨Lq.ll (by decide) this.1,this.2⟩,hT⟩ OI l3 q
def SI (bs:Bs) (d cc ss r pp:Nat) (P N:Int) (σ0:List AO) (Q:AV→List AO→Prop):Prop:=((Builtin.Range.small (0:Int) (3:Int) (1:Int)=true)∧(∃ I2:Int→List AO→Prop,((I2 (0:Int) (σ0++[(AO.lst [])]))∧(∀ i6:Int,(∀ bM:List AO,((I2 i6 bM)→(((i6<(3:Int))→(ai (U bs) (d+11) (.cst (.ref dz)) [(.lst ss),(.int (2:Int))] bM (λ v6=>(λ s6=>(dI v6 (λ i7=>(aD (σ0).length s6 (λ dF=>(((dF).length≤1000000)∧(I2 (i6+(1:Int)) (s6.set (σ0).length (AO.lst (dF++[(.bool (decide ((i7=(0:Int)))))])))))))))))))∧(((3:Int)≤i6)→(SH bs d cc ss r pp (σ0).length P N bM Q)))))))))
theorem OJ (O:(U bs).Ok) (C:Cv p a b) (ha:0≤a∧a<p) (G:Gn p a b B n) (H8:Gd c p a b ω σ) (hs:ω[s]? = some (.st k)) (hk:ω[k]? = some .cells) (hr:ω[r]? = some (.raw (.lst (gI p a B n)))) (hp:ω[pp]? = some (.raw (.lst (ks.map .int)))) (lr:r<pp) (lp:pp<σ.length) (l3:ks.length=3) (hks:∀ x∈ks,1≤x∧x<(n:Int)) (q:∀ s,Q (.bool true) s):SI bs d c s r pp p n σ Q:=by
 have l8:=H8.len
 refine ⟨gH (by decide) (by decide),λ i s=>∃ us:List Bool,i=us.length∧us.length≤3∧Gd c p a b (ω++[.raw (.lst (us.map .bool))]) s,⟨[],rfl,by decide,H8.bg _⟩,λ i s hI=>?_⟩
 clear H8
 obtain ⟨us,rfl,SJ,H9⟩:=hI
 refine ⟨λ hi=>fj (d:=d+10) O H9 (ak hs _) (ak hk _) (by decide) (by decide) λ x s' UD x0 x1=>?_,λ hi=>?_⟩
 · obtain ⟨g1,g2⟩:=UD.grow l8 (.bool (decide (x=0)))
   exact ⟨_,g1,by rw [List.length_map]; exact Lq.bZ SJ (by decide),us++[decide (x=0)],by rw [List.length_append]; rfl,by rw [List.length_append]; show us.length+1≤3; exact Lq.Pf hi,by rw [List.map_append]; exact g2⟩
 · have hu:=bY ω (.raw (.lst (us.map .bool))) []
   rw [← l8] at hu
   exact OH O C ha G H9 (ak hs _) (ak hk _) (ak hr _) (ak hp _) hu lr lp (by rw [H9.len,List.length_append,l8]; exact Nat.lt_succ_self _) l3 (Lq.ne SJ (Lq.IG hi)) hks q
def SK (bs:Bs) (d cc ss r:Nat) (P N:Int) (σ0:List AO) (Q:AV→List AO→Prop):Prop:=((Builtin.Range.small (0:Int) (3:Int) (1:Int)=true)∧(∃ I1:Int→List AO→Prop,((I1 (0:Int) (σ0++[(AO.lst [])]))∧(∀ i5:Int,(∀ bX:List AO,((I1 i5 bX)→(((i5<(3:Int))→(ai (U bs) (d+11) (.cst (.ref dz)) [(.lst ss),(.int (N-(1:Int)))] bX (λ v6=>(λ s6=>(dI v6 (λ i6=>(aD (σ0).length s6 (λ dF=>(((dF).length≤1000000)∧(I1 (i5+(1:Int)) (s6.set (σ0).length (AO.lst (dF++[(.int ((1:Int)+i6))])))))))))))))∧(((3:Int)≤i5)→(SI bs d cc ss r (σ0).length P N bX Q)))))))))
theorem OL (O:(U bs).Ok) (C:Cv p a b) (ha:0≤a∧a<p) (G:Gn p a b B n) (H7:Gd c p a b ω σ) (hs:ω[s]? = some (.st k)) (hk:ω[k]? = some .cells) (hr:ω[r]? = some (.raw (.lst (gI p a B n)))) (lr:r<σ.length) (q:∀ s,Q (.bool true) s):SK bs d c s r p n σ Q:=by
 have l7:=H7.len
 have n5:=G.n5
 have nb:=G.nb
 refine ⟨gH (by decide) (by decide),λ i s=>∃ ks:List Int,i=ks.length∧ks.length≤3∧(∀ x∈ks,1≤x∧x<(n:Int))∧Gd c p a b (ω++[.raw (.lst (ks.map .int))]) s,⟨[],rfl,by decide,(λ _ h=>nomatch h),H7.bg _⟩,λ i s hI=>?_⟩
 clear H7
 obtain ⟨ks,rfl,SM,hks,H8⟩:=hI
 refine ⟨λ hi=>fj (d:=d+10) O H8 (ak hs _) (ak hk _) (Lq.sl (Lq.sl (Lq.ls (Lq.z _) hi) (by decide)) (Lq.dl _ n5)) (Lq.ll (Lq.dl _ nb) (by decide)) λ x s' UE x0 x1=>?_,λ hi=>?_⟩
 · obtain ⟨g1,g2⟩:=UE.grow l7 (.int (1+x))
   refine ⟨_,g1,by rw [List.length_map]; exact Lq.bZ SM (by decide),ks++[1+x],by rw [List.length_append]; rfl,by rw [List.length_append]; show ks.length+1≤3; exact Lq.Pf hi,λ y hy=>?_,by rw [List.map_append]; exact g2⟩
   rcases List.mem_append.mp hy with hy | hy
   · exact hks y hy
   · rw [List.mem_singleton.mp hy]; lia
 · have hp:=bY ω (.raw (.lst (ks.map .int))) []
   rw [← l7] at hp
   exact OJ O C ha G H8 (ak hs _) (ak hk _) (ak hr _) hp lr (by rw [H8.len,List.length_append,l7]; exact Nat.lt_succ_self _) (Lq.ne SM (Lq.IG hi)) hks q
end
theorem Hf {n:Int} (h0:0≤n) (h:n≤1000000):Builtin.Range.small 1 n 1=true:=by
 have h1:(-(2^62):Int)≤1:=by decide
 have h2:(1000000:Int)<2^62:=by decide
 exact small_one h1 (by decide) (by lia) (Lq.ls h h2)
section
variable {c:Nat} {p a b:Int} {ω:List D} {B:Int×Int} {n:Nat} {s k:Nat}
def SN (bs:Bs) (d cc ss:Nat) (P e N:Int) (v:AV) (σ0:List AO) (Q:AV→List AO→Prop):Prop:=((Builtin.Range.small (1:Int) N (1:Int)=true)∧(∃ I:Int→List AO→Prop,((I (1:Int) (σ0++[(AO.lst [.none])]))∧(∀ i4:Int,(∀ aj:List AO,((I i4 aj)→(((i4<N)→(aD (σ0).length aj (λ x1=>(bf (σ0).length (i4-(1:Int)) aj (λ x2=>(ai (U bs) (d+11) (.cst (.ref bI)) [(.int P),(.int e),x2,v] aj (λ v6=>(λ s6=>(aD (σ0).length s6 (λ dF=>(((dF).length≤1000000)∧(I (i4+(1:Int)) (s6.set (σ0).length (AO.lst (dF++[v6])))))))))))))))∧((N≤i4)→(SK bs d cc ss (σ0).length P N aj Q)))))))))
theorem OM (O:(U bs).Ok) (C:Cv p a b) (ha:0≤a∧a<p) (G:Gn p a b B n) (H6:Gd c p a b ω σ) (hs:ω[s]? = some (.st k)) (hk:ω[k]? = some .cells) (q:∀ s,Q (.bool true) s):SN bs d c s p a n (we B) σ Q:=by
 have l6:=H6.len
 have n5:=G.n5
 have nb:=G.nb
 refine ⟨Hf (Lq.ll (by decide) n5) (Lq.ll nb (by decide)),λ i s=>∃ K:Nat,i=K∧1≤K∧K≤n∧s=σ++[.lst (gI p a B K)],⟨1,rfl,Nat.le_refl _,Lq.bZ (by decide) (Lq.IG n5),rfl⟩,λ i s hI=>?_⟩
 obtain ⟨K,rfl,K1,KN,rfl⟩:=hI
 refine ⟨λ hi=>?_,λ hi=>?_⟩
 · refine ⟨_,getLast _ _,_,_,getLast _ _,Lq.dl _ (Lq.cl K1),Lq.sl (Lq.sl (Lq.ls (Lq.sp _ (by decide)) hi) nb) (by decide),cU (Lq.dl _ (Lq.cl K1)) (Lq.sq _ (by decide)),c9 (d:=d+7) O C ha (aH C G.on _) G.on ⟨_,getLast _ _,by rw [eL]; exact Lq.bZ (Lq.bZ KN (Lq.II nb)) (by decide),K+1,rfl,Lq.bZ (by decide) (Lq.OS _ K1),Lq.us hi,?_⟩⟩
   rw [gY,AL,← mul_succ C G.on,show (K:Int)-1+1=K by lia]
 · have eK:K=n:=(Lq.ne KN (Lq.ul hi))
   subst eK
   have hr:=bY ω (.raw (.lst (gI p a B K))) []
   rw [← l6] at hr
   exact OL O C ha G (H6.bg (.lst (gI p a B K))) (ak hs _) (ak hk _) hr (by rw [List.length_append]; exact Nat.lt_succ_self _) q
end
theorem KP (O:(U bs).Ok) {sc:Addr} {vs:List Value} {ns:List Int} (h1:(U bs).hb.IsList sc vs.toArray) (h2:IntsAre vs ns) (h3:ns.length≤63) (q:∀ s,Q (.bool true) s) :
 ai (U bs) (d+12) (.cst (.ref Ew)) [.cst (.ref sc)] σ Q :=
 ai.of O (T:=T0) (by kernel_rfl) (by kernel_rfl) λ L=>Eq.mp (α:=ai (U bs) (d+11) (.cst (.ref 421)) [.cst (.ref sc)] σ λ v s=>dL v λ i=>ai (U bs) (d+11) (.cst (.ref 435)) [.lst i] s λ v1 s1=>d3 v1 λ x y z=>ai (U bs) (d+11) (.cst (.ref 88)) [.int x,.int y,.int z] s1 λ v2 s2=>dO 88 v2 λ i1=>ai (U bs) (d+11) (.cst (.ref 442)) [.int x,.int y,.int z] s2 λ v3 s3=>dL v3 λ i2=>aD i2 s3 λ xs=>xs.length≤1000000∧ai (U bs) (d+11) (.cst (.ref 428)) [.lst i,.int ((xs.length:Nat):Int)] s3 λ v4 s4=>dI v4 λ i3=>ai (U bs) (d+11) (.cst (.ref 482)) [.int x,.int y,.lst i2,.int i3] s4 λ v5 s5=>dP v5 (λ a y1=>((decide (y1<5))=true→Q (.bool true) s5)∧((decide (y1<5))=false→SN bs d i1 i x y y1 a s5 Q))) (by kernel_rfl) (by
  refine CN (d:=d+10) O h1 h2 h3 λ st k σ1 S1=>CF (d:=d+9) O S1 λ p a b σ2 C ha hb S2=>G8 (d:=d+9) O ⟨rfl,?_⟩
  obtain ⟨ω,hs,hk,hl,H⟩:=(⟨rfl,S2.st,S2.cells⟩:Sk σ2 st k σ2.length).good p a b
  have hh:=C.hi
  have Hp:=C.pos
  generalize σ2.length=c at H ⊢
  generalize σ2++[AO.inst (fU p a b)]=σ3 at H ⊢
  refine AH (d:=d+10) O C ha λ s m ps hP hm mG hlen hne hm0=>?_
  have h0:0<ps.length:=List.length_pos_iff.mpr (by
   obtain ⟨x,y,x0,x1,y0,y1,e⟩:=C.point ha hb
   exact hne x y x0 x1 y0 y1 e)
  obtain ⟨τ,rfl⟩:=hP
  have SO:=H.len
  have H:=H.tR τ
  have hs:=ak hs (τ.map D.raw)
  have hk:=ak hk (τ.map D.raw)
  have hM:(ω++τ.map D.raw)[m]? = some (.raw (.lst (ps.map we))):=by
   have hm2:=hm
   rw [List.getElem?_append_right hm0] at hm2
   rw [List.getElem?_append_right (by rw [← SO]; exact hm0),List.getElem?_map,← SO,hm2]
   rfl
  generalize σ3++τ=σ4 at H hm ⊢
  generalize ω++τ.map D.raw=ω4 at H hs hk hM
  refine ⟨_,hm,by rw [List.length_map]; exact Lq.bZ hlen (by decide),fj (d:=d+10) O H hs hk (by rw [List.length_map]; exact Lq.cs h0) (by rw [List.length_map]; exact Lq.cl hlen) λ v σ5 H5 _ _=>?_⟩
  refine GV (d:=d+5) O C ha (H5.raw hM) h0 hlen mG (λ s' _=>⟨λ _=>q _,λ h=>absurd h (by decide)⟩) λ s' B n hp hB od hn hnb=>⟨λ _=>q _,λ h5=>?_⟩
  have h5:=of_decide_eq_false h5
  obtain ⟨τ5,rfl⟩:=hp
  have H6:=H5.tR τ5
  have hs:=ak hs (τ5.map D.raw)
  have hk:=ak hk (τ5.map D.raw)
  clear hm H H5 hM
  generalize ω4++τ5.map D.raw=ω6 at H6 hs hk
  generalize σ5++τ5=σ6 at H6 ⊢
  obtain ⟨N,rfl⟩:∃ N:Nat,n=N:=⟨n.toNat,by lia⟩
  have G:Gn p a b B N:=⟨hB,od,hn,Lq.n h5,by lia⟩
  exact OM O C ha G H6 hs hk q)
end
end
end JL
namespace JL
open PySem PySem.W PySem.Calls PyProof.Rows
set_option maxHeartbeats 0
noncomputable section
noncomputable abbrev SP (w:PySem.World) (hb:Heap) (mg mb:Str→Option Value) (hid:List Addr):Wl:=⟨pw,w,K0 w.params,hb,mg,mb,hid,Ij⟩
noncomputable abbrev gT:List (Addr×Addr):=[(364,360)]
theorem KQ {w:PySem.World} {hb:Heap} {mg:Str→Option Value} (KX:(K0 w.params).In hb) (g:hb.Ns mainGlobals mg):mg (Str.ofString "law")=some (.ref Ew):=mg_of KX g (by kernel_rfl)
theorem Hg {a b:Addr} (h:some (Value.ref a)=some (.ref b)):a=b:=by injection h with h; injection h
theorem KR (args:List WData):PySem.Challenge.rw_xx0001_03.row.claim.post args (.bool true) args=true:=by kernel_rfl
theorem Fd (args:List WData) (c:ExcName):PySem.Challenge.rw_xx0001_03.row.claim.raises args c=false:=by kernel_rfl
theorem KS {cl:Str→Option Addr} {mean:ExcName→Option Value} {args:List WData} {s s':Shared} (k:∀ b o,s.heap.get? b=some o→s'.heap.get? b=some o) (ho:s'.os=s.os) (hg:s'.gens=#[]) :
 GoodW PySem.Challenge.rw_xx0001_03.row.claim cl mean args s (.ok (.ret (.bool true))) s' :=
 ⟨.inl ⟨_,.bool true,[],rfl,Fd args,.bool true,KR args,λ _=>⟨List.nodup_nil,λ _ h=>nomatch h⟩⟩,k,ho,hg⟩
theorem Hh {w:PySem.World} {h:Heap} (Y:(Hook.says pX) w h):TabsAt gT h:=λ q hq=>by
 rw [List.mem_singleton.mp hq]
 exact ⟨codeHd_of_K (c:=364) (P:=360) (km_in_of Y) (by kernel_rfl),km_tabs_of Y 360 (.head _)⟩
theorem CS {w:PySem.World} {h:Heap} (KX:(K0 w.params).In h):(K0 w.params).In (ghostOf h gT):=λ a o e=>ghost_ne (KX a o e) λ m=>by
 have ha:a=360:=List.mem_singleton.mp m
 subst ha
 have e':(K0 w.params).lookup 360=none:=by kernel_rfl
 rw [e'] at e
 exact nomatch e
theorem CT {h:Heap} (hT:TabsAt gT h) (x:h.NoLimit):(ghostOf h gT).NoLimit:=let ⟨mc,a,r⟩:=x; ⟨mc,ghost_ns hT a,r⟩
theorem CU {h:Heap} {mg:Str→Option Value} (hT:TabsAt gT h) (g:h.Ns mainGlobals mg) (x:∃ bm ob,mg "__builtins__" = some (.ref bm)∧bm≠builtinsNs∧h.get? bm=some ob∧ob.cls=.type "module" ∧ ob.dict=some builtinsNs∧ob.data=.plain):(ghostOf h gT).BuiltinsAt mg 360:=by
 obtain ⟨bm,ob,b1,b2,b3,b4,b5,b6⟩:=x
 have hP:h.get? 360=some (tabObj #[]):=(hT (364,360) (.head _)).2
 have UG:bm≠360:=λ q=>by
  rw [q,hP] at b3; cases b3; cases b4
 have UH:bm≠mainGlobals:=λ q=>by
  obtain ⟨o,es,ep,e,hd,_⟩:=g
  rw [q,e] at b3; cases b3; rw [hd] at b6; cases b6
 exact ⟨bm,ob,b1,b2,UH,UG,ghost_get hT b3 (λ q=>by rw [q] at b4; cases b4),b4,b5,b6⟩
theorem ON:PySem.Challenge.rw_xx0001_03.Holds:=Ja λ w bJ eO mg mb G Y fa o pm cd doc dV kV ho hd hcd hD hmg hg args vals as hpre hlay hrd hwl hlo=>by
 have KX:=km_in_of Y
 have hT:=Hh Y
 wrow_args hpre hlay hrd hwl hlo
 have O:(SP w (ghostOf eO.heap gT) mg mb []).Ok:=⟨CS KX,ghost_ns hT G.T.g,ghost_ns hT G.T.b,G.T.builtins,CT hT G.T.nolimit,λ q hq=>by
  rw [List.mem_singleton.mp hq]
  exact ⟨(ghost_code hT).1,CU hT G.T.g G.T.bmain⟩⟩
 have UI:fa=Ew:=Hg ((show mg (Str.ofString "law")=some (.ref fa) from hmg).symm.trans (KQ KX G.T.g))
 subst UI
 rename_i hL _ _ _ hI _ hn _
 have hP:eO.heap.get? 360=some (tabObj #[]):=(hT (364,360) (.head _)).2
 have R:aK (SP w (ghostOf eO.heap gT) mg mb []) [360] [.tab 452 8] eO.heap:=by
  refine ⟨λ b o e=>of_hideAll _ e,λ a ha=>?_,rfl,List.nodup_cons.mpr ⟨List.not_mem_nil,List.nodup_nil⟩,(λ _ h=>nomatch h),λ n o e=>?_,λ q hq=>?_⟩
  · rw [List.mem_singleton.mp ha]; exact hideAll_none _ (.head _)
  · cases n with
    | zero=>cases e; exact ⟨360,_,rfl,hP,.inl rfl⟩
    | succ n=>exact nomatch e
  · rw [List.mem_singleton.mp hq]; exact ⟨0,rfl,rfl⟩
 refine enter_call (kn_post hT (λ _ _=>rfl) ?_)
 refine codeAny_mono (KP (bs:=⟨w,ghostOf eO.heap gT,mg,mb,[]⟩) (d:=28) (Q:=λ v _=>v=.bool true) O (sc:=_) (ghost_list hT hL) hI (by omega) (λ _=>rfl) callerA eO [360] _ _ ⟨rfl,by decide +kernel,by decide +kernel⟩ R (.cst _) (.cons (.cst _) .nil)) λ r s' z=>?_
 cases r with
 | error e=>exact z.elim
 | ok f=>cases f with
  | ret v =>
   obtain ⟨h',tk',δ,σ',e,p,f,R',av,xm,rfl⟩:=z
   subst e
   cases xm
   refine ⟨KS R'.base rfl hg,?_,trivial⟩
   obtain ⟨n,e1,e2⟩:=R'.tabs (364,360,452,8) (.head _)
   obtain ⟨a,ob,f1,f2,r⟩:=R'.objs n _ e2
   rw [e1] at f1
   cases f1
   rcases r with rfl | ⟨_,rfl⟩
   · exact ⟨_,f2⟩
   · exact ⟨_,f2⟩
  | _=>exact z.elim
end
end JL
theorem PySem.Challenge.cw_xx0001_03_holds : PySem.Challenge.rw_xx0001_03.Holds :=
 JL.ON
