import PyProof.Rows.All
import Wide.All
import OpenK.AllK
import Wide.FinOn
import PySem.Challenge.RW_aa0064_01
set_option Elab.async false
set_option maxRecDepth 100000
set_option maxHeartbeats 0
set_option linter.unusedVariables false
set_option genInjectivity false
set_option genSizeOf false
namespace Mine
noncomputable section
open PySem PySem.W PySem.W.X
open PySem renaming Value→Vl,GenState→GS,OsState→OS,Params→Pm,Shared→Ś,World→Wd,Result→Re
abbrev LN:=List Nat
abbrev LV:=List Value
abbrev LG:=List GenState
abbrev NN:=Nat→Nat
abbrev LA:=List Addr
theorem h5x{a b c d e x:Prop}(H:a∧b∧c∧d∧e∧x):x:=H.2.2.2.2.2
theorem h10x{a b c d e f g h i j x:Prop}(H:a∧b∧c∧d∧e∧f∧g∧h∧i∧j∧x):x:=H.2.2.2.2.2.2.2.2.2.2
section
open PyProof.Rows
theorem ok0(H:PySem.Challenge.rw_aa0064_01.row.wellSaid=true→PySem.Challenge.rw_aa0064_01.row.Holds):PySem.Challenge.rw_aa0064_01.Holds:=by
 have h:PySem.Challenge.rw_aa0064_01.wellSaid=true:=by
  rw[PySem.W.Fast.te9446332074065402090]
  unfold PySem.W.Fast.tw9446332074065402090 PySem.W.Fast.tw17960256430627541270 PySem.W.Fast.tw2436336058641802641 PySem.W.Fast.tw12908688711261696721
  simp only[Bool.and_eq_true]
  repeat' apply And.intro
  all_goals decide+kernel
 exact⟨h,H (row_said h)⟩
end
section
open PyProof.Rows
section
noncomputable def TWs:{q:Program//PySem.Challenge.pw_aa0064_01=q}:=by exact⟨_,by conv=>lhs;reduce⟩
noncomputable abbrev TW:Program:=TWs.1
noncomputable def D(P:Pm)(s:Str)(t:Tok)(v:Vl):DictEntry:=⟨PyData.keyHash P s,.str s t,v⟩
noncomputable abbrev O(c:Vl)(d:Option Addr)(x:Data)(s:Array (Option Vl)):Obj:=⟨c,d,x,s⟩
noncomputable def Rz:List Stmt→Nat→Option Stmt
 |[],_=>none
 |a::_,0=>some a
 |_::l,n+1=>Rz l n
noncomputable def NW:LN→List Stmt→Option Stmt
 |[],_=>none
 |i::r,l=>match Rz l i with
  |none=>none
  |some s=>match r with
   |[]=>some s
   |_::_=>match s with
    | .FunctionDef _ _ b _ _ _ _ _ _ _=>NW r b
    | .ClassDef _ _ _ b _ _ _ _ _ _ _=>NW r b
    |_=>none
noncomputable def F(path:LN)(name qual:Str)(gl:Addr)(cl:List (Str×Addr))(d kd doc md:Vl)(ann:Option Addr)(cd ct:Vl)(bi:Addr):FuncData:=match NW path TW.main.body with
 |some (.FunctionDef _ a b _ _ _ sc _ _ _)=>⟨name,qual,a,.stmts b,sc,gl,cl,d,kd,doc,md,ann,cd,ct,bi⟩
 |_=>default
noncomputable abbrev C(name:Str)(bases mro:LV)(ns:Addr)(qual:Str)(hd:Bool)(sl:List Str)(sub:LV)(ab:Bool)(co:Option Bool)(del:Bool):ClassData:=⟨name,bases,mro,ns,qual,hd,sl,sub,ab,co,del⟩
noncomputable abbrev S(l:LN):Str:=⟨⟨l⟩⟩
noncomputable abbrev tu(l:LV):Obj:=O (.type PySem.W.SL.s2766695959194262286x5) none (.seq ⟨l⟩ 0) ⟨[]⟩
noncomputable abbrev fl(l:LV):Obj:=O .none none (.fields ⟨l⟩) ⟨[]⟩
noncomputable abbrev co(l:LV):Obj:=O (.type PySem.W.SL.s5856160107412720595x4) none (.fields ⟨l⟩) ⟨[]⟩
noncomputable abbrev fd(c:String)(l:LV):Obj:=O (.type c) none (.fields ⟨l⟩) ⟨[]⟩
noncomputable abbrev dk(n:Nat)(l:List DictEntry):Obj:=O (.type PySem.W.SL.s14018661285674007319x4) none (.dict ⟨l⟩ n) ⟨[]⟩
noncomputable abbrev fn(f:FuncData):Obj:=O (.type PySem.W.SL.s7174869446012820540x8) none (.func f) ⟨[]⟩
noncomputable abbrev LL:=List Obj
noncomputable abbrev nd:=BT.node
noncomputable abbrev e:=BT.nil
noncomputable abbrev n1(o:Obj):BT:= .node o .nil .nil
section
open PySem.W.SL
open PySem.Value renaming ref→r,str→s
noncomputable abbrev i(n:Int):Vl:= .int n 0
noncomputable abbrev cD:=S [47,99,108,97,105,109,47,99,117,116,46,112,121]
noncomputable abbrev cq(n q:Str)(t:Nat)(l a b c f:Int)(A:Nat)(z:Int):Obj:=co [s n t,s q (t+1),s cD (t+2),i l,i a,i b,i c,i f,r A,.bool true,i 318,r (A+1),.none,r (A+2),r (A+3),r (A+4),i z,i l,s cD (Int.toNat z+1)]
noncomputable abbrev fq(p:LN)(n q d:Str)(t A:Nat):Obj:=fn (F p n q 3 [] .none .none .none (s d t) none (r A) .none 0)
noncomputable abbrev s0:=S [95,95,110,97,109,101,95,95]
noncomputable abbrev s1:=S [98,117,105,108,116,105,110,115]
noncomputable abbrev s2:=S [95,95,100,111,99,95,95]
noncomputable abbrev s3:=S [95,95,112,97,99,107,97,103,101,95,95]
noncomputable abbrev s4:=S [95,95,108,111,97,100,101,114,95,95]
noncomputable abbrev s5:=S [95,95,115,112,101,99,95,95]
noncomputable abbrev s6:=S [95,95,98,117,105,108,100,95,99,108,97,115,115,95,95]
noncomputable abbrev s7:=S [95,95,105,109,112,111,114,116,95,95]
noncomputable abbrev s8:=S [97,98,115]
noncomputable abbrev s9:=S [97,108,108]
noncomputable abbrev s10:=S [97,110,121]
noncomputable abbrev s11:=S [97,115,99,105,105]
noncomputable abbrev s12:=S [98,105,110]
noncomputable abbrev s13:=S [98,114,101,97,107,112,111,105,110,116]
noncomputable abbrev s14:=S [99,97,108,108,97,98,108,101]
noncomputable abbrev s15:=S [99,104,114]
noncomputable abbrev s16:=S [99,111,109,112,105,108,101]
noncomputable abbrev s17:=S [100,101,108,97,116,116,114]
noncomputable abbrev s18:=S [100,105,114]
noncomputable abbrev s19:=S [100,105,118,109,111,100]
noncomputable abbrev s20:=S [101,118,97,108]
noncomputable abbrev s21:=S [101,120,101,99]
noncomputable abbrev s22:=S [102,111,114,109,97,116]
noncomputable abbrev s23:=S [103,101,116,97,116,116,114]
noncomputable abbrev s24:=S [103,108,111,98,97,108,115]
noncomputable abbrev s25:=S [104,97,115,97,116,116,114]
noncomputable abbrev s26:=S [104,97,115,104]
noncomputable abbrev s27:=S [104,101,120]
noncomputable abbrev s28:=S [105,100]
noncomputable abbrev s29:=S [105,110,112,117,116]
noncomputable abbrev s30:=S [105,115,105,110,115,116,97,110,99,101]
noncomputable abbrev s31:=S [105,115,115,117,98,99,108,97,115,115]
noncomputable abbrev s32:=S [105,116,101,114]
noncomputable abbrev s33:=S [97,105,116,101,114]
noncomputable abbrev s34:=S [108,101,110]
noncomputable abbrev s35:=S [108,111,99,97,108,115]
noncomputable abbrev s36:=S [109,97,120]
noncomputable abbrev s37:=S [109,105,110]
noncomputable abbrev s38:=S [110,101,120,116]
noncomputable abbrev s39:=S [97,110,101,120,116]
noncomputable abbrev s40:=S [111,99,116]
noncomputable abbrev s41:=S [111,114,100]
noncomputable abbrev s42:=S [112,111,119]
noncomputable abbrev s43:=S [112,114,105,110,116]
noncomputable abbrev s44:=S [114,101,112,114]
noncomputable abbrev s45:=S [114,111,117,110,100]
noncomputable abbrev s46:=S [115,101,116,97,116,116,114]
noncomputable abbrev s47:=S [115,111,114,116,101,100]
noncomputable abbrev s48:=S [115,117,109]
noncomputable abbrev s49:=S [118,97,114,115]
noncomputable abbrev s50:=S [78,111,110,101]
noncomputable abbrev s51:=S [69,108,108,105,112,115,105,115]
noncomputable abbrev s52:=S [78,111,116,73,109,112,108,101,109,101,110,116,101,100]
noncomputable abbrev s53:=S [70,97,108,115,101]
noncomputable abbrev s54:=S [84,114,117,101]
noncomputable abbrev s55:=S [98,111,111,108]
noncomputable abbrev s56:=S [109,101,109,111,114,121,118,105,101,119]
noncomputable abbrev s57:=S [98,121,116,101,97,114,114,97,121]
noncomputable abbrev s58:=S [98,121,116,101,115]
noncomputable abbrev s59:=S [99,108,97,115,115,109,101,116,104,111,100]
noncomputable abbrev s60:=S [99,111,109,112,108,101,120]
noncomputable abbrev s61:=S [100,105,99,116]
noncomputable abbrev s62:=S [101,110,117,109,101,114,97,116,101]
noncomputable abbrev s63:=S [102,105,108,116,101,114]
noncomputable abbrev s64:=S [102,108,111,97,116]
noncomputable abbrev s65:=S [102,114,111,122,101,110,115,101,116]
noncomputable abbrev s66:=S [112,114,111,112,101,114,116,121]
noncomputable abbrev s67:=S [105,110,116]
noncomputable abbrev s68:=S [108,105,115,116]
noncomputable abbrev s69:=S [109,97,112]
noncomputable abbrev s70:=S [111,98,106,101,99,116]
noncomputable abbrev s71:=S [114,97,110,103,101]
noncomputable abbrev s72:=S [114,101,118,101,114,115,101,100]
noncomputable abbrev s73:=S [115,101,116]
noncomputable abbrev s74:=S [115,108,105,99,101]
noncomputable abbrev s75:=S [115,116,97,116,105,99,109,101,116,104,111,100]
noncomputable abbrev s76:=S [115,116,114]
noncomputable abbrev s77:=S [115,117,112,101,114]
noncomputable abbrev s78:=S [116,117,112,108,101]
noncomputable abbrev s79:=S [116,121,112,101]
noncomputable abbrev s80:=S [122,105,112]
noncomputable abbrev s81:=S [95,95,100,101,98,117,103,95,95]
noncomputable abbrev s82:=S [66,97,115,101,69,120,99,101,112,116,105,111,110]
noncomputable abbrev s83:=S [66,97,115,101,69,120,99,101,112,116,105,111,110,71,114,111,117,112]
noncomputable abbrev s84:=S [69,120,99,101,112,116,105,111,110]
noncomputable abbrev s85:=S [71,101,110,101,114,97,116,111,114,69,120,105,116]
noncomputable abbrev s86:=S [75,101,121,98,111,97,114,100,73,110,116,101,114,114,117,112,116]
noncomputable abbrev s87:=S [83,121,115,116,101,109,69,120,105,116]
noncomputable abbrev s88:=S [65,114,105,116,104,109,101,116,105,99,69,114,114,111,114]
noncomputable abbrev s89:=S [65,115,115,101,114,116,105,111,110,69,114,114,111,114]
noncomputable abbrev s90:=S [65,116,116,114,105,98,117,116,101,69,114,114,111,114]
noncomputable abbrev s91:=S [66,117,102,102,101,114,69,114,114,111,114]
noncomputable abbrev s92:=S [69,79,70,69,114,114,111,114]
noncomputable abbrev s93:=S [73,109,112,111,114,116,69,114,114,111,114]
noncomputable abbrev s94:=S [76,111,111,107,117,112,69,114,114,111,114]
noncomputable abbrev s95:=S [77,101,109,111,114,121,69,114,114,111,114]
noncomputable abbrev s96:=S [78,97,109,101,69,114,114,111,114]
noncomputable abbrev s97:=S [79,83,69,114,114,111,114]
noncomputable abbrev s98:=S [82,101,102,101,114,101,110,99,101,69,114,114,111,114]
noncomputable abbrev s99:=S [82,117,110,116,105,109,101,69,114,114,111,114]
noncomputable abbrev XS:=S [83,116,111,112,65,115,121,110,99,73,116,101,114,97,116,105,111,110]
noncomputable abbrev Vz:=S [83,116,111,112,73,116,101,114,97,116,105,111,110]
noncomputable abbrev We:=S [83,121,110,116,97,120,69,114,114,111,114]
noncomputable abbrev s103:=S [83,121,115,116,101,109,69,114,114,111,114]
noncomputable abbrev aaY:=S [84,121,112,101,69,114,114,111,114]
noncomputable abbrev W5:=S [86,97,108,117,101,69,114,114,111,114]
noncomputable abbrev Z7:=S [87,97,114,110,105,110,103]
noncomputable abbrev s107:=S [70,108,111,97,116,105,110,103,80,111,105,110,116,69,114,114,111,114]
noncomputable abbrev Xv:=S [79,118,101,114,102,108,111,119,69,114,114,111,114]
noncomputable abbrev ZW:=S [90,101,114,111,68,105,118,105,115,105,111,110,69,114,114,111,114]
noncomputable abbrev aaw:=S [66,121,116,101,115,87,97,114,110,105,110,103]
noncomputable abbrev X3:=S [68,101,112,114,101,99,97,116,105,111,110,87,97,114,110,105,110,103]
noncomputable abbrev aaS:=S [69,110,99,111,100,105,110,103,87,97,114,110,105,110,103]
noncomputable abbrev VA:=S [70,117,116,117,114,101,87,97,114,110,105,110,103]
noncomputable abbrev ZY:=S [73,109,112,111,114,116,87,97,114,110,105,110,103]
noncomputable abbrev Wr:=S [80,101,110,100,105,110,103,68,101,112,114,101,99,97,116,105,111,110,87,97,114,110,105,110,103]
noncomputable abbrev V1:=S [82,101,115,111,117,114,99,101,87,97,114,110,105,110,103]
noncomputable abbrev aaT:=S [82,117,110,116,105,109,101,87,97,114,110,105,110,103]
noncomputable abbrev Wa:=S [83,121,110,116,97,120,87,97,114,110,105,110,103]
noncomputable abbrev aaB:=S [85,110,105,99,111,100,101,87,97,114,110,105,110,103]
noncomputable abbrev aaL:=S [85,115,101,114,87,97,114,110,105,110,103]
noncomputable abbrev Zs:=S [66,108,111,99,107,105,110,103,73,79,69,114,114,111,114]
noncomputable abbrev Zw:=S [67,104,105,108,100,80,114,111,99,101,115,115,69,114,114,111,114]
noncomputable abbrev aaM:=S [67,111,110,110,101,99,116,105,111,110,69,114,114,111,114]
noncomputable abbrev WM:=S [70,105,108,101,69,120,105,115,116,115,69,114,114,111,114]
noncomputable abbrev X5:=S [70,105,108,101,78,111,116,70,111,117,110,100,69,114,114,111,114]
noncomputable abbrev aaE:=S [73,110,116,101,114,114,117,112,116,101,100,69,114,114,111,114]
noncomputable abbrev VX:=S [73,115,65,68,105,114,101,99,116,111,114,121,69,114,114,111,114]
noncomputable abbrev s128:=S [78,111,116,65,68,105,114,101,99,116,111,114,121,69,114,114,111,114]
noncomputable abbrev Y1:=S [80,101,114,109,105,115,115,105,111,110,69,114,114,111,114]
noncomputable abbrev WJ:=S [80,114,111,99,101,115,115,76,111,111,107,117,112,69,114,114,111,114]
noncomputable abbrev X1:=S [84,105,109,101,111,117,116,69,114,114,111,114]
noncomputable abbrev Ym:=S [73,110,100,101,110,116,97,116,105,111,110,69,114,114,111,114]
noncomputable abbrev s133:=S [95,73,110,99,111,109,112,108,101,116,101,73,110,112,117,116,69,114,114,111,114]
noncomputable abbrev Wi:=S [73,110,100,101,120,69,114,114,111,114]
noncomputable abbrev XN:=S [75,101,121,69,114,114,111,114]
noncomputable abbrev aaZ:=S [77,111,100,117,108,101,78,111,116,70,111,117,110,100,69,114,114,111,114]
noncomputable abbrev ZH:=S [78,111,116,73,109,112,108,101,109,101,110,116,101,100,69,114,114,111,114]
noncomputable abbrev Vt:=S [80,121,116,104,111,110,70,105,110,97,108,105,122,97,116,105,111,110,69,114,114,111,114]
noncomputable abbrev Wy:=S [82,101,99,117,114,115,105,111,110,69,114,114,111,114]
noncomputable abbrev Y5:=S [85,110,98,111,117,110,100,76,111,99,97,108,69,114,114,111,114]
noncomputable abbrev XU:=S [85,110,105,99,111,100,101,69,114,114,111,114]
noncomputable abbrev YY:=S [66,114,111,107,101,110,80,105,112,101,69,114,114,111,114]
noncomputable abbrev W6:=S [67,111,110,110,101,99,116,105,111,110,65,98,111,114,116,101,100,69,114,114,111,114]
noncomputable abbrev Vp:=S [67,111,110,110,101,99,116,105,111,110,82,101,102,117,115,101,100,69,114,114,111,114]
noncomputable abbrev YG:=S [67,111,110,110,101,99,116,105,111,110,82,101,115,101,116,69,114,114,111,114]
noncomputable abbrev Vo:=S [84,97,98,69,114,114,111,114]
noncomputable abbrev Xq:=S [85,110,105,99,111,100,101,68,101,99,111,100,101,69,114,114,111,114]
noncomputable abbrev Zl:=S [85,110,105,99,111,100,101,69,110,99,111,100,101,69,114,114,111,114]
noncomputable abbrev VF:=S [85,110,105,99,111,100,101,84,114,97,110,115,108,97,116,101,69,114,114,111,114]
noncomputable abbrev Zz:=S [69,120,99,101,112,116,105,111,110,71,114,111,117,112]
noncomputable abbrev XK:=S [69,110,118,105,114,111,110,109,101,110,116,69,114,114,111,114]
noncomputable abbrev Yu:=S [73,79,69,114,114,111,114]
noncomputable abbrev VZ:=S [111,112,101,110]
noncomputable abbrev ZL:=S [113,117,105,116]
noncomputable abbrev YM:=S [101,120,105,116]
noncomputable abbrev Ty:=S [99,111,112,121,114,105,103,104,116]
noncomputable abbrev X8:=S [99,114,101,100,105,116,115]
noncomputable abbrev Yx:=S [108,105,99,101,110,115,101]
noncomputable abbrev Zi:=S [104,101,108,112]
noncomputable def g7(P:Pm):=dk 159 [D P s0 1 (s s1 160),D P s2 2 (.builtin "builtins.__doc__:str#opaque"),D P s3 3 (.builtin "builtins.__package__:str#opaque"),D P s4 4 (.builtin "builtins.__loader__:shared#opaque"),D P s5 5 (.builtin s11665532747177232413x24),D P s6 6 (.builtin s15183661809925369436x15),D P s7 7 (.builtin s13915890719876406383x10),D P s8 8 (.builtin s13459172003223722735x3),D P s9 9 (.builtin s10557405761357834076x3),D P s10 10 (.builtin s4233737765568776869x3),D P s11 11 (.builtin s2508922471967985374x5),D P s12 12 (.builtin s15574269061696679450x3),D P s13 13 (.builtin s6016482663378992977x10),D P s14 14 (.builtin s5596568736180474577x8),D P s15 15 (.builtin s2839554839881490554x3),D P s16 16 (.builtin s725004073602090463x7),D P s17 17 (.builtin s9436932552931045734x7),D P s18 18 (.builtin s2754603736356183583x3),D P s19 19 (.builtin s15185746759980889043x6),D P s20 20 (.builtin s8192189862530294059x4),D P s21 21 (.builtin s7038307821325472102x4),D P s22 22 (.builtin s5662562618415449548x6),D P s23 23 (.builtin s15281542589158584767x7),D P s24 24 (.builtin s17651547275483570877x7),D P s25 25 (.builtin s4036449017235975746x7),D P s26 26 (.builtin s8879979712987360175x4),D P s27 27 (.builtin s1801250619170735830x3),D P s28 28 (.builtin s17659931425627118568x2),D P s29 29 (.builtin s6063217899685152688x5),D P s30 30 (.builtin s8008927332132565319x10),D P s31 31 (.builtin s3544116645089599534x10),D P s32 32 (.builtin s13761710972054866084x4),D P s33 33 (.builtin s12896375587409280029x5),D P s34 34 (.builtin s13014049009108672802x3),D P s35 35 (.builtin s13935586738268321596x6),D P s36 36 (.builtin s8200498257699607233x3),D P s37 37 (.builtin s14114244577727609259x3),D P s38 38 (.builtin s1499430450269397089x4),D P s39 39 (.builtin s8755793994789770505x5),D P s40 40 (.builtin s15725212667919936108x3),D P s41 41 (.builtin s15791221867095933363x3),D P s42 42 (.builtin s81309575031448614x3),D P s43 43 (.builtin s8069831620301644142x5),D P s44 44 (.builtin s10061844253413749634x4),D P s45 45 (.builtin s9496514870978017513x5),D P s46 46 (.builtin s8899691144933366716x7),D P s47 47 (.builtin s15201008993051130160x6),D P s48 48 (.builtin s741896355592496720x3),D P s49 49 (.builtin s17925004256654032244x4),D P s50 50 .none,D P s51 51 .ellipsis,D P s52 52 .notImplemented,D P s53 53 (.bool false),D P s54 54 (.bool true),D P s55 55 (.type s11695548795398191787x4),D P s56 56 (.type s4156966113859768872x10),D P s57 57 (.type s9501651726347032510x9),D P s58 58 (.type s15722918466584999320x5),D P s59 59 (.type s591115383303110208x11),D P s60 60 (.type s15721156781594690315x7),D P s61 61 (.type s14018661285674007319x4),D P s62 62 (.type s14340494229221121180x9),D P s63 63 (.type s13429844117177748173x6),D P s64 64 (.type s16463266125957815391x5),D P s65 65 (.type s4922535414793169389x9),D P s66 66 (.type s8101838861749082086x8),D P s67 67 (.type s7066276694103001551x3),D P s68 68 (.type s9222952809800978799x4),D P s69 69 (.type s462964344163437139x3),D P s70 70 (.type s2742458400755230247x6),D P s71 71 (.type s1438033511350832697x5),D P s72 72 (.type s14365286008749172514x8),D P s73 73 (.type s3642769012341782148x3),D P s74 74 (.type s4674234679698826739x5),D P s75 75 (.type s16656946322747308186x12),D P s76 76 (.type s10796804682411823810x3),D P s77 77 (.type s4290257624100764138x5),D P s78 78 (.type s2766695959194262286x5),D P s79 79 (.type s17162191345867700912x4),D P s80 80 (.type s14339709457334898076x3),D P s81 81 (.bool true),D P s82 82 (.type s4278001404047624695x13),D P s83 83 (.type s6585700554429387442x18),D P s84 84 (.type s5946037652744460706x9),D P s85 85 (.type s7410770068591931388x13),D P s86 86 (.type s11817881795495490833x17),D P s87 87 (.type s15679963881808890155x10),D P s88 88 (.type s3871700062485845797x15),D P s89 89 (.type s7689518266570723881x14),D P s90 90 (.type s9001593270443806431x14),D P s91 91 (.type s6882542574934516792x11),D P s92 92 (.type s14403400214490484960x8),D P s93 93 (.type s14457978657717015782x11),D P s94 94 (.type s1753610191782819921x11),D P s95 95 (.type s14119380538032626715x11),D P s96 96 (.type s11437920000406562045x9),D P s97 97 (.type s10852414792293593619x7),D P s98 98 (.type s14816307405966870543x14),D P s99 99 (.type s8682627914449686677x12),D P XS 100 (.type s4428170145600203450x18),D P Vz 101 (.type s5991306692159431302x13),D P We 102 (.type s16067994140765818257x11),D P s103 103 (.type s2327743974964600596x11),D P aaY 104 (.type s2804747833354056582x9),D P W5 105 (.type s6070975301684473832x10),D P Z7 106 (.type s14270485950484850486x7),D P s107 107 (.type s12041534306414923332x18),D P Xv 108 (.type s2531307568338490285x13),D P ZW 109 (.type s631175304937289666x17),D P aaw 110 (.type s5144983644357021410x12),D P X3 111 (.type s18039099521571816885x18),D P aaS 112 (.type s6011586214260557989x15),D P VA 113 (.type s5430567037509283100x13),D P ZY 114 (.type s8117915138073963741x13),D P Wr 115 (.type s3423317712779056401x25),D P V1 116 (.type s2007317383269046180x15),D P aaT 117 (.type s17481586968713580700x14),D P Wa 118 (.type s2450899226349176912x13),D P aaB 119 (.type s16626165730633575011x14),D P aaL 120 (.type s14288496050688921416x11),D P Zs 121 (.type s5735081916595925998x15),D P Zw 122 (.type s3865607918536308442x17),D P aaM 123 (.type s13337502604062700212x15),D P WM 124 (.type s13114017843053701147x15),D P X5 125 (.type s17467278006356818441x17),D P aaE 126 (.type s17722149559621369488x16),D P VX 127 (.type s7855274175708717672x17),D P s128 128 (.type s13351283678309829046x18),D P Y1 129 (.type s6668348653404991179x15),D P WJ 130 (.type s12913350958174193794x18),D P X1 131 (.type s16115879512475548326x12),D P Ym 132 (.type s15920661018069861047x16),D P s133 133 (.type s10779130036587390575x21),D P Wi 134 (.type s7801419657504700863x10),D P XN 135 (.type s1688129525768580628x8),D P aaZ 136 (.type s1031832959479892071x19),D P ZH 137 (.type s8991790508128307865x19),D P Vt 138 (.type s14539662485746970245x23),D P Wy 139 (.type s11643622729373238714x14),D P Y5 140 (.type s3386828779285465597x17),D P XU 141 (.type s13042696260734638735x12),D P YY 142 (.type s18239426817015966623x15),D P W6 143 (.type s1270395311379034370x22),D P Vp 144 (.type s10696252587037064777x22),D P YG 145 (.type s7852717498200857586x20),D P Vo 146 (.type s6377248116197321094x8),D P Xq 147 (.type s3834378056692298002x18),D P Zl 148 (.type s17586630440231065808x18),D P VF 149 (.type s15234114252648025395x21),D P Zz 150 (.type s8496462677383758984x14),D P XK 151 (.type s10852414792293593619x7),D P Yu 152 (.type s10852414792293593619x7),D P VZ 153 (.builtin s16789243406116112673x4),D P ZL 154 (.builtin s14400166428656793546x20),D P YM 155 (.builtin s5857708277339239366x20),D P Ty 156 (.builtin "builtins.copyright#opaque"),D P X8 157 (.builtin "builtins.credits#opaque"),D P Yx 158 (.builtin "builtins.license#opaque"),D P Zi 159 (.builtin s7804999707787243718x20)]
noncomputable abbrev F5:=S [95,95,109,97,105,110,95,95]
noncomputable abbrev yU:=S [95,115,114,101]
noncomputable abbrev G3:=S [95,99,111,108,108,101,99,116,105,111,110,115]
noncomputable def gS(P:Pm):=dk 4 [D P s1 162 (r 4),D P F5 163 (r 5),D P yU 244 (r 12),D P G3 292 (r 30)]
noncomputable abbrev UE:=S [105,109,112,111,114,116,46,108,111,97,100,101,100,46,95,115,114,101]
noncomputable abbrev Rp:=S [99,108,97,115,115,46,95,102,114,111,122,101,110,95,105,109,112,111,114,116,108,105,98,46,66,117,105,108,116,105,110,73,109,112,111,114,116,101,114]
noncomputable abbrev T7:=S [119,97,116,99,104,101,100,46,105,109,112,111,114,116]
noncomputable abbrev Rf:=S [99,108,97,115,115,46,95,102,114,111,122,101,110,95,105,109,112,111,114,116,108,105,98,46,77,111,100,117,108,101,83,112,101,99]
noncomputable abbrev UU:=S [115,121,115,46,109,111,100,117,108,101,115,46,98,111,111,107,101,100,45,101,112,111,99,104]
noncomputable abbrev TK:=S [105,109,112,111,114,116,46,108,97,116,101,114,45,108,97,105,100,46,95,115,114,101]
noncomputable abbrev QJ:=S [119,97,116,99,104,101,100,46,108,105,98,114,97,114,121]
noncomputable abbrev TT:=S [119,97,116,99,104,101,100,46,108,105,98,114,97,114,121,45,111,98,106,101,99,116,115]
noncomputable abbrev Tx:=S [12,30]
noncomputable abbrev Tq:=S [119,97,116,99,104,101,100,46,108,105,98,114,97,114,121,45,100,101,101,112,46,95,115,114,101]
noncomputable abbrev Su:=S [4,0,0,11,4,0,0,11,4,0,0,3,4,0,0,11,8,4,100,105,99,116,2]
noncomputable abbrev Ul:=S [105,109,112,111,114,116,46,108,111,97,100,101,100,46,95,99,111,108,108,101,99,116,105,111,110,115]
noncomputable abbrev TV:=S [115,121,115,46,109,111,100,117,108,101,115,46,108,97,110,100,101,100,46,95,99,111,108,108,101,99,116,105,111,110,115]
noncomputable abbrev Ta:=S [105,109,112,111,114,116,46,108,97,116,101,114,45,108,97,105,100,46,95,99,111,108,108,101,99,116,105,111,110,115]
noncomputable abbrev Te:=S [119,97,116,99,104,101,100,46,108,105,98,114,97,114,121,45,100,101,101,112,46,95,99,111,108,108,101,99,116,105,111,110,115]
noncomputable abbrev SG:=S [4,0,0,29,4,0,0,29,4,0,0,3,4,0,0,29,8,4,100,105,99,116,2]
noncomputable def w7(P:Pm):=O .none none (.dict ⟨[D P UE 183 (.bool true),D P Rp 185 (r 14),D P T7 206 (r 18),D P Rf 216 (r 22),D P UU 245 (i 4),D P TK 270 (.bool true),D P QJ 272 (r 27),D P TT 0 (s Tx 0),D P Tq 273 (s Su 0),D P Ul 280 (.bool true),D P TV 294 (.bool true),D P Ta 309 (.bool true),D P Te 311 (s SG 0)]⟩ 13) ⟨[]⟩
noncomputable abbrev Ik:=S [95,95,97,110,110,111,116,97,116,105,111,110,115,95,95]
noncomputable abbrev Hl:=S [95,95,98,117,105,108,116,105,110,115,95,95]
noncomputable abbrev Hw:=S [95,95,102,105,108,101,95,95]
noncomputable abbrev GX:=S [95,95,99,97,99,104,101,100,95,95]
noncomputable abbrev CG:=S [100,101,113,117,101]
noncomputable def Fk(P:Pm):=dk 11 [D P s0 165 (s F5 164),D P s2 166 .none,D P s3 167 .none,D P s4 168 (.builtin s7097527257260152453x26),D P s5 169 .none,D P Ik 170 (r 6),D P Hl 171 (r 4),D P Hw 173 (s cD 172),D P GX 174 .none,D P yU 275 (r 12),D P CG 317 (.type s5314052453082223887x17)]
noncomputable def gP:=O (.type s6658869562736209489x6) (some 0) .plain ⟨[]⟩
noncomputable def gU:=O (.type s6658869562736209489x6) (some 3) .plain ⟨[]⟩
noncomputable def cU:=dk 0 []
noncomputable def aa:=tu []
noncomputable def af:=fl []
noncomputable abbrev Ip:=S [60,109,111,100,117,108,101,62]
noncomputable def lC:=co [s Ip 176,s Ip 177,s cD 178,i 1,i 0,i 0,i 0,i 0,r 7,.bool false,i 175,r 8,.none,.none,.none,.none,i 179,i 1,s cD 180]
noncomputable def eM:=O (.type s658472552662922059x5) none .plain ⟨[some (r 9),some (r 3),some (r 3),none,some (s F5 164),none,some (r 0)]⟩
noncomputable abbrev FT:=S []
noncomputable abbrev Zb:=S [116,101,109,112,108,97,116,101]
noncomputable abbrev V8:=S [103,101,116,99,111,100,101,115,105,122,101]
noncomputable abbrev Yp:=S [97,115,99,105,105,95,105,115,99,97,115,101,100]
noncomputable abbrev X2:=S [117,110,105,99,111,100,101,95,105,115,99,97,115,101,100]
noncomputable abbrev aaW:=S [97,115,99,105,105,95,116,111,108,111,119,101,114]
noncomputable abbrev WV:=S [117,110,105,99,111,100,101,95,116,111,108,111,119,101,114]
noncomputable abbrev Y9:=S [77,65,71,73,67]
noncomputable abbrev V_:=S [67,79,68,69,83,73,90,69]
noncomputable abbrev aax:=S [77,65,88,82,69,80,69,65,84]
noncomputable abbrev aao:=S [77,65,88,71,82,79,85,80,83]
noncomputable abbrev VR:=S [32,83,82,69,32,50,46,50,46,50,32,67,111,112,121,114,105,103,104,116,32,40,99,41,32,49,57,57,55,45,50,48,48,50,32,98,121,32,83,101,99,114,101,116,32,76,97,98,115,32,65,66,32]
noncomputable def eX(P:Pm):=dk 17 [D P s0 247 (s yU 246),D P s2 248 .none,D P s3 250 (s FT 249),D P s4 251 (.builtin "off-the-table:_sre.__loader__:shared#opaque"),D P s5 252 (.builtin "off-the-table:_sre.__spec__:shared#opaque"),D P s16 253 (.builtin s492968859115322481x12),D P Zb 254 (.builtin "off-the-table:_sre.template:shared#opaque"),D P V8 255 (.builtin "off-the-table:_sre.getcodesize:shared#opaque"),D P Yp 256 (.builtin "off-the-table:_sre.ascii_iscased:shared#opaque"),D P X2 257 (.builtin "off-the-table:_sre.unicode_iscased:shared#opaque"),D P aaW 258 (.builtin "off-the-table:_sre.ascii_tolower:shared#opaque"),D P WV 259 (.builtin "off-the-table:_sre.unicode_tolower:shared#opaque"),D P Y9 261 (.int 20230612 260),D P V_ 263 (.int 4 262),D P aax 265 (.int 4294967295 264),D P aao 267 (.int 1073741823 266),D P Ty 269 (s VR 268)]
noncomputable def eY:=O (.type s6658869562736209489x6) (some 11) .plain ⟨[]⟩
noncomputable abbrev ft:=S [95,95,109,111,100,117,108,101,95,95]
noncomputable abbrev Rj:=S [95,102,114,111,122,101,110,95,105,109,112,111,114,116,108,105,98]
noncomputable abbrev fm:=S [95,95,102,105,114,115,116,108,105,110,101,110,111,95,95]
noncomputable abbrev XG:=S [95,79,82,73,71,73,78]
noncomputable abbrev PN:=S [98,117,105,108,116,45,105,110]
noncomputable abbrev aaU:=S [102,105,110,100,95,115,112,101,99]
noncomputable abbrev Xw:=S [99,114,101,97,116,101,95,109,111,100,117,108,101]
noncomputable abbrev Z_:=S [101,120,101,99,95,109,111,100,117,108,101]
noncomputable abbrev YF:=S [103,101,116,95,99,111,100,101]
noncomputable abbrev WN:=S [103,101,116,95,115,111,117,114,99,101]
noncomputable abbrev s208:=S [105,115,95,112,97,99,107,97,103,101]
noncomputable abbrev Xj:=S [108,111,97,100,95,109,111,100,117,108,101]
noncomputable abbrev fw:=S [95,95,115,116,97,116,105,99,95,97,116,116,114,105,98,117,116,101,115,95,95]
noncomputable abbrev vo:=S [95,95,100,105,99,116,95,95]
noncomputable abbrev oE:=S [95,95,119,101,97,107,114,101,102,95,95]
noncomputable def eI(P:Pm):=dk 14 [D P ft 189 (s Rj 186),D P fm 190 (.int 971 187),D P s2 191 (.builtin "_frozen_importlib.BuiltinImporter.__doc__:str#opaque"),D P XG 192 (s PN 188),D P aaU 193 (.builtin "_frozen_importlib.BuiltinImporter.find_spec#opaque"),D P Xw 194 (.builtin "_frozen_importlib.BuiltinImporter.create_module#opaque"),D P Z_ 195 (.builtin "_frozen_importlib.BuiltinImporter.exec_module#opaque"),D P YF 196 (.builtin "_frozen_importlib.BuiltinImporter.get_code#opaque"),D P WN 197 (.builtin "_frozen_importlib.BuiltinImporter.get_source#opaque"),D P s208 198 (.builtin "_frozen_importlib.BuiltinImporter.is_package#opaque"),D P Xj 199 (.builtin "_frozen_importlib.BuiltinImporter.load_module#opaque"),D P fw 200 (r 15),D P vo 202 (r 16),D P oE 204 (r 17)]
noncomputable abbrev QY:=S [66,117,105,108,116,105,110,73,109,112,111,114,116,101,114]
noncomputable def eW:=O (.type s17162191345867700912x4) none (.cls (C QY [.type s2742458400755230247x6] [r 14,.type s2742458400755230247x6] 13 QY true [] [] false none false)) ⟨[]⟩
noncomputable def gb:=fd s14755015743595814543x17 [s vo 201,r 14,.builtin s6511155373996960695x17,.builtin s12411053484034534018x21]
noncomputable def f_:=fd s14755015743595814543x17 [s oE 203,r 14,.builtin s10220274742760427390x26,.none]
noncomputable abbrev Y2:=S [6,189,10,95,95,109,111,100,117,108,101,95,95,6,186,17,95,102,114,111,122,101,110,95,105,109,112,111,114,116,108,105,98,6,190,15,95,95,102,105,114,115,116,108,105,110,101,110,111,95,95,4,187,0,971,6,191,7,95,95,100,111,99,95,95,9,52,95,102,114,111,122,101,110,95,105,109,112,111,114,116,108,105,98,46,66,117,105,108,116,105,110,73,109,112,111,114,116,101,114,46,95,95,100,111,99,95,95,58,115,116,114,35,111,112,97,113,117,101,6,192,7,95,79,82,73,71,73,78,6,188,8,98,117,105,108,116,45,105,110,6,193,9,102,105,110,100,95,115,112,101,99,9,50,95,102,114,111,122,101,110,95,105,109,112,111,114,116,108,105,98,46,66,117,105,108,116,105,110,73,109,112,111,114,116,101,114,46,102,105,110,100,95,115,112,101,99,35,111,112,97,113,117,101,6,194,13,99,114,101,97,116,101,95,109,111,100,117,108,101,9,54,95,102,114,111,122,101,110,95,105,109,112,111,114,116,108,105,98,46,66,117,105,108,116,105,110,73,109,112,111,114,116,101,114,46,99,114,101,97,116,101,95,109,111,100,117,108,101,35,111,112,97,113,117,101,6,195,11,101,120,101,99,95,109,111,100,117,108,101,9,52,95,102,114,111,122,101,110,95,105,109,112,111,114,116,108,105,98,46,66,117,105,108,116,105,110,73,109,112,111,114,116,101,114,46,101,120,101,99,95,109,111,100,117,108,101,35,111,112,97,113,117,101,6,196,8,103,101,116,95,99,111,100,101,9,49,95,102,114,111,122,101,110,95,105,109,112,111,114,116,108,105,98,46,66,117,105,108,116,105,110,73,109,112,111,114,116,101,114,46,103,101,116,95,99,111,100,101,35,111,112,97,113,117,101,6,197,10,103,101,116,95,115,111,117,114,99,101,9,51,95,102,114,111,122,101,110,95,105,109,112,111,114,116,108,105,98,46,66,117,105,108,116,105,110,73,109,112,111,114,116,101,114,46,103,101,116,95,115,111,117,114,99,101,35,111,112,97,113,117,101,6,198,10,105,115,95,112,97,99,107,97,103,101,9,51,95,102,114,111,122,101,110,95,105,109,112,111,114,116,108,105,98,46,66,117,105,108,116,105,110,73,109,112,111,114,116,101,114,46,105,115,95,112,97,99,107,97,103,101,35,111,112,97,113,117,101,6,199,11,108,111,97,100,95,109,111,100,117,108,101,9,52,95,102,114,111,122,101,110,95,105,109,112,111,114,116,108,105,98,46,66,117,105,108,116,105,110,73,109,112,111,114,116,101,114,46,108,111,97,100,95,109,111,100,117,108,101,35,111,112,97,113,117,101,6,200,21,95,95,115,116,97,116,105,99,95,97,116,116,114,105,98,117,116,101,115,95,95,4,0,0,15,6,202,8,95,95,100,105,99,116,95,95,4,0,0,16,6,204,11,95,95,119,101,97,107,114,101,102,95,95,4,0,0,17]
noncomputable abbrev ZA:=S [6,227,10,95,95,109,111,100,117,108,101,95,95,6,217,17,95,102,114,111,122,101,110,95,105,109,112,111,114,116,108,105,98,6,228,15,95,95,102,105,114,115,116,108,105,110,101,110,111,95,95,4,218,0,562,6,229,7,95,95,100,111,99,95,95,9,47,95,102,114,111,122,101,110,95,105,109,112,111,114,116,108,105,98,46,77,111,100,117,108,101,83,112,101,99,46,95,95,100,111,99,95,95,58,115,116,114,35,111,112,97,113,117,101,6,230,8,95,95,105,110,105,116,95,95,9,44,95,102,114,111,122,101,110,95,105,109,112,111,114,116,108,105,98,46,77,111,100,117,108,101,83,112,101,99,46,95,95,105,110,105,116,95,95,35,111,112,97,113,117,101,6,231,8,95,95,114,101,112,114,95,95,9,44,95,102,114,111,122,101,110,95,105,109,112,111,114,116,108,105,98,46,77,111,100,117,108,101,83,112,101,99,46,95,95,114,101,112,114,95,95,35,111,112,97,113,117,101,6,232,6,95,95,101,113,95,95,9,42,95,102,114,111,122,101,110,95,105,109,112,111,114,116,108,105,98,46,77,111,100,117,108,101,83,112,101,99,46,95,95,101,113,95,95,35,111,112,97,113,117,101,6,233,6,99,97,99,104,101,100,9,42,95,102,114,111,122,101,110,95,105,109,112,111,114,116,108,105,98,46,77,111,100,117,108,101,83,112,101,99,46,99,97,99,104,101,100,35,111,112,97,113,117,101,6,234,6,112,97,114,101,110,116,9,42,95,102,114,111,122,101,110,95,105,109,112,111,114,116,108,105,98,46,77,111,100,117,108,101,83,112,101,99,46,112,97,114,101,110,116,35,111,112,97,113,117,101,6,235,12,104,97,115,95,108,111,99,97,116,105,111,110,9,48,95,102,114,111,122,101,110,95,105,109,112,111,114,116,108,105,98,46,77,111,100,117,108,101,83,112,101,99,46,104,97,115,95,108,111,99,97,116,105,111,110,35,111,112,97,113,117,101,6,236,21,95,95,115,116,97,116,105,99,95,97,116,116,114,105,98,117,116,101,115,95,95,4,0,0,23,6,238,8,95,95,100,105,99,116,95,95,4,0,0,24,6,240,11,95,95,119,101,97,107,114,101,102,95,95,4,0,0,25,6,241,8,95,95,104,97,115,104,95,95,0]
noncomputable def gm:=O .none none (.seq ⟨[i 13,s Y2 0,.bool true,.bool true,s FT 205,i 21,s ZA 0,.bool true,.bool true,s FT 242]⟩ 1) ⟨[]⟩
noncomputable def cM:=O (.type s9222952809800978799x4) none (.seq ⟨[]⟩ 0) ⟨[]⟩
noncomputable abbrev Cq:=S [110,97,109,101]
noncomputable abbrev NU:=S [108,111,97,100,101,114]
noncomputable abbrev Ov:=S [111,114,105,103,105,110]
noncomputable abbrev Oi:=S [108,111,97,100,101,114,95,115,116,97,116,101]
noncomputable abbrev NF:=S [115,117,98,109,111,100,117,108,101,95,115,101,97,114,99,104,95,108,111,99,97,116,105,111,110,115]
noncomputable abbrev Ob:=S [95,117,110,105,110,105,116,105,97,108,105,122,101,100,95,115,117,98,109,111,100,117,108,101,115]
noncomputable abbrev Pa:=S [95,115,101,116,95,102,105,108,101,97,116,116,114]
noncomputable abbrev Nz:=S [95,99,97,99,104,101,100]
noncomputable abbrev Rg:=S [95,105,110,105,116,105,97,108,105,122,105,110,103]
noncomputable def f6(P:Pm):=dk 9 [D P Cq 208 (s yU 207),D P NU 209 (r 14),D P Ov 210 (s PN 184),D P Oi 211 .none,D P NF 212 .none,D P Ob 213 (r 19),D P Pa 214 (.bool false),D P Nz 215 .none,D P Rg 243 (.bool false)]
noncomputable abbrev ef:=S [95,95,105,110,105,116,95,95]
noncomputable abbrev si:=S [95,95,114,101,112,114,95,95]
noncomputable abbrev Vw:=S [95,95,101,113,95,95]
noncomputable abbrev Yo:=S [99,97,99,104,101,100]
noncomputable abbrev Y4:=S [112,97,114,101,110,116]
noncomputable abbrev Zg:=S [104,97,115,95,108,111,99,97,116,105,111,110]
noncomputable abbrev Vy:=S [95,95,104,97,115,104,95,95]
noncomputable def gu(P:Pm):=dk 13 [D P ft 227 (s Rj 217),D P fm 228 (.int 562 218),D P s2 229 (.builtin "_frozen_importlib.ModuleSpec.__doc__:str#opaque"),D P ef 230 (.builtin "_frozen_importlib.ModuleSpec.__init__#opaque"),D P si 231 (.builtin "_frozen_importlib.ModuleSpec.__repr__#opaque"),D P Vw 232 (.builtin "_frozen_importlib.ModuleSpec.__eq__#opaque"),D P Yo 233 (.builtin "_frozen_importlib.ModuleSpec.cached#opaque"),D P Y4 234 (.builtin "_frozen_importlib.ModuleSpec.parent#opaque"),D P Zg 235 (.builtin "_frozen_importlib.ModuleSpec.has_location#opaque"),D P fw 236 (r 23),D P vo 238 (r 24),D P oE 240 (r 25),D P Vy 241 .none]
noncomputable abbrev TZ:=S [77,111,100,117,108,101,83,112,101,99]
noncomputable def ge:=O (.type s17162191345867700912x4) none (.cls (C TZ [.type s2742458400755230247x6] [r 22,.type s2742458400755230247x6] 21 TZ true [] [] false none false)) ⟨[]⟩
noncomputable def f9:=tu [s Nz 219,s Pa 220,s Ob 221,s NU 222,s Oi 223,s Cq 224,s Ov 225,s NF 226]
noncomputable def gj:=fd s14755015743595814543x17 [s vo 237,r 22,.builtin s6511155373996960695x17,.builtin s12411053484034534018x21]
noncomputable def f8:=fd s14755015743595814543x17 [s oE 239,r 22,.builtin s10220274742760427390x26,.none]
noncomputable def eP:=O (r 22) (some 20) .plain ⟨[]⟩
noncomputable abbrev aac:=S [6,247,8,95,95,110,97,109,101,95,95,6,246,4,95,115,114,101,6,248,7,95,95,100,111,99,95,95,0,6,250,11,95,95,112,97,99,107,97,103,101,95,95,6,249,0,6,251,10,95,95,108,111,97,100,101,114,95,95,4,0,0,14,6,252,8,95,95,115,112,101,99,95,95,4,0,0,26,6,253,7,99,111,109,112,105,108,101,9,12,95,115,114,101,46,99,111,109,112,105,108,101,6,254,8,116,101,109,112,108,97,116,101,9,13,95,115,114,101,46,116,101,109,112,108,97,116,101,6,255,11,103,101,116,99,111,100,101,115,105,122,101,9,16,95,115,114,101,46,103,101,116,99,111,100,101,115,105,122,101,6,256,13,97,115,99,105,105,95,105,115,99,97,115,101,100,9,18,95,115,114,101,46,97,115,99,105,105,95,105,115,99,97,115,101,100,6,257,15,117,110,105,99,111,100,101,95,105,115,99,97,115,101,100,9,20,95,115,114,101,46,117,110,105,99,111,100,101,95,105,115,99,97,115,101,100,6,258,13,97,115,99,105,105,95,116,111,108,111,119,101,114,9,18,95,115,114,101,46,97,115,99,105,105,95,116,111,108,111,119,101,114,6,259,15,117,110,105,99,111,100,101,95,116,111,108,111,119,101,114,9,20,95,115,114,101,46,117,110,105,99,111,100,101,95,116,111,108,111,119,101,114,6,261,5,77,65,71,73,67,4,260,0,20230612,6,263,8,67,79,68,69,83,73,90,69,4,262,0,4,6,265,9,77,65,88,82,69,80,69,65,84,4,264,0,4294967295,6,267,9,77,65,88,71,82,79,85,80,83,4,266,0,1073741823,6,269,9,99,111,112,121,114,105,103,104,116,6,268,53,32,83,82,69,32,50,46,50,46,50,32,67,111,112,121,114,105,103,104,116,32,40,99,41,32,49,57,57,55,45,50,48,48,50,32,98,121,32,83,101,99,114,101,116,32,76,97,98,115,32,65,66,32]
noncomputable abbrev W9:=S [6,296,8,95,95,110,97,109,101,95,95,6,295,12,95,99,111,108,108,101,99,116,105,111,110,115,6,297,7,95,95,100,111,99,95,95,9,31,95,99,111,108,108,101,99,116,105,111,110,115,46,95,95,100,111,99,95,95,58,115,116,114,35,111,112,97,113,117,101,6,299,11,95,95,112,97,99,107,97,103,101,95,95,6,298,0,6,300,10,95,95,108,111,97,100,101,114,95,95,4,0,0,14,6,301,8,95,95,115,112,101,99,95,95,4,0,0,33,6,302,15,95,99,111,117,110,116,95,101,108,101,109,101,110,116,115,9,28,95,99,111,108,108,101,99,116,105,111,110,115,46,95,99,111,117,110,116,95,101,108,101,109,101,110,116,115,6,303,5,100,101,113,117,101,8,17,99,111,108,108,101,99,116,105,111,110,115,46,100,101,113,117,101,6,304,11,100,101,102,97,117,108,116,100,105,99,116,8,23,99,111,108,108,101,99,116,105,111,110,115,46,100,101,102,97,117,108,116,100,105,99,116,6,305,15,95,100,101,113,117,101,95,105,116,101,114,97,116,111,114,8,27,99,111,108,108,101,99,116,105,111,110,115,46,95,100,101,113,117,101,95,105,116,101,114,97,116,111,114,6,306,23,95,100,101,113,117,101,95,114,101,118,101,114,115,101,95,105,116,101,114,97,116,111,114,8,35,99,111,108,108,101,99,116,105,111,110,115,46,95,100,101,113,117,101,95,114,101,118,101,114,115,101,95,105,116,101,114,97,116,111,114,6,307,12,95,116,117,112,108,101,103,101,116,116,101,114,8,24,99,111,108,108,101,99,116,105,111,110,115,46,95,116,117,112,108,101,103,101,116,116,101,114,6,308,11,79,114,100,101,114,101,100,68,105,99,116,8,23,99,111,108,108,101,99,116,105,111,110,115,46,79,114,100,101,114,101,100,68,105,99,116]
noncomputable def e_:=O .none none (.seq ⟨[i 11,s aac 0,.bool true,.bool false,s yU 271,i 29,s W9 0,.bool true,.bool false,s G3 310]⟩ 1) ⟨[]⟩
noncomputable def eT:=tu [s CG 277]
noncomputable abbrev aaA:=S [95,99,111,117,110,116,95,101,108,101,109,101,110,116,115]
noncomputable abbrev aa0:=S [100,101,102,97,117,108,116,100,105,99,116]
noncomputable abbrev aa1:=S [95,100,101,113,117,101,95,105,116,101,114,97,116,111,114]
noncomputable abbrev VQ:=S [95,100,101,113,117,101,95,114,101,118,101,114,115,101,95,105,116,101,114,97,116,111,114]
noncomputable abbrev Yy:=S [95,116,117,112,108,101,103,101,116,116,101,114]
noncomputable abbrev Xh:=S [79,114,100,101,114,101,100,68,105,99,116]
noncomputable def eS(P:Pm):=dk 12 [D P s0 296 (s G3 295),D P s2 297 (.builtin "off-the-table:_collections.__doc__:shared#opaque"),D P s3 299 (s FT 298),D P s4 300 (.builtin "off-the-table:_collections.__loader__:shared#opaque"),D P s5 301 (.builtin "off-the-table:_collections.__spec__:shared#opaque"),D P aaA 302 (.builtin s5957113450721151568x28),D P CG 303 (.type s5314052453082223887x17),D P aa0 304 (.type s9278979716766391425x23),D P aa1 305 (.builtin "off-the-table:_collections._deque_iterator:shared#opaque"),D P VQ 306 (.builtin "off-the-table:_collections._deque_reverse_iterator:shared#opaque"),D P Yy 307 (.type s13209474081997913071x24),D P Xh 308 (.type s8302156878143849030x23)]
noncomputable def eH:=O (.type s6658869562736209489x6) (some 29) .plain ⟨[]⟩
noncomputable def f7(P:Pm):=dk 9 [D P Cq 283 (s G3 282),D P NU 284 (r 14),D P Ov 285 (s PN 281),D P Oi 286 .none,D P NF 287 .none,D P Ob 288 (r 31),D P Pa 289 (.bool false),D P Nz 290 .none,D P Rg 291 (.bool false)]
noncomputable def gg:=O (r 22) (some 32) .plain ⟨[]⟩
noncomputable def ij:=co [s Ip 319,s Ip 320,s cD 321,i 1,i 0,i 0,i 0,i 0,r 34,.bool false,i 318,r 35,.none,.none,.none,.none,i 322,i 1,s cD 323]
noncomputable def ji:=O (.type s658472552662922059x5) none .plain ⟨[some (r 36),some (r 3),some (r 3),none,some (s F5 164),none,some (r 0)]⟩
noncomputable abbrev O5:=S [114,101]
noncomputable abbrev w9:=S [95,119,97,108,108]
noncomputable abbrev zT:=S [115,101,112]
noncomputable abbrev NG:=S [47]
noncomputable abbrev wF:=S [95,107,105,110,100]
noncomputable abbrev wu:=S [95,102,115,112,97,116,104]
noncomputable abbrev wU:=S [95,99,104,101,99,107,95,97,114,103,95,116,121,112,101,115]
noncomputable abbrev wT:=S [105,115,97,98,115]
noncomputable abbrev gY:=S [106,111,105,110]
noncomputable abbrev LJ:=S [106,111,105,110,95,112,97,116,104]
noncomputable abbrev wZ:=S [95,99,95,112,97,116,104]
noncomputable abbrev wr:=S [95,115,104,101,108,102,95,102,114,101,115,104]
noncomputable abbrev wh:=S [95,115,112,108,105,116,114,111,111,116]
noncomputable abbrev wK:=S [100,105,114,110,97,109,101]
noncomputable abbrev wj:=S [95,110,111,114,109,112,97,116,104]
noncomputable abbrev wn:=S [110,111,114,109,112,97,116,104]
noncomputable abbrev vt:=S [95,73,103,110,111,114,101]
noncomputable abbrev Mz:=S [116,119,105,110,95,114,101,95,49,95,102,110,109,97,116,99,104]
noncomputable def OR(P:Pm):=dk 27 [D P s0 165 (s O5 524),D P s2 166 .none,D P s3 167 .none,D P s4 168 (.builtin s7097527257260152453x26),D P s5 169 .none,D P Ik 170 (r 6),D P Hl 171 (r 4),D P Hw 173 (s cD 172),D P GX 174 .none,D P yU 275 (r 12),D P CG 317 (.type s5314052453082223887x17),D P w9 330 (r 44),D P zT 332 (s NG 331),D P wF 343 (r 51),D P wu 352 (r 58),D P wU 362 (r 65),D P wT 369 (r 72),D P gY 380 (r 79),D P LJ 381 (r 79),D P wZ 394 (r 86),D P wr 401 (r 93),D P wh 410 (r 100),D P wK 420 (r 107),D P wj 435 (r 114),D P wn 443 (r 121),D P vt 485 (r 144),D P Mz 523 (r 153)]
noncomputable def IA:=fl [i 3,i 0,r 43,i 8,i 0,r 50,i 29,i 0,r 57,i 34,i 0,r 64,i 39,i 0,r 71,i 42,i 0,r 78,i 63,i 0,r 85,i 74,i 0,r 92,i 76,i 0,r 99,i 85,i 0,r 106,i 93,i 0,r 113,i 114,i 0,r 120,i 117,i 0,r 127]
noncomputable abbrev Gb:=S [107]
noncomputable def oM:=tu [s Gb 327]
noncomputable def pc:=O .none none (.func (F [2] w9 w9 0 [] .none .none .none .none none .none .none 0)) ⟨[]⟩
noncomputable def oJ:=cq w9 w9 324 3 1 0 0 3 38 328
noncomputable def pk:=fq [2] w9 w9 F5 164 43
noncomputable abbrev MB:=S [120]
noncomputable abbrev RE:=S [116]
noncomputable def o_:=tu [s Cq 338,s MB 339,s RE 340]
noncomputable def pe:=O .none none (.func (F [5] wF wF 0 [] .none .none .none .none none .none .none 0)) ⟨[]⟩
noncomputable def oI:=cq wF wF 335 8 2 0 0 3 45 341
noncomputable abbrev sY:=S [111,115,46,112,97,116,104]
noncomputable def pb:=fq [5] wF wF sY 333 50
noncomputable def oL:=tu [s Cq 347,s MB 348,s Gb 349]
noncomputable def pg:=O .none none (.func (F [6] wu wu 0 [] .none .none .none .none none .none .none 0)) ⟨[]⟩
noncomputable def oR:=cq wu wu 344 29 2 0 0 3 52 350
noncomputable def iU:=fq [6] wu wu sY 333 57
noncomputable abbrev WQ:=S [102,117,110,99,110,97,109,101]
noncomputable abbrev CT:=S [97,114,103,115]
noncomputable abbrev zJ:=S [115]
noncomputable def ix:=tu [s WQ 356,s CT 357,s zJ 358,s Gb 359]
noncomputable def o7:=O .none none (.func (F [7] wU wU 0 [] .none .none .none .none none .none .none 0)) ⟨[]⟩
noncomputable def oX:=cq wU wU 353 34 1 0 0 7 59 360
noncomputable def ph:=fq [7] wU wU sY 333 64
noncomputable def oW:=tu [s zJ 366]
noncomputable def oZ:=O .none none (.func (F [8] wT wT 0 [] .none .none .none .none none .none .none 0)) ⟨[]⟩
noncomputable def oG:=cq wT wT 363 39 1 0 0 3 66 367
noncomputable def o4:=fq [8] wT wT sY 333 71
noncomputable abbrev Z9:=S [97]
noncomputable abbrev LO:=S [112]
noncomputable abbrev Sp:=S [98]
noncomputable abbrev RW:=S [112,97,116,104]
noncomputable def pj:=tu [s Z9 373,s LO 374,s Sp 375,s zT 376,s RW 377]
noncomputable def oN:=O .none none (.func (F [9] gY gY 0 [] .none .none .none .none none .none .none 0)) ⟨[]⟩
noncomputable def oO:=cq gY gY 370 42 1 0 0 7 73 378
noncomputable def oH:=fq [9] gY gY sY 333 78
noncomputable abbrev Ys:=S [99,110,97,109,101]
noncomputable abbrev XC:=S [97,114,103,110,97,109,101]
noncomputable abbrev Po:=S [107,119,97,114,103,115]
noncomputable def oY:=tu [s Cq 385,s Ys 386,s XC 387,s CT 388,s Po 389,s MB 390,s Gb 391]
noncomputable def pi:=O .none none (.func (F [11] wZ wZ 0 [] .none .none .none .none none .none .none 0)) ⟨[]⟩
noncomputable def oV:=cq wZ wZ 382 63 5 0 0 3 80 392
noncomputable def pa:=fq [11] wZ wZ sY 333 85
noncomputable def oU:=tu [s zJ 398]
noncomputable def i3:=O .none none (.func (F [12] wr wr 0 [] .none .none .none .none none .none .none 0)) ⟨[]⟩
noncomputable def jj:=cq wr wr 395 74 1 0 0 3 87 399
noncomputable def iu:=fq [12] wr wr sY 333 92
noncomputable abbrev XF:=S [101,109,112,116,121]
noncomputable def oS:=tu [s LO 405,s zT 406,s XF 407]
noncomputable def oK:=O .none none (.func (F [13] wh wh 0 [] .none .none .none .none none .none .none 0)) ⟨[]⟩
noncomputable def oP:=cq wh wh 402 76 1 0 0 3 94 408
noncomputable def h8:=fq [13] wh wh sY 333 99
noncomputable abbrev Hu:=S [105]
noncomputable abbrev aar:=S [104,101,97,100]
noncomputable def h7:=tu [s LO 414,s zT 415,s Hu 416,s aar 417]
noncomputable def ib:=O .none none (.func (F [14] wK wK 0 [] .none .none .none .none none .none .none 0)) ⟨[]⟩
noncomputable def iV:=cq wK wK 411 85 1 0 0 3 101 418
noncomputable def jd:=fq [14] wK wK sY 333 106
noncomputable abbrev Zp:=S [100,111,116]
noncomputable abbrev VS:=S [100,111,116,100,111,116]
noncomputable abbrev Rk:=S [95]
noncomputable abbrev Wn:=S [105,110,105,116,105,97,108,95,115,108,97,115,104,101,115]
noncomputable abbrev VB:=S [99,111,109,112,115]
noncomputable abbrev VJ:=S [110,101,119,95,99,111,109,112,115]
noncomputable abbrev Wh:=S [99,111,109,112]
noncomputable def iO:=tu [s RW 424,s zT 425,s Zp 426,s VS 427,s Rk 428,s Wn 429,s VB 430,s VJ 431,s Wh 432]
noncomputable def iM:=O .none none (.func (F [15] wj wj 0 [] .none .none .none .none none .none .none 0)) ⟨[]⟩
noncomputable def iv:=cq wj wj 421 93 1 0 0 3 108 433
noncomputable def iL:=fq [15] wj wj sY 333 113
noncomputable def iJ:=tu [s CT 439,s Po 440]
noncomputable def iW:=O .none none (.func (F [16] wn wn 0 [] .none .none .none .none none .none .none 0)) ⟨[]⟩
noncomputable def iD:=cq wn wn 436 114 0 0 0 15 115 441
noncomputable def ii:=fq [16] wn wn sY 333 120
noncomputable def bh:=fd s11030030927630378310x26 [.builtin s10062305145149207511x16,.type s17162191345867700912x4]
noncomputable abbrev Do:=S [99,112,121,51,49,51,46,116,114,97,99,101]
noncomputable abbrev yF:=S [95,95,113,117,97,108,110,97,109,101,95,95]
noncomputable abbrev DQ:=S [110,97,109,101,115]
noncomputable def fT(P:Pm):=dk 6 [D P ft 453 (s Do 444),D P yF 455 (s vt 454),D P fm 457 (.int 117 456),D P ef 463 (r 134),D P DQ 474 (r 141),D P fw 478 (r 142)]
noncomputable def fV:=fl [i 119,i 4,r 133,i 124,i 4,r 140]
noncomputable def h9:=co [s vt 448,s vt 449,s cD 450,i 117,i 0,i 0,i 0,i 0,r 125,.bool false,i 318,r 126,.none,.none,.none,.none,i 451,i 117,s cD 452]
noncomputable def iA:=O (.type s658472552662922059x5) none .plain ⟨[some (r 127),some (r 3),some (r 124),none,some (s Do 444),none,some (r 0)]⟩
noncomputable def cz:=tu [.none,.none]
noncomputable abbrev LY:=S [95,73,103,110,111,114,101,46,95,95,105,110,105,116,95,95]
noncomputable def iy:=O .none none (.func (F [18,0] ef LY 0 [] .none .none .none .none none .none .none 0)) ⟨[]⟩
noncomputable def jg:=co [s ef 458,s LY 459,s cD 460,i 119,i 3,i 0,i 0,i 3,r 130,.bool true,i 318,r 131,.none,.none,.none,r 132,i 461,i 119,s cD 462]
noncomputable def jf:=fn (F [18,0] ef LY 3 [] (r 129) .none .none (s Do 444) none (r 133) .none 0)
noncomputable abbrev bt:=S [115,101,108,102]
noncomputable abbrev aaq:=S [102,105,108,101,110,97,109,101]
noncomputable abbrev aaX:=S [109,111,100,117,108,101,110,97,109,101]
noncomputable abbrev Xx:=S [109,111,100]
noncomputable abbrev aaf:=S [100]
noncomputable def ip:=tu [s bt 467,s aaq 468,s aaX 469,s Xx 470,s aaf 471]
noncomputable abbrev PD:=S [95,73,103,110,111,114,101,46,110,97,109,101,115]
noncomputable def i4:=O .none none (.func (F [18,1] DQ PD 0 [] .none .none .none .none none .none .none 0)) ⟨[]⟩
noncomputable def i7:=cq DQ PD 464 124 3 0 0 3 135 472
noncomputable def jn:=fq [18,1] DQ PD Do 444 140
noncomputable abbrev YK:=S [95,100,105,114,115]
noncomputable abbrev YS:=S [95,105,103,110,111,114,101]
noncomputable abbrev XJ:=S [95,109,111,100,115]
noncomputable def i9:=tu [s YK 475,s YS 476,s XJ 477]
noncomputable def jm(P:Pm):=dk 4 [D P ft 453 (s Do 444),D P fm 457 (.int 117 456),D P ef 463 (r 134),D P DQ 474 (r 141),D P fw 478 (r 142),D P vo 480 (r 145),D P oE 482 (r 146),D P s2 483 .none]
noncomputable def jl:=O (.type s17162191345867700912x4) none (.cls (C vt [.type s2742458400755230247x6] [r 144,.type s2742458400755230247x6] 143 vt true [] [] false none false)) ⟨[none,none,some (s vt 446),some (s vt 454),some (.builtin s11443829558043349243x14),some (.bool true)]⟩
noncomputable def il:=fd s14755015743595814543x17 [s vo 479,r 144,.builtin s6511155373996960695x17,.builtin s12411053484034534018x21]
noncomputable def iF:=fd s14755015743595814543x17 [s oE 481,r 144,.builtin s10220274742760427390x26,.none]
noncomputable def iC:=fd s4290257624100764138x5 [r 144,r 144,r 144]
noncomputable def ic:=fd s11030030927630378310x26 [.builtin s4860613602091757760x24,r 144]
noncomputable def iS:=O (.type s9222952809800978799x4) none (.seq ⟨[.int 14 489,.int 14 490,.int 4 491,.int 1 492,.int 1 493,.int 9 494,.int 0 495,.int 64 496,.int 0 497,.int 1342177280 498,.int 0 499,.int 0 500,.int 0 501,.int 0 502,.int 0 503,.int 17 504,.int 0 505,.int 13 506,.int 11 507,.int 9 508,.int 0 509,.int 64 510,.int 0 511,.int 1342177280 512,.int 0 513,.int 0 514,.int 0 515,.int 0 516,.int 0 517,.int 17 518,.int 1 519,.int 1 520]⟩ 0) ⟨[]⟩
noncomputable def ie:=tu [i 14,i 14,i 4,i 1,i 1,i 9,i 0,i 64,i 0,i 1342177280,i 0,i 0,i 0,i 0,i 0,i 17,i 0,i 13,i 11,i 9,i 0,i 64,i 0,i 1342177280,i 0,i 0,i 0,i 0,i 0,i 17,i 1,i 1]
noncomputable abbrev Wl:=S [40,91,38,126,124,93,41]
noncomputable def iG:=fd s12171344214640291687x10 [s Wl 487,.int 32 522,i 1,.none,.none,r 152,i 0]
noncomputable abbrev RO:=S [95,115,112,101,99,105,97,108,95,99,104,97,114,115,95,109,97,112]
noncomputable def NB(P:Pm):=dk 28 [D P s0 165 (s O5 524),D P s2 166 .none,D P s3 167 .none,D P s4 168 (.builtin s7097527257260152453x26),D P s5 169 .none,D P Ik 170 (r 6),D P Hl 171 (r 4),D P Hw 173 (s cD 172),D P GX 174 .none,D P yU 275 (r 12),D P CG 317 (.type s5314052453082223887x17),D P w9 330 (r 44),D P zT 332 (s NG 331),D P wF 343 (r 51),D P wu 352 (r 58),D P wU 362 (r 65),D P wT 369 (r 72),D P gY 380 (r 79),D P LJ 381 (r 79),D P wZ 394 (r 86),D P wr 401 (r 93),D P wh 410 (r 100),D P wK 420 (r 107),D P wj 435 (r 114),D P wn 443 (r 121),D P vt 485 (r 144),D P Mz 523 (r 153),D P RO 671 (r 155)]
noncomputable def jh:=fd s1378417608194177226x14 [.none,i 24]
noncomputable abbrev XR:=S [92,40]
noncomputable abbrev Xf:=S [92,41]
noncomputable abbrev aam:=S [92,91]
noncomputable abbrev WO:=S [92,93]
noncomputable abbrev ZD:=S [92,123]
noncomputable abbrev aah:=S [92,125]
noncomputable abbrev ZG:=S [92,63]
noncomputable abbrev Wc:=S [92,42]
noncomputable abbrev aag:=S [92,43]
noncomputable abbrev VI:=S [92,45]
noncomputable abbrev VM:=S [92,124]
noncomputable abbrev XW:=S [92,94]
noncomputable abbrev Y3:=S [92,36]
noncomputable abbrev aak:=S [92,92]
noncomputable abbrev XD:=S [92,46]
noncomputable abbrev WZ:=S [92,38]
noncomputable abbrev V5:=S [92,126]
noncomputable abbrev aav:=S [92,35]
noncomputable abbrev Zu:=S [92,32]
noncomputable abbrev aa7:=S [92,9]
noncomputable abbrev ZR:=S [92,10]
noncomputable abbrev s319:=S [92,13]
noncomputable abbrev WC:=S [92,11]
noncomputable abbrev Y0:=S [92,12]
noncomputable def fG:=dk 24 [⟨40,.int 40 527,(s XR 531)⟩,⟨41,.int 41 533,(s Xf 537)⟩,⟨91,.int 91 539,(s aam 543)⟩,⟨93,.int 93 545,(s WO 549)⟩,⟨123,.int 123 551,(s ZD 555)⟩,⟨125,.int 125 557,(s aah 561)⟩,⟨63,.int 63 563,(s ZG 567)⟩,⟨42,.int 42 569,(s Wc 573)⟩,⟨43,.int 43 575,(s aag 579)⟩,⟨45,.int 45 581,(s VI 585)⟩,⟨124,.int 124 587,(s VM 591)⟩,⟨94,.int 94 593,(s XW 597)⟩,⟨36,.int 36 599,(s Y3 603)⟩,⟨92,.int 92 605,(s aak 609)⟩,⟨46,.int 46 611,(s XD 615)⟩,⟨38,.int 38 617,(s WZ 621)⟩,⟨126,.int 126 623,(s V5 627)⟩,⟨35,.int 35 629,(s aav 633)⟩,⟨32,.int 32 635,(s Zu 639)⟩,⟨9,.int 9 641,(s aa7 645)⟩,⟨10,.int 10 647,(s ZR 651)⟩,⟨13,.int 13 653,(s s319 657)⟩,⟨11,.int 11 659,(s WC 663)⟩,⟨12,.int 12 665,(s Y0 669)⟩]
noncomputable def jb:=dk 2 []
noncomputable def jr:=fd s5991306692159431302x13 [r 157,.none,.none,.none,.bool false,.none]
noncomputable abbrev Zk:=S [116,121,112,101,46,95,95,115,117,98,99,108,97,115,115,101,115,95,95,46,79,83,69,114,114,111,114,46,48]
noncomputable abbrev Xg:=S [116,121,112,101,46,95,95,115,117,98,99,108,97,115,115,101,115,95,95,46,79,83,69,114,114,111,114,46,110]
noncomputable def Ah(P:Pm):=O .none none (.dict ⟨[D P UE 183 (.bool true),D P Rp 185 (r 14),D P T7 206 (r 18),D P Rf 216 (r 22),D P UU 245 (i 4),D P TK 270 (.bool true),D P QJ 272 (r 27),D P TT 0 (s Tx 0),D P Tq 273 (s Su 0),D P Ul 280 (.bool true),D P TV 294 (.bool true),D P Ta 309 (.bool true),D P Te 311 (s SG 0),D P Zk 776 (i 201),D P Xg 777 (i 1)]⟩ 15) ⟨[]⟩
noncomputable abbrev zQ:=S [108,97,119,95,97,97,48,48,54,52,95,48,49]
noncomputable abbrev x5:=S [101,115,99,97,112,101]
noncomputable abbrev Ab:=S [95,116,114,97,110,115,108,97,116,101]
noncomputable abbrev Z0:=S [116,119,105,110,95,114,101,95,49,95,115,104,108,101,120]
noncomputable abbrev zu:=S [95,119,104,101,110,99,101]
noncomputable abbrev Aq:=S [95,105,110,100,101,120]
noncomputable abbrev xp:=S [85,110,115,117,112,112,111,114,116,101,100,79,112,101,114,97,116,105,111,110]
noncomputable abbrev yz:=S [73,79,66,97,115,101]
noncomputable abbrev zc:=S [66,117,102,102,101,114,101,100,73,79,66,97,115,101]
noncomputable abbrev yH:=S [84,101,120,116,73,79,66,97,115,101]
noncomputable abbrev xC:=S [66,121,116,101,115,73,79]
noncomputable abbrev zd:=S [83,116,114,105,110,103,73,79]
noncomputable abbrev zj:=S [115,104,108,101,120]
noncomputable abbrev zS:=S [115,112,108,105,116]
noncomputable abbrev YR:=S [106,111,105,110,95,115,104,108,101,120]
noncomputable abbrev Y7:=S [95,102,105,110,100,95,117,110,115,97,102,101]
noncomputable abbrev zy:=S [113,117,111,116,101]
noncomputable abbrev Am:=S [95,108,97,119,95,104,101,108,100]
noncomputable abbrev zW:=S [95,108,97,119,95,116,97,107,101,115]
noncomputable abbrev Ae:=S [95,108,97,119,95,114,111,119,115]
noncomputable abbrev zE:=S [95,108,97,119,95,119,97,121,115]
noncomputable abbrev AF:=S [95,108,97,119,95,103,105,118,101,110]
noncomputable abbrev Ay:=S [108,97,119]
noncomputable def zI(P:Pm):=dk 50 [D P s0 165 (s zQ 1565),D P s2 166 .none,D P s3 167 .none,D P s4 168 (.builtin s7097527257260152453x26),D P s5 169 .none,D P Ik 170 (r 6),D P Hl 171 (r 4),D P Hw 173 (s cD 172),D P GX 174 .none,D P yU 275 (r 12),D P CG 317 (.type s5314052453082223887x17),D P w9 330 (r 44),D P zT 332 (s NG 331),D P wF 343 (r 51),D P wu 352 (r 58),D P wU 362 (r 65),D P wT 369 (r 72),D P gY 380 (r 837),D P LJ 381 (r 79),D P wZ 394 (r 86),D P wr 401 (r 93),D P wh 410 (r 100),D P wK 420 (r 107),D P wj 435 (r 114),D P wn 443 (r 121),D P vt 485 (r 144),D P Mz 523 (r 153),D P RO 671 (r 155),D P x5 678 (r 165),D P Ab 699 (r 172),D P Z0 739 (r 177),D P zu 749 (r 184),D P Aq 757 (r 191),D P xp 779 (r 201),D P yz 811 (r 221),D P zc 829 (r 236),D P yH 847 (r 248),D P xC 1109 (r 478),D P zd 1396 (r 725),D P zj 1537 (r 818),D P zS 1547 (r 830),D P YR 1555 (r 837),D P Y7 1557 (r 838),D P zy 1564 (r 845),D P Am 1572 (r 850),D P zW 1582 (r 857),D P Ae 1588 (r 862),D P zE 1598 (r 869),D P AF 1610 (r 876),D P Ay 1616 (r 881)]
noncomputable def wm:=fl [i 3,i 0,r 43,i 8,i 0,r 50,i 29,i 0,r 57,i 34,i 0,r 64,i 39,i 0,r 71,i 42,i 0,r 78,i 63,i 0,r 85,i 74,i 0,r 92,i 76,i 0,r 99,i 85,i 0,r 106,i 93,i 0,r 113,i 114,i 0,r 120,i 117,i 0,r 127,i 146,i 0,r 164,i 153,i 0,r 171,i 217,i 0,r 183,i 222,i 0,r 190,i 229,i 0,r 197,i 231,i 0,r 210,i 238,i 0,r 232,i 240,i 0,r 244,i 242,i 0,r 256,i 412,i 0,r 486,i 618,i 0,r 733,i 872,i 0,r 829,i 880,i 0,r 836,i 884,i 0,r 844,i 891,i 0,r 849,i 898,i 0,r 856,i 905,i 0,r 861,i 910,i 0,r 868,i 921,i 0,r 875,i 931,i 0,r 880]
noncomputable abbrev Xy:=S [112,97,116,116,101,114,110]
noncomputable def tT:=tu [s Xy 675]
noncomputable def uz:=O .none none (.func (F [22] x5 x5 0 [] .none .none .none .none none .none .none 0)) ⟨[]⟩
noncomputable def tS:=cq x5 x5 672 146 1 0 0 3 159 676
noncomputable def sC:=fq [22] x5 x5 O5 524 164
noncomputable abbrev Yt:=S [112,97,116]
noncomputable abbrev YL:=S [83,84,65,82]
noncomputable abbrev XY:=S [81,85,69,83,84,73,79,78,95,77,65,82,75]
noncomputable abbrev aaD:=S [114,101,115]
noncomputable abbrev WU:=S [97,100,100]
noncomputable abbrev CC:=S [110]
noncomputable abbrev XX:=S [99]
noncomputable abbrev Ra:=S [106]
noncomputable abbrev Vu:=S [115,116,117,102,102]
noncomputable abbrev Xp:=S [99,104,117,110,107,115]
noncomputable abbrev XV:=S [99,104,117,110,107]
noncomputable def qm:=tu [s Yt 684,s YL 685,s XY 686,s aaD 687,s WU 688,s Hu 689,s CC 690,s XX 691,s Ra 692,s Vu 693,s Xp 694,s Gb 695,s XV 696]
noncomputable def t9:=O .none none (.func (F [24] Ab Ab 0 [] .none .none .none .none none .none .none 0)) ⟨[]⟩
noncomputable def fB:=cq Ab Ab 681 153 3 0 0 3 166 697
noncomputable abbrev XA:=S [99,112,121,51,49,51,46,102,110,109,97,116,99,104]
noncomputable def tG:=fq [24] Ab Ab XA 679 171
noncomputable def q6:=O (.type s9222952809800978799x4) none (.seq ⟨[.int 14 703,.int 17 704,.int 4 705,.int 1 706,.int 1 707,.int 21 708,.int 9 709,.int 0 710,.int 604043296 711,.int 1 712,.int 0 713,.int 0 714,.int 0 715,.int 0 716,.int 0 717,.int 8 718,.int 4 719,.int 0 720,.int 13 721,.int 14 722,.int 21 723,.int 9 724,.int 0 725,.int 604043296 726,.int 1 727,.int 0 728,.int 0 729,.int 0 730,.int 0 731,.int 0 732,.int 8 733,.int 4 734,.int 0 735,.int 1 736]⟩ 0) ⟨[]⟩
noncomputable def bH:=tu [.none]
noncomputable def sy:=tu [i 14,i 17,i 4,i 1,i 1,i 21,i 9,i 0,i 604043296,i 1,i 0,i 0,i 0,i 0,i 0,i 8,i 4,i 0,i 13,i 14,i 21,i 9,i 0,i 604043296,i 1,i 0,i 0,i 0,i 0,i 0,i 8,i 4,i 0,i 1]
noncomputable abbrev W7:=S [91,94,92,119,64,37,43,61,58,44,46,47,45,93]
noncomputable def r5:=fd s12171344214640291687x10 [s W7 701,.int 256 738,i 0,.none,.none,r 176,i 0]
noncomputable abbrev Tf:=S [119,104,97,116]
noncomputable def t8:=tu [s CC 745,s Tf 746]
noncomputable def q7:=O .none none (.func (F [27] zu zu 0 [] .none .none .none .none none .none .none 0)) ⟨[]⟩
noncomputable def tw:=cq zu zu 742 217 2 0 0 3 178 747
noncomputable abbrev bj:=S [105,111]
noncomputable def pF:=fq [27] zu zu bj 740 183
noncomputable def uo:=tu [s CC 753,s Tf 754]
noncomputable def qi:=O .none none (.func (F [28] Aq Aq 0 [] .none .none .none .none none .none .none 0)) ⟨[]⟩
noncomputable def rD:=cq Aq Aq 750 222 2 0 0 3 185 755
noncomputable def uc:=fq [28] Aq Aq bj 740 190
noncomputable def uD:=tu [.type s10852414792293593619x7,.type s6070975301684473832x10]
noncomputable def rF(P:Pm):=dk 4 [D P ft 765 (s bj 770),D P yF 767 (s xp 766),D P fm 769 (.int 229 768),D P fw 772 (r 199)]
noncomputable def pK:=co [s xp 760,s xp 761,s cD 762,i 229,i 0,i 0,i 0,i 0,r 195,.bool false,i 318,r 196,.none,.none,.none,.none,i 763,i 229,s cD 764]
noncomputable def qv:=O (.type s658472552662922059x5) none .plain ⟨[some (r 197),some (r 3),some (r 194),none,some (s bj 740),none,some (r 0)]⟩
noncomputable def sS(P:Pm):=dk 3 [D P ft 765 (s bj 770),D P fm 769 (.int 229 768),D P fw 772 (r 199),D P oE 774 (r 202),D P s2 775 .none]
noncomputable def rq:=O (.type s17162191345867700912x4) none (.cls (C xp [.type s10852414792293593619x7,.type s6070975301684473832x10] [r 201,.type s10852414792293593619x7,.type s6070975301684473832x10,.type s5946037652744460706x9,.type s4278001404047624695x13,.type s2742458400755230247x6] 200 xp true [] [] false none false)) ⟨[some (r 192),none,some (s xp 758),some (s xp 766),some (.builtin s2438369993680799366x15),some (.bool true)]⟩
noncomputable def tL:=fd s14755015743595814543x17 [s oE 773,r 201,.builtin s10220274742760427390x26,.none]
noncomputable def qT:=fd s4290257624100764138x5 [r 201,r 201,r 201]
noncomputable def uW:=fd s11030030927630378310x26 [.builtin s4860613602091757760x24,r 201]
noncomputable abbrev FZ:=S [95,95,110,101,119,95,95]
noncomputable def uV(P:Pm):=dk 5 [D P ft 787 (s bj 792),D P yF 789 (s yz 788),D P fm 791 (.int 231 790),D P FZ 802 (r 218),D P fw 803 (r 219)]
noncomputable def qa:=fl [i 234,i 4,r 217]
noncomputable def rG:=co [s yz 782,s yz 783,s cD 784,i 231,i 0,i 0,i 0,i 0,r 208,.bool false,i 318,r 209,.none,.none,.none,.none,i 785,i 231,s cD 786]
noncomputable def th:=O (.type s658472552662922059x5) none .plain ⟨[some (r 210),some (r 3),some (r 207),none,some (s bj 740),none,some (r 0)]⟩
noncomputable abbrev V9:=S [99,108,115]
noncomputable def qU:=tu [s V9 797,s CT 798,s Po 799]
noncomputable abbrev MF:=S [73,79,66,97,115,101,46,95,95,110,101,119,95,95]
noncomputable def tq:=O .none none (.func (F [30,1] FZ MF 0 [] .none .none .none .none none .none .none 0)) ⟨[]⟩
noncomputable def tr:=cq FZ MF 794 234 1 1 0 15 212 800
noncomputable def sP:=fq [30,1] FZ MF bj 740 217
noncomputable def tn(P:Pm):=dk 4 [D P ft 787 (s bj 792),D P fm 791 (.int 231 790),D P FZ 802 (r 222),D P fw 803 (r 219),D P vo 806 (r 223),D P oE 808 (r 224),D P s2 809 .none]
noncomputable def tU:=O (.type s17162191345867700912x4) none (.cls (C yz [.type s2742458400755230247x6] [r 221,.type s2742458400755230247x6] 220 yz true [] [r 236,r 248] false none false)) ⟨[none,none,some (s yz 780),some (s yz 788),some .none,some (.bool true)]⟩
noncomputable def ta:=fd s16656946322747308186x12 [r 218]
noncomputable def qD:=fd s14755015743595814543x17 [s vo 805,r 221,.builtin s6511155373996960695x17,.builtin s12411053484034534018x21]
noncomputable def qJ:=fd s14755015743595814543x17 [s oE 807,r 221,.builtin s10220274742760427390x26,.none]
noncomputable def uM:=fd s4290257624100764138x5 [r 221,r 221,r 221]
noncomputable def tm:=fd s11030030927630378310x26 [.builtin s4860613602091757760x24,r 221]
noncomputable def eB:=tu [r 221]
noncomputable def tR(P:Pm):=dk 4 [D P ft 819 (s bj 824),D P yF 821 (s zc 820),D P fm 823 (.int 238 822),D P fw 826 (r 234)]
noncomputable def uQ:=co [s zc 814,s zc 815,s cD 816,i 238,i 0,i 0,i 0,i 0,r 230,.bool false,i 318,r 231,.none,.none,.none,.none,i 817,i 238,s cD 818]
noncomputable def rA:=O (.type s658472552662922059x5) none .plain ⟨[some (r 232),some (r 3),some (r 229),none,some (s bj 740),none,some (r 0)]⟩
noncomputable def sM(P:Pm):=dk 2 [D P ft 819 (s bj 824),D P fm 823 (.int 238 822),D P fw 826 (r 234),D P s2 827 .none]
noncomputable def sf:=O (.type s17162191345867700912x4) none (.cls (C zc [r 221] [r 236,r 221,.type s2742458400755230247x6] 235 zc true [] [r 478] false none false)) ⟨[some (r 227),none,some (s zc 812),some (s zc 820),some .none,some (.bool true)]⟩
noncomputable def qr:=fd s4290257624100764138x5 [r 236,r 236,r 236]
noncomputable def pV:=fd s11030030927630378310x26 [.builtin s4860613602091757760x24,r 236]
noncomputable def p8(P:Pm):=dk 4 [D P ft 837 (s bj 842),D P yF 839 (s yH 838),D P fm 841 (.int 240 840),D P fw 844 (r 246)]
noncomputable def tl:=co [s yH 832,s yH 833,s cD 834,i 240,i 0,i 0,i 0,i 0,r 242,.bool false,i 318,r 243,.none,.none,.none,.none,i 835,i 240,s cD 836]
noncomputable def su:=O (.type s658472552662922059x5) none .plain ⟨[some (r 244),some (r 3),some (r 241),none,some (s bj 740),none,some (r 0)]⟩
noncomputable def te(P:Pm):=dk 2 [D P ft 837 (s bj 842),D P fm 841 (.int 240 840),D P fw 844 (r 246),D P s2 845 .none]
noncomputable def uC:=O (.type s17162191345867700912x4) none (.cls (C yH [r 221] [r 248,r 221,.type s2742458400755230247x6] 247 yH true [] [r 725] false none false)) ⟨[some (r 239),none,some (s yH 830),some (s yH 838),some .none,some (.bool true)]⟩
noncomputable def pZ:=fd s4290257624100764138x5 [r 248,r 248,r 248]
noncomputable def t7:=fd s11030030927630378310x26 [.builtin s4860613602091757760x24,r 248]
noncomputable def q_:=tu [r 236]
noncomputable abbrev I2:=S [95,105,111]
noncomputable abbrev QL:=S [95,66,121,116,101,115,73,79,95,95,99,104,101,99,107]
noncomputable abbrev Sc:=S [95,66,121,116,101,115,73,79,95,95,108,105,110,101]
noncomputable abbrev ou:=S [99,108,111,115,101,100]
noncomputable abbrev vb:=S [99,108,111,115,101]
noncomputable abbrev vA:=S [95,95,101,110,116,101,114,95,95]
noncomputable abbrev vu:=S [95,95,101,120,105,116,95,95]
noncomputable abbrev vD:=S [114,101,97,100,97,98,108,101]
noncomputable abbrev vl:=S [119,114,105,116,97,98,108,101]
noncomputable abbrev vj:=S [115,101,101,107,97,98,108,101]
noncomputable abbrev vg:=S [105,115,97,116,116,121]
noncomputable abbrev vf:=S [102,108,117,115,104]
noncomputable abbrev vh:=S [102,105,108,101,110,111]
noncomputable abbrev vm:=S [100,101,116,97,99,104]
noncomputable abbrev vp:=S [103,101,116,118,97,108,117,101]
noncomputable abbrev Ee:=S [103,101,116,98,117,102,102,101,114]
noncomputable abbrev vk:=S [116,101,108,108]
noncomputable abbrev vd:=S [115,101,101,107]
noncomputable abbrev vv:=S [116,114,117,110,99,97,116,101]
noncomputable abbrev va:=S [114,101,97,100]
noncomputable abbrev Gp:=S [114,101,97,100,49]
noncomputable abbrev EN:=S [114,101,97,100,105,110,116,111]
noncomputable abbrev Gy:=S [114,101,97,100,105,110,116,111,49]
noncomputable abbrev vw:=S [114,101,97,100,108,105,110,101]
noncomputable abbrev u_:=S [114,101,97,100,108,105,110,101,115]
noncomputable abbrev g5:=S [95,95,105,116,101,114,95,95]
noncomputable abbrev gZ:=S [95,95,110,101,120,116,95,95]
noncomputable abbrev vE:=S [119,114,105,116,101]
noncomputable abbrev vy:=S [119,114,105,116,101,108,105,110,101,115]
noncomputable def tW(P:Pm):=dk 34 [D P ft 855 (s I2 860),D P yF 857 (s xC 856),D P fm 859 (.int 242 858),D P ef 869 (r 265),D P QL 876 (r 272),D P Sc 887 (r 279),D P ou 895 (r 287),D P vb 902 (r 294),D P vA 909 (r 301),D P vu 917 (r 308),D P vD 924 (r 315),D P vl 931 (r 322),D P vj 938 (r 329),D P vg 945 (r 336),D P vf 952 (r 343),D P vh 959 (r 350),D P vm 966 (r 357),D P vp 973 (r 364),D P Ee 980 (r 371),D P vk 987 (r 378),D P vd 997 (r 386),D P vv 1005 (r 394),D P va 1017 (r 402),D P Gp 1027 (r 410),D P EN 1037 (r 417),D P Gy 1045 (r 424),D P vw 1055 (r 432),D P u_ 1063 (r 440),D P g5 1070 (r 447),D P gZ 1078 (r 454),D P vE 1088 (r 461),D P vy 1096 (r 468),D P si 1103 (r 475),D P fw 1106 (r 476)]
noncomputable def ug:=fl [i 245,i 4,r 264,i 251,i 4,r 271,i 255,i 4,r 278,i 269,i 4,r 285,i 272,i 4,r 293,i 275,i 4,r 300,i 279,i 4,r 307,i 282,i 4,r 314,i 286,i 4,r 321,i 290,i 4,r 328,i 294,i 4,r 335,i 298,i 4,r 342,i 301,i 4,r 349,i 304,i 4,r 356,i 307,i 4,r 363,i 310,i 4,r 370,i 313,i 4,r 377,i 317,i 4,r 385,i 334,i 4,r 393,i 337,i 4,r 401,i 351,i 4,r 409,i 354,i 4,r 416,i 368,i 4,r 423,i 371,i 4,r 431,i 378,i 4,r 439,i 381,i 4,r 446,i 384,i 4,r 453,i 391,i 4,r 460,i 407,i 4,r 467,i 410,i 4,r 474]
noncomputable def rU:=co [s xC 850,s xC 851,s cD 852,i 242,i 0,i 0,i 0,i 0,r 254,.bool false,i 318,r 255,.none,.none,.none,.none,i 853,i 242,s cD 854]
noncomputable def pU:=O (.type s658472552662922059x5) none .plain ⟨[some (r 256),some (r 3),some (r 253),none,some (s bj 740),none,some (r 0)]⟩
noncomputable abbrev s395:=S [105,110,105,116,105,97,108,95,98,121,116,101,115]
noncomputable def pH:=tu [s bt 865,s s395 866]
noncomputable abbrev MO:=S [66,121,116,101,115,73,79,46,95,95,105,110,105,116,95,95]
noncomputable def tN:=O .none none (.func (F [33,1] ef MO 0 [] .none .none .none .none none .none .none 0)) ⟨[]⟩
noncomputable def pD:=cq ef MO 862 245 2 0 0 3 259 867
noncomputable def up:=fn (F [33,1] ef MO 3 [] (r 258) .none .none (s bj 740) none (r 264) .none 0)
noncomputable def rV:=tu [s bt 873]
noncomputable abbrev CW:=S [95,95,99,104,101,99,107]
noncomputable abbrev L5:=S [66,121,116,101,115,73,79,46,95,95,99,104,101,99,107]
noncomputable def qk:=O .none none (.func (F [33,2] CW L5 0 [] .none .none .none .none none .none .none 0)) ⟨[]⟩
noncomputable def ry:=cq CW L5 870 251 1 0 0 3 266 874
noncomputable def sr:=fq [33,2] CW L5 bj 740 271
noncomputable abbrev TC:=S [108,105,109,105,116]
noncomputable abbrev Af:=S [115,116,97,114,116]
noncomputable abbrev HI:=S [115,116,111,112]
noncomputable def sx:=tu [s bt 880,s TC 881,s Af 882,s HI 883,s Hu 884]
noncomputable abbrev CD:=S [95,95,108,105,110,101]
noncomputable abbrev Oz:=S [66,121,116,101,115,73,79,46,95,95,108,105,110,101]
noncomputable def uw:=O .none none (.func (F [33,3] CD Oz 0 [] .none .none .none .none none .none .none 0)) ⟨[]⟩
noncomputable def tH:=cq CD Oz 877 255 2 0 0 3 273 885
noncomputable def qI:=fq [33,3] CD Oz bj 740 278
noncomputable def sJ:=tu [s bt 891]
noncomputable abbrev PQ:=S [66,121,116,101,115,73,79,46,99,108,111,115,101,100]
noncomputable def rp:=O .none none (.func (F [33,4] ou PQ 0 [] .none .none .none .none none .none .none 0)) ⟨[]⟩
noncomputable def uA:=cq ou PQ 888 268 1 0 0 3 280 892
noncomputable def pz:=fq [33,4] ou PQ bj 740 285
noncomputable def rO:=fd s8101838861749082086x8 [r 286,.none,.none,.none,s ou 895,.bool false]
noncomputable def qQ:=tu [s bt 899]
noncomputable abbrev Pv:=S [66,121,116,101,115,73,79,46,99,108,111,115,101]
noncomputable def uy:=O .none none (.func (F [33,5] vb Pv 0 [] .none .none .none .none none .none .none 0)) ⟨[]⟩
noncomputable def tZ:=cq vb Pv 896 272 1 0 0 3 288 900
noncomputable def ur:=fq [33,5] vb Pv bj 740 293
noncomputable def sF:=tu [s bt 906]
noncomputable abbrev LU:=S [66,121,116,101,115,73,79,46,95,95,101,110,116,101,114,95,95]
noncomputable def rM:=O .none none (.func (F [33,6] vA LU 0 [] .none .none .none .none none .none .none 0)) ⟨[]⟩
noncomputable def rL:=cq vA LU 903 275 1 0 0 3 295 907
noncomputable def so:=fq [33,6] vA LU bj 740 300
noncomputable def p_:=tu [s bt 913,s CT 914]
noncomputable abbrev LE:=S [66,121,116,101,115,73,79,46,95,95,101,120,105,116,95,95]
noncomputable def qF:=O .none none (.func (F [33,7] vu LE 0 [] .none .none .none .none none .none .none 0)) ⟨[]⟩
noncomputable def t_:=cq vu LE 910 279 1 0 0 7 302 915
noncomputable def ru:=fq [33,7] vu LE bj 740 307
noncomputable def rf:=tu [s bt 921]
noncomputable abbrev PU:=S [66,121,116,101,115,73,79,46,114,101,97,100,97,98,108,101]
noncomputable def qo:=O .none none (.func (F [33,8] vD PU 0 [] .none .none .none .none none .none .none 0)) ⟨[]⟩
noncomputable def pX:=cq vD PU 918 282 1 0 0 3 309 922
noncomputable def sU:=fq [33,8] vD PU bj 740 314
noncomputable def t4:=tu [s bt 928]
noncomputable abbrev Pu:=S [66,121,116,101,115,73,79,46,119,114,105,116,97,98,108,101]
noncomputable def uE:=O .none none (.func (F [33,9] vl Pu 0 [] .none .none .none .none none .none .none 0)) ⟨[]⟩
noncomputable def qp:=cq vl Pu 925 286 1 0 0 3 316 929
noncomputable def sb:=fq [33,9] vl Pu bj 740 321
noncomputable def ut:=tu [s bt 935]
noncomputable abbrev OW:=S [66,121,116,101,115,73,79,46,115,101,101,107,97,98,108,101]
noncomputable def pC:=O .none none (.func (F [33,10] vj OW 0 [] .none .none .none .none none .none .none 0)) ⟨[]⟩
noncomputable def qM:=cq vj OW 932 290 1 0 0 3 323 936
noncomputable def sX:=fq [33,10] vj OW bj 740 328
noncomputable def tQ:=tu [s bt 942]
noncomputable abbrev Pt:=S [66,121,116,101,115,73,79,46,105,115,97,116,116,121]
noncomputable def q3:=O .none none (.func (F [33,11] vg Pt 0 [] .none .none .none .none none .none .none 0)) ⟨[]⟩
noncomputable def pM:=cq vg Pt 939 294 1 0 0 3 330 943
noncomputable def um:=fq [33,11] vg Pt bj 740 335
noncomputable def rx:=tu [s bt 949]
noncomputable abbrev NC:=S [66,121,116,101,115,73,79,46,102,108,117,115,104]
noncomputable def pI:=O .none none (.func (F [33,12] vf NC 0 [] .none .none .none .none none .none .none 0)) ⟨[]⟩
noncomputable def uh:=cq vf NC 946 298 1 0 0 3 337 950
noncomputable def rl:=fq [33,12] vf NC bj 740 342
noncomputable def qX:=tu [s bt 956]
noncomputable abbrev Np:=S [66,121,116,101,115,73,79,46,102,105,108,101,110,111]
noncomputable def rj:=O .none none (.func (F [33,13] vh Np 0 [] .none .none .none .none none .none .none 0)) ⟨[]⟩
noncomputable def rP:=cq vh Np 953 301 1 0 0 3 344 957
noncomputable def q9:=fq [33,13] vh Np bj 740 349
noncomputable def uR:=tu [s bt 963]
noncomputable abbrev Nc:=S [66,121,116,101,115,73,79,46,100,101,116,97,99,104]
noncomputable def uL:=O .none none (.func (F [33,14] vm Nc 0 [] .none .none .none .none none .none .none 0)) ⟨[]⟩
noncomputable def p7:=cq vm Nc 960 304 1 0 0 3 351 964
noncomputable def r9:=fq [33,14] vm Nc bj 740 356
noncomputable def rR:=tu [s bt 970]
noncomputable abbrev Pc:=S [66,121,116,101,115,73,79,46,103,101,116,118,97,108,117,101]
noncomputable def qq:=O .none none (.func (F [33,15] vp Pc 0 [] .none .none .none .none none .none .none 0)) ⟨[]⟩
noncomputable def uk:=cq vp Pc 967 307 1 0 0 3 358 971
noncomputable def sO:=fq [33,15] vp Pc bj 740 363
noncomputable def po:=tu [s bt 977]
noncomputable abbrev Nb:=S [66,121,116,101,115,73,79,46,103,101,116,98,117,102,102,101,114]
noncomputable def sp:=O .none none (.func (F [33,16] Ee Nb 0 [] .none .none .none .none none .none .none 0)) ⟨[]⟩
noncomputable def tI:=cq Ee Nb 974 310 1 0 0 3 365 978
noncomputable def uu:=fq [33,16] Ee Nb bj 740 370
noncomputable def tJ:=tu [s bt 984]
noncomputable abbrev LT:=S [66,121,116,101,115,73,79,46,116,101,108,108]
noncomputable def sd:=O .none none (.func (F [33,17] vk LT 0 [] .none .none .none .none none .none .none 0)) ⟨[]⟩
noncomputable def pr:=cq vk LT 981 313 1 0 0 3 372 985
noncomputable def rd:=fq [33,17] vk LT bj 740 377
noncomputable def pB:=tu [.int 0 988]
noncomputable abbrev NO:=S [112,111,115]
noncomputable abbrev QH:=S [119,104,101,110,99,101]
noncomputable def uF:=tu [s bt 992,s NO 993,s QH 994]
noncomputable abbrev P2:=S [66,121,116,101,115,73,79,46,115,101,101,107]
noncomputable def tg:=O .none none (.func (F [33,18] vd P2 0 [] .none .none .none .none none .none .none 0)) ⟨[]⟩
noncomputable def pY:=cq vd P2 989 317 3 3 0 3 380 995
noncomputable def rQ:=fn (F [33,18] vd P2 3 [] (r 379) .none .none (s bj 740) none (r 385) .none 0)
noncomputable abbrev zH:=S [115,105,122,101]
noncomputable def qu:=tu [s bt 1001,s zH 1002]
noncomputable abbrev LR:=S [66,121,116,101,115,73,79,46,116,114,117,110,99,97,116,101]
noncomputable def r7:=O .none none (.func (F [33,19] vv LR 0 [] .none .none .none .none none .none .none 0)) ⟨[]⟩
noncomputable def tO:=cq vv LR 998 334 2 2 0 3 388 1003
noncomputable def sq:=fn (F [33,19] vv LR 3 [] (r 387) .none .none (s bj 740) none (r 393) .none 0)
noncomputable def pO:=tu [.int (-1) 1007]
noncomputable def qL:=tu [s bt 1011,s zH 1012,s Af 1013,s HI 1014]
noncomputable abbrev MC:=S [66,121,116,101,115,73,79,46,114,101,97,100]
noncomputable def ui:=O .none none (.func (F [33,20] va MC 0 [] .none .none .none .none none .none .none 0)) ⟨[]⟩
noncomputable def qO:=cq va MC 1008 337 2 2 0 3 396 1015
noncomputable def rn:=fn (F [33,20] va MC 3 [] (r 395) .none .none (s bj 740) none (r 401) .none 0)
noncomputable def ss:=tu [.int (-1) 1019]
noncomputable def sn:=tu [s bt 1023,s zH 1024]
noncomputable abbrev Ma:=S [66,121,116,101,115,73,79,46,114,101,97,100,49]
noncomputable def uJ:=O .none none (.func (F [33,21] Gp Ma 0 [] .none .none .none .none none .none .none 0)) ⟨[]⟩
noncomputable def tp:=cq Gp Ma 1020 351 2 2 0 3 404 1025
noncomputable def uX:=fn (F [33,21] Gp Ma 3 [] (r 403) .none .none (s bj 740) none (r 409) .none 0)
noncomputable abbrev RR:=S [98,117,102,102,101,114]
noncomputable def sw:=tu [s bt 1031,s RR 1032,s Af 1033,s CC 1034]
noncomputable abbrev P_:=S [66,121,116,101,115,73,79,46,114,101,97,100,105,110,116,111]
noncomputable def rW:=O .none none (.func (F [33,22] EN P_ 0 [] .none .none .none .none none .none .none 0)) ⟨[]⟩
noncomputable def uO:=cq EN P_ 1028 354 2 2 0 3 411 1035
noncomputable def p9:=fq [33,22] EN P_ bj 740 416
noncomputable def sD:=tu [s bt 1041,s RR 1042]
noncomputable abbrev OD:=S [66,121,116,101,115,73,79,46,114,101,97,100,105,110,116,111,49]
noncomputable def tP:=O .none none (.func (F [33,23] Gy OD 0 [] .none .none .none .none none .none .none 0)) ⟨[]⟩
noncomputable def rZ:=cq Gy OD 1038 368 2 2 0 3 418 1043
noncomputable def re:=fq [33,23] Gy OD bj 740 423
noncomputable def qA:=tu [.int (-1) 1047]
noncomputable def qy:=tu [s bt 1051,s zH 1052]
noncomputable abbrev LX:=S [66,121,116,101,115,73,79,46,114,101,97,100,108,105,110,101]
noncomputable def pA:=O .none none (.func (F [33,24] vw LX 0 [] .none .none .none .none none .none .none 0)) ⟨[]⟩
noncomputable def sa:=cq vw LX 1048 371 2 2 0 3 426 1053
noncomputable def uH:=fn (F [33,24] vw LX 3 [] (r 425) .none .none (s bj 740) none (r 431) .none 0)
noncomputable def us:=tu [s bt 1059,s zH 1060]
noncomputable abbrev Pd:=S [66,121,116,101,115,73,79,46,114,101,97,100,108,105,110,101,115]
noncomputable def sQ:=O .none none (.func (F [33,25] u_ Pd 0 [] .none .none .none .none none .none .none 0)) ⟨[]⟩
noncomputable def pG:=cq u_ Pd 1056 378 2 2 0 3 434 1061
noncomputable def qY:=fn (F [33,25] u_ Pd 3 [] (r 433) .none .none (s bj 740) none (r 439) .none 0)
noncomputable def qC:=tu [s bt 1067]
noncomputable abbrev PG:=S [66,121,116,101,115,73,79,46,95,95,105,116,101,114,95,95]
noncomputable def rY:=O .none none (.func (F [33,26] g5 PG 0 [] .none .none .none .none none .none .none 0)) ⟨[]⟩
noncomputable def uK:=cq g5 PG 1064 381 1 0 0 3 441 1068
noncomputable def sH:=fq [33,26] g5 PG bj 740 446
noncomputable abbrev R3:=S [108,105,110,101]
noncomputable def qV:=tu [s bt 1074,s R3 1075]
noncomputable abbrev Mw:=S [66,121,116,101,115,73,79,46,95,95,110,101,120,116,95,95]
noncomputable def q4:=O .none none (.func (F [33,27] gZ Mw 0 [] .none .none .none .none none .none .none 0)) ⟨[]⟩
noncomputable def ql:=cq gZ Mw 1071 384 1 0 0 3 448 1076
noncomputable def t6:=fq [33,27] gZ Mw bj 740 453
noncomputable def sT:=tu [s bt 1082,s Sp 1083,s CC 1084,s Af 1085]
noncomputable abbrev Nx:=S [66,121,116,101,115,73,79,46,119,114,105,116,101]
noncomputable def sm:=O .none none (.func (F [33,28] vE Nx 0 [] .none .none .none .none none .none .none 0)) ⟨[]⟩
noncomputable def qP:=cq vE Nx 1079 391 2 2 0 3 455 1086
noncomputable def pN:=fq [33,28] vE Nx bj 740 460
noncomputable abbrev Qy:=S [108,105,110,101,115]
noncomputable def rz:=tu [s bt 1092,s Qy 1093]
noncomputable abbrev L9:=S [66,121,116,101,115,73,79,46,119,114,105,116,101,108,105,110,101,115]
noncomputable def tc:=O .none none (.func (F [33,29] vy L9 0 [] .none .none .none .none none .none .none 0)) ⟨[]⟩
noncomputable def p6:=cq vy L9 1089 407 2 2 0 3 462 1094
noncomputable def qg:=fq [33,29] vy L9 bj 740 467
noncomputable def rC:=tu [s bt 1100]
noncomputable abbrev MU:=S [66,121,116,101,115,73,79,46,95,95,114,101,112,114,95,95]
noncomputable def uP:=O .none none (.func (F [33,30] si MU 0 [] .none .none .none .none none .none .none 0)) ⟨[]⟩
noncomputable def qh:=cq si MU 1097 410 1 0 0 3 469 1101
noncomputable def ul:=fq [33,30] si MU bj 740 474
noncomputable abbrev SO:=S [95,95,98,117,102]
noncomputable abbrev UR:=S [95,95,112,111,115]
noncomputable def pw:=tu [s SO 1104,s UR 1105]
noncomputable def r_(P:Pm):=dk 2 [D P ft 855 (s I2 860),D P fm 859 (.int 242 858),D P ef 869 (r 265),D P QL 876 (r 272),D P Sc 887 (r 279),D P ou 895 (r 287),D P vb 902 (r 294),D P vA 909 (r 301),D P vu 917 (r 308),D P vD 924 (r 315),D P vl 931 (r 322),D P vj 938 (r 329),D P vg 945 (r 336),D P vf 952 (r 343),D P vh 959 (r 350),D P vm 966 (r 357),D P vp 973 (r 364),D P Ee 980 (r 371),D P vk 987 (r 378),D P vd 997 (r 386),D P vv 1005 (r 394),D P va 1017 (r 402),D P Gp 1027 (r 410),D P EN 1037 (r 417),D P Gy 1045 (r 424),D P vw 1055 (r 432),D P u_ 1063 (r 440),D P g5 1070 (r 447),D P gZ 1078 (r 454),D P vE 1088 (r 461),D P vy 1096 (r 468),D P si 1103 (r 475),D P fw 1106 (r 476),D P s2 1107 .none]
noncomputable def tD:=O (.type s17162191345867700912x4) none (.cls (C xC [r 236] [r 478,r 236,r 221,.type s2742458400755230247x6] 477 xC true [] [] false none false)) ⟨[some (r 251),none,some (s xC 848),some (s xC 856),some .none,some (.bool true)]⟩
noncomputable def qW:=fd s4290257624100764138x5 [r 478,r 478,r 478]
noncomputable def tE:=fd s11030030927630378310x26 [.builtin s4860613602091757760x24,r 478]
noncomputable def qc:=tu [r 248]
noncomputable abbrev Rw:=S [95,83,116,114,105,110,103,73,79,95,95,116,114,97,110,115,108,97,116,101,100]
noncomputable abbrev Qq:=S [95,83,116,114,105,110,103,73,79,95,95,99,104,101,99,107]
noncomputable abbrev S8:=S [95,83,116,114,105,110,103,73,79,95,95,99,104,101,99,107,95,100,111,116]
noncomputable abbrev Uk:=S [95,83,116,114,105,110,103,73,79,95,95,108,105,110,101]
noncomputable abbrev Cv:=S [108,105,110,101,95,98,117,102,102,101,114,105,110,103]
noncomputable abbrev CO:=S [110,101,119,108,105,110,101,115]
noncomputable abbrev Cx:=S [101,110,99,111,100,105,110,103]
noncomputable abbrev C7:=S [101,114,114,111,114,115]
noncomputable def t5(P:Pm):=dk 36 [D P ft 1117 (s I2 1122),D P yF 1119 (s zd 1118),D P fm 1121 (.int 412 1120),D P ef 1134 (r 495),D P Rw 1143 (r 502),D P Qq 1150 (r 509),D P S8 1157 (r 516),D P Uk 1172 (r 523),D P ou 1180 (r 531),D P Cv 1188 (r 539),D P CO 1196 (r 547),D P Cx 1204 (r 555),D P C7 1212 (r 563),D P vb 1219 (r 570),D P vA 1226 (r 577),D P vu 1234 (r 584),D P vD 1241 (r 591),D P vl 1248 (r 598),D P vj 1255 (r 605),D P vg 1262 (r 612),D P vf 1269 (r 619),D P vh 1276 (r 626),D P vm 1283 (r 633),D P vp 1290 (r 640),D P vk 1297 (r 647),D P vd 1307 (r 655),D P vv 1315 (r 663),D P va 1327 (r 671),D P vw 1337 (r 679),D P u_ 1347 (r 687),D P g5 1354 (r 694),D P gZ 1362 (r 701),D P vE 1374 (r 708),D P vy 1382 (r 715),D P si 1389 (r 722),D P fw 1393 (r 723)]
noncomputable def tC:=fl [i 415,i 4,r 494,i 428,i 4,r 501,i 436,i 4,r 508,i 440,i 4,r 515,i 444,i 4,r 522,i 477,i 4,r 529,i 481,i 4,r 537,i 485,i 4,r 545,i 489,i 4,r 553,i 493,i 4,r 561,i 496,i 4,r 569,i 499,i 4,r 576,i 503,i 4,r 583,i 506,i 4,r 590,i 510,i 4,r 597,i 514,i 4,r 604,i 518,i 4,r 611,i 522,i 4,r 618,i 525,i 4,r 625,i 528,i 4,r 632,i 531,i 4,r 639,i 534,i 4,r 646,i 538,i 4,r 654,i 555,i 4,r 662,i 558,i 4,r 670,i 572,i 4,r 678,i 579,i 4,r 686,i 582,i 4,r 693,i 586,i 4,r 700,i 593,i 4,r 707,i 612,i 4,r 714,i 615,i 4,r 721]
noncomputable def uI:=co [s zd 1112,s zd 1113,s cD 1114,i 412,i 0,i 0,i 0,i 0,r 484,.bool false,i 318,r 485,.none,.none,.none,.none,i 1115,i 412,s cD 1116]
noncomputable def se:=O (.type s658472552662922059x5) none .plain ⟨[some (r 486),some (r 3),some (r 483),none,some (s bj 740),none,some (r 0)]⟩
noncomputable abbrev s447:=S [10]
noncomputable def pE:=tu [s FT 1124,s s447 1125]
noncomputable abbrev X7:=S [105,110,105,116,105,97,108,95,118,97,108,117,101]
noncomputable abbrev M5:=S [110,101,119,108,105,110,101]
noncomputable def uf:=tu [s bt 1129,s X7 1130,s M5 1131]
noncomputable abbrev P9:=S [83,116,114,105,110,103,73,79,46,95,95,105,110,105,116,95,95]
noncomputable def to:=O .none none (.func (F [34,1] ef P9 0 [] .none .none .none .none none .none .none 0)) ⟨[]⟩
noncomputable def rJ:=cq ef P9 1126 415 3 0 0 3 489 1132
noncomputable def pn:=fn (F [34,1] ef P9 3 [] (r 488) .none .none (s bj 740) none (r 494) .none 0)
noncomputable def pJ:=tu [s bt 1138,s zJ 1139,s M5 1140]
noncomputable abbrev M3:=S [95,95,116,114,97,110,115,108,97,116,101,100]
noncomputable abbrev O4:=S [83,116,114,105,110,103,73,79,46,95,95,116,114,97,110,115,108,97,116,101,100]
noncomputable def uq:=O .none none (.func (F [34,2] M3 O4 0 [] .none .none .none .none none .none .none 0)) ⟨[]⟩
noncomputable def uj:=cq M3 O4 1135 428 2 0 0 3 496 1141
noncomputable def rK:=fq [34,2] M3 O4 bj 740 501
noncomputable def qZ:=tu [s bt 1147]
noncomputable abbrev OQ:=S [83,116,114,105,110,103,73,79,46,95,95,99,104,101,99,107]
noncomputable def uG:=O .none none (.func (F [34,3] CW OQ 0 [] .none .none .none .none none .none .none 0)) ⟨[]⟩
noncomputable def qN:=cq CW OQ 1144 436 1 0 0 3 503 1148
noncomputable def qE:=fq [34,3] CW OQ bj 740 508
noncomputable def tY:=tu [s bt 1154]
noncomputable abbrev L2:=S [95,95,99,104,101,99,107,95,100,111,116]
noncomputable abbrev LQ:=S [83,116,114,105,110,103,73,79,46,95,95,99,104,101,99,107,95,100,111,116]
noncomputable def sI:=O .none none (.func (F [34,4] L2 LQ 0 [] .none .none .none .none none .none .none 0)) ⟨[]⟩
noncomputable def tK:=cq L2 LQ 1151 440 1 0 0 3 510 1155
noncomputable def pP:=fq [34,4] L2 LQ bj 740 515
noncomputable abbrev WT:=S [99,117,116]
noncomputable abbrev ZB:=S [101,110,100]
noncomputable def uU:=tu [s bt 1161,s TC 1162,s Af 1163,s HI 1164,s WT 1165,s M5 1166,s Hu 1167,s Ra 1168,s ZB 1169]
noncomputable abbrev MN:=S [83,116,114,105,110,103,73,79,46,95,95,108,105,110,101]
noncomputable def qw:=O .none none (.func (F [34,5] CD MN 0 [] .none .none .none .none none .none .none 0)) ⟨[]⟩
noncomputable def uY:=cq CD MN 1158 444 2 0 0 3 517 1170
noncomputable def s_:=fq [34,5] CD MN bj 740 522
noncomputable def pT:=tu [s bt 1176]
noncomputable abbrev PY:=S [83,116,114,105,110,103,73,79,46,99,108,111,115,101,100]
noncomputable def qz:=O .none none (.func (F [34,6] ou PY 0 [] .none .none .none .none none .none .none 0)) ⟨[]⟩
noncomputable def sA:=cq ou PY 1173 476 1 0 0 3 524 1177
noncomputable def uB:=fq [34,6] ou PY bj 740 529
noncomputable def rk:=fd s8101838861749082086x8 [r 530,.none,.none,.none,s ou 1180,.bool false]
noncomputable def mn:=tu [s bt 1184]
noncomputable abbrev OE:=S [83,116,114,105,110,103,73,79,46,108,105,110,101,95,98,117,102,102,101,114,105,110,103]
noncomputable def nj:=O .none none (.func (F [34,7] Cv OE 0 [] .none .none .none .none none .none .none 0)) ⟨[]⟩
noncomputable def mU:=cq Cv OE 1181 480 1 0 0 3 532 1185
noncomputable def nq:=fq [34,7] Cv OE bj 740 537
noncomputable def le:=fd s8101838861749082086x8 [r 538,.none,.none,.none,s Cv 1188,.bool false]
noncomputable def lV:=tu [s bt 1192]
noncomputable abbrev L7:=S [83,116,114,105,110,103,73,79,46,110,101,119,108,105,110,101,115]
noncomputable def mQ:=O .none none (.func (F [34,8] CO L7 0 [] .none .none .none .none none .none .none 0)) ⟨[]⟩
noncomputable def m5:=cq CO L7 1189 484 1 0 0 3 540 1193
noncomputable def lB:=fq [34,8] CO L7 bj 740 545
noncomputable def lG:=fd s8101838861749082086x8 [r 546,.none,.none,.none,s CO 1196,.bool false]
noncomputable def kT:=tu [s bt 1200]
noncomputable abbrev P7:=S [83,116,114,105,110,103,73,79,46,101,110,99,111,100,105,110,103]
noncomputable def nn:=O .none none (.func (F [34,9] Cx P7 0 [] .none .none .none .none none .none .none 0)) ⟨[]⟩
noncomputable def j5:=cq Cx P7 1197 488 1 0 0 3 548 1201
noncomputable def kM:=fq [34,9] Cx P7 bj 740 553
noncomputable def ll:=fd s8101838861749082086x8 [r 554,.none,.none,.none,s Cx 1204,.bool false]
noncomputable def mX:=tu [s bt 1208]
noncomputable abbrev ND:=S [83,116,114,105,110,103,73,79,46,101,114,114,111,114,115]
noncomputable def n5:=O .none none (.func (F [34,10] C7 ND 0 [] .none .none .none .none none .none .none 0)) ⟨[]⟩
noncomputable def kR:=cq C7 ND 1205 492 1 0 0 3 556 1209
noncomputable def jI:=fq [34,10] C7 ND bj 740 561
noncomputable def mh:=fd s8101838861749082086x8 [r 562,.none,.none,.none,s C7 1212,.bool false]
noncomputable def n6:=tu [s bt 1216]
noncomputable abbrev Mp:=S [83,116,114,105,110,103,73,79,46,99,108,111,115,101]
noncomputable def nS:=O .none none (.func (F [34,11] vb Mp 0 [] .none .none .none .none none .none .none 0)) ⟨[]⟩
noncomputable def n4:=cq vb Mp 1213 496 1 0 0 3 564 1217
noncomputable def kK:=fq [34,11] vb Mp bj 740 569
noncomputable def kc:=tu [s bt 1223]
noncomputable abbrev Ol:=S [83,116,114,105,110,103,73,79,46,95,95,101,110,116,101,114,95,95]
noncomputable def jA:=O .none none (.func (F [34,12] vA Ol 0 [] .none .none .none .none none .none .none 0)) ⟨[]⟩
noncomputable def lH:=cq vA Ol 1220 499 1 0 0 3 571 1224
noncomputable def kY:=fq [34,12] vA Ol bj 740 576
noncomputable def jx:=tu [s bt 1230,s CT 1231]
noncomputable abbrev NZ:=S [83,116,114,105,110,103,73,79,46,95,95,101,120,105,116,95,95]
noncomputable def mR:=O .none none (.func (F [34,13] vu NZ 0 [] .none .none .none .none none .none .none 0)) ⟨[]⟩
noncomputable def nT:=cq vu NZ 1227 503 1 0 0 7 578 1232
noncomputable def mf:=fq [34,13] vu NZ bj 740 583
noncomputable def mu:=tu [s bt 1238]
noncomputable abbrev NA:=S [83,116,114,105,110,103,73,79,46,114,101,97,100,97,98,108,101]
noncomputable def nX:=O .none none (.func (F [34,14] vD NA 0 [] .none .none .none .none none .none .none 0)) ⟨[]⟩
noncomputable def j8:=cq vD NA 1235 506 1 0 0 3 585 1239
noncomputable def nM:=fq [34,14] vD NA bj 740 590
noncomputable def mH:=tu [s bt 1245]
noncomputable abbrev NQ:=S [83,116,114,105,110,103,73,79,46,119,114,105,116,97,98,108,101]
noncomputable def nQ:=O .none none (.func (F [34,15] vl NQ 0 [] .none .none .none .none none .none .none 0)) ⟨[]⟩
noncomputable def nG:=cq vl NQ 1242 510 1 0 0 3 592 1246
noncomputable def lE:=fq [34,15] vl NQ bj 740 597
noncomputable def mY:=tu [s bt 1252]
noncomputable abbrev L6:=S [83,116,114,105,110,103,73,79,46,115,101,101,107,97,98,108,101]
noncomputable def la:=O .none none (.func (F [34,16] vj L6 0 [] .none .none .none .none none .none .none 0)) ⟨[]⟩
noncomputable def lb:=cq vj L6 1249 514 1 0 0 3 599 1253
noncomputable def nJ:=fq [34,16] vj L6 bj 740 604
noncomputable def lD:=tu [s bt 1259]
noncomputable abbrev Ow:=S [83,116,114,105,110,103,73,79,46,105,115,97,116,116,121]
noncomputable def ky:=O .none none (.func (F [34,17] vg Ow 0 [] .none .none .none .none none .none .none 0)) ⟨[]⟩
noncomputable def jL:=cq vg Ow 1256 518 1 0 0 3 606 1260
noncomputable def mP:=fq [34,17] vg Ow bj 740 611
noncomputable def lJ:=tu [s bt 1266]
noncomputable abbrev LF:=S [83,116,114,105,110,103,73,79,46,102,108,117,115,104]
noncomputable def kP:=O .none none (.func (F [34,18] vf LF 0 [] .none .none .none .none none .none .none 0)) ⟨[]⟩
noncomputable def kr:=cq vf LF 1263 522 1 0 0 3 613 1267
noncomputable def mo:=fq [34,18] vf LF bj 740 618
noncomputable def jB:=tu [s bt 1273]
noncomputable abbrev NR:=S [83,116,114,105,110,103,73,79,46,102,105,108,101,110,111]
noncomputable def kS:=O .none none (.func (F [34,19] vh NR 0 [] .none .none .none .none none .none .none 0)) ⟨[]⟩
noncomputable def ln:=cq vh NR 1270 525 1 0 0 3 620 1274
noncomputable def m_:=fq [34,19] vh NR bj 740 625
noncomputable def nZ:=tu [s bt 1280]
noncomputable abbrev ML:=S [83,116,114,105,110,103,73,79,46,100,101,116,97,99,104]
noncomputable def j3:=O .none none (.func (F [34,20] vm ML 0 [] .none .none .none .none none .none .none 0)) ⟨[]⟩
noncomputable def j_:=cq vm ML 1277 528 1 0 0 3 627 1281
noncomputable def mZ:=fq [34,20] vm ML bj 740 632
noncomputable def nu:=tu [s bt 1287]
noncomputable abbrev Mq:=S [83,116,114,105,110,103,73,79,46,103,101,116,118,97,108,117,101]
noncomputable def lp:=O .none none (.func (F [34,21] vp Mq 0 [] .none .none .none .none none .none .none 0)) ⟨[]⟩
noncomputable def mr:=cq vp Mq 1284 531 1 0 0 3 634 1288
noncomputable def ni:=fq [34,21] vp Mq bj 740 639
noncomputable def jR:=tu [s bt 1294]
noncomputable abbrev PB:=S [83,116,114,105,110,103,73,79,46,116,101,108,108]
noncomputable def kC:=O .none none (.func (F [34,22] vk PB 0 [] .none .none .none .none none .none .none 0)) ⟨[]⟩
noncomputable def k9:=cq vk PB 1291 534 1 0 0 3 641 1295
noncomputable def lQ:=fq [34,22] vk PB bj 740 646
noncomputable def k_:=tu [.int 0 1298]
noncomputable def jO:=tu [s bt 1302,s NO 1303,s QH 1304]
noncomputable abbrev NM:=S [83,116,114,105,110,103,73,79,46,115,101,101,107]
noncomputable def lM:=O .none none (.func (F [34,23] vd NM 0 [] .none .none .none .none none .none .none 0)) ⟨[]⟩
noncomputable def jY:=cq vd NM 1299 538 3 3 0 3 649 1305
noncomputable def kw:=fn (F [34,23] vd NM 3 [] (r 648) .none .none (s bj 740) none (r 654) .none 0)
noncomputable def mj:=tu [s bt 1311,s NO 1312]
noncomputable abbrev MH:=S [83,116,114,105,110,103,73,79,46,116,114,117,110,99,97,116,101]
noncomputable def jZ:=O .none none (.func (F [34,24] vv MH 0 [] .none .none .none .none none .none .none 0)) ⟨[]⟩
noncomputable def jX:=cq vv MH 1308 555 2 2 0 3 657 1313
noncomputable def nC:=fn (F [34,24] vv MH 3 [] (r 656) .none .none (s bj 740) none (r 662) .none 0)
noncomputable def mM:=tu [.int (-1) 1317]
noncomputable def mW:=tu [s bt 1321,s zH 1322,s Af 1323,s HI 1324]
noncomputable abbrev ON:=S [83,116,114,105,110,103,73,79,46,114,101,97,100]
noncomputable def n8:=O .none none (.func (F [34,25] va ON 0 [] .none .none .none .none none .none .none 0)) ⟨[]⟩
noncomputable def jS:=cq va ON 1318 558 2 2 0 3 665 1325
noncomputable def nW:=fn (F [34,25] va ON 3 [] (r 664) .none .none (s bj 740) none (r 670) .none 0)
noncomputable def lz:=tu [.int (-1) 1329]
noncomputable def mL:=tu [s bt 1333,s zH 1334]
noncomputable abbrev P3:=S [83,116,114,105,110,103,73,79,46,114,101,97,100,108,105,110,101]
noncomputable def nF:=O .none none (.func (F [34,26] vw P3 0 [] .none .none .none .none none .none .none 0)) ⟨[]⟩
noncomputable def nE:=cq vw P3 1330 572 2 2 0 3 673 1335
noncomputable def jG:=fn (F [34,26] vw P3 3 [] (r 672) .none .none (s bj 740) none (r 678) .none 0)
noncomputable def jK:=tu [.int (-1) 1339]
noncomputable abbrev Zh:=S [104,105,110,116]
noncomputable def ld:=tu [s bt 1343,s Zh 1344]
noncomputable abbrev Nm:=S [83,116,114,105,110,103,73,79,46,114,101,97,100,108,105,110,101,115]
noncomputable def jP:=O .none none (.func (F [34,27] u_ Nm 0 [] .none .none .none .none none .none .none 0)) ⟨[]⟩
noncomputable def my:=cq u_ Nm 1340 579 2 2 0 3 681 1345
noncomputable def nA:=fn (F [34,27] u_ Nm 3 [] (r 680) .none .none (s bj 740) none (r 686) .none 0)
noncomputable def m0:=tu [s bt 1351]
noncomputable abbrev MQ:=S [83,116,114,105,110,103,73,79,46,95,95,105,116,101,114,95,95]
noncomputable def ko:=O .none none (.func (F [34,28] g5 MQ 0 [] .none .none .none .none none .none .none 0)) ⟨[]⟩
noncomputable def ny:=cq g5 MQ 1348 582 1 0 0 3 688 1352
noncomputable def m8:=fq [34,28] g5 MQ bj 740 693
noncomputable def kL:=tu [s bt 1358,s R3 1359]
noncomputable abbrev PR:=S [83,116,114,105,110,103,73,79,46,95,95,110,101,120,116,95,95]
noncomputable def lh:=O .none none (.func (F [34,29] gZ PR 0 [] .none .none .none .none none .none .none 0)) ⟨[]⟩
noncomputable def lm:=cq gZ PR 1355 586 1 0 0 3 695 1360
noncomputable def mc:=fq [34,29] gZ PR bj 740 700
noncomputable abbrev Wu:=S [109]
noncomputable abbrev Y_:=S [98,117,102]
noncomputable def ka:=tu [s bt 1366,s zJ 1367,s CC 1368,s Wu 1369,s Af 1370,s Y_ 1371]
noncomputable abbrev Ph:=S [83,116,114,105,110,103,73,79,46,119,114,105,116,101]
noncomputable def ma:=O .none none (.func (F [34,30] vE Ph 0 [] .none .none .none .none none .none .none 0)) ⟨[]⟩
noncomputable def lq:=cq vE Ph 1363 593 2 2 0 3 702 1372
noncomputable def ml:=fq [34,30] vE Ph bj 740 707
noncomputable def l9:=tu [s bt 1378,s Qy 1379]
noncomputable abbrev Px:=S [83,116,114,105,110,103,73,79,46,119,114,105,116,101,108,105,110,101,115]
noncomputable def mw:=O .none none (.func (F [34,31] vy Px 0 [] .none .none .none .none none .none .none 0)) ⟨[]⟩
noncomputable def kv:=cq vy Px 1375 612 2 2 0 3 709 1380
noncomputable def kH:=fq [34,31] vy Px bj 740 714
noncomputable def lO:=tu [s bt 1386]
noncomputable abbrev M7:=S [83,116,114,105,110,103,73,79,46,95,95,114,101,112,114,95,95]
noncomputable def nB:=O .none none (.func (F [34,32] si M7 0 [] .none .none .none .none none .none .none 0)) ⟨[]⟩
noncomputable def nx:=cq si M7 1383 615 1 0 0 3 716 1387
noncomputable def l_:=fq [34,32] si M7 bj 740 721
noncomputable abbrev aaF:=S [95,95,110,101,119,108,105,110,101]
noncomputable def km:=tu [s SO 1390,s aaF 1391,s UR 1392]
noncomputable def lU(P:Pm):=dk 2 [D P ft 1117 (s I2 1122),D P fm 1121 (.int 412 1120),D P ef 1134 (r 495),D P Rw 1143 (r 502),D P Qq 1150 (r 509),D P S8 1157 (r 516),D P Uk 1172 (r 523),D P ou 1180 (r 531),D P Cv 1188 (r 539),D P CO 1196 (r 547),D P Cx 1204 (r 555),D P C7 1212 (r 563),D P vb 1219 (r 570),D P vA 1226 (r 577),D P vu 1234 (r 584),D P vD 1241 (r 591),D P vl 1248 (r 598),D P vj 1255 (r 605),D P vg 1262 (r 612),D P vf 1269 (r 619),D P vh 1276 (r 626),D P vm 1283 (r 633),D P vp 1290 (r 640),D P vk 1297 (r 647),D P vd 1307 (r 655),D P vv 1315 (r 663),D P va 1327 (r 671),D P vw 1337 (r 679),D P u_ 1347 (r 687),D P g5 1354 (r 694),D P gZ 1362 (r 701),D P vE 1374 (r 708),D P vy 1382 (r 715),D P si 1389 (r 722),D P fw 1393 (r 723),D P s2 1394 .none]
noncomputable def kQ:=O (.type s17162191345867700912x4) none (.cls (C zd [r 248] [r 725,r 248,r 221,.type s2742458400755230247x6] 724 zd true [] [] false none false)) ⟨[some (r 481),none,some (s zd 1110),some (s zd 1118),some .none,some (.bool true)]⟩
noncomputable def nP:=fd s4290257624100764138x5 [r 725,r 725,r 725]
noncomputable def nV:=fd s11030030927630378310x26 [.builtin s4860613602091757760x24,r 725]
noncomputable abbrev fM:=S [99,112,121,51,49,51,46,115,104,108,101,120]
noncomputable abbrev zP:=S [112,117,110,99,116,117,97,116,105,111,110,95,99,104,97,114,115]
noncomputable abbrev Dt:=S [112,117,115,104,95,116,111,107,101,110]
noncomputable abbrev Du:=S [112,117,115,104,95,115,111,117,114,99,101]
noncomputable abbrev DT:=S [112,111,112,95,115,111,117,114,99,101]
noncomputable abbrev Gn:=S [103,101,116,95,116,111,107,101,110]
noncomputable abbrev Dw:=S [114,101,97,100,95,116,111,107,101,110]
noncomputable abbrev Dj:=S [115,111,117,114,99,101,104,111,111,107]
noncomputable abbrev Gv:=S [101,114,114,111,114,95,108,101,97,100,101,114]
noncomputable def kG(P:Pm):=dk 15 [D P ft 1406 (s fM 1397),D P yF 1408 (s zj 1407),D P fm 1410 (.int 618 1409),D P ef 1422 (r 742),D P zP 1430 (r 750),D P Dt 1438 (r 757),D P Du 1447 (r 765),D P DT 1454 (r 772),D P Gn 1466 (r 779),D P Dw 1477 (r 786),D P Dj 1485 (r 793),D P Gv 1494 (r 801),D P g5 1501 (r 808),D P gZ 1509 (r 815),D P fw 1530 (r 816)]
noncomputable def mv:=fl [i 620,i 4,r 741,i 662,i 4,r 748,i 665,i 4,r 756,i 670,i 4,r 764,i 683,i 4,r 771,i 690,i 4,r 778,i 717,i 4,r 785,i 854,i 4,r 792,i 861,i 4,r 800,i 864,i 4,r 807,i 867,i 4,r 814]
noncomputable def jM:=co [s zj 1401,s zj 1402,s cD 1403,i 618,i 0,i 0,i 0,i 0,r 731,.bool false,i 318,r 732,.none,.none,.none,.none,i 1404,i 618,s cD 1405]
noncomputable def lR:=O (.type s658472552662922059x5) none .plain ⟨[some (r 733),some (r 3),some (r 730),none,some (s fM 1397),none,some (r 0)]⟩
noncomputable def lx:=tu [.none,.none,.bool false,.bool false]
noncomputable abbrev SP:=S [105,110,115,116,114,101,97,109]
noncomputable abbrev L1:=S [105,110,102,105,108,101]
noncomputable abbrev Nn:=S [112,111,115,105,120]
noncomputable def jV:=tu [s bt 1414,s SP 1415,s L1 1416,s Nn 1417,s zP 1418,s RE 1419]
noncomputable abbrev MW:=S [115,104,108,101,120,46,95,95,105,110,105,116,95,95]
noncomputable def lY:=O .none none (.func (F [36,0] ef MW 0 [] .none .none .none .none none .none .none 0)) ⟨[]⟩
noncomputable def lA:=cq ef MW 1411 620 5 0 0 3 736 1420
noncomputable def kb:=fn (F [36,0] ef MW 3 [] (r 735) .none .none (s fM 1397) none (r 741) .none 0)
noncomputable def mi:=tu [s bt 1426]
noncomputable abbrev Qb:=S [115,104,108,101,120,46,112,117,110,99,116,117,97,116,105,111,110,95,99,104,97,114,115]
noncomputable def kE:=O .none none (.func (F [36,1] zP Qb 0 [] .none .none .none .none none .none .none 0)) ⟨[]⟩
noncomputable def jy:=cq zP Qb 1423 661 1 0 0 3 743 1427
noncomputable def jJ:=fq [36,1] zP Qb fM 1397 748
noncomputable def mV:=fd s8101838861749082086x8 [r 749,.none,.none,.none,s zP 1430,.bool false]
noncomputable abbrev SK:=S [116,111,107]
noncomputable def mC:=tu [s bt 1434,s SK 1435]
noncomputable abbrev Nv:=S [115,104,108,101,120,46,112,117,115,104,95,116,111,107,101,110]
noncomputable def m9:=O .none none (.func (F [36,2] Dt Nv 0 [] .none .none .none .none none .none .none 0)) ⟨[]⟩
noncomputable def l7:=cq Dt Nv 1431 665 2 0 0 3 751 1436
noncomputable def ng:=fq [36,2] Dt Nv fM 1397 756
noncomputable abbrev Qp:=S [110,101,119,115,116,114,101,97,109]
noncomputable abbrev PL:=S [110,101,119,102,105,108,101]
noncomputable def me:=tu [s bt 1442,s Qp 1443,s PL 1444]
noncomputable abbrev P5:=S [115,104,108,101,120,46,112,117,115,104,95,115,111,117,114,99,101]
noncomputable def ly:=O .none none (.func (F [36,3] Du P5 0 [] .none .none .none .none none .none .none 0)) ⟨[]⟩
noncomputable def nm:=cq Du P5 1439 670 3 0 0 3 759 1445
noncomputable def kJ:=fn (F [36,3] Du P5 3 [] (r 758) .none .none (s fM 1397) none (r 764) .none 0)
noncomputable def kN:=tu [s bt 1451]
noncomputable abbrev OO:=S [115,104,108,101,120,46,112,111,112,95,115,111,117,114,99,101]
noncomputable def jz:=O .none none (.func (F [36,4] DT OO 0 [] .none .none .none .none none .none .none 0)) ⟨[]⟩
noncomputable def j7:=cq DT OO 1448 683 1 0 0 3 766 1452
noncomputable def nk:=fq [36,4] DT OO fM 1397 771
noncomputable abbrev ZS:=S [114,97,119]
noncomputable abbrev Z4:=S [115,112,101,99]
noncomputable def kO:=tu [s bt 1458,s SK 1459,s ZS 1460,s Z4 1461,s PL 1462,s Qp 1463]
noncomputable abbrev Nw:=S [115,104,108,101,120,46,103,101,116,95,116,111,107,101,110]
noncomputable def nR:=O .none none (.func (F [36,5] Gn Nw 0 [] .none .none .none .none none .none .none 0)) ⟨[]⟩
noncomputable def j6:=cq Gn Nw 1455 690 1 0 0 3 773 1464
noncomputable def jT:=fq [36,5] Gn Nw fM 1397 778
noncomputable abbrev Zy:=S [113,117,111,116,101,100]
noncomputable abbrev WK:=S [101,115,99,97,112,101,100,115,116,97,116,101]
noncomputable abbrev aau:=S [110,101,120,116,99,104,97,114]
noncomputable abbrev s516:=S [114,101,115,117,108,116]
noncomputable def lN:=tu [s bt 1470,s Zy 1471,s WK 1472,s aau 1473,s s516 1474]
noncomputable abbrev Pl:=S [115,104,108,101,120,46,114,101,97,100,95,116,111,107,101,110]
noncomputable def mB:=O .none none (.func (F [36,6] Dw Pl 0 [] .none .none .none .none none .none .none 0)) ⟨[]⟩
noncomputable def mJ:=cq Dw Pl 1467 717 1 0 0 3 780 1475
noncomputable def lf:=fq [36,6] Dw Pl fM 1397 785
noncomputable def nI:=tu [s bt 1481,s PL 1482]
noncomputable abbrev LZ:=S [115,104,108,101,120,46,115,111,117,114,99,101,104,111,111,107]
noncomputable def jF:=O .none none (.func (F [36,7] Dj LZ 0 [] .none .none .none .none none .none .none 0)) ⟨[]⟩
noncomputable def nl:=cq Dj LZ 1478 854 2 0 0 3 787 1483
noncomputable def mz:=fq [36,7] Dj LZ fM 1397 792
noncomputable abbrev Sy:=S [108,105,110,101,110,111]
noncomputable def lT:=tu [s bt 1489,s L1 1490,s Sy 1491]
noncomputable abbrev L8:=S [115,104,108,101,120,46,101,114,114,111,114,95,108,101,97,100,101,114]
noncomputable def lj:=O .none none (.func (F [36,8] Gv L8 0 [] .none .none .none .none none .none .none 0)) ⟨[]⟩
noncomputable def kF:=cq Gv L8 1486 861 3 0 0 3 795 1492
noncomputable def kq:=fn (F [36,8] Gv L8 3 [] (r 794) .none .none (s fM 1397) none (r 800) .none 0)
noncomputable def mb:=tu [s bt 1498]
noncomputable abbrev Mc:=S [115,104,108,101,120,46,95,95,105,116,101,114,95,95]
noncomputable def k7:=O .none none (.func (F [36,9] g5 Mc 0 [] .none .none .none .none none .none .none 0)) ⟨[]⟩
noncomputable def lv:=cq g5 Mc 1495 864 1 0 0 3 802 1499
noncomputable def nY:=fq [36,9] g5 Mc fM 1397 807
noncomputable abbrev RZ:=S [116,111,107,101,110]
noncomputable def nO:=tu [s bt 1505,s RZ 1506]
noncomputable abbrev Pk:=S [115,104,108,101,120,46,95,95,110,101,120,116,95,95]
noncomputable def lF:=O .none none (.func (F [36,10] gZ Pk 0 [] .none .none .none .none none .none .none 0)) ⟨[]⟩
noncomputable def kA:=cq gZ Pk 1502 867 1 0 0 3 809 1507
noncomputable def kB:=fq [36,10] gZ Pk fM 1397 814
noncomputable abbrev aaR:=S [95,112,117,110,99,116,117,97,116,105,111,110,95,99,104,97,114,115]
noncomputable abbrev ZV:=S [95,112,117,115,104,98,97,99,107,95,99,104,97,114,115]
noncomputable abbrev XQ:=S [99,111,109,109,101,110,116,101,114,115]
noncomputable abbrev Ze:=S [100,101,98,117,103]
noncomputable abbrev Xd:=S [101,111,102]
noncomputable abbrev aay:=S [101,115,99,97,112,101,100,113,117,111,116,101,115]
noncomputable abbrev Wx:=S [102,105,108,101,115,116,97,99,107]
noncomputable abbrev V4:=S [112,117,115,104,98,97,99,107]
noncomputable abbrev Wm:=S [113,117,111,116,101,115]
noncomputable abbrev Zx:=S [115,111,117,114,99,101]
noncomputable abbrev aa2:=S [115,116,97,116,101]
noncomputable abbrev YV:=S [119,104,105,116,101,115,112,97,99,101]
noncomputable abbrev ZT:=S [119,104,105,116,101,115,112,97,99,101,95,115,112,108,105,116]
noncomputable abbrev Vv:=S [119,111,114,100,99,104,97,114,115]
noncomputable def mq:=tu [s aaR 1510,s ZV 1511,s XQ 1512,s Ze 1513,s Xd 1514,s x5 1515,s aay 1516,s Wx 1517,s L1 1518,s SP 1519,s Sy 1520,s Nn 1521,s V4 1522,s Wm 1523,s Zx 1524,s aa2 1525,s RZ 1526,s YV 1527,s ZT 1528,s Vv 1529]
noncomputable def l6(P:Pm):=dk 4 [D P ft 1406 (s fM 1397),D P fm 1410 (.int 618 1409),D P ef 1422 (r 742),D P zP 1430 (r 750),D P Dt 1438 (r 757),D P Du 1447 (r 765),D P DT 1454 (r 772),D P Gn 1466 (r 779),D P Dw 1477 (r 786),D P Dj 1485 (r 793),D P Gv 1494 (r 801),D P g5 1501 (r 808),D P gZ 1509 (r 815),D P fw 1530 (r 816),D P vo 1532 (r 819),D P oE 1534 (r 820),D P s2 1535 .none]
noncomputable def mS:=O (.type s17162191345867700912x4) none (.cls (C zj [.type s2742458400755230247x6] [r 818,.type s2742458400755230247x6] 817 zj true [] [] false none false)) ⟨[none,none,some (s zj 1399),some (s zj 1407),some (.builtin s11443829558043349243x14),some (.bool true)]⟩
noncomputable def kx:=fd s14755015743595814543x17 [s vo 1531,r 818,.builtin s6511155373996960695x17,.builtin s12411053484034534018x21]
noncomputable def jE:=fd s14755015743595814543x17 [s oE 1533,r 818,.builtin s10220274742760427390x26,.none]
noncomputable def lI:=fd s4290257624100764138x5 [r 818,r 818,r 818]
noncomputable def ms:=fd s11030030927630378310x26 [.builtin s4860613602091757760x24,r 818]
noncomputable def m7:=tu [.bool false,.bool true]
noncomputable abbrev Xo:=S [99,111,109,109,101,110,116,115]
noncomputable abbrev YZ:=S [108,101,120]
noncomputable def lK:=tu [s zJ 1541,s Xo 1542,s Nn 1543,s YZ 1544]
noncomputable def j4:=O .none none (.func (F [37] zS zS 0 [] .none .none .none .none none .none .none 0)) ⟨[]⟩
noncomputable def nD:=cq zS zS 1538 872 3 0 0 3 824 1545
noncomputable def k0:=fn (F [37] zS zS 3 [] (r 823) .none .none (s fM 1397) none (r 829) .none 0)
noncomputable abbrev Zf:=S [115,112,108,105,116,95,99,111,109,109,97,110,100]
noncomputable def kj:=tu [s Zf 1551]
noncomputable def mE:=O .none none (.func (F [38] gY gY 0 [] .none .none .none .none none .none .none 0)) ⟨[]⟩
noncomputable def eu:=cq gY gY 1548 880 1 0 0 3 831 1552
noncomputable def ke:=fq [38] gY gY fM 1397 836
noncomputable def j9:=fd s11030030927630378310x26 [.builtin s9858327723941210770x17,r 177]
noncomputable def nv:=tu [s zJ 1561]
noncomputable def nL:=O .none none (.func (F [41] zy zy 0 [] .none .none .none .none none .none .none 0)) ⟨[]⟩
noncomputable def kD:=cq zy zy 1558 884 1 0 0 3 839 1562
noncomputable def kX:=fq [41] zy zy fM 1397 844
noncomputable def lw:=O .none none (.func (F [43] Am Am 0 [] .none .none .none .none none .none .none 0)) ⟨[]⟩
noncomputable def lg:=co [s Am 1567,s Am 1568,s cD 1569,i 891,i 1,i 0,i 0,i 3,r 846,.bool true,i 318,r 847,.none,.none,.none,r 848,i 1570,i 891,s cD 1571]
noncomputable def ki:=fq [43] Am Am zQ 1565 849
noncomputable abbrev VK:=S [115,105,103,110,115]
noncomputable abbrev Yq:=S [114,111,119]
noncomputable abbrev Xc:=S [112,108,97,99,101]
noncomputable abbrev Yn:=S [115,105,103,110]
noncomputable def l0:=tu [s VK 1576,s Yq 1577,s Xc 1578,s Yn 1579]
noncomputable def lW:=O .none none (.func (F [44] zW zW 0 [] .none .none .none .none none .none .none 0)) ⟨[]⟩
noncomputable def mO:=cq zW zW 1573 898 2 0 0 3 851 1580
noncomputable def l5:=fq [44] zW zW zQ 1565 856
noncomputable def jH:=O .none none (.func (F [45] Ae Ae 0 [] .none .none .none .none none .none .none 0)) ⟨[]⟩
noncomputable def nw:=co [s Ae 1583,s Ae 1584,s cD 1585,i 905,i 1,i 0,i 0,i 3,r 858,.bool true,i 318,r 859,.none,.none,.none,r 860,i 1586,i 905,s cD 1587]
noncomputable def jN:=fq [45] Ae Ae zQ 1565 861
noncomputable abbrev YC:=S [119,97,121,115]
noncomputable abbrev Y6:=S [108,111,110,103,101,114]
noncomputable abbrev Tu:=S [119,97,121]
noncomputable def np:=tu [s YC 1592,s Rk 1593,s Y6 1594,s Tu 1595]
noncomputable def lr:=O .none none (.func (F [46] zE zE 0 [] .none .none .none .none none .none .none 0)) ⟨[]⟩
noncomputable def kI:=cq zE zE 1589 910 0 0 0 3 863 1596
noncomputable def l8:=fq [46] zE zE zQ 1565 868
noncomputable abbrev Xk:=S [119,111,114,100,115]
noncomputable abbrev Wg:=S [112,105,108,101]
noncomputable abbrev XZ:=S [108,101,102,116]
noncomputable abbrev Wk:=S [111,117,116]
noncomputable abbrev Yf:=S [115,116,101,112]
noncomputable def j2:=tu [s Tu 1602,s Xk 1603,s Wg 1604,s XZ 1605,s Wk 1606,s Yf 1607]
noncomputable def kU:=O .none none (.func (F [47] AF AF 0 [] .none .none .none .none none .none .none 0)) ⟨[]⟩
noncomputable def kf:=cq AF AF 1599 921 2 0 0 3 870 1608
noncomputable def jC:=fq [47] AF AF zQ 1565 875
noncomputable def kn:=O .none none (.func (F [48] Ay Ay 0 [] .none .none .none .none none .none .none 0)) ⟨[]⟩
noncomputable def jQ:=co [s Ay 1611,s Ay 1612,s cD 1613,i 931,i 1,i 0,i 0,i 3,r 877,.bool true,i 318,r 878,.none,.none,.none,r 879,i 1614,i 931,s cD 1615]
noncomputable def nH:=fq [48] Ay Ay zQ 1565 880
end
noncomputable def KM(P:Pm):LL:=[g7 P,gS P,w7 P,Fk P,gP,gU,cU,aa,af,lC,eM,eX P,eY,eI P,eW,aa,gb,f_,gm,cM,f6 P,gu P,ge,f9,gj,f8,eP,e_,eT,eS P,eH,cM,f7 P,gg]
noncomputable def HA(P:Pm):LL:=[g7 P,gS P,w7 P,Fk P,gP,gU,cU,aa,af,lC,eM,eX P,eY,eI P,eW,aa,gb,f_,gm,cM,f6 P,gu P,ge,f9,gj,f8,eP,e_,eT,eS P,eH,cM,f7 P,gg,aa,af,ij,ji]
noncomputable def xb(P:Pm):LL:=[g7 P,gS P,Ah P,zI P,gP,gU,cU,aa,af,lC,eM,eX P,eY,eI P,eW,aa,gb,f_,gm,cM,f6 P,gu P,ge,f9,gj,f8,eP,e_,eT,eS P,eH,cM,f7 P,gg,aa,wm,ij,ji,aa,af,oM,aa,pc,oJ,pk,aa,af,o_,aa,pe,oI,pb,aa,af,oL,aa,pg,oR,iU,aa,af,ix,aa,o7,oX,ph,aa,af,oW,aa,oZ,oG,o4,aa,af,pj,aa,oN,oO,oH,aa,af,oY,aa,pi,oV,pa,aa,af,oU,aa,i3,jj,iu,aa,af,oS,aa,oK,oP,h8,aa,af,h7,aa,ib,iV,jd,aa,af,iO,aa,iM,iv,iL,aa,af,iJ,aa,iW,iD,ii,aa,bh,fT P,aa,fV,h9,iA,cz,aa,af,iy,jg,jf,aa,af,ip,aa,i4,i7,jn,i9,jm P,jl,il,iF,iC,ic,iS,cU,cz,ie,iG,jh,fG,jb,aa,jr,aa,af,tT,aa,uz,tS,sC,aa,af,qm,aa,t9,fB,tG,q6,cU,bH,sy,r5,aa,af,t8,aa,q7,tw,pF,aa,af,uo,aa,qi,rD,uc,uD,bh,rF P,aa,af,pK,qv,aa,sS P,rq,tL,qT,uW,aa,bh,uV P,aa,qa,rG,th,aa,af,qU,aa,tq,tr,sP,aa,tn P,tU,ta,qD,qJ,uM,tm,eB,bh,tR P,aa,af,uQ,rA,aa,sM P,sf,qr,pV,eB,bh,p8 P,aa,af,tl,su,aa,te P,uC,pZ,t7,q_,bh,tW P,aa,ug,rU,pU,bH,aa,af,pH,aa,tN,pD,up,aa,af,rV,aa,qk,ry,sr,aa,af,sx,aa,uw,tH,qI,aa,af,sJ,aa,rp,uA,pz,rO,aa,af,qQ,aa,uy,tZ,ur,aa,af,sF,aa,rM,rL,so,aa,af,p_,aa,qF,t_,ru,aa,af,rf,aa,qo,pX,sU,aa,af,t4,aa,uE,qp,sb,aa,af,ut,aa,pC,qM,sX,aa,af,tQ,aa,q3,pM,um,aa,af,rx,aa,pI,uh,rl,aa,af,qX,aa,rj,rP,q9,aa,af,uR,aa,uL,p7,r9,aa,af,rR,aa,qq,uk,sO,aa,af,po,aa,sp,tI,uu,aa,af,tJ,aa,sd,pr,rd,pB,aa,af,uF,aa,tg,pY,rQ,bH,aa,af,qu,aa,r7,tO,sq,pO,aa,af,qL,aa,ui,qO,rn,ss,aa,af,sn,aa,uJ,tp,uX,aa,af,sw,aa,rW,uO,p9,aa,af,sD,aa,tP,rZ,re,qA,aa,af,qy,aa,pA,sa,uH,bH,aa,af,us,aa,sQ,pG,qY,aa,af,qC,aa,rY,uK,sH,aa,af,qV,aa,q4,ql,t6,aa,af,sT,aa,sm,qP,pN,aa,af,rz,aa,tc,p6,qg,aa,af,rC,aa,uP,qh,ul,pw,r_ P,tD,qW,tE,qc,bh,t5 P,aa,tC,uI,se,pE,aa,af,uf,aa,to,rJ,pn,aa,af,pJ,aa,uq,uj,rK,aa,af,qZ,aa,uG,qN,qE,aa,af,tY,aa,sI,tK,pP,aa,af,uU,aa,qw,uY,s_,aa,af,pT,aa,qz,sA,uB,rk,aa,af,mn,aa,nj,mU,nq,le,aa,af,lV,aa,mQ,m5,lB,lG,aa,af,kT,aa,nn,j5,kM,ll,aa,af,mX,aa,n5,kR,jI,mh,aa,af,n6,aa,nS,n4,kK,aa,af,kc,aa,jA,lH,kY,aa,af,jx,aa,mR,nT,mf,aa,af,mu,aa,nX,j8,nM,aa,af,mH,aa,nQ,nG,lE,aa,af,mY,aa,la,lb,nJ,aa,af,lD,aa,ky,jL,mP,aa,af,lJ,aa,kP,kr,mo,aa,af,jB,aa,kS,ln,m_,aa,af,nZ,aa,j3,j_,mZ,aa,af,nu,aa,lp,mr,ni,aa,af,jR,aa,kC,k9,lQ,k_,aa,af,jO,aa,lM,jY,kw,bH,aa,af,mj,aa,jZ,jX,nC,mM,aa,af,mW,aa,n8,jS,nW,lz,aa,af,mL,aa,nF,nE,jG,jK,aa,af,ld,aa,jP,my,nA,aa,af,m0,aa,ko,ny,m8,aa,af,kL,aa,lh,lm,mc,aa,af,ka,aa,ma,lq,ml,aa,af,l9,aa,mw,kv,kH,aa,af,lO,aa,nB,nx,l_,km,lU P,kQ,nP,nV,aa,bh,kG P,aa,mv,jM,lR,lx,aa,af,jV,aa,lY,lA,kb,aa,af,mi,aa,kE,jy,jJ,mV,aa,af,mC,aa,m9,l7,ng,bH,aa,af,me,aa,ly,nm,kJ,aa,af,kN,aa,jz,j7,nk,aa,af,kO,aa,nR,j6,jT,aa,af,lN,aa,mB,mJ,lf,aa,af,nI,aa,jF,nl,mz,cz,aa,af,lT,aa,lj,kF,kq,aa,af,mb,aa,k7,lv,nY,aa,af,nO,aa,lF,kA,kB,mq,l6 P,mS,kx,jE,lI,ms,m7,aa,af,lK,aa,j4,nD,k0,aa,af,kj,aa,mE,eu,ke,j9,aa,af,nv,aa,nL,kD,kX,aa,af,lw,lg,ki,aa,af,l0,aa,lW,mO,l5,aa,af,jH,nw,jN,aa,af,np,aa,lr,kI,l8,aa,af,j2,aa,kU,kf,jC,aa,af,kn,jQ,nH]
noncomputable def u0(P:Pm):=nd aa (nd aa (nd cM (nd o7 (n1 h9) e) (n1 af)) (nd o_ (nd oH (n1 (jm P)) e) (n1 aa))) (nd f9 (nd af (nd oG (n1 aa) e) (n1 h7)) (nd aa (nd aa (n1 cz) e) (n1 iW)))
noncomputable def u1:=nd af (n1 af) e
noncomputable def u2:=nd cM (nd IA u1 (n1 oP)) (nd pb (nd aa (n1 iC) e) (n1 aa))
noncomputable def u3:=nd oJ (nd pj (n1 i4) e) (n1 jd)
noncomputable def u4:=nd lC (nd f_ (nd gg (nd ph (n1 cz) e) (n1 aa)) (nd pe (nd af (n1 il) e) (n1 iv))) (nd f8 (nd aa (nd aa (n1 ip) e) (n1 ib)) (nd oR (nd oU (n1 iG) e) (n1 ii)))
noncomputable def u5(P:Pm):=nd (gu P) (nd ji (nd aa (n1 jg) e) (n1 aa)) (nd af (nd oV (n1 iS) e) (n1 iJ))
noncomputable def u6:=nd aa (nd oN (n1 jn) e) (n1 af)
noncomputable def u7(P:Pm):=nd af (nd gb (nd (f7 P) (nd oX (n1 iA) e) (n1 oS)) (nd aa (nd aa (n1 jl) e) (n1 iM))) (nd gj (nd oM (nd o4 (n1 af) e) (n1 aa)) (nd pg (nd af (n1 ie) e) (n1 iD)))
noncomputable def u8(P:Pm):=nd (f6 P) (nd ij (nd oW (n1 iy) e) (n1 h8)) (nd aa (nd pi (n1 ic) e) (n1 af))
noncomputable def u9:=nd pk (nd aa (n1 i7) e) (n1 aa)
noncomputable def Ln:=nd aa (n1 aa) e
noncomputable def u11:=nd gm (nd aa Ln (n1 oK)) (nd oI (nd oY (n1 iF) e) (n1 iL))
noncomputable def Ia:=nd af (n1 aa) e
noncomputable def u13:=nd pc Ia (n1 iV)
noncomputable def u14:=nd ge (nd aa (nd oZ (n1 jf) e) (n1 af)) (nd oL (nd pa (n1 cU) e) (n1 aa))
noncomputable def u15:=nd af (nd oO (n1 i9) e) (n1 iO)
noncomputable def UY:=nd aa (n1 af) (n1 aa)
noncomputable def u17:=nd aa (n1 af) (n1 af)
noncomputable def U_:=nd aa (n1 af) e
noncomputable def Sx(P:Pm):BT:=nd (g7 P) (nd (gS P) (nd (OR P) (u0 P) (nd (eX P) u2 (nd e_ u3 (nd aa (n1 i3) (n1 bh))))) (nd gU u4 (nd (eI P) (u5 P) (nd (eS P) u6 (nd ix (n1 iu) (n1 aa)))))) (nd (w7 P) (nd gP (u7 P) (nd eY (u8 P) (nd eT u9 (nd af (n1 jj) (n1 (fT P)))))) (nd cU (nd eM u11 (nd eP u13 (nd iU (n1 aa) (n1 aa)))) (nd eW u14 (nd eH u15 (nd aa (n1 aa) (n1 fV))))))
noncomputable def Vc(P:Pm):BT:=nd (g7 P) (nd (gS P) (nd (NB P) (u0 P) (nd (eX P) u2 (nd e_ u3 (nd aa (nd i3 (n1 fG) e) (n1 bh))))) (nd gU u4 (nd (eI P) (u5 P) (nd (eS P) u6 (nd ix (nd iu (n1 aa) e) (n1 aa)))))) (nd (w7 P) (nd gP (u7 P) (nd eY (u8 P) (nd eT u9 (nd af (nd jj (n1 jb) e) (n1 (fT P)))))) (nd cU (nd eM u11 (nd eP u13 (nd iU (nd aa (n1 jh) e) (n1 aa)))) (nd eW u14 (nd eH u15 (nd aa (nd aa (n1 jr) e) (n1 fV))))))
noncomputable def tF(P:Pm):BT:=nd (g7 P) (nd (gS P) (nd (zI P) (nd aa (nd aa (nd cM (nd o7 (nd h9 (nd ug (n1 af) (n1 af)) (nd aa (n1 mr) e)) (nd uc (nd aa (n1 jA) (n1 aa)) (nd sH (n1 af) e))) (nd af (nd aa (nd rO (n1 aa) (n1 lj)) (nd rW (n1 nW) e)) (nd qD UY (nd qW (n1 lx) e)))) (nd o_ (nd oH (nd (jm P) (nd ry (n1 aa) (n1 aa)) (nd aa (n1 kw) e)) (nd (uV P) (nd pM (n1 nM) (n1 af)) Ia)) (nd aa (nd bH (nd af (n1 aa) (n1 kB)) (nd sa (n1 nA) e)) (nd eB (nd po (n1 aa) (n1 kn)) (nd pn (n1 aa) e))))) (nd f9 (nd af (nd oG (nd aa (nd tN (n1 uU) (n1 kO)) (nd aa (n1 lQ) e)) (nd aa (nd pC (n1 nT) (n1 aa)) (nd aa (n1 l9) e))) (nd h7 (nd af (nd aa (n1 aa) (n1 lv)) (nd rZ (n1 jG) e)) (nd af (nd af (n1 lJ) (n1 af)) (nd se (n1 aa) e)))) (nd aa (nd aa (nd cz (nd qI (n1 aa) (n1 jF)) (nd aa (n1 nC) e)) (nd aa (nd rl (n1 aa) (n1 lW)) (nd rC (n1 nV) e))) (nd iW (nd tw (nd rf (n1 aa) (n1 m7)) (nd pG (n1 aa) e)) (nd (te P) (nd aa (n1 j3) e) Ln))))) (nd (eX P) (nd cM (nd wm (nd af (nd af (nd aa (n1 tK) (n1 j7)) (nd bH (n1 jR) e)) (nd aa (nd aa (n1 af) (n1 mE)) (nd aa (n1 lq) e))) (nd oP (nd uz (nd aa (n1 lG) (n1 af)) (nd af (n1 mL) e)) (nd eB (nd uL (n1 jL) (n1 lr)) (nd (t5 P) (n1 aa) e)))) (nd pb (nd aa (nd iC (nd sx (n1 rk) (n1 aa)) (nd ss (n1 mj) e)) (nd th (nd rx (n1 aa) (n1 aa)) (nd p6 (n1 km) e))) (nd aa (nd af (nd t_ (n1 mh) (n1 kx)) Ia) (nd af (nd uu (n1 aa) e) (nd aa (n1 m9) e))))) (nd e_ (nd oJ (nd pj (nd i4 (nd af (n1 s_) (n1 jT)) (nd pO (n1 jO) e)) (nd qT (nd af (n1 mu) (n1 nL)) (nd sm (n1 kH) e))) (nd jd (nd fB (nd rM (n1 ll) (n1 nO)) (nd af (n1 ld) e)) (nd (sM P) (nd uk (n1 mo) (n1 kf)) (nd uf (n1 kE) e)))) (nd aa (nd i3 (nd fG (nd aa (n1 le) (n1 aa)) (nd aa (n1 mW) e)) (nd aa (nd aa (n1 la) (n1 af)) (nd ul (n1 aa) e))) (nd bh (nd uo (nd sU (n1 aa) (n1 aa)) (nd qC (n1 lh) e)) (nd q_ (nd pB (n1 af) e) (nd uG (n1 ly) e))))))) (nd gU (nd lC (nd f_ (nd gg (nd ph (nd cz (nd pU (n1 aa) (n1 aa)) (nd pY (n1 aa) e)) (nd bh (nd qp (n1 kY) (n1 kj)) Ia)) (nd aa (nd tT (nd af (n1 m5) (n1 kq)) (nd p9 (n1 aa) e)) (nd uM (nd uR (n1 aa) (n1 np)) (nd qc (n1 af) e)))) (nd pe (nd af (nd il (nd aa (n1 sA) (n1 mJ)) (nd qO (n1 aa) e)) (nd qa (nd aa (n1 af) (n1 lg)) (nd aa (n1 nx) e))) (nd iv (nd r5 (nd aa (n1 kR) (n1 (l6 P))) (nd bH (n1 af) e)) (nd (p8 P) (nd sp (n1 ln) (n1 nH)) (nd af (n1 mC) e))))) (nd f8 (nd aa (nd aa (nd ip (nd up (n1 qw) (n1 nR)) (nd tO (n1 aa) e)) (nd rq (nd sX (n1 aa) (n1 nv)) (nd sT (n1 mw) e))) (nd ib (nd aa (nd sF (n1 j5) (n1 aa)) (nd qA (n1 aa) e)) (nd rA (nd aa (n1 kP) (n1 aa)) (nd aa (n1 mi) e)))) (nd oR (nd oU (nd iG (nd af (n1 mU) (n1 mz)) (nd tp (n1 aa) e)) (nd tr (nd af (n1 mY) (n1 l5)) (nd uP (n1 bh) e))) (nd ii (nd aa (nd qo (n1 n4) (n1 af)) (nd aa (n1 kL) e)) (nd pZ (nd pr (n1 mZ) e) (nd qZ (n1 me) e)))))) (nd (eI P) (nd (gu P) (nd ji (nd aa (nd jg (nd pH (n1 aa) (n1 aa)) (nd af (n1 kC) e)) (nd pK (nd ut (n1 aa) (n1 ke)) (nd ql (n1 aa) e))) (nd aa (nd sC (nd tZ (n1 af) (n1 aa)) (nd aa (n1 nF) e)) (nd (tR P) (nd r9 (n1 aa) (n1 l8)) (nd tC (n1 lA) e)))) (nd af (nd oV (nd iS (nd uw (n1 af) (n1 nI)) (nd af (n1 jZ) e)) (nd af (nd pI (n1 nG) (n1 l0)) (nd aa (n1 kQ) e))) (nd iJ (nd aa (nd aa (n1 af) (n1 lI)) (nd aa (n1 ny) e)) (nd su (nd af (n1 nZ) e) (nd uj (n1 ng) e))))) (nd (eS P) (nd aa (nd oN (nd jn u17 (nd af (n1 lM) e)) (nd aa (nd aa (n1 nX) (n1 kX)) (nd pN (n1 af) e))) (nd af (nd q6 (nd so (n1 af) (n1 lF)) (nd aa (n1 jP) e)) (nd qr UY (nd to (n1 jJ) e)))) (nd ix (nd iu (nd aa (nd uA (n1 af) (n1 lT)) (nd sw (n1 n8) e)) (nd tU (nd rP (n1 nJ) (n1 nw)) (nd (r_ P) (n1 jM) e))) (nd aa (nd qi (nd af (n1 kc) (n1 nD)) (nd rY (n1 mc) e)) (nd (tW P) Ia (nd qE (n1 kJ) e)))))))) (nd (Ah P) (nd gP (nd af (nd gb (nd (f7 P) (nd oX (nd iA (nd rU (n1 tY) (n1 kN)) (nd tg (n1 ni) e)) (nd uD (nd uE (n1 lH) (n1 af)) (nd aa (n1 ka) e))) (nd oS (nd af (nd aa (n1 mQ) (n1 kF)) (nd uO (n1 lz) e)) (nd qJ (nd af (n1 lD) (n1 af)) (nd tE (n1 aa) e)))) (nd aa (nd aa (nd jl (nd sr (n1 qz) (n1 mB)) (nd ui (n1 bH) e)) (nd aa (nd um (n1 aa) (n1 lw)) (nd rz (n1 nB) e))) (nd iM (nd sy (nd p_ (n1 n5) (n1 mq)) (nd uH (n1 aa) e)) (nd bh (nd aa (n1 kS) (n1 jQ)) U_)))) (nd gj (nd oM (nd o4 (nd af (nd pD (n1 aa) (n1 aa)) (nd r7 (n1 k_) e)) (nd (sS P) (nd qM (n1 mf) (n1 af)) Ia)) (nd aa (nd qm (nd af (n1 nn) (n1 nY)) (nd re (n1 jK) e)) (nd uQ (nd rR (n1 aa) (n1 j2)) (nd pE (n1 af) e)))) (nd pg (nd af (nd ie (nd aa (n1 nj) (n1 nl)) (nd uJ (n1 mM) e)) (nd tq (nd aa (n1 af) (n1 mO)) Ln)) (nd iD (nd pF (nd aa (n1 nS) (n1 aa)) (nd qY (n1 af) e)) (nd uC (nd sd (n1 j_) e) u1))))) (nd eY (nd (f6 P) (nd ij (nd oW (nd iy (nd af (n1 pP) (n1 nk)) Ln) (nd af (nd af (n1 jx) (n1 eu)) (nd q4 (n1 ml) e))) (nd h8 (nd tS (nd uy (n1 aa) (n1 mb)) (nd sD (n1 aa) e)) (nd bh (nd p7 (n1 mP) (n1 kI)) (nd aa (n1 lY) e)))) (nd aa (nd pi (nd ic (nd aa (n1 aa) (n1 af)) Ln) (nd aa (nd aa (n1 nQ) (n1 af)) (nd qg (n1 (lU P)) e))) (nd af (nd t8 (nd ru (n1 aa) (n1 jE)) (nd us (n1 ko) e)) (nd tl U_ (nd uq (n1 l7) e))))) (nd eT (nd pk (nd aa (nd i7 (nd rV (n1 aa) (n1 aa)) Ln) (nd uW (nd tQ (n1 aa) (n1 kD)) (nd qP (n1 aa) e))) (nd aa (nd tG (nd rL (n1 aa) (n1 aa)) (nd qy (n1 aa) e)) (nd sf (nd sO (n1 aa) (n1 jC)) (nd aa (n1 jy) e)))) (nd af (nd jj (nd jb (nd rp (n1 aa) (n1 af)) Ia) (nd (tn P) (nd rj (n1 lb) (n1 jH)) (nd pw (n1 mv) e))) (nd (fT P) (nd aa (nd aa (n1 af) (n1 j4)) (nd aa (n1 lm) e)) (nd bh (nd aa (n1 nu) e) (nd qN (n1 nm) e))))))) (nd cU (nd eM (nd gm (nd aa (nd aa (nd aa (nd bH (n1 sI) (n1 jz)) (nd rQ (n1 af) e)) (nd (rF P) (nd sb (n1 aa) (n1 aa)) (nd qV (n1 ma) e))) (nd oK (nd aa (nd qQ (n1 lB) (n1 aa)) U_) (nd tm (nd aa (n1 ky) (n1 aa)) (nd bh (n1 jV) e)))) (nd oI (nd oY (nd iF (nd af (n1 uB) (n1 lf)) (nd rn (n1 af) e)) (nd rG (nd af (n1 mH) (n1 ki)) (nd tc (n1 l_) e))) (nd iL (nd aa (nd qF (n1 jI) (n1 mS)) (nd aa (n1 m0) e)) (nd aa (nd tI (n1 m_) e) (nd pJ (n1 aa) e))))) (nd eP (nd pc (nd af (nd aa (nd aa (n1 uY) (n1 j6)) (nd sq (n1 af) e)) (nd tL UY (nd aa (n1 kv) e))) (nd iV (nd t9 (nd aa (n1 kM) (n1 af)) U_) (nd aa (nd qq (n1 kr) (n1 kU)) Ia))) (nd iU (nd aa (nd jh (nd sJ (n1 nq) (n1 cz)) (nd uX (n1 af) e)) (nd sP (nd qX (n1 aa) (n1 aa)) (nd qh (n1 (kG P)) e))) (nd aa (nd af (nd pX (n1 kK) (n1 lK)) Ia) (nd t7 (nd rd (n1 aa) e) Ln))))) (nd eW (nd ge (nd aa (nd oZ (nd jf u17 (nd qu (n1 k9) e)) (nd qv (nd aa (n1 mR) (n1 j9)) (nd t6 (n1 af) e))) (nd af (nd aa (nd ur (n1 kT) (n1 k7)) (nd tP (n1 nE) e)) (nd aa UY (nd uI (n1 kb) e)))) (nd oL (nd pa (nd cU (nd tH (n1 mn) (n1 aa)) (nd sn (n1 jX) e)) (nd qU (nd uh (n1 lE) (n1 aa)) (nd af (n1 nP) e))) (nd aa (nd q7 (nd af (n1 n6) (n1 ms)) (nd sQ (n1 m8) e)) (nd aa (nd tJ (n1 aa) e) (nd rK (n1 bH) e))))) (nd eH (nd af (nd oO (nd i9 (nd qk (n1 pT) (n1 lN)) (nd qL (n1 jY) e)) (nd bh (nd q3 (n1 j8) (n1 aa)) (nd aa (n1 lO) e))) (nd iO (nd cU (nd aa (n1 mX) (n1 kA)) (nd pA (n1 my) e)) (nd pV (nd af (n1 jB) (n1 af)) (nd rJ (n1 mV) e)))) (nd aa (nd aa (nd jr (nd pz (n1 lV) (n1 aa)) (nd aa (n1 jS) e)) (nd ta (nd q9 (n1 aa) (n1 jN)) (nd tD (n1 lR) e))) (nd fV (nd rD (nd t4 (n1 aa) (n1 k0)) (nd uK (n1 aa) e)) (nd aa (nd uF (n1 lp) e) Ln)))))))
end
end
section
open PyProof.Rows
noncomputable abbrev d0:=PySem.W.Fast.tw14364793385576792824
noncomputable abbrev vR:=PySem.W.Fast.tw10110043849684766642
noncomputable abbrev Bc:=PySem.W.Fast.tw12563942051412417395
noncomputable abbrev Bq:=PySem.W.Fast.tw1066825118222455980
noncomputable abbrev Sa:=PySem.W.Fast.tw15667345088766844465
noncomputable abbrev Le:=PySem.W.Fast.tw14082659384304107361
noncomputable abbrev Ks:=PySem.W.Fast.tw10274390034422433532
noncomputable abbrev Dh:=PySem.W.Fast.tw14374325043358763698
noncomputable abbrev JT:=PySem.W.Fast.tw11892475500146522536
noncomputable def bG:Life:={}
noncomputable def qj:Env:={scope:=TW.main.scope,locals:=mainNs,globals:=mainNs,cells:=[],code:= .ref 36,frame:=some 37}
noncomputable def n9:List Stmt:=behindTheImports TW
noncomputable def c0:Code:= .body n9 qj
noncomputable def z0:Pos:=⟨0,0,0,0⟩
noncomputable def B0:List Frame:=[topFrame z0]
noncomputable def Et:Nat→List Stmt→List Stmt
 |0,_=> []
 |_,[]=> []
 |n+1,a::l=>a::Et n l
noncomputable def GJ:Nat→List Stmt→List Stmt
 |0,l=>l
 |_,[]=> []
 |n+1,_::l=>GJ n l
noncomputable def U4:=Et 19 n9
noncomputable def U0:=Et 1 (GJ 19 n9)
noncomputable def bF:=GJ 20 n9
noncomputable def tA(P:Pm):BT:=insAllT (HA P) .nil 0
where insAllT:LL→BT→Nat→BT
 |[],T,_=>T
 |o::l,T,m=>insAllT l (T.ins m o) (m+1)
noncomputable def OX(l:List Stmt)(p:Pos):Thread:=⟨(Bc l qj).wrap doneF deadEnd id id,c0,p,B0⟩
theorem PV:∀w:Wd,((Ks d0 (opening TW) w 8000 (start (opening TW)).1 (start (opening TW)).2).bind (fenceModules? TW)).map (fun s=>(s.heap,s.gens,s.drawn,s.toks))=some (⟨⟨KM w.params⟩,bG⟩,⟨[]⟩,boot_drawn,318):=fun w=>by kernel_rfl
theorem Tw:∀(w:Wd)(os:OS),Sa d0 TW w 34 (some (.ref 6)) 12 ⟨⟨⟨KM w.params⟩,bG⟩,⟨[]⟩,boot_drawn,318,os⟩ (topStub TW)=some (⟨⟨⟨HA w.params⟩,bG⟩,⟨[]⟩,boot_drawn,324,os⟩,⟨JT d0 c0,c0,z0,B0⟩):=fun w os=>by kernel_rfl
theorem XO:∀(w:Wd)(os:OS),vR d0 TW w 34 (some (.ref 6)) 1 763 ⟨tA w.params,38,bG,⟨[]⟩,boot_drawn,324,os⟩ (OX U4 z0)=some (.next,⟨Sx w.params,154,bG,⟨[]⟩,boot_drawn,526,os⟩,c0,⟨144,0,144,8⟩):=fun w os=>by kernel_rfl
end
section
open PyProof.Rows
theorem WH:∀(w:Wd),(fun os=>vR d0 TW w 34 (some (.ref 6)) 1 1600 ⟨Sx w.params,154,bG,⟨[]⟩,boot_drawn,526,os⟩ (OX U0 ⟨144,0,144,8⟩))=fun os=>some (.next,⟨Vc w.params,159,bG,⟨[]⟩,boot_drawn,672,os⟩,c0,⟨145,0,145,18⟩):=
 byRow2 "comprehension-iter-twice" (byRow2 "special-get-raises" (fun w=>by kernel_rfl) (fun w=>by kernel_rfl)) (byRow2 "special-get-raises" (fun w=>by kernel_rfl) (fun w=>by kernel_rfl))
theorem h_F:∀(w:Wd)(os:OS),vR d0 TW w 34 (some (.ref 6)) 1 4933 ⟨Vc w.params,159,bG,⟨[]⟩,boot_drawn,672,os⟩ (OX bF ⟨145,0,145,18⟩)=some (.next,⟨tF w.params,882,bG,⟨[]⟩,boot_drawn,1617,os⟩,c0,⟨931,0,946,108⟩):=fun w os=>by kernel_rfl
theorem GB:∀(P:Pm),absHeap (tF P) 882 bG=⟨⟨xb P⟩,bG⟩:=fun P=>by kernel_rfl
theorem QM:∀(w:Wd)(os:OS),Le d0 TW w 34 (some (.ref 6)) 2 ⟨⟨⟨xb w.params⟩,bG⟩,⟨[]⟩,boot_drawn,1617,os⟩ ⟨doneF .next,c0,⟨931,0,946,108⟩,B0⟩=some ⟨⟨⟨xb w.params⟩,bG⟩,⟨[]⟩,boot_drawn,1617,os⟩:=fun w os=>by kernel_rfl
end
section
open PyProof.Rows
noncomputable def mI:List Str:=[⟨⟨[106,111,105,110,95,112,97,116,104]⟩⟩,⟨⟨[116,119,105,110,95,114,101,95,49,95,102,110,109,97,116,99,104]⟩⟩,⟨⟨[95,115,112,101,99,105,97,108,95,99,104,97,114,115,95,109,97,112]⟩⟩,⟨⟨[116,119,105,110,95,114,101,95,49,95,115,104,108,101,120]⟩⟩,⟨⟨[85,110,115,117,112,112,111,114,116,101,100,79,112,101,114,97,116,105,111,110]⟩⟩,⟨⟨[73,79,66,97,115,101]⟩⟩,⟨⟨[66,117,102,102,101,114,101,100,73,79,66,97,115,101]⟩⟩,⟨⟨[84,101,120,116,73,79,66,97,115,101]⟩⟩,⟨⟨[66,121,116,101,115,73,79]⟩⟩,⟨⟨[83,116,114,105,110,103,73,79]⟩⟩,⟨⟨[115,104,108,101,120]⟩⟩,⟨⟨[115,112,108,105,116]⟩⟩,⟨⟨[106,111,105,110,95,115,104,108,101,120]⟩⟩,⟨⟨[95,102,105,110,100,95,117,110,115,97,102,101]⟩⟩]
noncomputable def q0:Program:=view TW [0,1,2,3,5,6,7,8,10,11,12,13,14,15,16,18,19,21,22,24,25,27,28,29,30,31,32,33,34,36,38,39,40,41,43,44,45,46,47,48]
noncomputable abbrev ES:=PySem.W.Fast.tw4187177175401517315
noncomputable def FI:=PySem.importedModules TW.main.body
theorem OT:∀w:Wd,(((⟨⟨KM w.params⟩,bG⟩:Heap).isNs mainGlobals&&(⟨[]⟩:Array GS).size==0,(⟨⟨KM w.params⟩,bG⟩:Heap).objs.size,(⟨⟨KM w.params⟩,bG⟩:Heap).nsMap mainGlobals "__annotations__"))=(true,34,some (.ref 6)):=fun w=>by kernel_rfl
theorem Ye:∀(w:Wd),staticsOk FI ⟨⟨KM w.params⟩,bG⟩ ⟨⟨xb w.params⟩,bG⟩=true:=fun w=>by kernel_rfl
theorem Ya:∀(w:Wd),namesBound TW ⟨⟨xb w.params⟩,bG⟩=true:=fun w=>by kernel_rfl
theorem Xn:∀(w:Wd),laidKept ⟨⟨KM w.params⟩,bG⟩ ⟨⟨xb w.params⟩,bG⟩=true:=fun w=>by kernel_rfl
end
section
open PyProof.Rows
noncomputable def QX:Ś→Bool:=fun s=>xlAt q0 [] s&&recOk [] s
theorem Oh:∀(w:Wd)(os:OS),ES q0 mI FI QX true ⟨⟨⟨xb w.params⟩,bG⟩,⟨[]⟩,boot_drawn,1617,os⟩=openGood q0 mI:=fun w os=>by kernel_rfl
end
noncomputable def vc:BT→KT
 | .nil=> .nil
 | .node o l r=> .node (some o) (vc l) (vc r)
inductive Out where
 |done
 |fail(n:Nat)
 |nat(a b:Nat)(o:Out)
 |val(a b:Vl)(o:Out)
 |obj(a b:Obj)(o:Out)
 |cod(a b:Code)(o:Out)
 |gls(a b:LG)(o:Out)
 |res(a b:Re)(o:Out)
 |need(f:Nat→Out)
 |all(f:List (Code×Pos)→Out)
 |pos(f:Pos→Out)
 |stk(g:List (Code×Pos)→Sem Fin×Sem Fin)(o:Out)
 |sem(a b:Sem Fin)(o:Out)
 |frs(a b:List Frame)(o:Out)
 |lst(f:LN→Out)
 |both(a b:Out)
noncomputable def bV:Out→Prop
 | .done=>True
 | .fail _=>False
 | .nat a b o=>a=b∧bV o
 | .val a b o=>a=b∧bV o
 | .obj a b o=>a=b∧bV o
 | .cod a b o=>a=b∧bV o
 | .gls a b o=>a=b∧bV o
 | .res a b o=>a=b∧bV o
 | .need f=>∀n,bV (f n)
 | .all f=>∀l,bV (f l)
 | .pos f=>∀l,bV (f l)
 | .stk g o=>(∀l,(g l).1=(g l).2)∧bV o
 | .sem a b o=>a=b∧bV o
 | .frs a b o=>a=b∧bV o
 | .lst f=>∀l,bV (f l)
 | .both a b=>bV a∧bV b
noncomputable def xW:Out→Prop
 | .done=>True
 | .fail _=>True
 | .nat _ b o=>b=b∧xW o
 | .val _ b o=>b=b∧xW o
 | .obj _ b o=>b=b∧xW o
 | .cod _ b o=>b=b∧xW o
 | .gls _ b o=>b=b∧xW o
 | .res _ b o=>b=b∧xW o
 | .need f=>∀n,xW (f n)
 | .all f=>∀l,xW (f l)
 | .pos f=>∀l,xW (f l)
 | .stk g o=>(∀l,(g l).2=(g l).2)∧xW o
 | .sem _ b o=>b=b∧xW o
 | .frs _ b o=>b=b∧xW o
 | .lst f=>∀l,xW (f l)
 | .both a b=>xW a∧xW b
theorem ce:∀o,xW o
 | .done=>trivial
 | .fail _=>trivial
 | .nat _ _ o=>⟨rfl,ce o⟩
 | .val _ _ o=>⟨rfl,ce o⟩
 | .obj _ _ o=>⟨rfl,ce o⟩
 | .cod _ _ o=>⟨rfl,ce o⟩
 | .gls _ _ o=>⟨rfl,ce o⟩
 | .res _ _ o=>⟨rfl,ce o⟩
 | .need f=>fun n=>ce (f n)
 | .all f=>fun n=>ce (f n)
 | .pos f=>fun n=>ce (f n)
 | .stk _ o=>⟨fun _=>rfl,ce o⟩
 | .sem _ _ o=>⟨rfl,ce o⟩
 | .frs _ _ o=>⟨rfl,ce o⟩
 | .lst f=>fun l=>ce (f l)
 | .both a b=>⟨ce a,ce b⟩
theorem bm{o:Out}(h:bV o=xW o):bV o:=h▸ce o
structure Qd(o:Out):Prop where
 ok:bV o
noncomputable def bx:List (Nat×Nat)→Nat→Nat
 |[],_=>0
 |p::r,i=>match Nat.ble p.1 i with
  |true=>p.2+(i -p.1)
  |false=>bx r i
noncomputable abbrev K6:=BT→Nat→List (Nat×Nat)→Nat→Nat→LG→LN→Out
structure Sam where
 l:BT→Vl
 r:BT→Vl
 J:Code→BT→Sem Bool→Sem Fin
noncomputable def gxS(l:List Sam)(i:Nat):Sam:=match l with
 |[]=>⟨fun _=> .none,fun _=> .none,fun _ _ _=> .pure (.done .next)⟩
 |x::r=>match i with
  |0=>x
  |i+1=>gxS r i
noncomputable def iB(v:Vl):Str:=match v with
 | .str s _=>s
 |_=>⟨⟨[]⟩⟩
structure Fac where
 l:BT→List (Nat×Nat)→LN→Sem Fin
 r:BT→List (Nat×Nat)→LN→Sem Fin
noncomputable def SN(l:List Fac)(i:Nat):Fac:=match l with
 |[]=>⟨fun _ _ _=> .pure (.done .next),fun _ _ _=> .pure (.done .next)⟩
 |x::r=>match i with
  |0=>x
  |i+1=>SN r i
structure Fac2 where
 l:Nat→Nat→Sem Fin
 r:Nat→Nat→Sem Fin
noncomputable def FC(l:List Fac2)(i:Nat):Fac2:=match l with
 |[]=>⟨fun _ _=> .pure (.done .next),fun _ _=> .pure (.done .next)⟩
 |x::r=>match i with
  |0=>x
  |i+1=>FC r i
structure Fac3 where
 l:Code→Pos→List (Code×Pos)→BT→List (Nat×Nat)→LN→Sem Fin
 r:Code→Pos→List (Code×Pos)→BT→List (Nat×Nat)→LN→Sem Fin
noncomputable def Ac(l:List Fac3)(i:Nat):Fac3:=match l with
 |[]=>⟨fun _ _ _ _ _ _=> .pure (.done .next),fun _ _ _ _ _ _=> .pure (.done .next)⟩
 |x::r=>match i with
  |0=>x
  |i+1=>Ac r i
structure Cf where
 prog:Program
 P:Pm
 Q:Nat→Bool→Pm
 Q4:Bool→Pm
 den:Code→Sem Fin
 kt:KT
 ent:List (Code×Pos)→Sem Unit
 wak:List (Code×Pos)→Sem Unit
 bnd:Sem Unit→(Unit→Sem Fin)→Sem Fin
 dep:Nat
 hdp:Nat
 fin:Re→LN→K6
 agn:Code→LN→K6
 hook:Nat→Code→(Re→K6)→K6
 turn:Nat→Code→(Code→K6)→K6
 gh:LN→List (Addr×Obj)
 sam:List Sam
 fct:List (Nat×Nat)
 isS:Vl→Vl→Sem Bool
 stp:Code→List Frame→Sem Fin→LN→K6
 fac:List Fac
 fac2:List Fac2
 baseO:Option (List (Code×Pos))
 fac3:List Fac3
noncomputable def aO(n:Nat):K6:=fun _ _ _ _ _ _ _=> .fail n
noncomputable def cy:List Frame→Option Vl
 |[]=>none
 | .ret _ h _ _ _ _ _::r=>match h with
  |some e=>some e
  |none=>cy r
 | .gen .. ::r=>cy r
noncomputable def n_(k:List (Code×Pos)→Sem Fin)(kt:KT):Sem Fin:=match k [] with
 | .load a q k'=>match kt.get a with
  |some o=>k' o
  |none=> .load a q k'
 |t=>t
noncomputable def Li(C:Cf)(S:Sam)(T:BT)(tb i j:Nat)(c:Code)(t:Sem Fin)(o:Out):Out:=
 .val (S.l T) (.str (iB (S.l T)) (tb+i)) (.val (S.r T) (.str (iB (S.r T)) (tb+j)) (.nat (cond (iB (S.l T)==iB (S.r T)) 1 0) 0
  (.nat (cond (Nat.beq i j) 1 0) 0 (.sem t (S.J c T (C.isS (S.l T) (S.r T))) o))))
noncomputable def Jr(C:Cf)(i:Nat)(t:Sem Fin)(T:BT)(sg:List (Nat×Nat))(xl:LN)(κ:Sem Fin→Out):Out:=
 .sem t ((SN C.fac i).l T sg xl) (κ ((SN C.fac i).r T sg xl))
noncomputable def Gg(C:Cf)(j i1 i2:Nat)(t:Sem Fin)(T:BT)(sg:List (Nat×Nat))(κ:Sem Fin→Out):Out:=match T.get i1 with
 |none=> .fail 79
 |some _=>match T.get i2 with
  |none=> .fail 80
  |some _=>match Nat.beq i1 i2 with
   |true=> .fail 81
   |false=> .sem t ((FC C.fac2 j).l (bx sg i1) (bx sg i2)) (κ ((FC C.fac2 j).r (bx sg i1) (bx sg i2)))
noncomputable def DB(C:Cf)(ih:LN→Code→Pos→List Frame→Sem Fin→K6)(r:Re)(ora:LN)(fs:List Frame):K6:=match fs with
 |[]=>C.fin r ora
 | .ret k _ _ _ c₁ p₁ _::fs'=>ih ora c₁ p₁ fs' (k r)
 | .gen g k _ c₁ p₁::fs'=>fun T m sg tb ti gl xl=>ih ora c₁ p₁ fs' (k (End.ret r).result) T m sg tb ti (gl.set g .finished) xl
noncomputable def pre(C:Cf)(P':Pm):Nat→Nat→LN→Code→Pos→List Frame→Sem Fin→(LN→Code→Pos→List Frame→Sem Fin→K6)→K6
 |0=>fun _ ora c p fs t κ=>κ ora c p fs t
 |n+1=>fun m ora c p fs t κ=>match t with
  | .rule _ k=>pre C P' n m ora c p fs (k ()) κ
  | .at q k=>pre C P' n m ora c q fs (k ()) κ
  | .point _ k=>pre C P' n m ora c p fs (k ()) κ
  | .ask k=>pre C P' n m ora c p fs (k ⟨C.prog,P'⟩) κ
  | .load a _ k=>match ora with
   |[]=>aO 50
   |o::ora'=>match o with
    |0=>match C.kt.get a with
     |some ob=>pre C P' n m ora' c p fs (k ob) κ
     |none=>aO 51
    |j+1=>fun T m' sg tb ti gl xl=>match T.get j with
     |some ob=> .nat a (bx sg j) (pre C P' n m ora' c p fs (k ob) κ T m' sg tb ti gl xl)
     |none=> .fail 52
  | .handled own k=>match own with
   |false=>pre C P' n m ora c p fs (k (cy fs)) κ
   |true=>aO 53
  | .call c' hd g l k=>match m with
   |0=>κ ora c p fs t
   |_=>match okMark hd with
    |true=>match c'.isCaller with
     |false=>pre C P' n (m+1) ora c' p (.ret k hd g l c p []::fs) (C.den c') κ
     |true=>aO 63
    |false=>aO 54
  | .stack k=>match m with
   |0=>κ ora c p fs t
   |_=>match ora with
    |[]=>aO 55
    |o::ora'=>match o with
     |0=>fun T m' sg tb ti gl xl=> .all fun bl=>pre C P' n m ora' c p fs (k ((c,p)::(fs.map Frame.where_++bl))) κ T m' sg tb ti gl xl
     |_+1=>aO 56
  | .pure fin=>match m with
   |0=>κ ora c p fs t
   |m'+1=>match m' with
    |0=>κ ora c p fs t
    |_+1=>match fin with
     | .done f=>match fs with
      |[]=>aO 57
      |F::fs'=>match F with
       | .ret k _ _ _ c₁ p₁ _=>pre C P' n m' ora c₁ p₁ fs' (k (.ok f)) κ
       | .gen .. =>aO 58
     | .again c'=>match c'.quiet with
      |true=>match c'.isCaller with
       |false=>pre C P' n m ora c' p fs (C.den c') κ
       |true=>aO 63
      |false=>aO 59
  |t=>κ ora c p fs t
noncomputable def bY(C:Cf):Nat→LN→Code→Pos→List Frame→Sem Fin→K6
 |0=>fun _ _ _ _ _=>aO 1
 |n+1=>fun ora c p fs t=>match t with
  | .pure fin=>match fin with
   | .done f=>DB C (bY C n) (.ok f) ora fs
   | .again c'=>match c'.quiet with
    |false=>aO 2
    |true=>match ora with
     |[]=>aO 3
     |o::ora'=>match o with
      |0=>bY C n ora' c' p fs (C.den c')
      |o'+1=>match o' with
       |0=>match fs with
        |[]=>C.agn c' ora'
        |_::_=>aO 4
       |o''+1=>match Nat.beq (o''%2) 0 with
        |true=>match cy fs with
         |none=>match Nat.ble (5*fs.length+5+C.dep) C.hdp with
          |true=>C.hook (o''/2) c' fun r=>DB C (bY C n) r ora' fs
          |false=>aO 60
         |some _=>aO 61
        |false=>match fs with
         |[]=>match C.baseO with
          |none=>C.turn (o''/2) c' fun c₂ T m sg tb ti gl xl=> .pos fun q=>bY C n ora' c₂ q [] (C.den c₂) T m sg tb ti gl xl
          |some _=>aO 83
         |_::_=>aO 64
  | .raise e=>DB C (bY C n) (.error e) ora fs
  | .rule _ k=>bY C n ora c p fs (k ())
  | .at q k=>match ora with
   |[]=>bY C n ora c q fs (k ())
   |o::ora'=>match Nat.beq o 999983 with
    |false=>bY C n ora c q fs (k ())
    |true=>match ora' with
     |[]=>aO 67
     |i::ora₂=>match ora₂ with
      |[]=>aO 69
      |i1::ora₃=>match ora₃ with
       |[]=>aO 85
       |i2::ora''=>fun T m sg tb ti gl xl=>Li C (gxS C.sam i) T tb i1 i2 c (k ()) (bY C n ora'' c q fs ((gxS C.sam i).J c T (.pure false)) T m sg tb ti gl xl)
  | .point _ k=>bY C n ora c p fs (k ())
  | .ask k=>match ora with
   |[]=>aO 62
   |o::ora'=>match o with
    |0=>bY C n ora' c p fs (k ⟨C.prog,C.P⟩)
    |j+1=>match Nat.beq j 1 with
     |false=>pre C (C.Q j true) n j ora' c p fs (k ⟨C.prog,C.Q j true⟩) fun ora₁ c₁ _ fs₁ t₁=>pre C (C.Q j false) n j ora₁ c p fs (k ⟨C.prog,C.Q j false⟩) fun ora₀ c₀ _ fs₀ t₀ T m sg tb ti gl xl=>
      .sem t₁ t₀ (.cod c₁ c₀ (.frs fs₁ fs₀ (.pos fun q=>bY C n ora₀ c₀ q fs₀ t₀ T m sg tb ti gl xl)))
     |true=>pre C (C.Q 1 true) n 1 ora' c p fs (k ⟨C.prog,C.Q 1 true⟩) fun ora₁ c₁ _ fs₁ t₁=>pre C (C.Q4 true) n 1 ora₁ c p fs (k ⟨C.prog,C.Q4 true⟩) fun ora₂ c₂ _ fs₂ t₂=>
      pre C (C.Q4 false) n 1 ora₂ c p fs (k ⟨C.prog,C.Q4 false⟩) fun ora₀ c₀ _ fs₀ t₀ T m sg tb ti gl xl=>
      .sem t₁ t₀ (.cod c₁ c₀ (.frs fs₁ fs₀ (.sem t₂ t₀ (.cod c₂ c₀ (.frs fs₂ fs₀ (.pos fun q=>bY C n ora₀ c₀ q fs₀ t₀ T m sg tb ti gl xl))))))
  | .load a _ k=>match ora with
   |[]=>aO 5
   |o::ora'=>match Nat.ble 999970 o with
    |true=>match ora' with
     |[]=>aO 65
     |j::ora₂=>match Nat.beq o 999979 with
      |true=>fun T m sg tb ti gl xl=>match T.get j with
       |some ob=> .nat a (bx sg j) (C.stp c fs (k ob) ora₂ T m sg tb ti gl xl)
       |none=> .fail 66
      |false=>match Nat.beq o 999975 with
       |true=>match ora₂ with
        |[]=>aO 74
        |i1::ora₃=>match ora₃ with
         |[]=>aO 75
         |i2::ora₄=>match ora₄ with
          |[]=>aO 76
          |o₂::ora''=>match o₂ with
           |0=>aO 77
           |i+1=>fun T m sg tb ti gl xl=>match T.get i with
            |some ob=> .nat a (bx sg i) (Gg C j i1 i2 (k ob) T sg fun t'=>bY C n ora'' c p fs t' T m sg tb ti gl xl)
            |none=> .fail 78
       |false=>match ora₂ with
        |[]=>aO 68
        |o₂::ora''=>match o₂ with
         |0=>match C.kt.get a with
          |some ob=>fun T m sg tb ti gl xl=>Jr C j (k ob) T sg xl fun t'=>bY C n ora'' c p fs t' T m sg tb ti gl xl
          |none=>aO 70
         |i+1=>fun T m sg tb ti gl xl=>match T.get i with
          |some ob=> .nat a (bx sg i) (Jr C j (k ob) T sg xl fun t'=>bY C n ora'' c p fs t' T m sg tb ti gl xl)
          |none=> .fail 71
    |false=>match o with
     |0=>match C.kt.get a with
      |some ob=>bY C n ora' c p fs (k ob)
      |none=>aO 6
     |j+1=>fun T m sg tb ti gl xl=>match T.get j with
      |some ob=> .nat a (bx sg j) (bY C n ora' c p fs (k ob) T m sg tb ti gl xl)
      |none=> .fail 32
  | .loadIfAlive a k=>match ora with
   |[]=>aO 7
   |o::ora'=>match o with
    |0=>match C.kt.get a with
     |some ob=>bY C n ora' c p fs (k (some ob))
     |none=>aO 8
    |j+1=>fun T m sg tb ti gl xl=>match T.get j with
     |some ob=> .nat a (bx sg j) (bY C n ora' c p fs (k (some ob)) T m sg tb ti gl xl)
     |none=> .fail 33
  | .update a _ f k=>match ora with
   |[]=>aO 9
   |o::ora'=>match o with
    |0=>aO 10
    |j+1=>fun T m sg tb ti gl xl=>match T.get j with
     |some ob=>match(f ob).isFreed with
      |true=> .fail 34
      |false=> .nat a (bx sg j) (bY C n ora' c p fs (k ()) (T.set j f) m sg tb ti gl xl)
     |none=> .fail 35
  | .alloc ob k=>match ob.isFreed with
   |true=>aO 11
   |false=>fun T m sg tb ti gl xl=>match(T.ins m ob).get m with
    |some _=>bY C n ora c p fs (k (bx sg m)) (T.ins m ob) (m+1) sg tb ti gl xl
    |none=> .fail 36
  | .fresh k=>fun T m sg tb ti gl xl=>bY C n ora c p fs (k (tb+ti)) T m sg tb (ti+1) gl xl
  | .handled own k=>match own with
   |false=>bY C n ora c p fs (k (cy fs))
   |true=>aO 12
  | .stack k=>match ora with
   |[]=>aO 13
   |o::ora'=>match o with
    |0=>fun T m sg tb ti gl xl=> .all fun bl=>bY C n ora' c p fs (k ((c,p)::(fs.map Frame.where_++bl))) T m sg tb ti gl xl
    |1=>match Nat.ble (5*fs.length+C.dep) 900 with
     |true=>fun T m sg tb ti gl xl=> .stk (fun l=>(k l,C.bnd (C.ent l) fun _=>n_ k C.kt)) (.pos fun q=>bY C n ora' c q fs (n_ k C.kt) T m sg tb ti gl xl)
     |false=>aO 14
    |o₂+2=>match o₂ with
     |0=>match Nat.ble (5*fs.length+C.dep) 900 with
      |true=>fun T m sg tb ti gl xl=> .stk (fun l=>(k l,C.bnd (C.wak l) fun _=>n_ k C.kt)) (.pos fun q=>bY C n ora' c q fs (n_ k C.kt) T m sg tb ti gl xl)
      |false=>aO 15
     |o₃+1=>match o₃ with
      |0=>match C.baseO with
       |some b=>bY C n ora' c p fs (k ((c,p)::(fs.map Frame.where_++b)))
       |none=>aO 82
      |_+1=>match ora' with
       |[]=>aO 84
       |i::ora''=>match C.baseO with
        |some b=>fun T m sg tb ti gl xl=> .sem (k ((c,p)::(fs.map Frame.where_++b))) ((Ac C.fac3 i).l c p (fs.map Frame.where_++b) T sg xl) (bY C n ora'' c p fs ((Ac C.fac3 i).r c p (fs.map Frame.where_++b) T sg xl) T m sg tb ti gl xl)
        |none=>fun T m sg tb ti gl xl=> .all fun b=> .sem (k ((c,p)::(fs.map Frame.where_++b))) ((Ac C.fac3 i).l c p (fs.map Frame.where_++b) T sg xl) (bY C n ora'' c p fs ((Ac C.fac3 i).r c p (fs.map Frame.where_++b) T sg xl) T m sg tb ti gl xl)
  | .call c' hd g l k=>match ora with
   |[]=>aO 16
   |o::ora'=>match o with
    |0=>match okMark hd with
     |true=>bY C n ora' c' p (.ret k hd g l c p []::fs) (C.den c')
     |false=>aO 17
    |j+1=>match Nat.beq j 999970 with
     |true=>match ora' with
      |[]=>aO 72
      |i::ora''=>match okMark hd with
       |true=>fun T m sg tb ti gl xl=>Jr C i (C.den c') T sg xl fun t'=>bY C n ora'' c' p (.ret k hd g l c p []::fs) t' T m sg tb ti gl xl
       |false=>aO 73
     |false=>match hd with
      |none=>match cy fs with
       |none=>match Nat.ble (5*fs.length+5+C.dep) C.hdp with
        |true=>C.hook j c' fun r=>bY C n ora' c p fs (k r)
        |false=>aO 18
       |some _=>aO 19
      |some _=>aO 20
  | .newGen c' k=>fun T m sg tb ti gl xl=>bY C n ora c p fs (k gl.length) T m sg tb ti (gl++ [.fresh c']) xl
  | .genState g k=>fun T m sg tb ti gl xl=>match gl[g]? with
   |some gs=>bY C n ora c p fs (k gs.seen) T m sg tb ti gl xl
   |none=> .fail 37
  | .resume g r l k=>fun T m sg tb ti gl xl=>match gl[g]? with
   |some gs=>match gs with
    | .fresh c₀=>match r with
     | .send v=>match v with
      | .none=>bY C n ora c₀ p (.gen g k l c p::fs) (C.den c₀) T m sg tb ti (gl.set g .running) xl
      |_=> .fail 38
     | .throw _=> .fail 39
    | .suspended k₀ _ c₀ p₀ fs₀ _=>bY C n ora c₀ p₀ (fs₀++ .gen g k l c p::fs) (k₀ r) T m sg tb ti (gl.set g .running) xl
    | .running=> .fail 40
    | .finished=> .fail 41
   |none=> .fail 42
  | .yield v gd l k=>match gd with
   |true=>aO 21
   |false=>match splitAtGen fs with
    |none=>aO 22
    |some x=>match x with
     |(pre,(g,kg,c₁,p₁),rest)=>match pre.any Frame.guarded with
      |true=>aO 23
      |false=>fun T m sg tb ti gl xl=>bY C n ora c₁ p₁ rest (kg (.yielded v)) T m sg tb ti (gl.set g (.suspended k l c p pre false)) xl
  | .unsupported _=>aO 24
  | .finish _=>aO 25
  | .register .. =>aO 26
  | .choose .. =>aO 27
  | .os .. =>aO 28
  | .fork .. =>aO 29
  | .thread _=>aO 30
  | .await .. =>aO 31
noncomputable def AG(d:Nat):Around:={handled:=none,depth:=d,frames:=none,guards:=none,units:=10*d}
structure Conc(kt:KT)(G:List (Addr×Obj))(ys:LA)(h₀:Heap)(os:OS)(T:BT)(m:Nat)(sg:List (Nat×Nat))(tb ti:Nat)(gl:LG)(s:Ś):Prop where
 size:s.heap.objs.size=bx sg m
 seg:∃q r,sg=q::r∧q.1≤m
 own:∀i o,T.get i=some o→i<m∧s.heap.get? (bx sg i)=some o∧(∀o',kt.get (bx sg i)≠some o')∧(bx sg i∈ys∨h₀.objs.size≤bx sg i)
 inj:∀i j o o',T.get i=some o→T.get j=some o'→bx sg i=bx sg j→i=j
 ktH:∀a o,kt.get a=some o→s.heap.get? a=some o
 keep:∀b o,h₀.get? b=some o→b∉ys→s.heap.get? b=some o
 low:h₀.objs.size≤s.heap.objs.size
 toks:s.toks=tb+ti
 gens:s.gens=⟨gl⟩
 os:s.os=os
 gho:∀p∈G,s.heap.get? p.1=some p.2∧∀i o,T.get i=some o→bx sg i≠p.1
 tkb:1617≤tb
theorem GU{sg:List (Nat×Nat)}{m:Nat}(h:∃q r,sg=q::r∧q.1≤m):bx sg (m+1)=bx sg m+1:=by
 obtain⟨q,r,rfl,h⟩:=h
 have h1:Nat.ble q.1 m=true:=Nat.ble_eq_true_of_le h
 have h2:Nat.ble q.1 (m+1)=true:=Nat.ble_eq_true_of_le (by omega)
 simp only[bx,h1,h2]
 omega
section
variable{kt:KT}{G:List (Addr×Obj)}{ys:LA}{h₀:Heap}{os:OS}{T:BT}{m:Nat}{sg:List (Nat×Nat)}{tb ti:Nat}{gl:LG}{s:Ś}
theorem Conc.alloc(D:Conc kt G ys h₀ os T m sg tb ti gl s){o:Obj}(hf:o.isFreed=false)(hg:((T.ins m o).get m).isSome=true):
 Conc kt G ys h₀ os (T.ins m o) (m+1) sg tb ti gl {s with heap:=s.heap.push o}:=by
 have hs:=D.size
 refine⟨by show(s.heap.push o).objs.size=_;rw[Heap.size_push,hs,GU D.seg],?_,?_,?_,fun a o' e=>Heap.get?_push_of_some _ (D.ktH a o' e),fun b o' e q=>Heap.get?_push_of_some _ (D.keep b o' e q),?_,D.toks,D.gens,D.os,fun p hp=>⟨Heap.get?_push_of_some _ (D.gho p hp).1,fun i o' e he=> ?_⟩,D.tkb⟩
 ·obtain⟨q,r,e,h⟩:=D.seg;exact⟨q,r,e,Nat.le_succ_of_le h⟩
 ·intro i o' e
  rw[BT.get_ins o T m hg] at e
  by_cases hi:i=m
  ·subst hi
   rw[if_pos rfl] at e;cases e
   refine⟨Nat.lt_succ_self _,by rw[←hs];exact Heap.get?_push_size _ hf,fun o'' e''=> ?_,.inr (by rw[←hs];exact D.low)⟩
   have:=Heap.lt_size (D.ktH _ _ e'')
   rw[hs] at this;exact absurd this (Nat.lt_irrefl _)
  ·rw[if_neg hi] at e
   obtain⟨a,b,c,q⟩:=D.own i o' e
   exact⟨Nat.lt_succ_of_lt a,Heap.get?_push_of_some _ b,c,q⟩
 ·intro i j oi oj ei ej he
  rw[BT.get_ins o T m hg] at ei ej
  have lt:∀k ok,T.get k=some ok→bx sg k<bx sg m:=fun k ok e=>by rw[←hs];exact Heap.lt_size (D.own k ok e).2.1
  by_cases hi:i=m
  ·by_cases hj:j=m
   ·rw[hi,hj]
   ·rw[if_neg hj] at ej;have:=lt _ _ ej;rw[←he,hi] at this;exact absurd this (Nat.lt_irrefl _)
  ·rw[if_neg hi] at ei
   by_cases hj:j=m
   ·have:=lt _ _ ei;rw[he,hj] at this;exact absurd this (Nat.lt_irrefl _)
   ·rw[if_neg hj] at ej;exact D.inj i j _ _ ei ej he
 ·show _≤(s.heap.push o).objs.size
  rw[Heap.size_push];exact Nat.le_succ_of_le D.low
 ·have hp':=D.gho p hp
  rw[BT.get_ins o T m hg] at e
  by_cases hi:i=m
  ·have:=Heap.lt_size hp'.1
   rw[←he,hi,hs] at this;exact absurd this (Nat.lt_irrefl _)
  ·rw[if_neg hi] at e;exact hp'.2 i o' e he
theorem Conc.update(D:Conc kt G ys h₀ os T m sg tb ti gl s){j:Nat}{o:Obj}{f:Obj→Obj}(e:T.get j=some o)(hf:(f o).isFreed=false):
 Conc kt G ys h₀ os (T.set j f) m sg tb ti gl {s with heap:=s.heap.update (bx sg j) f}:=by
 obtain⟨hj,ho,hk,hy⟩:=D.own j o e
 have hs:Heap.SameBut (bx sg j) s.heap (s.heap.update (bx sg j) f):=Heap.SameBut.update ..
 have key:∀i o',(T.set j f).get i=some o'→(i=j∧o'=f o)∨(i≠j∧T.get i=some o'):=by
  intro i o' e'
  rw[BT.get_set] at e'
  by_cases hi:i=j
  ·rw[if_pos hi,e] at e';cases e';exact .inl ⟨hi,rfl⟩
  ·rw[if_neg hi] at e';exact .inr ⟨hi,e'⟩
 refine⟨by show(s.heap.update _ f).objs.size=_;rw[hs.1,D.size],D.seg,?_,?_,?_,?_,by show _≤(s.heap.update _ f).objs.size;rw[hs.1];exact D.low,D.toks,D.gens,D.os,fun p hp=> ?_,D.tkb⟩
 ·intro i o' e'
  rcases key i o' e' with⟨rfl,rfl⟩|⟨hi,e'⟩
  ·exact⟨hj,Heap.get?_update_self f ho hf,hk,hy⟩
  ·obtain⟨a,b,c,q⟩:=D.own i o' e'
   exact⟨a,(hs.2 _ fun z=>hi (D.inj i j _ _ e' e z)).trans b,c,q⟩
 ·intro i k oi ok ei ek he
  have g:∀i o',(T.set j f).get i=some o'→∃o'',T.get i=some o'':=fun i o' e'=>by
   rcases key i o' e' with⟨rfl,_⟩|⟨_,e'⟩
   ·exact⟨_,e⟩
   ·exact⟨_,e'⟩
  obtain⟨_,e1⟩:=g _ _ ei
  obtain⟨_,e2⟩:=g _ _ ek
  exact D.inj _ _ _ _ e1 e2 he
 ·intro a o' e'
  exact(hs.2 a fun z=>hk o' (z▸e')).trans (D.ktH a o' e')
 ·intro b o' e' q
  refine(hs.2 b fun z=> ?_).trans (D.keep b o' e' q)
  rcases hy with hy|hy
  ·exact q (z▸hy)
  ·have:=Heap.lt_size e';rw[z] at this;exact absurd this (Nat.not_lt.mpr hy)
 ·have hp':=D.gho p hp
  refine⟨(hs.2 _ fun z=>hp'.2 j o e z.symm).trans hp'.1,fun i o' e'=> ?_⟩
  rcases key i o' e' with⟨rfl,_⟩|⟨_,e'⟩
  ·exact hp'.2 _ _ e
  ·exact hp'.2 _ _ e'
theorem Conc.tok(D:Conc kt G ys h₀ os T m sg tb ti gl s):Conc kt G ys h₀ os T m sg tb (ti+1) gl {s with toks:=s.toks+1}:=
 ⟨D.size,D.seg,D.own,D.inj,D.ktH,D.keep,D.low,by show s.toks+1=_;rw[D.toks,Nat.add_assoc],D.gens,D.os,D.gho,D.tkb⟩
theorem Conc.gen(D:Conc kt G ys h₀ os T m sg tb ti gl s)(gl':LG):Conc kt G ys h₀ os T m sg tb ti gl' {s with gens:=⟨gl'⟩}:=
 ⟨D.size,D.seg,D.own,D.inj,D.ktH,D.keep,D.low,D.toks,rfl,D.os,D.gho,D.tkb⟩
theorem Conc.setGen(D:Conc kt G ys h₀ os T m sg tb ti gl s)(g:Nat)(x:GS):Conc kt G ys h₀ os T m sg tb ti (gl.set g x) (s.setGen g x):=by
 have:s.setGen g x={s with gens:=⟨gl.set g x⟩}:=by
  obtain⟨h,gn,dr,tk,o⟩:=s
  have e:gn=⟨gl⟩:=D.gens
  subst e
  exact set_gens h gl dr tk o g x
 rw[this];exact D.gen _
end
noncomputable def xe(c:Code):Prop:=c.isCaller=false
noncomputable def AJ:Frame→Prop
 | .ret _ h _ _ c _ _=>xe c∧h≠some byPass
 | .gen _ _ _ c _=>xe c
noncomputable def dp:GS→Prop
 | .suspended _ _ c _ fs _=>xe c∧∀f∈fs,AJ f
 |_=>True
noncomputable abbrev Mr:Code→Sem Fin:=PySem.W.Fast.tw11892475500146522536 PySem.W.Fast.tw14364793385576792824
theorem A3:Mr=denote table:=by
 rw[table_eq_tree,PySem.W.Fast.te11892475500146522536,PySem.W.Fast.te14364793385576792824]
noncomputable def TF(t:Sem Fin):Bool:=match t with
 | .unsupported _=>true
 |_=>false
theorem zC(a:Args):TF (Mr (.builtin "claim.caller" a))=true:=by kernel_rfl
theorem Ap{c:Code}(h:c.isCaller=true):∃w,denote table c= .unsupported w:=by
 unfold Code.isCaller at h
 split at h
 ·rename_i a
  have z:=zC a
  rw[A3] at z
  cases e:denote table (.builtin "claim.caller" a) with
  |unsupported w=>exact⟨w,rfl⟩
  |_=>rw[e] at z;cases z
 ·cases h
theorem lk{c:Code}(h:xe c):c.weight≤5:=by
 have hf:c.frames≤3:=by
  unfold Code.frames
  split<;>first|omega|(split<;>omega)
 unfold Code.weight
 unfold xe at h
 rw[h]
 simp only[Bool.false_eq_true,if_false]
 split<;>split<;>omega
theorem yP{c:Code}:c.cUnits≤10:=by
 have hf:c.frames≤3:=by
  unfold Code.frames
  split<;>first|omega|(split<;>omega)
 unfold Code.cUnits
 split<;>omega
theorem gi:∀{fs:List Frame},(∀f∈fs,AJ f)→frameCount (fs.map Frame.where_)≤5*fs.length
 |[],_=>by simp[frameCount]
 |f::fs,h=>by
  have ih:=gi (fs:=fs) fun g hg=>h g (List.mem_cons_of_mem _ hg)
  have hc:xe f.where_.1:=by
   have:=h f List.mem_cons_self
   cases f with
   |ret=>exact this.1
   |gen=>exact this
  have:=lk hc
  rw[List.map_cons,show f.where_=(f.where_.1,f.where_.2) from rfl,frameCount_cons,List.length_cons]
  omega
theorem kz:∀{fs:List Frame},unitsOf (fs.map Frame.where_)≤10*fs.length
 |[]=>by simp[unitsOf]
 |f::fs=>by
  have ih:=kz (fs:=fs)
  have:=yP (c:=f.where_.1)
  rw[List.map_cons,show f.where_=(f.where_.1,f.where_.2) from rfl,unitsOf_cons,List.length_cons]
  omega
theorem eF:∀{fs:List Frame}{x:Option Vl},(∀f∈fs,AJ f)→(marksOver fs (none,x)).1=cy fs
 |[],_,_=>rfl
 |f::fs,x,h=>by
  have ih:=eF (fs:=fs) (x:=x) fun g hg=>h g (List.mem_cons_of_mem _ hg)
  cases f with
  |gen g k l c p=>exact ih
  |ret k hd g l c p kp=>
   have hb:=(h _ List.mem_cons_self).2
   show markOver hd (marksOver fs (none,x)).1 (marksOver fs (none,x)).2=_
   rw[markOver_of_ne hb,ih]
   cases hd<;>rfl
structure Below(Γ:Ctx)(dep:Nat)(base:Option (List (Code×Pos))):Prop where
 hd:Γ.handled=none
 fr:frameCount Γ.below≤dep
 un:unitsOf Γ.below≤10*dep
 bs:∀b,base=some b→Γ.below=b
theorem dL{Γ:Ctx}{dep:Nat}:Γ.Below (AG dep)↔Below Γ dep none:=
 ⟨fun h=>⟨h.1,h.2.1,h.2.2.2.2,fun _ e=>nomatch e⟩,fun h=>⟨h.hd,h.fr,fun _ e=>(nomatch e),fun _ e=>(nomatch e),h.un⟩⟩
theorem xJ{Γ:Ctx}{dep:Nat}{b:Option (List (Code×Pos))}(h:Below Γ dep b):Γ.Below (AG dep):=⟨h.hd,h.fr,fun _ e=>(nomatch e),fun _ e=>(nomatch e),h.un⟩
section
variable{C:Cf}{w:Wd}{ys:LA}{h₀:Heap}{os:OS}{R:Re→Ś→Prop}
noncomputable abbrev dw(C:Cf)(w:Wd)(R:Re→Ś→Prop)(Γ:Ctx)(p:Pos)(t:Sem Fin)(fs:List Frame)(s:Ś):Prop:=
 ∃r s',Runs (model C.prog w) Γ p t fs s (.ret r) s'∧R r s'
noncomputable abbrev fS(C:Cf)(ys:LA)(h₀:Heap)(os:OS)(T:BT)(m:Nat)(sg:List (Nat×Nat))(tb ti:Nat)(gl:LG)(xl:LN)(s:Ś):Prop:=Conc C.kt (C.gh xl) ys h₀ os T m sg tb ti gl s
structure wq(C:Cf)(w:Wd)(ys:LA)(h₀:Heap)(os:OS)(R:Re→Ś→Prop):Prop where
 P:C.P=w.params
 Q:∀j,∃b,C.Q j b=w.params
 Q3:C.Q 1 true=w.params∨C.Q4 true=w.params∨C.Q4 false=w.params
 den:C.den=denote table
 bnd:C.bnd=Sem.bind
 ent:enterFrame 0=Sem.stack C.ent
 wak:roomToWake=Sem.stack C.wak
 lim:∀h:Heap,(∀a o,C.kt.get a=some o→h.get? a=some o)→h.NoLimit
 isS:C.isS=isSame
 fac:∀F∈C.fac,F.l=F.r
 fac3:∀F∈C.fac3,F.l=F.r
 fac2:∀F∈C.fac2,∀a b,a≠b→F.l a b=F.r a b
 fct:∀p∈C.fct,p.1≠p.2∧p.1≠0∧p.2≠0
 stp:∀c fs t ora T m sg tb ti gl xl s,bV (C.stp c fs t ora T m sg tb ti gl xl)→fS C ys h₀ os T m sg tb ti gl xl s→xe c→(∀f∈fs,AJ f)→(∀x∈gl,dp x)→
  ∀(Γ:Ctx)(p:Pos),Γ.code=c→Below Γ C.dep C.baseO→dw C w R Γ p t fs s
 fin:∀r ora T m sg tb ti gl xl s,bV (C.fin r ora T m sg tb ti gl xl)→fS C ys h₀ os T m sg tb ti gl xl s→(∀x∈gl,dp x)→R r s
 agn:∀c' ora T m sg tb ti gl xl s,bV (C.agn c' ora T m sg tb ti gl xl)→fS C ys h₀ os T m sg tb ti gl xl s→(∀x∈gl,dp x)→c'.quiet=true→
  codeAny (model C.prog w) (AG C.dep) c' R s
 hook:∀j c' κ T m sg tb ti gl xl s,bV (C.hook j c' κ T m sg tb ti gl xl)→fS C ys h₀ os T m sg tb ti gl xl s→(∀x∈gl,dp x)→
  codeAny (model C.prog w) (AG C.hdp) c' (fun r s'=>∃T' m' sg' tb' ti' gl' xl',bV (κ r T' m' sg' tb' ti' gl' xl')∧fS C ys h₀ os T' m' sg' tb' ti' gl' xl' s'∧∀x∈gl',dp x) s
 turn:∀j c' κ T m sg tb ti gl xl s,bV (C.turn j c' κ T m sg tb ti gl xl)→fS C ys h₀ os T m sg tb ti gl xl s→(∀x∈gl,dp x)→
  (∀c₂ T' m' sg' tb' ti' gl' xl' s',bV (κ c₂ T' m' sg' tb' ti' gl' xl')→fS C ys h₀ os T' m' sg' tb' ti' gl' xl' s'→(∀x∈gl',dp x)→codeAny (model C.prog w) (AG C.dep) c₂ R s')→
  codeAny (model C.prog w) (AG C.dep) c' R s
theorem EC(G:wq C w ys h₀ os R){S:Sam}{T:BT}{tb i j:Nat}{c:Code}{t:Sem Fin}{o:Out}(hb:1617≤tb)(H:bV (Li C S T tb i j c t o)):t=S.J c T (.pure false)∧bV o:=by
 obtain⟨h1,h2,h3,h4,h5,h6⟩:=H
 refine⟨?_,h6⟩
 have hij:i≠j:=by
  cases e:Nat.beq i j with
  |true=>rw[e] at h4;cases h4
  |false=>exact fun h=>by subst h;simp at e
 have hs:(iB (S.l T)==iB (S.r T))=false:=by
  cases e:iB (S.l T)==iB (S.r T) with
  |false=>rfl
  |true=>rw[e] at h3;cases h3
 have key:C.isS (S.l T) (S.r T)= .pure false:=by
  rw[G.isS,h1,h2]
  show isSame.created (iB (S.l T)==iB (S.r T)) _ _=_
  unfold isSame.created
  rw[hs]
  have b:tb+i≠0:=by omega
  have c:tb+j≠0:=by omega
  have a:tb+i≠tb+j:=by omega
  generalize tb+i=x at*
  generalize tb+j=y at*
  have e1:((x==0)||(y==0))=false:=by simp[b,c]
  have e2:(x==y)=false:=by simp[a]
  simp only[e1,e2]
  rfl
 rw[h5,key]
theorem Eu:∀{l:List Fac}(i:Nat),(∀F∈l,F.l=F.r)→(SN l i).l=(SN l i).r
 |[],_,_=>rfl
 |x::r,0,h=>h x List.mem_cons_self
 |x::r,i+1,h=>Eu (l:=r) i fun F hF=>h F (List.mem_cons_of_mem _ hF)
theorem w5(G:wq C w ys h₀ os R){i:Nat}{t:Sem Fin}{T:BT}{sg:List (Nat×Nat)}{xl:LN}{κ:Sem Fin→Out}(H:bV (Jr C i t T sg xl κ)):bV (κ t):=by
 obtain⟨h1,h2⟩:=H
 rw[←Eu i G.fac,←h1] at h2
 exact h2
theorem AR:∀{l:List Fac2}(i:Nat),(∀F∈l,∀a b,a≠b→F.l a b=F.r a b)→∀a b,a≠b→(FC l i).l a b=(FC l i).r a b
 |[],_,_=>fun _ _ _=>rfl
 |x::r,0,h=>h x List.mem_cons_self
 |x::r,i+1,h=>AR (l:=r) i fun F hF=>h F (List.mem_cons_of_mem _ hF)
theorem Gc(G:wq C w ys h₀ os R){j i1 i2:Nat}{t:Sem Fin}{T:BT}{m:Nat}{sg:List (Nat×Nat)}{tb ti:Nat}{gl:LG}{xl:LN}{s:Ś}{κ:Sem Fin→Out}(H:bV (Gg C j i1 i2 t T sg κ))(D:fS C ys h₀ os T m sg tb ti gl xl s):bV (κ t):=by
 unfold Gg at H
 cases e1:T.get i1 with
 |none=>rw[e1] at H;exact False.elim H
 |some o1=>
  rw[e1] at H
  cases e2:T.get i2 with
  |none=>rw[e2] at H;exact False.elim H
  |some o2=>
   rw[e2] at H
   cases e3:Nat.beq i1 i2 with
   |true=>rw[e3] at H;exact False.elim H
   |false=>
    rw[e3] at H
    obtain⟨h1,h2⟩:=H
    have hne:bx sg i1≠bx sg i2:=fun e=>by
     have:=D.inj _ _ _ _ e1 e2 e
     subst this;simp at e3
    rw[←AR j G.fac2 _ _ hne,←h1] at h2
    exact h2
theorem wo:∀{l:List Fac3}(i:Nat),(∀F∈l,F.l=F.r)→(Ac l i).l=(Ac l i).r
 |[],_,_=>rfl
 |x::r,0,h=>h x List.mem_cons_self
 |x::r,i+1,h=>wo (l:=r) i fun F hF=>h F (List.mem_cons_of_mem _ hF)
theorem AH(G:wq C w ys h₀ os R){c:Code}(h:c.isCaller=true):∀n ora p fs T m sg tb ti gl xl,¬bV (bY C n ora c p fs (C.den c) T m sg tb ti gl xl):=by
 intro n ora p fs T m sg tb ti gl xl x
 cases n with
 |zero=>exact x
 |succ n=>
  rw[G.den] at x
  obtain⟨u,e⟩:=Ap h
  rw[e] at x
  exact x
theorem hJ(G:wq C w ys h₀ os R){c:Code} {n ora p fs T m sg tb ti gl xl}(x:bV (bY C n ora c p fs (C.den c) T m sg tb ti gl xl)):xe c:=by
 cases h:c.isCaller with
 |false=>exact h
 |true=>exact absurd x (AH G h n ora p fs T m sg tb ti gl xl)
theorem wR{gl:LG}{g:Nat}{x:GS}(h:∀y∈gl,dp y)(hx:dp x):∀y∈gl.set g x,dp y:=fun y hy=>by
 rcases List.mem_or_eq_of_mem_set hy with h1|rfl
 ·exact h y h1
 ·exact hx
theorem op:∀{fs:List Frame} {pre rest g k c p},splitAtGen fs=some (pre,(g,k,c,p),rest)→∃l,fs=pre++ .gen g k l c p::rest
 |[],_,_,_,_,_,_,e=>nomatch e
 | .gen g k l c p::fs,_,_,_,_,_,_,e=>by
  simp only[splitAtGen,Option.some.injEq,Prod.mk.injEq] at e
  obtain⟨rfl,⟨rfl,rfl,rfl,rfl⟩,rfl⟩:=e
  exact⟨l,rfl⟩
 | .ret k h g l c p kp::fs,pre,rest,g',k',c',p',e=>by
  simp only[splitAtGen] at e
  cases q:splitAtGen fs with
  |none=>rw[q] at e;cases e
  |some x=>
   obtain⟨pre',⟨g'',k'',c'',p''⟩,rest'⟩:=x
   rw[q] at e
   simp only[Option.map_some,Option.some.injEq,Prod.mk.injEq] at e
   obtain⟨rfl,⟨rfl,rfl,rfl,rfl⟩,rfl⟩:=e
   obtain⟨l',rfl⟩:=op q
   exact⟨l',rfl⟩
theorem Rn(Γ:Ctx)(A:Around)(h1:Γ.handled=A.handled)(h2:frameCount Γ.below+Γ.code.weight≤A.depth)(h3:A.frames=none)(h4:A.guards=none)(h5:Γ.units≤A.units):Γ.In A:=
 ⟨h1,h2,fun _ e=>(by rw[h3] at e;cases e),fun _ e=>(by rw[h4] at e;cases e),h5⟩
theorem cm(Γ:Ctx)(fs:List Frame):(Γ.over fs).below=fs.map Frame.where_++Γ.below:=rfl
theorem cQ(Γ:Ctx)(fs:List Frame):(Γ.over fs).code=Γ.code:=rfl
theorem dD(Γ:Ctx)(fs:List Frame):(Γ.over fs).handled=(marksOver fs (Γ.handled,Γ.past)).1:=rfl
theorem L0{α:Type}{M:Model}{Γ:Ctx}{fs:List Frame}{p:Pos}{s:Ś}{Φ:End→Ś→Prop}{m:Sem α}{X:Sem Fin}{A:Around}
 (hin:(Γ.over fs).In A)(hw:wpAny M A m (fun _ s'=>s'=s) (fun _ _=>False) s)
 (hr:∀p',∃e s',Runs M Γ p' X fs s e s'∧Φ e s'):∃e s',Runs M Γ p (m.bind fun _=>X) fs s e s'∧Φ e s':=by
 rw[Sem.bind_eq_wrap]
 refine runs_wrap_of_wp (Q:=fun _ _ s'=>s'=s) (E:=fun _ _ _=>False) (fun _=>X) .raise id id m (hw _ p hin) (fun a p' s' e=> ?_) fun _ _ _ h=>h.elim
 subst e
 exact hr p'
end
section
variable{C:Cf}{w:Wd}{ys:LA}{h₀:Heap}{os:OS}{R:Re→Ś→Prop}
theorem T_{c:Code}{fs:List Frame}(Γ:Ctx)(hc:Γ.code=c)(hb:Below Γ C.dep C.baseO)(ho:xe c)(hf:∀f∈fs,AJ f)(hl:Nat.ble (5*fs.length+C.dep) 900=true):
 (Γ.over fs).In {handled:=(Γ.over fs).handled,depth:=950,frames:=none,guards:=none,units:=(Γ.over fs).units}:=by
 refine Rn _ _ rfl ?_ rfl rfl (Nat.le_refl _)
 rw[cm,cQ,frameCount_append,hc]
 have h1:=gi hf
 have h2:=lk ho
 have h3:=hb.fr
 have h4:=Nat.le_of_ble_eq_true hl
 show _≤950
 omega
theorem GH{M:Model}{Γ:Ctx}{p:Pos}{r:Re}{s s':Ś}{e:End}(h:Runs M Γ p (leafOf r) [] s e s'):e= .ret r∧s'=s:=by
 cases r with
 |ok f=>cases h;exact⟨rfl,rfl⟩
 |error v=>cases h;exact⟨rfl,rfl⟩
theorem dJ(G:wq C w ys h₀ os R){T:BT}{m₀:Nat}{sg:List (Nat×Nat)}{tb ti:Nat}{gl:LG}{xl:LN}{s:Ś}(D:fS C ys h₀ os T m₀ sg tb ti gl xl s)(hg:∀x∈gl,dp x)(P':Pm):
 ∀n m ora c p fs t κ,bV (pre C P' n m ora c p fs t κ T m₀ sg tb ti gl xl)→xe c→(∀f∈fs,AJ f)→∀Γ:Ctx,Γ.code=c→Below Γ C.dep C.baseO→
  ∃ora₁ c₁ p₁ fs₁ t₁,bV (κ ora₁ c₁ p₁ fs₁ t₁ T m₀ sg tb ti gl xl)∧xe c₁∧(∀f∈fs₁,AJ f)∧(P'=w.params→dw C w R (Γ.goto c₁) p₁ t₁ fs₁ s→dw C w R Γ p t fs s)
 |0=>fun _ ora c p fs t κ H ho hf Γ hc hb=>⟨ora,c,p,fs,t,H,ho,hf,fun _ h=>by subst hc;exact h⟩
 |n+1=>by
  intro m ora c p fs t κ H ho hf Γ hc hb
  have IH:=dJ G D hg P' n
  have here:∀{p' t'},dw C w R Γ p' t' fs s→(∀e₁ s₂,Runs (model C.prog w) (Γ.over fs) p' t' [] s e₁ s₂→Runs (model C.prog w) (Γ.over fs) p t [] s e₁ s₂)→dw C w R Γ p t fs s:=
   fun⟨r,s',hr,hR⟩ h=>⟨r,s',Runs.head' h hr,hR⟩
  have stop:bV (κ ora c p fs t T m₀ sg tb ti gl xl)→∃ora₁ c₁ p₁ fs₁ t₁,bV (κ ora₁ c₁ p₁ fs₁ t₁ T m₀ sg tb ti gl xl)∧xe c₁∧(∀f∈fs₁,AJ f)∧(P'=w.params→dw C w R (Γ.goto c₁) p₁ t₁ fs₁ s→dw C w R Γ p t fs s):=
   fun H=>⟨ora,c,p,fs,t,H,ho,hf,fun _ h=>by subst hc;exact h⟩
  have step:∀{ora' p' t'},bV (pre C P' n m ora' c p' fs t' κ T m₀ sg tb ti gl xl)→(∀e₁ s₂,Runs (model C.prog w) (Γ.over fs) p' t' [] s e₁ s₂→Runs (model C.prog w) (Γ.over fs) p t [] s e₁ s₂)→
   ∃ora₁ c₁ p₁ fs₁ t₁,bV (κ ora₁ c₁ p₁ fs₁ t₁ T m₀ sg tb ti gl xl)∧xe c₁∧(∀f∈fs₁,AJ f)∧(P'=w.params→dw C w R (Γ.goto c₁) p₁ t₁ fs₁ s→dw C w R Γ p t fs s):=fun H h=>by
   obtain⟨o1,c1,p1,f1,t1,K,a,b,r⟩:=IH _ _ _ _ _ _ _ H ho hf Γ hc hb
   exact⟨o1,c1,p1,f1,t1,K,a,b,fun e x=>here (r e x) h⟩
  cases t with
  |rule tag k=>exact step H fun _ _ y=> .rule y
  |«at»q k=>exact step H fun _ _ y=> .at y
  |point l k=>exact step H fun _ _ y=> .point y
  |ask k=>
   obtain⟨o1,c1,p1,f1,t1,K,a,b,r⟩:=IH _ _ _ _ _ _ _ H ho hf Γ hc hb
   refine⟨o1,c1,p1,f1,t1,K,a,b,fun e x=>here (r e x) fun _ _ y=> .ask ?_⟩
   subst e;exact y
  |load a q k=>
   cases ora with
   |nil=>exact False.elim H
   |cons o ora'=>
    cases o with
    |zero=>
     cases e:C.kt.get a with
     |some ob=>
      simp only[pre,e] at H
      exact step H fun _ _ y=> .load (D.ktH _ _ e) y
     |none=>simp only[pre,e] at H;exact False.elim H
    |succ j=>
     simp only[pre] at H
     split at H
     ·rename_i ob e
      obtain⟨ea,H⟩:=H
      subst ea
      exact step H fun _ _ y=> .load (D.own _ _ e).2.1 y
     ·exact False.elim H
  |handled own k=>
   cases own with
   |true=>exact False.elim H
   |false=>
    simp only[pre] at H
    have e:cy fs=(Γ.over fs).handled:=by rw[dD,hb.hd,eF hf]
    rw[e] at H
    exact step H fun _ _ y=> .handled y
  |stack k=>
   cases m with
   |zero=>exact stop H
   |succ m=>
    cases ora with
    |nil=>exact False.elim H
    |cons o ora'=>
     cases o with
     |zero=>
      simp only[pre] at H
      have z:=H Γ.below
      subst hc
      exact step (p':=p) z fun _ _ y=> .stack y
     |succ o=>exact False.elim H
  |call c' hd g l k=>
   cases m with
   |zero=>exact stop H
   |succ m=>
    cases hm:okMark hd with
    |false=>simp only[pre,hm] at H;exact False.elim H
    |true=>
     cases hcl:c'.isCaller with
     |true=>simp only[pre,hm,hcl] at H;exact False.elim H
     |false=>
      simp only[pre,hm,hcl] at H
      have hnb:hd≠some byPass:=by
       intro e;subst e;simp[okMark] at hm
      obtain⟨o1,c1,p1,f1,t1,K,a,b,r⟩:=IH _ _ _ _ _ _ _ H hcl (fun f h=>by
       rcases List.mem_cons.mp h with rfl|h
       ·exact⟨ho,hnb⟩
       ·exact hf f h) (Γ.goto c') rfl ⟨hb.hd,hb.fr,hb.un,hb.bs⟩
      refine⟨o1,c1,p1,f1,t1,K,a,b,fun e x=> ?_⟩
      obtain⟨r',s',hr,hR⟩:=r e x
      rw[G.den] at hr
      subst hc
      exact⟨r',s',runs_call_seg hr,hR⟩
  |pure fin=>
   cases m with
   |zero=>exact stop H
   |succ m=>
    cases m with
    |zero=>exact stop H
    |succ m=>
     cases fin with
     |again c'=>
      cases hq:c'.quiet with
      |false=>simp only[pre,hq] at H;exact False.elim H
      |true=>
       cases hcl:c'.isCaller with
       |true=>simp only[pre,hq,hcl] at H;exact False.elim H
       |false=>
        simp only[pre,hq,hcl] at H
        obtain⟨o1,c1,p1,f1,t1,K,a,b,r⟩:=IH _ _ _ _ _ _ _ H hcl hf (Γ.goto c') rfl ⟨hb.hd,hb.fr,hb.un,hb.bs⟩
        refine⟨o1,c1,p1,f1,t1,K,a,b,fun e x=> ?_⟩
        obtain⟨r',s',hr,hR⟩:=r e x
        rw[G.den] at hr
        exact⟨r',s',Runs.head (c₁:=c') (fun _ _ y=> .again hq y) hr,hR⟩
     |done f=>
      cases fs with
      |nil=>exact False.elim H
      |cons F fs=>
       have hf':∀f∈fs,AJ f:=fun f h=>hf f (List.mem_cons_of_mem _ h)
       have hF:=hf F List.mem_cons_self
       cases F with
       |gen=>exact False.elim H
       |ret k h g l c₁ p₁ kp=>
        obtain⟨o1,c1,p1,f1,t1,K,a,b,r⟩:=IH _ _ _ _ _ _ _ H hF.1 hf' (Γ.goto c₁) rfl ⟨hb.hd,hb.fr,hb.un,hb.bs⟩
        refine⟨o1,c1,p1,f1,t1,K,a,b,fun e x=> ?_⟩
        obtain⟨r',s',hr,hR⟩:=r e x
        exact⟨r',s',Runs.pop (.ok f) hr,hR⟩
  |_=>exact stop H
theorem mD(G:wq C w ys h₀ os R):∀n ora c p fs t T m sg tb ti gl xl,bV (bY C n ora c p fs t T m sg tb ti gl xl)→∀s,fS C ys h₀ os T m sg tb ti gl xl s→
 xe c→(∀f∈fs,AJ f)→(∀x∈gl,dp x)→∀Γ:Ctx,Γ.code=c→Below Γ C.dep C.baseO→dw C w R Γ p t fs s
 |0=>fun _ _ _ _ _ _ _ _ _ _ _ _ x=>x.elim
 |n+1=>by
  intro ora c p fs t T m sg tb ti gl xl H s D ho hf hg Γ hc hb
  have IH:=mD G n
  have here:∀{p' t' s'},dw C w R Γ p' t' fs s'→(∀e₁ s₂,Runs (model C.prog w) (Γ.over fs) p' t' [] s' e₁ s₂→Runs (model C.prog w) (Γ.over fs) p t [] s e₁ s₂)→dw C w R Γ p t fs s:=
   fun⟨r,s',hr,hR⟩ h=>⟨r,s',Runs.head' h hr,hR⟩
  have ret':∀(r:Re) {ora T m sg tb ti gl xl s},fS C ys h₀ os T m sg tb ti gl xl s→(∀x∈gl,dp x)→bV (DB C (bY C n) r ora fs T m sg tb ti gl xl)→dw C w R Γ p (leafOf r) fs s:=by
   intro r ora T m sg tb ti gl xl s D hg H
   cases fs with
   |nil=>exact⟨r,s,Runs.leaf r,G.fin _ _ _ _ _ _ _ _ _ _ H D hg⟩
   |cons F fs=>
    have hf':∀f∈fs,AJ f:=fun f h=>hf f (List.mem_cons_of_mem _ h)
    have hF:=hf F List.mem_cons_self
    cases F with
    |ret k h g l c₁ p₁ kp=>
     obtain⟨r',s',hr,hR⟩:=IH _ _ _ _ _ _ _ _ _ _ _ _ H s D hF.1 hf' hg (Γ.goto c₁) rfl ⟨hb.hd,hb.fr,hb.un,hb.bs⟩
     exact⟨r',s',Runs.pop r hr,hR⟩
    |gen g k l c₁ p₁=>
     obtain⟨r',s',hr,hR⟩:=IH _ _ _ _ _ _ _ _ _ _ _ _ H _ (D.setGen g .finished) hF hf' (wR hg trivial) (Γ.goto c₁) rfl ⟨hb.hd,hb.fr,hb.un,hb.bs⟩
     exact⟨r',s',.segGen (Runs.leaf r) hr,hR⟩
  have ret:∀r:Re,t=leafOf r→bV (DB C (bY C n) r ora fs T m sg tb ti gl xl)→dw C w R Γ p t fs s:=by
   rintro r rfl H
   exact ret' r D hg H
  have inn:∀{c'},cy fs=none→Nat.ble (5*fs.length+5+C.dep) C.hdp=true→((Γ.over fs).goto c').Below (AG C.hdp):=by
   intro c' hh hl
   refine dL.mpr ⟨?_,?_,?_,fun _ e=>nomatch e⟩
   ·show(Γ.over fs).handled=none
    rw[dD,hb.hd,eF hf,hh]
   ·show frameCount (Γ.over fs).below≤_
    rw[cm,frameCount_append]
    have h1:=gi hf
    have h3:=hb.fr
    have h4:=Nat.le_of_ble_eq_true hl
    omega
   ·show unitsOf (Γ.over fs).below≤_
    have h0:unitsOf (fs.map Frame.where_++Γ.below)=unitsOf (fs.map Frame.where_)+unitsOf Γ.below:=by simp[unitsOf]
    rw[cm,h0]
    have h1:=kz (fs:=fs)
    have h3:=hb.un
    have h4:=Nat.le_of_ble_eq_true hl
    omega
  cases t with
  |pure fin=>
   cases fin with
   |done f=>exact ret (.ok f) rfl H
   |again c'=>
    cases hq:c'.quiet with
    |false=>simp only[bY,hq] at H;exact False.elim H
    |true=>
     simp only[bY,hq] at H
     cases ora with
     |nil=>exact False.elim H
     |cons o ora'=>
      cases o with
      |zero=>
       have ho':=hJ G H
       obtain⟨r,s',hr,hR⟩:=IH _ _ _ _ _ _ _ _ _ _ _ _ H s D ho' hf hg (Γ.goto c') rfl ⟨hb.hd,hb.fr,hb.un,hb.bs⟩
       rw[G.den] at hr
       exact⟨r,s',Runs.head (c₁:=c') (fun _ _ y=> .again hq y) hr,hR⟩
      |succ o=>
       cases o with
       |zero=>
        cases fs with
        |cons F fs=>exact False.elim H
        |nil=>
         obtain⟨r,s',hr,hR⟩:=G.agn _ _ _ _ _ _ _ _ _ _ H D hg hq (Γ.goto c') p rfl (xJ (b:=C.baseO) (Below.mk hb.hd hb.fr hb.un hb.bs))
         exact⟨r,s',.again hq hr,hR⟩
       |succ o=>
        cases hev:Nat.beq (o%2) 0 with
        |true=>
         cases hh:cy fs with
         |some v=>simp only[hev,hh] at H;exact False.elim H
         |none=>
          cases hl:Nat.ble (5*fs.length+5+C.dep) C.hdp with
          |false=>simp only[hev,hh,hl] at H;exact False.elim H
          |true=>
           simp only[hev,hh,hl] at H
           have z:=G.hook _ _ _ _ _ _ _ _ _ _ _ H D hg
           obtain⟨r,s',hr,T',m',sg',tb',ti',gl',xl',H',D',hg'⟩:=z ((Γ.over fs).goto c') p rfl (inn hh hl)
           obtain⟨r',s'',hr',hR⟩:=ret' r D' hg' H'
           exact⟨r',s'',Runs.head' (fun e₁ s₂ y=>by
            obtain⟨rfl,rfl⟩:=GH y
            exact .again hq hr) hr',hR⟩
        |false=>
         cases fs with
         |cons F fs=>simp only[hev] at H;exact False.elim H
         |nil=>
          cases hB:C.baseO with
          |some b=>simp only[hev,hB] at H;exact False.elim H
          |none=>
           simp only[hev,hB] at H
           have z:=G.turn _ _ _ _ _ _ _ _ _ _ _ H D hg fun c₂ T' m' sg' tb' ti' gl' xl' s' H' D' hg' Γ' p' hc' hb'=>by
            have ho':=hJ G (H' p')
            obtain⟨r,s'',hr,hR⟩:=IH _ _ _ _ _ _ _ _ _ _ _ _ (H' p') s' D' ho' hf hg' Γ' hc' (by rw[hB];exact dL.mp hb')
            rw[G.den] at hr
            subst hc'
            exact⟨r,s'',hr,hR⟩
           obtain⟨r,s',hr,hR⟩:=z (Γ.goto c') p rfl (xJ (b:=C.baseO) (Below.mk hb.hd hb.fr hb.un hb.bs))
           exact⟨r,s',.again hq hr,hR⟩
  |raise e=>exact ret (.error e) rfl H
  |rule tag k=>exact here (IH _ _ _ _ _ _ _ _ _ _ _ _ H s D ho hf hg Γ hc hb) fun _ _ y=> .rule y
  |«at»q k=>
   cases ora with
   |nil=>exact here (IH _ _ _ _ _ _ _ _ _ _ _ _ H s D ho hf hg Γ hc hb) fun _ _ y=> .at y
   |cons o ora'=>
    cases e:Nat.beq o 999983 with
    |false=>
     simp only[bY,e] at H
     exact here (IH _ _ _ _ _ _ _ _ _ _ _ _ H s D ho hf hg Γ hc hb) fun _ _ y=> .at y
    |true=>
     simp only[bY,e] at H
     cases ora' with
     |nil=>exact False.elim H
     |cons i ora₂=>
      cases ora₂ with
      |nil=>exact False.elim H
      |cons i1 ora₃=>
       cases ora₃ with
       |nil=>exact False.elim H
       |cons i2 ora''=>
        obtain⟨ht,H⟩:=EC G D.tkb H
        exact here (IH _ _ _ _ _ _ _ _ _ _ _ _ H s D ho hf hg Γ hc hb) fun _ _ y=> .at (by rw[ht];exact y)
  |point l k=>exact here (IH _ _ _ _ _ _ _ _ _ _ _ _ H s D ho hf hg Γ hc hb) fun _ _ y=> .point y
  |ask k=>
   cases ora with
   |nil=>exact False.elim H
   |cons o ora'=>
    cases o with
    |zero=>
     simp only[bY,G.P] at H
     exact here (IH _ _ _ _ _ _ _ _ _ _ _ _ H s D ho hf hg Γ hc hb) fun _ _ y=> .ask y
    |succ j=>
     cases ej:Nat.beq j 1 with
     |false=>
      simp only[bY,ej] at H
      obtain⟨o1,c1,p1,f1,t1,H1,a1,b1,r1⟩:=dJ G D hg _ _ _ _ _ _ _ _ _ H ho hf Γ hc hb
      obtain⟨o0,c0,p0,f0,t0,H0,a0,b0,r0⟩:=dJ G D hg _ _ _ _ _ _ _ _ _ H1 ho hf Γ hc hb
      obtain⟨e1,e2,e3,H2⟩:=H0
      subst e1 e2 e3
      have z:=fun q=>IH _ _ _ _ _ _ _ _ _ _ _ _ (H2 q) s D a0 b0 hg (Γ.goto c1) rfl ⟨hb.hd,hb.fr,hb.un,hb.bs⟩
      obtain⟨b,hQ⟩:=G.Q j
      cases b with
      |true=>exact here (r1 hQ (z p1)) fun _ _ y=> .ask (by rw[hQ] at y;exact y)
      |false=>exact here (r0 hQ (z p0)) fun _ _ y=> .ask (by rw[hQ] at y;exact y)
     |true=>
      simp only[bY,ej] at H
      obtain⟨o1,c1,p1,f1,t1,H1,a1,b1,r1⟩:=dJ G D hg _ _ _ _ _ _ _ _ _ H ho hf Γ hc hb
      obtain⟨o2,c2,p2,f2,t2,H2,a2,b2,r2⟩:=dJ G D hg _ _ _ _ _ _ _ _ _ H1 ho hf Γ hc hb
      obtain⟨o0,c0,p0,f0,t0,H0,a0,b0,r0⟩:=dJ G D hg _ _ _ _ _ _ _ _ _ H2 ho hf Γ hc hb
      obtain⟨e1,e2,e3,e4,e5,e6,H3⟩:=H0
      subst e1 e2 e3 e4 e5 e6
      have z:=fun q=>IH _ _ _ _ _ _ _ _ _ _ _ _ (H3 q) s D a0 b0 hg (Γ.goto _) rfl ⟨hb.hd,hb.fr,hb.un,hb.bs⟩
      rcases G.Q3 with hQ|hQ|hQ
      ·exact here (r1 hQ (z p1)) fun _ _ y=> .ask (by rw[hQ] at y;exact y)
      ·exact here (r2 hQ (z p2)) fun _ _ y=> .ask (by rw[hQ] at y;exact y)
      ·exact here (r0 hQ (z p0)) fun _ _ y=> .ask (by rw[hQ] at y;exact y)
  |load a q k=>
   cases ora with
   |nil=>exact False.elim H
   |cons o ora'=>
    cases e9:Nat.ble 999970 o with
    |true=>
     simp only[bY,e9] at H
     cases ora' with
     |nil=>exact False.elim H
     |cons j ora₂=>
      cases e8:Nat.beq o 999979 with
      |true=>
       simp only[e8] at H
       split at H
       ·rename_i ob e
        obtain⟨ea,H⟩:=H
        subst ea
        have z:=G.stp _ _ _ _ _ _ _ _ _ _ _ _ H D ho hf hg Γ p hc hb
        exact here z fun _ _ y=> .load (D.own _ _ e).2.1 y
       ·exact False.elim H
      |false=>
       cases e6:Nat.beq o 999975 with
       |true=>
        simp only[e8,e6] at H
        cases ora₂ with
        |nil=>exact False.elim H
        |cons i1 ora₃=>
         cases ora₃ with
         |nil=>exact False.elim H
         |cons i2 ora₄=>
          cases ora₄ with
          |nil=>exact False.elim H
          |cons o₂ ora''=>
           cases o₂ with
           |zero=>exact False.elim H
           |succ i=>
            simp only at H
            split at H
            ·rename_i ob e
             obtain⟨ea,H⟩:=H
             subst ea
             have H:=Gc G H D
             exact here (IH _ _ _ _ _ _ _ _ _ _ _ _ H s D ho hf hg Γ hc hb) fun _ _ y=> .load (D.own _ _ e).2.1 y
            ·exact False.elim H
       |false=>
        simp only[e8,e6] at H
        cases ora₂ with
        |nil=>exact False.elim H
        |cons o₂ ora''=>
         cases o₂ with
         |zero=>
          cases e:C.kt.get a with
          |some ob=>
           simp only[e] at H
           have H:=w5 G H
           exact here (IH _ _ _ _ _ _ _ _ _ _ _ _ H s D ho hf hg Γ hc hb) fun _ _ y=> .load (D.ktH _ _ e) y
          |none=>simp only[e] at H;exact False.elim H
         |succ i=>
          simp only at H
          split at H
          ·rename_i ob e
           obtain⟨ea,H⟩:=H
           subst ea
           have H:=w5 G H
           exact here (IH _ _ _ _ _ _ _ _ _ _ _ _ H s D ho hf hg Γ hc hb) fun _ _ y=> .load (D.own _ _ e).2.1 y
          ·exact False.elim H
    |false=>
     cases o with
     |zero=>
      cases e:C.kt.get a with
      |some ob=>
       simp only[bY,e9,e] at H
       exact here (IH _ _ _ _ _ _ _ _ _ _ _ _ H s D ho hf hg Γ hc hb) fun _ _ y=> .load (D.ktH _ _ e) y
      |none=>simp only[bY,e9,e] at H;exact False.elim H
     |succ j=>
      simp only[bY,e9] at H
      split at H
      ·rename_i ob e
       obtain⟨ea,H⟩:=H
       subst ea
       exact here (IH _ _ _ _ _ _ _ _ _ _ _ _ H s D ho hf hg Γ hc hb) fun _ _ y=> .load (D.own _ _ e).2.1 y
      ·exact False.elim H
  |loadIfAlive a k=>
   cases ora with
   |nil=>exact False.elim H
   |cons o ora'=>
    cases o with
    |zero=>
     cases e:C.kt.get a with
     |some ob=>
      simp only[bY,e] at H
      have z:=IH _ _ _ _ _ _ _ _ _ _ _ _ H s D ho hf hg Γ hc hb
      rw[←D.ktH _ _ e] at z
      exact here z fun _ _ y=> .loadIfAlive y
     |none=>simp only[bY,e] at H;exact False.elim H
    |succ j=>
     simp only[bY] at H
     split at H
     ·rename_i ob e
      obtain⟨ea,H⟩:=H
      subst ea
      have z:=IH _ _ _ _ _ _ _ _ _ _ _ _ H s D ho hf hg Γ hc hb
      rw[←(D.own _ _ e).2.1] at z
      exact here z fun _ _ y=> .loadIfAlive y
     ·exact False.elim H
  |update a q f k=>
   cases ora with
   |nil=>exact False.elim H
   |cons o ora'=>
    cases o with
    |zero=>exact False.elim H
    |succ j=>
     simp only[bY] at H
     split at H
     ·rename_i ob e
      split at H
      ·exact False.elim H
      ·rename_i hfr
       obtain⟨ea,H⟩:=H
       subst ea
       have z:=IH _ _ _ _ _ _ _ _ _ _ _ _ H _ (D.update e hfr) ho hf hg Γ hc hb
       exact here z fun _ _ y=> .update (by rw[(D.own _ _ e).2.1];rfl) y
     ·exact False.elim H
  |alloc ob k=>
   cases hfr:ob.isFreed with
   |true=>simp only[bY,hfr] at H;exact False.elim H
   |false=>
    cases e:(T.ins m ob).get m with
    |some ob'=>
     simp only[bY,hfr,e] at H
     have D':=D.alloc hfr (by rw[e];rfl)
     have z:=IH _ _ _ _ _ _ _ _ _ _ _ _ H _ D' ho hf hg Γ hc hb
     rw[←D.size] at z
     exact here z fun _ _ y=> .alloc y
    |none=>simp only[bY,hfr,e] at H;exact False.elim H
  |fresh k=>
   have z:=IH _ _ _ _ _ _ _ _ _ _ _ _ H _ D.tok ho hf hg Γ hc hb
   rw[←D.toks] at z
   exact here z fun _ _ y=> .fresh y
  |handled own k=>
   cases own with
   |true=>exact False.elim H
   |false=>
    simp only[bY] at H
    have z:=IH _ _ _ _ _ _ _ _ _ _ _ _ H s D ho hf hg Γ hc hb
    have e:cy fs=(Γ.over fs).handled:=by rw[dD,hb.hd,eF hf]
    rw[e] at z
    exact here z fun _ _ y=> .handled y
  |stack k=>
   have tail:∀(ent:List (Code×Pos)→Sem Unit)(m₀:Sem Unit),m₀=Sem.stack ent→Nat.ble (5*fs.length+C.dep) 900=true→
    (∀A:Around,A.depth<recursionLimit→wpAny (model C.prog w) A m₀ (fun _ s'=>s'=s) (fun _ _=>False) s)→
    ∀ora',((∀l,k l=C.bnd (ent l) fun _=>n_ k C.kt)∧∀q,bV (bY C n ora' c q fs (n_ k C.kt) T m sg tb ti gl xl))→dw C w R Γ p (.stack k) fs s:=by
    intro ent m₀ he hl hw ora' H
    obtain⟨H1,H2⟩:=H
    have e:Sem.stack k=m₀.bind fun _=>n_ k C.kt:=by
     rw[he]
     show Sem.stack k=Sem.stack fun x=>(ent x).bind fun _=>n_ k C.kt
     congr 1
     funext l
     rw[H1 l,G.bnd]
    rw[e]
    obtain⟨e',s',hr,hR⟩:=L0 (Φ:=fun e s'=>∃r,e= .ret r∧R r s') (p:=p) (T_ Γ hc hb ho hf hl) (hw _ (by show 950<recursionLimit;decide)) fun p'=>by
     obtain⟨r,s',hr,hR⟩:=IH _ _ _ _ _ _ _ _ _ _ _ _ (H2 p') s D ho hf hg Γ hc hb
     exact⟨_,s',hr,r,rfl,hR⟩
    obtain⟨r,rfl,hR⟩:=hR
    exact⟨r,s',hr,hR⟩
   cases ora with
   |nil=>exact False.elim H
   |cons o ora'=>
    rcases o with _|_|_|_|o
    ·simp only[bY] at H
     have z:=IH _ _ _ _ _ _ _ _ _ _ _ _ (H Γ.below) s D ho hf hg Γ hc hb
     rw[←hc,←cm,←cQ Γ fs] at z
     exact here z fun _ _ y=> .stack y
    ·cases hl:Nat.ble (5*fs.length+C.dep) 900 with
     |true=>
      simp only[bY,hl] at H
      exact tail C.ent _ G.ent hl (fun A hA=>wpAny_enterFrame (G.lim _ D.ktH) hA rfl) _ H
     |false=>simp only[bY,hl] at H;exact False.elim H
    ·cases hl:Nat.ble (5*fs.length+C.dep) 900 with
     |true=>
      simp only[bY,hl] at H
      exact tail C.wak _ G.wak hl (fun A hA=>wpAny_roomToWake (G.lim _ D.ktH) hA rfl) _ H
     |false=>simp only[bY,hl] at H;exact False.elim H
    ·cases hB:C.baseO with
     |none=>simp only[bY,hB] at H;exact False.elim H
     |some b=>
      simp only[bY,hB] at H
      have z:=IH _ _ _ _ _ _ _ _ _ _ _ _ H s D ho hf hg Γ hc hb
      rw[←hb.bs b hB,←hc,←cm,←cQ Γ fs] at z
      exact here z fun _ _ y=> .stack y
    ·cases ora' with
     |nil=>exact False.elim H
     |cons i ora''=>
      cases hB:C.baseO with
      |none=>
       simp only[bY,hB] at H
       obtain⟨h1,H2⟩:=H Γ.below
       rw[←wo i G.fac3,←h1] at H2
       have z:=IH _ _ _ _ _ _ _ _ _ _ _ _ H2 s D ho hf hg Γ hc hb
       rw[←hc,←cm,←cQ Γ fs] at z
       exact here z fun _ _ y=> .stack y
      |some b=>
       simp only[bY,hB] at H
       obtain⟨h1,H2⟩:=H
       rw[←wo i G.fac3,←h1] at H2
       have z:=IH _ _ _ _ _ _ _ _ _ _ _ _ H2 s D ho hf hg Γ hc hb
       rw[←hb.bs b hB,←hc,←cm,←cQ Γ fs] at z
       exact here z fun _ _ y=> .stack y
  |call c' hd g l k=>
   cases ora with
   |nil=>exact False.elim H
   |cons o ora'=>
    cases o with
    |zero=>
     cases hm:okMark hd with
     |false=>simp only[bY,hm] at H;exact False.elim H
     |true=>
      simp only[bY,hm] at H
      have hnb:hd≠some byPass:=by
       intro e;subst e;simp[okMark] at hm
      have ho':=hJ G H
      obtain⟨r,s',hr,hR⟩:=IH _ _ _ _ _ _ _ _ _ _ _ _ H s D ho' (fun f h=>by
       rcases List.mem_cons.mp h with rfl|h
       ·exact⟨ho,hnb⟩
       ·exact hf f h) hg (Γ.goto c') rfl ⟨hb.hd,hb.fr,hb.un,hb.bs⟩
      rw[G.den] at hr
      subst hc
      exact⟨r,s',runs_call_seg hr,hR⟩
    |succ j=>
     cases e7:Nat.beq j 999970 with
     |true=>
      simp only[bY,e7] at H
      cases ora' with
      |nil=>exact False.elim H
      |cons i ora''=>
       cases hm:okMark hd with
       |false=>simp only[hm] at H;exact False.elim H
       |true=>
        simp only[hm] at H
        have H:=w5 G H
        have hnb:hd≠some byPass:=by
         intro e;subst e;simp[okMark] at hm
        have ho':=hJ G H
        obtain⟨r,s',hr,hR⟩:=IH _ _ _ _ _ _ _ _ _ _ _ _ H s D ho' (fun f h=>by
         rcases List.mem_cons.mp h with rfl|h
         ·exact⟨ho,hnb⟩
         ·exact hf f h) hg (Γ.goto c') rfl ⟨hb.hd,hb.fr,hb.un,hb.bs⟩
        rw[G.den] at hr
        subst hc
        exact⟨r,s',runs_call_seg hr,hR⟩
     |false=>
      cases hd with
      |some v=>simp only[bY,e7] at H;exact False.elim H
      |none=>
       cases hh:cy fs with
       |some v=>simp only[bY,e7,hh] at H;exact False.elim H
       |none=>
        cases hl:Nat.ble (5*fs.length+5+C.dep) C.hdp with
        |false=>simp only[bY,e7,hh,hl] at H;exact False.elim H
        |true=>
         simp only[bY,e7,hh,hl] at H
         have z:=G.hook _ _ _ _ _ _ _ _ _ _ _ H D hg
         have hin:((Γ.over fs).enter c' none p).Below (AG C.hdp):=by
          refine dL.mpr ⟨?_,?_,?_,fun _ e=>nomatch e⟩
          ·show markOver none (Γ.over fs).handled (Γ.over fs).past=none
           rw[dD,hb.hd,eF hf,hh];rfl
          ·show frameCount (((Γ.over fs).code,p)::(Γ.over fs).below)≤_
           rw[frameCount_cons,cm,cQ,frameCount_append,hc]
           have h1:=gi hf
           have h2:=lk ho
           have h3:=hb.fr
           have h4:=Nat.le_of_ble_eq_true hl
           omega
          ·show unitsOf (((Γ.over fs).code,p)::(Γ.over fs).below)≤_
           have h0:unitsOf (fs.map Frame.where_++Γ.below)=unitsOf (fs.map Frame.where_)+unitsOf Γ.below:=by simp[unitsOf]
           rw[unitsOf_cons,cm,cQ,h0]
           have h1:=kz (fs:=fs)
           have h2:=yP (c:=Γ.code)
           have h3:=hb.un
           have h4:=Nat.le_of_ble_eq_true hl
           omega
         obtain⟨r,s',hr,T',m',sg',tb',ti',gl',xl',H',D',hg'⟩:=z ((Γ.over fs).enter c' none p) p rfl hin
         obtain⟨r',s'',hr',hR⟩:=IH _ _ _ _ _ _ _ _ _ _ _ _ H' s' D' ho hf hg' Γ hc hb
         exact⟨r',s'',Runs.head' (fun _ _ y=> .call hr y) hr',hR⟩
  |newGen c' k=>
   simp only[bY] at H
   have hs:s.gens=⟨gl⟩:=D.gens
   have z:=IH _ _ _ _ _ _ _ _ _ _ _ _ H _ (D.gen _) ho hf (fun x hx=>by
    rcases List.mem_append.mp hx with hx|hx
    ·exact hg x hx
    ·rw[List.mem_singleton.mp hx];trivial) Γ hc hb
   have e:s.gens.push (.fresh c')=⟨gl++ [.fresh c']⟩:=by rw[hs];exact push_gens gl _
   have e2:s.gens.size=gl.length:=by rw[hs];rfl
   refine here z fun _ _ y=> ?_
   rw[←e,←e2] at y
   exact .newGen y
  |genState g k=>
   simp only[bY] at H
   split at H
   ·rename_i gs e
    have hs:s.gens=⟨gl⟩:=D.gens
    exact here (IH _ _ _ _ _ _ _ _ _ _ _ _ H s D ho hf hg Γ hc hb) fun _ _ y=> .genState (by rw[hs,get_gens];exact e) y
   ·exact False.elim H
  |resume g r l k=>
   simp only[bY] at H
   split at H
   ·rename_i gs e
    have hs:s.gens=⟨gl⟩:=D.gens
    have hge:s.gens[g]? =some gs:=by rw[hs,get_gens];exact e
    have hgs:=hg gs (List.mem_of_getElem? e)
    cases gs with
    |fresh c₀=>
     cases r with
     |throw x=>exact False.elim H
     |send v=>
      cases v with
      |none=>
       have ho':=hJ G H
       obtain⟨r,s',hr,hR⟩:=IH _ _ _ _ _ _ _ _ _ _ _ _ H _ (D.setGen g .running) ho' (fun f h=>by
        rcases List.mem_cons.mp h with rfl|h
        ·exact ho
        ·exact hf f h) (wR hg trivial) (Γ.goto c₀) rfl ⟨hb.hd,hb.fr,hb.un,hb.bs⟩
       obtain⟨e₁,s₂,h₁,hq,h₂⟩:=Runs.splitGen hr [] _ _ _ _ _ _ rfl
       rw[G.den] at h₁
       subst hc
       exact⟨r,s',Runs.head (c₁:=Γ.code) (fun _ _ hk=> .resumeFresh hge h₁ hq hk) h₂,hR⟩
      |_=>exact False.elim H
    |suspended k₀ l₀ c₀ p₀ fs₀ cl=>
     obtain⟨r',s',hr,hR⟩:=IH _ _ _ _ _ _ _ _ _ _ _ _ H _ (D.setGen g .running) hgs.1 (fun f h=>by
      rcases List.mem_append.mp h with h|h
      ·exact hgs.2 f h
      ·rcases List.mem_cons.mp h with rfl|h
       ·exact ho
       ·exact hf f h) (wR hg trivial) (Γ.goto c₀) rfl ⟨hb.hd,hb.fr,hb.un,hb.bs⟩
     obtain⟨e₁,s₂,h₁,hq,h₂⟩:=Runs.splitGen hr fs₀ _ _ _ _ _ _ rfl
     subst hc
     exact⟨r',s',Runs.head (c₁:=Γ.code) (fun _ _ hk=> .resumeSuspended hge h₁ hq hk) h₂,hR⟩
    |running=>exact False.elim H
    |finished=>exact False.elim H
   ·exact False.elim H
  |yield v gd l k=>
   cases gd with
   |true=>exact False.elim H
   |false=>
    cases e:splitAtGen fs with
    |none=>simp only[bY,e] at H;exact False.elim H
    |some x=>
     obtain⟨pre,⟨g,kg,c₁,p₁⟩,rest⟩:=x
     cases hgd:pre.any Frame.guarded with
     |true=>simp only[bY,e,hgd] at H;exact False.elim H
     |false=>
      simp only[bY,e,hgd] at H
      obtain⟨l',hfs⟩:=op e
      have T_:(∀f∈pre,AJ f)∧xe c₁∧∀f∈rest,AJ f:=by
       rw[hfs] at hf
       refine⟨fun f h=>hf f (List.mem_append_left _ h),hf (.gen g kg l' c₁ p₁) (List.mem_append_right _ List.mem_cons_self),fun f h=>hf f (List.mem_append_right _ (List.mem_cons_of_mem _ h))⟩
      have hst:dp (.suspended k l c p pre false):=⟨ho,T_.1⟩
      obtain⟨r,s',hr,hR⟩:=IH _ _ _ _ _ _ _ _ _ _ _ _ H _ (D.setGen g _) T_.2.1 T_.2.2 (wR hg hst) (Γ.goto c₁) rfl ⟨hb.hd,hb.fr,hb.un,hb.bs⟩
      subst hc
      cases fs with
      |nil=>cases e
      |cons F fs=>
       refine⟨r,s',.segSuspGen (fs₀:=[]) e .yield ?_ ?_,hR⟩
       ·simp[End.quiet,hgd]
       ·have:(End.susp v false l k (Γ.over (F::fs)).code p ([]++pre)).genState= .suspended k l Γ.code p pre false:=by
         simp[End.genState,hgd,cQ]
        rw[this];exact hr
  |unsupported=>exact False.elim H
  |finish=>exact False.elim H
  |register=>exact False.elim H
  |choose=>exact False.elim H
  |os=>exact False.elim H
  |fork=>exact False.elim H
  |thread=>exact False.elim H
  |await=>exact False.elim H
end
theorem PW{r b:String}{n:Nat}(h:PySem.code b=n)(e:Nat.beq (S.codeS r) n=true):r=b:=by
 have:(r==b)=true:=(S.beq_codeS r b).trans (by rw[h];rw[S.code_S] at*;exact e)
 exact beq_iff_eq.mp this
noncomputable def vN:KT→Nat→KT
 | .nil,_=> .nil
 | .node v l r,i=>match Nat.beq i 0 with
  |true=> .node none l r
  |false=>match Nat.beq (i%2) 1 with
   |true=> .node v (vN l (i/2)) r
   |false=> .node v l (vN r (i/2 -1))
theorem gq:∀{t:KT}{i a:Nat}{o:Obj},(vN t i).get a=some o→t.get a=some o
 | .nil,_,_,_,e=>nomatch e
 | .node v l r,i,a,o,e=>by
  unfold vN at e
  rw[BT.beq_eq,BT.beq_eq] at e
  by_cases h:i=0
  ·simp only[h,decide_true] at e
   rw[KT.get_node] at e⊢
   by_cases ha:a=0
   ·simp[ha] at e
   ·simpa[ha] using e
  ·simp only[h,decide_false] at e
   by_cases q:i%2=1
   ·simp only[q,decide_true] at e
    rw[KT.get_node] at e⊢
    by_cases ha:a=0
    ·simpa[ha] using e
    ·by_cases hp:a%2=1
     ·simp only[ha,hp,if_true,if_false] at e⊢;exact gq e
     ·simpa[ha,hp] using e
   ·simp only[q,decide_false] at e
    rw[KT.get_node] at e⊢
    by_cases ha:a=0
    ·simpa[ha] using e
    ·by_cases hp:a%2=1
     ·simpa[ha,hp] using e
     ·simp only[ha,hp,if_false] at e⊢;exact gq e
noncomputable def DH(t:Sem Unit)(l:List (Code×Pos)):Sem Unit:=match t with
 | .stack k=>k l
 |t=>t
noncomputable abbrev RD:List (Code×Pos)→Sem Unit:=DH (PySem.W.Fast.tw15066281185411960212 0)
noncomputable abbrev Qm:List (Code×Pos)→Sem Unit:=DH PySem.W.Fast.tw3139746846981162851
theorem Io:enterFrame 0=Sem.stack RD:=by
 rw[PySem.W.Fast.te15066281185411960212];rfl
theorem IM:roomToWake=Sem.stack Qm:=by
 rw[PySem.W.Fast.te3139746846981162851];rfl
structure KH(kt:KT)(os:OS)(s:Ś):Prop where
 kt:∀a o,kt.get a=some o→s.heap.get? a=some o
 os:s.os=os
 gok:∀x∈s.gens.toList,dp x
 tk:1617≤s.toks
structure hO(s s':Ś)(ups news:List (Addr×Obj))(gl':LG):Prop where
 keep:∀b o,s.heap.get? b=some o→b∉ups.map (·.1)→s'.heap.get? b=some o
 now:∀p∈ups++news,s'.heap.get? p.1=some p.2
 fresh:∀p∈news,s.heap.objs.size≤p.1
 nd:(news.map (·.1)).Nodup
 size:s.heap.objs.size≤s'.heap.objs.size
 gens:s'.gens=⟨gl'⟩
 gok:∀x∈gl',dp x
 os:s'.os=s.os
 tk:1617≤s'.toks
structure Spec where
 pre:LL
 post:List (LN→Obj)
 news:List (LN→Obj)
 nt:Nat
 rv:LN→Re
 gl:LG
 gl':LG
noncomputable def cb(M:Model)(kt:KT)(os:OS)(dep:Nat)(c:Code)(ad:LA)(S:Spec):Prop:=
 ∀s,KH kt os s→s.gens=⟨S.gl⟩→ad.length=S.pre.length→(∀p∈ad.zip S.pre,s.heap.get? p.1=some p.2)→ad.Nodup→(∀a∈ad,∀o,kt.get a≠some o)→
  codeAny M (AG dep) c (fun r s'=>∃as ts:LN,as.length=S.news.length∧ts.length=S.nt∧r=S.rv (as++ts)∧
   hO s s' (ad.zip (S.post.map (· (as++ts)))) (as.zip (S.news.map (· (as++ts)))) S.gl') s
noncomputable def dy(M:Model)(kt:KT)(os:OS)(dep:Nat)(c:Code)(ad:LA)(S:Spec)(c₂:LN→Code):Prop:=
 ∀s R,KH kt os s→s.gens=⟨S.gl⟩→ad.length=S.pre.length→(∀p∈ad.zip S.pre,s.heap.get? p.1=some p.2)→ad.Nodup→(∀a∈ad,∀o,kt.get a≠some o)→
  (∀s'(as ts:LN),as.length=S.news.length→ts.length=S.nt→
   hO s s' (ad.zip (S.post.map (· (as++ts)))) (as.zip (S.news.map (· (as++ts)))) S.gl'→codeAny M (AG dep) (c₂ (as++ts)) R s')→
  codeAny M (AG dep) c R s
noncomputable def gx(l:LN)(i:Nat):Nat:=match l with
 |[]=>0
 |x::r=>match i with
  |0=>x
  |i+1=>gx r i
theorem E3:∀(l:LN)(i:Nat)(h:i<l.length),gx l i=l[i]
 |[],_,h=>by cases h
 |_::_,0,_=>rfl
 |_::r,i+1,h=>E3 r i (Nat.lt_of_succ_lt_succ h)
theorem lsG{l:LN}{n:Nat}(h:l.length=n):l=(List.range n).map (gx l):=by
 subst h;exact List.ext_getElem (by simp) fun i h1 h2=>by simp[E3 l i h1]
theorem J_{l:LN}{n:Nat}(h:l.length=n):∃f:Nat→Nat,l=(List.range n).map f:=⟨_,lsG h⟩
theorem lc(o:Obj):∀(T:BT)(m:Nat),(∀i,i<m→(T.get i).isSome=true)→(T.ins m o).get m=some o
 | .nil,m,h=>by
  cases m with
  |zero=>rfl
  |succ m=>have:=h 0 (Nat.succ_pos _);cases this
 | .node v l r,m,h=>by
  rw[BT.ins_node]
  by_cases h0:m=0
  ·rw[if_pos h0,BT.get_node,if_pos h0]
  ·rw[if_neg h0]
   by_cases p:m%2=1
   ·rw[if_pos p,BT.get_node,if_neg h0,if_pos p]
    refine lc o l (m/2) fun i hi=> ?_
    have:=h (2*i+1) (by omega)
    rw[BT.get_node,if_neg (by omega),if_pos (by omega)] at this
    rw[show(2*i+1)/2=i by omega] at this
    exact this
   ·rw[if_neg p,BT.get_node,if_neg h0,if_neg p]
    refine lc o r (m/2 -1) fun i hi=> ?_
    have:=h (2*i+2) (by omega)
    rw[BT.get_node,if_neg (by omega),if_neg (by omega)] at this
    rw[show(2*i+2)/2 -1=i by omega] at this
    exact this
noncomputable def cA:LL→BT→Nat→BT
 |[],T,_=>T
 |o::l,T,m=>cA l (T.ins m o) (m+1)
noncomputable def Dense(T:BT)(m:Nat):Prop:=∀i,(T.get i).isSome=true↔i<m
theorem Dense.ins{T:BT}{m:Nat}(h:Dense T m)(o:Obj):Dense (T.ins m o) (m+1)∧∀i,(T.ins m o).get i=if i=m then some o else T.get i:=by
 have e:((T.ins m o).get m).isSome=true:=by rw[lc o T m fun i hi=>(h i).mpr hi];rfl
 have g:=BT.get_ins o T m e
 refine⟨fun i=> ?_,g⟩
 rw[g]
 by_cases hi:i=m
 ·simp[hi]
 ·rw[if_neg hi,h i];omega
theorem ro:∀(l:LL){T:BT}{m:Nat},Dense T m→Dense (cA l T m) (m+l.length)∧∀i,(cA l T m).get i=if i<m then T.get i else l[i -m]?
 |[],T,m,h=>⟨h,fun i=>by
  unfold cA
  by_cases hi:i<m
  ·rw[if_pos hi]
  ·rw[if_neg hi,List.getElem?_nil]
   cases e:T.get i with
   |none=>rfl
   |some o=>exact absurd ((h i).mp (by rw[e];rfl)) hi⟩
 |o::l,T,m,h=>by
  obtain⟨h1,g1⟩:=h.ins o
  obtain⟨h2,g2⟩:=ro l h1
  refine⟨by rw[List.length_cons,show m+(l.length+1)=m+1+l.length by omega];exact h2,fun i=> ?_⟩
  unfold cA
  rw[g2,g1]
  by_cases hi:i<m
  ·rw[if_pos (by omega),if_neg (by omega),if_pos hi]
  ·rw[if_neg hi]
   by_cases he:i=m
   ·subst he;rw[if_pos (by omega),if_pos rfl];simp
   ·rw[if_neg (by omega),show i -m=(i -(m+1))+1 by omega,List.getElem?_cons_succ]
theorem CZ:Dense .nil 0:=fun i=>by
 constructor
 ·intro h;cases h
 ·intro h;exact absurd h (Nat.not_lt_zero _)
noncomputable def d7:LN→Nat→List (Nat×Nat)→List (Nat×Nat)
 |[],_,sg=>sg
 |y::ys,j,sg=>d7 ys (j+1) ((j,y)::sg)
theorem wE{q:Nat×Nat}{sg:List (Nat×Nat)}{i:Nat}(h:i<q.1):bx (q::sg) i=bx sg i:=by
 have:Nat.ble q.1 i=false:=by
  cases e:Nat.ble q.1 i with
  |false=>rfl
  |true=>exact absurd (Nat.le_of_ble_eq_true e) (by omega)
 simp only[bx,this]
theorem Ak{q:Nat×Nat}{sg:List (Nat×Nat)}{i:Nat}(h:q.1≤i):bx (q::sg) i=q.2+(i -q.1):=by
 have:Nat.ble q.1 i=true:=Nat.ble_eq_true_of_le h
 simp only[bx,this]
theorem iN:∀(ys:LN)(j:Nat)(sg:List (Nat×Nat))(i:Nat),(i<j→bx (d7 ys j sg) i=bx sg i)∧(∀y,ys[i -j]? =some y→j≤i→bx (d7 ys j sg) i=y)
 |[],_,_,_=>⟨fun _=>rfl,fun _ e _=>by cases e⟩
 |y::ys,j,sg,i=>by
  have ih:=iN ys (j+1) ((j,y)::sg) i
  refine⟨fun h=> ?_,fun y' e h=> ?_⟩
  ·unfold d7;rw[ih.1 (by omega),wE h]
  ·unfold d7
   by_cases hi:i=j
   ·subst hi
    rw[ih.1 (by omega),Ak (Nat.le_refl _)]
    simp only[Nat.sub_self,List.getElem?_cons_zero,Option.some.injEq] at e
    simp[e]
   ·refine ih.2 y' ?_ (by omega)
    rw[show i -j=(i -(j+1))+1 by omega,List.getElem?_cons_succ] at e
    exact e
noncomputable def H4:List (Nat×Nat×(LN→Obj))→LN→BT→List (Nat×Nat)→Out→Out
 |[],_,_,_,o=>o
 |x::l,as,T,sg,o=>match T.get x.1 with
  |some ob=> .nat (bx sg x.1) x.2.1 (.obj ob (x.2.2 as) (H4 l as T sg o))
  |none=> .fail 95
noncomputable def Is:List (Nat×(LN→Obj))→LN→BT→Out→Out
 |[],_,_,o=>o
 |x::l,as,T,o=>match T.get x.1 with
  |some ob=> .obj ob (x.2 as) (Is l as T o)
  |none=> .fail 96
noncomputable def pW(js:LN)(ad:LA)(S:Spec)(ns:LN)(tk:Re→BT→LN→LN):Re→LN→K6:=fun r _ T _ sg _ _ gl xl=>
 .nat (tk r T xl).length S.nt (.res r (S.rv (ns.map (bx sg)++tk r T xl)) (.gls gl S.gl' (H4 (js.zip (ad.zip S.post)) (ns.map (bx sg)++tk r T xl) T sg (Is (ns.zip S.news) (ns.map (bx sg)++tk r T xl) T .done))))
theorem Bd:∀{l:List (Nat×Nat×(LN→Obj))} {as T sg o},bV (H4 l as T sg o)→(∀x∈l,T.get x.1=some (x.2.2 as)∧bx sg x.1=x.2.1)∧bV o
 |[],_,_,_,_,h=>⟨fun _ h=>(nomatch h),h⟩
 |x::l,as,T,sg,o,h=>by
  unfold H4 at h
  split at h
  ·rename_i ob e
   obtain⟨h1,h2,h⟩:=h
   obtain⟨h3,h4⟩:=Bd h
   refine⟨fun y hy=> ?_,h4⟩
   rcases List.mem_cons.mp hy with rfl|hy
   ·exact⟨by rw[e,h2],h1⟩
   ·exact h3 y hy
  ·exact False.elim h
theorem B3:∀{l:List (Nat×(LN→Obj))} {as T o},bV (Is l as T o)→(∀x∈l,T.get x.1=some (x.2 as))∧bV o
 |[],_,_,_,h=>⟨fun _ h=>(nomatch h),h⟩
 |x::l,as,T,o,h=>by
  unfold Is at h
  split at h
  ·rename_i ob e
   obtain⟨h2,h⟩:=h
   obtain⟨h3,h4⟩:=B3 h
   refine⟨fun y hy=> ?_,h4⟩
   rcases List.mem_cons.mp hy with rfl|hy
   ·rw[e,h2]
   ·exact h3 y hy
  ·exact False.elim h
theorem em{α β γ:Type}{f:α→β}{g:α→γ}:∀{l:List α},(l.map f).Nodup→(∀x∈l,∀y∈l,g x=g y→f x=f y)→(l.map g).Nodup
 |[],_,_=>List.nodup_nil
 |x::l,h,hi=>by
  rw[List.map_cons,List.nodup_cons] at h⊢
  refine⟨fun hm=> ?_,em h.2 fun a ha b hb e=>hi a (List.mem_cons_of_mem _ ha) b (List.mem_cons_of_mem _ hb) e⟩
  obtain⟨y,hy,e⟩:=List.mem_map.mp hm
  exact h.1 (List.mem_map.mpr ⟨y,hy,hi y (List.mem_cons_of_mem _ hy) x List.mem_cons_self e⟩)
theorem im{kt:KT}{G:List (Addr×Obj)}{os:OS}{s s':Ś}{js:LN}{ad:LA}{S:Spec}{ns:LN}{tk:Re→BT→LN→LN} {r ora T m sg tb ti gl xl}
 (hs:(js++ns).Nodup)(hj:js.length=ad.length)(hp:S.post.length=ad.length)(hn:ns.length=S.news.length)(hg:∀x∈gl,dp x)(ho:s.os=os)
 (H:bV (pW js ad S ns tk r ora T m sg tb ti gl xl))(D:Conc kt G ad s.heap os T m sg tb ti gl s'):
 ∃as ts:LN,as.length=S.news.length∧ts.length=S.nt∧(r=S.rv (as++ts)∧ns.map (bx sg)++tk r T xl=as++ts)∧
  hO s s' (ad.zip (S.post.map (· (as++ts)))) (as.zip (S.news.map (· (as++ts)))) S.gl':=by
 obtain⟨h0,h1,h2,H⟩:=H
 obtain⟨h3,H⟩:=Bd H
 obtain⟨h4,_⟩:=B3 H
 refine⟨ns.map (bx sg),tk r T xl,by simpa using hn,h0,⟨h1,rfl⟩,?_⟩
 obtain⟨hs1,hs2,hs3⟩:=List.nodup_append.mp hs
 generalize ns.map (bx sg)++tk r T xl=v at*
 have z1:∀(l:LN)(q:List (LN→Obj)),l.length=q.length→(l.zip q).map (·.1)=l:=fun l q e=>by rw[List.map_fst_zip];omega
 have cut:∀(l:LN)(q:List (LN→Obj)),(l.map (bx sg)).zip (q.map (· v))=(l.zip q).map fun x=>(bx sg x.1,x.2 v):=by
  intro l
  induction l with
  |nil=>intro q;simp
  |cons a l ih=>intro q;cases q with
   |nil=>simp
   |cons b q=>simp[ih]
 have cut2:∀(l:LN)(q:List (LN→Obj)),l.zip (q.map (· v))=(l.zip q).map fun x=>(x.1,x.2 v):=by
  intro l
  induction l with
  |nil=>intro q;simp
  |cons a l ih=>intro q;cases q with
   |nil=>simp
   |cons b q=>simp[ih]
 have had:∀a∈ad,∃x∈js.zip (ad.zip S.post),x.2.1=a:=fun a ha=>by
  obtain⟨i,hi,rfl⟩:=List.mem_iff_getElem.mp ha
  refine⟨(js[i]'(by omega),ad[i],S.post[i]'(by omega)),List.mem_iff_getElem.mpr ⟨i,by simp;omega,by simp⟩,rfl⟩
 have hmj:∀x∈js.zip (ad.zip S.post),x.1∈js:=fun x hx=>(List.of_mem_zip hx).1
 have fresh:∀x∈ns.zip S.news,s.heap.objs.size≤bx sg x.1:=fun x hx=>by
  rcases(D.own _ _ (h4 x hx)).2.2.2 with hm|hm
  ·obtain⟨y,hy,e⟩:=had _ hm
   have:=D.inj _ _ _ _ (h3 y hy).1 (h4 x hx) ((h3 y hy).2.trans e)
   exact absurd this (hs3 _ (hmj y hy) _ (List.of_mem_zip hx).1)
  ·exact hm
 rw[cut,cut2]
 refine⟨fun b o e hb=> ?_,fun p hp=> ?_,fun p hp=> ?_,?_,D.low,by rw[D.gens,h2],h2▸hg,by rw[D.os,ho],by rw[D.toks];exact Nat.le_trans D.tkb (Nat.le_add_right _ _)⟩
 ·refine D.keep b o e fun hm=>hb ?_
  obtain⟨y,hy,e⟩:=had _ hm
  exact List.mem_map.mpr ⟨_,List.mem_map_of_mem (List.of_mem_zip hy).2,e⟩
 ·rcases List.mem_append.mp hp with hp|hp
  ·obtain⟨y,hy,rfl⟩:=List.mem_map.mp hp
   obtain⟨i,hi,rfl⟩:=List.mem_iff_getElem.mp hy
   rw[List.length_zip] at hi
   have hm:(js[i]'(by omega),(ad.zip S.post)[i]'(by rw[List.length_zip];omega))∈js.zip (ad.zip S.post):=List.mem_iff_getElem.mpr ⟨i,by simp;omega,by simp⟩
   have:=(D.own _ _ (h3 _ hm).1).2.1
   rw[(h3 _ hm).2] at this
   exact this
  ·obtain⟨y,hy,rfl⟩:=List.mem_map.mp hp
   exact(D.own _ _ (h4 y hy)).2.1
 ·obtain⟨y,hy,rfl⟩:=List.mem_map.mp hp
  exact fresh y hy
 ·rw[List.map_map]
  exact em (f:=fun x=>x.1) (by rw[z1 _ _ hn];exact hs2) fun x hx y hy e=>D.inj x.1 y.1 _ _ (h4 x hx) (h4 y hy) e
theorem qB{kt:KT}{G:List (Addr×Obj)}{os:OS}{s s':Ś}{js:LN}{ad:LA}{S:Spec}{ns:LN}{tk:Re→BT→LN→LN} {r ora T m sg tb ti gl xl}
 (hs:(js++ns).Nodup)(hj:js.length=ad.length)(hp:S.post.length=ad.length)(hn:ns.length=S.news.length)(hg:∀x∈gl,dp x)(ho:s.os=os)
 (H:bV (pW js ad S ns tk r ora T m sg tb ti gl xl))(D:Conc kt G ad s.heap os T m sg tb ti gl s'):
 ∃as ts:LN,as.length=S.news.length∧ts.length=S.nt∧r=S.rv (as++ts)∧
  hO s s' (ad.zip (S.post.map (· (as++ts)))) (as.zip (S.news.map (· (as++ts)))) S.gl':=by
 obtain⟨as,ts,a,b,c,e⟩:=im hs hj hp hn hg ho H D
 exact⟨as,ts,a,b,c.1,e⟩
theorem cB{kt:KT}{os:OS}{s:Ś}(K:KH kt os s){ys:LN}{obs:LL}(hl:ys.length=obs.length)(hp:∀p∈ys.zip obs,s.heap.get? p.1=some p.2)(hn:ys.Nodup)(hk:∀y∈ys,∀o,kt.get y≠some o):
 Conc kt [] ys s.heap os (cA obs .nil 0) ys.length ((ys.length,s.heap.objs.size)::d7 ys 0 []) s.toks 0 s.gens.toList s:=by
 have A:=ro obs CZ
 have at_:∀i,i<ys.length→bx ((ys.length,s.heap.objs.size)::d7 ys 0 []) i=ys[i]?.getD 0:=fun i hi=>by
  rw[wE hi]
  refine(iN ys 0 [] i).2 _ ?_ (Nat.zero_le _)
  rw[Nat.sub_zero,List.getElem?_eq_getElem hi];rfl
 have pick:∀i o,(cA obs .nil 0).get i=some o→∃h:i<ys.length,obs[i]? =some o∧s.heap.get? (ys[i]'h)=some o:=fun i o e=>by
  rw[A.2,if_neg (Nat.not_lt_zero _),Nat.sub_zero] at e
  obtain⟨hi,e'⟩:=List.getElem?_eq_some_iff.mp e
  have hi':i<ys.length:=hl▸hi
  refine⟨hi',e,hp (ys[i],o) ?_⟩
  rw[List.mem_iff_getElem]
  exact⟨i,by rw[List.length_zip];omega,by simp[e']⟩
 refine⟨by rw[Ak (Nat.le_refl _),Nat.sub_self,Nat.add_zero],⟨_,_,rfl,Nat.le_refl _⟩,fun i o e=> ?_,fun i j o o' ei ej he=> ?_,K.kt,fun b o e _=>e,Nat.le_refl _,rfl,rfl,K.os,(fun _ h=>nomatch h),K.tk⟩
 ·obtain⟨hi,_,h⟩:=pick i o e
  have ea:bx ((ys.length,s.heap.objs.size)::d7 ys 0 []) i=ys[i]:=by rw[at_ i hi,List.getElem?_eq_getElem hi];rfl
  rw[ea]
  exact⟨hi,h,fun o'=>hk _ (List.getElem_mem hi) o',.inl (List.getElem_mem hi)⟩
 ·obtain⟨hi,_,_⟩:=pick i o ei
  obtain⟨hj,_,_⟩:=pick j o' ej
  rw[at_ i hi,at_ j hj,List.getElem?_eq_getElem hi,List.getElem?_eq_getElem hj] at he
  exact(List.getElem_inj hn).mp he
structure Bs where
 prog:Program
 P:Pm
 Q:Nat→Bool→Pm
 Q4:Bool→Pm
 den:Code→Sem Fin
 kt:KT
 ent:List (Code×Pos)→Sem Unit
 wak:List (Code×Pos)→Sem Unit
 bnd:Sem Unit→(Unit→Sem Fin)→Sem Fin
 isS:Vl→Vl→Sem Bool
structure Ex where
 fin:Re→LN→K6
 agn:Code→LN→K6
 hook:Nat→Code→(Re→K6)→K6
 turn:Nat→Code→(Code→K6)→K6
 gh:LN→List (Addr×Obj)
 sam:List Sam
 fct:List (Nat×Nat)
 stp:Code→List Frame→Sem Fin→LN→K6
 fac:List Fac
 fac2:List Fac2
 baseO:Option (List (Code×Pos))
 fac3:List Fac3
noncomputable def cf(B:Bs)(dep hdp:Nat)(e:Ex):Cf:=
 {prog:=B.prog,P:=B.P,Q:=B.Q,Q4:=B.Q4,den:=B.den,kt:=B.kt,ent:=B.ent,wak:=B.wak,bnd:=B.bnd,dep,hdp,fin:=e.fin,agn:=e.agn,hook:=e.hook,turn:=e.turn,gh:=e.gh,sam:=e.sam,fct:=e.fct,isS:=B.isS,stp:=e.stp,fac:=e.fac,fac2:=e.fac2,baseO:=e.baseO,fac3:=e.fac3}
structure iY(B:Bs)(w:Wd):Prop where
 P:B.P=w.params
 Q:∀j,∃b,B.Q j b=w.params
 Q3:B.Q 1 true=w.params∨B.Q4 true=w.params∨B.Q4 false=w.params
 den:B.den=denote table
 bnd:B.bnd=Sem.bind
 isS:B.isS=isSame
 ent:enterFrame 0=Sem.stack B.ent
 wak:roomToWake=Sem.stack B.wak
 lim:∀h:Heap,(∀a o,B.kt.get a=some o→h.get? a=some o)→h.NoLimit
noncomputable def xV:Code→LN→K6:=fun _ _=>aO 93
noncomputable def yo(l:List (Nat×Nat)):Prop:=∀p∈l,p.1≠p.2∧p.1≠0∧p.2≠0
noncomputable def Gx:Nat→Code→(Code→K6)→K6:=fun _ _ _=>aO 89
noncomputable def i8:Code→List Frame→Sem Fin→LN→K6:=fun _ _ _ _=>aO 86
noncomputable def xK:LN→List (Addr×Obj):=fun _=> []
noncomputable def aC:LA→LL→Code→LN→LN:=fun _ _ _ _=> []
structure Hk where
 slots:LN
 code:LA→LL→Code→Code
 spec:LG→LA→LL→Code→Spec
 told:LA→LL→Code→LN→LN
structure Tk where
 slots:LN
 code:LA→LL→Code→Code
 spec:LG→LA→LL→Code→Spec
 next:LA→LL→Code→LN→Code
noncomputable def yW:Nat→(LN→Out)→Out
 |0,f=>f []
 |n+1,f=> .need fun a=>yW n fun l=>f (a::l)
noncomputable def I8:LL→BT→Nat→(BT→Nat→Out)→Out
 |[],T,m,κ=>κ T m
 |o::l,T,m,κ=>match(T.ins m o).get m with
  |some _=>I8 l (T.ins m o) (m+1) κ
  |none=> .fail 97
noncomputable def gQ:List (Nat×Obj)→BT→BT
 |[],T=>T
 |x::l,T=>gQ l (T.set x.1 fun _=>x.2)
noncomputable def xh:LN→LL→BT→Out→Out
 |[],_,_,o=>o
 |_::_,[],_,_=> .fail 98
 |j::js,b::bs,T,o=>match T.get j with
  |some ob=> .obj ob b (xh js bs T o)
  |none=> .fail 99
noncomputable def cw(T:BT):LN→LL
 |[]=> []
 |j::js=>match T.get j with
  |some o=>o::cw T js
  |none=>default::cw T js
noncomputable def ov(slots:LN)(c' c₀:Code)(S:Spec)(rc:LN→LN)(κ:LN→K6):K6:=fun T m sg _ _ gl xl=>
 .cod c' c₀ (.gls gl S.gl (.nat slots.length S.pre.length (.nat slots.length S.post.length (xh slots S.pre T
  (yW S.news.length fun as=>yW S.nt fun ts'=> .need fun N=> .need fun tb'=>
   I8 (S.news.map (· (as++ts'))) (gQ (slots.zip (S.post.map (· (as++ts')))) T) m fun T' m'=>κ (as++ts') T' m' ((m',N)::d7 as m sg) tb' 0 S.gl' (rc (as++ts')++xl))))))
noncomputable def Hk.run(h:Hk)(c':Code)(κ:Re→K6):K6:=fun T m sg tb ti gl xl=>
 (fun(ad:LN)(obs:LL)=>(fun(S:Spec)=>ov h.slots c' (h.code ad obs c') S (h.told ad obs c') (fun l=>κ (S.rv l)) T m sg tb ti gl xl) (h.spec gl ad obs c')) (h.slots.map (bx sg)) (cw T h.slots)
noncomputable def Tk.run(h:Tk)(c':Code)(κ:Code→K6):K6:=fun T m sg tb ti gl xl=>
 (fun(ad:LN)(obs:LL)=>ov h.slots c' (h.code ad obs c') (h.spec gl ad obs c') (fun _=> []) (fun l=>κ (h.next ad obs c' l)) T m sg tb ti gl xl) (h.slots.map (bx sg)) (cw T h.slots)
theorem sN:∀{n:Nat}{f:LN→Out},bV (yW n f)→∀l:LN,l.length=n→bV (f l)
 |0,f,h,l,e=>by
  cases l with
  |nil=>exact h
  |cons=>cases e
 |n+1,f,h,l,e=>by
  cases l with
  |nil=>cases e
  |cons a l=>exact sN (h a) l (Nat.succ.inj e)
theorem AQ:∀{l:LL}{T:BT}{m:Nat} {κ},bV (I8 l T m κ)→∃T',bV (κ T' (m+l.length))∧∀i,T'.get i=if m≤i∧i<m+l.length then l[i -m]? else T.get i
 |[],T,m,κ,h=>⟨T,h,fun i=>by rw[if_neg];simp⟩
 |o::l,T,m,κ,h=>by
  unfold I8 at h
  split at h
  ·rename_i o' e
   obtain⟨T',h1,h2⟩:=AQ h
   refine⟨T',by rw[List.length_cons,show m+(l.length+1)=m+1+l.length by omega];exact h1,fun i=> ?_⟩
   rw[h2,BT.get_ins o T m (by rw[e];rfl),List.length_cons]
   by_cases hi:i=m
   ·subst hi
    rw[if_neg (by omega),if_pos rfl,if_pos (by omega)];simp
   ·rw[if_neg hi]
    by_cases hj:m+1≤i∧i<m+1+l.length
    ·rw[if_pos hj,if_pos (by omega),show i -m=(i -(m+1))+1 by omega,List.getElem?_cons_succ]
    ·rw[if_neg hj,if_neg (by omega)]
  ·exact False.elim h
theorem uT:∀{l:List (Nat×Obj)}{T:BT},(l.map (·.1)).Nodup→(∀p∈l,∃o,T.get p.1=some o)→
 (∀p∈l,(gQ l T).get p.1=some p.2)∧∀i,i∉l.map (·.1)→(gQ l T).get i=T.get i
 |[],T,_,_=>⟨fun _ h=>(nomatch h),fun _ _=>rfl⟩
 |x::l,T,hn,h=>by
  rw[List.map_cons,List.nodup_cons] at hn
  have g1:∀i,i≠x.1→(T.set x.1 fun _=>x.2).get i=T.get i:=fun i hi=>by rw[BT.get_set,if_neg hi]
  have ih:=uT (l:=l) (T:=T.set x.1 fun _=>x.2) hn.2 fun p hp=>by
   obtain⟨o,e⟩:=h p (List.mem_cons_of_mem _ hp)
   exact⟨o,by rw[g1 _ fun e=>hn.1 (e▸List.mem_map_of_mem hp)];exact e⟩
  refine⟨fun p hp=> ?_,fun i hi=> ?_⟩
  ·rcases List.mem_cons.mp hp with rfl|hp
   ·unfold gQ
    rw[ih.2 _ hn.1,BT.get_set,if_pos rfl]
    obtain⟨o,e⟩:=h p List.mem_cons_self
    rw[e];rfl
   ·exact ih.1 p hp
  ·rw[List.map_cons,List.mem_cons,not_or] at hi
   unfold gQ
   rw[ih.2 i hi.2,g1 i hi.1]
theorem fW:∀{js:LN}{bs:LL}{T:BT}{o:Out},bV (xh js bs T o)→(∀p∈js.zip bs,T.get p.1=some p.2)∧bV o
 |[],_,_,_,h=>⟨fun _ h=>(by simp at h),h⟩
 |_::_,[],_,_,h=>False.elim h
 |j::js,b::bs,T,o,h=>by
  unfold xh at h
  split at h
  ·rename_i ob e
   obtain⟨h1,h2⟩:=h
   obtain⟨h3,h4⟩:=fW h2
   refine⟨fun p hp=> ?_,h4⟩
   rw[List.zip_cons_cons] at hp
   rcases List.mem_cons.mp hp with rfl|hp
   ·rw[e,h1]
   ·exact h3 p hp
  ·exact False.elim h
section
variable{B:Bs}{w:Wd}{os:OS}{gh:LN→List (Addr×Obj)}
noncomputable def zN(B:Bs)(gh:LN→List (Addr×Obj))(w:Wd)(os:OS)(hdp:Nat)(hook:Nat→Code→(Re→K6)→K6):Prop:=
 ∀ys h₀ j c' κ T m sg tb ti gl xl s,bV (hook j c' κ T m sg tb ti gl xl)→Conc B.kt (gh xl) ys h₀ os T m sg tb ti gl s→(∀x∈gl,dp x)→
  codeAny (model B.prog w) (AG hdp) c' (fun r s'=>∃T' m' sg' tb' ti' gl' xl',bV (κ r T' m' sg' tb' ti' gl' xl')∧Conc B.kt (gh xl') ys h₀ os T' m' sg' tb' ti' gl' s'∧∀x∈gl',dp x) s
noncomputable def Aw(B:Bs)(gh:LN→List (Addr×Obj))(w:Wd)(os:OS)(dep:Nat)(turn:Nat→Code→(Code→K6)→K6):Prop:=
 ∀ys h₀ R j c' κ T m sg tb ti gl xl s,bV (turn j c' κ T m sg tb ti gl xl)→Conc B.kt (gh xl) ys h₀ os T m sg tb ti gl s→(∀x∈gl,dp x)→
  (∀c₂ T' m' sg' tb' ti' gl' xl' s',bV (κ c₂ T' m' sg' tb' ti' gl' xl')→Conc B.kt (gh xl') ys h₀ os T' m' sg' tb' ti' gl' s'→(∀x∈gl',dp x)→codeAny (model B.prog w) (AG dep) c₂ R s')→
  codeAny (model B.prog w) (AG dep) c' R s
noncomputable def Hk.Ok(B:Bs)(w:Wd)(os:OS)(hdp:Nat)(h:Hk):Prop:=
 h.slots.Nodup∧∀gl ad obs c,cb (model B.prog w) B.kt os hdp (h.code ad obs c) ad (h.spec gl ad obs c)
noncomputable def Tk.Ok(B:Bs)(w:Wd)(os:OS)(dep:Nat)(h:Tk):Prop:=
 h.slots.Nodup∧∀gl ad obs c,dy (model B.prog w) B.kt os dep (h.code ad obs c) ad (h.spec gl ad obs c) (h.next ad obs c)
theorem cL{G:List (Addr×Obj)}{slots:LN}(cy:slots.Nodup){S:Spec}{c' c₀:Code}{rc:LN→LN}{κ:LN→K6} {ys h₀ T m sg tb ti gl xl s}(H:bV (ov slots c' c₀ S rc κ T m sg tb ti gl xl))(D:Conc B.kt G ys h₀ os T m sg tb ti gl s):
 c'=c₀∧gl=S.gl∧(slots.map (bx sg)).length=S.pre.length∧(∀p∈(slots.map (bx sg)).zip S.pre,s.heap.get? p.1=some p.2)∧(slots.map (bx sg)).Nodup∧(∀a∈slots.map (bx sg),∀o,B.kt.get a≠some o):=by
 obtain⟨hc,hgl,hl1,hl2,H⟩:=H
 obtain⟨hpre,H⟩:=fW H
 have hpre':∀(i:Nat)(hi:i<slots.length),T.get slots[i]=some (S.pre[i]'(by omega)):=fun i hi=>
  hpre (slots[i],S.pre[i]'(by omega)) (List.mem_iff_getElem.mpr ⟨i,by simp;omega,by simp⟩)
 have hsl:∀j∈slots,∃o,T.get j=some o:=fun j hj=>by
  obtain⟨i,hi,rfl⟩:=List.mem_iff_getElem.mp hj
  exact⟨_,hpre' i hi⟩
 refine⟨hc,hgl,by simpa using hl1,fun p hp=> ?_,em (f:=fun x=>x) (by simpa using cy) fun x hx y hy e=> ?_,fun a ha o=> ?_⟩
 ·obtain⟨i,hi,rfl⟩:=List.mem_iff_getElem.mp hp
  simp only[List.length_zip,List.length_map] at hi
  simp only[List.getElem_zip,List.getElem_map]
  exact(D.own _ _ (hpre' i (by omega))).2.1
 ·obtain⟨_,ex⟩:=hsl x hx
  obtain⟨_,ey⟩:=hsl y hy
  exact D.inj x y _ _ ex ey e
 ·obtain⟨j,hj,rfl⟩:=List.mem_map.mp ha
  obtain⟨_,e⟩:=hsl j hj
  exact(D.own _ _ e).2.2.1 o
theorem qG{G:List (Addr×Obj)}{slots:LN}(cy:slots.Nodup){S:Spec}{c' c₀:Code}{rc:LN→LN}{κ:LN→K6} {ys h₀ T m sg tb ti gl xl s}(H:bV (ov slots c' c₀ S rc κ T m sg tb ti gl xl))(D:Conc B.kt G ys h₀ os T m sg tb ti gl s)
 {s':Ś}{as ts:LN}(ha:as.length=S.news.length)(ht:ts.length=S.nt)(E:hO s s' ((slots.map (bx sg)).zip (S.post.map (· (as++ts)))) (as.zip (S.news.map (· (as++ts)))) S.gl'):
 ∃T' m' sg' gl',bV (κ (as++ts) T' m' sg' s'.toks 0 gl' (rc (as++ts)++xl))∧Conc B.kt G ys h₀ os T' m' sg' s'.toks 0 gl' s'∧(∀x∈gl',dp x)∧∀i o,T'.get i=some o→bx sg' i∈as∨bx sg' i<s.heap.objs.size:=by
 obtain⟨hc,hgl,hl1,hl2,H⟩:=H
 obtain⟨hpre,H⟩:=fW H
 subst hgl
 have hpre':∀(i:Nat)(hi:i<slots.length),T.get slots[i]=some (S.pre[i]'(by omega)):=fun i hi=>
  hpre (slots[i],S.pre[i]'(by omega)) (List.mem_iff_getElem.mpr ⟨i,by simp;omega,by simp⟩)
 have hsl:∀j∈slots,∃o,T.get j=some o:=fun j hj=>by
  obtain⟨i,hi,rfl⟩:=List.mem_iff_getElem.mp hj
  exact⟨_,hpre' i hi⟩
 have H:=sN (sN H as ha) ts ht s'.heap.objs.size s'.toks
 obtain⟨T',H,hT'⟩:=AQ H
 generalize as++ts=v at*
 have zl:slots.length=(S.post.map (· v)).length:=by simpa using hl2
 have zmap:(slots.zip (S.post.map (· v))).map (·.1)=slots:=by rw[List.map_fst_zip];omega
 have A:=uT (l:=slots.zip (S.post.map (· v))) (T:=T) (by rw[zmap];exact cy) fun p hp=>hsl _ (List.of_mem_zip hp).1
 rw[zmap] at A
 rw[List.length_map,←ha] at H
 rw[List.length_map,←ha] at hT'
 have ups:∀b,b∈((slots.map (bx sg)).zip (S.post.map (· v))).map (·.1)↔∃j∈slots,bx sg j=b:=fun b=>by
  rw[List.map_fst_zip (by simp;omega),List.mem_map]
 have oldA:∀i,i<m→bx ((m+as.length,s'.heap.objs.size)::d7 as m sg) i=bx sg i:=fun i hi=>by
  rw[wE (by show i<m+as.length;omega)]
  exact(iN as m sg i).1 hi
 have newA:∀i(h1:m≤i)(h2:i<m+as.length),bx ((m+as.length,s'.heap.objs.size)::d7 as m sg) i=as[i -m]'(by omega):=fun i h1 h2=>by
  rw[wE (by show i<m+as.length;omega)]
  exact(iN as m sg i).2 _ (List.getElem?_eq_getElem (by omega)) h1
 have newIn:∀i(h1:i<as.length),(as[i],(S.news.map (· v))[i]'(by simp;omega))∈as.zip (S.news.map (· v)):=fun i h1=>
  List.mem_iff_getElem.mpr ⟨i,by simp;omega,by simp⟩
 have asnd:as.Nodup:=by
  have:=E.nd
  rwa[List.map_fst_zip (by simp;omega)] at this
 have key:∀i o,T'.get i=some o→(∃h1:m≤i,∃h2:i<m+as.length,(S.news.map (· v))[i -m]'(by simp;omega)=o)∨
  ((i<m)∧(∃o₀,T.get i=some o₀)∧s'.heap.get? (bx sg i)=some o):=fun i o e=>by
  rw[hT'] at e
  by_cases hi:m≤i∧i<m+as.length
  ·rw[if_pos hi] at e
   obtain⟨_,e'⟩:=List.getElem?_eq_some_iff.mp e
   exact .inl ⟨hi.1,hi.2,e'⟩
  ·rw[if_neg hi] at e
   refine .inr ?_
   by_cases hj:i∈slots
   ·obtain⟨k,hk,rfl⟩:=List.mem_iff_getElem.mp hj
    have hmem:(slots[k],(S.post.map (· v))[k]'(by omega))∈slots.zip (S.post.map (· v)):=List.mem_iff_getElem.mpr ⟨k,by simp;omega,by simp⟩
    rw[A.1 _ hmem] at e
    cases e
    have q:=hpre' k hk
    refine⟨(D.own _ _ q).1,⟨_,q⟩,E.now (bx sg slots[k],_) (List.mem_append_left _ (List.mem_iff_getElem.mpr ⟨k,by simp;omega,by simp⟩))⟩
   ·rw[A.2 i hj] at e
    refine⟨(D.own _ _ e).1,⟨_,e⟩,E.keep _ _ (D.own _ _ e).2.1 fun hm=> ?_⟩
    obtain⟨j,hj',ej⟩:=(ups _).mp hm
    obtain⟨_,e2⟩:=hsl j hj'
    exact hj (D.inj _ _ _ _ e2 e ej▸hj')
 have ltOld:∀i o,T.get i=some o→bx sg i<s.heap.objs.size:=fun i o e=>Heap.lt_size (D.own i o e).2.1
 refine⟨T',m+as.length,_,_,H,⟨by rw[Ak (Nat.le_refl _)];simp,⟨_,_,rfl,Nat.le_refl _⟩,fun i o e=> ?_,fun i j oi oj ei ej he=> ?_,fun a o e=> ?_,fun b o e hb=> ?_,Nat.le_trans D.low E.size,rfl,E.gens,E.os.trans D.os,fun p hp=>⟨E.keep _ _ (D.gho p hp).1 fun hm=> ?_,fun i o e he=> ?_⟩,E.tk⟩,E.gok,fun i o e=> ?_⟩
 ·rcases key i o e with⟨h1,h2,rfl⟩|⟨h1,⟨o₀,h2⟩,h3⟩
  ·rw[newA i h1 h2]
   have hm:=newIn (i -m) (by omega)
   have hf:=E.fresh _ hm
   refine⟨h2,E.now _ (List.mem_append_right _ hm),fun o' e'=> ?_,.inr (Nat.le_trans D.low hf)⟩
   have:=Heap.lt_size (D.ktH _ _ e')
   exact absurd this (Nat.not_lt.mpr hf)
  ·rw[oldA i h1]
   have q:=D.own i o₀ h2
   exact⟨by omega,h3,q.2.2.1,q.2.2.2⟩
 ·rcases key i oi ei with⟨h1,h2,rfl⟩|⟨h1,⟨o₀,h2⟩,h3⟩
  ·rcases key j oj ej with⟨k1,k2,rfl⟩|⟨k1,⟨o₁,k2⟩,k3⟩
   ·rw[newA i h1 h2,newA j k1 k2] at he
    have:=(List.getElem_inj asnd).mp he
    omega
   ·rw[newA i h1 h2,oldA j k1] at he
    have hf:=E.fresh _ (newIn (i -m) (by omega))
    have:=ltOld _ _ k2
    simp only at hf
    omega
  ·rcases key j oj ej with⟨k1,k2,rfl⟩|⟨k1,⟨o₁,k2⟩,k3⟩
   ·rw[newA j k1 k2,oldA i h1] at he
    have hf:=E.fresh _ (newIn (j -m) (by omega))
    have:=ltOld _ _ h2
    simp only at hf
    omega
   ·rw[oldA i h1,oldA j k1] at he
    exact D.inj _ _ _ _ h2 k2 he
 ·refine E.keep _ _ (D.ktH _ _ e) fun hm=> ?_
  obtain⟨j,hj,ej⟩:=(ups _).mp hm
  obtain⟨_,e2⟩:=hsl j hj
  exact(D.own _ _ e2).2.2.1 o (by rw[ej];exact e)
 ·refine E.keep _ _ (D.keep b o e hb) fun hm=> ?_
  obtain⟨j,hj,ej⟩:=(ups _).mp hm
  obtain⟨_,e2⟩:=hsl j hj
  rcases(D.own _ _ e2).2.2.2 with q|q
  ·exact hb (ej▸q)
  ·have:=Heap.lt_size e
   rw[ej] at q
   exact absurd this (Nat.not_lt.mpr q)
 ·obtain⟨j,hj,ej⟩:=(ups _).mp hm
  obtain⟨_,e2⟩:=hsl j hj
  exact(D.gho p hp).2 _ _ e2 ej
 ·rcases key i o e with⟨h1,h2,rfl⟩|⟨h1,⟨o₀,h2⟩,h3⟩
  ·rw[newA i h1 h2] at he
   have hf:=E.fresh _ (newIn (i -m) (by omega))
   have hlt:=Heap.lt_size (D.gho p hp).1
   rw[←he] at hlt
   exact absurd hlt (Nat.not_lt.mpr hf)
  ·rw[oldA i h1] at he
   exact(D.gho p hp).2 _ _ h2 he
 ·rcases key i o e with⟨h1,h2,rfl⟩|⟨h1,⟨o₀,h2⟩,h3⟩
  ·exact .inl (by rw[newA i h1 h2];exact List.getElem_mem _)
  ·exact .inr (by rw[oldA i h1];exact ltOld _ _ h2)
theorem tM{G:List (Addr×Obj)}{slots:LN}(cy:slots.Nodup){S:Spec}{c' c₀:Code}{rc:LN→LN}{κ:LN→K6} {ys h₀ T m sg tb ti gl xl s}(H:bV (ov slots c' c₀ S rc κ T m sg tb ti gl xl))(D:Conc B.kt G ys h₀ os T m sg tb ti gl s)
 {s':Ś}{as ts:LN}(ha:as.length=S.news.length)(ht:ts.length=S.nt)(E:hO s s' ((slots.map (bx sg)).zip (S.post.map (· (as++ts)))) (as.zip (S.news.map (· (as++ts)))) S.gl'):
 ∃T' m' sg' tb' ti' gl',bV (κ (as++ts) T' m' sg' tb' ti' gl' (rc (as++ts)++xl))∧Conc B.kt G ys h₀ os T' m' sg' tb' ti' gl' s'∧(∀x∈gl',dp x)∧∀i o,T'.get i=some o→bx sg' i∈as∨bx sg' i<s.heap.objs.size:=by
 obtain⟨a,b,c,f,h⟩:=qG cy H D ha ht E
 exact⟨a,b,c,_,_,f,h⟩
theorem cR{G:List (Addr×Obj)}{slots:LN}(cy:slots.Nodup){S:Spec}{c' c₀:Code}{rc:LN→LN}{κ:LN→K6} {ys h₀ T m sg tb ti gl xl s}(H:bV (ov slots c' c₀ S rc κ T m sg tb ti gl xl))(D:Conc B.kt G ys h₀ os T m sg tb ti gl s)
 {s':Ś}{as ts:LN}(ha:as.length=S.news.length)(ht:ts.length=S.nt)(E:hO s s' ((slots.map (bx sg)).zip (S.post.map (· (as++ts)))) (as.zip (S.news.map (· (as++ts)))) S.gl'):
 ∃T' m' sg' tb' ti' gl',bV (κ (as++ts) T' m' sg' tb' ti' gl' (rc (as++ts)++xl))∧Conc B.kt G ys h₀ os T' m' sg' tb' ti' gl' s'∧∀x∈gl',dp x:=by
 obtain⟨a,b,c,d,e,f,h1,h2,h3,_⟩:=tM cy H D ha ht E
 exact⟨a,b,c,d,e,f,h1,h2,h3⟩
theorem gM{G:List (Addr×Obj)} {ys h₀ T m sg tb ti gl s}(D:Conc B.kt G ys h₀ os T m sg tb ti gl s)(hg:∀x∈gl,dp x):KH B.kt os s:=⟨D.ktH,D.os,by rw[D.gens];exact hg,by rw[D.toks];exact Nat.le_trans D.tkb (Nat.le_add_right _ _)⟩
theorem Hk.sound{hdp:Nat}{h:Hk}(hgh:∀a b,gh a=gh b)(ok:h.Ok B w os hdp) {ys h₀ c' κ T m sg tb ti gl xl s}(H:bV (h.run c' κ T m sg tb ti gl xl))(D:Conc B.kt (gh xl) ys h₀ os T m sg tb ti gl s)(hg:∀x∈gl,dp x):
 codeAny (model B.prog w) (AG hdp) c' (fun r s'=>∃T' m' sg' tb' ti' gl' xl',bV (κ r T' m' sg' tb' ti' gl' xl')∧Conc B.kt (gh xl') ys h₀ os T' m' sg' tb' ti' gl' s'∧∀x∈gl',dp x) s:=by
 obtain⟨cy,hsum⟩:=ok
 unfold Hk.run at H
 dsimp only at H
 have hsum:=hsum gl (h.slots.map (bx sg)) (cw T h.slots) c'
 generalize h.spec gl (h.slots.map (bx sg)) (cw T h.slots) c'=S at*
 obtain⟨hc,hgl,h1,h2,h3,h4⟩:=cL cy H D
 have z:=hsum s (gM D hg) (hgl▸D.gens) h1 h2 h3 h4
 rw[←hc] at z
 intro Γ p hΓ hb
 obtain⟨r,s',hr,as,ts,ha,ht,rfl,E⟩:=z Γ p hΓ hb
 obtain⟨T',m',sg',tb',ti',gl',K,D',g'⟩:=cR cy H D ha ht E
 exact⟨_,s',hr,T',m',sg',tb',ti',gl',_,K,hgh xl (_++xl)▸D',g'⟩
theorem Tk.sound{dep:Nat}{h:Tk}(ok:h.Ok B w os dep){R:Re→Ś→Prop} {ys h₀ c' κ T m sg tb ti gl xl s}(H:bV (h.run c' κ T m sg tb ti gl xl))(D:Conc B.kt (gh xl) ys h₀ os T m sg tb ti gl s)(hg:∀x∈gl,dp x)
 (K:∀c₂ T' m' sg' tb' ti' gl' xl' s',bV (κ c₂ T' m' sg' tb' ti' gl' xl')→Conc B.kt (gh xl') ys h₀ os T' m' sg' tb' ti' gl' s'→(∀x∈gl',dp x)→codeAny (model B.prog w) (AG dep) c₂ R s'):
 codeAny (model B.prog w) (AG dep) c' R s:=by
 obtain⟨cy,hsum⟩:=ok
 unfold Tk.run at H
 dsimp only at H
 have hsum:=hsum gl (h.slots.map (bx sg)) (cw T h.slots) c'
 generalize h.spec gl (h.slots.map (bx sg)) (cw T h.slots) c'=S at*
 obtain⟨hc,hgl,h1,h2,h3,h4⟩:=cL cy H D
 rw[←hc] at hsum
 refine hsum s R (gM D hg) (hgl▸D.gens) h1 h2 h3 h4 fun s' as ts ha ht E=> ?_
 obtain⟨T',m',sg',tb',ti',gl',K',D',g'⟩:=cR cy H D ha ht E
 exact K _ _ _ _ _ _ _ _ _ K' D' g'
noncomputable def BR:List Hk→Nat→Code→(Re→K6)→K6
 |[],_=>fun _ _=>aO 94
 |h::l,j=>match j with
  |0=>h.run
  |j+1=>BR l j
theorem sV(hgh:∀a b,gh a=gh b){hdp:Nat}:∀{l:List Hk},(∀h∈l,h.Ok B w os hdp)→zN B gh w os hdp (BR l)
 |[],_=>fun _ _ _ _ _ _ _ _ _ _ _ _ _ H=>False.elim H
 |h::l,hl=>fun ys h₀ j c' κ T m sg tb ti gl xl s H D hg=>by
  cases j with
  |zero=>exact Hk.sound hgh (hl h List.mem_cons_self) H D hg
  |succ j=>exact sV hgh (fun x hx=>hl x (List.mem_cons_of_mem _ hx)) ys h₀ j c' κ T m sg tb ti gl xl s H D hg
noncomputable def Br:List Tk→Nat→Code→(Code→K6)→K6
 |[],_=>fun _ _=>aO 88
 |h::l,j=>match j with
  |0=>h.run
  |j+1=>Br l j
theorem tX{dep:Nat}:∀{l:List Tk},(∀h∈l,h.Ok B w os dep)→Aw B gh w os dep (Br l)
 |[],_=>fun _ _ _ _ _ _ _ _ _ _ _ _ _ _ H=>False.elim H
 |h::l,hl=>fun ys h₀ R j c' κ T m sg tb ti gl xl s H D hg K=>by
  cases j with
  |zero=>exact Tk.sound (hl h List.mem_cons_self) H D hg K
  |succ j=>exact tX (fun x hx=>hl x (List.mem_cons_of_mem _ hx)) ys h₀ R j c' κ T m sg tb ti gl xl s H D hg K
theorem cj(S:iY B w){dep hdp:Nat}{e:Ex}(hh:zN B e.gh w os hdp e.hook)(ht:Aw B e.gh w os dep e.turn)(hf:yo e.fct)(hbO:e.baseO=none)(hf3:∀F∈e.fac3,F.l=F.r)(hfac:∀F∈e.fac,F.l=F.r)(hfac2:∀F∈e.fac2,∀a b,a≠b→F.l a b=F.r a b){c:Code}{n:Nat}{ora:LN}{T:BT}{m:Nat}{sg:List (Nat×Nat)}{tb ti:Nat}{gl:LG}{xl:LN}{ys:LA}{h₀:Heap}{R:Re→Ś→Prop}
 (hstp:∀c fs t ora T m sg tb ti gl xl s,bV (e.stp c fs t ora T m sg tb ti gl xl)→Conc B.kt (e.gh xl) ys h₀ os T m sg tb ti gl s→xe c→(∀f∈fs,AJ f)→(∀x∈gl,dp x)→∀(Γ:Ctx)(p:Pos),Γ.code=c→Below Γ dep none→dw (cf B dep hdp e) w R Γ p t fs s)
 (hfin:∀r ora T m sg tb ti gl xl s,bV (e.fin r ora T m sg tb ti gl xl)→Conc B.kt (e.gh xl) ys h₀ os T m sg tb ti gl s→(∀x∈gl,dp x)→R r s)
 (hagn:∀c' ora T m sg tb ti gl xl s,bV (e.agn c' ora T m sg tb ti gl xl)→Conc B.kt (e.gh xl) ys h₀ os T m sg tb ti gl s→(∀x∈gl,dp x)→c'.quiet=true→codeAny (model B.prog w) (AG dep) c' R s)
 (run:bV (.pos fun p=>bY (cf B dep hdp e) n ora c p [] (B.den c) T m sg tb ti gl xl)){s:Ś}(D:Conc B.kt (e.gh xl) ys h₀ os T m sg tb ti gl s)(hg:∀x∈gl,dp x):
 codeAny (model B.prog w) (AG dep) c R s:=by
 have G:wq (cf B dep hdp e) w ys h₀ os R:=⟨S.P,S.Q,S.Q3,S.den,S.bnd,S.ent,S.wak,S.lim,S.isS,hfac,hf3,hfac2,hf,(by show∀c fs t ora T m sg tb ti gl xl s,_→_→_→_→_→∀(Γ:Ctx)(p:Pos),_→Below Γ dep e.baseO→_;rw[hbO];exact hstp),hfin,hagn,fun j c' κ T m sg tb ti gl xl s H D hg=>hh ys h₀ j c' κ T m sg tb ti gl xl s H D hg,fun j c' κ T m sg tb ti gl xl s H D hg K=>ht ys h₀ R j c' κ T m sg tb ti gl xl s H D hg K⟩
 intro Γ p hc hb
 have ho:xe c:=hJ G (run p)
 have z:=mD G _ _ _ p _ _ _ _ _ _ _ _ _ (run p) s D ho (fun _ h=>nomatch h) hg Γ hc (by show Below Γ dep e.baseO;rw[hbO];exact dL.mp hb)
 obtain⟨r,s',hr,hR⟩:=z
 refine⟨r,s',?_,hR⟩
 show Runs (model B.prog w) Γ p (denote table Γ.code) [] s (.ret r) s'
 rw[hc,←S.den];exact hr
noncomputable def exS(hs:List Hk)(ks:List Tk)(sam:List Sam)(fc:List (Nat×Nat))(ad:LA)(S:Spec)(ns:LN)(tk:Re→BT→LN→LN):Ex:=
 ⟨pW (List.range ad.length) ad S ns tk,xV,BR hs,Br ks,xK,sam,fc,i8,[],[],none,[]⟩
noncomputable def Sv(B:Bs)(dep hdp:Nat)(hs:List Hk)(ks:List Tk)(sam:List Sam)(fc:Nat→List (Nat×Nat))(c:Code)(ad:LA)(S:Spec)(ns:LN)(tk:Re→BT→LN→LN)(n:Nat)(ora:LN):Out:=
 .need fun N=> .need fun tb=> .pos fun p=>bY (cf B dep hdp (exS hs ks sam (fc tb) ad S ns tk)) n ora c p [] (B.den c) (cA S.pre .nil 0) ad.length ((ad.length,N)::d7 ad 0 []) tb 0 S.gl []
noncomputable def Run(B:Bs)(dep hdp:Nat)(hs:List Hk)(ks:List Tk)(c:Code)(ad:LA)(S:Spec)(ns:LN)(tk:Re→BT→LN→LN)(n:Nat)(ora:LN):Out:=
 Sv B dep hdp hs ks [] (fun _=> []) c ad S ns tk n ora
theorem yi(W:iY B w){dep hdp:Nat}{hs:List Hk}{ks:List Tk}(hh:∀h∈hs,h.Ok B w os hdp)(hk:∀h∈ks,h.Ok B w os dep){sam:List Sam}{fc:Nat→List (Nat×Nat)}(hf:∀tb,yo (fc tb)){c:Code}{ad:LA}{S:Spec}(ns:LN)(tk:Re→BT→LN→LN)(n:Nat)(ora:LN)
 (h1:Nat.beq ad.length S.post.length=true:=by exact rfl)(h2:Nat.beq ns.length S.news.length=true:=by exact rfl)(hn:(List.range ad.length++ns).Nodup:=by exact eC rfl)
 (run:bV (Sv B dep hdp hs ks sam fc c ad S ns tk n ora):=by refine bm ?_;kernel_rfl):cb (model B.prog w) B.kt os dep c ad S:=by
 intro s K hgl hl hp cy hkt
 have D:=cB K (ys:=ad) (obs:=S.pre) hl hp cy hkt
 have e:s.gens.toList=S.gl:=by rw[hgl]
 rw[e] at D
 have hg:∀x∈S.gl,dp x:=by have:=K.gok;rwa[e] at this
 exact cj (e:=exS hs ks sam (fc s.toks) ad S ns tk) (xl:=[]) W (sV (fun _ _=>rfl) hh) (tX hk) (hf _) rfl (fun _ h=>nomatch h) (fun _ h=>nomatch h) (fun _ h=>nomatch h) (fun _ _ _ _ _ _ _ _ _ _ _ _ H=>False.elim H)
  (fun r ora T m sg tb ti gl xl s' H D hg'=>qB (ora:=ora) (xl:=xl) hn (by simp) (Nat.eq_of_beq_eq_true h1).symm (Nat.eq_of_beq_eq_true h2) hg' K.os H D)
  (fun _ _ _ _ _ _ _ _ _ _ H=>False.elim H) (run s.heap.objs.size s.toks) D hg
theorem al:∀_:Nat,yo []:=fun _ _ h=>nomatch h
theorem aG(W:iY B w){dep hdp:Nat}{hs:List Hk}{ks:List Tk}(hh:∀h∈hs,h.Ok B w os hdp)(hk:∀h∈ks,h.Ok B w os dep){c:Code}{ad:LA}{S:Spec}(ns:LN)(tk:Re→BT→LN→LN)(n:Nat)(ora:LN)
 (h1:Nat.beq ad.length S.post.length=true:=by exact rfl)(h2:Nat.beq ns.length S.news.length=true:=by exact rfl)(hn:(List.range ad.length++ns).Nodup:=by exact eC rfl)
 (run:bV (Run B dep hdp hs ks c ad S ns tk n ora):=by refine bm ?_;kernel_rfl):cb (model B.prog w) B.kt os dep c ad S:=
 yi W hh hk al ns tk n ora h1 h2 hn run
noncomputable def exT(hs:List Hk)(ks:List Tk)(sam:List Sam)(fc:List (Nat×Nat))(ad:LA)(S:Spec)(c₂:LN→Code)(ns:LN)(tk:BT→LN→LN):Ex:=
 ⟨fun _ _=>aO 87,fun c' o T m sg tb ti gl xl=> .cod c' (c₂ (ns.map (bx sg)++tk T xl)) (pW (List.range ad.length) ad {S with rv:=fun _=> .ok .next} ns (fun _=>tk) (.ok .next) o T m sg tb ti gl xl),BR hs,Br ks,xK,sam,fc,i8,[],[],none,[]⟩
noncomputable def Lw(B:Bs)(dep hdp:Nat)(hs:List Hk)(ks:List Tk)(sam:List Sam)(fc:Nat→List (Nat×Nat))(c:Code)(ad:LA)(S:Spec)(c₂:LN→Code)(ns:LN)(tk:BT→LN→LN)(n:Nat)(ora:LN):Out:=
 .need fun N=> .need fun tb=> .pos fun p=>bY (cf B dep hdp (exT hs ks sam (fc tb) ad S c₂ ns tk)) n ora c p [] (B.den c) (cA S.pre .nil 0) ad.length ((ad.length,N)::d7 ad 0 []) tb 0 S.gl []
noncomputable def Vr(B:Bs)(dep hdp:Nat)(hs:List Hk)(ks:List Tk)(c:Code)(ad:LA)(S:Spec)(c₂:LN→Code)(ns:LN)(tk:BT→LN→LN)(n:Nat)(ora:LN):Out:=
 Lw B dep hdp hs ks [] (fun _=> []) c ad S c₂ ns tk n ora
theorem wl(W:iY B w){dep hdp:Nat}{hs:List Hk}{ks:List Tk}(hh:∀h∈hs,h.Ok B w os hdp)(hk:∀h∈ks,h.Ok B w os dep){sam:List Sam}{fc:Nat→List (Nat×Nat)}(hf:∀tb,yo (fc tb)){c:Code}{ad:LA}{S:Spec}{c₂:LN→Code}(ns:LN)(tk:BT→LN→LN)(n:Nat)(ora:LN)
 (h1:Nat.beq ad.length S.post.length=true:=by exact rfl)(h2:Nat.beq ns.length S.news.length=true:=by exact rfl)(hn:(List.range ad.length++ns).Nodup:=by exact eC rfl)
 (run:bV (Lw B dep hdp hs ks sam fc c ad S c₂ ns tk n ora):=by refine bm ?_;kernel_rfl):dy (model B.prog w) B.kt os dep c ad S c₂:=by
 intro s R K hgl hl hp cy hkt next
 have D:=cB K (ys:=ad) (obs:=S.pre) hl hp cy hkt
 have e:s.gens.toList=S.gl:=by rw[hgl]
 rw[e] at D
 have hg:∀x∈S.gl,dp x:=by have:=K.gok;rwa[e] at this
 refine cj (e:=exT hs ks sam (fc s.toks) ad S c₂ ns tk) (xl:=[]) (R:=R) W (sV (fun _ _=>rfl) hh) (tX hk) (hf _) rfl (fun _ h=>nomatch h) (fun _ h=>nomatch h) (fun _ h=>nomatch h) (fun _ _ _ _ _ _ _ _ _ _ _ _ H=>False.elim H) (fun _ _ _ _ _ _ _ _ _ _ H=>False.elim H)
  (fun c' ora T m sg tb ti gl xl s' H D hg' _=> ?_) (run s.heap.objs.size s.toks) D hg
 obtain⟨hc,H⟩:=H
 obtain⟨as,ts,ha,ht,hv,E⟩:=im (S:={S with rv:=fun _=> .ok .next}) (ora:=ora) (xl:=xl) hn (by simp) (Nat.eq_of_beq_eq_true h1).symm (Nat.eq_of_beq_eq_true h2) hg' K.os H D
 rw[hc,hv.2]
 exact next s' as ts ha ht E
theorem eb(W:iY B w){dep hdp:Nat}{hs:List Hk}{ks:List Tk}(hh:∀h∈hs,h.Ok B w os hdp)(hk:∀h∈ks,h.Ok B w os dep){c:Code}{ad:LA}{S:Spec}{c₂:LN→Code}(ns:LN)(tk:BT→LN→LN)(n:Nat)(ora:LN)
 (h1:Nat.beq ad.length S.post.length=true:=by exact rfl)(h2:Nat.beq ns.length S.news.length=true:=by exact rfl)(hn:(List.range ad.length++ns).Nodup:=by exact eC rfl)
 (run:bV (Vr B dep hdp hs ks c ad S c₂ ns tk n ora):=by refine bm ?_;kernel_rfl):dy (model B.prog w) B.kt os dep c ad S c₂:=
 wl W hh hk al ns tk n ora h1 h2 hn run
end
section
open PyProof.Rows
section
noncomputable abbrev q(o:Obj)(l r:KT):KT:= .node (some o) l r
noncomputable abbrev z:KT:= .nil
noncomputable abbrev q1(o:Obj):KT:= .node (some o) .nil .nil
noncomputable def bD(P:Pm):KT:=q (g7 P) (q (gS P) (q (zI P) (q aa (q aa (q cM (q o7 (q h9 (q ug (q1 af) (q1 af)) (q aa (q1 mr) z)) (q uc (q aa (q1 jA) (q1 aa)) (q sH (q1 af) z))) (q af (q aa (q rO (q1 aa) (q1 lj)) (q rW (q1 nW) z)) (q qD (q aa (q1 af) (q1 aa)) (q qW (q1 lx) z)))) (q o_ (q oH (q (jm P) (q ry (q1 aa) (q1 aa)) (q aa (q1 kw) z)) (q (uV P) (q pM (q1 nM) (q1 af)) (q af (q1 aa) z))) (q aa (q bH (q af (q1 aa) (q1 kB)) (q sa (q1 nA) z)) (q eB (q po (q1 aa) (q1 kn)) (q pn (q1 aa) z))))) (q f9 (q af (q oG (q aa (q tN (q1 uU) (q1 kO)) (q aa (q1 lQ) z)) (q aa (q pC (q1 nT) (q1 aa)) (q aa (q1 l9) z))) (q h7 (.node none (q aa (q1 aa) (q1 lv)) (q rZ (q1 jG) z)) (q af (q af (q1 lJ) (q1 af)) (q se (q1 aa) z)))) (q aa (q aa (q cz (q qI (q1 aa) (q1 jF)) (q aa (q1 nC) z)) (q aa (q rl (q1 aa) (q1 lW)) (q rC (q1 nV) z))) (q iW (q tw (q rf (q1 aa) (q1 m7)) (q pG (q1 aa) z)) (q (te P) (q aa (q1 j3) z) (q aa (q1 aa) z)))))) (q (eX P) (q cM (q wm (q af (q af (q aa (q1 tK) (q1 j7)) (q bH (q1 jR) z)) (q aa (q aa (q1 af) (q1 mE)) (q aa (q1 lq) z))) (q oP (q uz (q aa (q1 lG) (q1 af)) (q af (q1 mL) z)) (q eB (q uL (q1 jL) (q1 lr)) (q (t5 P) (q1 aa) z)))) (q pb (q aa (q iC (q sx (q1 rk) (q1 aa)) (q ss (q1 mj) z)) (q th (q rx (q1 aa) (q1 aa)) (q p6 (q1 km) z))) (q aa (q af (q t_ (q1 mh) (q1 kx)) (q af (q1 aa) z)) (q af (q uu (q1 aa) z) (q aa (q1 m9) z))))) (q e_ (q oJ (q pj (q i4 (q af (q1 s_) (q1 jT)) (q pO (q1 jO) z)) (q qT (q af (q1 mu) (q1 nL)) (q sm (q1 kH) z))) (q jd (q fB (q rM (q1 ll) (q1 nO)) (q af (q1 ld) z)) (q (sM P) (q uk (q1 mo) (q1 kf)) (q uf (q1 kE) z)))) (q aa (q i3 (q fG (q aa (q1 le) (q1 aa)) (q aa (q1 mW) z)) (q aa (q aa (q1 la) (q1 af)) (q ul (q1 aa) z))) (q bh (q uo (q sU (q1 aa) (q1 aa)) (q qC (q1 lh) z)) (q q_ (q pB (q1 af) z) (q uG (q1 ly) z))))))) (q gU (q lC (q f_ (q gg (q ph (q cz (q pU (q1 aa) (q1 aa)) (q pY (q1 aa) z)) (q bh (q qp (q1 kY) (q1 kj)) (q af (q1 aa) z))) (q aa (q tT (q af (q1 m5) (q1 kq)) (q p9 (q1 aa) z)) (q uM (q uR (q1 aa) (q1 np)) (q qc (q1 af) z)))) (q pe (q af (q il (q aa (q1 sA) (q1 mJ)) (q qO (q1 aa) z)) (q qa (q aa (q1 af) (q1 lg)) (q aa (q1 nx) z))) (q iv (q r5 (q aa (q1 kR) (q1 (l6 P))) (q bH (q1 af) z)) (q (p8 P) (q sp (q1 ln) (q1 nH)) (q af (q1 mC) z))))) (q f8 (q aa (q aa (q ip (q up (q1 qw) (q1 nR)) (q tO (q1 aa) z)) (q rq (q sX (q1 aa) (q1 nv)) (q sT (q1 mw) z))) (q ib (q aa (q sF (q1 j5) (q1 aa)) (q qA (q1 aa) z)) (q rA (q aa (q1 kP) (q1 aa)) (q aa (q1 mi) z)))) (q oR (q oU (q iG (q af (q1 mU) (q1 mz)) (q tp (q1 aa) z)) (q tr (q af (q1 mY) (q1 l5)) (q uP (q1 bh) z))) (q ii (q aa (q qo (q1 n4) (q1 af)) (q aa (q1 kL) z)) (q pZ (q pr (q1 mZ) z) (q qZ (q1 me) z)))))) (q (eI P) (q (gu P) (q ji (q aa (q jg (q pH (q1 aa) (q1 aa)) (q af (q1 kC) z)) (q pK (q ut (q1 aa) (q1 ke)) (q ql (q1 aa) z))) (q aa (q sC (q tZ (q1 af) (q1 aa)) (q aa (q1 nF) z)) (q (tR P) (q r9 (q1 aa) (q1 l8)) (q tC (q1 lA) z)))) (q af (q oV (q iS (q uw (q1 af) (q1 nI)) (q af (q1 jZ) z)) (q af (q pI (q1 nG) (q1 l0)) (q aa (q1 kQ) z))) (q iJ (q aa (q aa (q1 af) (q1 lI)) (q aa (q1 ny) z)) (q su (q af (q1 nZ) z) (q uj (q1 ng) z))))) (q (eS P) (q aa (q oN (q jn (q aa (q1 af) (q1 af)) (q af (q1 lM) z)) (q aa (q aa (q1 nX) (q1 kX)) (q pN (q1 af) z))) (q af (q q6 (q so (q1 af) (q1 lF)) (q aa (q1 jP) z)) (q qr (q aa (q1 af) (q1 aa)) (q to (q1 jJ) z)))) (q ix (q iu (q aa (q uA (q1 af) (q1 lT)) (q sw (q1 n8) z)) (q tU (q rP (q1 nJ) (q1 nw)) (q (r_ P) (q1 jM) z))) (q aa (q qi (q af (q1 kc) (q1 nD)) (q rY (q1 mc) z)) (q (tW P) (q af (q1 aa) z) (q qE (q1 kJ) z)))))))) (q (Ah P) (q gP (q af (q gb (q (f7 P) (q oX (q iA (q rU (q1 tY) (q1 kN)) (q tg (q1 ni) z)) (q uD (q uE (q1 lH) (.node none z z)) (q aa (q1 ka) z))) (q oS (q af (q aa (q1 mQ) (q1 kF)) (q uO (q1 lz) z)) (q qJ (q af (q1 lD) (q1 af)) (q tE (q1 aa) z)))) (q aa (q aa (q jl (q sr (q1 qz) (q1 mB)) (q ui (q1 bH) z)) (q aa (q um (q1 aa) (q1 lw)) (q rz (q1 nB) z))) (q iM (q sy (q p_ (q1 n5) (q1 mq)) (q uH (q1 aa) z)) (q bh (q aa (q1 kS) (q1 jQ)) (q aa (q1 af) z))))) (q gj (q oM (q o4 (q af (q pD (q1 aa) (q1 aa)) (q r7 (q1 k_) z)) (q (sS P) (q qM (q1 mf) (q1 af)) (q af (q1 aa) z))) (q aa (q qm (q af (q1 nn) (q1 nY)) (q re (q1 jK) z)) (q uQ (q rR (q1 aa) (q1 j2)) (q pE (q1 af) z)))) (q pg (q af (q ie (q aa (q1 nj) (q1 nl)) (q uJ (q1 mM) z)) (q tq (q aa (q1 af) (q1 mO)) (q aa (q1 aa) z))) (q iD (q pF (q aa (q1 nS) (q1 aa)) (q qY (q1 af) z)) (q uC (q sd (q1 j_) z) (q af (q1 af) z)))))) (q eY (q (f6 P) (q ij (q oW (q iy (q af (q1 pP) (q1 nk)) (q aa (q1 aa) z)) (q af (q af (q1 jx) (q1 eu)) (q q4 (q1 ml) z))) (q h8 (q tS (q uy (q1 aa) (q1 mb)) (q sD (q1 aa) z)) (q bh (q p7 (q1 mP) (q1 kI)) (q aa (q1 lY) z)))) (q aa (q pi (q ic (q aa (q1 aa) (q1 af)) (q aa (q1 aa) z)) (q aa (q aa (q1 nQ) (q1 af)) (q qg (q1 (lU P)) z))) (q af (q t8 (q ru (q1 aa) (q1 jE)) (q us (q1 ko) z)) (q tl (q aa (q1 af) z) (q uq (q1 l7) z))))) (q eT (q pk (q aa (q i7 (q rV (q1 aa) (q1 aa)) (q aa (q1 aa) z)) (q uW (q tQ (q1 aa) (q1 kD)) (q qP (q1 aa) z))) (q aa (q tG (q rL (q1 aa) (q1 aa)) (q qy (q1 aa) z)) (q sf (q sO (q1 aa) (q1 jC)) (q aa (q1 jy) z)))) (q af (q jj (q jb (q rp (q1 aa) (q1 af)) (q af (q1 aa) z)) (q (tn P) (q rj (q1 lb) (q1 jH)) (q pw (q1 mv) z))) (q (fT P) (q aa (q aa (q1 af) (q1 j4)) (q aa (q1 lm) z)) (q bh (q aa (q1 nu) z) (q qN (q1 nm) z))))))) (q cU (q eM (q gm (q aa (q aa (q aa (q bH (q1 sI) (q1 jz)) (q rQ (q1 af) z)) (q (rF P) (q sb (q1 aa) (q1 aa)) (q qV (q1 ma) z))) (q oK (q aa (q qQ (q1 lB) (q1 aa)) (q aa (q1 af) z)) (q tm (q aa (q1 ky) (q1 aa)) (q bh (q1 jV) z)))) (q oI (q oY (q iF (q af (q1 uB) (q1 lf)) (q rn (q1 af) z)) (q rG (q af (q1 mH) (q1 ki)) (q tc (q1 l_) z))) (q iL (q aa (q qF (q1 jI) (q1 mS)) (q aa (q1 m0) z)) (q aa (q tI (q1 m_) z) (q pJ (q1 aa) z))))) (q eP (q pc (q af (q aa (q aa (q1 uY) (q1 j6)) (q sq (q1 af) z)) (q tL (q aa (q1 af) (q1 aa)) (q aa (q1 kv) z))) (q iV (q t9 (q aa (q1 kM) (q1 af)) (q aa (q1 af) z)) (q aa (q qq (q1 kr) (q1 kU)) (q af (q1 aa) z)))) (q iU (q aa (q jh (q sJ (q1 nq) (q1 cz)) (q uX (q1 af) z)) (q sP (q qX (q1 aa) (q1 aa)) (q qh (q1 (kG P)) z))) (q aa (q af (q pX (q1 kK) (q1 lK)) (q af (q1 aa) z)) (q t7 (q rd (q1 aa) z) (q aa (q1 aa) z)))))) (q eW (q ge (q aa (q oZ (q jf (q aa (q1 af) (q1 af)) (q qu (q1 k9) z)) (q qv (q aa (q1 mR) (q1 j9)) (q t6 (q1 af) z))) (q af (q aa (q ur (q1 kT) (q1 k7)) (q tP (q1 nE) z)) (q aa (q aa (q1 af) (q1 aa)) (q uI (q1 kb) z)))) (q oL (q pa (q cU (q tH (q1 mn) (q1 aa)) (q sn (q1 jX) z)) (q qU (q uh (q1 lE) (q1 aa)) (q af (q1 nP) z))) (q aa (q q7 (q af (q1 n6) (q1 ms)) (q sQ (q1 m8) z)) (q aa (q tJ (q1 aa) z) (q rK (q1 bH) z))))) (q eH (q af (q oO (q i9 (q qk (q1 pT) (q1 lN)) (q qL (q1 jY) z)) (q bh (q q3 (q1 j8) (q1 aa)) (q aa (q1 lO) z))) (q iO (q cU (q aa (q1 mX) (q1 kA)) (q pA (q1 my) z)) (q pV (q af (q1 jB) (q1 af)) (q rJ (q1 mV) z)))) (q aa (q aa (q jr (q pz (q1 lV) (q1 aa)) (q aa (q1 jS) z)) (q ta (q q9 (q1 aa) (q1 jN)) (q tD (q1 lR) z))) (q fV (q rD (q t4 (q1 aa) (q1 k0)) (q uK (q1 aa) z)) (q aa (q uF (q1 lp) z) (q aa (q1 aa) z))))))))
end
theorem NP(P:Pm):bD P=vN (vN (vc (tF P)) 167) 832:=by kernel_rfl
noncomputable abbrev SA(w:Wd)(os:OS)(d:Nat)(c:LN→NN→Code)(s:LN→NN→Spec)(a:LN)(t:NN):=cb (model TW w) (bD w.params) os d (c a t) a (s a t)
noncomputable abbrev TA(w:Wd)(os:OS)(d:Nat)(c:LN→NN→Code)(s:LN→NN→Spec)(a:LN)(t:NN):=dy (model TW w) (bD w.params) os d (c a t) a (s a t)
noncomputable abbrev TB(w:Wd)(os:OS)(d:Nat)(c:LN→NN→Code)(s:LN→NN→Spec)(a:LN)(t:NN):=dy (model TW w) (bD w.params) os d (c a t) a (s a t) fun _=>c a t
noncomputable abbrev PS:=Pm→LG→LN→NN→Spec
noncomputable abbrev PO:=Pm→LN→NN→LL
noncomputable abbrev PC:=LN→NN→Code
end
def app:LN→LN→LN
 |[],y=>y
 |a::l,y=>a::app l y
noncomputable def Ō(l:LN):LN:=l
noncomputable def J:List LN→LN
 |[]=> []
 |a::l=>app a (J l)
def ō1:LN:=Ō [1,0,0]
def ō2:LN:=Ō [0,0,0]
def ō3:LN:=Ō [0,0,0,0]
def ō4:LN:=Ō [0,1,1]
def ō5:LN:=Ō [0,10]
def ō6:LN:=J [ō1,[0,0]]
def ō7:LN:=J [ō2,[3]]
def ō8:LN:=Ō [73,73]
def ō9:LN:=J [ō6,ō1,ō4,[0,2]]
def fk:LN:=Ō [0,2,2,2]
def fC:LN:=Ō [10,10]
def fP:LN:=Ō [0,3,3]
def bP:LN:=J [ō1,[0]]
def ir:LN:=Ō [9,9,9,9]
def lS:LN:=Ō [32,32]
def sK:LN:=J [ō5,ō5]
def vB:LN:=J [fC,[10]]
def dQ:LN:=J [ō1,ō1]
def CN:LN:=J [[3],ō7,ō7,ō3,[3]]
def eq:LN:=J [[1],ō4]
def gA:LN:=Ō [4,0,4,4]
def d6:LN:=J [[7],ō9]
def Cz:LN:=J [fP,[3,3]]
def gB:LN:=J [ō2,[2,2]]
def bA:LN:=J [[0],ō8,ō8,ō2]
def c9:LN:=J [ō3,[0,0]]
def dR:LN:=J [Cz,[0,0]]
def bX:LN:=J [[0],gA,[4,0]]
def d8:LN:=Ō [22,22]
def gF:LN:=J [ō3,ō3]
def iQ:LN:=Ō [13,13]
def Aj:LN:=J [sK,ō5,vB,fk,ō1,[2],CN,[4,2],ir,[0,9,0]]
def fO:LN:=J [sK,ō5,vB,fk,ō1,[2,2],CN,[4,0]]
def gW:LN:=Ō [110,110]
def fF:LN:=J [ō3,ō2]
def fR:LN:=Ō [2,2,2]
def cI:LN:=J [ō1,ō2]
def gz:LN:=Ō [0,2,2]
def wD:LN:=J [[41],ō2]
def eD:LN:=J [[5],ō9]
def dm:LN:=Ō [11,11]
def zf:LN:=J [dQ,ō1,[1]]
def fo:LN:=Ō [14,14]
def oF:LN:=J [[0,1,0],eq,[1,1]]
def iz:LN:=Ō [1,1,1,1]
def dO:LN:=Ō [12,12]
def fU:LN:=Ō [17,17]
def wI:LN:=Ō [0,30,0,30]
def pQ:LN:=J [ō4,[1]]
def sL:LN:=Ō [21,21]
def ox:LN:=Ō [0,7,7]
def io:LN:=Ō [19,19]
def CQ:LN:=J [[0,1,0],eq,[2,1,1],fP]
def AC:LN:=J [ō4,dQ,zf]
def yv:LN:=J [ō9,[0,0]]
def dI:LN:=J [[0,0],ō2]
def oz:LN:=J [ō6,ō1,[1,0],bP,ō1,fR]
def yr:LN:=J [ō1,d6]
def HK:LN:=Ō [109,109,109]
def dz:LN:=J [[0],lS,lS,ō2]
def dA:LN:=J [[0],lS,lS,[0,0],lS,ō2,[31,0,31,31,31,0]]
def dB:LN:=J [[0,71,0,71,0,71,71,31,71,71,0],ō8,[2],ō1]
def dE:LN:=J [[0],ō8,ō8,[0,0],ō8,ō2,[72,0,72,72,72,0]]
def wg:LN:=Ō [8,8,8,8]
def g_:LN:=Ō [39,39]
def hE:LN:=Ō [60,60]
def dN:LN:=J [HK,[0,103,1]]
def dT:LN:=J [gW,[110,0,106,1]]
def yp:LN:=Ō [25,25,25,25]
def GF:LN:=Ō [33,33,33,33]
def hV:LN:=Ō [48,48]
def zg:LN:=J [ō4,dQ,[1]]
def vx:LN:=J [[41],ō3,[41,0,0,41,0],wD,[41,0,0,40,40,40]]
def vi:LN:=Ō [15,15,15,15]
def oD:LN:=J [[22,0,22,0],d8]
def AE:LN:=Ō [4,4,4,4]
def iX:LN:=J [gB,fO]
def gR:LN:=Ō [46,46]
def Cy:LN:=J [ō4,ō1]
def w4:LN:=Ō [0,2,0,2]
def Ag:LN:=Ō [0,8,0,8,0,8,8]
def ow:LN:=Ō [45,45]
def Mv:LN:=J [ō3,[2,0,0,2,0,2],ō2,[2,0,0]]
def Ax:LN:=Ō [0,2,2,0,0]
def sZ:LN:=Ō [70,70]
def Aa:LN:=J [ō6,ō2]
def CP:LN:=Ō [6,0,6,6,6]
def rT:LN:=J [[13,0],iQ]
def ri:LN:=Ō [80,80]
def oA:LN:=Ō [24,24]
def gw:LN:=Ō [3,0,0]
def Fy:LN:=J [ō6,ō1,gF,c9]
def vz:LN:=J [Mv,[1,1,1]]
def i_:LN:=J [[8],ō9]
def Ie:LN:=Ō [29,0,29,29,29]
def Hx:LN:=J [ō7,fP,[3],oF,fk]
def nK:LN:=Ō [1,0,1]
def wx:LN:=J [Aj,ir,[0,3]]
def C0:LN:=Ō [6,6,1,0]
def vP:LN:=Ō [54,54,54,54]
def vG:LN:=Ō [86,86,86,86]
def vF:LN:=J [[34,34,29,34,34],AC,GF,bP,[33,0,33,33,33,0,34,0,34,0]]
def we:LN:=J [gB,gz,ō6,[1],Ax,[2,0,0],ō2,[9,9,0,9,0],ir,[999975,0,8],ō4,ir,gz,fk,ō1,[10],Aj,ir,[0,2]]
def BS:LN:=J [gB,sK,ō5,vB,[12,0,2]]
def gJ:LN:=J [gB,Aj,ir,[0,2]]
def ed:LN:=J [CQ,c9]
def ec:LN:=J [cI,ō1]
def ol:LN:=J [[0],vi,[0,0,15,15],ō2,[14,0],fo,[14,0]]
def fj:LN:=J [wI,[0,30,30,14,30,30,0],lS,[2],ō1]
def yj:LN:=J [[4],fF,[4],fF,[4],ō3,[4]]
def yD:LN:=J [[2,1,1],iz,[1,1]]
def fQ:LN:=J [CP,CQ,[0,3,4,0]]
def r6:LN:=J [Ag,wg,[8],dR]
def oh:LN:=Ō [16,16,16,16]
def vX:LN:=Ō [42,42,42,42]
def q5:LN:=J [ō1,ō3]
def gN:LN:=Ō [2,2,2,2]
def iw:LN:=J [iQ,iQ]
def tV:LN:=J [[54,0,54,0],vP]
def zn:LN:=Ō [57,57,57,57]
def qK:LN:=J [[86,0,86,0],vG]
def rg:LN:=Ō [101,101,101,101]
def qt:LN:=J [[110,0,110,0],gW,gW]
def iE:LN:=J [gF,gF]
def ym:LN:=J [yp,bP,[25,0,25,25,25,0,26,0,26,0,26,26,21,26,26]]
def y5:LN:=J [[25,30,30],AC,[29,29,29,29],bP,Ie,wI,[0,30,30]]
def xq:LN:=J [ō1,eD,eD]
def vS:LN:=J [oz,d6]
def i6:LN:=J [ō4,[1,1]]
def oc:LN:=Ō [7,7,7,7]
def wa:LN:=Ō [30,30,30,30]
def Bb:LN:=Ō [63,63,63,63]
def AP:LN:=Ō [66,66,66,66]
def Bk:LN:=Ō [74,74,74,74]
def Bo:LN:=Ō [83,83,83,83]
def B5:LN:=Ō [89,89,89,89]
def Cp:LN:=Ō [95,95,95,95]
def AO:LN:=Ō [98,98,98,98]
def AU:LN:=Ō [104,104,104,104]
def A4:LN:=Ō [113,113,113,113]
def Ch:LN:=Ō [119,119,119,119]
def v8:LN:=J [[14,0,14,0],fo]
def E4:LN:=J [Aj,ir,[0,4],fO,[5]]
def Cn:LN:=J [w4,fk,[2],ō4,[1,1,1]]
def xZ:LN:=J [iz,[1,1,2],Cy,pQ,ō1,[1]]
def F7:LN:=J [bP,bP,ō6,[1,2,0,0],ō2]
def rh:LN:=J [ō1,[1,1]]
def Dq:LN:=Ō [107,107,107,107]
def Df:LN:=Ō [116,116,116,116]
def Fu:LN:=Ō [122,122,122,122]
def FB:LN:=Ō [125,125,125,125]
def GG:LN:=Ō [128,128,128,128]
def DR:LN:=Ō [131,131,131,131]
def Gk:LN:=Ō [134,134,134,134]
def Dl:LN:=Ō [137,137,137,137]
def Gh:LN:=Ō [140,140,140,140]
def Dv:LN:=Ō [143,143,143,143]
def xO:LN:=Ō [5,0,5,5,5]
def pq:LN:=J [eq,[0,4,0],gA,AE,[4],ō4,pQ]
def pS:LN:=J [BS,CN,[4,0,6,2]]
def qd:LN:=J [eq,[1,1]]
def ue:LN:=J [[1,0],eq,[2,1,1],fP,[3]]
def sW:LN:=J [[42],vx,[42],vx]
def rm:LN:=J [[41],ō3,wD,[41,41,0,40]]
def vW:LN:=Ō [8,8,0,8,8]
def v9:LN:=J [E4,iX]
def FE:LN:=Ō [102,102,102,102]
def v6:LN:=J [[5,5],yv]
def vJ:LN:=J [ō1,[2,2]]
def wb:LN:=Ō [4,23,23,23,0,23,0]
def FD:LN:=J [[3],ō1,c9,Aa,[1,1,0,2]]
def yl:LN:=J [[19,0,19,0],io,io]
def xg:LN:=J [[33,0,33,0],GF]
def xw:LN:=Ō [36,0,36,0,36,36,36,36]
def ya:LN:=J [[39,0,39,0],g_,g_]
def yZ:LN:=J [[42,0,42,0],vX]
def yO:LN:=J [[45,0,45,0],ow,ow]
def yK:LN:=J [[48,0,48,0],hV,hV]
def yG:LN:=Ō [51,0,51,0,51,51,51,51]
def zm:LN:=J [[57,0,57,0],zn]
def yV:LN:=J [[60,0,60,0],hE,hE]
def xB:LN:=J [[63,0,63,0],Bb]
def yu:LN:=J [[66,0,66,0],AP]
def xu:LN:=J [[74,0,74,0],Bk]
def yN:LN:=Ō [77,0,77,0,77,77,77,77]
def xf:LN:=J [[80,0,80,0],ri,ri]
def yd:LN:=J [[83,0,83,0],Bo]
def xL:LN:=J [[89,0,89,0],B5]
def xT:LN:=Ō [92,0,92,0,92,92,92,92]
def xz:LN:=J [[95,0,95,0],Cp]
def yy:LN:=J [[98,0,98,0],AO]
def xo:LN:=J [[104,0,104,0],AU]
def xy:LN:=J [[107,0,107,0],Dq]
def xD:LN:=J [[113,0,113,0],A4]
def yh:LN:=J [[116,0,116,0],Df]
def yc:LN:=J [[119,0,119,0],Ch]
def yn:LN:=J [[122,0,122,0],Fu]
def yE:LN:=J [[125,0,125,0],FB]
def zk:LN:=J [[128,0,128,0],GG]
def xn:LN:=J [[131,0,131,0],DR]
def yw:LN:=J [[134,0,134,0],Gk]
def xx:LN:=J [[137,0,137,0],Dl]
def x8:LN:=J [[140,0,140,0],Gh]
def y4:LN:=J [[143,0,143,0],Dv]
def xU:LN:=J [[3,2],vz,[3,2],vz]
def JD:LN:=J [oD,[17],d8,zg,sL,sL,bP,[21,0],sL,[21]]
def xi:LN:=J [ym,zg,yp,bP,[25,0,25,25,25],zf]
def E1:LN:=J [[25,30,30],zg,[29,29,29,29],bP,Ie,dQ,bP,[30],wI]
def xX:LN:=J [BS,CN,[4,0,8,2]]
def x_:LN:=J [we,wx,fO,[4]]
def yk:LN:=J [we,fO,[3],gJ]
def D_:LN:=J [[5],Fy,C0,[6],ō9,ō2,eD,[3],ō3,ō7,ō3,ō7,ō3,[3,4,0,1,0,5,5,5]]
def KP:LN:=J [ō2,C0,[6],ō9,[3,3,0,3,0,3,0,3,6],F7,[7,7],ō1,[7,7],ox]
def JX:LN:=J [ō1,[7,0,6,6,6],ō9,[0,6,6],ō9,dQ,[6],ō9,ō1,[6]]
def xH:LN:=J [wD,wD,[41],ō3,[41,40,0]]
def Bx:LN:=J [Fy,[9,9,1,0,9]]
def BP:LN:=Ō [46,60,108,111,99,97,108,115,62,46]
def BF:LN:=J [Ag,[8,8],ox,[7,7,0,0,7,7],ō2,CP]
def Bj:LN:=J [[13,0],rT,[6],iQ,[0,15,15,2],ō1]
def B2:LN:=J [[8],gF,[8,0,0,8,0,8],fF,[8,0,0,7,7,7]]
def BO:LN:=J [sL,sL,bP,[21,0],sL,[21,0],JD]
def A0:LN:=J [[6,0,6,0,6,6,6,6,6,6,6],dR]
def Cb:LN:=J [[38,0,38,0,38,38,38,38,38,38,38],dR]
def By:LN:=J [[62,0,62,0,62,62,62,62,62,62,62],dR]
def AX:LN:=J [[70,0,70,0],sZ,sZ,sZ,[70],dR]
def BW:LN:=J [[78,0,78,0,78,78,78,78,78,78,78],dR]
def BU:LN:=J [[94,0,94,0,94,94,94,94,94,94,94],dR]
def B7:LN:=J [[102,0,102,0],FE,[102,102,102],dR]
def Co:LN:=J [[11,0,11,0],dm,dm,dO,[12,0]]
def Bl:LN:=J [[3],ō1,[3,3],ō3]
def BQ:LN:=J [[10],dm,[11,0,11,0],dm]
def Bm:LN:=J [KP,[0,7],Fy,[8,8,1,0],i_,ō2,d6,yj,[5,0,1,0,7,7,7],yr,yr,d6,ō1,[7],ō2,[7,7],yv,[7,7],yv,d6,[7,7],yv,[7,7],yv,[7,7]]
def BN:LN:=J [[7,7],yv,d6]
def AY:LN:=J [oz,[7],oz,[0,7],Fy]
def Cd:LN:=J [ō9,ō2,d6,yj,[5,0,2],ox,[7],yr,yr,d6,yr,d6,[0,0],d6,d6,[0,0],d6]
def BC:LN:=J [ox,[7],vS,[7,7],yr,JX]
def Bz:LN:=J [xZ,ō1,[1],ō1,eq,[1,1,1,3,1,1,4],ō1,[1,1,1,3,1,1,4],ō1,pQ,[3,1,1,4],dQ,ō4,pQ,[5,1,1,6],ō1,[1,1,1,7,1,1,1,8],Cy,bP,[1],q5]
def A5:LN:=J [Cy,ō4,bP,[1],dQ,dQ]
def B9:LN:=J [[0,3,0,3],fR]
def AW:LN:=J [yD,oF,fk,[1,2],Hx,[2,2]]
def Bg:LN:=J [Hx,[3,2],ō7,fP,[3],oF,[5]]
def Bi:LN:=J [yD,oF,fk,[1,2,0,0],Hx,[2,2]]
def B4:LN:=J [Hx,[3,2,0,0],ō7,fP,[3],oF,[5]]
def B8:LN:=J [ō6,AE,ō6,AE]
def BZ:LN:=J [[17,0,17,0],fU,[16],fU,[0],io,[19],bP]
def AV:LN:=J [[13,0],rT,iQ,dO,[12,0]]
def KW:LN:=J [oD,[21],d8,[0],oA,[5],dO,dO,[24,0,0,5,0,0,12,0,12,0,12,0,0]]
def Bf:LN:=J [[28,0,28,0,28,28,23,28,28,0],lS,[0]]
def AT:LN:=J [[34,34,34,0,33,0,33,0,33],gw]
def Bt:LN:=J [[47],gF,[47,0,0,47,0,47],fF,[47,0,0]]
def A9:LN:=J [[52,52,52,0,41],gF]
def ET:LN:=J [[4],gF,[4],fF,[4,4,0,5]]
def E8:LN:=J [ō3,[3,3],fP,[1,0,3,0,3],dI,[4],gA,bP,[4],c9,[4],fF,[4,4,4],ō1,[4,0,0],ō1,[4,0,3,3,3],Aa,Aa,ō6,[1,2,0,0],ō2,[5,5,1,0,5],ō1,c9,Aa,[1,1,0,2],FD,fP,[0,0,3],ō1,c9,Aa,[1,1],w4,Cz,[1,2]]
def Ep:LN:=J [[0,4,0],gA,[4,4],pQ]
def Dn:LN:=J [[16,0,16,0],oh,ol]
def Gl:LN:=J [[22,0,2],d8,d8,d8,d8,[0]]
def EF:LN:=J [[25,0,25,0],yp,ol]
def Fh:LN:=J [[101,0,101,0],rg,bA]
def Ec:LN:=J [dm,[0,11,0],dm]
def GA:LN:=J [[18,18,13,18,18],zg,fU,fU,bP,[17,0],fU,[17],zf,fU,fU,bP,[17,0],fU,[17,0,18,0,18,0]]
def ER:LN:=J [y5,E1,[30],y5]
def DF:LN:=J [vF,vF,vF,vF]
def F1:LN:=J [Aj,ir,[0,5],fO]
def E0:LN:=J [wx,fO,[4],iX,[5]]
def EP:LN:=J [bX,v8,fo,fo,[14],dR]
def D7:LN:=J [bX,oD,d8,d8,[22],dR]
def Fv:LN:=J [bX,[30],wI,wa,[30,30],dR]
def F0:LN:=J [bX,[46,0,46,0],gR,gR,gR,[46],dR]
def Fe:LN:=J [bX,tV,[54,54,54],dR]
def F4:LN:=J [bX,qK,[86,86,86],dR]
def EE:LN:=J [bX,qt,gW,[110],dR]
def Fi:LN:=J [nK,[2],fP,c9,[7,7,0,7],ox,[7,1,0,7],ox,[7,8,0,2],wg,wg,r6,ir,[4,5,5,2],r6,fC,fC,[4,5,5]]
def Gd:LN:=J [ō2,[1,1],Cy,iz,gz,Cn,[2],ō2,iz,[3],Cn,[4],ō2,iz,[5]]
def Dy:LN:=J [[9,0,9,9,9,0,8,0,8,0,8,8,6,8,8],ō5,[10],ō5,[4,0]]
def Dx:LN:=J [[1,0],eq,[2,1,1,1,1,3,0,3]]
def FL:LN:=J [D_,ō1,eD,xq,xq]
def D9:LN:=J [[24,0,24,0],oA,[23],oA,[0,26,26,3],AE,[26]]
def FP:LN:=J [[4,4,0,4,4,0,4],gA,[0,0,4],ō2]
def FU:LN:=J [xO,w4,gz,[3],fR]
def FY:LN:=J [[7],iQ,[13,0],rT]
def F8:LN:=Ō [16,16,8,16,16,16,0,16,0]
def Dp:LN:=J [[9],io,[19,0,19,0],io]
def EJ:LN:=J [[23,0,23,23,23,0],KW]
def D0:LN:=J [ō3,[78,0,0,78,0,78],ō2,[78,0,0,77,77,77]]
def Kv:LN:=(J [nK,[2],Cz,[2,3,3,4],ō3,[4],ō2,[4,4,0,5,3,6,6,4]])
def JO:LN:=(J [nK,[2],fP,[4,6],ō2,[6],ō2,[6],ō3,[6,7],gw,[1,0,4,11,0,0,999975,0,11,10],dm,[11,1,0,11,0],dm,dm,[0],Co,Co,Co,Co,[11,0,11,0],dm,dm,[14,12,0,3,0,5,8,1]])
def KN:LN:=(J [Fi,[3],r6,dm,dm,[4,5,5,4,0,8,0,8,0,8,8],wg,[8],dR,dO,dO,[4,5,5,5],Ag,[8,14,1]])
def Lh:LN:=(J [Fi,[3],r6,dm,dm,[4,5,5,4],Bl,dO,dO,[4,5,5,3,3],gw,iw,[0,6,10],r6,fo,fo,[4,5,5,6],Bl,vi,[4,5,5,4,0,8,0,8,0,8,8,8,17,1]])
def Kt:LN:=(J [Fi,[3,3],ō1,[3,3],ō3,dm,dm,[4,5,5,2,3,3,0,0],dO,dO,[0,6,8],r6,iw,[4,5,5,5],Bl,fo,fo,[4,5,5,3],r6,vi,[4,5,5,6],Bl,oh,[4,5,5,5],Ag,[8,18,1]])
def Bp:LN:=(J [nK,[2,4,4,5],C0,[6,0,8,0,2],wg,wg,Ag,[6,8,8],ō5,[10],ō5,[4,0,2,0],Dy,[3,0],Dy,[4,0],Dy,[5,0,9,0,9,9,9,0,8,0,8,0,8,8,6,8,8,12],vB,[9,9,6,0,7,14,1]])
def J6:LN:=(J [Dx,[2],oc,[5,0,5,4,7,7,7,7,7],iz,[999973],pQ,vB,[1],ō5,[0],Ec,BQ,BQ,[10],dm,[13,0],vW,[8],ō1,[8,0,9,6,1]])
def Ly:LN:=(J [Dx,[2],oc,[5,0,5,4,7,7,7,7,7],iz,[999973],pQ,vB,[1],ō5,[0],Ec,BQ,BQ,[10],dm,[13,0],vW,[8],ō1,[1]])
def EG:LN:=(J [ō2,[1,1,1,0],ō6,ō1,fF,[1]])
def yB:LN:=(J [ō2,[1,1,1,0],ō6,ō1,fF,q5])
def Kz:LN:=(J [FL,ō2,[5,5,5],ō2,[5,5],ō9,ō1,eD,[5],oz,[1]])
def KZ:LN:=(J [KP,[1],d6,ox,[7],vS,[7,7],ō9,JX])
def Lx:LN:=(J [Bm,AY,[9,9,1,0,9],Cd,fC,[3,7],ō2,BN,ō1,[7],vS,ō2,d6,BC])
def J5:LN:=(J [Bm,AY,[9,9,1,0,9],Cd,fC,[3,7],ō2,[7],vS,BC])
def vL:LN:=(J [xZ,[2,2],w4,[0,2],ō1,fR,w4,[999973],pQ,[3,0,3],fR,fk,[1]])
def wc:LN:=(J [xZ,ō1,[1],ō1,[1,0],cI,[4,4],bP,[4],dI,[4],gF,ō6,[6,3,0,3],fR,[6,1]])
def Ck:LN:=(J [xZ,ō1,[1],ō1,[1,0],cI,[4,4],bP,[4],dI,[4,0,0],ō7,[0,0,3,3,0,3],fR,[8,1]])
def A_:LN:=(J [Bz,AE,ō2,bP,[12],dI,iw,[0,0],iQ,A5,[14,14,0,14,0,14],dQ,[1,1],B9,[18,1]])
def oq:LN:=(J [Bz,[4],ō2,bP,[6],dI,oc,[0,0,7,7],A5,[8,8,0,8,0,8],dQ,[1,1],B9,[18,1]])
def Ll:LN:=(J [Bz,AE,ō2,bP,[12],dI,iw,[0,0],iQ,A5,fo,[9],ō1,i6,B9,[20,1]])
def Bw:LN:=(J [Bz,[4],ō2,bP,[6],dI,oc,[0,0,7,7],A5,[8,8,9],ō1,i6,B9,[20,1]])

inductive Nd where
 |s(x:Stmt)
 |e(x:Expr)
 |no
noncomputable def TP:Option Expr→List Nd
 |some x=> [.e x]
 |none=> []
noncomputable def BB:List Comprehension→List Nd
 |[]=> []
 |g::r=> .e g.iter::(g.ifs.map .e++BB r)
noncomputable def Y8:Nd→List Nd
 | .no=> []
 | .s x=>match x with
  | .FunctionDef _ _ b _ _ _ _ _ _ _=>b.map .s
  | .ClassDef _ _ _ b _ _ _ _ _ _ _=>b.map .s
  | .Return v _=>TP v
  | .Assign ts v _=> .e v::ts.map .e
  | .AugAssign t _ v _=> [.e t,.e v]
  | .For t i b o _=> .e t:: .e i::(b.map .s++o.map .s)
  | .While t b o _=> .e t::(b.map .s++o.map .s)
  | .If t b o _=> .e t::(b.map .s++o.map .s)
  | .Expr v _=> [.e v]
  |_=> []
 | .e x=>match x with
  | .BoolOp _ vs _=>vs.map .e
  | .BinOp l _ r _=> [.e l,.e r]
  | .UnaryOp _ v _=> [.e v]
  | .Lambda _ b _ _=> [.e b]
  | .IfExp a b c _=> [.e a,.e b,.e c]
  | .Dict _ vs _=>vs.map .e
  | .ListComp a g _ _=> .e a::BB g
  | .DictComp a b g _ _=> .e a:: .e b::BB g
  | .GeneratorExp a g _ _=> .e a::BB g
  | .Compare l _ cs _=> .e l::cs.map .e
  | .Call f as _ _=> .e f::as.map .e
  | .Attribute v _ _=> [.e v]
  | .Subscript v s _=> [.e v,.e s]
  | .Starred v _=> [.e v]
  | .List vs _=>vs.map .e
  | .Tuple vs _ _=>vs.map .e
  |_=> []
noncomputable def Ug:List Nd→Nat→Nd
 |[],_=> .no
 |x::r,i=>match i with
  |0=>x
  |i+1=>Ug r i
noncomputable def UC:LN→Nd→Nd
 |[],x=>x
 |i::r,x=>UC r (Ug (Y8 x) i)
noncomputable def gV(l:LV)(i:Nat):Vl:=match l with
 |[]=> .none
 |x::r=>match i with
  |0=>x
  |i+1=>gV r i
noncomputable def gE(l:List DictEntry)(i:Nat):DictEntry:=match l with
 |[]=>⟨0,.none,.none⟩
 |x::r=>match i with
  |0=>x
  |i+1=>gE r i
noncomputable def gO(l:LL)(i:Nat):Obj:=match l with
 |[]=>default
 |x::r=>match i with
  |0=>x
  |i+1=>gO r i
noncomputable def gT(T:BT)(j:Nat):Obj:=match T.get j with
 |some o=>o
 |none=>default
noncomputable def bz(v:Vl):Nat:=match v with
 | .int _ t=>t
 | .float _ t=>t
 | .str _ t=>t
 | .bytes _ t=>t
 | .ref a=>a
 |_=>0
noncomputable def o5(o:Obj)(i:Nat):Vl:=match o with
 |⟨_,_,d,_⟩=>match d with
  | .seq xs _=>gV xs.toList i
  | .fields xs=>gV xs.toList i
  | .dict es _=>(gE es.toList i).val
  | .cell v=>match v with
   |some v=>v
   |none=> .none
  | .prim v=>v
  |_=> .none
noncomputable def kyO(o:Obj)(i:Nat):Vl:=match o with
 |⟨_,_,d,_⟩=>match d with
  | .dict es _=>(gE es.toList i).key
  |_=> .none
noncomputable def bO(o:Obj):Nat:=match o with
 |⟨_,_,d,_⟩=>match d with
  | .seq _ n=>n
  | .dict _ n=>n
  |_=>0
noncomputable def Qj(v:Vl):Nat:=match v with
 | .int i _=>match i with
  | .ofNat n=>n
  | .negSucc _=>0
 |_=>0
noncomputable def b_(c:Code)(i:Nat):Vl:=match c with
 | .call _ a=>gV a.pos i
 | .builtin _ a=>gV a.pos i
 | .compStart _ _ it acc _=>match i with
  |0=>it
  |_=>acc
 | .compLoop _ _ it acc _=>match i with
  |0=>it
  |_=>acc
 | .forLoop _ it _ _ _=>it
 |_=> .none
noncomputable def HE(c:Code):Env:=match c with
 | .compStart _ _ _ _ e=>e
 | .compLoop _ _ _ _ e=>e
 | .forLoop _ _ _ _ e=>e
 | .whileLoop _ _ _ e=>e
 | .func _ e=>e
 | .block _ e=>e
 |_=>default
noncomputable def Ju(c:Code)(i:Nat):Nat:=match i with
 |0=>(HE c).locals
 |1=>match(HE c).frame with
  |some a=>a
  |none=>0
 |2=>bz (HE c).code
 |i+3=>gC (HE c).cells i
where gC:List (Str×Addr)→Nat→Nat
 |[],_=>0
 |x::r,i=>match i with
  |0=>x.2
  |i+1=>gC r i
noncomputable def zV(l:LN)(i:Nat):Nat:=gx l i
noncomputable def lkC(i:Nat):List (Nat×(LN→Obj))→Option (LN→Obj)
 |[]=>none
 |x::r=>match Nat.beq x.1 i with
  |true=>some x.2
  |false=>lkC i r
noncomputable def Qe(c:List (Nat×(LN→Obj))):LL→Nat→List (LN→Obj)
 |[],_=> []
 |o::r,i=>(match lkC i c with
  |some f=>f
  |none=>fun _=>o)::Qe c r (i+1)
noncomputable def bW(pre:LL)(c:List (Nat×(LN→Obj)))(news:List (LN→Obj))(nt:Nat)(rv:LN→Re)(gl:LG):Spec:=
 {pre,post:=Qe c pre 0,news,nt,rv,gl,gl':=gl}
noncomputable def dC(r:Re):Vl:=match r with
 | .ok f=>match f with
  | .ret v=>v
  |_=> .none
 | .error v=>v
noncomputable def HN(l:LN):Nd:=UC l (.s (.ClassDef Str.empty [] [] TW.main.body [] [] default none Str.empty [] default))
noncomputable def d9(l:LN):Expr:=match HN l with
 | .e x=>x
 |_=>default
noncomputable def c7(l:LN):Scope:=match HN l with
 | .s x=>match x with
  | .FunctionDef _ _ _ _ _ _ sc _ _ _=>sc
  |_=>default
 | .e x=>match x with
  | .ListComp _ _ sc _=>sc
  | .DictComp _ _ _ sc _=>sc
  | .GeneratorExp _ _ sc _=>sc
  | .Lambda _ _ sc _=>sc
  |_=>default
 | .no=>default
noncomputable def Xm(l:LN)(it:Vl)(env:Env):Code:=match HN l with
 | .s x=>match x with
  | .For t _ b o _=> .forLoop t it b o env
  |_=> .block [] env
 |_=> .block [] env
noncomputable def dW(l:LN)(env:Env):Code:=match HN l with
 | .s x=>match x with
  | .While t b o _=> .whileLoop t b o env
  |_=> .block [] env
 |_=> .block [] env
noncomputable def C5(P:Pm)(n:Nat)(b:Bool):Pm:={P with followText:=fun r=>cond (Nat.beq (S.codeS r) n) b (P.followText r)}
noncomputable def c_(P:Pm)(j:Nat)(b:Bool):Pm:=match j with
 |0=>C5 P 10139888712337904147300001983332972444938612 b
 |1=>C5 P 2510650655181157320538776789020469319833841985448949215332 b
 |2=>C5 P 2128753998966767838836 b
 |_=>C5 P 2831041637402183652179144184793551905427079684854878925927 b
theorem ga(P:Pm){n:Nat}{s:String}(h:PySem.code s=n):C5 P n (P.followText s)=P:=by
 have key:(fun r=>cond (Nat.beq (S.codeS r) n) (P.followText s) (P.followText r))=P.followText:=by
  funext r
  cases e:Nat.beq (S.codeS r) n with
  |true=>rw[PW h e];rfl
  |false=>rfl
 unfold C5
 rw[key]
theorem f4(P:Pm)(j:Nat):∃b,c_ P j b=P:=by
 match j with
 |0=>exact⟨_,ga P (s:="special-get-raises") (by decide+kernel)⟩
 |1=>exact⟨_,ga P (s:="comprehension-iter-twice") (by decide+kernel)⟩
 |2=>exact⟨_,ga P (s:="set-order") (by decide+kernel)⟩
 |_+3=>exact⟨_,ga P (s:="fstring-hands-on-the-str") (by decide+kernel)⟩
theorem DO(P:Pm):c_ P 1 true=P∨c_ (c_ P 1 false) 0 true=P∨c_ (c_ P 1 false) 0 false=P:=by
 obtain⟨b,hb⟩:=f4 P 1
 cases b with
 |true=>exact .inl hb
 |false=>
  obtain⟨b',hb'⟩:=f4 P 0
  rw[hb]
  cases b' with
  |true=>exact .inr (.inl hb')
  |false=>exact .inr (.inr hb')
noncomputable def bs(P P':Pm):Bs:={prog:=TW,P:=P',Q:=fun j b=>c_ P j b,Q4:=fun b=>c_ (c_ P 1 false) 0 b,den:=Mr,kt:=bD P,ent:=RD,wak:=Qm,bnd:=PySem.W.R.bindR,isS:=PySem.W.Fast.tw2518677612232015263}
noncomputable def CY(x:Nat):LN→Bool
 |[]=>false
 |y::l=>match Nat.beq x y with
  |true=>true
  |false=>CY x l
noncomputable def Vq:LN→Bool
 |[]=>true
 |x::l=>match CY x l with
  |true=>false
  |false=>Vq l
theorem yL(x:Nat):∀l,CY x l=true↔x∈l
 |[]=>by simp[CY]
 |y::l=>by
  unfold CY
  cases e:Nat.beq x y with
  |true=>simp[Nat.eq_of_beq_eq_true e]
  |false=>
   have:x≠y:=fun h=>by subst h;simp at e
   simp[this,yL x l]
theorem eC:∀{l:LN},Vq l=true→l.Nodup
 |[],_=>List.nodup_nil
 |x::l,h=>by
  unfold Vq at h
  cases e:CY x l with
  |true=>rw[e] at h;cases h
  |false=>
   rw[e] at h
   exact List.nodup_cons.mpr ⟨fun hm=>Bool.false_ne_true (e.symm.trans ((yL x l).mpr hm)),eC h⟩
theorem ak{α:Type}{p:α→Prop}:∀h∈([]:List α),p h:=fun _ h=>nomatch h
theorem ac{α:Type}{p:α→Prop}{a:α}{l:List α}(h1:p a)(h2:∀h∈l,p h):∀h∈a::l,p h:=fun h hm=>by
 rcases List.mem_cons.mp hm with rfl|hm
 ·exact h1
 ·exact h2 h hm
theorem eZ{Γ:Ctx}{d d':Nat}(h:d'≤d)(b:Γ.Below (AG d')):Γ.Below (AG d):=by
 have b:=dL.mp b
 exact dL.mpr ⟨b.hd,Nat.le_trans b.fr h,Nat.le_trans b.un (by omega),fun _ e=>nomatch e⟩
theorem aE{M:Model}{kt:KT}{os:OS}{d d':Nat}(h:d'≤d){c:Code}{ad:LA}{S:Spec}(x:cb M kt os d c ad S):cb M kt os d' c ad S:=
 fun s K g l p n k Γ q e b=>x s K g l p n k Γ q e (eZ h b)
noncomputable def aJ(l:LL)(i j:Nat):Nat:=bz (o5 (gO l i) j)
noncomputable def aZ(l:LL)(i j:Nat):Nat:=bz (kyO (gO l i) j)
noncomputable def aY(T:BT)(i j:Nat):Nat:=bz (o5 (gT T i) j)
noncomputable def dZ(T:BT)(i j:Nat):Nat:=bz (kyO (gT T i) j)
noncomputable def Ed(o:Option Obj):Bool:=match o with
 |some ⟨_,_,.dict es _,_⟩=>es.toList.all (fun e=>isExactStrKey e.key)&&(es.toList.all fun e=> !(e.key.isStr (Str.mk ⟨[115,121,115,46,114,101,99,117,114,115,105,111,110,108,105,109,105,116]⟩)))
 |_=>false
theorem Zd:∀P,Ed ((bD P).get 2)=true:=fun P=>by kernel_rfl
theorem Gu{h:Heap}{o:Option Obj}(e:Ed o=true)(ho:∀x,o=some x→h.get? cStatics=some x):h.NoLimit:=by
 unfold Ed at e
 split at e
 ·rename_i c d es n sl
  rw[Bool.and_eq_true] at e
  have h2:=List.all_eq_true.mp e.2
  have h1:=List.all_eq_true.mp e.1
  refine⟨fun x=>nsFind es x,⟨_,es,n,ho _ rfl,rfl,fun y hy=> ?_,fun _=>rfl⟩,?_⟩
  ·have q:=h1 y (by simpa using hy)
   cases hk:y.key with
   |str s t=>exact⟨s,t,rfl⟩
   |_=>rw[hk] at q;cases q
  ·show nsFind es _=none
   unfold nsFind findBy
   have:es.find? (fun e=>(fun(n:Str)(v:Vl)=>v.isStr n) "sys.recursionlimit" e.key)=none:=by
    rw[Array.find?_eq_none]
    intro y hy
    have q:=h2 y (by simpa using hy)
    have e1:Str.mk ⟨[115,121,115,46,114,101,99,117,114,115,105,111,110,108,105,109,105,116]⟩=("sys.recursionlimit":Str):=by decide+kernel
    rw[e1] at q
    simpa using q
   rw[this];rfl
 ·cases e
theorem WX(P:Pm)(h:Heap)(H:∀a o,(bD P).get a=some o→h.get? a=some o):h.NoLimit:=Gu (Zd P) fun x e=>H _ x e
theorem av(w:Wd):iY (bs w.params w.params) w:=⟨rfl,fun j=>f4 _ j,DO _,A3,by show @PySem.W.R.bindR Unit Fin= @Sem.bind Unit Fin;rw[←PySem.W.R.bindR_eq],PySem.W.Fast.te2518677612232015263.symm,Io,IM,WX w.params⟩
section
variable{B:Bs}{w:Wd}{os:OS}{gh:LN→List (Addr×Obj)}
end
noncomputable abbrev HkU:=Code→(Re→K6)→K6
noncomputable abbrev TkU:=Code→(Code→K6)→K6
section
variable{B:Bs}{w:Wd}{os:OS}
noncomputable def HkU.Ok(B:Bs)(gh:LN→List (Addr×Obj))(w:Wd)(os:OS)(hdp:Nat)(h:HkU):Prop:=
 ∀ys h₀ c' κ T m sg tb ti gl xl s,bV (h c' κ T m sg tb ti gl xl)→Conc B.kt (gh xl) ys h₀ os T m sg tb ti gl s→(∀x∈gl,dp x)→
  codeAny (model B.prog w) (AG hdp) c' (fun r s'=>∃T' m' sg' tb' ti' gl' xl',bV (κ r T' m' sg' tb' ti' gl' xl')∧Conc B.kt (gh xl') ys h₀ os T' m' sg' tb' ti' gl' s'∧∀x∈gl',dp x) s
noncomputable def TkU.Ok(B:Bs)(gh:LN→List (Addr×Obj))(w:Wd)(os:OS)(dep:Nat)(h:TkU):Prop:=
 ∀ys h₀ R c' κ T m sg tb ti gl xl s,bV (h c' κ T m sg tb ti gl xl)→Conc B.kt (gh xl) ys h₀ os T m sg tb ti gl s→(∀x∈gl,dp x)→
  (∀c₂ T' m' sg' tb' ti' gl' xl' s',bV (κ c₂ T' m' sg' tb' ti' gl' xl')→Conc B.kt (gh xl') ys h₀ os T' m' sg' tb' ti' gl' s'→(∀x∈gl',dp x)→codeAny (model B.prog w) (AG dep) c₂ R s')→
  codeAny (model B.prog w) (AG dep) c' R s
noncomputable def eO:List HkU→Nat→Code→(Re→K6)→K6
 |[],_=>fun _ _=>aO 94
 |h::l,j=>match j with
  |0=>h
  |j+1=>eO l j
noncomputable def g6:List TkU→Nat→Code→(Code→K6)→K6
 |[],_=>fun _ _=>aO 88
 |h::l,j=>match j with
  |0=>h
  |j+1=>g6 l j
theorem cP{gh:LN→List (Addr×Obj)}{hdp:Nat}:∀{l:List HkU},(∀h∈l,HkU.Ok B gh w os hdp h)→zN B gh w os hdp (eO l)
 |[],_=>fun _ _ _ _ _ _ _ _ _ _ _ _ _ H=>False.elim H
 |h::l,hl=>fun ys h₀ j c' κ T m sg tb ti gl xl s H D hg=>by
  cases j with
  |zero=>exact hl h List.mem_cons_self ys h₀ c' κ T m sg tb ti gl xl s H D hg
  |succ j=>exact cP (fun x hx=>hl x (List.mem_cons_of_mem _ hx)) ys h₀ j c' κ T m sg tb ti gl xl s H D hg
theorem dM{gh:LN→List (Addr×Obj)}{dep:Nat}:∀{l:List TkU},(∀h∈l,TkU.Ok B gh w os dep h)→Aw B gh w os dep (g6 l)
 |[],_=>fun _ _ _ _ _ _ _ _ _ _ _ _ _ _ H=>False.elim H
 |h::l,hl=>fun ys h₀ R j c' κ T m sg tb ti gl xl s H D hg K=>by
  cases j with
  |zero=>exact hl h List.mem_cons_self ys h₀ R c' κ T m sg tb ti gl xl s H D hg K
  |succ j=>exact dM (fun x hx=>hl x (List.mem_cons_of_mem _ hx)) ys h₀ R j c' κ T m sg tb ti gl xl s H D hg K
noncomputable def Cj(h:LN→Hk):HkU:=fun c' κ T m sg tb ti gl xl=>
 (fun(ad:LN)(obs:LL)=>(fun(S:Spec)=>ov (h xl).slots c' ((h xl).code ad obs c') S (fun _=> []) (fun l=>κ (S.rv l)) T m sg tb ti gl xl) ((h xl).spec gl ad obs c')) ((h xl).slots.map (bx sg)) (cw T (h xl).slots)
noncomputable def Cm(h:LN→Hk):HkU:=fun c' κ T m sg tb ti gl xl=>(h xl).run c' κ T m sg tb ti gl xl
theorem NX{gh:LN→List (Addr×Obj)}{hdp:Nat}{h:LN→Hk}(ok:∀xl,(h xl).Ok B w os hdp):HkU.Ok B gh w os hdp (Cj h):=by
 intro ys h₀ c' κ T m sg tb ti gl xl s H D hg
 obtain⟨cy,hsum⟩:=ok xl
 unfold Cj at H
 dsimp only at H
 have hsum:=hsum gl ((h xl).slots.map (bx sg)) (cw T (h xl).slots) c'
 generalize (h xl).spec gl ((h xl).slots.map (bx sg)) (cw T (h xl).slots) c'=S at*
 obtain⟨hc,hgl,h1,h2,h3,h4⟩:=cL cy H D
 have z:=hsum s (gM D hg) (hgl▸D.gens) h1 h2 h3 h4
 rw[←hc] at z
 intro Γ p hΓ hb
 obtain⟨r,s',hr,as,ts,ha,ht,rfl,E⟩:=z Γ p hΓ hb
 obtain⟨T',m',sg',tb',ti',gl',K,D',g'⟩:=cR cy H D ha ht E
 exact⟨_,s',hr,T',m',sg',tb',ti',gl',_,K,D',g'⟩
noncomputable def aB(h:Hk):=Cj fun _=>h
theorem ae{gh:LN→List (Addr×Obj)}{hdp:Nat}{h:Hk}(ok:h.Ok B w os hdp):HkU.Ok B gh w os hdp (aB h):=NX fun _=>ok
theorem c8{gh:LN→List (Addr×Obj)}(hgh:∀a b,gh a=gh b){hdp:Nat}{h:LN→Hk}(ok:∀xl,(h xl).Ok B w os hdp):HkU.Ok B gh w os hdp (Cm h):=
 fun ys h₀ c' κ T m sg tb ti gl xl s H D hg=>Hk.sound hgh (ok xl) H D hg
noncomputable def Hk.OkA(B:Bs)(w:Wd)(os:OS)(hdp i a:Nat)(h:Hk):Prop:=
 h.slots.Nodup∧∀gl ad obs c,gx ad i=a→cb (model B.prog w) B.kt os hdp (h.code ad obs c) ad (h.spec gl ad obs c)
noncomputable def Mj(told:Bool)(i a:Nat)(h:LN→Hk):HkU:=fun c' κ T m sg tb ti gl xl=>
 (fun(ad:LN)(obs:LL)=> .nat (gx ad i) a ((fun(S:Spec)=>ov (h xl).slots c' ((h xl).code ad obs c') S (match told with|true=>(h xl).told ad obs c'|false=>fun _=> []) (fun l=>κ (S.rv l)) T m sg tb ti gl xl) ((h xl).spec gl ad obs c'))) ((h xl).slots.map (bx sg)) (cw T (h xl).slots)
theorem qx{gh:LN→List (Addr×Obj)}{told:Bool}(hgh:told=true→∀a b,gh a=gh b){hdp i a:Nat}{h:LN→Hk}(ok:∀xl,(h xl).OkA B w os hdp i a):HkU.Ok B gh w os hdp (Mj told i a h):=by
 intro ys h₀ c' κ T m sg tb ti gl xl s H D hg
 obtain⟨cy,hsum⟩:=ok xl
 unfold Mj at H
 dsimp only at H
 obtain⟨ha,H⟩:=H
 have hsum:=hsum gl ((h xl).slots.map (bx sg)) (cw T (h xl).slots) c' ha
 generalize (h xl).spec gl ((h xl).slots.map (bx sg)) (cw T (h xl).slots) c'=S at*
 obtain⟨hc,hgl,h1,h2,h3,h4⟩:=cL cy H D
 have z:=hsum s (gM D hg) (hgl▸D.gens) h1 h2 h3 h4
 rw[←hc] at z
 intro Γ p hΓ hb
 obtain⟨r,s',hr,as,ts,ha,ht,rfl,E⟩:=z Γ p hΓ hb
 obtain⟨T',m',sg',tb',ti',gl',K,D',g'⟩:=cR cy H D ha ht E
 cases told with
 |false=>exact⟨_,s',hr,T',m',sg',tb',ti',gl',_,K,D',g'⟩
 |true=>exact⟨_,s',hr,T',m',sg',tb',ti',gl',_,K,hgh rfl xl _▸D',g'⟩
structure Us where
 hs:List HkU:=[]
 ks:List TkU:=[]
 sam:List Sam:=[]
 fc:Nat→List (Nat×Nat):=fun _=> []
 fa:List Fac:=[]
 fb:List Fac2:=[]
 f3:List Fac3:=[]
structure Us.Ok(B:Bs)(gh:LN→List (Addr×Obj))(w:Wd)(os:OS)(dep hdp:Nat)(U:Us):Prop where
 hs:∀h∈U.hs,HkU.Ok B gh w os hdp h
 ks:∀h∈U.ks,TkU.Ok B gh w os dep h
 fc:∀tb,yo (U.fc tb)
 fa:∀F∈U.fa,F.l=F.r
 fb:∀F∈U.fb,∀a b,a≠b→F.l a b=F.r a b
 f3:∀F∈U.f3,F.l=F.r
noncomputable def exU(U:Us)(fct:List (Nat×Nat))(ad:LA)(S:Spec)(ns:LN)(tk:Re→BT→LN→LN):Ex:=
 ⟨pW (List.range ad.length) ad S ns tk,xV,eO U.hs,g6 U.ks,xK,U.sam,fct,i8,U.fa,U.fb,none,U.f3⟩
noncomputable def Ue(B:Bs)(dep hdp:Nat)(U:Us)(c:Code)(ad:LA)(S:Spec)(ns:LN)(tk:Re→BT→LN→LN)(n:Nat)(ora:LN):Out:=
 .need fun N=> .need fun tb=> .pos fun p=>bY (cf B dep hdp (exU U (U.fc tb) ad S ns tk)) n ora c p [] (B.den c) (cA S.pre .nil 0) ad.length ((ad.length,N)::d7 ad 0 []) tb 0 S.gl []
theorem aq(W:iY B w){dep hdp:Nat}{U:Us}(hU:U.Ok B xK w os dep hdp){c:Code}{ad:LA}{S:Spec}(ns:LN)(tk:Re→BT→LN→LN)(n:Nat)(ora:LN)
 (h1:Nat.beq ad.length S.post.length=true:=by exact rfl)(h2:Nat.beq ns.length S.news.length=true:=by exact rfl)(hn:(List.range ad.length++ns).Nodup:=by exact eC rfl)
 (run:bV (Ue B dep hdp U c ad S ns tk n ora):=by refine bm ?_;kernel_rfl):cb (model B.prog w) B.kt os dep c ad S:=by
 intro s K hgl hl hp cy hkt
 have D:=cB K (ys:=ad) (obs:=S.pre) hl hp cy hkt
 have e:s.gens.toList=S.gl:=by rw[hgl]
 rw[e] at D
 have hg:∀x∈S.gl,dp x:=by have:=K.gok;rwa[e] at this
 exact cj (e:=exU U (U.fc s.toks) ad S ns tk) (xl:=[]) W (cP hU.hs) (dM hU.ks) (hU.fc _) rfl hU.f3 hU.fa hU.fb (fun _ _ _ _ _ _ _ _ _ _ _ _ H=>False.elim H)
  (fun r ora T m sg tb ti gl xl s' H D hg'=>qB (ora:=ora) (xl:=xl) hn (by simp) (Nat.eq_of_beq_eq_true h1).symm (Nat.eq_of_beq_eq_true h2) hg' K.os H D)
  (fun _ _ _ _ _ _ _ _ _ _ H=>False.elim H) (run s.heap.objs.size s.toks) D hg
noncomputable def Uv(U:Us)(fct:List (Nat×Nat))(ad:LA)(S:Spec)(c₂:LN→Code)(ns:LN)(tk:BT→LN→LN):Ex:=
 ⟨fun _ _=>aO 87,fun c' o T m sg tb ti gl xl=> .cod c' (c₂ (ns.map (bx sg)++tk T xl)) (pW (List.range ad.length) ad {S with rv:=fun _=> .ok .next} ns (fun _=>tk) (.ok .next) o T m sg tb ti gl xl),eO U.hs,g6 U.ks,xK,U.sam,fct,i8,U.fa,U.fb,none,U.f3⟩
noncomputable def RC(B:Bs)(dep hdp:Nat)(U:Us)(c:Code)(ad:LA)(S:Spec)(c₂:LN→Code)(ns:LN)(tk:BT→LN→LN)(n:Nat)(ora:LN):Out:=
 .need fun N=> .need fun tb=> .pos fun p=>bY (cf B dep hdp (Uv U (U.fc tb) ad S c₂ ns tk)) n ora c p [] (B.den c) (cA S.pre .nil 0) ad.length ((ad.length,N)::d7 ad 0 []) tb 0 S.gl []
theorem aQ(W:iY B w){dep hdp:Nat}{U:Us}(hU:U.Ok B xK w os dep hdp){c:Code}{ad:LA}{S:Spec}{c₂:LN→Code}(ns:LN)(tk:BT→LN→LN)(n:Nat)(ora:LN)
 (h1:Nat.beq ad.length S.post.length=true:=by exact rfl)(h2:Nat.beq ns.length S.news.length=true:=by exact rfl)(hn:(List.range ad.length++ns).Nodup:=by exact eC rfl)
 (run:bV (RC B dep hdp U c ad S c₂ ns tk n ora):=by refine bm ?_;kernel_rfl):dy (model B.prog w) B.kt os dep c ad S c₂:=by
 intro s R K hgl hl hp cy hkt next
 have D:=cB K (ys:=ad) (obs:=S.pre) hl hp cy hkt
 have e:s.gens.toList=S.gl:=by rw[hgl]
 rw[e] at D
 have hg:∀x∈S.gl,dp x:=by have:=K.gok;rwa[e] at this
 refine cj (e:=Uv U (U.fc s.toks) ad S c₂ ns tk) (xl:=[]) (R:=R) W (cP hU.hs) (dM hU.ks) (hU.fc _) rfl hU.f3 hU.fa hU.fb (fun _ _ _ _ _ _ _ _ _ _ _ _ H=>False.elim H) (fun _ _ _ _ _ _ _ _ _ _ H=>False.elim H)
  (fun c' ora T m sg tb ti gl xl s' H D hg' _=> ?_) (run s.heap.objs.size s.toks) D hg
 obtain⟨hc,H⟩:=H
 obtain⟨as,ts,ha,ht,hv,E⟩:=im (S:={S with rv:=fun _=> .ok .next}) (ora:=ora) (xl:=xl) hn (by simp) (Nat.eq_of_beq_eq_true h1).symm (Nat.eq_of_beq_eq_true h2) hg' K.os H D
 rw[hc,hv.2]
 exact next s' as ts ha ht E
end
section
open PySem.SeqAt PySem.MeetsSeq PySem.Calls PyProof.Rows
noncomputable def fp(S:Spec)(ad:LA)(s:Ś)(r:Re)(s':Ś):Prop:=
 ∃as ts:LN,as.length=S.news.length∧ts.length=S.nt∧r=S.rv (as++ts)∧hO s s' (ad.zip (S.post.map (· (as++ts)))) (as.zip (S.news.map (· (as++ts)))) S.gl'
theorem cH{p:Program}{w:Wd}{kt:KT}{os:OS}{dep:Nat}{T id:String}{name:Str}{b:Builtin}(sl:Slot T name id)(en:entryFor table id=some b){self:Vl}{rest:LV}
 (ar:argsOk id ⟨self::rest,[]⟩){ad:LA}{S:Spec}
 (h:∀s,KH kt os s→s.gens=⟨S.gl⟩→ad.length=S.pre.length→(∀q∈ad.zip S.pre,s.heap.get? q.1=some q.2)→ad.Nodup→(∀a∈ad,∀o,kt.get a≠some o)→
  s.TypeIs self T∧wpAny (model p w) (AG dep).in1 (b ⟨self::rest,[]⟩) (fun fin s'=>match fin with
   | .done f=>fp S ad s (.ok f) s'
   | .again c'=>c'.quiet=true∧codeAny (model p w) (AG dep) c' (fp S ad s) s') (fun e s'=>fp S ad s (.error e) s') s):
 cb (model p w) kt os dep (.call (.builtin id) ⟨self::rest,[]⟩) ad S:=by
 intro s K g l q n k
 obtain⟨ht,hw⟩:=h s K g l q n k
 exact codeAny_call_builtin sl.plain en (sl.check _ _ _ _ _ _ _ _ ht ar hw)
theorem b6{s:Ś}{kt:KT}{os:OS}(K:KH kt os s){gl:LG}(g:s.gens=⟨gl⟩){ad:LA}{obs:LL}(q:∀p∈ad.zip obs,s.heap.get? p.1=some p.2)(l:LN){t:Nat}(ht:s.toks≤t:=by first|exact Nat.le_refl _|exact Nat.le_succ _|exact Nat.le_succ_of_le (Nat.le_succ _)|exact Nat.le_succ_of_le (Nat.le_succ_of_le (Nat.le_succ _))|omega):
 hO s {s with toks:=t} (ad.zip ((obs.map fun o=>fun(_:LN)=>o).map (· l))) (([]:LN).zip (([]:List (LN→Obj)).map (· l))) gl:=by
 have e:(obs.map fun o=>fun(_:LN)=>o).map (· l)=obs:=by simp[Function.comp_def]
 rw[e]
 refine⟨fun b o h _=>h,fun p hp=>q p (by simpa using hp),fun p hp=>by simp at hp,by simp,Nat.le_refl _,g,by have:=K.gok;rw[g] at this;exact this,rfl,Nat.le_trans K.tk ht⟩
noncomputable def eg(v:Vl):Bool:=match v with
 | .bool _=>true
 | .int _ _=>true
 | .str _ _=>true
 | .none=>true
 |_=>false
noncomputable def GV(a b:LN):Bool:=match a with
 |[]=>match b with
  |[]=>true
  |_::_=>false
 |x::a=>match b with
  |[]=>false
  |y::b=>match Nat.beq x y with
   |true=>GV a b
   |false=>false
theorem wW:∀a b:LN,GV a b=true↔a=b
 |[],[]=>by simp[GV]
 |[],_::_=>by simp[GV]
 |_::_,[]=>by simp[GV]
 |x::a,y::b=>by
  unfold GV
  cases e:Nat.beq x y with
  |true=>rw[Nat.eq_of_beq_eq_true e];simp[wW a b]
  |false=>
   have:x≠y:=fun h=>by subst h;simp at e
   simp[this,e]
noncomputable def dx(a b:Str):Bool:=match a with
 |⟨x⟩=>match b with
  |⟨y⟩=>GV x.toList y.toList
theorem je(a b:Str):dx a b=(a==b):=by
 obtain⟨⟨x⟩⟩:=a
 obtain⟨⟨y⟩⟩:=b
 show GV x y=_
 by_cases h:x=y
 ·subst h
  have:=(wW x x).mpr rfl
  rw[this];simp
 ·have h1:GV x y=false:=by
   cases e:GV x y with
   |true=>exact absurd ((wW x y).mp e) h
   |false=>rfl
  rw[h1]
  symm
  simp[h]
noncomputable def hH(b:Bool):Int:=cond b 1 0
noncomputable def zs(y x:Vl):Bool:=match y with
 | .bool a=>match x with
  | .bool b=>cond a b (!b)
  | .int j _=>hH a==j
  |_=>false
 | .int i _=>match x with
  | .bool b=>i==hH b
  | .int j _=>i==j
  |_=>false
 | .str a _=>match x with
  | .str b _=>dx a b
  |_=>false
 | .none=>match x with
  | .none=>true
  |_=>false
 |_=>false
theorem r8{A:Around}{s:Ś}{y x:Vl}(hy:eg y=true)(hx:eg x=true):EqAt A s y x (zs y x):=by
 cases y with
 |none=>
  cases x with
  |none=>exact EqAt.same _
  |bool b=>exact EqAt.none_bool b
  |int i t=>exact EqAt.none_int i t
  |str a t=>exact EqAt.none_str a t
  |_=>cases hx
 |bool a=>
  cases x with
  |none=>exact EqAt.bool_none a
  |bool b=>
   have:=EqAt.bool_bool (A:=A) (s:=s) a b
   have e:zs (.bool a) (.bool b)=(a==b):=by cases a<;>cases b<;>rfl
   rw[e];exact this
  |int i t=>
   have:=EqAt.bool_int (A:=A) (s:=s) a i t
   have e:zs (.bool a) (.int i t)=((if a then 1 else 0)==i):=by cases a<;>rfl
   rw[e];exact this
  |str b t=>exact EqAt.bool_str a b t
  |_=>cases hx
 |int i t=>
  cases x with
  |none=>exact EqAt.int_none i t
  |bool b=>
   have:=EqAt.int_bool (A:=A) (s:=s) i t b
   have e:zs (.int i t) (.bool b)=(i==(if b then 1 else 0)):=by cases b<;>rfl
   rw[e];exact this
  |int j u=>exact EqAt.int_int i t j u
  |str b u=>exact EqAt.int_str i t b u
  |_=>cases hx
 |str a t=>
  cases x with
  |none=>exact EqAt.str_none a t
  |bool b=>exact EqAt.str_bool a t b
  |int j u=>exact EqAt.str_int a t j u
  |str b u=>
   have:=EqAt.str_str (A:=A) (s:=s) a t b u
   have e:zs (.str a t) (.str b u)=(a==b):=je a b
   rw[e];exact this
  |_=>cases hx
 |_=>cases hy
noncomputable def cG(x:Vl):LV→Bool
 |[]=>false
 |y::r=>match zs y x with
  |true=>true
  |false=>cG x r
theorem iq(x:Vl):∀l:LV,cG x l=l.any fun y=>zs y x
 |[]=>rfl
 |y::r=>by
  rw[List.any_cons,←iq x r,cG]
  cases zs y x<;>rfl
noncomputable def B6:LV→Bool
 |[]=>true
 |y::r=>match eg y with
  |true=>B6 r
  |false=>false
theorem jW:∀{l:LV},B6 l=true→∀y∈l,eg y=true
 |[],_,_,h=>nomatch h
 |x::r,e,y,h=>by
  unfold B6 at e
  cases q:eg x with
  |true=>
   rw[q] at e
   rcases List.mem_cons.mp h with rfl|h
   ·exact q
   ·exact jW e y h
  |false=>rw[q] at e;cases e
noncomputable def jw(ad:LA):Spec:={pre:=default::ad.map fun _=>default,post:=[],news:=[],nt:=0,rv:=fun _=> .ok .next,gl:=[],gl':=[]}
theorem dV{M:Model}{kt:KT}{os:OS}{dep:Nat}{c:Code}{ad:LA}:cb M kt os dep c ad (jw ad):=by
 intro s K g l
 have:ad.length=ad.length+1:=by
  rw[show(jw ad).pre.length=ad.length+1 by simp[jw]] at l
  exact l
 omega
noncomputable def aL(obs:LL)(gl:LG)(nt:Nat)(rv:LN→Re):Spec:={pre:=obs,post:=obs.map fun o=>fun _=>o,news:=[],nt,rv,gl,gl':=gl}
section
variable{p:Program}{w:Wd}{kt:KT}{os:OS}{dep:Nat}
theorem vK{a:Addr}{n:Nat}{dd:Option Addr}{sl:Array (Option Vl)}{xs:Array Vl}{x:Vl}{gl:LG}(hx:eg x=true)(hi:∀y∈xs.toList,eg y=true):
 cb (model p w) kt os dep (.call (.builtin "list.__contains__") ⟨[.ref a,x],[]⟩) [a] (aL [⟨.type "list",dd,.seq xs n,sl⟩] gl 0 fun _=> .ok (.ret (.bool (cG x xs.toList)))):=by
 refine cH slot_list_contains entry_list_contains (args_list_contains _ _) fun s K g l q n k=> ?_
 have ho:s.heap.get? a=some _:=q (a,_) List.mem_cons_self
 refine⟨⟨_,ho,rfl⟩,?_⟩
 refine list_containsAt a xs _ dd sl x (fun y=>zs y x) p w (AG dep) _ s ⟨ho,fun y hy=>r8 (hi y (by simpa using hy)) hx,?_⟩
 have e:xs.any (fun y=>zs y x)=cG x xs.toList:=by rw[iq,Array.any_toList]
 rw[e]
 exact⟨[],[],rfl,rfl,rfl,b6 K g q _⟩
end
end
section
open PySem.SeqAt PySem.MeetsSeq PySem.Calls PyProof.Rows PyProof.Rows.KTD
noncomputable abbrev bT:=Str×Nat×Vl
noncomputable def uZ(P:Pm):List bT→List DictEntry
 |[]=> []
 |x::l=>D P x.1 x.2.1 x.2.2::uZ P l
noncomputable def bZ(k:Str):List bT→Option Vl
 |[]=>none
 |x::l=>match dx x.1 k with
  |true=>some x.2.2
  |false=>bZ k l
noncomputable abbrev fg(P:Pm)(l:List bT)(n:Nat):Obj:=⟨.type "dict",none,.dict ⟨uZ P l⟩ n,#[]⟩
theorem zi(a b:Str):dx a b=true↔a=b:=by rw[je];simp
theorem IO(P:Pm)(x:bT)(k:Str):(D P x.1 x.2.1 x.2.2).key.isStr k=dx x.1 k:=by
 rw[je];rfl
theorem BX(P:Pm):∀l,(uZ P l).length=l.length
 |[]=>rfl
 |x::l=>by simp[uZ,BX P l]
theorem Ce(P:Pm):∀l m,uZ P (l++m)=uZ P l++uZ P m
 |[],m=>rfl
 |x::l,m=>by simp[uZ,Ce P l m]
theorem rX(P:Pm):∀l:List bT,((uZ P l).all fun e=>isExactStrKey e.key)=true
 |[]=>rfl
 |x::l=>by
  show(isExactStrKey (Value.str x.1 x.2.1)&&(uZ P l).all fun e=>isExactStrKey e.key)=true
  rw[rX P l];rfl
theorem ux(P:Pm)(k:Str):∀l:List bT,((uZ P l).find? fun e=>e.key.isStr k).map (·.val)=bZ k l
 |[]=>rfl
 |x::l=>by
  rw[uZ,List.find?_cons,IO,bZ]
  cases dx x.1 k with
  |true=>rfl
  |false=>exact ux P k l
section
variable{p:Program}{w:Wd}{A:Around}{E:Vl→Ś→Prop}{s:Ś}
theorem sE{a:Addr}{l:List bT}{n:Nat}{k:Str}{t:Tok}{Q:Option Vl→Ś→Prop}(ho:s.heap.get? a=some (fg w.params l n))(h:Q (bZ k l) {s with toks:=s.toks+1}):
 wpAny (model p w) A (dictGet a (.str k t)) Q E s:=by
 unfold dictGet
 try with_reducible refine wpAny_holding ?_
 refine wpAny_bind (wpAny_pyHash_str (wpAny_bind (kt_dictFind_strs (s:={s with toks:=s.toks+1}) ho rfl (by simpa using rX w.params l) ?_)))
 have e:bZ k l=match(⟨uZ w.params l⟩:Array DictEntry).findIdx? (fun e=>e.key.isStr k) with|some i=>(⟨uZ w.params l⟩:Array DictEntry)[i]?.map (·.val)|none=>none:=by
  rw[←ux w.params k l]
  have:=findBy_of_findIdx? (fun(n:Str) v=>v.isStr n) (⟨uZ w.params l⟩:Array DictEntry) k
  exact Eq.trans (by simp[findBy]) this
 rw[e] at h
 cases hi:(⟨uZ w.params l⟩:Array DictEntry).findIdx? (fun e=>e.key.isStr k) with
 |none=>rw[hi] at h;exact wpAny_pure h
 |some i=>rw[hi] at h;exact wpAny_bind (wpAny_dictEntries (s:={s with toks:=s.toks+1}) ho rfl (wpAny_pure h))
theorem wS{P:Pm}{k:Str}{l:List bT}(h:bZ k l=none):(⟨uZ P l⟩:Array DictEntry).findIdx? (fun e=>e.key.isStr k)=none:=by
 rw[←ux P k l] at h
 rw[Array.findIdx?_eq_none_iff]
 intro x hx
 have h':(uZ P l).find? (fun e=>e.key.isStr k)=none:=by
  cases q:(uZ P l).find? (fun e=>e.key.isStr k) with
  |none=>rfl
  |some v=>rw[q] at h;cases h
 have:=List.find?_eq_none.mp h' x (by simpa using hx)
 simpa using this
theorem uN{a:Addr}{l:List bT}{n:Nat}{k:Str}{t:Tok}{v:Vl}{Q:Unit→Ś→Prop}(ho:s.heap.get? a=some (fg w.params l n))(hk:bZ k l=none)(hz:l.length≤1000)
 (h:∀h',h'.get? a=some (fg w.params (l++ [(k,t,v)]) (n+1))→Heap.SameBut a s.heap h'→Q () {s with heap:=h',toks:=s.toks+1}):
 wpAny (model p w) A (dictSet a (.str k t) v) Q E s:=by
 unfold dictSet
 try with_reducible refine wpAny_holding ?_
 refine wpAny_bind (wpAny_pyHash_str ?_)
 unfold dictSetHashed
 try with_reducible refine wpAny_holding ?_
 refine wpAny_bind (kt_dictFind_strs (s:={s with toks:=s.toks+1}) ho rfl (by simpa using rX w.params l) ?_)
 rw[wS hk]
 refine wpAny_bind (wpAny_rule (wpAny_updateDictKeys (s:={s with toks:=s.toks+1}) ho rfl ?_ (by rw[sizeLine_eq];simp[BX];omega) (by simp)))
 refine h _ ?_ (Heap.SameBut.update ..)
 have e:=Heap.get?_update_self (Obj.mapDictKeys fun x=>x.push ⟨hashStr w k,.str k t,v⟩) ho rfl
 rw[e]
 congr 1
 show Obj.mk _ _ (.dict _ _) _=Obj.mk _ _ (.dict _ _) _
 have e2:(⟨uZ w.params l⟩:Array DictEntry).push ⟨hashStr w k,.str k t,v⟩=⟨uZ w.params (l++ [(k,t,v)])⟩:=by
  apply Array.ext'
  rw[Ce,Array.toList_push];rfl
 rw[←e2]
end
theorem T8:∀P,((bD P).get 1).isSome=true:=fun P=>by kernel_rfl
theorem EK{P:Pm}{a:Addr}(h:∀o,(bD P).get a≠some o):(a==sysModules)=false:=by
 cases e:a==sysModules with
 |false=>rfl
 |true=>
  have:a=1:=eq_of_beq e
  subst this
  have q:=T8 P
  cases g:(bD P).get 1 with
  |none=>rw[g] at q;cases q
  |some o=>exact absurd g (h o)
section
variable{p:Program}{w:Wd}{os:OS}{dep:Nat}
theorem CU{a:Addr}{l:List bT}{n:Nat}{k:Str}{t:Tok}{gl:LG}:
 cb (model p w) (bD w.params) os dep (.call (.builtin "dict.__contains__") ⟨[.ref a,.str k t],[]⟩) [a] (aL [fg w.params l n] gl 0 fun _=> .ok (.ret (.bool (bZ k l).isSome))):=by
 refine cH F.slot_dict_contains F.entry_dict_contains (args_dict_contains _ _) fun s K g l' q _ hk=> ?_
 have ho:s.heap.get? a=some _:=q (a,_) List.mem_cons_self
 refine⟨⟨_,ho,rfl⟩,?_⟩
 show wpAny _ _ (dictGet a (.str k t)>>=_) _ _ s
 refine wpAny_bind (sE ho ?_)
 cases hf:bZ k l with
 |some v=>exact wpAny_pure ⟨[],[],rfl,rfl,rfl,b6 K g q _⟩
 |none=>
  show wpAny _ _ (Builtin.Dict.pendingKey? a (.str k t)>>=_) _ _ _
  exact wpAny_bind (wpAny_pendingKey_other (EK (hk a List.mem_cons_self)) (wpAny_pure ⟨[],[],rfl,rfl,rfl,b6 K g q _⟩))
theorem iP{s:Ś}{kt:KT}{os:OS}(K:KH kt os s){gl:LG}(g:s.gens=⟨gl⟩){a:Addr}{o:Obj}{nob:LN→Obj}(ho:s.heap.get? a=some o)(l:LN){h':Heap}{t:Nat}
 (hn:h'.get? a=some (nob l))(hs:Heap.SameBut a s.heap h')(ht:s.toks≤t:=by first|exact Nat.le_refl _|exact Nat.le_succ _|exact Nat.le_succ_of_le (Nat.le_succ _)|exact Nat.le_succ_of_le (Nat.le_succ_of_le (Nat.le_succ _))|omega):
 hO s {s with heap:=h',toks:=t} ([a].zip ([nob].map (· l))) (([]:LN).zip (([]:List (LN→Obj)).map (· l))) gl:=by
 refine⟨fun b o' h hb=>(hs.2 b fun z=>hb (by simp[z])).trans h,fun p hp=> ?_,fun p hp=>by simp at hp,by simp,Nat.le_of_eq hs.1.symm,g,by have:=K.gok;rw[g] at this;exact this,rfl,Nat.le_trans K.tk ht⟩
 have:p=(a,nob l):=by simpa using hp
 subst this;exact hn
theorem DG{a:Addr}{l:List bT}{n:Nat}{k:Str}{t:Tok}{v:Vl}{gl:LG}(h:bZ k l=none)(hz:l.length≤1000):
 cb (model p w) (bD w.params) os dep (.call (.builtin "dict.__setitem__") ⟨[.ref a,.str k t,v],[]⟩) [a]
  {pre:=[fg w.params l n],post:=[fun _=>fg w.params (l++ [(k,t,v)]) (n+1)],news:=[],nt:=0,rv:=fun _=> .ok (.ret .none),gl,gl':=gl}:=by
 refine cH F.slot_dict_setitem F.entry_dict_setitem (args_dict_setitem _ _ _) fun s K g l' q _ hk=> ?_
 have ho:s.heap.get? a=some _:=q (a,_) List.mem_cons_self
 refine⟨⟨_,ho,rfl⟩,?_⟩
 show wpAny _ _ (Builtin.Dict.notOrdered "__setitem__" ⟨[.ref a,.str k t,v],[]⟩>>=_) _ _ s
 refine wpAny_bind (wpAny_notOrdered_dict ⟨_,ho,rfl⟩ ?_)
 show wpAny _ _ (dictSet a (.str k t) v>>=_) _ _ s
 exact wpAny_bind (uN ho h hz fun h' hn hs=>wpAny_pure ⟨[],[],rfl,rfl,rfl,iP (nob:=fun _=>fg w.params (l++ [(k,t,v)]) (n+1)) K g ho _ hn hs⟩)
end
end
section
open PySem.SeqAt PySem.MeetsSeq PySem.Calls PyProof.Rows
theorem eQ{p:Program}{w:Wd}{kt:KT}{os:OS}{dep:Nat}{id:String}{b:Builtin}{args:Args}(pl:plainId id=true)(en:entryFor table id=some b)
 {ad:LA}{S:Spec}
 (h:∀s,KH kt os s→s.gens=⟨S.gl⟩→ad.length=S.pre.length→(∀q∈ad.zip S.pre,s.heap.get? q.1=some q.2)→ad.Nodup→(∀a∈ad,∀o,kt.get a≠some o)→
  wpAny (model p w) (AG dep).in1 (b args) (fun fin s'=>match fin with
   | .done f=>fp S ad s (.ok f) s'
   | .again c'=>c'.quiet=true∧codeAny (model p w) (AG dep) c' (fp S ad s) s') (fun e s'=>fp S ad s (.error e) s') s):
 cb (model p w) kt os dep (.builtin id args) ad S:=by
 intro s K g l q n k
 refine codeAny_builtin en ?_
 rw[Around.under_plainId pl]
 exact h s K g l q n k
theorem GY:plainId "collections.deque.popleft"=true:=by decide+kernel
theorem Hg:plainId "collections.deque.appendleft"=true:=by decide+kernel
theorem Hp:entryFor table "collections.deque.popleft"=some Builtin.«collections.deque.popleft»:=entryFor_of_fast (by kernel_rfl)
theorem IC:entryFor table "collections.deque.appendleft"=some Builtin.«collections.deque.appendleft»:=entryFor_of_fast (by kernel_rfl)
theorem G7:entryFor table "collections.deque.__len__"=some Builtin.«collections.deque.__len__»:=entryFor_of_fast (by kernel_rfl)
noncomputable abbrev v7(n:Nat)(xs:LV):Obj:=⟨.type "collections.deque",none,.fields ⟨.none:: .int (Int.ofNat n) 0::xs⟩,#[]⟩
theorem FG(n:Nat)(xs:LV):(⟨.none:: .int (Int.ofNat n) 0::xs⟩:Array Vl).extract 2 (xs.length+2)=⟨xs⟩:=by
 apply Array.ext'
 simp
section
variable{p:Program}{w:Wd}{kt:KT}{os:OS}{dep:Nat}{A:Around}{E:Vl→Ś→Prop}{s:Ś}
theorem zD{a:Addr}{n:Nat}{xs:LV}{Q:Array Vl→Ś→Prop}(ho:s.heap.get? a=some (v7 n xs))(h:Q ⟨xs⟩ s):wpAny (model p w) A (Builtin.Deque.items (.ref a)) Q E s:=by
 unfold Builtin.Deque.items
 refine wpAny_bind (wpAny_fieldsOf ho rfl (wpAny_pure ?_))
 rw[show(⟨Value.none:: .int (Int.ofNat n) 0::xs⟩:Array Vl).size=xs.length+2 from rfl,FG]
 exact h
theorem ot{a:Addr}{n:Nat}{xs ys:LV}{f:Array Vl→Array Vl}{Q:Unit→Ś→Prop}(ho:s.heap.get? a=some (v7 n xs))(hf:f ⟨xs⟩=⟨ys⟩)(hz:ys.length≤1000)
 (h:∀h',h'.get? a=some (v7 (n+1) ys)→Heap.SameBut a s.heap h'→Q () {s with heap:=h'}):wpAny (model p w) A (Builtin.Deque.change (.ref a) f) Q E s:=by
 unfold Builtin.Deque.change Builtin.Deque.state
 have hi:(⟨Value.none:: .int (Int.ofNat n) 0::xs⟩:Array Vl)[1]? =some (.int (Int.ofNat n) 0):=rfl
 refine wpAny_bind (wpAny_bind (wpAny_field ho rfl hi (wpAny_pure ?_)))
 have e:(#[(⟨Value.none:: .int (Int.ofNat n) 0::xs⟩:Array Vl).getD 0 .none,rawInt (if true=true then(Int.ofNat n)+1 else Int.ofNat n)]++f ((⟨Value.none:: .int (Int.ofNat n) 0::xs⟩:Array Vl).extract 2 (⟨Value.none:: .int (Int.ofNat n) 0::xs⟩:Array Vl).size):Array Vl)=⟨.none:: .int (Int.ofNat (n+1)) 0::ys⟩:=by
  rw[show(⟨Value.none:: .int (Int.ofNat n) 0::xs⟩:Array Vl).size=xs.length+2 from rfl,FG,hf]
  apply Array.ext'
  simp[rawInt]
 refine wpAny_updateFields ho rfl ?_ ?_
 ·refine h _ ?_ (Heap.SameBut.update ..)
  rw[Heap.get?_update_self _ ho rfl]
  congr 1
  show Obj.mk _ _ (.fields _) _=Obj.mk _ _ (.fields _) _
  exact congrArg (fun z=>Obj.mk (.type "collections.deque") none (.fields z) #[]) e
 ·refine Nat.le_trans (Nat.le_of_eq (congrArg Array.size e)) ?_
  rw[sizeLine_eq]
  show(_::_::ys).length≤_
  simp;omega
theorem Dg{a:Addr}{n:Nat}{x:Vl}{xs:LV}{gl:LG}(hz:xs.length≤1000):
 cb (model p w) kt os dep (.builtin "collections.deque.popleft" ⟨[.ref a],[]⟩) [a] {pre:=[v7 n (x::xs)],post:=[fun _=>v7 (n+1) xs],news:=[],nt:=0,rv:=fun _=> .ok (.ret x),gl,gl':=gl}:=by
 refine eQ GY Hp fun s K g l' q _ hk=> ?_
 have ho:s.heap.get? a=some _:=q (a,_) List.mem_cons_self
 unfold Builtin.«collections.deque.popleft»
 show wpAny _ _ (Builtin.Deque.items (.ref a)>>=_) _ _ s
 refine wpAny_bind (zD ho ?_)
 refine wpAny_bind (ot ho (ys:=xs) (by apply Array.ext';simp[Array.eraseIdxIfInBounds]) hz fun h' hn hs=>wpAny_pure ⟨[],[],rfl,rfl,rfl,iP (nob:=fun _=>v7 (n+1) xs) K g ho _ hn hs⟩)
theorem DV{a:Addr}{n:Nat}{x:Vl}{xs:LV}{gl:LG}(hz:xs.length≤999):
 cb (model p w) kt os dep (.builtin "collections.deque.appendleft" ⟨[.ref a,x],[]⟩) [a] {pre:=[v7 n xs],post:=[fun _=>v7 (n+1) (x::xs)],news:=[],nt:=0,rv:=fun _=> .ok (.ret .none),gl,gl':=gl}:=by
 refine eQ Hg IC fun s K g l' q _ hk=> ?_
 have ho:s.heap.get? a=some _:=q (a,_) List.mem_cons_self
 unfold Builtin.«collections.deque.appendleft»
 show wpAny _ _ (Builtin.Deque.pushLeft (.ref a) x>>=_) _ _ s
 refine wpAny_bind ?_
 unfold Builtin.Deque.pushLeft
 refine wpAny_bind (ot ho (ys:=x::xs) (by apply Array.ext';simp) (by simp;omega) fun h' hn hs=> ?_)
 unfold Builtin.Deque.maxlen
 refine wpAny_bind (wpAny_bind (wpAny_field hn rfl (i:=0) (x:= .none) rfl (wpAny_pure ?_)))
 exact wpAny_pure (wpAny_pure ⟨[],[],rfl,rfl,rfl,iP (nob:=fun _=>v7 (n+1) (x::xs)) K g ho _ hn hs⟩)
end
end
section
open PySem.SeqAt PySem.MeetsSeq PySem.Calls PyProof.Rows
theorem xI:plainId "list_iterator.__next__"=true:=by decide+kernel
noncomputable abbrev bn(v:Vl)(i:Nat):Obj:=⟨.type "list_iterator",none,.fields ⟨[v,.int (Int.ofNat i) 0]⟩,#[]⟩
noncomputable abbrev bu(xs:LV)(n:Nat):Obj:=⟨.type "list",none,.seq ⟨xs⟩ n,#[]⟩
noncomputable abbrev fA(t:Nat):Obj:=⟨.type "StopIteration",none,.fields ⟨[.ref t,.none,.none,.none,.bool false,.none]⟩,#[]⟩
noncomputable abbrev td:Obj:=⟨.type "tuple",none,.seq #[] 0,#[]⟩
theorem qR:firstArgMember (.type "StopIteration") []=pure .none:=by kernel_rfl
theorem yM:ownMembersOf (.type "StopIteration") []= #[]:=by kernel_rfl
section
variable{p:Program}{w:Wd}{kt:KT}{os:OS}{dep:Nat}
theorem wy{a b:Addr}{n i:Nat}{xs:LV}{x:Vl}{gl:LG}(hx:xs[i]? =some x):
 cb (model p w) kt os dep (.builtin "list_iterator.__next__" ⟨[.ref b],[]⟩) [b,a]
  {pre:=[bn (.ref a) i,bu xs n],post:=[fun _=>bn (.ref a) (i+1),fun _=>bu xs n],news:=[],nt:=0,rv:=fun _=> .ok (.ret x),gl,gl':=gl}:=by
 refine eQ xI entry_listiter_next fun s K g l' q nd hk=> ?_
 have hb:s.heap.get? b=some _:=q (b,_) List.mem_cons_self
 have ha:s.heap.get? a=some _:=q (a,_) (List.mem_cons_of_mem _ List.mem_cons_self)
 have hab:b≠a:=fun e=>by subst e;simp at nd
 unfold Builtin.«list_iterator.__next__»
 show wpAny _ _ (field (.ref b) 0>>=_) _ _ s
 refine wpAny_bind (wpAny_field hb rfl (x:= .ref a) rfl ?_)
 show wpAny _ _ (field (.ref b) 1>>=_) _ _ s
 refine wpAny_bind (wpAny_field hb rfl (x:= .int (Int.ofNat i) 0) rfl ?_)
 show wpAny _ _ (seqItems? (.ref a)>>=_) _ _ s
 refine wpAny_bind (wpAny_seqItems ha rfl ?_)
 have e:(⟨xs⟩:Array Vl)[(Int.ofNat i).toNat]? =some x:=by simpa using hx
 show wpAny _ _ (match(⟨xs⟩:Array Vl)[(Int.ofNat i).toNat]? with|some x=>_|none=>_) _ _ s
 rw[e]
 refine wpAny_bind (wpAny_setField hb rfl (by simp) (wpAny_pure ⟨[],[],rfl,rfl,rfl,?_⟩))
 have hs:Heap.SameBut b s.heap (s.heap.update b (Obj.mapFields (·.setIfInBounds 1 (rawInt ((Int.ofNat i)+1))))):=Heap.SameBut.update ..
 refine⟨fun c o' h hc=>(hs.2 c fun z=>hc (by simp[z])).trans h,fun p hp=> ?_,fun p hp=>by simp at hp,by simp,Nat.le_of_eq hs.1.symm,g,by have:=K.gok;rw[g] at this;exact this,rfl,K.tk⟩
 have hp:p=(b,bn (.ref a) (i+1))∨p=(a,bu xs n):=by simpa using hp
 rcases hp with rfl|rfl
 ·show Heap.get? (s.heap.update b _) b=_
  rw[Heap.get?_update_self _ hb rfl]
  rfl
 ·exact(hs.2 a hab.symm).trans ha
theorem wV{a b:Addr}{n i:Nat}{xs:LV}{gl:LG}(hx:xs.length≤i):
 cb (model p w) kt os dep (.builtin "list_iterator.__next__" ⟨[.ref b],[]⟩) [b,a]
  {pre:=[bn (.ref a) i,bu xs n],post:=[fun _=>bn .none i,fun _=>bu xs n],news:=[fun l=>fA (gx l 1),fun _=>td],nt:=0,rv:=fun l=> .error (.ref (gx l 0)),gl,gl':=gl}:=by
 refine eQ xI entry_listiter_next fun s K g l' q nd hk=> ?_
 have hb:s.heap.get? b=some _:=q (b,_) List.mem_cons_self
 have ha:s.heap.get? a=some _:=q (a,_) (List.mem_cons_of_mem _ List.mem_cons_self)
 have hab:b≠a:=fun e=>by subst e;simp at nd
 unfold Builtin.«list_iterator.__next__»
 show wpAny _ _ (field (.ref b) 0>>=_) _ _ s
 refine wpAny_bind (wpAny_field hb rfl (x:= .ref a) rfl ?_)
 show wpAny _ _ (field (.ref b) 1>>=_) _ _ s
 refine wpAny_bind (wpAny_field hb rfl (x:= .int (Int.ofNat i) 0) rfl ?_)
 show wpAny _ _ (seqItems? (.ref a)>>=_) _ _ s
 refine wpAny_bind (wpAny_seqItems ha rfl ?_)
 have e:(⟨xs⟩:Array Vl)[(Int.ofNat i).toNat]? =none:=by simpa using hx
 show wpAny _ _ (match(⟨xs⟩:Array Vl)[(Int.ofNat i).toNat]? with|some x=>_|none=>_) _ _ s
 rw[e]
 refine wpAny_bind (wpAny_rule ?_)
 refine wpAny_bind (wpAny_setField hb rfl (by simp) ?_)
 show wpAny _ _ ((newExc (.type "StopIteration") []>>=fun e=>raiseNew e):Sem _) _ _ _
 unfold newExc newTuple
 refine wpAny_bind (wpAny_bind (wpAny_newObj_type ?_ (by show(0:Nat)≤_;exact Nat.zero_le _)))
 refine wpAny_bind (m:=firstArgMember _ _) (wpAny_of_eq (a:=Value.none) qR ?_)
 rw[yM]
 refine wpAny_newObj_type ?_ (by show(6:Nat)≤_;rw[sizeLine_eq];decide)
 refine wpAny_raiseNew_none rfl ?_
 have hs:Heap.SameBut b s.heap (s.heap.update b (Obj.mapFields (·.setIfInBounds 0 .none))):=Heap.SameBut.update ..
 have hsz:(s.heap.update b (Obj.mapFields (·.setIfInBounds 0 .none))).objs.size=s.heap.objs.size:=hs.1
 generalize hh:s.heap.update b (Obj.mapFields (·.setIfInBounds 0 .none))=h1 at*
 have g1:h1.get? b=some (bn .none i):=by rw[←hh,Heap.get?_update_self _ hb rfl];rfl
 refine⟨[h1.objs.size+1,h1.objs.size],[],rfl,rfl,?_,?_⟩
 ·show Except.error _=Except.error _
  simp[Heap.size_push,gx]
 ·refine⟨fun c o' h hc=> ?_,fun p hp=> ?_,fun p hp=> ?_,?_,?_,g,by have:=K.gok;rw[g] at this;exact this,rfl,K.tk⟩
  ·exact Heap.get?_push_of_some _ (Heap.get?_push_of_some _ ((hs.2 c fun z=>hc (by simp[z])).trans h))
  ·have hp:p=(b,bn .none i)∨p=(a,bu xs n)∨p=(h1.objs.size+1,fA h1.objs.size)∨p=(h1.objs.size,td):=by simpa[gx] using hp
   rcases hp with rfl|rfl|rfl|rfl
   ·exact Heap.get?_push_of_some _ (Heap.get?_push_of_some _ g1)
   ·exact Heap.get?_push_of_some _ (Heap.get?_push_of_some _ ((hs.2 a hab.symm).trans ha))
   ·have:=Heap.get?_push_size (h1.push td) (o:=fA h1.objs.size) rfl
    rw[Heap.size_push] at this
    exact this
   ·exact Heap.get?_push_of_some _ (Heap.get?_push_size _ rfl)
  ·have hp:p=(h1.objs.size+1,fA h1.objs.size)∨p=(h1.objs.size,td):=by simpa[gx] using hp
   rcases hp with rfl|rfl
   ·show s.heap.objs.size≤h1.objs.size+1;omega
   ·show s.heap.objs.size≤h1.objs.size;omega
  ·simp
  ·show s.heap.objs.size≤((h1.push _).push _).objs.size
   rw[Heap.size_push,Heap.size_push];omega
end
end
section
open PySem.SeqAt PySem.MeetsSeq PySem.Calls PyProof.Rows
theorem v_:Slot "collections.deque" "__len__" "collections.deque.__len__":=
 .of (owner:="collections.deque") (n:="__len__") (by rw[typeLookup_type,builtinLookup_eq_fast];kernel_rfl) (by decide+kernel) (by decide+kernel) (by decide+kernel)
  (by first|exact .inl (by decide+kernel)|exact .inr (by decide+kernel)) (by rw[isSubtype_type];kernel_rfl)
theorem CR(a:Vl):argsOk "collections.deque.__len__" ⟨[a],[]⟩:=by unfold argsOk;kernel_rfl
theorem eK{s:Ś}{kt:KT}{os:OS}(K:KH kt os s){gl:LG}(g:s.gens=⟨gl⟩){ad:LA}{obs:LL}(q:∀p∈ad.zip obs,s.heap.get? p.1=some p.2)(t:Nat){k:Nat}(rv:LN→Re)(ht:s.toks≤k:=by first|exact Nat.le_refl _|exact Nat.le_succ _|exact Nat.le_succ_of_le (Nat.le_succ _)|exact Nat.le_succ_of_le (Nat.le_succ_of_le (Nat.le_succ _))|omega):
 fp (aL obs gl 1 rv) ad s (rv [t]) {s with toks:=k}:=⟨[],[t],rfl,rfl,rfl,b6 K g q _ ht⟩
section
variable{p:Program}{w:Wd}{kt:KT}{os:OS}{dep:Nat}
theorem Az{a:Addr}{n:Nat}{xs:LV}{gl:LG}(hz:xs.length≤1000):
 cb (model p w) kt os dep (.builtin "len" ⟨[.ref a],[]⟩) [a] (aL [v7 n xs] gl 1 fun l=> .ok (.ret (.int (Int.ofNat xs.length) (gx l 0)))):=by
 refine eQ plain_len entry_len fun s K g l' q _ hk=> ?_
 have ho:s.heap.get? a=some _:=q (a,_) List.mem_cons_self
 unfold Builtin.«len»
 refine wpAny_bind (m:=oneArg "len" _) (wpAny_pure ?_)
 refine wpAny_bind (m:=callSpecial? (.ref a) (Str.ofString "__len__")) (wpAny_callSpecial?_slot (name:=Str.ofString "__len__") ⟨_,ho,rfl⟩ v_
  (wpAny_call_entry v_ ⟨_,ho,rfl⟩ G7 ?_ (CR _)))
 show wpAny _ _ (do retInt (←Builtin.Deque.size (.ref a))) _ _ s
 unfold Builtin.Deque.size
 refine wpAny_bind (wpAny_bind (wpAny_fieldsOf ho rfl (wpAny_pure ?_)))
 refine wpAny_bind (wpAny_mkInt (wpAny_pure ⟨_,rfl,?_⟩))
 refine wpAny_bind (wpAny_holding (wpAny_pure ?_))
 refine wpAny_bind (wpAny_letGo ?_)
 have e:(((⟨Value.none:: .int (Int.ofNat n) 0::xs⟩:Array Vl).size -2:Nat):Int)=Int.ofNat xs.length:=rfl
 show wpAny _ _ (if(((⟨Value.none:: .int (Int.ofNat n) 0::xs⟩:Array Vl).size -2:Nat):Int)<0 then _ else _) _ _ _
 rw[e,if_neg (by simp)]
 show wpAny _ _ (if Int.ofNat xs.length≥2^63 then _ else _) _ _ _
 rw[if_neg (by simp;omega)]
 exact wpAny_bind (wpAny_mkInt (wpAny_pure (eK K g q _ _)))
end
end
section
open PySem.SeqAt PySem.MeetsSeq PySem.Calls PyProof.Rows
theorem qs{B:Bs}{w:Wd}{os:OS}{hdp:Nat}{h:Hk}(hn:h.slots.Nodup)(hl:∀gl ad obs c,(h.spec gl ad obs c).pre.length=1)
 (hs:∀gl a obs c,cb (model B.prog w) B.kt os hdp (h.code [a] obs c) [a] (h.spec gl [a] obs c)):h.Ok B w os hdp:=
 ⟨hn,fun gl ad obs c s K g l=>by
  have l':=l
  rw[hl] at l'
  obtain⟨y9,hf9⟩:=J_ l'
  have hf9:ad=[y9 0]:=hf9
  subst hf9
  exact hs gl (y9 0) obs c s K g l⟩
theorem Nj{B:Bs}{w:Wd}{os:OS}{hdp:Nat}{h:Hk}(hn:h.slots.Nodup)(hl:∀gl ad obs c,(h.spec gl ad obs c).pre.length=2)
 (hs:∀gl a b obs c,cb (model B.prog w) B.kt os hdp (h.code [a,b] obs c) [a,b] (h.spec gl [a,b] obs c)):h.Ok B w os hdp:=
 ⟨hn,fun gl ad obs c s K g l=>by
  have l':=l
  rw[hl] at l'
  obtain⟨y9,hf9⟩:=J_ l'
  have hf9:ad=[y9 0,y9 1]:=hf9
  subst hf9
  exact hs gl (y9 0) (y9 1) obs c s K g l⟩
noncomputable def DZ(n:Nat)(x:Vl)(xs:LV)(slots:LN):Hk:=
 ⟨slots,fun ad _ _=> .builtin "collections.deque.popleft" ⟨[.ref (gx ad 0)],[]⟩,fun gl _ _ _=>{pre:=[v7 n (x::xs)],post:=[fun _=>v7 (n+1) xs],news:=[],nt:=0,rv:=fun _=> .ok (.ret x),gl,gl':=gl},aC⟩
noncomputable def GK(n:Nat)(x:Vl)(xs:LV)(slots:LN):Hk:=
 ⟨slots,fun ad _ _=> .builtin "collections.deque.appendleft" ⟨[.ref (gx ad 0),x],[]⟩,fun gl _ _ _=>{pre:=[v7 n xs],post:=[fun _=>v7 (n+1) (x::xs)],news:=[],nt:=0,rv:=fun _=> .ok (.ret .none),gl,gl':=gl},aC⟩
noncomputable def Ao(n:Nat)(xs:LV)(slots:LN):Hk:=
 ⟨slots,fun ad _ _=> .builtin "len" ⟨[.ref (gx ad 0)],[]⟩,fun gl _ _ _=>aL [v7 n xs] gl 1 fun l=> .ok (.ret (.int (Int.ofNat xs.length) (gx l 0))),aC⟩
section
variable{w:Wd}{os:OS}{hdp:Nat}{slots:LN}
theorem Im{n:Nat}{x:Vl}{xs:LV}(hz:xs.length≤1000)(hn:slots.Nodup:=by decide):(DZ n x xs slots).Ok (bs w.params w.params) w os hdp:=qs hn (fun _ _ _ _=>rfl) fun _ _ _ _=>Dg hz
theorem II{n:Nat}{x:Vl}{xs:LV}(hz:xs.length≤999)(hn:slots.Nodup:=by decide):(GK n x xs slots).Ok (bs w.params w.params) w os hdp:=qs hn (fun _ _ _ _=>rfl) fun _ _ _ _=>DV hz
theorem Be{n:Nat}{xs:LV}(hz:xs.length≤1000)(hn:slots.Nodup:=by decide):(Ao n xs slots).Ok (bs w.params w.params) w os hdp:=qs hn (fun _ _ _ _=>rfl) fun _ _ _ _=>Az hz
end
noncomputable def MR(ty:String)(gl:LG)(ad:LA)(o:Obj)(x:Vl):Spec:=match o with
 |⟨_,dd,d,sl⟩=>match d with
  | .seq xs n=>match eg x with
   |true=>match B6 xs.toList with
    |true=>aL [⟨.type ty,dd,.seq xs n,sl⟩] gl 0 fun _=> .ok (.ret (.bool (cG x xs.toList)))
    |false=>jw ad
   |false=>jw ad
  |_=>jw ad
theorem Cs{p:Program}{w:Wd}{kt:KT}{os:OS}{dep:Nat}{a:Addr}{n:Nat}{dd:Option Addr}{sl:Array (Option Vl)}{xs:Array Vl}{x:Vl}{gl:LG}(hx:eg x=true)(hi:∀y∈xs.toList,eg y=true):
 cb (model p w) kt os dep (.call (.builtin "tuple.__contains__") ⟨[.ref a,x],[]⟩) [a] (aL [⟨.type "tuple",dd,.seq xs n,sl⟩] gl 0 fun _=> .ok (.ret (.bool (cG x xs.toList)))):=by
 refine cH slot_tuple_contains entry_tuple_contains (args_tuple_contains _ _) fun s K g l q n k=> ?_
 have ho:s.heap.get? a=some _:=q (a,_) List.mem_cons_self
 refine⟨⟨_,ho,rfl⟩,?_⟩
 refine tuple_containsAt a xs _ dd sl x (fun y=>zs y x) p w (AG dep) _ s ⟨ho,fun y hy=>r8 (hi y (by simpa using hy)) hx,?_⟩
 have e:xs.any (fun y=>zs y x)=cG x xs.toList:=by rw[iq,Array.any_toList]
 rw[e]
 exact⟨[],[],rfl,rfl,rfl,b6 K g q _⟩
noncomputable def ca(slots:LN):Hk:=⟨slots,fun ad _ c=> .call (.builtin "tuple.__contains__") ⟨[.ref (gx ad 0),b_ c 1],[]⟩,fun gl ad obs c=>MR "tuple" gl ad (gO obs 0) (b_ c 1),aC⟩
theorem dg{w:Wd}{os:OS}{hdp:Nat}{slots:LN}(hn:slots.Nodup:=by decide):(ca slots).Ok (bs w.params w.params) w os hdp:=⟨hn,fun gl ad obs c=>by
 show cb _ _ _ _ (.call (.builtin "tuple.__contains__") ⟨[.ref (gx ad 0),b_ c 1],[]⟩) ad (MR "tuple" gl ad (gO obs 0) (b_ c 1))
 unfold MR
 split
 split
 ·split
  ·rename_i hx
   split
   ·rename_i hi
    intro s K g l
    have l':ad.length=1:=l
    obtain⟨y9,hf9⟩:=J_ l'
    have hf9:ad=[y9 0]:=hf9
    subst hf9
    exact Cs hx (jW hi) s K g l
   ·exact dV
  ·exact dV
 ·exact dV⟩
end
section
open PySem.SeqAt PySem.MeetsSeq PySem.Calls PyProof.Rows
section
variable{w:Wd}{os:OS}{hdp:Nat}{slots:LN}
noncomputable def w6(P:Pm)(l:List bT)(n:Nat)(k:Str)(t:Nat)(res:Bool)(slots:LN):Hk:=
 ⟨slots,fun ad _ _=> .call (.builtin "dict.__contains__") ⟨[.ref (gx ad 0),.str k t],[]⟩,fun gl _ _ _=>aL [fg P l n] gl 0 fun _=> .ok (.ret (.bool res)),aC⟩
theorem xj{l:List bT}{n:Nat}{k:Str}{t:Nat}{res:Bool}(h:(bZ k l).isSome=res)(hn:slots.Nodup:=by decide):(w6 w.params l n k t res slots).Ok (bs w.params w.params) w os hdp:=
 qs hn (fun _ _ _ _=>rfl) fun gl a _ _=>by subst h;exact CU
noncomputable def ud(P:Pm)(l:List bT)(n:Nat)(k:Str)(t:Nat)(slots:LN):Hk:=
 ⟨slots,fun ad _ c=> .call (.builtin "dict.__setitem__") ⟨[.ref (gx ad 0),.str k t,b_ c 2],[]⟩,fun gl _ _ c=>{pre:=[fg P l n],post:=[fun _=>fg P (l++ [(k,t,b_ c 2)]) (n+1)],news:=[],nt:=0,rv:=fun _=> .ok (.ret .none),gl,gl':=gl},fun _ _ c _=> [bz (b_ c 2)]⟩
theorem wN{l:List bT}{n:Nat}{k:Str}{t:Nat}(h:bZ k l=none)(hz:l.length≤1000)(hn:slots.Nodup:=by decide):(ud w.params l n k t slots).Ok (bs w.params w.params) w os hdp:=
 qs hn (fun _ _ _ _=>rfl) fun gl a _ _=>DG h hz
noncomputable def fK(xs:LV)(n:Nat)(x:Vl)(res:Bool)(slots:LN):Hk:=
 ⟨slots,fun ad _ _=> .call (.builtin "list.__contains__") ⟨[.ref (gx ad 0),x],[]⟩,fun gl _ _ _=>aL [bu xs n] gl 0 fun _=> .ok (.ret (.bool res)),aC⟩
theorem gf{xs:LV}{n:Nat}{x:Vl}{res:Bool}(hx:eg x=true)(hi:∀y∈xs,eg y=true)(h:cG x xs=res)(hn:slots.Nodup:=by decide):(fK xs n x res slots).Ok (bs w.params w.params) w os hdp:=
 qs hn (fun _ _ _ _=>rfl) fun gl a _ _=>by subst h;exact vK hx (by simpa using hi)
theorem BK:plainId "list.append"=true:=by decide+kernel
theorem yC{p:Program}{kt:KT}{dep:Nat}{a:Addr}{n:Nat}{xs:LV}{v:Vl}{gl:LG}(hz:xs.length≤1000):
 cb (model p w) kt os dep (.builtin "list.append" ⟨[.ref a,v],[]⟩) [a] {pre:=[bu xs n],post:=[fun _=>bu (xs++ [v]) (n+1)],news:=[],nt:=0,rv:=fun _=> .ok (.ret .none),gl,gl':=gl}:=by
 refine eQ BK F.entry_list_append fun s K g l' q _ hk=> ?_
 have ho:s.heap.get? a=some _:=q (a,_) List.mem_cons_self
 unfold Builtin.«list.append»
 show wpAny _ _ (updateSeq a (·.push v)>>=_) _ _ s
 refine wpAny_bind (wpAny_updateSeq ho rfl (wpAny_pure ⟨[],[],rfl,rfl,rfl,iP (nob:=fun _=>bu (xs++ [v]) (n+1)) K g ho _ ?_ (Heap.SameBut.update ..)⟩) (by rw[sizeLine_eq];simp;omega) (by rw[sizeLine_eq];simp;omega))
 rw[Heap.get?_update_self _ ho rfl]
 congr 1
 show Obj.mk _ _ (.seq _ _) _=_
 simp
noncomputable def zA(xs:LV)(n:Nat)(v:Vl)(slots:LN):Hk:=
 ⟨slots,fun ad _ _=> .builtin "list.append" ⟨[.ref (gx ad 0),v],[]⟩,fun gl _ _ _=>{pre:=[bu xs n],post:=[fun _=>bu (xs++ [v]) (n+1)],news:=[],nt:=0,rv:=fun _=> .ok (.ret .none),gl,gl':=gl},aC⟩
theorem BM{xs:LV}{n:Nat}{v:Vl}(hz:xs.length≤1000)(hn:slots.Nodup:=by decide):(zA xs n v slots).Ok (bs w.params w.params) w os hdp:=qs hn (fun _ _ _ _=>rfl) fun gl a _ _=>yC hz
noncomputable def cJ(xs:LV)(n i:Nat)(x:Vl)(slots:LN):Hk:=
 ⟨slots,fun ad _ _=> .builtin "list_iterator.__next__" ⟨[.ref (gx ad 0)],[]⟩,fun gl ad _ _=>{pre:=[bn (.ref (gx ad 1)) i,bu xs n],post:=[fun _=>bn (.ref (gx ad 1)) (i+1),fun _=>bu xs n],news:=[],nt:=0,rv:=fun _=> .ok (.ret x),gl,gl':=gl},aC⟩
theorem cg{xs:LV}{n i:Nat}{x:Vl}(hx:xs[i]? =some x)(hn:slots.Nodup:=by decide):(cJ xs n i x slots).Ok (bs w.params w.params) w os hdp:=Nj hn (fun _ _ _ _=>rfl) fun gl a b _ _=>wy hx
noncomputable def rB(xs:LV)(n i:Nat)(slots:LN):Hk:=
 ⟨slots,fun ad _ _=> .builtin "list_iterator.__next__" ⟨[.ref (gx ad 0)],[]⟩,fun gl ad _ _=>{pre:=[bn (.ref (gx ad 1)) i,bu xs n],post:=[fun _=>bn .none i,fun _=>bu xs n],news:=[fun l=>fA (gx l 1),fun _=>td],nt:=0,rv:=fun l=> .error (.ref (gx l 0)),gl,gl':=gl},aC⟩
theorem oQ{xs:LV}{n i:Nat}(hx:xs.length≤i)(hn:slots.Nodup:=by decide):(rB xs n i slots).Ok (bs w.params w.params) w os hdp:=Nj hn (fun _ _ _ _=>rfl) fun gl a b _ _=>wV hx
end
end
noncomputable def ao:Str:=S [95,83,116,114,105,110,103,73,79,95,95,98,117,102]
noncomputable def aj:Str:=S [95,83,116,114,105,110,103,73,79,95,95,110,101,119,108,105,110,101]
noncomputable def ap:Str:=S [95,83,116,114,105,110,103,73,79,95,95,112,111,115]
noncomputable def wi:Str:=S [95,100,105,114,115]
noncomputable def ik:Str:=S [95,105,103,110,111,114,101]
noncomputable def wt:Str:=S [95,109,111,100,115]
noncomputable def ai:Str:=S [95,112,117,110,99,116,117,97,116,105,111,110,95,99,104,97,114,115]
noncomputable def az:Str:=S [99,111,109,109,101,110,116,101,114,115]
noncomputable def br:Str:=S [100,101,98,117,103]
noncomputable def cu:Str:=S [101,111,102]
noncomputable def aS:Str:=S [101,115,99,97,112,101]
noncomputable def au:Str:=S [101,115,99,97,112,101,100,113,117,111,116,101,115]
noncomputable def bg:Str:=S [101,115,99,97,112,101,100,115,116,97,116,101]
noncomputable def aF:Str:=S [102,105,108,101,115,116,97,99,107]
noncomputable def aN:Str:=S [115,104,108,101,120,46,114,101,97,100,95,116,111,107,101,110,46,60,108,111,99,97,108,115,62,46]
noncomputable def ah:Str:=S [97,98,99,100,102,101,103,104,105,106,107,108,109,110,111,112,113,114,115,116,117,118,119,120,121,122,65,66,67,68,69,70,71,72,73,74,75,76,77,78,79,80,81,82,83,84,85,86,87,88,89,90,48,49,50,51,52,53,54,55,56,57,95,223,224,225,226,227,228,229,230,231,232,233,234,235,236,237,238,239,240,241,242,243,244,245,246,248,249,250,251,252,253,254,255,192,193,194,195,196,197,198,199,200,201,202,203,204,205,206,207,208,209,210,211,212,213,214,216,217,218,219,220,221,222]
noncomputable def A1:Str:=S [105,103,110,111,114,101]
noncomputable def aV:Str:=S [105,110,102,105,108,101]
noncomputable def aI:Str:=S [105,110,115,116,114,101,97,109]
noncomputable def aX:Str:=S [108,105,110,101,110,111]
noncomputable def b5:Str:=S [110,101,120,116,99,104,97,114]
noncomputable def bk:Str:=S [112,111,115,105,120]
noncomputable def aH:Str:=S [112,117,115,104,98,97,99,107]
noncomputable def cx:Str:=S [113,117,111,116,101,100]
noncomputable def aW:Str:=S [113,117,111,116,101,115]
noncomputable def du:Str:=S [115,101,108,102]
noncomputable def aT:Str:=S [115,111,117,114,99,101]
noncomputable def bq:Str:=S [115,116,97,116,101]
noncomputable def bo:Str:=S [116,111,107,101,110]
noncomputable def ay:Str:=S [119,104,105,116,101,115,112,97,99,101]
noncomputable def an:Str:=S [119,104,105,116,101,115,112,97,99,101,95,115,112,108,105,116]
noncomputable def aD:Str:=S [119,111,114,100,99,104,97,114,115]
noncomputable def aw:Str:=S [32,9,13,10]
noncomputable def aU:Str:=S [39,34]
section
variable(w:Wd)(os:OS)
noncomputable def Nf(n:Nat)(st:Vl)(xa:Str)(xt:Nat)(xs:LV):PC:=fun ad t=>(.call (.ref 779) ⟨[.ref (gx ad 0)],[]⟩)
noncomputable def Z5(n:Nat)(st:Vl)(xa:Str)(xt:Nat)(xs:LV):PO:=fun P ad t=>[(O (.ref 818) (some (gx ad 1)) .plain ⟨[]⟩),(O (.type "dict") none (.dict ⟨[D P aI (t 0) (.ref (t 1)),D P aV (t 2) .none,D P bk (t 3) (.bool true),D P cu (t 4) .none,D P az (t 5) (.str ⟨⟨[35]⟩⟩ (t 6)),D P aD (t 7) (.str ah (t 8)),D P ay (t 9) (.str aw (t 10)),D P an (t 11) (.bool false),D P aW (t 12) (.str aU (t 13)),D P aS (t 14) (.str ⟨⟨[92]⟩⟩ (t 15)),D P au (t 16) (.str ⟨⟨[34]⟩⟩ (t 17)),D P bq (t 18) st,D P aH (t 19) (.ref (gx ad 2)),D P aX (t 20) (.int 1 (t 21)),D P br (t 22) (.int 0 (t 23)),D P bo (t 24) (.str ⟨⟨[]⟩⟩ (t 25)),D P aF (t 26) (.ref (t 27)),D P aT (t 28) .none,D P ai (t 29) (.str ⟨⟨[]⟩⟩ (t 30))]⟩ (t 31)) ⟨[]⟩),v7 n (.str xa xt::xs)]
noncomputable def OZ(n:Nat)(st:Vl)(xa:Str)(xt:Nat)(xs:LV):PS:=fun P gl ad t=>bW (Z5 n st xa xt xs P ad t) [(2,fun l=>v7 (n+1) xs)] [] 0 (fun l=> .ok (.ret (.str xa xt))) gl
noncomputable def Jg(obs:LL)(c:Code):LN:=[aZ obs 1 0,aJ obs 1 0,aZ obs 1 1,aZ obs 1 2,aZ obs 1 3,aZ obs 1 4,aJ obs 1 4,aZ obs 1 5,aJ obs 1 5,aZ obs 1 6,aJ obs 1 6,aZ obs 1 7,aZ obs 1 8,aJ obs 1 8,aZ obs 1 9,aJ obs 1 9,aZ obs 1 10,aJ obs 1 10,aZ obs 1 11,aZ obs 1 12,aZ obs 1 13,aJ obs 1 13,aZ obs 1 14,aJ obs 1 14,aZ obs 1 15,aJ obs 1 15,aZ obs 1 16,aJ obs 1 16,aZ obs 1 17,aZ obs 1 18,aJ obs 1 18,bO (gO obs 1)]
noncomputable def aat(r:Re)(T:BT)(xl:LN):LN:=[]
theorem gt(n:Nat)(st:Vl)(xa:Str)(xt:Nat)(xs:LV)(hz:xs.length≤999)(a0 a1 a2:Nat)(gl:LG)(t:NN):SA w os 700 (Nf n st xa xt xs) (OZ n st xa xt xs w.params gl) [a0,a1,a2] t:=
 aG (av w) (hdp:=800) (hs:=[Ao n (.str xa xt::xs) [2],DZ n (.str xa xt) xs [2]]) (ks:=[]) (ac (Be (by simp;omega)) (ac (Im (by omega)) ak)) ak [] aat 109 (J [ō2,[4,4,1,0,4],ō9,[3,3,1,4],ō9,[3,3,3,3,0,3],gA,[4],ō9,ō1,[4]])
noncomputable def Zv(n:Nat)(st:Vl)(xa:Str)(xt:Nat)(xs:LV)(P:Pm)(slots:LN):Hk:=⟨slots,fun ad obs c=>Nf n st xa xt xs ad (gx (Jg obs c)),fun gl ad obs c=>OZ n st xa xt xs P gl ad (gx (Jg obs c)),aC⟩
theorem S9(w:Wd)(os:OS)(n:Nat)(st:Vl)(xa:Str)(xt:Nat)(xs:LV)(hz:xs.length≤999){slots:LN}(hn:slots.Nodup:=by decide){hdp:Nat}(hd:hdp≤700:=by decide):Hk.Ok (bs w.params w.params) w os hdp (Zv n st xa xt xs w.params slots):=⟨hn,fun gl ad obs c=>aE hd (by
 intro s K g hL
 have hL':ad.length=3:=hL
 obtain⟨y9,hf⟩:=J_ hL'
 have hf:ad=[y9 0,y9 1,y9 2]:=hf
 subst hf
 exact gt w os _ _ _ _ _ hz _ _ _ gl _ s K g hL)⟩
noncomputable def NL(n:Nat)(st:Vl)(xa:Str)(xt:Nat)(xs:LV):PC:=fun ad t=>(.call (.ref 757) ⟨[.ref (gx ad 0),.str xa xt],[]⟩)
noncomputable def Zc(n:Nat)(st:Vl)(xa:Str)(xt:Nat)(xs:LV):PO:=fun P ad t=>[(O (.ref 818) (some (gx ad 1)) .plain ⟨[]⟩),(O (.type "dict") none (.dict ⟨[D P aI (t 0) (.ref (t 1)),D P aV (t 2) .none,D P bk (t 3) (.bool true),D P cu (t 4) .none,D P az (t 5) (.str ⟨⟨[35]⟩⟩ (t 6)),D P aD (t 7) (.str ah (t 8)),D P ay (t 9) (.str aw (t 10)),D P an (t 11) (.bool false),D P aW (t 12) (.str aU (t 13)),D P aS (t 14) (.str ⟨⟨[92]⟩⟩ (t 15)),D P au (t 16) (.str ⟨⟨[34]⟩⟩ (t 17)),D P bq (t 18) st,D P aH (t 19) (.ref (gx ad 2)),D P aX (t 20) (.int 1 (t 21)),D P br (t 22) (.int 0 (t 23)),D P bo (t 24) (.str ⟨⟨[]⟩⟩ (t 25)),D P aF (t 26) (.ref (t 27)),D P aT (t 28) .none,D P ai (t 29) (.str ⟨⟨[]⟩⟩ (t 30))]⟩ (t 31)) ⟨[]⟩),v7 n xs]
noncomputable def P1(n:Nat)(st:Vl)(xa:Str)(xt:Nat)(xs:LV):PS:=fun P gl ad t=>bW (Zc n st xa xt xs P ad t) [(2,fun l=>v7 (n+1) (.str xa xt::xs))] [] 0 (fun l=> .ok (.ret .none)) gl
noncomputable def Jh(obs:LL)(c:Code):LN:=[aZ obs 1 0,aJ obs 1 0,aZ obs 1 1,aZ obs 1 2,aZ obs 1 3,aZ obs 1 4,aJ obs 1 4,aZ obs 1 5,aJ obs 1 5,aZ obs 1 6,aJ obs 1 6,aZ obs 1 7,aZ obs 1 8,aJ obs 1 8,aZ obs 1 9,aJ obs 1 9,aZ obs 1 10,aJ obs 1 10,aZ obs 1 11,aZ obs 1 12,aZ obs 1 13,aJ obs 1 13,aZ obs 1 14,aJ obs 1 14,aZ obs 1 15,aJ obs 1 15,aZ obs 1 16,aJ obs 1 16,aZ obs 1 17,aZ obs 1 18,aJ obs 1 18,bO (gO obs 1)]
noncomputable def WP(r:Re)(T:BT)(xl:LN):LN:=[]
theorem pt(n:Nat)(st:Vl)(xa:Str)(xt:Nat)(xs:LV)(hz:xs.length≤999)(a0 a1 a2:Nat)(gl:LG)(t:NN):SA w os 700 (NL n st xa xt xs) (P1 n st xa xt xs w.params gl) [a0,a1,a2] t:=
 aG (av w) (hdp:=800) (hs:=[GK n (.str xa xt) xs [2]]) (ks:=[]) (ac (II (by omega)) ak) ak [] WP 81 (J [ō2,[4],gA,[1,0,4],ō9,ō1,[4],ō9,[3,3,3,3,4,0,3,2]])
noncomputable def Xe(n:Nat)(st:Vl)(xa:Str)(xt:Nat)(xs:LV)(P:Pm)(slots:LN):Hk:=⟨slots,fun ad obs c=>NL n st xa xt xs ad (gx (Jh obs c)),fun gl ad obs c=>P1 n st xa xt xs P gl ad (gx (Jh obs c)),aC⟩
theorem SU(w:Wd)(os:OS)(n:Nat)(st:Vl)(xa:Str)(xt:Nat)(xs:LV)(hz:xs.length≤999){slots:LN}(hn:slots.Nodup:=by decide){hdp:Nat}(hd:hdp≤700:=by decide):Hk.Ok (bs w.params w.params) w os hdp (Xe n st xa xt xs w.params slots):=⟨hn,fun gl ad obs c=>aE hd (by
 intro s K g hL
 have hL':ad.length=3:=hL
 obtain⟨y9,hf⟩:=J_ hL'
 have hf:ad=[y9 0,y9 1,y9 2]:=hf
 subst hf
 exact pt w os _ _ _ _ _ hz _ _ _ gl _ s K g hL)⟩
noncomputable def Lp(n:Nat):PC:=fun ad t=>(.call (.ref 779) ⟨[.ref (gx ad 0)],[]⟩)
noncomputable def S_(n:Nat):PO:=fun P ad t=>[(O (.ref 818) (some (gx ad 1)) .plain ⟨[]⟩),(O (.type "dict") none (.dict ⟨[D P aI (t 0) (.ref (gx ad 3)),D P aV (t 1) .none,D P bk (t 2) (.bool true),D P cu (t 3) .none,D P az (t 4) (.str ⟨⟨[35]⟩⟩ (t 5)),D P aD (t 6) (.str ah (t 7)),D P ay (t 8) (.str aw (t 9)),D P an (t 10) (.bool false),D P aW (t 11) (.str aU (t 12)),D P aS (t 13) (.str ⟨⟨[92]⟩⟩ (t 14)),D P au (t 15) (.str ⟨⟨[34]⟩⟩ (t 16)),D P bq (t 17) (.str ⟨⟨[32]⟩⟩ (t 18)),D P aH (t 19) (.ref (gx ad 2)),D P aX (t 20) (.int 1 (t 21)),D P br (t 22) (.int 0 (t 23)),D P bo (t 24) (.str ⟨⟨[]⟩⟩ (t 25)),D P aF (t 26) (.ref (gx ad 5)),D P aT (t 27) .none,D P ai (t 28) (.str ⟨⟨[]⟩⟩ (t 29))]⟩ (t 30)) ⟨[]⟩),v7 n [],(O (.ref 725) (some (gx ad 4)) .plain ⟨[]⟩),(O (.type "dict") none (.dict ⟨[D P aj (t 31) (.str ⟨⟨[10]⟩⟩ (t 32)),D P ao (t 33) (.str ⟨⟨[]⟩⟩ (t 34)),D P ap (t 35) (.int 0 (t 36))]⟩ (t 37)) ⟨[]⟩),(O (.type "collections.deque") none (.fields ⟨[.none,(.int (Int.ofNat (t 38)) 0)]⟩) ⟨[]⟩)]
noncomputable def Ka(n:Nat):PS:=fun P gl ad t=>bW (S_ n P ad t) [(1,fun l=>(O (.type "dict") none (.dict ⟨[D P aI (t 0) (.ref (gx ad 3)),D P aV (t 1) .none,D P bk (t 2) (.bool true),D P cu (t 3) .none,D P az (t 4) (.str ⟨⟨[35]⟩⟩ (t 5)),D P aD (t 6) (.str ah (t 7)),D P ay (t 8) (.str aw (t 9)),D P an (t 10) (.bool false),D P aW (t 11) (.str aU (t 12)),D P aS (t 13) (.str ⟨⟨[92]⟩⟩ (t 14)),D P au (t 15) (.str ⟨⟨[34]⟩⟩ (t 16)),D P bq (t 17) .none,D P aH (t 19) (.ref (gx ad 2)),D P aX (t 20) (.int 1 (t 21)),D P br (t 22) (.int 0 (t 23)),D P bo (t 24) (.str ⟨⟨[]⟩⟩ (gx l 0)),D P aF (t 26) (.ref (gx ad 5)),D P aT (t 27) .none,D P ai (t 28) (.str ⟨⟨[]⟩⟩ (t 29))]⟩ (t 30)) ⟨[]⟩))] [] 1 (fun l=> .ok (.ret .none)) gl
noncomputable def Lz(obs:LL)(c:Code):LN:=[aZ obs 1 0,aZ obs 1 1,aZ obs 1 2,aZ obs 1 3,aZ obs 1 4,aJ obs 1 4,aZ obs 1 5,aJ obs 1 5,aZ obs 1 6,aJ obs 1 6,aZ obs 1 7,aZ obs 1 8,aJ obs 1 8,aZ obs 1 9,aJ obs 1 9,aZ obs 1 10,aJ obs 1 10,aZ obs 1 11,aJ obs 1 11,aZ obs 1 12,aZ obs 1 13,aJ obs 1 13,aZ obs 1 14,aJ obs 1 14,aZ obs 1 15,aJ obs 1 15,aZ obs 1 16,aZ obs 1 17,aZ obs 1 18,aJ obs 1 18,bO (gO obs 1),aZ obs 4 0,aJ obs 4 0,aZ obs 4 1,aJ obs 4 1,aZ obs 4 2,aJ obs 4 2,bO (gO obs 4),Qj (o5 (gO obs 5) 1)]
noncomputable def T9(r:Re)(T:BT)(xl:LN):LN:=[aY T 1 15]
theorem ge1(n a0 a1 a2 a3 a4 a5:Nat)(gl:LG)(t:NN):SA w os 700 (Lp n) (Ka n w.params gl) [a0,a1,a2,a3,a4,a5] t:=
 aG (av w) (hdp:=800) (hs:=[Ao n [] [2]]) (ks:=[]) (ac (Be (by simp)) ak) ak [] T9 867 (J [ō2,[7,7,1,0],d6,[3,3,1,7],F7,[8,8],ō1,vW,[0,8],Bx,ō9,ō2,i_,yj,[5],c9,fC,ō5,[10,1],sK,dI,dm,[0],dm,bP,[11],c9,[11],fF,dm,[11],ō1,[11,0,0],ō1,[11],ō5,fC,yj,[5],dI,dO,[1,0,12],ET,[10],ET,ō5,[10,0,0,10],ET,dI,fC,fC,bP,[8,8,8],ō1,i_,ō1,i_,i_,ō1,[8],ō2,[8],oz,i_,[0,8,8,8],oz,i_,[8,8],bP,[8,8],i_,ō1,[8],ox,d6,ox,ō9,yr,[6,6,0,6,0,6,0,6],d6])
noncomputable def dY(n:Nat)(P:Pm)(slots:LN):Hk:=⟨slots,fun ad obs c=>Lp n ad (gx (Lz obs c)),fun gl ad obs c=>Ka n P gl ad (gx (Lz obs c)),aC⟩
theorem c5(w:Wd)(os:OS)(n:Nat){slots:LN}(hn:slots.Nodup:=by decide){hdp:Nat}(hd:hdp≤700:=by decide):Hk.Ok (bs w.params w.params) w os hdp (dY n w.params slots):=⟨hn,fun gl ad obs c=>aE hd (by
 intro s K g hL
 have hL':ad.length=6:=hL
 obtain⟨y9,hf⟩:=J_ hL'
 have hf:ad=[y9 0,y9 1,y9 2,y9 3,y9 4,y9 5]:=hf
 subst hf
 exact ge1 w os _ _ _ _ _ _ _ gl _ s K g hL)⟩
noncomputable def oa:Nat→LV→LV
 |0,_=> []
 |n+1,l=>match l with
  |[]=> []
  |x::r=>x::oa n r
theorem sj:∀n l,(oa n l).length≤n
 |0,_=>Nat.le_refl _
 |n+1,[]=>Nat.zero_le _
 |n+1,x::r=>Nat.succ_le_succ (sj n r)
noncomputable def De(o:Obj):LV:=match o with
 |⟨_,_,d,_⟩=>match d with
  | .fields vs=>match vs.toList with
   |[]=> []
   |_::r=>match r with
    |[]=> []
    |_::r=>r
  |_=> []
noncomputable def U1(o:Obj):Nat:=Qj (o5 o 1)
noncomputable def Vh(l:LV):LV:=match l with
 |[]=> []
 |_::r=>r
noncomputable def bK(P:Pm)(j:Nat)(xs:LV)(slots:LN):Hk:=
 ⟨slots,fun ad obs c=>Nf (U1 (gO obs 2)) (o5 (gO obs 1) 11) (iB (gV (De (gO obs 2)) 0)) (bz (gV (De (gO obs 2)) 0)) (oa j (Vh (De (gO obs 2)))++xs) ad (gx (Jg obs c)),
  fun gl ad obs c=>OZ (U1 (gO obs 2)) (o5 (gO obs 1) 11) (iB (gV (De (gO obs 2)) 0)) (bz (gV (De (gO obs 2)) 0)) (oa j (Vh (De (gO obs 2)))++xs) P gl ad (gx (Jg obs c)),aC⟩
theorem bC(w:Wd)(os:OS){j:Nat}{xs:LV}(hz:j+xs.length≤999){slots:LN}(hn:slots.Nodup:=by decide){hdp:Nat}(hd:hdp≤700:=by decide):Hk.Ok (bs w.params w.params) w os hdp (bK w.params j xs slots):=
 ⟨hn,fun gl ad obs c=>(S9 w os _ _ _ _ (oa j (Vh (De (gO obs 2)))++xs) (by rw[List.length_append];have:=sj j (Vh (De (gO obs 2)));omega) hn hd).2 gl ad obs c⟩
noncomputable def bL(P:Pm)(j:Nat)(xs:LV)(slots:LN):Hk:=
 ⟨slots,fun ad obs c=>NL (U1 (gO obs 2)) (o5 (gO obs 1) 11) (iB (b_ c 1)) (bz (b_ c 1)) (oa j (De (gO obs 2))++xs) ad (gx (Jh obs c)),
  fun gl ad obs c=>P1 (U1 (gO obs 2)) (o5 (gO obs 1) 11) (iB (b_ c 1)) (bz (b_ c 1)) (oa j (De (gO obs 2))++xs) P gl ad (gx (Jh obs c)),aC⟩
theorem bB(w:Wd)(os:OS){j:Nat}{xs:LV}(hz:j+xs.length≤999){slots:LN}(hn:slots.Nodup:=by decide){hdp:Nat}(hd:hdp≤700:=by decide):Hk.Ok (bs w.params w.params) w os hdp (bL w.params j xs slots):=
 ⟨hn,fun gl ad obs c=>(SU w os _ _ _ _ (oa j (De (gO obs 2))++xs) (by rw[List.length_append];have:=sj j (De (gO obs 2));omega) hn hd).2 gl ad obs c⟩
end
noncomputable def At(s:Ś)(ad:LA)(obs:LL):Prop:=∀p∈ad.zip obs,s.heap.get? p.1=some p.2
structure Keeps(ad:LA)(s s':Ś):Prop where
 keep:∀b o,s.heap.get? b=some o→b∉ad→s'.heap.get? b=some o
 size:s.heap.objs.size≤s'.heap.objs.size
 os:s'.os=s.os
 tk:1617≤s.toks→1617≤s'.toks
theorem Keeps.refl(ad:LA)(s:Ś):Keeps ad s s:=⟨fun _ _ h _=>h,Nat.le_refl _,rfl,fun h=>h⟩
theorem Keeps.trans{ad ad':LA}{s s' s'':Ś}(a:Keeps ad s s')(b:Keeps ad' s' s'')(h:∀x∈ad',x∈ad):Keeps ad s s'':=
 ⟨fun c o e hc=>b.keep c o (a.keep c o e hc) fun hm=>hc (h c hm),Nat.le_trans a.size b.size,b.os.trans a.os,fun h=>b.tk (a.tk h)⟩
theorem dP{kt:KT}{os:OS}{s s':Ś}{ad:LA}(K:KH kt os s)(k:Keeps ad s s')(hk:∀a∈ad,∀o,kt.get a≠some o){gl:LG}(g:s'.gens=⟨gl⟩)(hg:∀x∈gl,dp x):KH kt os s':=
 ⟨fun a o e=>k.keep _ _ (K.kt a o e) fun hm=>hk a hm o e,k.os.trans K.os,by rw[g];exact hg,k.tk K.tk⟩
theorem cS{s s':Ś}{ad:LA}{obs:LL}{news:List (Addr×Obj)}{gl:LG}(E:hO s s' (ad.zip obs) news gl)(hl:ad.length=obs.length):Keeps ad s s':=
 ⟨fun b o h hb=>E.keep b o h (by rw[List.map_fst_zip (by omega)];exact hb),E.size,E.os,fun _=>E.tk⟩
theorem fD{M:Model}{kt:KT}{os:OS}{dep:Nat}{c:Code}{ad:LA}{S:Spec}{c₂:LN→Code}{R:Re→Ś→Prop}{s:Ś}(T:dy M kt os dep c ad S c₂)
 (hn:S.news=[])(hp:S.post.length=ad.length)(hgl:S.gl'=S.gl)(K:KH kt os s)(g:s.gens=⟨S.gl⟩)(hl:ad.length=S.pre.length)(A:At s ad S.pre)(nd:ad.Nodup)(hk:∀a∈ad,∀o,kt.get a≠some o)
 (next:∀s' l,l.length=S.nt→KH kt os s'→s'.gens=⟨S.gl⟩→At s' ad (S.post.map (· l))→Keeps ad s s'→codeAny M (AG dep) (c₂ l) R s'):codeAny M (AG dep) c R s:=by
 refine T s R K g hl A nd hk fun s' as ts ha ht E=> ?_
 rw[hn] at ha
 have:as=[]:=List.length_eq_zero_iff.mp ha
 subst this
 have k:=cS E (by simpa using hp.symm)
 exact next s' ts ht (dP K k hk E.gens E.gok) (by rw[E.gens,hgl]) (fun p hp=>E.now p (List.mem_append_left _ hp)) k
theorem AZ{M:Model}{kt:KT}{os:OS}{dep:Nat}{c:Code}{ad:LA}{S:Spec}{R:Re→Ś→Prop}{s:Ś}(T:cb M kt os dep c ad S)
 (hn:S.news=[])(hp:S.post.length=ad.length)(hgl:S.gl'=S.gl)(K:KH kt os s)(g:s.gens=⟨S.gl⟩)(hl:ad.length=S.pre.length)(A:At s ad S.pre)(nd:ad.Nodup)(hk:∀a∈ad,∀o,kt.get a≠some o)
 (next:∀s' l,l.length=S.nt→KH kt os s'→s'.gens=⟨S.gl⟩→At s' ad (S.post.map (· l))→Keeps ad s s'→R (S.rv l) s'):codeAny M (AG dep) c R s:=by
 intro Γ p hc hb
 obtain⟨r,s',hr,as,ts,ha,ht,rfl,E⟩:=T s K g hl A nd hk Γ p hc hb
 rw[hn] at ha
 have:as=[]:=List.length_eq_zero_iff.mp ha
 subst this
 have k:=cS E (by simpa using hp.symm)
 exact⟨_,s',hr,next s' ts ht (dP K k hk E.gens E.gok) (by rw[E.gens,hgl]) (fun p hp=>E.now p (List.mem_append_left _ hp)) k⟩
section
open PySem.SeqAt PySem.MeetsSeq PySem.Calls PyProof.Rows
structure SD where
 es:Array (Int×Vl)
 ep:Nat
 t:SetTable
noncomputable def dF(t:SetTable):SetTable:=match t.plain with
 |true=>{t with plain:=false}
 |false=>t
noncomputable def tj(d:SD)(h:Int)(x:Vl)(k:Str):SD:=match d.es.findIdx? (fun e=>e.2.isStr k) with
 |some _=>d
 |none=>match !(layNew d.t d.es h x).2.2.1&&(dF (layNew d.t d.es h x).2.1).tooFull with
  |true=>⟨(relayAll (dF (layNew d.t d.es h x).2.1) (layNew d.t d.es h x).1 (SetTable.grown (layNew d.t d.es h x).1.size)).1,d.ep+2,(relayAll (dF (layNew d.t d.es h x).2.1) (layNew d.t d.es h x).1 (SetTable.grown (layNew d.t d.es h x).1.size)).2.1⟩
  |false=>⟨(layNew d.t d.es h x).1,d.ep+1,dF (layNew d.t d.es h x).2.1⟩
noncomputable abbrev fi(d:SD):Obj:=⟨.type "set",none,.set d.es d.ep d.t,#[]⟩
noncomputable abbrev SV:=Str×Nat
noncomputable def uv(P:Pm):SD→List SV→SD
 |d,[]=>d
 |d,x::l=>uv P (tj d (PyData.keyHash P x.1) (.str x.1 x.2) x.1) l
noncomputable def Ar(led:Bool):SD:=⟨#[],0,.fresh 0 0 led⟩
noncomputable def c6(x:SV):Vl:= .str x.1 x.2
structure bR(w:Wd)(d:SD)(l:List SV):Prop where
 el:ElemsOf (strKind TW w) d.es.toList
 fit:d.t.fits d.es.size=true
 sub:∀e∈d.es.toList,∃x∈l,e.2=c6 x
 sup:∀x∈l,∃e∈d.es.toList,Value.isStrOf x.1 e.2=true
 sz:d.es.size≤l.length
theorem Cr{t:SetTable}{n:Nat}(h:t.fits n=true):(dF t).fits n=true:=by
 unfold dF
 split
 ·exact SetTable.fits_plain_off h
 ·exact h
theorem cn(x:SV):Value.isStrOf x.1 (c6 x)=true:=by simp[c6,Value.isStrOf]
theorem vT{w:Wd}{d:SD}{l:List SV}(G:bR w d l)(x:SV):bR w (tj d (PyData.keyHash w.params x.1) (c6 x) x.1) (l++ [x]):=by
 have hfun:(fun e:Int×Vl=>e.2.isStr x.1)=fun e=>(strKind TW w).is x.1 e.2:=funext fun e=>((strKind TW w).strs x.1 x.1 x.2 e.2 (cn x)).symm
 unfold tj
 cases hf:d.es.findIdx? (fun e=>e.2.isStr x.1) with
 |some j=>
  dsimp only
  refine⟨G.el,G.fit,fun e he=> ?_,fun y hy=> ?_,by have:=G.sz;simp;omega⟩
  ·obtain⟨z,hz,e'⟩:=G.sub e he
   exact⟨z,List.mem_append_left _ hz,e'⟩
  ·rcases List.mem_append.mp hy with hy|hy
   ·exact G.sup y hy
   ·rw[List.mem_singleton] at hy
    subst hy
    rw[hfun,show d.es.findIdx? (fun e=>(strKind TW w).is y.1 e.2)=d.es.toList.findIdx? (fun e=>(strKind TW w).is y.1 e.2) by cases d.es;simp] at hf
    obtain⟨hj,hp,_⟩:=List.findIdx?_eq_some_iff_getElem.mp hf
    exact⟨_,List.getElem_mem hj,hp⟩
 |none=>
  dsimp only
  have hperm:=layNew_perm d.t d.es (PyData.keyHash w.params x.1) (c6 x)
  have hfits:=layNew_fits d.t d.es (PyData.keyHash w.params x.1) (c6 x)
  generalize layNew d.t d.es (PyData.keyHash w.params x.1) (c6 x)=L at hperm hfits⊢
  obtain⟨es1,t1,wd,gv⟩:=L
  dsimp only at hperm hfits⊢
  rw[Array.toList_push] at hperm
  have hf2:=Cr hfits
  have base:bR w ⟨es1,d.ep+1,dF t1⟩ (l++ [x]):=by
   refine⟨(G.el.push (knd:=strKind TW w) (k:=x.1) (x:=c6 x) (cn x) rfl).perm hperm,hf2,fun e he=> ?_,fun y hy=> ?_,?_⟩
   ·rcases List.mem_append.mp (hperm.mem_iff.mp he) with he|he
    ·obtain⟨z,hz,e'⟩:=G.sub e he
     exact⟨z,List.mem_append_left _ hz,e'⟩
    ·rw[List.mem_singleton] at he
     subst he
     exact⟨x,by simp,rfl⟩
   ·rcases List.mem_append.mp hy with hy|hy
    ·obtain⟨e,he,q⟩:=G.sup y hy
     exact⟨e,hperm.mem_iff.mpr (List.mem_append_left _ he),q⟩
    ·rw[List.mem_singleton] at hy
     subst hy
     exact⟨_,hperm.mem_iff.mpr (List.mem_append_right _ (List.mem_singleton.mpr rfl)),cn y⟩
   ·have:=hperm.length_eq
    have h2:=G.sz
    simp at this⊢
    omega
  cases hz:(!wd&&(dF t1).tooFull) with
  |false=>exact base
  |true=>
   dsimp only
   have hp:=relayAll_perm (dF t1) es1 (SetTable.grown es1.size)
   have hfr:=relayAll_fits (dF t1) es1 (SetTable.grown es1.size)
   exact⟨base.el.perm hp,hfr,fun e he=>base.sub e (hp.mem_iff.mp he),fun y hy=>by
    obtain⟨e,he,q⟩:=base.sup y hy
    exact⟨e,hp.mem_iff.mpr he,q⟩,by have:=hp.length_eq;have:=base.sz;simp at*;omega⟩
theorem BI(w:Wd)(b:Bool):bR w (Ar b) []:=⟨fun e he=>by simp[Ar] at he,by rfl,fun e he=>by simp[Ar] at he,fun x hx=>by simp at hx,by simp[Ar]⟩
theorem vM{w:Wd}:∀(m:List SV){d:SD}{l:List SV},bR w d l→bR w (uv w.params d m) (l++m)
 |[],d,l,G=>by rw[List.append_nil];exact G
 |x::m,d,l,G=>by
  have:=vM m (vT G x)
  rw[List.append_assoc] at this
  exact this
section
variable{w:Wd}{A:Around}{E:Vl→Ś→Prop}{s:Ś}
theorem Fc{h:Heap}{a:Addr}{d:SD}(ho:h.get? a=some (fi d))(es':Array (Int×Vl))(t':SetTable):(h.update a (Obj.putSet es' t')).get? a=some (fi ⟨es',d.ep+1,t'⟩):=by
 have:=Heap.get?_update_self (Obj.putSet es' t') ho (by rw[putSet_of es' t' (o:=fi d) rfl];rfl)
 rw[putSet_of es' t' (o:=fi d) rfl] at this
 exact this
theorem CM{a:Addr}{d:SD}{l:List SV}{x:SV}{Q:Bool→Ś→Prop}(ho:s.heap.get? a=some (fi d))(G:bR w d l)(hz:l.length<1000)
 (h:∀b h',h'.get? a=some (fi (tj d (PyData.keyHash w.params x.1) (c6 x) x.1))→Heap.SameBut a s.heap h'→Q b {s with heap:=h',toks:=s.toks+1}):
 wpAny (model TW w) A (setAdd a (c6 x)) Q E s:=by
 have hkey:(strKind TW w).is x.1 (c6 x)=true:=cn x
 have hfun:(fun e:Int×Vl=>e.2.isStr x.1)=fun e=>(strKind TW w).is x.1 e.2:=funext fun e=>((strKind TW w).strs x.1 x.1 x.2 e.2 hkey).symm
 have hidx:d.es.findIdx? (fun e=>e.2.isStr x.1)=d.es.toList.findIdx? (fun e=>(strKind TW w).is x.1 e.2):=by rw[hfun];cases d.es;simp
 have sB:scanBound=4096:=rfl
 have hb:d.es.size<scanBound:=by have:=G.sz;omega
 unfold setAdd
 refine wpAny_holding (wpAny_bind ((strKind TW w).pyHash hkey ?_))
 unfold setAddHashed setAddHashedIn
 refine wpAny_holding (wpAny_bind (wpAny_setState_of (s:={s with toks:=s.toks+1}) ho rfl G.fit ?_))
 dsimp only
 rw[byScan_of rfl hb G.el]
 simp only[↓reduceIte]
 unfold setAddByScan
 refine wpAny_bind ?_
 refine wpAny_bind (wpAny_rule ?_)
 refine wpAny_bind (wpAny_setScan_of (s:={s with toks:=s.toks+1}) hkey ho rfl G.fit G.el ?_)
 cases hr:List.findIdx? (fun e=>(strKind TW w).is x.1 e.2) d.es.toList with
 |some j=>
  dsimp only
  refine wpAny_pure (wpAny_pure ?_)
  refine h false s.heap ?_ (Heap.SameBut.refl a s.heap)
  unfold tj
  rw[hidx,hr]
  exact ho
 |none=>
  dsimp only
  have hgw:∀(b:Bool){s₁:Ś}{Q':Unit→Ś→Prop},Q' () s₁→wpAny (model TW w) A (match b with|true=>rule "set.scan.the-table-gave-way"|false=>pure ()) Q' E s₁:=
   fun b s₁ Q' hq=>by cases b<;>first|exact wpAny_pure hq|exact wpAny_rule hq
  have hh:(strKind TW w).hash x.1=PyData.keyHash w.params x.1:=rfl
  rw[hh]
  have hperm:=layNew_perm d.t d.es (PyData.keyHash w.params x.1) (c6 x)
  have hfits:=layNew_fits d.t d.es (PyData.keyHash w.params x.1) (c6 x)
  have hD:tj d (PyData.keyHash w.params x.1) (c6 x) x.1=(match !(layNew d.t d.es (PyData.keyHash w.params x.1) (c6 x)).2.2.1&&(dF (layNew d.t d.es (PyData.keyHash w.params x.1) (c6 x)).2.1).tooFull with
   |true=>⟨(relayAll (dF (layNew d.t d.es (PyData.keyHash w.params x.1) (c6 x)).2.1) (layNew d.t d.es (PyData.keyHash w.params x.1) (c6 x)).1 (SetTable.grown (layNew d.t d.es (PyData.keyHash w.params x.1) (c6 x)).1.size)).1,d.ep+2,(relayAll (dF (layNew d.t d.es (PyData.keyHash w.params x.1) (c6 x)).2.1) (layNew d.t d.es (PyData.keyHash w.params x.1) (c6 x)).1 (SetTable.grown (layNew d.t d.es (PyData.keyHash w.params x.1) (c6 x)).1.size)).2.1⟩
   |false=>⟨(layNew d.t d.es (PyData.keyHash w.params x.1) (c6 x)).1,d.ep+1,dF (layNew d.t d.es (PyData.keyHash w.params x.1) (c6 x)).2.1⟩):=by
   unfold tj
   rw[hidx,hr]
  rw[hD] at h
  generalize layNew d.t d.es (PyData.keyHash w.params x.1) (c6 x)=L at hperm hfits h⊢
  obtain⟨es1,t1,wd,gv⟩:=L
  dsimp only at hperm hfits h⊢
  rw[Array.toList_push] at hperm
  have hs1:es1.size≤1000:=by have h1:=hperm.length_eq;have h2:=G.sz;simp at h1;omega
  refine wpAny_bind (hgw _ ?_)
  have tail:∀t2:SetTable,t2=dF t1→wpAny (model TW w) A (do
   storeSet a es1 t2
   if(!wd&&t2.tooFull)=true then do
    (match(relayAll t2 es1 (SetTable.grown es1.size)).2.2 with|true=>rule "set.scan.the-table-gave-way"|false=>pure ())
    storeSet a (relayAll t2 es1 (SetTable.grown es1.size)).1 (relayAll t2 es1 (SetTable.grown es1.size)).2.1
    pure (some true)
    else pure (some true)) (fun r s'=>wpAny (model TW w) A (match r with|some added=>pure added|none=>setAddHashedIn a (c6 x) (PyData.keyHash w.params x.1) 99999) Q E s') E {s with toks:=s.toks+1}:=by
   intro t2 e2
   subst e2
   refine wpAny_bind (wpAny_storeSet_of (s:={s with toks:=s.toks+1}) ho rfl ?_ (by rw[sizeLine_eq];omega))
   have ho1:=Fc ho es1 (dF t1)
   have hsb1:=Heap.SameBut.update s.heap a (Obj.putSet es1 (dF t1))
   cases hz:(!wd&&(dF t1).tooFull) with
   |false=>
    rw[hz] at h
    simp only[Bool.false_eq_true,↓reduceIte]
    exact wpAny_pure (wpAny_pure (h true _ ho1 hsb1))
   |true=>
    rw[hz] at h
    simp only[↓reduceIte]
    have hp:=relayAll_perm (dF t1) es1 (SetTable.grown es1.size)
    generalize relayAll (dF t1) es1 (SetTable.grown es1.size)=Rl at hp h⊢
    obtain⟨es2,t3,gave2⟩:=Rl
    dsimp only at hp h⊢
    refine wpAny_bind (hgw _ ?_)
    refine wpAny_bind (wpAny_storeSet_of (s:={s with heap:=_,toks:=s.toks+1}) ho1 rfl ?_ (by have:=hp.length_eq;simp at this;rw[sizeLine_eq];omega))
    exact wpAny_pure (wpAny_pure (h true _ (Fc ho1 es2 t3) (hsb1.trans (Heap.SameBut.update _ a _))))
  cases hpl:t1.plain with
  |true=>
   simp only[↓reduceIte]
   refine wpAny_bind ?_
   rw[hashByValue_scannable 8 (show(c6 x).scannable=true from rfl)]
   refine wpAny_pure ?_
   exact tail _ (by unfold dF;rw[hpl];rfl)
  |false=>
   simp only[Bool.false_eq_true,↓reduceIte]
   refine wpAny_bind (wpAny_pure ?_)
   simp only[↓reduceIte]
   exact tail _ (by unfold dF;rw[hpl])
end
end
section
open PySem.SeqAt PySem.MeetsSeq PySem.Calls PyProof.Rows
section
variable{w:Wd}{A:Around}{E:Vl→Ś→Prop}{s:Ś}
theorem xS{it l:Addr}{i n:Nat}{xs:LV}{x:Vl}{Q:Option Vl→Ś→Prop}(ho:s.heap.get? it=some (bn (.ref l) i))(hol:s.heap.get? l=some (bu xs n))(hx:xs[i]? =some x)
 (hQ:∀h',h'.get? it=some (bn (.ref l) (i+1))→Heap.SameBut it s.heap h'→Q (some x) {s with heap:=h'}):wpAny (model TW w) A (pyNext (.ref it)) Q E s:=by
 have hT:s.TypeIs (.ref it) "list_iterator":=⟨_,ho,rfl⟩
 unfold pyNext
 refine wpAny_bind (wpAny_attempt (wpAny_callSpecial?_slot (name:=Str.ofString "__next__") hT slot_listiter_next
  (wpAny_call_entry slot_listiter_next hT entry_listiter_next ?_ (args_listiter_next _))))
 show wpAny _ _ (field (.ref it) 0>>=_) _ _ s
 refine wpAny_bind (wpAny_field ho rfl (x:= .ref l) rfl ?_)
 show wpAny _ _ (if(Value.ref l==Value.none)=true then _ else _) _ _ s
 rw[if_neg (show ¬((Value.ref l==Value.none)=true) from Bool.false_ne_true)]
 show wpAny _ _ (field (.ref it) 1>>=_) _ _ s
 refine wpAny_bind (wpAny_field ho rfl (x:= .int (Int.ofNat i) 0) rfl ?_)
 show wpAny _ _ (seqItems? (.ref l)>>=_) _ _ s
 refine wpAny_bind (wpAny_seqItems hol rfl ?_)
 have e:(⟨xs⟩:Array Vl)[(Int.ofNat i).toNat]? =some x:=by simpa using hx
 show wpAny _ _ (match(⟨xs⟩:Array Vl)[(Int.ofNat i).toNat]? with|some x=>_|none=>_) _ _ s
 rw[e]
 refine wpAny_bind (wpAny_setField ho rfl (by simp) (wpAny_pure ⟨x,rfl,wpAny_pure (hQ _ ?_ (Heap.SameBut.update ..))⟩))
 show Heap.get? (s.heap.update it _) it=_
 rw[Heap.get?_update_self _ ho rfl]
 rfl
theorem xN{it l:Addr}{i n:Nat}{xs:LV}{Q:Option Vl→Ś→Prop}(hh:A.handled=none)(ho:s.heap.get? it=some (bn (.ref l) i))(hol:s.heap.get? l=some (bu xs n))(hx:xs.length≤i)
 (hQ:∀h',h'.get? it=some (bn .none i)→(∀b o,b≠it→s.heap.get? b=some o→h'.get? b=some o)→s.heap.objs.size≤h'.objs.size→Q none {s with heap:=h'}):wpAny (model TW w) A (pyNext (.ref it)) Q E s:=by
 have hT:s.TypeIs (.ref it) "list_iterator":=⟨_,ho,rfl⟩
 unfold pyNext
 refine wpAny_bind (wpAny_attempt (wpAny_callSpecial?_slot (name:=Str.ofString "__next__") hT slot_listiter_next
  (wpAny_call_entry slot_listiter_next hT entry_listiter_next ?_ (args_listiter_next _))))
 show wpAny _ _ (field (.ref it) 0>>=_) _ _ s
 refine wpAny_bind (wpAny_field ho rfl (x:= .ref l) rfl ?_)
 show wpAny _ _ (if(Value.ref l==Value.none)=true then _ else _) _ _ s
 rw[if_neg (show ¬((Value.ref l==Value.none)=true) from Bool.false_ne_true)]
 show wpAny _ _ (field (.ref it) 1>>=_) _ _ s
 refine wpAny_bind (wpAny_field ho rfl (x:= .int (Int.ofNat i) 0) rfl ?_)
 show wpAny _ _ (seqItems? (.ref l)>>=_) _ _ s
 refine wpAny_bind (wpAny_seqItems hol rfl ?_)
 have e:(⟨xs⟩:Array Vl)[(Int.ofNat i).toNat]? =none:=by simpa using hx
 show wpAny _ _ (match(⟨xs⟩:Array Vl)[(Int.ofNat i).toNat]? with|some x=>_|none=>_) _ _ s
 rw[e]
 refine wpAny_bind (wpAny_rule (wpAny_bind (wpAny_setField ho rfl (by simp) ?_)))
 show wpAny _ _ (newExc (.type "StopIteration") []>>=_) _ _ _
 refine wpAny_bind ?_
 simp only[newExc,newTuple]
 refine wpAny_bind (wpAny_newObj_type ?_ (by size_fits))
 refine wpAny_bind (m:=firstArgMember _ _) (wpAny_of_eq (a:=Value.none) (by first|rfl|(simp only[firstArgMember];rfl)) ?_)
 refine wpAny_newObj_type ?_ (by size_fits)
 simp only[raiseNew]
 refine wpAny_bind (wpAny_handled ?_)
 rw[show A.in1.handled=none from hh]
 refine wpAny_bind (wpAny_pure (wpAny_throw ?_))
 refine wpAny_bind (wpAny_isInstance (T:="StopIteration") (b:=true) ⟨_,Heap.get?_push_size _ rfl,rfl⟩ isSubtype_stop ?_)
 have hsb:=Heap.SameBut.update s.heap it (Obj.mapFields (·.setIfInBounds 0 .none))
 refine wpAny_pure (hQ _ ?_ ?_ ?_)
 ·refine Heap.get?_push_of_some _ (Heap.get?_push_of_some _ ?_)
  rw[Heap.get?_update_self _ ho rfl];rfl
 ·exact fun b o hb e=>Heap.get?_push_of_some _ (Heap.get?_push_of_some _ ((hsb.2 b hb).trans e))
 ·rw[Heap.size_push,Heap.size_push,hsb.1];omega
end
section
variable{w:Wd}{os:OS}{dep:Nat}
structure Kp(ad:LA)(s s':Ś):Prop where
 keep:∀b o,b∉ad→s.heap.get? b=some o→s'.heap.get? b=some o
 size:s.heap.objs.size≤s'.heap.objs.size
 os:s'.os=s.os
 gens:s'.gens=s.gens
 tk:s.toks≤s'.toks
theorem G9(S I L:Addr)(hSI:S≠I)(hSL:S≠L)(hIL:I≠L)(xs:List SV)(n:Nat):∀(k i:Nat)(s:Ś)(d:SD)(l:List SV)(R:Re→Ś→Prop),xs.length -i=k→i≤xs.length→
 s.heap.get? S=some (fi d)→s.heap.get? I=some (bn (.ref L) i)→s.heap.get? L=some (bu (xs.map c6) n)→bR w d l→l.length+k<1000→
 (∀s',s'.heap.get? S=some (fi (uv w.params d (xs.drop i)))→s'.heap.get? I=some (bn .none xs.length)→Kp [S,I] s s'→R (.ok (.ret .none)) s')→
 codeAny (model TW w) (AG dep) (.builtin "set.update.loop" ⟨[.ref S,.ref I],[]⟩) R s:=by
 intro k
 induction k with
 |zero=>
  intro i s d l R hk hi hS hI hL G hz hR
  have hin:i=xs.length:=by omega
  subst hin
  refine codeAny_builtin F.entry_set_update_loop ?_
  rw[Around.under_plainId F.plain_set_update_loop _]
  show wpAny _ (AG dep).in1 (pyNext (.ref I)>>=_) _ _ s
  refine wpAny_bind (xN rfl hI hL (by simp) fun h' h1 h2 h3=> ?_)
  show wpAny _ _ (ret Value.none) _ _ _
  refine wpAny_pure (hR _ ?_ h1 ⟨fun b o hb e=>h2 b o (fun q=>hb (by simp[q])) e,h3,rfl,rfl,Nat.le_refl _⟩)
  rw[List.drop_length]
  exact h2 S _ hSI hS
 |succ k ih=>
  intro i s d l R hk hi hS hI hL G hz hR
  have hlt:i<xs.length:=by omega
  refine codeAny_builtin F.entry_set_update_loop ?_
  rw[Around.under_plainId F.plain_set_update_loop _]
  show wpAny _ (AG dep).in1 (pyNext (.ref I)>>=_) _ _ s
  refine wpAny_bind (xS hI hL (x:=c6 xs[i]) (by simp[hlt]) fun h' h1 h2=> ?_)
  show wpAny _ _ (holding [c6 xs[i]] (setAdd S (c6 xs[i]))>>=_) _ _ _
  refine wpAny_bind (wpAny_holding ?_)
  refine CM (s:={s with heap:=h'}) ((h2.2 S hSI).trans hS) G (by omega) fun b h'' h3 h4=> ?_
  refine wpAny_pure ⟨plainId_quiet F.plain_set_update_loop _,?_⟩
  refine ih (i+1) _ _ (l++ [xs[i]]) R (by omega) hlt h3 ((h4.2 I hSI.symm).trans h1) ((h4.2 L hSL.symm).trans ((h2.2 L hIL.symm).trans hL)) (vT G _) (by simp;omega) fun s' a b c=>hR s' ?_ b ?_
  ·rw[List.drop_eq_getElem_cons hlt]
   exact a
  ·refine⟨fun b o hb e=>c.keep b o hb ?_,?_,c.os,c.gens,Nat.le_trans (Nat.le_succ _) c.tk⟩
   ·simp only[List.mem_cons,List.mem_nil_iff,or_false,not_or] at hb
    exact(h4.2 b hb.1).trans ((h2.2 b hb.2).trans e)
   ·have:=c.size
    rw[h4.1,h2.1] at this
    exact this
theorem yR{ad:LN}{xs:List SV}{n:Nat}{led:Bool}{gl:LG}(hz:xs.length<1000)(a b c:Addr):
 cb (model TW w) (bD w.params) os dep (.builtin "set.update.loop" ⟨[.ref a,.ref b],[]⟩) [a,b,c]
  {pre:=[fi (Ar led),bn (.ref c) 0,bu (xs.map c6) n],post:=[fun _=>fi (uv w.params (Ar led) xs),fun _=>bn .none xs.length,fun _=>bu (xs.map c6) n],news:=[],nt:=0,rv:=fun _=> .ok (.ret .none),gl,gl':=gl}:=by
 intro s K g hl q nd hk
 have ha:s.heap.get? a=some _:=q (a,_) List.mem_cons_self
 have hb:s.heap.get? b=some _:=q (b,_) (List.mem_cons_of_mem _ List.mem_cons_self)
 have hc:s.heap.get? c=some _:=q (c,_) (List.mem_cons_of_mem _ (List.mem_cons_of_mem _ List.mem_cons_self))
 have hab:a≠b:=fun e=>by subst e;simp at nd
 have hac:a≠c:=fun e=>by subst e;simp at nd
 have hbc:b≠c:=fun e=>by subst e;simp at nd
 refine G9 a b c hab hac hbc xs n _ 0 s (Ar led) [] _ rfl (Nat.zero_le _) ha hb hc (BI w led) (by simpa using hz) fun s' h1 h2 k=> ?_
 refine⟨[],[],rfl,rfl,rfl,fun x o h hx=>k.keep x o (fun hm=>hx ?_) h,fun p hp=> ?_,fun p hp=>by simp at hp,by simp,k.size,k.gens.trans g,by have:=K.gok;rw[g] at this;exact this,k.os,Nat.le_trans K.tk k.tk⟩
 ·simp at hm⊢
  rcases hm with h|h
  ·exact .inl h
  ·exact .inr (.inl h)
 ·have hp:p=(a,fi (uv w.params (Ar led) xs))∨p=(b,bn .none xs.length)∨p=(c,bu (xs.map c6) n):=by simpa using hp
  rcases hp with rfl|rfl|rfl
  ·exact h1
  ·exact h2
  ·exact k.keep c _ (by simp[hac.symm,hbc.symm]) hc
noncomputable def vV(P:Pm)(xs:List SV)(n:Nat)(led:Bool)(slots:LN):Hk:=
 ⟨slots,fun ad _ _=> .builtin "set.update.loop" ⟨[.ref (gx ad 0),.ref (gx ad 1)],[]⟩,fun gl ad _ _=>{pre:=[fi (Ar led),bn (.ref (gx ad 2)) 0,bu (xs.map c6) n],post:=[fun _=>fi (uv P (Ar led) xs),fun _=>bn .none xs.length,fun _=>bu (xs.map c6) n],news:=[],nt:=0,rv:=fun _=> .ok (.ret .none),gl,gl':=gl},aC⟩
theorem hk3{B:Bs}{w:Wd}{os:OS}{hdp:Nat}{h:Hk}(hn:h.slots.Nodup)(hl:∀gl ad obs c,(h.spec gl ad obs c).pre.length=3)
 (hs:∀gl a b d obs c,cb (model B.prog w) B.kt os hdp (h.code [a,b,d] obs c) [a,b,d] (h.spec gl [a,b,d] obs c)):h.Ok B w os hdp:=
 ⟨hn,fun gl ad obs c s K g l=>by
  have l':=l
  rw[hl] at l'
  obtain⟨y9,hf9⟩:=J_ l'
  have hf9:ad=[y9 0,y9 1,y9 2]:=hf9
  subst hf9
  exact hs gl (y9 0) (y9 1) (y9 2) obs c s K g l⟩
theorem zU{xs:List SV}{n:Nat}{led:Bool}{hdp:Nat}{slots:LN}(hz:xs.length<1000)(hn:slots.Nodup:=by decide):(vV w.params xs n led slots).Ok (bs w.params w.params) w os hdp:=
 hk3 hn (fun _ _ _ _=>rfl) fun gl a b c _ _=>yR (ad:=[]) hz a b c
theorem AB{s:Ś}{a:Addr}{d:SD}{l:List SV}(ho:s.heap.get? a=some (fi d))(G:bR w d l)(hz:l.length<1000):s.heap.SetOf (PySem.strKind TW w) a (fun k=>l.any fun x=>x.1==k) d.es.size:=by
 refine⟨_,d.es,d.ep,d.t,ho,⟨rfl,rfl,rfl⟩,rfl,G.el,fun k=> ?_,?_,G.fit,rfl⟩
 ·rw[List.any_eq_true]
  constructor
  ·rintro⟨x,hx,e⟩
   obtain rfl:x.1=k:=eq_of_beq e
   exact G.sup x hx
  ·rintro⟨e,he,q⟩
   obtain⟨x,hx,e'⟩:=G.sub e he
   refine⟨x,hx,?_⟩
   rw[e'] at q
   have:=Value.isStrOf_inj (c6 x) k x.1 q (cn x)
   simp[this]
 ·have sB:scanBound=4096:=rfl
  have:=G.sz
  omega
theorem C4{a:Addr}{d:SD}{l:List SV}{k:Str}{t:Tok}{res:Bool}{gl:LG}(G:bR w d l)(hz:l.length<1000)(h:(l.any fun x=>x.1==k)=res):
 cb (model TW w) (bD w.params) os dep (.call (.builtin "set.__contains__") ⟨[.ref a,.str k t],[]⟩) [a] (aL [fi d] gl 0 fun _=> .ok (.ret (.bool res))):=by
 refine cH PySem.F.slot_set_contains entry_set_contains (PySem.F.args_set_contains_2 _ _) fun s K g l' q _ hk=> ?_
 have ho:s.heap.get? a=some _:=q (a,_) List.mem_cons_self
 refine⟨⟨_,ho,rfl⟩,?_⟩
 have hS:=AB ho G hz
 have hkey:(PySem.strKind TW w).is k (.str k t)=true:=cn (k,t)
 unfold Builtin.«frozenset.__contains__»Builtin.Frozenset.oneOther
 simp only[List.isEmpty_nil,bind_assoc]
 unfold Builtin.Frozenset.addrOf Builtin.Frozenset.withSetAsKey setContains
 refine wpAny_bind (wpAny_pure ?_)
 try dsimp only
 refine wpAny_bind (wpAny_pure ?_)
 try dsimp only
 refine wpAny_bind (wpAny_tryCatch ?_)
 refine wpAny_holding ?_
 refine wpAny_bind ((PySem.strKind TW w).pyHash hkey ?_)
 refine wpAny_bind (wpAny_setFind_of (s:={s with toks:=s.toks+1}) hkey rfl hS fun r hr=> ?_)
 refine wpAny_pure ?_
 show wpAny _ _ (ret (Value.bool r.isSome)) _ _ _
 rw[hr,h]
 exact wpAny_pure ⟨[],[],rfl,rfl,rfl,b6 K g q _⟩
end
end
noncomputable def HS(s:Ś)(G:List (Addr×Obj))(ad:LA):Prop:=∀p∈G,s.heap.get? p.1=some p.2∧p.1∉ad
noncomputable def SumG(M:Model)(kt:KT)(os:OS)(dep:Nat)(c:Code)(ad:LA)(S:Spec)(G:List (Addr×Obj)):Prop:=
 ∀s,KH kt os s→s.gens=⟨S.gl⟩→ad.length=S.pre.length→(∀p∈ad.zip S.pre,s.heap.get? p.1=some p.2)→ad.Nodup→(∀a∈ad,∀o,kt.get a≠some o)→HS s G ad→
  codeAny M (AG dep) c (fun r s'=>∃as ts:LN,as.length=S.news.length∧ts.length=S.nt∧r=S.rv (as++ts)∧
   hO s s' (ad.zip (S.post.map (· (as++ts)))) (as.zip (S.news.map (· (as++ts)))) S.gl') s
noncomputable def Gi(M:Model)(kt:KT)(os:OS)(dep:Nat)(c:Code)(ad:LA)(S:Spec)(c₂:LN→Code)(G:List (Addr×Obj)):Prop:=
 ∀s R,KH kt os s→s.gens=⟨S.gl⟩→ad.length=S.pre.length→(∀p∈ad.zip S.pre,s.heap.get? p.1=some p.2)→ad.Nodup→(∀a∈ad,∀o,kt.get a≠some o)→HS s G ad→
  (∀s'(as ts:LN),as.length=S.news.length→ts.length=S.nt→
   hO s s' (ad.zip (S.post.map (· (as++ts)))) (as.zip (S.news.map (· (as++ts)))) S.gl'→codeAny M (AG dep) (c₂ (as++ts)) R s')→
  codeAny M (AG dep) c R s
theorem SumG.of_sum{M:Model}{kt:KT}{os:OS}{dep:Nat}{c:Code}{ad:LA}{S:Spec}{G:List (Addr×Obj)}(h:cb M kt os dep c ad S):SumG M kt os dep c ad S G:=fun s K g l q n k _=>h s K g l q n k
section
variable{B:Bs}{w:Wd}{os:OS}
theorem od{kt:KT}{os:OS}{s:Ś}(K:KH kt os s){ys:LN}{obs:LL}(hl:ys.length=obs.length)(hp:∀p∈ys.zip obs,s.heap.get? p.1=some p.2)(hn:ys.Nodup)(hk:∀y∈ys,∀o,kt.get y≠some o){G:List (Addr×Obj)}(hG:HS s G ys):
 Conc kt G ys s.heap os (cA obs .nil 0) ys.length ((ys.length,s.heap.objs.size)::d7 ys 0 []) s.toks 0 s.gens.toList s:=by
 have D:=cB K hl hp hn hk
 refine⟨D.size,D.seg,D.own,D.inj,D.ktH,D.keep,D.low,D.toks,D.gens,D.os,fun p hp=>⟨(hG p hp).1,fun i o e he=> ?_⟩,D.tkb⟩
 obtain⟨_,ho,_,h⟩:=D.own i o e
 rcases h with h|h
 ·exact(hG p hp).2 (he▸h)
 ·exact absurd (Heap.lt_size ho) (Nat.not_lt.mpr h)
noncomputable def Ux(U:Us)(G:List (Addr×Obj))(fct:List (Nat×Nat))(ad:LA)(S:Spec)(c₂:LN→Code)(ns:LN)(tk:BT→LN→LN):Ex:=
 ⟨fun _ _=>aO 87,fun c' o T m sg tb ti gl xl=> .cod c' (c₂ (ns.map (bx sg)++tk T xl)) (pW (List.range ad.length) ad {S with rv:=fun _=> .ok .next} ns (fun _=>tk) (.ok .next) o T m sg tb ti gl xl),eO U.hs,g6 U.ks,fun _=>G,U.sam,fct,i8,U.fa,U.fb,none,U.f3⟩
theorem iI(W:iY B w){G:List (Addr×Obj)}{dep hdp:Nat}{U:Us}(hU:U.Ok B (fun _=>G) w os dep hdp){c:Code}{ad:LA}{S:Spec}{c₂:LN→Code}(ns:LN)(tk:BT→LN→LN)(n:Nat)(ora:LN)
 (h1:Nat.beq ad.length S.post.length=true:=by exact rfl)(h2:Nat.beq ns.length S.news.length=true:=by exact rfl)(hn:(List.range ad.length++ns).Nodup:=by exact eC rfl)
 (run:bV (.need fun N=> .need fun tb=> .pos fun p=>bY (cf B dep hdp (Ux U G (U.fc tb) ad S c₂ ns tk)) n ora c p [] (B.den c) (cA S.pre .nil 0) ad.length ((ad.length,N)::d7 ad 0 []) tb 0 S.gl []):=by refine bm ?_;kernel_rfl):Gi (model B.prog w) B.kt os dep c ad S c₂ G:=by
 intro s R K hgl hl hp cy hkt hG next
 have D:=od K (ys:=ad) (obs:=S.pre) hl hp cy hkt hG
 have e:s.gens.toList=S.gl:=by rw[hgl]
 rw[e] at D
 have hg:∀x∈S.gl,dp x:=by have:=K.gok;rwa[e] at this
 refine cj (e:=Ux U G (U.fc s.toks) ad S c₂ ns tk) (xl:=[]) (R:=R) W (cP hU.hs) (dM hU.ks) (hU.fc _) rfl hU.f3 hU.fa hU.fb (fun _ _ _ _ _ _ _ _ _ _ _ _ H=>False.elim H) (fun _ _ _ _ _ _ _ _ _ _ H=>False.elim H)
  (fun c' ora T m sg tb ti gl xl s' H D hg' _=> ?_) (run s.heap.objs.size s.toks) D hg
 obtain⟨hc,H⟩:=H
 obtain⟨as,ts,ha,ht,hv,E⟩:=im (S:={S with rv:=fun _=> .ok .next}) (ora:=ora) (xl:=xl) hn (by simp) (Nat.eq_of_beq_eq_true h1).symm (Nat.eq_of_beq_eq_true h2) hg' K.os H D
 rw[hc,hv.2]
 exact next s' as ts ha ht E
theorem CH{M:Model}{kt:KT}{dep:Nat}{c:Code}{ad bs:LA}{S:Spec}{obs:LL}(hp:S.post.length=S.pre.length)(h:cb M kt os dep c ad S)(hl:ad.length=S.pre.length):
 cb M kt os dep c (ad++bs) {S with pre:=S.pre++obs,post:=S.post++obs.map fun o=>fun _=>o}:=by
 intro s K g hL hA nd hk Γ p hc hb
 have hL':(ad++bs).length=(S.pre++obs).length:=hL
 rw[List.length_append,List.length_append] at hL'
 obtain⟨n1,n2,n3⟩:=List.nodup_append.mp nd
 have z1:∀q∈ad.zip S.pre,s.heap.get? q.1=some q.2:=fun q hq=>hA q (by rw[List.zip_append hl];exact List.mem_append_left _ hq)
 have z2:∀q∈bs.zip obs,s.heap.get? q.1=some q.2:=fun q hq=>hA q (by rw[List.zip_append hl];exact List.mem_append_right _ hq)
 obtain⟨r,s',hr,as,ts,ha,ht,e,E⟩:=h s K g hl z1 n1 (fun a ha=>hk a (List.mem_append_left _ ha)) Γ p hc hb
 have len:ad.length=(S.post.map (· (as++ts))).length:=by rw[List.length_map];omega
 have zp:(ad++bs).zip ((S.post++obs.map fun o=>fun(_:LN)=>o).map (· (as++ts)))=ad.zip (S.post.map (· (as++ts)))++bs.zip obs:=by
  rw[List.map_append,List.zip_append len,List.map_map]
  have:((fun(x:LN→Obj)=>x (as++ts))∘fun o=>fun(_:LN)=>o)=id:=rfl
  rw[this,List.map_id]
 refine⟨r,s',hr,as,ts,ha,ht,e,?_⟩
 show hO s s' ((ad++bs).zip ((S.post++obs.map fun o=>fun(_:LN)=>o).map (· (as++ts)))) _ _
 rw[zp]
 refine⟨fun b o hb hn=>E.keep b o hb fun hm=>hn (by rw[List.map_append];exact List.mem_append_left _ hm),fun q hq=> ?_,E.fresh,E.nd,E.size,E.gens,E.gok,E.os,E.tk⟩
 rcases List.mem_append.mp hq with hq|hq
 ·rcases List.mem_append.mp hq with hq|hq
  ·exact E.now q (List.mem_append_left _ hq)
  ·refine E.keep _ _ (z2 q hq) fun hm=> ?_
   rw[List.map_fst_zip (by omega)] at hm
   exact n3 _ hm _ (List.of_mem_zip hq).1 rfl
 ·exact E.now q (List.mem_append_right _ hq)
end
section
open PySem.SeqAt PySem.MeetsSeq PySem.Calls PyProof.Rows
noncomputable def FK(P:Pm):Bool:=P.followText "set-order"
noncomputable def gX(n:Nat)(l:LN):LN:=if l.isPerm (List.range n)=true then l else List.range n
noncomputable def kZ(P:Pm)(L:LN):Vl:=match FK P with
 |true=> .int 0 0
 |false=> .ref (gx L 0)
noncomputable def Vd(l:LN):Obj:=⟨.type "tuple",none,.seq ⟨l.map fun i=> .int (Int.ofNat i) 0⟩ 0,#[]⟩
noncomputable def pd(P:Pm)(n:Nat)(L:LN):List (Addr×Obj):=match FK P with
 |true=> []
 |false=> [(gx L 0,Vd (gX n L.tail))]
noncomputable def vn(P:Pm)(a:Addr)(d:SD)(L:LN):LV:=match FK P with
 |true=>(pickOrder (P.setOrder a d.ep) d.es).toList.map (·.2)
 |false=>(gX d.es.size L.tail).map fun i=>(d.es.toList.getD i (0,.none)).2
noncomputable abbrev fJ(fv v:Vl)(i n ep:Nat):Obj:=⟨.type "set_iterator",none,.fields ⟨[fv,.int (Int.ofNat i) 0,v,.int (Int.ofNat n) 0,.int (Int.ofNat ep) 0]⟩,#[]⟩
theorem wJ{α:Type}:∀{l:List α}{i:Nat}(h:i<l.length),(l[i]::l.eraseIdx i).Perm l
 |x::l,0,h=>List.Perm.refl _
 |x::l,i+1,h=>by
  have h':i<l.length:=by simpa using h
  show(l[i]::x::l.eraseIdx i).Perm (x::l)
  exact(List.Perm.swap _ _ _).trans (List.Perm.cons _ (wJ h'))
theorem mT(n:Nat)(l:LN):(gX n l).Perm (List.range n):=by
 unfold gX
 split
 ·rename_i h;exact List.isPerm_iff.mp h
 ·exact List.Perm.refl _
theorem ws{α:Type}(f:NN):∀(n k:Nat)(left:List α)(out:Array α),left.length=n→(pickOrder.go f n k left out).toList.Perm (out.toList++left)
 |0,k,left,out,h=>by
  have:left=[]:=List.length_eq_zero_iff.mp h
  subst this
  unfold pickOrder.go
  rw[List.append_nil]
 |n+1,k,left,out,h=>by
  unfold pickOrder.go
  have hlt:f k%left.length<left.length:=Nat.mod_lt _ (by omega)
  rw[List.getElem?_eq_getElem hlt]
  dsimp only
  refine(ws f n (k+1) _ _ (by rw[List.length_eraseIdx_of_lt hlt];omega)).trans ?_
  rw[Array.toList_push,List.append_assoc]
  refine List.Perm.append_left _ ?_
  exact wJ hlt
theorem rb(P:Pm)(a:Addr)(d:SD)(L:LN):(vn P a d L).Perm (d.es.toList.map (·.2)):=by
 unfold vn
 split
 ·refine List.Perm.map _ ?_
  have:=ws (P.setOrder a d.ep) d.es.size 0 d.es.toList #[] (by simp)
  simpa[pickOrder] using this
 ·refine((mT _ _).map _).trans ?_
  have:(List.range d.es.size).map (fun i=>(d.es.toList.getD i (0,.none)).2)=d.es.toList.map (·.2):=by
   apply List.ext_getElem
   ·simp
   ·intro i h1 h2
    simp at h1 h2⊢
    rw[Array.getElem?_eq_getElem h2]
    rfl
  rw[this]
section
variable{w:Wd}{os:OS}{dep:Nat}
theorem AI{p:Program}{A:Around}{E:Vl→Ś→Prop}{s:Ś}{src:Source}{n:Nat}{Q:Nat→Ś→Prop}(hn:n≠0)(h:∀k d,k<n→Q k {s with drawn:=d}):wpAny (model p w) A (choose src n) Q E s:=fun Γ q hΓ=>by
 unfold choose
 rw[Sem.wp_choose]
 refine⟨hn,?_⟩
 have:=h (w.draws src (s.drawn.get src)%n) (s.drawn.bump src) (Nat.mod_lt _ (by omega))
 exact(wpAny_pure (M:=model p w) (A:=A) (E:=E) this) Γ q hΓ
theorem iZ{p:Program}{A:Around}{E:Vl→Ś→Prop}:∀(n:Nat)(xs:LN)(s:Ś)(Q:LN→Ś→Prop),xs.length=n→(∀ys d,ys.Perm xs→Q ys {s with drawn:=d})→wpAny (model p w) A (drawOrder n xs) Q E s:=by
 intro n
 induction n with
 |zero=>
  intro xs s Q h hQ
  have:xs=[]:=List.length_eq_zero_iff.mp h
  subst this
  unfold drawOrder
  exact wpAny_pure (hQ [] s.drawn (List.Perm.refl _))
 |succ n ih=>
  intro xs s Q h hQ
  cases xs with
  |nil=>cases h
  |cons x xs=>
   unfold drawOrder
   refine wpAny_bind (AI (Nat.succ_ne_zero _) fun k d hk=> ?_)
   rw[List.getElem?_eq_getElem hk]
   dsimp only
   refine wpAny_bind (ih _ _ _ ((List.length_eraseIdx_of_lt hk).trans (Nat.succ.inj h)) fun ys d' hp=> ?_)
   refine wpAny_pure (hQ _ d' ?_)
   exact(List.Perm.cons _ hp).trans (wJ hk)
theorem xm:plainId "set_iterator.__next__"=true:=by decide+kernel
theorem yS:entryFor table "set_iterator.__next__"=some Builtin.«set_iterator.__next__»:=entryFor_of_tree (by kernel_rfl)
theorem E9:entryFor table "set.__iter__"=some Builtin.«frozenset.__iter__»:=entryFor_alias (id':="frozenset.__iter__") (by kernel_rfl) rfl (by decide+kernel) (by kernel_rfl)
theorem w3(P:Pm)(a:Addr)(d:SD)(L:LN):(vn P a d L).length=d.es.size:=by
 have:=(rb P a d L).length_eq
 simpa using this
theorem C1{a b:Addr}{d:SD}{l:List SV}{i:Nat}{L:LN}{x:Vl}{gl:LG}(G:bR w d l)(hx:(vn w.params a d L)[i]? =some x):
 SumG (model TW w) (bD w.params) os dep (.builtin "set_iterator.__next__" ⟨[.ref b],[]⟩) [b,a]
  {pre:=[fJ (kZ w.params L) (.ref a) i d.es.size d.ep,fi d],post:=[fun _=>fJ (kZ w.params L) (.ref a) (i+1) d.es.size d.ep,fun _=>fi d],news:=[],nt:=0,rv:=fun _=> .ok (.ret x),gl,gl':=gl} (pd w.params d.es.size L):=by
 intro s K g l' q nd hk hG
 have hb:s.heap.get? b=some _:=q (b,_) List.mem_cons_self
 have ha:s.heap.get? a=some _:=q (a,_) (List.mem_cons_of_mem _ List.mem_cons_self)
 have hab:b≠a:=fun e=>by subst e;simp at nd
 refine codeAny_builtin yS ?_
 rw[Around.under_plainId xm]
 unfold Builtin.«set_iterator.__next__»
 show wpAny _ _ (fieldsOf (.ref b)>>=_) _ _ s
 refine wpAny_bind (wpAny_fieldsOf hb rfl ?_)
 show wpAny _ _ (setEntries a>>=_) _ _ s
 refine wpAny_bind (wpAny_setEntries_of ha rfl G.fit ?_)
 have e0:(((d.es.size:Nat):Int) !=Int.ofNat d.es.size)=false:=by simp
 show wpAny _ _ (if(((d.es.size:Nat):Int) !=Int.ofNat d.es.size)=true then _ else _) _ _ s
 rw[e0,if_neg (by decide)]
 unfold kZ at*
 unfold vn at hx
 unfold pd at hG
 cases ht:FK w.params with
 |true=>
  rw[ht] at hx hG
  dsimp only at hx hG
  rw[ht] at hb
  dsimp only at hb
  show wpAny _ _ (setNext a (0:Int).toNat (Int.ofNat i).toNat (Int.ofNat d.ep).toNat>>=_) _ _ s
  refine wpAny_bind ?_
  unfold setNext
  refine wpAny_bind (wpAny_setState_of ha rfl G.fit ?_)
  dsimp only
  unfold setsByText
  refine wpAny_bind (wpAny_bind (wpAny_askSetting (wpAny_pure ?_)))
  show wpAny _ _ (if FK w.params=true then _ else _) _ _ s
  rw[ht,if_pos rfl]
  have e1:(d.ep !=(Int.ofNat d.ep).toNat)=false:=by simp
  show wpAny _ _ (if(d.ep !=(Int.ofNat d.ep).toNat)=true then _ else _) _ _ s
  rw[e1,if_neg (by decide)]
  unfold setWalk
  refine wpAny_bind (wpAny_bind (wpAny_setState_of ha rfl G.fit ?_))
  dsimp only
  unfold setsByText
  refine wpAny_bind (wpAny_bind (wpAny_askSetting (wpAny_pure ?_)))
  show wpAny _ _ (if FK w.params=true then _ else _) _ _ s
  rw[ht,if_pos rfl]
  refine wpAny_bind (wpAny_askSetting (wpAny_pure ?_))
  have e2:((pickOrder (w.params.setOrder a d.ep) d.es)[(Int.ofNat i).toNat]?).map (fun e=>(e.2,(0:Int).toNat))=some (x,0):=by
   rw[List.getElem?_map] at hx
   show((pickOrder (w.params.setOrder a d.ep) d.es)[i]?).map (fun e=>(e.2,0))=some (x,0)
   rw[←Array.getElem?_toList]
   cases hq:(pickOrder (w.params.setOrder a d.ep) d.es).toList[i]? with
   |none=>rw[hq] at hx;cases hx
   |some z=>rw[hq] at hx;injection hx with hx;subst hx;rfl
  refine wpAny_pure ?_
  show wpAny _ _ (match((pickOrder (w.params.setOrder a d.ep) d.es)[(Int.ofNat i).toNat]?).map (fun e=>(e.2,(0:Int).toNat)) with|some (x,next)=>_|none=>_) _ _ s
  rw[e2]
  dsimp only
  refine wpAny_bind (wpAny_setField hb rfl (by simp) ?_)
  have h1:(s.heap.update b (Obj.mapFields (·.setIfInBounds 0 (rawInt ((0:Nat):Int))))).get? b=some (fJ (.int 0 0) (.ref a) i d.es.size d.ep):=by
   rw[Heap.get?_update_self _ hb rfl];rfl
  have s1:=Heap.SameBut.update s.heap b (Obj.mapFields (·.setIfInBounds 0 (rawInt ((0:Nat):Int))))
  refine wpAny_bind (wpAny_setField (s:={s with heap:=_}) h1 rfl (by simp) ?_)
  have s2:=Heap.SameBut.update (s.heap.update b (Obj.mapFields (·.setIfInBounds 0 (rawInt ((0:Nat):Int))))) b (Obj.mapFields (·.setIfInBounds 1 (rawInt (Int.ofNat i+1))))
  refine wpAny_pure ⟨[],[],rfl,rfl,rfl,fun c o' h hc=> ?_,fun p hp=> ?_,fun p hp=>by simp at hp,by simp,Nat.le_of_eq (s1.1.symm.trans s2.1.symm),g,by have:=K.gok;rw[g] at this;exact this,rfl,K.tk⟩
  ·have hcb:c≠b:=fun z=>hc (by simp[z])
   exact(s2.2 c hcb).trans ((s1.2 c hcb).trans h)
  ·have hp:p=(b,fJ (.int 0 0) (.ref a) (i+1) d.es.size d.ep)∨p=(a,fi d):=by simpa using hp
   rcases hp with rfl|rfl
   ·show Heap.get? (Heap.update _ b _) b=_
    rw[Heap.get?_update_self _ h1 rfl]
    rfl
   ·exact(s2.2 a hab.symm).trans ((s1.2 a hab.symm).trans ha)
 |false=>
  rw[ht] at hx hG
  dsimp only at hx hG
  rw[ht] at hb
  dsimp only at hb
  have hT:s.heap.get? (gx L 0)=some (Vd (gX d.es.size L.tail)):=(hG _ List.mem_cons_self).1
  show wpAny _ _ (seqItems? (.ref (gx L 0))>>=_) _ _ s
  refine wpAny_bind (wpAny_seqItems hT rfl ?_)
  rw[List.getElem?_map] at hx
  have e2:∃pl,(gX d.es.size L.tail)[i]? =some pl∧x=(d.es.toList.getD pl (0,.none)).2:=by
   cases hq:(gX d.es.size L.tail)[i]? with
   |none=>rw[hq] at hx;cases hx
   |some z=>rw[hq] at hx;injection hx with hx;exact⟨z,rfl,hx.symm⟩
  obtain⟨pl,hpl,rfl⟩:=e2
  have e3:(⟨(gX d.es.size L.tail).map fun i=>Value.int (Int.ofNat i) 0⟩:Array Vl)[(Int.ofNat i).toNat]? =some (.int (Int.ofNat pl) 0):=by
   simp[hpl]
  show wpAny _ _ (match(⟨(gX d.es.size L.tail).map fun i=>Value.int (Int.ofNat i) 0⟩:Array Vl)[(Int.ofNat i).toNat]? with|some (.int place _)=>_|some _=>_|none=>_) _ _ s
  rw[e3]
  dsimp only
  refine wpAny_bind ?_
  unfold setNextDrawn
  refine wpAny_bind (wpAny_setState_of ha rfl G.fit ?_)
  have e1:(d.ep !=(Int.ofNat d.ep).toNat)=false:=by simp
  show wpAny _ _ (if(d.ep !=(Int.ofNat d.ep).toNat)=true then _ else _) _ _ s
  rw[e1,if_neg (by decide)]
  have hlt:pl<d.es.size:=by
   have:=(mT d.es.size L.tail).mem_iff.mp (List.mem_of_getElem? hpl)
   simpa using this
  have e4:d.es[(Int.ofNat pl).toNat]? =some (d.es.toList.getD pl (0,.none)):=by
   show d.es[pl]? =_
   rw[Array.getElem?_eq_getElem hlt]
   simp[List.getD,Array.getElem?_toList,Array.getElem?_eq_getElem hlt]
  rw[e4]
  refine wpAny_pure ?_
  refine wpAny_bind (wpAny_setField hb rfl (by simp) ?_)
  have s1:=Heap.SameBut.update s.heap b (Obj.mapFields (·.setIfInBounds 1 (rawInt (Int.ofNat i+1))))
  refine wpAny_pure ⟨[],[],rfl,rfl,rfl,fun c o' h hc=> ?_,fun p hp=> ?_,fun p hp=>by simp at hp,by simp,Nat.le_of_eq s1.1.symm,g,by have:=K.gok;rw[g] at this;exact this,rfl,K.tk⟩
  ·have hcb:c≠b:=fun z=>hc (by simp[z])
   exact(s1.2 c hcb).trans h
  ·have hp:p=(b,fJ (.ref (gx L 0)) (.ref a) (i+1) d.es.size d.ep)∨p=(a,fi d):=by simpa using hp
   rcases hp with rfl|rfl
   ·show Heap.get? (Heap.update _ b _) b=_
    rw[Heap.get?_update_self _ hb rfl]
    rfl
   ·exact(s1.2 a hab.symm).trans ha
end
end
section
open PySem.SeqAt PySem.MeetsSeq PySem.Calls PyProof.Rows
section
variable{w:Wd}{os:OS}{dep:Nat}
theorem y7{A:Around}(hA:A.handled=none){s:Ś}{kt:KT}(K:KH kt os s){gl:LG}(g:s.gens=⟨gl⟩){a b:Addr}{v:Vl}{i n ep:Nat}{d:SD}{h1:Heap}(hab:b≠a)(ha:s.heap.get? a=some (fi d))(g1:h1.get? b=some (fJ (.int 0 0) v i n ep))(hs:Heap.SameBut b s.heap h1)
 {Q:Fin→Ś→Prop}:wpAny (model TW w) A ((do raiseNew (←newExc (.type "StopIteration") [])):Sem Fin) Q
  (fun e s'=>fp {pre:=[],post:=[fun _=>fJ (.int 0 0) v i n ep,fun _=>fi d],news:=[fun l=>fA (gx l 1),fun _=>td],nt:=0,rv:=fun l=> .error (.ref (gx l 0)),gl,gl':=gl} [b,a] s (.error e) s') {s with heap:=h1}:=by
 unfold newExc newTuple
 refine wpAny_bind (wpAny_bind (wpAny_newObj_type ?_ (by show(0:Nat)≤_;exact Nat.zero_le _)))
 refine wpAny_bind (m:=firstArgMember _ _) (wpAny_of_eq (a:=Value.none) qR ?_)
 rw[yM]
 refine wpAny_newObj_type ?_ (by show(6:Nat)≤_;rw[sizeLine_eq];decide)
 refine wpAny_raiseNew_none hA ?_
 have hsz:h1.objs.size=s.heap.objs.size:=hs.1
 refine⟨[h1.objs.size+1,h1.objs.size],[],rfl,rfl,?_,?_⟩
 ·show Except.error _=Except.error _
  simp[Heap.size_push,gx]
 ·refine⟨fun c o' h hc=> ?_,fun p hp=> ?_,fun p hp=> ?_,?_,?_,g,by have:=K.gok;rw[g] at this;exact this,rfl,K.tk⟩
  ·exact Heap.get?_push_of_some _ (Heap.get?_push_of_some _ ((hs.2 c fun z=>hc (by simp[z])).trans h))
  ·have hp:p=(b,fJ (.int 0 0) v i n ep)∨p=(a,fi d)∨p=(h1.objs.size+1,fA h1.objs.size)∨p=(h1.objs.size,td):=by simpa[gx] using hp
   rcases hp with rfl|rfl|rfl|rfl
   ·exact Heap.get?_push_of_some _ (Heap.get?_push_of_some _ g1)
   ·exact Heap.get?_push_of_some _ (Heap.get?_push_of_some _ ((hs.2 a hab.symm).trans ha))
   ·have:=Heap.get?_push_size (h1.push td) (o:=fA h1.objs.size) rfl
    rw[Heap.size_push] at this
    exact this
   ·exact Heap.get?_push_of_some _ (Heap.get?_push_size _ rfl)
  ·have hp:p=(h1.objs.size+1,fA h1.objs.size)∨p=(h1.objs.size,td):=by simpa[gx] using hp
   rcases hp with rfl|rfl
   ·show s.heap.objs.size≤h1.objs.size+1;omega
   ·show s.heap.objs.size≤h1.objs.size;omega
  ·simp
  ·show s.heap.objs.size≤((h1.push _).push _).objs.size
   rw[Heap.size_push,Heap.size_push];omega
theorem Di{a b:Addr}{d:SD}{l:List SV}{L:LN}{gl:LG}(G:bR w d l):
 SumG (model TW w) (bD w.params) os dep (.builtin "set_iterator.__next__" ⟨[.ref b],[]⟩) [b,a]
  {pre:=[fJ (kZ w.params L) (.ref a) d.es.size d.es.size d.ep,fi d],post:=[fun _=>fJ (.int 0 0) .none d.es.size d.es.size d.ep,fun _=>fi d],news:=[fun l=>fA (gx l 1),fun _=>td],nt:=0,rv:=fun l=> .error (.ref (gx l 0)),gl,gl':=gl} (pd w.params d.es.size L):=by
 intro s K g l' q nd hk hG
 have hb:s.heap.get? b=some _:=q (b,_) List.mem_cons_self
 have ha:s.heap.get? a=some _:=q (a,_) (List.mem_cons_of_mem _ List.mem_cons_self)
 have hab:b≠a:=fun e=>by subst e;simp at nd
 refine codeAny_builtin yS ?_
 rw[Around.under_plainId xm]
 unfold Builtin.«set_iterator.__next__»
 show wpAny _ _ (fieldsOf (.ref b)>>=_) _ _ s
 refine wpAny_bind (wpAny_fieldsOf hb rfl ?_)
 show wpAny _ _ (setEntries a>>=_) _ _ s
 refine wpAny_bind (wpAny_setEntries_of ha rfl G.fit ?_)
 have e0:(((d.es.size:Nat):Int) !=Int.ofNat d.es.size)=false:=by simp
 show wpAny _ _ (if(((d.es.size:Nat):Int) !=Int.ofNat d.es.size)=true then _ else _) _ _ s
 rw[e0,if_neg (by decide)]
 unfold kZ at*
 unfold pd at hG
 cases ht:FK w.params with
 |true=>
  rw[ht] at hG
  dsimp only at hG
  rw[ht] at hb
  dsimp only at hb
  show wpAny _ _ (setNext a (0:Int).toNat (Int.ofNat d.es.size).toNat (Int.ofNat d.ep).toNat>>=_) _ _ s
  refine wpAny_bind ?_
  unfold setNext
  refine wpAny_bind (wpAny_setState_of ha rfl G.fit ?_)
  dsimp only
  unfold setsByText
  refine wpAny_bind (wpAny_bind (wpAny_askSetting (wpAny_pure ?_)))
  show wpAny _ _ (if FK w.params=true then _ else _) _ _ s
  rw[ht,if_pos rfl]
  have e1:(d.ep !=(Int.ofNat d.ep).toNat)=false:=by simp
  show wpAny _ _ (if(d.ep !=(Int.ofNat d.ep).toNat)=true then _ else _) _ _ s
  rw[e1,if_neg (by decide)]
  unfold setWalk
  refine wpAny_bind (wpAny_bind (wpAny_setState_of ha rfl G.fit ?_))
  dsimp only
  unfold setsByText
  refine wpAny_bind (wpAny_bind (wpAny_askSetting (wpAny_pure ?_)))
  show wpAny _ _ (if FK w.params=true then _ else _) _ _ s
  rw[ht,if_pos rfl]
  refine wpAny_bind (wpAny_askSetting (wpAny_pure ?_))
  have e2:((pickOrder (w.params.setOrder a d.ep) d.es)[(Int.ofNat d.es.size).toNat]?).map (fun e=>(e.2,(0:Int).toNat))=none:=by
   show((pickOrder (w.params.setOrder a d.ep) d.es)[d.es.size]?).map (fun e=>(e.2,0))=none
   have hz:(pickOrder (w.params.setOrder a d.ep) d.es).size=d.es.size:=by
    have:=(ws (w.params.setOrder a d.ep) d.es.size 0 d.es.toList #[] (by simp)).length_eq
    simpa[pickOrder] using this
   rw[Array.getElem?_eq_none (Nat.le_of_eq hz)]
   rfl
  refine wpAny_pure ?_
  show wpAny _ _ (match((pickOrder (w.params.setOrder a d.ep) d.es)[(Int.ofNat d.es.size).toNat]?).map (fun e=>(e.2,(0:Int).toNat)) with|some (x,next)=>_|none=>_) _ _ s
  rw[e2]
  dsimp only
  refine wpAny_bind (wpAny_setField hb rfl (by simp) ?_)
  have h1:(s.heap.update b (Obj.mapFields (·.setIfInBounds 2 .none))).get? b=some (fJ (.int 0 0) .none d.es.size d.es.size d.ep):=by
   rw[Heap.get?_update_self _ hb rfl];rfl
  exact y7 rfl K g hab ha h1 (Heap.SameBut.update ..)
 |false=>
  rw[ht] at hG
  dsimp only at hG
  rw[ht] at hb
  dsimp only at hb
  have hT:s.heap.get? (gx L 0)=some (Vd (gX d.es.size L.tail)):=(hG _ List.mem_cons_self).1
  show wpAny _ _ (seqItems? (.ref (gx L 0))>>=_) _ _ s
  refine wpAny_bind (wpAny_seqItems hT rfl ?_)
  have e3:(⟨(gX d.es.size L.tail).map fun i=>Value.int (Int.ofNat i) 0⟩:Array Vl)[(Int.ofNat d.es.size).toNat]? =none:=by
   have:=(mT d.es.size L.tail).length_eq
   simp at this
   simp[this]
  show wpAny _ _ (match(⟨(gX d.es.size L.tail).map fun i=>Value.int (Int.ofNat i) 0⟩:Array Vl)[(Int.ofNat d.es.size).toNat]? with|some (.int place _)=>_|some _=>_|none=>_) _ _ s
  rw[e3]
  dsimp only
  refine wpAny_bind (wpAny_setField hb rfl (by simp) ?_)
  have h1:(s.heap.update b (Obj.mapFields (·.setIfInBounds 0 (rawInt 0)))).get? b=some (fJ (.int 0 0) (.ref a) d.es.size d.es.size d.ep):=by
   rw[Heap.get?_update_self _ hb rfl];rfl
  refine wpAny_bind (wpAny_setField (s:={s with heap:=_}) h1 rfl (by simp) ?_)
  have h2:((s.heap.update b (Obj.mapFields (·.setIfInBounds 0 (rawInt 0)))).update b (Obj.mapFields (·.setIfInBounds 2 .none))).get? b=some (fJ (.int 0 0) .none d.es.size d.es.size d.ep):=by
   rw[Heap.get?_update_self _ h1 rfl];rfl
  exact y7 rfl K g hab ha h2 ((Heap.SameBut.update ..).trans (Heap.SameBut.update ..))
noncomputable def Dd(P:Pm)(a:Addr)(d:SD)(gl:LG)(L:LN):Spec:=
 {pre:=[fi d],post:=[fun _=>fi d],news:=[fun _=>fJ (kZ P L) (.ref a) 0 d.es.size d.ep],nt:=0,rv:=fun l=> .ok (.ret (.ref (gx l 0))),gl,gl':=gl}
theorem Ct{a:Addr}{d:SD}{l:List SV}{gl:LG}(G:bR w d l)(h2:2≤d.es.size)(hp:d.t.plain=false)(hz:d.es.size≤1000){s:Ś}(K:KH (bD w.params) os s)(g:s.gens=⟨gl⟩)(ha:s.heap.get? a=some (fi d)):
 codeAny (model TW w) (AG dep) (.call (.builtin "set.__iter__") ⟨[.ref a],[]⟩) (fun r s'=>∃L b,r= .ok (.ret (.ref b))∧hO s s' ([a].zip ((Dd w.params a d gl L).post.map (· ([b]++ [])))) ([b].zip ((Dd w.params a d gl L).news.map (· ([b]++ [])))) gl∧∀q∈pd w.params d.es.size L,s'.heap.get? q.1=some q.2∧s.heap.objs.size≤q.1∧q.1≠b) s:=by
 have hT:s.TypeIs (.ref a) "set":=⟨_,ha,rfl⟩
 refine codeAny_call_builtin PySem.F.slot_set_iter.plain E9 (PySem.F.slot_set_iter.check _ _ _ _ _ _ _ _ hT (PySem.F.args_set_iter_1 _) ?_)
 unfold Builtin.«frozenset.__iter__»
 show wpAny _ _ (Builtin.Frozenset.sizeOf a>>=_) _ _ s
 unfold Builtin.Frozenset.sizeOf
 refine wpAny_bind (wpAny_bind (wpAny_setEntries_of ha rfl G.fit (wpAny_pure ?_)))
 unfold setDrawn
 refine wpAny_bind (wpAny_bind (wpAny_setState_of ha rfl G.fit ?_))
 dsimp only
 unfold setsByText
 refine wpAny_bind (wpAny_bind (wpAny_askSetting (wpAny_pure ?_)))
 refine wpAny_pure ?_
 show wpAny _ _ (if(!FK w.params&&(!d.t.plain&&decide (d.es.size>1)))=true then _ else _) _ _ s
 have fin:∀(fv:Vl)(s1:Ś)(L:LN),fv=kZ w.params L→(∀b o,s.heap.get? b=some o→s1.heap.get? b=some o)→s1.gens=s.gens→s1.os=s.os→s.toks≤s1.toks→s.heap.objs.size≤s1.heap.objs.size→
  (∀q∈pd w.params d.es.size L,s1.heap.get? q.1=some q.2∧s.heap.objs.size≤q.1)→
  wpAny (model TW w) (AG dep).in1 ((do ret (←newFields "set_iterator" [fv,rawInt 0,.ref a,rawInt d.es.size,rawInt (←setEpoch a)])):Sem Fin) (fun fin s'=>match fin with
   | .done f=>∃L b,(Except.ok f:Re)= .ok (.ret (.ref b))∧hO s s' ([a].zip ((Dd w.params a d gl L).post.map (· ([b]++ [])))) ([b].zip ((Dd w.params a d gl L).news.map (· ([b]++ [])))) gl∧∀q∈pd w.params d.es.size L,s'.heap.get? q.1=some q.2∧s.heap.objs.size≤q.1∧q.1≠b
   | .again c'=>c'.quiet=true∧codeAny (model TW w) (AG dep) c' (fun r s'=>∃L b,r= .ok (.ret (.ref b))∧hO s s' ([a].zip ((Dd w.params a d gl L).post.map (· ([b]++ [])))) ([b].zip ((Dd w.params a d gl L).news.map (· ([b]++ [])))) gl∧∀q∈pd w.params d.es.size L,s'.heap.get? q.1=some q.2∧s.heap.objs.size≤q.1∧q.1≠b) s')
   (fun e s'=>∃L b,(Except.error e:Re)= .ok (.ret (.ref b))∧hO s s' ([a].zip ((Dd w.params a d gl L).post.map (· ([b]++ [])))) ([b].zip ((Dd w.params a d gl L).news.map (· ([b]++ [])))) gl∧∀q∈pd w.params d.es.size L,s'.heap.get? q.1=some q.2∧s.heap.objs.size≤q.1∧q.1≠b) s1:=by
  intro fv s1 L hfv hk hg1 ho1 ht1 hz1 hgh
  subst hfv
  refine wpAny_bind (wpAny_setEpoch_of (hk a _ ha) rfl G.fit ?_)
  unfold newFields
  refine wpAny_bind (wpAny_newObj_type (wpAny_pure ?_) (by show(5:Nat)≤_;rw[sizeLine_eq];decide))
  refine⟨L,s1.heap.objs.size,rfl,⟨fun c o h _=>Heap.get?_push_of_some _ (hk c o h),fun p hp=> ?_,fun p hp=> ?_,by simp[Dd],?_,hg1.trans g,by have:=K.gok;rw[g] at this;exact this,ho1,Nat.le_trans K.tk ht1⟩,fun q hq=>⟨Heap.get?_push_of_some _ (hgh q hq).1,(hgh q hq).2,?_⟩⟩
  ·have hp:p=(a,fi d)∨p=(s1.heap.objs.size,fJ (kZ w.params L) (.ref a) 0 d.es.size d.ep):=by simpa[Dd] using hp
   rcases hp with rfl|rfl
   ·exact Heap.get?_push_of_some _ (hk a _ ha)
   ·exact Heap.get?_push_size _ rfl
  ·have hp:p=(s1.heap.objs.size,fJ (kZ w.params L) (.ref a) 0 d.es.size d.ep):=by simpa[Dd] using hp
   subst hp
   exact hz1
  ·show s.heap.objs.size≤(s1.heap.push _).objs.size
   rw[Heap.size_push];omega
  ·have:=Heap.lt_size (hgh q hq).1
   exact Nat.ne_of_lt this
 cases ht:FK w.params with
 |true=>
  rw[if_neg (by simp)]
  refine wpAny_bind (wpAny_pure ?_)
  refine fin _ s [] ?_ (fun _ _ h=>h) rfl rfl (Nat.le_refl _) (Nat.le_refl _) fun q hq=> ?_
  ·unfold kZ;rw[ht];rfl
  ·unfold pd at hq;rw[ht] at hq;cases hq
 |false=>
  rw[if_pos (by rw[hp];show(true&&(true&&decide (d.es.size>1)))=true;rw[decide_eq_true (by omega)];rfl)]
  refine wpAny_bind ?_
  refine iZ _ _ _ _ List.length_range fun ys dr hperm=> ?_
  unfold newTuple
  refine wpAny_bind (wpAny_newObj_type ?_ (by show(List.map _ _).toArray.size≤_;have:=hperm.length_eq;simp at this;simp[this];rw[sizeLine_eq];omega))
  refine fin _ _ (s.heap.objs.size::ys) ?_ (fun _ _ h=>Heap.get?_push_of_some _ h) rfl rfl (Nat.le_refl _) (by rw[Heap.size_push];exact Nat.le_succ _) fun q hq=> ?_
  ·unfold kZ;rw[ht];rfl
  ·unfold pd at hq
   rw[ht] at hq
   dsimp only at hq
   rw[List.mem_singleton] at hq
   subst hq
   refine⟨?_,Nat.le_refl _⟩
   have e:gX d.es.size ys=ys:=by unfold gX;rw[if_pos (List.isPerm_iff.mpr hperm)]
   show Heap.get? (Heap.push _ _) s.heap.objs.size=some (Vd (gX d.es.size ys))
   rw[e]
   refine(Heap.get?_push_size _ rfl).trans ?_
   rfl
end
end
section
open PySem.SeqAt PySem.MeetsSeq PySem.Calls PyProof.Rows
noncomputable abbrev za(a b c:Vl):Obj:=⟨.type "slice",none,.fields ⟨[a,b,c]⟩,#[]⟩
noncomputable def fh:LV→Bool
 |[]=>true
 |x::r=>match x with
  | .int _ _=>fh r
  |_=>false
noncomputable def xY:Nat→LV→LV
 |0,_=> []
 |n+1,l=>match l with
  |[]=> []
  |x::r=>x::xY n r
theorem GP:∀n l,xY n l=l.take n
 |0,l=>by simp[xY]
 |n+1,[]=>by simp[xY]
 |n+1,x::r=>by simp[xY,GP n r]
theorem pu(xs:LV)(k:Nat):slicePick ⟨xs⟩ none (some (Int.ofNat k)) none=⟨xY k xs⟩:=by
 rw[GP]
 have hb:sliceBounds none (some (Int.ofNat k)) none xs.length=(0,((min k xs.length:Nat):Int),1):=by
  unfold sliceBounds
  simp only[Option.getD_none,show(1:Int)>0 by decide,if_true]
  refine Prod.mk.injEq ..▸⟨rfl,Prod.mk.injEq ..▸⟨?_,rfl⟩⟩
  have:¬(Int.ofNat k<0):=by simp
  rw[if_neg this]
  show max 0 (min (k:Int) (xs.length:Int))=_
  omega
 unfold slicePick
 show((sliceRange (sliceBounds none (some (Int.ofNat k)) none xs.length).1 (sliceBounds none (some (Int.ofNat k)) none xs.length).2.1 (sliceBounds none (some (Int.ofNat k)) none xs.length).2.2).filterMap ((⟨xs⟩:Array Vl)[·]?)).toArray=_
 rw[hb]
 show((sliceRange ((0:Nat):Int) ((min k xs.length:Nat):Int) 1).filterMap _).toArray=_
 rw[sliceRange_one]
 congr 1
 simp only[Nat.sub_zero,Nat.zero_add,List.map_id']
 apply List.ext_getElem?
 intro i
 have key:∀m:Nat,m≤xs.length→(List.range m).filterMap (fun x=>(⟨xs⟩:Array Vl)[x]?)=xs.take m:=by
  intro m
  induction m with
  |zero=>intro _;simp
  |succ m ih=>
   intro hm
   rw[List.range_succ,List.filterMap_append,ih (by omega),List.take_add_one]
   congr 1
   rw[List.filterMap_cons,List.filterMap_nil,List.getElem?_toArray]
   cases xs[m]? <;>rfl
 have:=key (min k xs.length) (by omega)
 have e2:xs.take (min k xs.length)=xs.take k:=by
  rw[List.take_eq_take_iff];omega
 rw[e2] at this
 rw[←this]
section
variable{p:Program}{w:Wd}{kt:KT}{os:OS}{dep:Nat}
end
end
section
open PySem.SeqAt PySem.MeetsSeq PySem.Calls PyProof.Rows
noncomputable def inZ(v:Vl):Int:=match v with
 | .int i _=>i
 |_=>0
theorem o6:∀n l,(xY n l).length≤n
 |0,_=>Nat.le_refl _
 |n+1,[]=>Nat.zero_le _
 |n+1,x::r=>Nat.succ_le_succ (o6 n r)
theorem wX{x:Vl}{r:LV}(h:fh (x::r)=true):(∃v t,x= .int v t)∧fh r=true:=by
 unfold fh at h
 cases x with
 |int v t=>exact⟨⟨v,t,rfl⟩,h⟩
 |_=>cases h
noncomputable def AL(ys:LV):Sem Fin:= .alloc (bu ys 0) fun a=> .pure (.done (.ret (.ref a)))
noncomputable def Pf(ys:Array Vl):Sem Fin:=PySem.W.R.bindR (PySem.W.Fast.tw12314024073155659997 (.type "list") (.seq ys)) fun v=> .pure (.done (.ret v))
theorem Fa(ys:Array Vl)(h:ys.size≤2^21):Pf ys=AL ys.toList:=by
 unfold Pf
 rw[←PySem.W.Fast.te12314024073155659997,←PySem.W.R.bindR_eq]
 have:¬ys.size>sizeLine:=by rw[sizeLine_eq];omega
 show Sem.bind (newObj (.type "list") (.seq ys)) _=_
 unfold newObj
 simp only[this,if_false]
 rfl
noncomputable def Ge(X Y:BT→LV):Fac:=⟨fun T _ _=>Pf (@HAppend.hAppend _ _ _ (@instHAppendOfAppend _ (PySem.W.Fast.tw494991955013373658 (α:=Vl))) (⟨X T⟩:Array Vl) (⟨Y T⟩:Array Vl)),fun T _ _=>AL (X T++Y T)⟩
theorem FA{X Y:BT→LV}(h:∀T,(X T).length+(Y T).length≤2^20):(Ge X Y).l=(Ge X Y).r:=by
 funext T _ _
 show Pf (@HAppend.hAppend _ _ _ (@instHAppendOfAppend _ (PySem.W.Fast.tw494991955013373658 (α:=Vl))) (⟨X T⟩:Array Vl) (⟨Y T⟩:Array Vl))=AL (X T++Y T)
 rw[←PySem.W.Fast.te494991955013373658]
 show Pf ((⟨X T⟩:Array Vl)++(⟨Y T⟩:Array Vl))=AL (X T++Y T)
 rw[Fa _ (by have:=h T;simp;omega)]
 congr 1
 simp
theorem EW:∀F∈([]:List Fac),F.l=F.r:=fun _ h=>nomatch h
theorem oo{a:Fac}{l:List Fac}(h1:a.l=a.r)(h2:∀F∈l,F.l=F.r):∀F∈a::l,F.l=F.r:=fun h hm=>by
 rcases List.mem_cons.mp hm with rfl|hm
 ·exact h1
 ·exact h2 h hm
section
variable{w:Wd}{os:OS}{hdp:Nat}{slots:LN}
end
end
section
open PySem.SeqAt PySem.MeetsSeq PySem.Calls PyProof.Rows PySem.Builtin PySem.Builtin.Str

end
noncomputable abbrev bd{α β:Type}(x:Sem α)(f:α→Sem β):Sem β:= @Bind.bind Sem (@Monad.toBind Sem PySem.W.Fast.tw12456147031677567982) α β x f
noncomputable def past(t:Sem Fin)(o:Obj):Sem Fin:=match t with
 | .load _ _ k=>k o
 |x=>x
noncomputable def KG(rs:Nat→Vl)(ty:Vl)(a b:Nat):Sem Fin:=past (PySem.W.Fast.tw8938917530802602619 (.ref a) (.ref b) (rs a)) ⟨ty,none,.plain,#[]⟩
noncomputable def lxE(rs:Nat→Vl)(a:Nat)(iter:Vl):Sem Fin:=PySem.W.Fast.tw12377390311714414960 (.builtin PySem.W.SL.s9316426964554523096x16 ⟨[.ref a,iter,rs a],[]⟩)
noncomputable def lxR(rs:Nat→Vl)(ty:Vl)(a b:Nat):Sem Fin:=bd (PySem.W.Fast.tw8711993805878244202 (.ref b)) fun iter=>bd (PySem.W.Fast.tw17359229931016689406 [iter] (PySem.W.Fast.tw15112759502256325868 (.ref b))) fun room=>
 ite ((room||PySem.W.R.anyR PySem.W.Fast.tw16271295295120926622 fun x=> @BEq.beq Vl (@instBEqOfDecidableEq Vl PySem.W.Fast.tw7966671052430208091) ty (.type x))=true)
  (bd (rule "list.extend.makes-room") fun _=>bd (PySem.W.Fast.tw922294955767894045 (.ref a)) fun _=>lxE rs a iter) (lxE rs a iter)
theorem HO{a b:Nat}(h:a≠b):Builtin.List.listSameRef (.ref a) (.ref b)=false:=by
 show(a==b)=false
 simp[h]
theorem Fg{a b:Nat}{X Y:Bool}{A B:Sem Fin}(h:a≠b)(hx:X=false)(hy:Y=false):ite (((Builtin.List.listSameRef (.ref a) (.ref b)).or X).or Y=true) A B=B:=by
 rw[HO h,hx,hy];rfl
noncomputable def lxJ(rs:Nat→Vl)(a:Nat)(xs:Array Vl):Sem Fin:=bd (PySem.W.Fast.tw2060155186595164805 (.ref a) fun x=> @HAppend.hAppend _ _ _ (@instHAppendOfAppend _ (PySem.W.Fast.tw494991955013373658 (α:=Vl))) x xs) fun _=>PySem.W.Fast.tw6905046200447255374 (rs a)
noncomputable def XB(rs:Nat→Vl)(a b:Nat):Sem Fin:=bd (PySem.W.Fast.tw10557518346328741659 (.ref b)) fun xs=>bd (PySem.W.Fast.tw10557518346328741659 (.ref a)) fun mine=>
 ite ((mine.isEmpty.not.and (Builtin.List.listTooLong (mine.size+xs.size)))=true) (bd (unsupported "list.extend:memory") fun(_:Unit)=>lxJ rs a xs) (lxJ rs a xs)
noncomputable def Ua(rs:Nat→Vl)(ty:Vl)(a b:Nat):Sem Fin:=ite (((Builtin.List.listSameRef (.ref a) (.ref b)).or (@BEq.beq Vl (@instBEqOfDecidableEq Vl PySem.W.Fast.tw7966671052430208091) ty (.type PySem.W.SL.s9222952809800978799x4))).or (@BEq.beq Vl (@instBEqOfDecidableEq Vl PySem.W.Fast.tw7966671052430208091) ty (.type PySem.W.SL.s2766695959194262286x5))=true) (XB rs a b) (lxR rs ty a b)
noncomputable def rN(_:Nat):Vl:= .none
noncomputable def rS(a:Nat):Vl:= .ref a
noncomputable def CS(rs:Nat→Vl)(ty:Vl):Fac2:=⟨KG rs ty,lxR rs ty⟩
theorem C2(a b:Nat):KG rN (.ref 818) a b=Ua rN (.ref 818) a b:=by kernel_rfl
theorem Cu:∀a b,a≠b→(CS rN (.ref 818)).l a b=(CS rN (.ref 818)).r a b:=fun a b h=>(C2 a b).trans (Fg h (by kernel_rfl) (by kernel_rfl))
theorem H8(a b:Nat):KG rS (.type "generator") a b=Ua rS (.type "generator") a b:=by kernel_rfl
theorem HV:∀a b,a≠b→(CS rS (.type "generator")).l a b=(CS rS (.type "generator")).r a b:=fun a b h=>(H8 a b).trans (Fg h (by kernel_rfl) (by kernel_rfl))
theorem cV:∀F∈([]:List Fac2),∀a b,a≠b→F.l a b=F.r a b:=fun _ h=>nomatch h
theorem b4{a:Fac2}{l:List Fac2}(h1:∀x y,x≠y→a.l x y=a.r x y)(h2:∀F∈l,∀a b,a≠b→F.l a b=F.r a b):∀F∈a::l,∀a b,a≠b→F.l a b=F.r a b:=fun h hm=>by
 rcases List.mem_cons.mp hm with rfl|hm
 ·exact h1
 ·exact h2 h hm
noncomputable def v5(q:Pos):List (Code×Pos):=[(.builtin "claim.caller" {},q)]
section
open PySem.SeqAt PySem.MeetsSeq PySem.Calls PyProof.Rows PySem.Builtin PySem.Builtin.Str
section
variable{w:Wd}{os:OS}{dep:Nat}{slots:LN}
theorem DP{p:Program}{kt:KT}{x:Str}{t:Tok}{L:Nat}{gl:LG}(hx:x.length=L)(hL:L≤2^20):
 cb (model p w) kt os dep (.builtin "len" ⟨[.str x t],[]⟩) [] (aL [] gl 1 fun l=> .ok (.ret (.int (Int.ofNat L) (gx l 0)))):=by
 refine eQ plain_len entry_len fun s K g l' q _ hk=> ?_
 unfold Builtin.«len»
 refine wpAny_bind (m:=oneArg "len" _) (wpAny_pure ?_)
 refine wpAny_bind (m:=callSpecial? (.str x t) (Str.ofString "__len__")) (wpAny_callSpecial?_slot (name:=Str.ofString "__len__") (typeIs_str s x t) PySem.F.slot_str_len
  (wpAny_call_entry PySem.F.slot_str_len (typeIs_str s x t) PySem.F.entry_str_len ?_ (PySem.F.args_str_len_1 _)))
 show wpAny _ _ (retInt (x.length:Int)) _ _ s
 unfold retInt
 refine wpAny_bind (wpAny_mkInt (wpAny_pure ⟨_,rfl,?_⟩))
 refine wpAny_bind (wpAny_holding (wpAny_pure ?_))
 refine wpAny_bind (wpAny_letGo ?_)
 rw[hx]
 show wpAny _ _ (if((L:Nat):Int)<0 then _ else _) _ _ _
 rw[if_neg (by omega)]
 show wpAny _ _ (if((L:Nat):Int)≥2^63 then _ else _) _ _ _
 rw[if_neg (by omega)]
 exact wpAny_bind (wpAny_mkInt (wpAny_pure (eK K g q _ _)))
noncomputable def g8(x:Str)(L:Nat)(slots:LN):Hk:=
 ⟨slots,fun _ _ c=> .builtin "len" ⟨[.str x (bz (b_ c 0))],[]⟩,fun gl _ _ _=>aL [] gl 1 fun l=> .ok (.ret (.int (Int.ofNat L) (gx l 0))),aC⟩
theorem o9{x:Str}{L hdp:Nat}(hx:x.length=L)(hL:L≤2^20)(hn:slots.Nodup:=by decide):(g8 x L slots).Ok (bs w.params w.params) w os hdp:=
 ⟨hn,fun gl ad obs c=>by
  intro s K g hl
  obtain rfl:ad=[]:=List.length_eq_zero_iff.mp hl
  exact DP hx hL s K g hl⟩
theorem IQ{x y:Int}{t u:Tok}{b:Bool}{gl:LG}(h:decide (x≥y)=b):
 cb (model TW w) (bD w.params) os 600 (.call (.builtin "int.__ge__") ⟨[.int x t,.int y u],[]⟩) [] (aL [] gl 0 fun _=> .ok (.ret (.bool b))):=by
 subst h
 exact aG (av w) (hdp:=700) (hs:=[]) (ks:=[]) ak ak [] (fun _ _ _=> []) 20 [0,0,0,0,0,0]
theorem G4{x y:Int}{t u:Tok}{b:Bool}{gl:LG}(h:decide (x<y)=b):
 cb (model TW w) (bD w.params) os 600 (.call (.builtin "int.__lt__") ⟨[.int x t,.int y u],[]⟩) [] (aL [] gl 0 fun _=> .ok (.ret (.bool b))):=by
 subst h
 exact aG (av w) (hdp:=700) (hs:=[]) (ks:=[]) ak ak [] (fun _ _ _=> []) 20 [0,0,0,0,0,0]
noncomputable def cC(x y:Int)(b:Bool)(slots:LN):Hk:=
 ⟨slots,fun _ _ c=> .call (.builtin "int.__ge__") ⟨[.int x (bz (b_ c 0)),.int y (bz (b_ c 1))],[]⟩,fun gl _ _ _=>aL [] gl 0 fun _=> .ok (.ret (.bool b)),aC⟩
theorem Ad{x y:Int}{b:Bool}{hdp:Nat}(h:decide (x≥y)=b)(hn:slots.Nodup:=by decide)(hd:hdp≤600:=by decide):(cC x y b slots).Ok (bs w.params w.params) w os hdp:=
 ⟨hn,fun gl ad obs c=>aE hd (by
  intro s K g hl
  obtain rfl:ad=[]:=List.length_eq_zero_iff.mp hl
  exact IQ h s K g hl)⟩
noncomputable def aK(x y:Int)(b:Bool)(slots:LN):Hk:=
 ⟨slots,fun _ _ c=> .call (.builtin "int.__lt__") ⟨[.int x (bz (b_ c 0)),.int y (bz (b_ c 1))],[]⟩,fun gl _ _ _=>aL [] gl 0 fun _=> .ok (.ret (.bool b)),aC⟩
theorem Fp{x y:Int}{b:Bool}{hdp:Nat}(h:decide (x<y)=b)(hn:slots.Nodup:=by decide)(hd:hdp≤600:=by decide):(aK x y b slots).Ok (bs w.params w.params) w os hdp:=
 ⟨hn,fun gl ad obs c=>aE hd (by
  intro s K g hl
  obtain rfl:ad=[]:=List.length_eq_zero_iff.mp hl
  exact G4 h s K g hl)⟩
theorem Je{p:Program}{kt:KT}{a:Addr}{x:Str}{t t1 t2:Tok}{k c:Nat}{gl:LG}(hx:x.cps.toList[k]? =some c)(h2:2≤x.length):
 cb (model p w) kt os dep (.call (.builtin "str.__getitem__") ⟨[.str x t,.ref a],[]⟩) [a] (aL [za (.int (Int.ofNat k) t1) (.int (Int.ofNat (k+1)) t2) .none] gl 1 fun l=> .ok (.ret (.str ⟨⟨[c]⟩⟩ (gx l 0)))):=by
 refine cH PySem.F.slot_str_getitem PySem.F.entry_str_getitem (PySem.F.args_str_getitem_2 _ _) fun s K g l' q _ hk=> ?_
 have hs:s.heap.get? a=some _:=q (a,_) List.mem_cons_self
 refine⟨typeIs_str s x t,?_⟩
 have qs:k<x.cps.toList.length:=(List.getElem?_eq_some_iff.mp hx).1
 have hlen:x.length=x.cps.toList.length:=rfl
 have hpk:(slicePicked x (some (Int.ofNat k,t1)) (some (Int.ofNat (k+1),t2)) none).filterMap (x.cps[·]?)=[c]:=by
  show(strSliceIndices (some ((k:Nat):Int)) (some ((k+1:Nat):Int)) 1 x.length).filterMap (x.cps[·]?)=[c]
  rw[StrLaws.sliced_plain x (by omega) (by omega)]
  have:k+1 -k=1:=by omega
  rw[this,List.drop_eq_getElem_cons qs,List.take_succ_cons,List.take_zero]
  have:=(List.getElem?_eq_some_iff.mp hx).2
  rw[this]
 have hmade:sliceMade x t (some (Int.ofNat k,t1)) (some (Int.ofNat (k+1),t2)) none= .str ⟨⟨[c]⟩⟩:=by
  unfold sliceMade
  rw[hpk]
  rw[if_neg]
  intro hh
  have h1:(slicePicked x (some (Int.ofNat k,t1)) (some (Int.ofNat (k+1),t2)) none).length=x.length:=by simpa using hh
  have h3:slicePicked x (some (Int.ofNat k,t1)) (some (Int.ofNat (k+1),t2)) none=strSliceIndices (some ((k:Nat):Int)) (some ((k+1:Nat):Int)) 1 x.length:=rfl
  rw[h3,StrLaws.strSliceIndices_plain (by omega) (by omega)] at h1
  simp at h1
  omega
 refine meets_str_getitem_slice x t a (some (Int.ofNat k,t1)) (some (Int.ofNat (k+1),t2)) none rfl p w (AG dep) _ s ⟨⟨_,hs,rfl,rfl⟩,?_⟩
 rw[hmade]
 exact⟨by show 1≤sizeLine;rw[sizeLine_eq];decide,eK K g q _ _⟩
noncomputable def cE(x:Str)(k c:Nat)(slots:LN):Hk:=
 ⟨slots,fun ad _ cc=> .call (.builtin "str.__getitem__") ⟨[.str x (bz (b_ cc 0)),.ref (gx ad 0)],[]⟩,fun gl _ obs _=>aL [za (.int (Int.ofNat k) (aJ obs 0 0)) (.int (Int.ofNat (k+1)) (aJ obs 0 1)) .none] gl 1 fun l=> .ok (.ret (.str ⟨⟨[c]⟩⟩ (gx l 0))),aC⟩
theorem Eo{x:Str}{k c hdp:Nat}(hx:x.cps.toList[k]? =some c)(h2:2≤x.length)(hn:slots.Nodup:=by decide):(cE x k c slots).Ok (bs w.params w.params) w os hdp:=
 qs hn (fun _ _ _ _=>rfl) fun gl a _ _=>Je hx h2
end
end
section
variable(w:Wd)(os:OS)
noncomputable def JA(x:Str)(L k ch ptk:Nat):PC:=fun ad t=>(.call (.ref 671) ⟨[.ref (gx ad 0),.int 1 (t 0)],[]⟩)
noncomputable def QB(x:Str)(L k ch ptk:Nat):PO:=fun P ad t=>[(O (.ref 725) (some (gx ad 1)) .plain ⟨[]⟩),(O (.type "dict") none (.dict ⟨[D P aj (t 1) (.str ⟨⟨[10]⟩⟩ (t 2)),D P ao (t 3) (.str x (t 4)),D P ap (t 5) (.int (Int.ofNat k) ptk)]⟩ (t 6)) ⟨[]⟩)]
noncomputable def KB(x:Str)(L k ch ptk:Nat):PS:=fun P gl ad t=>bW (QB x L k ch ptk P ad t) [(1,fun l=>(O (.type "dict") none (.dict ⟨[D P aj (t 1) (.str ⟨⟨[10]⟩⟩ (t 2)),D P ao (t 3) (.str x (t 4)),D P ap (t 5) (.int (Int.ofNat (k+1)) (gx l 0))]⟩ (t 6)) ⟨[]⟩))] [] 2 (fun l=> .ok (.ret (.str ⟨⟨[ch]⟩⟩ (gx l 1)))) gl
noncomputable def Ls(obs:LL)(c:Code):LN:=[bz (b_ c 1),aZ obs 1 0,aJ obs 1 0,aZ obs 1 1,aJ obs 1 1,aZ obs 1 2,bO (gO obs 1)]
noncomputable def US(r:Re)(T:BT)(xl:LN):LN:=[aY T 1 2,bz (dC r)]
theorem rdA(x:Str)(L k ch ptk:Nat)(hx:x.length=L)(hL:L≤2^20)(hc:x.cps.toList[k]? =some ch)(h2:2≤x.length)(hge:decide ((Int.ofNat k)≥(Int.ofNat L))=false)(hlt:decide ((Int.ofNat (k+1))<(Int.ofNat L))=true)(a0 a1:Nat)(gl:LG)(t:NN):SA w os 560 (JA x L k ch ptk) (KB x L k ch ptk w.params gl) [a0,a1] t:=
 aG (av w) (hdp:=600) (hs:=[g8 x L [],cC (Int.ofNat k) (Int.ofNat L) false [],aK (Int.ofNat (k+1)) (Int.ofNat L) true [],cE x k ch [5]]) (ks:=[]) (ac (o9 hx hL) (ac (Ad hge) (ac (Fp hlt) (ac (Eo hc h2) ak)))) ak [] US 418 (J [E8,[3],ō1,[3,3,0,0,3,1,3,3,3],ō7,[3,3,3],ō1,c9,ō1,[1,0],Aa,ō1,fR,FD,[3,3,4],c9,oc])
noncomputable def Kg(x:Str)(L k ch ptk:Nat):PC:=fun ad t=>(.call (.ref 671) ⟨[.ref (gx ad 0),.int 1 (t 0)],[]⟩)
noncomputable def TN(x:Str)(L k ch ptk:Nat):PO:=fun P ad t=>[(O (.ref 725) (some (gx ad 1)) .plain ⟨[]⟩),(O (.type "dict") none (.dict ⟨[D P aj (t 1) (.str ⟨⟨[10]⟩⟩ (t 2)),D P ao (t 3) (.str x (t 4)),D P ap (t 5) (.int (Int.ofNat k) ptk)]⟩ (t 6)) ⟨[]⟩)]
noncomputable def J1(x:Str)(L k ch ptk:Nat):PS:=fun P gl ad t=>bW (TN x L k ch ptk P ad t) [(1,fun l=>(O (.type "dict") none (.dict ⟨[D P aj (t 1) (.str ⟨⟨[10]⟩⟩ (t 2)),D P ao (t 3) (.str x (t 4)),D P ap (t 5) (.int (Int.ofNat (k+1)) (gx l 0))]⟩ (t 6)) ⟨[]⟩))] [] 2 (fun l=> .ok (.ret (.str ⟨⟨[ch]⟩⟩ (gx l 1)))) gl
noncomputable def LB(obs:LL)(c:Code):LN:=[bz (b_ c 1),aZ obs 1 0,aJ obs 1 0,aZ obs 1 1,aJ obs 1 1,aZ obs 1 2,bO (gO obs 1)]
noncomputable def T4(r:Re)(T:BT)(xl:LN):LN:=[aY T 1 2,bz (dC r)]
theorem rdB(x:Str)(L k ch ptk:Nat)(hx:x.length=k+1)(hL:k+1≤2^20)(hc:x.cps.toList[k]? =some ch)(h2:2≤x.length)(hge:decide ((Int.ofNat k)≥(Int.ofNat (k+1)))=false)(hlt:decide ((Int.ofNat (k+1))<(Int.ofNat (k+1)))=false)(a0 a1:Nat)(gl:LG)(t:NN):SA w os 560 (Kg x L k ch ptk) (J1 x L k ch ptk w.params gl) [a0,a1] t:=
 aG (av w) (hdp:=600) (hs:=[g8 x (k+1) [],cC (Int.ofNat k) (Int.ofNat (k+1)) false [],aK (Int.ofNat (k+1)) (Int.ofNat (k+1)) false [],cE x k ch [5]]) (ks:=[]) (ac (o9 hx hL) (ac (Ad hge) (ac (Fp hlt) (ac (Eo hc h2) ak)))) ak [] T4 401 (J [E8,[3],ō1,[3,3,0,0,3,1,3,3,3],ō1,c9,ō1,[1,0],Aa,ō1,fR,FD,[3,3,4],c9,oc])
noncomputable def JH(x:Str)(L k ch ptk:Nat):PC:=fun ad t=>(.call (.ref 671) ⟨[.ref (gx ad 0),.int 1 (t 0)],[]⟩)
noncomputable def UK(x:Str)(L k ch ptk:Nat):PO:=fun P ad t=>[(O (.ref 725) (some (gx ad 1)) .plain ⟨[]⟩),(O (.type "dict") none (.dict ⟨[D P aj (t 1) (.str ⟨⟨[10]⟩⟩ (t 2)),D P ao (t 3) (.str x (t 4)),D P ap (t 5) (.int (Int.ofNat L) ptk)]⟩ (t 6)) ⟨[]⟩)]
noncomputable def KE(x:Str)(L k ch ptk:Nat):PS:=fun P gl ad t=>bW (UK x L k ch ptk P ad t) [] [] 1 (fun l=> .ok (.ret (.str ⟨⟨[]⟩⟩ (gx l 0)))) gl
noncomputable def Lq(obs:LL)(c:Code):LN:=[bz (b_ c 1),aZ obs 1 0,aJ obs 1 0,aZ obs 1 1,aJ obs 1 1,aZ obs 1 2,bO (gO obs 1)]
noncomputable def Q0(r:Re)(T:BT)(xl:LN):LN:=[bz (dC r)]
theorem rdC(x:Str)(L k ch ptk:Nat)(hx:x.length=L)(hL:L≤2^20)(hge:decide ((Int.ofNat L)≥(Int.ofNat L))=true)(a0 a1:Nat)(gl:LG)(t:NN):SA w os 560 (JH x L k ch ptk) (KE x L k ch ptk w.params gl) [a0,a1] t:=
 aG (av w) (hdp:=600) (hs:=[g8 x L [],cC (Int.ofNat L) (Int.ofNat L) true []]) (ks:=[]) (ac (o9 hx hL) (ac (Ad hge) ak)) ak [] Q0 285 E8
noncomputable def dU(x:Str)(L k ch:Nat)(P:Pm)(slots:LN):Hk:=⟨slots,fun ad obs c=>JA x L k ch (aJ obs 1 2) ad (gx (Ls obs c)),fun gl ad obs c=>KB x L k ch (aJ obs 1 2) P gl ad (gx (Ls obs c)),aC⟩
theorem df(w:Wd)(os:OS){x:Str}{L k ch:Nat}(hx:x.length=L)(hL:L≤2^20)(hc:x.cps.toList[k]? =some ch)(h2:2≤x.length)(hk:k+1<L){slots:LN}(hn:slots.Nodup:=by decide){hdp:Nat}(hd:hdp≤560:=by decide):Hk.Ok (bs w.params w.params) w os hdp (dU x L k ch w.params slots):=Nj hn (fun _ _ _ _=>rfl) fun gl a b obs c=>aE hd (rdA w os x L k ch _ hx hL hc h2 (by simp;omega) (by simp;omega) a b gl _)
noncomputable def sG(x:Str)(L k ch:Nat)(P:Pm)(slots:LN):Hk:=⟨slots,fun ad obs c=>Kg x L k ch (aJ obs 1 2) ad (gx (LB obs c)),fun gl ad obs c=>J1 x L k ch (aJ obs 1 2) P gl ad (gx (LB obs c)),aC⟩
theorem o8(w:Wd)(os:OS){x:Str}{L k ch:Nat}(hx:x.length=k+1)(hL:k+1≤2^20)(hc:x.cps.toList[k]? =some ch)(h2:2≤x.length){slots:LN}(hn:slots.Nodup:=by decide){hdp:Nat}(hd:hdp≤560:=by decide):Hk.Ok (bs w.params w.params) w os hdp (sG x L k ch w.params slots):=Nj hn (fun _ _ _ _=>rfl) fun gl a b obs c=>aE hd (rdB w os x L k ch _ hx hL hc h2 (by simp;omega) (by simp) a b gl _)
noncomputable def lZ(x:Str)(L k ch:Nat)(P:Pm)(slots:LN):Hk:=⟨slots,fun ad obs c=>JH x L k ch (aJ obs 1 2) ad (gx (Lq obs c)),fun gl ad obs c=>KE x L k ch (aJ obs 1 2) P gl ad (gx (Lq obs c)),aC⟩
theorem hZ(w:Wd)(os:OS){x:Str}{L k ch:Nat}(hx:x.length=L)(hL:L≤2^20){slots:LN}(hn:slots.Nodup:=by decide){hdp:Nat}(hd:hdp≤560:=by decide):Hk.Ok (bs w.params w.params) w os hdp (lZ x L k ch w.params slots):=Nj hn (fun _ _ _ _=>rfl) fun gl a b obs c=>aE hd (rdC w os x L k ch _ hx hL (by simp) a b gl _)
end
section
open PySem.SeqAt PySem.MeetsSeq PySem.Calls PyProof.Rows PySem.Builtin PySem.Builtin.Str
section
variable{w:Wd}{os:OS}{dep:Nat}{slots:LN}
theorem IS{a b:Str}{t u:Tok}{res:Bool}{p:Program}{kt:KT}{gl:LG}(h:(a.cps.toList==b.cps.toList)=res):
 cb (model p w) kt os dep (.call (.builtin "str.__eq__") ⟨[.str a t,.str b u],[]⟩) [] (aL [] gl 0 fun _=> .ok (.ret (.bool res))):=by
 subst h
 refine cH PySem.F.slot_str_eq PySem.F.entry_str_eq (PySem.F.args_str_eq_2 _ _) fun s K g l' q _ hk=> ?_
 refine⟨typeIs_str s a t,?_⟩
 show wpAny _ _ (ret (.bool (a.cps.toList==b.cps.toList))) _ _ s
 exact wpAny_pure ⟨[],[],rfl,rfl,rfl,b6 K g q _⟩
theorem Hi{a b:Str}{t u:Tok}{res:Bool}{p:Program}{kt:KT}{gl:LG}(h:(!(occurrences a b 0 a.length 1).isEmpty)=res):
 cb (model p w) kt os dep (.call (.builtin "str.__contains__") ⟨[.str a t,.str b u],[]⟩) [] (aL [] gl 0 fun _=> .ok (.ret (.bool res))):=by
 subst h
 refine cH PySem.F.slot_str_contains PySem.F.entry_str_contains (PySem.F.args_str_contains_2 _ _) fun s K g l' q _ hk=> ?_
 refine⟨typeIs_str s a t,?_⟩
 show wpAny _ _ (ret (.bool !(occurrences a b 0 a.length 1).isEmpty)) _ _ s
 exact wpAny_pure ⟨[],[],rfl,rfl,rfl,b6 K g q _⟩
theorem ve{x y:Str}(h:(x.length==0)=true):x++y=y:=by
 obtain⟨⟨a⟩⟩:=x
 obtain⟨⟨b⟩⟩:=y
 have:a=[]:=by
  have h':a.length=0:=by simpa[Str.length] using h
  exact List.length_eq_zero_iff.mp h'
 subst this
 show Str.mk (#[]++⟨b⟩)=_
 simp
theorem Jv{x y:Str}{t u:Tok}{p:Program}{kt:KT}{gl:LG}(hy:(y.length==0)=false)(hz:x.length+y.length≤2^20):
 cb (model p w) kt os dep (.call (.builtin "str.__add__") ⟨[.str x t,.str y u],[]⟩) [] (aL [] gl 1 fun l=> .ok (.ret (.str (x++y) (gx l 0)))):=by
 refine cH PySem.F.slot_str_add PySem.F.entry_str_add (PySem.F.args_str_add_2 _ _) fun s K g l' q _ hk=> ?_
 refine⟨typeIs_str s x t,?_⟩
 refine gives_str_add x y t u p w (AG dep) (fp (aL [] gl 1 fun l=> .ok (.ret (.str (x++y) (gx l 0)))) [] s) s ?_
 by_cases hx:(x.length==0)=true
 ·rw[if_pos hx]
  show fp _ _ _ _ _
  have e:=ve (y:=y) hx
  have z:fp (aL [] gl 1 fun l=> .ok (.ret (.str (x++y) (gx l 0)))) [] s (.ok (.ret (.str (x++y) u))) s:=⟨[],[u],rfl,rfl,rfl,b6 K g q _⟩
  have e':(Value.str y u)=Value.str (x++y) u:=by rw[e]
  rw[e']
  exact z
 ·rw[if_neg hx,if_neg (by rw[hy];decide)]
  exact⟨by rw[sizeLine_eq,Str.length_append];omega,eK K g q _ _⟩
noncomputable def Ba(a b:Str)(res:Bool)(slots:LN):Hk:=
 ⟨slots,fun _ _ c=> .call (.builtin "str.__eq__") ⟨[.str a (bz (b_ c 0)),.str b (bz (b_ c 1))],[]⟩,fun gl _ _ _=>aL [] gl 0 fun _=> .ok (.ret (.bool res)),aC⟩
theorem zK{a b:Str}{res:Bool}{hdp:Nat}(h:(a.cps.toList==b.cps.toList)=res)(hn:slots.Nodup:=by decide):(Ba a b res slots).Ok (bs w.params w.params) w os hdp:=
 ⟨hn,fun gl ad obs c=>by
  intro s K g hl
  obtain rfl:ad=[]:=List.length_eq_zero_iff.mp hl
  exact IS h s K g hl⟩
noncomputable def ci(a b:Str)(res:Bool)(slots:LN):Hk:=
 ⟨slots,fun _ _ c=> .call (.builtin "str.__contains__") ⟨[.str a (bz (b_ c 0)),.str b (bz (b_ c 1))],[]⟩,fun gl _ _ _=>aL [] gl 0 fun _=> .ok (.ret (.bool res)),aC⟩
theorem bN{a b:Str}{res:Bool}{hdp:Nat}(h:(!(occurrences a b 0 a.length 1).isEmpty)=res)(hn:slots.Nodup:=by decide):(ci a b res slots).Ok (bs w.params w.params) w os hdp:=
 ⟨hn,fun gl ad obs c=>by
  intro s K g hl
  obtain rfl:ad=[]:=List.length_eq_zero_iff.mp hl
  exact Hi h s K g hl⟩
noncomputable def vY(x y:Str)(slots:LN):Hk:=
 ⟨slots,fun _ _ c=> .call (.builtin "str.__add__") ⟨[.str x (bz (b_ c 0)),.str y (bz (b_ c 1))],[]⟩,fun gl _ _ _=>aL [] gl 1 fun l=> .ok (.ret (.str (x++y) (gx l 0))),aC⟩
theorem lX{x y:Str}{hdp:Nat}(hy:(y.length==0)=false)(hz:x.length+y.length≤2^20)(hn:slots.Nodup:=by decide):(vY x y slots).Ok (bs w.params w.params) w os hdp:=
 ⟨hn,fun gl ad obs c=>by
  intro s K g hl
  obtain rfl:ad=[]:=List.length_eq_zero_iff.mp hl
  exact Jv hy hz s K g hl⟩
noncomputable def gD(c:Nat):Bool:=c==97||c==42||c==63||c==98||c==91||c==93||c==33
theorem k8{c:Nat}(h:gD c=true):c=97∨c=42∨c=63∨c=98∨c=91∨c=93∨c=33:=by
 unfold gD at h
 simpa only[Bool.or_eq_true,beq_iff_eq,or_assoc] using h
theorem MJ{c:Nat}(h:gD c=true):((⟨⟨[c]⟩⟩:Str).cps.toList==(⟨⟨[10]⟩⟩:Str).cps.toList)=false:=by
 rcases k8 h with rfl|rfl|rfl|rfl|rfl|rfl|rfl<;>decide
theorem UB{c:Nat}(h:gD c=true):((⟨⟨[c]⟩⟩:Str).cps.toList==(⟨⟨[39]⟩⟩:Str).cps.toList)=false:=by
 rcases k8 h with rfl|rfl|rfl|rfl|rfl|rfl|rfl<;>decide
theorem So{c:Nat}(h:gD c=true):(!(occurrences ⟨⟨[92]⟩⟩ ⟨⟨[c]⟩⟩ 0 (⟨⟨[92]⟩⟩:Str).length 1).isEmpty)=false:=by
 rcases k8 h with rfl|rfl|rfl|rfl|rfl|rfl|rfl<;>decide+kernel
end
end
section
open PySem.SeqAt PySem.MeetsSeq PySem.Calls PyProof.Rows
noncomputable def jq(x y:Str):Bool:=0+y.length≤x.length&&Builtin.Str.subAt x y 0
section
variable{w:Wd}{os:OS}{hdp:Nat}{slots:LN}
theorem Iu{x y:Str}{t u:Tok}{res:Bool}{p:Program}{kt:KT}{gl:LG}{dep:Nat}(h:jq x y=res):
 cb (model p w) kt os dep (.call (.builtin "str.startswith") ⟨[.str x t,.str y u],[]⟩) [] (aL [] gl 0 fun _=> .ok (.ret (.bool res))):=by
 subst h
 refine cH PySem.F.slot_str_startswith PySem.F.entry_str_startswith (PySem.F.args_str_startswith_2 _ _) fun s K g l' q _ hk=> ?_
 refine⟨typeIs_str s x t,?_⟩
 exact gives_str_startswith x y t u p w (AG dep) (fp (aL [] gl 0 fun _=> .ok (.ret (.bool (jq x y)))) [] s) s ⟨[],[],rfl,rfl,rfl,b6 K g q _⟩
noncomputable def yY(x y:Str)(res:Bool)(slots:LN):Hk:=
 ⟨slots,fun _ _ c=> .call (.builtin "str.startswith") ⟨[.str x (bz (b_ c 0)),.str y (bz (b_ c 1))],[]⟩,fun gl _ _ _=>aL [] gl 0 fun _=> .ok (.ret (.bool res)),aC⟩
theorem wY{x y:Str}{res:Bool}(h:jq x y=res)(hn:slots.Nodup:=by decide):(yY x y res slots).Ok (bs w.params w.params) w os hdp:=
 ⟨hn,fun gl ad obs c=>by
  intro s K g hl
  obtain rfl:ad=[]:=List.length_eq_zero_iff.mp hl
  exact Iu h s K g hl⟩
noncomputable def ye(P:Pm)(a:Addr)(d:SD)(i:Nat)(L:LN)(x:Vl)(slots:LN):Hk:=
 ⟨slots,fun ad _ _=> .builtin "set_iterator.__next__" ⟨[.ref (gx ad 0)],[]⟩,fun gl ad _ _=>{pre:=[fJ (kZ P L) (.ref a) i d.es.size d.ep,fi d],post:=[fun _=>fJ (kZ P L) (.ref a) (i+1) d.es.size d.ep,fun _=>fi d],news:=[],nt:=0,rv:=fun _=> .ok (.ret x),gl,gl':=gl},aC⟩
noncomputable def JU(P:Pm)(a:Addr)(d:SD)(L slots:LN):Hk:=
 ⟨slots,fun ad _ _=> .builtin "set_iterator.__next__" ⟨[.ref (gx ad 0)],[]⟩,fun gl ad _ _=>{pre:=[fJ (kZ P L) (.ref a) d.es.size d.es.size d.ep,fi d],post:=[fun _=>fJ (.int 0 0) .none d.es.size d.es.size d.ep,fun _=>fi d],news:=[fun l=>fA (gx l 1),fun _=>td],nt:=0,rv:=fun l=> .error (.ref (gx l 0)),gl,gl':=gl},aC⟩
noncomputable def Op(a:Addr)(h:HkU)(j:Nat):HkU:=fun c' κ T m sg tb ti gl xl=> .nat (bx sg j) a (h c' κ T m sg tb ti gl xl)
theorem wv{a:Addr}{d:SD}{l:List SV}{i:Nat}{L:LN}{x:Vl}{j0 j1:Nat}(G:bR w d l)(hx:(vn w.params a d L)[i]? =some x)(hn:j0≠j1):
 HkU.Ok (bs w.params w.params) (fun _=>pd w.params d.es.size L) w os hdp (Op a (Cj fun xl=>ye w.params a d i L x [j0,j1]) j1):=by
 intro ys h₀ c' κ T m sg tb ti gl xl s H D hg
 obtain⟨ha,H⟩:=H
 subst ha
 unfold Cj at H
 dsimp only at H
 obtain⟨hc,hgl,h1,h2,h3,h4⟩:=cL (slots:=[j0,j1]) (by simp[hn]) H D
 have hG:HS s (pd w.params d.es.size L) [bx sg j0,bx sg j1]:=fun p hp=>⟨(D.gho p hp).1,fun hm=>by
  obtain⟨_,_,hl1,hl2,H'⟩:=H
  obtain⟨hpre,_⟩:=fW H'
  have q0:=hpre (j0,_) List.mem_cons_self
  have q1:=hpre (j1,_) (List.mem_cons_of_mem _ List.mem_cons_self)
  rcases List.mem_cons.mp hm with e|e
  ·exact(D.gho p hp).2 _ _ q0 e.symm
  ·rw[List.mem_singleton] at e
   exact(D.gho p hp).2 _ _ q1 e.symm⟩
 have z:=C1 (dep:=hdp) (a:=bx sg j1) (b:=bx sg j0) (L:=L) (gl:=gl) G hx s (gM D hg) D.gens h1 h2 h3 h4 hG
 intro Γ p hΓ hb
 rw[hc] at hΓ
 obtain⟨r,s',hr,as,ts,ha,ht,hrr,E⟩:=z Γ p hΓ hb
 obtain⟨T',m',sg',tb',ti',gl',K,D',g'⟩:=cR (slots:=[j0,j1]) (by simp[hn]) H D ha ht E
 exact⟨r,s',hr,T',m',sg',tb',ti',gl',_,by rw[hrr];exact K,D',g'⟩
theorem PA{a:Addr}{d:SD}{l:List SV}{L:LN}{j0 j1:Nat}(G:bR w d l)(hn:j0≠j1):
 HkU.Ok (bs w.params w.params) (fun _=>pd w.params d.es.size L) w os hdp (Op a (Cj fun xl=>JU w.params a d L [j0,j1]) j1):=by
 intro ys h₀ c' κ T m sg tb ti gl xl s H D hg
 obtain⟨ha,H⟩:=H
 subst ha
 unfold Cj at H
 dsimp only at H
 obtain⟨hc,hgl,h1,h2,h3,h4⟩:=cL (slots:=[j0,j1]) (by simp[hn]) H D
 have hG:HS s (pd w.params d.es.size L) [bx sg j0,bx sg j1]:=fun p hp=>⟨(D.gho p hp).1,fun hm=>by
  obtain⟨_,_,hl1,hl2,H'⟩:=H
  obtain⟨hpre,_⟩:=fW H'
  have q0:=hpre (j0,_) List.mem_cons_self
  have q1:=hpre (j1,_) (List.mem_cons_of_mem _ List.mem_cons_self)
  rcases List.mem_cons.mp hm with e|e
  ·exact(D.gho p hp).2 _ _ q0 e.symm
  ·rw[List.mem_singleton] at e
   exact(D.gho p hp).2 _ _ q1 e.symm⟩
 have z:=Di (dep:=hdp) (a:=bx sg j1) (b:=bx sg j0) (L:=L) (gl:=gl) G s (gM D hg) D.gens h1 h2 h3 h4 hG
 intro Γ p hΓ hb
 rw[hc] at hΓ
 obtain⟨r,s',hr,as,ts,ha,ht,hrr,E⟩:=z Γ p hΓ hb
 obtain⟨T',m',sg',tb',ti',gl',K,D',g'⟩:=cR (slots:=[j0,j1]) (by simp[hn]) H D ha ht E
 exact⟨r,s',hr,T',m',sg',tb',ti',gl',_,by rw[hrr];exact K,D',g'⟩
noncomputable def Qk(P:Pm)(n:Nat)(xl:LN):List (Addr×Obj):=match xl with
 |[]=> []
 |k::L=>match k with
  |0=> []
  |_+1=>pd P n L
noncomputable def z_(P:Pm)(d:SD)(j:Nat):HkU:=fun c' κ T m sg tb ti gl xl=>
 .nat xl.length 0 (.lst fun L=>ov [j] c' (.call (.builtin "set.__iter__") ⟨[.ref (bx sg j)],[]⟩) (Dd P (bx sg j) d gl L) (fun _=> []) (fun l=>fun T m sg tb ti gl _=>κ (.ok (.ret (.ref (gx l 0)))) T m sg tb ti gl (1::L)) T m sg tb ti gl xl)
theorem zo{d:SD}{l:List SV}{j:Nat}(G:bR w d l)(hd2:2≤d.es.size)(hdp':d.t.plain=false)(hz:d.es.size≤1000):
 HkU.Ok (bs w.params w.params) (Qk w.params d.es.size) w os hdp (z_ w.params d j):=by
 intro ys h₀ c' κ T m sg tb ti gl xl s H D hg
 obtain⟨hx0,H⟩:=H
 have hxl:xl=[]:=List.length_eq_zero_iff.mp hx0
 subst hxl
 obtain⟨hc,hgl,h1,h2,h3,h4⟩:=cL (slots:=[j]) (by simp) (H []) D
 have ha:s.heap.get? (bx sg j)=some (fi d):=h2 (bx sg j,_) List.mem_cons_self
 have V:=Ct (dep:=hdp) (gl:=gl) G hd2 hdp' hz (gM D hg) D.gens ha
 intro Γ p hΓ hb
 rw[hc] at hΓ
 obtain⟨r,s',hr,L,b,hrr,E,hgh⟩:=V Γ p hΓ hb
 obtain⟨T',m',sg',tb',ti',gl',K,D',g',lt'⟩:=tM (slots:=[j]) (by simp) (H L) D (as:=[b]) (ts:=[]) rfl rfl E
 refine⟨r,s',hr,T',m',sg',tb',ti',gl',1::L,by rw[hrr];exact K,?_,g'⟩
 refine⟨D'.size,D'.seg,D'.own,D'.inj,D'.ktH,D'.keep,D'.low,D'.toks,D'.gens,D'.os,fun q hq=>⟨(hgh q hq).1,fun i o ei he=> ?_⟩,D'.tkb⟩
 rcases lt' i o ei with h|h
 ·rw[List.mem_singleton] at h
  exact(hgh q hq).2.2 (he.symm.trans h)
 ·rw[he] at h
  exact absurd (hgh q hq).2.1 (Nat.not_le.mpr h)
end
end
section
open PySem.SeqAt PySem.MeetsSeq PySem.Calls PyProof.Rows
section
variable{B:Bs}{w:Wd}{os:OS}
noncomputable def exG(U:Us)(G:List (Addr×Obj))(fct:List (Nat×Nat))(ad:LA)(S:Spec)(ns:LN)(tk:Re→BT→LN→LN):Ex:=
 ⟨pW (List.range ad.length) ad S ns tk,xV,eO U.hs,g6 U.ks,fun _=>G,U.sam,fct,i8,U.fa,U.fb,none,U.f3⟩
theorem fH(W:iY B w){G:List (Addr×Obj)}{dep hdp:Nat}{U:Us}(hU:U.Ok B (fun _=>G) w os dep hdp){c:Code}{ad:LA}{S:Spec}(ns:LN)(tk:Re→BT→LN→LN)(n:Nat)(ora:LN)
 (h1:Nat.beq ad.length S.post.length=true:=by exact rfl)(h2:Nat.beq ns.length S.news.length=true:=by exact rfl)(hn:(List.range ad.length++ns).Nodup:=by exact eC rfl)
 (run:bV (.need fun N=> .need fun tb=> .pos fun p=>bY (cf B dep hdp (exG U G (U.fc tb) ad S ns tk)) n ora c p [] (B.den c) (cA S.pre .nil 0) ad.length ((ad.length,N)::d7 ad 0 []) tb 0 S.gl []):=by refine bm ?_;kernel_rfl):SumG (model B.prog w) B.kt os dep c ad S G:=by
 intro s K hgl hl hp cy hkt hG
 have D:=od K (ys:=ad) (obs:=S.pre) hl hp cy hkt hG
 have e:s.gens.toList=S.gl:=by rw[hgl]
 rw[e] at D
 have hg:∀x∈S.gl,dp x:=by have:=K.gok;rwa[e] at this
 exact cj (e:=exG U G (U.fc s.toks) ad S ns tk) (xl:=[]) W (cP hU.hs) (dM hU.ks) (hU.fc _) rfl hU.f3 hU.fa hU.fb (fun _ _ _ _ _ _ _ _ _ _ _ _ H=>False.elim H)
  (fun r ora T m sg tb ti gl xl s' H D hg'=>qB (ora:=ora) (xl:=xl) hn (by simp) (Nat.eq_of_beq_eq_true h1).symm (Nat.eq_of_beq_eq_true h2) hg' K.os H D)
  (fun _ _ _ _ _ _ _ _ _ _ H=>False.elim H) (run s.heap.objs.size s.toks) D hg
noncomputable def exV(U:Us)(gh:LN→List (Addr×Obj))(fct:List (Nat×Nat))(ad:LA)(S:Spec)(ns:LN)(tk:Re→BT→LN→LN):Ex:=
 ⟨pW (List.range ad.length) ad S ns tk,xV,eO U.hs,Gx,gh,U.sam,fct,i8,U.fa,U.fb,none,U.f3⟩
theorem oe(W:iY B w){gh:LN→List (Addr×Obj)}(h0:gh []=[]){dep hdp:Nat}{U:Us}(hU:U.Ok B gh w os dep hdp){c:Code}{ad:LA}{S:Spec}(ns:LN)(tk:Re→BT→LN→LN)(n:Nat)(ora:LN)
 (h1:Nat.beq ad.length S.post.length=true:=by exact rfl)(h2:Nat.beq ns.length S.news.length=true:=by exact rfl)(hn:(List.range ad.length++ns).Nodup:=by exact eC rfl)
 (run:bV (.need fun N=> .need fun tb=> .pos fun p=>bY (cf B dep hdp (exV U gh (U.fc tb) ad S ns tk)) n ora c p [] (B.den c) (cA S.pre .nil 0) ad.length ((ad.length,N)::d7 ad 0 []) tb 0 S.gl []):=by refine bm ?_;kernel_rfl):cb (model B.prog w) B.kt os dep c ad S:=by
 intro s K hgl hl hp cy hkt
 have D:=cB K (ys:=ad) (obs:=S.pre) hl hp cy hkt
 have e:s.gens.toList=S.gl:=by rw[hgl]
 rw[e,←h0] at D
 have hg:∀x∈S.gl,dp x:=by have:=K.gok;rwa[e] at this
 exact cj (e:=exV U gh (U.fc s.toks) ad S ns tk) (xl:=[]) W (cP hU.hs) (fun _ _ _ _ _ _ _ _ _ _ _ _ _ _ H=>False.elim H) (hU.fc _) rfl hU.f3 hU.fa hU.fb (fun _ _ _ _ _ _ _ _ _ _ _ _ H=>False.elim H)
  (fun r ora T m sg tb ti gl xl s' H D hg'=>qB (ora:=ora) (xl:=xl) hn (by simp) (Nat.eq_of_beq_eq_true h1).symm (Nat.eq_of_beq_eq_true h2) hg' K.os H D)
  (fun _ _ _ _ _ _ _ _ _ _ H=>False.elim H) (run s.heap.objs.size s.toks) D hg
noncomputable def Lc(h:LN→Hk):HkU:=fun c' κ T m sg tb ti gl xl=>
 (fun(ad:LN)(obs:LL)=>(fun(S:Spec)=>ov (h xl).slots c' ((h xl).code ad obs c') S (fun _=> []) (fun l=>fun T m sg tb ti gl _=>κ (S.rv l) T m sg tb ti gl (0::(h xl).told ad obs c' l)) T m sg tb ti gl xl) ((h xl).spec gl ad obs c')) ((h xl).slots.map (bx sg)) (cw T (h xl).slots)
theorem An{gh:LN→List (Addr×Obj)}(h0:∀l,gh (0::l)=[]){hdp:Nat}{h:LN→Hk}(cy:∀xl,(h xl).slots.Nodup)(ok:∀xl gl ad obs c,SumG (model B.prog w) B.kt os hdp ((h xl).code ad obs c) ad ((h xl).spec gl ad obs c) (gh xl)):HkU.Ok B gh w os hdp (Lc h):=by
 intro ys h₀ c' κ T m sg tb ti gl xl s H D hg
 unfold Lc at H
 dsimp only at H
 have hsum:=ok xl gl ((h xl).slots.map (bx sg)) (cw T (h xl).slots) c'
 generalize (h xl).spec gl ((h xl).slots.map (bx sg)) (cw T (h xl).slots) c'=S at*
 obtain⟨hc,hgl,h1,h2,h3,h4⟩:=cL (cy xl) H D
 have hG:HS s (gh xl) ((h xl).slots.map (bx sg)):=fun p hp=>⟨(D.gho p hp).1,fun hm=>by
  obtain⟨j,hj,e⟩:=List.mem_map.mp hm
  obtain⟨_,_,hl1,hl2,H'⟩:=H
  obtain⟨hpre,_⟩:=fW H'
  obtain⟨i,hi,rfl⟩:=List.mem_iff_getElem.mp hj
  have hl1':(h xl).slots.length=S.pre.length:=hl1
  exact(D.gho p hp).2 _ _ (hpre ((h xl).slots[i],S.pre[i]'(by omega)) (List.mem_iff_getElem.mpr ⟨i,by simp;omega,by simp⟩)) e⟩
 have z:=hsum s (gM D hg) (hgl▸D.gens) h1 h2 h3 h4 hG
 rw[←hc] at z
 intro Γ p hΓ hb
 obtain⟨r,s',hr,as,ts,ha,ht,rfl,E⟩:=z Γ p hΓ hb
 obtain⟨T',m',sg',tb',ti',gl',K,D',g'⟩:=cR (cy xl) H D ha ht E
 exact⟨_,s',hr,T',m',sg',tb',ti',gl',_,K,⟨D'.size,D'.seg,D'.own,D'.inj,D'.ktH,D'.keep,D'.low,D'.toks,D'.gens,D'.os,fun p hp=>(by rw[h0] at hp;cases hp),D'.tkb⟩,g'⟩
end
noncomputable def eN:Str:=⟨⟨(J [[95,73,103,110,111,114,101,46,110,97,109,101,115],BP])⟩⟩
noncomputable def b7:Str:=⟨⟨[47,112,105,108,101]⟩⟩
noncomputable def vZ:Str:=⟨⟨[102,105,108,101,110,97,109,101]⟩⟩
noncomputable def og:Str:=⟨⟨[109,111,100,117,108,101,110,97,109,101]⟩⟩
noncomputable def YU:Str:=⟨⟨[109,111,100]⟩⟩
noncomputable def b8:Str:=⟨⟨[46]⟩⟩
noncomputable def Cl(P:Pm)(ad:LN)(t:NN)(X:Str)(Xt:Nat)(m:Option (Nat×Vl))(e:Nat):Obj:=O (.type "frame") none (.dict ⟨match m with
 |none=> [D P du (t 0) (.ref (gx ad 3)),D P vZ (t 1) (.str b7 (t 2)),D P og (t 3) (.str X Xt)]
 |some k=> [D P du (t 0) (.ref (gx ad 3)),D P vZ (t 1) (.str b7 (t 2)),D P og (t 3) (.str X Xt),D P YU k.1 k.2]⟩ e) ⟨[]⟩
noncomputable def Dc(P:Pm)(ad:LN)(t:NN)(it:Obj)(d:SD)(fr ig:Obj):LL:=
 [it,fi d,fr,O (.ref 144) (some (gx ad 4)) .plain ⟨[]⟩,O (.type "dict") none (.dict ⟨[D P wt (t 4) (.ref (gx ad 1)),D P wi (t 5) (.ref (t 6)),D P ik (t 7) (.ref (gx ad 5))]⟩ (t 8)) ⟨[]⟩,ig]
noncomputable def yg(ad:LN):Code:=Xm [18,1,2] (.ref (gx ad 0)) {scope:=c7 [18,1],locals:=gx ad 2,globals:=3,cells:=[],qual:=eN,func:=some 141,code:= .ref 140,frame:=some (gx ad 2),builtins:=0}
noncomputable def y8(P:Pm)(ad:LN)(d:SD)(L:LN)(i:Nat):Vl:=gV (vn P (gx ad 1) d L) i
noncomputable def Vk(P:Pm)(ad:LN)(t:NN)(X:Str)(Xt:Nat)(m m':Option (Nat×Vl))(e e':Nat)(d:SD)(L:LN)(R:List bT)(n i:Nat)(y:Vl)(gl:LG):Spec:=
 match m with
 |none=>bW (Dc P ad t (fJ (kZ P L) (.ref (gx ad 1)) i d.es.size d.ep) d (Cl P ad t X Xt none e) (fg P R n)) [(0,fun _=>fJ (kZ P L) (.ref (gx ad 1)) (i+1) d.es.size d.ep),(2,fun l=>Cl P ad t X Xt (some (gx l 0,y)) (e+1))] [] 1 (fun _=> .ok .next) gl
 |some k=>bW (Dc P ad t (fJ (kZ P L) (.ref (gx ad 1)) i d.es.size d.ep) d (Cl P ad t X Xt (some k) e) (fg P R n)) [(0,fun _=>fJ (kZ P L) (.ref (gx ad 1)) (i+1) d.es.size d.ep),(2,fun l=>Cl P ad t X Xt (some (k.1,y)) e)] [] 0 (fun _=> .ok .next) gl
noncomputable def TR(P:Pm)(ad:LN)(t:NN)(X:Str)(Xt:Nat)(m:Option (Nat×Vl))(e:Nat)(d:SD)(L:LN)(R:List bT)(n i:Nat)(y:Vl)(gl:LG):Spec:=
 match m with
 |none=>bW (Dc P ad t (fJ (kZ P L) (.ref (gx ad 1)) i d.es.size d.ep) d (Cl P ad t X Xt none e) (fg P R n)) [(0,fun _=>fJ (kZ P L) (.ref (gx ad 1)) (i+1) d.es.size d.ep),(2,fun l=>Cl P ad t X Xt (some (gx l 0,y)) (e+1)),(5,fun l=>fg P (R++ [(X,Xt,.int 1 (gx l 1))]) (n+1))] [] 3 (fun l=> .ok (.ret (.int 1 (gx l 2)))) gl
 |some k=>bW (Dc P ad t (fJ (kZ P L) (.ref (gx ad 1)) i d.es.size d.ep) d (Cl P ad t X Xt (some k) e) (fg P R n)) [(0,fun _=>fJ (kZ P L) (.ref (gx ad 1)) (i+1) d.es.size d.ep),(2,fun l=>Cl P ad t X Xt (some (k.1,y)) e),(5,fun l=>fg P (R++ [(X,Xt,.int 1 (gx l 0))]) (n+1))] [] 2 (fun l=> .ok (.ret (.int 1 (gx l 1)))) gl
noncomputable def nmK(T:BT)(xl:LN):LN:=[dZ T 2 3]
noncomputable def X0(T:BT)(xl:LN):LN:=[]
noncomputable def XE(r:Re)(T:BT)(xl:LN):LN:=[dZ T 2 3,zV xl 0,bz (dC r)]
noncomputable def W4(r:Re)(T:BT)(xl:LN):LN:=[zV xl 0,bz (dC r)]
noncomputable def VE(r:Re)(T:BT)(xl:LN):LN:=[]
section
variable{w:Wd}{os:OS}{a0 a1 a2 a3 a4 a5:Nat}{t:NN}{X y:Str}{Xt yt e n i:Nat}{m:Option (Nat×Vl)}{d:SD}{l:List SV}{L:LN}{R:List bT}{gl:LG}
theorem VY(G:bR w d l)(hx:(vn w.params a1 d L)[i]? =some (.str y yt))(hy:y.length+Str.length b8≤2^20)(hs:jq X (y++b8)=false):
 Gi (model TW w) (bD w.params) os 600 (yg [a0,a1,a2,a3,a4,a5]) [a0,a1,a2,a3,a4,a5] (Vk w.params [a0,a1,a2,a3,a4,a5] t X Xt none none e e d L R n i (.str y yt) gl) (fun _=>yg [a0,a1,a2,a3,a4,a5]) (pd w.params d.es.size L):=
 iI (av w) (hdp:=640) (U:={hs:=[(Op a1 (Cj fun xl=>ye w.params a1 d i L (.str y yt) [0,1]) 1),(aB (vY y b8 [])),(aB (yY X (y++b8) false []))]}) ⟨(ac (wv G hx (by decide)) (ac (ae (lX (by decide) hy)) (ac (ae (wY hs)) ak))),ak,al,(fun _ h=>nomatch h),(fun _ h=>nomatch h),(fun _ h=>nomatch h)⟩ [] nmK 34 [1,0,1,2,0,3,3,3,3,2,3,1]
theorem aaQ{k u:Nat}{z:Vl}(G:bR w d l)(hx:(vn w.params a1 d L)[i]? =some (.str y yt))(hy:y.length+Str.length b8≤2^20)(hs:jq X (y++b8)=false)(z0:Str)(hz:z= .str z0 u):
 Gi (model TW w) (bD w.params) os 600 (yg [a0,a1,a2,a3,a4,a5]) [a0,a1,a2,a3,a4,a5] (Vk w.params [a0,a1,a2,a3,a4,a5] t X Xt (some (k,z)) none e e d L R n i (.str y yt) gl) (fun _=>yg [a0,a1,a2,a3,a4,a5]) (pd w.params d.es.size L):=by
 subst hz
 exact iI (av w) (hdp:=640) (U:={hs:=[(Op a1 (Cj fun xl=>ye w.params a1 d i L (.str y yt) [0,1]) 1),(aB (vY y b8 [])),(aB (yY X (y++b8) false []))]}) ⟨(ac (wv G hx (by decide)) (ac (ae (lX (by decide) hy)) (ac (ae (wY hs)) ak))),ak,al,(fun _ h=>nomatch h),(fun _ h=>nomatch h),(fun _ h=>nomatch h)⟩ [] X0 34 [1,0,1,2,0,3,3,3,3,2,3,1]
theorem Xz(G:bR w d l)(hx:(vn w.params a1 d L)[i]? =some (.str y yt))(hy:y.length+Str.length b8≤2^20)(hs:jq X (y++b8)=true)(hR:bZ X R=none)(hR1:R.length≤1000):
 SumG (model TW w) (bD w.params) os 600 (yg [a0,a1,a2,a3,a4,a5]) [a0,a1,a2,a3,a4,a5] (TR w.params [a0,a1,a2,a3,a4,a5] t X Xt none e d L R n i (.str y yt) gl) (pd w.params d.es.size L):=
 fH (av w) (hdp:=640) (U:={hs:=[(Op a1 (Cj fun xl=>ye w.params a1 d i L (.str y yt) [0,1]) 1),(aB (vY y b8 [])),(aB (yY X (y++b8) true [])),(Cm (fun xl=>ud w.params R n X Xt [5]))]}) ⟨(ac (wv G hx (by decide)) (ac (ae (lX (by decide) hy)) (ac (ae (wY hs)) (ac (c8 (fun _ _=>rfl) (fun xl=>(wN hR hR1))) ak)))),ak,al,(fun _ h=>nomatch h),(fun _ h=>nomatch h),(fun _ h=>nomatch h)⟩ [] XE 63 Kv
theorem ZF{k u:Nat}{z:Vl}(G:bR w d l)(hx:(vn w.params a1 d L)[i]? =some (.str y yt))(hy:y.length+Str.length b8≤2^20)(hs:jq X (y++b8)=true)(hR:bZ X R=none)(hR1:R.length≤1000)(z0:Str)(hz:z= .str z0 u):
 SumG (model TW w) (bD w.params) os 600 (yg [a0,a1,a2,a3,a4,a5]) [a0,a1,a2,a3,a4,a5] (TR w.params [a0,a1,a2,a3,a4,a5] t X Xt (some (k,z)) e d L R n i (.str y yt) gl) (pd w.params d.es.size L):=by
 subst hz
 exact fH (av w) (hdp:=640) (U:={hs:=[(Op a1 (Cj fun xl=>ye w.params a1 d i L (.str y yt) [0,1]) 1),(aB (vY y b8 [])),(aB (yY X (y++b8) true [])),(Cm (fun xl=>ud w.params R n X Xt [5]))]}) ⟨(ac (wv G hx (by decide)) (ac (ae (lX (by decide) hy)) (ac (ae (wY hs)) (ac (c8 (fun _ _=>rfl) (fun xl=>(wN hR hR1))) ak)))),ak,al,(fun _ h=>nomatch h),(fun _ h=>nomatch h),(fun _ h=>nomatch h)⟩ [] W4 63 Kv
noncomputable def nmE(P:Pm)(ad:LN)(t:NN)(X:Str)(Xt:Nat)(k:Nat×Vl)(e:Nat)(d:SD)(L:LN)(R:List bT)(n:Nat)(gl:LG):Spec:=
 bW (Dc P ad t (fJ (kZ P L) (.ref (gx ad 1)) d.es.size d.es.size d.ep) d (Cl P ad t X Xt (some k) e) (fg P R n)) [(0,fun _=>fJ (.int 0 0) .none d.es.size d.es.size d.ep)] [] 0 (fun _=> .ok .next) gl
theorem Uz{k:Nat×Vl}(G:bR w d l):
 SumG (model TW w) (bD w.params) os 600 (yg [a0,a1,a2,a3,a4,a5]) [a0,a1,a2,a3,a4,a5] (nmE w.params [a0,a1,a2,a3,a4,a5] t X Xt k e d L R n gl) (pd w.params d.es.size L):=
 fH (av w) (hdp:=640) (U:={hs:=[(Op a1 (Cj fun xl=>JU w.params a1 d L [0,1]) 1)]}) ⟨(ac (PA G (by decide)) ak),ak,al,(fun _ h=>nomatch h),(fun _ h=>nomatch h),(fun _ h=>nomatch h)⟩ [] VE 14 [1,0,1,2,7,0]
end
end
noncomputable def UF(o:Obj):Bool:=match o with
 |⟨c,d,dat,sl⟩=>match c with
  | .none=>match d with
   |none=>match dat with
    | .fields _=>match sl with
     |⟨[]⟩=>true
     |_=>false
    |_=>false
   |_=>false
  |_=>false
theorem DU{o:Obj}(h:UF o=true):∃vs,o=O .none none (.fields vs) ⟨[]⟩:=by
 rcases o with⟨c,d,dat,⟨sl⟩⟩
 cases c<;>first|(cases h;done)|skip
 cases d<;>first|(cases h;done)|skip
 cases dat<;>first|(cases h;done)|skip
 cases sl<;>first|(cases h;done)|skip
 exact⟨_,rfl⟩
noncomputable def Qi(T:BT):Bool:=match UF (gT T 1) with
 |true=>UF (gT T 2)
 |false=>false
noncomputable def xQ(M:Model)(kt:KT)(os:OS)(dep:Nat)(base:Pos→List (Code×Pos))(c:Code)(ad:LA)(pre:LL)(gl:LG)(S:BT→Spec):Prop:=
 ∀s,KH kt os s→s.gens=⟨gl⟩→ad.length=pre.length→(∀p∈ad.zip pre,s.heap.get? p.1=some p.2)→ad.Nodup→(∀a∈ad,∀o,kt.get a≠some o)→
  ∀(Γ:Ctx)(p q:Pos),Γ.code=c→Below Γ dep (some (base q))→∃r s',Runs M Γ p (denote table c) [] s (.ret r) s'∧∃T,Qi T=true∧∃as ts:LN,as.length=(S T).news.length∧ts.length=(S T).nt∧r=(S T).rv (as++ts)∧
   hO s s' (ad.zip ((S T).post.map (· (as++ts)))) (as.zip ((S T).news.map (· (as++ts)))) (S T).gl'
noncomputable def Mh(js:LN)(ad:LA)(S:BT→Spec)(ns:LN)(tk:Re→BT→LN→LN):Re→LN→K6:=fun r ora T m sg tb ti gl xl=>match Qi T with
 |true=>pW js ad (S T) ns tk r ora T m sg tb ti gl xl
 |false=> .fail 77
noncomputable def Lo(U:Us)(gh:LN→List (Addr×Obj))(fct:List (Nat×Nat))(base:List (Code×Pos))(ad:LA)(S:BT→Spec)(ns:LN)(tk:Re→BT→LN→LN):Ex:=
 ⟨Mh (List.range ad.length) ad S ns tk,xV,eO U.hs,Gx,gh,U.sam,fct,i8,U.fa,U.fb,some base,U.f3⟩
noncomputable def OK(B:Bs)(dep hdp:Nat)(U:Us)(gh:LN→List (Addr×Obj))(base:Pos→List (Code×Pos))(c:Code)(ad:LA)(pre:LL)(gl0:LG)(S:BT→Spec)(ns:LN)(tk:Re→BT→LN→LN)(n:Nat)(ora:LN):Out:=
 .need fun N=> .need fun tb=> .pos fun q=> .pos fun p=>bY (cf B dep hdp (Lo U gh (U.fc tb) (base q) ad S ns tk)) n ora c p [] (B.den c) (cA pre .nil 0) ad.length ((ad.length,N)::d7 ad 0 []) tb 0 gl0 []
theorem vr{B:Bs}{w:Wd}{os:OS}(W:iY B w){dep hdp:Nat}{U:Us}{gh:LN→List (Addr×Obj)}(h0:gh []=[])(hU:U.Ok B gh w os dep hdp)(base:Pos→List (Code×Pos)){c:Code}{ad:LA}{pre:LL}{gl0:LG}{S:BT→Spec}(ns:LN)(tk:Re→BT→LN→LN)(n:Nat)(ora:LN)
 (h1:∀T,Nat.beq ad.length (S T).post.length=true)(h2:∀T,Nat.beq ns.length (S T).news.length=true)(hn:(List.range ad.length++ns).Nodup:=by exact eC rfl)
 (run:bV (OK B dep hdp U gh base c ad pre gl0 S ns tk n ora):=by refine bm ?_;kernel_rfl):xQ (model B.prog w) B.kt os dep base c ad pre gl0 S:=by
 intro s K hgl hl hp cy hkt Γ p q hc hb
 have D:=cB K (ys:=ad) (obs:=pre) hl hp cy hkt
 have e:s.gens.toList=gl0:=by rw[hgl]
 rw[e,←h0] at D
 have hg:∀x∈gl0,dp x:=by have:=K.gok;rwa[e] at this
 have run':=run s.heap.objs.size s.toks q
 have G:wq (cf B dep hdp (Lo U gh (U.fc s.toks) (base q) ad S ns tk)) w ad s.heap os (fun r s'=>∃T,Qi T=true∧∃as ts:LN,as.length=(S T).news.length∧ts.length=(S T).nt∧r=(S T).rv (as++ts)∧
  hO s s' (ad.zip ((S T).post.map (· (as++ts)))) (as.zip ((S T).news.map (· (as++ts)))) (S T).gl'):=
  ⟨W.P,W.Q,W.Q3,W.den,W.bnd,W.ent,W.wak,W.lim,W.isS,hU.fa,hU.f3,hU.fb,hU.fc _,(fun _ _ _ _ _ _ _ _ _ _ _ _ H=>False.elim H),
   (fun r ora T m sg tb ti gl xl s' H D hg'=>by
    have H:bV (Mh (List.range ad.length) ad S ns tk r ora T m sg tb ti gl xl):=H
    unfold Mh at H
    cases q:Qi T with
    |false=>rw[q] at H;exact H.elim
    |true=>
     rw[q] at H
     exact⟨T,q,qB (S:=S T) (ora:=ora) (xl:=xl) hn (by simp) (Nat.eq_of_beq_eq_true (h1 T)).symm (Nat.eq_of_beq_eq_true (h2 T)) hg' K.os H D⟩),
   (fun _ _ _ _ _ _ _ _ _ _ H=>False.elim H),(fun j c' κ T m sg tb ti gl xl s H D hg=>cP hU.hs ad _ j c' κ T m sg tb ti gl xl s H D hg),
   (fun _ _ _ _ _ _ _ _ _ _ _ H=>False.elim H)⟩
 have ho:xe c:=hJ G (run' p)
 have z:=mD G _ _ _ p _ _ _ _ _ _ _ _ _ (run' p) s D ho (fun _ h=>nomatch h) hg Γ hc hb
 obtain⟨r,s',hr,hR⟩:=z
 refine⟨r,s',?_,hR⟩
 show Runs (model B.prog w) Γ p (denote table c) [] s (.ret r) s'
 rw[←W.den];exact hr
section
open PySem.SeqAt PySem.MeetsSeq PySem.Calls PyProof.Rows
structure NS(w:Wd)(os:OS)(gl:LG)(ad:LN)(t:NN)(X:Str)(Xt:Nat)(d:SD)(L:LN)(R:List bT)(n:Nat)(s0:Ś)(i:Nat)(m:Option (Nat×Vl))(e:Nat)(s:Ś):Prop where
 kh:KH (bD w.params) os s
 g:s.gens=⟨gl⟩
 at_:∀p∈ad.zip (Dc w.params ad t (fJ (kZ w.params L) (.ref (gx ad 1)) i d.es.size d.ep) d (Cl w.params ad t X Xt m e) (fg w.params R n)),s.heap.get? p.1=some p.2
 gh:HS s (pd w.params d.es.size L) ad
 kp:Keeps ad s0 s
theorem B1{s s':Ś}{G:List (Addr×Obj)}{ad:LA}{obs:LL}{news:List (Addr×Obj)}{gl:LG}(A:HS s G ad)(E:hO s s' (ad.zip obs) news gl)(hl:ad.length=obs.length):HS s' G ad:=
 fun p hp=>⟨E.keep _ _ (A p hp).1 (by rw[List.map_fst_zip (by omega)];exact(A p hp).2),(A p hp).2⟩
section
variable{w:Wd}{os:OS}{a0 a1 a2 a3 a4 a5:Nat}{t:NN}{X:Str}{Xt e n:Nat}{d:SD}{l:List SV}{L:LN}{R:List bT}{gl:LG}{s0:Ś}
theorem eJ(G:bR w d l)(a:Addr)(L:LN){i:Nat}(hi:i<d.es.size):∃x∈l,(vn w.params a d L)[i]? =some (c6 x):=by
 have h1:i<(vn w.params a d L).length:=by rw[w3];exact hi
 have h2:=(rb w.params a d L).mem_iff.mp (List.getElem_mem h1)
 obtain⟨q,hq,e⟩:=List.mem_map.mp h2
 obtain⟨x,hx,e'⟩:=G.sub q hq
 refine⟨x,hx,?_⟩
 rw[List.getElem?_eq_getElem h1,←e,e']
theorem gI:∀{l:LV}{i:Nat}{v:Vl},l[i]? =some v→gV l i=v
 |x::l,0,v,h=>by
  simp at h
  exact h
 |x::l,i+1,v,h=>gI (l:=l) (by simpa using h)
variable(nd:[a0,a1,a2,a3,a4,a5].Nodup)(hk:∀a∈[a0,a1,a2,a3,a4,a5],∀o,(bD w.params).get a≠some o)(G:bR w d l)(hl:∀x∈l,x.1.length≤1000)(hR:bZ X R=none)(hR1:R.length≤1000)
include nd hk G hl
theorem wC{i:Nat}{m:Option (Nat×Vl)}{s:Ś}{Q:Re→Ś→Prop}{x:SV}(hx:(vn w.params a1 d L)[i]? =some (c6 x))(hm:x∈l)(hs:jq X (x.1++b8)=false)
 (hmv:∀k,m=some k→∃z u,k.2= .str z u)(N:NS w os gl [a0,a1,a2,a3,a4,a5] t X Xt d L R n s0 i m e s)
 (next:∀k s',NS w os gl [a0,a1,a2,a3,a4,a5] t X Xt d L R n s0 (i+1) (some (k,c6 x)) (match m with|none=>e+1|some _=>e) s'→codeAny (model TW w) (AG 600) (yg [a0,a1,a2,a3,a4,a5]) Q s'):
 codeAny (model TW w) (AG 600) (yg [a0,a1,a2,a3,a4,a5]) Q s:=by
 have hy:x.1.length+Str.length b8≤2^20:=by have:=hl x hm;have h1:Str.length b8=1:=rfl;omega
 cases m with
 |none=>
  refine VY (yt:=x.2) G hx hy hs s Q N.kh N.g rfl N.at_ nd hk N.gh fun s' as ts ha ht E=> ?_
  have:as=[]:=List.length_eq_zero_iff.mp ha
  subst this
  have K:=cS E (by simp[Vk,bW,Qe,Dc])
  refine next (gx ts 0) s' ⟨dP N.kh K hk E.gens E.gok,E.gens,fun p hp=>E.now p (List.mem_append_left _ hp),B1 N.gh E rfl,N.kp.trans K fun x hx=>hx⟩
 |some k=>
  obtain⟨z,u,hz⟩:=hmv k rfl
  obtain⟨k,zv⟩:=k
  refine aaQ (yt:=x.2) G hx hy hs z hz s Q N.kh N.g rfl N.at_ nd hk N.gh fun s' as ts ha ht E=> ?_
  have:as=[]:=List.length_eq_zero_iff.mp ha
  subst this
  have K:=cS E (by simp[Vk,bW,Qe,Dc])
  refine next k s' ⟨dP N.kh K hk E.gens E.gok,E.gens,fun p hp=>E.now p (List.mem_append_left _ hp),B1 N.gh E rfl,N.kp.trans K fun x hx=>hx⟩
theorem Iz(hf:∀x∈l,jq X (x.1++b8)=false)(Q:Re→Ś→Prop)(fin:∀k i s,i+1=d.es.size→NS w os gl [a0,a1,a2,a3,a4,a5] t X Xt d L R n s0 d.es.size (some (k,y8 w.params [a0,a1,a2,a3,a4,a5] d L i)) e s→codeAny (model TW w) (AG 600) (yg [a0,a1,a2,a3,a4,a5]) Q s):
 ∀(j i k:Nat)(s:Ś),i+1+j=d.es.size→NS w os gl [a0,a1,a2,a3,a4,a5] t X Xt d L R n s0 (i+1) (some (k,y8 w.params [a0,a1,a2,a3,a4,a5] d L i)) e s→codeAny (model TW w) (AG 600) (yg [a0,a1,a2,a3,a4,a5]) Q s:=by
 intro j
 induction j with
 |zero=>
  intro i k s hj N
  have hj':i+1=d.es.size:=hj
  rw[hj'] at N
  exact fin k i s hj' N
 |succ j ih=>
  intro i k s hj N
  obtain⟨x,hm,hx⟩:=eJ G a1 L (i:=i+1) (by omega)
  have hv:∃z u,y8 w.params [a0,a1,a2,a3,a4,a5] d L i= .str z u:=by
   obtain⟨y,hy,hx'⟩:=eJ G a1 L (i:=i) (by omega)
   exact⟨y.1,y.2,gI hx'⟩
  refine wC nd hk G hl hx hm (hf x hm) (fun q hq=>by cases hq;exact hv) N fun k' s' N'=>ih (i+1) k' s' (by omega) ?_
  have e':y8 w.params [a0,a1,a2,a3,a4,a5] d L (i+1)=c6 x:=gI hx
  rw[e']
  exact N'
theorem Oe(Q:Re→Ś→Prop)(p:Nat)(hp0:0<p)(hp:p<d.es.size)(hf:∀i<p,∀x,(vn w.params a1 d L)[i]? =some (c6 x)→jq X (x.1++b8)=false)
 (fin:∀k i s,i+1=p→NS w os gl [a0,a1,a2,a3,a4,a5] t X Xt d L R n s0 p (some (k,y8 w.params [a0,a1,a2,a3,a4,a5] d L i)) e s→codeAny (model TW w) (AG 600) (yg [a0,a1,a2,a3,a4,a5]) Q s):
 ∀(j i k:Nat)(s:Ś),i+1+j=p→NS w os gl [a0,a1,a2,a3,a4,a5] t X Xt d L R n s0 (i+1) (some (k,y8 w.params [a0,a1,a2,a3,a4,a5] d L i)) e s→codeAny (model TW w) (AG 600) (yg [a0,a1,a2,a3,a4,a5]) Q s:=by
 intro j
 induction j with
 |zero=>
  intro i k s hj N
  have hj':i+1=p:=hj
  rw[hj'] at N
  exact fin k i s hj' N
 |succ j ih=>
  intro i k s hj N
  obtain⟨x,hm,hx⟩:=eJ G a1 L (i:=i+1) (by omega)
  have hv:∃z u,y8 w.params [a0,a1,a2,a3,a4,a5] d L i= .str z u:=by
   obtain⟨y,hy,hx'⟩:=eJ G a1 L (i:=i) (by omega)
   exact⟨y.1,y.2,gI hx'⟩
  refine wC nd hk G hl hx hm (hf (i+1) (by omega) x hx) (fun q hq=>by cases hq;exact hv) N fun k' s' N'=>ih (i+1) k' s' (by omega) ?_
  have e':y8 w.params [a0,a1,a2,a3,a4,a5] d L (i+1)=c6 x:=gI hx
  rw[e']
  exact N'
end
noncomputable def UO(P:Pm)(ad:LN)(t:NN)(X:Str)(Xt e:Nat)(d:SD)(L:LN)(R:List bT)(n:Nat)(gl:LG):Spec:=
 bW (Dc P ad t (fJ (kZ P L) (.ref (gx ad 1)) 0 d.es.size d.ep) d (Cl P ad t X Xt none e) (fg P R n)) [(0,fun _=>fJ (.int 0 0) .none d.es.size d.es.size d.ep),(2,fun l=>Cl P ad t X Xt (some (gx l 0,y8 P ad d L (gx l 1))) (e+1))] [] 2 (fun _=> .ok .next) gl
noncomputable def C6(P:Pm)(ad:LN)(t:NN)(X:Str)(Xt e:Nat)(d:SD)(L:LN)(R:List bT)(n:Nat)(gl:LG):Spec:=
 bW (Dc P ad t (fJ (kZ P L) (.ref (gx ad 1)) 0 d.es.size d.ep) d (Cl P ad t X Xt none e) (fg P R n)) [(0,fun l=>fJ (kZ P L) (.ref (gx ad 1)) (gx l 3+1) d.es.size d.ep),(2,fun l=>Cl P ad t X Xt (some (gx l 0,y8 P ad d L (gx l 3))) (e+1)),(5,fun l=>fg P (R++ [(X,Xt,.int 1 (gx l 1))]) (n+1))] [] 4 (fun l=> .ok (.ret (.int 1 (gx l 2)))) gl
section
variable{w:Wd}{os:OS}{a0 a1 a2 a3 a4 a5:Nat}{t:NN}{X:Str}{Xt e n:Nat}{d:SD}{l:List SV}{L:LN}{R:List bT}{gl:LG}
theorem H9(G:bR w d l)(hl:∀x∈l,x.1.length≤1000)(h2:0<d.es.size)(hf:∀x∈l,jq X (x.1++b8)=false):
 SumG (model TW w) (bD w.params) os 600 (yg [a0,a1,a2,a3,a4,a5]) [a0,a1,a2,a3,a4,a5] (UO w.params [a0,a1,a2,a3,a4,a5] t X Xt e d L R n gl) (pd w.params d.es.size L):=by
 intro s K g hL hA nd hk hG
 have N0:NS w os gl [a0,a1,a2,a3,a4,a5] t X Xt d L R n s 0 none e s:=⟨K,g,hA,hG,Keeps.refl _ _⟩
 obtain⟨x,hm,hx⟩:=eJ G a1 L (i:=0) h2
 refine wC nd hk G hl hx hm (hf x hm) (fun q hq=>by cases hq) N0 fun k s1 N1=> ?_
 have e0:y8 w.params [a0,a1,a2,a3,a4,a5] d L 0=c6 x:=gI hx
 rw[←e0] at N1
 refine Iz nd hk G hl hf _ (fun k i s2 hi N2=> ?_) (d.es.size -1) 0 k s1 (by omega) N1
 have hv:∃z u,y8 w.params [a0,a1,a2,a3,a4,a5] d L i= .str z u:=by
  obtain⟨y,hy,hx'⟩:=eJ G a1 L (i:=i) (by omega)
  exact⟨y.1,y.2,gI hx'⟩
 obtain⟨z,u,hv⟩:=hv
 intro Γ p hΓ hb
 obtain⟨r,s',hr,as,ts,ha,ht,hrr,E⟩:=Uz (os:=os) (e:=e+1) (k:=(k,y8 w.params [a0,a1,a2,a3,a4,a5] d L i)) G s2 N2.kh N2.g rfl N2.at_ nd hk N2.gh Γ p hΓ hb
 have:as=[]:=List.length_eq_zero_iff.mp ha
 subst this
 have K2:=cS E (by simp[nmE,bW,Qe,Dc])
 have KK:=N2.kp.trans K2 fun x hx=>hx
 refine⟨r,s',hr,[],[k,i],rfl,rfl,hrr,⟨fun b o h hb=>KK.keep b o h (show b∉[a0,a1,a2,a3,a4,a5] from hb),fun q hq=> ?_,fun q hq=>by simp at hq,by simp,KK.size,E.gens,E.gok,KK.os,KK.tk K.tk⟩⟩
 exact E.now q hq
theorem HX(G:bR w d l)(hl:∀x∈l,x.1.length≤1000)(hf:∃x∈l,jq X (x.1++b8)=true)(hR:bZ X R=none)(hR1:R.length≤1000):
 SumG (model TW w) (bD w.params) os 600 (yg [a0,a1,a2,a3,a4,a5]) [a0,a1,a2,a3,a4,a5] (C6 w.params [a0,a1,a2,a3,a4,a5] t X Xt e d L R n gl) (pd w.params d.es.size L):=by
 intro s K g hL hA nd hk hG
 have N0:NS w os gl [a0,a1,a2,a3,a4,a5] t X Xt d L R n s 0 none e s:=⟨K,g,hA,hG,Keeps.refl _ _⟩
 have hex:∃i,i<d.es.size∧∃x,(vn w.params a1 d L)[i]? =some (c6 x)∧x∈l∧jq X (x.1++b8)=true:=by
  obtain⟨x,hx,hsx⟩:=hf
  obtain⟨q,hq,hqe⟩:=G.sup x hx
  obtain⟨y,hy,hye⟩:=G.sub q hq
  have hyx:y.1=x.1:=by
   rw[hye] at hqe
   exact(Value.isStrOf_inj (c6 y) x.1 y.1 hqe (cn y)).symm
  have hmem:c6 y∈vn w.params a1 d L:=(rb w.params a1 d L).mem_iff.mpr (List.mem_map.mpr ⟨q,hq,hye⟩)
  obtain⟨i,hi,hie⟩:=List.mem_iff_getElem.mp hmem
  rw[w3] at hi
  exact⟨i,hi,y,by rw[List.getElem?_eq_getElem (by rw[w3];exact hi),hie],hy,by rw[hyx];exact hsx⟩
 obtain⟨p,⟨hp,x,hx,hm,hsx⟩,hmin⟩:∃p,(p<d.es.size∧∃x,(vn w.params a1 d L)[p]? =some (c6 x)∧x∈l∧jq X (x.1++b8)=true)∧∀i<p,¬(i<d.es.size∧∃x,(vn w.params a1 d L)[i]? =some (c6 x)∧x∈l∧jq X (x.1++b8)=true):=by
  obtain⟨i,hi⟩:=hex
  induction i using Nat.strongRecOn with
  |_ i ih=>
   by_cases h:∃j<i,(j<d.es.size∧∃x,(vn w.params a1 d L)[j]? =some (c6 x)∧x∈l∧jq X (x.1++b8)=true)
   ·obtain⟨j,hj,hjj⟩:=h
    exact ih j hj hjj
   ·exact⟨i,hi,fun j hj hjj=>h ⟨j,hj,hjj⟩⟩
 have hno:∀i<p,∀x,(vn w.params a1 d L)[i]? =some (c6 x)→jq X (x.1++b8)=false:=by
  intro i hi y hy
  cases hq:jq X (y.1++b8) with
  |false=>rfl
  |true=>
   refine absurd ⟨by omega,y,hy,?_,hq⟩ (hmin i hi)
   obtain⟨z,hz,hze⟩:=eJ G a1 L (i:=i) (by omega)
   rw[hy] at hze
   have:y=z:=by
    obtain⟨y1,y2⟩:=y
    obtain⟨z1,z2⟩:=z
    simp only[c6,Option.some.injEq,Value.str.injEq] at hze
    rw[hze.1,hze.2]
   rw[this];exact hz
 have hlen:x.1.length+Str.length b8≤2^20:=by have:=hl x hm;have h1:Str.length b8=1:=rfl;omega
 have eV:y8 w.params [a0,a1,a2,a3,a4,a5] d L p=c6 x:=gI hx
 by_cases hp0:p=0
 ·subst hp0
  intro Γ q hΓ hb
  obtain⟨r,s',hr,as,ts,ha,ht,hrr,E⟩:=Xz (os:=os) (e:=e) (yt:=x.2) G hx hlen hsx hR hR1 s K g rfl hA nd hk hG Γ q hΓ hb
  have:as=[]:=List.length_eq_zero_iff.mp ha
  subst this
  obtain⟨u0,u1,u2,rfl⟩:∃a b c,ts=[a,b,c]:=by
   match ts,ht with
   |[a,b,c],_=>exact⟨a,b,c,rfl⟩
  refine⟨r,s',hr,[],[u0,u1,u2,0],rfl,rfl,hrr,⟨fun b o h hb=>E.keep b o h (show b∉[a0,a1,a2,a3,a4,a5] from hb),fun q hq=> ?_,fun q hq=>by simp at hq,by simp,E.size,E.gens,E.gok,E.os,E.tk⟩⟩
  have hq':q∈[a0,a1,a2,a3,a4,a5].zip ((C6 w.params [a0,a1,a2,a3,a4,a5] t X Xt e d L R n gl).post.map (· ([]++ [u0,u1,u2,0]))):=by simpa using hq
  refine E.now q (List.mem_append_left _ ?_)
  have e1:(C6 w.params [a0,a1,a2,a3,a4,a5] t X Xt e d L R n gl).post.map (· ([]++ [u0,u1,u2,0]))=(TR w.params [a0,a1,a2,a3,a4,a5] t X Xt none e d L R n 0 (c6 x) gl).post.map (· ([]++ [u0,u1,u2])):=by
   rw[←eV];rfl
  rw[e1] at hq'
  exact hq'
 ·obtain⟨x0,hm0,hx0⟩:=eJ G a1 L (i:=0) (by omega)
  refine wC nd hk G hl hx0 hm0 (hno 0 (by omega) x0 hx0) (fun q hq=>by cases hq) N0 fun k s1 N1=> ?_
  have e0:y8 w.params [a0,a1,a2,a3,a4,a5] d L 0=c6 x0:=gI hx0
  rw[←e0] at N1
  refine Oe nd hk G hl _ p (by omega) hp hno (fun k i s2 hi N2=> ?_) (p -1) 0 k s1 (by omega) N1
  have hv:∃z u,y8 w.params [a0,a1,a2,a3,a4,a5] d L i= .str z u:=by
   obtain⟨y,hy,hx'⟩:=eJ G a1 L (i:=i) (by omega)
   exact⟨y.1,y.2,gI hx'⟩
  obtain⟨z,u,hv⟩:=hv
  intro Γ q hΓ hb
  obtain⟨r,s',hr,as,ts,ha,ht,hrr,E⟩:=ZF (os:=os) (e:=e+1) (k:=k) (yt:=x.2) G hx hlen hsx hR hR1 z hv s2 N2.kh N2.g rfl N2.at_ nd hk N2.gh Γ q hΓ hb
  have:as=[]:=List.length_eq_zero_iff.mp ha
  subst this
  obtain⟨u0,u1,rfl⟩:∃a b,ts=[a,b]:=by
   match ts,ht with
   |[a,b],_=>exact⟨a,b,rfl⟩
  have K2:=cS E (by simp[TR,bW,Qe,Dc])
  have KK:=N2.kp.trans K2 fun x hx=>hx
  refine⟨r,s',hr,[],[k,u0,u1,p],rfl,rfl,hrr,⟨fun b o h hb=>KK.keep b o h (show b∉[a0,a1,a2,a3,a4,a5] from hb),fun q hq=> ?_,fun q hq=>by simp at hq,by simp,KK.size,E.gens,E.gok,KK.os,KK.tk K.tk⟩⟩
  have hq':q∈[a0,a1,a2,a3,a4,a5].zip ((C6 w.params [a0,a1,a2,a3,a4,a5] t X Xt e d L R n gl).post.map (· ([]++ [k,u0,u1,p]))):=by simpa using hq
  refine E.now q (List.mem_append_left _ ?_)
  have e1:(C6 w.params [a0,a1,a2,a3,a4,a5] t X Xt e d L R n gl).post.map (· ([]++ [k,u0,u1,p]))=(TR w.params [a0,a1,a2,a3,a4,a5] t X Xt (some (k,y8 w.params [a0,a1,a2,a3,a4,a5] d L i)) (e+1) d L R n p (c6 x) gl).post.map (· ([]++ [u0,u1])):=by
   rw[←eV];rfl
  rw[e1] at hq'
  exact hq'
end
noncomputable def RA(obs:LL):LN:=[aZ obs 2 0,aZ obs 2 1,aJ obs 2 1,aZ obs 2 2,aZ obs 4 0,aZ obs 4 1,aJ obs 4 1,aZ obs 4 2,bO (gO obs 4)]
noncomputable def GT(P:Pm)(X:Str)(Xt:Nat)(d:SD)(R:List bT)(n:Nat)(slots xl:LN):Hk:=
 ⟨slots,fun ad _ _=>yg ad,fun gl ad obs _=>match xl with
  |[]=>jw ad
  |k::L=>match k with
   |0=>jw ad
   |_+1=>C6 P ad (gx (RA obs)) X Xt (bO (gO obs 2)) d L R n gl,fun _ _ _ l=> [gx l 1]⟩
noncomputable def DS(P:Pm)(X:Str)(Xt:Nat)(d:SD)(R:List bT)(n:Nat)(slots xl:LN):Hk:=
 ⟨slots,fun ad _ _=>yg ad,fun gl ad obs _=>match xl with
  |[]=>jw ad
  |k::L=>match k with
   |0=>jw ad
   |_+1=>UO P ad (gx (RA obs)) X Xt (bO (gO obs 2)) d L R n gl,aC⟩
section
variable{w:Wd}{os:OS}{hdp:Nat}{slots:LN}{X:Str}{Xt n:Nat}{d:SD}{l:List SV}{R:List bT}
theorem EM(hd:hdp≤600)(G:bR w d l)(hl:∀x∈l,x.1.length≤1000)(hf:∃x∈l,jq X (x.1++b8)=true)(hR:bZ X R=none)(hR1:R.length≤1000)(hn:slots.Nodup):
 HkU.Ok (bs w.params w.params) (Qk w.params d.es.size) w os hdp (Lc (GT w.params X Xt d R n slots)):=by
 refine An (fun _=>rfl) (fun _=>hn) fun xl gl ad obs c=> ?_
 match xl with
 |[]=>exact SumG.of_sum dV
 |0::L=>exact SumG.of_sum dV
 |(_+1)::L=>
  intro s K g hL hA nd hk hG Γ p hΓ hb
  obtain⟨y9,hf9⟩:=J_ hL
  have hf9:ad=[y9 0,y9 1,y9 2,y9 3,y9 4,y9 5]:=hf9
  subst hf9
  exact HX G hl hf hR hR1 s K g hL hA nd hk hG Γ p hΓ (eZ hd hb)
theorem Em(hd:hdp≤600)(G:bR w d l)(hl:∀x∈l,x.1.length≤1000)(h2:0<d.es.size)(hf:∀x∈l,jq X (x.1++b8)=false)(hn:slots.Nodup):
 HkU.Ok (bs w.params w.params) (Qk w.params d.es.size) w os hdp (Lc (DS w.params X Xt d R n slots)):=by
 refine An (fun _=>rfl) (fun _=>hn) fun xl gl ad obs c=> ?_
 match xl with
 |[]=>exact SumG.of_sum dV
 |0::L=>exact SumG.of_sum dV
 |(_+1)::L=>
  intro s K g hL hA nd hk hG Γ p hΓ hb
  obtain⟨y9,hf9⟩:=J_ hL
  have hf9:ad=[y9 0,y9 1,y9 2,y9 3,y9 4,y9 5]:=hf9
  subst hf9
  exact H9 G hl h2 hf s K g hL hA nd hk hG Γ p hΓ (eZ hd hb)
noncomputable def w8(d:SD)(k:Str)(res:Bool)(slots:LN):Hk:=
 ⟨slots,fun ad _ c=> .call (.builtin "set.__contains__") ⟨[.ref (gx ad 0),.str k (bz (b_ c 1))],[]⟩,fun gl _ _ _=>aL [fi d] gl 0 fun _=> .ok (.ret (.bool res)),aC⟩
theorem ze{k:Str}{res:Bool}(G:bR w d l)(hz:l.length<1000)(h:(l.any fun x=>x.1==k)=res)(hn:slots.Nodup:=by decide):(w8 d k res slots).Ok (bs w.params w.params) w os hdp:=
 qs hn (fun _ _ _ _=>rfl) fun gl a _ _=>C4 G hz h
theorem Dz{k:Str}{t:Nat}(h:bZ k R=none)(hz:R.length≤1000)(hn:slots.Nodup:=by decide):HkU.Ok (bs w.params w.params) (Qk w.params d.es.size) w os hdp (Lc fun _=>ud w.params R n k t slots):=
 An (fun _=>rfl) (fun _=>hn) fun xl gl ad obs c=>SumG.of_sum ((wN h hz hn).2 gl ad obs c)
end
end
section
variable(w:Wd)(os:OS)
noncomputable def SI(X:Str)(d:SD)(R:List bT)(n Xt:Nat):PC:=fun ad t=>(.call (.ref 141) ⟨[.ref (gx ad 0),.str b7 (t 0),.str X Xt],[]⟩)
noncomputable def RB(X:Str)(d:SD)(R:List bT)(n Xt:Nat):PO:=fun P ad t=>[(O (.ref 144) (some (gx ad 1)) .plain ⟨[]⟩),(O (.type "dict") none (.dict ⟨[D P wt (t 1) (.ref (gx ad 2)),D P wi (t 2) (.ref (t 3)),D P ik (t 4) (.ref (gx ad 3))]⟩ (t 5)) ⟨[]⟩),(fi d),(fg P R n)]
noncomputable def T6(X:Str)(d:SD)(R:List bT)(n Xt:Nat):PS:=fun P gl ad t=>bW (RB X d R n Xt P ad t) [(3,fun l=>(fg P (R++ [(X,Xt,(.int 1 (gx l 0)))]) (n+1)))] [] 2 (fun l=> .ok (.ret (.int 1 (gx l 1)))) gl
noncomputable def QN(r:Re)(T:BT)(xl:LN):LN:=[(zV xl 1),bz (dC r)]
theorem naH(X:Str)(d:SD)(R:List bT)(n Xt:Nat){l:List SV}(G:bR w d l)(hz:l.length<1000)(hl:∀x∈l,x.1.length≤1000)(hc:(l.any fun x=>x.1==X)=false)(hR:bZ X R=none)(hR0:(bZ X R).isSome=false)(hR1:R.length≤1000)(hd0:0<d.es.size)(hd2:2≤d.es.size)(hdp':d.t.plain=false)(hd3:d.es.size≤1000)(hf:∃x∈l,jq X (x.1++b8)=true)(a0 a1 a2 a3:Nat)(gl:LG)(t:NN):SA w os 540 (SI X d R n Xt) (T6 X d R n Xt w.params gl) [a0,a1,a2,a3] t:=
 oe (av w) (gh:=Qk w.params d.es.size) rfl (hdp:=580) (U:={hs:=[(aB (w6 w.params R n X Xt false [3])),(aB (w8 d X false [2])),(z_ w.params d 2),(Lc (GT w.params X Xt d R n [5,2,4,0,1,3]))],ks:=[],sam:=[],fa:=[],fb:=[],f3:=[]}) ⟨(ac (ae (xj hR0)) (ac (ae (ze G hz hc)) (ac (zo G hd2 hdp' hd3) (ac (EM (by decide) G hl hf hR hR1 (by decide)) ak)))),ak,al,(fun _ h=>nomatch h),(fun _ h=>nomatch h),(fun _ h=>nomatch h)⟩ [] QN 104 (J [ō2,[5,5,0,5,5,0,5,5,1,0,5,5],ō9,[4,4,1,5,5],ō9,[3,3,2],eD,[3,3,1,3,6,4]])
noncomputable def Dr(X:Str)(d:SD)(R:List bT)(n Xt:Nat):PC:=fun ad t=>(.call (.ref 141) ⟨[.ref (gx ad 0),.str b7 (t 0),.str X Xt],[]⟩)
noncomputable def JE(X:Str)(d:SD)(R:List bT)(n Xt:Nat):PO:=fun P ad t=>[(O (.ref 144) (some (gx ad 1)) .plain ⟨[]⟩),(O (.type "dict") none (.dict ⟨[D P wt (t 1) (.ref (gx ad 2)),D P wi (t 2) (.ref (gx ad 4)),D P ik (t 3) (.ref (gx ad 3))]⟩ (t 4)) ⟨[]⟩),(fi d),(fg P R n),(O (.type "list") none (.seq ⟨[]⟩ (t 5)) ⟨[]⟩)]
noncomputable def Uf(X:Str)(d:SD)(R:List bT)(n Xt:Nat):PS:=fun P gl ad t=>bW (JE X d R n Xt P ad t) [(3,fun l=>(fg P (R++ [(X,Xt,(.int 0 (gx l 0)))]) (n+1)))] [] 2 (fun l=> .ok (.ret (.int 0 (gx l 1)))) gl
noncomputable def JL(obs:LL)(c:Code):LN:=[bz (b_ c 1),aZ obs 1 0,aZ obs 1 1,aZ obs 1 2,bO (gO obs 1),bO (gO obs 4)]
noncomputable def TL(r:Re)(T:BT)(xl:LN):LN:=[(zV xl 1),bz (dC r)]
theorem naM(X:Str)(d:SD)(R:List bT)(n Xt:Nat){l:List SV}(G:bR w d l)(hz:l.length<1000)(hl:∀x∈l,x.1.length≤1000)(hc:(l.any fun x=>x.1==X)=false)(hR:bZ X R=none)(hR0:(bZ X R).isSome=false)(hR1:R.length≤1000)(hd0:0<d.es.size)(hd2:2≤d.es.size)(hdp':d.t.plain=false)(hd3:d.es.size≤1000)(hf:∀x∈l,jq X (x.1++b8)=false)(a0 a1 a2 a3 a4:Nat)(gl:LG)(t:NN):SA w os 540 (Dr X d R n Xt) (Uf X d R n Xt w.params gl) [a0,a1,a2,a3,a4] t:=
 oe (av w) (gh:=Qk w.params d.es.size) rfl (hdp:=580) (U:={hs:=[(aB (w6 w.params R n X Xt false [3])),(aB (w8 d X false [2])),(z_ w.params d 2),(Lc (DS w.params X Xt d R n [6,2,5,0,1,3])),(Lc (fun xl=>ud w.params R n X Xt [3]))],ks:=[],sam:=[],fa:=[],fb:=[],f3:=[]}) ⟨(ac (ae (xj hR0)) (ac (ae (ze G hz hc)) (ac (zo G hd2 hdp' hd3) (ac (Em (by decide) G hl hd0 hf (by decide)) (ac (Dz hR hR1) ak))))),ak,al,(fun _ h=>nomatch h),(fun _ h=>nomatch h),(fun _ h=>nomatch h)⟩ [] TL 186 (J [ō2,[6,6,0,6,6,0],C0,[6,6],ō9,[4,4,1,6,6],ō9,[3,3,2,6],ō9,[3,3,1,3,7,4,6,6],ō9,[5,5,1,0,5,0,8],Ag,[5,8,8,10,0,6],ō9,[6,4,4,5]])
end
section
open PySem.SeqAt PySem.MeetsSeq PySem.Calls PyProof.Rows
noncomputable def JQ(b:Bool)(X:Str)(d:SD)(R:List bT)(n Xt:Nat):PS:=fun P gl ad t=>bW (JE X d R n Xt P ad t) [(3,fun l=>(fg P (R++ [(X,Xt,(.int (hH b) (gx l 0)))]) (n+1)))] [] 2 (fun l=> .ok (.ret (.int (hH b) (gx l 1)))) gl
structure zY(w:Wd)(b:Bool)(X:Str)(d:SD)(l:List SV)(R:List bT):Prop where
 G:bR w d l
 hz:l.length<1000
 hl:∀x∈l,x.1.length≤1000
 hc:(l.any fun x=>x.1==X)=false
 hR:bZ X R=none
 hR1:R.length≤1000
 hd2:2≤d.es.size
 hp:d.t.plain=false
 hf:(l.any fun x=>jq X (x.1++b8))=b
section
variable{w:Wd}{os:OS}
theorem naB{b:Bool}{X:Str}{d:SD}{R:List bT}{n Xt:Nat}{l:List SV}(K:zY w b X d l R)(a0 a1 a2 a3 a4:Nat)(gl:LG)(t:NN):
 SA w os 540 (Dr X d R n Xt) (JQ b X d R n Xt w.params gl) [a0,a1,a2,a3,a4] t:=by
 have hd3:d.es.size≤1000:=by have:=K.G.sz;have:=K.hz;omega
 have hd0:0<d.es.size:=by have:=K.hd2;omega
 have hR0:(bZ X R).isSome=false:=by rw[K.hR];rfl
 have hf:=K.hf
 cases b with
 |false=>
  have hf':∀x∈l,jq X (x.1++b8)=false:=fun x hx=>by
   have:=List.any_eq_false.mp hf x hx
   simpa using this
  exact naM w os X d R n Xt K.G K.hz K.hl K.hc K.hR hR0 K.hR1 hd0 K.hd2 K.hp hd3 hf' a0 a1 a2 a3 a4 gl t
 |true=>
  have hf':∃x∈l,jq X (x.1++b8)=true:=List.any_eq_true.mp hf
  exact CH (bs:=[a4]) (obs:=[(O (.type "list") none (.seq ⟨[]⟩ (t 5)) ⟨[]⟩)]) rfl (naH w os X d R n Xt K.G K.hz K.hl K.hc K.hR hR0 K.hR1 hd0 K.hd2 K.hp hd3 hf' a0 a1 a2 a3 gl (gx [t 0,t 1,t 2,a4,t 3,t 4])) rfl
noncomputable def Dk(b:Bool)(X:Str)(d:SD)(R:List bT)(n:Nat)(P:Pm)(slots:LN):Hk:=
 ⟨slots,fun ad obs c=>Dr X d R n (bz (b_ c 2)) ad (gx (JL obs c)),fun gl ad obs c=>JQ b X d R n (bz (b_ c 2)) P gl ad (gx (JL obs c)),fun _ _ c l=> [bz (b_ c 2),gx l 0,gx l 1]⟩
theorem Eb{b:Bool}{X:Str}{d:SD}{R:List bT}{n:Nat}{l:List SV}(K:zY w b X d l R){slots:LN}(hn:slots.Nodup:=by decide){hdp:Nat}(hdpL:hdp≤540:=by decide):(Dk b X d R n w.params slots).Ok (bs w.params w.params) w os hdp:=
 ⟨hn,fun gl ad obs c=>aE hdpL (by
  intro s K' g hL
  have hL':ad.length=5:=hL
  obtain⟨y9,hf9⟩:=J_ hL'
  have hf9:ad=[y9 0,y9 1,y9 2,y9 3,y9 4]:=hf9
  subst hf9
  exact naB K (y9 0) (y9 1) (y9 2) (y9 3) (y9 4) gl _ s K' g hL)⟩
theorem zG:plainId "str.__iter__"=true:=by decide+kernel
theorem xv{x:Str}{u:Tok}{kt:KT}{dep:Nat}{gl:LG}(h:x.cps.all (· <128)=true):
 cb (model TW w) kt os dep (.builtin "str.__iter__" ⟨[.str x u],[]⟩) [] {pre:=[],post:=[],news:=[fun _=>⟨.type "str_ascii_iterator",none,.fields ⟨[.str x u,.int 0 0]⟩,#[]⟩],nt:=0,rv:=fun l=> .ok (.ret (.ref (gx l 0))),gl,gl':=gl}:=by
 refine eQ zG PySem.F.entry_str_iter fun s K g l' q _ hk=> ?_
 unfold Builtin.«str.__iter__»
 show wpAny _ _ (newFields (if(true&&x.cps.all (· <128))=true then "str_ascii_iterator" else "str_iterator") [.str x u,rawInt 0]>>=_) _ _ s
 rw[h,if_pos (show(true&&true)=true from rfl)]
 unfold newFields
 refine wpAny_bind (wpAny_newObj_type (wpAny_pure ?_) (by show(2:Nat)≤_;rw[sizeLine_eq];decide))
 refine⟨[s.heap.objs.size],[],rfl,rfl,rfl,fun c o h _=>Heap.get?_push_of_some _ h,fun p hp=> ?_,fun p hp=> ?_,by simp,by show _≤(Heap.push _ _).objs.size;rw[Heap.size_push];exact Nat.le_succ _,g,by have:=K.gok;rw[g] at this;exact this,rfl,K.tk⟩
 ·have hp:p=(s.heap.objs.size,⟨.type "str_ascii_iterator",none,.fields ⟨[.str x u,.int 0 0]⟩,#[]⟩):=by simpa using hp
  subst hp
  exact Heap.get?_push_size _ rfl
 ·have hp:p=(s.heap.objs.size,⟨.type "str_ascii_iterator",none,.fields ⟨[.str x u,.int 0 0]⟩,#[]⟩):=by simpa using hp
  subst hp
  exact Nat.le_refl _
noncomputable def de(x:Str)(slots:LN):Hk:=
 ⟨slots,fun _ _ c=> .builtin "str.__iter__" ⟨[.str x (bz (b_ c 0))],[]⟩,fun gl _ _ c=>{pre:=[],post:=[],news:=[fun _=>⟨.type "str_ascii_iterator",none,.fields ⟨[.str x (bz (b_ c 0)),.int 0 0]⟩,#[]⟩],nt:=0,rv:=fun l=> .ok (.ret (.ref (gx l 0))),gl,gl':=gl},aC⟩
theorem cZ{x:Str}{hdp:Nat}(h:x.cps.all (· <128)=true){slots:LN}(hn:slots.Nodup:=by decide):(de x slots).Ok (bs w.params w.params) w os hdp:=
 ⟨hn,fun gl ad obs c=>by
  intro s K g hl
  obtain rfl:ad=[]:=List.length_eq_zero_iff.mp hl
  exact xv h s K g hl⟩
noncomputable def aR(xs:LV)(n:Nat)(f:Nat→Vl)(slots:LN):Hk:=
 ⟨slots,fun ad _ c=> .builtin "list.append" ⟨[.ref (gx ad 0),f (bz (b_ c 1))],[]⟩,fun gl _ _ c=>{pre:=[bu xs n],post:=[fun _=>bu (xs++ [f (bz (b_ c 1))]) (n+1)],news:=[],nt:=0,rv:=fun _=> .ok (.ret .none),gl,gl':=gl},fun _ _ c _=> [bz (b_ c 1)]⟩
theorem cK{xs:LV}{n:Nat}{f:Nat→Vl}{hdp:Nat}{slots:LN}(hz:xs.length≤1000)(hn:slots.Nodup:=by decide):(aR xs n f slots).Ok (bs w.params w.params) w os hdp:=qs hn (fun _ _ _ _=>rfl) fun gl a _ _=>yC hz
end
theorem Cw(a b:Nat):KG rS (.type "str_ascii_iterator") a b=Ua rS (.type "str_ascii_iterator") a b:=by kernel_rfl
theorem ev:∀a b,a≠b→(CS rS (.type "str_ascii_iterator")).l a b=(CS rS (.type "str_ascii_iterator")).r a b:=fun a b h=>(Cw a b).trans (Fg h (by kernel_rfl) (by kernel_rfl))
end
noncomputable def sgL:LN:=[33,42,45,63,91,93,97,98]
noncomputable def KA(r i:Nat):Nat:=gx sgL (r+i)
noncomputable def Qh(r:Nat)(l:LN):Str:=⟨⟨l.map (KA r)⟩⟩
noncomputable def Q5:List LN:=[[0,1,2,3],[0,1,3,2],[0,2,1,3],[0,2,3,1],[0,3,1,2],[0,3,2,1],[1,0,2,3],[1,0,3,2],[1,2,0,3],[1,2,3,0],[1,3,0,2],[1,3,2,0],[2,0,1,3],[2,0,3,1],[2,1,0,3],[2,1,3,0],[2,3,0,1],[2,3,1,0],[3,0,1,2],[3,0,2,1],[3,1,0,2],[3,1,2,0],[3,2,0,1],[3,2,1,0]]
noncomputable def mkV(r:Nat)(l:LN):Nat→List LN→LV
 |_,[]=> []
 |k,p::ps=> .str (Qh r p) (gx l k)::mkV r l (k+1) ps
noncomputable def U7(r:Nat):PC:=fun ad t=> .call (.ref 862) ⟨[.str (Qh r [0,1,2,3]) (t 0)],[]⟩
noncomputable def It(r:Nat):PS:=fun P gl ad t=>bW [] [] [fun l=>bu (mkV r l 1 Q5) 24] 24 (fun l=> .ok (.ret (.ref (gx l 0)))) gl
noncomputable def rwK(_:Re)(T:BT)(_:LN):LN:=(List.range 24).map fun i=>bz (o5 (gT T 71) i)
noncomputable def rwO:LN:=(J [[0,0,2,2],rh,[2],ō1,[4,0,4,0],gA,[4,4],pQ,[3,3,1,0,3,0,5,0,2,5,5,5,5,5,5,5,5,0,5,0,5,0,5,5,3,5,5],ox,[2],ō1,[8,0,2],wg,wg,BF,BF,BF,BF,Ag,[8,8,10,0,5,0,5,0,5,5,3,5,5,12],ō4,oc,[7,7],Ep,C0,[6,0,13,0,2],iw,iw,[0],Bj,[16,0,2],oh,oh,[0,16,0,16,0],oh,[0],vi,ō2,Dn,Dn,Dn,[16,0,16,0],oh,[18,0],Bj,[19,0,2],io,io,io,io,[0],yl,ol,yl,[0],vi,ō2,yl,ol,yl,ol,yl,[21,0],Bj,Gl,oD,d8,ol,oD,d8,ol,oD,d8,[0],vi,ō2,oD,d8,ol,oD,d8,[24,0],Bj,[25,0,2],yp,yp,[0],EF,EF,EF,[25,0,25,0],yp,[0],vi,ō2,[25,0,25,0],yp,[27,0,13,0],rT,[6],iQ,[29],ō4,vi,[15,15],Ep,fo,[1,0,14,0,30,0,2],wa,wa,fj,[33,0,2],GF,GF,[0],xg,dz,xg,dz,xg,dA,xg,dA,xg,[35],fj,[36,0,2,36,36,36,36,36,36,36,36,0],xw,dz,xw,dA,xw,dz,xw,dA,xw,[38],fj,[39,0,2],g_,g_,g_,g_,[0],ya,dz,ya,dA,ya,dA,ya,dz,ya,[41],fj,[42,0,2],vX,vX,[0],yZ,dz,yZ,dz,yZ,dA,yZ,dA,yZ,[44],fj,[45,0,2],ow,ow,ow,ow,[0],yO,dA,yO,dz,yO,dz,yO,dA,yO,[47],fj,[48,0,2],hV,hV,hV,hV,[0],yK,dA,yK,dz,yK,dA,yK,dz,yK,[50],fj,[51,0,2,51,51,51,51,51,51,51,51,0],yG,dz,yG,dA,yG,dz,yG,dA,yG,[53],fj,[54,0,2],vP,vP,[0],tV,dA,tV,dz,tV,dz,tV,dA,tV,[56],fj,[57,0,2],zn,zn,[0],zm,dA,zm,dA,zm,dz,zm,dz,zm,[59],fj,[60,0,2],hE,hE,hE,hE,[0],yV,dz,yV,dA,yV,dA,yV,dz,yV,[62],fj,[63,0,2],Bb,Bb,[0],xB,dA,xB,dz,xB,dA,xB,dz,xB,[65],fj,[66,0,2],AP,AP,[0],yu,dA,yu,dA,yu,dz,yu,dz,yu,[68],wI,[0,30,30,14,30,30,70],ō4,lS,lS,lS,Ep,[31,31,1,0,31,0,71,0,2,71,71,71,71,71,71,71,71],dB,[74,0,2],Bk,Bk,[0],xu,bA,xu,bA,xu,bA,xu,dE,xu,[76],dB,[77,0,2,77,77,77,77,77,77,77,77,0],yN,bA,yN,bA,yN,dE,yN,bA,yN,[79],dB,[80,0,2],ri,ri,ri,ri,[0],xf,bA,xf,bA,xf,bA,xf,dE,xf,[82],dB,[83,0,2],Bo,Bo,[0],yd,bA,yd,dE,yd,bA,yd,bA,yd,[85],dB,[86,0,2],vG,vG,[0],qK,bA,qK,bA,qK,dE,qK,bA,qK,[88],dB,[89,0,2],B5,B5,[0],xL,bA,xL,dE,xL,bA,xL,bA,xL,[91],dB,[92,0,2,92,92,92,92,92,92,92,92,0],xT,bA,xT,bA,xT,bA,xT,dE,xT,[94],dB,[95,0,2],Cp,Cp,[0],xz,bA,xz,bA,xz,dE,xz,bA,xz,[97],dB,[98,0,2],AO,AO,[0],yy,bA,yy,bA,yy,bA,yy,dE,yy,[100],dB,[101,0,2],rg,rg,[0,101,0,101,0],rg,dE,Fh,Fh,Fh,[101,0,101,0],rg,[103],dB,[104,0,2],AU,AU,[0],xo,bA,xo,bA,xo,dE,xo,bA,xo,[106],dB,[107,0,2],Dq,Dq,[0],xy,dE,xy,bA,xy,bA,xy,bA,xy,[109],dB,[110,0,2],gW,gW,gW,gW,[0],qt,bA,qt,bA,qt,bA,qt,dE,qt,[112],dB,[113,0,2],A4,A4,[0],xD,bA,xD,dE,xD,bA,xD,bA,xD,[115],dB,[116,0,2],Df,Df,[0],yh,bA,yh,bA,yh,bA,yh,dE,yh,[118],dB,[119,0,2],Ch,Ch,[0],yc,dE,yc,bA,yc,bA,yc,bA,yc,[121],dB,[122,0,2],Fu,Fu,[0],yn,bA,yn,dE,yn,bA,yn,bA,yn,[124],dB,[125,0,2],FB,FB,[0],yE,dE,yE,bA,yE,bA,yE,bA,yE,[127],dB,[128,0,2],GG,GG,[0],zk,bA,zk,bA,zk,dE,zk,bA,zk,[130],dB,[131,0,2],DR,DR,[0],xn,bA,xn,dE,xn,bA,xn,bA,xn,[133],dB,[134,0,2],Gk,Gk,[0],yw,bA,yw,bA,yw,dE,yw,bA,yw,[136],dB,[137,0,2],Dl,Dl,[0],xx,dE,xx,bA,xx,bA,xx,bA,xx,[139],dB,[140,0,2],Gh,Gh,[0],x8,bA,x8,dE,x8,bA,x8,bA,x8,[142],dB,[143,0,2],Dv,Dv,[0],y4,dE,y4,bA,y4,bA,y4,bA,y4,[145,0,71,0,71,0,71,71,31,71,71,147],ō4,ō8,ō8,ō8,[0,4,0],gA,[4,4,149,0,1]])
noncomputable def Qf(w:Wd)(gl:LG)(r:Nat):Out:= .lst fun t=>Ue (bs w.params w.params) 480 510 {} (U7 r [] (gx t)) [] (It r w.params gl [] (gx t)) [71] rwK 8735 rwO
theorem X9(w:Wd)(gl:LG):Qd (Qf w gl 0):=⟨by refine bm ?_;kernel_rfl⟩
theorem Xr(w:Wd)(gl:LG):Qd (Qf w gl 1):=⟨by refine bm ?_;kernel_rfl⟩
theorem WR(w:Wd)(gl:LG):Qd (Qf w gl 2):=⟨by refine bm ?_;kernel_rfl⟩
theorem X4(w:Wd)(gl:LG):Qd (Qf w gl 3):=⟨by refine bm ?_;kernel_rfl⟩
theorem WF(w:Wd)(gl:LG):Qd (Qf w gl 4):=⟨by refine bm ?_;kernel_rfl⟩
theorem TG(os:OS){w:Wd}{gl:LG}{r:Nat}(h:Qd (Qf w gl r))(t:LN):cb (model TW w) (bD w.params) os 480 (U7 r [] (gx t)) [] (It r w.params gl [] (gx t)):=
 aq (dep:=480) (av w) (U:={}) ⟨ak,ak,al,ak,(fun _ h=>nomatch h),ak⟩ [71] rwK 8735 rwO rfl rfl (eC rfl) (h.ok t)
theorem aA(w:Wd)(os:OS)(gl:LG){r:Nat}(hr:r<5)(t:LN):cb (model TW w) (bD w.params) os 480 (U7 r [] (gx t)) [] (It r w.params gl [] (gx t)):=by
 match r,hr with
 |0,_=>exact TG os (X9 w gl) t
 |1,_=>exact TG os (Xr w gl) t
 |2,_=>exact TG os (WR w gl) t
 |3,_=>exact TG os (X4 w gl) t
 |4,_=>exact TG os (WF w gl) t
section
open PySem.SeqAt PySem.MeetsSeq PySem.Calls PyProof.Rows
noncomputable def Gt(t:LN):LV:=[.int 2 (gx t 0),.int 1 (gx t 1),.int 0 (gx t 2),.int 0 (gx t 3)]
noncomputable def px(xs:LV)(k:Nat):Int:=inZ (gV (xY 4 xs++Gt []) k)
noncomputable def U9(xs:LV)(t:LN)(k:Nat):Nat:=bz (gV (xY 4 xs++Gt t) k)
noncomputable def JB(xs:LV)(t:LN):LV:=[.int (px xs 0) (U9 xs t 0),.int (px xs 1) (U9 xs t 1),.int (px xs 2) (U9 xs t 2),.int (px xs 3) (U9 xs t 3)]
theorem Jt(xs:LV)(h:fh xs=true)(t:LN):xY 4 (xY 4 xs++Gt t)=JB xs t:=by
 cases xs with
 |nil=>rfl
 |cons x0 r0=>
 obtain⟨⟨v0,t0,e0⟩,h0⟩:=wX h
 subst e0;clear h
 cases r0 with
 |nil=>rfl
 |cons x1 r1=>
 obtain⟨⟨v1,t1,e1⟩,h1⟩:=wX h0
 subst e1;clear h0
 cases r1 with
 |nil=>rfl
 |cons x2 r2=>
 obtain⟨⟨v2,t2,e2⟩,h2⟩:=wX h1
 subst e2;clear h1
 cases r2 with
 |nil=>rfl
 |cons x3 r3=>
 obtain⟨⟨v3,t3,e3⟩,h3⟩:=wX h2
 subst e3
 rfl
noncomputable def DE(xs:Array Vl):Sem Fin:=Pf ((PySem.W.Fast.tw10209042966406643723 (if(1:Int)>0 then 0 else(xs.size:Int)-1) (max 0 (min (if(4:Int)<0 then 4+(xs.size:Int) else 4) (xs.size:Int))) 1).filterMap (xs[·]?)).toArray
theorem Ij(xs:LV)(h:xs.length≤2^20):DE ⟨xs⟩=AL (xY 4 xs):=by
 have e:DE ⟨xs⟩=Pf (slicePick ⟨xs⟩ none (some (Int.ofNat 4)) none):=by
  unfold DE slicePick
  rw[←PySem.W.Fast.te10209042966406643723]
  rfl
 rw[e,pu,Fa]
 show(xY 4 xs).length≤_
 have:=o6 4 xs
 omega
noncomputable def Bu(L R:BT→LV):Fac:=⟨fun T _ _=>DE ⟨L T⟩,fun T _ _=>AL (R T)⟩
theorem yA{L R:BT→LV}(h:∀T,(L T).length≤2^20∧xY 4 (L T)=R T):(Bu L R).l=(Bu L R).r:=by
 funext T _ _
 show DE ⟨L T⟩=AL (R T)
 rw[Ij _ (h T).1,(h T).2]
noncomputable def Wb(j:Nat)(T:BT):LN:=[bz (o5 (gT T j) 0),bz (o5 (gT T j) 1),bz (o5 (gT T j) 2),bz (o5 (gT T j) 3)]
noncomputable def ZZ(xs:LV):Fac:=Bu (fun _=>xs) (fun _=>xY 4 xs)
noncomputable def Yd(xs:LV)(j:Nat):Fac:=Ge (fun _=>xY 4 xs) (fun T=>Gt (Wb j T))
noncomputable def Wo(xs:LV)(j:Nat):Fac:=Bu (fun T=>xY 4 xs++Gt (Wb j T)) (fun T=>JB xs (Wb j T))
theorem OM{xs:LV}(h:xs.length≤2^20):(ZZ xs).l=(ZZ xs).r:=yA fun _=>⟨h,rfl⟩
theorem LP{xs:LV}{j:Nat}:(Yd xs j).l=(Yd xs j).r:=FA fun _=>by have:=o6 4 xs;show _+4≤_;omega
theorem Ps{xs:LV}{j:Nat}(hi:fh xs=true):(Wo xs j).l=(Wo xs j).r:=yA fun T=>⟨by have:=o6 4 xs;rw[List.length_append];show _+4≤_;omega,Jt xs hi _⟩
noncomputable def er(d:Nat)(f:NN)(j:Nat):Nat:=bif Nat.blt j d then f j else f (j+1)
noncomputable def UZ(f t:NN):Nat→LV
 |1=> [.str ⟨⟨[f 0]⟩⟩ (t 0)]
 |2=> [.str ⟨⟨[f 0]⟩⟩ (t 0),.str ⟨⟨[f 1]⟩⟩ (t 1)]
 |3=> [.str ⟨⟨[f 0]⟩⟩ (t 0),.str ⟨⟨[f 1]⟩⟩ (t 1),.str ⟨⟨[f 2]⟩⟩ (t 2)]
 |4=> [.str ⟨⟨[f 0]⟩⟩ (t 0),.str ⟨⟨[f 1]⟩⟩ (t 1),.str ⟨⟨[f 2]⟩⟩ (t 2),.str ⟨⟨[f 3]⟩⟩ (t 3)]
 |_=> []
section
variable{w:Wd}{os:OS}{hdp:Nat}{slots:LN}
noncomputable def Fz(f g t:NN)(o m n:Nat)(gl:LG):Spec:={pre:=[bu (UZ f t (m+1)) n],post:=[fun l=>bu (UZ g (fun j=>gx l (1+j)) m) (n+1)],news:=[],nt:=m+1,rv:=fun l=> .ok (.ret (.str ⟨⟨[o]⟩⟩ (gx l 0))),gl,gl':=gl}
noncomputable def vO(f t:NN)(m d n:Nat)(gl:LG):Spec:={pre:=[bu (UZ f t (m+1)) n],post:=[fun _=>bu (UZ (er d f) (er d t) m) (n+1)],news:=[],nt:=0,rv:=fun _=> .ok (.ret (.str ⟨⟨[f d]⟩⟩ (t d))),gl,gl':=gl}
noncomputable def yf(a:Addr)(i:Int)(k:Nat):Code:= .call (.builtin "list.pop") ⟨[.ref a,.int i k],[]⟩
theorem aaN(w:Wd)(os:OS)(f t:NN)(a n k:Nat)(gl:LG):∀d,d≤3→cb (model TW w) (bD w.params) os 480 (yf a (Int.ofNat d) k) [a] (vO f t 3 d n gl)
 |0,_=>aG (av w) (hdp:=500) (hs:=[]) (ks:=[]) ak ak [] (fun _ _ _=> []) 12 [1,0,1,1,1,1]
 |1,_=>aG (av w) (hdp:=500) (hs:=[]) (ks:=[]) ak ak [] (fun _ _ _=> []) 12 [1,0,1,1,1,1]
 |2,_=>aG (av w) (hdp:=500) (hs:=[]) (ks:=[]) ak ak [] (fun _ _ _=> []) 12 [1,0,1,1,1,1]
 |3,_=>aG (av w) (hdp:=500) (hs:=[]) (ks:=[]) ak ak [] (fun _ _ _=> []) 12 [1,0,1,1,1,1]
 |d+4,h=>absurd h (by omega)
theorem WY(w:Wd)(os:OS)(f t:NN)(a n k:Nat)(gl:LG):∀d,d≤2→cb (model TW w) (bD w.params) os 480 (yf a (Int.ofNat d) k) [a] (vO f t 2 d n gl)
 |0,_=>aG (av w) (hdp:=500) (hs:=[]) (ks:=[]) ak ak [] (fun _ _ _=> []) 12 [1,0,1,1,1,1]
 |1,_=>aG (av w) (hdp:=500) (hs:=[]) (ks:=[]) ak ak [] (fun _ _ _=> []) 12 [1,0,1,1,1,1]
 |2,_=>aG (av w) (hdp:=500) (hs:=[]) (ks:=[]) ak ak [] (fun _ _ _=> []) 12 [1,0,1,1,1,1]
 |d+3,h=>absurd h (by omega)
theorem XM(w:Wd)(os:OS)(f t:NN)(a n k:Nat)(gl:LG):∀d,d≤1→cb (model TW w) (bD w.params) os 480 (yf a (Int.ofNat d) k) [a] (vO f t 1 d n gl)
 |0,_=>aG (av w) (hdp:=500) (hs:=[]) (ks:=[]) ak ak [] (fun _ _ _=> []) 12 [1,0,1,1,1,1]
 |1,_=>aG (av w) (hdp:=500) (hs:=[]) (ks:=[]) ak ak [] (fun _ _ _=> []) 12 [1,0,1,1,1,1]
 |d+2,h=>absurd h (by omega)
theorem ZN(w:Wd)(os:OS)(f t:NN)(a n k:Nat)(gl:LG):∀d,d≤0→cb (model TW w) (bD w.params) os 480 (yf a (Int.ofNat d) k) [a] (vO f t 0 d n gl)
 |0,_=>aG (av w) (hdp:=500) (hs:=[]) (ks:=[]) ak ak [] (fun _ _ _=> []) 12 [1,0,1,1,1,1]
 |d+1,h=>absurd h (by omega)
theorem Yw(f t:NN)(a n k:Nat)(gl:LG):∀m,m≤3→∀d,d≤m→cb (model TW w) (bD w.params) os 480 (yf a (Int.ofNat d) k) [a] (vO f t m d n gl)
 |3,_=>aaN w os f t a n k gl
 |2,_=>WY w os f t a n k gl
 |1,_=>XM w os f t a n k gl
 |0,_=>ZN w os f t a n k gl
 |m+4,h=>absurd h (by omega)
theorem ZJ(v:Int){m:Nat}(hm:m≤3)(f t:NN)(a n k:Nat)(gl:LG):cb (model TW w) (bD w.params) os 480 (yf a (v.fmod (Int.ofNat (m+1))) k) [a] (vO f t m (v.fmod (Int.ofNat (m+1))).toNat n gl):=by
 have h1:=Int.fmod_nonneg_of_pos v (show(0:Int)<Int.ofNat (m+1) by simp)
 have h2:=Int.fmod_lt_of_pos v (show(0:Int)<Int.ofNat (m+1) by simp)
 obtain⟨d,hd⟩:=Int.eq_ofNat_of_zero_le h1
 have e:v.fmod (Int.ofNat (m+1))=Int.ofNat d:=hd
 have h2':(d:Int)<((m+1:Nat):Int):=by rw[←hd];exact h2
 rw[e]
 exact Yw f t a n k gl m hm d (by omega)
theorem aap{v:Int}{m:Nat}(hm:m≤3){f g:NN}{o:Nat}(t:NN)(a n k:Nat)(gl:LG)(ho:o=f (v.fmod (Int.ofNat (m+1))).toNat)(hg:g=er (v.fmod (Int.ofNat (m+1))).toNat f):
 cb (model TW w) (bD w.params) os 480 (yf a (v.fmod (Int.ofNat (m+1))) k) [a] (Fz f g t o m n gl):=by
 intro s K g0 hL hA nd hk Γ p hc hb
 obtain⟨r,s',hr,as,ts,ha,ht,e,E⟩:=ZJ v hm f t a n k gl s K g0 hL hA nd hk Γ p hc hb
 obtain rfl:as=[]:=List.length_eq_zero_iff.mp ha
 obtain rfl:ts=[]:=List.length_eq_zero_iff.mp ht
 subst ho hg
 refine⟨r,s',hr,[],(t (v.fmod (Int.ofNat (m+1))).toNat)::(List.range m).map (er (v.fmod (Int.ofNat (m+1))).toNat t),rfl,by simp[Fz],e,?_⟩
 have h4:m=0∨m=1∨m=2∨m=3:=by omega
 rcases h4 with h4|h4|h4|h4<;>subst h4<;>exact E
noncomputable def x7(v:Int)(f g:NN)(o m:Nat)(slots:LN):Hk:=
 ⟨slots,fun ad _ c=>yf (gx ad 0) (v.fmod (Int.ofNat (m+1))) (bz (b_ c 1)),fun gl _ obs _=>Fz f g (fun j=>bz (o5 (gO obs 0) j)) o m (bO (gO obs 0)) gl,aC⟩
theorem wf{v:Int}{f g:NN}{o m:Nat}(hm:m≤3)(ho:o=f (v.fmod (Int.ofNat (m+1))).toNat)(hg:g=er (v.fmod (Int.ofNat (m+1))).toNat f)(hn:slots.Nodup:=by decide)(hd:hdp≤480:=by decide):(x7 v f g o m slots).Ok (bs w.params w.params) w os hdp:=qs hn (fun _ _ _ _=>rfl) fun gl a obs c=>aE hd (aap hm _ a _ _ gl ho hg)
noncomputable def sgS:Str:=⟨⟨[33,42,45,63,91,93,97,98]⟩⟩
noncomputable def Va(r:Nat):Str:=⟨⟨sgL.drop r⟩⟩
theorem sl1(w:Wd)(os:OS)(a t t1:Nat)(gl:LG):∀r,r<5→cb (model TW w) (bD w.params) os 480 (.call (.builtin "str.__getitem__") ⟨[.str sgS t,.ref a],[]⟩) [a] (aL [za (.int (Int.ofNat r) t1) .none .none] gl 1 fun l=> .ok (.ret (.str (Va r) (gx l 0))))
 |0,_=>aG (av w) (hdp:=500) (hs:=[]) (ks:=[]) ak ak [] (fun r _ _=> [bz (dC r)]) 12 [0,1,1,1,1]
 |1,_=>aG (av w) (hdp:=500) (hs:=[]) (ks:=[]) ak ak [] (fun r _ _=> [bz (dC r)]) 12 [0,1,1,1,1]
 |2,_=>aG (av w) (hdp:=500) (hs:=[]) (ks:=[]) ak ak [] (fun r _ _=> [bz (dC r)]) 12 [0,1,1,1,1]
 |3,_=>aG (av w) (hdp:=500) (hs:=[]) (ks:=[]) ak ak [] (fun r _ _=> [bz (dC r)]) 12 [0,1,1,1,1]
 |4,_=>aG (av w) (hdp:=500) (hs:=[]) (ks:=[]) ak ak [] (fun r _ _=> [bz (dC r)]) 12 [0,1,1,1,1]
 |r+5,h=>absurd h (by omega)
theorem sl2(w:Wd)(os:OS)(a t t1:Nat)(gl:LG):∀r,r<5→cb (model TW w) (bD w.params) os 480 (.call (.builtin "str.__getitem__") ⟨[.str (Va r) t,.ref a],[]⟩) [a] (aL [za .none (.int 4 t1) .none] gl 1 fun l=> .ok (.ret (.str (Qh r [0,1,2,3]) (gx l 0))))
 |0,_=>aG (av w) (hdp:=500) (hs:=[]) (ks:=[]) ak ak [] (fun r _ _=> [bz (dC r)]) 12 [0,1,1,1,1]
 |1,_=>aG (av w) (hdp:=500) (hs:=[]) (ks:=[]) ak ak [] (fun r _ _=> [bz (dC r)]) 12 [0,1,1,1,1]
 |2,_=>aG (av w) (hdp:=500) (hs:=[]) (ks:=[]) ak ak [] (fun r _ _=> [bz (dC r)]) 12 [0,1,1,1,1]
 |3,_=>aG (av w) (hdp:=500) (hs:=[]) (ks:=[]) ak ak [] (fun r _ _=> [bz (dC r)]) 12 [0,1,1,1,1]
 |4,_=>aG (av w) (hdp:=500) (hs:=[]) (ks:=[]) ak ak [] (fun r _ _=> [bz (dC r)]) 12 [0,1,1,1,1]
 |r+5,h=>absurd h (by omega)
noncomputable def KJ(r:Nat)(i:Int)(slots:LN):Hk:=
 ⟨slots,fun ad _ c=> .call (.builtin "str.__getitem__") ⟨[.str sgS (bz (b_ c 0)),.ref (gx ad 0)],[]⟩,fun gl _ obs _=>aL [za (.int i (aJ obs 0 0)) .none .none] gl 1 fun l=> .ok (.ret (.str (Va r) (gx l 0))),aC⟩
theorem OG{r:Nat}{i:Int}(hr:r<5)(hi:i=Int.ofNat r)(hn:slots.Nodup:=by decide)(hd:hdp≤480:=by decide):(KJ r i slots).Ok (bs w.params w.params) w os hdp:=qs hn (fun _ _ _ _=>rfl) fun gl a obs c=>by subst hi;exact aE hd (sl1 w os a _ _ gl r hr)
noncomputable def KY(r:Nat)(slots:LN):Hk:=
 ⟨slots,fun ad _ c=> .call (.builtin "str.__getitem__") ⟨[.str (Va r) (bz (b_ c 0)),.ref (gx ad 0)],[]⟩,fun gl _ obs _=>aL [za .none (.int 4 (aJ obs 0 1)) .none] gl 1 fun l=> .ok (.ret (.str (Qh r [0,1,2,3]) (gx l 0))),aC⟩
theorem MI{r:Nat}(hr:r<5)(hn:slots.Nodup:=by decide)(hd:hdp≤480:=by decide):(KY r slots).Ok (bs w.params w.params) w os hdp:=qs hn (fun _ _ _ _=>rfl) fun gl a obs c=>aE hd (sl2 w os a _ _ gl r hr)
theorem On{r:Nat}(hr:r<5):(Qh r [0,1,2,3]).cps.all (· <128)=true:=by
 match r,hr with
 |0,_=>decide+kernel
 |1,_=>decide+kernel
 |2,_=>decide+kernel
 |3,_=>decide+kernel
 |4,_=>decide+kernel
end
end
noncomputable def Bn(xs:LV)(n:Nat):PC:=fun ad t=>(.call (.ref 881) ⟨[.ref (gx ad 0)],[]⟩)
noncomputable def zb(xs:LV)(n:Nat):PO:=fun P ad t=>[(bu xs n),(O .none none (.fields ⟨[]⟩) ⟨[]⟩),(O .none none (.fields ⟨[]⟩) ⟨[]⟩)]
noncomputable def A8(xs:LV)(n:Nat)(P:Pm)(a0:Nat)(t:NN)(T:BT):Spec:={pre:=zb xs n P [a0,832,167] t,post:=[fun _=>bu xs n,fun _=>gT T 1,fun _=>gT T 2],news:=[],nt:=0,rv:=fun _=> .ok (.ret (.bool true)),gl:=[],gl':=[.finished]}
noncomputable def Pb(_:Re)(_:BT)(_:LN):LN:=[]
section
open PyProof.Rows
section
variable(w:Wd)(os:OS)
noncomputable abbrev LW:OpenLaw:=PySem.Challenge.rw_aa0064_01
theorem UH:PySem.Challenge.rw_aa0064_01=LW:=rfl
theorem Hq:LW.row.toRowW.prog=TW:=by kernel_rfl
noncomputable def H0(P:Pm):Heap:=⟨⟨KM P⟩,bG⟩
noncomputable def H1(P:Pm):Heap:=⟨⟨xb P⟩,bG⟩
theorem eE:treeTable=d0:=PySem.W.Fast.te14364793385576792824
theorem EH: @segRunT= @vR:=PySem.W.Fast.te10110043849684766642
theorem IP: @topGo= @Sa:=PySem.W.Fast.te15667345088766844465
theorem FR: @topRun= @Le:=PySem.W.Fast.te14082659384304107361
theorem DD: @importEnds= @Ks:=PySem.W.Fast.te10274390034422433532
theorem EU: @denote= @JT:=PySem.W.Fast.te11892475500146522536
theorem z9: @execs= @Bc:=PySem.W.Fast.te12563942051412417395
theorem CE: @openSeen= @ES:=PySem.W.Fast.te4187177175401517315
theorem Rh(l:List Stmt)(p:Pos):piecesOf l qj c0 p [topFrame z0]=OX l p:=by
 unfold piecesOf OX B0
 rw[z9]
theorem Qc{w:Wd}{n:Nat}{s s':SharedT}{l:List Stmt}{p p':Pos}(h:vR d0 TW w 34 (some (.ref 6)) 1 n s (OX l p)=some (.next,s',c0,p')):
 segRun treeTable TW w 34 (some (.ref 6)) 1 n s.abs (piecesOf l qj c0 p [topFrame z0])=some (.next,s'.abs,c0,p'):=by
 rw[←Rh,←EH,←eE] at h
 exact segRun_of h
theorem Rc:n9=U4++(U0++(bF++ [])):=by kernel_rfl
theorem C9: @segRun= @Dh:=PySem.W.Fast.te14374325043358763698
theorem Au: @blockStart= @Bq:=PySem.W.Fast.te1066825118222455980
theorem Ni:Dh d0 TW w 34 (some (.ref 6)) 1 1 ⟨⟨⟨HA w.params⟩,bG⟩,⟨[]⟩,boot_drawn,324,os⟩ ⟨(Bq n9 qj).wrap (fun _=>doneF .next) deadEnd id id,c0,z0,[topFrame z0]⟩=some (.next,⟨⟨⟨HA w.params⟩,bG⟩,⟨[]⟩,boot_drawn,324,os⟩,c0,z0):=by kernel_rfl
theorem SM:segRun treeTable TW w 34 (some (.ref 6)) 1 1 ⟨⟨⟨HA w.params⟩,bG⟩,⟨[]⟩,boot_drawn,324,os⟩ (blockOf n9 qj c0 z0 [topFrame z0])=some (.next,⟨⟨⟨HA w.params⟩,bG⟩,⟨[]⟩,boot_drawn,324,os⟩,c0,z0):=by
 have h:=Ni w os
 rw[←C9,←Au,←eE] at h
 exact h
theorem wB{w:Wd}{n:Nat}{s s':SharedT}{S S':Ś}{l:List Stmt}{p p':Pos}(h:vR d0 TW w 34 (some (.ref 6)) 1 n s (OX l p)=some (.next,s',c0,p'))(ha:s.abs=S)(hb:s'.abs=S'):
 segRun treeTable TW w 34 (some (.ref 6)) 1 n S (piecesOf l qj c0 p [topFrame z0])=some (.next,S',c0,p'):=by
 subst ha hb
 exact Qc h
noncomputable def Kh(H:Heap)(t:Nat)(os:OS):Ś:=⟨H,⟨[]⟩,boot_drawn,t,os⟩
theorem M6(P:Pm)(os:OS):SharedT.abs ⟨tA P,38,bG,⟨[]⟩,boot_drawn,324,os⟩=Kh ⟨⟨HA P⟩,bG⟩ 324 os:=by kernel_rfl
theorem Zt:segRun treeTable TW w 34 (some (.ref 6)) 1 763 (Kh ⟨⟨HA w.params⟩,bG⟩ 324 os) (piecesOf U4 qj c0 z0 [topFrame z0])=some (.next,Kh (absHeap (Sx w.params) 154 bG) 526 os,c0,⟨144,0,144,8⟩):=
 wB (s:=⟨tA w.params,38,bG,⟨[]⟩,boot_drawn,324,os⟩) (s':=⟨Sx w.params,154,bG,⟨[]⟩,boot_drawn,526,os⟩) (XO w os) (M6 w.params os) rfl
theorem XI:segRun treeTable TW w 34 (some (.ref 6)) 1 1600 (Kh (absHeap (Sx w.params) 154 bG) 526 os) (piecesOf U0 qj c0 ⟨144,0,144,8⟩ [topFrame z0])=some (.next,Kh (absHeap (Vc w.params) 159 bG) 672 os,c0,⟨145,0,145,18⟩):=
 wB (congrFun (WH w) os) rfl rfl
theorem Vx:segRun treeTable TW w 34 (some (.ref 6)) 1 4933 (Kh (absHeap (Vc w.params) 159 bG) 672 os) (piecesOf bF qj c0 ⟨145,0,145,18⟩ [topFrame z0])=some (.next,Kh (H1 w.params) 1617 os,c0,⟨931,0,946,108⟩):=
 wB (h_F w os) rfl (congrArg (fun H=>Kh H 1617 os) (GB w.params))
theorem aaO:topRun treeTable TW w 34 (some (.ref 6)) 2 ⟨H1 w.params,⟨[]⟩,boot_drawn,1617,os⟩ ⟨doneF .next,c0,⟨931,0,946,108⟩,[topFrame z0]⟩=some ⟨H1 w.params,⟨[]⟩,boot_drawn,1617,os⟩:=by
 have e4:=QM w os
 rw[←FR,←eE] at e4
 exact e4
theorem h_a:topGo treeTable TW w 34 (some (.ref 6)) 12 ⟨H0 w.params,⟨[]⟩,boot_drawn,318,os⟩ (topStub TW)=some (⟨⟨⟨HA w.params⟩,bG⟩,⟨[]⟩,boot_drawn,324,os⟩,⟨denote treeTable c0,c0,z0,[topFrame z0]⟩):=by
 have a:=Tw w os
 rw[←IP,←eE,←EU] at a
 exact a
theorem D4{tb:String→Option Builtin}{p:Program}{w:Wd}{n₀:Nat}{ann:Option Vl}{env:Env}{c:Code}{S0 S1 S2 S3 S4:Ś}{st:Thread}{z p1 p2 p3:Pos}{body x y v:List Stmt}{na nb nc nd ne nf:Nat}
 (hc:c= .body body env)(cut:body=x++(y++(v++ [])))
 (a:topGo tb p w n₀ ann na S0 st=some (S1,⟨denote tb c,c,z,[topFrame z]⟩))
 (b:segRun tb p w n₀ ann 1 nb S1 (blockOf body env c z [topFrame z])=some (.next,S1,c,z))
 (e1:segRun tb p w n₀ ann 1 nc S1 (piecesOf x env c z [topFrame z])=some (.next,S2,c,p1))
 (e2:segRun tb p w n₀ ann 1 nd S2 (piecesOf y env c p1 [topFrame z])=some (.next,S3,c,p2))
 (e3:segRun tb p w n₀ ann 1 ne S3 (piecesOf v env c p2 [topFrame z])=some (.next,S4,c,p3))
 (e4:topRun tb p w n₀ ann nf S4 ⟨doneF .next,c,p3,[topFrame z]⟩=some S4):topRun tb p w n₀ ann (na+(nb+(nc+(nd+(ne+nf))))) S0 st=some S4:=by
 refine go_top a ?_
 rw[hc] at b e1 e2 e3 e4⊢
 refine piece_block b ?_
 rw[cut]
 rw[cut] at e1 e2 e3 e4
 exact piece_app e1 (piece_app e2 (piece_app e3 (piece_nil e4)))
theorem Q9:topRun treeTable TW w 34 (some (.ref 6)) (12+(1+(763+(1600+(4933+2))))) ⟨H0 w.params,⟨[]⟩,boot_drawn,318,os⟩ (topStub TW)=some ⟨H1 w.params,⟨[]⟩,boot_drawn,1617,os⟩:=
 D4 (body:=n9) (env:=qj) (c:=c0) (z:=z0) (x:=U4) (y:=U0) (v:=bF) (by kernel_rfl) Rc (h_a w os) (SM w os) (Zt w os) (XI w os) (Vx w os) (aaO w os)
theorem IB:∀w:Wd,(fencedOpening treeTable TW w 8000).map (fun s=>(s.heap,s.gens,s.drawn,s.toks))=some (H0 w.params,⟨[]⟩,boot_drawn,318):=fun w=>by
 have:=PV w
 rw[←DD,←eE] at this
 exact this
noncomputable def Ws(s:Ś):Array Obj×Nat:=(s.heap.objs,s.toks)
noncomputable def V6(w:Wd):Array Obj×Nat:=(⟨xb w.params⟩,1617)
theorem Ts:LeftO TW q0 mI QX Ws V6 8000:=LeftO.of_pieces (H₀:=H0) (H₁:=H1) (gs₀:=⟨[]⟩) (gs₁:=⟨[]⟩) (d₀:=boot_drawn) (d₁:=boot_drawn) (k₀:=318) (k₁:=1617) (m₀:=34) (ann:=some (.ref 6)) (M:=12+(1+(763+(1600+(4933+2)))))
 IB OT Q9 rfl fun w=>by
  funext os
  have k1:=Ye w
  have k2:=Ya w
  have k3:=Xn w
  have k4:=Oh w os
  rw[←CE] at k4
  unfold FI at k1 k4
  unfold H0 H1
  rw[k1,k2,k3,k4]
  rfl
end
end
section
open PySem.Spec PySem.Calls PyProof.Rows
noncomputable abbrev G0:PySem.Ctx:=⟨.builtin "claim.caller" {},none,none,[],none⟩
theorem FF{M:Model}{Γ:PySem.Ctx}{f:Vl}{vs:LV}{Q E:Vl→Pos→Ś→Prop}{p:Pos}{s:Ś}
 (h:wpCode M (Γ.enter (.call f ⟨vs,[]⟩) none p) (fun r s'=>∃v,r= .ok (.ret v)∧Q v p s') p s):Sem.wp M Γ (PySem.call f vs) Q E p s:=by
 unfold PySem.call
 rw[Sem.wp_runValue]
 obtain⟨r,s',hr,v,e,hq⟩:=h
 subst e
 exact⟨_,s',hr,hq⟩
noncomputable def vQ(n:Nat):BT→Nat→Nat→Bool
 | .nil,_,_=>true
 | .node v l r,s,b=>match Nat.ble (b+1) n with
  |true=>match v.isFreed with
   |true=>false
   |false=>match vQ n l (2*s) (s+b) with
    |true=>vQ n r (2*s) (2*s+b)
    |false=>false
  |false=>false
theorem kk{T:BT}{n:Nat}{life:Life}:∀(t:BT)(s b:Nat),(∀i,t.get i=T.get (s*i+b))→vQ n t s b=true→KT.Holds (absHeap T n life) s b (vc t)
 | .nil,_,_,_,_=>trivial
 | .node v l r,s,b,h,k=>by
  unfold vQ at k
  cases e1:Nat.ble (b+1) n with
  |false=>rw[e1] at k;cases k
  |true=>
   rw[e1] at k
   cases e2:v.isFreed with
   |true=>rw[e2] at k;cases k
   |false=>
    rw[e2] at k
    cases e3:vQ n l (2*s) (s+b) with
    |false=>rw[e3] at k;cases k
    |true=>
     rw[e3] at k
     refine⟨fun o q=> ?_,kk l _ _ (fun i=> ?_) e3,kk r _ _ (fun i=> ?_) k⟩
     ·cases q
      have g:=h 0
      rw[BT.get_node,if_pos rfl,Nat.mul_zero,Nat.zero_add] at g
      rw[abs_get (Nat.le_of_ble_eq_true e1) g.symm]
      rcases v with⟨c,d,dat,sl⟩
      cases dat<;>first|rfl|cases e2
     ·have g:=h (2*i+1)
      rw[BT.get_node,if_neg (by omega),if_pos (by omega),show(2*i+1)/2=i by omega] at g
      rw[g]
      congr 1
      rw[Nat.mul_add,Nat.mul_one,←Nat.mul_assoc,Nat.mul_comm s 2];omega
     ·have g:=h (2*i+2)
      rw[BT.get_node,if_neg (by omega),if_neg (by omega),show(2*i+2)/2 -1=i by omega] at g
      rw[g]
      congr 1
      rw[Nat.mul_add,←Nat.mul_assoc,Nat.mul_comm s 2];omega
theorem Oy(P:Pm):vQ 882 (tF P) 1 0=true:=by kernel_rfl
theorem GI(P:Pm)(life:Life):KT.Holds ⟨⟨xb P⟩,life⟩ 1 0 (vc (tF P)):=by
 have h:absHeap (tF P) 882 life=⟨⟨xb P⟩,life⟩:=by
  have e:((tF P).list 882).toArray=⟨xb P⟩:=congrArg Heap.objs (GB P)
  unfold absHeap
  rw[e]
 rw[←h]
 exact kk (tF P) 1 0 (fun i=>by rw[Nat.one_mul,Nat.add_zero]) (Oy P)
theorem Nu(P:Pm)(life:Life):(Heap.nsMap ⟨⟨xb P⟩,life⟩ mainGlobals) ⟨⟨[108,97,119]⟩⟩=some (.ref 881):=by kernel_rfl
theorem CL{c:ClaimW}{tree:LV→Sem Fin}{w:Wd}{s:Ś}{free:Addr→Prop}{gens:Prop}{kept:Heap→Prop}(hz:s.asleep)(hgens:s.gens= #[])
 (hspec:∀args,c.pre args=true→WData.layableAll args=true→
  ∀ord:List DictEntry→List DictEntry,(∀l,(ord l).Perm l)→
  ∃vs s₁,layAllW c.records (classAt s.heap) w.params ord args s=some (vs,s₁)∧
   Sem.wp (model c.prog w) G0 (tree vs) (fun fin _ s'=>∃f,fin= .done f∧(c.Ends s args vs s₁ (.ok f) s'∧s'.os=s.os∧AllBare s'.gens∧kept s'.heap))
    (fun e _ s'=>False) default s₁):
 c.CallFrom (fun vs=>⟨tree vs,.builtin "claim.caller" {},default,[]⟩) w free gens kept s:=by
 intro args hpre hlay ord hord
 obtain⟨vs,s₁,hlaid,hcode⟩:=hspec args hpre hlay ord hord
 have hal:=layAllW_rest _ _ _ hlaid
 obtain⟨k,r,s'',s',hsched,hrun,hfo,hcase,hos,hkp⟩:=wp_halts_full (M:=model c.prog w) (c:= .builtin "claim.caller" {}) (t:=tree vs) (p:=default) (s:=s₁)
  (R:=fun r s'=>c.Ends s args vs s₁ r s'∧s'.os=s.os∧kept s'.heap)
  (Shared.asleep_of_life hal.2.2.2 hz)
  (Sem.wp_mono _ _ _ (fun fin p s' ⟨f,e,h1,h2,h3,h4⟩=>by subst e;exact⟨⟨h1,h2,h4⟩,leftWithCleanup_false_of_bare h3⟩) (fun e p s' h=>False.elim h) _ _ hcode)
 obtain⟨eh,_,_,eo,_⟩:=Shared.forget_eq hfo
 have hcase:=hcase.congr eh
 have hkp:kept s'.heap:=by rw[eh];exact hkp
 rw[←eo] at hos
 have hlife:s'.heap.life=s.heap.life:=(runN_life _ _ _ hrun).trans hal.2.2.2
 refine⟨vs,s₁,hlaid,k,_,s',hsched,?_,(fun _ i x hx=>by rw[hgens] at hx;simp at hx),hkp,by rw[hlife],Shared.rest_eq hos⟩
 rcases hcase with⟨v,rfl,d1,d2,d3,d4,d5⟩|⟨e,ob,cls,rfl,d1,d2,d3,d4,d5⟩
 ·exact .inl ⟨v,rfl,d1,d2,d3,fun b o y _=>d4 b o y,d5⟩
 ·exact .inr ⟨e,ob,cls,rfl,d1,d2,d3,d4,fun b o y _=>d5 b o y⟩
theorem BY:∀{vs:LV}{ns:List Int},IntsAre vs ns→fh vs=true
 |_,_,.nil=>rfl
 |_,_,.cons _ _ h=>by
  have q:=BY h
  exact q
theorem KS(P:Pm):(vc (tF P)).get 832=some (O .none none (.fields ⟨[]⟩) ⟨[]⟩):=by kernel_rfl
theorem Lu(P:Pm):(vc (tF P)).get 167=some (O .none none (.fields ⟨[]⟩) ⟨[]⟩):=by kernel_rfl
theorem Ut(P:Pm):(vc (tF P)).get 836=some eu:=by kernel_rfl
theorem TH(P:Pm):(vc (tF P)).get 171=some fB:=by kernel_rfl
theorem SB(P:Pm):(bD P).get 882=none:=by kernel_rfl
theorem TQ(P:Pm):(bD P).get 832=none:=by kernel_rfl
theorem Rr(P:Pm):(bD P).get 167=none:=by kernel_rfl
theorem Jp(P:Pm):(xb P).length=882:=by kernel_rfl
theorem zh:eu.cls= .type "code":=by kernel_rfl
theorem y6:fB.cls= .type "code":=by kernel_rfl
theorem NI(p:Pos):Below (G0.enter (.call (.ref 881) ⟨[.ref 882],[]⟩) none p) 310 (some (v5 p)):=
 ⟨rfl,Nat.le_of_ble_eq_true (by kernel_rfl),Nat.le_of_ble_eq_true (by kernel_rfl),fun b e=>by cases e;rfl⟩
theorem TI(S:∀(w:Wd)(os:OS)(xs:LV)(n a0:Nat)(t:NN),fh xs=true→xs.length≤63→xQ (model TW w) (bD w.params) os 310 v5 (Bn xs n [a0,832,167] t) [a0,832,167] (zb xs n w.params [a0,832,167] t) [] (A8 xs n w.params a0 t)):
 ∀(w:Wd)(s₀ s₁:Ś),Ws s₀=V6 w→∀(args:List WData)(vs:LV)(as:LA),LW.row.toRowW.claim.pre args=true→WData.layableAll args=true→Laid [] w s₀ s₁ args vs as→WellAll w.params s₁.heap vs args→(∀a∈as,(a==sysModules)=false)→∀p:Pos,
  Sem.wp (model TW w) G0 (PySem.call (.ref 881) vs) (fun v _ s'=>GoodWG LW.row.toRowW.claim (classAt s₀.heap) (ExcName.means s₀.heap) args s₁ (.ok (.ret v)) s') (fun _ _ _=>False) p s₁:=by
 intro w s₀ s₁ y args vals as hpre hlay L hwl hlo p
 have hrd:=L.reads
 wrow_args hpre hlay hrd hwl hlo
 rename_i ns hs hlay0 hL1 hr1 hl2 as1 as2 a its as3 hL ra w1 r0 hI hr hcond1 hcond2
 obtain⟨hat,hsz⟩:=script_at L
 have htk:1617≤s₁.toks:=script_toks L (t:=1617) (congrArg Prod.snd y)
 have hob:=script_obj L hL
 have hobjs:s₀.heap.objs=⟨xb w.params⟩:=congrArg Prod.fst y
 have ha:a=882:=by
  rw[hat,hobjs]
  exact Jp w.params
 subst ha
 have h0:s₀.heap=⟨⟨xb w.params⟩,s₀.heap.life⟩:=by
  rcases s₀ with⟨⟨ob,li⟩,g,d,t,o⟩
  have hobjs:ob=⟨xb w.params⟩:=hobjs
  subst hobjs
  rfl
 have at0:∀{b:Nat}{o:Obj},(vc (tF w.params)).get b=some o→s₁.heap.get? b=some o:=fun{b o} e=>L.keeps _ _ (by
  rw[h0]
  exact kt_at (GI w.params s₀.heap.life) e)
 have K:KH (bD w.params) s₁.os s₁:=⟨fun b o e=>at0 (gq (gq (by rw[←NP];exact e))),rfl,(by rw[L.gens];intro x h;cases h),htk⟩
 have hlen:its.length≤63:=by
  rw[hI.length]
  omega
 have Z:=S w s₁.os its 0 882 (fun _=>0) (BY hI) hlen s₁ K L.gens rfl (by
  intro p hp
  rcases List.mem_cons.mp hp with rfl|hp
  ·exact hob
  rcases List.mem_cons.mp hp with rfl|hp
  ·exact at0 (KS _)
  rcases List.mem_cons.mp hp with rfl|hp
  ·exact at0 (Lu _)
  cases hp) (by decide) (by
  intro b hb o e
  rcases List.mem_cons.mp hb with rfl|hb
  ·rw[SB] at e;cases e
  rcases List.mem_cons.mp hb with rfl|hb
  ·rw[TQ] at e;cases e
  rcases List.mem_cons.mp hb with rfl|hb
  ·rw[Rr] at e;cases e
  cases hb) (G0.enter (.call (.ref 881) ⟨[.ref 882],[]⟩) none p) p p rfl (NI p)
 obtain⟨r,s',hr',T,hT,as',ts',h1,h2,h3,E⟩:=Z
 refine FF ⟨r,s',hr',.bool true,h3,?_⟩
 have f1:∃vs,gT T 1=O .none none (.fields vs) ⟨[]⟩:=by
  refine DU ?_
  unfold Qi at hT
  cases q:UF (gT T 1) with
  |true=>rfl
  |false=>rw[q] at hT;cases hT
 have f2:∃vs,gT T 2=O .none none (.fields vs) ⟨[]⟩:=by
  refine DU ?_
  unfold Qi at hT
  cases q:UF (gT T 1) with
  |true=>rw[q] at hT;exact hT
  |false=>rw[q] at hT;cases hT
 obtain⟨v1,f1⟩:=f1
 obtain⟨v2,f2⟩:=f2
 have n0:=E.now (882,bu its 0) (List.mem_append_left _ List.mem_cons_self)
 have n1:=E.now (832,gT T 1) (List.mem_append_left _ (List.mem_cons_of_mem _ List.mem_cons_self))
 have n2:=E.now (167,gT T 2) (List.mem_append_left _ (List.mem_cons_of_mem _ (List.mem_cons_of_mem _ List.mem_cons_self)))
 have c1:isCodeTable s₁.heap 832:=⟨836,_,_,at0 (Ut _),zh,rfl,rfl⟩
 have c2:isCodeTable s₁.heap 167:=⟨171,_,_,at0 (TH _),y6,rfl,rfl⟩
 refine⟨.inl ⟨.bool true,.bool true,[],rfl,fun cls=>rfl,.bool _,by wrow_post,fun _=>⟨List.nodup_nil,fun a h=>nomatch h⟩⟩,⟨fun b o e=> ?_,fun b o e=> ?_⟩,E.os,?_⟩
 ·by_cases e0:b=882
  ·subst e0
   have q:=hob.symm.trans e
   cases q
   exact .inl n0
  by_cases e1:b=832
  ·subst e1
   have q:=(at0 (KS w.params)).symm.trans e
   cases q
   refine .inr (.inl ⟨c1,rfl,⟨[]⟩,v1,rfl,?_⟩)
   rw[n1,f1,Array.empty_append]
  by_cases e2:b=167
  ·subst e2
   have q:=(at0 (Lu w.params)).symm.trans e
   cases q
   refine .inr (.inl ⟨c2,rfl,⟨[]⟩,v2,rfl,?_⟩)
   rw[n2,f2,Array.empty_append]
  ·exact .inl (E.keep b o e (by
    intro hm
    rcases List.mem_cons.mp hm with h|hm
    ·exact e0 h
    rcases List.mem_cons.mp hm with h|hm
    ·exact e1 h
    rcases List.mem_cons.mp hm with h|hm
    ·exact e2 h
    cases hm))
 ·by_cases e0:b=882
  ·subst e0;exact⟨_,n0⟩
  by_cases e1:b=832
  ·subst e1;exact⟨_,n1⟩
  by_cases e2:b=167
  ·subst e2;exact⟨_,n2⟩
  ·exact⟨o,E.keep b o e (by
    intro hm
    rcases List.mem_cons.mp hm with h|hm
    ·exact e0 h
    rcases List.mem_cons.mp hm with h|hm
    ·exact e1 h
    rcases List.mem_cons.mp hm with h|hm
    ·exact e2 h
    cases hm)⟩
 ·rw[E.gens]
  intro x hx
  have hx:x∈(⟨[.finished]⟩:Array GS):=hx
  have hx:x∈[GenState.finished]:=by simpa using hx
  rcases List.mem_cons.mp hx with rfl|hx
  ·rfl
  ·cases hx
theorem UN(S:∀(w:Wd)(os:OS)(xs:LV)(n a0:Nat)(t:NN),fh xs=true→xs.length≤63→xQ (model TW w) (bD w.params) os 310 v5 (Bn xs n [a0,832,167] t) [a0,832,167] (zb xs n w.params [a0,832,167] t) [] (A8 xs n w.params a0 t))(k1:LW.row.wellSaid=true)(hw:LW.row.toRowW.promised):LW.row.Holds:=by
 have hb:LW.row.toRowW.prog.bare:=⟨rfl,rfl,rfl,rfl,rfl,by decide+kernel⟩
 have left:LeftO LW.row.toRowW.prog q0 mI QX Ws V6 8000:=by rw[Hq];exact Ts
 have ok:(chainsOk q0&&opensWell LW.row.toRowW.prog&&(frees LW.row.toRowW&&LW.row.toRowW.within.isEmpty))=true:=by decide+kernel
 have hX:∀s,QX s=true→XL q0 [] (s.heap.nsMap mainGlobals) s.heap:=fun s e=>xl_of s (Bool.and_eq_true_iff.mp e).1
 have hRf:∀s,QX s=true→RecFacts LW.row.toRowW.records s.heap:=fun s e=>recFacts_of (Bool.and_eq_true_iff.mp e).2
 refine⟨k1,hw,?_⟩
 obtain⟨ok,k5⟩:=Bool.and_eq_true_iff.mp ok
 obtain⟨hch,o1⟩:=Bool.and_eq_true_iff.mp ok
 obtain⟨k5,k6⟩:=Bool.and_eq_true_iff.mp k5
 obtain⟨hsame,hu,ha,hap,hm⟩:=frees_parts k5
 refine⟨⟨hb,o1,rfl⟩,hw.witness,fun w=>⟨(left.behind hX hch w).1,fun s' hs'=> ?_⟩⟩
 obtain⟨s₀,hf,hg0,s,hT,hz,hgens,hg,G00,y⟩:=(left.behind (XP:=fun mg h=>XL q0 [] mg h∧RecFacts LW.row.toRowW.records h) (fun s hs=>⟨hX s hs,hRf s hs⟩) hch w).2 s' hs'
 have G0':Ground q0 mI [] (XL q0 []) w s (s.heap.nsMap mainGlobals) (s.heap.nsMap builtinsNs) s.heap:=⟨G00.T,G00.B,G00.D,G00.TE,G00.TD,G00.W,G00.X.1,G00.cls,G00.has,G00.apart,G00.once,G00.K⟩
 have RF:=G00.X.2
 refine⟨s₀,hf,hg0,s,hT,fun n hn=> ?_,RF.1,RF.2.1,?_⟩
 ·obtain rfl:n=LW.row.name:=by split at hn<;>simp_all
  exact pinned_of_view hg G0' (d:= ?d) (kwd:= ?k) (by rfl) (by rfl) (by rfl)
 have hgens:s.gens= #[]:=Array.eq_empty_of_size_eq_zero (beq_iff_eq.mp hgens)
 have G:Ground q0 mI LW.row.toRowW.records (XL q0 []) w s _ _ s.heap:=RF.ground G0'
 refine CL (c:=LW.row.toRowW.claim) (tree:=fun vs=>do match←nsGet mainNs LW.row.name with
  |some f=>do ret (←PySem.call f vs)
  |none=>unsupported "claim.caller:no-such-global") hz hgens fun args hpre hlay ord hord=> ?_
 obtain⟨⟨vs,s₁⟩,hlaid⟩:=Option.isSome_iff_exists.mp (layAllW_isSome (P:=w.params) (ord:=ord) G.has args LW.row.toRowW.args s (pre_splitW hpre).1)
 have keeps:=layAllW_keeps _ _ _ hlaid
 have hal:=layAllW_rest _ _ _ hlaid
 obtain⟨as,hrd,hin,hold⟩:=reads_layAllW hord _ _ _ hlaid hlay s₁.heap (fun _ _ e=>e)
 have L:Laid LW.row.toRowW.records w s s₁ args vs as:=⟨⟨ord,hord,hlaid⟩,hrd,hin,hold,keeps,hal.1.trans hgens,hal.2.2.1⟩
 have G₁:=G.keeps XL.keeps keeps
 have hi:=ident_freeW hu ha hap
 have hwi:LW.row.toRowW.claim.within=[]:=List.isEmpty_iff.mp k6
 refine⟨vs,s₁,hlaid,?_⟩
 have hf881:(s.heap.nsMap mainGlobals) LW.row.name=some (.ref 881):=by
  have hobjs:s.heap.objs=⟨xb w.params⟩:=congrArg Prod.fst y
  rcases s with⟨⟨ob,li⟩,g,d,t,o⟩
  have hobjs:ob=⟨xb w.params⟩:=hobjs
  subst hobjs
  exact Nu w.params li
 have z:=TI S w s s₁ y args vs as hpre hlay L L.well (L.low G.low)
 show Sem.wp _ _ (nsGet mainNs LW.row.name>>=_) _ _ _ _
 rw[Sem.wp_bind']
 have H:=wpAny_nsGet (M:=model LW.row.toRowW.prog w) (A:=callerA) (name:=LW.row.name) (Q:=fun v s'=>v=some (.ref 881)∧s'=s₁) (E:=fun _ _=>False) G₁.T.g ⟨hf881,rfl⟩ G0 default caller_in
 refine Sem.wp_mono _ _ _ (fun v p s' q=> ?_) (fun _ _ _ q=>q) _ _ H
 obtain⟨e1,e2⟩:=q
 subst e1 e2
 show Sem.wp _ _ (PySem.call (.ref 881) vs>>=fun v=>ret v) _ _ _ _
 rw[Sem.wp_bind']
 refine Sem.wp_mono _ _ _ (fun v p' s'' g=> ?_) (fun _ _ _ q=>q) _ _ (z p)
 show Sem.wp _ _ (Pure.pure (Fin.done (.ret v)):Sem Fin) _ _ _ _
 rw[Sem.wp_pure']
 have zz:=g.laid (c:=LW.row.toRowW.claim) hsame hwi hi L
 exact⟨_,rfl,zz.1,zz.2.1,zz.2.2,fun q=>by cases(show false=true from q)⟩
end
noncomputable def JN:PC:=fun ad t=>(.call (.ref 818) ⟨[.str ⟨⟨[]⟩⟩ (t 0)],[(bk,(.bool true))]⟩)
noncomputable def Sz:PO:=fun P ad t=>[]
noncomputable def K9:PS:=fun P gl ad t=>bW (Sz P ad t) [] [fun l=>(O (.ref 818) (some (gx l 1)) .plain ⟨[]⟩),fun l=>(O (.type "dict") none (.dict ⟨[D P aI (gx l 6) (.ref (gx l 2)),D P aV (gx l 7) .none,D P bk (gx l 8) (.bool true),D P cu (gx l 9) .none,D P az (gx l 10) (.str ⟨⟨[35]⟩⟩ (gx l 11)),D P aD (gx l 12) (.str ah (gx l 13)),D P ay (gx l 14) (.str aw (gx l 15)),D P an (gx l 16) (.bool false),D P aW (gx l 17) (.str aU (gx l 18)),D P aS (gx l 19) (.str ⟨⟨[92]⟩⟩ (gx l 20)),D P au (gx l 21) (.str ⟨⟨[34]⟩⟩ (gx l 22)),D P bq (gx l 23) (.str ⟨⟨[32]⟩⟩ (gx l 24)),D P aH (gx l 25) (.ref (gx l 3)),D P aX (gx l 26) (.int 1 (gx l 27)),D P br (gx l 28) (.int 0 (gx l 29)),D P bo (gx l 30) (.str ⟨⟨[]⟩⟩ (gx l 31)),D P aF (gx l 32) (.ref (gx l 4)),D P aT (gx l 33) .none,D P ai (gx l 34) (.str ⟨⟨[]⟩⟩ (gx l 35))]⟩ 19) ⟨[]⟩),fun l=>(O (.ref 725) (some (gx l 5)) .plain ⟨[]⟩),fun l=>(O (.type "collections.deque") none (.fields ⟨[.none,.int (Int.ofNat 0) 0]⟩) ⟨[]⟩),fun l=>(O (.type "collections.deque") none (.fields ⟨[.none,.int (Int.ofNat 0) 0]⟩) ⟨[]⟩),fun l=>(O (.type "dict") none (.dict ⟨[D P aj (gx l 36) (.str ⟨⟨[10]⟩⟩ 1125),D P ao (gx l 37) (.str ⟨⟨[]⟩⟩ (t 0)),D P ap (gx l 38) (.int 0 (gx l 39))]⟩ 3) ⟨[]⟩)] 34 (fun l=> .ok (.ret (.ref (gx l 0)))) gl
noncomputable def JW(obs:LL)(c:Code):LN:=[bz (b_ c 0)]
noncomputable def QQ(r:Re)(T:BT)(xl:LN):LN:=[dZ T 0 0,dZ T 0 1,dZ T 0 2,dZ T 0 3,dZ T 0 4,aY T 0 4,dZ T 0 5,aY T 0 5,dZ T 0 6,aY T 0 6,dZ T 0 7,dZ T 0 8,aY T 0 8,dZ T 0 9,aY T 0 9,dZ T 0 10,aY T 0 10,dZ T 0 11,aY T 0 11,dZ T 0 12,dZ T 0 13,aY T 0 13,dZ T 0 14,aY T 0 14,dZ T 0 15,aY T 0 15,dZ T 0 16,dZ T 0 17,dZ T 0 18,aY T 0 18,dZ T 6 0,dZ T 6 1,dZ T 6 2,aY T 6 2]
theorem sh0(w:Wd)(os:OS)(gl:LG)(t:NN):SA w os 500 JN (K9 w.params gl) [] t:=
 aq (av w) (hdp:=530) (U:={hs:=[],ks:=[],sam:=[],fa:=[],fb:=[],f3:=[]}) ⟨ak,ak,al,(fun _ h=>nomatch h),(fun _ h=>nomatch h),(fun _ h=>nomatch h)⟩ [1,0,7,10,11,6] QQ 1254 (J [iE,gF,c9,[2,0,2],c9,ō7,[3],fP,fP,fP,fP,bP,[3],c9,[3],iE,gF,ō3,c9,[6,6,0,6,6,0],C0,[6],ō2,[6],dI,[6],iE,iE,fF,[8,0,8],c9,ō2,[9,9,0,9,9,0,9,9,1,0,9,0,0,9],ō3,[9,9],ō1,[9],ō1,[9,0,0,9],ō3,[9,9],B2,[9],B2,[9],B2,[9,9,8],fF,[8],fF,[8],ō3,[8,7,9],dI,fC,ō5,[10,1],ō5,[8],gF,[8],fF,[8,8,0,7],ō5,vB,ō1,[10],ō1,[10,9],B2,Cz,[3,2],vz,[3,3,2],vz,[3,3,2],vz,[3,3,2],vz,xU,[3,2],ō3,[2],gB,[0,1,3,2],ō3,[2],gB,[0],ō1,[2],vz,xU,xU,[3,2],vz,[3,2],Mv,[1,1],cI,Ec,[11],xU,[3,2],vz,[3,2],Mv,[1,1],cI,dO,[0,12,0],dO,[12],xU,[3],Cz,[2],vz,[3],ō2])
noncomputable def dX(P:Pm)(slots:LN):Hk:=⟨slots,fun ad obs c=>JN ad (gx (JW obs c)),fun gl ad obs c=>K9 P gl ad (gx (JW obs c)),aC⟩
theorem cX(w:Wd)(os:OS){slots:LN}(hn:slots.Nodup:=by decide){hdp:Nat}(hdpL:hdp≤500:=by decide):Hk.Ok (bs w.params w.params) w os hdp (dX w.params slots):=⟨hn,fun gl ad obs c=>aE hdpL (by
 intro s K g hL
 have hL':ad.length=0:=hL
 obtain rfl:ad=[]:=List.length_eq_zero_iff.mp hL'
 exact sh0 w os gl _ s K g hL)⟩
noncomputable def ku:Str:=⟨⟨[105,105,105,105,111,111,111,111]⟩⟩
noncomputable def m6:Str:=⟨⟨[105,105,105,111,105,111,111,111]⟩⟩
noncomputable def kV:Str:=⟨⟨[105,105,105,111,111,105,111,111]⟩⟩
noncomputable def kl:Str:=⟨⟨[105,105,105,111,111,111,105,111]⟩⟩
noncomputable def nN:Str:=⟨⟨[105,105,111,105,105,111,111,111]⟩⟩
noncomputable def n7:Str:=⟨⟨[105,105,111,105,111,105,111,111]⟩⟩
noncomputable def mG:Str:=⟨⟨[105,105,111,105,111,111,105,111]⟩⟩
noncomputable def lP:Str:=⟨⟨[105,105,111,111,105,105,111,111]⟩⟩
noncomputable def mt:Str:=⟨⟨[105,105,111,111,105,111,105,111]⟩⟩
noncomputable def nz:Str:=⟨⟨[105,111,105,105,105,111,111,111]⟩⟩
noncomputable def kW:Str:=⟨⟨[105,111,105,105,111,105,111,111]⟩⟩
noncomputable def lu:Str:=⟨⟨[105,111,105,105,111,111,105,111]⟩⟩
noncomputable def nU:Str:=⟨⟨[105,111,105,111,105,105,111,111]⟩⟩
noncomputable def gp:Str:=⟨⟨[105,111,105,111,105,111,105,111]⟩⟩
noncomputable def Ey:PC:=fun ad t=>(.call (.ref 869) ⟨[],[]⟩)
noncomputable def NY:PO:=fun P ad t=>[]
noncomputable def DN:PS:=fun P gl ad t=>bW (NY P ad t) [] [fun l=>(O (.type "list") none (.seq ⟨[.str ku (gx l 1),.str m6 (gx l 2),.str kV (gx l 3),.str kl (gx l 4),.str nN (gx l 5),.str n7 (gx l 6),.str mG (gx l 7),.str lP (gx l 8),.str mt (gx l 9),.str nz (gx l 10),.str kW (gx l 11),.str lu (gx l 12),.str nU (gx l 13),.str gp (gx l 14)]⟩ 14) ⟨[]⟩)] 14 (fun l=> .ok (.ret (.ref (gx l 0)))) gl
noncomputable def Gr(obs:LL)(c:Code):LN:=[]
noncomputable def P0(r:Re)(T:BT)(xl:LN):LN:=[aY T 32 0,aY T 32 1,aY T 32 2,aY T 32 3,aY T 32 4,aY T 32 5,aY T 32 6,aY T 32 7,aY T 32 8,aY T 32 9,aY T 32 10,aY T 32 11,aY T 32 12,aY T 32 13]
theorem WB(w:Wd)(os:OS)(gl:LG)(t:NN):SA w os 480 Ey (DN w.params gl) [] t:=
 aq (av w) (hdp:=510) (U:={hs:=[],ks:=[],sam:=[],fa:=[],fb:=[],f3:=[]}) ⟨ak,ak,al,(fun _ h=>nomatch h),(fun _ h=>nomatch h),(fun _ h=>nomatch h)⟩ [32] P0 5624 (J [[0,0],ō1,[1],q5,[3,3,0,3],fP,[3,1,0,3],fP,[3,4,0,4,0],gA,AE,[4],ō4,pQ,[2,2,1,0,2,0,6,0,6,0,6,0,6,6,2,6,6],zg,[5,5,5,5],bP,xO,dQ,bP,[6,0,6,0,6,6,2,6,6,8,0],pq,[5,5,1,0,5],sK,sK,[10,5],fC,zg,ir,bP,[9,0,9,9,9],zf,ir,bP,[9,0,9,9,9],sK,ō5,[10,5],fC,[12,0],pq,[9,9,1,0,9,0,14,0],v8,[9],fo,zg,iw,bP,rT,[13],zf,iw,bP,rT,[13,0],v8,[9],fo,zg,iw,bP,rT,[13],dQ,bP,v8,[9],fo,[16,0],pq,iQ,[1,0,13,0,18,0,18,0,18,0],GA,GA,GA,[18,18,13,18,18,20,0],pq,fU,[1,0,17,0,22,0,22,0,22,0],d8,[17],d8,AC,BO,zf,BO,zf,BO,dQ,bP,JD,zf,BO,dQ,bP,oD,[17],d8,[24,0],pq,sL,[1,0,21,0,26,0,26,0,26,0,26,26,21,26,26],AC,ym,AC,xi,ym,AC,xi,xi,ym,AC,xi,xi,ym,[28,0],pq,[25,25,1,0,25],wI,wI,[30],y5,y5,ER,ER,E1,[30],y5,ER,E1,[30,25,30,30,32,0],pq,[29,29,1,0,29,0,34,0,34,0,34,0],DF,DF,DF,vF,vF,[34,34,29,34,34,36,0],eq,[0,4,0],gA,[4,38,0,1]])
noncomputable def FO(P:Pm)(slots:LN):Hk:=⟨slots,fun ad obs c=>Ey ad (gx (Gr obs c)),fun gl ad obs c=>DN P gl ad (gx (Gr obs c)),aC⟩
theorem Jn(w:Wd)(os:OS){slots:LN}(hn:slots.Nodup:=by decide){hdp:Nat}(hdpL:hdp≤480:=by decide):Hk.Ok (bs w.params w.params) w os hdp (FO w.params slots):=⟨hn,fun gl ad obs c=>aE hdpL (by
 intro s K g hL
 have hL':ad.length=0:=hL
 obtain rfl:ad=[]:=List.length_eq_zero_iff.mp hL'
 exact WB w os gl _ s K g hL)⟩
noncomputable def zr:Fac2:=⟨KG rN (.type "list"),XB rN⟩
theorem ED(a b:Nat):KG rN (.type "list") a b=Ua rN (.type "list") a b:=by kernel_rfl
theorem BA{X Y:Bool}{A B:Sem Fin}(hx:X=true)(s:Bool):ite (((s).or X).or Y=true) A B=A:=by
 subst hx;cases s<;>rfl
theorem cY:∀a b,a≠b→zr.l a b=zr.r a b:=fun a b _=>(ED a b).trans (BA (by kernel_rfl) _)
noncomputable def Pe:Fac2:=⟨KG rS (.type "list"),XB rS⟩
theorem CF(a b:Nat):KG rS (.type "list") a b=Ua rS (.type "list") a b:=by kernel_rfl
theorem ID:∀a b,a≠b→Pe.l a b=Pe.r a b:=fun a b _=>(CF a b).trans (BA (by kernel_rfl) _)
section
variable(w:Wd)(os:OS)
noncomputable def JG(c0 c1 c2 c3:Nat):PC:=fun ad t=>(.call (.ref 876) ⟨[.str ku (t 0),.ref (gx ad 0)],[]⟩)
noncomputable def Um(c0 c1 c2 c3:Nat):PO:=fun P ad t=>[(O (.type "list") none (.seq ⟨[.str ⟨⟨[c0]⟩⟩ (t 1),.str ⟨⟨[c1]⟩⟩ (t 2),.str ⟨⟨[c2]⟩⟩ (t 3),.str ⟨⟨[c3]⟩⟩ (t 4)]⟩ (t 5)) ⟨[]⟩)]
noncomputable def Kd(c0 c1 c2 c3:Nat):PS:=fun P gl ad t=>bW (Um c0 c1 c2 c3 P ad t) [] [] 1 (fun l=> .ok (.ret (.str ⟨⟨[c3,c2,c1,c0]⟩⟩ (gx l 0)))) gl
noncomputable def Kf(obs:LL)(c:Code):LN:=[bz (b_ c 0),aJ obs 0 0,aJ obs 0 1,aJ obs 0 2,aJ obs 0 3,bO (gO obs 0)]
noncomputable def TM(r:Re)(T:BT)(xl:LN):LN:=[bz (dC r)]
theorem gv0(c0 c1 c2 c3 a0:Nat)(gl:LG)(t:NN):SA w os 450 (JG c0 c1 c2 c3) (Kd c0 c1 c2 c3 w.params gl) [a0] t:=
 aq (av w) (hdp:=490) (U:={hs:=[(aB (dX w.params [])),(aB (bL w.params 0 [] [2,3,5])),(aB (bL w.params 1 [] [2,3,5])),(aB (bL w.params 2 [] [2,3,5])),(aB (bL w.params 3 [] [2,3,5])),(aB (bK w.params 3 [] [2,3,5])),(aB (bK w.params 2 [] [2,3,5])),(aB (bK w.params 1 [] [2,3,5])),(aB (bK w.params 0 [] [2,3,5])),(aB (dY 8 w.params [2,3,5,4,7,6]))],ks:=[],sam:=[],fa:=[],fb:=[zr],f3:=[]}) ⟨(ac (ae (cX w os)) (ac (ae (bB w os (by simp))) (ac (ae (bB w os (by simp))) (ac (ae (bB w os (by simp))) (ac (ae (bB w os (by simp))) (ac (ae (bC w os (by simp))) (ac (ae (bC w os (by simp))) (ac (ae (bC w os (by simp))) (ac (ae (bC w os (by simp))) (ac (ae (c5 w os 8)) ak)))))))))),ak,al,(fun _ h=>nomatch h),(b4 cY cV),(fun _ h=>nomatch h)⟩ [] TM 690 (J [we,wx,Aj,ir,[0,4],F1,[6],iX,[7],iX,[8],iX,[9],BS,CN,[4],ō5,[2]])
noncomputable def Ko(c0 c1 c2 c3:Nat)(P:Pm)(slots:LN):Hk:=⟨slots,fun ad obs c=>JG c0 c1 c2 c3 ad (gx (Kf obs c)),fun gl ad obs c=>Kd c0 c1 c2 c3 P gl ad (gx (Kf obs c)),aC⟩
theorem My(w:Wd)(os:OS)(c0 c1 c2 c3:Nat){slots:LN}(hn:slots.Nodup:=by decide){hdp:Nat}(hdpL:hdp≤450:=by decide):Hk.Ok (bs w.params w.params) w os hdp (Ko c0 c1 c2 c3 w.params slots):=⟨hn,fun gl ad obs c=>aE hdpL (by
 intro s K g hL
 have hL':ad.length=1:=hL
 obtain⟨y9,hf9⟩:=J_ hL'
 have hf9:ad=[y9 0]:=hf9
 subst hf9
 exact gv0 w os _ _ _ _ _ gl _ s K g hL)⟩
noncomputable def Km(c0 c1 c2 c3:Nat):PC:=fun ad t=>(.call (.ref 876) ⟨[.str m6 (t 0),.ref (gx ad 0)],[]⟩)
noncomputable def SR(c0 c1 c2 c3:Nat):PO:=fun P ad t=>[(O (.type "list") none (.seq ⟨[.str ⟨⟨[c0]⟩⟩ (t 1),.str ⟨⟨[c1]⟩⟩ (t 2),.str ⟨⟨[c2]⟩⟩ (t 3),.str ⟨⟨[c3]⟩⟩ (t 4)]⟩ (t 5)) ⟨[]⟩)]
noncomputable def Lt(c0 c1 c2 c3:Nat):PS:=fun P gl ad t=>bW (SR c0 c1 c2 c3 P ad t) [] [] 1 (fun l=> .ok (.ret (.str ⟨⟨[c2,c3,c1,c0]⟩⟩ (gx l 0)))) gl
noncomputable def Lk(obs:LL)(c:Code):LN:=[bz (b_ c 0),aJ obs 0 0,aJ obs 0 1,aJ obs 0 2,aJ obs 0 3,bO (gO obs 0)]
noncomputable def R_(r:Re)(T:BT)(xl:LN):LN:=[bz (dC r)]
theorem gv1(c0 c1 c2 c3 a0:Nat)(gl:LG)(t:NN):SA w os 450 (Km c0 c1 c2 c3) (Lt c0 c1 c2 c3 w.params gl) [a0] t:=
 aq (av w) (hdp:=490) (U:={hs:=[(aB (dX w.params [])),(aB (bL w.params 0 [] [2,3,5])),(aB (bL w.params 1 [] [2,3,5])),(aB (bL w.params 2 [] [2,3,5])),(aB (bK w.params 2 [] [2,3,5])),(aB (bK w.params 1 [] [2,3,5])),(aB (bK w.params 0 [] [2,3,5])),(aB (dY 8 w.params [2,3,5,4,7,6]))],ks:=[],sam:=[],fa:=[],fb:=[zr],f3:=[]}) ⟨(ac (ae (cX w os)) (ac (ae (bB w os (by simp))) (ac (ae (bB w os (by simp))) (ac (ae (bB w os (by simp))) (ac (ae (bC w os (by simp))) (ac (ae (bC w os (by simp))) (ac (ae (bC w os (by simp))) (ac (ae (c5 w os 8)) ak)))))))),ak,al,(fun _ h=>nomatch h),(b4 cY cV),(fun _ h=>nomatch h)⟩ [] R_ 690 (J [we,wx,E4,gB,v9,[6],iX,[7],xX])
noncomputable def KO(c0 c1 c2 c3:Nat)(P:Pm)(slots:LN):Hk:=⟨slots,fun ad obs c=>Km c0 c1 c2 c3 ad (gx (Lk obs c)),fun gl ad obs c=>Lt c0 c1 c2 c3 P gl ad (gx (Lk obs c)),aC⟩
theorem O6(w:Wd)(os:OS)(c0 c1 c2 c3:Nat){slots:LN}(hn:slots.Nodup:=by decide){hdp:Nat}(hdpL:hdp≤450:=by decide):Hk.Ok (bs w.params w.params) w os hdp (KO c0 c1 c2 c3 w.params slots):=⟨hn,fun gl ad obs c=>aE hdpL (by
 intro s K g hL
 have hL':ad.length=1:=hL
 obtain⟨y9,hf9⟩:=J_ hL'
 have hf9:ad=[y9 0]:=hf9
 subst hf9
 exact gv1 w os _ _ _ _ _ gl _ s K g hL)⟩
noncomputable def K5(c0 c1 c2 c3:Nat):PC:=fun ad t=>(.call (.ref 876) ⟨[.str kV (t 0),.ref (gx ad 0)],[]⟩)
noncomputable def Tp(c0 c1 c2 c3:Nat):PO:=fun P ad t=>[(O (.type "list") none (.seq ⟨[.str ⟨⟨[c0]⟩⟩ (t 1),.str ⟨⟨[c1]⟩⟩ (t 2),.str ⟨⟨[c2]⟩⟩ (t 3),.str ⟨⟨[c3]⟩⟩ (t 4)]⟩ (t 5)) ⟨[]⟩)]
noncomputable def J7(c0 c1 c2 c3:Nat):PS:=fun P gl ad t=>bW (Tp c0 c1 c2 c3 P ad t) [] [] 1 (fun l=> .ok (.ret (.str ⟨⟨[c2,c1,c3,c0]⟩⟩ (gx l 0)))) gl
noncomputable def LD(obs:LL)(c:Code):LN:=[bz (b_ c 0),aJ obs 0 0,aJ obs 0 1,aJ obs 0 2,aJ obs 0 3,bO (gO obs 0)]
noncomputable def RM(r:Re)(T:BT)(xl:LN):LN:=[bz (dC r)]
theorem gv2(c0 c1 c2 c3 a0:Nat)(gl:LG)(t:NN):SA w os 450 (K5 c0 c1 c2 c3) (J7 c0 c1 c2 c3 w.params gl) [a0] t:=
 aq (av w) (hdp:=490) (U:={hs:=[(aB (dX w.params [])),(aB (bL w.params 0 [] [2,3,5])),(aB (bL w.params 1 [] [2,3,5])),(aB (bL w.params 2 [] [2,3,5])),(aB (bK w.params 2 [] [2,3,5])),(aB (bK w.params 1 [] [2,3,5])),(aB (bK w.params 0 [] [2,3,5])),(aB (dY 8 w.params [2,3,5,4,7,6]))],ks:=[],sam:=[],fa:=[],fb:=[zr],f3:=[]}) ⟨(ac (ae (cX w os)) (ac (ae (bB w os (by simp))) (ac (ae (bB w os (by simp))) (ac (ae (bB w os (by simp))) (ac (ae (bC w os (by simp))) (ac (ae (bC w os (by simp))) (ac (ae (bC w os (by simp))) (ac (ae (c5 w os 8)) ak)))))))),ak,al,(fun _ h=>nomatch h),(b4 cY cV),(fun _ h=>nomatch h)⟩ [] RM 690 (J [we,wx,v9,[6],gB,wx,fO,[6],iX,[7],xX])
noncomputable def Ld(c0 c1 c2 c3:Nat)(P:Pm)(slots:LN):Hk:=⟨slots,fun ad obs c=>K5 c0 c1 c2 c3 ad (gx (LD obs c)),fun gl ad obs c=>J7 c0 c1 c2 c3 P gl ad (gx (LD obs c)),aC⟩
theorem NV(w:Wd)(os:OS)(c0 c1 c2 c3:Nat){slots:LN}(hn:slots.Nodup:=by decide){hdp:Nat}(hdpL:hdp≤450:=by decide):Hk.Ok (bs w.params w.params) w os hdp (Ld c0 c1 c2 c3 w.params slots):=⟨hn,fun gl ad obs c=>aE hdpL (by
 intro s K g hL
 have hL':ad.length=1:=hL
 obtain⟨y9,hf9⟩:=J_ hL'
 have hf9:ad=[y9 0]:=hf9
 subst hf9
 exact gv2 w os _ _ _ _ _ gl _ s K g hL)⟩
noncomputable def KC(c0 c1 c2 c3:Nat):PC:=fun ad t=>(.call (.ref 876) ⟨[.str kl (t 0),.ref (gx ad 0)],[]⟩)
noncomputable def Sd(c0 c1 c2 c3:Nat):PO:=fun P ad t=>[(O (.type "list") none (.seq ⟨[.str ⟨⟨[c0]⟩⟩ (t 1),.str ⟨⟨[c1]⟩⟩ (t 2),.str ⟨⟨[c2]⟩⟩ (t 3),.str ⟨⟨[c3]⟩⟩ (t 4)]⟩ (t 5)) ⟨[]⟩)]
noncomputable def JJ(c0 c1 c2 c3:Nat):PS:=fun P gl ad t=>bW (Sd c0 c1 c2 c3 P ad t) [] [] 1 (fun l=> .ok (.ret (.str ⟨⟨[c2,c1,c0,c3]⟩⟩ (gx l 0)))) gl
noncomputable def JV(obs:LL)(c:Code):LN:=[bz (b_ c 0),aJ obs 0 0,aJ obs 0 1,aJ obs 0 2,aJ obs 0 3,bO (gO obs 0)]
noncomputable def QS(r:Re)(T:BT)(xl:LN):LN:=[bz (dC r)]
theorem gv3(c0 c1 c2 c3 a0:Nat)(gl:LG)(t:NN):SA w os 450 (KC c0 c1 c2 c3) (JJ c0 c1 c2 c3 w.params gl) [a0] t:=
 aq (av w) (hdp:=490) (U:={hs:=[(aB (dX w.params [])),(aB (bL w.params 0 [] [2,3,5])),(aB (bL w.params 1 [] [2,3,5])),(aB (bL w.params 2 [] [2,3,5])),(aB (bK w.params 2 [] [2,3,5])),(aB (bK w.params 1 [] [2,3,5])),(aB (bK w.params 0 [] [2,3,5])),(aB (dY 8 w.params [2,3,5,4,7,6]))],ks:=[],sam:=[],fa:=[],fb:=[zr],f3:=[]}) ⟨(ac (ae (cX w os)) (ac (ae (bB w os (by simp))) (ac (ae (bB w os (by simp))) (ac (ae (bB w os (by simp))) (ac (ae (bC w os (by simp))) (ac (ae (bC w os (by simp))) (ac (ae (bC w os (by simp))) (ac (ae (c5 w os 8)) ak)))))))),ak,al,(fun _ h=>nomatch h),(b4 cY cV),(fun _ h=>nomatch h)⟩ [] QS 690 (J [we,wx,v9,[6],iX,[7],gJ,fO,[7],xX])
noncomputable def KU(c0 c1 c2 c3:Nat)(P:Pm)(slots:LN):Hk:=⟨slots,fun ad obs c=>KC c0 c1 c2 c3 ad (gx (JV obs c)),fun gl ad obs c=>JJ c0 c1 c2 c3 P gl ad (gx (JV obs c)),aC⟩
theorem Mk(w:Wd)(os:OS)(c0 c1 c2 c3:Nat){slots:LN}(hn:slots.Nodup:=by decide){hdp:Nat}(hdpL:hdp≤450:=by decide):Hk.Ok (bs w.params w.params) w os hdp (KU c0 c1 c2 c3 w.params slots):=⟨hn,fun gl ad obs c=>aE hdpL (by
 intro s K g hL
 have hL':ad.length=1:=hL
 obtain⟨y9,hf9⟩:=J_ hL'
 have hf9:ad=[y9 0]:=hf9
 subst hf9
 exact gv3 w os _ _ _ _ _ gl _ s K g hL)⟩
noncomputable def JY(c0 c1 c2 c3:Nat):PC:=fun ad t=>(.call (.ref 876) ⟨[.str nN (t 0),.ref (gx ad 0)],[]⟩)
noncomputable def UL(c0 c1 c2 c3:Nat):PO:=fun P ad t=>[(O (.type "list") none (.seq ⟨[.str ⟨⟨[c0]⟩⟩ (t 1),.str ⟨⟨[c1]⟩⟩ (t 2),.str ⟨⟨[c2]⟩⟩ (t 3),.str ⟨⟨[c3]⟩⟩ (t 4)]⟩ (t 5)) ⟨[]⟩)]
noncomputable def Jz(c0 c1 c2 c3:Nat):PS:=fun P gl ad t=>bW (UL c0 c1 c2 c3 P ad t) [] [] 1 (fun l=> .ok (.ret (.str ⟨⟨[c1,c3,c2,c0]⟩⟩ (gx l 0)))) gl
noncomputable def Kx(obs:LL)(c:Code):LN:=[bz (b_ c 0),aJ obs 0 0,aJ obs 0 1,aJ obs 0 2,aJ obs 0 3,bO (gO obs 0)]
noncomputable def Uu(r:Re)(T:BT)(xl:LN):LN:=[bz (dC r)]
theorem gv4(c0 c1 c2 c3 a0:Nat)(gl:LG)(t:NN):SA w os 450 (JY c0 c1 c2 c3) (Jz c0 c1 c2 c3 w.params gl) [a0] t:=
 aq (av w) (hdp:=490) (U:={hs:=[(aB (dX w.params [])),(aB (bL w.params 0 [] [2,3,5])),(aB (bL w.params 1 [] [2,3,5])),(aB (bK w.params 1 [] [2,3,5])),(aB (bL w.params 2 [] [2,3,5])),(aB (bK w.params 2 [] [2,3,5])),(aB (bK w.params 0 [] [2,3,5])),(aB (dY 8 w.params [2,3,5,4,7,6]))],ks:=[],sam:=[],fa:=[],fb:=[zr],f3:=[]}) ⟨(ac (ae (cX w os)) (ac (ae (bB w os (by simp))) (ac (ae (bB w os (by simp))) (ac (ae (bC w os (by simp))) (ac (ae (bB w os (by simp))) (ac (ae (bC w os (by simp))) (ac (ae (bC w os (by simp))) (ac (ae (c5 w os 8)) ak)))))))),ak,al,(fun _ h=>nomatch h),(b4 cY cV),(fun _ h=>nomatch h)⟩ [] Uu 690 (J [x_,gB,wx,F1,[6],iX,[4],iX,[7],xX])
noncomputable def Lv(c0 c1 c2 c3:Nat)(P:Pm)(slots:LN):Hk:=⟨slots,fun ad obs c=>JY c0 c1 c2 c3 ad (gx (Kx obs c)),fun gl ad obs c=>Jz c0 c1 c2 c3 P gl ad (gx (Kx obs c)),aC⟩
theorem PT(w:Wd)(os:OS)(c0 c1 c2 c3:Nat){slots:LN}(hn:slots.Nodup:=by decide){hdp:Nat}(hdpL:hdp≤450:=by decide):Hk.Ok (bs w.params w.params) w os hdp (Lv c0 c1 c2 c3 w.params slots):=⟨hn,fun gl ad obs c=>aE hdpL (by
 intro s K g hL
 have hL':ad.length=1:=hL
 obtain⟨y9,hf9⟩:=J_ hL'
 have hf9:ad=[y9 0]:=hf9
 subst hf9
 exact gv4 w os _ _ _ _ _ gl _ s K g hL)⟩
noncomputable def Kw(c0 c1 c2 c3:Nat):PC:=fun ad t=>(.call (.ref 876) ⟨[.str n7 (t 0),.ref (gx ad 0)],[]⟩)
noncomputable def Sq(c0 c1 c2 c3:Nat):PO:=fun P ad t=>[(O (.type "list") none (.seq ⟨[.str ⟨⟨[c0]⟩⟩ (t 1),.str ⟨⟨[c1]⟩⟩ (t 2),.str ⟨⟨[c2]⟩⟩ (t 3),.str ⟨⟨[c3]⟩⟩ (t 4)]⟩ (t 5)) ⟨[]⟩)]
noncomputable def JC(c0 c1 c2 c3:Nat):PS:=fun P gl ad t=>bW (Sq c0 c1 c2 c3 P ad t) [] [] 1 (fun l=> .ok (.ret (.str ⟨⟨[c1,c2,c3,c0]⟩⟩ (gx l 0)))) gl
noncomputable def Kl(obs:LL)(c:Code):LN:=[bz (b_ c 0),aJ obs 0 0,aJ obs 0 1,aJ obs 0 2,aJ obs 0 3,bO (gO obs 0)]
noncomputable def UT(r:Re)(T:BT)(xl:LN):LN:=[bz (dC r)]
theorem gv5(c0 c1 c2 c3 a0:Nat)(gl:LG)(t:NN):SA w os 450 (Kw c0 c1 c2 c3) (JC c0 c1 c2 c3 w.params gl) [a0] t:=
 aq (av w) (hdp:=490) (U:={hs:=[(aB (dX w.params [])),(aB (bL w.params 0 [] [2,3,5])),(aB (bL w.params 1 [] [2,3,5])),(aB (bK w.params 1 [] [2,3,5])),(aB (bK w.params 0 [] [2,3,5])),(aB (dY 8 w.params [2,3,5,4,7,6]))],ks:=[],sam:=[],fa:=[],fb:=[zr],f3:=[]}) ⟨(ac (ae (cX w os)) (ac (ae (bB w os (by simp))) (ac (ae (bB w os (by simp))) (ac (ae (bC w os (by simp))) (ac (ae (bC w os (by simp))) (ac (ae (c5 w os 8)) ak)))))),ak,al,(fun _ h=>nomatch h),(b4 cY cV),(fun _ h=>nomatch h)⟩ [] UT 690 (J [x_,gB,wx,fO,[4],gB,E0,pS])
noncomputable def KV(c0 c1 c2 c3:Nat)(P:Pm)(slots:LN):Hk:=⟨slots,fun ad obs c=>Kw c0 c1 c2 c3 ad (gx (Kl obs c)),fun gl ad obs c=>JC c0 c1 c2 c3 P gl ad (gx (Kl obs c)),aC⟩
theorem MK(w:Wd)(os:OS)(c0 c1 c2 c3:Nat){slots:LN}(hn:slots.Nodup:=by decide){hdp:Nat}(hdpL:hdp≤450:=by decide):Hk.Ok (bs w.params w.params) w os hdp (KV c0 c1 c2 c3 w.params slots):=⟨hn,fun gl ad obs c=>aE hdpL (by
 intro s K g hL
 have hL':ad.length=1:=hL
 obtain⟨y9,hf9⟩:=J_ hL'
 have hf9:ad=[y9 0]:=hf9
 subst hf9
 exact gv5 w os _ _ _ _ _ gl _ s K g hL)⟩
noncomputable def K_(c0 c1 c2 c3:Nat):PC:=fun ad t=>(.call (.ref 876) ⟨[.str mG (t 0),.ref (gx ad 0)],[]⟩)
noncomputable def Q8(c0 c1 c2 c3:Nat):PO:=fun P ad t=>[(O (.type "list") none (.seq ⟨[.str ⟨⟨[c0]⟩⟩ (t 1),.str ⟨⟨[c1]⟩⟩ (t 2),.str ⟨⟨[c2]⟩⟩ (t 3),.str ⟨⟨[c3]⟩⟩ (t 4)]⟩ (t 5)) ⟨[]⟩)]
noncomputable def KF(c0 c1 c2 c3:Nat):PS:=fun P gl ad t=>bW (Q8 c0 c1 c2 c3 P ad t) [] [] 1 (fun l=> .ok (.ret (.str ⟨⟨[c1,c2,c0,c3]⟩⟩ (gx l 0)))) gl
noncomputable def J9(obs:LL)(c:Code):LN:=[bz (b_ c 0),aJ obs 0 0,aJ obs 0 1,aJ obs 0 2,aJ obs 0 3,bO (gO obs 0)]
noncomputable def Uw(r:Re)(T:BT)(xl:LN):LN:=[bz (dC r)]
theorem gv6(c0 c1 c2 c3 a0:Nat)(gl:LG)(t:NN):SA w os 450 (K_ c0 c1 c2 c3) (KF c0 c1 c2 c3 w.params gl) [a0] t:=
 aq (av w) (hdp:=490) (U:={hs:=[(aB (dX w.params [])),(aB (bL w.params 0 [] [2,3,5])),(aB (bL w.params 1 [] [2,3,5])),(aB (bK w.params 1 [] [2,3,5])),(aB (bK w.params 0 [] [2,3,5])),(aB (dY 8 w.params [2,3,5,4,7,6]))],ks:=[],sam:=[],fa:=[],fb:=[zr],f3:=[]}) ⟨(ac (ae (cX w os)) (ac (ae (bB w os (by simp))) (ac (ae (bB w os (by simp))) (ac (ae (bC w os (by simp))) (ac (ae (bC w os (by simp))) (ac (ae (c5 w os 8)) ak)))))),ak,al,(fun _ h=>nomatch h),(b4 cY cV),(fun _ h=>nomatch h)⟩ [] Uw 690 (J [x_,gB,E0,gJ,fO,[5],pS])
noncomputable def Kb(c0 c1 c2 c3:Nat)(P:Pm)(slots:LN):Hk:=⟨slots,fun ad obs c=>K_ c0 c1 c2 c3 ad (gx (J9 obs c)),fun gl ad obs c=>KF c0 c1 c2 c3 P gl ad (gx (J9 obs c)),aC⟩
theorem MM(w:Wd)(os:OS)(c0 c1 c2 c3:Nat){slots:LN}(hn:slots.Nodup:=by decide){hdp:Nat}(hdpL:hdp≤450:=by decide):Hk.Ok (bs w.params w.params) w os hdp (Kb c0 c1 c2 c3 w.params slots):=⟨hn,fun gl ad obs c=>aE hdpL (by
 intro s K g hL
 have hL':ad.length=1:=hL
 obtain⟨y9,hf9⟩:=J_ hL'
 have hf9:ad=[y9 0]:=hf9
 subst hf9
 exact gv6 w os _ _ _ _ _ gl _ s K g hL)⟩
noncomputable def JK(c0 c1 c2 c3:Nat):PC:=fun ad t=>(.call (.ref 876) ⟨[.str lP (t 0),.ref (gx ad 0)],[]⟩)
noncomputable def QU(c0 c1 c2 c3:Nat):PO:=fun P ad t=>[(O (.type "list") none (.seq ⟨[.str ⟨⟨[c0]⟩⟩ (t 1),.str ⟨⟨[c1]⟩⟩ (t 2),.str ⟨⟨[c2]⟩⟩ (t 3),.str ⟨⟨[c3]⟩⟩ (t 4)]⟩ (t 5)) ⟨[]⟩)]
noncomputable def Lb(c0 c1 c2 c3:Nat):PS:=fun P gl ad t=>bW (QU c0 c1 c2 c3 P ad t) [] [] 1 (fun l=> .ok (.ret (.str ⟨⟨[c1,c0,c3,c2]⟩⟩ (gx l 0)))) gl
noncomputable def Kn(obs:LL)(c:Code):LN:=[bz (b_ c 0),aJ obs 0 0,aJ obs 0 1,aJ obs 0 2,aJ obs 0 3,bO (gO obs 0)]
noncomputable def QO(r:Re)(T:BT)(xl:LN):LN:=[bz (dC r)]
theorem gv7(c0 c1 c2 c3 a0:Nat)(gl:LG)(t:NN):SA w os 450 (JK c0 c1 c2 c3) (Lb c0 c1 c2 c3 w.params gl) [a0] t:=
 aq (av w) (hdp:=490) (U:={hs:=[(aB (dX w.params [])),(aB (bL w.params 0 [] [2,3,5])),(aB (bL w.params 1 [] [2,3,5])),(aB (bK w.params 1 [] [2,3,5])),(aB (bK w.params 0 [] [2,3,5])),(aB (dY 8 w.params [2,3,5,4,7,6]))],ks:=[],sam:=[],fa:=[],fb:=[zr],f3:=[]}) ⟨(ac (ae (cX w os)) (ac (ae (bB w os (by simp))) (ac (ae (bB w os (by simp))) (ac (ae (bC w os (by simp))) (ac (ae (bC w os (by simp))) (ac (ae (c5 w os 8)) ak)))))),ak,al,(fun _ h=>nomatch h),(b4 cY cV),(fun _ h=>nomatch h)⟩ [] QO 690 (J [x_,iX,[5],gJ,E0,pS])
noncomputable def Ki(c0 c1 c2 c3:Nat)(P:Pm)(slots:LN):Hk:=⟨slots,fun ad obs c=>JK c0 c1 c2 c3 ad (gx (Kn obs c)),fun gl ad obs c=>Lb c0 c1 c2 c3 P gl ad (gx (Kn obs c)),aC⟩
theorem Ny(w:Wd)(os:OS)(c0 c1 c2 c3:Nat){slots:LN}(hn:slots.Nodup:=by decide){hdp:Nat}(hdpL:hdp≤450:=by decide):Hk.Ok (bs w.params w.params) w os hdp (Ki c0 c1 c2 c3 w.params slots):=⟨hn,fun gl ad obs c=>aE hdpL (by
 intro s K g hL
 have hL':ad.length=1:=hL
 obtain⟨y9,hf9⟩:=J_ hL'
 have hf9:ad=[y9 0]:=hf9
 subst hf9
 exact gv7 w os _ _ _ _ _ gl _ s K g hL)⟩
noncomputable def Ke(c0 c1 c2 c3:Nat):PC:=fun ad t=>(.call (.ref 876) ⟨[.str mt (t 0),.ref (gx ad 0)],[]⟩)
noncomputable def Uj(c0 c1 c2 c3:Nat):PO:=fun P ad t=>[(O (.type "list") none (.seq ⟨[.str ⟨⟨[c0]⟩⟩ (t 1),.str ⟨⟨[c1]⟩⟩ (t 2),.str ⟨⟨[c2]⟩⟩ (t 3),.str ⟨⟨[c3]⟩⟩ (t 4)]⟩ (t 5)) ⟨[]⟩)]
noncomputable def J4(c0 c1 c2 c3:Nat):PS:=fun P gl ad t=>bW (Uj c0 c1 c2 c3 P ad t) [] [] 1 (fun l=> .ok (.ret (.str ⟨⟨[c1,c0,c2,c3]⟩⟩ (gx l 0)))) gl
noncomputable def Jy(obs:LL)(c:Code):LN:=[bz (b_ c 0),aJ obs 0 0,aJ obs 0 1,aJ obs 0 2,aJ obs 0 3,bO (gO obs 0)]
noncomputable def QZ(r:Re)(T:BT)(xl:LN):LN:=[bz (dC r)]
theorem gv8(c0 c1 c2 c3 a0:Nat)(gl:LG)(t:NN):SA w os 450 (Ke c0 c1 c2 c3) (J4 c0 c1 c2 c3 w.params gl) [a0] t:=
 aq (av w) (hdp:=490) (U:={hs:=[(aB (dX w.params [])),(aB (bL w.params 0 [] [2,3,5])),(aB (bL w.params 1 [] [2,3,5])),(aB (bK w.params 1 [] [2,3,5])),(aB (bK w.params 0 [] [2,3,5])),(aB (dY 8 w.params [2,3,5,4,7,6]))],ks:=[],sam:=[],fa:=[],fb:=[zr],f3:=[]}) ⟨(ac (ae (cX w os)) (ac (ae (bB w os (by simp))) (ac (ae (bB w os (by simp))) (ac (ae (bC w os (by simp))) (ac (ae (bC w os (by simp))) (ac (ae (c5 w os 8)) ak)))))),ak,al,(fun _ h=>nomatch h),(b4 cY cV),(fun _ h=>nomatch h)⟩ [] QZ 690 (J [x_,iX,[5],gJ,fO,[5],gJ,fO,[5],pS])
noncomputable def Lm(c0 c1 c2 c3:Nat)(P:Pm)(slots:LN):Hk:=⟨slots,fun ad obs c=>Ke c0 c1 c2 c3 ad (gx (Jy obs c)),fun gl ad obs c=>J4 c0 c1 c2 c3 P gl ad (gx (Jy obs c)),aC⟩
theorem LS(w:Wd)(os:OS)(c0 c1 c2 c3:Nat){slots:LN}(hn:slots.Nodup:=by decide){hdp:Nat}(hdpL:hdp≤450:=by decide):Hk.Ok (bs w.params w.params) w os hdp (Lm c0 c1 c2 c3 w.params slots):=⟨hn,fun gl ad obs c=>aE hdpL (by
 intro s K g hL
 have hL':ad.length=1:=hL
 obtain⟨y9,hf9⟩:=J_ hL'
 have hf9:ad=[y9 0]:=hf9
 subst hf9
 exact gv8 w os _ _ _ _ _ gl _ s K g hL)⟩
noncomputable def Kr(c0 c1 c2 c3:Nat):PC:=fun ad t=>(.call (.ref 876) ⟨[.str nz (t 0),.ref (gx ad 0)],[]⟩)
noncomputable def Sj(c0 c1 c2 c3:Nat):PO:=fun P ad t=>[(O (.type "list") none (.seq ⟨[.str ⟨⟨[c0]⟩⟩ (t 1),.str ⟨⟨[c1]⟩⟩ (t 2),.str ⟨⟨[c2]⟩⟩ (t 3),.str ⟨⟨[c3]⟩⟩ (t 4)]⟩ (t 5)) ⟨[]⟩)]
noncomputable def Kj(c0 c1 c2 c3:Nat):PS:=fun P gl ad t=>bW (Sj c0 c1 c2 c3 P ad t) [] [] 1 (fun l=> .ok (.ret (.str ⟨⟨[c0,c3,c2,c1]⟩⟩ (gx l 0)))) gl
noncomputable def K8(obs:LL)(c:Code):LN:=[bz (b_ c 0),aJ obs 0 0,aJ obs 0 1,aJ obs 0 2,aJ obs 0 3,bO (gO obs 0)]
noncomputable def Sw(r:Re)(T:BT)(xl:LN):LN:=[bz (dC r)]
theorem gv9(c0 c1 c2 c3 a0:Nat)(gl:LG)(t:NN):SA w os 450 (Kr c0 c1 c2 c3) (Kj c0 c1 c2 c3 w.params gl) [a0] t:=
 aq (av w) (hdp:=490) (U:={hs:=[(aB (dX w.params [])),(aB (bL w.params 0 [] [2,3,5])),(aB (bK w.params 0 [] [2,3,5])),(aB (bL w.params 1 [] [2,3,5])),(aB (bL w.params 2 [] [2,3,5])),(aB (bK w.params 2 [] [2,3,5])),(aB (bK w.params 1 [] [2,3,5])),(aB (dY 8 w.params [2,3,5,4,7,6]))],ks:=[],sam:=[],fa:=[],fb:=[zr],f3:=[]}) ⟨(ac (ae (cX w os)) (ac (ae (bB w os (by simp))) (ac (ae (bC w os (by simp))) (ac (ae (bB w os (by simp))) (ac (ae (bB w os (by simp))) (ac (ae (bC w os (by simp))) (ac (ae (bC w os (by simp))) (ac (ae (c5 w os 8)) ak)))))))),ak,al,(fun _ h=>nomatch h),(b4 cY cV),(fun _ h=>nomatch h)⟩ [] Sw 690 (J [yk,Aj,ir,[0,4],F1,[6],iX,[7],iX,[3],xX])
noncomputable def J3(c0 c1 c2 c3:Nat)(P:Pm)(slots:LN):Hk:=⟨slots,fun ad obs c=>Kr c0 c1 c2 c3 ad (gx (K8 obs c)),fun gl ad obs c=>Kj c0 c1 c2 c3 P gl ad (gx (K8 obs c)),aC⟩
theorem PZ(w:Wd)(os:OS)(c0 c1 c2 c3:Nat){slots:LN}(hn:slots.Nodup:=by decide){hdp:Nat}(hdpL:hdp≤450:=by decide):Hk.Ok (bs w.params w.params) w os hdp (J3 c0 c1 c2 c3 w.params slots):=⟨hn,fun gl ad obs c=>aE hdpL (by
 intro s K g hL
 have hL':ad.length=1:=hL
 obtain⟨y9,hf9⟩:=J_ hL'
 have hf9:ad=[y9 0]:=hf9
 subst hf9
 exact gv9 w os _ _ _ _ _ gl _ s K g hL)⟩
noncomputable def E5(c0 c1 c2 c3:Nat):PC:=fun ad t=>(.call (.ref 876) ⟨[.str kW (t 0),.ref (gx ad 0)],[]⟩)
noncomputable def Mt(c0 c1 c2 c3:Nat):PO:=fun P ad t=>[(O (.type "list") none (.seq ⟨[.str ⟨⟨[c0]⟩⟩ (t 1),.str ⟨⟨[c1]⟩⟩ (t 2),.str ⟨⟨[c2]⟩⟩ (t 3),.str ⟨⟨[c3]⟩⟩ (t 4)]⟩ (t 5)) ⟨[]⟩)]
noncomputable def Fo(c0 c1 c2 c3:Nat):PS:=fun P gl ad t=>bW (Mt c0 c1 c2 c3 P ad t) [] [] 1 (fun l=> .ok (.ret (.str ⟨⟨[c0,c2,c3,c1]⟩⟩ (gx l 0)))) gl
noncomputable def Fr(obs:LL)(c:Code):LN:=[bz (b_ c 0),aJ obs 0 0,aJ obs 0 1,aJ obs 0 2,aJ obs 0 3,bO (gO obs 0)]
noncomputable def Mb(r:Re)(T:BT)(xl:LN):LN:=[bz (dC r)]
theorem aab(c0 c1 c2 c3 a0:Nat)(gl:LG)(t:NN):SA w os 450 (E5 c0 c1 c2 c3) (Fo c0 c1 c2 c3 w.params gl) [a0] t:=
 aq (av w) (hdp:=490) (U:={hs:=[(aB (dX w.params [])),(aB (bL w.params 0 [] [2,3,5])),(aB (bK w.params 0 [] [2,3,5])),(aB (bL w.params 1 [] [2,3,5])),(aB (bK w.params 1 [] [2,3,5])),(aB (dY 8 w.params [2,3,5,4,7,6]))],ks:=[],sam:=[],fa:=[],fb:=[zr],f3:=[]}) ⟨(ac (ae (cX w os)) (ac (ae (bB w os (by simp))) (ac (ae (bC w os (by simp))) (ac (ae (bB w os (by simp))) (ac (ae (bC w os (by simp))) (ac (ae (c5 w os 8)) ak)))))),ak,al,(fun _ h=>nomatch h),(b4 cY cV),(fun _ h=>nomatch h)⟩ [] Mb 690 (J [yk,E4,gB,v9,[3],pS])
noncomputable def DK(c0 c1 c2 c3:Nat)(P:Pm)(slots:LN):Hk:=⟨slots,fun ad obs c=>E5 c0 c1 c2 c3 ad (gx (Fr obs c)),fun gl ad obs c=>Fo c0 c1 c2 c3 P gl ad (gx (Fr obs c)),aC⟩
theorem Ho(w:Wd)(os:OS)(c0 c1 c2 c3:Nat){slots:LN}(hn:slots.Nodup:=by decide){hdp:Nat}(hdpL:hdp≤450:=by decide):Hk.Ok (bs w.params w.params) w os hdp (DK c0 c1 c2 c3 w.params slots):=⟨hn,fun gl ad obs c=>aE hdpL (by
 intro s K g hL
 have hL':ad.length=1:=hL
 obtain⟨y9,hf9⟩:=J_ hL'
 have hf9:ad=[y9 0]:=hf9
 subst hf9
 exact aab w os _ _ _ _ _ gl _ s K g hL)⟩
noncomputable def Eh(c0 c1 c2 c3:Nat):PC:=fun ad t=>(.call (.ref 876) ⟨[.str lu (t 0),.ref (gx ad 0)],[]⟩)
noncomputable def O1(c0 c1 c2 c3:Nat):PO:=fun P ad t=>[(O (.type "list") none (.seq ⟨[.str ⟨⟨[c0]⟩⟩ (t 1),.str ⟨⟨[c1]⟩⟩ (t 2),.str ⟨⟨[c2]⟩⟩ (t 3),.str ⟨⟨[c3]⟩⟩ (t 4)]⟩ (t 5)) ⟨[]⟩)]
noncomputable def Ek(c0 c1 c2 c3:Nat):PS:=fun P gl ad t=>bW (O1 c0 c1 c2 c3 P ad t) [] [] 1 (fun l=> .ok (.ret (.str ⟨⟨[c0,c2,c1,c3]⟩⟩ (gx l 0)))) gl
noncomputable def F3(obs:LL)(c:Code):LN:=[bz (b_ c 0),aJ obs 0 0,aJ obs 0 1,aJ obs 0 2,aJ obs 0 3,bO (gO obs 0)]
noncomputable def OP(r:Re)(T:BT)(xl:LN):LN:=[bz (dC r)]
theorem Yh(c0 c1 c2 c3 a0:Nat)(gl:LG)(t:NN):SA w os 450 (Eh c0 c1 c2 c3) (Ek c0 c1 c2 c3 w.params gl) [a0] t:=
 aq (av w) (hdp:=490) (U:={hs:=[(aB (dX w.params [])),(aB (bL w.params 0 [] [2,3,5])),(aB (bK w.params 0 [] [2,3,5])),(aB (bL w.params 1 [] [2,3,5])),(aB (bK w.params 1 [] [2,3,5])),(aB (dY 8 w.params [2,3,5,4,7,6]))],ks:=[],sam:=[],fa:=[],fb:=[zr],f3:=[]}) ⟨(ac (ae (cX w os)) (ac (ae (bB w os (by simp))) (ac (ae (bC w os (by simp))) (ac (ae (bB w os (by simp))) (ac (ae (bC w os (by simp))) (ac (ae (c5 w os 8)) ak)))))),ak,al,(fun _ h=>nomatch h),(b4 cY cV),(fun _ h=>nomatch h)⟩ [] OP 690 (J [yk,v9,[3],gJ,fO,[3],pS])
noncomputable def Ea(c0 c1 c2 c3:Nat)(P:Pm)(slots:LN):Hk:=⟨slots,fun ad obs c=>Eh c0 c1 c2 c3 ad (gx (F3 obs c)),fun gl ad obs c=>Ek c0 c1 c2 c3 P gl ad (gx (F3 obs c)),aC⟩
theorem He(w:Wd)(os:OS)(c0 c1 c2 c3:Nat){slots:LN}(hn:slots.Nodup:=by decide){hdp:Nat}(hdpL:hdp≤450:=by decide):Hk.Ok (bs w.params w.params) w os hdp (Ea c0 c1 c2 c3 w.params slots):=⟨hn,fun gl ad obs c=>aE hdpL (by
 intro s K g hL
 have hL':ad.length=1:=hL
 obtain⟨y9,hf9⟩:=J_ hL'
 have hf9:ad=[y9 0]:=hf9
 subst hf9
 exact Yh w os _ _ _ _ _ gl _ s K g hL)⟩
noncomputable def Fl(c0 c1 c2 c3:Nat):PC:=fun ad t=>(.call (.ref 876) ⟨[.str nU (t 0),.ref (gx ad 0)],[]⟩)
noncomputable def MP(c0 c1 c2 c3:Nat):PO:=fun P ad t=>[(O (.type "list") none (.seq ⟨[.str ⟨⟨[c0]⟩⟩ (t 1),.str ⟨⟨[c1]⟩⟩ (t 2),.str ⟨⟨[c2]⟩⟩ (t 3),.str ⟨⟨[c3]⟩⟩ (t 4)]⟩ (t 5)) ⟨[]⟩)]
noncomputable def F_(c0 c1 c2 c3:Nat):PS:=fun P gl ad t=>bW (MP c0 c1 c2 c3 P ad t) [] [] 1 (fun l=> .ok (.ret (.str ⟨⟨[c0,c1,c3,c2]⟩⟩ (gx l 0)))) gl
noncomputable def D6(obs:LL)(c:Code):LN:=[bz (b_ c 0),aJ obs 0 0,aJ obs 0 1,aJ obs 0 2,aJ obs 0 3,bO (gO obs 0)]
noncomputable def Pp(r:Re)(T:BT)(xl:LN):LN:=[bz (dC r)]
theorem Yj(c0 c1 c2 c3 a0:Nat)(gl:LG)(t:NN):SA w os 450 (Fl c0 c1 c2 c3) (F_ c0 c1 c2 c3 w.params gl) [a0] t:=
 aq (av w) (hdp:=490) (U:={hs:=[(aB (dX w.params [])),(aB (bL w.params 0 [] [2,3,5])),(aB (bK w.params 0 [] [2,3,5])),(aB (bL w.params 1 [] [2,3,5])),(aB (bK w.params 1 [] [2,3,5])),(aB (dY 8 w.params [2,3,5,4,7,6]))],ks:=[],sam:=[],fa:=[],fb:=[zr],f3:=[]}) ⟨(ac (ae (cX w os)) (ac (ae (bB w os (by simp))) (ac (ae (bC w os (by simp))) (ac (ae (bB w os (by simp))) (ac (ae (bC w os (by simp))) (ac (ae (c5 w os 8)) ak)))))),ak,al,(fun _ h=>nomatch h),(b4 cY cV),(fun _ h=>nomatch h)⟩ [] Pp 690 (J [yk,fO,[3],gJ,v9,[3],pS])
noncomputable def EO(c0 c1 c2 c3:Nat)(P:Pm)(slots:LN):Hk:=⟨slots,fun ad obs c=>Fl c0 c1 c2 c3 ad (gx (D6 obs c)),fun gl ad obs c=>F_ c0 c1 c2 c3 P gl ad (gx (D6 obs c)),aC⟩
theorem Jf(w:Wd)(os:OS)(c0 c1 c2 c3:Nat){slots:LN}(hn:slots.Nodup:=by decide){hdp:Nat}(hdpL:hdp≤450:=by decide):Hk.Ok (bs w.params w.params) w os hdp (EO c0 c1 c2 c3 w.params slots):=⟨hn,fun gl ad obs c=>aE hdpL (by
 intro s K g hL
 have hL':ad.length=1:=hL
 obtain⟨y9,hf9⟩:=J_ hL'
 have hf9:ad=[y9 0]:=hf9
 subst hf9
 exact Yj w os _ _ _ _ _ gl _ s K g hL)⟩
noncomputable def FQ(c0 c1 c2 c3:Nat):PC:=fun ad t=>(.call (.ref 876) ⟨[.str gp (t 0),.ref (gx ad 0)],[]⟩)
noncomputable def P6(c0 c1 c2 c3:Nat):PO:=fun P ad t=>[(O (.type "list") none (.seq ⟨[.str ⟨⟨[c0]⟩⟩ (t 1),.str ⟨⟨[c1]⟩⟩ (t 2),.str ⟨⟨[c2]⟩⟩ (t 3),.str ⟨⟨[c3]⟩⟩ (t 4)]⟩ (t 5)) ⟨[]⟩)]
noncomputable def Ds(c0 c1 c2 c3:Nat):PS:=fun P gl ad t=>bW (P6 c0 c1 c2 c3 P ad t) [] [] 1 (fun l=> .ok (.ret (.str ⟨⟨[c0,c1,c2,c3]⟩⟩ (gx l 0)))) gl
noncomputable def E2(obs:LL)(c:Code):LN:=[bz (b_ c 0),aJ obs 0 0,aJ obs 0 1,aJ obs 0 2,aJ obs 0 3,bO (gO obs 0)]
noncomputable def Os(r:Re)(T:BT)(xl:LN):LN:=[bz (dC r)]
theorem Yg(c0 c1 c2 c3 a0:Nat)(gl:LG)(t:NN):SA w os 450 (FQ c0 c1 c2 c3) (Ds c0 c1 c2 c3 w.params gl) [a0] t:=
 aq (av w) (hdp:=490) (U:={hs:=[(aB (dX w.params [])),(aB (bL w.params 0 [] [2,3,5])),(aB (bK w.params 0 [] [2,3,5])),(aB (dY 8 w.params [2,3,5,4,7,6]))],ks:=[],sam:=[],fa:=[],fb:=[zr],f3:=[]}) ⟨(ac (ae (cX w os)) (ac (ae (bB w os (by simp))) (ac (ae (bC w os (by simp))) (ac (ae (c5 w os 8)) ak)))),ak,al,(fun _ h=>nomatch h),(b4 cY cV),(fun _ h=>nomatch h)⟩ [] Os 690 (J [yk,fO,[3],gJ,fO,[3],gJ,fO,[3],BS,CN,[4,0,4,2]])
noncomputable def FW(c0 c1 c2 c3:Nat)(P:Pm)(slots:LN):Hk:=⟨slots,fun ad obs c=>FQ c0 c1 c2 c3 ad (gx (E2 obs c)),fun gl ad obs c=>Ds c0 c1 c2 c3 P gl ad (gx (E2 obs c)),aC⟩
theorem I4(w:Wd)(os:OS)(c0 c1 c2 c3:Nat){slots:LN}(hn:slots.Nodup:=by decide){hdp:Nat}(hdpL:hdp≤450:=by decide):Hk.Ok (bs w.params w.params) w os hdp (FW c0 c1 c2 c3 w.params slots):=⟨hn,fun gl ad obs c=>aE hdpL (by
 intro s K g hL
 have hL':ad.length=1:=hL
 obtain⟨y9,hf9⟩:=J_ hL'
 have hf9:ad=[y9 0]:=hf9
 subst hf9
 exact Yg w os _ _ _ _ _ gl _ s K g hL)⟩
end
noncomputable def y_:Str:=⟨⟨[95,108,97,119,95,103,105,118,101,110]⟩⟩
noncomputable def bf:Str:=⟨⟨(J [[108,97,119],BP])⟩⟩
noncomputable def Tm:Str:=⟨⟨[119,97,121]⟩⟩
noncomputable def GM:Str:=⟨⟨[119,111,114,100,115]⟩⟩
noncomputable def pf:Str:=⟨⟨[46,48]⟩⟩
noncomputable def SQ(c0 c1 c2 c3:Nat):PC:=fun ad t=>(.compStart (d9 [48,6,0]) 0 (.ref (gx ad 0)) (.ref (gx ad 5)) {scope:={c7 [48,6,0] with names:=[(pf,.local),(Tm,.local),(y_,.globalImplicit),(GM,.cell)]},locals:=(gx ad 2),globals:=3,cells:=[(GM,(gx ad 3))],qual:=bf,func:=none,code:=(.ref 880),frame:=(some (t 0)),builtins:=0})
noncomputable def aas(c0 c1 c2 c3:Nat):PO:=fun P ad t=>[(O (.type "list_iterator") none (.fields ⟨[.ref (gx ad 1),.int 0 0]⟩) ⟨[]⟩),(O (.type "list") none (.seq ⟨[.str ku (t 1),.str m6 (t 2),.str kV (t 3),.str kl (t 4),.str nN (t 5),.str n7 (t 6),.str mG (t 7),.str lP (t 8),.str mt (t 9),.str nz (t 10),.str kW (t 11),.str lu (t 12),.str nU (t 13),.str gp (t 14)]⟩ (t 15)) ⟨[]⟩),(O (.type "dict") none (.dict ⟨[]⟩ (t 16)) ⟨[]⟩),(O (.type "cell") none (.cell (some (.ref (gx ad 4)))) ⟨[]⟩),(O (.type "list") none (.seq ⟨[.str ⟨⟨[c0]⟩⟩ (t 17),.str ⟨⟨[c1]⟩⟩ (t 18),.str ⟨⟨[c2]⟩⟩ (t 19),.str ⟨⟨[c3]⟩⟩ (t 20)]⟩ (t 21)) ⟨[]⟩),(O (.type "list") none (.seq ⟨[]⟩ (t 22)) ⟨[]⟩)]
noncomputable def QA(c0 c1 c2 c3:Nat):PS:=fun P gl ad t=>bW (aas c0 c1 c2 c3 P ad t) [(0,fun l=>(O (.type "list_iterator") none (.fields ⟨[.none,.int 14 0]⟩) ⟨[]⟩)),(2,fun l=>(O (.type "dict") none (.dict ⟨[D P Tm (gx l 0) (.str gp (t 14))]⟩ ((t 16)+1)) ⟨[]⟩)),(5,fun l=>(O (.type "list") none (.seq ⟨[.str ⟨⟨[c3,c2,c1,c0]⟩⟩ (gx l 1),.str ⟨⟨[c2,c3,c1,c0]⟩⟩ (gx l 2),.str ⟨⟨[c2,c1,c3,c0]⟩⟩ (gx l 3),.str ⟨⟨[c2,c1,c0,c3]⟩⟩ (gx l 4),.str ⟨⟨[c1,c3,c2,c0]⟩⟩ (gx l 5),.str ⟨⟨[c1,c2,c3,c0]⟩⟩ (gx l 6),.str ⟨⟨[c1,c2,c0,c3]⟩⟩ (gx l 7),.str ⟨⟨[c1,c0,c3,c2]⟩⟩ (gx l 8),.str ⟨⟨[c1,c0,c2,c3]⟩⟩ (gx l 9),.str ⟨⟨[c0,c3,c2,c1]⟩⟩ (gx l 10),.str ⟨⟨[c0,c2,c3,c1]⟩⟩ (gx l 11),.str ⟨⟨[c0,c2,c1,c3]⟩⟩ (gx l 12),.str ⟨⟨[c0,c1,c3,c2]⟩⟩ (gx l 13),.str ⟨⟨[c0,c1,c2,c3]⟩⟩ (gx l 14)]⟩ ((t 22)+14)) ⟨[]⟩))] [] 15 (fun l=> .ok .next) gl
noncomputable def T1(obs:LL)(c:Code):LN:=[Ju c 1,aJ obs 1 0,aJ obs 1 1,aJ obs 1 2,aJ obs 1 3,aJ obs 1 4,aJ obs 1 5,aJ obs 1 6,aJ obs 1 7,aJ obs 1 8,aJ obs 1 9,aJ obs 1 10,aJ obs 1 11,aJ obs 1 12,aJ obs 1 13,bO (gO obs 1),bO (gO obs 2),aJ obs 4 0,aJ obs 4 1,aJ obs 4 2,aJ obs 4 3,bO (gO obs 4),bO (gO obs 5)]
noncomputable def ZU(r:Re)(T:BT)(xl:LN):LN:=[dZ T 2 0,aY T 5 0,aY T 5 1,aY T 5 2,aY T 5 3,aY T 5 4,aY T 5 5,aY T 5 6,aY T 5 7,aY T 5 8,aY T 5 9,aY T 5 10,aY T 5 11,aY T 5 12,aY T 5 13]
theorem gc(w:Wd)(os:OS)(c0 c1 c2 c3 a0 a1 a2 a3 a4 a5:Nat)(gl:LG)(t:NN):SA w os 410 (SQ c0 c1 c2 c3) (QA c0 c1 c2 c3 w.params gl) [a0,a1,a2,a3,a4,a5] t:=
 aq (av w) (hdp:=440) (U:={hs:=[(aB (Ko c0 c1 c2 c3 w.params [4])),(aB (KO c0 c1 c2 c3 w.params [4])),(aB (Ld c0 c1 c2 c3 w.params [4])),(aB (KU c0 c1 c2 c3 w.params [4])),(aB (Lv c0 c1 c2 c3 w.params [4])),(aB (KV c0 c1 c2 c3 w.params [4])),(aB (Kb c0 c1 c2 c3 w.params [4])),(aB (Ki c0 c1 c2 c3 w.params [4])),(aB (Lm c0 c1 c2 c3 w.params [4])),(aB (J3 c0 c1 c2 c3 w.params [4])),(aB (DK c0 c1 c2 c3 w.params [4])),(aB (Ea c0 c1 c2 c3 w.params [4])),(aB (EO c0 c1 c2 c3 w.params [4])),(aB (FW c0 c1 c2 c3 w.params [4]))],ks:=[],sam:=[],fa:=[],fb:=[],f3:=[]}) ⟨(ac (ae (My w os c0 c1 c2 c3)) (ac (ae (O6 w os c0 c1 c2 c3)) (ac (ae (NV w os c0 c1 c2 c3)) (ac (ae (Mk w os c0 c1 c2 c3)) (ac (ae (PT w os c0 c1 c2 c3)) (ac (ae (MK w os c0 c1 c2 c3)) (ac (ae (MM w os c0 c1 c2 c3)) (ac (ae (Ny w os c0 c1 c2 c3)) (ac (ae (LS w os c0 c1 c2 c3)) (ac (ae (PZ w os c0 c1 c2 c3)) (ac (ae (Ho w os c0 c1 c2 c3)) (ac (ae (He w os c0 c1 c2 c3)) (ac (ae (Jf w os c0 c1 c2 c3)) (ac (ae (I4 w os c0 c1 c2 c3)) ak)))))))))))))),ak,al,(fun _ h=>nomatch h),(fun _ h=>nomatch h),(fun _ h=>nomatch h)⟩ [] ZU 548 (J [yD,CQ,[0,3,4,0,1,0],CP,CQ,[0,3,4,0,2,0],fQ,[3,0],fQ,[4,0],fQ,[5,0],fQ,[6,0],fQ,[7,0],fQ,[8,0],fQ,[9,0],CP,CQ,[0,3,4],ō5,[0],fQ,[11,0],fQ,[12,0],fQ,[13,0],fQ,[14,0],CP,[0,1,0],eq,[2,1,1,8]])
noncomputable def SF(c0 c1 c2 c3:Nat)(P:Pm)(slots:LN):Hk:=⟨slots,fun ad obs c=>SQ c0 c1 c2 c3 ad (gx (T1 obs c)),fun gl ad obs c=>QA c0 c1 c2 c3 P gl ad (gx (T1 obs c)),aC⟩
theorem Qw(w:Wd)(os:OS)(c0 c1 c2 c3:Nat){slots:LN}(hn:slots.Nodup:=by decide){hdp:Nat}(hdpL:hdp≤410:=by decide):Hk.Ok (bs w.params w.params) w os hdp (SF c0 c1 c2 c3 w.params slots):=⟨hn,fun gl ad obs c=>aE hdpL (by
 intro s K g hL
 have hL':ad.length=6:=hL
 obtain⟨y9,hf9⟩:=J_ hL'
 have hf9:ad=[y9 0,y9 1,y9 2,y9 3,y9 4,y9 5]:=hf9
 subst hf9
 exact gc w os _ _ _ _ _ _ _ _ _ _ gl _ s K g hL)⟩
noncomputable def yI:Str:=⟨⟨[114,111,119]⟩⟩
noncomputable def Rx(c0 c1 c2 c3:Nat):PC:=fun ad t=>(.compStart (d9 [48,7,0]) 0 (.ref (gx ad 0)) (.ref (gx ad 3)) {scope:=(c7 [48,7,0]),locals:=(gx ad 2),globals:=3,cells:=[],qual:=bf,func:=none,code:=(.ref 880),frame:=(some (t 0)),builtins:=0})
noncomputable def Yc(c0 c1 c2 c3:Nat):PO:=fun P ad t=>[(O (.type "list_iterator") none (.fields ⟨[.ref (gx ad 1),.int 0 0]⟩) ⟨[]⟩),(O (.type "list") none (.seq ⟨[.str ⟨⟨[c3,c2,c1,c0]⟩⟩ (t 1),.str ⟨⟨[c2,c3,c1,c0]⟩⟩ (t 2),.str ⟨⟨[c2,c1,c3,c0]⟩⟩ (t 3),.str ⟨⟨[c2,c1,c0,c3]⟩⟩ (t 4),.str ⟨⟨[c1,c3,c2,c0]⟩⟩ (t 5),.str ⟨⟨[c1,c2,c3,c0]⟩⟩ (t 6),.str ⟨⟨[c1,c2,c0,c3]⟩⟩ (t 7),.str ⟨⟨[c1,c0,c3,c2]⟩⟩ (t 8),.str ⟨⟨[c1,c0,c2,c3]⟩⟩ (t 9),.str ⟨⟨[c0,c3,c2,c1]⟩⟩ (t 10),.str ⟨⟨[c0,c2,c3,c1]⟩⟩ (t 11),.str ⟨⟨[c0,c2,c1,c3]⟩⟩ (t 12),.str ⟨⟨[c0,c1,c3,c2]⟩⟩ (t 13),.str ⟨⟨[c0,c1,c2,c3]⟩⟩ (t 14)]⟩ (t 15)) ⟨[]⟩),(O (.type "dict") none (.dict ⟨[]⟩ (t 16)) ⟨[]⟩),(O (.type "list") none (.seq ⟨[]⟩ (t 17)) ⟨[]⟩)]
noncomputable def QV(c0 c1 c2 c3:Nat):PS:=fun P gl ad t=>bW (Yc c0 c1 c2 c3 P ad t) [(0,fun l=>(O (.type "list_iterator") none (.fields ⟨[.none,.int 14 0]⟩) ⟨[]⟩)),(2,fun l=>(O (.type "dict") none (.dict ⟨[D P yI (gx l 0) (.str ⟨⟨[c0,c1,c2,c3]⟩⟩ (t 14)),D P ⟨⟨[107]⟩⟩ (gx l 1) (.int 4 (gx l 2))]⟩ ((t 16)+2)) ⟨[]⟩)),(3,fun l=>(O (.type "list") none (.seq ⟨[.str ⟨⟨[c3]⟩⟩ (gx l 3),.str ⟨⟨[c3,c2]⟩⟩ (gx l 4),.str ⟨⟨[c3,c2,c1]⟩⟩ (gx l 5),.str ⟨⟨[c3,c2,c1,c0]⟩⟩ (t 1),.str ⟨⟨[c2]⟩⟩ (gx l 6),.str ⟨⟨[c2,c3]⟩⟩ (gx l 7),.str ⟨⟨[c2,c3,c1]⟩⟩ (gx l 8),.str ⟨⟨[c2,c3,c1,c0]⟩⟩ (t 2),.str ⟨⟨[c2]⟩⟩ (gx l 9),.str ⟨⟨[c2,c1]⟩⟩ (gx l 10),.str ⟨⟨[c2,c1,c3]⟩⟩ (gx l 11),.str ⟨⟨[c2,c1,c3,c0]⟩⟩ (t 3),.str ⟨⟨[c2]⟩⟩ (gx l 12),.str ⟨⟨[c2,c1]⟩⟩ (gx l 13),.str ⟨⟨[c2,c1,c0]⟩⟩ (gx l 14),.str ⟨⟨[c2,c1,c0,c3]⟩⟩ (t 4),.str ⟨⟨[c1]⟩⟩ (gx l 15),.str ⟨⟨[c1,c3]⟩⟩ (gx l 16),.str ⟨⟨[c1,c3,c2]⟩⟩ (gx l 17),.str ⟨⟨[c1,c3,c2,c0]⟩⟩ (t 5),.str ⟨⟨[c1]⟩⟩ (gx l 18),.str ⟨⟨[c1,c2]⟩⟩ (gx l 19),.str ⟨⟨[c1,c2,c3]⟩⟩ (gx l 20),.str ⟨⟨[c1,c2,c3,c0]⟩⟩ (t 6),.str ⟨⟨[c1]⟩⟩ (gx l 21),.str ⟨⟨[c1,c2]⟩⟩ (gx l 22),.str ⟨⟨[c1,c2,c0]⟩⟩ (gx l 23),.str ⟨⟨[c1,c2,c0,c3]⟩⟩ (t 7),.str ⟨⟨[c1]⟩⟩ (gx l 24),.str ⟨⟨[c1,c0]⟩⟩ (gx l 25),.str ⟨⟨[c1,c0,c3]⟩⟩ (gx l 26),.str ⟨⟨[c1,c0,c3,c2]⟩⟩ (t 8),.str ⟨⟨[c1]⟩⟩ (gx l 27),.str ⟨⟨[c1,c0]⟩⟩ (gx l 28),.str ⟨⟨[c1,c0,c2]⟩⟩ (gx l 29),.str ⟨⟨[c1,c0,c2,c3]⟩⟩ (t 9),.str ⟨⟨[c0]⟩⟩ (gx l 30),.str ⟨⟨[c0,c3]⟩⟩ (gx l 31),.str ⟨⟨[c0,c3,c2]⟩⟩ (gx l 32),.str ⟨⟨[c0,c3,c2,c1]⟩⟩ (t 10),.str ⟨⟨[c0]⟩⟩ (gx l 33),.str ⟨⟨[c0,c2]⟩⟩ (gx l 34),.str ⟨⟨[c0,c2,c3]⟩⟩ (gx l 35),.str ⟨⟨[c0,c2,c3,c1]⟩⟩ (t 11),.str ⟨⟨[c0]⟩⟩ (gx l 36),.str ⟨⟨[c0,c2]⟩⟩ (gx l 37),.str ⟨⟨[c0,c2,c1]⟩⟩ (gx l 38),.str ⟨⟨[c0,c2,c1,c3]⟩⟩ (t 12),.str ⟨⟨[c0]⟩⟩ (gx l 39),.str ⟨⟨[c0,c1]⟩⟩ (gx l 40),.str ⟨⟨[c0,c1,c3]⟩⟩ (gx l 41),.str ⟨⟨[c0,c1,c3,c2]⟩⟩ (t 13),.str ⟨⟨[c0]⟩⟩ (gx l 42),.str ⟨⟨[c0,c1]⟩⟩ (gx l 43),.str ⟨⟨[c0,c1,c2]⟩⟩ (gx l 44),.str ⟨⟨[c0,c1,c2,c3]⟩⟩ (t 14)]⟩ ((t 17)+56)) ⟨[]⟩))] [] 45 (fun l=> .ok .next) gl
noncomputable def Tt(obs:LL)(c:Code):LN:=[Ju c 1,aJ obs 1 0,aJ obs 1 1,aJ obs 1 2,aJ obs 1 3,aJ obs 1 4,aJ obs 1 5,aJ obs 1 6,aJ obs 1 7,aJ obs 1 8,aJ obs 1 9,aJ obs 1 10,aJ obs 1 11,aJ obs 1 12,aJ obs 1 13,bO (gO obs 1),bO (gO obs 2),bO (gO obs 3)]
noncomputable def Yl(r:Re)(T:BT)(xl:LN):LN:=[dZ T 2 0,dZ T 2 1,aY T 2 1,aY T 3 0,aY T 3 1,aY T 3 2,aY T 3 4,aY T 3 5,aY T 3 6,aY T 3 8,aY T 3 9,aY T 3 10,aY T 3 12,aY T 3 13,aY T 3 14,aY T 3 16,aY T 3 17,aY T 3 18,aY T 3 20,aY T 3 21,aY T 3 22,aY T 3 24,aY T 3 25,aY T 3 26,aY T 3 28,aY T 3 29,aY T 3 30,aY T 3 32,aY T 3 33,aY T 3 34,aY T 3 36,aY T 3 37,aY T 3 38,aY T 3 40,aY T 3 41,aY T 3 42,aY T 3 44,aY T 3 45,aY T 3 46,aY T 3 48,aY T 3 49,aY T 3 50,aY T 3 52,aY T 3 53,aY T 3 54]
theorem he(w:Wd)(os:OS)(c0 c1 c2 c3 a0 a1 a2 a3:Nat)(gl:LG)(t:NN):SA w os 410 (Rx c0 c1 c2 c3) (QV c0 c1 c2 c3 w.params gl) [a0,a1,a2,a3] t:=
 aq (av w) (hdp:=440) (U:={hs:=[],ks:=[],sam:=[],fa:=[],fb:=[],f3:=[]}) ⟨ak,ak,al,(fun _ h=>nomatch h),(fun _ h=>nomatch h),(fun _ h=>nomatch h)⟩ [] Yl 3740 (J [yD,ed,[5,5,0],xO,[1,0],xO,[6,0,2,6,6,6,6,6,6,6,6,0],A0,oc,bX,A0,wg,bX,A0,ir,[0],gA,[4,0],A0,fC,fC,bX,[6,0],CP,[12],ed,iQ,[0],rT,[13,1,0],rT,[13,14,0,2],fo,fo,fo,[14,14,0],v8,fo,fo,[14],dR,vi,EP,oh,EP,fU,fU,EP,[18,18,18,18],bX,v8,[14,20],ed,sL,[0,21,0],sL,[21,1,0,21,0],sL,[21],Gl,oD,d8,d8,[22],dR,[23,23,23,23],D7,oA,oA,D7,yp,D7,[26,26,26,26],bX,oD,[22,28],ed,[29,29,0],Ie,[1,0],Ie,[30,0,2],wa,wa,wI,[0,30],wa,[30,30],dR,[31,31,31,31],Fv,lS,lS,Fv,GF,Fv,[34,34,34,34],bX,[30],wI,[30,30,36],ed,[37,37,0,37,0,37,37,37,1,0,37,0,37,37,37,38,0,2,38,38,38,38,38,38,38,38,0],Cb,g_,g_,bX,Cb,[40,40,40,40],bX,Cb,[41,41,41,41],bX,Cb,vX,bX,[38,0,38,0,38,38,38,44],ed,ow,[0,45,0],ow,[45,1,0,45,0],ow,[45,46,0,2],gR,gR,gR,gR,[0,46,0,46,0],gR,gR,gR,[46],dR,[47,47,47,47],F0,hV,hV,F0,[49,49,49,49],F0,[50,50,50,50],bX,[46,0,46,0],gR,[46,52],ed,[53,53,0,53,0,53,53,53,1,0,53,0,53,53,53,54,0,2],vP,vP,[0],tV,[54,54,54],dR,[55,55,55,55],Fe,[56,56,56,56],Fe,zn,Fe,[58,58,58,58],bX,[54,0,54,0,54,54,54,60],ed,[61,61,0,61,0,61,61,61,1,0,61,0,61,61,61,62,0,2,62,62,62,62,62,62,62,62,0],By,Bb,bX,By,[64,64,64,64],bX,By,[65,65,65,65],bX,By,AP,bX,[62,0,62,0,62,62,62,68],ed,[69,69,0,69,0,69,69,69,1,0,69,0,69,69,69,70,0,2],sZ,sZ,sZ,sZ,[0],AX,[71,71,71,71],bX,AX,[72,72,72,72],bX,AX,ō8,ō8,bX,AX,Bk,bX,[70,0,70,0],sZ,[70,76],ed,[77,77,0,77,0,77,77,77,1,0,77,0,77,77,77,78,0,2,78,78,78,78,78,78,78,78,0],BW,[79,79,79,79],bX,BW,ri,ri,bX,BW,[81,81,81,81],bX,BW,[82,82,82,82],bX,[78,0,78,0,78,78,78,84],ed,[85,85,0,85,0,85,85,85,1,0,85,0,85,85,85,86,0,2],vG,vG,[0],qK,[86,86,86],dR,[87,87,87,87],F4,[88,88,88,88],F4,B5,F4,[90,90,90,90],bX,[86,0,86,0,86,86,86,92],ed,[93,93,0,93,0,93,93,93,1,0,93,0,93,93,93,94,0,2,94,94,94,94,94,94,94,94,0],BU,Cp,bX,BU,[96,96,96,96],bX,BU,[97,97,97,97],bX,BU,AO,bX,[94,0,94,0,94,94,94,100],ed,[101,101,0,101,0,101,101,101,1,0,101,0,101,101,101,102,0,2],FE,FE,[0],B7,[103,103,103,103],bX,B7,AU,bX,B7,[105,105,105,105],bX,B7,[106,106,106,106],bX,[102,0,102,0,102,102,102,108],ed,[109,109,0,109,0],HK,[1,0,109,0],HK,[110,0,2],gW,gW,gW,gW,[0],qt,gW,[110],dR,[111,111,111,111],EE,[112,112,112,112],EE,A4,EE,[114,114,114,114],bX,[110,0,110,0],gW,[110,116,0,1,0],eq,[2,1,1,118]])
noncomputable def Ui(c0 c1 c2 c3:Nat)(P:Pm)(slots:LN):Hk:=⟨slots,fun ad obs c=>Rx c0 c1 c2 c3 ad (gx (Tt obs c)),fun gl ad obs c=>QV c0 c1 c2 c3 P gl ad (gx (Tt obs c)),aC⟩
theorem RX(w:Wd)(os:OS)(c0 c1 c2 c3:Nat){slots:LN}(hn:slots.Nodup:=by decide){hdp:Nat}(hdpL:hdp≤410:=by decide):Hk.Ok (bs w.params w.params) w os hdp (Ui c0 c1 c2 c3 w.params slots):=⟨hn,fun gl ad obs c=>aE hdpL (by
 intro s K g hL
 have hL':ad.length=4:=hL
 obtain⟨y9,hf9⟩:=J_ hL'
 have hf9:ad=[y9 0,y9 1,y9 2,y9 3]:=hf9
 subst hf9
 exact he w os _ _ _ _ _ _ _ _ gl _ s K g hL)⟩
structure RT(w:Wd)(os:OS)(gl:LG)(ad:LN)(s0:Ś)(obs:LL)(s:Ś):Prop where
 kh:KH (bD w.params) os s
 g:s.gens=⟨gl⟩
 k:Keeps ad s0 s
 f:At s ad obs
noncomputable def zt(pre:LL)(obE:LN→LL)(k nt:Nat)(gl:LG):Spec:=
 {pre,post:=(List.range k).map fun j=>fun l=>gO (obE l) j,news:=[],nt,rv:=fun _=> .ok .next,gl,gl':=gl}
theorem KD:∀{l:LL}{i:Nat},i<l.length→l[i]? =some (gO l i)
 |x::l,0,_=>rfl
 |x::l,i+1,h=>by
  rw[List.getElem?_cons_succ]
  exact KD (l:=l) (by simpa using h)
theorem Gw(obE:LN→LL)(l:LN){k:Nat}(h:(obE l).length=k):((List.range k).map fun j=>fun(l:LN)=>gO (obE l) j).map (· l)=obE l:=by
 subst h
 apply List.ext_getElem?
 intro i
 by_cases hi:i<(obE l).length
 ·rw[List.map_map,List.getElem?_map,List.getElem?_range hi,KD hi]
  rfl
 ·rw[List.getElem?_eq_none (by simpa using hi),List.getElem?_eq_none (by simpa using hi)]
theorem dG:∀{a b:LN}{i:Nat},i<a.length→gx (a++b) i=gx a i
 |x::a,b,0,_=>rfl
 |x::a,b,i+1,h=>dG (a:=a) (by simpa using h)
theorem d_:∀{a b:LN}{i:Nat},gx (a++b) (a.length+i)=gx b i
 |[],b,i=>by simp
 |x::a,b,i=>by
  show gx (x::(a++b)) ((a.length+1)+i)=_
  rw[show a.length+1+i=(a.length+i)+1 by omega]
  exact d_ (a:=a)
section
variable{w:Wd}{os:OS}{gl:LG}{ad:LN}{c0 c:Code}{dep:Nat}{ob:Nat→LN→LL}{obE:LN→LL}{n:Nat}{len:NN}
theorem hW(nd:ad.Nodup)(hk:∀a∈ad,∀o,(bD w.params).get a≠some o)
 (h0:∀(s:Ś)(Q:Re→Ś→Prop),RT w os gl ad s (ob 0 []) s→(∀s',RT w os gl ad s (ob 0 []) s'→codeAny (model TW w) (AG dep) c Q s')→codeAny (model TW w) (AG dep) c0 Q s)
 (hlen:len 0=0)
 (hstep:∀i l(s0 s:Ś)(Q:Re→Ś→Prop),i<n→l.length=len i→RT w os gl ad s0 (ob i l) s→(∀l' s',l'.length=len (i+1)→RT w os gl ad s0 (ob (i+1) l') s'→codeAny (model TW w) (AG dep) c Q s')→codeAny (model TW w) (AG dep) c Q s)
 (hfin:∀l(s0 s:Ś)(Q:Re→Ś→Prop),l.length=len n→RT w os gl ad s0 (ob n l) s→(∀s',RT w os gl ad s0 (obE l) s'→Q (.ok .next) s')→codeAny (model TW w) (AG dep) c Q s)
 {k nt:Nat}(hK:k=ad.length)(hN:nt=len n)(hL:∀l,(obE l).length=k):
 ∀s:Ś,KH (bD w.params) os s→s.gens=⟨gl⟩→ad.length=(ob 0 []).length→(∀p∈ad.zip (ob 0 []),s.heap.get? p.1=some p.2)→
  codeAny (model TW w) (AG dep) c0 (fp (zt (ob 0 []) obE k nt gl) ad s) s:=by
 intro s K g hl hA
 subst hK
 subst hN
 refine h0 s _ ⟨K,g,Keeps.refl _ _,hA⟩ fun s1 R1=> ?_
 have loop:∀(j i:Nat)(l:LN)(s1:Ś),i+j=n→l.length=len i→RT w os gl ad s (ob i l) s1→codeAny (model TW w) (AG dep) c (fp (zt (ob 0 []) obE ad.length (len n) gl) ad s) s1:=by
  intro j
  induction j with
  |zero=>
   intro i l s1 hi hl1 R1
   have hi:i=n:=hi
   subst hi
   refine hfin l s s1 _ hl1 R1 fun s' R'=> ?_
   have e:=Gw obE l (hL l)
   refine⟨[],l,rfl,hl1,rfl,fun b o h hb=>R'.k.keep b o h fun hm=>hb ?_,fun p hp=> ?_,fun p hp=>by simp[zt] at hp,by simp[zt],R'.k.size,R'.g,by have:=R'.kh.gok;rw[R'.g] at this;exact this,R'.k.os,R'.kh.tk⟩
   ·show b∈(ad.zip (((List.range ad.length).map fun j=>fun(l:LN)=>gO (obE l) j).map (· ([]++l)))).map (·.1)
    rw[List.map_fst_zip (by simp)]
    exact hm
   ·rcases List.mem_append.mp hp with h|h
    ·refine R'.f p ?_
     have h':p∈ad.zip (((List.range ad.length).map fun j=>fun(l:LN)=>gO (obE l) j).map (· l)):=h
     rw[e] at h'
     exact h'
    ·simp[zt] at h
  |succ j ih=>
   intro i l s1 hi hl1 R1
   exact hstep i l s s1 _ (by omega) hl1 R1 fun l' s' h' R'=>ih (i+1) l' s' (by omega) h' R'
 exact loop n 0 [] s1 (by omega) (by rw[hlen];rfl) R1
theorem cN{S:Spec}{c c₂:Code}{s0 s:Ś}{obs:LL}{Q:Re→Ś→Prop}(nd:ad.Nodup)(hk:∀a∈ad,∀o,(bD w.params).get a≠some o)(T:dy (model TW w) (bD w.params) os dep c ad S (fun _=>c₂))(hn:S.news=[])(hg:S.gl=gl)(hg':S.gl'=gl)(hpre:S.pre=obs)(hp:S.post.length=ad.length)(hl:ad.length=obs.length)
 (R:RT w os gl ad s0 obs s)(next:∀l s',l.length=S.nt→RT w os gl ad s0 (S.post.map (· l)) s'→codeAny (model TW w) (AG dep) c₂ Q s'):codeAny (model TW w) (AG dep) c Q s:=by
 subst hpre
 refine T s Q R.kh (by rw[hg];exact R.g) hl R.f nd hk fun s' as ts ha ht E=> ?_
 rw[hn] at ha
 have:as=[]:=List.length_eq_zero_iff.mp ha
 subst this
 have k:=cS E (by simpa using hp.symm)
 exact next ts s' ht ⟨dP R.kh k hk E.gens E.gok,by rw[E.gens,hg'],R.k.trans k fun x hx=>hx,fun p hp=>E.now p (List.mem_append_left _ hp)⟩
theorem ub{S:Spec}{c:Code}{s0 s:Ś}{obs:LL}{Q:Re→Ś→Prop}(nd:ad.Nodup)(hk:∀a∈ad,∀o,(bD w.params).get a≠some o)(T:cb (model TW w) (bD w.params) os dep c ad S)(hn:S.news=[])(hg:S.gl=gl)(hg':S.gl'=gl)(hpre:S.pre=obs)(hp:S.post.length=ad.length)(hl:ad.length=obs.length)
 (R:RT w os gl ad s0 obs s)(next:∀l s',l.length=S.nt→RT w os gl ad s0 (S.post.map (· l)) s'→Q (S.rv l) s'):codeAny (model TW w) (AG dep) c Q s:=by
 subst hpre
 intro Γ p hΓ hb
 obtain⟨r,s',hr,as,ts,ha,ht,rfl,E⟩:=T s R.kh (by rw[hg];exact R.g) hl R.f nd hk Γ p hΓ hb
 rw[hn] at ha
 have:as=[]:=List.length_eq_zero_iff.mp ha
 subst this
 have k:=cS E (by simpa using hp.symm)
 exact⟨_,s',hr,next ts s' ht ⟨dP R.kh k hk E.gens E.gok,by rw[E.gens,hg'],R.k.trans k fun x hx=>hx,fun p hp=>E.now p (List.mem_append_left _ hp)⟩⟩
end
section
open PySem.SeqAt PySem.MeetsSeq PySem.Calls PyProof.Rows
noncomputable def toE(ad:LN)(f:Nat):Env:={scope:={c7 [48,11,0] with names:=[(pf,.local),(yI,.local),(A1,.cell)]},locals:=(gx ad 2),globals:=3,cells:=[(A1,(gx ad 3))],qual:=bf,func:=none,code:=(.ref 880),frame:=(some f),builtins:=0}
noncomputable def Ms(ad:LN)(f:Nat):Code:= .compStart (d9 [48,11,0]) 0 (.ref (gx ad 0)) (.ref (gx ad 4)) (toE ad f)
noncomputable def L_(ad:LN)(f:Nat):Code:= .compLoop (d9 [48,11,0]) 0 (.ref (gx ad 0)) (.ref (gx ad 4)) (toE ad f)
noncomputable def gK(P:Pm)(m:Option (Nat×Str×Nat))(e:Nat):Obj:=O (.type "dict") none (.dict ⟨match m with
 |none=> []
 |some k=> [D P yI k.1 (.str k.2.1 k.2.2)]⟩ e) ⟨[]⟩
noncomputable def JS(P:Pm)(ad:LN)(t:NN)(it:Obj)(aA:LV)(nr:Nat)(loc acc:Obj)(d:SD)(ig:Obj):LL:=
 [it,bu aA nr,loc,(O (.type "cell") none (.cell (some (.ref (gx ad 5)))) ⟨[]⟩),acc,(O (.ref 144) (some (gx ad 6)) .plain ⟨[]⟩),(O (.type "dict") none (.dict ⟨[D P wt (t 0) (.ref (gx ad 7)),D P wi (t 1) (.ref (gx ad 9)),D P ik (t 2) (.ref (gx ad 8))]⟩ (t 3)) ⟨[]⟩),fi d,ig,(O (.type "list") none (.seq ⟨[]⟩ (t 4)) ⟨[]⟩)]
noncomputable def Vb(P:Pm)(ad:LN)(t:NN)(c0 c1 c2 c3:Nat)(b:Bool)(d:SD)(R:List bT)(aA A:LV)(n nr na i rt:Nat)(m:Option (Nat×Str×Nat))(e:Nat)(gl:LG):Spec:=match m with
 |none=>bW (JS P ad t (bn (.ref (gx ad 1)) i) aA nr (gK P none e) (bu A na) d (fg P R n)) [(0,fun l=>bn (.ref (gx ad 1)) (i+1)),(2,fun l=>gK P (some (gx l 0,⟨⟨[c0,c1,c2,c3]⟩⟩,rt)) (e+1)),(4,fun l=>bu (A++ [.int (hH b) (gx l 3)]) (na+1)),(8,fun l=>fg P (R++ [(⟨⟨[c0,46,c1,46,c2,46,c3]⟩⟩,gx l 1,.int (hH b) (gx l 2))]) (n+1))] [] 4 (fun l=> .ok .next) gl
 |some k=>bW (JS P ad t (bn (.ref (gx ad 1)) i) aA nr (gK P (some k) e) (bu A na) d (fg P R n)) [(0,fun l=>bn (.ref (gx ad 1)) (i+1)),(2,fun l=>gK P (some (k.1,⟨⟨[c0,c1,c2,c3]⟩⟩,rt)) e),(4,fun l=>bu (A++ [.int (hH b) (gx l 2)]) (na+1)),(8,fun l=>fg P (R++ [(⟨⟨[c0,46,c1,46,c2,46,c3]⟩⟩,gx l 0,.int (hH b) (gx l 1))]) (n+1))] [] 3 (fun l=> .ok .next) gl
noncomputable def Ig(T:BT)(xl:LN):LN:=[]
noncomputable def YN(T:BT)(xl:LN):LN:=[dZ T 2 0,zV xl 0,zV xl 1,zV xl 2]
noncomputable def YO(T:BT)(xl:LN):LN:=[zV xl 0,zV xl 1,zV xl 2]
noncomputable def HZ(r:Re)(T:BT)(xl:LN):LN:=[]
section
variable{w:Wd}{os:OS}{a0 a1 a2 a3 a4 a5 a6 a7 a8 a9:Nat}{t:NN}{c0 c1 c2 c3:Nat}{b:Bool}{d:SD}{l:List SV}{R:List bT}{aA A:LV}{n nr na i rt e f:Nat}{gl:LG}
theorem WW:dy (model TW w) (bD w.params) os 410 (Ms [a0,a1,a2,a3,a4,a5,a6,a7,a8,a9] f) [a0,a1,a2,a3,a4,a5,a6,a7,a8,a9] (bW (JS w.params [a0,a1,a2,a3,a4,a5,a6,a7,a8,a9] t (bn (.ref a1) 0) aA nr (gK w.params none e) (bu A na) d (fg w.params R n)) [] [] 0 (fun _=> .ok .next) gl) (fun _=>L_ [a0,a1,a2,a3,a4,a5,a6,a7,a8,a9] f):=
 aQ (av w) (hdp:=440) (U:={}) ⟨ak,ak,al,(fun _ h=>nomatch h),(fun _ h=>nomatch h),(fun _ h=>nomatch h)⟩ [] Ig 27 [2,1,1,1,1,1,1,1,1,1]
theorem VG(hx:aA[i]? =some (.str ⟨⟨[c0,c1,c2,c3]⟩⟩ rt))(hA:(⟨⟨[c0,c1,c2,c3]⟩⟩:Str).cps.all (· <128)=true)(K:zY w b ⟨⟨[c0,46,c1,46,c2,46,c3]⟩⟩ d l R)(hA1:A.length≤1000):
 dy (model TW w) (bD w.params) os 410 (L_ [a0,a1,a2,a3,a4,a5,a6,a7,a8,a9] f) [a0,a1,a2,a3,a4,a5,a6,a7,a8,a9] (Vb w.params [a0,a1,a2,a3,a4,a5,a6,a7,a8,a9] t c0 c1 c2 c3 b d R aA A n nr na i rt none e gl) (fun _=>L_ [a0,a1,a2,a3,a4,a5,a6,a7,a8,a9] f):=
 aQ (av w) (hdp:=440) (U:={hs:=[(aB (cJ aA nr i (.str ⟨⟨[c0,c1,c2,c3]⟩⟩ rt) [0,1])),(aB (de ⟨⟨[c0,c1,c2,c3]⟩⟩ [])),(Cm (fun xl=>Dk b ⟨⟨[c0,46,c1,46,c2,46,c3]⟩⟩ d R n w.params [5,6,7,8,9])),(aB (aR A na (fun u=> .int (hH b) u) [4]))],fb:=[CS rS (.type "str_ascii_iterator")]}) ⟨(ac (ae (cg hx)) (ac (ae (cZ hA)) (ac (c8 (fun _ _=>rfl) (fun xl=>(Eb K))) (ac (ae (cK hA1)) ak)))),ak,al,(fun _ h=>nomatch h),(b4 ev cV),(fun _ h=>nomatch h)⟩ [] YN 152 JO
theorem ZE{k u:Nat}{y0:Str}(hx:aA[i]? =some (.str ⟨⟨[c0,c1,c2,c3]⟩⟩ rt))(hA:(⟨⟨[c0,c1,c2,c3]⟩⟩:Str).cps.all (· <128)=true)(K:zY w b ⟨⟨[c0,46,c1,46,c2,46,c3]⟩⟩ d l R)(hA1:A.length≤1000):
 dy (model TW w) (bD w.params) os 410 (L_ [a0,a1,a2,a3,a4,a5,a6,a7,a8,a9] f) [a0,a1,a2,a3,a4,a5,a6,a7,a8,a9] (Vb w.params [a0,a1,a2,a3,a4,a5,a6,a7,a8,a9] t c0 c1 c2 c3 b d R aA A n nr na i rt (some (k,y0,u)) e gl) (fun _=>L_ [a0,a1,a2,a3,a4,a5,a6,a7,a8,a9] f):=
 aQ (av w) (hdp:=440) (U:={hs:=[(aB (cJ aA nr i (.str ⟨⟨[c0,c1,c2,c3]⟩⟩ rt) [0,1])),(aB (de ⟨⟨[c0,c1,c2,c3]⟩⟩ [])),(Cm (fun xl=>Dk b ⟨⟨[c0,46,c1,46,c2,46,c3]⟩⟩ d R n w.params [5,6,7,8,9])),(aB (aR A na (fun u=> .int (hH b) u) [4]))],fb:=[CS rS (.type "str_ascii_iterator")]}) ⟨(ac (ae (cg hx)) (ac (ae (cZ hA)) (ac (c8 (fun _ _=>rfl) (fun xl=>(Eb K))) (ac (ae (cK hA1)) ak)))),ak,al,(fun _ h=>nomatch h),(b4 ev cV),(fun _ h=>nomatch h)⟩ [] YO 152 JO
theorem VO{k u:Nat}{y0:Str}(hx:aA.length≤i):
 cb (model TW w) (bD w.params) os 410 (L_ [a0,a1,a2,a3,a4,a5,a6,a7,a8,a9] f) [a0,a1,a2,a3,a4,a5,a6,a7,a8,a9] (bW (JS w.params [a0,a1,a2,a3,a4,a5,a6,a7,a8,a9] t (bn (.ref a1) i) aA nr (gK w.params (some (k,y0,u)) e) (bu A na) d (fg w.params R n)) [(0,fun _=>bn .none i)] [] 0 (fun _=> .ok .next) gl):=
 aq (av w) (hdp:=440) (U:={hs:=[(aB (rB aA nr i [0,1]))]}) ⟨(ac (ae (oQ hx (by decide))) ak),ak,al,(fun _ h=>nomatch h),(fun _ h=>nomatch h),(fun _ h=>nomatch h)⟩ [] HZ 13 [1,0,1,2,11]
end
end
section
open PySem.SeqAt PySem.MeetsSeq PySem.Calls PyProof.Rows
noncomputable def bM(x:Nat→Nat→Nat)(i:Nat):Str:=⟨⟨[x i 0,x i 1,x i 2,x i 3]⟩⟩
noncomputable def dq(x:Nat→Nat→Nat)(i:Nat):Str:=⟨⟨[x i 0,46,x i 1,46,x i 2,46,x i 3]⟩⟩
noncomputable def xc(x:Nat→Nat→Nat)(bb:Nat→Bool)(i:Nat)(l:LN):List bT:=(List.range i).map fun j=>(dq x j,gx l (3*j+1),.int (hH (bb j)) (gx l (3*j+2)))
noncomputable def CA(bb:Nat→Bool)(i:Nat)(l:LN):LV:=(List.range i).map fun j=> .int (hH (bb j)) (gx l (3*j+3))
noncomputable def Fq(P:Pm)(ad:LN)(t:NN)(x:Nat→Nat→Nat)(rt:NN)(bb:Nat→Bool)(aA:LV)(nr na:Nat)(d:SD)(R0:List bT)(n e i:Nat)(l:LN):LL:=match i with
 |0=>JS P ad t (bn (.ref (gx ad 1)) 0) aA nr (gK P none e) (bu [] na) d (fg P R0 n)
 |i+1=>JS P ad t (bn (.ref (gx ad 1)) (i+1)) aA nr (gK P (some (gx l 0,bM x i,rt i)) (e+1)) (bu (CA bb (i+1) l) (na+(i+1))) d (fg P (R0++xc x bb (i+1) l) (n+(i+1)))
noncomputable def Kc(P:Pm)(ad:LN)(t:NN)(x:Nat→Nat→Nat)(rt:NN)(bb:Nat→Bool)(aA:LV)(nr na:Nat)(d:SD)(R0:List bT)(n e N:Nat)(l:LN):LL:=
 JS P ad t (bn .none N) aA nr (gK P (some (gx l 0,bM x (N -1),rt (N -1))) (e+1)) (bu (CA bb N l) (na+N)) d (fg P (R0++xc x bb N l) (n+N))
noncomputable def UQ:Nat→Nat
 |0=>0
 |i+1=>1+3*(i+1)
theorem dS{α:Type}(f:Nat→α)(i:Nat):(List.range (i+1)).map f=(List.range i).map f++ [f i]:=by rw[List.range_succ,List.map_append];rfl
theorem ds{α:Type}{f g:Nat→α}{i:Nat}(h:∀j<i,f j=g j):(List.range i).map f=(List.range i).map g:=List.map_congr_left fun j hj=>h j (List.mem_range.mp hj)
theorem Ha(bb:Nat→Bool)(i:Nat)(l:LN):(CA bb i l).length=i:=by simp[CA]
section
variable{w:Wd}{os:OS}{t:NN}{x:Nat→Nat→Nat}{rt:NN}{bb:Nat→Bool}{d:SD}{ls:List SV}{R0:List bT}{aA:LV}{n nr na e f N:Nat}{gl:LG}
theorem Ja{i:Nat}{l ts:LN}(hl:l.length=1+3*i):xc x bb i (l++ts)=xc x bb i l:=ds fun j hj=>by
 rw[dG (by omega),dG (by omega)]
theorem Iy{i:Nat}{l ts:LN}(hl:l.length=1+3*i):CA bb i (l++ts)=CA bb i l:=ds fun j hj=>by
 rw[dG (by omega)]
theorem Eg(hN:0<N)(hN2:N≤900)(hlen:aA.length=N)(hrows:∀i<N,aA[i]? =some (.str (bM x i) (rt i)))(hA:∀i<N,(bM x i).cps.all (· <128)=true)
 (K:∀i<N,∀l,zY w (bb i) (dq x i) d ls (R0++xc x bb i l))(a0 a1 a2 a3 a4 a5 a6 a7 a8 a9:Nat):
 cb (model TW w) (bD w.params) os 410 (Ms [a0,a1,a2,a3,a4,a5,a6,a7,a8,a9] f) [a0,a1,a2,a3,a4,a5,a6,a7,a8,a9]
  (zt (Fq w.params [a0,a1,a2,a3,a4,a5,a6,a7,a8,a9] t x rt bb aA nr na d R0 n e 0 []) (Kc w.params [a0,a1,a2,a3,a4,a5,a6,a7,a8,a9] t x rt bb aA nr na d R0 n e N) 10 (1+3*N) gl):=by
 intro s K0 g hl hA0 nd hk
 refine hW (c:=L_ [a0,a1,a2,a3,a4,a5,a6,a7,a8,a9] f) (n:=N) (len:=UQ) (ob:=Fq w.params [a0,a1,a2,a3,a4,a5,a6,a7,a8,a9] t x rt bb aA nr na d R0 n e) nd hk ?_ rfl ?_ ?_ rfl ?_ (fun _=>rfl) s K0 g hl hA0
 ·intro s Q R next
  exact cN nd hk WW rfl rfl rfl rfl rfl rfl R fun l s' _ R'=>next s' R'
 ·intro i l s0 s Q hi hl R next
  cases i with
  |zero=>
   have hl:l=[]:=List.length_eq_zero_iff.mp hl
   subst hl
   have hK:=K 0 hN []
   rw[show R0++xc x bb 0 []=R0 by simp[xc]] at hK
   refine cN nd hk (VG (gl:=gl) (na:=na) (nr:=nr) (n:=n) (e:=e) (t:=t) (f:=f) (hrows 0 hN) (hA 0 hN) hK (A:=[]) (Nat.zero_le _)) rfl rfl rfl rfl rfl rfl R fun ts s' ht R'=> ?_
   refine next ts s' ht ?_
   have e1:(Vb w.params [a0,a1,a2,a3,a4,a5,a6,a7,a8,a9] t (x 0 0) (x 0 1) (x 0 2) (x 0 3) (bb 0) d R0 aA [] n nr na 0 (rt 0) none e gl).post.map (· ts)=Fq w.params [a0,a1,a2,a3,a4,a5,a6,a7,a8,a9] t x rt bb aA nr na d R0 n e 1 ts:=rfl
   exact e1▸R'
  |succ i=>
   have hl:l.length=1+3*(i+1):=hl
   have hK:=K (i+1) hi l
   refine cN nd hk (ZE (gl:=gl) (na:=na+(i+1)) (nr:=nr) (n:=n+(i+1)) (e:=e+1) (t:=t) (f:=f) (k:=gx l 0) (u:=rt i) (y0:=bM x i) (hrows (i+1) hi) (hA (i+1) hi) hK (A:=CA bb (i+1) l) (by rw[Ha];omega)) rfl rfl rfl rfl rfl rfl R fun ts s' ht R'=> ?_
   have ht:ts.length=3:=ht
   obtain⟨u,v,z,rfl⟩:∃u v z,ts=[u,v,z]:=by
    match ts,ht with
    |[u,v,z],_=>exact⟨u,v,z,rfl⟩
   refine next (l++ [u,v,z]) s' (by rw[List.length_append,hl];show 1+3*(i+1)+3=1+3*(i+1+1);omega) ?_
   have g0:gx (l++ [u,v,z]) 0=gx l 0:=dG (by omega)
   have g1:gx (l++ [u,v,z]) (3*(i+1)+1)=u:=by rw[show 3*(i+1)+1=l.length+0 by omega];exact d_
   have g2:gx (l++ [u,v,z]) (3*(i+1)+2)=v:=by rw[show 3*(i+1)+2=l.length+1 by omega];exact d_
   have g3:gx (l++ [u,v,z]) (3*(i+1)+3)=z:=by rw[show 3*(i+1)+3=l.length+2 by omega];exact d_
   have eR:xc x bb (i+1+1) (l++ [u,v,z])=xc x bb (i+1) l++ [(dq x (i+1),u,.int (hH (bb (i+1))) v)]:=by
    unfold xc
    rw[dS,g1,g2]
    congr 1
    exact Ja (x:=x) (bb:=bb) hl
   have eA:CA bb (i+1+1) (l++ [u,v,z])=CA bb (i+1) l++ [.int (hH (bb (i+1))) z]:=by
    unfold CA
    rw[dS,g3]
    congr 1
    exact Iy (bb:=bb) hl
   have e1:(Vb w.params [a0,a1,a2,a3,a4,a5,a6,a7,a8,a9] t (x (i+1) 0) (x (i+1) 1) (x (i+1) 2) (x (i+1) 3) (bb (i+1)) d (R0++xc x bb (i+1) l) aA (CA bb (i+1) l) (n+(i+1)) nr (na+(i+1)) (i+1) (rt (i+1)) (some (gx l 0,bM x i,rt i)) (e+1) gl).post.map (· [u,v,z])=Fq w.params [a0,a1,a2,a3,a4,a5,a6,a7,a8,a9] t x rt bb aA nr na d R0 n e (i+1+1) (l++ [u,v,z]):=by
    show _=JS w.params [a0,a1,a2,a3,a4,a5,a6,a7,a8,a9] t (bn (.ref a1) (i+1+1)) aA nr (gK w.params (some (gx (l++ [u,v,z]) 0,bM x (i+1),rt (i+1))) (e+1)) (bu (CA bb (i+1+1) (l++ [u,v,z])) (na+(i+1+1))) d (fg w.params (R0++xc x bb (i+1+1) (l++ [u,v,z])) (n+(i+1+1)))
    rw[g0,eR,eA,←List.append_assoc]
    rfl
   exact e1▸R'
 ·intro l s0 s Q hl R next
  obtain⟨i,rfl⟩:∃i,N=i+1:=⟨N -1,by omega⟩
  refine ub nd hk (VO (gl:=gl) (R:=R0++xc x bb (i+1) l) (A:=CA bb (i+1) l) (na:=na+(i+1)) (nr:=nr) (n:=n+(i+1)) (d:=d) (e:=e+1) (t:=t) (f:=f) (k:=gx l 0) (u:=rt i) (y0:=bM x i) (aA:=aA) (i:=i+1) (by omega)) rfl rfl rfl rfl rfl rfl R fun ts s' ht R'=>next s' R'
 ·obtain⟨i,rfl⟩:∃i,N=i+1:=⟨N -1,by omega⟩
  rfl
noncomputable def Uc(obs:LL):LN:=[aZ obs 6 0,aZ obs 6 1,aZ obs 6 2,bO (gO obs 6),bO (gO obs 9)]
noncomputable def E6(P:Pm)(x:Nat→Nat→Nat)(rt:NN)(bb:Nat→Bool)(aA:LV)(d:SD)(R0:List bT)(n N:Nat)(slots:LN):Hk:=
 ⟨slots,fun ad _ c=>Ms ad (Ju c 1),fun gl ad obs _=>zt (Fq P ad (gx (Uc obs)) x rt bb aA (bO (gO obs 1)) (bO (gO obs 4)) d R0 n (bO (gO obs 2)) 0 []) (Kc P ad (gx (Uc obs)) x rt bb aA (bO (gO obs 1)) (bO (gO obs 4)) d R0 n (bO (gO obs 2)) N) 10 (1+3*N) gl,aC⟩
theorem Id(hN:0<N)(hN2:N≤900)(hlen:aA.length=N)(hrows:∀i<N,aA[i]? =some (.str (bM x i) (rt i)))(hA:∀i<N,(bM x i).cps.all (· <128)=true)
 (K:∀i<N,∀l,zY w (bb i) (dq x i) d ls (R0++xc x bb i l)){slots:LN}(hn:slots.Nodup){hdp:Nat}(hd:hdp≤410):(E6 w.params x rt bb aA d R0 n N slots).Ok (bs w.params w.params) w os hdp:=
 ⟨hn,fun gl ad obs c=>aE hd (by
  intro s K' g hL
  have hL':ad.length=10:=hL
  obtain⟨y9,hf9⟩:=J_ hL'
  have hf9:ad=[y9 0,y9 1,y9 2,y9 3,y9 4,y9 5,y9 6,y9 7,y9 8,y9 9]:=hf9
  subst hf9
  exact Eg hN hN2 hlen hrows hA K (y9 0) (y9 1) (y9 2) (y9 3) (y9 4) (y9 5) (y9 6) (y9 7) (y9 8) (y9 9) s K' g hL)⟩
end
end
section
open PySem.SeqAt PySem.MeetsSeq PySem.Calls PyProof.Rows
noncomputable def Ot:Str:=⟨⟨[114,97,110,103,101]⟩⟩
noncomputable def EA:Str:=⟨⟨[104,101,97,100,115]⟩⟩
noncomputable def bp(xs:LV)(y:Str)(res:Bool)(slots:LN):Hk:=
 ⟨slots,fun ad _ c=> .call (.builtin "list.__contains__") ⟨[.ref (gx ad 0),.str y (bz (b_ c 1))],[]⟩,fun gl _ obs _=>aL [bu xs (bO (gO obs 0))] gl 0 fun _=> .ok (.ret (.bool res)),aC⟩
theorem be{w:Wd}{os:OS}{hdp:Nat}{slots:LN}{xs:LV}{y:Str}{res:Bool}(hi:∀y∈xs,eg y=true)(h:∀u,cG (.str y u) xs=res)(hn:slots.Nodup:=by decide):(bp xs y res slots).Ok (bs w.params w.params) w os hdp:=
 qs hn (fun _ _ _ _=>rfl) fun gl a obs c=>by
  have e:=h (bz (b_ c 1))
  subst e
  have:=vK (p:=TW) (w:=w) (kt:=bD w.params) (os:=os) (dep:=hdp) (a:=a) (n:=bO (gO obs 0)) (dd:=none) (sl:= #[]) (xs:=⟨xs⟩) (x:= .str y (bz (b_ c 1))) (gl:=gl) rfl (by simpa using hi)
  exact this
noncomputable def deE(ad:LN)(f:Nat):Env:={scope:={c7 [48,8,0] with names:=[(pf,.local),(yI,.local),(⟨⟨[107]⟩⟩,.local),(Ot,.globalImplicit),(EA,.cell)]},locals:=(gx ad 2),globals:=3,cells:=[(EA,(gx ad 3))],qual:=bf,func:=none,code:=(.ref 880),frame:=(some f),builtins:=0}
noncomputable def M1(ad:LN)(f:Nat):Code:= .compStart (d9 [48,8,0]) 0 (.ref (gx ad 0)) (.ref (gx ad 5)) (deE ad f)
noncomputable def Mi(ad:LN)(f:Nat):Code:= .compLoop (d9 [48,8,0]) 0 (.ref (gx ad 0)) (.ref (gx ad 5)) (deE ad f)
noncomputable def fe(P:Pm)(m:Option (Nat×Nat×Str×Nat×Nat))(e:Nat):Obj:=O (.type "dict") none (.dict ⟨match m with
 |none=> []
 |some k=> [D P yI k.1 (.str k.2.2.1 k.2.2.2.1),D P ⟨⟨[107]⟩⟩ k.2.1 (.int 4 k.2.2.2.2)]⟩ e) ⟨[]⟩
noncomputable def J0(P:Pm)(ad:LN)(it:Obj)(aA:LV)(nr:Nat)(loc:Obj)(hds:LV)(nh:Nat)(acc:Obj):LL:=
 [it,bu aA nr,loc,(O (.type "cell") none (.cell (some (.ref (gx ad 4)))) ⟨[]⟩),bu hds nh,acc]
noncomputable def Ai(p:Nat):Bool:=match p with
 |0=>true
 |1=>true
 |_+2=>false
noncomputable def iH(p:Nat):Bool:=match p with
 |0=>true
 |_+1=>false
noncomputable def C_(x0 x1 x2 p u:Nat):LV:=match p with
 |0=> []
 |1=> [.str ⟨⟨[x0,x1,x2]⟩⟩ u]
 |_+2=> [.str ⟨⟨[x0,x1]⟩⟩ u]
noncomputable def zF(p:Nat):Nat:=match p with
 |0=>0
 |_+1=>1
noncomputable def yq(A:LV)(na x0 x1 x2 p u:Nat):Obj:=match p with
 |0=>bu A na
 |1=>bu (A++ [.str ⟨⟨[x0,x1,x2]⟩⟩ u]) (na+1)
 |_+2=>bu (A++ [.str ⟨⟨[x0,x1]⟩⟩ u]) (na+1)
theorem xA(A:LV)(na x0 x1 x2 p u:Nat):yq A na x0 x1 x2 p u=bu (A++C_ x0 x1 x2 p u) (na+zF p):=by
 match p with
 |0=>show bu A na=bu (A++ []) (na+0);rw[List.append_nil];rfl
 |1=>rfl
 |p+2=>rfl
noncomputable def U8(P:Pm)(ad:LN)(x0 x1 x2 x3 p:Nat)(aA hds A:LV)(nr nh na i rt:Nat)(m:Option (Nat×Nat×Str×Nat×Nat))(e:Nat)(gl:LG):Spec:=match m with
 |none=>bW (J0 P ad (bn (.ref (gx ad 1)) i) aA nr (fe P none e) hds nh (bu A na)) [(0,fun l=>bn (.ref (gx ad 1)) (i+1)),(2,fun l=>fe P (some (gx l 0,gx l 1,⟨⟨[x0,x1,x2,x3]⟩⟩,rt,gx l 2)) (e+2)),(5,fun l=>yq A na x0 x1 x2 p (gx l 3))] [] 4 (fun l=> .ok .next) gl
 |some k=>bW (J0 P ad (bn (.ref (gx ad 1)) i) aA nr (fe P (some k) e) hds nh (bu A na)) [(0,fun l=>bn (.ref (gx ad 1)) (i+1)),(2,fun l=>fe P (some (k.1,k.2.1,⟨⟨[x0,x1,x2,x3]⟩⟩,rt,gx l 0)) e),(5,fun l=>yq A na x0 x1 x2 p (gx l 1))] [] 2 (fun l=> .ok .next) gl
noncomputable def Ss(T:BT)(xl:LN):LN:=[dZ T 2 0,dZ T 2 1,aY T 2 1,0]
noncomputable def JR(T:BT)(xl:LN):LN:=[dZ T 2 0,dZ T 2 1,aY T 2 1,zV xl 0]
noncomputable def Qo(T:BT)(xl:LN):LN:=[aY T 2 1,0]
noncomputable def KX(T:BT)(xl:LN):LN:=[aY T 2 1,zV xl 0]
section
variable{w:Wd}{os:OS}{a0 a1 a2 a3 a4 a5 x0 x1 x2 x3 p:Nat}{aA hds A:LV}{nr nh na i rt e f:Nat}{gl:LG}
theorem ZM:dy (model TW w) (bD w.params) os 410 (M1 [a0,a1,a2,a3,a4,a5] f) [a0,a1,a2,a3,a4,a5] (bW (J0 w.params [a0,a1,a2,a3,a4,a5] (bn (.ref a1) 0) aA nr (fe w.params none e) hds nh (bu A na)) [] [] 0 (fun _=> .ok .next) gl) (fun _=>Mi [a0,a1,a2,a3,a4,a5] f):=
 aQ (av w) (hdp:=440) (U:={}) ⟨ak,ak,al,(fun _ h=>nomatch h),(fun _ h=>nomatch h),(fun _ h=>nomatch h)⟩ [] Ig 27 [2,1,1,1,1,1,1,1,1,1]
theorem YW(hx:aA[i]? =some (.str ⟨⟨[x0,x1,x2,x3]⟩⟩ rt))(hpl:∀y∈hds,eg y=true)(hA1:A.length≤1000)(m1:∀u,cG (.str ⟨⟨[x0]⟩⟩ u) hds=true)(m2:∀u,cG (.str ⟨⟨[x0,x1]⟩⟩ u) hds=Ai p)(m3:∀u,cG (.str ⟨⟨[x0,x1,x2]⟩⟩ u) hds=iH p)(m4:∀u,cG (.str ⟨⟨[x0,x1,x2,x3]⟩⟩ u) hds=iH p):
 dy (model TW w) (bD w.params) os 410 (Mi [a0,a1,a2,a3,a4,a5] f) [a0,a1,a2,a3,a4,a5] (U8 w.params [a0,a1,a2,a3,a4,a5] x0 x1 x2 x3 p aA hds A nr nh na i rt none e gl) (fun _=>Mi [a0,a1,a2,a3,a4,a5] f):=by
 match p,m2,m3,m4 with
 |0,m2,m3,m4=>exact aQ (av w) (hdp:=440) (U:={hs:=[(aB (cJ aA nr i (.str ⟨⟨[x0,x1,x2,x3]⟩⟩ rt) [0,1])),(aB (bp hds ⟨⟨[x0]⟩⟩ true [4])),(aB (bp hds ⟨⟨[x0,x1]⟩⟩ true [4])),(aB (bp hds ⟨⟨[x0,x1,x2]⟩⟩ true [4])),(aB (bp hds ⟨⟨[x0,x1,x2,x3]⟩⟩ true [4]))]}) ⟨(ac (ae (cg hx)) (ac (ae (be hpl m1)) (ac (ae (be hpl m2)) (ac (ae (be hpl m3)) (ac (ae (be hpl m4)) ak))))),ak,al,(fun _ h=>nomatch h),(fun _ h=>nomatch h),(fun _ h=>nomatch h)⟩ [] Ss 260 KN
 |1,m2,m3,m4=>exact aQ (av w) (hdp:=440) (U:={hs:=[(aB (cJ aA nr i (.str ⟨⟨[x0,x1,x2,x3]⟩⟩ rt) [0,1])),(aB (bp hds ⟨⟨[x0]⟩⟩ true [4])),(aB (bp hds ⟨⟨[x0,x1]⟩⟩ true [4])),(aB (bp hds ⟨⟨[x0,x1,x2]⟩⟩ false [4])),(Cm (fun xl=>aR A na (fun u=> .str ⟨⟨[x0,x1,x2]⟩⟩ u) [5])),(aB (bp hds ⟨⟨[x0,x1,x2,x3]⟩⟩ false [4]))]}) ⟨(ac (ae (cg hx)) (ac (ae (be hpl m1)) (ac (ae (be hpl m2)) (ac (ae (be hpl m3)) (ac (c8 (fun _ _=>rfl) (fun xl=>(cK hA1))) (ac (ae (be hpl m4)) ak)))))),ak,al,(fun _ h=>nomatch h),(fun _ h=>nomatch h),(fun _ h=>nomatch h)⟩ [] JR 346 Lh
 |p+2,m2,m3,m4=>exact aQ (av w) (hdp:=440) (U:={hs:=[(aB (cJ aA nr i (.str ⟨⟨[x0,x1,x2,x3]⟩⟩ rt) [0,1])),(aB (bp hds ⟨⟨[x0]⟩⟩ true [4])),(aB (bp hds ⟨⟨[x0,x1]⟩⟩ false [4])),(Cm (fun xl=>aR A na (fun u=> .str ⟨⟨[x0,x1]⟩⟩ u) [5])),(aB (bp hds ⟨⟨[x0,x1,x2]⟩⟩ false [4])),(aB (bp hds ⟨⟨[x0,x1,x2,x3]⟩⟩ false [4]))]}) ⟨(ac (ae (cg hx)) (ac (ae (be hpl m1)) (ac (ae (be hpl m2)) (ac (c8 (fun _ _=>rfl) (fun xl=>(cK hA1))) (ac (ae (be hpl m3)) (ac (ae (be hpl m4)) ak)))))),ak,al,(fun _ h=>nomatch h),(fun _ h=>nomatch h),(fun _ h=>nomatch h)⟩ [] JR 380 Kt
theorem Ww{k1 k2 u v:Nat}{y0:Str}(hx:aA[i]? =some (.str ⟨⟨[x0,x1,x2,x3]⟩⟩ rt))(hpl:∀y∈hds,eg y=true)(hA1:A.length≤1000)(m1:∀u,cG (.str ⟨⟨[x0]⟩⟩ u) hds=true)(m2:∀u,cG (.str ⟨⟨[x0,x1]⟩⟩ u) hds=Ai p)(m3:∀u,cG (.str ⟨⟨[x0,x1,x2]⟩⟩ u) hds=iH p)(m4:∀u,cG (.str ⟨⟨[x0,x1,x2,x3]⟩⟩ u) hds=iH p):
 dy (model TW w) (bD w.params) os 410 (Mi [a0,a1,a2,a3,a4,a5] f) [a0,a1,a2,a3,a4,a5] (U8 w.params [a0,a1,a2,a3,a4,a5] x0 x1 x2 x3 p aA hds A nr nh na i rt (some (k1,k2,y0,u,v)) e gl) (fun _=>Mi [a0,a1,a2,a3,a4,a5] f):=by
 match p,m2,m3,m4 with
 |0,m2,m3,m4=>exact aQ (av w) (hdp:=440) (U:={hs:=[(aB (cJ aA nr i (.str ⟨⟨[x0,x1,x2,x3]⟩⟩ rt) [0,1])),(aB (bp hds ⟨⟨[x0]⟩⟩ true [4])),(aB (bp hds ⟨⟨[x0,x1]⟩⟩ true [4])),(aB (bp hds ⟨⟨[x0,x1,x2]⟩⟩ true [4])),(aB (bp hds ⟨⟨[x0,x1,x2,x3]⟩⟩ true [4]))]}) ⟨(ac (ae (cg hx)) (ac (ae (be hpl m1)) (ac (ae (be hpl m2)) (ac (ae (be hpl m3)) (ac (ae (be hpl m4)) ak))))),ak,al,(fun _ h=>nomatch h),(fun _ h=>nomatch h),(fun _ h=>nomatch h)⟩ [] Qo 260 KN
 |1,m2,m3,m4=>exact aQ (av w) (hdp:=440) (U:={hs:=[(aB (cJ aA nr i (.str ⟨⟨[x0,x1,x2,x3]⟩⟩ rt) [0,1])),(aB (bp hds ⟨⟨[x0]⟩⟩ true [4])),(aB (bp hds ⟨⟨[x0,x1]⟩⟩ true [4])),(aB (bp hds ⟨⟨[x0,x1,x2]⟩⟩ false [4])),(Cm (fun xl=>aR A na (fun u=> .str ⟨⟨[x0,x1,x2]⟩⟩ u) [5])),(aB (bp hds ⟨⟨[x0,x1,x2,x3]⟩⟩ false [4]))]}) ⟨(ac (ae (cg hx)) (ac (ae (be hpl m1)) (ac (ae (be hpl m2)) (ac (ae (be hpl m3)) (ac (c8 (fun _ _=>rfl) (fun xl=>(cK hA1))) (ac (ae (be hpl m4)) ak)))))),ak,al,(fun _ h=>nomatch h),(fun _ h=>nomatch h),(fun _ h=>nomatch h)⟩ [] KX 346 Lh
 |p+2,m2,m3,m4=>exact aQ (av w) (hdp:=440) (U:={hs:=[(aB (cJ aA nr i (.str ⟨⟨[x0,x1,x2,x3]⟩⟩ rt) [0,1])),(aB (bp hds ⟨⟨[x0]⟩⟩ true [4])),(aB (bp hds ⟨⟨[x0,x1]⟩⟩ false [4])),(Cm (fun xl=>aR A na (fun u=> .str ⟨⟨[x0,x1]⟩⟩ u) [5])),(aB (bp hds ⟨⟨[x0,x1,x2]⟩⟩ false [4])),(aB (bp hds ⟨⟨[x0,x1,x2,x3]⟩⟩ false [4]))]}) ⟨(ac (ae (cg hx)) (ac (ae (be hpl m1)) (ac (ae (be hpl m2)) (ac (c8 (fun _ _=>rfl) (fun xl=>(cK hA1))) (ac (ae (be hpl m3)) (ac (ae (be hpl m4)) ak)))))),ak,al,(fun _ h=>nomatch h),(fun _ h=>nomatch h),(fun _ h=>nomatch h)⟩ [] KX 380 Kt
theorem YI{k1 k2 u v:Nat}{y0:Str}(hx:aA.length≤i):
 cb (model TW w) (bD w.params) os 410 (Mi [a0,a1,a2,a3,a4,a5] f) [a0,a1,a2,a3,a4,a5] (bW (J0 w.params [a0,a1,a2,a3,a4,a5] (bn (.ref a1) i) aA nr (fe w.params (some (k1,k2,y0,u,v)) e) hds nh (bu A na)) [(0,fun _=>bn .none i)] [] 0 (fun _=> .ok .next) gl):=
 aq (av w) (hdp:=440) (U:={hs:=[(aB (rB aA nr i [0,1]))]}) ⟨(ac (ae (oQ hx (by decide))) ak),ak,al,(fun _ h=>nomatch h),(fun _ h=>nomatch h),(fun _ h=>nomatch h)⟩ [] HZ 13 [1,0,1,2,7]
end
end
section
open PySem.SeqAt PySem.MeetsSeq PySem.Calls PyProof.Rows
noncomputable def xd(x:Nat→Nat→Nat)(pp:NN)(i:Nat)(l:LN):LV:=(List.range i).flatMap fun j=>C_ (x j 0) (x j 1) (x j 2) (pp j) (gx l (2*j+3))
noncomputable def gy(pp:NN):Nat→Nat
 |0=>0
 |i+1=>gy pp i+zF (pp i)
noncomputable def cW(pp:NN)(N:Nat):LN:=(List.range N).filter fun j=> !Nat.beq (zF (pp j)) 0
noncomputable def dh(x:Nat→Nat→Nat)(pp:NN)(j:Nat):Str:=match pp j with
 |1=>⟨⟨[x j 0,x j 1,x j 2]⟩⟩
 |_=>⟨⟨[x j 0,x j 1]⟩⟩
noncomputable def dd(x:Nat→Nat→Nat)(pp:NN)(N j:Nat):Str:=dh x pp (gx (cW pp N) j)
noncomputable def Sn(pp:NN)(N j:Nat):Nat:=2*gx (cW pp N) j+3
noncomputable def deV(x:Nat→Nat→Nat)(pp:NN)(N M:Nat)(l:LN):LV:=(List.range M).map fun j=> .str (dd x pp N j) (gx l (Sn pp N j))
theorem Fs(x0 x1 x2 p u:Nat):(C_ x0 x1 x2 p u).length=zF p:=by
 match p with
 |0=>rfl
 |1=>rfl
 |p+2=>rfl
theorem eG(x:Nat→Nat→Nat)(pp:NN)(i:Nat)(l:LN):xd x pp (i+1) l=xd x pp i l++C_ (x i 0) (x i 1) (x i 2) (pp i) (gx l (2*i+3)):=by
 unfold xd
 rw[List.range_succ,List.flatMap_append]
 simp
theorem BL(x:Nat→Nat→Nat)(pp:NN)(l:LN):∀i,(xd x pp i l).length=gy pp i
 |0=>rfl
 |i+1=>by rw[eG,List.length_append,BL x pp l i,Fs];rfl
theorem A7(pp:NN):∀i,gy pp i≤i
 |0=>Nat.le_refl _
 |i+1=>by
  have:=A7 pp i
  have h:zF (pp i)≤1:=by
   match pp i with
   |0=>exact Nat.zero_le _
   |p+1=>exact Nat.le_refl _
  show gy pp i+zF (pp i)≤i+1
  omega
theorem qH:∀(L:LN),(List.range L.length).map (fun j=>gx L j)=L
 |[]=>rfl
 |a::L=>by
  rw[List.length_cons,List.range_succ_eq_map,List.map_cons,List.map_map]
  exact congrArg (a::·) (qH L)
theorem sR(x:Nat→Nat→Nat)(pp:NN)(l:LN):∀N,xd x pp N l=(cW pp N).map fun j=> .str (dh x pp j) (gx l (2*j+3))
 |0=>rfl
 |N+1=>by
  rw[eG,sR x pp l N]
  unfold cW
  rw[List.range_succ,List.filter_append,List.map_append]
  congr 1
  match hp:pp N with
  |0=>
   have hq:(!Nat.beq (zF (pp N)) 0)=false:=by rw[hp];rfl
   rw[List.filter_cons,hq]
   rfl
  |1=>
   have hq:(!Nat.beq (zF (pp N)) 0)=true:=by rw[hp];rfl
   rw[List.filter_cons,hq,if_pos rfl,List.filter_nil,List.map_cons,List.map_nil]
   unfold dh
   rw[hp]
   rfl
  |p+2=>
   have hq:(!Nat.beq (zF (pp N)) 0)=true:=by rw[hp];rfl
   rw[List.filter_cons,hq,if_pos rfl,List.filter_nil,List.map_cons,List.map_nil]
   unfold dh
   rw[hp]
   rfl
theorem IU(x:Nat→Nat→Nat)(pp:NN)(N M:Nat)(hM:(cW pp N).length=M)(l:LN):xd x pp N l=deV x pp N M l:=by
 rw[sR]
 subst hM
 unfold deV dd Sn
 conv=>lhs;rw[←qH (cW pp N)]
 rw[List.map_map]
 rfl
theorem BV(pp:NN):∀N,gy pp N=(cW pp N).length
 |0=>rfl
 |N+1=>by
  show gy pp N+zF (pp N)=_
  rw[BV pp N]
  unfold cW
  rw[List.range_succ,List.filter_append,List.length_append]
  congr 1
  match hp:pp N with
  |0=>
   have hq:(!Nat.beq (zF (pp N)) 0)=false:=by rw[hp];rfl
   rw[List.filter_cons,hq]
   rfl
  |p+1=>
   have hq:(!Nat.beq (zF (pp N)) 0)=true:=by rw[hp];rfl
   rw[List.filter_cons,hq,if_pos rfl,List.filter_nil]
   rfl
theorem BD(x:Nat→Nat→Nat)(pp:NN){l ts:LN}:∀k,2+2*k≤l.length→xd x pp k (l++ts)=xd x pp k l
 |0,_=>rfl
 |k+1,h=>by rw[eG,eG,BD x pp k (by omega),dG (by omega)]
noncomputable def Gf(P:Pm)(ad:LN)(x:Nat→Nat→Nat)(rt pp:NN)(aA hds:LV)(nr nh na e i:Nat)(l:LN):LL:=match i with
 |0=>J0 P ad (bn (.ref (gx ad 1)) 0) aA nr (fe P none e) hds nh (bu [] na)
 |i+1=>J0 P ad (bn (.ref (gx ad 1)) (i+1)) aA nr (fe P (some (gx l 0,gx l 1,bM x i,rt i,gx l (2*i+2))) (e+2)) hds nh (bu (xd x pp (i+1) l) (na+gy pp (i+1)))
noncomputable def Gm(P:Pm)(ad:LN)(x:Nat→Nat→Nat)(rt pp:NN)(aA hds:LV)(nr nh na e N M:Nat)(l:LN):LL:=
 J0 P ad (bn .none N) aA nr (fe P (some (gx l 0,gx l 1,bM x (N -1),rt (N -1),gx l (2*(N -1)+2))) (e+2)) hds nh (bu (deV x pp N M l) (na+M))
noncomputable def Tg:Nat→Nat
 |0=>0
 |i+1=>2+2*(i+1)
section
variable{w:Wd}{os:OS}{a0 a1 a2 a3 a4 a5:Nat}{aA hds:LV}{nr nh na e f:Nat}{gl:LG}{x:Nat→Nat→Nat}{rt pp:NN}{N M:Nat}
theorem DJ(hN:0<N)(hN2:N≤900)(hlen:aA.length=N)(hrows:∀i<N,aA[i]? =some (.str (bM x i) (rt i)))(hpl:∀y∈hds,eg y=true)
 (m1:∀i<N,∀u,cG (.str ⟨⟨[x i 0]⟩⟩ u) hds=true)(m2:∀i<N,∀u,cG (.str ⟨⟨[x i 0,x i 1]⟩⟩ u) hds=Ai (pp i))(m3:∀i<N,∀u,cG (.str ⟨⟨[x i 0,x i 1,x i 2]⟩⟩ u) hds=iH (pp i))(m4:∀i<N,∀u,cG (.str ⟨⟨[x i 0,x i 1,x i 2,x i 3]⟩⟩ u) hds=iH (pp i))(hM:(cW pp N).length=M):
 cb (model TW w) (bD w.params) os 410 (M1 [a0,a1,a2,a3,a4,a5] f) [a0,a1,a2,a3,a4,a5] (zt (Gf w.params [a0,a1,a2,a3,a4,a5] x rt pp aA hds nr nh na e 0 []) (Gm w.params [a0,a1,a2,a3,a4,a5] x rt pp aA hds nr nh na e N M) 6 (2+2*N) gl):=by
 intro s K0 g hl hA0 nd hk
 refine hW (c:=Mi [a0,a1,a2,a3,a4,a5] f) (n:=N) (len:=Tg) (ob:=Gf w.params [a0,a1,a2,a3,a4,a5] x rt pp aA hds nr nh na e) nd hk ?_ rfl ?_ ?_ rfl ?_ (fun _=>rfl) s K0 g hl hA0
 ·intro s Q R next
  exact cN nd hk ZM rfl rfl rfl rfl rfl rfl R fun l s' _ R'=>next s' R'
 ·intro i l s0 s Q hi hl R next
  cases i with
  |zero=>
   have hl:l=[]:=List.length_eq_zero_iff.mp hl
   subst hl
   refine cN nd hk (YW (gl:=gl) (na:=na) (nr:=nr) (nh:=nh) (e:=e) (f:=f) (hrows 0 hN) hpl (A:=[]) (Nat.zero_le _) (m1 0 hN) (m2 0 hN) (m3 0 hN) (m4 0 hN)) rfl rfl rfl rfl rfl rfl R fun ts s' htl R'=> ?_
   have htl:ts.length=4:=htl
   refine next ts s' htl ?_
   have e1:(U8 w.params [a0,a1,a2,a3,a4,a5] (x 0 0) (x 0 1) (x 0 2) (x 0 3) (pp 0) aA hds [] nr nh na 0 (rt 0) none e gl).post.map (· ts)=Gf w.params [a0,a1,a2,a3,a4,a5] x rt pp aA hds nr nh na e 1 ts:=by
    show [bn (.ref a1) (0+1),_,_,_,_,yq [] na (x 0 0) (x 0 1) (x 0 2) (pp 0) (gx ts 3)]=[_,_,_,_,_,bu (xd x pp 1 ts) (na+gy pp 1)]
    rw[xA,eG]
    show _=[_,_,_,_,_,bu ([]++C_ (x 0 0) (x 0 1) (x 0 2) (pp 0) (gx ts 3)) (na+(0+zF (pp 0)))]
    rw[Nat.zero_add (zF (pp 0))]
    rfl
   exact e1▸R'
  |succ i=>
   have hl:l.length=2+2*(i+1):=hl
   refine cN nd hk (Ww (gl:=gl) (na:=na+gy pp (i+1)) (nr:=nr) (nh:=nh) (e:=e+2) (f:=f) (k1:=gx l 0) (k2:=gx l 1) (u:=rt i) (v:=gx l (2*i+2)) (y0:=bM x i) (hrows (i+1) hi) hpl (A:=xd x pp (i+1) l) (by rw[BL];have:=A7 pp (i+1);omega) (m1 (i+1) hi) (m2 (i+1) hi) (m3 (i+1) hi) (m4 (i+1) hi)) rfl rfl rfl rfl rfl rfl R fun ts s' htl R'=> ?_
   have htl:ts.length=2:=htl
   obtain⟨u,v,rfl⟩:∃u v,ts=[u,v]:=by
    match ts,htl with
    |[u,v],_=>exact⟨u,v,rfl⟩
   refine next (l++ [u,v]) s' (by rw[List.length_append,hl];show 2+2*(i+1)+2=2+2*(i+1+1);omega) ?_
   have g0:gx (l++ [u,v]) 0=gx l 0:=dG (by omega)
   have g1:gx (l++ [u,v]) 1=gx l 1:=dG (by omega)
   have g2:gx (l++ [u,v]) (2*(i+1)+2)=u:=by rw[show 2*(i+1)+2=l.length+0 by omega];exact d_
   have g3:gx (l++ [u,v]) (2*(i+1)+3)=v:=by rw[show 2*(i+1)+3=l.length+1 by omega];exact d_
   have eA:xd x pp (i+1+1) (l++ [u,v])=xd x pp (i+1) l++C_ (x (i+1) 0) (x (i+1) 1) (x (i+1) 2) (pp (i+1)) v:=by
    rw[eG,g3]
    congr 1
    exact BD x pp (i+1) (by omega)
   have e1:(U8 w.params [a0,a1,a2,a3,a4,a5] (x (i+1) 0) (x (i+1) 1) (x (i+1) 2) (x (i+1) 3) (pp (i+1)) aA hds (xd x pp (i+1) l) nr nh (na+gy pp (i+1)) (i+1) (rt (i+1)) (some (gx l 0,gx l 1,bM x i,rt i,gx l (2*i+2))) (e+2) gl).post.map (· [u,v])=Gf w.params [a0,a1,a2,a3,a4,a5] x rt pp aA hds nr nh na e (i+1+1) (l++ [u,v]):=by
    show [bn (.ref a1) (i+1+1),_,fe w.params (some (gx l 0,gx l 1,bM x (i+1),rt (i+1),u)) (e+2),_,_,yq (xd x pp (i+1) l) (na+gy pp (i+1)) (x (i+1) 0) (x (i+1) 1) (x (i+1) 2) (pp (i+1)) v]=[_,_,fe w.params (some (gx (l++ [u,v]) 0,gx (l++ [u,v]) 1,bM x (i+1),rt (i+1),gx (l++ [u,v]) (2*(i+1)+2))) (e+2),_,_,bu (xd x pp (i+1+1) (l++ [u,v])) (na+gy pp (i+1+1))]
    rw[xA,eA,g0,g1,g2,show na+gy pp (i+1+1)=na+gy pp (i+1)+zF (pp (i+1)) from(Nat.add_assoc _ _ _).symm]
    rfl
   exact e1▸R'
 ·intro l s0 s Q hl R next
  obtain⟨i,rfl⟩:∃i,N=i+1:=⟨N -1,by omega⟩
  refine ub nd hk (YI (gl:=gl) (A:=xd x pp (i+1) l) (na:=na+gy pp (i+1)) (nr:=nr) (nh:=nh) (hds:=hds) (e:=e+2) (f:=f) (k1:=gx l 0) (k2:=gx l 1) (u:=rt i) (v:=gx l (2*i+2)) (y0:=bM x i) (aA:=aA) (i:=i+1) (by omega)) rfl rfl rfl rfl rfl rfl R fun ts s' _ R'=>next s' ?_
  have e1:Gm w.params [a0,a1,a2,a3,a4,a5] x rt pp aA hds nr nh na e (i+1) M l=J0 w.params [a0,a1,a2,a3,a4,a5] (bn .none (i+1)) aA nr (fe w.params (some (gx l 0,gx l 1,bM x i,rt i,gx l (2*i+2))) (e+2)) hds nh (bu (xd x pp (i+1) l) (na+gy pp (i+1))):=by
   rw[BV,hM,IU x pp (i+1) M hM]
   rfl
  rw[e1]
  exact R'
 ·obtain⟨i,rfl⟩:∃i,N=i+1:=⟨N -1,by omega⟩
  rfl
noncomputable def Es(P:Pm)(x:Nat→Nat→Nat)(rt pp:NN)(aA hds:LV)(N M:Nat)(slots:LN):Hk:=
 ⟨slots,fun ad _ c=>M1 ad (Ju c 1),fun gl ad obs _=>zt (Gf P ad x rt pp aA hds (bO (gO obs 1)) (bO (gO obs 4)) (bO (gO obs 5)) (bO (gO obs 2)) 0 []) (Gm P ad x rt pp aA hds (bO (gO obs 1)) (bO (gO obs 4)) (bO (gO obs 5)) (bO (gO obs 2)) N M) 6 (2+2*N) gl,aC⟩
theorem Jb(hN:0<N)(hN2:N≤900)(hlen:aA.length=N)(hrows:∀i<N,aA[i]? =some (.str (bM x i) (rt i)))(hpl:∀y∈hds,eg y=true)
 (m1:∀i<N,∀u,cG (.str ⟨⟨[x i 0]⟩⟩ u) hds=true)(m2:∀i<N,∀u,cG (.str ⟨⟨[x i 0,x i 1]⟩⟩ u) hds=Ai (pp i))(m3:∀i<N,∀u,cG (.str ⟨⟨[x i 0,x i 1,x i 2]⟩⟩ u) hds=iH (pp i))(m4:∀i<N,∀u,cG (.str ⟨⟨[x i 0,x i 1,x i 2,x i 3]⟩⟩ u) hds=iH (pp i))(hM:(cW pp N).length=M){slots:LN}(hn:slots.Nodup){hdp:Nat}(hd:hdp≤410):(Es w.params x rt pp aA hds N M slots).Ok (bs w.params w.params) w os hdp:=
 ⟨hn,fun gl ad obs c=>aE hd (by
  intro s K' g hL
  have hL':ad.length=6:=hL
  obtain⟨y9,hf9⟩:=J_ hL'
  have hf9:ad=[y9 0,y9 1,y9 2,y9 3,y9 4,y9 5]:=hf9
  subst hf9
  exact DJ hN hN2 hlen hrows hpl m1 m2 m3 m4 hM s K' g hL)⟩
end
end
section
open PySem.SeqAt PySem.MeetsSeq PySem.Calls PyProof.Rows
section
variable{w:Wd}{os:OS}{hdp:Nat}{slots:LN}
theorem IN{x y:Int}{t u:Tok}{b:Bool}{gl:LG}(h:decide (x=y)=b):
 cb (model TW w) (bD w.params) os 600 (.call (.builtin "int.__eq__") ⟨[.int x t,.int y u],[]⟩) [] (aL [] gl 0 fun _=> .ok (.ret (.bool b))):=by
 subst h
 exact aG (av w) (hdp:=700) (hs:=[]) (ks:=[]) ak ak [] (fun _ _ _=> []) 20 [0,0,0,0,0,0]
noncomputable def gH(x y:Int)(b:Bool)(slots:LN):Hk:=
 ⟨slots,fun _ _ c=> .call (.builtin "int.__eq__") ⟨[.int x (bz (b_ c 0)),.int y (bz (b_ c 1))],[]⟩,fun gl _ _ _=>aL [] gl 0 fun _=> .ok (.ret (.bool b)),aC⟩
theorem eU{x y:Int}{b:Bool}{hdp:Nat}(h:decide (x=y)=b)(hn:slots.Nodup:=by decide)(hd:hdp≤600:=by decide):(gH x y b slots).Ok (bs w.params w.params) w os hdp:=
 ⟨hn,fun gl ad obs c=>aE hd (by
  intro s K g hl
  obtain rfl:ad=[]:=List.length_eq_zero_iff.mp hl
  exact IN h s K g hl)⟩
noncomputable def gG(x y:Str)(i:Int):Int:=match Builtin.Str.occurrences x y (PySem.fromIndex x.length i) x.length 1 with
 |k::_=>(k:Int)
 |[]=> -1
theorem CJ{x y:Str}{i q:Int}{t u v:Tok}{p:Program}{kt:KT}{gl:LG}{dep:Nat}(h:gG x y i=q):
 cb (model p w) kt os dep (.call (.builtin "str.find") ⟨[.str x t,.str y u,.int i v],[]⟩) [] (aL [] gl 1 fun l=> .ok (.ret (.int q (gx l 0)))):=by
 subst h
 refine cH PySem.F.slot_str_find PySem.F.entry_str_find (PySem.F.args_str_find_3 _ _ _) fun s K g l' q _ hk=> ?_
 refine⟨typeIs_str s x t,?_⟩
 exact gives_str_find_from x y i t u v p w (AG dep) (fp (aL [] gl 1 fun l=> .ok (.ret (.int (gG x y i) (gx l 0)))) [] s) s (eK K g q _ _)
noncomputable def dH(x y:Str)(i q:Int)(slots:LN):Hk:=
 ⟨slots,fun _ _ c=> .call (.builtin "str.find") ⟨[.str x (bz (b_ c 0)),.str y (bz (b_ c 1)),.int i (bz (b_ c 2))],[]⟩,fun gl _ _ _=>aL [] gl 1 fun l=> .ok (.ret (.int q (gx l 0))),aC⟩
theorem dj{x y:Str}{i q:Int}{hdp:Nat}(h:gG x y i=q)(hn:slots.Nodup:=by decide):(dH x y i q slots).Ok (bs w.params w.params) w os hdp:=
 ⟨hn,fun gl ad obs c=>by
  intro s K g hl
  obtain rfl:ad=[]:=List.length_eq_zero_iff.mp hl
  exact CJ h s K g hl⟩
end
end
section
variable(w:Wd)(os:OS)
noncomputable def No(X:Str)(s0 s1 s2:Nat)(q0 q1 q2:Int):PC:=fun ad t=>(.call (.ref 857) ⟨[.str ⟨⟨[s0,s1,s2]⟩⟩ (t 0),.str X (t 1)],[]⟩)
noncomputable def NE(X:Str)(s0 s1 s2:Nat)(q0 q1 q2:Int):PO:=fun P ad t=>[]
noncomputable def N_(X:Str)(s0 s1 s2:Nat)(q0 q1 q2:Int):PS:=fun P gl ad t=>bW (NE X s0 s1 s2 q0 q1 q2 P ad t) [] [] 0 (fun l=> .ok (.ret (.bool false))) gl
noncomputable def Om(r:Re)(T:BT)(xl:LN):LN:=[]
theorem VD(X:Str)(s0 s1 s2:Nat)(q0 q1 q2:Int)(hA:(⟨⟨[s0,s1,s2]⟩⟩:Str).cps.all (· <128)=true)(h0:gG X ⟨⟨[s0]⟩⟩ 0=q0)(e0:decide (q0+1=0)=false)(h1:gG X ⟨⟨[s1]⟩⟩ (q0+1)=q1)(e1:decide (q1+1=0)=false)(h2:gG X ⟨⟨[s2]⟩⟩ (q1+1)=q2)(e2:decide (q2+1=0)=true)(gl:LG)(t:NN):SA w os 520 (No X s0 s1 s2 q0 q1 q2) (N_ X s0 s1 s2 q0 q1 q2 w.params gl) [] t:=
 aq (av w) (hdp:=560) (U:={hs:=[(aB (de ⟨⟨[s0,s1,s2]⟩⟩ [])),(aB (dH X ⟨⟨[s0]⟩⟩ 0 q0 [])),(aB (gH (q0+1) 0 false [])),(aB (dH X ⟨⟨[s1]⟩⟩ (q0+1) q1 [])),(aB (gH (q1+1) 0 false [])),(aB (dH X ⟨⟨[s2]⟩⟩ (q1+1) q2 [])),(aB (gH (q2+1) 0 true []))],ks:=[],sam:=[],fa:=[],fb:=[],f3:=[]}) ⟨(ac (ae (cZ hA)) (ac (ae (dj h0)) (ac (ae (eU e0)) (ac (ae (dj h1)) (ac (ae (eU e1)) (ac (ae (dj h2)) (ac (ae (eU e2)) ak))))))),ak,al,(fun _ h=>nomatch h),(fun _ h=>nomatch h),(fun _ h=>nomatch h)⟩ [] Om 194 (J [Gd,Cn,[6],ō2,iz,[7]])
noncomputable def Ox(X:Str)(s0 s1 s2:Nat)(q0 q1 q2:Int):PC:=fun ad t=>(.call (.ref 857) ⟨[.str ⟨⟨[s0,s1,s2]⟩⟩ (t 0),.str X (t 1)],[]⟩)
noncomputable def Pn(X:Str)(s0 s1 s2:Nat)(q0 q1 q2:Int):PO:=fun P ad t=>[]
noncomputable def Oq(X:Str)(s0 s1 s2:Nat)(q0 q1 q2:Int):PS:=fun P gl ad t=>bW (Pn X s0 s1 s2 q0 q1 q2 P ad t) [] [] 0 (fun l=> .ok (.ret (.bool false))) gl
noncomputable def L3(r:Re)(T:BT)(xl:LN):LN:=[]
theorem aan(X:Str)(s0 s1 s2:Nat)(q0 q1 q2:Int)(hA:(⟨⟨[s0,s1,s2]⟩⟩:Str).cps.all (· <128)=true)(h0:gG X ⟨⟨[s0]⟩⟩ 0=q0)(e0:decide (q0+1=0)=false)(h1:gG X ⟨⟨[s1]⟩⟩ (q0+1)=q1)(e1:decide (q1+1=0)=true)(gl:LG)(t:NN):SA w os 520 (Ox X s0 s1 s2 q0 q1 q2) (Oq X s0 s1 s2 q0 q1 q2 w.params gl) [] t:=
 aq (av w) (hdp:=560) (U:={hs:=[(aB (de ⟨⟨[s0,s1,s2]⟩⟩ [])),(aB (dH X ⟨⟨[s0]⟩⟩ 0 q0 [])),(aB (gH (q0+1) 0 false [])),(aB (dH X ⟨⟨[s1]⟩⟩ (q0+1) q1 [])),(aB (gH (q1+1) 0 true []))],ks:=[],sam:=[],fa:=[],fb:=[],f3:=[]}) ⟨(ac (ae (cZ hA)) (ac (ae (dj h0)) (ac (ae (eU e0)) (ac (ae (dj h1)) (ac (ae (eU e1)) ak))))),ak,al,(fun _ h=>nomatch h),(fun _ h=>nomatch h),(fun _ h=>nomatch h)⟩ [] L3 143 Gd
noncomputable def TS(X:Str)(s0 s1 s2:Nat)(q0 q1 q2:Int):PC:=fun ad t=>(.call (.ref 857) ⟨[.str ⟨⟨[s0,s1,s2]⟩⟩ (t 0),.str X (t 1)],[]⟩)
noncomputable def Tl(X:Str)(s0 s1 s2:Nat)(q0 q1 q2:Int):PO:=fun P ad t=>[]
noncomputable def Rt(X:Str)(s0 s1 s2:Nat)(q0 q1 q2:Int):PS:=fun P gl ad t=>bW (Tl X s0 s1 s2 q0 q1 q2 P ad t) [] [] 0 (fun l=> .ok (.ret (.bool true))) gl
noncomputable def Q6(r:Re)(T:BT)(xl:LN):LN:=[]
theorem tkS(X:Str)(s0 s1 s2:Nat)(q0 q1 q2:Int)(hA:(⟨⟨[s0,s1,s2]⟩⟩:Str).cps.all (· <128)=true)(h0:gG X ⟨⟨[s0]⟩⟩ 0=q0)(e0:decide (q0+1=0)=false)(h1:gG X ⟨⟨[s1]⟩⟩ (q0+1)=q1)(e1:decide (q1+1=0)=false)(h2:gG X ⟨⟨[s2]⟩⟩ (q1+1)=q2)(e2:decide (q2+1=0)=false)(gl:LG)(t:NN):SA w os 520 (TS X s0 s1 s2 q0 q1 q2) (Rt X s0 s1 s2 q0 q1 q2 w.params gl) [] t:=
 aq (av w) (hdp:=560) (U:={hs:=[(aB (de ⟨⟨[s0,s1,s2]⟩⟩ [])),(aB (dH X ⟨⟨[s0]⟩⟩ 0 q0 [])),(aB (gH (q0+1) 0 false [])),(aB (dH X ⟨⟨[s1]⟩⟩ (q0+1) q1 [])),(aB (gH (q1+1) 0 false [])),(aB (dH X ⟨⟨[s2]⟩⟩ (q1+1) q2 [])),(aB (gH (q2+1) 0 false []))],ks:=[],sam:=[],fa:=[],fb:=[],f3:=[]}) ⟨(ac (ae (cZ hA)) (ac (ae (dj h0)) (ac (ae (eU e0)) (ac (ae (dj h1)) (ac (ae (eU e1)) (ac (ae (dj h2)) (ac (ae (eU e2)) ak))))))),ak,al,(fun _ h=>nomatch h),(fun _ h=>nomatch h),(fun _ h=>nomatch h)⟩ [] Q6 212 (J [Gd,Cn,[6],ō2,iz,[7],w4,fk,[2,4,0]])
end
section
open PySem.SeqAt PySem.MeetsSeq PySem.Calls PyProof.Rows
noncomputable def yJ(X:Str)(s0 s1 s2:Nat):Bool:=match decide (gG X ⟨⟨[s1]⟩⟩ (gG X ⟨⟨[s0]⟩⟩ 0+1)+1=0) with
 |true=>false
 |false=> !decide (gG X ⟨⟨[s2]⟩⟩ (gG X ⟨⟨[s1]⟩⟩ (gG X ⟨⟨[s0]⟩⟩ 0+1)+1)+1=0)
section
variable{w:Wd}{os:OS}
theorem Js{X:Str}{s0 s1 s2:Nat}{st xt:Tok}{b:Bool}{gl:LG}(hA:(⟨⟨[s0,s1,s2]⟩⟩:Str).cps.all (· <128)=true)(h0:decide (gG X ⟨⟨[s0]⟩⟩ 0+1=0)=false)(hb:yJ X s0 s1 s2=b):
 cb (model TW w) (bD w.params) os 520 (.call (.ref 857) ⟨[.str ⟨⟨[s0,s1,s2]⟩⟩ st,.str X xt],[]⟩) [] (aL [] gl 0 fun _=> .ok (.ret (.bool b))):=by
 unfold yJ at hb
 cases h1:decide (gG X ⟨⟨[s1]⟩⟩ (gG X ⟨⟨[s0]⟩⟩ 0+1)+1=0) with
 |true=>
  rw[h1] at hb
  subst hb
  exact aan w os X s0 s1 s2 _ _ 0 hA rfl h0 rfl h1 gl (gx [st,xt])
 |false=>
  rw[h1] at hb
  cases h2:decide (gG X ⟨⟨[s2]⟩⟩ (gG X ⟨⟨[s1]⟩⟩ (gG X ⟨⟨[s0]⟩⟩ 0+1)+1)+1=0) with
  |true=>
   rw[h2] at hb
   subst hb
   exact VD w os X s0 s1 s2 _ _ _ hA rfl h0 rfl h1 rfl h2 gl (gx [st,xt])
  |false=>
   rw[h2] at hb
   subst hb
   exact tkS w os X s0 s1 s2 _ _ _ hA rfl h0 rfl h1 rfl h2 gl (gx [st,xt])
noncomputable def di(X:Str)(s0 s1 s2:Nat)(b:Bool)(slots:LN):Hk:=
 ⟨slots,fun _ _ c=> .call (.ref 857) ⟨[.str ⟨⟨[s0,s1,s2]⟩⟩ (bz (b_ c 0)),.str X (bz (b_ c 1))],[]⟩,fun gl _ _ _=>aL [] gl 0 fun _=> .ok (.ret (.bool b)),aC⟩
theorem cF{X:Str}{s0 s1 s2:Nat}{b:Bool}{hdp:Nat}{slots:LN}(hA:(⟨⟨[s0,s1,s2]⟩⟩:Str).cps.all (· <128)=true)(h0:decide (gG X ⟨⟨[s0]⟩⟩ 0+1=0)=false)(hb:yJ X s0 s1 s2=b)(hn:slots.Nodup:=by decide)(hd:hdp≤520:=by decide):(di X s0 s1 s2 b slots).Ok (bs w.params w.params) w os hdp:=
 ⟨hn,fun gl ad obs c=>aE hd (by
  intro s K g hl
  obtain rfl:ad=[]:=List.length_eq_zero_iff.mp hl
  exact Js hA h0 hb s K g hl)⟩
end
end
section
open PySem.SeqAt PySem.MeetsSeq PySem.Calls PyProof.Rows
noncomputable def J8:Str:=⟨⟨[104,101,108,100]⟩⟩
noncomputable def duE(ad:LN)(f:Nat):Env:={scope:={c7 [48,12,0] with names:=[(pf,.local),(yI,.cell),(J8,.cell)]},locals:=(gx ad 2),globals:=3,cells:=[(yI,(gx ad 3)),(J8,(gx ad 4))],qual:=bf,func:=none,code:=(.ref 880),frame:=(some f),builtins:=0}
noncomputable def O7(ad:LN)(f:Nat):Code:= .compStart (d9 [48,12,0]) 0 (.ref (gx ad 0)) (.ref (gx ad 6)) (duE ad f)
noncomputable def M4(ad:LN)(f:Nat):Code:= .compLoop (d9 [48,12,0]) 0 (.ref (gx ad 0)) (.ref (gx ad 6)) (duE ad f)
noncomputable def duL(hh:Nat→Nat→Nat)(ht:NN):LV:=[.str ⟨⟨[hh 0 0,hh 0 1,hh 0 2]⟩⟩ (ht 0),.str ⟨⟨[hh 1 0,hh 1 1,hh 1 2]⟩⟩ (ht 1),.str ⟨⟨[hh 2 0,hh 2 1,hh 2 2]⟩⟩ (ht 2),.str ⟨⟨[hh 3 0,hh 3 1,hh 3 2]⟩⟩ (ht 3)]
noncomputable def JP(m:Option (Str×Nat)):Obj:=O (.type "cell") none (.cell (match m with
 |none=>none
 |some k=>some (.str k.1 k.2))) ⟨[]⟩
noncomputable def Ou(P:Pm)(ad:LN)(it:Obj)(aA:LV)(nr e nh:Nat)(m:Option (Str×Nat))(hh:Nat→Nat→Nat)(ht:NN)(acc:Obj):LL:=
 [it,bu aA nr,(O (.type "dict") none (.dict ⟨[]⟩ e) ⟨[]⟩),JP m,(O (.type "cell") none (.cell (some (.ref (gx ad 5)))) ⟨[]⟩),bu (duL hh ht) nh,acc]
noncomputable def UV(P:Pm)(ad:LN)(x0 x1 x2 x3:Nat)(B:Bool)(aA A:LV)(nr na e nh i rt:Nat)(m:Option (Str×Nat))(hh:Nat→Nat→Nat)(ht:NN)(gl:LG):Spec:=
 bW (Ou P ad (bn (.ref (gx ad 1)) i) aA nr e nh m hh ht (bu A na)) [(0,fun l=>bn (.ref (gx ad 1)) (i+1)),(3,fun l=>JP (some (⟨⟨[x0,x1,x2,x3]⟩⟩,rt))),(6,fun l=>bu (A++ [.int (hH B) (gx l 0)]) (na+1))] [] 1 (fun l=> .ok .next) gl
noncomputable def Vn(T:BT)(xl:LN):LN:=[zV xl 0]
theorem HJ{b0 b1 b2 b3:Bool}:∀y∈[Value.bool b0,.bool b1,.bool b2,.bool b3],eg y=true:=by
 intro y hy
 simp only[List.mem_cons,List.mem_nil_iff,or_false] at hy
 rcases hy with rfl|rfl|rfl|rfl<;>rfl
section
variable{w:Wd}{os:OS}{a0 a1 a2 a3 a4 a5 a6 x0 x1 x2 x3:Nat}{b0 b1 b2 b3 B:Bool}{aA A:LV}{nr na i rt e f nh:Nat}{hh:Nat→Nat→Nat}{ht:NN}{gl:LG}
theorem XT{m:Option (Str×Nat)}:dy (model TW w) (bD w.params) os 410 (O7 [a0,a1,a2,a3,a4,a5,a6] f) [a0,a1,a2,a3,a4,a5,a6] (bW (Ou w.params [a0,a1,a2,a3,a4,a5,a6] (bn (.ref a1) 0) aA nr e nh none hh ht (bu A na)) [] [] 0 (fun _=> .ok .next) gl) (fun _=>M4 [a0,a1,a2,a3,a4,a5,a6] f):=
 aQ (av w) (hdp:=440) (U:={}) ⟨ak,ak,al,(fun _ h=>nomatch h),(fun _ h=>nomatch h),(fun _ h=>nomatch h)⟩ [] Ig 27 [2,1,1,1,1,1,1,1,1,1]
theorem VP(hx:aA[i]? =some (.str ⟨⟨[x0,x1,x2,x3]⟩⟩ rt))(hA:∀k<4,(⟨⟨[hh k 0,hh k 1,hh k 2]⟩⟩:Str).cps.all (· <128)=true)(h0:∀k<4,decide (gG ⟨⟨[x0,x1,x2,x3]⟩⟩ ⟨⟨[hh k 0]⟩⟩ 0+1=0)=false)
 (hb0:yJ ⟨⟨[x0,x1,x2,x3]⟩⟩ (hh 0 0) (hh 0 1) (hh 0 2)=b0)(hb1:yJ ⟨⟨[x0,x1,x2,x3]⟩⟩ (hh 1 0) (hh 1 1) (hh 1 2)=b1)(hb2:yJ ⟨⟨[x0,x1,x2,x3]⟩⟩ (hh 2 0) (hh 2 1) (hh 2 2)=b2)(hb3:yJ ⟨⟨[x0,x1,x2,x3]⟩⟩ (hh 3 0) (hh 3 1) (hh 3 2)=b3)(hB:cG (.bool true) [.bool b0,.bool b1,.bool b2,.bool b3]=B)(hA1:A.length≤1000):
 dy (model TW w) (bD w.params) os 410 (M4 [a0,a1,a2,a3,a4,a5,a6] f) [a0,a1,a2,a3,a4,a5,a6] (UV w.params [a0,a1,a2,a3,a4,a5,a6] x0 x1 x2 x3 B aA A nr na e nh i rt none hh ht gl) (fun _=>M4 [a0,a1,a2,a3,a4,a5,a6] f):=by
 cases B with
 |false=>exact aQ (av w) (hdp:=440) (U:={hs:=[(aB (cJ aA nr i (.str ⟨⟨[x0,x1,x2,x3]⟩⟩ rt) [0,1])),(aB (di ⟨⟨[x0,x1,x2,x3]⟩⟩ (hh 0 0) (hh 0 1) (hh 0 2) b0 [])),(aB (di ⟨⟨[x0,x1,x2,x3]⟩⟩ (hh 1 0) (hh 1 1) (hh 1 2) b1 [])),(aB (di ⟨⟨[x0,x1,x2,x3]⟩⟩ (hh 2 0) (hh 2 1) (hh 2 2) b2 [])),(aB (di ⟨⟨[x0,x1,x2,x3]⟩⟩ (hh 3 0) (hh 3 1) (hh 3 2) b3 [])),(aB (fK [.bool b0,.bool b1,.bool b2,.bool b3] 4 (.bool true) false [8])),(Cm (fun xl=>aR A na (fun u=> .int 0 u) [6]))]}) ⟨(ac (ae (cg hx)) (ac (ae (cF (hA 0 (by decide)) (h0 0 (by decide)) hb0)) (ac (ae (cF (hA 1 (by decide)) (h0 1 (by decide)) hb1)) (ac (ae (cF (hA 2 (by decide)) (h0 2 (by decide)) hb2)) (ac (ae (cF (hA 3 (by decide)) (h0 3 (by decide)) hb3)) (ac (ae (gf rfl HJ hB)) (ac (c8 (fun _ _=>rfl) (fun xl=>(cK hA1))) ak))))))),ak,al,(fun _ h=>nomatch h),(fun _ h=>nomatch h),(fun _ h=>nomatch h)⟩ [] Vn 229 Bp
 |true=>exact aQ (av w) (hdp:=440) (U:={hs:=[(aB (cJ aA nr i (.str ⟨⟨[x0,x1,x2,x3]⟩⟩ rt) [0,1])),(aB (di ⟨⟨[x0,x1,x2,x3]⟩⟩ (hh 0 0) (hh 0 1) (hh 0 2) b0 [])),(aB (di ⟨⟨[x0,x1,x2,x3]⟩⟩ (hh 1 0) (hh 1 1) (hh 1 2) b1 [])),(aB (di ⟨⟨[x0,x1,x2,x3]⟩⟩ (hh 2 0) (hh 2 1) (hh 2 2) b2 [])),(aB (di ⟨⟨[x0,x1,x2,x3]⟩⟩ (hh 3 0) (hh 3 1) (hh 3 2) b3 [])),(aB (fK [.bool b0,.bool b1,.bool b2,.bool b3] 4 (.bool true) true [8])),(Cm (fun xl=>aR A na (fun u=> .int 1 u) [6]))]}) ⟨(ac (ae (cg hx)) (ac (ae (cF (hA 0 (by decide)) (h0 0 (by decide)) hb0)) (ac (ae (cF (hA 1 (by decide)) (h0 1 (by decide)) hb1)) (ac (ae (cF (hA 2 (by decide)) (h0 2 (by decide)) hb2)) (ac (ae (cF (hA 3 (by decide)) (h0 3 (by decide)) hb3)) (ac (ae (gf rfl HJ hB)) (ac (c8 (fun _ _=>rfl) (fun xl=>(cK hA1))) ak))))))),ak,al,(fun _ h=>nomatch h),(fun _ h=>nomatch h),(fun _ h=>nomatch h)⟩ [] Vn 229 Bp
theorem Z8{u:Nat}{y0:Str}(hx:aA[i]? =some (.str ⟨⟨[x0,x1,x2,x3]⟩⟩ rt))(hA:∀k<4,(⟨⟨[hh k 0,hh k 1,hh k 2]⟩⟩:Str).cps.all (· <128)=true)(h0:∀k<4,decide (gG ⟨⟨[x0,x1,x2,x3]⟩⟩ ⟨⟨[hh k 0]⟩⟩ 0+1=0)=false)
 (hb0:yJ ⟨⟨[x0,x1,x2,x3]⟩⟩ (hh 0 0) (hh 0 1) (hh 0 2)=b0)(hb1:yJ ⟨⟨[x0,x1,x2,x3]⟩⟩ (hh 1 0) (hh 1 1) (hh 1 2)=b1)(hb2:yJ ⟨⟨[x0,x1,x2,x3]⟩⟩ (hh 2 0) (hh 2 1) (hh 2 2)=b2)(hb3:yJ ⟨⟨[x0,x1,x2,x3]⟩⟩ (hh 3 0) (hh 3 1) (hh 3 2)=b3)(hB:cG (.bool true) [.bool b0,.bool b1,.bool b2,.bool b3]=B)(hA1:A.length≤1000):
 dy (model TW w) (bD w.params) os 410 (M4 [a0,a1,a2,a3,a4,a5,a6] f) [a0,a1,a2,a3,a4,a5,a6] (UV w.params [a0,a1,a2,a3,a4,a5,a6] x0 x1 x2 x3 B aA A nr na e nh i rt (some (y0,u)) hh ht gl) (fun _=>M4 [a0,a1,a2,a3,a4,a5,a6] f):=by
 cases B with
 |false=>exact aQ (av w) (hdp:=440) (U:={hs:=[(aB (cJ aA nr i (.str ⟨⟨[x0,x1,x2,x3]⟩⟩ rt) [0,1])),(aB (di ⟨⟨[x0,x1,x2,x3]⟩⟩ (hh 0 0) (hh 0 1) (hh 0 2) b0 [])),(aB (di ⟨⟨[x0,x1,x2,x3]⟩⟩ (hh 1 0) (hh 1 1) (hh 1 2) b1 [])),(aB (di ⟨⟨[x0,x1,x2,x3]⟩⟩ (hh 2 0) (hh 2 1) (hh 2 2) b2 [])),(aB (di ⟨⟨[x0,x1,x2,x3]⟩⟩ (hh 3 0) (hh 3 1) (hh 3 2) b3 [])),(aB (fK [.bool b0,.bool b1,.bool b2,.bool b3] 4 (.bool true) false [8])),(Cm (fun xl=>aR A na (fun u=> .int 0 u) [6]))]}) ⟨(ac (ae (cg hx)) (ac (ae (cF (hA 0 (by decide)) (h0 0 (by decide)) hb0)) (ac (ae (cF (hA 1 (by decide)) (h0 1 (by decide)) hb1)) (ac (ae (cF (hA 2 (by decide)) (h0 2 (by decide)) hb2)) (ac (ae (cF (hA 3 (by decide)) (h0 3 (by decide)) hb3)) (ac (ae (gf rfl HJ hB)) (ac (c8 (fun _ _=>rfl) (fun xl=>(cK hA1))) ak))))))),ak,al,(fun _ h=>nomatch h),(fun _ h=>nomatch h),(fun _ h=>nomatch h)⟩ [] Vn 229 Bp
 |true=>exact aQ (av w) (hdp:=440) (U:={hs:=[(aB (cJ aA nr i (.str ⟨⟨[x0,x1,x2,x3]⟩⟩ rt) [0,1])),(aB (di ⟨⟨[x0,x1,x2,x3]⟩⟩ (hh 0 0) (hh 0 1) (hh 0 2) b0 [])),(aB (di ⟨⟨[x0,x1,x2,x3]⟩⟩ (hh 1 0) (hh 1 1) (hh 1 2) b1 [])),(aB (di ⟨⟨[x0,x1,x2,x3]⟩⟩ (hh 2 0) (hh 2 1) (hh 2 2) b2 [])),(aB (di ⟨⟨[x0,x1,x2,x3]⟩⟩ (hh 3 0) (hh 3 1) (hh 3 2) b3 [])),(aB (fK [.bool b0,.bool b1,.bool b2,.bool b3] 4 (.bool true) true [8])),(Cm (fun xl=>aR A na (fun u=> .int 1 u) [6]))]}) ⟨(ac (ae (cg hx)) (ac (ae (cF (hA 0 (by decide)) (h0 0 (by decide)) hb0)) (ac (ae (cF (hA 1 (by decide)) (h0 1 (by decide)) hb1)) (ac (ae (cF (hA 2 (by decide)) (h0 2 (by decide)) hb2)) (ac (ae (cF (hA 3 (by decide)) (h0 3 (by decide)) hb3)) (ac (ae (gf rfl HJ hB)) (ac (c8 (fun _ _=>rfl) (fun xl=>(cK hA1))) ak))))))),ak,al,(fun _ h=>nomatch h),(fun _ h=>nomatch h),(fun _ h=>nomatch h)⟩ [] Vn 229 Bp
theorem Wq{u:Nat}{y0:Str}(hx:aA.length≤i):
 cb (model TW w) (bD w.params) os 410 (M4 [a0,a1,a2,a3,a4,a5,a6] f) [a0,a1,a2,a3,a4,a5,a6] (bW (Ou w.params [a0,a1,a2,a3,a4,a5,a6] (bn (.ref a1) i) aA nr e nh (some (y0,u)) hh ht (bu A na)) [(0,fun _=>bn .none i)] [] 0 (fun _=> .ok .next) gl):=
 aq (av w) (hdp:=440) (U:={hs:=[(aB (rB aA nr i [0,1]))]}) ⟨(ac (ae (oQ hx (by decide))) ak),ak,al,(fun _ h=>nomatch h),(fun _ h=>nomatch h),(fun _ h=>nomatch h)⟩ [] HZ 13 [1,0,1,2,8]
noncomputable def Ve(x hh:Nat→Nat→Nat)(i:Nat):Bool:=cG (.bool true) [.bool (yJ (bM x i) (hh 0 0) (hh 0 1) (hh 0 2)),.bool (yJ (bM x i) (hh 1 0) (hh 1 1) (hh 1 2)),.bool (yJ (bM x i) (hh 2 0) (hh 2 1) (hh 2 2)),.bool (yJ (bM x i) (hh 3 0) (hh 3 1) (hh 3 2))]
noncomputable def GQ(bb:Nat→Bool)(i:Nat)(l:LN):LV:=(List.range i).map fun j=> .int (hH (bb j)) (gx l j)
noncomputable def FM(P:Pm)(ad:LN)(x:Nat→Nat→Nat)(rt:NN)(bb:Nat→Bool)(aA:LV)(nr na e nh:Nat)(hh:Nat→Nat→Nat)(ht:NN)(i:Nat)(l:LN):LL:=match i with
 |0=>Ou P ad (bn (.ref (gx ad 1)) 0) aA nr e nh none hh ht (bu [] na)
 |i+1=>Ou P ad (bn (.ref (gx ad 1)) (i+1)) aA nr e nh (some (bM x i,rt i)) hh ht (bu (GQ bb (i+1) l) (na+(i+1)))
noncomputable def LC(P:Pm)(ad:LN)(x:Nat→Nat→Nat)(rt:NN)(bb:Nat→Bool)(aA:LV)(nr na e nh:Nat)(hh:Nat→Nat→Nat)(ht:NN)(N:Nat)(l:LN):LL:=
 Ou P ad (bn .none N) aA nr e nh (some (bM x (N -1),rt (N -1))) hh ht (bu (GQ bb N l) (na+N))
theorem HQ(bb:Nat→Bool)(i:Nat)(l:LN):(GQ bb i l).length=i:=by simp[GQ]
variable{x:Nat→Nat→Nat}{rtf:NN}{bb:Nat→Bool}{N:Nat}
theorem Ir(hN:0<N)(hN2:N≤900)(hlen:aA.length=N)(hrows:∀i<N,aA[i]? =some (.str (bM x i) (rtf i)))(hA:∀k<4,(⟨⟨[hh k 0,hh k 1,hh k 2]⟩⟩:Str).cps.all (· <128)=true)
 (h0:∀i<N,∀k<4,decide (gG (bM x i) ⟨⟨[hh k 0]⟩⟩ 0+1=0)=false)(hB:∀i<N,Ve x hh i=bb i):
 cb (model TW w) (bD w.params) os 410 (O7 [a0,a1,a2,a3,a4,a5,a6] f) [a0,a1,a2,a3,a4,a5,a6] (zt (FM w.params [a0,a1,a2,a3,a4,a5,a6] x rtf bb aA nr na e nh hh ht 0 []) (LC w.params [a0,a1,a2,a3,a4,a5,a6] x rtf bb aA nr na e nh hh ht N) 7 N gl):=by
 intro s K0 g hl hA0 nd hk
 refine hW (c:=M4 [a0,a1,a2,a3,a4,a5,a6] f) (n:=N) (len:=fun i=>i) (ob:=FM w.params [a0,a1,a2,a3,a4,a5,a6] x rtf bb aA nr na e nh hh ht) nd hk ?_ rfl ?_ ?_ rfl rfl (fun _=>rfl) s K0 g hl hA0
 ·intro s Q R next
  exact cN nd hk (XT (m:=none)) rfl rfl rfl rfl rfl rfl R fun l s' _ R'=>next s' R'
 ·intro i l s0 s Q hi hl R next
  cases i with
  |zero=>
   have hl:l=[]:=List.length_eq_zero_iff.mp hl
   subst hl
   refine cN nd hk (VP (gl:=gl) (na:=na) (nr:=nr) (e:=e) (f:=f) (nh:=nh) (ht:=ht) (hrows 0 hN) hA (h0 0 hN) rfl rfl rfl rfl (hB 0 hN) (A:=[]) (Nat.zero_le _)) rfl rfl rfl rfl rfl rfl R fun ts s' htl R'=> ?_
   have htl:ts.length=1:=htl
   refine next ts s' htl ?_
   have e1:(UV w.params [a0,a1,a2,a3,a4,a5,a6] (x 0 0) (x 0 1) (x 0 2) (x 0 3) (bb 0) aA [] nr na e nh 0 (rtf 0) none hh ht gl).post.map (· ts)=FM w.params [a0,a1,a2,a3,a4,a5,a6] x rtf bb aA nr na e nh hh ht 1 ts:=rfl
   exact e1▸R'
  |succ i=>
   have hl:l.length=i+1:=hl
   refine cN nd hk (Z8 (gl:=gl) (na:=na+(i+1)) (nr:=nr) (e:=e) (f:=f) (nh:=nh) (ht:=ht) (u:=rtf i) (y0:=bM x i) (hrows (i+1) hi) hA (h0 (i+1) hi) rfl rfl rfl rfl (hB (i+1) hi) (A:=GQ bb (i+1) l) (by rw[HQ];omega)) rfl rfl rfl rfl rfl rfl R fun ts s' htl R'=> ?_
   have htl:ts.length=1:=htl
   obtain⟨u,rfl⟩:∃u,ts=[u]:=by
    match ts,htl with
    |[u],_=>exact⟨u,rfl⟩
   refine next (l++ [u]) s' (by rw[List.length_append,hl];rfl) ?_
   have g1:gx (l++ [u]) (i+1)=u:=by rw[show i+1=l.length+0 by omega];exact d_
   have eA:GQ bb (i+1+1) (l++ [u])=GQ bb (i+1) l++ [.int (hH (bb (i+1))) u]:=by
    unfold GQ
    rw[dS,g1]
    congr 1
    exact ds fun j hj=>by rw[dG (by omega)]
   have e1:(UV w.params [a0,a1,a2,a3,a4,a5,a6] (x (i+1) 0) (x (i+1) 1) (x (i+1) 2) (x (i+1) 3) (bb (i+1)) aA (GQ bb (i+1) l) nr (na+(i+1)) e nh (i+1) (rtf (i+1)) (some (bM x i,rtf i)) hh ht gl).post.map (· [u])=FM w.params [a0,a1,a2,a3,a4,a5,a6] x rtf bb aA nr na e nh hh ht (i+1+1) (l++ [u]):=by
    show _=Ou w.params [a0,a1,a2,a3,a4,a5,a6] (bn (.ref a1) (i+1+1)) aA nr e nh (some (bM x (i+1),rtf (i+1))) hh ht (bu (GQ bb (i+1+1) (l++ [u])) (na+(i+1+1)))
    rw[eA]
    rfl
   exact e1▸R'
 ·intro l s0 s Q hl R next
  obtain⟨i,rfl⟩:∃i,N=i+1:=⟨N -1,by omega⟩
  refine ub nd hk (Wq (gl:=gl) (A:=GQ bb (i+1) l) (na:=na+(i+1)) (nr:=nr) (e:=e) (f:=f) (nh:=nh) (hh:=hh) (ht:=ht) (u:=rtf i) (y0:=bM x i) (aA:=aA) (i:=i+1) (by omega)) rfl rfl rfl rfl rfl rfl R fun ts s' _ R'=>next s' R'
noncomputable def KI(P:Pm)(x:Nat→Nat→Nat)(rt:NN)(bb:Nat→Bool)(aA:LV)(hh:Nat→Nat→Nat)(N:Nat)(slots:LN):Hk:=
 ⟨slots,fun ad _ c=>O7 ad (Ju c 1),fun gl ad obs _=>zt (FM P ad x rt bb aA (bO (gO obs 1)) (bO (gO obs 6)) (bO (gO obs 2)) (bO (gO obs 5)) hh (gx [aJ obs 5 0,aJ obs 5 1,aJ obs 5 2,aJ obs 5 3]) 0 []) (LC P ad x rt bb aA (bO (gO obs 1)) (bO (gO obs 6)) (bO (gO obs 2)) (bO (gO obs 5)) hh (gx [aJ obs 5 0,aJ obs 5 1,aJ obs 5 2,aJ obs 5 3]) N) 7 N gl,aC⟩
theorem NH(hN:0<N)(hN2:N≤900)(hlen:aA.length=N)(hrows:∀i<N,aA[i]? =some (.str (bM x i) (rtf i)))(hA:∀k<4,(⟨⟨[hh k 0,hh k 1,hh k 2]⟩⟩:Str).cps.all (· <128)=true)
 (h0:∀i<N,∀k<4,decide (gG (bM x i) ⟨⟨[hh k 0]⟩⟩ 0+1=0)=false)(hB:∀i<N,Ve x hh i=bb i){slots:LN}(hn:slots.Nodup){hdp:Nat}(hd:hdp≤410):(KI w.params x rtf bb aA hh N slots).Ok (bs w.params w.params) w os hdp:=
 ⟨hn,fun gl ad obs c=>aE hd (by
  intro s K' g hL
  have hL':ad.length=7:=hL
  obtain⟨y9,hf9⟩:=J_ hL'
  have hf9:ad=[y9 0,y9 1,y9 2,y9 3,y9 4,y9 5,y9 6]:=hf9
  subst hf9
  exact Ir hN hN2 hlen hrows hA h0 hB s K' g hL)⟩
end
end
noncomputable def As(x0 x1 x2 x3 s lo:Nat):Nat:=
 if lo≤0∧x0=s then 1 else if lo≤1∧x1=s then 2 else if lo≤2∧x2=s then 3 else if lo≤3∧x3=s then 4 else 0
noncomputable def r4(b0 b1 b2 b3:Bool):Nat→Bool
 |0=>b0
 |1=>b1
 |2=>b2
 |3=>b3
 |_=>false
theorem sub4(x0 x1 x2 x3 s:Nat):∀i,Builtin.Str.subAt ⟨⟨[x0,x1,x2,x3]⟩⟩ ⟨⟨[s]⟩⟩ i=r4 (decide (x0=s)) (decide (x1=s)) (decide (x2=s)) (decide (x3=s)) i
 |0=>by simp[Builtin.Str.subAt,Str.length,r4];rfl
 |1=>by simp[Builtin.Str.subAt,Str.length,r4];rfl
 |2=>by simp[Builtin.Str.subAt,Str.length,r4];rfl
 |3=>by simp[Builtin.Str.subAt,Str.length,r4];rfl
 |n+4=>by simp[Builtin.Str.subAt,Str.length,r4]
noncomputable def aa3(p:Nat→Bool)(lo:Nat):LN:=Id.run do
 let mut found:Array Nat:= #[]
 let mut free:=lo
 for i in [lo:4+1] do
  if found.size<1&&free≤i&&i+1≤4&&p i then
   found:=found.push i
   free:=i+1
 return found.toList
noncomputable def fnB(b0 b1 b2 b3:Bool)(lo:Nat):Nat:=
 if lo≤0∧b0=true then 1 else if lo≤1∧b1=true then 2 else if lo≤2∧b2=true then 3 else if lo≤3∧b3=true then 4 else 0
theorem occB:∀b0 b1 b2 b3:Bool,∀lo<5,(match aa3 (r4 b0 b1 b2 b3) lo with|k::_=>(k:Int)|[]=> -1)+1=(fnB b0 b1 b2 b3 lo:Int):=by decide+kernel
theorem Zj(x0 x1 x2 x3 s lo:Nat)(h:lo≤4):(match Builtin.Str.occurrences ⟨⟨[x0,x1,x2,x3]⟩⟩ ⟨⟨[s]⟩⟩ lo 4 1 with|k::_=>(k:Int)|[]=> -1)+1=(As x0 x1 x2 x3 s lo:Int):=by
 have e:Builtin.Str.occurrences ⟨⟨[x0,x1,x2,x3]⟩⟩ ⟨⟨[s]⟩⟩ lo 4 1=aa3 (fun i=>Builtin.Str.subAt ⟨⟨[x0,x1,x2,x3]⟩⟩ ⟨⟨[s]⟩⟩ i) lo:=rfl
 have f:As x0 x1 x2 x3 s lo=fnB (decide (x0=s)) (decide (x1=s)) (decide (x2=s)) (decide (x3=s)) lo:=by
  unfold As fnB
  simp only[decide_eq_true_eq]
 rw[e,funext (sub4 x0 x1 x2 x3 s),f]
 exact occB _ _ _ _ lo (Nat.lt_succ_of_le h)
theorem Gs(x0 x1 x2 x3 s lo:Nat):As x0 x1 x2 x3 s lo≤4:=by
 unfold As
 repeat' split
 all_goals decide
theorem Vi(x0 x1 x2 x3 s k:Nat)(h:k≤4):gG ⟨⟨[x0,x1,x2,x3]⟩⟩ ⟨⟨[s]⟩⟩ ((k:Int))+1=(As x0 x1 x2 x3 s k:Int):=by
 have e:PySem.fromIndex (Str.length ⟨⟨[x0,x1,x2,x3]⟩⟩) ((k:Int))=k:=by
  have:Str.length ⟨⟨[x0,x1,x2,x3]⟩⟩=4:=rfl
  rw[this]
  match k,h with
  |0,_=>rfl
  |1,_=>rfl
  |2,_=>rfl
  |3,_=>rfl
  |4,_=>rfl
 unfold gG
 rw[e]
 exact Zj x0 x1 x2 x3 s k h
noncomputable def Od(x0 x1 x2 x3 s0 s1 s2:Nat):Bool:=(fun a=>(fun b=> !Nat.beq b 0&& !Nat.beq (As x0 x1 x2 x3 s2 b) 0) (As x0 x1 x2 x3 s1 a)) (As x0 x1 x2 x3 s0 0)
theorem M8(n:Nat):decide ((n:Int)=0)=Nat.beq n 0:=by
 cases n with
 |zero=>rfl
 |succ n=>
  have h:¬(((n+1:Nat):Int)=0):=by omega
  rw[decide_eq_false h]
  rfl
theorem BH(x0 x1 x2 x3 s0 s1 s2:Nat):yJ ⟨⟨[x0,x1,x2,x3]⟩⟩ s0 s1 s2=Od x0 x1 x2 x3 s0 s1 s2:=by
 unfold yJ Od
 have e0:=Vi x0 x1 x2 x3 s0 0 (by decide)
 have e0':gG ⟨⟨[x0,x1,x2,x3]⟩⟩ ⟨⟨[s0]⟩⟩ 0+1=(As x0 x1 x2 x3 s0 0:Int):=e0
 rw[e0',Vi x0 x1 x2 x3 s1 _ (Gs ..),Vi x0 x1 x2 x3 s2 _ (Gs ..),M8,M8]
 dsimp only
 generalize As x0 x1 x2 x3 s1 (As x0 x1 x2 x3 s0 0)=b
 cases h:Nat.beq b 0<;>simp[h]
noncomputable def U5(x hh:Nat→Nat→Nat)(i:Nat):Bool:=(List.range 4).any fun k=>Od (x i 0) (x i 1) (x i 2) (x i 3) (hh k 0) (hh k 1) (hh k 2)
theorem Ry(x hh:Nat→Nat→Nat)(i:Nat):Ve x hh i=U5 x hh i:=by
 unfold Ve U5 bM
 rw[BH,BH,BH,BH]
 have r:List.range 4=[0,1,2,3]:=rfl
 rw[r]
 simp only[List.any_cons,List.any_nil]
 cases Od (x i 0) (x i 1) (x i 2) (x i 3) (hh 0 0) (hh 0 1) (hh 0 2)<;>cases Od (x i 0) (x i 1) (x i 2) (x i 3) (hh 1 0) (hh 1 1) (hh 1 2)<;>cases Od (x i 0) (x i 1) (x i 2) (x i 3) (hh 2 0) (hh 2 1) (hh 2 2)<;>cases Od (x i 0) (x i 1) (x i 2) (x i 3) (hh 3 0) (hh 3 1) (hh 3 2)<;>rfl
theorem R4(x:Nat→Nat→Nat)(i s:Nat):decide (gG (bM x i) ⟨⟨[s]⟩⟩ 0+1=0)=Nat.beq (As (x i 0) (x i 1) (x i 2) (x i 3) s 0) 0:=by
 unfold bM
 have e0':gG ⟨⟨[x i 0,x i 1,x i 2,x i 3]⟩⟩ ⟨⟨[s]⟩⟩ 0+1=(As (x i 0) (x i 1) (x i 2) (x i 3) s 0:Int):=Vi _ _ _ _ _ 0 (by decide)
 rw[e0',M8]
section
variable(w:Wd)(os:OS)
noncomputable def Ub(x0 x1:Nat):PC:=fun ad t=>(.call (.builtin "str.join") ⟨[.str ⟨⟨[46]⟩⟩ (t 0),.str ⟨⟨[x0,x1]⟩⟩ (t 1)],[]⟩)
noncomputable def RV(x0 x1:Nat):PO:=fun P ad t=>[]
noncomputable def QK(x0 x1:Nat):PS:=fun P gl ad t=>bW (RV x0 x1 P ad t) [] [] 1 (fun l=> .ok (.ret (.str ⟨⟨[x0,46,x1]⟩⟩ (gx l 0)))) gl
noncomputable def TY(r:Re)(T:BT)(xl:LN):LN:=[bz (dC r)]
theorem jn2(x0 x1:Nat)(hA:(⟨⟨[x0,x1]⟩⟩:Str).cps.all (· <128)=true)(gl:LG)(t:NN):SA w os 520 (Ub x0 x1) (QK x0 x1 w.params gl) [] t:=
 aq (av w) (hdp:=560) (U:={hs:=[(aB (de ⟨⟨[x0,x1]⟩⟩ []))],ks:=[],sam:=[],fa:=[],fb:=[CS rS (.type "str_ascii_iterator")],f3:=[]}) ⟨(ac (ae (cZ hA)) ak),ak,al,(fun _ h=>nomatch h),(b4 ev cV),(fun _ h=>nomatch h)⟩ [] TY 74 (J [[0,1,0,2],ō1,[999975,0],qd,[0],qd,oF,fR,oF,fR,oF,[4,2]])
noncomputable def Sg(x0 x1 x2:Nat):PC:=fun ad t=>(.call (.builtin "str.join") ⟨[.str ⟨⟨[46]⟩⟩ (t 0),.str ⟨⟨[x0,x1,x2]⟩⟩ (t 1)],[]⟩)
noncomputable def UM(x0 x1 x2:Nat):PO:=fun P ad t=>[]
noncomputable def Uy(x0 x1 x2:Nat):PS:=fun P gl ad t=>bW (UM x0 x1 x2 P ad t) [] [] 1 (fun l=> .ok (.ret (.str ⟨⟨[x0,46,x1,46,x2]⟩⟩ (gx l 0)))) gl
noncomputable def ST(r:Re)(T:BT)(xl:LN):LN:=[bz (dC r)]
theorem jn3(x0 x1 x2:Nat)(hA:(⟨⟨[x0,x1,x2]⟩⟩:Str).cps.all (· <128)=true)(gl:LG)(t:NN):SA w os 520 (Sg x0 x1 x2) (Uy x0 x1 x2 w.params gl) [] t:=
 aq (av w) (hdp:=560) (U:={hs:=[(aB (de ⟨⟨[x0,x1,x2]⟩⟩ []))],ks:=[],sam:=[],fa:=[],fb:=[CS rS (.type "str_ascii_iterator")],f3:=[]}) ⟨(ac (ae (cZ hA)) ak),ak,al,(fun _ h=>nomatch h),(b4 ev cV),(fun _ h=>nomatch h)⟩ [] ST 88 (J [[0,1,0,2],ō1,[999975,0],qd,[0],qd,oF,fR,oF,fR,oF,fR,oF,[4,2]])
end
section
open PySem.SeqAt PySem.MeetsSeq PySem.Calls PyProof.Rows
noncomputable def zB:LN→LN
 |[]=> []
 |a::r=>match r with
  |[]=> [a]
  |_::_=>a::46::zB r
noncomputable def bS(y:Str):Str:=⟨⟨zB y.cps.toList⟩⟩
structure vI(y:Str):Prop where
 ok:(∃a b,y=⟨⟨[a,b]⟩⟩)∨∃a b c,y=⟨⟨[a,b,c]⟩⟩
 lo:y.cps.all (· <128)=true
section
variable{w:Wd}{os:OS}
theorem jnD{y:Str}{u v:Tok}{gl:LG}(D:vI y):
 cb (model TW w) (bD w.params) os 520 (.call (.builtin "str.join") ⟨[.str b8 u,.str y v],[]⟩) [] (aL [] gl 1 fun l=> .ok (.ret (.str (bS y) (gx l 0)))):=by
 have lo:=D.lo
 rcases D.ok with⟨a,b,rfl⟩|⟨a,b,c,rfl⟩
 ·exact jn2 w os a b lo gl (gx [u,v])
 ·exact jn3 w os a b c lo gl (gx [u,v])
noncomputable def fE(y:Str)(slots:LN):Hk:=
 ⟨slots,fun _ _ c=> .call (.builtin "str.join") ⟨[.str b8 (bz (b_ c 0)),.str y (bz (b_ c 1))],[]⟩,fun gl _ _ _=>aL [] gl 1 fun l=> .ok (.ret (.str (bS y) (gx l 0))),aC⟩
theorem ee{y:Str}{hdp:Nat}{slots:LN}(D:vI y)(hn:slots.Nodup:=by decide)(hd:hdp≤520:=by decide):(fE y slots).Ok (bs w.params w.params) w os hdp:=
 ⟨hn,fun gl ad obs c=>aE hd (by
  intro s K g hl
  obtain rfl:ad=[]:=List.length_eq_zero_iff.mp hl
  exact jnD D s K g hl)⟩
end
end
noncomputable def Rv:Str:=⟨⟨[104,101,97,100]⟩⟩
noncomputable def SH(dv:Nat→Str):PC:=fun ad t=>(.compStart (d9 [48,9,0,1]) 0 (.ref (gx ad 0)) (.ref (gx ad 3)) {scope:=(c7 [48,9,0,1]),locals:=(gx ad 2),globals:=3,cells:=[],qual:=bf,func:=none,code:=(.ref 880),frame:=(some (t 0)),builtins:=0})
noncomputable def VC(dv:Nat→Str):PO:=fun P ad t=>[(O (.type "list_iterator") none (.fields ⟨[.ref (gx ad 1),.int 0 0]⟩) ⟨[]⟩),(O (.type "list") none (.seq ⟨[.str (dv 0) (t 1),.str (dv 1) (t 2),.str (dv 2) (t 3),.str (dv 3) (t 4),.str (dv 4) (t 5),.str (dv 5) (t 6),.str (dv 6) (t 7),.str (dv 7) (t 8),.str (dv 8) (t 9),.str (dv 9) (t 10)]⟩ (t 11)) ⟨[]⟩),(O (.type "dict") none (.dict ⟨[]⟩ (t 12)) ⟨[]⟩),(O (.type "list") none (.seq ⟨[]⟩ (t 13)) ⟨[]⟩)]
noncomputable def QC(dv:Nat→Str):PS:=fun P gl ad t=>bW (VC dv P ad t) [(0,fun l=>(O (.type "list_iterator") none (.fields ⟨[.none,.int 10 0]⟩) ⟨[]⟩)),(2,fun l=>(O (.type "dict") none (.dict ⟨[D P Rv (gx l 0) (.str (dv 9) (t 10))]⟩ ((t 12)+1)) ⟨[]⟩)),(3,fun l=>(O (.type "list") none (.seq ⟨[(.str (bS (dv 0)) (gx l 1)),(.str (bS (dv 1)) (gx l 2)),(.str (bS (dv 2)) (gx l 3)),(.str (bS (dv 3)) (gx l 4)),(.str (bS (dv 4)) (gx l 5)),(.str (bS (dv 5)) (gx l 6)),(.str (bS (dv 6)) (gx l 7)),(.str (bS (dv 7)) (gx l 8)),(.str (bS (dv 8)) (gx l 9)),(.str (bS (dv 9)) (gx l 10))]⟩ ((t 13)+10)) ⟨[]⟩))] [] 11 (fun l=> .ok .next) gl
noncomputable def Rm(obs:LL)(c:Code):LN:=[Ju c 1,aJ obs 1 0,aJ obs 1 1,aJ obs 1 2,aJ obs 1 3,aJ obs 1 4,aJ obs 1 5,aJ obs 1 6,aJ obs 1 7,aJ obs 1 8,aJ obs 1 9,bO (gO obs 1),bO (gO obs 2),bO (gO obs 3)]
noncomputable def WL(r:Re)(T:BT)(xl:LN):LN:=[dZ T 2 0,aY T 3 0,aY T 3 1,aY T 3 2,aY T 3 3,aY T 3 4,aY T 3 5,aY T 3 6,aY T 3 7,aY T 3 8,aY T 3 9]
theorem dt(w:Wd)(os:OS)(dv:Nat→Str)(hD:∀j<10,vI (dv j))(a0 a1 a2 a3:Nat)(gl:LG)(t:NN):SA w os 410 (SH dv) (QC dv w.params gl) [a0,a1,a2,a3] t:=
 aq (av w) (hdp:=440) (U:={hs:=[(aB (fE (dv 0) [])),(aB (fE (dv 1) [])),(aB (fE (dv 2) [])),(aB (fE (dv 3) [])),(aB (fE (dv 4) [])),(aB (fE (dv 5) [])),(aB (fE (dv 6) [])),(aB (fE (dv 7) [])),(aB (fE (dv 8) [])),(aB (fE (dv 9) []))],ks:=[],sam:=[],fa:=[],fb:=[],f3:=[]}) ⟨(ac (ae (ee (hD 0 (by decide)))) (ac (ae (ee (hD 1 (by decide)))) (ac (ae (ee (hD 2 (by decide)))) (ac (ae (ee (hD 3 (by decide)))) (ac (ae (ee (hD 4 (by decide)))) (ac (ae (ee (hD 5 (by decide)))) (ac (ae (ee (hD 6 (by decide)))) (ac (ae (ee (hD 7 (by decide)))) (ac (ae (ee (hD 8 (by decide)))) (ac (ae (ee (hD 9 (by decide)))) ak)))))))))),ak,al,(fun _ h=>nomatch h),(fun _ h=>nomatch h),(fun _ h=>nomatch h)⟩ [] WL 384 (J [yD,CQ,[3,1,0],gA,[4,0,1,0],eq,[2,1,1],fP,[3,2],bX,[1,0],eq,[2,1,1],Cz,bX,ue,[4,0],gA,[4,0],ue,[5],bX,ue,[6],bX,ue,[7],bX,ue,[8],bX,ue,[9,0],gA,[4,0],ue,[10],bX,[1,0],eq,[2,1,1,6]])
noncomputable def Un(dv:Nat→Str)(P:Pm)(slots:LN):Hk:=⟨slots,fun ad obs c=>SH dv ad (gx (Rm obs c)),fun gl ad obs c=>QC dv P gl ad (gx (Rm obs c)),aC⟩
theorem Q2(w:Wd)(os:OS)(dv:Nat→Str)(hD:∀j<10,vI (dv j)){slots:LN}(hn:slots.Nodup:=by decide){hdp:Nat}(hdpL:hdp≤410:=by decide):Hk.Ok (bs w.params w.params) w os hdp (Un dv w.params slots):=⟨hn,fun gl ad obs c=>aE hdpL (by
 intro s K g hL
 have hL':ad.length=4:=hL
 obtain⟨y9,hf9⟩:=J_ hL'
 have hf9:ad=[y9 0,y9 1,y9 2,y9 3]:=hf9
 subst hf9
 exact dt w os _ hD _ _ _ _ gl _ s K g hL)⟩
section
open PySem.SeqAt PySem.MeetsSeq PySem.Calls PyProof.Rows
noncomputable def I0:Str:=⟨⟨[97,110,115,119,101,114]⟩⟩
noncomputable def UX(ad:LN)(f:Nat):Env:={scope:=(c7 [48,13,0,1,1]),locals:=(gx ad 7),globals:=3,cells:=[],qual:=bf,func:=none,code:=(.ref 880),frame:=(some f),builtins:=0}
noncomputable def Iv(ad:LN)(f:Nat):Code:= .compStart (d9 [48,13,0,1,1]) 0 (.ref (gx ad 0)) (.ref (gx ad 8)) (UX ad f)
noncomputable def Og(ad:LN)(f:Nat):Code:= .compLoop (d9 [48,13,0,1,1]) 0 (.ref (gx ad 0)) (.ref (gx ad 8)) (UX ad f)
structure ZpM where
 k1:Nat
 k2:Nat
 y:Str
 u:Nat
 b:Int
 v:Nat
noncomputable def EZ(P:Pm)(m:Option ZpM)(e:Nat):Obj:=O (.type "dict") none (.dict ⟨match m with
 |none=> []
 |some k=> [D P yI k.k1 (.str k.y k.u),D P I0 k.k2 (.int k.b k.v)]⟩ e) ⟨[]⟩
noncomputable def Ne(m:Option ZpM):Obj:=O (.type "tuple") none (.seq ⟨match m with
 |none=> [.none,.none]
 |some k=> [.str k.y k.u,.int k.b k.v]⟩ 0) ⟨[]⟩
noncomputable def IF(P:Pm)(ad:LN)(i1 i2:Obj)(aA dus:LV)(nr nd:Nat)(m:Option ZpM)(e:Nat)(acc:Obj):LL:=
 [(O (.type "zip") none (.fields ⟨[.none,.bool false,.bool false,.ref (gx ad 1),.ref (gx ad 6)]⟩) ⟨[]⟩),(O (.type "tuple") none (.seq ⟨[.ref (gx ad 2),.ref (gx ad 4)]⟩ 0) ⟨[]⟩),i1,bu aA nr,i2,bu dus nd,Ne m,EZ P m e,acc]
noncomputable def DA(t:Sem Unit)(o:Obj):Sem Unit:=match t with
 | .load _ _ k=>k o
 |x=>x
noncomputable def zfW(k:Expr→Comprehension→Sem Fin):Sem Fin:=match d9 [48,13,0,1,1] with
 | .ListComp elt gens _ _=>(match gens with
  |g::_=>k elt g
  |[]=> .pure (.done .next))
 |_=> .pure (.done .next)
noncomputable def zfB(own:Sem Unit)(it acc v:Vl)(env:Env)(elt:Expr)(g:Comprehension):Sem Fin:=
 PySem.W.R.onRaiseR (bd own fun _=>bd (PySem.W.Fast.tw17772580674575903948 g.target env v) fun _=>
  bd (@forIn Sem (List Expr) Expr (@instForInOfForIn' Sem (List Expr) Expr inferInstance (@List.instForIn'InferInstanceMembershipOfMonad Sem Expr PySem.W.Fast.tw12456147031677567982)) Bool g.ifs true fun c s=>
   @ite (Sem (ForInStep Bool)) (s=true) (instDecidableEqBool s true) (bd (PySem.W.Fast.tw15418851999007992765 c env (PySem.W.Fast.tw14044960220447912780 c env)) fun ok=>Sem.pure (ForInStep.yield ok)) (Sem.pure (ForInStep.yield s))) fun s=>
  (fun(jp:Unit→Sem Fin)=> @ite (Sem Fin) (s=true) (instDecidableEqBool s true) (bd (bd (PySem.W.Fast.tw14044960220447912780 elt env) fun r=>bd (PySem.W.Fast.tw11478286150595567475 (.builtin PySem.W.SL.s2931692696383300276x11) [acc,r]) fun _=>Sem.pure ()) jp) (jp ())) fun _=>PySem.W.Fast.tw12377390311714414960 (.compLoop (d9 [48,13,0,1,1]) 0 it acc env))
  (fun x=>bd (PySem.W.Fast.tw17872113653443481271 x env) fun _=>PySem.W.Fast.tw1623429502029203251 x)
noncomputable def zfO(a b c:Nat):Obj:=O (.type "zip") none (.fields ⟨[.int (Int.ofNat a) 0,.bool false,.bool false,.ref b,.ref c]⟩) ⟨[]⟩
noncomputable def VH(z a b c:Nat)(g:Comprehension):Sem Unit:=DA (PySem.W.Fast.tw1578499551869305889 g.target (.ref z) (.ref a)) (zfO a b c)
noncomputable def UW(z:Nat):Sem Unit:=bd (rule "for.unpacks-the-owned-tuple") fun _=>PySem.W.Fast.tw12367529300394763782 z 0 .none
noncomputable def zfR(z a b c:Nat)(g:Comprehension):Sem Unit:=match g.target with
 | .Tuple .. =>UW z
 | .List .. =>UW z
 |_=>Sem.pure ()
noncomputable def Vj(a z:Nat):Sem Unit:= @ite (Sem Unit) ((Bool.and true (@BEq.beq (Option Vl) (@Option.instBEq Vl (@instBEqOfDecidableEq Vl PySem.W.Fast.tw7966671052430208091)) (some (.int (Int.ofNat a) 0)) (some (rawInt ((a:Int))))))=true) (instDecidableEqBool _ true) (UW z) (Sem.pure ())
theorem Ei(a z:Nat):Vj a z=UW z:=by
 have e:(@BEq.beq (Option Vl) (@Option.instBEq Vl (@instBEqOfDecidableEq Vl PySem.W.Fast.tw7966671052430208091)) (some (.int (Int.ofNat a) 0)) (some (rawInt ((a:Int)))))=true:=by
  show @decide _ (PySem.W.Fast.tw7966671052430208091 _ _)=true
  exact decide_eq_true (p:=(Value.int (Int.ofNat a) 0=rawInt ((a:Int)))) rfl
 unfold Vj
 rw[e]
 rfl
noncomputable def T5(sg:List (Nat×Nat)):LN:=[bx sg 0,bx sg 1,bx sg 2,bx sg 3,bx sg 4,bx sg 5,bx sg 6,bx sg 7,bx sg 8]
noncomputable def OY(f:Nat):Fac:=⟨fun T sg xl=>zfW fun elt g=>zfB (VH (bx sg 0) (bx sg 9) (bx sg 1) (bx sg 6) g) (.ref (bx sg 0)) (.ref (bx sg 8)) (.ref (bx sg 9)) (UX (T5 sg) f) elt g,
 fun T sg xl=>zfW fun elt g=>zfB (zfR (bx sg 0) (bx sg 9) (bx sg 1) (bx sg 6) g) (.ref (bx sg 0)) (.ref (bx sg 8)) (.ref (bx sg 9)) (UX (T5 sg) f) elt g⟩
theorem Oa(z a b c:Nat)(g:Comprehension):VH z a b c g=zfR z a b c g:=by
 unfold VH zfR
 cases h:g.target with
 |Tuple elts k p=>
  have e:DA (PySem.W.Fast.tw1578499551869305889 (.Tuple elts k p) (.ref z) (.ref a)) (zfO a b c)=Vj a z:=by kernel_rfl
  exact e.trans (Ei a z)
 |List elts p=>
  have e:DA (PySem.W.Fast.tw1578499551869305889 (.List elts p) (.ref z) (.ref a)) (zfO a b c)=Vj a z:=by kernel_rfl
  exact e.trans (Ei a z)
 |_=>rfl
theorem wk(f:Nat):(OY f).l=(OY f).r:=by
 funext T sg xl
 unfold OY
 simp only[Oa]
noncomputable def G1(B:Bool)(y:Str)(u:Nat):LV:=match B with
 |true=> []
 |false=> [.str y u]
noncomputable def Nl(B:Bool):Nat:=match B with
 |true=>0
 |false=>1
noncomputable def A2(B:Bool)(A:LV)(na:Nat)(y:Str)(u:Nat):Obj:=match B with
 |true=>bu A na
 |false=>bu (A++ [.str y u]) (na+1)
theorem EX(B:Bool)(A:LV)(na:Nat)(y:Str)(u:Nat):A2 B A na y u=bu (A++G1 B y u) (na+Nl B):=by
 cases B with
 |true=>show bu A na=bu (A++ []) (na+0);rw[List.append_nil];rfl
 |false=>rfl
noncomputable def zpS(P:Pm)(ad:LN)(x0 x1 x2 x3:Nat)(B:Bool)(aA dus A:LV)(nr nd na i rt at_:Nat)(m:Option ZpM)(e:Nat)(gl:LG):Spec:=match m with
 |none=>bW (IF P ad (bn (.ref (gx ad 3)) i) (bn (.ref (gx ad 5)) i) aA dus nr nd none e (bu A na)) [(2,fun l=>bn (.ref (gx ad 3)) (i+1)),(4,fun l=>bn (.ref (gx ad 5)) (i+1)),(6,fun l=>Ne (some ⟨gx l 0,gx l 1,⟨⟨[x0,x1,x2,x3]⟩⟩,rt,hH B,at_⟩)),(7,fun l=>EZ P (some ⟨gx l 0,gx l 1,⟨⟨[x0,x1,x2,x3]⟩⟩,rt,hH B,at_⟩) (e+2)),(8,fun l=>A2 B A na ⟨⟨[x0,x1,x2,x3]⟩⟩ rt)] [] 2 (fun l=> .ok .next) gl
 |some k=>bW (IF P ad (bn (.ref (gx ad 3)) i) (bn (.ref (gx ad 5)) i) aA dus nr nd (some k) e (bu A na)) [(2,fun l=>bn (.ref (gx ad 3)) (i+1)),(4,fun l=>bn (.ref (gx ad 5)) (i+1)),(6,fun l=>Ne (some ⟨k.k1,k.k2,⟨⟨[x0,x1,x2,x3]⟩⟩,rt,hH B,at_⟩)),(7,fun l=>EZ P (some ⟨k.k1,k.k2,⟨⟨[x0,x1,x2,x3]⟩⟩,rt,hH B,at_⟩) e),(8,fun l=>A2 B A na ⟨⟨[x0,x1,x2,x3]⟩⟩ rt)] [] 0 (fun l=> .ok .next) gl
noncomputable def RH(T:BT)(xl:LN):LN:=[dZ T 7 0,dZ T 7 1]
noncomputable def RG(T:BT)(xl:LN):LN:=[]
section
variable{w:Wd}{os:OS}{a0 a1 a2 a3 a4 a5 a6 a7 a8 x0 x1 x2 x3:Nat}{B:Bool}{aA dus A:LV}{nr nd na i rt at_ e f:Nat}{gl:LG}
theorem Zq:dy (model TW w) (bD w.params) os 410 (Iv [a0,a1,a2,a3,a4,a5,a6,a7,a8] f) [a0,a1,a2,a3,a4,a5,a6,a7,a8] (bW (IF w.params [a0,a1,a2,a3,a4,a5,a6,a7,a8] (bn (.ref a3) 0) (bn (.ref a5) 0) aA dus nr nd none e (bu A na)) [] [] 0 (fun _=> .ok .next) gl) (fun _=>Og [a0,a1,a2,a3,a4,a5,a6,a7,a8] f):=
 aQ (av w) (hdp:=440) (U:={}) ⟨ak,ak,al,(fun _ h=>nomatch h),(fun _ h=>nomatch h),(fun _ h=>nomatch h)⟩ [] Ig 27 [2,1,1,1,1,1,1,1,1,1]
theorem aae(hx:aA[i]? =some (.str ⟨⟨[x0,x1,x2,x3]⟩⟩ rt))(hy:dus[i]? =some (.int (hH B) at_))(hA1:A.length≤1000):
 dy (model TW w) (bD w.params) os 410 (Og [a0,a1,a2,a3,a4,a5,a6,a7,a8] f) [a0,a1,a2,a3,a4,a5,a6,a7,a8] (zpS w.params [a0,a1,a2,a3,a4,a5,a6,a7,a8] x0 x1 x2 x3 B aA dus A nr nd na i rt at_ none e gl) (fun _=>Og [a0,a1,a2,a3,a4,a5,a6,a7,a8] f):=by
 cases B with
 |false=>exact aQ (av w) (hdp:=440) (U:={hs:=[(aB (cJ aA nr i (.str ⟨⟨[x0,x1,x2,x3]⟩⟩ rt) [2,3])),(aB (cJ dus nd i (.int 0 at_) [4,5])),(aB (zA A na (.str ⟨⟨[x0,x1,x2,x3]⟩⟩ rt) [8]))],fa:=[OY f]}) ⟨(ac (ae (cg hx)) (ac (ae (cg hy)) (ac (ae (BM hA1)) ak))),ak,al,(oo (wk f) EW),(fun _ h=>nomatch h),(fun _ h=>nomatch h)⟩ [] RH 119 J6
 |true=>exact aQ (av w) (hdp:=440) (U:={hs:=[(aB (cJ aA nr i (.str ⟨⟨[x0,x1,x2,x3]⟩⟩ rt) [2,3])),(aB (cJ dus nd i (.int 1 at_) [4,5]))],fa:=[OY f]}) ⟨(ac (ae (cg hx)) (ac (ae (cg hy)) ak)),ak,al,(oo (wk f) EW),(fun _ h=>nomatch h),(fun _ h=>nomatch h)⟩ [] RH 113 Ly
theorem VT{k:ZpM}(hx:aA[i]? =some (.str ⟨⟨[x0,x1,x2,x3]⟩⟩ rt))(hy:dus[i]? =some (.int (hH B) at_))(hA1:A.length≤1000):
 dy (model TW w) (bD w.params) os 410 (Og [a0,a1,a2,a3,a4,a5,a6,a7,a8] f) [a0,a1,a2,a3,a4,a5,a6,a7,a8] (zpS w.params [a0,a1,a2,a3,a4,a5,a6,a7,a8] x0 x1 x2 x3 B aA dus A nr nd na i rt at_ (some k) e gl) (fun _=>Og [a0,a1,a2,a3,a4,a5,a6,a7,a8] f):=by
 cases B with
 |false=>exact aQ (av w) (hdp:=440) (U:={hs:=[(aB (cJ aA nr i (.str ⟨⟨[x0,x1,x2,x3]⟩⟩ rt) [2,3])),(aB (cJ dus nd i (.int 0 at_) [4,5])),(aB (zA A na (.str ⟨⟨[x0,x1,x2,x3]⟩⟩ rt) [8]))],fa:=[OY f]}) ⟨(ac (ae (cg hx)) (ac (ae (cg hy)) (ac (ae (BM hA1)) ak))),ak,al,(oo (wk f) EW),(fun _ h=>nomatch h),(fun _ h=>nomatch h)⟩ [] RG 119 J6
 |true=>exact aQ (av w) (hdp:=440) (U:={hs:=[(aB (cJ aA nr i (.str ⟨⟨[x0,x1,x2,x3]⟩⟩ rt) [2,3])),(aB (cJ dus nd i (.int 1 at_) [4,5]))],fa:=[OY f]}) ⟨(ac (ae (cg hx)) (ac (ae (cg hy)) ak)),ak,al,(oo (wk f) EW),(fun _ h=>nomatch h),(fun _ h=>nomatch h)⟩ [] RG 113 Ly
theorem Wt{k:ZpM}(hx:aA.length≤i):
 cb (model TW w) (bD w.params) os 410 (Og [a0,a1,a2,a3,a4,a5,a6,a7,a8] f) [a0,a1,a2,a3,a4,a5,a6,a7,a8] (bW (IF w.params [a0,a1,a2,a3,a4,a5,a6,a7,a8] (bn (.ref a3) i) (bn (.ref a5) i) aA dus nr nd (some k) e (bu A na)) [(2,fun _=>bn .none i)] [] 0 (fun _=> .ok .next) gl):=
 aq (av w) (hdp:=440) (U:={hs:=[(aB (rB aA nr i [2,3]))]}) ⟨(ac (ae (oQ hx (by decide))) ak),ak,al,(fun _ h=>nomatch h),(fun _ h=>nomatch h),(fun _ h=>nomatch h)⟩ [] HZ 30 (J [Dx,[2,1,1,10]])
end
noncomputable def DL(x:Nat→Nat→Nat)(rt:NN)(bb:Nat→Bool)(i:Nat):LV:=(List.range i).flatMap fun j=>G1 (bb j) (bM x j) (rt j)
noncomputable def iT(bb:Nat→Bool):Nat→Nat
 |0=>0
 |i+1=>iT bb i+Nl (bb i)
theorem pL(x:Nat→Nat→Nat)(rt:NN)(bb:Nat→Bool)(i:Nat):DL x rt bb (i+1)=DL x rt bb i++G1 (bb i) (bM x i) (rt i):=by
 unfold DL
 rw[List.range_succ,List.flatMap_append]
 simp
theorem B_(bb:Nat→Bool):∀i,iT bb i≤i
 |0=>Nat.le_refl _
 |i+1=>by
  have:=B_ bb i
  have h:Nl (bb i)≤1:=by cases bb i<;>decide
  show iT bb i+Nl (bb i)≤i+1
  omega
theorem Ca(x:Nat→Nat→Nat)(rt:NN)(bb:Nat→Bool):∀i,(DL x rt bb i).length=iT bb i
 |0=>rfl
 |i+1=>by
  rw[pL,List.length_append,Ca x rt bb i]
  show _+_=iT bb i+Nl (bb i)
  cases bb i<;>rfl
noncomputable def Ql(x:Nat→Nat→Nat)(rt at_:NN)(bb:Nat→Bool)(i:Nat)(l:LN):ZpM:=⟨gx l 0,gx l 1,bM x i,rt i,hH (bb i),at_ i⟩
noncomputable def Ej(P:Pm)(ad:LN)(x:Nat→Nat→Nat)(rt at_:NN)(bb:Nat→Bool)(aA dus:LV)(nr nd na e i:Nat)(l:LN):LL:=match i with
 |0=>IF P ad (bn (.ref (gx ad 3)) 0) (bn (.ref (gx ad 5)) 0) aA dus nr nd none e (bu [] na)
 |i+1=>IF P ad (bn (.ref (gx ad 3)) (i+1)) (bn (.ref (gx ad 5)) (i+1)) aA dus nr nd (some (Ql x rt at_ bb i l)) (e+2) (bu (DL x rt bb (i+1)) (na+iT bb (i+1)))
noncomputable def Lr(P:Pm)(ad:LN)(x:Nat→Nat→Nat)(rt at_:NN)(bb:Nat→Bool)(aA dus:LV)(nr nd na e N:Nat)(l:LN):LL:=
 IF P ad (bn .none N) (bn (.ref (gx ad 5)) N) aA dus nr nd (some (Ql x rt at_ bb (N -1) l)) (e+2) (bu (DL x rt bb N) (na+iT bb N))
noncomputable def UP:Nat→Nat
 |0=>0
 |_+1=>2
section
variable{w:Wd}{os:OS}{a0 a1 a2 a3 a4 a5 a6 a7 a8:Nat}{aA dus:LV}{nr nd na e f:Nat}{gl:LG}{x:Nat→Nat→Nat}{rt at_:NN}{bb:Nat→Bool}{N:Nat}
theorem TU(P:Pm)(ad:LN)(x:Nat→Nat→Nat)(rt at_:NN)(bb:Nat→Bool)(aA dus:LV)(nr nd na e i:Nat)(l:LN):
 IF P ad (bn (.ref (gx ad 3)) (i+1)) (bn (.ref (gx ad 5)) (i+1)) aA dus nr nd (some (Ql x rt at_ bb i l)) (e+2) (A2 (bb i) (DL x rt bb i) (na+iT bb i) (bM x i) (rt i))=Ej P ad x rt at_ bb aA dus nr nd na e (i+1) l:=by
 rw[EX,←pL,Nat.add_assoc]
 rfl
theorem MX(hN:0<N)(hN2:N≤900)(hlen:aA.length=N)(hrows:∀i<N,aA[i]? =some (.str (bM x i) (rt i)))(hdus:∀i<N,dus[i]? =some (.int (hH (bb i)) (at_ i))):
 cb (model TW w) (bD w.params) os 410 (Iv [a0,a1,a2,a3,a4,a5,a6,a7,a8] f) [a0,a1,a2,a3,a4,a5,a6,a7,a8] (zt (Ej w.params [a0,a1,a2,a3,a4,a5,a6,a7,a8] x rt at_ bb aA dus nr nd na e 0 []) (Lr w.params [a0,a1,a2,a3,a4,a5,a6,a7,a8] x rt at_ bb aA dus nr nd na e N) 9 2 gl):=by
 intro s K0 g hl hA0 nd' hk
 refine hW (c:=Og [a0,a1,a2,a3,a4,a5,a6,a7,a8] f) (n:=N) (len:=UP) (ob:=Ej w.params [a0,a1,a2,a3,a4,a5,a6,a7,a8] x rt at_ bb aA dus nr nd na e) nd' hk ?_ rfl ?_ ?_ rfl ?_ (fun _=>rfl) s K0 g hl hA0
 ·intro s Q R next
  exact cN nd' hk Zq rfl rfl rfl rfl rfl rfl R fun l s' _ R'=>next s' R'
 ·intro i l s0 s Q hi hl R next
  cases i with
  |zero=>
   have hl:l=[]:=List.length_eq_zero_iff.mp hl
   subst hl
   refine cN nd' hk (aae (gl:=gl) (na:=na) (nr:=nr) (nd:=nd) (e:=e) (f:=f) (hrows 0 hN) (hdus 0 hN) (A:=[]) (Nat.zero_le _)) rfl rfl rfl rfl rfl rfl R fun ts s' htl R'=> ?_
   exact next ts s' htl (TU w.params [a0,a1,a2,a3,a4,a5,a6,a7,a8] x rt at_ bb aA dus nr nd na e 0 ts▸R')
  |succ i=>
   have hl:l.length=2:=hl
   refine cN nd' hk (VT (gl:=gl) (na:=na+iT bb (i+1)) (nr:=nr) (nd:=nd) (e:=e+2) (f:=f) (k:=Ql x rt at_ bb i l) (hrows (i+1) hi) (hdus (i+1) hi) (A:=DL x rt bb (i+1)) (by rw[Ca];have:=B_ bb (i+1);omega)) rfl rfl rfl rfl rfl rfl R fun ts s' htl R'=> ?_
   exact next l s' hl (TU w.params [a0,a1,a2,a3,a4,a5,a6,a7,a8] x rt at_ bb aA dus nr nd na e (i+1) l▸R')
 ·intro l s0 s Q hl R next
  obtain⟨i,rfl⟩:∃i,N=i+1:=⟨N -1,by omega⟩
  exact ub nd' hk (Wt (gl:=gl) (A:=DL x rt bb (i+1)) (na:=na+iT bb (i+1)) (nr:=nr) (nd:=nd) (dus:=dus) (e:=e+2) (f:=f) (k:=Ql x rt at_ bb i l) (aA:=aA) (i:=i+1) (by omega)) rfl rfl rfl rfl rfl rfl R fun ts s' _ R'=>next s' R'
 ·obtain⟨i,rfl⟩:∃i,N=i+1:=⟨N -1,by omega⟩
  rfl
end
end
section
open PySem.SeqAt PySem.MeetsSeq PySem.Calls PyProof.Rows
noncomputable def Rq{α:Type}(n:Nat)(c:Nat→Nat→Bool):KasT α→Option α
 | .ret a=>some a
 | .ask i j k=>bif Nat.blt i n&&Nat.blt j n then Rq n c (k (c i j)) else none
theorem En{α:Type}{n:Nat}{c:Nat→Nat→Bool}{cmp:Nat→Nat→(Bool→Ś→Prop)→Ś→Prop}(h:∀i j C s,i<n→j<n→C (c i j) s→cmp i j C s){Q:α→Ś→Prop}{r:α}:∀(t:KasT α)(s:Ś),Rq n c t=some r→Q r s→t.kasWp cmp Q s
 | .ret a,s,e,q=>by
  obtain rfl:a=r:=by simpa[Rq] using e
  exact q
 | .ask i j k,s,e,q=>by
  unfold Rq at e
  cases hb:(Nat.blt i n&&Nat.blt j n) with
  |false=>rw[hb] at e;cases e
  |true=>
   rw[hb] at e
   have hh:=Bool.and_eq_true _ _▸hb
   have h1:i<n:=by have:=hh.1;simpa[Nat.blt_eq] using this
   have h2:j<n:=by have:=hh.2;simpa[Nat.blt_eq] using this
   exact h i j _ s h1 h2 (En h (k (c i j)) s e q)
noncomputable def Oj:LN→LN→Bool
 |[],[]=>false
 |[],_::_=>true
 |_::_,[]=>false
 |x::xs,y::ys=>bif Nat.blt x y then true else bif Nat.beq x y then Oj xs ys else false
theorem Ef:∀a b:LN,Oj a b=decide (a<b)
 |[],[]=>by simp[Oj]
 |[],_::_=>by simp[Oj]
 |_::_,[]=>by simp[Oj]
 |x::xs,y::ys=>by
  unfold Oj
  rw[Ef xs ys]
  have key:(x::xs<y::ys)↔(x<y∨(x=y∧xs<ys)):=List.cons_lt_cons_iff
  have h3:decide (x::xs<y::ys)=(Nat.blt x y||(Nat.beq x y&&decide (xs<ys))):=by
   have h4:decide (x::xs<y::ys)=decide (x<y∨(x=y∧xs<ys)):=decide_eq_decide.mpr key
   rw[h4]
   cases e1:Nat.blt x y with
   |true=>
    have h1:x<y:=by simpa[Nat.blt_eq] using e1
    simp[h1]
   |false=>
    have h1:¬x<y:=fun h=>by
     have:Nat.blt x y=true:=by simpa[Nat.blt_eq] using h
     rw[e1] at this
     cases this
    cases e2:Nat.beq x y with
    |true=>
     have h2:x=y:=Nat.eq_of_beq_eq_true e2
     subst h2
     simp
    |false=>
     have h2:x≠y:=fun h=>by subst h;rw[Nat.beq_refl] at e2;cases e2
     simp[h1,h2]
  rw[h3]
  cases Nat.blt x y with
  |true=>rfl
  |false=>cases Nat.beq x y<;>rfl
noncomputable def ba(g:Nat→Str)(t:NN)(n:Nat):LV:=(List.range n).map fun i=> .str (g i) (t i)
theorem db(g:Nat→Str)(t:NN)(n:Nat):(ba g t n).length=n:=by simp[ba]
theorem mK{g:Nat→Str}{t:NN}{n i:Nat}(h:i<n):(ba g t n).getD i .none= .str (g i) (t i):=by
 unfold ba
 simp[h]
noncomputable def Pr(g:Nat→Str)(i j:Nat):Bool:=Oj (g i).cps.toList (g j).cps.toList
noncomputable def Fn(g:Nat→Str)(n:Nat):Option (Array Nat):=Rq n (Pr g) (kas_sort n)
section
variable{w:Wd}{os:OS}{hdp dep:Nat}{slots:LN}
theorem C8{p:Program}{kt:KT}{a:Addr}{m n:Nat}{g u:Nat→Str}{t:NN}{pm:Array Nat}{gl:LG}(h2:2≤n)(h64:n<64)(hp:Fn g n=some pm)(hl:pm.toList.map g=(List.range n).map u)(hlt:pm.toList.all (fun i=>Nat.blt i n)=true):
 cb (model p w) kt os dep (.call (.builtin "list.sort") ⟨[.ref a],[]⟩) [a] {pre:=[bu (ba g t n) m],post:=[fun l=>bu (ba u (gx l) n) (m+2)],news:=[],nt:=n,rv:=fun _=> .ok (.ret .none),gl,gl':=gl}:=by
 refine cH slot_list_sort entry_list_sort (args_list_sort _) fun s K g' l' q nd hk=> ?_
 have ho:s.heap.get? a=some (seqObj "list" (ba g t n).toArray m):=q (a,_) List.mem_cons_self
 refine⟨⟨_,ho,rfl⟩,?_⟩
 have hz:(ba g t n).length=n:=db g t n
 have ho1:=get?_update_seq ho fun _=>(#[]:Array Vl)
 have hm1:(if((#[]:Array Vl).size==(ba g t n).toArray.size)=true then m else m+1)=m+1:=by
  have hz':(ba g t n).toArray.size=n:=by rw[List.size_toArray];exact hz
  rw[hz',if_neg]
  show ¬((0:Nat)==n)=true
  intro h
  have:=eq_of_beq h
  omega
 rw[hm1] at ho1
 rw[list_sort_plain]
 refine wpAny_bind (listItems_at ho rfl ?_)
 refine wpAny_bind (listUpdate_at ho rfl ?_ (by rw[List.size_toArray,sizeLine_eq];omega) (Nat.zero_le _))
 refine wpAny_bind (seqEpoch_at ho1 rfl ?_)
 refine wpAny_bind (wpAny_newTuple ?_ (by show(ba g t n).length≤_;rw[sizeLine_eq];omega))
 refine wpAny_bind (wpAny_newList ?_ (Nat.zero_le _))
 refine wpAny_holding ?_
 dsimp only
 have hn2:¬(ba g t n).toArray.size<2:=by rw[List.size_toArray];omega
 rw[if_neg hn2,if_neg hn2]
 refine wpAny_bind (kas_kind (T:= .type "str") (by omega) (fun v hv=> ?_) rfl rfl ?_)
 ·unfold ba at hv
  obtain⟨i,_,rfl⟩:=List.mem_map.mp hv
  exact Looks.of_pure rfl
 have est:SortSt.mk' oneType' ((ba g t n).toArray.zip (ba g t n).toArray) #[] 7 none=kas_st oneType' (pairsOf (ba g t n)) (List.toArray (List.range n)):=by
  have e:=kas_range (pairsOf (ba g t n))
  rw[pairsOf_size,hz] at e
  show SortSt.mk' oneType' (pairsOf (ba g t n)) #[] 7 none=SortSt.mk' oneType' ((List.toArray (List.range n)).map (kas_item (pairsOf (ba g t n)))) #[] 7 none
  rw[e]
 rw[est]
 refine wpAny_bind (wpAny_mono (kas_runs (it:=pairsOf (ba g t n)) (Q:=fun _ st' s'=>∃p':Array Nat,p'=pm∧arrOf st'=p'.map (kas_item (pairsOf (ba g t n)))∧failedOf st'=none∧s'={s with heap:=((s.heap.update a (Obj.mapSeq fun _=>(#[]:Array Vl))).push (seqObj "tuple" (ba g t n).toArray 0)).push (seqObj "list" #[] 0)})
  (G:=fun p' s'=>p'=pm∧s'={s with heap:=((s.heap.update a (Obj.mapSeq fun _=>(#[]:Array Vl))).push (seqObj "tuple" (ba g t n).toArray 0)).push (seqObj "list" #[] 0)}) h2 h64 (fun p' st' s' _ b c d=>⟨p',d.1,b,c,d.2⟩) ?_) ?_ fun _ _ e=>e)
 ·refine En (c:=Pr g) (n:=n) (fun i j C s' hi hj hC=> ?_) _ _ hp ⟨rfl,rfl⟩
  unfold kas_cmp
  rw[kas_item_eq,kas_item_eq,mK hi,mK hj]
  refine kas_lt_str ?_
  have:=Ef (g i).cps.toList (g j).cps.toList
  unfold Pr at hC
  rw[this] at hC
  exact hC
 ·rintro⟨⟨⟩,st'⟩ s' ⟨p',rfl,har,hf,rfl⟩
  dsimp only
  have hout:(arrOf st').map (·.2)=List.toArray (p'.toList.map fun i=> .str (g i) (t i)):=by
   apply Array.toList_inj.mp
   rw[har,Array.map_map,Array.toList_map]
   refine List.map_congr_left fun i hi=> ?_
   show(kas_item (pairsOf (ba g t n)) i).2=_
   have hi':i<n:=by
    have:=List.all_eq_true.mp hlt i hi
    simpa[Nat.blt_eq] using this
   rw[kas_item_eq,mK hi']
  have hlen:p'.toList.length=n:=by
   have:=congrArg List.length hl
   simpa using this
  have hsz:(List.toArray (p'.toList.map fun i=>Value.str (g i) (t i))).size=n:=by rw[List.size_toArray,List.length_map,hlen]
  have hoA:(((s.heap.update a (Obj.mapSeq fun _=>(#[]:Array Vl))).push (seqObj "tuple" (ba g t n).toArray 0)).push (seqObj "list" #[] 0)).get? a=some (seqObj "list" #[] (m+1)):=
   Heap.get?_push_of_some _ (Heap.get?_push_of_some _ ho1)
  rw[hout]
  refine wpAny_bind (seqEpoch_at hoA rfl ?_)
  refine wpAny_bind (listUpdate_at hoA rfl ?_ (Nat.zero_le _) (Nat.le_trans (Nat.le_of_eq hsz) (by rw[sizeLine_eq];omega)))
  rw[hf]
  simp only[bne_self_eq_false,Bool.false_eq_true,if_false]
  refine wpAny_pure ?_
  have ho2:=get?_update_seq hoA fun _=>List.toArray (p'.toList.map fun i=>Value.str (g i) (t i))
  have hm2:(if((List.toArray (p'.toList.map fun i=>Value.str (g i) (t i))).size==(#[]:Array Vl).size)=true then m+1 else m+1+1)=m+2:=by
   rw[hsz,if_neg]
   show ¬(n==0)=true
   intro h
   have:=eq_of_beq h
   omega
  rw[hm2] at ho2
  refine⟨[],p'.toList.map t,rfl,by simp;exact hlen,rfl,fun x o h hx=> ?_,fun p hp=> ?_,fun p hp=>by simp at hp,by simp,?_,g',by have:=K.gok;rw[g'] at this;exact this,rfl,K.tk⟩
  ·have hxa:x≠a:=fun e=>hx (by subst e;simp)
   rw[Heap.get?_update_ne _ _ _ _ hxa]
   refine Heap.get?_push_of_some _ (Heap.get?_push_of_some _ ?_)
   rw[Heap.get?_update_ne _ _ _ _ hxa]
   exact h
  ·have hp:p=(a,bu (ba u (gx (p'.toList.map t)) n) (m+2)):=by simpa using hp
   subst hp
   show Heap.get? _ a=_
   rw[ho2]
   have e:(p'.toList.map fun i=>Value.str (g i) (t i))=ba u (gx (p'.toList.map t)) n:=by
    have hg:∀(L:LN)(i:Nat),gx L i=L.getD i 0:=by
     intro L
     induction L with
     |nil=>intro i;rfl
     |cons x L ih=>
      intro i
      cases i with
      |zero=>rfl
      |succ i=>exact ih i
    apply List.ext_getElem?
    intro i
    unfold ba
    by_cases hi:i<n
    ·have hi':i<p'.toList.length:=by omega
     have h1:p'.toList[i]? =some (p'.toList[i]):=List.getElem?_eq_getElem hi'
     have h3:=congrArg (fun L=>L[i]?) hl
     simp only[List.getElem?_map,h1,List.getElem?_range hi,Option.map_some,Option.some.injEq] at h3
     rw[List.getElem?_map,h1,List.getElem?_map,List.getElem?_range hi,Option.map_some,Option.map_some,h3,hg,List.getD_eq_getElem?_getD,List.getElem?_map,h1]
     rfl
    ·rw[List.getElem?_eq_none (by rw[List.length_map];omega),List.getElem?_eq_none (by rw[List.length_map,List.length_range];omega)]
   rw[e]
  ·show s.heap.objs.size≤_
   rw[Heap.size_update,Heap.size_push,Heap.size_push,Heap.size_update]
   omega
noncomputable def EI(g u:Nat→Str)(n:Nat)(slots:LN):Hk:=
 ⟨slots,fun ad _ _=> .call (.builtin "list.sort") ⟨[.ref (gx ad 0)],[]⟩,fun gl _ obs _=>{pre:=[bu (ba g (fun i=>bz (o5 (gO obs 0) i)) n) (bO (gO obs 0))],post:=[fun l=>bu (ba u (gx l) n) (bO (gO obs 0)+2)],news:=[],nt:=n,rv:=fun _=> .ok (.ret .none),gl,gl':=gl},aC⟩
theorem OL{g u:Nat→Str}{n:Nat}{pm:Array Nat}(h2:2≤n)(h64:n<64)(hp:Fn g n=some pm)(hl:pm.toList.map g=(List.range n).map u)(hlt:pm.toList.all (fun i=>Nat.blt i n)=true)(hn:slots.Nodup:=by decide):(EI g u n slots).Ok (bs w.params w.params) w os hdp:=qs hn (fun _ _ _ _=>rfl) fun gl a obs c=>C8 h2 h64 hp hl hlt
end
end
section
variable(w:Wd)(os:OS)
noncomputable def zw:Str:=⟨⟨[39,33,39]⟩⟩
noncomputable def AM:Str:=⟨⟨[39,42,39]⟩⟩
noncomputable def zX:Str:=⟨⟨[39,63,39]⟩⟩
noncomputable def zZ:Str:=⟨⟨[39,91,39]⟩⟩
noncomputable def AN:Str:=⟨⟨[39,93,39]⟩⟩
noncomputable def Nt:PC:=fun ad t=>(.call (.ref 845) ⟨[.str ⟨⟨[45]⟩⟩ (t 0)],[]⟩)
noncomputable def M_:PO:=fun P ad t=>[]
noncomputable def Me:PS:=fun P gl ad t=>bW (M_ P ad t) [] [] 0 (fun l=> .ok (.ret (.str ⟨⟨[45]⟩⟩ (t 0)))) gl
noncomputable def P8(r:Re)(T:BT)(xl:LN):LN:=[]
theorem Zo(gl:LG)(t:NN):SA w os 420 Nt (Me w.params gl) [] t:=
 aq (av w) (hdp:=450) (U:={hs:=[],ks:=[],sam:=[],fa:=[],fb:=[],f3:=[]}) ⟨ak,ak,al,(fun _ h=>nomatch h),(fun _ h=>nomatch h),(fun _ h=>nomatch h)⟩ [] P8 53 EG
noncomputable def NT:PC:=fun ad t=>(.call (.ref 845) ⟨[.str ⟨⟨[42]⟩⟩ (t 0)],[]⟩)
noncomputable def OF:PO:=fun P ad t=>[]
noncomputable def Nh:PS:=fun P gl ad t=>bW (OF P ad t) [] [] 1 (fun l=> .ok (.ret (.str AM (gx l 0)))) gl
noncomputable def MS(r:Re)(T:BT)(xl:LN):LN:=[bz (dC r)]
theorem X6(gl:LG)(t:NN):SA w os 420 NT (Nh w.params gl) [] t:=
 aq (av w) (hdp:=450) (U:={hs:=[],ks:=[],sam:=[],fa:=[],fb:=[],f3:=[]}) ⟨ak,ak,al,(fun _ h=>nomatch h),(fun _ h=>nomatch h),(fun _ h=>nomatch h)⟩ [] MS 84 yB
noncomputable def Mm:PC:=fun ad t=>(.call (.ref 845) ⟨[.str ⟨⟨[33]⟩⟩ (t 0)],[]⟩)
noncomputable def Of:PO:=fun P ad t=>[]
noncomputable def Md:PS:=fun P gl ad t=>bW (Of P ad t) [] [] 1 (fun l=> .ok (.ret (.str zw (gx l 0)))) gl
noncomputable def Ns(r:Re)(T:BT)(xl:LN):LN:=[bz (dC r)]
theorem ZO(gl:LG)(t:NN):SA w os 420 Mm (Md w.params gl) [] t:=
 aq (av w) (hdp:=450) (U:={hs:=[],ks:=[],sam:=[],fa:=[],fb:=[],f3:=[]}) ⟨ak,ak,al,(fun _ h=>nomatch h),(fun _ h=>nomatch h),(fun _ h=>nomatch h)⟩ [] Ns 84 yB
noncomputable def Ng:PC:=fun ad t=>(.call (.ref 845) ⟨[.str ⟨⟨[63]⟩⟩ (t 0)],[]⟩)
noncomputable def Qa:PO:=fun P ad t=>[]
noncomputable def O2:PS:=fun P gl ad t=>bW (Qa P ad t) [] [] 1 (fun l=> .ok (.ret (.str zX (gx l 0)))) gl
noncomputable def Pi(r:Re)(T:BT)(xl:LN):LN:=[bz (dC r)]
theorem Zm(gl:LG)(t:NN):SA w os 420 Ng (O2 w.params gl) [] t:=
 aq (av w) (hdp:=450) (U:={hs:=[],ks:=[],sam:=[],fa:=[],fb:=[],f3:=[]}) ⟨ak,ak,al,(fun _ h=>nomatch h),(fun _ h=>nomatch h),(fun _ h=>nomatch h)⟩ [] Pi 84 yB
noncomputable def Pg:PC:=fun ad t=>(.call (.ref 845) ⟨[.str ⟨⟨[91]⟩⟩ (t 0)],[]⟩)
noncomputable def PE:PO:=fun P ad t=>[]
noncomputable def O_:PS:=fun P gl ad t=>bW (PE P ad t) [] [] 1 (fun l=> .ok (.ret (.str zZ (gx l 0)))) gl
noncomputable def OJ(r:Re)(T:BT)(xl:LN):LN:=[bz (dC r)]
theorem qu91(gl:LG)(t:NN):SA w os 420 Pg (O_ w.params gl) [] t:=
 aq (av w) (hdp:=450) (U:={hs:=[],ks:=[],sam:=[],fa:=[],fb:=[],f3:=[]}) ⟨ak,ak,al,(fun _ h=>nomatch h),(fun _ h=>nomatch h),(fun _ h=>nomatch h)⟩ [] OJ 84 yB
noncomputable def Nr:PC:=fun ad t=>(.call (.ref 845) ⟨[.str ⟨⟨[97]⟩⟩ (t 0)],[]⟩)
noncomputable def OB:PO:=fun P ad t=>[]
noncomputable def PF:PS:=fun P gl ad t=>bW (OB P ad t) [] [] 0 (fun l=> .ok (.ret (.str ⟨⟨[97]⟩⟩ (t 0)))) gl
noncomputable def MA(r:Re)(T:BT)(xl:LN):LN:=[]
theorem WG(gl:LG)(t:NN):SA w os 420 Nr (PF w.params gl) [] t:=
 aq (av w) (hdp:=450) (U:={hs:=[],ks:=[],sam:=[],fa:=[],fb:=[],f3:=[]}) ⟨ak,ak,al,(fun _ h=>nomatch h),(fun _ h=>nomatch h),(fun _ h=>nomatch h)⟩ [] MA 55 EG
noncomputable def Pj:PC:=fun ad t=>(.call (.ref 845) ⟨[.str ⟨⟨[93]⟩⟩ (t 0)],[]⟩)
noncomputable def Mo:PO:=fun P ad t=>[]
noncomputable def MG:PS:=fun P gl ad t=>bW (Mo P ad t) [] [] 1 (fun l=> .ok (.ret (.str AN (gx l 0)))) gl
noncomputable def O8(r:Re)(T:BT)(xl:LN):LN:=[bz (dC r)]
theorem YX(gl:LG)(t:NN):SA w os 420 Pj (MG w.params gl) [] t:=
 aq (av w) (hdp:=450) (U:={hs:=[],ks:=[],sam:=[],fa:=[],fb:=[],f3:=[]}) ⟨ak,ak,al,(fun _ h=>nomatch h),(fun _ h=>nomatch h),(fun _ h=>nomatch h)⟩ [] O8 84 yB
noncomputable def MV:PC:=fun ad t=>(.call (.ref 845) ⟨[.str ⟨⟨[98]⟩⟩ (t 0)],[]⟩)
noncomputable def PP:PO:=fun P ad t=>[]
noncomputable def LK:PS:=fun P gl ad t=>bW (PP P ad t) [] [] 0 (fun l=> .ok (.ret (.str ⟨⟨[98]⟩⟩ (t 0)))) gl
noncomputable def M9(r:Re)(T:BT)(xl:LN):LN:=[]
theorem YE(gl:LG)(t:NN):SA w os 420 MV (LK w.params gl) [] t:=
 aq (av w) (hdp:=450) (U:={hs:=[],ks:=[],sam:=[],fa:=[],fb:=[],f3:=[]}) ⟨ak,ak,al,(fun _ h=>nomatch h),(fun _ h=>nomatch h),(fun _ h=>nomatch h)⟩ [] M9 55 EG
end
section
variable(w:Wd)(os:OS)
noncomputable def UJ(x:Str)(L p ptk ch:Nat)(X:Str)(xt:Nat)(nc:Vl)(qb:Bool):PC:=fun ad t=>(dW [36,6,2] {scope:=(c7 [36,6]),locals:=(gx ad 4),globals:=3,cells:=[],qual:=aN,func:=(some 786),code:=(.ref 785),frame:=(some (gx ad 4)),builtins:=0})
noncomputable def WI(x:Str)(L p ptk ch:Nat)(X:Str)(xt:Nat)(nc:Vl)(qb:Bool):PO:=fun P ad t=>[(O (.ref 818) (some (gx ad 1)) .plain ⟨[]⟩),(O (.type "dict") none (.dict ⟨[D P aI (t 0) (.ref (gx ad 2)),D P aV (t 1) .none,D P bk (t 2) (.bool true),D P cu (t 3) .none,D P az (t 4) (.str ⟨⟨[]⟩⟩ (t 5)),D P aD (t 6) (.str ah (t 7)),D P ay (t 8) (.str aw (t 9)),D P an (t 10) (.bool true),D P aW (t 11) (.str aU (t 12)),D P aS (t 13) (.str ⟨⟨[92]⟩⟩ (t 14)),D P au (t 15) (.str ⟨⟨[34]⟩⟩ (t 16)),D P bq (t 17) (.str ⟨⟨[32]⟩⟩ (t 18)),D P aH (t 19) (.ref (t 20)),D P aX (t 21) (.int 1 (t 22)),D P br (t 23) (.int 0 (t 24)),D P bo (t 25) (.str X xt),D P aF (t 26) (.ref (t 27)),D P aT (t 28) .none,D P ai (t 29) (.str ⟨⟨[]⟩⟩ (t 30))]⟩ (t 31)) ⟨[]⟩),(O (.ref 725) (some (gx ad 3)) .plain ⟨[]⟩),(O (.type "dict") none (.dict ⟨[D P aj (t 32) (.str ⟨⟨[10]⟩⟩ (t 33)),D P ao (t 34) (.str x (t 35)),D P ap (t 36) (.int (Int.ofNat p) ptk)]⟩ (t 37)) ⟨[]⟩),(O (.type "frame") none (.dict ⟨[D P du (t 38) (.ref (gx ad 0)),D P cx (t 39) (.bool qb),D P bg (t 40) (.str ⟨⟨[32]⟩⟩ (t 41))]⟩ (t 42)) ⟨[]⟩)]
noncomputable def Ur(x:Str)(L p ptk ch:Nat)(X:Str)(xt:Nat)(nc:Vl)(qb:Bool):PS:=fun P gl ad t=>bW (WI x L p ptk ch X xt nc qb P ad t) [(1,fun l=>(O (.type "dict") none (.dict ⟨[D P aI (t 0) (.ref (gx ad 2)),D P aV (t 1) .none,D P bk (t 2) (.bool true),D P cu (t 3) .none,D P az (t 4) (.str ⟨⟨[]⟩⟩ (t 5)),D P aD (t 6) (.str ah (t 7)),D P ay (t 8) (.str aw (t 9)),D P an (t 10) (.bool true),D P aW (t 11) (.str aU (t 12)),D P aS (t 13) (.str ⟨⟨[92]⟩⟩ (t 14)),D P au (t 15) (.str ⟨⟨[34]⟩⟩ (t 16)),D P bq (t 17) (.str ⟨⟨[39]⟩⟩ (gx l 0)),D P aH (t 19) (.ref (t 20)),D P aX (t 21) (.int 1 (t 22)),D P br (t 23) (.int 0 (t 24)),D P bo (t 25) (.str X xt),D P aF (t 26) (.ref (t 27)),D P aT (t 28) .none,D P ai (t 29) (.str ⟨⟨[]⟩⟩ (t 30))]⟩ (t 31)) ⟨[]⟩)),(3,fun l=>(O (.type "dict") none (.dict ⟨[D P aj (t 32) (.str ⟨⟨[10]⟩⟩ (t 33)),D P ao (t 34) (.str x (t 35)),D P ap (t 36) (.int (Int.ofNat (p+1)) (gx l 1))]⟩ (t 37)) ⟨[]⟩)),(4,fun l=>(O (.type "frame") none (.dict ⟨[D P du (t 38) (.ref (gx ad 0)),D P cx (t 39) (.bool false),D P bg (t 40) (.str ⟨⟨[32]⟩⟩ (t 41)),D P b5 (gx l 2) (.str ⟨⟨[39]⟩⟩ (gx l 0))]⟩ ((t 42)+1)) ⟨[]⟩))] [] 3 (fun l=> .ok .next) gl
noncomputable def aa6(x:Str)(L p ptk ch:Nat)(X:Str)(xt:Nat)(nc:Vl)(qb:Bool)(ad:LN)(t:NN)(l:LN):Code:=(dW [36,6,2] {scope:=(c7 [36,6]),locals:=(gx ad 4),globals:=3,cells:=[],qual:=aN,func:=(some 786),code:=(.ref 785),frame:=(some (gx ad 4)),builtins:=0})
noncomputable def RU(obs:LL)(c:Code):LN:=[aZ obs 1 0,aZ obs 1 1,aZ obs 1 2,aZ obs 1 3,aZ obs 1 4,aJ obs 1 4,aZ obs 1 5,aJ obs 1 5,aZ obs 1 6,aJ obs 1 6,aZ obs 1 7,aZ obs 1 8,aJ obs 1 8,aZ obs 1 9,aJ obs 1 9,aZ obs 1 10,aJ obs 1 10,aZ obs 1 11,aJ obs 1 11,aZ obs 1 12,aJ obs 1 12,aZ obs 1 13,aJ obs 1 13,aZ obs 1 14,aJ obs 1 14,aZ obs 1 15,aZ obs 1 16,aJ obs 1 16,aZ obs 1 17,aZ obs 1 18,aJ obs 1 18,bO (gO obs 1),aZ obs 3 0,aJ obs 3 0,aZ obs 3 1,aJ obs 3 1,aZ obs 3 2,bO (gO obs 3),aZ obs 4 0,aZ obs 4 1,aZ obs 4 2,aJ obs 4 2,bO (gO obs 4)]
noncomputable def Xu(T:BT)(xl:LN):LN:=[aY T 1 11,aY T 3 2,dZ T 4 3]
theorem W0(x:Str)(L p ptk ch:Nat)(X:Str)(xt:Nat)(nc:Vl)(hx:x.length=L)(hL:L≤2^20)(h2:2≤x.length)(hc:x.cps.toList[p]? =some 39)(hp:p+1<L)(a0 a1 a2 a3 a4:Nat)(gl:LG)(t:NN):TA w os 480 (UJ x L p ptk ch X xt nc false) (Ur x L p ptk ch X xt nc false w.params gl) [a0,a1,a2,a3,a4] t (aa6 x L p ptk ch X xt nc false [a0,a1,a2,a3,a4] t):=
 eb (av w) (hdp:=560) (hs:=[dU x L p 39 w.params [2,3]]) (ks:=[]) (ac (df w os hx hL hc h2 hp) ak) ak [] Xu 489 (J [D_,ō1,eD,xq,ō1,[5],ō2,v6,v6,eD,v6,v6,[5,5],Fy,[7,7,1,0],d6,[0,0],v6,eD,[5,5],oz,[1]])
noncomputable def W8(x:Str)(L p ptk ch:Nat)(X:Str)(xt:Nat)(nc:Vl)(qb:Bool):PC:=fun ad t=>(dW [36,6,2] {scope:=(c7 [36,6]),locals:=(gx ad 4),globals:=3,cells:=[],qual:=aN,func:=(some 786),code:=(.ref 785),frame:=(some (gx ad 4)),builtins:=0})
noncomputable def W_(x:Str)(L p ptk ch:Nat)(X:Str)(xt:Nat)(nc:Vl)(qb:Bool):PO:=fun P ad t=>[(O (.ref 818) (some (gx ad 1)) .plain ⟨[]⟩),(O (.type "dict") none (.dict ⟨[D P aI (t 0) (.ref (gx ad 2)),D P aV (t 1) .none,D P bk (t 2) (.bool true),D P cu (t 3) .none,D P az (t 4) (.str ⟨⟨[]⟩⟩ (t 5)),D P aD (t 6) (.str ah (t 7)),D P ay (t 8) (.str aw (t 9)),D P an (t 10) (.bool true),D P aW (t 11) (.str aU (t 12)),D P aS (t 13) (.str ⟨⟨[92]⟩⟩ (t 14)),D P au (t 15) (.str ⟨⟨[34]⟩⟩ (t 16)),D P bq (t 17) (.str ⟨⟨[39]⟩⟩ (t 18)),D P aH (t 19) (.ref (t 20)),D P aX (t 21) (.int 1 (t 22)),D P br (t 23) (.int 0 (t 24)),D P bo (t 25) (.str X xt),D P aF (t 26) (.ref (t 27)),D P aT (t 28) .none,D P ai (t 29) (.str ⟨⟨[]⟩⟩ (t 30))]⟩ (t 31)) ⟨[]⟩),(O (.ref 725) (some (gx ad 3)) .plain ⟨[]⟩),(O (.type "dict") none (.dict ⟨[D P aj (t 32) (.str ⟨⟨[10]⟩⟩ (t 33)),D P ao (t 34) (.str x (t 35)),D P ap (t 36) (.int (Int.ofNat p) ptk)]⟩ (t 37)) ⟨[]⟩),(O (.type "frame") none (.dict ⟨[D P du (t 38) (.ref (gx ad 0)),D P cx (t 39) (.bool qb),D P bg (t 40) (.str ⟨⟨[32]⟩⟩ (t 41)),D P b5 (t 42) nc]⟩ (t 43)) ⟨[]⟩)]
noncomputable def QG(x:Str)(L p ptk ch:Nat)(X:Str)(xt:Nat)(nc:Vl)(qb:Bool):PS:=fun P gl ad t=>bW (W_ x L p ptk ch X xt nc qb P ad t) [(1,fun l=>(O (.type "dict") none (.dict ⟨[D P aI (t 0) (.ref (gx ad 2)),D P aV (t 1) .none,D P bk (t 2) (.bool true),D P cu (t 3) .none,D P az (t 4) (.str ⟨⟨[]⟩⟩ (t 5)),D P aD (t 6) (.str ah (t 7)),D P ay (t 8) (.str aw (t 9)),D P an (t 10) (.bool true),D P aW (t 11) (.str aU (t 12)),D P aS (t 13) (.str ⟨⟨[92]⟩⟩ (t 14)),D P au (t 15) (.str ⟨⟨[34]⟩⟩ (t 16)),D P bq (t 17) (.str ⟨⟨[39]⟩⟩ (t 18)),D P aH (t 19) (.ref (t 20)),D P aX (t 21) (.int 1 (t 22)),D P br (t 23) (.int 0 (t 24)),D P bo (t 25) (.str (X++⟨⟨[ch]⟩⟩) (gx l 0)),D P aF (t 26) (.ref (t 27)),D P aT (t 28) .none,D P ai (t 29) (.str ⟨⟨[]⟩⟩ (t 30))]⟩ (t 31)) ⟨[]⟩)),(3,fun l=>(O (.type "dict") none (.dict ⟨[D P aj (t 32) (.str ⟨⟨[10]⟩⟩ (t 33)),D P ao (t 34) (.str x (t 35)),D P ap (t 36) (.int (Int.ofNat (p+1)) (gx l 1))]⟩ (t 37)) ⟨[]⟩)),(4,fun l=>(O (.type "frame") none (.dict ⟨[D P du (t 38) (.ref (gx ad 0)),D P cx (t 39) (.bool true),D P bg (t 40) (.str ⟨⟨[32]⟩⟩ (t 41)),D P b5 (t 42) (.str ⟨⟨[ch]⟩⟩ (gx l 2))]⟩ (t 43)) ⟨[]⟩))] [] 3 (fun l=> .ok .next) gl
noncomputable def YQ(x:Str)(L p ptk ch:Nat)(X:Str)(xt:Nat)(nc:Vl)(qb:Bool)(ad:LN)(t:NN)(l:LN):Code:=(dW [36,6,2] {scope:=(c7 [36,6]),locals:=(gx ad 4),globals:=3,cells:=[],qual:=aN,func:=(some 786),code:=(.ref 785),frame:=(some (gx ad 4)),builtins:=0})
noncomputable def Yz(T:BT)(xl:LN):LN:=[aY T 1 15,aY T 3 2,aY T 4 3]
theorem W1(x:Str)(L p ptk ch:Nat)(X:Str)(xt:Nat)(nc:Vl)(qb:Bool)(hx:x.length=L)(hL:L≤2^20)(h2:2≤x.length)(hc:x.cps.toList[p]? =some ch)(hp:p+1<L)(hs:gD ch=true)(hX:X.length+Str.length ⟨⟨[ch]⟩⟩≤2^20)(a0 a1 a2 a3 a4:Nat)(gl:LG)(t:NN):TA w os 480 (W8 x L p ptk ch X xt nc qb) (QG x L p ptk ch X xt nc qb w.params gl) [a0,a1,a2,a3,a4] t (YQ x L p ptk ch X xt nc qb [a0,a1,a2,a3,a4] t):=
 eb (av w) (hdp:=560) (hs:=[dU x L p ch w.params [2,3],Ba ⟨⟨[ch]⟩⟩ ⟨⟨[10]⟩⟩ false [],Ba ⟨⟨[ch]⟩⟩ ⟨⟨[39]⟩⟩ false [],ci ⟨⟨[92]⟩⟩ ⟨⟨[ch]⟩⟩ false [],vY X ⟨⟨[ch]⟩⟩ []]) (ks:=[]) (ac (df w os hx hL hc h2 hp) (ac (zK (MJ hs)) (ac (zK (UB hs)) (ac (bN (So hs)) (ac (lX rfl hX) ak))))) ak [] Yz 392 (J [D_,[1,2],eD,xq,xq,ō2,[5,5,5],ō2,[5,5],ō9,[1,3],eD,[5,5],ō9,[4],eD,[5,5],oz,[1]])
noncomputable def W2_c(x:Str)(L p ptk ch:Nat)(X:Str)(xt:Nat)(nc:Vl)(qb:Bool):PC:=fun ad t=>(dW [36,6,2] {scope:=(c7 [36,6]),locals:=(gx ad 4),globals:=3,cells:=[],qual:=aN,func:=(some 786),code:=(.ref 785),frame:=(some (gx ad 4)),builtins:=0})
noncomputable def aaj(x:Str)(L p ptk ch:Nat)(X:Str)(xt:Nat)(nc:Vl)(qb:Bool):PO:=fun P ad t=>[(O (.ref 818) (some (gx ad 1)) .plain ⟨[]⟩),(O (.type "dict") none (.dict ⟨[D P aI (t 0) (.ref (gx ad 2)),D P aV (t 1) .none,D P bk (t 2) (.bool true),D P cu (t 3) .none,D P az (t 4) (.str ⟨⟨[]⟩⟩ (t 5)),D P aD (t 6) (.str ah (t 7)),D P ay (t 8) (.str aw (t 9)),D P an (t 10) (.bool true),D P aW (t 11) (.str aU (t 12)),D P aS (t 13) (.str ⟨⟨[92]⟩⟩ (t 14)),D P au (t 15) (.str ⟨⟨[34]⟩⟩ (t 16)),D P bq (t 17) (.str ⟨⟨[39]⟩⟩ (t 18)),D P aH (t 19) (.ref (t 20)),D P aX (t 21) (.int 1 (t 22)),D P br (t 23) (.int 0 (t 24)),D P bo (t 25) (.str X xt),D P aF (t 26) (.ref (t 27)),D P aT (t 28) .none,D P ai (t 29) (.str ⟨⟨[]⟩⟩ (t 30))]⟩ (t 31)) ⟨[]⟩),(O (.ref 725) (some (gx ad 3)) .plain ⟨[]⟩),(O (.type "dict") none (.dict ⟨[D P aj (t 32) (.str ⟨⟨[10]⟩⟩ (t 33)),D P ao (t 34) (.str x (t 35)),D P ap (t 36) (.int (Int.ofNat p) ptk)]⟩ (t 37)) ⟨[]⟩),(O (.type "frame") none (.dict ⟨[D P du (t 38) (.ref (gx ad 0)),D P cx (t 39) (.bool qb),D P bg (t 40) (.str ⟨⟨[32]⟩⟩ (t 41)),D P b5 (t 42) nc]⟩ (t 43)) ⟨[]⟩)]
noncomputable def Sr(x:Str)(L p ptk ch:Nat)(X:Str)(xt:Nat)(nc:Vl)(qb:Bool):PS:=fun P gl ad t=>bW (aaj x L p ptk ch X xt nc qb P ad t) [(1,fun l=>(O (.type "dict") none (.dict ⟨[D P aI (t 0) (.ref (gx ad 2)),D P aV (t 1) .none,D P bk (t 2) (.bool true),D P cu (t 3) .none,D P az (t 4) (.str ⟨⟨[]⟩⟩ (t 5)),D P aD (t 6) (.str ah (t 7)),D P ay (t 8) (.str aw (t 9)),D P an (t 10) (.bool true),D P aW (t 11) (.str aU (t 12)),D P aS (t 13) (.str ⟨⟨[92]⟩⟩ (t 14)),D P au (t 15) (.str ⟨⟨[34]⟩⟩ (t 16)),D P bq (t 17) (.str ⟨⟨[97]⟩⟩ (gx l 0)),D P aH (t 19) (.ref (t 20)),D P aX (t 21) (.int 1 (t 22)),D P br (t 23) (.int 0 (t 24)),D P bo (t 25) (.str X xt),D P aF (t 26) (.ref (t 27)),D P aT (t 28) .none,D P ai (t 29) (.str ⟨⟨[]⟩⟩ (t 30))]⟩ (t 31)) ⟨[]⟩)),(3,fun l=>(O (.type "dict") none (.dict ⟨[D P aj (t 32) (.str ⟨⟨[10]⟩⟩ (t 33)),D P ao (t 34) (.str x (t 35)),D P ap (t 36) (.int (Int.ofNat (p+1)) (gx l 1))]⟩ (t 37)) ⟨[]⟩)),(4,fun l=>(O (.type "frame") none (.dict ⟨[D P du (t 38) (.ref (gx ad 0)),D P cx (t 39) (.bool true),D P bg (t 40) (.str ⟨⟨[32]⟩⟩ (t 41)),D P b5 (t 42) (.str ⟨⟨[39]⟩⟩ (gx l 2))]⟩ (t 43)) ⟨[]⟩))] [] 3 (fun l=> .ok .next) gl
noncomputable def aad(x:Str)(L p ptk ch:Nat)(X:Str)(xt:Nat)(nc:Vl)(qb:Bool)(ad:LN)(t:NN)(l:LN):Code:=(dW [36,6,2] {scope:=(c7 [36,6]),locals:=(gx ad 4),globals:=3,cells:=[],qual:=aN,func:=(some 786),code:=(.ref 785),frame:=(some (gx ad 4)),builtins:=0})
noncomputable def YP(T:BT)(xl:LN):LN:=[aY T 1 11,aY T 3 2,aY T 4 3]
theorem W2(x:Str)(L p ptk ch:Nat)(X:Str)(xt:Nat)(nc:Vl)(qb:Bool)(hx:x.length=L)(hL:L≤2^20)(h2:2≤x.length)(hc:x.cps.toList[p]? =some 39)(hp:p+1<L)(a0 a1 a2 a3 a4:Nat)(gl:LG)(t:NN):TA w os 480 (W2_c x L p ptk ch X xt nc qb) (Sr x L p ptk ch X xt nc qb w.params gl) [a0,a1,a2,a3,a4] t (aad x L p ptk ch X xt nc qb [a0,a1,a2,a3,a4] t):=
 eb (av w) (hdp:=560) (hs:=[dU x L p 39 w.params [2,3]]) (ks:=[]) (ac (df w os hx hL hc h2 hp) ak) ak [] YP 352 Kz
noncomputable def Wz(x:Str)(L p ptk ch:Nat)(X:Str)(xt:Nat)(nc:Vl)(qb:Bool):PC:=fun ad t=>(dW [36,6,2] {scope:=(c7 [36,6]),locals:=(gx ad 4),globals:=3,cells:=[],qual:=aN,func:=(some 786),code:=(.ref 785),frame:=(some (gx ad 4)),builtins:=0})
noncomputable def Zn(x:Str)(L p ptk ch:Nat)(X:Str)(xt:Nat)(nc:Vl)(qb:Bool):PO:=fun P ad t=>[(O (.ref 818) (some (gx ad 1)) .plain ⟨[]⟩),(O (.type "dict") none (.dict ⟨[D P aI (t 0) (.ref (gx ad 2)),D P aV (t 1) .none,D P bk (t 2) (.bool true),D P cu (t 3) .none,D P az (t 4) (.str ⟨⟨[]⟩⟩ (t 5)),D P aD (t 6) (.str ah (t 7)),D P ay (t 8) (.str aw (t 9)),D P an (t 10) (.bool true),D P aW (t 11) (.str aU (t 12)),D P aS (t 13) (.str ⟨⟨[92]⟩⟩ (t 14)),D P au (t 15) (.str ⟨⟨[34]⟩⟩ (t 16)),D P bq (t 17) (.str ⟨⟨[39]⟩⟩ (t 18)),D P aH (t 19) (.ref (t 20)),D P aX (t 21) (.int 1 (t 22)),D P br (t 23) (.int 0 (t 24)),D P bo (t 25) (.str X xt),D P aF (t 26) (.ref (t 27)),D P aT (t 28) .none,D P ai (t 29) (.str ⟨⟨[]⟩⟩ (t 30))]⟩ (t 31)) ⟨[]⟩),(O (.ref 725) (some (gx ad 3)) .plain ⟨[]⟩),(O (.type "dict") none (.dict ⟨[D P aj (t 32) (.str ⟨⟨[10]⟩⟩ (t 33)),D P ao (t 34) (.str x (t 35)),D P ap (t 36) (.int (Int.ofNat p) ptk)]⟩ (t 37)) ⟨[]⟩),(O (.type "frame") none (.dict ⟨[D P du (t 38) (.ref (gx ad 0)),D P cx (t 39) (.bool qb),D P bg (t 40) (.str ⟨⟨[32]⟩⟩ (t 41)),D P b5 (t 42) nc]⟩ (t 43)) ⟨[]⟩)]
noncomputable def Sm(x:Str)(L p ptk ch:Nat)(X:Str)(xt:Nat)(nc:Vl)(qb:Bool):PS:=fun P gl ad t=>bW (Zn x L p ptk ch X xt nc qb P ad t) [(1,fun l=>(O (.type "dict") none (.dict ⟨[D P aI (t 0) (.ref (gx ad 2)),D P aV (t 1) .none,D P bk (t 2) (.bool true),D P cu (t 3) .none,D P az (t 4) (.str ⟨⟨[]⟩⟩ (t 5)),D P aD (t 6) (.str ah (t 7)),D P ay (t 8) (.str aw (t 9)),D P an (t 10) (.bool true),D P aW (t 11) (.str aU (t 12)),D P aS (t 13) (.str ⟨⟨[92]⟩⟩ (t 14)),D P au (t 15) (.str ⟨⟨[34]⟩⟩ (t 16)),D P bq (t 17) (.str ⟨⟨[97]⟩⟩ (gx l 0)),D P aH (t 19) (.ref (t 20)),D P aX (t 21) (.int 1 (t 22)),D P br (t 23) (.int 0 (t 24)),D P bo (t 25) (.str X xt),D P aF (t 26) (.ref (t 27)),D P aT (t 28) .none,D P ai (t 29) (.str ⟨⟨[]⟩⟩ (t 30))]⟩ (t 31)) ⟨[]⟩)),(3,fun l=>(O (.type "dict") none (.dict ⟨[D P aj (t 32) (.str ⟨⟨[10]⟩⟩ (t 33)),D P ao (t 34) (.str x (t 35)),D P ap (t 36) (.int (Int.ofNat (p+1)) (gx l 1))]⟩ (t 37)) ⟨[]⟩)),(4,fun l=>(O (.type "frame") none (.dict ⟨[D P du (t 38) (.ref (gx ad 0)),D P cx (t 39) (.bool true),D P bg (t 40) (.str ⟨⟨[32]⟩⟩ (t 41)),D P b5 (t 42) (.str ⟨⟨[39]⟩⟩ (gx l 2))]⟩ (t 43)) ⟨[]⟩))] [] 3 (fun l=> .ok .next) gl
noncomputable def Xs(x:Str)(L p ptk ch:Nat)(X:Str)(xt:Nat)(nc:Vl)(qb:Bool)(ad:LN)(t:NN)(l:LN):Code:=(dW [36,6,2] {scope:=(c7 [36,6]),locals:=(gx ad 4),globals:=3,cells:=[],qual:=aN,func:=(some 786),code:=(.ref 785),frame:=(some (gx ad 4)),builtins:=0})
noncomputable def VN(T:BT)(xl:LN):LN:=[aY T 1 11,aY T 3 2,aY T 4 3]
theorem V2(x:Str)(L p ptk ch:Nat)(X:Str)(xt:Nat)(nc:Vl)(qb:Bool)(hx:x.length=p+1)(hL:p+1≤2^20)(h2:2≤x.length)(hc:x.cps.toList[p]? =some 39)(a0 a1 a2 a3 a4:Nat)(gl:LG)(t:NN):TA w os 480 (Wz x L p ptk ch X xt nc qb) (Sm x L p ptk ch X xt nc qb w.params gl) [a0,a1,a2,a3,a4] t (Xs x L p ptk ch X xt nc qb [a0,a1,a2,a3,a4] t):=
 eb (av w) (hdp:=560) (hs:=[sG x 0 p 39 w.params [2,3]]) (ks:=[]) (ac (o8 w os hx hL hc h2) ak) ak [] VN 352 Kz
noncomputable def ZC(x:Str)(L p ptk ch:Nat)(X:Str)(xt:Nat)(nc:Vl)(qb:Bool):PC:=fun ad t=>(dW [36,6,2] {scope:=(c7 [36,6]),locals:=(gx ad 4),globals:=3,cells:=[],qual:=aN,func:=(some 786),code:=(.ref 785),frame:=(some (gx ad 4)),builtins:=0})
noncomputable def Yi(x:Str)(L p ptk ch:Nat)(X:Str)(xt:Nat)(nc:Vl)(qb:Bool):PO:=fun P ad t=>[(O (.ref 818) (some (gx ad 1)) .plain ⟨[]⟩),(O (.type "dict") none (.dict ⟨[D P aI (t 0) (.ref (gx ad 2)),D P aV (t 1) .none,D P bk (t 2) (.bool true),D P cu (t 3) .none,D P az (t 4) (.str ⟨⟨[]⟩⟩ (t 5)),D P aD (t 6) (.str ah (t 7)),D P ay (t 8) (.str aw (t 9)),D P an (t 10) (.bool true),D P aW (t 11) (.str aU (t 12)),D P aS (t 13) (.str ⟨⟨[92]⟩⟩ (t 14)),D P au (t 15) (.str ⟨⟨[34]⟩⟩ (t 16)),D P bq (t 17) (.str ⟨⟨[97]⟩⟩ (t 18)),D P aH (t 19) (.ref (t 20)),D P aX (t 21) (.int 1 (t 22)),D P br (t 23) (.int 0 (t 24)),D P bo (t 25) (.str X xt),D P aF (t 26) (.ref (t 27)),D P aT (t 28) .none,D P ai (t 29) (.str ⟨⟨[]⟩⟩ (t 30))]⟩ (t 31)) ⟨[]⟩),(O (.ref 725) (some (gx ad 3)) .plain ⟨[]⟩),(O (.type "dict") none (.dict ⟨[D P aj (t 32) (.str ⟨⟨[10]⟩⟩ (t 33)),D P ao (t 34) (.str x (t 35)),D P ap (t 36) (.int (Int.ofNat p) ptk)]⟩ (t 37)) ⟨[]⟩),(O (.type "frame") none (.dict ⟨[D P du (t 38) (.ref (gx ad 0)),D P cx (t 39) (.bool qb),D P bg (t 40) (.str ⟨⟨[32]⟩⟩ (t 41)),D P b5 (t 42) nc]⟩ (t 43)) ⟨[]⟩)]
noncomputable def Qs(x:Str)(L p ptk ch:Nat)(X:Str)(xt:Nat)(nc:Vl)(qb:Bool):PS:=fun P gl ad t=>bW (Yi x L p ptk ch X xt nc qb P ad t) [(1,fun l=>(O (.type "dict") none (.dict ⟨[D P aI (t 0) (.ref (gx ad 2)),D P aV (t 1) .none,D P bk (t 2) (.bool true),D P cu (t 3) .none,D P az (t 4) (.str ⟨⟨[]⟩⟩ (t 5)),D P aD (t 6) (.str ah (t 7)),D P ay (t 8) (.str aw (t 9)),D P an (t 10) (.bool true),D P aW (t 11) (.str aU (t 12)),D P aS (t 13) (.str ⟨⟨[92]⟩⟩ (t 14)),D P au (t 15) (.str ⟨⟨[34]⟩⟩ (t 16)),D P bq (t 17) (.str ⟨⟨[32]⟩⟩ (gx l 0)),D P aH (t 19) (.ref (t 20)),D P aX (t 21) (.int 1 (t 22)),D P br (t 23) (.int 0 (t 24)),D P bo (t 25) (.str X xt),D P aF (t 26) (.ref (t 27)),D P aT (t 28) .none,D P ai (t 29) (.str ⟨⟨[]⟩⟩ (t 30))]⟩ (t 31)) ⟨[]⟩)),(3,fun l=>(O (.type "dict") none (.dict ⟨[D P aj (t 32) (.str ⟨⟨[10]⟩⟩ (t 33)),D P ao (t 34) (.str x (t 35)),D P ap (t 36) (.int (Int.ofNat (p+1)) (gx l 1))]⟩ (t 37)) ⟨[]⟩)),(4,fun l=>(O (.type "frame") none (.dict ⟨[D P du (t 38) (.ref (gx ad 0)),D P cx (t 39) (.bool true),D P bg (t 40) (.str ⟨⟨[32]⟩⟩ (t 41)),D P b5 (t 42) (.str ⟨⟨[32]⟩⟩ (gx l 2))]⟩ (t 43)) ⟨[]⟩))] [] 3 (fun l=> .ok .next) gl
noncomputable def Yk(r:Re)(T:BT)(xl:LN):LN:=[aY T 1 11,aY T 3 2,aY T 4 3]
theorem W3(x:Str)(L p ptk ch x0:Nat)(xr:LN)(xt:Nat)(nc:Vl)(hx:x.length=L)(hL:L≤2^20)(h2:2≤x.length)(hc:x.cps.toList[p]? =some 32)(hp:p+1<L)(hXl:xr.length+1≤2^20)(a0 a1 a2 a3 a4:Nat)(gl:LG)(t:NN):SA w os 480 (ZC x L p ptk ch ⟨⟨x0::xr⟩⟩ xt nc true) (Qs x L p ptk ch ⟨⟨x0::xr⟩⟩ xt nc true w.params gl) [a0,a1,a2,a3,a4] t:=
 aG (av w) (hdp:=560) (hs:=[dU x L p 32 w.params [2,3],ca [6],g8 ⟨⟨x0::xr⟩⟩ (xr.length+1) []]) (ks:=[]) (ac (df w os hx hL hc h2 hp) (ac dg (ac (o9 rfl hXl) ak))) ak [] Yk 442 (J [FL,[0,0],eD,eD,[0,0],eD,[7,7,2,5],ō2,v6,eD,ō1,[5],oz,eD,[3]])
noncomputable def aaa(x:Str)(L p ptk ch:Nat)(X:Str)(xt:Nat)(nc:Vl)(qb:Bool):PC:=fun ad t=>(dW [36,6,2] {scope:=(c7 [36,6]),locals:=(gx ad 4),globals:=3,cells:=[],qual:=aN,func:=(some 786),code:=(.ref 785),frame:=(some (gx ad 4)),builtins:=0})
noncomputable def VV(x:Str)(L p ptk ch:Nat)(X:Str)(xt:Nat)(nc:Vl)(qb:Bool):PO:=fun P ad t=>[(O (.ref 818) (some (gx ad 1)) .plain ⟨[]⟩),(O (.type "dict") none (.dict ⟨[D P aI (t 0) (.ref (gx ad 2)),D P aV (t 1) .none,D P bk (t 2) (.bool true),D P cu (t 3) .none,D P az (t 4) (.str ⟨⟨[]⟩⟩ (t 5)),D P aD (t 6) (.str ah (t 7)),D P ay (t 8) (.str aw (t 9)),D P an (t 10) (.bool true),D P aW (t 11) (.str aU (t 12)),D P aS (t 13) (.str ⟨⟨[92]⟩⟩ (t 14)),D P au (t 15) (.str ⟨⟨[34]⟩⟩ (t 16)),D P bq (t 17) (.str ⟨⟨[97]⟩⟩ (t 18)),D P aH (t 19) (.ref (t 20)),D P aX (t 21) (.int 1 (t 22)),D P br (t 23) (.int 0 (t 24)),D P bo (t 25) (.str X xt),D P aF (t 26) (.ref (t 27)),D P aT (t 28) .none,D P ai (t 29) (.str ⟨⟨[]⟩⟩ (t 30))]⟩ (t 31)) ⟨[]⟩),(O (.ref 725) (some (gx ad 3)) .plain ⟨[]⟩),(O (.type "dict") none (.dict ⟨[D P aj (t 32) (.str ⟨⟨[10]⟩⟩ (t 33)),D P ao (t 34) (.str x (t 35)),D P ap (t 36) (.int (Int.ofNat L) ptk)]⟩ (t 37)) ⟨[]⟩),(O (.type "frame") none (.dict ⟨[D P du (t 38) (.ref (gx ad 0)),D P cx (t 39) (.bool qb),D P bg (t 40) (.str ⟨⟨[32]⟩⟩ (t 41)),D P b5 (t 42) nc]⟩ (t 43)) ⟨[]⟩)]
noncomputable def Qu(x:Str)(L p ptk ch:Nat)(X:Str)(xt:Nat)(nc:Vl)(qb:Bool):PS:=fun P gl ad t=>bW (VV x L p ptk ch X xt nc qb P ad t) [(1,fun l=>(O (.type "dict") none (.dict ⟨[D P aI (t 0) (.ref (gx ad 2)),D P aV (t 1) .none,D P bk (t 2) (.bool true),D P cu (t 3) .none,D P az (t 4) (.str ⟨⟨[]⟩⟩ (t 5)),D P aD (t 6) (.str ah (t 7)),D P ay (t 8) (.str aw (t 9)),D P an (t 10) (.bool true),D P aW (t 11) (.str aU (t 12)),D P aS (t 13) (.str ⟨⟨[92]⟩⟩ (t 14)),D P au (t 15) (.str ⟨⟨[34]⟩⟩ (t 16)),D P bq (t 17) .none,D P aH (t 19) (.ref (t 20)),D P aX (t 21) (.int 1 (t 22)),D P br (t 23) (.int 0 (t 24)),D P bo (t 25) (.str X xt),D P aF (t 26) (.ref (t 27)),D P aT (t 28) .none,D P ai (t 29) (.str ⟨⟨[]⟩⟩ (t 30))]⟩ (t 31)) ⟨[]⟩)),(4,fun l=>(O (.type "frame") none (.dict ⟨[D P du (t 38) (.ref (gx ad 0)),D P cx (t 39) (.bool true),D P bg (t 40) (.str ⟨⟨[32]⟩⟩ (t 41)),D P b5 (t 42) (.str ⟨⟨[]⟩⟩ (gx l 0))]⟩ (t 43)) ⟨[]⟩))] [] 1 (fun l=> .ok .next) gl
noncomputable def VW(r:Re)(T:BT)(xl:LN):LN:=[aY T 4 3]
theorem V3(x:Str)(L p ptk ch x0:Nat)(xr:LN)(xt:Nat)(nc:Vl)(hx:x.length=L)(hL:L≤2^20)(hXl:xr.length+1≤2^20)(a0 a1 a2 a3 a4:Nat)(gl:LG)(t:NN):SA w os 480 (aaa x L p ptk ch ⟨⟨x0::xr⟩⟩ xt nc true) (Qu x L p ptk ch ⟨⟨x0::xr⟩⟩ xt nc true w.params gl) [a0,a1,a2,a3,a4] t:=
 aG (av w) (hdp:=560) (hs:=[lZ x L 0 0 w.params [2,3],ca [6]]) (ks:=[]) (ac (hZ w os hx hL) (ac dg ak)) ak [] VW 367 (J [FL,[0,0],eD,eD,[0,0],eD,[7,7,2,5],ō2,[5],oz])
end
noncomputable def zq(ad:LN):Code:=UJ ⟨⟨[]⟩⟩ 0 0 0 0 ⟨⟨[]⟩⟩ 0 .none false ad (fun _=>0)
noncomputable def ZX(P:Pm)(ad:LN)(t:NN)(sv tv:Vl):Obj:=(O (.type "dict") none (.dict ⟨[D P aI (t 0) (.ref (gx ad 2)),D P aV (t 1) .none,D P bk (t 2) (.bool true),D P cu (t 3) .none,D P az (t 4) (.str ⟨⟨[]⟩⟩ (t 5)),D P aD (t 6) (.str ah (t 7)),D P ay (t 8) (.str aw (t 9)),D P an (t 10) (.bool true),D P aW (t 11) (.str aU (t 12)),D P aS (t 13) (.str ⟨⟨[92]⟩⟩ (t 14)),D P au (t 15) (.str ⟨⟨[34]⟩⟩ (t 16)),D P bq (t 17) sv,D P aH (t 19) (.ref (t 20)),D P aX (t 21) (.int 1 (t 22)),D P br (t 23) (.int 0 (t 24)),D P bo (t 25) tv,D P aF (t 26) (.ref (t 27)),D P aT (t 28) .none,D P ai (t 29) (.str ⟨⟨[]⟩⟩ (t 30))]⟩ (t 31)) ⟨[]⟩)
noncomputable def XH(P:Pm)(ad:LN)(t:NN)(x:Str)(pv:Vl):Obj:=(O (.type "dict") none (.dict ⟨[D P aj (t 32) (.str ⟨⟨[10]⟩⟩ (t 33)),D P ao (t 34) (.str x (t 35)),D P ap (t 36) pv]⟩ (t 37)) ⟨[]⟩)
noncomputable def Se(P:Pm)(ad:LN)(t:NN):Obj:=(O (.type "frame") none (.dict ⟨[D P du (t 38) (.ref (gx ad 0)),D P cx (t 39) (.bool false),D P bg (t 40) (.str ⟨⟨[32]⟩⟩ (t 41))]⟩ (t 42)) ⟨[]⟩)
noncomputable def oB(P:Pm)(ad:LN)(t:NN)(k sz:Nat)(qb:Bool)(nc:Vl):Obj:=(O (.type "frame") none (.dict ⟨[D P du (t 38) (.ref (gx ad 0)),D P cx (t 39) (.bool qb),D P bg (t 40) (.str ⟨⟨[32]⟩⟩ (t 41)),D P b5 k nc]⟩ sz) ⟨[]⟩)
noncomputable def Db(P:Pm)(ad:LN)(t:NN)(x:Str)(sv tv pv:Vl)(fr:Obj):LL:=[(O (.ref 818) (some (gx ad 1)) .plain ⟨[]⟩),ZX P ad t sv tv,(O (.ref 725) (some (gx ad 3)) .plain ⟨[]⟩),XH P ad t x pv,fr]
noncomputable def Qr(t:NN)(u k sz:Nat):Nat→Nat:=fun i=>match Nat.beq i 18 with
 |true=>u
 |false=>match Nat.beq i 42 with
  |true=>k
  |false=>match Nat.beq i 43 with
   |true=>sz
   |false=>t i
section
variable{w:Wd}{os:OS}{x:Str}{L p ptk ch:Nat}{gl:LG}{ad:LN}{t:NN}{u k sz xt:Nat}{X:Str}{nc:Vl}{qb:Bool}
theorem wW0(hL5:ad.length=5)(hx:x.length=L)(hL:L≤2^20)(h2:2≤x.length)(hc:x.cps.toList[p]? =some 39)(hp:p+1<L):
 dy (model TW w) (bD w.params) os 480 (zq ad) ad (Ur x L p ptk 0 X xt .none false w.params gl ad t) (fun _=>zq ad):=by
 obtain⟨y9,hf9⟩:=J_ hL5
 have hf9:ad=[y9 0,y9 1,y9 2,y9 3,y9 4]:=hf9
 subst hf9
 exact W0 w os x L p ptk 0 X xt .none hx hL h2 hc hp (y9 0) (y9 1) (y9 2) (y9 3) (y9 4) gl t
theorem wW1(hL5:ad.length=5)(hx:x.length=L)(hL:L≤2^20)(h2:2≤x.length)(hc:x.cps.toList[p]? =some ch)(hp:p+1<L)(hs:gD ch=true)(hX:X.length+Str.length ⟨⟨[ch]⟩⟩≤2^20):
 dy (model TW w) (bD w.params) os 480 (zq ad) ad (QG x L p ptk ch X xt nc qb w.params gl ad t) (fun _=>zq ad):=by
 obtain⟨y9,hf9⟩:=J_ hL5
 have hf9:ad=[y9 0,y9 1,y9 2,y9 3,y9 4]:=hf9
 subst hf9
 exact W1 w os x L p ptk ch X xt nc qb hx hL h2 hc hp hs hX (y9 0) (y9 1) (y9 2) (y9 3) (y9 4) gl t
theorem wW2(hL5:ad.length=5)(hx:x.length=L)(hL:L≤2^20)(h2:2≤x.length)(hc:x.cps.toList[p]? =some 39)(hp:p+1<L):
 dy (model TW w) (bD w.params) os 480 (zq ad) ad (Sr x L p ptk 0 X xt nc qb w.params gl ad t) (fun _=>zq ad):=by
 obtain⟨y9,hf9⟩:=J_ hL5
 have hf9:ad=[y9 0,y9 1,y9 2,y9 3,y9 4]:=hf9
 subst hf9
 exact W2 w os x L p ptk 0 X xt nc qb hx hL h2 hc hp (y9 0) (y9 1) (y9 2) (y9 3) (y9 4) gl t
theorem wW3{x0:Nat}{xr:LN}(hL5:ad.length=5)(hx:x.length=L)(hL:L≤2^20)(h2:2≤x.length)(hc:x.cps.toList[p]? =some 32)(hp:p+1<L)(hXl:xr.length+1≤2^20):
 cb (model TW w) (bD w.params) os 480 (zq ad) ad (Qs x L p ptk 0 ⟨⟨x0::xr⟩⟩ xt nc true w.params gl ad t):=by
 obtain⟨y9,hf9⟩:=J_ hL5
 have hf9:ad=[y9 0,y9 1,y9 2,y9 3,y9 4]:=hf9
 subst hf9
 exact W3 w os x L p ptk 0 x0 xr xt nc hx hL h2 hc hp hXl (y9 0) (y9 1) (y9 2) (y9 3) (y9 4) gl t
theorem wV2(hL5:ad.length=5)(hx:x.length=p+1)(hL:p+1≤2^20)(h2:2≤x.length)(hc:x.cps.toList[p]? =some 39):
 dy (model TW w) (bD w.params) os 480 (zq ad) ad (Sm x L p ptk 0 X xt nc qb w.params gl ad t) (fun _=>zq ad):=by
 obtain⟨y9,hf9⟩:=J_ hL5
 have hf9:ad=[y9 0,y9 1,y9 2,y9 3,y9 4]:=hf9
 subst hf9
 exact V2 w os x L p ptk 0 X xt nc qb hx hL h2 hc (y9 0) (y9 1) (y9 2) (y9 3) (y9 4) gl t
theorem wV3{x0:Nat}{xr:LN}(hL5:ad.length=5)(hx:x.length=L)(hL:L≤2^20)(hXl:xr.length+1≤2^20):
 cb (model TW w) (bD w.params) os 480 (zq ad) ad (Qu x L p ptk 0 ⟨⟨x0::xr⟩⟩ xt nc true w.params gl ad t):=by
 obtain⟨y9,hf9⟩:=J_ hL5
 have hf9:ad=[y9 0,y9 1,y9 2,y9 3,y9 4]:=hf9
 subst hf9
 exact V3 w os x L p ptk 0 x0 xr xt nc hx hL hXl (y9 0) (y9 1) (y9 2) (y9 3) (y9 4) gl t
structure RS(w:Wd)(os:OS)(gl:LG)(ad:LN)(s0:Ś)(obs:LL)(s:Ś):Prop where
 kh:KH (bD w.params) os s
 g:s.gens=⟨gl⟩
 k:Keeps ad s0 s
 f:At s ad obs
theorem Wf(a b:LN):(⟨⟨a⟩⟩:Str)++(⟨⟨b⟩⟩:Str)=⟨⟨a++b⟩⟩:=by
 show Str.mk (⟨a⟩++⟨b⟩)=_
 simp
variable{s0:Ś}(hL5:ad.length=5)(cy:ad.Nodup)(hk:∀a∈ad,∀o,(bD w.params).get a≠some o)(hx:x.length=L)(hL:L≤2^20)(h2:2≤x.length)
include hL5 cy hk hx hL h2
theorem KL:∀(cs pre:LN)(p ptk xt:Nat)(nc:Vl)(qb:Bool)(s:Ś)(R:Re→Ś→Prop),(∀c∈cs,gD c=true)→(∀j c,cs[j]? =some c→x.cps.toList[p+j]? =some c)→p+cs.length<L→pre.length+cs.length≤1000→
 RS w os gl ad s0 (Db w.params ad t x (.str ⟨⟨[39]⟩⟩ u) (.str ⟨⟨pre⟩⟩ xt) (.int (Int.ofNat p) ptk) (oB w.params ad t k sz qb nc)) s→
 (∀ptk' xt' nc' qb' s',RS w os gl ad s0 (Db w.params ad t x (.str ⟨⟨[39]⟩⟩ u) (.str ⟨⟨pre++cs⟩⟩ xt') (.int (Int.ofNat (p+cs.length)) ptk') (oB w.params ad t k sz qb' nc')) s'→codeAny (model TW w) (AG 480) (zq ad) R s')→
 codeAny (model TW w) (AG 480) (zq ad) R s:=by
 intro cs
 induction cs with
 |nil=>
  intro pre p ptk xt nc qb s R _ _ _ _ Z next
  exact next ptk xt nc qb s (by rw[List.append_nil];exact Z)
 |cons c cs ih=>
  intro pre p ptk xt nc qb s R hs hw hp hn Z next
  simp only[List.length_cons] at hp hn
  have hc:x.cps.toList[p]? =some c:=hw 0 c rfl
  have T:=wW1 (w:=w) (os:=os) (gl:=gl) (t:=Qr t u k sz) (X:=⟨⟨pre⟩⟩) (xt:=xt) (nc:=nc) (qb:=qb) (ptk:=ptk) hL5 hx hL h2 hc (by omega) (hs c List.mem_cons_self) (by show pre.length+1≤_;omega)
  refine fD T rfl (by rw[hL5];rfl) rfl Z.kh Z.g (by rw[hL5];rfl) Z.f cy hk fun s' l hl K g a kp=> ?_
  have e:(⟨⟨pre⟩⟩:Str)++(⟨⟨[c]⟩⟩:Str)=⟨⟨pre++ [c]⟩⟩:=Wf _ _
  have a':At s' ad (Db w.params ad t x (.str ⟨⟨[39]⟩⟩ u) (.str ((⟨⟨pre⟩⟩:Str)++(⟨⟨[c]⟩⟩:Str)) (gx l 0)) (.int (Int.ofNat (p+1)) (gx l 1)) (oB w.params ad t k sz true (.str ⟨⟨[c]⟩⟩ (gx l 2)))):=a
  rw[e] at a'
  refine ih (pre++ [c]) (p+1) (gx l 1) (gx l 0) _ true s' R (fun c hc=>hs c (List.mem_cons_of_mem _ hc)) (fun j c' h=>by have:=hw (j+1) c' (by simpa using h);rw[show p+1+j=p+(j+1) by omega];exact this) (by omega) (by simp;omega)
   ⟨K,g,Z.k.trans kp fun x hx=>hx,a'⟩ fun ptk' xt' nc' qb' s'' Z'=>next ptk' xt' nc' qb' s'' ?_
  rw[List.append_assoc] at Z'
  rw[List.length_cons,show p+(cs.length+1)=p+1+cs.length by omega]
  exact Z'
end
theorem rE{M:Model}{kt:KT}{os:OS}{dep:Nat}{c:Code}{ad:LA}{S:Spec}(hn:S.news=[])(hp:S.post.length=S.pre.length)
 (h:∀s,KH kt os s→s.gens=⟨S.gl⟩→ad.length=S.pre.length→At s ad S.pre→ad.Nodup→(∀a∈ad,∀o,kt.get a≠some o)→
  codeAny M (AG dep) c (fun r s'=>∃l:LN,l.length=S.nt∧r=S.rv l∧s'.gens=⟨S.gl'⟩∧(∀x∈S.gl',dp x)∧Keeps ad s s'∧At s' ad (S.post.map (· l))) s):cb M kt os dep c ad S:=by
 intro s K g hl hq cy hk Γ p hc hb
 obtain⟨r,s',hrun,l,hlen,hr,hg,hgo,kp,hat⟩:=h s K g hl hq cy hk Γ p hc hb
 refine⟨r,s',hrun,[],l,by rw[hn];rfl,hlen,hr,fun b o hb hm=> ?_,fun q hq'=> ?_,fun q hq'=> ?_,?_,kp.size,hg,hgo,kp.os,kp.tk K.tk⟩
 ·refine kp.keep b o hb fun hm'=>hm ?_
  rw[List.map_fst_zip]
  ·exact hm'
  ·simp;omega
 ·rw[hn] at hq'
  simp only[List.map_nil,List.zip_nil_right,List.append_nil] at hq'
  exact hat q hq'
 ·rw[hn] at hq';simp at hq'
 ·rw[hn];simp
noncomputable def J2(x:Str)(p ptk xt:Nat)(cs:LN):PS:=fun P gl ad t=>
 {pre:=Db P ad t x (.str ⟨⟨[32]⟩⟩ (t 18)) (.str ⟨⟨[]⟩⟩ xt) (.int (Int.ofNat p) ptk) (Se P ad t),post:=[fun _=>(O (.ref 818) (some (gx ad 1)) .plain ⟨[]⟩),fun l=>ZX P ad t (.str ⟨⟨[32]⟩⟩ (gx l 0)) (.str ⟨⟨cs⟩⟩ (gx l 1)),fun _=>(O (.ref 725) (some (gx ad 3)) .plain ⟨[]⟩),fun l=>XH P ad t x (.int (Int.ofNat (p+(cs.length+3))) (gx l 2)),fun l=>oB P ad t (gx l 3) (t 42+1) true (.str ⟨⟨[32]⟩⟩ (gx l 4))],news:=[],nt:=5,rv:=fun _=> .ok .next,gl,gl':=gl}
theorem Ti{cs:LN}(j:Nat)(h:j<cs.length)(l:LN):(39::(cs++l))[j+1]? =cs[j]? :=by
 rw[List.getElem?_cons_succ,List.getElem?_append_left h]
theorem Jc(w:Wd)(os:OS){x:Str}{L p ptk xt x0:Nat}{xr:LN}(hx:x.length=L)(hL:L≤2^20)(h2:2≤x.length)(hs:∀c∈x0::xr,gD c=true)
 (hw:∀j c,(39::((x0::xr)++ [39,32]))[j]? =some c→x.cps.toList[p+j]? =some c)(hp:p+((x0::xr).length+3)<L)(hz:(x0::xr).length≤1000)(gl:LG)(ad:LN)(t:NN):
 cb (model TW w) (bD w.params) os 480 (zq ad) ad (J2 x p ptk xt (x0::xr) w.params gl ad t):=by
 refine rE rfl rfl fun s K g hl ha cy hk=> ?_
 have hL5:ad.length=5:=hl
 have hgo:∀x∈gl,dp x:=by have:=K.gok;rwa[g] at this
 generalize hcs:x0::xr=cs at*
 have hc0:x.cps.toList[p]? =some 39:=hw 0 39 rfl
 have T0:=wW0 (w:=w) (os:=os) (gl:=gl) (t:=t) (X:=⟨⟨[]⟩⟩) (xt:=xt) (ptk:=ptk) hL5 hx hL h2 hc0 (by omega)
 refine fD T0 rfl (by rw[hL5];rfl) rfl K g (by rw[hL5];rfl) ha cy hk fun s1 l1 _ K1 g1 a1 k1=> ?_
 have Z1:RS w os gl ad s (Db w.params ad t x (.str ⟨⟨[39]⟩⟩ (gx l1 0)) (.str ⟨⟨[]⟩⟩ xt) (.int (Int.ofNat (p+1)) (gx l1 1)) (oB w.params ad t (gx l1 2) (t 42+1) false (.str ⟨⟨[39]⟩⟩ (gx l1 0)))) s1:=⟨K1,g1,k1,a1⟩
 refine KL hL5 cy hk hx hL h2 cs [] (p+1) _ _ _ _ s1 _ hs (fun j c h=> ?_) (by omega) (by simp;omega) Z1 fun ptk2 xt2 nc2 qb2 s2 Z2=> ?_
 ·have hj:j<cs.length:=(List.getElem?_eq_some_iff.mp h).1
  have:=hw (j+1) c (by rw[Ti j hj];exact h)
  rw[show p+1+j=p+(j+1) by omega];exact this
 rw[List.nil_append] at Z2
 have hc2:x.cps.toList[p+1+cs.length]? =some 39:=by
  have:=hw (cs.length+1) 39 (by rw[List.getElem?_cons_succ,List.getElem?_append_right (Nat.le_refl _)];simp)
  rw[show p+1+cs.length=p+(cs.length+1) by omega];exact this
 have T2:=wW2 (w:=w) (os:=os) (gl:=gl) (t:=Qr t (gx l1 0) (gx l1 2) (t 42+1)) (X:=⟨⟨cs⟩⟩) (xt:=xt2) (nc:=nc2) (qb:=qb2) (ptk:=ptk2) hL5 hx hL h2 hc2 (by omega)
 refine fD T2 rfl (by rw[hL5];rfl) rfl Z2.kh Z2.g (by rw[hL5];rfl) Z2.f cy hk fun s3 l3 _ K3 g3 a3 k3=> ?_
 have Z3:RS w os gl ad s (Db w.params ad t x (.str ⟨⟨[97]⟩⟩ (gx l3 0)) (.str ⟨⟨cs⟩⟩ xt2) (.int (Int.ofNat (p+1+cs.length+1)) (gx l3 1)) (oB w.params ad t (gx l1 2) (t 42+1) true (.str ⟨⟨[39]⟩⟩ (gx l3 2)))) s3:=⟨K3,g3,Z2.k.trans k3 fun x hx=>hx,a3⟩
 have hc3:x.cps.toList[p+1+cs.length+1]? =some 32:=by
  have:=hw (cs.length+2) 32 (by rw[List.getElem?_cons_succ,List.getElem?_append_right (by omega)];simp)
  rw[show p+1+cs.length+1=p+(cs.length+2) by omega];exact this
 subst hcs
 have T3:=wW3 (w:=w) (os:=os) (gl:=gl) (t:=Qr t (gx l3 0) (gx l1 2) (t 42+1)) (x0:=x0) (xr:=xr) (xt:=xt2) (nc:= .str ⟨⟨[39]⟩⟩ (gx l3 2)) (ptk:=gx l3 1) hL5 hx hL h2 hc3 (by omega) (by simp at hz;omega)
 refine AZ T3 rfl (by rw[hL5];rfl) rfl Z3.kh Z3.g (by rw[hL5];rfl) Z3.f cy hk fun s4 l4 _ K4 g4 a4 k4=> ?_
 refine⟨[gx l4 0,xt2,gx l4 1,gx l1 2,gx l4 2],rfl,rfl,g4,hgo,Z3.k.trans k4 fun x hx=>hx,?_⟩
 have a':At s4 ad (Db w.params ad t x (.str ⟨⟨[32]⟩⟩ (gx l4 0)) (.str ⟨⟨x0::xr⟩⟩ xt2) (.int (Int.ofNat (p+1+(x0::xr).length+1+1)) (gx l4 1)) (oB w.params ad t (gx l1 2) (t 42+1) true (.str ⟨⟨[32]⟩⟩ (gx l4 2)))):=a4
 rw[show p+1+(x0::xr).length+1+1=p+((x0::xr).length+3) by omega] at a'
 exact a'
noncomputable def Lf(x:Str)(p ptk xt:Nat)(cs:LN):PS:=fun P gl ad t=>
 {pre:=Db P ad t x (.str ⟨⟨[32]⟩⟩ (t 18)) (.str ⟨⟨[]⟩⟩ xt) (.int (Int.ofNat p) ptk) (Se P ad t),post:=[fun _=>(O (.ref 818) (some (gx ad 1)) .plain ⟨[]⟩),fun l=>ZX P ad t .none (.str ⟨⟨cs⟩⟩ (gx l 1)),fun _=>(O (.ref 725) (some (gx ad 3)) .plain ⟨[]⟩),fun l=>XH P ad t x (.int (Int.ofNat (p+(cs.length+2))) (gx l 2)),fun l=>oB P ad t (gx l 3) (t 42+1) true (.str ⟨⟨[]⟩⟩ (gx l 4))],news:=[],nt:=5,rv:=fun _=> .ok .next,gl,gl':=gl}
theorem Jl(w:Wd)(os:OS){x:Str}{L p ptk xt x0:Nat}{xr:LN}(hx:x.length=L)(hL:L≤2^20)(h2:2≤x.length)(hs:∀c∈x0::xr,gD c=true)
 (hw:∀j c,(39::((x0::xr)++ [39]))[j]? =some c→x.cps.toList[p+j]? =some c)(hp:p+((x0::xr).length+2)=L)(hz:(x0::xr).length≤1000)(gl:LG)(ad:LN)(t:NN):
 cb (model TW w) (bD w.params) os 480 (zq ad) ad (Lf x p ptk xt (x0::xr) w.params gl ad t):=by
 refine rE rfl rfl fun s K g hl ha cy hk=> ?_
 have hL5:ad.length=5:=hl
 have hgo:∀x∈gl,dp x:=by have:=K.gok;rwa[g] at this
 generalize hcs:x0::xr=cs at*
 have hc0:x.cps.toList[p]? =some 39:=hw 0 39 rfl
 have T0:=wW0 (w:=w) (os:=os) (gl:=gl) (t:=t) (X:=⟨⟨[]⟩⟩) (xt:=xt) (ptk:=ptk) hL5 hx hL h2 hc0 (by omega)
 refine fD T0 rfl (by rw[hL5];rfl) rfl K g (by rw[hL5];rfl) ha cy hk fun s1 l1 _ K1 g1 a1 k1=> ?_
 have Z1:RS w os gl ad s (Db w.params ad t x (.str ⟨⟨[39]⟩⟩ (gx l1 0)) (.str ⟨⟨[]⟩⟩ xt) (.int (Int.ofNat (p+1)) (gx l1 1)) (oB w.params ad t (gx l1 2) (t 42+1) false (.str ⟨⟨[39]⟩⟩ (gx l1 0)))) s1:=⟨K1,g1,k1,a1⟩
 refine KL hL5 cy hk hx hL h2 cs [] (p+1) _ _ _ _ s1 _ hs (fun j c h=> ?_) (by omega) (by simp;omega) Z1 fun ptk2 xt2 nc2 qb2 s2 Z2=> ?_
 ·have hj:j<cs.length:=(List.getElem?_eq_some_iff.mp h).1
  have:=hw (j+1) c (by rw[Ti j hj];exact h)
  rw[show p+1+j=p+(j+1) by omega];exact this
 rw[List.nil_append] at Z2
 have hc2:x.cps.toList[p+1+cs.length]? =some 39:=by
  have:=hw (cs.length+1) 39 (by rw[List.getElem?_cons_succ,List.getElem?_append_right (Nat.le_refl _)];simp)
  rw[show p+1+cs.length=p+(cs.length+1) by omega];exact this
 have T2:=wV2 (L:=0) (w:=w) (os:=os) (gl:=gl) (t:=Qr t (gx l1 0) (gx l1 2) (t 42+1)) (X:=⟨⟨cs⟩⟩) (xt:=xt2) (nc:=nc2) (qb:=qb2) (ptk:=ptk2) hL5 (by omega) (by omega) h2 hc2
 refine fD T2 rfl (by rw[hL5];rfl) rfl Z2.kh Z2.g (by rw[hL5];rfl) Z2.f cy hk fun s3 l3 _ K3 g3 a3 k3=> ?_
 have e3:p+1+cs.length+1=L:=by omega
 have a3':At s3 ad (Db w.params ad t x (.str ⟨⟨[97]⟩⟩ (gx l3 0)) (.str ⟨⟨cs⟩⟩ xt2) (.int (Int.ofNat (p+1+cs.length+1)) (gx l3 1)) (oB w.params ad t (gx l1 2) (t 42+1) true (.str ⟨⟨[39]⟩⟩ (gx l3 2)))):=a3
 rw[e3] at a3'
 have Z3:RS w os gl ad s (Db w.params ad t x (.str ⟨⟨[97]⟩⟩ (gx l3 0)) (.str ⟨⟨cs⟩⟩ xt2) (.int (Int.ofNat L) (gx l3 1)) (oB w.params ad t (gx l1 2) (t 42+1) true (.str ⟨⟨[39]⟩⟩ (gx l3 2)))) s3:=⟨K3,g3,Z2.k.trans k3 fun x hx=>hx,a3'⟩
 subst hcs
 have T3:=wV3 (p:=0) (w:=w) (os:=os) (gl:=gl) (t:=Qr t (gx l3 0) (gx l1 2) (t 42+1)) (x0:=x0) (xr:=xr) (xt:=xt2) (nc:= .str ⟨⟨[39]⟩⟩ (gx l3 2)) (ptk:=gx l3 1) hL5 hx hL (by simp at hz;omega)
 refine AZ T3 rfl (by rw[hL5];rfl) rfl Z3.kh Z3.g (by rw[hL5];rfl) Z3.f cy hk fun s4 l4 _ K4 g4 a4 k4=> ?_
 refine⟨[0,xt2,gx l3 1,gx l1 2,gx l4 0],rfl,rfl,g4,hgo,Z3.k.trans k4 fun x hx=>hx,?_⟩
 have a':At s4 ad (Db w.params ad t x .none (.str ⟨⟨x0::xr⟩⟩ xt2) (.int (Int.ofNat L) (gx l3 1)) (oB w.params ad t (gx l1 2) (t 42+1) true (.str ⟨⟨[]⟩⟩ (gx l4 0)))):=a4
 rw[←hp] at a'
 exact a'
section
variable(w:Wd)(os:OS)
noncomputable def Kq(x:Str)(p:Nat)(cs:LN)(P:Pm)(slots:LN):Hk:=⟨slots,fun ad _ _=>zq ad,fun gl ad obs c=>J2 x p (aJ obs 3 2) (aJ obs 1 15) cs P gl ad (gx (RU obs c)),aC⟩
theorem PK(w:Wd)(os:OS){x:Str}{L p x0:Nat}{xr:LN}(hx:x.length=L)(hL:L≤2^20)(h2:2≤x.length)(hs:∀c∈x0::xr,gD c=true)
 (hw:∀j c,(39::((x0::xr)++ [39,32]))[j]? =some c→x.cps.toList[p+j]? =some c)(hp:p+((x0::xr).length+3)<L)(hz:(x0::xr).length≤1000){slots:LN}(hn:slots.Nodup){hdp:Nat}(hd:hdp≤480):
 Hk.Ok (bs w.params w.params) w os hdp (Kq x p (x0::xr) w.params slots):=⟨hn,fun gl ad obs c=>aE hd (Jc w os hx hL h2 hs hw hp hz gl ad _)⟩
noncomputable def Uo(x:Str)(L p ptk x0:Nat)(xr:LN):PC:=fun ad t=>(.call (.ref 779) ⟨[.ref (gx ad 0)],[]⟩)
noncomputable def UD(x:Str)(L p ptk x0:Nat)(xr:LN):PO:=fun P ad t=>[(O (.ref 818) (some (gx ad 1)) .plain ⟨[]⟩),(O (.type "dict") none (.dict ⟨[D P aI (t 0) (.ref (gx ad 3)),D P aV (t 1) .none,D P bk (t 2) (.bool true),D P cu (t 3) .none,D P az (t 4) (.str ⟨⟨[]⟩⟩ (t 5)),D P aD (t 6) (.str ah (t 7)),D P ay (t 8) (.str aw (t 9)),D P an (t 10) (.bool true),D P aW (t 11) (.str aU (t 12)),D P aS (t 13) (.str ⟨⟨[92]⟩⟩ (t 14)),D P au (t 15) (.str ⟨⟨[34]⟩⟩ (t 16)),D P bq (t 17) (.str ⟨⟨[32]⟩⟩ (t 18)),D P aH (t 19) (.ref (gx ad 2)),D P aX (t 20) (.int 1 (t 21)),D P br (t 22) (.int 0 (t 23)),D P bo (t 24) (.str ⟨⟨[]⟩⟩ (t 25)),D P aF (t 26) (.ref (t 27)),D P aT (t 28) .none,D P ai (t 29) (.str ⟨⟨[]⟩⟩ (t 30))]⟩ (t 31)) ⟨[]⟩),(O (.type "collections.deque") none (.fields ⟨[.none,(.int (Int.ofNat (t 32)) 0)]⟩) ⟨[]⟩),(O (.ref 725) (some (gx ad 4)) .plain ⟨[]⟩),(O (.type "dict") none (.dict ⟨[D P aj (t 33) (.str ⟨⟨[10]⟩⟩ (t 34)),D P ao (t 35) (.str x (t 36)),D P ap (t 37) (.int (Int.ofNat p) ptk)]⟩ (t 38)) ⟨[]⟩)]
noncomputable def YH(x:Str)(L p ptk x0:Nat)(xr:LN):PS:=fun P gl ad t=>bW (UD x L p ptk x0 xr P ad t) [(1,fun l=>(O (.type "dict") none (.dict ⟨[D P aI (t 0) (.ref (gx ad 3)),D P aV (t 1) .none,D P bk (t 2) (.bool true),D P cu (t 3) .none,D P az (t 4) (.str ⟨⟨[]⟩⟩ (t 5)),D P aD (t 6) (.str ah (t 7)),D P ay (t 8) (.str aw (t 9)),D P an (t 10) (.bool true),D P aW (t 11) (.str aU (t 12)),D P aS (t 13) (.str ⟨⟨[92]⟩⟩ (t 14)),D P au (t 15) (.str ⟨⟨[34]⟩⟩ (t 16)),D P bq (t 17) (.str ⟨⟨[32]⟩⟩ (gx l 0)),D P aH (t 19) (.ref (gx ad 2)),D P aX (t 20) (.int 1 (t 21)),D P br (t 22) (.int 0 (t 23)),D P bo (t 24) (.str ⟨⟨[]⟩⟩ (gx l 1)),D P aF (t 26) (.ref (t 27)),D P aT (t 28) .none,D P ai (t 29) (.str ⟨⟨[]⟩⟩ (t 30))]⟩ (t 31)) ⟨[]⟩)),(4,fun l=>(O (.type "dict") none (.dict ⟨[D P aj (t 33) (.str ⟨⟨[10]⟩⟩ (t 34)),D P ao (t 35) (.str x (t 36)),D P ap (t 37) (.int (Int.ofNat (p+((x0::xr).length+3))) (gx l 2))]⟩ (t 38)) ⟨[]⟩))] [] 4 (fun l=> .ok (.ret (.str ⟨⟨x0::xr⟩⟩ (gx l 3)))) gl
noncomputable def QE(obs:LL)(c:Code):LN:=[aZ obs 1 0,aZ obs 1 1,aZ obs 1 2,aZ obs 1 3,aZ obs 1 4,aJ obs 1 4,aZ obs 1 5,aJ obs 1 5,aZ obs 1 6,aJ obs 1 6,aZ obs 1 7,aZ obs 1 8,aJ obs 1 8,aZ obs 1 9,aJ obs 1 9,aZ obs 1 10,aJ obs 1 10,aZ obs 1 11,aJ obs 1 11,aZ obs 1 12,aZ obs 1 13,aJ obs 1 13,aZ obs 1 14,aJ obs 1 14,aZ obs 1 15,aJ obs 1 15,aZ obs 1 16,aJ obs 1 16,aZ obs 1 17,aZ obs 1 18,aJ obs 1 18,bO (gO obs 1),Qj (o5 (gO obs 2) 1),aZ obs 4 0,aJ obs 4 0,aZ obs 4 1,aJ obs 4 1,aZ obs 4 2,bO (gO obs 4)]
noncomputable def aaV(r:Re)(T:BT)(xl:LN):LN:=[aY T 1 11,aY T 1 15,aY T 4 2,bz (dC r)]
theorem gk(x:Str)(L p ptk x0:Nat)(xr:LN)(hx:x.length=L)(hL:L≤2^20)(h2:2≤x.length)(hs:∀c∈x0::xr,gD c=true)(hw:∀j c,(39::((x0::xr)++ [39,32]))[j]? =some c→x.cps.toList[p+j]? =some c)(hp:p+((x0::xr).length+3)<L)(hz:(x0::xr).length≤1000)(a0 a1 a2 a3 a4:Nat)(gl:LG)(t:NN):SA w os 440 (Uo x L p ptk x0 xr) (YH x L p ptk x0 xr w.params gl) [a0,a1,a2,a3,a4] t:=
 aG (av w) (hdp:=480) (hs:=[Kq x p (x0::xr) w.params [0,1,3,4,6]]) (ks:=[]) (ac (PK w os hx hL h2 hs hw hp hz (by decide) (by decide)) ak) ak [] aaV 306 KZ
noncomputable def Lg(x:Str)(p:Nat)(cs:LN)(P:Pm)(slots:LN):Hk:=⟨slots,fun ad _ _=>zq ad,fun gl ad obs c=>Lf x p (aJ obs 3 2) (aJ obs 1 15) cs P gl ad (gx (RU obs c)),aC⟩
theorem OC(w:Wd)(os:OS){x:Str}{L p x0:Nat}{xr:LN}(hx:x.length=L)(hL:L≤2^20)(h2:2≤x.length)(hs:∀c∈x0::xr,gD c=true)
 (hw:∀j c,(39::((x0::xr)++ [39]))[j]? =some c→x.cps.toList[p+j]? =some c)(hp:p+((x0::xr).length+2)=L)(hz:(x0::xr).length≤1000){slots:LN}(hn:slots.Nodup){hdp:Nat}(hd:hdp≤480):
 Hk.Ok (bs w.params w.params) w os hdp (Lg x p (x0::xr) w.params slots):=⟨hn,fun gl ad obs c=>aE hd (Jl w os hx hL h2 hs hw hp hz gl ad _)⟩
noncomputable def KQ(x:Str)(L p ptk x0:Nat)(xr:LN):PC:=fun ad t=>(.call (.ref 779) ⟨[.ref (gx ad 0)],[]⟩)
noncomputable def Ku(x:Str)(L p ptk x0:Nat)(xr:LN):PO:=fun P ad t=>[(O (.ref 818) (some (gx ad 1)) .plain ⟨[]⟩),(O (.type "dict") none (.dict ⟨[D P aI (t 0) (.ref (gx ad 3)),D P aV (t 1) .none,D P bk (t 2) (.bool true),D P cu (t 3) .none,D P az (t 4) (.str ⟨⟨[]⟩⟩ (t 5)),D P aD (t 6) (.str ah (t 7)),D P ay (t 8) (.str aw (t 9)),D P an (t 10) (.bool true),D P aW (t 11) (.str aU (t 12)),D P aS (t 13) (.str ⟨⟨[92]⟩⟩ (t 14)),D P au (t 15) (.str ⟨⟨[34]⟩⟩ (t 16)),D P bq (t 17) (.str ⟨⟨[32]⟩⟩ (t 18)),D P aH (t 19) (.ref (gx ad 2)),D P aX (t 20) (.int 1 (t 21)),D P br (t 22) (.int 0 (t 23)),D P bo (t 24) (.str ⟨⟨[]⟩⟩ (t 25)),D P aF (t 26) (.ref (t 27)),D P aT (t 28) .none,D P ai (t 29) (.str ⟨⟨[]⟩⟩ (t 30))]⟩ (t 31)) ⟨[]⟩),(O (.type "collections.deque") none (.fields ⟨[.none,(.int (Int.ofNat (t 32)) 0)]⟩) ⟨[]⟩),(O (.ref 725) (some (gx ad 4)) .plain ⟨[]⟩),(O (.type "dict") none (.dict ⟨[D P aj (t 33) (.str ⟨⟨[10]⟩⟩ (t 34)),D P ao (t 35) (.str x (t 36)),D P ap (t 37) (.int (Int.ofNat p) ptk)]⟩ (t 38)) ⟨[]⟩)]
noncomputable def RP(x:Str)(L p ptk x0:Nat)(xr:LN):PS:=fun P gl ad t=>bW (Ku x L p ptk x0 xr P ad t) [(1,fun l=>(O (.type "dict") none (.dict ⟨[D P aI (t 0) (.ref (gx ad 3)),D P aV (t 1) .none,D P bk (t 2) (.bool true),D P cu (t 3) .none,D P az (t 4) (.str ⟨⟨[]⟩⟩ (t 5)),D P aD (t 6) (.str ah (t 7)),D P ay (t 8) (.str aw (t 9)),D P an (t 10) (.bool true),D P aW (t 11) (.str aU (t 12)),D P aS (t 13) (.str ⟨⟨[92]⟩⟩ (t 14)),D P au (t 15) (.str ⟨⟨[34]⟩⟩ (t 16)),D P bq (t 17) .none,D P aH (t 19) (.ref (gx ad 2)),D P aX (t 20) (.int 1 (t 21)),D P br (t 22) (.int 0 (t 23)),D P bo (t 24) (.str ⟨⟨[]⟩⟩ (gx l 0)),D P aF (t 26) (.ref (t 27)),D P aT (t 28) .none,D P ai (t 29) (.str ⟨⟨[]⟩⟩ (t 30))]⟩ (t 31)) ⟨[]⟩)),(4,fun l=>(O (.type "dict") none (.dict ⟨[D P aj (t 33) (.str ⟨⟨[10]⟩⟩ (t 34)),D P ao (t 35) (.str x (t 36)),D P ap (t 37) (.int (Int.ofNat (p+((x0::xr).length+2))) (gx l 1))]⟩ (t 38)) ⟨[]⟩))] [] 3 (fun l=> .ok (.ret (.str ⟨⟨x0::xr⟩⟩ (gx l 2)))) gl
noncomputable def JF(obs:LL)(c:Code):LN:=[aZ obs 1 0,aZ obs 1 1,aZ obs 1 2,aZ obs 1 3,aZ obs 1 4,aJ obs 1 4,aZ obs 1 5,aJ obs 1 5,aZ obs 1 6,aJ obs 1 6,aZ obs 1 7,aZ obs 1 8,aJ obs 1 8,aZ obs 1 9,aJ obs 1 9,aZ obs 1 10,aJ obs 1 10,aZ obs 1 11,aJ obs 1 11,aZ obs 1 12,aZ obs 1 13,aJ obs 1 13,aZ obs 1 14,aJ obs 1 14,aZ obs 1 15,aJ obs 1 15,aZ obs 1 16,aJ obs 1 16,aZ obs 1 17,aZ obs 1 18,aJ obs 1 18,bO (gO obs 1),Qj (o5 (gO obs 2) 1),aZ obs 4 0,aJ obs 4 0,aZ obs 4 1,aJ obs 4 1,aZ obs 4 2,bO (gO obs 4)]
noncomputable def SZ(r:Re)(T:BT)(xl:LN):LN:=[aY T 1 15,aY T 4 2,bz (dC r)]
theorem gkE(x:Str)(L p ptk x0:Nat)(xr:LN)(hx:x.length=L)(hL:L≤2^20)(h2:2≤x.length)(hs:∀c∈x0::xr,gD c=true)(hw:∀j c,(39::((x0::xr)++ [39]))[j]? =some c→x.cps.toList[p+j]? =some c)(hp:p+((x0::xr).length+2)=L)(hz:(x0::xr).length≤1000)(a0 a1 a2 a3 a4:Nat)(gl:LG)(t:NN):SA w os 440 (KQ x L p ptk x0 xr) (RP x L p ptk x0 xr w.params gl) [a0,a1,a2,a3,a4] t:=
 aG (av w) (hdp:=480) (hs:=[Lg x p (x0::xr) w.params [0,1,3,4,6]]) (ks:=[]) (ac (OC w os hx hL h2 hs hw hp hz (by decide) (by decide)) ak) ak [] SZ 306 KZ
end
section
variable(w:Wd)(os:OS)
noncomputable def IL(x:Str)(L p ptk:Nat):PC:=fun ad t=>(.call (.ref 779) ⟨[.ref (gx ad 0)],[]⟩)
noncomputable def Hz(x:Str)(L p ptk:Nat):PO:=fun P ad t=>[(O (.ref 818) (some (gx ad 1)) .plain ⟨[]⟩),(O (.type "dict") none (.dict ⟨[D P aI (t 0) (.ref (gx ad 3)),D P aV (t 1) .none,D P bk (t 2) (.bool true),D P cu (t 3) .none,D P az (t 4) (.str ⟨⟨[]⟩⟩ (t 5)),D P aD (t 6) (.str ah (t 7)),D P ay (t 8) (.str aw (t 9)),D P an (t 10) (.bool true),D P aW (t 11) (.str aU (t 12)),D P aS (t 13) (.str ⟨⟨[92]⟩⟩ (t 14)),D P au (t 15) (.str ⟨⟨[34]⟩⟩ (t 16)),D P bq (t 17) (.str ⟨⟨[32]⟩⟩ (t 18)),D P aH (t 19) (.ref (gx ad 2)),D P aX (t 20) (.int 1 (t 21)),D P br (t 22) (.int 0 (t 23)),D P bo (t 24) (.str ⟨⟨[]⟩⟩ (t 25)),D P aF (t 26) (.ref (t 27)),D P aT (t 28) .none,D P ai (t 29) (.str ⟨⟨[]⟩⟩ (t 30))]⟩ (t 31)) ⟨[]⟩),(O (.type "collections.deque") none (.fields ⟨[.none,(.int (Int.ofNat (t 32)) 0)]⟩) ⟨[]⟩),(O (.ref 725) (some (gx ad 4)) .plain ⟨[]⟩),(O (.type "dict") none (.dict ⟨[D P aj (t 33) (.str ⟨⟨[10]⟩⟩ (t 34)),D P ao (t 35) (.str x (t 36)),D P ap (t 37) (.int (Int.ofNat p) ptk)]⟩ (t 38)) ⟨[]⟩)]
noncomputable def Hn(x:Str)(L p ptk:Nat):PS:=fun P gl ad t=>bW (Hz x L p ptk P ad t) [(1,fun l=>(O (.type "dict") none (.dict ⟨[D P aI (t 0) (.ref (gx ad 3)),D P aV (t 1) .none,D P bk (t 2) (.bool true),D P cu (t 3) .none,D P az (t 4) (.str ⟨⟨[]⟩⟩ (t 5)),D P aD (t 6) (.str ah (t 7)),D P ay (t 8) (.str aw (t 9)),D P an (t 10) (.bool true),D P aW (t 11) (.str aU (t 12)),D P aS (t 13) (.str ⟨⟨[92]⟩⟩ (t 14)),D P au (t 15) (.str ⟨⟨[34]⟩⟩ (t 16)),D P bq (t 17) (.str ⟨⟨[32]⟩⟩ (gx l 0)),D P aH (t 19) (.ref (gx ad 2)),D P aX (t 20) (.int 1 (t 21)),D P br (t 22) (.int 0 (t 23)),D P bo (t 24) (.str ⟨⟨[]⟩⟩ (gx l 1)),D P aF (t 26) (.ref (t 27)),D P aT (t 28) .none,D P ai (t 29) (.str ⟨⟨[]⟩⟩ (t 30))]⟩ (t 31)) ⟨[]⟩)),(4,fun l=>(O (.type "dict") none (.dict ⟨[D P aj (t 33) (.str ⟨⟨[10]⟩⟩ (t 34)),D P ao (t 35) (.str x (t 36)),D P ap (t 37) (.int (Int.ofNat (p+2)) (gx l 2))]⟩ (t 38)) ⟨[]⟩))] [] 4 (fun l=> .ok (.ret (.str ⟨⟨[45]⟩⟩ (gx l 3)))) gl
noncomputable def Hy(r:Re)(T:BT)(xl:LN):LN:=[aY T 1 11,aY T 1 15,aY T 4 2,bz (dC r)]
theorem Q1(x:Str)(L p ptk:Nat)(hx:x.length=L)(hL:L≤2^20)(h2:2≤x.length)(hw:∀j c,([45,32]:LN)[j]? =some c→x.cps.toList[p+j]? =some c)(hp:p+2<L)(a0 a1 a2 a3 a4:Nat)(gl:LG)(t:NN):SA w os 440 (IL x L p ptk) (Hn x L p ptk w.params gl) [a0,a1,a2,a3,a4] t:=
 aq (av w) (hdp:=560) (U:={hs:=[(aB (dU x L (p+0) 45 w.params [3,4])),(aB (dU x L (p+1) 32 w.params [3,4])),(aB (ca [10]))],ks:=[],sam:=[],fa:=[],fb:=[],f3:=[]}) ⟨(ac (ae (df w os hx hL (hw 0 45 rfl) h2 (by omega))) (ac (ae (df w os hx hL (hw 1 32 rfl) h2 (by omega))) (ac (ae dg) ak))),ak,al,(fun _ h=>nomatch h),(fun _ h=>nomatch h),(fun _ h=>nomatch h)⟩ [] Hy 1270 (J [Bm,Bx,yv,BN,[7,7],AY,fC,[1],ō5,Cd,dm,[3,7],ō2,BN,ō1,[7],vS,ō2,d6,BC])
noncomputable def Hf(x:Str)(L p ptk:Nat):PC:=fun ad t=>(.call (.ref 779) ⟨[.ref (gx ad 0)],[]⟩)
noncomputable def Jx(x:Str)(L p ptk:Nat):PO:=fun P ad t=>[(O (.ref 818) (some (gx ad 1)) .plain ⟨[]⟩),(O (.type "dict") none (.dict ⟨[D P aI (t 0) (.ref (gx ad 3)),D P aV (t 1) .none,D P bk (t 2) (.bool true),D P cu (t 3) .none,D P az (t 4) (.str ⟨⟨[]⟩⟩ (t 5)),D P aD (t 6) (.str ah (t 7)),D P ay (t 8) (.str aw (t 9)),D P an (t 10) (.bool true),D P aW (t 11) (.str aU (t 12)),D P aS (t 13) (.str ⟨⟨[92]⟩⟩ (t 14)),D P au (t 15) (.str ⟨⟨[34]⟩⟩ (t 16)),D P bq (t 17) (.str ⟨⟨[32]⟩⟩ (t 18)),D P aH (t 19) (.ref (gx ad 2)),D P aX (t 20) (.int 1 (t 21)),D P br (t 22) (.int 0 (t 23)),D P bo (t 24) (.str ⟨⟨[]⟩⟩ (t 25)),D P aF (t 26) (.ref (t 27)),D P aT (t 28) .none,D P ai (t 29) (.str ⟨⟨[]⟩⟩ (t 30))]⟩ (t 31)) ⟨[]⟩),(O (.type "collections.deque") none (.fields ⟨[.none,(.int (Int.ofNat (t 32)) 0)]⟩) ⟨[]⟩),(O (.ref 725) (some (gx ad 4)) .plain ⟨[]⟩),(O (.type "dict") none (.dict ⟨[D P aj (t 33) (.str ⟨⟨[10]⟩⟩ (t 34)),D P ao (t 35) (.str x (t 36)),D P ap (t 37) (.int (Int.ofNat p) ptk)]⟩ (t 38)) ⟨[]⟩)]
noncomputable def HH(x:Str)(L p ptk:Nat):PS:=fun P gl ad t=>bW (Jx x L p ptk P ad t) [(1,fun l=>(O (.type "dict") none (.dict ⟨[D P aI (t 0) (.ref (gx ad 3)),D P aV (t 1) .none,D P bk (t 2) (.bool true),D P cu (t 3) .none,D P az (t 4) (.str ⟨⟨[]⟩⟩ (t 5)),D P aD (t 6) (.str ah (t 7)),D P ay (t 8) (.str aw (t 9)),D P an (t 10) (.bool true),D P aW (t 11) (.str aU (t 12)),D P aS (t 13) (.str ⟨⟨[92]⟩⟩ (t 14)),D P au (t 15) (.str ⟨⟨[34]⟩⟩ (t 16)),D P bq (t 17) (.str ⟨⟨[32]⟩⟩ (gx l 0)),D P aH (t 19) (.ref (gx ad 2)),D P aX (t 20) (.int 1 (t 21)),D P br (t 22) (.int 0 (t 23)),D P bo (t 24) (.str ⟨⟨[]⟩⟩ (gx l 1)),D P aF (t 26) (.ref (t 27)),D P aT (t 28) .none,D P ai (t 29) (.str ⟨⟨[]⟩⟩ (t 30))]⟩ (t 31)) ⟨[]⟩)),(4,fun l=>(O (.type "dict") none (.dict ⟨[D P aj (t 33) (.str ⟨⟨[10]⟩⟩ (t 34)),D P ao (t 35) (.str x (t 36)),D P ap (t 37) (.int (Int.ofNat (p+2)) (gx l 2))]⟩ (t 38)) ⟨[]⟩))] [] 4 (fun l=> .ok (.ret (.str ⟨⟨[97]⟩⟩ (gx l 3)))) gl
noncomputable def Hm(r:Re)(T:BT)(xl:LN):LN:=[aY T 1 11,aY T 1 15,aY T 4 2,bz (dC r)]
theorem Uh(x:Str)(L p ptk:Nat)(hx:x.length=L)(hL:L≤2^20)(h2:2≤x.length)(hw:∀j c,([97,32]:LN)[j]? =some c→x.cps.toList[p+j]? =some c)(hp:p+2<L)(a0 a1 a2 a3 a4:Nat)(gl:LG)(t:NN):SA w os 440 (Hf x L p ptk) (HH x L p ptk w.params gl) [a0,a1,a2,a3,a4] t:=
 aq (av w) (hdp:=560) (U:={hs:=[(aB (dU x L (p+0) 97 w.params [3,4])),(aB (dU x L (p+1) 32 w.params [3,4])),(aB (ca [9]))],ks:=[],sam:=[],fa:=[],fb:=[],f3:=[]}) ⟨(ac (ae (df w os hx hL (hw 0 97 rfl) h2 (by omega))) (ac (ae (df w os hx hL (hw 1 32 rfl) h2 (by omega))) (ac (ae dg) ak))),ak,al,(fun _ h=>nomatch h),(fun _ h=>nomatch h),(fun _ h=>nomatch h)⟩ [] Hm 1159 Lx
noncomputable def HD(x:Str)(L p ptk:Nat):PC:=fun ad t=>(.call (.ref 779) ⟨[.ref (gx ad 0)],[]⟩)
noncomputable def I5(x:Str)(L p ptk:Nat):PO:=fun P ad t=>[(O (.ref 818) (some (gx ad 1)) .plain ⟨[]⟩),(O (.type "dict") none (.dict ⟨[D P aI (t 0) (.ref (gx ad 3)),D P aV (t 1) .none,D P bk (t 2) (.bool true),D P cu (t 3) .none,D P az (t 4) (.str ⟨⟨[]⟩⟩ (t 5)),D P aD (t 6) (.str ah (t 7)),D P ay (t 8) (.str aw (t 9)),D P an (t 10) (.bool true),D P aW (t 11) (.str aU (t 12)),D P aS (t 13) (.str ⟨⟨[92]⟩⟩ (t 14)),D P au (t 15) (.str ⟨⟨[34]⟩⟩ (t 16)),D P bq (t 17) (.str ⟨⟨[32]⟩⟩ (t 18)),D P aH (t 19) (.ref (gx ad 2)),D P aX (t 20) (.int 1 (t 21)),D P br (t 22) (.int 0 (t 23)),D P bo (t 24) (.str ⟨⟨[]⟩⟩ (t 25)),D P aF (t 26) (.ref (t 27)),D P aT (t 28) .none,D P ai (t 29) (.str ⟨⟨[]⟩⟩ (t 30))]⟩ (t 31)) ⟨[]⟩),(O (.type "collections.deque") none (.fields ⟨[.none,(.int (Int.ofNat (t 32)) 0)]⟩) ⟨[]⟩),(O (.ref 725) (some (gx ad 4)) .plain ⟨[]⟩),(O (.type "dict") none (.dict ⟨[D P aj (t 33) (.str ⟨⟨[10]⟩⟩ (t 34)),D P ao (t 35) (.str x (t 36)),D P ap (t 37) (.int (Int.ofNat p) ptk)]⟩ (t 38)) ⟨[]⟩)]
noncomputable def Jm(x:Str)(L p ptk:Nat):PS:=fun P gl ad t=>bW (I5 x L p ptk P ad t) [(1,fun l=>(O (.type "dict") none (.dict ⟨[D P aI (t 0) (.ref (gx ad 3)),D P aV (t 1) .none,D P bk (t 2) (.bool true),D P cu (t 3) .none,D P az (t 4) (.str ⟨⟨[]⟩⟩ (t 5)),D P aD (t 6) (.str ah (t 7)),D P ay (t 8) (.str aw (t 9)),D P an (t 10) (.bool true),D P aW (t 11) (.str aU (t 12)),D P aS (t 13) (.str ⟨⟨[92]⟩⟩ (t 14)),D P au (t 15) (.str ⟨⟨[34]⟩⟩ (t 16)),D P bq (t 17) (.str ⟨⟨[32]⟩⟩ (gx l 0)),D P aH (t 19) (.ref (gx ad 2)),D P aX (t 20) (.int 1 (t 21)),D P br (t 22) (.int 0 (t 23)),D P bo (t 24) (.str ⟨⟨[]⟩⟩ (gx l 1)),D P aF (t 26) (.ref (t 27)),D P aT (t 28) .none,D P ai (t 29) (.str ⟨⟨[]⟩⟩ (t 30))]⟩ (t 31)) ⟨[]⟩)),(4,fun l=>(O (.type "dict") none (.dict ⟨[D P aj (t 33) (.str ⟨⟨[10]⟩⟩ (t 34)),D P ao (t 35) (.str x (t 36)),D P ap (t 37) (.int (Int.ofNat (p+2)) (gx l 2))]⟩ (t 38)) ⟨[]⟩))] [] 4 (fun l=> .ok (.ret (.str ⟨⟨[98]⟩⟩ (gx l 3)))) gl
noncomputable def Ix(r:Re)(T:BT)(xl:LN):LN:=[aY T 1 11,aY T 1 15,aY T 4 2,bz (dC r)]
theorem Tj(x:Str)(L p ptk:Nat)(hx:x.length=L)(hL:L≤2^20)(h2:2≤x.length)(hw:∀j c,([98,32]:LN)[j]? =some c→x.cps.toList[p+j]? =some c)(hp:p+2<L)(a0 a1 a2 a3 a4:Nat)(gl:LG)(t:NN):SA w os 440 (HD x L p ptk) (Jm x L p ptk w.params gl) [a0,a1,a2,a3,a4] t:=
 aq (av w) (hdp:=560) (U:={hs:=[(aB (dU x L (p+0) 98 w.params [3,4])),(aB (dU x L (p+1) 32 w.params [3,4])),(aB (ca [9]))],ks:=[],sam:=[],fa:=[],fb:=[],f3:=[]}) ⟨(ac (ae (df w os hx hL (hw 0 98 rfl) h2 (by omega))) (ac (ae (df w os hx hL (hw 1 32 rfl) h2 (by omega))) (ac (ae dg) ak))),ak,al,(fun _ h=>nomatch h),(fun _ h=>nomatch h),(fun _ h=>nomatch h)⟩ [] Ix 1159 Lx
noncomputable def I9(x:Str)(L p ptk:Nat):PC:=fun ad t=>(.call (.ref 779) ⟨[.ref (gx ad 0)],[]⟩)
noncomputable def Jk(x:Str)(L p ptk:Nat):PO:=fun P ad t=>[(O (.ref 818) (some (gx ad 1)) .plain ⟨[]⟩),(O (.type "dict") none (.dict ⟨[D P aI (t 0) (.ref (gx ad 3)),D P aV (t 1) .none,D P bk (t 2) (.bool true),D P cu (t 3) .none,D P az (t 4) (.str ⟨⟨[]⟩⟩ (t 5)),D P aD (t 6) (.str ah (t 7)),D P ay (t 8) (.str aw (t 9)),D P an (t 10) (.bool true),D P aW (t 11) (.str aU (t 12)),D P aS (t 13) (.str ⟨⟨[92]⟩⟩ (t 14)),D P au (t 15) (.str ⟨⟨[34]⟩⟩ (t 16)),D P bq (t 17) (.str ⟨⟨[32]⟩⟩ (t 18)),D P aH (t 19) (.ref (gx ad 2)),D P aX (t 20) (.int 1 (t 21)),D P br (t 22) (.int 0 (t 23)),D P bo (t 24) (.str ⟨⟨[]⟩⟩ (t 25)),D P aF (t 26) (.ref (t 27)),D P aT (t 28) .none,D P ai (t 29) (.str ⟨⟨[]⟩⟩ (t 30))]⟩ (t 31)) ⟨[]⟩),(O (.type "collections.deque") none (.fields ⟨[.none,(.int (Int.ofNat (t 32)) 0)]⟩) ⟨[]⟩),(O (.ref 725) (some (gx ad 4)) .plain ⟨[]⟩),(O (.type "dict") none (.dict ⟨[D P aj (t 33) (.str ⟨⟨[10]⟩⟩ (t 34)),D P ao (t 35) (.str x (t 36)),D P ap (t 37) (.int (Int.ofNat p) ptk)]⟩ (t 38)) ⟨[]⟩)]
noncomputable def HB(x:Str)(L p ptk:Nat):PS:=fun P gl ad t=>bW (Jk x L p ptk P ad t) [(1,fun l=>(O (.type "dict") none (.dict ⟨[D P aI (t 0) (.ref (gx ad 3)),D P aV (t 1) .none,D P bk (t 2) (.bool true),D P cu (t 3) .none,D P az (t 4) (.str ⟨⟨[]⟩⟩ (t 5)),D P aD (t 6) (.str ah (t 7)),D P ay (t 8) (.str aw (t 9)),D P an (t 10) (.bool true),D P aW (t 11) (.str aU (t 12)),D P aS (t 13) (.str ⟨⟨[92]⟩⟩ (t 14)),D P au (t 15) (.str ⟨⟨[34]⟩⟩ (t 16)),D P bq (t 17) .none,D P aH (t 19) (.ref (gx ad 2)),D P aX (t 20) (.int 1 (t 21)),D P br (t 22) (.int 0 (t 23)),D P bo (t 24) (.str ⟨⟨[]⟩⟩ (gx l 0)),D P aF (t 26) (.ref (t 27)),D P aT (t 28) .none,D P ai (t 29) (.str ⟨⟨[]⟩⟩ (t 30))]⟩ (t 31)) ⟨[]⟩)),(4,fun l=>(O (.type "dict") none (.dict ⟨[D P aj (t 33) (.str ⟨⟨[10]⟩⟩ (t 34)),D P ao (t 35) (.str x (t 36)),D P ap (t 37) (.int (Int.ofNat (p+1)) (gx l 1))]⟩ (t 38)) ⟨[]⟩))] [] 3 (fun l=> .ok (.ret (.str ⟨⟨[45]⟩⟩ (gx l 2)))) gl
noncomputable def HM(r:Re)(T:BT)(xl:LN):LN:=[aY T 1 15,aY T 4 2,bz (dC r)]
theorem Tn(x:Str)(L p ptk:Nat)(hx:x.length=p+1)(hL:p+1≤2^20)(h2:2≤x.length)(hw:∀j c,([45]:LN)[j]? =some c→x.cps.toList[p+j]? =some c)(a0 a1 a2 a3 a4:Nat)(gl:LG)(t:NN):SA w os 440 (I9 x L p ptk) (HB x L p ptk w.params gl) [a0,a1,a2,a3,a4] t:=
 aq (av w) (hdp:=560) (U:={hs:=[(aB (sG x 0 (p+0) 45 w.params [3,4])),(aB (lZ x (p+1) 0 0 w.params [3,4])),(aB (ca [10]))],ks:=[],sam:=[],fa:=[],fb:=[],f3:=[]}) ⟨(ac (ae (o8 w os hx hL (hw 0 45 rfl) h2)) (ac (ae (hZ w os hx hL)) (ac (ae dg) ak))),ak,al,(fun _ h=>nomatch h),(fun _ h=>nomatch h),(fun _ h=>nomatch h)⟩ [] HM 1188 (J [Bm,Bx,yv,BN,[7,7],AY,fC,[1],ō5,Cd,dm,[3,7],ō2,[7],vS,BC])
noncomputable def H7(x:Str)(L p ptk:Nat):PC:=fun ad t=>(.call (.ref 779) ⟨[.ref (gx ad 0)],[]⟩)
noncomputable def G_(x:Str)(L p ptk:Nat):PO:=fun P ad t=>[(O (.ref 818) (some (gx ad 1)) .plain ⟨[]⟩),(O (.type "dict") none (.dict ⟨[D P aI (t 0) (.ref (gx ad 3)),D P aV (t 1) .none,D P bk (t 2) (.bool true),D P cu (t 3) .none,D P az (t 4) (.str ⟨⟨[]⟩⟩ (t 5)),D P aD (t 6) (.str ah (t 7)),D P ay (t 8) (.str aw (t 9)),D P an (t 10) (.bool true),D P aW (t 11) (.str aU (t 12)),D P aS (t 13) (.str ⟨⟨[92]⟩⟩ (t 14)),D P au (t 15) (.str ⟨⟨[34]⟩⟩ (t 16)),D P bq (t 17) (.str ⟨⟨[32]⟩⟩ (t 18)),D P aH (t 19) (.ref (gx ad 2)),D P aX (t 20) (.int 1 (t 21)),D P br (t 22) (.int 0 (t 23)),D P bo (t 24) (.str ⟨⟨[]⟩⟩ (t 25)),D P aF (t 26) (.ref (t 27)),D P aT (t 28) .none,D P ai (t 29) (.str ⟨⟨[]⟩⟩ (t 30))]⟩ (t 31)) ⟨[]⟩),(O (.type "collections.deque") none (.fields ⟨[.none,(.int (Int.ofNat (t 32)) 0)]⟩) ⟨[]⟩),(O (.ref 725) (some (gx ad 4)) .plain ⟨[]⟩),(O (.type "dict") none (.dict ⟨[D P aj (t 33) (.str ⟨⟨[10]⟩⟩ (t 34)),D P ao (t 35) (.str x (t 36)),D P ap (t 37) (.int (Int.ofNat p) ptk)]⟩ (t 38)) ⟨[]⟩)]
noncomputable def HR(x:Str)(L p ptk:Nat):PS:=fun P gl ad t=>bW (G_ x L p ptk P ad t) [(1,fun l=>(O (.type "dict") none (.dict ⟨[D P aI (t 0) (.ref (gx ad 3)),D P aV (t 1) .none,D P bk (t 2) (.bool true),D P cu (t 3) .none,D P az (t 4) (.str ⟨⟨[]⟩⟩ (t 5)),D P aD (t 6) (.str ah (t 7)),D P ay (t 8) (.str aw (t 9)),D P an (t 10) (.bool true),D P aW (t 11) (.str aU (t 12)),D P aS (t 13) (.str ⟨⟨[92]⟩⟩ (t 14)),D P au (t 15) (.str ⟨⟨[34]⟩⟩ (t 16)),D P bq (t 17) .none,D P aH (t 19) (.ref (gx ad 2)),D P aX (t 20) (.int 1 (t 21)),D P br (t 22) (.int 0 (t 23)),D P bo (t 24) (.str ⟨⟨[]⟩⟩ (gx l 0)),D P aF (t 26) (.ref (t 27)),D P aT (t 28) .none,D P ai (t 29) (.str ⟨⟨[]⟩⟩ (t 30))]⟩ (t 31)) ⟨[]⟩)),(4,fun l=>(O (.type "dict") none (.dict ⟨[D P aj (t 33) (.str ⟨⟨[10]⟩⟩ (t 34)),D P ao (t 35) (.str x (t 36)),D P ap (t 37) (.int (Int.ofNat (p+1)) (gx l 1))]⟩ (t 38)) ⟨[]⟩))] [] 3 (fun l=> .ok (.ret (.str ⟨⟨[97]⟩⟩ (gx l 2)))) gl
noncomputable def IR(r:Re)(T:BT)(xl:LN):LN:=[aY T 1 15,aY T 4 2,bz (dC r)]
theorem Tr(x:Str)(L p ptk:Nat)(hx:x.length=p+1)(hL:p+1≤2^20)(h2:2≤x.length)(hw:∀j c,([97]:LN)[j]? =some c→x.cps.toList[p+j]? =some c)(a0 a1 a2 a3 a4:Nat)(gl:LG)(t:NN):SA w os 440 (H7 x L p ptk) (HR x L p ptk w.params gl) [a0,a1,a2,a3,a4] t:=
 aq (av w) (hdp:=560) (U:={hs:=[(aB (sG x 0 (p+0) 97 w.params [3,4])),(aB (lZ x (p+1) 0 0 w.params [3,4])),(aB (ca [9]))],ks:=[],sam:=[],fa:=[],fb:=[],f3:=[]}) ⟨(ac (ae (o8 w os hx hL (hw 0 97 rfl) h2)) (ac (ae (hZ w os hx hL)) (ac (ae dg) ak))),ak,al,(fun _ h=>nomatch h),(fun _ h=>nomatch h),(fun _ h=>nomatch h)⟩ [] IR 1077 J5
noncomputable def Hh(x:Str)(L p ptk:Nat):PC:=fun ad t=>(.call (.ref 779) ⟨[.ref (gx ad 0)],[]⟩)
noncomputable def IX(x:Str)(L p ptk:Nat):PO:=fun P ad t=>[(O (.ref 818) (some (gx ad 1)) .plain ⟨[]⟩),(O (.type "dict") none (.dict ⟨[D P aI (t 0) (.ref (gx ad 3)),D P aV (t 1) .none,D P bk (t 2) (.bool true),D P cu (t 3) .none,D P az (t 4) (.str ⟨⟨[]⟩⟩ (t 5)),D P aD (t 6) (.str ah (t 7)),D P ay (t 8) (.str aw (t 9)),D P an (t 10) (.bool true),D P aW (t 11) (.str aU (t 12)),D P aS (t 13) (.str ⟨⟨[92]⟩⟩ (t 14)),D P au (t 15) (.str ⟨⟨[34]⟩⟩ (t 16)),D P bq (t 17) (.str ⟨⟨[32]⟩⟩ (t 18)),D P aH (t 19) (.ref (gx ad 2)),D P aX (t 20) (.int 1 (t 21)),D P br (t 22) (.int 0 (t 23)),D P bo (t 24) (.str ⟨⟨[]⟩⟩ (t 25)),D P aF (t 26) (.ref (t 27)),D P aT (t 28) .none,D P ai (t 29) (.str ⟨⟨[]⟩⟩ (t 30))]⟩ (t 31)) ⟨[]⟩),(O (.type "collections.deque") none (.fields ⟨[.none,(.int (Int.ofNat (t 32)) 0)]⟩) ⟨[]⟩),(O (.ref 725) (some (gx ad 4)) .plain ⟨[]⟩),(O (.type "dict") none (.dict ⟨[D P aj (t 33) (.str ⟨⟨[10]⟩⟩ (t 34)),D P ao (t 35) (.str x (t 36)),D P ap (t 37) (.int (Int.ofNat p) ptk)]⟩ (t 38)) ⟨[]⟩)]
noncomputable def G2(x:Str)(L p ptk:Nat):PS:=fun P gl ad t=>bW (IX x L p ptk P ad t) [(1,fun l=>(O (.type "dict") none (.dict ⟨[D P aI (t 0) (.ref (gx ad 3)),D P aV (t 1) .none,D P bk (t 2) (.bool true),D P cu (t 3) .none,D P az (t 4) (.str ⟨⟨[]⟩⟩ (t 5)),D P aD (t 6) (.str ah (t 7)),D P ay (t 8) (.str aw (t 9)),D P an (t 10) (.bool true),D P aW (t 11) (.str aU (t 12)),D P aS (t 13) (.str ⟨⟨[92]⟩⟩ (t 14)),D P au (t 15) (.str ⟨⟨[34]⟩⟩ (t 16)),D P bq (t 17) .none,D P aH (t 19) (.ref (gx ad 2)),D P aX (t 20) (.int 1 (t 21)),D P br (t 22) (.int 0 (t 23)),D P bo (t 24) (.str ⟨⟨[]⟩⟩ (gx l 0)),D P aF (t 26) (.ref (t 27)),D P aT (t 28) .none,D P ai (t 29) (.str ⟨⟨[]⟩⟩ (t 30))]⟩ (t 31)) ⟨[]⟩)),(4,fun l=>(O (.type "dict") none (.dict ⟨[D P aj (t 33) (.str ⟨⟨[10]⟩⟩ (t 34)),D P ao (t 35) (.str x (t 36)),D P ap (t 37) (.int (Int.ofNat (p+1)) (gx l 1))]⟩ (t 38)) ⟨[]⟩))] [] 3 (fun l=> .ok (.ret (.str ⟨⟨[98]⟩⟩ (gx l 2)))) gl
noncomputable def Hs(r:Re)(T:BT)(xl:LN):LN:=[aY T 1 15,aY T 4 2,bz (dC r)]
theorem St(x:Str)(L p ptk:Nat)(hx:x.length=p+1)(hL:p+1≤2^20)(h2:2≤x.length)(hw:∀j c,([98]:LN)[j]? =some c→x.cps.toList[p+j]? =some c)(a0 a1 a2 a3 a4:Nat)(gl:LG)(t:NN):SA w os 440 (Hh x L p ptk) (G2 x L p ptk w.params gl) [a0,a1,a2,a3,a4] t:=
 aq (av w) (hdp:=560) (U:={hs:=[(aB (sG x 0 (p+0) 98 w.params [3,4])),(aB (lZ x (p+1) 0 0 w.params [3,4])),(aB (ca [9]))],ks:=[],sam:=[],fa:=[],fb:=[],f3:=[]}) ⟨(ac (ae (o8 w os hx hL (hw 0 98 rfl) h2)) (ac (ae (hZ w os hx hL)) (ac (ae dg) ak))),ak,al,(fun _ h=>nomatch h),(fun _ h=>nomatch h),(fun _ h=>nomatch h)⟩ [] Hs 1077 J5
end
noncomputable def Kk(x:Str)(L ptk:Nat):PC:=fun ad t=>(.call (.ref 779) ⟨[.ref (gx ad 0)],[]⟩)
noncomputable def Ri(x:Str)(L ptk:Nat):PO:=fun P ad t=>[(O (.ref 818) (some (gx ad 1)) .plain ⟨[]⟩),(O (.type "dict") none (.dict ⟨[D P aI (t 0) (.ref (gx ad 3)),D P aV (t 1) .none,D P bk (t 2) (.bool true),D P cu (t 3) .none,D P az (t 4) (.str ⟨⟨[]⟩⟩ (t 5)),D P aD (t 6) (.str ah (t 7)),D P ay (t 8) (.str aw (t 9)),D P an (t 10) (.bool true),D P aW (t 11) (.str aU (t 12)),D P aS (t 13) (.str ⟨⟨[92]⟩⟩ (t 14)),D P au (t 15) (.str ⟨⟨[34]⟩⟩ (t 16)),D P bq (t 17) .none,D P aH (t 18) (.ref (gx ad 2)),D P aX (t 19) (.int 1 (t 20)),D P br (t 21) (.int 0 (t 22)),D P bo (t 23) (.str ⟨⟨[]⟩⟩ (t 24)),D P aF (t 25) (.ref (gx ad 5)),D P aT (t 26) .none,D P ai (t 27) (.str ⟨⟨[]⟩⟩ (t 28))]⟩ (t 29)) ⟨[]⟩),(O (.type "collections.deque") none (.fields ⟨[.none,(.int (Int.ofNat (t 30)) 0)]⟩) ⟨[]⟩),(O (.ref 725) (some (gx ad 4)) .plain ⟨[]⟩),(O (.type "dict") none (.dict ⟨[D P aj (t 31) (.str ⟨⟨[10]⟩⟩ (t 32)),D P ao (t 33) (.str x (t 34)),D P ap (t 35) (.int (Int.ofNat L) ptk)]⟩ (t 36)) ⟨[]⟩),(O (.type "collections.deque") none (.fields ⟨[.none,(.int (Int.ofNat (t 37)) 0)]⟩) ⟨[]⟩)]
noncomputable def Lj(x:Str)(L ptk:Nat):PS:=fun P gl ad t=>bW (Ri x L ptk P ad t) [(1,fun l=>(O (.type "dict") none (.dict ⟨[D P aI (t 0) (.ref (gx ad 3)),D P aV (t 1) .none,D P bk (t 2) (.bool true),D P cu (t 3) .none,D P az (t 4) (.str ⟨⟨[]⟩⟩ (t 5)),D P aD (t 6) (.str ah (t 7)),D P ay (t 8) (.str aw (t 9)),D P an (t 10) (.bool true),D P aW (t 11) (.str aU (t 12)),D P aS (t 13) (.str ⟨⟨[92]⟩⟩ (t 14)),D P au (t 15) (.str ⟨⟨[34]⟩⟩ (t 16)),D P bq (t 17) .none,D P aH (t 18) (.ref (gx ad 2)),D P aX (t 19) (.int 1 (t 20)),D P br (t 21) (.int 0 (t 22)),D P bo (t 23) (.str ⟨⟨[]⟩⟩ (gx l 0)),D P aF (t 25) (.ref (gx ad 5)),D P aT (t 26) .none,D P ai (t 27) (.str ⟨⟨[]⟩⟩ (t 28))]⟩ (t 29)) ⟨[]⟩))] [] 1 (fun l=> .ok (.ret .none)) gl
noncomputable def Ky(obs:LL)(c:Code):LN:=[aZ obs 1 0,aZ obs 1 1,aZ obs 1 2,aZ obs 1 3,aZ obs 1 4,aJ obs 1 4,aZ obs 1 5,aJ obs 1 5,aZ obs 1 6,aJ obs 1 6,aZ obs 1 7,aZ obs 1 8,aJ obs 1 8,aZ obs 1 9,aJ obs 1 9,aZ obs 1 10,aJ obs 1 10,aZ obs 1 11,aZ obs 1 12,aZ obs 1 13,aJ obs 1 13,aZ obs 1 14,aJ obs 1 14,aZ obs 1 15,aJ obs 1 15,aZ obs 1 16,aZ obs 1 17,aZ obs 1 18,aJ obs 1 18,bO (gO obs 1),Qj (o5 (gO obs 2) 1),aZ obs 4 0,aJ obs 4 0,aZ obs 4 1,aJ obs 4 1,aZ obs 4 2,bO (gO obs 4),Qj (o5 (gO obs 5) 1)]
noncomputable def Tv(r:Re)(T:BT)(xl:LN):LN:=[aY T 1 15]
theorem tkZ(w:Wd)(os:OS)(x:Str)(L ptk:Nat)(hx:x.length=L)(hL:L≤2^20)(a0 a1 a2 a3 a4 a5:Nat)(gl:LG)(t:NN):SA w os 440 (Kk x L ptk) (Lj x L ptk w.params gl) [a0,a1,a2,a3,a4,a5] t:=
 aG (av w) (hdp:=560) (hs:=[lZ x L 0 0 w.params [3,4]]) (ks:=[]) (ac (hZ w os hx hL) ak) ak [] Tv 552 (J [ō2,[7,7,1,0],d6,[3,3,0,3,0,3,0,3,7],F7,[8,8],ō1,vW,[0,8],Bx,ō9,ō2,i_,yj,[5,0,1,0,8,8,8],ō1,i_,ō1,i_,[8],oz,i_,[0,8,8,8],oz,i_,[8,8],bP,[8,8],i_,ō1,[8],ox,d6,ox,ō9,yr,[6,6,0,6,0,6,0,6],d6])
noncomputable def Q7(x:Str)(p ptk n:Nat)(S:Str):PS:=fun P gl ad t=>bW (UD x 0 p ptk 0 [] P ad t) [(1,fun l=>(O (.type "dict") none (.dict ⟨[D P aI (t 0) (.ref (gx ad 3)),D P aV (t 1) .none,D P bk (t 2) (.bool true),D P cu (t 3) .none,D P az (t 4) (.str ⟨⟨[]⟩⟩ (t 5)),D P aD (t 6) (.str ah (t 7)),D P ay (t 8) (.str aw (t 9)),D P an (t 10) (.bool true),D P aW (t 11) (.str aU (t 12)),D P aS (t 13) (.str ⟨⟨[92]⟩⟩ (t 14)),D P au (t 15) (.str ⟨⟨[34]⟩⟩ (t 16)),D P bq (t 17) (.str ⟨⟨[32]⟩⟩ (gx l 0)),D P aH (t 19) (.ref (gx ad 2)),D P aX (t 20) (.int 1 (t 21)),D P br (t 22) (.int 0 (t 23)),D P bo (t 24) (.str ⟨⟨[]⟩⟩ (gx l 1)),D P aF (t 26) (.ref (t 27)),D P aT (t 28) .none,D P ai (t 29) (.str ⟨⟨[]⟩⟩ (t 30))]⟩ (t 31)) ⟨[]⟩)),(4,fun l=>(O (.type "dict") none (.dict ⟨[D P aj (t 33) (.str ⟨⟨[10]⟩⟩ (t 34)),D P ao (t 35) (.str x (t 36)),D P ap (t 37) (.int (Int.ofNat (p+n)) (gx l 2))]⟩ (t 38)) ⟨[]⟩))] [] 4 (fun l=> .ok (.ret (.str S (gx l 3)))) gl
noncomputable def OA(x:Str)(p ptk n:Nat)(S:Str):PS:=fun P gl ad t=>bW (Ku x 0 p ptk 0 [] P ad t) [(1,fun l=>(O (.type "dict") none (.dict ⟨[D P aI (t 0) (.ref (gx ad 3)),D P aV (t 1) .none,D P bk (t 2) (.bool true),D P cu (t 3) .none,D P az (t 4) (.str ⟨⟨[]⟩⟩ (t 5)),D P aD (t 6) (.str ah (t 7)),D P ay (t 8) (.str aw (t 9)),D P an (t 10) (.bool true),D P aW (t 11) (.str aU (t 12)),D P aS (t 13) (.str ⟨⟨[92]⟩⟩ (t 14)),D P au (t 15) (.str ⟨⟨[34]⟩⟩ (t 16)),D P bq (t 17) .none,D P aH (t 19) (.ref (gx ad 2)),D P aX (t 20) (.int 1 (t 21)),D P br (t 22) (.int 0 (t 23)),D P bo (t 24) (.str ⟨⟨[]⟩⟩ (gx l 0)),D P aF (t 26) (.ref (t 27)),D P aT (t 28) .none,D P ai (t 29) (.str ⟨⟨[]⟩⟩ (t 30))]⟩ (t 31)) ⟨[]⟩)),(4,fun l=>(O (.type "dict") none (.dict ⟨[D P aj (t 33) (.str ⟨⟨[10]⟩⟩ (t 34)),D P ao (t 35) (.str x (t 36)),D P ap (t 37) (.int (Int.ofNat (p+n)) (gx l 1))]⟩ (t 38)) ⟨[]⟩))] [] 3 (fun l=> .ok (.ret (.str S (gx l 2)))) gl
noncomputable def ja(x:Str)(p n:Nat)(S:Str)(P:Pm)(slots:LN):Hk:=⟨slots,fun ad obs c=>Uo x 0 p 0 0 [] ad (gx (QE obs c)),fun gl ad obs c=>Q7 x p (aJ obs 4 2) n S P gl ad (gx (QE obs c)),aC⟩
noncomputable def x6(x:Str)(p n:Nat)(S:Str)(P:Pm)(slots:LN):Hk:=⟨slots,fun ad obs c=>KQ x 0 p 0 0 [] ad (gx (JF obs c)),fun gl ad obs c=>OA x p (aJ obs 4 2) n S P gl ad (gx (JF obs c)),aC⟩
noncomputable def FJ(x:Str)(L:Nat)(P:Pm)(slots:LN):Hk:=⟨slots,fun ad obs c=>Kk x L (aJ obs 4 2) ad (gx (Ky obs c)),fun gl ad obs c=>Lj x L (aJ obs 4 2) P gl ad (gx (Ky obs c)),aC⟩
section
variable(w:Wd)(os:OS){x:Str}{L p:Nat}(hx:x.length=L)(hL:L≤2^20)(h2:2≤x.length)
include hx hL h2
theorem rr{x0:Nat}{xr:LN}(hs:∀c∈x0::xr,gD c=true)(hw:∀j c,(39::((x0::xr)++ [39,32]))[j]? =some c→x.cps.toList[p+j]? =some c)(hp:p+((x0::xr).length+3)<L)(hz:(x0::xr).length≤1000){slots:LN}(hn:slots.Nodup){hdp:Nat}(hd:hdp≤440):
 Hk.Ok (bs w.params w.params) w os hdp (ja x p ((x0::xr).length+3) ⟨⟨x0::xr⟩⟩ w.params slots):=⟨hn,fun gl ad obs c=>aE hd (by
 intro s K g hl
 have hl':ad.length=5:=hl
 obtain⟨y9,hf⟩:=J_ hl'
 have hf:ad=[y9 0,y9 1,y9 2,y9 3,y9 4]:=hf
 subst hf
 exact gk w os x L p _ x0 xr hx hL h2 hs hw hp hz (y9 0) (y9 1) (y9 2) (y9 3) (y9 4) gl _ s K g hl)⟩
theorem py{x0:Nat}{xr:LN}(hs:∀c∈x0::xr,gD c=true)(hw:∀j c,(39::((x0::xr)++ [39]))[j]? =some c→x.cps.toList[p+j]? =some c)(hp:p+((x0::xr).length+2)=L)(hz:(x0::xr).length≤1000){slots:LN}(hn:slots.Nodup){hdp:Nat}(hd:hdp≤440):
 Hk.Ok (bs w.params w.params) w os hdp (x6 x p ((x0::xr).length+2) ⟨⟨x0::xr⟩⟩ w.params slots):=⟨hn,fun gl ad obs c=>aE hd (by
 intro s K g hl
 have hl':ad.length=5:=hl
 obtain⟨y9,hf⟩:=J_ hl'
 have hf:ad=[y9 0,y9 1,y9 2,y9 3,y9 4]:=hf
 subst hf
 exact gkE w os x L p _ x0 xr hx hL h2 hs hw hp hz (y9 0) (y9 1) (y9 2) (y9 3) (y9 4) gl _ s K g hl)⟩
end
noncomputable def yT(c:Nat):Bool:=c==45||c==97||c==98
noncomputable def w_(c:Nat):Bool:=c==33||c==42||c==45||c==63||c==91||c==93||c==97||c==98
theorem wP{c:Nat}(h:w_ c=true):c=33∨c=42∨c=45∨c=63∨c=91∨c=93∨c=97∨c=98:=by
 unfold w_ at h
 simpa only[Bool.or_eq_true,beq_iff_eq,or_assoc] using h
noncomputable def ju(c:Nat):LN:=match yT c with
 |true=> [c]
 |false=> [39,c,39]
noncomputable def dl(c:Nat):Nat:=match yT c with
 |true=>1
 |false=>3
section
variable(w:Wd)(os:OS){x:Str}{L p:Nat}(hx:x.length=L)(hL:L≤2^20)(h2:2≤x.length)
include hx hL h2
theorem zM{c:Nat}(hc:c=45∨c=97∨c=98)(hw:∀j q,([c,32]:LN)[j]? =some q→x.cps.toList[p+j]? =some q)(hp:p+2<L){slots:LN}(hn:slots.Nodup:=by decide){hdp:Nat}(hd:hdp≤440:=by decide):Hk.Ok (bs w.params w.params) w os hdp (ja x p 2 ⟨⟨[c]⟩⟩ w.params slots):=⟨hn,fun gl ad obs cc=>aE hd (by
 intro s K g hl
 have hl':ad.length=5:=hl
 obtain⟨y9,hf⟩:=J_ hl'
 have hf:ad=[y9 0,y9 1,y9 2,y9 3,y9 4]:=hf
 subst hf
 rcases hc with rfl|rfl|rfl
 ·exact Q1 w os x L p _ hx hL h2 hw hp (y9 0) (y9 1) (y9 2) (y9 3) (y9 4) gl _ s K g hl
 ·exact Uh w os x L p _ hx hL h2 hw hp (y9 0) (y9 1) (y9 2) (y9 3) (y9 4) gl _ s K g hl
 ·exact Tj w os x L p _ hx hL h2 hw hp (y9 0) (y9 1) (y9 2) (y9 3) (y9 4) gl _ s K g hl)⟩
theorem AK{c:Nat}(hc:c=45∨c=97∨c=98)(hw:∀j q,([c]:LN)[j]? =some q→x.cps.toList[p+j]? =some q)(hp:p+1=L){slots:LN}(hn:slots.Nodup:=by decide){hdp:Nat}(hd:hdp≤440:=by decide):Hk.Ok (bs w.params w.params) w os hdp (x6 x p 1 ⟨⟨[c]⟩⟩ w.params slots):=⟨hn,fun gl ad obs cc=>aE hd (by
 intro s K g hl
 have hl':ad.length=5:=hl
 obtain⟨y9,hf⟩:=J_ hl'
 have hf:ad=[y9 0,y9 1,y9 2,y9 3,y9 4]:=hf
 subst hf
 subst hp
 rcases hc with rfl|rfl|rfl
 ·exact Tn w os x 0 p _ hx hL h2 hw (y9 0) (y9 1) (y9 2) (y9 3) (y9 4) gl _ s K g hl
 ·exact Tr w os x 0 p _ hx hL h2 hw (y9 0) (y9 1) (y9 2) (y9 3) (y9 4) gl _ s K g hl
 ·exact St w os x 0 p _ hx hL h2 hw (y9 0) (y9 1) (y9 2) (y9 3) (y9 4) gl _ s K g hl)⟩
theorem zR{c:Nat}(h:w_ c=true)(hw:∀j q,(ju c++ [32])[j]? =some q→x.cps.toList[p+j]? =some q)(hp:p+(dl c+1)<L){slots:LN}(hn:slots.Nodup:=by decide){hdp:Nat}(hd:hdp≤440:=by decide):Hk.Ok (bs w.params w.params) w os hdp (ja x p (dl c+1) ⟨⟨[c]⟩⟩ w.params slots):=by
 rcases wP h with rfl|rfl|rfl|rfl|rfl|rfl|rfl|rfl
 ·exact rr w os hx hL h2 (x0:=33) (xr:=[]) (by decide) hw hp (by decide) hn hd
 ·exact rr w os hx hL h2 (x0:=42) (xr:=[]) (by decide) hw hp (by decide) hn hd
 ·exact zM w os hx hL h2 (.inl rfl) hw hp hn hd
 ·exact rr w os hx hL h2 (x0:=63) (xr:=[]) (by decide) hw hp (by decide) hn hd
 ·exact rr w os hx hL h2 (x0:=91) (xr:=[]) (by decide) hw hp (by decide) hn hd
 ·exact rr w os hx hL h2 (x0:=93) (xr:=[]) (by decide) hw hp (by decide) hn hd
 ·exact zM w os hx hL h2 (.inr (.inl rfl)) hw hp hn hd
 ·exact zM w os hx hL h2 (.inr (.inr rfl)) hw hp hn hd
theorem OU{c:Nat}(h:w_ c=true)(hw:∀j q,(ju c)[j]? =some q→x.cps.toList[p+j]? =some q)(hp:p+dl c=L){slots:LN}(hn:slots.Nodup:=by decide){hdp:Nat}(hd:hdp≤440:=by decide):Hk.Ok (bs w.params w.params) w os hdp (x6 x p (dl c) ⟨⟨[c]⟩⟩ w.params slots):=by
 rcases wP h with rfl|rfl|rfl|rfl|rfl|rfl|rfl|rfl
 ·exact py w os hx hL h2 (x0:=33) (xr:=[]) (by decide) hw hp (by decide) hn hd
 ·exact py w os hx hL h2 (x0:=42) (xr:=[]) (by decide) hw hp (by decide) hn hd
 ·exact AK w os hx hL h2 (.inl rfl) hw hp hn hd
 ·exact py w os hx hL h2 (x0:=63) (xr:=[]) (by decide) hw hp (by decide) hn hd
 ·exact py w os hx hL h2 (x0:=91) (xr:=[]) (by decide) hw hp (by decide) hn hd
 ·exact py w os hx hL h2 (x0:=93) (xr:=[]) (by decide) hw hp (by decide) hn hd
 ·exact AK w os hx hL h2 (.inr (.inl rfl)) hw hp hn hd
 ·exact AK w os hx hL h2 (.inr (.inr rfl)) hw hp hn hd
end
theorem Nk(w:Wd)(os:OS){x:Str}{L:Nat}(hx:x.length=L)(hL:L≤2^20){slots:LN}(hn:slots.Nodup){hdp:Nat}(hd:hdp≤440):
 Hk.Ok (bs w.params w.params) w os hdp (FJ x L w.params slots):=⟨hn,fun gl ad obs c=>aE hd (by
 intro s K g hl
 have hl':ad.length=6:=hl
 obtain⟨y9,hf⟩:=J_ hl'
 have hf:ad=[y9 0,y9 1,y9 2,y9 3,y9 4,y9 5]:=hf
 subst hf
 exact tkZ w os x L _ hx hL (y9 0) (y9 1) (y9 2) (y9 3) (y9 4) (y9 5) gl _ s K g hl)⟩
theorem wA{l pre v post:LN}{p:Nat}(h:l=pre++(v++post))(hp:pre.length=p):∀j c,v[j]? =some c→l[p+j]? =some c:=by
 intro j c hc
 have hj:j<v.length:=(List.getElem?_eq_some_iff.mp hc).1
 subst h hp
 rw[List.getElem?_append_right (by omega),show pre.length+j -pre.length=j by omega,List.getElem?_append_left hj]
 exact hc
section
open PySem.SeqAt PySem.MeetsSeq PySem.Calls PyProof.Rows PySem.Builtin PySem.Builtin.Str
theorem tB{M:Model}{kt:KT}{os:OS}{dep:Nat}{c:Code}{ad:LA}{S:Spec}(u:Nat)(h:cb M kt os dep c ad S)(hn:S.news=[])(ht:S.nt=0){R:LN→Re}(hr:S.rv []=R [u])(hp:S.post.map (· [])=S.post.map (· [u])):
 cb M kt os dep c ad {S with nt:=1,rv:=R}:=by
 intro s K g hL hA nd hk Γ p hc hb
 obtain⟨r,s',hr',as,ts,ha,ht',e,E⟩:=h s K g hL hA nd hk Γ p hc hb
 rw[hn] at ha
 rw[ht] at ht'
 obtain rfl:as=[]:=List.length_eq_zero_iff.mp ha
 obtain rfl:ts=[]:=List.length_eq_zero_iff.mp ht'
 refine⟨r,s',hr',[],[u],by rw[hn];rfl,rfl,by rw[e];exact hr,?_⟩
 show hO _ _ (ad.zip (S.post.map (· [u]))) [] _
 rw[←hp]
 exact E
noncomputable def JI(c t:Nat):Code:= .call (.ref 845) ⟨[.str ⟨⟨[c]⟩⟩ t],[]⟩
noncomputable def yQ(c:Nat)(gl:LG):Spec:={pre:=[],post:=[],news:=[],nt:=1,rv:=fun l=> .ok (.ret (.str ⟨⟨ju c⟩⟩ (gx l 0))),gl,gl':=gl}
theorem quG(w:Wd)(os:OS){c:Nat}(h:w_ c=true)(t:Nat)(gl:LG):cb (model TW w) (bD w.params) os 420 (JI c t) [] (yQ c gl):=by
 rcases wP h with rfl|rfl|rfl|rfl|rfl|rfl|rfl|rfl
 ·exact ZO w os gl fun _=>t
 ·exact X6 w os gl fun _=>t
 ·exact tB t (Zo w os gl fun _=>t) rfl rfl (R:=(yQ 45 gl).rv) rfl rfl
 ·exact Zm w os gl fun _=>t
 ·exact qu91 w os gl fun _=>t
 ·exact YX w os gl fun _=>t
 ·exact tB t (WG w os gl fun _=>t) rfl rfl (R:=(yQ 97 gl).rv) rfl rfl
 ·exact tB t (YE w os gl fun _=>t) rfl rfl (R:=(yQ 98 gl).rv) rfl rfl
noncomputable def xF(c:Nat)(slots:LN):Hk:=⟨slots,fun _ _ c'=>JI c (bz (b_ c' 0)),fun gl _ _ _=>yQ c gl,aC⟩
theorem wL(w:Wd)(os:OS){c:Nat}(h:w_ c=true){slots:LN}(hn:slots.Nodup:=by decide){hdp:Nat}(hd:hdp≤420:=by decide):(xF c slots).Ok (bs w.params w.params) w os hdp:=
 ⟨hn,fun gl ad obs c=>aE hd (by
  intro s K g hL
  obtain rfl:ad=[]:=List.length_eq_zero_iff.mp hL
  exact quG w os h _ gl s K g hL)⟩
theorem dc{c:Nat}(h:w_ c=true):(ju c).length=dl c:=by
 rcases wP h with rfl|rfl|rfl|rfl|rfl|rfl|rfl|rfl<;>rfl
theorem fI(c:Nat):(ju c).length≤3:=by
 unfold ju
 cases yT c<;>simp
noncomputable def C3(o0 o1 o2 o3:Nat):List Str:=[⟨⟨ju o0⟩⟩,⟨⟨ju o1⟩⟩,⟨⟨ju o2⟩⟩,⟨⟨ju o3⟩⟩]
noncomputable def vC(o0 o1 o2 o3:Nat):Str:=Builtin.Str.glued ⟨⟨[32]⟩⟩ (C3 o0 o1 o2 o3)
noncomputable def MD(o0 o1 o2 o3:Nat):Sem Fin:=PySem.W.Fast.tw15973247252070878614 (PySem.W.Fast.tw10206770168876983080 ⟨⟨[32]⟩⟩ (C3 o0 o1 o2 o3))
noncomputable def Ml(o0 o1 o2 o3:Nat):Sem Fin:=ite (tooLong ((C3 o0 o1 o2 o3).toArray.foldl (fun(n:Nat)(s:Str)=>n+s.length+Str.length ⟨⟨[32]⟩⟩) 0)=true)
 (@Bind.bind Sem (@Monad.toBind Sem PySem.W.Fast.tw12456147031677567982) _ _ (unsupported "str.join:memory") fun(_:Unit)=>MD o0 o1 o2 o3) (MD o0 o1 o2 o3)
noncomputable def WA(o0 o1 o2 o3:Nat):Fac:=⟨fun _ _ _=>Ml o0 o1 o2 o3,fun _ _ _=> .fresh fun t=> .pure (.done (.ret (.str (vC o0 o1 o2 o3) t)))⟩
theorem ew(o0 o1 o2 o3:Nat):(vC o0 o1 o2 o3).cps.toList=ju o0++32::(ju o1++32::(ju o2++32::ju o3)):=by
 unfold vC Builtin.Str.glued C3
 simp
theorem Pz(o0 o1 o2 o3:Nat):(vC o0 o1 o2 o3).length≤100:=by
 show(vC o0 o1 o2 o3).cps.size≤100
 rw[←Array.length_toList,ew]
 have:=fI o0;have:=fI o1;have:=fI o2;have:=fI o3
 simp
 omega
theorem CX(o0 o1 o2 o3:Nat):tooLong ((C3 o0 o1 o2 o3).toArray.foldl (fun(n:Nat)(s:Str)=>n+s.length+Str.length ⟨⟨[32]⟩⟩) 0)=false:=by
 have a0:Str.length ⟨⟨[32]⟩⟩=1:=rfl
 unfold Builtin.Str.tooLong C3
 have e(c:Nat):Str.length ⟨⟨ju c⟩⟩=(ju c).length:=rfl
 have:=fI o0;have:=fI o1;have:=fI o2;have:=fI o3
 simp only[List.foldl_toArray',List.foldl_cons,List.foldl_nil,a0,e,sizeLine_eq,decide_eq_false_iff_not]
 omega
theorem L4(o0 o1 o2 o3:Nat):(WA o0 o1 o2 o3).l=(WA o0 o1 o2 o3).r:=by
 have hl:=Pz o0 o1 o2 o3
 have key:Ml o0 o1 o2 o3=retStr (vC o0 o1 o2 o3):=by
  unfold Ml
  rw[if_neg (by rw[CX];decide)]
  unfold MD
  rw[←PySem.W.Fast.te15973247252070878614,←PySem.W.Fast.te10206770168876983080]
  rfl
 have k2:retStr (vC o0 o1 o2 o3)= .fresh fun t=> .pure (.done (.ret (.str (vC o0 o1 o2 o3) t))):=by
  unfold retStr mkStr
  rw[if_neg (by rw[sizeLine_eq];omega)]
  rfl
 funext _ _ _
 exact key.trans k2
section
variable(w:Wd)(os:OS){o0 o1 o2 o3:Nat}(h0:w_ o0=true)(h1:w_ o1=true)(h2:w_ o2=true)(h3:w_ o3=true)
include h0 h1 h2 h3
theorem gr:(vC o0 o1 o2 o3).length=0+(dl o0+1)+(dl o1+1)+(dl o2+1)+dl o3:=by
 show(vC o0 o1 o2 o3).cps.size=_
 rw[←Array.length_toList,ew]
 simp only[List.length_append,List.length_cons,dc h0,dc h1,dc h2,dc h3]
 omega
theorem jc:0+(dl o0+1)+(dl o1+1)+(dl o2+1)+dl o3≤2^20∧2≤(vC o0 o1 o2 o3).length:=by
 have q(c:Nat):dl c≤3:=by unfold dl;cases yT c<;>decide
 have:=q o0;have:=q o1;have:=q o2;have:=q o3
 rw[gr h0 h1 h2 h3]
 constructor<;>omega
theorem wQ(c:Nat):0<dl c:=by unfold dl;cases yT c<;>decide
variable{slots:LN}(hn:slots.Nodup){hdp:Nat}(hd:hdp≤440)
include hn hd
theorem lk0:Hk.Ok (bs w.params w.params) w os hdp (ja (vC o0 o1 o2 o3) 0 (dl o0+1) ⟨⟨[o0]⟩⟩ w.params slots):=
 zR w os (p:=0) (gr h0 h1 h2 h3) (jc h0 h1 h2 h3).1 (jc h0 h1 h2 h3).2 h0 (wA (pre:=[]) (post:=ju o1++32::(ju o2++32::ju o3)) (by rw[ew];simp) rfl) (by have:=wQ h0 h1 h2 h3 o3;omega) hn hd
theorem lk1:Hk.Ok (bs w.params w.params) w os hdp (ja (vC o0 o1 o2 o3) (0+(dl o0+1)) (dl o1+1) ⟨⟨[o1]⟩⟩ w.params slots):=
 zR w os (p:=0+(dl o0+1)) (gr h0 h1 h2 h3) (jc h0 h1 h2 h3).1 (jc h0 h1 h2 h3).2 h1 (wA (pre:=ju o0++ [32]) (post:=ju o2++32::ju o3) (by rw[ew];simp) (by simp only[List.length_append,List.length_cons,List.length_nil,dc h0];omega)) (by have:=wQ h0 h1 h2 h3 o3;omega) hn hd
theorem lk2:Hk.Ok (bs w.params w.params) w os hdp (ja (vC o0 o1 o2 o3) (0+(dl o0+1)+(dl o1+1)) (dl o2+1) ⟨⟨[o2]⟩⟩ w.params slots):=
 zR w os (p:=0+(dl o0+1)+(dl o1+1)) (gr h0 h1 h2 h3) (jc h0 h1 h2 h3).1 (jc h0 h1 h2 h3).2 h2 (wA (pre:=ju o0++ [32]++(ju o1++ [32])) (post:=ju o3) (by rw[ew];simp) (by simp only[List.length_append,List.length_cons,List.length_nil,dc h0,dc h1];omega)) (by have:=wQ h0 h1 h2 h3 o3;omega) hn hd
theorem lk3:Hk.Ok (bs w.params w.params) w os hdp (x6 (vC o0 o1 o2 o3) (0+(dl o0+1)+(dl o1+1)+(dl o2+1)) (dl o3) ⟨⟨[o3]⟩⟩ w.params slots):=
 OU w os (p:=0+(dl o0+1)+(dl o1+1)+(dl o2+1)) (gr h0 h1 h2 h3) (jc h0 h1 h2 h3).1 (jc h0 h1 h2 h3).2 h3 (wA (pre:=ju o0++ [32]++(ju o1++ [32])++(ju o2++ [32])) (post:=[]) (by rw[ew];simp) (by simp only[List.length_append,List.length_cons,List.length_nil,dc h0,dc h1,dc h2];omega)) rfl hn hd
theorem lk4:Hk.Ok (bs w.params w.params) w os hdp (FJ (vC o0 o1 o2 o3) (0+(dl o0+1)+(dl o1+1)+(dl o2+1)+dl o3) w.params slots):=
 Nk w os (gr h0 h1 h2 h3) (jc h0 h1 h2 h3).1 hn hd
end
noncomputable def Qg(o0 o1 o2 o3:Nat)(t:LN):LV:=[.str ⟨⟨[o0]⟩⟩ (gx t 0),.str ⟨⟨[o1]⟩⟩ (gx t 1),.str ⟨⟨[o2]⟩⟩ (gx t 2),.str ⟨⟨[o3]⟩⟩ (gx t 3)]
noncomputable def Sf(o:Obj):LN:=[bz (o5 o 0),bz (o5 o 1),bz (o5 o 2),bz (o5 o 3)]
section
variable{w:Wd}{os:OS}{hdp dep:Nat}{slots:LN}
theorem vH(a:Str):dx a a=true:=by rw[je];simp
theorem Fb{p:Program}{kt:KT}{a b:Addr}{n m o0 o1 o2 o3:Nat}{t u:LN}{gl:LG}:
 cb (model p w) kt os dep (.call (.builtin "list.__ne__") ⟨[.ref a,.ref b],[]⟩) [a,b] (aL [bu (Qg o0 o1 o2 o3 t) n,bu (Qg o0 o1 o2 o3 u) m] gl 0 fun _=> .ok (.ret (.bool false))):=by
 refine cH PySem.F.slot_list_ne PySem.F.entry_list_ne (PySem.F.args_list_ne_2 _ _) fun s K g l' q nd hk=> ?_
 have ha:s.heap.get? a=some _:=q (a,_) List.mem_cons_self
 have hb:s.heap.get? b=some _:=q (b,_) (List.mem_cons_of_mem _ List.mem_cons_self)
 refine⟨⟨_,ha,rfl⟩,?_⟩
 refine list_neAt a b ⟨Qg o0 o1 o2 o3 t⟩ ⟨Qg o0 o1 o2 o3 u⟩ n m none none #[] #[] rfl (fun _=>true) p w (AG dep) _ s ⟨ha,hb,fun j h1 h2=> ?_,?_⟩
 ·have hj:j<4:=h1
  have key:∀(x:Str)(k l:Nat),EqAt (AG dep).in1 s (.str x k) (.str x l) true:=fun x k l=>by
   have:=r8 (A:=(AG dep).in1) (s:=s) (y:= .str x k) (x:= .str x l) rfl rfl
   have e:zs (.str x k) (.str x l)=true:=vH x
   rwa[e] at this
  match j,hj with
  |0,_=>exact key _ _ _
  |1,_=>exact key _ _ _
  |2,_=>exact key _ _ _
  |3,_=>exact key _ _ _
 ·show fp _ _ _ (.ok (.ret (.bool (!(List.range 4).all fun _=>true)))) _
  exact⟨[],[],rfl,rfl,rfl,b6 K g q _⟩
noncomputable def Ew(o0 o1 o2 o3:Nat)(slots:LN):Hk:=
 ⟨slots,fun ad _ _=> .call (.builtin "list.__ne__") ⟨[.ref (gx ad 0),.ref (gx ad 1)],[]⟩,fun gl _ obs _=>aL [bu (Qg o0 o1 o2 o3 (Sf (gO obs 0))) (bO (gO obs 0)),bu (Qg o0 o1 o2 o3 (Sf (gO obs 1))) (bO (gO obs 1))] gl 0 fun _=> .ok (.ret (.bool false)),aC⟩
theorem GZ{o0 o1 o2 o3:Nat}(hn:slots.Nodup:=by decide):(Ew o0 o1 o2 o3 slots).Ok (bs w.params w.params) w os hdp:=Nj hn (fun _ _ _ _=>rfl) fun gl a b _ _=>Fb
end
end
section
open PySem.SeqAt PySem.MeetsSeq PySem.Calls PyProof.Rows
noncomputable def gL(l:List LN)(i:Nat):LN:=match l with
 |[]=> []
 |x::r=>match i with
  |0=>x
  |i+1=>gL r i
noncomputable def Fx(o0 o1 o2 o3 i:Nat):Nat:=match i with
 |0=>o0
 |1=>o1
 |2=>o2
 |_=>o3
noncomputable def xR(r i k:Nat):Nat:=KA r (gx (gL Q5 i) k)
noncomputable def Vg:List LN:=[[3,2,1,0],[2,3,1,0],[2,1,3,0],[2,1,0,3],[1,3,2,0],[1,2,3,0],[1,2,0,3],[1,0,3,2],[1,0,2,3],[0,3,2,1],[0,2,3,1],[0,2,1,3],[0,1,3,2],[0,1,2,3]]
noncomputable def Qv:List LN:=[[3],[3,2],[3,2,1],[3,2,1,0],[2],[2,3],[2,3,1],[2,3,1,0],[2],[2,1],[2,1,3],[2,1,3,0],[2],[2,1],[2,1,0],[2,1,0,3],[1],[1,3],[1,3,2],[1,3,2,0],[1],[1,2],[1,2,3],[1,2,3,0],[1],[1,2],[1,2,0],[1,2,0,3],[1],[1,0],[1,0,3],[1,0,3,2],[1],[1,0],[1,0,2],[1,0,2,3],[0],[0,3],[0,3,2],[0,3,2,1],[0],[0,2],[0,2,3],[0,2,3,1],[0],[0,2],[0,2,1],[0,2,1,3],[0],[0,1],[0,1,3],[0,1,3,2],[0],[0,1],[0,1,2],[0,1,2,3]]
noncomputable def Mx(o0 o1 o2 o3 j:Nat):Str:=⟨⟨(gL Vg j).map (Fx o0 o1 o2 o3)⟩⟩
noncomputable def WD(o0 o1 o2 o3 j:Nat):Str:=⟨⟨(gL Qv j).map (Fx o0 o1 o2 o3)⟩⟩
noncomputable def Go(o0 o1 o2 o3 k j:Nat):Nat:=Fx o0 o1 o2 o3 (gx (gL [[2,0,1],[3,0,1],[3,0,2],[3,1,2]] k) j)
noncomputable def oy(bb:Nat→Bool):LN:=(List.range 24).filter fun j=> !bb j
noncomputable def uS(r:Nat)(bb:Nat→Bool)(j:Nat):Str:=bM (xR r) (gx (oy bb) j)
noncomputable def rH:Str:=⟨⟨[60,115,116,114,105,110,103,62]⟩⟩
noncomputable def UA(y:Str):Bool:=match y.cps.toList with
 |[_,_]=>true
 |[_,_,_]=>true
 |_=>false
noncomputable def Av:LN→LN→Bool
 |[],_=>true
 |_::_,[]=>false
 |x::a,y::b=>Nat.beq x y&&Av a b
theorem A6:∀a b:LN,Av a b=true↔a<+:b
 |[],b=>by simp[Av]
 |x::a,[]=>by simp[Av]
 |x::a,y::b=>by
  unfold Av
  rw[Bool.and_eq_true,A6 a b,List.cons_prefix_cons]
  simp
theorem SE(x y:Str):jq x y=Av y.cps.toList x.cps.toList:=by
 rw[Bool.eq_iff_iff,A6]
 unfold jq Builtin.Str.subAt
 obtain⟨⟨x⟩⟩:=x
 obtain⟨⟨y⟩⟩:=y
 simp only[Str.length,Bool.and_eq_true,decide_eq_true_eq,beq_iff_eq,Nat.zero_add]
 constructor
 ·rintro⟨_,h⟩
  have h':=congrArg Array.toList h
  simp at h'
  rw[List.prefix_iff_eq_take]
  exact h'.symm
 ·intro h
  refine⟨h.length_le,?_⟩
  have h':=List.prefix_iff_eq_take.mp h
  apply Array.toList_inj.mp
  simp
  exact h'.symm
noncomputable def i5(o0 o1 o2 o3:Nat)(y:LN):Bool:=Vg.any fun w=>Av y (w.map (Fx o0 o1 o2 o3))
structure da(r o0 o1 o2 o3:Nat)(pp:NN)(bb:Nat→Bool):Prop where
 hr:r<5
 s:(w_ o0&&w_ o1&&w_ o2&&w_ o3)=true
 m:((List.range 24).all fun i=>i5 o0 o1 o2 o3 [xR r i 0]&&(i5 o0 o1 o2 o3 [xR r i 0,xR r i 1]==Ai (pp i))&&(i5 o0 o1 o2 o3 [xR r i 0,xR r i 1,xR r i 2]==iH (pp i))&&(i5 o0 o1 o2 o3 [xR r i 0,xR r i 1,xR r i 2,xR r i 3]==iH (pp i)))=true
 hM:(cW pp 24).length=10
 d:((cW pp 24).all fun q=>UA (dh (xR r) pp q)&&(dh (xR r) pp q).cps.toList.all (fun c=>Nat.blt c 128))=true
 as:((List.range 24).all fun i=> [xR r i 0,xR r i 1,xR r i 2,xR r i 3].all (fun c=>Nat.blt c 128))=true
 t:((List.range 24).all fun i=> !((cW pp 24).any fun q=>dx (bS (dh (xR r) pp q)) (dq (xR r) i))&& !dx rH (dq (xR r) i)&&(((cW pp 24).any fun q=>Av (zB (dh (xR r) pp q).cps.toList++ [46]) (dq (xR r) i).cps.toList)==bb i))=true
 tt:((List.range 24).all fun i=>(List.range i).all fun j=> !dx (dq (xR r) j) (dq (xR r) i))=true
 two:((cW pp 24).any fun q=> !dx (bS (dd (xR r) pp 24 0)) (bS (dh (xR r) pp q)))=true
 h:((List.range 4).all fun k=> [Go o0 o1 o2 o3 k 0,Go o0 o1 o2 o3 k 1,Go o0 o1 o2 o3 k 2].all (fun c=>Nat.blt c 128))=true
 h0:((List.range 24).all fun i=>(List.range 4).all fun k=> !Nat.beq (As (xR r i 0) (xR r i 1) (xR r i 2) (xR r i 3) (Go o0 o1 o2 o3 k 0) 0) 0)=true
 hB:((List.range 24).all fun i=>U5 (xR r) (Go o0 o1 o2 o3) i==bb i)=true
 z:iT bb 24=14
 p:∃pm,Fn (Mx o0 o1 o2 o3) 14=some pm∧pm.toList.map (Mx o0 o1 o2 o3)=(List.range 14).map (uS r bb)∧pm.toList.all (fun i=>Nat.blt i 14)=true
noncomputable def oxT:List LN:=[[0,1,2,3],[0,1,3,2],[0,2,1,3],[0,2,3,1],[0,3,1,2],[0,3,2,1],[1,0,2,3],[1,0,3,2],[1,2,0,3],[1,2,3,0],[1,3,0,2],[1,3,2,0],[2,0,1,3],[2,0,3,1],[2,1,0,3],[2,1,3,0],[2,3,0,1],[2,3,1,0],[3,0,1,2],[3,0,2,1],[3,1,0,2],[3,1,2,0],[3,2,0,1],[3,2,1,0]]
noncomputable def ppT:List LN:=[(J [ō3,cI,[1],Ax,[1],fk,[2,1,0]]),(J [[0,0],ec,fk,[2,1],Ax,[1,0]]),(J [dI,[1,2,2,0,0],cI,[1],gz,[1],gz]),(J [ō1,gB,[2,2],bP,ō1,gz,bP]),(J [ō2,vJ,ō1,gz,[1],gz,ō3,[1,0]]),(J [[0],ō6,[2,2,1],fk,[2],cI,bP]),(J [ō3,ec,gz,[0,1],gN,[0,1]]),(J [[0,0],ec,fk,[2,0],vJ,[0,1]]),(J [[2,2,0,0],q5,cI,[1,1],fk,[2]]),(J [gN,[1,0],cI,cI,[1],Ax]),(J [[2,2],q5,ō1,[1],fk,[2,0,0],ō2,[1]]),(J [[2,2,1],gz,[0],ō6,[1],Ax,cI]),(J [dI,vJ,[0],ō6,[1],gz,[0,1,2,2]]),(J [ō1,gB,[2,2,0],dQ,ō3,[1,2,2]]),(J [[0,0,2,2,0],cI,cI,nK,gN]),(J [gN,[0,1],ec,ō3,vJ]),(J [[1],Ax,[1],fk,[2],ō2,ec]),(J [[1],fk,[2,1],gz,ō2,cI,ō6]),(J [ō2,cI,[1],gN,[0,1,2,2],ō3,[1,0]]),(J [[0],ō6,[2,2,0,1,2,2],ō2,[1,2,2,0,0],bP]),(J [ō2,[1,2,2],ō2,bP,[1],gN,dI,[1]]),(J [[2,2,0,1,2,2,0],ec,[2,2],cI]),(J [[0],vJ,[0,1],gN,ō2,ec]),(J [[0,1],gN,[0],vJ,[0],cI,ō6])]
noncomputable def bbT:List LN:=[(J [ō3,cI,nK,ō1,qd,[1,0]]),(J [[0,0],ec,i6,nK,ō1,[1,0]]),(J [dI,[1,1],dQ,ō2,eq,eq]),(J [cI,iz,bP,ō1,ō4,bP]),(J [ō2,rh,ō1,ō4,nK,ō6,[1,0]]),(J [[0],ō6,[1,1],qd,cI,bP]),(J [ō3,ec,ō4,i6,nK]),(J [[0,0],ec,i6,[0],rh,[0,1]]),(J [[1],dQ,ō3,cI,[1,1],i6]),(J [iz,[1,0],cI,cI,nK,ō1]),(J [[1,1],q5,ō1,eq,[1],cI,[1]]),(J [[1,1],eq,[0],ō6,nK,dQ,ō2]),(J [dI,rh,[0],ō6,eq,pQ]),(J [cI,iz,[0],dQ,ō3,[1,1,1]]),(J [[0,0,1,1,0],cI,cI,eq,[1,1,1]]),(J [iz,[0,1],ec,ō3,rh]),(J [nK,ō1,eq,[1],bP,ec]),(J [qd,nK,bP,cI,ō6]),(J [ō2,cI,iz,eq,ō6,[1,0]]),(J [[0],ō6,[1,1],Cy,Cy,bP]),(J [ō2,[1,1],bP,ō1,i6,cI,[1]]),(J [[1,1],ō4,[1,0],ec,[1,1],cI]),(J [[0],rh,i6,bP,ec]),(J [i6,[1,0],rh,[0],cI,ō6])]
noncomputable def oT(r e k:Nat):Nat:=KA r (gx (gL oxT e) k)
noncomputable def Yv(e i:Nat):Nat:=gx (gL ppT e) i
noncomputable def Uq(e i:Nat):Bool:=Nat.beq (gx (gL bbT e) i) 1
noncomputable def UG(r o0 o1 o2 o3:Nat)(bb:Nat→Bool):Bool:=match Fn (Mx o0 o1 o2 o3) 14 with
 |none=>false
 |some pm=>decide (pm.toList.map (Mx o0 o1 o2 o3)=(List.range 14).map (uS r bb))&&pm.toList.all (fun i=>Nat.blt i 14)
noncomputable def Sl(r o0 o1 o2 o3:Nat)(pp:NN)(bb:Nat→Bool):Bool:=
 ((w_ o0&&w_ o1&&w_ o2&&w_ o3)&&
 ((List.range 24).all fun i=>i5 o0 o1 o2 o3 [xR r i 0]&&(i5 o0 o1 o2 o3 [xR r i 0,xR r i 1]==Ai (pp i))&&(i5 o0 o1 o2 o3 [xR r i 0,xR r i 1,xR r i 2]==iH (pp i))&&(i5 o0 o1 o2 o3 [xR r i 0,xR r i 1,xR r i 2,xR r i 3]==iH (pp i)))&&
 Nat.beq (cW pp 24).length 10&&
 ((cW pp 24).all fun q=>UA (dh (xR r) pp q)&&(dh (xR r) pp q).cps.toList.all (fun c=>Nat.blt c 128))&&
 ((List.range 24).all fun i=> [xR r i 0,xR r i 1,xR r i 2,xR r i 3].all (fun c=>Nat.blt c 128)))
noncomputable def Ud(r:Nat)(pp:NN)(bb:Nat→Bool):Bool:=
 (((List.range 24).all fun i=> !((cW pp 24).any fun q=>dx (bS (dh (xR r) pp q)) (dq (xR r) i))&& !dx rH (dq (xR r) i)&&(((cW pp 24).any fun q=>Av (zB (dh (xR r) pp q).cps.toList++ [46]) (dq (xR r) i).cps.toList)==bb i))&&
 ((cW pp 24).any fun q=> !dx (bS (dd (xR r) pp 24 0)) (bS (dh (xR r) pp q))))
noncomputable def aal(r:Nat):Bool:=(List.range 24).all fun i=>(List.range i).all fun j=> !dx (dq (xR r) j) (dq (xR r) i)
noncomputable def Rs(r o0 o1 o2 o3:Nat)(bb:Nat→Bool):Bool:=
 (((List.range 4).all fun k=> [Go o0 o1 o2 o3 k 0,Go o0 o1 o2 o3 k 1,Go o0 o1 o2 o3 k 2].all (fun c=>Nat.blt c 128))&&
 ((List.range 24).all fun i=>(List.range 4).all fun k=> !Nat.beq (As (xR r i 0) (xR r i 1) (xR r i 2) (xR r i 3) (Go o0 o1 o2 o3 k 0) 0) 0)&&
 ((List.range 24).all fun i=>U5 (xR r) (Go o0 o1 o2 o3) i==bb i)&&
 Nat.beq (iT bb 24) 14)
end
section
open PySem.SeqAt PySem.MeetsSeq PySem.Calls PyProof.Rows
noncomputable def ia(M:Model)(kt:KT)(os:OS)(dep:Nat)(c:Code)(ad:LA)(S:Spec)(k:Nat)(offs:LN):Prop:=
 ∀s,KH kt os s→s.gens=⟨S.gl⟩→ad.length=S.pre.length→(∀p∈ad.zip S.pre,s.heap.get? p.1=some p.2)→ad.Nodup→(∀a∈ad,∀o,kt.get a≠some o)→
  codeAny M (AG dep) c (fun r s'=>r=S.rv (offs.map (s.toks+·))∧hO s s' (ad.zip (S.post.map (· (offs.map (s.toks+·))))) [] S.gl'∧s'.toks=s.toks+k) s
section
variable{B:Bs}{w:Wd}{os:OS}
noncomputable def Hk.OkX(B:Bs)(w:Wd)(os:OS)(hdp:Nat)(h:Hk)(k:Nat)(offs:LN):Prop:=
 h.slots.Nodup∧∀gl ad obs c,(h.spec gl ad obs c).news=[]∧(h.spec gl ad obs c).nt=offs.length∧ia (model B.prog w) B.kt os hdp (h.code ad obs c) ad (h.spec gl ad obs c) k offs
noncomputable def aM(h:Hk)(k:Nat)(offs:LN):HkU:=fun c' κ T m sg tb ti gl xl=>
 (fun(ad:LN)(obs:LL)(ts:LN)=>(fun(S:Spec)=> .cod c' (h.code ad obs c') (.gls gl S.gl (.nat h.slots.length S.pre.length (.nat h.slots.length S.post.length (xh h.slots S.pre T
  (.need fun N=>κ (S.rv ts) (gQ (h.slots.zip (S.post.map (· ts))) T) m ((m,N)::d7 [] m sg) tb (ti+k) S.gl' xl)))))) (h.spec gl ad obs c')) (h.slots.map (bx sg)) (cw T h.slots) (offs.map (tb+ti+·))
theorem mF:∀{n:Nat}{f:LN→Out},(∀l:LN,l.length=n→bV (f l))→bV (yW n f)
 |0,f,h=>h [] rfl
 |n+1,f,h=>fun a=>mF fun l hl=>h (a::l) (by simp[hl])
theorem x9:∀{js:LN}{bs:LL}{T:BT}{o o':Out},(bV o→bV o')→bV (xh js bs T o)→bV (xh js bs T o')
 |[],_,_,_,_,h,H=>h H
 |_::_,[],_,_,_,_,H=>False.elim H
 |j::js,b::bs,T,o,o',h,H=>by
  unfold xh at H⊢
  split at H
  ·exact⟨H.1,x9 h H.2⟩
  ·exact False.elim H
open Classical in
theorem ag{gh:LN→List (Addr×Obj)}{hdp:Nat}{h:Hk}{k:Nat}{offs:LN}(ok:h.OkX B w os hdp k offs):HkU.Ok B gh w os hdp (aM h k offs):=by
 intro ys h₀ c' κ T m sg tb ti gl xl s H D hg
 obtain⟨cy,hall⟩:=ok
 unfold aM at H
 dsimp only at H
 obtain⟨hnews,hnt,hsum⟩:=hall gl (h.slots.map (bx sg)) (cw T h.slots) c'
 generalize h.spec gl (h.slots.map (bx sg)) (cw T h.slots) c'=S at*
 have hcore:bV (ov h.slots c' (h.code (h.slots.map (bx sg)) (cw T h.slots) c') S (fun _=> []) (fun l T' m' sg' tb' ti' gl' xl'=>if(l=offs.map (tb+ti+·)∧tb'=tb+(ti+k)∧ti'=0) then κ (S.rv l) T' m' sg' tb (ti+k) gl' xl' else .done) T m sg tb ti gl xl):=by
  obtain⟨h1,h2,h3,h4,h5⟩:=H
  refine⟨h1,h2,h3,h4,x9 (fun h6=> ?_) h5⟩
  rw[hnews]
  refine mF fun as ha=>mF fun ts' hts N tb'=> ?_
  have:as=[]:=List.length_eq_zero_iff.mp ha
  subst this
  show bV (ite _ _ _)
  split
  ·rename_i hh
   rw[show([]:LN)++ts'=ts' from rfl] at hh⊢
   rw[hh.1]
   exact h6 N
  ·trivial
 obtain⟨hc,hgl,h1,h2,h3,h4⟩:=cL cy hcore D
 have z:=hsum s (gM D hg) (hgl▸D.gens) h1 h2 h3 h4
 rw[←hc] at z
 intro Γ p hΓ hb
 obtain⟨r,s',hr,hrr,E,htk⟩:=z Γ p hΓ hb
 have ht:s.toks=tb+ti:=D.toks
 rw[ht] at hrr E
 obtain⟨T',m',sg',gl',K,D',g',_⟩:=qG cy hcore D (as:=[]) (ts:=offs.map (tb+ti+·)) (by rw[hnews];rfl) (by rw[hnt];simp) (by rw[hnews];exact E)
 have e1:s'.toks=tb+(ti+k):=by rw[htk,ht];omega
 rw[if_pos ⟨rfl,e1,rfl⟩] at K
 refine⟨r,s',hr,T',m',sg',tb,ti+k,gl',xl,by rw[hrr];exact K,⟨D'.size,D'.seg,D'.own,D'.inj,D'.ktH,D'.keep,D'.low,e1,D'.gens,D'.os,D'.gho,D.tkb⟩,g'⟩
end
end
section
open PySem.SeqAt PySem.MeetsSeq PySem.Calls PyProof.Rows PySem.Builtin PySem.Builtin.Str
noncomputable def PX(S:Spec)(ad:LA)(s:Ś)(k:Nat)(offs:LN)(r:Re)(s':Ś):Prop:=r=S.rv (offs.map (s.toks+·))∧hO s s' (ad.zip (S.post.map (· (offs.map (s.toks+·))))) [] S.gl'∧s'.toks=s.toks+k
section
variable{p:Program}{w:Wd}{kt:KT}{os:OS}{dep:Nat}
theorem fZ{T id:String}{name:Str}{b:Builtin}(sl:Slot T name id)(en:entryFor table id=some b){self:Vl}{rest:LV}
 (ar:argsOk id ⟨self::rest,[]⟩){ad:LA}{S:Spec}{k:Nat}{offs:LN}
 (h:∀s,KH kt os s→s.gens=⟨S.gl⟩→(∀q∈ad.zip S.pre,s.heap.get? q.1=some q.2)→
  s.TypeIs self T∧wpAny (model p w) (AG dep).in1 (b ⟨self::rest,[]⟩) (fun fin s'=>match fin with
   | .done f=>PX S ad s k offs (.ok f) s'
   | .again c'=>c'.quiet=true∧codeAny (model p w) (AG dep) c' (PX S ad s k offs) s') (fun e s'=>PX S ad s k offs (.error e) s') s):
 ia (model p w) kt os dep (.call (.builtin id) ⟨self::rest,[]⟩) ad S k offs:=by
 intro s K g l q n hk
 obtain⟨ht,hw⟩:=h s K g q
 exact codeAny_call_builtin sl.plain en (sl.check _ _ _ _ _ _ _ _ ht ar hw)
theorem eL{s:Ś}(K:KH kt os s){gl:LG}(g:s.gens=⟨gl⟩){ad:LA}{obs:LL}(q:∀p∈ad.zip obs,s.heap.get? p.1=some p.2)(k nt:Nat)(offs:LN)(rv:LN→Re):
 PX (aL obs gl nt rv) ad s k offs (rv (offs.map (s.toks+·))) {s with toks:=s.toks+k}:=⟨rfl,b6 K g q _ (Nat.le_add_right _ _),rfl⟩
theorem EB{x y:Int}{t u:Tok}{b:Bool}{gl:LG}(h:decide (x<y)=b):
 ia (model p w) kt os dep (.call (.builtin "int.__lt__") ⟨[.int x t,.int y u],[]⟩) [] (aL [] gl 0 fun _=> .ok (.ret (.bool b))) 0 []:=by
 subst h
 refine fZ slot_int_lt entry_int_lt (args_int_lt _ _) fun s K g q=>⟨typeIs_int s x t,?_⟩
 exact AutoIntG1.int___lt___int_int_0 x t y u p w (AG dep) (PX (aL [] gl 0 fun _=> .ok (.ret (.bool (decide (x<y))))) [] s 0 []) s (by
  have:=eL K g q 0 0 [] (fun _=> .ok (.ret (.bool (decide (x<y)))))
  exact this)
theorem FH{x y:Int}{t u:Tok}{b:Bool}{gl:LG}(h:decide (x≥y)=b):
 ia (model p w) kt os dep (.call (.builtin "int.__ge__") ⟨[.int x t,.int y u],[]⟩) [] (aL [] gl 0 fun _=> .ok (.ret (.bool b))) 0 []:=by
 subst h
 refine fZ PySem.F.slot_int_ge PySem.F.entry_int_ge (PySem.F.args_int_ge_2 _ _) fun s K g q=>⟨typeIs_int s x t,?_⟩
 exact AutoIntG9.int___ge___int_int_0 x t y u p w (AG dep) (PX (aL [] gl 0 fun _=> .ok (.ret (.bool (decide (x≥y))))) [] s 0 []) s (by
  have:=eL K g q 0 0 [] (fun _=> .ok (.ret (.bool (decide (x≥y)))))
  exact this)
theorem E7{x:Str}{t u:Tok}{k c:Nat}{gl:LG}(hx:x.cps.toList[k]? =some c)(hz:x.length≤2^20):
 ia (model p w) kt os dep (.call (.builtin "str.__getitem__") ⟨[.str x t,.int (Int.ofNat k) u],[]⟩) [] (aL [] gl 1 fun l=> .ok (.ret (.str ⟨⟨[c]⟩⟩ (gx l 0)))) 1 [0]:=by
 refine fZ PySem.F.slot_str_getitem PySem.F.entry_str_getitem (PySem.F.args_str_getitem_2 _ _) fun s K g q=>⟨typeIs_str s x t,?_⟩
 have qs:k<x.length:=(List.getElem?_eq_some_iff.mp hx).1
 refine gives_str_getitem x (Int.ofNat k) t u c ?_ ?_ p w (AG dep) (PX (aL [] gl 1 fun l=> .ok (.ret (.str ⟨⟨[c]⟩⟩ (gx l 0)))) [] s 1 [0]) s ⟨by show 1≤sizeLine;rw[sizeLine_eq];decide,?_⟩
 ·have h1:¬((Int.ofNat k)< -(2^63:Int)):=by have:=Int.natCast_nonneg k;show ¬((k:Int)<_);omega
  have h2:¬((Int.ofNat k)≥2^63):=by show ¬((k:Int)≥_);omega
  rw[decide_eq_false h1,decide_eq_false h2];rfl
 ·have e:seqIndex? (Int.ofNat k) x.length=some k:=by
   unfold seqIndex?
   have h0:¬((k:Int)<0):=by omega
   simp[h0]
   omega
  rw[e]
  show x.cps[k]? =some c
  rw[←Array.getElem?_toList];exact hx
 ·have:=eL K g q 1 1 [0] (fun l=> .ok (.ret (.str ⟨⟨[c]⟩⟩ (gx l 0))))
  exact this
theorem D8{a:Addr}{x:Str}{t t1 t2:Tok}{k c:Nat}{gl:LG}(hx:x.cps.toList[k]? =some c)(h2:2≤x.length):
 ia (model p w) kt os dep (.call (.builtin "str.__getitem__") ⟨[.str x t,.ref a],[]⟩) [a] (aL [za (.int (Int.ofNat k) t1) (.int (Int.ofNat (k+1)) t2) .none] gl 1 fun l=> .ok (.ret (.str ⟨⟨[c]⟩⟩ (gx l 0)))) 1 [0]:=by
 refine fZ PySem.F.slot_str_getitem PySem.F.entry_str_getitem (PySem.F.args_str_getitem_2 _ _) fun s K g q=> ?_
 have hs:s.heap.get? a=some _:=q (a,_) List.mem_cons_self
 refine⟨typeIs_str s x t,?_⟩
 have qs:k<x.cps.toList.length:=(List.getElem?_eq_some_iff.mp hx).1
 have hlen:x.length=x.cps.toList.length:=rfl
 have hpk:(slicePicked x (some (Int.ofNat k,t1)) (some (Int.ofNat (k+1),t2)) none).filterMap (x.cps[·]?)=[c]:=by
  show(strSliceIndices (some ((k:Nat):Int)) (some ((k+1:Nat):Int)) 1 x.length).filterMap (x.cps[·]?)=[c]
  rw[StrLaws.sliced_plain x (by omega) (by omega)]
  have:k+1 -k=1:=by omega
  rw[this,List.drop_eq_getElem_cons qs,List.take_succ_cons,List.take_zero]
  have:=(List.getElem?_eq_some_iff.mp hx).2
  rw[this]
 have hmade:sliceMade x t (some (Int.ofNat k,t1)) (some (Int.ofNat (k+1),t2)) none= .str ⟨⟨[c]⟩⟩:=by
  unfold sliceMade
  rw[hpk]
  rw[if_neg]
  intro hh
  have h1:(slicePicked x (some (Int.ofNat k,t1)) (some (Int.ofNat (k+1),t2)) none).length=x.length:=by simpa using hh
  have h3:slicePicked x (some (Int.ofNat k,t1)) (some (Int.ofNat (k+1),t2)) none=strSliceIndices (some ((k:Nat):Int)) (some ((k+1:Nat):Int)) 1 x.length:=rfl
  rw[h3,StrLaws.strSliceIndices_plain (by omega) (by omega)] at h1
  simp at h1
  omega
 refine meets_str_getitem_slice x t a (some (Int.ofNat k,t1)) (some (Int.ofNat (k+1),t2)) none rfl p w (AG dep) (PX (aL [za (.int (Int.ofNat k) t1) (.int (Int.ofNat (k+1)) t2) .none] gl 1 fun l=> .ok (.ret (.str ⟨⟨[c]⟩⟩ (gx l 0)))) [a] s 1 [0]) s ⟨⟨_,hs,rfl,rfl⟩,?_⟩
 rw[hmade]
 exact⟨by show 1≤sizeLine;rw[sizeLine_eq];decide,by
  have:=eL K g q 1 1 [0] (fun l=> .ok (.ret (.str ⟨⟨[c]⟩⟩ (gx l 0))))
  exact this⟩
theorem CB{a:Addr}{n:Nat}{xs:LV}{v:Vl}{gl:LG}(hz:xs.length≤1000):
 ia (model p w) kt os dep (.builtin "list.append" ⟨[.ref a,v],[]⟩) [a] {pre:=[bu xs n],post:=[fun _=>bu (xs++ [v]) (n+1)],news:=[],nt:=0,rv:=fun _=> .ok (.ret .none),gl,gl':=gl} 0 []:=by
 intro s K g l q n' hk
 refine codeAny_builtin F.entry_list_append ?_
 rw[Around.under_plainId BK]
 have ho:s.heap.get? a=some _:=q (a,_) List.mem_cons_self
 unfold Builtin.«list.append»
 show wpAny _ _ (updateSeq a (·.push v)>>=_) _ _ s
 refine wpAny_bind (wpAny_updateSeq ho rfl (wpAny_pure ⟨rfl,iP (nob:=fun _=>bu (xs++ [v]) (n+1)) K g ho [] ?_ (Heap.SameBut.update ..),rfl⟩) (by rw[sizeLine_eq];simp;omega) (by rw[sizeLine_eq];simp;omega))
 rw[Heap.get?_update_self _ ho rfl]
 congr 1
 show Obj.mk _ _ (.seq _ _) _=_
 simp
theorem CK{x:Str}{t:Tok}{L:Nat}{gl:LG}(hx:x.length=L)(hL:L≤2^20):
 ia (model p w) kt os dep (.builtin "len" ⟨[.str x t],[]⟩) [] (aL [] gl 1 fun l=> .ok (.ret (.int (Int.ofNat L) (gx l 0)))) 2 [1]:=by
 intro s K g l' q n' hk
 refine codeAny_builtin entry_len ?_
 rw[Around.under_plainId plain_len]
 unfold Builtin.«len»
 refine wpAny_bind (m:=oneArg "len" _) (wpAny_pure ?_)
 refine wpAny_bind (m:=callSpecial? (.str x t) (Str.ofString "__len__")) (wpAny_callSpecial?_slot (name:=Str.ofString "__len__") (typeIs_str s x t) PySem.F.slot_str_len
  (wpAny_call_entry PySem.F.slot_str_len (typeIs_str s x t) PySem.F.entry_str_len ?_ (PySem.F.args_str_len_1 _)))
 show wpAny _ _ (retInt (x.length:Int)) _ _ s
 unfold retInt
 refine wpAny_bind (wpAny_mkInt (wpAny_pure ⟨_,rfl,?_⟩))
 refine wpAny_bind (wpAny_holding (wpAny_pure ?_))
 refine wpAny_bind (wpAny_letGo ?_)
 rw[hx]
 show wpAny _ _ (if((L:Nat):Int)<0 then _ else _) _ _ _
 rw[if_neg (by omega)]
 show wpAny _ _ (if((L:Nat):Int)≥2^63 then _ else _) _ _ _
 rw[if_neg (by omega)]
 have:=eL K g q 2 1 [1] (fun l=> .ok (.ret (.int (Int.ofNat L) (gx l 0))))
 exact wpAny_bind (wpAny_mkInt (wpAny_pure this))
end
theorem FX{B:Bs}{w:Wd}{os:OS}{hdp:Nat}{h:Hk}{k:Nat}{offs:LN}(hs:h.slots.Nodup)(hn:∀gl ad obs c,(h.spec gl ad obs c).news=[]∧(h.spec gl ad obs c).nt=offs.length)(hl:∀gl ad obs c,(h.spec gl ad obs c).pre.length=0)
 (H:∀gl obs c,ia (model B.prog w) B.kt os hdp (h.code [] obs c) [] (h.spec gl [] obs c) k offs):h.OkX B w os hdp k offs:=
 ⟨hs,fun gl ad obs c=>⟨(hn gl ad obs c).1,(hn gl ad obs c).2,fun s K g l=>by
  have l':=l
  rw[hl] at l'
  obtain rfl:ad=[]:=List.length_eq_zero_iff.mp l'
  exact H gl obs c s K g l⟩⟩
theorem QD{B:Bs}{w:Wd}{os:OS}{hdp:Nat}{h:Hk}{k:Nat}{offs:LN}(hs:h.slots.Nodup)(hn:∀gl ad obs c,(h.spec gl ad obs c).news=[]∧(h.spec gl ad obs c).nt=offs.length)(hl:∀gl ad obs c,(h.spec gl ad obs c).pre.length=1)
 (H:∀gl a obs c,ia (model B.prog w) B.kt os hdp (h.code [a] obs c) [a] (h.spec gl [a] obs c) k offs):h.OkX B w os hdp k offs:=
 ⟨hs,fun gl ad obs c=>⟨(hn gl ad obs c).1,(hn gl ad obs c).2,fun s K g l=>by
  have l':=l
  rw[hl] at l'
  obtain⟨y9,hf9⟩:=J_ l'
  have hf9:ad=[y9 0]:=hf9
  subst hf9
  exact H gl (y9 0) obs c s K g l⟩⟩
noncomputable def aP(x:Str)(k c:Nat)(slots:LN):Hk:=
 ⟨slots,fun _ _ cc=> .call (.builtin "str.__getitem__") ⟨[.str x (bz (b_ cc 0)),.int (Int.ofNat k) (bz (b_ cc 1))],[]⟩,fun gl _ _ _=>aL [] gl 1 fun l=> .ok (.ret (.str ⟨⟨[c]⟩⟩ (gx l 0))),aC⟩
section
variable{w:Wd}{os:OS}{hdp:Nat}{slots:LN}
theorem bv{x y:Int}{b:Bool}(h:decide (x<y)=b)(hn:slots.Nodup:=by decide):(aK x y b slots).OkX (bs w.params w.params) w os hdp 0 []:=FX hn (fun _ _ _ _=>⟨rfl,rfl⟩) (fun _ _ _ _=>rfl) fun gl obs c=>EB h
theorem fx{x y:Int}{b:Bool}(h:decide (x≥y)=b)(hn:slots.Nodup:=by decide):(cC x y b slots).OkX (bs w.params w.params) w os hdp 0 []:=FX hn (fun _ _ _ _=>⟨rfl,rfl⟩) (fun _ _ _ _=>rfl) fun gl obs c=>FH h
theorem bw{x:Str}{k c:Nat}(hx:x.cps.toList[k]? =some c)(hz:x.length≤2^20)(hn:slots.Nodup:=by decide):(aP x k c slots).OkX (bs w.params w.params) w os hdp 1 [0]:=FX hn (fun _ _ _ _=>⟨rfl,rfl⟩) (fun _ _ _ _=>rfl) fun gl obs c=>E7 hx hz
theorem fy{x:Str}{k c:Nat}(hx:x.cps.toList[k]? =some c)(h2:2≤x.length)(hn:slots.Nodup:=by decide):(cE x k c slots).OkX (bs w.params w.params) w os hdp 1 [0]:=QD hn (fun _ _ _ _=>⟨rfl,rfl⟩) (fun _ _ _ _=>rfl) fun gl a obs c=>D8 hx h2
theorem b9{xs:LV}{n:Nat}{f:Nat→Vl}(hz:xs.length≤1000)(hn:slots.Nodup:=by decide):(aR xs n f slots).OkX (bs w.params w.params) w os hdp 0 []:=QD hn (fun _ _ _ _=>⟨rfl,rfl⟩) (fun _ _ _ _=>rfl) fun gl a obs c=>CB hz
theorem aaz{x:Str}{L:Nat}(hx:x.length=L)(hL:L≤2^20)(hn:slots.Nodup:=by decide):(g8 x L slots).OkX (bs w.params w.params) w os hdp 2 [1]:=FX hn (fun _ _ _ _=>⟨rfl,rfl⟩) (fun _ _ _ _=>rfl) fun gl obs c=>CK hx hL
end
end
section
open PySem.SeqAt PySem.MeetsSeq PySem.Calls PyProof.Rows
noncomputable def I_(o:Obj):List DictEntry:=match o with
 |⟨_,_,d,_⟩=>match d with
  | .dict es _=>es.toList
  |_=> []
noncomputable def RL(e:DictEntry):Bool:=match e.key with
 | .int k _=>decide (e.hash=hashInt k)
 |_=>false
noncomputable def Z6(v:Vl)(c:Int):Bool:=match v with
 | .int k _=>decide (k=c)
 |_=>false
noncomputable def pR(c:Int):List DictEntry→Vl
 |[]=> .none
 |e::l=>match Z6 e.key c with
  |true=>e.val
  |false=>pR c l
noncomputable abbrev oC(P:Pm):Obj:=fG
theorem Ii(P:Pm):(bD P).get 155=some (oC P):=by kernel_rfl
theorem G5(P:Pm):oC P=⟨.type "dict",none,.dict ⟨I_ (oC P)⟩ (bO (oC P)),#[]⟩:=by kernel_rfl
theorem CV(P:Pm):(I_ (oC P)).all RL=true:=by kernel_rfl
theorem Cc(P:Pm):pR 45 (I_ (oC P))= .str ⟨⟨[92,45]⟩⟩ 585:=by kernel_rfl
theorem Cg(P:Pm):pR 93 (I_ (oC P))= .str ⟨⟨[92,93]⟩⟩ 549:=by kernel_rfl
theorem xG(c:Int):∀(l:List DictEntry)(v:Vl),pR c l=v→v≠.none→(l.find? fun e=>Value.isInt c e.key).map (·.val)=some v
 |[],v,h,hv=>absurd h.symm hv
 |e::l,v,h,hv=>by
  have e1:Z6 e.key c=Value.isInt c e.key:=by
   cases hk:e.key with
   |int k t=>show decide (k=c)=(k==c);by_cases h:k=c<;>simp[h]
   |_=>rfl
  rw[List.find?_cons,←e1]
  unfold pR at h
  cases hq:Z6 e.key c with
  |true=>rw[hq] at h;exact congrArg some h
  |false=>rw[hq] at h;exact xG c l v h hv
section
variable{w:Wd}{os:OS}{dep:Nat}
theorem FV{c:Int}{t:Tok}{v:Vl}{gl:LG}(h:pR c (I_ (oC w.params))=v)(hv:v≠.none):
 ia (model TW w) (bD w.params) os dep (.call (.builtin "dict.__getitem__") ⟨[.ref 155,.int c t],[]⟩) [] (aL [] gl 0 fun _=> .ok (.ret v)) 1 []:=by
 refine fZ F.slot_dict_getitem F.entry_dict_getitem (args_dict_getitem _ _) fun s K g q=> ?_
 have ho:s.heap.get? 155=some _:=K.kt 155 _ (Ii w.params)
 rw[G5] at ho
 refine⟨⟨_,ho,rfl⟩,?_⟩
 have hm:s.heap.IntMap 155 (fun k=>findBy Value.isInt (⟨I_ (oC w.params)⟩:Array DictEntry) k):=by
  refine⟨_,_,_,ho,rfl,rfl,fun e he=> ?_,fun _=>rfl⟩
  have hq:=List.all_eq_true.mp (CV w.params) e (by simpa using he)
  unfold RL at hq
  split at hq
  ·rename_i k t hk
   exact⟨k,t,hk,of_decide_eq_true hq⟩
  ·cases hq
 show wpAny _ _ (dictGet 155 (.int c t)>>=_) _ _ s
 refine wpAny_bind (wpAny_dictGet_int hm ?_)
 have e:findBy Value.isInt (⟨I_ (oC w.params)⟩:Array DictEntry) c=some v:=by
  have:=xG c (I_ (oC w.params)) v h hv
  unfold findBy
  simpa using this
 rw[e]
 exact wpAny_pure (eL K g q 1 0 [] (fun _=> .ok (.ret v)))
noncomputable def xP(c:Int)(v:Vl)(slots:LN):Hk:=
 ⟨slots,fun _ _ cc=> .call (.builtin "dict.__getitem__") ⟨[.ref 155,.int c (bz (b_ cc 1))],[]⟩,fun gl _ _ _=>aL [] gl 0 fun _=> .ok (.ret v),aC⟩
theorem Iw{c:Int}{v:Vl}{hdp:Nat}{slots:LN}(h:pR c (I_ (oC w.params))=v)(hv:v≠.none)(hn:slots.Nodup:=by decide):(xP c v slots).OkX (bs w.params w.params) w os hdp 1 []:=FX hn (fun _ _ _ _=>⟨rfl,rfl⟩) (fun _ _ _ _=>rfl) fun gl obs c=>FV h hv
theorem zL{p:Program}{kt:KT}{a:Addr}{n:Nat}{dd:Option Addr}{sl:Array (Option Vl)}{xs:Array Vl}{x:Vl}{gl:LG}(hx:eg x=true)(hi:∀y∈xs.toList,eg y=true):
 ia (model p w) kt os dep (.call (.builtin "tuple.__contains__") ⟨[.ref a,x],[]⟩) [a] (aL [⟨.type "tuple",dd,.seq xs n,sl⟩] gl 0 fun _=> .ok (.ret (.bool (cG x xs.toList)))) 0 []:=by
 refine fZ slot_tuple_contains entry_tuple_contains (args_tuple_contains _ _) fun s K g q=> ?_
 have ho:s.heap.get? a=some _:=q (a,_) List.mem_cons_self
 refine⟨⟨_,ho,rfl⟩,?_⟩
 refine tuple_containsAt a xs _ dd sl x (fun y=>zs y x) p w (AG dep) _ s ⟨ho,fun y hy=>r8 (hi y (by simpa using hy)) hx,?_⟩
 have e:xs.any (fun y=>zs y x)=cG x xs.toList:=by rw[iq,Array.any_toList]
 rw[e]
 exact eL K g q 0 0 [] (fun _=> .ok (.ret (.bool (cG x xs.toList))))
theorem mA{M:Model}{kt:KT}{c:Code}{ad:LA}{k:Nat}{offs:LN}:ia M kt os dep c ad (jw ad) k offs:=by
 intro s K g l
 have:ad.length=ad.length+1:=by
  rw[show(jw ad).pre.length=ad.length+1 by simp[jw]] at l
  exact l
 omega
theorem jU{hdp:Nat}{slots:LN}(hn:slots.Nodup:=by decide):(ca slots).OkX (bs w.params w.params) w os hdp 0 []:=⟨hn,fun gl ad obs c=>by
 show(MR "tuple" gl ad (gO obs 0) (b_ c 1)).news=[]∧(MR "tuple" gl ad (gO obs 0) (b_ c 1)).nt=0∧ia _ _ _ _ (.call (.builtin "tuple.__contains__") ⟨[.ref (gx ad 0),b_ c 1],[]⟩) ad (MR "tuple" gl ad (gO obs 0) (b_ c 1)) 0 []
 unfold MR
 split
 split
 ·split
  ·rename_i hx
   split
   ·rename_i hi
    refine⟨rfl,rfl,?_⟩
    intro s K g l
    have l':ad.length=1:=l
    obtain⟨y9,hf9⟩:=J_ l'
    have hf9:ad=[y9 0]:=hf9
    subst hf9
    exact zL hx (jW hi) s K g l
   ·exact⟨rfl,rfl,mA⟩
  ·exact⟨rfl,rfl,mA⟩
 ·exact⟨rfl,rfl,mA⟩⟩
end
end
section
open PySem.SeqAt PySem.MeetsSeq PySem.Calls PyProof.Rows
noncomputable def bI(M:Model)(kt:KT)(os:OS)(dep:Nat)(c:Code)(ad:LA)(S:Spec)(c₂:Code):Prop:=
 ∀s R,KH kt os s→s.gens=⟨S.gl⟩→ad.length=S.pre.length→(∀p∈ad.zip S.pre,s.heap.get? p.1=some p.2)→ad.Nodup→(∀a∈ad,∀o,kt.get a≠some o)→
  (∀s' l,l.length=S.nt→s.toks≤s'.toks→(∀j,0<j→j<S.nt→s.toks≤gx l j)→hO s s' (ad.zip (S.post.map (· l))) [] S.gl'→codeAny M (AG dep) c₂ R s')→
  codeAny M (AG dep) c R s
section
variable{B:Bs}{w:Wd}{os:OS}
noncomputable def TO(U:Us)(fct:List (Nat×Nat))(ad:LA)(S:Spec)(c₂:Code)(tb0 k:Nat)(offs:LN)(mx:BT→Nat):Ex:=
 ⟨fun _ _=>aO 87,fun c' o T m sg tb ti gl xl=> .cod c' c₂ (.nat (tb+ti) (tb0+k) (pW (List.range ad.length) ad {S with rv:=fun _=> .ok .next} [] (fun _ _ _=>mx T::offs.map (tb0+·)) (.ok .next) o T m sg tb ti gl xl)),eO U.hs,g6 U.ks,xK,U.sam,fct,i8,U.fa,U.fb,none,U.f3⟩
theorem BG(b:Nat):∀(l:LN)(j:Nat),j<l.length→b≤gx (l.map (b+·)) j
 |x::l,0,_=>Nat.le_add_right _ _
 |x::l,j+1,h=>BG b l j (by simpa using h)
theorem ax(W:iY B w){dep hdp:Nat}{U:Us}(hU:U.Ok B xK w os dep hdp){c:Code}{ad:LA}{S:Spec}{c₂:Code}(k:Nat)(offs:LN)(mx:BT→Nat)(n:Nat)(ora:LN)
 (h1:Nat.beq ad.length S.post.length=true:=by exact rfl)(h2:S.news=[])
 (run:bV (.need fun N=> .need fun tb=> .pos fun p=>bY (cf B dep hdp (TO U (U.fc tb) ad S c₂ tb k offs mx)) n ora c p [] (B.den c) (cA S.pre .nil 0) ad.length ((ad.length,N)::d7 ad 0 []) tb 0 S.gl []):=by refine bm ?_;kernel_rfl):bI (model B.prog w) B.kt os dep c ad S c₂:=by
 intro s R K hgl hl hp cy hkt next
 have D:=cB K (ys:=ad) (obs:=S.pre) hl hp cy hkt
 have e:s.gens.toList=S.gl:=by rw[hgl]
 rw[e] at D
 have hg:∀x∈S.gl,dp x:=by have:=K.gok;rwa[e] at this
 refine cj (e:=TO U (U.fc s.toks) ad S c₂ s.toks k offs mx) (xl:=[]) (R:=R) W (cP hU.hs) (dM hU.ks) (hU.fc _) rfl hU.f3 hU.fa hU.fb (fun _ _ _ _ _ _ _ _ _ _ _ _ H=>False.elim H) (fun _ _ _ _ _ _ _ _ _ _ H=>False.elim H)
  (fun c' ora T m sg tb ti gl xl s' H D hg' _=> ?_) (run s.heap.objs.size s.toks) D hg
 obtain⟨hc,htk,H⟩:=H
 have hlen:(mx T::offs.map (s.toks+·)).length=S.nt:=H.1
 obtain⟨as,ts,ha,ht,hv,E⟩:=im (S:={S with rv:=fun _=> .ok .next}) (ora:=ora) (xl:=xl) (by simpa using List.nodup_range) (by simp) (Nat.eq_of_beq_eq_true h1).symm (by show([]:LN).length=S.news.length;rw[h2];rfl) hg' K.os H D
 have ha':as.length=0:=by rw[ha];show S.news.length=0;rw[h2];rfl
 have:as=[]:=List.length_eq_zero_iff.mp ha'
 subst this
 have hv2:([]:LN).map (bx sg)++(mx T::offs.map (s.toks+·))=[]++ts:=hv.2
 have:ts=mx T::offs.map (s.toks+·):=by simpa using hv2.symm
 subst this
 rw[hc]
 have ht':s'.toks=s.toks+k:=by rw[D.toks,htk]
 refine next s' _ hlen (by omega) (fun j h0 hj=> ?_) ?_
 ·obtain⟨j,rfl⟩:∃i,j=i+1:=⟨j -1,by omega⟩
  show s.toks≤gx (offs.map (s.toks+·)) j
  refine BG _ _ _ ?_
  rw[←hlen] at hj
  simpa using hj
 ·have E':hO s s' (ad.zip (S.post.map (· ([]++(mx T::offs.map (s.toks+·)))))) (([]:LN).zip (S.news.map (· ([]++(mx T::offs.map (s.toks+·)))))) S.gl':=E
  rw[h2] at E'
  exact E'
end
theorem Ft{e z:Str}{t u:Tok}(h1:e≠z)(h2:t≠u)(h3:t≠0)(h4:u≠0):isSame (.str e t) (.str z u)= .pure false:=by
 show isSame.created (e==z) t u=_
 unfold isSame.created
 have e1:(e==z)=false:=by simpa using h1
 have e2:(t==u)=false:=by simpa using h2
 have e3:(t==0)=false:=by simpa using h3
 have e4:(u==0)=false:=by simpa using h4
 rw[e1,e2,e3,e4]
 rfl
noncomputable def ua:Str:=⟨⟨[81,85,69,83,84,73,79,78,95,77,65,82,75]⟩⟩
noncomputable def UI:Str:=⟨⟨[83,84,65,82]⟩⟩
noncomputable def Xa:Str:=⟨⟨[97,100,100]⟩⟩
noncomputable def fu:Str:=⟨⟨(J [[95,116,114,97,110,115,108,97,116,101],BP])⟩⟩
noncomputable def YB:Str:=⟨⟨[112,97,116]⟩⟩
noncomputable def ZI:Str:=⟨⟨[114,101,115]⟩⟩
noncomputable def Mu:Str:=⟨⟨[115,116,117,102,102]⟩⟩
noncomputable def TJ(f:Flow):Sem Flow:=match f with
 | .next=> .pure .next
 |f=> .pure f
noncomputable def YD(test:Expr)(body orelse:List Stmt)(env:Env)(f:Flow):Sem Fin:=match f with
 | .next=>PySem.W.Fast.tw12377390311714414960 (.whileLoop test body orelse env)
 | .cont=>PySem.W.Fast.tw12377390311714414960 (.whileLoop test body orelse env)
 | .brk=> .pure (.done .next)
 | .ret v=> .pure (.done (.ret v))
noncomputable def Wv(l r:Vl)(X:Sem Bool):Sem Bool:=
 bd (bd (bd X fun b=> .pure (.bool !b)) fun v=>bd (PySem.W.Fast.tw16427652380498605876 [l,r] [v]) fun(_:Unit)=> .pure v) fun c=>PySem.W.Fast.tw17359229931016689406 [c] (PySem.W.Fast.tw15245631507167962100 c)
noncomputable def Za(X:Sem Bool)(thn els:List Stmt)(test:Expr)(body orelse:List Stmt)(env:Env)(f3:Flow→Sem Flow):Sem Fin:=
 PySem.W.R.onRaiseR (bd (bd (bd (bd (bd X fun b=>match BoolOp.Or,b with| .And,false=> .pure false| .Or,true=> .pure true|_,_=> .pure (BoolOp.Or== .And)) fun b=>if b=true then PySem.W.Fast.tw12563942051412417395 thn env else PySem.W.Fast.tw12563942051412417395 els env)
  TJ) f3) (YD test body orelse env)) fun x=>bd (PySem.W.Fast.tw17872113653443481271 x env) fun(_:Unit)=>PySem.W.Fast.tw1623429502029203251 x
noncomputable def RK(l r:Vl)(c:Code)(X:Sem Bool):Sem Fin:=match c with
 | .whileLoop test body orelse env=>match body with
  |_::_::s::_=>match s with
   | .If _ thn _ _=>match thn with
    |s2::_=>match s2 with
     | .If _ t2 e2 _=>Za (Wv l r X) t2 e2 test body orelse env TJ
     |_=> .pure (.done .next)
    |_=> .pure (.done .next)
   |_=> .pure (.done .next)
  |_=> .pure (.done .next)
 |_=> .pure (.done .next)
noncomputable def bQ(ad:LN):Code:=dW [24,3] {scope:=(c7 [24]),locals:=(gx ad 0),globals:=3,cells:=[],qual:=fu,func:=(some 172),code:=(.ref 171),frame:=(some (gx ad 0)),builtins:=0}
noncomputable def K7(e:Str)(et st:Nat)(ad:LN):Fac:=
 ⟨fun _ _ _=> .at ⟨161,26,161,45⟩ fun _=>RK (.str e et) (.str ⟨⟨[42]⟩⟩ st) (bQ ad) (PySem.W.Fast.tw2518677612232015263 (.str e et) (.str ⟨⟨[42]⟩⟩ st)),fun _ _ _=> .at ⟨161,26,161,45⟩ fun _=>RK (.str e et) (.str ⟨⟨[42]⟩⟩ st) (bQ ad) (.pure false)⟩
theorem mN{e:Str}{et st:Nat}{ad:LN}(h1:e≠⟨⟨[42]⟩⟩)(h2:et≠st)(h3:et≠0)(h4:st≠0):∀F∈[K7 e et st ad],F.l=F.r:=by
 intro F hF
 rw[List.mem_singleton] at hF
 subst hF
 show(fun _ _ _=>_)=(fun _ _ _=>_)
 unfold K7
 dsimp only
 rw[←PySem.W.Fast.te2518677612232015263,Ft h1 h2 h3 h4]
noncomputable abbrev Vm:=Nat×Nat×Nat×Nat×Str×Nat
noncomputable abbrev Sh:=Option (Nat×Nat×Nat×Option Vm)
noncomputable def shR(P:Pm)(sh:Sh):List DictEntry:=match sh with
 |none=> []
 |some k=>D P ⟨⟨[99]⟩⟩ k.1 (.str ⟨⟨[k.2.1]⟩⟩ k.2.2.1)::match k.2.2.2 with
  |none=> []
  |some j=> [D P ⟨⟨[106]⟩⟩ j.1 (.int (Int.ofNat j.2.1) j.2.2.1),D P Mu j.2.2.2.1 (.str j.2.2.2.2.1 (j.2.2.2.2).2)]
noncomputable def fz(P:Pm)(ad:LN)(t:NN)(X:Str)(k kt n:Nat)(sh:Sh)(e:Nat):Obj:=
 O (.type "frame") none (.dict ⟨D P YB (t 0) (.str X (t 1))::D P UI (t 2) (.str ⟨⟨[42]⟩⟩ (t 3))::D P ua (t 4) (.str ⟨⟨[46]⟩⟩ (t 5))::D P ZI (t 6) (.ref (gx ad 1))::D P Xa (t 7) (.ref (gx ad 2))::D P ⟨⟨[110]⟩⟩ (t 8) (.int (Int.ofNat n) (t 9))::D P ⟨⟨[105]⟩⟩ (t 10) (.int (Int.ofNat k) kt)::shR P sh⟩ e) ⟨[]⟩
noncomputable def cT(P:Pm)(ad:LN)(t:NN)(X:Str)(k kt n:Nat)(sh:Sh)(e:Nat)(A:LV)(na:Nat):LL:=
 [fz P ad t X k kt n sh e,bu A na,(O (.type "builtin_function_or_method") none (.fields ⟨[.builtin "list.append",.ref (gx ad 1)]⟩) ⟨[]⟩)]
noncomputable def bE(m:Nat):Obj:=match m with
 |0=>O .none none (.fields ⟨[]⟩) ⟨[]⟩
 |a+1=>O .none none (.fields ⟨[.int 199 0,.int 46 0,.ref a]⟩) ⟨[]⟩
noncomputable def a_(c:Nat):Str:=match c with
 |45=>⟨⟨[92,45]⟩⟩
 |93=>⟨⟨[92,93]⟩⟩
 |42=>⟨⟨[91,42,93]⟩⟩
 |63=>⟨⟨[91,63,93]⟩⟩
 |91=>⟨⟨[91,92,91,93]⟩⟩
 |c=>⟨⟨[c]⟩⟩
noncomputable def cp(c:Nat):Str:=match c with
 |91=>⟨⟨[92,91]⟩⟩
 |c=>⟨⟨[c]⟩⟩
noncomputable def fL(obs:LL)(post:List (Nat×(LN→Obj)))(nt:Nat)(gl:LG):Spec:=bW obs post [] nt (fun _=> .ok .next) gl
theorem cv(w:Wd){P':Pm}(hP:P'=w.params):iY (bs w.params P') w:=by subst hP;exact av w
noncomputable def x4(T:BT):Nat:=0
section
variable{w:Wd}{os:OS}{a0 a1 a2:Nat}{t:NN}{X:Str}{k kt n e na ck cl ct:Nat}{j:Vm}{A:LV}{gl:LG}
theorem Xl(hlt:∀i<1,decide (Int.ofNat (k+i)<Int.ofNat n)=true)(hX:∀i c,[42][i]? =some c→X.cps.toList[k+i]? =some c)(hz:X.length≤2^20):
 bI (model TW w) (bD w.params) os 600 (bQ [a0,a1,a2]) [a0,a1,a2] (fL (cT w.params [a0,a1,a2] t X k kt n none e [] na) [(0,fun l=>fz w.params [a0,a1,a2] t X (k+1) (gx l 2) n (some (gx l 3,42,gx l 1,none)) (e+1)),(1,fun l=>bu [.str ⟨⟨[42]⟩⟩ (t 3)] (na+1))] 4 gl) (bQ [a0,a1,a2]):=
 ax (av w) (hdp:=640) (U:={hs:=[(aM (aK (Int.ofNat k) (Int.ofNat n) true []) 0 []),(aM (aP X (k+0) 42 []) 1 [0])],fa:=[]}) ⟨(ac (ag (bv (hlt 0 (by decide)))) (ac (ag (bw (hX 0 _ rfl) hz)) ak)),ak,al,(fun _ h=>nomatch h),(fun _ h=>nomatch h),(fun _ h=>nomatch h)⟩ 8 [0,3,1] x4 87 (J [xZ,[2,2],w4,[0,2,1,1,3,0,3],fR,fk,[1]]) rfl rfl (by refine bm ?_;kernel_rfl)
theorem Th{v0:Vl}{x:Str}{xt:Nat}(hlt:∀i<1,decide (Int.ofNat (k+i)<Int.ofNat n)=true)(hX:∀i c,[42][i]? =some c→X.cps.toList[k+i]? =some c)(hz:X.length≤2^20)(h1:x≠⟨⟨[42]⟩⟩)(h2:xt≠t 3)(h3:xt≠0)(h4:t 3≠0):
 bI (model TW w) (bD w.params) os 600 (bQ [a0,a1,a2]) [a0,a1,a2] (fL (cT w.params [a0,a1,a2] t X k kt n (some (ck,cl,ct,none)) e [v0,.str x xt] na) [(0,fun l=>fz w.params [a0,a1,a2] t X (k+1) (gx l 2) n (some (ck,42,gx l 1,none)) e),(1,fun l=>bu [v0,.str x xt,.str ⟨⟨[42]⟩⟩ (t 3)] (na+1))] 3 gl) (bQ [a0,a1,a2]):=
 ax (av w) (hdp:=640) (U:={hs:=[(aM (aK (Int.ofNat k) (Int.ofNat n) true []) 0 []),(aM (aP X (k+0) 42 []) 1 [0])],fa:=[K7 x xt (t 3) [a0,a1,a2]]}) ⟨(ac (ag (bv (hlt 0 (by decide)))) (ac (ag (bw (hX 0 _ rfl) hz)) ak)),ak,al,mN h1 h2 h3 h4,(fun _ h=>nomatch h),(fun _ h=>nomatch h)⟩ 10 [0,3] x4 107 vL rfl rfl (by refine bm ?_;kernel_rfl)
theorem SJ{v0:Vl}{x:Str}{xt:Nat}(hlt:∀i<1,decide (Int.ofNat (k+i)<Int.ofNat n)=true)(hX:∀i c,[42][i]? =some c→X.cps.toList[k+i]? =some c)(hz:X.length≤2^20)(h1:x≠⟨⟨[42]⟩⟩)(h2:xt≠t 3)(h3:xt≠0)(h4:t 3≠0):
 bI (model TW w) (bD w.params) os 600 (bQ [a0,a1,a2]) [a0,a1,a2] (fL (cT w.params [a0,a1,a2] t X k kt n (some (ck,cl,ct,(some j))) e [v0,.str x xt] na) [(0,fun l=>fz w.params [a0,a1,a2] t X (k+1) (gx l 2) n (some (ck,42,gx l 1,(some j))) e),(1,fun l=>bu [v0,.str x xt,.str ⟨⟨[42]⟩⟩ (t 3)] (na+1))] 3 gl) (bQ [a0,a1,a2]):=
 ax (av w) (hdp:=640) (U:={hs:=[(aM (aK (Int.ofNat k) (Int.ofNat n) true []) 0 []),(aM (aP X (k+0) 42 []) 1 [0])],fa:=[K7 x xt (t 3) [a0,a1,a2]]}) ⟨(ac (ag (bv (hlt 0 (by decide)))) (ac (ag (bw (hX 0 _ rfl) hz)) ak)),ak,al,mN h1 h2 h3 h4,(fun _ h=>nomatch h),(fun _ h=>nomatch h)⟩ 10 [0,3] x4 107 vL rfl rfl (by refine bm ?_;kernel_rfl)
theorem QT{v0 v1 v2:Vl}{x:Str}{xt:Nat}(hlt:∀i<1,decide (Int.ofNat (k+i)<Int.ofNat n)=true)(hX:∀i c,[42][i]? =some c→X.cps.toList[k+i]? =some c)(hz:X.length≤2^20)(h1:x≠⟨⟨[42]⟩⟩)(h2:xt≠t 3)(h3:xt≠0)(h4:t 3≠0):
 bI (model TW w) (bD w.params) os 600 (bQ [a0,a1,a2]) [a0,a1,a2] (fL (cT w.params [a0,a1,a2] t X k kt n (some (ck,cl,ct,none)) e [v0,v1,v2,.str x xt] na) [(0,fun l=>fz w.params [a0,a1,a2] t X (k+1) (gx l 2) n (some (ck,42,gx l 1,none)) e),(1,fun l=>bu [v0,v1,v2,.str x xt,.str ⟨⟨[42]⟩⟩ (t 3)] (na+1))] 3 gl) (bQ [a0,a1,a2]):=
 ax (av w) (hdp:=640) (U:={hs:=[(aM (aK (Int.ofNat k) (Int.ofNat n) true []) 0 []),(aM (aP X (k+0) 42 []) 1 [0])],fa:=[K7 x xt (t 3) [a0,a1,a2]]}) ⟨(ac (ag (bv (hlt 0 (by decide)))) (ac (ag (bw (hX 0 _ rfl) hz)) ak)),ak,al,mN h1 h2 h3 h4,(fun _ h=>nomatch h),(fun _ h=>nomatch h)⟩ 10 [0,3] x4 107 vL rfl rfl (by refine bm ?_;kernel_rfl)
theorem RJ{v0 v1 v2:Vl}{x:Str}{xt:Nat}(hlt:∀i<1,decide (Int.ofNat (k+i)<Int.ofNat n)=true)(hX:∀i c,[42][i]? =some c→X.cps.toList[k+i]? =some c)(hz:X.length≤2^20)(h1:x≠⟨⟨[42]⟩⟩)(h2:xt≠t 3)(h3:xt≠0)(h4:t 3≠0):
 bI (model TW w) (bD w.params) os 600 (bQ [a0,a1,a2]) [a0,a1,a2] (fL (cT w.params [a0,a1,a2] t X k kt n (some (ck,cl,ct,(some j))) e [v0,v1,v2,.str x xt] na) [(0,fun l=>fz w.params [a0,a1,a2] t X (k+1) (gx l 2) n (some (ck,42,gx l 1,(some j))) e),(1,fun l=>bu [v0,v1,v2,.str x xt,.str ⟨⟨[42]⟩⟩ (t 3)] (na+1))] 3 gl) (bQ [a0,a1,a2]):=
 ax (av w) (hdp:=640) (U:={hs:=[(aM (aK (Int.ofNat k) (Int.ofNat n) true []) 0 []),(aM (aP X (k+0) 42 []) 1 [0])],fa:=[K7 x xt (t 3) [a0,a1,a2]]}) ⟨(ac (ag (bv (hlt 0 (by decide)))) (ac (ag (bw (hX 0 _ rfl) hz)) ak)),ak,al,mN h1 h2 h3 h4,(fun _ h=>nomatch h),(fun _ h=>nomatch h)⟩ 10 [0,3] x4 107 vL rfl rfl (by refine bm ?_;kernel_rfl)
theorem Up{v0 v1 v2 v3 v4:Vl}{x:Str}{xt:Nat}(hlt:∀i<1,decide (Int.ofNat (k+i)<Int.ofNat n)=true)(hX:∀i c,[42][i]? =some c→X.cps.toList[k+i]? =some c)(hz:X.length≤2^20)(h1:x≠⟨⟨[42]⟩⟩)(h2:xt≠t 3)(h3:xt≠0)(h4:t 3≠0):
 bI (model TW w) (bD w.params) os 600 (bQ [a0,a1,a2]) [a0,a1,a2] (fL (cT w.params [a0,a1,a2] t X k kt n (some (ck,cl,ct,none)) e [v0,v1,v2,v3,v4,.str x xt] na) [(0,fun l=>fz w.params [a0,a1,a2] t X (k+1) (gx l 2) n (some (ck,42,gx l 1,none)) e),(1,fun l=>bu [v0,v1,v2,v3,v4,.str x xt,.str ⟨⟨[42]⟩⟩ (t 3)] (na+1))] 3 gl) (bQ [a0,a1,a2]):=
 ax (av w) (hdp:=640) (U:={hs:=[(aM (aK (Int.ofNat k) (Int.ofNat n) true []) 0 []),(aM (aP X (k+0) 42 []) 1 [0])],fa:=[K7 x xt (t 3) [a0,a1,a2]]}) ⟨(ac (ag (bv (hlt 0 (by decide)))) (ac (ag (bw (hX 0 _ rfl) hz)) ak)),ak,al,mN h1 h2 h3 h4,(fun _ h=>nomatch h),(fun _ h=>nomatch h)⟩ 10 [0,3] x4 107 vL rfl rfl (by refine bm ?_;kernel_rfl)
theorem QP{v0 v1 v2 v3 v4:Vl}{x:Str}{xt:Nat}(hlt:∀i<1,decide (Int.ofNat (k+i)<Int.ofNat n)=true)(hX:∀i c,[42][i]? =some c→X.cps.toList[k+i]? =some c)(hz:X.length≤2^20)(h1:x≠⟨⟨[42]⟩⟩)(h2:xt≠t 3)(h3:xt≠0)(h4:t 3≠0):
 bI (model TW w) (bD w.params) os 600 (bQ [a0,a1,a2]) [a0,a1,a2] (fL (cT w.params [a0,a1,a2] t X k kt n (some (ck,cl,ct,(some j))) e [v0,v1,v2,v3,v4,.str x xt] na) [(0,fun l=>fz w.params [a0,a1,a2] t X (k+1) (gx l 2) n (some (ck,42,gx l 1,(some j))) e),(1,fun l=>bu [v0,v1,v2,v3,v4,.str x xt,.str ⟨⟨[42]⟩⟩ (t 3)] (na+1))] 3 gl) (bQ [a0,a1,a2]):=
 ax (av w) (hdp:=640) (U:={hs:=[(aM (aK (Int.ofNat k) (Int.ofNat n) true []) 0 []),(aM (aP X (k+0) 42 []) 1 [0])],fa:=[K7 x xt (t 3) [a0,a1,a2]]}) ⟨(ac (ag (bv (hlt 0 (by decide)))) (ac (ag (bw (hX 0 _ rfl) hz)) ak)),ak,al,mN h1 h2 h3 h4,(fun _ h=>nomatch h),(fun _ h=>nomatch h)⟩ 10 [0,3] x4 107 vL rfl rfl (by refine bm ?_;kernel_rfl)
theorem Mg(hlt:∀i<1,decide (Int.ofNat (k+i)<Int.ofNat n)=true)(hX:∀i c,[33][i]? =some c→X.cps.toList[k+i]? =some c)(hz:X.length≤2^20)(hA:A.length≤1000):
 bI (model TW w) (bD w.params) os 600 (bQ [a0,a1,a2]) [a0,a1,a2] (fL (cT w.params [a0,a1,a2] t X k kt n (some (ck,cl,ct,none)) e A na) [(0,fun l=>fz w.params [a0,a1,a2] t X (k+1) (gx l 2) n (some (ck,33,gx l 1,none)) e),(1,fun l=>bu (A++ [.str (a_ 33) (gx l 3)]) (na+1))] 4 gl) (bQ [a0,a1,a2]):=
 ax (av w) (hdp:=640) (U:={hs:=[(aM (aK (Int.ofNat k) (Int.ofNat n) true []) 0 []),(aM (aP X (k+0) 33 []) 1 [0]),(aM (aR A na (fun u=> .str (a_ 33) u) [1]) 0 [])],fa:=[]}) ⟨(ac (ag (bv (hlt 0 (by decide)))) (ac (ag (bw (hX 0 _ rfl) hz)) (ac (ag (b9 hA)) ak))),ak,al,(fun _ h=>nomatch h),(fun _ h=>nomatch h),(fun _ h=>nomatch h)⟩ 12 [0,3,11] x4 153 wc rfl rfl (by refine bm ?_;kernel_rfl)
theorem PI(hlt:∀i<1,decide (Int.ofNat (k+i)<Int.ofNat n)=true)(hX:∀i c,[33][i]? =some c→X.cps.toList[k+i]? =some c)(hz:X.length≤2^20)(hA:A.length≤1000):
 bI (model TW w) (bD w.params) os 600 (bQ [a0,a1,a2]) [a0,a1,a2] (fL (cT w.params [a0,a1,a2] t X k kt n (some (ck,cl,ct,(some j))) e A na) [(0,fun l=>fz w.params [a0,a1,a2] t X (k+1) (gx l 2) n (some (ck,33,gx l 1,(some j))) e),(1,fun l=>bu (A++ [.str (a_ 33) (gx l 3)]) (na+1))] 4 gl) (bQ [a0,a1,a2]):=
 ax (av w) (hdp:=640) (U:={hs:=[(aM (aK (Int.ofNat k) (Int.ofNat n) true []) 0 []),(aM (aP X (k+0) 33 []) 1 [0]),(aM (aR A na (fun u=> .str (a_ 33) u) [1]) 0 [])],fa:=[]}) ⟨(ac (ag (bv (hlt 0 (by decide)))) (ac (ag (bw (hX 0 _ rfl) hz)) (ac (ag (b9 hA)) ak))),ak,al,(fun _ h=>nomatch h),(fun _ h=>nomatch h),(fun _ h=>nomatch h)⟩ 12 [0,3,11] x4 153 wc rfl rfl (by refine bm ?_;kernel_rfl)
theorem MZ(hlt:∀i<1,decide (Int.ofNat (k+i)<Int.ofNat n)=true)(hX:∀i c,[45][i]? =some c→X.cps.toList[k+i]? =some c)(hz:X.length≤2^20)(hA:A.length≤1000):
 bI (model TW w) (bD w.params) os 600 (bQ [a0,a1,a2]) [a0,a1,a2] (fL (cT w.params [a0,a1,a2] t X k kt n (some (ck,cl,ct,none)) e A na) [(0,fun l=>fz w.params [a0,a1,a2] t X (k+1) (gx l 2) n (some (ck,45,gx l 1,none)) e),(1,fun l=>bu (A++ [.str (a_ 45) (gx l 3)]) (na+1))] 4 gl) (bQ [a0,a1,a2]):=
 ax (av w) (hdp:=640) (U:={hs:=[(aM (aK (Int.ofNat k) (Int.ofNat n) true []) 0 []),(aM (aP X (k+0) 45 []) 1 [0]),(aM (xP 45 (.str (a_ 45) 585) []) 1 []),(aM (aR A na (fun u=> .str (a_ 45) u) [1]) 0 [])],fa:=[]}) ⟨(ac (ag (bv (hlt 0 (by decide)))) (ac (ag (bw (hX 0 _ rfl) hz)) (ac (ag (Iw (Cc w.params) (by decide))) (ac (ag (b9 hA)) ak)))),ak,al,(fun _ h=>nomatch h),(fun _ h=>nomatch h),(fun _ h=>nomatch h)⟩ 14 [0,3,13] x4 142 Ck rfl rfl (by refine bm ?_;kernel_rfl)
theorem Pw(hlt:∀i<1,decide (Int.ofNat (k+i)<Int.ofNat n)=true)(hX:∀i c,[45][i]? =some c→X.cps.toList[k+i]? =some c)(hz:X.length≤2^20)(hA:A.length≤1000):
 bI (model TW w) (bD w.params) os 600 (bQ [a0,a1,a2]) [a0,a1,a2] (fL (cT w.params [a0,a1,a2] t X k kt n (some (ck,cl,ct,(some j))) e A na) [(0,fun l=>fz w.params [a0,a1,a2] t X (k+1) (gx l 2) n (some (ck,45,gx l 1,(some j))) e),(1,fun l=>bu (A++ [.str (a_ 45) (gx l 3)]) (na+1))] 4 gl) (bQ [a0,a1,a2]):=
 ax (av w) (hdp:=640) (U:={hs:=[(aM (aK (Int.ofNat k) (Int.ofNat n) true []) 0 []),(aM (aP X (k+0) 45 []) 1 [0]),(aM (xP 45 (.str (a_ 45) 585) []) 1 []),(aM (aR A na (fun u=> .str (a_ 45) u) [1]) 0 [])],fa:=[]}) ⟨(ac (ag (bv (hlt 0 (by decide)))) (ac (ag (bw (hX 0 _ rfl) hz)) (ac (ag (Iw (Cc w.params) (by decide))) (ac (ag (b9 hA)) ak)))),ak,al,(fun _ h=>nomatch h),(fun _ h=>nomatch h),(fun _ h=>nomatch h)⟩ 14 [0,3,13] x4 142 Ck rfl rfl (by refine bm ?_;kernel_rfl)
theorem OI(hlt:∀i<1,decide (Int.ofNat (k+i)<Int.ofNat n)=true)(hX:∀i c,[93][i]? =some c→X.cps.toList[k+i]? =some c)(hz:X.length≤2^20)(hA:A.length≤1000):
 bI (model TW w) (bD w.params) os 600 (bQ [a0,a1,a2]) [a0,a1,a2] (fL (cT w.params [a0,a1,a2] t X k kt n (some (ck,cl,ct,none)) e A na) [(0,fun l=>fz w.params [a0,a1,a2] t X (k+1) (gx l 2) n (some (ck,93,gx l 1,none)) e),(1,fun l=>bu (A++ [.str (a_ 93) (gx l 3)]) (na+1))] 4 gl) (bQ [a0,a1,a2]):=
 ax (av w) (hdp:=640) (U:={hs:=[(aM (aK (Int.ofNat k) (Int.ofNat n) true []) 0 []),(aM (aP X (k+0) 93 []) 1 [0]),(aM (xP 93 (.str (a_ 93) 549) []) 1 []),(aM (aR A na (fun u=> .str (a_ 93) u) [1]) 0 [])],fa:=[]}) ⟨(ac (ag (bv (hlt 0 (by decide)))) (ac (ag (bw (hX 0 _ rfl) hz)) (ac (ag (Iw (Cg w.params) (by decide))) (ac (ag (b9 hA)) ak)))),ak,al,(fun _ h=>nomatch h),(fun _ h=>nomatch h),(fun _ h=>nomatch h)⟩ 14 [0,3,13] x4 142 Ck rfl rfl (by refine bm ?_;kernel_rfl)
theorem MY(hlt:∀i<1,decide (Int.ofNat (k+i)<Int.ofNat n)=true)(hX:∀i c,[93][i]? =some c→X.cps.toList[k+i]? =some c)(hz:X.length≤2^20)(hA:A.length≤1000):
 bI (model TW w) (bD w.params) os 600 (bQ [a0,a1,a2]) [a0,a1,a2] (fL (cT w.params [a0,a1,a2] t X k kt n (some (ck,cl,ct,(some j))) e A na) [(0,fun l=>fz w.params [a0,a1,a2] t X (k+1) (gx l 2) n (some (ck,93,gx l 1,(some j))) e),(1,fun l=>bu (A++ [.str (a_ 93) (gx l 3)]) (na+1))] 4 gl) (bQ [a0,a1,a2]):=
 ax (av w) (hdp:=640) (U:={hs:=[(aM (aK (Int.ofNat k) (Int.ofNat n) true []) 0 []),(aM (aP X (k+0) 93 []) 1 [0]),(aM (xP 93 (.str (a_ 93) 549) []) 1 []),(aM (aR A na (fun u=> .str (a_ 93) u) [1]) 0 [])],fa:=[]}) ⟨(ac (ag (bv (hlt 0 (by decide)))) (ac (ag (bw (hX 0 _ rfl) hz)) (ac (ag (Iw (Cg w.params) (by decide))) (ac (ag (b9 hA)) ak)))),ak,al,(fun _ h=>nomatch h),(fun _ h=>nomatch h),(fun _ h=>nomatch h)⟩ 14 [0,3,13] x4 142 Ck rfl rfl (by refine bm ?_;kernel_rfl)
theorem TX(hlt:∀i<1,decide (Int.ofNat (k+i)<Int.ofNat n)=true)(hX:∀i c,[97][i]? =some c→X.cps.toList[k+i]? =some c)(hz:X.length≤2^20)(hA:A.length≤1000):
 bI (model TW w) (bD w.params) os 600 (bQ [a0,a1,a2]) [a0,a1,a2] (fL (cT w.params [a0,a1,a2] t X k kt n (some (ck,cl,ct,none)) e A na) [(0,fun l=>fz w.params [a0,a1,a2] t X (k+1) (gx l 2) n (some (ck,97,gx l 1,none)) e),(1,fun l=>bu (A++ [.str (a_ 97) (gx l 3)]) (na+1))] 4 gl) (bQ [a0,a1,a2]):=
 ax (av w) (hdp:=640) (U:={hs:=[(aM (aK (Int.ofNat k) (Int.ofNat n) true []) 0 []),(aM (aP X (k+0) 97 []) 1 [0]),(aM (aR A na (fun u=> .str (a_ 97) u) [1]) 0 [])],fa:=[]}) ⟨(ac (ag (bv (hlt 0 (by decide)))) (ac (ag (bw (hX 0 _ rfl) hz)) (ac (ag (b9 hA)) ak))),ak,al,(fun _ h=>nomatch h),(fun _ h=>nomatch h),(fun _ h=>nomatch h)⟩ 12 [0,3,11] x4 153 wc rfl rfl (by refine bm ?_;kernel_rfl)
theorem Qz(hlt:∀i<1,decide (Int.ofNat (k+i)<Int.ofNat n)=true)(hX:∀i c,[97][i]? =some c→X.cps.toList[k+i]? =some c)(hz:X.length≤2^20)(hA:A.length≤1000):
 bI (model TW w) (bD w.params) os 600 (bQ [a0,a1,a2]) [a0,a1,a2] (fL (cT w.params [a0,a1,a2] t X k kt n (some (ck,cl,ct,(some j))) e A na) [(0,fun l=>fz w.params [a0,a1,a2] t X (k+1) (gx l 2) n (some (ck,97,gx l 1,(some j))) e),(1,fun l=>bu (A++ [.str (a_ 97) (gx l 3)]) (na+1))] 4 gl) (bQ [a0,a1,a2]):=
 ax (av w) (hdp:=640) (U:={hs:=[(aM (aK (Int.ofNat k) (Int.ofNat n) true []) 0 []),(aM (aP X (k+0) 97 []) 1 [0]),(aM (aR A na (fun u=> .str (a_ 97) u) [1]) 0 [])],fa:=[]}) ⟨(ac (ag (bv (hlt 0 (by decide)))) (ac (ag (bw (hX 0 _ rfl) hz)) (ac (ag (b9 hA)) ak))),ak,al,(fun _ h=>nomatch h),(fun _ h=>nomatch h),(fun _ h=>nomatch h)⟩ 12 [0,3,11] x4 153 wc rfl rfl (by refine bm ?_;kernel_rfl)
theorem Qt(hlt:∀i<1,decide (Int.ofNat (k+i)<Int.ofNat n)=true)(hX:∀i c,[98][i]? =some c→X.cps.toList[k+i]? =some c)(hz:X.length≤2^20)(hA:A.length≤1000):
 bI (model TW w) (bD w.params) os 600 (bQ [a0,a1,a2]) [a0,a1,a2] (fL (cT w.params [a0,a1,a2] t X k kt n (some (ck,cl,ct,none)) e A na) [(0,fun l=>fz w.params [a0,a1,a2] t X (k+1) (gx l 2) n (some (ck,98,gx l 1,none)) e),(1,fun l=>bu (A++ [.str (a_ 98) (gx l 3)]) (na+1))] 4 gl) (bQ [a0,a1,a2]):=
 ax (av w) (hdp:=640) (U:={hs:=[(aM (aK (Int.ofNat k) (Int.ofNat n) true []) 0 []),(aM (aP X (k+0) 98 []) 1 [0]),(aM (aR A na (fun u=> .str (a_ 98) u) [1]) 0 [])],fa:=[]}) ⟨(ac (ag (bv (hlt 0 (by decide)))) (ac (ag (bw (hX 0 _ rfl) hz)) (ac (ag (b9 hA)) ak))),ak,al,(fun _ h=>nomatch h),(fun _ h=>nomatch h),(fun _ h=>nomatch h)⟩ 12 [0,3,11] x4 153 wc rfl rfl (by refine bm ?_;kernel_rfl)
theorem SC(hlt:∀i<1,decide (Int.ofNat (k+i)<Int.ofNat n)=true)(hX:∀i c,[98][i]? =some c→X.cps.toList[k+i]? =some c)(hz:X.length≤2^20)(hA:A.length≤1000):
 bI (model TW w) (bD w.params) os 600 (bQ [a0,a1,a2]) [a0,a1,a2] (fL (cT w.params [a0,a1,a2] t X k kt n (some (ck,cl,ct,(some j))) e A na) [(0,fun l=>fz w.params [a0,a1,a2] t X (k+1) (gx l 2) n (some (ck,98,gx l 1,(some j))) e),(1,fun l=>bu (A++ [.str (a_ 98) (gx l 3)]) (na+1))] 4 gl) (bQ [a0,a1,a2]):=
 ax (av w) (hdp:=640) (U:={hs:=[(aM (aK (Int.ofNat k) (Int.ofNat n) true []) 0 []),(aM (aP X (k+0) 98 []) 1 [0]),(aM (aR A na (fun u=> .str (a_ 98) u) [1]) 0 [])],fa:=[]}) ⟨(ac (ag (bv (hlt 0 (by decide)))) (ac (ag (bw (hX 0 _ rfl) hz)) (ac (ag (b9 hA)) ak))),ak,al,(fun _ h=>nomatch h),(fun _ h=>nomatch h),(fun _ h=>nomatch h)⟩ 12 [0,3,11] x4 153 wc rfl rfl (by refine bm ?_;kernel_rfl)
theorem GL(hlt:∀i<3,decide (Int.ofNat (k+i)<Int.ofNat n)=true)(hX:∀i c,[91,42,93][i]? =some c→X.cps.toList[k+i]? =some c)(hz:X.length≤2^20)(h2:2≤X.length)(hge:∀i<3,decide (Int.ofNat (k+i)≥Int.ofNat n)=false)(hA:A.length≤1000)(hb:c_ w.params 3 false=w.params):
 bI (model TW w) (bD w.params) os 600 (bQ [a0,a1,a2]) [a0,a1,a2,167] (fL (cT w.params [a0,a1,a2] t X k kt n (some (ck,cl,ct,none)) e A na++ [bE 0]) [(0,fun l=>fz w.params [a0,a1,a2] t X (k+3) (gx l 2) n (some (ck,91,gx l 1,some (gx l 6,k+2,gx l 3,gx l 7,cp 42,gx l 4))) (e+2)),(1,fun l=>bu (A++ [.str (a_ 42) (gx l 5)]) (na+1)),(3,fun l=>bE (gx l 0+1))] 8 gl) (bQ [a0,a1,a2]):=
 ax (cv w hb) (hdp:=640) (U:={hs:=[(aM (aK (Int.ofNat k) (Int.ofNat n) true []) 0 []),(aM (aP X (k+0) 91 []) 1 [0]),(aM (aK (Int.ofNat (k+1)) (Int.ofNat n) true []) 0 []),(aM (aP X (k+1) 42 []) 1 [0]),(aM (aK (Int.ofNat (k+2)) (Int.ofNat n) true []) 0 []),(aM (aP X (k+2) 93 []) 1 [0]),(aM (cC (Int.ofNat (k+2)) (Int.ofNat n) false []) 0 []),(aM (cE X (k+1) 42 [4]) 1 [0]),(aM (aR A na (fun u=> .str (a_ 42) u) [1]) 0 [])],fa:=[]}) ⟨(ac (ag (bv (hlt 0 (by decide)))) (ac (ag (bw (hX 0 _ rfl) hz)) (ac (ag (bv (hlt 1 (by decide)))) (ac (ag (bw (hX 1 _ rfl) hz)) (ac (ag (bv (hlt 2 (by decide)))) (ac (ag (bw (hX 2 _ rfl) hz)) (ac (ag (fx (hge 2 (by decide)))) (ac (ag (fy (hX 1 _ rfl) h2)) (ac (ag (b9 hA)) ak))))))))),ak,al,(fun _ h=>nomatch h),(fun _ h=>nomatch h),(fun _ h=>nomatch h)⟩ 51 [0,36,16,32,50,8,21] (fun T=>aY T 3 2) 400 A_ rfl rfl (by refine bm ?_;kernel_rfl)
theorem FS(hlt:∀i<3,decide (Int.ofNat (k+i)<Int.ofNat n)=true)(hX:∀i c,[91,42,93][i]? =some c→X.cps.toList[k+i]? =some c)(hz:X.length≤2^20)(h2:2≤X.length)(hge:∀i<3,decide (Int.ofNat (k+i)≥Int.ofNat n)=false)(hA:A.length≤1000)(hb:c_ w.params 3 true=w.params):
 bI (model TW w) (bD w.params) os 600 (bQ [a0,a1,a2]) [a0,a1,a2,167] (fL (cT w.params [a0,a1,a2] t X k kt n (some (ck,cl,ct,none)) e A na++ [bE 0]) [(0,fun l=>fz w.params [a0,a1,a2] t X (k+3) (gx l 2) n (some (ck,91,gx l 1,some (gx l 6,k+2,gx l 3,gx l 7,cp 42,gx l 4))) (e+2)),(1,fun l=>bu (A++ [.str (a_ 42) (gx l 5)]) (na+1)),(3,fun l=>bE (gx l 0+1))] 8 gl) (bQ [a0,a1,a2]):=
 ax (cv w hb) (hdp:=640) (U:={hs:=[(aM (aK (Int.ofNat k) (Int.ofNat n) true []) 0 []),(aM (aP X (k+0) 91 []) 1 [0]),(aM (aK (Int.ofNat (k+1)) (Int.ofNat n) true []) 0 []),(aM (aP X (k+1) 42 []) 1 [0]),(aM (aK (Int.ofNat (k+2)) (Int.ofNat n) true []) 0 []),(aM (aP X (k+2) 93 []) 1 [0]),(aM (cC (Int.ofNat (k+2)) (Int.ofNat n) false []) 0 []),(aM (cE X (k+1) 42 [4]) 1 [0]),(aM (aR A na (fun u=> .str (a_ 42) u) [1]) 0 [])],fa:=[]}) ⟨(ac (ag (bv (hlt 0 (by decide)))) (ac (ag (bw (hX 0 _ rfl) hz)) (ac (ag (bv (hlt 1 (by decide)))) (ac (ag (bw (hX 1 _ rfl) hz)) (ac (ag (bv (hlt 2 (by decide)))) (ac (ag (bw (hX 2 _ rfl) hz)) (ac (ag (fx (hge 2 (by decide)))) (ac (ag (fy (hX 1 _ rfl) h2)) (ac (ag (b9 hA)) ak))))))))),ak,al,(fun _ h=>nomatch h),(fun _ h=>nomatch h),(fun _ h=>nomatch h)⟩ 52 [0,36,16,32,51,8,21] (fun T=>aY T 3 2) 401 A_ rfl rfl (by refine bm ?_;kernel_rfl)
theorem D3{m:Nat}(hlt:∀i<3,decide (Int.ofNat (k+i)<Int.ofNat n)=true)(hX:∀i c,[91,42,93][i]? =some c→X.cps.toList[k+i]? =some c)(hz:X.length≤2^20)(h2:2≤X.length)(hge:∀i<3,decide (Int.ofNat (k+i)≥Int.ofNat n)=false)(hA:A.length≤1000)(hb:c_ w.params 3 false=w.params):
 bI (model TW w) (bD w.params) os 600 (bQ [a0,a1,a2]) [a0,a1,a2,167] (fL (cT w.params [a0,a1,a2] t X k kt n (some (ck,cl,ct,none)) e A na++ [bE (m+1)]) [(0,fun l=>fz w.params [a0,a1,a2] t X (k+3) (gx l 2) n (some (ck,91,gx l 1,some (gx l 6,k+2,gx l 3,gx l 7,cp 42,gx l 4))) (e+2)),(1,fun l=>bu (A++ [.str (a_ 42) (gx l 5)]) (na+1)),(3,fun l=>bE (gx l 0+1))] 8 gl) (bQ [a0,a1,a2]):=
 ax (cv w hb) (hdp:=640) (U:={hs:=[(aM (aK (Int.ofNat k) (Int.ofNat n) true []) 0 []),(aM (aP X (k+0) 91 []) 1 [0]),(aM (aK (Int.ofNat (k+1)) (Int.ofNat n) true []) 0 []),(aM (aP X (k+1) 42 []) 1 [0]),(aM (aK (Int.ofNat (k+2)) (Int.ofNat n) true []) 0 []),(aM (aP X (k+2) 93 []) 1 [0]),(aM (cC (Int.ofNat (k+2)) (Int.ofNat n) false []) 0 []),(aM (cE X (k+1) 42 [4]) 1 [0]),(aM (aR A na (fun u=> .str (a_ 42) u) [1]) 0 [])],fa:=[]}) ⟨(ac (ag (bv (hlt 0 (by decide)))) (ac (ag (bw (hX 0 _ rfl) hz)) (ac (ag (bv (hlt 1 (by decide)))) (ac (ag (bw (hX 1 _ rfl) hz)) (ac (ag (bv (hlt 2 (by decide)))) (ac (ag (bw (hX 2 _ rfl) hz)) (ac (ag (fx (hge 2 (by decide)))) (ac (ag (fy (hX 1 _ rfl) h2)) (ac (ag (b9 hA)) ak))))))))),ak,al,(fun _ h=>nomatch h),(fun _ h=>nomatch h),(fun _ h=>nomatch h)⟩ 45 [0,30,16,26,44,8,21] (fun T=>aY T 3 2) 385 oq rfl rfl (by refine bm ?_;kernel_rfl)
theorem DI{m:Nat}(hlt:∀i<3,decide (Int.ofNat (k+i)<Int.ofNat n)=true)(hX:∀i c,[91,42,93][i]? =some c→X.cps.toList[k+i]? =some c)(hz:X.length≤2^20)(h2:2≤X.length)(hge:∀i<3,decide (Int.ofNat (k+i)≥Int.ofNat n)=false)(hA:A.length≤1000)(hb:c_ w.params 3 true=w.params):
 bI (model TW w) (bD w.params) os 600 (bQ [a0,a1,a2]) [a0,a1,a2,167] (fL (cT w.params [a0,a1,a2] t X k kt n (some (ck,cl,ct,none)) e A na++ [bE (m+1)]) [(0,fun l=>fz w.params [a0,a1,a2] t X (k+3) (gx l 2) n (some (ck,91,gx l 1,some (gx l 6,k+2,gx l 3,gx l 7,cp 42,gx l 4))) (e+2)),(1,fun l=>bu (A++ [.str (a_ 42) (gx l 5)]) (na+1)),(3,fun l=>bE (gx l 0+1))] 8 gl) (bQ [a0,a1,a2]):=
 ax (cv w hb) (hdp:=640) (U:={hs:=[(aM (aK (Int.ofNat k) (Int.ofNat n) true []) 0 []),(aM (aP X (k+0) 91 []) 1 [0]),(aM (aK (Int.ofNat (k+1)) (Int.ofNat n) true []) 0 []),(aM (aP X (k+1) 42 []) 1 [0]),(aM (aK (Int.ofNat (k+2)) (Int.ofNat n) true []) 0 []),(aM (aP X (k+2) 93 []) 1 [0]),(aM (cC (Int.ofNat (k+2)) (Int.ofNat n) false []) 0 []),(aM (cE X (k+1) 42 [4]) 1 [0]),(aM (aR A na (fun u=> .str (a_ 42) u) [1]) 0 [])],fa:=[]}) ⟨(ac (ag (bv (hlt 0 (by decide)))) (ac (ag (bw (hX 0 _ rfl) hz)) (ac (ag (bv (hlt 1 (by decide)))) (ac (ag (bw (hX 1 _ rfl) hz)) (ac (ag (bv (hlt 2 (by decide)))) (ac (ag (bw (hX 2 _ rfl) hz)) (ac (ag (fx (hge 2 (by decide)))) (ac (ag (fy (hX 1 _ rfl) h2)) (ac (ag (b9 hA)) ak))))))))),ak,al,(fun _ h=>nomatch h),(fun _ h=>nomatch h),(fun _ h=>nomatch h)⟩ 46 [0,30,16,26,45,8,21] (fun T=>aY T 3 2) 386 oq rfl rfl (by refine bm ?_;kernel_rfl)
theorem FN{m:Nat}(hlt:∀i<3,decide (Int.ofNat (k+i)<Int.ofNat n)=true)(hX:∀i c,[91,42,93][i]? =some c→X.cps.toList[k+i]? =some c)(hz:X.length≤2^20)(h2:2≤X.length)(hge:∀i<3,decide (Int.ofNat (k+i)≥Int.ofNat n)=false)(hA:A.length≤1000)(hb:c_ w.params 3 false=w.params):
 bI (model TW w) (bD w.params) os 600 (bQ [a0,a1,a2]) [a0,a1,a2,167] (fL (cT w.params [a0,a1,a2] t X k kt n (some (ck,cl,ct,some j)) e A na++ [bE (m+1)]) [(0,fun l=>fz w.params [a0,a1,a2] t X (k+3) (gx l 2) n (some (ck,91,gx l 1,some (j.1,k+2,gx l 3,j.2.2.2.1,cp 42,gx l 4))) e),(1,fun l=>bu (A++ [.str (a_ 42) (gx l 5)]) (na+1)),(3,fun l=>bE (gx l 0+1))] 6 gl) (bQ [a0,a1,a2]):=
 ax (cv w hb) (hdp:=640) (U:={hs:=[(aM (aK (Int.ofNat k) (Int.ofNat n) true []) 0 []),(aM (aP X (k+0) 91 []) 1 [0]),(aM (aK (Int.ofNat (k+1)) (Int.ofNat n) true []) 0 []),(aM (aP X (k+1) 42 []) 1 [0]),(aM (aK (Int.ofNat (k+2)) (Int.ofNat n) true []) 0 []),(aM (aP X (k+2) 93 []) 1 [0]),(aM (cC (Int.ofNat (k+2)) (Int.ofNat n) false []) 0 []),(aM (cE X (k+1) 42 [4]) 1 [0]),(aM (aR A na (fun u=> .str (a_ 42) u) [1]) 0 [])],fa:=[]}) ⟨(ac (ag (bv (hlt 0 (by decide)))) (ac (ag (bw (hX 0 _ rfl) hz)) (ac (ag (bv (hlt 1 (by decide)))) (ac (ag (bw (hX 1 _ rfl) hz)) (ac (ag (bv (hlt 2 (by decide)))) (ac (ag (bw (hX 2 _ rfl) hz)) (ac (ag (fx (hge 2 (by decide)))) (ac (ag (fy (hX 1 _ rfl) h2)) (ac (ag (b9 hA)) ak))))))))),ak,al,(fun _ h=>nomatch h),(fun _ h=>nomatch h),(fun _ h=>nomatch h)⟩ 45 [0,30,16,26,44] (fun T=>aY T 3 2) 385 oq rfl rfl (by refine bm ?_;kernel_rfl)
theorem Er{m:Nat}(hlt:∀i<3,decide (Int.ofNat (k+i)<Int.ofNat n)=true)(hX:∀i c,[91,42,93][i]? =some c→X.cps.toList[k+i]? =some c)(hz:X.length≤2^20)(h2:2≤X.length)(hge:∀i<3,decide (Int.ofNat (k+i)≥Int.ofNat n)=false)(hA:A.length≤1000)(hb:c_ w.params 3 true=w.params):
 bI (model TW w) (bD w.params) os 600 (bQ [a0,a1,a2]) [a0,a1,a2,167] (fL (cT w.params [a0,a1,a2] t X k kt n (some (ck,cl,ct,some j)) e A na++ [bE (m+1)]) [(0,fun l=>fz w.params [a0,a1,a2] t X (k+3) (gx l 2) n (some (ck,91,gx l 1,some (j.1,k+2,gx l 3,j.2.2.2.1,cp 42,gx l 4))) e),(1,fun l=>bu (A++ [.str (a_ 42) (gx l 5)]) (na+1)),(3,fun l=>bE (gx l 0+1))] 6 gl) (bQ [a0,a1,a2]):=
 ax (cv w hb) (hdp:=640) (U:={hs:=[(aM (aK (Int.ofNat k) (Int.ofNat n) true []) 0 []),(aM (aP X (k+0) 91 []) 1 [0]),(aM (aK (Int.ofNat (k+1)) (Int.ofNat n) true []) 0 []),(aM (aP X (k+1) 42 []) 1 [0]),(aM (aK (Int.ofNat (k+2)) (Int.ofNat n) true []) 0 []),(aM (aP X (k+2) 93 []) 1 [0]),(aM (cC (Int.ofNat (k+2)) (Int.ofNat n) false []) 0 []),(aM (cE X (k+1) 42 [4]) 1 [0]),(aM (aR A na (fun u=> .str (a_ 42) u) [1]) 0 [])],fa:=[]}) ⟨(ac (ag (bv (hlt 0 (by decide)))) (ac (ag (bw (hX 0 _ rfl) hz)) (ac (ag (bv (hlt 1 (by decide)))) (ac (ag (bw (hX 1 _ rfl) hz)) (ac (ag (bv (hlt 2 (by decide)))) (ac (ag (bw (hX 2 _ rfl) hz)) (ac (ag (fx (hge 2 (by decide)))) (ac (ag (fy (hX 1 _ rfl) h2)) (ac (ag (b9 hA)) ak))))))))),ak,al,(fun _ h=>nomatch h),(fun _ h=>nomatch h),(fun _ h=>nomatch h)⟩ 46 [0,30,16,26,45] (fun T=>aY T 3 2) 386 oq rfl rfl (by refine bm ?_;kernel_rfl)
theorem F9(hlt:∀i<3,decide (Int.ofNat (k+i)<Int.ofNat n)=true)(hX:∀i c,[91,63,93][i]? =some c→X.cps.toList[k+i]? =some c)(hz:X.length≤2^20)(h2:2≤X.length)(hge:∀i<3,decide (Int.ofNat (k+i)≥Int.ofNat n)=false)(hA:A.length≤1000)(hb:c_ w.params 3 false=w.params):
 bI (model TW w) (bD w.params) os 600 (bQ [a0,a1,a2]) [a0,a1,a2,167] (fL (cT w.params [a0,a1,a2] t X k kt n (some (ck,cl,ct,none)) e A na++ [bE 0]) [(0,fun l=>fz w.params [a0,a1,a2] t X (k+3) (gx l 2) n (some (ck,91,gx l 1,some (gx l 6,k+2,gx l 3,gx l 7,cp 63,gx l 4))) (e+2)),(1,fun l=>bu (A++ [.str (a_ 63) (gx l 5)]) (na+1)),(3,fun l=>bE (gx l 0+1))] 8 gl) (bQ [a0,a1,a2]):=
 ax (cv w hb) (hdp:=640) (U:={hs:=[(aM (aK (Int.ofNat k) (Int.ofNat n) true []) 0 []),(aM (aP X (k+0) 91 []) 1 [0]),(aM (aK (Int.ofNat (k+1)) (Int.ofNat n) true []) 0 []),(aM (aP X (k+1) 63 []) 1 [0]),(aM (aK (Int.ofNat (k+2)) (Int.ofNat n) true []) 0 []),(aM (aP X (k+2) 93 []) 1 [0]),(aM (cC (Int.ofNat (k+2)) (Int.ofNat n) false []) 0 []),(aM (cE X (k+1) 63 [4]) 1 [0]),(aM (aR A na (fun u=> .str (a_ 63) u) [1]) 0 [])],fa:=[]}) ⟨(ac (ag (bv (hlt 0 (by decide)))) (ac (ag (bw (hX 0 _ rfl) hz)) (ac (ag (bv (hlt 1 (by decide)))) (ac (ag (bw (hX 1 _ rfl) hz)) (ac (ag (bv (hlt 2 (by decide)))) (ac (ag (bw (hX 2 _ rfl) hz)) (ac (ag (fx (hge 2 (by decide)))) (ac (ag (fy (hX 1 _ rfl) h2)) (ac (ag (b9 hA)) ak))))))))),ak,al,(fun _ h=>nomatch h),(fun _ h=>nomatch h),(fun _ h=>nomatch h)⟩ 51 [0,36,16,32,50,8,21] (fun T=>aY T 3 2) 400 A_ rfl rfl (by refine bm ?_;kernel_rfl)
theorem DY(hlt:∀i<3,decide (Int.ofNat (k+i)<Int.ofNat n)=true)(hX:∀i c,[91,63,93][i]? =some c→X.cps.toList[k+i]? =some c)(hz:X.length≤2^20)(h2:2≤X.length)(hge:∀i<3,decide (Int.ofNat (k+i)≥Int.ofNat n)=false)(hA:A.length≤1000)(hb:c_ w.params 3 true=w.params):
 bI (model TW w) (bD w.params) os 600 (bQ [a0,a1,a2]) [a0,a1,a2,167] (fL (cT w.params [a0,a1,a2] t X k kt n (some (ck,cl,ct,none)) e A na++ [bE 0]) [(0,fun l=>fz w.params [a0,a1,a2] t X (k+3) (gx l 2) n (some (ck,91,gx l 1,some (gx l 6,k+2,gx l 3,gx l 7,cp 63,gx l 4))) (e+2)),(1,fun l=>bu (A++ [.str (a_ 63) (gx l 5)]) (na+1)),(3,fun l=>bE (gx l 0+1))] 8 gl) (bQ [a0,a1,a2]):=
 ax (cv w hb) (hdp:=640) (U:={hs:=[(aM (aK (Int.ofNat k) (Int.ofNat n) true []) 0 []),(aM (aP X (k+0) 91 []) 1 [0]),(aM (aK (Int.ofNat (k+1)) (Int.ofNat n) true []) 0 []),(aM (aP X (k+1) 63 []) 1 [0]),(aM (aK (Int.ofNat (k+2)) (Int.ofNat n) true []) 0 []),(aM (aP X (k+2) 93 []) 1 [0]),(aM (cC (Int.ofNat (k+2)) (Int.ofNat n) false []) 0 []),(aM (cE X (k+1) 63 [4]) 1 [0]),(aM (aR A na (fun u=> .str (a_ 63) u) [1]) 0 [])],fa:=[]}) ⟨(ac (ag (bv (hlt 0 (by decide)))) (ac (ag (bw (hX 0 _ rfl) hz)) (ac (ag (bv (hlt 1 (by decide)))) (ac (ag (bw (hX 1 _ rfl) hz)) (ac (ag (bv (hlt 2 (by decide)))) (ac (ag (bw (hX 2 _ rfl) hz)) (ac (ag (fx (hge 2 (by decide)))) (ac (ag (fy (hX 1 _ rfl) h2)) (ac (ag (b9 hA)) ak))))))))),ak,al,(fun _ h=>nomatch h),(fun _ h=>nomatch h),(fun _ h=>nomatch h)⟩ 52 [0,36,16,32,51,8,21] (fun T=>aY T 3 2) 401 A_ rfl rfl (by refine bm ?_;kernel_rfl)
theorem EY{m:Nat}(hlt:∀i<3,decide (Int.ofNat (k+i)<Int.ofNat n)=true)(hX:∀i c,[91,63,93][i]? =some c→X.cps.toList[k+i]? =some c)(hz:X.length≤2^20)(h2:2≤X.length)(hge:∀i<3,decide (Int.ofNat (k+i)≥Int.ofNat n)=false)(hA:A.length≤1000)(hb:c_ w.params 3 false=w.params):
 bI (model TW w) (bD w.params) os 600 (bQ [a0,a1,a2]) [a0,a1,a2,167] (fL (cT w.params [a0,a1,a2] t X k kt n (some (ck,cl,ct,none)) e A na++ [bE (m+1)]) [(0,fun l=>fz w.params [a0,a1,a2] t X (k+3) (gx l 2) n (some (ck,91,gx l 1,some (gx l 6,k+2,gx l 3,gx l 7,cp 63,gx l 4))) (e+2)),(1,fun l=>bu (A++ [.str (a_ 63) (gx l 5)]) (na+1)),(3,fun l=>bE (gx l 0+1))] 8 gl) (bQ [a0,a1,a2]):=
 ax (cv w hb) (hdp:=640) (U:={hs:=[(aM (aK (Int.ofNat k) (Int.ofNat n) true []) 0 []),(aM (aP X (k+0) 91 []) 1 [0]),(aM (aK (Int.ofNat (k+1)) (Int.ofNat n) true []) 0 []),(aM (aP X (k+1) 63 []) 1 [0]),(aM (aK (Int.ofNat (k+2)) (Int.ofNat n) true []) 0 []),(aM (aP X (k+2) 93 []) 1 [0]),(aM (cC (Int.ofNat (k+2)) (Int.ofNat n) false []) 0 []),(aM (cE X (k+1) 63 [4]) 1 [0]),(aM (aR A na (fun u=> .str (a_ 63) u) [1]) 0 [])],fa:=[]}) ⟨(ac (ag (bv (hlt 0 (by decide)))) (ac (ag (bw (hX 0 _ rfl) hz)) (ac (ag (bv (hlt 1 (by decide)))) (ac (ag (bw (hX 1 _ rfl) hz)) (ac (ag (bv (hlt 2 (by decide)))) (ac (ag (bw (hX 2 _ rfl) hz)) (ac (ag (fx (hge 2 (by decide)))) (ac (ag (fy (hX 1 _ rfl) h2)) (ac (ag (b9 hA)) ak))))))))),ak,al,(fun _ h=>nomatch h),(fun _ h=>nomatch h),(fun _ h=>nomatch h)⟩ 45 [0,30,16,26,44,8,21] (fun T=>aY T 3 2) 385 oq rfl rfl (by refine bm ?_;kernel_rfl)
theorem D2{m:Nat}(hlt:∀i<3,decide (Int.ofNat (k+i)<Int.ofNat n)=true)(hX:∀i c,[91,63,93][i]? =some c→X.cps.toList[k+i]? =some c)(hz:X.length≤2^20)(h2:2≤X.length)(hge:∀i<3,decide (Int.ofNat (k+i)≥Int.ofNat n)=false)(hA:A.length≤1000)(hb:c_ w.params 3 true=w.params):
 bI (model TW w) (bD w.params) os 600 (bQ [a0,a1,a2]) [a0,a1,a2,167] (fL (cT w.params [a0,a1,a2] t X k kt n (some (ck,cl,ct,none)) e A na++ [bE (m+1)]) [(0,fun l=>fz w.params [a0,a1,a2] t X (k+3) (gx l 2) n (some (ck,91,gx l 1,some (gx l 6,k+2,gx l 3,gx l 7,cp 63,gx l 4))) (e+2)),(1,fun l=>bu (A++ [.str (a_ 63) (gx l 5)]) (na+1)),(3,fun l=>bE (gx l 0+1))] 8 gl) (bQ [a0,a1,a2]):=
 ax (cv w hb) (hdp:=640) (U:={hs:=[(aM (aK (Int.ofNat k) (Int.ofNat n) true []) 0 []),(aM (aP X (k+0) 91 []) 1 [0]),(aM (aK (Int.ofNat (k+1)) (Int.ofNat n) true []) 0 []),(aM (aP X (k+1) 63 []) 1 [0]),(aM (aK (Int.ofNat (k+2)) (Int.ofNat n) true []) 0 []),(aM (aP X (k+2) 93 []) 1 [0]),(aM (cC (Int.ofNat (k+2)) (Int.ofNat n) false []) 0 []),(aM (cE X (k+1) 63 [4]) 1 [0]),(aM (aR A na (fun u=> .str (a_ 63) u) [1]) 0 [])],fa:=[]}) ⟨(ac (ag (bv (hlt 0 (by decide)))) (ac (ag (bw (hX 0 _ rfl) hz)) (ac (ag (bv (hlt 1 (by decide)))) (ac (ag (bw (hX 1 _ rfl) hz)) (ac (ag (bv (hlt 2 (by decide)))) (ac (ag (bw (hX 2 _ rfl) hz)) (ac (ag (fx (hge 2 (by decide)))) (ac (ag (fy (hX 1 _ rfl) h2)) (ac (ag (b9 hA)) ak))))))))),ak,al,(fun _ h=>nomatch h),(fun _ h=>nomatch h),(fun _ h=>nomatch h)⟩ 46 [0,30,16,26,45,8,21] (fun T=>aY T 3 2) 386 oq rfl rfl (by refine bm ?_;kernel_rfl)
theorem Gz{m:Nat}(hlt:∀i<3,decide (Int.ofNat (k+i)<Int.ofNat n)=true)(hX:∀i c,[91,63,93][i]? =some c→X.cps.toList[k+i]? =some c)(hz:X.length≤2^20)(h2:2≤X.length)(hge:∀i<3,decide (Int.ofNat (k+i)≥Int.ofNat n)=false)(hA:A.length≤1000)(hb:c_ w.params 3 false=w.params):
 bI (model TW w) (bD w.params) os 600 (bQ [a0,a1,a2]) [a0,a1,a2,167] (fL (cT w.params [a0,a1,a2] t X k kt n (some (ck,cl,ct,some j)) e A na++ [bE (m+1)]) [(0,fun l=>fz w.params [a0,a1,a2] t X (k+3) (gx l 2) n (some (ck,91,gx l 1,some (j.1,k+2,gx l 3,j.2.2.2.1,cp 63,gx l 4))) e),(1,fun l=>bu (A++ [.str (a_ 63) (gx l 5)]) (na+1)),(3,fun l=>bE (gx l 0+1))] 6 gl) (bQ [a0,a1,a2]):=
 ax (cv w hb) (hdp:=640) (U:={hs:=[(aM (aK (Int.ofNat k) (Int.ofNat n) true []) 0 []),(aM (aP X (k+0) 91 []) 1 [0]),(aM (aK (Int.ofNat (k+1)) (Int.ofNat n) true []) 0 []),(aM (aP X (k+1) 63 []) 1 [0]),(aM (aK (Int.ofNat (k+2)) (Int.ofNat n) true []) 0 []),(aM (aP X (k+2) 93 []) 1 [0]),(aM (cC (Int.ofNat (k+2)) (Int.ofNat n) false []) 0 []),(aM (cE X (k+1) 63 [4]) 1 [0]),(aM (aR A na (fun u=> .str (a_ 63) u) [1]) 0 [])],fa:=[]}) ⟨(ac (ag (bv (hlt 0 (by decide)))) (ac (ag (bw (hX 0 _ rfl) hz)) (ac (ag (bv (hlt 1 (by decide)))) (ac (ag (bw (hX 1 _ rfl) hz)) (ac (ag (bv (hlt 2 (by decide)))) (ac (ag (bw (hX 2 _ rfl) hz)) (ac (ag (fx (hge 2 (by decide)))) (ac (ag (fy (hX 1 _ rfl) h2)) (ac (ag (b9 hA)) ak))))))))),ak,al,(fun _ h=>nomatch h),(fun _ h=>nomatch h),(fun _ h=>nomatch h)⟩ 45 [0,30,16,26,44] (fun T=>aY T 3 2) 385 oq rfl rfl (by refine bm ?_;kernel_rfl)
theorem Fw{m:Nat}(hlt:∀i<3,decide (Int.ofNat (k+i)<Int.ofNat n)=true)(hX:∀i c,[91,63,93][i]? =some c→X.cps.toList[k+i]? =some c)(hz:X.length≤2^20)(h2:2≤X.length)(hge:∀i<3,decide (Int.ofNat (k+i)≥Int.ofNat n)=false)(hA:A.length≤1000)(hb:c_ w.params 3 true=w.params):
 bI (model TW w) (bD w.params) os 600 (bQ [a0,a1,a2]) [a0,a1,a2,167] (fL (cT w.params [a0,a1,a2] t X k kt n (some (ck,cl,ct,some j)) e A na++ [bE (m+1)]) [(0,fun l=>fz w.params [a0,a1,a2] t X (k+3) (gx l 2) n (some (ck,91,gx l 1,some (j.1,k+2,gx l 3,j.2.2.2.1,cp 63,gx l 4))) e),(1,fun l=>bu (A++ [.str (a_ 63) (gx l 5)]) (na+1)),(3,fun l=>bE (gx l 0+1))] 6 gl) (bQ [a0,a1,a2]):=
 ax (cv w hb) (hdp:=640) (U:={hs:=[(aM (aK (Int.ofNat k) (Int.ofNat n) true []) 0 []),(aM (aP X (k+0) 91 []) 1 [0]),(aM (aK (Int.ofNat (k+1)) (Int.ofNat n) true []) 0 []),(aM (aP X (k+1) 63 []) 1 [0]),(aM (aK (Int.ofNat (k+2)) (Int.ofNat n) true []) 0 []),(aM (aP X (k+2) 93 []) 1 [0]),(aM (cC (Int.ofNat (k+2)) (Int.ofNat n) false []) 0 []),(aM (cE X (k+1) 63 [4]) 1 [0]),(aM (aR A na (fun u=> .str (a_ 63) u) [1]) 0 [])],fa:=[]}) ⟨(ac (ag (bv (hlt 0 (by decide)))) (ac (ag (bw (hX 0 _ rfl) hz)) (ac (ag (bv (hlt 1 (by decide)))) (ac (ag (bw (hX 1 _ rfl) hz)) (ac (ag (bv (hlt 2 (by decide)))) (ac (ag (bw (hX 2 _ rfl) hz)) (ac (ag (fx (hge 2 (by decide)))) (ac (ag (fy (hX 1 _ rfl) h2)) (ac (ag (b9 hA)) ak))))))))),ak,al,(fun _ h=>nomatch h),(fun _ h=>nomatch h),(fun _ h=>nomatch h)⟩ 46 [0,30,16,26,45] (fun T=>aY T 3 2) 386 oq rfl rfl (by refine bm ?_;kernel_rfl)
theorem E_(hlt:∀i<3,decide (Int.ofNat (k+i)<Int.ofNat n)=true)(hX:∀i c,[91,91,93][i]? =some c→X.cps.toList[k+i]? =some c)(hz:X.length≤2^20)(h2:2≤X.length)(hge:∀i<3,decide (Int.ofNat (k+i)≥Int.ofNat n)=false)(hA:A.length≤1000)(hb:c_ w.params 3 false=w.params):
 bI (model TW w) (bD w.params) os 600 (bQ [a0,a1,a2]) [a0,a1,a2,167] (fL (cT w.params [a0,a1,a2] t X k kt n (some (ck,cl,ct,none)) e A na++ [bE 0]) [(0,fun l=>fz w.params [a0,a1,a2] t X (k+3) (gx l 2) n (some (ck,91,gx l 1,some (gx l 6,k+2,gx l 3,gx l 7,cp 91,gx l 4))) (e+2)),(1,fun l=>bu (A++ [.str (a_ 91) (gx l 5)]) (na+1)),(3,fun l=>bE (gx l 0+1))] 8 gl) (bQ [a0,a1,a2]):=
 ax (cv w hb) (hdp:=640) (U:={hs:=[(aM (aK (Int.ofNat k) (Int.ofNat n) true []) 0 []),(aM (aP X (k+0) 91 []) 1 [0]),(aM (aK (Int.ofNat (k+1)) (Int.ofNat n) true []) 0 []),(aM (aP X (k+1) 91 []) 1 [0]),(aM (aK (Int.ofNat (k+2)) (Int.ofNat n) true []) 0 []),(aM (aP X (k+2) 93 []) 1 [0]),(aM (cC (Int.ofNat (k+2)) (Int.ofNat n) false []) 0 []),(aM (cE X (k+1) 91 [4]) 1 [0]),(aM (ca [13]) 0 []),(aM (aR A na (fun u=> .str (a_ 91) u) [1]) 0 [])],fa:=[]}) ⟨(ac (ag (bv (hlt 0 (by decide)))) (ac (ag (bw (hX 0 _ rfl) hz)) (ac (ag (bv (hlt 1 (by decide)))) (ac (ag (bw (hX 1 _ rfl) hz)) (ac (ag (bv (hlt 2 (by decide)))) (ac (ag (bw (hX 2 _ rfl) hz)) (ac (ag (fx (hge 2 (by decide)))) (ac (ag (fy (hX 1 _ rfl) h2)) (ac (ag jU) (ac (ag (b9 hA)) ak)))))))))),ak,al,(fun _ h=>nomatch h),(fun _ h=>nomatch h),(fun _ h=>nomatch h)⟩ 54 [0,36,16,49,53,8,21] (fun T=>aY T 3 2) 405 Ll rfl rfl (by refine bm ?_;kernel_rfl)
theorem Ez(hlt:∀i<3,decide (Int.ofNat (k+i)<Int.ofNat n)=true)(hX:∀i c,[91,91,93][i]? =some c→X.cps.toList[k+i]? =some c)(hz:X.length≤2^20)(h2:2≤X.length)(hge:∀i<3,decide (Int.ofNat (k+i)≥Int.ofNat n)=false)(hA:A.length≤1000)(hb:c_ w.params 3 true=w.params):
 bI (model TW w) (bD w.params) os 600 (bQ [a0,a1,a2]) [a0,a1,a2,167] (fL (cT w.params [a0,a1,a2] t X k kt n (some (ck,cl,ct,none)) e A na++ [bE 0]) [(0,fun l=>fz w.params [a0,a1,a2] t X (k+3) (gx l 2) n (some (ck,91,gx l 1,some (gx l 6,k+2,gx l 3,gx l 7,cp 91,gx l 4))) (e+2)),(1,fun l=>bu (A++ [.str (a_ 91) (gx l 5)]) (na+1)),(3,fun l=>bE (gx l 0+1))] 8 gl) (bQ [a0,a1,a2]):=
 ax (cv w hb) (hdp:=640) (U:={hs:=[(aM (aK (Int.ofNat k) (Int.ofNat n) true []) 0 []),(aM (aP X (k+0) 91 []) 1 [0]),(aM (aK (Int.ofNat (k+1)) (Int.ofNat n) true []) 0 []),(aM (aP X (k+1) 91 []) 1 [0]),(aM (aK (Int.ofNat (k+2)) (Int.ofNat n) true []) 0 []),(aM (aP X (k+2) 93 []) 1 [0]),(aM (cC (Int.ofNat (k+2)) (Int.ofNat n) false []) 0 []),(aM (cE X (k+1) 91 [4]) 1 [0]),(aM (ca [13]) 0 []),(aM (aR A na (fun u=> .str (a_ 91) u) [1]) 0 [])],fa:=[]}) ⟨(ac (ag (bv (hlt 0 (by decide)))) (ac (ag (bw (hX 0 _ rfl) hz)) (ac (ag (bv (hlt 1 (by decide)))) (ac (ag (bw (hX 1 _ rfl) hz)) (ac (ag (bv (hlt 2 (by decide)))) (ac (ag (bw (hX 2 _ rfl) hz)) (ac (ag (fx (hge 2 (by decide)))) (ac (ag (fy (hX 1 _ rfl) h2)) (ac (ag jU) (ac (ag (b9 hA)) ak)))))))))),ak,al,(fun _ h=>nomatch h),(fun _ h=>nomatch h),(fun _ h=>nomatch h)⟩ 55 [0,36,16,49,54,8,21] (fun T=>aY T 3 2) 406 Ll rfl rfl (by refine bm ?_;kernel_rfl)
theorem Ga{m:Nat}(hlt:∀i<3,decide (Int.ofNat (k+i)<Int.ofNat n)=true)(hX:∀i c,[91,91,93][i]? =some c→X.cps.toList[k+i]? =some c)(hz:X.length≤2^20)(h2:2≤X.length)(hge:∀i<3,decide (Int.ofNat (k+i)≥Int.ofNat n)=false)(hA:A.length≤1000)(hb:c_ w.params 3 false=w.params):
 bI (model TW w) (bD w.params) os 600 (bQ [a0,a1,a2]) [a0,a1,a2,167] (fL (cT w.params [a0,a1,a2] t X k kt n (some (ck,cl,ct,none)) e A na++ [bE (m+1)]) [(0,fun l=>fz w.params [a0,a1,a2] t X (k+3) (gx l 2) n (some (ck,91,gx l 1,some (gx l 6,k+2,gx l 3,gx l 7,cp 91,gx l 4))) (e+2)),(1,fun l=>bu (A++ [.str (a_ 91) (gx l 5)]) (na+1)),(3,fun l=>bE (gx l 0+1))] 8 gl) (bQ [a0,a1,a2]):=
 ax (cv w hb) (hdp:=640) (U:={hs:=[(aM (aK (Int.ofNat k) (Int.ofNat n) true []) 0 []),(aM (aP X (k+0) 91 []) 1 [0]),(aM (aK (Int.ofNat (k+1)) (Int.ofNat n) true []) 0 []),(aM (aP X (k+1) 91 []) 1 [0]),(aM (aK (Int.ofNat (k+2)) (Int.ofNat n) true []) 0 []),(aM (aP X (k+2) 93 []) 1 [0]),(aM (cC (Int.ofNat (k+2)) (Int.ofNat n) false []) 0 []),(aM (cE X (k+1) 91 [4]) 1 [0]),(aM (ca [7]) 0 []),(aM (aR A na (fun u=> .str (a_ 91) u) [1]) 0 [])],fa:=[]}) ⟨(ac (ag (bv (hlt 0 (by decide)))) (ac (ag (bw (hX 0 _ rfl) hz)) (ac (ag (bv (hlt 1 (by decide)))) (ac (ag (bw (hX 1 _ rfl) hz)) (ac (ag (bv (hlt 2 (by decide)))) (ac (ag (bw (hX 2 _ rfl) hz)) (ac (ag (fx (hge 2 (by decide)))) (ac (ag (fy (hX 1 _ rfl) h2)) (ac (ag jU) (ac (ag (b9 hA)) ak)))))))))),ak,al,(fun _ h=>nomatch h),(fun _ h=>nomatch h),(fun _ h=>nomatch h)⟩ 48 [0,30,16,43,47,8,21] (fun T=>aY T 3 2) 390 Bw rfl rfl (by refine bm ?_;kernel_rfl)
theorem GD{m:Nat}(hlt:∀i<3,decide (Int.ofNat (k+i)<Int.ofNat n)=true)(hX:∀i c,[91,91,93][i]? =some c→X.cps.toList[k+i]? =some c)(hz:X.length≤2^20)(h2:2≤X.length)(hge:∀i<3,decide (Int.ofNat (k+i)≥Int.ofNat n)=false)(hA:A.length≤1000)(hb:c_ w.params 3 true=w.params):
 bI (model TW w) (bD w.params) os 600 (bQ [a0,a1,a2]) [a0,a1,a2,167] (fL (cT w.params [a0,a1,a2] t X k kt n (some (ck,cl,ct,none)) e A na++ [bE (m+1)]) [(0,fun l=>fz w.params [a0,a1,a2] t X (k+3) (gx l 2) n (some (ck,91,gx l 1,some (gx l 6,k+2,gx l 3,gx l 7,cp 91,gx l 4))) (e+2)),(1,fun l=>bu (A++ [.str (a_ 91) (gx l 5)]) (na+1)),(3,fun l=>bE (gx l 0+1))] 8 gl) (bQ [a0,a1,a2]):=
 ax (cv w hb) (hdp:=640) (U:={hs:=[(aM (aK (Int.ofNat k) (Int.ofNat n) true []) 0 []),(aM (aP X (k+0) 91 []) 1 [0]),(aM (aK (Int.ofNat (k+1)) (Int.ofNat n) true []) 0 []),(aM (aP X (k+1) 91 []) 1 [0]),(aM (aK (Int.ofNat (k+2)) (Int.ofNat n) true []) 0 []),(aM (aP X (k+2) 93 []) 1 [0]),(aM (cC (Int.ofNat (k+2)) (Int.ofNat n) false []) 0 []),(aM (cE X (k+1) 91 [4]) 1 [0]),(aM (ca [7]) 0 []),(aM (aR A na (fun u=> .str (a_ 91) u) [1]) 0 [])],fa:=[]}) ⟨(ac (ag (bv (hlt 0 (by decide)))) (ac (ag (bw (hX 0 _ rfl) hz)) (ac (ag (bv (hlt 1 (by decide)))) (ac (ag (bw (hX 1 _ rfl) hz)) (ac (ag (bv (hlt 2 (by decide)))) (ac (ag (bw (hX 2 _ rfl) hz)) (ac (ag (fx (hge 2 (by decide)))) (ac (ag (fy (hX 1 _ rfl) h2)) (ac (ag jU) (ac (ag (b9 hA)) ak)))))))))),ak,al,(fun _ h=>nomatch h),(fun _ h=>nomatch h),(fun _ h=>nomatch h)⟩ 49 [0,30,16,43,48,8,21] (fun T=>aY T 3 2) 391 Bw rfl rfl (by refine bm ?_;kernel_rfl)
theorem GO{m:Nat}(hlt:∀i<3,decide (Int.ofNat (k+i)<Int.ofNat n)=true)(hX:∀i c,[91,91,93][i]? =some c→X.cps.toList[k+i]? =some c)(hz:X.length≤2^20)(h2:2≤X.length)(hge:∀i<3,decide (Int.ofNat (k+i)≥Int.ofNat n)=false)(hA:A.length≤1000)(hb:c_ w.params 3 false=w.params):
 bI (model TW w) (bD w.params) os 600 (bQ [a0,a1,a2]) [a0,a1,a2,167] (fL (cT w.params [a0,a1,a2] t X k kt n (some (ck,cl,ct,some j)) e A na++ [bE (m+1)]) [(0,fun l=>fz w.params [a0,a1,a2] t X (k+3) (gx l 2) n (some (ck,91,gx l 1,some (j.1,k+2,gx l 3,j.2.2.2.1,cp 91,gx l 4))) e),(1,fun l=>bu (A++ [.str (a_ 91) (gx l 5)]) (na+1)),(3,fun l=>bE (gx l 0+1))] 6 gl) (bQ [a0,a1,a2]):=
 ax (cv w hb) (hdp:=640) (U:={hs:=[(aM (aK (Int.ofNat k) (Int.ofNat n) true []) 0 []),(aM (aP X (k+0) 91 []) 1 [0]),(aM (aK (Int.ofNat (k+1)) (Int.ofNat n) true []) 0 []),(aM (aP X (k+1) 91 []) 1 [0]),(aM (aK (Int.ofNat (k+2)) (Int.ofNat n) true []) 0 []),(aM (aP X (k+2) 93 []) 1 [0]),(aM (cC (Int.ofNat (k+2)) (Int.ofNat n) false []) 0 []),(aM (cE X (k+1) 91 [4]) 1 [0]),(aM (ca [7]) 0 []),(aM (aR A na (fun u=> .str (a_ 91) u) [1]) 0 [])],fa:=[]}) ⟨(ac (ag (bv (hlt 0 (by decide)))) (ac (ag (bw (hX 0 _ rfl) hz)) (ac (ag (bv (hlt 1 (by decide)))) (ac (ag (bw (hX 1 _ rfl) hz)) (ac (ag (bv (hlt 2 (by decide)))) (ac (ag (bw (hX 2 _ rfl) hz)) (ac (ag (fx (hge 2 (by decide)))) (ac (ag (fy (hX 1 _ rfl) h2)) (ac (ag jU) (ac (ag (b9 hA)) ak)))))))))),ak,al,(fun _ h=>nomatch h),(fun _ h=>nomatch h),(fun _ h=>nomatch h)⟩ 48 [0,30,16,43,47] (fun T=>aY T 3 2) 390 Bw rfl rfl (by refine bm ?_;kernel_rfl)
theorem F6{m:Nat}(hlt:∀i<3,decide (Int.ofNat (k+i)<Int.ofNat n)=true)(hX:∀i c,[91,91,93][i]? =some c→X.cps.toList[k+i]? =some c)(hz:X.length≤2^20)(h2:2≤X.length)(hge:∀i<3,decide (Int.ofNat (k+i)≥Int.ofNat n)=false)(hA:A.length≤1000)(hb:c_ w.params 3 true=w.params):
 bI (model TW w) (bD w.params) os 600 (bQ [a0,a1,a2]) [a0,a1,a2,167] (fL (cT w.params [a0,a1,a2] t X k kt n (some (ck,cl,ct,some j)) e A na++ [bE (m+1)]) [(0,fun l=>fz w.params [a0,a1,a2] t X (k+3) (gx l 2) n (some (ck,91,gx l 1,some (j.1,k+2,gx l 3,j.2.2.2.1,cp 91,gx l 4))) e),(1,fun l=>bu (A++ [.str (a_ 91) (gx l 5)]) (na+1)),(3,fun l=>bE (gx l 0+1))] 6 gl) (bQ [a0,a1,a2]):=
 ax (cv w hb) (hdp:=640) (U:={hs:=[(aM (aK (Int.ofNat k) (Int.ofNat n) true []) 0 []),(aM (aP X (k+0) 91 []) 1 [0]),(aM (aK (Int.ofNat (k+1)) (Int.ofNat n) true []) 0 []),(aM (aP X (k+1) 91 []) 1 [0]),(aM (aK (Int.ofNat (k+2)) (Int.ofNat n) true []) 0 []),(aM (aP X (k+2) 93 []) 1 [0]),(aM (cC (Int.ofNat (k+2)) (Int.ofNat n) false []) 0 []),(aM (cE X (k+1) 91 [4]) 1 [0]),(aM (ca [7]) 0 []),(aM (aR A na (fun u=> .str (a_ 91) u) [1]) 0 [])],fa:=[]}) ⟨(ac (ag (bv (hlt 0 (by decide)))) (ac (ag (bw (hX 0 _ rfl) hz)) (ac (ag (bv (hlt 1 (by decide)))) (ac (ag (bw (hX 1 _ rfl) hz)) (ac (ag (bv (hlt 2 (by decide)))) (ac (ag (bw (hX 2 _ rfl) hz)) (ac (ag (fx (hge 2 (by decide)))) (ac (ag (fy (hX 1 _ rfl) h2)) (ac (ag jU) (ac (ag (b9 hA)) ak)))))))))),ak,al,(fun _ h=>nomatch h),(fun _ h=>nomatch h),(fun _ h=>nomatch h)⟩ 49 [0,30,16,43,48] (fun T=>aY T 3 2) 391 Bw rfl rfl (by refine bm ?_;kernel_rfl)
end
end
section
open PySem.SeqAt PySem.MeetsSeq PySem.Calls PyProof.Rows
theorem bJ{w:Wd}{os:OS}{gl:LG}{dep:Nat}{ad ex:LN}{obs exo:LL}{S:Spec}{c c₂:Code}{s0 s:Ś}{Q:Re→Ś→Prop}(T:bI (model TW w) (bD w.params) os dep c ad S c₂)(nd:(ad++ex).Nodup)(hk:∀a∈ad++ex,∀o,(bD w.params).get a≠some o)(hg:S.gl=gl)(hg':S.gl'=gl)(hpre:S.pre=obs)(hp:S.post.length=ad.length)(hl:ad.length=obs.length)
 (R:RT w os gl (ad++ex) s0 (obs++exo) s)(next:∀l s',l.length=S.nt→s.toks≤s'.toks→(∀j,0<j→j<S.nt→s.toks≤gx l j)→RT w os gl (ad++ex) s0 (S.post.map (· l)++exo) s'→codeAny (model TW w) (AG dep) c₂ Q s'):codeAny (model TW w) (AG dep) c Q s:=by
 subst hpre
 obtain⟨n1,n2,n3⟩:=List.nodup_append.mp nd
 have f1:∀p∈ad.zip S.pre,s.heap.get? p.1=some p.2:=fun p hp=>R.f p (by rw[List.zip_append hl];exact List.mem_append_left _ hp)
 have f2:∀p∈ex.zip exo,s.heap.get? p.1=some p.2:=fun p hp=>R.f p (by rw[List.zip_append hl];exact List.mem_append_right _ hp)
 refine T s Q R.kh (by rw[hg];exact R.g) hl f1 n1 (fun a ha=>hk a (List.mem_append_left _ ha)) fun s' l hln ht hfr E=> ?_
 have len:ad.length=(S.post.map (· l)).length:=by rw[List.length_map];exact hp.symm
 have k:Keeps ad s s':=⟨fun b o h hb=>E.keep b o h (by rw[List.map_fst_zip (by omega)];exact hb),E.size,E.os,fun _=>E.tk⟩
 refine next l s' hln ht hfr ⟨dP R.kh k (fun a ha=>hk a (List.mem_append_left _ ha)) E.gens E.gok,by rw[E.gens,hg'],R.k.trans k fun x hx=>List.mem_append_left _ hx,fun p hp=> ?_⟩
 rw[List.zip_append len] at hp
 rcases List.mem_append.mp hp with hp|hp
 ·exact E.now p (List.mem_append_left _ hp)
 ·exact k.keep _ _ (f2 p hp) fun hm=>n3 _ hm _ (List.of_mem_zip hp).1 rfl
noncomputable def dn(sh:Sh)(m:Nat):Prop:=∃ck cl ct jo,sh=some (ck,cl,ct,jo)∧(jo=none∨((∃jk jv jt sk cs stt,jo=some (jk,jv,jt,sk,cp cs,stt))∧m≠0))
noncomputable def qn(c:Nat):Bool:=c==42||c==63||c==91
noncomputable def g9(c:Nat):Nat:=match qn c with
 |true=>3
 |false=>1
noncomputable def vq(c:Nat):LN:=match qn c with
 |true=> [91,c,93]
 |false=> [c]
structure WS(w:Wd)(os:OS)(gl:LG)(t:NN)(X:Str)(n:Nat)(a0 a1 a2:Nat)(s0:Ś)(k:Nat)(A:LV)(sh:Sh)(m:Nat)(s:Ś):Prop where
 at_:∃kt e na,RT w os gl [a0,a1,a2,167] s0 (cT w.params [a0,a1,a2] t X k kt n sh e A na++ [bE m]) s
 tk:t 3<s.toks
section
variable{w:Wd}{os:OS}{gl:LG}{t:NN}{X:Str}{n a0 a1 a2:Nat}{s0:Ś}(nd:[a0,a1,a2,167].Nodup)(hk:∀a∈[a0,a1,a2,167],∀o,(bD w.params).get a≠some o)(hX:X.length=n)(hz:n≤2^20)
include nd hk hX hz
theorem ff{k i c:Nat}(h:X.cps.toList[k+i]? =some c):decide (Int.ofNat (k+i)<Int.ofNat n)=true:=by
 have h1:k+i<X.cps.toList.length:=(List.getElem?_eq_some_iff.mp h).1
 have h2:X.length=X.cps.toList.length:=rfl
 refine decide_eq_true ?_
 show((k+i:Nat):Int)<(n:Int)
 omega
theorem Ev{k i c:Nat}(h:X.cps.toList[k+i]? =some c):decide (Int.ofNat (k+i)≥Int.ofNat n)=false:=by
 have h1:k+i<X.cps.toList.length:=(List.getElem?_eq_some_iff.mp h).1
 have h2:X.length=X.cps.toList.length:=rfl
 refine decide_eq_false ?_
 show ¬((k+i:Nat):Int)≥(n:Int)
 omega
theorem I7{m:Nat}{s:Ś}{Q:Re→Ś→Prop}(hc:∀i c,[42][i]? =some c→X.cps.toList[0+i]? =some c)(N:WS w os gl t X n a0 a1 a2 s0 0 [] none m s)
 (next:∀sh s',WS w os gl t X n a0 a1 a2 s0 1 [.str ⟨⟨[42]⟩⟩ (t 3)] sh m s'→dn sh m→codeAny (model TW w) (AG 600) (bQ [a0,a1,a2]) Q s'):codeAny (model TW w) (AG 600) (bQ [a0,a1,a2]) Q s:=by
 obtain⟨⟨kt,e,na,R⟩,htk⟩:=N
 have hlt:∀i<1,decide (Int.ofNat (0+i)<Int.ofNat n)=true:=fun i hi=>by
  obtain rfl:i=0:=by omega
  exact ff nd hk hX hz (i:=0) (hc 0 42 rfl)
 refine bJ (ad:=[a0,a1,a2]) (ex:=[167]) (Xl (gl:=gl) (na:=na) (kt:=kt) (e:=e) (t:=t) (n:=n) (k:=0) hlt hc (by omega)) nd hk rfl rfl rfl rfl rfl R fun l s' hl ht hfr R'=> ?_
 exact next _ s' ⟨⟨_,_,_,R'⟩,Nat.lt_of_lt_of_le htk ht⟩ ⟨_,_,_,_,rfl,.inl rfl⟩
theorem HC{v0:Vl}{x:Str}{xt k m:Nat}{sh:Sh}{s:Ś}{Q:Re→Ś→Prop}(hc:X.cps.toList[k]? =some 42)(N:WS w os gl t X n a0 a1 a2 s0 k [v0,.str x xt] sh m s)(hS:dn sh m)(h1:x≠⟨⟨[42]⟩⟩)(h2:t 3<xt)(h4:t 3≠0)
 (next:∀sh s',WS w os gl t X n a0 a1 a2 s0 (k+1) [v0,.str x xt,.str ⟨⟨[42]⟩⟩ (t 3)] sh m s'→dn sh m→codeAny (model TW w) (AG 600) (bQ [a0,a1,a2]) Q s'):codeAny (model TW w) (AG 600) (bQ [a0,a1,a2]) Q s:=by
 obtain⟨⟨kt,e,na,R⟩,htk⟩:=N
 have hc':∀i c,[42][i]? =some c→X.cps.toList[k+i]? =some c:=fun i c hi=>by
  match i,hi with
  |0,hi=>cases hi;exact hc
 have hlt:∀i<1,decide (Int.ofNat (k+i)<Int.ofNat n)=true:=fun i hi=>by
  obtain rfl:i=0:=by omega
  exact ff nd hk hX hz (i:=0) hc
 obtain⟨ck,cl,ct,jo,rfl,hj⟩:=hS
 cases jo with
 |none=>
  refine bJ (ad:=[a0,a1,a2]) (ex:=[167]) (Th (gl:=gl) (na:=na) (kt:=kt) (e:=e) (t:=t) (n:=n) hlt hc' (by omega) h1 (by omega) (by omega) h4) nd hk rfl rfl rfl rfl rfl R fun l s' hl ht hfr R'=> ?_
  exact next _ s' ⟨⟨_,_,_,R'⟩,Nat.lt_of_lt_of_le htk ht⟩ ⟨_,_,_,_,rfl,.inl rfl⟩
 |some j=>
  refine bJ (ad:=[a0,a1,a2]) (ex:=[167]) (SJ (gl:=gl) (na:=na) (kt:=kt) (e:=e) (t:=t) (n:=n) hlt hc' (by omega) h1 (by omega) (by omega) h4) nd hk rfl rfl rfl rfl rfl R fun l s' hl ht hfr R'=> ?_
  exact next _ s' ⟨⟨_,_,_,R'⟩,Nat.lt_of_lt_of_le htk ht⟩ ⟨_,_,_,_,rfl,hj⟩
theorem HT{v0 v1 v2:Vl}{x:Str}{xt k m:Nat}{sh:Sh}{s:Ś}{Q:Re→Ś→Prop}(hc:X.cps.toList[k]? =some 42)(N:WS w os gl t X n a0 a1 a2 s0 k [v0,v1,v2,.str x xt] sh m s)(hS:dn sh m)(h1:x≠⟨⟨[42]⟩⟩)(h2:t 3<xt)(h4:t 3≠0)
 (next:∀sh s',WS w os gl t X n a0 a1 a2 s0 (k+1) [v0,v1,v2,.str x xt,.str ⟨⟨[42]⟩⟩ (t 3)] sh m s'→dn sh m→codeAny (model TW w) (AG 600) (bQ [a0,a1,a2]) Q s'):codeAny (model TW w) (AG 600) (bQ [a0,a1,a2]) Q s:=by
 obtain⟨⟨kt,e,na,R⟩,htk⟩:=N
 have hc':∀i c,[42][i]? =some c→X.cps.toList[k+i]? =some c:=fun i c hi=>by
  match i,hi with
  |0,hi=>cases hi;exact hc
 have hlt:∀i<1,decide (Int.ofNat (k+i)<Int.ofNat n)=true:=fun i hi=>by
  obtain rfl:i=0:=by omega
  exact ff nd hk hX hz (i:=0) hc
 obtain⟨ck,cl,ct,jo,rfl,hj⟩:=hS
 cases jo with
 |none=>
  refine bJ (ad:=[a0,a1,a2]) (ex:=[167]) (QT (gl:=gl) (na:=na) (kt:=kt) (e:=e) (t:=t) (n:=n) hlt hc' (by omega) h1 (by omega) (by omega) h4) nd hk rfl rfl rfl rfl rfl R fun l s' hl ht hfr R'=> ?_
  exact next _ s' ⟨⟨_,_,_,R'⟩,Nat.lt_of_lt_of_le htk ht⟩ ⟨_,_,_,_,rfl,.inl rfl⟩
 |some j=>
  refine bJ (ad:=[a0,a1,a2]) (ex:=[167]) (RJ (gl:=gl) (na:=na) (kt:=kt) (e:=e) (t:=t) (n:=n) hlt hc' (by omega) h1 (by omega) (by omega) h4) nd hk rfl rfl rfl rfl rfl R fun l s' hl ht hfr R'=> ?_
  exact next _ s' ⟨⟨_,_,_,R'⟩,Nat.lt_of_lt_of_le htk ht⟩ ⟨_,_,_,_,rfl,hj⟩
theorem Il{v0 v1 v2 v3 v4:Vl}{x:Str}{xt k m:Nat}{sh:Sh}{s:Ś}{Q:Re→Ś→Prop}(hc:X.cps.toList[k]? =some 42)(N:WS w os gl t X n a0 a1 a2 s0 k [v0,v1,v2,v3,v4,.str x xt] sh m s)(hS:dn sh m)(h1:x≠⟨⟨[42]⟩⟩)(h2:t 3<xt)(h4:t 3≠0)
 (next:∀sh s',WS w os gl t X n a0 a1 a2 s0 (k+1) [v0,v1,v2,v3,v4,.str x xt,.str ⟨⟨[42]⟩⟩ (t 3)] sh m s'→dn sh m→codeAny (model TW w) (AG 600) (bQ [a0,a1,a2]) Q s'):codeAny (model TW w) (AG 600) (bQ [a0,a1,a2]) Q s:=by
 obtain⟨⟨kt,e,na,R⟩,htk⟩:=N
 have hc':∀i c,[42][i]? =some c→X.cps.toList[k+i]? =some c:=fun i c hi=>by
  match i,hi with
  |0,hi=>cases hi;exact hc
 have hlt:∀i<1,decide (Int.ofNat (k+i)<Int.ofNat n)=true:=fun i hi=>by
  obtain rfl:i=0:=by omega
  exact ff nd hk hX hz (i:=0) hc
 obtain⟨ck,cl,ct,jo,rfl,hj⟩:=hS
 cases jo with
 |none=>
  refine bJ (ad:=[a0,a1,a2]) (ex:=[167]) (Up (gl:=gl) (na:=na) (kt:=kt) (e:=e) (t:=t) (n:=n) hlt hc' (by omega) h1 (by omega) (by omega) h4) nd hk rfl rfl rfl rfl rfl R fun l s' hl ht hfr R'=> ?_
  exact next _ s' ⟨⟨_,_,_,R'⟩,Nat.lt_of_lt_of_le htk ht⟩ ⟨_,_,_,_,rfl,.inl rfl⟩
 |some j=>
  refine bJ (ad:=[a0,a1,a2]) (ex:=[167]) (QP (gl:=gl) (na:=na) (kt:=kt) (e:=e) (t:=t) (n:=n) hlt hc' (by omega) h1 (by omega) (by omega) h4) nd hk rfl rfl rfl rfl rfl R fun l s' hl ht hfr R'=> ?_
  exact next _ s' ⟨⟨_,_,_,R'⟩,Nat.lt_of_lt_of_le htk ht⟩ ⟨_,_,_,_,rfl,hj⟩
theorem V7{A:LV}{k m:Nat}{sh:Sh}{s:Ś}{Q:Re→Ś→Prop}(hA:A.length≤1000)(hc:∀i c,[33][i]? =some c→X.cps.toList[k+i]? =some c)(N:WS w os gl t X n a0 a1 a2 s0 k A sh m s)(hS:dn sh m)
 (next:∀u sh m s',t 3<u→WS w os gl t X n a0 a1 a2 s0 (k+1) (A++ [.str (a_ 33) u]) sh m s'→dn sh m→codeAny (model TW w) (AG 600) (bQ [a0,a1,a2]) Q s'):codeAny (model TW w) (AG 600) (bQ [a0,a1,a2]) Q s:=by
 obtain⟨⟨kt,e,na,R⟩,htk⟩:=N
 have hlt:∀i<1,decide (Int.ofNat (k+i)<Int.ofNat n)=true:=fun i hi=>by
  obtain rfl:i=0:=by omega
  exact ff nd hk hX hz (i:=0) (hc 0 33 rfl)
 obtain⟨ck,cl,ct,jo,rfl,hj⟩:=hS
 cases jo with
 |none=>
  refine bJ (ad:=[a0,a1,a2]) (ex:=[167]) (Mg (gl:=gl) (na:=na) (kt:=kt) (e:=e) (t:=t) (n:=n) hlt hc (by omega) hA) nd hk rfl rfl rfl rfl rfl R fun l s' hl ht hfr R'=> ?_
  exact next (gx l 3) _ _ s' (Nat.lt_of_lt_of_le htk (hfr 3 (by decide) (by show 3<4;decide))) ⟨⟨_,_,_,R'⟩,Nat.lt_of_lt_of_le htk ht⟩ ⟨_,_,_,_,rfl,.inl rfl⟩
 |some j=>
  refine bJ (ad:=[a0,a1,a2]) (ex:=[167]) (PI (gl:=gl) (na:=na) (kt:=kt) (e:=e) (t:=t) (n:=n) hlt hc (by omega) hA) nd hk rfl rfl rfl rfl rfl R fun l s' hl ht hfr R'=> ?_
  exact next (gx l 3) _ _ s' (Nat.lt_of_lt_of_le htk (hfr 3 (by decide) (by show 3<4;decide))) ⟨⟨_,_,_,R'⟩,Nat.lt_of_lt_of_le htk ht⟩ ⟨_,_,_,_,rfl,hj⟩
theorem ZP{A:LV}{k m:Nat}{sh:Sh}{s:Ś}{Q:Re→Ś→Prop}(hA:A.length≤1000)(hc:∀i c,[45][i]? =some c→X.cps.toList[k+i]? =some c)(N:WS w os gl t X n a0 a1 a2 s0 k A sh m s)(hS:dn sh m)
 (next:∀u sh m s',t 3<u→WS w os gl t X n a0 a1 a2 s0 (k+1) (A++ [.str (a_ 45) u]) sh m s'→dn sh m→codeAny (model TW w) (AG 600) (bQ [a0,a1,a2]) Q s'):codeAny (model TW w) (AG 600) (bQ [a0,a1,a2]) Q s:=by
 obtain⟨⟨kt,e,na,R⟩,htk⟩:=N
 have hlt:∀i<1,decide (Int.ofNat (k+i)<Int.ofNat n)=true:=fun i hi=>by
  obtain rfl:i=0:=by omega
  exact ff nd hk hX hz (i:=0) (hc 0 45 rfl)
 obtain⟨ck,cl,ct,jo,rfl,hj⟩:=hS
 cases jo with
 |none=>
  refine bJ (ad:=[a0,a1,a2]) (ex:=[167]) (MZ (gl:=gl) (na:=na) (kt:=kt) (e:=e) (t:=t) (n:=n) hlt hc (by omega) hA) nd hk rfl rfl rfl rfl rfl R fun l s' hl ht hfr R'=> ?_
  exact next (gx l 3) _ _ s' (Nat.lt_of_lt_of_le htk (hfr 3 (by decide) (by show 3<4;decide))) ⟨⟨_,_,_,R'⟩,Nat.lt_of_lt_of_le htk ht⟩ ⟨_,_,_,_,rfl,.inl rfl⟩
 |some j=>
  refine bJ (ad:=[a0,a1,a2]) (ex:=[167]) (Pw (gl:=gl) (na:=na) (kt:=kt) (e:=e) (t:=t) (n:=n) hlt hc (by omega) hA) nd hk rfl rfl rfl rfl rfl R fun l s' hl ht hfr R'=> ?_
  exact next (gx l 3) _ _ s' (Nat.lt_of_lt_of_le htk (hfr 3 (by decide) (by show 3<4;decide))) ⟨⟨_,_,_,R'⟩,Nat.lt_of_lt_of_le htk ht⟩ ⟨_,_,_,_,rfl,hj⟩
theorem Yr{A:LV}{k m:Nat}{sh:Sh}{s:Ś}{Q:Re→Ś→Prop}(hA:A.length≤1000)(hc:∀i c,[93][i]? =some c→X.cps.toList[k+i]? =some c)(N:WS w os gl t X n a0 a1 a2 s0 k A sh m s)(hS:dn sh m)
 (next:∀u sh m s',t 3<u→WS w os gl t X n a0 a1 a2 s0 (k+1) (A++ [.str (a_ 93) u]) sh m s'→dn sh m→codeAny (model TW w) (AG 600) (bQ [a0,a1,a2]) Q s'):codeAny (model TW w) (AG 600) (bQ [a0,a1,a2]) Q s:=by
 obtain⟨⟨kt,e,na,R⟩,htk⟩:=N
 have hlt:∀i<1,decide (Int.ofNat (k+i)<Int.ofNat n)=true:=fun i hi=>by
  obtain rfl:i=0:=by omega
  exact ff nd hk hX hz (i:=0) (hc 0 93 rfl)
 obtain⟨ck,cl,ct,jo,rfl,hj⟩:=hS
 cases jo with
 |none=>
  refine bJ (ad:=[a0,a1,a2]) (ex:=[167]) (OI (gl:=gl) (na:=na) (kt:=kt) (e:=e) (t:=t) (n:=n) hlt hc (by omega) hA) nd hk rfl rfl rfl rfl rfl R fun l s' hl ht hfr R'=> ?_
  exact next (gx l 3) _ _ s' (Nat.lt_of_lt_of_le htk (hfr 3 (by decide) (by show 3<4;decide))) ⟨⟨_,_,_,R'⟩,Nat.lt_of_lt_of_le htk ht⟩ ⟨_,_,_,_,rfl,.inl rfl⟩
 |some j=>
  refine bJ (ad:=[a0,a1,a2]) (ex:=[167]) (MY (gl:=gl) (na:=na) (kt:=kt) (e:=e) (t:=t) (n:=n) hlt hc (by omega) hA) nd hk rfl rfl rfl rfl rfl R fun l s' hl ht hfr R'=> ?_
  exact next (gx l 3) _ _ s' (Nat.lt_of_lt_of_le htk (hfr 3 (by decide) (by show 3<4;decide))) ⟨⟨_,_,_,R'⟩,Nat.lt_of_lt_of_le htk ht⟩ ⟨_,_,_,_,rfl,hj⟩
theorem w_a{A:LV}{k m:Nat}{sh:Sh}{s:Ś}{Q:Re→Ś→Prop}(hA:A.length≤1000)(hc:∀i c,[97][i]? =some c→X.cps.toList[k+i]? =some c)(N:WS w os gl t X n a0 a1 a2 s0 k A sh m s)(hS:dn sh m)
 (next:∀u sh m s',t 3<u→WS w os gl t X n a0 a1 a2 s0 (k+1) (A++ [.str (a_ 97) u]) sh m s'→dn sh m→codeAny (model TW w) (AG 600) (bQ [a0,a1,a2]) Q s'):codeAny (model TW w) (AG 600) (bQ [a0,a1,a2]) Q s:=by
 obtain⟨⟨kt,e,na,R⟩,htk⟩:=N
 have hlt:∀i<1,decide (Int.ofNat (k+i)<Int.ofNat n)=true:=fun i hi=>by
  obtain rfl:i=0:=by omega
  exact ff nd hk hX hz (i:=0) (hc 0 97 rfl)
 obtain⟨ck,cl,ct,jo,rfl,hj⟩:=hS
 cases jo with
 |none=>
  refine bJ (ad:=[a0,a1,a2]) (ex:=[167]) (TX (gl:=gl) (na:=na) (kt:=kt) (e:=e) (t:=t) (n:=n) hlt hc (by omega) hA) nd hk rfl rfl rfl rfl rfl R fun l s' hl ht hfr R'=> ?_
  exact next (gx l 3) _ _ s' (Nat.lt_of_lt_of_le htk (hfr 3 (by decide) (by show 3<4;decide))) ⟨⟨_,_,_,R'⟩,Nat.lt_of_lt_of_le htk ht⟩ ⟨_,_,_,_,rfl,.inl rfl⟩
 |some j=>
  refine bJ (ad:=[a0,a1,a2]) (ex:=[167]) (Qz (gl:=gl) (na:=na) (kt:=kt) (e:=e) (t:=t) (n:=n) hlt hc (by omega) hA) nd hk rfl rfl rfl rfl rfl R fun l s' hl ht hfr R'=> ?_
  exact next (gx l 3) _ _ s' (Nat.lt_of_lt_of_le htk (hfr 3 (by decide) (by show 3<4;decide))) ⟨⟨_,_,_,R'⟩,Nat.lt_of_lt_of_le htk ht⟩ ⟨_,_,_,_,rfl,hj⟩
theorem w_b{A:LV}{k m:Nat}{sh:Sh}{s:Ś}{Q:Re→Ś→Prop}(hA:A.length≤1000)(hc:∀i c,[98][i]? =some c→X.cps.toList[k+i]? =some c)(N:WS w os gl t X n a0 a1 a2 s0 k A sh m s)(hS:dn sh m)
 (next:∀u sh m s',t 3<u→WS w os gl t X n a0 a1 a2 s0 (k+1) (A++ [.str (a_ 98) u]) sh m s'→dn sh m→codeAny (model TW w) (AG 600) (bQ [a0,a1,a2]) Q s'):codeAny (model TW w) (AG 600) (bQ [a0,a1,a2]) Q s:=by
 obtain⟨⟨kt,e,na,R⟩,htk⟩:=N
 have hlt:∀i<1,decide (Int.ofNat (k+i)<Int.ofNat n)=true:=fun i hi=>by
  obtain rfl:i=0:=by omega
  exact ff nd hk hX hz (i:=0) (hc 0 98 rfl)
 obtain⟨ck,cl,ct,jo,rfl,hj⟩:=hS
 cases jo with
 |none=>
  refine bJ (ad:=[a0,a1,a2]) (ex:=[167]) (Qt (gl:=gl) (na:=na) (kt:=kt) (e:=e) (t:=t) (n:=n) hlt hc (by omega) hA) nd hk rfl rfl rfl rfl rfl R fun l s' hl ht hfr R'=> ?_
  exact next (gx l 3) _ _ s' (Nat.lt_of_lt_of_le htk (hfr 3 (by decide) (by show 3<4;decide))) ⟨⟨_,_,_,R'⟩,Nat.lt_of_lt_of_le htk ht⟩ ⟨_,_,_,_,rfl,.inl rfl⟩
 |some j=>
  refine bJ (ad:=[a0,a1,a2]) (ex:=[167]) (SC (gl:=gl) (na:=na) (kt:=kt) (e:=e) (t:=t) (n:=n) hlt hc (by omega) hA) nd hk rfl rfl rfl rfl rfl R fun l s' hl ht hfr R'=> ?_
  exact next (gx l 3) _ _ s' (Nat.lt_of_lt_of_le htk (hfr 3 (by decide) (by show 3<4;decide))) ⟨⟨_,_,_,R'⟩,Nat.lt_of_lt_of_le htk ht⟩ ⟨_,_,_,_,rfl,hj⟩
theorem ZK{A:LV}{k m:Nat}{sh:Sh}{s:Ś}{Q:Re→Ś→Prop}(hA:A.length≤1000)(hc:∀i c,[91,42,93][i]? =some c→X.cps.toList[k+i]? =some c)(N:WS w os gl t X n a0 a1 a2 s0 k A sh m s)(hS:dn sh m)
 (next:∀u sh m s',t 3<u→WS w os gl t X n a0 a1 a2 s0 (k+3) (A++ [.str (a_ 42) u]) sh m s'→dn sh m→codeAny (model TW w) (AG 600) (bQ [a0,a1,a2]) Q s'):codeAny (model TW w) (AG 600) (bQ [a0,a1,a2]) Q s:=by
 obtain⟨⟨kt,e,na,R⟩,htk⟩:=N
 have three:∀i<3,∃q,[91,42,93][i]? =some q:=fun i hi=>by
  match i,hi with
  |0,_=>exact⟨_,rfl⟩
  |1,_=>exact⟨_,rfl⟩
  |2,_=>exact⟨_,rfl⟩
 have hlt:∀i<3,decide (Int.ofNat (k+i)<Int.ofNat n)=true:=fun i hi=>by
  obtain⟨q,hq⟩:=three i hi
  exact ff nd hk hX hz (hc i q hq)
 have hge:∀i<3,decide (Int.ofNat (k+i)≥Int.ofNat n)=false:=fun i hi=>by
  obtain⟨q,hq⟩:=three i hi
  exact Ev nd hk hX hz (hc i q hq)
 have h2:2≤X.length:=by
  have:=(List.getElem?_eq_some_iff.mp (hc 2 93 rfl)).1
  have h3:X.length=X.cps.toList.length:=rfl
  omega
 obtain⟨ck,cl,ct,jo,rfl,hj⟩:=hS
 obtain⟨b,hb⟩:=f4 w.params 3
 cases jo with
 |none=>
  match m,b,hb with
  |0,false,hb=>
   refine bJ (ad:=[a0,a1,a2,167]) (ex:=[]) (exo:=[]) (GL (gl:=gl) (na:=na) (kt:=kt) (e:=e) (t:=t) (n:=n) hlt hc (by omega) h2 hge hA hb) nd hk rfl rfl rfl rfl rfl R fun l s' hl ht hfr R'=> ?_
   have R2:RT w os gl [a0,a1,a2,167] s0 (cT w.params [a0,a1,a2] t X (k+3) (gx l 2) n (some (ck,91,gx l 1,some (gx l 6,k+2,gx l 3,gx l 7,cp 42,gx l 4))) (e+2) (A++ [.str (a_ 42) (gx l 5)]) (na+1)++ [bE (gx l 0+1)]) s':=R'
   exact next (gx l 5) _ _ s' (Nat.lt_of_lt_of_le htk (hfr 5 (by decide) (by show 5<8;decide))) ⟨⟨_,_,_,R2⟩,Nat.lt_of_lt_of_le htk ht⟩ ⟨_,_,_,_,rfl,.inr ⟨⟨_,_,_,_,42,_,rfl⟩,Nat.succ_ne_zero _⟩⟩
  |0,true,hb=>
   refine bJ (ad:=[a0,a1,a2,167]) (ex:=[]) (exo:=[]) (FS (gl:=gl) (na:=na) (kt:=kt) (e:=e) (t:=t) (n:=n) hlt hc (by omega) h2 hge hA hb) nd hk rfl rfl rfl rfl rfl R fun l s' hl ht hfr R'=> ?_
   have R2:RT w os gl [a0,a1,a2,167] s0 (cT w.params [a0,a1,a2] t X (k+3) (gx l 2) n (some (ck,91,gx l 1,some (gx l 6,k+2,gx l 3,gx l 7,cp 42,gx l 4))) (e+2) (A++ [.str (a_ 42) (gx l 5)]) (na+1)++ [bE (gx l 0+1)]) s':=R'
   exact next (gx l 5) _ _ s' (Nat.lt_of_lt_of_le htk (hfr 5 (by decide) (by show 5<8;decide))) ⟨⟨_,_,_,R2⟩,Nat.lt_of_lt_of_le htk ht⟩ ⟨_,_,_,_,rfl,.inr ⟨⟨_,_,_,_,42,_,rfl⟩,Nat.succ_ne_zero _⟩⟩
  |m+1,false,hb=>
   refine bJ (ad:=[a0,a1,a2,167]) (ex:=[]) (exo:=[]) (D3 (gl:=gl) (na:=na) (kt:=kt) (e:=e) (t:=t) (n:=n) hlt hc (by omega) h2 hge hA hb) nd hk rfl rfl rfl rfl rfl R fun l s' hl ht hfr R'=> ?_
   have R2:RT w os gl [a0,a1,a2,167] s0 (cT w.params [a0,a1,a2] t X (k+3) (gx l 2) n (some (ck,91,gx l 1,some (gx l 6,k+2,gx l 3,gx l 7,cp 42,gx l 4))) (e+2) (A++ [.str (a_ 42) (gx l 5)]) (na+1)++ [bE (gx l 0+1)]) s':=R'
   exact next (gx l 5) _ _ s' (Nat.lt_of_lt_of_le htk (hfr 5 (by decide) (by show 5<8;decide))) ⟨⟨_,_,_,R2⟩,Nat.lt_of_lt_of_le htk ht⟩ ⟨_,_,_,_,rfl,.inr ⟨⟨_,_,_,_,42,_,rfl⟩,Nat.succ_ne_zero _⟩⟩
  |m+1,true,hb=>
   refine bJ (ad:=[a0,a1,a2,167]) (ex:=[]) (exo:=[]) (DI (gl:=gl) (na:=na) (kt:=kt) (e:=e) (t:=t) (n:=n) hlt hc (by omega) h2 hge hA hb) nd hk rfl rfl rfl rfl rfl R fun l s' hl ht hfr R'=> ?_
   have R2:RT w os gl [a0,a1,a2,167] s0 (cT w.params [a0,a1,a2] t X (k+3) (gx l 2) n (some (ck,91,gx l 1,some (gx l 6,k+2,gx l 3,gx l 7,cp 42,gx l 4))) (e+2) (A++ [.str (a_ 42) (gx l 5)]) (na+1)++ [bE (gx l 0+1)]) s':=R'
   exact next (gx l 5) _ _ s' (Nat.lt_of_lt_of_le htk (hfr 5 (by decide) (by show 5<8;decide))) ⟨⟨_,_,_,R2⟩,Nat.lt_of_lt_of_le htk ht⟩ ⟨_,_,_,_,rfl,.inr ⟨⟨_,_,_,_,42,_,rfl⟩,Nat.succ_ne_zero _⟩⟩
 |some j=>
  rcases hj with hj|⟨⟨jk,jv,jt,sk,cs,stt,hj⟩,hm⟩
  ·cases hj
  ·cases hj
   match m,hm,b,hb with
   |0,hm,_,_=>exact absurd rfl hm
   |m+1,_,false,hb=>
    refine bJ (ad:=[a0,a1,a2,167]) (ex:=[]) (exo:=[]) (FN (gl:=gl) (na:=na) (kt:=kt) (e:=e) (t:=t) (n:=n) hlt hc (by omega) h2 hge hA hb) nd hk rfl rfl rfl rfl rfl R fun l s' hl ht hfr R'=> ?_
    have R2:RT w os gl [a0,a1,a2,167] s0 (cT w.params [a0,a1,a2] t X (k+3) (gx l 2) n (some (ck,91,gx l 1,some (jk,k+2,gx l 3,sk,cp 42,gx l 4))) e (A++ [.str (a_ 42) (gx l 5)]) (na+1)++ [bE (gx l 0+1)]) s':=R'
    exact next (gx l 5) _ _ s' (Nat.lt_of_lt_of_le htk (hfr 5 (by decide) (by show 5<6;decide))) ⟨⟨_,_,_,R2⟩,Nat.lt_of_lt_of_le htk ht⟩ ⟨_,_,_,_,rfl,.inr ⟨⟨_,_,_,_,42,_,rfl⟩,Nat.succ_ne_zero _⟩⟩
   |m+1,_,true,hb=>
    refine bJ (ad:=[a0,a1,a2,167]) (ex:=[]) (exo:=[]) (Er (gl:=gl) (na:=na) (kt:=kt) (e:=e) (t:=t) (n:=n) hlt hc (by omega) h2 hge hA hb) nd hk rfl rfl rfl rfl rfl R fun l s' hl ht hfr R'=> ?_
    have R2:RT w os gl [a0,a1,a2,167] s0 (cT w.params [a0,a1,a2] t X (k+3) (gx l 2) n (some (ck,91,gx l 1,some (jk,k+2,gx l 3,sk,cp 42,gx l 4))) e (A++ [.str (a_ 42) (gx l 5)]) (na+1)++ [bE (gx l 0+1)]) s':=R'
    exact next (gx l 5) _ _ s' (Nat.lt_of_lt_of_le htk (hfr 5 (by decide) (by show 5<6;decide))) ⟨⟨_,_,_,R2⟩,Nat.lt_of_lt_of_le htk ht⟩ ⟨_,_,_,_,rfl,.inr ⟨⟨_,_,_,_,42,_,rfl⟩,Nat.succ_ne_zero _⟩⟩
theorem Wp{A:LV}{k m:Nat}{sh:Sh}{s:Ś}{Q:Re→Ś→Prop}(hA:A.length≤1000)(hc:∀i c,[91,63,93][i]? =some c→X.cps.toList[k+i]? =some c)(N:WS w os gl t X n a0 a1 a2 s0 k A sh m s)(hS:dn sh m)
 (next:∀u sh m s',t 3<u→WS w os gl t X n a0 a1 a2 s0 (k+3) (A++ [.str (a_ 63) u]) sh m s'→dn sh m→codeAny (model TW w) (AG 600) (bQ [a0,a1,a2]) Q s'):codeAny (model TW w) (AG 600) (bQ [a0,a1,a2]) Q s:=by
 obtain⟨⟨kt,e,na,R⟩,htk⟩:=N
 have three:∀i<3,∃q,[91,63,93][i]? =some q:=fun i hi=>by
  match i,hi with
  |0,_=>exact⟨_,rfl⟩
  |1,_=>exact⟨_,rfl⟩
  |2,_=>exact⟨_,rfl⟩
 have hlt:∀i<3,decide (Int.ofNat (k+i)<Int.ofNat n)=true:=fun i hi=>by
  obtain⟨q,hq⟩:=three i hi
  exact ff nd hk hX hz (hc i q hq)
 have hge:∀i<3,decide (Int.ofNat (k+i)≥Int.ofNat n)=false:=fun i hi=>by
  obtain⟨q,hq⟩:=three i hi
  exact Ev nd hk hX hz (hc i q hq)
 have h2:2≤X.length:=by
  have:=(List.getElem?_eq_some_iff.mp (hc 2 93 rfl)).1
  have h3:X.length=X.cps.toList.length:=rfl
  omega
 obtain⟨ck,cl,ct,jo,rfl,hj⟩:=hS
 obtain⟨b,hb⟩:=f4 w.params 3
 cases jo with
 |none=>
  match m,b,hb with
  |0,false,hb=>
   refine bJ (ad:=[a0,a1,a2,167]) (ex:=[]) (exo:=[]) (F9 (gl:=gl) (na:=na) (kt:=kt) (e:=e) (t:=t) (n:=n) hlt hc (by omega) h2 hge hA hb) nd hk rfl rfl rfl rfl rfl R fun l s' hl ht hfr R'=> ?_
   have R2:RT w os gl [a0,a1,a2,167] s0 (cT w.params [a0,a1,a2] t X (k+3) (gx l 2) n (some (ck,91,gx l 1,some (gx l 6,k+2,gx l 3,gx l 7,cp 63,gx l 4))) (e+2) (A++ [.str (a_ 63) (gx l 5)]) (na+1)++ [bE (gx l 0+1)]) s':=R'
   exact next (gx l 5) _ _ s' (Nat.lt_of_lt_of_le htk (hfr 5 (by decide) (by show 5<8;decide))) ⟨⟨_,_,_,R2⟩,Nat.lt_of_lt_of_le htk ht⟩ ⟨_,_,_,_,rfl,.inr ⟨⟨_,_,_,_,63,_,rfl⟩,Nat.succ_ne_zero _⟩⟩
  |0,true,hb=>
   refine bJ (ad:=[a0,a1,a2,167]) (ex:=[]) (exo:=[]) (DY (gl:=gl) (na:=na) (kt:=kt) (e:=e) (t:=t) (n:=n) hlt hc (by omega) h2 hge hA hb) nd hk rfl rfl rfl rfl rfl R fun l s' hl ht hfr R'=> ?_
   have R2:RT w os gl [a0,a1,a2,167] s0 (cT w.params [a0,a1,a2] t X (k+3) (gx l 2) n (some (ck,91,gx l 1,some (gx l 6,k+2,gx l 3,gx l 7,cp 63,gx l 4))) (e+2) (A++ [.str (a_ 63) (gx l 5)]) (na+1)++ [bE (gx l 0+1)]) s':=R'
   exact next (gx l 5) _ _ s' (Nat.lt_of_lt_of_le htk (hfr 5 (by decide) (by show 5<8;decide))) ⟨⟨_,_,_,R2⟩,Nat.lt_of_lt_of_le htk ht⟩ ⟨_,_,_,_,rfl,.inr ⟨⟨_,_,_,_,63,_,rfl⟩,Nat.succ_ne_zero _⟩⟩
  |m+1,false,hb=>
   refine bJ (ad:=[a0,a1,a2,167]) (ex:=[]) (exo:=[]) (EY (gl:=gl) (na:=na) (kt:=kt) (e:=e) (t:=t) (n:=n) hlt hc (by omega) h2 hge hA hb) nd hk rfl rfl rfl rfl rfl R fun l s' hl ht hfr R'=> ?_
   have R2:RT w os gl [a0,a1,a2,167] s0 (cT w.params [a0,a1,a2] t X (k+3) (gx l 2) n (some (ck,91,gx l 1,some (gx l 6,k+2,gx l 3,gx l 7,cp 63,gx l 4))) (e+2) (A++ [.str (a_ 63) (gx l 5)]) (na+1)++ [bE (gx l 0+1)]) s':=R'
   exact next (gx l 5) _ _ s' (Nat.lt_of_lt_of_le htk (hfr 5 (by decide) (by show 5<8;decide))) ⟨⟨_,_,_,R2⟩,Nat.lt_of_lt_of_le htk ht⟩ ⟨_,_,_,_,rfl,.inr ⟨⟨_,_,_,_,63,_,rfl⟩,Nat.succ_ne_zero _⟩⟩
  |m+1,true,hb=>
   refine bJ (ad:=[a0,a1,a2,167]) (ex:=[]) (exo:=[]) (D2 (gl:=gl) (na:=na) (kt:=kt) (e:=e) (t:=t) (n:=n) hlt hc (by omega) h2 hge hA hb) nd hk rfl rfl rfl rfl rfl R fun l s' hl ht hfr R'=> ?_
   have R2:RT w os gl [a0,a1,a2,167] s0 (cT w.params [a0,a1,a2] t X (k+3) (gx l 2) n (some (ck,91,gx l 1,some (gx l 6,k+2,gx l 3,gx l 7,cp 63,gx l 4))) (e+2) (A++ [.str (a_ 63) (gx l 5)]) (na+1)++ [bE (gx l 0+1)]) s':=R'
   exact next (gx l 5) _ _ s' (Nat.lt_of_lt_of_le htk (hfr 5 (by decide) (by show 5<8;decide))) ⟨⟨_,_,_,R2⟩,Nat.lt_of_lt_of_le htk ht⟩ ⟨_,_,_,_,rfl,.inr ⟨⟨_,_,_,_,63,_,rfl⟩,Nat.succ_ne_zero _⟩⟩
 |some j=>
  rcases hj with hj|⟨⟨jk,jv,jt,sk,cs,stt,hj⟩,hm⟩
  ·cases hj
  ·cases hj
   match m,hm,b,hb with
   |0,hm,_,_=>exact absurd rfl hm
   |m+1,_,false,hb=>
    refine bJ (ad:=[a0,a1,a2,167]) (ex:=[]) (exo:=[]) (Gz (gl:=gl) (na:=na) (kt:=kt) (e:=e) (t:=t) (n:=n) hlt hc (by omega) h2 hge hA hb) nd hk rfl rfl rfl rfl rfl R fun l s' hl ht hfr R'=> ?_
    have R2:RT w os gl [a0,a1,a2,167] s0 (cT w.params [a0,a1,a2] t X (k+3) (gx l 2) n (some (ck,91,gx l 1,some (jk,k+2,gx l 3,sk,cp 63,gx l 4))) e (A++ [.str (a_ 63) (gx l 5)]) (na+1)++ [bE (gx l 0+1)]) s':=R'
    exact next (gx l 5) _ _ s' (Nat.lt_of_lt_of_le htk (hfr 5 (by decide) (by show 5<6;decide))) ⟨⟨_,_,_,R2⟩,Nat.lt_of_lt_of_le htk ht⟩ ⟨_,_,_,_,rfl,.inr ⟨⟨_,_,_,_,63,_,rfl⟩,Nat.succ_ne_zero _⟩⟩
   |m+1,_,true,hb=>
    refine bJ (ad:=[a0,a1,a2,167]) (ex:=[]) (exo:=[]) (Fw (gl:=gl) (na:=na) (kt:=kt) (e:=e) (t:=t) (n:=n) hlt hc (by omega) h2 hge hA hb) nd hk rfl rfl rfl rfl rfl R fun l s' hl ht hfr R'=> ?_
    have R2:RT w os gl [a0,a1,a2,167] s0 (cT w.params [a0,a1,a2] t X (k+3) (gx l 2) n (some (ck,91,gx l 1,some (jk,k+2,gx l 3,sk,cp 63,gx l 4))) e (A++ [.str (a_ 63) (gx l 5)]) (na+1)++ [bE (gx l 0+1)]) s':=R'
    exact next (gx l 5) _ _ s' (Nat.lt_of_lt_of_le htk (hfr 5 (by decide) (by show 5<6;decide))) ⟨⟨_,_,_,R2⟩,Nat.lt_of_lt_of_le htk ht⟩ ⟨_,_,_,_,rfl,.inr ⟨⟨_,_,_,_,63,_,rfl⟩,Nat.succ_ne_zero _⟩⟩
theorem aaC{A:LV}{k m:Nat}{sh:Sh}{s:Ś}{Q:Re→Ś→Prop}(hA:A.length≤1000)(hc:∀i c,[91,91,93][i]? =some c→X.cps.toList[k+i]? =some c)(N:WS w os gl t X n a0 a1 a2 s0 k A sh m s)(hS:dn sh m)
 (next:∀u sh m s',t 3<u→WS w os gl t X n a0 a1 a2 s0 (k+3) (A++ [.str (a_ 91) u]) sh m s'→dn sh m→codeAny (model TW w) (AG 600) (bQ [a0,a1,a2]) Q s'):codeAny (model TW w) (AG 600) (bQ [a0,a1,a2]) Q s:=by
 obtain⟨⟨kt,e,na,R⟩,htk⟩:=N
 have three:∀i<3,∃q,[91,91,93][i]? =some q:=fun i hi=>by
  match i,hi with
  |0,_=>exact⟨_,rfl⟩
  |1,_=>exact⟨_,rfl⟩
  |2,_=>exact⟨_,rfl⟩
 have hlt:∀i<3,decide (Int.ofNat (k+i)<Int.ofNat n)=true:=fun i hi=>by
  obtain⟨q,hq⟩:=three i hi
  exact ff nd hk hX hz (hc i q hq)
 have hge:∀i<3,decide (Int.ofNat (k+i)≥Int.ofNat n)=false:=fun i hi=>by
  obtain⟨q,hq⟩:=three i hi
  exact Ev nd hk hX hz (hc i q hq)
 have h2:2≤X.length:=by
  have:=(List.getElem?_eq_some_iff.mp (hc 2 93 rfl)).1
  have h3:X.length=X.cps.toList.length:=rfl
  omega
 obtain⟨ck,cl,ct,jo,rfl,hj⟩:=hS
 obtain⟨b,hb⟩:=f4 w.params 3
 cases jo with
 |none=>
  match m,b,hb with
  |0,false,hb=>
   refine bJ (ad:=[a0,a1,a2,167]) (ex:=[]) (exo:=[]) (E_ (gl:=gl) (na:=na) (kt:=kt) (e:=e) (t:=t) (n:=n) hlt hc (by omega) h2 hge hA hb) nd hk rfl rfl rfl rfl rfl R fun l s' hl ht hfr R'=> ?_
   have R2:RT w os gl [a0,a1,a2,167] s0 (cT w.params [a0,a1,a2] t X (k+3) (gx l 2) n (some (ck,91,gx l 1,some (gx l 6,k+2,gx l 3,gx l 7,cp 91,gx l 4))) (e+2) (A++ [.str (a_ 91) (gx l 5)]) (na+1)++ [bE (gx l 0+1)]) s':=R'
   exact next (gx l 5) _ _ s' (Nat.lt_of_lt_of_le htk (hfr 5 (by decide) (by show 5<8;decide))) ⟨⟨_,_,_,R2⟩,Nat.lt_of_lt_of_le htk ht⟩ ⟨_,_,_,_,rfl,.inr ⟨⟨_,_,_,_,91,_,rfl⟩,Nat.succ_ne_zero _⟩⟩
  |0,true,hb=>
   refine bJ (ad:=[a0,a1,a2,167]) (ex:=[]) (exo:=[]) (Ez (gl:=gl) (na:=na) (kt:=kt) (e:=e) (t:=t) (n:=n) hlt hc (by omega) h2 hge hA hb) nd hk rfl rfl rfl rfl rfl R fun l s' hl ht hfr R'=> ?_
   have R2:RT w os gl [a0,a1,a2,167] s0 (cT w.params [a0,a1,a2] t X (k+3) (gx l 2) n (some (ck,91,gx l 1,some (gx l 6,k+2,gx l 3,gx l 7,cp 91,gx l 4))) (e+2) (A++ [.str (a_ 91) (gx l 5)]) (na+1)++ [bE (gx l 0+1)]) s':=R'
   exact next (gx l 5) _ _ s' (Nat.lt_of_lt_of_le htk (hfr 5 (by decide) (by show 5<8;decide))) ⟨⟨_,_,_,R2⟩,Nat.lt_of_lt_of_le htk ht⟩ ⟨_,_,_,_,rfl,.inr ⟨⟨_,_,_,_,91,_,rfl⟩,Nat.succ_ne_zero _⟩⟩
  |m+1,false,hb=>
   refine bJ (ad:=[a0,a1,a2,167]) (ex:=[]) (exo:=[]) (Ga (gl:=gl) (na:=na) (kt:=kt) (e:=e) (t:=t) (n:=n) hlt hc (by omega) h2 hge hA hb) nd hk rfl rfl rfl rfl rfl R fun l s' hl ht hfr R'=> ?_
   have R2:RT w os gl [a0,a1,a2,167] s0 (cT w.params [a0,a1,a2] t X (k+3) (gx l 2) n (some (ck,91,gx l 1,some (gx l 6,k+2,gx l 3,gx l 7,cp 91,gx l 4))) (e+2) (A++ [.str (a_ 91) (gx l 5)]) (na+1)++ [bE (gx l 0+1)]) s':=R'
   exact next (gx l 5) _ _ s' (Nat.lt_of_lt_of_le htk (hfr 5 (by decide) (by show 5<8;decide))) ⟨⟨_,_,_,R2⟩,Nat.lt_of_lt_of_le htk ht⟩ ⟨_,_,_,_,rfl,.inr ⟨⟨_,_,_,_,91,_,rfl⟩,Nat.succ_ne_zero _⟩⟩
  |m+1,true,hb=>
   refine bJ (ad:=[a0,a1,a2,167]) (ex:=[]) (exo:=[]) (GD (gl:=gl) (na:=na) (kt:=kt) (e:=e) (t:=t) (n:=n) hlt hc (by omega) h2 hge hA hb) nd hk rfl rfl rfl rfl rfl R fun l s' hl ht hfr R'=> ?_
   have R2:RT w os gl [a0,a1,a2,167] s0 (cT w.params [a0,a1,a2] t X (k+3) (gx l 2) n (some (ck,91,gx l 1,some (gx l 6,k+2,gx l 3,gx l 7,cp 91,gx l 4))) (e+2) (A++ [.str (a_ 91) (gx l 5)]) (na+1)++ [bE (gx l 0+1)]) s':=R'
   exact next (gx l 5) _ _ s' (Nat.lt_of_lt_of_le htk (hfr 5 (by decide) (by show 5<8;decide))) ⟨⟨_,_,_,R2⟩,Nat.lt_of_lt_of_le htk ht⟩ ⟨_,_,_,_,rfl,.inr ⟨⟨_,_,_,_,91,_,rfl⟩,Nat.succ_ne_zero _⟩⟩
 |some j=>
  rcases hj with hj|⟨⟨jk,jv,jt,sk,cs,stt,hj⟩,hm⟩
  ·cases hj
  ·cases hj
   match m,hm,b,hb with
   |0,hm,_,_=>exact absurd rfl hm
   |m+1,_,false,hb=>
    refine bJ (ad:=[a0,a1,a2,167]) (ex:=[]) (exo:=[]) (GO (gl:=gl) (na:=na) (kt:=kt) (e:=e) (t:=t) (n:=n) hlt hc (by omega) h2 hge hA hb) nd hk rfl rfl rfl rfl rfl R fun l s' hl ht hfr R'=> ?_
    have R2:RT w os gl [a0,a1,a2,167] s0 (cT w.params [a0,a1,a2] t X (k+3) (gx l 2) n (some (ck,91,gx l 1,some (jk,k+2,gx l 3,sk,cp 91,gx l 4))) e (A++ [.str (a_ 91) (gx l 5)]) (na+1)++ [bE (gx l 0+1)]) s':=R'
    exact next (gx l 5) _ _ s' (Nat.lt_of_lt_of_le htk (hfr 5 (by decide) (by show 5<6;decide))) ⟨⟨_,_,_,R2⟩,Nat.lt_of_lt_of_le htk ht⟩ ⟨_,_,_,_,rfl,.inr ⟨⟨_,_,_,_,91,_,rfl⟩,Nat.succ_ne_zero _⟩⟩
   |m+1,_,true,hb=>
    refine bJ (ad:=[a0,a1,a2,167]) (ex:=[]) (exo:=[]) (F6 (gl:=gl) (na:=na) (kt:=kt) (e:=e) (t:=t) (n:=n) hlt hc (by omega) h2 hge hA hb) nd hk rfl rfl rfl rfl rfl R fun l s' hl ht hfr R'=> ?_
    have R2:RT w os gl [a0,a1,a2,167] s0 (cT w.params [a0,a1,a2] t X (k+3) (gx l 2) n (some (ck,91,gx l 1,some (jk,k+2,gx l 3,sk,cp 91,gx l 4))) e (A++ [.str (a_ 91) (gx l 5)]) (na+1)++ [bE (gx l 0+1)]) s':=R'
    exact next (gx l 5) _ _ s' (Nat.lt_of_lt_of_le htk (hfr 5 (by decide) (by show 5<6;decide))) ⟨⟨_,_,_,R2⟩,Nat.lt_of_lt_of_le htk ht⟩ ⟨_,_,_,_,rfl,.inr ⟨⟨_,_,_,_,91,_,rfl⟩,Nat.succ_ne_zero _⟩⟩
end
end
section
open PySem.SeqAt PySem.MeetsSeq PySem.Calls PyProof.Rows
noncomputable def cO(c:Nat):Bool:=c==33||c==42||c==45||c==63||c==91||c==93||c==97||c==98
theorem om{c:Nat}(h:cO c=true):c=33∨c=42∨c=45∨c=63∨c=91∨c=93∨c=97∨c=98:=by
 unfold cO at h
 simpa only[Bool.or_eq_true,beq_iff_eq,or_assoc] using h
theorem trE{w:Wd}{os:OS}{gl:LG}{a0 a1 a2:Nat}{t:NN}{X:Str}{kt n e na m ck cl ct:Nat}{jo:Option Vm}{A:LV}:
 cb (model TW w) (bD w.params) os 600 (bQ [a0,a1,a2]) [a0,a1,a2,167] (aL (cT w.params [a0,a1,a2] t X n kt n (some (ck,cl,ct,jo)) e A na++ [bE m]) gl 0 fun _=> .ok .next):=
 aq (av w) (hdp:=640) (U:={hs:=[(aM (aK (Int.ofNat n) (Int.ofNat n) false []) 0 [])]}) ⟨(ac (ag (bv (decide_eq_false (Int.lt_irrefl _)))) ak),ak,al,(fun _ h=>nomatch h),(fun _ h=>nomatch h),(fun _ h=>nomatch h)⟩ [] (fun _ _ _=> []) 13 [1,1,1,1]
theorem wH{c:Nat}(h:cO c=true):a_ c≠⟨⟨[42]⟩⟩:=by
 rcases om h with rfl|rfl|rfl|rfl|rfl|rfl|rfl|rfl<;>decide
theorem f5{c:Nat}(h:cO c=true):(vq c).length=g9 c:=by
 rcases om h with rfl|rfl|rfl|rfl|rfl|rfl|rfl|rfl<;>rfl
noncomputable def yb(s0 s1 s2:Nat):LN:=42::(vq s0++42::(vq s1++42::(vq s2++ [42])))
noncomputable def h_(s0 s1 s2:Nat):Nat:=1+g9 s0+1+g9 s1+1+g9 s2+1
theorem lL{l r X:LN}{k:Nat}(h:∀i q,(l++r)[i]? =some q→X[k+i]? =some q):(∀i q,l[i]? =some q→X[k+i]? =some q)∧∀i q,r[i]? =some q→X[k+l.length+i]? =some q:=
 ⟨fun i q hi=>h i q (by rw[List.getElem?_append_left (List.getElem?_eq_some_iff.mp hi).1];exact hi),fun i q hi=>by
  have:=h (l.length+i) q (by rw[List.getElem?_append_right (by omega)];rw[Nat.add_sub_cancel_left];exact hi)
  rw[←Nat.add_assoc] at this
  exact this⟩
noncomputable def jD(l:LN):Option Vm:=match gx l 10 with
 |0=>none
 |_+1=>some (gx l 11,gx l 12,gx l 13,gx l 14,cp (gx l 15),gx l 16)
noncomputable def shD(l:LN):Sh:=some (gx l 7,gx l 8,gx l 9,jD l)
noncomputable def Vf(s0 s1 s2 st u0 u1 u2:Nat):LV:=[.str ⟨⟨[42]⟩⟩ st,.str (a_ s0) u0,.str ⟨⟨[42]⟩⟩ st,.str (a_ s1) u1,.str ⟨⟨[42]⟩⟩ st,.str (a_ s2) u2,.str ⟨⟨[42]⟩⟩ st]
noncomputable def SW(P:Pm)(ad:LN)(t:NN)(X:Str)(n kt e na m:Nat):LL:=cT P ad t X 0 kt n none e [] na++ [bE m]
noncomputable def Jj(P:Pm)(ad:LN)(t:NN)(X:Str)(n s0 s1 s2:Nat)(l:LN):LL:=cT P ad t X n (gx l 0) n (shD l) (gx l 1) (Vf s0 s1 s2 (t 3) (gx l 4) (gx l 5) (gx l 6)) (gx l 2)++ [bE (gx l 3)]
section
variable{w:Wd}{os:OS}{gl:LG}{t:NN}{X:Str}{n a0 a1 a2:Nat}{z:Ś}(nd:[a0,a1,a2,167].Nodup)(hk:∀a∈[a0,a1,a2,167],∀o,(bD w.params).get a≠some o)(hX:X.length=n)(hz:n≤2^20)
include nd hk hX hz
theorem N9{c:Nat}(h:cO c=true){A:LV}{k m:Nat}{sh:Sh}{s:Ś}{Q:Re→Ś→Prop}(hA:A.length≤1000)(hc:∀i q,(vq c)[i]? =some q→X.cps.toList[k+i]? =some q)(N:WS w os gl t X n a0 a1 a2 z k A sh m s)(hS:dn sh m)
 (next:∀u sh m s',t 3<u→WS w os gl t X n a0 a1 a2 z (k+g9 c) (A++ [.str (a_ c) u]) sh m s'→dn sh m→codeAny (model TW w) (AG 600) (bQ [a0,a1,a2]) Q s'):codeAny (model TW w) (AG 600) (bQ [a0,a1,a2]) Q s:=by
 rcases om h with rfl|rfl|rfl|rfl|rfl|rfl|rfl|rfl
 ·exact V7 nd hk hX hz hA hc N hS next
 ·exact ZK nd hk hX hz hA hc N hS next
 ·exact ZP nd hk hX hz hA hc N hS next
 ·exact Wp nd hk hX hz hA hc N hS next
 ·exact aaC nd hk hX hz hA hc N hS next
 ·exact Yr nd hk hX hz hA hc N hS next
 ·exact w_a nd hk hX hz hA hc N hS next
 ·exact w_b nd hk hX hz hA hc N hS next
end
section
variable{w:Wd}{os:OS}{gl:LG}{t:NN}{X:Str}{n a0 a1 a2:Nat}
theorem PJ{s0 s1 s2:Nat}(h0:cO s0=true)(h1:cO s1=true)(h2:cO s2=true)(hX:X.cps.toList=yb s0 s1 s2)(hn:n=h_ s0 s1 s2){kt e na m:Nat}(nd:[a0,a1,a2,167].Nodup)(hk:∀a∈[a0,a1,a2,167],∀o,(bD w.params).get a≠some o)
 {s:Ś}(K:KH (bD w.params) os s)(g:s.gens=⟨gl⟩)(hA:At s [a0,a1,a2,167] (SW w.params [a0,a1,a2] t X n kt e na m))(h3:t 3<s.toks)(h4:t 3≠0):
 codeAny (model TW w) (AG 600) (bQ [a0,a1,a2]) (fun r s'=>r= .ok .next∧∃l:LN,l.length=17∧hO s s' ([a0,a1,a2,167].zip (Jj w.params [a0,a1,a2] t X n s0 s1 s2 l)) [] gl) s:=by
 have e0:=f5 h0
 have e1:=f5 h1
 have e2:=f5 h2
 have hlen:X.length=n:=by
  have:X.length=X.cps.toList.length:=rfl
  rw[this,hX,hn]
  unfold yb h_
  simp[e0,e1,e2]
  omega
 have hz:n≤2^20:=by
  have b:∀c,g9 c≤3:=fun c=>by unfold g9;split<;>omega
  have:=b s0;have:=b s1;have:=b s2
  rw[hn];unfold h_;omega
 have hall:∀i q,(yb s0 s1 s2)[i]? =some q→X.cps.toList[0+i]? =some q:=fun i q h=>by rw[hX,Nat.zero_add];exact h
 have p0:=lL (l:=[42]) (r:=vq s0++42::(vq s1++42::(vq s2++ [42]))) (k:=0) hall
 have p1:=lL (l:=vq s0) p0.2
 have p2:=lL (l:=[42]) p1.2
 have p3:=lL (l:=vq s1) p2.2
 have p4:=lL (l:=[42]) p3.2
 have p5:=lL (l:=vq s2) p4.2
 rw[e0] at p1 p2 p3 p4 p5
 rw[e1] at p3 p4 p5
 rw[e2] at p5
 have N0:WS w os gl t X n a0 a1 a2 s 0 [] none m s:=⟨⟨kt,e,na,K,g,Keeps.refl _ _,hA⟩,h3⟩
 refine I7 nd hk hlen hz p0.1 N0 fun sh z1 N1 S1=> ?_
 refine N9 nd hk hlen hz h0 (by simp) p1.1 N1 S1 fun u0 sh m z2 hu0 N2 S2=> ?_
 refine HC nd hk hlen hz (p2.1 0 42 rfl) N2 S2 (wH h0) hu0 h4 fun sh z3 N3 S3=> ?_
 refine N9 nd hk hlen hz h1 (by simp) p3.1 N3 S3 fun u1 sh m z4 hu1 N4 S4=> ?_
 refine HT nd hk hlen hz (p4.1 0 42 rfl) N4 S4 (wH h1) hu1 h4 fun sh z5 N5 S5=> ?_
 refine N9 nd hk hlen hz h2 (by simp) p5.1 N5 S5 fun u2 sh m z6 hu2 N6 S6=> ?_
 refine Il nd hk hlen hz (p5.2 0 42 rfl) N6 S6 (wH h2) hu2 h4 fun sh z7 N7 S7=> ?_
 obtain⟨ck,cl,ct,jo,rfl,hj⟩:=S7
 obtain⟨⟨kt7,e7,na7,R7⟩,_⟩:=N7
 have hk7:0+1+g9 s0+1+g9 s1+1+g9 s2+1=n:=by rw[hn];unfold h_;omega
 have hp:∀k,k=n→RT w os gl [a0,a1,a2,167] s (cT w.params [a0,a1,a2] t X k kt7 n (some (ck,cl,ct,jo)) e7 (Vf s0 s1 s2 (t 3) u0 u1 u2) na7++ [bE m]) z7→RT w os gl [a0,a1,a2,167] s (cT w.params [a0,a1,a2] t X n kt7 n (some (ck,cl,ct,jo)) e7 (Vf s0 s1 s2 (t 3) u0 u1 u2) na7++ [bE m]) z7:=fun k hk R=>hk▸R
 have R8:=hp _ hk7 R7
 refine ub nd hk trE rfl rfl rfl rfl rfl rfl R8 fun l z8 _ R9=>⟨rfl,?_⟩
 have fin:∀l:LN,l.length=17→Jj w.params [a0,a1,a2] t X n s0 s1 s2 l=cT w.params [a0,a1,a2] t X n kt7 n (some (ck,cl,ct,jo)) e7 (Vf s0 s1 s2 (t 3) u0 u1 u2) na7++ [bE m]→∃l:LN,l.length=17∧hO s z8 ([a0,a1,a2,167].zip (Jj w.params [a0,a1,a2] t X n s0 s1 s2 l)) [] gl:=by
  intro l hl e
  refine⟨l,hl,⟨fun b o h hb=>R9.k.keep b o h fun hm=>hb ?_,fun p hp=> ?_,fun p hp=>by simp at hp,by simp,R9.k.size,R9.g,by have:=R9.kh.gok;rw[R9.g] at this;exact this,R9.k.os,R9.kh.tk⟩⟩
  ·rw[List.map_fst_zip (by rw[e];exact Nat.le_refl _)]
   exact hm
  ·refine R9.f p ?_
   rw[List.append_nil,e] at hp
   exact hp
 rcases hj with rfl|⟨⟨jk,jv,jt,sk,cs,stt,rfl⟩,_⟩
 ·exact fin [kt7,e7,na7,m,u0,u1,u2,ck,cl,ct,0,0,0,0,0,0,0] rfl rfl
 ·exact fin [kt7,e7,na7,m,u0,u1,u2,ck,cl,ct,1,jk,jv,jt,sk,cs,stt] rfl rfl
end
noncomputable def Xi(obs:LL):LN:=[aZ obs 0 0,aJ obs 0 0,aZ obs 0 1,aJ obs 0 1,aZ obs 0 2,aJ obs 0 2,aZ obs 0 3,aZ obs 0 4,aZ obs 0 5,aJ obs 0 5,aZ obs 0 6]
noncomputable def Oo(P:Pm)(X:Str)(n s0 s1 s2 m:Nat)(ad:LN)(obs:LL)(gl:LG):Spec:=
 {pre:=SW P ad (gx (Xi obs)) X n (aJ obs 0 6) (bO (gO obs 0)) (bO (gO obs 1)) m,post:=(List.range 4).map fun j=>fun l=>gO (Jj P ad (gx (Xi obs)) X n s0 s1 s2 l) j,news:=[],nt:=17,rv:=fun _=> .ok .next,gl,gl':=gl}
noncomputable def Zr(P:Pm)(X:Str)(n s0 s1 s2:Nat)(m:LN→Nat)(told:LN→LN→LN)(i0:Nat)(slots:LN):HkU:=fun c' κ T mm sg tb ti gl xl=>
 (fun(ad:LN)(obs:LL)=> .nat (gx ad 3) 167 (.nat (gx (Xi obs) 3) (tb+i0) (.nat (cond (Nat.ble (i0+1) ti) 1 0) 1 (ov slots c' (bQ ad) (Oo P X n s0 s1 s2 (m xl) ad obs gl) (fun _=> []) (fun l=>fun T mm sg tb ti gl xl=>κ (.ok .next) T mm sg tb ti gl (told l xl)) T mm sg tb ti gl xl)))) (slots.map (bx sg)) (cw T slots)
theorem PM{w:Wd}{os:OS}{X:Str}{n s0 s1 s2:Nat}{m:LN→Nat}{told:LN→LN→LN}{i0:Nat}{slots:LN}{gh:LN→List (Addr×Obj)}(hgh:∀a b,gh a=gh b){hdp:Nat}(hd:hdp≤600)(h0:cO s0=true)(h1:cO s1=true)(h2:cO s2=true)(hX:X.cps.toList=yb s0 s1 s2)(hn:n=h_ s0 s1 s2)(hs:slots.Nodup):
 HkU.Ok (bs w.params w.params) gh w os hdp (Zr w.params X n s0 s1 s2 m told i0 slots):=by
 intro ys h₀ c' κ T mm sg tb ti gl xl s H D hg
 unfold Zr at H
 dsimp only at H
 obtain⟨h167,hst,hble,H⟩:=H
 obtain⟨hc,hgl,l1,l2,l3,l4⟩:=cL hs H D
 have h4:(slots.map (bx sg)).length=4:=l1
 have hti:i0+1≤ti:=by
  cases hb:Nat.ble (i0+1) ti with
  |true=>exact Nat.le_of_ble_eq_true hb
  |false=>rw[hb] at hble;cases hble
 have htk:s.toks=tb+ti:=D.toks
 have hb0:=D.tkb
 generalize hadE:slots.map (bx sg)=ad at*
 obtain⟨y9,hf9⟩:=J_ h4
 have hf9:ad=[y9 0,y9 1,y9 2,y9 3]:=hf9
 subst hf9
 generalize y9 3=a3 at*
 have h167:a3=167:=h167
 subst h167
 have V:=PJ (os:=os) (gl:=gl) h0 h1 h2 hX hn l3 l4 (gM D hg) D.gens l2 (by rw[hst,htk];omega) (by rw[hst];omega)
 intro Γ p hΓ hb
 rw[hc] at hΓ
 obtain⟨r,s',hr,hrr,l,hl,E⟩:=V Γ p hΓ (eZ hd hb)
 rw[←hadE] at H
 have E':hO s s' ((slots.map (bx sg)).zip ((Oo w.params X n s0 s1 s2 (m xl) (slots.map (bx sg)) (cw T slots) gl).post.map (· ([]++l)))) (([]:LN).zip ((Oo w.params X n s0 s1 s2 (m xl) (slots.map (bx sg)) (cw T slots) gl).news.map (· ([]++l)))) gl:=by
  rw[hadE]
  exact E
 obtain⟨T',m',sg',tb',ti',gl',K',D',g'⟩:=cR hs H D (as:=[]) (ts:=l) rfl hl E'
 exact⟨r,s',hr,T',m',sg',tb',ti',gl',_,by rw[hrr];exact K',hgh xl _▸D',g'⟩
end
section
variable(w:Wd)(os:OS)
noncomputable def bc:Str:=⟨⟨(J [[95,108,97,119,95,104,101,108,100],BP])⟩⟩
noncomputable def iR:Str:=⟨⟨[115,105,103,110]⟩⟩
noncomputable def am:Str:=⟨⟨[42,63,91]⟩⟩
noncomputable def IK(s0 s1 s2:Nat):PC:=fun ad t=>(.compStart (d9 [43,1,0]) 0 (.ref (gx ad 0)) (.ref (gx ad 2)) {scope:=(c7 [43,1,0]),locals:=(gx ad 1),globals:=3,cells:=[],qual:=bc,func:=none,code:=(.ref 849),frame:=(some (t 0)),builtins:=0})
noncomputable def HU(s0 s1 s2:Nat):PO:=fun P ad t=>[(O (.type "str_ascii_iterator") none (.fields ⟨[.str ⟨⟨[s0,s1,s2]⟩⟩ (t 1),.int 0 0]⟩) ⟨[]⟩),(O (.type "dict") none (.dict ⟨[]⟩ (t 2)) ⟨[]⟩),(O (.type "list") none (.seq ⟨[]⟩ (t 3)) ⟨[]⟩)]
noncomputable def Hc(s0 s1 s2:Nat):PS:=fun P gl ad t=>bW (HU s0 s1 s2 P ad t) [(0,fun l=>(O (.type "str_ascii_iterator") none (.fields ⟨[.none,.int 3 0]⟩) ⟨[]⟩)),(1,fun l=>(O (.type "dict") none (.dict ⟨[D P iR (gx l 0) (.str ⟨⟨[s2]⟩⟩ (gx l 1))]⟩ ((t 2)+1)) ⟨[]⟩)),(2,fun l=>(O (.type "list") none (.seq ⟨[.str ⟨⟨[s0,42]⟩⟩ (gx l 2),.str ⟨⟨[s1,42]⟩⟩ (gx l 3),.str ⟨⟨[s2,42]⟩⟩ (gx l 4)]⟩ ((t 3)+3)) ⟨[]⟩))] [] 5 (fun l=> .ok .next) gl
noncomputable def Ih(r:Re)(T:BT)(xl:LN):LN:=[dZ T 1 0,aY T 1 0,aY T 2 0,aY T 2 1,aY T 2 2]
theorem RY(s0 s1 s2:Nat)(h0:(!(Builtin.Str.occurrences am ⟨⟨[s0]⟩⟩ 0 ((am:Str).length) 1).isEmpty)=false)(h1:(!(Builtin.Str.occurrences am ⟨⟨[s1]⟩⟩ 0 ((am:Str).length) 1).isEmpty)=false)(h2:(!(Builtin.Str.occurrences am ⟨⟨[s2]⟩⟩ 0 ((am:Str).length) 1).isEmpty)=false)(a0 a1 a2:Nat)(gl:LG)(t:NN):SA w os 520 (IK s0 s1 s2) (Hc s0 s1 s2 w.params gl) [a0,a1,a2] t:=
 aq (av w) (hdp:=560) (U:={hs:=[(aB (ci am ⟨⟨[s0]⟩⟩ false [])),(aB (ci am ⟨⟨[s1]⟩⟩ false [])),(aB (ci am ⟨⟨[s2]⟩⟩ false []))],ks:=[],sam:=[],fa:=[],fb:=[],f3:=[]}) ⟨(ac (ae (bN h0)) (ac (ae (bN h1)) (ac (ae (bN h2)) ak))),ak,al,(fun _ h=>nomatch h),(fun _ h=>nomatch h),(fun _ h=>nomatch h)⟩ [] Ih 164 (J [AW,Bg])
noncomputable def IE(s0 s1 s2:Nat):PC:=fun ad t=>(.compStart (d9 [43,1,0]) 0 (.ref (gx ad 0)) (.ref (gx ad 2)) {scope:=(c7 [43,1,0]),locals:=(gx ad 1),globals:=3,cells:=[],qual:=bc,func:=none,code:=(.ref 849),frame:=(some (t 0)),builtins:=0})
noncomputable def Ib(s0 s1 s2:Nat):PO:=fun P ad t=>[(O (.type "str_ascii_iterator") none (.fields ⟨[.str ⟨⟨[s0,s1,s2]⟩⟩ (t 1),.int 0 0]⟩) ⟨[]⟩),(O (.type "dict") none (.dict ⟨[]⟩ (t 2)) ⟨[]⟩),(O (.type "list") none (.seq ⟨[]⟩ (t 3)) ⟨[]⟩)]
noncomputable def HP(s0 s1 s2:Nat):PS:=fun P gl ad t=>bW (Ib s0 s1 s2 P ad t) [(0,fun l=>(O (.type "str_ascii_iterator") none (.fields ⟨[.none,.int 3 0]⟩) ⟨[]⟩)),(1,fun l=>(O (.type "dict") none (.dict ⟨[D P iR (gx l 0) (.str ⟨⟨[s2]⟩⟩ (gx l 1))]⟩ ((t 2)+1)) ⟨[]⟩)),(2,fun l=>(O (.type "list") none (.seq ⟨[.str ⟨⟨[91,s0,93,42]⟩⟩ (gx l 2),.str ⟨⟨[s1,42]⟩⟩ (gx l 3),.str ⟨⟨[s2,42]⟩⟩ (gx l 4)]⟩ ((t 3)+3)) ⟨[]⟩))] [] 5 (fun l=> .ok .next) gl
noncomputable def Jo(r:Re)(T:BT)(xl:LN):LN:=[dZ T 1 0,aY T 1 0,aY T 2 0,aY T 2 1,aY T 2 2]
theorem SX(s0 s1 s2:Nat)(h0:(!(Builtin.Str.occurrences am ⟨⟨[s0]⟩⟩ 0 ((am:Str).length) 1).isEmpty)=true)(h1:(!(Builtin.Str.occurrences am ⟨⟨[s1]⟩⟩ 0 ((am:Str).length) 1).isEmpty)=false)(h2:(!(Builtin.Str.occurrences am ⟨⟨[s2]⟩⟩ 0 ((am:Str).length) 1).isEmpty)=false)(a0 a1 a2:Nat)(gl:LG)(t:NN):SA w os 520 (IE s0 s1 s2) (HP s0 s1 s2 w.params gl) [a0,a1,a2] t:=
 aq (av w) (hdp:=560) (U:={hs:=[(aB (ci am ⟨⟨[s0]⟩⟩ true [])),(aB (ci am ⟨⟨[s1]⟩⟩ false [])),(aB (ci am ⟨⟨[s2]⟩⟩ false []))],ks:=[],sam:=[],fa:=[],fb:=[],f3:=[]}) ⟨(ac (ae (bN h0)) (ac (ae (bN h1)) (ac (ae (bN h2)) ak))),ak,al,(fun _ h=>nomatch h),(fun _ h=>nomatch h),(fun _ h=>nomatch h)⟩ [] Jo 171 (J [Bi,Bg])
noncomputable def IV(s0 s1 s2:Nat):PC:=fun ad t=>(.compStart (d9 [43,1,0]) 0 (.ref (gx ad 0)) (.ref (gx ad 2)) {scope:=(c7 [43,1,0]),locals:=(gx ad 1),globals:=3,cells:=[],qual:=bc,func:=none,code:=(.ref 849),frame:=(some (t 0)),builtins:=0})
noncomputable def I1(s0 s1 s2:Nat):PO:=fun P ad t=>[(O (.type "str_ascii_iterator") none (.fields ⟨[.str ⟨⟨[s0,s1,s2]⟩⟩ (t 1),.int 0 0]⟩) ⟨[]⟩),(O (.type "dict") none (.dict ⟨[]⟩ (t 2)) ⟨[]⟩),(O (.type "list") none (.seq ⟨[]⟩ (t 3)) ⟨[]⟩)]
noncomputable def Hd(s0 s1 s2:Nat):PS:=fun P gl ad t=>bW (I1 s0 s1 s2 P ad t) [(0,fun l=>(O (.type "str_ascii_iterator") none (.fields ⟨[.none,.int 3 0]⟩) ⟨[]⟩)),(1,fun l=>(O (.type "dict") none (.dict ⟨[D P iR (gx l 0) (.str ⟨⟨[s2]⟩⟩ (gx l 1))]⟩ ((t 2)+1)) ⟨[]⟩)),(2,fun l=>(O (.type "list") none (.seq ⟨[.str ⟨⟨[s0,42]⟩⟩ (gx l 2),.str ⟨⟨[s1,42]⟩⟩ (gx l 3),.str ⟨⟨[91,s2,93,42]⟩⟩ (gx l 4)]⟩ ((t 3)+3)) ⟨[]⟩))] [] 5 (fun l=> .ok .next) gl
noncomputable def Jq(r:Re)(T:BT)(xl:LN):LN:=[dZ T 1 0,aY T 1 0,aY T 2 0,aY T 2 1,aY T 2 2]
theorem Rd(s0 s1 s2:Nat)(h0:(!(Builtin.Str.occurrences am ⟨⟨[s0]⟩⟩ 0 ((am:Str).length) 1).isEmpty)=false)(h1:(!(Builtin.Str.occurrences am ⟨⟨[s1]⟩⟩ 0 ((am:Str).length) 1).isEmpty)=false)(h2:(!(Builtin.Str.occurrences am ⟨⟨[s2]⟩⟩ 0 ((am:Str).length) 1).isEmpty)=true)(a0 a1 a2:Nat)(gl:LG)(t:NN):SA w os 520 (IV s0 s1 s2) (Hd s0 s1 s2 w.params gl) [a0,a1,a2] t:=
 aq (av w) (hdp:=560) (U:={hs:=[(aB (ci am ⟨⟨[s0]⟩⟩ false [])),(aB (ci am ⟨⟨[s1]⟩⟩ false [])),(aB (ci am ⟨⟨[s2]⟩⟩ true []))],ks:=[],sam:=[],fa:=[],fb:=[],f3:=[]}) ⟨(ac (ae (bN h0)) (ac (ae (bN h1)) (ac (ae (bN h2)) ak))),ak,al,(fun _ h=>nomatch h),(fun _ h=>nomatch h),(fun _ h=>nomatch h)⟩ [] Jq 171 (J [AW,B4])
noncomputable def IG(s0 s1 s2:Nat):PC:=fun ad t=>(.compStart (d9 [43,1,0]) 0 (.ref (gx ad 0)) (.ref (gx ad 2)) {scope:=(c7 [43,1,0]),locals:=(gx ad 1),globals:=3,cells:=[],qual:=bc,func:=none,code:=(.ref 849),frame:=(some (t 0)),builtins:=0})
noncomputable def HF(s0 s1 s2:Nat):PO:=fun P ad t=>[(O (.type "str_ascii_iterator") none (.fields ⟨[.str ⟨⟨[s0,s1,s2]⟩⟩ (t 1),.int 0 0]⟩) ⟨[]⟩),(O (.type "dict") none (.dict ⟨[]⟩ (t 2)) ⟨[]⟩),(O (.type "list") none (.seq ⟨[]⟩ (t 3)) ⟨[]⟩)]
noncomputable def Jd(s0 s1 s2:Nat):PS:=fun P gl ad t=>bW (HF s0 s1 s2 P ad t) [(0,fun l=>(O (.type "str_ascii_iterator") none (.fields ⟨[.none,.int 3 0]⟩) ⟨[]⟩)),(1,fun l=>(O (.type "dict") none (.dict ⟨[D P iR (gx l 0) (.str ⟨⟨[s2]⟩⟩ (gx l 1))]⟩ ((t 2)+1)) ⟨[]⟩)),(2,fun l=>(O (.type "list") none (.seq ⟨[.str ⟨⟨[91,s0,93,42]⟩⟩ (gx l 2),.str ⟨⟨[s1,42]⟩⟩ (gx l 3),.str ⟨⟨[91,s2,93,42]⟩⟩ (gx l 4)]⟩ ((t 3)+3)) ⟨[]⟩))] [] 5 (fun l=> .ok .next) gl
noncomputable def HG(r:Re)(T:BT)(xl:LN):LN:=[dZ T 1 0,aY T 1 0,aY T 2 0,aY T 2 1,aY T 2 2]
theorem Q_(s0 s1 s2:Nat)(h0:(!(Builtin.Str.occurrences am ⟨⟨[s0]⟩⟩ 0 ((am:Str).length) 1).isEmpty)=true)(h1:(!(Builtin.Str.occurrences am ⟨⟨[s1]⟩⟩ 0 ((am:Str).length) 1).isEmpty)=false)(h2:(!(Builtin.Str.occurrences am ⟨⟨[s2]⟩⟩ 0 ((am:Str).length) 1).isEmpty)=true)(a0 a1 a2:Nat)(gl:LG)(t:NN):SA w os 520 (IG s0 s1 s2) (Jd s0 s1 s2 w.params gl) [a0,a1,a2] t:=
 aq (av w) (hdp:=560) (U:={hs:=[(aB (ci am ⟨⟨[s0]⟩⟩ true [])),(aB (ci am ⟨⟨[s1]⟩⟩ false [])),(aB (ci am ⟨⟨[s2]⟩⟩ true []))],ks:=[],sam:=[],fa:=[],fb:=[],f3:=[]}) ⟨(ac (ae (bN h0)) (ac (ae (bN h1)) (ac (ae (bN h2)) ak))),ak,al,(fun _ h=>nomatch h),(fun _ h=>nomatch h),(fun _ h=>nomatch h)⟩ [] HG 178 (J [Bi,B4])
noncomputable def wM(s0 s1 s2:Nat):PC:=fun ad t=>(.compStart (d9 [43,1,0]) 0 (.ref (gx ad 0)) (.ref (gx ad 2)) {scope:=(c7 [43,1,0]),locals:=(gx ad 1),globals:=3,cells:=[],qual:=bc,func:=none,code:=(.ref 849),frame:=(some (t 0)),builtins:=0})
noncomputable def Bv(s0 s1 s2:Nat):PO:=fun P ad t=>[(O (.type "str_ascii_iterator") none (.fields ⟨[.str ⟨⟨[s0,s1,s2]⟩⟩ (t 1),.int 0 0]⟩) ⟨[]⟩),(O (.type "dict") none (.dict ⟨[]⟩ (t 2)) ⟨[]⟩),(O (.type "list") none (.seq ⟨[]⟩ (t 3)) ⟨[]⟩)]
noncomputable def G8(s0 s1 s2:Nat):PS:=fun P gl ad t=>bW (Bv s0 s1 s2 P ad t) [(0,fun l=>(O (.type "str_ascii_iterator") none (.fields ⟨[.none,.int 3 0]⟩) ⟨[]⟩)),(1,fun l=>(O (.type "dict") none (.dict ⟨[D P iR (gx l 0) (.str ⟨⟨[s2]⟩⟩ (gx l 1))]⟩ ((t 2)+1)) ⟨[]⟩)),(2,fun l=>(O (.type "list") none (.seq ⟨[.str ⟨⟨[91,s0,93,42]⟩⟩ (gx l 2),.str ⟨⟨[91,s1,93,42]⟩⟩ (gx l 3),.str ⟨⟨[s2,42]⟩⟩ (gx l 4)]⟩ ((t 3)+3)) ⟨[]⟩))] [] 5 (fun l=> .ok .next) gl
noncomputable def Bh(obs:LL)(c:Code):LN:=[Ju c 1,aJ obs 0 0,bO (gO obs 1),bO (gO obs 2)]
noncomputable def HW(r:Re)(T:BT)(xl:LN):LN:=[dZ T 1 0,aY T 1 0,aY T 2 0,aY T 2 1,aY T 2 2]
theorem RN(s0 s1 s2:Nat)(h0:(!(Builtin.Str.occurrences am ⟨⟨[s0]⟩⟩ 0 ((am:Str).length) 1).isEmpty)=true)(h1:(!(Builtin.Str.occurrences am ⟨⟨[s1]⟩⟩ 0 ((am:Str).length) 1).isEmpty)=true)(h2:(!(Builtin.Str.occurrences am ⟨⟨[s2]⟩⟩ 0 ((am:Str).length) 1).isEmpty)=false)(a0 a1 a2:Nat)(gl:LG)(t:NN):SA w os 520 (wM s0 s1 s2) (G8 s0 s1 s2 w.params gl) [a0,a1,a2] t:=
 aq (av w) (hdp:=560) (U:={hs:=[(aB (ci am ⟨⟨[s0]⟩⟩ true [])),(aB (ci am ⟨⟨[s1]⟩⟩ true [])),(aB (ci am ⟨⟨[s2]⟩⟩ false []))],ks:=[],sam:=[],fa:=[],fb:=[],f3:=[]}) ⟨(ac (ae (bN h0)) (ac (ae (bN h1)) (ac (ae (bN h2)) ak))),ak,al,(fun _ h=>nomatch h),(fun _ h=>nomatch h),(fun _ h=>nomatch h)⟩ [] HW 178 (J [Bi,[0,0],Bg])
noncomputable def I6(s0 s1 s2:Nat):PC:=fun ad t=>(.compStart (d9 [43,1,0]) 0 (.ref (gx ad 0)) (.ref (gx ad 2)) {scope:=(c7 [43,1,0]),locals:=(gx ad 1),globals:=3,cells:=[],qual:=bc,func:=none,code:=(.ref 849),frame:=(some (t 0)),builtins:=0})
noncomputable def HY(s0 s1 s2:Nat):PO:=fun P ad t=>[(O (.type "str_ascii_iterator") none (.fields ⟨[.str ⟨⟨[s0,s1,s2]⟩⟩ (t 1),.int 0 0]⟩) ⟨[]⟩),(O (.type "dict") none (.dict ⟨[]⟩ (t 2)) ⟨[]⟩),(O (.type "list") none (.seq ⟨[]⟩ (t 3)) ⟨[]⟩)]
noncomputable def Hv(s0 s1 s2:Nat):PS:=fun P gl ad t=>bW (HY s0 s1 s2 P ad t) [(0,fun l=>(O (.type "str_ascii_iterator") none (.fields ⟨[.none,.int 3 0]⟩) ⟨[]⟩)),(1,fun l=>(O (.type "dict") none (.dict ⟨[D P iR (gx l 0) (.str ⟨⟨[s2]⟩⟩ (gx l 1))]⟩ ((t 2)+1)) ⟨[]⟩)),(2,fun l=>(O (.type "list") none (.seq ⟨[.str ⟨⟨[91,s0,93,42]⟩⟩ (gx l 2),.str ⟨⟨[91,s1,93,42]⟩⟩ (gx l 3),.str ⟨⟨[91,s2,93,42]⟩⟩ (gx l 4)]⟩ ((t 3)+3)) ⟨[]⟩))] [] 5 (fun l=> .ok .next) gl
noncomputable def IY(r:Re)(T:BT)(xl:LN):LN:=[dZ T 1 0,aY T 1 0,aY T 2 0,aY T 2 1,aY T 2 2]
theorem Tc(s0 s1 s2:Nat)(h0:(!(Builtin.Str.occurrences am ⟨⟨[s0]⟩⟩ 0 ((am:Str).length) 1).isEmpty)=true)(h1:(!(Builtin.Str.occurrences am ⟨⟨[s1]⟩⟩ 0 ((am:Str).length) 1).isEmpty)=true)(h2:(!(Builtin.Str.occurrences am ⟨⟨[s2]⟩⟩ 0 ((am:Str).length) 1).isEmpty)=true)(a0 a1 a2:Nat)(gl:LG)(t:NN):SA w os 520 (I6 s0 s1 s2) (Hv s0 s1 s2 w.params gl) [a0,a1,a2] t:=
 aq (av w) (hdp:=560) (U:={hs:=[(aB (ci am ⟨⟨[s0]⟩⟩ true [])),(aB (ci am ⟨⟨[s1]⟩⟩ true [])),(aB (ci am ⟨⟨[s2]⟩⟩ true []))],ks:=[],sam:=[],fa:=[],fb:=[],f3:=[]}) ⟨(ac (ae (bN h0)) (ac (ae (bN h1)) (ac (ae (bN h2)) ak))),ak,al,(fun _ h=>nomatch h),(fun _ h=>nomatch h),(fun _ h=>nomatch h)⟩ [] IY 185 (J [Bi,[0,0],B4])
noncomputable def IT(s0 s1 s2:Nat):PC:=fun ad t=>(.compStart (d9 [43,1,0]) 0 (.ref (gx ad 0)) (.ref (gx ad 2)) {scope:=(c7 [43,1,0]),locals:=(gx ad 1),globals:=3,cells:=[],qual:=bc,func:=none,code:=(.ref 849),frame:=(some (t 0)),builtins:=0})
noncomputable def Ji(s0 s1 s2:Nat):PO:=fun P ad t=>[(O (.type "str_ascii_iterator") none (.fields ⟨[.str ⟨⟨[s0,s1,s2]⟩⟩ (t 1),.int 0 0]⟩) ⟨[]⟩),(O (.type "dict") none (.dict ⟨[]⟩ (t 2)) ⟨[]⟩),(O (.type "list") none (.seq ⟨[]⟩ (t 3)) ⟨[]⟩)]
noncomputable def Iq(s0 s1 s2:Nat):PS:=fun P gl ad t=>bW (Ji s0 s1 s2 P ad t) [(0,fun l=>(O (.type "str_ascii_iterator") none (.fields ⟨[.none,.int 3 0]⟩) ⟨[]⟩)),(1,fun l=>(O (.type "dict") none (.dict ⟨[D P iR (gx l 0) (.str ⟨⟨[s2]⟩⟩ (gx l 1))]⟩ ((t 2)+1)) ⟨[]⟩)),(2,fun l=>(O (.type "list") none (.seq ⟨[.str ⟨⟨[s0,42]⟩⟩ (gx l 2),.str ⟨⟨[91,s1,93,42]⟩⟩ (gx l 3),.str ⟨⟨[91,s2,93,42]⟩⟩ (gx l 4)]⟩ ((t 3)+3)) ⟨[]⟩))] [] 5 (fun l=> .ok .next) gl
noncomputable def IZ(r:Re)(T:BT)(xl:LN):LN:=[dZ T 1 0,aY T 1 0,aY T 2 0,aY T 2 1,aY T 2 2]
theorem To(s0 s1 s2:Nat)(h0:(!(Builtin.Str.occurrences am ⟨⟨[s0]⟩⟩ 0 ((am:Str).length) 1).isEmpty)=false)(h1:(!(Builtin.Str.occurrences am ⟨⟨[s1]⟩⟩ 0 ((am:Str).length) 1).isEmpty)=true)(h2:(!(Builtin.Str.occurrences am ⟨⟨[s2]⟩⟩ 0 ((am:Str).length) 1).isEmpty)=true)(a0 a1 a2:Nat)(gl:LG)(t:NN):SA w os 520 (IT s0 s1 s2) (Iq s0 s1 s2 w.params gl) [a0,a1,a2] t:=
 aq (av w) (hdp:=560) (U:={hs:=[(aB (ci am ⟨⟨[s0]⟩⟩ false [])),(aB (ci am ⟨⟨[s1]⟩⟩ true [])),(aB (ci am ⟨⟨[s2]⟩⟩ true []))],ks:=[],sam:=[],fa:=[],fb:=[],f3:=[]}) ⟨(ac (ae (bN h0)) (ac (ae (bN h1)) (ac (ae (bN h2)) ak))),ak,al,(fun _ h=>nomatch h),(fun _ h=>nomatch h),(fun _ h=>nomatch h)⟩ [] IZ 178 (J [AW,[0,0],B4])
noncomputable def Jw(s0 s1 s2:Nat):PC:=fun ad t=>(.compStart (d9 [43,1,0]) 0 (.ref (gx ad 0)) (.ref (gx ad 2)) {scope:=(c7 [43,1,0]),locals:=(gx ad 1),globals:=3,cells:=[],qual:=bc,func:=none,code:=(.ref 849),frame:=(some (t 0)),builtins:=0})
noncomputable def IJ(s0 s1 s2:Nat):PO:=fun P ad t=>[(O (.type "str_ascii_iterator") none (.fields ⟨[.str ⟨⟨[s0,s1,s2]⟩⟩ (t 1),.int 0 0]⟩) ⟨[]⟩),(O (.type "dict") none (.dict ⟨[]⟩ (t 2)) ⟨[]⟩),(O (.type "list") none (.seq ⟨[]⟩ (t 3)) ⟨[]⟩)]
noncomputable def IW(s0 s1 s2:Nat):PS:=fun P gl ad t=>bW (IJ s0 s1 s2 P ad t) [(0,fun l=>(O (.type "str_ascii_iterator") none (.fields ⟨[.none,.int 3 0]⟩) ⟨[]⟩)),(1,fun l=>(O (.type "dict") none (.dict ⟨[D P iR (gx l 0) (.str ⟨⟨[s2]⟩⟩ (gx l 1))]⟩ ((t 2)+1)) ⟨[]⟩)),(2,fun l=>(O (.type "list") none (.seq ⟨[.str ⟨⟨[s0,42]⟩⟩ (gx l 2),.str ⟨⟨[91,s1,93,42]⟩⟩ (gx l 3),.str ⟨⟨[s2,42]⟩⟩ (gx l 4)]⟩ ((t 3)+3)) ⟨[]⟩))] [] 5 (fun l=> .ok .next) gl
noncomputable def I3(r:Re)(T:BT)(xl:LN):LN:=[dZ T 1 0,aY T 1 0,aY T 2 0,aY T 2 1,aY T 2 2]
theorem Ro(s0 s1 s2:Nat)(h0:(!(Builtin.Str.occurrences am ⟨⟨[s0]⟩⟩ 0 ((am:Str).length) 1).isEmpty)=false)(h1:(!(Builtin.Str.occurrences am ⟨⟨[s1]⟩⟩ 0 ((am:Str).length) 1).isEmpty)=true)(h2:(!(Builtin.Str.occurrences am ⟨⟨[s2]⟩⟩ 0 ((am:Str).length) 1).isEmpty)=false)(a0 a1 a2:Nat)(gl:LG)(t:NN):SA w os 520 (Jw s0 s1 s2) (IW s0 s1 s2 w.params gl) [a0,a1,a2] t:=
 aq (av w) (hdp:=560) (U:={hs:=[(aB (ci am ⟨⟨[s0]⟩⟩ false [])),(aB (ci am ⟨⟨[s1]⟩⟩ true [])),(aB (ci am ⟨⟨[s2]⟩⟩ false []))],ks:=[],sam:=[],fa:=[],fb:=[],f3:=[]}) ⟨(ac (ae (bN h0)) (ac (ae (bN h1)) (ac (ae (bN h2)) ak))),ak,al,(fun _ h=>nomatch h),(fun _ h=>nomatch h),(fun _ h=>nomatch h)⟩ [] I3 171 (J [AW,[0,0],Bg])
end
section
open PySem.SeqAt PySem.MeetsSeq PySem.Calls PyProof.Rows
noncomputable def vU(b:Bool)(c:Nat):Str:=match b with
 |true=>⟨⟨[91,c,93,42]⟩⟩
 |false=>⟨⟨[c,42]⟩⟩
noncomputable def SS(b0 b1 b2:Bool)(s0 s1 s2:Nat):PS:=fun P gl ad t=>bW (Bv s0 s1 s2 P ad t) [(0,fun l=>(O (.type "str_ascii_iterator") none (.fields ⟨[.none,.int 3 0]⟩) ⟨[]⟩)),(1,fun l=>(O (.type "dict") none (.dict ⟨[D P iR (gx l 0) (.str ⟨⟨[s2]⟩⟩ (gx l 1))]⟩ ((t 2)+1)) ⟨[]⟩)),(2,fun l=>(O (.type "list") none (.seq ⟨[.str (vU b0 s0) (gx l 2),.str (vU b1 s1) (gx l 3),.str (vU b2 s2) (gx l 4)]⟩ ((t 3)+3)) ⟨[]⟩))] [] 5 (fun l=> .ok .next) gl
noncomputable def P4(c:Nat):Bool:= !(Builtin.Str.occurrences am ⟨⟨[c]⟩⟩ 0 ((am:Str).length) 1).isEmpty
section
variable{w:Wd}{os:OS}
theorem wr3{s0 s1 s2:Nat}{b0 b1 b2:Bool}(h0:P4 s0=b0)(h1:P4 s1=b1)(h2:P4 s2=b2)(a0 a1 a2:Nat)(gl:LG)(t:NN):SA w os 520 (wM s0 s1 s2) (SS b0 b1 b2 s0 s1 s2 w.params gl) [a0,a1,a2] t:=by
 match b0,b1,b2,h0,h1,h2 with
 |false,false,false,h0,h1,h2=>exact RY w os s0 s1 s2 h0 h1 h2 a0 a1 a2 gl t
 |false,false,true,h0,h1,h2=>exact Rd w os s0 s1 s2 h0 h1 h2 a0 a1 a2 gl t
 |false,true,false,h0,h1,h2=>exact Ro w os s0 s1 s2 h0 h1 h2 a0 a1 a2 gl t
 |false,true,true,h0,h1,h2=>exact To w os s0 s1 s2 h0 h1 h2 a0 a1 a2 gl t
 |true,false,false,h0,h1,h2=>exact SX w os s0 s1 s2 h0 h1 h2 a0 a1 a2 gl t
 |true,false,true,h0,h1,h2=>exact Q_ w os s0 s1 s2 h0 h1 h2 a0 a1 a2 gl t
 |true,true,false,h0,h1,h2=>exact RN w os s0 s1 s2 h0 h1 h2 a0 a1 a2 gl t
 |true,true,true,h0,h1,h2=>exact Tc w os s0 s1 s2 h0 h1 h2 a0 a1 a2 gl t
noncomputable def La(b0 b1 b2:Bool)(s0 s1 s2:Nat)(P:Pm)(slots:LN):Hk:=⟨slots,fun ad obs c=>wM s0 s1 s2 ad (gx (Bh obs c)),fun gl ad obs c=>SS b0 b1 b2 s0 s1 s2 P gl ad (gx (Bh obs c)),aC⟩
theorem Mf{s0 s1 s2:Nat}{b0 b1 b2:Bool}(h0:P4 s0=b0)(h1:P4 s1=b1)(h2:P4 s2=b2){slots:LN}(hn:slots.Nodup:=by decide){hdp:Nat}(hd:hdp≤520:=by decide):(La b0 b1 b2 s0 s1 s2 w.params slots).Ok (bs w.params w.params) w os hdp:=⟨hn,fun gl ad obs c=>aE hd (by
 intro s K g hL
 have hL':ad.length=3:=hL
 obtain⟨y9,hf9⟩:=J_ hL'
 have hf9:ad=[y9 0,y9 1,y9 2]:=hf9
 subst hf9
 exact wr3 h0 h1 h2 (y9 0) (y9 1) (y9 2) gl _ s K g hL)⟩
theorem OH{a:Addr}{n u:Nat}{x y z r:Str}{tx ty tz:Tok}{gl:LG}{p:Program}{kt:KT}{dep:Nat}(hr:Builtin.Str.glued ⟨⟨[]⟩⟩ [x,y,z]=r)(hz:x.length+y.length+z.length≤1000)(hz2:r.length≤1000):
 cb (model p w) kt os dep (.call (.builtin "str.join") ⟨[.str ⟨⟨[]⟩⟩ u,.ref a],[]⟩) [a] (aL [bu [.str x tx,.str y ty,.str z tz] n] gl 1 fun l=> .ok (.ret (.str r (gx l 0)))):=by
 subst hr
 refine cH PySem.F.slot_str_join PySem.F.entry_str_join (PySem.F.args_str_join_2 _ _) fun s K g l' q _ hk=> ?_
 have ho:s.heap.get? a=some _:=q (a,_) List.mem_cons_self
 refine⟨typeIs_str s _ u,?_⟩
 refine meets_str_join_list ⟨⟨[]⟩⟩ u a [(x,tx),(y,ty),(z,tz)] ?_ p w (AG dep) (fp (aL [bu [.str x tx,.str y ty,.str z tz] n] gl 1 fun l=> .ok (.ret (.str (Builtin.Str.glued ⟨⟨[]⟩⟩ [x,y,z]) (gx l 0)))) [a] s) s ⟨⟨_,ho,rfl,n,rfl⟩,?_⟩
 ·show Builtin.Str.tooLong (0+x.length+0+y.length+0+z.length+0)=false
  unfold Builtin.Str.tooLong
  simp
  rw[sizeLine_eq]
  omega
 ·exact⟨by rw[sizeLine_eq];show(Builtin.Str.glued ⟨⟨[]⟩⟩ [x,y,z]).length≤_;omega,eK K g q _ _⟩
noncomputable def QI(x y z r:Str)(slots:LN):Hk:=
 ⟨slots,fun ad _ c=> .call (.builtin "str.join") ⟨[.str ⟨⟨[]⟩⟩ (bz (b_ c 0)),.ref (gx ad 0)],[]⟩,fun gl _ obs _=>aL [bu [.str x (aJ obs 0 0),.str y (aJ obs 0 1),.str z (aJ obs 0 2)] (bO (gO obs 0))] gl 1 fun l=> .ok (.ret (.str r (gx l 0))),aC⟩
theorem QR{x y z r:Str}{hdp:Nat}{slots:LN}(hr:Builtin.Str.glued ⟨⟨[]⟩⟩ [x,y,z]=r)(hz:x.length+y.length+z.length≤1000)(hz2:r.length≤1000)(hn:slots.Nodup:=by decide):(QI x y z r slots).Ok (bs w.params w.params) w os hdp:=qs hn (fun _ _ _ _=>rfl) fun gl a _ _=>OH hr hz hz2
end
end
section
open PySem.SeqAt PySem.MeetsSeq PySem.Calls PyProof.Rows
noncomputable def Gq(t:NN):List bT:=[(⟨⟨[33]⟩⟩,t 0,.str ⟨⟨[33]⟩⟩ (t 1)),(⟨⟨[91,42,93]⟩⟩,t 2,.str ⟨⟨[42]⟩⟩ (t 3)),(⟨⟨[92,45]⟩⟩,t 4,.str ⟨⟨[45]⟩⟩ (t 5)),(⟨⟨[91,63,93]⟩⟩,t 6,.str ⟨⟨[63]⟩⟩ (t 7)),(⟨⟨[91,92,91,93]⟩⟩,t 8,.str ⟨⟨[91]⟩⟩ (t 9)),(⟨⟨[92,93]⟩⟩,t 10,.str ⟨⟨[93]⟩⟩ (t 11)),(⟨⟨[97]⟩⟩,t 12,.str ⟨⟨[97]⟩⟩ (t 13)),(⟨⟨[98]⟩⟩,t 14,.str ⟨⟨[98]⟩⟩ (t 15))]
noncomputable def mkI(c:Nat):Nat:=match c with
 |33=>1
 |42=>3
 |45=>5
 |63=>7
 |91=>9
 |93=>11
 |97=>13
 |_=>15
theorem Fd{c:Nat}(h:cO c=true)(t:NN):bZ (a_ c) (Gq t)=some (.str ⟨⟨[c]⟩⟩ (t (mkI c))):=by
 rcases om h with rfl|rfl|rfl|rfl|rfl|rfl|rfl|rfl<;>rfl
noncomputable def mkT(obs:LL):LN:=[aZ obs 0 0,aJ obs 0 0,aZ obs 0 1,aJ obs 0 1,aZ obs 0 2,aJ obs 0 2,aZ obs 0 3,aJ obs 0 3,aZ obs 0 4,aJ obs 0 4,aZ obs 0 5,aJ obs 0 5,aZ obs 0 6,aJ obs 0 6,aZ obs 0 7,aJ obs 0 7]
section
variable{w:Wd}{os:OS}{dep:Nat}
theorem CI{a:Addr}{l:List bT}{n:Nat}{k:Str}{t:Tok}{v dv:Vl}{gl:LG}(h:bZ k l=some v):
 cb (model TW w) (bD w.params) os dep (.call (.builtin "dict.get") ⟨[.ref a,.str k t,dv],[]⟩) [a] (aL [fg w.params l n] gl 0 fun _=> .ok (.ret v)):=by
 refine cH PySem.F.slot_dict_get PySem.F.entry_dict_get (PySem.F.args_dict_get_3 _ _ _) fun s K g l' q _ hk=> ?_
 have ho:s.heap.get? a=some _:=q (a,_) List.mem_cons_self
 refine⟨⟨_,ho,rfl⟩,?_⟩
 show wpAny _ _ (dictGet a (.str k t)>>=_) _ _ s
 refine wpAny_bind (sE ho ?_)
 rw[h]
 exact wpAny_pure ⟨[],[],rfl,rfl,rfl,b6 K g q _⟩
noncomputable def ww(c:Nat)(P:Pm)(slots:LN):Hk:=
 ⟨slots,fun ad _ cc=> .call (.builtin "dict.get") ⟨[.ref (gx ad 0),.str (a_ c) (bz (b_ cc 1)),b_ cc 2],[]⟩,fun gl _ obs _=>aL [fg P (Gq (gx (mkT obs))) (bO (gO obs 0))] gl 0 fun _=> .ok (.ret (.str ⟨⟨[c]⟩⟩ (gx (mkT obs) (mkI c)))),aC⟩
theorem w0{c hdp:Nat}{slots:LN}(h:cO c=true)(hn:slots.Nodup:=by decide):(ww c w.params slots).Ok (bs w.params w.params) w os hdp:=qs hn (fun _ _ _ _=>rfl) fun gl a obs _=>CI (Fd h _)
noncomputable def GR(x y z:Str)(slots:LN):Hk:=
 ⟨slots,fun _ _ c=> .call (.builtin "str.__add__") ⟨[.str x (bz (b_ c 0)),.str y (bz (b_ c 1))],[]⟩,fun gl _ _ _=>aL [] gl 1 fun l=> .ok (.ret (.str z (gx l 0))),aC⟩
theorem Hr{x y z:Str}{hdp:Nat}{slots:LN}(hq:x++y=z)(hy:(y.length==0)=false)(hz:x.length+y.length≤2^20)(hn:slots.Nodup:=by decide):(GR x y z slots).Ok (bs w.params w.params) w os hdp:=by
 subst hq
 exact lX hy hz hn
end
noncomputable def GW(s0 s1 s2:Nat):Str:=⟨⟨vq s0++42::(vq s1++42::(vq s2++ [42]))⟩⟩
noncomputable def N8(s0 s1 s2:Nat):Str:=⟨⟨yb s0 s1 s2⟩⟩
theorem NK(s0 s1 s2:Nat):(⟨⟨[42]⟩⟩:Str)++GW s0 s1 s2=N8 s0 s1 s2:=by
 show Str.mk (#[42]++(⟨vq s0++42::(vq s1++42::(vq s2++ [42]))⟩:Array Nat))=_
 simp[N8,yb]
theorem Al{c:Nat}(h:cO c=true):P4 c=qn c:=by
 rcases om h with rfl|rfl|rfl|rfl|rfl|rfl|rfl|rfl<;>decide+kernel
theorem w2{c:Nat}(h:cO c=true):vU (qn c) c=⟨⟨vq c++ [42]⟩⟩:=by
 rcases om h with rfl|rfl|rfl|rfl|rfl|rfl|rfl|rfl<;>rfl
theorem O9(a b c:LN):Builtin.Str.glued ⟨⟨[]⟩⟩ [(⟨⟨a⟩⟩:Str),⟨⟨b⟩⟩,⟨⟨c⟩⟩]=⟨⟨a++(b++c)⟩⟩:=by
 show Str.mk (((⟨a⟩:Array Nat)++(⟨[]⟩:Array Nat)++(⟨b⟩:Array Nat))++(⟨[]⟩:Array Nat)++(⟨c⟩:Array Nat))=_
 simp
theorem wz(c:Nat):g9 c≤3:=by unfold g9;split<;>omega
end
noncomputable def RQ(s0 s1 s2 m:Nat):PC:=fun ad t=>(.call (.ref 850) ⟨[.str ⟨⟨[s0,s1,s2]⟩⟩ (t 0)],[]⟩)
noncomputable def Vs(s0 s1 s2 m:Nat):PO:=fun P ad t=>[(bE m)]
noncomputable def R6(s0 s1 s2 m:Nat):PS:=fun P gl ad t=>bW (Vs s0 s1 s2 m P ad t) [(0,fun l=>(bE (gx l 1)))] [] 2 (fun l=> .ok (.ret (.str ⟨⟨[s0,s1,s2]⟩⟩ (gx l 0)))) gl
noncomputable def Sk(obs:LL)(c:Code):LN:=[bz (b_ c 0)]
noncomputable def aai(r:Re)(T:BT)(xl:LN):LN:=[bz (dC r),zV xl 3]
theorem hl(w:Wd)(os:OS)(s0 s1 s2 m:Nat)(g0:cO s0=true)(g1:cO s1=true)(g2:cO s2=true)(hA:(⟨⟨[s0,s1,s2]⟩⟩:Str).cps.all (· <128)=true)(hj:Builtin.Str.glued ⟨⟨[]⟩⟩ [vU (qn s0) s0,vU (qn s1) s1,vU (qn s2) s2]=GW s0 s1 s2)(hj1:(vU (qn s0) s0).length+(vU (qn s1) s1).length+(vU (qn s2) s2).length≤1000)(hj2:(GW s0 s1 s2).length≤1000)(hy:((GW s0 s1 s2).length==0)=false)(hz:Str.length ⟨⟨[42]⟩⟩+(GW s0 s1 s2).length≤2^20)(hn:(N8 s0 s1 s2).length=h_ s0 s1 s2)(hn2:h_ s0 s1 s2≤2^20)(gl:LG)(t:NN):SA w os 470 (RQ s0 s1 s2 m) (R6 s0 s1 s2 m w.params gl) [167] t:=
 aq (av w) (hdp:=510) (U:={hs:=[(aB (de ⟨⟨[s0,s1,s2]⟩⟩ [])),(aB (La (qn s0) (qn s1) (qn s2) s0 s1 s2 w.params [4,6,5])),(aB (QI (vU (qn s0) s0) (vU (qn s1) s1) (vU (qn s2) s2) (GW s0 s1 s2) [5])),(aB (GR ⟨⟨[42]⟩⟩ (GW s0 s1 s2) (N8 s0 s1 s2) [])),(aM (g8 (N8 s0 s1 s2) (h_ s0 s1 s2) []) 2 [1]),(Zr w.params (N8 s0 s1 s2) (h_ s0 s1 s2) s0 s1 s2 (fun _=>m) (fun l _=>l) 0 [7,8,9,0]),(aB (gH (Int.ofNat (h_ s0 s1 s2)) (Int.ofNat (h_ s0 s1 s2)) true [])),(aB (ww s0 w.params [3])),(aB (ww s1 w.params [3])),(aB (ww s2 w.params [3]))],ks:=[],sam:=[],fa:=[],fb:=[],f3:=[]}) ⟨(ac (ae (cZ hA)) (ac (ae (Mf (Al g0) (Al g1) (Al g2))) (ac (ae (QR hj hj1 hj2)) (ac (ae (Hr (NK s0 s1 s2) hy hz)) (ac (ag (aaz hn hn2)) (ac (PM (fun _ _=>rfl) (by decide) g0 g1 g2 rfl rfl (by decide)) (ac (ae (eU (decide_eq_true rfl))) (ac (ae (w0 g0)) (ac (ae (w0 g1)) (ac (ae (w0 g2)) ak)))))))))),ak,al,(fun _ h=>nomatch h),(fun _ h=>nomatch h),(fun _ h=>nomatch h)⟩ [] aai 782 (J [gB,[1,0],B8,B8,B8,B8,[3,3,2,1,0,2,5,2],gz,[7,7,7,0,2,3,4],dI,vW,[0,8,8],ō1,[8,8,8,9,0,9,0,9,9,9,0,0,9,0,8,8,0,0,8],ō5,dm,[11,1,0,11,0],dO,[0,12,0],dO,[11],dO,[12,0,12,0],dO,[11],dO,[12,0,12,0],dO,[11],dO,[14,0],vW,[6,8,8,1,7,8],Ax,[2,0,0,9,0,9,0,9,0,0],ō1,[2,9,9,9,0,9,0],vi,[15,9,16,16,1,0,16,0,17,0,2],fU,fU,fU,fU,[0],BZ,BZ,BZ,BZ,[17,0,17,0],fU,[16],fU,[21],io,[19,18,18,0,18,0,18,0,18,2,9,9,9,0,9,0],d8,d8,[22,9,23,23,1,0,23,0,24,0,2],oA,oA,oA,oA,[0],D9,[8,0,25,0,25,25,25,0],D9,[9,0,25,0,25,25,25,0],D9,[10,0,25,0,25,25,25,0,24,0,24,0],oA,[23],oA,[28,26,26,26,0,0,25,25]])
noncomputable def xM(s0 s1 s2:Nat)(m:LN→Nat)(P:Pm)(slots xl:LN):Hk:=⟨slots,fun ad obs c=>RQ s0 s1 s2 (m xl) ad (gx (Sk obs c)),fun gl ad obs c=>R6 s0 s1 s2 (m xl) P gl ad (gx (Sk obs c)),fun _ _ _ l=> [gx l 1]⟩
theorem wG{w:Wd}{os:OS}{s0 s1 s2:Nat}{m:LN→Nat}{hdp:Nat}(hd:hdp≤470)(g0:cO s0=true)(g1:cO s1=true)(g2:cO s2=true){slots xl:LN}(hs:slots.Nodup:=by decide):Hk.OkA (bs w.params w.params) w os hdp 0 167 (xM s0 s1 s2 m w.params slots xl):=by
 have b0:=wz s0
 have b1:=wz s1
 have b2:=wz s2
 have e0:=f5 g0
 have e1:=f5 g1
 have e2:=f5 g2
 have hA:(⟨⟨[s0,s1,s2]⟩⟩:Str).cps.all (· <128)=true:=by
  have q:∀c,cO c=true→decide (c<128)=true:=fun c h=>by rcases om h with rfl|rfl|rfl|rfl|rfl|rfl|rfl|rfl<;>rfl
  simp only[List.all_toArray',List.all_cons,List.all_nil,q s0 g0,q s1 g1,q s2 g2]
  simp[q s0 g0,q s1 g1,q s2 g2,of_decide_eq_true (q s0 g0),of_decide_eq_true (q s1 g1),of_decide_eq_true (q s2 g2)]
 have hY:(GW s0 s1 s2).length=g9 s0+1+g9 s1+1+g9 s2+1:=by
  show(vq s0++42::(vq s1++42::(vq s2++ [42]))).length=_
  simp[e0,e1,e2]
  omega
 have hX:(N8 s0 s1 s2).length=h_ s0 s1 s2:=by
  show(yb s0 s1 s2).length=_
  unfold yb h_
  simp[e0,e1,e2]
  omega
 have len3:∀c,cO c=true→(vU (qn c) c).length≤4:=fun c h=>by rcases om h with rfl|rfl|rfl|rfl|rfl|rfl|rfl|rfl<;>decide
 have hj:Builtin.Str.glued ⟨⟨[]⟩⟩ [vU (qn s0) s0,vU (qn s1) s1,vU (qn s2) s2]=GW s0 s1 s2:=by
  rw[w2 g0,w2 g1,w2 g2,O9]
  simp[GW]
 have hj1:(vU (qn s0) s0).length+(vU (qn s1) s1).length+(vU (qn s2) s2).length≤1000:=by
  have:=len3 s0 g0;have:=len3 s1 g1;have:=len3 s2 g2
  omega
 refine⟨hs,fun gl ad obs c h5=>aE hd (by
  intro s K g hL hA0
  have hL':ad.length=1:=hL
  obtain⟨y9,hf9⟩:=J_ hL'
  have hf9:ad=[y9 0]:=hf9
  subst hf9
  generalize y9 0=a0 at*
  have h5:a0=167:=h5
  subst h5
  exact hl w os s0 s1 s2 (m xl) g0 g1 g2 hA hj hj1 (by rw[hY];omega) (by rw[hY];exact beq_false_of_ne (by omega)) (by rw[hY];show 1+_≤_;omega) hX (by unfold h_;omega) gl _ s K g hL hA0)⟩
noncomputable def Sb(o0 o1 o2 o3 m:Nat):PC:=fun ad t=>(.compStart (d9 [48,10,0]) 0 (.ref (gx ad 1)) (.ref (gx ad 4)) {scope:=(c7 [48,10,0]),locals:=(gx ad 3),globals:=3,cells:=[],qual:=bf,func:=none,code:=(.ref 880),frame:=(some (t 0)),builtins:=0})
noncomputable def ZQ(o0 o1 o2 o3 m:Nat):PO:=fun P ad t=>[(bE m),(O (.type "list_iterator") none (.fields ⟨[.ref (gx ad 2),.int 0 0]⟩) ⟨[]⟩),(O (.type "list") none (.seq ⟨[.ref (gx ad 5),.ref (gx ad 6),.ref (gx ad 7),.ref (gx ad 8)]⟩ (t 1)) ⟨[]⟩),(O (.type "dict") none (.dict ⟨[]⟩ (t 2)) ⟨[]⟩),(O (.type "list") none (.seq ⟨[]⟩ (t 3)) ⟨[]⟩),(O (.type "list") none (.seq ⟨[.str ⟨⟨[o0]⟩⟩ (t 4),.str ⟨⟨[o1]⟩⟩ (t 5),.str ⟨⟨[o2]⟩⟩ (t 6)]⟩ (t 7)) ⟨[]⟩),(O (.type "list") none (.seq ⟨[.str ⟨⟨[o0]⟩⟩ (t 4),.str ⟨⟨[o1]⟩⟩ (t 5),.str ⟨⟨[o3]⟩⟩ (t 8)]⟩ (t 9)) ⟨[]⟩),(O (.type "list") none (.seq ⟨[.str ⟨⟨[o0]⟩⟩ (t 4),.str ⟨⟨[o2]⟩⟩ (t 6),.str ⟨⟨[o3]⟩⟩ (t 8)]⟩ (t 10)) ⟨[]⟩),(O (.type "list") none (.seq ⟨[.str ⟨⟨[o1]⟩⟩ (t 5),.str ⟨⟨[o2]⟩⟩ (t 6),.str ⟨⟨[o3]⟩⟩ (t 8)]⟩ (t 11)) ⟨[]⟩)]
noncomputable def Qn(o0 o1 o2 o3 m:Nat):PS:=fun P gl ad t=>bW (ZQ o0 o1 o2 o3 m P ad t) [(0,fun l=>(bE (gx l 7))),(1,fun l=>(O (.type "list_iterator") none (.fields ⟨[.none,.int 4 0]⟩) ⟨[]⟩)),(3,fun l=>(O (.type "dict") none (.dict ⟨[D P ⟨⟨[97]⟩⟩ (gx l 0) (.str ⟨⟨[o1]⟩⟩ (t 5)),D P ⟨⟨[98]⟩⟩ (gx l 1) (.str ⟨⟨[o2]⟩⟩ (t 6)),D P ⟨⟨[99]⟩⟩ (gx l 2) (.str ⟨⟨[o3]⟩⟩ (t 8))]⟩ ((t 2)+3)) ⟨[]⟩)),(4,fun l=>(O (.type "list") none (.seq ⟨[.str ⟨⟨[o2,o0,o1]⟩⟩ (gx l 3),.str ⟨⟨[o3,o0,o1]⟩⟩ (gx l 4),.str ⟨⟨[o3,o0,o2]⟩⟩ (gx l 5),.str ⟨⟨[o3,o1,o2]⟩⟩ (gx l 6)]⟩ ((t 3)+4)) ⟨[]⟩))] [] 8 (fun l=> .ok .next) gl
noncomputable def Rb(obs:LL)(c:Code):LN:=[Ju c 1,bO (gO obs 2),bO (gO obs 3),bO (gO obs 4),aJ obs 5 0,aJ obs 5 1,aJ obs 5 2,bO (gO obs 5),aJ obs 6 2,bO (gO obs 6),bO (gO obs 7),bO (gO obs 8)]
noncomputable def YT(r:Re)(T:BT)(xl:LN):LN:=[dZ T 3 0,dZ T 3 1,dZ T 3 2,aY T 4 0,aY T 4 1,aY T 4 2,aY T 4 3,zV xl 0]
theorem hc(w:Wd)(os:OS)(o0 o1 o2 o3 m:Nat)(g0:cO o0=true)(g1:cO o1=true)(g2:cO o2=true)(g3:cO o3=true)(a1 a2 a3 a4 a5 a6 a7 a8:Nat)(gl:LG)(t:NN):SA w os 410 (Sb o0 o1 o2 o3 m) (Qn o0 o1 o2 o3 m w.params gl) [167,a1,a2,a3,a4,a5,a6,a7,a8] t:=
 aq (av w) (hdp:=440) (U:={hs:=[(Mj true 0 167 (fun xl=>xM o2 o0 o1 (fun xl=>m) w.params [0] xl)),(Mj true 0 167 (fun xl=>xM o3 o0 o1 (fun xl=>gx xl 0) w.params [0] xl)),(Mj true 0 167 (fun xl=>xM o3 o0 o2 (fun xl=>gx xl 0) w.params [0] xl)),(Mj true 0 167 (fun xl=>xM o3 o1 o2 (fun xl=>gx xl 0) w.params [0] xl))],ks:=[],sam:=[],fa:=[],fb:=[],f3:=[]}) ⟨(ac (qx (fun _ _ _=>rfl) (fun xl=>wG (by decide) g2 g0 g1 (by decide))) (ac (qx (fun _ _ _=>rfl) (fun xl=>wG (by decide) g3 g0 g1 (by decide))) (ac (qx (fun _ _ _=>rfl) (fun xl=>wG (by decide) g3 g0 g2 (by decide))) (ac (qx (fun _ _ _=>rfl) (fun xl=>wG (by decide) g3 g1 g2 (by decide))) ak)))),ak,al,(fun _ h=>nomatch h),(fun _ h=>nomatch h),(fun _ h=>nomatch h)⟩ [] YT 528 (J [gN,[2,2],fR,w4,gz,[3],fR,[6,6,6,1,0,6],ō5,[10],sK,[10,6],vB,sK,[10,6],vB,sK,[10,6],vB,sK,[10,6],fC,[12,0],FP,[1,0],FU,[7,7,7,1,0,7,0],iQ,[0],rT,FY,FY,FY,[7],iQ,[15,0],FP,[2,0],FU,[8,8,8,1,0,8,0,16,16,0,16,0],F8,F8,F8,[16,16,8,16,16,18,0,4,4,0,4,4,0,4],gA,[0,0,4],ō7,[0],FU,[9,9,9,1,0,9,0],io,[0,19,0],io,Dp,Dp,Dp,[9],io,[21,0],FP,[4,0],xO,w4,gz,[3,2,2,23]])
noncomputable def KR(o0 o1 o2 o3 m:Nat)(P:Pm)(slots:LN):Hk:=⟨slots,fun ad obs c=>Sb o0 o1 o2 o3 m ad (gx (Rb obs c)),fun gl ad obs c=>Qn o0 o1 o2 o3 m P gl ad (gx (Rb obs c)),aC⟩
theorem MT{w:Wd}{os:OS}{o0 o1 o2 o3 m hdp:Nat}(hd:hdp≤410)(g0:cO o0=true)(g1:cO o1=true)(g2:cO o2=true)(g3:cO o3=true){slots:LN}(hs:slots.Nodup:=by decide):Hk.OkA (bs w.params w.params) w os hdp 0 167 (KR o0 o1 o2 o3 m w.params slots):=
 ⟨hs,fun gl ad obs c h5=>aE hd (by
  intro s K g hL hA0
  have hL':ad.length=9:=hL
  obtain⟨y9,hf9⟩:=J_ hL'
  have hf9:ad=[y9 0,y9 1,y9 2,y9 3,y9 4,y9 5,y9 6,y9 7,y9 8]:=hf9
  subst hf9
  generalize y9 0=a0 at*
  have h5:a0=167:=h5
  subst h5
  exact hc w os o0 o1 o2 o3 m g0 g1 g2 g3 (y9 1) (y9 2) (y9 3) (y9 4) (y9 5) (y9 6) (y9 7) (y9 8) gl _ s K g hL hA0)⟩
section
open PySem.SeqAt PySem.MeetsSeq PySem.Calls PyProof.Rows
noncomputable def R5(h:LL→Hk)(slots:LN):Hk:=⟨slots,fun ad obs c=>(h obs).code ad obs c,fun gl ad obs c=>(h obs).spec gl ad obs c,fun ad obs c=>(h obs).told ad obs c⟩
theorem wO{B:Bs}{w:Wd}{os:OS}{hdp:Nat}{h:LL→Hk}{slots:LN}(hn:slots.Nodup)(ok:∀obs,(h obs).Ok B w os hdp):(R5 h slots).Ok B w os hdp:=⟨hn,fun gl ad obs c=>(ok obs).2 gl ad obs c⟩
noncomputable def xk(o:Obj)(i:Nat):Nat:=bz (o5 o i)
theorem fN{g:Nat→Str}{t:NN}{n i:Nat}(h:i<n):(ba g t n)[i]? =some (.str (g i) (t i)):=by
 unfold ba
 simp[h]
theorem D1{g:Nat→Str}{t:NN}{n:Nat}:∀y∈ba g t n,eg y=true:=by
 intro y hy
 unfold ba at hy
 obtain⟨i,_,rfl⟩:=List.mem_map.mp hy
 rfl
theorem fY(y:Str)(u:Nat)(g:Nat→Str)(t:NN)(n:Nat):cG (.str y u) (ba g t n)=(List.range n).any fun i=>dx (g i) y:=by
 rw[iq]
 unfold ba
 rw[List.any_map]
 rfl
theorem iK{n:Nat}{f:Nat→Bool}(h:((List.range n).all f)=true){r:Nat}(hr:r<n):f r=true:=List.all_eq_true.mp h r (List.mem_range.mpr hr)
section
variable{w:Wd}{os:OS}{hdp:Nat}{slots:LN}
noncomputable def Si(r:Nat)(P:Pm)(slots:LN):Hk:=⟨slots,fun ad _ c=>U7 r ad (gx [bz (b_ c 0)]),fun gl ad _ c=>It r P gl ad (gx [bz (b_ c 0)]),aC⟩
theorem Td{r:Nat}(hr:r<5)(hn:slots.Nodup:=by decide)(hd:hdp≤480:=by decide):(Si r w.params slots).Ok (bs w.params w.params) w os hdp:=
 ⟨hn,fun gl ad obs c=>aE hd (by
  intro s K g hL
  obtain rfl:ad=[]:=List.length_eq_zero_iff.mp hL
  exact aA w os gl hr [bz (b_ c 0)] s K g hL)⟩
theorem NJ:Qv=(List.range 56).map (gL Qv):=by decide+kernel
theorem LI:Qv=Vg.flatMap fun w=> [w.take 1,w.take 2,w.take 3,w]:=by decide+kernel
theorem Oc:(Vg.all fun w=>Nat.beq w.length 4)=true:=by decide+kernel
theorem AA{α:Type}{l:List α}{p q:α→Bool}(h:∀x∈l,p x=q x):l.any p=l.any q:=by
 induction l with
 |nil=>rfl
 |cons x l ih=>
  rw[List.any_cons,List.any_cons,h x (.head _),ih fun y hy=>h y (.tail _ hy)]
theorem M0(a b:LN):(dx ⟨⟨a⟩⟩ ⟨⟨b⟩⟩=true)=(a=b):=by
 rw[eq_iff_iff,zi]
 simp
theorem U3{o0 o1 o2 o3:Nat}{y:LN}(h1:1≤y.length)(h4:y.length≤4):((List.range 56).any fun i=>dx (WD o0 o1 o2 o3 i) ⟨⟨y⟩⟩)=i5 o0 o1 o2 o3 y:=by
 have e:((List.range 56).any fun i=>dx (WD o0 o1 o2 o3 i) ⟨⟨y⟩⟩)=Qv.any fun v=>dx ⟨⟨v.map (Fx o0 o1 o2 o3)⟩⟩ ⟨⟨y⟩⟩:=by
  conv=>rhs;rw[NJ]
  rw[List.any_map]
  rfl
 rw[e,LI,List.any_flatMap]
 unfold i5
 refine AA fun w hw=> ?_
 have hl:=Nat.eq_of_beq_eq_true (List.all_eq_true.mp Oc w hw)
 match w,hl with
 |[a,b,c,d],_=>
  rw[Bool.eq_iff_iff]
  simp only[List.any_cons,List.any_nil,Bool.or_false,Bool.or_eq_true,M0,List.take_succ_cons,List.take_zero,List.map_cons,List.map_nil]
  match y,h1,h4 with
  |[y0],_,_=>
   simp[Av]
   exact⟨fun h=>by simp[h],fun h=>by simp[h]⟩
  |[y0,y1],_,_=>
   simp[Av]
   exact⟨fun h=>by simp[h],fun h=>by simp[h]⟩
  |[y0,y1,y2],_,_=>
   simp[Av]
   exact⟨fun h=>by simp[h],fun h=>by simp[h]⟩
  |[y0,y1,y2,y3],_,_=>
   simp[Av]
   exact⟨fun h=>by simp[h],fun h=>by simp[h]⟩
noncomputable def BE(P:Pm)(r o0 o1 o2 o3:Nat)(pp:NN)(slots:LN):Hk:=
 R5 (fun obs=>Es P (xR r) (xk (gO obs 1)) pp (ba (bM (xR r)) (xk (gO obs 1)) 24) (ba (WD o0 o1 o2 o3) (xk (gO obs 4)) 56) 24 10 slots) slots
theorem Fj{r o0 o1 o2 o3:Nat}{pp:NN}{bb:Nat→Bool}(H:da r o0 o1 o2 o3 pp bb)(hn:slots.Nodup:=by decide)(hd:hdp≤410:=by decide):(BE w.params r o0 o1 o2 o3 pp slots).Ok (bs w.params w.params) w os hdp:=by
 have m:∀i<24,i5 o0 o1 o2 o3 [xR r i 0]=true∧i5 o0 o1 o2 o3 [xR r i 0,xR r i 1]=Ai (pp i)∧i5 o0 o1 o2 o3 [xR r i 0,xR r i 1,xR r i 2]=iH (pp i)∧i5 o0 o1 o2 o3 [xR r i 0,xR r i 1,xR r i 2,xR r i 3]=iH (pp i):=fun i hi=>by
  have:=iK H.m hi
  simp only[Bool.and_eq_true,beq_iff_eq] at this
  exact⟨this.1.1.1,this.1.1.2,this.1.2,this.2⟩
 refine wO hn fun obs=>Jb (by decide) (by decide) (db _ _ _) (fun i hi=>fN hi) D1 (fun i hi u=> ?_) (fun i hi u=> ?_) (fun i hi u=> ?_) (fun i hi u=> ?_) H.hM hn hd
 ·rw[fY,U3 (by simp) (by simp)];exact(m i hi).1
 ·rw[fY,U3 (by simp) (by simp)];exact(m i hi).2.1
 ·rw[fY,U3 (by simp) (by simp)];exact(m i hi).2.2.1
 ·rw[fY,U3 (by simp) (by simp)];exact(m i hi).2.2.2
end
end
section
open PySem.SeqAt PySem.MeetsSeq PySem.Calls PyProof.Rows
theorem rI(t:SetTable):(dF t).plain=false:=by
 unfold dF
 cases h:t.plain with
 |true=>rfl
 |false=>exact h
theorem q8{t:SetTable}(hp:t.plain=false)(es:Array (Int×Vl))(n:Nat):(relayAll t es n).2.1.plain=false:=by
 unfold relayAll SetTable.relaid SetTable.laid
 cases SetTable.layClean (SetTable.sizeAbove n -1) (es.map (·.1)) with
 |none=>rfl
 |some owner=>
  dsimp only[Option.bind_eq_bind,Option.bind_some,Option.pure_def]
  split
  ·exact hp
  ·rfl
theorem xE{d:SD}{h:Int}{x:Vl}{k:Str}(hn:d.es.findIdx? (fun e=>e.2.isStr k)=none):(tj d h x k).t.plain=false:=by
 unfold tj
 rw[hn]
 dsimp only
 split
 ·show(relayAll _ _ _).2.1.plain=false
  exact q8 (rI _) _ _
 ·exact rI _
theorem zO{d:SD}{h:Int}{x:Vl}{k:Str}(hp:d.t.plain=false):(tj d h x k).t.plain=false:=by
 cases hf:d.es.findIdx? (fun e=>e.2.isStr k) with
 |none=>exact xE hf
 |some j=>
  unfold tj
  rw[hf]
  exact hp
theorem tf{P:Pm}:∀(l:List SV){d:SD},d.t.plain=false→(uv P d l).t.plain=false
 |[],_,h=>h
 |x::l,d,h=>tf l (zO h)
theorem yX{P:Pm}{led:Bool}(x:SV)(l:List SV):(uv P (Ar led) (x::l)).t.plain=false:=by
 refine tf l (xE ?_)
 simp[Ar]
theorem O3{w:Wd}{d:SD}{l:List SV}(G:bR w d l){x y:SV}(hx:x∈l)(hy:y∈l)(hxy:x.1≠y.1):2≤d.es.size:=by
 obtain⟨e,he,qe⟩:=G.sup x hx
 obtain⟨f,hf,qf⟩:=G.sup y hy
 have hne:e≠f:=fun h=>by
  subst h
  obtain⟨z,_,ez⟩:=G.sub e he
  rw[ez] at qe qf
  have h1:=Value.isStrOf_inj (c6 z) x.1 z.1 qe (cn z)
  have h2:=Value.isStrOf_inj (c6 z) y.1 z.1 qf (cn z)
  exact hxy (h1.trans h2.symm)
 have:d.es.toList.length=d.es.size:=by simp
 match hh:d.es.toList with
 |[]=>rw[hh] at he;cases he
 |[a]=>
  rw[hh] at he hf
  simp at he hf
  exact absurd (he.trans hf.symm) hne
 |a::b::r=>rw[hh] at this;simp at this;omega
noncomputable def Da(r:Nat)(pp:NN)(xl:LN):List SV:=(List.range 10).map fun j=>(bS (dd (xR r) pp 24 j),gx xl j)
theorem Nq{x:Nat→Nat→Nat}{pp:NN}(hM:(cW pp 24).length=10){j:Nat}(hj:j<10):∃q∈cW pp 24,dd x pp 24 j=dh x pp q:=by
 refine⟨gx (cW pp 24) j,?_,rfl⟩
 have h:=qH (cW pp 24)
 rw[hM] at h
 rw[←h]
 have:gx ((List.range 10).map fun j=>gx (cW pp 24) j) j=gx (cW pp 24) j:=by rw[h]
 rw[this]
 exact List.mem_map.mpr ⟨j,List.mem_range.mpr hj,rfl⟩
theorem zx{x:Nat→Nat→Nat}{pp:NN}(hM:(cW pp 24).length=10)(f:Str→Bool):((List.range 10).any fun j=>f (dd x pp 24 j))=(cW pp 24).any fun q=>f (dh x pp q):=by
 have h:=qH (cW pp 24)
 rw[hM] at h
 conv=>rhs;rw[←h]
 rw[List.any_map]
 rfl
section
variable{w:Wd}{os:OS}{hdp:Nat}{slots:LN}{r o0 o1 o2 o3:Nat}{pp:NN}{bb:Nat→Bool}
theorem AD{l:LN}(h:l.all (fun c=>Nat.blt c 128)=true):(⟨⟨l⟩⟩:Str).cps.all (· <128)=true:=by
 show(l.toArray).all (· <128)=true
 rw[List.all_toArray]
 rw[List.all_eq_true] at h⊢
 intro c hc
 have:=h c hc
 simpa[Nat.blt_eq] using this
theorem EL(H:da r o0 o1 o2 o3 pp bb):∀j<10,vI (dd (xR r) pp 24 j):=fun j hj=>by
 obtain⟨q,hq,e⟩:=Nq (x:=xR r) H.hM hj
 have h:=List.all_eq_true.mp H.d q hq
 rw[e]
 obtain⟨h1,h2⟩:=Bool.and_eq_true _ _▸h
 generalize dh (xR r) pp q=y at h1 h2
 obtain⟨⟨y⟩⟩:=y
 refine⟨?_,AD h2⟩
 match y,h1 with
 |[a,b],_=>exact .inl ⟨a,b,rfl⟩
 |[a,b,c],_=>exact .inr ⟨a,b,c,rfl⟩
noncomputable def JM(r:Nat)(pp:NN)(P:Pm)(slots:LN):Hk:={Un (dd (xR r) pp 24) P slots with told:=fun _ _ _ l=> [gx l 1,gx l 2,gx l 3,gx l 4,gx l 5,gx l 6,gx l 7,gx l 8,gx l 9,gx l 10]}
theorem Na(H:da r o0 o1 o2 o3 pp bb)(hn:slots.Nodup:=by decide)(hd:hdp≤410:=by decide):(JM r pp w.params slots).Ok (bs w.params w.params) w os hdp:=Q2 w os _ (EL H) hn hd
theorem H6{y:Str}(D:vI y):(bS y).length≤5:=by
 rcases D.ok with⟨a,b,rfl⟩|⟨a,b,c,rfl⟩
 ·show 3≤5;decide
 ·show 5≤5;decide
theorem ME(H:da r o0 o1 o2 o3 pp bb)(led:Bool)(xl:LN)(u v:Nat){i:Nat}(hi:i<24)(l:LN):
 zY w (bb i) (dq (xR r) i) (uv w.params (Ar led) (Da r pp xl)) (Da r pp xl) ([(rH,u,.int 1 v)]++xc (xR r) bb i l):=by
 have hT:=iK H.t hi
 simp only[Bool.and_eq_true,Bool.not_eq_true',beq_iff_eq] at hT
 have G:bR w (uv w.params (Ar led) (Da r pp xl)) (Da r pp xl):=vM (Da r pp xl) (BI w led)
 refine⟨G,by simp[Da],fun x hx=> ?_,?_,?_,?_,?_,?_,?_⟩
 ·obtain⟨j,hj,rfl⟩:=List.mem_map.mp hx
  have:=H6 (EL H j (List.mem_range.mp hj))
  show(bS _).length≤1000
  omega
 ·have e:=zx (x:=xR r) H.hM fun y=>dx (bS y) (dq (xR r) i)
  unfold Da
  rw[List.any_map]
  have e2:((fun x:SV=>x.1==dq (xR r) i)∘fun j=>(bS (dd (xR r) pp 24 j),gx xl j))=fun j=>dx (bS (dd (xR r) pp 24 j)) (dq (xR r) i):=by
   funext j
   exact(je _ _).symm
  rw[e2,e]
  exact hT.1.1
 ·show bZ _ ((rH,u,.int 1 v)::xc (xR r) bb i l)=none
  have hrr:∀j<i,dx (dq (xR r) j) (dq (xR r) i)=false:=fun j hj=>by
   have:=iK (iK H.tt hi) hj
   simpa using this
  unfold bZ
  rw[hT.1.2]
  dsimp only
  have key:∀(L:LN),(∀j∈L,j<i)→bZ (dq (xR r) i) (L.map fun j=>(dq (xR r) j,gx l (3*j+1),Value.int (hH (bb j)) (gx l (3*j+2))))=none:=by
   intro L hL
   induction L with
   |nil=>rfl
   |cons j L ih=>
    rw[List.map_cons]
    unfold bZ
    rw[hrr j (hL j (.head _))]
    exact ih fun k hk=>hL k (.tail _ hk)
  exact key _ fun j hj=>List.mem_range.mp hj
 ·show(_::xc (xR r) bb i l).length≤1000
  simp[xc]
  omega
 ·have h2:=H.two
  rw[←zx (x:=xR r) H.hM fun y=> !dx (bS (dd (xR r) pp 24 0)) (bS y)] at h2
  obtain⟨j,hj,hne⟩:=List.any_eq_true.mp h2
  refine O3 G (x:=(bS (dd (xR r) pp 24 0),gx xl 0)) (y:=(bS (dd (xR r) pp 24 j),gx xl j)) (List.mem_map.mpr ⟨0,List.mem_range.mpr (by decide),rfl⟩) (List.mem_map.mpr ⟨j,hj,rfl⟩) fun e=> ?_
  have:=(zi (bS (dd (xR r) pp 24 0)) (bS (dd (xR r) pp 24 j))).mpr e
  rw[this] at hne
  cases hne
 ·exact yX _ _
 ·have e:=zx (x:=xR r) H.hM fun y=>Av (zB y.cps.toList++ [46]) (dq (xR r) i).cps.toList
  unfold Da
  rw[List.any_map]
  have e2:((fun x:SV=>jq (dq (xR r) i) (x.1++b8))∘fun j=>(bS (dd (xR r) pp 24 j),gx xl j))=fun j=>Av (zB (dd (xR r) pp 24 j).cps.toList++ [46]) (dq (xR r) i).cps.toList:=by
   funext j
   show jq _ _=_
   rw[SE]
   have e3:(bS (dd (xR r) pp 24 j)++b8).cps.toList=zB (dd (xR r) pp 24 j).cps.toList++ [46]:=by
    show(_++_:Array Nat).toList=_
    simp[bS,b8]
   rw[e3]
  rw[e2,e]
  exact hT.2
noncomputable def Ci(P:Pm)(r:Nat)(pp:NN)(bb:Nat→Bool)(led:Bool)(xl slots:LN):Hk:=
 R5 (fun obs=>E6 P (xR r) (xk (gO obs 1)) bb (ba (bM (xR r)) (xk (gO obs 1)) 24) (uv P (Ar led) (Da r pp xl)) [(rH,aZ obs 8 0,.int 1 (aJ obs 8 0))] (bO (gO obs 8)) 24 slots) slots
theorem GE(H:da r o0 o1 o2 o3 pp bb){led:Bool}{xl:LN}(hn:slots.Nodup:=by decide)(hd:hdp≤410:=by decide):(Ci w.params r pp bb led xl slots).Ok (bs w.params w.params) w os hdp:=
 wO hn fun obs=>Id (ls:=Da r pp xl) (by decide) (by decide) (db _ _ _) (fun i hi=>fN hi) (fun i hi=>AD (iK H.as hi)) (fun i hi l=>ME H led xl _ _ hi l) hn hd
noncomputable def D5(P:Pm)(r:Nat)(pp:NN)(led:Bool)(xl slots:LN):Hk:=R5 (fun obs=>vV P (Da r pp xl) (bO (gO obs 2)) led slots) slots
theorem Hj{led:Bool}{xl:LN}(hn:slots.Nodup:=by decide):(D5 w.params r pp led xl slots).Ok (bs w.params w.params) w os hdp:=wO hn fun obs=>zU (by simp[Da]) hn
noncomputable def GN(P:Pm)(r o0 o1 o2 o3:Nat)(bb:Nat→Bool)(slots:LN):Hk:=
 R5 (fun obs=>KI P (xR r) (xk (gO obs 1)) bb (ba (bM (xR r)) (xk (gO obs 1)) 24) (Go o0 o1 o2 o3) 24 slots) slots
theorem H5(H:da r o0 o1 o2 o3 pp bb)(hn:slots.Nodup:=by decide)(hd:hdp≤410:=by decide):(GN w.params r o0 o1 o2 o3 bb slots).Ok (bs w.params w.params) w os hdp:=
 wO hn fun obs=>NH (by decide) (by decide) (db _ _ _) (fun i hi=>fN hi) (fun k hk=>AD (iK H.h hk)) (fun i hi k hk=>by
  have:=iK (iK H.h0 hi) hk
  rw[R4]
  simpa using this) (fun i hi=>by
  have:=iK H.hB hi
  rw[Ry]
  exact eq_of_beq this) hn hd
end
end
section
open PySem.SeqAt PySem.MeetsSeq PySem.Calls PyProof.Rows
noncomputable def on(b:Bool):Nat:=match b with
 |true=>49
 |false=>48
noncomputable def Tz(bb:Nat→Bool):Str:=⟨⟨[91,on (bb 0),44,32,on (bb 1),44,32,on (bb 2),44,32,on (bb 3),44,32,on (bb 4),44,32,on (bb 5),44,32,on (bb 6),44,32,on (bb 7),44,32,on (bb 8),44,32,on (bb 9),44,32,on (bb 10),44,32,on (bb 11),44,32,on (bb 12),44,32,on (bb 13),44,32,on (bb 14),44,32,on (bb 15),44,32,on (bb 16),44,32,on (bb 17),44,32,on (bb 18),44,32,on (bb 19),44,32,on (bb 20),44,32,on (bb 21),44,32,on (bb 22),44,32,on (bb 23),93]⟩⟩
theorem LM{M:Model}{kt:KT}{os:OS}{dep:Nat}{c:Code}{ad:LA}{pre:LL}{obE obE':LN→LL}{k nt nt':Nat}{gl:LG}(h:cb M kt os dep c ad (zt pre obE k nt gl))(f:LN→LN)(hf:∀l,l.length=nt→(f l).length=nt'∧obE l=obE' (f l)):
 cb M kt os dep c ad (zt pre obE' k nt' gl):=by
 intro s K g0 hL hA nd hk Γ p hc hb
 obtain⟨r,s',hr,as,ts,ha,ht,e,E⟩:=h s K g0 hL hA nd hk Γ p hc hb
 obtain rfl:as=[]:=List.length_eq_zero_iff.mp ha
 obtain⟨h1,h2⟩:=hf ts ht
 refine⟨r,s',hr,[],f ts,rfl,h1,e,?_⟩
 have e1:((List.range k).map fun j=>fun(l:LN)=>gO (obE l) j).map (· ([]++ts))=((List.range k).map fun j=>fun(l:LN)=>gO (obE' l) j).map (· ([]++f ts)):=by
  rw[List.map_map,List.map_map]
  refine List.map_congr_left fun j _=> ?_
  show gO (obE ts) j=gO (obE' (f ts)) j
  rw[h2]
 show hO _ _ (ad.zip (((List.range k).map fun j=>fun(l:LN)=>gO (obE' l) j).map (· ([]++f ts)))) [] _
 rw[←e1]
 exact E
section
variable{w:Wd}{os:OS}{hdp dep:Nat}{slots:LN}{r o0 o1 o2 o3:Nat}{pp:NN}{bb:Nat→Bool}
theorem H_{b:Bool}{t:Tok}{gl:LG}:
 cb (model TW w) (bD w.params) os 600 (.call (.builtin "int.__repr__") ⟨[.int (hH b) t],[]⟩) [] (aL [] gl 1 fun l=> .ok (.ret (.str ⟨⟨[on b]⟩⟩ (gx l 0)))):=by
 cases b with
 |true=>exact aG (av w) (hdp:=700) (hs:=[]) (ks:=[]) ak ak [] (fun r _ _=> [bz (dC r)]) 20 [0,0,0,0,0,0]
 |false=>exact aG (av w) (hdp:=700) (hs:=[]) (ks:=[]) ak ak [] (fun r _ _=> [bz (dC r)]) 20 [0,0,0,0,0,0]
noncomputable def cr(b:Bool)(slots:LN):Hk:=⟨slots,fun _ _ c=> .call (.builtin "int.__repr__") ⟨[.int (hH b) (bz (b_ c 0))],[]⟩,fun gl _ _ _=>aL [] gl 1 fun l=> .ok (.ret (.str ⟨⟨[on b]⟩⟩ (gx l 0))),aC⟩
theorem bU{b:Bool}{hdp:Nat}(hn:slots.Nodup:=by decide)(hd:hdp≤600:=by decide):(cr b slots).Ok (bs w.params w.params) w os hdp:=
 ⟨hn,fun gl ad obs c=>aE hd (by
  intro s K g hl
  obtain rfl:ad=[]:=List.length_eq_zero_iff.mp hl
  exact H_ s K g hl)⟩
noncomputable def BJ(bb:Nat→Bool)(t:NN)(n:Nat):LV:=(List.range n).map fun i=> .int (hH (bb i)) (t i)
theorem EQ{t:NN}{n i:Nat}(h:i<n):(BJ bb t n)[i]? =some (.int (hH (bb i)) (t i)):=by
 unfold BJ
 simp[h]
noncomputable def DW(P:Pm)(ad:LN)(r:Nat)(rt at_:NN)(bb:Nat→Bool)(aA dus:LV)(nr nd na e:Nat)(l:LN):LL:=
 IF P ad (bn .none 24) (bn (.ref (gx ad 5)) 24) aA dus nr nd (some (Ql (xR r) rt at_ bb 23 l)) (e+2) (bu (ba (uS r bb) (fun j=>gx l (2+j)) 14) (na+14))
theorem qS(x:Nat→Nat→Nat)(rt:NN)(bb:Nat→Bool):∀N,DL x rt bb N=((List.range N).filter fun j=> !bb j).map fun j=>Value.str (bM x j) (rt j)
 |0=>rfl
 |N+1=>by
  rw[pL,qS x rt bb N,List.range_succ,List.filter_append,List.map_append]
  congr 1
  cases h:bb N<;>simp[G1,h]
theorem yx:∀N,iT bb N=((List.range N).filter fun j=> !bb j).length
 |0=>rfl
 |N+1=>by
  show iT bb N+Nl (bb N)=_
  rw[yx N,List.range_succ,List.filter_append,List.length_append]
  congr 1
  cases h:bb N<;>simp[Nl,h]
theorem Tb(H:da r o0 o1 o2 o3 pp bb)(rt:NN)(k1 k2:Nat):DL (xR r) rt bb 24=ba (uS r bb) (fun j=>gx ([k1,k2]++(List.range 14).map fun j=>rt (gx (oy bb) j)) (2+j)) 14:=by
 have hz:(oy bb).length=14:=by rw[←H.z];exact(yx 24).symm
 have hm:=qH (oy bb)
 rw[hz] at hm
 rw[qS]
 show(oy bb).map _=_
 conv=>lhs;rw[←hm]
 rw[List.map_map]
 unfold ba
 refine List.map_congr_left fun j hj=> ?_
 have hj':j<14:=List.mem_range.mp hj
 have e:gx ([k1,k2]++(List.range 14).map fun j=>rt (gx (oy bb) j)) (2+j)=rt (gx (oy bb) j):=by
  have hg:∀(f:NN)(n j:Nat),j<n→gx ((List.range n).map f) j=f j:=by
   intro f n
   induction n generalizing f with
   |zero=>intro j h;omega
   |succ n ih=>
    intro j h
    rw[List.range_succ_eq_map,List.map_cons,List.map_map]
    cases j with
    |zero=>rfl
    |succ j=>exact ih (f∘Nat.succ) j (by omega)
  rw[show 2+j=[k1,k2].length+j from rfl,d_]
  exact hg (fun j=>rt (gx (oy bb) j)) 14 j hj'
 show Value.str (bM (xR r) (gx (oy bb) j)) (rt (gx (oy bb) j))=Value.str (uS r bb j) (gx ([k1,k2]++(List.range 14).map fun j=>rt (gx (oy bb) j)) (2+j))
 rw[e]
 rfl
theorem O0(H:da r o0 o1 o2 o3 pp bb){aA dus:LV}{rt at_:NN}{a0 a1 a2 a3 a4 a5 a6 a7 a8 nr nd na e f:Nat}{gl:LG}(hlen:aA.length=24)(hrows:∀i<24,aA[i]? =some (.str (bM (xR r) i) (rt i)))(hdus:∀i<24,dus[i]? =some (.int (hH (bb i)) (at_ i))):
 cb (model TW w) (bD w.params) os 410 (Iv [a0,a1,a2,a3,a4,a5,a6,a7,a8] f) [a0,a1,a2,a3,a4,a5,a6,a7,a8] (zt (Ej w.params [a0,a1,a2,a3,a4,a5,a6,a7,a8] (xR r) rt at_ bb aA dus nr nd na e 0 []) (DW w.params [a0,a1,a2,a3,a4,a5,a6,a7,a8] r rt at_ bb aA dus nr nd na e) 9 16 gl):=by
 refine LM (MX (N:=24) (by decide) (by decide) hlen hrows hdus) (fun l=>l++(List.range 14).map fun j=>rt (gx (oy bb) j)) fun l hl=> ?_
 match l,hl with
 |[k1,k2],_=>
  refine⟨by simp,?_⟩
  unfold Lr DW
  rw[Tb H rt k1 k2,H.z]
  rfl
noncomputable def Qx(P:Pm)(r:Nat)(bb:Nat→Bool)(slots:LN):Hk:=
 ⟨slots,fun ad _ c=>Iv ad (Ju c 1),fun gl ad obs _=>zt (Ej P ad (xR r) (xk (gO obs 3)) (xk (gO obs 5)) bb (ba (bM (xR r)) (xk (gO obs 3)) 24) (BJ bb (xk (gO obs 5)) 24) (bO (gO obs 3)) (bO (gO obs 5)) (bO (gO obs 8)) (bO (gO obs 7)) 0 []) (DW P ad r (xk (gO obs 3)) (xk (gO obs 5)) bb (ba (bM (xR r)) (xk (gO obs 3)) 24) (BJ bb (xk (gO obs 5)) 24) (bO (gO obs 3)) (bO (gO obs 5)) (bO (gO obs 8)) (bO (gO obs 7))) 9 16 gl,aC⟩
theorem QW(H:da r o0 o1 o2 o3 pp bb)(hn:slots.Nodup:=by decide)(hd:hdp≤410:=by decide):(Qx w.params r bb slots).Ok (bs w.params w.params) w os hdp:=
 ⟨hn,fun gl ad obs c=>aE hd (by
  intro s K' g hL
  have hL':ad.length=9:=hL
  obtain⟨y9,hf9⟩:=J_ hL'
  have hf9:ad=[y9 0,y9 1,y9 2,y9 3,y9 4,y9 5,y9 6,y9 7,y9 8]:=hf9
  subst hf9
  exact O0 H (db _ _ _) (fun i hi=>fN hi) (fun i hi=>EQ hi) s K' g hL)⟩
theorem DX{p:Program}{kt:KT}{a b:Addr}{n m k:Nat}{u:Nat→Str}{t v:NN}{gl:LG}:
 cb (model p w) kt os dep (.call (.builtin "list.__eq__") ⟨[.ref a,.ref b],[]⟩) [a,b] (aL [bu (ba u t k) n,bu (ba u v k) m] gl 0 fun _=> .ok (.ret (.bool true))):=by
 refine cH PySem.F.slot_list_eq PySem.F.entry_list_eq (PySem.F.args_list_eq_2 _ _) fun s K g l' q nd hk=> ?_
 have ha:s.heap.get? a=some _:=q (a,_) List.mem_cons_self
 have hb:s.heap.get? b=some _:=q (b,_) (List.mem_cons_of_mem _ List.mem_cons_self)
 refine⟨⟨_,ha,rfl⟩,?_⟩
 have hz:(⟨ba u t k⟩:Array Vl).size=k:=db u t k
 have hz2:(⟨ba u v k⟩:Array Vl).size=k:=db u v k
 refine list_eqAt a b ⟨ba u t k⟩ ⟨ba u v k⟩ n m none none #[] #[] (hz.trans hz2.symm) (fun _=>true) p w (AG dep) _ s ⟨ha,hb,fun j h1 h2=> ?_,?_⟩
 ·have hj:j<k:=by rw[hz] at h1;exact h1
  have key:∀(x:Str)(k l:Nat),EqAt (AG dep).in1 s (.str x k) (.str x l) true:=fun x k l=>by
   have:=r8 (A:=(AG dep).in1) (s:=s) (y:= .str x k) (x:= .str x l) rfl rfl
   have e:zs (.str x k) (.str x l)=true:=vH x
   rwa[e] at this
  have g1:∀(tt:NN)(h:j<(⟨ba u tt k⟩:Array Vl).size),(⟨ba u tt k⟩:Array Vl)[j]= .str (u j) (tt j):=fun tt h=>by
   have:=fN (g:=u) (t:=tt) hj
   have h':(ba u tt k)[j]? =some ((⟨ba u tt k⟩:Array Vl)[j]):=by
    show _=some ((ba u tt k)[j]'_)
    exact List.getElem?_eq_getElem _
   rw[this] at h'
   exact(Option.some.inj h').symm
  rw[g1 t h1,g1 v h2]
  exact key _ _ _
 ·show fp _ _ _ (.ok (.ret (.bool ((List.range _).all fun _=>true)))) _
  have e:((List.range (⟨ba u t k⟩:Array Vl).size).all fun _=>true)=true:=by simp
  rw[e]
  exact⟨[],[],rfl,rfl,rfl,b6 K g q _⟩
noncomputable def JZ(u:Nat→Str)(k:Nat)(slots:LN):Hk:=
 ⟨slots,fun ad _ _=> .call (.builtin "list.__eq__") ⟨[.ref (gx ad 0),.ref (gx ad 1)],[]⟩,fun gl _ obs _=>aL [bu (ba u (xk (gO obs 0)) k) (bO (gO obs 0)),bu (ba u (xk (gO obs 1)) k) (bO (gO obs 1))] gl 0 fun _=> .ok (.ret (.bool true)),aC⟩
theorem OV{u:Nat→Str}{k:Nat}(hn:slots.Nodup:=by decide):(JZ u k slots).Ok (bs w.params w.params) w os hdp:=Nj hn (fun _ _ _ _=>rfl) fun gl a b _ _=>DX
end
theorem Dm{p:Program}{w:Wd}{kt:KT}{os:OS}{dep:Nat}{a:Addr}{n:Nat}{xs:LV}{gl:LG}(hz:xs.length≤2^20):
 cb (model p w) kt os dep (.builtin "len" ⟨[.ref a],[]⟩) [a] (aL [bu xs n] gl 1 fun l=> .ok (.ret (.int (Int.ofNat xs.length) (gx l 0)))):=by
 refine eQ plain_len entry_len fun s K g l' q _ hk=> ?_
 have ho:s.heap.get? a=some _:=q (a,_) List.mem_cons_self
 unfold Builtin.«len»
 refine wpAny_bind (m:=oneArg "len" _) (wpAny_pure ?_)
 refine wpAny_bind (m:=callSpecial? (.ref a) (Str.ofString "__len__")) (wpAny_callSpecial?_slot (name:=Str.ofString "__len__") ⟨_,ho,rfl⟩ slot_list_len
  (wpAny_call_entry slot_list_len ⟨_,ho,rfl⟩ entry_list_len ?_ (args_list_len _)))
 show wpAny _ _ (do retInt (←seqSize a)) _ _ s
 unfold seqSize
 refine wpAny_bind (wpAny_bind (wpAny_load ho ?_))
 refine wpAny_pure ?_
 refine wpAny_bind (wpAny_mkInt (wpAny_pure ⟨_,rfl,?_⟩))
 refine wpAny_bind (wpAny_holding (wpAny_pure ?_))
 refine wpAny_bind (wpAny_letGo ?_)
 have e:(((⟨xs⟩:Array Vl).size:Nat):Int)=Int.ofNat xs.length:=rfl
 show wpAny _ _ (if(((⟨xs⟩:Array Vl).size:Nat):Int)<0 then _ else _) _ _ _
 rw[e,if_neg (by simp)]
 show wpAny _ _ (if Int.ofNat xs.length≥2^63 then _ else _) _ _ _
 rw[if_neg (by simp;omega)]
 exact wpAny_bind (wpAny_mkInt (wpAny_pure (eK K g q _ _)))
noncomputable def DC(xs:LV)(slots:LN):Hk:=
 ⟨slots,fun ad _ _=> .builtin "len" ⟨[.ref (gx ad 0)],[]⟩,fun gl _ obs _=>aL [bu xs (bO (gO obs 0))] gl 1 fun l=> .ok (.ret (.int (Int.ofNat xs.length) (gx l 0))),aC⟩
theorem Ht{w:Wd}{os:OS}{xs:LV}{hdp:Nat}{slots:LN}(hz:xs.length≤2^20)(hn:slots.Nodup:=by decide):(DC xs slots).Ok (bs w.params w.params) w os hdp:=qs hn (fun _ _ _ _=>rfl) fun gl a _ _=>Dm hz
end
noncomputable def rzM(r:Flow):Sem Fin:=match r with
 | .ret v=>PySem.W.Fast.tw6905046200447255374 v
 |_=>PySem.W.Fast.tw6905046200447255374 .none
noncomputable def rzP(e f:Nat)(fr:Vl)(pl:LV):Sem Unit:=bd (PySem.W.Fast.tw7687323783571163205 .none fr .none (rawInt f) .none pl) fun ent=>PySem.W.Fast.tw17858455048448223758 (.ref e) 1 ent
noncomputable def rzT(e:Nat)(X:Sem Unit):Sem Fin:=bd (bd (bd X fun _=>PySem.W.Fast.tw5670386056902412789 (.ref e) none) fun(_:Unit)=>(Sem.raise (.ref e):Sem Flow)) rzM
noncomputable def rzF(e f:Nat)(L:List Env):Sem Fin:=rzT e (bd (bd (PySem.W.Fast.tw10665104254819526710 L) fun r=>match r with|some x=>Sem.pure x|none=>unsupported "internal:frame-not-on-the-stack") fun fr=>bd (PySem.W.Fast.tw17431863860829184973 f false) fun pl=>rzP e f fr pl)
noncomputable def U2(e f:Nat)(X:Sem LV):Sem Fin:=rzT e (bd X fun pl=>rzP e f (.ref f) pl)
noncomputable def U6:Sem Fin:= .pure (.done .next)
noncomputable def rzL(rest:List (Code×Pos)):List Env:=List.filterMap (fun x=>x.fst.env?) (PySem.W.R.filterR (fun x=>x.fst.isFrame) rest)
noncomputable def YA(g:Env→List Env→List Env)(e:Nat)(c:Code)(rest:List (Code×Pos)):Sem Fin:=match c.env? with
 |none=>U6
 |some env=>match env.frame with
  |none=>U6
  |some f=>rzF e f (g env (rzL rest))
noncomputable def Mn(j:Nat):Fac3:=⟨fun c _ rest _ sg _=>YA (fun env L=>List.dropWhile (fun x=>x.frame !=env.frame) (env::L)) (bx sg j) c rest,fun c _ rest _ sg _=>YA (fun env L=>env::L) (bx sg j) c rest⟩
theorem HL(j:Nat):(Mn j).l=(Mn j).r:=by
 funext c p rest T sg xl
 have e:(fun(env:Env) L=>List.dropWhile (fun(x:Env)=>x.frame !=env.frame) (env::L))=fun env L=>env::L:=by
  funext env L
  rw[List.dropWhile_cons]
  simp
 show YA (fun(env:Env) L=>List.dropWhile (fun(x:Env)=>x.frame !=env.frame) (env::L)) (bx sg j) c rest=_
 rw[e]
 rfl
noncomputable def rzC(f:Nat)(acts:List (Code×Pos)):Vl:=match PySem.W.Fast.tw3625924680344080684 f acts with
 |none=> .none
 |some ids=>if(PySem.W.Fast.tw2947500364327052199 ids).length>sizeLine then .none else .str (PySem.W.Fast.tw2947500364327052199 ids) 0
noncomputable def rzQ(pos:Pos)(cs:LV):Sem LV:=Sem.pure (if(pos.line==0)=true then [] else [rawInt pos.line,rawInt pos.endLine,rawInt pos.col,rawInt pos.endCol]++cs)
noncomputable def Py(e:Nat)(c:Code)(p:Pos)(rest:List (Code×Pos)):Sem Fin:=match c.env?.bind fun x=>x.frame with
 |none=>U6
 |some f=>U2 e f (match PySem.W.R.findR (fun(x:Code×Pos)=>match x with|(c,_)=>(c.env?.bind fun x=>x.frame)==some f) ((c,p)::rest) with
  |some (_,pos)=>rzQ pos (PySem.W.Fast.tw10967294825066124259 f false ((c,p)::rest))
  |none=>Sem.pure [])
noncomputable def M2(e:Nat)(c:Code)(p:Pos)(rest:List (Code×Pos)):Sem Fin:=match c.env?.bind fun x=>x.frame with
 |none=>U6
 |some f=>U2 e f (rzQ p [rzC f ((c,p)::rest),.bool false])
noncomputable def PH(j:Nat):Fac3:=⟨fun c p rest _ sg _=>Py (bx sg j) c p rest,fun c p rest _ sg _=>M2 (bx sg j) c p rest⟩
theorem EV(f:Nat)(acts:List (Code×Pos)):PySem.W.Fast.tw10967294825066124259 f false acts=[rzC f acts,.bool false]:=by
 unfold PySem.W.Fast.tw10967294825066124259 rzC
 cases PySem.W.Fast.tw3625924680344080684 f acts with
 |none=>rfl
 |some ids=>rfl
theorem Hb(j:Nat):(PH j).l=(PH j).r:=by
 funext c p rest T sg xl
 show Py _ _ _ _=M2 _ _ _ _
 unfold Py M2
 cases h:c.env?.bind fun x=>x.frame with
 |none=>rfl
 |some f=>
  show U2 _ _ _=U2 _ _ _
  congr 1
  have e:PySem.W.R.findR (fun(x:Code×Pos)=>match x with|(c,_)=>(c.env?.bind fun x=>x.frame)==some f) ((c,p)::rest)=some (c,p):=by
   have hp:((fun(x:Code×Pos)=>match x with|(c,_)=>(c.env?.bind fun x=>x.frame)==some f) (c,p))=true:=by
    show((c.env?.bind fun x=>x.frame)==some f)=true
    rw[h];simp
   show @Bool.rec (fun _=>Option (Code×Pos)) _ (some (c,p)) ((fun(x:Code×Pos)=>match x with|(c,_)=>(c.env?.bind fun x=>x.frame)==some f) (c,p))=_
   rw[hp]
  rw[e,←EV]
theorem SY:∀F∈([]:List Fac3),F.l=F.r:=fun _ h=>nomatch h
theorem DM{a:Fac3}{l:List Fac3}(h1:a.l=a.r)(h2:∀F∈l,F.l=F.r):∀F∈a::l,F.l=F.r:=fun h hm=>by
 rcases List.mem_cons.mp hm with rfl|hm
 ·exact h1
 ·exact h2 h hm
noncomputable def dK(xs:LV)(k m:Nat):Nat:=((px xs k).fmod (Int.ofNat (m+1))).toNat
noncomputable def fX(r:Nat)(xs:LV):Nat→Nat→Nat
 |0=>KA r
 |k+1=>er (dK xs k (3 -k)) (fX r xs k)
theorem VU(r:Nat)(xs:LV):fX r xs 1=er ((px xs 0).fmod (Int.ofNat (3+1))).toNat (fX r xs 0):=rfl
theorem Wj(r:Nat)(xs:LV):fX r xs 2=er ((px xs 1).fmod (Int.ofNat (2+1))).toNat (fX r xs 1):=rfl
theorem WE(r:Nat)(xs:LV):fX r xs 3=er ((px xs 2).fmod (Int.ofNat (1+1))).toNat (fX r xs 2):=rfl
theorem VL(r:Nat)(xs:LV):fX r xs 4=er ((px xs 3).fmod (Int.ofNat (0+1))).toNat (fX r xs 3):=rfl
theorem AS(xs:LV)(k m:Nat):dK xs k m<m+1:=by
 unfold dK
 have h1:=Int.fmod_lt_of_pos (px xs k) (b:=Int.ofNat (m+1)) (by simp)
 have h0:=Int.fmod_nonneg_of_pos (px xs k) (b:=Int.ofNat (m+1)) (by simp)
 simp only[Int.ofNat_eq_natCast] at h1 h0⊢
 omega
noncomputable def perm(a b c:Nat):Nat:=(a*3+b)*2+c
noncomputable def er3(a b c k:Nat):Nat:=match k with
 |0=>a
 |1=>er a id b
 |2=>er b (er a id) c
 |_=>er c (er b (er a id)) 0
theorem aa4(r d:Nat)(g:NN):er d (fun j=>KA r (g j))=fun j=>KA r (er d g j):=by
 funext j
 unfold er
 cases Nat.blt j d<;>rfl
theorem aa5:∀a<4,∀b<3,∀c<2,perm a b c<24∧∀k<4,gx (gL oxT (perm a b c)) k=er3 a b c k:=by decide+kernel
theorem QF(r:Nat){a b c:Nat}(ha:a<4)(hb:b<3)(hc:c<2):perm a b c<24∧oT r (perm a b c) 0=KA r a∧oT r (perm a b c) 1=er a (KA r) b∧oT r (perm a b c) 2=er b (er a (KA r)) c∧oT r (perm a b c) 3=er c (er b (er a (KA r))) 0:=by
 have h:=aa5 a ha b hb c hc
 have e1:er a (KA r)=fun j=>KA r (er a id j):=aa4 r a id
 have e2:er b (er a (KA r))=fun j=>KA r (er b (er a id) j):=by rw[e1];exact aa4 r b (er a id)
 have e3:er c (er b (er a (KA r)))=fun j=>KA r (er c (er b (er a id)) j):=by rw[e2];exact aa4 r c (er b (er a id))
 rw[e3,e2,e1]
 exact⟨h.1,congrArg (KA r) (h.2 0 (by decide)),congrArg (KA r) (h.2 1 (by decide)),congrArg (KA r) (h.2 2 (by decide)),congrArg (KA r) (h.2 3 (by decide))⟩
theorem YJ(r:Nat)(xs:LV):∃e,e<24∧oT r e 0=fX r xs 0 (dK xs 0 3)∧oT r e 1=fX r xs 1 (dK xs 1 2)∧oT r e 2=fX r xs 2 (dK xs 2 1)∧oT r e 3=fX r xs 3 (dK xs 3 0):=by
 have h:=QF r (AS xs 0 3) (AS xs 1 2) (AS xs 2 1)
 have h3:dK xs 3 0=0:=by have:=AS xs 3 0;omega
 refine⟨_,h.1,h.2.1,h.2.2.1,h.2.2.2.1,?_⟩
 rw[h3]
 exact h.2.2.2.2
theorem RI(xs:LV):Int.fmod (Int.ofNat xs.length) 5=Int.ofNat (xs.length%5):=by
 rw[Int.fmod_eq_emod_of_nonneg _ (by decide)]
 rfl
noncomputable def aa8(m:Nat):LV:=match m with
 |0=> []
 |a+1=> [.int 199 0,.int 46 0,.ref a]
noncomputable def oQc(m:Nat):Obj:=O .none none (.fields ⟨aa8 m⟩) ⟨[]⟩
theorem aaP:∀m,oQc m=bE m
 |0=>rfl
 |_+1=>rfl
noncomputable def aaK(o0 o1 o2 o3 m:Nat):PS:=fun P gl ad t=>
 {Qn o0 o1 o2 o3 m P gl ad t with post:=(fun l=>oQc (gx l 7))::(Qn o0 o1 o2 o3 m P gl ad t).post.tail}
theorem aaJ(o0 o1 o2 o3 m:Nat)(P:Pm)(gl:LG)(ad:LN)(t:NN):Qn o0 o1 o2 o3 m P gl ad t=aaK o0 o1 o2 o3 m P gl ad t:=by
 have e:(fun l:LN=>bE (gx l 7))=fun l=>oQc (gx l 7):=funext fun l=>(aaP _).symm
 have z:Qn o0 o1 o2 o3 m P gl ad t={Qn o0 o1 o2 o3 m P gl ad t with post:=(fun l=>bE (gx l 7))::(Qn o0 o1 o2 o3 m P gl ad t).post.tail}:=rfl
 rw[e] at z
 exact z
noncomputable def aaG(o0 o1 o2 o3 m:Nat)(P:Pm)(slots:LN):Hk:=⟨slots,fun ad obs c=>Sb o0 o1 o2 o3 m ad (gx (Rb obs c)),fun gl ad obs c=>aaK o0 o1 o2 o3 m P gl ad (gx (Rb obs c)),aC⟩
theorem aaH{w:Wd}{os:OS}{o0 o1 o2 o3 m hdp:Nat}(hd:hdp≤410)(g0:cO o0=true)(g1:cO o1=true)(g2:cO o2=true)(g3:cO o3=true){slots:LN}(hs:slots.Nodup:=by decide):Hk.OkA (bs w.params w.params) w os hdp 0 167 (aaG o0 o1 o2 o3 m w.params slots):=by
 have h:=MT (w:=w) (os:=os) (m:=m) hd g0 g1 g2 g3 hs
 have e:KR o0 o1 o2 o3 m w.params slots=aaG o0 o1 o2 o3 m w.params slots:=by
  unfold KR aaG
  congr 1
  funext gl ad obs c
  exact aaJ ..
 rw[←e]
 exact h
section
variable(w:Wd)(os:OS)
theorem Ic{w:Wd}{os:OS}{r o0 o1 o2 o3:Nat}{pp:NN}{bb:Nat→Bool}(H:da r o0 o1 o2 o3 pp bb){slots:LN}(hn:slots.Nodup:=by decide){hdp:Nat}:(EI (Mx o0 o1 o2 o3) (uS r bb) 14 slots).Ok (bs w.params w.params) w os hdp:=by
 obtain⟨pm,h1,h2,h3⟩:=H.p
 exact OL (by decide) (by decide) h1 h2 h3 hn
noncomputable def Ru(xs:LV)(r o0 o1 o2 o3:Nat)(pp:NN)(bb:Nat→Bool)(w:Wd):Us:={hs:=[(aB (DC xs [0])),(aB (KJ r (Int.fmod (Int.ofNat xs.length) 5) [9])),(aB (KY r [10])),(aB (de (Qh r [0,1,2,3]) [])),(aB (x7 (px xs 0) (fX r xs 0) (fX r xs 1) o0 3 [11])),(aB (x7 (px xs 1) (fX r xs 1) (fX r xs 2) o1 2 [11])),(aB (x7 (px xs 2) (fX r xs 2) (fX r xs 3) o2 1 [11])),(aB (x7 (px xs 3) (fX r xs 3) (fX r xs 4) o3 0 [11])),(aB (xF o0 [])),(aB (xF o1 [])),(aB (xF o2 [])),(aB (xF o3 [])),(aB (ja (vC o0 o1 o2 o3) 0 (dl o0+1) ⟨⟨[o0]⟩⟩ w.params [40,39,49,46,45])),(aB (ja (vC o0 o1 o2 o3) (0+(dl o0+1)) (dl o1+1) ⟨⟨[o1]⟩⟩ w.params [40,39,49,46,45])),(aB (ja (vC o0 o1 o2 o3) (0+(dl o0+1)+(dl o1+1)) (dl o2+1) ⟨⟨[o2]⟩⟩ w.params [40,39,49,46,45])),(aB (x6 (vC o0 o1 o2 o3) (0+(dl o0+1)+(dl o1+1)+(dl o2+1)) (dl o3) ⟨⟨[o3]⟩⟩ w.params [40,39,49,46,45])),(aB (FJ (vC o0 o1 o2 o3) (0+(dl o0+1)+(dl o1+1)+(dl o2+1)+dl o3) w.params [40,39,49,46,45,50])),(aB (Ew o0 o1 o2 o3 [51,22])),(aB (Si r w.params [])),(aB (FO w.params [])),(aB (SF o0 o1 o2 o3 w.params [64,63,66,5,51,65])),(aB (Ui o0 o1 o2 o3 w.params [67,65,69,68])),(aB (BE w.params r o0 o1 o2 o3 pp [70,62,72,6,68,71])),(Cm (fun xl=>JM r pp w.params [73,71,75,74])),(Cj (fun xl=>D5 w.params r pp (!w.params.followText "set-order") xl [79,80,74])),(Mj false 0 167 (fun xl=>aaG o0 o1 o2 o3 0 w.params [2,98,97,100,99,84,89,94,96])),(Cj (fun xl=>Ci w.params r pp bb (!w.params.followText "set-order") xl [101,62,103,7,102,77,76,79,82,81])),(aB (GN w.params r o0 o1 o2 o3 bb [104,62,106,107,8,99,105])),(aB (cr (bb 0) [])),(aB (cr (bb 1) [])),(aB (cr (bb 2) [])),(aB (cr (bb 3) [])),(aB (cr (bb 4) [])),(aB (cr (bb 5) [])),(aB (cr (bb 6) [])),(aB (cr (bb 7) [])),(aB (cr (bb 8) [])),(aB (cr (bb 9) [])),(aB (cr (bb 10) [])),(aB (cr (bb 11) [])),(aB (cr (bb 12) [])),(aB (cr (bb 13) [])),(aB (cr (bb 14) [])),(aB (cr (bb 15) [])),(aB (cr (bb 16) [])),(aB (cr (bb 17) [])),(aB (cr (bb 18) [])),(aB (cr (bb 19) [])),(aB (cr (bb 20) [])),(aB (cr (bb 21) [])),(aB (cr (bb 22) [])),(aB (cr (bb 23) [])),(aB (Ba (Tz bb) (Tz bb) true [])),(aB (EI (Mx o0 o1 o2 o3) (uS r bb) 14 [111])),(aB (Qx w.params r bb [116,114,112,62,113,105,115,118,117])),(aB (JZ (uS r bb) 14 [111,117]))],fa:=[ZZ xs,Yd xs 17,Wo xs 17,WA o0 o1 o2 o3],fb:=[CS rN (.ref 818),CS rS (.type "generator"),CS rS (.type "str_ascii_iterator"),Pe],f3:=[Mn 59,PH 59]}
theorem X_(xs:LV)(hi:fh xs=true)(hz:xs.length≤2^20){r o0 o1 o2 o3:Nat}{pp:NN}{bb:Nat→Bool}(H:da r o0 o1 o2 o3 pp bb)(hx:Int.fmod (Int.ofNat xs.length) 5=Int.ofNat r)(h0:o0=fX r xs 0 ((px xs 0).fmod (Int.ofNat (3+1))).toNat)(h1:o1=fX r xs 1 ((px xs 1).fmod (Int.ofNat (2+1))).toNat)(h2:o2=fX r xs 2 ((px xs 2).fmod (Int.ofNat (1+1))).toNat)(h3:o3=fX r xs 3 ((px xs 3).fmod (Int.ofNat (0+1))).toNat):Us.Ok (bs w.params w.params) (fun _=> []) w os 310 400 (Ru xs r o0 o1 o2 o3 pp bb w):=by
 have hs:=H.s
 simp only[Bool.and_eq_true] at hs
 obtain⟨⟨⟨g0,g1⟩,g2⟩,g3⟩:=hs
 exact⟨(ac (ae (Ht hz)) (ac (ae (OG H.hr hx)) (ac (ae (MI H.hr)) (ac (ae (cZ (On H.hr))) (ac (ae (wf (by decide) h0 (VU r xs))) (ac (ae (wf (by decide) h1 (Wj r xs))) (ac (ae (wf (by decide) h2 (WE r xs))) (ac (ae (wf (by decide) h3 (VL r xs))) (ac (ae (wL w os g0)) (ac (ae (wL w os g1)) (ac (ae (wL w os g2)) (ac (ae (wL w os g3)) (ac (ae (lk0 w os g0 g1 g2 g3 (by decide) (by decide))) (ac (ae (lk1 w os g0 g1 g2 g3 (by decide) (by decide))) (ac (ae (lk2 w os g0 g1 g2 g3 (by decide) (by decide))) (ac (ae (lk3 w os g0 g1 g2 g3 (by decide) (by decide))) (ac (ae (lk4 w os g0 g1 g2 g3 (by decide) (by decide))) (ac (ae GZ) (ac (ae (Td H.hr)) (ac (ae (Jn w os)) (ac (ae (Qw w os o0 o1 o2 o3)) (ac (ae (RX w os o0 o1 o2 o3)) (ac (ae (Fj H)) (ac (c8 (fun _ _=>rfl) (fun xl=>(Na H))) (ac (NX (fun xl=>Hj (by decide))) (ac (qx (told:=false) (fun h=>nomatch h) (fun xl=>aaH (by decide) g0 g1 g2 g3 (by decide))) (ac (NX (fun xl=>GE H (by decide) (by decide))) (ac (ae (H5 H)) (ac (ae bU) (ac (ae bU) (ac (ae bU) (ac (ae bU) (ac (ae bU) (ac (ae bU) (ac (ae bU) (ac (ae bU) (ac (ae bU) (ac (ae bU) (ac (ae bU) (ac (ae bU) (ac (ae bU) (ac (ae bU) (ac (ae bU) (ac (ae bU) (ac (ae bU) (ac (ae bU) (ac (ae bU) (ac (ae bU) (ac (ae bU) (ac (ae bU) (ac (ae bU) (ac (ae bU) (ac (ae (zK (by simp))) (ac (ae (Ic H)) (ac (ae (QW H)) (ac (ae OV) ak)))))))))))))))))))))))))))))))))))))))))))))))))))))))),ak,al,(oo (OM hz) (oo LP (oo (Ps hi) (oo (L4 _ _ _ _) EW)))),(b4 Cu (b4 HV (b4 ev (b4 ID cV)))),(DM (HL 59) (DM (Hb 59) SY))⟩
noncomputable def V0:LN:=(J [ō2,[4,4,3],ō3,[4,0,2,0,0,2,3,0,4,4,0,0,4],ō3,[3],dO,[0,12,0],dO,dO,[1,0,8,13,0],AV,AV,AV,AV,[13,0],rT,iQ,[15,5,5,4,1,1,1,0,1,0],oh,[16,999973,0,1,17,18,17,0,17,0,18,17,999973,1,18],io,[19,0,19,0,20,20,20,20,20,999973,2,19,0],sL,[1,0,21,0],Gl,KW,[5,0],EJ,[6,0],EJ,[7,0],EJ,[8,0,23,0,23,23,23,0],oD,[21],d8,[26,0,4,4],oA,[24,0,0,4],dI,[27,27],gw,[27,23,23,1,0,23,0,28],gw,gN,ō2,lS,[0,0,33,33,33,1,0,33,0,33,0,0,999975,1,33,32,33,33,33,1,0,33,0,33,33,33,34,34,34,34,34,34,0,33,0,33,0,33,3,0,2,28,28,28,28,28,28,28,28,0],Bf,[32,0,9],AT,Bf,[32],ō5,AT,Bf,[32,0,11],AT,Bf,[32,0,12],AT,[28,0,28,0,28,28,23,28,28,36,38,999973,3,34],c9,g_,[0],g_,[0],g_,gw,[39,0],g_,iE,gF,c9,ō2,[41,0,41],c9,ō2,[42,42,0,42,42,0,42,42,0,42,42,0,42,42,3],ō3,[42],c9,[42],iE,gF,ō3,c9,ow,[0],ow,[0],ow,gw,[45],ō2,[45],dI,[45],iE,iE,fF,[47,0,47],c9,ō2,hV,[0],hV,[0],hV,gw,[48,0,0,48],ō3,hV,ō1,[48],ō1,[48,0,0,48],ō3,hV,Bt,gR,[46,48],Bt,gR,[46,48],Bt,gR,[46],hV,[47],fF,[47],fF,[47],ō3,[47,46,48],dI,[49,49,0,49,49],gw,[49,47],gF,[47],fF,[47,47,0,46,0,49,49,49,49],ō1,[49],ō1,[49,48],Bt,gR,[46,0],vX,[42],vx,[42,42],vx,[42,42],vx,[42,42],vx,sW,[42],rm,[42],rm,[0,0],vx,sW,sW,sW,dI,[50,50,0,50,0,50,50,50],sW,sW,dI,[51,51,0,51,0,51,51,51],sW,[42,0],vX,vx,[42],ō3,g_,[39],vx,g_,vx,[0,0,39],ō3,[3,52,52,0,52,0,52,52,52,52,999975,0,51,40,41],wD,wD,q5,[53,53],gw,[53],wD,wD,wD,[52,52,52,52,52,52,0,41],gF,[54,54],gw,[54],xH,[13,0],vP,rm,dQ,[54],A9,[55,55],gw,[55],xH,[14,0,55,55,55,55],rm,dQ,[55],A9,[56,56],gw,[56],xH,[15,0,56,56,56,56],rm,dQ,[56],A9,[57,57],gw,[57],xH,[16,0],zn,rm,dQ,[57],A9,[58,58],gw,[58],xH,[17,0,58,58,58,58],rm,ō1,c9,[3],hE,[0],hE,[0,0],hE,hE,hE,hE,hE,ō2,hE,[4,0,58,58],g_,[4,3,4,4,1],hE,[60,62,62,60,6,6,6,4,3,52,23,52,1,18,0,4,0,19,0,4,4,0,0,20,64,64,1,0,64,0,65,21,0,4,4,67,67,67,4,66,66,1,0,66,0,68,22],sZ,sZ,sZ,[7,7,4,63,63,1,0,63,0,71,23,0,4,4],ō8,ō8,ō8,[0,4,72,72,1,0,72,0,74,24,76,76,76],iE,gF,c9,ō2,[78,0,78],c9,ō2,[79,79,0,79,79,0,79,79],gw,[79,75,75,0,75,0,75,0,75,0,0,79],dI,ri,[0],ri,[0],ri,[75,75,75,75,75,1,0,75,0,81,25,79,78],D0,[79,79,78],D0,ō6,Bo,[79,78],D0,[8,8],wb,[84,84,84,84,84,23],wb,vG,[86,23],wb,[88,88,88,88,88,23,87,89,87,0,87,0,89,87,89],wb,[91,91,91,91,91,23],wb,[93,93,93,93,93,23,92,94,92,0,92,0,94,92,94],wb,[96,96,96,96,96,23,98,98,1,0,98,0,99,26],rg,rg,[101,9,9,4,63,63,1,0,63,0,102,27,0,4,4,104,104,104,4,63,63,1,0,63,0,105,28,0,4,4,0,0,4],ō3,[3,103,0,103,0,3,103,1,0,103,0,103,3,0,103,1,29],dN,[30],dN,[31],dN,[32],dN,[33],dN,[34],dN,[35],dN,[36],dN,[37],dN,[38],dN,[39],dN,[40],dN,[41],dN,[42],dN,[43],dN,[44],dN,[45],dN,[46],dN,[47],dN,[48],dN,[49],dN,[50],dN,[51],dN,[52],HK,[0,103,109],ō3,[4],ō3,[3,106,0,106,0,3,106,1,0,106,0,106,3,0,106,1,29],dT,[30],dT,[31],dT,[32],dT,[33],dT,[34],dT,[35],dT,[36],dT,[37],dT,[38],dT,[39],dT,[40],dT,[41],dT,[42],dT,[43],dT,[44],dT,[45],dT,[46],dT,[47],dT,[48],dT,[49],dT,[50],dT,[51],dT,[52],gW,[110,0,106,110,0,0,1,53,0,0,4],ō3,[999975,3,110,65,66,66,111,111,111,111,111,54,0,0,4,4],ō3,[63,63,1,0,63,0,113,106,106,1,0,106,0,114,117,117,0,117,0,117,117,117,1,0,117,0,117,55],Ch,[119,119,3,112,118,112,1,56]])
theorem Xb(xs:LV)(n:Nat)(hi:fh xs=true)(hz:xs.length≤2^20){r o0 o1 o2 o3:Nat}{pp:NN}{bb:Nat→Bool}(H:da r o0 o1 o2 o3 pp bb)(hx:Int.fmod (Int.ofNat xs.length) 5=Int.ofNat r)(h0:o0=fX r xs 0 ((px xs 0).fmod (Int.ofNat (3+1))).toNat)(h1:o1=fX r xs 1 ((px xs 1).fmod (Int.ofNat (2+1))).toNat)(h2:o2=fX r xs 2 ((px xs 2).fmod (Int.ofNat (1+1))).toNat)(h3:o3=fX r xs 3 ((px xs 3).fmod (Int.ofNat (0+1))).toNat)(a0:Nat)(t:NN):xQ (model TW w) (bD w.params) os 310 v5 (Bn xs n [a0,832,167] t) [a0,832,167] (zb xs n w.params [a0,832,167] t) [] (A8 xs n w.params a0 t):=
 vr (av w) (hdp:=400) (U:=Ru xs r o0 o1 o2 o3 pp bb w) (gh:=fun _=> []) rfl (X_ w os xs hi hz H hx h0 h1 h2 h3) v5 [] Pb 3978 V0 (fun _=>rfl) (fun _=>rfl) (eC rfl) (by refine bm ?_;kernel_rfl)
end
section
open PySem.SeqAt PySem.MeetsSeq PySem.Calls PyProof.Rows
theorem Fm:((List.range 5).all fun r=>(List.range 24).all fun e=>Sl r (oT r e 0) (oT r e 1) (oT r e 2) (oT r e 3) (Yv e) (Uq e))=true:=by decide+kernel
theorem El:((List.range 5).all fun r=>(List.range 24).all fun e=>Ud r (Yv e) (Uq e))=true:=by decide+kernel
theorem GC:((List.range 5).all fun r=>(List.range 24).all fun e=>Rs r (oT r e 0) (oT r e 1) (oT r e 2) (oT r e 3) (Uq e))=true:=by decide+kernel
theorem Gj:((List.range 5).all fun r=>(List.range 24).all fun e=>UG r (oT r e 0) (oT r e 1) (oT r e 2) (oT r e 3) (Uq e))=true:=by decide+kernel
theorem F2:((List.range 5).all fun r=>aal r)=true:=by decide+kernel
theorem Ff{f:Nat→Bool}(h:((List.range 5).all f)=true){r:Nat}(hr:r<5):f r=true:=List.all_eq_true.mp h r (List.mem_range.mpr hr)
theorem G6{n:Nat}{f:Nat→Bool}(h:((List.range n).all f)=true){r:Nat}(hr:r<n):f r=true:=List.all_eq_true.mp h r (List.mem_range.mpr hr)
theorem LH{r e:Nat}(hr:r<5)(he:e<24):da r (oT r e 0) (oT r e 1) (oT r e 2) (oT r e 3) (Yv e) (Uq e):=by
 have A:=G6 (Ff Fm hr) he
 have B:=G6 (Ff El hr) he
 have C:=G6 (Ff GC hr) he
 have Pq:=G6 (Ff Gj hr) he
 have T:=Ff F2 hr
 unfold Sl at A
 simp only[Bool.and_eq_true] at A
 obtain⟨⟨⟨⟨a1,a2⟩,a3⟩,a4⟩,a5⟩:=A
 unfold Ud at B
 obtain⟨b1,b2⟩:=Bool.and_eq_true _ _▸B
 unfold Rs at C
 obtain⟨C',c4⟩:=Bool.and_eq_true _ _▸C
 obtain⟨C'',c3⟩:=Bool.and_eq_true _ _▸C'
 obtain⟨c1,c2⟩:=Bool.and_eq_true _ _▸C''
 refine⟨hr,?_,?_,Nat.eq_of_beq_eq_true a3,?_,a5,b1,T,b2,c1,c2,c3,Nat.eq_of_beq_eq_true c4,?_⟩
 ·simp only[Bool.and_eq_true]
  exact a1
 ·exact a2
 ·exact a4
 ·unfold UG at Pq
  cases hp:Fn (Mx (oT r e 0) (oT r e 1) (oT r e 2) (oT r e 3)) 14 with
  |none=>rw[hp] at Pq;cases Pq
  |some pm=>
   rw[hp] at Pq
   obtain⟨p1,p2⟩:=Bool.and_eq_true _ _▸Pq
   exact⟨pm,rfl,of_decide_eq_true p1,p2⟩
end
section
open PySem.Spec PySem.Calls PyProof.Rows
theorem Yb(w:Wd)(os:OS)(xs:LV)(n a0:Nat)(t:NN)(hi:fh xs=true)(hl:xs.length≤63):xQ (model TW w) (bD w.params) os 310 v5 (Bn xs n [a0,832,167] t) [a0,832,167] (zb xs n w.params [a0,832,167] t) [] (A8 xs n w.params a0 t):=by
 have hz:xs.length≤2^20:=Nat.le_trans hl (by decide)
 obtain⟨e,he,h0,h1,h2,h3⟩:=YJ (xs.length%5) xs
 exact Xb w os xs n hi hz (LH (Nat.mod_lt _ (by decide)) he) (RI xs) h0 h1 h2 h3 a0 t
theorem wit:PySem.Challenge.rw_aa0064_01.row.toRowW.promised:=by w_witness2
theorem held:PySem.Challenge.rw_aa0064_01.Holds:=ok0 fun k1=>by
 have hw:=wit
 rw[UH] at k1 hw⊢
 exact UN Yb k1 hw
end
end
end Mine
theorem PySem.Challenge.cw_aa0064_01_holds : PySem.Challenge.rw_aa0064_01.Holds :=
 Mine.held
