import PyProof.Rows.All
import PyProof.ExcBaseAll.ValueError
import PyProof.ExcAttrAll.ValueError
import Wide.FinOn
import OpenK.AllK
import Wide.All
import PySem.Challenge.RW_ir0007_01
open PySem PySem.W PyProof.Rows PySem.Calls
open PySem.SeqAt
set_option Elab.async false
set_option maxRecDepth 100000
set_option maxHeartbeats 8000000
set_option linter.all false
namespace LW
noncomputable def hdp.tw3177824431656755449:PySem.Program:=PySem.Challenge.pw_ir0007_01
theorem hdp.te3177824431656755449:PySem.Challenge.pw_ir0007_01=hdp.tw3177824431656755449:=rfl
set_option synthInstance.maxSize 1 in
set_option Elab.async true in
theorem hdp:True:=by
 refine (?_:((∀ P:Prop,P)→PySem.Challenge.rw_ir0007_01.Holds)→True) ?_
 ·exact fun _=>trivial
 intro all
 refine' And.left (And.intro ?g ?hc)
 rotate_left 2
 apply all
 case g=>
  w_on
  o_law
  k_head
  case hw=>w_witness2
set_option tactic.hygienic false
theorem ar1:∀ {a:Nat},a<a+1:=by intros;simp_all;done
theorem ar2:∀ {a:Nat},a<7→a<8:=Nat.lt_succ_of_lt
theorem ar3:∀ {a b:Nat},a=b→b≤1000→a≤16777216:=fun h g=>h▸Nat.le_trans g (by decide)
theorem ar4 {a b:Nat}:a<b→a<b+1:=Nat.lt_succ_of_lt
theorem ar5:∀ {a b:Nat},¬b<a→a≤b:=by simp;done
theorem ar6:∀ {a:Nat},a≤7→a≤20:=by decide
theorem ar7:∀ {a b:Nat},a≤b→a+1≤b+1:=Nat.succ_le_succ
theorem ar8:∀ {a b:Nat},a≤b→a≤b:=by intros;simp_all;done
theorem ar9:∀ {a:Nat},a≤7→a≤1000:=by decide
theorem ar10 {a b:Nat}:¬b≤a→a<b:=Nat.lt_of_not_le
theorem ar11 {a:Nat}:a≤1000→a≤16777216:=fun h=>Nat.le_trans h (by decide)
theorem ar12:∀ {a b:Nat},a<b→b≤a→False:=Nat.not_le_of_lt
theorem ar13 {a b:Nat}:a≤b→b≤a→a=b:=Nat.le_antisymm
theorem ar14:∀ {a:Nat},a≤a+1:=by intros;simp_all;done
theorem ar15:∀ {a:Nat},¬(↑a:Int)<0:=by intros;simp_all;done
theorem ar16:∀ {a:Nat},a≤2→a+1≤3:=Nat.succ_le_succ
theorem ar17:∀ {a b:Nat},a+1≤b→a≤b:=Nat.le_of_succ_le
theorem ar18 {a b:Nat}:a≤b→a≤b+1:=Nat.le_succ_of_le
theorem ar19:∀ {a:Nat},a≤1→a≤16777216:=by decide
theorem ar20:∀ {a:Nat},a=0→0=(↑a:Int):=by simp;done
theorem ar21 {a b:Nat}:b≠a→¬b<a→a<b:=fun h g=>Nat.lt_of_le_of_ne (Nat.le_of_not_lt g) (Ne.symm h)
theorem ar22 {a b:Nat}:2≤a→a<b→a - 1<b:=fun _ h=>Nat.lt_of_le_of_lt (Nat.sub_le _ _) h
theorem ar23:∀ {a b:Nat},a<b→a≤b→a+1≤b:=by intros;assumption
theorem ar24 {a b:Nat}:a<b+1→¬a=b→a<b:=fun h g=>Nat.lt_of_le_of_ne (Nat.le_of_lt_succ h) g
theorem ar25:∀ {a b:Nat},b<7→(a * 8+b) % 8=b:=by omega
theorem ar26:∀ {a:Nat},(↑a:Int)+1=(↑(a+1):Int):=by intros;simp_all;done
theorem ar27 {a b c:Nat}:a≤b→c+1=b - a→a<b:=fun _ h=>Nat.lt_of_sub_pos (h▸Nat.succ_pos c)
theorem ar28 {a b c d e:Nat}:a<c→d<b→d=c→d=e / 64→a<b:=fun h g e _=>Nat.lt_trans h (e▸g)
theorem ar29 {a b c:Nat}:a+1=b - c→c<b→c≤b→a=b - (c+1):=fun h _ _=>congrArg Nat.pred h
theorem ar30:∀ {a b c d e f:Nat},a+(b+(c+(d+(e+f))))≤a+(d+(e+(b+(c+f)))):=by lia
theorem ar31:∀ {a b c d e f:Nat},a+(b+(c+(d+(e+f))))≤a+(e+(d+(c+(b+f)))):=by lia
theorem ar32:0≤0:=Nat.le_add_left _ _
theorem ar33:0≤1000:=by intros;simp_all;done
theorem ar34:∀ {a:Nat},1≤a+1:=by intros;simp_all;done
theorem ar35:∀ {a b:Nat},a≤a+b:=by intros;simp_all;done
theorem ar36:∀ {a:Nat},a+1 - a=1:=by intros;simp_all;done
theorem ar37:∀ {a:Nat},0≤(↑a:Int):=by intros;simp_all;done
theorem ar38 {a:Nat}:¬1≤a→a=0:=fun h=>Nat.eq_zero_of_not_pos h
theorem ar39:∀ {a:Nat},¬a=0→0<a:=Nat.pos_of_ne_zero
theorem ar40:∀ {a b:Nat},a<b→a<b:=by intros;assumption
theorem ar41 {a b:Nat}:a<b→a≤b:=Nat.le_of_lt
theorem ar42 {a b:Nat}:a=0→a≤b:=fun e=>e▸Nat.zero_le b
theorem ar43 {a b:Nat}:a=b→a≤b:=Nat.le_of_eq
theorem ar44 {a:Nat}:1≤a→a - 1<a:=fun h=>Nat.sub_lt h (by decide)
theorem ar45:∀ {a:Nat},a≤100→a≤1000:=by decide
theorem ar46 {a b:Nat}:a+3<b→a<b:=fun h=>Nat.lt_of_le_of_lt (Nat.le_add_right _ _) h
theorem ar47 {a b:Nat}:a<b+1→a≤b:=Nat.le_of_lt_succ
theorem ar48 {a:Prop} {b:Nat}:b<0→a:=fun h=>absurd h (Nat.not_lt_zero b)
theorem ar49 {a:Nat}:7≤a→a≤7→a=7:=fun h g=>Nat.le_antisymm g h
theorem ar50:∀ {a:Nat},a≤100→a≤1000000:=by decide
theorem ar51:∀ {a:Nat},0<a→0<(↑a:Int):=by intros;simp_all;done
theorem ar52 {a:Nat}:a≤1000→a≤1000000:=fun h=>Nat.le_trans h (by decide)
theorem ar53:∀ {a b:Nat},a<b→b≤7→a<7:=Nat.lt_of_lt_of_le
theorem ar54 {a b:Nat}:a<b→b≤7→a<8:=fun h g=>Nat.lt_of_lt_of_le h (Nat.le_trans g (by decide))
theorem ar55 {a b:Nat}:a=b→b<7→a≤7:=fun e h=>e▸Nat.le_of_lt h
theorem ar56 {a:Nat}:0<a→¬(a - 1) / 2=a:=fun h=>Nat.ne_of_lt (Nat.lt_of_le_of_lt (Nat.div_le_self _ _) (Nat.sub_lt h (by decide)))
theorem ar57 {a:Nat}:¬a=0→(a - 1) / 2<a:=fun h=>Nat.lt_of_le_of_lt (Nat.div_le_self _ _) (Nat.sub_lt (Nat.pos_of_ne_zero h) (by decide))
theorem ar58:∀ {a b:Nat},a=b→b≤7→a≤20:=fun h g=>h▸Nat.le_trans g (by decide)
theorem ar59 {a b:Nat}:a≤b→¬a<b→a=b:=fun h g=>Nat.le_antisymm h (Nat.le_of_not_lt g)
theorem ar60 {a b c:Nat}:a<c→c≤b→a≤b:=fun h g=>Nat.le_of_lt (Nat.lt_of_lt_of_le h g)
theorem ar61:∀ {a b c:Nat},a≤c→b=c→a≤b:=by intros;simp_all;done
theorem ar62:∀ {a b c:Nat},a≤c→c=b→a≤b:=by intros;simp_all;done
theorem ar63:∀ {a b c:Nat},a≤c→c≤b→a≤b:=Nat.le_trans
theorem ar64:∀ {a b c:Nat},c=a→c≤b→a≤b:=fun h g=>h▸g
theorem ar65 {a:Nat}:a≤1000000→a≤16777216:=fun h=>Nat.le_trans h (by decide)
theorem ar66 {a b:Nat}:1≤a→a<b→a - 1<b:=fun _ h=>Nat.lt_of_le_of_lt (Nat.sub_le _ _) h
theorem ar67:∀ {a:Nat},a≤1000→(↑a:Int)≤1000:=by lia
theorem ar68 {a b:Nat}:a<b+1→¬a<b→a=b:=fun h g=>Nat.le_antisymm (Nat.le_of_lt_succ h) (Nat.le_of_not_lt g)
theorem ar70:∀ {a b:Nat},b<8→(a * 8+b) % 8=b:=by intros;simp_all;done
theorem ar71 {a b c:Nat}:1≤c→b=a+c→a<b:=fun h e=>Nat.lt_of_lt_of_eq (Nat.lt_add_of_pos_right h) e.symm
theorem ar72 {a:Prop} {b c:Nat}:b<c→c≤b→a:=fun h g=>absurd h (Nat.not_lt_of_le g)
theorem ar73 {a b:Nat}:¬a<b→¬a=b→¬a<b+1:=fun h g k=>(Nat.lt_or_eq_of_le (Nat.le_of_lt_succ k)).elim h g
theorem ar74 {a b:Nat}:a=b+1→b≤900→a≤1000:=fun e h=>e▸Nat.le_trans (Nat.succ_le_succ h) (by decide)
theorem ar75 {a b:Nat}:0<a→a<b→(a - 1) / 2<b:=fun _ h=>Nat.lt_of_le_of_lt (Nat.le_trans (Nat.div_le_self _ _) (Nat.sub_le _ _)) h
theorem ar76 {a b:Nat}:a≤b→b+1≤7→a≤1000000:=fun h g=>Nat.le_trans h (Nat.le_trans (Nat.le_of_lt g) (by decide))
theorem ar77 {a b c:Nat}:a=b→b≤c→c≤7→a≤20:=fun e h g=>e▸Nat.le_trans h (Nat.le_trans g (by decide))
theorem ar78 {a b:Nat}:a+(b+1)≤60→a+1+b≤60:=fun h=>Nat.le_trans (Nat.le_of_eq (Nat.add_right_comm a 1 b)) h
theorem ar79:∀ {a b c:Nat},a+(b+1)<c→a+1+b<c:=by lia
theorem ar80 {a b c:Nat}:a≤b+1+c→a≤b+(c+1):=fun h=>Nat.le_trans h (Nat.le_of_eq (Nat.add_right_comm b 1 c))
theorem ar81 {a b c d:Nat}:a<c→c≤d→d<b→a<b:=fun h g k=>Nat.lt_trans (Nat.lt_of_lt_of_le h g) k
theorem ar82:∀ {a b c d:Nat},a≤c→b≤d→a+b≤c+d:=Nat.add_le_add
theorem ar83 {a b c:Nat}:a+(b+1)=c→c≤100→a≤100:=fun h g=>Nat.le_trans (Nat.le_add_right _ _) (Nat.le_trans (Nat.le_of_eq h) g)
theorem ar84 {a b c:Nat}:a≤2 * b→b=c→c<7→a≤500:=fun h e g=>Nat.le_trans h (Nat.le_trans (Nat.mul_le_mul_left 2 (Nat.le_of_lt (e▸g))) (by decide))
theorem ar85 {a b c:Nat}:a+8 * (b+1)<c→a+1+8 * b<c:=fun h=>Nat.lt_of_le_of_lt (by lia) h
theorem ar86 {a b c:Nat}:a≤2 * b+c→c≤2→a≤2 * (b+1):=fun h g=>Nat.le_trans h (Nat.add_le_add_left g _)
theorem ar87:∀ {a b c d:Nat},b=d→c<d→(a=b∧c<a↔a=b):=by intros;simp_all;done
theorem ar88:∀ {a b c d:Nat},a=c+(b+1)→d=c→a - (b+1)=c:=by intros;simp_all;done
theorem ar89:∀ {a b c d:Nat},a+(b+(c+d))≤a+(d+(b+(c+0))):=by lia
theorem ar90:∀ {a b c d e:Nat},a<c→b=d→d=c→d=e / 64→a<b:=by intros;simp_all;done
theorem ar91 {a b:Nat}:(a - 1) / 2=(b - 1) / 2→0<b→(a - 1) / 2≠b:=fun h g=>h▸Nat.ne_of_lt (Nat.lt_of_le_of_lt (Nat.div_le_self _ _) (Nat.sub_lt g (by decide)))
theorem ar92 {a b c d e:Nat}:a+8 * (e+1)<d→c≤1→a+1+min b c<d:=fun h g=>Nat.lt_of_le_of_lt (Nat.le_trans (Nat.add_le_add_left (Nat.le_trans (Nat.min_le_right _ _) g) _) (by lia)) h
theorem ar93:∀ {a b c d:Nat},(↑a:Int)=(↑c:Int)→b=d→¬a * 8+b<c * 8+d:=by lia
theorem ar94:∀ {a b c d e:Nat},a<c→d=c→d=e / 64→decide (b=d)=true→a<b:=by lia
theorem ar95:∀ {a b c d e f:Nat},a=c+(b+1)→d - e=c→d=a→f=c→a - b=c+1:=by lia
theorem ar96:∀ {a b c d e f:Nat},a+(b+(c+(d+(e+f))))≤a+(d+(e+(c+(b+f)))):=by lia
theorem ar97:∀ {a b c d e f:Nat},a+(b+(c+(d+(e+f))))≤a+(f+(b+(c+(d+e)))):=by lia
theorem ar98:1≤3:=by intros;simp_all;done
theorem ar99:7≤7:=by intros;simp_all;done
theorem ar100:-1<0:=by intros;simp_all;done
theorem ar101:3≤17:=Nat.le_add_left _ _
theorem ar102:¬0 > 0:=Nat.lt_irrefl _
theorem ar103:14≤15:=Nat.le_add_left _ _
theorem ar104:2≤1+1:=Nat.le_add_left _ _
theorem ar105:2 * 7≤50:=by intros;simp_all;done
theorem ar106 {a:Nat}:¬a<0:=Nat.not_lt_zero a
theorem ar107 {a:Nat}:0+a≤a:=Nat.le_of_eq (Nat.zero_add a)
theorem ar108:∀ {a:Nat},0<a+1:=by intros;simp_all;done
theorem ar110 {a:Nat}:a % 7<7:=Nat.mod_lt _ (by decide)
theorem ar111:∀ {a:Nat},a+0=a:=by intros;simp_all;done
theorem ar112:∀ {a:Nat},a - 0≤a:=by intros;simp_all;done
theorem ar113:∀ {a:Nat},a=0+a:=by intros;simp_all;done
theorem ar114:∀ {a:Nat},1+a=a+1:=Nat.add_comm _ _
theorem ar115:∀ {a:Nat},1≤a→0<a:=by intros;assumption
theorem ar116:∀ {a:Nat},2 * a+1≠a:=by lia
theorem ar117:∀ {a:Nat},2≤a→1≤a:=Nat.le_of_succ_le
theorem ar118 {a:Nat}:a+1=1+a:=Nat.add_comm a 1
theorem ar119:∀ {a:Nat},a<0→False:=by intros;simp_all;done
theorem ar120:∀ {a:Nat},a<a→False:=Nat.lt_irrefl _
theorem ar121:∀ {a:Nat},a≤1→a<2:=by decide
theorem ar122:∀ {a b:Nat},min a b≤a:=Nat.min_le_left _ _
theorem ar123:∀ {a:Nat},a=7→a<64:=by simp;done
theorem ar125:∀ {a:Nat},a≤7→a<64:=by decide
theorem ar126:∀ {a:Nat},97+a - 97=a:=by intros;simp_all;done
theorem ar127 {a b:Nat}:a<b→a≠b:=Nat.ne_of_lt
theorem ar128 {a:Nat}:a=7→a≤1000:=fun e=>e▸by decide
theorem ar129:∀ {a:Nat},a≤20→a≤100:=by decide
theorem ar130:∀ {a:Nat},a≤20→a≤900:=by decide
theorem ar131:∀ {a:Nat},a≤6→a≤1000:=by decide
theorem ar132:∀ {a b:Nat},b≠a→¬a=b:=by lia
theorem ar133 {a b:Nat}:¬b≤a→a≤b:=fun h=>Nat.le_of_lt (Nat.lt_of_not_le h)
theorem ar134 {a:Nat}:1≤a→a≠a - 1:=fun h=>Nat.ne_of_gt (Nat.sub_lt h (by decide))
theorem ar135:∀ {a:Nat},2 * a+1+1≠a:=by lia
theorem ar136:∀ {a:Nat},2≤a→2≤a+1:=Nat.le_succ_of_le
theorem ar137 {a:Nat}:2≤a→a - 1<a:=fun h=>Nat.sub_lt (Nat.le_trans (by decide) h) (by decide)
theorem ar138 {a:Nat}:2≤a→a≠a - 1:=fun h=>Nat.ne_of_gt (Nat.sub_lt (Nat.le_trans (by decide) h) (by decide))
theorem ar139:∀ {a:Nat},a=0→a+0=0:=by intros;assumption
theorem ar140 {a:Nat}:a≤63→a≤1000:=fun h=>Nat.le_trans h (by decide)
theorem ar141:∀ {a b c:Nat},c<0→a<b:=by intros;simp_all;done
theorem ar142 {a:Nat}:a≤900→a≤1000:=fun h=>Nat.le_trans h (by decide)
theorem ar143:∀ {a:Nat},1≤a→max a 1=a:=by intros;simp_all;done
theorem ar144:∀ {a:Nat},a+1≤20→a≤20:=Nat.le_of_succ_le
theorem ar145 {a:Nat}:a+1≤7→a<100:=fun h=>Nat.lt_of_lt_of_le h (by decide)
theorem ar146:∀ {a:Nat},a=7→a≤1000000:=by intros;simp_all;done
theorem ar147:∀ {a:Nat},a≤20→0+a≤60:=by decide
theorem ar148:∀ {a:Nat},a≤6→a≤1000000:=by decide
theorem ar149:∀ {a:Nat},a≤7→a≤1000000:=by decide
theorem ar150:∀ {a b:Nat},a+1≤b→a<b:=by intros;assumption
theorem ar151:∀ {a b:Nat},a+b=0→a=0:=by intros;simp_all;done
theorem ar152 {a b:Nat}:a+b≤7→a≤7:=fun h=>Nat.le_trans (Nat.le_add_right _ _) h
theorem ar153 {a b:Nat}:a - b=0→a≤b:=Nat.le_of_sub_eq_zero
theorem ar154:∀ {a b:Nat},a<b→0+a≤b:=by lia
theorem ar155 {a b:Nat}:a<b→a+1≤b:=Nat.succ_le_of_lt
theorem ar156:∀ {a b:Nat},a=b→a<b+1:=by intros;simp_all;done
theorem ar157 {a b:Nat}:b+1≤a→0<a:=fun h=>Nat.lt_of_lt_of_le (Nat.succ_pos b) h
theorem ar158:∀ {a b:Nat},b=a+1→a≤b:=by intros;simp_all;done
theorem ar159:∀ {a b:Nat},b=a+2→a≤b:=by intros;simp_all;done
theorem ar160:∀ {a b:Nat},b=a+3→a≤b:=by intros;simp_all;done
theorem ar161:∀ {a b:Nat},b=a+4→a≤b:=by intros;simp_all;done
theorem ar162:∀ {a:Nat},a≤1→a≤16777217:=by decide
theorem ar163:∀ {a:Nat},a≤10→a≤1000000:=by decide
theorem ar164:∀ {a:Nat},a≤2→1+a≤1000:=by decide
theorem ar165:∀ {a:Nat},a≤7→1+a≤1000:=by decide
theorem ar166 {a b:Nat}:a.succ≤b→a<b:=Nat.lt_of_succ_le
theorem ar167:∀ {a b:Nat},a.succ≤b→a≤b:=Nat.le_of_succ_le
theorem ar168:∀ {a b:Nat},¬b<a→a≤b+0:=by intros;simp_all;done
theorem ar169:∀ {a:Nat},a≤20→1+a≤1000:=by decide
theorem ar170:∀ {a b:Nat},a<b+(a+1 - b):=by omega
theorem ar171 {a b c:Nat}:a+c<b→a<b:=fun h=>Nat.lt_of_le_of_lt (Nat.le_add_right _ _) h
theorem ar172:∀ {a b c:Nat},c+a=b→a≤b:=by simp;done
theorem ar173:∀ {a:Nat},0<a→(↑a:Int)≠0:=by lia
theorem ar174:∀ {a:Nat},0<a→0≤(↑a:Int):=by intros;simp_all;done
theorem ar175:∀ {a:Nat},1≤a→¬1=a→1<a:=Nat.lt_of_le_of_ne
theorem ar176:∀ {a:Nat},1≤a→¬a > 1→a=1:=by omega
theorem ar177:∀ {a:Nat},a<100→a+1<4096:=by decide
theorem ar178:∀ {a:Nat},a=0→(↑a:Int)≤0:=by simp;done
theorem ar179 {a b:Nat}:a+b≤60→a≤100:=fun h=>Nat.le_trans (Nat.le_add_right _ _) (Nat.le_trans h (by decide))
theorem ar180 {a:Nat}:0<a→(a - 1) / 2≠a:=fun h=>Nat.ne_of_lt (Nat.lt_of_le_of_lt (Nat.div_le_self _ _) (Nat.sub_lt h (by decide)))
theorem ar181 {a:Nat}:0<a→(a - 1) / 2≤a:=fun _=>Nat.le_trans (Nat.div_le_self _ _) (Nat.sub_le _ _)
theorem ar182 {a:Nat}:0<a→a≠(a - 1) / 2:=fun h=>Nat.ne_of_gt (Nat.lt_of_le_of_lt (Nat.div_le_self _ _) (Nat.sub_lt h (by decide)))
theorem ar183 {a b:Nat}:2≤a→a - 1 - b<a:=fun h=>Nat.lt_of_le_of_lt (Nat.sub_le _ _) (Nat.sub_lt (Nat.le_trans (by decide) h) (by decide))
theorem ar184 {a b:Nat}:2≤b→a=b→1≤a:=fun h e=>e▸Nat.le_trans (by decide) h
theorem ar185 {a b:Nat}:2≤b→b≤a→1≤a:=fun h g=>Nat.le_trans (by decide) (Nat.le_trans h g)
theorem ar186:∀ {a b:Nat},a<b→0≤a∧a<b:=by intros;simp_all;done
theorem ar187:∀ {a b:Nat},a=b+1→a - 1<a:=by intros;simp_all;done
theorem ar188:∀ {a b:Nat},a=b→b≤1→a≤1:=by intros;simp_all;done
theorem ar189:∀ {a b:Nat},a≤2 * b→a≤2 * b:=by intros;simp_all;done
theorem ar191:∀ {a b:Nat},a≤b→a ≥ b→a=b:=Nat.le_antisymm
theorem ar192 {a b:Nat}:b<a→2≤a - b+1:=fun h=>Nat.succ_le_succ (Nat.sub_pos_of_lt h)
theorem ar193:∀ {a b:Nat},a=b+1→¬a - 1=a:=by intros;simp_all;done
theorem ar194 {a b:Nat}:a=b→¬b≤1→0<a:=fun e h=>e▸Nat.lt_trans Nat.zero_lt_one (Nat.lt_of_not_le h)
theorem ar195 {a b:Nat}:a=b→¬b≤1→1≤a:=fun e h=>e▸Nat.le_of_lt (Nat.lt_of_not_le h)
theorem ar196 {a b:Nat}:a=b→¬b≤1→2≤a:=fun e h=>e▸Nat.lt_of_not_le h
theorem ar197 {a b:Nat}:a≤b→b≤7→a≤20:=fun h g=>Nat.le_trans h (Nat.le_trans g (by decide))
theorem ar198 {a b:Nat}:a≤b→¬a≤b→False:=fun h g=>g h
theorem ar199 {a b:Nat}:a≤b→¬b=a→a<b:=fun h g=>Nat.lt_of_le_of_ne h (fun e=>g e.symm)
theorem ar200:∀ {a:Nat},0<a→a<1+1→a=1:=by lia
theorem ar201 {a:Nat}:1≤a→a > 1→0<a - 1:=fun _ h=>Nat.sub_pos_of_lt h
theorem ar202:∀ {a:Nat},a+1≤7→a≤7→a<7:=by intros;assumption
theorem ar203 {a:Nat}:¬a=0→¬a=(a - 1) / 2:=fun h=>Nat.ne_of_gt (Nat.lt_of_le_of_lt (Nat.div_le_self _ _) (Nat.sub_lt (Nat.pos_of_ne_zero h) (by decide)))
theorem ar204 {a b:Nat}:a+(b+1)=7→a<7:=fun h=>h▸Nat.lt_add_of_pos_right (Nat.succ_pos b)
theorem ar205 {a b:Nat}:a+1+b=a+(b+1):=Nat.add_right_comm a 1 b
theorem ar206:∀ {a b:Nat},a - (b+1)=a - 1 - b:=by lia
theorem ar207 {a b:Nat}:a<b→(a - 1) / 2<b:=fun h=>Nat.lt_of_le_of_lt (Nat.le_trans (Nat.div_le_self _ _) (Nat.sub_le _ _)) h
theorem ar208:∀ {a b:Nat},a=b→b<64→a<64:=fun h g=>h▸g
theorem ar209 {a b:Nat}:b≤a→a - (a - b)=b:=Nat.sub_sub_self
theorem ar210 {a b c:Nat}:a+8 * c<b→a<b:=fun h=>Nat.lt_of_le_of_lt (Nat.le_add_right _ _) h
theorem ar211:∀ {a b c:Nat},a<c→c<b→a<b:=Nat.lt_trans
theorem ar212:∀ {a b c:Nat},a<c→c=b→a<b:=by intros;simp_all;done
theorem ar213:∀ {a b c:Nat},a<c→c≤b→a<b:=Nat.le_trans
theorem ar214:∀ {a b c:Nat},a=c→c<b→a<b:=by intros;simp_all;done
theorem ar215 {a b c:Nat}:b<c→c≤a→a≠b:=fun h g e=>Nat.lt_irrefl b (Nat.lt_of_lt_of_le h (e▸g))
theorem ar216:∀ {a b c:Nat},b≤c→a+b≤a+c:=by intros;simp_all;done
theorem ar217 {a b c:Nat}:b≤c→a+b≤c+a:=fun h=>Nat.add_comm c a▸Nat.add_le_add_left h a
theorem ar218 {a b c:Nat}:c<a→a<b→c≤a:=fun h g=>Nat.le_of_lt h
theorem ar219:∀ {a:Nat},0<a→0≤(↑a:Int) - 1:=by lia
theorem ar220 {a:Nat}:1≤a→¬1=a→1+1≤a:=fun h g=>Nat.lt_of_le_of_ne h g
theorem ar221 {a b:Nat}:a≤b→b≤7→a≤1000:=fun h g=>Nat.le_trans h (Nat.le_trans g (by decide))
theorem ar222:∀ {a b:Nat},¬a ≥ b→a≤(a+b) / 2:=by lia
theorem ar223 {a b c:Nat}:b+c=a→¬a+1≤b:=fun e h=>Nat.not_succ_le_self a (Nat.le_trans h (e▸Nat.le_add_right b c))
theorem ar224 {a b c:Nat}:c<a→c=b→¬a=b:=fun h e g=>Nat.lt_irrefl a (g.trans e.symm▸h)
theorem ar225:∀ {a b:Nat},0+a - 1 - b=a - 1 - b:=by intros;simp_all;done
theorem ar226:∀ {a b:Nat},0<a→b+a=0→False:=by intros;simp_all;done
theorem ar227 {a b:Nat}:0<b→a<b→a≤b - 1:=fun _=>Nat.le_sub_one_of_lt
theorem ar228 {a b:Nat}:0<b→a≤b - 1→a<b:=fun h g=>Nat.lt_of_le_of_lt g (Nat.sub_lt h (by decide))
theorem ar229 {a b:Nat}:0=b - a→a≤b→a=b:=fun h g=>Nat.le_antisymm g (Nat.le_of_sub_eq_zero h.symm)
theorem ar230:∀ {a b:Nat},a+1≤b→a=b→False:=Nat.ne_of_lt
theorem ar231 {a b:Nat}:a<b+1→a≠b→a<b:=fun h g=>Nat.lt_of_le_of_ne (Nat.le_of_lt_succ h) g
theorem ar232 {a b:Nat}:a<b+1→a ≥ b→a=b:=fun h g=>Nat.le_antisymm (Nat.le_of_lt_succ h) g
theorem ar233:∀ {a b:Nat},a<b→b<1+1→a=0:=by lia
theorem ar234:∀ {a b:Nat},a=b→b≤10→a≤1000:=fun h g=>h▸Nat.le_trans g (by decide)
theorem ar235 {a b:Nat}:a≤b→b - a≤0→a=b:=fun h g=>Nat.le_antisymm h (Nat.le_of_sub_eq_zero (Nat.le_zero.mp g))
theorem ar236:∀ {a b c:Nat},a+b≤a+(c+0+b):=by intros;simp_all;done
theorem ar237:∀ {a b c d:Nat},c<1→d<c→a<b:=by intros;simp_all;done
theorem ar238 {a b c d:Nat}:c<d→d≤c→a<b:=fun h g=>absurd h (Nat.not_lt_of_le g)
theorem ar239 {a b:Nat}:a+(b+1)≤60→a≤900:=fun h=>Nat.le_trans (Nat.le_add_right _ _) (Nat.le_trans h (by decide))
theorem ar240:∀ {a:Nat},3<0+1+1+1+1+1+a:=by lia
theorem ar241 {a:Nat}:a≤a - 1→¬a≤1000→False:=fun h g=>by cases a with | zero=>exact g (by decide) | succ n=>exact Nat.not_succ_le_self n h
theorem ar242 {a b:Nat}:a+8<b→a+min 0 0<b:=fun h=>Nat.lt_of_le_of_lt (Nat.le_add_right a 8) h
theorem ar243:∀ {a b:Nat},a<b→b<1000→a<1000:=Nat.lt_trans
theorem ar244:∀ {a b:Nat},a=b→b≤6→a≤1000000:=fun h g=>h▸Nat.le_trans g (by decide)
theorem ar245 {a b:Nat}:a≤b→b≤7→a≤1000000:=fun h g=>Nat.le_trans h (Nat.le_trans g (by decide))
theorem ar246 {a b c:Nat}:a<c→c≤b→a<b+1:=fun h g=>Nat.lt_succ_of_le (Nat.le_of_lt (Nat.lt_of_lt_of_le h g))
theorem ar247 {a b c:Nat}:c<a+1→a<b→c≤a:=fun h g=>Nat.le_of_lt_succ h
theorem ar248 {a b c:Nat}:c<b→c=a→a≤b - 1:=fun h e=>e▸Nat.le_sub_one_of_lt h
theorem ar249 {a:Nat}:a - 1≤20→¬a≤1000→False:=fun h g=>g (Nat.le_trans (Nat.sub_le_iff_le_add.mp h) (by decide))
theorem ar250 {a:Nat}:a≤1000000→a+1≤16777216:=fun h=>Nat.le_trans (Nat.succ_le_succ h) (by decide)
theorem ar251:∀ {a:Nat},a≤20→22 - (a+1)<22 - a:=by decide
theorem ar252:∀ {a b:Nat},a=b+1→-(↑a:Int)≤-1:=by lia
theorem ar253 {a b:Nat}:a=b→b≤10→a≤1000000:=fun e h=>e▸Nat.le_trans h (by decide)
theorem ar254:∀ {a b:Nat},a=b→b≤20→a≤1000000:=fun h g=>h▸Nat.le_trans g (by decide)
theorem ar255 {a b:Nat}:a=b→b≤6→a+1≤1000:=fun e h=>e▸Nat.le_trans (Nat.succ_le_succ h) (by decide)
theorem ar256 {a b:Nat}:a≤20→b≤20→a+b≤60:=fun h g=>Nat.le_trans (Nat.add_le_add h g) (by decide)
theorem ar257 {a b:Nat}:a≤b→b+1≤7→a≤1000:=fun h g=>Nat.le_trans h (Nat.le_trans (Nat.le_of_lt g) (by decide))
theorem ar258 {a b:Nat}:b≤a→¬b≤1000→a ≥ 1001:=fun h g=>Nat.le_trans (Nat.lt_of_not_le g) h
theorem ar259:∀ {a b:Nat},(↑a:Int)≤(↑(b+a):Int):=by lia
theorem ar260 {a b:Nat}:0<b→a≤b - 1→a+1≤b:=fun h g=>Nat.le_trans (Nat.succ_le_succ g) (Nat.le_of_eq (Nat.sub_add_cancel h))
theorem ar261 {a b:Nat}:a≤20+b→b≤20→a≤900:=fun h g=>Nat.le_trans h (Nat.le_trans (Nat.add_le_add_left g 20) (by decide))
theorem ar262:∀ {a b:Nat},b=a+1→b≤10→a≤1000:=by lia
theorem ar263:∀ {a b c:Nat},a+(b+1)<c→a+b<c:=Nat.le_of_succ_le
theorem ar264:∀ {a b c:Nat},a=b+c→a=b+(c+0):=by intros;assumption
theorem ar265 {a b c d:Nat}:0=c - d→d<c→a<b:=fun h g=>absurd (Nat.sub_pos_of_lt g) (h▸Nat.lt_irrefl 0)
theorem ar266:∀ {a:Int},a - 1=0→a=(↑(0+1):Int):=by lia
theorem ar267 {a b:Nat}:a+(b+1)≤60→a≤1000000:=fun h=>Nat.le_trans (Nat.le_add_right _ _) (Nat.le_trans h (by decide))
theorem ar268 {a b:Nat}:a≤b+1→b≤100→a≤1000:=fun h g=>Nat.le_trans h (Nat.le_trans (Nat.succ_le_succ g) (by decide))
theorem ar269 {a b:Nat}:a≤b→b<1001→a≤1000000:=fun h g=>Nat.le_trans h (Nat.le_trans (Nat.le_of_lt g) (by decide))
theorem ar270 {a b:Nat}:a≤b→b≤100→a≤16777216:=fun h g=>Nat.le_trans h (Nat.le_trans g (by decide))
theorem ar271:∀ {a:Nat},(↑a:Int) % 7=(↑(a % 7):Int):=by intros;simp_all;done
theorem ar272:∀ {a b:Nat},(a - 1) / 2=b→0<b→0<a:=by omega
theorem ar273:∀ {a b:Nat},(↑a:Int)<(↑b:Int)↔a<b:=by intros;simp_all;done
theorem ar274:∀ {a b:Nat},(↑b:Int)=(↑a:Int)→a=b:=by lia
theorem ar275 {a b:Nat}:1≤a→1≤b→a≤b+(a - 1):=fun h g=>Nat.le_trans (Nat.le_of_eq (Nat.add_sub_of_le h).symm) (Nat.add_le_add_right g _)
theorem ar276:∀ {a b:Nat},a<b→(↑a:Int)<(↑b:Int):=by intros;simp_all;done
theorem ar277:∀ {a b:Nat},a=b * 3→3+a=(b+1) * 3:=by lia
theorem ar278 {a b c:Nat}:a<b→b≤a∧a<c→False:=fun h g=>Nat.not_lt_of_le g.1 h
theorem ar279 {a b c:Nat}:a<b→c=b→c≤a→False:=fun h e g=>Nat.lt_irrefl a (Nat.lt_of_lt_of_le h (e▸g))
theorem ar280 {a b c:Nat}:a<c→c≤b→a+1≤b+1:=fun h g=>Nat.succ_le_succ (Nat.le_of_lt (Nat.lt_of_lt_of_le h g))
theorem ar281 {a b c:Nat}:a≤c+1→c≤b→a≤b+1:=fun h g=>Nat.le_trans h (Nat.succ_le_succ g)
theorem ar282:∀ {a b:Nat} {c:Prop},a=b+0∧c→a=b:=by intros;simp_all;done
theorem ar283 {a b:Nat}:(a - 1) / 2=b→0<a→¬a=b:=fun h g=>h▸Nat.ne_of_gt (Nat.lt_of_le_of_lt (Nat.div_le_self _ _) (Nat.sub_lt g (by decide)))
theorem ar284:∀ {a b:Nat},(a - 1) / 2=b→0<b→¬a=b:=by omega
theorem ar285 {a b:Nat}:a<b→¬a=0→(a - 1) / 2<b:=fun h _=>Nat.lt_of_le_of_lt (Nat.le_trans (Nat.div_le_self _ _) (Nat.sub_le _ _)) h
theorem ar286:∀ {a b:Nat},a≤b→¬a ≥ b→(a+b) / 2<b:=by omega
theorem ar287 {a b c:Nat}:a<c→c=b→¬a=b→a<b:=fun h e _=>e▸h
theorem ar288 {a b c:Nat}:a≤c→c≤7→a - b+1≤10:=fun h g=>Nat.le_trans (Nat.succ_le_succ (Nat.le_trans (Nat.sub_le _ _) (Nat.le_trans h g))) (by decide)
theorem ar289 {a b c:Nat}:a+8<c→a+1+min b 0<c:=fun h=>Nat.lt_of_le_of_lt (Nat.add_le_add_left (Nat.min_le_right b 0) (a+1)) (by lia)
theorem ar290 {a b c:Nat}:a=b+c→a+1=b+(c+1):=fun h=>h▸rfl
theorem ar291:∀ {a b c d:Nat},a+c≤d→d=b+c→a≤b:=by intros;simp_all;done
theorem ar292 {a b c d:Nat}:a+d<c→b≤d→a+b<c:=fun h g=>Nat.lt_of_le_of_lt (Nat.add_le_add_left g a) h
theorem ar293 {a b c d:Nat}:a<c→d=c→d≤b→a≤b:=fun h e g=>Nat.le_of_lt (Nat.lt_of_lt_of_le (e▸h) g)
theorem ar294 {a b c d:Nat}:a=c→c<d→d≤b→a<b:=fun h g k=>Nat.lt_of_lt_of_le (h▸g) k
theorem ar295 {a b c d:Nat}:a=d→b<d→a≤b→c≤b:=fun e h g=>absurd h (Nat.not_lt_of_le (e▸g))
theorem ar296 {a b c d:Nat}:a≤c→c=d→c≤b→a≤b:=fun h e g=>Nat.le_trans h (e▸g)
theorem ar297:∀ {a b c d:Nat},c<a+1→d<c→a - b≤a:=by intros;simp_all;done
theorem ar298 {a b:Nat}:1≤a→a≤b→¬a=b→a - 1<b:=fun h g k=>Nat.lt_of_lt_of_le (Nat.sub_lt h (by decide)) g
theorem ar299 {a b c d:Nat}:b<c∧c≤d→c<a→¬a=b:=fun h g e=>Nat.lt_irrefl b (Nat.lt_trans h.1 (e▸g))
theorem ar300 {a b:Nat}:b+1≤a→a - b=a - (b+1)+1:=fun h=>(Nat.succ_pred_eq_of_pos (Nat.sub_pos_of_lt h)).symm
theorem ar301:∀ {a b:Nat},b+1≤a→min (a - (b+1)) a≤a:=by intros;simp_all;done
theorem ar302 {a b c:Nat}:a≤b+c→c≤100→a≤b+100:=fun h g=>Nat.le_trans h (Nat.add_le_add_left g b)
theorem ar303:∀ {a b c:Nat},b+(c+1)=a→a=b+(c+1):=by intros;simp_all;done
theorem ar304 {a b c:Nat}:b+1≤c→b=a→c≤7→a≤6:=fun h e g=>e▸Nat.le_of_lt_succ (Nat.le_trans h g)
theorem ar305:∀ {a b c d e:Nat},a+b≤a+(c+(d+e)+b):=by intros;simp_all;done
theorem ar306:∀ {a:Nat},Int.ofNat a=7→a≠7→a≤7→False:=by lia
theorem ar307:∀ {a b:Nat},(↑(a+b):Int)=(↑b:Int)→a=0:=by omega
theorem ar308 {a b:Nat}:a+(b+1)≤1000→a+1+b≤1000:=fun h=>Nat.le_trans (Nat.le_of_eq (Nat.add_right_comm a 1 b)) h
theorem ar309:∀ {a b:Nat},a=0→(↑(a+b):Int)=(↑b:Int):=by intros;simp_all;done
theorem ar310:∀ {a b c:Nat},a+(b+1)<c→a+0+1+b<c:=by lia
theorem ar312 {a b c:Nat}:a=b+c→a+1=b+1+(c+0):=fun h=>h▸Nat.add_right_comm b c 1
theorem ar313 {a b c:Nat}:a≤3 * (c+1)→c<b→a≤3 * b:=fun h g=>Nat.le_trans h (Nat.mul_le_mul_left 3 g)
theorem ar314 {a b c:Nat}:a≤c→b<c→a+(b+1 - a)≤c:=fun h g=>(Nat.le_total a (b+1)).elim (fun k=>(Nat.add_sub_of_le k).symm▸g) (fun k=>(Nat.sub_eq_zero_of_le k).symm▸h)
theorem ar315:∀ {a b c d:Nat},a+b+(c+d)=a+c+(b+d):=by lia
theorem ar316 {a b c d:Nat}:a<d→d - b≤c+1→a - b≤c:=fun h g=>Nat.sub_le_of_le_add (Nat.le_of_lt_succ (Nat.lt_of_lt_of_le h (Nat.le_trans (Nat.sub_le_iff_le_add.mp g) (Nat.le_of_eq (Nat.add_right_comm c 1 b)))))
theorem ar317:∀ {a:Nat} {b:Int},b=(↑a:Int)∧a<4→a≤3:=by lia
theorem ar318 {a b:Nat} {c:Prop}:a≤10→c→min a b≤1000:=fun h _=>Nat.le_trans (Nat.min_le_left _ _) (Nat.le_trans h (by decide))
theorem ar319 {a b:Nat}:1≤b→a<b→¬a=b - 1→a<b - 1:=fun _ h n=>Nat.lt_of_le_of_ne (Nat.le_sub_one_of_lt h) n
theorem ar320 {a b:Nat}:2≤b→a<b→¬a=b - 1→a<b - 1:=fun _ h n=>Nat.lt_of_le_of_ne (Nat.le_sub_one_of_lt h) n
theorem ar321 {a b:Nat}:a≤b→b≤100→a+1≤16777216+1:=fun h g=>Nat.succ_le_succ (Nat.le_trans h (Nat.le_trans g (by decide)))
theorem ar322 {a b c d:Nat}:a+b=c→b=d→¬d<c→a=0:=fun h e g=>by lia
theorem ar323:∀ {a b c d:Nat},a<c→b=c→b=d / 64→a<b:=by intros;simp_all;done
theorem ar324:∀ {a b c d:Nat},a=b→b=c / 64→b=d→a≤b:=by intros;simp_all;done
theorem ar325:∀ {a:Nat},0<a→(↑a:Int) - 1=(↑(a - 1):Int):=by lia
theorem ar326:∀ {a:Nat},1≤a→(↑a:Int) - 1=(↑(a - 1):Int):=by lia
theorem ar327:∀ {a b:Nat},a=b+1→(-1+(↑a:Int)).toNat=b:=by lia
theorem ar328:∀ {a b c:Nat},2 * a+1<c→b=c→2 * a+1<b:=by intros;simp_all;done
theorem ar329 {a b c:Nat}:a+(b+1)=c→c≤1000→a<1001:=fun h g=>Nat.lt_of_le_of_lt (Nat.le_trans (Nat.le_add_right _ _) (Nat.le_trans (Nat.le_of_eq h) g)) (by decide)
theorem ar330 {a b c:Nat}:a+(b+1)=min 7 c→c=7→a≤7:=fun h e=>e▸by lia
theorem ar331 {a b c:Nat}:a<b+1→c<a∧a≤b→a - 1<b:=fun h g=>Nat.lt_of_lt_of_le (Nat.sub_lt (Nat.lt_of_le_of_lt (Nat.zero_le _) g.1) (by decide)) (Nat.le_of_lt_succ h)
theorem ar332 {a b c:Nat}:b<a→c<b→a - 1 - b<a - 1 - c:=fun h g=>Nat.sub_lt_sub_left (Nat.lt_of_lt_of_le g (Nat.le_sub_one_of_lt h)) g
theorem ar333:∀ {a b c:Nat},c<8→((a * 8+b) * 8+c) % 8=c:=by intros;simp_all;done
theorem ar334 {a b c:Nat}:c<a+1→a+1<b→c≤a∧a<b:=fun h g=>⟨Nat.le_of_lt_succ h,Nat.lt_of_succ_lt g⟩
theorem ar335 {a b:Nat} {c:Prop}:a<b+1→a≠b∧c→a<b:=fun h g=>Nat.lt_of_le_of_ne (Nat.le_of_lt_succ h) g.1
theorem ar336 {a b c:Nat}:a≤c→c≤7→a - (0+b)+1≤1000:=fun h g=>Nat.le_trans (Nat.succ_le_succ (Nat.le_trans (Nat.sub_le _ _) (Nat.le_trans h g))) (by decide)
theorem ar337:∀ {a b c:Nat},1≤b→8≤a+(c+1)→8≤a+b+c:=by lia
theorem ar339 {a b c:Nat}:a+b≤1000→b=c+1→a≤16777216:=fun h _=>Nat.le_trans (Nat.le_add_right _ _) (Nat.le_trans h (by decide))
theorem ar340 {a b c:Nat}:a≤3→b≤3 * c→a+b≤3 * (c+1):=fun h g=>Nat.le_trans (Nat.add_le_add h g) (Nat.le_of_eq (Nat.add_comm 3 (3 * c)))
theorem ar341 {a b c:Nat}:b+1≤7→c=a→c≤b→a≤1000000:=fun h e g=>e▸Nat.le_trans g (Nat.le_trans (Nat.le_of_lt h) (by decide))
theorem ar342:∀ {a b c d:Nat},a+(b+(c+d))≤a+(c+(d+b)):=by lia
theorem ar343 {a b c d:Nat}:a+1≤b∧c+1≤d→a≤b∧c≤d:=fun h=>⟨Nat.le_of_succ_le h.1,Nat.le_of_succ_le h.2⟩
theorem ar344 {a b c d:Nat}:a+8 * d<c→b≤d→a+8 * b<c:=fun h g=>Nat.lt_of_le_of_lt (Nat.add_le_add_left (Nat.mul_le_mul_left 8 g) a) h
theorem ar345 {a b c d:Nat}:a<b+1→c<a→c=d→a - 1<b:=fun h g _=>Nat.lt_of_lt_of_le (Nat.sub_lt (Nat.lt_of_le_of_lt (Nat.zero_le _) g) (by decide)) (Nat.le_of_lt_succ h)
theorem ar346 {a b c d:Nat}:a<b+1→c<d∧d≤b→a - 1<b:=fun h g=>Nat.lt_of_le_of_lt (Nat.sub_le_sub_right (Nat.le_of_lt_succ h) 1) (Nat.sub_lt (Nat.lt_of_lt_of_le (Nat.lt_of_le_of_lt (Nat.zero_le _) g.1) g.2) (by decide))
theorem ar347 {a b c d:Nat}:a<b→c<a∧a≤d→a - 1<b - 1:=fun h g=>Nat.sub_lt_sub_right (Nat.lt_of_le_of_lt (Nat.zero_le _) g.1) h
theorem ar348 {a:Prop} {b c d:Nat}:1≤b→c=d+b→c≤d→a:=fun h e g=>absurd (Nat.le_trans (Nat.le_of_eq e.symm) g) (Nat.not_le_of_lt (Nat.lt_add_of_pos_right h))
theorem ar349:∀ {a b:Nat},(↑(a+b):Int) - (↑b:Int)=(↑a:Int):=by intros;simp_all;done
theorem ar350 {a b c:Nat}:a≤2 * b+c→b<7→c≤2→a≤1000:=fun h g k=>Nat.le_trans h (Nat.le_trans (Nat.add_le_add (Nat.mul_le_mul_left 2 (Nat.le_of_lt g)) k) (by decide))
theorem ar351 {a b c d:Nat}:a<c→b=c→b=d / 64→a+1≤b:=fun h e _=>e▸h
theorem ar352 {a b c d e:Nat}:a≤c+d→c+d≤e→e≤b→a≤b:=fun h g k=>Nat.le_trans h (Nat.le_trans g k)
theorem ar353:∀ {a b:Nat},0<b→(↑a:Int)<(↑a:Int)+(↑b:Int):=by lia
theorem ar354 {a b c:Nat}:a≤3 * (b+1)→b<c→c≤7→a≤1000:=fun h g k=>Nat.le_trans h (Nat.le_trans (Nat.mul_le_mul_left 3 (Nat.le_trans g k)) (by decide))
theorem ar355:∀ {a b:Nat},(↑(a+(b+1)):Int)=(↑(a+1+b):Int):=by omega
theorem ar357 {a b c:Nat}:a+(b+1)=c→a≤2→c≤2→a+1≤2:=fun h g k=>Nat.le_trans (Nat.succ_le_succ (Nat.le_add_right a b)) (Nat.le_trans (Nat.le_of_eq h) k)
theorem ar358:∀ {a b c:Nat},a+8 * (b+1)<c→a+0+3+8 * b<c:=by lia
theorem ar360 {a b c:Nat}:a≤500+b→b≤c→c≤100→a≤1000000:=fun h g k=>Nat.le_trans h (Nat.le_trans (Nat.add_le_add_left (Nat.le_trans g k) 500) (by decide))
theorem ar361 {a b c d:Nat}:b<c+1→d<b→d=a→a<b∧b≤c:=fun h g e=>⟨e▸g,Nat.le_of_lt_succ h⟩
theorem ar362:∀ {a b c d:Nat},b=c+d→b≤a→min a b - min a c=d:=by omega
theorem ar363 {a b c d:Nat}:a<b→a=c / 64→a=d→b=a→False:=fun h _ _ e=>Nat.lt_irrefl a (e▸h)
theorem ar364 {a b c d:Nat}:a=c / 64→a=d→a≤b→b≠a→a<b:=fun _ _ h k=>Nat.lt_of_le_of_ne h (Ne.symm k)
theorem ar365 {a b c d:Nat}:a≤b→b=c / 64→b=d→b≤a→a=b:=fun h _ _ g=>Nat.le_antisymm h g
theorem ar366 {a b:Nat}:a=2 * b+1∨a=2 * b+2→(a - 1) / 2=b:=fun h=>h.elim (fun e=>e▸Nat.mul_div_cancel_left b (by decide)) (fun e=>e▸Nat.mul_add_div (by decide) b 1)
theorem ar367 {a b c:Nat}:a≤b+100+100 * c→a≤b+100 * (c+1):=fun h=>Nat.le_trans h (Nat.le_of_eq (Nat.add_assoc b 100 (100 * c)▸Nat.add_comm 100 (100 * c)▸rfl))
theorem ar368:∀ {a b c d:Nat},(c - 1) / 2=d→0<c→c<d+1→a≤b:=by lia
theorem ar369 {a b c d:Nat}:b=c / 64→b=d→b≤a→¬b<a→a=b:=fun _ e g k=>Nat.le_antisymm (Nat.le_of_not_lt k) g
theorem ar370 {a b c d e:Nat}:1≤c→d=a+c→d≤e→e=b→a<b:=fun h e k l=>l▸Nat.lt_of_lt_of_le (Nat.lt_of_lt_of_eq (Nat.lt_add_of_pos_right h) e.symm) k
theorem ar371:∀ {a b c:Nat},b<8→c<8→((a * 8+b) * 8+c) / 64=a:=by lia
theorem ar372:∀ {a b c d:Prop} {e:Nat},8≤e+0→e≤7→a→b→c→d:=by lia
theorem ar373:∀ {a b c d:Prop} {e:Nat},8≤e+0→e≤7→a∧b∧c∧d:=by omega
theorem ar374 {a b c d e:Nat}:a≤c→b=d / 64→b=e→c<e→a≤b:=fun h _ e g=>Nat.le_trans h (e▸Nat.le_of_lt g)
theorem ar375:∀ {a:Int} {b:Nat},a - 1 - (↑b:Int)=a - (↑(b+1):Int):=by lia
theorem ar376:∀ {a:Int} {b:Nat},a - 1=(↑b:Int)↔a=(↑(b+1):Int):=by lia
theorem ar377:∀ {a:Nat} {b:Int},(↑(a+1):Int)≤b→(↑a:Int)≤b - 1:=by lia
theorem ar378 {a:Nat}:0<(a - 1) / 2→0<a→((a - 1) / 2 - 1) / 2≠a:=fun _ h=>Nat.ne_of_lt (Nat.lt_of_le_of_lt (Nat.le_trans (Nat.div_le_self _ _) (Nat.le_trans (Nat.sub_le _ _) (Nat.div_le_self _ _))) (Nat.sub_lt h (by decide)))
theorem ar379 {a b:Nat}:(a - 1) / 2≠b→0<a→a<b→(a - 1) / 2<b:=fun _ _ h=>Nat.lt_of_le_of_lt (Nat.le_trans (Nat.div_le_self _ _) (Nat.sub_le _ _)) h
theorem ar380:∀ {a b c:Nat},1≤b→8≤a+(c+1)→b≤7→8≤a+b+c:=by lia
theorem ar381:∀ {a b c d e:Nat},b+c=d→e+min a b<d→e=c→a≤b:=by lia
theorem ar382:∀ {a:Int} {b:Nat},a=(↑b:Int)→b<3→(a+1).toNat≤3:=fun h g=>h▸g
theorem ar383:∀ {a:Int} {b:Nat},a=(↑b:Int)→b<3→1≤(a+1).toNat:=by intros;simp_all;done
theorem ar384 {a:Nat}:0<(a - 1) / 2→0<a→¬((a - 1) / 2 - 1) / 2=a:=fun _ h=>Nat.ne_of_lt (Nat.lt_of_le_of_lt (Nat.le_trans (Nat.div_le_self _ _) (Nat.le_trans (Nat.sub_le _ _) (Nat.div_le_self _ _))) (Nat.sub_lt h (by decide)))
theorem ar385 {a b c d:Nat}:a<b→c<b∧b≤d→¬a=b - 1→a<b - 1:=fun h _ n=>Nat.lt_of_le_of_ne (Nat.le_sub_one_of_lt h) n
theorem ar386:∀ {a:Nat},0<a→((↑a:Int) - 1) / 2=(↑((a - 1) / 2):Int):=by lia
theorem ar387 {a b:Nat}:a+(b+1)≤7→8 - (a+(b+1))+1<8 - a+1:=fun h=>Nat.succ_lt_succ (Nat.sub_lt_sub_left (Nat.lt_of_le_of_lt (Nat.le_trans (Nat.le_add_right _ _) h) (by decide)) (Nat.lt_add_of_pos_right (Nat.succ_pos _)))
theorem ar388 {a b c:Nat}:b<8→c<8→((a * 8+b) * 8+c) / 8 % 8=b:=by intro h g;rw [Nat.add_comm _ c,Nat.add_mul_div_right _ _ (by decide),Nat.div_eq_of_lt g,Nat.zero_add,Nat.add_comm,Nat.add_mul_mod_self_right,Nat.mod_eq_of_lt h]
theorem ar389 {a b c d:Nat}:a=c→b=d→c+d≤1000→a+b≤16777216:=fun h g k=>h▸g▸Nat.le_trans k (by decide)
theorem ar390 {a b c d e:Nat}:a+8 * (e+1)<d→b≤3→a+min b c<d:=fun h g=>Nat.lt_of_le_of_lt (Nat.add_le_add_left (Nat.le_trans (Nat.min_le_left _ _) (Nat.le_trans g (by lia))) a) h
theorem ar391 {a b c d e:Nat}:a - d=c→b<a→e<b→e=d→a - b<c:=fun h g k e=>h▸e▸Nat.sub_lt_sub_left (Nat.lt_trans k g) k
theorem ar392:∀ {a b c d e:Nat},a=c+d→b≤a→e+d≤b→e=c→a=b:=by lia
theorem ar393:∀ {a b:Nat},(a - 1) / 2=b→(a - 1) / 2≠(b - 1) / 2→¬a=b:=by lia
theorem ar394 {a b c d:Nat}:a - d≤c+1→d≤b→¬d ≥ a→a - (b+1)≤c:=fun h g _=>Nat.sub_le_of_le_add (Nat.le_trans (Nat.sub_le_iff_le_add.mp h) (by lia))
theorem ar395:∀ {a b c:Nat},2≤a→Int.ofNat b<2→a=c+1→b=a→False:=by lia
theorem ar396 {a b c d:Nat}:a<d∧d≤c→b<c+1→d<b→a<b∧b≤c:=fun h g k=>⟨Nat.lt_trans h.1 k,Nat.le_of_lt_succ g⟩
theorem ar397 {a b c:Nat} {d e:Prop}:d∧a≤b+1+c∧e→a≤b+(c+1):=fun h=>Nat.le_trans h.2.1 (Nat.le_of_eq (Nat.add_right_comm b 1 c))
theorem ar398:∀ {a b:Nat},(a - 1) / 2=b→0<a→a=2 * b+1∨a=2 * b+2:=by lia
theorem ar399:∀ {a b:Nat},(b - 1) / 2=a→b=2 * a+1∨b=2 * a+2→a≠b:=by lia
theorem ar400:∀ {a b c:Nat},a<b+1→c≤b→¬(c<a∧a≤b)→¬a=c→a<b:=by lia
theorem ar401:∀ {a b c d:Nat},(d - 1) / 2=c→0<c→0<d→d<c+1→a≤b:=by lia
theorem ar402:∀ {a b c d e:Nat},a+(b+(c+(d+0)))≤a+(e+(c+(d+b))):=by lia
theorem ar403:∀ {a:Int} {b:Nat},a - 1=0→(↑(b+1):Int)≤a→0<b→False:=by omega
theorem ar404 {a b c d:Nat}:(a+1) * 1≤b→b≤c→c=d * 3→d≤7→a≤20:=fun h g e k=>by lia
theorem ar405 {a b c:Nat}:a≤100+100 * b+c→b≤100→c≤100→a≤1000000:=fun h g k=>Nat.le_trans h (Nat.le_trans (Nat.add_le_add (Nat.add_le_add_left (Nat.mul_le_mul_left 100 g) 100) k) (by decide))
theorem ar406:∀ {a b c d:Nat},a * 8+c=b * 8+d→c<7→c≠d→d<7→False:=by lia
theorem ar407 {a b c d:Nat}:b=c+d→d≤3→min (a+1) b - min (a+1) c≤3:=by intro h g;subst h;refine Nat.sub_le_of_le_add ?_;rcases Nat.le_total (a+1) c with k | k;exact (Nat.min_eq_left k).symm▸Nat.le_trans (Nat.min_le_left _ _) (Nat.le_add_left _ _);exact (Nat.min_eq_right k).symm▸Nat.le_trans (Nat.min_le_right _ _) (Nat.add_comm c d▸Nat.add_le_add_right g c)
theorem ar408:∀ {a b c d e:Nat},b=d / 64→b=e→c<e→(a=b↔a=b∧c<a):=by intros;simp_all;done
theorem ar409:∀ {a b c d:Nat},(7 - a) * 100+b+1≤(7 - a) * 100+(c - d+1+b):=by lia
theorem ar410:∀ {a b c d:Nat},a<b→a=c / 64→a=d→decide (b=a)=true→False:=by lia
theorem ar411:∀ {a b c:Nat},2 * a+1+1<c→2 * a+1<c→b=c→2 * a+1+1<b:=by intros;simp_all;done
theorem ar412 {a b c:Nat}:(a - 1) / 2=c→0<a→c=2 * b+1∨c=2 * b+2→a≠b:=fun h _ g e=>by have k:c≤a:=h▸Nat.le_trans (Nat.div_le_self _ _) (Nat.sub_le _ _);lia
theorem ar414:∀ {a b c:Nat},(a - 1) / 2=c→0<a→c=2 * b+1∨c=2 * b+2→¬a=b:=by lia
theorem ar415 {a b c d:Nat} {e f:Prop}:1≤d→a=b→c=b+d∧e∧f→a≤b∧b<c:=fun h e g=>⟨Nat.le_of_eq e,g.1▸Nat.lt_add_of_pos_right h⟩
theorem ar416 {a b c d e f g h:Nat}:d=e→f≤d→f=g+h→¬g<e→1≤h→a+b≤c:=fun h h1 h2 h3 h4=>by lia
theorem ar417:∀ {a b c:Nat},(a - 1) / 2=c→c=2 * b+1∨c=2 * b+2→(a - 1) / 2≠b:=by lia
theorem ar418:∀ {a:Nat} {b:Int} {c:Nat},b=(↑c:Int)→(↑a:Int)+b=(↑(a+c):Int):=by intros;simp_all;done
theorem ar419:∀ {a b:Nat},0<b→(↑a:Int)+(↑b:Int)=(↑(a+1):Int)+(↑(b - 1):Int):=by lia
theorem ar420:∀ {a b c d:Nat},(↑a:Int)=(↑c:Int)→b≠d→(a * 8+b<c * 8+d↔b<d):=by lia
theorem ar421:∀ {a b c:Nat},(↑a:Int)+(↑b:Int)+(↑c:Int)=(↑a:Int)+(↑(b+c):Int):=by lia
theorem ar422:∀ {a b c d:Nat},(↑c:Int)=(↑d:Int)→¬a=b→(a<b↔c * 8+a<d * 8+b):=by lia
theorem ar423:∀ {a b c d e:Nat},a≤2 * b+c→c+(d+1)=e→e≤2→a+1≤2 * b+(c+1):=by lia
theorem ar424:∀ {a:Int} {b:Nat},0<b→a % (↑b:Int)<(↑b:Int)→(a % (↑b:Int)).toNat<b:=by intros;simp_all;done
theorem ar425:∀ {a b:Nat},a≤b→¬(↑a:Int)<0→max 0 (min (↑a:Int) (↑b:Int))=(↑a:Int):=by lia
theorem ar426:∀ {a b:Nat},¬(↑a:Int)<0→max 0 (min (↑a:Int) (↑b:Int))=(↑(min a b):Int):=by omega
theorem ar427:∀ {a b c d e f:Nat},¬2 * c+1<d→e=d→0<f→f<e→(f - 1) / 2=c→a≤b:=by lia
theorem ar428:∀ {a:Int} {b:Nat},(↑(b+1):Int)≤a→b=0→¬a - 1=0→¬a=(↑(0+1):Int):=by omega
theorem ar429 {a b:Nat} {c d:Int} {e f:Prop}:b≤20→c<d∧e∧b<a∧f→22 - a<22 - b:=fun h g=>Nat.sub_lt_sub_left (Nat.lt_of_le_of_lt h (by decide)) g.2.2.1
theorem ar430:∀ {a b c d e f:Nat},a=b+c→b+min d e≤20→c+(f+1)=min d e→a≤1000000:=by lia
theorem ar431 {a b c d e:Nat}:(c - 1) * e≤(c - 1) * d→a≤b+(c - 1) * e→a≤b+(c - 1) * d:=fun h g=>Nat.le_trans g (Nat.add_le_add_left h _)
theorem ar432:∀ {a:Int} {b:Nat},0≤a % (↑b:Int)→a % (↑b:Int)=(↑(a % (↑b:Int)).toNat:Int):=by lia
theorem ar433:∀ {a b c d e:Nat},(c<a→b≤a)→b=d / 64→b=e→c<e→(¬a=b∧c<a↔b<a):=by lia
theorem ar434:∀ {a b c d e f g:Nat},a+(b+(c+(d+(e+f))))≤a+(g+(c+(d+(e+(f+b))))):=by lia
theorem ar435:∀ {a b c d e f g:Nat},d≤g→a+(b+(c+(d+(e+f))))≤a+(e+(g+(b+(c+f)))):=by lia
theorem ar436:∀ {a b c d e f g:Nat},e≤g→a+(b+(c+(d+(e+f))))≤a+(d+(g+(b+(c+f)))):=by lia
theorem ar437:∀ {a b c:Nat},a<7→b≤50→(7 - (a+1)) * 100+(b - 0+1+c)+1≤(7 - a) * 100+c:=by lia
theorem ar438:∀ {a b c d e f g:Nat},a+(b+(c+(d+(e+(f+g)))))≤a+(b+(d+(c+(e+(f+g))))):=by lia
theorem ar439 {a b c d e f g h i j:Nat}:a=d→e=f→g+h≤i→d≤j→j≤g+h→b+i≤c→a+b≤c:=fun h _ g k l m=>Nat.le_trans (Nat.add_le_add_right (h▸Nat.le_trans k (Nat.le_trans l g)) b) (Nat.add_comm i b▸m)
theorem ar440:∀ {a:Prop} {b c d e f:Nat} {g h:Prop},b<c+1→b<c→d=c∧e=c+f∧g∧h→e≤b→a:=by lia
theorem ar441:∀ {a b c d:Nat},c<b→(7 - a) * 100+(b - (c+1)+1+d)+1≤(7 - a) * 100+(b - c+1+d):=by lia
theorem ar442 {a b c d e f:Nat}:c<d→d<e+1→¬c=f→¬(f<c∧c≤e)→f<d∧d≤e→c=d - 1→a<b:=fun h h2 h3 h4 h5 h6=>(h4 ⟨by lia,by lia⟩).elim
theorem ar443:∀ {a b c d:Nat},2 * a+1<b→c=b→¬2 * a+1+1<b→d<c→d=2 * a+2→2 * a+1+1<b:=by intros;simp_all;done
theorem ar444:∀ {a b c d:Nat},(↑a:Int)≠(↑c:Int)→b<8→d<8→(a * 8+b<c * 8+d↔(↑a:Int)<(↑c:Int)):=by lia
theorem ar445:∀ {a b c d:Nat},c<8→d<8→¬(↑a:Int)=(↑b:Int)→((↑a:Int)<(↑b:Int)↔a * 8+c<b * 8+d):=by lia
theorem ar446 {a b c d:Nat} {e f:Prop}:2 * c+1<a→c<d→(b=2 * c+1∨b=2 * c+2)∧e∧f→d=a→a - b<a - c:=fun h k g e=>e▸Nat.sub_lt_sub_left (e.symm▸k) (g.1.elim (fun q=>by lia) (fun q=>by lia))
inductive AV where
 | i (n:Int)
 | s (x:Str)
 | v (x:Value)
noncomputable def AV.is:AV→Value→Prop
 | .i n,x=>∃ t,x=.int n t
 | .s c,x=>∃ t,x=.str c t
 | .v y,x=>x=y
theorem is_i {n:Int} {t:Tok}:AV.is (.i n) (.int n t):=⟨t,rfl⟩
theorem is_s {x:Str} {t:Tok}:AV.is (.s x) (.str x t):=⟨t,rfl⟩
theorem is_v {x:Value}:AV.is (.v x) x:=rfl
inductive ARel:List AV→List Value→Prop where
 | nil:ARel [] []
 | cons {a x as xs}:a.is x→ARel as xs→ARel (a::as) (x::xs)
theorem ARel.length {as xs} (h:ARel as xs):xs.length=as.length:=by
 induction h with
 | nil=>rfl
 | cons a r ih=>exact congrArg Nat.succ ih
theorem ARel.get:∀ {as xs},ARel as xs→∀ {i:Nat} {a},as[i]?=some a→∃ x,xs[i]?=some x∧a.is x:=by
 intro as xs h
 induction h with
 | nil=>exact fun e=>nomatch e
 | cons h r ih=>
  intro i a e
  cases i with
  | zero=>exact ⟨_,rfl,Option.some.inj e▸h⟩
  | succ i=>exact ih e
theorem ARel.append {as xs bs ys} (h:ARel as xs) (g:ARel bs ys):ARel (as++bs) (xs++ys):=by
 induction h with
 | nil=>exact g
 | cons a r ih=>exact .cons a ih
theorem ARel.set:∀ {as xs},ARel as xs→∀ (i:Nat) {a x},a.is x→ARel (as.set i a) (xs.set i x):=by
 intro as xs h
 induction h with
 | nil=>exact fun A A A A=>.nil
 | cons a r ih=>
  intro i b y hb
  cases i with
  | zero=>exact .cons hb r
  | succ i=>exact .cons a (ih i hb)
theorem ARel.dropLast:∀ {as xs},ARel as xs→ARel as.dropLast xs.dropLast:=by
 intro as xs h
 induction h with
 | nil=>exact .nil
 | cons a r ih=>
  cases r with
  | nil=>exact .nil
  | cons b r=>exact .cons a ih
theorem ARel.drop:∀ {as xs} (n:Nat),ARel as xs→ARel (as.drop n) (xs.drop n)
 | _,_,0,h=>h
 | _,_,n+1,.nil=>.nil
 | _,_,n+1,.cons a r=>r.drop n
theorem ARel.take:∀ {as xs} (n:Nat),ARel as xs→ARel (as.take n) (xs.take n)
 | _,_,0,h=>.nil
 | _,_,n+1,.nil=>.nil
 | _,_,n+1,.cons a r=>.cons a (r.take n)
noncomputable abbrev OP:=Obj→Prop
abbrev Ds:=List (Addr×OP)
abbrev VP:=Value→Shared→Prop
noncomputable abbrev Z:=Addr→Option Obj
noncomputable abbrev Loc:=List (Str×AV)
noncomputable def lk:Loc→Str→Option AV
 | [],_=>none
 | (k,a)::r,x=>if x=k then some a else lk r x
noncomputable def setl:Loc→Str→AV→Loc
 | [],x,a=>[(x,a)]
 | (k,b)::r,x,a=>if x=k then (k,a)::r else (k,b)::setl r x a
theorem lk_setl (m:Loc) (x:Str) (a:AV) (y:Str):lk (setl m x a) y=if y=x then some a else lk m y:=by
 induction m with
 | nil=>rfl
 | cons p r ih=>
  obtain ⟨k,b⟩:=p
  unfold setl
  by_cases h:x=k
  ·subst h
   rw [if_pos rfl]
   unfold lk
   by_cases q:y=x
   ·simp [q]
   ·simp [q]
  ·rw [if_neg h]
   show (if y=k then some b else lk (setl r x a) y)=if y=x then some a else if y=k then some b else lk r y
   rw [ih]
   by_cases q:y=k
   ·subst q;rw [if_pos rfl,if_neg (fun e=>h e.symm),if_pos rfl]
   ·rw [if_neg q,if_neg q]
noncomputable def optIs:Option AV→Option Value→Prop
 | none,o=>o=none
 | some a,o=>∃ v,o=some v∧a.is v
noncomputable def FrO (m:Loc):OP:=fun o=>∃ es ep,o.data=.dict es ep∧StrKeys es∧∀ x a,lk m x=some a→∃ v,nsFind es x=some v∧a.is v
noncomputable def subL:Loc→Loc→Prop
 | [],_=>True
 | (x,a)::r,m=>lk m x=some a∧subL r m
theorem subL.lk {m:Loc}:∀ {m':Loc},subL m' m→∀ x a,LW.lk m' x=some a→LW.lk m x=some a
 | [],_,_,_,h=>by cases h
 | (k,b)::r,⟨h1,h2⟩,x,a,h=>by
  unfold LW.lk at h
  by_cases q:x=k
  ·rw [if_pos q] at h;cases h;rw [q];exact h1
  ·rw [if_neg q] at h;exact h2.lk x a h
theorem FrO.weak {m m':Loc} {o:Obj} (h:FrO m o) (hs:subL m' m):FrO m' o:=let ⟨es,ep,a,b,c⟩:=h;⟨es,ep,a,b,fun x a e=>c x a (hs.lk x a e)⟩
noncomputable def ListO (vs:List AV):OP:=fun o=>∃ items n,o=⟨.type "list",none,.seq items n,#[]⟩∧ARel vs items.toList
noncomputable def TupO (vs:List AV):OP:=fun o=>∃ items n,o=⟨.type "tuple",none,.seq items n,#[]⟩∧ARel vs items.toList
noncomputable def CellO (a:Option AV):OP:=fun o=>∃ c,o.data=.cell c∧optIs a c
structure Rest where
 base:Heap
 gens:Array GenState
 drawn:Drawn
 os:OsState
structure WF (w:World) (b:Heap) (z:Z):Prop where
 sub:∀ a o,b.get? a=some o→z a=some o
 K:(hdp.heap_1_39 w.params).In b
 top:∃ (mg mb:Str→Option Value) (p:Program) (l:List Str) (me:ExcName→Option Value),Top p l me mg mb b
structure St (w:World) (ρ:Rest) (z:Z) (Δ:Ds) (s:Shared):Prop where
 wf:WF w ρ.base z
 fr:∀ a o,z a=some o→s.heap.get? a=some o
 own:∀ p∈Δ,z p.1=none∧∃ o,s.heap.get? p.1=some o∧p.2 o
 nd:(Δ.map (·.1)).Nodup
 lo:∀ p∈Δ,ρ.base.objs.size≤p.1
 sz:ρ.base.objs.size≤s.heap.objs.size
 g:s.gens=ρ.gens
 d:s.drawn=ρ.drawn
 os:s.os=ρ.os
noncomputable def Has (s:Shared) (a:Addr) (P:OP):Prop:=∃ o,s.heap.get? a=some o∧P o
noncomputable def Fz (z:Z) (a:Addr) (P:OP):Prop:=∃ o,z a=some o∧P o
noncomputable def Sub (z z':Z):Prop:=∀ a o,z a=some o→z' a=some o
theorem Sub.refl (z:Z):Sub z z:=fun A A e=>e
theorem Sub.trans {a b c:Z} (x:Sub a b) (y:Sub b c):Sub a c:=fun p o e=>y p o (x p o e)
theorem Fz.mono {z z':Z} {a P} (h:Fz z a P) (hs:Sub z z'):Fz z' a P:=let ⟨o,e,p⟩:=h;⟨o,hs _ _ e,p⟩
theorem WF.mono {w:World} {b:Heap} {z z':Z} (h:WF w b z) (hs:Sub z z'):WF w b z':=⟨fun x o e=>hs _ _ (h.sub x o e),h.K,h.top⟩
section
variable {w:World} {ρ:Rest} {z:Z} {Δ:Ds} {s s':Shared}
theorem St.at (S:St w ρ z Δ s) (j:Nat) {a:Addr} {P:OP} (hj:Δ[j]?=some (a,P)):Has s a P:=(S.own _ (List.mem_of_getElem? hj)).2
theorem St.fz (S:St w ρ z Δ s) {a:Addr} {P:OP} (h:Fz z a P):Has s a P:=let ⟨o,e,p⟩:=h;⟨o,S.fr _ _ e,p⟩
theorem St.keep (S:St w ρ z Δ s):∀ a o,ρ.base.get? a=some o→s.heap.get? a=some o:=fun a o e=>S.fr _ _ (S.wf.sub a o e)
theorem St.K (S:St w ρ z Δ s):(hdp.heap_1_39 w.params).In s.heap:=fun x o e=>S.keep _ _ (S.wf.K x o e)
theorem St.top (S:St w ρ z Δ s):∃ p l me mg mb,Top p l me mg mb s.heap:=let ⟨mg,mb,p,l,me,t⟩:=S.wf.top;⟨p,l,me,mg,mb,t.keeps S.keep⟩
theorem St.nolim (S:St w ρ z Δ s):s.heap.NoLimit:=let ⟨_,_,_,_,_,t⟩:=S.top;t.nolimit
theorem St.fresh (S:St w ρ z Δ s):z s.heap.objs.size=none:=by
 cases q:z s.heap.objs.size with
 | none=>rfl
 | some o=>exact absurd (Heap.lt_size (S.fr _ _ q)) (Nat.lt_irrefl _)
theorem St.step (S:St w ρ z Δ s) {Δ':Ds} (hfr:∀ a o,z a=some o→s.heap.get? a=some o→s'.heap.get? a=some o)
 (hown:∀ p∈Δ',z p.1=none∧∃ o,s'.heap.get? p.1=some o∧p.2 o) (hnd:(Δ'.map (·.1)).Nodup) (hlo:∀ p∈Δ',ρ.base.objs.size≤p.1) (hsz:s.heap.objs.size≤s'.heap.objs.size)
 (hg:s'.gens=s.gens:=by rfl) (hd:s'.drawn=s.drawn:=by rfl) (ho:s'.os=s.os:=by rfl):St w ρ z Δ' s':=
  ⟨S.wf,fun a o e=>hfr a o e (S.fr a o e),hown,hnd,hlo,Nat.le_trans S.sz hsz,hg.trans S.g,hd.trans S.d,ho.trans S.os⟩
theorem St.toks (S:St w ρ z Δ s) {t:Nat}:St w ρ z Δ { s with toks:=t }:=⟨S.wf,S.fr,S.own,S.nd,S.lo,S.sz,S.g,S.d,S.os⟩
theorem St.push (S:St w ρ z Δ s) {o:Obj} {P:OP} (hf:o.isFreed=false) (hP:P o):St w ρ z ((s.heap.objs.size,P)::Δ) { s with heap:=s.heap.push o }:=by
 refine S.step (fun a o' A e=>Heap.get?_push_of_some _ e) (fun p hp=>?_) ?_ (fun p hp=>?_) (by simp)
 ·rcases List.mem_cons.mp hp with rfl | hp
  ·exact ⟨S.fresh,o,Heap.get?_push_size _ hf,hP⟩
  ·obtain ⟨h1,o',e⟩:=S.own p hp
   refine (?_:_→_→_) e.1 e.2
   intro e h2
   exact ⟨h1,o',Heap.get?_push_of_some _ e,h2⟩
 ·rw [List.map_cons,List.nodup_cons]
  refine ⟨fun hm=>?_,S.nd⟩
  obtain ⟨p,hp⟩:=List.mem_map.mp hm
  refine (?_:_→_→_) hp.1 hp.2
  intro hp e
  obtain ⟨_,o',e'⟩:=S.own p hp
  refine (?_:_→_) e'.1
  intro e'
  exact absurd (e▸Heap.lt_size e') (Nat.lt_irrefl _)
 ·rcases List.mem_cons.mp hp with rfl | hp
  ·exact S.sz
  ·exact S.lo p hp
theorem nodup_idx {l:List Addr} (hn:l.Nodup) {i j:Nat} {a:Addr} (hi:l[i]?=some a) (hj:l[j]?=some a):i=j:=by
 induction l generalizing i j with
 | nil=>simp at hi
 | cons x r ih=>
  rw [List.nodup_cons] at hn
  cases i with
  | zero=>
   cases j with
   | zero=>rfl
   | succ j=>
    simp at hi hj;subst hi
    exact absurd (List.mem_of_getElem? hj) hn.1
  | succ i=>
   cases j with
   | zero=>
    simp at hi hj;subst hj
    exact absurd (List.mem_of_getElem? hi) hn.1
   | succ j=>
    simp at hi hj
    rw [ih hn.2 hi hj]
theorem St.same (S:St w ρ z Δ s) (j:Nat) {a:Addr} {P P':OP} {h':Heap} {t:Nat} (hj:Δ[j]?=some (a,P)) (hs:Heap.SameBut a s.heap h') (hP:∃ o,h'.get? a=some o∧P' o) :
 St w ρ z (Δ.set j (a,P')) { s with heap:=h',toks:=t }:=by
  have za:z a=none:=(S.own _ (List.mem_of_getElem? hj)).1
  have hja:(Δ.map (·.1))[j]?=some a:=by rw [List.getElem?_map,hj];rfl
  refine S.step (fun b o hb e=>(hs.2 b (fun q=>by subst q;rw [za] at hb;cases hb)).trans e) (fun p hp=>?_) ?_ (fun p hp=>?_) (Nat.le_of_eq hs.1.symm)
  ·obtain ⟨i,hi⟩:=List.getElem?_of_mem hp
   rw [List.getElem?_set] at hi
   split at hi
   ·split at hi
    ·cases hi;exact ⟨za,hP⟩
    ·cases hi
   ·rename_i hne
    obtain ⟨h1,o,e⟩:=S.own p (List.mem_of_getElem? hi)
    refine (?_:_→_→_) e.1 e.2
    intro e h2
    refine ⟨h1,o,(hs.2 p.1 (fun q=>hne ?_)).trans e,h2⟩
    exact nodup_idx S.nd hja (by rw [List.getElem?_map,hi,← q];rfl)
  ·refine (?_:((Δ.set j (a,P')).map (·.1)=Δ.map (·.1))→_) (by
    rw [List.map_set]
    exact X.set_same hja)
   intro this
   rw [this];exact S.nd
  ·rcases List.mem_or_eq_of_mem_set hp with hp | rfl
   ·exact S.lo p hp
   ·exact S.lo (a,P) (List.mem_of_getElem? hj)
theorem St.upd (S:St w ρ z Δ s) (j:Nat) {a:Addr} {P P':OP} {f:Obj→Obj} {t:Nat} (hj:Δ[j]?=some (a,P)) (hP:∀ o,s.heap.get? a=some o→P o→P' (f o)∧(f o).isFreed=false) :
 St w ρ z (Δ.set j (a,P')) { s with heap:=s.heap.update a f,toks:=t }:=by
  obtain ⟨o,e⟩:=S.at j hj
  refine (?_:_→_→_) e.1 e.2
  intro e p
  refine (?_:_→_→_) ((hP o e p).1) ((hP o e p).2)
  intro p' hf
  exact S.same j hj (Heap.SameBut.update ..) ⟨_,Heap.get?_update_self _ e hf,p'⟩
theorem St.perm (S:St w ρ z Δ s) {Δ':Ds} (h:Δ'.Perm Δ):St w ρ z Δ' s:=
 ⟨S.wf,S.fr,fun p hp=>S.own p (h.mem_iff.mp hp),((h.map _).nodup_iff).mpr S.nd,fun p hp=>S.lo p (h.mem_iff.mp hp),S.sz,S.g,S.d,S.os⟩
theorem St.sub (S:St w ρ z Δ s) {Δ':Ds} (h:Δ'.Sublist Δ):St w ρ z Δ' s:=
 ⟨S.wf,S.fr,fun p hp=>S.own p (h.subset hp),S.nd.sublist (h.map _),fun p hp=>S.lo p (h.subset hp),S.sz,S.g,S.d,S.os⟩
theorem St.tail {p:Addr×OP} (S:St w ρ z (p::Δ) s):St w ρ z Δ s:=S.sub (List.sublist_cons_self ..)
theorem St.drop2 {p q:Addr×OP} (S:St w ρ z (p::q::Δ) s):St w ρ z (p::Δ) s:=S.sub ((List.sublist_cons_self ..).cons_cons _)
theorem St.weak (S:St w ρ z Δ s) (j:Nat) {a:Addr} {P P':OP} (hj:Δ[j]?=some (a,P)) (h:∀ o,P o→P' o):St w ρ z (Δ.set j (a,P')) s:=by
 obtain ⟨o,e⟩:=S.at j hj
 refine (?_:_→_→_) e.1 e.2
 intro e p
 refine (?_:_→_) (S.same (t:=s.toks) j hj (h':=s.heap) ⟨rfl,fun A A=>rfl⟩ ⟨o,e,h o p⟩)
 intro this
 exact this
theorem St.freeze {a:Addr} {P:OP} (S:St w ρ z ((a,P)::Δ) s):∃ z',Sub z z'∧Fz z' a P∧(∀ b,b≠a→z' b=z b)∧St w ρ z' Δ s:=by
 obtain ⟨za,o,e,p⟩:=S.own (a,P) (.head _)
 have hn:=S.nd
 rw [List.map_cons,List.nodup_cons] at hn
 have hs:Sub z (fun b=>if b=a then some o else z b):=fun b ob eb=>by
  show (if b=a then some o else z b)=some ob
  rw [if_neg (fun q=>by subst q;rw [za] at eb;cases eb)];exact eb
 refine ⟨fun b=>if b=a then some o else z b,hs,⟨o,if_pos rfl,p⟩,fun b hb=>if_neg hb,⟨S.wf.mono hs,fun b ob eb=>?_,fun q hq=>?_,hn.2,fun q hq=>S.lo q (.tail _ hq),S.sz,S.g,S.d,S.os⟩⟩
 ·by_cases h:b=a
  ·subst h
   rw [if_pos rfl] at eb;cases eb;exact e
  ·rw [if_neg h] at eb;exact S.fr _ _ eb
 ·refine (?_:_→_→_) ((S.own q (.tail _ hq)).1) ((S.own q (.tail _ hq)).2)
  intro h1 h2
  refine ⟨?_,h2⟩
  show (if q.1=a then some o else z q.1)=none
  refine (?_:(q.1≠a)→_) (fun e=>hn.1 (List.mem_map.mpr ⟨q,hq,e⟩))
  intro ne
  rw [if_neg ne];exact h1
theorem St.freeze1 {a:Addr} {P:OP} {f:Addr×OP} (S:St w ρ z (f::(a,P)::Δ) s):∃ z',Sub z z'∧Fz z' a P∧(∀ b,b≠a→z' b=z b)∧St w ρ z' (f::Δ) s:=
 (S.perm (List.Perm.swap ..)).freeze
end
theorem FrO.ns {s:Shared} {a:Addr} {m:Loc} (h:Has s a (FrO m)):∃ f,s.heap.Ns a f∧∀ x a,lk m x=some a→∃ v,f x=some v∧a.is v:=by
 obtain ⟨o,e,es,ep,hd,hk,hx⟩:=h
 exact ⟨_,⟨o,es,ep,e,hd,hk,fun A=>rfl⟩,hx⟩
theorem FrO.of {h:Heap} {a:Addr} {m:Loc} {f:Str→Option Value} (hn:h.Ns a f) (hx:∀ x a,lk m x=some a→∃ v,f x=some v∧a.is v):∃ o,h.get? a=some o∧FrO m o:=by
 obtain ⟨o,es,ep,e⟩:=hn
 refine (?_:_→_→_→_→_) e.1 e.2.1 e.2.2.1 e.2.2.2
 intro e hd hk hf
 exact ⟨o,e,es,ep,hd,hk,fun x=>by rw [hf];exact hx x⟩
theorem St.fr_weak {w:World} {ρ:Rest} {z:Z} {Δ:Ds} {s:Shared} {L:Addr} {m m':Loc} (S:St w ρ z ((L,FrO m)::Δ) s) (h:subL m' m):St w ρ z ((L,FrO m')::Δ) s:=
 S.weak (P':=FrO m') 0 rfl fun A q=>q.weak h
noncomputable def allBut (h b:Heap) (L:Addr):List (Addr×Obj):=(List.range h.objs.size).filterMap fun a=>if a=L then none else match b.get? a,h.get? a with
 | none,some o=>some (a,o)
 | _,_=>none
theorem mem_allBut {h b:Heap} {L a:Addr} {o:Obj}:(a,o)∈allBut h b L↔a≠L∧b.get? a=none∧h.get? a=some o:=by
 unfold allBut
 rw [List.mem_filterMap]
 constructor
 ·rintro ⟨x,hx,e⟩
  split at e
  ·cases e
  ·rename_i hne
   split at e
   ·rename_i h1 h2;cases e;exact ⟨hne,h1,h2⟩
   ·cases e
 ·rintro ⟨h1,h2,h3⟩
  refine ⟨a,List.mem_range.mpr (Heap.lt_size h3),?_⟩
  rw [if_neg h1,h2,h3]
set_option tactic.hygienic true in
theorem allBut_nodup (h b:Heap) (L:Addr):((allBut h b L).map (·.1)).Nodup:=by
 refine (?_:(∀ l:List Nat,l.Nodup→((l.filterMap fun a=>if a=L then none else match b.get? a,h.get? a with | none,some o=>some (a,o) | _,_=>none).map (·.1)).Sublist l)→_) (by
  intro l _
  induction l with
  | nil=>exact List.Sublist.slnil
  | cons x r ih=>
   rename_i hn
   refine (?_:_→_) (ih (List.nodup_cons.mp hn).2)
   intro ih
   rw [List.filterMap_cons]
   split
   ·exact ih.cons _
   ·rename_i p hp
    split at hp
    ·cases hp
    ·split at hp
     ·cases hp;rw [List.map_cons];exact ih.cons_cons _
     ·cases hp)
 intro key
 exact List.nodup_range.sublist (key _ List.nodup_range)
section
variable {w:World} {ρ:Rest} {z:Z} {Δ:Ds} {s:Shared} {L:Addr} {m:Loc}
theorem St.kframe (S:St w ρ z ((L,FrO m)::Δ) s):∃ f,Fr ρ.base L s.heap f∧∀ x a,lk m x=some a→∃ v,f x=some v∧a.is v:=by
 obtain ⟨f,hn⟩:=FrO.ns (S.at 0 rfl)
 refine (?_:_→_→_) hn.1 hn.2
 intro hn hf
 exact ⟨f,⟨hn,S.keep,S.lo (L,FrO m) (.head _)⟩,hf⟩
theorem St.knews (S:St w ρ z ((L,FrO m)::Δ) s):News ρ.base L s.heap (allBut s.heap ρ.base L):=by
 rintro ⟨a,o⟩ hp
 refine (?_:_→_→_→_) ((mem_allBut.mp hp).1) ((mem_allBut.mp hp).2.1) ((mem_allBut.mp hp).2.2)
 intro h1 h2 h3
 exact ⟨h3,h1,h2⟩
theorem St.kback (S:St w ρ z ((L,FrO m)::Δ) s) {f:Str→Option Value} {h':Heap} {news':List (Addr×Obj)} {Δ':Ds} {t:Nat} (hf:∀ x a,lk m x=some a→∃ v,f x=some v∧a.is v)
 (F:Fr ρ.base L h' f) (N:News ρ.base L h' news') (hz:∀ a o,z a=some o→ρ.base.get? a=none→a≠L→(a,o)∈news')
 (hΔ:∀ p∈Δ',z p.1=none∧ρ.base.objs.size≤p.1∧∃ o,(p.1,o)∈news'∧p.2 o) (hnd:(Δ'.map (·.1)).Nodup):St w ρ z ((L,FrO m)::Δ') { s with heap:=h',toks:=t }:=by
  refine (?_:(z L=none)→_) ((S.own (L,FrO m) (.head _)).1)
  intro zL
  refine ⟨S.wf,fun a o e=>?_,fun p hp=>?_,?_,fun p hp=>?_,Nat.le_of_lt (Nat.lt_of_le_of_lt F.above F.ns.lt),S.g,S.d,S.os⟩
  ·cases hb:ρ.base.get? a with
   | some o'=>
    have:=S.wf.sub a o' hb
    rw [e] at this;cases this
    exact F.keep a o hb
   | none=>exact (N _ (hz a o e hb fun q=>by subst q;rw [zL] at e;cases e)).1
  ·rcases List.mem_cons.mp hp with rfl | hp
   ·exact ⟨zL,FrO.of F.ns hf⟩
   ·obtain ⟨h1,_,o,h2⟩:=hΔ p hp
    refine (?_:_→_→_) h2.1 h2.2
    intro h2 h3
    exact ⟨h1,o,(N _ h2).1,h3⟩
  ·rw [List.map_cons,List.nodup_cons]
   refine ⟨fun hm=>?_,hnd⟩
   obtain ⟨p,hp⟩:=List.mem_map.mp hm
   refine (?_:_→_→_) hp.1 hp.2
   intro hp e
   obtain ⟨_,_,o,h2⟩:=hΔ p hp
   refine (?_:_→_) h2.1
   intro h2
   exact (N _ h2).2.1 e
  ·rcases List.mem_cons.mp hp with rfl | hp
   ·exact S.lo (L,FrO m) (.head _)
   ·exact (hΔ p hp).2.1
theorem St.zin (S:St w ρ z ((L,FrO m)::Δ) s) {a:Addr} {o:Obj} (e:z a=some o) (hb:ρ.base.get? a=none) (hL:a≠L):(a,o)∈allBut s.heap ρ.base L:=mem_allBut.mpr ⟨hL,hb,S.fr _ _ e⟩
theorem St.base_none (S:St w ρ z Δ s) {p:Addr×OP} (hp:p∈Δ):ρ.base.get? p.1=none:=by
 cases q:ρ.base.get? p.1 with
 | none=>rfl
 | some o=>have:=S.wf.sub _ _ q;rw [(S.own p hp).1] at this;cases this
theorem St.Δin (S:St w ρ z ((L,FrO m)::Δ) s) {p:Addr×OP} (hp:p∈Δ):∃ o,(p.1,o)∈allBut s.heap ρ.base L∧p.2 o:=by
 obtain ⟨h1,o,e⟩:=S.own p (.tail _ hp)
 refine (?_:_→_→_) e.1 e.2
 intro e h2
 refine (?_:_→_) (S.nd)
 intro hn
 rw [List.map_cons,List.nodup_cons] at hn
 exact ⟨o,mem_allBut.mpr ⟨fun q=>hn.1 (List.mem_map.mpr ⟨p,hp,q⟩),S.base_none (.tail _ hp),e⟩,h2⟩
theorem St.kone (S:St w ρ z ((L,FrO m)::Δ) s) (j:Nat) {d:Addr} {P:OP} (hj:Δ[j]?=some (d,P)):∃ f pre od post,Fr ρ.base L s.heap f∧News ρ.base L s.heap (pre++(d,od)::post)∧(∀ p∈pre,p.1≠d)∧(∀ p∈post,p.1≠d)∧s.heap.get? d=some od∧P od ∧
 ∀ h' od' (P':OP) t,Fr ρ.base L h' f→News ρ.base L h' (pre++(d,od')::post)→P' od'→St w ρ z ((L,FrO m)::Δ.set j (d,P')) { s with heap:=h',toks:=t }:=by
  obtain ⟨f,F⟩:=S.kframe
  refine (?_:_→_→_) F.1 F.2
  intro F hf
  refine (?_:_→_) (S.knews)
  intro N
  refine (?_:_→_) (List.mem_of_getElem? hj)
  intro hd
  obtain ⟨od,hin⟩:=S.Δin hd
  refine (?_:_→_→_) hin.1 hin.2
  intro hin hP
  obtain ⟨pre,post,e⟩:=List.append_of_mem hin
  refine (?_:_→_) (allBut_nodup s.heap ρ.base L)
  intro hn
  rw [e,List.map_append,List.map_cons] at hn
  have hn2:=List.nodup_append.mp hn
  have hpre:∀ p∈pre,p.1≠d:=fun p hp q=>hn2.2.2 p.1 (List.mem_map_of_mem hp) d (.head _) q
  have hpost:∀ p∈post,p.1≠d:=fun p hp q=>(List.nodup_cons.mp hn2.2.1).1 (List.mem_map.mpr ⟨p,hp,q⟩)
  have zd:z d=none:=(S.own (d,P) (.tail _ hd)).1
  rw [e] at N
  refine ⟨f,pre,od,post,F,N,hpre,hpost,(N (d,od) (by simp)).1,hP,fun h' od' P' t F' N' hP'=>S.kback hf F' N' (fun a o ea hb hL=>?_) (fun p hp=>?_) ?_⟩
  ·refine (?_:_→_) (S.zin ea hb hL)
   intro this
   rw [e] at this
   rcases List.mem_append.mp this with q | q
   ·exact List.mem_append_left _ q
   ·rcases List.mem_cons.mp q with q | q
    ·cases q;rw [zd] at ea;cases ea
    ·exact List.mem_append_right _ (.tail _ q)
  ·obtain ⟨i,hi⟩:=List.getElem?_of_mem hp
   rw [List.getElem?_set] at hi
   split at hi
   ·split at hi
    ·cases hi;exact ⟨zd,S.lo (d,P) (.tail _ hd),od',by simp,hP'⟩
    ·cases hi
   ·rename_i hne
    refine (?_:_→_) (List.mem_of_getElem? hi)
    intro hp'
    obtain ⟨o,h1⟩:=S.Δin hp'
    refine (?_:_→_→_) h1.1 h1.2
    intro h1 h2
    refine ⟨(S.own p (.tail _ hp')).1,S.lo p (.tail _ hp'),o,?_,h2⟩
    refine (?_:_→_) (S.nd)
    intro hnd
    rw [List.map_cons,List.nodup_cons] at hnd
    refine (?_:(p.1≠d)→_) (fun q=>hne (nodup_idx hnd.2 (a:=d) (by rw [List.getElem?_map,hj];rfl) (by rw [List.getElem?_map,hi,← q];rfl)))
    intro hpd
    rw [e] at h1
    rcases List.mem_append.mp h1 with q | q
    ·exact List.mem_append_left _ q
    ·rcases List.mem_cons.mp q with q | q
     ·cases q;exact absurd rfl hpd
     ·exact List.mem_append_right _ (.tail _ q)
  ·refine (?_:_→_) (S.nd)
   intro hnd
   rw [List.map_cons,List.nodup_cons] at hnd
   refine (?_:((Δ.set j (d,P')).map (·.1)=Δ.map (·.1))→_) (by
    rw [List.map_set];exact X.set_same (by rw [List.getElem?_map,hj];rfl))
   intro this
   rw [this];exact hnd.2
theorem St.kn1 (S:St w ρ z ((L,FrO m)::Δ) s) (hne:Δ≠[]):∃ f,Fr ρ.base L s.heap f∧News ρ.base L s.heap (allBut s.heap ρ.base L) ∧
 ∀ h' q o (P:OP) t,Fr ρ.base L h' f→News ρ.base L h' ((q,o)::allBut s.heap ρ.base L)→(∀ p∈allBut s.heap ρ.base L,p.1<q)→P o→St w ρ z ((L,FrO m)::(q,P)::Δ) { s with heap:=h',toks:=t }:=by
  obtain ⟨f,F,hf⟩:=S.kframe
  refine ⟨f,F,S.knews,fun h' q o P t F' N' hlt hP=>S.kback hf F' N' (fun a o ea hb hL=>.tail _ (S.zin ea hb hL)) (fun p hp=>?_) ?_⟩
  ·rcases List.mem_cons.mp hp with rfl | hp
   ·refine ⟨?_,?_,o,.head _,hP⟩
    ·cases hz:z q with
     | none=>rfl
     | some o'=>exact absurd (hlt _ (S.zin hz (N' _ (.head _)).2.2 (N' _ (.head _)).2.1)) (Nat.lt_irrefl _)
    ·obtain ⟨p,hp⟩:=List.exists_mem_of_ne_nil _ hne
     obtain ⟨o',h1⟩:=S.Δin hp
     refine (?_:_→_) h1.1
     intro h1
     exact Nat.le_of_lt (Nat.lt_of_le_of_lt (S.lo p (.tail _ hp)) (hlt _ h1))
   ·obtain ⟨o',h1⟩:=S.Δin hp
    refine (?_:_→_→_) h1.1 h1.2
    intro h1 h2
    exact ⟨(S.own p (.tail _ hp)).1,S.lo p (.tail _ hp),o',.tail _ h1,h2⟩
  ·have hnd:=S.nd
   rw [List.map_cons,List.nodup_cons] at hnd
   rw [List.map_cons,List.nodup_cons]
   refine ⟨fun hm=>?_,hnd.2⟩
   obtain ⟨p,hp,e⟩:=List.mem_map.mp hm
   obtain ⟨o',h1⟩:=S.Δin hp
   refine (?_:_→_) h1.1
   intro h1
   exact absurd (hlt _ h1) (by rw [e];exact Nat.lt_irrefl _)
theorem St.kn2 (S:St w ρ z ((L,FrO m)::Δ) s) (hne:Δ≠[]):∃ f,Fr ρ.base L s.heap f∧News ρ.base L s.heap (allBut s.heap ρ.base L) ∧
 ∀ h' q o r u (P R:OP) t,Fr ρ.base L h' f→News ρ.base L h' ((q,o)::(r,u)::allBut s.heap ρ.base L)→(∀ p∈allBut s.heap ρ.base L,p.1<r)→r<q→P o→R u→St w ρ z ((L,FrO m)::(q,P)::(r,R)::Δ) { s with heap:=h',toks:=t }:=by
  obtain ⟨f,F⟩:=S.kframe
  refine (?_:_→_→_) F.1 F.2
  intro F hf
  refine ⟨f,F,S.knews,fun h' q o r u P R t F' N' hlt hrq hP hR=>S.kback hf F' N' (fun a o ea hb hL=>.tail _ (.tail _ (S.zin ea hb hL))) (fun p hp=>?_) ?_⟩
  ·have zz:∀ q,(∀ p∈allBut s.heap ρ.base L,p.1<q)→∀ o,(q,o)∈(q,o)::(r,u)::allBut s.heap ρ.base L→q≠L→ρ.base.get? q=none→z q=none∧ρ.base.objs.size≤q:=fun q hlt o hin h1 h2=>by
    constructor
    ·cases hz:z q with
     | none=>rfl
     | some o'=>exact absurd (hlt _ (S.zin hz h2 h1)) (Nat.lt_irrefl _)
    ·obtain ⟨p,hp⟩:=List.exists_mem_of_ne_nil _ hne
     obtain ⟨o',h1⟩:=S.Δin hp
     refine (?_:_→_) h1.1
     intro h1
     exact Nat.le_of_lt (Nat.lt_of_le_of_lt (S.lo p (.tail _ hp)) (hlt _ h1))
   rcases List.mem_cons.mp hp with rfl | hp
   ·refine (?_:_→_→_) ((zz q (fun p hp=>Nat.lt_trans (hlt p hp) hrq) o (.head _) (N' _ (.head _)).2.1 (N' _ (.head _)).2.2).1) ((zz q (fun p hp=>Nat.lt_trans (hlt p hp) hrq) o (.head _) (N' _ (.head _)).2.1 (N' _ (.head _)).2.2).2)
    intro z1 z2
    exact ⟨z1,z2,o,.head _,hP⟩
   rcases List.mem_cons.mp hp with rfl | hp
   ·refine (?_:_→_→_) ((zz r hlt u (.head _) (N' (r,u) (.tail _ (.head _))).2.1 (N' (r,u) (.tail _ (.head _))).2.2).1) ((zz r hlt u (.head _) (N' (r,u) (.tail _ (.head _))).2.1 (N' (r,u) (.tail _ (.head _))).2.2).2)
    intro z1 z2
    exact ⟨z1,z2,u,.tail _ (.head _),hR⟩
   ·obtain ⟨o',h1⟩:=S.Δin hp
    refine (?_:_→_→_) h1.1 h1.2
    intro h1 h2
    exact ⟨(S.own p (.tail _ hp)).1,S.lo p (.tail _ hp),o',.tail _ (.tail _ h1),h2⟩
  ·refine (?_:_→_) (S.nd)
   intro hnd
   rw [List.map_cons,List.nodup_cons] at hnd
   rw [List.map_cons,List.nodup_cons,List.map_cons,List.nodup_cons]
   refine ⟨fun hm=>?_,fun hm=>?_,hnd.2⟩
   ·rcases List.mem_cons.mp hm with e | hm
    ·exact absurd hrq (by rw [show q=r from e];exact Nat.lt_irrefl _)
    ·obtain ⟨p,hp⟩:=List.mem_map.mp hm
     refine (?_:_→_→_) hp.1 hp.2
     intro hp e
     obtain ⟨o',h1⟩:=S.Δin hp
     refine (?_:_→_) h1.1
     intro h1
     exact absurd (Nat.lt_trans (hlt _ h1) hrq) (by rw [e];exact Nat.lt_irrefl _)
   ·obtain ⟨p,hp⟩:=List.mem_map.mp hm
    refine (?_:_→_→_) hp.1 hp.2
    intro hp e
    obtain ⟨o',h1⟩:=S.Δin hp
    refine (?_:_→_) h1.1
    intro h1
    exact absurd (hlt _ h1) (by rw [e];exact Nat.lt_irrefl _)
end
structure Room (A:Around) (n:Nat):Prop where
 hd:A.handled=none
 dp:A.depth+n<recursionLimit
 un:A.units+8 * n<cLine
theorem Room.deeper {A:Around} {n:Nat} {env:Env} (h:Room A (n+1)):Room (A.deeper env) n:=
 ⟨h.hd,by refine (?_:_→_) (h.dp);intro this;show A.depth+1+n<_;lia,by refine (?_:_→_) (h.un);intro this;show A.units+3+8 * n<_;lia⟩
theorem Room.le {A:Around} {m n:Nat} (h:Room A m) (hl:n≤m):Room A n:=⟨h.hd,by have:=h.dp;exact ar292 this hl,by have:=h.un;exact ar344 this hl⟩
theorem Room.d0 {A:Around} {n:Nat} (h:Room A n):A.depth<recursionLimit:=by have:=h.dp;exact ar171 this
theorem Room.u0 {A:Around} {n:Nat} (h:Room A n):A.units<cLine:=by have:=h.un;exact ar210 this
theorem Room.in1 {A:Around} {n:Nat} (h:Room A (n+1)):Room A.in1 n:=⟨h.hd,by have:=h.dp;show A.depth+n<_;exact ar263 this,by have:=h.un;show A.units+1+8 * n<_;exact ar85 this⟩
section
variable {prog:Program} {w:World} {A:Around} {E:VP} {s:Shared} {ρ:Rest} {z:Z} {Δ:Ds} {env:Env} {L:Addr} {m:Loc}
theorem lname {x:Str} {av:AV} {Q:VP} (S:St w ρ z ((L,FrO m)::Δ) s) (hL:env.locals=L) (hk:env.scope.kind=.function)
 (hl:env.kindOf x=some .local) (hx:lk m x=some av) (h:∀ v,av.is v→Q v s):wpAny (model prog w) A (loadName env x) Q E s:=by
  subst hL
  obtain ⟨f,hn⟩:=FrO.ns (S.at 0 rfl)
  refine (?_:_→_→_) hn.1 hn.2
  intro hn hf
  obtain ⟨v,hv⟩:=hf x _ hx
  refine (?_:_→_→_) hv.1 hv.2
  intro hv ha
  exact wpAny_loadName_local hk hl hn hv (h v ha)
theorem ld {x:Str} {pos:Pos} {av:AV} {Q:VP} (S:St w ρ z ((L,FrO m)::Δ) s) (hL:env.locals=L) (hk:env.scope.kind=.function)
 (hl:env.kindOf x=some .local) (hdb:(x == ("__debug__":Str))=false) (hx:lk m x=some av) (h:∀ v,av.is v→Q v s):wpAny (model prog w) A (eval (.Name x pos) env) Q E s:=
  wpAny_Name (lname S hL hk hl hx h) hdb
theorem storeL {x:Str} {av:AV} {v:Value} {Q:Unit→Shared→Prop} (S:St w ρ z ((L,FrO m)::Δ) s) (hL:env.locals=L)
 (hl:env.kindOf x=some .local) (hp:(env.scope.kind == .class || (env.scope.kind == .module && env.locals != env.globals))=false) (ha:av.is v)
 (h:∀ s',St w ρ z ((L,FrO (setl m x av))::Δ) s'→Q () s'):wpAny (model prog w) A (storeName env x v) Q E s:=by
  subst hL
  obtain ⟨f,hn⟩:=FrO.ns (S.at 0 rfl)
  refine (?_:_→_→_) hn.1 hn.2
  intro hn hf
  refine wpAny_storeName_local hl hn (fun h' hn' hs=>h _ ?_) hp
  refine S.same (P':=FrO (setl m x av)) 0 rfl hs (FrO.of hn' fun y a e=>?_)
  rw [lk_setl] at e
  by_cases q:y=x
  ·rw [if_pos q] at e;cases e;simp only [if_pos q];exact ⟨v,rfl,ha⟩
  ·rw [if_neg q] at e;simp only [if_neg q];exact hf y a e
theorem ldg {x:Str} {pos:Pos} {v:Value} {Q:VP} (S:St w ρ z Δ s) (hg:env.globals=mainGlobals) (hk:env.scope.kind=.function)
 (hl:env.kindOf x=some .globalImplicit) (hdb:(x == ("__debug__":Str))=false) (hx:nsIn (hdp.heap_1_39 w.params) mainGlobals x=some (some v)) (h:Q v s):wpAny (model prog w) A (eval (.Name x pos) env) Q E s:=by
  obtain ⟨p,l,me,mg,mb,T⟩:=S.top
  exact Name_function_global hk hl (loadGlobal_global (by rw [hg];exact T.g) (mg_of S.K T.g hx) h) hdb
set_option tactic.hygienic true in
theorem mg_none {K:Frag} {h:Heap} {mg:Str→Option Value} {n:Str} (X:K.In h) (G:h.Ns mainGlobals mg) (e:nsIn K mainGlobals n=some none):mg n=none:=by
 obtain ⟨o,es,ep,ho,hd,hk,hf⟩:=G
 unfold nsIn at e
 split at e
 ·rename_i c d es' n' sl q
  refine (?_:_→_) (X _ _ q)
  intro this
  rw [ho] at this
  cases this
  cases hd
  split at e
  ·cases e
  ·rename_i h'
   rw [← hf]
   unfold nsFind findBy
   rw [← Array.find?_toList,h']
   rfl
 ·cases e
theorem ldb {x:Str} {pos:Pos} {v:Value} {Q:VP} (S:St w ρ z Δ s) (hg:env.globals=mainGlobals) (hb:env.builtins=builtinsNs) (hk:env.scope.kind=.function)
 (hl:env.kindOf x=some .globalImplicit) (hdb:(x == ("__debug__":Str))=false) (hx:nsIn (hdp.heap_1_39 w.params) mainGlobals x=some none) (hn:x≠"__name__") (hv:bootBuiltins x=some v) (h:Q v s):wpAny (model prog w) A (eval (.Name x pos) env) Q E s:=by
  obtain ⟨p,l,me,mg,mb,T⟩:=S.top
  exact Name_function_global hk hl (loadGlobal_builtin (by rw [hg];exact T.g) (mg_none S.K T.g hx) (by rw [hb];exact T.b) (by rw [T.builtins x hn];exact hv) h) hdb
theorem c_int {i:Int} {k:Nat} {pos:Pos} {Q:VP} (S:St w ρ z Δ s) (h:∀ t s',St w ρ z Δ s'→Q (.int i t) s'):wpAny (model prog w) A (eval (.Constant (.int i) k pos) env) Q E s:=
 wpAny_Constant_int (h _ _ S.toks)
theorem c_str {x:Str} {k:Nat} {pos:Pos} {Q:VP} (S:St w ρ z Δ s) (h:∀ t s',St w ρ z Δ s'→Q (.str x t) s'):wpAny (model prog w) A (eval (.Constant (.str x) k pos) env) Q E s:=
 Constant_str (h _ _ S.toks)
section
variable {a b:Int} {t u:Tok} {Q:VP}
theorem o_add (S:St w ρ z Δ s) (h:∀ t s',St w ρ z Δ s'→Q (.int (a+b) t) s'):wpAny (model prog w) A (binaryOp .Add (.int a t) (.int b u)) Q E s:=wpAny_add_int (h _ _ S.toks)
theorem o_sub (S:St w ρ z Δ s) (h:∀ t s',St w ρ z Δ s'→Q (.int (a - b) t) s'):wpAny (model prog w) A (binaryOp .Sub (.int a t) (.int b u)) Q E s:=PyProof.Rows.sub_int (h _ _ S.toks)
theorem o_mul (S:St w ρ z Δ s) (h:∀ t s',St w ρ z Δ s'→Q (.int (a * b) t) s') (hm:IntMulOk a b):wpAny (model prog w) A (binaryOp .Mult (.int a t) (.int b u)) Q E s:=PyProof.Rows.mul_int (h _ _ S.toks) hm
theorem o_mod (S:St w ρ z Δ s) (hb:b≠0) (h:∀ t s',St w ρ z Δ s'→Q (.int (a.fmod b) t) s'):wpAny (model prog w) A (binaryOp .Mod (.int a t) (.int b u)) Q E s:=PyProof.Rows.mod_int' hb (h _ _ S.toks)
theorem o_shr1 (S:St w ρ z Δ s) (h0:0≤a) (h:∀ t s',St w ρ z Δ s'→Q (.int (a / 2) t) s'):wpAny (model prog w) A (binaryOp .RShift (.int a t) (.int 1 u)) Q E s:=wpAny_rshift1_int h0 (h _ _ S.toks)
theorem o_shrp {n:Nat} (S:St w ρ z Δ s) (h0:0<n) (h:∀ t s',St w ρ z Δ s'→Q (.int ((n - 1) / 2:Nat) t) s'):wpAny (model prog w) A (binaryOp .RShift (.int ((n:Int) - 1) t) (.int 1 u)) Q E s:=by
 refine o_shr1 S (by exact ar219 h0) fun t s' S'=>?_
 rw [show ((n:Int) - 1) / 2=((n - 1) / 2:Nat) from by exact ar386 h0]
 exact h t s' S'
theorem o_iadd (S:St w ρ z Δ s) (h:∀ t s',St w ρ z Δ s'→Q (.int (a+b) t) s'):wpAny (model prog w) A (inplaceOp .Add (.int a t) (.int b u)) Q E s:=wpAny_iadd_int (h _ _ S.toks)
theorem o_isub (S:St w ρ z Δ s) (h:∀ t s',St w ρ z Δ s'→Q (.int (a - b) t) s'):wpAny (model prog w) A (inplaceOp .Sub (.int a t) (.int b u)) Q E s:=PyProof.Rows.isub_int (h _ _ S.toks)
end
theorem e_call {id:Str} {p pos:Pos} {args:List Expr} {Q:VP}
 (h:wpAny (model prog w) A (eval (.Name id p) env) (fun f s₁=>wpAny (model prog w) A (callWith pos f [] (backTo pos (starEach args env)) []) Q E s₁) E s) :
 wpAny (model prog w) A (eval (.Call (.Name id p) args [] pos) env) Q E s:=wpAny_Call_NameR h
theorem cw_fn {f:Addr} {o:Obj} {fd:FuncData} {pos:Pos} {first:List Value} {args:List (Bool×Sem Value)} {Q:VP} (hK:List.lookup f (hdp.heap_1_39 w.params)=some o) (hd:o.data=.func fd)
 (h:wpAny (model prog w) A (spliced args) (fun vs s₁=>(∃ ρ z Δ,St w ρ z Δ s₁)∧wpAny (model prog w) A (call (.ref f) (first++vs)) Q E s₁) E s)
 (hp:args.any (·.1)=false:=by rfl):wpAny (model prog w) A (callWith pos (.ref f) first args []) Q E s:=by
  refine callWith_function (o:=o) (fd:=fd) ?_
  refine (?_:(wpAny (model prog w) A (evalArgs (.ref f) true args []) (fun x s₁=>∃ vs,x=⟨vs,[]⟩∧(∃ ρ z Δ,St w ρ z Δ s₁)∧wpAny (model prog w) A (call (.ref f) (first++vs)) Q E s₁) E s)→_) (by
   cases args with
   | nil=>
    intro Γ p hΓ
    refine (?_:((∃ ρ z Δ,St w ρ z Δ s)∧wpAny (model prog w) A (call (.ref f) (first++[])) Q E s)→_) (h Γ p hΓ)
    intro hq
    exact PySem.evalArgs_none (Q:=fun x s₁=>∃ vs,x=⟨vs,[]⟩∧(∃ ρ z Δ,St w ρ z Δ s₁)∧wpAny (model prog w) A (call (.ref f) (first++vs)) Q E s₁) ⟨[],rfl,hq⟩ Γ p hΓ
   | cons a r=>
    obtain ⟨b,x⟩:=a
    cases b with
    | true=>simp at hp
    | false=>exact evalArgs_plain (wpAny_mono h (fun vs s₁ q=>⟨vs,rfl,q⟩) fun g g e=>e))
  intro key
  refine wpAny_mono key (fun x s₁ q=>?_) fun g g e=>e
  obtain ⟨vs,rfl,⟨ρ',z',Δ',S⟩,q⟩:=q
  exact ⟨⟨S.K _ _ hK,hd⟩,q⟩
inductive BRel:List (Str×Value)→Loc→Prop where
 | nil:BRel [] []
 | cons {x v a bs m}:a.is v→BRel bs m→BRel ((x,v)::bs) ((x,a)::m)
theorem lookup_append (a b:List (Str×Value)) (x:Str):(a++b).lookup x=match a.lookup x with | some v=>some v | none=>b.lookup x:=by
 induction a with
 | nil=>rfl
 | cons p r ih=>
  obtain ⟨k,v⟩:=p
  simp only [List.cons_append,List.lookup_cons]
  by_cases h:(x == k)=true
  ·simp [h]
  ·refine (?_:((x == k)=false)→_) (by simpa using h)
   intro this
   simp only [this,ih]
theorem lookup_none {a:List (Str×Value)} {x:Str} (h:x ∉ a.map (·.1)):a.lookup x=none:=by
 induction a with
 | nil=>rfl
 | cons p r ih=>
  obtain ⟨k,v⟩:=p
  simp only [List.map_cons,List.mem_cons,not_or] at h
  refine (?_:((x == k)=false)→_) (by simpa using h.1)
  intro this
  simp only [List.lookup_cons,this]
  exact ih h.2
theorem BRel.is:∀ {bs:List (Str×Value)} {m:Loc},BRel bs m→(bs.map (·.1)).Nodup→∀ x,optIs (lk m x) (bs.reverse.lookup x)
 | _,_,.nil,_,x=>rfl
 | _,_,.cons (x:=k) (v:=v) (a:=a) (bs:=bs) (m:=m) ha r,hn,x=>by
  rw [List.map_cons,List.nodup_cons] at hn
  rw [List.reverse_cons,lookup_append]
  unfold lk
  by_cases q:x=k
  ·subst q
   rw [if_pos rfl,lookup_none (by simpa using hn.1)]
   exact ⟨v,by simp [List.lookup_cons],ha⟩
  ·rw [if_neg q]
   have:=r.is hn.2 x
   cases hl:bs.reverse.lookup x with
   | some u=>rw [hl] at this;exact this
   | none=>
    rw [hl] at this
    refine (?_:((x == k)=false)→_) (by simpa using q)
    intro q'
    simp only [List.lookup_cons,q',List.lookup_nil];exact this
noncomputable abbrev retOf (fl:Flow):Value:=match fl with | .ret v=>v | _=>.none
theorem zip_fst_sub:∀ (ns:List Str) (vs:List Value),((ns.zip vs).map (·.1)).Sublist ns
 | [],_=>by simp
 | n::ns,[]=>by simp
 | n::ns,v::vs=>by simpa using (zip_fst_sub ns vs)
theorem cfc {f:Addr} {name qual:Str} {params:Arguments} {body:List Stmt} {scope:Scope} {dV kV doc pm cdv ct oc:Value} {an od:Option Addr} {osl:Array (Option Value)} {args:List Value} {Rs:Result→Shared→Prop}
 (S:St w ρ z Δ s) (ho:List.lookup f (hdp.heap_1_39 w.params)=some ⟨oc,od,.func (fnOf name qual params body scope dV kV doc pm an cdv ct),osl⟩) (hcd:codeIn (hdp.heap_1_39 w.params) cdv qual=true) {n:Nat} (hroom:Room A (n+1))
 (hbind:bindArgs (fnOf name qual params body scope dV kV doc pm an cdv ct) ⟨args,[]⟩=pure ((params.args.map (·.arg)).zip args)) (hloc:∀ x∈params.args.map (·.arg),scope.names.lookup x=some .local) (hm:BRel ((params.args.map (·.arg)).zip args) m) (hnd:(params.args.map (·.arg)).Nodup)
 (h:∀ L s' A' E',Room A' n→St w ρ z ((L,FrO m)::Δ) s'→wpAny (model prog w) A' (execs body (envOf qual scope L f cdv)) (fun fl s''=>Rs (.ok (.ret (retOf fl))) s'') E' s')
 (hco:scope.isCoroutine=false) (hgen:scope.isGenerator=false) (hk:scope.kind=.function) (hcell:∀ x∈scope.names,x.2≠.cell) :
 codeAny (model prog w) A (.call (.ref f) ⟨args,[]⟩) Rs s:=by
  refine (?_:_→_) (zip_fst_sub (params.args.map (·.arg)) args)
  intro hsub
  refine codeAny_call_def (fd:=fnOf name qual params body scope dV kV doc pm an cdv ct) (body:=body) (binds:=(params.args.map (·.arg)).zip args) hroom.d0 (S.K _ _ ho) rfl S.nolim (codeRec_of S.K hcd) rfl (BindsTo.of_eq hbind) hcell (fun x hx=>hloc x.1 (hsub.subset (List.mem_map_of_mem hx))) (fun h₁ hns hk₁=>?_) hco hgen hk
  refine h _ _ _ _ hroom.deeper ?_
  refine (?_:(s.heap.objs.size<h₁.objs.size)→_) (hns.lt)
  intro hnew
  refine S.step (fun a o' g e=>hk₁ _ _ e) (fun p hp=>?_) ?_ (fun p hp=>?_) (Nat.le_of_lt hnew)
  ·rcases List.mem_cons.mp hp with rfl | hp
   ·exact ⟨S.fresh,FrO.of hns fun x a e=>by refine (?_:_→_) (hm.is (hnd.sublist hsub) x);intro this;rw [e] at this;exact this⟩
   ·obtain ⟨h1,o',e⟩:=S.own p hp
    refine (?_:_→_→_) e.1 e.2
    intro e h2
    exact ⟨h1,o',hk₁ _ _ e,h2⟩
  ·rw [List.map_cons,List.nodup_cons]
   refine ⟨fun hm=>?_,S.nd⟩
   obtain ⟨p,hp⟩:=List.mem_map.mp hm
   refine (?_:_→_→_) hp.1 hp.2
   intro hp e
   obtain ⟨_,o',e'⟩:=S.own p hp
   refine (?_:_→_) e'.1
   intro e'
   refine (?_:(p.1=s.heap.objs.size)→_) (e)
   intro e2
   refine (?_:_→_) (Heap.lt_size e')
   intro this
   rw [e2] at this;exact Nat.lt_irrefl _ this
  ·rcases List.mem_cons.mp hp with rfl | hp
   ·exact S.sz
   ·exact S.lo p hp
theorem cf {f:Addr} {name qual:Str} {params:Arguments} {body:List Stmt} {scope:Scope} {dV kV doc pm cdv ct oc:Value} {an od:Option Addr} {osl:Array (Option Value)} {args:List Value} {Q:VP}
 (S:St w ρ z Δ s) (ho:List.lookup f (hdp.heap_1_39 w.params)=some ⟨oc,od,.func (fnOf name qual params body scope dV kV doc pm an cdv ct),osl⟩) (hcd:codeIn (hdp.heap_1_39 w.params) cdv qual=true) {n:Nat} (hroom:Room A (n+1))
 (hbind:bindArgs (fnOf name qual params body scope dV kV doc pm an cdv ct) ⟨args,[]⟩=pure ((params.args.map (·.arg)).zip args)) (hloc:∀ x∈params.args.map (·.arg),scope.names.lookup x=some .local) (hm:BRel ((params.args.map (·.arg)).zip args) m) (hnd:(params.args.map (·.arg)).Nodup)
 (h:∀ L s' A' E',Room A' n→St w ρ z ((L,FrO m)::Δ) s'→wpAny (model prog w) A' (execs body (envOf qual scope L f cdv)) (fun fl s''=>Q (retOf fl) s'') E' s')
 (hco:scope.isCoroutine=false) (hgen:scope.isGenerator=false) (hk:scope.kind=.function) (hcell:∀ x∈scope.names,x.2≠.cell) :
 wpAny (model prog w) A (call (.ref f) args) Q E s:=
  wpAny_call (cfc S ho hcd hroom hbind hloc hm hnd (fun L s' A' E' R' S'=>h L s' A' E' R' S') hco hgen hk hcell)
theorem ListO.isL {l:Addr} {vs:List AV} (h:Has s l (ListO vs)):∃ items,s.heap.IsList l items∧ARel vs items.toList:=by
 obtain ⟨o,e,items,n,rfl,r⟩:=h
 exact ⟨items,⟨_,e,rfl,n,rfl⟩,r⟩
theorem TupO.isT {l:Addr} {vs:List AV} (h:Has s l (TupO vs)):∃ items,IsTup s.heap l items∧ARel vs items.toList:=by
 obtain ⟨o,e,items,n,rfl,r⟩:=h
 exact ⟨items,⟨_,e,rfl,n,rfl⟩,r⟩
theorem ARel.getA {vs:List AV} {items:Array Value} (r:ARel vs items.toList) {i:Nat} {a:AV} (h:vs[i]?=some a):∃ x,items[i]?=some x∧a.is x:=by
 obtain ⟨x,hx⟩:=r.get h
 refine (?_:_→_→_) hx.1 hx.2
 intro hx ha
 exact ⟨x,by simpa using hx,ha⟩
theorem ARel.sizeA {vs:List AV} {items:Array Value} (r:ARel vs items.toList):items.size=vs.length:=by
 rw [← r.length];simp
theorem gi_list {l:Addr} {vs:List AV} {i:Int} {t:Tok} {av:AV} {Q:VP} (h:Has s l (ListO vs)) (h0:0≤i) (hhi:i<2 ^ 63) (hx:vs[i.toNat]?=some av) (k:∀ v,av.is v→Q v s) :
 wpAny (model prog w) A (getItem (.ref l) (.int i t)) Q E s:=by
  obtain ⟨items,hl⟩:=ListO.isL h
  refine (?_:_→_→_) hl.1 hl.2
  intro hl r
  obtain ⟨x,hx⟩:=r.getA hx
  refine (?_:_→_→_) hx.1 hx.2
  intro hx ha
  exact wpAny_getItem_list hl h0 hhi hx (k x ha)
theorem sub_list {value slice:Expr} {l:Addr} {vs:List AV} {i:Int} {t:Tok} {av:AV} {Q:VP} (h:Has s l (ListO vs)) (h0:0≤i) (hhi:i<2 ^ 63) (hx:vs[i.toNat]?=some av) (k:∀ v,av.is v→Q v s)
 (hs:subscripted slice false (.ref l) (.int i t)=operate [.ref l,.int i t] (getItem (.ref l) (.int i t)):=by with_unfolding_all rfl) :
 wpAny (model prog w) A (subscriptTail value slice (.ref l) (.int i t)) Q E s:=by
  obtain ⟨items,hl⟩:=ListO.isL h
  refine (?_:_→_→_) hl.1 hl.2
  intro hl r
  exact tail_any hl.typeIs slot_list_getitem.lookup (gi_list h h0 hhi hx k) hs
theorem sub_tup {value slice:Expr} {l:Addr} {vs:List AV} {i:Int} {j:Nat} {t:Tok} {av:AV} {Q:VP} (h:Has s l (TupO vs)) (hlo:-(2 ^ 63)≤i) (hhi:i<2 ^ 63) (hj:seqIndex? i vs.length=some j) (hx:vs[j]?=some av) (k:∀ v,av.is v→Q v s)
 (hs:subscripted slice false (.ref l) (.int i t)=operate [.ref l,.int i t] (getItem (.ref l) (.int i t)):=by with_unfolding_all rfl) :
 wpAny (model prog w) A (subscriptTail value slice (.ref l) (.int i t)) Q E s:=by
  obtain ⟨items,hl,r⟩:=TupO.isT h
  obtain ⟨x,hx,ha⟩:=r.getA hx
  obtain ⟨items⟩:=items
  exact item_tupleT hl hlo hhi (by rw [show items.length=vs.length from r.length];exact hj) (by simpa using hx) (k x ha) hs
theorem si_list {l:Addr} {vs:List AV} {j:Nat} {i:Int} {t:Tok} {v:Value} {av:AV} {Q:Unit→Shared→Prop} (S:St w ρ z Δ s) (hj:Δ[j]?=some (l,ListO vs)) (h0:0≤i) (hhi:i<2 ^ 63) (hn:i<vs.length) (ha:av.is v)
 (k:∀ s',St w ρ z (Δ.set j (l,ListO (vs.set i.toNat av))) s'→Q () s'):wpAny (model prog w) A (setItem (.ref l) (.int i t) v) Q E s:=by
  obtain ⟨o,e,items,n,rfl,r⟩:=S.at j hj
  refine ki_setAt e h0 hhi (by rw [r.sizeA];exact hn) (k _ (S.upd j hj fun o' e' g=>?_))
  rw [e] at e';cases e'
  refine ⟨⟨items.setIfInBounds i.toNat v,n,by simp [Obj.mapSeq],?_⟩,by simp [Obj.mapSeq,Obj.isFreed]⟩
  rw [Array.toList_setIfInBounds]
  exact r.set _ ha
theorem gm_list {l:Addr} {vs:List AV} {name:Str} {id:String} {pl:Sem Bool} {Q:Value×List Value→Shared→Prop} (h:Has s l (ListO vs)) (slot:Slot "list" name id) (hty:typeOf (.builtin id)=pure (.type "method_descriptor"))
 (k:Q (.builtin id,[.ref l]) s):wpAny (model prog w) A (getMethod (.ref l) name pl) Q E s:=by
  obtain ⟨o,e,items,n,rfl,r⟩:=h
  exact getMethod_builtin ⟨_,e,rfl⟩ PySem.F.plainAttrs_list slot hty (fun a q=>by cases q;exact ⟨_,e,rfl⟩) k
theorem e_callm {o:PySem.Expr} {name:Str} {apos pos:Pos} {args:List PySem.Expr} {Q:VP}
 (h:wpAny (model prog w) A (eval o env) (fun ov s₁=>wpAny (model prog w) A (getMethod ov name (do return (← importBound o env).getD true)) (fun r s₂=>wpAny (model prog w) A (callWith pos r.1 r.2 (backTo pos (starEach args env)) []) Q E s₂) E s₁) E s)
 (hbase:attributeBase o name env (eval o env)=eval o env:=by rfl)
 (hform:methodCallForm (args.length+([]:List Keyword).length) (backTo pos (starEach args env)) (backToKw pos (keywordEach [] env))=true:=by rfl)
 (hline:(apos.endLine == pos.line)=true:=by rfl) :
 wpAny (model prog w) A (eval (.Call (.Attribute o name apos) args [] pos) env) Q E s:=by
  rw [arm_eval_Call,hbase]
  refine wpAny_bind (wpAny_mono h (fun ov s₁ h₁=>?_) fun g g e=>e)
  refine wpAny_bind (wpAny_standAt ?_)
  refine (?_:(methodCallPos true o env apos pos=pure pos)→_) (by unfold methodCallPos;simp [hline])
  intro hpos
  unfold methodCall
  rw [hform]
  refine wpAny_bind (wpAny_holding (wpAny_mono h₁ (fun r s₂ h₂=>?_) fun g g e=>e))
  refine (?_:_→_) (r.1)
  intro f
  refine (?_:_→_) (r.2)
  intro first
  exact wpAny_bind (wpAny_of_eq hpos h₂)
theorem cw_b {id:String} {pos:Pos} {first:List Value} {args:List (Bool×Sem Value)} {Q:VP}
 (h:wpAny (model prog w) A (spliced args) (fun vs s₁=>wpAny (model prog w) A (call (.builtin id) (first++vs)) Q E s₁) E s)
 (hp:args.any (·.1)=false:=by rfl):wpAny (model prog w) A (callWith pos (.builtin id) first args []) Q E s:=by
  refine callWith_builtin hp ?_
  cases args with
  | nil=>
   intro Γ p hΓ
   refine (?_:(wpAny (model prog w) A (call (.builtin id) (first++[])) Q E s)→_) (h Γ p hΓ)
   intro hq
   exact PySem.evalArgs_none (Q:=fun (a:Args) s₁=>wpAny (model prog w) A (call (.builtin id) (first++a.pos) a.kw) Q E s₁) hq Γ p hΓ
  | cons a r=>
   obtain ⟨b,x⟩:=a
   cases b with
   | true=>simp at hp
   | false=>exact evalArgs_plain (wpAny_mono h (fun vs s₁ q=>q) fun g g e=>e)
theorem b_append {l:Addr} {vs:List AV} {j:Nat} {v:Value} {av:AV} {Q:VP} (S:St w ρ z Δ s) (hj:Δ[j]?=some (l,ListO vs)) (ha:av.is v) (hz:vs.length≤1000000)
 (k:∀ s',St w ρ z (Δ.set j (l,ListO (vs++[av]))) s'→Q .none s'):wpAny (model prog w) A (call (.builtin "list.append") [.ref l,v]) Q E s:=by
  obtain ⟨o,e,items,n,rfl,r⟩:=S.at j hj
  refine wpAny_list_append_plain (items:=items) ⟨n,e⟩ (fun h' hl' hs=>k _ ?_) (by rw [r.sizeA,sizeLine_eq];exact ar65 hz)
  obtain ⟨n',e'⟩:=hl'
  refine S.same (t:=s.toks) j hj hs ⟨_,e',_,n',rfl,?_⟩
  rw [Array.toList_push]
  exact r.append (.cons ha .nil)
theorem t_list {l:Addr} {vs:List AV} {Q:Bool→Shared→Prop} (S:St w ρ z Δ s) (h:Has s l (ListO vs)) (hz:vs.length≤1000000) (k:∀ s',St w ρ z Δ s'→Q (!vs.isEmpty) s'):wpAny (model prog w) A (truthy (.ref l)) Q E s:=by
 obtain ⟨items,hl⟩:=ListO.isL h
 refine (?_:_→_→_) hl.1 hl.2
 intro hl r
 refine wpAny_truthy_list hl (by rw [r.sizeA];lia) ?_
 refine (?_:(items.isEmpty=vs.isEmpty)→_) (by
  rw [Bool.eq_iff_iff,Array.isEmpty_iff,List.isEmpty_iff,← Array.size_eq_zero_iff,r.sizeA,List.length_eq_zero_iff])
 intro this
 rw [this];exact k _ S.toks
theorem b_len {l:Addr} {vs:List AV} {Q:VP} (S:St w ρ z Δ s) (h:Has s l (ListO vs)) (hz:vs.length≤1000000) (k:∀ t s',St w ρ z Δ s'→Q (.int vs.length t) s'):wpAny (model prog w) A (call (.builtin "len") [.ref l]) Q E s:=by
 obtain ⟨items,hl⟩:=ListO.isL h
 refine (?_:_→_→_) hl.1 hl.2
 intro hl r
 refine PyProof.Rows.len_list hl (by rw [r.sizeA];omega) ?_
 rw [r.sizeA];exact k _ _ S.toks
theorem sp_nil {Q:List Value→Shared→Prop} (h:Q [] s):wpAny (model prog w) A (spliced (backTo pos (starEach [] env))) Q E s:=spliced_nil h
theorem sp_cons {pos:Pos} {e:PySem.Expr} {rest:List PySem.Expr} {Q:List Value→Shared→Prop}
 (h:wpAny (model prog w) A (eval e env) (fun v s₁=>wpAny (model prog w) A (spliced (backTo pos (starEach rest env))) (fun vs s₂=>Q (v::vs) s₂) E s₁) E s)
 (he:starEach (e::rest) env=(false,eval e env)::starEach rest env:=by rfl):wpAny (model prog w) A (spliced (backTo pos (starEach (e::rest) env))) Q E s:=by
  rw [he];exact spliced_cons h
end
noncomputable def Seal {α:Type} (Q Q':α→Shared→Prop):Prop:=∀ v s,Q v s→Q' v s
theorem anyE {M:Model} {A:Around} {E:VP} {s:Shared} {α:Type} {m:Sem α} {Q:α→Shared→Prop} (h:∀ E',wpAny M A m Q E' s):wpAny M A m Q E s:=h E
section
variable {α:Type}
noncomputable abbrev PL (α:Type):=List (α×Nat)
noncomputable def key (P:PL α) (i:Nat):Nat:=match P[i]? with | some p=>p.2 | none=>0
theorem key_some {P:PL α} {i:Nat} {p:α×Nat} (h:P[i]?=some p):key P i=p.2:=by unfold key;rw [h]
theorem key_set {P:PL α} {i j:Nat} {p:α×Nat} (hi:i<P.length):key (P.set i p) j=if j=i then p.2 else key P j:=by
 unfold key
 rw [List.getElem?_set]
 by_cases h:i=j
 ·subst h;simp [hi]
 ·rw [if_neg h,if_neg (fun e=>h e.symm)]
noncomputable def Heap' (P:PL α):Prop:=∀ i,0<i→i<P.length→key P ((i - 1) / 2)≤key P i
theorem Heap'.min {P:PL α} (h:Heap' P):∀ i,i<P.length→key P 0≤key P i:=by
 intro i
 induction i using Nat.strongRecOn with
 | ind i ih=>
  intro hi
  by_cases h0:i=0
  ·subst h0;exact Nat.le_refl _
  ·refine (?_:_→_) (h i (by exact ar39 h0) hi)
   intro h1
   refine (?_:_→_) (ih ((i - 1) / 2) (by exact ar57 h0) (by exact ar207 hi))
   intro h2
   exact ar63 h2 h1
theorem set_swap_perm {P:PL α} {i j:Nat} {a b:α×Nat} (hi:i<P.length) (hij:i≠j) (hj:P[j]?=some a):((P.set i a).set j b).Perm (P.set i b):=by
 have hjl:j<P.length:=(List.getElem?_eq_some_iff.mp hj).1
 refine (?_:(P[j]=a)→_) ((List.getElem?_eq_some_iff.mp hj).2)
 intro hja
 let xs:Array (α×Nat):=(P.set i b).toArray
 have h1:i<xs.size:=by simp [xs,hi]
 have h2:j<xs.size:=by simp [xs,hjl]
 refine (?_:_→_) (Array.swap_perm (xs:=xs) h1 h2)
 intro p
 have p':=Array.perm_iff_toList_perm.mp p
 refine (?_:((xs.swap i j h1 h2).toList=(P.set i a).set j b)→_) (by
  apply List.ext_getElem
  ·simp [xs]
  ·intro k hk1 hk2
   simp only [xs,Array.getElem_toList,Array.getElem_swap,List.getElem_toArray,List.getElem_set]
   by_cases e1:k=i
   ·subst e1
    simp [hij,hja,Ne.symm hij]
   ·by_cases e2:k=j
    ·subst e2;simp [e1]
    ·simp [e1,e2,Ne.symm e1,Ne.symm e2])
 intro e
 rw [e] at p'
 exact p'
structure Hole (P:PL α) (pos:Nat):Prop where
 lt:pos<P.length
 off:∀ i,0<i→i<P.length→i≠pos→(i - 1) / 2≠pos→key P ((i - 1) / 2)≤key P i
 gp:0<pos→∀ c,0<c→c<P.length→(c - 1) / 2=pos→key P ((pos - 1) / 2)≤key P c
theorem Hole.down {P:PL α} {pos:Nat} {new:α×Nat} (h:Hole P pos) (hb:∀ c,0<c→c<P.length→(c - 1) / 2=pos→new.2≤key P c) (h0:0<pos) {pa:α×Nat} (hp:P[(pos - 1) / 2]?=some pa) (hl:new.2<pa.2) :
 Hole (P.set pos pa) ((pos - 1) / 2)∧(∀ c,0<c→c<(P.set pos pa).length→(c - 1) / 2=(pos - 1) / 2→new.2≤key (P.set pos pa) c)∧((P.set pos pa).set ((pos - 1) / 2) new).Perm (P.set pos new):=by
  refine (?_:_→_) (key_some hp)
  intro hk
  have hpl:(pos - 1) / 2<P.length:=(List.getElem?_eq_some_iff.mp hp).1
  refine (?_:_→_) (h.lt)
  intro hlt
  refine ⟨⟨by simpa using hpl,fun i hi hil hi1 hi2=>?_,fun hpp c hc hcl hc1=>?_⟩,fun c hc hcl hc1=>?_,set_swap_perm hlt (by exact ar182 h0) hp⟩
  ·rw [List.length_set] at hil
   rw [key_set hlt,key_set hlt]
   by_cases e1:(i - 1) / 2=pos
   ·rw [if_pos e1,if_neg (by exact ar393 e1 hi2)]
    refine (?_:_→_) (h.gp h0 i hi hil e1)
    intro this
    exact ar64 hk this
   ·rw [if_neg e1]
    by_cases e2:i=pos
    ·subst e2;exact absurd rfl hi2
    ·rw [if_neg e2];exact h.off i hi hil e2 e1
  ·rw [List.length_set] at hcl
   refine (?_:(key P (((pos - 1) / 2 - 1) / 2)≤key P ((pos - 1) / 2))→_) (h.off _ hpp hpl (by exact ar180 h0) (by exact ar378 hpp h0))
   intro h1
   rw [key_set hlt,key_set hlt,if_neg (by exact ar384 hpp h0)]
   by_cases e:c=pos
   ·rw [if_pos e];exact ar62 h1 hk
   ·rw [if_neg e]
    refine (?_:_→_) (h.off c hc hcl e (by exact ar91 hc1 h0))
    intro this
    rw [hc1] at this
    exact ar296 h1 hk this
  ·rw [List.length_set] at hcl
   rw [key_set hlt]
   by_cases e:c=pos
   ·rw [if_pos e];exact ar41 hl
   ·rw [if_neg e]
    refine (?_:_→_) (h.off c hc hcl e (by exact ar91 hc1 h0))
    intro this
    rw [hc1] at this
    exact ar293 hl hk this
theorem Hole.fill {P:PL α} {pos:Nat} {new:α×Nat} (h:Hole P pos) (hb:∀ c,0<c→c<P.length→(c - 1) / 2=pos→new.2≤key P c) (hp:pos=0∨key P ((pos - 1) / 2)≤new.2):Heap' (P.set pos new):=by
 intro i hi hil
 rw [List.length_set] at hil
 rw [key_set h.lt,key_set h.lt]
 by_cases e1:i=pos
 ·subst e1
  rw [if_neg (by exact ar56 hi),if_pos rfl]
  rcases hp with hp | hp <;> omega
 ·rw [if_neg e1]
  by_cases e2:(i - 1) / 2=pos
  ·rw [if_pos e2];exact hb i hi hil e2
  ·rw [if_neg e2];exact h.off i hi hil e1 e2
theorem Hole.up {P:PL α} {pos c:Nat} {new x:α×Nat} (h:Hole P pos) (hc:c=2 * pos+1∨c=2 * pos+2) (hx:P[c]?=some x) (hmin:∀ d,0<d→d<P.length→(d - 1) / 2=pos→x.2≤key P d) :
 Hole (P.set pos x) c∧((P.set pos x).set c new).Perm (P.set pos new):=by
  refine (?_:_→_) (key_some hx)
  intro hk
  have hcl:c<P.length:=(List.getElem?_eq_some_iff.mp hx).1
  refine (?_:_→_) (h.lt)
  intro hlt
  refine (?_:((c - 1) / 2=pos)→_) (by exact ar366 hc)
  intro hcp
  refine ⟨⟨by simpa using hcl,fun i hi hil hi1 hi2=>?_,fun f d hd hdl hd1=>?_⟩,set_swap_perm hlt (by exact ar399 hcp hc) hx⟩
  ·rw [List.length_set] at hil
   rw [key_set hlt,key_set hlt]
   by_cases e1:(i - 1) / 2=pos
   ·rw [if_pos e1,if_neg (by exact ar283 e1 hi)]
    exact hmin i hi hil e1
   ·rw [if_neg e1]
    by_cases e2:i=pos
    ·subst e2
     rw [if_pos rfl]
     refine (?_:_→_) (h.gp hi c (by exact ar272 hcp hi) hcl hcp)
     intro this
     exact ar62 this hk
    ·rw [if_neg e2];exact h.off i hi hil e2 e1
  ·rw [List.length_set] at hdl
   rw [key_set hlt,key_set hlt,hcp,if_pos rfl,if_neg (by exact ar414 hd1 hd hc)]
   refine (?_:_→_) (h.off d hd hdl (by exact ar412 hd1 hd hc) (by exact ar417 hd1 hc))
   intro this
   rw [hd1] at this
   exact ar64 hk this
theorem Hole.top {P:PL α} {x:α×Nat} (h:Heap' P) (hn:0<P.length):Hole (P.set 0 x) 0:=by
 refine ⟨by simpa using hn,fun i hi hil f hi2=>?_,fun h0=>absurd h0 (Nat.lt_irrefl _)⟩
 rw [List.length_set] at hil
 rw [key_set hn,key_set hn,if_neg hi2,if_neg (by omega)]
 exact h i hi hil
theorem Hole.set {P:PL α} {pos:Nat} {x:α×Nat} (h:Hole P pos):Hole (P.set pos x) pos:=by
 refine (?_:_→_) (h.lt)
 intro hlt
 refine ⟨by simpa using hlt,fun i hi hil hi1 hi2=>?_,fun h0 c hc hcl hc1=>?_⟩
 ·rw [List.length_set] at hil
  rw [key_set hlt,key_set hlt,if_neg hi2,if_neg hi1]
  exact h.off i hi hil hi1 hi2
 ·rw [List.length_set] at hcl
  rw [key_set hlt,key_set hlt,if_neg (by exact ar56 h0),if_neg (by exact ar284 hc1 h0)]
  exact h.gp h0 c hc hcl hc1
theorem Heap'.dropLast {P:PL α} {x:α×Nat} (h:Heap' (P++[x])):Heap' P:=by
 intro i hi hil
 refine (?_:_→_) (h i hi (by simp;exact ar4 hil))
 intro this
 unfold key at this ⊢
 rw [List.getElem?_append_left (by exact ar75 hi hil),List.getElem?_append_left hil] at this
 exact this
theorem Hole.push {P:PL α} {x:α×Nat} (h:Heap' P):Hole (P++[x]) P.length:=by
 refine ⟨by simp,fun i hi hil hi1 hi2=>?_,fun f c hc hcl hc1=>?_⟩
 ·have hil':i<P.length:=by simp at hil;exact ar231 hil hi1
  refine (?_:_→_) (h i hi hil')
  intro this
  unfold key at this ⊢
  rw [List.getElem?_append_left (by exact ar379 hi2 hi hil'),List.getElem?_append_left hil']
  exact this
 ·simp at hcl;exact ar401 hc1 f hc hcl
end
noncomputable abbrev PG:Program:=PySem.Challenge.rw_ir0007_01.row.prog
section
variable {prog:Program} {w:World} {A:Around} {E:VP} {s:Shared} {ρ:Rest} {z:Z} {Δ:Ds} {env:Env} {L:Addr} {m:Loc}
theorem wwhile {test:PySem.Expr} {body:List Stmt} {pos:Pos} {Q:Flow→Shared→Prop} (I:Nat→Shared→Prop) (n:Nat) (h0:I n s)
 (turn:∀ n s,I n s→∀ E' Qb,Seal (fun f s₃=>match f with | .next | .cont=>∃ m,m<n∧I m s₃ | .brk=>Q .next s₃ | .ret v=>Q (.ret v) s₃) Qb→wpAny (model prog w) A (isTrue test env (eval test env)) (fun b s₂=>if b then wpAny (model prog w) A (execs body env) Qb E' s₂ else Q .next s₂) E' s) :
 wpAny (model prog w) A (exec (.While test body [] pos) env) Q E s:=by
  refine wpAny_While (codeAny_whileLoop I (fun n s hI=>?_) n h0)
  refine wpAny_mono (turn n s hI _ _ fun c c h=>h) (fun b s₂ h₂=>?_) fun c c e=>e
  cases b with
  | false=>exact wpAny_execs_nil h₂
  | true=>
   simp only [if_true] at h₂ ⊢
   exact wpAny_mono h₂ (fun f s₃ h₃=>by cases f <;> exact h₃) fun c c e=>e
noncomputable def LtR (w:World) (ρ:Rest) (z:Z) (K:AV→Nat→Prop):Prop:=∀ {A:Around} {E:VP} {s:Shared} {Δ:Ds} {Q:VP} {a b:AV} {ka kb:Nat} {x y:Value},
 St w ρ z Δ s→Room A 0→K a ka→K b kb→a.is x→b.is y→(∀ s',St w ρ z Δ s'→Q (.bool (decide (ka<kb))) s')→wpAny (model PG w) A (compareOp .Lt x y) Q E s
noncomputable abbrev fsts (P:PL AV):List AV:=P.map (·.1)
theorem fsts_get {P:PL AV} {i:Nat} {p:AV×Nat} (h:P[i]?=some p):(fsts P)[i]?=some p.1:=by simp [fsts,h]
theorem fsts_set (P:PL AV) (i:Nat) (p:AV×Nat):(fsts P).set i p.1=fsts (P.set i p):=by simp [fsts,List.map_set]
end
theorem set_self {α:Type} {l:List α} {i:Nat} {a:α} (h:l[i]?=some a):l.set i a=l:=X.set_same h
inductive PR {α:Type} (R:α→Value→Prop):List α→List Value→Prop where
 | nil:PR R [] []
 | cons {a v as vs}:R a v→PR R as vs→PR R (a::as) (v::vs)
theorem PR.len {α:Type} {R:α→Value→Prop} {as vs} (h:PR R as vs):vs.length=as.length:=by
 induction h with
 | nil=>rfl
 | cons h t ih=>exact congrArg Nat.succ ih
theorem PR.drop1 {α:Type} {R:α→Value→Prop}:∀ {as vs} {i:Nat} {a:α} {r:List α},PR R as vs→as.drop i=a::r→∃ v,vs[i]?=some v∧R a v∧as.drop (i+1)=r:=by
 intro as vs i a r h
 induction h generalizing i with
 | nil=>intro e;cases i <;> cases e
 | cons h t ih=>
  intro e
  cases i with
  | zero=>cases e;exact ⟨_,rfl,h,rfl⟩
  | succ i=>exact ih e
theorem PR.drop0 {α:Type} {R:α→Value→Prop} {as:List α} {vs:List Value} {i:Nat} (h:PR R as vs) (e:as.drop i=[]):vs[i]?=none:=by
 rw [List.getElem?_eq_none_iff,h.len];simpa using e
theorem ARel.pr:∀ {as vs},ARel as vs→PR AV.is as vs
 | _,_,.nil=>.nil
 | _,_,.cons h t=>.cons h t.pr
theorem ARel.prOf {α:Type} {R:α→Value→Prop} {g:α→AV} (hg:∀ a v,(g a).is v→R a v):∀ {as:List α} {vs},ARel (as.map g) vs→PR R as vs:=by
 intro as
 induction as with
 | nil=>intro vs h;obtain _ | _:=h;exact .nil
 | cons a as ih=>intro vs h;obtain _ | ⟨h,t⟩:=h;exact .cons (hg _ _ h) (ih t)
section
variable {w:World} {ρ:Rest} {z:Z} {Δ X:Ds} {s:Shared} {L:Addr} {m:Loc}
theorem set_mid {α:Type} (Δ:List α) (x y:α) (X:List α):(Δ++x::X).set Δ.length y=Δ++y::X:=by
 induction Δ with
 | nil=>rfl
 | cons a r ih=>simp [ih]
theorem St.mid {a:Addr} {P P':OP} {h':Heap} {t:Nat} {F:Addr×OP} (S:St w ρ z (F::(Δ++(a,P)::X)) s) (hs:Heap.SameBut a s.heap h') (hP:∃ o,h'.get? a=some o∧P' o) :
 St w ρ z (F::(Δ++(a,P')::X)) { s with heap:=h',toks:=t }:=by
  refine (?_:_→_) (S.same (P':=P') (t:=t) (Δ.length+1) (a:=a) (P:=P) (by simp) hs hP)
  intro this
  rwa [List.set_cons_succ,set_mid] at this
theorem St.midAt {a:Addr} {P:OP} {F:Addr×OP} (S:St w ρ z (F::(Δ++(a,P)::X)) s):Has s a P:=S.at (Δ.length+1) (by simp)
theorem St.midGo {a:Addr} {P:OP} {h':Heap} {t:Nat} {F:Addr×OP} (S:St w ρ z (F::(Δ++(a,P)::X)) s) (hs:Heap.ExtBut a s.heap h') :
 St w ρ z (F::(Δ++X)) { s with heap:=h',toks:=t }:=by
  have hsub:(F::(Δ++X)).Sublist (F::(Δ++(a,P)::X)):=((List.sublist_cons_self _ _).append_left _).cons_cons _
  refine (?_:(z a=none)→_) ((S.own (a,P) (by simp)).1)
  intro za
  refine (?_:_→_) (S.nd)
  intro hnd
  have hnot:∀ p∈F::(Δ++X),p.1≠a:=by
   intro p hp q
   refine (?_:(((a,P)::F::(Δ++X)).Perm (F::(Δ++(a,P)::X)))→_) (by
    refine (List.Perm.swap ..).trans (List.Perm.cons _ ?_)
    exact List.perm_middle.symm)
   intro h2
   refine (?_:_→_) (((h2.map (·.1)).nodup_iff).mpr hnd)
   intro h3
   rw [List.map_cons,List.nodup_cons] at h3
   exact h3.1 (List.mem_map.mpr ⟨p,hp,q⟩)
  have hown:∀ p∈F::(Δ++X),z p.1=none∧∃ o,h'.get? p.1=some o∧p.2 o:=fun p hp=>by
   refine (let Gl:Prop:=_;(?_:Gl))
   obtain ⟨h1,o,e⟩:=S.own p (hsub.subset hp)
   refine (?_:_→_→_) e.1 e.2
   intro e h2
   exact ⟨h1,o,hs _ _ (hnot p hp) e,h2⟩
  refine ⟨S.wf,fun b o e=>hs b o (fun q=>by subst q;rw [za] at e;cases e) (S.fr _ _ e),hown,hnd.sublist (hsub.map _),fun p hp=>S.lo p (hsub.subset hp),?_,S.g,S.d,S.os⟩
  refine (let Gl:Prop:=_;(?_:Gl))
  obtain ⟨_,o,e⟩:=hown F (.head _)
  refine (?_:_→_) e.1
  intro e
  exact Nat.le_trans (S.lo F (.head _)) (Nat.le_of_lt (Heap.lt_size e))
end
structure Nx (w:World) (ρ:Rest) (z:Z) (it:Value) {α:Type} (rel:α→Value→Prop) (J:List α→Ds) (X:Ds):Prop where
 next:∀ {A:Around} {E:VP} {s:Shared} {z':Z} {Δ:Ds} {F:Addr×OP} {a:α} {r:List α} {Q:Option Value→Shared→Prop},Sub z z'→Room A 0→St w ρ z' (F::(Δ++J (a::r))) s →
  (∀ v s',rel a v→St w ρ z' (F::(Δ++J r)) s'→Q (some v) s')→wpAny (model PG w) A (pyNext it) Q E s
 stop:∀ {A:Around} {E:VP} {s:Shared} {z':Z} {Δ:Ds} {F:Addr×OP} {Q:Option Value→Shared→Prop},Sub z z'→Room A 0→St w ρ z' (F::(Δ++J [])) s →
  (∀ s',St w ρ z' (F::(Δ++X)) s'→Q none s')→wpAny (model PG w) A (pyNext it) Q E s
 self:∀ {A:Around} {E:VP} {s:Shared} {z':Z} {Δ:Ds} {F:Addr×OP} {r:List α} {Q:VP},Sub z z'→St w ρ z' (F::(Δ++J r)) s→Q it s→wpAny (model PG w) A (pyIter it) Q E s
 go:∀ {A:Around} {E:VP} {s:Shared} {z':Z} {Δ:Ds} {F:Addr×OP} {r:List α} {t:PySem.Expr} {v:Value} {Q:Unit→Shared→Prop},Sub z z'→St w ρ z' (F::(Δ++J r)) s→Q () s→wpAny (model PG w) A (letOwnedTupleGo t it v) Q E s
set_option tactic.hygienic true in
theorem go_of {w:World} {A:Around} {E:VP} {s:Shared} {it:Addr} {o:Obj} {c:String} {t:PySem.Expr} {v:Value} {Q:Unit→Shared→Prop} (ho:s.heap.get? it=some o) (hc:o.cls=.type c)
 (hn:["enumerate","zip","dict_itemiterator","dict_reverseitemiterator","odict_iterator","itertools.zip_longest","itertools.pairwise"].contains c=false) (h:Q () s):wpAny (model PG w) A (letOwnedTupleGo t (.ref it) v) Q E s:=by
  have key:∀ a,wpAny (model PG w) A (do
   let o ← load it
   match o.cls,o.data with
   | .type n,.fields vs=>if ["enumerate","zip","dict_itemiterator","dict_reverseitemiterator","odict_iterator","itertools.zip_longest","itertools.pairwise"].contains n && vs[0]? == some (rawInt a) then (do rule "for.unpacks-the-owned-tuple";updateField it 0 .none) else pure ()
   | _,_=>pure ()) Q E s:=fun a=>by
   refine wpAny_bind (wpAny_load ho ?_)
   rw [hc]
   split
   ·rename_i n vs e1 e2
    cases e1
    rw [hn]
    simp only [Bool.false_and,Bool.false_eq_true,if_false]
    exact wpAny_pure h
   ·exact wpAny_pure h
  cases t <;> first | exact wpAny_pure h | (cases v <;> first | exact wpAny_pure h | exact key _)
noncomputable def LItO {α:Type} (l:Addr) (items r:List α):OP:=fun o=>∃ i:Nat,o.cls=.type "list_iterator"∧o.data=.fields #[.ref l,.int i 0]∧items.drop i=r
section
variable {w:World} {ρ:Rest} {z:Z}
theorem Nx.list {α:Type} {rel:α→Value→Prop} {l it:Addr} {items:List α} {X:Ds}
 (hl:∀ {z' Δ F s},Sub z z'→St w ρ z' (F::(Δ++X)) s→∃ arr,s.heap.IsList l arr∧PR rel items arr.toList):Nx w ρ z (.ref it) rel (fun r=>(it,LItO l items r)::X) X where
  next:=fun {A E s z' Δ F a r Q} hz R S h=>by
   refine (let Gl:Prop:=_;(?_:Gl))
   obtain ⟨o,e,i,hc⟩:=S.midAt
   refine (?_:_→_→_→_) hc.1 hc.2.1 hc.2.2
   intro hc hd hi
   obtain ⟨arr,ha⟩:=hl (Δ:=Δ++[(it,LItO l items (a::r))]) hz (by simpa using S)
   refine (?_:_→_→_) ha.1 ha.2
   intro ha hr
   obtain ⟨v,h1⟩:=hr.drop1 hi
   refine (?_:_→_→_→_) h1.1 h1.2.1 h1.2.2
   intro h1 h2 h3
   refine wpAny_pyNext_list_item ⟨o,e,hc,hd⟩ ha (by simpa using h1) fun h' hit hs=>h v _ h2 (St.mid (t:=s.toks) S hs ?_)
   obtain ⟨o',e'⟩:=hit
   refine (?_:_→_→_→_) e'.1 e'.2.1 e'.2.2
   intro e' hc' hd'
   exact ⟨o',e',i+1,hc',hd',h3⟩
  stop:=fun {A E s z' Δ F Q} hz R S h=>by
   refine (let Gl:Prop:=_;(?_:Gl))
   obtain ⟨o,e,i,hc⟩:=S.midAt
   refine (?_:_→_→_→_) hc.1 hc.2.1 hc.2.2
   intro hc hd hi
   obtain ⟨arr,ha⟩:=hl (Δ:=Δ++[(it,LItO l items [])]) hz (by simpa using S)
   refine (?_:_→_→_) ha.1 ha.2
   intro ha hr
   refine wpAny_pyNext_list_end R.hd ⟨o,e,hc,hd⟩ ha (by simpa using hr.drop0 hi) fun h' hs=>h _ (St.midGo (t:=s.toks) S hs)
  self:=fun {A E s z' Δ F r Q} hz S h=>by
   refine (let Gl:Prop:=_;(?_:Gl))
   obtain ⟨o,e,i,hc⟩:=S.midAt
   refine (?_:_→_→_→_) hc.1 hc.2.1 hc.2.2
   intro hc hd hi
   exact wpAny_pyIter_listiter ⟨o,e,hc,hd⟩ h
  go:=fun {A E s z' Δ F r t v Q} hz S h=>by
   refine (let Gl:Prop:=_;(?_:Gl))
   obtain ⟨o,e,i,hc⟩:=S.midAt
   refine (?_:_→_→_→_) hc.1 hc.2.1 hc.2.2
   intro hc hd hi
   exact go_of e hc (by decide) h
theorem Fz.lst {l:Addr} {vs:List AV} {α:Type} {rel:α→Value→Prop} {items:List α} (h:Fz z l (ListO vs)) (hp:∀ arr,ARel vs arr→PR rel items arr) {z':Z} {Δ:Ds} {s:Shared} (hz:Sub z z') (S:St w ρ z' Δ s):∃ arr,s.heap.IsList l arr∧PR rel items arr.toList:=by
 refine (let Gl:Prop:=_;(?_:Gl))
 obtain ⟨arr,h1⟩:=ListO.isL (S.fz (h.mono hz))
 refine (?_:_→_→_) h1.1 h1.2
 intro h1 h2
 exact ⟨arr,h1,hp _ h2⟩
theorem own_lst {l:Addr} {vs:List AV} {α:Type} {rel:α→Value→Prop} {items:List α} (hp:∀ arr,ARel vs arr→PR rel items arr) {z':Z} {Δ X:Ds} {F:Addr×OP} {s:Shared} (S:St w ρ z' (F::(Δ++(l,ListO vs)::X)) s):∃ arr,s.heap.IsList l arr∧PR rel items arr.toList:=by
 refine (let Gl:Prop:=_;(?_:Gl))
 obtain ⟨arr,h1⟩:=ListO.isL S.midAt
 refine (?_:_→_→_) h1.1 h1.2
 intro h1 h2
 exact ⟨arr,h1,hp _ h2⟩
noncomputable def TItO {α:Type} (l:Addr) (items r:List α):OP:=fun o=>∃ i:Nat,o.cls=.type "tuple_iterator"∧o.data=.fields #[.ref l,.int i 0]∧items.drop i=r
theorem Nx.tup {α:Type} {rel:α→Value→Prop} {l it:Addr} {items:List α} {X:Ds} {vs:List AV} (hf:Fz z l (TupO vs)) (hp:∀ arr,ARel vs arr→PR rel items arr):Nx w ρ z (.ref it) rel (fun r=>(it,TItO l items r)::X) X where
 next:=fun {A E s z' Δ F a r Q} hz R S h=>by
  refine (let Gl:Prop:=_;(?_:Gl))
  obtain ⟨o,e,i,hc⟩:=S.midAt
  refine (?_:_→_→_→_) hc.1 hc.2.1 hc.2.2
  intro hc hd hi
  obtain ⟨arr,ha,hr⟩:=TupO.isT (S.fz (hf.mono hz))
  obtain ⟨ot,eo,c1,n,c2⟩:=ha
  obtain ⟨v,h1⟩:=(hp _ hr).drop1 hi
  refine (?_:_→_→_→_) h1.1 h1.2.1 h1.2.2
  intro h1 h2 h3
  refine wpAny_pyNext_tuple_item ⟨o,e,hc,hd⟩ ⟨ot,eo,c1,n,c2⟩ (by simpa using h1) fun h' hit hs=>h v _ h2 (St.mid (t:=s.toks) S hs ?_)
  obtain ⟨o',e'⟩:=hit
  refine (?_:_→_→_→_) e'.1 e'.2.1 e'.2.2
  intro e' hc' hd'
  exact ⟨o',e',i+1,hc',hd',h3⟩
 stop:=fun {A E s z' Δ F Q} hz R S h=>by
  refine (let Gl:Prop:=_;(?_:Gl))
  obtain ⟨o,e,i,hc⟩:=S.midAt
  refine (?_:_→_→_→_) hc.1 hc.2.1 hc.2.2
  intro hc hd hi
  obtain ⟨arr,ha,hr⟩:=TupO.isT (S.fz (hf.mono hz))
  obtain ⟨ot,eo,c1,n,c2⟩:=ha
  refine wpAny_pyNext_tuple_end R.hd ⟨o,e,hc,hd⟩ ⟨ot,eo,c1,n,c2⟩ (by simpa using (hp _ hr).drop0 hi) fun h' hs=>h _ (St.midGo (t:=s.toks) S hs)
 self:=fun {A E s z' Δ F r Q} hz S h=>by
  refine (let Gl:Prop:=_;(?_:Gl))
  obtain ⟨o,e,i,hc⟩:=S.midAt
  refine (?_:_→_→_→_) hc.1 hc.2.1 hc.2.2
  intro hc hd hi
  exact wpAny_pyIter_tupleiter ⟨o,e,hc,hd⟩ h
 go:=fun {A E s z' Δ F r t v Q} hz S h=>by
  refine (let Gl:Prop:=_;(?_:Gl))
  obtain ⟨o,e,i,hc⟩:=S.midAt
  refine (?_:_→_→_→_) hc.1 hc.2.1 hc.2.2
  intro hc hd hi
  exact go_of e hc (by decide) h
noncomputable def SItO (x:Str) (r:List Str):OP:=fun o=>∃ (i:Nat) (t:Tok),o.cls=.type "str_ascii_iterator"∧o.data=.fields #[.str x t,.int i 0]∧(x.cps.toList.map fun c=>(⟨#[c]⟩:Str)).drop i=r
theorem drop_map1 {α β:Type} {f:α→β}:∀ {l:List α} {i:Nat} {b:β} {r:List β},(l.map f).drop i=b::r→∃ a,l[i]?=some a∧f a=b∧(l.map f).drop (i+1)=r:=by
 intro l
 induction l with
 | nil=>intro i b r e;cases i <;> cases e
 | cons a l ih=>
  intro i b r e
  cases i with
  | zero=>cases e;exact ⟨a,rfl,rfl,rfl⟩
  | succ i=>exact ih e
theorem Nx.str {x:Str} {it:Addr} {X:Ds}:Nx w ρ z (.ref it) (fun (c:Str) v=>∃ t,v=.str c t) (fun r=>(it,SItO x r)::X) X where
 next:=fun {A E s z' Δ F a r Q} hz R S h=>by
  refine (let Gl:Prop:=_;(?_:Gl))
  obtain ⟨o,e,i,t,hc,hd,hi⟩:=S.midAt
  obtain ⟨c,h1,h2,h3⟩:=drop_map1 hi
  subst h2
  refine wpAny_pyNext_ascii_item (x:=x) (t:=t) (i:=i) (c:=c) ⟨o,e,hc,hd⟩ (by simpa using h1) fun h' hit hs=>h _ _ ⟨_,rfl⟩ (St.mid S hs ?_)
  obtain ⟨o',e'⟩:=hit
  refine (?_:_→_→_→_) e'.1 e'.2.1 e'.2.2
  intro e' hc' hd'
  exact ⟨o',e',i+1,t,hc',hd',h3⟩
 stop:=fun {A E s z' Δ F Q} hz R S h=>by
  refine (let Gl:Prop:=_;(?_:Gl))
  obtain ⟨o,e,i,t,hc,hd,hi⟩:=S.midAt
  refine wpAny_pyNext_ascii_end (x:=x) (t:=t) (i:=i) R.hd ⟨o,e,hc,hd⟩ ?_ fun h' hs=>h _ (St.midGo (t:=s.toks) S hs)
  rw [Array.getElem?_eq_none_iff];simpa using hi
 self:=fun {A E s z' Δ F r Q} hz S h=>by
  refine (let Gl:Prop:=_;(?_:Gl))
  obtain ⟨o,e,i,t,hc,hd,hi⟩:=S.midAt
  exact wpAny_pyIter_striter_ascii ⟨o,e,hc,hd⟩ h
 go:=fun {A E s z' Δ F r t v Q} hz S h=>by
  refine (let Gl:Prop:=_;(?_:Gl))
  obtain ⟨o,e,i,t,hc,hd,hi⟩:=S.midAt
  exact go_of e hc (by decide) h
end
structure Asg (w:World) (ρ:Rest) (z:Z) (env:Env) (t:PySem.Expr) {α:Type} (rel:α→Value→Prop) (up:α→Loc→Loc):Prop where
 asg:∀ {A:Around} {E:VP} {s:Shared} {z':Z} {Δ:Ds} {L:Addr} {m:Loc} {a:α} {v:Value} {Q:Unit→Shared→Prop},Sub z z'→Room A 0→rel a v→env.locals=L→St w ρ z' ((L,FrO m)::Δ) s →
  (∀ s',St w ρ z' ((L,FrO (up a m))::Δ) s'→Q () s')→wpAny (model PG w) A (assign t env v) Q E s
noncomputable def setls:Loc→List Str→List AV→Loc
 | m,x::xs,a::as=>setls (setl m x a) xs as
 | m,_,_=>m
section
variable {w:World} {ρ:Rest} {z:Z} {env:Env} {A:Around} {E:VP} {s:Shared} {Δ X:Ds} {L:Addr} {m:Loc}
theorem Asg.name {α:Type} {rel:α→Value→Prop} {x:Str} {pos:Pos} (g:α→AV) (hg:∀ a v,rel a v→(g a).is v) (hl:env.kindOf x=some .local) (hk:env.scope.kind=.function) :
 Asg w ρ z env (.Name x pos) rel (fun a m=>setl m x (g a)):=
  ⟨fun hz R hr hL S h=>wpAny_assign_Name (storeL S hL hl (by rw [hk];rfl) (hg _ _ hr) h)⟩
theorem asg_names {ns:List (Str×Pos)}:∀ {vs:List AV} {xs:List Value} {m:Loc} {s:Shared} {E:VP} {Q:Unit→Shared→Prop},(∀ p∈ns,env.kindOf p.1=some .local)→env.scope.kind=.function→ARel vs xs→ns.length=vs.length→env.locals=L→St w ρ z ((L,FrO m)::Δ) s →
 (∀ s',St w ρ z ((L,FrO (setls m (ns.map (·.1)) vs))::Δ) s'→Q () s')→wpAny (model PG w) A (assignInOrder (ns.map fun p=>assign (.Name p.1 p.2) env) xs) Q E s:=by
  induction ns with
  | nil=>
   intro vs xs m s E Q hl hk hr hn hL S h
   cases hr with
   | nil=>exact wpAny_assignInOrder_none (h _ S)
   | cons _ _=>simp at hn
  | cons p ns ih=>
   intro vs xs m s E Q hl hk hr hn hL S h
   cases hr with
   | nil=>simp at hn
   | cons ha hr=>
    refine wpAny_assignInOrder_more (wpAny_assign_Name (storeL S hL (hl p (.head _)) (by rw [hk];rfl) ha fun s' S'=>?_))
    exact ih (fun q hq=>hl q (.tail _ hq)) hk hr (by simpa using hn) hL S' h
theorem asg_tup {elts:List PySem.Expr} {x1} {pos:Pos} {ns:List (Str×Pos)} {vs:List AV} {q:Addr} {Q:Unit→Shared→Prop} (S:St w ρ z ((L,FrO m)::Δ) s) (R:Room A 0) (hq:Has s q (TupO vs)) (hel:(assignEach elts env).map (·.2)=ns.map fun p=>assign (.Name p.1 p.2) env)
 (hst:(assignEach elts env).findIdx? (·.1)=none) (hn:ns.length=vs.length) (hl:∀ p∈ns,env.kindOf p.1=some .local) (hk:env.scope.kind=.function) (hL:env.locals=L)
 (h:∀ s',St w ρ z ((L,FrO (setls m (ns.map (·.1)) vs))::Δ) s'→Q () s'):wpAny (model PG w) A (assign (.Tuple elts x1 pos) env (.ref q)) Q E s:=by
  refine (let Gl:Prop:=_;(?_:Gl))
  obtain ⟨arr,⟨o,e,c1,n,c2⟩,hr⟩:=TupO.isT hq
  refine (?_:((assignEach elts env).length=ns.length)→_) (by refine (?_:_→_) (congrArg List.length hel);intro this;simpa using this)
  intro hlen
  refine (?_:(arr.size=vs.length)→_) (by rw [← hr.length];simp)
  intro hsz
  refine wpAny_assign_Tuple R.hd ⟨o,e,c1,n,c2⟩ (by rw [hlen,hn,hsz]) hst fun h' hx=>?_
  rw [hel]
  have S':St w ρ z ((L,FrO m)::Δ) { s with heap:=h' }:=by
   have hne:∀ a o,s.heap.get? a=some o→a≠s.heap.objs.size:=fun a o e=>Nat.ne_of_lt (Heap.lt_size e)
   refine ⟨S.wf,fun a o e=>hx a o (hne _ _ (S.fr _ _ e)) (S.fr _ _ e),fun p hp=>?_,S.nd,S.lo,?_,S.g,S.d,S.os⟩
   ·obtain ⟨h1,o,e⟩:=S.own p hp
    refine (?_:_→_→_) e.1 e.2
    intro e h2
    exact ⟨h1,o,hx _ _ (hne _ _ e) e,h2⟩
   ·obtain ⟨h1,o,e⟩:=S.own _ (.head _)
    refine (?_:_→_→_) e.1 e.2
    intro e h2
    exact Nat.le_trans (S.lo _ (.head _)) (Nat.le_of_lt (Heap.lt_size (hx _ _ (hne _ _ e) e)))
  exact asg_names hl hk hr hn hL S' h
theorem Asg.tup {α:Type} {elts:List PySem.Expr} {x1} {pos:Pos} {ns:List (Str×Pos)} (g:α→List AV) (hel:(assignEach elts env).map (·.2)=ns.map fun p=>assign (.Name p.1 p.2) env)
 (hst:(assignEach elts env).findIdx? (·.1)=none) (hn:∀ a,ns.length=(g a).length) (hl:∀ p∈ns,env.kindOf p.1=some .local) (hk:env.scope.kind=.function) :
 Asg w ρ z env (.Tuple elts x1 pos) (fun a v=>∃ q,v=.ref q∧Fz z q (TupO (g a))) (fun a m=>setls m (ns.map (·.1)) (g a)):=
  ⟨fun hz R hr hL S h=>by
   obtain ⟨q,rfl,hq⟩:=hr
   exact asg_tup S R (S.fz (hq.mono hz)) hel hst (hn _) hl hk hL h⟩
end
structure Its (w:World) (ρ:Rest) (z:Z) (it:Value) (env:Env) (t:PySem.Expr) {α:Type} (up:α→Loc→Loc) (J:List α→Ds) (X:Ds):Prop where
 item:∀ {A:Around} {E:VP} {s:Shared} {z':Z} {Δ:Ds} {L:Addr} {m:Loc} {a:α} {r:List α} {Q:Shared→Prop},Sub z z'→Room A 0→env.locals=L→St w ρ z' ((L,FrO m)::(Δ++J (a::r))) s →
  (∀ s',St w ρ z' ((L,FrO (up a m))::(Δ++J r)) s'→Q s')→wpAny (model PG w) A (pyNext it) (fun o s₁=>match o with
   | none=>False
   | some v=>wpAny (model PG w) A (letOwnedTupleGo t it v) (fun b s₂=>wpAny (model PG w) A (assign t env v) (fun b s₃=>Q s₃) E s₂) E s₁) E s
 stop:∀ {A:Around} {E:VP} {s:Shared} {z':Z} {Δ:Ds} {F:Addr×OP} {Q:Option Value→Shared→Prop},Sub z z'→Room A 0→St w ρ z' (F::(Δ++J [])) s →
  (∀ s',St w ρ z' (F::(Δ++X)) s'→Q none s')→wpAny (model PG w) A (pyNext it) Q E s
 self:∀ {A:Around} {E:VP} {s:Shared} {z':Z} {Δ:Ds} {F:Addr×OP} {r:List α} {Q:VP},Sub z z'→St w ρ z' (F::(Δ++J r)) s→Q it s→wpAny (model PG w) A (pyIter it) Q E s
structure ItsA (w:World) (ρ:Rest) (z:Z) (A:Around) (it:Value) (env:Env) (t:PySem.Expr) {α:Type} (up:α→Loc→Loc) (J:List α→Ds) (X:Ds):Prop where
 item:∀ {E:VP} {s:Shared} {z':Z} {Δ:Ds} {L:Addr} {m:Loc} {a:α} {r:List α} {Q:Shared→Prop},Sub z z'→env.locals=L→St w ρ z' ((L,FrO m)::(Δ++J (a::r))) s →
  (∀ s',St w ρ z' ((L,FrO (up a m))::(Δ++J r)) s'→Q s')→wpAny (model PG w) A (pyNext it) (fun o s₁=>match o with
   | none=>False
   | some v=>wpAny (model PG w) A (letOwnedTupleGo t it v) (fun b s₂=>wpAny (model PG w) A (assign t env v) (fun b s₃=>Q s₃) E s₂) E s₁) E s
 stop:∀ {E:VP} {s:Shared} {z':Z} {Δ:Ds} {F:Addr×OP} {Q:Option Value→Shared→Prop},Sub z z'→St w ρ z' (F::(Δ++J [])) s →
  (∀ s',St w ρ z' (F::(Δ++X)) s'→Q none s')→wpAny (model PG w) A (pyNext it) Q E s
 self:∀ {E:VP} {s:Shared} {z':Z} {Δ:Ds} {F:Addr×OP} {r:List α} {Q:VP},Sub z z'→St w ρ z' (F::(Δ++J r)) s→Q it s→wpAny (model PG w) A (pyIter it) Q E s
theorem Its.toA {w:World} {ρ:Rest} {z:Z} {A:Around} {it:Value} {env:Env} {t:PySem.Expr} {α:Type} {up:α→Loc→Loc} {J:List α→Ds} {X:Ds} (H:Its w ρ z it env t up J X) (R:Room A 0):ItsA w ρ z A it env t up J X where
 item:=fun hz hL S h=>H.item hz R hL S h
 stop:=fun hz S h=>H.stop hz R S h
 self:=fun hz S h=>H.self hz S h
theorem Its.of {w:World} {ρ:Rest} {z:Z} {it:Value} {env:Env} {t:PySem.Expr} {α:Type} {rel:α→Value→Prop} {up:α→Loc→Loc} {J:List α→Ds} {X:Ds} (N:Nx w ρ z it rel J X) (G:Asg w ρ z env t rel up):Its w ρ z it env t up J X where
 item:=fun hz R hL S h=>N.next hz R S fun v s' hv S'=>N.go hz S' (G.asg hz R hv hL S' h)
 stop:=N.stop
 self:=N.self
section
variable {w:World} {ρ:Rest} {z:Z} {env:Env} {A:Around} {E:VP} {s:Shared} {Δ X:Ds} {L:Addr} {m:Loc}
theorem for_loop {α:Type} {it:Value} {t:PySem.Expr} {body:List Stmt} {up:α→Loc→Loc} {J:List α→Ds} {items:List α} {R:Result→Shared→Prop} (H:Its w ρ z it env t up J X) (hL:env.locals=L) (rm:Room A 0)
 (P:List α→List α→Z→Loc→Ds→Prop) (S:St w ρ z ((L,FrO m)::(Δ++J items)) s) (hP:P [] items z m Δ)
 (turn:∀ d a r z' m' Δ' s',d++a::r=items→Sub z z'→P d (a::r) z' m' Δ'→St w ρ z' ((L,FrO (up a m'))::(Δ'++J r)) s'→∀ E',wpAny (model PG w) A (execs body env) (fun f s₃=>match f with
 | .next | .cont=>∃ z'' m'' Δ'',Sub z' z''∧P (d++[a]) r z'' m'' Δ''∧St w ρ z'' ((L,FrO m'')::(Δ''++J r)) s₃
 | .brk=>R (.ok .next) s₃
 | .ret v=>R (.ok (.ret v)) s₃) E' s')
 (fin:∀ z' m' Δ' s',Sub z z'→P items [] z' m' Δ'→St w ρ z' ((L,FrO m')::(Δ'++X)) s'→R (.ok .next) s') :
 codeAny (model PG w) A (.forLoop t it body [] env) R s:=by
  refine codeAny_forLoop_any (fun n s=>∃ d r z' m' Δ',n=r.length∧d++r=items∧Sub z z'∧P d r z' m' Δ'∧St w ρ z' ((L,FrO m')::(Δ'++J r)) s) ?_ items.length ⟨[],items,z,m,Δ,rfl,rfl,Sub.refl z,hP,S⟩
  rintro n s ⟨d,r,z',m',Δ',rfl,hdr,hz,hP,S⟩
  cases r with
  | nil=>
   refine H.stop hz rm S fun s' S'=>wpAny_execs_nil ?_
   rw [List.append_nil] at hdr;rw [hdr] at hP
   exact fin _ _ _ _ hz hP S'
  | cons a r=>
   refine wpAny_mono (H.item (E:=notedBy (model PG w) A env fun e s'=>R (.error e) s') hz rm hL S (Q:=fun s₂=>wpAny (model PG w) A (execs body env) (fun f s₃=>match f with
    | .next | .cont=>∃ m,m<(a::r).length∧∃ d r z' m' Δ',m=r.length∧d++r=items∧Sub z z'∧P d r z' m' Δ'∧St w ρ z' ((L,FrO m')::(Δ'++J r)) s₃
    | .brk=>R (.ok .next) s₃
    | .ret v=>R (.ok (.ret v)) s₃) (notedBy (model PG w) A env fun e s'=>R (.error e) s') s₂) fun s' S'=>?_) (fun o s₁ h₁=>?_) fun b b e=>e
   rotate_left
   ·cases o with
    | none=>exact h₁.elim
    | some v=>exact h₁
   ·refine wpAny_mono (turn d a r z' m' Δ' s' hdr hz hP S' _) (fun f s₃ h₃=>?_) fun b b e=>e
    cases f with
    | next=>
     refine (let Gl:Prop:=_;(?_:Gl))
     obtain ⟨z'',m'',Δ'',hz',hP',S''⟩:=h₃
     exact ⟨r.length,by simp,d++[a],r,z'',m'',Δ'',rfl,by rw [← hdr];simp,hz.trans hz',hP',S''⟩
    | cont=>
     refine (let Gl:Prop:=_;(?_:Gl))
     obtain ⟨z'',m'',Δ'',hz',hP',S''⟩:=h₃
     exact ⟨r.length,by simp,d++[a],r,z'',m'',Δ'',rfl,by rw [← hdr];simp,hz.trans hz',hP',S''⟩
    | brk=>exact h₃
    | ret v=>exact h₃
noncomputable def ForGo (w:World) (A:Around) (E:VP) (env:Env) (t:PySem.Expr) (body:List Stmt) (Q:Flow→Shared→Prop) (it:Value) (s:Shared):Prop:=
 codeAny (model PG w) A (.forLoop t it body [] env) (fun r s'=>match r with | .ok f=>Q f s' | .error e=>cameBackBy (model PG w) A env E e s') s
theorem s_for {t iter:PySem.Expr} {body:List Stmt} {pos:Pos} {Q:Flow→Shared→Prop}
 (h:wpAny (model PG w) A (eval iter env) (fun x s₁=>wpAny (model PG w) A (pyIter x) (fun it s₂=>ForGo w A E env t body Q it s₂) E s₁) E s)
 (hs:∀ x,foldedSetIterable iter env x=pure x:=by intro _;rfl):wpAny (model PG w) A (exec (.For t iter body [] pos) env) Q E s:=wpAny_For h hs
theorem for_go {α:Type} {it:Value} {t:PySem.Expr} {body:List Stmt} {up:α→Loc→Loc} {J:List α→Ds} {items:List α} {Q:Flow→Shared→Prop} (H:Its w ρ z it env t up J X) (hL:env.locals=L) (rm:Room A 0)
 (P:List α→List α→Z→Loc→Ds→Prop) (S:St w ρ z ((L,FrO m)::(Δ++J items)) s) (hP:P [] items z m Δ)
 (turn:∀ d a r z' m' Δ' s',d++a::r=items→Sub z z'→P d (a::r) z' m' Δ'→St w ρ z' ((L,FrO (up a m'))::(Δ'++J r)) s'→∀ E' Qb,Seal (fun f s₃=>match f with | .next | .cont=>∃ z'' m'' Δ'',Sub z' z''∧P (d++[a]) r z'' m'' Δ''∧St w ρ z'' ((L,FrO m'')::(Δ''++J r)) s₃ | .brk=>Q .next s₃ | .ret v=>Q (.ret v) s₃) Qb→wpAny (model PG w) A (execs body env) Qb E' s')
 (fin:∀ z' m' Δ' s',Sub z z'→P items [] z' m' Δ'→St w ρ z' ((L,FrO m')::(Δ'++X)) s'→Q .next s'):ForGo w A E env t body Q it s:=
  for_loop H hL rm P S hP (fun d a r z' m' Δ' s' hd hz hP S E'=>turn d a r z' m' Δ' s' hd hz hP S E' _ fun b b h=>h) fin
theorem codeAny_compLoop_go {elt target iter:PySem.Expr} {ifs:List PySem.Expr} {scope:Scope} {pos:Pos} {it acc:Value} {env:Env} {R:Result→Shared→Prop} (I:Nat→Shared→Prop)
 (turn:∀ n s,I n s→∀ E',wpAny (model PG w) A (pyNext it) (fun r s₁=>match r with
 | none=>R (.ok .next) s₁
 | some v=>wpAny (model PG w) A (letOwnedTupleGo target it v) (fun b s₁'=>wpAny (model PG w) A (assign target env v) (fun b s₂=>
 wpAny (model PG w) A (forIn ifs true fun c r=>if r=true then do let ok ← isTrue c env (eval c env);pure (ForInStep.yield ok) else pure (ForInStep.yield r)) (fun ok s₃=>
 if ok=true then wpAny (model PG w) A (eval elt env) (fun x s₄=>
 wpAny (model PG w) A (call (.builtin "list.append") [acc,x]) (fun b s₅=>∃ m,m<n∧I m s₅) E' s₄) E' s₃
 else ∃ m,m<n∧I m s₃) E' s₂) E' s₁') E' s₁) E' s)
 (n:Nat) (h:I n s):codeAny (model PG w) A (.compLoop (.ListComp elt [⟨target,iter,ifs,0⟩] scope pos) 0 it acc env) R s:=by
  refine codeAny_loop rfl I (fun n s hI=>?_) n h
  show wpAny _ A ((compTurn (.ListComp elt [⟨target,iter,ifs,0⟩] scope pos) 0 it acc env).onRaise (fun x=>do noteFrame x env;theTreesLotGoes x)) _ _ s
  refine wpAny_noted ?_
  rw [compTurn_list]
  refine wpAny_bind (wpAny_standAt (wpAny_bind (wpAny_mono (turn n s hI _) (fun r s₁ h₁=>?_) fun b b h'=>h')))
  cases r with
  | none=>exact wpAny_pure h₁
  | some v=>
   refine wpAny_bind (wpAny_mono h₁ (fun b s₁' h₁'=>?_) fun b b h'=>h')
   refine wpAny_bind (wpAny_mono h₁' (fun b s₂ h₂=>wpAny_bind (wpAny_mono h₂ (fun ok s₃ h₃=>?_) fun b b h'=>h')) fun b b h'=>h')
   cases ok with
   | false=>exact wpAny_pure ⟨rfl,h₃⟩
   | true=>
    exact wpAny_bind (wpAny_bind (wpAny_mono h₃ (fun x s₄ h₄=>wpAny_bind (wpAny_mono h₄ (fun b s₅ h₅=>wpAny_pure (wpAny_pure ⟨rfl,h₅⟩)) fun b b h'=>h')) fun b b h'=>h'))
noncomputable def CompGo (w:World) (A:Around) (E:VP) (elt t iter:PySem.Expr) (ifs:List PySem.Expr) (scope:Scope) (pos:Pos) (cl:List (Str×Addr)) (env:Env) (Q:VP) (it:Value) (s:Shared):Prop:=
 wpAny (model PG w) A (newList []) (fun acc s₃=>
  wpAny (model PG w) A (newFunctionEnv scope env.globals cl [] env.qual none .none (some env)) (fun cenv s₄=>
   codeAny (model PG w) A (.compStart (.ListComp elt [⟨t,iter,ifs,0⟩] scope pos) 0 it acc { cenv with scope:=relabel scope env }) (compPost (model PG w) A E none Q acc cenv.locals) s₄) E s₃) E s
theorem e_comp {elt t iter:PySem.Expr} {ifs:List PySem.Expr} {scope:Scope} {pos:Pos} {cl:List (Str×Addr)} {Q:VP}
 (h:wpAny (model PG w) A (eval iter env) (fun x s₁=>wpAny (model PG w) A (pyIter x) (fun it s₂=>CompGo w A E elt t iter ifs scope pos cl env Q it s₂) E s₁) E s)
 (hs:∀ x,foldedSetIterable iter env x=pure x) (hclos:closureFor scope env=pure cl) (hkind:scope.kind=.function) (hnames:∀ x∈scope.names,x.2=.local→scope.names.lookup x.1=some .local) :
 wpAny (model PG w) A (eval (.ListComp elt [⟨t,iter,ifs,0⟩] scope pos) env) Q E s:=by
  rw [eval_ListComp]
  exact wpAny_comprehension_free rfl hs hclos hkind hnames h
theorem comp_open {lc:PySem.Expr} {scope:Scope} {cl:List (Str×Addr)} {it:Value} {RR:Value→Addr→Result→Shared→Prop} (S:St w ρ z ((L,FrO m)::Δ) s) (hcell:∀ y∈scope.names,y.2≠.cell) (hkind:scope.kind=.function)
 (k:∀ C D s',St w ρ z ((C,FrO [])::(D,ListO [])::(L,FrO m)::Δ) s'→codeAny (model PG w) A (.compStart lc 0 it (.ref D) (compEnvC scope cl C env)) (RR (.ref D) C) s') :
 wpAny (model PG w) A (newList []) (fun acc s₃=>
 wpAny (model PG w) A (newFunctionEnv scope env.globals cl [] env.qual none .none (some env)) (fun cenv s₄=>
 codeAny (model PG w) A (.compStart lc 0 it acc { cenv with scope:=relabel scope env }) (RR acc cenv.locals) s₄) E s₃) E s:=by
  refine wpAny_newObj_type (wpAny_newFunctionEnv hcell (by intro y hy;simp at hy) (fun h₁ hns₁ hsb₁=>?_) hkind)
  have S1:St w ρ z ((s.heap.objs.size,ListO [])::(L,FrO m)::Δ) { s with heap:=s.heap.push { cls:=.type "list",dict:=none,data:=.seq ([]:List Value).toArray } }:=S.push rfl ⟨#[],0,rfl,.nil⟩
  generalize hD:s.heap.objs.size=D at *
  generalize hH2:s.heap.push { cls:=.type "list",dict:=none,data:=.seq ([]:List Value).toArray }=H2 at *
  generalize hC:H2.objs.size=C at *
  have S2:St w ρ z ((C,FrO [])::(D,ListO [])::(L,FrO m)::Δ) { s with heap:=h₁,toks:=s.toks+([]:List (Str×Value)).length }:=by
   have hne:∀ a o,H2.get? a=some o→a≠C:=fun a o e=>by subst hC;exact Nat.ne_of_lt (Heap.lt_size e)
   have hx:∀ a o,H2.get? a=some o→h₁.get? a=some o:=fun a o e=>hsb₁.extBut _ _ (hne _ _ e) (Heap.get?_push_of_some _ e)
   refine S1.step (fun a o b e=>hx _ _ e) (fun p hp=>?_) ?_ (fun p hp=>?_) ?_
   ·rcases List.mem_cons.mp hp with rfl | hp
    ·refine ⟨?_,FrO.of hns₁ fun x a e=>by simp [lk] at e⟩
     refine (?_:_→_) (S1.fresh)
     intro this
     subst hC;exact this
    ·obtain ⟨h1,o,e⟩:=S1.own p hp
     refine (?_:_→_→_) e.1 e.2
     intro e h2
     exact ⟨h1,o,hx _ _ e,h2⟩
   ·rw [List.map_cons,List.nodup_cons]
    refine ⟨fun hm=>?_,S1.nd⟩
    obtain ⟨p,hp⟩:=List.mem_map.mp hm
    refine (?_:_→_→_) hp.1 hp.2
    intro hp e
    obtain ⟨_,o',e'⟩:=S1.own p hp
    refine (?_:_→_) e'.1
    intro e'
    exact hne _ _ e' e
   ·rcases List.mem_cons.mp hp with rfl | hp
    ·subst hC;exact S1.sz
    ·exact S1.lo p hp
   ·show H2.objs.size≤h₁.objs.size
    rw [hsb₁.1,Heap.size_push];lia
  exact k C D _ S2
theorem comp_coreA {α:Type} {elt t iter:PySem.Expr} {ifs:List PySem.Expr} {scope:Scope} {pos:Pos} {cl:List (Str×Addr)} {it:Value} {up:α→Loc→Loc} {J:List α→Ds} {items:List α} {RR:Value→Addr→Result→Shared→Prop}
 (H:∀ C,ItsA w ρ z A it (compEnvC scope cl C env) t up J X) (hcell:∀ y∈scope.names,y.2≠.cell) (hkind:scope.kind=.function) (hlen:items.length≤1000)
 (P:List α→List α→List AV→Z→Prop) (S:St w ρ z ((L,FrO m)::(Δ++J items)) s) (hP:P [] items [] z)
 (turn:∀ d a r out z' mc C D s',d++a::r=items→Sub z z'→P d (a::r) out z'→St w ρ z' ((C,FrO (up a mc))::(D,ListO out)::(L,FrO m)::(Δ++J r)) s'→∀ E',
 wpAny (model PG w) A (forIn ifs true fun c r=>if r=true then do let ok ← isTrue c (compEnvC scope cl C env) (eval c (compEnvC scope cl C env));pure (ForInStep.yield ok) else pure (ForInStep.yield r)) (fun ok s₃=>
 if ok=true then wpAny (model PG w) A (eval elt (compEnvC scope cl C env)) (fun x s₄=>∃ av z'' mc',av.is x∧Sub z' z''∧P (d++[a]) r (out++[av]) z''∧St w ρ z'' ((C,FrO mc')::(D,ListO out)::(L,FrO m)::(Δ++J r)) s₄) E' s₃
 else ∃ z'' mc',Sub z' z''∧P (d++[a]) r out z''∧St w ρ z'' ((C,FrO mc')::(D,ListO out)::(L,FrO m)::(Δ++J r)) s₃) E' s')
 (fin:∀ C D mc out z' s',Sub z z'→P items [] out z'→St w ρ z' ((C,FrO mc)::(D,ListO out)::(L,FrO m)::(Δ++X)) s'→RR (.ref D) C (.ok .next) s') :
 wpAny (model PG w) A (newList []) (fun acc s₃=>
 wpAny (model PG w) A (newFunctionEnv scope env.globals cl [] env.qual none .none (some env)) (fun cenv s₄=>
 codeAny (model PG w) A (.compStart (.ListComp elt [⟨t,iter,ifs,0⟩] scope pos) 0 it acc { cenv with scope:=relabel scope env }) (RR acc cenv.locals) s₄) E s₃) E s:=by
  refine comp_open S hcell hkind fun C D s1 S2=>?_
  refine (?_:(codeAny (model PG w) A (.compLoop (.ListComp elt [⟨t,iter,ifs,0⟩] scope pos) 0 it (.ref D) (compEnvC scope cl C env)) (RR (.ref D) C) s1)→_) (by
   refine codeAny_compLoop_go (fun n s=>∃ d r out z' mc,n=r.length∧d++r=items∧out.length≤d.length∧Sub z z'∧P d r out z'∧St w ρ z' ((C,FrO mc)::(D,ListO out)::(L,FrO m)::(Δ++J r)) s) ?_ items.length ⟨[],items,[],z,[],rfl,rfl,Nat.le_refl _,Sub.refl z,hP,S2⟩
   rintro n s ⟨d,r,out,z',mc,rfl,hdr,hol,hz,hP,S⟩ E'
   cases r with
   | nil=>
    rw [List.append_nil] at hdr;rw [hdr] at hP
    exact (H C).stop (Δ:=(D,ListO out)::(L,FrO m)::Δ) hz (by simpa using S) fun s' S'=>fin C D mc out z' _ hz hP (by simpa using S')
   | cons a r=>
    refine (?_:(d.length<1001)→_) (by have:=congrArg List.length hdr;simp at this;exact ar329 this hlen)
    intro hlen'
    refine wpAny_mono ((H C).item (E:=E') (Δ:=(D,ListO out)::(L,FrO m)::Δ) (L:=C) hz rfl (by simpa using S) (Q:=fun s₂=>wpAny (model PG w) A (forIn ifs true fun c r=>if r=true then do let ok ← isTrue c (compEnvC scope cl C env) (eval c (compEnvC scope cl C env));pure (ForInStep.yield ok) else pure (ForInStep.yield r)) (fun ok s₃=>
     if ok=true then wpAny (model PG w) A (eval elt (compEnvC scope cl C env)) (fun x s₄=>
      wpAny (model PG w) A (call (.builtin "list.append") [.ref D,x]) (fun b s₅=>∃ n,n<(a::r).length∧∃ d r out z' mc,n=r.length∧d++r=items∧out.length≤d.length∧Sub z z'∧P d r out z'∧St w ρ z' ((C,FrO mc)::(D,ListO out)::(L,FrO m)::(Δ++J r)) s₅) E' s₄) E' s₃
     else ∃ n,n<(a::r).length∧∃ d r out z' mc,n=r.length∧d++r=items∧out.length≤d.length∧Sub z z'∧P d r out z'∧St w ρ z' ((C,FrO mc)::(D,ListO out)::(L,FrO m)::(Δ++J r)) s₃) E' s₂) fun s' S'=>?_) (fun o s₁ h₁=>?_) fun b b e=>e
    rotate_left
    ·cases o with
     | none=>exact h₁.elim
     | some v=>exact h₁
    ·refine wpAny_mono (turn d a r out z' mc C D s' hdr hz hP (by simpa using S') _) (fun ok s₃ h₃=>?_) fun b b e=>e
     cases ok with
     | false=>
      simp only [Bool.false_eq_true,if_false] at h₃ ⊢
      refine (let Gl:Prop:=_;(?_:Gl))
      obtain ⟨z'',mc',hz'⟩:=h₃
      refine (?_:_→_→_→_) hz'.1 hz'.2.1 hz'.2.2
      intro hz' hP' S''
      exact ⟨r.length,by simp,d++[a],r,out,z'',mc',rfl,by rw [← hdr];simp,by simp;exact ar18 hol,hz.trans hz',hP',S''⟩
     | true=>
      simp only [if_true] at h₃ ⊢
      refine wpAny_mono h₃ (fun x s₄ h₄=>?_) fun b b e=>e
      refine (let Gl:Prop:=_;(?_:Gl))
      obtain ⟨av,z'',mc',ha⟩:=h₄
      refine (?_:_→_→_→_→_) ha.1 ha.2.1 ha.2.2.1 ha.2.2.2
      intro ha hz' hP' S''
      refine b_append (av:=av) S'' (j:=1) rfl ha (by exact ar269 hol hlen') fun s₅ S₅=>?_
      exact ⟨r.length,by simp,d++[a],r,out++[av],z'',mc',rfl,by rw [← hdr];simp,by simp;exact ar8 hol,hz.trans hz',hP',S₅⟩)
  intro loop
  exact codeAny_compStart_list loop ((H C).self (Δ:=(D,ListO [])::(L,FrO m)::Δ) (Sub.refl z) (by simpa using S2) loop)
theorem comp_core {α:Type} {elt t iter:PySem.Expr} {ifs:List PySem.Expr} {scope:Scope} {pos:Pos} {cl:List (Str×Addr)} {it:Value} {up:α→Loc→Loc} {J:List α→Ds} {items:List α} {RR:Value→Addr→Result→Shared→Prop}
 (H:∀ C,Its w ρ z it (compEnvC scope cl C env) t up J X) (rm:Room A 0) (hcell:∀ y∈scope.names,y.2≠.cell) (hkind:scope.kind=.function) (hlen:items.length≤1000)
 (P:List α→List α→List AV→Z→Prop) (S:St w ρ z ((L,FrO m)::(Δ++J items)) s) (hP:P [] items [] z)
 (turn:∀ d a r out z' mc C D s',d++a::r=items→Sub z z'→P d (a::r) out z'→St w ρ z' ((C,FrO (up a mc))::(D,ListO out)::(L,FrO m)::(Δ++J r)) s'→∀ E',
 wpAny (model PG w) A (forIn ifs true fun c r=>if r=true then do let ok ← isTrue c (compEnvC scope cl C env) (eval c (compEnvC scope cl C env));pure (ForInStep.yield ok) else pure (ForInStep.yield r)) (fun ok s₃=>
 if ok=true then wpAny (model PG w) A (eval elt (compEnvC scope cl C env)) (fun x s₄=>∃ av z'' mc',av.is x∧Sub z' z''∧P (d++[a]) r (out++[av]) z''∧St w ρ z'' ((C,FrO mc')::(D,ListO out)::(L,FrO m)::(Δ++J r)) s₄) E' s₃
 else ∃ z'' mc',Sub z' z''∧P (d++[a]) r out z''∧St w ρ z'' ((C,FrO mc')::(D,ListO out)::(L,FrO m)::(Δ++J r)) s₃) E' s')
 (fin:∀ C D mc out z' s',Sub z z'→P items [] out z'→St w ρ z' ((C,FrO mc)::(D,ListO out)::(L,FrO m)::(Δ++X)) s'→RR (.ref D) C (.ok .next) s') :
 wpAny (model PG w) A (newList []) (fun acc s₃=>
 wpAny (model PG w) A (newFunctionEnv scope env.globals cl [] env.qual none .none (some env)) (fun cenv s₄=>
 codeAny (model PG w) A (.compStart (.ListComp elt [⟨t,iter,ifs,0⟩] scope pos) 0 it acc { cenv with scope:=relabel scope env }) (RR acc cenv.locals) s₄) E s₃) E s:=
  comp_coreA (fun C=>(H C).toA rm) hcell hkind hlen P S hP turn fin
theorem St.goC {C D:Addr} {mc:Loc} {P:OP} (S:St w ρ z ((C,FrO mc)::(D,P)::(L,FrO m)::Δ) s) {h':Heap} {t:Nat} (hs:Heap.SameBut C s.heap h'):St w ρ z ((L,FrO m)::(D,P)::Δ) { s with heap:=h',toks:=t }:=by
 refine (?_:_→_) (St.midGo (Δ:=[(L,FrO m)]) (X:=Δ) (F:=(D,P)) (a:=C) (P:=FrO mc) (t:=t) (S.perm ?_) hs.extBut)
 intro this
 ·exact this.perm (by simpa using List.Perm.swap ..)
 ·refine List.Perm.trans ?_ (List.Perm.swap ..)
  exact List.Perm.cons _ (List.Perm.swap ..)
theorem comp_goA {α:Type} {elt t iter:PySem.Expr} {ifs:List PySem.Expr} {scope:Scope} {pos:Pos} {cl:List (Str×Addr)} {Q:VP} {it:Value} {up:α→Loc→Loc} {J:List α→Ds} {items:List α}
 (H:∀ C,ItsA w ρ z A it (compEnvC scope cl C env) t up J X) (hcell:∀ y∈scope.names,y.2≠.cell) (hkind:scope.kind=.function) (hlen:items.length≤1000)
 (P:List α→List α→List AV→Z→Prop) (S:St w ρ z ((L,FrO m)::(Δ++J items)) s) (hP:P [] items [] z)
 (turn:∀ d a r out z' mc C D s',d++a::r=items→Sub z z'→P d (a::r) out z'→St w ρ z' ((C,FrO (up a mc))::(D,ListO out)::(L,FrO m)::(Δ++J r)) s'→∀ E',
 wpAny (model PG w) A (forIn ifs true fun c r=>if r=true then do let ok ← isTrue c (compEnvC scope cl C env) (eval c (compEnvC scope cl C env));pure (ForInStep.yield ok) else pure (ForInStep.yield r)) (fun ok s₃=>
 if ok=true then wpAny (model PG w) A (eval elt (compEnvC scope cl C env)) (fun x s₄=>∃ av z'' mc',av.is x∧Sub z' z''∧P (d++[a]) r (out++[av]) z''∧St w ρ z'' ((C,FrO mc')::(D,ListO out)::(L,FrO m)::(Δ++J r)) s₄) E' s₃
 else ∃ z'' mc',Sub z' z''∧P (d++[a]) r out z''∧St w ρ z'' ((C,FrO mc')::(D,ListO out)::(L,FrO m)::(Δ++J r)) s₃) E' s')
 (fin:∀ out z' D s',Sub z z'→P items [] out z'→St w ρ z' ((L,FrO m)::(D,ListO out)::(Δ++X)) s'→Q (.ref D) s') :
 CompGo w A E elt t iter ifs scope pos cl env Q it s:=by
  refine comp_coreA H hcell hkind hlen P S hP turn fun C D mc out z' s' hz hP S'=>?_
  obtain ⟨f,hn⟩:=FrO.ns (S'.at 0 rfl)
  refine (?_:_→_) hn.1
  intro hn
  exact ⟨f,hn,fun h' hs=>fin out z' D _ hz hP (St.goC (t:=s'.toks) S' hs)⟩
end
inductive ERel:Loc→List DictEntry→Prop where
 | nil:ERel [] []
 | cons {x a v h t m es}:a.is v→ERel m es→ERel ((x,a)::m) (⟨h,.str x t,v⟩::es)
noncomputable def EntO (m:Loc):OP:=fun o=>∃ es n,o=dictOf es n∧ERel m es
theorem ERel.len {m es} (h:ERel m es):es.length=m.length:=by
 induction h with
 | nil=>rfl
 | cons h t ih=>exact congrArg Nat.succ ih
theorem ERel.noref:∀ {m es},ERel m es→es.any (·.refKey)=false
 | _,_,.nil=>rfl
 | _,_,.cons _ h=>by rw [List.any_cons,h.noref];rfl
theorem ERel.find (x:Str):∀ {m es},ERel m es→match lk m x with | some a=>∃ v,getL x es=some (some v)∧a.is v | none=>getL x es=some none:=by
 intro m es h
 have key:match lk m x with | some a=>∃ e,es.find? (·.key.isStr x)=some e∧a.is e.val | none=>es.find? (·.key.isStr x)=none:=by
  induction h with
  | nil=>rfl
  | @cons y a v hh t m es ha hr ih=>
   unfold lk
   rw [List.find?_cons]
   by_cases q:x=y
   ·subst q
    simp only [if_true,Value.isStr,beq_self_eq_true]
    exact ⟨_,rfl,ha⟩
   ·refine (?_:((y == x)=false)→_) (by simpa using fun e=>q e.symm)
    intro q'
    simp only [if_neg q,Value.isStr,q']
    exact ih
 unfold getL
 cases e:lk m x with
 | some a=>
  rw [e] at key
  obtain ⟨en,h1⟩:=key
  refine (?_:_→_→_) h1.1 h1.2
  intro h1 h2
  exact ⟨en.val,by rw [h1],h2⟩
 | none=>
  rw [e] at key
  dsimp only at key
  show (match es.find? (·.key.isStr x) with | some e=>some (some e.val) | none=>if es.any (·.refKey) then none else some none)=some none
  rw [key,h.noref];rfl
theorem ERel.isSome (x:Str) {m es} (h:ERel m es):(getL x es).isSome=true:=by
 refine (?_:_→_) (h.find x)
 intro this
 cases e:lk m x with
 | some a=>rw [e] at this;obtain ⟨v,h1,_⟩:=this;rw [h1];rfl
 | none=>rw [e] at this;dsimp only at this;rw [this];rfl
theorem ERel.put {x:Str} {a:AV} {v:Value} {hh:Int} {t:Tok} (ha:a.is v):∀ {m es},ERel m es→ERel (setl m x a) (putL x hh (.str x t) v es)
 | _,_,.nil=>.cons ha .nil
 | _,_,.cons (x:=y) (a:=b) (v:=u) (h:=h') (t:=t') (m:=m) (es:=es) hb h=>by
  unfold setl putL
  by_cases q:x=y
  ·subst q
   simp only [if_true,Value.isStr,beq_self_eq_true]
   exact .cons ha h
  ·refine (?_:((y == x)=false)→_) (by simpa using fun e=>q e.symm)
   intro q'
   simp only [if_neg q,Value.isStr,q',Bool.false_eq_true,if_false]
   exact .cons hb (h.put ha)
theorem setl_len (m:Loc) (x:Str) (a:AV):(setl m x a).length≤m.length+1:=by
 induction m with
 | nil=>simp [setl]
 | cons p r ih=>
  refine (?_:_→_→_) p.1 p.2
  intro k b
  unfold setl
  split
  ·simp
  ·simp;omega
theorem upd_of {d:Addr} {o o':Obj}:∀ {pre post:List (Addr×Obj)},(∀ p∈pre,p.1≠d)→(∀ p∈post,p.1≠d)→Upd d o o' (pre++(d,o)::post) (pre++(d,o')::post)
 | [],_,_,h=>.head h
 | p::pre,_,h1,h=>.tail (h1 p (.head _)) (upd_of (fun q hq=>h1 q (.tail _ hq)) h)
section
variable {w:World} {A:Around} {E:VP} {s:Shared} {ρ:Rest} {z:Z} {Δ:Ds} {env:Env} {L:Addr} {m:Loc}
noncomputable abbrev InsO (C dx:Addr):OP:=fun o=>o=instObj C dx
theorem ga_own {x dx C:Addr} {name:Str} {b:Bool} {mi:Loc} {av:AV} {attr:Option Value} {Q:VP} (S:St w ρ z ((L,FrO m)::Δ) s) (hx:Has s x (InsO C dx)) (hdd:Has s dx (EntO mi)) (hg:plainGet (hdp.heap_1_39 w.params) C name=true) (hh:hasDictIn (hdp.heap_1_39 w.params) C=true)
 (ha:findIn (hdp.heap_1_39 w.params) (.ref C) name=some attr) (hn:noGet (hdp.heap_1_39 w.params) attr=true) (hl:lk mi name=some av) (hv:∀ v,av.is v→handedIn v=true) (h:∀ v s',av.is v→St w ρ z ((L,FrO m)::Δ) s'→Q v s'):wpAny (model PG w) A (getAttr (.ref x) name b) Q E s:=by
  obtain ⟨ox,ex,rfl⟩:=hx
  obtain ⟨od,ed,es,n,rfl,hr⟩:=hdd
  refine (?_:_→_) (hr.find name)
  intro this
  rw [hl] at this
  obtain ⟨v,h1⟩:=this
  refine (?_:_→_→_) h1.1 h1.2
  intro h1 h2
  exact get_value S.K ⟨ex,rfl,rfl,ed⟩ (plainGet_of hg).1 (findObj_own (od:=dictOf es n) hh ha hn h1) (hv _ h2) (h v _ h2 S.toks)
theorem sa_own {x dx C:Addr} {name:Str} {mi:Loc} {av:AV} {v:Value} {j:Nat} {Q:Unit→Shared→Prop} (S:St w ρ z ((L,FrO m)::Δ) s) (hx:Has s x (InsO C dx)) (hj:Δ[j]?=some (dx,EntO mi))
 (hs:findIn (hdp.heap_1_39 w.params) (.ref C) "__setattr__"=some (some (.builtin "object.__setattr__"))) (hp:plainOver (hdp.heap_1_39 w.params) C=true) (ht:takerIn (hdp.heap_1_39 w.params) C name=some none) (hh:hasDictIn (hdp.heap_1_39 w.params) C=true) (ha:av.is v) (hz:mi.length≤100)
 (h:∀ s',St w ρ z ((L,FrO m)::Δ.set j (dx,EntO (setl mi name av))) s'→Q () s'):wpAny (model PG w) A (setAttr (.ref x) name v) Q E s:=by
  obtain ⟨ox,ex,rfl⟩:=hx
  obtain ⟨f,pre,od,post,F,N,h1,h2,ed,⟨es,n,rfl,hr⟩,back⟩:=S.kone j hj
  refine set_dict F S.wf.K N ⟨ex,rfl,rfl,ed⟩ rfl hs hp ht hh (hr.isSome name) rfl (upd_of h1 h2) ?_ fun h' F' N'=>h _ (back h' _ (EntO (setl mi name av)) _ F' N' ⟨_,_,rfl,hr.put ha⟩)
  rw [(hr.put ha).len];have:=setl_len mi name av;exact ar268 this hz
theorem gm_inst {x dx C f:Addr} {name:Str} {mi:Loc} {pl:Sem Bool} {Q:Value×List Value→Shared→Prop} (S:St w ρ z ((L,FrO m)::Δ) s) (hx:Has s x (InsO C dx)) (hdd:Has s dx (EntO mi)) (hg:plainGet (hdp.heap_1_39 w.params) C name=true)
 (hf:findIn (hdp.heap_1_39 w.params) (.ref C) name=some (some (.ref f))) (ht:isFn (hdp.heap_1_39 w.params) (.ref f)=true) (hl:lk mi name=none) (h:Q (.ref f,[.ref x]) s):wpAny (model PG w) A (getMethod (.ref x) name pl) Q E s:=by
  obtain ⟨ox,ex,rfl⟩:=hx
  obtain ⟨od,ed,es,n,rfl,hr⟩:=hdd
  refine (?_:_→_) (hr.find name)
  intro this
  rw [hl] at this
  exact method_fn (od:=some (dictOf es n)) S.K ⟨ex,rfl,rfl,ed⟩ (plainGet_of hg).1 (plainGet_of hg).2 hf (beq_iff_eq.mp ht) (by show (getL name es).map _=_;rw [this];rfl) h
noncomputable def SlotO (C dx:Addr) (as:List (Option AV)):OP:=fun o=>∃ sl:Array (Option Value),o=⟨.ref C,some dx,.plain,sl⟩∧sl.size≤as.length∧∀ i:Nat,optIs ((as[i]?).join) ((sl[i]?).join)
theorem ga_slot {x dx C p:Addr} {name:Str} {b:Bool} {as:List (Option AV)} {i:Nat} {av:AV} {Q:VP} (S:St w ρ z ((L,FrO m)::Δ) s) (hx:Has s x (SlotO C dx as)) (hdx:Has s dx (EntO [])) (hg:plainGet (hdp.heap_1_39 w.params) C name=true) (hc:isClsIn (hdp.heap_1_39 w.params) C=true)
 (ha:findIn (hdp.heap_1_39 w.params) (.ref C) name=some (some (.ref p))) (hn:specialIn (hdp.heap_1_39 w.params) (.ref p) "__get__"=some (some (.builtin "member_descriptor.__get__"))) (ht:takesIn (hdp.heap_1_39 w.params) (.ref p)=some true) (hp:slotIn (hdp.heap_1_39 w.params) p C=some i)
 (hl:as[i]?=some (some av)) (hv:∀ v,av.is v→handedIn v=true) (h:∀ v s',av.is v→St w ρ z ((L,FrO m)::Δ) s'→Q v s'):wpAny (model PG w) A (getAttr (.ref x) name b) Q E s:=by
  obtain ⟨ox,ex,sl,rfl,hsz,hs⟩:=hx
  obtain ⟨od,ed,es,n,rfl,hr⟩:=hdx
  have:=hs i
  rw [hl] at this
  refine (let g:Prop:=_;(?_:g))
  obtain ⟨v,h1⟩:=this
  refine (?_:_→_→_) h1.1 h1.2
  intro h1 h2
  obtain ⟨f,F⟩:=S.kframe
  refine (?_:_→_) F.1
  intro F
  exact get_slot F S.wf.K ⟨ex,rfl,rfl,ed⟩ hg hc ha hn ht hp h1 (hv _ h2) (h v _ h2 S.toks)
theorem sa_slot {x dx C p:Addr} {name:Str} {as:List (Option AV)} {i j:Nat} {av:AV} {v:Value} {Q:Unit→Shared→Prop} (S:St w ρ z ((L,FrO m)::Δ) s) (hj:Δ[j]?=some (x,SlotO C dx as)) (hdx:Has s dx (EntO []))
 (hs:findIn (hdp.heap_1_39 w.params) (.ref C) "__setattr__"=some (some (.builtin "object.__setattr__"))) (hp:plainOver (hdp.heap_1_39 w.params) C=true) (ht:takerIn (hdp.heap_1_39 w.params) C name=some (some (.ref p))) (hT:typeIn (hdp.heap_1_39 w.params) (.ref p)=some (.type "member_descriptor")) (hi:slotIn (hdp.heap_1_39 w.params) p C=some i)
 (hlt:i<as.length) (hz:as.length<1000) (ha:av.is v) (h:∀ s',St w ρ z ((L,FrO m)::Δ.set j (x,SlotO C dx (as.set i (some av)))) s'→Q () s'):wpAny (model PG w) A (setAttr (.ref x) name v) Q E s:=by
  obtain ⟨od,ed,es,n,rfl,hr⟩:=hdx
  obtain ⟨f,pre,ox,post,F,N,h1,h2,ex,⟨sl,rfl,hsz,hsl⟩,back⟩:=S.kone j hj
  refine set_slot F S.wf.K N ⟨ex,rfl,rfl,ed⟩ hs hp ht hT hi (by exact ar243 hlt hz) rfl rfl (upd_of h1 h2) fun h' F' N'=>h _ (back h' _ (SlotO C dx (as.set i (some av))) _ F' N' ⟨_,rfl,?_,fun k=>?_⟩)
  ·simp;exact ar314 hsz hlt
  ·refine (?_:(i<(sl++Array.replicate (i+1 - sl.size) none).size)→_) (by simp;exact ar170)
   intro hsize
   by_cases q:k=i
   ·subst q
    rw [List.getElem?_set_self hlt,Array.getElem?_setIfInBounds_self_of_lt hsize]
    exact ⟨v,rfl,ha⟩
   ·rw [List.getElem?_set_ne (Ne.symm q),Array.getElem?_setIfInBounds_ne (Ne.symm q)]
    refine (?_:(((sl++Array.replicate (i+1 - sl.size) (none:Option Value))[k]?).join=(sl[k]?).join)→_) (by
     rw [Array.getElem?_append]
     split
     ·rfl
     ·rename_i hk
      rw [Array.getElem?_replicate]
      rw [Array.getElem?_eq_none (by exact ar5 hk)]
      split <;> rfl)
    intro e
    rw [e];exact hsl k
theorem mk_inst {C fI:Addr} {args:List Value} {Q:VP} (S:St w ρ z ((L,FrO m)::Δ) s) (hne:Δ≠[]) (hm:makesIn (hdp.heap_1_39 w.params) C=true) (hi:findIn (hdp.heap_1_39 w.params) (.ref C) "__init__"=some (some (.ref fI))) (hf:isFn (hdp.heap_1_39 w.params) (.ref fI)=true)
 (h:∀ x dx s',St w ρ z ((L,FrO m)::(x,fun o=>o=instObj C dx)::(dx,EntO [])::Δ) s' →
 codeAny (model PG w) (A.under (.builtin "type.__call__" ⟨.ref C::args,[]⟩)) (.call (.ref fI) ⟨.ref x::args,[]⟩) (InitBack x fun r s'=>match r with | .ok (.ret v)=>Q v s' | .ok _=>False | .error e=>E e s') s'):wpAny (model PG w) A (call (.ref C) args) Q E s:=by
  refine (let g:Prop:=_;(?_:g))
  obtain ⟨f,F⟩:=S.kn2 hne
  refine (?_:_→_→_→_) F.1 F.2.1 F.2.2
  intro F N back
  refine call_cls F S.wf.K N hm hi hf fun x dx h' F' N' hlt hlt'=>?_
  have S':St w ρ z ((L,FrO m)::(x,fun o=>o=instObj C dx)::(dx,EntO [])::Δ) { s with heap:=h',toks:=s.toks }:=back h' x _ dx _ (fun o=>o=instObj C dx) (EntO []) s.toks F' N' hlt hlt' rfl ⟨[],0,rfl,.nil⟩
  exact h x dx _ S'
end
section
mutual
inductive Rd (z:Z):AV→PyData→Prop where
 | i (n:Int):Rd z (.i n) (.int n)
 | s (x:Str):Rd z (.s x) (.str x)
 | tup {a as ds}:Fz z a (TupO as)→Rds z as ds→Rd z (.v (.ref a)) (.tuple ds)
inductive Rds (z:Z):List AV→List PyData→Prop where
 | nil:Rds z [] []
 | cons {a d as ds}:Rd z a d→Rds z as ds→Rds z (a::as) (d::ds)
end
mutual
theorem Rd.reads {z:Z} {h:Heap} (hf:∀ a o,z a=some o→h.get? a=some o):∀ {a d},Rd z a d→∀ {v},a.is v→∃ l,Reads h v d l
 | _,_,.i n,v,⟨t,e⟩=>by subst e;exact ⟨_,.int n t⟩
 | _,_,.s x,v,⟨t,e⟩=>by subst e;exact ⟨_,.str x t⟩
 | _,_,.tup hz hr,v,e=>by
  cases e
  obtain ⟨o,ez,items,n,rfl,hrel⟩:=hz
  obtain ⟨l,hl'⟩:=hr.reads hf hrel
  exact ⟨_,.tuple (hf _ _ ez) rfl rfl hl'⟩
theorem Rds.reads {z:Z} {h:Heap} (hf:∀ a o,z a=some o→h.get? a=some o):∀ {as ds},Rds z as ds→∀ {vs},ARel as vs→∃ l,ReadsAll h vs ds l
 | _,_,.nil,_,.nil=>⟨_,.nil⟩
 | _,_,.cons h r,_,.cons a ra=>by
  obtain ⟨l1,h1⟩:=h.reads hf a
  obtain ⟨l2,h2⟩:=r.reads hf ra
  exact ⟨_,.cons h1 h2⟩
end
inductive Lex (A:Around) (s:Shared) (fin:Bool):List (Value×Value)→Bool→Prop where
 | nil:Lex A s fin [] fin
 | eq {x y r k}:EqAt A s x y true→Lex A s fin r k→Lex A s fin ((x,y)::r) k
 | ne {x y r k}:EqAt A s x y false→(∀ (prog:Program) (w:World) (E:VP) (Q:VP),Q (.bool k) s→wpAny (model prog w) A (richCompare .Lt x y) Q E s)→Lex A s fin ((x,y)::r) k
open AutoSeq1 (wpAny_loadPart') in
theorem tuple_lt_meets (l b:Addr) (items items2:Array Value) (n n2:Nat) (dd dd2:Option Addr) (sl sl2:Array (Option Value)) (k:Bool) :
 Meets (Builtin.«tuple.__lt__» ⟨[.ref l,.ref b],[]⟩)
 (fun A R s=>s.heap.get? l=some { cls:=.type "tuple",dict:=dd,data:=.seq items n,slots:=sl }∧s.heap.get? b=some { cls:=.type "tuple",dict:=dd2,data:=.seq items2 n2,slots:=sl2 } ∧
 Lex A.in1 s (decide (items.size<items2.size)) (items.toList.zip items2.toList) k∧R (.ok (.ret (.bool k))) s):=
  .of_wp fun prog w A R s h=>by
   obtain ⟨hp,g,d,tk,os⟩:=s;obtain ⟨hl,hb,he,h⟩:=h
   refine (?_:_→_) (AutoSeq1.sub_tuple_tuple)
   intro f2
   wp_walk using wpAny_loadPart' hl,wpAny_loadPart' hb,wpAny_forIn_list _ (fun rest b s'=>b.1=none∧s'=⟨hp,g,d,tk,os⟩∧Lex A.in1 ⟨hp,g,d,tk,os⟩ (decide (items.size<items2.size)) rest k) _
   case turn=>
    rintro ⟨y,x⟩ rest b s' ⟨hb',rfl,hx⟩
    cases hx with
    | eq h1 h2=>
     refine wpAny_bind (h1 prog w _ _ ?_)
     wp_walk
     exact ⟨rfl,rfl,h2⟩
    | ne h1 h2=>
     refine wpAny_bind (h1 prog w _ _ ?_)
     wp_walk using h2 prog w
     exact ⟨_,rfl,h⟩
   case fin=>
    rintro ⟨b1,b2⟩ s' ⟨hb',rfl,hx⟩
    simp only at hb'
    subst hb'
    cases hx
    wp_walk
    exact ⟨_,rfl,by simpa [Builtin.Tuple.tupleCompareSizes] using h⟩
   case h=>
    exact ⟨rfl,rfl,he⟩
end
section
variable {w:World} {A:Around} {E:VP} {s:Shared} {ρ:Rest} {z:Z} {Δ:Ds} {env:Env} {L:Addr} {m:Loc} {F:Addr×OP}
theorem St.grow (S:St w ρ z (F::Δ) s) {h':Heap} {t:Nat} (hk:∀ b o,s.heap.get? b=some o→h'.get? b=some o):St w ρ z (F::Δ) { s with heap:=h',toks:=t }:=by
 refine ⟨S.wf,fun a o e=>hk _ _ (S.fr a o e),fun p hp=>?_,S.nd,S.lo,?_,S.g,S.d,S.os⟩
 ·obtain ⟨h1,o,e⟩:=S.own p hp
  refine (?_:_→_→_) e.1 e.2
  intro e h2
  exact ⟨h1,o,hk _ _ e,h2⟩
 ·obtain ⟨h1,o,e⟩:=S.own _ (.head _)
  refine (?_:_→_→_) e.1 e.2
  intro e h2
  exact Nat.le_trans (S.lo _ (.head _)) (Nat.le_of_lt (Heap.lt_size (hk _ _ e)))
theorem St.grow1 (S:St w ρ z (F::Δ) s) {h':Heap} {t:Nat} {a:Addr} {o:Obj} {P:OP} (hk:∀ b o,s.heap.get? b=some o→h'.get? b=some o) (ha:s.heap.objs.size≤a) (he:h'.get? a=some o) (hP:P o):St w ρ z (F::(a,P)::Δ) { s with heap:=h',toks:=t }:=by
 have S':=S.grow (t:=t) hk
 refine (?_:(∀ b o,s.heap.get? b=some o→b≠a)→_) (fun b o e q=>by subst q;exact absurd (Heap.lt_size e) (Nat.not_lt.mpr ha))
 intro hna
 refine (?_:(((a,P)::F::Δ).Perm (F::(a,P)::Δ))→_) (List.Perm.swap ..)
 intro hp1
 refine St.perm (Δ:=(a,P)::F::Δ) ⟨S.wf,S'.fr,fun p hp=>?_,?_,fun p hp=>?_,S'.sz,S.g,S.d,S.os⟩ hp1.symm
 ·rcases List.mem_cons.mp hp with rfl | hp
  ·refine ⟨?_,o,he,hP⟩
   cases q:z a with
   | none=>rfl
   | some o'=>exact absurd rfl (hna _ _ (S.fr _ _ q))
  ·exact S'.own p hp
 ·rw [List.map_cons,List.nodup_cons]
  refine ⟨fun hm=>?_,S.nd⟩
  obtain ⟨p,hp⟩:=List.mem_map.mp hm
  refine (?_:_→_→_) hp.1 hp.2
  intro hp e
  obtain ⟨_,o',e'⟩:=S.own p hp
  refine (?_:_→_) e'.1
  intro e'
  exact hna _ _ e' e
 ·rcases List.mem_cons.mp hp with rfl | hp
  ·exact Nat.le_trans S.sz ha
  ·exact S.lo p hp
theorem St.push1 (S:St w ρ z (F::Δ) s) {o:Obj} {P:OP} {t:Nat} (hf:o.isFreed=false) (hP:P o):St w ρ z (F::(s.heap.objs.size,P)::Δ) { s with heap:=s.heap.push o,toks:=t }:=
 S.grow1 (fun b o e=>Heap.get?_push_of_some _ e) (Nat.le_refl _) (Heap.get?_push_size _ hf) hP
theorem ListO.plain {l:Addr} {vs:List AV} (h:Has s l (ListO vs)):∃ items n,IsL s.heap l items n∧ARel vs items.toList:=by
 obtain ⟨o,e,items,n,rfl,r⟩:=h
 exact ⟨items,n,e,r⟩
theorem ARel.toArray {vs:List AV} {items:Array Value} (r:ARel vs items.toList):∃ xs:List Value,items=xs.toArray∧ARel vs xs:=⟨items.toList,by simp,r⟩
theorem mk_tup {as:List AV} {vs:List Value} {Q:VP} (S:St w ρ z (F::Δ) s) (ha:ARel as vs) (hz:as.length≤1000)
 (k:∀ q z' s',Sub z z'→Fz z' q (TupO as)→St w ρ z' (F::Δ) s'→Q (.ref q) s'):vs.length≤sizeLine∧Q (.ref s.heap.objs.size) { s with heap:=s.heap.push { cls:=.type "tuple",data:=.seq vs.toArray } }:=by
  refine (?_:_→_) (ha.length)
  intro h1
  refine ⟨by rw [sizeLine_eq];exact ar3 h1 hz,?_⟩
  obtain ⟨z',h2⟩:=St.freeze1 (S.push1 (t:=s.toks) (o:={ cls:=.type "tuple",data:=.seq vs.toArray }) (P:=TupO as) rfl ⟨_,_,rfl,ha⟩)
  refine (?_:_→_→_→_) h2.1 h2.2.1 h2.2.2.2
  intro h2 h3 h4
  exact k _ z' _ h2 h3 h4
theorem mk_list {as:List AV} {vs:List Value} {Q:VP} (S:St w ρ z (F::Δ) s) (ha:ARel as vs) (hz:as.length≤1000)
 (k:∀ q s',St w ρ z (F::(q,ListO as)::Δ) s'→Q (.ref q) s'):vs.length≤sizeLine∧Q (.ref s.heap.objs.size) { s with heap:=s.heap.push { cls:=.type "list",data:=.seq vs.toArray } }:=by
  refine (?_:_→_) (ha.length)
  intro h1
  exact ⟨by rw [sizeLine_eq];lia,k _ _ (S.push1 (t:=s.toks) (o:={ cls:=.type "list",data:=.seq vs.toArray }) (P:=ListO as) rfl ⟨_,_,rfl,ha⟩)⟩
theorem b_tuple {l:Addr} {vs:List AV} {Q:VP} (S:St w ρ z (F::Δ) s) (h:Has s l (ListO vs)) (hz:vs.length≤1000)
 (k:∀ q z' s',Sub z z'→Fz z' q (TupO vs)→St w ρ z' (F::Δ) s'→Q (.ref q) s'):wpAny (model PG w) A (call (.type "tuple") [.ref l]) Q E s:=by
  refine (let Gl:Prop:=_;(?_:Gl))
  obtain ⟨items,n,hl,r⟩:=ListO.plain h
  refine (?_:_→_) (r.sizeA)
  intro h1
  refine call_tuple_list ⟨_,hl,rfl,_,rfl⟩ (fun h' hk=>?_) (by rw [sizeLine_eq];exact ar3 h1 hz)
  have S1:St w ρ z (F::Δ) { s with heap:=h' }:=S.grow (t:=s.toks) hk
  obtain ⟨z',h2⟩:=St.freeze1 (S1.push1 (t:=s.toks) (o:={ cls:=.type "tuple",data:=.seq items }) (P:=TupO vs) rfl ⟨_,_,rfl,r⟩)
  refine (?_:_→_→_→_) h2.1 h2.2.1 h2.2.2.2
  intro h2 h3 h4
  exact k _ z' _ h2 h3 h4
theorem b_list {l:Addr} {vs:List AV} {Q:VP} (S:St w ρ z (F::Δ) s) (h:Has s l (ListO vs)) (hz:vs.length≤1000)
 (k:∀ q s',St w ρ z (F::(q,ListO vs)::Δ) s'→Q (.ref q) s'):wpAny (model PG w) A (call (.type "list") [.ref l]) Q E s:=by
  refine (let Gl:Prop:=_;(?_:Gl))
  obtain ⟨items,n,hl,r⟩:=ListO.plain h
  refine (?_:_→_) (r.sizeA)
  intro h1
  refine call_list_seq l (.inl rfl) hl rfl rfl (fun h' c' hk he=>?_) (by rw [sizeLine_eq];lia)
  exact k _ _ (S.grow1 (t:=s.toks) hk (Nat.le_refl _) he ⟨_,_,rfl,r⟩)
theorem b_tlen {l:Addr} {vs:List AV} {Q:VP} (S:St w ρ z Δ s) (h:Has s l (TupO vs)) (hz:vs.length≤1000000) (k:∀ t s',St w ρ z Δ s'→Q (.int vs.length t) s'):wpAny (model PG w) A (call (.builtin "len") [.ref l]) Q E s:=by
 refine (let Gl:Prop:=_;(?_:Gl))
 obtain ⟨items,hl⟩:=TupO.isT h
 refine (?_:_→_→_) hl.1 hl.2
 intro hl r
 refine (?_:_→_) (r.sizeA)
 intro h1
 exact len_tuple (by obtain ⟨o,e,c,n,d⟩:=hl;exact ⟨o,e,c,n,d⟩) (by lia) (by rw [h1];exact k _ _ S.toks)
theorem o_addl {a b:Addr} {vs ws:List AV} {Q:VP} (S:St w ρ z (F::Δ) s) (ha:Has s a (ListO vs)) (hb:Has s b (ListO ws)) (hz:vs.length+ws.length≤1000)
 (k:∀ q s',St w ρ z (F::(q,ListO (vs++ws))::Δ) s'→Q (.ref q) s'):wpAny (model PG w) A (binaryOp .Add (.ref a) (.ref b)) Q E s:=by
  refine (let Gl:Prop:=_;(?_:Gl))
  obtain ⟨i1,n1,h1⟩:=ListO.plain ha
  refine (?_:_→_→_) h1.1 h1.2
  intro h1 r1
  obtain ⟨i2,n2,h2⟩:=ListO.plain hb
  refine (?_:_→_→_) h2.1 h2.2
  intro h2 r2
  refine (?_:_→_) (r1.sizeA)
  intro e1
  refine (?_:_→_) (r2.sizeA)
  intro e2
  refine P.add_list h1 h2 (k _ _ (S.push1 (t:=s.toks) rfl ⟨_,_,rfl,?_⟩)) (by rw [sizeLine_eq];exact ar389 e1 e2 hz)
  rw [Array.toList_append];exact r1.append r2
theorem slicePick_drop (items:Array Value) (k:Nat) (h:k≤items.size):slicePick items (some (k:Int)) none none=(items.toList.drop k).toArray:=by
 refine (?_:(sliceBounds (some (k:Int)) none none items.size=((k:Int),(items.size:Int),1))→_) (by
  simp only [sliceBounds,Option.getD_none]
  refine (?_:(¬ ((k:Int)<0))→_) (by exact ar15)
  intro h1
  simp only [h1,if_false,show (1:Int) > 0 by decide,if_true]
  congr 1
  exact ar425 h h1)
 intro e
 unfold slicePick
 rw [e]
 simp only
 rw [sliceRange_one,pick_run,List.take_of_length_le (by simp)]
theorem slicePick_take (items:Array Value) (k:Nat):slicePick items none (some (k:Int)) none=(items.toList.take k).toArray:=by
 refine (?_:(sliceBounds none (some (k:Int)) none items.size=(((0:Nat):Int),((min k items.size:Nat):Int),1))→_) (by
  simp only [sliceBounds,Option.getD_none]
  refine (?_:(¬ ((k:Int)<0))→_) (by exact ar15)
  intro h1
  simp only [h1,if_false,show (1:Int) > 0 by decide,if_true]
  congr 2
  exact ar426 h1)
 intro e
 unfold slicePick
 rw [e]
 simp only
 rw [sliceRange_one,pick_run]
 simp [List.take_eq_take_iff]
theorem sl_list {l:Addr} {vs ws:List AV} {vl vu:Value} {lo hi:Option Int} {Q:VP} (S:St w ρ z (F::Δ) s) (h:Has s l (ListO vs)) (pl:IsPart vl lo) (pu:IsPart vu hi) (hz:vs.length≤1000)
 (hp:∀ items:Array Value,items.size=vs.length→∀ xs,ARel vs items.toList→xs=slicePick items lo hi none→ARel ws xs.toList)
 (k:∀ q s',St w ρ z (F::(q,ListO ws)::Δ) s'→Q (.ref q) s'):∃ l' items lo hi,(Value.ref l)=.ref l'∧s.heap.IsList l' items∧items.size≤sizeLine∧IsPart vl lo∧IsPart vu hi ∧
 Q (.ref (s.heap.objs.size+1)) { s with heap:=(s.heap.push { cls:=.type "slice",data:=.fields #[vl,vu,.none] }).push { cls:=.type "list",data:=.seq (slicePick items lo hi none) } }:=by
  refine (let Gl:Prop:=_;(?_:Gl))
  obtain ⟨items,n,hl⟩:=ListO.plain h
  refine (?_:_→_→_) hl.1 hl.2
  intro hl r
  refine (?_:_→_) (r.sizeA)
  intro h1
  refine ⟨l,items,lo,hi,rfl,⟨_,hl,rfl,_,rfl⟩,by rw [sizeLine_eq];lia,pl,pu,k _ _ ?_⟩
  refine S.grow1 (t:=s.toks) (fun b o e=>Heap.get?_push_of_some _ (Heap.get?_push_of_some _ e)) (Nat.le_succ _) (o:={ cls:=.type "list",data:=.seq (slicePick items lo hi none) }) ?_ ⟨_,_,rfl,hp items h1 _ r rfl⟩
  rw [← Heap.size_push s.heap { cls:=.type "slice",data:=.fields #[vl,vu,.none] }]
  exact Heap.get?_push_size _ rfl
theorem ARel.at {vs:List AV}:∀ {xs:List Value},ARel vs xs→∀ {i:Nat} {x:Value},xs[i]?=some x→∃ a,vs[i]?=some a∧a.is x:=by
 intro xs r
 induction r with
 | nil=>intro i x h;simp at h
 | cons h r ih=>
  intro i x e
  cases i with
  | zero=>simp at e;subst e;exact ⟨_,rfl,h⟩
  | succ i=>simp at e;obtain ⟨a,h1,h2⟩:=ih e;exact ⟨a,by simpa using h1,h2⟩
theorem allI (bs:List Bool):(List.range bs.length).all (fun i=>bs.getD i false)=bs.all id:=by
 induction bs with
 | nil=>rfl
 | cons b r ih=>
  rw [List.length_cons,List.range_succ_eq_map,List.all_cons,List.all_map,List.all_cons,← ih]
  rfl
theorem anyI (bs:List Bool):(List.range bs.length).any (fun i=>bs.getD i false)=bs.any id:=by
 induction bs with
 | nil=>rfl
 | cons b r ih=>
  rw [List.length_cons,List.range_succ_eq_map,List.any_cons,List.any_map,List.any_cons,← ih]
  rfl
noncomputable abbrev bAV (b:Bool):AV:=.v (.bool b)
theorem truth_bools (items:Array Value) (bs:List Bool) (r:ARel (bs.map bAV) items.toList):TruthOf PG w A (fun i v=>items[i]?=some v) (fun i=>bs.getD i false):=by
 intro i v s Q E hP hQ
 refine (let Gl:Prop:=_;(?_:Gl))
 obtain ⟨a,h1,h2⟩:=r.at (i:=i) (x:=v) (by simpa using hP)
 rw [List.getElem?_map] at h1
 cases hb:bs[i]? with
 | none=>rw [hb] at h1;cases h1
 | some b=>
  rw [hb] at h1;cases h1;cases h2
  refine (?_:(bs.getD i false=b)→_) (by rw [List.getD_eq_getElem?_getD,hb];rfl)
  intro this
  change Q (bs.getD i false) s at hQ
  rw [this] at hQ
  exact wpAny_truthy_bool hQ
theorem b_all {l:Addr} {bs:List Bool} {Q:VP} (S:St w ρ z (F::Δ) s) (R:Room A 0) (h:Has s l (ListO (bs.map bAV)))
 (k:∀ s',St w ρ z (F::Δ) s'→Q (.bool (bs.all id)) s'):wpAny (model PG w) A (call (.builtin "all") [.ref l]) Q E s:=by
  refine (let Gl:Prop:=_;(?_:Gl))
  obtain ⟨items,n,hl,r⟩:=ListO.plain h
  refine (?_:(s.heap.IsList l items)→_) (⟨_,hl,rfl,_,rfl⟩)
  intro hIL
  refine (?_:(items.size=bs.length)→_) (by rw [r.sizeA];simp)
  intro hsz
  refine call_all_walk (wpAny_pyIter_list hIL ⟨_,_,_,_,_,_,_,rfl,Walks.list (A:=A.in1) R.hd s.heap.objs.size l (Nat.ne_of_lt (Heap.lt_size hl)) items,⟨⟨_,Heap.get?_push_size _ rfl,rfl,rfl⟩,hIL.push _⟩,truth_bools items bs r,fun h' tk hk=>?_⟩)
  rw [hsz,allI]
  refine k _ (S.grow fun b o e=>hk b o ?_ (Heap.get?_push_of_some _ e))
  simp;exact Nat.ne_of_lt (Heap.lt_size e)
theorem b_any {l:Addr} {bs:List Bool} {Q:VP} (S:St w ρ z (F::Δ) s) (R:Room A 0) (h:Has s l (ListO (bs.map bAV)))
 (k:∀ s',St w ρ z (F::Δ) s'→Q (.bool (bs.any id)) s'):wpAny (model PG w) A (call (.builtin "any") [.ref l]) Q E s:=by
  refine (let Gl:Prop:=_;(?_:Gl))
  obtain ⟨items,n,hl,r⟩:=ListO.plain h
  refine (?_:(s.heap.IsList l items)→_) (⟨_,hl,rfl,_,rfl⟩)
  intro hIL
  refine (?_:(items.size=bs.length)→_) (by rw [r.sizeA];simp)
  intro hsz
  refine call_any_walk (wpAny_pyIter_list hIL ⟨_,_,_,_,_,_,_,rfl,Walks.list (A:=A.in1) R.hd s.heap.objs.size l (Nat.ne_of_lt (Heap.lt_size hl)) items,⟨⟨_,Heap.get?_push_size _ rfl,rfl,rfl⟩,hIL.push _⟩,truth_bools items bs r,fun h' tk hk=>?_⟩)
  rw [hsz,anyI]
  refine k _ (S.grow fun b o e=>hk b o ?_ (Heap.get?_push_of_some _ e))
  simp;exact Nat.ne_of_lt (Heap.lt_size e)
theorem ARel.ints:∀ {ns:List Int} {xs:List Value},ARel (ns.map AV.i) xs→IntsAre xs ns
 | [],_,.nil=>.nil
 | n::ns,_,.cons h r=>by obtain ⟨t,rfl⟩:=h;exact .cons n t (ARel.ints r)
theorem ARel.strs:∀ {ns:List Str} {xs:List Value},ARel (ns.map AV.s) xs→StrsAre xs ns
 | [],_,.nil=>.nil
 | n::ns,_,.cons h r=>by obtain ⟨t,rfl⟩:=h;exact .cons n t (ARel.strs r)
theorem ints_ARel {ns:List Int} {xs:List Value} (h:IntsAre xs ns):ARel (ns.map AV.i) xs:=by
 induction h with
 | nil=>exact .nil
 | cons n t r ih=>exact .cons ⟨t,rfl⟩ ih
theorem strs_ARel {ns:List Str} {xs:List Value} (h:StrsAre xs ns):ARel (ns.map AV.s) xs:=by
 induction h with
 | nil=>exact .nil
 | cons n t r ih=>exact .cons ⟨t,rfl⟩ ih
theorem b_sum {l:Addr} {ns:List Int} {Q:VP} (S:St w ρ z (F::Δ) s) (R:Room A 0) (h:Has s l (ListO (ns.map AV.i)))
 (k:∀ t s',St w ρ z (F::Δ) s'→Q (.int ns.sum t) s'):wpAny (model PG w) A (call (.builtin "sum") [.ref l]) Q E s:=by
  refine (let Gl:Prop:=_;(?_:Gl))
  obtain ⟨items,n,hl⟩:=ListO.plain h
  refine (?_:_→_→_) hl.1 hl.2
  intro hl r
  refine (?_:_→_) (ARel.ints r)
  intro hi
  obtain ⟨xs,e⟩:=hi.allInts.items
  refine (?_:(ns=xs.toList.map (·.1))→_) (by rw [← hi.numsOf,← nums_intItems,← e])
  intro hns
  refine (?_:(s.heap.IsList l (intItems xs))→_) (by rw [← e];exact ⟨_,hl,rfl,n,rfl⟩)
  intro hl'
  refine sum_intListG R.hd hl' fun h' tk t' hk=>?_
  rw [preSum_eq,List.take_of_length_le (by simp),← hns]
  exact k _ _ (S.grow hk)
theorem b_max {l:Addr} {ns:List Int} {Q:VP} (S:St w ρ z (F::Δ) s) (R:Room A 0) (h:Has s l (ListO (ns.map AV.i))) (hne:ns≠[])
 (k:∀ M t s',M∈ns→(∀ a∈ns,a≤M)→St w ρ z (F::Δ) s'→Q (.int M t) s'):wpAny (model PG w) A (call (.builtin "max") [.ref l]) Q E s:=by
  refine (let Gl:Prop:=_;(?_:Gl))
  obtain ⟨items,n,hl⟩:=ListO.plain h
  refine (?_:_→_→_) hl.1 hl.2
  intro hl r
  refine (?_:_→_) (ARel.ints r)
  intro hi
  obtain ⟨xs,e⟩:=hi.allInts.items
  have hns:ns=xs.toList.map (·.1):=by rw [← hi.numsOf,← nums_intItems,← e]
  have hl':s.heap.IsList l (intItems xs):=by rw [← e];exact ⟨_,hl,rfl,n,rfl⟩
  have hsz:0<xs.size:=by
   have h3:=List.length_pos_iff.mpr hne;rw [hns,List.length_map,Array.length_toList] at h3;exact h3
  refine max_intList R.hd hl' hsz fun v h' tk hv hk=>?_
  obtain ⟨t,rfl⟩:=intItems_at hv
  refine (?_:_→_→_) ((argBest_gt (numAt xs) (xs.size - 1)).1) ((argBest_gt (numAt xs) (xs.size - 1)).2)
  intro h1 h2
  refine k _ t _ ?_ (fun a ha=>?_) (S.grow hk)
  ·rw [hns,numAt_eq];exact getD_mem (by rw [List.length_map,Array.length_toList];exact ar228 hsz h1)
  ·rw [hns] at ha
   obtain ⟨j,hj,rfl⟩:=mem_getD ha
   rw [List.length_map,Array.length_toList] at hj
   rw [← numAt_eq];exact h2 j (by exact ar227 hsz hj)
end
theorem canAll {α:Type} {f:α→PyData} (h:∀ a,(f a).canLay0=true):∀ l:List α,PyData.canLayAll0 (l.map f)=true
 | []=>rfl
 | a::l=>by rw [List.map_cons,PyData.canLayAll0,h a,canAll h l];rfl
theorem canAll' {α:Type} {f:α→PyData}:∀ {l:List α},(∀ a∈l,(f a).canLay0=true)→PyData.canLayAll0 (l.map f)=true
 | [],_=>rfl
 | a::l,h=>by rw [List.map_cons,PyData.canLayAll0,h a (.head _),canAll' fun b hb=>h b (.tail _ hb)];rfl
theorem depAll {α:Type} {f:α→PyData} {n:Nat} (h:∀ a,(f a).depth≤n):∀ l:List α,PyData.depthAll (l.map f)≤n
 | []=>Nat.zero_le _
 | a::l=>by rw [List.map_cons,PyData.depthAll];exact Nat.max_le.mpr ⟨h a,depAll h l⟩
section
variable {w:World} {A:Around} {E:VP} {s:Shared} {ρ:Rest} {z:Z} {Δ:Ds} {env:Env} {L:Addr} {m:Loc} {F:Addr×OP}
theorem lst_reads (S:St w ρ z Δ s) {a:Addr} {as:List AV} {ds:List PyData} (ha:Has s a (ListO as)) (ra:Rds z as ds):∃ l,Reads s.heap (.ref a) (.list ds) l:=by
 obtain ⟨o,e,items,n,rfl,r⟩:=ha
 obtain ⟨l,h⟩:=ra.reads S.fr r
 exact ⟨_,.list e rfl rfl h⟩
theorem tup_reads (S:St w ρ z Δ s) {a:Addr} {as:List AV} {ds:List PyData} (ha:Has s a (TupO as)) (ra:Rds z as ds):∃ l,Reads s.heap (.ref a) (.tuple ds) l:=by
 obtain ⟨o,e,items,n,rfl,r⟩:=ha
 obtain ⟨l,h⟩:=ra.reads S.fr r
 exact ⟨_,.tuple e rfl rfl h⟩
theorem room3 {A:Around} {n:Nat} (R:Room A (n+1)) {a b:Nat} (h:a≤3):A.units+min a b<cLine:=by have:=R.un;exact ar390 this h
theorem c_eql {a b:Addr} {as bs:List AV} {ds es:List PyData} {n:Nat} {Q:VP} (S:St w ρ z Δ s) (R:Room A (n+1)) (ha:Has s a (ListO as)) (hb:Has s b (ListO bs)) (ra:Rds z as ds) (rb:Rds z bs es)
 (ca:PyData.canLayAll0 ds=true) (cb:PyData.canLayAll0 es=true) (da:PyData.depthAll ds≤2) (h:Q (.bool (PyData.eqvAll ds es)) s):wpAny (model PG w) A (compareOp .Eq (.ref a) (.ref b)) Q E s:=by
  refine (let Gl:Prop:=_;(?_:Gl))
  obtain ⟨_,r1⟩:=lst_reads S ha ra
  obtain ⟨_,r2⟩:=lst_reads S hb rb
  exact compareEq_reads r1 r2 ca cb (room3 R (by show PyData.depthAll ds+1≤3;exact ar16 da)) (by rw [PyData.eqv];exact h)
theorem c_nel {a b:Addr} {as bs:List AV} {ds es:List PyData} {n:Nat} {Q:VP} (S:St w ρ z Δ s) (R:Room A (n+1)) (ha:Has s a (ListO as)) (hb:Has s b (ListO bs)) (ra:Rds z as ds) (rb:Rds z bs es)
 (ca:PyData.canLayAll0 ds=true) (cb:PyData.canLayAll0 es=true) (da:PyData.depthAll ds≤2) (h:Q (.bool (!PyData.eqvAll ds es)) s):wpAny (model PG w) A (compareOp .NotEq (.ref a) (.ref b)) Q E s:=by
  refine (let Gl:Prop:=_;(?_:Gl))
  obtain ⟨_,r1⟩:=lst_reads S ha ra
  obtain ⟨_,r2⟩:=lst_reads S hb rb
  exact compareNe_reads r1 r2 ca cb (room3 R (by show PyData.depthAll ds+1≤3;lia)) (by rw [PyData.eqv];exact h)
theorem c_eqt {a b:Addr} {as bs:List AV} {ds es:List PyData} {n:Nat} {Q:VP} (S:St w ρ z Δ s) (R:Room A (n+1)) (ha:Has s a (TupO as)) (hb:Has s b (TupO bs)) (ra:Rds z as ds) (rb:Rds z bs es)
 (ca:PyData.canLayAll0 ds=true) (cb:PyData.canLayAll0 es=true) (da:PyData.depthAll ds≤2) (h:Q (.bool (PyData.eqvAll ds es)) s):wpAny (model PG w) A (compareOp .Eq (.ref a) (.ref b)) Q E s:=by
  refine (let Gl:Prop:=_;(?_:Gl))
  obtain ⟨_,r1⟩:=tup_reads S ha ra
  obtain ⟨_,r2⟩:=tup_reads S hb rb
  exact compareEq_reads r1 r2 ca cb (room3 R (by show PyData.depthAll ds+1≤3;exact ar16 da)) (by rw [PyData.eqv];exact h)
theorem c_in {a:Addr} {x:AV} {v:Value} {as:List AV} {ds:List PyData} {d:PyData} {n:Nat} {Q:VP} (S:St w ρ z Δ s) (R:Room A (n+1)) (ha:Has s a (ListO as)) (ra:Rds z as ds) (hx:x.is v) (rx:Rd z x d)
 (ca:PyData.canLayAll0 ds=true) (cd:d.canLay0=true) (dd:d.depth≤1) (h:Q (.bool (ds.any fun y=>PyData.eqv y d)) s):wpAny (model PG w) A (compareOp .In v (.ref a)) Q E s:=by
  refine (let Gl:Prop:=_;(?_:Gl))
  obtain ⟨_,r1⟩:=lst_reads S ha ra
  obtain ⟨_,r2⟩:=rx.reads S.fr hx
  exact in_list_reads r1 r2 ca cd (by refine (?_:_→_) (R.un);intro this;exact ar92 this dd) h
theorem c_notin {a:Addr} {x:AV} {v:Value} {as:List AV} {ds:List PyData} {d:PyData} {n:Nat} {Q:VP} (S:St w ρ z Δ s) (R:Room A (n+1)) (ha:Has s a (ListO as)) (ra:Rds z as ds) (hx:x.is v) (rx:Rd z x d)
 (ca:PyData.canLayAll0 ds=true) (cd:d.canLay0=true) (dd:d.depth≤1) (h:Q (.bool (!ds.any fun y=>PyData.eqv y d)) s):wpAny (model PG w) A (compareOp .NotIn v (.ref a)) Q E s:=by
  refine (let Gl:Prop:=_;(?_:Gl))
  obtain ⟨_,r1⟩:=lst_reads S ha ra
  obtain ⟨_,r2⟩:=rx.reads S.fr hx
  exact notIn_list_reads r1 r2 ca cd (by refine (?_:_→_) (R.un);intro this;lia) h
noncomputable abbrev sAVs (xs:List Str):List AV:=xs.map AV.s
noncomputable abbrev iAVs (xs:List Int):List AV:=xs.map AV.i
theorem rds_s:∀ xs:List Str,Rds z (sAVs xs) (xs.map PyData.str)
 | []=>.nil
 | x::xs=>.cons (.s x) (rds_s xs)
theorem rds_i:∀ xs:List Int,Rds z (iAVs xs) (xs.map PyData.int)
 | []=>.nil
 | x::xs=>.cons (.i x) (rds_i xs)
theorem can_i (xs:List Int):PyData.canLayAll0 (xs.map PyData.int)=true:=canAll (fun g=>rfl) xs
theorem can_s {xs:List Str} (h:∀ x∈xs,PyData.strOk x=true):PyData.canLayAll0 (xs.map PyData.str)=true:=canAll' (fun a ha=>by show PyData.strOk a=true;exact h a ha)
theorem dep_s (xs:List Str):PyData.depthAll (xs.map PyData.str)≤2:=depAll (fun g=>Nat.zero_le _) xs
theorem any_s (xs:List Str) (x:Str):((xs.map PyData.str).any fun y=>PyData.eqv y (.str x))=decide (x∈xs):=by
 rw [List.any_map,Bool.eq_iff_iff,List.any_eq_true,decide_eq_true_iff]
 constructor
 ·rintro ⟨y,hy,h⟩
  refine (?_:(y=x)→_) (by simpa [PyData.eqv] using h)
  intro this
  exact this▸hy
 ·intro h;exact ⟨x,h,by simp [PyData.eqv]⟩
theorem any_i (xs:List Int) (x:Int):((xs.map PyData.int).any fun y=>PyData.eqv y (.int x))=decide (x∈xs):=by
 rw [List.any_map,Bool.eq_iff_iff,List.any_eq_true,decide_eq_true_iff]
 constructor
 ·rintro ⟨y,hy,h⟩
  refine (?_:(y=x)→_) (by simpa [PyData.eqv] using h)
  intro this
  exact this▸hy
 ·intro h;exact ⟨x,h,by simp [PyData.eqv]⟩
theorem eqv_s:∀ xs ys:List Str,PyData.eqvAll (xs.map PyData.str) (ys.map PyData.str)=decide (xs=ys)
 | [],[]=>rfl
 | [],_::_=>rfl
 | _::_,[]=>rfl
 | x::xs,y::ys=>by
  rw [List.map_cons,List.map_cons,PyData.eqvAll,eqv_s xs ys,PyData.eqv,Bool.eq_iff_iff]
  simp
theorem ins {a:Addr} {x:Str} {v:Value} {xs:List Str} {n:Nat} {Q:VP} (S:St w ρ z Δ s) (R:Room A (n+1)) (ha:Has s a (ListO (sAVs xs))) (hx:AV.is (.s x) v) (hok:∀ y∈x::xs,PyData.strOk y=true)
 (h:Q (.bool (decide (x∈xs))) s):wpAny (model PG w) A (compareOp .In v (.ref a)) Q E s:=
  c_in S R ha (rds_s xs) hx (.s x) (can_s fun y hy=>hok y (.tail _ hy)) (hok x (.head _)) (Nat.zero_le _) (by rw [any_s];exact h)
theorem notins {a:Addr} {x:Str} {v:Value} {xs:List Str} {n:Nat} {Q:VP} (S:St w ρ z Δ s) (R:Room A (n+1)) (ha:Has s a (ListO (sAVs xs))) (hx:AV.is (.s x) v) (hok:∀ y∈x::xs,PyData.strOk y=true)
 (h:Q (.bool (!decide (x∈xs))) s):wpAny (model PG w) A (compareOp .NotIn v (.ref a)) Q E s:=
  c_notin S R ha (rds_s xs) hx (.s x) (can_s fun y hy=>hok y (.tail _ hy)) (hok x (.head _)) (Nat.zero_le _) (by rw [any_s];exact h)
theorem notini {a:Addr} {x:Int} {v:Value} {xs:List Int} {n:Nat} {Q:VP} (S:St w ρ z Δ s) (R:Room A (n+1)) (ha:Has s a (ListO (iAVs xs))) (hx:AV.is (.i x) v)
 (h:Q (.bool (!decide (x∈xs))) s):wpAny (model PG w) A (compareOp .NotIn v (.ref a)) Q E s:=
  c_notin S R ha (rds_i xs) hx (.i x) (can_i xs) rfl (Nat.zero_le _) (by rw [any_i];exact h)
theorem c_ne_nil {a b:Addr} {as:List AV} {n:Nat} {Q:VP} (S:St w ρ z Δ s) (R:Room A (n+1)) (ha:Has s a (ListO as)) (hb:Has s b (ListO [])) (h:Q (.bool (!as.isEmpty)) s):wpAny (model PG w) A (compareOp .NotEq (.ref a) (.ref b)) Q E s:=by
 refine (let Gl:Prop:=_;(?_:Gl))
 obtain ⟨i1,n1,h1,r1⟩:=ListO.plain ha
 obtain ⟨i2,n2,h2⟩:=ListO.plain hb
 refine (?_:_→_→_) h2.1 h2.2
 intro h2 r2
 refine (?_:_→_) (r1.sizeA)
 intro e1
 refine (?_:_→_) (r2.sizeA)
 intro e2
 cases as with
 | nil=>
  refine c_nel S R ha hb .nil .nil rfl rfl (Nat.zero_le _) ?_
  exact h
 | cons x r=>
  exact RcNeAt.lists_lengths ⟨_,h1,rfl,_,rfl⟩ ⟨_,h2,rfl,_,rfl⟩ (by rw [e1,e2];rfl) R.u0 PG w E Q h
theorem c_eq_nil {a b:Addr} {as:List AV} {n:Nat} {Q:VP} (S:St w ρ z Δ s) (R:Room A (n+1)) (ha:Has s a (ListO as)) (hb:Has s b (ListO [])) (h:Q (.bool as.isEmpty) s):wpAny (model PG w) A (compareOp .Eq (.ref a) (.ref b)) Q E s:=by
 refine (let Gl:Prop:=_;(?_:Gl))
 obtain ⟨i1,n1,h1,r1⟩:=ListO.plain ha
 obtain ⟨i2,n2,h2⟩:=ListO.plain hb
 refine (?_:_→_→_) h2.1 h2.2
 intro h2 r2
 refine (?_:_→_) (r1.sizeA)
 intro e1
 refine (?_:_→_) (r2.sizeA)
 intro e2
 cases as with
 | nil=>
  refine c_eql S R ha hb .nil .nil rfl rfl (Nat.zero_le _) ?_
  exact h
 | cons x r=>
  exact eq_list_lengthsAt ⟨_,h1,rfl,_,rfl⟩ ⟨_,h2,rfl,_,rfl⟩ (by rw [e1,e2];rfl) R.u0 h
theorem it_listF {α:Type} {rel:α→Value→Prop} {l:Addr} {vs:List AV} {items:List α} {Q:VP} (S:St w ρ z (F::Δ) s) (hf:Fz z l (ListO vs)) (hp:∀ arr,ARel vs arr→PR rel items arr)
 (k:∀ it s',Nx w ρ z (.ref it) rel (fun r=>[(it,LItO l items r)]) []→St w ρ z (F::(Δ++[(it,LItO l items items)])) s'→Q (.ref it) s'):wpAny (model PG w) A (pyIter (.ref l)) Q E s:=by
  refine (let Gl:Prop:=_;(?_:Gl))
  obtain ⟨arr,hl⟩:=ListO.isL (S.fz hf)
  refine (?_:_→_→_) hl.1 hl.2
  intro hl r
  refine wpAny_pyIter_list hl (k _ _ (Nx.list fun hz S'=>hf.lst hp hz S') ?_)
  refine (S.push1 (t:=s.toks) (P:=LItO l items items) rfl ⟨0,rfl,rfl,rfl⟩).perm ?_
  exact List.Perm.cons _ List.perm_append_comm
theorem it_listO {α:Type} {rel:α→Value→Prop} {l:Addr} {vs:List AV} {items:List α} {Q:VP} (S:St w ρ z (F::Δ) s) {Δ':Ds} (hΔ:Δ.Perm ((l,ListO vs)::Δ')) (hp:∀ arr,ARel vs arr→PR rel items arr)
 (k:∀ it s',Nx w ρ z (.ref it) rel (fun r=>[(it,LItO l items r),(l,ListO vs)]) [(l,ListO vs)]→St w ρ z (F::(Δ'++[(it,LItO l items items),(l,ListO vs)])) s'→Q (.ref it) s'):wpAny (model PG w) A (pyIter (.ref l)) Q E s:=by
  refine (?_:_→_) (S.perm (hΔ.symm.cons F))
  intro S1
  obtain ⟨arr,hl⟩:=ListO.isL (S1.at 1 rfl)
  refine (?_:_→_→_) hl.1 hl.2
  intro hl r
  refine wpAny_pyIter_list hl (k _ _ (Nx.list fun hz S'=>own_lst hp S') ?_)
  refine (S1.push1 (t:=s.toks) (P:=LItO l items items) rfl ⟨0,rfl,rfl,rfl⟩).perm ?_
  exact List.Perm.cons _ (List.perm_append_comm (l₁:=Δ') (l₂:=[(_,LItO l items items),(l,ListO vs)]))
theorem it_tup {α:Type} {rel:α→Value→Prop} {l:Addr} {vs:List AV} {items:List α} {Q:VP} (S:St w ρ z (F::Δ) s) (hf:Fz z l (TupO vs)) (hp:∀ arr,ARel vs arr→PR rel items arr)
 (k:∀ it s',Nx w ρ z (.ref it) rel (fun r=>[(it,TItO l items r)]) []→St w ρ z (F::(Δ++[(it,TItO l items items)])) s'→Q (.ref it) s'):wpAny (model PG w) A (pyIter (.ref l)) Q E s:=by
  refine (let Gl:Prop:=_;(?_:Gl))
  obtain ⟨arr,⟨o,e,c1,n,c2⟩,r⟩:=TupO.isT (S.fz hf)
  refine wpAny_pyIter_tuple ⟨o,e,c1,n,c2⟩ (k _ _ (Nx.tup hf hp) ?_)
  refine (S.push1 (t:=s.toks) (P:=TItO l items items) rfl ⟨0,rfl,rfl,rfl⟩).perm ?_
  exact List.Perm.cons _ List.perm_append_comm
theorem it_str {x:Str} {t:Tok} {Q:VP} (S:St w ρ z (F::Δ) s) (ha:x.cps.all (·<128)=true)
 (k:∀ it s',Nx w ρ z (.ref it) (fun (c:Str) v=>∃ t,v=.str c t) (fun r=>[(it,SItO x r)]) []→St w ρ z (F::(Δ++[(it,SItO x (x.cps.toList.map fun c=>(⟨#[c]⟩:Str)))])) s'→Q (.ref it) s'):wpAny (model PG w) A (pyIter (.str x t)) Q E s:=by
  refine wpAny_pyIter_ascii ha (k _ _ Nx.str ?_)
  refine (S.push1 (t:=s.toks) (P:=SItO x _) rfl ⟨0,t,rfl,rfl,rfl⟩).perm ?_
  exact List.Perm.cons _ List.perm_append_comm
theorem b_sorted_s {l:Addr} {xs:List Str} {Q:VP} (S:St w ρ z (F::Δ) s) (h:Has s l (ListO (sAVs xs))) (hz:xs.length<64)
 (k:∀ q ys s',ys.Perm xs→sortedS ys=true→St w ρ z (F::(q,ListO (sAVs ys))::Δ) s'→Q (.ref q) s'):wpAny (model PG w) A (call (.builtin "sorted") [.ref l]) Q E s:=by
  refine (let Gl:Prop:=_;(?_:Gl))
  obtain ⟨items,n,hl,r⟩:=ListO.plain h
  obtain ⟨vs,rfl,r⟩:=r.toArray
  refine sorted_strs ⟨_,hl,rfl,_,rfl⟩ r.strs (by rw [r.length];simpa using hz) fun out ys h1 h2 h3=>?_
  obtain ⟨e,he⟩:=sortedAll_at s.heap vs out
  exact k _ ys _ h2 h3 (S.grow1 (t:=s.toks) (fun g g=>sortedAll_old) (Nat.le_succ _) he ⟨_,_,rfl,strs_ARel h1⟩)
end
theorem bindL_out {k:Str→Option NameKind} {x:Str}:∀ (bs:List (Str×Value)) (acc:Str→Option Value),x ∉ bs.map (·.1)→PySem.bindL k bs acc x=acc x
 | [],_,_=>rfl
 | (n,v)::r,acc,h=>by
  simp only [List.map_cons,List.mem_cons,not_or] at h
  unfold PySem.bindL
  rw [bindL_out r _ h.2]
  split
  ·simp [h.1]
  ·rfl
theorem bindL_in {k:Str→Option NameKind} {x:Str} {a:AV}:∀ {bs:List (Str×Value)} {mA:Loc} (acc:Str→Option Value),BRel bs mA→(bs.map (·.1)).Nodup→lk mA x=some a→k x=some .local→∃ v,PySem.bindL k bs acc x=some v∧a.is v
 | _,_,_,.nil,_,h,_=>by simp [lk] at h
 | _,_,acc,.cons (x:=y) (v:=v) (a:=b) ha r,hn,h,hk=>by
  rw [List.map_cons,List.nodup_cons] at hn
  unfold lk at h
  unfold PySem.bindL
  by_cases q:x=y
  ·subst q
   rw [if_pos rfl] at h;cases h
   rw [bindL_out _ _ hn.1,if_pos hk]
   exact ⟨v,by simp,ha⟩
  ·rw [if_neg q] at h
   exact bindL_in _ r hn.2 h hk
theorem bindC_out {k:Str→Option NameKind} {x:Str}:∀ (bs:List (Str×Value)) (acc:Str→Option Value),x ∉ bs.map (·.1)→bindC k bs acc x=acc x
 | [],_,_=>rfl
 | (n,v)::r,acc,h=>by
  simp only [List.map_cons,List.mem_cons,not_or] at h
  unfold PySem.bindC
  rw [bindC_out r _ h.2]
  split
  ·rfl
  ·simp [h.1]
theorem bindC_is {k:Str→Option NameKind} {x:Str}:∀ {bs:List (Str×Value)} {mA:Loc},BRel bs mA→(bs.map (·.1)).Nodup→k x≠some .local→∀ (acc:Str→Option Value),optIs (lk mA x) (if x∈bs.map (·.1) then PySem.bindC k bs acc x else none)
 | _,_,.nil,_,_,acc=>by simp [lk,optIs]
 | _,_,.cons (x:=y) (v:=v) (a:=b) (bs:=bs) (m:=m) ha r,hn,hk,acc=>by
  rw [List.map_cons,List.nodup_cons] at hn
  unfold lk PySem.bindC
  by_cases q:x=y
  ·subst q
   rw [if_pos rfl,if_pos (by simp),bindC_out _ _ hn.1,if_neg hk]
   exact ⟨v,by simp,ha⟩
  ·rw [if_neg q]
   refine (?_:_→_) (bindC_is r hn.2 hk (if k y=some .local then acc else fun z=>if z=y then some v else acc z))
   intro this
   simp only [List.map_cons,List.mem_cons,q,false_or]
   exact this
section
variable {prog:Program} {w:World} {A:Around} {E:VP} {s:Shared} {ρ:Rest} {z:Z} {Δ:Ds} {env:Env} {L:Addr} {m:Loc} {F:Addr×OP}
noncomputable def cellEs (n:Nat) (names:List (Str×NameKind)) (mA:Loc):Ds:=(cellsFrom n names []).map fun p=>(p.2,CellO (lk mA p.1))
theorem cfcC {f:Addr} {name qual:Str} {params:Arguments} {body:List Stmt} {scope:Scope} {dV kV doc pm cdv ct oc:Value} {an od:Option Addr} {osl:Array (Option Value)} {args:List Value} {mA:Loc} {Rs:Result→Shared→Prop}
 (S:St w ρ z Δ s) (ho:List.lookup f (hdp.heap_1_39 w.params)=some ⟨oc,od,.func (fnOf name qual params body scope dV kV doc pm an cdv ct),osl⟩) (hcd:codeIn (hdp.heap_1_39 w.params) cdv qual=true) {n:Nat} (hroom:Room A (n+1))
 (hbind:bindArgs (fnOf name qual params body scope dV kV doc pm an cdv ct) ⟨args,[]⟩=pure ((params.args.map (·.arg)).zip args)) (hloc:∀ x∈params.args.map (·.arg),scope.names.lookup x=some .local∨(scope.names.lookup x=some .cell∧((cellsFrom 0 scope.names []).lookup x).isSome=true)) (hm:BRel ((params.args.map (·.arg)).zip args) mA) (hnd:(params.args.map (·.arg)).Nodup)
 (hcn:((cellsFrom 0 scope.names []).map (·.1)).Nodup) (hck:∀ x∈(cellsFrom 0 scope.names []).map (·.1),scope.names.lookup x≠some .local)
 (hmm:∀ p∈m,lk mA p.1=some p.2∧scope.names.lookup p.1=some .local)
 (h:∀ L s' A' E',Room A' n→St w ρ z ((L,FrO m)::(cellEs (L+1) scope.names mA++Δ)) s'→wpAny (model prog w) A' (execs body (envOfC qual scope L f cdv)) (fun fl s''=>Rs (.ok (.ret (retOf fl))) s'') E' s')
 (hco:scope.isCoroutine=false) (hgen:scope.isGenerator=false) (hk:scope.kind=.function) :
 codeAny (model prog w) A (.call (.ref f) ⟨args,[]⟩) Rs s:=by
  refine (?_:_→_) (zip_fst_sub (params.args.map (·.arg)) args)
  intro hsub
  refine (?_:(∀ n,(cellsFrom n scope.names []).map (·.1)=(cellsFrom 0 scope.names []).map (·.1))→_) (fun n=>cellsFrom_names scope.names n 0 [] [] rfl)
  intro hnames
  refine codeAny_call_function (fd:=fnOf name qual params body scope dV kV doc pm an cdv ct) hroom.d0 (S.K _ _ ho) rfl hco hgen rfl (codeRec_of S.K hcd) (BindsTo.of_eq hbind _ _ _ _ ?_)
  refine wpAny_newFunctionEnv_cells hk (fun x hx=>?_) fun env' he s' x=>?_
  ·rcases hloc x.1 (hsub.subset (List.mem_map_of_mem hx)) with q | ⟨q,q2⟩
   ·exact .inl q
   ·refine .inr ⟨q,?_⟩
    obtain ⟨c,hc⟩:=Option.isSome_iff_exists.mp q2
    have hmem:x.1∈(cellsFrom (s.heap.objs.size+1) scope.names []).map (·.1):=by
     rw [hnames];exact List.mem_map.mpr ⟨_,PySem.mem_of_lookup hc,rfl⟩
    obtain ⟨p,hp⟩:=List.mem_map.mp hmem
    refine (?_:_→_→_) hp.1 hp.2
    intro hp e
    refine (?_:(∀ l:List (Str×Addr),(x.1∈l.map (·.1))→(l.lookup x.1).isSome=true)→_) (by
     intro l
     induction l with
     | nil=>intro h;simp at h
     | cons a r ih=>
      intro h
      rw [List.lookup_cons]
      cases hb:x.1 == a.1 with
      | true=>rfl
      | false=>exact ih (by simpa [beq_eq_false_iff_ne.mp hb] using h))
    intro this
    exact this _ hmem
  subst he
  refine ⟨S.nolim.keeps x.toInCall.keep,codeAny_func ?_⟩
  obtain ⟨h₁,tk,rfl,hk₁⟩:=x.done
  have hns:=x.toInCall.ns
  refine (?_:(∀ p∈cellsFrom (s.heap.objs.size+1) scope.names [],(cellsFrom (s.heap.objs.size+1) scope.names []).lookup p.1=some p.2)→_) (fun p hp=>
   lookup_of_mem_nodup (hnames (s.heap.objs.size+1)▸hcn) hp)
  intro hcell
  refine (?_:(s.heap.objs.size<h₁.objs.size)→_) (hns.lt)
  intro hlt
  refine h s.heap.objs.size _ _ _ hroom.deeper ?_
  refine (?_:(∀ p∈Δ,z p.1=none∧∃ o,h₁.get? p.1=some o∧p.2 o)→_) (fun p hp=>by
   obtain ⟨h1,o,e⟩:=S.own p hp
   refine (?_:_→_→_) e.1 e.2
   intro e h2
   exact ⟨h1,o,hk₁ _ _ e,h2⟩)
  intro hold
  refine (?_:(∀ a,s.heap.objs.size≤a→z a=none)→_) (fun a ha=>by
   cases q:z a with
   | none=>rfl
   | some o=>exact absurd (Heap.lt_size (S.fr _ _ q)) (Nat.not_lt.mpr ha))
  intro hz
  have hΔlt:∀ p∈Δ,p.1<s.heap.objs.size:=fun p hp=>by obtain ⟨_,o,e,_⟩:=S.own p hp;exact Heap.lt_size e
  have hces:∀ p∈cellEs (s.heap.objs.size+1) scope.names mA,s.heap.objs.size<p.1∧∃ o,h₁.get? p.1=some o∧p.2 o:=by
   intro p hp
   obtain ⟨q,hq,rfl⟩:=List.mem_map.mp hp
   refine (?_:(s.heap.objs.size<q.2)→_) (x.above q.1 q.2 hq)
   intro hl
   refine ⟨hl,?_⟩
   obtain ⟨o,e⟩:=x.cell q.1 q.2 (hcell q hq)
   refine (?_:_→_→_) e.1 e.2
   intro e hd
   refine ⟨o,e,_,hd,?_⟩
   refine (?_:(scope.names.lookup q.1≠some .local)→_) (hck q.1 (by rw [← hnames (s.heap.objs.size+1)];exact List.mem_map_of_mem hq))
   intro hkl
   refine (?_:_→_) (bindC_is (k:=fun y=>scope.names.lookup y) hm (hnd.sublist hsub) hkl (fun d=>none))
   intro this
   split at this
   ·exact this
   ·rename_i hni
    rw [bindC_out _ _ hni];exact this
  refine S.step (fun a o d e=>hk₁ _ _ e) (fun p hp=>?_) ?_ (fun p hp=>?_) (Nat.le_of_lt hlt)
  ·rcases List.mem_cons.mp hp with rfl | hp
   ·refine ⟨S.fresh,FrO.of hns fun y a e=>?_⟩
    refine (?_:(∀ (m:Loc),lk m y=some a→(y,a)∈m)→_) (by
     intro m
     induction m with
     | nil=>intro h;simp [lk] at h
     | cons p r ih=>
      intro h
      unfold lk at h
      split at h
      ·rename_i q;cases h;subst q;exact .head _
      ·exact .tail _ (ih h))
    intro hmem
    refine (?_:_→_→_) ((hmm (y,a) (hmem m e)).1) ((hmm (y,a) (hmem m e)).2)
    intro h1 h2
    exact bindL_in _ hm (hnd.sublist hsub) h1 h2
   ·rcases List.mem_append.mp hp with hp | hp
    ·refine (?_:_→_→_) ((hces p hp).1) ((hces p hp).2)
     intro h1 h2
     exact ⟨hz _ (Nat.le_of_lt h1),h2⟩
    ·exact hold p hp
  ·rw [List.map_cons,List.nodup_cons,List.map_append,List.nodup_append]
   refine ⟨fun hmem=>?_,?_,S.nd,fun a ha b hb e=>?_⟩
   ·rcases List.mem_append.mp hmem with hp | hp
    ·obtain ⟨p,hp⟩:=List.mem_map.mp hp
     refine (?_:_→_→_) hp.1 hp.2
     intro hp e
     exact Nat.lt_irrefl _ (e▸(hces p hp).1)
    ·obtain ⟨p,hp⟩:=List.mem_map.mp hp
     refine (?_:_→_→_) hp.1 hp.2
     intro hp e
     exact Nat.lt_irrefl _ (e▸hΔlt p hp)
   ·unfold cellEs
    rw [List.map_map]
    exact List.pairwise_map.mpr (x.apart.imp fun h=>h)
   ·obtain ⟨p,hp⟩:=List.mem_map.mp ha
    refine (?_:_→_→_) hp.1 hp.2
    intro hp e1
    obtain ⟨q,hq⟩:=List.mem_map.mp hb
    refine (?_:_→_→_) hq.1 hq.2
    intro hq e2
    refine (?_:_→_) ((hces p hp).1)
    intro h1
    refine (?_:_→_) (hΔlt q hq)
    intro h2
    refine (?_:(p.1=q.1)→_) (e1.trans (e.trans e2.symm))
    intro this
    rw [this] at h1
    exact absurd h1 (Nat.not_lt.mpr (Nat.le_of_lt h2))
  ·rcases List.mem_cons.mp hp with rfl | hp
   ·exact S.sz
   ·rcases List.mem_append.mp hp with hp | hp
    ·exact Nat.le_trans S.sz (Nat.le_of_lt (hces p hp).1)
    ·exact S.lo p hp
theorem cfC {f:Addr} {name qual:Str} {params:Arguments} {body:List Stmt} {scope:Scope} {dV kV doc pm cdv ct oc:Value} {an od:Option Addr} {osl:Array (Option Value)} {args:List Value} {mA:Loc} {Q:VP}
 (S:St w ρ z Δ s) (ho:List.lookup f (hdp.heap_1_39 w.params)=some ⟨oc,od,.func (fnOf name qual params body scope dV kV doc pm an cdv ct),osl⟩) (hcd:codeIn (hdp.heap_1_39 w.params) cdv qual=true) {n:Nat} (hroom:Room A (n+1))
 (hbind:bindArgs (fnOf name qual params body scope dV kV doc pm an cdv ct) ⟨args,[]⟩=pure ((params.args.map (·.arg)).zip args)) (hloc:∀ x∈params.args.map (·.arg),scope.names.lookup x=some .local∨(scope.names.lookup x=some .cell∧((cellsFrom 0 scope.names []).lookup x).isSome=true)) (hm:BRel ((params.args.map (·.arg)).zip args) mA) (hnd:(params.args.map (·.arg)).Nodup)
 (hcn:((cellsFrom 0 scope.names []).map (·.1)).Nodup) (hck:∀ x∈(cellsFrom 0 scope.names []).map (·.1),scope.names.lookup x≠some .local)
 (hmm:∀ p∈m,lk mA p.1=some p.2∧scope.names.lookup p.1=some .local)
 (h:∀ L s' A' E',Room A' n→St w ρ z ((L,FrO m)::(cellEs (L+1) scope.names mA++Δ)) s'→wpAny (model prog w) A' (execs body (envOfC qual scope L f cdv)) (fun fl s''=>Q (retOf fl) s'') E' s')
 (hco:scope.isCoroutine=false) (hgen:scope.isGenerator=false) (hk:scope.kind=.function) :
 wpAny (model prog w) A (call (.ref f) args) Q E s:=
  wpAny_call (cfcC S ho hcd hroom hbind hloc hm hnd hcn hck hmm (fun L s' A' E' R' S'=>h L s' A' E' R' S') hco hgen hk)
theorem CellO.is {c:Addr} {av:AV} (h:Has s c (CellO (some av))):∃ v,s.heap.IsCell c (some v)∧av.is v:=by
 obtain ⟨o,e,v,hd,u,rfl,hu⟩:=h
 exact ⟨u,⟨o,e,hd⟩,hu⟩
theorem ldc {x:Str} {pos:Pos} {c:Addr} {av:AV} {Q:VP} (hc:Has s c (CellO (some av))) (hcl:env.cells.lookup x=some c) (hk:env.scope.kind=.function)
 (hl:env.kindOf x=some .cell) (hdb:(x == ("__debug__":Str))=false) (h:∀ v,av.is v→Q v s):wpAny (model prog w) A (eval (.Name x pos) env) Q E s:=by
  obtain ⟨v,h1⟩:=CellO.is hc
  refine (?_:_→_→_) h1.1 h1.2
  intro h1 h2
  exact wpAny_Name (wpAny_loadName_cell hk hl hcl h1 (h v h2)) hdb
theorem storeC {x:Str} {c:Addr} {av:AV} {a₀:Option AV} {v:Value} {j:Nat} {Q:Unit→Shared→Prop} (S:St w ρ z Δ s) (hj:Δ[j]?=some (c,CellO a₀)) (hcl:env.cells.lookup x=some c) (hk:env.scope.kind=.function)
 (hl:env.kindOf x=some .cell) (ha:av.is v) (h:∀ s',St w ρ z (Δ.set j (c,CellO (some av))) s'→Q () s'):wpAny (model prog w) A (storeName env x v) Q E s:=by
  obtain ⟨o,e,v0,hd⟩:=S.at j hj
  refine (?_:_→_) hd.1
  intro hd
  refine wpAny_storeName_cell hk hl hcl ⟨o,e,hd⟩ fun h' hc hs=>h _ (S.same (t:=s.toks) j hj hs ?_)
  obtain ⟨o',e'⟩:=hc
  refine (?_:_→_→_) e'.1 e'.2
  intro e' hd'
  exact ⟨o',e',_,hd',v,rfl,ha⟩
end
example:(PySem.Challenge.rw_ir0007_01,hdp.heap_1_39)=(PySem.Challenge.rw_ir0007_01,hdp.heap_1_39):=by
 k_fill
 rfl
inductive KR:Loc→List (Str×Value)→Prop where
 | nil:KR [] []
 | cons {x a v m kvs}:a.is v→KR m kvs→KR ((x,a)::m) ((x,v)::kvs)
theorem KR.len {m kvs} (h:KR m kvs):kvs.length=m.length:=by
 induction h with
 | nil=>rfl
 | cons h t ih=>exact congrArg Nat.succ ih
theorem KR.keys:∀ {m kvs},KR m kvs→kvs.map (·.1)=m.map (·.1)
 | _,_,.nil=>rfl
 | _,_,.cons _ h=>by simp [h.keys]
theorem KR.at (x:Str):∀ {m kvs},KR m kvs→optIs (lk m x) (valueAt kvs x)
 | _,_,.nil=>rfl
 | _,_,.cons (x:=y) (v:=v) (a:=a) (m:=m) (kvs:=kvs) ha h=>by
  refine (?_:_→_) (h.at x)
  intro ih
  unfold lk valueAt
  rw [List.find?_cons]
  by_cases q:x=y
  ·subst q;simp only [if_true,decide_true];exact ⟨v,rfl,ha⟩
  ·rw [if_neg q]
   refine (?_:(decide (y=x)=false)→_) (by simpa using fun e=>q e.symm)
   intro this
   simp only [this]
   exact ih
theorem KR.storedNew (x:Str) {a:AV} {v:Value} (ha:a.is v) {m kvs} (h:KR m kvs) (hx:x ∉ m.map (·.1)):KR (setl m x a) (kvs++[(x,v)]):=by
 induction h with
 | nil=>exact .cons ha .nil
 | @cons y b u m kvs hb h ih=>
  refine (?_:(¬ x=y)→_) (fun e=>hx (by rw [e];exact .head _))
  intro q
  unfold setl
  rw [if_neg q]
  exact .cons hb (ih fun q=>hx (.tail _ q))
theorem KR.storedOld (x:Str) {a:AV} {v:Value} (ha:a.is v) {m kvs} (h:KR m kvs):(m.map (·.1)).Nodup→x∈m.map (·.1)→KR (setl m x a) (kvs.map fun kv=>if kv.1=x then (kv.1,v) else kv):=by
 induction h with
 | nil=>exact fun c hx=>nomatch hx
 | @cons y b u m kvs hb h ih=>
  intro hn hx
  rw [List.map_cons,List.nodup_cons] at hn
  unfold setl
  rw [List.map_cons]
  by_cases q:x=y
  ·subst q
   rw [if_pos rfl,if_pos rfl,map_store_of_not_mem kvs x v (by rw [h.keys];exact hn.1)]
   exact .cons ha h
  ·rw [if_neg q,if_neg fun e=>q e.symm]
   exact .cons hb (ih hn.2 ((List.mem_cons.mp hx).resolve_left q))
theorem KR.stored (x:Str) {a:AV} {v:Value} (ha:a.is v) {m kvs} (h:KR m kvs) (hn:(m.map (·.1)).Nodup):KR (setl m x a) (PySem.stored kvs x v):=by
 unfold PySem.stored
 split
 ·rename_i q
  refine h.storedOld x ha hn ?_
  rw [← h.keys]
  obtain ⟨kv,h1⟩:=List.any_eq_true.mp q
  refine (?_:_→_→_) h1.1 h1.2
  intro h1 h2
  exact List.mem_map.mpr ⟨kv,h1,by simpa using h2⟩
 ·rename_i q
  refine h.storedNew x ha fun hx=>q ?_
  rw [← h.keys] at hx
  obtain ⟨kv,h1⟩:=List.mem_map.mp hx
  refine (?_:_→_→_) h1.1 h1.2
  intro h1 h2
  exact List.any_eq_true.mpr ⟨kv,h1,by simpa using h2⟩
noncomputable def dell:Loc→Str→Loc
 | [],_=>[]
 | (k,b)::r,x=>if x=k then dell r x else (k,b)::dell r x
theorem KR.without (x:Str):∀ {m kvs},KR m kvs→KR (dell m x) (PySem.without kvs x)
 | _,_,.nil=>.nil
 | _,_,.cons (x:=y) (v:=v) hb h=>by
  refine (?_:_→_) (h.without x)
  intro ih
  unfold PySem.without at ih ⊢
  unfold dell
  rw [List.filter_cons]
  by_cases q:x=y
  ·subst q;simpa using ih
  ·refine (?_:(¬ y=x)→_) (fun e=>q e.symm)
   intro q2
   simp only [q,q2,if_false,ne_eq,not_false_eq_true,decide_true,if_true]
   exact .cons hb (by simpa using ih)
noncomputable def DictO (w:World) (m:Loc):OP:=fun o=>∃ es ep kvs,o.ExactDict∧o.data=.dict es ep∧KeysOf (strKind PG w) es∧Pairs (strKind PG w) es.toList kvs∧(kvs.map (·.1)).Nodup∧KR m kvs
section
variable {w:World} {A:Around} {E:VP} {s:Shared} {ρ:Rest} {z:Z} {Δ:Ds} {env:Env} {L:Addr} {m:Loc} {F:Addr×OP} {d:Addr} {kv:Loc}
theorem DictO.at (h:Has s d (DictO w kv)):∃ kvs ep,s.heap.DictAt (strKind PG w) d kvs ep∧KR kv kvs:=by
 refine (let g:Prop:=_;(?_:g))
 obtain ⟨o,e,es,ep,kvs,h1,h2,h3,h4,h5,h6⟩:=h
 exact ⟨kvs,ep,⟨o,es,e,h1,h2,h3,h4,h5⟩,h6⟩
theorem DictO.of {h:Heap} {kvs:List (Str×Value)} (hd:h.DictOf (strKind PG w) d kvs) (r:KR kv kvs):∃ o,h.get? d=some o∧DictO w kv o:=by
 refine (let g:Prop:=_;(?_:g))
 obtain ⟨o,es,ep,e⟩:=hd
 refine (?_:_→_→_→_→_→_→_) e.1 e.2.1 e.2.2.1 e.2.2.2.1 e.2.2.2.2.1 e.2.2.2.2.2
 intro e h1 h2 h3 h4 h5
 exact ⟨o,e,es,ep,kvs,h1,h2,h3,h4,h5,r⟩
theorem DictO.nodup (h:Has s d (DictO w kv)):(kv.map (·.1)).Nodup:=by
 obtain ⟨kvs,ep,h1⟩:=DictO.at h
 refine (?_:_→_→_) h1.1 h1.2
 intro h1 h2
 rw [← h2.keys];exact h1.nodup
theorem K_lookup (w:World):∃ o,List.lookup 191 (hdp.heap_1_39 w.params)=some o:=⟨_,by k_is⟩
theorem St.big (S:St w ρ z Δ s) {a:Addr} (h:ρ.base.objs.size≤a):(a == sysModules)=false:=by
 obtain ⟨o,e⟩:=K_lookup w
 refine (?_:_→_) (Heap.lt_size (S.wf.K _ _ e))
 intro this
 refine (?_:(191<a)→_) (Nat.lt_of_lt_of_le this h)
 intro h2
 cases q:(a == sysModules) with
 | false=>rfl
 | true=>
  refine (?_:(a=1)→_) (by simpa [sysModules] using q)
  intro e2
  rw [e2] at h2
  exact absurd h2 (by decide)
noncomputable abbrev kS (w:World):=strKind PG w
theorem kS_is (w:World) (x:Str) (t:Tok):(kS w).is x (.str x t)=true:=strKind_is PG w x t
theorem d_new {pos:Pos} {Q:VP} (S:St w ρ z (F::Δ) s) (k:∀ d s',St w ρ z (F::(d,DictO w [])::Δ) s'→Q (.ref d) s'):wpAny (model PG w) A (eval (.Dict [] [] pos) env) Q E s:=
 wpAny_Dict_empty (k _ _ (S.push1 (t:=s.toks) rfl ⟨#[],0,[],⟨rfl,rfl,rfl⟩,rfl,fun c he=>by simp at he,Pairs.nil,List.nodup_nil,.nil⟩))
theorem d_get {x:Str} {v:Value} {av:AV} {Q:VP} (S:St w ρ z Δ s) (h:Has s d (DictO w kv)) (hx:AV.is (.s x) v) (hl:lk kv x=some av) (k:∀ u s',av.is u→St w ρ z Δ s'→Q u s'):wpAny (model PG w) A (getItem (.ref d) v) Q E s:=by
 obtain ⟨t,rfl⟩:=hx
 refine (let g:Prop:=_;(?_:g))
 obtain ⟨kvs,ep,h1,h2⟩:=DictO.at h
 refine (?_:_→_) (h2.at x)
 intro this
 rw [hl] at this
 obtain ⟨u,h3⟩:=this
 refine (?_:_→_→_) h3.1 h3.2
 intro h3 h4
 exact wpAny_getItem_of (kS_is w x t) h1.dictOf.mapOf h3 (k _ _ h4 S.toks)
theorem d_set {x:Str} {v u:Value} {av:AV} {j:Nat} {Q:Unit→Shared→Prop} (S:St w ρ z Δ s) (hj:Δ[j]?=some (d,DictO w kv)) (hx:AV.is (.s x) v) (ha:av.is u) (hz:kv.length≤1000) (k:∀ s',St w ρ z (Δ.set j (d,DictO w (setl kv x av))) s'→Q () s'):wpAny (model PG w) A (setItem (.ref d) v u) Q E s:=by
 obtain ⟨t,rfl⟩:=hx
 refine (?_:_→_) (S.at j hj)
 intro h
 refine (?_:_→_) (DictO.nodup h)
 intro hn
 refine (let g:Prop:=_;(?_:g))
 obtain ⟨kvs,ep,h1⟩:=DictO.at h
 refine (?_:_→_→_) h1.1 h1.2
 intro h1 h2
 refine wpAny_setItem_pairs (kS_is w x t) h1.dictOf (fun h' hd' hs=>k _ (S.same (t:=s.toks+1) j hj hs (DictO.of hd' (h2.stored x ha hn)))) (by rw [sizeLine_eq,h2.len];lia)
theorem d_in {x:Str} {v:Value} {Q:VP} (S:St w ρ z Δ s) (h:Has s d (DictO w kv)) (hd:(d == sysModules)=false) (hx:AV.is (.s x) v) (k:∀ s',St w ρ z Δ s'→Q (.bool (lk kv x).isSome) s'):wpAny (model PG w) A (compareOp .In v (.ref d)) Q E s:=by
 obtain ⟨t,rfl⟩:=hx
 refine (let g:Prop:=_;(?_:g))
 obtain ⟨kvs,ep,h1⟩:=DictO.at h
 refine (?_:_→_→_) h1.1 h1.2
 intro h1 h2
 refine wpAny_in_of (kS_is w x t) hd h1.dictOf.mapOf ?_
 refine (?_:_→_) (h2.at x)
 intro this
 refine (?_:((valueAt kvs x).isSome=(lk kv x).isSome)→_) (by
  cases e:lk kv x with
  | none=>rw [e] at this;rw [show valueAt kvs x=none from this];rfl
  | some a=>rw [e] at this;obtain ⟨u,h3,_⟩:=this;rw [h3];rfl)
 intro e
 rw [e];exact k _ S.toks
theorem d_del {x:Str} {v:Value} {j:Nat} {Q:Unit→Shared→Prop} (S:St w ρ z Δ s) (hj:Δ[j]?=some (d,DictO w kv)) (hx:AV.is (.s x) v) (hl:(lk kv x).isSome=true) (hz:kv.length≤1000) (k:∀ s',St w ρ z (Δ.set j (d,DictO w (dell kv x))) s'→Q () s'):wpAny (model PG w) A (delItem (.ref d) v) Q E s:=by
 obtain ⟨t,rfl⟩:=hx
 refine (?_:_→_) (S.at j hj)
 intro h
 refine (let g:Prop:=_;(?_:g))
 obtain ⟨kvs,ep,h1⟩:=DictO.at h
 refine (?_:_→_→_) h1.1 h1.2
 intro h1 h2
 refine (?_:((valueAt kvs x).isSome=true)→_) (by
  refine (?_:_→_) (h2.at x)
  intro this
  cases e:lk kv x with
  | none=>rw [e] at hl;cases hl
  | some a=>rw [e] at this;obtain ⟨u,h3,_⟩:=this;rw [h3];rfl)
 intro hv
 refine wpAny_delItem_slot h1.dictOf.typeIs (by decide) PySem.F.slot_dict_delitem (call_meetsIn PySem.F.slot_dict_delitem h1.dictOf.typeIs PySem.F.entry_dict_delitem (PySem.F.args_dict_delitem_2 _ _) (meets_dict_delitem_pairs (kS w) d (kS_is w x t))
  ⟨kvs,h1.dictOf,by rw [sizeLine_eq,h2.len];lia,hv,fun h' hd' hs=>k _ (S.same (t:=s.toks+1) j hj hs (DictO.of hd' (h2.without x)))⟩)
theorem gm_dict {name:Str} {id:String} {pl:Sem Bool} {Q:Value×List Value→Shared→Prop} (h:Has s d (DictO w kv)) (slot:Slot "dict" name id) (hty:typeOf (.builtin id)=pure (.type "method_descriptor"))
 (k:Q (.builtin id,[.ref d]) s):wpAny (model PG w) A (getMethod (.ref d) name pl) Q E s:=by
  refine (let g:Prop:=_;(?_:g))
  obtain ⟨o,e,es,ep,kvs,⟨h1,h2,h3⟩,_⟩:=h
  exact getMethod_builtin ⟨_,e,h1⟩ PySem.F.plainAttrs_dict slot hty (fun a q=>by cases q;exact ⟨_,e,h2⟩) k
theorem sub_dict {value slice:PySem.Expr} {x:Str} {v:Value} {av:AV} {Q:VP} (S:St w ρ z Δ s) (h:Has s d (DictO w kv)) (hx:AV.is (.s x) v) (hl:lk kv x=some av) (k:∀ u s',av.is u→St w ρ z Δ s'→Q u s')
 (hs:subscripted slice false (.ref d) v=operate [.ref d,v] (getItem (.ref d) v)):wpAny (model PG w) A (subscriptTail value slice (.ref d) v) Q E s:=by
  refine (let g:Prop:=_;(?_:g))
  obtain ⟨kvs,ep,h1⟩:=DictO.at h
  refine (?_:_→_→_) h1.1 h1.2
  intro h1 h2
  exact tail_any h1.dictOf.typeIs PySem.F.slot_dict_getitem.lookup (d_get S h hx hl k) hs
end
section
variable {w:World} {A:Around} {E:VP} {s:Shared} {ρ:Rest} {z:Z} {Δ:Ds} {X:Ds} {env:Env} {L:Addr} {m:Loc} {F:Addr×OP}
theorem asg_unpack {elts:List PySem.Expr} {x1} {pos:Pos} {vs:List AV} {q:Addr} {Q:Unit→Shared→Prop} (S:St w ρ z (F::Δ) s) (R:Room A 0) (hq:Has s q (TupO vs))
 (hn:(assignEach elts env).length=vs.length) (hst:(assignEach elts env).findIdx? (·.1)=none)
 (h:∀ xs s',ARel vs xs→St w ρ z (F::Δ) s'→wpAny (model PG w) A (assignInOrder ((assignEach elts env).map (·.2)) xs) Q E s'):wpAny (model PG w) A (assign (.Tuple elts x1 pos) env (.ref q)) Q E s:=by
  refine (let Gl:Prop:=_;(?_:Gl))
  obtain ⟨arr,⟨o,e,c1,n,c2⟩,hr⟩:=TupO.isT hq
  refine (?_:(arr.size=vs.length)→_) (by rw [← hr.length];simp)
  intro hsz
  exact wpAny_assign_Tuple R.hd ⟨o,e,c1,n,c2⟩ (by rw [hn,hsz]) hst fun h' hx=>h _ _ hr (S.grow (t:=s.toks) fun b o e=>hx b o (Nat.ne_of_lt (Heap.lt_size e)) e)
theorem items_unpack {vs:List AV} {q:Addr} {n:Nat} {Q:List Value→Shared→Prop} (S:St w ρ z (F::Δ) s) (R:Room A 0) (hq:Has s q (TupO vs)) (hn:n=vs.length)
 (h:∀ xs s',ARel vs xs→St w ρ z (F::Δ) s'→Q xs s'):wpAny (model PG w) A (unpackItems (.ref q) n none) Q E s:=by
  obtain ⟨arr,⟨o,e,c1,k,c2⟩,hr⟩:=TupO.isT hq
  refine (?_:(arr.size=vs.length)→_) (by rw [← hr.length];simp)
  intro hsz
  rw [hn,← hsz]
  exact wpAny_unpackItems_tuple R.hd ⟨o,e,c1,k,c2⟩ fun h' hx=>h _ _ hr (S.grow (t:=s.toks) fun b o e=>hx b o (Nat.ne_of_lt (Heap.lt_size e)) e)
theorem s_tup {elts:List PySem.Expr} {k:Nat} {tp:Pos} {value:PySem.Expr} {pos:Pos} {Q:Flow→Shared→Prop}
 (h:wpAny (model PG w) A (eval value env) (fun v s₁=>wpAny (model PG w) A (assign (.Tuple elts k tp) env v) (fun g=>Q .next) E s₁) E s)
 (hs:swapsWithSole [.Tuple elts k tp] value pos.line env=pure false) (hw:swappedStores [.Tuple elts k tp] value env=pure none) :
 wpAny (model PG w) A (exec (.Assign [.Tuple elts k tp] value pos) env) Q E s:=
  wpAny_Assign_stores (wpAny_mono h (fun v s₁ h₁=>by
   exact h₁) fun g g x=>x) hs hw
theorem s_swap {elts:List PySem.Expr} {k:Nat} {tp:Pos} {value:PySem.Expr} {pos:Pos} {names:List Str} {Q:Flow→Shared→Prop}
 (h:wpAny (model PG w) A (eval value env) (fun v s₁=>wpAny (model PG w) A (unpackItems v names.length none) (fun items s₂=>wpAny (model PG w) A (assignInOrder (names.reverse.map fun n=>bindName env n) items.reverse) (fun g=>Q .next) E s₂) E s₁) E s)
 (hs:swapsWithSole [.Tuple elts k tp] value pos.line env=pure false) (hw:swappedStores [.Tuple elts k tp] value env=pure (some names)) :
 wpAny (model PG w) A (exec (.Assign [.Tuple elts k tp] value pos) env) Q E s:=by
  rw [exec_Assign_arm]
  refine wpAny_bind (wpAny_standAt ?_)
  rw [hs]
  refine wpAny_bind (wpAny_pure ?_)
  rw [if_neg (by decide)]
  refine wpAny_bind (wpAny_mono h (fun v s₁ h₁=>?_) fun g g x=>x)
  rw [hw]
  refine wpAny_bind (wpAny_pure ?_)
  refine wpAny_bind (wpAny_rule (wpAny_bind (wpAny_mono h₁ (fun items s₂ h₂=>?_) fun g g x=>x)))
  exact wpAny_bind (wpAny_mono h₂ (fun g g x=>wpAny_pure x) fun g g x=>x)
noncomputable def CompGoU (w:World) (A:Around) (E:VP) (elt t iter:PySem.Expr) (ifs:List PySem.Expr) (scope:Scope) (pos:Pos) (cl:List (Str×Addr)) (env:Env) (use:Value→Sem Unit) (Q:VP) (it:Value) (s:Shared):Prop:=
 wpAny (model PG w) A (newList []) (fun acc s₃=>
  wpAny (model PG w) A (newFunctionEnv scope env.globals cl [] env.qual none .none (some env)) (fun cenv s₄=>
   codeAny (model PG w) A (.compStart (.ListComp elt [⟨t,iter,ifs,0⟩] scope pos) 0 it acc { cenv with scope:=relabel scope env }) (compPost (model PG w) A E (some use) Q acc cenv.locals) s₄) E s₃) E s
theorem s_comp {y:Str} {py:Pos} {elt t iter:PySem.Expr} {ifs:List PySem.Expr} {scope:Scope} {pos spos:Pos} {cl:List (Str×Addr)} {Q:Flow→Shared→Prop}
 (h:wpAny (model PG w) A (eval iter env) (fun x s₁=>wpAny (model PG w) A (pyIter x) (fun it s₂=>CompGoU w A E elt t iter ifs scope pos cl env (assign (.Name y py) env) (fun g=>Q .next) it s₂) E s₁) E s)
 (hsw:swapsWith (.ListComp elt [⟨t,iter,ifs,0⟩] scope pos) (some (.Name y py)) spos.line env=pure true)
 (hs:∀ x,foldedSetIterable iter env x=pure x) (hclos:closureFor scope env=pure cl) (hkind:scope.kind=.function) (hnames:∀ x∈scope.names,x.2=.local→scope.names.lookup x.1=some .local) :
 wpAny (model PG w) A (exec (.Assign [.Name y py] (.ListComp elt [⟨t,iter,ifs,0⟩] scope pos) spos) env) Q E s:=by
  rw [exec_Assign_Name_used _ _ _ _ hsw]
  refine wpAny_bind (wpAny_standAt (wpAny_bind ?_))
  exact wpAny_bind (wpAny_mono (wpAny_comprehension_free (use:=some (assign (.Name y py) env)) (Q:=fun g s'=>Q .next s') rfl hs hclos hkind hnames h) (fun g s' hq=>wpAny_pure (wpAny_pure hq)) fun g g e=>e)
theorem comp_goU {α:Type} {elt t iter:PySem.Expr} {ifs:List PySem.Expr} {scope:Scope} {pos:Pos} {cl:List (Str×Addr)} {Q:VP} {it:Value} {up:α→Loc→Loc} {J:List α→Ds} {items:List α} {y:Str} {py:Pos}
 (H:∀ C,Its w ρ z it (compEnvC scope cl C env) t up J X) (rm:Room A 0) (hcell:∀ y∈scope.names,y.2≠.cell) (hkind:scope.kind=.function) (hlen:items.length≤1000)
 (hL:env.locals=L) (hl:env.kindOf y=some .local) (hke:env.scope.kind=.function)
 (P:List α→List α→List AV→Z→Prop) (S:St w ρ z ((L,FrO m)::(Δ++J items)) s) (hP:P [] items [] z)
 (turn:∀ d a r out z' mc C D s',d++a::r=items→Sub z z'→P d (a::r) out z'→St w ρ z' ((C,FrO (up a mc))::(D,ListO out)::(L,FrO m)::(Δ++J r)) s'→∀ E',
 wpAny (model PG w) A (forIn ifs true fun c r=>if r=true then do let ok ← isTrue c (compEnvC scope cl C env) (eval c (compEnvC scope cl C env));pure (ForInStep.yield ok) else pure (ForInStep.yield r)) (fun ok s₃=>
 if ok=true then wpAny (model PG w) A (eval elt (compEnvC scope cl C env)) (fun x s₄=>∃ av z'' mc',av.is x∧Sub z' z''∧P (d++[a]) r (out++[av]) z''∧St w ρ z'' ((C,FrO mc')::(D,ListO out)::(L,FrO m)::(Δ++J r)) s₄) E' s₃
 else ∃ z'' mc',Sub z' z''∧P (d++[a]) r out z''∧St w ρ z'' ((C,FrO mc')::(D,ListO out)::(L,FrO m)::(Δ++J r)) s₃) E' s')
 (fin:∀ out z' D s',Sub z z'→P items [] out z'→St w ρ z' ((L,FrO (setl m y (.v (.ref D))))::(D,ListO out)::(Δ++X)) s'→Q .none s') :
 CompGoU w A E elt t iter ifs scope pos cl env (assign (.Name y py) env) Q it s:=by
  refine comp_core H rm hcell hkind hlen P S hP turn fun C D mc out z' s' hz hP S'=>?_
  refine (?_:(((L,FrO m)::(C,FrO mc)::(D,ListO out)::(Δ++X)).Perm ((C,FrO mc)::(D,ListO out)::(L,FrO m)::(Δ++X)))→_) (by
   refine (List.Perm.swap ..).trans (List.Perm.cons _ (List.Perm.swap ..)))
  intro hp1
  refine wpAny_assign_Name (storeL (S'.perm hp1) hL hl (by rw [hke];rfl) (av:=.v (.ref D)) rfl fun s'' S''=>?_)
  have S3:=S''.perm (Δ':=(C,FrO mc)::(D,ListO out)::(L,FrO (setl m y (.v (.ref D))))::(Δ++X)) ((List.Perm.cons _ (List.Perm.swap ..)).trans (List.Perm.swap ..))
  obtain ⟨f,hn⟩:=FrO.ns (S3.at 0 rfl)
  refine (?_:_→_) hn.1
  intro hn
  exact ⟨f,hn,fun h' hs=>fin out z' D _ hz hP (St.goC (t:=s''.toks) S3 hs)⟩
end
noncomputable def nm (k:Nat):Str:=⟨#[97+k]⟩
theorem nm_inj {a b:Nat} (h:nm a=nm b):a=b:=by
 refine (?_:((#[97+a]:Array Nat)=#[97+b])→_) (congrArg Str.cps h)
 intro this
 simp at this;exact this
theorem nm_ok:∀ k,k<7→PyData.strOk (nm k)=true:=by decide +kernel
noncomputable abbrev NM:Str:=Str.ofString "abcdefg"
theorem NM_names:(NM.cps.toList.map fun c=>(⟨#[c]⟩:Str))=(List.range 7).map nm:=by decide
noncomputable abbrev nAVs (l:List Nat):List AV:=l.map fun k=>AV.s (nm k)
theorem nAVs_s (l:List Nat):nAVs l=sAVs (l.map nm):=by simp [nAVs,sAVs]
noncomputable abbrev nRel:Nat→Value→Prop:=fun k v=>∃ t,v=.str (nm k) t
theorem nAVs_pr {l:List Nat} {xs:List Value} (h:ARel (nAVs l) xs):PR nRel l xs:=ARel.prOf (g:=fun k=>AV.s (nm k)) (fun d d h=>h) h
theorem mem_nm {k:Nat} {l:List Nat}:(nm k∈l.map nm)↔k∈l:=by
 rw [List.mem_map]
 exact ⟨fun ⟨a,h,e⟩=>nm_inj e▸h,fun h=>⟨k,h,rfl⟩⟩
structure Job where
 dur:Nat
 rank:Nat
 waits:List Nat
noncomputable abbrev Jobs:=Nat→Job
structure JOk (J:Jobs):Prop where
 dur1:∀ k,k<7→1≤(J k).dur
 dur3:∀ k,k<7→(J k).dur≤3
 rank:∀ k,k<7→(J k).rank≤3
 wl:∀ k,k<7→(J k).waits.length≤2
 wk:∀ k,k<7→∀ x∈(J k).waits,x<7
noncomputable def JobsAt (w:World) (z:Z) (J:Jobs) (a:Addr):Prop:=∃ ts ws:Nat→Addr,Fz z a (DictO w ((List.range 7).map fun k=>(nm k,.v (.ref (ts k))))) ∧
 ∀ k,k<7→Fz z (ts k) (TupO [.i (J k).dur,.i (J k).rank,.v (.ref (ws k))])∧Fz z (ws k) (ListO (nAVs (J k).waits))
theorem JobsAt.mono {w:World} {z z':Z} {J:Jobs} {a:Addr} (h:JobsAt w z J a) (hz:Sub z z'):JobsAt w z' J a:=by
 obtain ⟨ts,ws,h1⟩:=h
 refine (?_:_→_→_) h1.1 h1.2
 intro h1 h2
 exact ⟨ts,ws,h1.mono hz,fun k hk=>⟨(h2 k hk).1.mono hz,(h2 k hk).2.mono hz⟩⟩
theorem lk_names {f:Nat→AV}:∀ {l:List Nat} {k:Nat},k∈l→lk (l.map fun k=>(nm k,f k)) (nm k)=some (f k):=by
 intro l
 induction l with
 | nil=>intro k h;simp at h
 | cons a r ih=>
  intro k h
  rw [List.map_cons]
  unfold lk
  by_cases q:nm k=nm a
  ·rw [if_pos q,nm_inj q]
  ·rw [if_neg q]
   exact ih ((List.mem_cons.mp h).resolve_left fun e=>q (by rw [e]))
theorem JobsAt.lk {k:Nat} {ts:Nat→Addr} (hk:k<7):LW.lk ((List.range 7).map fun k=>(nm k,AV.v (.ref (ts k)))) (nm k)=some (.v (.ref (ts k))):=lk_names (List.mem_range.mpr hk)
section
variable {w:World} {A:Around} {E:VP} {s:Shared} {ρ:Rest} {z:Z} {Δ:Ds} {X:Ds} {env:Env} {L:Addr} {m:Loc} {F:Addr×OP}
theorem Nx.map {α β:Type} {it:Value} {rel:β→Value→Prop} {J:List β→Ds} (f:α→β) (N:Nx w ρ z it rel J X):Nx w ρ z it (fun a=>rel (f a)) (fun r=>J (r.map f)) X where
 next:=fun hz R S h=>N.next hz R S h
 stop:=fun hz R S h=>N.stop hz R S h
 self:=fun hz S h=>N.self hz S h
 go:=fun hz S h=>N.go hz S h
theorem it_names {t:Tok} {Q:VP} (S:St w ρ z (F::Δ) s)
 (k:∀ it s',Nx w ρ z (.ref it) nRel (fun r=>[(it,SItO NM (r.map nm))]) []→St w ρ z (F::(Δ++[(it,SItO NM ((List.range 7).map nm))])) s'→Q (.ref it) s'):wpAny (model PG w) A (pyIter (.str NM t)) Q E s:=
  it_str S (by decide +kernel) fun it s' N S'=>k it s' (N.map nm) (by rw [NM_names] at S';exact S')
theorem it_nF {l:Addr} {xs:List Nat} {Q:VP} (S:St w ρ z (F::Δ) s) (hf:Fz z l (ListO (nAVs xs)))
 (k:∀ it s',Nx w ρ z (.ref it) nRel (fun r=>[(it,LItO l xs r)]) []→St w ρ z (F::(Δ++[(it,LItO l xs xs)])) s'→Q (.ref it) s'):wpAny (model PG w) A (pyIter (.ref l)) Q E s:=
  it_listF S hf (fun d h=>nAVs_pr h) k
theorem Its.n {it:Value} {env:Env} {x:Str} {pos:Pos} {J:List Nat→Ds} (N:Nx w ρ z it nRel J X) (hl:env.kindOf x=some .local) (hk:env.scope.kind=.function):Its w ρ z it env (.Name x pos) (fun k m=>setl m x (.s (nm k))) J X:=
 Its.of N (Asg.name (fun k=>.s (nm k)) (fun d d h=>h) hl hk)
theorem inn {a:Addr} {x:Nat} {v:Value} {xs:List Nat} {n:Nat} {Q:VP} (S:St w ρ z Δ s) (R:Room A (n+1)) (ha:Has s a (ListO (nAVs xs))) (hx:AV.is (.s (nm x)) v) (h7:x<7) (h7s:∀ y∈xs,y<7)
 (h:Q (.bool (decide (x∈xs))) s):wpAny (model PG w) A (compareOp .In v (.ref a)) Q E s:=by
  rw [nAVs_s] at ha
  refine ins S R ha hx (fun y hy=>?_) (by rw [decide_eq_decide.mpr mem_nm];exact h)
  rcases List.mem_cons.mp hy with rfl | hy
  ·exact nm_ok x h7
  ·obtain ⟨k,hk,rfl⟩:=List.mem_map.mp hy;exact nm_ok k (h7s k hk)
theorem notinn {a:Addr} {x:Nat} {v:Value} {xs:List Nat} {n:Nat} {Q:VP} (S:St w ρ z Δ s) (R:Room A (n+1)) (ha:Has s a (ListO (nAVs xs))) (hx:AV.is (.s (nm x)) v) (h7:x<7) (h7s:∀ y∈xs,y<7)
 (h:Q (.bool (!decide (x∈xs))) s):wpAny (model PG w) A (compareOp .NotIn v (.ref a)) Q E s:=by
  rw [nAVs_s] at ha
  refine notins S R ha hx (fun y hy=>?_) (by rw [decide_eq_decide.mpr mem_nm];exact h)
  rcases List.mem_cons.mp hy with rfl | hy
  ·exact nm_ok x h7
  ·obtain ⟨k,hk,rfl⟩:=List.mem_map.mp hy;exact nm_ok k (h7s k hk)
noncomputable def MkL (Q:VP) (vs:List Value) (s:Shared):Prop:=vs.length≤sizeLine∧Q (.ref s.heap.objs.size) { s with heap:=s.heap.push { cls:=.type "list",data:=.seq vs.toArray } }
noncomputable def MkT (Q:VP) (vs:List Value) (s:Shared):Prop:=vs.length≤sizeLine∧Q (.ref s.heap.objs.size) { s with heap:=s.heap.push { cls:=.type "tuple",data:=.seq vs.toArray } }
theorem e_list {elts:List PySem.Expr} {pos:Pos} {Q:VP} (h:wpAny (model PG w) A (spliced (backTo pos (starEach elts env))) (fun vs s₁=>MkL Q vs s₁) E s):wpAny (model PG w) A (eval (.List elts pos) env) Q E s:=wpAny_List h
theorem e_tup {elts:List PySem.Expr} {k:Nat} {pos:Pos} {Q:VP} (h:wpAny (model PG w) A (spliced (backTo pos (starEach elts env))) (fun vs s₁=>MkT Q vs s₁) E s):wpAny (model PG w) A (eval (.Tuple elts k pos) env) Q E s:=wpAny_Tuple h
theorem mkT {as:List AV} {vs:List Value} {Q:VP} (S:St w ρ z (F::Δ) s) (ha:ARel as vs) (hz:as.length≤1000)
 (k:∀ q z' s',Sub z z'→Fz z' q (TupO as)→St w ρ z' (F::Δ) s'→Q (.ref q) s'):MkT Q vs s:=mk_tup S ha hz k
theorem mkL {as:List AV} {vs:List Value} {Q:VP} (S:St w ρ z (F::Δ) s) (ha:ARel as vs) (hz:as.length≤1000)
 (k:∀ q s',St w ρ z (F::(q,ListO as)::Δ) s'→Q (.ref q) s'):MkL Q vs s:=mk_list S ha hz k
theorem ain_cons {t:PySem.Expr} {ts:List PySem.Expr} {x:Value} {xs:List Value} {Q:Unit→Shared→Prop} (he:assignEach (t::ts) env=(false,assign t env)::assignEach ts env)
 (h:wpAny (model PG w) A (assign t env x) (fun d s₁=>wpAny (model PG w) A (assignInOrder ((assignEach ts env).map (·.2)) xs) Q E s₁) E s):wpAny (model PG w) A (assignInOrder ((assignEach (t::ts) env).map (·.2)) (x::xs)) Q E s:=by
  rw [he];exact wpAny_assignInOrder_more h
theorem ain_nil {Q:Unit→Shared→Prop} (h:Q () s):wpAny (model PG w) A (assignInOrder ((assignEach [] env).map (·.2)) []) Q E s:=wpAny_assignInOrder_none h
theorem perm_erase {α:Type}:∀ {l:List α} {j:Nat} {a:α},l[j]?=some a→(a::l.eraseIdx j).Perm l
 | x::r,0,a,h=>by simp at h;subst h;exact List.Perm.refl _
 | x::r,j+1,a,h=>by
  simp only [List.eraseIdx_cons_succ]
  exact (List.Perm.swap ..).trans ((perm_erase (by simpa using h)).cons x)
theorem St.freezeJ (S:St w ρ z (F::Δ) s) (j:Nat) {a:Addr} {P:OP} (hj:Δ[j]?=some (a,P)):∃ z',Sub z z'∧Fz z' a P∧St w ρ z' (F::Δ.eraseIdx j) s:=by
 obtain ⟨z',h1⟩:=St.freeze1 (S.perm ((perm_erase hj).cons F))
 refine (?_:_→_→_→_) h1.1 h1.2.1 h1.2.2.2
 intro h1 h2 h3
 exact ⟨z',h1,h2,h3⟩
theorem St.dropJ (S:St w ρ z (F::Δ) s) (j:Nat):St w ρ z (F::Δ.eraseIdx j) s:=S.sub ((List.eraseIdx_sublist _ _).cons_cons _)
theorem if_none {env:Env} {Q:Bool→Shared→Prop} (h:Q true s):wpAny (model PG w) A (forIn ([]:List PySem.Expr) true fun c r=>if r=true then do let ok ← isTrue c env (eval c env);pure (ForInStep.yield ok) else pure (ForInStep.yield r)) Q E s:=wpAny_tests_nil h
theorem if_one {env:Env} {c:PySem.Expr} {Q:Bool→Shared→Prop} (h:wpAny (model PG w) A (isTrue c env (eval c env)) Q E s):wpAny (model PG w) A (forIn [c] true fun c r=>if r=true then do let ok ← isTrue c env (eval c env);pure (ForInStep.yield ok) else pure (ForInStep.yield r)) Q E s:=wpAny_tests_one h
end
section
variable {w:World} {A:Around} {E:VP} {s:Shared} {ρ:Rest} {z:Z} {Δ:Ds} {X:Ds} {env:Env} {L:Addr} {m:Loc} {F:Addr×OP}
theorem St.frame {h₁:Heap} {t:Nat} {binds:List (Str×Value)} (S:St w ρ z Δ s) (hm:BRel binds m) (hnd:(binds.map (·.1)).Nodup) (hns:h₁.Ns s.heap.objs.size fun x=>binds.reverse.lookup x) (hk₁:∀ b o,s.heap.get? b=some o→h₁.get? b=some o) :
 St w ρ z ((s.heap.objs.size,FrO m)::Δ) { s with heap:=h₁,toks:=t }:=by
  refine (?_:(s.heap.objs.size<h₁.objs.size)→_) (hns.lt)
  intro hnew
  refine S.step (fun a o' g e=>hk₁ _ _ e) (fun p hp=>?_) ?_ (fun p hp=>?_) (Nat.le_of_lt hnew)
  ·rcases List.mem_cons.mp hp with rfl | hp
   ·exact ⟨S.fresh,FrO.of hns fun x a e=>by refine (?_:_→_) (hm.is hnd x);intro this;rw [e] at this;exact this⟩
   ·obtain ⟨h1,o',e⟩:=S.own p hp
    refine (?_:_→_→_) e.1 e.2
    intro e h2
    exact ⟨h1,o',hk₁ _ _ e,h2⟩
  ·rw [List.map_cons,List.nodup_cons]
   refine ⟨fun hm=>?_,S.nd⟩
   obtain ⟨p,hp⟩:=List.mem_map.mp hm
   refine (?_:_→_→_) hp.1 hp.2
   intro hp e
   obtain ⟨_,o',e'⟩:=S.own p hp
   refine (?_:_→_) e'.1
   intro e'
   refine (?_:(p.1=s.heap.objs.size)→_) (e)
   intro e2
   refine (?_:_→_) (Heap.lt_size e')
   intro this
   rw [e2] at this;exact Nat.lt_irrefl _ this
  ·rcases List.mem_cons.mp hp with rfl | hp
   ·exact S.sz
   ·exact S.lo p hp
theorem cfcV {f:Addr} {name qual:Str} {params:Arguments} {body:List Stmt} {scope:Scope} {dV kV doc pm cdv ct oc:Value} {an od:Option Addr} {osl:Array (Option Value)} {args vs:List Value} {bs:List (Str×Value)} {va:Str} {as:List AV} {Rs:Result→Shared→Prop}
 (S:St w ρ z Δ s) (ho:List.lookup f (hdp.heap_1_39 w.params)=some ⟨oc,od,.func (fnOf name qual params body scope dV kV doc pm an cdv ct),osl⟩) (hcd:codeIn (hdp.heap_1_39 w.params) cdv qual=true) {n:Nat} (hroom:Room A (n+1))
 (hbind:bindArgs (fnOf name qual params body scope dV kV doc pm an cdv ct) ⟨args,[]⟩=(newTuple vs >>= fun t=>pure (bs++[(va,t)]))) (hloc:∀ x∈bs.map (·.1)++[va],scope.names.lookup x=some .local) (hm:BRel bs m) (hnd:(bs.map (·.1)++[va]).Nodup) (hvs:ARel as vs) (hz:as.length≤1000)
 (h:∀ L q z' s' A' E',Sub z z'→Fz z' q (TupO as)→Room A' n→St w ρ z' ((L,FrO (m++[(va,.v (.ref q))]))::Δ) s'→wpAny (model PG w) A' (execs body (envOf qual scope L f cdv)) (fun fl s''=>Rs (.ok (.ret (retOf fl))) s'') E' s')
 (hco:scope.isCoroutine=false) (hgen:scope.isGenerator=false) (hk:scope.kind=.function) (hcell:∀ x∈scope.names,x.2≠.cell) :
 codeAny (model PG w) A (.call (.ref f) ⟨args,[]⟩) Rs s:=by
  refine codeAny_call_function (fd:=fnOf name qual params body scope dV kV doc pm an cdv ct) hroom.d0 (S.K _ _ ho) rfl hco hgen rfl (codeRec_of S.K hcd) ?_
  rw [hbind]
  refine wpAny_bind (wpAny_newObj_type (wpAny_pure ?_) (by refine (?_:_→_) (hvs.length);intro this;show vs.toArray.size≤sizeLine;rw [sizeLine_eq];simp;exact ar3 this hz))
  have S1:St w ρ z ((s.heap.objs.size,TupO as)::Δ) { s with heap:=s.heap.push { cls:=.type "tuple",data:=.seq vs.toArray } }:=S.push rfl ⟨_,_,rfl,hvs⟩
  obtain ⟨z',hz1⟩:=S1.freeze
  refine (?_:_→_→_→_) hz1.1 hz1.2.1 hz1.2.2.2
  intro hz1 hq S2
  refine (?_:(BRel (bs++[(va,.ref s.heap.objs.size)]) (m++[(va,.v (.ref s.heap.objs.size))]))→_) (by
   clear hbind hloc hnd h
   induction hm with
   | nil=>exact .cons rfl .nil
   | cons a r ih=>exact .cons a ih)
  intro hm'
  have hnm:(bs++[(va,Value.ref s.heap.objs.size)]).map (·.1)=bs.map (·.1)++[va]:=by simp
  refine wpAny_newFunctionEnv hcell (fun x hx=>hloc x.1 (hnm▸List.mem_map_of_mem hx)) (fun h₀ hns₀ hsb₀=>⟨S2.nolim.fresh _ hsb₀,codeAny_func ?_⟩) hk
  exact h _ _ z' _ _ _ hz1 hq hroom.deeper (S2.frame hm' (by rw [hnm];exact hnd) hns₀ fun b o e=>hsb₀.extBut b o (Nat.ne_of_lt (Heap.lt_size e)) (Heap.get?_push_of_some _ e))
theorem star_l {l:Addr} {vs:List AV} {Q:List Value→Shared→Prop} (S:St w ρ z (F::Δ) s) (h:Has s l (ListO vs)) (hz:vs.length≤1000) (k:∀ xs s',ARel vs xs→St w ρ z (F::Δ) s'→Q xs s'):StarOf (model PG w) A E (.ref l) Q s:=by
 obtain ⟨items,n,hl⟩:=ListO.plain h
 refine (?_:_→_→_) hl.1 hl.2
 intro hl r
 refine (?_:_→_) (r.sizeA)
 intro h1
 refine wpAny_bind (wpAny_specialOf (T:="list") ⟨_,hl,rfl⟩ PySem.F.slot_list_iter.lookup (wpAny_pure ⟨rfl,?_⟩))
 exact wpAny_collect_seq l (.inl rfl) hl rfl rfl (fun h' hk=>k _ _ r (S.grow (t:=s.toks) hk)) (by rw [sizeLine_eq];exact ar3 h1 hz)
theorem star_t {l:Addr} {vs:List AV} {Q:List Value→Shared→Prop} (S:St w ρ z (F::Δ) s) (h:Has s l (TupO vs)) (hz:vs.length≤1000) (k:∀ xs s',ARel vs xs→St w ρ z (F::Δ) s'→Q xs s'):StarOf (model PG w) A E (.ref l) Q s:=by
 obtain ⟨items,⟨o,e,c,n,d⟩,r⟩:=TupO.isT h
 refine (?_:_→_) (r.sizeA)
 intro h1
 refine wpAny_bind (wpAny_specialOf (T:="tuple") ⟨_,e,c⟩ PySem.F.slot_tuple_iter.lookup (wpAny_pure ⟨rfl,?_⟩))
 exact wpAny_collect_seq l (.inr rfl) e c d (fun h' hk=>k _ _ r (S.grow (t:=s.toks) hk)) (by rw [sizeLine_eq];exact ar3 h1 hz)
noncomputable def MthO (f:Addr) (x:Addr):OP:=fun o=>o=methodObj (.ref f) (.ref x)
theorem ga_meth {x dx C f:Addr} {name:Str} {b:Bool} {mi:Loc} {Q:VP} (S:St w ρ z (F::Δ) s) (hx:Has s x (InsO C dx)) (hdd:Has s dx (EntO mi)) (hg:plainGet (hdp.heap_1_39 w.params) C name=true) (hh:hasDictIn (hdp.heap_1_39 w.params) C=true)
 (ha:findIn (hdp.heap_1_39 w.params) (.ref C) name=some (some (.ref f))) (hn:specialIn (hdp.heap_1_39 w.params) (.ref f) "__get__"=some (some (.builtin "function.__get__"))) (ht:takesIn (hdp.heap_1_39 w.params) (.ref f)=some false) (hf:typeIn (hdp.heap_1_39 w.params) (.ref f)=some (.type "function"))
 (hcn:copiedNames.contains name=false) (hl:lk mi name=none) (h:∀ q s',St w ρ z (F::(q,MthO f x)::Δ) s'→Q (.ref q) s'):wpAny (model PG w) A (getAttr (.ref x) name b) Q E s:=by
  obtain ⟨ox,ex,rfl⟩:=hx
  obtain ⟨od,ed,es,n,rfl,hr⟩:=hdd
  refine (?_:_→_) (hr.find name)
  intro hl'
  rw [hl] at hl'
  refine (?_:(findObj (hdp.heap_1_39 w.params) C (some (dictOf es n)) name=some (.bind (.builtin "function.__get__") (.ref f)))→_) (by
   obtain ⟨cd,hc⟩:=any_some hh
   refine (?_:_→_→_) hc.1 hc.2
   intro hc hd'
   refine (?_:(W.ownOf cd (some (dictOf es n)) name=some none)→_) (by unfold W.ownOf;rw [if_pos hd'];exact hl')
   intro ho
   unfold findObj
   rw [hc,Option.bind_some,ha,Option.bind_some]
   simp only [hn,Option.bind_some,ht,ho,hcn,Bool.false_and,Bool.false_eq_true,if_false])
  intro hfo
  refine get_bind S.K ⟨ex,rfl,rfl,ed⟩ (plainGet_of hg).1 hfo (plainGet_of hg).2 (wpAny_call (fn_get (s:={ s with toks:=s.toks+1 }) S.K hf ?_))
  show wpAny _ _ (handedOut _) _ _ _
  rw [handedOut_of rfl]
  exact wpAny_pure (h _ _ (S.push1 (t:=s.toks+1) rfl rfl))
theorem e_callms {o:PySem.Expr} {name:Str} {apos pos:Pos} {args:List PySem.Expr} {Q:VP}
 (h:wpAny (model PG w) A (eval o env) (fun ov s₁=>wpAny (model PG w) A (getAttr ov name true) (fun f s₂=>wpAny (model PG w) A (callWith pos f [] (backTo pos (starEach args env)) []) Q E s₂) E s₁) E s)
 (hbase:attributeBase o name env (eval o env)=eval o env)
 (hform:methodCallForm (args.length+([]:List Keyword).length) (backTo pos (starEach args env)) (backToKw pos (keywordEach [] env))=false) :
 wpAny (model PG w) A (eval (.Call (.Attribute o name apos) args [] pos) env) Q E s:=by
  rw [arm_eval_Call,hbase]
  refine wpAny_bind (wpAny_mono h (fun ov s₁ h₁=>?_) fun g g e=>e)
  refine wpAny_bind (wpAny_standAt ?_)
  refine (?_:(methodCallPos false o env apos pos=pure pos)→_) (rfl)
  intro hpos
  unfold methodCall
  rw [hform]
  refine wpAny_bind (wpAny_holding (wpAny_bind (wpAny_mono h₁ (fun r s₂ h₂=>wpAny_pure ?_) fun g g e=>e)))
  exact wpAny_bind (wpAny_of_eq hpos h₂)
theorem keepsM {f x q:Addr} (hf:fnIn (hdp.heap_1_39 w.params) f=true) (h:Heap) (X:(∃ o,h.get? q=some o∧MthO f x o)∧(hdp.heap_1_39 w.params).In h):∃ k,(k=Keeper.frame∨k=Keeper.machine∨k=Keeper.boundFrame)∧Looks (model PG w) h (keeperOf (.ref q)) k:=by
 obtain ⟨⟨o,e,rfl⟩,X⟩:=X
 exact keeps_M hf h ⟨e,X⟩
noncomputable abbrev RQ (Q:VP) (E:VP):Result→Shared→Prop:=fun r s'=>match r with | .ok (.ret v)=>Q v s' | .ok _=>False | .error e=>E e s'
theorem cw_ms1 {pos p:Pos} {q f x:Addr} {e:PySem.Expr} {Q:VP} (hf:fnIn (hdp.heap_1_39 w.params) f=true)
 (h:wpAny (model PG w) A (eval e env) (fun v s₁=>StarOf (model PG w) A E v (fun vs s₂=>(Has s₂ q (MthO f x)∧(hdp.heap_1_39 w.params).In s₂.heap)∧codeAny (model PG w) A (.call (.ref f) ⟨.ref x::vs,[]⟩) (RQ Q E) s₂) s₁) E s)
 (he:starEach [.Starred e p] env=[(true,eval e env)]):wpAny (model PG w) A (callWith pos (.ref q) [] (backTo pos (starEach [.Starred e p] env)) []) Q E s:=by
  rw [he]
  refine ks_call rfl (keepsM (x:=x) hf) (ks_lone (wpAny_mono h (fun v s₁ h₁=>?_) fun g g e=>e))
  refine wpAny_mono h₁ (fun b s₂ h₂=>⟨h₂.1,wpAny_mono h₂.2 (fun vs s₃ h₃=>⟨h₃.1,?_⟩) fun g g e=>e⟩) fun g g e=>e
  obtain ⟨⟨⟨o,eo,rfl⟩,X⟩,h₄⟩:=h₃
  exact wpAny_call (method_call eo h₄)
theorem cw_ms2 {pos:Pos} {q f x:Addr} {e:PySem.Expr} {rest:List PySem.Expr} {Q:VP} (hf:fnIn (hdp.heap_1_39 w.params) f=true)
 (h:wpAny (model PG w) A (spliced (backTo pos (starEach (e::rest) env))) (fun vs s₂=>(Has s₂ q (MthO f x)∧(hdp.heap_1_39 w.params).In s₂.heap)∧codeAny (model PG w) A (.call (.ref f) ⟨.ref x::vs,[]⟩) (RQ Q E) s₂) E s)
 (he:starEach (e::rest) env=(false,eval e env)::starEach rest env) (hst:(backTo pos (starEach rest env)).any (·.1)=true):wpAny (model PG w) A (callWith pos (.ref q) [] (backTo pos (starEach (e::rest) env)) []) Q E s:=by
  rw [he] at h ⊢
  refine ks_call (by show (false || (backTo pos (starEach rest env)).any (·.1))=true;rw [hst];rfl) (keepsM (x:=x) hf) (evalArgs_plain (wpAny_mono h (fun vs s₂ h₂=>⟨h₂.1,?_⟩) fun g g e=>e))
  obtain ⟨⟨⟨o,eo,rfl⟩,X⟩,h₄⟩:=h₂
  exact wpAny_call (method_call eo h₄)
theorem sp_star {pos p:Pos} {e:PySem.Expr} {rest:List PySem.Expr} {Q:List Value→Shared→Prop} (h:wpAny (model PG w) A (eval e env) (fun v s₁=>StarOf (model PG w) A E v (fun here s₂=>wpAny (model PG w) A (spliced (backTo pos (starEach rest env))) (fun vs s₃=>Q (here++vs) s₃) E s₂) s₁) E s)
 (he:starEach (.Starred e p::rest) env=(true,eval e env)::starEach rest env):wpAny (model PG w) A (spliced (backTo pos (starEach (.Starred e p::rest) env))) Q E s:=items_star h he
end
section
variable {w:World} {A:Around} {E:VP} {s:Shared} {ρ:Rest} {z:Z} {Δ:Ds} {X:Ds} {env:Env} {L:Addr} {m:Loc} {F:Addr×OP}
theorem cw_k0 {f:Value} {first:List Value} {pos:Pos} {Q:VP} (S:St w ρ z Δ s) (hk:keepIn (hdp.heap_1_39 w.params) f=true) (h:wpAny (model PG w) A (call f (first++[])) Q E s):wpAny (model PG w) A (callWith pos f first (backTo pos (starEach [] env)) []) Q E s:=
 callWith_K0 S.K hk h
theorem asg_sub {o i:PySem.Expr} {pos:Pos} {v:Value} {Q:Unit→Shared→Prop} (h:wpAny (model PG w) A (eval o env) (fun ov s₁=>wpAny (model PG w) A (eval i env) (fun iv s₂=>wpAny (model PG w) A (setItem ov iv v) Q E s₂) E s₁) E s):wpAny (model PG w) A (assign (.Subscript o i pos) env v) Q E s:=by
 rw [assign_Subscript]
 refine wpAny_bind (wpAny_holding (wpAny_mono h (fun ov s₁ h₁=>?_) fun a a e=>e))
 refine wpAny_bind (wpAny_holding (wpAny_mono h₁ (fun iv s₂ h₂=>?_) fun a a e=>e))
 refine wpAny_bind (wpAny_standAt (wpAny_bind (wpAny_holding (wpAny_mono h₂ (fun a s₃ h₃=>wpAny_release h₃) fun a a e=>e))))
theorem Room.under {C:Addr} {args:List Value} {n:Nat} (R:Room A (n+1)):Room (A.under (.builtin "type.__call__" ⟨.ref C::args,[]⟩)) n:=
 ⟨R.hd,by refine (?_:_→_) (R.dp);intro this;show A.depth+1+n<_;exact ar79 this,by refine (?_:_→_) (R.un);intro this;show A.units+(Code.builtin "type.__call__" ⟨.ref C::args,[]⟩).cUnits+8 * n<_;rw [show (Code.builtin "type.__call__" ⟨.ref C::args,[]⟩).cUnits=1 from rfl];exact ar85 this⟩
end
structure Cx where
 w:World
 ρ:Rest
 A:Around
 env:Env
noncomputable abbrev SP:=Z→Loc→Ds→Prop
structure Cx.Ok (C:Cx):Prop where
 k:C.env.scope.kind=.function
 g:C.env.globals=mainGlobals
 b:C.env.builtins=builtinsNs
 r:Room C.A 0
structure Cx.Okh (C:Cx):Prop where
 k:C.env.scope.kind=.function
 g:C.env.globals=mainGlobals
 b:C.env.builtins=builtinsNs
theorem Cx.Ok.h {C:Cx} (O:C.Ok):C.Okh:=⟨O.k,O.g,O.b⟩
inductive Fl where
 | next | brk | cont
 | ret (a:AV)
noncomputable def Fl.is:Fl→Flow→Prop
 | .next,f=>f=.next
 | .brk,f=>f=.brk
 | .cont,f=>f=.cont
 | .ret a,f=>∃ v,f=.ret v∧a.is v
noncomputable abbrev uu:Unit→Unit→Prop:=fun d d=>True
noncomputable def T (C:Cx) {α β:Type} (rel:β→α→Prop) (c:Sem α) (z:Z) (m:Loc) (Δ:Ds) (K:β→SP):Prop:=
 ∀ (E:VP) (s:Shared) (Q:α→Shared→Prop),St C.w C.ρ z ((C.env.locals,FrO m)::Δ) s →
  (∀ b a z' m' Δ' s',rel b a→K b z' m' Δ'→St C.w C.ρ z' ((C.env.locals,FrO m')::Δ') s'→Q a s')→wpAny (model PG C.w) C.A c Q E s
section
variable {C:Cx} {α β γ δ:Type} {rel:β→α→Prop} {rel':δ→γ→Prop} {z:Z} {m:Loc} {Δ:Ds}
theorem T.seq {x:Sem α} {y:α→Sem γ} {whole:Sem γ} {K:δ→SP} (h:T C rel x z m Δ fun b z m Δ=>∀ a,rel b a→T C rel' (y a) z m Δ K)
 (hw:∀ {E s} {Q:γ→Shared→Prop},wpAny (model PG C.w) C.A x (fun a s₁=>wpAny (model PG C.w) C.A (y a) Q E s₁) E s→wpAny (model PG C.w) C.A whole Q E s):T C rel' whole z m Δ K:=
  fun E s Q S k=>hw (h E s _ S fun b a z m Δ s' r t S'=>t a r E s' Q S' k)
theorem T.mono {x:Sem α} {K K':β→SP} (h:T C rel x z m Δ K) (hk:∀ b z m Δ,K b z m Δ→K' b z m Δ):T C rel x z m Δ K':=
 fun E s Q S k=>h E s Q S fun b a z m Δ s' r t S'=>k b a z m Δ s' r (hk _ _ _ _ t) S'
structure L0 (C:Cx) {α β:Type} (rel:β→α→Prop) (c:Sem α) (z:Z) (m:Loc) (Δ:Ds) (K:β→SP):Prop where
 out:T C rel c z m Δ K
structure L1 (C:Cx) {α β:Type} (rel:β→α→Prop) (f:Value→Sem α) (a:AV) (z:Z) (m:Loc) (Δ:Ds) (K:β→SP):Prop where
 out:∀ x,a.is x→T C rel (f x) z m Δ K
structure L2 (C:Cx) {α β:Type} (rel:β→α→Prop) (f:Value→Value→Sem α) (a b:AV) (z:Z) (m:Loc) (Δ:Ds) (K:β→SP):Prop where
 out:∀ x y,a.is x→b.is y→T C rel (f x y) z m Δ K
structure L3 (C:Cx) {α β:Type} (rel:β→α→Prop) (f:Value→Value→Value→Sem α) (a b c:AV) (z:Z) (m:Loc) (Δ:Ds) (K:β→SP):Prop where
 out:∀ x y u,a.is x→b.is y→c.is u→T C rel (f x y u) z m Δ K
structure LC (C:Cx) (f:AV) (as:List AV) (z:Z) (m:Loc) (Δ:Ds) (K:AV→SP):Prop where
 out:∀ x xs,f.is x→ARel as xs→T C AV.is (call x xs) z m Δ K
structure ITE (c:Bool) (P Q:Prop):Prop where
 t:c=true→P
 f:c=false→Q
theorem it_t {c:Bool} {P Q:Prop} (h:c=true) (p:P):ITE c P Q:=⟨fun d=>p,fun e=>by (rw [h] at e;cases e)⟩
theorem it_f {c:Bool} {P Q:Prop} (h:c=false) (q:Q):ITE c P Q:=⟨fun e=>by (rw [h] at e;cases e),fun d=>q⟩
theorem ITE.if {c:Bool} {P Q:Prop} (h:ITE c P Q):if c=true then P else Q:=by
 cases c with
 | true=>exact h.t rfl
 | false=>exact h.f rfl
end
structure XR where
 e:PySem.Expr→Z→Loc→Ds→(AV→SP)→Prop
 b:PySem.Expr→Z→Loc→Ds→(Bool→SP)→Prop
 tt:PySem.BoolOp→List PySem.Expr→Z→Loc→Ds→(Bool→SP)→Prop
 l:Pos→List PySem.Expr→Z→Loc→Ds→(List AV→SP)→Prop
 st:Stmt→Z→Loc→Ds→(Fl→SP)→Prop
 ss:List Stmt→Z→Loc→Ds→(Fl→SP)→Prop
structure XOk (C:Cx) (x:XR):Prop where
 e:∀ {e z m Δ K},x.e e z m Δ K→T C AV.is (eval e C.env) z m Δ K
 b:∀ {e z m Δ K},x.b e z m Δ K→T C Eq (isTrue e C.env (eval e C.env)) z m Δ K
 tt:∀ {op es z m Δ K},x.tt op es z m Δ K→T C Eq (allTrue op es C.env) z m Δ K
 l:∀ {pos es z m Δ K},x.l pos es z m Δ K→T C ARel (spliced (backTo pos (starEach es C.env))) z m Δ K
 st:∀ {s z m Δ K},x.st s z m Δ K→T C Fl.is (exec s C.env) z m Δ K
 ss:∀ {ss z m Δ K},x.ss ss z m Δ K→T C Fl.is (execs ss C.env) z m Δ K
noncomputable def bc (c:Bool) (P Q:Prop):Prop:=match c with | true=>P | false=>Q
noncomputable def glT:Loc:=[("NAMES",.s "abcdefg"),("heappush",.v (.ref 141)),("heappop",.v (.ref 148)),("_siftdown",.v (.ref 155)),("_siftup",.v (.ref 162)),("_law_jobs",.v (.ref 174)),("_law_free",.v (.ref 179)),("_law_sorter",.v (.ref 184)),("_law_by_heaps",.v (.ref 191)),("_law_by_lists",.v (.ref 196)),
 ("_law_chains",.v (.ref 201)),("_law_bounds_right",.v (.ref 206)),("_law_order_right",.v (.ref 211)),("OWN",.v (.ref 169)),("_NODE_OUT",.i (-1)),("_NODE_DONE",.i (-2)),("_NodeInfo",.v (.ref 33)),("CycleError",.v (.ref 48)),("TopologicalSorter",.v (.ref 130))]
noncomputable def blT:Loc:=[("len",.v (.builtin "len")),("list",.v (.type "list")),("sorted",.v (.builtin "sorted")),("sum",.v (.builtin "sum")),("max",.v (.builtin "max")),("all",.v (.builtin "all")),("any",.v (.builtin "any")),("dict",.v (.type "dict")),("zip",.v (.type "zip")),
 ("enumerate",.v (.type "enumerate")),("range",.v (.type "range")),("tuple",.v (.type "tuple")),("set",.v (.type "set")),("iter",.v (.builtin "iter")),("bool",.v (.type "bool")),("StopIteration",.v (.type "StopIteration"))]
noncomputable def fnT:List Nat:=[155,162,141,148,174,179,184,191,196,201,206,211,169,29,66,73,80,85,92,99,113,120,127]
section
variable (C:Cx) (x:XR)
noncomputable def xN (n:Str) (pos:Pos) (z:Z) (m:Loc) (Δ:Ds) (K:AV→SP):Prop:=
 bc (n == "__debug__") (L0 C AV.is (eval (.Name n pos) C.env) z m Δ K) (match C.env.kindOf n with
  | some .local=>(match lk m n with | some a=>K a z m Δ | none=>False)
  | some .globalImplicit=>(match lk glT n with | some a=>K a z m Δ | none=>match lk blT n with | some a=>K a z m Δ | none=>False)
  | _=>L0 C AV.is (eval (.Name n pos) C.env) z m Δ K)
noncomputable def cX (e:PySem.Expr) (c:Const) (z:Z) (m:Loc) (Δ:Ds) (K:AV→SP):Prop:=match c with
 | .int i=>K (.i i) z m Δ
 | .str s=>K (.s s) z m Δ
 | .bool b=>K (.v (.bool b)) z m Δ
 | .none=>K (.v .none) z m Δ
 | _=>L0 C AV.is (eval e C.env) z m Δ K
noncomputable def binX (op:Operator) (K:AV→SP):AV→AV→SP:=fun a b z m Δ=>match op,a,b with
 | .Add,.i p,.i q=>K (.i (p+q)) z m Δ
 | .Sub,.i p,.i q=>K (.i (p - q)) z m Δ
 | _,_,_=>L2 C AV.is (binaryOp op) a b z m Δ K
noncomputable def inpX (op:Operator) (K:AV→SP):AV→AV→SP:=fun a b z m Δ=>match op,a,b with
 | .Add,.i p,.i q=>K (.i (p+q)) z m Δ
 | .Sub,.i p,.i q=>K (.i (p - q)) z m Δ
 | _,_,_=>L2 C AV.is (inplaceOp op) a b z m Δ K
noncomputable def cmpX (op:CmpOp) (K:AV→SP):AV→AV→SP:=fun a b z m Δ=>L2 C AV.is (compareOp op) a b z m Δ K
noncomputable def truX (K:Bool→SP):AV→SP:=fun a z m Δ=>match a with
 | .v (.bool b)=>K b z m Δ
 | .v .none=>K false z m Δ
 | _=>L1 C Eq truthy a z m Δ K
noncomputable def kBin (r:PySem.Expr) (k:AV→AV→SP):AV→SP:=fun a z m Δ=>x.e r z m Δ (k a)
noncomputable def subX (v i:PySem.Expr) (K:AV→SP):AV→AV→SP:=fun a b z m Δ=>L2 C AV.is (subscriptTail v i) a b z m Δ K
noncomputable def atX (n:Str) (K:AV→SP):AV→SP:=fun a z m Δ=>L1 C AV.is (fun v=>getAttr v n true) a z m Δ K
noncomputable def ek:PySem.Expr→Nat
 | .ListComp ..=>1
 | .SetComp ..=>1
 | .DictComp ..=>1
 | .Call ..=>2
 | .Set ..=>3
 | .Slice ..=>4
 | .Starred ..=>5
 | _=>0
noncomputable def plainArgs (l:List PySem.Expr):Bool:=l.all fun e=>!(ek e == 5)
noncomputable def lcX (a:AV) (first:List AV) (K:AV→SP):List AV→SP:=fun as z m Δ=>LC C a (first++as) z m Δ K
noncomputable def ckOk (args:List PySem.Expr):AV→Bool
 | .v (.builtin _)=>plainArgs args
 | .v (.type _)=>plainArgs args && !args.isEmpty
 | .v (.ref f)=>plainArgs args && fnT.contains f
 | _=>false
noncomputable def callK (args:List PySem.Expr) (pos:Pos) (K:AV→SP) (a:AV) (first:List AV):SP:=fun z m Δ=>
 bc (ckOk args a) (x.l pos args z m Δ (lcX C a first K)) (L1 C AV.is (fun f=>callWith pos f [] (backTo pos (starEach args C.env)) []) a z m Δ K∧first=[])
noncomputable def kCall (args:List PySem.Expr) (pos:Pos) (K:AV→SP):AV→SP:=fun a=>callK C x args pos K a []
noncomputable def MR:AV×List AV→Value×List Value→Prop:=fun b a=>b.1.is a.1∧ARel b.2 a.2
noncomputable def kMeth (o:PySem.Expr) (n:Str) (args:List PySem.Expr) (pos:Pos) (K:AV→SP):AV→SP:=fun a z m Δ=>
 L1 C MR (fun v=>getMethod v n (do return (← importBound o C.env).getD true)) a z m Δ fun p=>callK C x args pos K p.1 p.2
noncomputable def kIfE (a b:PySem.Expr) (K:AV→SP):Bool→SP:=fun c z m Δ=>ITE c (x.e a z m Δ K) (x.e b z m Δ K)
noncomputable def kBo (op:PySem.BoolOp) (rest:PySem.Expr) (K:AV→SP):AV→SP:=fun a z m Δ=>truX C (fun c z m Δ=>match op with
 | .And=>ITE c (x.e rest z m Δ K) (K a z m Δ)
 | .Or=>ITE c (K a z m Δ) (x.e rest z m Δ K)) a z m Δ
noncomputable def kList (K:AV→SP):List AV→SP:=fun as z m Δ=>bc (Nat.ble as.length 1000) (∀ q,K (.v (.ref q)) z m ((q,ListO as)::Δ)) False
noncomputable def kTup (K:AV→SP):List AV→SP:=fun as z m Δ=>bc (Nat.ble as.length 1000) (∀ q z',Sub z z'→Fz z' q (TupO as)→K (.v (.ref q)) z' m Δ) False
noncomputable def stX (n:Str) (K:SP):AV→SP:=fun a z m Δ=>match C.env.kindOf n with
 | some .local=>K z (setl m n a) Δ
 | _=>L1 C uu (storeName C.env n) a z m Δ fun d=>K
noncomputable def kAlso (n:Str) (K:AV→SP):AV→SP:=fun a=>stX C n (K a) a
noncomputable def cmpE (e l:PySem.Expr) (ops:List CmpOp) (rs:List PySem.Expr) (z:Z) (m:Loc) (Δ:Ds) (K:AV→SP):Prop:=match ops with
 | []=>L0 C AV.is (eval e C.env) z m Δ K
 | op::ot=>match ot with
  | _::_=>L0 C AV.is (eval e C.env) z m Δ K
  | []=>match rs with
   | []=>L0 C AV.is (eval e C.env) z m Δ K
   | r::rt=>match rt with
    | _::_=>L0 C AV.is (eval e C.env) z m Δ K
    | []=>bc (behindInMarks op r) (L0 C AV.is (eval e C.env) z m Δ K) (x.e l z m Δ (kBin x r (cmpX C op K)))
noncomputable def boE (e:PySem.Expr) (op:PySem.BoolOp) (es:List PySem.Expr) (pos:Pos) (z:Z) (m:Loc) (Δ:Ds) (K:AV→SP):Prop:=match es with
 | []=>L0 C AV.is (eval e C.env) z m Δ K
 | a::r=>match r with
  | []=>x.e a z m Δ K
  | b::t=>x.e a z m Δ (kBo C x op (.BoolOp op (b::t) pos) K)
noncomputable def callE (e f:PySem.Expr) (args:List PySem.Expr) (kw:List Keyword) (pos:Pos) (z:Z) (m:Loc) (Δ:Ds) (K:AV→SP):Prop:=match kw with
 | _::_=>L0 C AV.is (eval e C.env) z m Δ K
 | []=>match f with
  | .Name n p=>x.e (.Name n p) z m Δ (kCall C x args pos K)
  | .Attribute o n ap=>bc (!(ek o == 2) && plainArgs args && Nat.ble args.length 29 && (ap.endLine == pos.line)) (x.e o z m Δ (kMeth C x o n args pos K)) (L0 C AV.is (eval e C.env) z m Δ K)
  | _=>L0 C AV.is (eval e C.env) z m Δ K
noncomputable def namE (e t v:PySem.Expr) (z:Z) (m:Loc) (Δ:Ds) (K:AV→SP):Prop:=match t with
 | .Name n p=>x.e v z m Δ (kAlso C n K)
 | _=>L0 C AV.is (eval e C.env) z m Δ K
noncomputable def stepE (e:PySem.Expr) (z:Z) (m:Loc) (Δ:Ds) (K:AV→SP):Prop:=match e with
 | .Name n pos=>xN C n pos z m Δ K
 | .Constant c k pos=>cX C (.Constant c k pos) c z m Δ K
 | .BinOp l op r _=>x.e l z m Δ (kBin x r (binX C op K))
 | .Compare l ops rs pos=>cmpE C x (.Compare l ops rs pos) l ops rs z m Δ K
 | .Subscript v i pos=>bc (ek i == 4) (L0 C AV.is (eval (.Subscript v i pos) C.env) z m Δ K) (x.e v z m Δ (kBin x i (subX C v i K)))
 | .Attribute v n pos=>bc (ek v == 2) (L0 C AV.is (eval (.Attribute v n pos) C.env) z m Δ K) (x.e v z m Δ (atX C n K))
 | .Call f args kw pos=>callE C x (.Call f args kw pos) f args kw pos z m Δ K
 | .BoolOp op es pos=>boE C x (.BoolOp op es pos) op es pos z m Δ K
 | .IfExp t a b _=>x.b t z m Δ (kIfE x a b K)
 | .List es pos=>x.l pos es z m Δ (kList K)
 | .Tuple es _ pos=>x.l pos es z m Δ (kTup K)
 | .NamedExpr t v pos=>namE C x (.NamedExpr t v pos) t v z m Δ K
 | e=>L0 C AV.is (eval e C.env) z m Δ K
noncomputable def kNot (K:Bool→SP):Bool→SP:=fun c=>K (!c)
noncomputable def notB (e:PySem.Expr) (op:PySem.UnaryOp) (a:PySem.Expr) (z:Z) (m:Loc) (Δ:Ds) (K:Bool→SP):Prop:=match op with
 | .Not=>x.b a z m Δ (kNot K)
 | _=>L0 C Eq (isTrue e C.env (eval e C.env)) z m Δ K
noncomputable def cmpB (e l:PySem.Expr) (ops:List CmpOp) (rs:List PySem.Expr) (z:Z) (m:Loc) (Δ:Ds) (K:Bool→SP):Prop:=match ops with
 | []=>L0 C Eq (isTrue e C.env (eval e C.env)) z m Δ K
 | op::ot=>match ot with
  | _::_=>L0 C Eq (isTrue e C.env (eval e C.env)) z m Δ K
  | []=>match rs with
   | []=>L0 C Eq (isTrue e C.env (eval e C.env)) z m Δ K
   | r::rt=>match rt with
    | _::_=>L0 C Eq (isTrue e C.env (eval e C.env)) z m Δ K
    | []=>bc (behindInMarks op r) (L0 C Eq (isTrue e C.env (eval e C.env)) z m Δ K) (x.e l z m Δ (kBin x r (cmpX C op (truX C K))))
noncomputable def stepB (e:PySem.Expr) (z:Z) (m:Loc) (Δ:Ds) (K:Bool→SP):Prop:=match e with
 | .UnaryOp op a pos=>notB C x (.UnaryOp op a pos) op a z m Δ K
 | .BoolOp op es _=>x.tt op es z m Δ K
 | .IfExp a b c p=>L0 C Eq (isTrue (.IfExp a b c p) C.env (eval (.IfExp a b c p) C.env)) z m Δ K
 | .Compare l ops rs pos=>cmpB C x (.Compare l ops rs pos) l ops rs z m Δ K
 | e=>x.e e z m Δ (truX C K)
noncomputable def kAll (op:PySem.BoolOp) (r:List PySem.Expr) (K:Bool→SP):Bool→SP:=fun c z m Δ=>match op with
 | .And=>ITE c (x.tt .And r z m Δ K) (K false z m Δ)
 | .Or=>ITE c (K true z m Δ) (x.tt .Or r z m Δ K)
noncomputable def stepA (op:PySem.BoolOp) (es:List PySem.Expr) (z:Z) (m:Loc) (Δ:Ds) (K:Bool→SP):Prop:=match es with
 | []=>K (match op with | .And=>true | .Or=>false) z m Δ
 | e::r=>x.b e z m Δ (kAll x op r K)
noncomputable def kCons (a:AV) (K:List AV→SP):List AV→SP:=fun as=>K (a::as)
noncomputable def kArg (pos:Pos) (r:List PySem.Expr) (K:List AV→SP):AV→SP:=fun a z m Δ=>x.l pos r z m Δ (kCons a K)
noncomputable def stepAr (pos:Pos) (es:List PySem.Expr) (z:Z) (m:Loc) (Δ:Ds) (K:List AV→SP):Prop:=match es with
 | []=>K [] z m Δ
 | e::r=>bc (ek e == 5) (L0 C ARel (spliced (backTo pos (starEach (e::r) C.env))) z m Δ K) (x.e e z m Δ (kArg x pos r K))
noncomputable def kNext (K:Fl→SP):AV→SP:=fun d=>K .next
noncomputable def kRet (K:Fl→SP):AV→SP:=fun a=>K (.ret a)
noncomputable def kSet (n:Str) (K:Fl→SP):AV→SP:=stX C n (K .next)
noncomputable def kSetI (o i:PySem.Expr) (K:Fl→SP):AV→SP:=fun a z m Δ=>x.e o z m Δ (kBin x i fun b c z m Δ=>L3 C uu (fun o i v=>setItem o i v) b c a z m Δ fun d=>K .next)
noncomputable def kSetA (o:PySem.Expr) (n:Str) (K:Fl→SP):AV→SP:=fun a z m Δ=>x.e o z m Δ fun b z m Δ=>L2 C uu (fun o v=>setAttr o n v) b a z m Δ fun d=>K .next
noncomputable def kUnp (t:PySem.Expr) (K:Fl→SP):AV→SP:=fun a z m Δ=>L1 C uu (assign t C.env) a z m Δ fun d=>K .next
noncomputable def asgX (s:Stmt) (ts:List PySem.Expr) (v:PySem.Expr) (z:Z) (m:Loc) (Δ:Ds) (K:Fl→SP):Prop:=match ts with
 | []=>L0 C Fl.is (exec s C.env) z m Δ K
 | t::tt=>match tt with
  | _::_=>L0 C Fl.is (exec s C.env) z m Δ K
  | []=>bc (ek v == 1) (L0 C Fl.is (exec s C.env) z m Δ K) (match t with
   | .Name n _=>x.e v z m Δ (kSet C n K)
   | .Subscript o i _=>x.e v z m Δ (kSetI C x o i K)
   | .Attribute o n _=>x.e v z m Δ (kSetA C x o n K)
   | _=>L0 C Fl.is (exec s C.env) z m Δ K)
noncomputable def kAug (n:Str) (op:Operator) (v:PySem.Expr) (K:Fl→SP):AV→SP:=kBin x v (inpX C op (kSet C n K))
noncomputable def kAugA (n:Str) (op:Operator) (v:PySem.Expr) (K:Fl→SP):AV→SP:=fun o=>atX C n (kBin x v (inpX C op fun r z m Δ=>L2 C uu (fun o v=>setAttr o n v) o r z m Δ fun d=>K .next)) o
noncomputable def kAugS (op:Operator) (v:PySem.Expr) (K:Fl→SP):AV→AV→SP:=fun o i z m Δ=>L2 C AV.is getItem o i z m Δ (kBin x v (inpX C op fun r z m Δ=>L3 C uu (fun o i v=>setItem o i v) o i r z m Δ fun d=>K .next))
noncomputable def kIf (b e:List Stmt) (K:Fl→SP):Bool→SP:=fun c z m Δ=>ITE c (x.ss b z m Δ K) (x.ss e z m Δ K)
structure LF (t:PySem.Expr) (b:List Stmt) (a:AV) (z:Z) (m:Loc) (Δ:Ds) (K:Fl→SP):Prop where
 out:∀ v,a.is v→∀ (E:VP) (s:Shared) (Q:Flow→Shared→Prop),St C.w C.ρ z ((C.env.locals,FrO m)::Δ) s →
  (∀ b a z' m' Δ' s',Fl.is b a→K b z' m' Δ'→St C.w C.ρ z' ((C.env.locals,FrO m')::Δ') s'→Q a s')→wpAny (model PG C.w) C.A (pyIter v) (fun it s₂=>ForGo C.w C.A E C.env t b Q it s₂) E s
noncomputable def kFor (t:PySem.Expr) (b:List Stmt) (K:Fl→SP):AV→SP:=fun a z m Δ=>LF C t b a z m Δ K
structure LI (t:PySem.Expr) (b e:List Stmt) (z:Z) (m:Loc) (Δ:Ds) (K:Fl→SP):Prop where
 out:x.b t z m Δ (kIf x b e K)
noncomputable def augX (s:Stmt) (t:PySem.Expr) (op:Operator) (v:PySem.Expr) (z:Z) (m:Loc) (Δ:Ds) (K:Fl→SP):Prop:=match t with
 | .Name n p=>(match C.env.kindOf n with
  | some .local=>(match lk m n with | some a=>kAug C x n op v K a z m Δ | none=>False)
  | _=>L0 C Fl.is (exec s C.env) z m Δ K)
 | .Attribute o n _=>x.e o z m Δ (kAugA C x n op v K)
 | .Subscript o i _=>bc (ek i == 4) (L0 C Fl.is (exec s C.env) z m Δ K) (x.e o z m Δ (kBin x i (kAugS C x op v K)))
 | _=>L0 C Fl.is (exec s C.env) z m Δ K
noncomputable def forX (s:Stmt) (t it:PySem.Expr) (b els:List Stmt) (z:Z) (m:Loc) (Δ:Ds) (K:Fl→SP):Prop:=match els with
 | _::_=>L0 C Fl.is (exec s C.env) z m Δ K
 | []=>bc (ek it == 3) (L0 C Fl.is (exec s C.env) z m Δ K) (x.e it z m Δ (kFor C t b K))
noncomputable def retX (o:Option PySem.Expr) (z:Z) (m:Loc) (Δ:Ds) (K:Fl→SP):Prop:=match o with
 | some e=>x.e e z m Δ (kRet K)
 | none=>K (.ret (.v .none)) z m Δ
noncomputable def stepS (s:Stmt) (z:Z) (m:Loc) (Δ:Ds) (K:Fl→SP):Prop:=match s with
 | .Expr e p=>bc (ek e == 1) (L0 C Fl.is (exec (.Expr e p) C.env) z m Δ K) (x.e e z m Δ (kNext K))
 | .Assign ts v p=>asgX C x (.Assign ts v p) ts v z m Δ K
 | .AugAssign t op v p=>augX C x (.AugAssign t op v p) t op v z m Δ K
 | .If t b e _=>LI x t b e z m Δ K
 | .For t it b els p=>forX C x (.For t it b els p) t it b els z m Δ K
 | .Return o _=>retX x o z m Δ K
 | .Break _=>K .brk z m Δ
 | .Continue _=>K .cont z m Δ
 | .Pass _=>K .next z m Δ
 | s=>L0 C Fl.is (exec s C.env) z m Δ K
noncomputable def kSeq (r:List Stmt) (K:Fl→SP):Fl→SP:=fun f z m Δ=>match f with
 | .next=>x.ss r z m Δ K
 | f=>K f z m Δ
noncomputable def stepSS (ss:List Stmt) (z:Z) (m:Loc) (Δ:Ds) (K:Fl→SP):Prop:=match ss with
 | []=>K .next z m Δ
 | s::r=>x.st s z m Δ (kSeq x r K)
noncomputable def X:Nat→XR
 | 0=>⟨fun e=>L0 C AV.is (eval e C.env),fun e=>L0 C Eq (isTrue e C.env (eval e C.env)),fun op es=>L0 C Eq (allTrue op es C.env),fun pos es=>L0 C ARel (spliced (backTo pos (starEach es C.env))),fun s=>L0 C Fl.is (exec s C.env),fun ss=>L0 C Fl.is (execs ss C.env)⟩
 | n+1=>⟨stepE C (X n),stepB C (X n),stepA (X n),stepAr C (X n),stepS C (X n),stepSS (X n)⟩
end
theorem lk_mem {l:Loc} {x:Str} {a:AV}:lk l x=some a→(x,a)∈l:=by
 induction l with
 | nil=>exact fun h=>nomatch h
 | cons p r ih=>
  intro h
  refine (?_:((if x=p.1 then some p.2 else lk r x)=some a)→_) (h)
  intro h
  by_cases q:x=p.1
  ·rw [if_pos q] at h;cases h;rw [q];exact .head _
  ·rw [if_neg q] at h;exact .tail _ (ih h)
inductive AllL {α:Type} (P:α→Prop):List α→Prop where
 | nil:AllL P []
 | cons {a l}:P a→AllL P l→AllL P (a::l)
theorem AllL.of {α:Type} {P:α→Prop} {l:List α} (h:AllL P l):∀ a∈l,P a:=by
 induction h with
 | nil=>intro a h;cases h
 | cons h1 _ ih=>
  intro a h
  rcases List.mem_cons.mp h with e | h
  ·rw [e];exact h1
  ·exact ih a h
theorem gl1 {K:Frag} {x:Str} {a:AV} {v:Value} {r:Loc} (h:nsIn K mainGlobals x=some (some v)) (i:a.is v) (k:AllL (fun p:Str×AV=>∃ v,nsIn K mainGlobals p.1=some (some v)∧p.2.is v) r):AllL (fun p:Str×AV=>∃ v,nsIn K mainGlobals p.1=some (some v)∧p.2.is v) ((x,a)::r):=.cons ⟨v,h,i⟩ k
theorem glT_ok (w:World):∀ p∈glT,∃ v,nsIn (hdp.heap_1_39 w.params) mainGlobals p.1=some (some v)∧p.2.is v:=by
 refine AllL.of ?_
 repeat (apply gl1;(case h=>k_is);(case i=>first | exact ⟨_,rfl⟩ | exact rfl))
 exact AllL.nil
theorem bl1 {K:Frag} {x:Str} {v:Value} {r:Loc} (h:nsIn K mainGlobals x=some none) (n:x≠"__name__") (i:bootBuiltins x=some v) (k:AllL (fun p:Str×AV=>nsIn K mainGlobals p.1=some none∧p.1≠"__name__"∧∃ v,bootBuiltins p.1=some v∧p.2=.v v) r):AllL (fun p:Str×AV=>nsIn K mainGlobals p.1=some none∧p.1≠"__name__"∧∃ v,bootBuiltins p.1=some v∧p.2=.v v) ((x,.v v)::r):=.cons ⟨h,n,v,i,rfl⟩ k
theorem blT_ok (w:World):∀ p∈blT,nsIn (hdp.heap_1_39 w.params) mainGlobals p.1=some none∧p.1≠"__name__"∧∃ v,bootBuiltins p.1=some v∧p.2=.v v:=by
 refine AllL.of ?_
 repeat (apply bl1;(case h=>k_is);(case n=>decide);(case i=>first | exact boot_len | exact boot_list | exact boot_sorted | exact boot_sum | exact boot_max | exact boot_all | exact boot_any | exact boot_dict | exact boot_zip | exact boot_enumerate | exact boot_range | exact boot_tuple | exact boot_set | exact boot_iter | exact boot_bool | exact PyProof.Rows.Boot.«StopIteration»))
 exact AllL.nil
theorem fn1 {K:Frag} {f:Nat} {o:Obj} {fd:FuncData} {r:List Nat} (h:List.lookup f K=some o) (i:o.data=.func fd) (k:AllL (fun f=>∃ o fd,List.lookup f K=some o∧o.data=.func fd) r):AllL (fun f=>∃ o fd,List.lookup f K=some o∧o.data=.func fd) (f::r):=.cons ⟨o,fd,h,i⟩ k
theorem fnT_ok (w:World):∀ f∈fnT,∃ o fd,List.lookup f (hdp.heap_1_39 w.params)=some o∧o.data=.func fd:=by
 refine AllL.of ?_
 repeat (apply fn1;(case h=>k_is);(case i=>exact rfl))
 exact AllL.nil
section
variable {C:Cx} {x:XR} {α β:Type} {rel:β→α→Prop} {z:Z} {m:Loc} {Δ:Ds}
theorem bc_e {c:Bool} {P Q R:Prop} (h:bc c P Q) (hp:c=true→P→R) (hq:c=false→Q→R):R:=by
 cases c with
 | true=>exact hp rfl h
 | false=>exact hq rfl h
theorem T.pure {c:Sem α} {b:β} {a:α} {K:β→SP} (hr:rel b a) (k:K b z m Δ) (hw:∀ {E s} {Q:α→Shared→Prop},Q a s→wpAny (model PG C.w) C.A c Q E s):T C rel c z m Δ K:=
 fun E s Q S h=>hw (h _ _ _ _ _ _ hr k S)
theorem T.step {c:Sem α} {b:β} {m':Loc} {Δ':Ds} {K:β→SP} (k:K b z m' Δ')
 (hw:∀ {E s} {Q:α→Shared→Prop},St C.w C.ρ z ((C.env.locals,FrO m)::Δ) s→(∀ a s',rel b a→St C.w C.ρ z ((C.env.locals,FrO m')::Δ') s'→Q a s')→wpAny (model PG C.w) C.A c Q E s):T C rel c z m Δ K:=
  fun E s Q S h=>hw S fun a s' r S'=>h _ _ _ _ _ _ r k S'
theorem T.get {c:Sem Value} {a:AV} {K:AV→SP} (k:K a z m Δ)
 (hw:∀ {E s} {Q:VP},St C.w C.ρ z ((C.env.locals,FrO m)::Δ) s→(∀ v,a.is v→Q v s)→wpAny (model PG C.w) C.A c Q E s):T C AV.is c z m Δ K:=
  fun E s Q S h=>hw S fun v r=>h _ _ _ _ _ _ r k S
theorem xN_ok (O:C.Okh) {n:Str} {pos:Pos} {K:AV→SP} (h:xN C n pos z m Δ K):T C AV.is (eval (.Name n pos) C.env) z m Δ K:=by
 refine bc_e h (fun d h=>h.out) fun hdb h=>?_
 have h:(match C.env.kindOf n with
  | some .local=>(match lk m n with | some a=>K a z m Δ | none=>False)
  | some .globalImplicit=>(match lk glT n with | some a=>K a z m Δ | none=>match lk blT n with | some a=>K a z m Δ | none=>False)
  | _=>L0 C AV.is (eval (.Name n pos) C.env) z m Δ K):=h
 split at h
 ·rename_i hk
  split at h
  ·rename_i a ha
   exact T.get h fun S k=>ld S rfl O.k hk hdb ha k
  ·cases h
 ·rename_i hk
  split at h
  ·rename_i a ha
   obtain ⟨v,hv⟩:=glT_ok C.w _ (lk_mem ha)
   refine (?_:_→_→_) hv.1 hv.2
   intro hv hi
   exact T.get h fun S k=>ldg S O.g O.k hk hdb hv (k v hi)
  ·split at h
   ·rename_i a ha
    obtain ⟨h1,h2,v,h3,rfl⟩:=blT_ok C.w _ (lk_mem ha)
    exact T.get h fun S k=>ldb S O.g O.b O.k hk hdb h1 h2 h3 (k v rfl)
   ·cases h
 ·exact h.out
theorem cX_ok {c:Const} {k:Nat} {pos:Pos} {K:AV→SP} (h:cX C (.Constant c k pos) c z m Δ K):T C AV.is (eval (.Constant c k pos) C.env) z m Δ K:=by
 unfold cX at h
 split at h
 ·exact T.step h fun S k=>c_int S fun t s' S'=>k _ s' ⟨t,rfl⟩ S'
 ·exact T.step h fun S k=>c_str S fun t s' S'=>k _ s' ⟨t,rfl⟩ S'
 ·exact T.pure is_v h fun q=>Constant_bool q
 ·exact T.pure is_v h fun q=>Constant_none q
 ·exact h.out
theorem binX_ok {op:Operator} {K:AV→SP} {a b:AV} (h:binX C op K a b z m Δ):∀ v,a.is v→∀ u,b.is u→T C AV.is (binaryOp op v u) z m Δ K:=by
 intro v hv u hu
 unfold binX at h
 split at h
 ·obtain ⟨t,rfl⟩:=hv;obtain ⟨t',rfl⟩:=hu
  exact T.step h fun S k=>o_add S fun t s' S'=>k _ s' ⟨t,rfl⟩ S'
 ·obtain ⟨t,rfl⟩:=hv;obtain ⟨t',rfl⟩:=hu
  exact T.step h fun S k=>o_sub S fun t s' S'=>k _ s' ⟨t,rfl⟩ S'
 ·exact h.out v u hv hu
theorem inpX_ok {op:Operator} {K:AV→SP} {a b:AV} (h:inpX C op K a b z m Δ):∀ v,a.is v→∀ u,b.is u→T C AV.is (inplaceOp op v u) z m Δ K:=by
 intro v hv u hu
 unfold inpX at h
 split at h
 ·obtain ⟨t,rfl⟩:=hv;obtain ⟨t',rfl⟩:=hu
  exact T.step h fun S k=>o_iadd S fun t s' S'=>k _ s' ⟨t,rfl⟩ S'
 ·obtain ⟨t,rfl⟩:=hv;obtain ⟨t',rfl⟩:=hu
  exact T.step h fun S k=>o_isub S fun t s' S'=>k _ s' ⟨t,rfl⟩ S'
 ·exact h.out v u hv hu
theorem cmpX_ok {op:CmpOp} {K:AV→SP} {a b:AV} (h:cmpX C op K a b z m Δ):∀ v,a.is v→∀ u,b.is u→T C AV.is (compareOp op v u) z m Δ K:=fun v hv u hu=>L2.out h v u hv hu
theorem lc1 {f v:Value} {K:AV→SP} (h:T C AV.is (call f [v]) z m Δ K):LC C (.v f) [.v v] z m Δ K:=⟨fun x xs hx hxs=>by
 cases hx;obtain _ | ⟨hv,_ | _⟩:=hxs;cases hv
 exact h⟩
theorem lc2 {f v:Value} {a:AV} {K:AV→SP} (h:∀ y,a.is y→T C AV.is (call f [v,y]) z m Δ K):LC C (.v f) [.v v,a] z m Δ K:=⟨fun x xs hx hxs=>by
 cases hx;obtain _ | ⟨hv,_ | ⟨hu,_ | _⟩⟩:=hxs;cases hv
 exact h _ hu⟩
theorem l1v {f:Value→Sem α} {v:Value} {K:β→SP} (h:T C rel (f v) z m Δ K):L1 C rel f (.v v) z m Δ K:=⟨fun x hx=>by cases hx;exact h⟩
theorem l2vv {f:Value→Value→Sem α} {v u:Value} {K:β→SP} (h:T C rel (f v u) z m Δ K):L2 C rel f (.v v) (.v u) z m Δ K:=⟨fun x y hx hy=>by cases hx;cases hy;exact h⟩
theorem l2va {f:Value→Value→Sem α} {v:Value} {a:AV} {K:β→SP} (h:∀ y,a.is y→T C rel (f v y) z m Δ K):L2 C rel f (.v v) a z m Δ K:=⟨fun x y hx hy=>by cases hx;exact h y hy⟩
theorem l2av {f:Value→Value→Sem α} {v:Value} {a:AV} {K:β→SP} (h:∀ y,a.is y→T C rel (f y v) z m Δ K):L2 C rel f a (.v v) z m Δ K:=⟨fun x y hx hy=>by cases hy;exact h x hx⟩
theorem T.b {c:Sem Bool} {K:Bool→SP} (h:T C Eq c z m Δ K) (E:VP) (s:Shared) (Q:Bool→Shared→Prop) (S:St C.w C.ρ z ((C.env.locals,FrO m)::Δ) s)
 (k:∀ b z' m' Δ' s',K b z' m' Δ'→St C.w C.ρ z' ((C.env.locals,FrO m')::Δ') s'→Q b s'):wpAny (model PG C.w) C.A c Q E s:=
  h E s Q S fun b a z m Δ s' e t S'=>e▸k b z m Δ s' t S'
theorem lf_cmp {op:CmpOp} {p q:Int} {b:Bool} {K:AV→SP} (k:K (.v (.bool b)) z m Δ) (hw:∀ {E s t u} {Q:VP},Q (.bool b) s→wpAny (model PG C.w) C.A (compareOp op (.int p t) (.int q u)) Q E s):L2 C AV.is (compareOp op) (.i p) (.i q) z m Δ K:=
 ⟨fun v u ⟨t,hv⟩ ⟨t',hu⟩=>by subst hv hu;exact T.pure is_v k hw⟩
theorem lf_lt {p q:Int} {K:AV→SP} (k:K (.v (.bool (decide (p<q)))) z m Δ):L2 C AV.is (compareOp .Lt) (.i p) (.i q) z m Δ K:=lf_cmp k PyProof.Rows.lt_int
theorem lf_le {p q:Int} {K:AV→SP} (k:K (.v (.bool (decide (p≤q)))) z m Δ):L2 C AV.is (compareOp .LtE) (.i p) (.i q) z m Δ K:=lf_cmp k PyProof.Rows.le_int
theorem lf_gt {p q:Int} {K:AV→SP} (k:K (.v (.bool (decide (q<p)))) z m Δ):L2 C AV.is (compareOp .Gt) (.i p) (.i q) z m Δ K:=lf_cmp k PyProof.Rows.gt_int
theorem lf_eq {p q:Int} {K:AV→SP} (k:K (.v (.bool (p == q))) z m Δ):L2 C AV.is (compareOp .Eq) (.i p) (.i q) z m Δ K:=lf_cmp k PyProof.Rows.eq_int
theorem lf_ne {p q:Int} {K:AV→SP} (k:K (.v (.bool (p != q))) z m Δ):L2 C AV.is (compareOp .NotEq) (.i p) (.i q) z m Δ K:=lf_cmp k PyProof.Rows.ne_int
theorem truX_ok {K:Bool→SP} {a:AV} (h:truX C K a z m Δ):∀ v,a.is v→T C Eq (truthy v) z m Δ K:=by
 intro v hv
 unfold truX at h
 split at h
 ·cases hv;exact T.pure rfl h fun q=>wpAny_truthy_bool q
 ·cases hv;exact T.pure rfl h fun q=>PyProof.Rows.truthy_none q
 ·exact h.out v hv
theorem T.bi {v1:Sem Value} {v2:Sem Value} {f:Value→Value→Sem α} {whole:Sem α} {K:β→SP} {k:AV→AV→SP} (h:T C AV.is v1 z m Δ fun a z m Δ=>T C AV.is v2 z m Δ (k a)) (hk:∀ {a b z m Δ},k a b z m Δ→∀ x,a.is x→∀ y,b.is y→T C rel (f x y) z m Δ K)
 (hw:∀ {E s} {Q:α→Shared→Prop},wpAny (model PG C.w) C.A v1 (fun a s₁=>wpAny (model PG C.w) C.A v2 (fun b s₂=>wpAny (model PG C.w) C.A (f a b) Q E s₂) E s₁) E s→wpAny (model PG C.w) C.A whole Q E s):T C rel whole z m Δ K:=
  fun E s Q S kk=>hw (h E s _ S fun a x z m Δ s1 hx t S1=>t E s1 _ S1 fun b y z m Δ s2 hy t2 S2=>hk t2 x hx y hy E s2 Q S2 kk)
theorem plain_star:∀ {es:List PySem.Expr} {env:Env} {pos:Pos},plainArgs es=true→(backTo pos (starEach es env)).any (·.1)=false:=by
 intro es env pos h
 induction es with
 | nil=>rfl
 | cons e r ih=>
  have h:=Bool.and_eq_true_iff.mp h
  cases e
  case Starred=>cases h.1
  all_goals exact ih h.2
theorem form_ok {es:List PySem.Expr} {env:Env} {pos:Pos} (h:plainArgs es=true) (hl:Nat.ble es.length 29=true):methodCallForm (es.length+([]:List Keyword).length) (backTo pos (starEach es env)) (backToKw pos (keywordEach [] env))=true:=by
 refine (?_:_→_) (plain_star (env:=env) (pos:=pos) h)
 intro h1
 refine (?_:((backTo pos (starEach es env)).all (!·.1)=true)→_) (by
  rw [List.all_eq_not_any_not];simpa using h1)
 intro h3
 show ((backTo pos (starEach es env)).all (!·.1) && true && decide (es.length+0+0<30))=true
 rw [h3,decide_eq_true (show es.length+0+0<30 from Nat.lt_succ_of_le (Nat.le_of_ble_eq_true hl))];rfl
theorem swap_of {v:PySem.Expr} (h:(ek v == 1)=false) {t:Option PySem.Expr} {l:Nat} {env:Env}:swapsWith v t l env=pure false:=by
 cases v <;> first | rfl | cases h
theorem fold_of {e:PySem.Expr} (h:(ek e == 3)=false) {env:Env} {v:Value}:foldedSetIterable e env v=pure v:=by
 cases e <;> first | rfl | cases h
theorem base_of {o:PySem.Expr} (h:(ek o == 2)=false) {n:Str} {env:Env} {w:Sem Value}:attributeBase o n env w=w:=by
 cases o <;> first | rfl | cases h
theorem plain_ne {e:PySem.Expr} {r:List PySem.Expr} {pos:Pos} {env:Env}:(!(ek e == 5))=true→∃ tr t,backTo pos (starEach (e::r) env)=(false,tr)::t:=by
 cases e <;> first | exact fun d=>⟨_,_,rfl⟩ | exact fun h=>nomatch h
theorem ck_ok {w:World} {A:Around} {env:Env} {args:List PySem.Expr} {pos:Pos} {a:AV} {f:Value} {fs:List Value} {E:VP} {s:Shared} {Q:VP} (h:ckOk args a=true) (hf:a.is f)
 (hw:wpAny (model PG w) A (spliced (backTo pos (starEach args env))) (fun vs s₁=>(∃ ρ z Δ,St w ρ z Δ s₁)∧wpAny (model PG w) A (call f (fs++vs)) Q E s₁) E s):wpAny (model PG w) A (callWith pos f fs (backTo pos (starEach args env)) []) Q E s:=by
  cases a with
  | i n=>cases h
  | s x=>cases h
  | v u=>
   cases hf
   cases f
   case builtin=>exact cw_b (wpAny_mono hw (fun d d h=>h.2) fun d d h=>h) (plain_star h)
   case type=>
    have hp:=Bool.and_eq_true_iff.mp h
    cases args with
    | nil=>cases hp.2
    | cons e r=>
     obtain ⟨tr,t,e1⟩:=plain_ne (pos:=pos) (env:=env) (r:=r) (Bool.and_eq_true_iff.mp hp.1).1
     refine (?_:_→_) (wpAny_mono hw (fun d d h=>h.2) fun d d h=>h)
     intro h2
     refine (?_:_→_) (plain_star (env:=env) (pos:=pos) hp.1)
     intro hs
     rw [e1] at hs h2 ⊢
     exact PySem.callWith_type hs (evalArgs_plain h2)
   case ref=>
    have hp:=Bool.and_eq_true_iff.mp h
    obtain ⟨o,fd,h1⟩:=fnT_ok w _ (List.contains_iff_mem.mp hp.2)
    refine (?_:_→_→_) h1.1 h1.2
    intro h1 h2
    exact cw_fn h1 h2 hw (plain_star hp.1)
   all_goals cases h
theorem callK_ok (X:XOk C x) {args:List PySem.Expr} {pos:Pos} {K:AV→SP} {a:AV} {first:List AV} (h:callK C x args pos K a first z m Δ):∀ f,a.is f→∀ fs,ARel first fs→T C AV.is (callWith pos f fs (backTo pos (starEach args C.env)) []) z m Δ K:=
 fun f hf fs hfs=>bc_e h (fun hp h E s Q S k=>ck_ok hp hf (X.l h E s _ S fun as vs z m Δ s' hv t S'=>⟨⟨_,_,_,S'⟩,t.out _ _ hf (hfs.append hv) E s' Q S' k⟩)) fun d h=>by
  obtain ⟨q,rfl⟩:=h
  obtain _ | _:=hfs
  exact q.out f hf
theorem stX_ok (O:C.Okh) {n:Str} {K:SP} {a:AV} (h:stX C n K a z m Δ):∀ v,a.is v→T C uu (storeName C.env n v) z m Δ fun d=>K:=by
 intro v hv
 have hp:(C.env.scope.kind == .class || (C.env.scope.kind == .module && C.env.locals != C.env.globals))=false:=by rw [O.k];rfl
 unfold stX at h
 split at h
 ·rename_i hk
  exact T.step (b:=()) h fun S k=>storeL S rfl hk hp hv fun s' S'=>k _ s' trivial S'
 ·exact h.out v hv
set_option tactic.hygienic true in
theorem stepE_ok (O:C.Okh) (X:XOk C x) {e:PySem.Expr} {K:AV→SP} (h:stepE C x e z m Δ K):T C AV.is (eval e C.env) z m Δ K:=by
 cases e
 case Name=>exact xN_ok O h
 case Constant=>exact cX_ok h
 case BinOp=>exact T.bi ((X.e h).mono fun a z m Δ h=>X.e h) (fun h=>binX_ok h) fun q=>wpAny_BinOp q
 case Compare l ops rs pos=>
  obtain _ | ⟨op,_ | _⟩:=ops
  ·exact L0.out h
  ·obtain _ | ⟨r,_ | _⟩:=rs
   ·exact L0.out h
   ·refine bc_e h (fun d h=>h.out) fun hm h=>?_
    exact T.bi ((X.e h).mono fun a z m Δ h=>X.e h) (fun h=>cmpX_ok h) fun q=>wpAny_Compare1 q hm
   ·exact L0.out h
  ·exact L0.out h
 case Subscript=>
  refine bc_e h (fun d h=>h.out) fun d h=>?_
  exact T.bi ((X.e h).mono fun a z m Δ h=>X.e h) (fun h x hx y hy=>L2.out h x y hx hy) fun q=>Subscript_ q
 case Attribute=>
  refine bc_e h (fun d h=>h.out) fun hn h=>?_
  exact T.seq ((X.e h).mono fun a z m Δ h v hv=>L1.out h v hv) fun q=>Attribute_any_ q (by rw [arm_eval_Attribute,base_of hn])
 case Call f args kw pos=>
  obtain _ | _:=kw
  ·cases f
   case Name=>exact T.seq ((X.e h).mono fun a z m Δ h v hv=>callK_ok X h v hv [] .nil) fun q=>e_call q
   case Attribute o n ap=>
    refine bc_e h (fun hn h=>?_) fun d h=>h.out
    refine (?_:_→_) (Bool.and_eq_true_iff.mp hn)
    intro hn
    refine (?_:_→_) (Bool.and_eq_true_iff.mp hn.1)
    intro h1
    refine (?_:_→_) (Bool.and_eq_true_iff.mp h1.1)
    intro h2
    intro E s Q S k
    refine e_callm ?_ (base_of ((Bool.not_eq_true' _).mp h2.1)) (form_ok h2.2 h1.2) hn.2
    exact X.e h E s _ S fun a v z m Δ s1 hv t S1=>(L1.out t v hv) E s1 _ S1 fun p r z m Δ s2 hp t2 S2=>callK_ok X t2 _ hp.1 _ hp.2 E s2 Q S2 k
   all_goals exact L0.out h
  ·exact L0.out h
 case BoolOp op es pos=>
  obtain _ | ⟨a,_ | ⟨b,r⟩⟩:=es
  ·exact L0.out h
  ·exact fun E s Q S k=>BoolOp_one (X.e h E s Q S k)
  ·intro E s Q S k
   cases op with
   | And=>
    refine BoolOp_and (X.e h E s _ S fun a v z m Δ s1 hv t S1=>(truX_ok t v hv).b E s1 _ S1 fun c z m Δ s2 t S2=>?_)
    exact ITE.if ⟨fun hc=>X.e (t.t hc) E s2 Q S2 k,fun hc=>k _ _ _ _ _ _ hv (t.f hc) S2⟩
   | Or=>
    refine BoolOp_or (X.e h E s _ S fun a v z m Δ s1 hv t S1=>(truX_ok t v hv).b E s1 _ S1 fun c z m Δ s2 t S2=>?_)
    exact ITE.if ⟨fun hc=>k _ _ _ _ _ _ hv (t.t hc) S2,fun hc=>X.e (t.f hc) E s2 Q S2 k⟩
 case IfExp=>
  intro E s Q S k
  refine wpAny_IfExp ((X.b h).b E s _ S fun c z m Δ s2 t S2=>?_)
  exact ITE.if ⟨fun hc=>X.e (t.t hc) E s2 Q S2 k,fun hc=>X.e (t.f hc) E s2 Q S2 k⟩
 case List=>exact fun E s Q S k=>e_list (X.l h E s _ S fun as vs z m Δ s1 hv t S1=>bc_e t (fun h t=>mkL S1 hv (Nat.le_of_ble_eq_true h) fun q s2 S2=>k _ _ _ _ _ _ is_v (t q) S2) fun d t=>t.elim)
 case Tuple=>exact fun E s Q S k=>e_tup (X.l h E s _ S fun as vs z m Δ s1 hv t S1=>bc_e t (fun h t=>mkT S1 hv (Nat.le_of_ble_eq_true h) fun q z' s2 hz hq S2=>k _ _ _ _ _ _ is_v (t q z' hz hq) S2) fun d t=>t.elim)
 case NamedExpr t v pos=>
  cases t
  case Name=>exact fun E s Q S k=>wpAny_NamedExpr (X.e h E s _ S fun a v z m Δ s1 hv t S1=>wpAny_assign_Name (stX_ok O t v hv E s1 _ S1 fun d d z m Δ s2 d t2 S2=>k _ _ _ _ _ _ hv t2 S2))
  all_goals exact L0.out h
 all_goals exact L0.out h
set_option tactic.hygienic true in
theorem stepB_ok (X:XOk C x) {e:PySem.Expr} {K:Bool→SP} (h:stepB C x e z m Δ K):T C Eq (isTrue e C.env (eval e C.env)) z m Δ K:=by
 have val:∀ {e:PySem.Expr},x.e e z m Δ (truX C K)→isTrue e C.env (eval e C.env)=(do let v ← eval e C.env;standAt e.pos;holding [v] (truthy v))→T C Eq (isTrue e C.env (eval e C.env)) z m Δ K:=
  fun h he=>T.seq ((X.e h).mono fun a z m Δ h v hv=>truX_ok h v hv) fun q=>wpAny_isTrue_value q he
 cases e
 case UnaryOp op a p=>
  cases op
  case Not=>
   intro E s Q S k
   refine wpAny_isTrue_Not ((X.b h).b E s _ S fun c z m Δ s2 t S2=>?_)
   exact k _ _ _ _ _ _ rfl t S2
  all_goals exact L0.out h
 case BoolOp=>exact fun E s Q S k=>wpAny_isTrue_BoolOp (X.tt h E s Q S k)
 case IfExp=>exact L0.out h
 case Compare l ops rs pos=>
  obtain _ | ⟨op,_ | _⟩:=ops
  ·exact L0.out h
  ·obtain _ | ⟨r,_ | _⟩:=rs
   ·exact L0.out h
   ·refine bc_e h (fun d h=>h.out) fun hm h=>?_
    intro E s Q S k
    exact wpAny_isTrue_Compare1 (X.e h E s _ S fun a x z m Δ s1 hx t S1=>X.e t E s1 _ S1 fun b y z m Δ s2 hy t2 S2=>cmpX_ok t2 x hx y hy E s2 _ S2 fun c u z m Δ s3 hu t3 S3=>truX_ok t3 u hu E s3 _ S3 k) hm
   ·exact L0.out h
  ·exact L0.out h
 all_goals exact val h rfl
theorem stepA_ok (X:XOk C x) {op:PySem.BoolOp} {es:List PySem.Expr} {K:Bool→SP} (h:stepA x op es z m Δ K):T C Eq (allTrue op es C.env) z m Δ K:=by
 cases es with
 | nil=>
  cases op with
  | And=>exact T.pure rfl h fun q=>wpAny_allTrue_And_nil q
  | Or=>exact T.pure rfl h fun q=>wpAny_allTrue_Or_nil q
 | cons e r=>
  cases op with
  | And=>
   intro E s Q S k
   refine wpAny_allTrue_And_cons ((X.b h).b E s _ S fun c z m Δ s2 t S2=>?_)
   exact ITE.if ⟨fun hc=>X.tt (t.t hc) E s2 Q S2 k,fun hc=>k _ _ _ _ _ _ rfl (t.f hc) S2⟩
  | Or=>
   intro E s Q S k
   refine wpAny_allTrue_Or_cons ((X.b h).b E s _ S fun c z m Δ s2 t S2=>?_)
   exact ITE.if ⟨fun hc=>k _ _ _ _ _ _ rfl (t.t hc) S2,fun hc=>X.tt (t.f hc) E s2 Q S2 k⟩
theorem star_cons {e:PySem.Expr} (h:(ek e == 5)=false) {r:List PySem.Expr} {env:Env}:starEach (e::r) env=(false,eval e env)::starEach r env:=by
 cases e <;> first | rfl | cases h
theorem stepAr_ok (X:XOk C x) {pos:Pos} {es:List PySem.Expr} {K:List AV→SP} (h:stepAr C x pos es z m Δ K):T C ARel (spliced (backTo pos (starEach es C.env))) z m Δ K:=by
 cases es with
 | nil=>exact T.pure .nil h fun q=>sp_nil q
 | cons e r=>
  refine bc_e h (fun d h=>h.out) fun hn h=>?_
  exact fun E s Q S k=>sp_cons (X.e h E s _ S fun a v z m Δ s1 hv t S1=>X.l t E s1 _ S1 fun as vs z m Δ s2 hvs t2 S2=>k _ _ _ _ _ _ (.cons hv hvs) t2 S2) (star_cons hn)
theorem Fl.n:Fl.is .next .next:=rfl
theorem Fl.b:Fl.is .brk .brk:=rfl
theorem Fl.c:Fl.is .cont .cont:=rfl
theorem Fl.r {a:AV} {v:Value} (h:a.is v):Fl.is (.ret a) (.ret v):=⟨v,rfl,h⟩
theorem asgX_ok (O:C.Okh) (X:XOk C x) {ts:List PySem.Expr} {v:PySem.Expr} {pos:Pos} {K:Fl→SP} (h:asgX C x (.Assign ts v pos) ts v z m Δ K):T C Fl.is (exec (.Assign ts v pos) C.env) z m Δ K:=by
 obtain _ | ⟨t,_ | _⟩:=ts
 ·exact L0.out h
 ·refine bc_e h (fun d h=>h.out) fun hp h=>?_
  cases t
  case Name=>exact fun E s Q S k=>wpAny_Assign_Name (X.e h E s _ S fun a v z m Δ s1 hv t S1=>stX_ok O t v hv E s1 _ S1 fun d d z m Δ s2 d t2 S2=>k _ _ _ _ _ _ Fl.n t2 S2) (swap_of hp)
  case Subscript=>exact fun E s Q S k=>wpAny_Assign_Subscript (X.e h E s _ S fun a v z m Δ s1 hv t S1=>X.e t E s1 _ S1 fun b u z m Δ s2 hu t2 S2=>X.e t2 E s2 _ S2 fun c i z m Δ s3 hi t3 S3=>L3.out t3 u i v hu hi hv E s3 _ S3 fun d d z m Δ s4 d t4 S4=>k _ _ _ _ _ _ Fl.n t4 S4) (swap_of hp)
  case Attribute=>exact fun E s Q S k=>plainObj_wpAny_Assign_Attribute (X.e h E s _ S fun a v z m Δ s1 hv t S1=>X.e t E s1 _ S1 fun b u z m Δ s2 hu t2 S2=>L2.out t2 u v hu hv E s2 _ S2 fun d d z m Δ s4 d t4 S4=>k _ _ _ _ _ _ Fl.n t4 S4) (swap_of hp)
  all_goals exact L0.out h
 ·exact L0.out h
theorem stepSS_ok (X:XOk C x) {ss:List Stmt} {K:Fl→SP} (h:stepSS x ss z m Δ K):T C Fl.is (execs ss C.env) z m Δ K:=by
 cases ss with
 | nil=>exact T.pure Fl.n h fun q=>wpAny_execs_nil q
 | cons st r=>
  intro E s Q S k
  refine wpAny_execs_cons (X.st h E s _ S fun f fl z m Δ s1 hf t S1=>?_)
  cases f with
  | next=>cases hf;exact X.ss t E s1 Q S1 k
  | brk=>cases hf;exact k _ _ _ _ _ _ Fl.b t S1
  | cont=>cases hf;exact k _ _ _ _ _ _ Fl.c t S1
  | ret a=>obtain ⟨v,rfl,hv⟩:=hf;exact k _ _ _ _ _ _ (Fl.r hv) t S1
set_option tactic.hygienic true in
theorem augX_ok (O:C.Okh) (X:XOk C x) {t v:PySem.Expr} {op:Operator} {pos:Pos} {K:Fl→SP} (h:augX C x (.AugAssign t op v pos) t op v z m Δ K):T C Fl.is (exec (.AugAssign t op v pos) C.env) z m Δ K:=by
 cases t
 case Name n p=>
  have h:(match C.env.kindOf n with
   | some .local=>(match lk m n with | some a=>kAug C x n op v K a z m Δ | none=>False)
   | _=>L0 C Fl.is (exec (.AugAssign (.Name n p) op v pos) C.env) z m Δ K):=h
  cases hk:C.env.kindOf n with
  | none=>rw [hk] at h;exact L0.out h
  | some k=>
   rw [hk] at h
   cases k
   case «local»=>
    cases ha:lk m n with
    | none=>rw [ha] at h;cases h
    | some a=>
     rw [ha] at h
     exact fun E s Q S k=>wpAny_AugAssign_Name (lname S rfl O.k hk ha fun v hv=>X.e h E _ _ S fun b u z m Δ s1 hu t S1=>inpX_ok t v hv u hu E s1 _ S1 fun r y z m Δ s2 hy t2 S2=>stX_ok O t2 y hy E s2 _ S2 fun d d z m Δ s2 d t2 S2=>k _ _ _ _ _ _ Fl.n t2 S2)
   all_goals exact L0.out h
 case Attribute=>exact fun E s Q S k=>wpAny_AugAssign_AttributeAny (X.e h E s _ S fun o ov z m Δ s1 ho t S1=>L1.out t ov ho E s1 _ S1 fun a v z m Δ s2 hv t2 S2=>X.e t2 E s2 _ S2 fun b u z m Δ s3 hu t3 S3=>inpX_ok t3 v hv u hu E s3 _ S3 fun r y z m Δ s4 hy t4 S4=>L2.out t4 ov y ho hy E s4 _ S4 fun d d z m Δ s5 d t5 S5=>k _ _ _ _ _ _ Fl.n t5 S5)
 case Subscript o i p=>
  refine bc_e h (fun d h=>h.out) fun hi h=>?_
  exact fun E s Q S k=>wpAny_AugAssign_SubscriptAny (X.e h E s _ S fun o ov z m Δ s1 ho t S1=>X.e t E s1 _ S1 fun i iv z m Δ s2 hi t S2=>L2.out t ov iv ho hi E s2 _ S2 fun a v z m Δ s2 hv t2 S2=>X.e t2 E s2 _ S2 fun b u z m Δ s3 hu t3 S3=>inpX_ok t3 v hv u hu E s3 _ S3 fun r y z m Δ s4 hy t4 S4=>L3.out t4 ov iv y ho hi hy E s4 _ S4 fun d d z m Δ s5 d t5 S5=>k _ _ _ _ _ _ Fl.n t5 S5) fun d d d=>by cases i <;> first | rfl | cases hi
 all_goals exact L0.out h
set_option tactic.hygienic true in
theorem stepS_ok (O:C.Okh) (X:XOk C x) {s:Stmt} {K:Fl→SP} (h:stepS C x s z m Δ K):T C Fl.is (exec s C.env) z m Δ K:=by
 cases s
 case Expr=>
  refine bc_e h (fun d h=>h.out) fun hp h=>?_
  exact fun E s Q S k=>wpAny_Expr_any (X.e h E s _ S fun a v z m Δ s1 hv t S1=>k _ _ _ _ _ _ Fl.n t S1) (by unfold interactive;rw [O.k];rfl) (swap_of hp)
 case Assign=>exact asgX_ok O X h
 case AugAssign=>exact augX_ok O X h
 case If=>
  intro E s Q S k
  refine wpAny_If ((X.b (LI.out h)).b E s _ S fun c z m Δ s2 t S2=>?_)
  exact ITE.if ⟨fun hc=>X.ss (t.t hc) E s2 Q S2 k,fun hc=>X.ss (t.f hc) E s2 Q S2 k⟩
 case For t it b els pos=>
  obtain _ | _:=els
  ·refine bc_e h (fun d h=>h.out) fun hn h=>?_
   exact fun E s Q S k=>s_for (X.e h E s _ S fun a v z m Δ s1 hv t S1=>LF.out t v hv E s1 Q S1 k) fun v=>fold_of hn
  ·exact L0.out h
 case Return o p=>
  cases o with
  | none=>exact T.pure (Fl.r is_v) h fun q=>wpAny_Return_none q
  | some e=>exact fun E s Q S k=>wpAny_Return_some (X.e h E s _ S fun a v z m Δ s1 hv t S1=>k _ _ _ _ _ _ (Fl.r hv) t S1)
 case Break=>exact T.pure Fl.b h fun q=>wpAny_Break q
 case Continue=>exact T.pure Fl.c h fun q=>wpAny_Continue q
 case Pass=>exact T.pure Fl.n h fun q=>wpAny_Pass q
 all_goals exact L0.out h
theorem X_ok (O:C.Okh) (n:Nat):XOk C (X C n):=by
 induction n with
 | zero=>exact ⟨L0.out,L0.out,L0.out,L0.out,L0.out,L0.out⟩
 | succ n ih=>exact ⟨stepE_ok O ih,stepB_ok ih,stepA_ok ih,stepAr_ok ih,stepS_ok O ih,stepSS_ok ih⟩
end
inductive OF (z:Z) (Δ:Ds) (a:Addr) (P:OP):Prop where
 | own (j:Nat) (h:Δ[j]?=some (a,P))
 | fz (h:Fz z a P)
theorem OF.has {w:World} {ρ:Rest} {z:Z} {Δ:Ds} {F:Addr×OP} {s:Shared} {a:Addr} {P:OP} (h:OF z Δ a P) (S:St w ρ z (F::Δ) s):Has s a P:=by
 cases h with
 | own j h=>exact S.at (j+1) h
 | fz h=>exact S.fz h
noncomputable def noSlice:PySem.Expr→Bool
 | .Slice ..=>false
 | _=>true
theorem noSlice_ok {i:PySem.Expr} (h:noSlice i=true) {o x:Value}:subscripted i false o x=operate [o,x] (getItem o x):=by
 cases i <;> first | rfl | cases h
section
variable {C:Cx} {α β:Type} {rel:β→α→Prop} {z:Z} {m:Loc} {Δ:Ds}
theorem lf_sl {v i:PySem.Expr} {l:Addr} {vs:List AV} {n:Nat} {a:AV} {K:AV→SP} (h:OF z Δ l (ListO vs)) (hx:vs[n]?=some a) (hz:vs.length≤1000000) (k:K a z m Δ) (hs:noSlice i=true:=by rfl):L2 C AV.is (subscriptTail v i) (.v (.ref l)) (.i (.ofNat n)) z m Δ K:=
 ⟨fun x y hx' ⟨t,hy⟩=>by
  cases hx';subst hy
  refine (?_:_→_) ((List.getElem?_eq_some_iff.mp hx).1)
  intro hn
  exact T.get k fun S q=>sub_list (h.has S) (Int.natCast_nonneg n) (by show (n:Int)<_;lia) hx q (noSlice_ok hs)⟩
theorem lf_tup {v i:PySem.Expr} {l:Addr} {vs:List AV} {n:Nat} {a:AV} {K:AV→SP} (h:OF z Δ l (TupO vs)) (hx:vs[n]?=some a) (hz:vs.length≤1000000) (k:K a z m Δ) (hs:noSlice i=true:=by rfl):L2 C AV.is (subscriptTail v i) (.v (.ref l)) (.i (.ofNat n)) z m Δ K:=
 ⟨fun x y hx' ⟨t,hy⟩=>by
  cases hx';subst hy
  refine (?_:_→_) ((List.getElem?_eq_some_iff.mp hx).1)
  intro hn
  refine T.get k fun S q=>sub_tup (j:=n) (h.has S) (by show _≤(n:Int);lia) (by show (n:Int)<_;lia) ?_ hx q (noSlice_ok hs)
  refine (?_:(n<vs.length)→_) ((List.getElem?_eq_some_iff.mp hx).1)
  intro h2
  refine (?_:(¬ ((n:Int)<0))→_) (by exact ar15)
  intro h3
  simp [seqIndex?,h3,h2]⟩
theorem lf_set {l:Addr} {vs:List AV} {n j:Nat} {a:AV} {K:Unit→SP} (hj:Δ[j]?=some (l,ListO vs)) (hn:n<vs.length) (hz:vs.length≤1000000) (k:K () z m (Δ.set j (l,ListO (vs.set n a)))):L3 C uu (fun o i v=>setItem o i v) (.v (.ref l)) (.i (.ofNat n)) a z m Δ K:=
 ⟨fun x y u hx ⟨t,hy⟩ hu=>by
  cases hx;subst hy
  exact T.step k fun S q=>si_list S (j:=j+1) hj (Int.natCast_nonneg n) (by show (n:Int)<_;omega) (by show (n:Int)<_;exact ar276 hn) hu fun s' S'=>q _ s' trivial S'⟩
theorem lf_len {l:Addr} {vs:List AV} {K:AV→SP} (h:OF z Δ l (ListO vs)) (hz:vs.length≤1000000) (k:K (.i (.ofNat vs.length)) z m Δ):LC C (.v (.builtin "len")) [.v (.ref l)] z m Δ K:=
 lc1 (T.step k fun S q=>b_len S (h.has S) hz fun t s' S'=>q _ s' ⟨t,rfl⟩ S')
theorem lf_tl {l:Addr} {vs:List AV} {K:Bool→SP} (h:OF z Δ l (ListO vs)) (hz:vs.length≤1000000) (k:K (!vs.isEmpty) z m Δ):L1 C Eq truthy (.v (.ref l)) z m Δ K:=
 l1v (T.step k fun S q=>t_list S (h.has S) hz fun s' S'=>q _ s' rfl S')
theorem lf_gml {l:Addr} {vs:List AV} {n:Str} {id:String} {pl:Sem Bool} {K:AV×List AV→SP} (h:OF z Δ l (ListO vs)) (slot:Slot "list" n id) (hty:typeOf (.builtin id)=pure (.type "method_descriptor"))
 (k:K (.v (.builtin id),[.v (.ref l)]) z m Δ):L1 C MR (fun v=>getMethod v n pl) (.v (.ref l)) z m Δ K:=
  l1v (fun E s Q S q=>gm_list (h.has S) slot hty (q _ _ _ _ _ _ ⟨is_v,.cons is_v .nil⟩ k S))
theorem lf_append {l:Addr} {vs:List AV} {j:Nat} {a:AV} {K:AV→SP} (hj:Δ[j]?=some (l,ListO vs)) (hz:vs.length≤1000000) (k:K (.v .none) z m (Δ.set j (l,ListO (vs++[a])))):LC C (.v (.builtin "list.append")) [.v (.ref l),a] z m Δ K:=
 lc2 fun B hu=>T.step k fun S q=>b_append S (j:=j+1) hj hu hz fun s' S'=>q _ s' is_v S'
theorem lf_pop {l:Addr} {vs:List AV} {j:Nat} {a:AV} {K:AV→SP} (hj:Δ[j]?=some (l,ListO (vs++[a]))) (hz:vs.length≤1000000) (k:K a z m (Δ.set j (l,ListO vs))):LC C (.v (.builtin "list.pop")) [.v (.ref l)] z m Δ K:=
 ⟨fun x xs hx hxs=>by
  cases hx;obtain _ | ⟨hv,_ | _⟩:=hxs;cases hv
  refine T.step k @fun E s Q S q=>?_
  obtain ⟨o,e,items,n,rfl,r⟩:=S.at (j+1) hj
  have hsz:items.size=vs.length+1:=by rw [r.sizeA];simp
  refine (let Gl:Prop:=_;(?_:Gl))
  obtain ⟨x,hx⟩:=r.getA (i:=vs.length) (a:=a) (by simp)
  refine (?_:_→_→_) hx.1 hx.2
  intro hx ha
  refine call_meets F.slot_list_pop ⟨_,e,rfl⟩ F.entry_list_pop (F.args_list_pop_1 _) (MeetsSeq.list_pop_last l items n x (by rw [hsz];exact hx) (by rw [hsz,sizeLine_eq];exact ar250 hz)) ⟨e,q _ _ ha ?_⟩
  refine S.upd (t:=s.toks) (j+1) hj fun o' e' B=>?_
  rw [e] at e';cases e'
  refine ⟨⟨items.eraseIdxIfInBounds (items.size - 1),n+1,?_,?_⟩,?_⟩
  ·refine (?_:(¬ ((items.eraseIdxIfInBounds (items.size - 1)).size == items.size)=true)→_) (by
    refine (?_:((items.eraseIdxIfInBounds (items.size - 1)).size=items.size - 1)→_) (by
     unfold Array.eraseIdxIfInBounds
     rw [dif_pos (by exact ar187 hsz)]
     simp)
    intro h1
    rw [h1];simp;exact ar193 hsz)
   intro this
   simp only [Obj.mapSeq,if_neg this]
  ·refine (?_:((items.eraseIdxIfInBounds (items.size - 1)).toList=items.toList.dropLast)→_) (by
    rw [Array.toList_eraseIdxIfInBounds]
    refine (?_:(items.size - 1=items.toList.length - 1)→_) (by simp)
    intro this
    rw [this,List.eraseIdx_length_sub_one])
   intro h1
   rw [h1]
   refine (?_:_→_) (r.dropLast)
   intro this
   simpa using this
  ·simp only [Obj.mapSeq,Obj.isFreed]⟩
structure Wk (Δ Δ':Ds):Prop where
 sub:∀ p∈Δ',p∈Δ
 nd:(Δ.map (·.1)).Nodup→(Δ'.map (·.1)).Nodup
theorem wkr {Δ:Ds}:Wk Δ Δ:=⟨fun B h=>h,fun h=>h⟩
theorem Wk.perm {Δ Δ':Ds} (h:Δ'.Perm Δ):Wk Δ Δ':=⟨fun B q=>h.subset q,fun q=>(h.map _).nodup_iff.mpr q⟩
theorem Wk.tail {p:Addr×OP} {Δ:Ds}:Wk (p::Δ) Δ:=⟨fun B h=>.tail _ h,fun h=>(List.nodup_cons.mp h).2⟩
theorem Wk.trans {Δ Δ' Δ'':Ds} (h:Wk Δ Δ') (g:Wk Δ' Δ''):Wk Δ Δ'':=⟨fun p q=>h.sub p (g.sub p q),fun q=>g.nd (h.nd q)⟩
theorem Wk.cons {p:Addr×OP} {Δ Δ':Ds} (h:Wk Δ Δ'):Wk (p::Δ) (p::Δ'):=⟨fun q hq=>(List.mem_cons.mp hq).elim (fun e=>e▸.head _) fun hq=>.tail _ (h.sub q hq),fun hn=>by
 rw [List.map_cons,List.nodup_cons] at hn ⊢
 refine ⟨fun hm=>hn.1 ?_,h.nd hn.2⟩
 obtain ⟨q,hq⟩:=List.mem_map.mp hm
 refine (?_:_→_→_) hq.1 hq.2
 intro hq e
 exact e▸List.mem_map_of_mem (h.sub q hq)⟩
theorem Wk.st {Δ Δ':Ds} (h:Wk Δ Δ') {w:World} {ρ:Rest} {z:Z} {s:Shared} (S:St w ρ z Δ s):St w ρ z Δ' s:=
 ⟨S.wf,S.fr,fun p hp=>S.own p (h.sub p hp),h.nd S.nd,fun p hp=>S.lo p (h.sub p hp),S.sz,S.g,S.d,S.os⟩
theorem Wk.rot {p:Addr×OP} {Δ:Ds}:Wk (Δ++[p]) (p::Δ):=.perm (List.perm_append_comm (l₁:=[p]) (l₂:=Δ))
noncomputable def retA:Fl→AV
 | .ret a=>a
 | _=>.v .none
theorem retA_is {f:Fl} {fl:Flow} (h:f.is fl):(retA f).is (retOf fl):=by
 cases f with
 | ret a=>obtain ⟨v,rfl,hv⟩:=h;exact hv
 | next=>cases h;rfl
 | brk=>cases h;rfl
 | cont=>cases h;rfl
structure CF (w:World) (ρ:Rest) (A:Around) (f:Addr) (as:List AV) (z:Z) (Δ:Ds) (K:AV→Z→Ds→Prop):Prop where
 out:∀ xs,ARel as xs→∀ (E:VP) (s:Shared) (Q:VP),St w ρ z Δ s→(∀ a v z' Δ' s',a.is v→K a z' Δ'→St w ρ z' Δ' s'→Q v s')→wpAny (model PG w) A (call (.ref f) xs) Q E s
theorem BRel.zip:∀ {ns:List Str} {as:List AV} {vs:List Value},ARel as vs→BRel (ns.zip vs) (ns.zip as)
 | [],_,_,h=>by cases h <;> exact .nil
 | n::ns,_,_,.nil=>.nil
 | n::ns,_,_,.cons h r=>.cons h (BRel.zip r)
noncomputable def kFn (K:AV→Z→Ds→Prop):Fl→SP:=fun fl z B Δ=>∃ Δ',Wk Δ Δ'∧K (retA fl) z Δ'
theorem kFn_i {K:AV→Z→Ds→Prop} {fl:Fl} {z:Z} {m:Loc} {Δ:Ds} (Δ':Ds) (hw:Wk Δ Δ') (k:K (retA fl) z Δ'):kFn K fl z m Δ:=⟨Δ',hw,k⟩
theorem lf_def {w:World} {ρ:Rest} {A:Around} {f:Addr} {name qual:Str} {params:Arguments} {body:List Stmt} {scope:Scope} {dV kV doc pm cdv ct oc:Value} {an od:Option Addr} {osl:Array (Option Value)} {as:List AV} {n:Nat} {K:AV→Z→Ds→Prop} (R:Room A (n+1))
 (h:∀ L A',Room A' n→let C:Cx:=⟨w,ρ,A',envOf qual scope L f cdv⟩;C.Ok→(X C 60).ss body z ((params.args.map (·.arg)).zip as) Δ (kFn K))
  (ho:List.lookup f (hdp.heap_1_39 w.params)=some ⟨oc,od,.func (fnOf name qual params body scope dV kV doc pm an cdv ct),osl⟩) (hcd:codeIn (hdp.heap_1_39 w.params) cdv qual=true)
  (hbind:∀ args,args.length=as.length→bindArgs (fnOf name qual params body scope dV kV doc pm an cdv ct) ⟨args,[]⟩=pure ((params.args.map (·.arg)).zip args)) (hloc:∀ x∈params.args.map (·.arg),scope.names.lookup x=some .local) (hnd:(params.args.map (·.arg)).Nodup)
  (hco:scope.isCoroutine=false) (hgen:scope.isGenerator=false) (hk:scope.kind=.function) (hcell:∀ x∈scope.names,x.2≠.cell):CF w ρ A f as z Δ K:=
  ⟨fun xs hxs E s Q S k=>cf S ho hcd R (hbind xs hxs.length) hloc (BRel.zip hxs) hnd (fun L s' A' E' R' S'=>by
   refine (?_:(Cx.Ok ⟨w,ρ,A',envOf qual scope L f cdv⟩)→_) (⟨hk,rfl,rfl,R'.le (Nat.zero_le _)⟩)
   intro O
   exact (X_ok O.h 60).ss (h L A' R' O) E' s' _ S' fun fl v z' m' Δ' s'' hv t S''=>let ⟨_,hw,t⟩:=t;k _ _ _ _ _ (retA_is hv) t (hw.st S''.tail)) hco hgen hk hcell⟩
theorem lc_at {f:Addr} {as:List AV} {K:AV→SP} (j:Nat) {a:Addr} {P:OP} (hj:Δ[j]?=some (a,P))
 (h:∀ F Δ',CF C.w C.ρ C.A f as z ((a,P)::F::Δ') fun r z' Δ''=>∃ P',Δ''=(a,P')::F::Δ'∧K r z' m (Δ.set j (a,P'))):LC C (.v (.ref f)) as z m Δ K:=
  ⟨fun x xs hx hxs=>by
   cases hx
   intro E s Q S k
   refine (?_:(((a,P)::(C.env.locals,FrO m)::Δ.eraseIdx j).Perm ((C.env.locals,FrO m)::Δ))→_) ((List.Perm.swap ..).trans ((perm_erase hj).cons _))
   intro p1
   refine (h (C.env.locals,FrO m) (Δ.eraseIdx j)).out xs hxs E s Q (S.perm p1) fun r v z' Δ'' s' hv t S'=>?_
   obtain ⟨P',rfl,t⟩:=t
   refine (?_:((Δ.set j (a,P'))[j]?=some (a,P'))→_) (by
    rw [List.getElem?_set,if_pos rfl,if_pos (List.getElem?_eq_some_iff.mp hj).1])
   intro hj2
   refine (?_:(((a,P')::(C.env.locals,FrO m)::Δ.eraseIdx j).Perm ((C.env.locals,FrO m)::Δ.set j (a,P')))→_) (by
    refine (List.Perm.swap ..).trans (List.Perm.cons _ ?_)
    refine (?_:_→_) (perm_erase hj2)
    intro this
    rwa [List.eraseIdx_set_eq] at this)
   intro p2
   exact k _ _ _ _ _ _ hv t (S'.perm p2.symm)⟩
theorem lc_pre {f:Addr} {as:List AV} {K:AV→SP} (h:∀ Δ',CF C.w C.ρ C.A f as z Δ' fun r z' Δ''=>∃ N,Δ''=N++Δ'∧K r z' m (N++Δ)):LC C (.v (.ref f)) as z m Δ K:=
 ⟨fun x xs hx hxs=>by
  cases hx
  intro E s Q S k
  refine (h _).out xs hxs E s Q S fun r v z' Δ'' s' hv t S'=>?_
  obtain ⟨N,rfl,t⟩:=t
  exact k _ _ _ _ _ _ hv t (S'.perm List.perm_middle.symm)⟩
theorem lc_pure {f:Addr} {as:List AV} {K:AV→SP} (h:∀ Δ',CF C.w C.ρ C.A f as z Δ' fun r z' Δ''=>Δ''=Δ'∧K r z' m Δ):LC C (.v (.ref f)) as z m Δ K:=
 ⟨fun x xs hx hxs=>by
  cases hx
  intro E s Q S k
  refine (h _).out xs hxs E s Q S fun r v z' Δ'' s' hv t S'=>?_
  obtain ⟨rfl,t⟩:=t
  exact k _ _ _ _ _ _ hv t S'⟩
noncomputable def okPick (n:Nat):List Nat→Bool
 | []=>true
 | i::r=>Nat.blt i n && !(r.contains i) && okPick n r
noncomputable def pick (n:Nat) (is:List Nat) (Δ:Ds):Ds:=is.filterMap (fun i=>Δ[i]?)++Δ.drop n
theorem Wk.pick {Δ:Ds} (n:Nat) (is:List Nat) (h:okPick n is=true):Wk Δ (LW.pick n is Δ):=by
 induction is with
 | nil=>exact ⟨fun p hp=>List.mem_of_mem_drop hp,fun hn=>hn.sublist ((List.drop_sublist ..).map _)⟩
 | cons i r ih=>
  refine (?_:_→_) (Bool.and_eq_true_iff.mp h)
  intro h
  have h1:=Bool.and_eq_true_iff.mp h.1
  have ih:=ih h.2
  cases hi:Δ[i]? with
  | none=>unfold LW.pick;rw [List.filterMap_cons,hi];exact ih
  | some p=>
   have e:LW.pick n (i::r) Δ=p::LW.pick n r Δ:=by unfold LW.pick;rw [List.filterMap_cons,hi];rfl
   rw [e]
   refine ⟨fun q hq=>(List.mem_cons.mp hq).elim (fun e=>e▸List.mem_of_getElem? hi) fun hq=>ih.sub q hq,fun hn=>?_⟩
   rw [List.map_cons,List.nodup_cons]
   refine ⟨fun hm=>?_,ih.nd hn⟩
   obtain ⟨q,hq⟩:=List.mem_map.mp hm
   refine (?_:_→_→_) hq.1 hq.2
   intro hq e
   have hk:∃ k,Δ[k]?=some q∧k≠i:=by
    rcases List.mem_append.mp hq with hq | hq
    ·obtain ⟨k,hk⟩:=List.mem_filterMap.mp hq
     refine (?_:_→_→_) hk.1 hk.2
     intro hk e2
     exact ⟨k,e2,fun e3=>by rw [List.contains_iff_mem.mpr (e3▸hk)] at h1;cases h1.2⟩
    ·obtain ⟨k,hk⟩:=List.getElem?_of_mem hq
     rw [List.getElem?_drop] at hk
     exact ⟨n+k,hk,fun e3=>absurd (Nat.le_of_ble_eq_true h1.1) (by show ¬ i+1≤n;exact ar223 e3)⟩
   obtain ⟨k,hk⟩:=hk
   refine (?_:_→_→_) hk.1 hk.2
   intro hk hne
   refine hne (nodup_idx hn (a:=p.1) ?_ ?_)
   ·rw [List.getElem?_map,hk,← e];rfl
   ·rw [List.getElem?_map,hi];rfl
theorem T.wk {c:Sem α} {K:β→SP} {Δ':Ds} (hw:Wk Δ Δ') (h:T C rel c z m Δ' K):T C rel c z m Δ K:=fun E s Q S k=>h E s Q (hw.cons.st S) k
theorem lk_app:∀ {l r:Loc} {x:Str} {a:AV},lk l x=some a→lk (l++r) x=some a
 | (k,b)::l,r,x,a,h=>by
  show (if x=k then some b else lk (l++r) x)=some a
  unfold lk at h
  split
  ·rename_i e;rw [if_pos e] at h;exact h
  ·rename_i e;rw [if_neg e] at h;exact lk_app h
theorem St.pre {w:World} {ρ:Rest} {s:Shared} {L:Addr} {m e:Loc} (S:St w ρ z ((L,FrO (m++e))::Δ) s):St w ρ z ((L,FrO m)::Δ) s:=
 S.weak (P':=FrO m) 0 rfl fun o ⟨es,ep,a,b,c⟩=>⟨es,ep,a,b,fun x a h=>c x a (lk_app h)⟩
structure WE {σ:Type} (zf:σ→Z) (mf:σ→Loc) (Δf:σ→Ds) (I:σ→Prop) (μ:σ→Nat) (x:σ) (K Kb:Fl→SP):Prop where
 nx:∀ y e {Δ},Wk Δ (Δf y)→μ y<μ x→I y→Kb .next (zf y) (mf y++e) Δ
 ct:∀ y e {Δ},Wk Δ (Δf y)→μ y<μ x→I y→Kb .cont (zf y) (mf y++e) Δ
 br:∀ {z m Δ},K .next z m Δ→Kb .brk z m Δ
 rt:∀ {a z m Δ},K (.ret a) z m Δ→Kb (.ret a) z m Δ
noncomputable def kWh (C:Cx) (b:List Stmt) (Kb K:Fl→SP):Bool→SP:=fun c z m Δ=>ITE c ((X C 60).ss b z m Δ Kb) (K .next z m Δ)
theorem lf_while {t:PySem.Expr} {b:List Stmt} {pos:Pos} {K:Fl→SP} {σ:Type} (zf:σ→Z) (mf:σ→Loc) (Δf:σ→Ds) (I:σ→Prop) (μ:σ→Nat) (O:C.Ok) (x0:σ) (h0:I x0)
 (turn:let zf:=zf;let mf:=mf;let Δf:=Δf;let I:=I;let μ:=μ;let K:=K;∀ x,I x→∀ Kb:Fl→SP,WE zf mf Δf I μ x K Kb→(X C 60).b t (zf x) (mf x) (Δf x) (kWh C b Kb K))
 (e:Loc) (hz:z=zf x0) (hm:m=mf x0++e) (hΔ:Wk Δ (Δf x0)):L0 C Fl.is (exec (.While t b [] pos) C.env) z m Δ K:=⟨by
  subst hz hm
  intro E s Q S k
  refine wwhile (fun n s=>∃ x e,n=μ x∧I x∧St C.w C.ρ (zf x) ((C.env.locals,FrO (mf x++e))::Δf x) s) (μ x0) ⟨x0,e,rfl,h0,hΔ.cons.st S⟩ ?_
  rintro _ s ⟨x,e,rfl,hI,S⟩ E' Qb hQb
  refine (?_:_→_) (S.pre)
  intro S
  refine ((X_ok O.h 60).b (turn x hI (fun f z m Δ=>(∃ y e,μ y<μ x∧I y∧(f=.next∨f=.cont)∧z=zf y∧m=mf y++e∧Wk Δ (Δf y))∨(f=.brk∧K .next z m Δ)∨(∃ a,f=.ret a∧K (.ret a) z m Δ)) ⟨fun y e B h0 h1 h2=>.inl ⟨y,e,h1,h2,.inl rfl,rfl,rfl,h0⟩,fun y e B h0 h1 h2=>.inl ⟨y,e,h1,h2,.inr rfl,rfl,rfl,h0⟩,
   fun h=>.inr (.inl ⟨rfl,h⟩),fun h=>.inr (.inr ⟨_,rfl,h⟩)⟩)).b E' s _ S fun c z m Δ s2 t S2=>?_
  refine ITE.if ⟨fun hc=>(X_ok O.h 60).ss (t.t hc) E' s2 Qb S2 ?_,fun hc=>k _ _ _ _ _ _ Fl.n (t.f hc) S2⟩
  rintro f fl z m Δ s3 hf t3 S3
  refine hQb _ _ ?_
  rcases t3 with ⟨y,e,h1,h2,hn,rfl,rfl,h3⟩ | ⟨rfl,h⟩ | ⟨a,rfl,h⟩
  ·rcases hn with rfl | rfl
   ·cases hf;exact ⟨_,h1,y,e,rfl,h2,h3.cons.st S3⟩
   ·cases hf;exact ⟨_,h1,y,e,rfl,h2,h3.cons.st S3⟩
  ·cases hf;exact k _ _ _ _ _ _ Fl.n h S3
  ·obtain ⟨v,rfl,hv⟩:=hf;exact k _ _ _ _ _ _ (Fl.r hv) h S3⟩
theorem lf_mul2 {n:Nat} {K:AV→SP} (k:K (.i (.ofNat (2 * n))) z m Δ):L2 C AV.is (binaryOp .Mult) (.i 2) (.i (.ofNat n)) z m Δ K:=
 ⟨fun x y ⟨t,hx⟩ ⟨t',hy⟩=>by
  subst hx hy
  exact T.step k fun S q=>o_mul S (fun t s' S'=>q _ s' ⟨t,rfl⟩ S') (IntMulOk.of_left (by decide +kernel))⟩
theorem lf_shrp {n:Nat} {K:AV→SP} (h0:0<n) (k:K (.i (.ofNat ((n - 1) / 2))) z m Δ):L2 C AV.is (binaryOp .RShift) (.i ((.ofNat n:Int) - 1)) (.i 1) z m Δ K:=
 ⟨fun x y ⟨t,hx⟩ ⟨t',hy⟩=>by
  subst hx hy
  exact T.step k fun S q=>o_shrp S h0 fun t s' S'=>q _ s' ⟨t,rfl⟩ S'⟩
theorem lf_ltR {Kk:AV→Nat→Prop} (lt:LtR C.w C.ρ z Kk) (O:C.Ok) {a b:AV} {ka kb:Nat} {K:AV→SP} (ha:Kk a ka) (hb:Kk b kb) (k:K (.v (.bool (decide (ka<kb)))) z m Δ):L2 C AV.is (compareOp .Lt) a b z m Δ K:=
 ⟨fun x y hx hy=>T.step k fun S q=>lt S O.r ha hb hx hy fun s' S'=>q _ s' is_v S'⟩
theorem args0 {P:List Value→Prop} (h:P []) (args:List Value) (hl:args.length=0):P args:=by
 obtain _ | ⟨a,_⟩:=args <;> first | exact h | cases hl
theorem args1 {P:List Value→Prop} (h:∀ a,P [a]) (args:List Value) (hl:args.length=1):P args:=by
 obtain _ | ⟨a,_ | _⟩:=args <;> first | exact h .. | cases hl
theorem args2 {P:List Value→Prop} (h:∀ a b,P [a,b]) (args:List Value) (hl:args.length=2):P args:=by
 obtain _ | ⟨a,_ | ⟨b,_ | _⟩⟩:=args <;> first | exact h .. | cases hl
theorem args3 {P:List Value→Prop} (h:∀ a b c,P [a,b,c]) (args:List Value) (hl:args.length=3):P args:=by
 obtain _ | ⟨a,_ | ⟨b,_ | ⟨c,_ | _⟩⟩⟩:=args <;> first | exact h .. | cases hl
theorem args4 {P:List Value→Prop} (h:∀ a b c d,P [a,b,c,d]) (args:List Value) (hl:args.length=4):P args:=by
 obtain _ | ⟨a,_ | ⟨b,_ | ⟨c,_ | ⟨d,_ | _⟩⟩⟩⟩:=args <;> first | exact h .. | cases hl
theorem le_fsts {P:PL AV} (h:P.length≤1000):(fsts P).length≤1000000:=by
 rw [List.length_map];exact ar52 h
theorem lf_setP {l:Addr} {P:PL AV} {n j:Nat} {p:AV×Nat} {K:Unit→SP} (hj:Δ[j]?=some (l,ListO (fsts P))) (hn:n<P.length) (hz:P.length≤1000) (k:K () z m (Δ.set j (l,ListO (fsts (P.set n p))))):L3 C uu (fun o i v=>setItem o i v) (.v (.ref l)) (.i (.ofNat n)) p.1 z m Δ K:=
 lf_set hj (by rw [List.length_map];exact hn) (le_fsts hz) (by rw [fsts_set];exact k)
theorem join {n:Nat} {t:PySem.Expr} {b e:List Stmt} {Kc:Fl→SP} {σ:Type} (zf:σ→Z) (mf:σ→Loc) (Δf:σ→Ds) (J:σ→Prop) (tail:let K:=Kc;∀ y,J y→K .next (zf y) (mf y) (Δf y))
 (h:let zf:=zf;let mf:=mf;let Δf:=Δf;let J:=J;∀ Kj:Fl→SP,(∀ y,J y→Kj .next (zf y) (mf y) (Δf y))→(X C n).b t z m Δ (kIf (X C n) b e Kj)):LI (X C n) t b e z m Δ Kc:=⟨h Kc tail⟩
end
theorem meets_bool_new_list (l:Addr) (items:Array Value):Meets (Builtin.«bool.__new__» ⟨[.type "bool",.ref l],[]⟩)
 (fun a R s=>s.heap.IsList l items∧(items.size:Int)<2 ^ 63∧∀ tk,R (.ok (.ret (.bool (!items.isEmpty)))) { s with toks:=tk }):=
  Meets.of_wp fun prog w A R s hs=>by
   obtain ⟨hp,g,d,tk,os⟩:=s
   refine (?_:_→_→_→_) hs.1 hs.2.1 hs.2.2
   intro hl hz h
   refine (?_:_→_) (F.conv_sub_bool)
   intro f1
   wp_walk using wpAny_truthy_list hl hz
   exact ⟨_,rfl,h _⟩
section
variable {w:World} {A:Around} {E:VP} {s:Shared} {ρ:Rest} {z:Z} {Δ:Ds}
theorem b_bool {l:Addr} {vs:List AV} {Q:VP} (S:St w ρ z Δ s) (h:Has s l (ListO vs)) (hz:vs.length≤1000000) (k:∀ s',St w ρ z Δ s'→Q (.bool (!vs.isEmpty)) s'):wpAny (model PG w) A (call (.type "bool") [.ref l]) Q E s:=by
 obtain ⟨items,hl,r⟩:=ListO.isL h
 refine call_bool_1 (meets_bool_new_list l items) ⟨hl,by rw [r.sizeA];lia,fun tk=>⟨rfl,?_⟩⟩
 refine (?_:(items.isEmpty=vs.isEmpty)→_) (by
  rw [Bool.eq_iff_iff,Array.isEmpty_iff,List.isEmpty_iff,← Array.size_eq_zero_iff,r.sizeA,List.length_eq_zero_iff])
 intro this
 rw [this];exact k _ S.toks
end
theorem nm_beq (a b:Nat):(nm a == nm b)=decide (a=b):=by
 rw [Bool.eq_iff_iff,beq_iff_eq,decide_eq_true_iff]
 exact ⟨nm_inj,fun h=>by rw [h]⟩
theorem nm_lt (a b:Nat):decide ((nm a).cps.toList<(nm b).cps.toList)=decide (a<b):=by
 rw [decide_eq_decide]
 show [97+a]<[97+b]↔a<b
 rw [List.cons_lt_cons_iff]
 simp
theorem lex_int {A:Around} {s:Shared} {fin:Bool} {a b:Int} {t u:Tok} {r:List (Value×Value)} {k:Bool} (h:a=b→Lex A s fin r k) (h2:a≠b→k=decide (a<b)):Lex A s fin ((.int a t,.int b u)::r) k:=by
 by_cases q:a=b
 ·refine .eq ?_ (h q)
  have:=EqAt.int_int (A:=A) (s:=s) a t b u
  rwa [show (a == b)=true from by simpa using q] at this
 ·refine .ne ?_ fun prog w E Q hq=>?_
  ·have:=EqAt.int_int (A:=A) (s:=s) a t b u
   rwa [show (a == b)=false from by simpa using q] at this
  ·rw [h2 q] at hq
   exact PyProof.Rows.lt_int (a:=a) (b:=b) hq
theorem lex_nm {A:Around} {s:Shared} {fin:Bool} {a b:Nat} {t u:Tok} {r:List (Value×Value)} {k:Bool} (h:a=b→Lex A s fin r k) (h2:a≠b→k=decide (a<b)):Lex A s fin ((.str (nm a) t,.str (nm b) u)::r) k:=by
 refine (?_:_→_) (EqAt.str_str (A:=A) (s:=s) (nm a) t (nm b) u)
 intro e
 rw [nm_beq] at e
 by_cases q:a=b
 ·refine .eq ?_ (h q)
  rwa [decide_eq_true q] at e
 ·refine .ne ?_ fun prog w E Q hq=>?_
  ·rwa [decide_eq_false q] at e
  ·rw [h2 q,← nm_lt] at hq
   exact PyProof.Rows.lt_str (x:=nm a) (y:=nm b) hq
section
variable {w:World} {A:Around} {E:VP} {s:Shared} {ρ:Rest} {z:Z} {Δ:Ds}
theorem lt_tup {a b:Addr} {as bs:List AV} {k:Bool} {Q:VP} (S:St w ρ z Δ s) (R:Room A 0) (ha:Has s a (TupO as)) (hb:Has s b (TupO bs)) (hl:as.length=bs.length) (h:∀ xs ys,ARel as xs→ARel bs ys→Lex A.in1 s false (xs.zip ys) k)
 (q:Q (.bool k) s):wpAny (model PG w) A (compareOp .Lt (.ref a) (.ref b)) Q E s:=by
  obtain ⟨o,e,items,n,rfl,r⟩:=ha
  obtain ⟨o2,e2,items2,n2,rfl,r2⟩:=hb
  refine (?_:_→_) (r.sizeA)
  intro h1
  refine (?_:_→_) (r2.sizeA)
  intro h2
  refine richCompare_meets_room (op:=.Lt) ⟨_,e,rfl⟩ ⟨_,e2,rfl⟩ F.slot_tuple_lt F.entry_tuple_lt (F.args_tuple_lt_2 _ _) (tuple_lt_meets a b items items2 n n2 none none #[] #[] k)
   ⟨e,e2,?_,(fun x=>nomatch x),q⟩ R.u0
  rw [show decide (items.size<items2.size)=false from by rw [h1,h2,hl];simp]
  exact h _ _ r r2
noncomputable def KI:AV→Nat→Prop:=fun a k=>a=.i (k:Nat)
theorem ltr_int:LtR w ρ z KI:=by
 intro A E s Δ Q a b ka kb x y S R h1 h2 hx hy k
 subst h1;subst h2
 obtain ⟨t,rfl⟩:=hx
 obtain ⟨u,rfl⟩:=hy
 refine PyProof.Rows.lt_int ?_
 rw [show decide ((ka:Int)<(kb:Int))=decide (ka<kb) from decide_eq_decide.mpr (by exact ar273)]
 exact k s S
noncomputable def KP (z:Z):AV→Nat→Prop:=fun a key=>∃ q r k,a=.v (.ref q)∧Fz z q (TupO [.i (r:Nat),.s (nm k)])∧k<8∧key=r * 8+k
theorem ltr_pair:LtR w ρ z (KP z):=by
 intro A E s Δ Q a b ka kb x y S R h1 h2 hx hy K
 obtain ⟨q1,r1,k1,rfl,f1,l1,rfl⟩:=h1
 obtain ⟨q2,r2,k2,rfl,f2,l2,rfl⟩:=h2
 cases hx;cases hy
 refine lt_tup S R (S.fz f1) (S.fz f2) rfl ?_ (K s S)
 intro xs ys hx hy
 obtain _ | ⟨⟨t1,rfl⟩,_ | ⟨⟨t2,rfl⟩,_ | _⟩⟩:=hx
 obtain _ | ⟨⟨u1,rfl⟩,_ | ⟨⟨u2,rfl⟩,_ | _⟩⟩:=hy
 simp only [List.zip_cons_cons,List.zip_nil_right]
 refine lex_int (fun e=>lex_nm (fun e2=>?_) fun e2=>?_) fun e=>?_
 ·rw [show decide (r1 * 8+k1<r2 * 8+k2)=false from decide_eq_false (by exact ar93 e e2)];exact .nil
 ·exact decide_eq_decide.mpr (by exact ar420 e e2)
 ·exact decide_eq_decide.mpr (by exact ar444 e l1 l2)
noncomputable def KT (z:Z):AV→Nat→Prop:=fun a key=>∃ q e v k,a=.v (.ref q)∧Fz z q (TupO [.i (e:Nat),.i (v:Nat),.s (nm k)])∧v<8∧k<8∧key=(e * 8+v) * 8+k
theorem ltr_triple:LtR w ρ z (KT z):=by
 intro A E s Δ Q a b ka kb x y S R h1 h2 hx hy K
 obtain ⟨q1,e1,v1,k1,rfl,f1,m1,l1,rfl⟩:=h1
 obtain ⟨q2,e2,v2,k2,rfl,f2,m2,l2,rfl⟩:=h2
 cases hx;cases hy
 refine lt_tup S R (S.fz f1) (S.fz f2) rfl ?_ (K s S)
 intro xs ys hx hy
 obtain _ | ⟨⟨t1,rfl⟩,_ | ⟨⟨t2,rfl⟩,_ | ⟨⟨t3,rfl⟩,_ | _⟩⟩⟩:=hx
 obtain _ | ⟨⟨u1,rfl⟩,_ | ⟨⟨u2,rfl⟩,_ | ⟨⟨u3,rfl⟩,_ | _⟩⟩⟩:=hy
 simp only [List.zip_cons_cons,List.zip_nil_right]
 refine lex_int (fun c1=>lex_int (fun c2=>lex_nm (fun c3=>?_) fun c3=>?_) fun c2=>?_) fun c1=>?_
 ·rw [show decide ((e1 * 8+v1) * 8+k1<(e2 * 8+v2) * 8+k2)=false from decide_eq_false (by lia)];exact .nil
 ·exact decide_eq_decide.mpr (by lia)
 ·exact decide_eq_decide.mpr (by lia)
 ·exact decide_eq_decide.mpr (by lia)
end
section
open PySem.SeqAt Builtin Builtin.ObjectAttr
theorem In_nil (h:Heap):Frag.In [] h:=fun f f e=>by cases e
theorem li_ga:findIn [] (.type "list_iterator") "__getattribute__"=some (some (.builtin "object.__getattribute__")):=by decide +kernel
theorem li_hook:findIn [] (.type "list_iterator") "__getattr__"=some none:=by decide +kernel
theorem li_next:findIn [] (.type "list_iterator") "__next__"=some (some (.builtin "list_iterator.__next__")):=by decide +kernel
theorem li_get:specialIn [] (.builtin "list_iterator.__next__") "__get__"=some (some (.builtin "wrapper_descriptor.__get__")):=by decide +kernel
theorem li_takes:takesIn [] (.builtin "list_iterator.__next__")=some false:=by decide +kernel
theorem slot_li_ga:Slot "list_iterator" "__getattribute__" "object.__getattribute__":=
 .of (owner:="object") (n:="__getattribute__") (by rw [typeLookup_type,builtinLookup_eq_fast];kernel_rfl) (by decide +kernel) (by decide +kernel) (by decide +kernel)
  (by first | exact .inl (by decide +kernel) | exact .inr (by decide +kernel)) (by rw [isSubtype_type];kernel_rfl)
theorem slot_wd:Slot "wrapper_descriptor" "__get__" "wrapper_descriptor.__get__":=
 .of (owner:="wrapper_descriptor") (n:="__get__") (by rw [typeLookup_type,builtinLookup_eq_fast];kernel_rfl) (by decide +kernel) (by decide +kernel) (by decide +kernel)
  (by first | exact .inl (by decide +kernel) | exact .inr (by decide +kernel)) (by rw [isSubtype_type];kernel_rfl)
theorem entry_wd:entryFor table "wrapper_descriptor.__get__"=some Builtin.«wrapper_descriptor.__get__»:=entryFor_of_tree (by kernel_rfl)
theorem args_wd (a b c:Value):argsOk "wrapper_descriptor.__get__" ⟨[a,b,c],[]⟩:=by unfold argsOk;kernel_rfl
theorem type_lin:typeOf (.builtin "list_iterator.__next__")=pure (.type "wrapper_descriptor"):=by show builtinType _=_;rw [builtinType_eq_fast];kernel_rfl
noncomputable abbrev WrapO (it:Addr):Obj:={ cls:=.type "method-wrapper",data:=.fields #[.builtin "list_iterator.__next__",.ref it] }
section
variable {prog:Program} {w:World} {A:Around} {E:VP} {s:Shared} {it:Addr} {vs:Array Value}
theorem wd_get {o:Obj} {R:Result→Shared→Prop} (hx:s.heap.get? it=some o) (ho:o.cls=.type "list_iterator")
 (h:R (.ok (.ret (.ref s.heap.objs.size))) { s with heap:=s.heap.push (WrapO it) }) :
 codeAny (model prog w) A (.call (.builtin "wrapper_descriptor.__get__") ⟨[.builtin "list_iterator.__next__",.ref it,.type "list_iterator"],[]⟩) R s:=by
  obtain ⟨hh,g,d,t,os⟩:=s
  obtain ⟨oc,od,oda,osl⟩:=o
  dsimp only at hx h ho
  subst ho
  refine codeAny_call_builtin slot_wd.plain entry_wd (slot_wd.check _ _ _ _ _ _ _ _ type_lin (args_wd _ _ _) ?_)
  unfold Builtin.«wrapper_descriptor.__get__»
  refine wpAny_bind (wpAny_of_eq (a:=(Value.builtin "list_iterator.__next__",some (Value.ref it),some (Value.type "list_iterator"))) (by first | rfl | kernel_rfl) ?_)
  dsimp only
  repeat k_node
  exact h
theorem ga_next {o:Obj} {b:Bool} {Q:VP} (hx:s.heap.get? it=some o) (ho:o.cls=.type "list_iterator") (ho2:o.dict=none) (ho3:o.data=.fields vs)
 (h:∀ t,Q (.ref s.heap.objs.size) { s with heap:=s.heap.push { cls:=.type "method-wrapper",data:=.fields #[.builtin "list_iterator.__next__",.ref it] },toks:=t }):wpAny (model prog w) A (getAttr (.ref it) "__next__" b) Q E s:=by
  obtain ⟨hh,g,d,t,os⟩:=s
  obtain ⟨oc,od,oda,osl⟩:=o
  subst ho ho2 ho3
  refine (?_:_→_) (In_nil hh)
  intro X
  refine (?_:(Looks (model prog w) hh (typeOf (.ref it)) (.type "list_iterator"))→_) ((Looks.ld hx).andThen .now)
  intro L0
  refine (?_:_→_) (looks_findIn (M:=model prog w) X li_ga)
  intro L1
  refine (?_:_→_) (looks_findIn (M:=model prog w) X li_hook)
  intro L2
  refine (?_:_→_) (looks_findIn (M:=model prog w) X li_next)
  intro L3
  refine (?_:_→_) (looks_specialIn (M:=model prog w) X li_get)
  intro L4
  refine (?_:_→_) (looks_takesIn (M:=model prog w) X li_takes)
  intro L5
  refine wpAny_bind (wpAny_mkText (wpAny_holding (wpAny_bind (L0.at (wpAny_bind (L1.at ?_))))))
  refine wpAny_bind (L2.at ?_)
  refine wpAny_bind (wpAny_attempt (wpAny_holding ?_))
  unfold callGetattribute
  rw [if_neg (by simp [onTheHeap])]
  unfold boundAndCalled
  rw [slot_li_ga.bind]
  refine wpAny_bind (wpAny_pure ?_)
  refine (?_:(∀ tk',(⟨hh,g,d,tk',os⟩:Shared).TypeIs (.ref it) "list_iterator")→_) (fun f=>⟨_,hx,rfl⟩)
  intro hT
  refine wpAny_call_entry slot_li_ga (hT _) F.entry_object_getattribute ?_ (F.args_object_getattribute_2 _ _)
  refine wpAny_bind (wpAny_of_eq (a:=(Value.ref it,[Value.str "__next__" t])) (by first | rfl | kernel_rfl) ?_)
  refine wpAny_bind (wpAny_of_eq (a:=Str.ofString "__next__") (by first | rfl | kernel_rfl) ?_)
  refine wpAny_bind (L0.at ?_)
  refine wpAny_bind (wpAny_bind (L3.at (wpAny_bind (L4.at ?_))))
  refine wpAny_bind (show wpAny _ _ (dataDescriptor? (some (Value.builtin "list_iterator.__next__")) (some (Value.builtin "wrapper_descriptor.__get__"))) _ _ _ from ?_)
  refine wpAny_bind (L5.at ?_)
  refine wpAny_pure ?_
  refine wpAny_bind (show wpAny _ _ (inOwnDict _ _) _ _ _ from ?_)
  refine wpAny_bind (wpAny_bind (wpAny_loadPart hx ?_))
  refine wpAny_bind (wpAny_loadPart hx ?_)
  refine wpAny_pure ?_
  refine wpAny_pure ?_
  refine wpAny_bind (wpAny_of_eq (a:=()) (by first | rfl | kernel_rfl) ?_)
  refine wpAny_bind (wpAny_rule (wpAny_pure ?_))
  refine wpAny_bind (wpAny_holding (wpAny_call (wd_get hx rfl ?_)))
  refine wpAny_pure ⟨_,rfl,?_⟩
  show wpAny _ _ (handedOut _) _ _ _
  rw [handedOut_of rfl]
  exact wpAny_pure (h _)
end
end
section
open PySem.SeqAt Builtin Builtin.ObjectAttr
noncomputable def LItD (l:Addr) (i:Nat):OP:=fun o=>o.cls=.type "list_iterator"∧o.dict=none∧o.data=.fields #[.ref l,.int i 0]
noncomputable def WrO (it:Addr):OP:=fun o=>o=WrapO it
noncomputable def ExcN (X:String):OP:=fun o=>o.cls=.type X∧∃ vs,o.data=.fields vs∧vs[1]?=some .none
theorem kind_lin:builtinKind "list_iterator.__next__"=some .slot:=by decide +kernel
theorem kind_iter:builtinKind "iter"=none:=by decide +kernel
theorem plain_iter:plainId "iter"=true:=by decide +kernel
theorem entry_iter:entryFor table "iter"=some Builtin.«iter»:=entryFor_of_tree (by kernel_rfl)
theorem args_iter (a:Value):argsOk "iter" ⟨[a],[]⟩:=by unfold argsOk;kernel_rfl
theorem quiet_lin (a:Args):(Code.builtin "list_iterator.__next__" a).quiet=true:=Code.quiet_builtin _ (by decide +kernel)
section
variable {w:World} {A:Around} {E:VP} {s:Shared} {ρ:Rest} {z:Z} {Δ:Ds} {F:Addr×OP} {env:Env}
theorem b_iterD {l:Addr} {vs:List AV} {Q:VP} (S:St w ρ z (F::Δ) s) (h:Has s l (ListO vs))
 (k:∀ it s',St w ρ z (F::(it,LItD l 0)::Δ) s'→Q (.ref it) s'):wpAny (model PG w) A (call (.builtin "iter") [.ref l]) Q E s:=by
  refine (let Gl:Prop:=_;(?_:Gl))
  obtain ⟨arr,hl⟩:=ListO.isL h
  refine (?_:_→_→_) hl.1 hl.2
  intro hl r
  refine Calls.call_function_entry kind_iter plain_iter entry_iter (args_iter _) ?_
  refine wpAny_bind (wpAny_of_eq (a:=[Value.ref l]) (by first | rfl | kernel_rfl) ?_)
  refine wpAny_bind (wpAny_pyIter_list hl (wpAny_pure ⟨_,rfl,?_⟩))
  exact k _ _ (S.push1 (t:=s.toks) rfl ⟨rfl,rfl,rfl⟩)
theorem ga_itD {it l:Addr} {i:Nat} {b:Bool} {Q:VP} (S:St w ρ z (F::Δ) s) (h:Has s it (LItD l i))
 (k:∀ q s',St w ρ z (F::(q,WrO it)::Δ) s'→Q (.ref q) s'):wpAny (model PG w) A (getAttr (.ref it) "__next__" b) Q E s:=by
  refine (let Gl:Prop:=_;(?_:Gl))
  obtain ⟨o,e⟩:=h
  refine (?_:_→_→_→_→_) e.1 e.2.1 e.2.2.1 e.2.2.2
  intro e h1 h2 h3
  refine ga_next e h1 h2 h3 fun t=>k _ _ (S.push1 (t:=t) rfl rfl)
theorem cw_wrap {q it:Addr} {pos:Pos} {Q:VP} (h:Has s q (WrO it)) (hT:s.TypeIs (.ref it) "list_iterator")
 (hc:wpAny (model PG w) (A.under (.builtin "list_iterator.__next__" ⟨[.ref it],[]⟩)) (Builtin.«list_iterator.__next__» ⟨[.ref it],[]⟩) (fun fin s'=>∃ v,fin=.done (.ret v)∧Q v s') E s) :
 wpAny (model PG w) A (callWith pos (.ref q) [] (backTo pos (starEach [] env)) []) Q E s:=by
  refine callWith_of (P:=fun h=>∃ o,h.get? q=some o∧WrO it o) rfl (fun hh hx=>⟨.machine,.inr (.inl rfl),?_⟩) (evalArgs_nil3 ⟨h,?_⟩)
  ·obtain ⟨o,e,rfl⟩:=hx
   unfold keeperOf
   exact (Looks.ld e).andThen .now
  ·obtain ⟨o,e,rfl⟩:=h
   obtain ⟨hh,g,dr,t,os⟩:=s
   refine wpAny_call (codeAny_of_tree ?_)
   show wpAny _ _ (callAny (.ref q) _) _ _ _
   dsimp only at e
   refine wpAny_bind (wpAny_load e ?_)
   rw [show (WrapO it).data=.fields #[.builtin "list_iterator.__next__",.ref it] from rfl]
   dsimp only
   rw [if_pos (by decide +kernel)]
   show wpAny _ _ (if ((Value.type "method-wrapper" != .type "method")=true) then (checkBoundCall "list_iterator.__next__" ⟨[.ref it],[]⟩ >>= fun c=>again (.builtin "list_iterator.__next__" ⟨[.ref it],[]⟩)) else _) _ _ _
   rw [if_pos (by decide +kernel)]
   refine wpAny_bind ?_
   unfold checkBoundCall
   refine (?_:(argsOk "list_iterator.__next__" ⟨[.ref it],[]⟩)→_) (args_listiter_next _)
   intro ha
   unfold argsOk at ha
   cases hsig:Manifest.signature? "list_iterator.__next__" with
   | none=>exact wpAny_pure (wpAny_pure ⟨quiet_lin _,codeAny_builtin entry_listiter_next (wpAny_mono hc (fun f s' z=>by obtain ⟨v,rfl,hv⟩:=z;exact hv) fun c c z=>z)⟩)
   | some sig=>
    rw [hsig] at ha
    simp only [kind_lin]
    rw [if_pos (by decide)]
    refine (?_:(Bind.checkArgs "list_iterator.__next__" sig ⟨[.ref it],[]⟩=pure ())→_) (ha)
    intro ha
    rw [ha]
    exact wpAny_pure (wpAny_pure ⟨quiet_lin _,codeAny_builtin entry_listiter_next (wpAny_mono hc (fun f s' z=>by obtain ⟨v,rfl,hv⟩:=z;exact hv) fun c c z=>z)⟩)
theorem wr_item {q it l:Addr} {i:Nat} {arr:Array Value} {v:Value} {pos:Pos} {Δ':Ds} {Q:VP} (S:St w ρ z (F::(Δ++(it,LItD l i)::Δ')) s) (h:Has s q (WrO it)) (hl:s.heap.IsList l arr) (hv:arr[i]?=some v)
 (k:∀ s',St w ρ z (F::(Δ++(it,LItD l (i+1))::Δ')) s'→Q v s'):wpAny (model PG w) A (callWith pos (.ref q) [] (backTo pos (starEach [] env)) []) Q E s:=by
  refine (let Gl:Prop:=_;(?_:Gl))
  obtain ⟨o,ho⟩:=S.midAt
  refine (?_:_→_→_→_→_) ho.1 ho.2.1 ho.2.2.1 ho.2.2.2
  intro ho h1 h2 hd
  obtain ⟨ol,hol,_,nl,hdl⟩:=hl
  refine cw_wrap h ⟨o,ho,h1⟩ ?_
  show wpAny _ _ (field (.ref it) 0 >>= _) _ _ s
  refine wpAny_bind (wpAny_field ho hd (x:=.ref l) rfl ?_)
  show wpAny _ _ (if (Value.ref l == Value.none)=true then _ else _) _ _ s
  rw [if_neg (show ¬ ((Value.ref l == Value.none)=true) from Bool.false_ne_true)]
  refine wpAny_bind (wpAny_field ho hd (x:=.int i 0) rfl ?_)
  refine wpAny_bind (wpAny_seqItems hol hdl ?_)
  simp only [Int.toNat_natCast,hv]
  refine wpAny_bind (wpAny_setField ho hd (by simp) (wpAny_pure ⟨v,rfl,k _ (St.mid (t:=s.toks) S (Heap.SameBut.update ..) ?_)⟩))
  refine ⟨_,Heap.get?_update_self _ ho (Obj.isFreed_of_fields (Obj.data_mapFields hd _)),(Obj.cls_mapFields ..).trans h1,?_,?_⟩
  ·obtain ⟨oc,od,oda,osl⟩:=o;dsimp only at hd h2;subst hd;exact h2
  ·rw [Obj.data_mapFields hd];simp [rawInt]
theorem wr_end {q it l:Addr} {i:Nat} {arr:Array Value} {pos:Pos} {Δ':Ds} {Q:VP} (hh:A.handled=none) (S:St w ρ z (F::(Δ++(it,LItD l i)::Δ')) s) (h:Has s q (WrO it)) (hl:s.heap.IsList l arr) (hv:arr[i]?=none)
 (k:∀ e s',St w ρ z (F::(e,ExcN "StopIteration")::(Δ++Δ')) s'→E (.ref e) s'):wpAny (model PG w) A (callWith pos (.ref q) [] (backTo pos (starEach [] env)) []) Q E s:=by
  refine (let Gl:Prop:=_;(?_:Gl))
  obtain ⟨o,ho⟩:=S.midAt
  refine (?_:_→_→_→_→_) ho.1 ho.2.1 ho.2.2.1 ho.2.2.2
  intro ho h1 h2 hd
  obtain ⟨ol,hol,_,nl,hdl⟩:=hl
  refine cw_wrap h ⟨o,ho,h1⟩ ?_
  show wpAny _ _ (field (.ref it) 0 >>= _) _ _ s
  refine wpAny_bind (wpAny_field ho hd (x:=.ref l) rfl ?_)
  show wpAny _ _ (if (Value.ref l == Value.none)=true then _ else _) _ _ s
  rw [if_neg (show ¬ ((Value.ref l == Value.none)=true) from Bool.false_ne_true)]
  refine wpAny_bind (wpAny_field ho hd (x:=.int i 0) rfl ?_)
  refine wpAny_bind (wpAny_seqItems hol hdl ?_)
  simp only [Int.toNat_natCast,hv]
  refine wpAny_bind (wpAny_rule (wpAny_bind (wpAny_setField ho hd (by simp) ?_)))
  refine wpAny_bind ?_
  simp only [newExc,newTuple]
  refine wpAny_bind (wpAny_newObj_type ?_ (by size_fits))
  refine wpAny_bind (m:=firstArgMember _ _) (wpAny_of_eq (a:=Value.none) (by first | rfl | (simp only [firstArgMember];rfl)) ?_)
  refine wpAny_newObj_type ?_ (by size_fits)
  simp only [raiseNew]
  refine wpAny_bind (wpAny_handled ?_)
  rw [show (A.under (.builtin "list_iterator.__next__" ⟨[.ref it],[]⟩)).handled=none from hh]
  refine wpAny_bind (wpAny_pure (wpAny_throw ?_))
  refine (?_:_→_) (St.midGo (t:=s.toks) S (Heap.SameBut.update (h:=s.heap) (a:=it) (Obj.mapFields (·.setIfInBounds 0 Value.none))).extBut)
  intro S1
  refine k _ _ (St.push1 (t:=s.toks) (P:=ExcN "StopIteration") (S1.grow (t:=s.toks) fun b o e=>Heap.get?_push_of_some _ e) rfl ⟨rfl,_,rfl,?_⟩)
  rfl
end
end
theorem KR.drop1:∀ {m:Loc} {kvs} {i:Nat} {p:Str×AV} {r},KR m kvs→m.drop i=p::r→∃ v,kvs[i]?=some (p.1,v)∧p.2.is v∧m.drop (i+1)=r:=by
 intro m kvs i p r h
 induction h generalizing i with
 | nil=>intro e;cases i <;> cases e
 | cons h t ih=>
  intro e
  cases i with
  | zero=>cases e;exact ⟨_,rfl,h,rfl⟩
  | succ i=>exact ih e
theorem KR.drop0 {m:Loc} {kvs} {i:Nat} (h:KR m kvs) (e:m.drop i=[]):kvs[i]?=none:=by
 rw [List.getElem?_eq_none_iff,h.len];simpa using e
theorem kS_str {w:World} {x:Str} {v:Value} (h:(kS w).is x v=true):AV.is (.s x) v:=by
 cases v <;> first
  | (simp [kS,PySem.strKind,Value.isStrOf] at h;done)
  | (simp [kS,PySem.strKind,Value.isStrOf] at h;subst h;exact ⟨_,rfl⟩)
noncomputable def DItO (c:String) (d:Addr) (n ep:Nat) (items r:Loc):OP:=fun o=>∃ i:Nat,o.cls=.type c∧o.data=.fields #[.ref d,.int i 0,.int n 0,.int ep 0]∧items.drop i=r
theorem Fz.dict {w:World} {z:Z} {d:Addr} {kv:Loc} (h:Fz z d (DictO w kv)):∃ kvs ep,KR kv kvs∧∀ {z' ρ Δ s},Sub z z'→St w ρ z' Δ s→s.heap.DictAt (kS w) d kvs ep:=by
 refine (let g:Prop:=_;(?_:g))
 obtain ⟨o,e,es,ep,kvs,h1,h2,h3,h4,h5,h6⟩:=h
 exact ⟨kvs,ep,h6,fun {z' ρ Δ s} hz S=>⟨o,es,S.fr _ _ (hz _ _ e),h1,h2,h3,h4,h5⟩⟩
section
variable {w:World} {ρ:Rest} {z:Z} {A:Around} {E:VP} {s:Shared} {Δ:Ds} {F:Addr×OP}
theorem Nx.dkeys {d it:Addr} {kv:Loc} {kvs:List (Str×Value)} {ep:Nat} (hr:KR kv kvs) (hd:∀ {z' ρ Δ s},Sub z z'→St w ρ z' Δ s→s.heap.DictAt (kS w) d kvs ep) :
 Nx w ρ z (.ref it) (fun (p:Str×AV) v=>AV.is (.s p.1) v) (fun r=>[(it,DItO "dict_keyiterator" d kv.length ep kv r)]) [] where
  next:=fun {A E s z' Δ F a r Q} hz R S h=>by
   refine (let g:Prop:=_;(?_:g))
   obtain ⟨o,e,i,hc,hdd,hi⟩:=S.midAt
   obtain ⟨v,h1,h2,h3⟩:=hr.drop1 hi
   have hl:=hr.len
   refine wpAny_pyNext_dict_item (knd:=kS w) ⟨o,e,hc,by rw [hl];exact hdd⟩ (hd hz S) h1 fun key h' hk hit hs=>h _ _ ?_ (St.mid (t:=s.toks) S hs ?_)
   ·exact kS_str hk
   ·obtain ⟨o',e',hc',hd'⟩:=hit
    exact ⟨o',e',i+1,hc',by rw [← hl];exact hd',h3⟩
  stop:=fun {A E s z' Δ F Q} hz R S h=>by
   refine (let g:Prop:=_;(?_:g))
   obtain ⟨o,e,i,hc,hdd,hi⟩:=S.midAt
   have hl:=hr.len
   refine wpAny_pyNext_dict_end (knd:=kS w) R.hd ⟨o,e,hc,by rw [hl];exact hdd⟩ (hd hz S) (hr.drop0 hi) fun h' hs=>h _ (St.midGo (t:=s.toks) S hs)
  self:=fun {A E s z' Δ F r Q} hz S h=>by
   refine (let g:Prop:=_;(?_:g))
   obtain ⟨o,e,i,hc,hdd,hi⟩:=S.midAt
   exact wpAny_pyIter_keyiter ⟨o,e,hc,hdd⟩ h
  go:=fun {A E s z' Δ F r t v Q} hz S h=>by
   refine (let g:Prop:=_;(?_:g))
   obtain ⟨o,e,i,hc,hdd,hi⟩:=S.midAt
   exact go_of e hc (by decide) h
theorem Nx.dvals {d it:Addr} {kv:Loc} {kvs:List (Str×Value)} {ep:Nat} (hr:KR kv kvs) (hd:∀ {z' ρ Δ s},Sub z z'→St w ρ z' Δ s→s.heap.DictAt (kS w) d kvs ep) :
 Nx w ρ z (.ref it) (fun (p:Str×AV) v=>p.2.is v) (fun r=>[(it,DItO "dict_valueiterator" d kv.length ep kv r)]) [] where
  next:=fun {A E s z' Δ F a r Q} hz R S h=>by
   refine (let g:Prop:=_;(?_:g))
   obtain ⟨o,e,i,hc,hdd,hi⟩:=S.midAt
   obtain ⟨v,h1,h2,h3⟩:=hr.drop1 hi
   have hl:=hr.len
   refine wpAny_pyNext_values_item (knd:=kS w) ⟨o,e,hc,by rw [hl];exact hdd⟩ (hd hz S) h1 fun h' hit hs=>h _ _ h2 (St.mid (t:=s.toks) S hs ?_)
   refine (let g:Prop:=_;(?_:g))
   obtain ⟨o',e',hc',hd'⟩:=hit
   exact ⟨o',e',i+1,hc',by rw [← hl];exact hd',h3⟩
  stop:=fun {A E s z' Δ F Q} hz R S h=>by
   refine (let g:Prop:=_;(?_:g))
   obtain ⟨o,e,i,hc,hdd,hi⟩:=S.midAt
   have hl:=hr.len
   refine wpAny_pyNext_values_end (knd:=kS w) R.hd ⟨o,e,hc,by rw [hl];exact hdd⟩ (hd hz S) (hr.drop0 hi) fun h' hs=>h _ (St.midGo (t:=s.toks) S hs)
  self:=fun {A E s z' Δ F r Q} hz S h=>by
   refine (let g:Prop:=_;(?_:g))
   obtain ⟨o,e,i,hc,hdd,hi⟩:=S.midAt
   exact wpAny_pyIter_valiter ⟨o,e,hc,hdd⟩ h
  go:=fun {A E s z' Δ F r t v Q} hz S h=>by
   refine (let g:Prop:=_;(?_:g))
   obtain ⟨o,e,i,hc,hdd,hi⟩:=S.midAt
   exact go_of e hc (by decide) h
theorem it_dict {d:Addr} {kv:Loc} {Q:VP} (S:St w ρ z (F::Δ) s) (hf:Fz z d (DictO w kv)) (hb:(d == sysModules)=false)
 (k:∀ it ep s',Nx w ρ z (.ref it) (fun (p:Str×AV) v=>AV.is (.s p.1) v) (fun r=>[(it,DItO "dict_keyiterator" d kv.length ep kv r)]) []→St w ρ z (F::(Δ++[(it,DItO "dict_keyiterator" d kv.length ep kv kv)])) s'→Q (.ref it) s'):wpAny (model PG w) A (pyIter (.ref d)) Q E s:=by
  refine (let g:Prop:=_;(?_:g))
  obtain ⟨kvs,ep,hr,hd⟩:=hf.dict
  refine wpAny_pyIter_dict (knd:=kS w) hb (hd (Sub.refl _) S) (k _ ep _ (Nx.dkeys hr hd) ?_)
  refine (S.push1 (t:=s.toks) (P:=DItO "dict_keyiterator" d kv.length ep kv kv) rfl ⟨0,rfl,by rw [hr.len];rfl,rfl⟩).perm ?_
  exact List.Perm.cons _ List.perm_append_comm
noncomputable def ViewO (c:String) (d:Addr):OP:=fun o=>o.cls=.type c∧o.data=.fields #[.ref d]
theorem d_values {d:Addr} {kv:Loc} {Q:VP} (S:St w ρ z (F::Δ) s) (h:Has s d (DictO w kv)) (hb:(d == sysModules)=false)
 (k:∀ q s',St w ρ z (F::(q,ViewO "dict_values" d)::Δ) s'→Q (.ref q) s'):wpAny (model PG w) A (call (.builtin "dict.values") [.ref d]) Q E s:=by
  refine (let g:Prop:=_;(?_:g))
  obtain ⟨kvs,ep,h1,h2⟩:=DictO.at h
  exact call_meetsIn PySem.F.slot_dict_values h1.dictOf.typeIs PySem.F.entry_dict_values (PySem.F.args_dict_values_1 _) (meets_dict_values (kS w) d hb)
   ⟨⟨kvs,h1.dictOf⟩,k _ _ (S.push1 (t:=s.toks) rfl ⟨rfl,rfl⟩)⟩
theorem it_vals {d v:Addr} {kv:Loc} {Q:VP} (S:St w ρ z (F::Δ) s) (hv:Has s v (ViewO "dict_values" d)) (hf:Fz z d (DictO w kv))
 (k:∀ it ep s',Nx w ρ z (.ref it) (fun (p:Str×AV) v=>p.2.is v) (fun r=>[(it,DItO "dict_valueiterator" d kv.length ep kv r)]) []→St w ρ z (F::(Δ++[(it,DItO "dict_valueiterator" d kv.length ep kv kv)])) s'→Q (.ref it) s'):wpAny (model PG w) A (pyIter (.ref v)) Q E s:=by
  refine (let g:Prop:=_;(?_:g))
  obtain ⟨kvs,ep,hr,hd⟩:=hf.dict
  obtain ⟨o,e,h1,h2⟩:=hv
  refine wpAny_pyIter_values (knd:=kS w) ⟨o,e,h1,h2⟩ (hd (Sub.refl _) S) (k _ ep _ (Nx.dvals hr hd) ?_)
  refine (S.push1 (t:=s.toks) (P:=DItO "dict_valueiterator" d kv.length ep kv kv) rfl ⟨0,rfl,by rw [hr.len];rfl,rfl⟩).perm ?_
  exact List.Perm.cons _ List.perm_append_comm
end
noncomputable def SetO (w:World) (f:Str→Bool) (n:Nat):OP:=fun o=>∃ es ep t,o.ExactSet∧o.data=.set es ep t∧ElemsOf (kS w) es.toList∧(∀ k,f k=true↔∃ e∈es.toList,(kS w).is k e.2=true)∧es.size<scanBound∧t.fits es.size=true∧es.size=n
section
variable {w:World} {ρ:Rest} {z:Z} {A:Around} {E:VP} {s:Shared} {Δ:Ds} {F:Addr×OP} {a:Addr} {f:Str→Bool} {n:Nat}
theorem SetO.of (h:Has s a (SetO w f n)):s.heap.SetOf (kS w) a f n:=by
 refine (let g:Prop:=_;(?_:g))
 obtain ⟨o,e,es,ep,t,h1⟩:=h
 exact ⟨o,es,ep,t,e,h1⟩
theorem set0 {Q:VP} (S:St w ρ z (F::Δ) s) (k:∀ q s',St w ρ z (F::(q,SetO w (fun b=>false) 0)::Δ) s'→Q (.ref q) s'):wpAny (model PG w) A (call (.type "set") []) Q E s:=
 call_set_0 fun led=>k _ _ (S.push1 (t:=s.toks) rfl ⟨#[],0,_,⟨rfl,rfl,rfl⟩,rfl,(fun e he=>by simp at he),by simp,by decide,(by cases led <;> rfl),rfl⟩)
theorem set_in {x:Str} {v:Value} {Q:VP} (S:St w ρ z Δ s) (h:Has s a (SetO w f n)) (hx:AV.is (.s x) v) (k:∀ s',St w ρ z Δ s'→Q (.bool (f x)) s'):wpAny (model PG w) A (compareOp .In v (.ref a)) Q E s:=by
 obtain ⟨t,rfl⟩:=hx
 exact wpAny_inSet_of (kS_is w x t) rfl (SetO.of h) (k _ S.toks)
theorem set_gm {pl:Sem Bool} {Q:Value×List Value→Shared→Prop} (h:Has s a (SetO w f n)) (k:Q (.builtin "set.add",[.ref a]) s):wpAny (model PG w) A (getMethod (.ref a) "add" pl) Q E s:=
 getMethod_set_add (SetO.of h) k
theorem set_add {x:Str} {v:Value} {j:Nat} {Q:VP} (S:St w ρ z Δ s) (hj:Δ[j]?=some (a,SetO w f n)) (hx:AV.is (.s x) v) (hz:n<100)
 (k:∀ s',St w ρ z (Δ.set j (a,SetO w (fun y=>f y || decide (y=x)) (if f x then n else n+1))) s'→Q .none s'):wpAny (model PG w) A (call (.builtin "set.add") [.ref a,v]) Q E s:=by
  obtain ⟨t,rfl⟩:=hx
  refine (?_:_→_) (S.at j hj)
  intro hs
  refine call_set_add (kS_is w x t) rfl (SetO.of hs) (by unfold scanBound;exact ar177 hz) fun h' sb hS'=>k _ (S.same (t:=s.toks+1) j hj sb ?_)
  refine (let g:Prop:=_;(?_:g))
  obtain ⟨o,es,ep,t,e,h1⟩:=hS'
  exact ⟨o,e,es,ep,t,h1⟩
end
noncomputable def FrP (P:OP):Prop:=∀ o,P o→(∀ vs,o.data≠.fields vs)∧∀ sl,P { o with slots:=sl }
theorem FrP.fr (m:Loc):FrP (FrO m):=by
 rintro o ⟨es,ep,h1,h2,h3⟩
 exact ⟨(fun vs e=>by rw [h1] at e;cases e),fun sl=>⟨es,ep,h1,h2,h3⟩⟩
noncomputable def Frs (fs:List Env) (Δ:Ds):Prop:=∀ env∈fs,env.scope.kind≠.module∧∃ L P,env.frame=some L∧(L,P)∈Δ∧FrP P
section
variable {w:World} {ρ:Rest} {z:Z} {A:Around} {E:VP} {s:Shared} {Δ:Ds} {F:Addr×OP} {fs:List Env}
theorem Frs.fun (hF:Frs fs Δ) (S:St w ρ z Δ s) {base:Heap} (hb:∀ L P,(L,P)∈Δ→base.get? L=none):s.heap.FunFrames base fs:=by
 induction fs with
 | nil=>trivial
 | cons env r ih=>
  refine (let g:Prop:=_;(?_:g))
  obtain ⟨hk,L,P,h1⟩:=hF env (.head _)
  refine (?_:_→_→_→_) h1.1 h1.2.1 h1.2.2
  intro h1 h2 h3
  obtain ⟨_,o,e⟩:=S.own _ h2
  refine (?_:_→_→_) e.1 e.2
  intro e hP
  exact ⟨hk,⟨L,o,h1,hb L P h2,e,(h3 o hP).1⟩,ih fun x hx=>hF x (.tail _ hx)⟩
theorem mem_same {Δ:Ds} (hn:(Δ.map (·.1)).Nodup) {a:Addr} {P Q:OP} (h1:(a,P)∈Δ) (h2:(a,Q)∈Δ):P=Q:=by
 induction Δ with
 | nil=>cases h1
 | cons x r ih=>
  rw [List.map_cons,List.nodup_cons] at hn
  rcases List.mem_cons.mp h1 with e1 | m1
  ·rcases List.mem_cons.mp h2 with e2 | m2
   ·rw [← e1] at e2;exact (congrArg Prod.snd e2).symm
   ·exact absurd (List.mem_map.mpr ⟨_,m2,by rw [← e1]⟩) hn.1
  ·rcases List.mem_cons.mp h2 with e2 | m2
   ·exact absurd (List.mem_map.mpr ⟨_,m1,by rw [← e2]⟩) hn.1
   ·exact ih hn.2 m1 m2
theorem St.slots (S:St w ρ z Δ s) (hF:Frs fs Δ) {h':Heap} {t:Nat} (hs:Heap.SlotsOnly (fs.filterMap (·.frame)) s.heap h'):St w ρ z Δ { s with heap:=h',toks:=t }:=by
 have key:∀ b,b∈fs.filterMap (·.frame)→∃ P,(b,P)∈Δ∧FrP P:=fun b hb=>by
  refine (let g:Prop:=_;(?_:g))
  obtain ⟨env,h1,h2⟩:=List.mem_filterMap.mp hb
  obtain ⟨_,L,P,h3,h4,h5⟩:=hF env h1
  rw [h3] at h2;cases h2;exact ⟨P,h4,h5⟩
 refine S.step (fun a o ha e=>?_) (fun p hp=>?_) S.nd S.lo (Nat.le_of_eq hs.1.symm)
 ·refine (hs.2.1 a fun hb=>?_).trans e
  refine (let g:Prop:=_;(?_:g))
  obtain ⟨P,h1⟩:=key a hb
  refine (?_:_→_) h1.1
  intro h1
  rw [(S.own _ h1).1] at ha;cases ha
 ·obtain ⟨h0,o,e⟩:=S.own p hp
  refine (?_:_→_→_) e.1 e.2
  intro e hP
  refine ⟨h0,?_⟩
  by_cases hb:p.1∈fs.filterMap (·.frame)
  ·obtain ⟨P,h1⟩:=key _ hb
   refine (?_:_→_→_) h1.1 h1.2
   intro h1 h2
   obtain ⟨sl,e2⟩:=hs.2.2 _ _ e
   refine (?_:(p.2=P)→_) (mem_same S.nd (a:=p.1) (P:=p.2) hp h1)
   intro this
   exact ⟨_,e2,by rw [this] at hP ⊢;exact (h2 _ hP).2 sl⟩
  ·exact ⟨o,(hs.2.1 _ hb).trans e,hP⟩
noncomputable def ExcT (X:String) (tb:Addr):OP:=fun o=>o.cls=.type X∧∃ vs,o.data=.fields vs∧vs[1]?=some (.ref tb)
noncomputable def TbO:OP:=fun o=>∃ ts,o.data=.fields ts∧3<ts.size
theorem flight0 {X:String} {e tb:Addr} {j i:Nat} {Q:Unit→Shared→Prop} (S:St w ρ z Δ s) (hi:Δ[i]?=some (tb,TbO)) (hj:Δ[j]?=some (e,ExcT X tb))
 (k:∀ s',St w ρ z Δ s'→Q () s'):wpAny (model PG w) A (setFlight (.ref e) none) Q E s:=by
  refine (let g:Prop:=_;(?_:g))
  obtain ⟨oe,he,hc,vs,hd,h1⟩:=S.at j hj
  obtain ⟨ot,het,ts,hdt⟩:=S.at i hi
  refine (?_:_→_→_) hdt.1 hdt.2
  intro hdt hts3
  refine wpAny_bind (wpAny_field he hd h1 ?_)
  rw [if_pos (show (Value.ref tb != Value.none)=true from by simp)]
  refine wpAny_setField het hdt hts3 ?_
  refine (?_:_→_) (Obj.data_mapFields hdt (·.setIfInBounds 3 ((none:Option Addr).elim Value.none fun f=>rawInt f)))
  intro hd5
  refine (?_:_→_) (S.same (P':=TbO) (t:=s.toks) i hi (Heap.SameBut.update ..) ⟨_,Heap.get?_update_self _ het (Obj.isFreed_of_fields hd5),_,hd5,by simpa using hts3⟩)
  intro S4
  rw [show Δ.set i (tb,TbO)=Δ from by rw [List.getElem?_eq_some_iff] at hi;obtain ⟨a,b⟩:=hi;rw [← b];simp] at S4
  exact k _ S4
theorem note_new {X:String} {env:Env} {outer:List Env} {L e:Addr} {j:Nat} {Q:Unit→Shared→Prop} (S:St w ρ z Δ s) (hj:Δ[j]?=some (e,ExcN X)) (hfr:A.frames=some (env::outer)) (hF:Frs (env::outer) Δ) (hf:env.frame=some L)
 (k:∀ tb s',St w ρ z ((tb,TbO)::Δ.set j (e,ExcT X tb)) s'→Q () s'):wpAny (model PG w) A (noteFrame (.ref e) env) Q E s:=by
  obtain ⟨oe,he,hc,vs,hd,h1⟩:=S.at j hj
  unfold noteFrame
  simp only [hf]
  refine wpAny_bind (wpAny_field he hd h1 ?_)
  rw [if_neg (by decide)]
  refine (?_:_→_) (hF.fun S (base:={ objs:=#[] }) (fun L P c=>by rfl))
  intro hl
  refine wpAny_bind (wpAny_frameOf_fun hfr hl hf fun h₁ hs₁=>?_)
  have S1:St w ρ z Δ { s with heap:=h₁,toks:=s.toks }:=S.slots hF hs₁
  refine wpAny_bind (wpAny_entryPlaceOf fun pl hpl=>?_)
  refine wpAny_bind (wpAny_newObj_type ?_ (hpl.sizeOk5 _ _ _ _ _))
  generalize hts:([Value.none,Value.ref L,Value.none,rawInt ↑L,Value.none]++if pl.isEmpty=true then List.replicate 6 Value.none else pl).toArray=ts
  refine (?_:(3<ts.size)→_) (by rw [← hts];simp only [List.size_toArray,List.length_append,List.length_cons,List.length_nil];exact ar240)
  intro hts3
  refine (?_:_→_) (S1.push (o:={ cls:=.type "traceback",data:=.fields ts }) (P:=TbO) rfl ⟨_,rfl,hts3⟩)
  intro S2
  refine (let g:Prop:=_;(?_:g))
  obtain ⟨oe2,he2,hc2,vs2,hd2,h12⟩:=S2.at (j+1) (by simpa using hj)
  refine (?_:(1<vs2.size)→_) ((Array.getElem?_eq_some_iff.mp h12).1)
  intro hsz2
  refine wpAny_setField he2 hd2 hsz2 ?_
  refine (?_:_→_) (Obj.data_mapFields hd2 (·.setIfInBounds 1 (Value.ref h₁.objs.size)))
  intro hd3
  refine (?_:_→_) (S2.same (P':=ExcT X h₁.objs.size) (t:=s.toks) (j+1) (by simpa using hj) (Heap.SameBut.update ..) ⟨_,Heap.get?_update_self (Obj.mapFields (·.setIfInBounds 1 (Value.ref h₁.objs.size))) he2 (Obj.isFreed_of_fields hd3),(Obj.cls_mapFields ..).trans hc2,_,hd3,by simp [hsz2]⟩)
  intro S3
  rw [List.set_cons_succ] at S3
  exact k _ _ S3
theorem s_try {T:String} {env:Env} {outer:List Env} {L:Addr} {t:PySem.Expr} {body orelse suite:List Stmt} {b₀:Stmt} {hp pos:Pos} {Q:Flow→Shared→Prop}
 (hfr:A.frames=some (env::outer)) (hf:env.frame=some L)
 (hexc:isSubtype (.type T) (.type "BaseException")=pure true) (hnt:isSubtype (.type ((Manifest.find? T).elim "type" fun x=>x.metatype)) (.type "tuple")=pure false)
 (hsub:isSubtype (.type T) (.type T)=pure true)
 (h:wpAny (model PG w) A (execs body env) (fun f s₁=>match f with | .next=>wpAny (model PG w) A (execs orelse env) Q E s₁ | f=>Q f s₁)
 (fun ev s₁=>∃ e z' F' Δ' ,ev=.ref e∧St w ρ z' (F'::(e,ExcN T)::Δ') s₁∧Frs (env::outer) (F'::Δ') ∧
 (∀ s₂ (A':Around) E' (Q':VP),St w ρ z' (F'::Δ') s₂→Q' (.type T) s₂→wpAny (model PG w) A' (eval t env) Q' E' s₂) ∧
 ∀ s₂ A' E',St w ρ z' (F'::Δ') s₂→A'.depth=A.depth→A'.units=A.units→A'.frames=A.frames→wpAny (model PG w) A' (execs (b₀::suite) env) Q E' s₂) s) :
 wpAny (model PG w) A (exec (.Try body [.ExceptHandler (some t) none (b₀::suite) hp] orelse [] pos) env) Q E s:=by
  refine wpAny_Try_except (wpAny_mono h (fun c c q=>q) fun ev s₁ h₁=>?_)
  obtain ⟨e,z',F',Δ',rfl,S,hF,ht,hk⟩:=h₁
  refine (?_:(Frs (env::outer) (F'::(e,ExcN T)::Δ'))→_) (fun x hx=>by
   refine (let g:Prop:=_;(?_:g))
   obtain ⟨h0,L,P,h1⟩:=hF x hx
   refine (?_:_→_→_→_) h1.1 h1.2.1 h1.2.2
   intro h1 h2 h3
   exact ⟨h0,L,P,h1,by rcases List.mem_cons.mp h2 with h2 | h2 <;> simp [h2],h3⟩)
  intro hF2
  refine note_new S (j:=1) rfl hfr hF2 hf fun tb s₂ S2=>?_
  rw [show (F'::(e,ExcN T)::Δ').set 1 (e,ExcT T tb)=F'::(e,ExcT T tb)::Δ' from rfl] at S2
  refine flight0 S2 (i:=0) (j:=2) rfl rfl fun s₃ S3=>?_
  refine (?_:(St w ρ z' (F'::Δ') s₃)→_) ((S3.tail).drop2)
  intro S3'
  refine wpAny_handleBy_builtin hexc hnt hsub (b:=true) (X:=T) (ht s₃ _ _ _ S3' ⟨rfl,?_,?_⟩)
  ·obtain ⟨o,e1⟩:=S3.at 2 (a:=e) (P:=ExcT T tb) rfl
   refine (?_:_→_→_) e1.1 e1.2.1
   intro e1 h1
   exact ⟨o,e1,h1⟩
  ·rw [if_pos rfl]
   exact flight0 S3 (i:=0) (j:=2) rfl rfl fun s₄ S4=>hk _ _ _ (S4.tail).drop2 rfl rfl rfl
end
section
variable {w:World} {A:Around} {E:VP} {s:Shared} {ρ:Rest} {z:Z} {Δ:Ds} {env:Env} {L:Addr} {m:Loc} {F:Addr×OP}
theorem Frs.enter {fs:List Env} {Δ:Ds} {qual:Str} {scope:Scope} {f:Addr} {cdv:Value} (h:Frs fs Δ) (hk:scope.kind=.function):Frs (envOf qual scope L f cdv::fs) ((L,FrO m)::Δ):=by
 intro x hx
 rcases List.mem_cons.mp hx with rfl | hx
 ·exact ⟨(by show scope.kind≠.module;rw [hk];intro q;cases q),L,FrO m,rfl,.head _,FrP.fr m⟩
 ·obtain ⟨h0,L',P,h1⟩:=h x hx
  refine (?_:_→_→_→_) h1.1 h1.2.1 h1.2.2
  intro h1 h2 h3
  exact ⟨h0,L',P,h1,.tail _ h2,h3⟩
theorem Frs.top {fs:List Env} {Δ Δ':Ds} {m':Loc} (h:Frs fs ((L,FrO m)::Δ)) (hs':∀ p,p∈Δ→FrP p.2→p∈Δ'):Frs fs ((L,FrO m')::Δ'):=by
 intro x hx
 refine (let g:Prop:=_;(?_:g))
 obtain ⟨h0,L',P,h1,h2,h3⟩:=h x hx
 rcases List.mem_cons.mp h2 with e | h2
 ·cases e;exact ⟨h0,L,FrO m',h1,.head _,FrP.fr m'⟩
 ·exact ⟨h0,L',P,h1,.tail _ (hs' _ h2 h3),h3⟩
theorem wwhileE {test:PySem.Expr} {body orelse:List Stmt} {pos:Pos} {Q:Flow→Shared→Prop} (I:Nat→Shared→Prop) (n:Nat) (h0:I n s)
 (turn:∀ n s,I n s→∀ E' Qb,Seal (fun f s₃=>match f with | .next | .cont=>∃ m,m<n∧I m s₃ | .brk=>Q .next s₃ | .ret v=>Q (.ret v) s₃) Qb→wpAny (model PG w) A (isTrue test env (eval test env)) (fun b s₂=>if b then wpAny (model PG w) A (execs body env) Qb E' s₂ else wpAny (model PG w) A (execs orelse env) (fun f s₃=>Q f s₃) E' s₂) E' s) :
 wpAny (model PG w) A (exec (.While test body orelse pos) env) Q E s:=by
  refine wpAny_While (codeAny_whileLoop I (fun n s hI=>?_) n h0)
  refine wpAny_mono (turn n s hI _ _ fun a a h=>h) (fun b s₂ h₂=>?_) fun a a e=>e
  cases b with
  | false=>simp only [Bool.false_eq_true,if_false] at h₂ ⊢;exact h₂
  | true=>
   simp only [if_true] at h₂ ⊢
   refine wpAny_mono h₂ (fun f s₃ h₃=>?_) fun a a e=>e
   cases f <;> exact h₃
end
noncomputable def TbV (v:Value):OP:=fun o=>∃ ts,o.data=.fields ts∧ts[3]?=some v
section
variable {w:World} {ρ:Rest} {z:Z} {A:Around} {E:VP} {s:Shared} {Δ:Ds} {F:Addr×OP} {fs:List Env} {c a0:Value}
theorem setSelf {Δ:Ds} {i:Nat} {p:Addr×OP} (hi:Δ[i]?=some p):Δ.set i p=Δ:=by
 refine (?_:_→_→_) ((List.getElem?_eq_some_iff.mp hi).1) ((List.getElem?_eq_some_iff.mp hi).2)
 intro a b
 rw [← b];simp
end
abbrev bmVE:List Value:=[.type "ValueError",.type "Exception",.type "BaseException",.type "object"]
theorem K_cyc (w:World):nsIn (hdp.heap_1_39 w.params) mainGlobals "CycleError"=some (some (.ref 48)):=by k_is
theorem K_exc (w:World):excIn (hdp.heap_1_39 w.params) 48 bmVE "ValueError.__new__"=true:=by k_exc
section
variable {w:World} {ρ:Rest} {z:Z} {A:Around} {E:VP} {s:Shared} {Δ:Ds} {L:Addr} {m:Loc} {name:Str} {scope:Scope} {a:Addr} {cd:Value}
theorem St.beside {e:Addr} {h':Heap} {t:Nat} (S:St w ρ z Δ s) (hz:z e=none) (hn:e ∉ Δ.map (·.1)) (hs:Heap.SameBut e s.heap h'):St w ρ z Δ { s with heap:=h',toks:=t }:=by
 refine S.step (fun a o ha e1=>(hs.2 a fun q=>by subst q;rw [hz] at ha;cases ha).trans e1) (fun p hp=>?_) S.nd S.lo (Nat.le_of_eq hs.1.symm)
 obtain ⟨h0,o,e1⟩:=S.own p hp
 refine (?_:_→_→_) e1.1 e1.2
 intro e1 hP
 exact ⟨h0,o,(hs.2 _ fun q=>hn (List.mem_map.mpr ⟨p,hp,q⟩)).trans e1,hP⟩
theorem St.ice {F:Addr×OP} {h':Heap} {a:Addr} {o:Obj} {t:Nat} (S:St w ρ z (F::Δ) s) (hk:∀ b o,s.heap.get? b=some o→h'.get? b=some o) (ha:s.heap.get? a=none) (he:h'.get? a=some o) :
 ∃ z',Sub z z'∧z' a=some o∧(∀ b,b≠a→z' b=z b)∧St w ρ z' (F::Δ) { s with heap:=h',toks:=t }:=by
  have S1:=S.grow (t:=t) hk
  have hza:z a=none:=by
   cases q:z a with
   | none=>rfl
   | some o'=>rw [S.fr _ _ q] at ha;cases ha
  have hsub:Sub z (fun b=>if b=a then some o else z b):=fun b o' e=>by
   show (if b=a then some o else z b)=some o'
   rw [if_neg (fun q=>by subst q;rw [hza] at e;cases e)];exact e
  refine ⟨fun b=>if b=a then some o else z b,hsub,by simp,fun b hb=>by simp [hb],S1.wf.mono hsub,fun b o' e=>?_,fun p hp=>?_,S1.nd,S1.lo,S1.sz,S1.g,S1.d,S1.os⟩
  ·refine (?_:((if b=a then some o else z b)=some o')→_) (e)
   intro e
   split at e
   ·rename_i q;cases e;subst q;exact he
   ·exact S1.fr _ _ e
  ·obtain ⟨h0,o',e1⟩:=S.own p hp
   refine (?_:_→_→_) e1.1 e1.2
   intro e1 hP
   refine (?_:(p.1≠a)→_) (fun q=>by rw [q,ha] at e1;cases e1)
   intro hpa
   exact ⟨(by show (if p.1=a then some o else z p.1)=none;rw [if_neg hpa];exact h0),S1.own p hp |>.2⟩
structure StX (w:World) (ρ:Rest) (z:Z) (Δ:Ds) (e:Addr) (c a0 v:Value) (s:Shared):Prop where
 st:St w ρ z Δ s
 z0:z e=none
 n0:e ∉ Δ.map (·.1)
 at_:∃ o,s.heap.get? e=some o∧o.cls=c∧∃ vs,o.data=.fields vs∧vs[0]?=some a0∧vs[1]?=some v∧vs[2]?=some .none
theorem St.made {F:Addr×OP} {h':Heap} {e:Addr} {c:Value} {as:List AV} {vs:List Value} (S:St w ρ z (F::Δ) s) (hx:Heap.MadeExcOf s.heap h' e c vs) (r:ARel as vs) :
 ∃ z' t,Sub z z'∧Fz z' t (TupO as)∧StX w ρ z' (F::Δ) e c (.ref t) .none { s with heap:=h' }:=by
  refine (let Gl:Prop:=_;(?_:Gl))
  obtain ⟨t,h1,h2,h3⟩:=hx.there
  obtain ⟨z',g1⟩:=S.ice (t:=s.toks) hx.keeps h2 h3
  refine (?_:_→_→_→_→_) g1.1 g1.2.1 g1.2.2.1 g1.2.2.2
  intro g1 g2 g3 S2
  refine (?_:(z e=none)→_) (by
   cases q:z e with
   | none=>rfl
   | some o'=>have:=S.fr _ _ q;rw [hx.new] at this;cases this)
  intro hze
  have hte:e≠t:=fun q=>by rw [q] at h1;rw [h1] at h3;cases h3
  refine ⟨z',t,g1,⟨_,g2,vs.toArray,_,rfl,by simpa using r⟩,S2,(g3 e hte).trans hze,fun hm=>?_,_,h1,rfl,_,rfl,rfl,rfl,rfl⟩
  obtain ⟨p,hp,q⟩:=List.mem_map.mp hm
  obtain ⟨_,o',e1,_⟩:=S.own p hp
  rw [q,hx.new] at e1;cases e1
theorem raise_cyc {e₀:PySem.Expr} {rest:List PySem.Expr} {np cpos pos:Pos} {Q:Flow→Shared→Prop} (S:St w ρ z ((L,FrO m)::Δ) s) (hh:A.handled=none)
 (h:wpAny (model PG w) A (spliced (backTo cpos (starEach (e₀::rest) (envOf name scope L a cd)))) (fun vs s₂=>∃ z' F' Δ' as,St w ρ z' (F'::Δ') s₂∧ARel as vs∧as.length≤1000 ∧
 ∀ e t z'' s₃,Sub z' z''→Fz z'' t (TupO as)→StX w ρ z'' (F'::Δ') e (.ref 48) (.ref t) .none s₃→E (.ref e) s₃) E s)
 (he:starEach (e₀::rest) (envOf name scope L a cd)=(false,eval e₀ (envOf name scope L a cd))::starEach rest (envOf name scope L a cd))
 (hplain:(backTo cpos (starEach rest (envOf name scope L a cd))).any (·.1)=false)
 (hk:scope.kind=.function) (hx:(envOf name scope L a cd).kindOf "CycleError"=some .globalImplicit) :
 wpAny (model PG w) A (exec (.Raise (some (.Call (.Name "CycleError" np) (e₀::rest) [] cpos)) none pos) (envOf name scope L a cd)) Q E s:=by
  refine (let Gl:Prop:=_;(?_:Gl))
  obtain ⟨f,F⟩:=S.kframe
  refine (?_:_→_) F.1
  intro F
  obtain ⟨mg,mb,p,l,me,T⟩:=S.wf.top
  refine Raise_own F (topRead_of T).g (own_of_in S.wf.K (topRead_of T) (K_cyc w) (K_exc w)) PySem.F.excBase_ValueError hh (wpAny_mono h (fun vs s₂ h₂=>?_) fun d d e=>e) he hplain hk hx (by decide)
  refine (let Gl:Prop:=_;(?_:Gl))
  obtain ⟨z',F',Δ',as,S2,r,hz,k⟩:=h₂
  refine ⟨by refine (?_:_→_) (r.pr.len);intro this;rw [sizeLine_eq];exact ar3 this hz,S2.keep,fun h' e hm=>?_⟩
  refine (let Gl:Prop:=_;(?_:Gl))
  obtain ⟨z'',t,g1⟩:=S2.made hm r
  refine (?_:_→_→_→_) g1.1 g1.2.1 g1.2.2
  intro g1 g2 g3
  exact k e t z'' _ g1 g2 g3
end
section
variable {w:World} {ρ:Rest} {z:Z} {A:Around} {E:VP} {s:Shared} {Δ:Ds} {F:Addr×OP} {fs:List Env} {c a0:Value}
theorem newEntryX {v:Value} {env:Env} {outer:List Env} {L e:Addr} {head:Value} {hadNext:Bool} {Q:Unit→Shared→Prop} (X:StX w ρ z Δ e c a0 v s) (hfr:A.frames=some (env::outer)) (hF:Frs (env::outer) Δ) (hf:env.frame=some L)
 (k:∀ tb s',StX w ρ z ((tb,TbV (rawInt L))::Δ) e c a0 (.ref tb) s'→Q () s') :
 wpAny (model PG w) A (do let a ← frameOf env;let pl ← entryPlaceOf L hadNext;let b ← EntryCells.newEntry head a .none (rawInt L) .none pl;setField (.ref e) 1 b) Q E s:=by
  refine (let g:Prop:=_;(?_:g))
  obtain ⟨S,z0,n0,oe,he,hc,vs,hd,h0,h1,hx2⟩:=X
  have hsz:=(Array.getElem?_eq_some_iff.mp h1).1
  refine (?_:_→_) (hF.fun S (base:={ objs:=#[] }) (fun L P d=>by rfl))
  intro hl
  refine wpAny_bind (wpAny_frameOf_fun hfr hl hf fun h₁ hs₁=>?_)
  have S1:St w ρ z Δ { s with heap:=h₁,toks:=s.toks }:=S.slots hF hs₁
  refine (?_:(e ∉ (env::outer).filterMap (·.frame))→_) (fun hb=>by
   refine (let g:Prop:=_;(?_:g))
   obtain ⟨env',h1,h2⟩:=List.mem_filterMap.mp hb
   obtain ⟨_,L',P,h3,h4,h5⟩:=hF env' h1
   rw [h3] at h2;cases h2
   exact n0 (List.mem_map.mpr ⟨_,h4,rfl⟩))
  intro hen
  have he1:h₁.get? e=some oe:=(hs₁.2.1 e hen).trans he
  refine wpAny_bind (wpAny_entryPlaceOf fun pl hpl=>?_)
  refine wpAny_bind (wpAny_newObj_type ?_ (hpl.sizeOk5 _ _ _ _ _))
  generalize hts:([head,Value.ref L,Value.none,rawInt ↑L,Value.none]++if pl.isEmpty=true then List.replicate 6 Value.none else pl).toArray=ts
  refine (?_:(ts[3]?=some (rawInt ↑L))→_) (by rw [← hts];simp)
  intro hts3
  refine (?_:_→_) (S1.push (o:={ cls:=.type "traceback",data:=.fields ts }) (P:=TbV (rawInt L)) rfl ⟨_,rfl,hts3⟩)
  intro S2
  refine (?_:_→_) (Heap.get?_push_of_some (h:=h₁) { cls:=.type "traceback",data:=.fields ts } he1)
  intro he2
  refine wpAny_setField he2 hd hsz ?_
  refine (?_:_→_) (Obj.data_mapFields hd (·.setIfInBounds 1 (Value.ref h₁.objs.size)))
  intro hd3
  refine (?_:(e ∉ ((h₁.objs.size,TbV (rawInt L))::Δ).map (·.1))→_) (by
   rw [List.map_cons,List.mem_cons]
   rintro (q | q)
   ·have:=Heap.lt_size he1;rw [q] at this;exact Nat.lt_irrefl _ this
   ·exact n0 q)
  intro hn2
  exact k _ _ ⟨S2.beside (t:=s.toks) z0 hn2 (Heap.SameBut.update ..),z0,hn2,_,Heap.get?_update_self (Obj.mapFields (·.setIfInBounds 1 (Value.ref h₁.objs.size))) he2 (Obj.isFreed_of_fields hd3),(Obj.cls_mapFields ..).trans hc,_,hd3,by rw [Array.getElem?_setIfInBounds_ne (by decide)];exact h0,by simp [hsz],by rw [Array.getElem?_setIfInBounds_ne (by decide)];exact hx2⟩
theorem noteX0 {env:Env} {outer:List Env} {L e:Addr} {Q:Unit→Shared→Prop} (X:StX w ρ z Δ e c a0 .none s) (hfr:A.frames=some (env::outer)) (hF:Frs (env::outer) Δ) (hf:env.frame=some L)
 (k:∀ tb s',StX w ρ z ((tb,TbV (rawInt L))::Δ) e c a0 (.ref tb) s'→Q () s'):wpAny (model PG w) A (noteFrame (.ref e) env) Q E s:=by
  obtain ⟨oe,he,hc,vs,hd,h0,h1,hx2⟩:=X.at_
  unfold noteFrame
  simp only [hf]
  refine wpAny_bind (wpAny_field he hd h1 ?_)
  rw [if_neg (by decide)]
  exact newEntryX X hfr hF hf k
theorem StX.same {v u:Value} {e tb:Addr} {i:Nat} {P':OP} {h':Heap} (X:StX w ρ z Δ e c a0 v s) (hi:Δ[i]?=some (tb,TbV u)) (hs:Heap.SameBut tb s.heap h') (hP:∃ o,h'.get? tb=some o∧P' o):StX w ρ z (Δ.set i (tb,P')) e c a0 v { s with heap:=h' }:=by
 refine (let g:Prop:=_;(?_:g))
 obtain ⟨S,z0,n0,oe,he,hr⟩:=X
 have hne:e≠tb:=fun q=>n0 (List.mem_map.mpr ⟨_,List.mem_of_getElem? hi,q.symm⟩)
 refine ⟨S.same (t:=s.toks) i hi hs hP,z0,?_,oe,(hs.2 e hne).trans he,hr⟩
 intro hm
 refine (let g:Prop:=_;(?_:g))
 obtain ⟨p,hp⟩:=List.mem_map.mp hm
 refine (?_:_→_→_) hp.1 hp.2
 intro hp q
 rcases List.mem_or_eq_of_mem_set hp with hp | hp
 ·exact n0 (List.mem_map.mpr ⟨p,hp,q⟩)
 ·rw [hp] at q;exact hne q.symm
theorem flightX {v:Value} {e tb:Addr} {i:Nat} {Q:Unit→Shared→Prop} (X:StX w ρ z Δ e c a0 (.ref tb) s) (hi:Δ[i]?=some (tb,TbV v))
 (k:∀ s',StX w ρ z (Δ.set i (tb,TbV .none)) e c a0 (.ref tb) s'→Q () s'):wpAny (model PG w) A (setFlight (.ref e) none) Q E s:=by
  refine (let g:Prop:=_;(?_:g))
  obtain ⟨oe,he,hc,vs,hd,h0,h1,hx2⟩:=X.at_
  obtain ⟨ot,het,ts,hdt⟩:=X.st.at i hi
  refine (?_:_→_→_) hdt.1 hdt.2
  intro hdt hts3
  have hsz:=(Array.getElem?_eq_some_iff.mp hts3).1
  refine wpAny_bind (wpAny_field he hd h1 ?_)
  rw [if_pos (show (Value.ref tb != Value.none)=true from by simp)]
  refine wpAny_setField het hdt hsz ?_
  refine (?_:_→_) (Obj.data_mapFields hdt (·.setIfInBounds 3 ((none:Option Addr).elim Value.none fun f=>rawInt f)))
  intro hd5
  exact k _ (X.same hi (Heap.SameBut.update ..) ⟨_,Heap.get?_update_self _ het (Obj.isFreed_of_fields hd5),_,hd5,by simp [hsz]⟩)
theorem noteX1 {env:Env} {outer:List Env} {L e tb:Addr} {i:Nat} {Q:Unit→Shared→Prop} (X:StX w ρ z Δ e c a0 (.ref tb) s) (hi:Δ[i]?=some (tb,TbV .none)) (hfr:A.frames=some (env::outer)) (hF:Frs (env::outer) Δ) (hf:env.frame=some L)
 (k:∀ tb s',StX w ρ z ((tb,TbV (rawInt L))::Δ) e c a0 (.ref tb) s'→Q () s'):wpAny (model PG w) A (noteFrame (.ref e) env) Q E s:=by
  obtain ⟨oe,he,hc,vs,hd,h0,h1,hx2⟩:=X.at_
  obtain ⟨ot,het,ts,hdt⟩:=X.st.at i hi
  refine (?_:_→_→_) hdt.1 hdt.2
  intro hdt hts3
  have hsz:=(Array.getElem?_eq_some_iff.mp hts3).1
  unfold noteFrame
  simp only [hf]
  refine wpAny_bind (wpAny_field he hd h1 ?_)
  rw [if_pos (show (Value.ref tb != Value.none)=true from by simp)]
  refine wpAny_bind (wpAny_field het hdt hts3 ?_)
  rw [if_neg (show ¬ ((Value.none == rawInt L)=true) from by simp [rawInt])]
  refine wpAny_bind (wpAny_setField het hdt hsz ?_)
  refine (?_:_→_) (Obj.data_mapFields hdt (·.setIfInBounds 3 Value.none))
  intro hd5
  refine (?_:_→_) (X.same (P':=TbV .none) hi (Heap.SameBut.update ..) ⟨_,Heap.get?_update_self (Obj.mapFields (·.setIfInBounds 3 Value.none)) het (Obj.isFreed_of_fields hd5),_,hd5,by simp [hsz]⟩)
  intro X2
  rw [setSelf hi] at X2
  exact newEntryX X2 hfr hF hf k
theorem leaveX0 {env:Env} {outer:List Env} {L e:Addr} {Q:Unit→Shared→Prop} (X:StX w ρ z Δ e c a0 .none s) (hfr:A.frames=some (env::outer)) (hF:Frs (env::outer) Δ) (hf:env.frame=some L)
 (k:∀ tb s',StX w ρ z ((tb,TbV .none)::Δ) e c a0 (.ref tb) s'→Q () s'):wpAny (model PG w) A (leaving env (.ref e)) Q E s:=by
  exact wpAny_bind (noteX0 X hfr hF hf fun tb s' X'=>flightX X' (i:=0) rfl (k tb))
end
section
variable {w:World} {ρ:Rest} {z:Z} {A:Around} {E:VP} {s:Shared} {Δ:Ds} {F:Addr×OP}
noncomputable def RangeO (a b:Int):OP:=fun o=>∃ t u v,o={ cls:=.type "range",dict:=none,data:=.fields #[.int a t,.int b u,.int 1 v],slots:=#[] }
theorem b_range {n:Int} {t:Tok} {Q:VP} (S:St w ρ z (F::Δ) s) (k:∀ r s',St w ρ z (F::(r,RangeO 0 n)::Δ) s'→Q (.ref r) s'):wpAny (model PG w) A (call (.type "range") [.int n t]) Q E s:=by
 exact call_range_1 (k _ _ (S.push1 (t:=s.toks+1+1) rfl ⟨_,_,_,rfl⟩))
theorem arel_of:∀ {as:List AV} {vs:List Value},vs.length=as.length→(∀ (j:Nat) (a:AV) (v:Value),as[j]?=some a→vs[j]?=some v→a.is v)→ARel as vs
 | [],[],_,_=>.nil
 | [],_::_,h,_=>by simp at h
 | _::_,[],h,_=>by simp at h
 | a::as,v::vs,h,k=>.cons (k 0 a v rfl rfl) (arel_of (by simpa using h) fun j x y hx hy=>k (j+1) x y (by simpa using hx) (by simpa using hy))
theorem arel_items {P:Nat→Value→Prop} {acc:Array Value} {n:Nat} {f:Nat→AV} (h:ItemsOf P acc n) (hf:∀ j v,P j v→(f j).is v):ARel ((List.range n).map f) acc.toList:=by
 refine arel_of (by simp [h.1]) fun j a v ha hv=>?_
 have hj:j<n:=by refine (?_:_→_) ((List.getElem?_eq_some_iff.mp hv).1);intro this;simpa [h.1] using this
 rw [List.getElem?_map,List.getElem?_range hj] at ha
 cases ha
 exact hf _ _ (h.2 j v (by simpa using hv))
theorem b_listr {r:Addr} {n:Nat} {Q:VP} (hh:A.handled=none) (S:St w ρ z (F::Δ) s) (h:Has s r (RangeO 0 n)) (hn:n≤1000)
 (k:∀ l s',St w ρ z (F::(l,ListO ((List.range n).map fun i=>AV.i (i:Nat)))::Δ) s'→Q (.ref l) s'):wpAny (model PG w) A (call (.type "list") [.ref r]) Q E s:=by
  obtain ⟨o,e,t,u,v,rfl⟩:=h
  refine call_list_range hh e (n:=n) ?_ ?_ (by lia) fun h' tk acc' c' hk he hi=>k _ _ (S.grow1 (t:=tk) hk (Nat.le_refl _) he ⟨_,_,rfl,?_⟩)
  ·refine (?_:(Builtin.Range.rangeSize 0 (n:Int) 1=n)→_) (by unfold Builtin.Range.rangeSize;simp;exact ar20)
   intro hs
   unfold Builtin.Range.small
   refine (?_:(∀ m:Int,0≤m→m≤1000→Builtin.Range.rangeFitsLong m=true)→_) (fun m h1 h2=>by
    unfold Builtin.Range.rangeFitsLong
    rw [Bool.and_eq_true,decide_eq_true_eq,decide_eq_true_eq]
    constructor <;> lia)
   intro hf
   simp [hs,hf 0 (by lia) (by lia),hf 1 (by lia) (by lia),hf n (by exact ar37) (by exact ar67 hn)]
  ·unfold Builtin.Range.rangeSize
   simp
   exact ar20
  ·exact arel_items hi fun j v ⟨t,e⟩=>⟨t,by rw [e];simp⟩
theorem b_lists {x:Str} {v:Value} {Q:VP} (hh:A.handled=none) (S:St w ρ z (F::Δ) s) (hx:AV.is (.s x) v) (hn:x.cps.size≤1000)
 (k:∀ l s',St w ρ z (F::(l,ListO (x.cps.toList.map fun c=>AV.s ⟨#[c]⟩))::Δ) s'→Q (.ref l) s'):wpAny (model PG w) A (call (.type "list") [v]) Q E s:=by
  obtain ⟨t,rfl⟩:=hx
  refine call_list_str hh x t (fun h' tk acc' c' hk he hi=>k _ _ (S.grow1 (t:=tk) hk (Nat.le_refl _) he ⟨_,_,rfl,?_⟩)) (by rw [sizeLine_eq];exact ar11 hn)
  refine arel_of (by simp [hi.1]) fun j a v ha hv=>?_
  obtain ⟨c,u,h1,rfl⟩:=hi.2 j v (by simpa using hv)
  rw [List.getElem?_map] at ha
  have h1:x.cps.toList[j]?=some c:=by simpa using h1
  rw [h1] at ha
  cases ha
  exact ⟨u,rfl⟩
theorem is_bool {M:Model} {a b:Bool} {Q:VP} (h:Q (.bool (a == b)) s):wpAny M A (compareOp .Is (.bool a) (.bool b)) Q E s:=by
 refine (?_:((Value.bool a == Value.bool b)=(a == b))→_) (by cases a <;> cases b <;> rfl)
 intro e
 refine wpAny_is_plain rfl ?_
 rw [e];exact h
theorem isnot_bool {M:Model} {a b:Bool} {Q:VP} (h:Q (.bool (a != b)) s):wpAny M A (compareOp .IsNot (.bool a) (.bool b)) Q E s:=by
 refine (?_:((Value.bool a == Value.bool b)=(a == b))→_) (by cases a <;> cases b <;> rfl)
 intro e
 refine wpAny_isNot_plain rfl ?_
 rw [e];exact h
end
section
variable {C:Cx} {α β:Type} {rel:β→α→Prop} {z:Z} {m:Loc} {Δ:Ds}
theorem L0.wk {c:Sem α} {K:β→SP} {Δ':Ds} (hw:Wk Δ Δ') (h:L0 C rel c z m Δ' K):L0 C rel c z m Δ K:=⟨h.out.wk hw⟩
theorem lf_d {v i:PySem.Expr} {d:Addr} {kv:Loc} {x:Str} {a:AV} {K:AV→SP} (h:OF z Δ d (DictO C.w kv)) (hl:lk kv x=some a) (k:K a z m Δ) (hs:noSlice i=true:=by rfl):L2 C AV.is (subscriptTail v i) (.v (.ref d)) (.s x) z m Δ K:=
 l2va fun D hy=>T.step k fun S q=>sub_dict S (h.has S) hy hl (fun u s' hu S'=>q u s' hu S') (noSlice_ok hs)
theorem lf_nenil {l q:Addr} {as:List AV} {b:Bool} {K:AV→SP} (n:Nat) (R:Room C.A (n+1)) (h:OF z Δ l (ListO as)) (he:as.isEmpty=b) (k:K (.v (.bool (!b))) z m Δ):L2 C AV.is (compareOp .NotEq) (.v (.ref l)) (.v (.ref q)) z m ((q,ListO [])::Δ) K:=
 ⟨fun u y hu hy=>by
  cases hu;cases hy;subst he
  exact fun E s Q S kk=>c_ne_nil S R (h.has (F:=(q,ListO [])) S.tail) (S.at 1 rfl) (kk _ _ _ _ _ _ is_v k S.drop2)⟩
theorem lf_eqnil {l q:Addr} {as:List AV} {b:Bool} {K:AV→SP} (n:Nat) (R:Room C.A (n+1)) (h:OF z Δ l (ListO as)) (he:as.isEmpty=b) (k:K (.v (.bool b)) z m Δ):L2 C AV.is (compareOp .Eq) (.v (.ref l)) (.v (.ref q)) z m ((q,ListO [])::Δ) K:=
 ⟨fun u y hu hy=>by
  cases hu;cases hy;subst he
  exact fun E s Q S kk=>c_eq_nil S R (h.has (F:=(q,ListO [])) S.tail) (S.at 1 rfl) (kk _ _ _ _ _ _ is_v k S.drop2)⟩
theorem lf_isb {a b:Bool} {K:AV→SP} (k:K (.v (.bool (a == b))) z m Δ):L2 C AV.is (compareOp .Is) (.v (.bool a)) (.v (.bool b)) z m Δ K:=
 l2vv (T.pure is_v k is_bool)
theorem lf_isnb {a b:Bool} {K:AV→SP} (k:K (.v (.bool (a != b))) z m Δ):L2 C AV.is (compareOp .IsNot) (.v (.bool a)) (.v (.bool b)) z m Δ K:=
 l2vv (T.pure is_v k isnot_bool)
theorem lf_isn {v:Value} {K:AV→SP} (k:K (.v (.bool (v == .none))) z m Δ):L2 C AV.is (compareOp .Is) (.v v) (.v .none) z m Δ K:=
 l2vv (T.pure is_v k is_none_gen)
theorem lf_isnn {v:Value} {K:AV→SP} (k:K (.v (.bool (!(v == .none)))) z m Δ):L2 C AV.is (compareOp .IsNot) (.v v) (.v .none) z m Δ K:=
 l2vv (T.pure is_v k isnot_none_gen)
noncomputable def stAll (C:Cx):List Str→List AV→SP→SP
 | n::ns,a::as,k=>stX C n (stAll C ns as k) a
 | _,_,k=>k
theorem stAll_ok (O:C.Ok) {g:α→Value→Sem Unit} {nm:α→Str} (hg:∀ p {E s v} {Q:Unit→Shared→Prop},wpAny (model PG C.w) C.A (storeName C.env (nm p) v) Q E s→wpAny (model PG C.w) C.A (g p v) Q E s) {ns:List α}:∀ {as:List AV} {xs:List Value} {z:Z} {m:Loc} {Δ:Ds} {K:SP},ARel as xs→ns.length=as.length→stAll C (ns.map nm) as K z m Δ →
 T C uu (assignInOrder (ns.map g) xs) z m Δ fun D=>K:=by
  induction ns with
  | nil=>
   intro as xs z m Δ K hr hn k
   cases hr with
   | nil=>exact T.pure (a:=()) (b:=()) trivial k fun q=>wpAny_assignInOrder_none q
   | cons _ _=>cases hn
  | cons x r ih=>
   intro as xs z m Δ K hr hn k
   cases hr with
   | nil=>cases hn
   | cons ha hr=>exact fun E s Q S kq=>wpAny_assignInOrder_more (hg x (stX_ok O.h k _ ha E s _ S fun D D z m Δ s2 D t S2=>ih hr (Nat.succ.inj hn) t E s2 Q S2 kq))
noncomputable def tNames:List PySem.Expr→Option (List (Str×Pos))
 | []=>some []
 | e::r=>match e with
  | .Name n p=>(tNames r).map ((n,p)::·)
  | _=>none
set_option tactic.hygienic true in
theorem tNames_ok:∀ {ts:List PySem.Expr} {ns:List (Str×Pos)},tNames ts=some ns→ts=ns.map fun p=>.Name p.1 p.2:=by
 intro ts
 induction ts with
 | nil=>intro ns h;cases h;rfl
 | cons e r ih=>
  intro ns h
  cases e
  case Name n p=>
   refine (?_:((tNames r).map ((n,p)::·)=some ns)→_) (h)
   intro h
   cases h2:tNames r with
   | none=>rw [h2] at h;cases h
   | some l=>rw [h2] at h;cases h;rw [ih h2];rfl
  all_goals cases h
theorem each_names {ns:List (Str×Pos)}:assignEach (ns.map fun p=>.Name p.1 p.2) C.env=ns.map fun p=>(false,assign (.Name p.1 p.2) C.env):=by
 induction ns with
 | nil=>rfl
 | cons p r ih=>exact congrArg (_::·) ih
theorem unp_ok (O:C.Ok) {ts:List PySem.Expr} {ns:List (Str×Pos)} {k:Nat} {tp:Pos} {q:Addr} {as:List AV} {K:SP} {Δ':Ds} (hn:tNames ts=some ns) (hlen:ns.length=as.length)
 (hq:∀ {s:Shared},St C.w C.ρ z ((C.env.locals,FrO m)::Δ) s→Has s q (TupO as)) (hw:Wk Δ Δ') (kk:stAll C (ns.map (·.1)) as K z m Δ'):T C uu (assign (.Tuple ts k tp) C.env (.ref q)) z m Δ fun D=>K:=by
  refine (?_:_→_) (tNames_ok hn)
  intro e
  subst e
  intro E s Q S kq
  refine asg_unpack S O.r (hq S) (by rw [each_names,List.length_map,hlen]) ?_ fun xs s' hxs S'=>?_
  ·rw [each_names]
   clear hn hlen kk
   induction ns with
   | nil=>rfl
   | cons p r ih=>rw [List.map_cons,List.findIdx?_cons,ih];rfl
  ·rw [each_names,List.map_map]
   exact stAll_ok O (fun D D D D D h=>wpAny_assign_Name h) hxs hlen kk E s' Q (hw.cons.st S') kq
theorem lf_unp (O:C.Ok) {ts:List PySem.Expr} {ns:List (Str×Pos)} {k:Nat} {tp:Pos} {q:Addr} {as:List AV} {K:SP} (h:OF z Δ q (TupO as)) (hn:tNames ts=some ns) (hlen:ns.length=as.length)
 (kk:stAll C (ns.map (·.1)) as K z m Δ):L1 C uu (assign (.Tuple ts k tp) C.env) (.v (.ref q)) z m Δ fun D=>K:=
  l1v (unp_ok O hn hlen (fun S=>h.has S) wkr kk)
theorem lf_tcl (O:C.Ok) {ts:List PySem.Expr} {k:Nat} {tp pos:Pos} {v:PySem.Expr} {K:Fl→SP} (h:(X C 60).e v z m Δ (kUnp C (.Tuple ts k tp) K)) (h1:swapsWithSole [.Tuple ts k tp] v pos.line C.env=pure false:=by rfl) (h2:swappedStores [.Tuple ts k tp] v C.env=pure none:=by rfl) :
 L0 C Fl.is (exec (.Assign [.Tuple ts k tp] v pos) C.env) z m Δ K:=⟨fun E s Q S kk=>
  s_tup ((X_ok O.h 60).e h E s _ S fun a v z m Δ s1 hv t S1=>L1.out t v hv E s1 _ S1 fun D D z m Δ s2 D t2 S2=>kk _ _ _ _ _ _ Fl.n t2 S2) h1 h2⟩
noncomputable def kTas (C:Cx) (ns:List Str) (K:SP):List AV→SP:=fun as z m Δ=>bc (Nat.beq ns.length as.length && Nat.ble as.length 1000) (stAll C ns as K z m Δ) False
theorem lf_tas (O:C.Ok) {ts vs:List PySem.Expr} {ns:List (Str×Pos)} {k k2:Nat} {tp vp pos:Pos} {K:Fl→SP} (hn:tNames ts=some ns) (hw:swappedStores [.Tuple ts k tp] (.Tuple vs k2 vp) C.env=pure none)
 (h:(X C 60).l vp vs z m Δ (kTas C (ns.map (·.1)) (K .next))):L0 C Fl.is (exec (.Assign [.Tuple ts k tp] (.Tuple vs k2 vp) pos) C.env) z m Δ K:=⟨by
  intro E s Q S kq
  refine s_tup (e_tup ((X_ok O.h 60).l h E s _ S fun as xs z m Δ s1 hxs t S1=>?_)) rfl hw
  refine bc_e t (fun hc t=>?_) fun D t=>t.elim
  refine (?_:_→_) (Bool.and_eq_true_iff.mp hc)
  intro hc
  have hlen:ns.length=as.length:=by refine (?_:_→_) (Nat.eq_of_beq_eq_true hc.1);intro this;rwa [List.length_map] at this
  refine (?_:_→_) (hxs.length)
  intro h1
  refine ⟨by rw [sizeLine_eq];have:=Nat.le_of_ble_eq_true hc.2;omega,?_⟩
  refine (?_:_→_) (S1.push1 (t:=s1.toks) (o:={ cls:=.type "tuple",data:=.seq xs.toArray }) (P:=TupO as) rfl ⟨_,_,rfl,hxs⟩)
  intro S2
  exact unp_ok O hn hlen (fun S=>S.at 1 rfl) .tail t E _ _ S2 fun D D z m Δ s3 D t3 S3=>kq _ _ _ _ _ _ Fl.n t3 S3⟩
theorem ARel.rev:∀ {as:List AV} {xs:List Value},ARel as xs→ARel as.reverse xs.reverse
 | _,_,.nil=>.nil
 | _,_,.cons h r=>by rw [List.reverse_cons,List.reverse_cons];exact r.rev.append (.cons h .nil)
noncomputable def kSw (C:Cx) (ns:List Str) (K:SP):List AV→SP:=fun as z m Δ=>bc (Nat.beq ns.length as.length && Nat.ble as.length 1000) (stAll C ns.reverse as.reverse K z m Δ) False
theorem lf_swap (O:C.Ok) {ts vs:List PySem.Expr} {ns:List Str} {k k2:Nat} {tp vp pos:Pos} {K:Fl→SP} (hw:swappedStores [.Tuple ts k tp] (.Tuple vs k2 vp) C.env=pure (some ns))
 (h:(X C 60).l vp vs z m Δ (kSw C ns (K .next))):L0 C Fl.is (exec (.Assign [.Tuple ts k tp] (.Tuple vs k2 vp) pos) C.env) z m Δ K:=⟨by
  intro E s Q S kq
  refine s_swap (names:=ns) (e_tup ((X_ok O.h 60).l h E s _ S fun as xs z m Δ s1 hxs t S1=>?_)) rfl hw
  refine bc_e t (fun hc t=>?_) fun D t=>t.elim
  have hc:=Bool.and_eq_true_iff.mp hc
  have hlen:ns.length=as.length:=Nat.eq_of_beq_eq_true hc.1
  refine (?_:_→_) (hxs.length)
  intro h1
  refine ⟨by rw [sizeLine_eq];have:=Nat.le_of_ble_eq_true hc.2;lia,?_⟩
  refine (?_:_→_) (S1.push1 (t:=s1.toks) (o:={ cls:=.type "tuple",data:=.seq xs.toArray }) (P:=TupO as) rfl ⟨_,_,rfl,hxs⟩)
  intro S2
  refine items_unpack S2 O.r (S2.at 1 rfl) hlen fun ys s3 hys S3=>?_
  exact stAll_ok O (nm:=id) (fun D D D D D h=>wpAny_bindName h) hys.rev (by rw [List.length_reverse,List.length_reverse,hlen]) (by rw [List.map_id];exact t) E _ _ S3.drop2 fun D D z m Δ s3 D t3 S3=>kq _ _ _ _ _ _ Fl.n t3 S3⟩
structure Meth (w:World) (Cl:Addr) (n:Str) (f:Addr):Prop where
 g:plainGet (hdp.heap_1_39 w.params) Cl n=true
 i:findIn (hdp.heap_1_39 w.params) (.ref Cl) n=some (some (.ref f))
 t:isFn (hdp.heap_1_39 w.params) (.ref f)=true
theorem lf_gmi {x dx Cl f:Addr} {n:Str} {mi:Loc} {pl:Sem Bool} {K:AV×List AV→SP} (M:Meth C.w Cl n f) (hx:OF z Δ x (InsO Cl dx)) (hd:OF z Δ dx (EntO mi)) (hl:lk mi n=none) (k:K (.v (.ref f),[.v (.ref x)]) z m Δ) :
 L1 C MR (fun v=>getMethod v n pl) (.v (.ref x)) z m Δ K:=
  l1v (fun E s Q S q=>gm_inst S (hx.has S) (hd.has S) M.g M.i M.t hl (q _ _ _ _ _ _ ⟨is_v,.cons is_v .nil⟩ k S))
theorem lc_blk {f:Addr} {as:List AV} {K:AV→SP} (n:Nat) {B Δ0:Ds} (hB:Δ.drop n=B++Δ0)
 (h:∀ Δ',CF C.w C.ρ C.A f as z (B++Δ') fun r z' Δ''=>∃ B',Δ''=B'++Δ'∧K r z' m (Δ.take n++(B'++Δ0))):LC C (.v (.ref f)) as z m Δ K:=
  ⟨fun x xs hx hxs=>by
   cases hx
   intro E s Q S k
   refine (?_:(Δ=Δ.take n++(B++Δ0))→_) (by rw [← hB,List.take_append_drop])
   intro e
   have p:∀ B:Ds,(B++((C.env.locals,FrO m)::(Δ.take n++Δ0))).Perm ((C.env.locals,FrO m)::(Δ.take n++(B++Δ0))):=fun B=>by
    refine List.perm_middle.trans (List.Perm.cons _ ?_)
    rw [← List.append_assoc,← List.append_assoc]
    exact List.perm_append_comm.append_right _
   refine (h _).out xs hxs E s Q (S.perm ((p B).trans (by rw [← e]))) fun r v z' Δ'' s' hv t S'=>?_
   obtain ⟨B',rfl,t⟩:=t
   exact k _ _ _ _ _ _ hv t (S'.perm (p B').symm)⟩
theorem nil_or {α:Type} (l:List α):l=[]∨∃ x r,l=x::r:=match l with | []=>.inl rfl | x::r=>.inr ⟨x,r,rfl⟩
noncomputable def Src (C:Cx) (a:AV) (z:Z) (Δ Δi:Ds) {α:Type} (H:Value→(List α→Ds)→Prop) (items:List α):Prop:=
 ∀ {E:VP} {s:Shared} {Q:VP} {m:Loc} {v:Value},a.is v→St C.w C.ρ z ((C.env.locals,FrO m)::Δ) s →
  (∀ it J s',H it J→St C.w C.ρ z ((C.env.locals,FrO m)::(Δi++J items)) s'→Q it s')→wpAny (model PG C.w) C.A (pyIter v) Q E s
structure FE {σ α:Type} (zf:σ→Z) (mf:σ→Loc) (Δf:σ→Ds) (I:List α→List α→σ→Prop) (d r:List α) (x:σ) (J:Ds) (K Kb:Fl→SP):Prop where
 nx:∀ y e {Δ},Wk Δ (Δf y++J)→Sub (zf x) (zf y)→I d r y→Kb .next (zf y) (mf y++e) Δ
 ct:∀ y e {Δ},Wk Δ (Δf y++J)→Sub (zf x) (zf y)→I d r y→Kb .cont (zf y) (mf y++e) Δ
 br:∀ {z m Δ},K .next z m Δ→Kb .brk z m Δ
 rt:∀ {a z m Δ},K (.ret a) z m Δ→Kb (.ret a) z m Δ
theorem lf_for {t:PySem.Expr} {b:List Stmt} {a:AV} {K:Fl→SP} {σ α:Type} {up:α→Loc→Loc} {items:List α} {X1:Ds} {Δe:σ→Ds} (zf:σ→Z) (mf:σ→Loc) (Δf:σ→Ds) (I:List α→List α→σ→Prop) (O:C.Ok) (x0:σ) (src:Src C a (zf x0) Δ (Δf x0) (fun it J=>Its C.w C.ρ (zf x0) it C.env t up J X1) items) (h0:I [] items x0)
 (turn:let zf:=zf;let mf:=mf;let Δf:=Δf;let I:=I;let K:=K;∀ d a r x,d++a::r=items→Sub (zf x0) (zf x)→I d (a::r) x→∀ J (Kb:Fl→SP),FE zf mf Δf I (d++[a]) r x J K Kb→(X C 60).ss b (zf x) (up a (mf x)) (Δf x++J) Kb)
 (fin:∀ x,Sub (zf x0) (zf x)→I items [] x→K .next (zf x) (mf x) (Δe x)) (hΔ:∀ x,Wk (Δf x++X1) (Δe x))
 (e:Loc) (hz:z=zf x0) (hm:m=mf x0++e):LF C t b a z m Δ K:=⟨by
  subst hz hm
  intro v hv E s Q S k
  refine src hv S.pre fun it J s' H S'=>?_
  refine for_go H rfl O.r (fun d r z m Δ=>∃ x,I d r x∧Sub (zf x0) (zf x)∧z=zf x∧m=mf x∧Δ=Δf x) S' ⟨x0,h0,Sub.refl _,rfl,rfl,rfl⟩ ?_ ?_
  ·rintro d a r _ _ _ s' hd hz ⟨x,hI,hs,rfl,rfl,rfl⟩ S E' Qb hQb
   refine (X_ok O.h 60).ss (turn d a r x hd hs hI (J r) (fun f z m Δ=>(∃ y e,Sub (zf x) (zf y)∧I (d++[a]) r y∧(f=.next∨f=.cont)∧z=zf y∧m=mf y++e∧Wk Δ (Δf y++J r))∨(f=.brk∧K .next z m Δ)∨(∃ a,f=.ret a∧K (.ret a) z m Δ)) ⟨fun y e D h0 h1 h2=>.inl ⟨y,e,h1,h2,.inl rfl,rfl,rfl,h0⟩,fun y e D h0 h1 h2=>.inl ⟨y,e,h1,h2,.inr rfl,rfl,rfl,h0⟩,
    fun h=>.inr (.inl ⟨rfl,h⟩),fun h=>.inr (.inr ⟨_,rfl,h⟩)⟩) E' s' Qb S ?_
   rintro f fl z m Δ s3 hf t3 S3
   refine hQb _ _ ?_
   rcases t3 with ⟨y,e,h1,h2,hn,rfl,rfl,h3⟩ | ⟨rfl,h⟩ | ⟨a,rfl,h⟩
   ·rcases hn with rfl | rfl
    ·cases hf;exact ⟨_,_,_,h1,⟨y,h2,hs.trans h1,rfl,rfl,rfl⟩,(h3.cons.st S3).pre⟩
    ·cases hf;exact ⟨_,_,_,h1,⟨y,h2,hs.trans h1,rfl,rfl,rfl⟩,(h3.cons.st S3).pre⟩
   ·cases hf;exact k _ _ _ _ _ _ Fl.n h S3
   ·obtain ⟨v,rfl,hv⟩:=hf;exact k _ _ _ _ _ _ (Fl.r hv) h S3
  ·rintro _ _ _ s' hz ⟨x,hI,hs,rfl,rfl,rfl⟩ S
   exact k _ _ _ _ _ _ Fl.n (fin x hs hI) ((hΔ x).cons.st S)⟩
theorem lf_for0 {t:PySem.Expr} {b:List Stmt} {a:AV} {K:Fl→SP} {σ α:Type} {up:α→Loc→Loc} {items:List α} (zf:σ→Z) (mf:σ→Loc) (Δf:σ→Ds) (I:List α→List α→σ→Prop) (O:C.Ok) (x0:σ) (src:Src C a (zf x0) Δ (Δf x0) (fun it J=>Its C.w C.ρ (zf x0) it C.env t up J []) items) (h0:I [] items x0)
 (turn:let zf:=zf;let mf:=mf;let Δf:=Δf;let I:=I;let K:=K;∀ d a r x,d++a::r=items→Sub (zf x0) (zf x)→I d (a::r) x→∀ J (Kb:Fl→SP),FE zf mf Δf I (d++[a]) r x J K Kb→(X C 60).ss b (zf x) (up a (mf x)) (Δf x++J) Kb)
 (fin:∀ x,Sub (zf x0) (zf x)→I items [] x→K .next (zf x) (mf x) (Δf x))
 (e:Loc) (hz:z=zf x0) (hm:m=mf x0++e):LF C t b a z m Δ K:=
  lf_for zf mf Δf I O x0 src h0 turn fin (fun x=>by rw [List.append_nil];exact wkr) e hz hm
theorem src_tup {α:Type} {rel:α→Value→Prop} {l:Addr} {vs:List AV} {items:List α} {H:Value→(List α→Ds)→Prop} (h:Fz z l (TupO vs)) (hp:∀ arr,ARel vs arr→PR rel items arr) (hN:∀ it J,Nx C.w C.ρ z it rel J []→H it J):Src C (.v (.ref l)) z Δ Δ H items:=by
 intro E s Q m v hv S k
 cases hv
 exact it_tup S h hp fun it s' N S'=>k _ _ s' (hN _ _ N) S'
theorem src_lF {α:Type} {rel:α→Value→Prop} {l:Addr} {vs:List AV} {items:List α} {H:Value→(List α→Ds)→Prop} (h:Fz z l (ListO vs)) (hp:∀ arr,ARel vs arr→PR rel items arr) (hN:∀ it J,Nx C.w C.ρ z it rel J []→H it J):Src C (.v (.ref l)) z Δ Δ H items:=by
 intro E s Q m v hv S k
 cases hv
 exact it_listF S h hp fun it s' N S'=>k _ _ s' (hN _ _ N) S'
theorem src_lO {α:Type} {rel:α→Value→Prop} {l:Addr} {vs:List AV} {items:List α} {H:Value→(List α→Ds)→Prop} (j:Nat) (h:Δ[j]?=some (l,ListO vs)) (hp:∀ arr,ARel vs arr→PR rel items arr) (hN:∀ it J,Nx C.w C.ρ z it rel J [(l,ListO vs)]→H it J):Src C (.v (.ref l)) z Δ (Δ.eraseIdx j) H items:=by
 intro E s Q m v hv S k
 cases hv
 exact it_listO S (perm_erase h).symm hp fun it s' N S'=>k _ _ s' (hN _ _ N) S'
theorem src_names {H:Value→(List Nat→Ds)→Prop} (hN:∀ it J,Nx C.w C.ρ z it nRel J []→H it J):Src C (.s NM) z Δ Δ H (List.range 7):=by
 intro E s Q m v hv S k
 obtain ⟨t,rfl⟩:=hv
 exact it_names S fun it s' N S'=>k _ _ s' (hN _ _ N) S'
structure CFV (w:World) (ρ:Rest) (A:Around) (f:Addr) (as:List AV) (z:Z) (Δ:Ds) (K:AV→Z→Ds→Prop):Prop where
 out:∀ xs,ARel as xs→∀ (E:VP) (s:Shared) (Q:VP),St w ρ z Δ s→(∀ a v z' Δ' s',a.is v→K a z' Δ'→St w ρ z' Δ' s'→Q v s')→codeAny (model PG w) A (.call (.ref f) ⟨xs,[]⟩) (RQ Q E) s
structure MethS (w:World) (Cl:Addr) (n:Str) (f:Addr):Prop where
 g:plainGet (hdp.heap_1_39 w.params) Cl n=true
 h:hasDictIn (hdp.heap_1_39 w.params) Cl=true
 i:findIn (hdp.heap_1_39 w.params) (.ref Cl) n=some (some (.ref f))
 s:specialIn (hdp.heap_1_39 w.params) (.ref f) "__get__"=some (some (.builtin "function.__get__"))
 t:takesIn (hdp.heap_1_39 w.params) (.ref f)=some false
 y:typeIn (hdp.heap_1_39 w.params) (.ref f)=some (.type "function")
 c:copiedNames.contains n=false
 fn:fnIn (hdp.heap_1_39 w.params) f=true
theorem lf_mstar {on en n:Str} {p1 p2 p3 ap pos:Pos} {x dx Cl f l:Addr} {mi:Loc} {as:List AV} {K:AV→SP} (O:C.Ok) (M:MethS C.w Cl n f) (ko:C.env.kindOf on=some .local) (do_:(on == "__debug__")=false) (lo:lk m on=some (.v (.ref x)))
 (ke:C.env.kindOf en=some .local) (de:(en == "__debug__")=false) (le:lk m en=some (.v (.ref l))) (hx:OF z Δ x (InsO Cl dx)) (hd:OF z Δ dx (EntO mi)) (hl:lk mi n=none) (hls:OF z Δ l (ListO as)) (hz:as.length≤1000)
 (k:Nat) {B Δ0:Ds} (hB:Δ.drop k=B++Δ0) (h:∀ Δ',CFV C.w C.ρ C.A f (.v (.ref x)::as) z (B++Δ') fun r z' Δ''=>∃ B',Δ''=B'++Δ'∧K r z' m (Δ.take k++(B'++Δ0))) :
 L0 C AV.is (eval (.Call (.Attribute (.Name on p1) n ap) [.Starred (.Name en p2) p3] [] pos) C.env) z m Δ K:=⟨by
  intro E s Q S kk
  refine e_callms (ld S rfl O.k ko do_ lo fun v hv=>?_) rfl rfl
  cases hv
  refine ga_meth S (hx.has S) (hd.has S) M.g M.h M.i M.s M.t M.y M.c hl fun q s S=>?_
  refine cw_ms1 (x:=x) M.fn (ld S rfl O.k ke de le fun v hv=>?_) rfl
  cases hv
  have hls':OF z ((q,MthO f x)::Δ) l (ListO as):=by
   cases hls with
   | own j h=>exact .own (j+1) h
   | fz h=>exact .fz h
  refine star_l S (hls'.has S) hz fun xs s hxs S=>⟨⟨S.at 1 rfl,S.K⟩,?_⟩
  refine (?_:(Δ=Δ.take k++(B++Δ0))→_) (by rw [← hB,List.take_append_drop])
  intro e
  have p:∀ B:Ds,(B++((C.env.locals,FrO m)::(Δ.take k++Δ0))).Perm ((C.env.locals,FrO m)::(Δ.take k++(B++Δ0))):=fun B=>by
   refine List.perm_middle.trans (List.Perm.cons _ ?_)
   rw [← List.append_assoc,← List.append_assoc]
   exact List.perm_append_comm.append_right _
  refine (h _).out _ (.cons is_v hxs) E s Q (S.drop2.perm ((p B).trans (by rw [← e]))) fun r v z' Δ'' s' hv t S'=>?_
  obtain ⟨B',rfl,t⟩:=t
  exact kk _ _ _ _ _ _ hv t (S'.perm (p B').symm)⟩
theorem lf_eqt0 {a b:Addr} {K:AV→SP} (R:Room C.A 1) (ha:OF z Δ a (TupO [])) (hb:OF z Δ b (TupO [])) (k:K (.v (.bool true)) z m Δ):L2 C AV.is (compareOp .Eq) (.v (.ref a)) (.v (.ref b)) z m Δ K:=
 l2vv (fun E s Q S kk=>c_eqt S R (ha.has S) (hb.has S) .nil .nil rfl rfl (Nat.zero_le _) (kk _ _ _ _ _ _ is_v k S))
end
section
variable {C:Cx} {α β:Type} {rel:β→α→Prop} {z:Z} {m:Loc} {Δ:Ds}
theorem lf_ldcH {n:Str} {pos:Pos} {c:Addr} {a:AV} {K:AV→SP} (O:C.Okh) (j:Nat) (hj:Δ[j]?=some (c,CellO (some a))) (k:K a z m Δ) (hc:C.env.cells.lookup n=some c:=by rfl) (hk:C.env.kindOf n=some .cell:=by rfl) (hd:(n == "__debug__")=false:=by rfl):L0 C AV.is (eval (.Name n pos) C.env) z m Δ K:=
 ⟨T.get k fun S q=>ldc (S.at (j+1) hj) hc O.k hk hd q⟩
theorem lf_ldc {n:Str} {pos:Pos} {c:Addr} {a:AV} {K:AV→SP} (O:C.Ok) (j:Nat) (hj:Δ[j]?=some (c,CellO (some a))) (k:K a z m Δ) (hc:C.env.cells.lookup n=some c:=by rfl) (hk:C.env.kindOf n=some .cell:=by rfl) (hd:(n == "__debug__")=false:=by rfl):L0 C AV.is (eval (.Name n pos) C.env) z m Δ K:=lf_ldcH O.h j hj k hc hk hd
theorem lf_stc {n:Str} {c:Addr} {a:AV} {a0:Option AV} {K:Unit→SP} (O:C.Ok) (j:Nat) (hj:Δ[j]?=some (c,CellO a0)) (k:K () z m (Δ.set j (c,CellO (some a)))) (hc:C.env.cells.lookup n=some c:=by rfl) (hk:C.env.kindOf n=some .cell:=by rfl):L1 C uu (storeName C.env n) a z m Δ K:=
 ⟨fun x hx=>T.step k fun S q=>storeC S (j:=j+1) hj hc O.k hk hx fun s' S'=>q _ s' trivial S'⟩
theorem lf_augc {n:Str} {p pos:Pos} {op:Operator} {v:PySem.Expr} {c:Addr} {i:Int} {K:Fl→SP} (O:C.Ok) (j:Nat) (hj:Δ[j]?=some (c,CellO (some (.i i)))) (k:(X C 60).e v z m Δ (inpX C op (kSet C n K) (.i i))) (hc:C.env.cells.lookup n=some c:=by rfl) (hk:C.env.kindOf n=some .cell:=by rfl) :
 L0 C Fl.is (exec (.AugAssign (.Name n p) op v pos) C.env) z m Δ K:=⟨fun E s Q S q=>by
  obtain ⟨u,h1⟩:=CellO.is (S.at (j+1) hj)
  refine (?_:_→_→_) h1.1 h1.2
  intro h1 h2
  exact wpAny_AugAssign_Name (wpAny_loadName_cell O.k hk hc h1 ((X_ok O.h 60).e k E _ _ S fun b y z m Δ s1 hb t S1=>inpX_ok t u h2 y hb E s1 _ S1 fun r y z m Δ s2 hy t2 S2=>stX_ok O.h t2 y hy E s2 _ S2 fun B B z m Δ s2 B t2 S2=>q _ _ _ _ _ _ Fl.n t2 S2))⟩
theorem T.fz {c:Sem α} {K:β→SP} (j:Nat) {a:Addr} {P:OP} (hj:Δ[j]?=some (a,P)) (h:∀ z',Sub z z'→Fz z' a P→T C rel c z' m (Δ.eraseIdx j) K):T C rel c z m Δ K:=fun E s Q S k=>
 let ⟨z',h1,h2,S'⟩:=S.freezeJ j hj
 h z' h1 h2 E s Q S' k
theorem L1.fz {f:Value→Sem α} {b:AV} {K:β→SP} (j:Nat) {a:Addr} {P:OP} (hj:Δ[j]?=some (a,P)) (h:∀ z',Sub z z'→Fz z' a P→L1 C rel f b z' m (Δ.eraseIdx j) K):L1 C rel f b z m Δ K:=⟨fun x hx=>T.fz j hj fun z' h1 h2=>(h z' h1 h2).out x hx⟩
theorem LC.fz {f:AV} {as:List AV} {K:AV→SP} (j:Nat) {a:Addr} {P:OP} (hj:Δ[j]?=some (a,P)) (h:∀ z',Sub z z'→Fz z' a P→LC C f as z' m (Δ.eraseIdx j) K):LC C f as z m Δ K:=⟨fun x xs hx hxs=>T.fz j hj fun z' h1 h2=>(h z' h1 h2).out x xs hx hxs⟩
theorem L2.fz {f:Value→Value→Sem α} {b d:AV} {K:β→SP} (j:Nat) {a:Addr} {P:OP} (hj:Δ[j]?=some (a,P)) (h:∀ z',Sub z z'→Fz z' a P→L2 C rel f b d z' m (Δ.eraseIdx j) K):L2 C rel f b d z m Δ K:=⟨fun x y hx hy=>T.fz j hj fun z' h1 h2=>(h z' h1 h2).out x y hx hy⟩
theorem L0.fz {c:Sem α} {K:β→SP} (j:Nat) {a:Addr} {P:OP} (hj:Δ[j]?=some (a,P)) (h:∀ z',Sub z z'→Fz z' a P→L0 C rel c z' m (Δ.eraseIdx j) K):L0 C rel c z m Δ K:=⟨T.fz j hj fun z' h1 h2=>(h z' h1 h2).out⟩
structure LK (C:Cx) (elt t iter:PySem.Expr) (ifs:List PySem.Expr) (scope:Scope) (pos:Pos) (cl:List (Str×Addr)) (a:AV) (z:Z) (m:Loc) (Δ:Ds) (K:AV→SP):Prop where
 out:∀ v,a.is v→∀ (E:VP) (s:Shared) (Q:VP),St C.w C.ρ z ((C.env.locals,FrO m)::Δ) s →
  (∀ b a z' m' Δ' s',AV.is b a→K b z' m' Δ'→St C.w C.ρ z' ((C.env.locals,FrO m')::Δ') s'→Q a s')→wpAny (model PG C.w) C.A (pyIter v) (fun it s₂=>CompGo C.w C.A E elt t iter ifs scope pos cl C.env Q it s₂) E s
theorem lf_compH {elt t iter:PySem.Expr} {ifs:List PySem.Expr} {scope:Scope} {pos:Pos} {cl:List (Str×Addr)} {K:AV→SP} (O:C.Okh) (h:(X C 60).e iter z m Δ (LK C elt t iter ifs scope pos cl · · · · K))
 (hi:(ek iter == 3)=false:=by rfl) (hc:closureFor scope C.env=pure cl:=by rfl) (hk:scope.kind=.function:=by rfl) (hn:∀ x∈scope.names,x.2=.local→scope.names.lookup x.1=some .local:=by decide) :
 L0 C AV.is (eval (.ListComp elt [⟨t,iter,ifs,0⟩] scope pos) C.env) z m Δ K:=⟨fun E s Q S k=>
  e_comp ((X_ok O 60).e h E s _ S fun a v z m Δ s1 hv t S1=>LK.out t v hv E s1 Q S1 k) (fun v=>fold_of hi) hc hk hn⟩
theorem lf_comp {elt t iter:PySem.Expr} {ifs:List PySem.Expr} {scope:Scope} {pos:Pos} {cl:List (Str×Addr)} {K:AV→SP} (O:C.Ok) (h:(X C 60).e iter z m Δ (LK C elt t iter ifs scope pos cl · · · · K))
 (hi:(ek iter == 3)=false:=by rfl) (hc:closureFor scope C.env=pure cl:=by rfl) (hk:scope.kind=.function:=by rfl) (hn:∀ x∈scope.names,x.2=.local→scope.names.lookup x.1=some .local:=by decide) :
 L0 C AV.is (eval (.ListComp elt [⟨t,iter,ifs,0⟩] scope pos) C.env) z m Δ K:=lf_compH O.h h hi hc hk hn
structure LKU (C:Cx) (y:Str) (py:Pos) (elt t iter:PySem.Expr) (ifs:List PySem.Expr) (scope:Scope) (pos:Pos) (cl:List (Str×Addr)) (a:AV) (z:Z) (m:Loc) (Δ:Ds) (K:SP):Prop where
 out:∀ v,a.is v→∀ (E:VP) (s:Shared) (Q:VP),St C.w C.ρ z ((C.env.locals,FrO m)::Δ) s →
  (∀ z' m' Δ' s',K z' m' Δ'→St C.w C.ρ z' ((C.env.locals,FrO m')::Δ') s'→Q .none s')→wpAny (model PG C.w) C.A (pyIter v) (fun it s₂=>CompGoU C.w C.A E elt t iter ifs scope pos cl C.env (assign (.Name y py) C.env) Q it s₂) E s
theorem lf_scomp {y:Str} {py:Pos} {elt t iter:PySem.Expr} {ifs:List PySem.Expr} {scope:Scope} {pos spos:Pos} {cl:List (Str×Addr)} {K:Fl→SP} (O:C.Ok) (h:(X C 60).e iter z m Δ (LKU C y py elt t iter ifs scope pos cl · · · · (K .next)))
 (hs:swapsWith (.ListComp elt [⟨t,iter,ifs,0⟩] scope pos) (some (.Name y py)) spos.line C.env=pure true:=by rfl)
 (hi:(ek iter == 3)=false:=by rfl) (hc:closureFor scope C.env=pure cl:=by rfl) (hk:scope.kind=.function:=by rfl) (hn:∀ x∈scope.names,x.2=.local→scope.names.lookup x.1=some .local:=by decide) :
 L0 C Fl.is (exec (.Assign [.Name y py] (.ListComp elt [⟨t,iter,ifs,0⟩] scope pos) spos) C.env) z m Δ K:=⟨fun E s Q S k=>
  s_comp ((X_ok O.h 60).e h E s _ S fun a v z m Δ s1 hv t S1=>LKU.out t v hv E s1 _ S1 fun z' m' Δ' s' hk S'=>k _ _ _ _ _ _ Fl.n hk S') hs (fun v=>fold_of hi) hc hk hn⟩
theorem lf_asgc {n:Str} {p:Pos} {v:PySem.Expr} {pos:Pos} {K:Fl→SP} (O:C.Ok) (h:L0 C AV.is (eval v C.env) z m Δ (kSet C n K)) (hs:swapsWith v (some (.Name n p)) pos.line C.env=pure false:=by rfl):L0 C Fl.is (exec (.Assign [.Name n p] v pos) C.env) z m Δ K:=⟨fun E s Q S k=>
 wpAny_Assign_Name (h.out E s _ S fun a v z m Δ s1 hv t S1=>stX_ok O.h t v hv E s1 _ S1 fun B B z m Δ s2 B t2 S2=>k _ _ _ _ _ _ Fl.n t2 S2) hs⟩
noncomputable def kCI (C2:Cx) (elt:PySem.Expr) (Kt:AV→SP) (Ks:SP):Bool→SP:=fun ok z m Δ=>ITE ok ((X C2 60).e elt z m Δ Kt) (Ks z m Δ)
noncomputable def ifsX (C2:Cx) (ifs:List PySem.Expr) (elt:PySem.Expr) (z:Z) (m:Loc) (Δ:Ds) (Kt:AV→SP) (Ks:SP):Prop:=match ifs with
 | []=>(X C2 60).e elt z m Δ Kt
 | c::r=>match r with
  | []=>(X C2 60).b c z m Δ (kCI C2 elt Kt Ks)
  | _::_=>False
noncomputable def CTurn (G:Cx→Prop) (C:Cx) (elt:PySem.Expr) (ifs:List PySem.Expr) (scope:Scope) (cl:List (Str×Addr)) {α:Type} (ns:List Str) (f:α→List AV) (items:List α) (P:List α→List AV→Z→Prop) (z:Z) (m:Loc) (Δi:Ds):Prop:=
 ∀ d a r out z' Cc D J,d++a::r=items→Sub z z'→P d out z'→∀ (Kt:AV→SP) (Ks:SP),
  (∀ av z'' m'' Δ'',Sub z' z''→P (d++[a]) (out++[av]) z''→Wk Δ'' ((D,ListO out)::(C.env.locals,FrO m)::(Δi++J))→Kt av z'' m'' Δ'') →
  (∀ z'' m'' Δ'',Sub z' z''→P (d++[a]) out z''→Wk Δ'' ((D,ListO out)::(C.env.locals,FrO m)::(Δi++J))→Ks z'' m'' Δ'') →
  let C2:Cx:=⟨C.w,C.ρ,C.A,compEnvC scope cl Cc C.env⟩;G C2→ifsX C2 ifs elt z' (setls [] ns (f a)) ((D,ListO out)::(C.env.locals,FrO m)::(Δi++J)) Kt Ks
theorem setls_sub:∀ (ns:List Str) (vs:List AV) (m m':Loc),(∀ x v,lk m x=some v→lk m' x=some v)→∀ x v,lk (setls m ns vs) x=some v→lk (setls m' ns vs) x=some v:=by
 intro ns
 induction ns with
 | nil=>intro vs m m' h;exact h
 | cons n r ih=>
  intro vs m m' h
  cases vs with
  | nil=>exact h
  | cons a as=>
   refine ih as _ _ fun x v hx=>?_
   rw [lk_setl] at hx ⊢
   split
   ·rename_i e;rw [if_pos e] at hx;exact hx
   ·rename_i e;rw [if_neg e] at hx;exact h x v hx
theorem cturn_ok {elt:PySem.Expr} {ifs:List PySem.Expr} {scope:Scope} {cl:List (Str×Addr)} {ns:List Str} {f:α→List AV} {items:List α} {P:List α→List AV→Z→Prop} {Δi:Ds} {G:Cx→Prop} (O:C.Okh) (hG:∀ Cc,G ⟨C.w,C.ρ,C.A,compEnvC scope cl Cc C.env⟩) (hk:scope.kind=.function) (h:CTurn G C elt ifs scope cl ns f items P z m Δi)
 {J:List α→Ds}:∀ d a r out z' mc Cc D s',d++a::r=items→Sub z z'→P d out z'→St C.w C.ρ z' ((Cc,FrO (setls mc ns (f a)))::(D,ListO out)::(C.env.locals,FrO m)::(Δi++J r)) s'→∀ E',
 wpAny (model PG C.w) C.A (forIn ifs true fun c r=>if r=true then do let ok ← isTrue c (compEnvC scope cl Cc C.env) (eval c (compEnvC scope cl Cc C.env));pure (ForInStep.yield ok) else pure (ForInStep.yield r)) (fun ok s₃=>
 if ok=true then wpAny (model PG C.w) C.A (eval elt (compEnvC scope cl Cc C.env)) (fun x s₄=>∃ av z'' mc',av.is x∧Sub z' z''∧P (d++[a]) (out++[av]) z''∧St C.w C.ρ z'' ((Cc,FrO mc')::(D,ListO out)::(C.env.locals,FrO m)::(Δi++J r)) s₄) E' s₃
 else ∃ z'' mc',Sub z' z''∧P (d++[a]) out z''∧St C.w C.ρ z'' ((Cc,FrO mc')::(D,ListO out)::(C.env.locals,FrO m)::(Δi++J r)) s₃) E' s':=by
  intro d a r out z' mc Cc D s' hd hz hP S E'
  refine (?_:(Cx.Okh ⟨C.w,C.ρ,C.A,compEnvC scope cl Cc C.env⟩)→_) (⟨hk,O.g,O.b⟩)
  intro O2
  have S:St C.w C.ρ z' ((Cc,FrO (setls [] ns (f a)))::(D,ListO out)::(C.env.locals,FrO m)::(Δi++J r)) s':=S.weak (P':=FrO (setls [] ns (f a))) 0 rfl fun o ⟨es,ep,q1,q2,q3⟩=>⟨es,ep,q1,q2,fun y v h=>q3 y v (setls_sub ns (f a) [] mc (fun B B h=>by cases h) y v h)⟩
  refine (?_:_→_) (h d a r out z' Cc D (J r) hd hz hP
   (fun av z'' m'' Δ''=>Sub z' z''∧P (d++[a]) (out++[av]) z''∧Wk Δ'' ((D,ListO out)::(C.env.locals,FrO m)::(Δi++J r)))
   (fun z'' m'' Δ''=>Sub z' z''∧P (d++[a]) out z''∧Wk Δ'' ((D,ListO out)::(C.env.locals,FrO m)::(Δi++J r))) (fun B B B B h1 h2 h3=>⟨h1,h2,h3⟩) (fun B B B h1 h2 h3=>⟨h1,h2,h3⟩) (hG Cc))
  intro g
  obtain _ | ⟨c,_ | _⟩:=ifs
  ·refine if_none ?_
   rw [if_pos rfl]
   exact (X_ok O2 60).e g E' s' _ S fun av x z'' m'' Δ'' s'' hx t S''=>⟨av,z'',m'',hx,t.1,t.2.1,t.2.2.cons.st S''⟩
  ·refine if_one (((X_ok O2 60).b g).b E' s' _ S fun ok z2 m2 Δ2 s2 t S2=>?_)
   exact ITE.if ⟨fun hc=>(X_ok O2 60).e (t.t hc) E' s2 _ S2 fun av x z'' m'' Δ'' s'' hx t S''=>⟨av,z'',m'',hx,t.1,t.2.1,t.2.2.cons.st S''⟩,fun hc=>let t:=t.f hc;⟨z2,m2,t.1,t.2.1,t.2.2.cons.st S2⟩⟩
  ·exact g.elim
theorem lf_lkA {elt t iter:PySem.Expr} {ifs:List PySem.Expr} {scope:Scope} {pos:Pos} {cl:List (Str×Addr)} {a:AV} {K:AV→SP} {ns:List Str} {f:α→List AV} {items:List α} {X1 Δi Δe:Ds} {G:Cx→Prop} (O:C.Okh) (hG:∀ Cc,G ⟨C.w,C.ρ,C.A,compEnvC scope cl Cc C.env⟩)
 (src:Src C a z Δ Δi (fun it J=>∀ Cc,ItsA C.w C.ρ z C.A it (compEnvC scope cl Cc C.env) t (fun a m=>setls m ns (f a)) J X1) items) (P:List α→List AV→Z→Prop) (hlen:items.length≤1000) (h0:P [] [] z)
 (turn:CTurn G C elt ifs scope cl ns f items P z m Δi) (fin:∀ out z' D,Sub z z'→P items out z'→K (.v (.ref D)) z' m ((D,ListO out)::Δe)) (hΔ:Wk (Δi++X1) Δe)
 (hk:scope.kind=.function:=by rfl) (hcell:∀ y∈scope.names,y.2≠.cell:=by decide):LK C elt t iter ifs scope pos cl a z m Δ K:=⟨fun v hv E s Q S k=>by
  refine src hv S fun it J s' H S'=>?_
  exact comp_goA H hcell hk hlen (fun d r out z=>P d out z) S' h0 (fun d a r out z' mc Cc D s'=>cturn_ok O hG hk turn d a r out z' mc Cc D s') fun out z' D s' hz hP S'=>k _ _ _ _ _ _ is_v (fin out z' D hz hP) (hΔ.cons.cons.st S')⟩
theorem lf_lk {elt t iter:PySem.Expr} {ifs:List PySem.Expr} {scope:Scope} {pos:Pos} {cl:List (Str×Addr)} {a:AV} {K:AV→SP} {ns:List Str} {f:α→List AV} {items:List α} {X1 Δi Δe:Ds} (O:C.Ok)
 (src:Src C a z Δ Δi (fun it J=>∀ Cc,Its C.w C.ρ z it (compEnvC scope cl Cc C.env) t (fun a m=>setls m ns (f a)) J X1) items) (P:List α→List AV→Z→Prop) (hlen:items.length≤1000) (h0:P [] [] z)
 (turn:CTurn Cx.Ok C elt ifs scope cl ns f items P z m Δi) (fin:∀ out z' D,Sub z z'→P items out z'→K (.v (.ref D)) z' m ((D,ListO out)::Δe)) (hΔ:Wk (Δi++X1) Δe)
 (hk:scope.kind=.function:=by rfl) (hcell:∀ y∈scope.names,y.2≠.cell:=by decide):LK C elt t iter ifs scope pos cl a z m Δ K:=
  lf_lkA O.h (fun Cc=>⟨hk,O.g,O.b,O.r⟩) (fun hv S k=>src hv S fun it J s' H S'=>k it J s' (fun Cc=>(H Cc).toA O.r) S') P hlen h0 turn fin hΔ hk hcell
theorem lf_lku {y:Str} {py:Pos} {elt t iter:PySem.Expr} {ifs:List PySem.Expr} {scope:Scope} {pos:Pos} {cl:List (Str×Addr)} {a:AV} {K:SP} {ns:List Str} {f:α→List AV} {items:List α} {X1 Δi Δe:Ds} (O:C.Ok)
 (src:Src C a z Δ Δi (fun it J=>∀ Cc,Its C.w C.ρ z it (compEnvC scope cl Cc C.env) t (fun a m=>setls m ns (f a)) J X1) items) (P:List α→List AV→Z→Prop) (hlen:items.length≤1000) (h0:P [] [] z)
 (turn:CTurn Cx.Ok C elt ifs scope cl ns f items P z m Δi) (fin:∀ out z' D,Sub z z'→P items out z'→K z' (setl m y (.v (.ref D))) ((D,ListO out)::Δe)) (hΔ:Wk (Δi++X1) Δe)
 (hl:C.env.kindOf y=some .local:=by rfl) (hk:scope.kind=.function:=by rfl) (hcell:∀ y∈scope.names,y.2≠.cell:=by decide):LKU C y py elt t iter ifs scope pos cl a z m Δ K:=⟨fun v hv E s Q S k=>by
  refine src hv S fun it J s' H S'=>?_
  exact comp_goU H O.r hcell hk hlen rfl hl O.k (fun d r out z=>P d out z) S' h0 (fun d a r out z' mc Cc D s'=>cturn_ok O.h (fun Cc=>⟨hk,O.g,O.b,O.r⟩) hk turn d a r out z' mc Cc D s') fun out z' D s' hz hP S'=>k _ _ _ _ (fin out z' D hz hP) (hΔ.cons.cons.st S')⟩
theorem lf_lk0 {elt t iter:PySem.Expr} {ifs:List PySem.Expr} {scope:Scope} {pos:Pos} {cl:List (Str×Addr)} {a:AV} {K:AV→SP} {ns:List Str} {f:α→List AV} {items:List α} {Δi:Ds} (O:C.Ok)
 (src:Src C a z Δ Δi (fun it J=>∀ Cc,Its C.w C.ρ z it (compEnvC scope cl Cc C.env) t (fun a m=>setls m ns (f a)) J []) items) (P:List α→List AV→Z→Prop) (hlen:items.length≤1000) (h0:P [] [] z)
 (turn:CTurn Cx.Ok C elt ifs scope cl ns f items P z m Δi) (fin:∀ out z' D,Sub z z'→P items out z'→K (.v (.ref D)) z' m ((D,ListO out)::Δi))
 (hk:scope.kind=.function:=by rfl) (hcell:∀ y∈scope.names,y.2≠.cell:=by decide):LK C elt t iter ifs scope pos cl a z m Δ K:=
  lf_lk O src P hlen h0 turn fin (by rw [List.append_nil];exact wkr) hk hcell
theorem lf_lku0 {y:Str} {py:Pos} {elt t iter:PySem.Expr} {ifs:List PySem.Expr} {scope:Scope} {pos:Pos} {cl:List (Str×Addr)} {a:AV} {K:SP} {ns:List Str} {f:α→List AV} {items:List α} {Δi:Ds} (O:C.Ok)
 (src:Src C a z Δ Δi (fun it J=>∀ Cc,Its C.w C.ρ z it (compEnvC scope cl Cc C.env) t (fun a m=>setls m ns (f a)) J []) items) (P:List α→List AV→Z→Prop) (hlen:items.length≤1000) (h0:P [] [] z)
 (turn:CTurn Cx.Ok C elt ifs scope cl ns f items P z m Δi) (fin:∀ out z' D,Sub z z'→P items out z'→K z' (setl m y (.v (.ref D))) ((D,ListO out)::Δi))
 (hl:C.env.kindOf y=some .local:=by rfl) (hk:scope.kind=.function:=by rfl) (hcell:∀ y∈scope.names,y.2≠.cell:=by decide):LKU C y py elt t iter ifs scope pos cl a z m Δ K:=
  lf_lku O src P hlen h0 turn fin (by rw [List.append_nil];exact wkr) hl hk hcell
noncomputable def CTurnF (C:Cx) (elt:PySem.Expr) (ifs:List PySem.Expr) (scope:Scope) (cl:List (Str×Addr)) {α:Type} (ns:List Str) (f:α→List AV) (items:List α) (p:α→Bool) (g:α→AV) (F:List α→List AV) (z:Z) (m:Loc) (Δi:Ds):Prop:=
 ∀ d a r Cc D J,d++a::r=items→∀ (Kt:AV→SP) (Ks:SP),(p a=true→∀ m'' Δ'',Wk Δ'' ((D,ListO (F d))::(C.env.locals,FrO m)::(Δi++J))→Kt (g a) z m'' Δ'') →
  (p a=false→∀ m'' Δ'',Wk Δ'' ((D,ListO (F d))::(C.env.locals,FrO m)::(Δi++J))→Ks z m'' Δ'') →
  let C2:Cx:=⟨C.w,C.ρ,C.A,compEnvC scope cl Cc C.env⟩;C2.Ok→ifsX C2 ifs elt z (setls [] ns (f a)) ((D,ListO (F d))::(C.env.locals,FrO m)::(Δi++J)) Kt Ks
structure FOk {α:Type} (p:α→Bool) (g:α→AV) (F:List α→List AV):Prop where
 h:∀ d a,F (d++[a])=F d++cond (p a) [g a] []
 n:F []=[]
theorem CTurnF.to {elt:PySem.Expr} {ifs:List PySem.Expr} {scope:Scope} {cl:List (Str×Addr)} {ns:List Str} {f:α→List AV} {items:List α} {p:α→Bool} {g:α→AV} {F:List α→List AV} {Δi:Ds} (hF:FOk p g F) (h:CTurnF C elt ifs scope cl ns f items p g F z m Δi):CTurn Cx.Ok C elt ifs scope cl ns f items (fun d out z'=>z'=z∧out=F d) z m Δi:=by
 intro d a r out z' Cc D J hd hz hP Kt Ks hk hs C2 O2
 obtain ⟨rfl,rfl⟩:=hP
 exact h d a r Cc D J hd Kt Ks (fun hp m'' Δ'' w=>hk _ _ _ _ (.refl _) ⟨rfl,by rw [hF.h,hp];rfl⟩ w) (fun hp m'' Δ'' w=>hs _ _ _ (.refl _) ⟨rfl,by rw [hF.h,hp];exact (List.append_nil _).symm⟩ w) O2
theorem lf_lkF {elt t iter:PySem.Expr} {ifs:List PySem.Expr} {scope:Scope} {pos:Pos} {cl:List (Str×Addr)} {a:AV} {K:AV→SP} {ns:List Str} {f:α→List AV} {items:List α} {X1 Δi Δe:Ds} (O:C.Ok)
 (src:Src C a z Δ Δi (fun it J=>∀ Cc,Its C.w C.ρ z it (compEnvC scope cl Cc C.env) t (fun a m=>setls m ns (f a)) J X1) items) (p:α→Bool) (g:α→AV) {F:List α→List AV} (hF:FOk p g F) (hlen:items.length≤1000)
 (turn:CTurnF C elt ifs scope cl ns f items p g F z m Δi) (fin:∀ D,K (.v (.ref D)) z m ((D,ListO (F items))::Δe)) (hΔ:Wk (Δi++X1) Δe)
 (hk:scope.kind=.function:=by rfl) (hcell:∀ y∈scope.names,y.2≠.cell:=by decide):LK C elt t iter ifs scope pos cl a z m Δ K:=
  lf_lk O src (fun d out z'=>z'=z∧out=F d) hlen ⟨rfl,hF.n.symm⟩ (CTurnF.to hF turn) (fun out z' D hz hP=>by obtain ⟨rfl,rfl⟩:=hP;exact fin D) hΔ hk hcell
theorem lf_lkuF {y:Str} {py:Pos} {elt t iter:PySem.Expr} {ifs:List PySem.Expr} {scope:Scope} {pos:Pos} {cl:List (Str×Addr)} {a:AV} {K:SP} {ns:List Str} {f:α→List AV} {items:List α} {X1 Δi Δe:Ds} (O:C.Ok)
 (src:Src C a z Δ Δi (fun it J=>∀ Cc,Its C.w C.ρ z it (compEnvC scope cl Cc C.env) t (fun a m=>setls m ns (f a)) J X1) items) (p:α→Bool) (g:α→AV) {F:List α→List AV} (hF:FOk p g F) (hlen:items.length≤1000)
 (turn:CTurnF C elt ifs scope cl ns f items p g F z m Δi) (fin:∀ D,K z (setl m y (.v (.ref D))) ((D,ListO (F items))::Δe)) (hΔ:Wk (Δi++X1) Δe)
 (hl:C.env.kindOf y=some .local:=by rfl) (hk:scope.kind=.function:=by rfl) (hcell:∀ y∈scope.names,y.2≠.cell:=by decide):LKU C y py elt t iter ifs scope pos cl a z m Δ K:=
  lf_lku O src (fun d out z'=>z'=z∧out=F d) hlen ⟨rfl,hF.n.symm⟩ (CTurnF.to hF turn) (fun out z' D hz hP=>by obtain ⟨rfl,rfl⟩:=hP;exact fin D) hΔ hl hk hcell
theorem F_map {β:Type} (g:α→β) (h:β→AV):FOk (fun B=>true) (fun a=>h (g a)) fun d=>(d.map g).map h:=⟨fun d a=>by rw [List.map_append,List.map_append];rfl,rfl⟩
theorem F_fil (p:α→Bool) (g:α→AV):FOk p g fun d=>(d.filter p).map g:=⟨fun d a=>by
 rw [List.filter_append,List.map_append,List.filter_cons]
 cases p a <;> rfl,rfl⟩
theorem F_film {β:Type} (p:α→Bool) (f:α→β) (g:β→AV):FOk p (fun a=>g (f a)) fun d=>((d.filter p).map f).map g:=⟨fun d a=>by
 rw [List.map_map,List.map_map];exact (F_fil p (g∘f)).h d a,rfl⟩
theorem F_map3 {β γ:Type} (f:α→β) (g:β→γ) (h:γ→AV):FOk (fun B=>true) (fun a=>h (g (f a))) fun d=>((d.map f).map g).map h:=⟨fun d a=>by rw [List.map_append,List.map_append,List.map_append];rfl,rfl⟩
theorem lf_all {l:Addr} {bs:List Bool} {K:AV→SP} (O:C.Ok) (h:OF z Δ l (ListO (bs.map bAV))) (k:K (.v (.bool (bs.all id))) z m Δ):LC C (.v (.builtin "all")) [.v (.ref l)] z m Δ K:=
 lc1 (T.step k fun S q=>b_all S O.r (h.has S) fun s' S'=>q _ s' is_v S')
theorem lf_inn {l:Addr} {x:Nat} {xs:List Nat} {K:AV→SP} (n:Nat) (R:Room C.A (n+1)) (h:OF z Δ l (ListO (nAVs xs))) (h7:x<7) (h7s:∀ y∈xs,y<7) (k:K (.v (.bool (decide (x∈xs)))) z m Δ):L2 C AV.is (compareOp .In) (.s (nm x)) (.v (.ref l)) z m Δ K:=
 l2av fun B hu=>fun E s Q S kk=>inn S R (h.has S) hu h7 h7s (kk _ _ _ _ _ _ is_v k S)
theorem lf_ninn {l:Addr} {x:Nat} {xs:List Nat} {K:AV→SP} (n:Nat) (R:Room C.A (n+1)) (h:OF z Δ l (ListO (nAVs xs))) (h7:x<7) (h7s:∀ y∈xs,y<7) (k:K (.v (.bool (!decide (x∈xs)))) z m Δ):L2 C AV.is (compareOp .NotIn) (.s (nm x)) (.v (.ref l)) z m Δ K:=
 l2av fun B hu=>fun E s Q S kk=>notinn S R (h.has S) hu h7 h7s (kk _ _ _ _ _ _ is_v k S)
end
theorem lk_of_mem:∀ {l:Loc} {x:Str} {a:AV},(l.map (·.1)).Nodup→(x,a)∈l→lk l x=some a:=by
 intro l
 induction l with
 | nil=>intro x a _ h;cases h
 | cons p r ih=>
  intro x a hn h
  obtain ⟨k,b⟩:=p
  rw [List.map_cons,List.nodup_cons] at hn
  unfold lk
  rcases List.mem_cons.mp h with e | h
  ·cases e;exact if_pos rfl
  ·rw [if_neg fun e:x=k=>hn.1 (by rw [← e];exact List.mem_map_of_mem (f:=(·.1)) h)]
   exact ih hn.2 h
theorem zip_keys_nd:∀ {ns:List Str} {as:List AV},ns.Nodup→((ns.zip as).map (·.1)).Nodup:=fun {ns as} h=>by
 induction ns generalizing as with
 | nil=>exact .nil
 | cons n r ih=>
  cases as with
  | nil=>exact .nil
  | cons a as=>
   rw [List.nodup_cons] at h
   rw [List.zip_cons_cons,List.map_cons,List.nodup_cons]
   refine ⟨fun hm=>h.1 ?_,ih h.2⟩
   obtain ⟨p,hp⟩:=List.mem_map.mp hm
   refine (?_:_→_→_) hp.1 hp.2
   intro hp e
   rw [← show p.1=n from e];exact (List.of_mem_zip hp).1
theorem lf_defC {w:World} {ρ:Rest} {A:Around} {z:Z} {Δ:Ds} {f:Addr} {name qual:Str} {params:Arguments} {body:List Stmt} {scope:Scope} {dV kV doc pm cdv ct oc:Value} {an od:Option Addr} {osl:Array (Option Value)} {as:List AV} {n:Nat} {K:AV→Z→Ds→Prop} (R:Room A (n+1))
 (h:∀ L A',Room A' n→let C:Cx:=⟨w,ρ,A',envOfC qual scope L f cdv⟩;C.Ok→(X C 60).ss body z (((params.args.map (·.arg)).zip as).filter fun p=>scope.names.lookup p.1 == some .local) (cellEs (L+1) scope.names ((params.args.map (·.arg)).zip as)++Δ) (kFn K))
  (ho:List.lookup f (hdp.heap_1_39 w.params)=some ⟨oc,od,.func (fnOf name qual params body scope dV kV doc pm an cdv ct),osl⟩) (hcd:codeIn (hdp.heap_1_39 w.params) cdv qual=true)
  (hbind:∀ args,args.length=as.length→bindArgs (fnOf name qual params body scope dV kV doc pm an cdv ct) ⟨args,[]⟩=pure ((params.args.map (·.arg)).zip args))
  (hloc:∀ x∈params.args.map (·.arg),scope.names.lookup x=some .local∨(scope.names.lookup x=some .cell∧((cellsFrom 0 scope.names []).lookup x).isSome=true)) (hnd:(params.args.map (·.arg)).Nodup)
  (hcn:((cellsFrom 0 scope.names []).map (·.1)).Nodup) (hck:∀ x∈(cellsFrom 0 scope.names []).map (·.1),scope.names.lookup x≠some .local)
  (hco:scope.isCoroutine=false) (hgen:scope.isGenerator=false) (hk:scope.kind=.function):CF w ρ A f as z Δ K:=
  ⟨fun xs hxs E s Q S k=>cfC (m:=((params.args.map (·.arg)).zip as).filter fun p=>scope.names.lookup p.1 == some .local) S ho hcd R (hbind xs hxs.length) hloc (BRel.zip hxs) hnd hcn hck (fun p hp=>by
   refine (?_:_→_) (List.mem_filter.mp hp)
   intro hp
   exact ⟨lk_of_mem (zip_keys_nd hnd) hp.1,eq_of_beq hp.2⟩) (fun L s' A' E' R' S'=>by
   refine (?_:(Cx.Ok ⟨w,ρ,A',envOfC qual scope L f cdv⟩)→_) (⟨hk,rfl,rfl,R'.le (Nat.zero_le _)⟩)
   intro O
   exact (X_ok O.h 60).ss (h L A' R' O) E' s' _ S' fun fl v z' m' Δ' s'' hv t S''=>let ⟨_,hw,t⟩:=t;k _ _ _ _ _ (retA_is hv) t (hw.st S''.tail)) hco hgen hk⟩
section
variable {C:Cx} {z:Z} {m:Loc} {Δ:Ds}
theorem lf_dict0 {pos:Pos} {K:AV→SP} (k:∀ d,K (.v (.ref d)) z m ((d,DictO C.w [])::Δ)):L0 C AV.is (eval (.Dict [] [] pos) C.env) z m Δ K:=⟨fun E s Q S q=>d_new S fun d s' S'=>q _ _ _ _ _ _ is_v (k d) S'⟩
theorem lf_dset {d:Addr} {kv:Loc} {x:Str} {a:AV} {j:Nat} {K:Unit→SP} (hj:Δ[j]?=some (d,DictO C.w kv)) (hz:kv.length≤1000) (k:K () z m (Δ.set j (d,DictO C.w (setl kv x a)))):L3 C uu (fun o i v=>setItem o i v) (.v (.ref d)) (.s x) a z m Δ K:=
 ⟨fun u y v hu hy hv=>by
  cases hu
  exact T.step k fun S q=>d_set S (j:=j+1) hj hy hv hz fun s' S'=>q _ s' trivial S'⟩
theorem lf_max {l:Addr} {ns:List Int} {K:AV→SP} (O:C.Ok) (h:OF z Δ l (ListO (ns.map AV.i))) (hne:ns≠[]) (k:∀ M,M∈ns→(∀ a∈ns,a≤M)→K (.i M) z m Δ):LC C (.v (.builtin "max")) [.v (.ref l)] z m Δ K:=
 lc1 (fun E s Q S q=>b_max S O.r (h.has S) hne fun M t s' h1 h2 S'=>q _ _ _ _ _ _ is_i (k M h1 h2) S')
theorem lf_sum {l:Addr} {ns:List Int} {K:AV→SP} (O:C.Ok) (h:OF z Δ l (ListO (ns.map AV.i))) (k:K (.i ns.sum) z m Δ):LC C (.v (.builtin "sum")) [.v (.ref l)] z m Δ K:=
 lc1 (T.step k fun S q=>b_sum S O.r (h.has S) fun t s' S'=>q _ s' ⟨t,rfl⟩ S')
theorem lf_gmd {d:Addr} {kv:Loc} {n:Str} {id:String} {pl:Sem Bool} {K:AV×List AV→SP} (h:OF z Δ d (DictO C.w kv)) (slot:Slot "dict" n id) (hty:typeOf (.builtin id)=pure (.type "method_descriptor"))
 (k:K (.v (.builtin id),[.v (.ref d)]) z m Δ):L1 C MR (fun v=>getMethod v n pl) (.v (.ref d)) z m Δ K:=
  l1v (fun E s Q S q=>gm_dict (h.has S) slot hty (q _ _ _ _ _ _ ⟨is_v,.cons is_v .nil⟩ k S))
theorem lf_mul {a b:Int} {K:AV→SP} (hm:IntMulOk a b) (k:K (.i (a * b)) z m Δ):L2 C AV.is (binaryOp .Mult) (.i a) (.i b) z m Δ K:=
 ⟨fun x y ⟨t,hx⟩ ⟨t',hy⟩=>by
  subst hx hy
  exact T.step k fun S q=>o_mul S (fun t s' S'=>q _ s' ⟨t,rfl⟩ S') hm⟩
theorem lf_addl {a b:Addr} {as bs:List AV} {K:AV→SP} (ha:OF z Δ a (ListO as)) (hb:OF z Δ b (ListO bs)) (hz:as.length+bs.length≤1000) (k:∀ q,K (.v (.ref q)) z m ((q,ListO (as++bs))::Δ)):L2 C AV.is (binaryOp .Add) (.v (.ref a)) (.v (.ref b)) z m Δ K:=
 l2vv (fun E s Q S kk=>o_addl S (ha.has S) (hb.has S) hz fun q s' S'=>kk _ _ _ _ _ _ is_v (k q) S')
end
structure AtO (w:World) (Cl:Addr) (n:Str):Prop where
 g:plainGet (hdp.heap_1_39 w.params) Cl n=true
 h:hasDictIn (hdp.heap_1_39 w.params) Cl=true
 a:∃ at_,findIn (hdp.heap_1_39 w.params) (.ref Cl) n=some at_∧noGet (hdp.heap_1_39 w.params) at_=true
 s:findIn (hdp.heap_1_39 w.params) (.ref Cl) "__setattr__"=some (some (.builtin "object.__setattr__"))
 p:plainOver (hdp.heap_1_39 w.params) Cl=true
 t:takerIn (hdp.heap_1_39 w.params) Cl n=some none
structure AtS (w:World) (Cl:Addr) (n:Str) (p:Addr) (i:Nat):Prop where
 g:plainGet (hdp.heap_1_39 w.params) Cl n=true
 c:isClsIn (hdp.heap_1_39 w.params) Cl=true
 a:findIn (hdp.heap_1_39 w.params) (.ref Cl) n=some (some (.ref p))
 e:specialIn (hdp.heap_1_39 w.params) (.ref p) "__get__"=some (some (.builtin "member_descriptor.__get__"))
 t:takesIn (hdp.heap_1_39 w.params) (.ref p)=some true
 i:slotIn (hdp.heap_1_39 w.params) p Cl=some i
 s:findIn (hdp.heap_1_39 w.params) (.ref Cl) "__setattr__"=some (some (.builtin "object.__setattr__"))
 o:plainOver (hdp.heap_1_39 w.params) Cl=true
 k:takerIn (hdp.heap_1_39 w.params) Cl n=some (some (.ref p))
 y:typeIn (hdp.heap_1_39 w.params) (.ref p)=some (.type "member_descriptor")
noncomputable def handedA:AV→Bool
 | .v v=>handedIn v
 | _=>true
theorem handedA_ok {a:AV} (h:handedA a=true):∀ v,a.is v→handedIn v=true:=by
 intro v hv
 cases a with
 | v u=>cases hv;exact h
 | i n=>obtain ⟨t,rfl⟩:=hv;rfl
 | s x=>obtain ⟨t,rfl⟩:=hv;rfl
section
variable {C:Cx} {α β:Type} {rel:β→α→Prop} {z:Z} {m:Loc} {Δ:Ds}
theorem Wk.eq {Δ Δ':Ds} (h:Δ=Δ'):Wk Δ Δ':=h▸wkr
theorem L1.wk {f:Value→Sem α} {b:AV} {K:β→SP} {Δ':Ds} (hw:Wk Δ Δ') (h:L1 C rel f b z m Δ' K):L1 C rel f b z m Δ K:=⟨fun x hx=>(h.out x hx).wk hw⟩
theorem lf_ga {x dx Cl:Addr} {n:Str} {mi:Loc} {a:AV} {K:AV→SP} (M:AtO C.w Cl n) (hx:OF z Δ x (InsO Cl dx)) (hd:OF z Δ dx (EntO mi)) (hl:lk mi n=some a) (k:K a z m Δ) (hv:handedA a=true:=by rfl):L1 C AV.is (fun v=>getAttr v n true) (.v (.ref x)) z m Δ K:=
 ⟨fun v hv'=>by
  cases hv'
  obtain ⟨_,h1⟩:=M.a
  refine (?_:_→_→_) h1.1 h1.2
  intro h1 h2
  exact fun E s Q S q=>ga_own S (hx.has S) (hd.has S) M.g M.h h1 h2 hl (handedA_ok hv) fun v s' hv S'=>q _ _ _ _ _ _ hv k S'⟩
theorem lf_sa {x dx Cl:Addr} {n:Str} {mi:Loc} {a:AV} {j:Nat} {K:Unit→SP} (M:AtO C.w Cl n) (hx:OF z Δ x (InsO Cl dx)) (hj:Δ[j]?=some (dx,EntO mi)) (k:K () z m (Δ.set j (dx,EntO (setl mi n a)))) (hz:Nat.ble mi.length 100=true:=by rfl):L2 C uu (fun o v=>setAttr o n v) (.v (.ref x)) a z m Δ K:=
 ⟨fun v u hv' hu=>by
  cases hv'
  exact fun E s Q S q=>sa_own S (hx.has S) hj M.s M.p M.t M.h hu (Nat.le_of_ble_eq_true hz) fun s' S'=>q () _ _ _ _ _ trivial k S'⟩
theorem lf_gs {x dx Cl p:Addr} {n:Str} {as:List (Option AV)} {i:Nat} {a:AV} {K:AV→SP} (M:AtS C.w Cl n p i) (hx:OF z Δ x (SlotO Cl dx as)) (hd:OF z Δ dx (EntO [])) (hl:as[i]?=some (some a)) (k:K a z m Δ) (hv:handedA a=true:=by rfl):L1 C AV.is (fun v=>getAttr v n true) (.v (.ref x)) z m Δ K:=
 ⟨fun v hv'=>by
  cases hv'
  exact fun E s Q S q=>ga_slot S (hx.has S) (hd.has S) M.g M.c M.a M.e M.t M.i hl (handedA_ok hv) fun v s' hv S'=>q _ _ _ _ _ _ hv k S'⟩
theorem lf_ss {x dx Cl p:Addr} {n:Str} {as:List (Option AV)} {i j:Nat} {a:AV} {K:Unit→SP} (M:AtS C.w Cl n p i) (hj:Δ[j]?=some (x,SlotO Cl dx as)) (hd:OF z Δ dx (EntO [])) (k:K () z m (Δ.set j (x,SlotO Cl dx (as.set i (some a))))) (hlt:Nat.blt i as.length=true:=by rfl) (hz:Nat.blt as.length 1000=true:=by rfl):L2 C uu (fun o v=>setAttr o n v) (.v (.ref x)) a z m Δ K:=
 ⟨fun v u hv' hu=>by
  cases hv'
  exact fun E s Q S q=>sa_slot S hj (hd.has S) M.s M.o M.k M.y M.i (Nat.le_of_ble_eq_true hlt) (Nat.le_of_ble_eq_true hz) hu fun s' S'=>q () _ _ _ _ _ trivial k S'⟩
theorem lf_bool {l:Addr} {vs:List AV} {K:AV→SP} (h:OF z Δ l (ListO vs)) (hz:vs.length≤1000000) (k:K (.v (.bool (!vs.isEmpty))) z m Δ):LC C (.v (.type "bool")) [.v (.ref l)] z m Δ K:=
 lc1 (T.step k fun S q=>b_bool S (h.has S) hz fun s' S'=>q _ s' is_v S')
theorem lf_tuple {l:Addr} {vs:List AV} {K:AV→SP} (h:OF z Δ l (ListO vs)) (hz:vs.length≤1000) (k:∀ q z',Sub z z'→Fz z' q (TupO vs)→K (.v (.ref q)) z' m Δ):LC C (.v (.type "tuple")) [.v (.ref l)] z m Δ K:=
 lc1 (fun E s Q S q=>b_tuple S (h.has S) hz fun r z' s' h1 h2 S'=>q _ _ _ _ _ _ is_v (k r z' h1 h2) S')
theorem lf_tlen {l:Addr} {vs:List AV} {K:AV→SP} (h:OF z Δ l (TupO vs)) (hz:vs.length≤1000000) (k:K (.i (.ofNat vs.length)) z m Δ):LC C (.v (.builtin "len")) [.v (.ref l)] z m Δ K:=
 lc1 (T.step k fun S q=>b_tlen S (h.has S) hz fun t s' S'=>q _ s' ⟨t,rfl⟩ S')
theorem lf_clear {l:Addr} {vs:List AV} {j:Nat} {K:AV→SP} (hj:Δ[j]?=some (l,ListO vs)) (hz:vs.length≤1000000) (k:K (.v .none) z m (Δ.set j (l,ListO []))):LC C (.v (.builtin "list.clear")) [.v (.ref l)] z m Δ K:=
 lc1 (by
  refine T.step k @fun E s Q S q=>?_
  obtain ⟨o,e,items,n,rfl,r⟩:=S.at (j+1) hj
  refine call_meets F.slot_list_clear ⟨_,e,rfl⟩ F.entry_list_clear (F.args_list_clear_1 _) (AutoSeq1.list_clear_list_0 l items n (by rw [r.sizeA,sizeLine_eq];exact ar65 hz)) ⟨e,q _ _ is_v ?_⟩
  refine S.upd (t:=s.toks) (j+1) hj fun o' e' B=>?_
  rw [e] at e';cases e'
  refine ⟨⟨#[],_,rfl,.nil⟩,?_⟩
  simp only [Obj.mapSeq,Obj.isFreed])
theorem LC.big {f:AV} {as:List AV} {K:AV→SP} (j:Nat) {a:Addr} {P:OP} (hj:Δ[j]?=some (a,P)) (h:(a == sysModules)=false→LC C f as z m Δ K):LC C f as z m Δ K:=
 ⟨fun x xs hx hxs E s Q S q=>(h (S.big (S.lo (a,P) (.tail _ (List.mem_of_getElem? hj))))).out x xs hx hxs E s Q S q⟩
theorem lf_get {d:Addr} {kv:Loc} {x:Str} {K:AV→SP} (h:OF z Δ d (DictO C.w kv)) (hd:(d == sysModules)=false) (k:K ((lk kv x).getD (.v .none)) z m Δ):LC C (.v (.builtin "dict.get")) [.v (.ref d),.s x] z m Δ K:=
 ⟨fun u xs hx hxs=>by
  cases hx;obtain _ | ⟨hv,_ | ⟨⟨t,rfl⟩,_ | _⟩⟩:=hxs;cases hv
  intro E s Q S q
  refine (let Gl:Prop:=_;(?_:Gl))
  obtain ⟨kvs,ep,h1,h2⟩:=DictO.at (h.has S)
  refine (?_:(s.heap.MapOf (kS C.w) d _)→_) (h1.dictOf.mapOf)
  intro hm
  refine call_meetsIn F.slot_dict_get hm.typeIs F.entry_dict_get (F.args_dict_get_2 _ _) (meets_dict_get (kS C.w) d (kS_is C.w x t) hd) ⟨_,hm,q _ _ _ _ _ _ ?_ k S.toks⟩
  refine (?_:_→_) (h2.at x)
  intro this
  cases e:lk kv x with
  | none=>rw [e] at this;rw [show valueAt kvs x=none from this];rfl
  | some a=>
   rw [e] at this
   obtain ⟨u,h3⟩:=this
   refine (?_:_→_→_) h3.1 h3.2
   intro h3 h4
   rw [h3]
   exact h4⟩
theorem lf_defV1 {w:World} {ρ:Rest} {A:Around} {z:Z} {Δ:Ds} {f:Addr} {name qual:Str} {a1 va:PySem.Arg} {body:List Stmt} {scope:Scope} {kV doc pm cdv ct oc:Value} {an od:Option Addr} {osl:Array (Option Value)} {a:AV} {vs:List AV} {n:Nat} {K:AV→Z→Ds→Prop} (R:Room A (n+1)) (hz:vs.length≤1000)
 (h:∀ L q z' A',Sub z z'→Fz z' q (TupO vs)→Room A' n→let C:Cx:=⟨w,ρ,A',envOf qual scope L f cdv⟩;C.Ok→(X C 60).ss body z' [(a1.arg,a),(va.arg,.v (.ref q))] Δ (kFn K))
  (ho:List.lookup f (hdp.heap_1_39 w.params)=some ⟨oc,od,.func (fnOf name qual ⟨[],[a1],some va,[],[],none,[]⟩ body scope .none kV doc pm an cdv ct),osl⟩) (hcd:codeIn (hdp.heap_1_39 w.params) cdv qual=true)
  (hbind:∀ x vs,bindArgs (fnOf name qual ⟨[],[a1],some va,[],[],none,[]⟩ body scope .none kV doc pm an cdv ct) ⟨x::vs,[]⟩=(newTuple vs >>= fun t=>pure [(a1.arg,x),(va.arg,t)]))
  (hloc:∀ x∈[a1.arg,va.arg],scope.names.lookup x=some .local) (hnd:[a1.arg,va.arg].Nodup)
  (hco:scope.isCoroutine=false) (hgen:scope.isGenerator=false) (hk:scope.kind=.function) (hcell:∀ x∈scope.names,x.2≠.cell):CFV w ρ A f (a::vs) z Δ K:=
  ⟨fun xs hxs E s Q S k=>by
   obtain _ | @⟨_,x,_,xs,hx,hxs⟩:=hxs
   exact cfcV (as:=vs) (bs:=[(a1.arg,x)]) (va:=va.arg) (vs:=xs) (m:=[(a1.arg,a)]) S ho hcd R (hbind x xs) hloc (.cons hx .nil) hnd hxs hz (fun L q z' s' A' E' hz hq R' S'=>by
    refine (?_:(Cx.Ok ⟨w,ρ,A',envOf qual scope L f cdv⟩)→_) (⟨hk,rfl,rfl,R'.le (Nat.zero_le _)⟩)
    intro O
    exact (X_ok O.h 60).ss (h L q z' A' hz hq R' O) E' s' _ S' fun fl v z' m' Δ' s'' hv t S''=>let ⟨_,hw,t⟩:=t;k _ _ _ _ _ (retA_is hv) t (hw.st S''.tail)) hco hgen hk hcell⟩
theorem lf_defV2 {w:World} {ρ:Rest} {A:Around} {z:Z} {Δ:Ds} {f:Addr} {name qual:Str} {a1 a2 va:PySem.Arg} {body:List Stmt} {scope:Scope} {kV doc pm cdv ct oc:Value} {an od:Option Addr} {osl:Array (Option Value)} {a b:AV} {vs:List AV} {n:Nat} {K:AV→Z→Ds→Prop} (R:Room A (n+1)) (hz:vs.length≤1000)
 (h:∀ L q z' A',Sub z z'→Fz z' q (TupO vs)→Room A' n→let C:Cx:=⟨w,ρ,A',envOf qual scope L f cdv⟩;C.Ok→(X C 60).ss body z' [(a1.arg,a),(a2.arg,b),(va.arg,.v (.ref q))] Δ (kFn K))
  (ho:List.lookup f (hdp.heap_1_39 w.params)=some ⟨oc,od,.func (fnOf name qual ⟨[],[a1,a2],some va,[],[],none,[]⟩ body scope .none kV doc pm an cdv ct),osl⟩) (hcd:codeIn (hdp.heap_1_39 w.params) cdv qual=true)
  (hbind:∀ x y vs,bindArgs (fnOf name qual ⟨[],[a1,a2],some va,[],[],none,[]⟩ body scope .none kV doc pm an cdv ct) ⟨x::y::vs,[]⟩=(newTuple vs >>= fun t=>pure [(a1.arg,x),(a2.arg,y),(va.arg,t)]))
  (hloc:∀ x∈[a1.arg,a2.arg,va.arg],scope.names.lookup x=some .local) (hnd:[a1.arg,a2.arg,va.arg].Nodup)
  (hco:scope.isCoroutine=false) (hgen:scope.isGenerator=false) (hk:scope.kind=.function) (hcell:∀ x∈scope.names,x.2≠.cell):CFV w ρ A f (a::b::vs) z Δ K:=
  ⟨fun xs hxs E s Q S k=>by
   obtain _ | @⟨_,x,_,xs,hx,hxs⟩:=hxs
   obtain _ | @⟨_,y,_,xs,hy,hxs⟩:=hxs
   exact cfcV (as:=vs) (bs:=[(a1.arg,x),(a2.arg,y)]) (va:=va.arg) (vs:=xs) (m:=[(a1.arg,a),(a2.arg,b)]) S ho hcd R (hbind x y xs) hloc (.cons hx (.cons hy .nil)) hnd hxs hz (fun L q z' s' A' E' hz hq R' S'=>by
    refine (?_:(Cx.Ok ⟨w,ρ,A',envOf qual scope L f cdv⟩)→_) (⟨hk,rfl,rfl,R'.le (Nat.zero_le _)⟩)
    intro O
    exact (X_ok O.h 60).ss (h L q z' A' hz hq R' O) E' s' _ S' fun fl v z' m' Δ' s'' hv t S''=>let ⟨_,hw,t⟩:=t;k _ _ _ _ _ (retA_is hv) t (hw.st S''.tail)) hco hgen hk hcell⟩
end
section
variable {w:World}
theorem at_n2i:AtO w 130 "_node2info":=⟨by k_is,by k_is,⟨_,by k_is,by k_is⟩,by k_is,by k_is,by k_is⟩
theorem at_rdy:AtO w 130 "_ready_nodes":=⟨by k_is,by k_is,⟨_,by k_is,by k_is⟩,by k_is,by k_is,by k_is⟩
theorem at_npo:AtO w 130 "_npassedout":=⟨by k_is,by k_is,⟨_,by k_is,by k_is⟩,by k_is,by k_is,by k_is⟩
theorem at_nfi:AtO w 130 "_nfinished":=⟨by k_is,by k_is,⟨_,by k_is,by k_is⟩,by k_is,by k_is,by k_is⟩
theorem as_nod:∃ p,AtS w 33 "node" p 0:=⟨_,by k_is,by k_is,by k_is,by k_is,by k_is,by k_is,by k_is,by k_is,by k_is,by k_is⟩
theorem as_npr:∃ p,AtS w 33 "npredecessors" p 1:=⟨_,by k_is,by k_is,by k_is,by k_is,by k_is,by k_is,by k_is,by k_is,by k_is,by k_is⟩
theorem as_suc:∃ p,AtS w 33 "successors" p 2:=⟨_,by k_is,by k_is,by k_is,by k_is,by k_is,by k_is,by k_is,by k_is,by k_is,by k_is⟩
end
section
variable {C:Cx} {α β:Type} {rel:β→α→Prop} {z:Z} {m:Loc} {Δ:Ds}
theorem LF.wk {t:PySem.Expr} {b:List Stmt} {a:AV} {K:Fl→SP} {Δ':Ds} (hw:Wk Δ Δ') (h:LF C t b a z m Δ' K):LF C t b a z m Δ K:=⟨fun v hv E s Q S k=>h.out v hv E s Q (hw.cons.st S) k⟩
theorem lf_as2 {o i v:PySem.Expr} {n:Str} {p1 p2 pos:Pos} {K:Fl→SP} (O:C.Ok) (h:(X C 60).e v z m Δ fun a z m Δ=>(X C 60).e o z m Δ (kBin (X C 60) i fun b c z m Δ=>L3 C uu (fun o i v=>setItem o i v) b c a z m Δ fun d=>stX C n (K .next) a))
 (he:(assignEach [.Subscript o i p1,.Name n p2] C.env).map (·.2)=[assign (.Subscript o i p1) C.env,assign (.Name n p2) C.env]:=by rfl) (hw:swappedStores [.Subscript o i p1,.Name n p2] v C.env=pure none:=by rfl) :
 L0 C Fl.is (exec (.Assign [.Subscript o i p1,.Name n p2] v pos) C.env) z m Δ K:=⟨fun E s Q S k=>
  wpAny_Assign_two ((X_ok O.h 60).e h E s _ S fun a v z m Δ s1 hv t S1=>asg_sub ((X_ok O.h 60).e t E s1 _ S1 fun b u z m Δ s2 hu t2 S2=>(X_ok O.h 60).e t2 E s2 _ S2 fun c i z m Δ s3 hi t3 S3=>
   L3.out t3 u i v hu hi hv E s3 _ S3 fun d d z m Δ s4 d t4 S4=>wpAny_assign_Name (stX_ok O.h t4 v hv E s4 _ S4 fun d d z m Δ s5 d t5 S5=>k _ _ _ _ _ _ Fl.n t5 S5))) he hw⟩
theorem lf_new {f:Value} {pos:Pos} {e:PySem.Expr} {rest:List PySem.Expr} {K:AV→SP} (O:C.Ok) (hk:keepIn (hdp.heap_1_39 C.w.params) f=true) (h:(X C 60).l pos (e::rest) z m Δ fun as z m Δ=>LC C (.v f) as z m Δ K)
 (hp:plainArgs (e::rest)=true:=by rfl):L1 C AV.is (fun f=>callWith pos f [] (backTo pos (starEach (e::rest) C.env)) []) (.v f) z m Δ K:=⟨fun x hx=>by
  cases hx
  intro E s Q S k
  refine (?_:_→_) ((X_ok O.h 60).l h E s (fun vs s₁=>(∃ ρ z Δ,St C.w ρ z Δ s₁)∧wpAny (model PG C.w) C.A (call f ([]++vs)) Q E s₁) S fun as vs z m Δ s' hv t S'=>⟨⟨_,_,_,S'⟩,t.out f vs rfl hv E s' Q S' k⟩)
  intro h2
  obtain ⟨tr,t,e1⟩:=plain_ne (pos:=pos) (env:=C.env) (r:=rest) (Bool.and_eq_true_iff.mp hp).1
  refine (?_:_→_) (plain_star (env:=C.env) (pos:=pos) hp)
  intro hs
  rw [e1] at hs h2 ⊢
  refine callWith_of (P:=fun h=>(hdp.heap_1_39 C.w.params).In h) (by rw [hs];rfl) (keeps_K hk) (evalArgs_plain (wpAny_mono h2 (fun vs s₁ h₁=>?_) fun d d e=>e))
  refine (let g:Prop:=_;(?_:g))
  obtain ⟨⟨ρ,z,Δ,S⟩,h₂⟩:=h₁
  exact ⟨S.K,h₂⟩⟩
structure ClsO (w:World) (Cl fI:Addr):Prop where
 m:makesIn (hdp.heap_1_39 w.params) Cl=true
 i:findIn (hdp.heap_1_39 w.params) (.ref Cl) "__init__"=some (some (.ref fI))
 f:isFn (hdp.heap_1_39 w.params) (.ref fI)=true
theorem initBack {x:Addr} {Q:VP} {E:VP} {r:Result} {s:Shared} (h:RQ (fun v s'=>v=.none∧Q (.ref x) s') E r s):InitBack x (fun r s'=>match r with | .ok (.ret v)=>Q v s' | .ok _=>False | .error e=>E e s') r s:=by
 rcases r with e | f
 ·exact h
 ·cases f <;> exact h
theorem lc_instS {Cl fI:Addr} {as:List AV} {K:AV→SP} (ks:Nat) {n:Nat} (M:ClsO C.w Cl fI) (R:Room C.A (n+1)) (hne:Δ≠[])
 (h:∀ x dx z' A',Sub z z'→Fz z' dx (EntO [])→Room A' n→∀ Δ',CFV C.w C.ρ A' fI (.v (.ref x)::as) z' ((x,SlotO Cl dx (List.replicate ks none))::Δ') fun r z'' Δ''=>∃ B,Δ''=B++Δ'∧r=.v .none∧K (.v (.ref x)) z'' m (B++Δ)):LC C (.v (.ref Cl)) as z m Δ K:=⟨fun f xs hf hxs=>by
  cases hf
  intro E s Q S k
  refine mk_inst S hne M.m M.i M.f fun x dx s S=>?_
  obtain ⟨z1,hz1⟩:=S.freezeJ 1 rfl
  refine (?_:_→_→_→_) hz1.1 hz1.2.1 hz1.2.2
  intro hz1 hnd S
  refine (?_:_→_) (S.weak (P':=SlotO Cl dx (List.replicate ks none)) 1 rfl fun o e=>⟨#[],e,by rw [List.length_replicate];exact Nat.zero_le _,fun i=>by
   rw [List.getElem?_replicate]
   split <;> simp [optIs]⟩)
  intro S
  refine codeAny_mono ((h x dx z1 _ hz1 hnd (R.under (n:=n)) _).out _ (.cons is_v hxs) E s _ (S.perm (List.Perm.swap ..)) fun r v z' Δ'' s' hv t S'=>?_) fun r s'=>initBack
  obtain ⟨B,rfl,rfl,t⟩:=t
  cases hv
  exact ⟨rfl,k _ _ _ _ _ _ is_v t (S'.perm List.perm_middle.symm)⟩⟩
theorem lc_instD {Cl fI:Addr} {as:List AV} {K:AV→SP} {n:Nat} (M:ClsO C.w Cl fI) (R:Room C.A (n+1)) (hne:Δ≠[])
 (h:∀ x dx z' A',Sub z z'→Fz z' x (InsO Cl dx)→Room A' n→∀ Δ',CFV C.w C.ρ A' fI (.v (.ref x)::as) z' ((dx,EntO [])::Δ') fun r z'' Δ''=>∃ B,Δ''=B++Δ'∧r=.v .none∧K (.v (.ref x)) z'' m (B++Δ)):LC C (.v (.ref Cl)) as z m Δ K:=⟨fun f xs hf hxs=>by
  cases hf
  intro E s Q S k
  refine mk_inst S hne M.m M.i M.f fun x dx s S=>?_
  obtain ⟨z1,hz1⟩:=S.freezeJ 0 rfl
  refine (?_:_→_→_→_) hz1.1 hz1.2.1 hz1.2.2
  intro hz1 hx S
  refine codeAny_mono ((h x dx z1 _ hz1 hx (R.under (n:=n)) _).out _ (.cons is_v hxs) E s _ (S.perm (List.Perm.swap ..)) fun r v z' Δ'' s' hv t S'=>?_) fun r s'=>initBack
  obtain ⟨B,rfl,rfl,t⟩:=t
  cases hv
  exact ⟨rfl,k _ _ _ _ _ _ is_v t (S'.perm List.perm_middle.symm)⟩⟩
theorem lf_defI {w:World} {ρ:Rest} {A:Around} {f:Addr} {name qual:Str} {params:Arguments} {body:List Stmt} {scope:Scope} {dV kV doc pm cdv ct oc:Value} {an od:Option Addr} {osl:Array (Option Value)} {as:List AV} {n:Nat} {K:AV→Z→Ds→Prop} (R:Room A (n+1))
 (h:∀ L A',Room A' n→let C:Cx:=⟨w,ρ,A',envOf qual scope L f cdv⟩;C.Ok→(X C 60).ss body z ((params.args.map (·.arg)).zip as) Δ (kFn K))
  (ho:List.lookup f (hdp.heap_1_39 w.params)=some ⟨oc,od,.func (fnOf name qual params body scope dV kV doc pm an cdv ct),osl⟩) (hcd:codeIn (hdp.heap_1_39 w.params) cdv qual=true)
  (hbind:∀ args,args.length=as.length→bindArgs (fnOf name qual params body scope dV kV doc pm an cdv ct) ⟨args,[]⟩=pure ((params.args.map (·.arg)).zip args)) (hloc:∀ x∈params.args.map (·.arg),scope.names.lookup x=some .local) (hnd:(params.args.map (·.arg)).Nodup)
  (hco:scope.isCoroutine=false) (hgen:scope.isGenerator=false) (hk:scope.kind=.function) (hcell:∀ x∈scope.names,x.2≠.cell):CFV w ρ A f as z Δ K:=
  ⟨fun xs hxs E s Q S k=>by
   exact cfc (Rs:=RQ Q E) S ho hcd R (hbind xs hxs.length) hloc (BRel.zip hxs) hnd (fun L s' A' E' R' S'=>by
   refine (?_:(Cx.Ok ⟨w,ρ,A',envOf qual scope L f cdv⟩)→_) (⟨hk,rfl,rfl,R'.le (Nat.zero_le _)⟩)
   intro O
   exact (X_ok O.h 60).ss (h L A' R' O) E' s' _ S' fun fl v z' m' Δ' s'' hv t S''=>let ⟨_,hw,t⟩:=t;k _ _ _ _ _ (retA_is hv) t (hw.st S''.tail)) hco hgen hk hcell⟩
end
theorem nodup_len:∀ {n:Nat} {l:List Nat},l.Nodup→(∀ k∈l,k<n)→l.length≤n
 | 0,l,_,h=>by
  cases l with
  | nil=>simp
  | cons a r=>exact absurd (h a (.head _)) (by exact ar106)
 | n+1,l,hn,h=>by
  refine (?_:((l.erase n).length≤n)→_) (nodup_len (hn.erase n) fun k hk=>by
   have h2:=(List.Nodup.mem_erase_iff hn).mp hk
   refine (?_:_→_) (h k h2.2)
   intro this
   exact ar335 this h2)
  intro h1
  refine (?_:_→_) (List.length_erase_add_one_le n l)
  intro h3
  exact ar281 h3 h1
where
 List.length_erase_add_one_le (n:Nat) (l:List Nat):l.length≤(l.erase n).length+1:=by
  rw [List.length_erase];split <;> omega
theorem nodup_full {n:Nat} {l:List Nat} (hn:l.Nodup) (h:∀ k∈l,k<n) (hl:l.length=n):∀ k,k<n→k∈l:=by
 intro k hk
 apply Classical.byContradiction
 intro hc
 refine (?_:_→_) (nodup_len (n:=n) (l:=k::l) (List.nodup_cons.mpr ⟨hc,hn⟩) (fun x hx=>by rcases List.mem_cons.mp hx with rfl | hx;exact hk;exact h x hx))
 intro this
 simp at this;exact ar230 this hl
section
variable {w:World} {A:Around} {ρ:Rest} {z:Z} {Δ:Ds}
structure Gr where
 order:List Nat
 np:Nat→Nat
 su:Nat→List Nat
structure SA where
 x:Addr
 dx:Addr
 n2i:Addr
 nu:Nat→Addr
 nd:Nat→Addr
 sl:Nat→Addr
noncomputable abbrev SM (n2i:Addr) (r:Value) (p f:Int):Loc:=[("_node2info",.v (.ref n2i)),("_ready_nodes",.v r),("_npassedout",.i p),("_nfinished",.i f)]
noncomputable abbrev nodeO (a:SA) (k:Nat) (n:Int):OP:=SlotO 33 (a.nd k) [some (.s (nm k)),some (.i n),some (.v (.ref (a.sl k)))]
noncomputable abbrev nMap (a:SA) (order:List Nat):Loc:=order.map fun k=>(nm k,.v (.ref (a.nu k)))
noncomputable def nodesE (a:SA) (np:Nat→Nat) (su:Nat→List Nat) (l:List Nat):Ds:=l.flatMap fun k=>[(a.nu k,nodeO a k (np k)),(a.sl k,ListO (nAVs (su k)))]
structure SOk (w:World) (z:Z) (a:SA) (l:List Nat):Prop where
 x:Fz z a.x (InsO 130 a.dx)
 nd:∀ k∈l,Fz z (a.nd k) (EntO [])
 nodup:l.Nodup
 lt:∀ k∈l,k<7
theorem SOk.mono {w:World} {z z':Z} {a:SA} {l:List Nat} (h:SOk w z a l) (hz:Sub z z'):SOk w z' a l:=⟨h.x.mono hz,fun k hk=>(h.nd k hk).mono hz,h.nodup,h.lt⟩
noncomputable abbrev preE (w:World) (a:SA) (g:Gr):Ds:=(a.dx,EntO (SM a.n2i .none 0 0))::(a.n2i,DictO w (nMap a g.order))::nodesE a g.np g.su g.order
theorem nodesE_congr {a a':SA} {np np':Nat→Nat} {su su':Nat→List Nat} {l:List Nat} (h:∀ k∈l,a'.nu k=a.nu k∧a'.nd k=a.nd k∧a'.sl k=a.sl k∧np' k=np k∧su' k=su k):nodesE a' np' su' l=nodesE a np su l:=by
 induction l with
 | nil=>rfl
 | cons k r ih=>
  refine (?_:_→_→_) ((h k (.head _)).1) ((h k (.head _)).2)
  intro h1 h2
  refine (?_:_→_→_→_→_) h2.1 h2.2.1 h2.2.2.1 h2.2.2.2
  intro h2 h3 h4 h5
  unfold nodesE at ih ⊢
  rw [List.flatMap_cons,List.flatMap_cons,ih fun j hj=>h j (.tail _ hj)]
  simp only [nodeO,h1,h2,h3,h4,h5]
theorem nodesE_cons (a:SA) (np:Nat→Nat) (su:Nat→List Nat) (k:Nat) (l:List Nat):nodesE a np su (k::l)=(a.nu k,nodeO a k (np k))::(a.sl k,ListO (nAVs (su k)))::nodesE a np su l:=by
 simp [nodesE]
noncomputable abbrev upd {α:Type} (f:Nat→α) (k:Nat) (x:α):Nat→α:=fun j=>if j=k then x else f j
noncomputable def Gr.touch (g:Gr) (k:Nat):Gr:=if k∈g.order then g else ⟨g.order++[k],upd g.np k 0,upd g.su k []⟩
theorem lk_none {k:Nat} {l:List Nat} {f:Nat→AV} (h:k ∉ l):lk (l.map fun k=>(nm k,f k)) (nm k)=none:=by
 induction l with
 | nil=>rfl
 | cons a r ih=>
  simp only [List.mem_cons,not_or] at h
  rw [List.map_cons];unfold lk
  rw [if_neg (fun e=>h.1 (nm_inj e))]
  exact ih h.2
theorem setl_new {m:Loc} {x:Str} {a:AV} (h:lk m x=none):setl m x a=m++[(x,a)]:=by
 induction m with
 | nil=>rfl
 | cons p r ih=>
  refine (?_:_→_) (p.1)
  intro k
  refine (?_:_→_) (p.2)
  intro b
  unfold lk at h
  split at h
  ·cases h
  ·rename_i q
   unfold setl
   rw [if_neg q,ih h];rfl
noncomputable def Gr.bump (g:Gr) (k n:Nat):Gr:=⟨g.order,upd g.np k (g.np k+n),g.su⟩
noncomputable def Gr.wait (g:Gr) (k p:Nat):Gr:=let h:=g.touch p;⟨h.order,h.np,upd h.su p (h.su p++[k])⟩
noncomputable def Gr.add (g:Gr) (k:Nat) (l:List Nat):Gr:=l.foldl (fun g p=>g.wait k p) ((g.touch k).bump k l.length)
theorem touch_mem (g:Gr) (k:Nat):k∈(g.touch k).order:=by
 unfold Gr.touch;split
 ·assumption
 ·simp
theorem touch_sub (g:Gr) (k j:Nat) (h:j∈g.order):j∈(g.touch k).order:=by
 unfold Gr.touch;split
 ·exact h
 ·simp [h]
theorem touch_len {g:Gr} {B:Nat} (h:∀ j,(g.su j).length≤B) (p j:Nat):((g.touch p).su j).length≤B:=by
 unfold Gr.touch;split
 ·exact h j
 ·simp only [upd];split
  ·exact Nat.zero_le _
  ·exact h j
theorem wait_len {g:Gr} {B:Nat} (h:∀ j,(g.su j).length≤B) (k p j:Nat):((g.wait k p).su j).length≤B+1:=by
 simp only [Gr.wait,upd];split
 ·have:=touch_len h p p;simp;exact ar8 this
 ·have:=touch_len h p j;exact ar18 this
theorem waits_len {k:Nat}:∀ {d:List Nat} {g:Gr} {B:Nat},(∀ j,(g.su j).length≤B)→∀ j,((d.foldl (fun g p=>g.wait k p) g).su j).length≤B+d.length
 | [],g,B,h,j=>h j
 | p::d,g,B,h,j=>by
  refine (?_:_→_) (waits_len (k:=k) (d:=d) (wait_len h k p) j)
  intro this
  simp only [List.foldl_cons,List.length_cons];exact ar80 this
theorem nodesE_ix {a:SA} {k:Nat}:∀ {l:List Nat},k∈l→l.Nodup→∃ i,∀ np su (Y:Ds),(nodesE a np su l++Y)[i]?=some (a.nu k,nodeO a k (np k))∧(nodesE a np su l++Y)[i+1]?=some (a.sl k,ListO (nAVs (su k))) ∧
 (∀ np',(∀ j,j≠k→np' j=np j)→(nodesE a np su l++Y).set i (a.nu k,nodeO a k (np' k))=nodesE a np' su l++Y)∧(∀ su',(∀ j,j≠k→su' j=su j)→(nodesE a np su l++Y).set (i+1) (a.sl k,ListO (nAVs (su' k)))=nodesE a np su' l++Y)
  | b::r,hk,hn=>by
   refine (?_:_→_) (List.nodup_cons.mp hn)
   intro hn'
   by_cases e:b=k
   ·subst e
    have hr:∀ j∈r,j≠b:=fun j hj e=>hn'.1 (e▸hj)
    refine ⟨0,fun np su Y=>?_⟩
    rw [nodesE_cons]
    refine ⟨rfl,rfl,fun np' h=>?_,fun su' h=>?_⟩
    ·rw [nodesE_cons,nodesE_congr fun j hj=>⟨rfl,rfl,rfl,h j (hr j hj),rfl⟩];rfl
    ·rw [nodesE_cons,nodesE_congr fun j hj=>⟨rfl,rfl,rfl,rfl,h j (hr j hj)⟩];rfl
   ·refine (?_:(k∈r)→_) (by
     rcases List.mem_cons.mp hk with q | q
     ·exact absurd q.symm e
     ·exact q)
    intro hk'
    obtain ⟨i,hi⟩:=nodesE_ix (a:=a) hk' hn'.2
    refine ⟨i+2,fun np su Y=>?_⟩
    refine (?_:_→_→_) ((hi np su Y).1) ((hi np su Y).2)
    intro h1 h2
    refine (?_:_→_→_→_) h2.1 h2.2.1 h2.2.2
    intro h2 h3 h4
    rw [nodesE_cons]
    refine ⟨h1,h2,fun np' h=>?_,fun su' h=>?_⟩
    ·rw [nodesE_cons,h b e];exact congrArg (_::_::·) (h3 np' h)
    ·rw [nodesE_cons,h b e];exact congrArg (_::_::·) (h4 su' h)
theorem cls_node:ClsO w 33 29:=⟨by k_is,by k_is,by k_is⟩
theorem new_node_T {x dx:Addr} {k:Nat} {K:AV→Z→Ds→Prop} (hnd:Fz z dx (EntO [])) (R:Room A 1) (h:∀ sl,K (.v .none) z ((x,SlotO 33 dx [some (.s (nm k)),some (.i 0),some (.v (.ref sl))])::(sl,ListO [])::Δ)) :
 CFV w ρ A 29 [.v (.ref x),.s (nm k)] z ((x,SlotO 33 dx [none,none,none])::Δ) K:=by
  refine lf_defI (by assumption) ?_ (by k_is) (by k_is) (by first | exact args1 fun c=>rfl | exact args2 fun c c=>rfl | exact args3 fun c c c=>rfl | exact args4 fun c c c c=>rfl) (by decide) (by decide) (by rfl) (by rfl) (by rfl) (by decide)
  intro L A' R C O
  refine (let Gl:Prop:=_;(?_:Gl))
  obtain ⟨_,M0⟩:=as_nod (w:=w)
  obtain ⟨_,M1⟩:=as_npr (w:=w)
  obtain ⟨_,M2⟩:=as_suc (w:=w)
  refine lf_ss M0 (j:=0) rfl (.fz hnd) ?_
  refine lf_ss M1 (j:=0) rfl (.fz hnd) ?_
  refine fun sl=>?_
  refine lf_ss M2 (j:=1) rfl (.fz hnd) ?_
  exact kFn_i (m:=[]) _ (Wk.pick 2 [1,0] rfl) (h sl)
theorem get_nodeinfo_T {a:SA} {g:Gr} {k:Nat} {K:AV→Z→Ds→Prop} (ok:SOk w z a g.order) (hk:k<7) (R:Room A 5)
 (h:∀ a' z',a'.x=a.x→a'.dx=a.dx→a'.n2i=a.n2i→Sub z z'→SOk w z' a' (g.touch k).order→K (.v (.ref (a'.nu k))) z' (preE w a' (g.touch k)++Δ)):CF w ρ A 73 [.v (.ref a.x),.s (nm k)] z (preE w a g++Δ) K:=by
  refine lf_def (by assumption) ?_ (by k_is) (by k_is) (by first | exact args1 fun c=>rfl | exact args2 fun c c=>rfl | exact args3 fun c c c=>rfl | exact args4 fun c c c c=>rfl) (by decide) (by decide) (by rfl) (by rfl) (by rfl) (by decide)
  intro L A' R C O
  refine ⟨lf_ga at_n2i (.fz ok.x) (.own 0 rfl) rfl (lf_gmd (.own 1 rfl) PySem.F.slot_dict_get PySem.F.type_dict_get (LC.big 1 rfl fun hb=>lf_get (.own 1 rfl) hb ?_))⟩
  by_cases hin:k∈g.order
  ·rw [lk_names hin]
   refine lf_isn (it_f rfl ?_)
   refine (?_:(g.touch k=g)→_) (if_pos hin)
   intro e2
   refine (?_:_→_) (h a z rfl rfl rfl (.refl z))
   intro h
   rw [e2] at h
   exact kFn_i (m:=[]) _ wkr (h ok)
  ·refine (?_:(lk (nMap a g.order) (nm k)=none)→_) (lk_none hin)
   intro e1
   rw [e1]
   refine lf_isn (it_t rfl ?_)
   refine lf_as2 O ?_
   refine ⟨lf_new O (by k_is) ?_,rfl⟩
   refine lc_instS 3 (n:=1) cls_node (R.le (by decide)) (List.cons_ne_nil _ _) fun nu nd z1 A2 hz1 hnd R2 Δ'=>new_node_T hnd R2 fun sl=>⟨[(nu,SlotO 33 nd [some (.s (nm k)),some (.i 0),some (.v (.ref sl))]),(sl,ListO [])],rfl,rfl,?_⟩
   refine lf_ga at_n2i (.fz (ok.x.mono hz1)) (.own 2 rfl) rfl (lf_dset (j:=3) rfl (by rw [List.length_map];exact Nat.le_trans (nodup_len ok.nodup ok.lt) (by decide)) ?_)
   refine (?_:(∀ j∈g.order,j≠k)→_) (fun j hj e=>hin (e▸hj))
   intro hne
   refine (?_:(g.touch k=⟨g.order++[k],upd g.np k 0,upd g.su k []⟩)→_) (if_neg hin)
   intro e2
   obtain ⟨a',ha'⟩:∃ a':SA,a'=⟨a.x,a.dx,a.n2i,upd a.nu k nu,upd a.nd k nd,upd a.sl k sl⟩:=⟨_,rfl⟩
   refine (?_:(a'.nu k=nu)→_) (by rw [ha'];exact if_pos rfl)
   intro g1
   have g2:a'.nd k=nd:=by rw [ha'];exact if_pos rfl
   refine (?_:(a'.sl k=sl)→_) (by rw [ha'];exact if_pos rfl)
   intro g3
   have g4:∀ j,j≠k→a'.nu j=a.nu j∧a'.nd j=a.nd j∧a'.sl j=a.sl j:=fun j hj=>by rw [ha'];exact ⟨if_neg hj,if_neg hj,if_neg hj⟩
   refine (?_:(a'.x=a.x)→_) (by rw [ha'])
   intro gx
   refine (?_:(a'.dx=a.dx)→_) (by rw [ha'])
   intro gd
   refine (?_:(a'.n2i=a.n2i)→_) (by rw [ha'])
   intro gn
   refine (?_:_→_) (h a' z1 gx gd gn hz1)
   intro h
   rw [e2,g1] at h
   refine kFn_i (m:=[]) _ (.perm ?_) (h ⟨by rw [gx,gd];exact ok.x.mono hz1,fun j hj=>?_,?_,?_⟩)
   ·refine (?_:(nMap a' (g.order++[k])=setl (nMap a g.order) (nm k) (.v (.ref nu)))→_) (by
     rw [setl_new e1]
     show List.map _ (g.order++[k])=_
     rw [List.map_append,List.map_cons,g1]
     exact congrArg (·++_) (List.map_congr_left fun j hj=>by rw [(g4 j (hne j hj)).1]))
    intro e3
    refine (?_:(nodesE a' (upd g.np k 0) (upd g.su k []) (g.order++[k])=nodesE a g.np g.su g.order++[(nu,SlotO 33 nd [some (.s (nm k)),some (.i 0),some (.v (.ref sl))]),(sl,ListO [])])→_) (by
     unfold nodesE
     rw [List.flatMap_append]
     refine congr (congrArg HAppend.hAppend (nodesE_congr fun j hj=>⟨(g4 j (hne j hj)).1,(g4 j (hne j hj)).2.1,(g4 j (hne j hj)).2.2,if_neg (hne j hj),if_neg (hne j hj)⟩)) ?_
     rw [List.flatMap_cons,List.flatMap_nil,List.append_nil,nodeO,g1,g2,g3,show upd g.np k 0 k=0 from if_pos rfl,show upd g.su k [] k=[] from if_pos rfl];rfl)
    intro e4
    show ((a'.dx,EntO (SM a'.n2i .none 0 0))::(a'.n2i,DictO w (nMap a' (g.order++[k])))::(nodesE a' (upd g.np k 0) (upd g.su k []) (g.order++[k])++Δ)).Perm ((nu,SlotO 33 nd [some (.s (nm k)),some (.i 0),some (.v (.ref sl))])::(sl,ListO [])::(a.dx,EntO (SM a.n2i .none 0 0))::(a.n2i,DictO w (setl (nMap a g.order) (nm k) (.v (.ref nu))))::(nodesE a g.np g.su g.order++Δ))
    rw [e3,e4,gd,gn,List.append_assoc]
    exact (List.perm_append_comm_assoc (_::_::nodesE a g.np g.su g.order) [_,_] Δ)
   ·rcases List.mem_append.mp hj with hj | hj
    ·rw [(g4 j (hne j hj)).2.1];exact (ok.nd j hj).mono hz1
    ·cases List.mem_singleton.mp hj;rw [g2];exact hnd
   ·rw [List.nodup_append];exact ⟨ok.nodup,by simp,fun x hx y hy=>by cases List.mem_singleton.mp hy;exact hne x hx⟩
   ·intro j hj
    rcases List.mem_append.mp hj with hj | hj
    ·exact ok.lt j hj
    ·cases List.mem_singleton.mp hj;exact hk
structure AdS where
 a:SA
 z:Z
 d:List Nat
structure AdI (w:World) (a:SA) (G:List Nat→Gr) (d:List Nat) (y:AdS):Prop where
 x:y.a.x=a.x
 dx:y.a.dx=a.dx
 n:y.a.n2i=a.n2i
 ok:SOk w y.z y.a (G d).order
 d:y.d=d
theorem m_gni:Meth w 130 "_get_nodeinfo" 73:=⟨by k_is,by k_is,by k_is⟩
theorem add_T {a:SA} {g:Gr} {k:Nat} {l:List Nat} {K:AV→Z→Ds→Prop} (ok:SOk w z a g.order) (hk:k<7) (hl:∀ p∈l,p<7) (hz:l.length≤100) (hsu:∀ j,(g.su j).length≤500) (R:Room A 6)
 (h:∀ a' z',a'.x=a.x→a'.dx=a.dx→a'.n2i=a.n2i→Sub z z'→SOk w z' a' (g.add k l).order→K (.v .none) z' (preE w a' (g.add k l)++Δ)):CFV w ρ A 80 (.v (.ref a.x)::.s (nm k)::nAVs l) z (preE w a g++Δ) K:=by
  refine lf_defV2 (by assumption) ?hz ?_ (by k_is) (by k_is) (by exact fun c c vs=>by cases vs <;> rfl) (by decide) (by decide) (by rfl) (by rfl) (by rfl) (by decide)
  case hz=>rw [List.length_map];exact ar45 hz
  intro L q z1 A' hz1 hq R C O
  have hx:=ok.x.mono hz1
  obtain ⟨pn,Mn⟩:=as_npr (w:=w)
  obtain ⟨ps,Ms⟩:=as_suc (w:=w)
  refine ⟨lf_ga at_rdy (.fz hx) (.own 0 rfl) rfl (lf_isnn (it_f rfl ?_))⟩
  refine lf_gmi m_gni (.fz hx) (.own 0 rfl) rfl ?_
  refine lc_blk 0 (B:=preE w a g) rfl fun Δ'=>get_nodeinfo_T (ok.mono hz1) hk R fun a1 z2 e1 e2 e3 hz2 ok1=>⟨_,rfl,?_⟩
  obtain ⟨i,hi⟩:=nodesE_ix (a:=a1) (touch_mem g k) ok1.nodup
  refine (?_:_→_) (ok1.nd k (touch_mem g k))
  intro hnd
  refine lf_gs Mn (.own (i+2) (hi _ _ _).1) (.fz hnd) rfl (lf_tlen (.fz (hq.mono hz2)) (by rw [List.length_map];exact ar50 hz) ?_)
  refine lf_ss Mn (j:=i+2) (hi _ _ _).1 (.fz hnd) ?_
  refine (?_:(((g.touch k).bump k l.length).np k=(g.touch k).np k+l.length)→_) (if_pos rfl)
  intro hb
  refine (?_:_→_) ((hi (g.touch k).np (g.touch k).su Δ).2.2.1 ((g.touch k).bump k l.length).np fun j hj=>if_neg hj)
  intro hset
  rw [hb] at hset
  refine LF.wk (Δ':=preE w a1 ((g.touch k).bump k l.length)++Δ) (Wk.eq ?_) ?_
  ·refine congrArg (_::_::·) (Eq.trans ?_ hset)
   rw [List.length_map];rfl
  refine lf_for0 (σ:=AdS) (up:=fun k m=>setl m "pred" (.s (nm k))) (·.z) (fun c=>[("self",.v (.ref a.x)),("node",.s (nm k)),("predecessors",.v (.ref q)),("nodeinfo",.v (.ref (a1.nu k)))]) (fun y=>preE w y.a (y.d.foldl (fun g p=>g.wait k p) ((g.touch k).bump k l.length))++Δ)
   (fun d c y=>AdI w a (fun d=>d.foldl (fun g p=>g.wait k p) ((g.touch k).bump k l.length)) d y) O ⟨a1,z2,[]⟩ (src_tup (hq.mono hz2) (fun c h=>nAVs_pr h) fun c c N=>Its.n N rfl rfl) ⟨e1,e2,e3,ok1,rfl⟩ ?turn ?fin [] rfl rfl
  case turn=>
   intro zg mg Δg Ig Kg d p rr y hd hz3 hI J Kf F
   obtain ⟨f1,f2,f3,ok2,rfl⟩:=hI
   refine (?_:(p<7)→_) (hl p (hd▸List.mem_append_right _ (.head _)))
   intro hp
   refine (?_:_→_) (ok2.x)
   intro hx
   rw [f1] at hx
   refine L1.wk (Wk.eq (congrArg (_::_::·) (List.append_assoc ..))) ?_
   refine lf_gmi m_gni (.fz hx) (.own 0 rfl) rfl ?_
   rw [← f1]
   refine lc_blk 0 (B:=preE w y.a (y.d.foldl (fun g p=>g.wait k p) ((g.touch k).bump k l.length))) rfl fun Δ'=>get_nodeinfo_T ok2 hp (R.le (by decide)) fun a3 z4 g1 g2 g3 hz4 ok3=>⟨_,rfl,?_⟩
   obtain ⟨i,hi⟩:=nodesE_ix (a:=a3) (touch_mem (y.d.foldl (fun g p=>g.wait k p) ((g.touch k).bump k l.length)) p) ok3.nodup
   refine (?_:_→_) (ok3.nd p (touch_mem _ p))
   intro hnd
   refine lf_gs Ms (.own (i+2) (hi _ _ _).1) (.fz hnd) rfl (lf_gml (.own (i+3) (hi _ _ _).2.1) PySem.F.slot_list_append PySem.F.type_list_append ?_)
   refine lf_append (j:=i+3) (hi _ _ _).2.1 ?_ ?_
   ·refine (?_:(∀ j,(((g.touch k).bump k l.length).su j).length≤500)→_) (fun j=>touch_len hsu k j)
    intro h1
    refine (?_:_→_) (touch_len (waits_len (k:=k) (d:=y.d) h1) p p)
    intro h2
    refine (?_:(y.d.length≤l.length)→_) (by rw [← hd];simp)
    intro h3
    rw [List.length_map];exact ar360 h2 h3 hz
   refine (?_:((y.d++[p]).foldl (fun g p=>g.wait k p) ((g.touch k).bump k l.length)=(y.d.foldl (fun g p=>g.wait k p) ((g.touch k).bump k l.length)).wait k p)→_) (List.foldl_append ..)
   intro e6
   refine F.nx ⟨a3,z4,y.d++[p]⟩ _ (Wk.eq ?_) hz4 ⟨g1.trans f1,g2.trans f2,g3.trans f3,by rw [e6];exact ok3,rfl⟩
   show _=preE w a3 ((y.d++[p]).foldl _ _)++Δ++J
   rw [e6]
   refine (?_:(nAVs (((y.d.foldl (fun (g:Gr) (p:Nat)=>g.wait k p) ((g.touch k).bump k l.length)).wait k p).su p)=nAVs (((y.d.foldl (fun (g:Gr) (p:Nat)=>g.wait k p) ((g.touch k).bump k l.length)).touch p).su p)++[AV.s (nm k)])→_) (by
    rw [show ((y.d.foldl (fun (g:Gr) (p:Nat)=>g.wait k p) ((g.touch k).bump k l.length)).wait k p).su p=((y.d.foldl (fun (g:Gr) (p:Nat)=>g.wait k p) ((g.touch k).bump k l.length)).touch p).su p++[k] from if_pos rfl];exact List.map_append ..)
   intro hw
   refine (?_:_→_) ((hi ((y.d.foldl (fun (g:Gr) (p:Nat)=>g.wait k p) ((g.touch k).bump k l.length)).touch p).np ((y.d.foldl (fun (g:Gr) (p:Nat)=>g.wait k p) ((g.touch k).bump k l.length)).touch p).su (Δ++J)).2.2.2 ((y.d.foldl (fun (g:Gr) (p:Nat)=>g.wait k p) ((g.touch k).bump k l.length)).wait k p).su fun j hj=>if_neg hj)
   intro hset
   rw [hw] at hset
   exact congrArg (_::_::·) (hset.trans (List.append_assoc ..).symm)
  case fin=>
   intro y hz3 hI
   obtain ⟨f1,f2,f3,ok2,hd⟩:=hI
   refine (?_:_→_) (h y.a y.z f1 f2 f3 ((hz1.trans hz2).trans hz3) ok2)
   intro h
   rw [show g.add k l=y.d.foldl (fun g p=>g.wait k p) ((g.touch k).bump k l.length) from by rw [hd];rfl] at h
   exact kFn_i (m:=[]) _ wkr h
end
noncomputable abbrev g0:Gr:=⟨[],fun a=>0,fun a=>[]⟩
noncomputable def Unt (g:Gr):Prop:=∀ k,k ∉ g.order→g.np k=0∧g.su k=[]
theorem touch_same {g:Gr} (h:Unt g) (k:Nat):(g.touch k).np=g.np∧(g.touch k).su=g.su:=by
 unfold Gr.touch
 split
 ·exact ⟨rfl,rfl⟩
 ·rename_i hk
  refine (?_:_→_→_) ((h k hk).1) ((h k hk).2)
  intro h1 h2
  constructor
  ·funext j;simp only [upd];split
   ·rename_i q;rw [q,h1]
   ·rfl
  ·funext j;simp only [upd];split
   ·rename_i q;rw [q,h2]
   ·rfl
theorem touch_unt {g:Gr} (h:Unt g) (k:Nat):Unt (g.touch k):=by
 intro j hj
 rw [(touch_same h k).1,(touch_same h k).2]
 exact h j fun q=>hj (touch_sub g k j q)
theorem wait_unt {g:Gr} (h:Unt g) (k p:Nat):Unt (g.wait k p)∧(g.wait k p).np=g.np∧∀ j x,((g.wait k p).su j).count x=(g.su j).count x+if x=k∧j=p then 1 else 0:=by
 refine (?_:_→_) (touch_same h p)
 intro hs
 refine ⟨fun j hj=>?_,hs.1,fun j x=>?_⟩
 ·refine (?_:(j ∉ (g.touch p).order)→_) (hj)
  intro hj
  refine (?_:(j≠p)→_) (fun q=>hj (q▸touch_mem g p))
  intro hjp
  refine (?_:_→_→_) ((touch_unt h p j hj).1) ((touch_unt h p j hj).2)
  intro h1 h2
  refine ⟨h1,?_⟩
  show upd _ _ _ j=_
  simp only [upd,hjp,if_false];exact h2
 ·show (upd (g.touch p).su p ((g.touch p).su p++[k]) j).count x=_
  simp only [upd]
  split
  ·rename_i q
   subst q
   rw [hs.2,List.count_append,List.count_singleton]
   by_cases e:x=k <;> simp [e]
   intro q;exact absurd q.symm e
  ·rename_i q;rw [hs.2];simp [q]
theorem waits_unt {k:Nat}:∀ {l:List Nat} {g:Gr},Unt g→Unt (l.foldl (fun g p=>g.wait k p) g)∧(l.foldl (fun g p=>g.wait k p) g).np=g.np∧∀ j x,((l.foldl (fun g p=>g.wait k p) g).su j).count x=(g.su j).count x+if x=k then l.count j else 0
 | [],g,h=>⟨h,rfl,fun j x=>by simp⟩
 | p::l,g,h=>by
  refine (?_:_→_→_→_) ((wait_unt h k p).1) ((wait_unt h k p).2.1) ((wait_unt h k p).2.2)
  intro h1 h2 h3
  refine (?_:_→_→_→_) ((waits_unt (k:=k) (l:=l) h1).1) ((waits_unt (k:=k) (l:=l) h1).2.1) ((waits_unt (k:=k) (l:=l) h1).2.2)
  intro g1 g2 g3
  refine ⟨g1,g2.trans h2,fun j x=>?_⟩
  rw [List.foldl_cons,g3 j x,h3 j x,List.count_cons]
  by_cases e:x=k
  ·by_cases q:j=p
   ·simp [e,q];exact ar205
   ·refine (?_:((p == j)=false)→_) (by simpa using fun x=>q x.symm)
    intro this
    simp [e,q,this]
  ·simp [e]
theorem waits_ord {k:Nat}:∀ {l:List Nat} {g:Gr} {x:Nat},x∈g.order→x∈(l.foldl (fun g p=>g.wait k p) g).order
 | [],g,x,h=>h
 | p::l,g,x,h=>waits_ord (l:=l) (touch_sub g p x h)
theorem add_unt {g:Gr} (h:Unt g) (k:Nat) (l:List Nat):Unt (g.add k l)∧(g.add k l).np=upd g.np k (g.np k+l.length)∧(∀ j x,((g.add k l).su j).count x=(g.su j).count x+if x=k then l.count j else 0)∧(∀ x∈g.order,x∈(g.add k l).order)∧k∈(g.add k l).order:=by
 refine (?_:_→_) (touch_unt h k)
 intro ht
 refine (?_:_→_) (touch_same h k)
 intro hs
 have hb:Unt ((g.touch k).bump k l.length):=fun j hj=>by
  refine (?_:(j≠k)→_) (fun q=>hj (q▸touch_mem g k))
  intro hjk
  refine (?_:_→_→_) ((ht j hj).1) ((ht j hj).2)
  intro h1 h2
  refine ⟨?_,h2⟩
  show upd _ _ _ j=0
  simp only [upd,hjk,if_false];exact h1
 refine (?_:_→_→_→_) ((waits_unt (k:=k) (l:=l) hb).1) ((waits_unt (k:=k) (l:=l) hb).2.1) ((waits_unt (k:=k) (l:=l) hb).2.2)
 intro g1 g2 g3
 refine ⟨g1,?_,fun j x=>?_,fun x hx=>waits_ord (touch_sub g k x hx),waits_ord (touch_mem g k)⟩
 ·rw [show (g.add k l).np=_ from g2]
  show upd (g.touch k).np k ((g.touch k).np k+l.length)=_
  rw [hs.1]
 ·refine (?_:_→_) (g3 j x)
  intro this
  rw [show ((g.touch k).bump k l.length).su=g.su from hs.2] at this
  exact this
noncomputable def gOf (wt:Nat→List Nat):Nat→Gr
 | 0=>g0
 | n+1=>(gOf wt n).add n (wt n)
theorem gOf_spec (wt:Nat→List Nat):∀ n,Unt (gOf wt n)∧(∀ k,(gOf wt n).np k=if k<n then (wt k).length else 0)∧(∀ j x,((gOf wt n).su j).count x=if x<n then (wt x).count j else 0)∧∀ k,k<n→k∈(gOf wt n).order
 | 0=>⟨fun k a=>⟨rfl,rfl⟩,fun k=>by simp [gOf],fun j x=>by simp [gOf],fun k h=>absurd h (Nat.not_lt_zero k)⟩
 | n+1=>by
  refine (let Gl:Prop:=_;(?_:Gl))
  obtain ⟨h1,h2,h3,h4⟩:=gOf_spec wt n
  obtain ⟨g1,g2,g3,g4,g5⟩:=add_unt h1 n (wt n)
  refine ⟨g1,fun k=>?_,fun j x=>?_,fun k hk=>?_⟩
  ·show ((gOf wt n).add n (wt n)).np k=_
   rw [g2]
   simp only [upd]
   by_cases q:k=n
   ·subst q;rw [if_pos rfl,h2 k];simp
   ·rw [if_neg q,h2 k]
    by_cases c:k<n
    ·rw [if_pos c,if_pos (by exact ar4 c)]
    ·rw [if_neg c,if_neg (by exact ar73 c q)]
  ·show (((gOf wt n).add n (wt n)).su j).count x=_
   rw [g3 j x,h3 j x]
   by_cases q:x=n
   ·subst q;simp
   ·rw [if_neg q]
    by_cases c:x<n
    ·rw [if_pos c,if_pos (by exact ar4 c)];exact ar111
    ·rw [if_neg c,if_neg (by exact ar73 c q)]
  ·rcases Nat.lt_or_ge k n with c | c
   ·exact g4 k (h4 k c)
   ·obtain rfl:k=n:=by exact ar232 hk c
    exact g5
section
variable {w:World} {A:Around} {ρ:Rest} {z:Z} {Δ:Ds}
noncomputable def moreOf (J:Jobs) (fl:List Nat):List Nat:=(List.range 7).filter fun k=>!decide (k∈fl) && (J k).waits.all fun x=>decide (x∈fl)
structure FreeSpec (J:Jobs) (fl:List Nat):Prop where
 nd:fl.Nodup
 lt:∀ k∈fl,k<7
 topo:∀ (i:Nat) k,fl[i]?=some k→∀ x∈(J k).waits,x∈fl.take i
 closed:moreOf J fl=[]
structure FreePre (J:Jobs) (fl:List Nat):Prop where
 nd:fl.Nodup
 lt:∀ k∈fl,k<7
 topo:∀ (i:Nat) k,fl[i]?=some k→∀ x∈(J k).waits,x∈fl.take i
theorem FreePre.len {J:Jobs} {fl:List Nat} (h:FreePre J fl):fl.length≤7:=by
 exact nodup_len h.nd h.lt
theorem FreePre.step {J:Jobs} {fl:List Nat} (h:FreePre J fl):FreePre J (fl++moreOf J fl):=by
 have hm:∀ k∈moreOf J fl,k<7∧k ∉ fl∧∀ x∈(J k).waits,x∈fl:=by
  intro k hk
  refine (?_:_→_→_) ((List.mem_filter.mp hk).1) ((List.mem_filter.mp hk).2)
  intro h1 h2
  simp at h1 h2
  exact ⟨h1,h2⟩
 refine ⟨?_,?_,?_⟩
 ·rw [List.nodup_append]
  refine ⟨h.nd,List.nodup_range.filter _,?_⟩
  rintro a ha b hb rfl
  exact (hm a hb).2.1 ha
 ·intro k hk
  rcases List.mem_append.mp hk with hk | hk
  ·exact h.lt k hk
  ·exact (hm k hk).1
 ·intro i k hi x hx
  rw [List.getElem?_append] at hi
  split at hi
  ·rename_i hlt
   rw [List.take_append_of_le_length (Nat.le_of_lt hlt)]
   exact h.topo i k hi x hx
  ·rename_i hge
   refine (?_:_→_) ((hm k (List.mem_of_getElem? hi)).2.2 x hx)
   intro this
   rw [List.take_append]
   exact List.mem_append_left _ (by rw [List.take_of_length_le (by exact ar5 hge)];exact this)
theorem law_free_T {J:Jobs} (hJ:JOk J) {a:Addr} {K:AV→Z→Ds→Prop} (hj:JobsAt w z J a) (R:Room A 2) (k:∀ q fl,FreeSpec J fl→K (.v (.ref q)) z ((q,ListO (nAVs fl))::Δ)):CF w ρ A 179 [.v (.ref a)] z Δ K:=by
 obtain ⟨ts,ws,hjd,hjk⟩:=hj
 refine lf_defC (by assumption) ?_ (by k_is) (by k_is) (by first | exact args1 fun c=>rfl | exact args2 fun c c=>rfl | exact args3 fun c c c=>rfl | exact args4 fun c c c c=>rfl) (by decide) (by decide) (by decide) (by decide) (by rfl) (by rfl) (by rfl)
 intro L A' R C O
 refine lf_tas O rfl rfl ?_
 refine fun q=>?_
 refine lf_stc O 1 rfl ?_
 refine lf_while (σ:=List Nat×Bool×Addr) (fun c=>z) (fun x=>[("grown",.v (.bool x.2.1))]) (fun x=>(x.2.2,ListO (nAVs x.1))::(L+1+1,CellO (some (.v (.ref x.2.2))))::(L+1,CellO (some (.v (.ref a))))::Δ)
  (fun x=>FreePre J x.1∧(x.2.1=false→moreOf J x.1=[])) (fun x=>(8 - x.1.length)+(if x.2.1 then 1 else 0)) O ([],true,q) ⟨⟨.nil,fun c h=>(List.not_mem_nil h).elim,fun i k h=>by cases h⟩,fun h=>by cases h⟩ ?turn [] rfl rfl wkr
 intro zf mf Δf I μ Kw ⟨fl,g,q⟩ h Kb W
 cases g with
 | false=>exact it_f rfl (lf_ldc O 1 rfl (kFn_i (m:=[]) _ (Wk.pick 3 [0] rfl) (k q fl ⟨h.1.nd,h.1.lt,h.1.topo,h.2 rfl⟩)))
 | true=>
  refine it_t rfl ?_
  have hpre:=h.1
  refine lf_scomp O (lf_lkuF (ns:=["name"]) (f:=fun k=>[.s (nm k)]) O (src_names fun c c N Cc=>Its.n N rfl rfl) (fun k=>!decide (k∈fl) && (J k).waits.all fun x=>decide (x∈fl)) (fun k=>.s (nm k)) (F_fil _ _) (by decide) ?turn2 ?fin2 (by rw [List.append_nil];exact wkr))
  case turn2=>
   intro d i r Cc D jt hd Kt Ks hk hs C2 O2
   have hi:i<7:=List.mem_range.mp (hd▸List.mem_append_right _ (.head _))
   refine (?_:((!decide (i∈fl) && (J i).waits.all fun x=>decide (x∈fl))=true→_)→_) (hk)
   intro hk
   refine (?_:((!decide (i∈fl) && (J i).waits.all fun x=>decide (x∈fl))=false→_)→_) (hs)
   intro hs
   refine lf_ldc O2 3 rfl (lf_ninn 0 R (.own 2 rfl) hi hpre.lt ?_)
   by_cases hif:i∈fl
   ·refine it_f (by rw [decide_eq_true hif];rfl) (it_f rfl ?_)
    exact hs (by rw [decide_eq_true hif];rfl) _ _ wkr
   refine it_t (by rw [decide_eq_false hif];rfl) ?_
   refine lf_comp O2 ?_
   refine lf_ldc O2 4 rfl (lf_d (.fz hjd) (JobsAt.lk hi) (lf_tup (n:=2) (.fz (hjk i hi).1) rfl (by simp) ?_))
   refine lf_lkF (ns:=["one"]) (f:=fun k=>[.s (nm k)]) O2 (src_lF (hjk i hi).2 (fun c h=>nAVs_pr h) fun c c N Cc=>Its.n N rfl rfl) (fun c=>true) (fun x=>bAV (decide (x∈fl))) (F_map _ bAV) (Nat.le_trans (hJ.wl i hi) (by decide)) ?t3 ?f3 (by rw [List.append_nil];exact wkr)
   case t3=>
    intro d2 x r2 Cc3 D3 jt3 hd2 Kt3 Ks3 hk3 hs3 C3 O3
    refine lf_ldc O3 5 rfl (lf_inn 0 R (.own 4 rfl) (hJ.wk i hi x (hd2▸List.mem_append_right _ (.head _))) hpre.lt ?_)
    exact hk3 rfl _ _ wkr
   case f3=>
    intro D3
    refine lf_all O2 (.own 0 rfl) ?_
    refine (?_:(((J i).waits.map fun x=>decide (x∈fl)).all id=(J i).waits.all fun x=>decide (x∈fl))→_) (List.all_map)
    intro hall
    rw [hall]
    cases hw:(J i).waits.all fun x=>decide (x∈fl) with
    | false=>exact it_f rfl (it_f rfl (hs (by rw [hw,Bool.and_false]) _ _ (Wk.pick 1 [] rfl)))
    | true=>exact it_t rfl (it_t rfl (hk (by rw [hw,decide_eq_false hif];rfl) _ _ (Wk.pick 1 [] rfl)))
  case fin2=>
   intro D
   refine (?_:(((List.range 7).filter fun k=>!decide (k∈fl) && (J k).waits.all fun x=>decide (x∈fl))=moreOf J fl)→_) (rfl)
   intro hmo
   rw [hmo]
   refine (?_:_→_) (hpre.step)
   intro hpre'
   refine (?_:_→_) (hpre'.len)
   intro hl
   rw [List.length_append] at hl
   refine lf_tas O rfl rfl ?_
   refine lf_ldc O 2 rfl (lf_addl (.own 1 rfl) (.own 0 rfl) ?_ fun q2=>?_)
   ·show (nAVs fl).length+(nAVs (moreOf J fl)).length≤1000
    rw [List.length_map,List.length_map];exact Nat.le_trans hl (by decide)
   refine fun nl=>lf_nenil 0 R (.own 1 rfl) rfl ?_
   refine lf_stc O 3 rfl ?_
   refine W.nx (fl++moreOf J fl,!(nAVs (moreOf J fl)).isEmpty,q2) _ ?_ ?_ ⟨hpre',fun hg=>?_⟩
   ·show Wk _ ((q2,ListO (List.map _ (fl++moreOf J fl)))::_)
    rw [List.map_append]
    exact Wk.pick 5 [0,3,4] rfl
   ·show (8 - (fl++moreOf J fl).length)+(if !(nAVs (moreOf J fl)).isEmpty then 1 else 0)<(8 - fl.length)+1
    cases hm:moreOf J fl with
    | nil=>rw [List.append_nil];exact Nat.lt_succ_self _
    | cons x r=>
     refine (?_:(fl.length+(moreOf J fl).length≤7)→_) (hl)
     intro hl
     rw [hm,List.length_cons] at hl
     rw [List.length_append,List.length_cons]
     show 8 - (fl.length+(r.length+1))+1<_
     exact ar387 hl
   ·refine (?_:((!(nAVs (moreOf J fl)).isEmpty)=false)→_) (hg)
    intro hg
    refine (?_:(moreOf J fl=[])→_) (by cases hm:moreOf J fl with | nil=>rfl | cons x r=>rw [hm] at hg;cases hg)
    intro this
    show moreOf J (fl++moreOf J fl)=[]
    rw [this,List.append_nil];exact this
end
noncomputable def SInv (su:Nat→List Nat) (fin:List Nat):Nat→List (Nat×Nat)→Prop
 | _,[]=>True
 | n,(k,i)::r=>n∈su k∧(∀ x∈(su k).take i,x∈fin∨x=n)∧SInv su fin k r
noncomputable def IInv (su:Nat→List Nat) (fin:List Nat):List (Nat×Nat)→Prop
 | []=>True
 | (k,i)::r=>(∀ x∈(su k).take i,x∈fin)∧SInv su fin k r
structure DInv (su:Nat→List Nat) (fin:List Nat) (stk:List (Nat×Nat)):Prop where
 nd:(stk.map (·.1)++fin).Nodup
 cl:∀ (i:Nat) k,fin[i]?=some k→∀ x∈su k,x∈fin.take i
theorem SInv.mono {su:Nat→List Nat} {fin fin':List Nat} (h:∀ x∈fin,x∈fin'):∀ {n stk},SInv su fin n stk→SInv su fin' n stk
 | _,[],_=>trivial
 | _,(k,i)::r,⟨a,b,c⟩=>⟨a,fun x hx=>(b x hx).imp (h x) id,c.mono h⟩
theorem SInv.push {su:Nat→List Nat} {fin:List Nat} {n:Nat} {stk:List (Nat×Nat)} (h:SInv su fin n stk):IInv su fin ((n,0)::stk):=⟨by simp,h⟩
theorem SInv.old {su:Nat→List Nat} {fin:List Nat} {n:Nat} {stk:List (Nat×Nat)} (h:SInv su fin n stk) (hn:n∈fin):IInv su fin stk:=by
 match stk,h with
 | [],_=>trivial
 | (k,i)::r,⟨a,b,c⟩=>exact ⟨fun x hx=>(b x hx).elim id (fun e=>e▸hn),c⟩
theorem IInv.take {su:Nat→List Nat} {fin:List Nat} {k i n:Nat} {r:List (Nat×Nat)} (h:IInv su fin ((k,i)::r)) (hn:(su k)[i]?=some n):SInv su fin n ((k,i+1)::r):=by
 refine ⟨List.mem_of_getElem? hn,fun x hx=>?_,h.2⟩
 rw [List.take_succ,List.mem_append] at hx
 rcases hx with hx | hx
 ·exact .inl (h.1 x hx)
 ·rw [hn] at hx;simp at hx;exact .inr hx
theorem DInv.push {su:Nat→List Nat} {fin:List Nat} {n:Nat} {stk:List (Nat×Nat)} (h:DInv su fin stk) (hs:n ∉ stk.map (·.1)) (hf:n ∉ fin):DInv su fin ((n,0)::stk):=by
 refine ⟨?_,h.cl⟩
 show (n::(stk.map (·.1)++fin)).Nodup
 rw [List.nodup_cons]
 exact ⟨fun hm=>(List.mem_append.mp hm).elim hs hf,h.nd⟩
theorem DInv.step {su:Nat→List Nat} {fin:List Nat} {k i:Nat} {r:List (Nat×Nat)} (h:DInv su fin ((k,i)::r)):DInv su fin ((k,i+1)::r):=⟨h.nd,h.cl⟩
theorem DInv.pop {su:Nat→List Nat} {fin:List Nat} {k i:Nat} {r:List (Nat×Nat)} (h:DInv su fin ((k,i)::r)) (hi:IInv su fin ((k,i)::r)) (hn:(su k)[i]?=none):DInv su (fin++[k]) r:=by
 refine (?_:((su k).length≤i)→_) (List.getElem?_eq_none_iff.mp hn)
 intro hl
 refine ⟨?_,fun j x hx y hy=>?_⟩
 ·refine (?_:_→_) (h.nd)
  intro this
  refine (?_:((r.map (·.1)++(fin++[k])).Perm (((k,i)::r).map (·.1)++fin))→_) (by
   rw [← List.append_assoc,List.map_cons]
   exact (List.perm_append_comm (l₁:=r.map (·.1)++fin) (l₂:=[k])))
  intro hp
  exact hp.nodup_iff.mpr this
 ·rw [List.getElem?_append] at hx
  split at hx
  ·rename_i hlt
   rw [List.take_append_of_le_length (Nat.le_of_lt hlt)]
   exact h.cl j x hx y hy
  ·rename_i hge
   rw [List.getElem?_singleton] at hx
   split at hx
   ·cases hx
    refine (?_:_→_) (hi.1 y (by rw [List.take_of_length_le hl];exact hy))
    intro this
    rw [List.take_append]
    exact List.mem_append_left _ (by rw [List.take_of_length_le (by exact ar5 hge)];exact this)
   ·cases hx
theorem IInv.pop {su:Nat→List Nat} {fin:List Nat} {k i:Nat} {r:List (Nat×Nat)} (hi:IInv su fin ((k,i)::r)):IInv su (fin++[k]) r:=by
 have h2:=hi.2
 match r,h2 with
 | [],_=>trivial
 | (k2,i2)::r2,⟨a,b,c⟩=>
  exact ⟨fun x hx=>by rcases b x hx with q | q <;> simp [q],c.mono fun x hx=>by simp [hx]⟩
inductive Lnk (su:Nat→List Nat):List Nat→Prop where
 | nil:Lnk su []
 | one (a):Lnk su [a]
 | cons {a b r}:b∈su a→Lnk su (b::r)→Lnk su (a::b::r)
theorem Lnk.snoc {su:Nat→List Nat} {l:List Nat} {a b:Nat}:Lnk su (l++[a])→b∈su a→Lnk su (l++[a,b]):=by
 induction l with
 | nil=>exact fun d h=>.cons h (.one b)
 | cons x l ih=>
  intro h hb
  cases l with
  | nil=>obtain _ | _ | ⟨h1,h2⟩:=h;exact .cons h1 (.cons hb (.one b))
  | cons y l=>obtain _ | _ | ⟨h1,h2⟩:=h;exact .cons h1 (ih h2 hb)
theorem SInv.lnk {su:Nat→List Nat} {fin:List Nat}:∀ {n:Nat} {stk:List (Nat×Nat)},SInv su fin n stk→Lnk su ((stk.map (·.1)).reverse++[n])
 | n,[],_=>.one n
 | n,(k,i)::r,⟨a,_,c⟩=>by
  refine (?_:_→_) (c.lnk)
  intro this
  simp only [List.map_cons,List.reverse_cons,List.append_assoc]
  exact this.snoc a
theorem Lnk.drop {su:Nat→List Nat}:∀ {l:List Nat} (n:Nat),Lnk su l→Lnk su (l.drop n)
 | _,0,h=>h
 | _,n+1,.nil=>.nil
 | _,n+1,.one a=>by simp;exact .nil
 | _,n+1,.cons _ h=>h.drop n
structure Ring (su:Nat→List Nat) (R:List Nat):Prop where
 len:2≤R.length
 lnk:Lnk su R
 ends:R.head?=R.getLast?
theorem SInv.ring {su:Nat→List Nat} {fin:List Nat} {n p:Nat} {stk:List (Nat×Nat)} (h:SInv su fin n stk) (hp:(stk.map (·.1)).reverse[p]?=some n):Ring su ((stk.map (·.1)).reverse.drop p++[n]):=by
 refine (?_:_→_) (h.lnk.drop p)
 intro h1
 refine (?_:(p<(stk.map (·.1)).reverse.length)→_) ((List.getElem?_eq_some_iff.mp hp).1)
 intro hl
 rw [List.drop_append_of_le_length (Nat.le_of_lt hl)] at h1
 refine ⟨by simp only [List.length_append,List.length_drop,List.length_singleton];exact ar192 hl,h1,?_⟩
 refine (?_:((stk.map (·.1)).reverse.drop p=n::(stk.map (·.1)).reverse.drop (p+1))→_) (by
  rw [List.drop_eq_getElem_cons hl]
  rw [(List.getElem?_eq_some_iff.mp hp).2])
 intro e
 rw [e,List.getLast?_append]
 rfl
noncomputable def dwork (su:Nat→List Nat) (seen:Nat) (stk:List (Nat×Nat)):Nat:=(7 - seen) * 100+(stk.map fun p=>((su p.1).length - p.2)+1).sum
theorem dwork_push {su:Nat→List Nat} (hsu:∀ k,(su k).length≤50) {seen n:Nat} {stk:List (Nat×Nat)} (h:seen<7):dwork su (seen+1) ((n,0)::stk)+1≤dwork su seen stk:=by
 refine (?_:_→_) (hsu n)
 intro this
 simp only [dwork,List.map_cons,List.sum_cons]
 exact ar437 h this
theorem dwork_take {su:Nat→List Nat} {seen k i:Nat} {r:List (Nat×Nat)} (h:i<(su k).length):dwork su seen ((k,i+1)::r)+1≤dwork su seen ((k,i)::r):=by
 simp only [dwork,List.map_cons,List.sum_cons]
 exact ar441 h
theorem dwork_pop {su:Nat→List Nat} {seen k i:Nat} {r:List (Nat×Nat)}:dwork su seen r+1≤dwork su seen ((k,i)::r):=by
 simp only [dwork,List.map_cons,List.sum_cons]
 exact ar409
noncomputable abbrev gAll (J:Jobs):Gr:=gOf (fun k=>(J k).waits) 7
theorem gAll_su {J:Jobs} {j x:Nat}:x∈(gAll J).su j↔x<7∧j∈(J x).waits:=by
 rw [← List.count_pos_iff,(gOf_spec (fun k=>(J k).waits) 7).2.2.1 j x]
 by_cases h:x<7
 ·rw [if_pos h,List.count_pos_iff];simp [h]
 ·rw [if_neg h];simp [h]
theorem gAll_np (J:Jobs) {k:Nat} (h:k<7):(gAll J).np k=(J k).waits.length:=by
 rw [(gOf_spec (fun k=>(J k).waits) 7).2.1 k,if_pos h]
theorem gAll_ord (J:Jobs) {k:Nat} (h:k<7):k∈(gAll J).order:=(gOf_spec (fun k=>(J k).waits) 7).2.2.2 k h
theorem len_ge:∀ {n:Nat} {l:List Nat},(∀ k,k<n→k∈l)→n≤l.length
 | 0,_,_=>Nat.zero_le _
 | n+1,l,h=>by
  refine (?_:_→_) (len_ge (n:=n) (l:=l.erase n) fun k hk=>(List.mem_erase_of_ne (by exact ar127 hk)).mpr (h k (by exact ar4 hk)))
  intro h1
  refine (?_:(n∈l)→_) (h n (by exact ar1))
  intro h2
  rw [List.length_erase_of_mem h2] at h1
  refine (?_:_→_) (List.length_pos_of_mem h2)
  intro this
  exact ar260 this h1
theorem free_full {J:Jobs} {fl fin:List Nat} (hw:∀ k,k<7→∀ x∈(J k).waits,x<7) (hfl:FreeSpec J fl) (hD:DInv (gAll J).su fin []) (hf:∀ k,k<7→k∈fin):fl.length=7:=by
 refine (?_:(∀ n i k,fin.length - i=n→fin[i]?=some k→k<7→k∈fl)→_) (by
  intro n
  induction n using Nat.strongRecOn with
  | ind n ih=>
   intro i k hn hi hk
   refine (?_:(i<fin.length)→_) ((List.getElem?_eq_some_iff.mp hi).1)
   intro hil
   apply Classical.byContradiction
   intro hc
   have:k∈moreOf J fl:=by
    unfold moreOf
    rw [List.mem_filter]
    refine ⟨List.mem_range.mpr hk,?_⟩
    simp only [hc,decide_false,Bool.not_false,Bool.true_and,List.all_eq_true,decide_eq_true_eq]
    intro p hp
    refine (?_:(k∈(gAll J).su p)→_) (gAll_su.mpr ⟨hk,hp⟩)
    intro hks
    have hp7:p<7:=hw k hk p hp
    obtain ⟨j,hj⟩:=List.getElem?_of_mem (hf p hp7)
    refine (?_:_→_) (hD.cl j p hj k hks)
    intro h1
    obtain ⟨i',hi'⟩:=List.getElem?_of_mem h1
    rw [List.getElem?_take] at hi'
    split at hi'
    ·rename_i hlt
     refine (?_:(j<fin.length)→_) ((List.getElem?_eq_some_iff.mp hj).1)
     intro hjl
     refine (?_:(i'=i)→_) (by
      have hnd:fin.Nodup:=by simpa using hD.nd
      have e1:=(List.getElem?_eq_some_iff.mp hi').2
      have e2:=(List.getElem?_eq_some_iff.mp hi).2
      exact (List.getElem_inj hnd).mp (e1.trans e2.symm))
     intro hii
     exact ih (fin.length - j) (by exact ar391 hn hjl hlt hii) j p rfl hj hp7
    ·cases hi'
   rw [hfl.closed] at this
   cases this)
 intro key
 refine (?_:(∀ k,k<7→k∈fl)→_) (fun k hk=>by
  obtain ⟨i,hi⟩:=List.getElem?_of_mem (hf k hk)
  exact key _ i k rfl hi hk)
 intro h7
 refine (?_:_→_) (len_ge h7)
 intro h1
 refine (?_:_→_) (nodup_len hfl.nd hfl.lt)
 intro h2
 exact ar49 h1 h2
theorem idx_lt {J:Jobs} {fl:List Nat} (hfl:FreeSpec J fl) {a b:Nat} (hb:b∈fl) (hab:a∈(J b).waits):fl.idxOf a<fl.idxOf b:=by
 refine (?_:(fl[fl.idxOf b]?=some b)→_) (by
  rw [List.getElem?_eq_getElem (List.idxOf_lt_length_of_mem hb),List.getElem_idxOf])
 intro hi
 refine (?_:_→_) (hfl.topo _ b hi a hab)
 intro h1
 refine (?_:_→_) (List.idxOf_lt_length_of_mem h1)
 intro h2
 refine (?_:((fl.take (fl.idxOf b)).length≤fl.idxOf b)→_) (by rw [List.length_take];exact ar122)
 intro h3
 refine (?_:(fl.idxOf a=(fl.take (fl.idxOf b)).idxOf a)→_) (by
  conv=>lhs;rw [← List.take_append_drop (fl.idxOf b) fl]
  rw [List.idxOf_append,if_pos h1])
 intro h4
 exact ar294 h4 h2 h3
theorem lnk_idx {J:Jobs} {fl:List Nat} (hfl:FreeSpec J fl) (hall:∀ k,k<7→k∈fl):∀ {r:List Nat} {a:Nat},Lnk (gAll J).su (a::r)→r≠[]→∀ l,(a::r).getLast?=some l→fl.idxOf a<fl.idxOf l
 | [],_,_,h,_,_=>absurd rfl h
 | b::r,a,.cons h1 h2,_,l,hl=>by
  obtain ⟨hb7,hw⟩:=gAll_su.mp h1
  have h3:=idx_lt hfl (hall b hb7) hw
  rw [List.getLast?_cons_cons] at hl
  cases r with
  | nil=>simp at hl;subst hl;exact h3
  | cons c r'=>exact Nat.lt_trans h3 (lnk_idx hfl hall h2 (by simp) l hl)
theorem ring_free {J:Jobs} {fl rg:List Nat} (hfl:FreeSpec J fl) (h:Ring (gAll J).su rg):fl.length≠7:=by
 intro h7
 refine (?_:_→_) (nodup_full hfl.nd hfl.lt h7)
 intro hall
 obtain ⟨h1,h2,h3⟩:=h
 match rg,h1,h2,h3 with
 | a::b::r,_,h2,h3=>
  rw [List.head?_cons] at h3
  refine (?_:_→_) (lnk_idx hfl hall h2 (by simp) a h3.symm)
  intro this
  exact ar120 this
theorem ring_pairs {su:Nat→List Nat}:∀ {l:List Nat},Lnk su l→∀ p∈l.zip (l.drop 1),p.2∈su p.1:=by
 intro l
 induction l with
 | nil=>exact fun d p hp=>nomatch hp
 | cons a l ih=>
  intro h p hp
  cases l with
  | nil=>cases hp
  | cons b r=>
   obtain _ | _ | ⟨h1,h2⟩:=h
   rcases List.mem_cons.mp hp with rfl | hp
   ·exact h1
   ·exact ih h2 p hp
section
variable {w:World} {A:Around} {E:VP} {s:Shared} {ρ:Rest} {z:Z} {Δ:Ds}
structure Ps where
 np:Nat→Int
 rd:List Nat
 p:Int
 f:Int
structure POk (w:World) (z:Z) (a:SA) (order:List Nat) (su:Nat→List Nat):Prop where
 ok:SOk w z a order
 n2i:Fz z a.n2i (DictO w (nMap a order))
 sl:∀ k∈order,Fz z (a.sl k) (ListO (nAVs (su k)))
 big:(a.n2i == sysModules)=false
theorem POk.mono {w:World} {z z':Z} {a:SA} {order:List Nat} {su:Nat→List Nat} (h:POk w z a order su) (hz:Sub z z'):POk w z' a order su:=⟨h.ok.mono hz,h.n2i.mono hz,fun k hk=>(h.sl k hk).mono hz,h.big⟩
noncomputable abbrev nodesP (a:SA) (np:Nat→Int) (l:List Nat):Ds:=l.map fun k=>(a.nu k,nodeO a k (np k))
noncomputable abbrev postE (a:SA) (r:Addr) (order:List Nat) (st:Ps):Ds:=(a.dx,EntO (SM a.n2i (.ref r) st.p st.f))::(r,ListO (nAVs st.rd))::nodesP a st.np order
theorem nodesP_get {a:SA} {np:Nat→Int} {order:List Nat} {k:Nat} (hk:k∈order):(nodesP a np order++Δ)[order.idxOf k]?=some (a.nu k,nodeO a k (np k)):=by
 refine (?_:_→_) (List.idxOf_lt_length_of_mem hk)
 intro h
 rw [List.getElem?_append_left (by rw [List.length_map];exact h),List.getElem?_map,List.getElem?_eq_getElem h,List.getElem_idxOf];rfl
theorem nodesP_set {a:SA} {np np':Nat→Int} {order:List Nat} {k:Nat} (hn:order.Nodup) (hk:k∈order) (h:∀ j,j≠k→np' j=np j):(nodesP a np order++Δ).set (order.idxOf k) (a.nu k,nodeO a k (np' k))=nodesP a np' order++Δ:=by
 refine (?_:_→_) (List.idxOf_lt_length_of_mem hk)
 intro hl
 rw [List.set_append_left _ _ (by rw [List.length_map];exact hl)]
 congr 1
 refine List.ext_getElem (by rw [List.length_set,List.length_map,List.length_map]) fun i h1 h2=>?_
 rw [List.length_map] at h2
 rw [List.getElem_set,List.getElem_map,List.getElem_map]
 by_cases e:order.idxOf k=i
 ·subst e;rw [if_pos rfl,List.getElem_idxOf]
 ·rw [if_neg e,← h (order[i]) fun q=>e (by rw [← q];exact hn.idxOf_getElem i h2)]
theorem nodesP_getJ {a:SA} {np:Nat→Int} {order:List Nat} {k:Nat} {J:Ds} (hk:k∈order):(nodesP a np order++Δ++J)[order.idxOf k]?=some (a.nu k,nodeO a k (np k)):=by
 rw [List.append_assoc];exact nodesP_get hk
theorem nodesP_setJ {a:SA} {np np':Nat→Int} {order:List Nat} {k:Nat} {J:Ds} (hn:order.Nodup) (hk:k∈order) (h:∀ j,j≠k→np' j=np j):(nodesP a np order++Δ++J).set (order.idxOf k) (a.nu k,nodeO a k (np' k))=nodesP a np' order++Δ++J:=by
 rw [List.append_assoc,List.append_assoc];exact nodesP_set hn hk h
theorem is_active_T {a:SA} {r:Addr} {order:List Nat} {su:Nat→List Nat} {st:Ps} {K:AV→Z→Ds→Prop} (ok:POk w z a order su) (hz:st.rd.length≤100) (R:Room A 2) {b:Bool} (hb:(decide (st.f<st.p) || !st.rd.isEmpty)=b)
 (k:K (.v (.bool b)) z (postE a r order st++Δ)):CF w ρ A 99 [.v (.ref a.x)] z (postE a r order st++Δ) K:=by
  refine lf_def (by assumption) ?_ (by k_is) (by k_is) (by first | exact args1 fun c=>rfl | exact args2 fun c c=>rfl | exact args3 fun c c c=>rfl | exact args4 fun c c c c=>rfl) (by decide) (by decide) (by rfl) (by rfl) (by rfl) (by decide)
  intro L A' R C O
  have hx:=ok.ok.x
  refine ⟨lf_ga at_rdy (.fz hx) (.own 0 rfl) rfl ?_⟩
  refine lf_isn (it_f rfl ?_)
  refine lf_ga at_nfi (.fz hx) (.own 0 rfl) rfl (lf_ga at_npo (.fz hx) (.own 0 rfl) rfl (lf_lt ?_))
  subst hb
  cases hb:decide (st.f<st.p) with
  | true=>
   rw [hb,Bool.true_or] at k
   exact it_t rfl (kFn_i (m:=[]) _ wkr k)
  | false=>
   rw [hb,Bool.false_or] at k
   refine it_f rfl (lf_ga at_rdy (.fz hx) (.own 0 rfl) rfl (lf_bool (.own 1 rfl) (by rw [List.length_map];exact ar50 hz) ?_))
   rw [show (nAVs st.rd).isEmpty=st.rd.isEmpty from List.isEmpty_map]
   exact kFn_i (m:=[]) _ wkr k
noncomputable def Ps.ready (st:Ps):Ps:=⟨fun k=>if k∈st.rd then -1 else st.np k,[],st.p+st.rd.length,st.f⟩
theorem get_ready_T {a:SA} {r:Addr} {order:List Nat} {su:Nat→List Nat} {st:Ps} {K:AV→Z→Ds→Prop} (ok:POk w z a order su) (hz:st.rd.length≤100) (hrd:∀ k∈st.rd,k∈order) (R:Room A 2)
 (k:∀ q z',Sub z z'→Fz z' q (TupO (nAVs st.rd))→K (.v (.ref q)) z' (postE a r order st.ready++Δ)):CF w ρ A 92 [.v (.ref a.x)] z (postE a r order st++Δ) K:=by
  refine lf_def (by assumption) ?_ (by k_is) (by k_is) (by first | exact args1 fun c=>rfl | exact args2 fun c c=>rfl | exact args3 fun c c c=>rfl | exact args4 fun c c c c=>rfl) (by decide) (by decide) (by rfl) (by rfl) (by rfl) (by decide)
  intro L A' R C O
  have hx:=ok.ok.x
  have hlen:(nAVs st.rd).length≤100:=by rw [List.length_map];exact hz
  refine ⟨lf_ga at_rdy (.fz hx) (.own 0 rfl) rfl (lf_isn (it_f rfl ?_))⟩
  refine lf_ga at_rdy (.fz hx) (.own 0 rfl) rfl (lf_tuple (.own 1 rfl) (Nat.le_trans hlen (by decide)) fun q z1 hz1 hq=>?_)
  refine lf_ga at_n2i (.fz (hx.mono hz1)) (.own 0 rfl) rfl ?_
  obtain ⟨p,M⟩:=as_npr (w:=w)
  refine lf_for0 (σ:=List Nat) (up:=fun k m=>setl m "node" (.s (nm k))) (fun c=>z1) (fun c=>[("self",.v (.ref a.x)),("result",.v (.ref q)),("n2i",.v (.ref a.n2i))]) (fun d=>(a.dx,EntO (SM a.n2i (.ref r) st.p st.f))::(r,ListO (nAVs st.rd))::(nodesP a (fun k=>if k∈d then -1 else st.np k) order++Δ))
   (fun d c x=>x=d) O [] (src_tup hq (fun c h=>nAVs_pr h) fun c c N=>Its.n N rfl rfl) rfl ?turn ?fin [] ?e rfl
  case e=>rfl
  case turn=>
   intro zg mg Δg Ig Kg d k rr x hd hz3 hx' J Kf F
   subst hx'
   refine (?_:(k∈order)→_) (hrd k (hd▸List.mem_append_right _ (.head _)))
   intro hk
   refine lf_d (.fz (ok.n2i.mono hz1)) (lk_names hk) ?_
   refine lf_ss M (j:=order.idxOf k+2) (nodesP_getJ hk) (.fz ((ok.ok.nd k hk).mono hz1)) ?_
   refine F.nx (x++[k]) _ (Wk.eq (congrArg (_::_::·) ?_)) (.refl _) rfl
   refine (?_:_→_) (nodesP_setJ (Δ:=Δ) (J:=J) (a:=a) (np:=fun k=>if k∈x then -1 else st.np k) (np':=fun i=>if i∈x++[k] then -1 else st.np i) ok.ok.nodup hk fun j hj=>by simp [hj])
   intro h
   rw [if_pos (List.mem_append_right _ (.head _))] at h
   exact h
  case fin=>
   intro x hz3 hx'
   subst hx'
   refine lf_ga at_rdy (.fz (hx.mono hz1)) (.own 0 rfl) rfl (lf_gml (.own 1 rfl) PySem.F.slot_list_clear PySem.F.type_list_clear ?_)
   refine lf_clear (j:=1) rfl (Nat.le_trans hlen (by decide)) ?_
   refine lf_ga at_npo (.fz (hx.mono hz1)) (.own 0 rfl) rfl (lf_tlen (.fz hq) (Nat.le_trans hlen (by decide)) ?_)
   refine lf_sa at_npo (.fz (hx.mono hz1)) (j:=0) rfl ?_
   refine (?_:((nAVs st.rd).length=st.rd.length)→_) (List.length_map ..)
   intro e
   rw [e]
   exact kFn_i (m:=[]) _ wkr (k q z1 hz1 hq)
end
section
variable {w:World} {A:Around} {ρ:Rest} {z:Z} {Δ:Ds}
noncomputable def Ps.rel (st:Ps) (j:Nat):Ps:=⟨upd st.np j (st.np j - 1),if st.np j - 1=0 then st.rd++[j] else st.rd,st.p,st.f⟩
noncomputable def Ps.mark (st:Ps) (k:Nat):Ps:=⟨upd st.np k (-2),st.rd,st.p,st.f⟩
noncomputable def Ps.fin (st:Ps):Ps:=⟨st.np,st.rd,st.p,st.f+1⟩
noncomputable def Ps.done1 (su:Nat→List Nat) (st:Ps) (k:Nat):Ps:=((su k).foldl Ps.rel (st.mark k)).fin
noncomputable def Ps.doneL (su:Nat→List Nat) (st:Ps) (l:List Nat):Ps:=l.foldl (Ps.done1 su) st
noncomputable def DoneOk (su:Nat→List Nat):Ps→List Nat→Prop
 | _,[]=>True
 | st,k::r=>st.np k=-1∧DoneOk su (st.done1 su k) r
theorem DoneOk.at {su:Nat→List Nat}:∀ {d:List Nat} {st:Ps} {k:Nat} {r:List Nat},DoneOk su st (d++k::r)→(st.doneL su d).np k=-1
 | [],_,_,_,h=>h.1
 | x::d,st,k,r,h=>DoneOk.at (d:=d) (st:=st.done1 su x) h.2
theorem rel_rd {st:Ps} {B:Nat} (h:st.rd.length≤B) (j:Nat):(st.rel j).rd.length≤B+1:=by
 unfold Ps.rel;dsimp only;split
 ·simp;exact ar8 h
 ·exact ar18 h
theorem rels_rd:∀ {d:List Nat} {st:Ps} {B:Nat},st.rd.length≤B→(d.foldl Ps.rel st).rd.length≤B+d.length
 | [],_,_,h=>h
 | j::d,st,B,h=>by
  refine (?_:_→_) (rels_rd (d:=d) (rel_rd h j))
  intro this
  simp only [List.foldl_cons,List.length_cons];exact ar80 this
theorem done_rd {su:Nat→List Nat} (hs:∀ k,(su k).length≤100):∀ {d:List Nat} {st:Ps} {B:Nat},st.rd.length≤B→(st.doneL su d).rd.length≤B+100 * d.length
 | [],_,_,h=>h
 | k::d,st,B,h=>by
  refine (?_:((st.done1 su k).rd.length≤B+100)→_) (by
   refine (?_:_→_) (rels_rd (d:=su k) (st:=st.mark k) (B:=B) h)
   intro this
   refine (?_:_→_) (hs k)
   intro this
   show ((su k).foldl Ps.rel (st.mark k)).rd.length≤_
   exact ar302 ‹_› this)
  intro h1
  refine (?_:_→_) (done_rd hs (d:=d) h1)
  intro this
  show ((st.done1 su k).doneL su d).rd.length≤_
  simp only [List.length_cons];exact ar367 this
theorem done_T {a:SA} {r:Addr} {order:List Nat} {su:Nat→List Nat} {st:Ps} {l:List Nat} {K:AV→Z→Ds→Prop} (ok:POk w z a order su) (hz:st.rd.length≤100)
 (hs:∀ k,(su k).length≤100) (hsu:∀ k∈order,∀ j∈su k,j∈order) (hl:∀ k∈l,k∈order) (hlen:l.length≤100) (hd0:DoneOk su st l) (R:Room A 2)
 (k:∀ z',Sub z z'→K (.v .none) z' (postE a r order (st.doneL su l)++Δ)):CFV w ρ A 113 (.v (.ref a.x)::nAVs l) z (postE a r order st++Δ) K:=by
  refine lf_defV1 (by assumption) ?hz ?_ (by k_is) (by k_is) (by exact fun b vs=>by cases vs <;> rfl) (by decide) (by decide) (by rfl) (by rfl) (by rfl) (by decide)
  case hz=>rw [List.length_map];exact ar45 hlen
  intro L q z1 A' hz1 hq R C O
  have hx:=ok.ok.x.mono hz1
  obtain ⟨pn,Mn⟩:=as_npr (w:=w)
  obtain ⟨ps,Ms⟩:=as_suc (w:=w)
  refine ⟨lf_ga at_rdy (.fz hx) (.own 0 rfl) rfl (lf_isn (it_f rfl ?_))⟩
  refine lf_ga at_n2i (.fz hx) (.own 0 rfl) rfl ?_
  refine lf_for0 (σ:=List Nat) (up:=fun k m=>setl m "node" (.s (nm k))) (fun b=>z1) (fun b=>[("self",.v (.ref a.x)),("nodes",.v (.ref q)),("n2i",.v (.ref a.n2i))]) (fun d=>postE a r order (st.doneL su d)++Δ)
   (fun d b x=>x=d) O [] (src_tup hq (fun b h=>nAVs_pr h) fun b b N=>Its.n N rfl rfl) rfl ?turn ?fin [] rfl rfl
  case turn=>
   intro zg mg Δg Ig Kg d k rr x hd hz3 hx' J Kf F
   subst hx'
   refine (?_:(k∈l)→_) (hd▸List.mem_append_right _ (.head _))
   intro hkl
   refine (?_:(k∈order)→_) (hl k hkl)
   intro hk
   refine (?_:((st.doneL su x).np k=-1)→_) (DoneOk.at (r:=rr) (by rw [hd];exact hd0))
   intro hnp
   have hdl:x.length≤100:=by refine (?_:_→_) (congrArg List.length hd);intro this;simp at this;exact ar83 this hlen
   refine (?_:_→_) (done_rd hs (d:=x) hz)
   intro hrd
   refine (?_:(st.doneL su (x++[k])=(st.doneL su x).done1 su k)→_) (by unfold Ps.doneL;rw [List.foldl_append];rfl)
   intro e9
   refine ⟨lf_gmd (.fz (ok.n2i.mono hz1)) PySem.F.slot_dict_get PySem.F.type_dict_get ?_⟩
   refine lf_get (.fz (ok.n2i.mono hz1)) ok.big ?_
   rw [lk_names hk]
   refine (?_:_→_) ((ok.ok.nd k hk).mono hz1)
   intro hnd
   refine lf_isn (it_f rfl ?_)
   refine lf_gs Mn (.own (order.idxOf k+2) (nodesP_getJ hk)) (.fz hnd) rfl ?_
   rw [hnp]
   refine ⟨lf_ne (it_f rfl ?_)⟩
   refine lf_ss Mn (j:=order.idxOf k+2) (nodesP_getJ hk) (.fz hnd) ?_
   refine (?_:_→_) (nodesP_setJ (Δ:=Δ) (J:=J) (a:=a) (np:=(st.doneL su x).np) (np':=((st.doneL su x).mark k).np) ok.ok.nodup hk fun j hj=>if_neg hj)
   intro hset
   rw [show ((st.doneL su x).mark k).np k=-2 from if_pos rfl] at hset
   refine L1.wk (Wk.eq (congrArg (_::_::·) (hset.trans (List.append_assoc ..)))) ?_
   refine lf_gs Ms (.own (order.idxOf k+2) (nodesP_get hk)) (.fz hnd) rfl ?_
   refine lf_for0 (σ:=List Nat) (up:=fun k m=>setl m "successor" (.s (nm k))) (fun b=>z1) (fun b=>[("self",.v (.ref a.x)),("nodes",.v (.ref q)),("n2i",.v (.ref a.n2i)),("node",.s (nm k)),("nodeinfo",.v (.ref (a.nu k))),("stat",.i (-1))])
    (fun d=>postE a r order (d.foldl Ps.rel ((st.doneL su x).mark k))++(Δ++J)) (fun d b x=>x=d) O [] (src_lF ((ok.sl k hk).mono hz1) (fun b h=>nAVs_pr h) fun b b N=>Its.n N rfl rfl) rfl ?turn2 ?fin2 [] rfl rfl
   case turn2=>
    intro zg mg Δg Ig Kg d2 j r2 y hd2 hz4 hy J2 Kf2 F2
    subst hy
    have hj:j∈order:=hsu k hk j (hd2▸List.mem_append_right _ (.head _))
    refine (?_:_→_) (rels_rd (d:=y) (st:=(st.doneL su x).mark k) hrd)
    intro hrd2
    refine (?_:(y.length≤100)→_) (by have:=congrArg List.length hd2;have:=hs k;simp at *;exact ar83 this ‹_›)
    intro hd2l
    refine (?_:((y++[j]).foldl Ps.rel ((st.doneL su x).mark k)=(y.foldl Ps.rel ((st.doneL su x).mark k)).rel j)→_) (List.foldl_append ..)
    intro e8
    refine (?_:_→_) ((ok.ok.nd j hj).mono hz1)
    intro hndj
    refine (?_:_→_) (nodesP_setJ (Δ:=Δ++J) (J:=J2) (a:=a) (np:=(y.foldl Ps.rel ((st.doneL su x).mark k)).np) (np':=((y.foldl Ps.rel ((st.doneL su x).mark k)).rel j).np) ok.ok.nodup hj fun i hi=>if_neg hi)
    intro hset2
    rw [show ((y.foldl Ps.rel ((st.doneL su x).mark k)).rel j).np j=(y.foldl Ps.rel ((st.doneL su x).mark k)).np j - 1 from if_pos rfl] at hset2
    refine lf_d (.fz (ok.n2i.mono hz1)) (lk_names hj) ?_
    refine lf_gs Mn (.own (order.idxOf j+2) (nodesP_getJ hj)) (.fz hndj) rfl ?_
    refine lf_ss Mn (j:=order.idxOf j+2) (nodesP_getJ hj) (.fz hndj) ?_
    rw [show ∀ n:Int,nodeO a j (n - 1)=SlotO 33 (a.nd j) [some (.s (nm j)),some (.i (n - 1)),some (.v (.ref (a.sl j)))] from fun b=>rfl] at hset2
    refine (?_:(((y.foldl Ps.rel ((st.doneL su x).mark k)).rel j).np j=(y.foldl Ps.rel ((st.doneL su x).mark k)).np j - 1)→_) (if_pos rfl)
    intro hnj
    refine ⟨L1.wk (Wk.eq (congrArg (_::_::·) hset2)) (lf_gs Mn (.own (order.idxOf j+2) (nodesP_getJ hj)) (.fz hndj) rfl (lf_eq ?_))⟩
    rw [hnj]
    refine (?_:(∀ (P:List Nat),P=((y.foldl Ps.rel ((st.doneL su x).mark k)).rel j).rd→Wk ((a.dx,EntO (SM a.n2i (.ref r) (y.foldl Ps.rel ((st.doneL su x).mark k)).p (y.foldl Ps.rel ((st.doneL su x).mark k)).f))::(r,ListO (nAVs P))::(nodesP a ((y.foldl Ps.rel ((st.doneL su x).mark k)).rel j).np order++(Δ++J)++J2)) (postE a r order ((y++[j]).foldl Ps.rel ((st.doneL su x).mark k))++(Δ++J)++J2))→_) (fun P h=>by
     rw [h,e8];exact wkr)
    intro e
    by_cases h0:(y.foldl Ps.rel ((st.doneL su x).mark k)).np j - 1=0
    ·refine it_t (beq_iff_eq.mpr h0) (lf_ga at_rdy (.fz hx) (.own 0 rfl) rfl (lf_gml (.own 1 rfl) PySem.F.slot_list_append PySem.F.type_list_append ?_))
     refine lf_append (j:=1) rfl (by rw [List.length_map];exact ar405 hrd2 hdl hd2l) ?_
     refine F2.nx (y++[j]) _ (Wk.trans ?_ (e ((y.foldl Ps.rel ((st.doneL su x).mark k)).rd++[j]) (if_pos h0).symm)) (.refl _) rfl
     exact Wk.eq (congrArg (fun l=>_::(r,ListO l)::_) (List.map_append (l₁:=(y.foldl Ps.rel ((st.doneL su x).mark k)).rd) (l₂:=[j])).symm)
    ·exact it_f (beq_false_of_ne h0) (F2.nx (y++[j]) _ (e (y.foldl Ps.rel ((st.doneL su x).mark k)).rd (if_neg h0).symm) (.refl _) rfl)
   case fin2=>
    intro y hz4 hy
    subst hy
    refine lf_ga at_nfi (.fz hx) (.own 0 rfl) rfl (lf_sa at_nfi (.fz hx) (j:=0) rfl ?_)
    refine F.nx (x++[k]) _ (Wk.eq ?_) (.refl _) rfl
    show _=postE a r order (st.doneL su (x++[k]))++Δ++J
    rw [e9]
    exact congrArg (_::_::·) (List.append_assoc ..).symm
  case fin=>
   intro x hz3 hx'
   subst hx'
   exact kFn_i (m:=[]) _ wkr (k z1 hz1)
theorem done_spec {s:Shared} {a:SA} {r:Addr} {order:List Nat} {su:Nat→List Nat} {st:Ps} {l:List Nat} {xs:List Value} {Rs:Result→Shared→Prop} (S:St w ρ z (postE a r order st++Δ) s) (ok:POk w z a order su) (hz:st.rd.length≤100)
 (hs:∀ k,(su k).length≤100) (hsu:∀ k∈order,∀ j∈su k,j∈order) (hl:∀ k∈l,k∈order) (hlen:l.length≤100) (hd0:DoneOk su st l) (hxs:ARel (nAVs l) xs) (R:Room A 2)
 (K:∀ z' s',Sub z z'→St w ρ z' (postE a r order (st.doneL su l)++Δ) s'→Rs (.ok (.ret .none)) s') :
 codeAny (model PG w) A (.call (.ref 113) ⟨.ref a.x::xs,[]⟩) Rs s:=
  codeAny_mono ((done_T (K:=fun v z' Δ'=>v=.v .none∧Sub z z'∧Δ'=postE a r order (st.doneL su l)++Δ) ok hz hs hsu hl hlen hd0 R fun z' h=>⟨rfl,h,rfl⟩).out _ (.cons is_v hxs) (fun e s'=>Rs (.error e) s') s (fun v s'=>Rs (.ok (.ret v)) s') S fun v u z' Δ' s' hv t S'=>by
   obtain ⟨rfl,h,rfl⟩:=t
   cases hv
   exact K z' s' h S') fun r s' h=>by
   rcases r with e | f
   ·exact h
   ·cases f <;> first | exact h | exact h.elim
end
structure Row where
 n:Nat
 b:Nat
 e:Nat
 w:Nat
noncomputable def sin (k:Nat):List Nat→List Nat
 | []=>[k]
 | x::r=>if k≤x then k::x::r else x::sin k r
theorem sin_perm (k:Nat):∀ l,(sin k l).Perm (k::l)
 | []=>List.Perm.refl _
 | x::r=>by
  unfold sin
  split
  ·exact List.Perm.refl _
  ·exact ((sin_perm k r).cons x).trans (List.Perm.swap ..)
theorem sin_len (k:Nat) (l:List Nat):(sin k l).length=l.length+1:=by simpa using (sin_perm k l).length_eq
theorem sin_mem {k x:Nat} {l:List Nat}:x∈sin k l↔x=k∨x∈l:=by rw [(sin_perm k l).mem_iff,List.mem_cons]
noncomputable abbrev Srt (l:List Nat):Prop:=l.Pairwise (·≤·)
theorem sin_srt {k:Nat}:∀ {l},Srt l→Srt (sin k l)
 | [],_=>List.pairwise_singleton ..
 | x::r,h=>by
  rw [Srt,List.pairwise_cons] at h
  unfold sin
  split
  ·rename_i hk
   rw [Srt,List.pairwise_cons,List.pairwise_cons]
   refine ⟨fun y hy=>?_,h⟩
   rcases List.mem_cons.mp hy with rfl | hy
   ·exact hk
   ·exact Nat.le_trans hk (h.1 y hy)
  ·rename_i hk
   rw [Srt,List.pairwise_cons]
   refine ⟨fun y hy=>?_,sin_srt h.2⟩
   rcases sin_mem.mp hy with rfl | hy
   ·exact ar133 hk
   ·exact h.1 y hy
structure HS where
 fr:List Nat
 rd:List Nat
 rn:List Nat
 pl:List Row
 t:Nat
 sp:Ps
noncomputable abbrev rkey (J:Jobs) (k:Nat):Nat:=(J k).rank * 8+k
noncomputable abbrev nkey (e v k:Nat):Nat:=(e * 8+v) * 8+k
noncomputable def pushR (J:Jobs):List Nat→List Nat→List Nat
 | rd,[]=>rd
 | rd,k::r=>pushR J (sin (rkey J k) rd) r
noncomputable def spGet (sp:Ps):Ps:=⟨fun k=>if k∈sp.rd then -1 else sp.np k,[],sp.p+sp.rd.length,sp.f⟩
noncomputable def give (J:Jobs) (t:Nat):List Nat→List Nat→List Nat→List Row→List Nat×List Nat×List Nat×List Row
 | x::rd,v::fr,rn,pl=>give J t rd fr (sin (nkey (t+(J (x % 8)).dur) v (x % 8)) rn) (pl++[⟨x % 8,t,t+(J (x % 8)).dur,v⟩])
 | rd,fr,rn,pl=>(rd,fr,rn,pl)
noncomputable def hMid (J:Jobs) (h:HS):HS:=
 let g:=give J h.t (pushR J h.rd h.sp.rd) h.fr h.rn h.pl
 ⟨g.2.1,g.1,g.2.2.1,g.2.2.2,h.t,spGet h.sp⟩
noncomputable def ends (t:Nat):List Nat→List Nat→List Nat→List Nat×List Nat×List Nat
 | y::rn,fr,en=>if y / 64=t then ends t rn (sin (y / 8 % 8) fr) (en++[y % 8]) else (y::rn,fr,en)
 | [],fr,en=>([],fr,en)
noncomputable def hTime (h:HS):Nat:=(h.rn.headD 0) / 64
noncomputable def hEnded (h:HS):List Nat:=(ends (hTime h) h.rn h.fr []).2.2
noncomputable def hNext (su:Nat→List Nat) (h:HS):HS:=
 let e:=ends (hTime h) h.rn h.fr []
 ⟨e.2.1,h.rd,e.1,h.pl,hTime h,h.sp.doneL su e.2.2⟩
structure HB (h:HS):Prop where
 fr:Srt h.fr∧h.fr.length≤20∧∀ v∈h.fr,v<8
 rd:Srt h.rd∧h.rd.length≤20∧∀ x∈h.rd,x % 8<7
 rn:Srt h.rn∧h.rn.length≤20∧∀ y∈h.rn,y % 8<7
 pl:h.pl.length≤20
 sp:h.sp.rd.length≤20∧∀ k∈h.sp.rd,k<7
theorem pushR_b {J:Jobs}:∀ {l rd:List Nat} {N:Nat},Srt rd→rd.length≤N→(∀ x∈rd,x % 8<7)→(∀ k∈l,k<7)→Srt (pushR J rd l)∧(pushR J rd l).length≤N+l.length∧∀ x∈pushR J rd l,x % 8<7
 | [],rd,N,h1,h2,h3,_=>⟨h1,h2,h3⟩
 | k::r,rd,N,h1,h2,h3,h4=>by
  refine (?_:_→_) (pushR_b (J:=J) (l:=r) (rd:=sin (rkey J k) rd) (N:=N+1) (sin_srt h1) (by rw [sin_len];exact ar7 h2) (fun x hx=>by
   rcases sin_mem.mp hx with rfl | hx
   ·refine (?_:_→_) (h4 k (.head _))
    intro this
    lia
   ·exact h3 x hx) fun k hk=>h4 k (.tail _ hk))
  intro this
  refine ⟨this.1,?_,this.2.2⟩
  refine (?_:_→_) (this.2.1)
  intro h5
  simp only [List.length_cons]
  show (pushR J (sin (rkey J k) rd) r).length≤_
  exact ar397 this
theorem pop_key {α:Type} {P P':List (α×Nat)} {x:α×Nat} {k:Nat} {l:List Nat} (hp:(x::P').Perm P) (hm:∀ p∈P,x.2≤p.2) (hk:(P.map (·.2)).Perm (k::l)) (hs:Srt (k::l)):x.2=k∧(P'.map (·.2)).Perm l:=by
 refine (?_:((x.2::P'.map (·.2)).Perm (k::l))→_) (by
  refine (?_:_→_) (hp.map (fun p:α×Nat=>p.2))
  intro this
  rw [List.map_cons] at this
  exact this.trans hk)
 intro h1
 refine (?_:(x.2∈k::l)→_) (h1.subset (.head _))
 intro h2
 refine (?_:(k∈P.map (·.2))→_) (hk.symm.subset (.head _))
 intro h3
 obtain ⟨p,hpm⟩:=List.mem_map.mp h3
 refine (?_:_→_→_) hpm.1 hpm.2
 intro hpm hpk
 refine (?_:_→_) (hm p hpm)
 intro h4
 rw [Srt,List.pairwise_cons] at hs
 refine (?_:(x.2=k)→_) (by
  rcases List.mem_cons.mp h2 with q | q
  ·exact q
  ·refine (?_:_→_) (hs.1 _ q)
   intro this
   rw [hpk] at h4
   exact ar13 h4 this)
 intro h5
 rw [h5] at h1
 exact ⟨h5,h1.cons_inv⟩
theorem pushR_snoc (J:Jobs):∀ (l rd:List Nat) (k:Nat),pushR J rd (l++[k])=sin (rkey J k) (pushR J rd l)
 | [],rd,k=>rfl
 | x::l,rd,k=>by
  rw [List.cons_append]
  exact pushR_snoc J l _ k
theorem give_b (J:Jobs) (t:Nat):∀ (rd fr rn:List Nat) (pl:List Row),rn.length≤(give J t rd fr rn pl).2.2.1.length∧pl.length≤(give J t rd fr rn pl).2.2.2.length
 | [],fr,rn,pl=>by cases fr <;> exact ⟨Nat.le_refl _,Nat.le_refl _⟩
 | x::rd,[],rn,pl=>⟨Nat.le_refl _,Nat.le_refl _⟩
 | x::rd,v::fr,rn,pl=>by
  refine (?_:_→_) (give_b J t rd fr (sin (nkey (t+(J (x % 8)).dur) v (x % 8)) rn) (pl++[⟨x % 8,t,t+(J (x % 8)).dur,v⟩]))
  intro this
  rw [sin_len,List.length_append,List.length_singleton] at this
  unfold give
  exact ar343 this
noncomputable def srt:List Nat→List Nat
 | []=>[]
 | k::r=>sin k (srt r)
theorem srt_perm:∀ l,(srt l).Perm l
 | []=>.refl _
 | k::r=>(sin_perm k _).trans ((srt_perm r).cons k)
theorem srt_srt:∀ l,Srt (srt l)
 | []=>.nil
 | k::r=>sin_srt (srt_srt r)
theorem srt_uniq:∀ {l m:List Nat},l.Perm m→Srt l→Srt m→l=m
 | [],m,h,_,_=>(List.nil_perm.mp h).symm
 | a::l,m,h,h1,h2=>by
  cases m with
  | nil=>exact absurd h.symm (by simp)
  | cons b m=>
   refine (?_:(a∈b::m)→_) (h.subset (.head _))
   intro ha
   refine (?_:(b∈a::l)→_) (h.symm.subset (.head _))
   intro hb
   rw [Srt,List.pairwise_cons] at h1 h2
   have e:a=b:=by
    rcases List.mem_cons.mp ha with q | q
    ·exact q
    rcases List.mem_cons.mp hb with q2 | q2
    ·exact q2.symm
    refine (?_:_→_) (h1.1 b q2)
    intro this
    refine (?_:_→_) (h2.1 a q)
    intro this
    exact ar13 ‹_› this
   subst e
   rw [srt_uniq h.cons_inv h1.2 h2.2]
noncomputable def doneL (t:Nat) (pl:List Row):List Nat:=(pl.filter fun r=>decide (r.e≤t)).map (·.n)
noncomputable def begunL (pl:List Row):List Nat:=pl.map (·.n)
noncomputable def busyL (t:Nat) (pl:List Row):List Nat:=(pl.filter fun r=>decide (t<r.e)).map (·.w)
noncomputable def rawL (J:Jobs) (t:Nat) (pl:List Row):List Nat:=(List.range 7).filter fun k=>!decide (k∈begunL pl) && (J k).waits.all fun x=>decide (x∈doneL t pl)
noncomputable def readyL (J:Jobs) (t:Nat) (pl:List Row):List Nat:=srt ((rawL J t pl).map (rkey J))
noncomputable def freeL (W t:Nat) (pl:List Row):List Nat:=(List.range W).filter fun v=>!decide (v∈busyL t pl)
noncomputable def rowOf (J:Jobs) (t:Nat) (k v:Nat):Row:=⟨k,t,t+(J k).dur,v⟩
noncomputable def stepL (J:Jobs) (W t:Nat) (pl:List Row):List Row:=pl++((readyL J t pl).zip (freeL W t pl)).map fun c=>rowOf J t (c.1 % 8) c.2
theorem stepL_pairs {J:Jobs} {W t:Nat} {pl:List Row} {ks:List (Nat×Nat)} (hk:∀ p∈ks,p.2<8) (h:ks.Perm ((rawL J t pl).map fun k=>((J k).rank,k))) (hs:ks.Pairwise fun a b=>a.1 * 8+a.2<b.1 * 8+b.2) :
 stepL J W t pl=pl++(ks.zip (freeL W t pl)).map fun c=>rowOf J t c.1.2 c.2:=by
  refine (?_:(readyL J t pl=ks.map fun p=>p.1 * 8+p.2)→_) (by
   refine srt_uniq ((srt_perm _).trans ?_) (srt_srt _) ?_
   ·refine (?_:_→_) (h.map (fun p:Nat×Nat=>p.1 * 8+p.2))
    intro this
    rw [List.map_map] at this
    exact this.symm
   ·exact (List.pairwise_map.mpr hs).imp fun h=>Nat.le_of_lt h)
  intro e
  unfold stepL
  rw [e,List.zip_map_left,List.map_map]
  congr 1
  refine List.map_congr_left fun c hc=>?_
  refine (?_:_→_) (hk c.1 (List.of_mem_zip hc).1)
  intro this
  show rowOf J t ((c.1.1 * 8+c.1.2) % 8) c.2=_
  rw [show (c.1.1 * 8+c.1.2) % 8=c.1.2 from by exact ar70 this]
theorem rawL_lt {J:Jobs} {t:Nat} {pl:List Row} {k:Nat} (h:k∈rawL J t pl):k<7:=List.mem_range.mp (List.mem_filter.mp h).1
section
variable {w:World} {A:Around} {E:VP} {s:Shared} {ρ:Rest} {z:Z} {Δ:Ds} {env:Env} {L:Addr} {m:Loc} {F:Addr×OP}
theorem o_neg {a:Int} {t:Tok} {Q:VP} (S:St w ρ z Δ s) (h:∀ t s',St w ρ z Δ s'→Q (.int (-a) t) s'):wpAny (model PG w) A (unaryOp .USub (.int a t)) Q E s:=PyProof.Rows.neg_int (h _ _ S.toks)
theorem sub_last {value slice:PySem.Expr} {l:Addr} {vs:List AV} {t:Tok} {av:AV} {Q:VP} (h:Has s l (ListO (vs++[av]))) (hz:vs.length≤1000) (k:∀ v,av.is v→Q v s)
 (hs:subscripted slice false (.ref l) (.int (-1) t)=operate [.ref l,.int (-1) t] (getItem (.ref l) (.int (-1) t)):=by with_unfolding_all rfl) :
 wpAny (model PG w) A (subscriptTail value slice (.ref l) (.int (-1) t)) Q E s:=by
  obtain ⟨items,hl⟩:=ListO.isL h
  refine (?_:_→_→_) hl.1 hl.2
  intro hl r
  refine (?_:(items.size=vs.length+1)→_) (by rw [r.sizeA];simp)
  intro hsz
  obtain ⟨x,hx⟩:=r.getA (i:=vs.length) (a:=av) (by simp)
  refine (?_:_→_→_) hx.1 hx.2
  intro hx ha
  refine tail_any hl.typeIs slot_list_getitem.lookup (wpAny_getItem_list_neg hl (by exact ar100) (by exact ar252 hsz) (by lia) ?_ (k x ha)) hs
  rw [show (-1+(items.size:Int)).toNat=vs.length from by exact ar327 hsz]
  exact hx
theorem s_del {o i:PySem.Expr} {p pos:Pos} {Q:Flow→Shared→Prop} (h:wpAny (model PG w) A (eval o env) (fun ov s₁=>wpAny (model PG w) A (eval i env) (fun iv s₂=>wpAny (model PG w) A (delItem ov iv) (fun b s₃=>Q .next s₃) E s₂) E s₁) E s) :
 wpAny (model PG w) A (exec (.Delete [.Subscript o i p] pos) env) Q E s:=by
  refine wpAny_Delete (wpAny_deleteEach_cons (wpAny_delete_Subscript (wpAny_mono h (fun ov s₁ h₁=>wpAny_mono h₁ (fun iv s₂ h₂=>wpAny_mono h₂ (fun b s₃ h₃=>wpAny_deleteEach_nil h₃) fun b b e=>e) fun b b e=>e) fun b b e=>e)))
noncomputable def SlEnd (Q:VP) (o vl vu:Value) (s:Shared):Prop:=∃ l items lo hi,o=.ref l∧s.heap.IsList l items∧items.size≤sizeLine∧IsPart vl lo∧IsPart vu hi ∧
 Q (.ref (s.heap.objs.size+1)) { s with heap:=(s.heap.push { cls:=.type "slice",data:=.fields #[vl,vu,.none] }).push { cls:=.type "list",data:=.seq (slicePick items lo hi none) } }
theorem e_slice {value:PySem.Expr} {lower upper:Option PySem.Expr} {p pos:Pos} {Q:VP}
 (h:wpAny (model PG w) A (eval value env) (fun o s₁=>wpAny (model PG w) A (evalPart lower env) (fun vl s₂=>wpAny (model PG w) A (evalPart upper env) (fun vu s₃=>SlEnd Q o vl vu s₃) E s₂) E s₁) E s)
 (ht:∀ o r,letTemporaryGo value o r=pure ()):wpAny (model PG w) A (eval (.Subscript value (.Slice lower upper none p) pos) env) Q E s:=
  wpAny_Subscript_list_slice h ht
theorem ep_none {Q:VP} (h:Q .none s):wpAny (model PG w) A (evalPart none env) Q E s:=wpAny_pure h
theorem ep_some {e:PySem.Expr} {Q:VP} (h:wpAny (model PG w) A (eval e env) Q E s):wpAny (model PG w) A (evalPart (some e) env) Q E s:=h
theorem sl_drop {l:Addr} {vs:List AV} {k:Nat} {t:Tok} {Q:VP} (S:St w ρ z (F::Δ) s) (h:Has s l (ListO vs)) (hk:k≤vs.length) (hz:vs.length≤1000)
 (K:∀ q s',St w ρ z (F::(q,ListO (vs.drop k))::Δ) s'→Q (.ref q) s'):SlEnd Q (.ref l) (.int k t) .none s:=
  sl_list S h (.int _ _) .none hz (fun items hs xs hr e=>by
   rw [e,slicePick_drop items k (by exact ar61 hk hs)]
   exact hr.drop k) K
theorem cfcFB {f:Addr} {name qual:Str} {params:Arguments} {body:List Stmt} {scope:Scope} {dV kV doc pm cdv ct oc:Value} {an od:Option Addr} {osl:Array (Option Value)} {args:List Value} {binds:List (Str×Value)} {Rs:Result→Shared→Prop}
 (S:St w ρ z Δ s) (ho:List.lookup f (hdp.heap_1_39 w.params)=some ⟨oc,od,.func (fnOf name qual params body scope dV kV doc pm an cdv ct),osl⟩) (hcd:codeIn (hdp.heap_1_39 w.params) cdv qual=true) {n:Nat} (hroom:Room A (n+1))
 (hbind:BindsTo s (fnOf name qual params body scope dV kV doc pm an cdv ct) ⟨args,[]⟩ binds) (hloc:∀ x∈binds.map (·.1),scope.names.lookup x=some .local) (hm:BRel binds m) (hnd:(binds.map (·.1)).Nodup)
 (h:∀ L s',St w ρ z ((L,FrO m)::Δ) s'→wpAny (model PG w) (A.deeper (envOf qual scope L f cdv)) (execs body (envOf qual scope L f cdv)) (fun fl s''=>Rs (.ok (.ret (retOf fl))) s'') (fun e s''=>wpAny (model PG w) (A.deeper (envOf qual scope L f cdv)) (leaving (envOf qual scope L f cdv) e) (fun b s₃=>Rs (.error e) s₃) (fun e' s₃=>Rs (.error e') s₃) s'') s')
 (hco:scope.isCoroutine=false) (hgen:scope.isGenerator=false) (hk:scope.kind=.function) (hcell:∀ x∈scope.names,x.2≠.cell) :
 codeAny (model PG w) A (.call (.ref f) ⟨args,[]⟩) Rs s:=by
  refine codeAny_call_def (fd:=fnOf name qual params body scope dV kV doc pm an cdv ct) (body:=body) (binds:=binds) hroom.d0 (S.K _ _ ho) rfl S.nolim (codeRec_of S.K hcd) rfl hbind hcell (fun x hx=>hloc x.1 (List.mem_map_of_mem hx)) (fun h₁ hns hk₁=>?_) hco hgen hk
  exact h _ _ (S.frame (t:=_) hm hnd hns hk₁)
end
section
variable {C:Cx} {α β:Type} {rel:β→α→Prop} {z:Z} {m:Loc} {Δ:Ds}
theorem L2.big {f:Value→Value→Sem α} {b d:AV} {K:β→SP} (j:Nat) {a:Addr} {P:OP} (hj:Δ[j]?=some (a,P)) (h:(a == sysModules)=false→L2 C rel f b d z m Δ K):L2 C rel f b d z m Δ K:=
 ⟨fun x y hx hy E s Q S q=>(h (S.big (S.lo (a,P) (.tail _ (List.mem_of_getElem? hj))))).out x y hx hy E s Q S q⟩
theorem lc_preF {f:Addr} {as:List AV} {K:AV→SP} (h:CF C.w C.ρ C.A f as z ((C.env.locals,FrO m)::Δ) fun r z' Δ''=>∃ N,Δ''=N++((C.env.locals,FrO m)::Δ)∧K r z' m (N++Δ)):LC C (.v (.ref f)) as z m Δ K:=
 ⟨fun x xs hx hxs=>by
  cases hx
  intro E s Q S k
  refine h.out xs hxs E s Q S fun r v z' Δ'' s' hv t S'=>?_
  obtain ⟨N,rfl,t⟩:=t
  exact k _ _ _ _ _ _ hv t (S'.perm List.perm_middle.symm)⟩
theorem execs_app_wp {M:Model} {Γ:Ctx} {env:Env} {post:Flow→Pos→Shared→Prop} {exc:Value→Pos→Shared→Prop} (b:List Stmt):∀ (a:List Stmt) {p:Pos} {s:Shared},
 Sem.wp M Γ (execs a env) (fun f p' s'=>match f with | .next=>Sem.wp M Γ (execs b env) post exc p' s' | f=>post f p' s') exc p s→Sem.wp M Γ (execs (a++b) env) post exc p s
  | [],p,s,h=>h
  | st::r,p,s,h=>by
   rw [List.cons_append,execs_cons,Sem.wp_bind']
   rw [execs_cons,Sem.wp_bind'] at h
   refine Sem.wp_mono M Γ _ (fun f p' s' h'=>?_) (fun e e e h'=>h') _ _ h
   cases f
   case next=>exact execs_app_wp b r h'
   all_goals exact h'
theorem ss_cut {w:World} {ρ:Rest} {A:Around} {env:Env} {L:Addr} (n:Nat) (O:Cx.Ok ⟨w,ρ,A,env⟩) {body:List Stmt} {E:VP} {s:Shared} {Q:Flow→Shared→Prop} (S:St w ρ z ((L,FrO m)::Δ) s)
 (h:let D:Cx:=⟨w,ρ,A,env⟩;D.Ok→(X D 60).ss (body.take n) z m Δ fun fl z' m' Δ'=>match fl with | .next=>∀ s',St w ρ z' ((L,FrO m')::Δ') s'→wpAny (model PG w) A (execs (body.drop n) env) Q E s' | fl=>∀ f s',fl.is f→St w ρ z' ((L,FrO m')::Δ') s'→Q f s') (hL:env.locals=L:=by rfl) :
  wpAny (model PG w) A (execs body env) Q E s:=by
  subst hL
  rw [← List.take_append_drop n body]
  have h1:=(X_ok O.h 60).ss (h O) E s (fun f s'=>match f with | .next=>wpAny (model PG w) A (execs (body.drop n) env) Q E s' | f=>Q f s') S fun fl f z' m' Δ' s' hf t S'=>by
   cases fl with
   | next=>cases hf;exact t s' S'
   | brk=>cases hf;exact t _ s' rfl S'
   | cont=>cases hf;exact t _ s' rfl S'
   | ret a=>obtain ⟨v,rfl,hv⟩:=hf;exact t _ s' ⟨v,rfl,hv⟩ S'
  intro Γ p hΓ
  refine execs_app_wp _ _ ?_
  refine Sem.wp_mono _ Γ _ (fun f p' s' h'=>?_) (fun e e e h'=>h') _ _ (h1 Γ p hΓ)
  cases f
  case next=>exact h' Γ p' hΓ
  all_goals exact h'
theorem ss_ret_or (O:C.Ok) {a b:PySem.Expr} {p pos:Pos} {E:VP} {s:Shared} {Q:Flow→Shared→Prop} (S:St C.w C.ρ z ((C.env.locals,FrO m)::Δ) s)
 (h:let D:Cx:=C;D.Ok→(X D 60).e a z m Δ fun av=>truX D (fun c z' m' Δ'=>∀ s',St C.w C.ρ z' ((C.env.locals,FrO m')::Δ') s'→match c with | true=>∀ v,av.is v→Q (.ret v) s' | false=>wpAny (model PG C.w) C.A (eval b C.env) (fun v s=>Q (.ret v) s) E s') av) :
 wpAny (model PG C.w) C.A (execs [.Return (some (.BoolOp .Or [a,b] p)) pos] C.env) Q E s:=by
  refine wpAny_execs_cons (wpAny_Return_some (BoolOp_or ((X_ok O.h 60).e (h O) E s _ S fun av v z m Δ s1 hv t S1=>truX_ok t v hv E s1 _ S1 ?_)))
  rintro c _ z m Δ s2 rfl t S2
  cases c with
  | true=>exact t s2 S2 v hv
  | false=>exact BoolOp_one (t s2 S2)
theorem call_out (O:C.Ok) {n:Str} {p pos:Pos} {args:List PySem.Expr} {f:Addr} {E:VP} {s:Shared} {Q:VP} (S:St C.w C.ρ z ((C.env.locals,FrO m)::Δ) s) (hf:fnT.contains f=true)
 (h:let D:Cx:=C;(X D 60).e (.Name n p) z m Δ fun a z m Δ=>a=.v (.ref f)∧(X D 60).l pos args z m Δ fun as z' m' Δ'=>∀ xs s',ARel as xs→St C.w C.ρ z' ((C.env.locals,FrO m')::Δ') s'→wpAny (model PG C.w) C.A (call (.ref f) xs) Q E s')
 (hp:plainArgs args=true:=by rfl):wpAny (model PG C.w) C.A (eval (.Call (.Name n p) args [] pos) C.env) Q E s:=by
  refine e_call ((X_ok O.h 60).e h E s _ S fun a v z m Δ s1 hv t S1=>?_)
  obtain ⟨rfl,t⟩:=t
  cases hv
  obtain ⟨o,fd,h1⟩:=fnT_ok C.w _ (List.contains_iff_mem.mp hf)
  refine (?_:_→_→_) h1.1 h1.2
  intro h1 h2
  exact cw_fn h1 h2 ((X_ok O.h 60).l t E s1 _ S1 fun as vs z m Δ s' hv t S'=>⟨⟨_,_,_,S'⟩,t vs s' hv S'⟩) (plain_star hp)
theorem lf_defB {w:World} {ρ:Rest} {A:Around} {f:Addr} {name qual:Str} {params:Arguments} {body:List Stmt} {scope:Scope} {dV kV doc pm cdv ct oc:Value} {an od:Option Addr} {osl:Array (Option Value)} {as dsA:List AV} {ds:List Value} {n:Nat} {K:AV→Z→Ds→Prop} (R:Room A (n+1)) (hds:ARel dsA ds)
 (h:∀ L A',Room A' n→let C:Cx:=⟨w,ρ,A',envOf qual scope L f cdv⟩;C.Ok→(X C 60).ss body z ((params.args.map (·.arg)).zip (as++dsA)) Δ (kFn K))
  (ho:List.lookup f (hdp.heap_1_39 w.params)=some ⟨oc,od,.func (fnOf name qual params body scope dV kV doc pm an cdv ct),osl⟩) (hcd:codeIn (hdp.heap_1_39 w.params) cdv qual=true)
  (hbind:∀ xs s,xs.length=as.length→(hdp.heap_1_39 w.params).In s.heap→BindsTo s (fnOf name qual params body scope dV kV doc pm an cdv ct) ⟨xs,[]⟩ ((params.args.map (·.arg)).zip (xs++ds))) (hloc:∀ x∈params.args.map (·.arg),scope.names.lookup x=some .local) (hnd:(params.args.map (·.arg)).Nodup)
  (hco:scope.isCoroutine=false) (hgen:scope.isGenerator=false) (hk:scope.kind=.function) (hcell:∀ x∈scope.names,x.2≠.cell):CFV w ρ A f as z Δ K:=
  ⟨fun xs hxs E s Q S k=>by
   refine (?_:_→_) (zip_fst_sub (params.args.map (·.arg)) (xs++ds))
   intro hsub
   exact cfcFB (Rs:=RQ Q E) S ho hcd R (hbind xs s hxs.length S.K) (fun x hx=>hloc x (hsub.subset hx)) (BRel.zip (hxs.append hds)) (hnd.sublist hsub) (fun L s' S'=>by
    refine (?_:(Room (A.deeper (envOf qual scope L f cdv)) n)→_) (R.deeper)
    intro R'
    refine (?_:(Cx.Ok ⟨w,ρ,A.deeper (envOf qual scope L f cdv),envOf qual scope L f cdv⟩)→_) (⟨hk,rfl,rfl,R'.le (Nat.zero_le _)⟩)
    intro O
    exact (X_ok O.h 60).ss (h L _ R' O) _ s' _ S' fun fl v z' m' Δ' s'' hv t S''=>let ⟨_,hw,t⟩:=t;k _ _ _ _ _ (retA_is hv) t (hw.st S''.tail)) hco hgen hk hcell⟩
end
section
variable {C:Cx} {z:Z} {m:Loc} {Δ:Ds}
theorem lf_ms2 {on n an:Str} {e2:PySem.Expr} {p1 p2 ap sp pos:Pos} {x dx Cl f:Addr} {mi:Loc} {a:AV} {K:AV→SP} (O:C.Ok) (M:MethS C.w Cl n f) (ko:C.env.kindOf on=some .local) (do_:(on == "__debug__")=false) (lo:lk m on=some (.v (.ref x)))
 (ka:C.env.kindOf an=some .local) (da:(an == "__debug__")=false) (la:lk m an=some a) (hx:OF z Δ x (InsO Cl dx)) (hd:OF z Δ dx (EntO mi)) (hl:lk mi n=none)
 (h:∀ q,let D:Cx:=C;(X D 60).e e2 z m ((q,MthO f x)::Δ) fun lv z2 m2 Δ2=>z2=z∧m2=m∧Δ2=(q,MthO f x)::Δ∧∃ l as,lv=.v (.ref l)∧OF z Δ l (ListO as)∧as.length≤1000∧∃ k B Δ0,Δ.drop k=B++Δ0 ∧
 ∀ Δ',CFV C.w C.ρ C.A f (.v (.ref x)::a::as) z (B++Δ') fun r z' Δ''=>∃ B',Δ''=B'++Δ'∧K r z' m (Δ.take k++(B'++Δ0))) :
 L0 C AV.is (eval (.Call (.Attribute (.Name on p1) n ap) [.Name an p2,.Starred e2 sp] [] pos) C.env) z m Δ K:=⟨by
  intro E s Q S kk
  refine e_callms (ld S rfl O.k ko do_ lo fun v hv=>?_) rfl rfl
  cases hv
  refine ga_meth S (hx.has S) (hd.has S) M.g M.h M.i M.s M.t M.y M.c hl fun q s S=>?_
  refine cw_ms2 (x:=x) M.fn (sp_cons (ld S rfl O.k ka da la fun v hv=>sp_star ((X_ok O.h 60).e (h q) E _ _ S fun lv u z2 m2 Δ2 s2 hu t S2=>?_) rfl) rfl) rfl rfl
  obtain ⟨rfl,rfl,rfl,l,as,rfl,hls,hz,k,B,Δ0,hB,hC⟩:=t
  cases hu
  have hls':OF z2 ((q,MthO f x)::Δ) l (ListO as):=by
   cases hls with
   | own j h=>exact .own (j+1) h
   | fz h=>exact .fz h
  refine star_l S2 (hls'.has S2) hz fun xs s hxs S=>sp_nil ⟨⟨S.at 1 rfl,S.K⟩,?_⟩
  rw [List.append_nil]
  refine (?_:(Δ=Δ.take k++(B++Δ0))→_) (by rw [← hB,List.take_append_drop])
  intro e
  have p:∀ B:Ds,(B++((C.env.locals,FrO m2)::(Δ.take k++Δ0))).Perm ((C.env.locals,FrO m2)::(Δ.take k++(B++Δ0))):=fun B=>by
   refine List.perm_middle.trans (List.Perm.cons _ ?_)
   rw [← List.append_assoc,← List.append_assoc]
   exact List.perm_append_comm.append_right _
  refine (hC _).out _ (.cons is_v (.cons hv hxs)) E s Q (S.drop2.perm ((p B).trans (by rw [← e]))) fun r v z' Δ'' s' hv t S'=>?_
  obtain ⟨B',rfl,t⟩:=t
  exact kk _ _ _ _ _ _ hv t (S'.perm (p B').symm)⟩
end
structure SE where
 k:Nat
 i:Nat
 wr:Addr
 it:Addr
noncomputable abbrev ki (T:List SE):List (Nat×Nat):=T.map fun e=>(e.k,e.i)
noncomputable abbrev bs (T:List SE):List Nat:=((ki T).map (·.1)).reverse
theorem bs_cons (e:SE) (T:List SE):bs (e::T)=bs T++[e.k]:=by simp [bs,ki]
noncomputable abbrev wrs (T:List SE):List AV:=(T.map fun e=>AV.v (.ref e.wr)).reverse
theorem wrs_cons (e:SE) (T:List SE):wrs (e::T)=wrs T++[.v (.ref e.wr)]:=by simp [wrs]
theorem nAVs_snoc (l:List Nat) (k:Nat):nAVs (l++[k])=nAVs l++[.s (nm k)]:=by simp [nAVs]
noncomputable abbrev itE (sl:Nat→Addr) (T:List SE):Ds:=T.map fun e=>(e.it,LItD (sl e.k) e.i)
noncomputable def kvF:Nat→List Nat→Loc
 | _,[]=>[]
 | n,k::r=>(nm k,.i (n:Nat))::kvF (n+1) r
theorem kvF_len:∀ (n:Nat) (l:List Nat),(kvF n l).length=l.length
 | _,[]=>rfl
 | n,k::r=>by simp [kvF,kvF_len (n+1) r]
theorem kvF_none:∀ {n:Nat} {l:List Nat} {k:Nat},k ∉ l→lk (kvF n l) (nm k)=none
 | _,[],_,_=>rfl
 | n,a::r,k,h=>by
  simp only [List.mem_cons,not_or] at h
  unfold kvF lk
  rw [if_neg (fun e=>h.1 (nm_inj e))]
  exact kvF_none h.2
theorem kvF_some:∀ {n:Nat} {l:List Nat} {k:Nat},k∈l→∃ p:Nat,l[p]?=some k∧lk (kvF n l) (nm k)=some (.i ((n+p:Nat):Int))
 | _,[],_,h=>by cases h
 | n,a::r,k,h=>by
  unfold kvF lk
  by_cases q:k=a
  ·subst q;exact ⟨0,rfl,by rw [if_pos rfl];rfl⟩
  ·rw [if_neg (fun e=>q (nm_inj e))]
   obtain ⟨p,h1⟩:=kvF_some (n:=n+1) ((List.mem_cons.mp h).resolve_left q)
   refine (?_:_→_→_) h1.1 h1.2
   intro h1 h2
   exact ⟨p+1,by simpa using h1,by rw [h2];congr 2;lia⟩
theorem kvF_push:∀ {n:Nat} {l:List Nat} {k:Nat},k ∉ l→setl (kvF n l) (nm k) (.i ((n+l.length:Nat):Int))=kvF n (l++[k])
 | n,[],k,_=>by simp [kvF,setl]
 | n,a::r,k,h=>by
  simp only [List.mem_cons,not_or] at h
  rw [List.cons_append]
  unfold kvF setl
  rw [if_neg (fun e=>h.1 (nm_inj e)),← kvF_push (n:=n+1) h.2]
  congr 3
  simp only [List.length_cons];exact ar355
theorem kvF_pop:∀ {n:Nat} {l:List Nat} {k:Nat},k ∉ l→dell (kvF n (l++[k])) (nm k)=kvF n l
 | n,[],k,_=>by simp [kvF,dell]
 | n,a::r,k,h=>by
  simp only [List.mem_cons,not_or] at h
  rw [List.cons_append]
  unfold kvF dell
  rw [if_neg (fun e=>h.1 (nm_inj e)),kvF_pop (n:=n+1) h.2]
noncomputable abbrev sE (l:List Nat):Str→Bool:=fun x=>decide (x∈l.map nm)
theorem sE_in (l:List Nat) (k:Nat):sE l (nm k)=decide (k∈l):=by
 rw [decide_eq_decide];exact mem_nm
theorem sE_push (l:List Nat) (k:Nat):(fun y=>sE l y || decide (y=nm k))=sE (k::l):=by
 funext y
 rw [Bool.eq_iff_iff]
 simp only [sE,Bool.or_eq_true,decide_eq_true_eq,List.map_cons,List.mem_cons]
 exact Or.comm
theorem sE_congr {l l':List Nat} (h:∀ k,k∈l↔k∈l'):sE l=sE l':=by
 funext y
 simp only [sE,decide_eq_decide,List.mem_map,h]
noncomputable abbrev nms (T:List SE) (fin:List Nat):List Nat:=(ki T).map (·.1)++fin
theorem stop_base:isSubtype (.type "StopIteration") (.type "BaseException")=pure true:=by rw [isSubtype_type];kernel_rfl
theorem stop_meta:isSubtype (.type ((Manifest.find? "StopIteration").elim "type" fun x=>x.metatype)) (.type "tuple")=pure false:=by rw [isSubtype_type];kernel_rfl
theorem stop_self:isSubtype (.type "StopIteration") (.type "StopIteration")=pure true:=by rw [isSubtype_type];kernel_rfl
theorem nms_len {w:World} {su:Nat→List Nat} {order fin:List Nat} {T:List SE} (h:DInv su fin (ki T)) (ho:∀ x∈nms T fin,x∈order) (h7:∀ x∈order,x<7):(nms T fin).length≤7:=nodup_len h.nd fun x hx=>h7 x (ho x hx)
theorem bs_len (T:List SE) (fin:List Nat):(bs T).length≤(nms T fin).length:=by simp [bs,nms]
noncomputable abbrev stE (w:World) (a:SA) (sk its sn n2:Addr) (T:List SE) (fin:List Nat):Ds:=
 (sk,ListO (nAVs (bs T)))::(its,ListO (wrs T))::(sn,SetO w (sE (nms T fin)) (nms T fin).length)::(n2,DictO w (kvF 0 (bs T)))::itE a.sl T
theorem stE_push (w:World) (a:SA) (sk its sn n2:Addr) (e:SE) (T:List SE) (fin:List Nat):stE w a sk its sn n2 (e::T) fin=(sk,ListO (nAVs (bs T)++[.s (nm e.k)]))::(its,ListO (wrs T++[.v (.ref e.wr)]))::(sn,SetO w (sE (e.k::nms T fin)) ((nms T fin).length+1))::(n2,DictO w (kvF 0 (bs T++[e.k])))::(e.it,LItD (a.sl e.k) e.i)::itE a.sl T:=by
 rw [← nAVs_snoc,← bs_cons,← wrs_cons];rfl
theorem nms_move (T:List SE) (fin:List Nat) (k x:Nat):x∈k::nms T fin↔x∈nms T (fin++[k]):=by
 generalize hl:(ki T).map (·.1)=l
 unfold nms
 rw [hl,List.mem_cons,List.mem_append,List.mem_append,List.mem_append,List.mem_singleton]
 constructor
 ·rintro (h | h | h)
  ·exact .inr (.inr h)
  ·exact .inl h
  ·exact .inr (.inl h)
 ·rintro (h | h | h)
  ·exact .inr (.inl h)
  ·exact .inr (.inr h)
  ·exact .inl h
theorem St.has {w:World} {ρ:Rest} {z:Z} {Δ:Ds} {s:Shared} (S:St w ρ z Δ s) {a:Addr} {P:OP} (h:(a,P)∈Δ):Has s a P:=(S.own _ h).2
section
variable {w:World} {A:Around} {E:VP} {s:Shared} {ρ:Rest} {z:Z} {Δ:Ds} {env:Env} {L:Addr} {m:Loc} {F:Addr×OP}
theorem cfcN {f:Addr} {name qual:Str} {params:Arguments} {body:List Stmt} {scope:Scope} {dV kV doc pm cdv ct oc:Value} {an od:Option Addr} {osl:Array (Option Value)} {args:List Value} {binds:List (Str×Value)} {fs:List Env} {Δf:Ds} {Rs:Result→Shared→Prop}
 (S:St w ρ z Δ s) (hfr:A.frames=some fs) (hF:Frs fs Δf) (ho:List.lookup f (hdp.heap_1_39 w.params)=some ⟨oc,od,.func (fnOf name qual params body scope dV kV doc pm an cdv ct),osl⟩) (hcd:codeIn (hdp.heap_1_39 w.params) cdv qual=true) {n:Nat} (hroom:Room A (n+1))
 (hbind:BindsTo s (fnOf name qual params body scope dV kV doc pm an cdv ct) ⟨args,[]⟩ binds) (hloc:∀ x∈binds.map (·.1),scope.names.lookup x=some .local) (hm:BRel binds m) (hnd:(binds.map (·.1)).Nodup)
 (h:∀ L s' A',Room A' n→A'.frames=some (envOf qual scope L f cdv::fs)→(∀ {m' Δ'},(∀ p,p∈Δf→FrP p.2→p∈Δ')→Frs (envOf qual scope L f cdv::fs) ((L,FrO m')::Δ'))→St w ρ z ((L,FrO m)::Δ) s'→wpAny (model PG w) A' (execs body (envOf qual scope L f cdv)) (fun fl s''=>Rs (.ok (.ret (retOf fl))) s'') (fun e s''=>wpAny (model PG w) A' (leaving (envOf qual scope L f cdv) e) (fun b s₃=>Rs (.error e) s₃) (fun e' s₃=>Rs (.error e') s₃) s'') s')
 (hco:scope.isCoroutine=false) (hgen:scope.isGenerator=false) (hk:scope.kind=.function) (hcell:∀ x∈scope.names,x.2≠.cell) :
 codeAny (model PG w) A (.call (.ref f) ⟨args,[]⟩) Rs s:=by
  refine cfcFB S ho hcd hroom hbind hloc hm hnd (fun L s' S'=>?_) hco hgen hk hcell
  refine h L s' _ hroom.deeper ?_ (fun {m' Δ'} hs=>Frs.top (Frs.enter (m:=m) hF hk) hs) S'
  show pushEnvs [envOf qual scope L f cdv] A.frames=_
  rw [hfr];rfl
end
section
variable {C:Cx} {z:Z} {m:Loc} {Δ:Ds}
noncomputable def kWhE (C:Cx) (b els:List Stmt) (Kb K:Fl→SP):Bool→SP:=fun c z m Δ=>ITE c ((X C 60).ss b z m Δ Kb) ((X C 60).ss els z m Δ K)
theorem lf_whileE {t:PySem.Expr} {b els:List Stmt} {pos:Pos} {K:Fl→SP} {σ:Type} (zf:σ→Z) (mf:σ→Loc) (Δf:σ→Ds) (I:σ→Prop) (μ:σ→Nat) (O:C.Okh) (x0:σ) (h0:I x0)
 (turn:let zf:=zf;let mf:=mf;let Δf:=Δf;let I:=I;let μ:=μ;let K:=K;∀ x,I x→∀ Kb:Fl→SP,WE zf mf Δf I μ x K Kb→(X C 60).b t (zf x) (mf x) (Δf x) (kWhE C b els Kb K))
 (e:Loc) (hz:z=zf x0) (hm:m=mf x0++e) (hΔ:Wk Δ (Δf x0)):L0 C Fl.is (exec (.While t b els pos) C.env) z m Δ K:=⟨by
  subst hz hm
  intro E s Q S k
  refine wwhileE (fun n s=>∃ x e,n=μ x∧I x∧St C.w C.ρ (zf x) ((C.env.locals,FrO (mf x++e))::Δf x) s) (μ x0) ⟨x0,e,rfl,h0,hΔ.cons.st S⟩ ?_
  rintro _ s ⟨x,e,rfl,hI,S⟩ E' Qb hQb
  refine (?_:_→_) (S.pre)
  intro S
  refine ((X_ok O 60).b (turn x hI (fun f z m Δ=>(∃ y e,μ y<μ x∧I y∧(f=.next∨f=.cont)∧z=zf y∧m=mf y++e∧Wk Δ (Δf y))∨(f=.brk∧K .next z m Δ)∨(∃ a,f=.ret a∧K (.ret a) z m Δ)) ⟨fun y e g h0 h1 h2=>.inl ⟨y,e,h1,h2,.inl rfl,rfl,rfl,h0⟩,fun y e g h0 h1 h2=>.inl ⟨y,e,h1,h2,.inr rfl,rfl,rfl,h0⟩,
   fun h=>.inr (.inl ⟨rfl,h⟩),fun h=>.inr (.inr ⟨_,rfl,h⟩)⟩)).b E' s _ S fun c z m Δ s2 t S2=>?_
  refine ITE.if ⟨fun hc=>(X_ok O 60).ss (t.t hc) E' s2 Qb S2 ?_,fun hc=>(X_ok O 60).ss (t.f hc) E' s2 _ S2 k⟩
  rintro f fl z m Δ s3 hf t3 S3
  refine hQb _ _ ?_
  rcases t3 with ⟨y,e,h1,h2,hn,rfl,rfl,h3⟩ | ⟨rfl,h⟩ | ⟨a,rfl,h⟩
  ·rcases hn with rfl | rfl
   ·cases hf;exact ⟨_,h1,y,e,rfl,h2,h3.cons.st S3⟩
   ·cases hf;exact ⟨_,h1,y,e,rfl,h2,h3.cons.st S3⟩
  ·cases hf;exact k _ _ _ _ _ _ Fl.n h S3
  ·obtain ⟨v,rfl,hv⟩:=hf;exact k _ _ _ _ _ _ (Fl.r hv) h S3⟩
theorem joinR {n:Nat} {t:PySem.Expr} {b e:List Stmt} {Kc:Fl→SP} {σ:Type} (zf:σ→Z) (mf:σ→Loc) (Δf:σ→Ds) (J:σ→Prop) (tail:let K:=Kc;∀ y,J y→K .next (zf y) (mf y) (Δf y))
 (h:let zf:=zf;let mf:=mf;let Δf:=Δf;let J:=J;let K:=Kc;∀ Kj:Fl→SP,(∀ y,J y→Kj .next (zf y) (mf y) (Δf y))→(∀ a z m Δ,K (.ret a) z m Δ→Kj (.ret a) z m Δ)→(X C n).b t z m Δ (kIf (X C n) b e Kj)):LI (X C n) t b e z m Δ Kc:=⟨h Kc tail fun g g g g h=>h⟩
theorem lf_set0 {pos:Pos} {K:AV→SP} (k:∀ q,K (.v (.ref q)) z m ((q,SetO C.w (fun g=>false) 0)::Δ)):L1 C AV.is (fun f=>callWith pos f [] (backTo pos (starEach [] C.env)) []) (.v (.type "set")) z m Δ K:=
 l1v (fun E s Q S q=>PyProof.Rows.callWith_type0 (set0 S fun a s' S'=>q _ _ _ _ _ _ is_v (k a) S'))
theorem lf_ins {a:Addr} {f:Str→Bool} {n:Nat} {x:Str} {K:AV→SP} (h:OF z Δ a (SetO C.w f n)) (k:K (.v (.bool (f x))) z m Δ):L2 C AV.is (compareOp .In) (.s x) (.v (.ref a)) z m Δ K:=
 l2av fun g hu=>T.step k fun S q=>set_in S (h.has S) hu fun s' S'=>q _ s' is_v S'
theorem lf_gms {a:Addr} {f:Str→Bool} {n:Nat} {pl:Sem Bool} {K:AV×List AV→SP} (h:OF z Δ a (SetO C.w f n)) (k:K (.v (.builtin "set.add"),[.v (.ref a)]) z m Δ):L1 C MR (fun v=>getMethod v "add" pl) (.v (.ref a)) z m Δ K:=
 l1v (fun E s Q S q=>set_gm (h.has S) (q _ _ _ _ _ _ ⟨is_v,.cons is_v .nil⟩ k S))
theorem lf_sadd {a:Addr} {f:Str→Bool} {n j:Nat} {x:Str} {K:AV→SP} (hj:Δ[j]?=some (a,SetO C.w f n)) (hz:n<100) (k:K (.v .none) z m (Δ.set j (a,SetO C.w (fun y=>f y || decide (y=x)) (if f x then n else n+1)))):LC C (.v (.builtin "set.add")) [.v (.ref a),.s x] z m Δ K:=
 lc2 fun g hu=>T.step k fun S q=>set_add (j:=j+1) S hj hu hz fun s' S'=>q _ s' is_v S'
theorem lf_ind {d:Addr} {kv:Loc} {x:Str} {K:AV→SP} (h:OF z Δ d (DictO C.w kv)) (hd:(d == sysModules)=false) (k:K (.v (.bool (lk kv x).isSome)) z m Δ):L2 C AV.is (compareOp .In) (.s x) (.v (.ref d)) z m Δ K:=
 l2av fun g hu=>T.step k fun S q=>d_in S (h.has S) hd hu fun s' S'=>q _ s' is_v S'
theorem lf_del {o i:PySem.Expr} {p pos:Pos} {K:Fl→SP} (O:C.Okh) (h:(X C 60).e o z m Δ (kBin (X C 60) i fun b c z m Δ=>L2 C uu (fun o i=>delItem o i) b c z m Δ fun g=>K .next)):L0 C Fl.is (exec (.Delete [.Subscript o i p] pos) C.env) z m Δ K:=⟨fun E s Q S k=>
 s_del ((X_ok O 60).e h E s _ S fun a v z m Δ s1 hv t S1=>(X_ok O 60).e t E s1 _ S1 fun b u z m Δ s2 hu t2 S2=>t2.out _ _ hv hu E s2 _ S2 fun g g z m Δ s3 g t3 S3=>k _ _ _ _ _ _ Fl.n t3 S3)⟩
theorem lf_ddel {d:Addr} {kv:Loc} {x:Str} {j:Nat} {K:Unit→SP} (hj:Δ[j]?=some (d,DictO C.w kv)) (hl:(lk kv x).isSome=true) (hz:kv.length≤1000) (k:K () z m (Δ.set j (d,DictO C.w (dell kv x)))):L2 C uu (fun o i=>delItem o i) (.v (.ref d)) (.s x) z m Δ K:=
 l2va fun g hy=>T.step k fun S q=>d_del (j:=j+1) S hj hy hl hz fun s' S'=>q () s' trivial S'
theorem LC.wk {f:AV} {as:List AV} {K:AV→SP} {Δ':Ds} (hw:Wk Δ Δ') (h:LC C f as z m Δ' K):LC C f as z m Δ K:=⟨fun x xs hx hxs=>(h.out x xs hx hxs).wk hw⟩
theorem Wk.subl {Δ Δ':Ds} (h:Δ'.Sublist Δ):Wk Δ Δ':=⟨fun p hp=>h.subset hp,fun hn=>hn.sublist (h.map _)⟩
structure LSl (C:Cx) (a b:AV) (z:Z) (m:Loc) (Δ:Ds) (K:AV→SP):Prop where
 out:∀ x y,a.is x→b.is y→∀ (E:VP) (s:Shared) (Q:VP),St C.w C.ρ z ((C.env.locals,FrO m)::Δ) s→(∀ b a z' m' Δ' s',AV.is b a→K b z' m' Δ'→St C.w C.ρ z' ((C.env.locals,FrO m')::Δ') s'→Q a s')→SlEnd Q x y .none s
theorem lf_sld {v l:PySem.Expr} {p pos:Pos} {K:AV→SP} (O:C.Okh) (h:(X C 60).e v z m Δ (kBin (X C 60) l fun a b z m Δ=>LSl C a b z m Δ K)) (ht:∀ o r,letTemporaryGo v o r=pure ():=by exact fun g g=>rfl):L0 C AV.is (eval (.Subscript v (.Slice (some l) none none p) pos) C.env) z m Δ K:=⟨fun E s Q S k=>
 e_slice ((X_ok O 60).e h E s _ S fun a v z m Δ s1 hv t S1=>ep_some ((X_ok O 60).e t E s1 _ S1 fun b u z m Δ s2 hu t2 S2=>ep_none (t2.out _ _ hv hu E s2 Q S2 k))) ht⟩
theorem ls_drop {l:Addr} {vs:List AV} {n:Nat} {K:AV→SP} (h:OF z Δ l (ListO vs)) (hn:n≤vs.length) (hz:vs.length≤1000) (k:∀ q,K (.v (.ref q)) z m ((q,ListO (vs.drop n))::Δ)):LSl C (.v (.ref l)) (.i (.ofNat n)) z m Δ K:=
 ⟨fun x y hx ⟨t,hy⟩=>by cases hx;subst hy;exact fun E s Q S q=>sl_drop S (h.has S) hn hz fun a s' S'=>q _ _ _ _ _ _ is_v (k a) S'⟩
theorem lf_neg {n:Int} {k0:Nat} {p pos:Pos} {K:AV→SP} (k:K (.i (-n)) z m Δ):L0 C AV.is (eval (.UnaryOp .USub (.Constant (.int n) k0 p) pos) C.env) z m Δ K:=
 ⟨T.step k fun S q=>UnaryOp_ (c_int S fun t s S=>o_neg S fun t s' S'=>q _ s' ⟨t,rfl⟩ S')⟩
theorem lf_atc {e:PySem.Expr} {n:Str} {pos:Pos} {K:AV→SP} (O:C.Okh) (h:(X C 60).e e z m Δ (atX C n K))
 (he:eval (.Attribute e n pos) C.env=(do
 let o ← eval e C.env
 standAt pos.atName
 let r ← holding [o] (getAttr o n true)
 letTemporaryGo e o r
 pure r):=by with_unfolding_all rfl):L0 C AV.is (eval (.Attribute e n pos) C.env) z m Δ K:=⟨fun E s Q S k=>
  Attribute_any_ ((X_ok O 60).e h E s _ S fun a v z m Δ s1 hv t S1=>L1.out t v hv E s1 Q S1 k) he⟩
theorem lf_iter {l:Addr} {vs:List AV} {K:AV→SP} (h:OF z Δ l (ListO vs)) (k:∀ it,K (.v (.ref it)) z m ((it,LItD l 0)::Δ)):LC C (.v (.builtin "iter")) [.v (.ref l)] z m Δ K:=
 lc1 (fun E s Q S q=>b_iterD S (h.has S) fun it s' S'=>q _ _ _ _ _ _ is_v (k it) S')
theorem lf_gnx {l it:Addr} {i:Nat} {K:AV→SP} (h:OF z Δ it (LItD l i)) (k:∀ q z',Sub z z'→Fz z' q (WrO it)→K (.v (.ref q)) z' m Δ):L1 C AV.is (fun v=>getAttr v "__next__" true) (.v (.ref it)) z m Δ K:=
 l1v (fun E s Q S q=>ga_itD S (h.has S) fun a s' S'=>by
  obtain ⟨z5,hz5⟩:=S'.freezeJ 0 rfl
  refine (?_:_→_→_→_) hz5.1 hz5.2.1 hz5.2.2
  intro hz5 hq S'
  exact q _ _ _ _ _ _ is_v (k a z5 hz5 hq) S')
theorem lf_defF {w:World} {ρ:Rest} {A:Around} {z:Z} {Δ:Ds} {f:Addr} {name qual:Str} {params:Arguments} {body:List Stmt} {scope:Scope} {dV kV doc pm cdv ct oc:Value} {an od:Option Addr} {osl:Array (Option Value)} {as:List AV} {n:Nat} {fs:List Env} {Δf:Ds} {K:AV→Z→Ds→Prop} (R:Room A (n+1)) (hfr:A.frames=some fs) (hF:Frs fs Δf)
 (h:∀ L A',Room A' n→let C:Cx:=⟨w,ρ,A',envOf qual scope L f cdv⟩;A'.frames=some (C.env::fs)→(∀ {m' Δ'},(∀ p,p∈Δf→FrP p.2→p∈Δ')→Frs (C.env::fs) ((L,FrO m')::Δ'))→C.Ok→(X C 60).ss body z ((params.args.map (·.arg)).zip as) Δ (kFn K))
  (ho:List.lookup f (hdp.heap_1_39 w.params)=some ⟨oc,od,.func (fnOf name qual params body scope dV kV doc pm an cdv ct),osl⟩) (hcd:codeIn (hdp.heap_1_39 w.params) cdv qual=true)
  (hbind:∀ args,args.length=as.length→bindArgs (fnOf name qual params body scope dV kV doc pm an cdv ct) ⟨args,[]⟩=pure ((params.args.map (·.arg)).zip args)) (hloc:∀ x∈params.args.map (·.arg),scope.names.lookup x=some .local) (hnd:(params.args.map (·.arg)).Nodup)
  (hco:scope.isCoroutine=false) (hgen:scope.isGenerator=false) (hk:scope.kind=.function) (hcell:∀ x∈scope.names,x.2≠.cell):CF w ρ A f as z Δ K:=
  ⟨fun xs hxs E s Q S k=>wpAny_call (by
   refine (?_:_→_) (zip_fst_sub (params.args.map (·.arg)) xs)
   intro hsub
   exact cfcN (Rs:=RQ Q E) S hfr hF ho hcd R (BindsTo.of_eq (hbind xs hxs.length)) (fun x hx=>hloc x (hsub.subset hx)) (BRel.zip hxs) (hnd.sublist hsub) (fun L s' A' R' hfr' hF' S'=>by
   refine (?_:(Cx.Ok ⟨w,ρ,A',envOf qual scope L f cdv⟩)→_) (⟨hk,rfl,rfl,R'.le (Nat.zero_le _)⟩)
   intro O
   exact (X_ok O.h 60).ss (h L A' R' hfr' hF' O) _ s' _ S' fun fl v z' m' Δ' s'' hv t S''=>let ⟨_,hw,t⟩:=t;k _ _ _ _ _ (retA_is hv) t (hw.st S''.tail)) hco hgen hk hcell)⟩
theorem lf_tryN {n ln:Str} {p1 p2 p3 p4 p5 p6 p7 p8 p9 hp pos:Pos} {k0:Nat} {b0:Stmt} {suite:List Stmt} {ls wr it l:Addr} {vs xs:List AV} {i j ji:Nat} {outer:List Env} {K:Fl→SP} (O:C.Ok) (hfr:C.A.frames=some (C.env::outer)) (hf:C.env.frame=some C.env.locals)
 (hF:Frs (C.env::outer) ((C.env.locals,FrO m)::Δ.eraseIdx ji)) (hk:C.env.kindOf ln=some .local) (hd:(ln == "__debug__")=false) (hl:lk m ln=some (.v (.ref ls)))
 (hs:C.env.kindOf "StopIteration"=some .globalImplicit)
 (hj:Δ[j]?=some (ls,ListO (vs++[.v (.ref wr)]))) (hz:vs.length≤1000) (hw:Fz z wr (WrO it)) (hi:Δ[ji]?=some (it,LItD l i)) (hx:Fz z l (ListO xs))
 (k1:∀ a,xs[i]?=some a→stX C n (K .brk) a z m (Δ.set ji (it,LItD l (i+1))))
 (k2:xs[i]?=none→∀ A',let D:Cx:=⟨C.w,C.ρ,A',C.env⟩;D.Okh→(X D 60).ss (b0::suite) z m (Δ.eraseIdx ji) K)
  (hsw:swapsWith (.Call (.Subscript (.Name ln p2) (.UnaryOp .USub (.Constant (.int 1) k0 p3) p4) p5) [] [] p6) (some (.Name n p1)) p7.line C.env=pure false:=by rfl) :
  L0 C Fl.is (exec (.Try [.Assign [.Name n p1] (.Call (.Subscript (.Name ln p2) (.UnaryOp .USub (.Constant (.int 1) k0 p3) p4) p5) [] [] p6) p7,.Break p8] [.ExceptHandler (some (.Name "StopIteration" p9)) none (b0::suite) hp] [] [] pos) C.env) z m Δ K:=⟨by
  intro E s Q S k
  refine s_try (ρ:=C.ρ) (T:="StopIteration") hfr hf stop_base stop_meta stop_self ?_
  refine wpAny_execs_cons (wpAny_Assign_Name (PyProof.Rows.Call_ (Subscript_ (ld S rfl O.k hk hd hl fun v hv=>?_)) rfl) hsw)
  cases hv
  refine UnaryOp_ (c_int S fun t s S=>o_neg S fun t s S=>?_)
  refine sub_last (S.at (j+1) hj) hz fun v hv=>?_
  cases hv
  refine (let Gl:Prop:=_;(?_:Gl))
  obtain ⟨arr,hla⟩:=ListO.isL (S.fz hx)
  refine (?_:_→_→_) hla.1 hla.2
  intro hla hr
  refine (?_:(((C.env.locals,FrO m)::([]++(it,LItD l i)::Δ.eraseIdx ji)).Perm ((C.env.locals,FrO m)::Δ))→_) ((perm_erase hi).cons _)
  intro p
  cases hxi:xs[i]? with
  | some a=>
   obtain ⟨x,hx2⟩:=hr.getA hxi
   refine (?_:_→_→_) hx2.1 hx2.2
   intro hx2 hxa
   refine wr_item (S.perm p) (S.fz hw) hla hx2 fun s S=>?_
   refine (?_:(St C.w C.ρ z ((C.env.locals,FrO m)::Δ.set ji (it,LItD l (i+1))) s)→_) (S.perm (by
    refine (?_:((Δ.set ji (it,LItD l (i+1)))[ji]?=some (it,LItD l (i+1)))→_) (by
     rw [List.getElem?_set,if_pos rfl,if_pos (List.getElem?_eq_some_iff.mp hi).1])
    intro hj2
    refine List.Perm.cons _ ?_
    refine (?_:_→_) (perm_erase hj2)
    intro this
    rw [List.eraseIdx_set_eq] at this
    exact this.symm))
   intro S
   exact stX_ok O.h (k1 a hxi) x hxa _ s _ S fun g g z m Δ s2 g t2 S2=>wpAny_execs_cons (wpAny_Break (k .brk _ _ _ _ _ rfl t2 S2))
  | none=>
   refine wr_end O.r.hd (S.perm p) (S.fz hw) hla (by rw [Array.getElem?_eq_none_iff,hr.sizeA];exact List.getElem?_eq_none_iff.mp hxi) fun ev s S=>?_
   refine ⟨ev,z,_,_,rfl,S,hF,fun s2 A' E' Q' S hQ=>?_,fun s2 A' E' S g g g=>?_⟩
   ·obtain ⟨h1,h2,v,h3,h4⟩:=blT_ok C.w _ (lk_mem (show lk blT "StopIteration"=some (.v (.type "StopIteration")) from rfl))
    cases h4
    exact ldb S O.g O.b O.k hs rfl h1 h2 h3 hQ
   ·refine (?_:(Cx.Okh ⟨C.w,C.ρ,A',C.env⟩)→_) (⟨O.k,O.g,O.b⟩)
    intro O2
    exact (X_ok O2 60).ss (k2 hxi A' O2) E' s2 Q S k⟩
theorem lf_asga {o v:PySem.Expr} {n:Str} {p pos:Pos} {K:Fl→SP} (O:C.Okh) (h:L0 C AV.is (eval v C.env) z m Δ (kSetA C (X C 60) o n K)) (hs:swapsWith v (some (.Attribute o n p)) pos.line C.env=pure false:=by rfl):L0 C Fl.is (exec (.Assign [.Attribute o n p] v pos) C.env) z m Δ K:=⟨fun E s Q S k=>
 plainObj_wpAny_Assign_Attribute (h.out E s _ S fun a v z m Δ s1 hv t S1=>(X_ok O 60).e t E s1 _ S1 fun b u z m Δ s2 hu t2 S2=>L2.out t2 u v hu hv E s2 _ S2 fun g g z m Δ s4 g t4 S4=>k _ _ _ _ _ _ Fl.n t4 S4) hs⟩
theorem lf_vals {d:Addr} {kv:Loc} {K:AV→SP} (h:OF z Δ d (DictO C.w kv)) (hb:(d == sysModules)=false) (k:∀ q,K (.v (.ref q)) z m ((q,ViewO "dict_values" d)::Δ)):LC C (.v (.builtin "dict.values")) [.v (.ref d)] z m Δ K:=
 lc1 (fun E s Q S q=>d_values S (h.has S) hb fun r s' S'=>q _ _ _ _ _ _ is_v (k r) S')
theorem src_vals {α:Type} {v d:Addr} {H:Value→(List α→Ds)→Prop} (f:α→Str×AV) (l:List α) (hv:OF z Δ v (ViewO "dict_values" d)) (hf:Fz z d (DictO C.w (l.map f)))
 (hN:∀ it J,Nx C.w C.ρ z it (fun a v=>AV.is (f a).2 v) J []→H it J):Src C (.v (.ref v)) z Δ Δ H l:=by
  intro E s Q m u hu S k
  cases hu
  exact it_vals S (hv.has S) hf fun it ep s' N S'=>k _ _ s' (hN _ _ (N.map f)) S'
theorem lc_see {f:Addr} {as:List AV} {K:AV→SP} (Δ1:Ds) (hw:Wk ((C.env.locals,FrO m)::Δ) Δ1) (h:CF C.w C.ρ C.A f as z Δ1 fun r z' Δ''=>∃ Δ2,Wk Δ'' ((C.env.locals,FrO m)::Δ2)∧K r z' m Δ2):LC C (.v (.ref f)) as z m Δ K:=
 ⟨fun x xs hx hxs=>by
  cases hx
  intro E s Q S k
  refine h.out xs hxs E s Q (hw.st S) fun r v z' Δ'' s' hv t S'=>?_
  obtain ⟨Δ2,hw2⟩:=t
  refine (?_:_→_→_) hw2.1 hw2.2
  intro hw2 t
  exact k _ _ _ _ _ _ hv t (hw2.st S')⟩
theorem s_if {w:World} {ρ:Rest} {A:Around} {env:Env} {L:Addr} (O:Cx.Okh ⟨w,ρ,A,env⟩) {t:PySem.Expr} {b e:List Stmt} {pos:Pos} {E:VP} {s:Shared} {Q:Flow→Shared→Prop} (S:St w ρ z ((L,FrO m)::Δ) s)
 (h:let D:Cx:=⟨w,ρ,A,env⟩;(X D 60).b t z m Δ fun c z' m' Δ'=>∀ s',St w ρ z' ((L,FrO m')::Δ') s'→wpAny (model PG w) A (execs (if c then b else e) env) Q E s') (hL:env.locals=L:=by rfl):wpAny (model PG w) A (exec (.If t b e pos) env) Q E s:=by
  subst hL
  exact wpAny_If (((X_ok O 60).b h).b E s _ S fun c z m Δ s1 t S1=>by
   refine (?_:_→_) (t s1 S1)
   intro t
   cases c <;> exact t)
theorem lf_fstr {e:PySem.Expr} {pos:Pos} {K:AV→SP} (O:C.Okh) (h:(X C 60).e e z m Δ K):L0 C AV.is (eval (.JoinedStr [e] pos) C.env) z m Δ K:=⟨fun E s Q S k=>PyProof.Rows.JoinedStr_one ((X_ok O 60).e h E s Q S k)⟩
theorem src_dk {α:Type} {d:Addr} {H:Value→(List α→Ds)→Prop} (f:α→Str×AV) (l:List α) (hf:Fz z d (DictO C.w (l.map f))) (hb:(d == sysModules)=false)
 (hN:∀ it J,Nx C.w C.ρ z it (fun a v=>∃ t,v=.str (f a).1 t) J []→H it J):Src C (.v (.ref d)) z Δ Δ H l:=by
  intro E s Q m v hv S k
  cases hv
  exact it_dict S hf hb fun it ep s' N S'=>k _ _ s' (hN _ _ (N.map f)) S'
end
section
variable {w:World} {A:Around} {ρ:Rest} {z:Z} {Δ:Ds}
structure FS where
 T:List SE
 fin:List Nat
 node:Nat
 z:Z
noncomputable def FS.Ok (su:Nat→List Nat) (order d:List Nat) (z:Z) (y:FS):Prop:=Sub z y.z∧DInv su y.fin (ki y.T)∧(∀ x∈d,x∈y.fin)∧(∀ x∈nms y.T y.fin,x∈order)∧∀ e∈y.T,Fz y.z e.wr (WrO e.it)
noncomputable abbrev FS.mu (su:Nat→List Nat) (y:FS):Nat:=dwork su (nms y.T y.fin).length (ki y.T)
noncomputable abbrev frS (a:SA) (sk its sn n2:Addr):Loc:=[("self",.v (.ref a.x)),("n2i",.v (.ref a.n2i)),("stack",.v (.ref sk)),("itstack",.v (.ref its)),("seen",.v (.ref sn)),("node2stacki",.v (.ref n2))]
theorem find_cycle_T {a:SA} {r:Addr} {order:List Nat} {su:Nat→List Nat} {st:Ps} {fs:List Env} {K:AV→Z→Ds→Prop} (ok:POk w z a order su)
 (hsu:∀ k,(su k).length≤50) (hso:∀ k∈order,∀ j∈su k,j∈order) (R:Room A 2) (hfr:A.frames=some fs) (hF:Frs fs Δ)
 (K1:∀ z' fin,Sub z z'→DInv su fin []→(∀ k∈order,k∈fin)→K (.v .none) z' (postE a r order st++Δ))
 (K2:∀ q z' rg,Sub z z'→Ring su rg→(∀ k∈rg,k∈order)→rg.length≤10→K (.v (.ref q)) z' ((q,ListO (nAVs rg))::(postE a r order st++Δ))) :
 CF w ρ A 120 [.v (.ref a.x)] z (postE a r order st++Δ) K:=by
  refine lf_defF (by assumption) (by assumption) (by assumption) ?_ (by k_is) (by k_is) (by first | exact args1 fun b=>rfl | exact args2 fun b b=>rfl) (by decide) (by decide) (by rfl) (by rfl) (by rfl) (by decide)
  intro L A' R' C hfr' hF' O
  refine (?_:_→_) (ok.ok.x)
  intro hx
  refine lf_ga at_n2i (.fz hx) (.own 0 rfl) rfl fun sk=>fun its=>⟨lf_set0 fun sn=>lf_dict0 fun n2=>?_,rfl⟩
  obtain ⟨p,M⟩:=as_suc (w:=w)
  refine (?_:((fun b:Str=>false)=sE (nms [] []))→_) (rfl)
  intro e0
  rw [e0]
  refine LF.wk (Wk.pick 4 [3,2,1,0] rfl) (lf_for0 (σ:=Z×List Nat) (items:=order) (up:=fun k m=>setl m "node" (.s (nm k))) (·.1) (fun b=>frS a sk its sn n2) (fun x=>stE w a sk its sn n2 [] x.2++(postE a r order st++Δ))
   (fun d b x=>DInv su x.2 []∧(∀ k∈d,k∈x.2)∧∀ k∈x.2,k∈order) O (z,[]) ?src ⟨⟨by simp,by simp⟩,fun b h=>(nomatch h),fun b h=>(nomatch h)⟩ ?turn ?fin [] rfl rfl)
  case src=>
   refine src_dk (fun k=>(nm k,.v (.ref (a.nu k)))) order ok.n2i ok.big fun it J N=>Its.n N rfl rfl
  case fin=>
   intro x hz3 ⟨hD,hd1,hfo⟩
   exact kFn_i (m:=[]) _ (Wk.pick 4 [] rfl) (K1 _ _ hz3 hD hd1)
  case turn=>
   intro zg mg Δg Ig Kg d k rr x hd hz3 hI J Kf F
   refine (?_:_→_) (hI.1)
   intro hD
   have hd1:=hI.2.1
   refine (?_:_→_) (hI.2.2)
   intro hfo
   have hk:k∈order:=hd▸List.mem_append_right _ (.head _)
   obtain ⟨Y,hY⟩:∃ Y,Y=postE a r order st++Δ++J:=⟨_,rfl⟩
   have e1:∀ fin,stE w a sk its sn n2 [] fin++(postE a r order st++Δ)++J=stE w a sk its sn n2 [] fin++Y:=fun fin=>by rw [hY];rfl
   refine (?_:(∀ {m':Loc} {X:Ds},Frs _ ((L,FrO m')::(X++Y)))→_) (fun {m' X}=>hF' (m':=m') (Δ':=X++Y) fun p hp b=>by
    rw [hY]
    exact List.mem_append_right _ (List.mem_append_left _ (List.mem_append_right _ hp)))
   intro hYF
   refine (?_:((postE a r order st++Δ).Sublist Y)→_) (by rw [hY];exact List.sublist_append_left _ _)
   intro hYs
   refine (?_:(∀ k∈order,∃ j,Y[j]?=some (a.nu k,nodeO a k (st.np k)))→_) (fun k hk=>by
    rw [hY]
    exact ⟨order.idxOf k+2,nodesP_getJ hk⟩)
   intro hYn
   refine ⟨lf_ins (.own 2 rfl) ?_⟩
   rw [sE_in]
   by_cases hin:k∈nms [] x.2
   ·refine it_t (decide_eq_true hin) (F.ct x _ wkr (.refl _) ⟨hD,fun y hy=>?_,hfo⟩)
    rcases List.mem_append.mp hy with hy | hy
    ·exact hd1 y hy
    ·rw [List.mem_singleton.mp hy];exact hin
   ·refine it_f (decide_eq_false hin) ?_
    refine lf_while (σ:=FS) (·.z) (fun y=>setl (frS a sk its sn n2) "node" (.s (nm y.node))) (fun y=>stE w a sk its sn n2 y.T y.fin++Y) (fun y=>y.Ok su order d x.1∧SInv su y.fin y.node (ki y.T)∧y.node∈order∧(k∈nms y.T y.fin∨y.node=k)) (FS.mu su) O ⟨[],x.2,k,x.1⟩ ⟨⟨.refl _,hD,hd1,hfo,fun b h=>(nomatch h)⟩,trivial,hk,.inr rfl⟩ ?_ [] rfl rfl (Wk.eq (e1 _))
    intro zg2 mg2 Δg2 Ig2 μ2 Kg2 y hI Kb F2
    refine (let g:Prop:=_;(?_:g))
    obtain ⟨⟨hz4,hD,hd1,hfo,hwr⟩,hS,hno,hkn⟩:=hI
    refine it_t rfl ?_
    refine joinR (σ:=FS) (·.z) (fun y=>setl (frS a sk its sn n2) "node" (.s (nm y.node))) (fun y=>stE w a sk its sn n2 y.T y.fin++Y) (fun y'=>y'.Ok su order d x.1∧IInv su y'.fin (ki y'.T)∧k∈nms y'.T y'.fin∧Sub y.z y'.z∧y'.mu su≤y.mu su) ?tl ?body
    case tl=>
     intro Kj y2 hJ
     refine (let g:Prop:=_;(?_:g))
     obtain ⟨⟨hz5,hD,hd1,hfo,hwr⟩,hI,hk',hz6,hw⟩:=hJ
     refine lf_whileE (σ:=FS) (·.z) (fun b=>frS a sk its sn n2) (fun y=>stE w a sk its sn n2 y.T y.fin++Y) (fun y'=>y'.Ok su order d x.1∧IInv su y'.fin (ki y'.T)∧k∈nms y'.T y'.fin∧y'.mu su≤y.mu su) (FS.mu su) O.h y2 ⟨⟨hz5,hD,hd1,hfo,hwr⟩,hI,hk',hw⟩ ?_ [("node",.s (nm y2.node))] rfl rfl wkr
     intro zw mw Δw Iw μw Kw y2 hJ Kb2 F3
     refine (let g:Prop:=_;(?_:g))
     obtain ⟨⟨hz5,hD,hd1,hfo,hwr⟩,hI,hk',hw⟩:=hJ
     have hnl:=nms_len (w:=w) hD hfo ok.ok.lt
     refine (?_:_→_) (bs_len y2.T y2.fin)
     intro hbl
     refine lf_tl (.own 0 rfl) (by rw [List.length_map];exact ar245 hbl hnl) ?_
     cases hT:y2.T with
     | nil=>
      refine it_f rfl (F2.br (F.nx (y2.z,y2.fin) [] (Wk.eq (by rw [e1,← hT])) hz5 ⟨?_,fun y hy=>?_,?_⟩))
      ·rw [hT] at hD;exact hD
      ·rw [hT] at hk'
       rcases List.mem_append.mp hy with hy | hy
       ·exact hd1 y hy
       ·rw [List.mem_singleton.mp hy];exact hk'
      ·rw [hT] at hfo;exact hfo
     | cons e T0=>
      rw [hT] at hD hI hk' hfo hwr hnl hbl
      refine (?_:(dwork su ((nms T0 y2.fin).length+1) ((e.k,e.i)::ki T0)≤y.mu su)→_) (by rw [FS.mu,hT] at hw;exact hw)
      intro hw
      refine it_t (by rw [bs_cons,nAVs_snoc];cases nAVs (bs T0) <;> rfl) ?_
      refine (?_:(stE w a sk its sn n2 y2.T y2.fin++Y=_)→_) (congrArg (·++Y) ((congrArg (fun T=>stE w a sk its sn n2 T y2.fin) hT).trans (stE_push w a sk its sn n2 e T0 y2.fin)))
      intro e5
      refine (?_:(e.k∈order)→_) (hfo e.k (.head _))
      intro hek
      refine (?_:_→_) (hz3.trans hz5)
      intro hzy
      refine (?_:_→_) (hwr e (.head _))
      intro hwe
      have hbT:(bs T0).length=T0.length:=by rw [List.length_reverse,List.length_map,List.length_map]
      have hl0:T0.length≤6:=by rw [bs_cons,List.length_append,List.length_singleton] at hbl;exact ar304 hbl hbT hnl
      refine L0.wk (Wk.eq e5) (lf_tryN (ji:=4) (j:=1) O hfr' rfl (hYF (X:=_::_::_::_::itE a.sl T0)) rfl rfl rfl rfl rfl (by rw [List.length_reverse,List.length_map];exact ar131 hl0) hwe rfl (.mono (ok.sl e.k hek) hzy) ?k1 ?k2)
      case k1=>
       intro av hav
       rw [List.getElem?_map] at hav
       cases hsu2:(su e.k)[e.i]? with
       | none=>rw [hsu2] at hav;cases hav
       | some n=>
        rw [hsu2] at hav
        cases hav
        refine F3.br (F2.nx ⟨{ e with i:=e.i+1 }::T0,y2.fin,n,y2.z⟩ [] (Wk.eq ?_) (Nat.lt_of_lt_of_le (dwork_take (List.getElem?_eq_some_iff.mp hsu2).1) hw) ⟨⟨hz5,hD.step,hd1,hfo,fun x hx=>?_⟩,hI.take hsu2,hso e.k hek n (List.mem_of_getElem? hsu2),.inl hk'⟩)
        ·exact (congrArg (·++Y) (stE_push w a sk its sn n2 { e with i:=e.i+1 } T0 y2.fin)).symm
        ·rcases List.mem_cons.mp hx with rfl | hx
         ·exact hwe
         ·exact hwr x (.tail _ hx)
      case k2=>
       intro hn A2 D O2
       refine (?_:((su e.k)[e.i]?=none)→_) (by rw [List.getElem?_map] at hn;exact Option.map_eq_none_iff.mp hn)
       intro hsu2
       refine (?_:(e.k ∉ bs T0)→_) (fun h=>by
        refine (?_:_→_) (hD.nd)
        intro this
        simp only [ki,List.map_cons,List.cons_append,List.nodup_cons] at this
        exact this.1 (List.mem_append_left _ (List.mem_reverse.mp h)))
       intro hnk
       refine (?_:((lk (kvF 0 (bs T0++[e.k])) (nm e.k)).isSome=true)→_) (by
        obtain ⟨p,_,h⟩:=kvF_some (n:=0) (l:=bs T0++[e.k]) (k:=e.k) (List.mem_append_right _ (.head _))
        rw [h];rfl)
       intro hns
       refine (?_:_→_) (nms_move T0 y2.fin e.k)
       intro hmem
       refine (?_:((nms T0 (y2.fin++[e.k])).length=(nms T0 y2.fin).length+1)→_) (by rw [nms,nms,← List.append_assoc,List.length_append];rfl)
       intro hlen
       refine lf_del O2 (lf_gml (.own 0 rfl) PySem.F.slot_list_pop PySem.F.type_list_pop (lf_pop (j:=0) rfl ?l1 (lf_ddel (j:=3) rfl hns ?l2 ?_)))
       case l1=>rw [List.length_map];exact ar244 hbT hl0
       case l2=>rw [kvF_len,List.length_append,List.length_singleton];exact ar255 hbT hl0
       refine lf_gml (.own 1 rfl) PySem.F.slot_list_pop PySem.F.type_list_pop (lf_pop (j:=1) rfl ?l3 ?_)
       case l3=>rw [List.length_reverse,List.length_map];exact ar148 hl0
       rw [kvF_pop hnk]
       refine (?_:_→_) (dwork_pop (su:=su) (seen:=(nms T0 y2.fin).length+1) (k:=e.k) (i:=e.i) (r:=ki T0))
       intro hdp
       refine (?_:(FS.mu su ⟨T0,y2.fin++[e.k],0,y2.z⟩<dwork su ((nms T0 y2.fin).length+1) ((e.k,e.i)::ki T0))→_) (by
        show dwork su (nms T0 (y2.fin++[e.k])).length (ki T0)<_
        rw [hlen];exact hdp)
       intro hmu
       refine F3.nx ⟨T0,y2.fin++[e.k],0,y2.z⟩ [] (Wk.eq ?_) (by show _<dwork su (nms y2.T y2.fin).length (ki y2.T);rw [hT];exact hmu) ⟨⟨hz5,hD.pop hI hsu2,fun x hx=>List.mem_append_left _ (hd1 x hx),fun x hx=>hfo x ((hmem x).mpr hx),fun x hx=>hwr x (.tail _ hx)⟩,hI.pop,(hmem k).mp hk',Nat.le_trans (Nat.le_of_lt hmu) hw⟩
       show _=(sk,ListO (nAVs (bs T0)))::(its,ListO (wrs T0))::(sn,SetO w (sE (nms T0 (y2.fin++[e.k]))) (nms T0 (y2.fin++[e.k])).length)::(n2,DictO w (kvF 0 (bs T0)))::itE a.sl T0++Y
       rw [hlen,← sE_congr hmem]
       rfl
    case body=>
     intro zj mj Δj Jj Kr Kj tail rt
     refine lf_ins (.own 2 rfl) ?_
     rw [sE_in]
     have hnl:=nms_len (w:=w) hD hfo ok.ok.lt
     refine (?_:_→_) (bs_len y.T y.fin)
     intro hbl
     by_cases hin:y.node∈nms y.T y.fin
     ·refine it_t (decide_eq_true hin) ⟨L2.big 3 rfl fun hb=>lf_ind (.own 3 rfl) hb ?_⟩
      by_cases hst:y.node∈bs y.T
      ·obtain ⟨p,hp⟩:=kvF_some (n:=0) hst
       refine (?_:_→_→_) hp.1 hp.2
       intro hp hl
       refine (?_:(p<(bs y.T).length)→_) ((List.getElem?_eq_some_iff.mp hp).1)
       intro hpl
       rw [hl]
       refine it_t rfl (lf_sld O.h (lf_d (.own 3 rfl) hl (ls_drop (n:=0+p) (.own 0 rfl) (by rw [List.length_map];exact ar154 hpl) (by rw [List.length_map];exact ar221 hbl hnl) fun q q2=>?_)))
       refine lf_addl (.own 1 rfl) (.own 0 rfl) (by rw [List.length_drop,List.length_map];show _+1≤_;exact ar336 hbl hnl) fun q3=>?_
       refine rt _ _ _ _ (F2.rt (F.rt (kFn_i (m:=[]) _ (.subl ?_) (K2 q3 y.z ((bs y.T).drop p++[y.node]) (hz3.trans hz4) (hS.ring hp) (fun x hx=>?_) ?_))))
       ·refine (?_:(List.drop (0+p) (nAVs (bs y.T))++[AV.s (nm y.node)]=nAVs ((bs y.T).drop p++[y.node]))→_) (by
         rw [Nat.zero_add,← List.map_drop];exact (List.map_append (l₂:=[y.node])).symm)
        intro e4
        rw [e4]
        exact (hYs.trans (List.sublist_append_right (_::_::_::_::_::_::itE a.sl y.T) _)).cons_cons _
       ·rcases List.mem_append.mp hx with hx | hx
        ·exact hfo x (List.mem_append_left _ (List.mem_reverse.mp (List.mem_of_mem_drop hx)))
        ·rw [List.mem_singleton.mp hx];exact hno
       ·rw [List.length_append,List.length_drop,List.length_singleton];exact ar288 hbl hnl
      ·rw [kvF_none hst]
       have hnf:y.node∈y.fin:=(List.mem_append.mp hin).resolve_left fun h=>hst (List.mem_reverse.mpr h)
       refine it_f rfl (tail y ⟨⟨hz4,hD,hd1,hfo,hwr⟩,hS.old hnf,hkn.elim id (fun e=>e▸hin),.refl _,Nat.le_refl _⟩)
     ·refine it_f (decide_eq_false hin) ?_
      have hnst:y.node ∉ (ki y.T).map (·.1):=fun h=>hin (List.mem_append_left _ h)
      refine (?_:(y.node ∉ y.fin)→_) (fun h=>hin (List.mem_append_right _ h))
      intro hnfin
      have hfo':∀ x∈nms (⟨y.node,0,0,0⟩::y.T) y.fin,x∈order:=fun x hx=>(List.mem_cons.mp hx).elim (fun e=>e▸hno) (hfo x)
      have hnl3:(nms y.T y.fin).length+1≤7:=nms_len (w:=w) (T:=⟨y.node,0,0,0⟩::y.T) (hD.push hnst hnfin) hfo' ok.ok.lt
      refine lf_gms (.own 2 rfl) (lf_sadd (j:=2) rfl (by exact ar145 hnl3) ?_)
      rw [sE_push,sE_in,if_neg (by rw [decide_eq_false hin];exact Bool.false_ne_true)]
      refine lf_gml (.own 1 rfl) PySem.F.slot_list_append PySem.F.type_list_append (lf_atc O.h ?_)
      refine (let g:Prop:=_;(?_:g))
      obtain ⟨j,hj⟩:=hYn y.node hno
      refine (?_:_→_) (hz3.trans hz4)
      intro hzy
      refine lf_d (.fz (ok.n2i.mono hzy)) (lk_names hno) ?_
      refine (?_:(∀ B:Ds,OF y.z (B++Y) (a.nu y.node) (nodeO a y.node (st.np y.node)))→_) (fun B=>.own (B.length+j) (by rw [List.getElem?_append_right (Nat.le_add_right ..),Nat.add_sub_cancel_left];exact hj))
      intro oj
      refine lf_gs M (oj (_::_::_::_::itE a.sl y.T)) (.fz ((ok.ok.nd y.node hno).mono hzy)) rfl ?_
      refine lf_iter (.fz ((ok.sl y.node hno).mono hzy)) fun it0=>lf_gnx (.own 0 rfl) fun q z5 hz5 hq=>?_
      refine (?_:((bs y.T).length=y.T.length)→_) (by rw [List.length_reverse,List.length_map,List.length_map])
      intro hbT
      refine lf_append (j:=2) rfl (by rw [List.length_reverse,List.length_map];exact ar341 hnl3 hbT hbl) ?_
      refine lf_len (.own 1 rfl) (by rw [List.length_map];exact ar76 hbl hnl3) (lf_dset (j:=4) rfl (by rw [kvF_len];exact ar257 hbl hnl3) ?_)
      refine lf_gml (.own 1 rfl) PySem.F.slot_list_append PySem.F.type_list_append ?_
      refine LC.wk (Wk.pick 5 [1,2,3,4,0] rfl) (lf_append (j:=0) rfl (by rw [List.length_map];exact ar76 hbl hnl3) ?_)
      refine (?_:_→_) (tail ⟨⟨y.node,0,q,it0⟩::y.T,y.fin,y.node,z5⟩ ⟨⟨hz4.trans hz5,hD.push hnst hnfin,hd1,hfo',?_⟩,hS.push,?_,hz5,?_⟩)
      intro t
      ·refine (?_:(setl (kvF 0 (bs y.T)) (nm y.node) (.i (Int.ofNat (nAVs (bs y.T)).length))=kvF 0 (bs y.T++[y.node]))→_) (by
        rw [← kvF_push (fun h=>hnst (List.mem_reverse.mp h)),Nat.zero_add,List.length_map];rfl)
       intro e2
       refine (?_:_→_) (stE_push w a sk its sn n2 ⟨y.node,0,q,it0⟩ y.T y.fin)
       intro e3
       rw [← e2] at e3
       exact Eq.mp (congrArg (fun D=>Kj .next z5 (mg2 y) (D++Y)) e3) t
      ·intro e he
       rcases List.mem_cons.mp he with rfl | he
       ·exact hq
       ·exact (hwr e he).mono hz5
      ·rcases hkn with h | rfl
       ·exact .tail _ h
       ·exact .head _
      ·refine (?_:_→_) (dwork_push hsu (n:=y.node) (stk:=ki y.T) (seen:=(nms y.T y.fin).length) (by exact ar202 hnl3 hnl))
       intro this
       exact Nat.le_of_lt (Nat.lt_of_lt_of_le (Nat.lt_succ_self _) this)
end
open Classical in
theorem sum_ind {α:Type} (a:α):∀ l:List α,(l.map fun b=>if b=a then 1 else 0).sum=l.count a
 | []=>rfl
 | b::l=>by
  rw [List.map_cons,List.sum_cons,sum_ind a l,List.count_cons]
  by_cases q:b=a
  ·simp [q];exact ar114
  ·simp [q]
open Classical in
theorem le_split {α:Type}:∀ {l l':List α},(∀ a,l'.count a≤l.count a)→∃ r,(l'++r).Perm l
 | l,[],_=>⟨l,List.Perm.refl _⟩
 | l,x::l',h=>by
  refine (?_:(x∈l)→_) (by
   refine (?_:_→_) (h x)
   intro this
   rw [List.count_cons_self] at this
   exact List.count_pos_iff.mp (by exact ar157 this))
  intro hx
  refine (?_:_→_) (List.perm_cons_erase hx)
  intro hp
  obtain ⟨r,hr⟩:=le_split (l:=l.erase x) (l':=l') (fun a=>by
   refine (?_:_→_) (h a)
   intro h1
   refine (?_:_→_) (hp.count_eq a)
   intro h2
   rw [List.count_cons] at h1 h2
   exact ar291 h1 h2)
  exact ⟨r,(hr.cons x).trans hp.symm⟩
open Classical in
theorem le_of_sum {α:Type} {l l':List α} (h:∀ f:α→Nat,(l'.map f).sum≤(l.map f).sum):∃ r,(l'++r).Perm l:=
 le_split fun a=>by
  refine (?_:_→_) (h fun b=>if b=a then 1 else 0)
  intro this
  rwa [sum_ind,sum_ind] at this
section
variable {w:World} {ρ:Rest} {z:Z} {Δ Δ':Ds} {s:Shared}
theorem St.le (S:St w ρ z Δ s) (h:∀ f:Addr×OP→Nat,(Δ'.map f).sum≤(Δ.map f).sum):St w ρ z Δ' s:=by
 obtain ⟨r,hr⟩:=le_of_sum h
 exact (S.perm hr).sub (List.sublist_append_left _ _)
end
section
variable {w:World} {A:Around} {ρ:Rest} {z:Z} {Δ:Ds}
theorem K59 (w:World):List.lookup 59 (hdp.heap_1_39 w.params)=some { cls:=.type "tuple",data:=.seq #[.none] }:=by k_is
theorem cls_srt:ClsO w 130 66:=⟨by k_is,by k_is,by k_is⟩
theorem init0_T {x dx:Addr} {K:AV→Z→Ds→Prop} (hx:Fz z x (InsO 130 dx)) (R:Room A 1) (h:∀ d,K (.v .none) z ((dx,EntO (SM d .none 0 0))::(d,DictO w [])::Δ)) :
 CFV w ρ A 66 [.v (.ref x)] z ((dx,EntO [])::Δ) K:=by
  refine' lf_defB (by assumption) ?hds ?_ (by k_is) (by k_is) ?hbind (by decide) (by decide) (by rfl) (by rfl) (by rfl) (by decide)
  case hds=>exact .cons (a:=.v .none) rfl .nil
  case hbind=>
   intro xs s hl hK
   obtain _ | ⟨x,_ | _⟩:=xs
   ·cases hl
   ·exact BindsTo.of_defaults rfl (hK _ _ (K59 w)) rfl rfl rfl
   ·cases hl
  intro L A' R C O
  refine lf_dict0 fun d=>lf_sa at_n2i (.fz hx) (j:=1) rfl ?_
  refine lf_sa at_rdy (.fz hx) (j:=1) rfl (lf_sa at_npo (.fz hx) (j:=1) rfl (lf_sa at_nfi (.fz hx) (j:=1) rfl ?_))
  refine ⟨lf_isnn (it_f rfl ?_)⟩
  exact kFn_i (m:=[]) _ (Wk.pick 2 [1,0] rfl) (h d)
end
section
variable {w:World} {A:Around} {E:VP} {s:Shared} {ρ:Rest} {z:Z} {Δ:Ds}
theorem StX.sub {e:Addr} {c a0 v:Value} {Δ':Ds} (X:StX w ρ z Δ e c a0 v s) (h:Δ'.Sublist Δ):StX w ρ z Δ' e c a0 v s:=
 ⟨X.st.sub h,X.z0,fun hm=>X.n0 ((h.map _).subset hm),X.at_⟩
theorem freeze_sl {a:SA} {np:Nat→Nat} {su:Nat→List Nat}:∀ {l:List Nat} {z:Z} {Δ:Ds},St w ρ z (nodesE a np su l++Δ) s →
 ∃ z',Sub z z'∧(∀ k∈l,Fz z' (a.sl k) (ListO (nAVs (su k))))∧St w ρ z' (nodesP a (fun k=>(np k:Int)) l++Δ) s
  | [],z,Δ,S=>⟨z,Sub.refl z,by simp,S⟩
  | k::l,z,Δ,S=>by
   rw [nodesE_cons] at S
   simp only [List.cons_append] at S
   obtain ⟨z1,h1⟩:=St.freeze1 S
   refine (?_:_→_→_→_) h1.1 h1.2.1 h1.2.2.2
   intro h1 h2 S
   obtain ⟨z2,g1,g2,S⟩:=freeze_sl (Δ:=(a.nu k,nodeO a k (np k))::Δ) (St.perm S List.perm_middle)
   refine ⟨z2,h1.trans g1,fun x hx=>?_,S.perm ?_⟩
   ·rcases List.mem_cons.mp hx with rfl | hx
    ·exact h2.mono g1
    ·exact g2 x hx
   ·exact List.perm_middle.symm
theorem to_post {a:SA} {g:Gr} (S:St w ρ z (preE w a g++Δ) s) (ok:SOk w z a g.order):∃ z',Sub z z'∧POk w z' a g.order g.su∧St w ρ z' ((a.dx,EntO (SM a.n2i .none 0 0))::(nodesP a (fun k=>(g.np k:Int)) g.order++Δ)) s:=by
 refine (?_:_→_) (S.big (S.lo (a.n2i,DictO w (nMap a g.order)) (.tail _ (.head _))))
 intro hbig
 simp only [List.cons_append] at S
 refine (let Gl:Prop:=_;(?_:Gl))
 obtain ⟨z1,h1⟩:=St.freeze1 S
 refine (?_:_→_→_→_) h1.1 h1.2.1 h1.2.2.2
 intro h1 h2 S
 obtain ⟨z2,g1⟩:=freeze_sl (Δ:=(a.dx,EntO (SM a.n2i .none 0 0))::Δ) (St.perm S List.perm_middle)
 refine (?_:_→_→_→_) g1.1 g1.2.1 g1.2.2
 intro g1 g2 S
 exact ⟨z2,h1.trans g1,⟨ok.mono (h1.trans g1),h2.mono g1,g2,hbig⟩,S.perm List.perm_middle.symm⟩
noncomputable abbrev msgC:Str:="nodes are in a cycle"
noncomputable abbrev rdOf (np:Nat→Nat) (order:List Nat):List Nat:=order.filter fun k=>decide (np k=0)
theorem m_fc (w:World):Meth w 130 "_find_cycle" 120:=⟨by k_is,by k_is,by k_is⟩
theorem prepare_spec {a:SA} {g:Gr} {fs:List Env} {Rs:Result→Shared→Prop} (S:St w ρ z (preE w a g++Δ) s) (ok:SOk w z a g.order)
 (hsu:∀ k,(g.su k).length≤50) (hso:∀ k∈g.order,∀ j∈g.su k,j∈g.order) (R:Room A 4) (hfr:A.frames=some fs) (hF:Frs fs Δ)
 (K1:∀ z' s' r fin,Sub z z'→POk w z' a g.order g.su→St w ρ z' (postE a r g.order ⟨fun k=>(g.np k:Int),rdOf g.np g.order,0,0⟩++Δ) s'→DInv g.su fin []→(∀ k∈g.order,k∈fin)→Rs (.ok (.ret .none)) s')
 (K2:∀ e tb t q z' s' r rg,Sub z z'→POk w z' a g.order g.su→Fz z' t (TupO [.s msgC,.v (.ref q)])→Fz z' q (ListO (nAVs rg))→Ring g.su rg→(∀ k∈rg,k∈g.order)→rg.length≤10 →
 StX w ρ z' ((tb,TbV .none)::(postE a r g.order ⟨fun k=>(g.np k:Int),rdOf g.np g.order,0,0⟩++Δ)) e (.ref 48) (.ref t) (.ref tb) s'→Rs (.error (.ref e)) s') :
 codeAny (model PG w) A (.call (.ref 85) ⟨[.ref a.x],[]⟩) Rs s:=by
  refine (let Gl:Prop:=_;(?_:Gl))
  obtain ⟨z0,hz0,pk,S⟩:=to_post S ok
  refine' cfcN (fs:=fs) (binds:=[("self",.ref a.x)]) (m:=[("self",.v (.ref a.x))]) S hfr hF ?ho ?hcd R ?hb ?hloc (.cons rfl .nil) ?hnd ?h ?h1 ?h2 ?h3 ?hcell
  case ho=>k_is
  case hcd=>k_is
  case hloc=>show ∀ x∈[("self":Str)],_;decide
  case hnd=>show [("self":Str)].Nodup;decide
  case hcell=>decide
  case hb=>exact .of_eq rfl
  case h1=>exact rfl
  case h2=>exact rfl
  case h3=>exact rfl
  intro L s A R hfr hF S
  have hx:=pk.ok.x
  refine (let Gl:Prop:=_;(?_:Gl))
  obtain ⟨p1,M1⟩:=as_npr (w:=w)
  obtain ⟨p0,M0⟩:=as_nod (w:=w)
  refine ss_cut 3 ⟨rfl,rfl,rfl,R.le (Nat.zero_le _)⟩ S ?_
  intro D O
  refine ⟨lf_ga at_rdy (.fz hx) (.own 0 rfl) rfl (lf_isnn (it_f rfl ?_))⟩
  refine lf_asga O.h (lf_comp O (lf_ga at_n2i (.fz hx) (.own 0 rfl) rfl (lf_gmd (.fz pk.n2i) PySem.F.slot_dict_values PySem.F.type_dict_values (lf_vals (.fz pk.n2i) pk.big fun v=>?_))))
  refine lf_lkF (ns:=["i"]) (f:=fun k=>[.v (.ref (a.nu k))]) O (src_vals (fun k=>(nm k,.v (.ref (a.nu k)))) g.order (.own 0 rfl) pk.n2i fun b b N Cc=>Its.of N (Asg.name (fun k=>.v (.ref (a.nu k))) (fun b b h=>h) rfl rfl)) (fun k=>decide (g.np k=0)) (fun k=>.s (nm k)) (F_fil _ _) (Nat.le_trans (nodup_len ok.nodup ok.lt) (by decide)) ?t1 ?f1 (by rw [List.append_nil];exact wkr)
  case t1=>
   intro d k r Cc D J hd Kt Ks hk hs C2 O2
   refine (?_:(k∈g.order)→_) (hd▸List.mem_append_right _ (.head _))
   intro hko
   refine (?_:_→_) (nodesP_getJ (Δ:=Δ) (J:=J) (a:=a) (np:=fun k=>(g.np k:Int)) hko)
   intro hj
   refine lf_gs M1 (.own (g.order.idxOf k+4) hj) (.fz (pk.ok.nd k hko)) rfl (lf_eq ?_)
   by_cases h0:g.np k=0
   ·refine it_t (by rw [h0];rfl) (lf_gs M0 (.own (g.order.idxOf k+4) hj) (.fz (pk.ok.nd k hko)) rfl ?_)
    exact hk (decide_eq_true h0) _ _ wkr
   ·exact it_f (beq_false_of_ne fun h=>h0 (Int.ofNat.inj h)) (hs (decide_eq_false h0) _ _ wkr)
  case f1=>
   intro D
   refine lf_sa at_rdy (.fz hx) (j:=2) rfl ?_
   refine lf_gmi (m_fc w) (.fz hx) (.own 2 rfl) rfl ?_
   refine lc_see (postE a D g.order ⟨fun k=>(g.np k:Int),rdOf g.np g.order,0,0⟩++((L,FrO [("self",AV.v (.ref a.x))])::Δ)) ?w1 (find_cycle_T pk hsu hso (R.le (by decide)) hfr ?F ?k1 ?k2)
   case w1=>exact (Wk.pick 4 [3,1,0] rfl).trans (.cons (.cons (.perm List.perm_middle)))
   case F=>exact hF fun p hp b=>hp
   case k1=>
    intro z' fin hz hD hfin
    refine ⟨_,.perm List.perm_middle.symm,?_⟩
    intro s S
    refine ss_cut 1 O S fun b=>⟨it_f rfl fun s S=>wpAny_execs_nil (K1 z' s D fin (hz0.trans hz) (pk.mono hz) S.tail hD hfin)⟩
   case k2=>
    intro q z' rg hz hring hord hlen
    refine ⟨_,.perm (List.perm_middle (l₁:=_::_::_)).symm,?_⟩
    intro s S
    obtain ⟨z5,hz5,hq,S⟩:=S.freezeJ 0 rfl
    refine (?_:_→_) (hring.len)
    intro hr2
    refine wpAny_execs_cons (s_if O.h S (lf_tl (.fz hq) (by rw [List.length_map];exact ar163 hlen) fun s S=>?_))
    rw [show (!(nAVs rg).isEmpty)=true from by cases rg with | nil=>cases hr2 | cons=>rfl]
    refine wpAny_execs_cons (raise_cyc S R.hd ((X_ok O.h 60).l (K:=fun as z m Δ'=>as=[.s msgC,.v (.ref q)]∧z=z5∧Δ'=postE a D g.order ⟨fun k=>(g.np k:Int),rdOf g.np g.order,0,0⟩++Δ) ?ax _ s _ S fun as vs z2 m2 Δ2 s2 hv t S2=>?_) rfl rfl rfl rfl)
    case ax=>exact lf_fstr O.h ⟨rfl,rfl,rfl⟩
    obtain ⟨rfl,rfl,rfl⟩:=t
    refine ⟨z2,_,_,_,S2,hv,Nat.le_of_ble_eq_true rfl,fun e t z3 s hz3 ht X=>leaveX0 X hfr (hF fun p hp b=>List.mem_append_right _ hp) rfl fun tb s X=>?_⟩
    refine K2 e tb t q z3 s D rg (hz0.trans (hz.trans (hz5.trans hz3))) (pk.mono (hz.trans (hz5.trans hz3))) ht (hq.mono hz3) hring hord hlen (X.sub ((List.sublist_cons_self ..).cons_cons _))
end
noncomputable def cntW (J:Jobs) (D:List Nat) (k:Nat):Nat:=((J k).waits.filter fun x=>!decide (x∈D)).length
structure SI (J:Jobs) (D O:List Nat) (st:Ps):Prop where
 np:∀ k,k<7→st.np k=if k∈D then -2 else if k∈O then -1 else (cntW J D k:Int)
 rdn:st.rd.Nodup
 rd:∀ k,k∈st.rd↔k<7∧k ∉ D∧k ∉ O∧cntW J D k=0
 p:st.p=D.length+O.length
 f:st.f=D.length
 nd:(D++O).Nodup
 lt:∀ k∈D++O,k<7
 cl:∀ k∈D++O,∀ x∈(J k).waits,x∈D
theorem cntW_nil (J:Jobs) (k:Nat):cntW J [] k=(J k).waits.length:=by
 unfold cntW
 rw [List.filter_eq_self.mpr (by simp)]
theorem cntW_zero {J:Jobs} {D:List Nat} {k:Nat} (h:cntW J D k=0):∀ x∈(J k).waits,x∈D:=by
 intro x hx
 unfold cntW at h
 refine (?_:_→_) (List.eq_nil_of_length_eq_zero h)
 intro this
 rw [List.filter_eq_nil_iff] at this
 simpa using this x hx
theorem cntW_zero' {J:Jobs} {D:List Nat} {k:Nat} (h:∀ x∈(J k).waits,x∈D):cntW J D k=0:=by
 unfold cntW
 rw [List.filter_eq_nil_iff.mpr (by simpa using h)];rfl
theorem filt_add {D:List Nat} {x:Nat} (hx:x ∉ D):∀ w:List Nat,(w.filter fun y=>!decide (y∈D)).length=(w.filter fun y=>!decide (y∈D++[x])).length+w.count x
 | []=>rfl
 | y::w=>by
  refine (?_:_→_) (filt_add hx w)
  intro ih
  rw [List.count_cons]
  by_cases h1:y∈D
  ·have h3:y≠x:=fun e=>hx (e▸h1)
   rw [List.filter_cons_of_neg (by simp [h1]),List.filter_cons_of_neg (by simp [h1]),if_neg (by simpa using h3)]
   exact ar264 ih
  ·by_cases h3:y=x
   ·subst h3
    rw [List.filter_cons_of_pos (by simp [h1]),List.filter_cons_of_neg (by simp),if_pos (by simp),List.length_cons]
    exact ar290 ih
   ·rw [List.filter_cons_of_pos (by simp [h1]),List.filter_cons_of_pos (by simp [h1,h3]),if_neg (by simpa using h3),List.length_cons,List.length_cons]
    exact ar312 ih
theorem SI.init {J:Jobs} (hn:(gAll J).order.Nodup) (hlt:∀ k∈(gAll J).order,k<7):SI J [] [] ⟨fun k=>((gAll J).np k:Int),rdOf (gAll J).np (gAll J).order,0,0⟩:=by
 refine ⟨fun k hk=>?_,hn.filter _,fun k=>?_,rfl,rfl,by simp,by simp,by simp⟩
 ·show (((gAll J).np k:Nat):Int)=_
  rw [gAll_np J hk,if_neg (by simp),if_neg (by simp),cntW_nil]
 ·show k∈rdOf _ _↔_
  rw [List.mem_filter,cntW_nil]
  constructor
  ·rintro ⟨h1,h2⟩
   have h7:=hlt k h1
   rw [gAll_np J h7] at h2
   exact ⟨h7,by simp,by simp,by simpa using h2⟩
  ·rintro ⟨h7,_,_,h2⟩
   exact ⟨gAll_ord J h7,by rw [gAll_np J h7];simpa using h2⟩
theorem SI.get {J:Jobs} {D O:List Nat} {st:Ps} (h:SI J D O st):SI J D (O++st.rd) (spGet st):=by
 refine ⟨fun k hk=>?_,List.nodup_nil,fun k=>?_,?_,h.f,?_,?_,?_⟩
 ·show (if k∈st.rd then -1 else st.np k)=_
  by_cases hr:k∈st.rd
  ·refine (?_:_→_) (((h.rd k).mp hr).2)
   intro h1
   refine (?_:_→_→_) h1.1 h1.2.1
   intro h1 h2
   rw [if_pos hr,if_neg h1,if_pos (List.mem_append_right _ hr)]
  ·rw [if_neg hr,h.np k hk]
   by_cases h1:k∈D
   ·rw [if_pos h1,if_pos h1]
   ·rw [if_neg h1,if_neg h1]
    by_cases h2:k∈O
    ·rw [if_pos h2,if_pos (List.mem_append_left _ h2)]
    ·rw [if_neg h2,if_neg (by simp [h2,hr])]
 ·show k∈([]:List Nat)↔_
  constructor
  ·intro h;cases h
  ·rintro ⟨h1,h2,h3,h4⟩
   rw [List.mem_append,not_or] at h3
   exact absurd ((h.rd k).mpr ⟨h1,h2,h3.1,h4⟩) h3.2
 ·show st.p+st.rd.length=_
  rw [h.p,List.length_append];exact ar421
 ·rw [← List.append_assoc,List.nodup_append]
  refine ⟨h.nd,h.rdn,fun a ha b hb e=>?_⟩
  subst e
  refine (?_:_→_) (((h.rd a).mp hb).2)
  intro h1
  refine (?_:_→_→_) h1.1 h1.2.1
  intro h1 h2
  rcases List.mem_append.mp ha with q | q
  ·exact h1 q
  ·exact h2 q
 ·intro k hk
  rw [← List.append_assoc] at hk
  rcases List.mem_append.mp hk with q | q
  ·exact h.lt k q
  ·exact ((h.rd k).mp q).1
 ·intro k hk x hx
  rw [← List.append_assoc] at hk
  rcases List.mem_append.mp hk with q | q
  ·exact h.cl k q x hx
  ·exact cntW_zero ((h.rd k).mp q).2.2.2 x hx
theorem rels_spec:∀ (l:List Nat) (st:Ps),(∀ k∈l,(l.count k:Int)≤st.np k)→(∀ k∈l,k ∉ st.rd)→st.rd.Nodup →
 (∀ k,(l.foldl Ps.rel st).np k=st.np k - (l.count k:Nat))∧(l.foldl Ps.rel st).rd.Nodup∧(∀ k,k∈(l.foldl Ps.rel st).rd↔k∈st.rd∨(k∈l∧st.np k=(l.count k:Nat)))∧(l.foldl Ps.rel st).p=st.p∧(l.foldl Ps.rel st).f=st.f
  | [],st,_,_,hn=>⟨fun k=>by simp,hn,fun k=>by simp,rfl,rfl⟩
  | j::l,st,h1,h2,hn=>by
   refine (?_:(∀ k,(st.rel j).np k=if k=j then st.np j - 1 else st.np k)→_) (fun k=>by
    rfl)
   intro hnp
   refine (?_:_→_) (h1 j (.head _))
   intro hj
   rw [List.count_cons_self] at hj
   have hc:∀ k,k≠j→(j::l).count k=l.count k:=fun k hk=>List.count_cons_of_ne (Ne.symm hk)
   refine (?_:((st.rel j).rd=if st.np j - 1=0 then st.rd++[j] else st.rd)→_) (rfl)
   intro hrd
   have hjl:st.np j - 1=0→j ∉ l:=fun h hm=>by
    refine (?_:_→_) (List.count_pos_iff.mpr hm)
    intro this
    exact ar403 h hj this
   obtain ⟨i1,i2,i3,i4,i5⟩:=rels_spec l (st.rel j) (fun k hk=>by
    rw [hnp k]
    split
    ·rename_i e;subst e;exact ar377 hj
    ·rename_i e
     refine (?_:_→_) (h1 k (.tail _ hk))
     intro this
     rw [hc k e] at this
     exact this) (fun k hk hm=>by
    rw [hrd] at hm
    split at hm
    ·rename_i e
     rcases List.mem_append.mp hm with q | q
     ·exact h2 k (.tail _ hk) q
     ·simp at q
      subst q
      exact hjl e hk
    ·exact h2 k (.tail _ hk) hm) (by
    rw [hrd]
    split
    ·rw [List.nodup_append]
     refine ⟨hn,by simp,fun a ha b hb e=>?_⟩
     simp at hb
     subst hb;subst e
     exact h2 a (.head _) ha
    ·exact hn)
   refine ⟨fun k=>?_,i2,fun k=>?_,i4,i5⟩
   ·rw [List.foldl_cons,i1 k,hnp k]
    split
    ·rename_i e;subst e;rw [List.count_cons_self];exact ar375
    ·rename_i e;rw [hc k e]
   ·rw [List.foldl_cons,i3 k,hnp k,hrd]
    by_cases e:k=j
    ·subst e
     rw [if_pos rfl,List.count_cons_self]
     refine (?_:_→_) (h2 k (.head _))
     intro hk
     by_cases e0:st.np k - 1=0
     ·rw [if_pos e0]
      refine (?_:(l.count k=0)→_) (List.count_eq_zero.mpr (hjl e0))
      intro this
      simp only [List.mem_append,List.mem_singleton,or_true,true_or,List.mem_cons,true_and,this]
      simp only [true_iff]
      right;exact ar266 e0
     ·rw [if_neg e0]
      by_cases hm:k∈l
      ·simp only [hk,false_or,hm,true_and,List.mem_cons,true_or]
       exact ar376
      ·refine (?_:(l.count k=0)→_) (List.count_eq_zero.mpr hm)
       intro this
       simp only [hk,false_or,hm,false_and,List.mem_cons,true_or,true_and,this,false_iff]
       exact ar428 hj this e0
    ·rw [if_neg e,hc k e]
     refine (?_:(k∈(if st.np j - 1=0 then st.rd++[j] else st.rd)↔k∈st.rd)→_) (by
      split
      ·simp [e]
      ·rfl)
     intro this
     rw [this]
     simp [e]
theorem su_count (J:Jobs) (x:Nat) {k:Nat} (hk:k<7):((gAll J).su x).count k=(J k).waits.count x:=by
 rw [(gOf_spec (fun k=>(J k).waits) 7).2.2.1 x k,if_pos hk]
theorem cntW_add {J:Jobs} {D:List Nat} {x:Nat} (hx:x ∉ D) (k:Nat):cntW J D k=cntW J (D++[x]) k+(J k).waits.count x:=filt_add hx _
theorem SI.done1 {J:Jobs} {D O:List Nat} {st:Ps} (h:SI J D O st) {x:Nat} (hx:x∈O):SI J (D++[x]) (O.erase x) (st.done1 (gAll J).su x):=by
 refine (?_:_→_) (h.nd)
 intro hnd
 rw [List.nodup_append] at hnd
 obtain ⟨hD,hO,hDO⟩:=hnd
 have hxD:x ∉ D:=fun q=>hDO x q x hx rfl
 have hx7:x<7:=h.lt x (List.mem_append_right _ hx)
 have hsu:∀ k,k∈(gAll J).su x→k<7∧k ∉ D∧k ∉ O∧k≠x∧x∈(J k).waits:=fun k hk=>by
  refine (?_:_→_→_) ((gAll_su.mp hk).1) ((gAll_su.mp hk).2)
  intro h1 h2
  have h3:k ∉ D++O:=fun q=>hxD (h.cl k q x h2)
  rw [List.mem_append,not_or] at h3
  exact ⟨h1,h3.1,h3.2,fun e=>h3.2 (e▸hx),h2⟩
 refine (?_:(∀ k,(st.mark x).np k=if k=x then -2 else st.np k)→_) (fun k=>rfl)
 intro hm
 have hnp:∀ k,k∈(gAll J).su x→(st.mark x).np k=(cntW J D k:Int):=fun k hk=>by
  refine (?_:_→_→_) ((hsu k hk).1) ((hsu k hk).2)
  intro h1 h2
  refine (?_:_→_→_→_→_) h2.1 h2.2.1 h2.2.2.1 h2.2.2.2
  intro h2 h3 h4 h5
  rw [hm k,if_neg h4,h.np k h1,if_neg h2,if_neg h3]
 obtain ⟨r1,r2,r3,r4,r5⟩:=rels_spec ((gAll J).su x) (st.mark x) (fun k hk=>by
  refine (?_:_→_→_) ((hsu k hk).1) ((hsu k hk).2)
  intro h1 h2
  refine (?_:_→_→_→_→_) h2.1 h2.2.1 h2.2.2.1 h2.2.2.2
  intro h2 h3 h4 h5
  rw [hnp k hk,su_count J x h1,cntW_add hxD]
  exact ar259) (fun k hk hr=>by
  refine (?_:_→_→_) ((hsu k hk).1) ((hsu k hk).2)
  intro h1 h2
  refine (?_:_→_→_→_→_) h2.1 h2.2.1 h2.2.2.1 h2.2.2.2
  intro h2 h3 h4 h5
  refine (?_:_→_) (((h.rd k).mp hr).2.2.2)
  intro h6
  rw [cntW_add hxD] at h6
  refine (?_:_→_) (List.count_pos_iff.mpr h5)
  intro this
  exact ar226 this h6) h.rdn
 have he:∀ k,k∈O.erase x↔k≠x∧k∈O:=fun k=>hO.mem_erase_iff
 have hc0:∀ k,k ∉ (gAll J).su x→((gAll J).su x).count k=0:=fun k hk=>List.count_eq_zero.mpr hk
 refine ⟨fun k hk=>?_,r2,fun k=>?_,?_,?_,?_,fun k hk=>?_,fun k hk y hy=>?_⟩
 ·show (((gAll J).su x).foldl Ps.rel (st.mark x)).np k=_
  rw [r1 k,hm k]
  by_cases h1:k=x
  ·subst h1
   rw [if_pos rfl,if_pos (by simp),hc0 k fun q=>(hsu k q).2.2.2.1 rfl]
   simp
  ·rw [if_neg h1,h.np k hk]
   by_cases h2:k∈D
   ·rw [if_pos h2,if_pos (List.mem_append_left _ h2),hc0 k fun q=>(hsu k q).2.1 h2];simp
   ·rw [if_neg h2,if_neg (show k ∉ D++[x] by simp [h2,h1])]
    by_cases h3:k∈O
    ·rw [if_pos h3,if_pos ((he k).mpr ⟨h1,h3⟩),hc0 k fun q=>(hsu k q).2.2.1 h3];simp
    ·rw [if_neg h3,if_neg (fun q=>h3 ((he k).mp q).2),su_count J x hk,cntW_add hxD]
     exact ar349
 ·show k∈(((gAll J).su x).foldl Ps.rel (st.mark x)).rd↔_
  rw [r3 k]
  show k∈st.rd∨_↔_
  rw [he k]
  constructor
  ·rintro (q | ⟨q,e⟩)
   ·obtain ⟨h1,h2⟩:=(h.rd k).mp q
    refine (?_:_→_→_→_) h2.1 h2.2.1 h2.2.2
    intro h2 h3 h4
    rw [cntW_add hxD] at h4
    exact ⟨h1,by simp only [List.mem_append,List.mem_singleton,not_or];exact ⟨h2,fun e=>h3 (e▸hx)⟩,fun g=>h3 g.2,by exact ar151 h4⟩
   ·refine (?_:_→_→_) ((hsu k q).1) ((hsu k q).2)
    intro h1 h2
    refine (?_:_→_→_→_→_) h2.1 h2.2.1 h2.2.2.1 h2.2.2.2
    intro h2 h3 h4 h5
    rw [hnp k q,su_count J x h1,cntW_add hxD] at e
    exact ⟨h1,by simp only [List.mem_append,List.mem_singleton,not_or];exact ⟨h2,h4⟩,fun g=>h3 g.2,by exact ar307 e⟩
  ·rintro ⟨h1,h2,h3,h4⟩
   simp only [List.mem_append,List.mem_singleton,not_or] at h2
   refine (?_:(k ∉ O)→_) (fun g=>h3 ⟨h2.2,g⟩)
   intro h5
   by_cases h6:x∈(J k).waits
   ·right
    refine (?_:(k∈(gAll J).su x)→_) (gAll_su.mpr ⟨h1,h6⟩)
    intro hk
    refine ⟨hk,?_⟩
    rw [hnp k hk,su_count J x h1,cntW_add hxD]
    exact ar309 h4
   ·left
    rw [h.rd k,cntW_add hxD,List.count_eq_zero.mpr h6]
    exact ⟨h1,h2.1,h5,by exact ar139 h4⟩
 ·show (((gAll J).su x).foldl Ps.rel (st.mark x)).p=_
  rw [r4]
  show st.p=_
  rw [h.p,List.length_append,List.length_singleton,List.length_erase_of_mem hx]
  refine (?_:_→_) (List.length_pos_of_mem hx)
  intro this
  exact ar419 this
 ·show (((gAll J).su x).foldl Ps.rel (st.mark x)).f+1=_
  rw [r5]
  show st.f+1=_
  rw [h.f,List.length_append,List.length_singleton];exact ar26
 ·rw [List.nodup_append,List.nodup_append]
  refine ⟨⟨hD,by simp,fun a ha b hb e=>?_⟩,hO.erase _,fun a ha b hb e=>?_⟩
  ·simp at hb;subst hb;subst e;exact hxD ha
  ·subst e
   refine (?_:_→_→_) (((he a).mp hb).1) (((he a).mp hb).2)
   intro g1 g2
   rcases List.mem_append.mp ha with q | q
   ·exact hDO a q a g2 rfl
   ·simp at q;exact g1 q
 ·refine (?_:(k∈D++O)→_) (by
   rcases List.mem_append.mp hk with q | q
   ·rcases List.mem_append.mp q with q | q
    ·exact List.mem_append_left _ q
    ·simp at q;subst q;exact List.mem_append_right _ hx
   ·exact List.mem_append_right _ ((he k).mp q).2)
  intro this
  exact h.lt k this
 ·refine (?_:(k∈D++O)→_) (by
   rcases List.mem_append.mp hk with q | q
   ·rcases List.mem_append.mp q with q | q
    ·exact List.mem_append_left _ q
    ·simp at q;subst q;exact List.mem_append_right _ hx
   ·exact List.mem_append_right _ ((he k).mp q).2)
  intro this
  exact List.mem_append_left _ (h.cl k this y hy)
theorem SI.doneL {J:Jobs}:∀ {l D O:List Nat} {st:Ps},SI J D O st→l.Nodup→(∀ k∈l,k∈O)→DoneOk (gAll J).su st l∧∃ O',SI J (D++l) O' (st.doneL (gAll J).su l)∧∀ k,k∈O'↔k∈O∧k ∉ l
 | [],D,O,st,h,_,_=>⟨trivial,O,by rw [List.append_nil];exact h,fun k=>by simp⟩
 | x::l,D,O,st,h,hn,hl=>by
  rw [List.nodup_cons] at hn
  have hx:=hl x (.head _)
  have hO:O.Nodup:=(List.nodup_append.mp h.nd).2.1
  obtain ⟨h1,O',h2⟩:=SI.doneL (l:=l) (h.done1 hx) hn.2 fun k hk=>hO.mem_erase_iff.mpr ⟨fun e=>hn.1 (e▸hk),hl k (.tail _ hk)⟩
  refine (?_:_→_→_) h2.1 h2.2
  intro h2 h3
  refine ⟨⟨?_,h1⟩,O',?_,fun k=>?_⟩
  ·refine (?_:(x ∉ D)→_) (fun q=>(List.nodup_append.mp h.nd).2.2 x q x hx rfl)
   intro hxD
   rw [h.np x (h.lt x (List.mem_append_right _ hx)),if_neg hxD,if_pos hx]
  ·rw [List.append_assoc] at h2
   exact h2
  ·rw [h3 k,hO.mem_erase_iff,List.mem_cons,not_or]
   constructor
   ·rintro ⟨⟨a,b⟩,c⟩;exact ⟨b,a,c⟩
   ·rintro ⟨b,a,c⟩;exact ⟨⟨a,b⟩,c⟩
noncomputable def newL (J:Jobs) (W t:Nat) (pl:List Row):List Row:=((readyL J t pl).zip (freeL W t pl)).map fun c=>rowOf J t (c.1 % 8) c.2
theorem stepL_new (J:Jobs) (W t:Nat) (pl:List Row):stepL J W t pl=pl++newL J W t pl:=rfl
noncomputable def Pl (J:Jobs) (W:Nat):Nat→List Row
 | 0=>[]
 | t+1=>stepL J W t (Pl J W t)
noncomputable def runs (s:Nat) (pl:List Row):List Row:=pl.filter fun r=>decide (r.b≤s) && decide (s<r.e)
theorem mem_runs {s:Nat} {pl:List Row} {r:Row}:r∈runs s pl↔r∈pl∧r.b≤s∧s<r.e:=by
 unfold runs;rw [List.mem_filter];simp
structure PI (J:Jobs) (fl:List Nat) (W t:Nat) (pl:List Row):Prop where
 b:∀ r∈pl,r.b<t
 e:∀ r∈pl,r.e=r.b+(J r.n).dur
 w:∀ r∈pl,r.w<W
 f:∀ r∈pl,r.n∈fl
 nd:(pl.map (·.n)).Nodup
 wt:∀ r∈pl,∀ x∈(J r.n).waits,∃ r'∈pl,r'.n=x∧r'.e≤r.b
 wk:∀ s,s<t→((runs s pl).map (·.w)).Nodup
 gr:∀ s,s<t→∀ k∈fl,(runs s pl).length<W→(∀ x∈(J k).waits,∃ r∈pl,r.n=x∧r.e≤s)→∃ r∈pl,r.n=k∧r.b≤s
theorem PI.zero {J:Jobs} {fl:List Nat} {W:Nat}:PI J fl W 0 []:=⟨by simp,by simp,by simp,by simp,by simp,by simp,fun s h=>by exact ar48 h,fun s h=>by exact ar48 h⟩
section
variable {J:Jobs} {fl:List Nat} {W t:Nat} {pl:List Row}
theorem ready_perm:((readyL J t pl).map (· % 8)).Perm (rawL J t pl):=by
 refine (?_:_→_) ((srt_perm ((rawL J t pl).map (rkey J))).map (· % 8))
 intro h
 rw [List.map_map] at h
 refine (?_:((rawL J t pl).map ((· % 8)∘rkey J)=rawL J t pl)→_) (by
  conv=>rhs;rw [← List.map_id (rawL J t pl)]
  refine List.map_congr_left fun k hk=>?_
  refine (?_:_→_) (rawL_lt hk)
  intro this
  show ((J k).rank * 8+k) % 8=k
  exact ar25 this)
 intro e
 rw [e] at h
 exact h
theorem fst_zip {α β:Type}:∀ (a:List α) (b:List β),(a.zip b).map Prod.fst=a.take b.length
 | [],b=>by simp
 | x::a,[]=>by simp
 | x::a,y::b=>by simp [fst_zip a b]
theorem snd_zip {α β:Type}:∀ (a:List α) (b:List β),(a.zip b).map Prod.snd=b.take a.length
 | [],b=>by simp
 | x::a,[]=>by simp
 | x::a,y::b=>by simp [snd_zip a b]
theorem new_names:(newL J W t pl).map (·.n)=((readyL J t pl).take (freeL W t pl).length).map (· % 8):=by
 unfold newL
 rw [List.map_map]
 refine (?_:(((fun r:Row=>r.n)∘fun c:Nat×Nat=>rowOf J t (c.1 % 8) c.2)=(fun x=>x % 8)∘Prod.fst)→_) (rfl)
 intro this
 rw [this,← List.map_map]
 congr 1
 exact fst_zip _ _
theorem new_workers:(newL J W t pl).map (·.w)=(freeL W t pl).take (readyL J t pl).length:=by
 unfold newL
 rw [List.map_map]
 refine (?_:(((fun r:Row=>r.w)∘fun c:Nat×Nat=>rowOf J t (c.1 % 8) c.2)=Prod.snd)→_) (rfl)
 intro this
 rw [this]
 exact snd_zip _ _
theorem new_mem {r:Row} (h:r∈newL J W t pl):r.b=t∧r.e=t+(J r.n).dur∧r.n∈rawL J t pl∧r.w∈freeL W t pl:=by
 obtain ⟨c,hc,rfl⟩:=List.mem_map.mp h
 have h1:=List.of_mem_zip (show (c.1,c.2)∈_ from hc)
 exact ⟨rfl,rfl,ready_perm.subset (List.mem_map_of_mem h1.1),h1.2⟩
theorem mem_done {x:Nat}:x∈doneL t pl↔∃ r∈pl,r.n=x∧r.e≤t:=by
 unfold doneL
 rw [List.mem_map]
 constructor
 ·rintro ⟨r,hr,rfl⟩
  refine (?_:_→_→_) ((List.mem_filter.mp hr).1) ((List.mem_filter.mp hr).2)
  intro h1 h2
  exact ⟨r,h1,rfl,by simpa using h2⟩
 ·rintro ⟨r,h1,rfl,h2⟩
  exact ⟨r,List.mem_filter.mpr ⟨h1,by simpa using h2⟩,rfl⟩
theorem mem_raw {k:Nat}:k∈rawL J t pl↔k<7∧k ∉ pl.map (·.n)∧∀ x∈(J k).waits,∃ r∈pl,r.n=x∧r.e≤t:=by
 unfold rawL begunL
 rw [List.mem_filter,List.mem_range]
 refine (?_:(((J k).waits.all fun x=>decide (x∈doneL t pl))=true↔∀ x∈(J k).waits,∃ r∈pl,r.n=x∧r.e≤t)→_) (by
  rw [List.all_eq_true]
  exact ⟨fun h x hx=>mem_done.mp (of_decide_eq_true (h x hx)),fun h x hx=>decide_eq_true (mem_done.mpr (h x hx))⟩)
 intro h1
 rw [Bool.and_eq_true,h1,Bool.not_eq_true',decide_eq_false_iff_not]
theorem free_len (hn:(busyL t pl).Nodup) (hw:∀ v∈busyL t pl,v<W):(freeL W t pl).length+(busyL t pl).length=W:=by
 refine (?_:(((freeL W t pl)++busyL t pl).Perm (List.range W))→_) (by
  rw [List.perm_ext_iff_of_nodup ?_ List.nodup_range]
  ·intro v
   unfold freeL
   rw [List.mem_append,List.mem_filter,List.mem_range]
   constructor
   ·rintro (h | h)
    ·exact h.1
    ·exact hw v h
   ·intro h
    by_cases q:v∈busyL t pl
    ·exact .inr q
    ·exact .inl ⟨h,by simpa using q⟩
  ·rw [List.nodup_append]
   refine ⟨List.nodup_range.filter _,hn,fun a ha b hb e=>?_⟩
   subst e
   have:=(List.mem_filter.mp ha).2
   simp at this
   exact this hb)
 intro h1
 refine (?_:_→_) (h1.length_eq)
 intro this
 simpa using this
theorem runs_new {s:Nat} (h:s<t):runs s (pl++newL J W t pl)=runs s pl:=by
 unfold runs
 refine (?_:((newL J W t pl).filter (fun r=>decide (r.b≤s) && decide (s<r.e))=[])→_) (by
  rw [List.filter_eq_nil_iff]
  intro r hr
  refine (?_:_→_) ((new_mem hr).1)
  intro this
  simp;exact ar295 this h)
 intro h0
 rw [List.filter_append,h0,List.append_nil]
theorem runs_busy (hb:∀ r∈pl,r.b<t):(runs t pl).map (·.w)=busyL t pl:=by
 congr 1
 refine List.filter_congr fun r hr=>?_
 refine (?_:_→_) (hb r hr)
 intro this
 simp;exact ar218 this
theorem runs_now (hd:∀ k,k<7→1≤(J k).dur) (hb:∀ r∈pl,r.b<t):runs t (pl++newL J W t pl)=runs t pl++newL J W t pl:=by
 unfold runs
 rw [List.filter_append]
 congr 1
 rw [List.filter_eq_self]
 intro r hr
 refine (?_:_→_→_) ((new_mem hr).1) ((new_mem hr).2)
 intro h1 h2
 refine (?_:_→_→_) h2.1 h2.2.1
 intro h2 h3
 refine (?_:_→_) (hd _ (rawL_lt h3))
 intro this
 simp;exact ar415 this h1 ‹_›
theorem PI.busy (h:PI J fl W t pl):(busyL t pl).Nodup∧∀ v∈busyL t pl,v<W:=by
 refine ⟨?_,fun v hv=>?_⟩
 ·cases t with
  | zero=>
   refine (?_:(pl=[])→_) (List.eq_nil_iff_forall_not_mem.mpr fun r hr=>by have:=h.b r hr;exact ar119 this)
   intro this
   subst this;exact List.nodup_nil
  | succ t=>
   refine (?_:_→_) (h.wk t (by exact ar1))
   intro h1
   refine h1.sublist ?_
   refine List.Sublist.map _ ?_
   refine (?_:((pl.filter fun r=>decide (t+1<r.e))=(pl.filter fun r=>decide (r.b≤t) && decide (t<r.e)).filter fun r=>decide (t+1<r.e))→_) (by
    rw [List.filter_filter]
    refine List.filter_congr fun r hr=>?_
    refine (?_:_→_) (h.b r hr)
    intro this
    rw [Bool.eq_iff_iff]
    simp;exact ar334 this)
   intro e
   rw [e]
   exact List.filter_sublist
 ·unfold busyL at hv
  obtain ⟨r,hr,rfl⟩:=List.mem_map.mp hv
  exact h.w r (List.mem_filter.mp hr).1
theorem free_closed (hfl:FreeSpec J fl) {k:Nat} (hk:k<7) (hw:∀ x∈(J k).waits,x∈fl):k∈fl:=by
 apply Classical.byContradiction
 intro hc
 have:k∈moreOf J fl:=by
  unfold moreOf
  rw [List.mem_filter]
  refine ⟨List.mem_range.mpr hk,?_⟩
  simp only [hc,decide_false,Bool.not_false,Bool.true_and,List.all_eq_true,decide_eq_true_eq]
  exact hw
 rw [hfl.closed] at this
 cases this
theorem new_len:(newL J W t pl).length=min (readyL J t pl).length (freeL W t pl).length:=by
 unfold newL;rw [List.length_map,List.length_zip]
theorem PI.step (hd:∀ k,k<7→1≤(J k).dur) (hfl:FreeSpec J fl) (h:PI J fl W t pl):PI J fl W (t+1) (stepL J W t pl):=by
 rw [stepL_new]
 have hnew:∀ r,r∈newL J W t pl→r.n∈fl:=fun r hr=>by
  refine (?_:_→_) ((new_mem hr).2.2)
  intro h3
  refine (?_:_→_) h3.1
  intro h3
  refine (?_:_→_→_) ((mem_raw.mp h3).1) ((mem_raw.mp h3).2.2)
  intro h7 hw
  refine free_closed hfl h7 fun x hx=>?_
  obtain ⟨r',h1,rfl,_⟩:=hw x hx
  exact h.f r' h1
 refine (?_:_→_→_) h.busy.1 h.busy.2
 intro hbn hbw
 refine ⟨fun r hr=>?_,fun r hr=>?_,fun r hr=>?_,fun r hr=>?_,?_,fun r hr x hx=>?_,fun s hs=>?_,fun s hs k hk hlt hw=>?_⟩
 ·rcases List.mem_append.mp hr with q | q
  ·have:=h.b r q;exact ar4 this
  ·have:=(new_mem q).1;exact ar156 this
 ·rcases List.mem_append.mp hr with q | q
  ·exact h.e r q
  ·refine (?_:_→_→_) ((new_mem q).1) ((new_mem q).2.1)
   intro h1 h2
   rw [h2,h1]
 ·rcases List.mem_append.mp hr with q | q
  ·exact h.w r q
  ·exact List.mem_range.mp (List.mem_filter.mp (new_mem q).2.2.2).1
 ·rcases List.mem_append.mp hr with q | q
  ·exact h.f r q
  ·exact hnew r q
 ·rw [List.map_append,List.nodup_append]
  refine ⟨h.nd,?_,fun a ha b hb e=>?_⟩
  ·rw [new_names]
   refine List.Nodup.sublist ((List.take_sublist _ _).map _) ?_
   exact ready_perm.nodup_iff.mpr (List.nodup_range.filter _)
  ·subst e
   obtain ⟨r,hr,rfl⟩:=List.mem_map.mp hb
   exact (mem_raw.mp (new_mem hr).2.2.1).2.1 ha
 ·rcases List.mem_append.mp hr with q | q
  ·obtain ⟨r',h1⟩:=h.wt r q x hx
   refine (?_:_→_→_→_) h1.1 h1.2.1 h1.2.2
   intro h1 h2 h3
   exact ⟨r',List.mem_append_left _ h1,h2,h3⟩
  ·obtain ⟨h1,_,h3⟩:=new_mem q
   refine (?_:_→_) h3.1
   intro h3
   obtain ⟨r',g1⟩:=(mem_raw.mp h3).2.2 x hx
   refine (?_:_→_→_→_) g1.1 g1.2.1 g1.2.2
   intro g1 g2 g3
   exact ⟨r',List.mem_append_left _ g1,g2,by exact ar61 g3 h1⟩
 ·by_cases q:s<t
  ·rw [runs_new q];exact h.wk s q
  ·obtain rfl:s=t:=by exact ar68 hs q
   rw [runs_now hd h.b,List.map_append,runs_busy h.b,new_workers,List.nodup_append]
   refine ⟨hbn,(List.nodup_range.filter _).sublist (List.take_sublist _ _),fun a ha b hb e=>?_⟩
   subst e
   refine (?_:_→_) ((List.mem_filter.mp (List.mem_of_mem_take hb)).2)
   intro this
   simp at this
   exact this ha
 ·by_cases q:s<t
  ·rw [runs_new q] at hlt
   obtain ⟨r,h1,h2,h3⟩:=h.gr s q k hk hlt fun x hx=>by
    obtain ⟨r,h1⟩:=hw x hx
    refine (?_:_→_→_→_) h1.1 h1.2.1 h1.2.2
    intro h1 h2 h3
    rcases List.mem_append.mp h1 with g | g
    ·exact ⟨r,g,h2,h3⟩
    ·have:=new_mem g;exact ar440 hs q this h3
   exact ⟨r,List.mem_append_left _ h1,h2,h3⟩
  ·obtain rfl:s=t:=by exact ar68 hs q
   rw [runs_now hd h.b,List.length_append] at hlt
   by_cases hkb:k∈pl.map (·.n)
   ·obtain ⟨r,hr,rfl⟩:=List.mem_map.mp hkb
    refine (?_:_→_) (h.b r hr)
    intro this
    exact ⟨r,List.mem_append_left _ hr,rfl,by exact ar41 this⟩
   ·have hraw:k∈rawL J s pl:=mem_raw.mpr ⟨hfl.lt k hk,hkb,fun x hx=>by
     obtain ⟨r,h1⟩:=hw x hx
     refine (?_:_→_→_→_) h1.1 h1.2.1 h1.2.2
     intro h1 h2 h3
     rcases List.mem_append.mp h1 with g | g
     ·exact ⟨r,g,h2,h3⟩
     ·obtain ⟨g1,g2⟩:=new_mem g
      refine (?_:_→_→_) g2.1 g2.2.1
      intro g2 g3
      refine (?_:_→_) (hd _ (rawL_lt g3))
      intro this
      exact ar348 this g2 h3⟩
    refine (?_:((runs s pl).length=(busyL s pl).length)→_) (by rw [← runs_busy h.b,List.length_map])
    intro h1
    refine (?_:_→_) (free_len hbn hbw)
    intro h2
    rw [new_len] at hlt
    refine (?_:((readyL J s pl).length≤(freeL W s pl).length)→_) (by exact ar381 h2 hlt h1)
    intro h3
    have h4:k∈(newL J W s pl).map (·.n):=by
     rw [new_names,List.take_of_length_le h3]
     exact ready_perm.symm.subset hraw
    obtain ⟨r,hr,rfl⟩:=List.mem_map.mp h4
    exact ⟨r,List.mem_append_right _ hr,rfl,by refine (?_:_→_) ((new_mem hr).1);intro this;exact ar43 this⟩
theorem PI.all (hd:∀ k,k<7→1≤(J k).dur) (hfl:FreeSpec J fl):∀ t,PI J fl W t (Pl J W t)
 | 0=>.zero
 | t+1=>(PI.all hd hfl t).step hd hfl
theorem PI.len (hfl:FreeSpec J fl) (h:PI J fl W t pl):pl.length≤7:=by
 refine (?_:_→_) (nodup_len h.nd (fun k hk=>by
  obtain ⟨r,hr,rfl⟩:=List.mem_map.mp hk
  exact hfl.lt _ (h.f r hr)))
 intro this
 simpa using this
end
section
variable {w:World} {A:Around} {ρ:Rest} {z:Z} {Δ:Ds}
noncomputable def lmax:List Nat→Nat
 | []=>0
 | a::r=>max a (lmax r)
noncomputable def chStep (J:Jobs) (c:Nat→Nat) (k:Nat):Nat→Nat:=fun j=>if j=k then (J k).dur+lmax ((J k).waits.map c) else c j
noncomputable def chOf (J:Jobs) (fl:List Nat):Nat→Nat:=fl.foldl (chStep J) (fun g=>0)
theorem lmax_mem:∀ {l:List Nat},l≠[]→lmax l∈l
 | [],h=>absurd rfl h
 | [a],_=>by simp [lmax]
 | a::b::r,_=>by
  refine (?_:_→_) (lmax_mem (l:=b::r) (by simp))
  intro this
  unfold lmax
  rcases Nat.le_total a (lmax (b::r)) with h | h
  ·rw [Nat.max_eq_right h];exact .tail _ this
  ·rw [Nat.max_eq_left h];exact .head _
theorem lmax_le:∀ {l:List Nat} {a:Nat},a∈l→a≤lmax l
 | a::r,_,.head _=>Nat.le_max_left ..
 | a::r,b,.tail _ h=>Nat.le_trans (lmax_le h) (Nat.le_max_right ..)
theorem max_lmax {l:List Nat} {M:Int} (h1:M∈((0:Nat)::l).map Int.ofNat) (h2:∀ a∈((0:Nat)::l).map Int.ofNat,a≤M):M=(lmax l:Nat):=by
 obtain ⟨n,hn,rfl⟩:=List.mem_map.mp h1
 have hle:n≤lmax l:=by
  rcases List.mem_cons.mp hn with rfl | hn
  ·exact Nat.zero_le _
  ·exact lmax_le hn
 have hge:lmax l≤n:=by
  by_cases q:l=[]
  ·subst q;exact Nat.zero_le n
  ·have:=h2 (Int.ofNat (lmax l)) (List.mem_map.mpr ⟨lmax l,.tail _ (lmax_mem q),rfl⟩)
   exact Int.ofNat_le.mp this
 have:n=lmax l:=by exact ar13 hle hge
 rw [this];rfl
theorem topo_waits {J:Jobs} {fl d r:List Nat} {k:Nat} (h:FreeSpec J fl) (hd:d++k::r=fl):k<7∧k ∉ d∧∀ x∈(J k).waits,x∈d:=by
 refine ⟨h.lt k (hd▸by simp),?_,fun x hx=>?_⟩
 ·refine (?_:_→_) (h.nd)
  intro this
  rw [← hd,List.nodup_append] at this
  intro hk
  exact this.2.2 k hk k (.head _) rfl
 ·refine (?_:_→_) (h.topo d.length k (by rw [← hd];simp) x hx)
  intro this
  rw [← hd,List.take_append_of_le_length (Nat.le_refl _),List.take_of_length_le (Nat.le_refl _)] at this
  exact this
noncomputable abbrev kvC (c:Nat→Nat) (l:List Nat):Loc:=l.map fun k=>(nm k,.i (c k:Nat))
theorem law_chains_T {J:Jobs} (hJ:JOk J) {a f:Addr} {fl:List Nat} {K:AV→Z→Ds→Prop} (hj:JobsAt w z J a) (hf:Fz z f (ListO (nAVs fl))) (hfl:FreeSpec J fl) (R:Room A 2)
 (hK:∀ q,K (.v (.ref q)) z ((q,DictO w (kvC (chOf J fl) fl))::Δ)):CF w ρ A 201 [.v (.ref a),.v (.ref f)] z Δ K:=by
  obtain ⟨ts,ws,hjd,hjk⟩:=hj
  refine lf_defC (by assumption) ?_ (by k_is) (by k_is) (by first | exact args1 fun g=>rfl | exact args2 fun g g=>rfl | exact args3 fun g g g=>rfl | exact args4 fun g g g g=>rfl) (by decide) (by decide) (by decide) (by decide) (by rfl) (by rfl) (by rfl)
  intro L A' R C O
  refine lf_dict0 fun d=>?_
  refine lf_stc O 1 rfl ?_
  refine lf_for0 (σ:=List Nat) (up:=fun k m=>setl m "name" (.s (nm k))) (fun g=>z) (fun g=>[("jobs",.v (.ref a)),("free",.v (.ref f))]) (fun x=>(d,DictO w (kvC (chOf J x) x))::(L+1,CellO (some (.v (.ref d))))::Δ)
   (fun dd g x=>x=dd) O [] (src_lF hf (fun g h=>nAVs_pr h) fun g g N=>Its.n N rfl rfl) rfl ?turn (fun x g hx=>?fin) [] rfl rfl
  case turn=>
   intro zf mf Δf I Kw dd k rr x hd hz hx jt Kb F
   subst hx
   obtain ⟨hk7,hkd,hw⟩:=topo_waits hfl hd
   refine (?_:(x.length≤7)→_) (by refine (?_:_→_) (nodup_len hfl.nd hfl.lt);intro h1;rw [← hd,List.length_append] at h1;exact ar152 h1)
   intro hdl
   refine lf_d (.fz hjd) (JobsAt.lk hk7) (lf_tup (n:=0) (.fz (hjk k hk7).1) rfl (by simp) fun l0=>?_)
   refine lf_comp O (lf_d (.fz hjd) (JobsAt.lk hk7) (lf_tup (n:=2) (.fz (hjk k hk7).1) rfl (by simp) ?_))
   refine lf_lkF (ns:=["one"]) (f:=fun k=>[.s (nm k)]) O (src_lF (hjk k hk7).2 (fun g h=>nAVs_pr h) fun g g N Cc=>Its.n N rfl rfl) (fun g=>true) (fun y=>.i (.ofNat (chOf J x y))) (F_map3 (chOf J x) Int.ofNat AV.i) (Nat.le_trans (hJ.wl k hk7) (by decide)) ?t2 ?f2 (by rw [List.append_nil];exact wkr)
   case t2=>
    intro d2 y r2 Cc D2 jt2 hd2 Kt Ks hk hs C2 O2
    refine lf_ldc O2 4 rfl (lf_d (.own 3 rfl) (lk_names (hw y (hd2▸List.mem_append_right _ (.head _)))) ?_)
    exact hk rfl _ _ wkr
   case f2=>
    intro D2
    refine lf_addl (.own 1 rfl) (.own 0 rfl) (by refine (?_:_→_) (hJ.wl k hk7);intro this;simp;exact ar164 this) fun q2=>?_
    refine lf_max (ns:=((0:Nat)::(J k).waits.map (chOf J x)).map Int.ofNat) O (.own 0 rfl) (List.cons_ne_nil _ _) fun M h1 h2=>?_
    obtain rfl:=max_lmax h1 h2
    refine lf_ldc O 4 rfl (lf_dset (j:=3) rfl (by rw [List.length_map];exact ar9 hdl) ?_)
    refine F.nx (x++[k]) _ ?_ (.refl _) rfl
    refine (?_:(chOf J (x++[k])=chStep J (chOf J x) k)→_) (by unfold chOf;rw [List.foldl_append];rfl)
    intro e2
    refine (?_:(kvC (chOf J (x++[k])) (x++[k])=setl (kvC (chOf J x) x) (nm k) (.i (chStep J (chOf J x) k k:Nat)))→_) (by
     rw [setl_new (lk_none hkd),e2]
     simp only [kvC,List.map_append,List.map_cons,List.map_nil]
     congr 1
     refine List.map_congr_left fun j hj=>?_
     refine (?_:(j≠k)→_) (fun e=>hkd (e▸hj))
     intro this
     simp [chStep,this])
    intro e3
    show Wk _ ((d,DictO w (kvC (chOf J (x++[k])) (x++[k])))::_)
    rw [e3,show ((chStep J (chOf J x) k k:Nat):Int)=((J k).dur:Int)+(lmax ((J k).waits.map (chOf J x)):Nat) from by unfold chStep;rw [if_pos rfl];rfl]
    exact Wk.pick 3 [] rfl
  case fin=>
   subst hx
   refine lf_ldc O 1 rfl ?_
   exact kFn_i (m:=[]) _ (Wk.pick 2 [0] rfl) (hK d)
end
section
variable {J:Jobs} {fl:List Nat} {W t:Nat} {pl:List Row}
theorem ch_keep (J:Jobs):∀ (r d:List Nat) {x:Nat},x ∉ r→chOf J (d++r) x=chOf J d x
 | [],d,x,_=>by rw [List.append_nil]
 | k::r,d,x,h=>by
  rw [List.mem_cons,not_or] at h
  refine (?_:_→_) (ch_keep J r (d++[k]) h.2)
  intro h1
  rw [List.append_assoc] at h1
  rw [show d++k::r=d++([k]++r) from rfl,h1]
  show (d++[k]).foldl (chStep J) _ x=_
  rw [List.foldl_append]
  show chStep J (chOf J d) k x=_
  unfold chStep
  rw [if_neg h.1]
theorem ch_eq (hfl:FreeSpec J fl) {k:Nat} (hk:k∈fl):chOf J fl k=(J k).dur+lmax ((J k).waits.map (chOf J fl)):=by
 obtain ⟨d,r,rfl⟩:=List.append_of_mem hk
 refine (?_:_→_→_→_) ((topo_waits hfl rfl).1) ((topo_waits hfl rfl).2.1) ((topo_waits hfl rfl).2.2)
 intro h1 h2 h3
 refine (?_:_→_) (hfl.nd)
 intro hnd
 rw [List.nodup_append] at hnd
 refine (?_:_→_) (hnd.2.1)
 intro hkr
 refine (?_:_→_) (hnd.2.2)
 intro hd
 rw [List.nodup_cons] at hkr
 refine (?_:_→_) (ch_keep J r (d++[k]) hkr.1)
 intro e1
 rw [List.append_assoc] at e1
 rw [show d++k::r=d++([k]++r) from rfl,e1]
 refine (?_:(chOf J (d++[k]) k=chStep J (chOf J d) k k)→_) (by
  show (d++[k]).foldl (chStep J) _ k=_
  rw [List.foldl_append];rfl)
 intro e2
 rw [e2]
 unfold chStep
 rw [if_pos rfl]
 congr 2
 refine List.map_congr_left fun x hx=>?_
 refine (?_:_→_) (h3 x hx)
 intro hxd
 exact (ch_keep J ([k]++r) d fun q=>hd x hxd x (by simpa using q) rfl).symm
theorem ch_wait (hfl:FreeSpec J fl) {k x:Nat} (hk:k∈fl) (hx:x∈(J k).waits):(J k).dur+chOf J fl x≤chOf J fl k:=by
 rw [ch_eq hfl hk]
 refine (?_:_→_) (lmax_le (List.mem_map_of_mem (f:=chOf J fl) hx))
 intro this
 exact ar216 this
theorem ch_dur (hfl:FreeSpec J fl) {k:Nat} (hk:k∈fl):(J k).dur≤chOf J fl k:=by
 rw [ch_eq hfl hk];exact ar35
theorem row_one (h:(pl.map (·.n)).Nodup) {r r':Row} (h1:r∈pl) (h2:r'∈pl) (e:r.n=r'.n):r=r':=by
 obtain ⟨i,hi,rfl⟩:=List.getElem_of_mem h1
 obtain ⟨j,hj,rfl⟩:=List.getElem_of_mem h2
 refine (?_:(i=j)→_) ((List.getElem_inj h (h₀:=by simpa using hi) (h₁:=by simpa using hj)).mp (by simpa using e))
 intro this
 subst this;rfl
theorem all_done (hfl:FreeSpec J fl) (h:PI J fl W (t+1) pl) (hW:1≤W) (hr:runs t pl=[]):∀ k∈fl,∃ r∈pl,r.n=k∧r.e≤t:=by
 refine (?_:(∀ r∈pl,r.e≤t)→_) (fun r hm=>by
  apply Classical.byContradiction
  intro hc
  have:r∈runs t pl:=mem_runs.mpr ⟨hm,by refine (?_:_→_) (h.b r hm);intro this;exact ar47 this,by exact ar10 hc⟩
  rw [hr] at this
  cases this)
 intro he
 refine (?_:(∀ (i:Nat) (k:Nat),fl[i]?=some k→∃ r∈pl,r.n=k∧r.e≤t)→_) (by
  intro i
  induction i using Nat.strongRecOn with
  | ind i ih=>
   intro k hk
   obtain ⟨r,h1,h2,_⟩:=h.gr t (by exact ar1) k (List.mem_of_getElem? hk) (by rw [hr];exact hW) fun x hx=>by
    refine (?_:_→_) (hfl.topo i k hk x hx)
    intro this
    obtain ⟨j,hj⟩:=List.getElem?_of_mem this
    rw [List.getElem?_take] at hj
    split at hj
    ·exact ih j (by exact ar40 ‹_›) x hj
    ·cases hj
   exact ⟨r,h1,h2,he r h1⟩)
 intro key
 intro k hk
 obtain ⟨i,hi⟩:=List.getElem?_of_mem hk
 exact key i k hi
theorem runs_len (h:PI J fl W t pl) {s:Nat} (hs:s<t):(runs s pl).length≤W:=by
 refine (?_:_→_) (h.wk s hs)
 intro h1
 have h2:∀ v∈(runs s pl).map (·.w),v<W:=fun v hv=>by
  obtain ⟨r,hr,rfl⟩:=List.mem_map.mp hv
  exact h.w r (mem_runs.mp hr).1
 refine (?_:_→_) (free_len (t:=0) (pl:=((runs s pl).map fun r=>(⟨0,0,1,r.w⟩:Row))) (W:=W) (by
  unfold busyL
  rw [List.filter_eq_self.mpr (by simp),List.map_map]
  exact h1) (fun v hv=>by
  unfold busyL at hv
  rw [List.filter_eq_self.mpr (by simp),List.map_map] at hv
  exact h2 v hv))
 intro h3
 unfold busyL at h3
 rw [List.filter_eq_self.mpr (by simp)] at h3
 simp at h3
 exact ar172 h3
noncomputable def cnt (p:Nat→Bool):Nat→Nat
 | 0=>0
 | u+1=>cnt p u+(if p u then 1 else 0)
theorem cnt_mono (p:Nat→Bool) {u v:Nat} (h:u≤v):cnt p u≤cnt p v:=by
 induction h with
 | refl=>exact Nat.le_refl _
 | step _ ih=>exact Nat.le_trans ih (by show _≤cnt p _+_;exact ar35)
theorem cnt_add (p:Nat→Bool) (u n:Nat):cnt p (u+n)≤cnt p u+n:=by
 induction n with
 | zero=>exact Nat.le_refl _
 | succ n ih=>show cnt p (u+n)+_≤_;split <;> lia
theorem cnt_last (p:Nat→Bool):∀ u,cnt p u=0∨∃ s,s<u∧p s=true∧cnt p u=cnt p (s+1)
 | 0=>.inl rfl
 | u+1=>by
  by_cases h:p u=true
  ·exact .inr ⟨u,by exact ar1,h,rfl⟩
  ·have e:cnt p (u+1)=cnt p u:=by show cnt p u+_=_;rw [if_neg h];rfl
   rcases cnt_last p u with q | ⟨s,h1,h2,h3⟩
   ·exact .inl (e.trans q)
   ·exact .inr ⟨s,by exact ar4 h1,h2,e.trans h3⟩
theorem cnt_all {p:Nat→Bool}:∀ {u},(∀ s,s<u→p s=true)→cnt p u=u
 | 0,_=>rfl
 | u+1,h=>by show cnt p u+_=_;rw [cnt_all fun s hs=>h s (by exact ar4 hs),if_pos (h u (by exact ar1))]
noncomputable def sumU (f:Nat→Nat):Nat→Nat
 | 0=>0
 | u+1=>sumU f u+f u
theorem sumU_le {f g:Nat→Nat}:∀ {u},(∀ s,s<u→f s≤g s)→sumU f u≤sumU g u
 | 0,_=>Nat.le_refl _
 | u+1,h=>by
  refine (?_:_→_) (sumU_le (u:=u) fun s hs=>h s (by exact ar4 hs))
  intro h1
  refine (?_:_→_) (h u (by exact ar1))
  intro h2
  show sumU f u+f u≤sumU g u+g u;exact ar82 h1 h2
theorem sumU_add (f g:Nat→Nat):∀ u,sumU (fun s=>f s+g s) u=sumU f u+sumU g u
 | 0=>rfl
 | u+1=>by show sumU _ u+(f u+g u)=(sumU f u+f u)+(sumU g u+g u);rw [sumU_add f g u];exact ar315
theorem sumU_const (c:Nat):∀ u,sumU (fun l=>c) u=u * c
 | 0=>by simp [sumU]
 | u+1=>by show sumU _ u+c=_;rw [sumU_const c u,Nat.succ_mul]
theorem sumU_ind (p:Nat→Bool) (c:Nat):∀ u,sumU (fun s=>if p s then c else 0) u=c * cnt p u
 | 0=>rfl
 | u+1=>by
  show sumU _ u+(if p u then c else 0)=c * (cnt p u+(if p u then 1 else 0))
  rw [sumU_ind p c u]
  cases p u
  ·simp
  ·simp [Nat.mul_add]
theorem sum_row {b e:Nat}:∀ u,sumU (fun s=>if b≤s∧s<e then 1 else 0) u=min u e - min u b
 | 0=>by simp [sumU]
 | u+1=>by
  show sumU _ u+(if b≤u∧u<e then 1 else 0)=_
  rw [sum_row u]
  split
  ·rename_i h
   rw [Nat.min_eq_left (Nat.le_of_lt h.2),Nat.min_eq_left h.2,Nat.min_eq_right h.1,Nat.min_eq_right (Nat.le_succ_of_le h.1),Nat.succ_sub h.1]
  ·rename_i h
   rw [Nat.add_zero]
   rcases Nat.lt_or_ge u b with q | q
   ·rw [Nat.min_eq_left (Nat.le_of_lt q),Nat.min_eq_left q,Nat.sub_eq_zero_of_le (Nat.min_le_left ..),Nat.sub_eq_zero_of_le (Nat.min_le_left ..)]
   ·refine (?_:(e≤u)→_) (Nat.le_of_not_lt fun x=>h ⟨q,x⟩)
    intro q2
    rw [Nat.min_eq_right q2,Nat.min_eq_right (Nat.le_succ_of_le q2),Nat.min_eq_right q,Nat.min_eq_right (Nat.le_succ_of_le q)]
theorem runs_cons (s:Nat) (r:Row) (pl:List Row):(runs s (r::pl)).length=(if r.b≤s∧s<r.e then 1 else 0)+(runs s pl).length:=by
 unfold runs
 by_cases h:r.b≤s∧s<r.e
 ·rw [List.filter_cons_of_pos (by simpa using h),if_pos h,List.length_cons];exact ar118
 ·rw [List.filter_cons_of_neg (by simpa using h),if_neg h];exact ar113
theorem sum_runs:∀ (pl:List Row) (u:Nat),sumU (fun s=>(runs s pl).length) u=(pl.map fun r=>min u r.e - min u r.b).sum
 | [],u=>by
  refine (?_:(sumU (fun s=>(runs s []).length) u=u * 0)→_) (sumU_const 0 u)
  intro this
  simpa using this
 | r::pl,u=>by
  refine (?_:((fun s=>(runs s (r::pl)).length)=fun s=>(if r.b≤s∧s<r.e then 1 else 0)+(runs s pl).length)→_) (funext fun s=>runs_cons s r pl)
  intro e
  rw [e,sumU_add,sum_row,sum_runs pl u,List.map_cons,List.sum_cons]
end
section
variable {w:World} {A:Around} {ρ:Rest} {z:Z} {Δ:Ds}
structure SD (P:PL AV) (new:AV×Nat) (x:PL AV×Nat):Prop where
 l:x.1.length=P.length
 h:Hole x.1 x.2
 b:∀ c,0<c→c<x.1.length→(c - 1) / 2=x.2→new.2≤key x.1 c
 p:(x.1.set x.2 new).Perm P
theorem siftdown_T {Kk:AV→Nat→Prop} (lt:LtR w ρ z Kk) {l:Addr} {P:PL AV} {pos:Nat} {new:AV×Nat} {K:AV→Z→Ds→Prop}
 (hnew:P[pos]?=some new) (hK:∀ p∈P,Kk p.1 p.2) (hh:Hole P pos) (hb:∀ c,0<c→c<P.length→(c - 1) / 2=pos→new.2≤key P c) (hz:P.length≤1000) (R:Room A 1)
 (k:∀ P',Heap' P'→P'.Perm P→K (.v .none) z ((l,ListO (fsts P'))::Δ)) :
 CF w ρ A 155 [.v (.ref l),.i 0,.i (.ofNat pos)] z ((l,ListO (fsts P))::Δ) K:=by
  refine lf_def (by assumption) ?_ (by k_is) (by k_is) (by first | exact args1 fun f=>rfl | exact args2 fun f f=>rfl | exact args3 fun f f f=>rfl) (by decide) (by decide) (by rfl) (by rfl) (by rfl) (by decide)
  intro L A' R C O
  refine lf_sl (.own 0 rfl) (fsts_get hnew) (le_fsts hz) ?_
  refine (?_:(Kk new.1 new.2)→_) (hK _ (List.mem_of_getElem? hnew))
  intro hKn
  refine lf_while (σ:=PL AV×Nat) (fun f=>z) (fun x=>[("heap",.v (.ref l)),("startpos",.i 0),("pos",.i (.ofNat x.2)),("newitem",new.1)]) (fun x=>(l,ListO (fsts x.1))::Δ)
   (SD P new) (·.2) O (P,pos) ⟨rfl,hh,hb,by rw [set_self hnew]⟩ ?_ [] rfl rfl wkr
  intro zf mf Δf I μ Kw x h Kb W
  refine (?_:_→_) (h.h.lt)
  intro hlt1
  refine lf_gt ?_
  by_cases hm:x.2=0
  ·refine it_f (decide_eq_false fun q=>by rw [hm] at q;cases q) ?_
   refine lf_setP (j:=0) rfl hlt1 (h.l▸hz) ?_
   exact ⟨_,wkr,k _ (h.h.fill h.b (.inl hm)) h.p⟩
  ·refine it_t (decide_eq_true (Int.ofNat_lt.mpr (Nat.pos_of_ne_zero hm))) ?_
   refine lf_shrp (Nat.pos_of_ne_zero hm) ?_
   refine (?_:((x.2 - 1) / 2<x.1.length)→_) (by exact ar285 hlt1 hm)
   intro hpl
   obtain ⟨pa,hpa⟩:∃ pa,x.1[(x.2 - 1) / 2]?=some pa:=⟨_,List.getElem?_eq_getElem hpl⟩
   refine lf_sl (.own 0 rfl) (fsts_get hpa) (le_fsts (h.l▸hz)) ?_
   refine (?_:(Kk pa.1 pa.2)→_) (hK _ (h.p.mem_iff.mp (by
    refine (?_:((x.1.set x.2 new)[(x.2 - 1) / 2]?=some pa)→_) (by rw [List.getElem?_set,if_neg (by exact ar203 hm)];exact hpa)
    intro this
    exact List.mem_of_getElem? this)))
   intro hKp
   refine ⟨lf_ltR lt O hKn hKp ?_⟩
   by_cases hc:new.2<pa.2
   ·refine it_t (decide_eq_true hc) ?_
    refine lf_setP (j:=0) rfl hlt1 (h.l▸hz) ?_
    refine (?_:_→_) (h.h.down h.b (by exact ar39 hm) hpa hc)
    intro hd
    exact W.ct (x.1.set x.2 pa,(x.2 - 1) / 2) _ wkr (by show (x.2 - 1) / 2<x.2;exact ar57 hm) ⟨by simpa using h.l,hd.1,hd.2.1,hd.2.2.trans h.p⟩
   ·refine it_f (decide_eq_false hc) ?_
    refine W.br ?_
    refine lf_setP (j:=0) rfl hlt1 (h.l▸hz) ?_
    exact ⟨_,wkr,k _ (h.h.fill h.b (.inr (by rw [key_some hpa];exact ar5 hc))) h.p⟩
theorem two {M:Nat→Prop} {p q d:Nat} (h:d=p∨d=q) (h1:M p) (h2:M q):M d:=h.elim (fun e=>e▸h1) fun e=>e▸h2
structure SU (P:PL AV) (new:AV×Nat) (x:PL AV×Nat):Prop where
 l:x.1.length=P.length
 h:Hole x.1 x.2
 p:(x.1.set x.2 new).Perm P
theorem siftup_T {Kk:AV→Nat→Prop} (lt:LtR w ρ z Kk) {l:Addr} {P:PL AV} {new:AV×Nat} {K:AV→Z→Ds→Prop}
 (hnew:P[0]?=some new) (hK:∀ p∈P,Kk p.1 p.2) (hh:Hole P 0) (hz:P.length≤1000) (R:Room A 2)
 (k:∀ P',Heap' P'→P'.Perm P→K (.v .none) z ((l,ListO (fsts P'))::Δ)) :
 CF w ρ A 162 [.v (.ref l),.i 0] z ((l,ListO (fsts P))::Δ) K:=by
  refine lf_def (by assumption) ?_ (by k_is) (by k_is) (by first | exact args1 fun f=>rfl | exact args2 fun f f=>rfl | exact args3 fun f f f=>rfl) (by decide) (by decide) (by rfl) (by rfl) (by rfl) (by decide)
  intro L A' R C O
  refine (?_:((fsts P).length=P.length)→_) (List.length_map _)
  intro hlf
  refine lf_len (.own 0 rfl) (le_fsts hz) ?_
  rw [hlf]
  refine lf_sl (.own 0 rfl) (fsts_get hnew) (le_fsts hz) ?_
  refine lf_mul2 ?_
  refine lf_while (σ:=PL AV×Nat) (fun f=>z) (fun x=>[("heap",.v (.ref l)),("pos",.i (.ofNat x.2)),("endpos",.i (.ofNat P.length)),("startpos",.i 0),("newitem",new.1),("childpos",.i (.ofNat (2 * x.2+1)))]) (fun x=>(l,ListO (fsts x.1))::Δ)
   (SU P new) (fun x=>P.length - x.2) O (P,0) ⟨rfl,hh,by rw [set_self hnew]⟩ ?_ [] rfl rfl wkr
  intro zf mf Δf I μ Kw x h Kb W
  refine (?_:_→_) (h.h.lt)
  intro hlt1
  have hK1:∀ i,i≠x.2→∀ p,x.1[i]?=some p→Kk p.1 p.2:=fun i hi p hp=>hK _ (h.p.mem_iff.mp (by
   refine (?_:((x.1.set x.2 new)[i]?=some p)→_) (by rw [List.getElem?_set,if_neg (by exact ar132 hi)];exact hp)
   intro this
   exact List.mem_of_getElem? this))
  refine lf_lt ?_
  by_cases hc:2 * x.2+1<P.length
  ·refine it_t (decide_eq_true (Int.ofNat_lt.mpr hc)) ?_
   have hl1:=h.l
   refine join (σ:=Nat×(AV×Nat)) (fun f=>zf x) (fun y=>setl (setl (mf x) "rightpos" (.i (.ofNat (2 * x.2+1)+1))) "childpos" (.i (.ofNat y.1))) (fun f=>Δf x)
    (fun y=>(y.1=2 * x.2+1∨y.1=2 * x.2+2)∧x.1[y.1]?=some y.2∧∀ d,(d=2 * x.2+1∨d=2 * x.2+2)→d<x.1.length→y.2.2≤key x.1 d) ?tail ?br
   case tail=>
    intro K y hy
    refine lf_sl (.own 0 rfl) (fsts_get hy.2.1) (le_fsts (hl1▸hz)) ?_
    refine lf_setP (j:=0) rfl hlt1 (hl1▸hz) ?_
    refine lf_mul2 ?_
    refine (?_:_→_) (h.h.up (new:=new) hy.1 hy.2.1 fun d h0 hl hd=>hy.2.2 d (by exact ar398 hd h0) hl)
    intro hu
    exact W.nx (x.1.set x.2 y.2,y.1) _ wkr (by show P.length - y.1<P.length - x.2;exact ar446 hc hlt1 hy hl1) ⟨List.length_set.trans hl1,hu.1,hu.2.trans h.p⟩
   case br=>
    intro zf' mf' Δf' J Kj hj
    refine (?_:_→_) (List.getElem?_eq_getElem (l:=x.1) (i:=2 * x.2+1) (by exact ar328 hc hl1))
    intro hxl
    refine (?_:_→_) (key_some hxl)
    intro kl
    refine lf_lt ?_
    by_cases hr:2 * x.2+1+1<P.length
    ·refine it_t (decide_eq_true (Int.ofNat_lt.mpr hr)) ?_
     refine (?_:_→_) (List.getElem?_eq_getElem (l:=x.1) (i:=2 * x.2+1+1) (by exact ar411 hr hc hl1))
     intro hxr
     refine (?_:_→_) (key_some hxr)
     intro kr
     refine lf_sl (.own 0 rfl) (fsts_get hxl) (le_fsts (hl1▸hz)) ?_
     refine lf_sl (.own 0 rfl) (fsts_get hxr) (le_fsts (hl1▸hz)) ?_
     refine lf_ltR lt O (hK1 _ (by exact ar116) _ hxl) (hK1 _ (by exact ar135) _ hxr) ?_
     by_cases hlr:x.1[2 * x.2+1].2<x.1[2 * x.2+1+1].2
     ·refine it_f (by rw [decide_eq_true hlr];rfl) ?_
      refine it_f rfl ?_
      exact hj (_,_) ⟨.inl rfl,hxl,fun d hd hdl=>two (M:=fun d=>_≤key x.1 d) hd (Nat.le_of_eq kl.symm) (Nat.le_trans (Nat.le_of_lt hlr) (Nat.le_of_eq kr.symm))⟩
     ·refine it_t (by rw [decide_eq_false hlr];rfl) ?_
      refine it_t rfl ?_
      exact hj (_,_) ⟨.inr rfl,hxr,fun d hd hdl=>two (M:=fun d=>_≤key x.1 d) hd (Nat.le_trans (Nat.le_of_not_lt hlr) (Nat.le_of_eq kl.symm)) (Nat.le_of_eq kr.symm)⟩
    ·refine it_f (decide_eq_false fun q=>hr (Int.ofNat_lt.mp q)) ?_
     refine it_f rfl ?_
     exact hj (_,_) ⟨.inl rfl,hxl,fun d hd hdl=>hd.elim (fun e=>by rw [e,kl];exact Nat.le_refl _) fun e=>absurd (by exact ar443 hc hl1 hr hdl e) hr⟩
  ·refine it_f (decide_eq_false fun q=>hc (Int.ofNat_lt.mp q)) ?_
   refine lf_setP (j:=0) rfl hlt1 (h.l▸hz) ?_
   refine lc_at 0 rfl fun F Δ'=>?_
   refine (?_:_→_) (h.l)
   intro hl1
   exact siftdown_T lt (new:=new) (by rw [List.getElem?_set,if_pos rfl,if_pos hlt1]) (fun p hp=>hK p (h.p.mem_iff.mp hp)) (Hole.set h.h) (fun c h0 hcl hc1=>by rw [List.length_set] at hcl;exact ar427 hc hl1 h0 hcl hc1) (by rw [List.length_set,hl1];exact hz) R
    fun P' h1 h2=>⟨_,rfl,_,wkr,k P' h1 (h2.trans h.p)⟩
theorem heappush_T {Kk:AV→Nat→Prop} (lt:LtR w ρ z Kk) {l:Addr} {P:PL AV} {new:AV×Nat} {K:AV→Z→Ds→Prop}
 (hK:∀ p∈P,Kk p.1 p.2) (hKn:Kk new.1 new.2) (hh:Heap' P) (hz:P.length≤900) (R:Room A 3)
 (k:∀ P',Heap' P'→P'.Perm (P++[new])→K (.v .none) z ((l,ListO (fsts P'))::Δ)) :
 CF w ρ A 141 [.v (.ref l),new.1] z ((l,ListO (fsts P))::Δ) K:=by
  refine lf_def (by assumption) ?_ (by k_is) (by k_is) (by first | exact args1 fun f=>rfl | exact args2 fun f f=>rfl | exact args3 fun f f f=>rfl) (by decide) (by decide) (by rfl) (by rfl) (by rfl) (by decide)
  intro L A' R C O
  refine lf_gml (.own 0 rfl) PySem.F.slot_list_append PySem.F.type_list_append ?_
  refine lf_append (j:=0) rfl (le_fsts (by exact ar142 hz)) ?_
  refine (?_:(fsts (P++[new])=fsts P++[new.1])→_) (List.map_append)
  intro e
  refine (?_:((P++[new]).length=P.length+1)→_) (List.length_append)
  intro hl
  rw [← e]
  refine lf_len (.own 0 rfl) (le_fsts (by exact ar74 hl hz)) ?_
  rw [List.length_map,hl]
  refine lc_at 0 rfl fun F Δ'=>?_
  rw [show Int.ofNat (P.length+1) - 1=Int.ofNat P.length from Int.add_sub_cancel (Int.ofNat P.length) 1]
  refine siftdown_T lt (pos:=P.length) (new:=new) (by simp) (fun p hp=>?_) (Hole.push hh) (fun c h0 hcl hc1=>by rw [hl] at hcl;exact ar368 hc1 h0 hcl) (by exact ar74 hl hz) (R.le (by decide)) fun P' h1 h2=>⟨_,rfl,_,wkr,k P' h1 h2⟩
  rcases List.mem_append.mp hp with h | h
  ·exact hK p h
  ·rw [List.mem_singleton.mp h];exact hKn
theorem heappop_T {Kk:AV→Nat→Prop} (lt:LtR w ρ z Kk) {l:Addr} {P:PL AV} {K:AV→Z→Ds→Prop}
 (hK:∀ p∈P,Kk p.1 p.2) (hh:Heap' P) (hne:P≠[]) (hz:P.length≤900) (R:Room A 3)
 (k:∀ x P',Heap' P'→(x::P').Perm P→(∀ p∈P,x.2≤p.2)→K x.1 z ((l,ListO (fsts P'))::Δ)) :
 CF w ρ A 148 [.v (.ref l)] z ((l,ListO (fsts P))::Δ) K:=by
  refine (?_:(∀ x,P[0]?=some x→∀ p∈P,x.2≤p.2)→_) (by
   intro x hx p hp
   obtain ⟨i,hi⟩:=List.getElem?_of_mem hp
   refine (?_:_→_) (hh.min i (List.getElem?_eq_some_iff.mp hi).1)
   intro this
   rwa [key_some hx,key_some hi] at this)
  intro hmin
  obtain ⟨P0,last,rfl⟩:∃ P0 last,P=P0++[last]:=⟨P.dropLast,P.getLast hne,(List.dropLast_concat_getLast hne).symm⟩
  refine (?_:((P0++[last]).length=P0.length+1)→_) (List.length_append)
  intro hlen
  refine (?_:(fsts (P0++[last])=fsts P0++[last.1])→_) (List.map_append)
  intro e0
  rw [e0]
  refine lf_def (by assumption) ?_ (by k_is) (by k_is) (by first | exact args1 fun f=>rfl | exact args2 fun f f=>rfl | exact args3 fun f f f=>rfl) (by decide) (by decide) (by rfl) (by rfl) (by rfl) (by decide)
  intro L A' R C O
  refine lf_gml (.own 0 rfl) PySem.F.slot_list_pop PySem.F.type_list_pop ?_
  refine lf_pop (j:=0) rfl (le_fsts (by lia)) ?_
  refine ⟨lf_tl (.own 0 rfl) (le_fsts (by lia)) ?_⟩
  cases P0 with
  | nil=>
   refine it_f rfl ?_
   exact ⟨_,wkr,k last [] (fun i hi h=>absurd h (Nat.not_lt_zero _)) (.refl _) (hmin last rfl)⟩
  | cons x r=>
   refine it_t rfl ?_
   refine lf_sl (n:=0) (a:=x.1) (.own 0 rfl) rfl (le_fsts (by lia)) ?_
   refine lf_setP (j:=0) (n:=0) rfl (Nat.succ_pos _) (by lia) ?_
   refine lc_at 0 rfl fun F Δ'=>?_
   refine (?_:((last::r).Perm (r++[last]))→_) (List.perm_append_comm (l₁:=[last]) (l₂:=r))
   intro hp0
   refine siftup_T lt (P:=last::r) (new:=last) rfl (fun p hp=>hK p (.tail _ (hp0.subset hp))) (Hole.top hh.dropLast (Nat.succ_pos _)) (by have:(x::r).length=r.length+1:=rfl;show r.length+1≤1000;lia) (R.le (by decide)) fun P' h1 h2=>⟨_,rfl,_,wkr,k x P' h1 ((h2.cons x).trans (hp0.cons x)) (hmin x rfl)⟩
end
theorem entry_unchain:entryFor table "proto.unchain"=some Builtin.«proto.unchain»:=entryFor_of_fast (by kernel_rfl)
noncomputable def CtxO:OP:=fun o=>∃ vs:Array Value,o.data=.fields vs∧vs[2]?=some .none
noncomputable def HdZ (A:Around) (z:Z):Prop:=A.handled=none∨∃ h,A.handled=some (.ref h)∧Fz z h CtxO
theorem HdZ.mono {A:Around} {z z':Z} (h:HdZ A z) (hz:Sub z z'):HdZ A z':=h.imp id fun ⟨a,e,f⟩=>⟨a,e,f.mono hz⟩
section
variable {w:World} {ρ:Rest} {z:Z} {A:Around} {E:VP} {s:Shared} {Δ:Ds} {F:Addr×OP}
noncomputable def HdH (A:Around) (h:Heap):Prop:=A.handled=none∨∃ e,A.handled=some (.ref e)∧∃ o,h.get? e=some o∧CtxO o
theorem raise_stopH {α:Type} {Q:α→Shared→Prop} (hh:HdH A s.heap)
 (k:∀ e h',(∀ b o,s.heap.get? b=some o→h'.get? b=some o)→(∃ o,h'.get? e=some o∧o.cls=.type "StopIteration")→E (.ref e) { s with heap:=h' }) :
 wpAny (model PG w) A (newExc (.type "StopIteration") [] >>= fun e=>(raiseNew e:Sem α)) Q E s:=by
  refine wpAny_bind ?_
  simp only [newExc,newTuple]
  refine wpAny_bind (wpAny_newObj_type ?_ (by size_fits))
  refine wpAny_bind (m:=firstArgMember _ _) (wpAny_of_eq (a:=Value.none) (by first | rfl | (simp only [firstArgMember];rfl)) ?_)
  refine wpAny_newObj_type ?_ (by size_fits)
  simp only [raiseNew]
  refine wpAny_bind (wpAny_handled ?_)
  rcases hh with hh | ⟨h,hh,oh,eh,ws,hw,h2⟩
  ·rw [hh]
   refine wpAny_bind (wpAny_pure (wpAny_throw ?_))
   refine k _ _ (fun b o e=>Heap.get?_push_of_some _ (Heap.get?_push_of_some _ e)) ⟨_,Heap.get?_push_size _ rfl,rfl⟩
  ·rw [hh]
   dsimp only
   refine (?_:_→_) (Heap.get?_push_of_some { cls:=Value.type "tuple",data:=Data.seq ([]:List Value).toArray } eh)
   intro e1
   generalize hH:s.heap.push { cls:=Value.type "tuple",data:=Data.seq ([]:List Value).toArray }=H at *
   refine (?_:(h≠H.objs.size)→_) (Nat.ne_of_lt (Heap.lt_size e1))
   intro hne
   rw [if_pos (by simpa using hne)]
   refine (?_:(∀ ob,(H.push ob).get? h=some oh)→_) (fun ob=>Heap.get?_push_of_some ob e1)
   intro e2
   refine wpAny_bind (wpAny_holding (wpAny_runValue (codeAny_builtin entry_unchain ?_)))
   refine wpAny_bind (wpAny_field (e2 _) hw h2 ?_)
   rw [if_pos (by rfl)]
   refine wpAny_pure ?_
   refine wpAny_bind (wpAny_setField (Heap.get?_push_size H rfl) rfl (by simp only [Array.size_append];show 2<6+_;lia) (wpAny_throw ?_))
   refine (?_:_→_) (Heap.get?_push_size H (o:={ cls:=Value.type "StopIteration",data:=Data.fields (#[Value.ref s.heap.objs.size,Value.none,Value.none,Value.none,Value.bool false,Value.none]++ownMembersOf (Value.type "StopIteration") []) }) rfl)
   intro eN
   refine k _ _ (fun b o e=>?_) ⟨_,Heap.get?_update_self (Obj.mapFields (·.setIfInBounds 2 (Value.ref h))) eN (Obj.isFreed_of_fields (Obj.data_mapFields rfl _)),(Obj.cls_mapFields ..)⟩
   refine (?_:(H.get? b=some o)→_) (by rw [← hH];exact Heap.get?_push_of_some _ e)
   intro eb
   refine (?_:(b≠H.objs.size)→_) (Nat.ne_of_lt (Heap.lt_size eb))
   intro hb
   exact ((Heap.SameBut.update ..).2 b hb).trans (Heap.get?_push_of_some _ eb)
theorem raise_stop {α:Type} {Q:α→Shared→Prop} (S:St w ρ z (F::Δ) s) (hh:HdZ A z)
 (k:∀ e s',St w ρ z (F::Δ) s'→(∃ o,s'.heap.get? e=some o∧o.cls=.type "StopIteration")→E (.ref e) s') :
 wpAny (model PG w) A (newExc (.type "StopIteration") [] >>= fun e=>(raiseNew e:Sem α)) Q E s:=
  raise_stopH (hh.imp id fun ⟨a,e,o,h1,h2⟩=>⟨a,e,o,S.fr _ _ h1,h2⟩) fun e h' hk he=>k e _ (S.grow (t:=s.toks) hk) he
structure Nf (w:World) (ρ:Rest) (z:Z) (i:Addr) {α:Type} (rel:α→Value→Prop) (J:List α→Ds) (X:Ds):Prop where
 next:∀ {A:Around} {E:VP} {s:Shared} {z':Z} {Δ:Ds} {F:Addr×OP} {a:α} {r:List α} {Q:VP},Sub z z'→St w ρ z' (F::(J (a::r)++Δ)) s →
  (∀ v s',rel a v→St w ρ z' (F::(J r++Δ)) s'→Q v s')→wpAny (model PG w) A (Builtin.SmallTypes.nextOf (.ref i)) Q E s
 stop:∀ {A:Around} {E:VP} {s:Shared} {z':Z} {Δ:Ds} {F:Addr×OP} {Q:VP},Sub z z'→HdZ A z'→St w ρ z' (F::(J []++Δ)) s →
  (∀ e s',St w ρ z' (F::(X++Δ)) s'→(∃ o,s'.heap.get? e=some o∧o.cls=.type "StopIteration")→E (.ref e) s')→wpAny (model PG w) A (Builtin.SmallTypes.nextOf (.ref i)) Q E s
 left:∀ (r:List α) (f:Addr×OP→Nat),(X.map f).sum≤((J r).map f).sum
theorem St.go1 {a:Addr} {P:OP} {h':Heap} {t:Nat} (S:St w ρ z (F::(a,P)::Δ) s) (hs:Heap.SameBut a s.heap h') (hP:∃ o,h'.get? a=some o):St w ρ z (F::Δ) { s with heap:=h',toks:=t }:=by
 refine (let Gl:Prop:=_;(?_:Gl))
 obtain ⟨o,ho⟩:=hP
 refine (?_:_→_) (S.same (P':=fun d=>True) (t:=t) 1 (a:=a) (P:=P) rfl hs ⟨o,ho,trivial⟩)
 intro this
 exact this.sub ((List.sublist_cons_self ..).cons_cons _)
theorem Nf.list {α:Type} {rel:α→Value→Prop} {l it:Addr} {items:List α} {X:Ds}
 (hl:∀ {z' Δ F s},Sub z z'→St w ρ z' (F::(X++Δ)) s→∃ arr,s.heap.IsList l arr∧PR rel items arr.toList):Nf w ρ z it rel (fun r=>(it,LItO l items r)::X) X where
  next:=fun {A E s z' Δ F a r Q} hz S h=>by
   obtain ⟨o,e,i,hc⟩:=S.at 1 rfl
   refine (?_:_→_→_→_) hc.1 hc.2.1 hc.2.2
   intro hc hd hi
   refine (let Gl:Prop:=_;(?_:Gl))
   obtain ⟨arr,ha,hr⟩:=hl hz (S.sub ((List.sublist_cons_self ..).cons_cons _))
   obtain ⟨v,h1,h2,h3⟩:=hr.drop1 hi
   refine wpAny_nextOf_list_item ⟨o,e,hc,hd⟩ ha (by simpa using h1) fun h' hit hs=>h v _ h2 ?_
   refine (let Gl:Prop:=_;(?_:Gl))
   obtain ⟨o',e'⟩:=hit
   refine (?_:_→_→_→_) e'.1 e'.2.1 e'.2.2
   intro e' hc' hd'
   exact S.same (P':=LItO l items r) (t:=s.toks) 1 rfl hs ⟨o',e',i+1,hc',hd',h3⟩
  stop:=fun {A E s z' Δ F Q} hz hA S h=>by
   obtain ⟨o,ho,i,hc⟩:=S.at 1 rfl
   refine (?_:_→_→_→_) hc.1 hc.2.1 hc.2.2
   intro hc hd hi
   refine (let Gl:Prop:=_;(?_:Gl))
   obtain ⟨arr,ha⟩:=hl hz (S.sub ((List.sublist_cons_self ..).cons_cons _))
   refine (?_:_→_→_) ha.1 ha.2
   intro ha hr
   obtain ⟨ol,hol,_,nl,hdl⟩:=ha
   refine (?_:(arr[i]?=none)→_) (by simpa using hr.drop0 hi)
   intro hx
   refine (?_:(s.TypeIs (.ref it) "list_iterator")→_) (⟨o,ho,hc⟩)
   intro hT
   refine wpAny_bind (wpAny_callSpecial?_slot (name:=Str.ofString "__next__") hT slot_listiter_next
    (wpAny_call_entry slot_listiter_next hT entry_listiter_next ?_ (args_listiter_next _)))
   show wpAny _ _ (field (.ref it) 0 >>= _) _ _ s
   refine wpAny_bind (wpAny_field ho hd (x:=.ref l) rfl ?_)
   show wpAny _ _ (if (Value.ref l == Value.none)=true then _ else _) _ _ s
   rw [if_neg (show ¬ ((Value.ref l == Value.none)=true) from Bool.false_ne_true)]
   refine wpAny_bind (wpAny_field ho hd (x:=.int i 0) rfl ?_)
   refine wpAny_bind (wpAny_seqItems hol hdl ?_)
   simp only [Int.toNat_natCast,hx]
   refine wpAny_bind (wpAny_rule (wpAny_bind (wpAny_setField ho hd (by simp) ?_)))
   refine raise_stop (St.go1 (t:=s.toks) S (Heap.SameBut.update ..) ⟨_,Heap.get?_update_self (Obj.mapFields (·.setIfInBounds 0 Value.none)) ho (Obj.isFreed_of_fields (Obj.data_mapFields hd _))⟩) hA fun e s' S' he=>h e s' S' he
  left:=fun r f=>by simp
theorem Nf.str {x:Str} {it:Addr} {X:Ds}:Nf w ρ z it (fun (c:Str) v=>∃ t,v=.str c t) (fun r=>(it,SItO x r)::X) X where
 next:=fun {A E s z' Δ F a r Q} hz S h=>by
  obtain ⟨o,ho,i,t,hc,hd,hi⟩:=S.at 1 rfl
  refine (let Gl:Prop:=_;(?_:Gl))
  obtain ⟨c,h1,h2,h3⟩:=drop_map1 hi
  subst h2
  refine (?_:(x.cps[i]?=some c)→_) (by simpa using h1)
  intro hx
  refine (?_:(s.TypeIs (.ref it) "str_ascii_iterator")→_) (⟨o,ho,hc⟩)
  intro hT
  refine wpAny_bind (wpAny_callSpecial?_slot (name:=Str.ofString "__next__") hT PySem.F.slot_str_ascii_iterator_next
   (wpAny_call_entry PySem.F.slot_str_ascii_iterator_next hT PySem.F.entry_str_ascii_iterator_next ?_ (PySem.F.args_str_ascii_iterator_next_1 _)))
  show wpAny _ _ (field (.ref it) 0 >>= _) _ _ s
  refine wpAny_bind (wpAny_field ho hd (x:=.str x t) rfl ?_)
  show wpAny _ _ (field (.ref it) 1 >>= _) _ _ s
  refine wpAny_bind (wpAny_field ho hd (x:=.int i 0) rfl ?_)
  simp only [Int.toNat_natCast,hx]
  refine wpAny_bind (wpAny_setField ho hd (by simp) (wpAny_bind (wpAny_mkStr (wpAny_pure ⟨_,rfl,wpAny_pure (h _ _ ⟨_,rfl⟩ ?_)⟩) (by show 1≤sizeLine;decide))))
  refine S.same (P':=SItO x r) (t:=s.toks+1) 1 rfl (Heap.SameBut.update ..) ⟨_,Heap.get?_update_self _ ho (Obj.isFreed_of_fields (Obj.data_mapFields hd _)),i+1,t,(Obj.cls_mapFields ..).trans hc,?_,h3⟩
  rw [Obj.data_mapFields hd];simp [rawInt]
 stop:=fun {A E s z' Δ F Q} hz hA S h=>by
  obtain ⟨o,ho,i,t,hc,hd,hi⟩:=S.at 1 rfl
  have hx:x.cps[i]?=none:=by rw [Array.getElem?_eq_none_iff];simpa using hi
  have hT:s.TypeIs (.ref it) "str_ascii_iterator":=⟨o,ho,hc⟩
  refine wpAny_bind (wpAny_callSpecial?_slot (name:=Str.ofString "__next__") hT PySem.F.slot_str_ascii_iterator_next
   (wpAny_call_entry PySem.F.slot_str_ascii_iterator_next hT PySem.F.entry_str_ascii_iterator_next ?_ (PySem.F.args_str_ascii_iterator_next_1 _)))
  show wpAny _ _ (field (.ref it) 0 >>= _) _ _ s
  refine wpAny_bind (wpAny_field ho hd (x:=.str x t) rfl ?_)
  show wpAny _ _ (field (.ref it) 1 >>= _) _ _ s
  refine wpAny_bind (wpAny_field ho hd (x:=.int i 0) rfl ?_)
  simp only [Int.toNat_natCast,hx]
  refine wpAny_bind (wpAny_rule (wpAny_bind (wpAny_setField ho hd (by simp) (wpAny_bind (wpAny_letGo ?_)))))
  refine raise_stop (St.go1 (t:=s.toks) S (Heap.SameBut.update ..) ⟨_,Heap.get?_update_self (Obj.mapFields (·.setIfInBounds 0 Value.none)) ho (Obj.isFreed_of_fields (Obj.data_mapFields hd _))⟩) hA fun e s' S' he=>h e s' S' he
 left:=fun r f=>by simp
theorem Nf.map {α β:Type} {it:Addr} {rel:β→Value→Prop} {J:List β→Ds} {X:Ds} (f:α→β) (N:Nf w ρ z it rel J X):Nf w ρ z it (fun a=>rel (f a)) (fun r=>J (r.map f)) X where
 next:=fun hz S h=>N.next hz S h
 stop:=fun hz hA S h=>N.stop hz hA S h
 left:=fun r g=>N.left _ g
noncomputable def ZipO (TI TO:Addr) (f0:Value):OP:=fun o=>o={ cls:=.type "zip",dict:=none,data:=.fields #[f0,.bool false,.bool false,.ref TI,.ref TO],slots:=#[] }
noncomputable def PairV (a b:Value):OP:=fun o=>o={ cls:=.type "tuple",data:=.seq #[a,b] }
noncomputable def PairE:OP:=fun o=>∃ a b,o={ cls:=.type "tuple",data:=.seq #[a,b] }
section
variable {α β:Type} {rel1:α→Value→Prop} {rel2:β→Value→Prop} {J1:List α→Ds} {J2:List β→Ds} {X1 X2:Ds} {zz TI TO i1 i2:Addr}
theorem St.setF0 {f0 f1:Value} {h':Heap} {t:Nat} (S:St w ρ z (F::(zz,ZipO TI TO f0)::Δ) s) (hz':h'.get? zz=some { cls:=.type "zip",dict:=none,data:=.fields #[f1,.bool false,.bool false,.ref TI,.ref TO],slots:=#[] }) (hs:Heap.SameBut zz s.heap h') :
 St w ρ z (F::(zz,ZipO TI TO f1)::Δ) { s with heap:=h',toks:=t }:=S.same 1 rfl hs ⟨_,hz',rfl⟩
theorem zip_item {a:α} {b:β} {r1:List α} {r2:List β} {Q:VP} {z':Z} (N1:Nf w ρ z i1 rel1 J1 X1) (N2:Nf w ρ z i2 rel2 J2 X2) (hz:Sub z z') (hTI:Fz z TI (PairV (.ref i1) (.ref i2)))
 (S:St w ρ z' (F::(zz,ZipO TI TO .none)::(TO,PairE)::(J1 (a::r1)++(J2 (b::r2)++Δ))) s)
 (h:∀ q x y s',rel1 a x→rel2 b y→St w ρ z' (F::(q,PairV x y)::(zz,ZipO TI TO (rawInt q))::(TO,PairE)::(J1 r1++(J2 r2++Δ))) s'→Q (.ref q) s') :
 wpAny (model PG w) A (Builtin.«zip.__next__» ⟨[.ref zz],[]⟩) (fun fin s'=>∃ v,fin=.done (.ret v)∧Q v s') E s:=by
  obtain ⟨_,ez,rfl⟩:=S.at 1 rfl
  obtain ⟨_,eTI,rfl⟩:=S.fz (hTI.mono hz)
  show wpAny _ _ (field (.ref zz) 2 >>= _) _ _ _
  refine wpAny_bind (wpAny_field ez rfl (x:=.bool false) rfl ?_)
  refine wpAny_bind (wpAny_field ez rfl (x:=.ref TI) rfl ?_)
  refine wpAny_bind (wpAny_seqItems eTI rfl ?_)
  refine wpAny_bind ?_
  refine wpAny_bind (wpAny_field ez rfl (x:=.none) rfl (wpAny_pure ?_))
  simp only [if_true]
  refine wpAny_bind (wpAny_rule ?_)
  refine wpAny_bind (wpAny_field ez rfl (x:=.ref TO) rfl ?_)
  refine wpAny_bind (wpAny_setField_rec ez (by simp) fun h₁ hz₁ hs₁=>?_)
  refine (?_:_→_) (St.setF0 (t:=s.toks) S hz₁ hs₁)
  intro S1
  refine wpAny_bind ?_
  simp only [List.zipIdx_cons,List.zipIdx_nil,List.forIn_cons,List.forIn_nil]
  refine wpAny_bind (wpAny_bind (wpAny_onRaise ?_))
  refine wpAny_bind (N1.next (a:=a) (r:=r1) (F:=F) (Δ:=J2 (b::r2)++((zz,ZipO TI TO .ellipsis)::(TO,PairE)::Δ)) hz (S1.le fun f=>?_) fun x s2 hx S2=>wpAny_pure ?_)
  ·simp only [List.map_cons,List.map_append,List.sum_cons,List.sum_append];exact ar30
  have S3:St w ρ z' (F::(TO,PairE)::(zz,ZipO TI TO .ellipsis)::(J1 r1++(J2 (b::r2)++Δ))) s2:=S2.le fun f=>by
   simp only [List.map_cons,List.map_append,List.sum_cons,List.sum_append];exact ar96
  obtain ⟨_,eTO,u,v,rfl⟩:=S3.at 1 rfl
  refine wpAny_bind (wpAny_seqItems eTO rfl ?_)
  refine wpAny_bind (wpAny_updateSeq_pair eTO fun h₃ hTO₃ hs₃=>?_)
  refine (?_:_→_) (S3.same (P':=PairV x v) (t:=s2.toks) 1 rfl hs₃ ⟨_,hTO₃,rfl⟩)
  intro S4
  simp only [List.set] at S4
  refine wpAny_bind (wpAny_letGo (wpAny_pure ?_))
  refine wpAny_bind (wpAny_bind (wpAny_onRaise ?_))
  show wpAny _ _ (Builtin.SmallTypes.nextOf (.ref i2) >>= _) _ _ _
  refine wpAny_bind (N2.next (a:=b) (r:=r2) (F:=F) (Δ:=J1 r1++((zz,ZipO TI TO .ellipsis)::(TO,PairV x v)::Δ)) hz (S4.le fun f=>?_) fun y s5 hy S5=>wpAny_pure ?_)
  ·simp only [List.map_cons,List.map_append,List.sum_cons,List.sum_append];exact ar31
  have S6:St w ρ z' (F::(TO,PairV x v)::(zz,ZipO TI TO .ellipsis)::(J1 r1++(J2 r2++Δ))) s5:=S5.le fun f=>by
   simp only [List.map_cons,List.map_append,List.sum_cons,List.sum_append];exact ar31
  obtain ⟨_,eTO,rfl⟩:=S6.at 1 rfl
  refine wpAny_bind (wpAny_seqItems eTO rfl ?_)
  refine wpAny_bind (wpAny_updateSeq_pair eTO fun h₇ hTO₇ hs₇=>?_)
  replace hTO₇:h₇.get? TO=some { cls:=.type "tuple",data:=.seq #[x,y] }:=hTO₇
  refine (?_:_→_) (S6.same (P':=PairV x y) (t:=s5.toks) 1 rfl hs₇ ⟨_,hTO₇,rfl⟩)
  intro S7
  simp only [List.set] at S7
  refine wpAny_bind (wpAny_letGo (wpAny_pure (wpAny_pure ?_)))
  refine wpAny_bind (wpAny_seqItems hTO₇ rfl ?_)
  refine wpAny_bind (wpAny_newTuple ?_)
  refine (?_:_→_) (S7.push1 (t:=s5.toks) (o:={ cls:=.type "tuple",data:=.seq #[x,y] }) (P:=PairV x y) rfl rfl)
  intro S8
  generalize hq:({ s5 with heap:=h₇ }:Shared).heap.objs.size=q at *
  refine (?_:(h₇.objs.size=q)→_) (hq)
  intro hq'
  refine wpAny_bind ?_
  obtain ⟨_,ez8,rfl⟩:=S8.at 3 rfl
  refine wpAny_bind (wpAny_setField_rec ez8 (by simp) fun h₉ hz₉ hs₉=>?_)
  refine (?_:_→_) (S8.same (P':=ZipO TI TO (rawInt q)) (t:=s5.toks) 3 rfl hs₉ ⟨_,hz₉,rfl⟩)
  intro S9
  refine wpAny_setField_rec hz₉ (by simp) fun h₁₀ hz₁₀ hs₁₀=>?_
  refine (?_:_→_) (S9.same (P':=ZipO TI TO (rawInt q)) (t:=s5.toks) 3 rfl hs₁₀ ⟨_,hz₁₀,rfl⟩)
  intro S10
  refine wpAny_pure ⟨_,rfl,?_⟩
  refine h q x y _ hx hy ?_
  refine (?_:_→_) (S10.weak (P':=PairE) 2 rfl fun o e=>⟨_,_,e⟩)
  intro S11
  simp only [List.set] at S11
  refine S11.le fun f=>?_
  simp only [List.map_cons,List.map_append,List.sum_cons,List.sum_append];exact ar438
theorem zip_end {r1:List α} {r2:List β} {Q:Fin→Shared→Prop} {z':Z} (N1:Nf w ρ z i1 rel1 J1 X1) (N2:Nf w ρ z i2 rel2 J2 X2) (hz:Sub z z') (hA:HdZ A z') (hTI:Fz z TI (PairV (.ref i1) (.ref i2))) (hr:r1=[]∨r2=[])
 (S:St w ρ z' (F::(zz,ZipO TI TO .none)::(TO,PairE)::(J1 r1++(J2 r2++Δ))) s)
 (h:∀ e s',St w ρ z' (F::(X1++(X2++Δ))) s'→(∃ o,s'.heap.get? e=some o∧o.cls=.type "StopIteration")→E (.ref e) s') :
 wpAny (model PG w) A (Builtin.«zip.__next__» ⟨[.ref zz],[]⟩) Q E s:=by
  obtain ⟨_,ez,rfl⟩:=S.at 1 rfl
  obtain ⟨_,eTI,rfl⟩:=S.fz (hTI.mono hz)
  show wpAny _ _ (field (.ref zz) 2 >>= _) _ _ _
  refine wpAny_bind (wpAny_field ez rfl (x:=.bool false) rfl ?_)
  refine wpAny_bind (wpAny_field ez rfl (x:=.ref TI) rfl ?_)
  refine wpAny_bind (wpAny_seqItems eTI rfl ?_)
  refine wpAny_bind ?_
  refine wpAny_bind (wpAny_field ez rfl (x:=.none) rfl (wpAny_pure ?_))
  simp only [if_true]
  refine wpAny_bind (wpAny_rule ?_)
  refine wpAny_bind (wpAny_field ez rfl (x:=.ref TO) rfl ?_)
  refine wpAny_bind (wpAny_setField_rec ez (by simp) fun h₁ hz₁ hs₁=>?_)
  have S1:=St.setF0 (t:=s.toks) S hz₁ hs₁
  -- behind a stop of either
  have back:∀ {s:Shared} {e:Addr} {T:OP},St w ρ z' (F::(zz,ZipO TI TO .ellipsis)::(TO,T)::(X1++(X2++Δ))) s→(∃ o,s.heap.get? e=some o∧o.cls=.type "StopIteration") →
   wpAny (model PG w) A (setField (Value.ref zz) 0 Value.none) (fun d s''=>E (.ref e) s'') E s:=by
   intro s e T S he
   obtain ⟨_,ez,rfl⟩:=S.at 1 rfl
   obtain ⟨oe,hoe,hce⟩:=he
   refine (?_:(e≠zz)→_) (fun x=>by subst x;rw [ez] at hoe;cases hoe;simp at hce)
   intro hez
   refine wpAny_setField_rec ez (by simp) fun h₃ hz₃ hs₃=>h e _ ?_ ⟨oe,(hs₃.2 e hez).trans hoe,hce⟩
   refine (?_:_→_) (St.go1 (t:=s.toks) S hs₃ ⟨_,hz₃⟩)
   intro this
   exact this.sub ((List.sublist_cons_self ..).cons_cons _)
  refine wpAny_bind ?_
  simp only [List.zipIdx_cons,List.zipIdx_nil,List.forIn_cons,List.forIn_nil]
  refine wpAny_bind (wpAny_bind (wpAny_onRaise ?_))
  cases r1 with
  | nil=>
   refine wpAny_bind (N1.stop (F:=F) (Δ:=J2 r2++((zz,ZipO TI TO .ellipsis)::(TO,PairE)::Δ)) hz hA (S1.le fun f=>?_) fun e s2 S2 he=>back (T:=PairE) (S2.le fun f=>?_) he)
   ·simp only [List.map_cons,List.map_append,List.sum_cons,List.sum_append];exact ar30
   ·refine (?_:_→_) (N2.left r2 f)
    intro this
    simp only [List.map_cons,List.map_append,List.sum_cons,List.sum_append];exact ar436 this
  | cons a r1=>
   obtain rfl:r2=[]:=hr.resolve_left (by simp)
   refine wpAny_bind (N1.next (a:=a) (r:=r1) (F:=F) (Δ:=J2 []++((zz,ZipO TI TO .ellipsis)::(TO,PairE)::Δ)) hz (S1.le fun f=>?_) fun x s2 hx S2=>wpAny_pure ?_)
   ·simp only [List.map_cons,List.map_append,List.sum_cons,List.sum_append];exact ar30
   have S3:St w ρ z' (F::(TO,PairE)::(zz,ZipO TI TO .ellipsis)::(J1 r1++(J2 []++Δ))) s2:=S2.le fun f=>by
    simp only [List.map_cons,List.map_append,List.sum_cons,List.sum_append];exact ar96
   obtain ⟨_,eTO,u,v,rfl⟩:=S3.at 1 rfl
   refine wpAny_bind (wpAny_seqItems eTO rfl ?_)
   refine wpAny_bind (wpAny_updateSeq_pair eTO fun h₃ hTO₃ hs₃=>?_)
   refine (?_:_→_) (S3.same (P':=PairV x v) (t:=s2.toks) 1 rfl hs₃ ⟨_,hTO₃,rfl⟩)
   intro S4
   simp only [List.set] at S4
   refine wpAny_bind (wpAny_letGo (wpAny_pure ?_))
   refine wpAny_bind (wpAny_bind (wpAny_onRaise ?_))
   show wpAny _ _ (Builtin.SmallTypes.nextOf (.ref i2) >>= _) _ _ _
   refine wpAny_bind (N2.stop (F:=F) (Δ:=J1 r1++((zz,ZipO TI TO .ellipsis)::(TO,PairV x v)::Δ)) hz hA (S4.le fun f=>?_) fun e s5 S5 he=>back (T:=PairV x v) (S5.le fun f=>?_) he)
   ·simp only [List.map_cons,List.map_append,List.sum_cons,List.sum_append];exact ar31
   ·refine (?_:_→_) (N1.left r1 f)
    intro this
    simp only [List.map_cons,List.map_append,List.sum_cons,List.sum_append];exact ar435 this
end
theorem items_unpackH {vs:List AV} {q:Addr} {n:Nat} {Q:List Value→Shared→Prop} (S:St w ρ z (F::Δ) s) (hA:HdZ A z) (hq:Has s q (TupO vs)) (hn:n=vs.length)
 (h:∀ xs s',ARel vs xs→St w ρ z (F::Δ) s'→Q xs s'):wpAny (model PG w) A (unpackItems (.ref q) n none) Q E s:=by
  obtain ⟨arr,⟨o,e,c1,k,c2⟩,hr⟩:=TupO.isT hq
  have ht:s.heap.IsTuple q arr:=⟨o,e,c1,k,c2⟩
  refine (?_:(arr.size=vs.length)→_) (by rw [← hr.length];simp)
  intro hsz
  rw [hn,← hsz]
  refine (?_:(q≠s.heap.objs.size)→_) (Nat.ne_of_lt (Heap.lt_size e))
  intro hlt
  refine wpAny_bind ?_
  refine wpAny_bind (wpAny_specialOf ht.typeIs PySem.F.slot_tuple_iter.lookup ?_)
  refine wpAny_pure ?_
  simp only [Bool.false_eq_true,if_false]
  refine wpAny_bind (wpAny_holding (wpAny_pyIter_tuple ht ?_))
  refine wpAny_bind (wpAny_holding (wpAny_draw_tuple hlt arr.size 0 _ _ ⟨_,Heap.get?_push_size _ rfl,rfl,rfl⟩ (ht.push _) (by exact ar107) fun h₁ hit₁ hs₁=>?_))
  have hall:List.take arr.size (List.drop 0 arr.toList)=arr.toList:=by
   rw [List.drop_zero];exact List.take_of_length_le (by simp)
  rw [hall]
  rw [if_neg (by simp)]
  refine (?_:(h₁.IsTuple q arr)→_) ((ht.push _).extBut hs₁.extBut hlt)
  intro ht₁
  have S1:St w ρ z (F::Δ) { s with heap:=h₁,toks:=s.toks }:=S.grow fun b o e=>hs₁.extBut b o (Nat.ne_of_lt (Heap.lt_size e)) (Heap.get?_push_of_some _ e)
  refine wpAny_bind (wpAny_holding ?_)
  refine (let Gl:Prop:=_;(?_:Gl))
  obtain ⟨oi,hoi⟩:=id hit₁
  refine (?_:_→_→_→_) hoi.1 hoi.2.1 hoi.2.2
  intro hoi hci hdi
  obtain ⟨ol,hol,_,nl,hdl⟩:=ht₁
  refine (?_:(arr[0+arr.size]?=none)→_) (by simp)
  intro hx
  refine wpAny_bind (wpAny_attempt (wpAny_callSpecial?_slot (name:=Str.ofString "__next__") hit₁.typeIs PySem.F.slot_tuple_iterator_next
   (wpAny_call_entry PySem.F.slot_tuple_iterator_next hit₁.typeIs PySem.F.entry_tuple_iterator_next ?_ (PySem.F.args_tuple_iterator_next_1 _))))
  show wpAny _ _ (field (.ref s.heap.objs.size) 0 >>= _) _ _ _
  refine wpAny_bind (wpAny_field hoi hdi (x:=.ref q) rfl ?_)
  show wpAny _ _ (if (Value.ref q == Value.none)=true then _ else _) _ _ _
  rw [if_neg (show ¬ ((Value.ref q == Value.none)=true) from Bool.false_ne_true)]
  refine wpAny_bind (wpAny_field hoi hdi (x:=.int (0+arr.size:Nat) 0) rfl ?_)
  refine wpAny_bind (wpAny_seqItems hol hdl ?_)
  simp only [Int.toNat_natCast,hx]
  refine wpAny_bind (wpAny_rule (wpAny_bind (wpAny_setField hoi hdi (by simp) ?_)))
  refine (?_:(∀ b o,s.heap.get? b=some o→(h₁.update s.heap.objs.size (Obj.mapFields (·.setIfInBounds 0 Value.none))).get? b=some o)→_) (fun b o e=>by
   refine (?_:(b≠s.heap.objs.size)→_) (Nat.ne_of_lt (Heap.lt_size e))
   intro hb
   exact ((Heap.SameBut.update ..).2 b hb).trans (hs₁.extBut b o hb (Heap.get?_push_of_some _ e)))
  intro hk
  refine raise_stop (S.grow (t:=s.toks) hk) hA fun ex s' S' he=>?_
  obtain ⟨oe,hoe⟩:=he
  refine (?_:_→_→_) hoe.1 hoe.2
  intro hoe hce
  refine wpAny_bind (wpAny_isInstance (T:="StopIteration") (b:=true) ⟨oe,hoe,hce⟩ isSubtype_stop ?_)
  refine wpAny_pure ?_
  simp only [Option.isSome_none,Bool.false_eq_true,if_false]
  exact wpAny_pure (h _ _ hr S')
theorem asg_unpackH {env:Env} {elts:List PySem.Expr} {x1} {pos:Pos} {vs:List AV} {q:Addr} {Q:Unit→Shared→Prop} (S:St w ρ z (F::Δ) s) (hA:HdZ A z) (hq:Has s q (TupO vs))
 (hn:(assignEach elts env).length=vs.length) (hst:(assignEach elts env).findIdx? (·.1)=none)
 (h:∀ xs s',ARel vs xs→St w ρ z (F::Δ) s'→wpAny (model PG w) A (assignInOrder ((assignEach elts env).map (·.2)) xs) Q E s'):wpAny (model PG w) A (assign (.Tuple elts x1 pos) env (.ref q)) Q E s:=by
  rw [arm_assign_Tuple]
  refine wpAny_bind (wpAny_standAt ?_)
  unfold unpack
  rw [hst]
  exact wpAny_bind (wpAny_holding (items_unpackH S hA hq hn h))
end
theorem Its.ofA {w:World} {ρ:Rest} {z:Z} {it:Value} {env:Env} {t:PySem.Expr} {α:Type} {up:α→Loc→Loc} {J:List α→Ds} {X:Ds} (H:∀ A,Room A 0→ItsA w ρ z A it env t up J X)
 (self:∀ {A:Around} {E:VP} {s:Shared} {z':Z} {Δ:Ds} {F:Addr×OP} {r:List α} {Q:VP},Sub z z'→St w ρ z' (F::(Δ++J r)) s→Q it s→wpAny (model PG w) A (pyIter it) Q E s):Its w ρ z it env t up J X where
  item:=fun hz R hL S h=>(H _ R).item hz hL S h
  stop:=fun hz R S h=>(H _ R).stop hz S h
  self:=self
section
variable {w:World} {ρ:Rest} {z:Z} {env:Env} {A:Around} {E:VP} {s:Shared} {Δ X:Ds} {L:Addr} {m:Loc} {F:Addr×OP}
section
variable {α β γ:Type} {rel1:α→Value→Prop} {rel2:β→Value→Prop} {J1:List α→Ds} {J2:List β→Ds} {X1 X2:Ds} {zz TI TO i1 i2:Addr}
noncomputable abbrev zipJ (zz TI TO:Addr) (J1:List α→Ds) (J2:List β→Ds) (f1:γ→α) (f2:γ→β) (t1:List α) (t2:List β) (r:List γ):Ds:=
 (zz,ZipO TI TO .none)::(TO,PairE)::(J1 (r.map f1++t1)++J2 (r.map f2++t2))
theorem zip_self {f1:γ→α} {f2:γ→β} {t1:List α} {t2:List β} {z':Z} {r:List γ} {Q:VP} (S:St w ρ z' (F::(Δ++zipJ zz TI TO J1 J2 f1 f2 t1 t2 r)) s) (h:Q (.ref zz) s):wpAny (model PG w) A (pyIter (.ref zz)) Q E s:=by
 obtain ⟨o,e,rfl⟩:=S.has (a:=zz) (P:=ZipO TI TO .none) (.tail _ (List.mem_append_right _ (.head _)))
 exact wpAny_pyIter_zip e h
theorem ItsA.zip {elts:List PySem.Expr} {x1} {pos:Pos} {up:γ→Loc→Loc} {t1:List α} {t2:List β} (f1:γ→α) (f2:γ→β) (N1:Nf w ρ z i1 rel1 J1 X1) (N2:Nf w ρ z i2 rel2 J2 X2) (hA:HdZ A z) (hTI:Fz z TI (PairV (.ref i1) (.ref i2))) (ht:t1=[]∨t2=[])
 (hn:(assignEach elts env).length=2) (hst:(assignEach elts env).findIdx? (·.1)=none)
 (G:∀ {E:VP} {s:Shared} {z':Z} {Δ:Ds} {L:Addr} {m:Loc} {c:γ} {x y:Value} {Q:Unit→Shared→Prop},Sub z z'→rel1 (f1 c) x→rel2 (f2 c) y→env.locals=L→St w ρ z' ((L,FrO m)::Δ) s →
 (∀ s',St w ρ z' ((L,FrO (up c m))::Δ) s'→Q () s')→wpAny (model PG w) A (assignInOrder ((assignEach elts env).map (·.2)) [x,y]) Q E s) :
 ItsA w ρ z A (.ref zz) env (.Tuple elts x1 pos) up (zipJ zz TI TO J1 J2 f1 f2 t1 t2) (X1++X2) where
  item:=fun {E s z' Δ L m c r Q} hz hL S h=>by
   have S0:St w ρ z' ((L,FrO m)::(zz,ZipO TI TO .none)::(TO,PairE)::(J1 (f1 c::(r.map f1++t1))++(J2 (f2 c::(r.map f2++t2))++Δ))) s:=S.le fun f=>by
    simp only [zipJ,List.map_cons,List.map_append,List.sum_cons,List.sum_append,List.cons_append];exact ar97
   obtain ⟨o,ez,rfl⟩:=S0.at 1 rfl
   refine (?_:(s.TypeIs (.ref zz) "zip")→_) (⟨_,ez,rfl⟩)
   intro hT
   unfold pyNext
   refine wpAny_bind (wpAny_attempt (wpAny_callSpecial?_slot (name:=Str.ofString "__next__") hT PySem.F.slot_zip_next
    (wpAny_call_entry PySem.F.slot_zip_next hT PySem.F.entry_zip_next (zip_item N1 N2 hz hTI S0 fun q x y s1 hx hy S1=>?_) (PySem.F.args_zip_next_1 _))))
   refine wpAny_pure ?_
   dsimp only
   obtain ⟨_,ez1,rfl⟩:=S1.at 2 rfl
   refine wpAny_letOwnedTupleGo_zip ez1 fun h₂ hz₂ hs₂=>?_
   have S2:=S1.same (P':=ZipO TI TO .none) (t:=s1.toks) 2 rfl hs₂ ⟨_,hz₂,rfl⟩
   simp only [List.set] at S2
   have S3:=S2.weak (P':=TupO [.v x,.v y]) 1 rfl fun o e=>⟨#[x,y],0,e,.cons rfl (.cons rfl .nil)⟩
   simp only [List.set] at S3
   refine asg_unpackH S3 (hA.mono hz) (S3.at 1 rfl) hn hst fun xs s4 hxs S4=>?_
   obtain _ | ⟨rfl,_ | ⟨rfl,_ | _⟩⟩:=hxs
   refine G hz hx hy hL S4 fun s5 S5=>h s5 (S5.le fun f=>?_)
   simp only [zipJ,List.map_cons,List.map_append,List.sum_cons,List.sum_append,List.cons_append];exact ar434
  stop:=fun {E s z' Δ F Q} hz S h=>by
   have S0:St w ρ z' (F::(zz,ZipO TI TO .none)::(TO,PairE)::(J1 t1++(J2 t2++Δ))) s:=S.le fun f=>by
    simp only [zipJ,List.map_cons,List.map_append,List.sum_cons,List.sum_append,List.cons_append,List.map_nil,List.nil_append];exact ar97
   obtain ⟨o,ez,rfl⟩:=S0.at 1 rfl
   have hT:s.TypeIs (.ref zz) "zip":=⟨_,ez,rfl⟩
   unfold pyNext
   refine wpAny_bind (wpAny_attempt (wpAny_callSpecial?_slot (name:=Str.ofString "__next__") hT PySem.F.slot_zip_next
    (wpAny_call_entry PySem.F.slot_zip_next hT PySem.F.entry_zip_next (zip_end N1 N2 hz (hA.mono hz) hTI ht S0 fun e s1 S1 he=>?_) (PySem.F.args_zip_next_1 _))))
   refine (let g:Prop:=_;(?_:g))
   obtain ⟨oe,hoe⟩:=he
   refine (?_:_→_→_) hoe.1 hoe.2
   intro hoe hce
   refine wpAny_bind (wpAny_isInstance (T:="StopIteration") (b:=true) ⟨oe,hoe,hce⟩ isSubtype_stop ?_)
   refine wpAny_pure (h s1 (S1.le fun f=>?_))
   simp only [List.map_cons,List.map_append,List.sum_cons,List.sum_append];exact ar342
  self:=fun hz S h=>zip_self S h
end
theorem Walks.listH (hA:HdZ A z) (I ax:Addr) (hne:ax≠I) (items:Array Value) (hI:z I=none) (hf:∀ a o,z a=some o→s.heap.get? a=some o) :
 ∃ fp,(∀ b∈fp,b=I∨b=ax∨z b≠none)∧Walks PG w A I fp [I] items.size (fun i v=>items[i]?=some v) (fun i h=>h.IsListIter I ax i∧h.IsList ax items∧HdH A h):=by
  refine (let g:Prop:=_;(?_:g))
  obtain ⟨fp0,h1,h2⟩:∃ fp0:List Addr,(∀ b∈fp0,z b≠none)∧(∀ h h':Heap,HdH A h→(∀ b∈fp0,∀ o,h.get? b=some o→h'.get? b=some o)→HdH A h'):=by
   rcases hA with hh | ⟨e,hh,o,he,hc⟩
   ·exact ⟨[],by simp,fun d d d d=>.inl hh⟩
   ·refine ⟨[e],by simp [he],fun h h' hd hk=>?_⟩
    rcases hd with q | ⟨e',q,o',ho',hc'⟩
    ·exact .inl q
    ·rw [hh] at q;cases q
     exact .inr ⟨e,hh,o',hk e (by simp) _ ho',hc'⟩
  have hfI:I ∉ fp0:=fun h=>h1 I h hI
  refine ⟨I::ax::fp0,fun b hb=>?_,?_⟩
  ·rcases List.mem_cons.mp hb with h | hb
   ·exact .inl h
   rcases List.mem_cons.mp hb with h | hb
   ·exact .inr (.inl h)
   ·exact .inr (.inr (h1 b hb))
  refine { sub:=fun b hb=>by simp at hb;simp [hb],frame:=fun d h h' st hk=>⟨st.1.at fun o e=>hk I (by simp) o e,st.2.1.at fun o e=>hk ax (by simp) o e,h2 h h' st.2.2 fun b hb=>hk b (by simp [hb])⟩,item:=fun i s Q E hi st hQ=>?_,done:=fun s Q E st hQ=>?_,self:=fun d d d d st hQ=>wpAny_pyIter_listiter st.1 hQ }
  ·refine wpAny_pyNext_list_item st.1 st.2.1 (x:=items[i]) (by simp [hi]) fun h' hit' hs'=>?_
   exact hQ _ h' s.toks (by simp [hi]) ⟨hit',st.2.1.extBut hs'.extBut hne,h2 _ _ st.2.2 fun b hb o e=>hs'.extBut b o (fun q=>hfI (q▸hb)) e⟩ fun b o hb e=>hs'.extBut b o (fun h=>hb (by simp [h])) e
  ·obtain ⟨⟨o,ho,hc,hd⟩,⟨ol,hol,_,nl,hdl⟩,hdh⟩:=st
   refine (?_:(items[items.size]?=none)→_) (by simp)
   intro hx
   refine (?_:(s.TypeIs (.ref I) "list_iterator")→_) (⟨o,ho,hc⟩)
   intro hT
   refine wpAny_bind (wpAny_attempt (wpAny_callSpecial?_slot (name:=Str.ofString "__next__") hT slot_listiter_next
    (wpAny_call_entry slot_listiter_next hT entry_listiter_next ?_ (args_listiter_next _))))
   show wpAny _ _ (field (.ref I) 0 >>= _) _ _ s
   refine wpAny_bind (wpAny_field ho hd (x:=.ref ax) rfl ?_)
   show wpAny _ _ (if (Value.ref ax == Value.none)=true then _ else _) _ _ s
   rw [if_neg (show ¬ ((Value.ref ax == Value.none)=true) from Bool.false_ne_true)]
   refine wpAny_bind (wpAny_field ho hd (x:=.int items.size 0) rfl ?_)
   refine wpAny_bind (wpAny_seqItems hol hdl ?_)
   simp only [Int.toNat_natCast,hx]
   refine wpAny_bind (wpAny_rule (wpAny_bind (wpAny_setField ho hd (by simp) ?_)))
   have hk:∀ b o',b≠I→s.heap.get? b=some o'→(s.heap.update I (Obj.mapFields (·.setIfInBounds 0 Value.none))).get? b=some o':=fun b o' hb e=>((Heap.SameBut.update ..).2 b hb).trans e
   refine raise_stopH (h2 _ _ hdh fun b hb o' e=>hk b o' (fun q=>hfI (q▸hb)) e) fun e h' hk' he=>?_
   refine (let g:Prop:=_;(?_:g))
   obtain ⟨oe,hoe⟩:=he
   refine (?_:_→_→_) hoe.1 hoe.2
   intro hoe hce
   refine wpAny_bind (wpAny_isInstance (T:="StopIteration") (b:=true) ⟨oe,hoe,hce⟩ isSubtype_stop ?_)
   exact wpAny_pure (hQ _ s.toks fun b o' hb e=>hk' _ _ (hk b o' (fun q=>hb (by simp [q])) e))
theorem b_allH {l:Addr} {bs:List Bool} {Q:VP} (S:St w ρ z (F::Δ) s) (hA:HdZ A z) (h:Has s l (ListO (bs.map bAV)))
 (k:∀ s',St w ρ z (F::Δ) s'→Q (.bool (bs.all id)) s'):wpAny (model PG w) A (call (.builtin "all") [.ref l]) Q E s:=by
  refine (let g:Prop:=_;(?_:g))
  obtain ⟨items,n,hl,r⟩:=ListO.plain h
  refine (?_:(s.heap.IsList l items)→_) (⟨_,hl,rfl,_,rfl⟩)
  intro hIL
  refine (?_:(items.size=bs.length)→_) (by rw [r.sizeA];simp)
  intro hsz
  refine (?_:(l≠s.heap.objs.size)→_) (Nat.ne_of_lt (Heap.lt_size hl))
  intro hne
  obtain ⟨fp,hfp⟩:=Walks.listH (s:=s) (A:=A.in1) hA s.heap.objs.size l hne items S.fresh S.fr
  refine (?_:_→_→_) hfp.1 hfp.2
  intro hfp W
  refine call_all_walk (wpAny_pyIter_list hIL ⟨_,_,_,_,_,_,_,rfl,W,⟨⟨_,Heap.get?_push_size _ rfl,rfl,rfl⟩,hIL.push _,?_⟩,truth_bools items bs r,fun h' tk hk=>?_⟩)
  ·exact (hA.imp id fun ⟨a,e,o,h1,h2⟩=>⟨a,e,o,Heap.get?_push_of_some _ (S.fr _ _ h1),h2⟩)
  rw [hsz,allI]
  refine k _ (S.grow fun b o e=>hk b o ?_ (Heap.get?_push_of_some _ e))
  simp;exact Nat.ne_of_lt (Heap.lt_size e)
end
section
variable {w:World} {ρ:Rest} {z:Z} {env:Env} {A:Around} {E:VP} {s:Shared} {Δ X:Ds} {L:Addr} {m:Loc} {F:Addr×OP}
theorem cfcCN {f:Addr} {name qual:Str} {params:Arguments} {body:List Stmt} {scope:Scope} {dV kV doc pm cdv ct oc:Value} {an od:Option Addr} {osl:Array (Option Value)} {args:List Value} {mA:Loc} {fs:List Env} {Δf:Ds} {Rs:Result→Shared→Prop}
 (S:St w ρ z Δ s) (hfr:A.frames=some fs) (hF:Frs fs Δf) (ho:List.lookup f (hdp.heap_1_39 w.params)=some ⟨oc,od,.func (fnOf name qual params body scope dV kV doc pm an cdv ct),osl⟩) (hcd:codeIn (hdp.heap_1_39 w.params) cdv qual=true) {n:Nat} (hroom:Room A (n+1))
 (hbind:bindArgs (fnOf name qual params body scope dV kV doc pm an cdv ct) ⟨args,[]⟩=pure ((params.args.map (·.arg)).zip args)) (hloc:∀ x∈params.args.map (·.arg),scope.names.lookup x=some .local∨(scope.names.lookup x=some .cell∧((cellsFrom 0 scope.names []).lookup x).isSome=true)) (hm:BRel ((params.args.map (·.arg)).zip args) mA) (hnd:(params.args.map (·.arg)).Nodup)
 (hcn:((cellsFrom 0 scope.names []).map (·.1)).Nodup) (hck:∀ x∈(cellsFrom 0 scope.names []).map (·.1),scope.names.lookup x≠some .local)
 (hmm:∀ p∈m,lk mA p.1=some p.2∧scope.names.lookup p.1=some .local)
 (h:∀ L s' A',Room A' n→A'.frames=some (envOfC qual scope L f cdv::fs)→(∀ {m' Δ'},(∀ p,p∈Δf→FrP p.2→p∈Δ')→Frs (envOfC qual scope L f cdv::fs) ((L,FrO m')::Δ'))→St w ρ z ((L,FrO m)::(cellEs (L+1) scope.names mA++Δ)) s'→wpAny (model PG w) A' (execs body (envOfC qual scope L f cdv)) (fun fl s''=>Rs (.ok (.ret (retOf fl))) s'') (fun e s''=>wpAny (model PG w) A' (leaving (envOfC qual scope L f cdv) e) (fun d s₃=>Rs (.error e) s₃) (fun e' s₃=>Rs (.error e') s₃) s'') s')
 (hco:scope.isCoroutine=false) (hgen:scope.isGenerator=false) (hk:scope.kind=.function) :
 codeAny (model PG w) A (.call (.ref f) ⟨args,[]⟩) Rs s:=by
  refine (?_:_→_) (zip_fst_sub (params.args.map (·.arg)) args)
  intro hsub
  refine (?_:(∀ n,(cellsFrom n scope.names []).map (·.1)=(cellsFrom 0 scope.names []).map (·.1))→_) (fun n=>cellsFrom_names scope.names n 0 [] [] rfl)
  intro hnames
  refine codeAny_call_function (fd:=fnOf name qual params body scope dV kV doc pm an cdv ct) hroom.d0 (S.K _ _ ho) rfl hco hgen rfl (codeRec_of S.K hcd) (BindsTo.of_eq hbind _ _ _ _ ?_)
  refine wpAny_newFunctionEnv_cells hk (fun x hx=>?_) fun env' he s' x=>?_
  ·rcases hloc x.1 (hsub.subset (List.mem_map_of_mem hx)) with q | ⟨q,q2⟩
   ·exact .inl q
   ·refine .inr ⟨q,?_⟩
    obtain ⟨c,hc⟩:=Option.isSome_iff_exists.mp q2
    have hmem:x.1∈(cellsFrom (s.heap.objs.size+1) scope.names []).map (·.1):=by
     rw [hnames];exact List.mem_map.mpr ⟨_,PySem.mem_of_lookup hc,rfl⟩
    obtain ⟨p,hp⟩:=List.mem_map.mp hmem
    refine (?_:_→_→_) hp.1 hp.2
    intro hp e
    refine (?_:(∀ l:List (Str×Addr),(x.1∈l.map (·.1))→(l.lookup x.1).isSome=true)→_) (by
     intro l
     induction l with
     | nil=>intro h;simp at h
     | cons a r ih=>
      intro h
      rw [List.lookup_cons]
      cases hb:x.1 == a.1 with
      | true=>rfl
      | false=>exact ih (by simpa [beq_eq_false_iff_ne.mp hb] using h))
    intro this
    exact this _ hmem
  subst he
  refine ⟨S.nolim.keeps x.toInCall.keep,codeAny_func ?_⟩
  obtain ⟨h₁,tk,rfl,hk₁⟩:=x.done
  have hns:=x.toInCall.ns
  refine (?_:(∀ p∈cellsFrom (s.heap.objs.size+1) scope.names [],(cellsFrom (s.heap.objs.size+1) scope.names []).lookup p.1=some p.2)→_) (fun p hp=>
   lookup_of_mem_nodup (hnames (s.heap.objs.size+1)▸hcn) hp)
  intro hcell
  refine (?_:(s.heap.objs.size<h₁.objs.size)→_) (hns.lt)
  intro hlt
  refine h s.heap.objs.size _ _ hroom.deeper (by
   show pushEnvs [envOfC qual scope s.heap.objs.size f cdv] A.frames=_
   rw [hfr];rfl) (fun {m' Δ'} hs x hx=>?_) ?_
  ·rcases List.mem_cons.mp hx with rfl | hx
   ·exact ⟨(by show scope.kind≠.module;rw [hk];intro q;cases q),s.heap.objs.size,FrO m',rfl,.head _,FrP.fr m'⟩
   ·obtain ⟨h0,L',P,h1⟩:=hF x hx
    refine (?_:_→_→_→_) h1.1 h1.2.1 h1.2.2
    intro h1 h2 h3
    exact ⟨h0,L',P,h1,.tail _ (hs _ h2 h3),h3⟩
  refine (?_:(∀ p∈Δ,z p.1=none∧∃ o,h₁.get? p.1=some o∧p.2 o)→_) (fun p hp=>by
   obtain ⟨h1,o,e⟩:=S.own p hp
   refine (?_:_→_→_) e.1 e.2
   intro e h2
   exact ⟨h1,o,hk₁ _ _ e,h2⟩)
  intro hold
  refine (?_:(∀ a,s.heap.objs.size≤a→z a=none)→_) (fun a ha=>by
   cases q:z a with
   | none=>rfl
   | some o=>exact absurd (Heap.lt_size (S.fr _ _ q)) (Nat.not_lt.mpr ha))
  intro hz
  have hΔlt:∀ p∈Δ,p.1<s.heap.objs.size:=fun p hp=>by obtain ⟨_,o,e,_⟩:=S.own p hp;exact Heap.lt_size e
  have hces:∀ p∈cellEs (s.heap.objs.size+1) scope.names mA,s.heap.objs.size<p.1∧∃ o,h₁.get? p.1=some o∧p.2 o:=by
   intro p hp
   obtain ⟨q,hq,rfl⟩:=List.mem_map.mp hp
   refine (?_:(s.heap.objs.size<q.2)→_) (x.above q.1 q.2 hq)
   intro hl
   refine ⟨hl,?_⟩
   obtain ⟨o,e⟩:=x.cell q.1 q.2 (hcell q hq)
   refine (?_:_→_→_) e.1 e.2
   intro e hd
   refine ⟨o,e,_,hd,?_⟩
   refine (?_:(scope.names.lookup q.1≠some .local)→_) (hck q.1 (by rw [← hnames (s.heap.objs.size+1)];exact List.mem_map_of_mem hq))
   intro hkl
   refine (?_:_→_) (bindC_is (k:=fun y=>scope.names.lookup y) hm (hnd.sublist hsub) hkl (fun d=>none))
   intro this
   split at this
   ·exact this
   ·rename_i hni
    rw [bindC_out _ _ hni];exact this
  refine S.step (fun a o d e=>hk₁ _ _ e) (fun p hp=>?_) ?_ (fun p hp=>?_) (Nat.le_of_lt hlt)
  ·rcases List.mem_cons.mp hp with rfl | hp
   ·refine ⟨S.fresh,FrO.of hns fun y a e=>?_⟩
    refine (?_:(∀ (m:Loc),lk m y=some a→(y,a)∈m)→_) (by
     intro m
     induction m with
     | nil=>intro h;simp [lk] at h
     | cons p r ih=>
      intro h
      unfold lk at h
      split at h
      ·rename_i q;cases h;subst q;exact .head _
      ·exact .tail _ (ih h))
    intro hmem
    refine (?_:_→_→_) ((hmm (y,a) (hmem m e)).1) ((hmm (y,a) (hmem m e)).2)
    intro h1 h2
    exact bindL_in _ hm (hnd.sublist hsub) h1 h2
   ·rcases List.mem_append.mp hp with hp | hp
    ·refine (?_:_→_→_) ((hces p hp).1) ((hces p hp).2)
     intro h1 h2
     exact ⟨hz _ (Nat.le_of_lt h1),h2⟩
    ·exact hold p hp
  ·rw [List.map_cons,List.nodup_cons,List.map_append,List.nodup_append]
   refine ⟨fun hmem=>?_,?_,S.nd,fun a ha b hb e=>?_⟩
   ·rcases List.mem_append.mp hmem with hp | hp
    ·obtain ⟨p,hp⟩:=List.mem_map.mp hp
     refine (?_:_→_→_) hp.1 hp.2
     intro hp e
     exact Nat.lt_irrefl _ (e▸(hces p hp).1)
    ·obtain ⟨p,hp⟩:=List.mem_map.mp hp
     refine (?_:_→_→_) hp.1 hp.2
     intro hp e
     exact Nat.lt_irrefl _ (e▸hΔlt p hp)
   ·unfold cellEs
    rw [List.map_map]
    exact List.pairwise_map.mpr (x.apart.imp fun h=>h)
   ·obtain ⟨p,hp⟩:=List.mem_map.mp ha
    refine (?_:_→_→_) hp.1 hp.2
    intro hp e1
    obtain ⟨q,hq⟩:=List.mem_map.mp hb
    refine (?_:_→_→_) hq.1 hq.2
    intro hq e2
    refine (?_:_→_) ((hces p hp).1)
    intro h1
    refine (?_:_→_) (hΔlt q hq)
    intro h2
    refine (?_:(p.1=q.1)→_) (e1.trans (e.trans e2.symm))
    intro this
    rw [this] at h1
    exact absurd h1 (Nat.not_lt.mpr (Nat.le_of_lt h2))
  ·rcases List.mem_cons.mp hp with rfl | hp
   ·exact S.sz
   ·rcases List.mem_append.mp hp with hp | hp
    ·exact Nat.le_trans S.sz (Nat.le_of_lt (hces p hp).1)
    ·exact S.lo p hp
theorem St.growN (S:St w ρ z (F::Δ) s) {h':Heap} {t:Nat} {news:Ds} (hk:∀ b o,s.heap.get? b=some o→h'.get? b=some o) (hn:∀ p∈news,s.heap.objs.size≤p.1∧∃ o,h'.get? p.1=some o∧p.2 o) (hd:(news.map (·.1)).Nodup) :
 St w ρ z (F::(news++Δ)) { s with heap:=h',toks:=t }:=by
  have S':=S.grow (t:=t) hk
  have hold:∀ p∈F::Δ,p.1<s.heap.objs.size:=fun p hp=>by obtain ⟨_,o,e,_⟩:=S.own p hp;exact Heap.lt_size e
  refine (?_:((news++F::Δ).Perm (F::(news++Δ)))→_) (List.perm_middle)
  intro hp1
  refine St.perm (Δ:=news++F::Δ) ⟨S.wf,S'.fr,fun p hp=>?_,?_,fun p hp=>?_,S'.sz,S.g,S.d,S.os⟩ hp1.symm
  ·rcases List.mem_append.mp hp with hp | hp
   ·refine (?_:_→_→_) ((hn p hp).1) ((hn p hp).2)
    intro h1 h2
    refine ⟨?_,h2⟩
    cases q:z p.1 with
    | none=>rfl
    | some o'=>exact absurd (Heap.lt_size (S.fr _ _ q)) (Nat.not_lt.mpr h1)
   ·exact S'.own p hp
  ·rw [List.map_append,List.nodup_append]
   refine ⟨hd,S.nd,fun a ha b hb e=>?_⟩
   obtain ⟨p,hp⟩:=List.mem_map.mp ha
   refine (?_:_→_→_) hp.1 hp.2
   intro hp e1
   obtain ⟨q,hq⟩:=List.mem_map.mp hb
   refine (?_:_→_→_) hq.1 hq.2
   intro hq e2
   refine (?_:_→_) ((hn p hp).1)
   intro h1
   refine (?_:_→_) (hold q hq)
   intro h2
   rw [show p.1=q.1 from e1.trans (e.trans e2.symm)] at h1
   exact absurd h2 (Nat.not_lt.mpr h1)
  ·rcases List.mem_append.mp hp with hp | hp
   ·exact Nat.le_trans S.sz (hn p hp).1
   ·exact S.lo p hp
theorem b_zip {l1 l2:Addr} {vs1 vs2:List AV} {α β:Type} {items1:List α} {items2:List β} {Q:VP} (S:St w ρ z (F::Δ) s) (h1:Has s l1 (ListO vs1)) (h2:Has s l2 (ListO vs2))
 (k:∀ zz TI TO i1 i2 z' s',Sub z z'→Fz z' TI (PairV (.ref i1) (.ref i2))→St w ρ z' (F::(zz,ZipO TI TO .none)::(TO,PairE)::(i1,LItO l1 items1 items1)::(i2,LItO l2 items2 items2)::Δ) s'→Q (.ref zz) s') :
 wpAny (model PG w) A (call (.type "zip") [.ref l1,.ref l2]) Q E s:=by
  obtain ⟨a1,g1⟩:=ListO.isL h1
  refine (?_:_→_→_) g1.1 g1.2
  intro g1 r1
  obtain ⟨a2,g2⟩:=ListO.isL h2
  refine (?_:_→_→_) g2.1 g2.2
  intro g2 r2
  refine call_zip_2 g1 g2 fun h' b1 b2 b3 b4 b5 b6 b7=>?_
  obtain ⟨o4,e4⟩:=b4
  refine (?_:_→_→_→_) e4.1 e4.2.1 e4.2.2
  intro e4 c4 d4
  obtain ⟨o5,e5⟩:=b5
  refine (?_:_→_→_→_) e5.1 e5.2.1 e5.2.2
  intro e5 c5 d5
  refine (?_:_→_) (S.growN (t:=s.toks) (news:=[(s.heap.objs.size+2,PairV (.ref s.heap.objs.size) (.ref (s.heap.objs.size+1))),(s.heap.objs.size+4,ZipO (s.heap.objs.size+2) (s.heap.objs.size+3) .none),(s.heap.objs.size+3,PairE),(s.heap.objs.size,LItO l1 items1 items1),(s.heap.objs.size+1,LItO l2 items2 items2)]) b7 (fun p hp=>by
   simp only [List.mem_cons,List.not_mem_nil,or_false] at hp
   rcases hp with rfl | rfl | rfl | rfl | rfl
   ·exact ⟨by simp,_,b2,rfl⟩
   ·exact ⟨by simp,_,b1,rfl⟩
   ·exact ⟨by simp,_,b3,_,_,rfl⟩
   ·exact ⟨Nat.le_refl _,o4,e4,0,c4,d4,rfl⟩
   ·exact ⟨by simp,o5,e5,0,c5,d5,rfl⟩) (by simp))
  intro S1
  simp only [List.cons_append,List.nil_append] at S1
  obtain ⟨z',hz⟩:=St.freeze1 S1
  refine (?_:_→_→_→_) hz.1 hz.2.1 hz.2.2.2
  intro hz hTI S2
  exact k _ _ _ _ _ z' _ hz hTI S2
theorem StX.freeze {e:Addr} {c a0 v:Value} (X:StX w ρ z Δ e c a0 v s):∃ z',Sub z z'∧(∃ o vs,z' e=some o∧o.cls=c∧o.data=.fields vs∧vs[0]?=some a0∧vs[1]?=some v∧vs[2]?=some .none)∧St w ρ z' Δ s:=by
 obtain ⟨S,z0,n0,o,ho,hc,vs,hd,h0,h1⟩:=X
 have hsub:Sub z (fun b=>if b=e then some o else z b):=fun b o' q=>by
  show (if b=e then some o else z b)=some o'
  rw [if_neg (fun x=>by subst x;rw [z0] at q;cases q)];exact q
 refine ⟨fun b=>if b=e then some o else z b,hsub,⟨o,vs,by simp,hc,hd,h0,h1⟩,S.wf.mono hsub,fun b o' q=>?_,fun p hp=>?_,S.nd,S.lo,S.sz,S.g,S.d,S.os⟩
 ·refine (?_:((if b=e then some o else z b)=some o')→_) (q)
  intro q
  split at q
  ·rename_i h;cases q;subst h;exact ho
  ·exact S.fr _ _ q
 ·refine (?_:_→_→_) ((S.own p hp).1) ((S.own p hp).2)
  intro h2 h3
  refine ⟨?_,h3⟩
  show (if p.1=e then some o else z p.1)=none
  rw [if_neg (fun x=>n0 (List.mem_map.mpr ⟨p,hp,x⟩))];exact h2
end
theorem K48 (w:World):∃ nm qn sn sub ab col k0 k1 k2 k3 k5 bs hdc,List.lookup 48 (hdp.heap_1_39 w.params)=some (excClassObj nm qn 48 47 bs bmVE hdc sn sub ab col none k0 k1 k2 k3 k5 "ValueError.__new__"):=
 ⟨_,_,_,_,_,_,_,_,_,_,_,_,_,by k_is⟩
theorem K47a (w:World):nsIn (hdp.heap_1_39 w.params) 47 "__init__"=some none:=by k_is
theorem K47b (w:World):nsIn (hdp.heap_1_39 w.params) 47 "__getattribute__"=some none:=by k_is
theorem K47c (w:World):nsIn (hdp.heap_1_39 w.params) 47 "__getattr__"=some none:=by k_is
theorem K47d (w:World):nsIn (hdp.heap_1_39 w.params) 47 "args"=some none:=by k_is
theorem cycQ {w:World} {h:Heap} {mg mb:Str→Option Value} {p:Program} {l:List Str} {me:ExcName→Option Value} (X:(hdp.heap_1_39 w.params).In h) (T:Top p l me mg mb h):OwnClsQ "CycleError" 48 bmVE "ValueError.__new__" mg h:=by
 refine (let Gl:Prop:=_;(?_:Gl))
 obtain ⟨nm,qn,sn,sub,ab,col,k0,k1,k2,k3,k5,bs,hdc,e⟩:=K48 w
 have K47:nsOkIn (hdp.heap_1_39 w.params) 47=true:=by
  have q:=K_exc w
  unfold excIn at q
  rw [e] at q
  simp only [excClassObj,Bool.and_eq_true] at q
  exact q.1.2
 refine ⟨mg_of X T.g (K_cyc w),bmVE,47,nm,qn,bs,hdc,sn,sub,ab,col,none,k0,k1,k2,k3,k5,_,X _ _ e,.of_isNs (isNs_of_in X K47),fun n hn=>?_,.base⟩
 simp only [quietNames,List.mem_cons,List.not_mem_nil,or_false] at hn
 rcases hn with rfl | rfl | rfl | rfl
 ·exact nsMap_none_of_in X K47 (K47a w)
 ·exact nsMap_none_of_in X K47 (K47b w)
 ·exact nsMap_none_of_in X K47 (K47c w)
 ·exact nsMap_none_of_in X K47 (K47d w)
section
variable {w:World} {ρ:Rest} {z:Z} {env:Env} {A:Around} {E:VP} {s:Shared} {Δ X:Ds} {L:Addr} {m:Loc} {F:Addr×OP}
noncomputable def CycCatch (w:World) (ρ:Rest) (A:Around) (env:Env) (outer:List Env) (L:Addr) (suite:List Stmt) (Q:Flow→Shared→Prop) (ev:Value) (s₁:Shared):Prop:=
 ∃ e t tb z' m Δ',ev=.ref e∧StX w ρ z' ((tb,TbV .none)::(L,FrO m)::Δ') e (.ref 48) (.ref t) (.ref tb) s₁∧Frs (env::outer) ((L,FrO m)::Δ') ∧
  ∀ z'' s₂ A' E',Sub z' z''→HdZ A' z''→A'.depth=A.depth→A'.units=A.units→A'.frames=A.frames→(∃ o vs,z'' e=some o∧o.cls=.ref 48∧o.data=.fields vs∧vs[0]?=some (.ref t)) →
   St w ρ z'' ((L,FrO (setl m "error" (.v (.ref e))))::Δ') s₂→wpAny (model PG w) A' (execs suite env) (fun f s₃=>∃ z3 m3 Δ3,St w ρ z3 ((L,FrO m3)::Δ3) s₃∧∀ s₄,St w ρ z3 ((L,FrO [])::Δ3) s₄→Q f s₄) E' s₂
theorem s_cyc {outer:List Env} {np hp pos:Pos} {body suite:List Stmt} {b₀:Stmt} {Q:Flow→Shared→Prop}
 (hfr:A.frames=some (env::outer)) (hf:env.frame=some L) (hL:env.locals=L) (hg:env.globals=mainGlobals) (hk:env.scope.kind=.function) (hx:env.kindOf "CycleError"=some .globalImplicit) (hn:env.kindOf "error"=some .local)
 (h:wpAny (model PG w) A (execs body env) (fun f s₁=>match f with | .next=>wpAny (model PG w) A (execs [] env) Q E s₁ | f=>Q f s₁) (fun ev s₁=>CycCatch w ρ A env outer L (b₀::suite) Q ev s₁) s) :
 wpAny (model PG w) A (exec (.Try body [.ExceptHandler (some (.Name "CycleError" np)) (some "error") (b₀::suite) hp] [] [] pos) env) Q E s:=by
  refine wpAny_Try_except (wpAny_mono h (fun c c q=>q) fun ev s₁ h₁=>?_)
  obtain ⟨e,t,tb,z',m,Δ',rfl,X,hF,hs⟩:=h₁
  have hF2:Frs (env::outer) ((tb,TbV .none)::(L,FrO m)::Δ'):=fun x hx=>by
   refine (let Gl:Prop:=_;(?_:Gl))
   obtain ⟨h0,L',P,h1⟩:=hF x hx
   refine (?_:_→_→_→_) h1.1 h1.2.1 h1.2.2
   intro h1 h2 h3
   exact ⟨h0,L',P,h1,.tail _ h2,h3⟩
  refine noteX1 X (i:=0) rfl hfr hF2 hf fun tb2 s₂ X2=>?_
  refine flightX X2 (i:=0) rfl fun s₃ X3=>?_
  simp only [List.set] at X3
  refine (let Gl:Prop:=_;(?_:Gl))
  obtain ⟨p,l,me,mg,mb,T⟩:=X3.st.top
  refine handleBy_own_as (C:=48) (x:="CycleError") (newId:="ValueError.__new__") (bmB:=bmVE) (mg:=mg) (by decide) ?_
  refine ldg X3.st hg hk hx (by decide) (K_cyc w) ?_
  refine ⟨rfl,cycQ X3.st.K T,?_,?_⟩
  ·obtain ⟨o,ho⟩:=X3.at_
   refine (?_:_→_→_) ho.1 ho.2.1
   intro ho hc
   exact ⟨o,ho,hc⟩
  refine flightX X3 (i:=0) rfl fun s₄ X4=>?_
  simp only [List.set] at X4
  refine (let Gl:Prop:=_;(?_:Gl))
  obtain ⟨z2,hz2,⟨oe,vs,ze,hce,hde,h0,_,h2⟩,S4⟩:=X4.freeze
  have S5:St w ρ z2 ((L,FrO m)::Δ') s₄:=S4.tail.tail
  refine storeL S5 hL hn (by rw [hk];rfl) (av:=.v (.ref e)) rfl fun s₅ S6=>?_
  refine wpAny_mono (hs z2 s₅ (A.mark (some (.ref e))) _ hz2 (.inr ⟨e,rfl,oe,ze,vs,hde,h2⟩) rfl rfl rfl ⟨oe,vs,ze,hce,hde,h0⟩ S6) (fun f s₆ h₆=>?_) fun c c q=>q
  refine (let Gl:Prop:=_;(?_:Gl))
  obtain ⟨z3,m3,Δ3,S7,hq⟩:=h₆
  obtain ⟨g,hn7,_⟩:=FrO.ns (S7.at 0 rfl)
  subst hL
  refine wpAny_nameGoes hn hn7 (by rw [hk];rfl) fun h' m' hn' hs'=>hq _ ?_
  refine (?_:_→_) (S7.same (P':=FrO []) (t:=s₆.toks+1) 0 rfl hs' (FrO.of hn' fun x a q=>by simp [lk] at q))
  intro this
  exact this
theorem ga_args {e t:Addr} {b:Bool} {Q:VP} (S:St w ρ z Δ s) (he:∃ o vs,z e=some o∧o.cls=.ref 48∧o.data=.fields vs∧vs[0]?=some (.ref t)) (k:∀ s',St w ρ z Δ s'→Q (.ref t) s') :
 wpAny (model PG w) A (getAttr (.ref e) "args" b) Q E s:=by
  refine (let Gl:Prop:=_;(?_:Gl))
  obtain ⟨o,vs,h1⟩:=he
  refine (?_:_→_→_→_→_) h1.1 h1.2.1 h1.2.2.1 h1.2.2.2
  intro h1 h2 h3 h4
  obtain ⟨p,l,me,mg,mb,T⟩:=S.top
  obtain ⟨hh,g,d,tk,os⟩:=s
  exact args_of_own PySem.F.attrBase_ValueError (cycQ S.K T) (S.fr _ _ h1) h2 h3 h4 (k _ (S.toks (t:=tk+1)))
end
section
variable {C:Cx} {z:Z} {m:Loc} {Δ:Ds}
theorem lf_new0 {f:Value} {pos:Pos} {K:AV→SP} (hk:keepIn (hdp.heap_1_39 C.w.params) f=true) (h:LC C (.v f) [] z m Δ K):L1 C AV.is (fun f=>callWith pos f [] (backTo pos (starEach [] C.env)) []) (.v f) z m Δ K:=
 l1v (fun E s Q S k=>cw_k0 S hk (h.out f [] rfl .nil E s Q S k))
theorem s_callm {w:World} {ρ:Rest} {A:Around} {env:Env} {L:Addr} (O:Cx.Okh ⟨w,ρ,A,env⟩) {o:PySem.Expr} {n:Str} {ap pos p:Pos} {E:VP} {s:Shared} {Q:Flow→Shared→Prop} (S:St w ρ z ((L,FrO m)::Δ) s)
 (h:let D:Cx:=⟨w,ρ,A,env⟩;(X D 60).e o z m Δ fun a z m Δ=>L1 D MR (fun v=>getMethod v n (do return (← importBound o env).getD true)) a z m Δ fun p z' m' Δ'=>∃ f x,p=(.v (.ref f),[.v (.ref x)])∧fnT.contains f=true∧∀ s',St w ρ z' ((L,FrO m')::Δ') s'→wpAny (model PG w) A (call (.ref f) [.ref x]) (fun d s=>Q .next s) E s')
  (hL:env.locals=L:=by rfl) (hb:attributeBase o n env (eval o env)=eval o env:=by rfl) (hl:(ap.endLine == pos.line)=true:=by rfl):wpAny (model PG w) A (exec (.Expr (.Call (.Attribute o n ap) [] [] pos) p) env) Q E s:=by
  subst hL
  refine wpAny_Expr_any (e_callm ((X_ok O 60).e h E s _ S fun a v z m Δ s1 hv t S1=>t.out v hv E s1 _ S1 fun p r z m Δ s2 hr t S2=>?_) hb rfl hl) (by unfold interactive;rw [show env.scope.kind=.function from O.k];rfl) (swap_of rfl)
  obtain ⟨f,x,rfl,hf,t⟩:=t
  obtain ⟨o,fd,h1⟩:=fnT_ok w _ (List.contains_iff_mem.mp hf)
  refine (?_:_→_→_) h1.1 h1.2
  intro h1 h2
  obtain ⟨r1,r2⟩:=r
  obtain ⟨rfl,_ | ⟨rfl,_ | _⟩⟩:=hr
  exact cw_fn h1 h2 (wpAny_pure ⟨⟨_,_,_,S2⟩,t _ S2⟩) rfl
theorem st_go {w:World} {ρ:Rest} {A:Around} {env:Env} {L:Addr} (O:Cx.Okh ⟨w,ρ,A,env⟩) {st:Stmt} {E:VP} {s:Shared} {Q:Flow→Shared→Prop} (S:St w ρ z ((L,FrO m)::Δ) s)
 (h:let D:Cx:=⟨w,ρ,A,env⟩;(X D 60).st st z m Δ fun fl z' m' Δ'=>∀ f s',fl.is f→St w ρ z' ((L,FrO m')::Δ') s'→Q f s') (hL:env.locals=L:=by rfl):wpAny (model PG w) A (exec st env) Q E s:=by
  subst hL
  exact (X_ok O 60).st h E s Q S fun fl f z' m' Δ' s' hf t S'=>t f s' hf S'
theorem b_go {w:World} {ρ:Rest} {A:Around} {env:Env} {L:Addr} (O:Cx.Okh ⟨w,ρ,A,env⟩) {e:PySem.Expr} {E:VP} {s:Shared} {Q:Bool→Shared→Prop} (S:St w ρ z ((L,FrO m)::Δ) s)
 (h:let D:Cx:=⟨w,ρ,A,env⟩;(X D 60).b e z m Δ fun c z' m' Δ'=>∀ s',St w ρ z' ((L,FrO m')::Δ') s'→Q c s') (hL:env.locals=L:=by rfl):wpAny (model PG w) A (isTrue e env (eval e env)) Q E s:=by
  subst hL
  exact ((X_ok O 60).b h).b E s Q S fun c z' m' Δ' s' t S'=>t s' S'
theorem ss_catch {w:World} {ρ:Rest} {A:Around} {env:Env} {L:Addr} (O:Cx.Okh ⟨w,ρ,A,env⟩) {body:List Stmt} {E:VP} {s:Shared} {Q:Flow→Shared→Prop} (S:St w ρ z ((L,FrO m)::Δ) s)
 (h:let D:Cx:=⟨w,ρ,A,env⟩;D.Okh→(X D 60).ss body z m Δ fun fl z' m' Δ'=>∀ f s4,fl.is f→St w ρ z' ((L,FrO [])::Δ') s4→Q f s4) (hL:env.locals=L:=by rfl) :
  wpAny (model PG w) A (execs body env) (fun f s₃=>∃ z3 m3 Δ3,St w ρ z3 ((L,FrO m3)::Δ3) s₃∧∀ s₄,St w ρ z3 ((L,FrO [])::Δ3) s₄→Q f s₄) E s:=by
  subst hL
  exact (X_ok O 60).ss (h O) E s _ S fun fl f z' m' Δ' s' hf t S'=>⟨z',m',Δ',S',fun s4 S4=>t f s4 hf S4⟩
theorem StX.perm {w:World} {ρ:Rest} {e:Addr} {c a0 v:Value} {s:Shared} {Δ':Ds} (X:StX w ρ z Δ e c a0 v s) (h:Δ'.Perm Δ):StX w ρ z Δ' e c a0 v s:=⟨X.st.perm h,X.z0,fun hm=>X.n0 ((h.map _).subset hm),X.at_⟩
theorem lf_nenm {a b:Nat} {K:AV→SP} (hu:C.A.units+8<cLine) (ha:a<7) (hb:b<7) (k:K (.v (.bool (!decide (a=b)))) z m Δ):L2 C AV.is (compareOp .NotEq) (.s (nm a)) (.s (nm b)) z m Δ K:=
 ⟨fun x y ⟨t,hx⟩ ⟨u,hy⟩=>by
  subst hx hy
  exact T.pure is_v k fun {E s Q} h=>compareNe_reads (.str (nm a) t) (.str (nm b) u) (nm_ok a ha) (nm_ok b hb) (by show C.A.units+min 0 0<_;exact ar242 hu) (by
   rw [show PyData.eqv (.str (nm a)) (.str (nm b))=decide (a=b) from by rw [← nm_beq];rfl]
   exact h)⟩
theorem lf_last {v i:PySem.Expr} {l:Addr} {vs:List AV} {a:AV} {K:AV→SP} (h:OF z Δ l (ListO (vs++[a]))) (hz:vs.length≤1000) (k:K a z m Δ) (hs:noSlice i=true:=by rfl):L2 C AV.is (subscriptTail v i) (.v (.ref l)) (.i (-1)) z m Δ K:=
 ⟨fun x y hx ⟨t,hy⟩=>by
  cases hx;subst hy
  exact T.get k fun S q=>sub_last (h.has S) hz q (noSlice_ok hs)⟩
theorem lf_exa {e t:Addr} {K:AV→SP} (he:∃ o vs,z e=some o∧o.cls=.ref 48∧o.data=.fields vs∧vs[0]?=some (.ref t)) (k:K (.v (.ref t)) z m Δ):L1 C AV.is (fun v=>getAttr v "args" true) (.v (.ref e)) z m Δ K:=
 l1v (T.step k fun S q=>ga_args S he fun s' S'=>q _ s' is_v S')
theorem lf_innU {l:Addr} {x:Nat} {xs:List Nat} {K:AV→SP} (hu:C.A.units+8<cLine) (h:OF z Δ l (ListO (nAVs xs))) (h7:x<7) (h7s:∀ y∈xs,y<7) (k:K (.v (.bool (decide (x∈xs)))) z m Δ):L2 C AV.is (compareOp .In) (.s (nm x)) (.v (.ref l)) z m Δ K:=
 ⟨fun u y hu' hy=>by
  cases hy
  exact T.step k @fun E s Q S q=>by
   refine (?_:_→_) (h.has S)
   intro ha
   rw [nAVs_s] at ha
   obtain ⟨_,r1⟩:=lst_reads S ha (rds_s _)
   obtain ⟨_,r2⟩:=(Rd.s (nm x)).reads S.fr hu'
   refine in_list_reads r1 r2 (can_s fun y hy=>?_) (nm_ok x h7) (by show C.A.units+1+min _ 0<_;exact ar289 hu) (by rw [any_s,decide_eq_decide.mpr mem_nm];exact q _ _ is_v S)
   obtain ⟨k,hk,rfl⟩:=List.mem_map.mp hy;exact nm_ok k (h7s k hk)⟩
theorem lf_allH {l:Addr} {bs:List Bool} {K:AV→SP} (hA:HdZ C.A z) (h:OF z Δ l (ListO (bs.map bAV))) (k:K (.v (.bool (bs.all id))) z m Δ):LC C (.v (.builtin "all")) [.v (.ref l)] z m Δ K:=
 lc1 (T.step k fun S q=>b_allH S hA (h.has S) fun s' S'=>q _ s' is_v S')
theorem lf_zip {l1 l2:Addr} {vs1 vs2:List AV} {α β:Type} (items1:List α) (items2:List β) {K:AV→SP} (h1:OF z Δ l1 (ListO vs1)) (h2:OF z Δ l2 (ListO vs2))
 (k:∀ zz TI TO i1 i2 z',Sub z z'→Fz z' TI (PairV (.ref i1) (.ref i2))→K (.v (.ref zz)) z' m ((zz,ZipO TI TO .none)::(TO,PairE)::(i1,LItO l1 items1 items1)::(i2,LItO l2 items2 items2)::Δ)):LC C (.v (.type "zip")) [.v (.ref l1),.v (.ref l2)] z m Δ K:=
  ⟨fun x xs hx hxs=>by
   cases hx;obtain _ | ⟨hv,_ | ⟨hu,_ | _⟩⟩:=hxs;cases hv;cases hu
   exact fun E s Q S q=>b_zip S (h1.has S) (h2.has S) fun zz TI TO i1 i2 z' s' hz hT S'=>q _ _ _ _ _ _ is_v (k zz TI TO i1 i2 z' hz hT) S'⟩
theorem zip_split2 {α β:Type}:∀ (a:List α) (b:List β),a=(a.zip b).map Prod.fst++a.drop b.length∧b=(a.zip b).map Prod.snd++b.drop a.length
 | [],b=>by simp
 | x::a,[]=>by simp
 | x::a,y::b=>by
  refine (?_:_→_→_) ((zip_split2 a b).1) ((zip_split2 a b).2)
  intro h1 h2
  refine ⟨?_,?_⟩
  ·rw [List.zip_cons_cons,List.map_cons,List.cons_append,List.length_cons,List.drop_succ_cons,← h1]
  ·rw [List.zip_cons_cons,List.map_cons,List.cons_append,List.length_cons,List.drop_succ_cons,← h2]
theorem src_zipG {α β:Type} {rel1:α→Value→Prop} {rel2:β→Value→Prop} {H:Value→(List (α×β)→Ds)→Prop} {zz TI TO i1 i2 l1 l2:Addr} {vs1 vs2:List AV} {ks:List α} {fr:List β} (h1:Fz z l1 (ListO vs1)) (h2:Fz z l2 (ListO vs2)) (p1:∀ arr,ARel vs1 arr→PR rel1 ks arr) (p2:∀ arr,ARel vs2 arr→PR rel2 fr arr)
 (hI:∀ {t1 t2},(t1=[]∨t2=[])→Nf C.w C.ρ z i1 rel1 (fun r=>[(i1,LItO l1 ks r)]) []→Nf C.w C.ρ z i2 rel2 (fun r=>[(i2,LItO l2 fr r)]) []→H (.ref zz) (zipJ zz TI TO (fun r=>[(i1,LItO l1 ks r)]) (fun r=>[(i2,LItO l2 fr r)]) Prod.fst Prod.snd t1 t2)) :
 Src C (.v (.ref zz)) z ((zz,ZipO TI TO .none)::(TO,PairE)::(i1,LItO l1 ks ks)::(i2,LItO l2 fr fr)::Δ) Δ H (ks.zip fr):=by
  intro E s Q m v hv S k
  cases hv
  obtain ⟨_,ez,rfl⟩:=S.at 1 rfl
  refine (?_:(Nf C.w C.ρ z i1 rel1 (fun r=>[(i1,LItO l1 ks r)]) [])→_) (Nf.list fun hz S=>h1.lst p1 hz S)
  intro N1
  refine (?_:(Nf C.w C.ρ z i2 rel2 (fun r=>[(i2,LItO l2 fr r)]) [])→_) (Nf.list fun hz S=>h2.lst p2 hz S)
  intro N2
  refine (?_:_→_→_) ((zip_split2 ks fr).1) ((zip_split2 ks fr).2)
  intro hzl hzr
  refine wpAny_pyIter_zip ez (k _ _ _ (hI (t1:=ks.drop fr.length) (t2:=fr.drop ks.length) (by rcases Nat.le_total ks.length fr.length with h | h;exact .inl (List.drop_eq_nil_of_le h);exact .inr (List.drop_eq_nil_of_le h)) N1 N2) ?_)
  unfold zipJ
  rw [← hzl,← hzr]
  exact S.perm (List.Perm.cons _ (List.perm_append_comm (l₁:=Δ) (l₂:=[_,_,_,_])))
end
section
variable {w:World} {A:Around} {E:VP} {s:Shared} {ρ:Rest} {z:Z} {Δ:Ds}
theorem gOf_len {wt:Nat→List Nat} {N:Nat} (hw:∀ k,k<N→(wt k).length≤2):∀ n,n≤N→∀ j,((gOf wt n).su j).length≤2 * n
 | 0,_,j=>by simp [gOf]
 | n+1,hn,j=>by
  refine (?_:_→_) (gOf_len hw n (by exact ar17 hn))
  intro h1
  refine (?_:_→_) (waits_len (k:=n) (d:=wt n) (g:=((gOf wt n).touch n).bump n (wt n).length) (B:=2 * n) (fun j=>touch_len h1 n j) j)
  intro h2
  refine (?_:_→_) (hw n (by exact ar150 hn))
  intro h3
  show (((wt n).foldl (fun g p=>g.wait n p) (((gOf wt n).touch n).bump n (wt n).length)).su j).length≤_
  exact ar86 h2 h3
theorem m_add (w:World):MethS w 130 "add" 80:=⟨by k_is,by k_is,by k_is,by k_is,by k_is,by k_is,by decide,by k_is⟩
theorem m_done (w:World):MethS w 130 "done" 113:=⟨by k_is,by k_is,by k_is,by k_is,by k_is,by k_is,by decide,by k_is⟩
theorem m_get_ready (w:World):Meth w 130 "get_ready" 92:=⟨by k_is,by k_is,by k_is⟩
theorem m_is_active (w:World):Meth w 130 "is_active" 99:=⟨by k_is,by k_is,by k_is⟩
theorem m_prep (w:World):Meth w 130 "prepare" 85:=⟨by k_is,by k_is,by k_is⟩
theorem kp_srt (w:World):keepIn (hdp.heap_1_39 w.params) (.ref 130)=true:=by k_is
structure MkS where
 a:SA
 z:Z
 n:Nat
theorem law_sorter_spec {J:Jobs} (hJ:JOk J) {a f:Addr} {fl:List Nat} {fs:List Env} {Q:VP} (S:St w ρ z Δ s) (hj:JobsAt w z J a) (hf:Fz z f (ListO (nAVs fl))) (hfl:FreeSpec J fl) (R:Room A 9) (hfr:A.frames=some fs) (hF:Frs fs Δ)
 (K:∀ sa r z' s',Sub z z'→POk w z' sa (gAll J).order (gAll J).su→St w ρ z' (postE sa r (gAll J).order ⟨fun k=>((gAll J).np k:Int),rdOf (gAll J).np (gAll J).order,0,0⟩++Δ) s'→Q (.ref sa.x) s') :
 wpAny (model PG w) A (call (.ref 184) [.ref a,.ref f]) Q E s:=by
  refine (let Gl:Prop:=_;(?_:Gl))
  obtain ⟨ts,ws,hjd⟩:=hj
  refine (?_:_→_→_) hjd.1 hjd.2
  intro hjd hjk
  refine wpAny_call ?_
  refine' cfcCN (mA:=[("jobs",AV.v (.ref a)),("free",.v (.ref f))]) (m:=[("free",.v (.ref f))]) S hfr hF ?ho ?hcd R ?hbind ?hloc ?hm ?hnd ?hcn ?hck ?hmm ?h ?hco ?hgen ?hk
  case ho=>k_is
  case hcd=>k_is
  case hbind=>exact rfl
  case hloc=>decide
  case hnd=>decide
  case hcn=>decide
  case hck=>decide
  case hco=>exact rfl
  case hgen=>exact rfl
  case hk=>exact rfl
  case hm=>exact .cons rfl (.cons rfl .nil)
  case hmm=>exact fun p hp=>by rw [List.mem_singleton.mp hp];exact ⟨rfl,rfl⟩
  intro L s A R hfr hF S
  refine anyE ?_
  intro Ee
  refine ss_cut 2 ⟨rfl,rfl,rfl,R.le (Nat.zero_le _)⟩ S ?_
  intro D O
  refine ⟨lf_new0 (kp_srt w) (lc_instD (n:=1) cls_srt (R.le (by decide)) (List.cons_ne_nil _ _) fun x dx z1 A' hz1 hx R' Δ'=>init0_T hx R' fun d=>⟨[_,_],rfl,rfl,?_⟩),rfl⟩
  refine LF.wk (Δ':=(L+1,CellO (some (AV.v (.ref a))))::(preE w ⟨x,dx,d,fun i=>0,fun i=>0,fun i=>0⟩ g0++Δ)) (Wk.pick 3 [2,0,1] rfl) ?_
  refine lf_for0 (σ:=MkS) (up:=fun k m=>setl m "name" (.s (nm k))) (items:=List.range 7) (·.z) (fun i=>[("free",.v (.ref f)),("sorter",.v (.ref x))]) (fun y=>(L+1,CellO (some (AV.v (.ref a))))::(preE w y.a (gOf (fun k=>(J k).waits) y.n)++Δ))
   (fun d i y=>y.a.x=x∧y.n=d.length∧SOk w y.z y.a (gOf (fun k=>(J k).waits) y.n).order) O ⟨⟨x,dx,d,fun i=>0,fun i=>0,fun i=>0⟩,z1,0⟩
   (src_names fun i i N=>Its.n N rfl rfl) ⟨rfl,rfl,hx,fun i h=>(nomatch h),.nil,fun i h=>(nomatch h)⟩ ?turn ?fin [] rfl rfl
  case turn=>
   intro zg mg Δg Ig Kg dd k rr y hd hz3 hI jt Kf F
   refine (?_:_→_→_→_) hI.1 hI.2.1 hI.2.2
   intro hyx hyn ok
   have hk7:k<7:=List.mem_range.mp (hd▸List.mem_append_right _ (.head _))
   have hdk:y.n=k:=by
    refine (?_:((dd++k::rr)[dd.length]?=some k)→_) (by simp)
    intro h1
    rw [hd,List.getElem?_eq_some_iff] at h1
    refine (?_:_→_→_) h1.1 h1.2
    intro h2 h3
    rw [hyn];simpa using h3
   refine (?_:_→_) (gOf_len (wt:=fun k=>(J k).waits) hJ.wl y.n (by exact ar55 hdk hk7))
   intro hsul
   refine (?_:_→_) (ok.x)
   intro hxx
   rw [hyx] at hxx
   refine (?_:_→_) (hz1.trans hz3)
   intro hzz
   refine L0.wk (Wk.eq (congrArg (_::_::_::·) (List.append_assoc ..))) ?_
   refine lf_ms2 O (m_add w) rfl rfl rfl rfl rfl rfl (.fz hxx) (.own 1 rfl) rfl fun q=>lf_ldc O 1 rfl (lf_d (.fz (hjd.mono hzz)) (JobsAt.lk hk7) (lf_tup (n:=2) (.fz ((hjk k hk7).1.mono hzz)) rfl (by simp)
    ⟨rfl,rfl,rfl,ws k,nAVs (J k).waits,rfl,.fz ((hjk k hk7).2.mono hzz),by rw [List.length_map];exact Nat.le_trans (hJ.wl k hk7) (by decide),1,preE w y.a (gOf (fun k=>(J k).waits) y.n),Δ++jt,rfl,fun Δ'=>?_⟩))
   rw [← hyx]
   refine add_T ok hk7 (hJ.wk k hk7) (Nat.le_trans (hJ.wl k hk7) (by decide)) (fun j=>by refine (?_:_→_) (hsul j);intro this;exact ar84 this hdk hk7) (R.le (by decide)) fun sb z4 e1 e2 e3 hz4 okb=>⟨_,rfl,?_⟩
   refine (?_:((gOf (fun k=>(J k).waits) y.n).add k (J k).waits=gOf (fun k=>(J k).waits) (y.n+1))→_) (by rw [hdk];rfl)
   intro e4
   rw [e4] at okb ⊢
   refine F.nx ⟨sb,z4,y.n+1⟩ _ (Wk.eq (congrArg (_::_::_::·) (List.append_assoc ..).symm)) hz4 ⟨e1.trans hyx,by rw [hyn,List.length_append];rfl,okb⟩
  case fin=>
   intro y hz3 hI s S
   refine (?_:_→_→_→_) hI.1 hI.2.1 hI.2.2
   intro hyx hyn ok
   refine (?_:(y.n=7)→_) (by rw [hyn,List.length_range])
   intro e7
   rw [e7] at ok
   refine (?_:(SOk w y.z y.a (gAll J).order)→_) (ok)
   intro sok
   refine (?_:(∀ k,((gAll J).su k).length≤50)→_) (fun k=>Nat.le_trans (gOf_len (wt:=fun k=>(J k).waits) hJ.wl 7 (Nat.le_refl _) k) (by decide))
   intro hsul
   refine (?_:(∀ k,k<7→k∈(gAll J).order)→_) (fun k hk=>gAll_ord J hk)
   intro hord
   refine (?_:_→_) (ok.x)
   intro hxx
   rw [hyx] at hxx
   refine wpAny_execs_cons (s_cyc (w:=w) (ρ:=ρ) (L:=L) hfr rfl rfl rfl rfl rfl rfl ?_)
   refine wpAny_execs_cons (s_callm O.h S (lf_gmi (m_prep w) (.fz hxx) (.own 1 rfl) rfl ⟨85,x,rfl,rfl,fun s S=>?_⟩))
   rw [e7] at S
   refine (?_:_→_) (hz1.trans hz3)
   intro hzy
   refine (?_:_→_) (fun r z' s' h1 h2 h3=>hyx▸K y.a r z' s' h1 h2 h3)
   intro K
   refine (?_:(∀ B:Ds,((L,FrO [("free",AV.v (.ref f)),("sorter",.v (.ref x))])::(L+1,CellO (some (AV.v (.ref a))))::(B++Δ)).Perm (B++(L,FrO [("free",AV.v (.ref f)),("sorter",.v (.ref x))])::(L+1,CellO (some (AV.v (.ref a))))::Δ))→_) (fun B=>List.perm_append_comm_assoc [_,_] B Δ)
   intro hp
   rw [← hyx]
   refine wpAny_call (prepare_spec (a:=y.a) (g:=gAll J) (Δ:=(L,FrO _)::(L+1,CellO (some (AV.v (.ref a))))::Δ) (S.perm (hp _).symm) sok hsul (fun k hk j hjk=>hord j (gAll_su.mp hjk).1) (R.le (by decide)) hfr (hF fun p hp i=>.tail _ hp) ?k1 ?k2)
   case k1=>
    intro z4 s r fin hz4 pk S hD hfin
    refine (?_:_→_) (free_full hJ.wk hfl hD fun k hk=>hfin k (hord k hk))
    intro h7
    refine wpAny_execs_nil (wpAny_execs_nil (ss_cut 1 O (S.perm (hp _)) ?_))
    intro D O
    refine lf_len (.fz (hf.mono (hzy.trans hz4))) ?l1 (lf_eq (it_t ?l2 fun g s hg S=>?_))
    case l1=>rw [List.length_map];exact ar146 h7
    case l2=>rw [List.length_map,h7];rfl
    obtain ⟨v,rfl,hv⟩:=hg
    cases hv
    exact K r z4 s (hzy.trans hz4) pk S.tail.tail
   case k2=>
    intro e tb t q z4 s r rg hz4 pk ht hq hring hord2 hlen X
    refine ⟨e,t,tb,z4,_,(L+1,CellO (some (AV.v (.ref a))))::(postE y.a r (gAll J).order ⟨fun k=>((gAll J).np k:Int),rdOf (gAll J).np (gAll J).order,0,0⟩++Δ),rfl,X.perm (.cons _ (hp _)),hF fun p hp i=>.tail _ (List.mem_append_right _ hp),fun z5 s A' E' hz5 hA hdp hun hfr' he S=>?_⟩
    refine ss_catch ⟨rfl,rfl,rfl⟩ S ?_
    intro D O
    refine (?_:_→_) (hzy.trans (hz4.trans hz5))
    intro hz15
    refine (?_:_→_) (hq.mono hz5)
    intro hq5
    refine (?_:(A'.units+8<cLine)→_) (by rw [hun];exact (R.le (n:=1) (by decide)).un)
    intro hu
    refine (?_:_→_) (hring.len)
    intro hrl
    refine (?_:_→_) (nodup_len hfl.nd hfl.lt)
    intro hfl7
    refine (?_:((nAVs rg).length=rg.length)→_) (List.length_map ..)
    intro hra
    refine lf_exa he (lf_tup (n:=1) (.fz (ht.mono hz5)) rfl (by simp) ?_)
    refine (let Gl:Prop:=_;(?_:Gl))
    obtain ⟨n,hn0,hnl⟩:∃ n,rg[0]?=some n∧rg.getLast?=some n:=by
     refine (?_:_→_) (hring.ends)
     intro h1
     cases rg with
     | nil=>simp at hrl
     | cons x r=>exact ⟨x,rfl,by rw [← h1];rfl⟩
    refine (?_:(n<7)→_) (pk.ok.lt n (hord2 n (List.mem_of_getElem? hn0)))
    intro hn7
    obtain ⟨r0,hr0⟩:=List.getLast?_eq_some_iff.mp hnl
    have hr9:rg.length=r0.length+1:=by rw [hr0,List.length_append];rfl
    refine (?_:(Fz z5 q (ListO (nAVs r0++[.s (nm n)])))→_) (by rw [hr0,nAVs_snoc] at hq5;exact hq5)
    intro hq6
    refine ⟨lf_len (.fz (hf.mono hz15)) ?m1 (lf_eq (it_f ?m2 (lf_len (.fz hq5) ?m3 (lf_lt (it_f ?m4 (lf_sl (n:=0) (.fz hq5) ?m5 ?m3 (lf_neg (lf_last (.fz hq6) ?m6 (lf_nenm hu hn7 hn7 (it_f ?m7 (it_f rfl ?_)))))))))))⟩
    case m1=>rw [List.length_map];exact ar149 hfl7
    case m2=>have h7:=ring_free hfl hring;rw [List.length_map];exact beq_false_of_ne fun h=>by have h:fl.length=7:=Int.ofNat.inj h;exact ar306 ‹_› h7 hfl7
    case m3=>exact ar253 hra hlen
    case m4=>exact decide_eq_false fun h=>by have h:(nAVs rg).length<2:=Int.ofNat_lt.mp h;exact ar395 hrl ‹_› hr9 hra
    case m5=>rw [List.getElem?_map,hn0];rfl
    case m6=>rw [List.length_map];exact ar262 hr9 hlen
    case m7=>rw [decide_eq_true rfl];rfl
    refine lf_compH O (lf_sld O (ls_drop (n:=1) (.fz hq5) ?m8 ?m9 fun q2=>LC.fz 0 rfl fun z6 hz6 hq2=>?_))
    case m8=>exact ar184 hrl hra
    case m9=>exact ar234 hra hlen
    have hq2:Fz z6 q2 (ListO (nAVs (rg.drop 1))):=by rw [← List.map_drop] at hq2;exact hq2
    refine lf_zip rg (rg.drop 1) (.fz (hq5.mono hz6)) (.fz hq2) fun zz TI TO i1 i2 z7 hz7 hTI=>?_
    refine (?_:_→_) (hz15.trans (hz6.trans hz7))
    intro hzj
    refine lf_lkA (ns:=["near","far"]) (f:=fun c:Nat×Nat=>[.s (nm c.1),.s (nm c.2)]) (X1:=[]) (G:=Cx.Okh) O (fun i=>⟨rfl,rfl,rfl⟩) (src_zipG ((hq5.mono hz6).mono hz7) (hq2.mono hz7) (fun i h=>nAVs_pr h) (fun i h=>nAVs_pr h) ?sI) (fun d out z'=>z'=z7∧out=(d.map fun c:Nat×Nat=>decide (c.1∈(J c.2).waits)).map bAV) ?m10 ⟨rfl,rfl⟩ ?t1 ?f1 (by rw [List.append_nil];exact wkr)
    case m10=>rw [List.length_zip];exact ar318 hlen he
    case sI=>
     intro t1 t2 ht N1 N2 Cc
     refine ItsA.zip (TO:=TO) Prod.fst Prod.snd N1 N2 (hA.mono (hz6.trans hz7)) hTI ht rfl rfl ?_
     intro E s z' Δ L m c xx yy Q hz hx hy hL S hk
     obtain ⟨tx,rfl⟩:=hx
     obtain ⟨ty,rfl⟩:=hy
     subst hL
     exact wpAny_assignInOrder_more (wpAny_assign_Name (storeL S rfl rfl rfl is_s fun s' S'=>wpAny_assignInOrder_more (wpAny_assign_Name (storeL S' rfl rfl rfl is_s fun s' S'=>wpAny_assignInOrder_none (hk _ S')))))
    case t1=>
     intro d c r2 out z8 Cc D2 jt hd hz8 hP Kt Ks hk hs C2 O2
     obtain ⟨rfl,hP⟩:=hP
     obtain ⟨hc1,hc2⟩:=List.of_mem_zip (show (c.1,c.2)∈rg.zip (rg.drop 1) from hd▸List.mem_append_right _ (.head _))
     have hc17:c.1<7:=pk.ok.lt c.1 (hord2 c.1 hc1)
     have hc27:c.2<7:=pk.ok.lt c.2 (hord2 c.2 (List.mem_of_mem_drop hc2))
     refine lf_ldcH O2 2 rfl (lf_d (.fz (hjd.mono hzj)) (JobsAt.lk hc27) (lf_tup (n:=2) (.fz ((hjk c.2 hc27).1.mono hzj)) rfl (by simp) (lf_innU hu (.fz ((hjk c.2 hc27).2.mono hzj)) hc17 (hJ.wk c.2 hc27) ?_)))
     exact hk _ _ _ _ (.refl _) ⟨rfl,by rw [hP,List.map_append,List.map_append];rfl⟩ wkr
    case f1=>
     intro out z8 D2 hz8 hP
     obtain ⟨rfl,rfl⟩:=hP
     refine lf_allH (hA.mono (hz6.trans hz7)) (.own 0 rfl) (it_t ?a1 fun g s hg S=>?_)
     case a1=>
      rw [List.all_eq_true]
      intro b hb
      obtain ⟨c,hc,rfl⟩:=List.mem_map.mp hb
      exact decide_eq_true (gAll_su.mp (ring_pairs hring.lnk c hc)).2
     obtain ⟨v,rfl,hv⟩:=hg
     cases hv
     exact K r z8 s hzj (pk.mono (hz5.trans (hz6.trans hz7))) S.tail.tail.tail
end
section
variable {w:World} {A:Around} {ρ:Rest} {z:Z} {Δ:Ds}
noncomputable abbrev rowAV (r:Row):List AV:=[.s (nm r.n),.i (r.b:Nat),.i (r.e:Nat),.i (r.w:Nat)]
inductive RowL (z:Z):List AV→List Row→Prop where
 | nil:RowL z [] []
 | cons {q r vs rs}:Fz z q (TupO (rowAV r))→RowL z vs rs→RowL z (.v (.ref q)::vs) (r::rs)
theorem RowL.mono {z z':Z} (hz:Sub z z') {vs rs} (h:RowL z vs rs):RowL z' vs rs:=by
 induction h with
 | nil=>exact .nil
 | cons h r ih=>exact .cons (h.mono hz) ih
theorem RowL.len {z:Z}:∀ {vs rs},RowL z vs rs→vs.length=rs.length
 | _,_,.nil=>rfl
 | _,_,.cons _ r=>by simp [r.len]
theorem RowL.snoc {z:Z} {q:Addr} {r:Row} (h:Fz z q (TupO (rowAV r))):∀ {vs rs},RowL z vs rs→RowL z (vs++[.v (.ref q)]) (rs++[r])
 | _,_,.nil=>.cons h .nil
 | _,_,.cons a b=>.cons a (b.snoc h)
theorem KP.mono {z z':Z} (hz:Sub z z') {a:AV} {k:Nat} (h:KP z a k):KP z' a k:=h.imp fun q h=>h.imp fun r h=>h.imp fun n h=>⟨h.1,h.2.1.mono hz,h.2.2⟩
theorem KT.mono {z z':Z} (hz:Sub z z') {a:AV} {k:Nat} (h:KT z a k):KT z' a k:=h.imp fun q h=>h.imp fun e h=>h.imp fun v h=>h.imp fun n h=>⟨h.1,h.2.1.mono hz,h.2.2⟩
structure HpI (K:AV→Nat→Prop) (P:PL AV) (l:List Nat):Prop where
 k:∀ p∈P,K p.1 p.2
 h:Heap' P
 p:(P.map (·.2)).Perm l
theorem HpI.mono {K K':AV→Nat→Prop} (hk:∀ a k,K a k→K' a k) {P:PL AV} {l:List Nat} (h:HpI K P l):HpI K' P l:=⟨fun p hp=>hk _ _ (h.k p hp),h.h,h.p⟩
theorem HpI.len {K:AV→Nat→Prop} {P:PL AV} {l:List Nat} (h:HpI K P l):P.length=l.length:=by simpa using h.p.length_eq
theorem HpI.push {K:AV→Nat→Prop} {P P':PL AV} {l:List Nat} {x:AV×Nat} (h:HpI K P l) (hx:K x.1 x.2) (hh:Heap' P') (hp:P'.Perm (P++[x])):HpI K P' (sin x.2 l):=by
 refine ⟨fun p hm=>?_,hh,?_⟩
 ·rcases List.mem_append.mp (hp.subset hm) with q | q
  ·exact h.k p q
  ·simp at q;subst q;exact hx
 ·refine (?_:_→_) (hp.map (fun p:AV×Nat=>p.2))
  intro h1
  rw [List.map_append] at h1
  exact (h1.trans ((h.p.append_right _).trans List.perm_append_comm)).trans (sin_perm _ _).symm
theorem HpI.pop {K:AV→Nat→Prop} {P P':PL AV} {k:Nat} {l:List Nat} {x:AV×Nat} (h:HpI K P (k::l)) (hs:Srt (k::l)) (hh:Heap' P') (hp:(x::P').Perm P) (hm:∀ p∈P,x.2≤p.2):x.2=k∧K x.1 k∧HpI K P' l:=by
 refine (?_:_→_→_) ((pop_key hp hm h.p hs).1) ((pop_key hp hm h.p hs).2)
 intro h1 h2
 refine (?_:_→_) (h.k x (hp.subset (.head _)))
 intro h3
 rw [h1] at h3
 exact ⟨h1,h3,fun p hpm=>h.k p (hp.subset (.tail _ hpm)),hh,h2⟩
theorem HpI.top {K:AV→Nat→Prop} {P:PL AV} {k:Nat} {l:List Nat} (h:HpI K P (k::l)) (hs:Srt (k::l)):∃ x,P[0]?=some x∧K x.1 k:=by
 cases hP:P with
 | nil=>have:=h.len;rw [hP] at this;simp at this
 | cons x r=>
  refine ⟨x,rfl,?_⟩
  have hx:P[0]?=some x:=by rw [hP];rfl
  have hmin:∀ p∈P,x.2≤p.2:=by
   intro p hp
   obtain ⟨i,hi⟩:=List.getElem?_of_mem hp
   refine (?_:_→_) (h.h.min i (List.getElem?_eq_some_iff.mp hi).1)
   intro this
   rwa [key_some hx,key_some hi] at this
  refine (?_:(x.2∈k::l)→_) (h.p.subset (List.mem_map.mpr ⟨x,List.mem_of_getElem? hx,rfl⟩))
  intro h2
  obtain ⟨p,hpm⟩:=List.mem_map.mp (h.p.symm.subset (.head _))
  refine (?_:_→_→_) hpm.1 hpm.2
  intro hpm hpk
  refine (?_:_→_) (hmin p hpm)
  intro h4
  rw [Srt,List.pairwise_cons] at hs
  refine (?_:(x.2=k)→_) (by
   rcases List.mem_cons.mp h2 with q | q
   ·exact q
   ·refine (?_:_→_) (hs.1 _ q)
    intro this
    rw [hpk] at h4
    exact ar13 h4 this)
  intro h5
  refine (?_:_→_) (h.k x (List.mem_of_getElem? hx))
  intro this
  rwa [h5] at this
theorem HpI.nil {K:AV→Nat→Prop}:HpI K [] []:=⟨by simp,fun i hi h=>by simp at h,List.Perm.refl _⟩
theorem range_heap (W:Nat):HpI KI ((List.range W).map fun i=>(AV.i (i:Nat),i)) (List.range W):=by
 refine ⟨fun p hp=>?_,fun i hi hl=>?_,?_⟩
 ·obtain ⟨i,_,rfl⟩:=List.mem_map.mp hp;rfl
 ·rw [List.length_map,List.length_range] at hl
  refine (?_:(((List.range W).map fun i=>(AV.i (i:Nat),i))[i]?=some (AV.i (i:Nat),i))→_) (by rw [List.getElem?_map,List.getElem?_range hl];rfl)
  intro h1
  refine (?_:(((List.range W).map fun i=>(AV.i (i:Nat),i))[(i - 1) / 2]?=some (AV.i (((i - 1) / 2:Nat)),(i - 1) / 2))→_) (by rw [List.getElem?_map,List.getElem?_range (by exact ar75 hi hl)];rfl)
  intro h2
  rw [key_some h1,key_some h2]
  show (i - 1) / 2≤i
  exact ar181 hi
 ·rw [List.map_map]
  refine (?_:(((fun p:AV×Nat=>p.2)∘fun i:Nat=>(AV.i (i:Nat),i))=id)→_) (rfl)
  intro this
  rw [this,List.map_id]
theorem key3 {e v k:Nat} (hv:v<8) (hk:k<8):((e * 8+v) * 8+k) / 64=e∧((e * 8+v) * 8+k) / 8 % 8=v∧((e * 8+v) * 8+k) % 8=k:=by
 refine (?_:(∀ {a b:Nat},b<8→(a * 8+b) / 8=a)→_) (fun {a b} h=>by rw [Nat.mul_comm,Nat.mul_add_div (by decide),Nat.div_eq_of_lt h,Nat.add_zero])
 intro h1
 refine (?_:(∀ {a b:Nat},b<8→(a * 8+b) % 8=b)→_) (fun {a b} h=>by rw [Nat.mul_comm,Nat.mul_add_mod,Nat.mod_eq_of_lt h])
 intro h2
 exact ⟨by rw [show 64=8 * 8 from rfl,← Nat.div_div_eq_div_mul,h1 hk,h1 hv],by rw [h1 hk,h2 hv],h2 hk⟩
noncomputable abbrev frH (sa:SA) (a lf lr ln lp:Addr) (W t:Nat) (x:Loc:=[]):Loc:=("sorter",.v (.ref sa.x))::("jobs",.v (.ref a))::("workers",.i (W:Nat))::("free",.v (.ref lf))::("ready",.v (.ref lr))::("running",.v (.ref ln))::("plan",.v (.ref lp))::("time",.i (t:Nat))::x
section
variable {C:Cx} {m:Loc}
theorem lf_range {n:Int} {K:AV→SP} (k:∀ r,K (.v (.ref r)) z m ((r,RangeO 0 n)::Δ)):LC C (.v (.type "range")) [.i n] z m Δ K:=
 ⟨fun x xs hx hxs=>by
  cases hx;obtain _ | ⟨⟨t,rfl⟩,_ | _⟩:=hxs
  exact fun E s Q S q=>b_range S fun r s' S'=>q _ _ _ _ _ _ is_v (k r) S'⟩
theorem lf_listr {r:Addr} {n:Nat} {K:AV→SP} (O:C.Ok) (hn:n≤1000) (k:∀ l,K (.v (.ref l)) z m ((l,ListO ((List.range n).map fun i=>AV.i (i:Nat)))::Δ)):LC C (.v (.type "list")) [.v (.ref r)] z m ((r,RangeO 0 n)::Δ) K:=
 lc1 (fun E s Q S q=>b_listr O.r.hd S (S.at 1 rfl) hn fun l s' S'=>q _ _ _ _ _ _ is_v (k l) (S'.dropJ 1))
end
theorem HpI.top' {Kk:AV→Nat→Prop} {P:PL AV} {k:Nat} {l:List Nat} (h:HpI Kk P (k::l)) (hs:Srt (k::l)):∃ a,(fsts P)[0]?=some a∧Kk a k:=let ⟨x,h1,h2⟩:=h.top hs;⟨x.1,fsts_get h1,h2⟩
theorem HpI.emp {Kk:AV→Nat→Prop} {P:PL AV} {l:List Nat} (h:HpI Kk P l):(fsts P).isEmpty=l.isEmpty:=by
 refine (?_:_→_) (h.len)
 intro this
 cases P <;> cases l <;> first | rfl | cases this
theorem HpI.ne {Kk:AV→Nat→Prop} {P:PL AV} {k:Nat} {l:List Nat} (h:HpI Kk P (k::l)):P≠[]:=fun e=>by have:=h.len;rw [e] at this;cases this
theorem heappush_K {Kk:AV→Nat→Prop} (lt:LtR w ρ z Kk) {l:Addr} {P:PL AV} {a:AV} {k:Nat} {ks:List Nat} {K:AV→Z→Ds→Prop} (h:HpI Kk P ks) (ha:Kk a k) (hz:ks.length≤900) (R:Room A 3)
 (kk:∀ P',HpI Kk P' (sin k ks)→K (.v .none) z ((l,ListO (fsts P'))::Δ)):CF w ρ A 141 [.v (.ref l),a] z ((l,ListO (fsts P))::Δ) K:=
  heappush_T lt (new:=(a,k)) h.k ha h.h (h.len▸hz) R fun P' h1 h2=>kk P' (h.push ha h1 h2)
theorem heappop_K {Kk:AV→Nat→Prop} (lt:LtR w ρ z Kk) {l:Addr} {P:PL AV} {k:Nat} {ks:List Nat} {K:AV→Z→Ds→Prop} (h:HpI Kk P (k::ks)) (hs:Srt (k::ks)) (hz:(k::ks).length≤900) (R:Room A 3)
 (kk:∀ a P',Kk a k→HpI Kk P' ks→K a z ((l,ListO (fsts P'))::Δ)):CF w ρ A 148 [.v (.ref l)] z ((l,ListO (fsts P))::Δ) K:=
  heappop_T lt h.k h.h h.ne (h.len▸hz) R fun x P' h1 h2 h3=>let ⟨_,h4,h5⟩:=h.pop hs h1 h2 h3;kk x.1 P' h4 h5
structure HSt where
 h:HS
 n:Nat
 PF:PL AV
 PR:PL AV
 PN:PL AV
 vs:List AV
 z:Z
structure HGi (J:Jobs) (t:Nat) (fin:List Nat×List Nat×List Nat×List Row) (z:Z) (y:HSt):Prop where
 g:fin=give J t y.h.rd y.h.fr y.h.rn y.h.pl
 s1:Srt y.h.rd
 s2:Srt y.h.fr
 l1:y.h.rd.length≤40
 l2:y.h.fr.length≤20
 m1:∀ x∈y.h.rd,x % 8<7
 m2:∀ v∈y.h.fr,v<8
 s:Sub z y.z
 f:HpI KI y.PF y.h.fr
 r:HpI (KP y.z) y.PR y.h.rd
 n:HpI (KT y.z) y.PN y.h.rn
 v:RowL y.z y.vs y.h.pl
structure HEi (ey:Nat) (fin:List Nat×List Nat×List Nat) (z:Z) (y:List Nat×HSt):Prop where
 g:fin=ends ey y.2.h.rn y.2.h.fr y.1
 s1:Srt y.2.h.rn
 l1:y.2.h.rn.length≤20
 l2:y.2.h.fr.length+y.2.h.rn.length≤60
 l3:y.1.length+y.2.h.rn.length≤60
 m1:∀ x∈y.2.h.rn,x % 8<7
 m2:∀ k∈y.1,k<7
 s:Sub z y.2.z
 f:HpI KI y.2.PF y.2.h.fr
 n:HpI (KT y.2.z) y.2.PN y.2.h.rn
structure HIn (I:Nat→HS→Prop) (z:Z) (x:HSt):Prop where
 i:I x.n x.h
 s:Sub z x.z
 f:HpI KI x.PF x.h.fr
 r:HpI (KP x.z) x.PR x.h.rd
 n:HpI (KT x.z) x.PN x.h.rn
 v:RowL x.z x.vs x.h.pl
theorem by_heaps_T {J:Jobs} (hJ:JOk J) {a r0:Addr} {sa:SA} {order:List Nat} {su:Nat→List Nat} {st0:Ps} {W:Nat} {K:AV→Z→Ds→Prop} (ok:POk w z sa order su) (hj:JobsAt w z J a)
 (hord:∀ k,k<7→k∈order) (hsu:∀ k,(su k).length≤50) (hso:∀ k∈order,∀ j∈su k,j∈order) (hW:W≤7) (R:Room A 6)
 (I:Nat→HS→Prop) (n0:Nat) (h0:I n0 ⟨List.range W,[],[],[],0,st0⟩)
 (hI:∀ n h,I n h→HB h∧HB (hMid J h)∧((hMid J h).rn=[]→(hMid J h).rd=[]∧¬ (spGet h.sp).f<(spGet h.sp).p) ∧
 ((hMid J h).rn≠[]→(spGet h.sp).f<(spGet h.sp).p∧DoneOk su (spGet h.sp) (hEnded (hMid J h))∧∃ m,m<n∧I m (hNext su (hMid J h))))
 (k:∀ q z' n h st' vs,Sub z z'→I n h→(hMid J h).rn=[]→RowL z' vs (hMid J h).pl→K (.v (.ref q)) z' ((q,ListO vs)::(postE sa r0 order st'++Δ))) :
 CF w ρ A 191 [.v (.ref sa.x),.v (.ref a),.i (.ofNat W)] z (postE sa r0 order st0++Δ) K:=by
  refine lf_def (by assumption) ?_ (by k_is) (by k_is) (by first | exact args1 fun c=>rfl | exact args2 fun c c=>rfl | exact args3 fun c c c=>rfl) (by decide) (by decide) (by rfl) (by rfl) (by rfl) (by decide)
  intro L A' R C O
  refine (?_:_→_) (ok.ok.x)
  intro hx
  refine lf_tas O rfl rfl ?_
  refine lf_range fun rg=>?_
  refine lf_listr O (Nat.le_trans hW (by decide)) fun lf=>?_
  refine fun lr=>?_
  refine fun ln=>?_
  refine fun lp=>?_
  refine lf_while (σ:=HSt) (·.z) (fun x=>frH sa a lf lr ln lp W x.h.t) (fun x=>(lf,ListO (fsts x.PF))::(lr,ListO (fsts x.PR))::(ln,ListO (fsts x.PN))::(lp,ListO x.vs)::(postE sa r0 order x.h.sp++Δ))
   (HIn I z) (·.n) O ⟨⟨List.range W,[],[],[],0,st0⟩,n0,(List.range W).map fun i=>(AV.i (i:Nat),i),[],[],[],z⟩ ⟨h0,Sub.refl _,range_heap W,.nil,.nil,.nil⟩ ?turn [] rfl rfl ?wk
  case wk=>
   refine (?_:(fsts ((List.range W).map fun i=>(AV.i (i:Nat),i))=(List.range W).map fun i=>AV.i (i:Nat))→_) (List.map_map.trans rfl)
   intro e1
   rw [e1]
   exact Wk.pick 4 [3,2,1,0] rfl
  intro zf mf Δf Iv μ Kw x h Kb W
  refine it_t rfl ?_
  obtain ⟨hB,hBm,hfin,hgo⟩:=hI x.n x.h h.i
  refine (?_:_→_) (ok.ok.x.mono h.s)
  intro hx
  refine lf_gmi (m_get_ready w) (.fz hx) (.own 4 rfl) rfl ?_
  refine (?_:_→_) (ok.mono h.s)
  intro ok1
  refine (?_:_→_) (hj.mono h.s)
  intro hj1
  refine lc_blk 4 rfl fun Δ'=>get_ready_T ok1 (by refine (?_:_→_) (hB.sp.1);intro this;exact ar129 this) (fun k hk=>hord k (hB.sp.2 k hk)) (R.le (by decide)) fun q z3 hz3 hq=>⟨_,rfl,?_⟩
  refine (?_:_→_) (hj1.mono hz3)
  intro hj3
  refine lf_for0 (σ:=PL AV×Z) (·.2) (fun c=>mf x) (fun y=>(lf,ListO (fsts x.PF))::(lr,ListO (fsts y.1))::(ln,ListO (fsts x.PN))::(lp,ListO x.vs)::(postE sa r0 order (spGet x.h.sp)++Δ))
   (fun d c y=>HpI (KP y.2) y.1 (pushR J x.h.rd d)) O (x.PR,z3) (src_tup hq (fun c h=>nAVs_pr h) fun c c N=>Its.n N rfl O.k) (h.r.mono fun c c=>KP.mono hz3) ?t2 ?f2 [] rfl rfl
  case t2=>
   intro zg mg Δg Ig Kg d k rr y hd hz hI jt Kf F
   have hk7:k<7:=hB.sp.2 k (hd▸List.mem_append_right _ (.head _))
   obtain ⟨ts,ws,hjd⟩:=hj3.mono hz
   refine (?_:_→_→_) hjd.1 hjd.2
   intro hjd hjk
   refine lf_d (.fz hjd) (JobsAt.lk hk7) ?_
   refine lf_tup (n:=1) (.fz (hjk k hk7).1) rfl (by simp) ?_
   refine fun q1 z5 hz5 hq1=>?_
   refine (?_:(d.length≤20)→_) (Nat.le_trans (by rw [← hd,List.length_append];exact Nat.le_add_right ..) hB.sp.1)
   intro hdl
   refine (?_:_→_) ((pushR_b (J:=J) hB.rd.1 hB.rd.2.1 hB.rd.2.2 (l:=d) fun x hx=>hB.sp.2 x (hd▸List.mem_append_left _ hx)).2.1)
   intro hPl
   refine (?_:(KP z5 (.v (.ref q1)) (rkey J k))→_) (⟨q1,(J k).rank,k,rfl,hq1,Nat.lt_succ_of_lt hk7,rfl⟩)
   intro hnew
   refine lc_at 1 rfl fun c c=>heappush_K (ltr_pair (z:=z5)) (hI.mono fun c c=>KP.mono hz5) hnew (by exact ar261 hPl hdl) (R.le (by decide)) fun P2 h2=>⟨_,rfl,?_⟩
   exact F.nx (P2,z5) _ wkr hz5 (by show HpI _ _ (pushR J x.h.rd (d++[k]));rw [pushR_snoc];exact h2)
  case f2=>
   intro y hz hI
   refine (?_:_→_) (pushR_b (J:=J) hB.rd.1 hB.rd.2.1 hB.rd.2.2 hB.sp.2)
   intro hPb
   refine (?_:(Sub x.z y.2)→_) (hz3.trans hz)
   intro hz1
   refine lf_while (σ:=HSt) (·.z) (fun c=>mf x) (fun y=>(lf,ListO (fsts y.PF))::(lr,ListO (fsts y.PR))::(ln,ListO (fsts y.PN))::(lp,ListO y.vs)::(postE sa r0 order (spGet x.h.sp)++Δ))
    (HGi J x.h.t (give J x.h.t (pushR J x.h.rd x.h.sp.rd) x.h.fr x.h.rn x.h.pl) y.2) (·.h.rd.length) O ⟨⟨x.h.fr,pushR J x.h.rd x.h.sp.rd,x.h.rn,x.h.pl,x.h.t,x.h.sp⟩,0,x.PF,y.1,x.PN,x.vs,y.2⟩
    ⟨rfl,hPb.1,hB.fr.1,Nat.le_trans hPb.2.1 (Nat.add_le_add_left hB.sp.1 20),hB.fr.2.1,hPb.2.2,hB.fr.2.2,Sub.refl _,h.f,hI,h.n.mono fun c c=>KT.mono hz1,h.v.mono hz1⟩ ?t3 [] rfl rfl wkr
   intro zg mg Δg Ig μg Kg y2 g Kc V
   have after:(hMid J x.h)=⟨y2.h.fr,y2.h.rd,y2.h.rn,y2.h.pl,x.h.t,spGet x.h.sp⟩→Kg .next (zg y2) (mg y2) (Δg y2):=by
    intro hmid
    rw [hmid] at hBm hfin hgo
    have hz4:Sub z y2.z:=h.s.trans (hz1.trans g.s)
    have hx5:=ok.ok.x.mono hz4
    have ok5:=ok.mono hz4
    refine ⟨fun nl=>?_⟩
    rcases nil_or y2.h.rn with hrn | ⟨k1,rn,hrn⟩
    ·refine lf_eqnil 4 R (.own 2 rfl) (g.n.emp.trans (by rw [hrn])) ?_
     obtain ⟨hrd,hnf⟩:=hfin hrn
     refine it_t rfl ?_
     refine lf_gmi (m_is_active w) (.fz hx5) (.own 4 rfl) rfl ?_
     refine lc_blk 4 rfl fun Δ'=>is_active_T ok5 (Nat.zero_le _) (R.le (by decide)) (by rw [decide_eq_false hnf]) ⟨_,rfl,?_⟩
     refine lf_isb (it_t rfl fun nl=>?_)
     refine lf_eqnil 4 R (.own 1 rfl) (g.r.emp.trans (by rw [show y2.h.rd=[] from hrd])) ?_
     refine it_t rfl ?_
     refine lf_gmi (m_get_ready w) (.fz hx5) (.own 4 rfl) rfl ?_
     refine lc_blk 4 (B:=postE sa r0 order (spGet x.h.sp)) (Δ0:=Δ) rfl fun Δ'=>get_ready_T ok5 (Nat.zero_le _) (fun c hk=>(List.not_mem_nil hk).elim) (R.le (by decide)) fun q6 z6 hz6 hq6=>⟨_,rfl,fun q7 z7 hz7 hq7=>?_⟩
     refine lf_eqt0 (R.le (by decide)) (.fz (hq6.mono hz7)) (.fz hq7) (it_t rfl (it_t rfl ?_))
     exact W.rt (kFn_i (m:=mg y2) _ (Wk.pick 4 [3] rfl) (k lp z7 x.n x.h (spGet (spGet x.h.sp)) y2.vs (hz4.trans (hz6.trans hz7)) h.i (hmid▸hrn) (hmid▸g.v.mono (hz6.trans hz7))))
    refine lf_eqnil 4 R (.own 2 rfl) (g.n.emp.trans (by rw [hrn])) ?_
    refine it_f rfl ?_
    obtain ⟨hact,hdone,n',hmn⟩:=hgo (by rw [hrn];exact List.cons_ne_nil _ _)
    refine (?_:_→_→_) hmn.1 hmn.2
    intro hmn hIm
    refine ⟨lf_gmi (m_is_active w) (.fz hx5) (.own 4 rfl) rfl ?_⟩
    refine lc_blk 4 rfl fun Δ'=>is_active_T ok5 (Nat.zero_le _) (R.le (by decide)) (by rw [decide_eq_true hact]) ⟨_,rfl,?_⟩
    refine lf_isnb (it_f rfl ?_)
    refine (?_:_→_) (g.n)
    intro gn
    refine (?_:_→_) (hBm.rn.1)
    intro gs
    have gl:=hBm.rn.2.1
    rw [hrn] at gn
    rw [show (HS.mk y2.h.fr y2.h.rd y2.h.rn y2.h.pl x.h.t (spGet x.h.sp)).rn=k1::rn from hrn] at gs
    obtain ⟨aq,hx0,qy,ey,vy,ky,rfl,hqy,hvy8,hky8,hyk⟩:=gn.top' gs
    refine lf_swap (ns:=["time","ended"]) O rfl ?_
    refine lf_sl (n:=0) (.own 2 rfl) hx0 (by rw [List.length_map,g.n.len];exact Nat.le_trans gl (by decide)) ?_
    refine lf_tup (n:=0) (.fz hqy) rfl (by simp) ?_
    refine fun le=>?_
    have hey:ey=hTime ⟨y2.h.fr,y2.h.rd,y2.h.rn,y2.h.pl,x.h.t,spGet x.h.sp⟩:=by show ey=(y2.h.rn.headD 0) / 64;rw [hrn];show ey=k1 / 64;rw [hyk];exact (key3 hvy8 hky8).1.symm
    refine lf_while (σ:=List Nat×HSt) (·.2.z) (fun c=>setls (mg y2) ["ended","time"] [.v (.ref le),.i (.ofNat ey)]) (fun y=>(le,ListO (nAVs y.1))::(lf,ListO (fsts y.2.PF))::(lr,ListO (fsts y2.PR))::(ln,ListO (fsts y.2.PN))::(lp,ListO y2.vs)::(postE sa r0 order (spGet x.h.sp)++Δ))
     (HEi ey (ends ey y2.h.rn y2.h.fr []) y2.z) (·.2.h.rn.length) O ([],y2) ⟨rfl,hBm.rn.1,hBm.rn.2.1,by refine (?_:_→_) (hBm.fr.2.1);intro this;have:=hBm.rn.2.1;dsimp only at *;exact ar256 ‹_› gl,by refine (?_:_→_) (hBm.rn.2.1);intro this;dsimp only at *;simp only [List.length_nil];exact ar147 gl,hBm.rn.2.2,fun c h=>(List.not_mem_nil h).elim,Sub.refl _,g.f,g.n⟩ ?t4 [] rfl rfl wkr
    intro ze me Δe Ie μe Ke y e Kd D
    have after2:ends ey y2.h.rn y2.h.fr []=(y.2.h.rn,y.2.h.fr,y.1)→Ke .next (ze y) (me y) (Δe y):=by
     intro hfe
     refine (?_:_→_) (hz4.trans e.s)
     intro hz48
     refine (?_:(hEnded ⟨y2.h.fr,y2.h.rd,y2.h.rn,y2.h.pl,x.h.t,spGet x.h.sp⟩=y.1)→_) (by show (ends (hTime _) y2.h.rn y2.h.fr []).2.2=_;rw [← hey,hfe])
     intro hen
     refine (?_:(hNext su ⟨y2.h.fr,y2.h.rd,y2.h.rn,y2.h.pl,x.h.t,spGet x.h.sp⟩=⟨y.2.h.fr,y2.h.rd,y.2.h.rn,y2.h.pl,ey,(spGet x.h.sp).doneL su y.1⟩)→_) (by
      show HS.mk (ends (hTime _) y2.h.rn y2.h.fr []).2.1 _ (ends (hTime _) y2.h.rn y2.h.fr []).1 _ (hTime _) ((spGet x.h.sp).doneL su (ends (hTime _) y2.h.rn y2.h.fr []).2.2)=_
      rw [← hey,hfe])
     intro hnx
     rw [hen] at hdone
     rw [hnx] at hIm
     refine (?_:((nAVs y.1).length≤100)→_) (by refine (?_:_→_) (e.l3);intro this;rw [List.length_map];exact ar179 this)
     intro hl1
     refine lf_mstar O (m_done w) rfl rfl rfl rfl rfl rfl (.fz (hx5.mono e.s)) (.own 5 rfl) rfl (.own 0 rfl) (Nat.le_trans hl1 (by decide)) 5 rfl fun Δ'=>?_
     refine done_T (ok5.mono e.s) (Nat.zero_le _) (fun k=>Nat.le_trans (hsu k) (by decide)) hso (fun k hk=>hord k (e.m2 k hk)) (by rwa [List.length_map] at hl1) hdone (R.le (by decide)) fun z8 hz8=>⟨_,rfl,?_⟩
     refine (?_:_→_) (e.s.trans hz8)
     intro hz28
     exact W.nx ⟨⟨y.2.h.fr,y2.h.rd,y.2.h.rn,y2.h.pl,ey,(spGet x.h.sp).doneL su y.1⟩,n',y.2.PF,y2.PR,y.2.PN,y2.vs,z8⟩ _ (Wk.pick 5 [1,2,3,4] rfl) hmn
      ⟨hIm,hz4.trans hz28,e.f,g.r.mono fun c c=>KP.mono hz28,e.n.mono fun c c=>KT.mono hz8,g.v.mono hz28⟩
    refine fun nl=>?_
    rcases nil_or y.2.h.rn with hrn2 | ⟨k2,rn2,hrn2⟩
    ·refine lf_nenil 4 R (.own 3 rfl) (e.n.emp.trans (by rw [hrn2])) ?_
     exact it_f rfl (it_f rfl (after2 (by rw [e.g,hrn2];rfl)))
    refine lf_nenil 4 R (.own 3 rfl) (e.n.emp.trans (by rw [hrn2])) ?_
    refine it_t rfl ?_
    refine (?_:_→_) (e.n)
    intro en
    refine (?_:_→_) (e.s1)
    intro es1
    rw [hrn2] at en es1
    obtain ⟨aq2,hx2,qy2,e2,v2,k3,rfl,hqy2,hvy2,hky2,hyk2⟩:=en.top' es1
    refine lf_sl (n:=0) (.own 3 rfl) hx2 (by rw [List.length_map,e.n.len];exact Nat.le_trans e.l1 (by decide)) ?_
    refine lf_tup (n:=0) (.fz hqy2) rfl (by simp) ?_
    refine lf_eq ?_
    by_cases he2:e2=ey
    ·refine it_t (by rw [he2];exact beq_self_eq_true _) (it_t rfl ?_)
     refine lf_tcl O ?_
     refine lc_at 3 rfl fun c c=>heappop_K ltr_triple en es1 (by rw [← hrn2];exact Nat.le_trans e.l1 (by decide)) (R.le (by decide)) fun ax PN2 hax hPN2=>⟨_,rfl,?_⟩
     obtain ⟨qx,ex,vx,kx,rfl,hqx,hvx8,hkx8,hkx⟩:=hax
     refine lf_unp O (.fz hqx) rfl rfl ?_
     refine (?_:(vx=k2 / 8 % 8)→_) (by rw [hkx];exact (key3 hvx8 hkx8).2.1.symm)
     intro hvm
     have hkm:kx=k2 % 8:=by rw [hkx];exact (key3 hvx8 hkx8).2.2.symm
     refine (?_:_→_) (e.l2)
     intro hl2
     refine (?_:_→_) (e.l3)
     intro hl3
     refine (?_:_→_) (e.l1)
     intro hl1
     rw [hrn2,List.length_cons] at hl1 hl2 hl3
     refine lc_at 1 rfl fun c c=>heappush_K ltr_int (k:=vx) e.f rfl (by exact ar239 hl2) (R.le (by decide)) fun PF2 hPF2=>⟨_,rfl,?_⟩
     refine lf_gml (.own 0 rfl) PySem.F.slot_list_append PySem.F.type_list_append ?_
     refine lf_append (j:=0) rfl (by rw [List.length_map];exact ar267 hl3) ?_
     refine D.nx (y.1++[kx],⟨⟨sin vx y.2.h.fr,y.2.h.rd,rn2,y.2.h.pl,y.2.h.t,y.2.h.sp⟩,y.2.n,PF2,y.2.PR,PN2,y.2.vs,y.2.z⟩) _ ?_ ?_ ⟨?_,(List.pairwise_cons.mp es1).2,by show rn2.length≤20;exact ar144 hl1,?_,?_,fun a ha=>e.m1 a (hrn2▸.tail _ ha),fun a ha=>?_,e.s,hPF2,hPN2⟩
     ·show Wk _ ((le,ListO (nAVs (y.1++[kx])))::_)
      rw [show nAVs (y.1++[kx])=nAVs y.1++[.s (nm kx)] from List.map_append];exact wkr
     ·show rn2.length<y.2.h.rn.length
      rw [hrn2];exact Nat.lt_succ_self _
     ·rw [e.g,hrn2];conv=>lhs;unfold ends
      rw [if_pos (by rw [hyk2,(key3 hvy2 hky2).1];exact he2),hvm,hkm]
     ·show (sin vx y.2.h.fr).length+rn2.length≤60
      rw [sin_len];exact ar78 hl2
     ·show (y.1++[kx]).length+rn2.length≤60
      rw [List.length_append,List.length_singleton];exact ar78 hl3
     ·rcases List.mem_append.mp ha with ha | ha
      ·exact e.m2 a ha
      ·rw [List.mem_singleton.mp ha,hkm];exact e.m1 k2 (hrn2▸.head _)
    ·refine it_f (beq_eq_false_iff_ne.mpr fun q=>he2 (Int.ofNat.inj q)) (it_f rfl (after2 ?_))
     rw [e.g,hrn2];unfold ends;rw [if_neg (by rw [hyk2,(key3 hvy2 hky2).1];exact he2)]
   have hgb:=give_b J x.h.t y2.h.rd y2.h.fr y2.h.rn y2.h.pl
   rw [← g.g] at hgb
   have hrnl:=Nat.le_trans hgb.1 hBm.rn.2.1
   have hpll:=Nat.le_trans hgb.2 hBm.pl
   have hge:∀ r,give J x.h.t y2.h.rd y2.h.fr y2.h.rn y2.h.pl=r→hMid J x.h=⟨r.2.1,r.1,r.2.2.1,r.2.2.2,x.h.t,spGet x.h.sp⟩:=fun r e=>by rw [← e,← g.g];rfl
   refine fun nl=>?_
   rcases nil_or y2.h.rd with hrd | ⟨k0,rd,hrd⟩
   ·refine lf_nenil 4 R (.own 1 rfl) (g.r.emp.trans (by rw [hrd])) ?_
    exact it_f rfl (it_f rfl (after (by rw [hge _ rfl,hrd];cases y2.h.fr <;> rfl)))
   refine lf_nenil 4 R (.own 1 rfl) (g.r.emp.trans (by rw [hrd])) ?_
   refine it_t rfl fun nl=>?_
   rcases nil_or y2.h.fr with hfr | ⟨v,fr,hfr⟩
   ·refine lf_nenil 4 R (.own 0 rfl) (g.f.emp.trans (by rw [hfr])) ?_
    exact it_f rfl (it_f rfl (after (by rw [hge _ rfl,hrd,hfr];rfl)))
   refine lf_nenil 4 R (.own 0 rfl) (g.f.emp.trans (by rw [hfr])) ?_
   refine it_t rfl (it_t rfl ?_)
   refine (?_:_→_) (g.r)
   intro gr
   refine (?_:_→_) (g.f)
   intro gf
   have gs1:=g.s1
   have gs2:=g.s2
   rw [hrd] at gr gs1
   rw [hfr] at gf gs2
   refine lf_swap (ns:=["name","worker"]) O rfl ?_
   refine lc_at 1 rfl fun c c=>heappop_K ltr_pair gr gs1 (by rw [← hrd];exact Nat.le_trans g.l1 (by decide)) (R.le (by decide)) fun ax PR2 hax hPR2=>⟨_,rfl,?_⟩
   obtain ⟨qx,rx,nx,rfl,hqx,hn8,hkx⟩:=hax
   have hnx:nx=k0 % 8:=by rw [hkx,Nat.mul_comm,Nat.mul_add_mod,Nat.mod_eq_of_lt hn8]
   have hnx7:nx<7:=hnx▸g.m1 k0 (hrd▸.head _)
   refine lf_tup (n:=1) (.fz hqx) rfl (by simp) ?_
   refine lc_at 0 rfl fun c c=>heappop_K ltr_int gf gs2 (by rw [← hfr];exact Nat.le_trans g.l2 (by decide)) (R.le (by decide)) fun av PF2 hav hPF2=>⟨_,rfl,?_⟩
   subst hav
   refine lf_gml (.own 3 rfl) PySem.F.slot_list_append PySem.F.type_list_append ?_
   obtain ⟨ts,ws,hjd⟩:=(hj3.mono hz).mono g.s
   refine (?_:_→_→_) hjd.1 hjd.2
   intro hjd hjk
   refine (?_:(∀ {z'},Sub y2.z z'→Fz z' a (DictO w ((List.range 7).map fun k=>(nm k,.v (.ref (ts k)))))∧Fz z' (ts nx) (TupO [.i (J nx).dur,.i (J nx).rank,.v (.ref (ws nx))]))→_) (fun h=>⟨hjd.mono h,(hjk nx hnx7).1.mono h⟩)
   intro hd
   refine lf_d (.fz hjd) (JobsAt.lk hnx7) ?_
   refine lf_tup (n:=0) (.fz (hjk nx hnx7).1) rfl (by simp) ?_
   refine fun qr z7 hz7 hqr=>?_
   refine lf_append (j:=3) rfl ?_ ?_
   ·have:=g.v.len;exact ar254 this hpll
   refine lf_d (.fz (hd hz7).1) (JobsAt.lk hnx7) ?_
   refine lf_tup (n:=0) (.fz (hd hz7).2) rfl (by simp) ?_
   refine fun qn z8 hz8 hqn=>?_
   refine (?_:_→_) (hz7.trans hz8)
   intro hz28
   refine (?_:(v<8)→_) (g.m2 v (hfr▸.head _))
   intro hv8
   refine lc_at 2 rfl fun c c=>heappush_K (ltr_triple (z:=z8)) (k:=nkey (x.h.t+(J nx).dur) v nx) (g.n.mono fun c c=>KT.mono hz28) ⟨qn,x.h.t+(J nx).dur,v,nx,rfl,hqn,hv8,hn8,rfl⟩ (by exact ar130 hrnl) (R.le (by decide)) fun PN2 hPN2=>⟨_,rfl,?_⟩
   refine V.nx ⟨⟨fr,rd,sin (nkey (x.h.t+(J nx).dur) v nx) y2.h.rn,y2.h.pl++[⟨nx,x.h.t,x.h.t+(J nx).dur,v⟩],x.h.t,x.h.sp⟩,0,PF2,PR2,PN2,y2.vs++[.v (.ref qr)],z8⟩ _ wkr ?_
    ⟨?_,(List.pairwise_cons.mp gs1).2,(List.pairwise_cons.mp gs2).2,?_,?_,fun y hy=>g.m1 y (hrd▸.tail _ hy),fun y hy=>g.m2 y (hfr▸.tail _ hy),g.s.trans hz28,hPF2,hPR2.mono fun c c=>KP.mono hz28,hPN2,(g.v.mono hz28).snoc (hqr.mono hz8)⟩
   ·show rd.length<y2.h.rd.length
    rw [hrd];exact Nat.lt_succ_self _
   ·rw [g.g,hrd,hfr,hnx];rfl
   ·exact Nat.le_trans (Nat.le_succ _) (hrd▸g.l1:(k0::rd).length≤40)
   ·exact Nat.le_trans (Nat.le_succ _) (hfr▸g.l2:(v::fr).length≤20)
theorem by_heaps_spec {E:VP} {s:Shared} {J:Jobs} (hJ:JOk J) {a r0:Addr} {sa:SA} {order:List Nat} {su:Nat→List Nat} {st0:Ps} {W:Nat} {tw:Tok} {Q:VP} (S:St w ρ z (postE sa r0 order st0++Δ) s) (ok:POk w z sa order su) (hj:JobsAt w z J a)
 (hord:∀ k,k<7→k∈order) (hsu:∀ k,(su k).length≤50) (hso:∀ k∈order,∀ j∈su k,j∈order) (hW:W≤7) (R:Room A 6)
 (I:Nat→HS→Prop) (n0:Nat) (h0:I n0 ⟨List.range W,[],[],[],0,st0⟩)
 (hI:∀ n h,I n h→HB h∧HB (hMid J h)∧((hMid J h).rn=[]→(hMid J h).rd=[]∧¬ (spGet h.sp).f<(spGet h.sp).p) ∧
 ((hMid J h).rn≠[]→(spGet h.sp).f<(spGet h.sp).p∧DoneOk su (spGet h.sp) (hEnded (hMid J h))∧∃ m,m<n∧I m (hNext su (hMid J h))))
 (K:∀ q z' s' n h st' vs,Sub z z'→I n h→(hMid J h).rn=[]→RowL z' vs (hMid J h).pl→St w ρ z' ((q,ListO vs)::(postE sa r0 order st'++Δ)) s'→Q (.ref q) s') :
 wpAny (model PG w) A (call (.ref 191) [.ref sa.x,.ref a,.int W tw]) Q E s:=
  (by_heaps_T (K:=fun r z' Δ'=>∃ q n h st' vs,r=.v (.ref q)∧Sub z z'∧I n h∧(hMid J h).rn=[]∧RowL z' vs (hMid J h).pl∧Δ'=(q,ListO vs)::(postE sa r0 order st'++Δ)) hJ ok hj hord hsu hso hW R I n0 h0 hI
   fun q z' n h st' vs h1 h2 h3 h4=>⟨q,n,h,st',vs,rfl,h1,h2,h3,h4,rfl⟩).out _ (.cons is_v (.cons is_v (.cons ⟨tw,rfl⟩ .nil))) E s Q S fun r v z' Δ' s' hv t S'=>by
   obtain ⟨q,n,h,st',vs,rfl,h1,h2,h3,h4,rfl⟩:=t
   cases hv
   exact K q z' s' n h st' vs h1 h2 h3 h4 S'
end
section
variable {n:Nat} {f:Nat→Nat}
noncomputable abbrev KG (f:Nat→Nat) (p:Array Nat) (i:Nat):Nat:=f ((p[i]?).getD 0)
theorem KG_D (p:Array Nat) (i:Nat):p.getD i 0=(p[i]?).getD 0:=by rw [Array.getD_eq_getD_getElem?]
structure PA (n:Nat) (p:Array Nat):Prop where
 sz:p.size=n
 pm:p.toList.Perm (List.range n)
theorem PA.lt {p:Array Nat} (h:PA n p) {i:Nat} (hi:i<n):(p[i]?).getD 0<n:=by
 refine (?_:(i<p.size)→_) (by rw [h.sz];exact hi)
 intro hi'
 rw [getElem?_pos p i hi',Option.getD_some]
 exact List.mem_range.mp (h.pm.mem_iff.mp (by simp))
theorem PA.inj {p:Array Nat} (h:PA n p) {i j:Nat} (hi:i<n) (hj:j<n) (e:(p[i]?).getD 0=(p[j]?).getD 0):i=j:=by
 have hi':i<p.size:=by rw [h.sz];exact hi
 have hj':j<p.size:=by rw [h.sz];exact hj
 rw [getElem?_pos p i hi',getElem?_pos p j hj',Option.getD_some,Option.getD_some] at e
 have hn:p.toList.Nodup:=h.pm.nodup_iff.mpr List.nodup_range
 exact (List.getElem_inj hn (h₀:=by simpa using hi') (h₁:=by simpa using hj')).mp (by simpa using e)
theorem PA.ne {p:Array Nat} (h:PA n p) (hf:∀ i j,i<n→j<n→f i=f j→i=j) {i j:Nat} (hi:i<n) (hj:j<n) (hij:i≠j):KG f p i≠KG f p j:=fun e=>hij (h.inj hi hj (hf _ _ (h.lt hi) (h.lt hj) e))
theorem PA.of {p q:Array Nat} (h:PA n p) (hp:q.Perm p):PA n q:=⟨hp.size_eq.trans h.sz,(Array.perm_iff_toList_perm.mp hp).trans h.pm⟩
noncomputable def Up (f:Nat→Nat) (p:Array Nat) (k:Nat):Prop:=∀ i j,i<j→j<k→KG f p i<KG f p j
noncomputable def Dn (f:Nat→Nat) (p:Array Nat) (k:Nat):Prop:=∀ i j,i<j→j<k→KG f p j<KG f p i
noncomputable abbrev CmpOk (n:Nat) (f:Nat→Nat) (cmp:Nat→Nat→(Bool→Shared→Prop)→Shared→Prop) (s:Shared):Prop:=∀ i j,i<n→j<n→∀ R:Bool→Shared→Prop,R (decide (f i<f j)) s→cmp i j R s
variable {cmp:Nat→Nat→(Bool→Shared→Prop)→Shared→Prop} {s:Shared} (hf:∀ i j,i<n→j<n→f i=f j→i=j) (hc:CmpOk n f cmp s)
include hf hc
theorem kas_asc_ok {p:Array Nat} (h:PA n p) {Q:Nat→Shared→Prop}:∀ (fuel m:Nat),fuel=n - m→1≤m→m≤n→Up f p m→(∀ m',m≤m'→m'≤n→Up f p m'→(m'<n→KG f p m'<KG f p (m' - 1))→Q m' s)→(kas_asc p fuel m).kasWp cmp Q s
 | 0,m,hfu,h1,hm,hu,k=>k m (Nat.le_refl _) hm hu fun q=>by exact ar265 hfu q
 | fuel+1,m,hfu,h1,hm,hu,k=>by
  have hmn:m<n:=by exact ar27 hm hfu
  unfold kas_asc
  show cmp _ _ _ s
  rw [KG_D,KG_D]
  refine hc _ _ (h.lt hmn) (h.lt (by exact ar66 h1 hmn)) _ ?_
  by_cases q:f ((p[m]?).getD 0)<f ((p[m - 1]?).getD 0)
  ·rw [decide_eq_true q];dsimp only;rw [if_pos rfl]
   exact k m (Nat.le_refl _) hm hu fun g=>q
  ·rw [decide_eq_false q];dsimp only;rw [if_neg Bool.false_ne_true]
   have hne:=h.ne hf hmn (show m - 1<n by exact ar66 h1 hmn) (by exact ar134 h1)
   have hlt:KG f p (m - 1)<KG f p m:=by simp only [KG] at hne ⊢;exact ar21 hne q
   refine kas_asc_ok h fuel (m+1) (by exact ar29 hfu hmn hm) (by exact ar34) (by exact ar23 hmn hm) (fun i j hij hj=>?_) fun m' a b c d=>k m' (by exact ar17 a) b c d
   by_cases e:j=m
   ·subst e
    by_cases e2:i=j - 1
    ·subst e2;exact hlt
    ·exact Nat.lt_trans (hu i (j - 1) (by exact ar319 h1 hij e2) (by exact ar44 h1)) hlt
   ·exact hu i j hij (by exact ar24 hj e)
theorem kas_desc_ok {p:Array Nat} (h:PA n p) {Q:Array Nat×Nat×Nat→Shared→Prop}:∀ (fuel m:Nat),fuel=n - m→2≤m→m≤n→Dn f p m→(∀ m',2≤m'→m'≤n→Dn f p m'→Q (p,m',0) s)→(kas_desc fuel p m 0).kasWp cmp Q s
 | 0,m,hfu,h1,hm,hu,k=>k m h1 hm hu
 | fuel+1,m,hfu,h1,hm,hu,k=>by
  have hmn:m<n:=by exact ar27 hm hfu
  show cmp _ _ _ s
  rw [KG_D,KG_D]
  refine hc _ _ (h.lt hmn) (h.lt (by exact ar22 h1 hmn)) _ ?_
  by_cases q:f ((p[m]?).getD 0)<f ((p[m - 1]?).getD 0)
  ·rw [decide_eq_true q];dsimp only;rw [if_pos rfl,if_neg (by exact ar102)]
   refine kas_desc_ok h fuel (m+1) (by exact ar29 hfu hmn hm) (by exact ar136 h1) (by exact ar23 hmn hm) (fun i j hij hj=>?_) k
   by_cases e:j=m
   ·subst e
    by_cases e2:i=j - 1
    ·subst e2;exact q
    ·exact Nat.lt_trans q (hu i (j - 1) (by exact ar320 h1 hij e2) (by exact ar137 h1))
   ·exact hu i j hij (by exact ar24 hj e)
  ·rw [decide_eq_false q];dsimp only;rw [if_neg Bool.false_ne_true]
   refine hc _ _ (h.lt (by exact ar22 h1 hmn)) (h.lt hmn) _ ?_
   refine (?_:_→_) (h.ne hf hmn (show m - 1<n by exact ar22 h1 hmn) (by exact ar138 h1))
   intro hne
   refine (?_:(f ((p[m - 1]?).getD 0)<f ((p[m]?).getD 0))→_) (by simp only [KG] at hne;exact ar21 hne q)
   intro hlt
   rw [decide_eq_true hlt];dsimp only;rw [if_pos rfl]
   exact k m h1 hm hu
theorem kas_tail3_ok {p:Array Nat} (h:PA n p) {m:Nat} (h1:2≤m) (hm:m≤n) (hd:Dn f p m) {Q:Nat×Array Nat→Shared→Prop} (k:∀ m' p',PA n p'→1≤m'→m'≤n→Up f p' m'→Q (m',p') s):(kas_tail3 m n p).kasWp cmp Q s:=by
 unfold kas_tail3
 rw [KasT.kasWp_bind]
 refine (?_:(PA n (kas_rev p 0 m))→_) (h.of (mirror_perm ..))
 intro hr
 refine (?_:(Up f (kas_rev p 0 m) m)→_) (fun i j hij hj=>by
  have e:∀ x,x<m→(kas_rev p 0 m)[x]?=p[m - 1 - x]?:=fun x hx=>by
   unfold kas_rev
   rw [getElem?_mirror_all (by rw [h.sz];exact hm),if_pos (by exact ar186 hx)]
   congr 1;exact ar225
  show f (((kas_rev p 0 m)[i]?).getD 0)<f (((kas_rev p 0 m)[j]?).getD 0)
  rw [e i (by exact ar211 hij hj),e j hj]
  exact hd (m - 1 - j) (m - 1 - i) (by exact ar332 hj hij) (by exact ar183 h1))
 intro hu
 refine kas_asc_ok hf hc hr (n - m) m rfl (by exact ar117 h1) hm hu fun m' a b c g=>?_
 exact k m' _ hr (by exact ar185 h1 a) b c
theorem kas_count_ok {p:Array Nat} (h:PA n p) (h1:1≤n) {Q:Nat×Array Nat→Shared→Prop} (k:∀ m' p',PA n p'→1≤m'→m'≤n→Up f p' m'→Q (m',p') s):(kas_count n p).kasWp cmp Q s:=by
 unfold kas_count
 rw [KasT.kasWp_bind]
 refine kas_asc_ok hf hc h (n - 1) 1 rfl (Nat.le_refl _) h1 (fun i j hij hj=>by exact ar237 hj hij) fun m a b c d=>?_
 by_cases e:m=n
 ·rw [if_pos (by simpa using e)]
  exact k m p h a b c
 ·rw [if_neg (by simpa using e)]
  by_cases e1:m > 1
  ·rw [if_pos e1]
   show cmp _ _ _ s
   rw [KG_D,KG_D]
   refine hc _ _ (h.lt (by exact ar115 h1)) (h.lt (by exact ar298 a b e)) _ ?_
   rw [decide_eq_true (c 0 (m - 1) (by exact ar201 a e1) (by exact ar44 a))];dsimp only;rw [if_pos rfl]
   exact k m p h a b c
  ·rw [if_neg e1]
   obtain rfl:m=1:=by exact ar176 a e1
   refine (?_:_→_) (d (by exact ar175 h1 e))
   intro hd
   unfold kas_descPart
   rw [KasT.kasWp_bind]
   refine kas_desc_ok hf hc h (n - (1+1)) (1+1) rfl (by exact ar104) (by exact ar220 h1 e) (fun i j hij hj=>?_) fun m' a' b' c'=>?_
   ·obtain rfl:i=0:=by exact ar233 hij hj
    obtain rfl:j=1:=by exact ar200 hij hj
    exact hd
   ·rw [if_neg (by simp)]
    exact kas_tail3_ok hf hc h a' b' c' k
theorem kas_place_ok {p:Array Nat} (h:PA n p) {m:Nat} (hm:m<n) (hu:Up f p m) {Q:Nat→Shared→Prop} (k:∀ l,l≤m→(∀ i,i<l→KG f p i<KG f p m)→(∀ i,l≤i→i<m→KG f p m<KG f p i)→Q l s) :
 ∀ (fuel l r:Nat),r - l≤fuel→l≤r→r≤m→(∀ i,i<l→KG f p i<KG f p m)→(∀ i,r≤i→i<m→KG f p m<KG f p i)→(kas_place p m fuel l r).kasWp cmp Q s
  | 0,l,r,hfu,hlr,hr,a,b=>by
   obtain rfl:l=r:=by exact ar235 hlr hfu
   exact k l hr a b
  | fuel+1,l,r,hfu,hlr,hr,a,b=>by
   unfold kas_place
   by_cases e:l ≥ r
   ·rw [if_pos e]
    obtain rfl:l=r:=by exact ar191 hlr e
    exact k l hr a b
   ·rw [if_neg e]
    have h2:(l+r) / 2<r:=by exact ar286 hlr e
    have h3:l≤(l+r) / 2:=by exact ar222 e
    generalize (l+r) / 2=c at h2 h3 ⊢
    show cmp _ _ _ s
    rw [KG_D,KG_D]
    refine hc _ _ (h.lt hm) (h.lt (by exact ar81 h2 hr hm)) _ ?_
    by_cases q:f ((p[m]?).getD 0)<f ((p[c]?).getD 0)
    ·rw [decide_eq_true q];dsimp only;rw [if_pos rfl]
     refine kas_place_ok h hm hu k fuel l c (by exact ar316 h2 hfu) h3 (by exact ar60 h2 hr) a fun i hi him=>?_
     by_cases e2:i=c
     ·subst e2;exact q
     ·exact Nat.lt_trans q (hu c i (by exact ar199 hi e2) him)
    ·rw [decide_eq_false q];dsimp only;rw [if_neg Bool.false_ne_true]
     refine (?_:_→_) (h.ne hf hm (show c<n by exact ar81 h2 hr hm) (by exact ar215 h2 hr))
     intro hne
     refine (?_:(KG f p c<KG f p m)→_) (by simp only [KG] at hne ⊢;exact ar21 hne q)
     intro hlt
     refine kas_place_ok h hm hu k fuel (c+1) r (by exact ar394 hfu h3 e) (by exact ar155 h2) hr (fun i hi=>?_) b
     by_cases e2:i=c
     ·subst e2;exact hlt
     ·exact Nat.lt_trans (hu i c (by exact ar24 hi e2) (by exact ar213 h2 hr)) hlt
theorem kas_bin_ok {Q:Array Nat→Shared→Prop} (k:∀ p,PA n p→Up f p n→Q p s):∀ (fuel:Nat) (p:Array Nat) (m:Nat),PA n p→fuel=n - m→m≤n→Up f p m→(kas_bin fuel p m).kasWp cmp Q s
 | 0,p,m,h,hfu,hm,hu=>by
  obtain rfl:m=n:=by exact ar229 hfu hm
  exact k p h hu
 | fuel+1,p,m,h,hfu,hm,hu=>by
  have hmn:m<n:=by exact ar27 hm hfu
  unfold kas_bin
  rw [KasT.kasWp_bind]
  refine kas_place_ok hf hc h hmn hu (fun l hl a b=>?_) m 0 m (by exact ar112) (Nat.zero_le _) (Nat.le_refl _) (fun i hi=>by exact ar141 hi) fun i hi him=>by exact ar238 him hi
  refine kas_bin_ok k fuel _ (m+1) (h.of (bubble_perm ..)) (by exact ar29 hfu hmn hm) (by exact ar23 hmn hm) fun i j hij hj=>?_
  have e:∀ x,(bubble p m (m - l))[x]?=if x=l then p[m]? else if l<x∧x≤m then p[x - 1]? else p[x]?:=fun x=>by
   rw [getElem?_bubble (by rw [h.sz];exact hmn) (m - l) (by exact ar297 hj hij),show m - (m - l)=l from by exact ar209 hl]
  show f (((bubble p m (m - l))[i]?).getD 0)<f (((bubble p m (m - l))[j]?).getD 0)
  rw [e i,e j]
  by_cases c1:i=l
  ·rw [if_pos c1,if_neg (by exact ar224 hij c1),if_pos (by exact ar361 hj hij c1)]
   exact b (j - 1) (by exact ar248 hij c1) (by exact ar345 hj hij c1)
  ·rw [if_neg c1]
   by_cases c2:l<i∧i≤m
   ·rw [if_pos c2,if_neg (by exact ar299 c2 hij),if_pos (by exact ar396 c2 hj hij)]
    exact hu (i - 1) (j - 1) (by exact ar347 hij c2) (by exact ar346 hj c2)
   ·rw [if_neg c2]
    by_cases c3:j=l
    ·rw [if_pos c3]
     exact a i (by exact ar287 hij c3 c1)
    ·rw [if_neg c3]
     by_cases c4:l<j∧j≤m
     ·rw [if_pos c4]
      by_cases c5:i=j - 1
      ·exact ar442 hij hj c1 c2 c4 c5
      ·exact hu i (j - 1) (by exact ar385 hij c4 c5) (by exact ar331 hj c4)
     ·rw [if_neg c4]
      exact hu i j hij (by exact ar400 hj hl c4 c3)
theorem kas_sort_ok (h1:1≤n) {Q:Array Nat→Shared→Prop} (k:∀ p,PA n p→Up f p n→Q p s):(kas_sort n).kasWp cmp Q s:=by
 unfold kas_sort
 rw [KasT.kasWp_bind]
 refine kas_count_ok hf hc (p:=List.toArray (List.range n)) ⟨by simp,by simp⟩ h1 fun m p hp a b c=>?_
 by_cases e:m<n
 ·rw [if_pos e,show max m 1=m from by exact ar143 a]
  exact kas_bin_ok hf hc k (n - m) p m hp rfl b c
 ·rw [if_neg e]
  obtain rfl:m=n:=by exact ar59 b e
  exact k p hp c
end
inductive PrL (z:Z):List AV→List (Nat×Nat)→Prop where
 | nil:PrL z [] []
 | cons {q r k vs ks}:Fz z q (TupO [.i (r:Nat),.s (nm k)])→k<8→PrL z vs ks→PrL z (.v (.ref q)::vs) ((r,k)::ks)
theorem PrL.mono {z z':Z} (hz:Sub z z') {vs ks} (h:PrL z vs ks):PrL z' vs ks:=by
 induction h with
 | nil=>exact .nil
 | cons h k r ih=>exact .cons (h.mono hz) k ih
theorem PrL.len {z:Z}:∀ {vs ks},PrL z vs ks→vs.length=ks.length
 | _,_,.nil=>rfl
 | _,_,.cons _ _ r=>by simp [r.len]
theorem PrL.snoc {z:Z} {q:Addr} {r k:Nat} (h:Fz z q (TupO [.i (r:Nat),.s (nm k)])) (hk:k<8):∀ {vs ks},PrL z vs ks→PrL z (vs++[.v (.ref q)]) (ks++[(r,k)])
 | _,_,.nil=>.cons h hk .nil
 | _,_,.cons a b c=>.cons a b (c.snoc h hk)
theorem PrL.at {z:Z}:∀ {vs ks},PrL z vs ks→∀ {i:Nat},i<ks.length→∃ q,vs[i]?=some (.v (.ref q))∧Fz z q (TupO [.i ((ks.getD i (0,0)).1:Nat),.s (nm (ks.getD i (0,0)).2)])∧(ks.getD i (0,0)).2<8:=by
 intro vs ks h
 induction h with
 | nil=>exact fun h=>nomatch h
 | cons h k r ih=>
  intro i hi
  cases i with
  | zero=>exact ⟨_,rfl,h,k⟩
  | succ i=>exact ih (Nat.lt_of_succ_lt_succ hi)
theorem PrL.pick {z:Z} {vs:List AV} {ks:List (Nat×Nat)} (h:PrL z vs ks):∀ (l:List Nat),(∀ i∈l,i<ks.length)→PrL z (l.map fun i=>vs.getD i (.i 0)) (l.map fun i=>ks.getD i (0,0))
 | [],_=>.nil
 | i::l,hl=>by
  obtain ⟨q,h1⟩:=h.at (hl i (.head _))
  refine (?_:_→_→_→_) h1.1 h1.2.1 h1.2.2
  intro h1 h2 h3
  refine (?_:(vs.getD i (.i 0)=.v (.ref q))→_) (by rw [List.getD_eq_getElem?_getD,h1];rfl)
  intro e
  rw [List.map_cons,List.map_cons,e]
  exact .cons h2 h3 (h.pick l fun j hj=>hl j (.tail _ hj))
noncomputable abbrev pkey (p:Nat×Nat):Nat:=p.1 * 8+p.2
theorem map_range_getD {α:Type} (d:α):∀ l:List α,(List.range l.length).map (fun i=>l.getD i d)=l
 | []=>rfl
 | a::l=>by
  rw [List.length_cons,List.range_succ_eq_map,List.map_cons,List.map_map]
  refine (?_:_→_) (map_range_getD d l)
  intro this
  congr 1
section
variable {w:World} {A:Around} {E:VP} {s:Shared} {ρ:Rest} {z:Z} {Δ:Ds} {F:Addr×OP} {L:Addr} {m:Loc}
theorem sorted_short {l:Addr} {vs:List Value} {Q:VP} (hl:s.heap.IsList l vs.toArray) (hs:vs.length≤1)
 (h:Q (.ref (s.heap.objs.size+1)) { s with heap:=sortedAll s.heap vs vs.toArray }):wpAny (model PG w) A (call (.builtin "sorted") [.ref l]) Q E s:=by
  refine Calls.call_function_entry kind_sorted plain_sorted entry_sorted (args_sorted1 _) ?_
  unfold Builtin.«sorted»
  refine wpAny_bind (m:=checkCount "sorted" 1 1 _) (wpAny_pure ?_)
  refine wpAny_bind (collect_list hl ?_ (by rw [sizeLine_eq];exact ar19 hs))
  refine wpAny_bind (wpAny_newList ?_ (by rw [sizeLine_eq];exact ar19 hs))
  have hsz:((s.heap.push (seqObj "list" #[] 0)).update s.heap.objs.size (Obj.mapSeq (·++vs.toArray))).objs.size=s.heap.objs.size+1:=by
   rw [Heap.size_update,size_push']
  have hoL:(((s.heap.push (seqObj "list" #[] 0)).update s.heap.objs.size (Obj.mapSeq (·++vs.toArray))).push (seqObj "list" vs.toArray 0)).get? (s.heap.objs.size+1)=some (seqObj "list" vs.toArray 0):=by
   rw [← hsz];exact Heap.get?_push_size _ rfl
  show wpAny _ _ _ _ _ { s with heap:=((s.heap.push (seqObj "list" #[] 0)).update s.heap.objs.size (Obj.mapSeq (·++vs.toArray))).push (seqObj "list" vs.toArray 0) }
  rw [hsz]
  refine wpAny_bind (wpAny_holding (wpAny_call_entry slot_list_sort ⟨_,hoL,rfl⟩ entry_list_sort ?body (args_list_sort _)))
  generalize hH:((s.heap.push (seqObj "list" #[] 0)).update s.heap.objs.size (Obj.mapSeq (·++vs.toArray))).push (seqObj "list" vs.toArray 0)=H at *
  generalize hD:s.heap.objs.size+1=D at *
  refine (?_:(sortedAll s.heap vs vs.toArray=sortedHeap H D vs vs.toArray)→_) (by rw [← hH,← hD];rfl)
  intro hout
  rw [hout] at h
  rw [list_sort_plain]
  refine wpAny_bind (listItems_at hoL rfl ?_)
  refine wpAny_bind (listUpdate_at hoL rfl ?_)
  obtain ⟨e1,ho1⟩:∃ e1,(H.update D (Obj.mapSeq fun g=>#[])).get? D=some (seqObj "list" #[] e1):=⟨_,get?_update_seq hoL (fun g=>#[])⟩
  refine (?_:(D<H.objs.size)→_) (Heap.lt_size hoL)
  intro hlt
  refine wpAny_bind (seqEpoch_at ho1 rfl ?_)
  refine wpAny_bind (wpAny_newTuple ?_ (by rw [sizeLine_eq];simp;exact ar19 hs))
  refine wpAny_bind (wpAny_newList ?_ (by rw [sizeLine_eq];simp))
  refine wpAny_holding ?_
  refine (?_:((((H.update D (Obj.mapSeq fun g=>#[])).push (seqObj "tuple" vs.toArray 0)).push (seqObj "list" #[] 0)).get? D=some (seqObj "list" #[] e1))→_) (by
   rw [Heap.get?_push_ne _ _ _ (by rw [size_push',Heap.size_update];exact Nat.ne_of_lt (Nat.lt_succ_of_lt hlt)),Heap.get?_push_ne _ _ _ (by rw [Heap.size_update];exact Nat.ne_of_lt hlt)]
   exact ho1)
  intro ho6
  show wpAny (model PG w) _ _ _ _ { s with heap:=((H.update D (Obj.mapSeq fun g=>#[])).push (seqObj "tuple" vs.toArray 0)).push (seqObj "list" #[] 0) }
  dsimp only
  refine (?_:(vs.toArray.size<2)→_) (by simp;exact ar121 hs)
  intro h2
  rw [if_pos h2,if_pos h2]
  refine wpAny_bind (wpAny_pure ?_)
  rw [StateT.run_pure]
  refine wpAny_bind (wpAny_pure ?_)
  dsimp only
  refine wpAny_bind (seqEpoch_at ho6 rfl ?_)
  refine (?_:((arrOf (SortSt.mk' general' (vs.toArray.zip vs.toArray) #[] 7 none)).map (·.2)=vs.toArray)→_) (by
   show (vs.toArray.zip vs.toArray).map (·.2)=vs.toArray
   obtain _ | ⟨v,_ | _⟩:=vs
   ·simp
   ·simp
   ·simp at hs)
  intro hmap
  rw [hmap]
  refine wpAny_bind (listUpdate_at ho6 rfl ?_ (hsz2:=by rw [sizeLine_eq];simp;exact ar162 hs))
  simp only [bne_self_eq_false,Bool.false_eq_true,if_false]
  refine wpAny_pure ⟨_,rfl,?_⟩
  exact wpAny_pure ⟨_,rfl,h⟩
theorem PrL.refs {z:Z}:∀ {vs ks},PrL z vs ks→∀ {xs:List Value},ARel vs xs→∀ i,i<ks.length→vs.getD i (.i 0)=.v (xs.getD i Value.none):=by
 intro vs ks h
 induction h with
 | nil=>exact fun g i h=>nomatch h
 | cons h k r ih=>
  intro xs hx i hi
  obtain _ | ⟨a,b⟩:=hx
  cases i with
  | zero=>exact congrArg AV.v a.symm
  | succ i=>exact ih b i (Nat.lt_of_succ_lt_succ hi)
theorem PrL.pickA {z:Z} {vs ks} (hp:PrL z vs ks) {xs:List Value} (h:ARel vs xs):∀ (l:List Nat),(∀ i∈l,i<ks.length)→ARel (l.map fun i=>vs.getD i (.i 0)) (l.map fun i=>xs.getD i Value.none)
 | [],_=>.nil
 | i::l,hl=>by
  rw [List.map_cons,List.map_cons,hp.refs h i (hl i (.head _))]
  exact .cons rfl (hp.pickA h l fun j hj=>hl j (.tail _ hj))
theorem PrL.tups {z:Z} (S:St w ρ z Δ s):∀ {vs ks},PrL z vs ks→∀ {xs:List Value},ARel vs xs→∃ fs,KatTups s.heap xs fs∧fs.length=ks.length∧∀ v∈fs,∃ (n:Int) (t:Tok),v=.int n t:=by
 intro vs ks h
 induction h with
 | nil=>
  intro xs hx
  obtain _ | _:=hx
  exact ⟨[],trivial,rfl,fun v h=>nomatch h⟩
 | cons h k r ih=>
  intro xs hx
  obtain _ | ⟨a,b⟩:=hx
  obtain ⟨fs,h1⟩:=ih b
  refine (?_:_→_→_→_) h1.1 h1.2.1 h1.2.2
  intro h1 h2 h3
  cases a
  obtain ⟨o,e,items,n,rfl,q⟩:=S.fz h
  obtain ⟨x,hx,t,rfl⟩:=ARel.getA q (i:=0) rfl
  exact ⟨_::fs,KatTups.cons e rfl rfl hx h1,congrArg Nat.succ h2,fun v hv=>(List.mem_cons.mp hv).elim (fun e=>⟨_,_,e⟩) (h3 v)⟩
theorem pk_lt {z:Z} {R:Bool→Shared→Prop} {ha hb:Addr} {r1 k1 r2 k2:Nat} (S:St w ρ z Δ s) (f1:Fz z ha (TupO [.i (r1:Nat),.s (nm k1)])) (f2:Fz z hb (TupO [.i (r2:Nat),.s (nm k2)])) (l1:k1<8) (l2:k2<8)
 (h:R (decide (r1 * 8+k1<r2 * 8+k2)) s):wpAny (model PG w) A (keyLt' (tuples' true) (.ref ha) (.ref hb)) R E s:=by
  obtain ⟨o,e,items,n,rfl,q⟩:=S.fz f1
  obtain ⟨o2,e2,items2,n2,rfl,q2⟩:=S.fz f2
  obtain ⟨its,rfl⟩:∃ l,items=List.toArray l:=⟨items.toList,by simp⟩
  obtain ⟨its2,rfl⟩:∃ l,items2=List.toArray l:=⟨items2.toList,by simp⟩
  obtain _ | ⟨⟨t1,rfl⟩,_ | ⟨⟨t2,rfl⟩,_ | _⟩⟩:=q
  obtain _ | ⟨⟨u1,rfl⟩,_ | ⟨⟨u2,rfl⟩,_ | _⟩⟩:=q2
  refine kat_lt e rfl e2 rfl ?_
  refine kat_cons ?_
  refine EqAt.int_int (r1:Int) t1 (r2:Int) u1 PG w _ _ ?_
  by_cases c:(r1:Int)=(r2:Int)
  ·rw [show ((r1:Int) == (r2:Int))=true from by simpa using c]
   refine kat_yes (kat_cons (EqAt.str_str (nm k1) t2 (nm k2) u2 PG w _ _ ?_))
   rw [nm_beq]
   by_cases d:k1=k2
   ·rw [decide_eq_true d]
    refine kat_yes (kat_nil ?_)
    refine (?_:(decide (r1 * 8+k1<r2 * 8+k2)=false)→_) (decide_eq_false (by exact ar93 c d))
    intro hh
    rw [hh] at h
    simpa using h
   ·rw [decide_eq_false d]
    refine kat_no ?_
    refine kat_one _ _ ?_
    refine PyProof.Rows.lt_str (x:=nm k1) (y:=nm k2) ?_
    rw [nm_lt]
    rw [show decide (k1<k2)=decide (r1 * 8+k1<r2 * 8+k2) from decide_eq_decide.mpr (by exact ar422 c d)]
    exact h
  ·rw [show ((r1:Int) == (r2:Int))=false from by simpa using c]
   refine kat_no ?_
   refine oneLt_int ?_
   rw [show decide ((r1:Int)<(r2:Int))=decide (r1 * 8+k1<r2 * 8+k2) from decide_eq_decide.mpr (by exact ar445 l1 l2 c)]
   exact h
theorem b_sorted_p {l:Addr} {vs:List AV} {ks:List (Nat×Nat)} {Q:VP} (S:St w ρ z ((L,FrO m)::Δ) s) (hne:Δ≠[]) (h:Has s l (ListO vs)) (hp:PrL z vs ks) (hn:(ks.map pkey).Nodup) (hz:ks.length<64)
 (k:∀ q vs' ks' s',PrL z vs' ks'→ks'.Perm ks→ks'.Pairwise (fun a b=>pkey a<pkey b)→St w ρ z ((L,FrO m)::(q,ListO vs')::Δ) s'→Q (.ref q) s'):wpAny (model PG w) A (call (.builtin "sorted") [.ref l]) Q E s:=by
  refine (let Gl:Prop:=_;(?_:Gl))
  obtain ⟨items,hl,r⟩:=ListO.isL h
  obtain ⟨xs,rfl⟩:∃ l,items=List.toArray l:=⟨items.toList,by simp⟩
  refine (?_:(ARel vs xs)→_) (by simpa using r)
  intro r
  have hlen:xs.length=ks.length:=r.length.trans hp.len
  by_cases h1:ks.length≤1
  ·refine sorted_short hl (by exact ar188 hlen h1) ?_
   obtain ⟨e,he⟩:=sortedAll_at s.heap xs xs.toArray
   refine k _ vs ks _ hp (.refl _) ?_ (S.grow1 (t:=s.toks) (fun g g=>sortedAll_old) (Nat.le_succ _) he ⟨_,_,rfl,by simpa using r⟩)
   match ks,h1 with
   | [],_=>exact .nil
   | [a],_=>exact List.pairwise_singleton ..
  ·obtain ⟨f,F⟩:=S.kn1 hne
   refine (?_:_→_→_→_) F.1 F.2.1 F.2.2
   intro F N back
   refine kat_sorted F N hl (by exact ar196 hlen h1) (by exact ar208 hlen hz) fun D e1 h' F1 N1 hlt=>?_
   have S1:St w ρ z ((L,FrO m)::(D,fun g=>True)::Δ) { s with heap:=h' }:=back h' D _ (fun g=>True) s.toks F1 N1 hlt trivial
   refine (let Gl:Prop:=_;(?_:Gl))
   obtain ⟨fs,t1⟩:=hp.tups S1 r
   refine (?_:_→_→_→_) t1.1 t1.2.1 t1.2.2
   intro t1 t2 t3
   refine kat_kind (T:=.type "int") t1 (by exact ar194 t2 h1) (fun v hv=>?_) (by rfl) ?_
   ·obtain ⟨n,t,rfl⟩:=t3 v hv
    exact .now
   rw [show (Value.type "int" != Value.type "tuple")=true from by decide]
   refine (?_:(∀ i,i<ks.length→pkey (ks.getD i (0,0))=(ks.map pkey).getD i 0)→_) (fun i hi=>by
    simp [List.getD_eq_getElem?_getD,hi])
   intro hg
   refine kas_sort_ok (n:=xs.length) (f:=fun i=>pkey (ks.getD i (0,0))) (fun i j hi hj e=>?_) (fun i j hi hj R hR=>?_) (by exact ar195 hlen h1) fun p hpA hup=>?_
   ·rw [hlen] at hi hj
    rw [hg i hi,hg j hj] at e
    simp only [List.getD_eq_getElem?_getD] at e
    rw [List.getElem?_eq_getElem (by simpa using hi),List.getElem?_eq_getElem (by simpa using hj)] at e
    exact (List.getElem_inj hn (h₀:=by simpa using hi) (h₁:=by simpa using hj)).mp (by simpa [List.getElem_map] using e)
   ·rw [hlen] at hi hj
    refine (let Gl:Prop:=_;(?_:Gl))
    obtain ⟨q1,a1⟩:=hp.at hi
    refine (?_:_→_→_→_) a1.1 a1.2.1 a1.2.2
    intro a1 a2 a3
    obtain ⟨q2,b1⟩:=hp.at hj
    refine (?_:_→_→_→_) b1.1 b1.2.1 b1.2.2
    intro b1 b2 b3
    obtain ⟨x1,c1,c2⟩:=r.get a1
    obtain ⟨x2,d1,d2⟩:=r.get b1
    cases c2;cases d2
    show wpAny (model PG w) _ (keyLt' _ (xs.getD i Value.none) (xs.getD j Value.none)) R _ _
    rw [List.getD_eq_getElem?_getD,List.getD_eq_getElem?_getD,c1,d1]
    exact pk_lt S1 a2 b2 a3 b3 hR
   ·refine (?_:(∀ i∈p.toList,i<ks.length)→_) (fun i hi=>by
     refine (?_:_→_) (List.mem_range.mp (hpA.pm.mem_iff.mp hi))
     intro this
     exact ar212 this hlen)
    intro hlt'
    refine KasFin.intro F1 N1 (UpdF.head fun p hp=>Nat.ne_of_lt (hlt p hp)) fun h2 c F2 N2=>?_
    refine k D (p.toList.map fun i=>vs.getD i (.i 0)) (p.toList.map fun i=>ks.getD i (0,0)) _ (hp.pick _ hlt') ?_ ?_ (back h2 D _ (ListO _) s.toks F2 N2 hlt ⟨_,_,rfl,by simpa using hp.pickA r _ hlt'⟩)
    ·refine (?_:_→_) (hpA.pm.map (fun i=>ks.getD i (0,0)))
     intro this
     rwa [hlen,map_range_getD] at this
    ·rw [List.pairwise_map,List.pairwise_iff_getElem]
     intro i j hi hj hij
     refine (?_:_→_) (hup i j hij (by rw [← hpA.sz];simpa using hj))
     intro this
     simp only [KG] at this
     rw [getElem?_pos p i (by simpa using hi),getElem?_pos p j (by simpa using hj)] at this
     simpa using this
end
noncomputable def RgO (r:List Nat):OP:=fun o=>∃ x n:Nat,o={ cls:=.type "range_iterator",dict:=none,data:=.fields #[rawInt x,rawInt n,rawInt 1],slots:=#[] }∧r=(List.range n).map (x+·)
theorem rg_cons {x n a:Nat} {r:List Nat} (h:a::r=(List.range n).map (x+·)):0<n∧a=x∧r=(List.range (n - 1)).map (x+1+·):=by
 cases n with
 | zero=>simp at h
 | succ n=>
  rw [List.range_succ_eq_map,List.map_cons,List.map_map] at h
  simp only [List.cons.injEq] at h
  refine ⟨by exact ar108,by exact ar282 h,h.2.trans ?_⟩
  rw [Nat.add_sub_cancel]
  refine List.map_congr_left fun i c=>?_
  show x+(i+1)=x+1+i
  lia
section
variable {w:World} {ρ:Rest} {z:Z} {env:Env} {A:Around} {E:VP} {s:Shared} {Δ X:Ds} {L:Addr} {m:Loc} {F:Addr×OP}
theorem Nx.range {it:Addr}:Nx w ρ z (.ref it) (fun (k:Nat) v=>∃ t,v=.int (k:Nat) t) (fun r=>[(it,RgO r)]) [] where
 next:=fun {A E s z' Δ F a r Q} hz R S h=>by
  obtain ⟨o,e,x,n,rfl,hr⟩:=S.midAt
  obtain ⟨h1,rfl,h3⟩:=rg_cons hr
  refine wpAny_pyNext_range_item (x:=(a:Int)) (left:=(n:Int)) (step:=1) e (by exact ar51 h1) fun h' hit hs=>h _ _ ⟨_,rfl⟩ (St.mid S hs ⟨_,hit,a+1,n - 1,?_,h3⟩)
  rw [show ((a:Int)+1)=((a+1:Nat):Int) from by exact ar26,show ((n:Int) - 1)=((n - 1:Nat):Int) from by exact ar325 h1]
 stop:=fun {A E s z' Δ F Q} hz R S h=>by
  obtain ⟨o,e,x,n,rfl,hr⟩:=S.midAt
  refine (?_:(n=0)→_) (by
   refine (?_:_→_) (congrArg List.length hr)
   intro this
   simpa using this.symm)
  intro hn
  refine wpAny_pyNext_range_end (x:=(x:Int)) (left:=(n:Int)) (step:=1) R.hd e (by exact ar178 hn) fun h' hs=>?_
  refine (?_:_→_) (St.midGo (t:=s.toks) S hs)
  intro this
  exact h _ this
 self:=fun {A E s z' Δ F r Q} hz S h=>by
  obtain ⟨o,e,x,n,rfl,hr⟩:=S.midAt
  exact wpAny_pyIter_rangeiter e h
 go:=fun {A E s z' Δ F r t v Q} hz S h=>by
  obtain ⟨o,e,x,n,rfl,hr⟩:=S.midAt
  exact go_of e rfl (by decide) h
theorem it_range {r:Addr} {n:Nat} {Q:VP} (S:St w ρ z (F::Δ) s) (h:Has s r (RangeO 0 n)) (hn:n≤1000)
 (k:∀ it s',Nx w ρ z (.ref it) (fun (k:Nat) v=>∃ t,v=.int (k:Nat) t) (fun r=>[(it,RgO r)]) []→St w ρ z (F::(Δ++[(it,RgO (List.range n))])) s'→Q (.ref it) s'):wpAny (model PG w) A (pyIter (.ref r)) Q E s:=by
  obtain ⟨o,e,t,u,v,rfl⟩:=h
  refine (?_:(Builtin.Range.rangeSize 0 (n:Int) 1=n)→_) (by unfold Builtin.Range.rangeSize;simp;exact ar20)
  intro hs
  refine (?_:(∀ m:Int,0≤m→m≤1000→Builtin.Range.rangeFitsLong m=true)→_) (fun m h1 h2=>by
   unfold Builtin.Range.rangeFitsLong
   rw [Bool.and_eq_true,decide_eq_true_eq,decide_eq_true_eq]
   constructor <;> lia)
  intro hf
  refine wpAny_pyIter_range e ?_ (k _ _ Nx.range ?_)
  ·unfold Builtin.Range.small
   simp [hs,hf 0 (by lia) (by lia),hf 1 (by lia) (by lia),hf n (by exact ar37) (by exact ar67 hn)]
  ·refine (S.push1 (t:=s.toks) (P:=RgO (List.range n)) rfl ⟨0,n,?_,by simp⟩).perm ?_
   ·rw [hs];rfl
   ·exact List.Perm.cons _ List.perm_append_comm
theorem Its.rg {it:Value} {env:Env} {x:Str} {pos:Pos} {J:List Nat→Ds} (N:Nx w ρ z it (fun (k:Nat) v=>∃ t,v=.int (k:Nat) t) J X) (hl:env.kindOf x=some .local) (hk:env.scope.kind=.function):Its w ρ z it env (.Name x pos) (fun k m=>setl m x (.i (k:Nat))) J X:=
 Its.of N (Asg.name (fun k=>.i (k:Nat)) (fun c c h=>h) hl hk)
noncomputable def rowRel (z:Z):Row→Value→Prop:=fun r v=>∃ q,v=.ref q∧Fz z q (TupO (rowAV r))
theorem RowL.pr {z:Z}:∀ {vs rs},RowL z vs rs→∀ {arr},ARel vs arr→PR (rowRel z) rs arr:=by
 intro vs rs h
 induction h with
 | nil=>intro arr ha;obtain _ | _:=ha;exact .nil
 | cons h r ih=>intro arr ha;obtain _ | ⟨a,b⟩:=ha;exact .cons ⟨_,a,h⟩ (ih b)
noncomputable def nsOf:List PySem.Expr→List (Str×Pos)
 | .Name x p::r=>(x,p)::nsOf r
 | _=>[]
theorem Its.row {it:Value} {elts:List PySem.Expr} {x1} {pos:Pos} {J:List Row→Ds} (N:Nx w ρ z it (rowRel z) J X) (hel:(assignEach elts env).map (·.2)=(nsOf elts).map fun p=>assign (.Name p.1 p.2) env)
 (hst:(assignEach elts env).findIdx? (·.1)=none) (hn:(nsOf elts).map (·.1)=[("name":Str),"begin","end","worker"]) (hl:((nsOf elts).map fun p=>env.kindOf p.1)=(nsOf elts).map fun c=>some NameKind.local) (hk:env.scope.kind=.function) :
 Its w ρ z it env (.Tuple elts x1 pos) (fun r m=>setl (setl (setl (setl m "name" (.s (nm r.n))) "begin" (.i (r.b:Nat))) "end" (.i (r.e:Nat))) "worker" (.i (r.w:Nat))) J X:=by
  refine (?_:_→_) (Its.of (env:=env) N (Asg.tup (x1:=x1) (pos:=pos) rowAV hel hst (fun a=>by have:=congrArg List.length hn;simpa using this) (fun p hp=>by simpa using List.map_inj_left.mp hl p hp) hk))
  intro this
  rw [hn] at this
  exact this
end
section
variable {w:World} {A:Around} {ρ:Rest} {z:Z} {Δ:Ds}
theorem iAVs_nat (l:List Nat):(l.map fun k:Nat=>AV.i (k:Nat))=iAVs (l.map fun k:Nat=>(k:Int)):=by simp [iAVs]
noncomputable def pRel (z:Z):Nat×Nat→Value→Prop:=fun p v=>∃ q,v=.ref q∧Fz z q (TupO [.i (p.1:Nat),.s (nm p.2)])∧p.2<8
theorem PrL.pr {z:Z}:∀ {vs ks},PrL z vs ks→∀ {arr},ARel vs arr→PR (pRel z) ks arr
 | _,_,.nil,_,.nil=>.nil
 | _,_,.cons h k r,_,.cons a b=>by
  cases a
  exact .cons ⟨_,rfl,h,k⟩ (r.pr b)
theorem PrL.lt8 {z:Z} {vs ks} (h:PrL z vs ks):∀ p∈ks,p.2<8:=by
 induction h with
 | nil=>exact fun o h=>nomatch h
 | cons h k r ih=>exact fun p hp=>(List.mem_cons.mp hp).elim (fun e=>e▸k) (ih p)
noncomputable def iRel:Nat→Value→Prop:=fun k v=>∃ t,v=.int (k:Nat) t
theorem iAVs_pr {l:List Nat} {xs:List Value} (h:ARel (l.map fun k:Nat=>AV.i (k:Nat)) xs):PR iRel l xs:=ARel.prOf (g:=fun k:Nat=>AV.i (k:Nat)) (fun o o h=>h) h
section
variable {C:Cx} {m:Loc}
theorem lf_sortp {l:Addr} {vs:List AV} {ks:List (Nat×Nat)} {p:Addr×OP} {K:AV→SP} (h:OF z (p::Δ) l (ListO vs)) (hp:PrL z vs ks) (hn:(ks.map pkey).Nodup) (hz:ks.length<64)
 (k:∀ q vs' ks',PrL z vs' ks'→ks'.Perm ks→ks'.Pairwise (fun a b=>pkey a<pkey b)→K (.v (.ref q)) z m ((q,ListO vs')::p::Δ)):LC C (.v (.builtin "sorted")) [.v (.ref l)] z m (p::Δ) K:=
  lc1 (fun E s Q S q=>b_sorted_p S (List.cons_ne_nil _ _) (h.has S) hp hn hz fun r vs' ks' s' h1 h2 h3 S'=>q _ _ _ _ _ _ is_v (k r vs' ks' h1 h2 h3) S')
theorem lf_nini {l:Addr} {x:Nat} {xs:List Nat} {K:AV→SP} (n:Nat) (R:Room C.A (n+1)) (h:OF z Δ l (ListO (xs.map fun k:Nat=>AV.i (k:Nat)))) (k:K (.v (.bool (!decide (x∈xs)))) z m Δ):L2 C AV.is (compareOp .NotIn) (.i (x:Nat)) (.v (.ref l)) z m Δ K:=
 ⟨fun u y hu hy=>by
  cases hy
  refine fun E s Q S kk=>notini (xs:=xs.map fun k:Nat=>(k:Int)) S R ?_ hu ?_
  ·rw [← iAVs_nat];exact h.has S
  ·rw [show decide ((x:Int)∈xs.map fun k:Nat=>(k:Int))=decide (x∈xs) from decide_eq_decide.mpr ⟨fun h=>by obtain ⟨b,h1,h2⟩:=List.mem_map.mp h;rw [show x=b from by exact ar274 h2];exact h1,fun h=>List.mem_map.mpr ⟨_,h,rfl⟩⟩]
   exact kk _ _ _ _ _ _ is_v k S⟩
theorem src_rg {r:Addr} {n:Nat} {H:Value→(List Nat→Ds)→Prop} (hn:n≤1000) (h:OF z Δ r (RangeO 0 n)) (hN:∀ it J,Nx C.w C.ρ z it (fun (k:Nat) v=>∃ t,v=.int (k:Nat) t) J []→H it J):Src C (.v (.ref r)) z Δ Δ H (List.range n):=by
 intro E s Q m v hv S k
 cases hv
 exact it_range S (h.has S) hn fun it s' N S'=>k _ _ s' (hN _ _ N) S'
end
structure LSt where
 pl:List Row
 t:Nat
 n:Nat
 vs:List AV
 z:Z
 a3:Option AV
 a4:Option AV
 a5:Option AV
structure LIn (I:Nat→List Row→Nat→Prop) (z:Z) (x:LSt):Prop where
 i:I x.n x.pl x.t
 s:Sub z x.z
 v:RowL x.z x.vs x.pl
theorem by_lists_T {J:Jobs} (hJ:JOk J) {a:Addr} {W:Nat} {K:AV→Z→Ds→Prop} (hj:JobsAt w z J a) (hW:W≤7) (R:Room A 6)
 (I:Nat→List Row→Nat→Prop) (n0:Nat) (h0:I n0 [] 0)
 (hI:∀ n pl t,I n pl t→pl.length≤20∧(∀ r∈pl,r.n<7)∧(stepL J W t pl).length≤20∧((¬ ∀ r∈stepL J W t pl,r.e≤t)→∃ m,m<n∧I m (stepL J W t pl) (t+1)))
 (k:∀ q z' n pl t vs,Sub z z'→I n pl t→(∀ r∈stepL J W t pl,r.e≤t)→RowL z' vs (stepL J W t pl)→K (.v (.ref q)) z' ((q,ListO vs)::Δ)):CF w ρ A 196 [.v (.ref a),.i (.ofNat W)] z Δ K:=by
  refine lf_defC (by assumption) ?_ (by k_is) (by k_is) (by first | exact args1 fun o=>rfl | exact args2 fun o o=>rfl | exact args3 fun o o o=>rfl | exact args4 fun o o o o=>rfl) (by decide) (by decide) (by decide) (by decide) (by rfl) (by rfl) (by rfl)
  intro L A' R C O
  refine lf_tas O rfl rfl ?_
  refine fun lp=>?_
  refine lf_stc O 4 rfl ?_
  refine lf_while (σ:=LSt) (·.z) (fun o=>[("workers",.i (.ofNat W)),("plan",.v (.ref lp))]) (fun x=>(lp,ListO x.vs)::(L+1+1+1+1+1,CellO x.a5)::(L+1+1+1+1,CellO x.a4)::(L+1+1+1,CellO x.a3)::(L+1+1,CellO (some (.i (.ofNat x.t))))::(L+1,CellO (some (.v (.ref a))))::Δ)
   (LIn I z) (·.n) O ⟨[],0,n0,[],z,none,none,none⟩ ⟨h0,Sub.refl _,.nil⟩ ?turn [] rfl rfl wkr
  intro zf mf Δf Iv μ Kw x h Kb V
  refine it_t rfl ?_
  refine (let Gl:Prop:=_;(?_:Gl))
  obtain ⟨hpl,hpn,hst,hgo⟩:=hI x.n x.pl x.t h.i
  refine lf_asgc O (lf_comp O (lf_lkF (ns:=["name","begin","end","worker"]) (f:=rowAV) O (src_lO 0 rfl (fun o q=>h.v.pr q) fun o o N Cc=>Its.row N rfl rfl rfl rfl rfl) (fun r:Row=>decide (r.e≤x.t)) (fun r=>.s (nm r.n)) (F:=fun d=>nAVs (doneL x.t d)) (F_film _ Row.n fun k=>.s (nm k)) (Nat.le_trans hpl (by decide)) ?c1 ?f1 .rot))
  case c1=>
   intro d r rr Cc D J hd Kt Ks hk hs C2 O2
   refine lf_ldc O2 5 rfl (lf_le ?_)
   by_cases hc:r.e≤x.t
   ·exact it_t (decide_eq_true (Int.ofNat_le.mpr hc)) (hk (decide_eq_true hc) _ _ wkr)
   ·exact it_f (decide_eq_false fun q=>hc (Int.ofNat_le.mp q)) (hs (decide_eq_false hc) _ _ wkr)
  case f1=>
   intro D1
   refine lf_stc O 4 rfl ?_
   refine (?_:(∀ y∈doneL x.t x.pl,y<7)→_) (fun y hy=>by
    obtain ⟨r,hr,rfl⟩:=List.mem_map.mp hy
    exact hpn r (List.mem_filter.mp hr).1)
   intro hdn
   refine (?_:(∀ y∈begunL x.pl,y<7)→_) (fun y hy=>by
    obtain ⟨r,hr,rfl⟩:=List.mem_map.mp hy
    exact hpn r hr)
   intro hbn
   refine lf_asgc O (lf_comp O (lf_lkF (ns:=["name","begin","end","worker"]) (f:=rowAV) O (src_lO 1 rfl (fun o q=>h.v.pr q) fun o o N Cc=>Its.row N rfl rfl rfl rfl rfl) (fun o=>true) (fun r:Row=>.s (nm r.n)) (F:=fun d=>nAVs (begunL d)) (F_map Row.n fun k=>.s (nm k)) (Nat.le_trans hpl (by decide)) ?c2 ?f2 .rot))
   case c2=>
    intro d r rr Cc D J hd Kt Ks hk hs C2 O2
    exact hk rfl _ _ wkr
   case f2=>
    intro D2
    refine lf_stc O 4 rfl ?_
    refine lf_asgc O (lf_comp O (lf_lkF (ns:=["name","begin","end","worker"]) (f:=rowAV) O (src_lO 1 rfl (fun o q=>h.v.pr q) fun o o N Cc=>Its.row N rfl rfl rfl rfl rfl) (fun r:Row=>decide (x.t<r.e)) (fun r=>.i (r.w:Nat)) (F:=fun d=>(busyL x.t d).map fun k:Nat=>AV.i (k:Nat)) (F_film _ Row.w fun k:Nat=>AV.i (k:Nat)) (Nat.le_trans hpl (by decide)) ?c3 ?f3 .rot))
    case c3=>
     intro d r rr Cc D J hd Kt Ks hk hs C2 O2
     refine lf_ldc O2 7 rfl (lf_gt ?_)
     by_cases hc:x.t<r.e
     ·exact it_t (decide_eq_true (Int.ofNat_lt.mpr hc)) (hk (decide_eq_true hc) _ _ wkr)
     ·exact it_f (decide_eq_false fun q=>hc (Int.ofNat_lt.mp q)) (hs (decide_eq_false hc) _ _ wkr)
    case f3=>
     intro D3
     refine lf_stc O 4 rfl ?_
     refine (let Gl:Prop:=_;(?_:Gl))
     obtain ⟨ts,ws,hjd,hjk⟩:=hj.mono h.s
     refine lf_comp O (lf_lk0 (ns:=["name"]) (f:=fun k=>[.s (nm k)]) O (src_names fun o o N Cc=>Its.n N rfl rfl) (fun d out z'=>PrL z' out ((d.filter fun k=>!decide (k∈begunL x.pl) && (J k).waits.all fun y=>decide (y∈doneL x.t x.pl)).map fun k=>((J k).rank,k))) (by decide) .nil ?c4 ?f4)
     case c4=>
      intro d i r out z' Cc D jt hd hz hout Kt Ks hk hs C2 O2
      have hi:i<7:=List.mem_range.mp (hd▸List.mem_append_right _ (.head _))
      have hno:(!decide (i∈begunL x.pl) && (J i).waits.all fun y=>decide (y∈doneL x.t x.pl))=false→PrL z' out (((d++[i]).filter fun k=>!decide (k∈begunL x.pl) && (J k).waits.all fun y=>decide (y∈doneL x.t x.pl)).map fun k=>((J k).rank,k)):=fun h=>by rw [List.filter_append];simpa [h] using hout
      refine lf_ldc O2 7 rfl (lf_ninn 4 R (.own 4 rfl) hi hbn ?_)
      by_cases hif:i∈begunL x.pl
      ·exact it_f (by rw [decide_eq_true hif];rfl) (it_f rfl (hs _ _ _ (.refl _) (hno (by rw [decide_eq_true hif];rfl)) wkr))
      refine it_t (by rw [decide_eq_false hif];rfl) ?_
      refine lf_comp O2 ?_
      refine lf_ldc O2 10 rfl (lf_d (.fz (hjd.mono hz)) (JobsAt.lk hi) (lf_tup (n:=2) (.fz ((hjk i hi).1.mono hz)) rfl (by simp) ?_))
      refine lf_lkF (ns:=["one"]) (f:=fun k=>[.s (nm k)]) O2 (src_lF ((hjk i hi).2.mono hz) (fun o h=>nAVs_pr h) fun o o N Cc=>Its.n N rfl rfl) (fun o=>true) (fun y=>bAV (decide (y∈doneL x.t x.pl))) (F_map _ bAV) (Nat.le_trans (hJ.wl i hi) (by decide)) ?c5 ?f5 (by rw [List.append_nil];exact wkr)
      case c5=>
       intro d2 y r2 Cc3 D3 jt3 hd2 Kt3 Ks3 hk3 hs3 C3 O3
       refine lf_ldc O3 10 rfl (lf_inn 4 R (.own 7 rfl) (hJ.wk i hi y (hd2▸List.mem_append_right _ (.head _))) hdn ?_)
       exact hk3 rfl _ _ wkr
      case f5=>
       intro D5
       refine lf_all O2 (.own 0 rfl) ?_
       refine (?_:(((J i).waits.map fun y=>decide (y∈doneL x.t x.pl)).all id=(J i).waits.all fun y=>decide (y∈doneL x.t x.pl))→_) (List.all_map)
       intro hall
       rw [hall]
       cases hw:(J i).waits.all fun y=>decide (y∈doneL x.t x.pl) with
       | false=>exact it_f rfl (it_f rfl (hs _ _ _ (.refl _) (hno (by rw [hw,Bool.and_false])) (Wk.pick 1 [] rfl)))
       | true=>
        refine it_t rfl (it_t rfl ?_)
        refine lf_ldc O2 11 rfl (lf_d (.fz (hjd.mono hz)) (JobsAt.lk hi) (lf_tup (n:=1) (.fz ((hjk i hi).1.mono hz)) rfl (by simp) ?_))
        refine fun q1 z8 hz8 hq1=>?_
        refine hk _ _ _ _ hz8 ?_ (Wk.pick 1 [] rfl)
        show PrL z8 (out++_) (((d++[i]).filter _).map _)
        rw [List.filter_append,List.map_append]
        refine (?_:_→_) ((hout.mono hz8).snoc hq1 (Nat.lt_succ_of_lt hi))
        intro this
        simpa [hw,hif] using this
     case f4=>
      intro out z6 D4 hz6 hout
      refine (?_:(((List.range 7).filter fun k=>!decide (k∈begunL x.pl) && (J k).waits.all fun y=>decide (y∈doneL x.t x.pl))=rawL J x.t x.pl)→_) (rfl)
      intro hraw
      rw [hraw] at hout
      refine (?_:((rawL J x.t x.pl).length≤7)→_) (by refine (?_:_→_) (List.length_filter_le (fun k=>!decide (k∈begunL x.pl) && (J k).waits.all fun y=>decide (y∈doneL x.t x.pl)) (List.range 7));intro this;rw [hraw] at this;simpa using this)
      intro hrl
      refine (?_:((rawL J x.t x.pl).Nodup)→_) (List.nodup_range.filter _)
      intro hrn
      refine lf_sortp (.own 0 rfl) hout ?_ (by rw [List.length_map];exact ar125 hrl) fun q vs' ks hks hperm hpw=>?_
      ·rw [List.map_map]
       refine List.pairwise_map.mpr (hrn.imp_of_mem ?_)
       intro x y hx hy hxy e
       refine (?_:_→_) (rawL_lt hx)
       intro h1
       refine (?_:_→_) (rawL_lt hy)
       intro h2
       simp only [Function.comp,pkey] at e
       exact ar406 e h1 hxy h2
      refine lf_comp O (lf_range fun rg=>?_)
      refine lf_lkF (ns:=["one"]) (f:=fun k:Nat=>[.i (k:Nat)]) O (src_rg (Nat.le_trans hW (by decide)) (.own 0 rfl) fun o o N Cc=>Its.rg N rfl rfl) (fun v=>!decide (v∈busyL x.t x.pl)) (fun k:Nat=>.i (k:Nat)) (F_fil _ _) (by rw [List.length_range];exact Nat.le_trans hW (by decide)) ?c6 ?f6 (by rw [List.append_nil];exact wkr)
      case c6=>
       intro d i r Cc D jt hd Kt Ks hk hs C2 O2
       refine lf_ldc O2 9 rfl (lf_nini 4 R (.own 5 rfl) ?_)
       exact ⟨fun e=>hk e _ _ wkr,fun e=>hs e _ _ wkr⟩
      case f6=>
       intro D6
       refine (?_:(((List.range W).filter fun v=>!decide (v∈busyL x.t x.pl))=freeL W x.t x.pl)→_) (rfl)
       intro hfr
       rw [hfr]
       refine LC.fz 0 rfl fun z8 hz8 hD6=>LC.fz 1 rfl fun z9 hz9 hq=>LC.wk (Wk.pick 2 [] rfl) ?_
       refine lf_zip ks (freeL W x.t x.pl) (.fz hq) (.fz (hD6.mono hz9)) fun zz TI TO i1 i2 zA hzA hTI=>?_
       refine (?_:_→_) (hz8.trans (hz9.trans hzA))
       intro hz6A
       refine (?_:_→_) (hz6.trans hz6A)
       intro hsA
       refine (?_:_→_) (hks.mono hz6A)
       intro hksA
       refine (?_:_→_) (stepL_pairs (J:=J) (W:=W) (t:=x.t) (pl:=x.pl) hks.lt8 hperm hpw)
       intro hstep
       refine (?_:(∀ p∈ks,p.2<7)→_) (fun p hp=>by
        obtain ⟨k,hk,rfl⟩:=List.mem_map.mp (hperm.subset hp)
        exact rawL_lt hk)
       intro hks7
       refine lf_for0 (σ:=List AV×Z) (up:=fun c m=>setl (setl (setl m "rank" (.i (c.1.1:Nat))) "name" (.s (nm c.1.2))) "worker" (.i (c.2:Nat))) (items:=ks.zip (freeL W x.t x.pl)) (·.2) (fun o=>[("workers",.i (.ofNat W)),("plan",.v (.ref lp)),("ready",.v (.ref q))])
        (fun y=>(D3,ListO ((busyL x.t x.pl).map fun k:Nat=>AV.i (k:Nat)))::(lp,ListO y.1)::(D2,ListO (nAVs (begunL x.pl)))::(D1,ListO (nAVs (doneL x.t x.pl)))::(L+1+1+1+1+1,CellO (some (.v (.ref D3))))::(L+1+1+1+1,CellO (some (.v (.ref D2))))::(L+1+1+1,CellO (some (.v (.ref D1))))::(L+1+1,CellO (some (.i (.ofNat x.t))))::(L+1,CellO (some (.v (.ref a))))::Δ)
        (fun d o y=>RowL y.2 y.1 (x.pl++d.map fun c=>rowOf J x.t c.1.2 c.2)) O (x.vs,zA) (src_zipG (hq.mono hzA) ((hD6.mono hz9).mono hzA) (fun o h=>hksA.pr h) (fun o h=>iAVs_pr h) ?sI) (by simpa using h.v.mono hsA) ?c7 ?f7 [] rfl rfl
       case sI=>
        intro t1 t2 ht N1 N2
        refine Its.ofA (fun A R=>ItsA.zip (TO:=TO) Prod.fst Prod.snd N1 N2 (.inl R.hd) hTI ht rfl rfl ?_) (fun hz S h=>zip_self S h)
        intro E s z' Δ L m c xx yy Q hz hx hy hL S hk
        obtain ⟨qx,rfl,hqx,_⟩:=hx
        obtain ⟨ty,rfl⟩:=hy
        subst hL
        exact wpAny_assignInOrder_more (unp_ok (k:=0) (C:=⟨w,ρ,A,C.env⟩) ⟨O.k,O.g,O.b,R⟩ (K:=fun z2 m2 Δ2=>z2=z'∧m2=setl (setl m "rank" (.i (c.1.1:Nat))) "name" (.s (nm c.1.2))∧Δ2=Δ) (ns:=[("rank",_),("name",_)]) rfl rfl (fun S=>S.fz (hqx.mono hz)) wkr (And.intro rfl (And.intro rfl rfl)) E s _ S fun o o o o o s2 o t S2=>by
         obtain ⟨rfl,rfl,rfl⟩:=t
         exact wpAny_assignInOrder_more (wpAny_assign_Name (storeL S2 rfl rfl rfl is_i fun s' S'=>wpAny_assignInOrder_none (hk _ S'))))
       case c7=>
        intro zg mg Δg Ig Kg d c rr y hd hzy hvs' jt Kf F
        refine (?_:(c.1.2<7)→_) (hks7 _ (List.of_mem_zip (show (c.1,c.2)∈ks.zip (freeL W x.t x.pl) from hd▸List.mem_append_right _ (.head _))).1)
        intro hc7
        refine (?_:_→_) (hsA.trans hzy)
        intro hzz
        refine lf_gml (.own 1 rfl) PySem.F.slot_list_append PySem.F.type_list_append ?_
        refine lf_ldc O 7 rfl (lf_ldc O 7 rfl (lf_ldc O 8 rfl (lf_d (.fz (hjd.mono hzz)) (JobsAt.lk hc7) (lf_tup (n:=0) (.fz ((hjk c.1.2 hc7).1.mono hzz)) rfl (by simp) ?_))))
        refine fun qr z11 hz11 hqr=>?_
        refine lf_append (j:=1) rfl ?_ ?_
        ·refine (?_:_→_) (congrArg List.length hd)
         intro h1
         refine (?_:_→_) (hvs'.len)
         intro h2
         rw [hstep] at hst
         simp at h1 h2 hst
         exact ar430 h2 hst h1
        refine F.nx (y.1++[.v (.ref qr)],z11) _ wkr hz11 ?_
        show RowL z11 _ (x.pl++(d++[c]).map _)
        rw [List.map_append,← List.append_assoc]
        exact (hvs'.mono hz11).snoc hqr
       case f7=>
        intro y hzy hvs'
        rw [← hstep] at hvs'
        refine ⟨lf_comp O (lf_lkF (ns:=["name","begin","end","worker"]) (f:=rowAV) O (src_lO 1 rfl (fun o q=>hvs'.pr q) fun o o N Cc=>Its.row N rfl rfl rfl rfl rfl) (fun o=>true) (fun r:Row=>bAV (decide (r.e≤x.t))) (F_map _ bAV) (Nat.le_trans hst (by decide)) ?c8 ?f8 .rot)⟩
        case c8=>
         intro d r rr Cc D J hd Kt Ks hk hs C2 O2
         refine lf_ldc O2 8 rfl (lf_le ?_)
         rw [show decide (((r.e:Nat):Int)≤Int.ofNat x.t)=decide (r.e≤x.t) from decide_eq_decide.mpr Int.ofNat_le]
         exact hk rfl _ _ wkr
        case f8=>
         intro D8
         refine lf_all O (.own 0 rfl) ?_
         refine (?_:(((stepL J W x.t x.pl).map fun r:Row=>decide (r.e≤x.t)).all id=(stepL J W x.t x.pl).all fun r=>decide (r.e≤x.t))→_) (List.all_map)
         intro hall
         rw [hall]
         refine (?_:_→_) (h.s.trans (hsA.trans hzy))
         intro hzF
         by_cases hfin:∀ r∈stepL J W x.t x.pl,r.e≤x.t
         ·refine it_t (by simpa using hfin) ?_
          exact V.rt (kFn_i (m:=[]) _ (Wk.pick 10 [1] rfl) (k lp y.2 x.n x.pl x.t y.1 hzF h.i hfin hvs'))
         ·refine it_f (by simpa using hfin) ?_
          refine (let Gl:Prop:=_;(?_:Gl))
          obtain ⟨n',hn'⟩:=hgo hfin
          refine (?_:_→_→_) hn'.1 hn'.2
          intro hn' hI'
          refine lf_augc O 8 rfl ?_
          refine lf_stc O 8 rfl ?_
          exact V.nx ⟨stepL J W x.t x.pl,x.t+1,n',y.1,y.2,some (.v (.ref D1)),some (.v (.ref D2)),some (.v (.ref D3))⟩ _ (Wk.pick 10 [1,5,6,7,8,9] rfl) hn' ⟨hI',hzF,hvs'⟩
theorem by_lists_spec {E:VP} {s:Shared} {J:Jobs} (hJ:JOk J) {a:Addr} {W:Nat} {tw:Tok} {Q:VP} (S:St w ρ z Δ s) (hj:JobsAt w z J a) (hW:W≤7) (R:Room A 6)
 (I:Nat→List Row→Nat→Prop) (n0:Nat) (h0:I n0 [] 0)
 (hI:∀ n pl t,I n pl t→pl.length≤20∧(∀ r∈pl,r.n<7)∧(stepL J W t pl).length≤20∧((¬ ∀ r∈stepL J W t pl,r.e≤t)→∃ m,m<n∧I m (stepL J W t pl) (t+1)))
 (K:∀ q z' s' n pl t vs,Sub z z'→I n pl t→(∀ r∈stepL J W t pl,r.e≤t)→RowL z' vs (stepL J W t pl)→St w ρ z' ((q,ListO vs)::Δ) s'→Q (.ref q) s') :
 wpAny (model PG w) A (call (.ref 196) [.ref a,.int W tw]) Q E s:=
  (by_lists_T (K:=fun r z' Δ'=>∃ q n pl t vs,r=.v (.ref q)∧Sub z z'∧I n pl t∧(∀ r∈stepL J W t pl,r.e≤t)∧RowL z' vs (stepL J W t pl)∧Δ'=(q,ListO vs)::Δ) hJ hj hW R I n0 h0 hI
   fun q z' n pl t vs h1 h2 h3 h4=>⟨q,n,pl,t,vs,rfl,h1,h2,h3,h4,rfl⟩).out _ (.cons is_v (.cons ⟨tw,rfl⟩ .nil)) E s Q S fun r v z' Δ' s' hv t S'=>by
   obtain ⟨q,n,pl,t,vs,rfl,h1,h2,h3,h4,rfl⟩:=t
   cases hv
   exact K q z' s' n pl t vs h1 h2 h3 h4 S'
end
theorem KR.valAt:∀ {m kvs},KR m kvs→∀ {j:Nat} {a:AV} {x:Str} {v:Value},(m.map (·.2))[j]?=some a→kvs[j]?=some (x,v)→a.is v:=by
 intro m kvs h
 induction h with
 | nil=>exact fun h=>nomatch h
 | cons h r ih=>
  intro j a x v e1 e2
  cases j with
  | zero=>cases e1;cases e2;exact h
  | succ j=>exact ih e1 e2
section
variable {w:World} {ρ:Rest} {z:Z} {A:Around} {E:VP} {s:Shared} {Δ:Ds} {F:Addr×OP}
theorem b_list_vals {v d:Addr} {kv:Loc} {Q:VP} (hh:A.handled=none) (S:St w ρ z (F::Δ) s) (hv:Has s v (ViewO "dict_values" d)) (hd:Has s d (DictO w kv)) (hn:kv.length≤1000)
 (k:∀ l s',St w ρ z (F::(l,ListO (kv.map (·.2)))::Δ) s'→Q (.ref l) s'):wpAny (model PG w) A (call (.type "list") [.ref v]) Q E s:=by
  refine (let g:Prop:=_;(?_:g))
  obtain ⟨kvs,ep,h1,h2⟩:=DictO.at hd
  obtain ⟨o,e⟩:=hv
  refine (?_:_→_→_→_) e.1 e.2.1 e.2.2
  intro e c1 c2
  refine kdl_call (kdl_values (knd:=kS w) (kvs:=kvs) (ep:=ep)) hh ⟨⟨o,e,c1,c2⟩,h1⟩ (by rw [sizeLine_eq,h2.len];exact ar11 hn) fun h' tk acc' c' hk he hi=>k _ _ (S.grow1 (t:=tk) hk (Nat.le_refl _) he ⟨_,_,rfl,?_⟩)
  refine arel_of (by simp [hi.1,h2.len]) fun j a x ha hx=>?_
  obtain ⟨y,hy⟩:=hi.2 j x (by simpa using hx)
  exact h2.valAt ha hy
end
noncomputable abbrev qAV (p:Addr×Row):AV:=.v (.ref p.1)
theorem RowL.qs {z:Z}:∀ {vs rs},RowL z vs rs→∃ qs:List (Addr×Row),vs=qs.map qAV∧rs=qs.map (·.2)∧∀ p∈qs,Fz z p.1 (TupO (rowAV p.2))
 | _,_,.nil=>⟨[],rfl,rfl,by simp⟩
 | _,_,.cons (q:=q) (r:=r) h t=>by
  obtain ⟨qs,rfl,rfl,h3⟩:=t.qs
  refine ⟨(q,r)::qs,rfl,rfl,fun p hp=>?_⟩
  rcases List.mem_cons.mp hp with rfl | hp
  ·exact h
  ·exact h3 p hp
section
variable {w:World} {ρ:Rest} {z:Z} {A:Around} {E:VP} {s:Shared} {Δ:Ds} {F:Addr×OP} {X:Ds}
theorem Its.rown {it:Value} {env:Env} {x:Str} {pos:Pos} {J:List (Addr×Row)→Ds} (N:Nx w ρ z it (fun p v=>(qAV p).is v) J X) (hl:env.kindOf x=some .local) (hk:env.scope.kind=.function):Its w ρ z it env (.Name x pos) (fun p m=>setl m x (qAV p)) J X:=
 Its.of N (Asg.name qAV (fun b b h=>h) hl hk)
theorem it_kvC {d:Addr} {ch:Nat→Nat} {fl:List Nat} {Q:VP} (S:St w ρ z (F::Δ) s) (hf:Fz z d (DictO w (kvC ch fl))) (hb:(d == sysModules)=false)
 (k:∀ it ep s',Nx w ρ z (.ref it) nRel (fun r=>[(it,DItO "dict_keyiterator" d (kvC ch fl).length ep (kvC ch fl) (kvC ch r))]) []→St w ρ z (F::(Δ++[(it,DItO "dict_keyiterator" d (kvC ch fl).length ep (kvC ch fl) (kvC ch fl))])) s'→Q (.ref it) s'):wpAny (model PG w) A (pyIter (.ref d)) Q E s:=
  it_dict S hf hb fun it ep s' N S'=>k it ep s' (Nx.map (fun k=>(nm k,AV.i (ch k:Nat))) N) S'
end
section
variable {w:World} {A:Around} {ρ:Rest} {z:Z} {Δ:Ds}
theorem mul_ok {a b:Int} (h1:-(2 ^ 64)<a) (h2:a<2 ^ 64):IntMulOk a b:=IntMulOk.of_left (intBits_le_64 h1 h2)
theorem sum_cast {α:Type} (f:α→Nat):∀ l:List α,(l.map fun k=>(f k:Int)).sum=((l.map f).sum:Nat)
 | []=>rfl
 | a::l=>by
  refine (?_:_→_) (sum_cast f l)
  intro this
  simp only [List.map_cons,List.sum_cons]
  exact ar418 this
structure IsMax (M:Nat) (l:List Nat):Prop where
 m:M=0∨M∈l
 le:∀ x∈l,x≤M
theorem IsMax.of {M:Int} {l:List Nat} (h1:M∈(((0:Nat)::l).map Int.ofNat)) (h2:∀ a∈(((0:Nat)::l).map Int.ofNat),a≤M):∃ m:Nat,M=m∧IsMax m l:=by
 obtain ⟨m,hm,rfl⟩:=List.mem_map.mp h1
 refine ⟨m,rfl,?_,fun x hx=>?_⟩
 ·rcases List.mem_cons.mp hm with q | q
  ·exact .inl q
  ·exact .inr q
 ·refine (?_:_→_) (h2 (Int.ofNat x) (List.mem_map_of_mem (.tail _ hx)))
  intro this
  simpa using this
section
variable {C:Cx} {m:Loc}
theorem lf_lvals {v d:Addr} {kv:Loc} {K:AV→SP} (O:C.Ok) (hv:OF z Δ v (ViewO "dict_values" d)) (hd:OF z Δ d (DictO C.w kv)) (hn:kv.length≤1000) (k:∀ l,K (.v (.ref l)) z m ((l,ListO (kv.map (·.2)))::Δ)):LC C (.v (.type "list")) [.v (.ref v)] z m Δ K:=
 lc1 (fun E s Q S q=>b_list_vals O.r.hd S (hv.has S) (hd.has S) hn fun l s' S'=>q _ _ _ _ _ _ is_v (k l) S')
theorem src_kv {d:Addr} {ch:Nat→Nat} {fl:List Nat} {H:Value→(List Nat→Ds)→Prop} (hf:Fz z d (DictO C.w (kvC ch fl))) (hb:(d == sysModules)=false) (hN:∀ it J,Nx C.w C.ρ z it nRel J []→H it J):Src C (.v (.ref d)) z Δ Δ H fl:=by
 intro E s Q m v hv S k
 cases hv
 exact it_kvC S hf hb fun it ep s' N S'=>k _ _ s' (hN _ _ N) S'
end
theorem bounds_T {J:Jobs} (hJ:JOk J) {lp a c:Addr} {vs:List AV} {pl:List Row} {ch:Nat→Nat} {fl:List Nat} {W:Nat} {K:AV→Z→Ds→Prop} (hp:Fz z lp (ListO vs)) (hvs:RowL z vs pl) (hj:JobsAt w z J a)
 (hc:Fz z c (DictO w (kvC ch fl))) (hbig:(c == sysModules)=false) (hf7:∀ k∈fl,k<7) (hfl:fl.length≤7) (hpl:pl.length≤20) (hW:1≤W) (hW7:W≤7) (he:∀ r∈pl,r.e≤1000) (hch:∀ k∈fl,ch k≤1000) (R:Room A 2)
 (hm:∀ wh lo:Nat,IsMax wh (pl.map (·.e))→IsMax lo (fl.map ch)→lo≤wh∧(fl.map fun k=>(J k).dur).sum≤wh * W∧wh * W≤(fl.map fun k=>(J k).dur).sum+(W - 1) * lo)
 (hK:K (.v (.bool true)) z Δ):CF w ρ A 206 [.v (.ref lp),.v (.ref a),.v (.ref c),.i (.ofNat W)] z Δ K:=by
  refine (let Gl:Prop:=_;(?_:Gl))
  obtain ⟨ts,ws,hjd⟩:=hj
  refine (?_:_→_→_) hjd.1 hjd.2
  intro hjd hjk
  obtain ⟨qs,rfl,rfl,hqs⟩:=hvs.qs
  refine lf_defC (by assumption) ?_ (by k_is) (by k_is) (by first | exact args1 fun e=>rfl | exact args2 fun e e=>rfl | exact args3 fun e e e=>rfl | exact args4 fun e e e e=>rfl) (by decide) (by decide) (by decide) (by decide) (by rfl) (by rfl) (by rfl)
  intro L A' R C O
  have hql:qs.length≤20:=by rwa [List.length_map] at hpl
  refine lf_swap (ns:=["whole","work"]) O rfl fun l0=>?_
  refine lf_comp O (lf_lkF (ns:=["row"]) (f:=fun p=>[qAV p]) O (src_lF hp (fun e h=>ARel.prOf (g:=qAV) (fun e e h=>h) h) fun e e N Cc=>Its.rown N rfl rfl) (fun e=>true) (fun p=>.i (.ofNat p.2.e)) (F_map3 (fun p:Addr×Row=>p.2.e) Int.ofNat AV.i) (Nat.le_trans hql (by decide)) ?t1 ?f1 (by rw [List.append_nil];exact wkr))
  case t1=>
   intro d p r Cc D jt hd Kt Ks hk hs C2 O2
   refine lf_tup (n:=2) (.fz (hqs p (hd▸List.mem_append_right _ (.head _)))) rfl (by simp) ?_
   exact hk rfl _ _ wkr
  case f1=>
   intro D
   refine lf_addl (.own 1 rfl) (.own 0 rfl) (by simp;exact ar169 hql) fun q2=>?_
   refine lf_max (ns:=((0:Nat)::qs.map fun p=>p.2.e).map Int.ofNat) O (.own 0 rfl) (List.cons_ne_nil _ _) fun M h1 h2=>?_
   obtain ⟨wh,rfl,hwh⟩:=IsMax.of h1 h2
   refine lf_comp O (lf_lkF (ns:=["name"]) (f:=fun k=>[.s (nm k)]) O (src_kv hc hbig fun e e N Cc=>Its.n N rfl rfl) (fun e=>true) (fun k=>.i ((J k).dur:Int)) (F_map (fun k=>((J k).dur:Int)) AV.i) (Nat.le_trans hfl (by decide)) ?t2 ?f2 (by rw [List.append_nil];exact wkr))
   case t2=>
    intro d k r Cc D2 jt hd Kt Ks hk hs C2 O2
    refine (?_:_→_) (hf7 k (hd▸List.mem_append_right _ (.head _)))
    intro hk7
    refine lf_ldc O2 5 rfl (lf_d (.fz hjd) (JobsAt.lk hk7) (lf_tup (n:=0) (.fz (hjk k hk7).1) rfl (by simp) ?_))
    exact hk rfl _ _ wkr
   case f2=>
    intro D2
    refine lf_sum O (.own 0 rfl) ?_
    rw [show (fl.map fun k=>((J k).dur:Int)).sum=(((fl.map fun k=>(J k).dur).sum:Nat):Int) from sum_cast _ _]
    refine fun l1=>lf_gmd (.fz hc) PySem.F.slot_dict_values PySem.F.type_dict_values ?_
    refine lf_vals (.fz hc) hbig fun v=>lf_lvals O (.own 0 rfl) (.fz hc) (by rw [List.length_map];exact ar9 hfl) fun l2=>?_
    refine (?_:((kvC ch fl).map (·.2)=((fl.map ch).map Int.ofNat).map AV.i)→_) (by simp [kvC])
    intro ek
    rw [ek]
    refine lf_addl (.own 2 rfl) (.own 0 rfl) (by simp;exact ar165 hfl) fun q4=>?_
    refine lf_max (ns:=((0:Nat)::fl.map ch).map Int.ofNat) O (.own 0 rfl) (List.cons_ne_nil _ _) fun M h3 h4=>?_
    obtain ⟨lo,rfl,hlo⟩:=IsMax.of h3 h4
    refine (?_:_→_) (hm wh lo (by rw [List.map_map];exact hwh) hlo)
    intro hmm
    refine (?_:(wh≤1000)→_) (by
     rcases hwh.m with rfl | h
     ·exact ar33
     ·obtain ⟨p,hp,rfl⟩:=List.mem_map.mp h
      exact he p.2 (List.mem_map_of_mem hp))
    intro hwhb
    refine (?_:(lo≤1000)→_) (by
     rcases hlo.m with rfl | h
     ·exact ar33
     ·obtain ⟨k,hk,rfl⟩:=List.mem_map.mp h
      exact hch k hk)
    intro hlob
    refine (?_:_→_→_→_) hmm.1 hmm.2.1 hmm.2.2
    intro m1 m2 m3
    refine ⟨lf_lt (it_f (decide_eq_false (Int.not_lt.mpr (Int.ofNat_le.mpr m1))) ?_)⟩
    refine lf_mul (mul_ok (by lia) (by lia)) (lf_lt (it_f (decide_eq_false (Int.not_lt.mpr (Int.ofNat_le.mpr m2))) (it_f rfl ?_)))
    refine lf_mul (mul_ok (by lia) (by lia)) (lf_mul (mul_ok (a:=(W:Int) - 1) (by lia) (by lia)) (lf_le ?_))
    refine (?_:(decide ((wh:Int) * (W:Int)≤(((fl.map fun k=>(J k).dur).sum:Nat):Int)+((W:Int) - 1) * (lo:Int))=true)→_) (by
     rw [decide_eq_true_eq,show ((W:Int) - 1)=((W - 1:Nat):Int) from by exact ar326 hW]
     refine (?_:(((wh * W:Nat):Int)≤(((fl.map fun k=>(J k).dur).sum+(W - 1) * lo:Nat):Int))→_) (Int.ofNat_le.mpr m3)
     intro h6
     simpa using h6)
    intro hfin
    refine kFn_i (m:=[]) Δ (Wk.pick 9 [] rfl) ?_
    show K (.v (.bool (decide ((wh:Int) * (W:Int)≤(((fl.map fun k=>(J k).dur).sum:Nat):Int)+((W:Int) - 1) * (lo:Int))))) _ _
    rw [hfin];exact hK
end
section
variable {J:Jobs} {fl:List Nat} {W t:Nat}
noncomputable def FinAt (J:Jobs) (W t:Nat):Prop:=∀ r∈Pl J W (t+1),r.e≤t
theorem Pl_sub {u v:Nat} (h:u≤v):∀ r∈Pl J W u,r∈Pl J W v:=by
 induction h with
 | refl=>exact fun r h=>h
 | step _ ih=>exact fun r hr=>List.mem_append_left _ (ih r hr)
set_option tactic.hygienic true in
theorem runs_keep {s u v:Nat} (h:u≤v) (hs:s<u):runs s (Pl J W v)=runs s (Pl J W u):=by
 induction h with
 | refl=>rfl
 | step h ih=>
  rename_i m
  refine (?_:(s<m)→_) (Nat.lt_of_lt_of_le hs h)
  intro hsm
  show runs s (Pl J W m++newL J W m (Pl J W m))=_
  rw [runs_new hsm,ih]
theorem fin_of (hd:∀ k,k<7→1≤(J k).dur) (hfl:FreeSpec J fl) (hW:1≤W) {s:Nat} (hs:runs s (Pl J W (s+1))=[]) (h:s≤t):∀ r∈Pl J W (t+1),r.e≤s:=by
 refine (?_:_→_) (PI.all (W:=W) hd hfl (s+1))
 intro h1
 refine (?_:_→_) (PI.all (W:=W) hd hfl (t+1))
 intro h2
 intro r hr
 obtain ⟨r',g1⟩:=all_done hfl h1 hW hs r.n (h2.f r hr)
 refine (?_:_→_→_→_) g1.1 g1.2.1 g1.2.2
 intro g1 g2 g3
 refine (?_:_→_) (row_one h2.nd hr (Pl_sub (by exact ar7 h) r' g1) g2.symm)
 intro this
 rw [this];exact g3
theorem runs_pos (hd:∀ k,k<7→1≤(J k).dur) (hfl:FreeSpec J fl) (hW:1≤W) (hn:¬ FinAt J W t):∀ s,s≤t→1≤(runs s (Pl J W (t+1))).length:=by
 intro s hs
 apply Classical.byContradiction
 intro hc
 refine (?_:(runs s (Pl J W (t+1))=[])→_) (List.eq_nil_of_length_eq_zero (by exact ar38 hc))
 intro h0
 rw [runs_keep (u:=s+1) (by exact ar7 hs) (by exact ar1)] at h0
 exact hn fun r hr=>Nat.le_trans (fin_of hd hfl hW h0 hs r hr) hs
theorem sum_le_map {α:Type} {f g:α→Nat}:∀ {l:List α},(∀ a∈l,f a≤g a)→(l.map f).sum≤(l.map g).sum
 | [],_=>Nat.le_refl _
 | a::l,h=>by
  refine (?_:_→_) (sum_le_map (l:=l) fun b hb=>h b (.tail _ hb))
  intro this
  refine (?_:_→_) (h a (.head _))
  intro this
  simp only [List.map_cons,List.sum_cons];exact ar82 this ‹_›
theorem sum_three {α:Type}:∀ l:List α,(l.map fun c=>3).sum=l.length * 3
 | []=>rfl
 | a::l=>by
  refine (?_:_→_) (sum_three l)
  intro this
  simp only [List.map_cons,List.sum_cons,List.length_cons];exact ar277 this
theorem fin_bound (hJ:JOk J) (hfl:FreeSpec J fl) (hW:1≤W) (hn:¬ FinAt J W t):t≤20:=by
 refine (?_:_→_) (PI.all (W:=W) hJ.dur1 hfl (t+1))
 intro hp
 refine (?_:(sumU (fun c=>1) (t+1)≤sumU (fun s=>(runs s (Pl J W (t+1))).length) (t+1))→_) (sumU_le fun s hs=>runs_pos hJ.dur1 hfl hW hn s (by exact ar47 hs))
 intro h1
 rw [sumU_const,sum_runs] at h1
 refine (?_:(((Pl J W (t+1)).map fun r=>min (t+1) r.e - min (t+1) r.b).sum≤((Pl J W (t+1)).map fun c=>3).sum)→_) (sum_le_map fun r hr=>by
  refine (?_:_→_) (hp.e r hr)
  intro this
  refine (?_:_→_) (hJ.dur3 r.n (hfl.lt _ (hp.f r hr)))
  intro this
  exact ar407 ‹_› this)
 intro h2
 refine (?_:(((Pl J W (t+1)).map fun c=>3).sum=(Pl J W (t+1)).length * 3)→_) (by
  exact sum_three _)
 intro h3
 refine (?_:_→_) (hp.len hfl)
 intro h4
 exact ar404 h1 h2 h3 h4
theorem fin_all (hd:∀ k,k<7→1≤(J k).dur) (hfl:FreeSpec J fl) (hW:1≤W) (h:FinAt J W t):∀ k∈fl,∃ r∈Pl J W (t+1),r.n=k∧r.e≤t:=by
 refine all_done hfl (PI.all hd hfl (t+1)) hW ?_
 rw [List.eq_nil_iff_forall_not_mem]
 intro r hr
 refine (?_:_→_→_) ((mem_runs.mp hr).1) ((mem_runs.mp hr).2.2)
 intro h1 h2
 refine (?_:_→_) (h r h1)
 intro this
 exact ar12 h2 this
set_option tactic.hygienic true in
theorem fin_stay (hd:∀ k,k<7→1≤(J k).dur) (hfl:FreeSpec J fl) (hW:1≤W) (h:FinAt J W t) {v:Nat} (hv:t+1≤v):Pl J W v=Pl J W (t+1):=by
 induction hv with
 | refl=>rfl
 | step hm ih=>
  rename_i m
  show Pl J W m++newL J W m (Pl J W m)=_
  refine (?_:(newL J W m (Pl J W m)=[])→_) (by
   rw [List.eq_nil_iff_forall_not_mem]
   intro r hr
   have h1:=mem_raw.mp (new_mem hr).2.2.1
   have hk:r.n∈fl:=by
    have h2:=(PI.all (W:=W) hd hfl (m+1)).f r (List.mem_append_right _ hr)
    exact h2
   obtain ⟨r',g1,g2,_⟩:=fin_all hd hfl hW h r.n hk
   exact h1.2.1 (List.mem_map.mpr ⟨r',Pl_sub (show t+1≤m from hm) r' g1,g2⟩))
  intro this
  rw [this,List.append_nil,ih]
theorem fin_same (hd:∀ k,k<7→1≤(J k).dur) (hfl:FreeSpec J fl) (hW:1≤W) {u:Nat} (h:FinAt J W t) (h2:FinAt J W u):Pl J W (t+1)=Pl J W (u+1):=by
 rcases Nat.le_total t u with q | q
 ·exact (fin_stay hd hfl hW h (by exact ar7 q)).symm
 ·exact fin_stay hd hfl hW h2 (by exact ar7 q)
theorem fin_names (hd:∀ k,k<7→1≤(J k).dur) (hfl:FreeSpec J fl) (hW:1≤W) (h:FinAt J W t):((Pl J W (t+1)).map (·.n)).Perm fl:=by
 refine (?_:_→_) (PI.all (W:=W) hd hfl (t+1))
 intro hp
 rw [List.perm_ext_iff_of_nodup hp.nd hfl.nd]
 intro k
 constructor
 ·intro hk
  obtain ⟨r,hr,rfl⟩:=List.mem_map.mp hk
  exact hp.f r hr
 ·intro hk
  obtain ⟨r,h1⟩:=fin_all hd hfl hW h k hk
  refine (?_:_→_→_) h1.1 h1.2.1
  intro h1 h2
  exact List.mem_map.mpr ⟨r,h1,h2⟩
noncomputable def idle (W:Nat) (P:List Row) (s:Nat):Bool:=decide ((runs s P).length<W)
theorem graham (hd:∀ k,k<7→1≤(J k).dur) (hfl:FreeSpec J fl) {P:List Row} (hp:PI J fl W t P):∀ n,∀ r∈P,r.b=n→cnt (idle W P) r.b+(J r.n).dur≤chOf J fl r.n:=by
 intro n
 induction n using Nat.strongRecOn with
 | ind n ih=>
  intro r hr hb
  have hk:=hp.f r hr
  rcases cnt_last (idle W P) r.b with q | ⟨s,h1,h2,h3⟩
  ·rw [q,Nat.zero_add];exact ch_dur hfl hk
  ·refine (?_:(s<t)→_) (Nat.lt_trans h1 (hp.b r hr))
   intro hst
   refine (?_:((runs s P).length<W)→_) (by simpa [idle] using h2)
   intro hlt
   refine (?_:(∃ x∈(J r.n).waits,¬ ∃ r'∈P,r'.n=x∧r'.e≤s)→_) (by
    apply Classical.byContradiction
    intro hc
    have hall:∀ x∈(J r.n).waits,∃ r'∈P,r'.n=x∧r'.e≤s:=fun x hx=>by
     apply Classical.byContradiction
     intro hx2
     exact hc ⟨x,hx,hx2⟩
    obtain ⟨r',g1⟩:=hp.gr s hst r.n hk hlt hall
    refine (?_:_→_→_→_) g1.1 g1.2.1 g1.2.2
    intro g1 g2 g3
    refine (?_:_→_) (row_one hp.nd g1 hr g2)
    intro this
    rw [this] at g3
    exact ar12 h1 g3)
   intro hex
   obtain ⟨x,hx,hnx⟩:=hex
   obtain ⟨r',g1⟩:=hp.wt r hr x hx
   refine (?_:_→_→_→_) g1.1 g1.2.1 g1.2.2
   intro g1 g2 g3
   refine (?_:(s<r'.e)→_) (by
    apply Classical.byContradiction
    intro hc
    exact hnx ⟨r',g1,g2,by exact ar5 hc⟩)
   intro hse
   refine (?_:_→_) (hp.e r' g1)
   intro he
   refine (?_:(r'.n∈fl)→_) (hp.f r' g1)
   intro hk'
   by_cases hbb:r'.b<n
   ·refine (?_:_→_) (ih r'.b hbb r' g1 rfl)
    intro h4
    refine (?_:_→_) (cnt_mono (idle W P) (show s+1≤r'.e from hse))
    intro h5
    refine (?_:_→_) (cnt_add (idle W P) r'.b (J r'.n).dur)
    intro h6
    rw [← he] at h6
    refine (?_:_→_) (ch_wait hfl hk hx)
    intro h7
    rw [g2] at h4 h6
    exact ar439 h3 g2 h4 h5 h6 h7
   ·refine (?_:_→_) (hd r'.n (hfl.lt _ hk'))
    intro this
    exact ar416 hb g3 he hbb this
theorem low (hd:∀ k,k<7→1≤(J k).dur) (hfl:FreeSpec J fl) {P:List Row} (hp:PI J fl W t P):∀ n,∀ r∈P,r.b=n→chOf J fl r.n≤r.e:=by
 intro n
 induction n using Nat.strongRecOn with
 | ind n ih=>
  intro r hr hb
  refine (?_:_→_) (hp.f r hr)
  intro hk
  rw [ch_eq hfl hk,hp.e r hr]
  refine (?_:(lmax ((J r.n).waits.map (chOf J fl))≤r.b)→_) (by
   by_cases q:(J r.n).waits.map (chOf J fl)=[]
   ·rw [q];exact Nat.zero_le _
   ·obtain ⟨x,hx⟩:=List.mem_map.mp (lmax_mem q)
    refine (?_:_→_→_) hx.1 hx.2
    intro hx hxe
    obtain ⟨r',g1⟩:=hp.wt r hr x hx
    refine (?_:_→_→_→_) g1.1 g1.2.1 g1.2.2
    intro g1 g2 g3
    refine (?_:_→_) (hp.e r' g1)
    intro he
    have:=hd r'.n (hfl.lt _ (hp.f r' g1))
    refine (?_:_→_) (ih r'.b (by exact ar370 this he g3 hb) r' g1 rfl)
    intro this
    rw [← hxe,← g2];exact ar63 this g3)
  intro this
  exact ar217 this
theorem wide_eq (hd:∀ k,k<7→1≤(J k).dur) (hfl:FreeSpec J fl) {P:List Row} (hp:PI J fl 7 t P):∀ r∈P,r.e=chOf J fl r.n:=by
 intro r hr
 refine (?_:_→_) (low hd hfl hp r.b r hr rfl)
 intro h1
 refine (?_:_→_) (graham hd hfl hp r.b r hr rfl)
 intro h2
 refine (?_:(cnt (idle 7 P) r.b=r.b)→_) (cnt_all fun s hs=>by
  refine (?_:_→_) (hp.len hfl)
  intro h4
  refine (?_:((runs s P).length<P.length)→_) (by
   unfold runs
   apply Classical.byContradiction
   intro hc
   have h6:(P.filter fun r=>decide (r.b≤s) && decide (s<r.e)).length=P.length:=by
    have:=List.length_filter_le (fun r:Row=>decide (r.b≤s) && decide (s<r.e)) P
    exact ar59 this hc
   have:=List.length_filter_eq_length_iff.mp h6 r hr
   simp at this
   exact ar278 hs this)
  intro h5
  simp only [idle,decide_eq_true_eq]
  exact ar53 h5 h4)
 intro h3
 refine (?_:_→_) (hp.e r hr)
 intro this
 exact ar392 this h1 h2 h3
theorem sum_perm {f:Nat→Nat} {l m:List Nat} (h:l.Perm m):(l.map f).sum=(m.map f).sum:=(h.map f).sum_nat
theorem plan_bounds (hd:∀ k,k<7→1≤(J k).dur) (hfl:FreeSpec J fl) (hW:1≤W) (h:FinAt J W t) {wh lo:Nat} (h1:IsMax wh ((Pl J W (t+1)).map (·.e))) (h2:IsMax lo (fl.map (chOf J fl))) :
 lo≤wh∧(fl.map fun k=>(J k).dur).sum≤wh * W∧wh * W≤(fl.map fun k=>(J k).dur).sum+(W - 1) * lo:=by
  have hp:=PI.all (W:=W) hd hfl (t+1)
  refine (?_:_→_) (fin_names hd hfl hW h)
  intro hperm
  generalize hP:Pl J W (t+1)=P at *
  have hwt:wh≤t:=by
   rcases h1.m with q | q
   ·exact ar42 q
   ·obtain ⟨r,hr,rfl⟩:=List.mem_map.mp q
    exact h r (hP▸hr)
  have hwork:sumU (fun s=>(runs s P).length) wh=(fl.map fun k=>(J k).dur).sum:=by
   rw [sum_runs,← sum_perm hperm,List.map_map]
   congr 1
   refine List.map_congr_left fun r hr=>?_
   refine (?_:_→_) (h1.le r.e (List.mem_map_of_mem hr))
   intro this
   refine (?_:_→_) (hp.e r hr)
   intro this
   show _=(J r.n).dur
   exact ar362 this ‹_›
  refine ⟨?_,?_,?_⟩
  ·rcases h2.m with q | q
   ·exact ar42 q
   ·obtain ⟨k,hk,rfl⟩:=List.mem_map.mp q
    obtain ⟨r,hr,rfl⟩:=List.mem_map.mp (hperm.symm.subset hk)
    exact Nat.le_trans (low hd hfl hp r.b r hr rfl) (h1.le _ (List.mem_map_of_mem hr))
  ·rw [← hwork,← sumU_const W wh]
   exact sumU_le fun s hs=>runs_len hp (by exact ar246 hs hwt)
  ·rw [← hwork,← sumU_const W wh]
   rcases h1.m with q | q
   ·subst q;exact Nat.zero_le _
   ·obtain ⟨r,hr⟩:=List.mem_map.mp q
    refine (?_:_→_→_) hr.1 hr.2
    intro hr hre
    refine (?_:(sumU (fun c=>W) wh≤sumU (fun s=>(runs s P).length+(if idle W P s then W - 1 else 0)) wh)→_) (sumU_le fun s hs=>by
     by_cases hi:idle W P s=true
     ·rw [if_pos hi]
      refine (?_:(1≤(runs s P).length)→_) (by
       apply Classical.byContradiction
       intro hc
       have h0:runs s P=[]:=List.eq_nil_of_length_eq_zero (by exact ar38 hc)
       rw [← hP,runs_keep (u:=s+1) (by exact ar280 hs hwt) (by exact ar1)] at h0
       have:=fin_of hd hfl hW h0 (show s≤t by exact ar60 hs hwt) r (hP▸hr)
       exact ar279 hs hre this)
      intro h5
      exact ar275 hW h5
     ·rw [if_neg hi]
      refine (?_:(¬ (runs s P).length<W)→_) (by simpa [idle] using hi)
      intro this
      exact ar168 this)
    intro h4
    rw [sumU_add,sumU_ind] at h4
    refine (?_:_→_) (graham hd hfl hp r.b r hr rfl)
    intro h5
    refine (?_:_→_) (cnt_add (idle W P) r.b (J r.n).dur)
    intro h6
    rw [← hp.e r hr,hre] at h6
    refine (?_:_→_) (h2.le _ (List.mem_map_of_mem (f:=chOf J fl) (hp.f r hr)))
    intro h7
    refine (?_:((W - 1) * cnt (idle W P) wh≤(W - 1) * lo)→_) (Nat.mul_le_mul_left _ (by exact ar352 h6 h5 h7))
    intro h8
    exact ar431 h8 h4
end
theorem pushR_perm (J:Jobs):∀ (l rd:List Nat),(pushR J rd l).Perm (rd++l.map (rkey J))
 | [],rd=>by simp [pushR]
 | k::l,rd=>by
  refine (pushR_perm J l (sin (rkey J k) rd)).trans ?_
  rw [List.map_cons]
  refine ((sin_perm _ rd).append_right _).trans ?_
  exact List.perm_middle.symm
theorem pushR_srt (J:Jobs):∀ {l rd:List Nat},Srt rd→Srt (pushR J rd l)
 | [],rd,h=>h
 | k::l,rd,h=>pushR_srt J (l:=l) (sin_srt h)
noncomputable abbrev rowKey (r:Row):Nat:=nkey r.e r.w r.n
theorem give_spec (J:Jobs) (t:Nat):∀ (rd fr rn:List Nat) (pl:List Row),Srt rn →
 (give J t rd fr rn pl).1=rd.drop fr.length∧(give J t rd fr rn pl).2.1=fr.drop rd.length∧Srt (give J t rd fr rn pl).2.2.1 ∧
 (give J t rd fr rn pl).2.2.1.Perm (rn++((rd.zip fr).map fun c=>rowOf J t (c.1 % 8) c.2).map rowKey)∧(give J t rd fr rn pl).2.2.2=pl++(rd.zip fr).map fun c=>rowOf J t (c.1 % 8) c.2
  | [],fr,rn,pl,h=>by cases fr <;> simp [give,h]
  | x::rd,[],rn,pl,h=>by simp [give,h]
  | x::rd,v::fr,rn,pl,h=>by
   refine (?_:_→_→_) ((give_spec J t rd fr (sin (nkey (t+(J (x % 8)).dur) v (x % 8)) rn) (pl++[⟨x % 8,t,t+(J (x % 8)).dur,v⟩]) (sin_srt h)).1) ((give_spec J t rd fr (sin (nkey (t+(J (x % 8)).dur) v (x % 8)) rn) (pl++[⟨x % 8,t,t+(J (x % 8)).dur,v⟩]) (sin_srt h)).2)
   intro h1 h2
   refine (?_:_→_→_→_→_) h2.1 h2.2.1 h2.2.2.1 h2.2.2.2
   intro h2 h3 h4 h5
   unfold give
   refine ⟨by rw [h1];simp,by rw [h2];simp,h3,?_,?_⟩
   ·refine h4.trans ?_
    rw [List.zip_cons_cons,List.map_cons,List.map_cons]
    refine ((sin_perm _ rn).append_right _).trans ?_
    exact List.perm_middle.symm
   ·rw [h5,List.zip_cons_cons,List.map_cons,List.append_assoc];rfl
theorem ends_spec (t:Nat):∀ (rn fr en:List Nat),Srt rn→Srt fr→(∀ y∈rn,t≤y / 64) →
 (ends t rn fr en).1=rn.filter (fun y=>!decide (y / 64=t))∧Srt (ends t rn fr en).2.1∧(ends t rn fr en).2.1.Perm (fr++(rn.filter fun y=>decide (y / 64=t)).map fun y=>y / 8 % 8) ∧
 (ends t rn fr en).2.2=en++(rn.filter fun y=>decide (y / 64=t)).map (· % 8)
  | [],fr,en,_,h,_=>by simp [ends,h]
  | y::rn,fr,en,hs,hf,ht=>by
   rw [Srt,List.pairwise_cons] at hs
   unfold ends
   by_cases q:y / 64=t
   ·rw [if_pos q]
    refine (?_:_→_→_) ((ends_spec t rn (sin (y / 8 % 8) fr) (en++[y % 8]) hs.2 (sin_srt hf) fun z hz=>ht z (.tail _ hz)).1) ((ends_spec t rn (sin (y / 8 % 8) fr) (en++[y % 8]) hs.2 (sin_srt hf) fun z hz=>ht z (.tail _ hz)).2)
    intro h1 h2
    refine (?_:_→_→_→_) h2.1 h2.2.1 h2.2.2
    intro h2 h3 h4
    rw [List.filter_cons_of_neg (by simpa using q),List.filter_cons_of_pos (by simpa using q),List.map_cons,List.map_cons]
    refine ⟨h1,h2,h3.trans ?_,by rw [h4];simp⟩
    refine ((sin_perm _ fr).append_right _).trans ?_
    exact List.perm_middle.symm
   ·rw [if_neg q]
    refine (?_:_→_) (ht y (.head _))
    intro hy
    refine (?_:(∀ z∈rn,¬ z / 64=t)→_) (fun z hz e=>by
     refine (?_:_→_) (hs.1 z hz)
     intro this
     refine (?_:(y / 64≤z / 64)→_) (Nat.div_le_div_right this)
     intro this
     lia)
    intro hall
    refine (?_:(rn.filter (fun y=>decide (y / 64=t))=[])→_) (List.filter_eq_nil_iff.mpr fun z hz=>by simpa using hall z hz)
    intro e1
    refine (?_:(rn.filter (fun y=>!decide (y / 64=t))=rn)→_) (List.filter_eq_self.mpr fun z hz=>by simpa using hall z hz)
    intro e2
    rw [List.filter_cons_of_pos (by simpa using q),List.filter_cons_of_neg (by simpa using q),e1,e2]
    simp [hf]
structure HI (J:Jobs) (fl:List Nat) (W:Nat) (h:HS):Prop where
 pl:h.pl=Pl J W h.t
 fr:h.fr=freeL W h.t (Pl J W h.t)
 rns:Srt h.rn
 rn:h.rn.Perm (((Pl J W h.t).filter fun r=>decide (h.t<r.e)).map rowKey)
 rds:Srt h.rd
 ex:∃ D O R:List Nat,SI J D O h.sp∧(∀ k,k∈D↔k∈doneL h.t (Pl J W h.t))∧R.Nodup∧h.rd.Perm (R.map (rkey J)) ∧
  (∀ k,k∈O↔(∃ r∈Pl J W h.t,r.n=k∧h.t<r.e)∨k∈R)∧(∀ k∈R,k ∉ (Pl J W h.t).map (·.n))
section
variable {J:Jobs} {fl:List Nat} {W:Nat} {h:HS}
theorem HI.ready (hI:HI J fl W h):pushR J h.rd h.sp.rd=readyL J h.t (Pl J W h.t):=by
 refine (let Gl:Prop:=_;(?_:Gl))
 obtain ⟨D,O,R,si,hD,hR,hrd,hO,hRb⟩:=hI.ex
 refine srt_uniq ?_ (pushR_srt J hI.rds) (srt_srt _)
 refine (pushR_perm J _ _).trans ?_
 refine (hrd.append_right _).trans ?_
 rw [← List.map_append]
 refine List.Perm.trans (List.Perm.map _ ?_) (srt_perm _).symm
 refine (?_:((rawL J h.t (Pl J W h.t)).Nodup)→_) (List.nodup_range.filter _)
 intro hrawn
 rw [List.perm_ext_iff_of_nodup ?_ hrawn]
 ·intro k
  rw [mem_raw,List.mem_append,si.rd k]
  have hdn:∀ x,(∃ r∈Pl J W h.t,r.n=x∧r.e≤h.t)↔x∈D:=fun x=>by rw [hD x,mem_done]
  constructor
  ·rintro (q | ⟨h1,h2,h3,h4⟩)
   ·have hk:k∈D++O:=List.mem_append_right _ ((hO k).mpr (.inr q))
    exact ⟨si.lt k hk,hRb k q,fun x hx=>(hdn x).mpr (si.cl k hk x hx)⟩
   ·refine ⟨h1,fun q=>?_,fun x hx=>(hdn x).mpr (cntW_zero h4 x hx)⟩
    obtain ⟨r,hr,rfl⟩:=List.mem_map.mp q
    by_cases he:r.e≤h.t
    ·exact h2 ((hdn _).mp ⟨r,hr,rfl,he⟩)
    ·exact h3 ((hO _).mpr (.inl ⟨r,hr,rfl,by exact ar10 he⟩))
  ·rintro ⟨h1,h2,h3⟩
   by_cases q:k∈R
   ·exact .inl q
   ·right
    refine ⟨h1,fun g=>?_,fun g=>?_,cntW_zero' fun x hx=>(hdn x).mp (h3 x hx)⟩
    ·obtain ⟨r,hr,rfl,_⟩:=(hdn k).mpr g
     exact h2 (List.mem_map_of_mem hr)
    ·rcases (hO k).mp g with ⟨r,hr,rfl,_⟩ | g
     ·exact h2 (List.mem_map_of_mem hr)
     ·exact q g
 ·rw [List.nodup_append]
  refine ⟨hR,si.rdn,fun a ha b hb e=>?_⟩
  subst e
  exact ((si.rd a).mp hb).2.2.1 ((hO a).mpr (.inr ha))
theorem HI.mid_pl (hI:HI J fl W h):(hMid J h).pl=Pl J W (h.t+1):=by
 show (give J h.t (pushR J h.rd h.sp.rd) h.fr h.rn h.pl).2.2.2=_
 rw [(give_spec J h.t _ _ _ _ hI.rns).2.2.2.2,hI.ready,hI.fr,hI.pl];rfl
theorem HI.mid_rn (hI:HI J fl W h) (hd:∀ k,k<7→1≤(J k).dur):Srt (hMid J h).rn∧(hMid J h).rn.Perm (((Pl J W (h.t+1)).filter fun r=>decide (h.t<r.e)).map rowKey):=by
 refine (let Gl:Prop:=_;(?_:Gl))
 refine (?_:_→_) ((give_spec J h.t (pushR J h.rd h.sp.rd) h.fr h.rn h.pl hI.rns).2.2)
 intro h3
 refine (?_:_→_→_) h3.1 h3.2.1
 intro h3 h4
 refine ⟨h3,h4.trans ?_⟩
 rw [hI.ready,hI.fr]
 show (_++(newL J W h.t (Pl J W h.t)).map rowKey).Perm _
 rw [show Pl J W (h.t+1)=Pl J W h.t++newL J W h.t (Pl J W h.t) from rfl,List.filter_append,List.map_append]
 refine (?_:((newL J W h.t (Pl J W h.t)).filter (fun r=>decide (h.t<r.e))=newL J W h.t (Pl J W h.t))→_) (List.filter_eq_self.mpr fun r hr=>by
  obtain ⟨_,h2⟩:=new_mem hr
  refine (?_:_→_→_) h2.1 h2.2.1
  intro h2 h3
  refine (?_:_→_) (hd _ (rawL_lt h3))
  intro this
  simp;exact ar71 this h2)
 intro e
 rw [e]
 exact hI.rn.append_right _
end
theorem rk_e {r:Row} (hw:r.w<8) (hn:r.n<8):rowKey r / 64=r.e:=by show ((r.e * 8+r.w) * 8+r.n) / 64=r.e;exact ar371 hw hn
theorem rk_w {r:Row} (hw:r.w<8) (hn:r.n<8):rowKey r / 8 % 8=r.w:=by show ((r.e * 8+r.w) * 8+r.n) / 8 % 8=r.w;exact ar388 hw hn
theorem rk_n {r:Row} (hn:r.n<8):rowKey r % 8=r.n:=by show ((r.e * 8+r.w) * 8+r.n) % 8=r.n;exact ar333 hn
structure MI (J:Jobs) (fl:List Nat) (W T:Nat) (m:HS):Prop where
 t:m.t=T
 pl:m.pl=Pl J W (T+1)
 frs:Srt m.fr
 frn:m.fr.Nodup
 fr:∀ v,v∈m.fr↔v<W∧∀ r∈Pl J W (T+1),T<r.e→r.w≠v
 rns:Srt m.rn
 rn:m.rn.Perm (((Pl J W (T+1)).filter fun r=>decide (T<r.e)).map rowKey)
 rds:Srt m.rd
 sp0:m.sp.rd=[]
 ex:∃ D O R:List Nat,SI J D O m.sp∧(∀ k,k∈D↔∃ r∈Pl J W (T+1),r.n=k∧r.e≤T)∧R.Nodup∧m.rd.Perm (R.map (rkey J)) ∧
  (∀ k,k∈O↔(∃ r∈Pl J W (T+1),r.n=k∧T<r.e)∨k∈R)∧(∀ k∈R,k ∉ (Pl J W (T+1)).map (·.n))
theorem range_srt (n:Nat):Srt (List.range n):=List.pairwise_lt_range.imp fun h=>Nat.le_of_lt h
section
variable {J:Jobs} {fl:List Nat} {W:Nat} {h:HS}
theorem HI.mid (hd:∀ k,k<7→1≤(J k).dur) (hfl:FreeSpec J fl) (hI:HI J fl W h):MI J fl W h.t (hMid J h):=by
 obtain ⟨D,O,R,si⟩:=hI.ex
 refine (?_:_→_→_→_→_→_→_) si.1 si.2.1 si.2.2.1 si.2.2.2.1 si.2.2.2.2.1 si.2.2.2.2.2
 intro si hD hR hrd hO hRb
 refine (?_:_→_→_) ((give_spec J h.t (pushR J h.rd h.sp.rd) h.fr h.rn h.pl hI.rns).1) ((give_spec J h.t (pushR J h.rd h.sp.rd) h.fr h.rn h.pl hI.rns).2)
 intro g1 g2
 refine (?_:_→_) g2.1
 intro g2
 refine (?_:_→_) (PI.all (W:=W) hd hfl h.t)
 intro hp
 refine (?_:_→_) (PI.all (W:=W) hd hfl (h.t+1))
 intro hp1
 refine (?_:_→_) (hI.ready)
 intro hready
 rw [hready,hI.fr] at g1 g2
 have emr:(hMid J h).rd=(readyL J h.t (Pl J W h.t)).drop (freeL W h.t (Pl J W h.t)).length:=by
  show (give J h.t (pushR J h.rd h.sp.rd) h.fr h.rn h.pl).1=_
  rw [hready,hI.fr];exact g1
 have emf:(hMid J h).fr=(freeL W h.t (Pl J W h.t)).drop (readyL J h.t (Pl J W h.t)).length:=by
  show (give J h.t (pushR J h.rd h.sp.rd) h.fr h.rn h.pl).2.1=_
  rw [hready,hI.fr];exact g2
 refine (?_:(Srt (freeL W h.t (Pl J W h.t)))→_) ((range_srt W).sublist List.filter_sublist)
 intro hfs
 refine (?_:((freeL W h.t (Pl J W h.t)).Nodup)→_) (List.nodup_range.filter _)
 intro hfn
 have hnew:∀ r,r∈newL J W h.t (Pl J W h.t)→h.t<r.e:=fun r hr=>by
  obtain ⟨_,h2⟩:=new_mem hr
  refine (?_:_→_→_) h2.1 h2.2.1
  intro h2 h3
  refine (?_:_→_) (hd _ (rawL_lt h3))
  intro this
  exact ar71 this h2
 have hmem:∀ r,r∈Pl J W (h.t+1)↔r∈Pl J W h.t∨r∈newL J W h.t (Pl J W h.t):=fun r=>List.mem_append
 refine (?_:_→_→_) ((hI.mid_rn hd).1) ((hI.mid_rn hd).2)
 intro m1 m2
 -- names of ready
 have hrn:((readyL J h.t (Pl J W h.t)).map (· % 8)).Nodup:=ready_perm.nodup_iff.mpr (List.nodup_range.filter _)
 refine (?_:(∀ x∈readyL J h.t (Pl J W h.t),x=rkey J (x % 8))→_) (fun x hx=>by
  obtain ⟨k,hk,rfl⟩:=List.mem_map.mp ((srt_perm _).subset hx)
  refine (?_:_→_) (rawL_lt hk)
  intro this
  refine (?_:(rkey J k % 8=k)→_) (by show ((J k).rank * 8+k) % 8=k;exact ar25 this)
  intro e
  rw [e])
 intro hkey
 have hsplit:∀ k,k∈rawL J h.t (Pl J W h.t)↔k∈(newL J W h.t (Pl J W h.t)).map (·.n)∨k∈(hMid J h).rd.map (· % 8):=fun k=>by
  rw [← ready_perm.mem_iff,new_names,emr,← List.mem_append,← List.map_append,List.take_append_drop]
 refine (?_:(∀ k,k∈(newL J W h.t (Pl J W h.t)).map (·.n)→k ∉ (hMid J h).rd.map (· % 8))→_) (fun k h1 h2=>by
  rw [new_names] at h1
  rw [emr] at h2
  refine (?_:_→_) (hrn)
  intro h3
  rw [← List.take_append_drop (freeL W h.t (Pl J W h.t)).length (readyL J h.t (Pl J W h.t)),List.map_append,List.nodup_append] at h3
  exact h3.2.2 k h1 k h2 rfl)
 intro hdisj
 refine ⟨rfl,hI.mid_pl,?_,?_,fun v=>?_,m1,m2,?_,rfl,D,O++h.sp.rd,(hMid J h).rd.map (· % 8),si.get,fun k=>?_,?_,?_,fun k=>?_,fun k hk=>?_⟩
 ·rw [emf];exact hfs.sublist (List.drop_sublist _ _)
 ·rw [emf];exact hfn.sublist (List.drop_sublist _ _)
 ·have hsp:v∈freeL W h.t (Pl J W h.t)↔v∈(newL J W h.t (Pl J W h.t)).map (·.w)∨v∈(hMid J h).fr:=by
   rw [new_workers,emf,← List.mem_append,List.take_append_drop]
  have hdj:v∈(newL J W h.t (Pl J W h.t)).map (·.w)→v ∉ (hMid J h).fr:=fun h1 h2=>by
   rw [new_workers] at h1
   rw [emf] at h2
   refine (?_:_→_) (hfn)
   intro h3
   rw [← List.take_append_drop (readyL J h.t (Pl J W h.t)).length (freeL W h.t (Pl J W h.t)),List.nodup_append] at h3
   exact h3.2.2 v h1 v h2 rfl
  have hfm:v∈freeL W h.t (Pl J W h.t)↔v<W∧∀ r∈Pl J W h.t,h.t<r.e→r.w≠v:=by
   unfold freeL busyL
   rw [List.mem_filter,List.mem_range]
   simp only [Bool.not_eq_true',decide_eq_false_iff_not,List.mem_map,List.mem_filter,decide_eq_true_eq,not_exists,not_and,and_imp]
  constructor
  ·intro hv
   obtain ⟨q1,q2⟩:=hfm.mp (hsp.mpr (.inr hv))
   refine ⟨q1,fun r hr he ew=>?_⟩
   rcases (hmem r).mp hr with q | q
   ·exact q2 r q he ew
   ·exact hdj (List.mem_map.mpr ⟨r,q,ew⟩) hv
  ·rintro ⟨q1,q2⟩
   rcases hsp.mp (hfm.mpr ⟨q1,fun r hr=>q2 r ((hmem r).mpr (.inl hr))⟩) with q | q
   ·obtain ⟨r,hr,rfl⟩:=List.mem_map.mp q
    exact absurd rfl (q2 r ((hmem r).mpr (.inr hr)) (hnew r hr))
   ·exact q
 ·rw [emr];exact (srt_srt _).sublist (List.drop_sublist _ _)
 ·rw [hD k,mem_done]
  constructor
  ·rintro ⟨r,h1,h2,h3⟩
   exact ⟨r,(hmem r).mpr (.inl h1),h2,h3⟩
  ·rintro ⟨r,h1,h2,h3⟩
   rcases (hmem r).mp h1 with q | q
   ·exact ⟨r,q,h2,h3⟩
   ·have:=hnew r q;exact ar72 this h3
 ·rw [emr];exact hrn.sublist ((List.drop_sublist _ _).map _)
 ·rw [List.map_map]
  refine (?_:((hMid J h).rd.map ((rkey J)∘(· % 8))=(hMid J h).rd)→_) (by
   conv=>rhs;rw [← List.map_id (hMid J h).rd]
   refine List.map_congr_left fun x hx=>?_
   rw [emr] at hx
   exact (hkey x (List.mem_of_mem_drop hx)).symm)
  intro this
  rw [this]
 ·rw [List.mem_append,hO k]
  have hraw:k∈rawL J h.t (Pl J W h.t)↔k∈R∨k∈h.sp.rd:=by
   refine (?_:_→_) (hI.ready)
   intro h1
   refine (?_:(((pushR J h.rd h.sp.rd).map (· % 8)).Perm (rawL J h.t (Pl J W h.t)))→_) (by rw [h1];exact ready_perm)
   intro h2
   rw [← h2.mem_iff]
   refine (?_:_→_) (((pushR_perm J h.sp.rd h.rd).trans (hrd.append_right _)).map (· % 8))
   intro h3
   rw [h3.mem_iff,← List.map_append,List.map_map]
   refine (?_:((R++h.sp.rd).map ((· % 8)∘rkey J)=R++h.sp.rd)→_) (by
    conv=>rhs;rw [← List.map_id (R++h.sp.rd)]
    refine List.map_congr_left fun x hx=>?_
    refine (?_:(x<7)→_) (by
     rcases List.mem_append.mp hx with q | q
     ·exact si.lt x (List.mem_append_right _ ((hO x).mpr (.inr q)))
     ·exact ((si.rd x).mp q).1)
    intro hx7
    show ((J x).rank * 8+x) % 8=x
    exact ar25 hx7)
   intro h4
   rw [h4,List.mem_append]
  constructor
  ·rintro ((⟨r,h1,h2,h3⟩ | q) | q)
   ·exact .inl ⟨r,(hmem r).mpr (.inl h1),h2,h3⟩
   ·rcases (hsplit k).mp (hraw.mpr (.inl q)) with q | q
    ·obtain ⟨r,hr,rfl⟩:=List.mem_map.mp q
     exact .inl ⟨r,(hmem r).mpr (.inr hr),rfl,hnew r hr⟩
    ·exact .inr q
   ·rcases (hsplit k).mp (hraw.mpr (.inr q)) with q | q
    ·obtain ⟨r,hr,rfl⟩:=List.mem_map.mp q
     exact .inl ⟨r,(hmem r).mpr (.inr hr),rfl,hnew r hr⟩
    ·exact .inr q
  ·rintro (⟨r,h1,h2,h3⟩ | q)
   ·rcases (hmem r).mp h1 with q | q
    ·exact .inl (.inl ⟨r,q,h2,h3⟩)
    ·rcases hraw.mp ((hsplit k).mpr (.inl (List.mem_map.mpr ⟨r,q,h2⟩))) with q | q
     ·exact .inl (.inr q)
     ·exact .inr q
   ·rcases hraw.mp ((hsplit k).mpr (.inr q)) with q | q
    ·exact .inl (.inr q)
    ·exact .inr q
 ·intro hm
  obtain ⟨r,hr,rfl⟩:=List.mem_map.mp hm
  rcases (hmem r).mp hr with q | q
  ·exact (mem_raw.mp ((hsplit r.n).mpr (.inr hk))).2.1 (List.mem_map_of_mem q)
  ·exact hdisj r.n (List.mem_map_of_mem q) hk
theorem MI.fin (hd:∀ k,k<7→1≤(J k).dur) (hfl:FreeSpec J fl) (hW:1≤W) {T:Nat} {m:HS} (hm:MI J fl W T m) (h0:m.rn=[]):FinAt J W T∧m.rd=[]∧¬ m.sp.f<m.sp.p:=by
 obtain ⟨D,O,R,si⟩:=hm.ex
 refine (?_:_→_→_→_→_→_→_) si.1 si.2.1 si.2.2.1 si.2.2.2.1 si.2.2.2.2.1 si.2.2.2.2.2
 intro si hD hR hrd hO hRb
 refine (?_:((Pl J W (T+1)).filter (fun r=>decide (T<r.e))=[])→_) (by
  refine (?_:_→_) (hm.rn)
  intro this
  rw [h0] at this
  simpa using this)
 intro h1
 have hfin:FinAt J W T:=fun r hr=>by
  apply Classical.byContradiction
  intro hc
  refine (?_:_→_) ((List.filter_eq_nil_iff.mp h1) r hr)
  intro this
  simp at this
  exact ar198 this hc
 refine (?_:_→_) (fin_all hd hfl hW hfin)
 intro hall
 refine (?_:_→_) (PI.all (W:=W) hd hfl (T+1))
 intro hp
 have hR0:∀ k,k ∉ R:=fun k hk=>by
  refine (?_:(k∈D++O)→_) (List.mem_append_right _ ((hO k).mpr (.inr hk)))
  intro hkO
  have hkf:k∈fl:=free_closed hfl (si.lt k hkO) fun x hx=>by
   obtain ⟨r,g1,rfl,_⟩:=(hD x).mp (si.cl k hkO x hx)
   exact hp.f r g1
  obtain ⟨r,g1⟩:=hall k hkf
  refine (?_:_→_→_) g1.1 g1.2.1
  intro g1 g2
  exact hRb k hk (List.mem_map.mpr ⟨r,g1,g2⟩)
 refine (?_:(R=[])→_) (List.eq_nil_iff_forall_not_mem.mpr hR0)
 intro hRe
 refine (?_:(O=[])→_) (List.eq_nil_iff_forall_not_mem.mpr fun k hk=>by
  rcases (hO k).mp hk with ⟨r,g1,_,g3⟩ | q
  ·have:=hfin r g1;exact ar12 g3 this
  ·exact hR0 k q)
 intro hOe
 refine ⟨hfin,?_,?_⟩
 ·rw [hRe] at hrd;simpa using hrd
 ·rw [si.f,si.p,hOe];simp
theorem new_none (hd:∀ k,k<7→1≤(J k).dur) (hfl:FreeSpec J fl) {T s:Nat} (hTs:T<s) (hpl:Pl J W s=Pl J W (T+1)) (hno:∀ r∈Pl J W (T+1),r.e≤T∨s<r.e):newL J W s (Pl J W s)=[]:=by
 rw [List.eq_nil_iff_forall_not_mem]
 intro r hr
 obtain ⟨_,_,hraw,hfree⟩:=new_mem hr
 obtain ⟨h7,hnb,hw⟩:=mem_raw.mp hraw
 have hp:=PI.all (W:=W) hd hfl (T+1)
 refine (?_:_→_) (PI.all (W:=W) hd hfl s)
 intro hps
 rw [hpl] at hnb hw
 refine (?_:(r.n∈fl)→_) (free_closed hfl h7 fun x hx=>by
  obtain ⟨r',g1,rfl,_⟩:=hw x hx
  exact hp.f r' g1)
 intro hk
 have hlen:¬ (runs T (Pl J W (T+1))).length<W:=fun hlt=>by
  obtain ⟨r',g1,g2,_⟩:=hp.gr T (by exact ar1) r.n hk hlt fun x hx=>by
   obtain ⟨r',g1⟩:=hw x hx
   refine (?_:_→_→_→_) g1.1 g1.2.1 g1.2.2
   intro g1 g2 g3
   rcases hno r' g1 with q | q
   ·exact ⟨r',g1,g2,q⟩
   ·exact ar72 q g3
  exact hnb (List.mem_map.mpr ⟨r',g1,g2⟩)
 refine (?_:_→_→_) hps.busy.1 hps.busy.2
 intro b1 b2
 refine (?_:_→_) (free_len b1 b2)
 intro h3
 refine (?_:((busyL s (Pl J W s)).length=(runs T (Pl J W (T+1))).length)→_) (by
  unfold busyL runs
  rw [List.length_map,hpl]
  congr 1
  refine List.filter_congr fun r' hr'=>?_
  refine (?_:_→_) (hp.b r' hr')
  intro this
  rw [Bool.eq_iff_iff]
  simp only [decide_eq_true_eq,Bool.and_eq_true]
  rcases hno r' hr' with q | q <;> lia)
 intro h4
 have h5:(freeL W s (Pl J W s)).length=0:=by exact ar322 h3 h4 hlen
 rw [List.eq_nil_of_length_eq_zero h5] at hfree
 cases hfree
set_option tactic.hygienic true in
theorem pl_jump (hd:∀ k,k<7→1≤(J k).dur) (hfl:FreeSpec J fl) {T:Nat}:∀ {u:Nat},T+1≤u→(∀ r∈Pl J W (T+1),r.e≤T∨u≤r.e)→Pl J W u=Pl J W (T+1):=by
 intro u hu
 induction hu with
 | refl=>exact fun c=>rfl
 | step hm ih=>
  rename_i m
  intro hno
  refine (?_:_→_) (ih fun r hr=>(hno r hr).imp id fun q=>by exact ar167 q)
  intro h1
  show Pl J W m++newL J W m (Pl J W m)=_
  rw [new_none hd hfl (show T<m from hm) h1 fun r hr=>(hno r hr).imp id fun q=>by exact ar166 q,List.append_nil,h1]
theorem MI.next (hd:∀ k,k<7→1≤(J k).dur) (hfl:FreeSpec J fl) (hW7:W≤7) {T:Nat} {m:HS} (hm:MI J fl W T m) (h0:m.rn≠[]) :
 ¬ FinAt J W T∧m.sp.f<m.sp.p∧DoneOk (gAll J).su m.sp (hEnded m)∧T<hTime m∧HI J fl W (hNext (gAll J).su m):=by
  obtain ⟨D,O,R,si⟩:=hm.ex
  refine (?_:_→_→_→_→_→_→_) si.1 si.2.1 si.2.2.1 si.2.2.2.1 si.2.2.2.2.1 si.2.2.2.2.2
  intro si hD hR hrd hO hRb
  have hp:=PI.all (W:=W) hd hfl (T+1)
  refine (?_:(∀ r∈Pl J W (T+1),r.w<8)→_) (fun r hr=>by refine (?_:_→_) (hp.w r hr);intro this;exact ar54 this hW7)
  intro hw8
  have hn7:∀ r∈Pl J W (T+1),r.n<7:=fun r hr=>hfl.lt _ (hp.f r hr)
  have hke:∀ r∈Pl J W (T+1),rowKey r / 64=r.e:=fun r hr=>rk_e (hw8 r hr) (by refine (?_:_→_) (hn7 r hr);intro this;exact ar2 this)
  have hkm:∀ y,y∈m.rn↔∃ r∈Pl J W (T+1),T<r.e∧rowKey r=y:=fun y=>by
   rw [hm.rn.mem_iff,List.mem_map]
   constructor
   ·rintro ⟨r,g1,g2⟩
    refine (?_:_→_→_) ((List.mem_filter.mp g1).1) ((List.mem_filter.mp g1).2)
    intro g3 g4
    exact ⟨r,g3,by simpa using g4,g2⟩
   ·rintro ⟨r,g1,g2,g3⟩
    exact ⟨r,List.mem_filter.mpr ⟨g1,by simpa using g2⟩,g3⟩
  -- the least end
  obtain ⟨y0,rn',hrn'⟩:∃ y0 rn',m.rn=y0::rn':=by
   cases hq:m.rn with
   | nil=>exact absurd hq h0
   | cons a b=>exact ⟨a,b,rfl⟩
  have hT':hTime m=y0 / 64:=by unfold hTime;rw [hrn'];rfl
  have hmin:∀ y∈m.rn,hTime m≤y / 64:=fun y hy=>by
   rw [hT']
   refine (?_:_→_) (hm.rns)
   intro hs
   rw [hrn'] at hs hy
   rw [Srt,List.pairwise_cons] at hs
   rcases List.mem_cons.mp hy with rfl | q
   ·exact Nat.le_refl _
   ·exact Nat.div_le_div_right (hs.1 y q)
  obtain ⟨r0,hr0,he0,hk0⟩:=(hkm y0).mp (hrn'▸.head _)
  have hT0:hTime m=r0.e:=by rw [hT',← hk0,hke r0 hr0]
  have hA:∀ r∈Pl J W (T+1),T<r.e→hTime m≤r.e:=fun r hr he=>by
   refine (?_:_→_) (hmin (rowKey r) ((hkm _).mpr ⟨r,hr,he,rfl⟩))
   intro this
   rwa [hke r hr] at this
  generalize hTT:hTime m=T' at *
  refine (?_:(T<T')→_) (by exact ar323 he0 hT0 hT')
  intro hlt
  have hPl:Pl J W T'=Pl J W (T+1):=pl_jump hd hfl (by exact ar351 he0 hT0 hT') fun r hr=>by
   by_cases q:r.e≤T
   ·exact .inl q
   ·exact .inr (hA r hr (by exact ar10 q))
  refine (?_:_→_→_) ((ends_spec T' m.rn m.fr [] hm.rns hm.frs hmin).1) ((ends_spec T' m.rn m.fr [] hm.rns hm.frs hmin).2)
  intro e1 e2
  refine (?_:_→_→_→_) e2.1 e2.2.1 e2.2.2
  intro e2 e3 e4
  rw [List.nil_append] at e4
  refine (?_:(hEnded m=(m.rn.filter fun y=>decide (y / 64=T')).map (· % 8))→_) (by
   unfold hEnded;rw [hTT];exact e4)
  intro hEn
  have hEm:∀ k,k∈hEnded m↔∃ r∈Pl J W (T+1),r.n=k∧r.e=T':=fun k=>by
   rw [hEn,List.mem_map]
   constructor
   ·rintro ⟨y,g1,rfl⟩
    obtain ⟨g2,g3⟩:=List.mem_filter.mp g1
    obtain ⟨r,g4,g5,rfl⟩:=(hkm y).mp g2
    rw [hke r g4] at g3
    exact ⟨r,g4,(rk_n (by refine (?_:_→_) (hn7 r g4);intro this;exact ar2 this)).symm,by simpa using g3⟩
   ·rintro ⟨r,g1,rfl,g2⟩
    exact ⟨rowKey r,List.mem_filter.mpr ⟨(hkm _).mpr ⟨r,g1,by exact ar90 he0 g2 hT0 hT',rfl⟩,by rw [hke r g1];simpa using g2⟩,rk_n (by refine (?_:_→_) (hn7 r g1);intro this;exact ar2 this)⟩
  refine (?_:((hEnded m).Perm (((Pl J W (T+1)).filter fun r=>decide (r.e=T')).map (·.n)))→_) (by
   rw [hEn]
   refine ((hm.rn.filter _).map _).trans ?_
   rw [List.filter_map,List.map_map]
   refine (?_:(((Pl J W (T+1)).filter fun r=>decide (T<r.e)).filter ((fun y=>decide (y / 64=T'))∘rowKey)=(Pl J W (T+1)).filter fun r=>decide (r.e=T'))→_) (by
    rw [List.filter_filter]
    refine List.filter_congr fun r hr=>?_
    show (decide (rowKey r / 64=T') && decide (T<r.e))=_
    rw [hke r hr,Bool.eq_iff_iff]
    simp only [Bool.and_eq_true,decide_eq_true_eq]
    exact ar87 hT0 he0)
   intro h1
   rw [h1]
   refine List.Perm.of_eq (List.map_congr_left fun r hr=>?_)
   refine (?_:_→_) (hn7 r (List.mem_filter.mp hr).1)
   intro this
   exact rk_n (by exact ar2 this))
  intro hEp
  refine (?_:((hEnded m).Nodup)→_) (hEp.nodup_iff.mpr (hp.nd.sublist (List.filter_sublist.map _)))
  intro hEnd
  obtain ⟨d1,O',d2,d3⟩:=si.doneL hEnd fun k hk=>(hO k).mpr (.inl (by
   obtain ⟨r,g1⟩:=(hEm k).mp hk
   refine (?_:_→_→_→_) g1.1 g1.2.1 g1.2.2
   intro g1 g2 g3
   exact ⟨r,g1,g2,by exact ar90 he0 g3 hT0 hT'⟩))
  refine ⟨fun hf=>by refine (?_:_→_) (hf r0 hr0);intro this;exact ar12 he0 this,?_,d1,hlt,?_⟩
  ·rw [si.f,si.p]
   refine (?_:_→_) (List.length_pos_of_mem ((hO r0.n).mpr (.inl ⟨r0,hr0,rfl,he0⟩)))
   intro this
   exact ar353 this
  refine (?_:(hNext (gAll J).su m=⟨(ends T' m.rn m.fr []).2.1,m.rd,(ends T' m.rn m.fr []).1,m.pl,T',m.sp.doneL (gAll J).su (hEnded m)⟩)→_) (by
   unfold hNext hEnded;rw [hTT])
  intro hnx
  rw [hnx]
  refine ⟨by rw [hm.pl];exact hPl.symm,?_,?_,?_,hm.rds,D++hEnded m,O',R,d2,fun k=>?_,hR,hrd,fun k=>?_,fun k hk=>?_⟩
  ·-- free
   refine srt_uniq ?_ e2 ((range_srt W).sublist List.filter_sublist)
   refine e3.trans ?_
   refine (?_:((((m.rn.filter fun y=>decide (y / 64=T')).map fun y=>y / 8 % 8)).Perm (((Pl J W (T+1)).filter fun r=>decide (r.e=T')).map (·.w)))→_) (by
    refine ((hm.rn.filter _).map _).trans ?_
    rw [List.filter_map,List.map_map]
    refine (?_:(((Pl J W (T+1)).filter fun r=>decide (T<r.e)).filter ((fun y=>decide (y / 64=T'))∘rowKey)=(Pl J W (T+1)).filter fun r=>decide (r.e=T'))→_) (by
     rw [List.filter_filter]
     refine List.filter_congr fun r hr=>?_
     show (decide (rowKey r / 64=T') && decide (T<r.e))=_
     rw [hke r hr,Bool.eq_iff_iff]
     simp only [Bool.and_eq_true,decide_eq_true_eq]
     exact ar87 hT0 he0)
    intro h1
    rw [h1]
    refine List.Perm.of_eq (List.map_congr_left fun r hr=>?_)
    refine (?_:_→_) ((List.mem_filter.mp hr).1)
    intro h2
    exact rk_w (hw8 r h2) (by refine (?_:_→_) (hn7 r h2);intro this;exact ar2 this))
   intro hwk
   refine (hwk.append_left _).trans ?_
   have hrunn:(((Pl J W (T+1)).filter fun r=>decide (T<r.e)).map (·.w)).Nodup:=by
    refine (?_:_→_) (hp.wk T (by exact ar1))
    intro h1
    refine (?_:((runs T (Pl J W (T+1)))=(Pl J W (T+1)).filter fun r=>decide (T<r.e))→_) (by
     unfold runs
     refine List.filter_congr fun r hr=>?_
     refine (?_:_→_) (hp.b r hr)
     intro this
     rw [Bool.eq_iff_iff];simp;exact ar247 this)
    intro this
    rwa [this] at h1
   have hone:∀ r r',r∈Pl J W (T+1)→r'∈Pl J W (T+1)→T<r.e→T<r'.e→r.w=r'.w→r=r':=fun r r' g1 g2 g3 g4 g5=>by
    refine (?_:(r∈(Pl J W (T+1)).filter fun r=>decide (T<r.e))→_) (List.mem_filter.mpr ⟨g1,by simpa using g3⟩)
    intro q1
    refine (?_:(r'∈(Pl J W (T+1)).filter fun r=>decide (T<r.e))→_) (List.mem_filter.mpr ⟨g2,by simpa using g4⟩)
    intro q2
    obtain ⟨i,hi⟩:=List.getElem_of_mem q1
    refine (?_:_→_→_) hi.1 hi.2
    intro hi e5
    obtain ⟨j,hj⟩:=List.getElem_of_mem q2
    refine (?_:_→_→_) hj.1 hj.2
    intro hj e6
    refine (?_:(i=j)→_) ((List.getElem_inj hrunn (h₀:=by simpa using hi) (h₁:=by simpa using hj)).mp (by simp only [List.getElem_map,e5,e6];exact g5))
    intro this
    subst this
    exact e5.symm.trans e6
   refine (?_:(∀ v,v∈freeL W T' (Pl J W T')↔v<W∧∀ r∈Pl J W (T+1),T'<r.e→r.w≠v)→_) (fun v=>by
    rw [hPl]
    unfold freeL busyL
    rw [List.mem_filter,List.mem_range]
    simp only [Bool.not_eq_true',decide_eq_false_iff_not,List.mem_map,List.mem_filter,decide_eq_true_eq,not_exists,not_and,and_imp])
   intro hfree
   refine (?_:((freeL W T' (Pl J W T')).Nodup)→_) (List.nodup_range.filter _)
   intro hfnd
   rw [List.perm_ext_iff_of_nodup ?_ hfnd]
   ·intro v
    show _↔v∈freeL W T' (Pl J W T')
    rw [hfree v,List.mem_append,hm.fr v]
    constructor
    ·rintro (⟨g1,g2⟩ | g)
     ·exact ⟨g1,fun r hr he=>g2 r hr (by exact ar28 he0 he hT0 hT')⟩
     ·obtain ⟨r,hr,rfl⟩:=List.mem_map.mp g
      refine (?_:_→_→_) ((List.mem_filter.mp hr).1) ((List.mem_filter.mp hr).2)
      intro g1 g2
      refine (?_:(r.e=T')→_) (by simpa using g2)
      intro g2
      refine ⟨hp.w r g1,fun r' hr' he' ew=>?_⟩
      refine (?_:_→_) (hone r' r hr' g1 (by exact ar28 he0 he' hT0 hT') (by exact ar94 he0 hT0 hT' ‹_›) ew)
      intro this
      subst this
      exact ar410 he' hT' hT0 ‹_›
    ·rintro ⟨g1,g2⟩
     by_cases q:∃ r∈Pl J W (T+1),T<r.e∧r.w=v
     ·obtain ⟨r,hr,he,rfl⟩:=q
      right
      refine (?_:_→_) (hA r hr he)
      intro h1
      refine (?_:(¬ T'<r.e)→_) (fun g=>g2 r hr g rfl)
      intro h2
      exact List.mem_map.mpr ⟨r,List.mem_filter.mpr ⟨hr,by simp;exact ar369 hT' hT0 h1 h2⟩,rfl⟩
     ·left
      exact ⟨g1,fun r hr he ew=>q ⟨r,hr,he,ew⟩⟩
   ·rw [List.nodup_append]
    refine ⟨hm.frn,?_,fun a ha b hb e=>?_⟩
    ·refine hrunn.sublist ?_
     refine (?_:(((Pl J W (T+1)).filter fun r=>decide (r.e=T'))=((Pl J W (T+1)).filter fun r=>decide (T<r.e)).filter fun r=>decide (r.e=T'))→_) (by
      rw [List.filter_filter]
      refine List.filter_congr fun r hr=>?_
      rw [Bool.eq_iff_iff];simp only [Bool.and_eq_true,decide_eq_true_eq];exact ar408 hT' hT0 he0)
     intro this
     rw [this]
     exact List.filter_sublist.map _
    ·subst e
     obtain ⟨r,hr,rfl⟩:=List.mem_map.mp hb
     refine (?_:_→_→_) ((List.mem_filter.mp hr).1) ((List.mem_filter.mp hr).2)
     intro g1 g2
     refine (?_:(r.e=T')→_) (by simpa using g2)
     intro g2
     exact ((hm.fr _).mp ha).2 r g1 (by exact ar94 he0 hT0 hT' ‹_›) rfl
  ·show Srt (ends T' m.rn m.fr []).1
   rw [e1];exact hm.rns.sublist List.filter_sublist
  ·show (ends T' m.rn m.fr []).1.Perm (((Pl J W T').filter fun r=>decide (T'<r.e)).map rowKey)
   rw [e1,hPl]
   refine (hm.rn.filter _).trans ?_
   rw [List.filter_map]
   refine (?_:(((Pl J W (T+1)).filter fun r=>decide (T<r.e)).filter ((fun y=>!decide (y / 64=T'))∘rowKey)=(Pl J W (T+1)).filter fun r=>decide (T'<r.e))→_) (by
    rw [List.filter_filter]
    refine List.filter_congr fun r hr=>?_
    show (!decide (rowKey r / 64=T') && decide (T<r.e))=_
    rw [hke r hr,Bool.eq_iff_iff]
    simp only [Bool.and_eq_true,decide_eq_true_eq,Bool.not_eq_true',decide_eq_false_iff_not]
    refine (?_:_→_) (hA r hr)
    intro this
    exact ar433 this hT' hT0 he0)
   intro h1
   rw [h1]
  ·show k∈D++hEnded m↔k∈doneL T' (Pl J W T')
   rw [mem_done,hPl,List.mem_append,hD k,hEm k]
   constructor
   ·rintro (⟨r,g1,g2,g3⟩ | ⟨r,g1,g2,g3⟩)
    ·exact ⟨r,g1,g2,by exact ar374 g3 hT' hT0 he0⟩
    ·exact ⟨r,g1,g2,by exact ar324 g3 hT' hT0⟩
   ·rintro ⟨r,g1,g2,g3⟩
    by_cases q:r.e≤T
    ·exact .inl ⟨r,g1,g2,q⟩
    ·exact .inr ⟨r,g1,g2,by refine (?_:_→_) (hA r g1 (by exact ar10 q));intro this;exact ar365 g3 hT' hT0 this⟩
  ·show k∈O'↔(∃ r∈Pl J W T',r.n=k∧T'<r.e)∨k∈R
   rw [d3 k,hO k,hPl,hEm k]
   constructor
   ·rintro ⟨⟨r,g1,g2,g3⟩ | g,g4⟩
    ·left
     refine ⟨r,g1,g2,?_⟩
     refine (?_:_→_) (hA r g1 g3)
     intro this
     refine (?_:(r.e≠T')→_) (fun e=>g4 ⟨r,g1,g2,e⟩)
     intro this
     exact ar364 hT' hT0 ‹_› this
    ·exact .inr g
   ·rintro (⟨r,g1,g2,g3⟩ | g)
    ·refine ⟨.inl ⟨r,g1,g2,by exact ar28 he0 g3 hT0 hT'⟩,?_⟩
     rintro ⟨r',g4,g5,g6⟩
     refine (?_:_→_) (row_one hp.nd g1 g4 (g2.trans g5.symm))
     intro this
     subst this;exact ar363 g3 hT' hT0 g6
    ·refine ⟨.inr g,?_⟩
     rintro ⟨r',g4,g5,g6⟩
     exact hRb k g (List.mem_map.mpr ⟨r',g4,g5⟩)
  ·show k ∉ (Pl J W T').map (·.n)
   rw [hPl];exact hRb k hk
end
section
variable {J:Jobs} {fl:List Nat} {W:Nat} {h:HS}
theorem rkey_mod {J:Jobs} {k:Nat} (h:k<8):rkey J k % 8=k:=by show ((J k).rank * 8+k) % 8=k;exact ar70 h
theorem HI.hb (hd:∀ k,k<7→1≤(J k).dur) (hfl:FreeSpec J fl) (hW7:W≤7) (hI:HI J fl W h):HB h:=by
 obtain ⟨D,O,R,si⟩:=hI.ex
 refine (?_:_→_→_→_→_→_→_) si.1 si.2.1 si.2.2.1 si.2.2.2.1 si.2.2.2.2.1 si.2.2.2.2.2
 intro si hD hR hrd hO hRb
 refine (?_:_→_) (PI.all (W:=W) hd hfl h.t)
 intro hp
 refine (?_:_→_) (hp.len hfl)
 intro hlen
 have hR7:∀ k∈R,k<7:=fun k hk=>si.lt k (List.mem_append_right _ ((hO k).mpr (.inr hk)))
 refine ⟨⟨?_,?_,fun v hv=>?_⟩,⟨hI.rds,?_,fun x hx=>?_⟩,⟨hI.rns,?_,fun y hy=>?_⟩,?_,?_,fun k hk=>((si.rd k).mp hk).1⟩
 ·rw [hI.fr];exact (range_srt W).sublist List.filter_sublist
 ·rw [hI.fr]
  refine (?_:_→_) (List.length_filter_le (fun v=>!decide (v∈busyL h.t (Pl J W h.t))) (List.range W))
  intro this
  rw [List.length_range] at this
  show ((List.range W).filter _).length≤20
  exact ar197 this hW7
 ·rw [hI.fr] at hv
  refine (?_:_→_) (List.mem_range.mp (List.mem_filter.mp hv).1)
  intro this
  exact ar54 this hW7
 ·refine (?_:_→_) (hrd.length_eq)
  intro h1
  rw [List.length_map] at h1
  refine (?_:_→_) (nodup_len hR hR7)
  intro this
  exact ar58 h1 this
 ·obtain ⟨k,hk,rfl⟩:=List.mem_map.mp (hrd.subset hx)
  refine (?_:_→_) (hR7 k hk)
  intro this
  rw [rkey_mod (by exact ar2 this)];exact this
 ·refine (?_:_→_) (hI.rn.length_eq)
  intro h1
  rw [List.length_map] at h1
  refine (?_:_→_) (List.length_filter_le (fun r:Row=>decide (h.t<r.e)) (Pl J W h.t))
  intro this
  exact ar77 h1 this hlen
 ·obtain ⟨r,hr,rfl⟩:=List.mem_map.mp (hI.rn.subset hy)
  refine (?_:_→_) (hfl.lt _ (hp.f r (List.mem_filter.mp hr).1))
  intro this
  rw [rk_n (by exact ar2 this)];exact this
 ·rw [hI.pl];exact ar6 hlen
 ·refine (?_:_→_) (nodup_len si.rdn fun k hk=>((si.rd k).mp hk).1)
  intro this
  exact ar6 this
theorem MI.hb (hd:∀ k,k<7→1≤(J k).dur) (hfl:FreeSpec J fl) (hW7:W≤7) {T:Nat} {m:HS} (hm:MI J fl W T m):HB m:=by
 obtain ⟨D,O,R,si⟩:=hm.ex
 refine (?_:_→_→_→_→_→_→_) si.1 si.2.1 si.2.2.1 si.2.2.2.1 si.2.2.2.2.1 si.2.2.2.2.2
 intro si hD hR hrd hO hRb
 refine (?_:_→_) (PI.all (W:=W) hd hfl (T+1))
 intro hp
 refine (?_:_→_) (hp.len hfl)
 intro hlen
 have hR7:∀ k∈R,k<7:=fun k hk=>si.lt k (List.mem_append_right _ ((hO k).mpr (.inr hk)))
 have hfr7:∀ v∈m.fr,v<7:=fun v hv=>by refine (?_:_→_) (((hm.fr v).mp hv).1);intro this;exact ar53 this hW7
 refine ⟨⟨hm.frs,?_,fun v hv=>?_⟩,⟨hm.rds,?_,fun x hx=>?_⟩,⟨hm.rns,?_,fun y hy=>?_⟩,?_,?_,fun k hk=>((si.rd k).mp hk).1⟩
 ·refine (?_:_→_) (nodup_len hm.frn hfr7)
  intro this
  exact ar6 this
 ·have:=hfr7 v hv;exact ar2 this
 ·refine (?_:_→_) (hrd.length_eq)
  intro h1
  rw [List.length_map] at h1
  refine (?_:_→_) (nodup_len hR hR7)
  intro this
  exact ar58 h1 this
 ·obtain ⟨k,hk,rfl⟩:=List.mem_map.mp (hrd.subset hx)
  refine (?_:_→_) (hR7 k hk)
  intro this
  rw [rkey_mod (by exact ar2 this)];exact this
 ·refine (?_:_→_) (hm.rn.length_eq)
  intro h1
  rw [List.length_map] at h1
  refine (?_:_→_) (List.length_filter_le (fun r:Row=>decide (T<r.e)) (Pl J W (T+1)))
  intro this
  exact ar77 h1 this hlen
 ·obtain ⟨r,hr,rfl⟩:=List.mem_map.mp (hm.rn.subset hy)
  refine (?_:_→_) (hfl.lt _ (hp.f r (List.mem_filter.mp hr).1))
  intro this
  rw [rk_n (by exact ar2 this)];exact this
 ·rw [hm.pl];exact ar6 hlen
 ·rw [hm.sp0];simp
theorem HI.zero (hn:(gAll J).order.Nodup) (hlt:∀ k∈(gAll J).order,k<7):HI J fl W ⟨List.range W,[],[],[],0,⟨fun k=>((gAll J).np k:Int),rdOf (gAll J).np (gAll J).order,0,0⟩⟩:=by
 refine ⟨rfl,?_,.nil,.refl _,.nil,[],[],[],SI.init hn hlt,fun k=>?_,.nil,.refl _,fun k=>?_,fun k hk=>?_⟩
 ·show List.range W=freeL W 0 []
  unfold freeL busyL
  rw [List.filter_eq_self.mpr (by simp)]
 ·show k∈[]↔k∈doneL 0 []
  simp [doneL]
 ·show k∈[]↔(∃ r∈([]:List Row),r.n=k∧0<r.e)∨k∈[]
  simp
 ·cases hk
end
section
variable {w:World} {A:Around} {E:VP} {s:Shared} {ρ:Rest} {z:Z} {Δ:Ds}
theorem su_len {J:Jobs} (hJ:JOk J) (x:Nat):((gAll J).su x).length≤50:=by
 refine (?_:_→_) (gOf_len (wt:=fun k=>(J k).waits) hJ.wl 7 (by exact ar99) x)
 intro this
 exact Nat.le_trans this (by exact ar105)
theorem heaps_law {J:Jobs} {fl:List Nat} (hJ:JOk J) (hfl:FreeSpec J fl) {a r0:Addr} {sa:SA} {W:Nat} {tw:Tok} {Q:VP} (hW:1≤W) (hW7:W≤7)
 (S:St w ρ z (postE sa r0 (gAll J).order ⟨fun k=>((gAll J).np k:Int),rdOf (gAll J).np (gAll J).order,0,0⟩++Δ) s) (ok:POk w z sa (gAll J).order (gAll J).su) (hj:JobsAt w z J a) (R:Room A 6)
 (K:∀ q z' s' T vs,Sub z z'→FinAt J W T→RowL z' vs (Pl J W (T+1))→St w ρ z' ((q,ListO vs)::Δ) s'→Q (.ref q) s') :
 wpAny (model PG w) A (call (.ref 191) [.ref sa.x,.ref a,.int W tw]) Q E s:=by
  refine by_heaps_spec hJ S ok hj (fun k hk=>gAll_ord J hk) (su_len hJ) (fun k hk j hj=>gAll_ord J (gAll_su.mp hj).1) hW7 R (fun n h=>n=22 - h.t∧HI J fl W h) 22 ⟨rfl,HI.zero ok.ok.nodup ok.ok.lt⟩ ?_ ?_
  ·rintro n h ⟨rfl,hI⟩
   refine (?_:_→_) (hI.mid hJ.dur1 hfl)
   intro hm
   refine ⟨hI.hb hJ.dur1 hfl hW7,hm.hb hJ.dur1 hfl hW7,fun h0=>?_,fun h0=>?_⟩
   ·refine (?_:_→_→_) ((hm.fin hJ.dur1 hfl hW h0).2.1) ((hm.fin hJ.dur1 hfl hW h0).2.2)
    intro h2 h3
    exact ⟨h2,h3⟩
   ·refine (?_:_→_→_) ((hm.next hJ.dur1 hfl hW7 h0).1) ((hm.next hJ.dur1 hfl hW7 h0).2)
    intro h1 h2
    refine (?_:_→_→_→_→_) h2.1 h2.2.1 h2.2.2.1 h2.2.2.2
    intro h2 h3 h4 h5
    refine (?_:_→_) (fin_bound hJ hfl hW h1)
    intro hb
    refine ⟨h2,h3,22 - hTime (hMid J h),?_,rfl,h5⟩
    exact ar429 hb ‹_›
  ·rintro q z' s' n h st' vs hz ⟨rfl,hI⟩ h0 hvs S
   refine (?_:_→_) (hI.mid hJ.dur1 hfl)
   intro hm
   refine K q z' s' h.t vs hz (hm.fin hJ.dur1 hfl hW h0).1 (hI.mid_pl▸hvs) ?_
   refine S.le fun f=>?_
   simp only [List.map_cons,List.map_append,List.sum_cons,List.sum_append];exact ar305
theorem lists_law {J:Jobs} {fl:List Nat} (hJ:JOk J) (hfl:FreeSpec J fl) {a:Addr} {W:Nat} {tw:Tok} {Q:VP} (hW:1≤W) (hW7:W≤7) (S:St w ρ z Δ s) (hj:JobsAt w z J a) (R:Room A 6)
 (K:∀ q z' s' T vs,Sub z z'→FinAt J W T→RowL z' vs (Pl J W (T+1))→St w ρ z' ((q,ListO vs)::Δ) s'→Q (.ref q) s') :
 wpAny (model PG w) A (call (.ref 196) [.ref a,.int W tw]) Q E s:=by
  refine by_lists_spec hJ S hj hW7 R (fun n pl t=>n=22 - t∧pl=Pl J W t) 22 ⟨rfl,rfl⟩ ?_ ?_
  ·rintro n pl t ⟨rfl,rfl⟩
   refine (?_:_→_) (PI.all (W:=W) hJ.dur1 hfl t)
   intro hp
   refine (?_:_→_) (PI.all (W:=W) hJ.dur1 hfl (t+1))
   intro hp1
   refine ⟨by refine (?_:_→_) (hp.len hfl);intro this;exact ar6 this,fun r hr=>hfl.lt _ (hp.f r hr),by refine (?_:_→_) (hp1.len hfl);intro this;show (Pl J W (t+1)).length≤20;exact ar6 this,fun hn=>?_⟩
   refine (?_:_→_) (fin_bound (t:=t) hJ hfl hW hn)
   intro this
   exact ⟨22 - (t+1),by exact ar251 this,rfl,rfl⟩
  ·rintro q z' s' n pl t vs hz ⟨rfl,rfl⟩ hf hvs S
   exact K q z' s' t vs hz hf hvs S
theorem ch_bound {J:Jobs} {fl:List Nat} (hJ:JOk J) (hfl:FreeSpec J fl):∀ k∈fl,chOf J fl k≤1000:=by
 refine (?_:(∀ (i:Nat) (k:Nat),fl[i]?=some k→chOf J fl k≤3 * (i+1))→_) (by
  intro i
  induction i using Nat.strongRecOn with
  | ind i ih=>
   intro k hk
   refine (?_:_→_) (List.mem_of_getElem? hk)
   intro hm
   rw [ch_eq hfl hm]
   refine (?_:_→_) (hJ.dur3 k (hfl.lt k hm))
   intro h1
   refine (?_:(lmax ((J k).waits.map (chOf J fl))≤3 * i)→_) (by
    by_cases q:(J k).waits.map (chOf J fl)=[]
    ·rw [q];exact Nat.zero_le _
    ·obtain ⟨x,hx,hxe⟩:=List.mem_map.mp (lmax_mem q)
     have:=hfl.topo i k hk x hx
     obtain ⟨j,hj⟩:=List.getElem?_of_mem this
     rw [List.getElem?_take] at hj
     split at hj
     ·have:=ih j (by exact ar40 ‹_›) x hj
      rw [← hxe];exact ar313 this ‹_›
     ·cases hj)
   intro h2
   exact ar340 h1 h2)
 intro key
 intro k hk
 obtain ⟨i,hi⟩:=List.getElem?_of_mem hk
 refine (?_:_→_) (key i k hi)
 intro h1
 refine (?_:_→_) ((List.getElem?_eq_some_iff.mp hi).1)
 intro h2
 refine (?_:_→_) (nodup_len hfl.nd hfl.lt)
 intro h3
 exact ar354 h1 h2 h3
theorem e_bound {J:Jobs} {fl:List Nat} (hJ:JOk J) (hfl:FreeSpec J fl) {W T:Nat} (hW:1≤W) (hf:FinAt J W T):∀ r∈Pl J W (T+1),r.e≤1000:=by
 -- an earlier end,if any
 intro r hr
 apply Classical.byContradiction
 intro hc
 refine (?_:(T ≥ 1001)→_) (by have:=hf r hr;exact ar258 this hc)
 intro h1
 refine (?_:(¬ FinAt J W (r.e - 1))→_) (fun h=>by
  refine (?_:_→_) (fin_same hJ.dur1 hfl hW hf h)
  intro this
  rw [this] at hr
  refine (?_:_→_) (h r hr)
  intro this
  exact ar241 this hc)
 intro hn
 refine (?_:_→_) (fin_bound hJ hfl hW hn)
 intro this
 exact ar249 this hc
end
section
variable {w:World} {ρ:Rest} {z:Z} {env:Env} {A:Around} {E:VP} {s:Shared} {Δ X:Ds} {L:Addr} {m:Loc} {F:Addr×OP}
theorem o_fdiv {a b:Int} {t u:Tok} {Q:VP} (S:St w ρ z Δ s) (hb:b≠0) (hp:Builtin.divisionGoesByPylong a b=false) (h:∀ t s',St w ρ z Δ s'→Q (.int (a.fdiv b) t) s'):wpAny (model PG w) A (binaryOp .FloorDiv (.int a t) (.int b u)) Q E s:=
 PyProof.Rows.floordiv_int hb (h _ _ S.toks) (.inl hp)
theorem meets_zip_sl (x:Str) (t:Tok) (l2:Addr) (ys:Array Value) (ha:x.cps.all (·<128)=true) :
 Meets (Builtin.«zip.__new__» ⟨[.type "zip",.str x t,.ref l2],[]⟩) (fun c R s=>s.heap.IsList l2 ys ∧
 ∀ h1 h2 h3 h4 h5:Heap,h1=s.heap.push { cls:=.type "str_ascii_iterator",data:=.fields #[.str x t,.int 0 0] }→h2=h1.push { cls:=.type "list_iterator",data:=.fields #[.ref l2,.int 0 0] } →
 h3=h2.push { cls:=.type "tuple",data:=.seq #[.ref s.heap.objs.size,.ref h1.objs.size] }→h4=h3.push { cls:=.type "tuple",data:=.seq #[.none,.none] } →
 h5=h4.push { cls:=.type "zip",data:=.fields #[.none,.bool false,.bool false,.ref h2.objs.size,.ref h3.objs.size] } →
 R (.ok (.ret (.ref h4.objs.size))) { s with heap:=h5 }):=
  .of_wp fun prog w A R s h=>by
   obtain ⟨hp,g,d,tk,os⟩:=s;obtain ⟨hl2,h⟩:=h
   have hsub:=sub_zip
   have hL2:Heap.IsList (Shared.heap ⟨hp.push { cls:=.type "str_ascii_iterator",data:=.fields #[.str x t,.int 0 0] },g,d,tk,os⟩) l2 ys:=Heap.IsList.push hl2 _
   wp_walk using wpAny_pyIter_ascii ha,wpAny_pyIter_list hL2
   exact ⟨_,rfl,h _ _ _ _ _ rfl rfl rfl rfl rfl⟩
end
section
variable {w:World} {ρ:Rest} {z:Z} {env:Env} {A:Around} {E:VP} {s:Shared} {Δ X:Ds} {L:Addr} {m:Loc} {F:Addr×OP}
theorem b_zip_sl {x:Str} {t:Tok} {l2:Addr} {vs2:List AV} {β:Type} {items2:List β} {Q:VP} (S:St w ρ z (F::Δ) s) (ha:x.cps.all (·<128)=true) (h2:Has s l2 (ListO vs2))
 (k:∀ zz TI TO i1 i2 z' s',Sub z z'→Fz z' TI (PairV (.ref i1) (.ref i2))→St w ρ z' (F::(zz,ZipO TI TO .none)::(TO,PairE)::(i1,SItO x (x.cps.toList.map fun c=>(⟨#[c]⟩:Str)))::(i2,LItO l2 items2 items2)::Δ) s'→Q (.ref zz) s') :
 wpAny (model PG w) A (call (.type "zip") [.str x t,.ref l2]) Q E s:=by
  obtain ⟨a2,g2⟩:=ListO.isL h2
  refine (?_:_→_→_) g2.1 g2.2
  intro g2 r2
  refine callType_new PySem.F.called_zip (by decide) (PySem.F.typeCall_zip_2 _ _) (PySem.F.newCall_zip_2 _ _) (fun obj=>PySem.F.args_object_init_3 obj _ _) PySem.F.entry_zip_new
   (meets_zip_sl x t l2 a2 ha) ⟨g2,?_⟩
  intro h1 h2' h3 h4 h5 e1 e2 e3 e4 e5
  have z1:h1.objs.size=s.heap.objs.size+1:=by rw [e1];exact Heap.size_push ..
  have z2:h2'.objs.size=s.heap.objs.size+2:=by rw [e2,Heap.size_push,z1]
  have z3:h3.objs.size=s.heap.objs.size+3:=by rw [e3,Heap.size_push,z2]
  have z4:h4.objs.size=s.heap.objs.size+4:=by rw [e4,Heap.size_push,z3]
  refine (?_:(∀ {a o},s.heap.get? a=some o→h1.get? a=some o)→_) (fun q=>by rw [e1];exact Heap.get?_push_of_some _ q)
  intro k1
  have k2:∀ {a o},h1.get? a=some o→h2'.get? a=some o:=fun q=>by rw [e2];exact Heap.get?_push_of_some _ q
  have k3:∀ {a o},h2'.get? a=some o→h3.get? a=some o:=fun q=>by rw [e3];exact Heap.get?_push_of_some _ q
  have k4:∀ {a o},h3.get? a=some o→h4.get? a=some o:=fun q=>by rw [e4];exact Heap.get?_push_of_some _ q
  have k5:∀ {a o},h4.get? a=some o→h5.get? a=some o:=fun q=>by rw [e5];exact Heap.get?_push_of_some _ q
  have n1:h1.get? s.heap.objs.size=some { cls:=.type "str_ascii_iterator",data:=.fields #[.str x t,.int 0 0] }:=by rw [e1];exact Heap.get?_push_size _ rfl
  have n2:h2'.get? h1.objs.size=some { cls:=.type "list_iterator",data:=.fields #[.ref l2,.int 0 0] }:=by rw [e2];exact Heap.get?_push_size _ rfl
  have n3:h3.get? h2'.objs.size=some { cls:=.type "tuple",data:=.seq #[.ref s.heap.objs.size,.ref h1.objs.size] }:=by rw [e3];exact Heap.get?_push_size _ rfl
  have n4:h4.get? h3.objs.size=some { cls:=.type "tuple",data:=.seq #[.none,.none] }:=by rw [e4];exact Heap.get?_push_size _ rfl
  have n5:h5.get? h4.objs.size=some { cls:=.type "zip",data:=.fields #[.none,.bool false,.bool false,.ref h2'.objs.size,.ref h3.objs.size] }:=by rw [e5];exact Heap.get?_push_size _ rfl
  refine (?_:_→_) (S.growN (t:=s.toks) (h':=h5) (news:=[(h2'.objs.size,PairV (.ref s.heap.objs.size) (.ref h1.objs.size)),(h4.objs.size,ZipO h2'.objs.size h3.objs.size .none),(h3.objs.size,PairE),(s.heap.objs.size,SItO x (x.cps.toList.map fun c=>(⟨#[c]⟩:Str))),(h1.objs.size,LItO l2 items2 items2)]) (fun b o q=>k5 (k4 (k3 (k2 (k1 q))))) (fun p hp=>by
   simp only [List.mem_cons,List.not_mem_nil,or_false] at hp
   rcases hp with rfl | rfl | rfl | rfl | rfl
   ·exact ⟨by dsimp only;exact ar159 z2,_,k5 (k4 n3),rfl⟩
   ·exact ⟨by dsimp only;exact ar161 z4,_,n5,rfl⟩
   ·exact ⟨by dsimp only;exact ar160 z3,_,k5 n4,_,_,rfl⟩
   ·exact ⟨Nat.le_refl _,_,k5 (k4 (k3 (k2 n1))),0,t,rfl,rfl,rfl⟩
   ·exact ⟨by dsimp only;exact ar158 z1,_,k5 (k4 (k3 n2)),0,rfl,rfl,rfl⟩) (by
   simp only [List.map_cons,List.map_nil,z1,z2,z3,z4];simp))
  intro S1
  simp only [List.cons_append,List.nil_append] at S1
  obtain ⟨z',hz⟩:=St.freeze1 S1
  refine (?_:_→_→_→_) hz.1 hz.2.1 hz.2.2.2
  intro hz hTI S2
  exact ⟨⟨_,n5,rfl⟩,k _ _ _ _ _ z' _ hz hTI S2⟩
noncomputable def EnO (it:Addr) {α:Type} (its r:List α):OP:=fun o=>∃ old,o={ cls:=.type "enumerate",dict:=none,data:=.fields #[.none,.bool false,.ref it,rawInt (its.length - r.length:Nat),.none,old],slots:=#[] }∧∃ d,d++r=its
noncomputable def enumL (xs:List Int):List (Nat×Int):=(List.range xs.length).zip xs
theorem enumL_snd (xs:List Int):(enumL xs).map (·.2)=xs:=by unfold enumL;rw [List.map_snd_zip];simp
theorem enumL_fst (xs:List Int):(enumL xs).map (·.1)=List.range xs.length:=by unfold enumL;rw [List.map_fst_zip];simp
theorem enumL_at {xs:List Int} {d r:List (Nat×Int)} {a:Nat×Int} (h:d++a::r=enumL xs):a.1=d.length:=by
 refine (?_:_→_) (congrArg (List.map (·.1)) h)
 intro h1
 rw [enumL_fst,List.map_append,List.map_cons] at h1
 refine (?_:((d.map (·.1)++a.1::r.map (·.1))[d.length]?=some a.1)→_) (by
  rw [List.getElem?_append_right (by simp)];simp)
 intro h2
 rw [h1] at h2
 refine (?_:_→_) (List.getElem?_eq_some_iff.mp h2)
 intro this
 refine (?_:_→_) (this.1)
 intro h3
 refine (?_:_→_) (this.2)
 intro h4
 simpa using h4.symm
noncomputable def LItN (l:Addr) (i:Nat):OP:=fun o=>o.cls=.type "list_iterator"∧o.data=.fields #[.ref l,.int i 0]
noncomputable abbrev enJ (e it l:Addr) (xs:List Int) (r:List (Nat×Int)):Ds:=[(e,EnO it (enumL xs) r),(it,LItN l (xs.length - r.length))]
theorem Its.enum {e it l:Addr} {xs:List Int} {elts:List PySem.Expr} {x1} {pos:Pos} {px py:Pos} {n1 n2:Str} (hl:Fz z l (ListO (iAVs xs))) (hel:elts=[.Name n1 px,.Name n2 py]) (hn:(assignEach elts env).length=2) (hst:(assignEach elts env).findIdx? (·.1)=none)
 (h1:env.kindOf n1=some .local) (h2:env.kindOf n2=some .local) (hk:env.scope.kind=.function) :
 Its w ρ z (.ref e) env (.Tuple elts x1 pos) (fun (a:Nat×Int) m=>setl (setl m n1 (.i (a.1:Nat))) n2 (.i a.2)) (enJ e it l xs) [] where
  item:=fun {A E s z' Δ L m a r Q} hz R hL S h=>by
   have S0:St w ρ z' ((L,FrO m)::(e,EnO it (enumL xs) (a::r))::(it,LItN l (xs.length - (a::r).length))::Δ) s:=S.le fun f=>by
    simp only [List.map_cons,List.map_append,List.sum_cons,List.sum_append,List.map_nil,List.sum_nil];exact ar89
   obtain ⟨_,ee,old,rfl,d,hd⟩:=S0.at 1 rfl
   obtain ⟨oi,ei⟩:=S0.at 2 rfl
   refine (?_:_→_→_→_) ei.1 ei.2.1 ei.2.2
   intro ei hc hdd
   obtain ⟨items,hL'⟩:=ListO.isL (S0.fz (hl.mono hz))
   refine (?_:_→_→_) hL'.1 hL'.2
   intro hL' r'
   have ha:a.1=d.length:=enumL_at hd
   have hln:(enumL xs).length=xs.length:=by refine (?_:_→_) (congrArg List.length (enumL_snd xs));intro this;simpa using this
   have hlen:xs.length=d.length+(r.length+1):=by refine (?_:_→_) (congrArg List.length hd);intro this;simp [hln] at this;exact ar303 this
   refine (?_:(xs.drop d.length=a.2::r.map (·.2))→_) (by
    refine (?_:_→_) (congrArg (List.map (·.2)) hd)
    intro h1
    rw [enumL_snd,List.map_append] at h1
    rw [← h1,List.drop_append_of_le_length (by simp)]
    simp)
   intro hxd
   rw [show xs.length - (a::r).length=d.length from by simp;exact ar88 hlen ha] at hdd
   refine (?_:(∃ v,items[d.length]?=some v∧AV.is (.i a.2) v)→_) (by
    have e1:(iAVs xs)[d.length]?=some (.i a.2):=by
     rw [List.getElem?_map]
     refine (?_:((xs.drop d.length)[0]?=some a.2)→_) (by rw [hxd];rfl)
     intro this
     rw [List.getElem?_drop] at this
     rw [Nat.add_zero] at this
     rw [this];rfl
    exact ARel.getA r' e1)
   intro hx
   obtain ⟨v,hv,t,rfl⟩:=hx
   have hne:e≠it:=by
    refine (?_:_→_) (S0.nd)
    intro this
    simp only [List.map_cons,List.nodup_cons,List.mem_cons,not_or] at this
    exact this.2.1.1
   have hel':(enumL xs).length - (a::r).length=d.length:=by simp [hln];exact ar88 hlen ha
   rw [hel'] at ee
   refine wpAny_pyNext_enum_item (i:=d.length) ee ⟨oi,ei,hc,hdd⟩ hL' hv hne fun h' ho hit ht hsz hk'=>?_
   refine wpAny_letOwnedTupleGo_enum ho fun h'' he hs=>?_
   have keep:∀ b o,b≠e→b≠it→s.heap.get? b=some o→h''.get? b=some o:=fun b o q1 q2 g=>(hs.2 b q1).trans (hk' b o q1 q2 g)
   have hTne:s.heap.objs.size≠e:=Nat.ne_of_gt (Heap.lt_size ee)
   refine (?_:(s.heap.objs.size≠it)→_) (Nat.ne_of_gt (Heap.lt_size ei))
   intro hTni
   have zne:∀ b o,z' b=some o→b≠e∧b≠it:=fun b o g=>⟨fun q=>(by subst q;rw [(S0.own _ (.tail _ (.head _))).1] at g;cases g),fun q=>(by subst q;rw [(S0.own _ (.tail _ (.tail _ (.head _)))).1] at g;cases g)⟩
   refine (?_:_→_) (S0.nd)
   intro hnd
   simp only [List.map_cons,List.nodup_cons,List.mem_cons,not_or] at hnd
   obtain ⟨⟨hLe,hLi,hLΔ⟩,⟨hei,heΔ⟩,hiΔ,hΔ⟩:=hnd
   have S1:St w ρ z' ((L,FrO m)::(s.heap.objs.size,TupO [.i (a.1:Nat),.i a.2])::(e,EnO it (enumL xs) r)::(it,LItN l (xs.length - r.length))::Δ) { s with heap:=h'',toks:=s.toks+1 }:=by
    have hold:∀ p∈(L,FrO m)::Δ,p.1≠e∧p.1≠it:=fun p hp=>by
     rcases List.mem_cons.mp hp with rfl | hp
     ·exact ⟨hLe,hLi⟩
     ·exact ⟨fun q=>heΔ (q▸List.mem_map_of_mem hp),fun q=>hiΔ (q▸List.mem_map_of_mem hp)⟩
    have hown:∀ p∈(L,FrO m)::Δ,z' p.1=none∧∃ o,h''.get? p.1=some o∧p.2 o:=fun p hp=>by
     obtain ⟨g1,o,g2,g3⟩:=S0.own p (by
      rcases List.mem_cons.mp hp with rfl | hp
      ·exact .head _
      ·exact .tail _ (.tail _ (.tail _ hp)))
     exact ⟨g1,o,keep _ _ (hold p hp).1 (hold p hp).2 g2,g3⟩
    have hlt:∀ p∈(L,FrO m)::(e,EnO it (enumL xs) (a::r))::(it,LItN l (xs.length - (a::r).length))::Δ,p.1<s.heap.objs.size:=fun p hp=>by
     obtain ⟨_,o,g,_⟩:=S0.own p hp;exact Heap.lt_size g
    refine S0.step (fun b o g1 g2=>keep _ _ (zne b o g1).1 (zne b o g1).2 g2) (fun p hp=>?_) ?_ (fun p hp=>?_) (by
     show s.heap.objs.size≤h''.objs.size
     rw [hs.1,hsz];exact ar14)
    ·simp only [List.mem_cons] at hp
     rcases hp with rfl | rfl | rfl | rfl | hp
     ·exact hown _ (.head _)
     ·refine ⟨S0.fresh,_,(hs.2 _ hTne).trans ht,_,0,rfl,?_⟩
      rw [ha]
      exact .cons ⟨_,rfl⟩ (.cons ⟨_,rfl⟩ .nil)
     ·refine ⟨(S0.own _ (.tail _ (.head _))).1,_,he,.int a.2 t,?_,d++[a],by simpa using hd⟩
      refine (?_:((enumL xs).length - r.length=d.length+1)→_) (by rw [hln];exact ar95 hlen hel' hln ha)
      intro this
      rw [this];rfl
     ·obtain ⟨o',e'⟩:=hit
      refine (?_:_→_→_→_) e'.1 e'.2.1 e'.2.2
      intro e' c' d'
      exact ⟨(S0.own _ (.tail _ (.tail _ (.head _)))).1,o',(hs.2 _ (Ne.symm hne)).trans e',c',by rw [d',show xs.length - r.length=d.length+1 from by exact ar95 hlen hel' hln ha]⟩
     ·exact hown _ (.tail _ hp)
    ·simp only [List.map_cons,List.nodup_cons,List.mem_cons,not_or]
     refine ⟨⟨Nat.ne_of_lt (hlt _ (.head _)),hLe,hLi,hLΔ⟩,⟨hTne,hTni,fun q=>?_⟩,⟨hei,heΔ⟩,hiΔ,hΔ⟩
     obtain ⟨p,hp⟩:=List.mem_map.mp q
     refine (?_:_→_→_) hp.1 hp.2
     intro hp g
     refine (?_:_→_) (hlt p (.tail _ (.tail _ (.tail _ hp))))
     intro this
     rw [g] at this
     exact Nat.lt_irrefl _ this
    ·simp only [List.mem_cons] at hp
     rcases hp with rfl | rfl | rfl | rfl | hp
     ·exact S0.lo _ (.head _)
     ·exact S0.sz
     ·exact S0.lo (e,EnO it (enumL xs) (a::r)) (.tail _ (.head _))
     ·exact S0.lo (it,LItN l (xs.length - (a::r).length)) (.tail _ (.tail _ (.head _)))
     ·exact S0.lo _ (.tail _ (.tail _ (.tail _ hp)))
   subst hel
   refine asg_unpack S1 R (S1.at 1 rfl) hn hst fun ys s4 hys S4=>?_
   obtain _ | ⟨⟨ta,rfl⟩,_ | ⟨⟨tb,rfl⟩,_ | _⟩⟩:=hys
   refine ain_cons rfl ?_
   refine wpAny_assign_Name (storeL S4 hL h1 (by rw [hk];rfl) (av:=.i (a.1:Nat)) ⟨_,rfl⟩ fun s5 S5=>?_)
   refine ain_cons rfl ?_
   refine wpAny_assign_Name (storeL S5 hL h2 (by rw [hk];rfl) (av:=.i a.2) ⟨_,rfl⟩ fun s6 S6=>?_)
   refine ain_nil (h _ (S6.le fun f=>?_))
   simp only [List.map_cons,List.map_append,List.sum_cons,List.sum_append,List.map_nil,List.sum_nil];exact ar402
  stop:=fun {A E s z' Δ F Q} hz R S h=>by
   have S0:St w ρ z' (F::(e,EnO it (enumL xs) [])::(it,LItN l (xs.length - ([]:List (Nat×Int)).length))::Δ) s:=S.le fun f=>by
    simp only [List.map_cons,List.map_append,List.sum_cons,List.sum_append,List.map_nil,List.sum_nil];exact ar89
   obtain ⟨_,ee,old,rfl,d,hd⟩:=S0.at 1 rfl
   obtain ⟨oi,ei⟩:=S0.at 2 rfl
   refine (?_:_→_→_→_) ei.1 ei.2.1 ei.2.2
   intro ei hc hdd
   obtain ⟨items,hL'⟩:=ListO.isL (S0.fz (hl.mono hz))
   refine (?_:_→_→_) hL'.1 hL'.2
   intro hL' r'
   rw [show xs.length - ([]:List (Nat×Int)).length=xs.length from by simp] at hdd
   refine (?_:(items[xs.length]?=none)→_) (by
    refine (?_:_→_) (r'.length)
    intro h2
    rw [Array.getElem?_eq_none_iff]
    simp [iAVs] at h2
    exact ar43 h2)
   intro hx
   refine (?_:((enumL xs).length=xs.length)→_) (by refine (?_:_→_) (congrArg List.length (enumL_snd xs));intro this;simpa using this)
   intro hln
   rw [show (enumL xs).length - ([]:List (Nat×Int)).length=xs.length from by simp [hln]] at ee
   refine wpAny_pyNext_enum_end R.hd ee ⟨oi,ei,hc,hdd⟩ hL' hx fun h' hs=>h _ ?_
   refine (?_:_→_) (St.midGo (Δ:=[(e,EnO it (enumL xs) [])]) (t:=s.toks) (show St w ρ z' (F::([(e,EnO it (enumL xs) [])]++(it,LItN l (xs.length - ([]:List (Nat×Int)).length))::Δ)) s from S0) hs)
   intro this
   exact this.le fun f=>by
    simp only [List.map_cons,List.map_append,List.sum_cons,List.sum_append,List.map_nil,List.sum_nil,List.append_nil];exact ar236
  self:=fun {A E s z' Δ F r Q} hz S h=>by
   obtain ⟨_,ee,old,rfl,_⟩:=S.has (a:=e) (P:=EnO it (enumL xs) r) (.tail _ (List.mem_append_right _ (.head _)))
   exact wpAny_pyIter_enum ee h
theorem b_enum {l:Addr} {xs:List Int} {Q:VP} (S:St w ρ z (F::Δ) s) (hl:Fz z l (ListO (iAVs xs)))
 (k:∀ e it s',St w ρ z (F::(e,EnO it (enumL xs) (enumL xs))::(it,LItN l (xs.length - (enumL xs).length))::Δ) s'→Q (.ref e) s'):wpAny (model PG w) A (call (.type "enumerate") [.ref l]) Q E s:=by
  obtain ⟨items,hL⟩:=ListO.isL (S.fz hl)
  refine (?_:_→_→_) hL.1 hL.2
  intro hL r
  refine call_enumerate_list hL fun h' he hi hz hk=>k _ s.heap.objs.size _ ?_
  refine (?_:((enumL xs).length=xs.length)→_) (by refine (?_:_→_) (congrArg List.length (enumL_snd xs));intro this;simpa using this)
  intro hln
  refine (?_:_→_) (S.growN (t:=s.toks) (h':=h') (news:=[(s.heap.objs.size+1,EnO s.heap.objs.size (enumL xs) (enumL xs)),(s.heap.objs.size,LItN l (xs.length - (enumL xs).length))]) hk (fun p hp=>by
   simp only [List.mem_cons,List.not_mem_nil,or_false] at hp
   rcases hp with rfl | rfl
   ·exact ⟨by simp,_,he,.none,by simp,[],rfl⟩
   ·obtain ⟨o,e⟩:=hi
    refine (?_:_→_→_→_) e.1 e.2.1 e.2.2
    intro e c d
    exact ⟨Nat.le_refl _,o,e,c,by rw [d,hln,Nat.sub_self]⟩) (by simp))
  intro S1
  simpa using S1
theorem nm_at:∀ d:Nat,d<7→(seqIndex? (d:Int) NM.length).bind (NM.cps[·]?)=some (97+d):=by decide
theorem sub_nm {d:Nat} {t u:Tok} {Q:VP} (S:St w ρ z Δ s) (hd:d<7) (k:∀ t s',St w ρ z Δ s'→Q (.str (nm d) t) s'):wpAny (model PG w) A (getItem (.str NM t) (.int (d:Nat) u)) Q E s:=by
 refine (?_:((seqIndex? (d:Int) NM.length).bind (NM.cps[·]?)=some (97+d))→_) (by
  exact nm_at d hd)
 intro h1
 exact P.getItem_str (c:=97+d) (by
  rw [decide_eq_false (by lia),decide_eq_false (by lia)];rfl) h1 (k _ _ S.toks)
noncomputable def SeqL (vs:List AV):OP:=fun o=>o.cls=.type "list"∧∃ items n,o.data=.seq items n∧ARel vs items.toList
theorem sl_takeS {l:Addr} {vs:List AV} {k:Nat} {t:Tok} {Q:VP} (S:St w ρ z (F::Δ) s) (h:Has s l (SeqL vs)) (hz:vs.length≤1000)
 (K:∀ q s',St w ρ z (F::(q,ListO (vs.take k))::Δ) s'→Q (.ref q) s'):SlEnd Q (.ref l) .none (.int k t) s:=by
  obtain ⟨o,e,hc,items,n,hd,r⟩:=h
  refine (?_:_→_) (r.sizeA)
  intro h1
  refine ⟨l,items,none,some (k:Int),rfl,⟨o,e,hc,n,hd⟩,by rw [sizeLine_eq];exact ar3 h1 hz,.none,.int _ _,K _ _ ?_⟩
  refine S.grow1 (t:=s.toks) (fun b o e=>Heap.get?_push_of_some _ (Heap.get?_push_of_some _ e)) (Nat.le_succ _) (o:={ cls:=.type "list",data:=.seq (slicePick items none (some (k:Int)) none) }) ?_ ⟨_,_,rfl,?_⟩
  ·rw [← Heap.size_push s.heap { cls:=.type "slice",data:=.fields #[.none,.int k t,.none] }]
   exact Heap.get?_push_size _ rfl
  ·rw [slicePick_take items k]
   exact r.take k
end
section
variable {w:World} {A:Around} {ρ:Rest} {z:Z} {Δ:Ds}
theorem iAVs_at {cs:List Int} {j:Nat} (h:j<cs.length):(iAVs cs)[j]?=some (.i (cs.getD j 0)):=by
 rw [List.getElem?_map,List.getElem?_eq_getElem h,List.getD_eq_getElem?_getD,List.getElem?_eq_getElem h];rfl
theorem iAVs_set (cs:List Int) (j:Nat) (a:Int):(iAVs cs).set j (.i a)=iAVs (cs.set j a):=by simp [iAVs,List.map_set]
theorem NM_ascii:NM.cps.all (·<128)=true:=by decide +kernel
noncomputable def jobOf (c:Int):Job:=⟨(c.fmod 3+1).toNat,((c.fdiv 3).fmod 4).toNat,[((c.fdiv 12).fmod 8).toNat,((c.fdiv 96).fmod 8).toNat].filter (·<7)⟩
theorem fmod_nat (a:Int) (n:Nat) (hn:0<n):∃ d:Nat,a.fmod n=d∧d<n:=by
 rw [Int.fmod_eq_emod_of_nonneg _ (by exact ar174 hn)]
 refine (?_:_→_) (Int.emod_nonneg a (b:=(n:Int)) (by exact ar173 hn))
 intro h1
 refine (?_:_→_) (Int.emod_lt_of_pos a (b:=(n:Int)) (by exact ar51 hn))
 intro h2
 exact ⟨(a % n).toNat,by exact ar432 h1,by exact ar424 hn h2⟩
theorem jobOf_ok (f:Nat→Int):JOk fun k=>jobOf (f k):=by
 refine (?_:(∀ c:Int,∃ d:Nat,c.fmod 3=d∧d<3)→_) (fun c=>fmod_nat _ 3 (by decide))
 intro h3
 refine ⟨fun k o=>?_,fun k o=>?_,fun k o=>?_,fun k o=>?_,fun k o x hx=>?_⟩
 ·obtain ⟨d,h,_⟩:=h3 (f k)
  show 1≤((f k).fmod 3+1).toNat
  exact ar383 h right
 ·obtain ⟨d,h,_⟩:=h3 (f k)
  show ((f k).fmod 3+1).toNat≤3
  exact ar382 h right
 ·obtain ⟨d,h⟩:=fmod_nat ((f k).fdiv 3) 4 (by decide)
  refine (?_:_→_) h.1
  intro h
  show (((f k).fdiv 3).fmod 4).toNat≤3
  rw [show (((f k).fdiv 3).fmod 4)=d from h]
  simp;exact ar317 ‹_›
 ·exact List.length_filter_le _ _
 ·refine (?_:_→_) ((List.mem_filter.mp hx).2)
  intro this
  simpa using this
section
variable {C:Cx} {m:Loc}
theorem lf_mod {a b:Int} {K:AV→SP} (hb:b≠0) (k:K (.i (a.fmod b)) z m Δ):L2 C AV.is (binaryOp .Mod) (.i a) (.i b) z m Δ K:=
 ⟨fun x y ⟨t,hx⟩ ⟨t',hy⟩=>by
  subst hx hy
  exact T.step k fun S q=>o_mod S hb fun t s' S'=>q _ s' ⟨t,rfl⟩ S'⟩
theorem lf_fdiv {a b:Int} {K:AV→SP} (hb:b≠0) (hp:Builtin.divisionGoesByPylong a b=false) (k:K (.i (a.fdiv b)) z m Δ):L2 C AV.is (binaryOp .FloorDiv) (.i a) (.i b) z m Δ K:=
 ⟨fun x y ⟨t,hx⟩ ⟨t',hy⟩=>by
  subst hx hy
  exact T.step k fun S q=>o_fdiv S hb hp fun t s' S'=>q _ s' ⟨t,rfl⟩ S'⟩
theorem lf_list {l:Addr} {vs:List AV} {K:AV→SP} (h:OF z Δ l (ListO vs)) (hz:vs.length≤1000) (k:∀ q,K (.v (.ref q)) z m ((q,ListO vs)::Δ)):LC C (.v (.type "list")) [.v (.ref l)] z m Δ K:=
 lc1 (fun E s Q S q=>b_list S (h.has S) hz fun r s' S'=>q _ _ _ _ _ _ is_v (k r) S')
theorem lf_gi {l:Addr} {vs:List AV} {n:Nat} {a:AV} {K:AV→SP} (h:OF z Δ l (ListO vs)) (hx:vs[n]?=some a) (hz:vs.length≤1000000) (k:K a z m Δ):L2 C AV.is getItem (.v (.ref l)) (.i (.ofNat n)) z m Δ K:=
 ⟨fun x y hx' ⟨t,hy⟩=>by
  cases hx';subst hy
  have hn:=(List.getElem?_eq_some_iff.mp hx).1
  exact T.get k fun S q=>gi_list (h.has S) (Int.natCast_nonneg n) (by show (n:Int)<_;lia) hx q⟩
theorem lf_subnm {v i:PySem.Expr} {d:Nat} {K:AV→SP} (hd:d<7) (k:K (.s (nm d)) z m Δ) (hs:noSlice i=true:=by rfl):L2 C AV.is (subscriptTail v i) (.s NM) (.i (d:Nat)) z m Δ K:=
 ⟨fun x y ⟨t,hx⟩ ⟨t',hy⟩=>by
  subst hx hy
  exact T.step k fun S q=>tail_any (typeIs_str _ NM _) PySem.F.slot_str_getitem.lookup (sub_nm S hd fun t s' S'=>q _ s' ⟨t,rfl⟩ S') (noSlice_ok hs)⟩
theorem lf_slt {n:Str} {p1 p2 p3 pos:Pos} {k j:Nat} {l:Addr} {vs:List AV} {K:AV→SP} (O:C.Ok) (hk:C.env.kindOf n=some .local) (hd:(n == "__debug__")=false) (hl:lk m n=some (.v (.ref l))) (h:OF z Δ l (SeqL vs)) (hz:vs.length≤1000)
 (kk:∀ q,K (.v (.ref q)) z m ((q,ListO (vs.take k))::Δ)):L0 C AV.is (eval (.Subscript (.Name n p1) (.Slice none (some (.Constant (.int (.ofNat k)) j p2)) none p3) pos) C.env) z m Δ K:=⟨fun E s Q S q=>
  e_slice (ld S rfl O.k hk hd hl fun v hv=>by
   cases hv
   exact ep_none (ep_some (c_int S fun t s S=>sl_takeS S (h.has S) hz fun r s' S'=>q _ _ _ _ _ _ is_v (kk r) S'))) fun o o=>rfl⟩
theorem lf_enum {l:Addr} {xs:List Int} {K:AV→SP} (h:Fz z l (ListO (iAVs xs))) (k:∀ e it,K (.v (.ref e)) z m ((e,EnO it (enumL xs) (enumL xs))::(it,LItN l (xs.length - (enumL xs).length))::Δ)):LC C (.v (.type "enumerate")) [.v (.ref l)] z m Δ K:=
 lc1 (fun E s Q S q=>b_enum S h fun e it s' S'=>q _ _ _ _ _ _ is_v (k e it) S')
theorem lf_zipS {l2:Addr} {vs2:List AV} {β:Type} (items2:List β) {K:AV→SP} (h2:OF z Δ l2 (ListO vs2))
 (k:∀ zz TI TO i1 i2 z',Sub z z'→Fz z' TI (PairV (.ref i1) (.ref i2))→K (.v (.ref zz)) z' m ((zz,ZipO TI TO .none)::(TO,PairE)::(i1,SItO NM ((List.range 7).map nm))::(i2,LItO l2 items2 items2)::Δ)):LC C (.v (.type "zip")) [.s NM,.v (.ref l2)] z m Δ K:=
  ⟨fun x xs hx hxs=>by
   cases hx;obtain _ | ⟨⟨t,rfl⟩,_ | ⟨hu,_ | _⟩⟩:=hxs;cases hu
   exact fun E s Q S q=>b_zip_sl S NM_ascii (h2.has S) fun zz TI TO i1 i2 z' s' hz hT S'=>q _ _ _ _ _ _ is_v (k zz TI TO i1 i2 z' hz hT) (by rw [← NM_names];exact S')⟩
theorem src_enum {t:PySem.Expr} {up:Nat×Int→Loc→Loc} {e it l:Addr} {ys:List Int} (hI:Its C.w C.ρ z (.ref e) C.env t up (enJ e it l ys) []):Src C (.v (.ref e)) z ((e,EnO it (enumL ys) (enumL ys))::(it,LItN l (ys.length - (enumL ys).length))::Δ) Δ (fun it J=>Its C.w C.ρ z it C.env t up J []) (enumL ys):=by
 intro E s Q m v hv S k
 cases hv
 obtain ⟨_,ee,old,rfl,_⟩:=S.at 1 rfl
 exact wpAny_pyIter_enum ee (k _ _ _ hI (S.perm (List.Perm.cons _ (List.perm_append_comm (l₁:=Δ) (l₂:=[_,_])))))
theorem src_zipS {rel2:β→Value→Prop} {t:PySem.Expr} {up:Nat×β→Loc→Loc} {zz TI TO i1 i2 l2:Addr} {vs2:List AV} {fr:List β} (hf:fr.length=7) (h2:Fz z l2 (ListO vs2)) (p2:∀ arr,ARel vs2 arr→PR rel2 fr arr)
 (hI:Nf C.w C.ρ z i1 (fun (k:Nat) v=>∃ t,v=.str (nm k) t) (fun r=>[(i1,SItO NM (r.map nm))]) []→Nf C.w C.ρ z i2 rel2 (fun r=>[(i2,LItO l2 fr r)]) []→Its C.w C.ρ z (.ref zz) C.env t up (zipJ zz TI TO (fun r=>[(i1,SItO NM (r.map nm))]) (fun r=>[(i2,LItO l2 fr r)]) Prod.fst Prod.snd [] []) []) :
 Src C (.v (.ref zz)) z ((zz,ZipO TI TO .none)::(TO,PairE)::(i1,SItO NM ((List.range 7).map nm))::(i2,LItO l2 fr fr)::Δ) Δ (fun it J=>Its C.w C.ρ z it C.env t up J []) ((List.range 7).zip fr):=by
  intro E s Q m v hv S k
  cases hv
  obtain ⟨_,ez,rfl⟩:=S.at 1 rfl
  refine (?_:(Nf C.w C.ρ z i1 (fun (k:Nat) v=>∃ t,v=.str (nm k) t) (fun r=>[(i1,SItO NM (r.map nm))]) [])→_) ((Nf.str (x:=NM) (it:=i1) (X:=[])).map nm)
  intro N1
  refine (?_:(Nf C.w C.ρ z i2 rel2 (fun r=>[(i2,LItO l2 fr r)]) [])→_) (Nf.list fun hz S=>h2.lst p2 hz S)
  intro N2
  refine wpAny_pyIter_zip ez (k _ _ _ (hI N1 N2) ?_)
  unfold zipJ
  rw [List.map_fst_zip (by rw [List.length_range,hf];exact Nat.le_refl _),List.map_snd_zip (by rw [List.length_range,hf];exact Nat.le_refl _),List.append_nil,List.append_nil]
  exact S.perm (List.Perm.cons _ (List.perm_append_comm (l₁:=Δ) (l₂:=[_,_,_,_])))
end
structure JSt where
 ts:Nat→Addr
 ws:Nat→Addr
 z:Z
 d:List Nat
theorem own_T {K:AV→Z→Ds→Prop} (R:Room A 1) (k:∀ q,K (.v (.ref q)) z ((q,ListO (iAVs [764,672,4,206,765,148,505]))::Δ)):CF w ρ A 169 [] z Δ K:=by
 refine lf_def (by assumption) ?_ (by k_is) (by k_is) (by first | exact args1 fun o=>rfl | exact args2 fun o o=>rfl | exact args3 fun o o o=>rfl | exact args4 fun o o o o=>rfl | exact args0 rfl) (by decide) (by decide) (by rfl) (by rfl) (by rfl) (by decide)
 intro L A' R C O
 exact fun q=>kFn_i (m:=[]) _ wkr (k q)
theorem law_jobs_T {sc:Addr} {xs:List Int} {K:AV→Z→Ds→Prop} (hs:Fz z sc (SeqL (iAVs xs))) (hxl:xs.length≤63) (R:Room A 3)
 (k:∀ q d J W z',Sub z z'→Fz z' q (TupO [.v (.ref d),.i (W:Nat)])→JobsAt w z' J d→JOk J→1≤W→W≤3→K (.v (.ref q)) z' Δ):CF w ρ A 174 [.v (.ref sc)] z Δ K:=by
  refine lf_def (by assumption) ?_ (by k_is) (by k_is) (by first | exact args1 fun o=>rfl | exact args2 fun o o=>rfl | exact args3 fun o o o=>rfl | exact args4 fun o o o o=>rfl | exact args0 rfl) (by decide) (by decide) (by rfl) (by rfl) (by rfl) (by decide)
  intro L A' R C O
  refine lc_pre fun Δ'=>own_T (R.le (by decide)) fun l0=>⟨[(l0,_)],rfl,?_⟩
  refine lf_list (.own 0 rfl) (by decide) fun lc=>?_
  refine lf_slt O rfl rfl rfl (.fz hs) (by rw [List.length_map];exact ar140 hxl) fun l1=>?_
  rw [show (iAVs xs).take 40=iAVs (xs.take 40) from List.map_take.symm]
  generalize xs.take 40=ys
  refine LC.fz 0 rfl fun z1 hz1 hl1=>lf_enum hl1 fun e it=>?_
  refine lf_for0 (σ:=List Int) (fun o=>z1) (fun o=>[("script",.v (.ref sc)),("cells",.v (.ref lc))]) (fun cs=>(lc,ListO (iAVs cs))::(l0,ListO (iAVs [764,672,4,206,765,148,505]))::Δ) (fun o o cs=>cs.length=7) O [764,672,4,206,765,148,505]
   (src_enum (Its.enum hl1 rfl rfl rfl rfl rfl rfl)) rfl ?t1 ?f1 [] rfl rfl
  case t1=>
   intro zg mg Δg Ig Kg d p rr cs hd hz2 hcs J Kf F
   refine (?_:(((p.1:Nat):Int).fmod 7=((p.1 % 7:Nat):Int))→_) (by rw [Int.fmod_eq_emod_of_nonneg _ (by decide)];exact ar271)
   intro em
   refine (?_:(p.1 % 7<cs.length)→_) (by rw [hcs];exact ar110)
   intro hlt
   refine lf_mod (by decide) ?_
   rw [em]
   refine lf_gi (.own 0 rfl) (iAVs_at hlt) (by rw [List.length_map];lia) ?_
   refine lf_set (j:=0) rfl (by rw [List.length_map];exact hlt) (by rw [List.length_map];lia) ?_
   rw [iAVs_set]
   exact F.nx (cs.set (p.1 % 7) (cs.getD (p.1 % 7) 0+p.2)) _ wkr (.refl _) (List.length_set.trans hcs)
  case f1=>
   intro cs hz2 hcs
   refine lf_dict0 fun dj=>?_
   refine LC.fz 1 rfl fun z3 hz3 hlc=>lf_zipS cs (.fz hlc) fun zz TI TO i1 i2 z4 hz4 hTI=>?_
   refine (?_:_→_) (hlc.mono hz4)
   intro hlc4
   refine (?_:_→_) (hz3.trans hz4)
   intro hz14
   refine lf_for0 (σ:=JSt) (items:=(List.range 7).zip cs) (up:=fun c m=>setl (setl m "name" (.s (nm c.1))) "cell" (.i c.2)) (·.z) (fun o=>[("script",.v (.ref sc)),("cells",.v (.ref lc)),("jobs",.v (.ref dj))])
    (fun y=>(dj,DictO w (y.d.map fun k=>(nm k,.v (.ref (y.ts k)))))::(l0,ListO (iAVs [764,672,4,206,765,148,505]))::Δ)
    (fun d o y=>y.d=d.map (·.1)∧∀ c∈d,Fz y.z (y.ts c.1) (TupO [.i (jobOf c.2).dur,.i (jobOf c.2).rank,.v (.ref (y.ws c.1))])∧Fz y.z (y.ws c.1) (ListO (nAVs (jobOf c.2).waits))) O ⟨fun o=>0,fun o=>0,z4,[]⟩
    (src_zipS hcs hlc4 (fun o h=>ARel.prOf (g:=AV.i) (fun o o h=>h) h) ?sI) ⟨rfl,fun o h=>nomatch h⟩ ?t2 ?f2 [] rfl rfl
   case sI=>
    intro N1 N2
    refine Its.ofA (fun A R=>ItsA.zip (TO:=TO) Prod.fst Prod.snd N1 N2 (.inl R.hd) hTI (.inl rfl) rfl rfl ?_) (fun hz S h=>zip_self S h)
    intro E s z' Δ L m c xx yy Q hz hx hy hL S hk
    obtain ⟨tx,rfl⟩:=hx
    obtain ⟨ty,rfl⟩:=hy
    subst hL
    exact wpAny_assignInOrder_more (wpAny_assign_Name (storeL S rfl rfl rfl is_s fun s' S=>wpAny_assignInOrder_more (wpAny_assign_Name (storeL S rfl rfl rfl is_i fun s' S'=>wpAny_assignInOrder_none (hk _ S')))))
   case t2=>
    intro zg mg Δg Ig Kg d c rr y hd hz5 hI J Kf F
    have hyd:=hI.1
    refine (?_:_→_) (hI.2)
    intro hts
    refine lf_scomp O ?_
    refine lf_fdiv (b:=12) (by decide) (PyProof.noPylong_of_log2 (by decide +kernel)) ?_
    refine lf_mod (b:=8) (by decide) ?_
    refine lf_fdiv (b:=96) (by decide) (PyProof.noPylong_of_log2 (by decide +kernel)) ?_
    refine lf_mod (b:=8) (by decide) ?_
    obtain ⟨d1,hd1,hd18⟩:∃ d1:Nat,(c.2.fdiv 12).fmod 8=d1∧d1<8:=fmod_nat _ 8 (by decide)
    obtain ⟨d2,hd2,hd28⟩:∃ d2:Nat,(c.2.fdiv 96).fmod 8=d2∧d2<8:=fmod_nat _ 8 (by decide)
    rw [hd1,hd2]
    refine fun q1 z6 hz6 hq1=>?_
    refine (lf_lkuF (ns:=["digit"]) (f:=fun k:Nat=>[.i (k:Nat)]) (items:=[d1,d2]) O (src_tup hq1 (fun o h=>iAVs_pr (l:=[d1,d2]) h) fun o o N Cc=>Its.rg N rfl rfl) (fun k=>decide (k<7)) (fun k=>.s (nm k)) (F_fil _ _) (by show 2≤1000;decide) ?t3 ?f3 (by rw [List.append_nil];exact wkr))
    case t3=>
     intro e1 i r1 Cc D jt he1 Kt Ks hk hs C2 O2
     refine lf_lt ?_
     by_cases hi7:i<7
     ·refine it_t (decide_eq_true (Int.ofNat_lt.mpr hi7)) ?_
      refine lf_subnm hi7 ?_
      exact hk (decide_eq_true hi7) _ _ wkr
     ·exact it_f (decide_eq_false fun q=>hi7 (Int.ofNat_lt.mp q)) (hs (decide_eq_false hi7) _ _ wkr)
    case f3=>
     intro D
     refine L2.fz 0 rfl fun z7 hz7 hD=>?_
     refine lf_mod (b:=3) (by decide) ?_
     refine lf_fdiv (b:=3) (by decide) (PyProof.noPylong_of_log2 (by decide +kernel)) ?_
     refine lf_mod (b:=4) (by decide) ?_
     obtain ⟨d3,hd3,hd33⟩:∃ d1:Nat,c.2.fmod 3=d1∧d1<3:=fmod_nat _ 3 (by decide)
     obtain ⟨d4,hd4,hd44⟩:∃ d1:Nat,(c.2.fdiv 3).fmod 4=d1∧d1<4:=fmod_nat _ 4 (by decide)
     refine (?_:(jobOf c.2=⟨d3+1,d4,[d1,d2].filter (·<7)⟩)→_) (by
      unfold jobOf
      rw [hd1,hd2,hd3,hd4]
      congr 1)
     intro ejob
     rw [hd3,hd4,show ((d3:Int)+1)=((d3+1:Nat):Int) from by exact ar26]
     refine fun q2 z8 hz8 hq2=>?_
     refine (?_:(d.length≤7)→_) (by refine (?_:_→_) (congrArg List.length hd);intro this;simp at this;exact ar330 this hcs)
     intro hdl
     refine lf_dset (j:=0) rfl (by rw [List.length_map,hyd,List.length_map];exact ar9 hdl) ?_
     have hkd:c.1 ∉ y.d:=by
      refine (?_:((d++c::rr).map (·.1)=List.range 7)→_) (by rw [hd,List.map_fst_zip (by rw [List.length_range,hcs];exact Nat.le_refl _)])
      intro h0
      refine (?_:(((d++c::rr).map (·.1)).Nodup)→_) (h0▸List.nodup_range)
      intro h1
      rw [List.map_append,List.nodup_append] at h1
      exact fun h=>h1.2.2 c.1 (hyd▸h) c.1 (.head _) rfl
     refine (?_:_→_) (hz6.trans (hz7.trans hz8))
     intro hz58
     refine (?_:((setl (y.d.map fun k=>(nm k,AV.v (.ref (y.ts k)))) (nm c.1) (.v (.ref q2)))=(y.d++[c.1]).map fun j=>(nm j,AV.v (.ref (if j=c.1 then q2 else y.ts j))))→_) (by
      rw [setl_new (lk_none hkd),List.map_append]
      congr 1
      ·refine List.map_congr_left fun j hj=>?_
       refine (?_:(j≠c.1)→_) (fun e=>hkd (e▸hj))
       intro this
       rw [if_neg this]
      ·simp)
     intro e3
     rw [e3]
     refine F.nx ⟨fun j=>if j=c.1 then q2 else y.ts j,fun j=>if j=c.1 then D else y.ws j,z8,y.d++[c.1]⟩ _ wkr hz58 ⟨by rw [List.map_append,← hyd];rfl,fun b hb=>?_⟩
     rcases List.mem_append.mp hb with hj | hj
     ·refine (?_:(b.1≠c.1)→_) (fun e=>hkd (by rw [hyd,← e];exact List.mem_map_of_mem hj))
      intro this
      dsimp only
      rw [if_neg this,if_neg this]
      exact ⟨(hts b hj).1.mono hz58,(hts b hj).2.mono hz58⟩
     ·cases List.mem_singleton.mp hj
      dsimp only
      rw [if_pos rfl,if_pos rfl,ejob]
      exact ⟨hq2,hD.mono hz8⟩
   case f2=>
    intro y hz5 hI
    refine (?_:_→_) (hI.1)
    intro hyd
    refine (?_:_→_) (hI.2)
    intro hts
    obtain ⟨wm,hwm,hwm3⟩:∃ d1:Nat,cs.sum.fmod 3=d1∧d1<3:=fmod_nat _ 3 (by decide)
    refine LC.fz 0 rfl fun z6 hz6 hdj=>lf_sum O (.fz (hlc4.mono (hz5.trans hz6))) ?_
    refine lf_mod (b:=3) (by decide) ?_
    rw [hwm]
    refine fun q9 z7 hz7 hq9=>?_
    refine (?_:_→_) (hz6.trans hz7)
    intro hz57
    refine kFn_i (m:=[]) _ (Wk.pick 1 [] rfl) (k q9 dj (fun k=>jobOf (cs.getD k 0)) (wm+1) z7 (hz1.trans (hz14.trans (hz5.trans hz57))) hq9 ⟨y.ts,y.ws,?_,fun k hk=>?_⟩ (jobOf_ok _) (by exact ar34) (by lia))
    ·rw [hyd,List.map_fst_zip (by rw [List.length_range,hcs];exact Nat.le_refl _)] at hdj
     exact hdj.mono hz7
    ·refine (?_:(k<cs.length)→_) (by rw [hcs];exact hk)
     intro hk7
     refine (?_:((k,cs.getD k 0)∈(List.range 7).zip cs)→_) (List.mem_iff_getElem?.mpr ⟨k,by rw [List.getElem?_zip_eq_some,List.getElem?_range hk,List.getElem?_eq_getElem hk7,List.getD_eq_getElem?_getD,List.getElem?_eq_getElem hk7];exact ⟨rfl,rfl⟩⟩)
     intro hm
     refine (?_:_→_→_) ((hts _ hm).1) ((hts _ hm).2)
     intro g1 g2
     exact ⟨g1.mono hz57,g2.mono hz57⟩
end
theorem law_start {w:World} {s₁:Shared} {h₁:Heap} {tk:Nat} {p:Program} {l:List Str} {me:ExcName→Option Value} {mg mb m:Str→Option Value} {sc:Addr} {o:Obj} {v:Option Value}
 (KX:(hdp.heap_1_39 w.params).In s₁.heap) (T:Top p l me mg mb s₁.heap) (F:Fr s₁.heap s₁.heap.objs.size h₁ m) (hm:m (Str.ofString "script")=some (.ref sc)) (N:News s₁.heap s₁.heap.objs.size h₁ [(s₁.heap.objs.size+1,o)]) (hc:o.data=.cell v) (hv:v=none) :
 St w ⟨s₁.heap,s₁.gens,s₁.drawn,s₁.os⟩ (fun a=>s₁.heap.get? a) [(s₁.heap.objs.size,FrO [("script",.v (.ref sc))]),(s₁.heap.objs.size+1,CellO none)] { heap:=h₁,gens:=s₁.gens,drawn:=s₁.drawn,toks:=tk,os:=s₁.os }:=by
  refine (?_:_→_→_→_) ((N (s₁.heap.objs.size+1,o) (.head _)).1) ((N (s₁.heap.objs.size+1,o) (.head _)).2.1) ((N (s₁.heap.objs.size+1,o) (.head _)).2.2)
  intro n1 n2 n3
  have hsz:∀ a,s₁.heap.objs.size≤a→s₁.heap.get? a=none:=fun a ha=>by
   cases q:s₁.heap.get? a with
   | none=>rfl
   | some o=>exact absurd (Heap.lt_size q) (Nat.not_lt.mpr ha)
  refine ⟨⟨fun b b e=>e,KX,mg,mb,p,l,me,T⟩,fun a o e=>F.keep _ _ e,fun q hq=>?_,?_,fun q hq=>?_,Nat.le_of_lt F.ns.lt,rfl,rfl,rfl⟩
  ·simp only [List.mem_cons,List.not_mem_nil,or_false] at hq
   rcases hq with rfl | rfl
   ·refine ⟨hsz _ (Nat.le_refl _),FrO.of F.ns fun x a e=>?_⟩
    unfold lk at e
    split at e
    ·rename_i hx
     cases e
     rw [hx]
     exact ⟨_,hm,rfl⟩
    ·simp [lk] at e
   ·exact ⟨hsz _ (Nat.le_succ _),o,n1,v,hc,hv▸rfl⟩
  ·simp
  ·simp only [List.mem_cons,List.not_mem_nil,or_false] at hq
   rcases hq with rfl | rfl
   ·exact Nat.le_refl _
   ·exact Nat.le_succ _
section
variable {w:World} {A:Around} {E:VP} {s:Shared} {ρ:Rest} {z:Z} {Δ:Ds}
theorem law_end {s₁ s':Shared} {z':Z} {Δ':Ds} {g':Array GenState} {c:ClaimW} {cl:Str→Option Addr} {mean:ExcName→Option Value} {args:List WData}
 (hr:∀ cls,c.raises args cls=false) (hp:c.post args (.bool true) args=true) (S:St w ⟨s₁.heap,g',s₁.drawn,s₁.os⟩ z' Δ' s') (hb:AllBare g'):GoodWG c cl mean args s₁ (.ok (.ret (.bool true))) s':=
  ⟨.inl ⟨_,_,[],rfl,hr,ReadsW.bool true,hp,fun a=>⟨List.nodup_nil,fun a hm=>(nomatch hm)⟩⟩,OldK.of_keep S.keep,S.os,by rw [S.g];exact hb⟩
theorem caller_room (env:Env):Room (callerA.deeper env) 24:=⟨rfl,(by show callerA.depth+1+24<recursionLimit;decide),(by show callerA.units+3+8 * 24<cLine;decide)⟩
theorem caller_frames (env:Env) (h:callerA.frames=some []):(callerA.deeper env).frames=some [env]:=by
 show pushEnvs [env] callerA.frames=_
 rw [h];rfl
theorem caller_fr:callerA.frames=some []:=rfl
end
noncomputable abbrev rowD (r:Row):PyData:=.tuple [.str (nm r.n),.int (r.b:Nat),.int (r.e:Nat),.int (r.w:Nat)]
theorem RowL.rds {z:Z}:∀ {vs rs},RowL z vs rs→Rds z vs (rs.map rowD)
 | _,_,.nil=>.nil
 | _,_,.cons h r=>.cons (.tup h (.cons (.s _) (.cons (.i _) (.cons (.i _) (.cons (.i _) .nil))))) r.rds
theorem rowD_can {rs:List Row} (h:∀ r∈rs,r.n<7):PyData.canLayAll0 (rs.map rowD)=true:=
 canAll' fun r hr=>by
  refine (?_:_→_) (nm_ok r.n (h r hr))
  intro this
  simp [PyData.canLay0,PyData.canLayAll0,this]
theorem rowD_dep (rs:List Row):PyData.depthAll (rs.map rowD)≤2:=depAll (fun r=>by simp [PyData.depth,PyData.depthAll]) rs
theorem rowD_eqv:∀ rs:List Row,PyData.eqvAll (rs.map rowD) (rs.map rowD)=true
 | []=>by simp [PyData.eqvAll]
 | r::rs=>by
  refine (?_:_→_) (rowD_eqv rs)
  intro this
  simp only [List.map_cons,PyData.eqvAll,this,Bool.and_true]
  simp [PyData.eqv,PyData.eqvAll]
theorem lt_nm (a b:Nat):PySem.Spec.ltCps (nm a).cps.toList (nm b).cps.toList=decide (a<b):=by
 show PySem.Spec.ltCps [97+a] [97+b]=_
 unfold PySem.Spec.ltCps PySem.Spec.ltCps
 rw [Bool.eq_iff_iff];simp
theorem rising_nm:∀ {l:List Nat} {x:Nat},risingS (nm x) (l.map nm)=true→Srt (x::l)
 | [],x,_=>List.pairwise_singleton ..
 | y::l,x,h=>by
  rw [List.map_cons] at h
  unfold risingS at h
  rw [lt_nm,Bool.and_eq_true] at h
  refine (?_:(x≤y)→_) (by refine (?_:_→_) (h.1);intro this;simp at this;omega)
  intro h1
  refine (?_:_→_) (rising_nm h.2)
  intro h2
  rw [Srt,List.pairwise_cons]
  refine ⟨fun z hz=>?_,h2⟩
  rcases List.mem_cons.mp hz with rfl | hz
  ·exact h1
  ·exact Nat.le_trans h1 ((List.pairwise_cons.mp h2).1 z hz)
theorem sorted_nm {l:List Nat} (h:sortedS (l.map nm)=true):Srt l:=by
 cases l with
 | nil=>exact .nil
 | cons x l=>exact rising_nm h
noncomputable def unnm (s:Str):Nat:=(s.cps.toList.headD 0) - 97
theorem unnm_nm (k:Nat):unnm (nm k)=k:=by show 97+k - 97=k;exact ar126
theorem perm_nm {ys:List Str} {a:List Nat} (h:ys.Perm (a.map nm)):∃ l:List Nat,ys=l.map nm∧l.Perm a:=by
 refine ⟨ys.map unnm,?_,?_⟩
 ·rw [List.map_map]
  conv=>lhs;rw [← List.map_id ys]
  refine List.map_congr_left fun y hy=>?_
  obtain ⟨k,_,rfl⟩:=List.mem_map.mp (h.subset hy)
  show nm k=nm (unnm (nm k))
  rw [unnm_nm]
 ·refine (?_:_→_) (h.map unnm)
  intro this
  rw [List.map_map] at this
  refine this.trans (List.Perm.of_eq ?_)
  conv=>rhs;rw [← List.map_id a]
  exact List.map_congr_left fun k c=>unnm_nm k
theorem names_uniq {ys ys':List Str} {a b:List Nat} (h1:ys.Perm (a.map nm)) (h2:ys'.Perm (b.map nm)) (hab:a.Perm b) (s1:sortedS ys=true) (s2:sortedS ys'=true):ys=ys':=by
 obtain ⟨l,rfl,p1⟩:=perm_nm h1
 obtain ⟨m,rfl,p2⟩:=perm_nm h2
 rw [srt_uniq (p1.trans (hab.trans p2.symm)) (sorted_nm s1) (sorted_nm s2)]
theorem entry_upd_loop:entryFor table "dict.update.loop"=some Builtin.«dict.update.loop»:=entryFor_of_tree (by kernel_rfl)
theorem plain_upd_loop:plainId "dict.update.loop"=true:=by decide +kernel
noncomputable def pairRel (z:Z):Str×AV→Value→Prop:=fun p v=>∃ q,v=.ref q∧Fz z q (TupO [.s p.1,p.2])
section
variable {w:World} {ρ:Rest} {z:Z} {A:Around} {E:VP} {s:Shared} {Δ X:Ds} {F:Addr×OP}
theorem upd_loop {d it:Addr} {J:List (Str×AV)→Ds} {R:Result→Shared→Prop} (N:Nx w ρ z (.ref it) (pairRel z) J X) (rm:Room A 1) :
 ∀ (r:List (Str×AV)) (kv:Loc) (i:Int) (s:Shared),St w ρ z (F::(((d,DictO w kv)::Δ)++J r)) s→((kv++r).map (·.1)).Nodup→kv.length+r.length≤1000 →
 (∀ s',St w ρ z (F::(((d,DictO w (kv++r))::Δ)++X)) s'→R (.ok (.ret .none)) s')→codeAny (model PG w) A (.builtin "dict.update.loop" ⟨[.ref d,.ref it,rawInt i,.none],[]⟩) R s:=by
  intro r
  induction r with
  | nil=>
   intro kv i s S hn hz k
   refine codeAny_builtin entry_upd_loop ?_
   rw [Around.under_plainId plain_upd_loop _]
   refine wpAny_bind (N.stop (Δ:=(d,DictO w kv)::Δ) (Sub.refl z) ((rm.in1).le (by exact ar32)) S fun s' S'=>?_)
   rw [List.append_nil] at k
   exact wpAny_bind (wpAny_pure (wpAny_pure (k s' S')))
  | cons p r ih=>
   intro kv i s S hn hz k
   refine codeAny_builtin entry_upd_loop ?_
   rw [Around.under_plainId plain_upd_loop _]
   refine wpAny_bind (N.next (Δ:=(d,DictO w kv)::Δ) (Sub.refl z) ((rm.in1).le (by exact ar32)) S fun v s' hv S'=>?_)
   obtain ⟨q,rfl,hq⟩:=hv
   obtain ⟨o,e,items,n,rfl,ri⟩:=S'.fz hq
   obtain ⟨its,rfl⟩:∃ l,items=List.toArray l:=⟨items.toList,by simp⟩
   refine (?_:(ARel [.s p.1,p.2] its)→_) (by simpa using ri)
   intro ri
   obtain _ | ⟨⟨t,rfl⟩,_ | ⟨hp2,_ | _⟩⟩:=ri
   have hnk:p.1 ∉ kv.map (·.1):=fun hm=>by
    rw [List.map_append,List.nodup_append] at hn
    exact hn.2.2 p.1 hm p.1 (by simp) rfl
   refine wpAny_bind (wpAny_holding ?_)
   refine wpAny_bind (wpAny_tryCatch ?_)
   refine wpAny_bind (wpAny_typeOf ⟨_,e,rfl⟩ ?_)
   rw [if_pos (by decide)]
   refine wpAny_bind (wpAny_seqItems e rfl ?_)
   refine wpAny_pure ?_
   refine wpAny_holding ?_
   have h:=S'.at 1 (a:=d) (P:=DictO w kv) rfl
   have hkv:=DictO.nodup h
   refine (let Gl:Prop:=_;(?_:Gl))
   obtain ⟨kvs,ep,h1,h2⟩:=DictO.at h
   refine wpAny_dictSet_pairs (kS_is w p.1 t) h1.dictOf (fun h' hd' hs=>?_) (by rw [sizeLine_eq,h2.len];have:(p::r).length=r.length+1:=rfl;exact ar339 hz this)
   refine (?_:_→_) (S'.same (t:=s'.toks+1) 1 (P':=DictO w (setl kv p.1 p.2)) rfl hs (DictO.of hd' (h2.stored p.1 hp2 hkv)))
   intro S2
   refine (?_:(lk kv p.1=none)→_) (by
    cases q:lk kv p.1 with
    | none=>rfl
    | some a=>
     exfalso
     apply hnk
     clear k ih hn hz S S' h hkv h1 h2 hd' S2
     induction kv with
     | nil=>cases q
     | cons y l ih=>
      unfold lk at q
      split at q
      ·rename_i hx
       rw [hx];simp
      ·exact List.mem_cons_of_mem _ (ih (fun hm=>hnk (List.mem_cons_of_mem _ hm)) q))
   intro e1
   rw [setl_new e1] at S2
   refine wpAny_pure ⟨plainId_quiet plain_upd_loop _,?_⟩
   refine ih (kv++[(p.1,p.2)]) (i+1) _ S2 (by simpa using hn) (by simp at hz ⊢;exact ar308 hz) fun s'' S''=>k s'' ?_
   simpa using S''
theorem ga_keys_none {l:Addr} {o:Obj} {items:Array Value} {n:Nat} {Q:Option Value→Shared→Prop} (hx:s.heap.get? l=some o) (hc:o.cls=.type "list") (hdat:o.data=.seq items n) (hd:o.dict=none) (hA:A.handled=none)
 (h:∀ h' tk,(∀ a o,s.heap.get? a=some o→h'.get? a=some o)→Q none { s with heap:=h',toks:=tk }):wpAny (model PG w) A (getAttr? (.ref l) "keys") Q E s:=by
  refine (?_:(typeLookup (.type "list") "keys"=pure none)→_) (by rw [typeLookup_type,builtinLookup_eq_fast];kernel_rfl)
  intro hmiss
  refine (?_:((["__module__","__name__","__qualname__","__doc__","__annotations__"]:List Str).contains "keys"=false)→_) (by decide +kernel)
  intro hname
  obtain ⟨c,dct,dat,sl⟩:=o
  simp only at hc hdat hd
  subst hc hdat hd
  obtain ⟨hp,g,d,tk,os⟩:=s
  refine (?_:(∀ tk',(⟨hp,g,d,tk',os⟩:Shared).TypeIs (.ref l) "list")→_) (fun f=>⟨_,hx,rfl⟩)
  intro hT
  refine (?_:_→_) (sub_AttributeError)
  intro f1
  refine (?_:_→_) (PySem.F.slot_list_getattribute.lookup)
  intro f3
  refine (?_:_→_) (PySem.F.slot_list_getattribute.bind (.ref l))
  intro f4
  refine (?_:_→_) (am_list_getattr_none)
  intro f5
  repeat (any_goals (first | assumption | exact hT _ | ((with_reducible show wpAny _ _ (call (Value.builtin "list.__getattribute__") _ _) _ _ _);refine call_meets PySem.F.slot_list_getattribute (hT _) am_entry_list_getattribute (PySem.F.args_list_getattribute_2 _ _) (meets_getattribute_miss_list l items n sl "keys" _ hmiss hname) ⟨hx,hA,fun h' tk' e hx'=>?_⟩) | wp_step))
  obtain ⟨t',u',he⟩:=hx'.there
  unfold getattributeRaised
  repeat (any_goals (first | assumption | wp_step))
  exact h _ _ hx'.keeps
inductive PairsL (z:Z):List AV→List (Str×AV)→Prop where
 | nil:PairsL z [] []
 | cons {q x a vs r}:Fz z q (TupO [.s x,a])→PairsL z vs r→PairsL z (.v (.ref q)::vs) ((x,a)::r)
theorem PairsL.pr {z:Z}:∀ {vs r},PairsL z vs r→∀ {arr},ARel vs arr→PR (pairRel z) r arr:=by
 intro vs r h
 induction h with
 | nil=>intro arr ha;obtain _ | _:=ha;exact .nil
 | cons h t ih=>intro arr ha;obtain _ | ⟨ha,ra⟩:=ha;exact .cons ⟨_,ha,h⟩ (ih ra)
theorem PairsL.snoc {z:Z} {vs r} (h:PairsL z vs r) {q x a} (hq:Fz z q (TupO [.s x,a])):PairsL z (vs++[.v (.ref q)]) (r++[(x,a)]):=by
 induction h with
 | nil=>exact .cons hq .nil
 | cons h t ih=>exact .cons h ih
theorem PairsL.mono {z z':Z} (hz:Sub z z') {vs r} (h:PairsL z vs r):PairsL z' vs r:=by
 induction h with
 | nil=>exact .nil
 | cons h t ih=>exact .cons (h.mono hz) ih
theorem b_dict_pairs {l:Addr} {vs:List AV} {kv:Loc} {Q:VP} (S:St w ρ z (F::Δ) s) (hf:Fz z l (ListO vs)) (hp:PairsL z vs kv) (hn:(kv.map (·.1)).Nodup) (hz:kv.length≤1000) (R:Room A 4)
 (k:∀ d s',(d == sysModules)=false→St w ρ z (F::(d,DictO w kv)::Δ) s'→Q (.ref d) s'):wpAny (model PG w) A (call (.type "dict") [.ref l]) Q E s:=by
  refine callType_codes (Q₁:=fun obj s₁=>obj=.ref s.heap.objs.size∧s₁={ s with heap:=s.heap.push { cls:=.type "dict",data:=.dict #[] } }) PySem.F.kt_called_dict (PySem.F.kt_typeCall_dict_1 _) PySem.F.entry_dict_init (kt_code_dict_new _ ⟨rfl,rfl⟩) ?_
  rintro obj s₁ ⟨rfl,rfl⟩
  have hnew:(s.heap.push { cls:=.type "dict",data:=.dict #[] }).DictOf (kS w) s.heap.objs.size []:=Heap.DictOf.new s.heap
  have S1:St w ρ z (F::(s.heap.objs.size,DictO w [])::Δ) { s with heap:=s.heap.push { cls:=.type "dict",data:=.dict #[] },toks:=s.toks }:=S.push1 (t:=s.toks) rfl ⟨#[],0,[],⟨rfl,rfl,rfl⟩,rfl,fun f he=>by simp at he,Pairs.nil,List.nodup_nil,.nil⟩
  refine (?_:_→_) (S1.big (S1.lo (s.heap.objs.size,DictO w []) (by simp)))
  intro hbig
  refine ⟨hnew.typeIs,PySem.F.args_dict_init_2 _ _,?_⟩
  refine wpAny_bind ?_
  refine wpAny_bind (wpAny_notOrdered_dict hnew.typeIs ?_)
  refine wpAny_pure ?_
  obtain ⟨o,e,items,n,rfl,ri⟩:=S1.fz hf
  refine wpAny_bind (wpAny_typeOf ⟨_,e,rfl⟩ ?_)
  rw [if_pos (by decide)]
  refine wpAny_bind (ga_keys_none e rfl rfl rfl (by show A.in1.in1.handled=none;exact R.hd) fun h' tk hk=>?_)
  refine (?_:_→_) (S1.grow (t:=tk) hk)
  intro S2
  refine wpAny_bind (wpAny_rule ?_)
  refine wpAny_bind (it_listF S2 hf (fun f h=>hp.pr h) fun it s' N S'=>?_)
  refine wpAny_pure ⟨plainId_quiet plain_upd_loop _,?_⟩
  refine upd_loop N (R.in1.le (by exact ar98)) kv [] 0 s' S' (by simpa using hn) (by simpa using hz) fun s'' S''=>?_
  refine ⟨rfl,k _ _ hbig ?_⟩
  simpa using S''
theorem KR.hits {kb:List (Str×Value)} {m':Loc} (hb:KR m' kb):∀ {m ka},KR m ka→(∀ p∈m,∃ n:Int,p.2=.i n∧lk m' p.1=some (.i n))→KeqHits A s kb ka true
 | _,_,.nil,_=>.nil
 | _,_,.cons (x:=x) (m:=m) ha h,H=>by
  refine (let Gl:Prop:=_;(?_:Gl))
  obtain ⟨n,e1,e2⟩:=H _ (.head _)
  simp only at e1 e2
  subst e1
  obtain ⟨t,rfl⟩:=ha
  refine (?_:_→_) (hb.at x)
  intro this
  rw [e2] at this
  obtain ⟨y,hy,t',rfl⟩:=this
  refine (?_:(SeqAt.EqAt A s (.int n t) (.int n t') true)→_) (by
   refine (?_:_→_) (SeqAt.EqAt.int_int (A:=A) (s:=s) n t n t')
   intro this
   rwa [beq_self_eq_true] at this)
  intro e
  exact .hit (b:=true) hy e (hb.hits h fun p hp=>H p (.tail _ hp))
theorem c_ned {a b:Addr} {m m':Loc} {n:Nat} {Q:VP} (R:Room A n) (ha:Has s a (DictO w m)) (hb:Has s b (DictO w m')) (la:(a == sysModules)=false) (lb:(b == sysModules)=false)
 (hl:m.length=m'.length) (H:∀ p∈m,∃ n:Int,p.2=.i n∧lk m' p.1=some (.i n)) (h:Q (.bool false) s):wpAny (model PG w) A (compareOp .NotEq (.ref a) (.ref b)) Q E s:=by
  refine (let Gl:Prop:=_;(?_:Gl))
  obtain ⟨ka,ep,h1,h2⟩:=DictO.at ha
  obtain ⟨kb,ep',h3,h4⟩:=DictO.at hb
  refine keq_ne la lb h1.dictOf h3.dictOf R.u0 (fun f=>h4.hits h2 H) ?_
  rw [h2.len,h4.len,hl]
  simpa using h
end
noncomputable def spStep (J:Jobs) (st:Ps):Ps:=(spGet st).doneL (gAll J).su st.rd
noncomputable def ordF (J:Jobs):Nat→Ps→List Nat
 | 0,_=>[]
 | n+1,st=>if st.rd=[] then [] else st.rd++ordF J n (spStep J st)
theorem SI.step {J:Jobs} {D:List Nat} {st:Ps} (h:SI J D [] st):DoneOk (gAll J).su (spGet st) st.rd∧SI J (D++st.rd) [] (spStep J st):=by
 obtain ⟨h1,O',h2,h3⟩:=SI.doneL (l:=st.rd) h.get h.rdn (fun k hk=>by simpa using hk)
 refine (?_:(O'=[])→_) (by
  rw [List.eq_nil_iff_forall_not_mem]
  intro k hk
  refine (?_:_→_) ((h3 k).mp hk)
  intro this
  simp at this)
 intro this
 subst this
 exact ⟨h1,h2⟩
theorem SI.dlen {J:Jobs} {D O:List Nat} {st:Ps} (h:SI J D O st):D.length+O.length≤7:=by
 refine (?_:_→_) (nodup_len h.nd h.lt)
 intro this
 rwa [List.length_append] at this
theorem SI.full {J:Jobs} {fl D:List Nat} {st:Ps} (hfl:FreeSpec J fl) (h7:fl.length=7) (h:SI J D [] st) (hr:st.rd=[]):∀ k,k<7→k∈D:=by
 refine (?_:(∀ k,k<7→k∈fl)→_) (fun k hk=>by
  refine (?_:_→_) (nodup_full hfl.nd hfl.lt h7)
  intro this
  exact this k hk)
 intro hmem
 refine (?_:(∀ (i k:Nat),fl[i]?=some k→k∈D)→_) (by
  intro i
  induction i using Nat.strongRecOn with
  | _ i ih=>
   intro k hk
   have hk7:=hfl.lt k (List.mem_of_getElem? hk)
   have hw:∀ x∈(J k).waits,x∈D:=fun x hx=>by
    refine (?_:_→_) (hfl.topo i k hk x hx)
    intro this
    obtain ⟨j,hj⟩:=List.getElem?_of_mem this
    rw [List.getElem?_take] at hj
    split at hj
    ·rename_i hji
     exact ih j hji x hj
    ·cases hj
   by_cases q:k∈D
   ·exact q
   ·have:k∈st.rd:=(h.rd k).mpr ⟨hk7,q,by simp,cntW_zero' hw⟩
    rw [hr] at this;cases this)
 intro key
 intro k hk
 obtain ⟨i,hi⟩:=List.getElem?_of_mem (hmem k hk)
 exact key i k hi
theorem ordF_spec {J:Jobs} {fl:List Nat} (hfl:FreeSpec J fl) (h7:fl.length=7):∀ (n:Nat) (D:List Nat) (st:Ps),SI J D [] st→8≤D.length+n →
 (D++ordF J n st).Nodup∧(∀ k,k<7→k∈D++ordF J n st)∧(∀ k∈D++ordF J n st,k<7)∧∀ (i k:Nat),(ordF J n st)[i]?=some k→∀ x∈(J k).waits,x∈D++(ordF J n st).take i
  | 0,D,st,h,hn=>by
   refine (?_:_→_) (h.dlen)
   intro this
   simp at this;exact ar373 hn this
  | n+1,D,st,h,hn=>by
   unfold ordF
   by_cases q:st.rd=[]
   ·rw [if_pos q,List.append_nil]
    refine (?_:_→_) (h.nd)
    intro h1
    refine (?_:_→_) (h.lt)
    intro h2
    rw [List.append_nil] at h1 h2
    exact ⟨h1,h.full hfl h7 q,h2,fun i k hk=>by simp at hk⟩
   ·rw [if_neg q]
    refine (?_:(1≤st.rd.length)→_) (by
     cases e:st.rd with
     | nil=>exact absurd e q
     | cons a r=>simp)
    intro hl
    obtain ⟨a1,a2⟩:=ordF_spec hfl h7 n (D++st.rd) (spStep J st) h.step.2 (by rw [List.length_append];exact ar337 hl hn)
    refine (?_:_→_→_→_) a2.1 a2.2.1 a2.2.2
    intro a2 a3 a4
    rw [List.append_assoc] at a1 a2 a3
    refine ⟨a1,a2,a3,fun i k hk x hx=>?_⟩
    by_cases hi:i<st.rd.length
    ·rw [List.getElem?_append_left hi] at hk
     refine (?_:_→_) (cntW_zero ((h.rd k).mp (List.mem_of_getElem? hk)).2.2.2 x hx)
     intro this
     exact List.mem_append_left _ this
    ·rw [List.getElem?_append_right (by exact ar5 hi)] at hk
     refine (?_:_→_) (a4 (i - st.rd.length) k hk x hx)
     intro this
     rw [List.take_append]
     rw [List.append_assoc] at this
     refine (?_:(st.rd.take i=st.rd)→_) (List.take_of_length_le (by exact ar5 hi))
     intro e
     rw [e]
     exact this
structure OrdOK (J:Jobs) (l:List Nat):Prop where
 nd:l.Nodup
 all:∀ k,k<7→k∈l
 lt:∀ k∈l,k<7
 top:∀ (i k:Nat),l[i]?=some k→∀ x∈(J k).waits,x∈l.take i
theorem ord_ok {J:Jobs} {fl:List Nat} (hn:(gAll J).order.Nodup) (hlt:∀ k∈(gAll J).order,k<7) (hfl:FreeSpec J fl) (h7:fl.length=7):OrdOK J (ordF J 8 ⟨fun k=>((gAll J).np k:Int),rdOf (gAll J).np (gAll J).order,0,0⟩):=by
 refine (?_:_→_→_) ((ordF_spec hfl h7 8 [] _ (SI.init hn hlt) (by simp)).1) ((ordF_spec hfl h7 8 [] _ (SI.init hn hlt) (by simp)).2)
 intro a b
 refine (?_:_→_→_→_) b.1 b.2.1 b.2.2
 intro b c d
 simp only [List.nil_append] at a b c d
 exact ⟨a,b,c,d⟩
theorem OrdOK.len {J:Jobs} {l:List Nat} (h:OrdOK J l):l.length=7:=by
 refine (?_:_→_) (nodup_len h.nd h.lt)
 intro h1
 refine (?_:((List.range 7).length≤l.length)→_) (by
  refine (?_:_→_) (List.Nodup.length_le_of_subset (l₁:=List.range 7) (l₂:=l) List.nodup_range (fun k hk=>h.all k (List.mem_range.mp hk)))
  intro this
  exact this)
 intro h2
 simp at h2
 exact ar49 h2 h1
theorem OrdOK.perm {J:Jobs} {l:List Nat} (h:OrdOK J l):l.Perm (List.range 7):=by
 rw [List.perm_ext_iff_of_nodup h.nd List.nodup_range]
 intro k
 rw [List.mem_range]
 exact ⟨h.lt k,h.all k⟩
theorem OrdOK.before {J:Jobs} {l:List Nat} (h:OrdOK J l) {k x:Nat} (hk:k<7) (hx:x∈(J k).waits):l.idxOf x<l.idxOf k:=by
 refine (?_:(l[l.idxOf k]?=some k)→_) (by
  refine (?_:_→_) (List.idxOf_lt_length_of_mem (h.all k hk))
  intro this
  rw [List.getElem?_eq_getElem this,List.getElem_idxOf])
 intro h1
 have h2:=h.top _ k h1 x hx
 obtain ⟨j,hj⟩:=List.getElem?_of_mem h2
 rw [List.getElem?_take] at hj
 split at hj
 ·rename_i hlt
  refine (?_:(l[l.idxOf x]?=some x)→_) (by
   refine (?_:_→_) (List.idxOf_lt_length_of_mem (List.mem_of_mem_take h2))
   intro this
   rw [List.getElem?_eq_getElem this,List.getElem_idxOf])
  intro h3
  refine (?_:(l.idxOf x=j)→_) (nodup_idx h.nd h3 hj)
  intro this
  exact ar214 this hlt
 ·cases hj
section
variable {w:World} {ρ:Rest} {z:Z} {A:Around} {E:VP} {s:Shared} {Δ X:Ds} {F:Addr×OP}
theorem cs_tup_item {it t:Addr} {i:Nat} {items:Array Value} {x:Value} {Q:Option Value→Shared→Prop} (hit:s.heap.IsTupleIter it t i)
 (ht:s.heap.IsTuple t items) (hx:items[i]?=some x)
 (hQ:∀ h',h'.IsTupleIter it t (i+1)→Heap.SameBut it s.heap h'→Q (some x) { s with heap:=h' }) :
 wpAny (model PG w) A (callSpecial? (.ref it) "__next__") Q E s:=by
  refine (let Gl:Prop:=_;(?_:Gl))
  obtain ⟨o,ho,hc,hd⟩:=id hit
  obtain ⟨ol,hol,_,nl,hdl⟩:=ht
  refine wpAny_callSpecial?_slot (name:=Str.ofString "__next__") hit.typeIs PySem.F.slot_tuple_iterator_next
   (wpAny_call_entry PySem.F.slot_tuple_iterator_next hit.typeIs PySem.F.entry_tuple_iterator_next ?_ (PySem.F.args_tuple_iterator_next_1 _))
  show wpAny _ _ (field (.ref it) 0 >>= _) _ _ s
  refine wpAny_bind (wpAny_field ho hd (x:=.ref t) rfl ?_)
  show wpAny _ _ (if (Value.ref t == Value.none)=true then _ else _) _ _ s
  rw [if_neg (show ¬ ((Value.ref t == Value.none)=true) from Bool.false_ne_true)]
  refine wpAny_bind (wpAny_field ho hd (x:=.int i 0) rfl ?_)
  refine wpAny_bind (wpAny_seqItems hol hdl ?_)
  simp only [Int.toNat_natCast,hx]
  refine wpAny_bind (wpAny_setField ho hd (by simp) (wpAny_pure ⟨x,rfl,hQ _ ?_ (Heap.SameBut.update ..)⟩))
  exact ⟨_,Heap.get?_update_self _ ho (Obj.isFreed_of_fields (Obj.data_mapFields hd _)),(Obj.cls_mapFields ..).trans hc,by
   rw [Obj.data_mapFields hd];simp [rawInt]⟩
noncomputable def StopO:OP:=fun o=>∃ t,o={ cls:=.type "StopIteration",data:=.fields #[t,.none,.none,.none,.bool false,.none] }
theorem raise_stopN {α:Type} {Q:α→Shared→Prop} (hh:A.handled=none)
 (k:∀ e h',(∀ b o,s.heap.get? b=some o→h'.get? b=some o)→(∃ o,h'.get? e=some o∧StopO o)→E (.ref e) { s with heap:=h' }) :
 wpAny (model PG w) A (newExc (.type "StopIteration") [] >>= fun e=>(raiseNew e:Sem α)) Q E s:=by
  refine wpAny_bind ?_
  simp only [newExc,newTuple]
  refine wpAny_bind (wpAny_newObj_type ?_ (by size_fits))
  refine wpAny_bind (m:=firstArgMember _ _) (wpAny_of_eq (a:=Value.none) (by first | rfl | (simp only [firstArgMember];rfl)) ?_)
  refine wpAny_newObj_type ?_ (by size_fits)
  simp only [raiseNew]
  refine wpAny_bind (wpAny_handled ?_)
  rw [hh]
  refine wpAny_bind (wpAny_pure (wpAny_throw ?_))
  refine k _ _ (fun b o e=>Heap.get?_push_of_some _ (Heap.get?_push_of_some _ e)) ⟨_,Heap.get?_push_size _ rfl,_,rfl⟩
theorem cs_tup_end {it t:Addr} {i:Nat} {items:Array Value} {Q:Option Value→Shared→Prop} (hh:A.handled=none) (hit:s.heap.IsTupleIter it t i)
 (ht:s.heap.IsTuple t items) (hx:items[i]?=none)
 (k:∀ e h',Heap.ExtBut it s.heap h'→(∃ o,h'.get? e=some o∧StopO o)→E (.ref e) { s with heap:=h' }) :
 wpAny (model PG w) A (callSpecial? (.ref it) "__next__") Q E s:=by
  refine (let Gl:Prop:=_;(?_:Gl))
  obtain ⟨o,ho,hc,hd⟩:=id hit
  obtain ⟨ol,hol,_,nl,hdl⟩:=ht
  refine wpAny_callSpecial?_slot (name:=Str.ofString "__next__") hit.typeIs PySem.F.slot_tuple_iterator_next
   (wpAny_call_entry PySem.F.slot_tuple_iterator_next hit.typeIs PySem.F.entry_tuple_iterator_next ?_ (PySem.F.args_tuple_iterator_next_1 _))
  show wpAny _ _ (field (.ref it) 0 >>= _) _ _ s
  refine wpAny_bind (wpAny_field ho hd (x:=.ref t) rfl ?_)
  show wpAny _ _ (if (Value.ref t == Value.none)=true then _ else _) _ _ s
  rw [if_neg (show ¬ ((Value.ref t == Value.none)=true) from Bool.false_ne_true)]
  refine wpAny_bind (wpAny_field ho hd (x:=.int i 0) rfl ?_)
  refine wpAny_bind (wpAny_seqItems hol hdl ?_)
  simp only [Int.toNat_natCast,hx]
  refine wpAny_bind (wpAny_rule (wpAny_bind (wpAny_setField ho hd (by simp) ?_)))
  exact raise_stopN hh fun e h' hk he=>k e h' (fun b ob q g=>hk b ob ((Heap.SameBut.update ..).extBut b ob q g)) he
theorem entry_yf:entryFor table "proto.yield_from"=some Builtin.«proto.yield_from»:=entryFor_of_tree (by kernel_rfl)
noncomputable def GY (w:World) (ρ:Rest) (z0:Z) (D:Nat→Ds) (all:List Nat):Protocol:=fun m s₀ v s kap=>
 ∃ z' Δg k t,Sub z0 z'∧all[all.length - 1 - m]?=some k∧v=.str (nm k) t∧St w ρ z' (Δg++D (m+1)) s∧∀ z'' s'',Sub z' z''→St w ρ z'' (Δg++D m) s''→kap (.send .none) s''
noncomputable def GR (w:World) (ρ:Rest) (z0:Z) (D:Nat→Ds):GenEnd:=fun n s₀ r s=>
 r=.ok (.ret .none)∧(n=0∧∃ z' Δg,Sub z0 z'∧St w ρ z' (Δg++D 0) s)
noncomputable abbrev yfC (it:Addr):Code:=.builtin "proto.yield_from" ⟨[.ref it,.bool false,.none],[]⟩
theorem den_entry {id:String} {args:Args} {b:Args→Sem Fin} (h:entryFor table id=some b):(model PG w).den (.builtin id args)=b args:=by
 show (match entryFor table id with | some b=>b args | none=>unsupported ((withoutEnding? id "#data").getD id))=_
 rw [h]
theorem yf_seg {D:Nat→Ds} {all:List Nat} {z0:Z} {Δg:Ds} {tp it:Addr} {l:List Nat} {fs:List Frame} (hh:(A.over (yfC it) fs).handled=none) (hfs:splitAtGen fs=none) (hfg:fs.any Frame.guarded=false) :
 ∀ (r:List Nat) (m:Nat) (z:Z) (s₀ s:Shared),Sub z0 z→Fz z tp (TupO (nAVs l))→(∃ pre post,all=pre++r++post∧post.length=m)→St w ρ z (F::(it,TItO tp l r)::(Δg++D (r.length+m))) s →
 (∀ z' s₀' s',Sub z z'→St w ρ z' (F::(Δg++D m)) s'→Seg (model PG w) A (GR w ρ z0 D) (GY w ρ z0 D all) m s₀' (yfC it) (.pure (.done (.ret .none))) fs s') →
 Seg (model PG w) A (GR w ρ z0 D) (GY w ρ z0 D all) (r.length+m) s₀ (yfC it) ((model PG w).den (yfC it)) fs s:=by
  refine (?_:_→_) (den_entry (w:=w) (args:=⟨[.ref it,.bool false,.none],[]⟩) entry_yf)
  intro hden
  intro r
  induction r with
  | nil=>
   intro m z s₀ s hz0 htp hal S hk
   rw [hden]
   refine seg_bind (wpAny_pure ?_)
   obtain ⟨o,e,i,hc,hd,hi⟩:=S.at 1 rfl
   refine (let Gl:Prop:=_;(?_:Gl))
   obtain ⟨arr,ha,hr⟩:=TupO.isT (S.fz htp)
   obtain ⟨ot,eo,c1,n,c2⟩:=ha
   have hx:arr[i]?=none:=by simpa using (nAVs_pr hr).drop0 hi
   refine seg_bind (wpAny_attempt (wpAny_holding ?_))
   rw [if_neg Bool.false_ne_true,if_pos (by rfl)]
   refine wpAny_bind (wpAny_rule (wpAny_bind ?_))
   refine cs_tup_end hh ⟨o,e,hc,hd⟩ ⟨ot,eo,c1,n,c2⟩ hx fun ex h' hk' he=>?_
   have S1:=S.midGo (Δ:=[]) (t:=s.toks) (show Heap.ExtBut it s.heap h' from hk')
   obtain ⟨oe,ee,t,rfl⟩:=he
   refine seg_bind ?_
   refine wpAny_bind (wpAny_bind (wpAny_typeOf ⟨_,ee,rfl⟩ ?_))
   refine wpAny_bind (wpAny_of_eq isSubtype_stop (wpAny_bind (wpAny_of_eq (a:=Value.type "type") (by rfl) (wpAny_pure ?_))))
   dsimp only
   rw [if_neg Bool.false_ne_true]
   refine wpAny_pure ?_
   rw [if_pos rfl,if_neg Bool.false_ne_true]
   refine seg_bind (wpAny_rule ?_)
   refine seg_bind (wpAny_field ee rfl (x:=.none) rfl ?_)
   rw [show ([]:List Nat).length+m=m from Nat.zero_add m] at S1 ⊢
   exact hk z _ _ (Sub.refl _) S1
  | cons k r ih=>
   intro m z s₀ s hz0 htp hal S hk
   rw [hden]
   refine seg_bind (wpAny_pure ?_)
   obtain ⟨o,e,i,hc,hd,hi⟩:=S.at 1 rfl
   refine (let Gl:Prop:=_;(?_:Gl))
   obtain ⟨arr,ha,hr⟩:=TupO.isT (S.fz htp)
   obtain ⟨ot,eo,c1,n,c2⟩:=ha
   obtain ⟨v,h1,h2,h3⟩:=(nAVs_pr hr).drop1 hi
   refine seg_bind (wpAny_attempt (wpAny_holding ?_))
   rw [if_neg Bool.false_ne_true,if_pos (by rfl)]
   refine wpAny_bind (wpAny_rule (wpAny_bind ?_))
   refine cs_tup_item ⟨o,e,hc,hd⟩ ⟨ot,eo,c1,n,c2⟩ (by simpa using h1) fun h' hit hs=>wpAny_pure ?_
   obtain ⟨t,rfl⟩:=h2
   refine (let Gl:Prop:=_;(?_:Gl))
   obtain ⟨oi,ei,ci,di⟩:=hit
   have hT:∀ {tk},Shared.TypeIs ({ heap:=h',gens:=s.gens,drawn:=s.drawn,toks:=tk,os:=s.os }:Shared) (.ref it) "tuple_iterator":=⟨_,ei,ci⟩
   refine seg_bind (wpAny_typeOf hT ?_)
   refine seg_bind (wpAny_of_eq (a:=Option.none) (by rw [typeLookup_type,builtinLookup_eq_fast];kernel_rfl) ?_)
   refine seg_bind (wpAny_pure ?_)
   have hsl:∀ (b:Bool) (oi:Obj),oi.cls=.type "tuple_iterator"→∀ {Q':Unit→Shared→Prop} {E':VP} {A':Around} {s':Shared},s'.heap.get? it=some oi→Q' () s'→wpAny (model PG w) A' (Builtin.Generator.sleptOver (.ref it) b) Q' E' s':=fun b oi ci {Q' E' A' s'} hg hq=>by
    refine wpAny_bind (wpAny_load hg ?_)
    rw [ci,if_pos (by decide)]
    exact wpAny_pure hq
   refine seg_bind (hsl true oi ci ei ?_)
   have hlen:(k::r).length+m=(r.length+m)+1:=by simp;lia
   rw [hlen] at S ⊢
   have S1:=St.mid (Δ:=[]) (t:=s.toks) (P':=TItO tp l r) (show St w ρ z (F::([]++(it,TItO tp l (k::r))::(Δg++D (r.length+m+1)))) s from S) hs ⟨oi,ei,i+1,ci,di,h3⟩
   refine (let Gl:Prop:=_;(?_:Gl))
   obtain ⟨pre,post,hall,hpost⟩:=hal
   refine seg_yield hfs rfl hfg ⟨z,F::(it,TItO tp l r)::Δg,k,t,hz0,?_,rfl,S1,fun z'' s'' hz'' S''=>?_⟩
   ·rw [hall]
    simp only [List.length_append,List.length_cons]
    rw [List.append_assoc,List.getElem?_append_right (by lia)]
    rw [show pre.length+(r.length+1)+post.length - 1 - (r.length+m) - pre.length=0 by lia]
    rfl
   ·obtain ⟨oj,ej,j,cj,dj,hj⟩:=S''.at 1 rfl
    show Seg _ _ _ _ _ _ _ (Builtin.Generator.sleptOver (.ref it) false >>= _) _ _
    refine seg_bind (hsl false oj cj ej ?_)
    refine seg_bind (wpAny_of_eq (a:=Value.none) rfl ?_)
    refine seg_again (Code.quiet_builtin _ (by decide +kernel)) (ih m z'' s'' s'' (hz0.trans hz'') (htp.mono hz'') ⟨pre++[k],post,by rw [hall];simp,hpost⟩ S'' fun z3 s0 s3 hz3 S3=>hk z3 s0 s3 (hz''.trans hz3) S3)
end
noncomputable def GenO (n:Nat):OP:=fun o=>∃ nm qn,o.cls=.type "generator"∧o.data=.fields #[.int n 0,nm,qn]∧o.slots=#[]
section
variable {w:World} {ρ:Rest} {z:Z} {A:Around} {E:VP} {s:Shared} {Δ X:Ds} {F:Addr×OP} {m:Loc}
theorem St.gens (S:St w ρ z Δ s) (g':Array GenState):St w ⟨ρ.base,g',ρ.drawn,ρ.os⟩ z Δ { s with gens:=g' }:=
 ⟨S.wf,S.fr,S.own,S.nd,S.lo,S.sz,rfl,S.d,S.os⟩
theorem cfcG {f:Addr} {name qual:Str} {params:Arguments} {body:List Stmt} {scope:Scope} {dV kV doc pm cdv ct oc:Value} {an od:Option Addr} {osl:Array (Option Value)} {args:List Value} {binds:List (Str×Value)} {Rs:Result→Shared→Prop}
 (S:St w ρ z Δ s) (ho:List.lookup f (hdp.heap_1_39 w.params)=some ⟨oc,od,.func (fnOf name qual params body scope dV kV doc pm an cdv ct),osl⟩) (hcd:codeIn (hdp.heap_1_39 w.params) cdv qual=true) {n:Nat} (hroom:Room A (n+1))
 (hbind:BindsTo s (fnOf name qual params body scope dV kV doc pm an cdv ct) ⟨args,[]⟩ binds) (hloc:∀ x∈binds.map (·.1),scope.names.lookup x=some .local) (hm:BRel binds m) (hnd:(binds.map (·.1)).Nodup)
 (h:∀ L a s',St w ⟨ρ.base,ρ.gens.push (.fresh (.func body (envOf qual scope L f cdv))),ρ.drawn,ρ.os⟩ z ((L,FrO m)::(a,GenO ρ.gens.size)::Δ) s'→Rs (.ok (.ret (.ref a))) s')
 (hco:scope.isCoroutine=false) (hgen:scope.isGenerator=true) (hk:scope.kind=.function) (hcell:∀ x∈scope.names,x.2≠.cell) :
 codeAny (model PG w) A (.call (.ref f) ⟨args,[]⟩) Rs s:=by
  refine codeAny_call_generator (fd:=fnOf name qual params body scope dV kV doc pm an cdv ct) (body:=body) hroom.d0 (S.K _ _ ho) rfl hco hgen rfl (codeRec_of S.K hcd) (hbind _ _ _ _ ?_)
  refine wpAny_newFunctionEnv hcell (fun x hx=>hloc x.1 (List.mem_map_of_mem hx)) (fun h₀ hns₀ hsb₀=>⟨S.nolim.fresh _ hsb₀,?_⟩) hk
  refine (?_:(∀ b o,s.heap.get? b=some o→h₀.get? b=some o)→_) (fun b o e=>hsb₀.extBut b o (Nat.ne_of_lt (Heap.lt_size e)) (Heap.get?_push_of_some _ e))
  intro hk₁
  refine (?_:_→_) (S.frame (t:=s.toks+binds.length) hm hnd hns₀ hk₁)
  intro S1
  refine (?_:_→_) (S1.gens (ρ.gens.push (.fresh (.func body (envOf qual scope s.heap.objs.size f cdv)))))
  intro S2
  refine (?_:_→_) (S2.push1 (t:=s.toks+binds.length+1+1) (o:={ cls:=.type "generator",data:=.fields #[.int ρ.gens.size 0,.str name (s.toks+binds.length),.str qual (s.toks+binds.length+1)] }) (P:=GenO ρ.gens.size) rfl ⟨_,_,rfl,rfl,rfl⟩)
  intro S3
  refine (?_:_→_) (S.g)
  intro hg
  obtain ⟨hp,g,d,tk,os⟩:=s
  simp only at hg
  subst hg
  exact h _ _ _ S3
end
section
variable {w:World} {ρ:Rest} {z:Z} {A:Around} {E:VP} {s s₀:Shared} {Δ X:Ds} {F:Addr×OP} {m:Loc}
theorem seg_yf {R:GenEnd} {Y:Protocol} {n:Nat} {c:Code} {fs:List Frame} {env:Env} {e:PySem.Expr} {ypos pos:Pos} {K:Flow→Sem Fin} {H:Value→Sem Fin} {gd:Bool→Bool} {lv:List Value→List Value}
 (h:wpAny (model PG w) (A.over c fs) (eval e env) (fun v s₁=>s₁.TypeIs v "tuple"∧wpAny (model PG w) (A.over c fs) (pyIter v) (fun it s₂=>∃ a,it=.ref a∧∀ k p,(∀ n' s₀' s',Seg (model PG w) A R Y n' s₀' c (K .next) fs s'→Seg (model PG w) A R Y n' s₀' c (k (.ok (.ret .none))) fs s') →
 Seg (model PG w) A R Y n s₀ (yfC a) ((model PG w).den (yfC a)) (.ret k none (gd false) (lv []) c p []::fs) s₂) (fun x s'=>Seg (model PG w) A R Y n s₀ c (H x) fs s') s₁) (fun x s'=>Seg (model PG w) A R Y n s₀ c (H x) fs s') s)
 (hi:interactive env=false:=by rfl) :
 Seg (model PG w) A R Y n s₀ c ((exec (.Expr (.YieldFrom e ypos) pos) env).wrap K H gd lv) fs s:=by
  rw [exec_Expr env _ pos hi rfl]
  show Seg _ A R Y n s₀ c (.at pos fun b=>((eval e env >>= fun v=>(standAt ypos >>= fun b=>yieldFrom env v)) >>= fun x=>dropValue (.YieldFrom e ypos) pos x).wrap K H gd lv) fs s
  refine seg_at ?_
  rw [Sem.bind_eq_wrap',Sem.bind_eq_wrap',Sem.wrap_wrap,Sem.wrap_wrap]
  refine seg_wrap (wpAny_mono h (fun v s₁ h₁=>?_) fun b b x=>x)
  refine seg_at ?_
  show Seg _ A R Y n s₀ c ((yieldFrom env v).wrap _ _ _ _) fs s₁
  unfold yieldFrom
  refine seg_bind_wrap (wpAny_typeOf h₁.1 ?_)
  rw [if_neg (by decide)]
  refine seg_bind_wrap (wpAny_holding (wpAny_mono h₁.2 (fun it s₂ h₂=>?_) fun b b x=>x))
  obtain ⟨a,rfl,h₂⟩:=h₂
  refine seg_call fun p=>h₂ _ p fun n' s₀' s' hs=>?_
  exact hs
end
section
variable {w:World} {A:Around} {E:VP} {s:Shared} {ρ:Rest} {z:Z} {Δ:Ds}
noncomputable abbrev sp0 (J:Jobs):Ps:=⟨fun k=>((gAll J).np k:Int),rdOf (gAll J).np (gAll J).order,0,0⟩
noncomputable def GenReady (w:World) (base:Heap) (c:Code) (z:Z) (Δg:Ds) (all:List Nat):Prop:=
 ∀ {A:Around} {ρ:Rest} {z0:Z} {D:Nat→Ds} {s s₀:Shared} {fs:List Env},ρ.base=base→Room A 14→A.frames=some fs→Frs fs (D all.length)→Sub z z0→St w ρ z0 (Δg++D all.length) s →
  Seg (model PG w) A (GR w ρ z0 D) (GY w ρ z0 D all) all.length s₀ c ((model PG w).den c) [] s
theorem over_func {A:Around} {n:Nat} {fs:List Env} {body:List Stmt} {env:Env} (R:Room A (n+1)) (hfr:A.frames=some fs):Room (A.over (.func body env) []) n∧(A.over (.func body env) []).frames=some (env::fs):=by
 refine ⟨⟨R.hd,?_,?_⟩,?_⟩
 ·refine (?_:_→_) (R.dp)
  intro this
  show A.depth+0+1+n<_
  exact ar310 this
 ·refine (?_:_→_) (R.un)
  intro this
  show A.units+0+3+8 * n<_
  exact ar358 this
 ·show pushEnvs [env] (pushEnvs [] A.frames)=_
  rw [hfr];rfl
theorem seg_func1 {A:Around} {n k:Nat} {fs:List Env} {body:List Stmt} {env:Env} {Re:GenEnd} {Y:Protocol} {s₀ s:Shared} {α:Type} {m:Sem α} {K:α→Sem Fin} {H:Value→Sem Fin} {gd lv} (R:Room A (n+1)) (hfr:A.frames=some fs)
 (h:∀ A',Room A' n→A'.frames=some (env::fs)→wpAny (model PG w) A' m (fun a s'=>Seg (model PG w) A Re Y k s₀ (.func body env) (K a) [] s') (fun x s'=>Seg (model PG w) A Re Y k s₀ (.func body env) (H x) [] s') s) :
 Seg (model PG w) A Re Y k s₀ (.func body env) (m.wrap K H gd lv) [] s:=
  seg_wrap (h _ (over_func R hfr).1 (over_func R hfr).2)
theorem over_while {A:Around} {n:Nat} {fs:List Env} {body b1 b2:List Stmt} {test:PySem.Expr} {env env2:Env} {k g l p q} (R:Room A (n+1)) (hfr:A.frames=some fs) :
 Room (A.over (.whileLoop test b1 b2 env2) [.ret k none g l (.func body env) p q]) n∧(A.over (.whileLoop test b1 b2 env2) [.ret k none g l (.func body env) p q]).frames=some (env::fs):=by
  refine ⟨⟨?_,?_,?_⟩,?_⟩
  ·exact R.hd
  ·refine (?_:_→_) (R.dp)
   intro this
   show A.depth+1+0+n<_
   lia
  ·refine (?_:_→_) (R.un)
   intro this
   show A.units+3+0+8 * n<_
   lia
  ·show pushEnvs [] (pushEnvs [env] A.frames)=_
   rw [hfr];rfl
theorem over_yf {A:Around} {it:Addr} {body b1 b2:List Stmt} {test:PySem.Expr} {env env2:Env} {k g l p q k2 g2 l2 p2 q2} (hA:A.handled=none) :
 (A.over (yfC it) [.ret k2 none g2 l2 (.whileLoop test b1 b2 env2) p2 q2,.ret k none g l (.func body env) p q]).handled=none:=hA
theorem static_spec {J:Jobs} (hJ:JOk J) {fl:List Nat} (hfl:FreeSpec J fl) (h7:fl.length=7) {sa:SA} {Rs:Result→Shared→Prop} (S:St w ρ z (preE w sa (gAll J)++Δ) s) (ok:SOk w z sa (gAll J).order) (R:Room A 2)
 (K:∀ a L c s',GenReady w ρ.base c z ((L,FrO [("self",.v (.ref sa.x))])::preE w sa (gAll J)) (ordF J 8 (sp0 J)) →
 St w ⟨ρ.base,ρ.gens.push (.fresh c),ρ.drawn,ρ.os⟩ z ((L,FrO [("self",.v (.ref sa.x))])::(a,GenO ρ.gens.size)::(preE w sa (gAll J)++Δ)) s'→Rs (.ok (.ret (.ref a))) s') :
 codeAny (model PG w) A (.call (.ref 127) ⟨[.ref sa.x],[]⟩) Rs s:=by
  refine' cfcG (binds:=[("self",.ref sa.x)]) (m:=[("self",.v (.ref sa.x))]) S ?ho ?hcd R ?hb ?hloc (.cons rfl .nil) ?hnd ?h ?h1 ?h2 ?h3 ?hcell
  case ho=>k_is
  case hcd=>k_is
  case hb=>exact .of_eq rfl
  case hloc=>show ∀ x∈[("self":Str)],_;decide
  case hnd=>show [("self":Str)].Nodup;decide
  case h1=>exact rfl
  case h2=>exact rfl
  case h3=>exact rfl
  case hcell=>decide
  intro L a s' S'
  refine K a L _ s' ?_ S'
  intro A ρ z0 D s s₀ fs hb R hfr hF hz S
  refine (?_:_→_) (ok.mono hz)
  intro ok
  have hsul:∀ k,((gAll J).su k).length≤50:=fun k=>Nat.le_trans (gOf_len (wt:=fun k=>(J k).waits) hJ.wl 7 (Nat.le_refl _) k) (by decide)
  have hord:∀ k,k<7→k∈(gAll J).order:=fun k hk=>gAll_ord J hk
  refine seg_func (seg_execs_cons (seg_func1 (n:=13) R hfr fun A' R' hfr'=>?_))
  refine s_callm ⟨rfl,rfl,rfl⟩ S (lf_gmi (m_prep w) (.fz ok.x) (.own 0 rfl) rfl ⟨85,sa.x,rfl,rfl,fun s S=>?_⟩)
  refine wpAny_call (prepare_spec (a:=sa) (g:=gAll J) (S.perm List.perm_middle) ok hsul (fun k hk j hjk=>hord j (gAll_su.mp hjk).1) (R'.le (by decide)) hfr' (Frs.enter hF rfl) ?_ ?_)
  case refine_2=>
   intro e tb t q z4 s r rg hz4 pk ht hq hring hord2 hlen X
   exact absurd h7 (ring_free hfl hring)
  intro z4 s r fin hz4 pk S hD hfin
  refine (?_:_→_) (S.perm List.perm_middle.symm)
  intro S
  refine seg_execs_cons ?_
  refine seg_While fun p=>?_
  generalize hc:Code.whileLoop _ _ _ _=c
  generalize hfs:[Frame.ret _ _ _ _ _ _ _]=fr
  have loop:∀ (n:Nat) (st:Ps) (Dd:List Nat) (zz:Z) (s₀ s:Shared),SI J Dd [] st→8≤Dd.length+n→(∃ pre,ordF J 8 (sp0 J)=pre++ordF J n st)→Sub z4 zz →
   St w ρ zz ((L,FrO [("self",.v (.ref sa.x))])::(postE sa r (gAll J).order st++D (ordF J n st).length)) s →
   Seg (model PG w) A (GR w ρ z0 D) (GY w ρ z0 D (ordF J 8 (sp0 J))) (ordF J n st).length s₀ c ((model PG w).den c) fr s:=by
   subst hc
   subst hfs
   intro n
   induction n with
   | zero=>
    intro st Dd zz s₀ s hI hn
    refine (?_:_→_) (hI.dlen)
    intro this
    simp at this;exact ar372 hn this
   | succ n ih=>
    intro st Dd zz s₀ s hI hn hpre hzz S
    have pk':=pk.mono hzz
    refine (?_:_→_) (pk'.ok.x)
    intro hx
    have hrdl:st.rd.length≤7:=nodup_len hI.rdn fun k hk=>((hI.rd k).mp hk).1
    refine seg_whileLoop ?_
    generalize hA':Around.over A _ _=A'
    refine (?_:(Room A' 13)→_) (by rw [← hA'];exact (over_while R hfr).1)
    intro R'
    refine b_go ⟨rfl,rfl,rfl⟩ S (lf_gmi (m_is_active w) (.fz hx) (.own 0 rfl) rfl (lc_blk 0 (B:=postE sa r (gAll J).order st) rfl fun Δ'=>is_active_T pk' (Nat.le_trans hrdl (by decide)) (R'.le (by decide)) (b:=!st.rd.isEmpty) ?b1 ⟨_,rfl,fun s S=>?_⟩))
    case b1=>rw [show decide (st.f<st.p)=false from by rw [hI.p,hI.f];simp,Bool.false_or]
    by_cases hr:st.rd=[]
    ·have ho:ordF J (n+1) st=[]:=by unfold ordF;rw [if_pos hr]
     rw [hr]
     rw [ho] at S ⊢
     refine seg_execs_nil (seg_leaf (.ok .next) (seg_end (.ok (.ret .none)) ⟨rfl,rfl,zz,(L,FrO [("self",.v (.ref sa.x))])::postE sa r (gAll J).order st,hz4.trans hzz,S⟩))
    ·have ho:ordF J (n+1) st=st.rd++ordF J n (spStep J st):=by
      show (if st.rd=[] then [] else _)=_
      rw [if_neg hr]
     refine (?_:_→_→_) hI.step.1 hI.step.2
     intro hdone hI2
     refine (?_:((!st.rd.isEmpty)=true)→_) (by cases q:st.rd with | nil=>exact absurd q hr | cons=>rfl)
     intro hie
     rw [hie]
     rw [ho,List.length_append] at S ⊢
     refine seg_execs_cons (seg_wrap ?_)
     generalize hA':Around.over A _ _=A'
     refine (?_:(Room A' 13)→_) (by rw [← hA'];exact (over_while R hfr).1)
     intro R'
     refine st_go ⟨rfl,rfl,rfl⟩ S (lf_gmi (m_get_ready w) (.fz hx) (.own 0 rfl) rfl (lc_blk 0 (B:=postE sa r (gAll J).order st) rfl fun Δ'=>get_ready_T pk' (Nat.le_trans hrdl (by decide)) (fun k hk=>hord k ((hI.rd k).mp hk).1) (R'.le (by decide)) fun q z5 hz5 hq=>⟨_,rfl,fun f s hf S=>?_⟩))
     cases hf
     refine seg_execs_cons (seg_yf ?_)
     generalize hA':Around.over A _ _=A'
     refine (?_:(Room A' 13)→_) (by rw [← hA'];exact (over_while R hfr).1)
     intro R'
     refine ld S rfl rfl rfl rfl rfl fun v hv=>?_
     cases hv
     have hT:s.TypeIs (.ref q) "tuple":=by
      obtain ⟨o,e,items,nn,rfl,_⟩:=S.fz hq
      exact ⟨_,e,rfl⟩
     refine ⟨hT,it_tup S hq (fun d h=>nAVs_pr h) fun it s N S=>⟨it,rfl,fun k p' hk=>?_⟩⟩
     obtain ⟨pre,hpre⟩:=hpre
     rw [ho] at hpre
     refine yf_seg (Δg:=postE sa r (gAll J).order (spGet st)) (over_yf R.hd) rfl rfl st.rd _ z5 s₀ s (hz4.trans (hzz.trans hz5)) hq ⟨pre,_,by rw [hpre,List.append_assoc],rfl⟩ (S.perm (.cons _ (List.perm_append_comm (l₁:=[_])))) ?_
     intro z6 s₁ s hz6 S
     refine seg_leaf (.ok (.ret .none)) (hk _ s₁ s ?_)
     refine seg_execs_cons (seg_wrap ?_)
     generalize hA':Around.over A _ _=A'
     refine (?_:(Room A' 13)→_) (by rw [← hA'];exact (over_while R hfr).1)
     intro R'
     refine (?_:_→_) (pk'.mono (hz5.trans hz6))
     intro pk6
     refine (?_:_→_) (m_done w)
     intro M
     refine wpAny_Expr_any (e_callms (ld S rfl rfl rfl rfl rfl fun v hv=>?_) rfl rfl) rfl rfl
     cases hv
     refine ga_meth S (S.fz pk6.ok.x) (S.at 1 rfl) M.g M.h M.i M.s M.t M.y M.c rfl fun q3 s S=>?_
     refine cw_ms1 (x:=sa.x) M.fn (ld S rfl rfl rfl rfl rfl fun v hv=>?_) rfl
     cases hv
     refine star_t S (S.fz (hq.mono hz6)) (by rw [List.length_map];exact ar9 hrdl) fun xs s hxs S=>⟨⟨S.at 1 rfl,S.K⟩,?_⟩
     refine done_spec (S.drop2.perm List.perm_middle) pk6 (Nat.zero_le _) (fun k=>Nat.le_trans (hsul k) (by decide)) (fun k hk j hjk=>hord j (gAll_su.mp hjk).1) (fun k hk=>hord k ((hI.rd k).mp hk).1) (Nat.le_trans hrdl (by decide)) hdone hxs (R'.le (by decide)) fun z7 s hz7 S=>?_
     refine (?_:(St w ρ z7 ((L,FrO (([("self",AV.v (.ref sa.x))]:Loc)++([("node_group",AV.v (.ref q))]:Loc)))::(postE sa r (gAll J).order (spStep J st)++D (ordF J n (spStep J st)).length)) s)→_) (S.perm List.perm_middle.symm)
     intro S
     refine seg_execs_nil (seg_again rfl (ih (spStep J st) (Dd++st.rd) z7 s₁ s hI2 ?_ ⟨pre++st.rd,by rw [hpre,List.append_assoc]⟩ (hzz.trans (hz5.trans (hz6.trans hz7))) S.pre))
     refine (?_:(1≤st.rd.length)→_) (by
      cases q:st.rd with
      | nil=>exact absurd q hr
      | cons a l=>simp)
     intro this
     rw [List.length_append];exact ar380 this hn hrdl
  exact loop 8 (sp0 J) [] z4 _ s (SI.init pk.ok.nodup pk.ok.lt) (by simp) ⟨[],rfl⟩ (Sub.refl _) S
end
theorem push_set {α:Type} (G:Array α) (x y:α):(G.push x).setIfInBounds G.size y=G.push y:=by
 apply Array.ext
 ·simp
 ·intro i h1 h2
  simp only [Array.size_setIfInBounds,Array.size_push] at h1
  rw [Array.getElem_setIfInBounds (by simpa using h1)]
  by_cases q:G.size=i
  ·subst q;simp
  ·rw [if_neg q,Array.getElem_push_lt (by lia),Array.getElem_push_lt (by lia)]
section
variable {w:World} {ρ:Rest} {z:Z} {A:Around} {E:VP} {s:Shared} {Δ X:Ds} {F:Addr×OP} {m:Loc} {b0:Heap} {dr:Drawn} {os:OsState} {G:Array GenState}
theorem St.setGen {x y:GenState} (S:St w ⟨b0,G.push x,dr,os⟩ z Δ s):St w ⟨b0,G.push y,dr,os⟩ z Δ (s.setGen G.size y):=by
 refine (?_:_→_) (S.gens (G.push y))
 intro this
 refine (?_:_→_) (S.g)
 intro hg
 unfold Shared.setGen
 rw [hg]
 rw [show (⟨b0,G.push x,dr,os⟩:Rest).gens=G.push x from rfl,push_set]
 exact this
noncomputable abbrev gD (F:Addr×OP) (l:Addr) (all:List Nat) (Δ:Ds):Nat→Ds:=fun n=>F::(l,ListO (nAVs (all.take (all.length - n))))::Δ
theorem gD_push {l:Addr} {all:List Nat} {Δg:Ds} {n k:Nat} {t:Tok} (hn:n+1≤all.length) (hk:all[all.length - 1 - n]?=some k) (S:St w ρ z (Δg++gD F l all Δ (n+1)) s) :
 ∃ o items c,s.heap.get? l=some o∧o.data=.seq items c∧items.size≤all.length∧St w ρ z (Δg++gD F l all Δ n) { s with heap:=s.heap.update l (Obj.mapSeq (·.push (.str (nm k) t))) }:=by
  have hj:(Δg++gD F l all Δ (n+1))[Δg.length+1]?=some (l,ListO (nAVs (all.take (all.length - (n+1))))):=by
   rw [List.getElem?_append_right (by exact ar14)]
   rw [show Δg.length+1 - Δg.length=1 by exact ar36];rfl
  obtain ⟨o,e,items,c,rfl,r⟩:=S.at _ hj
  have hsz:items.size≤all.length:=by
   refine (?_:_→_) (r.sizeA)
   intro this
   rw [this]
   simp only [nAVs,List.length_map,List.length_take];exact ar301 hn
  refine ⟨_,items,c,e,rfl,hsz,?_⟩
  refine (?_:_→_) (S.upd (t:=s.toks) (P':=ListO (nAVs (all.take (all.length - n)))) (f:=Obj.mapSeq (·.push (.str (nm k) t))) _ hj fun o' e' b=>by
   rw [e] at e';cases e'
   refine ⟨⟨items.push (.str (nm k) t),if (items.push (Value.str (nm k) t)).size == items.size then c else c+1,rfl,?_⟩,rfl⟩
   rw [Array.toList_push]
   refine (?_:(all.take (all.length - n)=all.take (all.length - (n+1))++[k])→_) (by
    have e2:all.length - n=(all.length - (n+1))+1:=by exact ar300 hn
    rw [e2,List.take_add_one]
    rw [show all.length - (n+1)=all.length - 1 - n by exact ar206,hk];rfl)
   intro e1
   rw [e1]
   simp only [nAVs,List.map_append,List.map_cons,List.map_nil]
   exact r.append (.cons ⟨t,rfl⟩ .nil))
  intro S1
  refine (?_:((Δg++gD F l all Δ (n+1)).set (Δg.length+1) (l,ListO (nAVs (all.take (all.length - n))))=Δg++gD F l all Δ n)→_) (by
   rw [List.set_append_right _ _ (by exact ar14)]
   rw [show Δg.length+1 - Δg.length=1 by exact ar36];rfl)
  intro e3
  rw [e3] at S1
  exact S1
theorem ext_gen {a l:Addr} {all:List Nat} {z0:Z} {R:Result→Shared→Prop} (rm:Room A 3) (hz7:all.length≤100) (hga:Fz z0 a (GenO G.size))
 (fin:∀ z' Δg s',Sub z0 z'→St w ⟨b0,G.push .finished,dr,os⟩ z' (Δg++gD F l all Δ 0) s'→R (.ok (.ret .none)) s') :
 ∀ (n:Nat),n≤all.length→∀ (gs:GenState) (zc:Z) (Δg:Ds) (s:Shared),Sub z0 zc→St w ⟨b0,G.push gs,dr,os⟩ zc (Δg++gD F l all Δ n) s →
 (∀ s'',St w ⟨b0,G.push .running,dr,os⟩ zc (Δg++gD F l all Δ n) s''→gs.Goes (model PG w) A.in1.in1 (GR w ⟨b0,G.push .running,dr,os⟩ z0 (gD F l all Δ)) (GY w ⟨b0,G.push .running,dr,os⟩ z0 (gD F l all Δ) all) n (.send .none) s'') →
 codeAny (model PG w) A (.builtin "list.extend.loop" ⟨[.ref l,.ref a,.none],[]⟩) R s:=by
  intro n
  induction n with
  | zero=>
   intro hn gs zc Δg s hz S hgo
   refine codeAny_builtin PySem.F.entry_extend_loop ?_
   rw [Around.under_plainId PySem.F.plain_extend_loop _]
   refine (let Gl:Prop:=_;(?_:Gl))
   obtain ⟨o,e,nmv,qn,c1,c2,c3⟩:=S.fz (hga.mono hz)
   have hg:s.heap.IsGen a G.size:=⟨o,nmv,qn,e,c1,c2,c3⟩
   refine wpAny_bind (wpAny_pyNext_gen (P:=fun n s₀ s₁=>n=0∧∃ z' Δg,Sub z0 z'∧St w ⟨b0,G.push .running,dr,os⟩ z' (Δg++gD F l all Δ 0) s₁) (n:=0) rm.hd S.nolim (by refine (?_:_→_) (rm.dp);intro this;show A.depth<_;exact ar46 this) hg (by rw [S.g];simp) (hgo _ S.setGen) (fun v s₁ gs' hv=>?_) (fun s₁ hp h' hk=>?_))
   ·obtain ⟨z',Δg',k,t,hz',hidx,rfl,S1,hk⟩:=hv
    have hlen:0+1≤all.length:=by
     cases all with
     | nil=>simp at hidx
     | cons=>simp
    refine (let Gl:Prop:=_;(?_:Gl))
    obtain ⟨_,_,_,_,_,_,S2⟩:=gD_push (n:=0) (t:=t) hlen hidx S1
    exact (hk z' _ (Sub.refl _) S2).elim
   ·obtain ⟨_,z',Δg',hz'⟩:=hp
    refine (?_:_→_→_) hz'.1 hz'.2
    intro hz' S'
    refine wpAny_pure (fin z' Δg' _ hz' ?_)
    refine (?_:_→_) ((S'.setGen (y:=.finished)).perm (List.perm_middle (a:=F) (l₁:=Δg')).symm)
    intro S2
    exact (S2.grow (t:=s₁.toks) hk).perm List.perm_middle
  | succ n ih=>
   intro hn gs zc Δg s hz S hgo
   refine codeAny_builtin PySem.F.entry_extend_loop ?_
   rw [Around.under_plainId PySem.F.plain_extend_loop _]
   refine (let Gl:Prop:=_;(?_:Gl))
   obtain ⟨o,e,nmv,qn,c1,c2,c3⟩:=S.fz (hga.mono hz)
   have hg:s.heap.IsGen a G.size:=⟨o,nmv,qn,e,c1,c2,c3⟩
   refine wpAny_bind (wpAny_pyNext_gen (P:=fun n s₀ s₁=>n=0∧∃ z' Δg,Sub z0 z'∧St w ⟨b0,G.push .running,dr,os⟩ z' (Δg++gD F l all Δ 0) s₁) (n:=n+1) rm.hd S.nolim (by refine (?_:_→_) (rm.dp);intro this;show A.depth<_;exact ar46 this) hg (by rw [S.g];simp) (hgo _ S.setGen) (fun v s₁ gs' hv=>?_) (fun s₁ hp h' hk=>?_))
   ·obtain ⟨z',Δg',k,t,hz',hidx,rfl,S1,hk⟩:=hv
    refine (let Gl:Prop:=_;(?_:Gl))
    obtain ⟨ol,items,c,el⟩:=gD_push (n:=n) (t:=t) hn hidx (S1.setGen (y:=gs'))
    refine (?_:_→_→_→_→_) el.1 el.2.1 el.2.2.1 el.2.2.2
    intro el hd hsz S2
    refine wpAny_bind (wpAny_updateSeq el hd (wpAny_pure ⟨plainId_quiet PySem.F.plain_extend_loop _,?_⟩) (by rw [sizeLine_eq];exact ar270 hsz hz7) (by rw [Array.size_push,sizeLine_eq];exact ar321 hsz hz7))
    exact ih (by exact ar17 hn) gs' z' Δg' _ hz' S2 fun s'' S''=>hk z' s'' (Sub.refl _) S''
   ·exact absurd hp.1 (Nat.succ_ne_zero n)
end
section
variable {w:World} {ρ:Rest} {z:Z} {A:Around} {E:VP} {s:Shared} {Δ X:Ds} {F:Addr×OP} {m:Loc} {b0:Heap} {dr:Drawn} {os:OsState} {G:Array GenState}
theorem b_list_gen {a:Addr} {all:List Nat} {c:Code} {Δg:Ds} {fs:List Env} {Q:VP} (S:St w ⟨b0,G.push (.fresh c),dr,os⟩ z (F::(Δg++Δ)) s) (hga:Fz z a (GenO G.size)) (hrdy:GenReady w b0 c z Δg all)
 (hz7:all.length≤100) (R:Room A 18) (hfr:A.frames=some fs) (hF:Frs fs (F::Δ))
 (k:∀ l z' s',Sub z z'→St w ⟨b0,G.push .finished,dr,os⟩ z' (F::(l,ListO (nAVs all))::Δ) s'→Q (.ref l) s'):wpAny (model PG w) A (call (.type "list") [.ref a]) Q E s:=by
  refine callType_codes (Q₁:=fun obj s₁=>obj=.ref s.heap.objs.size∧s₁={ s with heap:=s.heap.push { cls:=.type "list",data:=.seq #[] } }) PySem.F.called_list (PySem.F.typeCall_list_1 _) PySem.F.entry_list_init
   (code_list_new _ ⟨rfl,rfl⟩) fun obj s₁ h₁=>?_
  obtain ⟨rfl,rfl⟩:=h₁
  have hS:(s.heap.push { cls:=.type "list",data:=.seq #[] }).get? s.heap.objs.size=some { cls:=.type "list",data:=.seq #[] }:=Heap.get?_push_size _ rfl
  have S1:St w ⟨b0,G.push (.fresh c),dr,os⟩ z (F::(s.heap.objs.size,ListO [])::(Δg++Δ)) { s with heap:=s.heap.push { cls:=.type "list",data:=.seq #[] },toks:=s.toks }:=S.push1 (t:=s.toks) rfl ⟨#[],_,rfl,.nil⟩
  generalize hl:s.heap.objs.size=l at *
  generalize hh:s.heap.push { cls:=.type "list",data:=.seq #[] }=hp at *
  refine ⟨⟨_,hS,rfl⟩,PySem.F.args_list_init_2 _ _,?_⟩
  refine wpAny_bind ?_
  refine wpAny_bind (wpAny_seqItems hS rfl (wpAny_pure ?_))
  refine wpAny_bind (wpAny_updateSeq hS rfl ?_)
  refine (?_:_→_) (Heap.get?_update_self (Obj.mapSeq (fun b=>(#[]:Array Value))) hS rfl)
  intro hS₂
  refine wpAny_bind (wpAny_letGo ?_)
  refine (?_:_→_) (S1.same (t:=s.toks) (P':=ListO []) 1 rfl (Heap.SameBut.update hp l (Obj.mapSeq fun b=>(#[]:Array Value))) ⟨_,hS₂,_,_,rfl,.nil⟩)
  intro S2
  refine (let Gl:Prop:=_;(?_:Gl))
  obtain ⟨og,eg,nmv,qn,c1,c2,c3⟩:=S2.fz hga
  have hT:Shared.TypeIs { heap:=hp.update l (Obj.mapSeq fun b=>(#[]:Array Value)),gens:=s.gens,drawn:=s.drawn,toks:=s.toks,os:=s.os } (.ref a) "generator":=⟨og,eg,c1⟩
  refine (?_:(l≠a)→_) (fun q=>by
   have:=(S1.own (l,ListO []) (by simp)).1
   obtain ⟨o,e⟩:=hga
   refine (?_:_→_) e.1
   intro e
   rw [show (l,ListO []).1=a from q,e] at this;cases this)
  intro hSI
  refine wpAny_bind (wpAny_typeOf hT ?_)
  refine (?_:(Builtin.List.listSameRef (.ref l) (.ref a)=false)→_) (by simp [Builtin.List.listSameRef,hSI])
  intro h1
  refine (?_:((Value.type "generator" == Value.type "list")=false)→_) (by decide)
  intro h2
  refine (?_:((Value.type "generator" == Value.type "tuple")=false)→_) (by decide)
  intro h3
  simp only [h1,h2,h3,Bool.or_false,Bool.false_eq_true,if_false]
  refine wpAny_bind (wpAny_pyIter_gen (g:=G.size) ⟨og,nmv,qn,eg,c1,c2,c3⟩ ?_)
  refine wpAny_bind (wpAny_holding ?_)
  refine wpAny_bind (wpAny_specialOf hT PySem.F.gen_no_len ?_)
  refine wpAny_bind (wpAny_specialOf hT PySem.F.gen_no_hint ?_)
  refine wpAny_pure ?_
  show wpAny _ _ (rule "list.extend.makes-room" >>= fun b=>Builtin.List.listTouch (.ref l) >>= fun b=>
   again (.builtin "list.extend.loop" ⟨[.ref l,.ref a,.none],[]⟩)) _ _ _
  refine wpAny_bind (wpAny_rule ?_)
  refine wpAny_bind ?_
  refine wpAny_bind (wpAny_updateSeq hS₂ rfl ?_)
  refine (?_:_→_) (Heap.get?_update_self (Obj.mapSeq (·.push Value.none)) hS₂ rfl)
  intro hS₃
  refine wpAny_updateSeq (hz:=by seq_fits) hS₃ rfl ?_
  refine (?_:_→_) (Heap.get?_update_self (Obj.mapSeq (·.pop)) hS₃ rfl)
  intro hS₄
  refine (?_:_→_) (S2.same (t:=s.toks) (P':=ListO []) 1 rfl ((Heap.SameBut.update _ l (Obj.mapSeq (·.push Value.none))).trans (Heap.SameBut.update _ l (Obj.mapSeq (·.pop)))) ⟨_,hS₄,_,_,rfl,.nil⟩)
  intro S3
  refine wpAny_pure ⟨plainId_quiet PySem.F.plain_extend_loop _,?_⟩
  refine (?_:(gD F l all Δ all.length=F::(l,ListO [])::Δ)→_) (by simp [gD,nAVs])
  intro hD
  refine ext_gen (z0:=z) (all:=all) (Δ:=Δ) (F:=F) (R.in1.le (by exact ar101)) hz7 hga (fun z' Δg' s' hz' S'=>?_) all.length (Nat.le_refl _) (.fresh c) z Δg _ (Sub.refl _) (by rw [hD];exact S3.perm (List.Perm.trans (by exact List.perm_middle) (List.Perm.cons _ List.perm_middle))) fun s'' S''=>⟨rfl,?_⟩
  ·refine ⟨rfl,k l z' s' hz' ?_⟩
   refine (?_:_→_) (S'.sub (List.sublist_append_right Δg' _))
   intro this
   simpa [gD] using this
  ·refine hrdy rfl (R.in1.in1.in1.le (by exact ar103)) hfr ?_ (Sub.refl _) S''
   intro e he
   refine (let Gl:Prop:=_;(?_:Gl))
   obtain ⟨x1,L',P,x2⟩:=hF e he
   refine (?_:_→_→_→_) x2.1 x2.2.1 x2.2.2
   intro x2 x3 x4
   refine ⟨x1,L',P,x2,?_,x4⟩
   rw [hD]
   rcases List.mem_cons.mp x3 with x | x
   ·exact x▸.head _
   ·exact .tail _ (.tail _ x)
end
noncomputable abbrev lcc (elt t1 i1 t2 i2:PySem.Expr) (scope:Scope) (pos:Pos):PySem.Expr:=.ListComp elt [⟨t1,i1,[],0⟩,⟨t2,i2,[],0⟩] scope pos
theorem compTurn_20 (elt t1 i1 t2 i2:PySem.Expr) (scope:Scope) (pos:Pos) (it acc:Value) (env:Env):compTurn (lcc elt t1 i1 t2 i2 scope pos) 0 it acc env=(do
 standAt i1.pos
 match ← pyNext it with
 | none=>pure (.done .next)
 | some v=>
 letOwnedTupleGo t1 it v
 assign t1 env v
 let x ← eval i2 env
 standAt i2.pos
 let x ← foldedSetIterable i2 env x
 let _ ← runOwn (.compStart (lcc elt t1 i1 t2 i2 scope pos) 1 (← holding [x] (pyIter x)) acc env) env
 again (.compLoop (lcc elt t1 i1 t2 i2 scope pos) 0 it acc env)):=by rfl
theorem compTurn_21 (elt t1 i1 t2 i2:PySem.Expr) (scope:Scope) (pos:Pos) (it acc:Value) (env:Env):compTurn (lcc elt t1 i1 t2 i2 scope pos) 1 it acc env=(do
 standAt i2.pos
 match ← pyNext it with
 | none=>pure (.done .next)
 | some v=>
 letOwnedTupleGo t2 it v
 assign t2 env v
 (do let _ ← call (.builtin "list.append") [acc,← eval elt env])
 again (.compLoop (lcc elt t1 i1 t2 i2 scope pos) 1 it acc env)):=by rfl
section
variable {w:World} {ρ:Rest} {z:Z} {A:Around} {E:VP} {s:Shared} {Δ X:Ds} {env:Env} {L:Addr} {m:Loc} {F:Addr×OP}
theorem comp_inner {β:Type} {elt t1 i1 t2 i2:PySem.Expr} {scope:Scope} {pos:Pos} {it2:Value} {cenv:Env} {R:Result→Shared→Prop} {up:β→Loc→Loc} {J:List β→Ds} {items:List β} {C D:Addr} {out0:List AV}
 (H:Its w ρ z it2 cenv t2 up J X) (hL:cenv.locals=C) (rm:Room A 0) (P:List β→List β→List AV→Z→Loc→Prop) (hout:∀ d r out z' mc,P d r out z' mc→out.length≤1000)
 (S:St w ρ z ((C,FrO m)::((D,ListO out0)::Δ++J items)) s) (hP:P [] items out0 z m)
 (turn:∀ d b r out z' mc s',d++b::r=items→Sub z z'→P d (b::r) out z' mc→St w ρ z' ((C,FrO (up b mc))::(D,ListO out)::(Δ++J r)) s'→∀ E',
 wpAny (model PG w) A (eval elt cenv) (fun x s₄=>∃ av z'' mc',av.is x∧Sub z' z''∧P (d++[b]) r (out++[av]) z'' mc'∧St w ρ z'' ((C,FrO mc')::(D,ListO out)::(Δ++J r)) s₄) E' s')
 (fin:∀ out z' mc s',Sub z z'→P items [] out z' mc→St w ρ z' ((C,FrO mc)::(D,ListO out)::(Δ++X)) s'→R (.ok .next) s') :
 codeAny (model PG w) A (.compStart (lcc elt t1 i1 t2 i2 scope pos) 1 it2 (.ref D) cenv) R s:=by
  refine (?_:(codeAny (model PG w) A (.compLoop (lcc elt t1 i1 t2 i2 scope pos) 1 it2 (.ref D) cenv) R s)→_) (by
   refine codeAny_loop rfl (fun n s=>∃ d r out z' mc,n=r.length∧d++r=items∧Sub z z'∧P d r out z' mc∧St w ρ z' ((C,FrO mc)::(D,ListO out)::(Δ++J r)) s) (fun n s hI=>?_) items.length ⟨[],items,out0,z,m,rfl,rfl,Sub.refl z,hP,S⟩
   show wpAny _ A ((compTurn (lcc elt t1 i1 t2 i2 scope pos) 1 it2 (.ref D) cenv).onRaise (fun x=>do noteFrame x cenv;theTreesLotGoes x)) _ _ s
   refine wpAny_noted ?_
   generalize notedBy (model PG w) A cenv _=E'
   rw [compTurn_21]
   obtain ⟨d,r,out,z',mc,rfl,hdr,hz,hP,S⟩:=hI
   refine wpAny_bind (wpAny_standAt (wpAny_bind ?_))
   cases r with
   | nil=>
    rw [List.append_nil] at hdr;rw [hdr] at hP
    exact H.stop (Δ:=(D,ListO out)::Δ) hz rm (by simpa using S) fun s' S'=>wpAny_pure (fin out z' mc s' hz hP (by simpa using S'))
   | cons b r=>
    refine wpAny_mono (H.item (Δ:=(D,ListO out)::Δ) (L:=C) hz rm hL (by simpa using S) (Q:=fun s₂=>wpAny (model PG w) A (eval elt cenv) (fun x s₄=>
     wpAny (model PG w) A (call (.builtin "list.append") [.ref D,x]) (fun c s₅=>∃ n,n<(b::r).length∧∃ d r out z' mc,n=r.length∧d++r=items∧Sub z z'∧P d r out z' mc∧St w ρ z' ((C,FrO mc)::(D,ListO out)::(Δ++J r)) s₅) E' s₄) E' s₂) fun s' S'=>?_) (fun o s₁ h₁=>?_) fun c c e=>e
    rotate_left
    ·cases o with
     | none=>exact h₁.elim
     | some v=>
      refine wpAny_bind (wpAny_mono h₁ (fun c s₁' h₁'=>?_) fun c c h'=>h')
      refine wpAny_bind (wpAny_mono h₁' (fun c s₂ h₂=>?_) fun c c h'=>h')
      exact wpAny_bind (wpAny_bind (wpAny_mono h₂ (fun x s₄ h₄=>wpAny_bind (wpAny_mono h₄ (fun c s₅ h₅=>wpAny_pure (wpAny_pure ⟨rfl,h₅⟩)) fun c c h'=>h')) fun c c h'=>h'))
    ·refine wpAny_mono (turn d b r out z' mc s' hdr hz hP (by simpa using S') _) (fun x s₄ h₄=>?_) fun c c e=>e
     refine (let g:Prop:=_;(?_:g))
     obtain ⟨av,z'',mc',ha⟩:=h₄
     refine (?_:_→_→_→_→_) ha.1 ha.2.1 ha.2.2.1 ha.2.2.2
     intro ha hz' hP' S''
     refine b_append (av:=av) S'' (j:=1) rfl ha (by refine (?_:_→_) (hout _ _ _ _ _ hP);intro this;exact ar52 this) fun s₅ S₅=>?_
     exact ⟨r.length,by simp,d++[b],r,out++[av],z'',mc',rfl,by rw [← hdr];simp,hz.trans hz',hP',S₅⟩)
  intro loop
  refine codeAny_of_tree ?_
  refine wpAny_notedAt ?_
  refine wpAny_bind (wpAny_askSetting (wpAny_ite ?_))
  split
  ·first
    | exact wpAny_bind (wpAny_pure (wpAny_pure (And.intro rfl loop)))
    | exact wpAny_pure (And.intro rfl loop)
  ·refine wpAny_bind (wpAny_rule ?_)
   exact wpAny_bind (wpAny_standAt (wpAny_bind (H.self (Δ:=(D,ListO out0)::Δ) (Sub.refl z) (by simpa using S) (wpAny_pure (And.intro rfl loop)))))
noncomputable def Comp2Go (w:World) (A:Around) (E:VP) (elt t1 i1 t2 i2:PySem.Expr) (scope:Scope) (pos:Pos) (cl:List (Str×Addr)) (env:Env) (Q:VP) (it:Value) (s:Shared):Prop:=
 wpAny (model PG w) A (newList []) (fun acc s₃=>
  wpAny (model PG w) A (newFunctionEnv scope env.globals cl [] env.qual none .none (some env)) (fun cenv s₄=>
   codeAny (model PG w) A (.compStart (lcc elt t1 i1 t2 i2 scope pos) 0 it acc { cenv with scope:=relabel scope env }) (compPost (model PG w) A E none Q acc cenv.locals) s₄) E s₃) E s
theorem e_comp2 {elt t1 i1 t2 i2:PySem.Expr} {scope:Scope} {pos:Pos} {cl:List (Str×Addr)} {Q:VP}
 (h:wpAny (model PG w) A (eval i1 env) (fun x s₁=>wpAny (model PG w) A (pyIter x) (fun it s₂=>Comp2Go w A E elt t1 i1 t2 i2 scope pos cl env Q it s₂) E s₁) E s)
 (hs:∀ x,foldedSetIterable i1 env x=pure x) (hclos:closureFor scope env=pure cl) (hkind:scope.kind=.function) (hnames:∀ x∈scope.names,x.2=.local→scope.names.lookup x.1=some .local) :
 wpAny (model PG w) A (eval (lcc elt t1 i1 t2 i2 scope pos) env) Q E s:=by
  rw [eval_ListComp]
  exact wpAny_comprehension_free rfl hs hclos hkind hnames h
theorem comp2_go {α:Type} {elt t1 i1 t2 i2:PySem.Expr} {scope:Scope} {pos:Pos} {cl:List (Str×Addr)} {Q:VP} {it:Value} {up:α→Loc→Loc} {J:List α→Ds} {items:List α}
 (H:∀ C,Its w ρ z it (compEnvC scope cl C env) t1 up J X) (rm:Room A 0) (hcell:∀ y∈scope.names,y.2≠.cell) (hkind:scope.kind=.function) (hs2:∀ C x,foldedSetIterable i2 (compEnvC scope cl C env) x=pure x)
 (P:List α→List α→List AV→Z→Prop) (S:St w ρ z ((L,FrO m)::(Δ++J items)) s) (hP:P [] items [] z)
 (turn:∀ d a r out z' mc C D s',d++a::r=items→Sub z z'→P d (a::r) out z'→St w ρ z' ((C,FrO (up a mc))::(D,ListO out)::(L,FrO m)::(Δ++J r)) s'→∀ E',
 wpAny (model PG w) A (eval i2 (compEnvC scope cl C env)) (fun x s₁=>wpAny (model PG w) A (pyIter x) (fun it2 s₂=>codeAny (model PG w) A (.compStart (lcc elt t1 i1 t2 i2 scope pos) 1 it2 (.ref D) (compEnvC scope cl C env)) (fun rr s₃=>rr=.ok .next ∧
 ∃ out' z'' mc',Sub z' z''∧P (d++[a]) r out' z''∧St w ρ z'' ((C,FrO mc')::(D,ListO out')::(L,FrO m)::(Δ++J r)) s₃) s₂) E' s₁) E' s')
 (fin:∀ out z' D s',Sub z z'→P items [] out z'→St w ρ z' ((L,FrO m)::(D,ListO out)::(Δ++X)) s'→Q (.ref D) s') :
 Comp2Go w A E elt t1 i1 t2 i2 scope pos cl env Q it s:=by
  refine comp_open S hcell hkind fun C D s1 S2=>?_
  refine (?_:(∀ {s':Shared} {mc:Loc} {out:List AV} {z':Z},Sub z z'→P items [] out z'→St w ρ z' ((C,FrO mc)::(D,ListO out)::(L,FrO m)::(Δ++X)) s'→compPost (model PG w) A E none Q (.ref D) C (.ok .next) s')→_) (by
   intro s' mc out z' hz hP S'
   obtain ⟨f,hn⟩:=FrO.ns (S'.at 0 rfl)
   refine (?_:_→_) hn.1
   intro hn
   refine ⟨f,hn,fun h' hs=>?_⟩
   refine fin out z' D _ hz hP ?_
   refine (?_:_→_) (St.midGo (Δ:=[(L,FrO m)]) (X:=Δ++X) (F:=(D,ListO out)) (a:=C) (P:=FrO mc) (t:=s'.toks) (S'.perm ?_) hs.extBut)
   intro this
   ·exact this.perm (by simpa using List.Perm.swap ..)
   ·refine List.Perm.trans ?_ (List.Perm.swap ..)
    exact List.Perm.cons _ (List.Perm.swap ..))
  intro hend
  refine (?_:(codeAny (model PG w) A (.compLoop (lcc elt t1 i1 t2 i2 scope pos) 0 it (.ref D) (compEnvC scope cl C env)) (compPost (model PG w) A E none Q (.ref D) C) s1)→_) (by
   refine codeAny_loop rfl (fun n s=>∃ d r out z' mc,n=r.length∧d++r=items∧Sub z z'∧P d r out z'∧St w ρ z' ((C,FrO mc)::(D,ListO out)::(L,FrO m)::(Δ++J r)) s) (fun n s hI=>?_) items.length ⟨[],items,[],z,[],rfl,rfl,Sub.refl z,hP,S2⟩
   show wpAny _ A ((compTurn (lcc elt t1 i1 t2 i2 scope pos) 0 it (.ref D) (compEnvC scope cl C env)).onRaise (fun x=>do noteFrame x (compEnvC scope cl C env);theTreesLotGoes x)) _ _ s
   refine wpAny_noted ?_
   generalize notedBy (model PG w) A _ _=E'
   rw [compTurn_20]
   obtain ⟨d,r,out,z',mc,rfl,hdr,hz,hP,S⟩:=hI
   refine wpAny_bind (wpAny_standAt (wpAny_bind ?_))
   cases r with
   | nil=>
    rw [List.append_nil] at hdr;rw [hdr] at hP
    exact (H C).stop (Δ:=(D,ListO out)::(L,FrO m)::Δ) hz rm (by simpa using S) fun s' S'=>wpAny_pure (hend hz hP (by simpa using S'))
   | cons a r=>
    refine wpAny_mono ((H C).item (Δ:=(D,ListO out)::(L,FrO m)::Δ) (L:=C) hz rm rfl (by simpa using S) (Q:=fun s₂=>wpAny (model PG w) A (eval i2 (compEnvC scope cl C env)) (fun x s₁=>wpAny (model PG w) A (pyIter x) (fun it2 s₂=>codeAny (model PG w) A (.compStart (lcc elt t1 i1 t2 i2 scope pos) 1 it2 (.ref D) (compEnvC scope cl C env)) (fun rr s₃=>rr=.ok .next ∧
     ∃ out' z'' mc',Sub z' z''∧P (d++[a]) r out' z''∧St w ρ z'' ((C,FrO mc')::(D,ListO out')::(L,FrO m)::(Δ++J r)) s₃) s₂) E' s₁) E' s₂) fun s' S'=>turn d a r out z' mc C D s' hdr hz hP (by simpa using S') _) (fun o s₁ h₁=>?_) fun c c e=>e
    cases o with
    | none=>exact h₁.elim
    | some v=>
     refine wpAny_bind (wpAny_mono h₁ (fun c s₁' h₁'=>?_) fun c c h'=>h')
     refine wpAny_bind (wpAny_mono h₁' (fun c s₂ h₂=>?_) fun c c h'=>h')
     refine wpAny_bind (wpAny_mono h₂ (fun x s₃ h₃=>wpAny_bind (wpAny_standAt (wpAny_bind (wpAny_of_eq (hs2 C x) (wpAny_bind (wpAny_holding (wpAny_mono h₃ (fun it2 s₄ h₄=>?_) fun c c h'=>h'))))))) fun c c h'=>h')
     refine wpAny_bind (wpAny_runOwn (codeAny_mono h₄ fun rr s₅ h₅=>?_))
     obtain ⟨rfl,out',z'',mc',hz',hP',S''⟩:=h₅
     exact wpAny_pure ⟨rfl,r.length,by simp,d++[a],r,out',z'',mc',rfl,by rw [← hdr];simp,hz.trans hz',hP',S''⟩)
  intro loop
  exact codeAny_compStart_list loop ((H C).self (Δ:=(D,ListO [])::(L,FrO m)::Δ) (Sub.refl z) (by simpa using S2) loop)
theorem b_index {l:Addr} {xs:List Str} {x:Str} {t:Tok} {Q:VP} (S:St w ρ z Δ s) (h:Has s l (ListO (sAVs xs))) (hx:x∈xs) (hz:xs.length≤1000)
 (k:∀ t s',St w ρ z Δ s'→Q (.int (xs.idxOf x:Nat) t) s'):wpAny (model PG w) A (call (.builtin "list.index") [.ref l,.str x t]) Q E s:=by
  obtain ⟨o,e,items,n,rfl,r⟩:=h
  have hsz:items.size=xs.length:=by rw [r.sizeA];simp [sAVs]
  have hj:xs.idxOf x<xs.length:=List.idxOf_lt_length_iff.mpr hx
  have hat:∀ j (hj:j<items.size),∃ u,items[j]=.str (xs[j]'(hsz▸hj)) u:=fun j hj=>by
   have hj':j<xs.length:=hsz▸hj
   refine (?_:((sAVs xs)[j]?=some (.s xs[j]))→_) (by simp [sAVs,hj'])
   intro e1
   obtain ⟨v,hv,u,rfl⟩:=r.getA e1
   rw [Array.getElem?_eq_getElem hj] at hv
   exact ⟨u,Option.some.inj hv⟩
  let f:Value→Bool:=fun v=>match v with | .str y _=>y == x | _=>false
  refine call_meets PySem.F.slot_list_index ⟨_,e,rfl⟩ PySem.F.entry_list_index (PySem.F.args_list_index_2 _ _)
   (list_indexAt l items n none #[] (.str x t) f (xs.idxOf x) (by rw [hsz];exact hj) (by lia) ?_ ?_) ⟨e,fun y hy=>?_,k _ _ S.toks⟩
  ·obtain ⟨u,hu⟩:=hat (xs.idxOf x) (by rw [hsz];exact hj)
   rw [hu]
   show (xs[xs.idxOf x] == x)=true
   simp
  ·intro j hj1 hlt
   obtain ⟨u,hu⟩:=hat j hj1
   rw [hu]
   show (xs[j]'_ == x)=false
   refine (?_:_→_) (List.not_of_lt_findIdx (p:=(· == x)) (xs:=xs) (i:=j) hlt)
   intro this
   simpa using this
  ·obtain ⟨j,hj1,rfl⟩:=Array.getElem_of_mem hy
   obtain ⟨u,hu⟩:=hat j hj1
   rw [hu]
   exact SeqAt.EqAt.str_str _ _ _ _
end
theorem entry_ditemiter_iter:entryFor table "dict_itemiterator.__iter__"=some Builtin.«dict_keyiterator.__iter__»:=
 entryFor_alias (id':="dict_keyiterator.__iter__") (by kernel_rfl) (by decide +kernel) (by decide +kernel) (by kernel_rfl)
noncomputable def IItO (d:Addr) (n ep:Nat) {α:Type} (its r:List α):OP:=fun o=>∃ (i:Nat) (ok ov:Value),o={ cls:=.type "dict_itemiterator",data:=.fields #[.none,.bool false,.ref d,.int i 0,.int n 0,.int ep 0,ok,ov] }∧its.drop i=r
section
variable {w:World} {ρ:Rest} {z:Z} {env:Env} {A:Around} {E:VP} {s:Shared} {Δ X:Ds} {L:Addr} {m:Loc} {F:Addr×OP}
theorem St.midNew {a T:Addr} {P P' PT:OP} {o oT:Obj} {h':Heap} {t:Nat} (S:St w ρ z (F::(Δ++(a,P)::X)) s) (hk:∀ b ob,b≠a→s.heap.get? b=some ob→h'.get? b=some ob) (ho:h'.get? a=some o) (hf:o.isFreed=false) (hP:P' o)
 (hT:s.heap.objs.size≤T) (hTo:h'.get? T=some oT) (hPT:PT oT):St w ρ z (F::(T,PT)::(Δ++(a,P')::X)) { s with heap:=h',toks:=t }:=by
  obtain ⟨o0,e0⟩:=S.midAt
  refine (?_:_→_) e0.1
  intro e0
  refine (?_:_→_) (Heap.SameBut.update s.heap a (fun c=>o))
  intro hs
  refine (?_:((s.heap.update a fun c=>o).get? a=some o)→_) (Heap.get?_update_self _ e0 hf)
  intro e1
  have S1:=S.mid (t:=s.toks) hs (P':=P') ⟨o,e1,hP⟩
  refine S1.grow1 (t:=t) (fun b ob e=>?_) (by show (s.heap.update a fun c=>o).objs.size≤T;rw [hs.1];exact hT) hTo hPT
  by_cases q:b=a
  ·subst q
   rw [show ({ heap:=s.heap.update b fun c=>o,gens:=s.gens,drawn:=s.drawn,toks:=s.toks,os:=s.os }:Shared).heap=s.heap.update b fun c=>o from rfl,e1] at e
   cases e;exact ho
  ·exact hk b ob q ((hs.2 b q).symm.trans e)
theorem Its.items {e d:Addr} {kv:Loc} {kvs:List (Str×Value)} {ep:Nat} {elts:List PySem.Expr} {x1} {pos:Pos} {px py:Pos} {n1 n2:Str} (hr:KR kv kvs) (hdt:∀ {z' ρ Δ s},Sub z z'→St w ρ z' Δ s→s.heap.DictAt (kS w) d kvs ep)
 (hel:elts=[.Name n1 px,.Name n2 py]) (hn:(assignEach elts env).length=2) (hst:(assignEach elts env).findIdx? (·.1)=none)
 (h1:env.kindOf n1=some .local) (h2:env.kindOf n2=some .local) (hk:env.scope.kind=.function) :
 Its w ρ z (.ref e) env (.Tuple elts x1 pos) (fun (a:Str×AV) m=>setl (setl m n1 (.s a.1)) n2 a.2) (fun r=>[(e,IItO d kv.length ep kv r)]) [] where
  item:=fun {A E s z' Δ L m a r Q} hz R hL S h=>by
   obtain ⟨_,ee,i,ok,ov,rfl,hi⟩:=S.midAt
   obtain ⟨v,g1⟩:=hr.drop1 hi
   refine (?_:_→_→_→_) g1.1 g1.2.1 g1.2.2
   intro g1 g2 g3
   refine (?_:_→_) (hr.len)
   intro hl
   refine wpAny_pyNext_items_item (knd:=kS w) (by rw [hl];exact ee) (hdt hz S) g1 fun key h' hkey hout htup hsz hk'=>?_
   refine wpAny_letOwnedTupleGo_items hout fun h'' hit hs=>?_
   refine (?_:(e<s.heap.objs.size)→_) (Heap.lt_size ee)
   intro hei
   refine (?_:_→_) (S.midNew (t:=s.toks) (h':=h'') (P':=IItO d kv.length ep kv r) (T:=s.heap.objs.size) (PT:=TupO [.s a.1,a.2]) (fun b ob q g=>(hs.2 b q).trans (hk' b ob q g)) hit rfl ⟨i+1,key,v,by rw [hl],g3⟩ (Nat.le_refl _)
    ((hs.2 _ (Nat.ne_of_gt hei)).trans htup) ⟨_,_,rfl,.cons (kS_str hkey) (.cons g2 .nil)⟩)
   intro S1
   subst hel
   refine asg_unpack S1 R (S1.at 1 rfl) hn hst fun ys s4 hys S4=>?_
   obtain _ | ⟨⟨ta,rfl⟩,_ | ⟨htb,_ | _⟩⟩:=hys
   refine ain_cons rfl ?_
   refine wpAny_assign_Name (storeL S4 hL h1 (by rw [hk];rfl) (av:=.s a.1) ⟨_,rfl⟩ fun s5 S5=>?_)
   refine ain_cons rfl ?_
   refine wpAny_assign_Name (storeL S5 hL h2 (by rw [hk];rfl) (av:=a.2) htb fun s6 S6=>?_)
   exact ain_nil (h _ S6.drop2)
  stop:=fun {A E s z' Δ F Q} hz R S h=>by
   obtain ⟨_,ee,i,ok,ov,rfl,hi⟩:=S.midAt
   refine (?_:_→_) (hr.len)
   intro hl
   refine (?_:(kvs[i]?=none)→_) (by
    rw [List.getElem?_eq_none_iff,hl]
    have:=congrArg List.length hi
    simp at this;exact ar153 this)
   intro hx
   refine wpAny_pyNext_items_end (knd:=kS w) R.hd (by rw [hl];exact ee) (hdt hz S) hx fun h' hs=>h _ ?_
   refine (?_:_→_) (S.midGo (t:=s.toks) hs)
   intro this
   exact this
  self:=fun {A E s z' Δ F r Q} hz S h=>by
   obtain ⟨_,ee,i,ok,ov,rfl,hi⟩:=S.midAt
   refine (?_:(s.TypeIs (.ref e) "dict_itemiterator")→_) (⟨_,ee,rfl⟩)
   intro hT
   refine wpAny_pyIter_slot hT PySem.F.slot_dict_itemiterator_iter (wpAny_call_entry PySem.F.slot_dict_itemiterator_iter hT entry_ditemiter_iter ?_ (PySem.F.args_dict_itemiterator_iter_1 _))
   exact wpAny_pure ⟨_,rfl,"dict_itemiterator",_,hT,PySem.F.slot_dict_itemiterator_next.lookup,h⟩
theorem d_items {d:Addr} {kv:Loc} {Q:VP} (S:St w ρ z (F::Δ) s) (h:Has s d (DictO w kv)) (hb:(d == sysModules)=false)
 (k:∀ q s',St w ρ z (F::(q,ViewO "dict_items" d)::Δ) s'→Q (.ref q) s'):wpAny (model PG w) A (call (.builtin "dict.items") [.ref d]) Q E s:=by
  refine (let Gl:Prop:=_;(?_:Gl))
  obtain ⟨kvs,ep,h1⟩:=DictO.at h
  refine (?_:_→_→_) h1.1 h1.2
  intro h1 h2
  exact call_meetsIn PySem.F.slot_dict_items h1.dictOf.typeIs PySem.F.entry_dict_items (PySem.F.args_dict_items_1 _) (meets_dict_items (kS w) d hb)
   ⟨⟨kvs,h1.dictOf⟩,k _ _ (S.push1 (t:=s.toks) rfl ⟨rfl,rfl⟩)⟩
theorem it_items {d v:Addr} {kv:Loc} {Q:VP} (S:St w ρ z (F::Δ) s) (hv:Has s v (ViewO "dict_items" d)) (hf:Fz z d (DictO w kv))
 (k:∀ it ep kvs s',KR kv kvs→(∀ {z' ρ Δ s},Sub z z'→St w ρ z' Δ s→s.heap.DictAt (kS w) d kvs ep)→St w ρ z (F::(Δ++[(it,IItO d kv.length ep kv kv)])) s'→Q (.ref it) s'):wpAny (model PG w) A (pyIter (.ref v)) Q E s:=by
  refine (let Gl:Prop:=_;(?_:Gl))
  obtain ⟨kvs,ep,hr,hd⟩:=hf.dict
  obtain ⟨o,e⟩:=hv
  refine (?_:_→_→_→_) e.1 e.2.1 e.2.2
  intro e h1 h2
  refine wpAny_pyIter_items (knd:=kS w) ⟨o,e,h1,h2⟩ (hd (Sub.refl _) S) (k _ ep _ _ hr hd ?_)
  refine (S.push1 (t:=s.toks) (P:=IItO d kv.length ep kv kv) rfl ⟨0,_,_,by rw [hr.len];rfl,rfl⟩).perm ?_
  exact List.Perm.cons _ List.perm_append_comm
theorem Its.map {α β:Type} {it:Value} {t:PySem.Expr} {up:β→Loc→Loc} {J:List β→Ds} (f:α→β) (N:Its w ρ z it env t up J X):Its w ρ z it env t (fun a=>up (f a)) (fun r=>J (r.map f)) X where
 item:=fun hz R hL S h=>N.item hz R hL S h
 stop:=fun hz R S h=>N.stop hz R S h
 self:=fun hz S h=>N.self hz S h
end
section
variable {w:World} {A:Around} {ρ:Rest} {z:Z} {Δ:Ds}
noncomputable abbrev wtM (ws:Nat→Addr) (l:List Nat):Loc:=l.map fun k=>(nm k,AV.v (.ref (ws k)))
theorem lf_items {C:Cx} {m:Loc} {d:Addr} {kv:Loc} {K:AV→SP} (h:OF z Δ d (DictO C.w kv)) (hd:(d == sysModules)=false) (k:∀ q,K (.v (.ref q)) z m ((q,ViewO "dict_items" d)::Δ)):LC C (.v (.builtin "dict.items")) [.v (.ref d)] z m Δ K:=
 lc1 (fun E s Q S q=>d_items S (h.has S) hd fun r s' S'=>q _ _ _ _ _ _ is_v (k r) S')
theorem src_items {C:Cx} {α:Type} {v d:Addr} {H:Value→(List α→Ds)→Prop} (f:α→Str×AV) (l:List α) (hv:OF z Δ v (ViewO "dict_items" d)) (hf:Fz z d (DictO C.w (l.map f)))
 (hN:∀ it ep kvs,KR (l.map f) kvs→(∀ {z' ρ Δ s},Sub z z'→St C.w ρ z' Δ s→s.heap.DictAt (kS C.w) d kvs ep)→H (.ref it) (fun r=>[(it,IItO d (l.map f).length ep (l.map f) (r.map f))])):Src C (.v (.ref v)) z Δ Δ H l:=by
  intro E s Q m u hu S k
  cases hu
  exact it_items S (hv.has S) hf fun it ep kvs s' hr hd S'=>k _ _ _ (hN it ep kvs hr hd) S'
structure InS where
 a:SA
 z:Z
 n:Nat
theorem init1_T {J:Jobs} (hJ:JOk J) {ws:Nat→Addr} {gd x dx:Addr} {K:AV→Z→Ds→Prop} (hx:Fz z x (InsO 130 dx)) (R:Room A 7)
 (hg:Fz z gd (DictO w (wtM ws (List.range 7)))) (hgs:(gd == sysModules)=false) (hws:∀ k,k<7→Fz z (ws k) (ListO (nAVs (J k).waits)))
 (h:∀ a z',a.x=x→Sub z z'→SOk w z' a (gAll J).order→K (.v .none) z' (preE w a (gAll J)++Δ)) :
 CFV w ρ A 66 [.v (.ref x),.v (.ref gd)] z ((dx,EntO [])::Δ) K:=by
  refine' lf_defB (by assumption) ?hds ?_ (by k_is) (by k_is) ?hbind (by decide) (by decide) (by rfl) (by rfl) (by rfl) (by decide)
  case hds=>exact .nil
  case hbind=>
   intro xs s hl hK
   obtain _ | ⟨x,_ | ⟨y,_ | _⟩⟩:=xs
   ·cases hl
   ·cases hl
   ·exact BindsTo.of_defaults rfl (hK _ _ (K59 w)) rfl rfl rfl
   ·cases hl
  intro L A' R C O
  refine lf_dict0 fun d=>lf_sa at_n2i (.fz hx) (j:=1) rfl ?_
  refine lf_sa at_rdy (.fz hx) (j:=1) rfl (lf_sa at_npo (.fz hx) (j:=1) rfl (lf_sa at_nfi (.fz hx) (j:=1) rfl ?_))
  refine ⟨lf_isnn (it_t rfl ?_)⟩
  refine lf_gmd (.fz hg) PySem.F.slot_dict_items PySem.F.type_dict_items (lf_items (.fz hg) hgs fun v=>?_)
  refine LF.wk (Δ':=(v,ViewO "dict_items" gd)::(preE w ⟨x,dx,d,fun b=>0,fun b=>0,fun b=>0⟩ g0++Δ)) (Wk.pick 3 [0,2,1] rfl) ?_
  refine lf_for0 (σ:=InS) (up:=fun k m=>setl (setl m "node" (.s (nm k))) "predecessors" (.v (.ref (ws k)))) (items:=List.range 7) (·.z) (fun b=>[("self",.v (.ref x)),("graph",.v (.ref gd))]) (fun y=>(v,ViewO "dict_items" gd)::(preE w y.a (gOf (fun k=>(J k).waits) y.n)++Δ))
   (fun d b y=>y.a.x=x∧y.n=d.length∧SOk w y.z y.a (gOf (fun k=>(J k).waits) y.n).order) O ⟨⟨x,dx,d,fun b=>0,fun b=>0,fun b=>0⟩,z,0⟩
   (src_items (fun k=>(nm k,AV.v (.ref (ws k)))) (List.range 7) (.own 0 rfl) hg fun it ep kvs hr hdt=>Its.map (fun k=>(nm k,AV.v (.ref (ws k)))) (Its.items (n1:="node") (n2:="predecessors") hr hdt rfl rfl rfl rfl rfl rfl)) ⟨rfl,rfl,hx,fun b h=>(nomatch h),.nil,fun b h=>(nomatch h)⟩ ?turn ?fin [] rfl rfl
  case turn=>
   intro zg mg Δg Ig Kg dd k rr y hd hz3 hI jt Kf F
   have hyx:=hI.1
   have hyn:=hI.2.1
   have ok:=hI.2.2
   have hk7:k<7:=List.mem_range.mp (hd▸List.mem_append_right _ (.head _))
   have hdk:y.n=k:=by
    refine (?_:((dd++k::rr)[dd.length]?=some k)→_) (by simp)
    intro h1
    rw [hd,List.getElem?_eq_some_iff] at h1
    refine (?_:_→_) (h1.1)
    intro h2
    refine (?_:_→_) (h1.2)
    intro h3
    rw [hyn];simpa using h3
   refine (?_:_→_) (gOf_len (wt:=fun k=>(J k).waits) hJ.wl y.n (by exact ar55 hdk hk7))
   intro hsul
   refine (?_:_→_) (ok.x)
   intro hxx
   rw [hyx] at hxx
   refine L0.wk (Wk.eq (congrArg (_::_::_::·) (List.append_assoc ..))) ?_
   refine lf_ms2 O (m_add w) rfl rfl rfl rfl rfl rfl (.fz hxx) (.own 1 rfl) rfl fun q=>⟨rfl,rfl,rfl,ws k,nAVs (J k).waits,rfl,.fz ((hws k hk7).mono hz3),by rw [List.length_map];exact Nat.le_trans (hJ.wl k hk7) (by decide),1,preE w y.a (gOf (fun k=>(J k).waits) y.n),Δ++jt,rfl,fun Δ'=>?_⟩
   rw [← hyx]
   refine add_T ok hk7 (hJ.wk k hk7) (Nat.le_trans (hJ.wl k hk7) (by decide)) (fun j=>by refine (?_:_→_) (hsul j);intro this;exact ar84 this hdk hk7) (R.le (by decide)) fun sb z4 e1 e2 e3 hz4 okb=>⟨_,rfl,?_⟩
   refine (?_:((gOf (fun k=>(J k).waits) y.n).add k (J k).waits=gOf (fun k=>(J k).waits) (y.n+1))→_) (by rw [hdk];rfl)
   intro e4
   rw [e4] at okb ⊢
   refine F.nx ⟨sb,z4,y.n+1⟩ _ (Wk.eq (congrArg (_::_::_::·) (List.append_assoc ..).symm)) hz4 ⟨e1.trans hyx,by rw [hyn,List.length_append];rfl,okb⟩
  case fin=>
   intro y hz3 hI
   refine (?_:_→_) (hI.1)
   intro hyx
   refine (?_:_→_) (hI.2.1)
   intro hyn
   refine (?_:_→_) (hI.2.2)
   intro ok
   refine (?_:(y.n=7)→_) (by rw [hyn,List.length_range])
   intro e7
   rw [e7] at ok
   refine (?_:_→_) (h y.a y.z hyx hz3 ok)
   intro h
   refine kFn_i (m:=[]) _ (Wk.trans .tail (Wk.eq ?_)) h
   rw [e7]
end
section
variable {w:World} {A:Around} {E:VP} {s:Shared} {ρ:Rest} {z:Z} {Δ:Ds}
theorem lf_nel {C:Cx} {m:Loc} {a b:Addr} {as bs:List AV} {ds es:List PyData} {n:Nat} {K:AV→SP} (R:Room C.A (n+1)) (ha:OF z Δ a (ListO as)) (hb:OF z Δ b (ListO bs)) (ra:Rds z as ds) (rb:Rds z bs es)
 (ca:PyData.canLayAll0 ds=true) (cb:PyData.canLayAll0 es=true) (da:PyData.depthAll ds≤2) (k:K (.v (.bool (!PyData.eqvAll ds es))) z m Δ):L2 C AV.is (compareOp .NotEq) (.v (.ref a)) (.v (.ref b)) z m Δ K:=
  l2vv (fun E s Q S kk=>c_nel S R (ha.has S) (hb.has S) ra rb ca cb da (kk _ _ _ _ _ _ is_v k S))
theorem lf_srt {C:Cx} {m:Loc} {l:Addr} {xs:List Str} {K:AV→SP} (h:OF z Δ l (ListO (sAVs xs))) (hz:xs.length<64) (k:∀ q ys,ys.Perm xs→sortedS ys=true→K (.v (.ref q)) z m ((q,ListO (sAVs ys))::Δ)):LC C (.v (.builtin "sorted")) [.v (.ref l)] z m Δ K:=
 lc1 (fun E s Q S q=>b_sorted_s S (h.has S) hz fun r ys s' h1 h2 S'=>q _ _ _ _ _ _ is_v (k r ys h1 h2) S')
theorem lf_dictp {C:Cx} {m:Loc} {l:Addr} {vs:List AV} {kv:Loc} {K:AV→SP} (hf:Fz z l (ListO vs)) (hp:PairsL z vs kv) (hn:(kv.map (·.1)).Nodup) (hz:kv.length≤1000) (R:Room C.A 4) (k:∀ d,(d == sysModules)=false→K (.v (.ref d)) z m ((d,DictO C.w kv)::Δ)):LC C (.v (.type "dict")) [.v (.ref l)] z m Δ K:=
 lc1 (fun E s Q S q=>b_dict_pairs S hf hp hn hz R fun d s' hd S'=>q _ _ _ _ _ _ is_v (k d hd) S')
theorem idxOf_nm:∀ (l:List Nat) (x:Nat),(l.map nm).idxOf (nm x)=l.idxOf x
 | [],_=>rfl
 | a::l,x=>by
  rw [List.map_cons,List.idxOf_cons,List.idxOf_cons,idxOf_nm l x]
  by_cases h:a=x
  ·subst h;simp
  ·rw [beq_false_of_ne h,beq_false_of_ne fun e=>h (nm_inj e)]
theorem lf_listN {C:Cx} {m:Loc} {K:AV→SP} (O:C.Ok) (k:∀ q,K (.v (.ref q)) z m ((q,ListO (sAVs ((List.range 7).map nm)))::Δ)):LC C (.v (.type "list")) [.s NM] z m Δ K:=
 ⟨fun x xs hx hxs=>by
  cases hx;obtain _ | ⟨hv,_ | _⟩:=hxs
  refine fun E s Q S q=>b_lists O.r.hd S hv (by decide) fun r s' S'=>q _ _ _ _ _ _ is_v (k r) ?_
  refine (?_:((NM.cps.toList.map fun c=>AV.s ⟨#[c]⟩)=sAVs ((List.range 7).map nm))→_) (by
   rw [← NM_names];simp [sAVs])
  intro eN
  rw [← eN];exact S'⟩
theorem lf_index {C:Cx} {m:Loc} {l:Addr} {xs:List Str} {x:Str} {K:AV→SP} (h:OF z Δ l (ListO (sAVs xs))) (hx:x∈xs) (hz:xs.length≤1000) (k:K (.i (.ofNat (xs.idxOf x))) z m Δ):LC C (.v (.builtin "list.index")) [.v (.ref l),.s x] z m Δ K:=
 ⟨fun u us hu hus=>by
  cases hu;obtain _ | ⟨hv,_ | ⟨⟨t,rfl⟩,_ | _⟩⟩:=hus;cases hv
  exact T.step k fun S q=>b_index S (h.has S) hx hz fun t s' S'=>q _ s' ⟨t,rfl⟩ S'⟩
theorem e_go {m:Loc} {env:Env} {L:Addr} {e:PySem.Expr} {Q:VP} (O:Cx.Ok ⟨w,ρ,A,env⟩) (S:St w ρ z ((L,FrO m)::Δ) s)
 (h:let D:Cx:=⟨w,ρ,A,env⟩;D.Ok→(X D 60).e e z m Δ fun a z' m' Δ'=>∀ v s',a.is v→St w ρ z' ((L,FrO m')::Δ') s'→Q v s') (hL:env.locals=L:=by rfl):wpAny (model PG w) A (eval e env) Q E s:=by
  subst hL
  exact (X_ok O.h 60).e (h O) E s Q S fun a v z' m' Δ' s' hv t S'=>t v s' hv S'
theorem m_so (w:World):Meth w 130 "static_order" 127:=⟨by k_is,by k_is,by k_is⟩
theorem order_right_spec {J:Jobs} {fl:List Nat} (hJ:JOk J) (hfl:FreeSpec J fl) (h7:fl.length=7) {a:Addr} {fs:List Env} {Q:VP} (S:St w ρ z Δ s) (hj:JobsAt w z J a) (R:Room A 20) (hfr:A.frames=some fs) (hF:Frs fs Δ) (hg:AllBare ρ.gens)
 (K:∀ z' g' s',Sub z z'→AllBare g'→St w ⟨ρ.base,g',ρ.drawn,ρ.os⟩ z' Δ s'→Q (.bool true) s'):wpAny (model PG w) A (call (.ref 211) [.ref a]) Q E s:=by
  refine (let Gl:Prop:=_;(?_:Gl))
  obtain ⟨b0,G,dr,os⟩:=ρ
  refine wpAny_call ?_
  refine' cfcCN (mA:=[("jobs",AV.v (.ref a))]) (m:=[]) S hfr hF ?ho ?hcd R ?hbind ?hloc ?hm ?hnd ?hcn ?hck ?hmm ?h ?hco ?hgen ?hk
  case ho=>k_is
  case hcd=>k_is
  case hbind=>exact rfl
  case hloc=>decide
  case hnd=>decide
  case hcn=>decide
  case hck=>decide
  case hco=>exact rfl
  case hgen=>exact rfl
  case hk=>exact rfl
  case hm=>exact BRel.cons rfl .nil
  case hmm=>exact fun p hp=>nomatch hp
  intro L s A R hfr hF S
  refine anyE ?_
  intro Ee
  refine (let Gl:Prop:=_;(?_:Gl))
  obtain ⟨ts,ws,hjd,hjk⟩:=hj
  refine ss_cut 1 ⟨rfl,rfl,rfl,R.le (Nat.zero_le _)⟩ S ?_
  intro D O1
  refine ⟨lf_new O1 (kp_srt w) (lf_comp O1 (lf_lk0 (ns:=["name"]) (f:=fun k=>[.s (nm k)]) (items:=List.range 7) O1 (src_names fun i i N Cc=>Its.n N rfl rfl) (fun d out z'=>PairsL z' out (d.map fun k=>(nm k,AV.v (.ref (ws k))))) (by decide) .nil ?t1 ?f1)),rfl⟩
  case t1=>
   intro d k r out z1 Cc D1 J hd hz1 hout Kt Ks hk hs C2 O2
   refine (?_:(k<7)→_) (List.mem_range.mp (hd▸List.mem_append_right _ (.head _)))
   intro hk7
   refine lf_ldc O2 3 rfl (lf_d (.fz (hjd.mono hz1)) (JobsAt.lk hk7) (lf_tup (n:=2) (.fz ((hjk k hk7).1.mono hz1)) rfl (by simp) fun q z2 hz2 hq=>hk _ _ _ _ hz2 ?_ wkr))
   show PairsL z2 _ (List.map _ (d++[k]))
   rw [List.map_append]
   exact (hout.mono hz2).snoc hq
  case f1=>
   intro out z1 D1 hz1 hout
   refine (?_:((((List.range 7).map fun k=>(nm k,AV.v (.ref (ws k)))).map (·.1)).Nodup)→_) (by
    rw [List.map_map]
    exact List.pairwise_map.mpr (List.nodup_range.imp fun h e=>h (nm_inj e)))
   intro hkeys
   refine LC.fz 0 rfl fun z2 hz2 hD=>lf_dictp hD (hout.mono hz2) hkeys (by simp) (R.le (by decide)) fun gd hgs=>LC.fz 0 rfl fun z3 hz3 hgd=>?_
   have hz03:=hz1.trans (hz2.trans hz3)
   refine lc_instD (n:=7) cls_srt (R.le (by decide)) (List.cons_ne_nil _ _) fun x dx z4 A' hz4 hx R' Δ'=>init1_T hJ hx R' (hgd.mono hz4) hgs (fun k hk=>(hjk k hk).2.mono (hz03.trans hz4)) fun sa z5 hsx hz5 sok=>⟨_,rfl,rfl,fun s S=>?_⟩
   refine (?_:(St w ⟨b0,G,dr,os⟩ z5 ((L,FrO [("sorter",.v (.ref x))])::(preE w sa (gAll J)++(L+1+1,CellO none)::(L+1,CellO (some (AV.v (.ref a))))::Δ)) s)→_) (S)
   intro S
   refine (?_:_→_) (sok.x)
   intro hxx
   rw [hsx] at hxx
   refine (?_:_→_) (hz03.trans (hz4.trans hz5))
   intro hz05
   obtain ⟨h1,h2,v,h3⟩:=blT_ok w _ (lk_mem (show lk blT "list"=some (.v (.type "list")) from rfl))
   refine (?_:_→_→_) h3.1 h3.2
   intro h3 h4
   cases h4
   refine wpAny_execs_cons (wpAny_Assign_Name (e_call (ldb S rfl rfl rfl rfl rfl h1 h2 h3 (PyProof.Rows.callWith_type1 (sp_cons (e_callm (ld S rfl rfl rfl rfl rfl fun v hv=>?_) rfl rfl rfl) rfl) rfl rfl))) rfl)
   cases hv
   have M:=m_so w
   refine gm_inst S (S.fz hxx) (S.at 1 rfl) M.g M.i M.t rfl ?_
   refine (let Gl:Prop:=_;(?_:Gl))
   obtain ⟨o,fd,g1⟩:=fnT_ok w 127 (by decide)
   refine (?_:_→_→_) g1.1 g1.2
   intro g1 g2
   refine cw_fn g1 g2 (wpAny_pure ⟨⟨_,_,_,S⟩,?_⟩) rfl
   show wpAny _ _ (call (.ref 127) [.ref x]) _ _ _
   rw [← hsx]
   refine wpAny_call (static_spec hJ hfl h7 (S.perm List.perm_middle) sok (R.le (by decide)) fun ga Lg c s hrdy S=>?_)
   obtain ⟨z6,hz6⟩:=S.freezeJ 0 rfl
   refine (?_:_→_→_→_) hz6.1 hz6.2.1 hz6.2.2
   intro hz6 hga S
   have hOK:=ord_ok sok.nodup sok.lt hfl h7
   have hrdy':GenReady w b0 c z6 ((Lg,FrO [("self",.v (.ref sa.x))])::preE w sa (gAll J)) (ordF J 8 (sp0 J)):=fun {A ρ z0 D s s₀ fs} hb R hfr hF hz S=>hrdy hb R hfr hF (hz6.trans hz) S
   refine sp_nil (b_list_gen (S.perm (List.perm_middle (l₁:=(Lg,FrO [("self",.v (.ref sa.x))])::preE w sa (gAll J))).symm) hga hrdy' (by rw [hOK.len];decide) (R.le (by decide)) hfr (hF fun p hp i=>.tail _ (.tail _ hp)) fun l z7 s hz7 S=>?_)
   refine storeC S (j:=2) rfl rfl rfl rfl is_v fun s S=>?_
   obtain ⟨z8,hz8⟩:=S.freezeJ 0 rfl
   refine (?_:_→_→_→_) hz8.1 hz8.2.1 hz8.2.2
   intro hz8 hl S
   refine (?_:(St w ⟨b0,G.push .finished,dr,os⟩ z8 ((L,FrO [("sorter",.v (.ref x))])::(L+1+1,CellO (some (.v (.ref l))))::(L+1,CellO (some (AV.v (.ref a))))::Δ) s)→_) (S)
   intro S
   obtain ⟨all,hallE⟩:∃ all,ordF J 8 (sp0 J)=all:=⟨_,rfl⟩
   rw [hallE] at hl hOK
   rw [nAVs_s] at hl
   have hz08:=hz05.trans (hz6.trans (hz7.trans hz8))
   refine (?_:_→_) (hOK.len)
   intro hall
   refine (?_:(∀ y∈(List.range 7).map nm,PyData.strOk y=true)→_) (by decide +kernel)
   intro hok
   refine ss_cut 2 ⟨rfl,rfl,rfl,R.le (Nat.zero_le _)⟩ S ?_
   intro D2 O2
   refine ⟨lf_ldc O2 0 rfl (lf_srt (.fz hl) (by rw [List.length_map];exact ar123 hall) fun q6 ys hp hs=>lf_listN O2 fun q7=>lf_nel (R.le (by decide):Room A (2+1)) (.own 1 rfl) (.own 0 rfl) (rds_s _) (rds_s _) ?a1 (can_s hok) (dep_s _) (it_f ?a2 ?_))⟩
   case a1=>rw [names_uniq hp (.refl _) hOK.perm hs (by decide +kernel)];exact can_s hok
   case a2=>rw [names_uniq hp (.refl _) hOK.perm hs (by decide +kernel),eqv_s,decide_eq_true rfl];rfl
   refine L0.mk fun E s Q S kq=>?_
   refine (?_:(St w ⟨b0,G.push .finished,dr,os⟩ z8 ((L,FrO [("sorter",.v (.ref x))])::(q7,ListO (sAVs ((List.range 7).map nm)))::(q6,ListO (sAVs ys))::(L+1+1,CellO (some (.v (.ref l))))::(L+1,CellO (some (AV.v (.ref a))))::Δ) s)→_) (S)
   intro S
   obtain ⟨vN,hvN,tN,rfl⟩:=glT_ok w _ (lk_mem (show lk glT "NAMES"=some (.s "abcdefg") from rfl))
   refine e_comp2 (ldg S rfl rfl rfl rfl hvN (it_names S fun it s N S=>?_)) (fun i=>rfl) rfl rfl (by decide)
   refine comp2_go (items:=List.range 7) (fun C=>Its.n N rfl rfl) O2.r (by decide) rfl (fun i i=>rfl)
    (fun d r out z'=>z8=z'∧∃ n,out=(List.replicate n true).map bAV∧n≤2 * d.length) S ⟨rfl,0,rfl,Nat.le_refl _⟩ ?turn2 ?fin2
   case turn2=>
    rintro d k r out z9 mc C D s hd hz9 ⟨rfl,n,rfl,hn⟩ S E'
    have hk7:k<7:=List.mem_range.mp (hd▸List.mem_append_right _ (.head _))
    have hdl:d.length<7:=by refine (?_:_→_) (congrArg List.length hd);intro this;rw [List.length_append,List.length_range] at this;simp at this;exact ar204 this
    have S:=S.fr_weak (m':=[("name",.s (nm k))]) ⟨by rw [lk_setl,if_pos rfl],trivial⟩
    refine e_go ⟨rfl,rfl,rfl,O2.r⟩ S ?_
    intro D3 O3
    refine lf_ldc O3 5 rfl (lf_d (.fz (hjd.mono hz08)) (JobsAt.lk hk7) (lf_tup (n:=2) (.fz ((hjk k hk7).1.mono hz08)) rfl (by simp) fun v s hv S=>?_))
    cases hv
    refine it_nF S ((hjk k hk7).2.mono hz08) fun it2 s N2 S=>?_
    refine (?_:_→_) (hJ.wl k hk7)
    intro hwl
    refine comp_inner (items:=(J k).waits) (Its.n N2 rfl rfl) rfl O2.r (fun d2 r2 out2 z9 mc2=>mc2=([("name",.s (nm k))]:Loc)∧z8=z9∧∃ n,out2=(List.replicate n true).map bAV∧n≤2 * d.length+d2.length∧d2.length≤2)
     (by rintro d2 r2 out2 z9 mc2 ⟨_,_,n2,rfl,h1,h2⟩;rw [List.length_map,List.length_replicate];exact ar350 h1 hdl h2) S ⟨rfl,rfl,n,rfl,by simp;exact ar189 hn,by simp⟩ ?turn3 ?fin3
    case turn3=>
     rintro d2 x r2 out2 z9 mc2 s hd2 hz9 ⟨rfl,rfl,n2,rfl,hn2,hd2l⟩ S E''
     refine (?_:(x∈(J k).waits)→_) (hd2▸List.mem_append_right _ (.head _))
     intro hxw
     refine (?_:(x<7)→_) (hJ.wk k hk7 x hxw)
     intro hx7
     refine (?_:_→_) (congrArg List.length hd2)
     intro hlen2
     rw [List.length_append,List.length_cons] at hlen2
     refine (?_:((all.map nm).length≤1000)→_) (by rw [List.length_map];exact ar128 hall)
     intro hl1000
     refine (?_:_→_) (hOK.before hk7 hxw)
     intro hlt
     refine e_go ⟨rfl,rfl,rfl,O2.r⟩ S ?_
     intro D4 O4
     refine lf_ldc O4 4 rfl (lf_gml (.fz hl) PySem.F.slot_list_index PySem.F.type_list_index (lf_index (.fz hl) (List.mem_map.mpr ⟨x,hOK.all x hx7,rfl⟩) hl1000 (lf_ldc O4 4 rfl (lf_gml (.fz hl) PySem.F.slot_list_index PySem.F.type_list_index (lf_index (.fz hl) (List.mem_map.mpr ⟨k,hOK.all k hk7,rfl⟩) hl1000 (lf_lt fun v s hv S=>?_))))))
     cases hv
     rw [idxOf_nm,idxOf_nm]
     refine ⟨bAV true,_,_,congrArg Value.bool (decide_eq_true (Int.ofNat_lt.mpr hlt)),Sub.refl _,⟨rfl,rfl,n2+1,?_,by rw [List.length_append];show _≤_+(_+1);exact ar423 hn2 hlen2 hwl,by rw [List.length_append];show _+1≤_;exact ar357 hlen2 hd2l hwl⟩,S.fr_weak ⟨rfl,trivial⟩⟩
     rw [List.replicate_succ',List.map_append];rfl
    case fin3=>
     rintro out2 z9 mc2 s hz9 ⟨rfl,rfl,n2,rfl,hn2,hd2l⟩ S
     rw [List.append_nil] at S
     exact ⟨rfl,_,_,_,Sub.refl _,⟨rfl,n2,rfl,by rw [List.length_append];show _≤2 * (_+1);exact ar86 hn2 hwl⟩,S⟩
   case fin2=>
    rintro out z9 D s hz9 ⟨rfl,n,rfl,hn⟩ S
    rw [List.append_nil] at S
    refine kq _ _ _ _ _ _ is_v (lf_all O2 (.own 0 rfl) fun f s hf S=>?_) S
    obtain ⟨v,rfl,hv⟩:=hf
    cases hv
    have hat:(List.replicate n true).all id=true:=by simp
    rw [hat]
    exact K z8 (G.push .finished) _ hz08 (fun y hy=>(Array.mem_push.mp hy).elim (hg y) fun h=>h▸rfl) (S.sub (List.sublist_append_right [_,_,_,_,_,_] Δ))
end
section
variable {w:World} {A:Around} {ρ:Rest} {z:Z} {Δ:Ds}
theorem lf_any {C:Cx} {m:Loc} {l:Addr} {bs:List Bool} {K:AV→SP} (O:C.Ok) (h:OF z Δ l (ListO (bs.map bAV))) (k:K (.v (.bool (bs.any id))) z m Δ):LC C (.v (.builtin "any")) [.v (.ref l)] z m Δ K:=
 lc1 (T.step k fun S q=>b_any S O.r (h.has S) fun s' S'=>q _ s' is_v S')
theorem lf_ned {C:Cx} {m:Loc} {a b:Addr} {kv kv':Loc} {n:Nat} {K:AV→SP} (R:Room C.A n) (ha:OF z Δ a (DictO C.w kv)) (hb:OF z Δ b (DictO C.w kv')) (la:(a == sysModules)=false) (lb:(b == sysModules)=false)
 (hl:kv.length=kv'.length) (H:∀ p∈kv,∃ n:Int,p.2=.i n∧lk kv' p.1=some (.i n)) (k:K (.v (.bool false)) z m Δ):L2 C AV.is (compareOp .NotEq) (.v (.ref a)) (.v (.ref b)) z m Δ K:=
  l2vv (fun E s Q S kk=>c_ned R (ha.has S) (hb.has S) la lb hl H (kk _ _ _ _ _ _ is_v k S))
theorem sorter_T {J:Jobs} (hJ:JOk J) {a f:Addr} {fl:List Nat} {fs:List Env} {K:AV→Z→Ds→Prop} (hj:JobsAt w z J a) (hf:Fz z f (ListO (nAVs fl))) (hfl:FreeSpec J fl) (R:Room A 9) (hfr:A.frames=some fs) (hF:Frs fs Δ)
 (k:∀ sa r z',Sub z z'→POk w z' sa (gAll J).order (gAll J).su→K (.v (.ref sa.x)) z' (postE sa r (gAll J).order ⟨fun k=>((gAll J).np k:Int),rdOf (gAll J).np (gAll J).order,0,0⟩++Δ)):CF w ρ A 184 [.v (.ref a),.v (.ref f)] z Δ K:=
  ⟨fun xs hxs E s Q S q=>by
   obtain _ | ⟨hv,_ | ⟨hu,_ | _⟩⟩:=hxs;cases hv;cases hu
   exact law_sorter_spec hJ S hj hf hfl R hfr hF fun sa r z' s' h1 h2 S'=>q _ _ _ _ _ is_v (k sa r z' h1 h2) S'⟩
theorem heaps_T {J:Jobs} {fl:List Nat} (hJ:JOk J) (hfl:FreeSpec J fl) {a r0:Addr} {sa:SA} {W:Nat} {K:AV→Z→Ds→Prop} (hW:1≤W) (hW7:W≤7) (ok:POk w z sa (gAll J).order (gAll J).su) (hj:JobsAt w z J a) (R:Room A 6)
 (k:∀ q z' T vs,Sub z z'→FinAt J W T→RowL z' vs (Pl J W (T+1))→K (.v (.ref q)) z' ((q,ListO vs)::Δ)):CF w ρ A 191 [.v (.ref sa.x),.v (.ref a),.i (.ofNat W)] z (postE sa r0 (gAll J).order ⟨fun k=>((gAll J).np k:Int),rdOf (gAll J).np (gAll J).order,0,0⟩++Δ) K:=
  ⟨fun xs hxs E s Q S q=>by
   obtain _ | ⟨hv,_ | ⟨hu,_ | ⟨⟨t,rfl⟩,_ | _⟩⟩⟩:=hxs;cases hv;cases hu
   exact heaps_law hJ hfl hW hW7 S ok hj R fun r z' s' T vs h1 h2 h3 S'=>q _ _ _ _ _ is_v (k r z' T vs h1 h2 h3) S'⟩
theorem lists_T {J:Jobs} {fl:List Nat} (hJ:JOk J) (hfl:FreeSpec J fl) {a:Addr} {W:Nat} {K:AV→Z→Ds→Prop} (hW:1≤W) (hW7:W≤7) (hj:JobsAt w z J a) (R:Room A 6)
 (k:∀ q z' T vs,Sub z z'→FinAt J W T→RowL z' vs (Pl J W (T+1))→K (.v (.ref q)) z' ((q,ListO vs)::Δ)):CF w ρ A 196 [.v (.ref a),.i (.ofNat W)] z Δ K:=
  ⟨fun xs hxs E s Q S q=>by
   obtain _ | ⟨hv,_ | ⟨⟨t,rfl⟩,_ | _⟩⟩:=hxs;cases hv
   exact lists_law hJ hfl hW hW7 S hj R fun r z' s' T vs h1 h2 h3 S'=>q _ _ _ _ _ is_v (k r z' T vs h1 h2 h3) S'⟩
end
noncomputable def law_holds.tw3177824431656755449:PySem.Program:=PySem.Challenge.pw_ir0007_01
theorem law_holds.te3177824431656755449:PySem.Challenge.pw_ir0007_01=law_holds.tw3177824431656755449:=rfl
set_option tactic.hygienic true in
set_option Elab.async true in
theorem law_holds:PySem.Challenge.rw_ir0007_01.Holds:=by
 set_option synthInstance.maxSize 1 in (w_on;o_law;k_head)
 case hw=>w_witness2
 k_fill
 intro w s₀ s₁ mg mb G Y fa o pm cd doc dV kV ho hd' hcd hD hmg hg args vals as hpre hlay hrd hwl hlo
 have KX:(hdp.heap_1_39 w.params).In _:=kIn_of Y
 have X:=(Ground.X G).1
 have V:=(Ground.X G).2
 refine Ground.open G ?_
 intro T B D TE TW
 refine (let Gl:Prop:=_;(?_:Gl))
 obtain ⟨wa,wo,M⟩:=bmod_of_top T
 have TA:=at_of_top T
 try (obtain ⟨cd1,w7,he,B0⟩:=based_of_top T rfl hmg ho hd';have he':cd=_:=he;subst he';clear he)
 wrow_args hpre hlay hrd hwl hlo
 refine enter_call ?_
 w_top on
 have K0:=below_caller (Top.heap T)
 w_call any ho hd' hcd hD T F
 k_drop
 (all_goals try k_fold)
 rename_i xs hs hlay0 hL1 hr1 hl2 w5 w4 sc vs w1 hL ra w1' r0 hI hr hmost hcond h₁ tk₁ ob hcell N0 X0
 have S:=law_start (tk:=tk₁) KX T F rfl N0 hcell rfl
 have hscF:Fz (fun a=>s₁.heap.get? a) sc (SeqL (iAVs xs)):=by
  refine (let Gl:Prop:=_;(?_:Gl))
  obtain ⟨ol,el,c1,n,c2⟩:=hL
  exact ⟨ol,el,c1,_,n,c2,by simpa using ints_ARel hI⟩
 have hxl:xs.length≤63:=by lia
 have K:∀ (z':Z) (Δ':Ds) (g':Array GenState) (s':Shared),AllBare g'→St w ⟨s₁.heap,g',s₁.drawn,s₁.os⟩ z' Δ' s'→qk (.ret (.bool true)) s':=fun z' Δ' g' s' hb S=>law_end (fun c=>rfl) (by first | with_unfolding_all rfl | decide | simp) S hb
 have hgb:AllBare s₁.gens:=by rw [hg];exact AllBare.empty
 generalize hA:callerA.deeper _=A
 have R:Room A 24:=hA▸caller_room _
 have hfr:=(congrArg Around.frames hA).symm.trans (caller_frames _ caller_fr)
 generalize hLL:s₁.heap.objs.size=L at *
 have hF:∀ {env:Env} {m:Loc} {Δ':Ds},env.scope.kind=.function→env.frame=some L→(L,FrO m)∈Δ'→Frs [env] Δ':=fun {env m Δ'} h1 h2 hm e he=>by
  rw [List.mem_singleton.mp he]
  exact ⟨(by rw [h1];intro h;cases h),L,FrO m,h2,hm,FrP.fr m⟩
 refine ss_cut 10 ⟨rfl,rfl,rfl,R.le (Nat.zero_le _)⟩ S ?_
 intro C O
 refine lf_tcl O ?_
 refine lc_pre fun Δ'=>law_jobs_T hscF hxl (R.le (by decide)) fun q jd J W z1 hz1 hq hj hJ hW1 hW3=>⟨[],rfl,?_⟩
 refine lf_unp O (.fz hq) rfl rfl ?_
 refine lf_stc O 0 rfl ?_
 refine lf_ldc O 0 rfl (lc_pre fun Δ'=>law_free_T hJ hj (R.le (by decide)) fun f fl hfl=>⟨[_],rfl,?_⟩)
 refine lf_swap (ns:=["sorter","wide"]) O rfl ?_
 refine lf_ldc O 1 rfl (LC.fz 0 rfl fun z2 hz2 hf=>lc_preF (sorter_T hJ (hj.mono hz2) hf hfl (R.le (by decide)) hfr (hF rfl rfl (.head _)) fun sa ra z3 hz3 ok1=>⟨_,rfl,?_⟩))
 refine L0.wk (.perm (List.perm_append_comm (l₁:=[_]))) (lf_ldc O 0 rfl ?_)
 refine lc_preF (sorter_T hJ (hj.mono (hz2.trans hz3)) (hf.mono hz3) hfl (R.le (by decide)) hfr (hF rfl rfl (.head _)) fun sb rb z4 hz4 ok2=>⟨_,rfl,?_⟩)
 refine ⟨lf_isn (it_f rfl (lf_isn (it_f rfl (it_f rfl ?_))))⟩
 have hz46:=hz4
 refine lf_swap (ns:=["plan","chains"]) O rfl ?_
 refine L0.wk (.perm (List.perm_append_comm (l₁:=_::postE sa ra _ _))) (lf_ldc O 0 rfl ?_)
 refine lc_blk 1 (B:=postE sa ra (gAll J).order ⟨fun k=>((gAll J).np k:Int),rdOf (gAll J).np (gAll J).order,0,0⟩) rfl fun Δ'=>heaps_T hJ hfl hW1 (by lia) (ok1.mono hz4) (hj.mono (hz2.trans (hz3.trans hz4))) (R.le (by decide)) fun lp z6 T vs1 hz6 hT1 hvs1=>⟨[_],rfl,?_⟩
 have hz26:=hz3.trans (hz4.trans hz6)
 refine lf_ldc O 0 rfl (lc_pre fun Δ'=>law_chains_T hJ (hj.mono (hz2.trans hz26)) (hf.mono hz26) hfl (R.le (by decide)) fun cd2=>⟨[_],rfl,?_⟩)
 refine ⟨L2.big 0 rfl fun hbig=>L2.fz 0 rfl fun z7 hz7 hch=>L2.fz 1 rfl fun z8 hz8 hlp=>lf_isn (it_f rfl ?_)⟩
 have hz28:=hz26.trans (hz7.trans hz8)
 refine lf_ldc O 0 rfl (lc_pre fun Δ'=>lists_T hJ hfl hW1 (by lia) (hj.mono (hz2.trans hz28)) (R.le (by decide)) fun l2 z10 T2 vs2 hz10 hT2 hvs2=>⟨[_],rfl,?_⟩)
 have hP:=PI.all (W:=W) hJ.dur1 hfl (T+1)
 have hPn:∀ r∈Pl J W (T+1),r.n<7:=fun r hr=>hfl.lt _ (hP.f r hr)
 rw [fin_same hJ.dur1 hfl hW1 hT2 hT1] at hvs2
 have hz610:=hz7.trans (hz8.trans hz10)
 have hvs1':=hvs1.mono hz610
 have hlp':=hlp.mono hz10
 refine lf_nel (n:=2) (R.le (by decide)) (.fz hlp') (.own 0 rfl) hvs1'.rds hvs2.rds (rowD_can hPn) (rowD_can hPn) (rowD_dep _) ?_
 rw [rowD_eqv]
 refine it_f rfl ?_
 refine (let Gl:Prop:=_;(?_:Gl))
 obtain ⟨qs,e1,e2,hqs⟩:=hvs1'.qs
 rw [e1] at hlp' hvs1'
 have hq7:qs.length≤7:=by have:=hP.len hfl;rw [e2,List.length_map] at this;exact this
 have hfl7:fl.length≤7:=nodup_len hfl.nd hfl.lt
 refine lf_comp O (lf_lkF (ns:=["row"]) (f:=fun p:Addr×Row=>[qAV p]) O (src_lF hlp' (fun c h=>ARel.prOf (g:=qAV) (fun c c h=>h) h) fun c c N Cc=>Its.rown N rfl rfl) (fun c=>true) (fun p=>.s (nm p.2.n)) (F_map (fun p:Addr×Row=>nm p.2.n) AV.s) (Nat.le_trans hq7 (by decide)) ?c1 ?f1 (by rw [List.append_nil];exact wkr))
 case c1=>
  intro d p r Cc D jt hd Kt Ks hk hs C2 O2
  refine lf_tup (n:=0) (.fz (hqs p (hd▸List.mem_append_right _ (.head _)))) rfl (by simp) ?_
  exact hk rfl _ _ wkr
 case f1=>
  intro D
  have hf10:=hf.mono (hz28.trans hz10)
  have hf10':=hf10
  rw [nAVs_s] at hf10'
  refine lf_srt (.own 0 rfl) (by rw [List.length_map];lia) fun q5 ys1 hp1 hs1=>?_
  refine lf_srt (.fz hf10') (by rw [List.length_map];lia) fun q6 ys2 hp2 hs2=>?_
  have hperm:(qs.map fun p=>p.2.n).Perm fl:=by
   have:=fin_names hJ.dur1 hfl hW1 hT1
   rw [e2,List.map_map] at this
   exact this
  have hyy:ys1=ys2:=names_uniq (a:=qs.map fun p=>p.2.n) (b:=fl) (by rw [List.map_map];exact hp1) hp2 hperm hs1 hs2
  subst hyy
  have hok:∀ y∈ys1,PyData.strOk y=true:=fun y hy=>by
   obtain ⟨k,hk,rfl⟩:=List.mem_map.mp (hp2.subset hy)
   exact nm_ok k (hfl.lt k hk)
  refine lf_nel (n:=2) (R.le (by decide)) (.own 1 rfl) (.own 0 rfl) (rds_s ys1) (rds_s ys1) (can_s hok) (can_s hok) (dep_s _) ?_
  rw [eqv_s,decide_eq_true rfl]
  refine it_f rfl (it_f rfl ?_)
  have hj10:=hj.mono (hz2.trans (hz28.trans hz10))
  have hch10:=hch.mono (hz8.trans hz10)
  refine ⟨lf_ldc O 4 rfl (lc_pure fun Δ'=>bounds_T hJ hlp' hvs1' hj10 hch10 hbig hfl.lt hfl7 (Nat.le_trans (hP.len hfl) (by decide)) hW1 (by lia) (e_bound hJ hfl hW1 hT1) (ch_bound hJ hfl) (R.le (by decide)) (fun wh lo h1 h2=>plan_bounds hJ.dur1 hfl hW1 hT1 h1 h2) ⟨rfl,it_f rfl ?_⟩)⟩
  refine lf_ldc O 4 rfl (lc_blk 5 (B:=postE sb rb (gAll J).order ⟨fun k=>((gAll J).np k:Int),rdOf (gAll J).np (gAll J).order,0,0⟩) (Δ0:=[]) (List.append_nil _).symm fun Δ'=>heaps_T (W:=7) hJ hfl (by decide) (by decide) (ok2.mono (hz6.trans hz610)) hj10 (R.le (by decide)) fun lb z13 TB vs3 hz13 hTB hvs3=>⟨[_],rfl,?_⟩)
  refine ⟨L2.fz 5 rfl fun z14 hz14 hlb=>lf_isn (it_f rfl ?_)⟩
  have hvs3:=hvs3.mono hz14
  refine (let Gl:Prop:=_;(?_:Gl))
  obtain ⟨qs3,e3,e4,hqs3⟩:=hvs3.qs
  rw [e3] at hlb hvs3
  have hP7:=PI.all (W:=7) hJ.dur1 hfl (TB+1)
  have hlen3:qs3.length≤20:=by have:=hP7.len hfl;rw [e4,List.length_map] at this;lia
  have hz1014:=hz13.trans hz14
  refine lf_comp O (lf_lk0 (ns:=["row"]) (f:=fun p:Addr×Row=>[qAV p]) O (src_lF hlb (fun c h=>ARel.prOf (g:=qAV) (fun c c h=>h) h) fun c c N Cc=>Its.rown N rfl rfl) (fun d out z'=>PairsL z' out (d.map fun p=>(nm p.2.n,AV.i (p.2.e:Nat)))) (Nat.le_trans hlen3 (by decide)) .nil ?c2 ?f2)
  case c2=>
   intro d p r out z' Cc D jt hd hz hout Kt Ks hk hs C2 O2
   have hpq:=(hqs3 p (hd▸List.mem_append_right _ (.head _))).mono hz
   refine lf_tup (n:=0) (.fz hpq) rfl (by simp) (lf_tup (n:=2) (.fz hpq) rfl (by simp) ?_)
   refine fun q4 z16 hz16 hq4=>hk _ _ _ _ hz16 ?_ wkr
   show PairsL _ _ (List.map _ (d++[p]))
   rw [List.map_append]
   exact (hout.mono hz16).snoc hq4
  case f2=>
   intro out z15 D2 hz15 hout
   have hkeys:((qs3.map fun p=>(nm p.2.n,AV.i (p.2.e:Nat))).map (·.1)).Nodup:=by
    have:=hP7.nd
    rw [e4,List.map_map] at this
    rw [List.map_map]
    exact List.pairwise_map.mpr ((List.pairwise_map.mp this).imp fun h e=>h (nm_inj e))
   refine LC.fz 0 rfl fun z16 hz16 hD2=>lf_dictp hD2 (hout.mono hz16) hkeys (by rw [List.length_map];lia) (R.le (by decide)) fun dd hdd=>?_
   have hperm3:(qs3.map fun p=>p.2.n).Perm fl:=by
    have:=fin_names hJ.dur1 hfl (by decide) hTB
    rw [e4,List.map_map] at this
    exact this
   have hz1416:=hz15.trans hz16
   have hz1016:=hz1014.trans hz1416
   refine lf_ned (n:=0) (R.le (by decide)) (.own 0 rfl) (.fz (hch10.mono hz1016)) hdd hbig ?_ ?_ (it_f rfl ?_)
   ·have:=hperm3.length_eq
    simpa [kvC] using this
   ·intro p hp
    obtain ⟨r,hr,rfl⟩:=List.mem_map.mp hp
    have hrr:r.2∈Pl J 7 (TB+1):=e4▸List.mem_map.mpr ⟨r,hr,rfl⟩
    refine ⟨(r.2.e:Nat),rfl,?_⟩
    rw [wide_eq hJ.dur1 hfl hP7 r.2 hrr]
    exact lk_names (f:=fun k=>AV.i (chOf J fl k:Nat)) (hP7.f _ hrr)
   refine it_f rfl ?_
   have hj16:=hj10.mono hz1016
   refine (let Gl:Prop:=_;(?_:Gl))
   obtain ⟨ts,ws,hjd,hjk⟩:=id hj16
   refine ⟨lf_comp O (lf_lkF (ns:=["name","begin","end","worker"]) (f:=rowAV) O (src_lF (hlb.mono hz1416) (fun c h=>(hvs3.mono hz1416).pr h) fun c c N Cc=>Its.row N rfl rfl rfl rfl rfl) (fun c=>true) (fun c=>bAV false) (F_map (fun c=>false) bAV) (by rw [e4,List.length_map];lia) ?c3 ?f3 (by rw [List.append_nil];exact wkr))⟩
   case c3=>
    intro d i r Cc D jt hd Kt Ks hk hs C2 O2
    have hi:i∈Pl J 7 (TB+1):=hd▸List.mem_append_right _ (.head _)
    have hi7:i.n<7:=hfl.lt _ (hP7.f i hi)
    refine lf_ldc O2 7 rfl (lf_d (.fz hjd) (JobsAt.lk hi7) (lf_tup (n:=0) (.fz (hjk i.n hi7).1) rfl (by simp) (lf_ne ?_)))
    have he:=hP7.e i hi
    rw [show ((i.e:Int) - (i.b:Int) != ((J i.n).dur:Int))=false from by rw [he];simp;lia]
    exact hk rfl _ _ wkr
   case f3=>
    intro D
    refine lf_any O (.own 0 rfl) ?_
    rw [show ((Pl J 7 (TB+1)).map fun c=>false).any id=false from by simp]
    refine it_f rfl ?_
    refine fun s S=>?_
    refine ss_ret_or (C:=C) O S ?_
    intro C O
    refine lf_len (.fz (hf10.mono hz1016)) (by rw [List.length_map];lia) (lf_lt fun s S=>?_)
    have eL:(nAVs fl).length=fl.length:=List.length_map ..
    rw [eL]
    generalize hlt:decide (Int.ofNat fl.length<7)=b
    cases b with
    | true=>exact fun v hv=>by cases hv;exact K _ _ _ _ hgb S
    | false=>
     have h7:fl.length=7:=by have:=of_decide_eq_false hlt;have:¬ ((fl.length:Nat):Int)<7:=this;lia
     refine call_out (C:=C) O S rfl ⟨rfl,?_⟩
     refine lf_ldc O 6 rfl (fun ys s2 hys S=>?_)
     obtain _ | ⟨hv,_ | _⟩:=hys
     cases hv
     exact order_right_spec hJ hfl h7 S hj16 (R.le (by decide)) hfr (hF rfl rfl (.head _)) hgb fun z18 g' s hz18 hb S=>K _ _ _ _ hb S
end LW
theorem PySem.Challenge.cw_ir0007_01_holds : PySem.Challenge.rw_ir0007_01.Holds :=
 LW.law_holds
